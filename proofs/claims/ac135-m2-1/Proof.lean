import JvmDerived
import JvmDerived.Pilot.@@N@@Statement
import JvmDerived.Pilot.@@N@@Code
set_option linter.unusedVariables false
set_option linter.unusedSimpArgs false
set_option maxRecDepth 65536
namespace Jvm.Pilot.@@N@@
open Jvm Jvm.ClassFile Sem Op Lib Jvm.Free Jvm.Stand Jvm.LawKit Jvm.RoadKit Bundle
/-! THE WALK's OWN LAYER: one predicate (Wk) for 'the walk stands at this frame', one lemma a step. -/
/-- a comparison of closed numbers -/
theorem nle {a b : Nat} (h : Nat.ble a b = true := by rfl) : a ≤ b := Nat.le_of_ble_eq_true h
section OwnWk
/-- the walk of y's body stands at the frame g, its heap h, its tables V; it has come from S0 -/
def Wk (p : Program) (l : Launch) (e : Env) (R : Room) (s : State) (m : MethodId) (args : Array Value) (below : List Frame) (meth : Method) (c : Code) (Z : State) (a0 : Array Value) (EL : List (String × Nat)) (S0 : State) (y : MethodName) (B : ByteArray) (ml : Nat) (ret : Option FieldType) (V : Vm) (h : Heap) (cl sl : Nat) (g : JFrame) : Prop :=
 (p.tables.exec = Jvm.exec ∧ c.code = B ∧ c.maxLocals = ml ∧ meth.sig.returnType = ret ∧ meth.locks = false ∧ Z.vm.findClass y.cls = some m.cls ∧ meth.name = y.name ∧ EW Z a0 EL) ∧
 (Z.Warmed39 V ∧ CHr Z EL s.vm s.heap V h ∧ Ext Z.heap h) ∧
 ∃ (T : State) (locs : List Loc) (k0 : Nat), Stand p l e R (s.setVm V) m args below meth c T locs cl sl ∧ T.heap = h ∧ s.Since V k0 ∧ k0 ≤ h.size ∧ Fr Z.heap.size locs ∧ ∀ t, Steps p.tables e below (T.setTop g) t → Steps p.tables e below S0 t
/-- the walk that began at S0 comes back, with Q of what it returns and leaves; k new cells, n new slots at the most -/
def Fini (p : Program) (e : Env) (below : List Frame) (s : State) (Z : State) (EL : List (String × Nat)) (S0 : State) (k n : Nat) (Q : Option Value → Heap → Prop) : Prop :=
 ∃ (s₂ : State) (o : Outcome), Steps p.tables e below S0 s₂ ∧ s₂.status = .running ∧ Ended s₂ below o ∧ ∃ (v : Option Value) (L : List Loc), o = .returned v ∧ Q v s₂.heap ∧ Ext Z.heap s₂.heap ∧ Fr Z.heap.size L ∧ CHr Z EL s.vm s.heap s₂.vm s₂.heap ∧ ReturnedEndW s o s₂ L k n
/-- a contract of y -/
def Met (l : Launch) (Z : State) (EL : List (String × Nat)) (y : MethodName) (B : ByteArray) (ml : Nat) (ret : Option FieldType) (ws : List Jvm.Cond) (rm : Room) (as' : Array Value) (h : Heap) (sf : List Addr) (Q : Option Value → Heap → Prop) : Prop :=
 MetFree l y (head1 (Jvm.Cond.code y B ml ret :: ws) rm) (fun a U => a = as' ∧ Z.Warmed39 U.vm ∧ U.heap = h ∧ CHv Z EL U.vm h ∧ ∀ x ∈ sf, Safe Z EL U.vm h x) (fun _ _ _ _ _ => True)
   (fun _ U o U' => ∃ (v : Option Value) (L : List Loc), o = .returned v ∧ Q v U'.heap ∧ Ext Z.heap U'.heap ∧ Fr Z.heap.size L ∧ CHr Z EL U.vm U.heap U'.vm U'.heap ∧ ReturnedEndW U o U' L rm.cells rm.slots)
variable {p : Program} {l : Launch} {e : Env} {R : Room} {s : State} {m : MethodId} {args : Array Value} {below : List Frame} {meth : Method} {c : Code} {Z : State} {a0 : Array Value} {EL : List (String × Nat)} {S0 : State} {y : MethodName} {B : ByteArray} {ml : Nat} {ret : Option FieldType} {V : Vm} {h : Heap} {cl sl : Nat}
theorem Met.of {ws : List Jvm.Cond} {rm : Room} {as' : Array Value} {sf : List Addr} {Q : Option Value → Heap → Prop} (hpl : plainFor y = true) (hEL : EW Z a0 EL) (hx : Ext Z.heap h)
   (body : ∀ (p : Program) (e : Env) (s : State) (m : MethodId) (below : List Frame) (meth : Method) (c : Code) (S0 : State) (V : Vm), Wk p l e rm s m as' below meth c Z a0 EL S0 y B ml ret V h 0 0 (entryFrame m as' ml) → s.heap = h → (∀ x ∈ sf, Safe Z EL V h x) → Fini p e below s Z EL S0 rm.cells rm.slots Q) :
   Met l Z EL y B ml ret ws rm as' h sf Q := by
 refine MetFree.of_bodySF hpl hisR ?_
 intro p e s m args below meth c s₁ Bd hml0 hP hK
 obtain ⟨rfl, hZ, hh, hC, hsf⟩ := hP
 have X0 : Stand p l e rm s m args below meth c s₁ [] 0 0 := Stand.of_body Bd
 have e0 : s₁.heap = h := by rw [← hh, Bd.state]; rfl
 have hown : s.vm.findClass y.cls = some m.cls := findClass_of_methodNamed Bd.named
 subst hh
 exact body p e s m below meth c (s₁.setTop (entryFrame m args ml)) s.vm
   ⟨⟨Bd.exec, Bd.bytes, hml0, Bd.returns, Bd.notSynchronized, by rw [← hZ.alike.findClass]; exact hown, (name_of_methodNamed Bd.named Bd.method).1, hEL⟩, ⟨hZ, CHr.refl hC, hx⟩, s₁, [], s.heap.size, X0, e0, (State.WarmedH.refl s).since _, Nat.le_refl _, Fr.nil _, fun t k => k⟩ rfl hsf
theorem Wk.hZ {g : JFrame} (w : Wk p l e R s m args below meth c Z a0 EL S0 y B ml ret V h cl sl g) : Z.Warmed39 V := w.2.1.1
theorem Wk.ch {g : JFrame} (w : Wk p l e R s m args below meth c Z a0 EL S0 y B ml ret V h cl sl g) : CHv Z EL V h := w.2.1.2.1.1
theorem Wk.old {g : JFrame} (w : Wk p l e R s m args below meth c Z a0 EL S0 y B ml ret V h cl sl g) : Ext Z.heap h := w.2.1.2.2
theorem Wk.zsz {g : JFrame} (w : Wk p l e R s m args below meth c Z a0 EL S0 y B ml ret V h cl sl g) : Z.heap.size ≤ h.size := w.2.1.2.2.1
theorem Wk.el {g : JFrame} (w : Wk p l e R s m args below meth c Z a0 EL S0 y B ml ret V h cl sl g) : EW Z a0 EL := w.1.2.2.2.2.2.2.2
/-- one plain step -/
theorem Wk.st {g g' : JFrame} (w : Wk p l e R s m args below meth c Z a0 EL S0 y B ml ret V h cl sl g)
   (k : ∀ (T : State) (t : State), At T m c below → p.tables.exec = Jvm.exec → c.code = B → Steps p.tables e below (T.setTop g') t → Steps p.tables e below (T.setTop g) t) : Wk p l e R s m args below meth c Z a0 EL S0 y B ml ret V h cl sl g' := by
 obtain ⟨hf, hz, T, locs, k0, X, e0, h1, h2, h3, st⟩ := w
 exact ⟨hf, hz, T, locs, k0, X, e0, h1, h2, h3, fun t hr => st t (k T t X.here hf.1 hf.2.1 hr)⟩
/-- a step that asks the Stand, and leaves it -/
theorem Wk.stX {g g' : JFrame} (w : Wk p l e R s m args below meth c Z a0 EL S0 y B ml ret V h cl sl g)
   (k : ∀ (T : State) (locs : List Loc) (t : State), Stand p l e R (s.setVm V) m args below meth c T locs cl sl → T.heap = h → Steps p.tables e below (T.setTop g') t → Steps p.tables e below (T.setTop g) t) : Wk p l e R s m args below meth c Z a0 EL S0 y B ml ret V h cl sl g' := by
 obtain ⟨hf, hz, T, locs, k0, X, e0, h1, h2, h3, st⟩ := w
 exact ⟨hf, hz, T, locs, k0, X, e0, h1, h2, h3, fun t hr => st t (k T locs t X e0 hr)⟩
theorem Wk.to {g g' : JFrame} (w : Wk p l e R s m args below meth c Z a0 EL S0 y B ml ret V h cl sl g) (q : g = g' := by first | (simp [entryFrame, mkF, argsToLocals, Value.category]; done) | rfl) : Wk p l e R s m args below meth c Z a0 EL S0 y B ml ret V h cl sl g' := q ▸ w
theorem Wk.more {g : JFrame} {cl' sl' : Nat} (w : Wk p l e R s m args below meth c Z a0 EL S0 y B ml ret V h cl sl g) (q1 : cl ≤ cl') (q2 : sl ≤ sl') : Wk p l e R s m args below meth c Z a0 EL S0 y B ml ret V h cl' sl' g := by
 obtain ⟨hf, hz, T, locs, k0, X, r⟩ := w
 exact ⟨hf, hz, T, locs, k0, X.more q1 q2, r⟩

theorem Wk.iloadN {pc pc' : Nat} {L : Array Slot} {st : List Value} {k : Fin 4} {x : Int32} (w : Wk p l e R s m args below meth c Z a0 EL S0 y B ml ret V h cl sl (mkF m pc L st)) (hd : decode B pc = .ok (.iload_n k, 1)) (hl : L[k.val]? = some (.val (.int x))) (hp : pc + 1 = pc' := by rfl) : Wk p l e R s m args below meth c Z a0 EL S0 y B ml ret V h cl sl (mkF m pc' L (.int x :: st)) := by
 subst hp
 exact w.st fun T t X hx hB k => XS.iloadN X hx rfl (hb hB hd) hl k
theorem Wk.iload {pc pc' : Nat} {L : Array Slot} {st : List Value} {k : Nat} {x : Int32} (w : Wk p l e R s m args below meth c Z a0 EL S0 y B ml ret V h cl sl (mkF m pc L st)) (hd : decode B pc = .ok (.iload k, 2)) (hl : L[k]? = some (.val (.int x))) (hp : pc + 2 = pc' := by rfl) : Wk p l e R s m args below meth c Z a0 EL S0 y B ml ret V h cl sl (mkF m pc' L (.int x :: st)) := by
 subst hp
 exact w.st fun T t X hx hB k => XS.iload X hx rfl (hb hB hd) hl k
theorem Wk.aloadN {pc pc' : Nat} {L : Array Slot} {st : List Value} {k : Fin 4} {x : Value} (w : Wk p l e R s m args below meth c Z a0 EL S0 y B ml ret V h cl sl (mkF m pc L st)) (hd : decode B pc = .ok (.aload_n k, 1)) (hl : L[k.val]? = some (.val x)) (hv : x.isRef = true := by rfl) (hp : pc + 1 = pc' := by rfl) : Wk p l e R s m args below meth c Z a0 EL S0 y B ml ret V h cl sl (mkF m pc' L (x :: st)) := by
 subst hp
 exact w.st fun T t X hx hB k => XS.aloadN X hx rfl (hb hB hd) hl hv k
theorem Wk.aload {pc pc' : Nat} {L : Array Slot} {st : List Value} {k : Nat} {x : Value} (w : Wk p l e R s m args below meth c Z a0 EL S0 y B ml ret V h cl sl (mkF m pc L st)) (hd : decode B pc = .ok (.aload k, 2)) (hl : L[k]? = some (.val x)) (hv : x.isRef = true := by rfl) (hp : pc + 2 = pc' := by rfl) : Wk p l e R s m args below meth c Z a0 EL S0 y B ml ret V h cl sl (mkF m pc' L (x :: st)) := by
 subst hp
 exact w.st fun T t X hx hB k => XS.aload X hx rfl (hb hB hd) hl hv k
theorem Wk.istoreN {pc pc' : Nat} {L : Array Slot} {st : List Value} {k : Fin 4} {x : Int32} {L' : Array Slot} (w : Wk p l e R s m args below meth c Z a0 EL S0 y B ml ret V h cl sl (mkF m pc L (.int x :: st))) (hd : decode B pc = .ok (.istore_n k, 1)) (hl : storeLocals L k.val (.int x) = some L') (hp : pc + 1 = pc' := by rfl) : Wk p l e R s m args below meth c Z a0 EL S0 y B ml ret V h cl sl (mkF m pc' L' st) := by
 subst hp
 exact w.st fun T t X hx hB k => XS.istoreN X hx rfl (hb hB hd) rfl hl k
theorem Wk.istore {pc pc' : Nat} {L : Array Slot} {st : List Value} {k : Nat} {x : Int32} {L' : Array Slot} (w : Wk p l e R s m args below meth c Z a0 EL S0 y B ml ret V h cl sl (mkF m pc L (.int x :: st))) (hd : decode B pc = .ok (.istore k, 2)) (hl : storeLocals L k (.int x) = some L') (hp : pc + 2 = pc' := by rfl) : Wk p l e R s m args below meth c Z a0 EL S0 y B ml ret V h cl sl (mkF m pc' L' st) := by
 subst hp
 exact w.st fun T t X hx hB k => XS.istore X hx rfl (hb hB hd) rfl hl k
theorem Wk.astoreN {pc pc' : Nat} {L : Array Slot} {st : List Value} {k : Fin 4} {x : Value} {L' : Array Slot} (w : Wk p l e R s m args below meth c Z a0 EL S0 y B ml ret V h cl sl (mkF m pc L (x :: st))) (hd : decode B pc = .ok (.astore_n k, 1)) (hl : storeLocals L k.val x = some L') (hv : x.isRef = true := by rfl) (hp : pc + 1 = pc' := by rfl) : Wk p l e R s m args below meth c Z a0 EL S0 y B ml ret V h cl sl (mkF m pc' L' st) := by
 subst hp
 exact w.st fun T t X hx hB k => XS.astoreN X hx rfl (hb hB hd) rfl hv hl k
theorem Wk.astore {pc pc' : Nat} {L : Array Slot} {st : List Value} {k : Nat} {x : Value} {L' : Array Slot} (w : Wk p l e R s m args below meth c Z a0 EL S0 y B ml ret V h cl sl (mkF m pc L (x :: st))) (hd : decode B pc = .ok (.astore k, 2)) (hl : storeLocals L k x = some L') (hv : x.isRef = true := by rfl) (hp : pc + 2 = pc' := by rfl) : Wk p l e R s m args below meth c Z a0 EL S0 y B ml ret V h cl sl (mkF m pc' L' st) := by
 subst hp
 exact w.st fun T t X hx hB k => XS.astore X hx rfl (hb hB hd) rfl hv hl k
theorem Wk.iinc {pc pc' : Nat} {L : Array Slot} {st : List Value} {k : Nat} {cst : Int} {x : Int32} {L' : Array Slot} (w : Wk p l e R s m args below meth c Z a0 EL S0 y B ml ret V h cl sl (mkF m pc L st)) (hd : decode B pc = .ok (.iinc k cst, 3)) (hl : L[k]? = some (.val (.int x))) (hl' : storeLocals L k (.int (x + Int32.ofInt cst)) = some L') (hp : pc + 3 = pc' := by rfl) : Wk p l e R s m args below meth c Z a0 EL S0 y B ml ret V h cl sl (mkF m pc' L' st) := by
 subst hp
 exact w.st fun T t X hx hB k => XS.iinc X hx rfl (hb hB hd) hl hl' k
theorem Wk.iconst {pc pc' : Nat} {L : Array Slot} {st : List Value} {i : Int} (x : Int32) (w : Wk p l e R s m args below meth c Z a0 EL S0 y B ml ret V h cl sl (mkF m pc L st)) (hd : decode B pc = .ok (.iconst i, 1)) (hx0 : Int32.ofInt i = x := by rfl) (hp : pc + 1 = pc' := by rfl) : Wk p l e R s m args below meth c Z a0 EL S0 y B ml ret V h cl sl (mkF m pc' L (.int x :: st)) := by
 subst hp hx0
 exact w.st fun T t X hx hB k => XS.iconst X hx rfl (hb hB hd) k
theorem Wk.bipush {pc pc' : Nat} {L : Array Slot} {st : List Value} {i : Int} (x : Int32) (w : Wk p l e R s m args below meth c Z a0 EL S0 y B ml ret V h cl sl (mkF m pc L st)) (hd : decode B pc = .ok (.bipush i, 2)) (hx0 : (Int8.ofInt i).toInt32 = x := by rfl) (hp : pc + 2 = pc' := by rfl) : Wk p l e R s m args below meth c Z a0 EL S0 y B ml ret V h cl sl (mkF m pc' L (.int x :: st)) := by
 subst hp hx0
 exact w.st fun T t X hx hB k => XS.bipush X hx rfl (hb hB hd) k
theorem Wk.sipush {pc pc' : Nat} {L : Array Slot} {st : List Value} {i : Int} (x : Int32) (w : Wk p l e R s m args below meth c Z a0 EL S0 y B ml ret V h cl sl (mkF m pc L st)) (hd : decode B pc = .ok (.sipush i, 3)) (hx0 : (Int16.ofInt i).toInt32 = x := by rfl) (hp : pc + 3 = pc' := by rfl) : Wk p l e R s m args below meth c Z a0 EL S0 y B ml ret V h cl sl (mkF m pc' L (.int x :: st)) := by
 subst hp hx0
 exact w.st fun T t X hx hB k => XS.sipush X hx rfl (hb hB hd) k
theorem Wk.aconstNull {pc pc' : Nat} {L : Array Slot} {st : List Value}  (w : Wk p l e R s m args below meth c Z a0 EL S0 y B ml ret V h cl sl (mkF m pc L st)) (hd : decode B pc = .ok (.aconst_null, 1))  (hp : pc + 1 = pc' := by rfl) : Wk p l e R s m args below meth c Z a0 EL S0 y B ml ret V h cl sl (mkF m pc' L (.null :: st)) := by
 subst hp
 exact w.st fun T t X hx hB k => XS.aconstNull X hx rfl (hb hB hd)  k
theorem Wk.dup {pc pc' : Nat} {L : Array Slot} {st : List Value} {x : Value} (w : Wk p l e R s m args below meth c Z a0 EL S0 y B ml ret V h cl sl (mkF m pc L (x :: st))) (hd : decode B pc = .ok (.dup, 1)) (hc : x.category = 1 := by rfl) (hp : pc + 1 = pc' := by rfl) : Wk p l e R s m args below meth c Z a0 EL S0 y B ml ret V h cl sl (mkF m pc' L (x :: x :: st)) := by
 subst hp
 exact w.st fun T t X hx hB k => XS.dup X hx rfl (hb hB hd) rfl hc k
theorem Wk.pop {pc pc' : Nat} {L : Array Slot} {st : List Value} {x : Value} (w : Wk p l e R s m args below meth c Z a0 EL S0 y B ml ret V h cl sl (mkF m pc L (x :: st))) (hd : decode B pc = .ok (.pop, 1)) (hc : x.category = 1 := by rfl) (hp : pc + 1 = pc' := by rfl) : Wk p l e R s m args below meth c Z a0 EL S0 y B ml ret V h cl sl (mkF m pc' L st) := by
 subst hp
 exact w.st fun T t X hx hB k => XS.pop X hx rfl (hb hB hd) rfl hc k
theorem Wk.iadd {pc pc' : Nat} {L : Array Slot} {st : List Value} {x yy : Int32} (w : Wk p l e R s m args below meth c Z a0 EL S0 y B ml ret V h cl sl (mkF m pc L (.int yy :: .int x :: st))) (hd : decode B pc = .ok (.iadd, 1))  (hp : pc + 1 = pc' := by rfl) : Wk p l e R s m args below meth c Z a0 EL S0 y B ml ret V h cl sl (mkF m pc' L (.int (x + yy) :: st)) := by
 subst hp
 exact w.st fun T t X hx hB k => XS.iadd X hx rfl (hb hB hd) rfl k
theorem Wk.isub {pc pc' : Nat} {L : Array Slot} {st : List Value} {x yy : Int32} (w : Wk p l e R s m args below meth c Z a0 EL S0 y B ml ret V h cl sl (mkF m pc L (.int yy :: .int x :: st))) (hd : decode B pc = .ok (.isub, 1))  (hp : pc + 1 = pc' := by rfl) : Wk p l e R s m args below meth c Z a0 EL S0 y B ml ret V h cl sl (mkF m pc' L (.int (x - yy) :: st)) := by
 subst hp
 exact w.st fun T t X hx hB k => XS.isub X hx rfl (hb hB hd) rfl k
theorem Wk.imul {pc pc' : Nat} {L : Array Slot} {st : List Value} {x yy : Int32} (w : Wk p l e R s m args below meth c Z a0 EL S0 y B ml ret V h cl sl (mkF m pc L (.int yy :: .int x :: st))) (hd : decode B pc = .ok (.imul, 1))  (hp : pc + 1 = pc' := by rfl) : Wk p l e R s m args below meth c Z a0 EL S0 y B ml ret V h cl sl (mkF m pc' L (.int (x * yy) :: st)) := by
 subst hp
 exact w.st fun T t X hx hB k => XS.imul X hx rfl (hb hB hd) rfl k
theorem Wk.iand {pc pc' : Nat} {L : Array Slot} {st : List Value} {x yy : Int32} (w : Wk p l e R s m args below meth c Z a0 EL S0 y B ml ret V h cl sl (mkF m pc L (.int yy :: .int x :: st))) (hd : decode B pc = .ok (.iand, 1))  (hp : pc + 1 = pc' := by rfl) : Wk p l e R s m args below meth c Z a0 EL S0 y B ml ret V h cl sl (mkF m pc' L (.int (x &&& yy) :: st)) := by
 subst hp
 exact w.st fun T t X hx hB k => XS.iand X hx rfl (hb hB hd) rfl k
theorem Wk.ixor {pc pc' : Nat} {L : Array Slot} {st : List Value} {x yy : Int32} (w : Wk p l e R s m args below meth c Z a0 EL S0 y B ml ret V h cl sl (mkF m pc L (.int yy :: .int x :: st))) (hd : decode B pc = .ok (.ixor, 1))  (hp : pc + 1 = pc' := by rfl) : Wk p l e R s m args below meth c Z a0 EL S0 y B ml ret V h cl sl (mkF m pc' L (.int (x ^^^ yy) :: st)) := by
 subst hp
 exact w.st fun T t X hx hB k => XS.ixor X hx rfl (hb hB hd) rfl k
theorem Wk.ishr {pc pc' : Nat} {L : Array Slot} {st : List Value} {x yy : Int32} (w : Wk p l e R s m args below meth c Z a0 EL S0 y B ml ret V h cl sl (mkF m pc L (.int yy :: .int x :: st))) (hd : decode B pc = .ok (.ishr, 1))  (hp : pc + 1 = pc' := by rfl) : Wk p l e R s m args below meth c Z a0 EL S0 y B ml ret V h cl sl (mkF m pc' L (.int (x >>> (yy &&& 31)) :: st)) := by
 subst hp
 exact w.st fun T t X hx hB k => XS.ishr X hx rfl (hb hB hd) rfl k
theorem Wk.iushr {pc pc' : Nat} {L : Array Slot} {st : List Value} {x yy : Int32} (w : Wk p l e R s m args below meth c Z a0 EL S0 y B ml ret V h cl sl (mkF m pc L (.int yy :: .int x :: st))) (hd : decode B pc = .ok (.iushr, 1))  (hp : pc + 1 = pc' := by rfl) : Wk p l e R s m args below meth c Z a0 EL S0 y B ml ret V h cl sl (mkF m pc' L (.int ((x.toUInt32 >>> (yy &&& 31).toUInt32).toInt32) :: st)) := by
 subst hp
 exact w.st fun T t X hx hB k => XS.iushr X hx rfl (hb hB hd) rfl k
theorem Wk.i2b {pc pc' : Nat} {L : Array Slot} {st : List Value} {x : Int32} (w : Wk p l e R s m args below meth c Z a0 EL S0 y B ml ret V h cl sl (mkF m pc L (.int x :: st))) (hd : decode B pc = .ok (.i2b, 1))  (hp : pc + 1 = pc' := by rfl) : Wk p l e R s m args below meth c Z a0 EL S0 y B ml ret V h cl sl (mkF m pc' L (.int (x.toInt8.toInt32) :: st)) := by
 subst hp
 exact w.st fun T t X hx hB k => XS.i2b X hx rfl (hb hB hd) rfl k
theorem Wk.i2c {pc pc' : Nat} {L : Array Slot} {st : List Value} {x : Int32} (w : Wk p l e R s m args below meth c Z a0 EL S0 y B ml ret V h cl sl (mkF m pc L (.int x :: st))) (hd : decode B pc = .ok (.i2c, 1))  (hp : pc + 1 = pc' := by rfl) : Wk p l e R s m args below meth c Z a0 EL S0 y B ml ret V h cl sl (mkF m pc' L (.int (x.toUInt32.toUInt16.toUInt32.toInt32) :: st)) := by
 subst hp
 exact w.st fun T t X hx hB k => XS.i2c X hx rfl (hb hB hd) rfl k
theorem Wk.goto {pc pc' : Nat} {L : Array Slot} {st : List Value} {o : Int} (w : Wk p l e R s m args below meth c Z a0 EL S0 y B ml ret V h cl sl (mkF m pc L st)) (hd : decode B pc = .ok (.goto o, 3)) (ho : 0 ≤ (pc : Int) + o := by decide) (hp : ((pc : Int) + o).toNat = pc' := by decide) : Wk p l e R s m args below meth c Z a0 EL S0 y B ml ret V h cl sl (mkF m pc' L st) := by
 subst hp
 exact w.st fun T t X hx hB k => XS.goto X hx rfl rfl (hb hB hd) ho rfl k
theorem Wk.ifYes {pc pc' : Nat} {L : Array Slot} {st : List Value} {cd : ClassFile.Cond} {o : Int} {x : Int32} (w : Wk p l e R s m args below meth c Z a0 EL S0 y B ml ret V h cl sl (mkF m pc L (.int x :: st))) (hd : decode B pc = .ok (.ifCond cd o, 3)) (hc : ifCond.holds cd x = true) (ho : 0 ≤ (pc : Int) + o := by decide) (hp : ((pc : Int) + o).toNat = pc' := by decide) : Wk p l e R s m args below meth c Z a0 EL S0 y B ml ret V h cl sl (mkF m pc' L st) := by
 subst hp
 exact w.st fun T t X hx hB k => XS.ifYes X hx rfl rfl (hb hB hd) rfl hc ho rfl k
theorem Wk.icmpYes {pc pc' : Nat} {L : Array Slot} {st : List Value} {cd : ClassFile.Cond} {o : Int} {x yy : Int32} (w : Wk p l e R s m args below meth c Z a0 EL S0 y B ml ret V h cl sl (mkF m pc L (.int yy :: .int x :: st))) (hd : decode B pc = .ok (.if_icmp cd o, 3)) (hc : if_icmp.holds cd x yy = true) (ho : 0 ≤ (pc : Int) + o := by decide) (hp : ((pc : Int) + o).toNat = pc' := by decide) : Wk p l e R s m args below meth c Z a0 EL S0 y B ml ret V h cl sl (mkF m pc' L st) := by
 subst hp
 exact w.st fun T t X hx hB k => XS.icmpYes X hx rfl rfl (hb hB hd) rfl hc ho rfl k
theorem Wk.ifnullYes {pc pc' : Nat} {L : Array Slot} {st : List Value} {o : Int} (w : Wk p l e R s m args below meth c Z a0 EL S0 y B ml ret V h cl sl (mkF m pc L (.null :: st))) (hd : decode B pc = .ok (.ifnull o, 3))  (ho : 0 ≤ (pc : Int) + o := by decide) (hp : ((pc : Int) + o).toNat = pc' := by decide) : Wk p l e R s m args below meth c Z a0 EL S0 y B ml ret V h cl sl (mkF m pc' L st) := by
 subst hp
 exact w.st fun T t X hx hB k => XS.ifnullYes X hx rfl rfl (hb hB hd) rfl ho rfl k
theorem Wk.ifnonnullYes {pc pc' : Nat} {L : Array Slot} {st : List Value} {o : Int} {b : Addr} (w : Wk p l e R s m args below meth c Z a0 EL S0 y B ml ret V h cl sl (mkF m pc L (.ref b :: st))) (hd : decode B pc = .ok (.ifnonnull o, 3))  (ho : 0 ≤ (pc : Int) + o := by decide) (hp : ((pc : Int) + o).toNat = pc' := by decide) : Wk p l e R s m args below meth c Z a0 EL S0 y B ml ret V h cl sl (mkF m pc' L st) := by
 subst hp
 exact w.st fun T t X hx hB k => XS.ifnonnullYes X hx rfl rfl (hb hB hd) rfl ho rfl k
theorem Wk.ifNo {pc pc' : Nat} {L : Array Slot} {st : List Value} {cd : ClassFile.Cond} {o : Int} {x : Int32} (w : Wk p l e R s m args below meth c Z a0 EL S0 y B ml ret V h cl sl (mkF m pc L (.int x :: st))) (hd : decode B pc = .ok (.ifCond cd o, 3)) (hc : ifCond.holds cd x = false) (hp : pc + 3 = pc' := by rfl) : Wk p l e R s m args below meth c Z a0 EL S0 y B ml ret V h cl sl (mkF m pc' L st) := by
 subst hp
 exact w.st fun T t X hx hB k => XS.ifNo X hx rfl (hb hB hd) rfl hc k
theorem Wk.icmpNo {pc pc' : Nat} {L : Array Slot} {st : List Value} {cd : ClassFile.Cond} {o : Int} {x yy : Int32} (w : Wk p l e R s m args below meth c Z a0 EL S0 y B ml ret V h cl sl (mkF m pc L (.int yy :: .int x :: st))) (hd : decode B pc = .ok (.if_icmp cd o, 3)) (hc : if_icmp.holds cd x yy = false) (hp : pc + 3 = pc' := by rfl) : Wk p l e R s m args below meth c Z a0 EL S0 y B ml ret V h cl sl (mkF m pc' L st) := by
 subst hp
 exact w.st fun T t X hx hB k => XS.icmpNo X hx rfl (hb hB hd) rfl hc k
theorem Wk.ifnullNo {pc pc' : Nat} {L : Array Slot} {st : List Value} {o : Int} {b : Addr} (w : Wk p l e R s m args below meth c Z a0 EL S0 y B ml ret V h cl sl (mkF m pc L (.ref b :: st))) (hd : decode B pc = .ok (.ifnull o, 3))  (hp : pc + 3 = pc' := by rfl) : Wk p l e R s m args below meth c Z a0 EL S0 y B ml ret V h cl sl (mkF m pc' L st) := by
 subst hp
 exact w.st fun T t X hx hB k => XS.ifnullNo X hx rfl (hb hB hd) rfl k
theorem Wk.ifnonnullNo {pc pc' : Nat} {L : Array Slot} {st : List Value} {o : Int} (w : Wk p l e R s m args below meth c Z a0 EL S0 y B ml ret V h cl sl (mkF m pc L (.null :: st))) (hd : decode B pc = .ok (.ifnonnull o, 3))  (hp : pc + 3 = pc' := by rfl) : Wk p l e R s m args below meth c Z a0 EL S0 y B ml ret V h cl sl (mkF m pc' L st) := by
 subst hp
 exact w.st fun T t X hx hB k => XS.ifnonnullNo X hx rfl (hb hB hd) rfl k

theorem Wk.acmp {pc pc' : Nat} {L : Array Slot} {st : List Value} {cd : ACond} {o : Int} {x yy : Value} (same : Bool) (w : Wk p l e R s m args below meth c Z a0 EL S0 y B ml ret V h cl sl (mkF m pc L (yy :: x :: st))) (hd : decode B pc = .ok (.if_acmp cd o, 3)) (hq : decide (x = yy) = same) (h1 : x.isRef = true := by rfl) (h2 : yy.isRef = true := by rfl) (ho : 0 ≤ (pc : Int) + o := by decide) (hp : pc' = if acV cd same = true then ((pc : Int) + o).toNat else pc + 3 := by rfl) :
   Wk p l e R s m args below meth c Z a0 EL S0 y B ml ret V h cl sl (mkF m pc' L st) :=
 w.stX fun T locs t X e0 k => RoadKit.acmp X w.1.1 rfl h1 h2 rfl (hb w.1.2.1 hd) rfl hq ho hp k
theorem Wk.own {g : JFrame} (w : Wk p l e R s m args below meth c Z a0 EL S0 y B ml ret V h cl sl g) : V.findClass y.cls = some m.cls := by rw [w.hZ.alike.findClass]; exact w.1.2.2.2.2.2.1
/-- the heap has changed: the walk goes on over h' -/
theorem Wk.heap {g g' : JFrame} {h' : Heap} {cl' sl' : Nat} (w : Wk p l e R s m args below meth c Z a0 EL S0 y B ml ret V h cl sl g) (A : CHr Z EL V h V h') (O : Ext Z.heap h')
   (k : ∀ (T : State) (locs : List Loc), Stand p l e R (s.setVm V) m args below meth c T locs cl sl → T.heap = h → Fr Z.heap.size locs → ∃ (T' : State) (locs' : List Loc), Stand p l e R (s.setVm V) m args below meth c T' locs' cl' sl' ∧ T'.heap = h' ∧ Fr Z.heap.size locs' ∧ ∀ t, Steps p.tables e below (T'.setTop g') t → Steps p.tables e below (T.setTop g) t) :
   Wk p l e R s m args below meth c Z a0 EL S0 y B ml ret V h' cl' sl' g' := by
 obtain ⟨hf, ⟨hz, hC, hO⟩, T, locs, k0, X, e0, h1, h2, h3, st⟩ := w
 obtain ⟨T', locs', X', e', f', st'⟩ := k T locs X e0 h3
 exact ⟨hf, ⟨hz, hC.trans A, O⟩, T', locs', k0, X', e', h1, Nat.le_trans h2 A.2.1, f', fun t q => st t (st' t q)⟩
theorem extT {h0 h1 h2 : Heap} (A : Ext h0 h1) (B : Ext h1 h2) : Ext h0 h2 := ⟨Nat.le_trans A.1 B.1, fun a c q => B.2 a c (A.2 a c q)⟩
theorem extR (h0 : Heap) : Ext h0 h0 := ⟨Nat.le_refl _, fun _ _ q => q⟩
theorem extW {h0 h1 h2 : Heap} {a : Addr} {n : Nat} {v : Value} (A : Ext h0 h1) (W : Wr h1 h2 a n v) (q : h0.size ≤ a) : Ext h0 h2 := by
 obtain ⟨cell, h1', h2', h3', rfl⟩ := W
 refine ⟨by simpa using A.1, fun b cb hb => ?_⟩
 have : a ≠ b := fun z => by subst z; exact absurd (Array.getElem?_eq_some_iff.mp hb).1 (Nat.not_lt.mpr q)
 rw [Array.getElem?_setIfInBounds_ne this]; exact A.2 b cb hb
theorem extK {h0 h1 h2 : Heap} {ws : List Addr} (A : Ext h0 h1) (K : Keep h1 h2 ws) (q : ∀ x ∈ ws, h0.size ≤ x) : Ext h0 h2 :=
 ⟨Nat.le_trans A.1 K.1, fun b cb hb => K.2.1 b cb (A.2 b cb hb) fun z => absurd (Array.getElem?_eq_some_iff.mp hb).1 (Nat.not_lt.mpr (q b z))⟩
theorem keepE {h0 h1 : Heap} (A : Ext h0 h1) (ws : List Addr) : Keep h0 h1 ws := (Keep.refl h0 ws).ext A
/-- new C -/
theorem Wk.new {pc pc' : Nat} {L : Array Slot} {st : List Value} {C : String} {index n : Nat} (w : Wk p l e R s m args below meth c Z a0 EL S0 y B ml ret V h cl sl (mkF m pc L st)) (wl : (Jvm.Cond.classLink y.cls index C).before a0 Z = true) (wi : (Jvm.Cond.instantiable C n).before a0 Z = true) (wz : (Jvm.Cond.initialized C).before a0 Z = true)
   (hd : decode B pc = .ok (.new index, 3)) (hc : cl + 1 ≤ R.cells) (hl : sl + n ≤ R.slots) (hp : pc + 3 = pc' := by rfl) :
   ∃ (h' : Heap) (a : Addr), a = h.size ∧ Ext h h' ∧ Exa Z h' a C ∧ (∀ {O nm d : String} {ty : FieldType}, Laid Z a0 C O nm d → parseFieldDescriptor d = some ty → Fld Z h' a O nm d (defaultValue ty)) ∧ Safe Z EL V h' a ∧ CHr Z EL V h V h' ∧
     Wk p l e R s m args below meth c Z a0 EL S0 y B ml ret V h' (cl + 1) (sl + n) (mkF m pc' L (.ref a :: st)) := by
 subst hp
 obtain ⟨hf, ⟨hz, hC, hO⟩, T, locs, k0, X, e0, h1, h2, h3, st0⟩ := id w
 obtain ⟨T', h', X', e', E, A, D, -, st'⟩ := newO X hf.1 hz w.own wl wi wz e0 (g := mkF m pc L st) rfl (hb hf.2.1 hd) hc hl
 have Q : CHr Z EL V h V h' := CHr.ext E w.ch
 exact ⟨h', h.size, rfl, E, A, D, Safe.ext E w.ch (Safe.new (Nat.le_refl _)), Q, hf, ⟨hz, hC.trans Q, extT hO E⟩, T', locs, k0, X', e', h1, Nat.le_trans h2 E.1, h3, fun t q => st0 t (st' t q)⟩
/-- newarray -/
theorem Wk.newarr {pc pc' : Nat} {L : Array Slot} {st : List Value} {aty : ArrayType} {n : Int32} {cap : Nat} (w : Wk p l e R s m args below meth c Z a0 EL S0 y B ml ret V h cl sl (mkF m pc L (.int n :: st))) (wa : (Jvm.Cond.arrayClass (newarray.typeOf aty)).before a0 Z = true)
   (hd : decode B pc = .ok (.newarray aty, 2)) (hn : ¬ n < 0) (hcap : n.toNatClampNeg ≤ cap) (hc : cl + 1 ≤ R.cells) (hl : sl + cap ≤ R.slots) (hb8 : cap * 8 ≤ 536870912 := by decide) (hp : pc + 2 = pc' := by rfl) :
   ∃ (h' : Heap) (a : Addr) (k : ClassId), a = h.size ∧ Ext h h' ∧ Arv Z h' a k (newarray.typeOf aty) n [] (defaultValue (newarray.typeOf aty)) ∧ Safe Z EL V h' a ∧ CHr Z EL V h V h' ∧
     Wk p l e R s m args below meth c Z a0 EL S0 y B ml ret V h' (cl + 1) (sl + cap) (mkF m pc' L (.ref a :: st)) := by
 subst hp
 obtain ⟨hf, ⟨hz, hC, hO⟩, T, locs, k0, X, e0, h1, h2, h3, st0⟩ := id w
 obtain ⟨T', h', k, X', e', E, A, st'⟩ := newP X hf.1 hz wa e0 (g := mkF m pc L (.int n :: st)) rfl (hb hf.2.1 hd) rfl hn hcap hb8 hc hl
 have Q : CHr Z EL V h V h' := CHr.ext E w.ch
 exact ⟨h', h.size, k, rfl, E, Arv.new A hn, Safe.ext E w.ch (Safe.new (Nat.le_refl _)), Q, hf, ⟨hz, hC.trans Q, extT hO E⟩, T', locs, k0, X', e', h1, Nat.le_trans h2 E.1, h3, fun t q => st0 t (st' t q)⟩
/-- castore into an array of the walk's own -/
theorem Wk.castore {pc pc' : Nat} {L : Array Slot} {st : List Value} {a : Addr} {k : ClassId} {z j x x' : Int32} {vs : List Value} {dv : Value} (w : Wk p l e R s m args below meth c Z a0 EL S0 y B ml ret V h cl sl (mkF m pc L (.int x :: .int j :: .ref a :: st))) (A : Arv Z h a k .char z vs dv)
   (hd : decode B pc = .ok (.castore, 1)) (hj : ¬ j < 0 ∧ j < z) (hx' : nar .char x = x') (i : Nat) (hi : j.toNatClampNeg = i) (hlen : i < vs.length) (ha : Z.heap.size ≤ a) (hp : pc + 1 = pc' := by rfl) :
   ∃ h' : Heap, Keep h h' [a] ∧ Arv Z h' a k .char z (vs.set i (.int x')) dv ∧ CHr Z EL V h V h' ∧ Wk p l e R s m args below meth c Z a0 EL S0 y B ml ret V h' cl sl (mkF m pc' L st) := by
 subst hp hx'
 obtain ⟨hf, ⟨hz, hC, hO⟩, T, locs, k0, X, e0, h1, h2, h3, st0⟩ := id w
 obtain ⟨cA, A1, A2, A3, A4, A5, A6⟩ := id A
 obtain ⟨T', h', X', e', W, st'⟩ := stC X hf.1 hz e0 A1 (j := j) (inb_of A3 hj) (g := mkF m pc L (.int x :: .int j :: .ref a :: st)) rfl rfl (hb hf.2.1 hd)
 have Q : CHr Z EL V h V h' := CHr.wr W (Safe.arr hz.alike A1 (by decide)) w.ch
 exact ⟨h', Keep.of_wr W, Arv.set A1 A2 A3 A4 A5 A6 (fits_nar_char x) W i hi hlen, Q, hf, ⟨hz, hC.trans Q, extW hO W ha⟩, T', _, k0, X', e', h1, Nat.le_trans h2 Q.2.1, Fr.snoc X' h3 ha, fun t q => st0 t (st' t q)⟩
theorem Wk.bastore {pc pc' : Nat} {L : Array Slot} {st : List Value} {a : Addr} {k : ClassId} {z j x x' : Int32} {vs : List Value} {dv : Value} (w : Wk p l e R s m args below meth c Z a0 EL S0 y B ml ret V h cl sl (mkF m pc L (.int x :: .int j :: .ref a :: st))) (A : Arv Z h a k .byte z vs dv)
   (hd : decode B pc = .ok (.bastore, 1)) (hj : ¬ j < 0 ∧ j < z) (hx' : x.toInt8.toInt32 = x') (i : Nat) (hi : j.toNatClampNeg = i) (hlen : i < vs.length) (ha : Z.heap.size ≤ a) (S : Safe Z EL V h a) (hp : pc + 1 = pc' := by rfl) :
   ∃ h' : Heap, Keep h h' [a] ∧ Arv Z h' a k .byte z (vs.set i (.int x')) dv ∧ CHr Z EL V h V h' ∧ Wk p l e R s m args below meth c Z a0 EL S0 y B ml ret V h' cl sl (mkF m pc' L st) := by
 subst hp hx'
 obtain ⟨hf, ⟨hz, hC, hO⟩, T, locs, k0, X, e0, h1, h2, h3, st0⟩ := id w
 obtain ⟨cA, A1, A2, A3, A4, A5, A6⟩ := id A
 obtain ⟨T', h', X', e', W, st'⟩ := stB X hf.1 hz e0 A1 (j := j) (inb_of A3 hj) (g := mkF m pc L (.int x :: .int j :: .ref a :: st)) rfl rfl (hb hf.2.1 hd)
 have Q : CHr Z EL V h V h' := CHr.wr W S w.ch
 exact ⟨h', Keep.of_wr W, Arv.set A1 A2 A3 A4 A5 A6 (fits_nar_byte x) W i hi hlen, Q, hf, ⟨hz, hC.trans Q, extW hO W ha⟩, T', _, k0, X', e', h1, Nat.le_trans h2 Q.2.1, Fr.snoc X' h3 ha, fun t q => st0 t (st' t q)⟩
theorem Wk.arrlen {pc pc' : Nat} {L : Array Slot} {st : List Value} {a : Addr} {k : ClassId} {ty : FieldType} {z : Int32} {vs : List Value} {dv : Value} (w : Wk p l e R s m args below meth c Z a0 EL S0 y B ml ret V h cl sl (mkF m pc L (.ref a :: st))) (A : Arv Z h a k ty z vs dv) (hd : decode B pc = .ok (.arraylength, 1)) (hp : pc + 1 = pc' := by rfl) :
   Wk p l e R s m args below meth c Z a0 EL S0 y B ml ret V h cl sl (mkF m pc' L (.int z :: st)) := by
 subst hp
 obtain ⟨cA, A1, A2, A3, A4, A5, A6⟩ := A
 have e1 := len_of A3 A4
 exact w.stX fun T locs t X e0 q => X.arraylength w.1.1 (by rw [e0]; exact A1.1) (State.isArrayOf_alike w.hZ.alike A1.2.1) (g := mkF m pc L (.ref a :: st)) rfl rfl (hb w.1.2.1 hd) t (by rw [e1]; exact q)
theorem Wk.caload {pc pc' : Nat} {L : Array Slot} {st : List Value} {a : Addr} {k : ClassId} {z j : Int32} {vs : List Value} {dv v : Value} (w : Wk p l e R s m args below meth c Z a0 EL S0 y B ml ret V h cl sl (mkF m pc L (.int j :: .ref a :: st))) (A : Arv Z h a k .char z vs dv) (hd : decode B pc = .ok (.caload, 1)) (hj : ¬ j < 0 ∧ j < z) (hv : vs.getD j.toNatClampNeg dv = v) (hp : pc + 1 = pc' := by rfl) :
   Wk p l e R s m args below meth c Z a0 EL S0 y B ml ret V h cl sl (mkF m pc' L (v :: st)) := by
 subst hp
 obtain ⟨cA, A1, A2, A3, A4, A5, A6⟩ := A
 have hin := inb_of A3 hj
 exact w.stX fun T locs t X e0 q => X.caload w.1.1 (by rw [e0]; exact A1.1) (State.isArrayOf_alike w.hZ.alike A1.2.1) A1.2.2 hin (A5.at hin hv) (g := mkF m pc L (.int j :: .ref a :: st)) rfl rfl (hb w.1.2.1 hd) t q
theorem Wk.baload {pc pc' : Nat} {L : Array Slot} {st : List Value} {a : Addr} {k : ClassId} {z j : Int32} {vs : List Value} {dv v : Value} (w : Wk p l e R s m args below meth c Z a0 EL S0 y B ml ret V h cl sl (mkF m pc L (.int j :: .ref a :: st))) (A : Arv Z h a k .byte z vs dv) (hd : decode B pc = .ok (.baload, 1)) (hj : ¬ j < 0 ∧ j < z) (hv : vs.getD j.toNatClampNeg dv = v) (hp : pc + 1 = pc' := by rfl) :
   Wk p l e R s m args below meth c Z a0 EL S0 y B ml ret V h cl sl (mkF m pc' L (v :: st)) := by
 subst hp
 obtain ⟨cA, A1, A2, A3, A4, A5, A6⟩ := A
 have hin := inb_of A3 hj
 exact w.stX fun T locs t X e0 q => X.baloadBytes w.1.1 (by rw [e0]; exact A1.1) (State.isArrayOf_alike w.hZ.alike A1.2.1) A1.2.2 hin (A5.at hin hv) (g := mkF m pc L (.int j :: .ref a :: st)) rfl rfl (hb w.1.2.1 hd) t q
theorem Wk.aaload {pc pc' : Nat} {L : Array Slot} {st : List Value} {a : Addr} {k : ClassId} {z j : Int32} {ty : FieldType} {vs : List Value} {dv v : Value} (w : Wk p l e R s m args below meth c Z a0 EL S0 y B ml ret V h cl sl (mkF m pc L (.int j :: .ref a :: st))) (A : Arv Z h a k ty z vs dv) (hd : decode B pc = .ok (.aaload, 1)) (hj : ¬ j < 0 ∧ j < z) (hv : vs.getD j.toNatClampNeg dv = v) (hty : ty.isReference = true := by rfl) (hp : pc + 1 = pc' := by rfl) :
   Wk p l e R s m args below meth c Z a0 EL S0 y B ml ret V h cl sl (mkF m pc' L (v :: st)) := by
 subst hp
 obtain ⟨cA, A1, A2, A3, A4, A5, A6⟩ := A
 have hin := inb_of A3 hj
 exact w.stX fun T locs t X e0 q => X.aaload w.1.1 (by rw [e0]; exact A1.1) (State.isArrayOf_alike w.hZ.alike A1.2.1) hty A1.2.2 hin (A5.at hin hv) (g := mkF m pc L (.int j :: .ref a :: st)) rfl rfl (hb w.1.2.1 hd) t q

theorem Wk.getF {pc pc' : Nat} {L : Array Slot} {st : List Value} {index : Nat} {O n d : String} {a : Addr} {v : Value} (w : Wk p l e R s m args below meth c Z a0 EL S0 y B ml ret V h cl sl (mkF m pc L (.ref a :: st))) (wl : (Jvm.Cond.fieldLink y.cls index O n d).before a0 Z = true) (F : Fld Z h a O n d v) (hd : decode B pc = .ok (.getfield index, 3)) (hp : pc + 3 = pc' := by rfl) :
   Wk p l e R s m args below meth c Z a0 EL S0 y B ml ret V h cl sl (mkF m pc' L (v :: st)) := by
 subst hp
 refine w.heap (CHr.refl w.ch) w.old fun T locs X e0 f => ?_
 obtain ⟨T', X', e', st'⟩ := RoadKit.getF X w.1.1 w.hZ w.own (host := "") (Or.inl wl) Via.refl e0 F (g := mkF m pc L (.ref a :: st)) rfl rfl (hb w.1.2.1 hd)
 exact ⟨T', locs, X', e', f, st'⟩
theorem Wk.getS {pc pc' : Nat} {L : Array Slot} {st : List Value} {index : Nat} {O n d : String} {v : Value} (w : Wk p l e R s m args below meth c Z a0 EL S0 y B ml ret V h cl sl (mkF m pc L st)) (wl : (Jvm.Cond.fieldLink y.cls index O n d).before a0 Z = true) (F : Sta Z Z.heap O n d v) (hd : decode B pc = .ok (.getstatic index, 3)) (hp : pc + 3 = pc' := by rfl) :
   Wk p l e R s m args below meth c Z a0 EL S0 y B ml ret V h cl sl (mkF m pc' L (v :: st)) := by
 subst hp
 refine w.heap (CHr.refl w.ch) w.old fun T locs X e0 f => ?_
 obtain ⟨T', X', e', st'⟩ := RoadKit.getS X w.1.1 w.hZ (host := "") w.own wl Via.refl e0 (F.ext w.old) (g := mkF m pc L st) rfl (hb w.1.2.1 hd)
 exact ⟨T', locs, X', e', f, st'⟩
theorem Wk.putF {pc pc' : Nat} {L : Array Slot} {st : List Value} {index kk : Nat} {O n d C : String} {ty : FieldType} {a : Addr} {v old : Value} (w : Wk p l e R s m args below meth c Z a0 EL S0 y B ml ret V h cl sl (mkF m pc L (v :: .ref a :: st))) (wl : (Jvm.Cond.fieldLink y.cls index O n d).before a0 Z = true) (F : Fld Z h a O n d old) (E : Exa Z h a C)
   (La : (Jvm.Cond.lays C O n d).before a0 Z = true ∨ ((Jvm.Cond.laysFinal C O n d).before a0 Z = true ∧ y.cls = O ∧ y.name = "<init>")) (wi : (Jvm.Cond.instantiable C kk).before a0 Z = true) (hty : parseFieldDescriptor d = some ty) (hn : narrow ty v = v) (hf0 : fits ty v = true) (S : Safe Z EL V h a) (ha : Z.heap.size ≤ a) (hd : decode B pc = .ok (.putfield index, 3)) (hp : pc + 3 = pc' := by rfl) :
   ∃ h' : Heap, Wr h h' a (RoadKit.slotOf Z O n d) v ∧ Keep h h' [a] ∧ Fld Z h' a O n d v ∧ CHr Z EL V h V h' ∧ Wk p l e R s m args below meth c Z a0 EL S0 y B ml ret V h' cl sl (mkF m pc' L st) := by
 subst hp
 obtain ⟨hf, ⟨hz, hC, hO⟩, T, locs, k0, X, e0, h1, h2, h3, st0⟩ := id w
 obtain ⟨T', h', X', e', W, st'⟩ := RoadKit.putF X hf.1 hz w.own (host := "") (Or.inl wl) Via.refl e0 F E (La.imp id fun q => ⟨q.1, q.2.1, hf.2.2.2.2.2.2.1.trans q.2.2⟩) wi hty hn hf0 (g := mkF m pc L (v :: .ref a :: st)) rfl rfl (hb hf.2.1 hd)
 have Q : CHr Z EL V h V h' := CHr.wr W S w.ch
 exact ⟨h', W, Keep.of_wr W, F.same W, Q, hf, ⟨hz, hC.trans Q, extW hO W ha⟩, T', _, k0, X', e', h1, Nat.le_trans h2 Q.2.1, Fr.snoc X' h3 ha, fun t q => st0 t (st' t q)⟩
theorem Wk.putFN {pc pc' : Nat} {L : Array Slot} {st : List Value} {index kk : Nat} {O n d C : String} {ty : FieldType} {a : Addr} {v v' old : Value} (w : Wk p l e R s m args below meth c Z a0 EL S0 y B ml ret V h cl sl (mkF m pc L (v :: .ref a :: st))) (wl : (Jvm.Cond.fieldLink y.cls index O n d).before a0 Z = true) (F : Fld Z h a O n d old) (E : Exa Z h a C)
   (La : (Jvm.Cond.lays C O n d).before a0 Z = true ∨ ((Jvm.Cond.laysFinal C O n d).before a0 Z = true ∧ y.cls = O ∧ y.name = "<init>")) (wi : (Jvm.Cond.instantiable C kk).before a0 Z = true) (hty : parseFieldDescriptor d = some ty) (hn : narrow ty v = v') (hf0 : fits ty v' = true) (S : Safe Z EL V h a) (ha : Z.heap.size ≤ a) (hd : decode B pc = .ok (.putfield index, 3)) (hp : pc + 3 = pc' := by rfl) :
   ∃ h' : Heap, Wr h h' a (RoadKit.slotOf Z O n d) v' ∧ Keep h h' [a] ∧ Fld Z h' a O n d v' ∧ CHr Z EL V h V h' ∧ Wk p l e R s m args below meth c Z a0 EL S0 y B ml ret V h' cl sl (mkF m pc' L st) := by
 subst hp
 obtain ⟨hf, ⟨hz, hC, hO⟩, T, locs, k0, X, e0, h1, h2, h3, st0⟩ := id w
 obtain ⟨T', h', X', e', W, st'⟩ := RoadKit.putFN X hf.1 hz w.own wl Via.refl e0 F E (La.imp id fun q => ⟨q.1, q.2.1, hf.2.2.2.2.2.2.1.trans q.2.2⟩) wi hty hn hf0 (g := mkF m pc L (v :: .ref a :: st)) rfl rfl (hb hf.2.1 hd)
 have Q : CHr Z EL V h V h' := CHr.wr W S w.ch
 exact ⟨h', W, Keep.of_wr W, F.same W, Q, hf, ⟨hz, hC.trans Q, extW hO W ha⟩, T', _, k0, X', e', h1, Nat.le_trans h2 Q.2.1, Fr.snoc X' h3 ha, fun t q => st0 t (st' t q)⟩
theorem Wk.cast {pc pc' : Nat} {L : Array Slot} {st : List Value} {index : Nat} {K : String} {a : Addr} (w : Wk p l e R s m args below meth c Z a0 EL S0 y B ml ret V h cl sl (mkF m pc L (.ref a :: st))) (wl : (Jvm.Cond.classLink y.cls index K).before a0 Z = true) (F : Ins Z h a K true) (hd : decode B pc = .ok (.checkcast index, 3)) (hp : pc + 3 = pc' := by rfl) :
   Wk p l e R s m args below meth c Z a0 EL S0 y B ml ret V h cl sl (mkF m pc' L (.ref a :: st)) := by
 subst hp
 refine w.heap (CHr.refl w.ch) w.old fun T locs X e0 f => ?_
 obtain ⟨T', X', e', st'⟩ := castY X w.1.1 w.hZ w.own wl e0 F (g := mkF m pc L (.ref a :: st)) rfl rfl (hb w.1.2.1 hd)
 exact ⟨T', locs, X', e', f, st'⟩
theorem Wk.inst {pc pc' : Nat} {L : Array Slot} {st : List Value} {index : Nat} {K : String} {a : Addr} (w : Wk p l e R s m args below meth c Z a0 EL S0 y B ml ret V h cl sl (mkF m pc L (.ref a :: st))) (wl : (Jvm.Cond.classLink y.cls index K).before a0 Z = true) (F : Ins Z h a K true) (hd : decode B pc = .ok (.instanceof index, 3)) (hp : pc + 3 = pc' := by rfl) :
   Wk p l e R s m args below meth c Z a0 EL S0 y B ml ret V h cl sl (mkF m pc' L (.int 1 :: st)) := by
 subst hp
 refine w.heap (CHr.refl w.ch) w.old fun T locs X e0 f => ?_
 obtain ⟨T', X', e', st'⟩ := instY X w.1.1 w.hZ w.own wl e0 F (g := mkF m pc L (.ref a :: st)) rfl rfl (hb w.1.2.1 hd)
 exact ⟨T', locs, X', e', f, st'⟩
/-- Object.<init> -/
theorem Wk.initO {pc pc' : Nat} {L : Array Slot} {st : List Value} {idx : Nat} {a : Addr} (W : Nat) (w : Wk p l e R s m args below meth c Z a0 EL S0 y B ml ret V h cl sl (mkF m pc L (.ref a :: st))) (w1 : (Jvm.Cond.methodLink y.cls idx Lib.objectInit).before a0 Z = true) (w2 : (Jvm.Cond.instanceMethod Lib.objectInit).before a0 Z = true)
   (w3 : (Jvm.Cond.code Lib.objectInit ⟨#[0xb1]⟩ 1 none).before a0 Z = true) (hL : L.size = ml) (hd : decode B pc = .ok (.invokespecial idx, 3)) (hfr : 1 ≤ R.frames) (hW : (st.map fun v => v.category).sum ≤ W) (hlo : W + 12 ≤ R.locals) (hp : pc + 3 = pc' := by rfl) :
   Wk p l e R s m args below meth c Z a0 EL S0 y B ml ret V h cl sl (mkF m pc' L st) := by
 subst hp
 refine w.heap (CHr.refl w.ch) w.old fun T locs X e0 f => ?_
 obtain ⟨T', X', e', st'⟩ := RoadKit.initO X w.1.1 w.hZ w.own w1 w2 w3 e0 (g := mkF m pc L (.ref a :: st)) rfl (hL.trans w.1.2.2.1.symm) rfl (hb w.1.2.1 hd) hfr (W := W) (by show 2 * 0 + _ ≤ _; omega) hlo
 exact ⟨T', locs, X', e', f, st'⟩
/-- ldc of a String constant of EL, its text below 256 -/
theorem Wk.ldcS {pc pc' : Nat} {L : Array Slot} {st : List Value} {index : Nat} {text : String} {vs : List Value} {z : Int32} (n : Nat) (w : Wk p l e R s m args below meth c Z a0 EL S0 y B ml ret V h cl sl (mkF m pc L st)) (wl : (Jvm.Cond.stringLink y.cls index text).before a0 Z = true) (wS : ∀ a ∈ Bundle.stringAtoms, a.before a0 Z = true) (hm : (y.cls, index) ∈ EL)
   (ht : (∀ c ∈ text.toList, c.toNat < 256) ∧ text.toList.map (fun c => Value.int (Jvm.Lit.byteI c.toNat.toUInt16)) = vs) (hz : ¬ z < 0) (hl : z.toNatClampNeg = vs.length) (hd : decode B pc = .ok (.ldc index, 2)) (hn : 4 * text.toList.length ≤ n) (hbig : n ≤ 536870912) (hc : cl + 2 ≤ R.cells) (hl' : sl + (n + 4) ≤ R.slots) (hp : pc + 2 = pc' := by rfl) :
   ∃ (a : Addr) (V' : Vm) (h' : Heap) (b : Addr) (k : ClassId), Ext h h' ∧ Exa Z h' a "java/lang/String" ∧ Fld Z h' a "java/lang/String" "coder" "B" (.int 0) ∧ Fld Z h' a "java/lang/String" "value" "[B" (.ref b) ∧ Arv Z h' b k .byte z vs (.int 0) ∧ (∀ x, Safe Z EL V' h' x → x ≠ a ∧ x ≠ b) ∧ CHr Z EL V h V' h' ∧
     Wk p l e R s m args below meth c Z a0 EL S0 y B ml ret V' h' (cl + 2) (sl + (n + 4)) (mkF m pc' L (.ref a :: st)) := by
 subst hp
 obtain ⟨hf, ⟨hz0, hC, hO⟩, T, locs, k0, X, e0, h1, h2, h3, st0⟩ := id w
 obtain ⟨a, T', h', k1, b, k, X', e', E, hS, hk, hW, hown', q1, q2, q3, q4, -, -, Q, -, hne, st'⟩ := ldcCH X hf.1 hz0 w.own wl wS e0 h1 h2 hf.2.2.2.2.2.2.2 hm w.ch ht hz hl (g := mkF m pc L st) rfl (hb hf.2.1 hd) hn hbig hc hl'
 exact ⟨a, T'.vm, h', b, k, E, q1, q2, q3, q4, hne, Q, hf, ⟨hW, hC.trans Q, extT hO E⟩, T', locs, k1, X', e', hS, hk, h3, fun t q => st0 t (st' t q)⟩
/-- who pays a call of y': the shape of every payer here -/
def Pays (p : Program) (l : Launch) (e : Env) (R : Room) (s : State) (args : Array Value) (below : List Frame) (Z : State) (EL : List (String × Nat)) (V : Vm) (h : Heap) (y' : MethodName) (len W kc ks : Nat) (as' : Array Value) (Q : Option Value → Heap → Prop) : Prop :=
 BackS l R p e below (s.setVm V) args y' len W (fun A a => a = as' ∧ A.U.heap = h ∧ A.cells + kc ≤ R.cells ∧ A.slots + ks ≤ R.slots)
   (fun A _ v B => ∃ L : List Loc, Q v B.U.heap ∧ Ext Z.heap B.U.heap ∧ Fr Z.heap.size L ∧ CHr Z EL V h B.U.vm B.U.heap ∧ B.locs = A.locs ++ L ∧ B.cells = A.cells + kc ∧ B.slots = A.slots + ks)
theorem Wk.pays {g : JFrame} {y' : MethodName} {B' : ByteArray} {ml' : Nat} {ret' : Option FieldType} {rm : Room} {as' : Array Value} {sf : List Addr} {Q : Option Value → Heap → Prop} {len : Nat} (W : Nat) (w : Wk p l e R s m args below meth c Z a0 EL S0 y B ml ret V h cl sl g) (M : Met l Z EL y' B' ml' ret' [] rm as' h sf Q)
   (wc : (Jvm.Cond.code y' B' ml' ret').before a0 Z = true) (wz : (Jvm.Cond.initialized y'.cls).before a0 Z = true) (hsf : ∀ x ∈ sf, Safe Z EL V h x) (hf : rm.frames + 1 ≤ R.frames) (hl : W + (ml' + 11) + rm.locals ≤ R.locals) :
   Pays p l e R s args below Z EL V h y' len W rm.cells rm.slots as' Q :=
 BackS.of_freeW (bytes := B') (maxL := ml') (ret := ret') (E := fun _ first o t L k n => k = rm.cells ∧ n = rm.slots ∧ (∃ v, o = .returned v ∧ Q v t.heap) ∧ Ext Z.heap t.heap ∧ Fr Z.heap.size L ∧ CHr Z EL first.vm first.heap t.vm t.heap) M hf hl
   (fun m meth c A a Y hp => have hU : Z.Warmed39 A.U.vm := wtrans (s := s.setVm V) w.hZ Y.warmed
     ⟨by show (Jvm.Cond.and _ .tt).before a A.U = true; rw [Cond.before_and, mv hU wc]; rfl, mv hU wc, mv hU wz, hp.2.2.1, hp.2.2.2⟩)
   (fun m meth c A a g mk Y hp => ⟨hp.1, wtrans (s := s.setVm V) w.hZ Y.warmed, hp.2.1, (CHv.at Y w.hZ w.el w.ch).1, fun x hx => (CHv.at Y w.hZ w.el w.ch).2.2 x |> fun q B => (q B).elim (hsf x hx) (fun r => hsf x hx |> fun _ => by
     obtain ⟨cell, q0⟩ := B.there
     exact absurd (Array.getElem?_eq_some_iff.mp q0).1 (Nat.not_lt.mpr r))⟩) (fun _ _ _ _ _ _ _ _ _ => trivial)
   (fun _ _ _ _ ⟨v, L, h1, h2, h3, h4, h5, h6⟩ => ⟨L, _, _, h6, rfl, rfl, ⟨v, h1, h2⟩, h3, h4, h5⟩)
   (fun m meth c A a g mk v t L k n Y hp _ _ ⟨e1, e2, ⟨v', e3, e4⟩, e5, e6, e7⟩ => by
     cases e3; subst e1 e2
     refine ⟨L, e4, e5, e6, (CHv.at Y w.hZ w.el w.ch).trans ?_, rfl, rfl, rfl⟩
     rw [← hp.2.1]; exact e7)
theorem Wk.back {g g' : JFrame} {y' : MethodName} {kc ks : Nat} {Q : Option Value → Heap → Prop} {v : Option Value} {T0 : State} {locs0 : List Loc} {D : Pt} {vm₁ : Vm} (w : Wk p l e R s m args below meth c Z a0 EL S0 y B ml ret V h cl sl g) {k0 : Nat} (h1 : s.Since V k0) (h2 : k0 ≤ h.size) (h3 : Fr Z.heap.size locs0) (e0 : T0.heap = h)
   (X' : Stand p l e R ((s.setVm V).setVm D.U.vm) m args below meth c D.U D.locs D.cells D.slots) (hS : (s.setVm V).Since D.U.vm D.U.heap.size) (hgr : T0.heap.size ≤ D.U.heap.size)
   (hpost : ∃ L : List Loc, Q v D.U.heap ∧ Ext Z.heap D.U.heap ∧ Fr Z.heap.size L ∧ CHr Z EL V h D.U.vm D.U.heap ∧ D.locs = Pt.locs (T0.setVm vm₁, locs0, cl, sl) ++ L ∧ D.cells = Pt.cells (T0.setVm vm₁, locs0, cl, sl) + kc ∧ D.slots = Pt.slots (T0.setVm vm₁, locs0, cl, sl) + ks)
   (st : ∀ t, Steps p.tables e below (D.U.setTop g') t → Steps p.tables e below S0 t) :
   ∃ (V' : Vm) (h' : Heap), Q v h' ∧ CHr Z EL V h V' h' ∧ Wk p l e R s m args below meth c Z a0 EL S0 y B ml ret V' h' (cl + kc) (sl + ks) g' := by
 obtain ⟨L, q1, q2, q3, q4, q5, q6, q7⟩ := hpost
 obtain ⟨U, locsD, cD, sD⟩ := D
 dsimp only [Pt.U, Pt.locs, Pt.cells, Pt.slots] at *
 subst q5 q6 q7
 exact ⟨U.vm, U.heap, q1, q4, w.1, ⟨State.Warmed39.trans (t := s.setVm V) w.hZ hS.1, w.2.1.2.1.trans q4, q2⟩, U, _, _, X', rfl, foldS (T := T0) h1 (by rw [e0]; exact h2) hS hgr, Nat.le_refl _, Fr.app h3 q3, st⟩
/-- invokestatic -/
theorem Wk.static {pc pc' : Nat} {L : Array Slot} {st rest argsL : List Value} {index W kc ks : Nat} {y' : MethodName} {B' : ByteArray} {ml' : Nat} {ret' : Option FieldType} {Q : Option Value → Heap → Prop} {ps : List FieldType} {r : Option FieldType} (w : Wk p l e R s m args below meth c Z a0 EL S0 y B ml ret V h cl sl (mkF m pc L st))
   (K : Pays p l e R s args below Z EL V h y' 3 W kc ks argsL.toArray Q) (wl : (Jvm.Cond.methodLink y.cls index y').before a0 Z = true) (wst : (Jvm.Cond.static y').before a0 Z = true) (wz : (Jvm.Cond.initialized y'.cls).before a0 Z = true) (wc : (Jvm.Cond.code y' B' ml' ret').before a0 Z = true)
   (hy : y'.cls ≠ "java/lang/invoke/MethodHandle" ∧ y'.cls ≠ "java/lang/invoke/VarHandle") (hpd : parseMethodDescriptor y'.desc = some ⟨ps, r⟩) (hlen : argsL.length = ps.length) (hst : st = argsL.reverse ++ rest) (hW : (rest.map fun v => v.category).sum ≤ W) (hL : L.size = ml) (hd : decode B pc = .ok (.invokestatic index, 3)) (hc : cl + kc ≤ R.cells) (hs : sl + ks ≤ R.slots) (hp : pc + 3 = pc' := by rfl) :
   ∃ (v : Option Value) (V' : Vm) (h' : Heap), Q v h' ∧ CHr Z EL V h V' h' ∧ Wk p l e R s m args below meth c Z a0 EL S0 y B ml ret V' h' (cl + kc) (sl + ks) (mkF m pc' L (v.toList ++ rest)) := by
 subst hp
 obtain ⟨hf, ⟨hz, hC, hO⟩, T, locs, k0, X, e0, h1, h2, h3, st0⟩ := id w
 obtain ⟨v, vm₁, D, -, X', hS, hgr, hpost, st'⟩ := callSS X hf.1 w.own (mv (s := s.setVm V) hz wl) (mv (s := s.setVm V) hz wst) (mv (s := s.setVm V) hz wz) (mv (s := s.setVm V) hz wc) hy K (g := mkF m pc L st) rfl (hL.trans hf.2.2.1.symm) (argsL := argsL) (rest := rest) (lenOf hpd hlen) hst (by show 2 * 0 + _ ≤ _; omega) (hb hf.2.1 hd) (fun _ _ => ⟨rfl, e0, hc, hs⟩)
 obtain ⟨V', h', a1, a2, a3⟩ := w.back (g' := mkF m (pc + 3) L (v.toList ++ rest)) (y' := y') h1 h2 h3 e0 X' hS hgr hpost (fun t q => st0 t (st'.trans q))
 exact ⟨v, V', h', a1, a2, a3⟩
/-- invokevirtual: the receiver is exactly a C, for which the call goes to z -/
theorem Wk.virtual {pc pc' : Nat} {L : Array Slot} {st rest argsL : List Value} {index W kc ks : Nat} {y' z : MethodName} {C : String} {b : Addr} {Q : Option Value → Heap → Prop} {ps : List FieldType} {r : Option FieldType} (w : Wk p l e R s m args below meth c Z a0 EL S0 y B ml ret V h cl sl (mkF m pc L st))
   (K : Pays p l e R s args below Z EL V h z 3 W kc ks (.ref b :: argsL).toArray Q) (wl : (Jvm.Cond.methodLink y.cls index y').before a0 Z = true) (wd : (Jvm.Cond.declares y').before a0 Z = true) (hnf : NotFace (s.setVm V) y') (ws : (Jvm.Cond.selects C y' z).before a0 Z = true) (wi : (Jvm.Cond.instanceMethod z).before a0 Z = true)
   (hy : y'.cls ≠ "java/lang/invoke/MethodHandle" ∧ y'.cls ≠ "java/lang/invoke/VarHandle") (E : Exa Z h b C) (hpd : parseMethodDescriptor y'.desc = some ⟨ps, r⟩) (hlen : argsL.length = ps.length) (hst : st = argsL.reverse ++ .ref b :: rest) (hW : (rest.map fun v => v.category).sum ≤ W) (hL : L.size = ml) (hd : decode B pc = .ok (.invokevirtual index, 3)) (hc : cl + kc ≤ R.cells) (hs : sl + ks ≤ R.slots) (hp : pc + 3 = pc' := by rfl) :
   ∃ (v : Option Value) (V' : Vm) (h' : Heap), Q v h' ∧ CHr Z EL V h V' h' ∧ Wk p l e R s m args below meth c Z a0 EL S0 y B ml ret V' h' (cl + kc) (sl + ks) (mkF m pc' L (v.toList ++ rest)) := by
 subst hp
 obtain ⟨hf, ⟨hz, hC, hO⟩, T, locs, k0, X, e0, h1, h2, h3, st0⟩ := id w
 obtain ⟨cB, kB, b1, b2, b3⟩ := isOf (s := s.setVm V) hz e0 E
 obtain ⟨v, vm₁, D, -, X', hS, hgr, hpost, st'⟩ := X.virtualBackS hf.1 w.own (mv (s := s.setVm V) hz wl) (mv (s := s.setVm V) hz wd) hnf (mv (s := s.setVm V) hz ws) (mv (s := s.setVm V) hz wi) hy K b1 b3 (g := mkF m pc L st) rfl (hL.trans hf.2.2.1.symm) (Steps.refl _) (argsL := argsL) (rest := rest) (lenOf hpd hlen) hst (by show 2 * 0 + _ ≤ _; omega) (hb hf.2.1 hd) (fun _ _ => ⟨rfl, e0, hc, hs⟩)
 obtain ⟨V', h', a1, a2, a3⟩ := w.back (g' := mkF m (pc + 3) L (v.toList ++ rest)) (y' := z) h1 h2 h3 e0 X' hS hgr hpost (fun t q => st0 t (st'.trans q))
 exact ⟨v, V', h', a1, a2, a3⟩
/-- .. where the entry's own class declares what is selected -/
theorem Wk.virt {pc pc' : Nat} {L : Array Slot} {st rest argsL : List Value} {index W kc ks : Nat} {y' : MethodName} {C : String} {b : Addr} {Q : Option Value → Heap → Prop} {ps : List FieldType} {r : Option FieldType} (w : Wk p l e R s m args below meth c Z a0 EL S0 y B ml ret V h cl sl (mkF m pc L st))
   (K : Pays p l e R s args below Z EL V h y' 3 W kc ks (.ref b :: argsL).toArray Q) (wl : (Jvm.Cond.methodLink y.cls index y').before a0 Z = true) (wd : (Jvm.Cond.declares y').before a0 Z = true) (ws : (Jvm.Cond.selects C y' y').before a0 Z = true) (wi : (Jvm.Cond.instanceMethod y').before a0 Z = true)
   (hy : y'.cls ≠ "java/lang/invoke/MethodHandle" ∧ y'.cls ≠ "java/lang/invoke/VarHandle") (E : Exa Z h b C) (hpd : parseMethodDescriptor y'.desc = some ⟨ps, r⟩) (hlen : argsL.length = ps.length) (hst : st = argsL.reverse ++ .ref b :: rest) (hW : (rest.map fun v => v.category).sum ≤ W) (hL : L.size = ml) (hd : decode B pc = .ok (.invokevirtual index, 3)) (hc : cl + kc ≤ R.cells) (hs : sl + ks ≤ R.slots) (hp : pc + 3 = pc' := by rfl) :
   ∃ (v : Option Value) (V' : Vm) (h' : Heap), Q v h' ∧ CHr Z EL V h V' h' ∧ Wk p l e R s m args below meth c Z a0 EL S0 y B ml ret V' h' (cl + kc) (sl + ks) (mkF m pc' L (v.toList ++ rest)) :=
 w.virtual K wl wd (notFace_of_selects (args := #[]) (mv (s := s.setVm V) w.hZ ws)) ws wi hy E hpd hlen hst hW hL hd hc hs hp
/-- invokespecial of a constructor -/
theorem Wk.ctor {pc pc' : Nat} {L : Array Slot} {st rest argsL : List Value} {index W kc ks : Nat} {y' : MethodName} {B' : ByteArray} {ml' : Nat} {a : Addr} {Q : Option Value → Heap → Prop} {ps : List FieldType} {r : Option FieldType} (w : Wk p l e R s m args below meth c Z a0 EL S0 y B ml ret V h cl sl (mkF m pc L st))
   (K : Pays p l e R s args below Z EL V h y' 3 W kc ks (.ref a :: argsL).toArray Q) (hy1 : y'.name = "<init>") (wl : (Jvm.Cond.methodLink y.cls index y').before a0 Z = true) (wi : (Jvm.Cond.instanceMethod y').before a0 Z = true) (wc : (Jvm.Cond.code y' B' ml' none).before a0 Z = true)
   (hy : y'.cls ≠ "java/lang/invoke/MethodHandle" ∧ y'.cls ≠ "java/lang/invoke/VarHandle") (hpd : parseMethodDescriptor y'.desc = some ⟨ps, r⟩) (hlen : argsL.length = ps.length) (hst : st = argsL.reverse ++ .ref a :: rest) (hW : (rest.map fun v => v.category).sum ≤ W) (hL : L.size = ml) (hd : decode B pc = .ok (.invokespecial index, 3)) (hc : cl + kc ≤ R.cells) (hs : sl + ks ≤ R.slots) (hp : pc + 3 = pc' := by rfl) :
   ∃ (v : Option Value) (V' : Vm) (h' : Heap), Q v h' ∧ CHr Z EL V h V' h' ∧ Wk p l e R s m args below meth c Z a0 EL S0 y B ml ret V' h' (cl + kc) (sl + ks) (mkF m pc' L (v.toList ++ rest)) := by
 subst hp
 obtain ⟨hf, ⟨hz, hC, hO⟩, T, locs, k0, X, e0, h1, h2, h3, st0⟩ := id w
 obtain ⟨v, vm₁, D, -, X', hS, hgr, hpost, st'⟩ := X.specialBackS hf.1 hy1 w.own (mv (s := s.setVm V) hz wl) (mv (s := s.setVm V) hz wi) (mv (s := s.setVm V) hz wc) hy K (g := mkF m pc L st) rfl (hL.trans hf.2.2.1.symm) (Steps.refl _) (a := a) (argsL := argsL) (rest := rest) (lenOf hpd hlen) hst (by show 2 * 0 + _ ≤ _; omega) (hb hf.2.1 hd) (fun _ _ => ⟨rfl, e0, hc, hs⟩)
 obtain ⟨V', h', a1, a2, a3⟩ := w.back (g' := mkF m (pc + 3) L (v.toList ++ rest)) (y' := y') h1 h2 h3 e0 X' hS hgr hpost (fun t q => st0 t (st'.trans q))
 exact ⟨v, V', h', a1, a2, a3⟩
/-- a private method by invokevirtual -/
theorem Wk.priv {pc pc' : Nat} {L : Array Slot} {st rest argsL : List Value} {index W kc ks : Nat} {y' : MethodName} {B' : ByteArray} {ml' : Nat} {ret' : Option FieldType} {C : String} {b : Addr} {Q : Option Value → Heap → Prop} {ps : List FieldType} {r : Option FieldType} (w : Wk p l e R s m args below meth c Z a0 EL S0 y B ml ret V h cl sl (mkF m pc L st))
   (K : Pays p l e R s args below Z EL V h y' 3 W kc ks (.ref b :: argsL).toArray Q) (wl : (Jvm.Cond.methodLink y.cls index y').before a0 Z = true) (wi : (Jvm.Cond.instanceMethod y').before a0 Z = true) (wp : (Jvm.Cond.privateMethod y').before a0 Z = true) (ws : (Jvm.Cond.selects C y' y').before a0 Z = true) (wc : (Jvm.Cond.code y' B' ml' ret').before a0 Z = true)
   (hy : y'.cls ≠ "java/lang/invoke/MethodHandle" ∧ y'.cls ≠ "java/lang/invoke/VarHandle") (E : Exa Z h b C) (hpd : parseMethodDescriptor y'.desc = some ⟨ps, r⟩) (hlen : argsL.length = ps.length) (hst : st = argsL.reverse ++ .ref b :: rest) (hW : (rest.map fun v => v.category).sum ≤ W) (hL : L.size = ml) (hd : decode B pc = .ok (.invokevirtual index, 3)) (hc : cl + kc ≤ R.cells) (hs : sl + ks ≤ R.slots) (hp : pc + 3 = pc' := by rfl) :
   ∃ (v : Option Value) (V' : Vm) (h' : Heap), Q v h' ∧ CHr Z EL V h V' h' ∧ Wk p l e R s m args below meth c Z a0 EL S0 y B ml ret V' h' (cl + kc) (sl + ks) (mkF m pc' L (v.toList ++ rest)) := by
 subst hp
 obtain ⟨hf, ⟨hz, hC, hO⟩, T, locs, k0, X, e0, h1, h2, h3, st0⟩ := id w
 obtain ⟨cell, q1, q2⟩ := E.cell
 obtain ⟨mk, methM, hnamed, hmethM, hstM, habM⟩ := Cond.instanceMethod_spec (mv (s := s.setVm V) (args := args) hz wi)
 obtain ⟨methM', cM, hmethM', -, -, -, -, -, -, hsigM⟩ := Cond.code_spec hnamed (mv (s := s.setVm V) (args := args) hz wc)
 cases hmethM.symm.trans hmethM'
 obtain ⟨c2, r2, m2, -, -, q3, -, kP, hkP, hkPi⟩ := Cond.selects_spec (mv (s := s.setVm V) (args := args) hz ws)
 cases hnamed.symm.trans q3
 have hselP : selectMethod e.platform (s.setVm V).vm cell.cls mk = .method mk := selectMethod_private hmethM (Cond.privateMethod_at (mvP (s := s.setVm V) hz wp (args := #[])) mk methM hnamed hmethM)
 obtain ⟨vm₁, X₁, hstep₁⟩ := X.invokevirtual hf.1 w.own (mv (s := s.setVm V) hz wl) hnamed hmethM hstM hkP hkPi hy (a := b) (cell := cell) (by rw [e0]; exact q1) q2 hselP hmethM habM hkP hkPi (g := mkF m pc L st) rfl (argsL := argsL) (rest := rest) (lenOf hpd hlen _ hsigM) hst (hb hf.2.1 hd)
 obtain ⟨v, D, X', hS, hgr, hpost, hsteps⟩ := K m meth c ⟨T.setVm vm₁, locs, cl, sl⟩ { (mkF m pc L st) with stack := rest } (.invokevirtual index) mk (.ref b :: argsL).toArray X₁ rfl (hL.trans hf.2.2.1.symm) (hb hf.2.1 hd) (by show 2 * 0 + (rest.map fun v => v.category).sum ≤ W; omega) (X₁.named hnamed) ⟨rfl, e0, hc, hs⟩
 obtain ⟨V', h', a1, a2, a3⟩ := w.back (g' := mkF m (pc + 3) L (v.toList ++ rest)) (y' := y') h1 h2 h3 e0 X' hS hgr hpost (fun t q => st0 t ((hstep₁ _ fun acts => by rw [doInvoke_state]; exact Steps.refl _).trans (hsteps.trans q)))
 exact ⟨v, V', h', a1, a2, a3⟩
theorem own_nf {s : State} {y1 y2 : MethodName} {C : String} (hZ : Z.Warmed39 s.vm) (w2 : (Jvm.Cond.instanceMethod y2).before a0 Z = true) (ws : (Jvm.Cond.selects C y2 y2).before a0 Z = true) (hc : y2.cls = y1.cls) : NotFace s y1 := fun r0 n1 => by
 obtain ⟨r1, m1, n2, -⟩ := Cond.instanceMethod_spec (mv (s := s) (args := #[]) hZ w2)
 obtain ⟨kr, hkr, hni⟩ := notFace_of_selects (args := #[]) (mv (s := s) hZ ws) r1 n2
 have c1 := findClass_of_methodNamed n1
 have c2 := findClass_of_methodNamed n2
 rw [hc] at c2
 exact ⟨kr, by rw [Option.some.inj (c1.symm.trans c2)]; exact hkr, hni⟩
theorem Wk.fin {g : JFrame} {v : Option Value} {k n : Nat} {Q : Option Value → Heap → Prop} (w : Wk p l e R s m args below meth c Z a0 EL S0 y B ml ret V h cl sl g) (hv : ret = none → v = none)
   (step : ∀ (T : State) (locs : List Loc) (fs : List Frame), Stand p l e R (s.setVm V) m args below meth c T locs cl sl → (∀ (f : JFrame) (acts : List Action), f.method = m → f.locked = none → f.entered = [] → (doReturn e (T.setTop f) acts v).1 = T.setFrames fs) → Steps p.tables e below (T.setTop g) (T.setFrames fs))
   (hQ : Q v h) (hk : cl ≤ k) (hn : sl ≤ n) : Fini p e below s Z EL S0 k n Q := by
 obtain ⟨hf, ⟨hz, hC, hO⟩, T, locs, k0, X, e0, h1, h2, h3, st0⟩ := id w
 obtain ⟨fs, hr, hrun, hend, hR⟩ := (X.more hk hn).leaveW h1 (by rw [e0]; exact h2) (v := v) (fun q => hv (hf.2.2.2.1.symm.trans q)) hf.2.2.2.2.1
 have e1 : (T.setFrames fs).heap = h := e0
 refine ⟨T.setFrames fs, .returned v, st0 _ (step T locs fs X hr), hrun, hend, v, locs, rfl, by rw [e1]; exact hQ, by rw [e1]; exact hO, h3, ?_, hR⟩
 rw [e1]
 show CHr Z EL s.vm s.heap T.vm h
 exact hC.trans (CHv.at X hz w.el w.ch)
theorem Wk.ret0 {pc : Nat} {L : Array Slot} {k n : Nat} {Q : Option Value → Heap → Prop} (w : Wk p l e R s m args below meth c Z a0 EL S0 y B ml none V h cl sl (mkF m pc L [])) (hd : decode B pc = .ok (.return_, 1)) (hQ : Q none h) (hk : cl ≤ k) (hn : sl ≤ n) : Fini p e below s Z EL S0 k n Q :=
 w.fin (fun _ => rfl) (fun T locs fs X hr => X.returnOut w.1.1 w.1.2.2.2.1 (hb w.1.2.1 hd) hr) hQ hk hn
theorem Wk.retA {pc : Nat} {L : Array Slot} {st : List Value} {x : Value} {t : FieldType} {k n : Nat} {Q : Option Value → Heap → Prop} (w : Wk p l e R s m args below meth c Z a0 EL S0 y B ml (some t) V h cl sl (mkF m pc L (x :: st))) (hd : decode B pc = .ok (.areturn, 1)) (hQ : Q (some x) h) (hk : cl ≤ k) (hn : sl ≤ n) (ht : t.isReference = true := by rfl) (hx : x.isRef = true := by rfl) : Fini p e below s Z EL S0 k n Q :=
 w.fin (fun q => nomatch q) (fun T locs fs X hr => retOut X w.1.1 w.1.2.2.2.1 (by cases t <;> first | (cases ht; done) | (rcases ref_cases hx with rfl | ⟨z, rfl⟩ <;> rfl)) (Or.inr (Or.inr (Or.inr (Or.inr ⟨rfl, ht, hx⟩)))) (hb w.1.2.1 hd) hr) hQ hk hn
theorem Wk.retI {pc : Nat} {L : Array Slot} {st : List Value} {x : Int32} {k n : Nat} {Q : Option Value → Heap → Prop} (w : Wk p l e R s m args below meth c Z a0 EL S0 y B ml (some .int) V h cl sl (mkF m pc L (.int x :: st))) (hd : decode B pc = .ok (.ireturn, 1)) (hQ : Q (some (.int x)) h) (hk : cl ≤ k) (hn : sl ≤ n) : Fini p e below s Z EL S0 k n Q :=
 w.fin (fun q => nomatch q) (fun T locs fs X hr => retOut X w.1.1 w.1.2.2.2.1 rfl (Or.inl ⟨rfl, Or.inl rfl, _, rfl⟩) (hb w.1.2.1 hd) hr) hQ hk hn
theorem Wk.retN {pc : Nat} {L : Array Slot} {st : List Value} {x : Int32} {t : FieldType} {k n : Nat} {Q : Option Value → Heap → Prop} (w : Wk p l e R s m args below meth c Z a0 EL S0 y B ml (some t) V h cl sl (mkF m pc L (.int x :: st))) (hd : decode B pc = .ok (.ireturn, 1)) (ht : t = .boolean ∨ t = .byte ∨ t = .char ∨ t = .short) (hQ : Q (some (.int (nar t x))) h) (hk : cl ≤ k) (hn : sl ≤ n) : Fini p e below s Z EL S0 k n Q :=
 w.fin (fun q => nomatch q) (fun T locs fs X hr => RoadKit.retN X w.1.1 w.1.2.2.2.1 ht (hb w.1.2.1 hd) hr) hQ hk hn
theorem Fini.mono {k n : Nat} {Q Q' : Option Value → Heap → Prop} (F : Fini p e below s Z EL S0 k n Q) (hq : ∀ v h, Q v h → Q' v h) : Fini p e below s Z EL S0 k n Q' := by
 obtain ⟨s₂, o, h1, h2, h3, v, L, h4, h5, r⟩ := F
 exact ⟨s₂, o, h1, h2, h3, v, L, h4, hq _ _ h5, r⟩
end OwnWk
end Jvm.Pilot.@@N@@
namespace Jvm.Pilot.@@N@@
open Jvm Jvm.ClassFile Sem Op Lib Jvm.Free Jvm.Stand Jvm.LawKit Jvm.RoadKit Bundle
section OwnStr
variable {p : Program} {l : Launch} {e : Env} {R : Room} {s : State} {m : MethodId} {args : Array Value} {below : List Frame} {meth : Method} {c : Code} {Z : State} {a0 : Array Value} {EL : List (String × Nat)} {S0 : State} {y : MethodName} {B : ByteArray} {ml : Nat} {ret : Option FieldType} {V : Vm} {h h' : Heap} {cl sl : Nat} {g : JFrame}
theorem Pays.mono {y' : MethodName} {len W kc ks : Nat} {as' : Array Value} {Q Q' : Option Value → Heap → Prop} (K : Pays p l e R s args below Z EL V h y' len W kc ks as' Q) (hq : ∀ v h, Q v h → Q' v h) : Pays p l e R s args below Z EL V h y' len W kc ks as' Q' := by
 intro m meth c A g ig mk a X hg hsize hdg hW hn hp
 obtain ⟨v, D, X', h1, h2, ⟨L, q1, q2⟩, st⟩ := K m meth c A g ig mk a X hg hsize hdg hW hn hp
 exact ⟨v, D, X', h1, h2, ⟨L, hq _ _ q1, q2⟩, st⟩
/-- x is a String that spells cs, each sign 0 to 255 -/
def Str (Z : State) (h : Heap) (x : Addr) (cs : List Int32) : Prop :=
 (∀ c ∈ cs, ¬ c < 0 ∧ ¬ (255 : Int32) < c) ∧ ∃ (t : Addr) (kb : ClassId), Exa Z h x "java/lang/String" ∧ Fld Z h x "java/lang/String" "value" "[B" (.ref t) ∧ Fld Z h x "java/lang/String" "coder" "B" (.int 0) ∧ Arv Z h t kb .byte (Int32.ofNat cs.length) (cs.map fun c => Value.int c.toInt8.toInt32) (.int 0)
theorem Str.ext {x : Addr} {cs : List Int32} (E : Ext h h') (S : Str Z h x cs) : Str Z h' x cs := by
 obtain ⟨h1, t, kb, h2, h3, h4, h5⟩ := S; exact ⟨h1, t, kb, h2.ext E, h3.ext E, h4.ext E, h5.ext E⟩
theorem Str.exa {x : Addr} {cs : List Int32} (S : Str Z h x cs) : Exa Z h x "java/lang/String" := by obtain ⟨h1, t, kb, h2, h3, h4, h5⟩ := S; exact h2
theorem Str.lt {x : Addr} {cs : List Int32} (S : Str Z h x cs) : x < h.size := S.exa.lt
theorem and255 (x : Int32) : ¬ (x &&& 255) < 0 ∧ ¬ (255 : Int32) < (x &&& 255) := by
 have h := c_and x 255 (by decide)
 have e1 : (255 : Int32).toInt = 255 := by decide
 have e0 : (0 : Int32).toInt = 0 := by decide
 rw [Int32.lt_iff_toInt_lt, Int32.lt_iff_toInt_lt]; omega
theorem nar255 (x : Int32) : nar .char (x &&& 255) = x &&& 255 := i2c_mask x
theorem chars1 {a : Int32} (h : ¬ a < 0 ∧ ¬ (255 : Int32) < a) {cs : List Int32} (r : ∀ c ∈ cs, ¬ c < 0 ∧ ¬ (255 : Int32) < c) : ∀ c ∈ a :: cs, ¬ c < 0 ∧ ¬ (255 : Int32) < c := fun c hc => by
 rcases List.mem_cons.mp hc with rfl | hc
 · exact h
 · exact r c hc
theorem chars0 : ∀ c ∈ ([] : List Int32), ¬ c < 0 ∧ ¬ (255 : Int32) < c := fun _ q => nomatch q
/-- ldc of a String constant of EL: it spells cs -/
theorem Wk.ldcT {pc pc' : Nat} {L : Array Slot} {st : List Value} {index : Nat} {text : String} (cs : List Int32) (n : Nat) (w : Wk p l e R s m args below meth c Z a0 EL S0 y B ml ret V h cl sl (mkF m pc L st)) (wl : (Jvm.Cond.stringLink y.cls index text).before a0 Z = true) (wS : ∀ a ∈ Bundle.stringAtoms, a.before a0 Z = true) (hm : (y.cls, index) ∈ EL)
   (ht1 : ∀ c ∈ text.toList, c.toNat < 256) (ht2 : (text.toList.map fun c => Jvm.Lit.byteI c.toNat.toUInt16) = cs.map fun c => c.toInt8.toInt32) (hcs : ∀ c ∈ cs, ¬ c < 0 ∧ ¬ (255 : Int32) < c) (hz : ¬ Int32.ofNat cs.length < 0) (hl : (Int32.ofNat cs.length).toNatClampNeg = cs.length) (hd : decode B pc = .ok (.ldc index, 2)) (hn : 4 * text.toList.length ≤ n) (hbig : n ≤ 536870912) (hc : cl + 2 ≤ R.cells) (hl' : sl + (n + 4) ≤ R.slots) (hp : pc + 2 = pc' := by rfl) :
   ∃ (a : Addr) (V' : Vm) (h' : Heap), Ext h h' ∧ Str Z h' a cs ∧ (∀ x, Safe Z EL V' h' x → x ≠ a) ∧ CHr Z EL V h V' h' ∧
     Wk p l e R s m args below meth c Z a0 EL S0 y B ml ret V' h' (cl + 2) (sl + (n + 4)) (mkF m pc' L (.ref a :: st)) := by
 obtain ⟨a, V', h', b, k, E, q1, q2, q3, q4, q5, Q, w'⟩ := w.ldcS (vs := cs.map fun c => Value.int c.toInt8.toInt32) (z := Int32.ofNat cs.length) n wl wS hm ⟨ht1, by
   have := congrArg (List.map Value.int) ht2
   simpa [List.map_map, Function.comp_def] using this⟩ hz (by rw [hl]; simp) hd hn hbig hc hl' hp
 exact ⟨a, V', h', E, ⟨hcs, b, k, q1, q3, q2, q4⟩, fun x S => (q5 x S).1, Q, w'⟩
/-- an array of the start, by the words of the case -/
theorem own_arr0 {s : State} {args : Array Value} (hfit : Fit s) {t : Term} {b : Addr} {ty : FieldType} {n : Int32} (vs : List Value) (dv : Value) (ev : t.eval args s none [] s = some (.ref b)) (ha : (Jvm.Cond.arrayOf t ty).value args s none s [] = some true) (hl : (Jvm.Cond.eq (.length t) (.int n)).value args s none s [] = some true) (hn : ¬ n < 0) (hlen : n.toNatClampNeg = vs.length)
   (H : ∀ i v, vs[i]? = some v → (Term.elem t (.int (Int32.ofNat i))).eval args s none [] s = some v) : ∃ k, Arv s s.heap b k ty n vs dv := by
 obtain ⟨cl, A⟩ := Arr.start ev ha
 have e1 := eqv_i (Term.int_eval n) hl
 obtain ⟨b', cl', f1, f2, f3⟩ := Term.length_spec e1
 cases ev.symm.trans f1
 have f4 := (State.arrayAt?_spec f2).1
 cases A.1.symm.trans f4
 have q : cl.slots.size < 2 ^ 31 := SBG.length_lt ev f2 e1
 have hz : cl.slots.size.toInt32 = n := (Value.int.inj f3).symm
 refine ⟨cl.cls, Arv.start hfit A q hz hn hlen ?_⟩
 have key : ∀ (us : List Value) (i : Nat), (∀ j v, us[j]? = some v → vs[i + j]? = some v) → i + us.length ≤ vs.length → HasL cl i us := by
   intro us
   induction us with
   | nil => intro i _ _; trivial
   | cons u us ih =>
     intro i hi hle
     have hle' : i + (us.length + 1) ≤ vs.length := hle
     refine ⟨?_, ih (i + 1) (fun j v hv => by have := hi (j + 1) v (by simpa using hv); rwa [show i + (j + 1) = i + 1 + j by omega] at this) (by omega)⟩
     have hu := hi 0 u rfl
     have hE := H i u (by simpa using hu)
     have hi31 : i < 2 ^ 31 := by have := back32 hn; omega
     obtain ⟨-, g2⟩ := elem_in hE ev (Term.int_eval _) A.1
     have e3 : (Int32.ofNat i).toNatClampNeg = i := by
       have h0 : ¬ Int32.ofNat i < 0 := Int32.ofNat_not_neg hi31
       have h1 := nat_of h0
       have h2 : (Int32.ofNat i).toInt = i := Int32.toInt_ofNat_small hi31
       omega
     rw [e3] at g2; exact g2
 exact key vs 0 (fun j v hv => by simpa using hv) (by simp)
end OwnStr
end Jvm.Pilot.@@N@@
namespace Jvm.Pilot.@@N@@
open Jvm Jvm.ClassFile Sem Op Lib Jvm.Free Jvm.Stand Jvm.LawKit Jvm.RoadKit Bundle
section OwnObj
variable {p : Program} {l : Launch} {e : Env} {R : Room} {s : State} {m : MethodId} {args : Array Value} {below : List Frame} {meth : Method} {c : Code} {Z : State} {a0 : Array Value} {EL : List (String × Nat)} {S0 : State} {y : MethodName} {B : ByteArray} {ml : Nat} {ret : Option FieldType} {V : Vm} {h h' : Heap} {cl sl : Nat} {g : JFrame}
/-- invokeinterface of xi on an object of the class C, where it goes to y' -/
theorem Wk.face {pc pc' : Nat} {L : Array Slot} {st rest argsL : List Value} {index W kc ks count : Nat} {xi y' : MethodName} {C : String} {b : Addr} {Q : Option Value → Heap → Prop} {ps : List FieldType} {r : Option FieldType} (w : Wk p l e R s m args below meth c Z a0 EL S0 y B ml ret V h cl sl (mkF m pc L st))
   (K : Pays p l e R s args below Z EL V h y' 5 W kc ks (.ref b :: argsL).toArray Q) (wl : (Jvm.Cond.methodLink y.cls index xi).before a0 Z = true) (wd : (Jvm.Cond.declares xi).before a0 Z = true) (wf : (Jvm.Cond.interfaceMethod xi.cls xi.cls xi.name xi.desc).before a0 Z = true) (ws : (Jvm.Cond.selects C xi y').before a0 Z = true) (wi : (Jvm.Cond.instanceMethod y').before a0 Z = true)
   (wp : (Jvm.Cond.publicMethod y').before a0 Z = true) (wu : (Jvm.Cond.unhidden C xi.name xi.desc).before a0 Z = true) (wc : (Jvm.Cond.castable C xi.cls).before a0 Z = true)
   (hy : xi.cls ≠ "java/lang/invoke/MethodHandle" ∧ xi.cls ≠ "java/lang/invoke/VarHandle") (E : Exa Z h b C) (hpd : parseMethodDescriptor xi.desc = some ⟨ps, r⟩) (hlen : argsL.length = ps.length) (hst : st = argsL.reverse ++ .ref b :: rest) (hW : (rest.map fun v => v.category).sum ≤ W) (hL : L.size = ml) (hd : decode B pc = .ok (.invokeinterface index count, 5)) (hc : cl + kc ≤ R.cells) (hs : sl + ks ≤ R.slots) (hp : pc + 5 = pc' := by rfl) (hfa : ((Jvm.Cond.interfaceMethod xi.cls xi.cls xi.name xi.desc).onTables && (Jvm.Cond.interfaceMethod xi.cls xi.cls xi.name xi.desc).keepsFace) = true := by rfl) :
   ∃ (v : Option Value) (V' : Vm) (h' : Heap), Q v h' ∧ CHr Z EL V h V' h' ∧ Wk p l e R s m args below meth c Z a0 EL S0 y B ml ret V' h' (cl + kc) (sl + ks) (mkF m pc' L (v.toList ++ rest)) := by
 subst hp
 obtain ⟨hf, ⟨hz, hC, hO⟩, T, locs, k0, X, e0, h1, h2, h3, st0⟩ := id w
 obtain ⟨cB, kB, i1, i2, i3⟩ := isOf (s := s.setVm V) hz e0 E
 obtain ⟨v, vm₁, D, -, X', hS, hgr, hpost, st'⟩ := X.interfaceBackS hf.1 w.own (mv (s := s.setVm V) hz wl) (mv (s := s.setVm V) hz wd) (mv (s := s.setVm V) hz wf hfa) (mv (s := s.setVm V) hz ws) (mv (s := s.setVm V) hz wi) (mv (s := s.setVm V) hz wp) (mv (s := s.setVm V) hz wu) (mv (s := s.setVm V) hz wc) hy K i1 i2 i3 (g := mkF m pc L st) rfl (hL.trans hf.2.2.1.symm) (Steps.refl _) (argsL := argsL) (rest := rest) (lenOf hpd hlen) hst (by show 2 * 0 + _ ≤ _; omega) (hb hf.2.1 hd) (fun _ _ => ⟨rfl, e0, hc, hs⟩)
 obtain ⟨V', h', a1, a2, a3⟩ := w.back (g' := mkF m (pc + 5) L (v.toList ++ rest)) (y' := y') h1 h2 h3 e0 X' hS hgr hpost (fun t q => st0 t (st'.trans q))
 exact ⟨v, V', h', a1, a2, a3⟩
/-- anewarray -/
theorem Wk.anew {pc pc' : Nat} {L : Array Slot} {st : List Value} {index : Nat} {C ad : String} {n : Int32} {cap : Nat} (w : Wk p l e R s m args below meth c Z a0 EL S0 y B ml ret V h cl sl (mkF m pc L (.int n :: st))) (w1 : (Jvm.Cond.classLink y.cls index C).before a0 Z = true) (w2 : (Jvm.Cond.arrayOver (.object C)).before a0 Z = true)
   (hd : decode B pc = .ok (.anewarray index, 3)) (hn : ¬ n < 0) (hcap : n.toNatClampNeg ≤ cap) (had : "[" ++ (FieldType.object C).toString = ad) (hc : cl + 1 ≤ R.cells) (hl : sl + cap ≤ R.slots) (hb8 : cap * 8 ≤ 536870912 := by decide) (hp : pc + 3 = pc' := by rfl) :
   ∃ (h' : Heap) (a : Addr) (k : ClassId), a = h.size ∧ Ext h h' ∧ Arv Z h' a k (.object C) n [] .null ∧ Exa Z h' a ad ∧ Ovr Z k C ∧ CHr Z EL V h V h' ∧
     Wk p l e R s m args below meth c Z a0 EL S0 y B ml ret V h' (cl + 1) (sl + cap) (mkF m pc' L (.ref a :: st)) := by
 subst hp
 obtain ⟨hf, ⟨hz, hC, hO⟩, T, locs, k0, X, e0, h1, h2, h3, st0⟩ := id w
 obtain ⟨T', h', k, X', e', E, A, Ex, O, st'⟩ := newRE X hf.1 hz w.own w1 w2 e0 (g := mkF m pc L (.int n :: st)) rfl (hb hf.2.1 hd) rfl hn hcap hb8 hc hl had
 have Q : CHr Z EL V h V h' := CHr.ext E w.ch
 exact ⟨h', h.size, k, rfl, E, Arv.new A hn, Ex, O, Q, hf, ⟨hz, hC.trans Q, extT hO E⟩, T', locs, k0, X', e', h1, Nat.le_trans h2 E.1, h3, fun t q => st0 t (st' t q)⟩
/-- aastore into an array of the walk's own -/
theorem Wk.aastore {pc pc' : Nat} {L : Array Slot} {st : List Value} {a : Addr} {k : ClassId} {z j : Int32} {ty : FieldType} {v : Value} {vs : List Value} {dv : Value} (w : Wk p l e R s m args below meth c Z a0 EL S0 y B ml ret V h cl sl (mkF m pc L (v :: .int j :: .ref a :: st))) (A : Arv Z h a k ty z vs dv) (F : Sto Z h a v) (hv : fits ty v = true)
   (hd : decode B pc = .ok (.aastore, 1)) (hj : ¬ j < 0 ∧ j < z) (i : Nat) (hi : j.toNatClampNeg = i) (hlen : i < vs.length) (ha : Z.heap.size ≤ a) (hty : ty.isReference = true := by rfl) (hp : pc + 1 = pc' := by rfl) :
   ∃ h' : Heap, Keep h h' [a] ∧ Arv Z h' a k ty z (vs.set i v) dv ∧ CHr Z EL V h V h' ∧ Wk p l e R s m args below meth c Z a0 EL S0 y B ml ret V h' cl sl (mkF m pc' L st) := by
 subst hp
 obtain ⟨hf, ⟨hz, hC, hO⟩, T, locs, k0, X, e0, h1, h2, h3, st0⟩ := id w
 obtain ⟨cA, A1, A2, A3, A4, A5, A6⟩ := id A
 obtain ⟨T', h', X', e', W, st'⟩ := stR X hf.1 hz e0 A1 (j := j) (inb_of A3 hj) hty F (g := mkF m pc L (v :: .int j :: .ref a :: st)) rfl rfl (hb hf.2.1 hd)
 have K := Keep.of_wr W
 have nb : ty ≠ .byte := fun q => by subst q; cases hty
 have S : Safe Z EL V h a := Safe.arv hz.alike A nb
 have Q : CHr Z EL V h V h' := CHr.keep K (allS S all0) w.ch
 exact ⟨h', K, Arv.set A1 A2 A3 A4 A5 A6 hv W i hi hlen, Q, hf, ⟨hz, hC.trans Q, extK hO K (allS ha all0)⟩, T', _, k0, X', e', h1, Nat.le_trans h2 K.1, Fr.snoc X' h3 ha, fun t q => st0 t (st' t q)⟩
/-- instanceof that says no -/
theorem Wk.instNo {pc pc' : Nat} {L : Array Slot} {st : List Value} {index : Nat} {K C : String} {a : Addr} (w : Wk p l e R s m args below meth c Z a0 EL S0 y B ml ret V h cl sl (mkF m pc L (.ref a :: st))) (wl : (Jvm.Cond.classLink y.cls index K).before a0 Z = true) (E : Exa Z h a C) (F : ∃ c t, Z.vm.findClass C = some c ∧ Z.vm.findClass K = some t ∧ Z.vm.assignable c t = false) (hd : decode B pc = .ok (.instanceof index, 3)) (hp : pc + 3 = pc' := by rfl) :
   Wk p l e R s m args below meth c Z a0 EL S0 y B ml ret V h cl sl (mkF m pc' L (.int 0 :: st)) := by
 subst hp
 refine w.heap (CHr.refl w.ch) w.old fun T locs X e0 f => ?_
 obtain ⟨T', X', e', st'⟩ := RoadKit.instNo X w.1.1 w.hZ w.own wl e0 E F (g := mkF m pc L (.ref a :: st)) rfl rfl (hb w.1.2.1 hd)
 exact ⟨T', locs, X', e', f, st'⟩
/-- dup_x1 of two plain words -/
theorem Wk.dupX1 {pc pc' : Nat} {L : Array Slot} {st : List Value} {u v : Value} (w : Wk p l e R s m args below meth c Z a0 EL S0 y B ml ret V h cl sl (mkF m pc L (u :: v :: st))) (hd : decode B pc = .ok (.dup_x1, 1)) (hu : u.category = 1 := by rfl) (hv : v.category = 1 := by rfl) (hp : pc + 1 = pc' := by rfl) :
   Wk p l e R s m args below meth c Z a0 EL S0 y B ml ret V h cl sl (mkF m pc' L (u :: v :: u :: st)) := by
 subst hp
 exact w.st fun T t X hx hB k => by
   have hd' : decode c.code pc = .ok (.dup_x1, 1) := hb hB hd
   have hg : (mkF m pc L (u :: v :: st)).method = m := rfl
   jvm_step X [X.top, hx, hd', hu, hv, mkF]
   exact k
/-- ldc of a float -/
theorem Wk.ldcF {pc pc' : Nat} {L : Array Slot} {st : List Value} {index : Nat} {b : UInt32} (w : Wk p l e R s m args below meth c Z a0 EL S0 y B ml ret V h cl sl (mkF m pc L st)) (wc : (Jvm.Cond.constantFloat y.cls index b).before a0 Z = true) (hd : decode B pc = .ok (.ldc index, 2)) (hp : pc + 2 = pc' := by rfl) :
   Wk p l e R s m args below meth c Z a0 EL S0 y B ml ret V h cl sl (mkF m pc' L (.float b :: st)) := by
 subst hp
 exact w.stX fun T locs t X e0 k => X.ldcFloatC w.1.1 w.own (mv (s := s.setVm V) w.hZ wc) (g := mkF m pc L st) rfl (hb w.1.2.1 hd) t k
/-- the Class object of C -/
def Mro (Z : State) (C : String) (r : Addr) : Prop := ∃ (c : ClassId) (k : Class), Z.vm.findClass C = some c ∧ Z.vm.classes[c]? = some k ∧ k.mirror = some r
/-- ldc of a Class -/
theorem Wk.ldcM {pc pc' : Nat} {L : Array Slot} {st : List Value} {index : Nat} {C : String} {r : Addr} (w : Wk p l e R s m args below meth c Z a0 EL S0 y B ml ret V h cl sl (mkF m pc L st)) (wl : (Jvm.Cond.classLink y.cls index C).before a0 Z = true) (M : Mro Z C r) (hd : decode B pc = .ok (.ldc index, 2)) (hp : pc + 2 = pc' := by rfl) :
   Wk p l e R s m args below meth c Z a0 EL S0 y B ml ret V h cl sl (mkF m pc' L (.ref r :: st)) := by
 subst hp
 refine w.heap (CHr.refl w.ch) w.old fun T locs X e0 f => ?_
 obtain ⟨cc, k, q1, q2, q3⟩ := M
 obtain ⟨k', q4, ek⟩ := w.hZ.alike.2.2 _ _ q2
 have ev : (Term.mirror C).eval args (s.setVm V) none [] (s.setVm V) = some (.ref r) := by
   have e1 : V.findClass C = some cc := (w.hZ.alike.findClass C _).trans q1
   have e2 : V.classes[cc]? = some k' := q4
   have e3 : k'.mirror = some r := by rw [ek]; exact q3
   simp [Term.eval, e1, e2, e3]
 obtain ⟨vm', X', st'⟩ := X.ldcMirror w.1.1 w.own (mv (s := s.setVm V) w.hZ wl) ev (g := mkF m pc L st) rfl (hb w.1.2.1 hd)
 exact ⟨_, locs, X', e0, f, st'⟩
/-- getClass() -/
theorem Wk.getClass {pc pc' : Nat} {L : Array Slot} {st : List Value} {index W : Nat} {C : String} {a r : Addr} (w : Wk p l e R s m args below meth c Z a0 EL S0 y B ml ret V h cl sl (mkF m pc L (.ref a :: st)))
   (w1 : (Jvm.Cond.methodLink y.cls index ⟨"java/lang/Object", "getClass", "()Ljava/lang/Class;"⟩).before a0 Z = true) (w2 : (Jvm.Cond.declares ⟨"java/lang/Object", "getClass", "()Ljava/lang/Class;"⟩).before a0 Z = true) (w3 : (Jvm.Cond.noSuperclass "java/lang/Object").before a0 Z = true) (w4 : (Jvm.Cond.selects C ⟨"java/lang/Object", "getClass", "()Ljava/lang/Class;"⟩ ⟨"java/lang/Object", "getClass", "()Ljava/lang/Class;"⟩).before a0 Z = true)
   (w5 : (Jvm.Cond.instanceMethod ⟨"java/lang/Object", "getClass", "()Ljava/lang/Class;"⟩).before a0 Z = true) (w6 : (Jvm.Cond.native ⟨"java/lang/Object", "getClass", "()Ljava/lang/Class;"⟩).before a0 Z = true) (E : Exa Z h a C) (M : Mro Z C r)
   (hL : L.size = ml) (hd : decode B pc = .ok (.invokevirtual index, 3)) (hf : 1 ≤ R.frames) (hW : (st.map fun v => v.category).sum ≤ W) (hlo : W + (nativeFrameWords "java/lang/Object" "getClass" 1 + 11) ≤ R.locals) (hp : pc + 3 = pc' := by rfl) :
   Wk p l e R s m args below meth c Z a0 EL S0 y B ml ret V h cl sl (mkF m pc' L (.ref r :: st)) := by
 subst hp
 refine w.heap (CHr.refl w.ch) w.old fun T locs X e0 f => ?_
 obtain ⟨cB, kB, i1, i2, i3⟩ := isOf (s := s.setVm V) w.hZ e0 E
 obtain ⟨cc, kc, m1, m2, m3⟩ := M
 have i1' : Z.vm.findClass C = some cB := (w.hZ.alike.findClass C _).symm.trans i1
 cases i1'.symm.trans m1
 obtain ⟨k', q, ek⟩ := w.hZ.alike.2.2 _ _ m2
 obtain ⟨vm', X', st'⟩ := X.getClassOf w.1.1 w.own (mv (s := s.setVm V) w.hZ w1) (mv (s := s.setVm V) w.hZ w2) (nf_top (args := #[]) (mv (s := s.setVm V) w.hZ w3)) (mv (s := s.setVm V) w.hZ w4) (mv (s := s.setVm V) w.hZ w5) (mv (s := s.setVm V) w.hZ w6) i1 i3 q (by rw [ek]; exact m3) (g := mkF m pc L (.ref a :: st)) rfl (hL.trans w.1.2.2.1.symm) rfl (hb w.1.2.1 hd) hf (by show 2 * 0 + _ + _ ≤ _; omega)
 exact ⟨_, locs, X', e0, f, st'⟩
/-- getfield by a subclass's name or a nest mate's -/
theorem Wk.getFV {pc pc' : Nat} {L : Array Slot} {st : List Value} {index : Nat} {R0 O n d host : String} {a : Addr} {v : Value} (w : Wk p l e R s m args below meth c Z a0 EL S0 y B ml ret V h cl sl (mkF m pc L (.ref a :: st))) (wl : (Jvm.Cond.fieldLink y.cls index R0 n d).before a0 Z = true ∨ (Jvm.Cond.fieldLinkNest y.cls index R0 n d host).before a0 Z = true) (via : Via Z R0 O n d) (F : Fld Z h a O n d v) (hd : decode B pc = .ok (.getfield index, 3)) (hp : pc + 3 = pc' := by rfl) :
   Wk p l e R s m args below meth c Z a0 EL S0 y B ml ret V h cl sl (mkF m pc' L (v :: st)) := by
 subst hp
 refine w.heap (CHr.refl w.ch) w.old fun T locs X e0 f => ?_
 obtain ⟨T', X', e', st'⟩ := RoadKit.getF X w.1.1 w.hZ w.own (host := host) wl via e0 F (g := mkF m pc L (.ref a :: st)) rfl rfl (hb w.1.2.1 hd)
 exact ⟨T', locs, X', e', f, st'⟩
theorem Wk.getSN {pc pc' : Nat} {L : Array Slot} {st : List Value} {index : Nat} {O n d host : String} {v : Value} (w : Wk p l e R s m args below meth c Z a0 EL S0 y B ml ret V h cl sl (mkF m pc L st)) (wl : (Jvm.Cond.fieldLinkNest y.cls index O n d host).before a0 Z = true) (F : Sta Z Z.heap O n d v) (hd : decode B pc = .ok (.getstatic index, 3)) (hp : pc + 3 = pc' := by rfl) :
   Wk p l e R s m args below meth c Z a0 EL S0 y B ml ret V h cl sl (mkF m pc' L (v :: st)) := by
 subst hp
 refine w.heap (CHr.refl w.ch) w.old fun T locs X e0 f => ?_
 obtain ⟨T', X', e', st'⟩ := RoadKit.getS2 X w.1.1 w.hZ (host := host) w.own (Or.inr wl) Via.refl e0 (F.ext w.old) (g := mkF m pc L st) rfl (hb w.1.2.1 hd)
 exact ⟨T', locs, X', e', f, st'⟩
/-- putfield by a subclass's name -/
theorem Wk.putFV {pc pc' : Nat} {L : Array Slot} {st : List Value} {index kk : Nat} {R0 O n d C : String} {ty : FieldType} {a : Addr} {v old : Value} (w : Wk p l e R s m args below meth c Z a0 EL S0 y B ml ret V h cl sl (mkF m pc L (v :: .ref a :: st))) (wl : (Jvm.Cond.fieldLink y.cls index R0 n d).before a0 Z = true) (via : Via Z R0 O n d) (F : Fld Z h a O n d old) (E : Exa Z h a C)
   (La : (Jvm.Cond.lays C O n d).before a0 Z = true) (wi : (Jvm.Cond.instantiable C kk).before a0 Z = true) (hty : parseFieldDescriptor d = some ty) (hn : narrow ty v = v) (hf0 : fits ty v = true) (S : Safe Z EL V h a) (ha : Z.heap.size ≤ a) (hd : decode B pc = .ok (.putfield index, 3)) (hp : pc + 3 = pc' := by rfl) :
   ∃ h' : Heap, Wr h h' a (RoadKit.slotOf Z O n d) v ∧ Keep h h' [a] ∧ Fld Z h' a O n d v ∧ CHr Z EL V h V h' ∧ Wk p l e R s m args below meth c Z a0 EL S0 y B ml ret V h' cl sl (mkF m pc' L st) := by
 subst hp
 obtain ⟨hf, ⟨hz, hC, hO⟩, T, locs, k0, X, e0, h1, h2, h3, st0⟩ := id w
 obtain ⟨T', h', X', e', W, st'⟩ := RoadKit.putF X hf.1 hz w.own (host := "") (Or.inl wl) via e0 F E (Or.inl La) wi hty hn hf0 (g := mkF m pc L (v :: .ref a :: st)) rfl rfl (hb hf.2.1 hd)
 have Q : CHr Z EL V h V h' := CHr.wr W S w.ch
 exact ⟨h', W, Keep.of_wr W, F.same W, Q, hf, ⟨hz, hC.trans Q, extW hO W ha⟩, T', _, k0, X', e', h1, Nat.le_trans h2 Q.2.1, Fr.snoc X' h3 ha, fun t q => st0 t (st' t q)⟩
/-- invokespecial of a nest mate's constructor -/
theorem Wk.ctorN {pc pc' : Nat} {L : Array Slot} {st rest argsL : List Value} {index W kc ks : Nat} {host : String} {y' : MethodName} {B' : ByteArray} {ml' : Nat} {a : Addr} {Q : Option Value → Heap → Prop} {ps : List FieldType} {r : Option FieldType} (w : Wk p l e R s m args below meth c Z a0 EL S0 y B ml ret V h cl sl (mkF m pc L st))
   (K : Pays p l e R s args below Z EL V h y' 3 W kc ks (.ref a :: argsL).toArray Q) (hy1 : y'.name = "<init>") (wl : (Jvm.Cond.methodLinkNest y.cls index y' host).before a0 Z = true) (wi : (Jvm.Cond.instanceMethod y').before a0 Z = true) (wc : (Jvm.Cond.code y' B' ml' none).before a0 Z = true)
   (hy : y'.cls ≠ "java/lang/invoke/MethodHandle" ∧ y'.cls ≠ "java/lang/invoke/VarHandle") (hpd : parseMethodDescriptor y'.desc = some ⟨ps, r⟩) (hlen : argsL.length = ps.length) (hst : st = argsL.reverse ++ .ref a :: rest) (hW : (rest.map fun v => v.category).sum ≤ W) (hL : L.size = ml) (hd : decode B pc = .ok (.invokespecial index, 3)) (hc : cl + kc ≤ R.cells) (hs : sl + ks ≤ R.slots) (hp : pc + 3 = pc' := by rfl) :
   ∃ (v : Option Value) (V' : Vm) (h' : Heap), Q v h' ∧ CHr Z EL V h V' h' ∧ Wk p l e R s m args below meth c Z a0 EL S0 y B ml ret V' h' (cl + kc) (sl + ks) (mkF m pc' L (v.toList ++ rest)) := by
 subst hp
 obtain ⟨hf, ⟨hz, hC, hO⟩, T, locs, k0, X, e0, h1, h2, h3, st0⟩ := id w
 have wl' : (Jvm.Cond.methodLinkNest y.cls index y' host).before args (s.setVm V) = true := (Cond.methodLinkNest_wide hz wl :)
 obtain ⟨v, vm₁, D, -, X', hS, hgr, hpost, st'⟩ := specialBackNestS X hf.1 hy1 w.own wl' (mv (s := s.setVm V) hz wi) (mv (s := s.setVm V) hz wc) hy K (g := mkF m pc L st) rfl (hL.trans hf.2.2.1.symm) (Steps.refl _) (a := a) (argsL := argsL) (rest := rest) (lenOf hpd hlen) hst (by show 2 * 0 + _ ≤ _; omega) (hb hf.2.1 hd) (fun _ _ => ⟨rfl, e0, hc, hs⟩)
 obtain ⟨V', h', a1, a2, a3⟩ := w.back (g' := mkF m (pc + 3) L (v.toList ++ rest)) (y' := y') h1 h2 h3 e0 X' hS hgr hpost (fun t q => st0 t (st'.trans q))
 exact ⟨v, V', h', a1, a2, a3⟩
/-- invokestatic of a superclass's method, by the subclass's name -/
theorem Wk.staticUp {pc pc' : Nat} {L : Array Slot} {st rest argsL : List Value} {index W kc ks : Nat} {owner : String} {x' : MethodName} {B' : ByteArray} {ml' : Nat} {ret' : Option FieldType} {Q : Option Value → Heap → Prop} {ps : List FieldType} {r : Option FieldType} (w : Wk p l e R s m args below meth c Z a0 EL S0 y B ml ret V h cl sl (mkF m pc L st))
   (K : Pays p l e R s args below Z EL V h ⟨owner, x'.name, x'.desc⟩ 3 W kc ks argsL.toArray Q) (wl : (Jvm.Cond.methodLink y.cls index x').before a0 Z = true) (wsm : (Jvm.Cond.sameMethod x'.cls owner x'.name x'.desc).before a0 Z = true) (wst : (Jvm.Cond.static ⟨owner, x'.name, x'.desc⟩).before a0 Z = true) (wz : (Jvm.Cond.initialized owner).before a0 Z = true) (wc : (Jvm.Cond.code ⟨owner, x'.name, x'.desc⟩ B' ml' ret').before a0 Z = true)
   (hy : owner ≠ "java/lang/invoke/MethodHandle" ∧ owner ≠ "java/lang/invoke/VarHandle") (hpd : parseMethodDescriptor x'.desc = some ⟨ps, r⟩) (hlen : argsL.length = ps.length) (hst : st = argsL.reverse ++ rest) (hW : (rest.map fun v => v.category).sum ≤ W) (hL : L.size = ml) (hd : decode B pc = .ok (.invokestatic index, 3)) (hc : cl + kc ≤ R.cells) (hs : sl + ks ≤ R.slots) (hp : pc + 3 = pc' := by rfl) :
   ∃ (v : Option Value) (V' : Vm) (h' : Heap), Q v h' ∧ CHr Z EL V h V' h' ∧ Wk p l e R s m args below meth c Z a0 EL S0 y B ml ret V' h' (cl + kc) (sl + ks) (mkF m pc' L (v.toList ++ rest)) := by
 subst hp
 obtain ⟨hf, ⟨hz, hC, hO⟩, T, locs, k0, X, e0, h1, h2, h3, st0⟩ := id w
 have wc' := mv (s := s.setVm V) (args := args) hz wc
 obtain ⟨mk, hnamed⟩ := Cond.code_named wc'
 obtain ⟨methM, cM, hmethM, -, -, -, -, -, -, hsig⟩ := Cond.code_spec hnamed wc'
 obtain ⟨kP, hkP, -⟩ := className_of_methodNamed hnamed
 obtain ⟨vm₁, X₁, hstep₁⟩ := X.invokestaticUp hf.1 w.own (mv (s := s.setVm V) hz wl) (mv (s := s.setVm V) hz wsm) hy hnamed hmethM (Cond.static_spec hnamed hmethM (mv (s := s.setVm V) (args := args) hz wst)) hkP (Cond.initialized_spec (findClass_of_methodNamed hnamed) hkP (mv (s := s.setVm V) (args := args) hz wz)) (g := mkF m pc L st) rfl (argsL := argsL) (rest := rest) (lenOf hpd hlen _ hsig) hst (hb hf.2.1 hd)
 obtain ⟨v, D, X', hS, hgr, hpost, hsteps⟩ := K m meth c ⟨T.setVm vm₁, locs, cl, sl⟩ (mkF m pc L rest) (.invokestatic index) mk argsL.toArray X₁ rfl (hL.trans hf.2.2.1.symm) (hb hf.2.1 hd) (by show 2 * 0 + (rest.map fun v => v.category).sum ≤ W; omega) (X₁.named hnamed) ⟨rfl, e0, hc, hs⟩
 obtain ⟨V', h', a1, a2, a3⟩ := w.back (g' := mkF m (pc + 3) L (v.toList ++ rest)) (y' := ⟨owner, x'.name, x'.desc⟩) h1 h2 h3 e0 X' hS hgr hpost (fun t q => st0 t ((hstep₁ _ fun acts => by rw [doInvoke_state]; exact Steps.refl _).trans (hsteps.trans q)))
 exact ⟨v, V', h', a1, a2, a3⟩
/-- System.arraycopy of references -/
theorem Wk.arrcopyR {pc pc' : Nat} {L : Array Slot} {st : List Value} {index W : Nat} {a b : Addr} {k k' : ClassId} {z z' sp dp nn : Int32} {vs vd us : List Value} {dv dd : Value} {ty ty' : FieldType} (w : Wk p l e R s m args below meth c Z a0 EL S0 y B ml ret V h cl sl (mkF m pc L (.int nn :: .int dp :: .ref b :: .int sp :: .ref a :: st)))
   (w1 : (Jvm.Cond.methodLink y.cls index Jvm.Stand.acN).before a0 Z = true) (w2 : (Jvm.Cond.native Jvm.Stand.acN).before a0 Z = true) (w3 : (Jvm.Cond.static Jvm.Stand.acN).before a0 Z = true) (w4 : (Jvm.Cond.initialized "java/lang/System").before a0 Z = true) (A : Arv Z h a k ty z vs dv) (D : Arv Z h b k' ty' z' vd dd) (hr : refKind ty = true) (hr' : refKind ty' = true) (hS : StoL Z h b us) (hnb : ty' ≠ .byte)
   (h1 : ¬ sp < 0) (h2 : ¬ dp < 0) (h3 : ¬ nn < 0) (h4 : sp.toNatClampNeg + nn.toNatClampNeg ≤ z.toNatClampNeg) (h5 : dp.toNatClampNeg + nn.toNatClampNeg ≤ z'.toNatClampNeg) (hus : us = (List.range nn.toNatClampNeg).map fun i => vs.getD (sp.toNatClampNeg + i) dv) (hl : dp.toNatClampNeg + nn.toNatClampNeg ≤ vd.length) (ge : Z.heap.size ≤ b)
   (hL : L.size = ml) (hd : decode B pc = .ok (.invokestatic index, 3)) (hf : 1 ≤ R.frames) (hW : (st.map fun v => v.category).sum ≤ W) (hlo : W + (nativeFrameWords "java/lang/System" "arraycopy" 5 + 11) ≤ R.locals) (hp : pc + 3 = pc' := by rfl) :
   ∃ h' : Heap, Keep h h' [b] ∧ Arv Z h' b k' ty' z' (vd.take dp.toNatClampNeg ++ us ++ vd.drop (dp.toNatClampNeg + nn.toNatClampNeg)) dd ∧ CHr Z EL V h V h' ∧ Wk p l e R s m args below meth c Z a0 EL S0 y B ml ret V h' cl sl (mkF m pc' L st) := by
 subst hp
 obtain ⟨hf0, ⟨hz, hC, hO⟩, T, locs, k0, X, e0, g1, g2, g3, st0⟩ := id w
 obtain ⟨T', h', L', X', e', f', K, D', st'⟩ := cpA X hf0.1 hz w.own w1 w2 w3 w4 e0 A D (Or.inr ⟨hr, hr', hS⟩) h1 h2 h3 h4 h5 hus hl g3 ge (g := mkF m pc L (.int nn :: .int dp :: .ref b :: .int sp :: .ref a :: st)) rfl (hL.trans hf0.2.2.1.symm) rfl (hb hf0.2.1 hd) hf (W := W) (by show 2 * 0 + _ ≤ _; omega) hlo
 have Q : CHr Z EL V h V h' := CHr.keep K (allS (Safe.arv hz.alike D hnb) all0) w.ch
 exact ⟨h', K, D', Q, hf0, ⟨hz, hC.trans Q, extK hO K (allS ge all0)⟩, T', L', k0, X', e', g1, Nat.le_trans g2 Q.2.1, f', fun t q => st0 t (st' t q)⟩
theorem Wk.tswIn {pc pc' len : Nat} {L : Array Slot} {st : List Value} {i : Int32} {dflt low high o : Int} {offs : Array Int} (w : Wk p l e R s m args below meth c Z a0 EL S0 y B ml ret V h cl sl (mkF m pc L (.int i :: st))) (hd : decode B pc = .ok (.tableswitch dflt low high offs, len)) (hin : ¬ (i.toInt < low ∨ i.toInt > high)) (hoff : offs[(i.toInt - low).toNat]? = some o) (ho : 0 ≤ (pc : Int) + o) (hp : ((pc : Int) + o).toNat = pc') :
   Wk p l e R s m args below meth c Z a0 EL S0 y B ml ret V h cl sl (mkF m pc' L st) :=
 w.st fun T t X hx hB k => XS.tswIn X hx rfl (g := mkF m pc L (.int i :: st)) rfl (hb hB hd) rfl hin hoff ho hp k
theorem Wk.tswOut {pc pc' len : Nat} {L : Array Slot} {st : List Value} {i : Int32} {dflt low high : Int} {offs : Array Int} (w : Wk p l e R s m args below meth c Z a0 EL S0 y B ml ret V h cl sl (mkF m pc L (.int i :: st))) (hd : decode B pc = .ok (.tableswitch dflt low high offs, len)) (hout : i.toInt < low ∨ i.toInt > high) (ho : 0 ≤ (pc : Int) + dflt) (hp : ((pc : Int) + dflt).toNat = pc') :
   Wk p l e R s m args below meth c Z a0 EL S0 y B ml ret V h cl sl (mkF m pc' L st) :=
 w.st fun T t X hx hB k => XS.tswOut X hx rfl (g := mkF m pc L (.int i :: st)) rfl (hb hB hd) rfl hout ho hp k
theorem Wk.lswMiss {pc pc' len : Nat} {L : Array Slot} {st : List Value} {i : Int32} {dflt : Int} {pairs : Array (Int × Int)} (w : Wk p l e R s m args below meth c Z a0 EL S0 y B ml ret V h cl sl (mkF m pc L (.int i :: st))) (hd : decode B pc = .ok (.lookupswitch dflt pairs, len)) (hso : (pairs.toList.zip (pairs.toList.drop 1)).all (fun (a, next) => a.1 < next.1) = true) (hfi : pairs.find? (·.1 == i.toInt) = none) (ho : 0 ≤ (pc : Int) + dflt) (hp : ((pc : Int) + dflt).toNat = pc') :
   Wk p l e R s m args below meth c Z a0 EL S0 y B ml ret V h cl sl (mkF m pc' L st) := by
 subst hp
 exact w.stX fun T locs t X e0 k => X.lookupswitchMiss w.1.1 (g := mkF m pc L (.int i :: st)) rfl rfl (hb w.1.2.1 hd) hso hfi ho t k
end OwnObj
end Jvm.Pilot.@@N@@
namespace Jvm.Pilot.@@N@@
open Jvm Jvm.ClassFile Sem Op Lib Jvm.Free Jvm.Stand Jvm.LawKit Jvm.RoadKit Bundle
abbrev SC (Z : State) (z : Int32) : Prop := Sta Z Z.heap "java/lang/String" "COMPACT_STRINGS" "Z" (.int z)
abbrev HW (Z : State) (a0 : Array Value) : Prop := ∀ d ∈ tables_1, d.before a0 Z = true
abbrev rM (f c s l : Nat) : Room := { frames := f, cells := c, slots := s, locals := l }
theorem wq {Z : State} {a0 : Array Value} (hw : ∀ d ∈ tables_1, d.before a0 Z = true) (i : Nat) {d : Jvm.Cond} (q : tables_1[i]? = some d) : d.before a0 Z = true := hw d (List.mem_of_getElem? q)
theorem Wk.toS {p : Program} {l : Launch} {e : Env} {R : Room} {s : State} {m : MethodId} {args : Array Value} {below : List Frame} {meth : Method} {c : Code} {Z : State} {a0 : Array Value} {EL : List (String × Nat)} {S0 : State} {y : MethodName} {B : ByteArray} {ml : Nat} {ret : Option FieldType} {V : Vm} {h : Heap} {cl sl pc : Nat} {L : Array Slot} {st : List Value} (st' : List Value) (w : Wk p l e R s m args below meth c Z a0 EL S0 y B ml ret V h cl sl (mkF m pc L st)) (q : st = st' := by rfl) : Wk p l e R s m args below meth c Z a0 EL S0 y B ml ret V h cl sl (mkF m pc L st') := q ▸ w
theorem nlr {a : Nat} : a ≤ a := Nat.le_refl a
theorem oml {a b : Nat} (h : a ≤ b := by first | omega | (dsimp only [room_1, rM]; omega)) : a ≤ b := h
theorem omr {a b : Nat} (h : a ≤ b := by first | omega | (dsimp only [rM]; omega)) : a ≤ b := h
end Jvm.Pilot.@@N@@
namespace Jvm.Pilot.@@N@@
open Jvm Jvm.ClassFile Sem Op Lib Jvm.Free Jvm.Stand Jvm.LawKit Jvm.RoadKit Bundle Jvm.Pilot.@@N@@.Jvm.D
abbrev mN0 : MethodName := ⟨"java/lang/String", "isLatin1", "()Z"⟩
abbrev mN1 : MethodName := ⟨"jdk/internal/util/ArraysSupport", "signedHashCode", "(I[BII)I"⟩
abbrev mN2 : MethodName := ⟨"jdk/internal/util/ArraysSupport", "vectorizedHashCode", "(Ljava/lang/Object;IIII)I"⟩
abbrev mN3 : MethodName := ⟨"java/lang/StringLatin1", "hashCode", "([B)I"⟩
abbrev mN4 : MethodName := ⟨"java/lang/String", "hashCode", "()I"⟩
abbrev mN5 : MethodName := ⟨"java/util/HashMap", "hash", "(Ljava/lang/Object;)I"⟩
abbrev mN6 : MethodName := ⟨"java/lang/Object", "hashCode", "()I"⟩
abbrev mN7 : MethodName := ⟨"java/lang/Object", "getClass", "()Ljava/lang/Class;"⟩
abbrev mN8 : MethodName := ⟨"java/lang/String", "coder", "()B"⟩
abbrev mN9 : MethodName := ⟨"java/lang/String", "length", "()I"⟩
abbrev mN10 : MethodName := ⟨"java/lang/StringLatin1", "equals", "([B[B)Z"⟩
abbrev mN11 : MethodName := ⟨"java/lang/String", "equals", "(Ljava/lang/Object;)Z"⟩
abbrev mN12 : MethodName := ⟨"java/util/AbstractCollection", "<init>", "()V"⟩
abbrev mN13 : MethodName := ⟨"java/util/AbstractList", "<init>", "()V"⟩
abbrev mN14 : MethodName := ⟨"java/util/ArrayList", "<init>", "()V"⟩
abbrev mN15 : MethodName := ⟨"java/util/ArrayList", "size", "()I"⟩
abbrev mN16 : MethodName := ⟨"java/util/ArrayList", "isEmpty", "()Z"⟩
abbrev mN17 : MethodName := ⟨"jdk/internal/util/Preconditions", "checkIndex", "(IILjava/util/function/BiFunction;)I"⟩
abbrev mN18 : MethodName := ⟨"java/util/Objects", "checkIndex", "(II)I"⟩
abbrev mN19 : MethodName := ⟨"java/util/ArrayList", "elementData", "(I)Ljava/lang/Object;"⟩
abbrev mN20 : MethodName := ⟨"java/util/ArrayList", "get", "(I)Ljava/lang/Object;"⟩
abbrev mN21 : MethodName := ⟨"java/lang/Math", "max", "(II)I"⟩
abbrev mN22 : MethodName := ⟨"java/util/ArrayList", "grow", "(I)[Ljava/lang/Object;"⟩
abbrev mN23 : MethodName := ⟨"java/util/ArrayList", "grow", "()[Ljava/lang/Object;"⟩
abbrev mN24 : MethodName := ⟨"java/util/ArrayList", "add", "(Ljava/lang/Object;[Ljava/lang/Object;I)V"⟩
abbrev mN25 : MethodName := ⟨"java/util/ArrayList", "add", "(Ljava/lang/Object;)Z"⟩
abbrev mN26 : MethodName := ⟨"java/util/Objects", "requireNonNull", "(Ljava/lang/Object;)Ljava/lang/Object;"⟩
abbrev mN27 : MethodName := ⟨"java/util/ImmutableCollections$AbstractImmutableCollection", "<init>", "()V"⟩
abbrev mN28 : MethodName := ⟨"java/util/ImmutableCollections$AbstractImmutableSet", "<init>", "()V"⟩
abbrev mN29 : MethodName := ⟨"java/util/ImmutableCollections$AbstractImmutableList", "<init>", "()V"⟩
abbrev mN30 : MethodName := ⟨"java/util/ImmutableCollections$Set12", "<init>", "(Ljava/lang/Object;Ljava/lang/Object;)V"⟩
abbrev mN31 : MethodName := ⟨"java/lang/Object", "equals", "(Ljava/lang/Object;)Z"⟩
abbrev mN32 : MethodName := ⟨"java/util/Set", "of", "(Ljava/lang/Object;Ljava/lang/Object;)Ljava/util/Set;"⟩
abbrev mN33 : MethodName := ⟨"java/util/ImmutableCollections$Set12", "contains", "(Ljava/lang/Object;)Z"⟩
abbrev mN34 : MethodName := ⟨"java/util/Set", "of", "()Ljava/util/Set;"⟩
abbrev mN35 : MethodName := ⟨"java/util/ImmutableCollections$SetN", "contains", "(Ljava/lang/Object;)Z"⟩
abbrev mN36 : MethodName := ⟨"java/util/List", "of", "()Ljava/util/List;"⟩
abbrev mN37 : MethodName := ⟨"java/util/ImmutableCollections$List12", "<init>", "(Ljava/lang/Object;)V"⟩
abbrev mN38 : MethodName := ⟨"java/util/ImmutableCollections$List12", "<init>", "(Ljava/lang/Object;Ljava/lang/Object;)V"⟩
abbrev mN39 : MethodName := ⟨"java/util/ImmutableCollections$ListN", "<init>", "([Ljava/lang/Object;Z)V"⟩
abbrev mN40 : MethodName := ⟨"java/util/ImmutableCollections$List12", "size", "()I"⟩
abbrev mN41 : MethodName := ⟨"java/util/ImmutableCollections$List12", "get", "(I)Ljava/lang/Object;"⟩
abbrev mN42 : MethodName := ⟨"java/util/ImmutableCollections$ListN", "get", "(I)Ljava/lang/Object;"⟩
abbrev mN43 : MethodName := ⟨"java/util/ImmutableCollections$ListN", "size", "()I"⟩
abbrev mN44 : MethodName := ⟨"java/lang/Math", "min", "(II)I"⟩
abbrev mN45 : MethodName := ⟨"java/util/Arrays", "copyOf", "([Ljava/lang/Object;ILjava/lang/Class;)[Ljava/lang/Object;"⟩
abbrev mN46 : MethodName := ⟨"java/util/Arrays", "copyOf", "([Ljava/lang/Object;I)[Ljava/lang/Object;"⟩
abbrev mN47 : MethodName := ⟨"java/util/ArrayList", "toArray", "()[Ljava/lang/Object;"⟩
abbrev mN48 : MethodName := ⟨"java/util/Arrays", "copyOfRange", "([Ljava/lang/Object;IILjava/lang/Class;)[Ljava/lang/Object;"⟩
abbrev mN49 : MethodName := ⟨"java/util/Arrays", "copyOfRange", "([Ljava/lang/Object;II)[Ljava/lang/Object;"⟩
abbrev mN50 : MethodName := ⟨"java/util/AbstractMap", "<init>", "()V"⟩
abbrev mN51 : MethodName := ⟨"java/util/HashMap", "<init>", "()V"⟩
abbrev mN52 : MethodName := ⟨"java/util/HashMap$Node", "<init>", "(ILjava/lang/Object;Ljava/lang/Object;Ljava/util/HashMap$Node;)V"⟩
abbrev mN53 : MethodName := ⟨"java/util/HashMap", "newNode", "(ILjava/lang/Object;Ljava/lang/Object;Ljava/util/HashMap$Node;)Ljava/util/HashMap$Node;"⟩
abbrev mN54 : MethodName := ⟨"java/util/HashMap", "afterNodeInsertion", "(Z)V"⟩
abbrev mN55 : MethodName := ⟨"java/util/HashMap", "resize", "()[Ljava/util/HashMap$Node;"⟩
abbrev mN56 : MethodName := ⟨"java/util/HashMap", "getNode", "(Ljava/lang/Object;)Ljava/util/HashMap$Node;"⟩
abbrev mN57 : MethodName := ⟨"java/util/HashMap", "containsKey", "(Ljava/lang/Object;)Z"⟩
abbrev mN58 : MethodName := ⟨"java/util/HashMap", "getOrDefault", "(Ljava/lang/Object;Ljava/lang/Object;)Ljava/lang/Object;"⟩
abbrev mN59 : MethodName := ⟨"java/util/List", "of", "([Ljava/lang/Object;)Ljava/util/List;"⟩
abbrev mN60 : MethodName := ⟨"com/example/keyturn/keyturn/Options", "parse", "(Ljava/util/List;Ljava/util/Set;Ljava/util/Set;Ljava/util/Set;Ljava/util/List;Ljava/lang/String;)Lcom/example/keyturn/keyturn/Options;"⟩
abbrev mN61 : MethodName := ⟨"com/example/keyturn/keyturn/Options", "lambda$parse$0", "(Ljava/lang/String;)Ljava/util/List;"⟩
abbrev mN62 : MethodName := ⟨"java/util/ImmutableCollections", "listFromArray", "([Ljava/lang/Object;)Ljava/util/List;"⟩
abbrev mN63 : MethodName := ⟨"java/util/ImmutableCollections", "listCopy", "(Ljava/util/Collection;)Ljava/util/List;"⟩
abbrev mN64 : MethodName := ⟨"java/util/Collection", "isEmpty", "()Z"⟩
abbrev mN65 : MethodName := ⟨"java/util/Collection", "toArray", "()[Ljava/lang/Object;"⟩
abbrev mN66 : MethodName := ⟨"java/util/List", "copyOf", "(Ljava/util/Collection;)Ljava/util/List;"⟩
abbrev mN67 : MethodName := ⟨"java/util/AbstractList", "subListRangeCheck", "(III)V"⟩
abbrev mN68 : MethodName := ⟨"java/util/ArrayList$SubList", "<init>", "(Ljava/util/ArrayList;II)V"⟩
abbrev mN69 : MethodName := ⟨"java/util/ArrayList", "subList", "(II)Ljava/util/List;"⟩
abbrev mN70 : MethodName := ⟨"java/util/ArrayList", "subListRangeCheck", "(III)V"⟩
abbrev mN71 : MethodName := ⟨"java/util/ArrayList$SubList", "checkForComodification", "()V"⟩
abbrev mN72 : MethodName := ⟨"java/util/ArrayList$SubList", "toArray", "()[Ljava/lang/Object;"⟩
abbrev mN73 : MethodName := ⟨"java/util/ArrayList", "addAll", "(Ljava/util/Collection;)Z"⟩
abbrev mN74 : MethodName := ⟨"java/lang/StringUTF16", "compress", "([CI[BII)I"⟩
abbrev mN75 : MethodName := ⟨"java/lang/StringUTF16", "compress", "([CII)[B"⟩
abbrev mN76 : MethodName := ⟨"java/lang/StringUTF16", "coderFromArrayLen", "([BI)B"⟩
abbrev mN77 : MethodName := ⟨"java/lang/String", "<init>", "([CIILjava/lang/Void;)V"⟩
abbrev mN78 : MethodName := ⟨"java/lang/String", "<init>", "([C)V"⟩
abbrev mN79 : MethodName := ⟨"java/lang/StringLatin1", "canEncode", "(C)Z"⟩
abbrev mN80 : MethodName := ⟨"java/lang/StringLatin1", "toBytes", "(C)[B"⟩
abbrev mN81 : MethodName := ⟨"java/lang/String", "<init>", "([BB)V"⟩
abbrev mN82 : MethodName := ⟨"java/lang/String", "valueOf", "(C)Ljava/lang/String;"⟩
abbrev mN83 : MethodName := ⟨"jdk/internal/util/ArraysSupport", "mismatch", "([BI[BII)I"⟩
abbrev mN84 : MethodName := ⟨"java/lang/String", "startsWith", "(Ljava/lang/String;I)Z"⟩
abbrev mN85 : MethodName := ⟨"java/lang/String", "startsWith", "(Ljava/lang/String;)Z"⟩
abbrev mN86 : MethodName := ⟨"java/util/HashMap", "computeIfAbsent", "(Ljava/lang/Object;Ljava/util/function/Function;)Ljava/lang/Object;"⟩
abbrev mN87 : MethodName := ⟨"java/util/List", "size", "()I"⟩
abbrev mN88 : MethodName := ⟨"java/util/List", "get", "(I)Ljava/lang/Object;"⟩
abbrev mN89 : MethodName := ⟨"java/util/List", "add", "(Ljava/lang/Object;)Z"⟩
abbrev mN90 : MethodName := ⟨"java/util/Set", "contains", "(Ljava/lang/Object;)Z"⟩
abbrev mN91 : MethodName := ⟨"java/util/Map", "containsKey", "(Ljava/lang/Object;)Z"⟩
abbrev mN92 : MethodName := ⟨"java/util/Map", "computeIfAbsent", "(Ljava/lang/Object;Ljava/util/function/Function;)Ljava/lang/Object;"⟩
abbrev mN93 : MethodName := ⟨"com/example/keyturn/keyturn/Options", "<init>", "(Ljava/util/Map;Ljava/util/List;Ljava/util/List;Ljava/lang/String;)V"⟩
abbrev mN94 : MethodName := ⟨"java/util/List", "subList", "(II)Ljava/util/List;"⟩
abbrev mN95 : MethodName := ⟨"java/util/List", "addAll", "(Ljava/util/Collection;)Z"⟩
abbrev mN96 : MethodName := ⟨"com/example/keyturn/keyturn/Options", "parse", "(Ljava/util/List;Ljava/util/Set;Ljava/util/List;Ljava/lang/String;)Lcom/example/keyturn/keyturn/Options;"⟩
abbrev mN97 : MethodName := ⟨"com/example/keyturn/keyturn/Options", "has", "(Ljava/lang/String;)Z"⟩
abbrev mN98 : MethodName := ⟨"com/example/keyturn/keyturn/Options", "all", "(Ljava/lang/String;)Ljava/util/List;"⟩
abbrev mN99 : MethodName := ⟨"java/util/Map", "getOrDefault", "(Ljava/lang/Object;Ljava/lang/Object;)Ljava/lang/Object;"⟩
abbrev mN100 : MethodName := ⟨"com/example/keyturn/keyturn/Options", "operand", "(I)Ljava/lang/String;"⟩
def tQ1 : List (Nat × Instr × Nat) := [(0, .aload_n 0, 1), (1, .aload_n 1, 1), (2, .iconst 0, 1), (3, .aload_n 1, 1), (4, .arraylength, 1), (5, .aconst_null, 1), (6, .invokespecial 27, 3), (9, .return_, 1)]
theorem eQ1 : ∀ q ∈ tQ1, decode jdk_42_method_3_code q.1 = .ok (q.2.1, q.2.2) := by decide +kernel
theorem d1 (i : Nat) {pc n : Nat} {o : Instr} (h : tQ1[i]? = some (pc, o, n)) : decode jdk_42_method_3_code pc = .ok (o, n) := eQ1 (pc, o, n) (List.mem_of_getElem? h)
def tQ2 : List (Nat × Instr × Nat) := [(0, .aload_n 0, 1), (1, .invokespecial 1, 3), (4, .iload_n 3, 1), (5, .ifCond .ne 22, 3), (27, .getstatic 38, 3), (30, .ifCond .eq 28, 3), (33, .aload_n 1, 1), (34, .iload_n 2, 1), (35, .iload_n 3, 1), (36, .invokestatic 177, 3), (39, .astore 5, 2), (41, .aload_n 0, 1), (42, .aload 5, 2), (44, .iload_n 3, 1), (45, .invokestatic 47, 3), (48, .putfield 15, 3), (51, .aload_n 0, 1), (52, .aload 5, 2), (54, .putfield 9, 3), (57, .return_, 1), (8, .aload_n 0, 1), (9, .ldc 7, 2), (11, .getfield 9, 3), (14, .putfield 9, 3), (17, .aload_n 0, 1), (18, .ldc 7, 2), (20, .getfield 15, 3), (23, .putfield 15, 3), (26, .return_, 1)]
theorem eQ2 : ∀ q ∈ tQ2, decode jdk_42_method_149_code q.1 = .ok (q.2.1, q.2.2) := by decide +kernel
theorem d2 (i : Nat) {pc n : Nat} {o : Instr} (h : tQ2[i]? = some (pc, o, n)) : decode jdk_42_method_149_code pc = .ok (o, n) := eQ2 (pc, o, n) (List.mem_of_getElem? h)
def tQ4 : List (Nat × Instr × Nat) := [(0, .iload_n 2, 1), (1, .newarray .byte, 2), (3, .astore_n 3, 1), (4, .aload_n 0, 1), (5, .iload_n 1, 1), (6, .aload_n 3, 1), (7, .iconst 0, 1), (8, .iload_n 2, 1), (9, .invokestatic 115, 3), (12, .istore 4, 2), (14, .iload 4, 2), (16, .iload_n 2, 1), (17, .if_icmp .eq 40, 3), (57, .aload_n 3, 1), (58, .areturn, 1)]
theorem eQ4 : ∀ q ∈ tQ4, decode jdk_52_method_16_code q.1 = .ok (q.2.1, q.2.2) := by decide +kernel
theorem d4 (i : Nat) {pc n : Nat} {o : Instr} (h : tQ4[i]? = some (pc, o, n)) : decode jdk_52_method_16_code pc = .ok (o, n) := eQ4 (pc, o, n) (List.mem_of_getElem? h)
def tQ5 : List (Nat × Instr × Nat) := [(0, .iconst 0, 1), (1, .istore 5, 2), (3, .iload 5, 2), (5, .iload 4, 2), (7, .if_icmp .ge 37, 3), (10, .aload_n 0, 1), (11, .iload_n 1, 1), (12, .caload, 1), (13, .istore 6, 2), (15, .iload 6, 2), (17, .sipush 255, 3), (20, .if_icmp .le 6, 3), (26, .aload_n 2, 1), (27, .iload_n 3, 1), (28, .iload 6, 2), (30, .i2b, 1), (31, .bastore, 1), (32, .iinc 1 1, 3), (35, .iinc 3 1, 3), (38, .iinc 5 1, 3), (41, .goto (-38), 3), (44, .iload 4, 2), (46, .ireturn, 1)]
theorem eQ5 : ∀ q ∈ tQ5, decode jdk_52_method_21_code q.1 = .ok (q.2.1, q.2.2) := by decide +kernel
theorem d5 (i : Nat) {pc n : Nat} {o : Instr} (h : tQ5[i]? = some (pc, o, n)) : decode jdk_52_method_21_code pc = .ok (o, n) := eQ5 (pc, o, n) (List.mem_of_getElem? h)
def tQ6 : List (Nat × Instr × Nat) := [(0, .iload_n 1, 1), (1, .aload_n 0, 1), (2, .arraylength, 1), (3, .isub, 1), (4, .bipush 31, 2), (6, .iushr, 1), (7, .i2b, 1), (8, .ireturn, 1)]
theorem eQ6 : ∀ q ∈ tQ6, decode jdk_52_method_15_code q.1 = .ok (q.2.1, q.2.2) := by decide +kernel
theorem d6 (i : Nat) {pc n : Nat} {o : Instr} (h : tQ6[i]? = some (pc, o, n)) : decode jdk_52_method_15_code pc = .ok (o, n) := eQ6 (pc, o, n) (List.mem_of_getElem? h)
def tQ7 : List (Nat × Instr × Nat) := [(0, .getstatic 38, 3), (3, .ifCond .eq 23, 3), (6, .iload_n 0, 1), (7, .invokestatic 1015, 3), (10, .ifCond .eq 16, 3), (13, .new 10, 3), (16, .dup, 1), (17, .iload_n 0, 1), (18, .invokestatic 1018, 3), (21, .iconst 0, 1), (22, .invokespecial 209, 3), (25, .areturn, 1)]
theorem eQ7 : ∀ q ∈ tQ7, decode jdk_42_method_139_code q.1 = .ok (q.2.1, q.2.2) := by decide +kernel
theorem d7 (i : Nat) {pc n : Nat} {o : Instr} (h : tQ7[i]? = some (pc, o, n)) : decode jdk_42_method_139_code pc = .ok (o, n) := eQ7 (pc, o, n) (List.mem_of_getElem? h)
def tQ8 : List (Nat × Instr × Nat) := [(0, .iload_n 0, 1), (1, .sipush 255, 3), (4, .if_icmp .gt 7, 3), (7, .iconst 1, 1), (8, .goto 4, 3), (12, .ireturn, 1)]
theorem eQ8 : ∀ q ∈ tQ8, decode jdk_43_method_3_code q.1 = .ok (q.2.1, q.2.2) := by decide +kernel
theorem d8 (i : Nat) {pc n : Nat} {o : Instr} (h : tQ8[i]? = some (pc, o, n)) : decode jdk_43_method_3_code pc = .ok (o, n) := eQ8 (pc, o, n) (List.mem_of_getElem? h)
def tQ9 : List (Nat × Instr × Nat) := [(0, .iconst 1, 1), (1, .newarray .byte, 2), (3, .dup, 1), (4, .iconst 0, 1), (5, .iload_n 0, 1), (6, .i2b, 1), (7, .bastore, 1), (8, .areturn, 1)]
theorem eQ9 : ∀ q ∈ tQ9, decode jdk_43_method_46_code q.1 = .ok (q.2.1, q.2.2) := by decide +kernel
theorem d9 (i : Nat) {pc n : Nat} {o : Instr} (h : tQ9[i]? = some (pc, o, n)) : decode jdk_43_method_46_code pc = .ok (o, n) := eQ9 (pc, o, n) (List.mem_of_getElem? h)
def tQ10 : List (Nat × Instr × Nat) := [(0, .aload_n 0, 1), (1, .invokespecial 1, 3), (4, .aload_n 0, 1), (5, .aload_n 1, 1), (6, .putfield 9, 3), (9, .aload_n 0, 1), (10, .iload_n 2, 1), (11, .putfield 15, 3), (14, .return_, 1)]
theorem eQ10 : ∀ q ∈ tQ10, decode jdk_42_method_151_code q.1 = .ok (q.2.1, q.2.2) := by decide +kernel
theorem d10 (i : Nat) {pc n : Nat} {o : Instr} (h : tQ10[i]? = some (pc, o, n)) : decode jdk_42_method_151_code pc = .ok (o, n) := eQ10 (pc, o, n) (List.mem_of_getElem? h)
def tQ11 : List (Nat × Instr × Nat) := [(0, .aload_n 0, 1), (1, .invokespecial 1, 3), (4, .aload_n 0, 1), (5, .getstatic 39, 3), (8, .putfield 9, 3), (11, .return_, 1)]
theorem eQ11 : ∀ q ∈ tQ11, decode jdk_38_method_2_code q.1 = .ok (q.2.1, q.2.2) := by decide +kernel
theorem d11 (i : Nat) {pc n : Nat} {o : Instr} (h : tQ11[i]? = some (pc, o, n)) : decode jdk_38_method_2_code pc = .ok (o, n) := eQ11 (pc, o, n) (List.mem_of_getElem? h)
def tQ12 : List (Nat × Instr × Nat) := [(0, .aload_n 0, 1), (1, .invokespecial 1, 3), (4, .aload_n 0, 1), (5, .iconst 0, 1), (6, .putfield 7, 3), (9, .return_, 1)]
theorem eQ12 : ∀ q ∈ tQ12, decode jdk_39_method_1_code q.1 = .ok (q.2.1, q.2.2) := by decide +kernel
theorem d12 (i : Nat) {pc n : Nat} {o : Instr} (h : tQ12[i]? = some (pc, o, n)) : decode jdk_39_method_1_code pc = .ok (o, n) := eQ12 (pc, o, n) (List.mem_of_getElem? h)
def tQ13 : List (Nat × Instr × Nat) := [(0, .aload_n 0, 1), (1, .invokespecial 1, 3), (4, .return_, 1)]
theorem eQ13 : ∀ q ∈ tQ13, decode jdk_22_method_1_code q.1 = .ok (q.2.1, q.2.2) := by decide +kernel
theorem d13 (i : Nat) {pc n : Nat} {o : Instr} (h : tQ13[i]? = some (pc, o, n)) : decode jdk_22_method_1_code pc = .ok (o, n) := eQ13 (pc, o, n) (List.mem_of_getElem? h)
def tQ14 : List (Nat × Instr × Nat) := [(0, .new 15, 3), (3, .dup, 1), (4, .aload_n 0, 1), (5, .aload_n 1, 1), (6, .invokespecial 21, 3), (9, .areturn, 1)]
theorem eQ14 : ∀ q ∈ tQ14, decode jdk_96_method_19_code q.1 = .ok (q.2.1, q.2.2) := by decide +kernel
theorem d14 (i : Nat) {pc n : Nat} {o : Instr} (h : tQ14[i]? = some (pc, o, n)) : decode jdk_96_method_19_code pc = .ok (o, n) := eQ14 (pc, o, n) (List.mem_of_getElem? h)
def tQ15 : List (Nat × Instr × Nat) := [(0, .aload_n 0, 1), (1, .invokespecial 1, 3), (4, .aload_n 1, 1), (5, .aload_n 2, 1), (6, .invokestatic 7, 3), (9, .invokevirtual 27, 3), (12, .ifCond .eq 30, 3), (42, .aload_n 0, 1), (43, .aload_n 1, 1), (44, .putfield 13, 3), (47, .aload_n 0, 1), (48, .aload_n 2, 1), (49, .putfield 24, 3), (52, .return_, 1)]
theorem eQ15 : ∀ q ∈ tQ15, decode jdk_101_method_2_code q.1 = .ok (q.2.1, q.2.2) := by decide +kernel
theorem d15 (i : Nat) {pc n : Nat} {o : Instr} (h : tQ15[i]? = some (pc, o, n)) : decode jdk_101_method_2_code pc = .ok (o, n) := eQ15 (pc, o, n) (List.mem_of_getElem? h)
def tQ16 : List (Nat × Instr × Nat) := [(0, .aload_n 0, 1), (1, .invokespecial 1, 3), (4, .return_, 1)]
theorem eQ16 : ∀ q ∈ tQ16, decode jdk_100_method_1_code q.1 = .ok (q.2.1, q.2.2) := by decide +kernel
theorem d16 (i : Nat) {pc n : Nat} {o : Instr} (h : tQ16[i]? = some (pc, o, n)) : decode jdk_100_method_1_code pc = .ok (o, n) := eQ16 (pc, o, n) (List.mem_of_getElem? h)
def tQ17 : List (Nat × Instr × Nat) := [(0, .aload_n 0, 1), (1, .invokespecial 1, 3), (4, .return_, 1)]
theorem eQ17 : ∀ q ∈ tQ17, decode jdk_47_method_1_code q.1 = .ok (q.2.1, q.2.2) := by decide +kernel
theorem d17 (i : Nat) {pc n : Nat} {o : Instr} (h : tQ17[i]? = some (pc, o, n)) : decode jdk_47_method_1_code pc = .ok (o, n) := eQ17 (pc, o, n) (List.mem_of_getElem? h)
def tQ18 : List (Nat × Instr × Nat) := [(0, .aload_n 0, 1), (1, .ifnonnull 11, 3), (12, .aload_n 0, 1), (13, .areturn, 1)]
theorem eQ18 : ∀ q ∈ tQ18, decode jdk_31_method_10_code q.1 = .ok (q.2.1, q.2.2) := by decide +kernel
theorem d18 (i : Nat) {pc n : Nat} {o : Instr} (h : tQ18[i]? = some (pc, o, n)) : decode jdk_31_method_10_code pc = .ok (o, n) := eQ18 (pc, o, n) (List.mem_of_getElem? h)
def tQ19 : List (Nat × Instr × Nat) := [(0, .aload_n 0, 1), (1, .aload_n 1, 1), (2, .if_acmp .ne 5, 3), (5, .iconst 1, 1), (6, .ireturn, 1), (7, .aload_n 1, 1), (8, .instanceof 10, 3), (11, .ifCond .eq 43, 3), (14, .aload_n 1, 1), (15, .checkcast 10, 3), (18, .astore_n 2, 1), (19, .getstatic 38, 3), (22, .ifCond .eq 14, 3), (25, .aload_n 0, 1), (26, .getfield 15, 3), (29, .aload_n 2, 1), (30, .getfield 15, 3), (33, .if_icmp .ne 21, 3), (36, .aload_n 0, 1), (37, .getfield 9, 3), (40, .aload_n 2, 1), (41, .getfield 9, 3), (44, .invokestatic 541, 3), (47, .ifCond .eq 7, 3), (50, .iconst 1, 1), (51, .goto 4, 3), (55, .ireturn, 1), (54, .iconst 0, 1)]
theorem eQ19 : ∀ q ∈ tQ19, decode jdk_42_method_66_code q.1 = .ok (q.2.1, q.2.2) := by decide +kernel
theorem d19 (i : Nat) {pc n : Nat} {o : Instr} (h : tQ19[i]? = some (pc, o, n)) : decode jdk_42_method_66_code pc = .ok (o, n) := eQ19 (pc, o, n) (List.mem_of_getElem? h)
def tQ20 : List (Nat × Instr × Nat) := [(9, .iload_n 2, 1), (10, .aload_n 0, 1), (11, .arraylength, 1), (12, .if_icmp .ge 20, 3), (32, .iconst 1, 1), (33, .ireturn, 1), (15, .aload_n 0, 1), (16, .iload_n 2, 1), (17, .baload, 1), (18, .aload_n 1, 1), (19, .iload_n 2, 1), (20, .baload, 1), (21, .if_icmp .eq 5, 3), (26, .iinc 2 1, 3), (29, .goto (-20), 3), (24, .iconst 0, 1), (25, .ireturn, 1), (0, .aload_n 0, 1), (1, .arraylength, 1), (2, .aload_n 1, 1), (3, .arraylength, 1), (4, .if_icmp .ne 30, 3), (7, .iconst 0, 1), (8, .istore_n 2, 1), (34, .iconst 0, 1), (35, .ireturn, 1)]
theorem eQ20 : ∀ q ∈ tQ20, decode jdk_43_method_13_code q.1 = .ok (q.2.1, q.2.2) := by decide +kernel
theorem d20 (i : Nat) {pc n : Nat} {o : Instr} (h : tQ20[i]? = some (pc, o, n)) : decode jdk_43_method_13_code pc = .ok (o, n) := eQ20 (pc, o, n) (List.mem_of_getElem? h)
def tQ21 : List (Nat × Instr × Nat) := [(0, .aload_n 0, 1), (1, .aload_n 1, 1), (2, .invokestatic 24, 3), (5, .invokestatic 24, 3), (8, .aload_n 2, 1), (9, .aload_n 3, 1), (10, .invokestatic 30, 3), (13, .areturn, 1)]
theorem eQ21 : ∀ q ∈ tQ21, decode prog_16_method_2_code q.1 = .ok (q.2.1, q.2.2) := by decide +kernel
theorem d21 (i : Nat) {pc n : Nat} {o : Instr} (h : tQ21[i]? = some (pc, o, n)) : decode prog_16_method_2_code pc = .ok (o, n) := eQ21 (pc, o, n) (List.mem_of_getElem? h)
def tQ22 : List (Nat × Instr × Nat) := [(0, .getstatic 9, 3), (3, .areturn, 1)]
theorem eQ22 : ∀ q ∈ tQ22, decode jdk_96_method_17_code q.1 = .ok (q.2.1, q.2.2) := by decide +kernel
theorem d22 (i : Nat) {pc n : Nat} {o : Instr} (h : tQ22[i]? = some (pc, o, n)) : decode jdk_96_method_17_code pc = .ok (o, n) := eQ22 (pc, o, n) (List.mem_of_getElem? h)
def tQ23 : List (Nat × Instr × Nat) := [(21, .iload 8, 2), (23, .aload_n 0, 1), (24, .invokeinterface 40 1, 5), (29, .if_icmp .ge 274, 3), (32, .aload_n 0, 1), (33, .iload 8, 2), (35, .invokeinterface 46 2, 5), (40, .checkcast 50, 3), (43, .ldc 52, 2), (45, .invokevirtual 54, 3), (48, .ifCond .ne 255, 3), (51, .aload_n 0, 1), (52, .iload 8, 2), (54, .invokeinterface 46 2, 5), (59, .checkcast 50, 3), (62, .astore 9, 2), (64, .aload 9, 2), (66, .ldc 52, 2), (68, .invokevirtual 58, 3), (71, .ifCond .ne 19, 3), (74, .aload 7, 2), (76, .aload 9, 2), (78, .invokeinterface 62 2, 5), (83, .pop, 1), (84, .iinc 8 1, 3), (87, .goto (-66), 3), (90, .aload_n 3, 1), (91, .aload 9, 2), (93, .invokeinterface 65 2, 5), (98, .istore 10, 2), (100, .iload 10, 2), (102, .ifCond .ne 42, 3), (105, .aload_n 1, 1), (106, .aload 9, 2), (108, .invokeinterface 65 2, 5), (113, .ifCond .ne 31, 3), (144, .iload 10, 2), (146, .ifCond .ne 54, 3), (149, .iload 8, 2), (151, .iconst 1, 1), (152, .iadd, 1), (153, .aload_n 0, 1), (154, .invokeinterface 40 1, 5), (159, .if_icmp .eq 24, 3), (162, .aload_n 0, 1), (163, .iload 8, 2), (165, .iconst 1, 1), (166, .iadd, 1), (167, .invokeinterface 46 2, 5), (172, .checkcast 50, 3), (175, .ldc 52, 2), (177, .invokevirtual 58, 3), (180, .ifCond .eq 20, 3), (200, .aload 6, 2), (202, .aload 9, 2), (204, .invokeinterface 78 2, 5), (209, .ifCond .eq 31, 3), (240, .aload 6, 2), (242, .aload 9, 2), (244, .invokedynamic 84, 5), (249, .invokeinterface 88 3, 5), (254, .checkcast 41, 3), (257, .astore 11, 2), (259, .iload 10, 2), (261, .ifCond .ne 24, 3), (264, .aload 11, 2), (266, .aload_n 0, 1), (267, .iload 8, 2), (269, .iconst 1, 1), (270, .iadd, 1), (271, .invokeinterface 46 2, 5), (276, .checkcast 50, 3), (279, .invokeinterface 62 2, 5), (284, .pop, 1), (285, .iload 8, 2), (287, .iload 10, 2), (289, .ifCond .eq 7, 3), (296, .iconst 2, 1), (297, .iadd, 1), (298, .istore 8, 2), (300, .goto (-279), 3), (303, .aload 7, 2), (305, .aload_n 0, 1), (306, .iload 8, 2), (308, .iconst 1, 1), (309, .iadd, 1), (310, .aload_n 0, 1), (311, .invokeinterface 40 1, 5), (316, .invokestatic 92, 3), (319, .aload_n 0, 1), (320, .invokeinterface 40 1, 5), (325, .invokeinterface 98 3, 5), (330, .invokeinterface 102 2, 5), (335, .pop, 1), (336, .aload 7, 2), (338, .invokeinterface 40 1, 5), (343, .aload 4, 2), (345, .invokeinterface 40 1, 5), (350, .if_icmp .le 35, 3), (385, .aload 7, 2), (387, .invokeinterface 40 1, 5), (392, .aload 4, 2), (394, .invokeinterface 40 1, 5), (399, .if_icmp .ge 35, 3), (434, .new 8, 3), (437, .dup, 1), (438, .aload 6, 2), (440, .aload 7, 2), (442, .invokestatic 108, 3), (445, .aload 4, 2), (447, .invokestatic 108, 3), (450, .aload 5, 2), (452, .invokespecial 112, 3), (455, .areturn, 1), (0, .new 34, 3), (3, .dup, 1), (4, .invokespecial 36, 3), (7, .astore 6, 2), (9, .new 37, 3), (12, .dup, 1), (13, .invokespecial 39, 3), (16, .astore 7, 2), (18, .iconst 0, 1), (19, .istore 8, 2)]
theorem eQ23 : ∀ q ∈ tQ23, decode prog_16_method_3_code q.1 = .ok (q.2.1, q.2.2) := by decide +kernel
theorem d23 (i : Nat) {pc n : Nat} {o : Instr} (h : tQ23[i]? = some (pc, o, n)) : decode prog_16_method_3_code pc = .ok (o, n) := eQ23 (pc, o, n) (List.mem_of_getElem? h)
def tQ24 : List (Nat × Instr × Nat) := [(0, .aload_n 0, 1), (1, .invokespecial 43, 3), (4, .aload_n 0, 1), (5, .ldc 92, 2), (7, .putfield 81, 3), (10, .return_, 1)]
theorem eQ24 : ∀ q ∈ tQ24, decode jdk_69_method_7_code q.1 = .ok (q.2.1, q.2.2) := by decide +kernel
theorem d24 (i : Nat) {pc n : Nat} {o : Instr} (h : tQ24[i]? = some (pc, o, n)) : decode jdk_69_method_7_code pc = .ok (o, n) := eQ24 (pc, o, n) (List.mem_of_getElem? h)
def tQ25 : List (Nat × Instr × Nat) := [(0, .aload_n 0, 1), (1, .invokespecial 1, 3), (4, .return_, 1)]
theorem eQ25 : ∀ q ∈ tQ25, decode jdk_71_method_1_code q.1 = .ok (q.2.1, q.2.2) := by decide +kernel
theorem d25 (i : Nat) {pc n : Nat} {o : Instr} (h : tQ25[i]? = some (pc, o, n)) : decode jdk_71_method_1_code pc = .ok (o, n) := eQ25 (pc, o, n) (List.mem_of_getElem? h)
def tQ26 : List (Nat × Instr × Nat) := [(0, .aload_n 0, 1), (1, .getfield 48, 3), (4, .ireturn, 1)]
theorem eQ26 : ∀ q ∈ tQ26, decode jdk_38_method_8_code q.1 = .ok (q.2.1, q.2.2) := by decide +kernel
theorem d26 (i : Nat) {pc n : Nat} {o : Instr} (h : tQ26[i]? = some (pc, o, n)) : decode jdk_38_method_8_code pc = .ok (o, n) := eQ26 (pc, o, n) (List.mem_of_getElem? h)
def tQ27 : List (Nat × Instr × Nat) := [(0, .iload_n 0, 1), (1, .iload_n 1, 1), (2, .if_icmp .gt 7, 3), (9, .iload_n 1, 1), (10, .ireturn, 1), (5, .iload_n 0, 1), (6, .goto 4, 3)]
theorem eQ27 : ∀ q ∈ tQ27, decode jdk_29_method_69_code q.1 = .ok (q.2.1, q.2.2) := by decide +kernel
theorem d27 (i : Nat) {pc n : Nat} {o : Instr} (h : tQ27[i]? = some (pc, o, n)) : decode jdk_29_method_69_code pc = .ok (o, n) := eQ27 (pc, o, n) (List.mem_of_getElem? h)
def tQ28 : List (Nat × Instr × Nat) := [(0, .iload_n 1, 1), (1, .iload_n 2, 1), (2, .aload_n 0, 1), (3, .getfield 48, 3), (6, .invokestatic 272, 3), (9, .new 276, 3), (12, .dup, 1), (13, .aload_n 0, 1), (14, .iload_n 1, 1), (15, .iload_n 2, 1), (16, .invokespecial 278, 3), (19, .areturn, 1)]
theorem eQ28 : ∀ q ∈ tQ28, decode jdk_38_method_56_code q.1 = .ok (q.2.1, q.2.2) := by decide +kernel
theorem d28 (i : Nat) {pc n : Nat} {o : Instr} (h : tQ28[i]? = some (pc, o, n)) : decode jdk_38_method_56_code pc = .ok (o, n) := eQ28 (pc, o, n) (List.mem_of_getElem? h)
def tQ29 : List (Nat × Instr × Nat) := [(0, .iload_n 0, 1), (1, .ifCond .ge 30, 3), (31, .iload_n 1, 1), (32, .iload_n 2, 1), (33, .if_icmp .le 30, 3), (63, .iload_n 0, 1), (64, .iload_n 1, 1), (65, .if_icmp .le 44, 3), (109, .return_, 1)]
theorem eQ29 : ∀ q ∈ tQ29, decode jdk_39_method_15_code q.1 = .ok (q.2.1, q.2.2) := by decide +kernel
theorem d29 (i : Nat) {pc n : Nat} {o : Instr} (h : tQ29[i]? = some (pc, o, n)) : decode jdk_39_method_15_code pc = .ok (o, n) := eQ29 (pc, o, n) (List.mem_of_getElem? h)
def tQ30 : List (Nat × Instr × Nat) := [(0, .aload_n 0, 1), (1, .invokespecial 1, 3), (4, .aload_n 0, 1), (5, .aload_n 1, 1), (6, .putfield 7, 3), (9, .aload_n 0, 1), (10, .aconst_null, 1), (11, .putfield 13, 3), (14, .aload_n 0, 1), (15, .iload_n 2, 1), (16, .putfield 17, 3), (19, .aload_n 0, 1), (20, .iload_n 3, 1), (21, .iload_n 2, 1), (22, .isub, 1), (23, .putfield 21, 3), (26, .aload_n 0, 1), (27, .aload_n 1, 1), (28, .getfield 24, 3), (31, .putfield 29, 3), (34, .return_, 1)]
theorem eQ30 : ∀ q ∈ tQ30, decode jdk_130_method_1_code q.1 = .ok (q.2.1, q.2.2) := by decide +kernel
theorem d30 (i : Nat) {pc n : Nat} {o : Instr} (h : tQ30[i]? = some (pc, o, n)) : decode jdk_130_method_1_code pc = .ok (o, n) := eQ30 (pc, o, n) (List.mem_of_getElem? h)
def tQ31 : List (Nat × Instr × Nat) := [(0, .aload_n 1, 1), (1, .invokeinterface 42 1, 5), (6, .astore_n 2, 1), (7, .aload_n 0, 1), (8, .dup, 1), (9, .getfield 63, 3), (12, .iconst 1, 1), (13, .iadd, 1), (14, .putfield 63, 3), (17, .aload_n 2, 1), (18, .arraylength, 1), (19, .istore_n 3, 1), (20, .iload_n 3, 1), (21, .ifCond .ne 5, 3), (24, .iconst 0, 1), (25, .ireturn, 1), (26, .iload_n 3, 1), (27, .aload_n 0, 1), (28, .getfield 9, 3), (31, .dup, 1), (32, .astore 4, 2), (34, .arraylength, 1), (35, .aload_n 0, 1), (36, .getfield 48, 3), (39, .dup, 1), (40, .istore 5, 2), (42, .isub, 1), (43, .if_icmp .le 13, 3), (56, .aload_n 2, 1), (57, .iconst 0, 1), (58, .aload 4, 2), (60, .iload 5, 2), (62, .iload_n 3, 1), (63, .invokestatic 112, 3), (66, .aload_n 0, 1), (67, .iload 5, 2), (69, .iload_n 3, 1), (70, .iadd, 1), (71, .putfield 48, 3), (74, .iconst 1, 1), (75, .ireturn, 1), (46, .aload_n 0, 1), (47, .iload 5, 2), (49, .iload_n 3, 1), (50, .iadd, 1), (51, .invokevirtual 69, 3), (54, .astore 4, 2)]
theorem eQ31 : ∀ q ∈ tQ31, decode jdk_38_method_41_code q.1 = .ok (q.2.1, q.2.2) := by decide +kernel
theorem d31 (i : Nat) {pc n : Nat} {o : Instr} (h : tQ31[i]? = some (pc, o, n)) : decode jdk_38_method_41_code pc = .ok (o, n) := eQ31 (pc, o, n) (List.mem_of_getElem? h)
def tQ32 : List (Nat × Instr × Nat) := [(0, .aload_n 0, 1), (1, .invokevirtual 36, 3), (4, .aload_n 0, 1), (5, .getfield 7, 3), (8, .getfield 43, 3), (11, .aload_n 0, 1), (12, .getfield 17, 3), (15, .aload_n 0, 1), (16, .getfield 17, 3), (19, .aload_n 0, 1), (20, .getfield 21, 3), (23, .iadd, 1), (24, .invokestatic 90, 3), (27, .areturn, 1)]
theorem eQ32 : ∀ q ∈ tQ32, decode jdk_130_method_16_code q.1 = .ok (q.2.1, q.2.2) := by decide +kernel
theorem d32 (i : Nat) {pc n : Nat} {o : Instr} (h : tQ32[i]? = some (pc, o, n)) : decode jdk_130_method_16_code pc = .ok (o, n) := eQ32 (pc, o, n) (List.mem_of_getElem? h)
def tQ33 : List (Nat × Instr × Nat) := [(0, .aload_n 0, 1), (1, .getfield 7, 3), (4, .getfield 24, 3), (7, .aload_n 0, 1), (8, .getfield 29, 3), (11, .if_icmp .eq 11, 3), (22, .return_, 1)]
theorem eQ33 : ∀ q ∈ tQ33, decode jdk_130_method_28_code q.1 = .ok (q.2.1, q.2.2) := by decide +kernel
theorem d33 (i : Nat) {pc n : Nat} {o : Instr} (h : tQ33[i]? = some (pc, o, n)) : decode jdk_130_method_28_code pc = .ok (o, n) := eQ33 (pc, o, n) (List.mem_of_getElem? h)
def tQ34 : List (Nat × Instr × Nat) := [(0, .aload_n 0, 1), (1, .iload_n 1, 1), (2, .iload_n 2, 1), (3, .aload_n 0, 1), (4, .invokevirtual 86, 3), (7, .invokestatic 334, 3), (10, .areturn, 1)]
theorem eQ34 : ∀ q ∈ tQ34, decode jdk_65_method_129_code q.1 = .ok (q.2.1, q.2.2) := by decide +kernel
theorem d34 (i : Nat) {pc n : Nat} {o : Instr} (h : tQ34[i]? = some (pc, o, n)) : decode jdk_65_method_129_code pc = .ok (o, n) := eQ34 (pc, o, n) (List.mem_of_getElem? h)
def tQ35 : List (Nat × Instr × Nat) := [(0, .iload_n 2, 1), (1, .iload_n 1, 1), (2, .isub, 1), (3, .istore 4, 2), (5, .iload 4, 2), (7, .ifCond .ge 35, 3), (42, .aload_n 3, 1), (43, .ldc 110, 2), (45, .if_acmp .ne 11, 3), (48, .iload 4, 2), (50, .anewarray 2, 3), (53, .goto 15, 3), (68, .astore 5, 2), (70, .aload_n 0, 1), (71, .iload_n 1, 1), (72, .aload 5, 2), (74, .iconst 0, 1), (75, .aload_n 0, 1), (76, .arraylength, 1), (77, .iload_n 1, 1), (78, .isub, 1), (79, .iload 4, 2), (81, .invokestatic 304, 3), (84, .invokestatic 150, 3), (87, .aload 5, 2), (89, .areturn, 1)]
theorem eQ35 : ∀ q ∈ tQ35, decode jdk_65_method_130_code q.1 = .ok (q.2.1, q.2.2) := by decide +kernel
theorem d35 (i : Nat) {pc n : Nat} {o : Instr} (h : tQ35[i]? = some (pc, o, n)) : decode jdk_65_method_130_code pc = .ok (o, n) := eQ35 (pc, o, n) (List.mem_of_getElem? h)
def tQ36 : List (Nat × Instr × Nat) := [(0, .aload_n 0, 1), (1, .invokestatic 112, 3), (4, .areturn, 1)]
theorem eQ36 : ∀ q ∈ tQ36, decode jdk_40_method_48_code q.1 = .ok (q.2.1, q.2.2) := by decide +kernel
theorem d36 (i : Nat) {pc n : Nat} {o : Instr} (h : tQ36[i]? = some (pc, o, n)) : decode jdk_40_method_48_code pc = .ok (o, n) := eQ36 (pc, o, n) (List.mem_of_getElem? h)
def tQ37 : List (Nat × Instr × Nat) := [(0, .aload_n 0, 1), (1, .instanceof 10, 3), (4, .ifCond .ne 22, 3), (7, .aload_n 0, 1), (8, .instanceof 12, 3), (11, .ifCond .eq 20, 3), (31, .aload_n 0, 1), (32, .invokeinterface 20 1, 5), (37, .ifCond .eq 7, 3), (40, .invokestatic 26, 3), (43, .areturn, 1), (44, .aload_n 0, 1), (45, .invokeinterface 30 1, 5), (50, .invokestatic 34, 3), (53, .areturn, 1), (14, .aload_n 0, 1), (15, .checkcast 12, 3), (18, .astore_n 1, 1), (19, .aload_n 1, 1), (20, .getfield 14, 3), (23, .ifCond .ne 8, 3), (26, .aload_n 0, 1), (27, .checkcast 18, 3), (30, .areturn, 1)]
theorem eQ37 : ∀ q ∈ tQ37, decode jdk_56_method_3_code q.1 = .ok (q.2.1, q.2.2) := by decide +kernel
theorem d37 (i : Nat) {pc n : Nat} {o : Instr} (h : tQ37[i]? = some (pc, o, n)) : decode jdk_56_method_3_code pc = .ok (o, n) := eQ37 (pc, o, n) (List.mem_of_getElem? h)
def tQ38 : List (Nat × Instr × Nat) := [(0, .aload_n 0, 1), (1, .getfield 48, 3), (4, .ifCond .ne 7, 3), (7, .iconst 1, 1), (8, .goto 4, 3), (12, .ireturn, 1), (11, .iconst 0, 1)]
theorem eQ38 : ∀ q ∈ tQ38, decode jdk_38_method_9_code q.1 = .ok (q.2.1, q.2.2) := by decide +kernel
theorem d38 (i : Nat) {pc n : Nat} {o : Instr} (h : tQ38[i]? = some (pc, o, n)) : decode jdk_38_method_9_code pc = .ok (o, n) := eQ38 (pc, o, n) (List.mem_of_getElem? h)
def tQ39 : List (Nat × Instr × Nat) := [(0, .getstatic 90, 3), (3, .areturn, 1)]
theorem eQ39 : ∀ q ∈ tQ39, decode jdk_40_method_36_code q.1 = .ok (q.2.1, q.2.2) := by decide +kernel
theorem d39 (i : Nat) {pc n : Nat} {o : Instr} (h : tQ39[i]? = some (pc, o, n)) : decode jdk_40_method_36_code pc = .ok (o, n) := eQ39 (pc, o, n) (List.mem_of_getElem? h)
def tQ40 : List (Nat × Instr × Nat) := [(0, .aload_n 0, 1), (1, .invokespecial 1, 3), (4, .aload_n 0, 1), (5, .aload_n 1, 1), (6, .putfield 7, 3), (9, .aload_n 0, 1), (10, .aload_n 2, 1), (11, .putfield 13, 3), (14, .aload_n 0, 1), (15, .aload_n 3, 1), (16, .putfield 17, 3), (19, .aload_n 0, 1), (20, .aload 4, 2), (22, .putfield 20, 3), (25, .return_, 1)]
theorem eQ40 : ∀ q ∈ tQ40, decode prog_16_method_1_code q.1 = .ok (q.2.1, q.2.2) := by decide +kernel
theorem d40 (i : Nat) {pc n : Nat} {o : Instr} (h : tQ40[i]? = some (pc, o, n)) : decode prog_16_method_1_code pc = .ok (o, n) := eQ40 (pc, o, n) (List.mem_of_getElem? h)
def tQ41 : List (Nat × Instr × Nat) := [(0, .aload_n 0, 1), (1, .getfield 7, 3), (4, .aload_n 1, 1), (5, .invokeinterface 78 2, 5), (10, .ireturn, 1)]
theorem eQ41 : ∀ q ∈ tQ41, decode prog_16_method_7_code q.1 = .ok (q.2.1, q.2.2) := by decide +kernel
theorem d41 (i : Nat) {pc n : Nat} {o : Instr} (h : tQ41[i]? = some (pc, o, n)) : decode prog_16_method_7_code pc = .ok (o, n) := eQ41 (pc, o, n) (List.mem_of_getElem? h)
def tQ42 : List (Nat × Instr × Nat) := [(0, .aload_n 0, 1), (1, .aload_n 1, 1), (2, .invokevirtual 158, 3), (5, .ifnull 7, 3), (12, .iconst 0, 1), (13, .ireturn, 1), (8, .iconst 1, 1), (9, .goto 4, 3)]
theorem eQ42 : ∀ q ∈ tQ42, decode jdk_69_method_14_code q.1 = .ok (q.2.1, q.2.2) := by decide +kernel
theorem d42 (i : Nat) {pc n : Nat} {o : Instr} (h : tQ42[i]? = some (pc, o, n)) : decode jdk_69_method_14_code pc = .ok (o, n) := eQ42 (pc, o, n) (List.mem_of_getElem? h)
def tQ43 : List (Nat × Instr × Nat) := [(0, .aload_n 0, 1), (1, .getfield 105, 3), (4, .dup, 1), (5, .astore_n 2, 1), (6, .ifnull 142, 3), (148, .aconst_null, 1), (149, .areturn, 1), (9, .aload_n 2, 1), (10, .arraylength, 1), (11, .dup, 1), (12, .istore 5, 2), (14, .ifCond .le 134, 3), (17, .aload_n 2, 1), (18, .iload 5, 2), (20, .iconst 1, 1), (21, .isub, 1), (22, .aload_n 1, 1), (23, .invokestatic 149, 3), (26, .dup, 1), (27, .istore 6, 2), (29, .iand, 1), (30, .aaload, 1), (31, .dup, 1), (32, .astore_n 3, 1), (33, .ifnull 115, 3), (36, .aload_n 3, 1), (37, .getfield 168, 3), (40, .iload 6, 2), (42, .if_icmp .ne 29, 3), (45, .aload_n 3, 1), (46, .getfield 170, 3), (49, .dup, 1), (50, .astore 7, 2), (52, .aload_n 1, 1), (53, .if_acmp .eq 16, 3), (69, .aload_n 3, 1), (70, .areturn, 1)]
theorem eQ43 : ∀ q ∈ tQ43, decode jdk_69_method_13_code q.1 = .ok (q.2.1, q.2.2) := by decide +kernel
theorem d43 (i : Nat) {pc n : Nat} {o : Instr} (h : tQ43[i]? = some (pc, o, n)) : decode jdk_69_method_13_code pc = .ok (o, n) := eQ43 (pc, o, n) (List.mem_of_getElem? h)
def tQ44 : List (Nat × Instr × Nat) := [(0, .aload_n 0, 1), (1, .getfield 7, 3), (4, .aload_n 1, 1), (5, .invokestatic 164, 3), (8, .invokeinterface 167 3, 5), (13, .checkcast 171, 3), (16, .invokestatic 108, 3), (19, .areturn, 1)]
theorem eQ44 : ∀ q ∈ tQ44, decode prog_16_method_6_code q.1 = .ok (q.2.1, q.2.2) := by decide +kernel
theorem d44 (i : Nat) {pc n : Nat} {o : Instr} (h : tQ44[i]? = some (pc, o, n)) : decode prog_16_method_6_code pc = .ok (o, n) := eQ44 (pc, o, n) (List.mem_of_getElem? h)
def tQ45 : List (Nat × Instr × Nat) := [(0, .aload_n 0, 1), (1, .aload_n 1, 1), (2, .invokevirtual 158, 3), (5, .dup, 1), (6, .astore_n 3, 1), (7, .ifnonnull 7, 3), (10, .aload_n 2, 1), (11, .goto 7, 3), (18, .areturn, 1), (14, .aload_n 3, 1), (15, .getfield 162, 3)]
theorem eQ45 : ∀ q ∈ tQ45, decode jdk_69_method_30_code q.1 = .ok (q.2.1, q.2.2) := by decide +kernel
theorem d45 (i : Nat) {pc n : Nat} {o : Instr} (h : tQ45[i]? = some (pc, o, n)) : decode jdk_69_method_30_code pc = .ok (o, n) := eQ45 (pc, o, n) (List.mem_of_getElem? h)
def tQ46 : List (Nat × Instr × Nat) := [(0, .aload_n 0, 1), (1, .getfield 7, 3), (4, .arraylength, 1), (5, .ireturn, 1)]
theorem eQ46 : ∀ q ∈ tQ46, decode jdk_45_method_3_code q.1 = .ok (q.2.1, q.2.2) := by decide +kernel
theorem d46 (i : Nat) {pc n : Nat} {o : Instr} (h : tQ46[i]? = some (pc, o, n)) : decode jdk_45_method_3_code pc = .ok (o, n) := eQ46 (pc, o, n) (List.mem_of_getElem? h)
def tQ47 : List (Nat × Instr × Nat) := [(0, .aload_n 0, 1), (1, .dup, 1), (2, .getfield 63, 3), (5, .iconst 1, 1), (6, .iadd, 1), (7, .putfield 63, 3), (10, .aload_n 0, 1), (11, .aload_n 1, 1), (12, .aload_n 0, 1), (13, .getfield 9, 3), (16, .aload_n 0, 1), (17, .getfield 48, 3), (20, .invokevirtual 131, 3), (23, .iconst 1, 1), (24, .ireturn, 1)]
theorem eQ47 : ∀ q ∈ tQ47, decode jdk_38_method_25_code q.1 = .ok (q.2.1, q.2.2) := by decide +kernel
theorem d47 (i : Nat) {pc n : Nat} {o : Instr} (h : tQ47[i]? = some (pc, o, n)) : decode jdk_38_method_25_code pc = .ok (o, n) := eQ47 (pc, o, n) (List.mem_of_getElem? h)
def tQ48 : List (Nat × Instr × Nat) := [(0, .iload_n 3, 1), (1, .aload_n 2, 1), (2, .arraylength, 1), (3, .if_icmp .ne 8, 3), (11, .aload_n 2, 1), (12, .iload_n 3, 1), (13, .aload_n 1, 1), (14, .aastore, 1), (15, .aload_n 0, 1), (16, .iload_n 3, 1), (17, .iconst 1, 1), (18, .iadd, 1), (19, .putfield 48, 3), (22, .return_, 1), (6, .aload_n 0, 1), (7, .invokevirtual 129, 3), (10, .astore_n 2, 1)]
theorem eQ48 : ∀ q ∈ tQ48, decode jdk_38_method_24_code q.1 = .ok (q.2.1, q.2.2) := by decide +kernel
theorem d48 (i : Nat) {pc n : Nat} {o : Instr} (h : tQ48[i]? = some (pc, o, n)) : decode jdk_38_method_24_code pc = .ok (o, n) := eQ48 (pc, o, n) (List.mem_of_getElem? h)
def tQ49 : List (Nat × Instr × Nat) := [(0, .aload_n 0, 1), (1, .aload_n 0, 1), (2, .getfield 48, 3), (5, .iconst 1, 1), (6, .iadd, 1), (7, .invokevirtual 69, 3), (10, .areturn, 1)]
theorem eQ49 : ∀ q ∈ tQ49, decode jdk_38_method_7_code q.1 = .ok (q.2.1, q.2.2) := by decide +kernel
theorem d49 (i : Nat) {pc n : Nat} {o : Instr} (h : tQ49[i]? = some (pc, o, n)) : decode jdk_38_method_7_code pc = .ok (o, n) := eQ49 (pc, o, n) (List.mem_of_getElem? h)
def tQ50 : List (Nat × Instr × Nat) := [(0, .aload_n 0, 1), (1, .getfield 9, 3), (4, .arraylength, 1), (5, .istore_n 2, 1), (6, .iload_n 2, 1), (7, .ifCond .gt 13, 3), (10, .aload_n 0, 1), (11, .getfield 9, 3), (14, .getstatic 39, 3), (17, .if_acmp .eq 28, 3), (45, .aload_n 0, 1), (46, .bipush 10, 2), (48, .iload_n 1, 1), (49, .invokestatic 79, 3), (52, .anewarray 7, 3), (55, .dup_x1, 1), (56, .putfield 9, 3), (59, .areturn, 1)]
theorem eQ50 : ∀ q ∈ tQ50, decode jdk_38_method_6_code q.1 = .ok (q.2.1, q.2.2) := by decide +kernel
theorem d50 (i : Nat) {pc n : Nat} {o : Instr} (h : tQ50[i]? = some (pc, o, n)) : decode jdk_38_method_6_code pc = .ok (o, n) := eQ50 (pc, o, n) (List.mem_of_getElem? h)
def tQ51 : List (Nat × Instr × Nat) := [(0, .iload_n 0, 1), (1, .iload_n 1, 1), (2, .if_icmp .lt 7, 3), (5, .iload_n 0, 1), (6, .goto 4, 3), (10, .ireturn, 1)]
theorem eQ51 : ∀ q ∈ tQ51, decode jdk_29_method_65_code q.1 = .ok (q.2.1, q.2.2) := by decide +kernel
theorem d51 (i : Nat) {pc n : Nat} {o : Instr} (h : tQ51[i]? = some (pc, o, n)) : decode jdk_29_method_65_code pc = .ok (o, n) := eQ51 (pc, o, n) (List.mem_of_getElem? h)
def tQ52 : List (Nat × Instr × Nat) := [(0, .iload_n 1, 1), (1, .aload_n 0, 1), (2, .getfield 48, 3), (5, .invokestatic 118, 3), (8, .pop, 1), (9, .aload_n 0, 1), (10, .iload_n 1, 1), (11, .invokevirtual 123, 3), (14, .areturn, 1)]
theorem eQ52 : ∀ q ∈ tQ52, decode jdk_38_method_20_code q.1 = .ok (q.2.1, q.2.2) := by decide +kernel
theorem d52 (i : Nat) {pc n : Nat} {o : Instr} (h : tQ52[i]? = some (pc, o, n)) : decode jdk_38_method_20_code pc = .ok (o, n) := eQ52 (pc, o, n) (List.mem_of_getElem? h)
def tQ53 : List (Nat × Instr × Nat) := [(0, .iload_n 0, 1), (1, .iload_n 1, 1), (2, .aconst_null, 1), (3, .invokestatic 105, 3), (6, .ireturn, 1)]
theorem eQ53 : ∀ q ∈ tQ53, decode jdk_31_method_17_code q.1 = .ok (q.2.1, q.2.2) := by decide +kernel
theorem d53 (i : Nat) {pc n : Nat} {o : Instr} (h : tQ53[i]? = some (pc, o, n)) : decode jdk_31_method_17_code pc = .ok (o, n) := eQ53 (pc, o, n) (List.mem_of_getElem? h)
def tQ54 : List (Nat × Instr × Nat) := [(0, .iload_n 0, 1), (1, .ifCond .lt 8, 3), (4, .iload_n 0, 1), (5, .iload_n 1, 1), (6, .if_icmp .lt 10, 3), (16, .iload_n 0, 1), (17, .ireturn, 1)]
theorem eQ54 : ∀ q ∈ tQ54, decode jdk_41_method_11_code q.1 = .ok (q.2.1, q.2.2) := by decide +kernel
theorem d54 (i : Nat) {pc n : Nat} {o : Instr} (h : tQ54[i]? = some (pc, o, n)) : decode jdk_41_method_11_code pc = .ok (o, n) := eQ54 (pc, o, n) (List.mem_of_getElem? h)
def tQ55 : List (Nat × Instr × Nat) := [(0, .aload_n 0, 1), (1, .getfield 9, 3), (4, .iload_n 1, 1), (5, .aaload, 1), (6, .areturn, 1)]
theorem eQ55 : ∀ q ∈ tQ55, decode jdk_38_method_18_code q.1 = .ok (q.2.1, q.2.2) := by decide +kernel
theorem d55 (i : Nat) {pc n : Nat} {o : Instr} (h : tQ55[i]? = some (pc, o, n)) : decode jdk_38_method_18_code pc = .ok (o, n) := eQ55 (pc, o, n) (List.mem_of_getElem? h)
def tQ56 : List (Nat × Instr × Nat) := [(0, .aload_n 0, 1), (1, .aload_n 1, 1), (2, .iconst 0, 1), (3, .invokevirtual 624, 3), (6, .ireturn, 1)]
theorem eQ56 : ∀ q ∈ tQ56, decode jdk_42_method_76_code q.1 = .ok (q.2.1, q.2.2) := by decide +kernel
theorem d56 (i : Nat) {pc n : Nat} {o : Instr} (h : tQ56[i]? = some (pc, o, n)) : decode jdk_42_method_76_code pc = .ok (o, n) := eQ56 (pc, o, n) (List.mem_of_getElem? h)
def tQ57 : List (Nat × Instr × Nat) := [(0, .iload_n 2, 1), (1, .ifCond .lt 16, 3), (4, .iload_n 2, 1), (5, .aload_n 0, 1), (6, .invokevirtual 505, 3), (9, .aload_n 1, 1), (10, .invokevirtual 505, 3), (13, .isub, 1), (14, .if_icmp .le 5, 3), (17, .iconst 0, 1), (18, .ireturn, 1), (19, .aload_n 0, 1), (20, .getfield 9, 3), (23, .astore_n 3, 1), (24, .aload_n 1, 1), (25, .getfield 9, 3), (28, .astore 4, 2), (30, .iconst 0, 1), (31, .istore 5, 2), (33, .aload 4, 2), (35, .arraylength, 1), (36, .istore 6, 2), (38, .aload_n 0, 1), (39, .invokevirtual 335, 3), (42, .istore 7, 2), (44, .iload 7, 2), (46, .aload_n 1, 1), (47, .invokevirtual 335, 3), (50, .if_icmp .ne 32, 3), (53, .iload 7, 2), (55, .iconst 1, 1), (56, .if_icmp .ne 7, 3), (63, .aload_n 3, 1), (64, .iload_n 2, 1), (65, .aload 4, 2), (67, .iconst 0, 1), (68, .iload 6, 2), (70, .invokestatic 607, 3), (73, .ifCond .ge 7, 3), (76, .iconst 1, 1), (77, .goto 4, 3), (81, .ireturn, 1)]
theorem eQ57 : ∀ q ∈ tQ57, decode jdk_42_method_75_code q.1 = .ok (q.2.1, q.2.2) := by decide +kernel
theorem d57 (i : Nat) {pc n : Nat} {o : Instr} (h : tQ57[i]? = some (pc, o, n)) : decode jdk_42_method_75_code pc = .ok (o, n) := eQ57 (pc, o, n) (List.mem_of_getElem? h)
def tQ58 : List (Nat × Instr × Nat) := [(0, .aload_n 0, 1), (1, .getfield 9, 3), (4, .arraylength, 1), (5, .aload_n 0, 1), (6, .invokevirtual 335, 3), (9, .ishr, 1), (10, .ireturn, 1)]
theorem eQ58 : ∀ q ∈ tQ58, decode jdk_42_method_54_code q.1 = .ok (q.2.1, q.2.2) := by decide +kernel
theorem d58 (i : Nat) {pc n : Nat} {o : Instr} (h : tQ58[i]? = some (pc, o, n)) : decode jdk_42_method_54_code pc = .ok (o, n) := eQ58 (pc, o, n) (List.mem_of_getElem? h)
def tQ59 : List (Nat × Instr × Nat) := [(0, .getstatic 38, 3), (3, .ifCond .eq 10, 3), (6, .aload_n 0, 1), (7, .getfield 15, 3), (10, .goto 4, 3), (14, .ireturn, 1)]
theorem eQ59 : ∀ q ∈ tQ59, decode jdk_42_method_152_code q.1 = .ok (q.2.1, q.2.2) := by decide +kernel
theorem d59 (i : Nat) {pc n : Nat} {o : Instr} (h : tQ59[i]? = some (pc, o, n)) : decode jdk_42_method_152_code pc = .ok (o, n) := eQ59 (pc, o, n) (List.mem_of_getElem? h)
def tQ60 : List (Nat × Instr × Nat) := [(0, .iconst 0, 1), (1, .istore 5, 2), (3, .iload 4, 2), (5, .bipush 7, 2), (7, .if_icmp .le 63, 3), (70, .iload 5, 2), (72, .iload 4, 2), (74, .if_icmp .ge 27, 3), (77, .aload_n 0, 1), (78, .iload_n 1, 1), (79, .iload 5, 2), (81, .iadd, 1), (82, .baload, 1), (83, .aload_n 2, 1), (84, .iload_n 3, 1), (85, .iload 5, 2), (87, .iadd, 1), (88, .baload, 1), (89, .if_icmp .eq 6, 3), (95, .iinc 5 1, 3), (98, .goto (-28), 3), (101, .iconst (-1), 1), (102, .ireturn, 1)]
theorem eQ60 : ∀ q ∈ tQ60, decode jdk_48_method_14_code q.1 = .ok (q.2.1, q.2.2) := by decide +kernel
theorem d60 (i : Nat) {pc n : Nat} {o : Instr} (h : tQ60[i]? = some (pc, o, n)) : decode jdk_48_method_14_code pc = .ok (o, n) := eQ60 (pc, o, n) (List.mem_of_getElem? h)
def tQ61 : List (Nat × Instr × Nat) := [(0, .aload_n 1, 1), (1, .invokestatic 46, 3), (4, .pop, 1), (5, .aload_n 0, 1), (6, .getfield 9, 3), (9, .ifCond .le 15, 3), (24, .iconst 0, 1), (25, .ireturn, 1)]
theorem eQ61 : ∀ q ∈ tQ61, decode jdk_132_method_4_code q.1 = .ok (q.2.1, q.2.2) := by decide +kernel
theorem d61 (i : Nat) {pc n : Nat} {o : Instr} (h : tQ61[i]? = some (pc, o, n)) : decode jdk_132_method_4_code pc = .ok (o, n) := eQ61 (pc, o, n) (List.mem_of_getElem? h)
def tQ62 : List (Nat × Instr × Nat) := [(0, .aload_n 1, 1), (1, .aload_n 0, 1), (2, .getfield 13, 3), (5, .invokevirtual 27, 3), (8, .ifCond .ne 14, 3), (22, .iconst 1, 1), (23, .goto 4, 3), (27, .ireturn, 1), (11, .aload_n 0, 1), (12, .getfield 24, 3), (15, .aload_n 1, 1), (16, .invokevirtual 27, 3), (19, .ifCond .eq 7, 3)]
theorem eQ62 : ∀ q ∈ tQ62, decode jdk_101_method_5_code q.1 = .ok (q.2.1, q.2.2) := by decide +kernel
theorem d62 (i : Nat) {pc n : Nat} {o : Instr} (h : tQ62[i]? = some (pc, o, n)) : decode jdk_101_method_5_code pc = .ok (o, n) := eQ62 (pc, o, n) (List.mem_of_getElem? h)
def tQ63 : List (Nat × Instr × Nat) := [(66, .aload 4, 2), (68, .iload 6, 2), (70, .iconst 1, 1), (71, .isub, 1), (72, .iload_n 3, 1), (73, .iand, 1), (74, .dup, 1), (75, .istore 7, 2), (77, .aaload, 1), (78, .dup, 1), (79, .astore 5, 2), (81, .ifnull 113, 3), (194, .aload_n 0, 1), (195, .getfield 202, 3), (198, .istore 11, 2), (200, .aload_n 2, 1), (201, .aload_n 1, 1), (202, .invokeinterface 274 2, 5), (207, .astore 12, 2), (209, .iload 11, 2), (211, .aload_n 0, 1), (212, .getfield 202, 3), (215, .if_icmp .eq 11, 3), (226, .aload 12, 2), (228, .ifnonnull 5, 3), (233, .aload 10, 2), (235, .ifnull 19, 3), (254, .aload 9, 2), (256, .ifnull 19, 3), (275, .aload 4, 2), (277, .iload 7, 2), (279, .aload_n 0, 1), (280, .iload_n 3, 1), (281, .aload_n 1, 1), (282, .aload 12, 2), (284, .aload 5, 2), (286, .invokevirtual 186, 3), (289, .aastore, 1), (290, .iload 8, 2), (292, .bipush 7, 2), (294, .if_icmp .lt 10, 3), (304, .aload_n 0, 1), (305, .iload 11, 2), (307, .iconst 1, 1), (308, .iadd, 1), (309, .putfield 202, 3), (312, .aload_n 0, 1), (313, .dup, 1), (314, .getfield 156, 3), (317, .iconst 1, 1), (318, .iadd, 1), (319, .putfield 156, 3), (322, .aload_n 0, 1), (323, .iconst 1, 1), (324, .invokevirtual 205, 3), (327, .aload 12, 2), (329, .areturn, 1), (0, .aload_n 2, 1), (1, .ifnonnull 11, 3), (12, .aload_n 1, 1), (13, .invokestatic 149, 3), (16, .istore_n 3, 1), (17, .iconst 0, 1), (18, .istore 8, 2), (20, .aconst_null, 1), (21, .astore 9, 2), (23, .aconst_null, 1), (24, .astore 10, 2), (26, .aload_n 0, 1), (27, .getfield 156, 3), (30, .aload_n 0, 1), (31, .getfield 88, 3), (34, .if_icmp .gt 22, 3), (37, .aload_n 0, 1), (38, .getfield 105, 3), (41, .dup, 1), (42, .astore 4, 2), (44, .ifnull 12, 3), (47, .aload 4, 2), (49, .arraylength, 1), (50, .dup, 1), (51, .istore 6, 2), (53, .ifCond .ne 13, 3), (56, .aload_n 0, 1), (57, .invokevirtual 117, 3), (60, .dup, 1), (61, .astore 4, 2), (63, .arraylength, 1), (64, .istore 6, 2)]
theorem eQ63 : ∀ q ∈ tQ63, decode jdk_69_method_35_code q.1 = .ok (q.2.1, q.2.2) := by decide +kernel
theorem d63 (i : Nat) {pc n : Nat} {o : Instr} (h : tQ63[i]? = some (pc, o, n)) : decode jdk_69_method_35_code pc = .ok (o, n) := eQ63 (pc, o, n) (List.mem_of_getElem? h)
def tQ64 : List (Nat × Instr × Nat) := [(0, .aload_n 0, 1), (1, .ifnonnull 7, 3), (8, .aload_n 0, 1), (9, .invokevirtual 1, 3), (12, .dup, 1), (13, .istore_n 1, 1), (14, .iload_n 1, 1), (15, .bipush 16, 2), (17, .iushr, 1), (18, .ixor, 1), (19, .ireturn, 1)]
theorem eQ64 : ∀ q ∈ tQ64, decode jdk_69_method_1_code q.1 = .ok (q.2.1, q.2.2) := by decide +kernel
theorem d64 (i : Nat) {pc n : Nat} {o : Instr} (h : tQ64[i]? = some (pc, o, n)) : decode jdk_69_method_1_code pc = .ok (o, n) := eQ64 (pc, o, n) (List.mem_of_getElem? h)
def tQ65 : List (Nat × Instr × Nat) := [(0, .aload_n 0, 1), (1, .getfield 19, 3), (4, .istore_n 1, 1), (5, .iload_n 1, 1), (6, .ifCond .ne 52, 3), (9, .aload_n 0, 1), (10, .getfield 23, 3), (13, .ifCond .ne 45, 3), (16, .aload_n 0, 1), (17, .invokevirtual 492, 3), (20, .ifCond .eq 13, 3), (23, .aload_n 0, 1), (24, .getfield 9, 3), (27, .invokestatic 628, 3), (30, .goto 10, 3), (40, .istore_n 1, 1), (41, .iload_n 1, 1), (42, .ifCond .ne 11, 3), (53, .aload_n 0, 1), (54, .iload_n 1, 1), (55, .putfield 19, 3), (58, .iload_n 1, 1), (59, .ireturn, 1)]
theorem eQ65 : ∀ q ∈ tQ65, decode jdk_42_method_78_code q.1 = .ok (q.2.1, q.2.2) := by decide +kernel
theorem d65 (i : Nat) {pc n : Nat} {o : Instr} (h : tQ65[i]? = some (pc, o, n)) : decode jdk_42_method_78_code pc = .ok (o, n) := eQ65 (pc, o, n) (List.mem_of_getElem? h)
def tQ66 : List (Nat × Instr × Nat) := [(0, .getstatic 38, 3), (3, .ifCond .eq 14, 3), (6, .aload_n 0, 1), (7, .getfield 15, 3), (10, .ifCond .ne 7, 3), (13, .iconst 1, 1), (14, .goto 4, 3), (18, .ireturn, 1)]
theorem eQ66 : ∀ q ∈ tQ66, decode jdk_42_method_154_code q.1 = .ok (q.2.1, q.2.2) := by decide +kernel
theorem d66 (i : Nat) {pc n : Nat} {o : Instr} (h : tQ66[i]? = some (pc, o, n)) : decode jdk_42_method_154_code pc = .ok (o, n) := eQ66 (pc, o, n) (List.mem_of_getElem? h)
def tQ67 : List (Nat × Instr × Nat) := [(0, .aload_n 0, 1), (1, .arraylength, 1), (2, .lookupswitch 40 #[(0, 26), (1, 30)], 26), (42, .aload_n 0, 1), (43, .iconst 0, 1), (44, .aload_n 0, 1), (45, .arraylength, 1), (46, .iconst 0, 1), (47, .iconst 4, 1), (48, .invokestatic 84, 3), (51, .ireturn, 1)]
theorem eQ67 : ∀ q ∈ tQ67, decode jdk_43_method_21_code q.1 = .ok (q.2.1, q.2.2) := by decide +kernel
theorem d67 (i : Nat) {pc n : Nat} {o : Instr} (h : tQ67[i]? = some (pc, o, n)) : decode jdk_43_method_21_code pc = .ok (o, n) := eQ67 (pc, o, n) (List.mem_of_getElem? h)
def tQ68 : List (Nat × Instr × Nat) := [(0, .iload 4, 2), (2, .tableswitch 127 4 10 #[42, 55, 127, 127, 88, 101, 114], 42), (44, .iload_n 3, 1), (45, .aload_n 0, 1), (46, .checkcast 60, 3), (49, .iload_n 1, 1), (50, .iload_n 2, 1), (51, .invokestatic 62, 3), (54, .goto 103, 3), (157, .ireturn, 1)]
theorem eQ68 : ∀ q ∈ tQ68, decode jdk_48_method_4_code q.1 = .ok (q.2.1, q.2.2) := by decide +kernel
theorem d68 (i : Nat) {pc n : Nat} {o : Instr} (h : tQ68[i]? = some (pc, o, n)) : decode jdk_48_method_4_code pc = .ok (o, n) := eQ68 (pc, o, n) (List.mem_of_getElem? h)
def tQ69 : List (Nat × Instr × Nat) := [(0, .iload_n 2, 1), (1, .iload_n 3, 1), (2, .iadd, 1), (3, .istore 4, 2), (5, .iload_n 2, 1), (6, .istore 5, 2), (8, .iload 5, 2), (10, .iload 4, 2), (12, .if_icmp .ge 23, 3), (15, .bipush 31, 2), (17, .iload_n 0, 1), (18, .imul, 1), (19, .aload_n 1, 1), (20, .iload 5, 2), (22, .baload, 1), (23, .sipush 255, 3), (26, .iand, 1), (27, .iadd, 1), (28, .istore_n 0, 1), (29, .iinc 5 1, 3), (32, .goto (-24), 3), (35, .iload_n 0, 1), (36, .ireturn, 1)]
theorem eQ69 : ∀ q ∈ tQ69, decode jdk_48_method_5_code q.1 = .ok (q.2.1, q.2.2) := by decide +kernel
theorem d69 (i : Nat) {pc n : Nat} {o : Instr} (h : tQ69[i]? = some (pc, o, n)) : decode jdk_48_method_5_code pc = .ok (o, n) := eQ69 (pc, o, n) (List.mem_of_getElem? h)
def tQ70 : List (Nat × Instr × Nat) := [(0, .aload_n 0, 1), (1, .getfield 105, 3), (4, .astore_n 1, 1), (5, .aload_n 1, 1), (6, .ifnonnull 7, 3), (9, .iconst 0, 1), (10, .goto 5, 3), (15, .istore_n 2, 1), (16, .aload_n 0, 1), (17, .getfield 88, 3), (20, .istore_n 3, 1), (21, .iconst 0, 1), (22, .istore 5, 2), (24, .iload_n 2, 1), (25, .ifCond .le 42, 3), (67, .iload_n 3, 1), (68, .ifCond .le 9, 3), (77, .bipush 16, 2), (79, .istore 4, 2), (81, .bipush 12, 2), (83, .istore 5, 2), (85, .iload 5, 2), (87, .ifCond .ne 38, 3), (125, .aload_n 0, 1), (126, .iload 5, 2), (128, .putfield 88, 3), (131, .iload 4, 2), (133, .anewarray 163, 3), (136, .astore 6, 2), (138, .aload_n 0, 1), (139, .aload 6, 2), (141, .putfield 105, 3), (144, .aload_n 1, 1), (145, .ifnull 208, 3), (353, .aload 6, 2), (355, .areturn, 1)]
theorem eQ70 : ∀ q ∈ tQ70, decode jdk_69_method_17_code q.1 = .ok (q.2.1, q.2.2) := by decide +kernel
theorem d70 (i : Nat) {pc n : Nat} {o : Instr} (h : tQ70[i]? = some (pc, o, n)) : decode jdk_69_method_17_code pc = .ok (o, n) := eQ70 (pc, o, n) (List.mem_of_getElem? h)
def tQ72 : List (Nat × Instr × Nat) := [(0, .new 163, 3), (3, .dup, 1), (4, .iload_n 1, 1), (5, .aload_n 2, 1), (6, .aload_n 3, 1), (7, .aload 4, 2), (9, .invokespecial 375, 3), (12, .areturn, 1)]
theorem eQ72 : ∀ q ∈ tQ72, decode jdk_69_method_46_code q.1 = .ok (q.2.1, q.2.2) := by decide +kernel
theorem d72 (i : Nat) {pc n : Nat} {o : Instr} (h : tQ72[i]? = some (pc, o, n)) : decode jdk_69_method_46_code pc = .ok (o, n) := eQ72 (pc, o, n) (List.mem_of_getElem? h)
def tQ73 : List (Nat × Instr × Nat) := [(0, .aload_n 0, 1), (1, .invokespecial 1, 3), (4, .aload_n 0, 1), (5, .iload_n 1, 1), (6, .putfield 7, 3), (9, .aload_n 0, 1), (10, .aload_n 2, 1), (11, .putfield 13, 3), (14, .aload_n 0, 1), (15, .aload_n 3, 1), (16, .putfield 17, 3), (19, .aload_n 0, 1), (20, .aload 4, 2), (22, .putfield 20, 3), (25, .return_, 1)]
theorem eQ73 : ∀ q ∈ tQ73, decode jdk_70_method_1_code q.1 = .ok (q.2.1, q.2.2) := by decide +kernel
theorem d73 (i : Nat) {pc n : Nat} {o : Instr} (h : tQ73[i]? = some (pc, o, n)) : decode jdk_70_method_1_code pc = .ok (o, n) := eQ73 (pc, o, n) (List.mem_of_getElem? h)
def tQ74 : List (Nat × Instr × Nat) := [(0, .return_, 1)]
theorem eQ74 : ∀ q ∈ tQ74, decode jdk_69_method_52_code q.1 = .ok (q.2.1, q.2.2) := by decide +kernel
theorem d74 (i : Nat) {pc n : Nat} {o : Instr} (h : tQ74[i]? = some (pc, o, n)) : decode jdk_69_method_52_code pc = .ok (o, n) := eQ74 (pc, o, n) (List.mem_of_getElem? h)
def tQ75 : List (Nat × Instr × Nat) := [(0, .aload_n 0, 1), (1, .getfield 9, 3), (4, .aload_n 0, 1), (5, .getfield 48, 3), (8, .invokestatic 66, 3), (11, .areturn, 1)]
theorem eQ75 : ∀ q ∈ tQ75, decode jdk_38_method_16_code q.1 = .ok (q.2.1, q.2.2) := by decide +kernel
theorem d75 (i : Nat) {pc n : Nat} {o : Instr} (h : tQ75[i]? = some (pc, o, n)) : decode jdk_38_method_16_code pc = .ok (o, n) := eQ75 (pc, o, n) (List.mem_of_getElem? h)
def tQ76 : List (Nat × Instr × Nat) := [(0, .aload_n 0, 1), (1, .iload_n 1, 1), (2, .aload_n 0, 1), (3, .invokevirtual 86, 3), (6, .invokestatic 300, 3), (9, .areturn, 1)]
theorem eQ76 : ∀ q ∈ tQ76, decode jdk_65_method_119_code q.1 = .ok (q.2.1, q.2.2) := by decide +kernel
theorem d76 (i : Nat) {pc n : Nat} {o : Instr} (h : tQ76[i]? = some (pc, o, n)) : decode jdk_65_method_119_code pc = .ok (o, n) := eQ76 (pc, o, n) (List.mem_of_getElem? h)
def tQ77 : List (Nat × Instr × Nat) := [(0, .aload_n 2, 1), (1, .ldc 110, 2), (3, .if_acmp .ne 10, 3), (6, .iload_n 1, 1), (7, .anewarray 2, 3), (10, .goto 14, 3), (24, .astore_n 3, 1), (25, .aload_n 0, 1), (26, .iconst 0, 1), (27, .aload_n 3, 1), (28, .iconst 0, 1), (29, .aload_n 0, 1), (30, .arraylength, 1), (31, .iload_n 1, 1), (32, .invokestatic 304, 3), (35, .invokestatic 150, 3), (38, .aload_n 3, 1), (39, .areturn, 1)]
theorem eQ77 : ∀ q ∈ tQ77, decode jdk_65_method_120_code q.1 = .ok (q.2.1, q.2.2) := by decide +kernel
theorem d77 (i : Nat) {pc n : Nat} {o : Instr} (h : tQ77[i]? = some (pc, o, n)) : decode jdk_65_method_120_code pc = .ok (o, n) := eQ77 (pc, o, n) (List.mem_of_getElem? h)
def tQ78 : List (Nat × Instr × Nat) := [(0, .aload_n 0, 1), (1, .arraylength, 1), (2, .tableswitch 57 0 2 #[26, 32, 43], 26), (34, .new 96, 3), (37, .dup, 1), (38, .aload_n 0, 1), (39, .iconst 0, 1), (40, .aaload, 1), (41, .invokespecial 98, 3), (44, .areturn, 1), (45, .new 96, 3), (48, .dup, 1), (49, .aload_n 0, 1), (50, .iconst 0, 1), (51, .aaload, 1), (52, .aload_n 0, 1), (53, .iconst 1, 1), (54, .aaload, 1), (55, .invokespecial 100, 3), (58, .areturn, 1), (59, .aload_n 0, 1), (60, .invokestatic 109, 3), (63, .areturn, 1)]
theorem eQ78 : ∀ q ∈ tQ78, decode jdk_40_method_47_code q.1 = .ok (q.2.1, q.2.2) := by decide +kernel
theorem d78 (i : Nat) {pc n : Nat} {o : Instr} (h : tQ78[i]? = some (pc, o, n)) : decode jdk_40_method_47_code pc = .ok (o, n) := eQ78 (pc, o, n) (List.mem_of_getElem? h)
def tQ79 : List (Nat × Instr × Nat) := [(0, .aload_n 0, 1), (1, .invokespecial 1, 3), (4, .aload_n 0, 1), (5, .aload_n 1, 1), (6, .invokestatic 7, 3), (9, .putfield 13, 3), (12, .aload_n 0, 1), (13, .getstatic 19, 3), (16, .putfield 24, 3), (19, .return_, 1)]
theorem eQ79 : ∀ q ∈ tQ79, decode jdk_44_method_1_code q.1 = .ok (q.2.1, q.2.2) := by decide +kernel
theorem d79 (i : Nat) {pc n : Nat} {o : Instr} (h : tQ79[i]? = some (pc, o, n)) : decode jdk_44_method_1_code pc = .ok (o, n) := eQ79 (pc, o, n) (List.mem_of_getElem? h)
def tQ80 : List (Nat × Instr × Nat) := [(0, .aload_n 0, 1), (1, .invokespecial 1, 3), (4, .return_, 1)]
theorem eQ80 : ∀ q ∈ tQ80, decode jdk_46_method_1_code q.1 = .ok (q.2.1, q.2.2) := by decide +kernel
theorem d80 (i : Nat) {pc n : Nat} {o : Instr} (h : tQ80[i]? = some (pc, o, n)) : decode jdk_46_method_1_code pc = .ok (o, n) := eQ80 (pc, o, n) (List.mem_of_getElem? h)
def tQ81 : List (Nat × Instr × Nat) := [(0, .aload_n 0, 1), (1, .getfield 24, 3), (4, .getstatic 19, 3), (7, .if_acmp .eq 7, 3), (14, .iconst 1, 1), (15, .ireturn, 1)]
theorem eQ81 : ∀ q ∈ tQ81, decode jdk_44_method_3_code q.1 = .ok (q.2.1, q.2.2) := by decide +kernel
theorem d81 (i : Nat) {pc n : Nat} {o : Instr} (h : tQ81[i]? = some (pc, o, n)) : decode jdk_44_method_3_code pc = .ok (o, n) := eQ81 (pc, o, n) (List.mem_of_getElem? h)
def tQ82 : List (Nat × Instr × Nat) := [(0, .iload_n 1, 1), (1, .ifCond .ne 8, 3), (4, .aload_n 0, 1), (5, .getfield 13, 3), (8, .areturn, 1), (9, .iload_n 1, 1), (10, .iconst 1, 1), (11, .if_icmp .ne 18, 3), (14, .aload_n 0, 1), (15, .getfield 24, 3), (18, .getstatic 19, 3), (21, .if_acmp .eq 8, 3), (24, .aload_n 0, 1), (25, .getfield 24, 3), (28, .areturn, 1)]
theorem eQ82 : ∀ q ∈ tQ82, decode jdk_44_method_5_code q.1 = .ok (q.2.1, q.2.2) := by decide +kernel
theorem d82 (i : Nat) {pc n : Nat} {o : Instr} (h : tQ82[i]? = some (pc, o, n)) : decode jdk_44_method_5_code pc = .ok (o, n) := eQ82 (pc, o, n) (List.mem_of_getElem? h)
def tQ83 : List (Nat × Instr × Nat) := [(0, .aload_n 0, 1), (1, .invokespecial 1, 3), (4, .aload_n 0, 1), (5, .aload_n 1, 1), (6, .invokestatic 7, 3), (9, .putfield 13, 3), (12, .aload_n 0, 1), (13, .aload_n 2, 1), (14, .invokestatic 7, 3), (17, .putfield 24, 3), (20, .return_, 1)]
theorem eQ83 : ∀ q ∈ tQ83, decode jdk_44_method_2_code q.1 = .ok (q.2.1, q.2.2) := by decide +kernel
theorem d83 (i : Nat) {pc n : Nat} {o : Instr} (h : tQ83[i]? = some (pc, o, n)) : decode jdk_44_method_2_code pc = .ok (o, n) := eQ83 (pc, o, n) (List.mem_of_getElem? h)
def tQ84 : List (Nat × Instr × Nat) := [(0, .aload_n 0, 1), (1, .getfield 13, 3), (4, .iload_n 1, 1), (5, .invokeinterface 46 2, 5), (10, .checkcast 50, 3), (13, .areturn, 1)]
theorem eQ84 : ∀ q ∈ tQ84, decode prog_16_method_10_code q.1 = .ok (q.2.1, q.2.2) := by decide +kernel
theorem d84 (i : Nat) {pc n : Nat} {o : Instr} (h : tQ84[i]? = some (pc, o, n)) : decode prog_16_method_10_code pc = .ok (o, n) := eQ84 (pc, o, n) (List.mem_of_getElem? h)
def tQ85 : List (Nat × Instr × Nat) := [(8, .iload_n 2, 1), (9, .aload_n 0, 1), (10, .arraylength, 1), (11, .if_icmp .ge 18, 3), (29, .new 12, 3), (32, .dup, 1), (33, .aload_n 1, 1), (34, .iconst 0, 1), (35, .invokespecial 43, 3), (38, .areturn, 1), (14, .aload_n 1, 1), (15, .iload_n 2, 1), (16, .aload_n 0, 1), (17, .iload_n 2, 1), (18, .aaload, 1), (19, .invokestatic 37, 3), (22, .aastore, 1), (23, .iinc 2 1, 3), (26, .goto (-18), 3), (0, .aload_n 0, 1), (1, .arraylength, 1), (2, .anewarray 2, 3), (5, .astore_n 1, 1), (6, .iconst 0, 1), (7, .istore_n 2, 1)]
theorem eQ85 : ∀ q ∈ tQ85, decode jdk_56_method_4_code q.1 = .ok (q.2.1, q.2.2) := by decide +kernel
theorem d85 (i : Nat) {pc n : Nat} {o : Instr} (h : tQ85[i]? = some (pc, o, n)) : decode jdk_56_method_4_code pc = .ok (o, n) := eQ85 (pc, o, n) (List.mem_of_getElem? h)
def tQ86 : List (Nat × Instr × Nat) := [(0, .aload_n 0, 1), (1, .invokespecial 1, 3), (4, .aload_n 0, 1), (5, .aload_n 1, 1), (6, .putfield 7, 3), (9, .aload_n 0, 1), (10, .iload_n 2, 1), (11, .putfield 13, 3), (14, .return_, 1)]
theorem eQ86 : ∀ q ∈ tQ86, decode jdk_45_method_1_code q.1 = .ok (q.2.1, q.2.2) := by decide +kernel
theorem d86 (i : Nat) {pc n : Nat} {o : Instr} (h : tQ86[i]? = some (pc, o, n)) : decode jdk_45_method_1_code pc = .ok (o, n) := eQ86 (pc, o, n) (List.mem_of_getElem? h)
def tQ87 : List (Nat × Instr × Nat) := [(0, .aload_n 0, 1), (1, .getfield 7, 3), (4, .iload_n 1, 1), (5, .aaload, 1), (6, .areturn, 1)]
theorem eQ87 : ∀ q ∈ tQ87, decode jdk_45_method_4_code q.1 = .ok (q.2.1, q.2.2) := by decide +kernel
theorem d87 (i : Nat) {pc n : Nat} {o : Instr} (h : tQ87[i]? = some (pc, o, n)) : decode jdk_45_method_4_code pc = .ok (o, n) := eQ87 (pc, o, n) (List.mem_of_getElem? h)
theorem pd_0 : parseMethodDescriptor "(I[BII)I" = some ⟨[.int, (.array .byte), .int, .int], some .int⟩ := by decide +kernel
theorem pd_1 : parseMethodDescriptor "(Ljava/lang/Object;IIII)I" = some ⟨[(.object "java/lang/Object"), .int, .int, .int, .int], some .int⟩ := by decide +kernel
theorem pd_2 : parseMethodDescriptor "()Z" = some ⟨[], some .boolean⟩ := by decide +kernel
theorem pd_3 : parseMethodDescriptor "([B)I" = some ⟨[(.array .byte)], some .int⟩ := by decide +kernel
theorem pd_4 : parseMethodDescriptor "()I" = some ⟨[], some .int⟩ := by decide +kernel
theorem pd_5 : parseMethodDescriptor "()B" = some ⟨[], some .byte⟩ := by decide +kernel
theorem pd_6 : parseMethodDescriptor "([B[B)Z" = some ⟨[(.array .byte), (.array .byte)], some .boolean⟩ := by decide +kernel
theorem pd_7 : parseMethodDescriptor "()V" = some ⟨[], none⟩ := by decide +kernel
theorem pd_8 : parseMethodDescriptor "(IILjava/util/function/BiFunction;)I" = some ⟨[.int, .int, (.object "java/util/function/BiFunction")], some .int⟩ := by decide +kernel
theorem pd_9 : parseMethodDescriptor "(II)I" = some ⟨[.int, .int], some .int⟩ := by decide +kernel
theorem pd_10 : parseMethodDescriptor "(I)Ljava/lang/Object;" = some ⟨[.int], some (.object "java/lang/Object")⟩ := by decide +kernel
theorem pd_11 : parseMethodDescriptor "(I)[Ljava/lang/Object;" = some ⟨[.int], some (.array (.object "java/lang/Object"))⟩ := by decide +kernel
theorem pd_12 : parseMethodDescriptor "()[Ljava/lang/Object;" = some ⟨[], some (.array (.object "java/lang/Object"))⟩ := by decide +kernel
theorem pd_13 : parseMethodDescriptor "(Ljava/lang/Object;[Ljava/lang/Object;I)V" = some ⟨[(.object "java/lang/Object"), (.array (.object "java/lang/Object")), .int], none⟩ := by decide +kernel
theorem pd_14 : parseMethodDescriptor "(Ljava/lang/Object;)Ljava/lang/Object;" = some ⟨[(.object "java/lang/Object")], some (.object "java/lang/Object")⟩ := by decide +kernel
theorem pd_15 : parseMethodDescriptor "(Ljava/lang/Object;)Z" = some ⟨[(.object "java/lang/Object")], some .boolean⟩ := by decide +kernel
theorem pd_16 : parseMethodDescriptor "(Ljava/lang/Object;Ljava/lang/Object;)V" = some ⟨[(.object "java/lang/Object"), (.object "java/lang/Object")], none⟩ := by decide +kernel
theorem pd_17 : parseMethodDescriptor "([Ljava/lang/Object;ILjava/lang/Class;)[Ljava/lang/Object;" = some ⟨[(.array (.object "java/lang/Object")), .int, (.object "java/lang/Class")], some (.array (.object "java/lang/Object"))⟩ := by decide +kernel
theorem pd_18 : parseMethodDescriptor "([Ljava/lang/Object;I)[Ljava/lang/Object;" = some ⟨[(.array (.object "java/lang/Object")), .int], some (.array (.object "java/lang/Object"))⟩ := by decide +kernel
theorem pd_19 : parseMethodDescriptor "([Ljava/lang/Object;IILjava/lang/Class;)[Ljava/lang/Object;" = some ⟨[(.array (.object "java/lang/Object")), .int, .int, (.object "java/lang/Class")], some (.array (.object "java/lang/Object"))⟩ := by decide +kernel
theorem pd_20 : parseMethodDescriptor "(ILjava/lang/Object;Ljava/lang/Object;Ljava/util/HashMap$Node;)V" = some ⟨[.int, (.object "java/lang/Object"), (.object "java/lang/Object"), (.object "java/util/HashMap$Node")], none⟩ := by decide +kernel
theorem pd_21 : parseMethodDescriptor "(Ljava/lang/Object;)I" = some ⟨[(.object "java/lang/Object")], some .int⟩ := by decide +kernel
theorem pd_22 : parseMethodDescriptor "(Ljava/lang/Object;)Ljava/util/HashMap$Node;" = some ⟨[(.object "java/lang/Object")], some (.object "java/util/HashMap$Node")⟩ := by decide +kernel
theorem pd_23 : parseMethodDescriptor "(Ljava/lang/Object;)V" = some ⟨[(.object "java/lang/Object")], none⟩ := by decide +kernel
theorem pd_24 : parseMethodDescriptor "([Ljava/lang/Object;Z)V" = some ⟨[(.array (.object "java/lang/Object")), .boolean], none⟩ := by decide +kernel
theorem pd_25 : parseMethodDescriptor "([Ljava/lang/Object;)Ljava/util/List;" = some ⟨[(.array (.object "java/lang/Object"))], some (.object "java/util/List")⟩ := by decide +kernel
theorem pd_26 : parseMethodDescriptor "()Ljava/util/List;" = some ⟨[], some (.object "java/util/List")⟩ := by decide +kernel
theorem pd_27 : parseMethodDescriptor "(Ljava/util/Collection;)Ljava/util/List;" = some ⟨[(.object "java/util/Collection")], some (.object "java/util/List")⟩ := by decide +kernel
theorem pd_28 : parseMethodDescriptor "(III)V" = some ⟨[.int, .int, .int], none⟩ := by decide +kernel
theorem pd_29 : parseMethodDescriptor "(Ljava/util/ArrayList;II)V" = some ⟨[(.object "java/util/ArrayList"), .int, .int], none⟩ := by decide +kernel
theorem pd_30 : parseMethodDescriptor "([Ljava/lang/Object;II)[Ljava/lang/Object;" = some ⟨[(.array (.object "java/lang/Object")), .int, .int], some (.array (.object "java/lang/Object"))⟩ := by decide +kernel
theorem pd_31 : parseMethodDescriptor "([CI[BII)I" = some ⟨[(.array .char), .int, (.array .byte), .int, .int], some .int⟩ := by decide +kernel
theorem pd_32 : parseMethodDescriptor "([CII)[B" = some ⟨[(.array .char), .int, .int], some (.array .byte)⟩ := by decide +kernel
theorem pd_33 : parseMethodDescriptor "([BI)B" = some ⟨[(.array .byte), .int], some .byte⟩ := by decide +kernel
theorem pd_34 : parseMethodDescriptor "([CIILjava/lang/Void;)V" = some ⟨[(.array .char), .int, .int, (.object "java/lang/Void")], none⟩ := by decide +kernel
theorem pd_35 : parseMethodDescriptor "(C)Z" = some ⟨[.char], some .boolean⟩ := by decide +kernel
theorem pd_36 : parseMethodDescriptor "(C)[B" = some ⟨[.char], some (.array .byte)⟩ := by decide +kernel
theorem pd_37 : parseMethodDescriptor "([BB)V" = some ⟨[(.array .byte), .byte], none⟩ := by decide +kernel
theorem pd_38 : parseMethodDescriptor "([BI[BII)I" = some ⟨[(.array .byte), .int, (.array .byte), .int, .int], some .int⟩ := by decide +kernel
theorem pd_39 : parseMethodDescriptor "(Ljava/lang/String;I)Z" = some ⟨[(.object "java/lang/String"), .int], some .boolean⟩ := by decide +kernel
theorem pd_40 : parseMethodDescriptor "(ILjava/lang/Object;Ljava/lang/Object;Ljava/util/HashMap$Node;)Ljava/util/HashMap$Node;" = some ⟨[.int, (.object "java/lang/Object"), (.object "java/lang/Object"), (.object "java/util/HashMap$Node")], some (.object "java/util/HashMap$Node")⟩ := by decide +kernel
theorem pd_41 : parseMethodDescriptor "(Z)V" = some ⟨[.boolean], none⟩ := by decide +kernel
theorem pd_42 : parseMethodDescriptor "()[Ljava/util/HashMap$Node;" = some ⟨[], some (.array (.object "java/util/HashMap$Node"))⟩ := by decide +kernel
theorem pd_43 : parseMethodDescriptor "(Ljava/lang/String;)Z" = some ⟨[(.object "java/lang/String")], some .boolean⟩ := by decide +kernel
theorem pd_44 : parseMethodDescriptor "(Ljava/lang/Object;Ljava/util/function/Function;)Ljava/lang/Object;" = some ⟨[(.object "java/lang/Object"), (.object "java/util/function/Function")], some (.object "java/lang/Object")⟩ := by decide +kernel
theorem pd_45 : parseMethodDescriptor "(II)Ljava/util/List;" = some ⟨[.int, .int], some (.object "java/util/List")⟩ := by decide +kernel
theorem pd_46 : parseMethodDescriptor "(Ljava/util/Collection;)Z" = some ⟨[(.object "java/util/Collection")], some .boolean⟩ := by decide +kernel
theorem pd_47 : parseMethodDescriptor "(Ljava/util/Map;Ljava/util/List;Ljava/util/List;Ljava/lang/String;)V" = some ⟨[(.object "java/util/Map"), (.object "java/util/List"), (.object "java/util/List"), (.object "java/lang/String")], none⟩ := by decide +kernel
theorem pd_48 : parseMethodDescriptor "()Ljava/util/Set;" = some ⟨[], some (.object "java/util/Set")⟩ := by decide +kernel
theorem pd_49 : parseMethodDescriptor "(Ljava/util/List;Ljava/util/Set;Ljava/util/Set;Ljava/util/Set;Ljava/util/List;Ljava/lang/String;)Lcom/example/keyturn/keyturn/Options;" = some ⟨[(.object "java/util/List"), (.object "java/util/Set"), (.object "java/util/Set"), (.object "java/util/Set"), (.object "java/util/List"), (.object "java/lang/String")], some (.object "com/example/keyturn/keyturn/Options")⟩ := by decide +kernel
theorem pd_50 : parseMethodDescriptor "(Ljava/lang/Object;Ljava/lang/Object;)Ljava/lang/Object;" = some ⟨[(.object "java/lang/Object"), (.object "java/lang/Object")], some (.object "java/lang/Object")⟩ := by decide +kernel
theorem pd_51 : parseMethodDescriptor "(I)Ljava/lang/String;" = some ⟨[.int], some (.object "java/lang/String")⟩ := by decide +kernel
theorem pd_52 : parseMethodDescriptor "(Ljava/lang/String;)Ljava/util/List;" = some ⟨[(.object "java/lang/String")], some (.object "java/util/List")⟩ := by decide +kernel
theorem pd_53 : parseMethodDescriptor "(Ljava/lang/Object;Ljava/lang/Object;)Ljava/util/Set;" = some ⟨[(.object "java/lang/Object"), (.object "java/lang/Object")], some (.object "java/util/Set")⟩ := by decide +kernel
theorem pd_54 : parseMethodDescriptor "(Ljava/util/List;Ljava/util/Set;Ljava/util/List;Ljava/lang/String;)Lcom/example/keyturn/keyturn/Options;" = some ⟨[(.object "java/util/List"), (.object "java/util/Set"), (.object "java/util/List"), (.object "java/lang/String")], some (.object "com/example/keyturn/keyturn/Options")⟩ := by decide +kernel
theorem pd_55 : parseMethodDescriptor "(C)Ljava/lang/String;" = some ⟨[.char], some (.object "java/lang/String")⟩ := by decide +kernel
theorem pd_56 : parseMethodDescriptor "([C)V" = some ⟨[(.array .char)], none⟩ := by decide +kernel
theorem own_hstr {Z : State} {a0 : Array Value} (hw : HW Z a0) : ∀ a ∈ Bundle.stringAtoms, a.before a0 Z = true := fun d hd => hw d ((by decide +kernel : ∀ d ∈ Bundle.stringAtoms, d ∈ tables_1) d hd)
theorem own_n32 {n : Nat} (h : n ≤ 5000) : ¬ Int32.ofNat n < 0 ∧ (Int32.ofNat n).toNatClampNeg = n ∧ (Int32.ofNat n).toInt = n := by
 have h31 : n < 2 ^ 31 := by omega
 have h0 : ¬ Int32.ofNat n < 0 := Int32.ofNat_not_neg h31
 have h2 : (Int32.ofNat n).toInt = n := Int32.toInt_ofNat_small h31
 have h1 := nat_of h0
 exact ⟨h0, by omega, h2⟩
theorem own_add32 {a b : Nat} (h : a + b ≤ 5000) : Int32.ofNat a + Int32.ofNat b = Int32.ofNat (a + b) := by
 have e1 := (own_n32 (n := a) (by omega)).2.2
 have e2 := (own_n32 (n := b) (by omega)).2.2
 have e3 := (own_n32 h).2.2
 refine Int32.toInt_inj.mp ?_
 have := c_iadd (Int32.ofNat a) (Int32.ofNat b)
 have := rng32 (Int32.ofNat a + Int32.ofNat b)
 omega
theorem own_sub32 {a b : Nat} (h : a ≤ 5000) (hb : b ≤ a) : Int32.ofNat a - Int32.ofNat b = Int32.ofNat (a - b) := by
 have e1 := (own_n32 (n := a) (by omega)).2.2
 have e2 := (own_n32 (n := b) (by omega)).2.2
 have e3 := (own_n32 (n := a - b) (by omega)).2.2
 refine Int32.toInt_inj.mp ?_
 have := c_isub (Int32.ofNat a) (Int32.ofNat b)
 have := rng32 (Int32.ofNat a - Int32.ofNat b)
 omega
theorem own_lt32 {a b : Nat} (ha : a ≤ 5000) (hb : b ≤ 5000) : Int32.ofNat a < Int32.ofNat b ↔ a < b := by
 have e1 := (own_n32 (n := a) ha).2.2
 have e2 := (own_n32 (n := b) hb).2.2
 rw [Int32.lt_iff_toInt_lt]; omega
theorem own_eq32 {a b : Nat} (ha : a ≤ 5000) (hb : b ≤ 5000) : Int32.ofNat a = Int32.ofNat b ↔ a = b := by
 have e1 := (own_n32 (n := a) ha).2.2
 have e2 := (own_n32 (n := b) hb).2.2
 rw [← Int32.toInt_inj]; omega
/-- an array of bytes whose length no booked constant has may be written -/
theorem own_safe {Z : State} {a0 : Array Value} {EL : List (String × Nat)} {V : Vm} {h : Heap} {t : Addr} {kb : ClassId} {n : Int32} {vs : List Value} {dv : Value} (hZ : Z.Warmed39 V) (F : Arv Z h t kb .byte n vs dv)
   (hw : ∀ p ∈ EL, ∃ text : String, (Jvm.Cond.stringLink p.1 p.2 text).before a0 Z = true ∧ (∀ c ∈ text.toList, c.toNat < 256) ∧ text.toList.length ≠ n.toNatClampNeg) : Safe Z EL V h t := fun B => by
 obtain ⟨cA, ⟨A1, ⟨-, kA, hkA, compA, hkindA⟩, -⟩, -, A3, -⟩ := F
 obtain ⟨p, hp, u, a, hb, q, hq, Fq, hy⟩ := B
 obtain ⟨kA', hkA', ekA⟩ := hZ.alike.2.2 _ _ hkA
 rcases hy with rfl | rfl
 · cases (show h[q.sa]? = some q.sC from Fq.ha).symm.trans A1
   obtain ⟨cS, ⟨-, -, e⟩, ⟨kS, g1, g2, -⟩, -⟩ := Fq
   subst e
   cases (show V.classes[q.sC.cls]? = some kS from g1).symm.trans hkA'
   rw [ekA] at g2
   exact nomatch hkindA.symm.trans g2
 · cases (show h[q.sd]? = some q.SA from Fq.hd).symm.trans A1
   obtain ⟨text, wl, ht, hne⟩ := hw p hp
   obtain ⟨c, k, cf, i, hc, hk, hcf, hpool, hu, -⟩ := hb
   have wl' : (Jvm.Cond.stringLink p.1 p.2 text).before a0 (Wst Z V h) = true := mvS (s := { Z with heap := h }) hZ wl
   obtain ⟨k0, cf0, i0, u0, hk0, hcf0, hp0, hu0, -, htext, -⟩ := Cond.stringLink_spec (s := Wst Z V h) hc wl'
   cases (show V.classes[c]? = some k from hk).symm.trans hk0
   cases hcf.symm.trans hcf0
   cases hpool.symm.trans hp0
   cases hu.symm.trans hu0
   have hlat := Jvm.ClassFile.lat_of_text htext ht
   obtain ⟨-, -, -, -, hbyt⟩ := Fq
   have e1 : q.SA.slots.size = u.size := by rw [hbyt, SBG.stringBytes_lat hlat, Array.size_map]
   have e2 := congrArg List.length (Jvm.ClassFile.units_of_text htext ht)
   simp at e2
   exact hne (by rw [← A3, e1, e2])
theorem own_shr0 (x : Int32) : x >>> ((0 : Int32) &&& 31) = x := by
 rw [show ((0 : Int32) &&& 31) = 0 from by decide]
 exact Int32.shiftRight_zero
def own_hs (c : Int32) : Int32 := 31 * (31 * (31 * 0 + 45) + 45) + c
theorem own_hs_int {c : Int32} (h : ¬ c < 0 ∧ ¬ (255 : Int32) < c) : (own_hs c).toInt = 44640 + c.toInt := by
 have e0 : (0 : Int32).toInt = 0 := by decide
 have e1 : (255 : Int32).toInt = 255 := by decide
 have h1 := h.1; have h2 := h.2
 rw [Int32.lt_iff_toInt_lt] at h1 h2
 have e2 : (31 * (31 * (31 * 0 + 45) + 45) : Int32) = 44640 := by decide
 have e3 : (44640 : Int32).toInt = 44640 := by decide
 have h3 := c_iadd 44640 c
 have h4 := rng32 (44640 + c)
 rw [own_hs, e2]; omega
/-- a String of the walk's own, with its hash (0: not yet reckoned) -/
def StH (Z : State) (h : Heap) (x : Addr) (cs : List Int32) (q : Int32) : Prop := Str Z h x cs ∧ Fld Z h x "java/lang/String" "hash" "I" (.int q) ∧ Fld Z h x "java/lang/String" "hashIsZero" "Z" (.int 0) ∧ ∀ t, Fld Z h x "java/lang/String" "value" "[B" (.ref t) → Ins Z h t "[B" true
theorem own_bt {Z : State} {h : Heap} {x t : Addr} (F : Fld Z h x "java/lang/String" "value" "[B" (.ref t)) (I : Ins Z h t "[B" true) : ∀ t', Fld Z h x "java/lang/String" "value" "[B" (.ref t') → Ins Z h t' "[B" true := fun t' F' => by
 obtain ⟨cell, cf, k, i, f, g1, g2, -, -, -, -, g7⟩ := F
 obtain ⟨cell', cf', k', i', f', q1, q2, -, -, -, -, q7⟩ := F'
 cases g1.symm.trans q1
 cases g2.symm.trans q2
 rw [q7] at g7
 cases g7
 exact I
theorem rmLAT (l : Launch) (Z : State) (a0 : Array Value) (hw : HW Z a0) (hEL : EW Z a0 consts_1) (z0 : Int32) (Sc : SC Z z0) (hz0 : ¬ z0 = 0) (x : Addr) (h0 : Heap) (hx : Ext Z.heap h0) (Fc : Fld Z h0 x "java/lang/String" "coder" "B" (.int 0)) :
   Met l Z consts_1 mN0 jdk_42_method_154_code 1 (some .boolean) [] (rM 0 0 0 0) #[.ref x] h0 [] (fun v h => v = some (.int 1) ∧ h = h0) := by
 refine Met.of (a0 := a0) (by decide +kernel) hEL hx ?_
 intro p e s m below meth c S0 V w hs hsf
 replace w := (((((((w.to (g' := mkF m 0 #[.val (.ref x)] [])).getS (wq hw 14 rfl) Sc (d66 0 rfl)).ifNo (pc' := 6) (d66 1 rfl) ((if0 _ _).trans (feq hz0).1)).aloadN (d66 2 rfl) rfl).getF (wq hw 26 rfl) Fc (d66 3 rfl)).ifNo (d66 4 rfl) (by decide)).iconst (1 : Int32) (d66 5 rfl)).goto (pc' := 18) (d66 6 rfl)
 exact w.retN (d66 7 rfl) (by simp) ⟨rfl, rfl⟩ nle nle
theorem own_m8 (x : Int32) : (x &&& 255).toInt = x.toInt % 256 := by
 have := c_mask x 255 8 (by omega) (by decide)
 rw [this]; rfl
theorem own_b255 {c : Int32} (h : ¬ c < 0 ∧ ¬ (255 : Int32) < c) : c.toInt8.toInt32 &&& 255 = c := by
 have e0 : (0 : Int32).toInt = 0 := by decide
 have e1 : (255 : Int32).toInt = 255 := by decide
 have h1 := h.1; have h2 := h.2
 rw [Int32.lt_iff_toInt_lt] at h1 h2
 have h3 := c_i2b c
 have h4 := own_m8 c.toInt8.toInt32
 exact Int32.toInt_inj.mp (by omega)
theorem rmSGH (l : Launch) (Z : State) (a0 : Array Value) (hw : HW Z a0) (hEL : EW Z a0 consts_1) (t : Addr) (k : ClassId) (c0 : Int32) (r0 : ¬ c0 < 0 ∧ ¬ (255 : Int32) < c0) (h0 : Heap) (hx : Ext Z.heap h0) (A : Arv Z h0 t k .byte 3 [.int 45, .int 45, .int c0.toInt8.toInt32] (.int 0)) :
   Met l Z consts_1 mN1 jdk_48_method_5_code 6 (some .int) [] (rM 0 0 0 0) #[.int 0, .ref t, .int 0, .int 3] h0 [] (fun v h => v = some (.int (own_hs c0)) ∧ h = h0) := by
 have e45 : (45 : Int32) &&& 255 = 45 := by decide
 have ec := own_b255 r0
 refine Met.of (a0 := a0) (by decide +kernel) hEL hx ?_
 intro p e s m below meth c S0 V w hs hsf
 replace w := (((w.to (g' := mkF m 0 #[.val (.int (0 : Int32)), .val (.ref t), .val (.int (0 : Int32)), .val (.int (3 : Int32)), .unset, .unset] [])).iloadN (d69 0 rfl) rfl).iloadN (d69 1 rfl) rfl).iadd (pc' := 3) (d69 2 rfl)
 rw [show (0 : Int32) + 3 = 3 from by decide] at w
 replace w := (((((((((((w.istore (L' := #[.val (.int (0 : Int32)), .val (.ref t), .val (.int (0 : Int32)), .val (.int (3 : Int32)), .val (.int (3 : Int32)), .unset]) (d69 3 rfl) rfl).iloadN (d69 4 rfl) rfl).istore (L' := #[.val (.int (0 : Int32)), .val (.ref t), .val (.int (0 : Int32)), .val (.int (3 : Int32)), .val (.int (3 : Int32)), .val (.int (0 : Int32))]) (d69 5 rfl) rfl).iload (d69 6 rfl) rfl).iload (d69 7 rfl) rfl).icmpNo (d69 8 rfl) (by decide)).bipush (31 : Int32) (d69 9 rfl)).iloadN (d69 10 rfl) rfl).imul (d69 11 rfl)).aloadN (d69 12 rfl) rfl).iload (d69 13 rfl) rfl).baload (v := (.int (45 : Int32))) A (d69 14 rfl) ⟨by decide, by decide⟩ (rfl) (pc' := 23)
 replace w := (w.sipush (255 : Int32) (d69 15 rfl)).iand (pc' := 27) (d69 16 rfl)
 rw [e45] at w
 replace w := (((((((w.iadd (d69 17 rfl)).istoreN (L' := #[.val (.int (((31 : Int32) * (0 : Int32)) + (45 : Int32))), .val (.ref t), .val (.int (0 : Int32)), .val (.int (3 : Int32)), .val (.int (3 : Int32)), .val (.int (0 : Int32))]) (d69 18 rfl) rfl).iinc (pc' := 32) (L' := #[.val (.int (((31 : Int32) * (0 : Int32)) + (45 : Int32))), .val (.ref t), .val (.int (0 : Int32)), .val (.int (3 : Int32)), .val (.int (3 : Int32)), .val (.int ((0 : Int32) + (1 : Int32)))]) (d69 19 rfl) rfl rfl).toS []).goto (d69 20 rfl)).iload (d69 6 rfl) rfl).iload (d69 7 rfl) rfl).icmpNo (pc' := 15) (d69 8 rfl) (by decide)
 replace w := (((((((w.bipush (31 : Int32) (d69 9 rfl)).iloadN (d69 10 rfl) rfl).imul (d69 11 rfl)).aloadN (d69 12 rfl) rfl).iload (d69 13 rfl) rfl).baload (v := (.int (45 : Int32))) A (d69 14 rfl) ⟨by decide, by decide⟩ (rfl)).sipush (255 : Int32) (d69 15 rfl)).iand (pc' := 27) (d69 16 rfl)
 rw [e45] at w
 replace w := (((((w.iadd (d69 17 rfl)).istoreN (L' := #[.val (.int (((31 : Int32) * (((31 : Int32) * (0 : Int32)) + (45 : Int32))) + (45 : Int32))), .val (.ref t), .val (.int (0 : Int32)), .val (.int (3 : Int32)), .val (.int (3 : Int32)), .val (.int (1 : Int32))]) (d69 18 rfl) rfl).iinc (pc' := 32) (L' := #[.val (.int (((31 : Int32) * (((31 : Int32) * (0 : Int32)) + (45 : Int32))) + (45 : Int32))), .val (.ref t), .val (.int (0 : Int32)), .val (.int (3 : Int32)), .val (.int (3 : Int32)), .val (.int ((1 : Int32) + (1 : Int32)))]) (d69 19 rfl) rfl rfl).toS []).goto (d69 20 rfl)).iload (pc' := 10) (d69 6 rfl) rfl
 replace w := (((((((((w.iload (d69 7 rfl) rfl).icmpNo (d69 8 rfl) (by decide)).bipush (31 : Int32) (d69 9 rfl)).iloadN (d69 10 rfl) rfl).imul (d69 11 rfl)).aloadN (d69 12 rfl) rfl).iload (d69 13 rfl) rfl).baload (v := (.int (c0.toInt8.toInt32))) A (d69 14 rfl) ⟨by decide, by decide⟩ (rfl)).sipush (255 : Int32) (d69 15 rfl)).iand (pc' := 27) (d69 16 rfl)
 rw [ec] at w
 replace w := ((w.iadd (d69 17 rfl)).istoreN (L' := #[.val (.int (((31 : Int32) * (((31 : Int32) * (((31 : Int32) * (0 : Int32)) + (45 : Int32))) + (45 : Int32))) + c0)), .val (.ref t), .val (.int (0 : Int32)), .val (.int (3 : Int32)), .val (.int (3 : Int32)), .val (.int (2 : Int32))]) (d69 18 rfl) rfl).iinc (pc' := 32) (L' := #[.val (.int (((31 : Int32) * (((31 : Int32) * (((31 : Int32) * (0 : Int32)) + (45 : Int32))) + (45 : Int32))) + c0)), .val (.ref t), .val (.int (0 : Int32)), .val (.int (3 : Int32)), .val (.int (3 : Int32)), .val (.int ((2 : Int32) + (1 : Int32)))]) (d69 19 rfl) rfl rfl
 replace w := (((((w.toS []).goto (d69 20 rfl)).iload (d69 6 rfl) rfl).iload (d69 7 rfl) rfl).icmpYes (d69 8 rfl) (by decide)).iloadN (pc' := 36) (d69 21 rfl) rfl
 exact w.retI (d69 22 rfl) ⟨rfl, rfl⟩ nle nle
theorem rmVHC (l : Launch) (Z : State) (a0 : Array Value) (hw : HW Z a0) (hEL : EW Z a0 consts_1) (t : Addr) (k : ClassId) (c0 : Int32) (r0 : ¬ c0 < 0 ∧ ¬ (255 : Int32) < c0) (h0 : Heap) (hx : Ext Z.heap h0) (A : Arv Z h0 t k .byte 3 [.int 45, .int 45, .int c0.toInt8.toInt32] (.int 0)) (X_t : Ins Z h0 t "[B" true) :
   Met l Z consts_1 mN2 jdk_48_method_4_code 5 (some .int) [] (rM 1 0 0 18) #[.ref t, .int 0, .int 3, .int 0, .int 4] h0 [] (fun v h => v = some (.int (own_hs c0)) ∧ h = h0) := by
 refine Met.of (a0 := a0) (by decide +kernel) hEL hx ?_
 intro p e s m below meth c S0 V w hs hsf
 replace w := (((((((w.to (g' := mkF m 0 #[.val (.ref t), .val (.int (0 : Int32)), .val (.int (3 : Int32)), .val (.int (0 : Int32)), .val (.int (4 : Int32))] [])).iload (d68 0 rfl) rfl).tswIn (d68 1 rfl) (by rw [show (4 : Int32).toInt = 4 from by decide]; decide) (by rw [show (4 : Int32).toInt = 4 from by decide]; rfl) (by decide) (by decide)).iloadN (d68 2 rfl) rfl).aloadN (d68 3 rfl) rfl).cast (wq hw 463 rfl) (X_t) (d68 4 rfl)).iloadN (d68 5 rfl) rfl).iloadN (pc' := 51) (d68 6 rfl) rfl
 obtain ⟨v1, V1, h1, hq1, A1, w⟩ := w.static (y' := mN1) (W := 0) (w.pays 0 (rmSGH l Z a0 hw hEL t k c0 r0 h0 w.old A) (wq hw 467 rfl) (wq hw 407 rfl) all0 nle nle) (wq hw 465 rfl) (wq hw 466 rfl) (wq hw 407 rfl) (wq hw 467 rfl) (argsL := [(.int (0 : Int32)), (.ref t), (.int (0 : Int32)), (.int (3 : Int32))]) (rest := []) (by decide) pd_0 rfl rfl nlr rfl (d68 7 rfl) nle nle (pc' := 54)
 obtain ⟨rfl, he1⟩ := hq1
 replace w := w.toS [(.int (own_hs c0))]
 replace he1 := he1.symm
 subst he1
 replace w := w.goto (pc' := 157) (d68 8 rfl)
 exact w.retI (d68 9 rfl) ⟨rfl, rfl⟩ nle nle
theorem rmLHC (l : Launch) (Z : State) (a0 : Array Value) (hw : HW Z a0) (hEL : EW Z a0 consts_1) (t : Addr) (k : ClassId) (c0 : Int32) (r0 : ¬ c0 < 0 ∧ ¬ (255 : Int32) < c0) (h0 : Heap) (hx : Ext Z.heap h0) (A : Arv Z h0 t k .byte 3 [.int 45, .int 45, .int c0.toInt8.toInt32] (.int 0)) (X_t : Ins Z h0 t "[B" true) :
   Met l Z consts_1 mN3 jdk_43_method_21_code 1 (some .int) [] (rM 2 0 0 36) #[.ref t] h0 [] (fun v h => v = some (.int (own_hs c0)) ∧ h = h0) := by
 refine Met.of (a0 := a0) (by decide +kernel) hEL hx ?_
 intro p e s m below meth c S0 V w hs hsf
 replace w := (((((((((w.to (g' := mkF m 0 #[.val (.ref t)] [])).aloadN (d67 0 rfl) rfl).arrlen A (d67 1 rfl)).lswMiss (d67 2 rfl) (by decide) (by decide) (by decide) (by decide)).aloadN (d67 3 rfl) rfl).iconst (0 : Int32) (d67 4 rfl)).aloadN (d67 5 rfl) rfl).arrlen A (d67 6 rfl)).iconst (0 : Int32) (d67 7 rfl)).iconst (pc' := 48) (4 : Int32) (d67 8 rfl)
 obtain ⟨v1, V1, h1, hq1, A1, w⟩ := w.static (y' := mN2) (W := 0) (w.pays 0 (rmVHC l Z a0 hw hEL t k c0 r0 h0 w.old A X_t) (wq hw 462 rfl) (wq hw 407 rfl) all0 nle nle) (wq hw 460 rfl) (wq hw 461 rfl) (wq hw 407 rfl) (wq hw 462 rfl) (argsL := [(.ref t), (.int (0 : Int32)), (.int (3 : Int32)), (.int (0 : Int32)), (.int (4 : Int32))]) (rest := []) (by decide) pd_1 rfl rfl nlr rfl (d67 9 rfl) nle nle (pc' := 51)
 obtain ⟨rfl, he1⟩ := hq1
 replace w := w.toS [(.int (own_hs c0))]
 replace he1 := he1.symm
 subst he1
 exact w.retI (d67 10 rfl) ⟨rfl, rfl⟩ nle nle
theorem own_shv {Z : State} {a0 : Array Value} (hw : HW Z a0) : RoadKit.slotOf Z "java/lang/String" "value" "[B" ≠ RoadKit.slotOf Z "java/lang/String" "hash" "I" := slot_ne (C := "java/lang/String") (Or.inr (wq hw 29 rfl)) (Or.inl (wq hw 449 rfl)) (by decide) (t := .array .byte) (t' := .int) (by decide) (by decide)
theorem own_shc {Z : State} {a0 : Array Value} (hw : HW Z a0) : RoadKit.slotOf Z "java/lang/String" "coder" "B" ≠ RoadKit.slotOf Z "java/lang/String" "hash" "I" := slot_ne (C := "java/lang/String") (Or.inr (wq hw 27 rfl)) (Or.inl (wq hw 449 rfl)) (by decide) (t := .byte) (t' := .int) (by decide) (by decide)
theorem own_shz {Z : State} {a0 : Array Value} (hw : HW Z a0) : RoadKit.slotOf Z "java/lang/String" "hashIsZero" "Z" ≠ RoadKit.slotOf Z "java/lang/String" "hash" "I" := slot_ne (C := "java/lang/String") (Or.inl (wq hw 451 rfl)) (Or.inl (wq hw 449 rfl)) (by decide) (t := .boolean) (t' := .int) (by decide) (by decide)
theorem own_hs0 {c : Int32} (h : ¬ c < 0 ∧ ¬ (255 : Int32) < c) : ¬ own_hs c = 0 := fun q => by
 have h1 := own_hs_int h
 have h2 := h.1
 have e0 : (0 : Int32).toInt = 0 := by decide
 rw [Int32.lt_iff_toInt_lt] at h2
 rw [q] at h1; omega
theorem rmSHC (l : Launch) (Z : State) (a0 : Array Value) (hw : HW Z a0) (hEL : EW Z a0 consts_1) (z0 : Int32) (Sc : SC Z z0) (hz0 : ¬ z0 = 0) (x : Addr) (c0 q : Int32) (hq : q = 0 ∨ q = own_hs c0) (h0 : Heap) (hx : Ext Z.heap h0) (T : StH Z h0 x [45, 45, c0] q) (hBt : ∀ t, Fld Z h0 x "java/lang/String" "value" "[B" (.ref t) → Ins Z h0 t "[B" true) (ge_x_Z : Z.heap.size ≤ x) :
   Met l Z consts_1 mN4 jdk_42_method_78_code 2 (some .int) [] (rM 3 0 0 50) #[.ref x] h0 [x] (fun v h => v = some (.int (own_hs c0)) ∧ Keep h0 h [x] ∧ StH Z h x [45, 45, c0] (own_hs c0)) := by
 have T' := T
 obtain ⟨⟨hp, t, kb, X_x, Gv, Gc, A⟩, Gh, Gz, -⟩ := T
 have r0 := hp c0 (by simp)
 have hn0 := own_hs0 r0
 have ne : x ≠ t := Exa.neArv X_x A (wq hw 1 rfl)
 refine Met.of (a0 := a0) (by decide +kernel) hEL hx ?_
 intro p e s m below meth c S0 V w hs hsf
 have Sx := hsf x (List.mem_cons_self ..)
 replace w := ((((w.to (g' := mkF m 0 #[.val (.ref x), .unset] [])).aloadN (d65 0 rfl) rfl).getF (wq hw 448 rfl) Gh (d65 1 rfl)).istoreN (L' := #[.val (.ref x), .val (.int q)]) (d65 2 rfl) rfl).iloadN (pc' := 6) (d65 3 rfl) rfl
 by_cases q0 : q = 0
 ·
   replace w := ((((w.ifNo (pc' := 9) (d65 4 rfl) ((if0 _ _).trans (teq q0).2)).aloadN (d65 5 rfl) rfl).getF (wq hw 450 rfl) Gz (d65 6 rfl)).ifNo (d65 7 rfl) (by decide)).aloadN (pc' := 17) (d65 8 rfl) rfl
   obtain ⟨v1, V1, h1, hq1, A1, w⟩ := w.virt (y' := mN0) (W := 0) (C := "java/lang/String") (b := x) (w.pays 0 (rmLAT l Z a0 hw hEL z0 Sc hz0 x h0 w.old Gc) (wq hw 456 rfl) (wq hw 2 rfl) all0 nle nle) (wq hw 452 rfl) (wq hw 453 rfl) (wq hw 455 rfl) (wq hw 454 rfl) (argsL := []) (rest := []) (by decide) X_x pd_2 rfl rfl nlr rfl (d65 9 rfl) nle nle (pc' := 20)
   obtain ⟨rfl, he1⟩ := hq1
   replace w := w.toS [(.int (1 : Int32))]
   replace he1 := he1.symm
   subst he1
   replace w := ((w.ifNo (d65 10 rfl) (by decide)).aloadN (d65 11 rfl) rfl).getF (wq hw 28 rfl) Gv (d65 12 rfl) (pc' := 27)
   obtain ⟨v2, V2, h2, hq2, A2, w⟩ := w.static (y' := mN3) (W := 0) (w.pays 0 (rmLHC l Z a0 hw hEL t kb c0 r0 h0 w.old A (hBt t Gv)) (wq hw 459 rfl) (wq hw 35 rfl) all0 nle nle) (wq hw 457 rfl) (wq hw 458 rfl) (wq hw 35 rfl) (wq hw 459 rfl) (argsL := [(.ref t)]) (rest := []) (by decide) pd_3 rfl rfl nlr rfl (d65 13 rfl) nle nle (pc' := 30)
   obtain ⟨rfl, he2⟩ := hq2
   replace w := w.toS [(.int (own_hs c0))]
   replace he2 := he2.symm
   subst he2
   replace w := (((((w.goto (d65 14 rfl)).istoreN (L' := #[.val (.ref x), .val (.int (own_hs c0))]) (d65 15 rfl) rfl).iloadN (d65 16 rfl) rfl).ifYes (pc' := 53) (d65 17 rfl) ((if0 _ _).trans (feq hn0).2)).aloadN (d65 18 rfl) rfl).iloadN (pc' := 55) (d65 19 rfl) rfl
   have Sx2 := A2.safe X_x.lt (A1.safe X_x.lt Sx)
   obtain ⟨h3, W3, K3, Fw3, A3, w⟩ := w.putF (ty := .int) (wq hw 448 rfl) (Gh) (X_x) (Or.inl (wq hw 449 rfl)) (wq hw 1 rfl) (by decide) rfl rfl (Sx2) (ge_x_Z) (d65 20 rfl) (pc' := 58)
   replace w := w.iloadN (pc' := 59) (d65 21 rfl) rfl
   exact w.retI (d65 22 rfl) ⟨rfl, (Keep.refl h0 [x]).trans K3 (allS (Or.inl (List.mem_cons_self ..)) all0), ⟨hp, t, kb, X_x.wr W3, Gv.other W3 (Or.inr (own_shv hw)), Gc.other W3 (Or.inr (own_shc hw)), A.other W3 ne.symm⟩, Fw3, Gz.other W3 (Or.inr (own_shz hw)), own_bt (Gv.other W3 (Or.inr (own_shv hw))) ((hBt t Gv).wr W3)⟩ nle nle
 have hq2 : q = own_hs c0 := hq.elim (fun z => absurd z q0) id
 subst hq2
 replace w := (w.ifYes (pc' := 58) (d65 4 rfl) ((if0 _ _).trans (feq hn0).2)).iloadN (pc' := 59) (d65 21 rfl) rfl
 exact w.retI (d65 22 rfl) ⟨rfl, Keep.refl _ _, T'⟩ nle nle
theorem own_hx {c : Int32} (h : ¬ c < 0 ∧ ¬ (255 : Int32) < c) : own_hs c ^^^ ((own_hs c).toUInt32 >>> ((16 : Int32) &&& 31).toUInt32).toInt32 = own_hs c := by
 have h1 := own_hs_int h
 have h2 := h.1; have h3 := h.2
 have e0 : (0 : Int32).toInt = 0 := by decide
 have e1 : (255 : Int32).toInt = 255 := by decide
 rw [Int32.lt_iff_toInt_lt] at h2 h3
 have h4 := c_iushr (own_hs c) 16 16 (by decide) (by decide)
 have e2 : ((2 ^ 16 : Nat) : Int) = 65536 := by decide
 rw [e2] at h4
 have h5 : ((own_hs c).toUInt32 >>> ((16 : Int32) &&& 31).toUInt32).toInt32 = 0 := Int32.toInt_inj.mp (by omega)
 rw [h5]
 exact Int32.xor_zero
theorem rmHSH (l : Launch) (Z : State) (a0 : Array Value) (hw : HW Z a0) (hEL : EW Z a0 consts_1) (z0 : Int32) (Sc : SC Z z0) (hz0 : ¬ z0 = 0) (x : Addr) (c0 q : Int32) (hq : q = 0 ∨ q = own_hs c0) (h0 : Heap) (hx : Ext Z.heap h0) (T : StH Z h0 x [45, 45, c0] q) (hBt : ∀ t, Fld Z h0 x "java/lang/String" "value" "[B" (.ref t) → Ins Z h0 t "[B" true) (ge_x_Z : Z.heap.size ≤ x) :
   Met l Z consts_1 mN5 jdk_69_method_1_code 2 (some .int) [] (rM 4 0 0 64) #[.ref x] h0 [x] (fun v h => v = some (.int (own_hs c0)) ∧ Keep h0 h [x] ∧ StH Z h x [45, 45, c0] (own_hs c0)) := by
 have X_x := T.1.exa
 have r0 := T.1.1 c0 (by simp)
 have ehx := own_hx r0
 refine Met.of (a0 := a0) (by decide +kernel) hEL hx ?_
 intro p e s m below meth c S0 V w hs hsf
 have Sx := hsf x (List.mem_cons_self ..)
 replace w := (((w.to (g' := mkF m 0 #[.val (.ref x), .unset] [])).aloadN (d64 0 rfl) rfl).ifnonnullYes (d64 1 rfl) ).aloadN (pc' := 9) (d64 2 rfl) rfl
 obtain ⟨v1, V1, h1, hq1, A1, w⟩ := w.virtual (y' := mN6) (z := mN4) (W := 0) (C := "java/lang/String") (b := x) (w.pays 0 (rmSHC l Z a0 hw hEL z0 Sc hz0 x c0 q hq h0 w.old T hBt ge_x_Z) (wq hw 447 rfl) (wq hw 2 rfl) (allS Sx all0) nle nle) (wq hw 442 rfl) (wq hw 443 rfl) (own_nf (s := s.setVm V) (y1 := mN6) (y2 := mN7) w.hZ (wq hw 222 rfl) (wq hw 223 rfl) rfl) (wq hw 445 rfl) (wq hw 446 rfl) (argsL := []) (rest := []) (by decide) X_x pd_4 rfl rfl nlr rfl (d64 3 rfl) nle nle (pc' := 12)
 obtain ⟨rfl, K1, T1⟩ := hq1
 replace w := ((((((w.toS [(.int (own_hs c0))]).dup (d64 4 rfl)).istoreN (L' := #[.val (.ref x), .val (.int (own_hs c0))]) (d64 5 rfl) rfl).iloadN (d64 6 rfl) rfl).bipush (16 : Int32) (d64 7 rfl)).iushr (d64 8 rfl)).ixor (pc' := 19) (d64 9 rfl)
 rw [ehx] at w
 exact w.retI (d64 10 rfl) ⟨rfl, K1, T1⟩ nle nle
theorem rmCDR (l : Launch) (Z : State) (a0 : Array Value) (hw : HW Z a0) (hEL : EW Z a0 consts_1) (z0 : Int32) (Sc : SC Z z0) (hz0 : ¬ z0 = 0) (x : Addr) (h0 : Heap) (hx : Ext Z.heap h0) (Fc : Fld Z h0 x "java/lang/String" "coder" "B" (.int 0)) :
   Met l Z consts_1 mN8 jdk_42_method_152_code 1 (some .byte) [] (rM 0 0 0 0) #[.ref x] h0 [] (fun v h => v = some (.int 0) ∧ h = h0) := by
 refine Met.of (a0 := a0) (by decide +kernel) hEL hx ?_
 intro p e s m below meth c S0 V w hs hsf
 replace w := (((((w.to (g' := mkF m 0 #[.val (.ref x)] [])).getS (wq hw 14 rfl) Sc (d59 0 rfl)).ifNo (pc' := 6) (d59 1 rfl) ((if0 _ _).trans (feq hz0).1)).aloadN (d59 2 rfl) rfl).getF (wq hw 26 rfl) Fc (d59 3 rfl)).goto (pc' := 14) (d59 4 rfl)
 exact w.retN (d59 5 rfl) (by simp) ⟨rfl, rfl⟩ nle nle
theorem rmLEN (l : Launch) (Z : State) (a0 : Array Value) (hw : HW Z a0) (hEL : EW Z a0 consts_1) (z0 : Int32) (Sc : SC Z z0) (hz0 : ¬ z0 = 0) (x : Addr) (cs : List Int32) (h0 : Heap) (hx : Ext Z.heap h0) (U : Str Z h0 x cs) :
   Met l Z consts_1 mN9 jdk_42_method_54_code 1 (some .int) [] (rM 1 0 0 13) #[.ref x] h0 [] (fun v h => v = some (.int (Int32.ofNat cs.length)) ∧ h = h0) := by
 obtain ⟨hp, t, kb, X_x, Fv, Fc, A⟩ := U
 refine Met.of (a0 := a0) (by decide +kernel) hEL hx ?_
 intro p e s m below meth c S0 V w hs hsf
 replace w := ((((w.to (g' := mkF m 0 #[.val (.ref x)] [])).aloadN (d58 0 rfl) rfl).getF (wq hw 28 rfl) Fv (d58 1 rfl)).arrlen A (d58 2 rfl)).aloadN (pc' := 6) (d58 3 rfl) rfl
 obtain ⟨v1, V1, h1, hq1, A1, w⟩ := w.virt (y' := mN8) (W := 1) (C := "java/lang/String") (b := x) (w.pays 1 (rmCDR l Z a0 hw hEL z0 Sc hz0 x h0 w.old Fc) (wq hw 404 rfl) (wq hw 2 rfl) all0 nle nle) (wq hw 400 rfl) (wq hw 401 rfl) (wq hw 403 rfl) (wq hw 402 rfl) (argsL := []) (rest := [(.int (Int32.ofNat cs.length))]) (by decide) X_x pd_5 rfl rfl nlr rfl (d58 4 rfl) nle nle (pc' := 9)
 obtain ⟨rfl, he1⟩ := hq1
 replace w := w.toS [(.int (0 : Int32)), (.int (Int32.ofNat cs.length))]
 replace he1 := he1.symm
 subst he1
 replace w := w.ishr (pc' := 10) (d58 5 rfl)
 exact w.retI (d58 6 rfl) ⟨by rw [own_shr0], rfl⟩ nle nle
theorem own_bget {cs : List Int32} {j : Nat} (h : j < cs.length) (dv : Value) : (cs.map fun c => Value.int c.toInt8.toInt32).getD j dv = .int (cs.getD j 0).toInt8.toInt32 := by
 rw [List.getD_eq_getElem?_getD, List.getD_eq_getElem?_getD, List.getElem?_map, List.getElem?_eq_getElem h]; rfl
theorem own_gmem {cs : List Int32} {j : Nat} (h : j < cs.length) : cs.getD j 0 ∈ cs := by
 rw [List.getD_eq_getElem?_getD, List.getElem?_eq_getElem h]; exact List.getElem_mem h
theorem own_takeS {cs : List Int32} {j : Nat} (h : j < cs.length) : cs.take (j + 1) = cs.take j ++ [cs.getD j 0] := by
 rw [List.take_succ, List.getElem?_eq_getElem h]; simp [List.getD_eq_getElem?_getD, h]
theorem own_chInj {a b : Int32} (ha : ¬ a < 0 ∧ ¬ (255 : Int32) < a) (hb : ¬ b < 0 ∧ ¬ (255 : Int32) < b) (h : a.toInt8.toInt32 = b.toInt8.toInt32) : a = b := by
 rw [← own_b255 ha, ← own_b255 hb, h]
theorem own_leq9 (l : Launch) (Z : State) (a0 : Array Value) (hw : HW Z a0) (hEL : EW Z a0 consts_1) {p : Program} {e : Env} {s : State} {m : MethodId} {args : Array Value} {below : List Frame} {meth : Method} {c : Code} {S0 : State} (h0 : Heap) (t u : Addr) (kt ku : ClassId) (cs ds : List Int32) (hl : cs.length ≤ 4000) (hd : ds.length = cs.length) (hp : ∀ c ∈ cs, ¬ c < 0 ∧ ¬ (255 : Int32) < c) (hp' : ∀ c ∈ ds, ¬ c < 0 ∧ ¬ (255 : Int32) < c) (A : Arv Z h0 t kt .byte (Int32.ofNat cs.length) (cs.map fun c => Value.int c.toInt8.toInt32) (.int 0)) (A' : Arv Z h0 u ku .byte (Int32.ofNat ds.length) (ds.map fun c => Value.int c.toInt8.toInt32) (.int 0)) (f : Nat) :
   ∀ (j : Nat) (V : Vm), j + f = cs.length → cs.take j = ds.take j → Wk p l e (rM 0 0 0 0) s m args below meth c Z a0 consts_1 S0 mN10 jdk_43_method_13_code 3 (some .boolean) V h0 0 0 (mkF m 9 #[.val (.ref t), .val (.ref u), .val (.int (Int32.ofNat j))] []) → Fini p e below s Z consts_1 S0 0 0 (fun v h => ((v = some (.int 1) ∧ cs = ds) ∨ (v = some (.int 0) ∧ ¬ cs = ds)) ∧ h = h0) := by
 induction f with
 | zero =>
   intro j V hj ht w
   have hj' : j = cs.length := by omega
   replace w := ((((w.iloadN (d20 0 rfl) rfl).aloadN (d20 1 rfl) rfl).arrlen A (d20 2 rfl)).icmpYes (pc' := 32) (d20 3 rfl) ((flt (fun z => absurd ((own_lt32 (by omega) (by omega)).mp z) (by omega))).2.1)).iconst (pc' := 33) (1 : Int32) (d20 4 rfl)
   exact w.retN (d20 5 rfl) (by simp) ⟨Or.inl ⟨rfl, by rw [hj', List.take_length, ← hd, List.take_length] at ht; exact ht⟩, rfl⟩ nle nle
 | succ f ih =>
   intro j V hj ht w
   have hjl : j < cs.length := by omega
   have hjd : j < ds.length := by omega
   have n1 := own_n32 (n := j) (by omega)
   have ej : Int32.ofNat j + (1 : Int32) = Int32.ofNat (j + 1) := own_add32 (a := j) (b := 1) (by omega)
   replace w := (((((((((w.iloadN (d20 0 rfl) rfl).aloadN (d20 1 rfl) rfl).arrlen A (d20 2 rfl)).icmpNo (pc' := 15) (d20 3 rfl) ((tlt ((own_lt32 (by omega) (by omega)).mpr hjl)).2.1)).aloadN (d20 6 rfl) rfl).iloadN (d20 7 rfl) rfl).baload (v := (.int ((cs.getD j 0).toInt8.toInt32))) A (d20 8 rfl) ⟨n1.1, (own_lt32 (by omega) (by omega)).mpr hjl⟩ (by rw [n1.2.1]; exact own_bget hjl _)).aloadN (d20 9 rfl) rfl).iloadN (d20 10 rfl) rfl).baload (v := (.int ((ds.getD j 0).toInt8.toInt32))) A' (d20 11 rfl) ⟨n1.1, (own_lt32 (by omega) (by omega)).mpr hjd⟩ (by rw [n1.2.1]; exact own_bget hjd _) (pc' := 21)
   by_cases q : (cs.getD j 0).toInt8.toInt32 = (ds.getD j 0).toInt8.toInt32
   ·
     replace w := ((w.icmpYes (pc' := 26) (d20 12 rfl) ((teq q).1)).iinc (L' := #[.val (.ref t), .val (.ref u), .val (.int ((Int32.ofNat j) + (1 : Int32)))]) (d20 13 rfl) rfl rfl).goto (pc' := 9) (d20 14 rfl)
     rw [ej] at w
     exact ih (j + 1) _ (by omega) (by rw [own_takeS hjl, own_takeS hjd, ht, own_chInj (hp _ (own_gmem hjl)) (hp' _ (own_gmem hjd)) q]) w
   replace w := (w.icmpNo (pc' := 24) (d20 12 rfl) ((feq q).1)).iconst (pc' := 25) (0 : Int32) (d20 15 rfl)
   exact w.retN (d20 16 rfl) (by simp) ⟨Or.inr ⟨rfl, fun z => q (by rw [z])⟩, rfl⟩ nle nle
theorem rmLEQ (l : Launch) (Z : State) (a0 : Array Value) (hw : HW Z a0) (hEL : EW Z a0 consts_1) (t u : Addr) (kt ku : ClassId) (cs ds : List Int32) (hl : cs.length ≤ 4000) (hl2 : ds.length ≤ 4000) (hp : ∀ c ∈ cs, ¬ c < 0 ∧ ¬ (255 : Int32) < c) (hp' : ∀ c ∈ ds, ¬ c < 0 ∧ ¬ (255 : Int32) < c) (h0 : Heap) (hx : Ext Z.heap h0) (A : Arv Z h0 t kt .byte (Int32.ofNat cs.length) (cs.map fun c => Value.int c.toInt8.toInt32) (.int 0)) (A' : Arv Z h0 u ku .byte (Int32.ofNat ds.length) (ds.map fun c => Value.int c.toInt8.toInt32) (.int 0)) :
   Met l Z consts_1 mN10 jdk_43_method_13_code 3 (some .boolean) [] (rM 0 0 0 0) #[.ref t, .ref u] h0 [] (fun v h => ((v = some (.int 1) ∧ cs = ds) ∨ (v = some (.int 0) ∧ ¬ cs = ds)) ∧ h = h0) := by
 refine Met.of (a0 := a0) (by decide +kernel) hEL hx ?_
 intro p e s m below meth c S0 V w hs hsf
 replace w := ((((w.to (g' := mkF m 0 #[.val (.ref t), .val (.ref u), .unset] [])).aloadN (d20 17 rfl) rfl).arrlen A (d20 18 rfl)).aloadN (d20 19 rfl) rfl).arrlen A' (d20 20 rfl) (pc' := 4)
 by_cases q : cs.length = ds.length
 ·
   replace w := ((w.icmpNo (pc' := 7) (d20 21 rfl) ((teq (by rw [q])).2)).iconst (0 : Int32) (d20 22 rfl)).istoreN (pc' := 9) (L' := #[.val (.ref t), .val (.ref u), .val (.int (0 : Int32))]) (d20 23 rfl) rfl
   exact own_leq9 l Z a0 hw hEL h0 t u kt ku cs ds hl q.symm hp hp' A A' cs.length 0 _ (Nat.zero_add _) rfl w
 replace w := (w.icmpYes (pc' := 34) (d20 21 rfl) ((feq (fun z => q ((own_eq32 (by omega) (by omega)).mp z))).2)).iconst (pc' := 35) (0 : Int32) (d20 24 rfl)
 exact w.retN (d20 25 rfl) (by simp) ⟨Or.inr ⟨rfl, fun z => q (by rw [z])⟩, rfl⟩ nle nle
theorem own_strEq {Z : State} {h : Heap} {x : Addr} {cs ds : List Int32} (U : Str Z h x cs) (W : Str Z h x ds) (h1 : cs.length ≤ 4000) (h2 : ds.length ≤ 4000) : cs = ds := by
 obtain ⟨hp, t, kb, -, Fv, -, c1, ⟨a1, -⟩, -, a3, -, a5, -⟩ := U
 obtain ⟨hp', t', kb', -, Fv', -, c2, ⟨b1, -⟩, -, b3, -, b5, -⟩ := W
 obtain ⟨cell, cf, k, i, f, g1, g2, -, -, -, -, g7⟩ := Fv
 obtain ⟨cell', cf', k', i', f', q1, q2, -, -, -, -, q7⟩ := Fv'
 cases g1.symm.trans q1
 cases g2.symm.trans q2
 rw [q7] at g7
 cases g7
 cases a1.symm.trans b1
 rw [(own_n32 (n := cs.length) (by omega)).2.1] at a3
 rw [(own_n32 (n := ds.length) (by omega)).2.1] at b3
 have hl : cs.length = ds.length := a3.symm.trans b3
 apply List.ext_getElem hl
 intro j j1 j2
 have e1 := a5 j (by omega)
 have e2 := b5 j (by omega)
 rw [own_bget j1] at e1
 rw [own_bget j2] at e2
 have e3 := Value.int.inj (Option.some.inj (e1.symm.trans e2))
 have e4 := own_chInj (hp _ (own_gmem j1)) (hp' _ (own_gmem j2)) e3
 simpa [List.getD_eq_getElem?_getD, j1, j2] using e4
theorem rmEQ (l : Launch) (Z : State) (a0 : Array Value) (hw : HW Z a0) (hEL : EW Z a0 consts_1) (z0 : Int32) (Sc : SC Z z0) (hz0 : ¬ z0 = 0) (x y0 : Addr) (cs ds : List Int32) (hl : cs.length ≤ 4000) (hl2 : ds.length ≤ 4000) (h0 : Heap) (hx : Ext Z.heap h0) (U : Str Z h0 x cs) (W0 : Str Z h0 y0 ds) :
   Met l Z consts_1 mN11 jdk_42_method_66_code 3 (some .boolean) [] (rM 1 0 0 14) #[.ref x, .ref y0] h0 [] (fun v h => ((v = some (.int 1) ∧ cs = ds) ∨ (v = some (.int 0) ∧ ¬ cs = ds)) ∧ h = h0) := by
 have U' := U
 have W' := W0
 obtain ⟨hp, t, kt, X_x, Fv, Fc, A⟩ := U
 obtain ⟨hp', u, ku, X_y, Gv, Gc, A'⟩ := W0
 refine Met.of (a0 := a0) (by decide +kernel) hEL hx ?_
 intro p e s m below meth c S0 V w hs hsf
 replace w := ((w.to (g' := mkF m 0 #[.val (.ref x), .val (.ref y0), .unset] [])).aloadN (d19 0 rfl) rfl).aloadN (pc' := 2) (d19 1 rfl) rfl
 by_cases q : x = y0
 ·
   replace w := (w.acmp true (d19 2 rfl) (decide_eq_true (congrArg Value.ref q))).iconst (pc' := 6) (1 : Int32) (d19 3 rfl)
   subst q
   exact w.retN (d19 4 rfl) (by simp) ⟨Or.inl ⟨rfl, own_strEq U' W' hl hl2⟩, rfl⟩ nle nle
 replace w := (((((((((((((w.acmp false (d19 2 rfl) (decide_eq_false fun z => q (Value.ref.inj z))).aloadN (d19 5 rfl) rfl).inst (wq hw 37 rfl) (Ins.self X_y) (d19 6 rfl)).ifNo (d19 7 rfl) (by decide)).aloadN (d19 8 rfl) rfl).cast (wq hw 37 rfl) (Ins.self X_y) (d19 9 rfl)).astoreN (L' := #[.val (.ref x), .val (.ref y0), .val (.ref y0)]) (d19 10 rfl) rfl).getS (wq hw 14 rfl) Sc (d19 11 rfl)).ifNo (pc' := 25) (d19 12 rfl) ((if0 _ _).trans (feq hz0).1)).aloadN (d19 13 rfl) rfl).getF (wq hw 26 rfl) Fc (d19 14 rfl)).aloadN (d19 15 rfl) rfl).getF (wq hw 26 rfl) Gc (d19 16 rfl)).icmpNo (pc' := 36) (d19 17 rfl) ((teq rfl).2)
 replace w := (((w.aloadN (d19 18 rfl) rfl).getF (wq hw 28 rfl) Fv (d19 19 rfl)).aloadN (d19 20 rfl) rfl).getF (wq hw 28 rfl) Gv (d19 21 rfl) (pc' := 44)
 obtain ⟨v1, V1, h1, hq1, A1, w⟩ := w.static (y' := mN10) (W := 0) (w.pays 0 (rmLEQ l Z a0 hw hEL t u kt ku cs ds hl hl2 hp hp' h0 w.old A A') (wq hw 105 rfl) (wq hw 35 rfl) all0 nle nle) (wq hw 103 rfl) (wq hw 104 rfl) (wq hw 35 rfl) (wq hw 105 rfl) (argsL := [(.ref t), (.ref u)]) (rest := []) (by decide) pd_6 rfl rfl nlr rfl (d19 22 rfl) nle nle (pc' := 47)
 obtain ⟨hv1, he1⟩ := hq1
 replace he1 := he1.symm
 subst he1
 rcases hv1 with ⟨rfl, q2⟩ | ⟨rfl, q2⟩
 ·
   replace w := (((w.toS [(.int (1 : Int32))]).ifNo (d19 23 rfl) (by decide)).iconst (1 : Int32) (d19 24 rfl)).goto (pc' := 55) (d19 25 rfl)
   exact w.retN (d19 26 rfl) (by simp) ⟨Or.inl ⟨rfl, q2⟩, rfl⟩ nle nle
 ·
   replace w := ((w.toS [(.int (0 : Int32))]).ifYes (d19 23 rfl) (by decide)).iconst (pc' := 55) (0 : Int32) (d19 27 rfl)
   exact w.retN (d19 26 rfl) (by simp) ⟨Or.inr ⟨rfl, q2⟩, rfl⟩ nle nle
theorem own_wordsEq {Z : State} {a0 : Array Value} (hw : HW Z a0) : ∀ d ∈ tables_1, d.before a0 Z = true := hw
theorem own_wordsLen {Z : State} {a0 : Array Value} (hw : HW Z a0) : ∀ d ∈ tables_1, d.before a0 Z = true := hw
section OwnEq
variable {p : Program} {l : Launch} {e : Env} {R : Room} {s : State} {m : MethodId} {args : Array Value} {below : List Frame} {meth : Method} {c : Code} {Z : State} {a0 : Array Value} {S0 : State} {y : MethodName} {B : ByteArray} {ml : Nat} {ret : Option FieldType} {V : Vm} {h : Heap} {cl sl : Nat} {g : JFrame}
theorem Wk.payEq {len W kI : Nat} {x x' : Addr} {cs ds : List Int32} {z : Int32} (w : Wk p l e R s m args below meth c Z a0 consts_1 S0 y B ml ret V h cl sl g) (hw : HW Z a0) (wi : (Jvm.Cond.instantiable "java/lang/String" kI).before a0 Z = true)
   (X : Str Z h x cs) (Y : Str Z h x' ds) (S : Sta Z Z.heap "java/lang/String" "COMPACT_STRINGS" "Z" (.int z)) (hz : ¬ z = 0) (l2 : cs.length ≤ 4000) (l3 : ds.length ≤ 4000) (hfr : 2 ≤ R.frames) (hlo : W + 28 ≤ R.locals) :
   Pays p l e R s args below Z consts_1 V h mN11 len W 0 0 #[.ref x, .ref x'] (fun v h' => ((v = some (.int 1) ∧ cs = ds) ∨ (v = some (.int 0) ∧ ¬ cs = ds)) ∧ h' = h) :=
 w.pays W (rmEQ l Z a0 hw w.el z S hz x x' cs ds l2 l3 h w.old X Y) (wq hw 102 rfl) (wq hw 2 rfl) all0 hfr (by show W + (3 + 11) + 14 ≤ R.locals; omega)
theorem Wk.payLen {len W kI : Nat} {x : Addr} {cs : List Int32} {z : Int32} (w : Wk p l e R s m args below meth c Z a0 consts_1 S0 y B ml ret V h cl sl g) (hw : HW Z a0) (wi : (Jvm.Cond.instantiable "java/lang/String" kI).before a0 Z = true)
   (X : Str Z h x cs) (S : Sta Z Z.heap "java/lang/String" "COMPACT_STRINGS" "Z" (.int z)) (hz : ¬ z = 0) (l2 : cs.length ≤ 4000) (hfr : 2 ≤ R.frames) (hlo : W + 25 ≤ R.locals) :
   Pays p l e R s args below Z consts_1 V h mN9 len W 0 0 #[.ref x] (fun v h' => v = some (.int (Int32.ofNat cs.length)) ∧ h' = h) :=
 w.pays W (rmLEN l Z a0 hw w.el z S hz x cs h w.old X) (wq hw 399 rfl) (wq hw 2 rfl) all0 hfr (by show W + (1 + 11) + 13 ≤ R.locals; omega)
end OwnEq
def own_10 (vs : List Value) : List Value := vs ++ List.replicate (10 - vs.length) .null
theorem own_10_len {vs : List Value} (h : vs.length ≤ 10) : (own_10 vs).length = 10 := by
 rw [own_10, List.length_append, List.length_replicate]; omega
theorem own_10_set {vs : List Value} (v : Value) (h : vs.length < 10) : (own_10 vs).set vs.length v = own_10 (vs ++ [v]) := by
 obtain ⟨m, hm⟩ : ∃ m, 10 - vs.length = m + 1 := ⟨9 - vs.length, by omega⟩
 have hm' : 10 - (vs ++ [v]).length = m := by rw [List.length_append]; show 10 - (vs.length + 1) = m; omega
 rw [own_10, own_10, hm, hm', List.replicate_succ]
 simp
theorem own_10_get {vs : List Value} {i : Nat} (h : i < vs.length) (dv : Value) : (own_10 vs).getD i dv = vs.getD i dv := by
 rw [own_10, List.getD_eq_getElem?_getD, List.getD_eq_getElem?_getD, List.getElem?_append_left h]
/-- a fresh ArrayList -/
def AL0 (Z : State) (h : Heap) (a dc : Addr) (mc : Int32) : Prop :=
 Exa Z h a "java/util/ArrayList" ∧ Fld Z h a "java/util/ArrayList" "elementData" "[Ljava/lang/Object;" (.ref dc) ∧ Fld Z h a "java/util/ArrayList" "size" "I" (.int 0) ∧ Fld Z h a "java/util/AbstractList" "modCount" "I" (.int mc)
/-- an ArrayList that has its own array of ten, at t -/
def ALn (Z : State) (h : Heap) (a t : Addr) (k : ClassId) (vs : List Value) (mc : Int32) : Prop :=
 Exa Z h a "java/util/ArrayList" ∧ Fld Z h a "java/util/ArrayList" "elementData" "[Ljava/lang/Object;" (.ref t) ∧ Fld Z h a "java/util/ArrayList" "size" "I" (.int (Int32.ofNat vs.length)) ∧ Fld Z h a "java/util/AbstractList" "modCount" "I" (.int mc) ∧ Arv Z h t k (.object "java/lang/Object") 10 (own_10 vs) .null ∧ Exa Z h t "[Ljava/lang/Object;" ∧ Ovr Z k "java/lang/Object"
theorem AL0.ext {Z : State} {h h' : Heap} {a dc : Addr} {mc : Int32} (E : Ext h h') (S : AL0 Z h a dc mc) : AL0 Z h' a dc mc := by
 obtain ⟨h1, h2, h3, h4⟩ := S; exact ⟨h1.ext E, h2.ext E, h3.ext E, h4.ext E⟩
theorem ALn.ext {Z : State} {h h' : Heap} {a t : Addr} {k : ClassId} {vs : List Value} {mc : Int32} (E : Ext h h') (S : ALn Z h a t k vs mc) : ALn Z h' a t k vs mc := by
 obtain ⟨h1, h2, h3, h4, h5, h6, h7⟩ := S; exact ⟨h1.ext E, h2.ext E, h3.ext E, h4.ext E, h5.ext E, h6.ext E, h7⟩
theorem own_aes {Z : State} {a0 : Array Value} (hw : HW Z a0) : RoadKit.slotOf Z "java/util/ArrayList" "elementData" "[Ljava/lang/Object;" ≠ RoadKit.slotOf Z "java/util/ArrayList" "size" "I" := slot_ne (C := "java/util/ArrayList") (Or.inl (wq hw 67 rfl)) (Or.inl (wq hw 153 rfl)) (by decide) (t := .array (.object "java/lang/Object")) (t' := .int) (by decide) (by decide)
theorem own_aem {Z : State} {a0 : Array Value} (hw : HW Z a0) : RoadKit.slotOf Z "java/util/ArrayList" "elementData" "[Ljava/lang/Object;" ≠ RoadKit.slotOf Z "java/util/AbstractList" "modCount" "I" := slot_ne (C := "java/util/ArrayList") (Or.inl (wq hw 67 rfl)) (Or.inl (wq hw 64 rfl)) (by decide) (t := .array (.object "java/lang/Object")) (t' := .int) (by decide) (by decide)
theorem own_asm {Z : State} {a0 : Array Value} (hw : HW Z a0) : RoadKit.slotOf Z "java/util/ArrayList" "size" "I" ≠ RoadKit.slotOf Z "java/util/AbstractList" "modCount" "I" := slot_ne (C := "java/util/ArrayList") (Or.inl (wq hw 153 rfl)) (Or.inl (wq hw 64 rfl)) (by decide) (t := .int) (t' := .int) (by decide) (by decide)
theorem rmACi (l : Launch) (Z : State) (a0 : Array Value) (hw : HW Z a0) (hEL : EW Z a0 consts_1) (b : Addr) (h0 : Heap) (hx : Ext Z.heap h0) :
   Met l Z consts_1 mN12 jdk_22_method_1_code 1 none [] (rM 1 0 0 12) #[.ref b] h0 [] (fun v h => v = none ∧ h = h0) := by
 refine Met.of (a0 := a0) (by decide +kernel) hEL hx ?_
 intro p e s m below meth c S0 V w hs hsf
 replace w := ((w.to (g' := mkF m 0 #[.val (.ref b)] [])).aloadN (d13 0 rfl) rfl).initO 0 (wq hw 62 rfl) (wq hw 12 rfl) (wq hw 13 rfl) rfl (d13 1 rfl) (by decide) nlr (by decide) (pc' := 4)
 exact w.ret0 (d13 2 rfl) ⟨rfl, rfl⟩ nle nle
theorem rmABi (l : Launch) (Z : State) (a0 : Array Value) (hw : HW Z a0) (hEL : EW Z a0 consts_1) (b : Addr) (h0 : Heap) (hx : Ext Z.heap h0) (X_b : Exa Z h0 b "java/util/ArrayList") (Fm : Fld Z h0 b "java/util/AbstractList" "modCount" "I" (.int 0)) (ge_b_Z : Z.heap.size ≤ b) :
   Met l Z consts_1 mN13 jdk_39_method_1_code 1 none [] (rM 2 0 0 26) #[.ref b] h0 [] (fun v h => v = none ∧ ∃ sl, Wr h0 h b sl (.int 0) ∧ sl = RoadKit.slotOf Z "java/util/AbstractList" "modCount" "I" ∧ Fld Z h b "java/util/AbstractList" "modCount" "I" (.int 0)) := by
 refine Met.of (a0 := a0) (by decide +kernel) hEL hx ?_
 intro p e s m below meth c S0 V w hs hsf
 replace w := (w.to (g' := mkF m 0 #[.val (.ref b)] [])).aloadN (pc' := 1) (d12 0 rfl) rfl
 obtain ⟨v1, V1, h1, hq1, A1, w⟩ := w.ctor (y' := mN12) (W := 0) (a := b) (w.pays 0 (rmACi l Z a0 hw hEL b h0 w.old) (wq hw 61 rfl) (wq hw 60 rfl) all0 nle nle) rfl (wq hw 56 rfl) (wq hw 57 rfl) (wq hw 61 rfl) (argsL := []) (rest := []) (by decide) pd_7 rfl rfl nlr rfl (d12 1 rfl) nle nle (pc' := 4)
 obtain ⟨rfl, he1⟩ := hq1
 replace w := w.toS []
 replace he1 := he1.symm
 subst he1
 replace w := (w.aloadN (d12 2 rfl) rfl).iconst (pc' := 6) (0 : Int32) (d12 3 rfl)
 obtain ⟨h2, W2, K2, Fw2, A2, w⟩ := w.putF (ty := .int) (wq hw 63 rfl) (Fm) (X_b) (Or.inl (wq hw 64 rfl)) (wq hw 45 rfl) (by decide) rfl rfl (Safe.exa w.hZ.alike X_b (by decide) (by decide)) (ge_b_Z) (d12 4 rfl) (pc' := 9)
 exact w.ret0 (d12 5 rfl) ⟨rfl, _, W2, rfl, Fw2⟩ nle nle
theorem rmALi (l : Launch) (Z : State) (a0 : Array Value) (hw : HW Z a0) (hEL : EW Z a0 consts_1) (dc : Addr) (kd : ClassId) (Sd : Sta Z Z.heap "java/util/ArrayList" "DEFAULTCAPACITY_EMPTY_ELEMENTDATA" "[Ljava/lang/Object;" (.ref dc)) (Dd : Arv Z Z.heap dc kd (.object "java/lang/Object") 0 [] .null) (b : Addr) (h0 : Heap) (hx : Ext Z.heap h0) (X_b : Exa Z h0 b "java/util/ArrayList") (Fe : Fld Z h0 b "java/util/ArrayList" "elementData" "[Ljava/lang/Object;" .null) (Fs : Fld Z h0 b "java/util/ArrayList" "size" "I" (.int 0)) (Fm : Fld Z h0 b "java/util/AbstractList" "modCount" "I" (.int 0)) (ge_b_Z : Z.heap.size ≤ b) :
   Met l Z consts_1 mN14 jdk_38_method_2_code 1 none [] (rM 3 0 0 40) #[.ref b] h0 [] (fun v h => v = none ∧ Keep h0 h [b] ∧ AL0 Z h b dc 0) := by
 refine Met.of (a0 := a0) (by decide +kernel) hEL hx ?_
 intro p e s m below meth c S0 V w hs hsf
 replace w := (w.to (g' := mkF m 0 #[.val (.ref b)] [])).aloadN (pc' := 1) (d11 0 rfl) rfl
 obtain ⟨v1, V1, h1, hq1, A1, w⟩ := w.ctor (y' := mN13) (W := 0) (a := b) (w.pays 0 (rmABi l Z a0 hw hEL b h0 w.old X_b Fm ge_b_Z) (wq hw 55 rfl) (wq hw 54 rfl) all0 nle nle) rfl (wq hw 50 rfl) (wq hw 51 rfl) (wq hw 55 rfl) (argsL := []) (rest := []) (by decide) pd_7 rfl rfl nlr rfl (d11 1 rfl) nle nle (pc' := 4)
 obtain ⟨rfl, sl, W1, hsl, Fm1⟩ := hq1
 replace w := w.toS []
 subst hsl
 have X1 := X_b.wr W1
 have Fe1 := Fe.other W1 (Or.inr (own_aem hw))
 have Fs1 := Fs.other W1 (Or.inr (own_asm hw))
 have K1 := Keep.of_wr W1
 replace w := (w.aloadN (d11 2 rfl) rfl).getS (wq hw 65 rfl) Sd (d11 3 rfl) (pc' := 8)
 obtain ⟨h2, W2, K2, Fw2, A2, w⟩ := w.putF (ty := (.array (.object "java/lang/Object"))) (wq hw 66 rfl) (Fe1) (X1) (Or.inl (wq hw 67 rfl)) (wq hw 45 rfl) (by decide) rfl rfl (Safe.exa w.hZ.alike X1 (by decide) (by decide)) (ge_b_Z) (d11 4 rfl) (pc' := 11)
 exact w.ret0 (d11 5 rfl) ⟨rfl, ((Keep.refl h0 [b]).trans K1 (allS (Or.inl (List.mem_cons_self ..)) all0)).trans K2 (allS (Or.inl (List.mem_cons_self ..)) all0), X1.wr W2, Fw2, Fs1.other W2 (Or.inr (own_aes hw).symm), Fm1.other W2 (Or.inr (own_aem hw).symm)⟩ nle nle
theorem rmALs (l : Launch) (Z : State) (a0 : Array Value) (hw : HW Z a0) (hEL : EW Z a0 consts_1) (b : Addr) (n : Int32) (h0 : Heap) (hx : Ext Z.heap h0) (Fs : Fld Z h0 b "java/util/ArrayList" "size" "I" (.int n)) :
   Met l Z consts_1 mN15 jdk_38_method_8_code 1 (some .int) [] (rM 0 0 0 0) #[.ref b] h0 [] (fun v h => v = some (.int n) ∧ h = h0) := by
 refine Met.of (a0 := a0) (by decide +kernel) hEL hx ?_
 intro p e s m below meth c S0 V w hs hsf
 replace w := ((w.to (g' := mkF m 0 #[.val (.ref b)] [])).aloadN (d26 0 rfl) rfl).getF (wq hw 152 rfl) Fs (d26 1 rfl) (pc' := 4)
 exact w.retI (d26 2 rfl) ⟨rfl, rfl⟩ nle nle
theorem rmALe (l : Launch) (Z : State) (a0 : Array Value) (hw : HW Z a0) (hEL : EW Z a0 consts_1) (b : Addr) (n : Int32) (h0 : Heap) (hx : Ext Z.heap h0) (Fs : Fld Z h0 b "java/util/ArrayList" "size" "I" (.int n)) :
   Met l Z consts_1 mN16 jdk_38_method_9_code 1 (some .boolean) [] (rM 0 0 0 0) #[.ref b] h0 [] (fun v h => v = some (.int (if n = 0 then 1 else 0)) ∧ h = h0) := by
 refine Met.of (a0 := a0) (by decide +kernel) hEL hx ?_
 intro p e s m below meth c S0 V w hs hsf
 replace w := ((w.to (g' := mkF m 0 #[.val (.ref b)] [])).aloadN (d38 0 rfl) rfl).getF (wq hw 152 rfl) Fs (d38 1 rfl) (pc' := 4)
 by_cases q : n = 0
 ·
   replace w := ((w.ifNo (pc' := 7) (d38 2 rfl) ((if0 _ _).trans (teq q).2)).iconst (1 : Int32) (d38 3 rfl)).goto (pc' := 12) (d38 4 rfl)
   exact w.retN (d38 5 rfl) (by simp) ⟨by rw [if_pos q]; rfl, rfl⟩ nle nle
 replace w := (w.ifYes (pc' := 11) (d38 2 rfl) ((if0 _ _).trans (feq q).2)).iconst (pc' := 12) (0 : Int32) (d38 6 rfl)
 exact w.retN (d38 5 rfl) (by simp) ⟨by rw [if_neg q]; rfl, rfl⟩ nle nle
theorem rmPCI (l : Launch) (Z : State) (a0 : Array Value) (hw : HW Z a0) (hEL : EW Z a0 consts_1) (i n : Nat) (hn : n ≤ 100) (hi : i < n) (h0 : Heap) (hx : Ext Z.heap h0) :
   Met l Z consts_1 mN17 jdk_41_method_11_code 3 (some .int) [] (rM 0 0 0 0) #[.int (Int32.ofNat i), .int (Int32.ofNat n), .null] h0 [] (fun v h => v = some (.int (Int32.ofNat i)) ∧ h = h0) := by
 have n1 := own_n32 (n := i) (by omega)
 refine Met.of (a0 := a0) (by decide +kernel) hEL hx ?_
 intro p e s m below meth c S0 V w hs hsf
 replace w := ((((((w.to (g' := mkF m 0 #[.val (.int (Int32.ofNat i)), .val (.int (Int32.ofNat n)), .val .null] [])).iloadN (d54 0 rfl) rfl).ifNo (pc' := 4) (d54 1 rfl) ((if0 _ _).trans (flt n1.1).1)).iloadN (d54 2 rfl) rfl).iloadN (d54 3 rfl) rfl).icmpYes (pc' := 16) (d54 4 rfl) ((tlt ((own_lt32 (by omega) (by omega)).mpr hi)).1)).iloadN (pc' := 17) (d54 5 rfl) rfl
 exact w.retI (d54 6 rfl) ⟨rfl, rfl⟩ nle nle
theorem rmOCI (l : Launch) (Z : State) (a0 : Array Value) (hw : HW Z a0) (hEL : EW Z a0 consts_1) (i n : Nat) (hn : n ≤ 100) (hi : i < n) (h0 : Heap) (hx : Ext Z.heap h0) :
   Met l Z consts_1 mN18 jdk_31_method_17_code 2 (some .int) [] (rM 1 0 0 14) #[.int (Int32.ofNat i), .int (Int32.ofNat n)] h0 [] (fun v h => v = some (.int (Int32.ofNat i)) ∧ h = h0) := by
 refine Met.of (a0 := a0) (by decide +kernel) hEL hx ?_
 intro p e s m below meth c S0 V w hs hsf
 replace w := (((w.to (g' := mkF m 0 #[.val (.int (Int32.ofNat i)), .val (.int (Int32.ofNat n))] [])).iloadN (d53 0 rfl) rfl).iloadN (d53 1 rfl) rfl).aconstNull (pc' := 3) (d53 2 rfl)
 obtain ⟨v1, V1, h1, hq1, A1, w⟩ := w.static (y' := mN17) (W := 0) (w.pays 0 (rmPCI l Z a0 hw hEL i n hn hi h0 w.old) (wq hw 374 rfl) (wq hw 373 rfl) all0 nle nle) (wq hw 371 rfl) (wq hw 372 rfl) (wq hw 373 rfl) (wq hw 374 rfl) (argsL := [(.int (Int32.ofNat i)), (.int (Int32.ofNat n)), .null]) (rest := []) (by decide) pd_8 rfl rfl nlr rfl (d53 3 rfl) nle nle (pc' := 6)
 obtain ⟨rfl, he1⟩ := hq1
 replace w := w.toS [(.int (Int32.ofNat i))]
 replace he1 := he1.symm
 subst he1
 exact w.retI (d53 4 rfl) ⟨rfl, rfl⟩ nle nle
theorem rmELD (l : Launch) (Z : State) (a0 : Array Value) (hw : HW Z a0) (hEL : EW Z a0 consts_1) (b t : Addr) (k : ClassId) (vs : List Value) (mc : Int32) (hl : vs.length ≤ 10) (i : Nat) (hi : i < vs.length) (x : Addr) (hv : vs.getD i .null = .ref x) (h0 : Heap) (hx : Ext Z.heap h0) (T : ALn Z h0 b t k vs mc) :
   Met l Z consts_1 mN19 jdk_38_method_18_code 2 (some (.object "java/lang/Object")) [] (rM 0 0 0 0) #[.ref b, .int (Int32.ofNat i)] h0 [] (fun v h => v = some (.ref x) ∧ h = h0) := by
 obtain ⟨X_b, Fe, Fs, Fm, A, X_t, O⟩ := T
 refine Met.of (a0 := a0) (by decide +kernel) hEL hx ?_
 intro p e s m below meth c S0 V w hs hsf
 replace w := ((((w.to (g' := mkF m 0 #[.val (.ref b), .val (.int (Int32.ofNat i))] [])).aloadN (d55 0 rfl) rfl).getF (wq hw 66 rfl) Fe (d55 1 rfl)).iloadN (d55 2 rfl) rfl).aaload (v := (.ref x)) A (d55 3 rfl) ⟨(own_n32 (by omega)).1, (own_lt32 (a := i) (b := 10) (by omega) (by omega)).mpr (by omega)⟩ (by rw [(own_n32 (n := i) (by omega)).2.1, own_10_get hi]; exact hv) (pc' := 6)
 exact w.retA (d55 4 rfl) ⟨rfl, rfl⟩ nle nle
theorem rmALg (l : Launch) (Z : State) (a0 : Array Value) (hw : HW Z a0) (hEL : EW Z a0 consts_1) (b t : Addr) (k : ClassId) (vs : List Value) (mc : Int32) (hl : vs.length ≤ 10) (i : Nat) (hi : i < vs.length) (x : Addr) (hv : vs.getD i .null = .ref x) (h0 : Heap) (hx : Ext Z.heap h0) (T : ALn Z h0 b t k vs mc) :
   Met l Z consts_1 mN20 jdk_38_method_20_code 2 (some (.object "java/lang/Object")) [] (rM 2 0 0 28) #[.ref b, .int (Int32.ofNat i)] h0 [] (fun v h => v = some (.ref x) ∧ h = h0) := by
 have T' := T
 obtain ⟨X_b, Fe, Fs, Fm, A, X_t, O⟩ := T
 refine Met.of (a0 := a0) (by decide +kernel) hEL hx ?_
 intro p e s m below meth c S0 V w hs hsf
 replace w := (((w.to (g' := mkF m 0 #[.val (.ref b), .val (.int (Int32.ofNat i))] [])).iloadN (d52 0 rfl) rfl).aloadN (d52 1 rfl) rfl).getF (wq hw 152 rfl) Fs (d52 2 rfl) (pc' := 5)
 obtain ⟨v1, V1, h1, hq1, A1, w⟩ := w.static (y' := mN18) (W := 0) (w.pays 0 (rmOCI l Z a0 hw hEL i vs.length (by omega) hi h0 w.old) (wq hw 370 rfl) (wq hw 95 rfl) all0 nle nle) (wq hw 368 rfl) (wq hw 369 rfl) (wq hw 95 rfl) (wq hw 370 rfl) (argsL := [(.int (Int32.ofNat i)), (.int (Int32.ofNat vs.length))]) (rest := []) (by decide) pd_9 rfl rfl nlr rfl (d52 3 rfl) nle nle (pc' := 8)
 obtain ⟨rfl, he1⟩ := hq1
 replace w := w.toS [(.int (Int32.ofNat i))]
 replace he1 := he1.symm
 subst he1
 replace w := ((w.pop (d52 4 rfl)).aloadN (d52 5 rfl) rfl).iloadN (pc' := 11) (d52 6 rfl) rfl
 obtain ⟨v2, V2, h2, hq2, A2, w⟩ := w.virt (y' := mN19) (W := 0) (C := "java/util/ArrayList") (b := b) (w.pays 0 (rmELD l Z a0 hw hEL b t k vs mc hl i hi x hv h0 w.old T') (wq hw 379 rfl) (wq hw 46 rfl) all0 nle nle) (wq hw 375 rfl) (wq hw 376 rfl) (wq hw 378 rfl) (wq hw 377 rfl) (argsL := [(.int (Int32.ofNat i))]) (rest := []) (by decide) X_b pd_10 rfl rfl nlr rfl (d52 7 rfl) nle nle (pc' := 14)
 obtain ⟨rfl, he2⟩ := hq2
 replace w := w.toS [(.ref x)]
 replace he2 := he2.symm
 subst he2
 exact w.retA (d52 8 rfl) ⟨rfl, rfl⟩ nle nle
theorem rmMAX (l : Launch) (Z : State) (a0 : Array Value) (hw : HW Z a0) (hEL : EW Z a0 consts_1) (a b : Int32) (hab : ¬ a < b) (h0 : Heap) (hx : Ext Z.heap h0) :
   Met l Z consts_1 mN21 jdk_29_method_65_code 2 (some .int) [] (rM 0 0 0 0) #[.int a, .int b] h0 [] (fun v h => v = some (.int a) ∧ h = h0) := by
 refine Met.of (a0 := a0) (by decide +kernel) hEL hx ?_
 intro p e s m below meth c S0 V w hs hsf
 replace w := (((((w.to (g' := mkF m 0 #[.val (.int a), .val (.int b)] [])).iloadN (d51 0 rfl) rfl).iloadN (d51 1 rfl) rfl).icmpNo (pc' := 5) (d51 2 rfl) ((flt hab).1)).iloadN (d51 3 rfl) rfl).goto (pc' := 10) (d51 4 rfl)
 exact w.retI (d51 5 rfl) ⟨rfl, rfl⟩ nle nle
theorem rmGRI (l : Launch) (Z : State) (a0 : Array Value) (hw : HW Z a0) (hEL : EW Z a0 consts_1) (dc : Addr) (kd : ClassId) (Sd : Sta Z Z.heap "java/util/ArrayList" "DEFAULTCAPACITY_EMPTY_ELEMENTDATA" "[Ljava/lang/Object;" (.ref dc)) (Dd : Arv Z Z.heap dc kd (.object "java/lang/Object") 0 [] .null) (b : Addr) (n : Int32) (hn : ¬ (10 : Int32) < n) (mc : Int32) (h0 : Heap) (hx : Ext Z.heap h0) (T : AL0 Z h0 b dc mc) (ge_b_Z : Z.heap.size ≤ b) :
   Met l Z consts_1 mN22 jdk_38_method_6_code 4 (some (.array (.object "java/lang/Object"))) [] (rM 1 1 10 16) #[.ref b, .int n] h0 [] (fun v h => ∃ t k, v = some (.ref t) ∧ Keep h0 h [b] ∧ h0.size ≤ t ∧ ALn Z h b t k [] mc) := by
 obtain ⟨X_b, Fe, Fs, Fm⟩ := T
 refine Met.of (a0 := a0) (by decide +kernel) hEL hx ?_
 intro p e s m below meth c S0 V w hs hsf
 replace w := w.to (g' := mkF m 0 #[.val (.ref b), .val (.int n), .unset, .unset] [])
 have B0 := extR h0
 replace w := (w.aloadN (d50 0 rfl) rfl).getF (wq hw 66 rfl) Fe (d50 1 rfl) (pc' := 4)
 have D1 := Dd.ext w.old
 replace w := ((((((((((w.arrlen D1 (d50 2 rfl)).istoreN (L' := #[.val (.ref b), .val (.int n), .val (.int (0 : Int32)), .unset]) (d50 3 rfl) rfl).iloadN (d50 4 rfl) rfl).ifNo (d50 5 rfl) (by decide)).aloadN (d50 6 rfl) rfl).getF (wq hw 66 rfl) Fe (d50 7 rfl)).getS (wq hw 65 rfl) Sd (d50 8 rfl)).acmp true (d50 9 rfl) (decide_eq_true rfl)).aloadN (d50 10 rfl) rfl).bipush (10 : Int32) (d50 11 rfl)).iloadN (pc' := 49) (d50 12 rfl) rfl
 obtain ⟨v1, V1, h1, hq1, A1, w⟩ := w.static (y' := mN21) (W := 1) (w.pays 1 (rmMAX l Z a0 hw hEL 10 n hn h0 w.old) (wq hw 357 rfl) (wq hw 156 rfl) all0 nle nle) (wq hw 355 rfl) (wq hw 356 rfl) (wq hw 156 rfl) (wq hw 357 rfl) (argsL := [(.int (10 : Int32)), (.int n)]) (rest := [(.ref b)]) (by decide) pd_9 rfl rfl nlr rfl (d50 13 rfl) nle nle (pc' := 52)
 obtain ⟨rfl, he1⟩ := hq1
 replace w := w.toS [(.int (10 : Int32)), (.ref b)]
 replace he1 := he1.symm
 subst he1
 obtain ⟨h2, t, k_t, g_t, E2, V_t, X_t, O_t, A2, w⟩ := w.anew (cap := 10) (ad := "[Ljava/lang/Object;") (wq hw 358 rfl) (wq hw 231 rfl) (d50 14 rfl) (by decide) (by decide) (by decide) nle nle (pc' := 55)
 have ge_t_0 : h0.size ≤ t := Nat.le_trans B0.1 (Nat.le_of_eq g_t.symm)
 have X1 := X_b.ext E2
 have V1 := V_t.pad (vs' := own_10 []) (fun i => by rw [own_10]; exact pad_rep [] .null 10 i)
 have ne : b ≠ t := Nat.ne_of_lt (Nat.lt_of_lt_of_le X_b.lt ge_t_0)
 replace w := w.dupX1 (pc' := 56) (d50 15 rfl)
 obtain ⟨h3, W3, K3, Fw3, A3, w⟩ := w.putF (ty := (.array (.object "java/lang/Object"))) (wq hw 66 rfl) (Fe.ext E2) (X1) (Or.inl (wq hw 67 rfl)) (wq hw 45 rfl) (by decide) rfl rfl (Safe.exa w.hZ.alike X1 (by decide) (by decide)) (ge_b_Z) (d50 16 rfl) (pc' := 59)
 exact w.retA (d50 17 rfl) ⟨t, k_t, rfl, (keepE E2 [b]).trans K3 (allS (Or.inl (List.mem_cons_self ..)) all0), ge_t_0, X1.wr W3, Fw3, (Fs.ext E2).other W3 (Or.inr (own_aes hw).symm), (Fm.ext E2).other W3 (Or.inr (own_aem hw).symm), V1.other W3 ne.symm, X_t.wr W3, O_t⟩ nle nle
theorem rmGR (l : Launch) (Z : State) (a0 : Array Value) (hw : HW Z a0) (hEL : EW Z a0 consts_1) (dc : Addr) (kd : ClassId) (Sd : Sta Z Z.heap "java/util/ArrayList" "DEFAULTCAPACITY_EMPTY_ELEMENTDATA" "[Ljava/lang/Object;" (.ref dc)) (Dd : Arv Z Z.heap dc kd (.object "java/lang/Object") 0 [] .null) (b : Addr) (mc : Int32) (h0 : Heap) (hx : Ext Z.heap h0) (T : AL0 Z h0 b dc mc) (ge_b_Z : Z.heap.size ≤ b) :
   Met l Z consts_1 mN23 jdk_38_method_7_code 1 (some (.array (.object "java/lang/Object"))) [] (rM 2 1 10 32) #[.ref b] h0 [] (fun v h => ∃ t k, v = some (.ref t) ∧ Keep h0 h [b] ∧ h0.size ≤ t ∧ ALn Z h b t k [] mc) := by
 have T' := T
 obtain ⟨X_b, Fe, Fs, Fm⟩ := T
 refine Met.of (a0 := a0) (by decide +kernel) hEL hx ?_
 intro p e s m below meth c S0 V w hs hsf
 replace w := (((((w.to (g' := mkF m 0 #[.val (.ref b)] [])).aloadN (d49 0 rfl) rfl).aloadN (d49 1 rfl) rfl).getF (wq hw 152 rfl) Fs (d49 2 rfl)).iconst (1 : Int32) (d49 3 rfl)).iadd (pc' := 7) (d49 4 rfl)
 obtain ⟨v1, V1, h1, hq1, A1, w⟩ := w.priv (y' := mN22) (W := 0) (C := "java/util/ArrayList") (b := b) (w.pays 0 (rmGRI l Z a0 hw hEL dc kd Sd Dd b ((0 : Int32) + (1 : Int32)) (by decide) mc h0 w.old T' ge_b_Z) (wq hw 354 rfl) (wq hw 46 rfl) all0 nle nle) (wq hw 350 rfl) (wq hw 351 rfl) (wq hw 352 rfl) (wq hw 353 rfl) (wq hw 354 rfl) (argsL := [(.int ((0 : Int32) + (1 : Int32)))]) (rest := []) (by decide) (X_b) pd_11 rfl rfl nlr rfl (d49 5 rfl) nle nle (pc' := 10)
 obtain ⟨t, k, rfl, K1, gt, T1⟩ := hq1
 replace w := w.toS [(.ref t)]
 exact w.retA (d49 6 rfl) ⟨t, k, rfl, K1, gt, T1⟩ nle nle
theorem own_insKeep {Z : State} {h h' : Heap} {ws : List Addr} {b : Addr} {C : String} {bo : Bool} (K : Keep h h' ws) (F : Ins Z h b C bo) : Ins Z h' b C bo := by
 obtain ⟨cell, k, h1, r1, r2⟩ := F
 obtain ⟨c', q, e1, e2, -⟩ := K.2.2 _ _ h1
 exact ⟨c', k, q, r1, by rw [e1, e2]; exact r2⟩
theorem rmAD3n (l : Launch) (Z : State) (a0 : Array Value) (hw : HW Z a0) (hEL : EW Z a0 consts_1) (b t : Addr) (k : ClassId) (vs : List Value) (mc : Int32) (hl : vs.length < 10) (x : Addr) (h0 : Heap) (hx : Ext Z.heap h0) (T : ALn Z h0 b t k vs mc) (I : Ins Z h0 x "java/lang/Object" true) (ge_b_Z : Z.heap.size ≤ b) (ge_t_Z : Z.heap.size ≤ t) :
   Met l Z consts_1 mN24 jdk_38_method_24_code 4 none [] (rM 3 1 10 46) #[.ref b, .ref x, .ref t, .int (Int32.ofNat vs.length)] h0 [] (fun v h => v = none ∧ Keep h0 h [b, t] ∧ ALn Z h b t k (vs ++ [.ref x]) mc) := by
 obtain ⟨X_b, Fe, Fs, Fm, A, X_t, O⟩ := T
 have ne : b ≠ t := Exa.neArv X_b A (wq hw 45 rfl)
 have ea : Int32.ofNat vs.length + (1 : Int32) = Int32.ofNat (vs.length + 1) := own_add32 (a := vs.length) (b := 1) (by omega)
 refine Met.of (a0 := a0) (by decide +kernel) hEL hx ?_
 intro p e s m below meth c S0 V w hs hsf
 replace w := (((((((w.to (g' := mkF m 0 #[.val (.ref b), .val (.ref x), .val (.ref t), .val (.int (Int32.ofNat vs.length))] [])).iloadN (d48 0 rfl) rfl).aloadN (d48 1 rfl) rfl).arrlen A (d48 2 rfl)).icmpYes (pc' := 11) (d48 3 rfl) ((feq (fun z => Nat.ne_of_lt hl ((own_eq32 (a := vs.length) (b := 10) (by omega) (by omega)).mp z))).2)).aloadN (d48 4 rfl) rfl).iloadN (d48 5 rfl) rfl).aloadN (pc' := 14) (d48 6 rfl) rfl
 obtain ⟨cA, A1', A2', -⟩ := id A
 have St : Sto Z h0 t (.ref x) := Sto.ofV A1' A2' O I
 obtain ⟨h1, K1, Aq, A1, w⟩ := w.aastore A (St) (rfl) (d48 7 rfl) ⟨(own_n32 (by omega)).1, (own_lt32 (a := vs.length) (b := 10) (by omega) (by omega)).mpr hl⟩ (vs.length) ((own_n32 (by omega)).2.1) (by rw [own_10_len (by omega)]; exact hl) (ge_t_Z) (pc' := 15)
 rw [own_10_set (.ref x) hl] at Aq
 have X1 := X_b.keep K1
 have nb : b ∉ [t] := ninS ne nin0
 replace w := (((w.aloadN (d48 8 rfl) rfl).iloadN (d48 9 rfl) rfl).iconst (1 : Int32) (d48 10 rfl)).iadd (pc' := 19) (d48 11 rfl)
 rw [ea] at w
 obtain ⟨h2, W2, K2, Fw2, A2, w⟩ := w.putF (ty := .int) (wq hw 152 rfl) (Fs.keep K1 nb) (X1) (Or.inl (wq hw 153 rfl)) (wq hw 45 rfl) (by decide) rfl rfl (Safe.exa w.hZ.alike X1 (by decide) (by decide)) (ge_b_Z) (d48 12 rfl) (pc' := 22)
 have ee : (vs ++ [Value.ref x]).length = vs.length + 1 := by simp
 exact w.ret0 (d48 13 rfl) ⟨rfl, ((Keep.refl h0 [b, t]).trans K1 (allS (Or.inl (by simp)) all0)).trans K2 (allS (Or.inl (by simp)) all0), X1.wr W2, (Fe.keep K1 nb).other W2 (Or.inr (own_aes hw)), by rw [ee]; exact Fw2, (Fm.keep K1 nb).other W2 (Or.inr (own_asm hw).symm), Aq.other W2 ne.symm, (X_t.keep K1).wr W2, O⟩ nle nle
theorem rmAD30 (l : Launch) (Z : State) (a0 : Array Value) (hw : HW Z a0) (hEL : EW Z a0 consts_1) (dc : Addr) (kd : ClassId) (Sd : Sta Z Z.heap "java/util/ArrayList" "DEFAULTCAPACITY_EMPTY_ELEMENTDATA" "[Ljava/lang/Object;" (.ref dc)) (Dd : Arv Z Z.heap dc kd (.object "java/lang/Object") 0 [] .null) (b : Addr) (mc : Int32) (x : Addr) (h0 : Heap) (hx : Ext Z.heap h0) (T : AL0 Z h0 b dc mc) (I : Ins Z h0 x "java/lang/Object" true) (hxb : x ≠ b) (ge_b_Z : Z.heap.size ≤ b) :
   Met l Z consts_1 mN24 jdk_38_method_24_code 4 none [] (rM 3 1 10 46) #[.ref b, .ref x, .ref dc, .int 0] h0 [] (fun v h => ∃ t k, v = none ∧ Keep h0 h [b] ∧ h0.size ≤ t ∧ ALn Z h b t k [.ref x] mc) := by
 have T' := T
 obtain ⟨X_b, Fe, Fs, Fm⟩ := T
 refine Met.of (a0 := a0) (by decide +kernel) hEL hx ?_
 intro p e s m below meth c S0 V w hs hsf
 have hbz : Z.heap.size ≤ h0.size := w.zsz
 replace w := ((w.to (g' := mkF m 0 #[.val (.ref b), .val (.ref x), .val (.ref dc), .val (.int (0 : Int32))] [])).iloadN (d48 0 rfl) rfl).aloadN (pc' := 2) (d48 1 rfl) rfl
 have D1 := Dd.ext w.old
 replace w := ((w.arrlen D1 (d48 2 rfl)).icmpNo (pc' := 6) (d48 3 rfl) ((teq rfl).2)).aloadN (pc' := 7) (d48 14 rfl) rfl
 obtain ⟨v1, V1, h1, hq1, A1, w⟩ := w.priv (y' := mN23) (W := 0) (C := "java/util/ArrayList") (b := b) (w.pays 0 (rmGR l Z a0 hw hEL dc kd Sd Dd b mc h0 w.old T' ge_b_Z) (wq hw 349 rfl) (wq hw 46 rfl) all0 nle nle) (wq hw 345 rfl) (wq hw 346 rfl) (wq hw 347 rfl) (wq hw 348 rfl) (wq hw 349 rfl) (argsL := []) (rest := []) (by decide) (X_b) pd_12 rfl rfl nlr rfl (d48 15 rfl) nle nle (pc' := 10)
 obtain ⟨t, k, rfl, K1, gt, T1⟩ := hq1
 replace w := w.toS [(.ref t)]
 obtain ⟨X_b1, Fe1, Fs1, Fm1, A, X_t, O⟩ := T1
 have ge_t_Z : Z.heap.size ≤ t := Nat.le_trans hbz gt
 have ne : b ≠ t := Exa.neArv X_b1 A (wq hw 45 rfl)
 have I1 : Ins Z h1 x "java/lang/Object" true := own_insKeep K1 I
 replace w := (((w.astoreN (L' := #[.val (.ref b), .val (.ref x), .val (.ref t), .val (.int (0 : Int32))]) (d48 16 rfl) rfl).aloadN (d48 4 rfl) rfl).iloadN (d48 5 rfl) rfl).aloadN (pc' := 14) (d48 6 rfl) rfl
 obtain ⟨cA, A1', A2', -⟩ := id A
 have St : Sto Z h1 t (.ref x) := Sto.ofV A1' A2' O I1
 obtain ⟨h2, K2, Aq, A2, w⟩ := w.aastore A (St) (rfl) (d48 7 rfl) ⟨by decide, by decide⟩ (0) (rfl) (by rw [own_10_len (by simp)]; decide) (ge_t_Z) (pc' := 15)
 have Ar : Arv Z h2 t k (.object "java/lang/Object") 10 (own_10 [.ref x]) .null := Aq
 have X2 := X_b1.keep K2
 have nb : b ∉ [t] := ninS ne nin0
 replace w := (((w.aloadN (d48 8 rfl) rfl).iloadN (d48 9 rfl) rfl).iconst (1 : Int32) (d48 10 rfl)).iadd (pc' := 19) (d48 11 rfl)
 obtain ⟨h3, W3, K3, Fw3, A3, w⟩ := w.putF (ty := .int) (wq hw 152 rfl) (Fs1.keep K2 nb) (X2) (Or.inl (wq hw 153 rfl)) (wq hw 45 rfl) (by decide) rfl rfl (Safe.exa w.hZ.alike X2 (by decide) (by decide)) (ge_b_Z) (d48 12 rfl) (pc' := 22)
 have K03 : Keep h0 h3 [b] := (K1.trans K2 (allS (Or.inr gt) all0)).trans K3 (allS (Or.inl (List.mem_cons_self ..)) all0)
 exact w.ret0 (d48 13 rfl) ⟨t, k, rfl, K03, gt, X2.wr W3, (Fe1.keep K2 nb).other W3 (Or.inr (own_aes hw)), Fw3, (Fm1.keep K2 nb).other W3 (Or.inr (own_asm hw).symm), Ar.other W3 ne.symm, (X_t.keep K2).wr W3, O⟩ nle nle
theorem rmAD1n (l : Launch) (Z : State) (a0 : Array Value) (hw : HW Z a0) (hEL : EW Z a0 consts_1) (b t : Addr) (k : ClassId) (vs : List Value) (mc : Int32) (hl : vs.length < 10) (x : Addr) (h0 : Heap) (hx : Ext Z.heap h0) (T : ALn Z h0 b t k vs mc) (I : Ins Z h0 x "java/lang/Object" true) (ge_b_Z : Z.heap.size ≤ b) (ge_t_Z : Z.heap.size ≤ t) :
   Met l Z consts_1 mN25 jdk_38_method_25_code 2 (some .boolean) [] (rM 4 1 10 64) #[.ref b, .ref x] h0 [] (fun v h => v = some (.int 1) ∧ Keep h0 h [b, t] ∧ ALn Z h b t k (vs ++ [.ref x]) (mc + 1)) := by
 obtain ⟨X_b, Fe, Fs, Fm, A, X_t, O⟩ := T
 have ne : b ≠ t := Exa.neArv X_b A (wq hw 45 rfl)
 refine Met.of (a0 := a0) (by decide +kernel) hEL hx ?_
 intro p e s m below meth c S0 V w hs hsf
 replace w := (((((w.to (g' := mkF m 0 #[.val (.ref b), .val (.ref x)] [])).aloadN (d47 0 rfl) rfl).dup (d47 1 rfl)).getFV (host := "") (Or.inl (wq hw 237 rfl)) (Via.of (wq hw 190 rfl)) Fm (d47 2 rfl)).iconst (1 : Int32) (d47 3 rfl)).iadd (pc' := 7) (d47 4 rfl)
 obtain ⟨h1, W1, K1, Fw1, A1, w⟩ := w.putFV (ty := .int) (wq hw 237 rfl) (Via.of (wq hw 190 rfl)) (Fm) (X_b) (wq hw 64 rfl) (wq hw 45 rfl) (by decide) rfl rfl (Safe.exa w.hZ.alike X_b (by decide) (by decide)) (ge_b_Z) (d47 5 rfl) (pc' := 10)
 have Fe1 := Fe.other W1 (Or.inr (own_aem hw))
 have Fs1 := Fs.other W1 (Or.inr (own_asm hw))
 have X_b := X_b.wr W1
 have T1 : ALn Z h1 b t k vs (mc + 1) := ⟨X_b, Fe1, Fs1, Fw1, A.other W1 ne.symm, X_t.wr W1, O⟩
 replace w := (((((w.aloadN (d47 6 rfl) rfl).aloadN (d47 7 rfl) rfl).aloadN (d47 8 rfl) rfl).getF (wq hw 66 rfl) Fe1 (d47 9 rfl)).aloadN (d47 10 rfl) rfl).getF (wq hw 152 rfl) Fs1 (d47 11 rfl) (pc' := 20)
 obtain ⟨v2, V2, h2, hq2, A2, w⟩ := w.priv (y' := mN24) (W := 0) (C := "java/util/ArrayList") (b := b) (w.pays 0 (rmAD3n l Z a0 hw hEL b t k vs (mc + 1) hl x h1 w.old T1 (I.wr W1) ge_b_Z ge_t_Z) (wq hw 344 rfl) (wq hw 46 rfl) all0 nle nle) (wq hw 340 rfl) (wq hw 341 rfl) (wq hw 342 rfl) (wq hw 343 rfl) (wq hw 344 rfl) (argsL := [(.ref x), (.ref t), (.int (Int32.ofNat vs.length))]) (rest := []) (by decide) (X_b) pd_13 rfl rfl nlr rfl (d47 12 rfl) nle nle (pc' := 23)
 obtain ⟨rfl, K2, T2⟩ := hq2
 replace w := (w.toS []).iconst (pc' := 24) (1 : Int32) (d47 13 rfl)
 exact w.retN (d47 14 rfl) (by simp) ⟨rfl, ((Keep.refl h0 [b, t]).trans K1 (allS (Or.inl (by simp)) all0)).trans K2 (allS (Or.inl (by simp)) (allS (Or.inl (by simp)) all0)), T2⟩ nle nle
theorem rmAD10 (l : Launch) (Z : State) (a0 : Array Value) (hw : HW Z a0) (hEL : EW Z a0 consts_1) (dc : Addr) (kd : ClassId) (Sd : Sta Z Z.heap "java/util/ArrayList" "DEFAULTCAPACITY_EMPTY_ELEMENTDATA" "[Ljava/lang/Object;" (.ref dc)) (Dd : Arv Z Z.heap dc kd (.object "java/lang/Object") 0 [] .null) (b : Addr) (mc : Int32) (x : Addr) (h0 : Heap) (hx : Ext Z.heap h0) (T : AL0 Z h0 b dc mc) (I : Ins Z h0 x "java/lang/Object" true) (hxb : x ≠ b) (ge_b_Z : Z.heap.size ≤ b) :
   Met l Z consts_1 mN25 jdk_38_method_25_code 2 (some .boolean) [] (rM 4 1 10 64) #[.ref b, .ref x] h0 [] (fun v h => ∃ t k, v = some (.int 1) ∧ Keep h0 h [b] ∧ h0.size ≤ t ∧ ALn Z h b t k [.ref x] (mc + 1)) := by
 obtain ⟨X_b, Fe, Fs, Fm⟩ := T
 refine Met.of (a0 := a0) (by decide +kernel) hEL hx ?_
 intro p e s m below meth c S0 V w hs hsf
 replace w := (((((w.to (g' := mkF m 0 #[.val (.ref b), .val (.ref x)] [])).aloadN (d47 0 rfl) rfl).dup (d47 1 rfl)).getFV (host := "") (Or.inl (wq hw 237 rfl)) (Via.of (wq hw 190 rfl)) Fm (d47 2 rfl)).iconst (1 : Int32) (d47 3 rfl)).iadd (pc' := 7) (d47 4 rfl)
 obtain ⟨h1, W1, K1, Fw1, A1, w⟩ := w.putFV (ty := .int) (wq hw 237 rfl) (Via.of (wq hw 190 rfl)) (Fm) (X_b) (wq hw 64 rfl) (wq hw 45 rfl) (by decide) rfl rfl (Safe.exa w.hZ.alike X_b (by decide) (by decide)) (ge_b_Z) (d47 5 rfl) (pc' := 10)
 have Fe1 := Fe.other W1 (Or.inr (own_aem hw))
 have Fs1 := Fs.other W1 (Or.inr (own_asm hw))
 have X_b := X_b.wr W1
 have T1 : AL0 Z h1 b dc (mc + 1) := ⟨X_b, Fe1, Fs1, Fw1⟩
 replace w := (((((w.aloadN (d47 6 rfl) rfl).aloadN (d47 7 rfl) rfl).aloadN (d47 8 rfl) rfl).getF (wq hw 66 rfl) Fe1 (d47 9 rfl)).aloadN (d47 10 rfl) rfl).getF (wq hw 152 rfl) Fs1 (d47 11 rfl) (pc' := 20)
 obtain ⟨v2, V2, h2, hq2, A2, w⟩ := w.priv (y' := mN24) (W := 0) (C := "java/util/ArrayList") (b := b) (w.pays 0 (rmAD30 l Z a0 hw hEL dc kd Sd Dd b (mc + 1) x h1 w.old T1 (I.wr W1) hxb ge_b_Z) (wq hw 344 rfl) (wq hw 46 rfl) all0 nle nle) (wq hw 340 rfl) (wq hw 341 rfl) (wq hw 342 rfl) (wq hw 343 rfl) (wq hw 344 rfl) (argsL := [(.ref x), (.ref dc), (.int (0 : Int32))]) (rest := []) (by decide) (X_b) pd_13 rfl rfl nlr rfl (d47 12 rfl) nle nle (pc' := 23)
 obtain ⟨t, k, rfl, K2, gt, T2⟩ := hq2
 replace w := (w.toS []).iconst (pc' := 24) (1 : Int32) (d47 13 rfl)
 exact w.retN (d47 14 rfl) (by simp) ⟨t, k, rfl, (Keep.trans (Keep.of_wr W1) K2 (allS (Or.inl (List.mem_cons_self ..)) all0)), Nat.le_trans (Keep.of_wr W1).1 gt, T2⟩ nle nle
theorem rmRNN (l : Launch) (Z : State) (a0 : Array Value) (hw : HW Z a0) (hEL : EW Z a0 consts_1) (x : Addr) (h0 : Heap) (hx : Ext Z.heap h0) :
   Met l Z consts_1 mN26 jdk_31_method_10_code 1 (some (.object "java/lang/Object")) [] (rM 0 0 0 0) #[.ref x] h0 [] (fun v h => v = some (.ref x) ∧ h = h0) := by
 refine Met.of (a0 := a0) (by decide +kernel) hEL hx ?_
 intro p e s m below meth c S0 V w hs hsf
 replace w := (((w.to (g' := mkF m 0 #[.val (.ref x)] [])).aloadN (d18 0 rfl) rfl).ifnonnullYes (d18 1 rfl) ).aloadN (pc' := 13) (d18 2 rfl) rfl
 exact w.retA (d18 3 rfl) ⟨rfl, rfl⟩ nle nle
theorem rmAIC (l : Launch) (Z : State) (a0 : Array Value) (hw : HW Z a0) (hEL : EW Z a0 consts_1) (b : Addr) (h0 : Heap) (hx : Ext Z.heap h0) :
   Met l Z consts_1 mN27 jdk_47_method_1_code 1 none [] (rM 2 0 0 26) #[.ref b] h0 [] (fun v h => v = none ∧ h = h0) := by
 refine Met.of (a0 := a0) (by decide +kernel) hEL hx ?_
 intro p e s m below meth c S0 V w hs hsf
 replace w := (w.to (g' := mkF m 0 #[.val (.ref b)] [])).aloadN (pc' := 1) (d17 0 rfl) rfl
 obtain ⟨v1, V1, h1, hq1, A1, w⟩ := w.ctor (y' := mN12) (W := 0) (a := b) (w.pays 0 (rmACi l Z a0 hw hEL b h0 w.old) (wq hw 61 rfl) (wq hw 60 rfl) all0 nle nle) rfl (wq hw 91 rfl) (wq hw 57 rfl) (wq hw 61 rfl) (argsL := []) (rest := []) (by decide) pd_7 rfl rfl nlr rfl (d17 1 rfl) nle nle (pc' := 4)
 obtain ⟨rfl, he1⟩ := hq1
 replace w := w.toS []
 replace he1 := he1.symm
 subst he1
 exact w.ret0 (d17 2 rfl) ⟨rfl, rfl⟩ nle nle
theorem rmAIS (l : Launch) (Z : State) (a0 : Array Value) (hw : HW Z a0) (hEL : EW Z a0 consts_1) (b : Addr) (h0 : Heap) (hx : Ext Z.heap h0) :
   Met l Z consts_1 mN28 jdk_100_method_1_code 1 none [] (rM 3 0 0 40) #[.ref b] h0 [] (fun v h => v = none ∧ h = h0) := by
 refine Met.of (a0 := a0) (by decide +kernel) hEL hx ?_
 intro p e s m below meth c S0 V w hs hsf
 replace w := (w.to (g' := mkF m 0 #[.val (.ref b)] [])).aloadN (pc' := 1) (d16 0 rfl) rfl
 obtain ⟨v1, V1, h1, hq1, A1, w⟩ := w.ctor (y' := mN27) (W := 0) (a := b) (w.pays 0 (rmAIC l Z a0 hw hEL b h0 w.old) (wq hw 90 rfl) (wq hw 89 rfl) all0 nle nle) rfl (wq hw 85 rfl) (wq hw 86 rfl) (wq hw 90 rfl) (argsL := []) (rest := []) (by decide) pd_7 rfl rfl nlr rfl (d16 1 rfl) nle nle (pc' := 4)
 obtain ⟨rfl, he1⟩ := hq1
 replace w := w.toS []
 replace he1 := he1.symm
 subst he1
 exact w.ret0 (d16 2 rfl) ⟨rfl, rfl⟩ nle nle
theorem rmAIL (l : Launch) (Z : State) (a0 : Array Value) (hw : HW Z a0) (hEL : EW Z a0 consts_1) (b : Addr) (h0 : Heap) (hx : Ext Z.heap h0) :
   Met l Z consts_1 mN29 jdk_46_method_1_code 1 none [] (rM 3 0 0 40) #[.ref b] h0 [] (fun v h => v = none ∧ h = h0) := by
 refine Met.of (a0 := a0) (by decide +kernel) hEL hx ?_
 intro p e s m below meth c S0 V w hs hsf
 replace w := (w.to (g' := mkF m 0 #[.val (.ref b)] [])).aloadN (pc' := 1) (d80 0 rfl) rfl
 obtain ⟨v1, V1, h1, hq1, A1, w⟩ := w.ctor (y' := mN27) (W := 0) (a := b) (w.pays 0 (rmAIC l Z a0 hw hEL b h0 w.old) (wq hw 90 rfl) (wq hw 89 rfl) all0 nle nle) rfl (wq hw 544 rfl) (wq hw 86 rfl) (wq hw 90 rfl) (argsL := []) (rest := []) (by decide) pd_7 rfl rfl nlr rfl (d80 1 rfl) nle nle (pc' := 4)
 obtain ⟨rfl, he1⟩ := hq1
 replace w := w.toS []
 replace he1 := he1.symm
 subst he1
 exact w.ret0 (d80 2 rfl) ⟨rfl, rfl⟩ nle nle
def SE2 (Z : State) (h : Heap) (b x1 x2 : Addr) : Prop := Exa Z h b "java/util/ImmutableCollections$Set12" ∧ Fld Z h b "java/util/ImmutableCollections$Set12" "e0" "Ljava/lang/Object;" (.ref x1) ∧ Fld Z h b "java/util/ImmutableCollections$Set12" "e1" "Ljava/lang/Object;" (.ref x2)
theorem SE2.ext {Z : State} {h h' : Heap} {b x1 x2 : Addr} (E : Ext h h') (S : SE2 Z h b x1 x2) : SE2 Z h' b x1 x2 := ⟨S.1.ext E, S.2.1.ext E, S.2.2.ext E⟩
theorem rmS12i (l : Launch) (Z : State) (a0 : Array Value) (hw : HW Z a0) (hEL : EW Z a0 consts_1) (z0 : Int32) (Sc : SC Z z0) (hz0 : ¬ z0 = 0) (b x1 x2 : Addr) (cs1 cs2 : List Int32) (hl1 : cs1.length ≤ 9) (hl2 : cs2.length ≤ 9) (hne : ¬ cs1 = cs2) (h0 : Heap) (hx : Ext Z.heap h0) (U1 : Str Z h0 x1 cs1) (U2 : Str Z h0 x2 cs2) (X_b : Exa Z h0 b "java/util/ImmutableCollections$Set12") (F0 : Fld Z h0 b "java/util/ImmutableCollections$Set12" "e0" "Ljava/lang/Object;" .null) (F1 : Fld Z h0 b "java/util/ImmutableCollections$Set12" "e1" "Ljava/lang/Object;" .null) (ge_b_Z : Z.heap.size ≤ b) :
   Met l Z consts_1 mN30 jdk_101_method_2_code 3 none [] (rM 4 0 0 54) #[.ref b, .ref x1, .ref x2] h0 [] (fun v h => v = none ∧ Keep h0 h [b] ∧ SE2 Z h b x1 x2) := by
 have X_x1 := U1.exa
 have hwe := own_wordsEq hw
 have nsl : RoadKit.slotOf Z "java/util/ImmutableCollections$Set12" "e0" "Ljava/lang/Object;" ≠ RoadKit.slotOf Z "java/util/ImmutableCollections$Set12" "e1" "Ljava/lang/Object;" := slot_ne (C := "java/util/ImmutableCollections$Set12") (Or.inr (wq hw 107 rfl)) (Or.inr (wq hw 109 rfl)) (by decide) (t := .object "java/lang/Object") (t' := .object "java/lang/Object") (by decide) (by decide)
 refine Met.of (a0 := a0) (by decide +kernel) hEL hx ?_
 intro p e s m below meth c S0 V w hs hsf
 replace w := (w.to (g' := mkF m 0 #[.val (.ref b), .val (.ref x1), .val (.ref x2)] [])).aloadN (pc' := 1) (d15 0 rfl) rfl
 obtain ⟨v1, V1, h1, hq1, A1, w⟩ := w.ctor (y' := mN28) (W := 0) (a := b) (w.pays 0 (rmAIS l Z a0 hw hEL b h0 w.old) (wq hw 84 rfl) (wq hw 83 rfl) all0 nle nle) rfl (wq hw 79 rfl) (wq hw 80 rfl) (wq hw 84 rfl) (argsL := []) (rest := []) (by decide) pd_7 rfl rfl nlr rfl (d15 1 rfl) nle nle (pc' := 4)
 obtain ⟨rfl, he1⟩ := hq1
 replace w := w.toS []
 replace he1 := he1.symm
 subst he1
 replace w := (w.aloadN (d15 2 rfl) rfl).aloadN (pc' := 6) (d15 3 rfl) rfl
 obtain ⟨v2, V2, h2, hq2, A2, w⟩ := w.static (y' := mN26) (W := 1) (w.pays 1 (rmRNN l Z a0 hw hEL x2 h0 w.old) (wq hw 96 rfl) (wq hw 95 rfl) all0 nle nle) (wq hw 93 rfl) (wq hw 94 rfl) (wq hw 95 rfl) (wq hw 96 rfl) (argsL := [(.ref x2)]) (rest := [(.ref x1)]) (by decide) pd_14 rfl rfl nlr rfl (d15 4 rfl) nle nle (pc' := 9)
 obtain ⟨rfl, he2⟩ := hq2
 replace w := w.toS [(.ref x2), (.ref x1)]
 replace he2 := he2.symm
 subst he2
 obtain ⟨v3, V3, h3, hq3, A3, w⟩ := w.virtual (y' := mN31) (z := mN11) (W := 0) (C := "java/lang/String") (b := x1) (w.payEq (W := 0) hwe (wq hw 1 rfl) U1 U2 Sc hz0 (by omega) (by omega) nle nle) (wq hw 97 rfl) (wq hw 98 rfl) (own_nf (s := s.setVm V2) (y1 := mN31) (y2 := mN7) w.hZ (wq hw 222 rfl) (wq hw 223 rfl) rfl) (wq hw 100 rfl) (wq hw 101 rfl) (argsL := [(.ref x2)]) (rest := []) (by decide) X_x1 pd_15 rfl rfl nlr rfl (d15 5 rfl) nle nle (pc' := 12)
 obtain ⟨hv3, he3⟩ := hq3
 replace he3 := he3.symm
 subst he3
 rcases hv3 with ⟨-, hc⟩ | ⟨rfl, -⟩
 · exact absurd hc hne
 replace w := (((w.toS [(.int (0 : Int32))]).ifYes (d15 6 rfl) (by decide)).aloadN (d15 7 rfl) rfl).aloadN (pc' := 44) (d15 8 rfl) rfl
 obtain ⟨h4, W4, K4, Fw4, A4, w⟩ := w.putF (ty := (.object "java/lang/Object")) (wq hw 106 rfl) (F0) (X_b) (Or.inr ⟨(wq hw 107 rfl), rfl, rfl⟩) (wq hw 73 rfl) (by decide) rfl rfl (Safe.exa w.hZ.alike X_b (by decide) (by decide)) (ge_b_Z) (d15 9 rfl) (pc' := 47)
 have X4 := X_b.wr W4
 have F14 := F1.other W4 (Or.inr nsl.symm)
 replace w := (w.aloadN (d15 10 rfl) rfl).aloadN (pc' := 49) (d15 11 rfl) rfl
 obtain ⟨h5, W5, K5, Fw5, A5, w⟩ := w.putF (ty := (.object "java/lang/Object")) (wq hw 108 rfl) (F14) (X4) (Or.inr ⟨(wq hw 109 rfl), rfl, rfl⟩) (wq hw 73 rfl) (by decide) rfl rfl (Safe.exa w.hZ.alike X4 (by decide) (by decide)) (ge_b_Z) (d15 12 rfl) (pc' := 52)
 exact w.ret0 (d15 13 rfl) ⟨rfl, ((Keep.refl h0 [b]).trans K4 (allS (Or.inl (List.mem_cons_self ..)) all0)).trans K5 (allS (Or.inl (List.mem_cons_self ..)) all0), X4.wr W5, Fw4.other W5 (Or.inr nsl), Fw5⟩ nle nle
theorem rmSO2 (l : Launch) (Z : State) (a0 : Array Value) (hw : HW Z a0) (hEL : EW Z a0 consts_1) (z0 : Int32) (Sc : SC Z z0) (hz0 : ¬ z0 = 0) (x1 x2 : Addr) (cs1 cs2 : List Int32) (hl1 : cs1.length ≤ 9) (hl2 : cs2.length ≤ 9) (hne : ¬ cs1 = cs2) (h0 : Heap) (hx : Ext Z.heap h0) (U1 : Str Z h0 x1 cs1) (U2 : Str Z h0 x2 cs2) :
   Met l Z consts_1 mN32 jdk_96_method_19_code 2 (some (.object "java/util/Set")) [] (rM 5 1 2 70) #[.ref x1, .ref x2] h0 [] (fun v h => ∃ b, v = some (.ref b) ∧ Ext h0 h ∧ SE2 Z h b x1 x2) := by
 refine Met.of (a0 := a0) (by decide +kernel) hEL hx ?_
 intro p e s m below meth c S0 V w hs hsf
 replace w := w.to (g' := mkF m 0 #[.val (.ref x1), .val (.ref x2)] [])
 have BZ := w.old
 have B0 := extR h0
 obtain ⟨h1, b, g_b, E1, X_b, D_b, S_b, A1, w⟩ := w.new (wq hw 72 rfl) (wq hw 73 rfl) (wq hw 74 rfl) (d14 0 rfl) nle nle (pc' := 3)
 have ge_b_Z : Z.heap.size ≤ b := Nat.le_trans BZ.1 (Nat.le_of_eq g_b.symm)
 have ge_b_0 : h0.size ≤ b := Nat.le_trans B0.1 (Nat.le_of_eq g_b.symm)
 have F_b_e0 := D_b (Or.inr (wq hw 107 rfl)) (ty := (.object "java/lang/Object")) (by decide)
 have F_b_e1 := D_b (Or.inr (wq hw 109 rfl)) (ty := (.object "java/lang/Object")) (by decide)
 have B0 := extT B0 E1
 replace w := ((w.dup (d14 1 rfl)).aloadN (d14 2 rfl) rfl).aloadN (pc' := 6) (d14 3 rfl) rfl
 obtain ⟨v2, V2, h2, hq2, A2, w⟩ := w.ctor (y' := mN30) (W := 1) (a := b) (w.pays 1 (rmS12i l Z a0 hw hEL z0 Sc hz0 b x1 x2 cs1 cs2 hl1 hl2 hne h1 w.old (U1.ext B0) (U2.ext B0) X_b F_b_e0 F_b_e1 ge_b_Z) (wq hw 78 rfl) (wq hw 74 rfl) all0 nle nle) rfl (wq hw 75 rfl) (wq hw 76 rfl) (wq hw 78 rfl) (argsL := [(.ref x1), (.ref x2)]) (rest := [(.ref b)]) (by decide) pd_16 rfl rfl nlr rfl (d14 4 rfl) nle nle (pc' := 9)
 obtain ⟨rfl, K2, T⟩ := hq2
 replace w := w.toS [(.ref b)]
 have B0 := extK B0 K2 (allS ge_b_0 all0)
 exact w.retA (d14 5 rfl) ⟨b, rfl, B0, T⟩ nle nle
theorem rmS12c (l : Launch) (Z : State) (a0 : Array Value) (hw : HW Z a0) (hEL : EW Z a0 consts_1) (z0 : Int32) (Sc : SC Z z0) (hz0 : ¬ z0 = 0) (b x1 x2 x : Addr) (cs1 cs2 cs : List Int32) (hl1 : cs1.length ≤ 9) (hl2 : cs2.length ≤ 9) (hl : cs.length ≤ 9) (hin : cs = cs1 ∨ cs2 = cs) (h0 : Heap) (hx : Ext Z.heap h0) (U1 : Str Z h0 x1 cs1) (U2 : Str Z h0 x2 cs2) (U : Str Z h0 x cs) (T : SE2 Z h0 b x1 x2) :
   Met l Z consts_1 mN33 jdk_101_method_5_code 2 (some .boolean) [] (rM 2 0 0 30) #[.ref b, .ref x] h0 [] (fun v h => v = some (.int 1) ∧ h = h0) := by
 have X_x := U.exa
 have X_x2 := U2.exa
 obtain ⟨X_b, F0, F1⟩ := T
 have hwe := own_wordsEq hw
 refine Met.of (a0 := a0) (by decide +kernel) hEL hx ?_
 intro p e s m below meth c S0 V w hs hsf
 replace w := (((w.to (g' := mkF m 0 #[.val (.ref b), .val (.ref x)] [])).aloadN (d62 0 rfl) rfl).aloadN (d62 1 rfl) rfl).getF (wq hw 106 rfl) F0 (d62 2 rfl) (pc' := 5)
 obtain ⟨v1, V1, h1, hq1, A1, w⟩ := w.virtual (y' := mN31) (z := mN11) (W := 0) (C := "java/lang/String") (b := x) (w.payEq (W := 0) hwe (wq hw 1 rfl) U U1 Sc hz0 (by omega) (by omega) nle nle) (wq hw 97 rfl) (wq hw 98 rfl) (own_nf (s := s.setVm V) (y1 := mN31) (y2 := mN7) w.hZ (wq hw 222 rfl) (wq hw 223 rfl) rfl) (wq hw 100 rfl) (wq hw 101 rfl) (argsL := [(.ref x1)]) (rest := []) (by decide) X_x pd_15 rfl rfl nlr rfl (d62 3 rfl) nle nle (pc' := 8)
 obtain ⟨hv1, he1⟩ := hq1
 replace he1 := he1.symm
 subst he1
 rcases hv1 with ⟨rfl, -⟩ | ⟨rfl, hn1⟩
 ·
   replace w := (((w.toS [(.int (1 : Int32))]).ifYes (d62 4 rfl) (by decide)).iconst (1 : Int32) (d62 5 rfl)).goto (pc' := 27) (d62 6 rfl)
   exact w.retN (d62 7 rfl) (by simp) ⟨rfl, rfl⟩ nle nle
 replace w := ((((w.toS [(.int (0 : Int32))]).ifNo (d62 4 rfl) (by decide)).aloadN (d62 8 rfl) rfl).getF (wq hw 108 rfl) F1 (d62 9 rfl)).aloadN (pc' := 16) (d62 10 rfl) rfl
 obtain ⟨v2, V2, h2, hq2, A2, w⟩ := w.virtual (y' := mN31) (z := mN11) (W := 0) (C := "java/lang/String") (b := x2) (w.payEq (W := 0) hwe (wq hw 1 rfl) U2 U Sc hz0 (by omega) (by omega) nle nle) (wq hw 97 rfl) (wq hw 98 rfl) (own_nf (s := s.setVm V1) (y1 := mN31) (y2 := mN7) w.hZ (wq hw 222 rfl) (wq hw 223 rfl) rfl) (wq hw 100 rfl) (wq hw 101 rfl) (argsL := [(.ref x)]) (rest := []) (by decide) X_x2 pd_15 rfl rfl nlr rfl (d62 11 rfl) nle nle (pc' := 19)
 obtain ⟨hv2, he2⟩ := hq2
 replace he2 := he2.symm
 subst he2
 rcases hv2 with ⟨rfl, -⟩ | ⟨-, hn2⟩
 ·
   replace w := (((w.toS [(.int (1 : Int32))]).ifNo (d62 12 rfl) (by decide)).iconst (1 : Int32) (d62 5 rfl)).goto (pc' := 27) (d62 6 rfl)
   exact w.retN (d62 7 rfl) (by simp) ⟨rfl, rfl⟩ nle nle
 · exact absurd hin (fun z => z.elim hn1 hn2)
theorem rmSO0 (l : Launch) (Z : State) (a0 : Array Value) (hw : HW Z a0) (hEL : EW Z a0 consts_1) (es : Addr) (Ss : Sta Z Z.heap "java/util/ImmutableCollections" "EMPTY_SET" "Ljava/util/ImmutableCollections$SetN;" (.ref es)) (h0 : Heap) (hx : Ext Z.heap h0) :
   Met l Z consts_1 mN34 jdk_96_method_17_code 0 (some (.object "java/util/Set")) [] (rM 0 0 0 0) #[] h0 [] (fun v h => v = some (.ref es) ∧ h = h0) := by
 refine Met.of (a0 := a0) (by decide +kernel) hEL hx ?_
 intro p e s m below meth c S0 V w hs hsf
 replace w := (w.to (g' := mkF m 0 #[] [])).getS (wq hw 120 rfl) Ss (d22 0 rfl) (pc' := 3)
 exact w.retA (d22 1 rfl) ⟨rfl, rfl⟩ nle nle
theorem rmSNc (l : Launch) (Z : State) (a0 : Array Value) (hw : HW Z a0) (hEL : EW Z a0 consts_1) (es x : Addr) (h0 : Heap) (hx : Ext Z.heap h0) (F : Fld Z h0 es "java/util/ImmutableCollections$SetN" "size" "I" (.int 0)) :
   Met l Z consts_1 mN35 jdk_132_method_4_code 2 (some .boolean) [] (rM 1 0 0 14) #[.ref es, .ref x] h0 [] (fun v h => v = some (.int 0) ∧ h = h0) := by
 refine Met.of (a0 := a0) (by decide +kernel) hEL hx ?_
 intro p e s m below meth c S0 V w hs hsf
 replace w := (w.to (g' := mkF m 0 #[.val (.ref es), .val (.ref x)] [])).aloadN (pc' := 1) (d61 0 rfl) rfl
 obtain ⟨v1, V1, h1, hq1, A1, w⟩ := w.static (y' := mN26) (W := 0) (w.pays 0 (rmRNN l Z a0 hw hEL x h0 w.old) (wq hw 96 rfl) (wq hw 95 rfl) all0 nle nle) (wq hw 419 rfl) (wq hw 94 rfl) (wq hw 95 rfl) (wq hw 96 rfl) (argsL := [(.ref x)]) (rest := []) (by decide) pd_14 rfl rfl nlr rfl (d61 1 rfl) nle nle (pc' := 4)
 obtain ⟨rfl, he1⟩ := hq1
 replace w := w.toS [(.ref x)]
 replace he1 := he1.symm
 subst he1
 replace w := ((((w.pop (d61 2 rfl)).aloadN (d61 3 rfl) rfl).getF (wq hw 420 rfl) F (d61 4 rfl)).ifYes (d61 5 rfl) (by decide)).iconst (pc' := 25) (0 : Int32) (d61 6 rfl)
 exact w.retN (d61 7 rfl) (by simp) ⟨rfl, rfl⟩ nle nle
/-- a List12 or a ListN that holds vs (one or more) -/
def IL (Z : State) (h : Heap) (em b : Addr) (vs : List Value) : Prop :=
 (∃ x, vs = [x] ∧ Exa Z h b "java/util/ImmutableCollections$List12" ∧ Fld Z h b "java/util/ImmutableCollections$List12" "e0" "Ljava/lang/Object;" x ∧ Fld Z h b "java/util/ImmutableCollections$List12" "e1" "Ljava/lang/Object;" (.ref em)) ∨
 (∃ x y, vs = [x, .ref y] ∧ y ≠ em ∧ Exa Z h b "java/util/ImmutableCollections$List12" ∧ Fld Z h b "java/util/ImmutableCollections$List12" "e0" "Ljava/lang/Object;" x ∧ Fld Z h b "java/util/ImmutableCollections$List12" "e1" "Ljava/lang/Object;" (.ref y)) ∨
 (∃ t k, 3 ≤ vs.length ∧ vs.length ≤ 10 ∧ Exa Z h b "java/util/ImmutableCollections$ListN" ∧ Fld Z h b "java/util/ImmutableCollections$ListN" "elements" "[Ljava/lang/Object;" (.ref t) ∧ Arv Z h t k (.object "java/lang/Object") (Int32.ofNat vs.length) vs .null)
theorem IL.ext {Z : State} {h h' : Heap} {em b : Addr} {vs : List Value} (E : Ext h h') (S : IL Z h em b vs) : IL Z h' em b vs := by
 rcases S with ⟨x, h1, h2, h3, h4⟩ | ⟨x, y, h1, h0, h2, h3, h4⟩ | ⟨t, k, h1, h2, h3, h4, h5⟩
 · exact Or.inl ⟨x, h1, h2.ext E, h3.ext E, h4.ext E⟩
 · exact Or.inr (Or.inl ⟨x, y, h1, h0, h2.ext E, h3.ext E, h4.ext E⟩)
 · exact Or.inr (Or.inr ⟨t, k, h1, h2, h3.ext E, h4.ext E, h5.ext E⟩)
theorem own_e01 {Z : State} {a0 : Array Value} (hw : HW Z a0) : RoadKit.slotOf Z "java/util/ImmutableCollections$List12" "e0" "Ljava/lang/Object;" ≠ RoadKit.slotOf Z "java/util/ImmutableCollections$List12" "e1" "Ljava/lang/Object;" := slot_ne (C := "java/util/ImmutableCollections$List12") (Or.inr (wq hw 549 rfl)) (Or.inr (wq hw 552 rfl)) (by decide) (t := .object "java/lang/Object") (t' := .object "java/lang/Object") (by decide) (by decide)
theorem rmLO0 (l : Launch) (Z : State) (a0 : Array Value) (hw : HW Z a0) (hEL : EW Z a0 consts_1) (el : Addr) (Sl : Sta Z Z.heap "java/util/ImmutableCollections" "EMPTY_LIST" "Ljava/util/ImmutableCollections$ListN;" (.ref el)) (h0 : Heap) (hx : Ext Z.heap h0) :
   Met l Z consts_1 mN36 jdk_40_method_36_code 0 (some (.object "java/util/List")) [] (rM 0 0 0 0) #[] h0 [] (fun v h => v = some (.ref el) ∧ h = h0) := by
 refine Met.of (a0 := a0) (by decide +kernel) hEL hx ?_
 intro p e s m below meth c S0 V w hs hsf
 replace w := (w.to (g' := mkF m 0 #[] [])).getS (wq hw 265 rfl) Sl (d39 0 rfl) (pc' := 3)
 exact w.retA (d39 1 rfl) ⟨rfl, rfl⟩ nle nle
theorem rmL1i (l : Launch) (Z : State) (a0 : Array Value) (hw : HW Z a0) (hEL : EW Z a0 consts_1) (em : Addr) (Se : Sta Z Z.heap "java/util/ImmutableCollections" "EMPTY" "Ljava/lang/Object;" (.ref em)) (b x : Addr) (h0 : Heap) (hx : Ext Z.heap h0) (X_b : Exa Z h0 b "java/util/ImmutableCollections$List12") (F0 : Fld Z h0 b "java/util/ImmutableCollections$List12" "e0" "Ljava/lang/Object;" .null) (F1 : Fld Z h0 b "java/util/ImmutableCollections$List12" "e1" "Ljava/lang/Object;" .null) (ge_b_Z : Z.heap.size ≤ b) :
   Met l Z consts_1 mN37 jdk_44_method_1_code 2 none [] (rM 4 0 0 54) #[.ref b, .ref x] h0 [] (fun v h => v = none ∧ Keep h0 h [b] ∧ IL Z h em b [.ref x]) := by
 refine Met.of (a0 := a0) (by decide +kernel) hEL hx ?_
 intro p e s m below meth c S0 V w hs hsf
 replace w := (w.to (g' := mkF m 0 #[.val (.ref b), .val (.ref x)] [])).aloadN (pc' := 1) (d79 0 rfl) rfl
 obtain ⟨v1, V1, h1, hq1, A1, w⟩ := w.ctor (y' := mN29) (W := 0) (a := b) (w.pays 0 (rmAIL l Z a0 hw hEL b h0 w.old) (wq hw 543 rfl) (wq hw 542 rfl) all0 nle nle) rfl (wq hw 538 rfl) (wq hw 539 rfl) (wq hw 543 rfl) (argsL := []) (rest := []) (by decide) pd_7 rfl rfl nlr rfl (d79 1 rfl) nle nle (pc' := 4)
 obtain ⟨rfl, he1⟩ := hq1
 replace w := w.toS []
 replace he1 := he1.symm
 subst he1
 replace w := (w.aloadN (d79 2 rfl) rfl).aloadN (pc' := 6) (d79 3 rfl) rfl
 obtain ⟨v2, V2, h2, hq2, A2, w⟩ := w.static (y' := mN26) (W := 1) (w.pays 1 (rmRNN l Z a0 hw hEL x h0 w.old) (wq hw 96 rfl) (wq hw 95 rfl) all0 nle nle) (wq hw 547 rfl) (wq hw 94 rfl) (wq hw 95 rfl) (wq hw 96 rfl) (argsL := [(.ref x)]) (rest := [(.ref b)]) (by decide) pd_14 rfl rfl nlr rfl (d79 4 rfl) nle nle (pc' := 9)
 obtain ⟨rfl, he2⟩ := hq2
 replace w := w.toS [(.ref x), (.ref b)]
 replace he2 := he2.symm
 subst he2
 obtain ⟨h3, W3, K3, Fw3, A3, w⟩ := w.putF (ty := (.object "java/lang/Object")) (wq hw 548 rfl) (F0) (X_b) (Or.inr ⟨(wq hw 549 rfl), rfl, rfl⟩) (wq hw 532 rfl) (by decide) rfl rfl (Safe.exa w.hZ.alike X_b (by decide) (by decide)) (ge_b_Z) (d79 5 rfl) (pc' := 12)
 have X3 := X_b.wr W3
 have F13 := F1.other W3 (Or.inr (own_e01 hw).symm)
 replace w := (w.aloadN (d79 6 rfl) rfl).getSN (wq hw 550 rfl) Se (d79 7 rfl) (pc' := 16)
 obtain ⟨h4, W4, K4, Fw4, A4, w⟩ := w.putF (ty := (.object "java/lang/Object")) (wq hw 551 rfl) (F13) (X3) (Or.inr ⟨(wq hw 552 rfl), rfl, rfl⟩) (wq hw 532 rfl) (by decide) rfl rfl (Safe.exa w.hZ.alike X3 (by decide) (by decide)) (ge_b_Z) (d79 8 rfl) (pc' := 19)
 exact w.ret0 (d79 9 rfl) ⟨rfl, ((Keep.refl h0 [b]).trans K3 (allS (Or.inl (List.mem_cons_self ..)) all0)).trans K4 (allS (Or.inl (List.mem_cons_self ..)) all0), Or.inl ⟨_, rfl, X3.wr W4, Fw3.other W4 (Or.inr (own_e01 hw)), Fw4⟩⟩ nle nle
theorem rmL2i (l : Launch) (Z : State) (a0 : Array Value) (hw : HW Z a0) (hEL : EW Z a0 consts_1) (em b x x2 : Addr) (hne : x2 ≠ em) (h0 : Heap) (hx : Ext Z.heap h0) (X_b : Exa Z h0 b "java/util/ImmutableCollections$List12") (F0 : Fld Z h0 b "java/util/ImmutableCollections$List12" "e0" "Ljava/lang/Object;" .null) (F1 : Fld Z h0 b "java/util/ImmutableCollections$List12" "e1" "Ljava/lang/Object;" .null) (ge_b_Z : Z.heap.size ≤ b) :
   Met l Z consts_1 mN38 jdk_44_method_2_code 3 none [] (rM 4 0 0 54) #[.ref b, .ref x, .ref x2] h0 [] (fun v h => v = none ∧ Keep h0 h [b] ∧ IL Z h em b [.ref x, .ref x2]) := by
 refine Met.of (a0 := a0) (by decide +kernel) hEL hx ?_
 intro p e s m below meth c S0 V w hs hsf
 replace w := (w.to (g' := mkF m 0 #[.val (.ref b), .val (.ref x), .val (.ref x2)] [])).aloadN (pc' := 1) (d83 0 rfl) rfl
 obtain ⟨v1, V1, h1, hq1, A1, w⟩ := w.ctor (y' := mN29) (W := 0) (a := b) (w.pays 0 (rmAIL l Z a0 hw hEL b h0 w.old) (wq hw 543 rfl) (wq hw 542 rfl) all0 nle nle) rfl (wq hw 538 rfl) (wq hw 539 rfl) (wq hw 543 rfl) (argsL := []) (rest := []) (by decide) pd_7 rfl rfl nlr rfl (d83 1 rfl) nle nle (pc' := 4)
 obtain ⟨rfl, he1⟩ := hq1
 replace w := w.toS []
 replace he1 := he1.symm
 subst he1
 replace w := (w.aloadN (d83 2 rfl) rfl).aloadN (pc' := 6) (d83 3 rfl) rfl
 obtain ⟨v2, V2, h2, hq2, A2, w⟩ := w.static (y' := mN26) (W := 1) (w.pays 1 (rmRNN l Z a0 hw hEL x h0 w.old) (wq hw 96 rfl) (wq hw 95 rfl) all0 nle nle) (wq hw 547 rfl) (wq hw 94 rfl) (wq hw 95 rfl) (wq hw 96 rfl) (argsL := [(.ref x)]) (rest := [(.ref b)]) (by decide) pd_14 rfl rfl nlr rfl (d83 4 rfl) nle nle (pc' := 9)
 obtain ⟨rfl, he2⟩ := hq2
 replace w := w.toS [(.ref x), (.ref b)]
 replace he2 := he2.symm
 subst he2
 obtain ⟨h3, W3, K3, Fw3, A3, w⟩ := w.putF (ty := (.object "java/lang/Object")) (wq hw 548 rfl) (F0) (X_b) (Or.inr ⟨(wq hw 549 rfl), rfl, rfl⟩) (wq hw 532 rfl) (by decide) rfl rfl (Safe.exa w.hZ.alike X_b (by decide) (by decide)) (ge_b_Z) (d83 5 rfl) (pc' := 12)
 have X3 := X_b.wr W3
 have F13 := F1.other W3 (Or.inr (own_e01 hw).symm)
 replace w := (w.aloadN (d83 6 rfl) rfl).aloadN (pc' := 14) (d83 7 rfl) rfl
 obtain ⟨v4, V4, h4, hq4, A4, w⟩ := w.static (y' := mN26) (W := 1) (w.pays 1 (rmRNN l Z a0 hw hEL x2 h3 w.old) (wq hw 96 rfl) (wq hw 95 rfl) all0 nle nle) (wq hw 547 rfl) (wq hw 94 rfl) (wq hw 95 rfl) (wq hw 96 rfl) (argsL := [(.ref x2)]) (rest := [(.ref b)]) (by decide) pd_14 rfl rfl nlr rfl (d83 8 rfl) nle nle (pc' := 17)
 obtain ⟨rfl, he4⟩ := hq4
 replace w := w.toS [(.ref x2), (.ref b)]
 replace he4 := he4.symm
 subst he4
 obtain ⟨h5, W5, K5, Fw5, A5, w⟩ := w.putF (ty := (.object "java/lang/Object")) (wq hw 551 rfl) (F13) (X3) (Or.inr ⟨(wq hw 552 rfl), rfl, rfl⟩) (wq hw 532 rfl) (by decide) rfl rfl (Safe.exa w.hZ.alike X3 (by decide) (by decide)) (ge_b_Z) (d83 9 rfl) (pc' := 20)
 exact w.ret0 (d83 10 rfl) ⟨rfl, ((Keep.refl h0 [b]).trans K3 (allS (Or.inl (List.mem_cons_self ..)) all0)).trans K5 (allS (Or.inl (List.mem_cons_self ..)) all0), Or.inr (Or.inl ⟨_, _, rfl, hne, X3.wr W5, Fw3.other W5 (Or.inr (own_e01 hw)), Fw5⟩)⟩ nle nle
theorem rmLNi (l : Launch) (Z : State) (a0 : Array Value) (hw : HW Z a0) (hEL : EW Z a0 consts_1) (em b t : Addr) (k : ClassId) (vs : List Value) (hv3 : 3 ≤ vs.length) (h10 : vs.length ≤ 10) (h0 : Heap) (hx : Ext Z.heap h0) (X_b : Exa Z h0 b "java/util/ImmutableCollections$ListN") (F0 : Fld Z h0 b "java/util/ImmutableCollections$ListN" "elements" "[Ljava/lang/Object;" .null) (F1 : Fld Z h0 b "java/util/ImmutableCollections$ListN" "allowNulls" "Z" (.int 0)) (A : Arv Z h0 t k (.object "java/lang/Object") (Int32.ofNat vs.length) vs .null) (ge_b_Z : Z.heap.size ≤ b) :
   Met l Z consts_1 mN39 jdk_45_method_1_code 3 none [] (rM 4 0 0 54) #[.ref b, .ref t, .int 0] h0 [] (fun v h => v = none ∧ Keep h0 h [b] ∧ IL Z h em b vs) := by
 have nsl : RoadKit.slotOf Z "java/util/ImmutableCollections$ListN" "elements" "[Ljava/lang/Object;" ≠ RoadKit.slotOf Z "java/util/ImmutableCollections$ListN" "allowNulls" "Z" := slot_ne (C := "java/util/ImmutableCollections$ListN") (Or.inr (wq hw 331 rfl)) (Or.inr (wq hw 320 rfl)) (by decide) (t := .array (.object "java/lang/Object")) (t' := .boolean) (by decide) (by decide)
 have ne : b ≠ t := Exa.neArv X_b A (wq hw 582 rfl)
 refine Met.of (a0 := a0) (by decide +kernel) hEL hx ?_
 intro p e s m below meth c S0 V w hs hsf
 replace w := (w.to (g' := mkF m 0 #[.val (.ref b), .val (.ref t), .val (.int (0 : Int32))] [])).aloadN (pc' := 1) (d86 0 rfl) rfl
 obtain ⟨v1, V1, h1, hq1, A1, w⟩ := w.ctor (y' := mN29) (W := 0) (a := b) (w.pays 0 (rmAIL l Z a0 hw hEL b h0 w.old) (wq hw 543 rfl) (wq hw 542 rfl) all0 nle nle) rfl (wq hw 586 rfl) (wq hw 539 rfl) (wq hw 543 rfl) (argsL := []) (rest := []) (by decide) pd_7 rfl rfl nlr rfl (d86 1 rfl) nle nle (pc' := 4)
 obtain ⟨rfl, he1⟩ := hq1
 replace w := w.toS []
 replace he1 := he1.symm
 subst he1
 replace w := (w.aloadN (d86 2 rfl) rfl).aloadN (pc' := 6) (d86 3 rfl) rfl
 obtain ⟨h2, W2, K2, Fw2, A2, w⟩ := w.putF (ty := (.array (.object "java/lang/Object"))) (wq hw 330 rfl) (F0) (X_b) (Or.inr ⟨(wq hw 331 rfl), rfl, rfl⟩) (wq hw 582 rfl) (by decide) rfl rfl (Safe.exa w.hZ.alike X_b (by decide) (by decide)) (ge_b_Z) (d86 4 rfl) (pc' := 9)
 have X2 := X_b.wr W2
 have F12 := F1.other W2 (Or.inr nsl.symm)
 replace w := (w.aloadN (d86 5 rfl) rfl).iloadN (pc' := 11) (d86 6 rfl) rfl
 obtain ⟨h3, W3, K3, Fw3, A3, w⟩ := w.putFN (v' := (.int (0 : Int32))) (ty := .boolean) (wq hw 590 rfl) (F12) (X2) (Or.inr ⟨(wq hw 320 rfl), rfl, rfl⟩) (wq hw 582 rfl) (by decide) (rfl) (by decide) (Safe.exa w.hZ.alike X2 (by decide) (by decide)) (ge_b_Z) (d86 7 rfl) (pc' := 14)
 exact w.ret0 (d86 8 rfl) ⟨rfl, ((Keep.refl h0 [b]).trans K2 (allS (Or.inl (List.mem_cons_self ..)) all0)).trans K3 (allS (Or.inl (List.mem_cons_self ..)) all0), Or.inr (Or.inr ⟨t, k, hv3, h10, X2.wr W3, Fw2.other W3 (Or.inr nsl), (A.other W2 ne.symm).other W3 ne.symm⟩)⟩ nle nle
theorem rmL12s1 (l : Launch) (Z : State) (a0 : Array Value) (hw : HW Z a0) (hEL : EW Z a0 consts_1) (em : Addr) (Se : Sta Z Z.heap "java/util/ImmutableCollections" "EMPTY" "Ljava/lang/Object;" (.ref em)) (b : Addr) (h0 : Heap) (hx : Ext Z.heap h0) (F1 : Fld Z h0 b "java/util/ImmutableCollections$List12" "e1" "Ljava/lang/Object;" (.ref em)) :
   Met l Z consts_1 mN40 jdk_44_method_3_code 1 (some .int) [] (rM 0 0 0 0) #[.ref b] h0 [] (fun v h => v = some (.int 1) ∧ h = h0) := by
 refine Met.of (a0 := a0) (by decide +kernel) hEL hx ?_
 intro p e s m below meth c S0 V w hs hsf
 replace w := (((((w.to (g' := mkF m 0 #[.val (.ref b)] [])).aloadN (d81 0 rfl) rfl).getF (wq hw 551 rfl) F1 (d81 1 rfl)).getSN (wq hw 550 rfl) Se (d81 2 rfl)).acmp true (d81 3 rfl) (decide_eq_true rfl)).iconst (pc' := 15) (1 : Int32) (d81 4 rfl)
 exact w.retI (d81 5 rfl) ⟨rfl, rfl⟩ nle nle
theorem rmL12g0 (l : Launch) (Z : State) (a0 : Array Value) (hw : HW Z a0) (hEL : EW Z a0 consts_1) (b x : Addr) (h0 : Heap) (hx : Ext Z.heap h0) (F0 : Fld Z h0 b "java/util/ImmutableCollections$List12" "e0" "Ljava/lang/Object;" (.ref x)) :
   Met l Z consts_1 mN41 jdk_44_method_5_code 2 (some (.object "java/lang/Object")) [] (rM 0 0 0 0) #[.ref b, .int 0] h0 [] (fun v h => v = some (.ref x) ∧ h = h0) := by
 refine Met.of (a0 := a0) (by decide +kernel) hEL hx ?_
 intro p e s m below meth c S0 V w hs hsf
 replace w := ((((w.to (g' := mkF m 0 #[.val (.ref b), .val (.int (0 : Int32))] [])).iloadN (d82 0 rfl) rfl).ifNo (d82 1 rfl) (by decide)).aloadN (d82 2 rfl) rfl).getF (wq hw 548 rfl) F0 (d82 3 rfl) (pc' := 8)
 exact w.retA (d82 4 rfl) ⟨rfl, rfl⟩ nle nle
theorem rmL12g1 (l : Launch) (Z : State) (a0 : Array Value) (hw : HW Z a0) (hEL : EW Z a0 consts_1) (em : Addr) (Se : Sta Z Z.heap "java/util/ImmutableCollections" "EMPTY" "Ljava/lang/Object;" (.ref em)) (b x2 : Addr) (hne : x2 ≠ em) (h0 : Heap) (hx : Ext Z.heap h0) (F1 : Fld Z h0 b "java/util/ImmutableCollections$List12" "e1" "Ljava/lang/Object;" (.ref x2)) :
   Met l Z consts_1 mN41 jdk_44_method_5_code 2 (some (.object "java/lang/Object")) [] (rM 0 0 0 0) #[.ref b, .int 1] h0 [] (fun v h => v = some (.ref x2) ∧ h = h0) := by
 refine Met.of (a0 := a0) (by decide +kernel) hEL hx ?_
 intro p e s m below meth c S0 V w hs hsf
 replace w := (((((((((((w.to (g' := mkF m 0 #[.val (.ref b), .val (.int (1 : Int32))] [])).iloadN (d82 0 rfl) rfl).ifYes (d82 1 rfl) (by decide)).iloadN (d82 5 rfl) rfl).iconst (1 : Int32) (d82 6 rfl)).icmpNo (d82 7 rfl) (by decide)).aloadN (d82 8 rfl) rfl).getF (wq hw 551 rfl) F1 (d82 9 rfl)).getSN (wq hw 550 rfl) Se (d82 10 rfl)).acmp false (d82 11 rfl) (decide_eq_false fun q => hne (Value.ref.inj q))).aloadN (d82 12 rfl) rfl).getF (wq hw 551 rfl) F1 (d82 13 rfl) (pc' := 28)
 exact w.retA (d82 14 rfl) ⟨rfl, rfl⟩ nle nle
theorem rmLNg (l : Launch) (Z : State) (a0 : Array Value) (hw : HW Z a0) (hEL : EW Z a0 consts_1) (b t : Addr) (k : ClassId) (vs : List Value) (h10 : vs.length ≤ 10) (i : Nat) (hi : i < vs.length) (x : Addr) (hv : vs.getD i .null = .ref x) (h0 : Heap) (hx : Ext Z.heap h0) (F0 : Fld Z h0 b "java/util/ImmutableCollections$ListN" "elements" "[Ljava/lang/Object;" (.ref t)) (A : Arv Z h0 t k (.object "java/lang/Object") (Int32.ofNat vs.length) vs .null) :
   Met l Z consts_1 mN42 jdk_45_method_4_code 2 (some (.object "java/lang/Object")) [] (rM 0 0 0 0) #[.ref b, .int (Int32.ofNat i)] h0 [] (fun v h => v = some (.ref x) ∧ h = h0) := by
 refine Met.of (a0 := a0) (by decide +kernel) hEL hx ?_
 intro p e s m below meth c S0 V w hs hsf
 replace w := ((((w.to (g' := mkF m 0 #[.val (.ref b), .val (.int (Int32.ofNat i))] [])).aloadN (d87 0 rfl) rfl).getF (wq hw 330 rfl) F0 (d87 1 rfl)).iloadN (d87 2 rfl) rfl).aaload (v := (.ref x)) A (d87 3 rfl) ⟨(own_n32 (by omega)).1, (own_lt32 (a := i) (b := vs.length) (by omega) (by omega)).mpr hi⟩ (by rw [(own_n32 (n := i) (by omega)).2.1]; exact hv) (pc' := 6)
 exact w.retA (d87 4 rfl) ⟨rfl, rfl⟩ nle nle
theorem rmLNs0 (l : Launch) (Z : State) (a0 : Array Value) (hw : HW Z a0) (hEL : EW Z a0 consts_1) (b t : Addr) (k : ClassId) (h0 : Heap) (hx : Ext Z.heap h0) (F0 : Fld Z h0 b "java/util/ImmutableCollections$ListN" "elements" "[Ljava/lang/Object;" (.ref t)) (A : Arv Z h0 t k (.object "java/lang/Object") 0 [] .null) :
   Met l Z consts_1 mN43 jdk_45_method_3_code 1 (some .int) [] (rM 0 0 0 0) #[.ref b] h0 [] (fun v h => v = some (.int 0) ∧ h = h0) := by
 refine Met.of (a0 := a0) (by decide +kernel) hEL hx ?_
 intro p e s m below meth c S0 V w hs hsf
 replace w := (((w.to (g' := mkF m 0 #[.val (.ref b)] [])).aloadN (d46 0 rfl) rfl).getF (wq hw 330 rfl) F0 (d46 1 rfl)).arrlen A (d46 2 rfl) (pc' := 5)
 exact w.retI (d46 3 rfl) ⟨rfl, rfl⟩ nle nle
theorem own_rangeA (vs : List Value) (dv : Value) (a n : Nat) (h : a + n ≤ vs.length) : (List.range n).map (fun i => vs.getD (a + i) dv) = (vs.drop a).take n := by
 apply List.ext_getElem
 · simp; omega
 · intro i h1 h2
   simp at h1 h2
   rw [List.getElem_map, List.getElem_range, List.getElem_take, List.getElem_drop]
   simp [List.getD_eq_getElem?_getD, show a + i < vs.length by omega]
theorem own_10_drop {vs : List Value} {a n : Nat} (h : a + n = vs.length) (h10 : vs.length ≤ 10) : ((own_10 vs).drop a).take n = vs.drop a := by
 have e : (vs.drop a).length = n := by rw [List.length_drop]; omega
 rw [own_10, List.drop_append_of_le_length (by omega)]
 rw [← e, List.take_left]
theorem own_stoL {Z : State} {h : Heap} {b : Addr} {k : ClassId} {z : Int32} {vd : List Value} {dd : Value} (D : Arv Z h b k (.object "java/lang/Object") z vd dd) (O : Ovr Z k "java/lang/Object") : ∀ us : List Value, (∀ u ∈ us, ∃ x, u = .ref x ∧ Ins Z h x "java/lang/Object" true) → StoL Z h b us
 | [], _ => trivial
 | u :: us, H => by
   obtain ⟨x, rfl, I⟩ := H u (List.mem_cons_self ..)
   obtain ⟨cA, A1, A2, -⟩ := id D
   exact ⟨Sto.ofV A1 A2 O I, own_stoL D O us fun v hv => H v (List.mem_cons_of_mem _ hv)⟩
theorem rmMIN (l : Launch) (Z : State) (a0 : Array Value) (hw : HW Z a0) (hEL : EW Z a0 consts_1) (a b : Int32) (hab : ¬ a < b) (h0 : Heap) (hx : Ext Z.heap h0) :
   Met l Z consts_1 mN44 jdk_29_method_69_code 2 (some .int) [] (rM 0 0 0 0) #[.int a, .int b] h0 [] (fun v h => v = some (.int b) ∧ h = h0) := by
 refine Met.of (a0 := a0) (by decide +kernel) hEL hx ?_
 intro p e s m below meth c S0 V w hs hsf
 replace w := ((w.to (g' := mkF m 0 #[.val (.int a), .val (.int b)] [])).iloadN (d27 0 rfl) rfl).iloadN (pc' := 2) (d27 1 rfl) rfl
 by_cases q : b < a
 ·
   replace w := (w.icmpYes (pc' := 9) (d27 2 rfl) ((tlt q).2.2.1)).iloadN (pc' := 10) (d27 3 rfl) rfl
   exact w.retI (d27 4 rfl) ⟨rfl, rfl⟩ nle nle
 replace w := ((w.icmpNo (pc' := 5) (d27 2 rfl) ((flt q).2.2.1)).iloadN (d27 5 rfl) rfl).goto (pc' := 10) (d27 6 rfl)
 have e : a = b := Int32.le_antisymm (Int32.not_lt.mp q) (Int32.not_lt.mp hab)
 exact w.retI (d27 4 rfl) ⟨by rw [e], rfl⟩ nle nle
theorem rmCO3 (l : Launch) (Z : State) (a0 : Array Value) (hw : HW Z a0) (hEL : EW Z a0 consts_1) (mr : Addr) (Mr : Mro Z "[Ljava/lang/Object;" mr) (t : Addr) (k : ClassId) (vs : List Value) (hl : vs.length ≤ 10) (h0 : Heap) (hx : Ext Z.heap h0) (A : Arv Z h0 t k (.object "java/lang/Object") 10 (own_10 vs) .null) (HI : ∀ u ∈ vs, ∃ x, u = .ref x ∧ Ins Z h0 x "java/lang/Object" true) :
   Met l Z consts_1 mN45 jdk_65_method_120_code 4 (some (.array (.object "java/lang/Object"))) [] (rM 1 1 10 60) #[.ref t, .int (Int32.ofNat vs.length), .ref mr] h0 [] (fun v h => ∃ d kd, v = some (.ref d) ∧ Ext h0 h ∧ h0.size ≤ d ∧ Arv Z h d kd (.object "java/lang/Object") (Int32.ofNat vs.length) vs .null ∧ Ovr Z kd "java/lang/Object") := by
 have n1 := own_n32 (n := vs.length) (by omega)
 refine Met.of (a0 := a0) (by decide +kernel) hEL hx ?_
 intro p e s m below meth c S0 V w hs hsf
 replace w := w.to (g' := mkF m 0 #[.val (.ref t), .val (.int (Int32.ofNat vs.length)), .val (.ref mr), .unset] [])
 have BZ := w.old
 have B0 := extR h0
 replace w := (((w.aloadN (d77 0 rfl) rfl).ldcM (wq hw 229 rfl) Mr (d77 1 rfl)).acmp true (d77 2 rfl) (decide_eq_true rfl)).iloadN (pc' := 7) (d77 3 rfl) rfl
 obtain ⟨h1, d, k_d, g_d, E1, V_d, X_d, O_d, A1, w⟩ := w.anew (cap := 10) (ad := "[Ljava/lang/Object;") (wq hw 230 rfl) (wq hw 231 rfl) (d77 4 rfl) n1.1 (by rw [n1.2.1]; exact hl) (by decide) nle nle (pc' := 10)
 have ge_d_Z : Z.heap.size ≤ d := Nat.le_trans BZ.1 (Nat.le_of_eq g_d.symm)
 have ge_d_0 : h0.size ≤ d := Nat.le_trans B0.1 (Nat.le_of_eq g_d.symm)
 have B0 := extT B0 E1
 have V1 := V_d.pad (vs' := List.replicate vs.length .null) (pad_rep [] _ vs.length)
 have A1' := A.ext E1
 replace w := ((((((((w.goto (d77 5 rfl)).astoreN (L' := #[.val (.ref t), .val (.int (Int32.ofNat vs.length)), .val (.ref mr), .val (.ref d)]) (d77 6 rfl) rfl).aloadN (d77 7 rfl) rfl).iconst (0 : Int32) (d77 8 rfl)).aloadN (d77 9 rfl) rfl).iconst (0 : Int32) (d77 10 rfl)).aloadN (d77 11 rfl) rfl).arrlen A1' (d77 12 rfl)).iloadN (pc' := 32) (d77 13 rfl) rfl
 have hq10 : ¬ (10 : Int32) < Int32.ofNat vs.length := fun z => absurd ((own_lt32 (a := 10) (b := vs.length) (by omega) (by omega)).mp z) (by omega)
 obtain ⟨v2, V2, h2, hq2, A2, w⟩ := w.static (y' := mN44) (W := 4) (w.pays 4 (rmMIN l Z a0 hw hEL 10 (Int32.ofNat vs.length) hq10 h1 w.old) (wq hw 157 rfl) (wq hw 156 rfl) all0 nle nle) (wq hw 232 rfl) (wq hw 155 rfl) (wq hw 156 rfl) (wq hw 157 rfl) (argsL := [(.int (10 : Int32)), (.int (Int32.ofNat vs.length))]) (rest := [(.int (0 : Int32)), (.ref d), (.int (0 : Int32)), (.ref t)]) (by decide) pd_9 rfl rfl nlr rfl (d77 14 rfl) nle nle (pc' := 35)
 obtain ⟨rfl, he2⟩ := hq2
 replace w := w.toS [(.int (Int32.ofNat vs.length)), (.int (0 : Int32)), (.ref d), (.int (0 : Int32)), (.ref t)]
 replace he2 := he2.symm
 subst he2
 have HS : StoL Z h1 d vs := own_stoL V1 O_d vs (fun u hu => by obtain ⟨x, e, I⟩ := HI u hu; exact ⟨x, e, I.ext E1⟩)
 obtain ⟨h3, K3, A3', C3, w⟩ := w.arrcopyR (W := 0) (us := vs) (wq hw 233 rfl) (wq hw 236 rfl) (wq hw 234 rfl) (wq hw 235 rfl) A1' V1 rfl rfl HS (by decide) (by decide) (by decide) n1.1 (by rw [n1.2.1]; show 0 + vs.length ≤ 10; omega) (by rw [n1.2.1]; exact Nat.le_of_eq (Nat.zero_add _)) (by rw [n1.2.1]; exact ((own_rangeA (own_10 vs) .null 0 vs.length (by rw [own_10_len hl]; omega)).trans (own_10_drop (a := 0) (Nat.zero_add _) hl)).symm) (by rw [n1.2.1, List.length_replicate]; exact Nat.le_of_eq (Nat.zero_add _)) ge_d_Z rfl (d77 15 rfl) nle (Nat.le_of_eq rfl) nle (pc' := 38)
 replace w := w.aloadN (pc' := 39) (d77 16 rfl) rfl
 have A4' : Arv Z h3 d k_d (.object "java/lang/Object") (Int32.ofNat vs.length) vs .null := by
   have e : (List.replicate vs.length Value.null).take (0 : Int32).toNatClampNeg ++ vs ++ (List.replicate vs.length Value.null).drop ((0 : Int32).toNatClampNeg + (Int32.ofNat vs.length).toNatClampNeg) = vs := by
     rw [n1.2.1]
     show [] ++ vs ++ (List.replicate vs.length Value.null).drop (0 + vs.length) = _
     rw [Nat.zero_add, List.drop_eq_nil_of_le (by rw [List.length_replicate]; exact Nat.le_refl _)]; simp
   rw [e] at A3'; exact A3'
 exact w.retA (d77 17 rfl) ⟨d, k_d, rfl, extK B0 K3 (allS ge_d_0 all0), ge_d_0, A4', O_d⟩ nle nle
theorem rmCO2 (l : Launch) (Z : State) (a0 : Array Value) (hw : HW Z a0) (hEL : EW Z a0 consts_1) (mr : Addr) (Mr : Mro Z "[Ljava/lang/Object;" mr) (t : Addr) (k : ClassId) (vs : List Value) (hl : vs.length ≤ 10) (h0 : Heap) (hx : Ext Z.heap h0) (A : Arv Z h0 t k (.object "java/lang/Object") 10 (own_10 vs) .null) (X_t : Exa Z h0 t "[Ljava/lang/Object;") (HI : ∀ u ∈ vs, ∃ x, u = .ref x ∧ Ins Z h0 x "java/lang/Object" true) :
   Met l Z consts_1 mN46 jdk_65_method_119_code 2 (some (.array (.object "java/lang/Object"))) [] (rM 2 1 10 76) #[.ref t, .int (Int32.ofNat vs.length)] h0 [] (fun v h => ∃ d kd, v = some (.ref d) ∧ Ext h0 h ∧ h0.size ≤ d ∧ Arv Z h d kd (.object "java/lang/Object") (Int32.ofNat vs.length) vs .null ∧ Ovr Z kd "java/lang/Object") := by
 refine Met.of (a0 := a0) (by decide +kernel) hEL hx ?_
 intro p e s m below meth c S0 V w hs hsf
 replace w := ((((w.to (g' := mkF m 0 #[.val (.ref t), .val (.int (Int32.ofNat vs.length))] [])).aloadN (d76 0 rfl) rfl).iloadN (d76 1 rfl) rfl).aloadN (d76 2 rfl) rfl).getClass (W := 2) (wq hw 220 rfl) (wq hw 221 rfl) (wq hw 251 rfl) (wq hw 223 rfl) (wq hw 222 rfl) (wq hw 224 rfl) (X_t) Mr rfl (d76 3 rfl) (by decide) nlr (by decide) (pc' := 6)
 obtain ⟨v1, V1, h1, hq1, A1, w⟩ := w.static (y' := mN45) (W := 0) (w.pays 0 (rmCO3 l Z a0 hw hEL mr Mr t k vs hl h0 w.old A HI) (wq hw 527 rfl) (wq hw 218 rfl) all0 nle nle) (wq hw 525 rfl) (wq hw 526 rfl) (wq hw 218 rfl) (wq hw 527 rfl) (argsL := [(.ref t), (.int (Int32.ofNat vs.length)), (.ref mr)]) (rest := []) (by decide) pd_17 rfl rfl nlr rfl (d76 4 rfl) nle nle (pc' := 9)
 obtain ⟨d, kd, rfl, E1, gd, D, O⟩ := hq1
 replace w := w.toS [(.ref d)]
 exact w.retA (d76 5 rfl) ⟨d, kd, rfl, E1, gd, D, O⟩ nle nle
theorem rmTOA (l : Launch) (Z : State) (a0 : Array Value) (hw : HW Z a0) (hEL : EW Z a0 consts_1) (mr : Addr) (Mr : Mro Z "[Ljava/lang/Object;" mr) (b t : Addr) (k : ClassId) (vs : List Value) (mc : Int32) (hl : vs.length ≤ 10) (h0 : Heap) (hx : Ext Z.heap h0) (T : ALn Z h0 b t k vs mc) (HI : ∀ u ∈ vs, ∃ x, u = .ref x ∧ Ins Z h0 x "java/lang/Object" true) :
   Met l Z consts_1 mN47 jdk_38_method_16_code 1 (some (.array (.object "java/lang/Object"))) [] (rM 3 1 10 90) #[.ref b] h0 [] (fun v h => ∃ d kd, v = some (.ref d) ∧ Ext h0 h ∧ h0.size ≤ d ∧ Arv Z h d kd (.object "java/lang/Object") (Int32.ofNat vs.length) vs .null ∧ Ovr Z kd "java/lang/Object") := by
 obtain ⟨X_b, Fe, Fs, Fm, A, X_t, O⟩ := T
 refine Met.of (a0 := a0) (by decide +kernel) hEL hx ?_
 intro p e s m below meth c S0 V w hs hsf
 replace w := ((((w.to (g' := mkF m 0 #[.val (.ref b)] [])).aloadN (d75 0 rfl) rfl).getF (wq hw 66 rfl) Fe (d75 1 rfl)).aloadN (d75 2 rfl) rfl).getF (wq hw 152 rfl) Fs (d75 3 rfl) (pc' := 8)
 obtain ⟨v1, V1, h1, hq1, A1, w⟩ := w.static (y' := mN46) (W := 0) (w.pays 0 (rmCO2 l Z a0 hw hEL mr Mr t k vs hl h0 w.old A X_t HI) (wq hw 524 rfl) (wq hw 218 rfl) all0 nle nle) (wq hw 522 rfl) (wq hw 523 rfl) (wq hw 218 rfl) (wq hw 524 rfl) (argsL := [(.ref t), (.int (Int32.ofNat vs.length))]) (rest := []) (by decide) pd_18 rfl rfl nlr rfl (d75 4 rfl) nle nle (pc' := 11)
 obtain ⟨d, kd, rfl, E1, gd, D, O'⟩ := hq1
 replace w := w.toS [(.ref d)]
 exact w.retA (d75 5 rfl) ⟨d, kd, rfl, E1, gd, D, O'⟩ nle nle
theorem rmAMi (l : Launch) (Z : State) (a0 : Array Value) (hw : HW Z a0) (hEL : EW Z a0 consts_1) (b : Addr) (h0 : Heap) (hx : Ext Z.heap h0) :
   Met l Z consts_1 mN50 jdk_71_method_1_code 1 none [] (rM 1 0 0 12) #[.ref b] h0 [] (fun v h => v = none ∧ h = h0) := by
 refine Met.of (a0 := a0) (by decide +kernel) hEL hx ?_
 intro p e s m below meth c S0 V w hs hsf
 replace w := ((w.to (g' := mkF m 0 #[.val (.ref b)] [])).aloadN (d25 0 rfl) rfl).initO 0 (wq hw 137 rfl) (wq hw 12 rfl) (wq hw 13 rfl) rfl (d25 1 rfl) (by decide) nlr (by decide) (pc' := 4)
 exact w.ret0 (d25 2 rfl) ⟨rfl, rfl⟩ nle nle
theorem rmHMi (l : Launch) (Z : State) (a0 : Array Value) (hw : HW Z a0) (hEL : EW Z a0 consts_1) (b : Addr) (old : Value) (h0 : Heap) (hx : Ext Z.heap h0) (X_b : Exa Z h0 b "java/util/HashMap") (Fl : Fld Z h0 b "java/util/HashMap" "loadFactor" "F" old) (ge_b_Z : Z.heap.size ≤ b) :
   Met l Z consts_1 mN51 jdk_69_method_7_code 1 none [] (rM 2 0 0 26) #[.ref b] h0 [] (fun v h => v = none ∧ ∃ sl z, Wr h0 h b sl z ∧ sl = RoadKit.slotOf Z "java/util/HashMap" "loadFactor" "F") := by
 refine Met.of (a0 := a0) (by decide +kernel) hEL hx ?_
 intro p e s m below meth c S0 V w hs hsf
 replace w := (w.to (g' := mkF m 0 #[.val (.ref b)] [])).aloadN (pc' := 1) (d24 0 rfl) rfl
 obtain ⟨v1, V1, h1, hq1, A1, w⟩ := w.ctor (y' := mN50) (W := 0) (a := b) (w.pays 0 (rmAMi l Z a0 hw hEL b h0 w.old) (wq hw 136 rfl) (wq hw 135 rfl) all0 nle nle) rfl (wq hw 131 rfl) (wq hw 132 rfl) (wq hw 136 rfl) (argsL := []) (rest := []) (by decide) pd_7 rfl rfl nlr rfl (d24 1 rfl) nle nle (pc' := 4)
 obtain ⟨rfl, he1⟩ := hq1
 replace w := w.toS []
 replace he1 := he1.symm
 subst he1
 replace w := (w.aloadN (d24 2 rfl) rfl).ldcF (hw _ (List.mem_of_getElem? (i := 138) rfl)) (d24 3 rfl) (pc' := 7)
 obtain ⟨h2, W2, K2, Fw2, A2, w⟩ := w.putF (ty := .float) (wq hw 139 rfl) (Fl) (X_b) (Or.inr ⟨(wq hw 140 rfl), rfl, rfl⟩) (wq hw 126 rfl) (by decide) rfl rfl (Safe.exa w.hZ.alike X_b (by decide) (by decide)) (ge_b_Z) (d24 4 rfl) (pc' := 10)
 exact w.ret0 (d24 5 rfl) ⟨rfl, _, _, W2, rfl⟩ nle nle
/-- a node: its hash, key and value -/
def Nod (Z : State) (h : Heap) (n : Addr) (hs : Int32) (k v : Addr) : Prop := Exa Z h n "java/util/HashMap$Node" ∧ Fld Z h n "java/util/HashMap$Node" "hash" "I" (.int hs) ∧ Fld Z h n "java/util/HashMap$Node" "key" "Ljava/lang/Object;" (.ref k) ∧ Fld Z h n "java/util/HashMap$Node" "value" "Ljava/lang/Object;" (.ref v)
theorem Nod.ext {Z : State} {h h' : Heap} {n k v : Addr} {hs : Int32} (E : Ext h h') (S : Nod Z h n hs k v) : Nod Z h' n hs k v := ⟨S.1.ext E, S.2.1.ext E, S.2.2.1.ext E, S.2.2.2.ext E⟩
theorem own_nhk {Z : State} {a0 : Array Value} (hw : HW Z a0) : RoadKit.slotOf Z "java/util/HashMap$Node" "hash" "I" ≠ RoadKit.slotOf Z "java/util/HashMap$Node" "key" "Ljava/lang/Object;" := slot_ne (C := "java/util/HashMap$Node") (Or.inr (wq hw 499 rfl)) (Or.inr (wq hw 501 rfl)) (by decide) (t := .int) (t' := (.object "java/lang/Object")) (by decide) (by decide)
theorem own_nhv {Z : State} {a0 : Array Value} (hw : HW Z a0) : RoadKit.slotOf Z "java/util/HashMap$Node" "hash" "I" ≠ RoadKit.slotOf Z "java/util/HashMap$Node" "value" "Ljava/lang/Object;" := slot_ne (C := "java/util/HashMap$Node") (Or.inr (wq hw 499 rfl)) (Or.inl (wq hw 503 rfl)) (by decide) (t := .int) (t' := (.object "java/lang/Object")) (by decide) (by decide)
theorem own_nhn {Z : State} {a0 : Array Value} (hw : HW Z a0) : RoadKit.slotOf Z "java/util/HashMap$Node" "hash" "I" ≠ RoadKit.slotOf Z "java/util/HashMap$Node" "next" "Ljava/util/HashMap$Node;" := slot_ne (C := "java/util/HashMap$Node") (Or.inr (wq hw 499 rfl)) (Or.inl (wq hw 505 rfl)) (by decide) (t := .int) (t' := (.object "java/util/HashMap$Node")) (by decide) (by decide)
theorem own_nkv {Z : State} {a0 : Array Value} (hw : HW Z a0) : RoadKit.slotOf Z "java/util/HashMap$Node" "key" "Ljava/lang/Object;" ≠ RoadKit.slotOf Z "java/util/HashMap$Node" "value" "Ljava/lang/Object;" := slot_ne (C := "java/util/HashMap$Node") (Or.inr (wq hw 501 rfl)) (Or.inl (wq hw 503 rfl)) (by decide) (t := (.object "java/lang/Object")) (t' := (.object "java/lang/Object")) (by decide) (by decide)
theorem own_nkn {Z : State} {a0 : Array Value} (hw : HW Z a0) : RoadKit.slotOf Z "java/util/HashMap$Node" "key" "Ljava/lang/Object;" ≠ RoadKit.slotOf Z "java/util/HashMap$Node" "next" "Ljava/util/HashMap$Node;" := slot_ne (C := "java/util/HashMap$Node") (Or.inr (wq hw 501 rfl)) (Or.inl (wq hw 505 rfl)) (by decide) (t := (.object "java/lang/Object")) (t' := (.object "java/util/HashMap$Node")) (by decide) (by decide)
theorem own_nvn {Z : State} {a0 : Array Value} (hw : HW Z a0) : RoadKit.slotOf Z "java/util/HashMap$Node" "value" "Ljava/lang/Object;" ≠ RoadKit.slotOf Z "java/util/HashMap$Node" "next" "Ljava/util/HashMap$Node;" := slot_ne (C := "java/util/HashMap$Node") (Or.inl (wq hw 503 rfl)) (Or.inl (wq hw 505 rfl)) (by decide) (t := (.object "java/lang/Object")) (t' := (.object "java/util/HashMap$Node")) (by decide) (by decide)
theorem rmNDi (l : Launch) (Z : State) (a0 : Array Value) (hw : HW Z a0) (hEL : EW Z a0 consts_1) (n k v : Addr) (hsh : Int32) (h0 : Heap) (hx : Ext Z.heap h0) (X_n : Exa Z h0 n "java/util/HashMap$Node") (Fh : Fld Z h0 n "java/util/HashMap$Node" "hash" "I" (.int 0)) (Fk : Fld Z h0 n "java/util/HashMap$Node" "key" "Ljava/lang/Object;" .null) (Fv : Fld Z h0 n "java/util/HashMap$Node" "value" "Ljava/lang/Object;" .null) (Fn : Fld Z h0 n "java/util/HashMap$Node" "next" "Ljava/util/HashMap$Node;" .null) (ge_n_Z : Z.heap.size ≤ n) :
   Met l Z consts_1 mN52 jdk_70_method_1_code 5 none [] (rM 1 0 0 12) #[.ref n, .int hsh, .ref k, .ref v, .null] h0 [] (fun u h => u = none ∧ Keep h0 h [n] ∧ Nod Z h n hsh k v) := by
 refine Met.of (a0 := a0) (by decide +kernel) hEL hx ?_
 intro p e s m below meth c S0 V w hs hsf
 replace w := ((((w.to (g' := mkF m 0 #[.val (.ref n), .val (.int hsh), .val (.ref k), .val (.ref v), .val .null] [])).aloadN (d73 0 rfl) rfl).initO 0 (wq hw 497 rfl) (wq hw 12 rfl) (wq hw 13 rfl) rfl (d73 1 rfl) (by decide) nlr (by decide)).aloadN (d73 2 rfl) rfl).iloadN (pc' := 6) (d73 3 rfl) rfl
 obtain ⟨h1, W1, K1, Fw1, A1, w⟩ := w.putF (ty := .int) (wq hw 498 rfl) (Fh) (X_n) (Or.inr ⟨(wq hw 499 rfl), rfl, rfl⟩) (wq hw 491 rfl) (by decide) rfl rfl (Safe.exa w.hZ.alike X_n (by decide) (by decide)) (ge_n_Z) (d73 4 rfl) (pc' := 9)
 have X1 := X_n.wr W1
 have Fk1 := Fk.other W1 (Or.inr (own_nhk hw).symm)
 have Fv1 := Fv.other W1 (Or.inr (own_nhv hw).symm)
 have Fn1 := Fn.other W1 (Or.inr (own_nhn hw).symm)
 replace w := (w.aloadN (d73 5 rfl) rfl).aloadN (pc' := 11) (d73 6 rfl) rfl
 obtain ⟨h2, W2, K2, Fw2, A2, w⟩ := w.putF (ty := (.object "java/lang/Object")) (wq hw 500 rfl) (Fk1) (X1) (Or.inr ⟨(wq hw 501 rfl), rfl, rfl⟩) (wq hw 491 rfl) (by decide) rfl rfl (Safe.exa w.hZ.alike X1 (by decide) (by decide)) (ge_n_Z) (d73 7 rfl) (pc' := 14)
 have X2 := X1.wr W2
 have Fv2 := Fv1.other W2 (Or.inr (own_nkv hw).symm)
 have Fn2 := Fn1.other W2 (Or.inr (own_nkn hw).symm)
 replace w := (w.aloadN (d73 8 rfl) rfl).aloadN (pc' := 16) (d73 9 rfl) rfl
 obtain ⟨h3, W3, K3, Fw3, A3, w⟩ := w.putF (ty := (.object "java/lang/Object")) (wq hw 502 rfl) (Fv2) (X2) (Or.inl (wq hw 503 rfl)) (wq hw 491 rfl) (by decide) rfl rfl (Safe.exa w.hZ.alike X2 (by decide) (by decide)) (ge_n_Z) (d73 10 rfl) (pc' := 19)
 have X3 := X2.wr W3
 have Fn3 := Fn2.other W3 (Or.inr (own_nvn hw).symm)
 replace w := (w.aloadN (d73 11 rfl) rfl).aload (pc' := 22) (d73 12 rfl) rfl
 obtain ⟨h4, W4, K4, Fw4, A4, w⟩ := w.putF (ty := (.object "java/util/HashMap$Node")) (wq hw 504 rfl) (Fn3) (X3) (Or.inl (wq hw 505 rfl)) (wq hw 491 rfl) (by decide) rfl rfl (Safe.exa w.hZ.alike X3 (by decide) (by decide)) (ge_n_Z) (d73 13 rfl) (pc' := 25)
 have KK := ((((Keep.refl h0 [n]).trans K1 (allS (Or.inl (List.mem_cons_self ..)) all0)).trans K2 (allS (Or.inl (List.mem_cons_self ..)) all0)).trans K3 (allS (Or.inl (List.mem_cons_self ..)) all0)).trans K4 (allS (Or.inl (List.mem_cons_self ..)) all0)
 exact w.ret0 (d73 14 rfl) ⟨rfl, KK, X3.wr W4, ((Fw1.other W2 (Or.inr (own_nhk hw))).other W3 (Or.inr (own_nhv hw))).other W4 (Or.inr (own_nhn hw)), (Fw2.other W3 (Or.inr (own_nkv hw))).other W4 (Or.inr (own_nkn hw)), Fw3.other W4 (Or.inr (own_nvn hw))⟩ nle nle
theorem rmNND (l : Launch) (Z : State) (a0 : Array Value) (hw : HW Z a0) (hEL : EW Z a0 consts_1) (m0 k v : Addr) (hsh : Int32) (h0 : Heap) (hx : Ext Z.heap h0) :
   Met l Z consts_1 mN53 jdk_69_method_46_code 5 (some (.object "java/util/HashMap$Node")) [] (rM 2 1 4 30) #[.ref m0, .int hsh, .ref k, .ref v, .null] h0 [] (fun u h => ∃ n, u = some (.ref n) ∧ Ext h0 h ∧ h0.size ≤ n ∧ Nod Z h n hsh k v) := by
 refine Met.of (a0 := a0) (by decide +kernel) hEL hx ?_
 intro p e s m below meth c S0 V w hs hsf
 replace w := w.to (g' := mkF m 0 #[.val (.ref m0), .val (.int hsh), .val (.ref k), .val (.ref v), .val .null] [])
 have BZ := w.old
 have B0 := extR h0
 obtain ⟨h1, n, g_n, E1, X_n, D_n, S_n, A1, w⟩ := w.new (wq hw 477 rfl) (wq hw 491 rfl) (wq hw 492 rfl) (d72 0 rfl) nle nle (pc' := 3)
 have ge_n_Z : Z.heap.size ≤ n := Nat.le_trans BZ.1 (Nat.le_of_eq g_n.symm)
 have ge_n_0 : h0.size ≤ n := Nat.le_trans B0.1 (Nat.le_of_eq g_n.symm)
 have F_n_hash := D_n (Or.inr (wq hw 499 rfl)) (ty := .int) (by decide)
 have F_n_key := D_n (Or.inr (wq hw 501 rfl)) (ty := (.object "java/lang/Object")) (by decide)
 have F_n_value := D_n (Or.inl (wq hw 503 rfl)) (ty := (.object "java/lang/Object")) (by decide)
 have F_n_next := D_n (Or.inl (wq hw 505 rfl)) (ty := (.object "java/util/HashMap$Node")) (by decide)
 have B0 := extT B0 E1
 replace w := ((((w.dup (d72 1 rfl)).iloadN (d72 2 rfl) rfl).aloadN (d72 3 rfl) rfl).aloadN (d72 4 rfl) rfl).aload (pc' := 9) (d72 5 rfl) rfl
 obtain ⟨v2, V2, h2, hq2, A2, w⟩ := w.ctor (y' := mN52) (W := 1) (a := n) (w.pays 1 (rmNDi l Z a0 hw hEL n k v hsh h1 w.old X_n F_n_hash F_n_key F_n_value F_n_next ge_n_Z) (wq hw 496 rfl) (wq hw 492 rfl) all0 nle nle) rfl (wq hw 493 rfl) (wq hw 494 rfl) (wq hw 496 rfl) (argsL := [(.int hsh), (.ref k), (.ref v), .null]) (rest := [(.ref n)]) (by decide) pd_20 rfl rfl nlr rfl (d72 6 rfl) nle nle (pc' := 12)
 obtain ⟨rfl, K2, T⟩ := hq2
 replace w := w.toS [(.ref n)]
 have B0 := extK B0 K2 (allS ge_n_0 all0)
 exact w.retA (d72 7 rfl) ⟨n, rfl, B0, ge_n_0, T⟩ nle nle
theorem rmANI (l : Launch) (Z : State) (a0 : Array Value) (hw : HW Z a0) (hEL : EW Z a0 consts_1) (b : Addr) (h0 : Heap) (hx : Ext Z.heap h0) :
   Met l Z consts_1 mN54 jdk_69_method_52_code 2 none [] (rM 0 0 0 0) #[.ref b, .int 1] h0 [] (fun v h => v = none ∧ h = h0) := by
 refine Met.of (a0 := a0) (by decide +kernel) hEL hx ?_
 intro p e s m below meth c S0 V w hs hsf
 replace w := w.to (g' := mkF m 0 #[.val (.ref b), .val (.int (1 : Int32))] [])
 exact w.ret0 (d74 0 rfl) ⟨rfl, rfl⟩ nle nle
/-- a HashMap with a table of 16 at t, that holds tv -/
def HMt (Z : State) (h : Heap) (m t : Addr) (k : ClassId) (tv : List Value) (sz mc : Int32) : Prop :=
 Exa Z h m "java/util/HashMap" ∧ Fld Z h m "java/util/HashMap" "table" "[Ljava/util/HashMap$Node;" (.ref t) ∧ Fld Z h m "java/util/HashMap" "size" "I" (.int sz) ∧ Fld Z h m "java/util/HashMap" "threshold" "I" (.int 12) ∧ Fld Z h m "java/util/HashMap" "modCount" "I" (.int mc) ∧ Arv Z h t k (.object "java/util/HashMap$Node") 16 tv .null ∧ Ovr Z k "java/util/HashMap$Node"
/-- a HashMap without a table -/
def HM0 (Z : State) (h : Heap) (m : Addr) : Prop :=
 Exa Z h m "java/util/HashMap" ∧ Fld Z h m "java/util/HashMap" "table" "[Ljava/util/HashMap$Node;" .null ∧ Fld Z h m "java/util/HashMap" "size" "I" (.int 0) ∧ Fld Z h m "java/util/HashMap" "threshold" "I" (.int 0) ∧ Fld Z h m "java/util/HashMap" "modCount" "I" (.int 0)
theorem own_mts {Z : State} {a0 : Array Value} (hw : HW Z a0) : RoadKit.slotOf Z "java/util/HashMap" "table" "[Ljava/util/HashMap$Node;" ≠ RoadKit.slotOf Z "java/util/HashMap" "size" "I" := slot_ne (C := "java/util/HashMap") (Or.inl (wq hw 298 rfl)) (Or.inl (wq hw 469 rfl)) (by decide) (t := (.array (.object "java/util/HashMap$Node"))) (t' := .int) (by decide) (by decide)
theorem own_mtt {Z : State} {a0 : Array Value} (hw : HW Z a0) : RoadKit.slotOf Z "java/util/HashMap" "table" "[Ljava/util/HashMap$Node;" ≠ RoadKit.slotOf Z "java/util/HashMap" "threshold" "I" := slot_ne (C := "java/util/HashMap") (Or.inl (wq hw 298 rfl)) (Or.inl (wq hw 471 rfl)) (by decide) (t := (.array (.object "java/util/HashMap$Node"))) (t' := .int) (by decide) (by decide)
theorem own_mtm {Z : State} {a0 : Array Value} (hw : HW Z a0) : RoadKit.slotOf Z "java/util/HashMap" "table" "[Ljava/util/HashMap$Node;" ≠ RoadKit.slotOf Z "java/util/HashMap" "modCount" "I" := slot_ne (C := "java/util/HashMap") (Or.inl (wq hw 298 rfl)) (Or.inl (wq hw 480 rfl)) (by decide) (t := (.array (.object "java/util/HashMap$Node"))) (t' := .int) (by decide) (by decide)
theorem own_mst {Z : State} {a0 : Array Value} (hw : HW Z a0) : RoadKit.slotOf Z "java/util/HashMap" "size" "I" ≠ RoadKit.slotOf Z "java/util/HashMap" "threshold" "I" := slot_ne (C := "java/util/HashMap") (Or.inl (wq hw 469 rfl)) (Or.inl (wq hw 471 rfl)) (by decide) (t := .int) (t' := .int) (by decide) (by decide)
theorem own_msm {Z : State} {a0 : Array Value} (hw : HW Z a0) : RoadKit.slotOf Z "java/util/HashMap" "size" "I" ≠ RoadKit.slotOf Z "java/util/HashMap" "modCount" "I" := slot_ne (C := "java/util/HashMap") (Or.inl (wq hw 469 rfl)) (Or.inl (wq hw 480 rfl)) (by decide) (t := .int) (t' := .int) (by decide) (by decide)
theorem own_mum {Z : State} {a0 : Array Value} (hw : HW Z a0) : RoadKit.slotOf Z "java/util/HashMap" "threshold" "I" ≠ RoadKit.slotOf Z "java/util/HashMap" "modCount" "I" := slot_ne (C := "java/util/HashMap") (Or.inl (wq hw 471 rfl)) (Or.inl (wq hw 480 rfl)) (by decide) (t := .int) (t' := .int) (by decide) (by decide)
theorem rmRSZ (l : Launch) (Z : State) (a0 : Array Value) (hw : HW Z a0) (hEL : EW Z a0 consts_1) (m0 : Addr) (h0 : Heap) (hx : Ext Z.heap h0) (T : HM0 Z h0 m0) (ge_m0_Z : Z.heap.size ≤ m0) :
   Met l Z consts_1 mN55 jdk_69_method_17_code 14 (some (.array (.object "java/util/HashMap$Node"))) [] (rM 0 1 16 0) #[.ref m0] h0 [] (fun v h => ∃ t k, v = some (.ref t) ∧ Keep h0 h [m0] ∧ h0.size ≤ t ∧ HMt Z h m0 t k (List.replicate 16 .null) 0 0) := by
 obtain ⟨X_m, Ft, Fs, Fu, Fc⟩ := T
 refine Met.of (a0 := a0) (by decide +kernel) hEL hx ?_
 intro p e s m below meth c S0 V w hs hsf
 replace w := ((((((((w.to (g' := mkF m 0 #[.val (.ref m0), .unset, .unset, .unset, .unset, .unset, .unset, .unset, .unset, .unset, .unset, .unset, .unset, .unset] [])).aloadN (d70 0 rfl) rfl).getF (wq hw 297 rfl) Ft (d70 1 rfl)).astoreN (L' := #[.val (.ref m0), .val .null, .unset, .unset, .unset, .unset, .unset, .unset, .unset, .unset, .unset, .unset, .unset, .unset]) (d70 2 rfl) rfl).aloadN (d70 3 rfl) rfl).ifnonnullNo (d70 4 rfl) ).iconst (0 : Int32) (d70 5 rfl)).goto (d70 6 rfl)).istoreN (pc' := 16) (L' := #[.val (.ref m0), .val .null, .val (.int (0 : Int32)), .unset, .unset, .unset, .unset, .unset, .unset, .unset, .unset, .unset, .unset, .unset]) (d70 7 rfl) rfl
 replace w := (((((((w.aloadN (d70 8 rfl) rfl).getF (wq hw 470 rfl) Fu (d70 9 rfl)).istoreN (L' := #[.val (.ref m0), .val .null, .val (.int (0 : Int32)), .val (.int (0 : Int32)), .unset, .unset, .unset, .unset, .unset, .unset, .unset, .unset, .unset, .unset]) (d70 10 rfl) rfl).iconst (0 : Int32) (d70 11 rfl)).istore (L' := #[.val (.ref m0), .val .null, .val (.int (0 : Int32)), .val (.int (0 : Int32)), .unset, .val (.int (0 : Int32)), .unset, .unset, .unset, .unset, .unset, .unset, .unset, .unset]) (d70 12 rfl) rfl).iloadN (d70 13 rfl) rfl).ifYes (d70 14 rfl) (by decide)).iloadN (pc' := 68) (d70 15 rfl) rfl
 replace w := (((((w.ifYes (d70 16 rfl) (by decide)).bipush (16 : Int32) (d70 17 rfl)).istore (L' := #[.val (.ref m0), .val .null, .val (.int (0 : Int32)), .val (.int (0 : Int32)), .val (.int (16 : Int32)), .val (.int (0 : Int32)), .unset, .unset, .unset, .unset, .unset, .unset, .unset, .unset]) (d70 18 rfl) rfl).bipush (12 : Int32) (d70 19 rfl)).istore (L' := #[.val (.ref m0), .val .null, .val (.int (0 : Int32)), .val (.int (0 : Int32)), .val (.int (16 : Int32)), .val (.int (12 : Int32)), .unset, .unset, .unset, .unset, .unset, .unset, .unset, .unset]) (d70 20 rfl) rfl).iload (pc' := 87) (d70 21 rfl) rfl
 replace w := ((w.ifYes (d70 22 rfl) (by decide)).aloadN (d70 23 rfl) rfl).iload (pc' := 128) (d70 24 rfl) rfl
 obtain ⟨h1, W1, K1, Fw1, A1, w⟩ := w.putF (ty := .int) (wq hw 470 rfl) (Fu) (X_m) (Or.inl (wq hw 471 rfl)) (wq hw 126 rfl) (by decide) rfl rfl (Safe.exa w.hZ.alike X_m (by decide) (by decide)) (ge_m0_Z) (d70 25 rfl) (pc' := 131)
 have X1 := X_m.wr W1
 have Ft1 := Ft.other W1 (Or.inr (own_mtt hw))
 have Fs1 := Fs.other W1 (Or.inr (own_mst hw))
 have Fc1 := Fc.other W1 (Or.inr (own_mum hw).symm)
 have B0 := extR h1
 replace w := w.iload (pc' := 133) (d70 26 rfl) rfl
 obtain ⟨h2, t, k_t, g_t, E2, V_t, X_t, O_t, A2, w⟩ := w.anew (cap := 16) (ad := "[Ljava/util/HashMap$Node;") (wq hw 477 rfl) (wq hw 478 rfl) (d70 27 rfl) (by decide) (by decide) (by decide) nle nle (pc' := 136)
 have ge_t_0 : h1.size ≤ t := Nat.le_trans B0.1 (Nat.le_of_eq g_t.symm)
 have V1 := V_t.pad (vs' := List.replicate 16 .null) (pad_rep [] .null 16)
 have X2 := X1.ext E2
 have ne : m0 ≠ t := Nat.ne_of_lt (Nat.lt_of_lt_of_le X1.lt ge_t_0)
 replace w := ((w.astore (L' := #[.val (.ref m0), .val .null, .val (.int (0 : Int32)), .val (.int (0 : Int32)), .val (.int (16 : Int32)), .val (.int (12 : Int32)), .val (.ref t), .unset, .unset, .unset, .unset, .unset, .unset, .unset]) (d70 28 rfl) rfl).aloadN (d70 29 rfl) rfl).aload (pc' := 141) (d70 30 rfl) rfl
 obtain ⟨h3, W3, K3, Fw3, A3, w⟩ := w.putF (ty := (.array (.object "java/util/HashMap$Node"))) (wq hw 297 rfl) (Ft1.ext E2) (X2) (Or.inl (wq hw 298 rfl)) (wq hw 126 rfl) (by decide) rfl rfl (Safe.exa w.hZ.alike X2 (by decide) (by decide)) (ge_m0_Z) (d70 31 rfl) (pc' := 144)
 replace w := ((w.aloadN (d70 32 rfl) rfl).ifnullYes (d70 33 rfl) ).aload (pc' := 355) (d70 34 rfl) rfl
 have KK := (((Keep.refl h0 [m0]).trans K1 (allS (Or.inl (List.mem_cons_self ..)) all0)).ext E2).trans K3 (allS (Or.inl (List.mem_cons_self ..)) all0)
 exact w.retA (d70 35 rfl) ⟨t, k_t, rfl, KK, Nat.le_trans (Keep.of_wr W1).1 ge_t_0, X2.wr W3, Fw3, (Fs1.ext E2).other W3 (Or.inr (own_mts hw).symm), (Fw1.ext E2).other W3 (Or.inr (own_mtt hw).symm), (Fc1.ext E2).other W3 (Or.inr (own_mtm hw).symm), V1.other W3 ne.symm, O_t⟩ nle nle
theorem own_15 {c : Int32} (h : ¬ c < 0 ∧ ¬ (255 : Int32) < c) : ¬ ((16 : Int32) - 1 &&& own_hs c) < 0 ∧ ((16 : Int32) - 1 &&& own_hs c) < 16 := by
 have e1 : (16 : Int32) - 1 = 15 := by decide
 have h1 := c_and' 15 (own_hs c) (by decide)
 have e15 : (15 : Int32).toInt = 15 := by decide
 have e16 : (16 : Int32).toInt = 16 := by decide
 have e0 : (0 : Int32).toInt = 0 := by decide
 rw [e1, Int32.lt_iff_toInt_lt, Int32.lt_iff_toInt_lt]; omega
/-- the bin of '--c' -/
def own_bin (c : Int32) : Nat := ((16 : Int32) - 1 &&& own_hs c).toNatClampNeg
theorem rmGND0 (l : Launch) (Z : State) (a0 : Array Value) (hw : HW Z a0) (hEL : EW Z a0 consts_1) (m0 x : Addr) (h0 : Heap) (hx : Ext Z.heap h0) (T : HM0 Z h0 m0) :
   Met l Z consts_1 mN56 jdk_69_method_13_code 8 (some (.object "java/util/HashMap$Node")) [] (rM 5 0 0 80) #[.ref m0, .ref x] h0 [] (fun v h => v = some .null ∧ h = h0) := by
 obtain ⟨X_m, Ft, Fs, Fu, Fc⟩ := T
 refine Met.of (a0 := a0) (by decide +kernel) hEL hx ?_
 intro p e s m below meth c S0 V w hs hsf
 replace w := ((((((w.to (g' := mkF m 0 #[.val (.ref m0), .val (.ref x), .unset, .unset, .unset, .unset, .unset, .unset] [])).aloadN (d43 0 rfl) rfl).getF (wq hw 297 rfl) Ft (d43 1 rfl)).dup (d43 2 rfl)).astoreN (L' := #[.val (.ref m0), .val (.ref x), .val .null, .unset, .unset, .unset, .unset, .unset]) (d43 3 rfl) rfl).ifnullYes (d43 4 rfl) ).aconstNull (pc' := 149) (d43 5 rfl)
 exact w.retA (d43 6 rfl) ⟨rfl, rfl⟩ nle nle
theorem HMt.keepS {Z : State} {h h' : Heap} {m0 t x : Addr} {k : ClassId} {tv : List Value} {sz mc : Int32} (K : Keep h h' [x]) (h1 : m0 ≠ x) (h2 : t ≠ x) (T : HMt Z h m0 t k tv sz mc) : HMt Z h' m0 t k tv sz mc := by
 obtain ⟨a1, a2, a3, a4, a5, a6, a7⟩ := T
 have n1 : m0 ∉ [x] := ninS h1 nin0
 exact ⟨a1.keep K, a2.keep K n1, a3.keep K n1, a4.keep K n1, a5.keep K n1, a6.keep K (ninS h2 nin0), a7⟩
theorem Nod.keepS {Z : State} {h h' : Heap} {n k v x : Addr} {hs : Int32} (K : Keep h h' [x]) (h1 : n ≠ x) (T : Nod Z h n hs k v) : Nod Z h' n hs k v := by
 have n1 : n ∉ [x] := ninS h1 nin0
 exact ⟨T.1.keep K, T.2.1.keep K n1, T.2.2.1.keep K n1, T.2.2.2.keep K n1⟩
theorem rmGNDm (l : Launch) (Z : State) (a0 : Array Value) (hw : HW Z a0) (hEL : EW Z a0 consts_1) (z0 : Int32) (Sc : SC Z z0) (hz0 : ¬ z0 = 0) (m0 t : Addr) (k : ClassId) (tv : List Value) (sz mc : Int32) (x : Addr) (c0 q : Int32) (hq : q = 0 ∨ q = own_hs c0) (h0 : Heap) (hx : Ext Z.heap h0) (S : StH Z h0 x [45, 45, c0] q) (hBt : ∀ t, Fld Z h0 x "java/lang/String" "value" "[B" (.ref t) → Ins Z h0 t "[B" true) (ge_x_Z : Z.heap.size ≤ x) (T : HMt Z h0 m0 t k tv sz mc) (hv : tv.getD (own_bin c0) .null = .null) :
   Met l Z consts_1 mN56 jdk_69_method_13_code 8 (some (.object "java/util/HashMap$Node")) [] (rM 5 0 0 80) #[.ref m0, .ref x] h0 [x] (fun v h => v = some .null ∧ Keep h0 h [x] ∧ StH Z h x [45, 45, c0] (own_hs c0)) := by
 have r0 := S.1.1 c0 (by simp)
 have hb := own_15 r0
 obtain ⟨X_m, Ft, Fs, Fu, Fc, A, O⟩ := T
 have ne : x ≠ t := Exa.neArv S.1.exa A (wq hw 1 rfl)
 refine Met.of (a0 := a0) (by decide +kernel) hEL hx ?_
 intro p e s m below meth c S0 V w hs hsf
 have Sx := hsf x (List.mem_cons_self ..)
 replace w := (((((((((((w.to (g' := mkF m 0 #[.val (.ref m0), .val (.ref x), .unset, .unset, .unset, .unset, .unset, .unset] [])).aloadN (d43 0 rfl) rfl).getF (wq hw 297 rfl) Ft (d43 1 rfl)).dup (d43 2 rfl)).astoreN (L' := #[.val (.ref m0), .val (.ref x), .val (.ref t), .unset, .unset, .unset, .unset, .unset]) (d43 3 rfl) rfl).ifnullNo (d43 4 rfl) ).aloadN (d43 7 rfl) rfl).arrlen A (d43 8 rfl)).dup (d43 9 rfl)).istore (L' := #[.val (.ref m0), .val (.ref x), .val (.ref t), .unset, .unset, .val (.int (16 : Int32)), .unset, .unset]) (d43 10 rfl) rfl).ifNo (d43 11 rfl) (by decide)).aloadN (pc' := 18) (d43 12 rfl) rfl
 replace w := (((w.iload (d43 13 rfl) rfl).iconst (1 : Int32) (d43 14 rfl)).isub (d43 15 rfl)).aloadN (pc' := 23) (d43 16 rfl) rfl
 obtain ⟨v1, V1, h1, hq1, A1, w⟩ := w.static (y' := mN5) (W := 2) (w.pays 2 (rmHSH l Z a0 hw hEL z0 Sc hz0 x c0 q hq h0 w.old S hBt ge_x_Z) (wq hw 441 rfl) (wq hw 127 rfl) (allS Sx all0) nle nle) (wq hw 439 rfl) (wq hw 440 rfl) (wq hw 127 rfl) (wq hw 441 rfl) (argsL := [(.ref x)]) (rest := [(.int ((16 : Int32) - (1 : Int32))), (.ref t)]) (by decide) pd_21 rfl rfl nlr rfl (d43 17 rfl) nle nle (pc' := 26)
 obtain ⟨rfl, K1, S1⟩ := hq1
 replace w := w.toS [(.int (own_hs c0)), (.int ((16 : Int32) - (1 : Int32))), (.ref t)]
 have A1' := A.keep K1 (ninS ne.symm nin0)
 replace w := (((((((w.dup (d43 18 rfl)).istore (L' := #[.val (.ref m0), .val (.ref x), .val (.ref t), .unset, .unset, .val (.int (16 : Int32)), .val (.int (own_hs c0)), .unset]) (d43 19 rfl) rfl).iand (d43 20 rfl)).aaload (v := .null) A1' (d43 21 rfl) ⟨hb.1, hb.2⟩ (hv)).dup (d43 22 rfl)).astoreN (L' := #[.val (.ref m0), .val (.ref x), .val (.ref t), .val .null, .unset, .val (.int (16 : Int32)), .val (.int (own_hs c0)), .unset]) (d43 23 rfl) rfl).ifnullYes (d43 24 rfl) ).aconstNull (pc' := 149) (d43 5 rfl)
 exact w.retA (d43 6 rfl) ⟨rfl, K1, S1⟩ nle nle
theorem rmGNDh (l : Launch) (Z : State) (a0 : Array Value) (hw : HW Z a0) (hEL : EW Z a0 consts_1) (z0 : Int32) (Sc : SC Z z0) (hz0 : ¬ z0 = 0) (m0 t n v0 : Addr) (k : ClassId) (tv : List Value) (sz mc : Int32) (x : Addr) (c0 q : Int32) (hq : q = 0 ∨ q = own_hs c0) (h0 : Heap) (hx : Ext Z.heap h0) (S : StH Z h0 x [45, 45, c0] q) (hBt : ∀ t, Fld Z h0 x "java/lang/String" "value" "[B" (.ref t) → Ins Z h0 t "[B" true) (ge_x_Z : Z.heap.size ≤ x) (T : HMt Z h0 m0 t k tv sz mc) (hv : tv.getD (own_bin c0) .null = .ref n) (N : Nod Z h0 n (own_hs c0) x v0) :
   Met l Z consts_1 mN56 jdk_69_method_13_code 8 (some (.object "java/util/HashMap$Node")) [] (rM 5 0 0 80) #[.ref m0, .ref x] h0 [x] (fun v h => v = some (.ref n) ∧ Keep h0 h [x] ∧ StH Z h x [45, 45, c0] (own_hs c0)) := by
 have r0 := S.1.1 c0 (by simp)
 have hb := own_15 r0
 obtain ⟨X_m, Ft, Fs, Fu, Fc, A, O⟩ := T
 have ne : x ≠ t := Exa.neArv S.1.exa A (wq hw 1 rfl)
 have ne2 : n ≠ x := Exa.ne N.1 S.1.exa (by decide)
 refine Met.of (a0 := a0) (by decide +kernel) hEL hx ?_
 intro p e s m below meth c S0 V w hs hsf
 have Sx := hsf x (List.mem_cons_self ..)
 replace w := (((((((((((w.to (g' := mkF m 0 #[.val (.ref m0), .val (.ref x), .unset, .unset, .unset, .unset, .unset, .unset] [])).aloadN (d43 0 rfl) rfl).getF (wq hw 297 rfl) Ft (d43 1 rfl)).dup (d43 2 rfl)).astoreN (L' := #[.val (.ref m0), .val (.ref x), .val (.ref t), .unset, .unset, .unset, .unset, .unset]) (d43 3 rfl) rfl).ifnullNo (d43 4 rfl) ).aloadN (d43 7 rfl) rfl).arrlen A (d43 8 rfl)).dup (d43 9 rfl)).istore (L' := #[.val (.ref m0), .val (.ref x), .val (.ref t), .unset, .unset, .val (.int (16 : Int32)), .unset, .unset]) (d43 10 rfl) rfl).ifNo (d43 11 rfl) (by decide)).aloadN (pc' := 18) (d43 12 rfl) rfl
 replace w := (((w.iload (d43 13 rfl) rfl).iconst (1 : Int32) (d43 14 rfl)).isub (d43 15 rfl)).aloadN (pc' := 23) (d43 16 rfl) rfl
 obtain ⟨v1, V1, h1, hq1, A1, w⟩ := w.static (y' := mN5) (W := 2) (w.pays 2 (rmHSH l Z a0 hw hEL z0 Sc hz0 x c0 q hq h0 w.old S hBt ge_x_Z) (wq hw 441 rfl) (wq hw 127 rfl) (allS Sx all0) nle nle) (wq hw 439 rfl) (wq hw 440 rfl) (wq hw 127 rfl) (wq hw 441 rfl) (argsL := [(.ref x)]) (rest := [(.int ((16 : Int32) - (1 : Int32))), (.ref t)]) (by decide) pd_21 rfl rfl nlr rfl (d43 17 rfl) nle nle (pc' := 26)
 obtain ⟨rfl, K1, S1⟩ := hq1
 replace w := w.toS [(.int (own_hs c0)), (.int ((16 : Int32) - (1 : Int32))), (.ref t)]
 have A1' := A.keep K1 (ninS ne.symm nin0)
 have N1 := N.keepS K1 ne2
 have Nh := N1.2.1
 have Nk := N1.2.2.1
 replace w := ((((((((((w.dup (d43 18 rfl)).istore (L' := #[.val (.ref m0), .val (.ref x), .val (.ref t), .unset, .unset, .val (.int (16 : Int32)), .val (.int (own_hs c0)), .unset]) (d43 19 rfl) rfl).iand (d43 20 rfl)).aaload (v := (.ref n)) A1' (d43 21 rfl) ⟨hb.1, hb.2⟩ (hv)).dup (d43 22 rfl)).astoreN (L' := #[.val (.ref m0), .val (.ref x), .val (.ref t), .val (.ref n), .unset, .val (.int (16 : Int32)), .val (.int (own_hs c0)), .unset]) (d43 23 rfl) rfl).ifnullNo (d43 24 rfl) ).aloadN (d43 25 rfl) rfl).getF (wq hw 513 rfl) Nh (d43 26 rfl)).iload (d43 27 rfl) rfl).icmpNo (pc' := 45) (d43 28 rfl) ((teq rfl).2)
 replace w := ((((((w.aloadN (d43 29 rfl) rfl).getF (wq hw 514 rfl) Nk (d43 30 rfl)).dup (d43 31 rfl)).astore (L' := #[.val (.ref m0), .val (.ref x), .val (.ref t), .val (.ref n), .unset, .val (.int (16 : Int32)), .val (.int (own_hs c0)), .val (.ref x)]) (d43 32 rfl) rfl).aloadN (d43 33 rfl) rfl).acmp true (d43 34 rfl) (decide_eq_true rfl)).aloadN (pc' := 70) (d43 35 rfl) rfl
 exact w.retA (d43 36 rfl) ⟨rfl, K1, S1⟩ nle nle
theorem rmHCK0 (l : Launch) (Z : State) (a0 : Array Value) (hw : HW Z a0) (hEL : EW Z a0 consts_1) (m0 x : Addr) (h0 : Heap) (hx : Ext Z.heap h0) (T : HM0 Z h0 m0) :
   Met l Z consts_1 mN57 jdk_69_method_14_code 2 (some .boolean) [] (rM 6 0 0 100) #[.ref m0, .ref x] h0 [] (fun v h => v = some (.int 0) ∧ h = h0) := by
 have X_m0 := T.1
 refine Met.of (a0 := a0) (by decide +kernel) hEL hx ?_
 intro p e s m below meth c S0 V w hs hsf
 replace w := ((w.to (g' := mkF m 0 #[.val (.ref m0), .val (.ref x)] [])).aloadN (d42 0 rfl) rfl).aloadN (pc' := 2) (d42 1 rfl) rfl
 obtain ⟨v1, V1, h1, hq1, A1, w⟩ := w.virt (y' := mN56) (W := 0) (C := "java/util/HashMap") (b := m0) (w.pays 0 (rmGND0 l Z a0 hw hEL m0 x h0 w.old T) (wq hw 296 rfl) (wq hw 127 rfl) all0 nle nle) (wq hw 292 rfl) (wq hw 293 rfl) (wq hw 295 rfl) (wq hw 294 rfl) (argsL := [(.ref x)]) (rest := []) (by decide) X_m0 pd_22 rfl rfl nlr rfl (d42 2 rfl) nle nle (pc' := 5)
 obtain ⟨rfl, he1⟩ := hq1
 replace w := w.toS [.null]
 replace he1 := he1.symm
 subst he1
 replace w := (w.ifnullYes (d42 3 rfl) ).iconst (pc' := 13) (0 : Int32) (d42 4 rfl)
 exact w.retN (d42 5 rfl) (by simp) ⟨rfl, rfl⟩ nle nle
theorem rmHCKm (l : Launch) (Z : State) (a0 : Array Value) (hw : HW Z a0) (hEL : EW Z a0 consts_1) (z0 : Int32) (Sc : SC Z z0) (hz0 : ¬ z0 = 0) (m0 t : Addr) (k : ClassId) (tv : List Value) (sz mc : Int32) (x : Addr) (c0 q : Int32) (hq : q = 0 ∨ q = own_hs c0) (h0 : Heap) (hx : Ext Z.heap h0) (S : StH Z h0 x [45, 45, c0] q) (hBt : ∀ t, Fld Z h0 x "java/lang/String" "value" "[B" (.ref t) → Ins Z h0 t "[B" true) (ge_x_Z : Z.heap.size ≤ x) (T : HMt Z h0 m0 t k tv sz mc) (hv : tv.getD (own_bin c0) .null = .null) :
   Met l Z consts_1 mN57 jdk_69_method_14_code 2 (some .boolean) [] (rM 6 0 0 100) #[.ref m0, .ref x] h0 [x] (fun v h => v = some (.int 0) ∧ Keep h0 h [x] ∧ StH Z h x [45, 45, c0] (own_hs c0)) := by
 have X_m0 := T.1
 refine Met.of (a0 := a0) (by decide +kernel) hEL hx ?_
 intro p e s m below meth c S0 V w hs hsf
 have Sx := hsf x (List.mem_cons_self ..)
 replace w := ((w.to (g' := mkF m 0 #[.val (.ref m0), .val (.ref x)] [])).aloadN (d42 0 rfl) rfl).aloadN (pc' := 2) (d42 1 rfl) rfl
 obtain ⟨v1, V1, h1, hq1, A1, w⟩ := w.virt (y' := mN56) (W := 0) (C := "java/util/HashMap") (b := m0) (w.pays 0 (rmGNDm l Z a0 hw hEL z0 Sc hz0 m0 t k tv sz mc x c0 q hq h0 w.old S hBt ge_x_Z T hv) (wq hw 296 rfl) (wq hw 127 rfl) (allS Sx all0) nle nle) (wq hw 292 rfl) (wq hw 293 rfl) (wq hw 295 rfl) (wq hw 294 rfl) (argsL := [(.ref x)]) (rest := []) (by decide) X_m0 pd_22 rfl rfl nlr rfl (d42 2 rfl) nle nle (pc' := 5)
 obtain ⟨rfl, K1, S1⟩ := hq1
 replace w := ((w.toS [.null]).ifnullYes (d42 3 rfl) ).iconst (pc' := 13) (0 : Int32) (d42 4 rfl)
 exact w.retN (d42 5 rfl) (by simp) ⟨rfl, K1, S1⟩ nle nle
theorem rmHCKh (l : Launch) (Z : State) (a0 : Array Value) (hw : HW Z a0) (hEL : EW Z a0 consts_1) (z0 : Int32) (Sc : SC Z z0) (hz0 : ¬ z0 = 0) (m0 t n v0 : Addr) (k : ClassId) (tv : List Value) (sz mc : Int32) (x : Addr) (c0 q : Int32) (hq : q = 0 ∨ q = own_hs c0) (h0 : Heap) (hx : Ext Z.heap h0) (S : StH Z h0 x [45, 45, c0] q) (hBt : ∀ t, Fld Z h0 x "java/lang/String" "value" "[B" (.ref t) → Ins Z h0 t "[B" true) (ge_x_Z : Z.heap.size ≤ x) (T : HMt Z h0 m0 t k tv sz mc) (hv : tv.getD (own_bin c0) .null = .ref n) (N : Nod Z h0 n (own_hs c0) x v0) :
   Met l Z consts_1 mN57 jdk_69_method_14_code 2 (some .boolean) [] (rM 6 0 0 100) #[.ref m0, .ref x] h0 [x] (fun v h => v = some (.int 1) ∧ Keep h0 h [x] ∧ StH Z h x [45, 45, c0] (own_hs c0)) := by
 have X_m0 := T.1
 refine Met.of (a0 := a0) (by decide +kernel) hEL hx ?_
 intro p e s m below meth c S0 V w hs hsf
 have Sx := hsf x (List.mem_cons_self ..)
 replace w := ((w.to (g' := mkF m 0 #[.val (.ref m0), .val (.ref x)] [])).aloadN (d42 0 rfl) rfl).aloadN (pc' := 2) (d42 1 rfl) rfl
 obtain ⟨v1, V1, h1, hq1, A1, w⟩ := w.virt (y' := mN56) (W := 0) (C := "java/util/HashMap") (b := m0) (w.pays 0 (rmGNDh l Z a0 hw hEL z0 Sc hz0 m0 t n v0 k tv sz mc x c0 q hq h0 w.old S hBt ge_x_Z T hv N) (wq hw 296 rfl) (wq hw 127 rfl) (allS Sx all0) nle nle) (wq hw 292 rfl) (wq hw 293 rfl) (wq hw 295 rfl) (wq hw 294 rfl) (argsL := [(.ref x)]) (rest := []) (by decide) X_m0 pd_22 rfl rfl nlr rfl (d42 2 rfl) nle nle (pc' := 5)
 obtain ⟨rfl, K1, S1⟩ := hq1
 replace w := (((w.toS [(.ref n)]).ifnullNo (d42 3 rfl) ).iconst (1 : Int32) (d42 6 rfl)).goto (pc' := 13) (d42 7 rfl)
 exact w.retN (d42 5 rfl) (by simp) ⟨rfl, K1, S1⟩ nle nle
theorem rmGOD0 (l : Launch) (Z : State) (a0 : Array Value) (hw : HW Z a0) (hEL : EW Z a0 consts_1) (m0 x dv : Addr) (h0 : Heap) (hx : Ext Z.heap h0) (T : HM0 Z h0 m0) :
   Met l Z consts_1 mN58 jdk_69_method_30_code 4 (some (.object "java/lang/Object")) [] (rM 6 0 0 100) #[.ref m0, .ref x, .ref dv] h0 [] (fun v h => v = some (.ref dv) ∧ h = h0) := by
 have X_m0 := T.1
 refine Met.of (a0 := a0) (by decide +kernel) hEL hx ?_
 intro p e s m below meth c S0 V w hs hsf
 replace w := ((w.to (g' := mkF m 0 #[.val (.ref m0), .val (.ref x), .val (.ref dv), .unset] [])).aloadN (d45 0 rfl) rfl).aloadN (pc' := 2) (d45 1 rfl) rfl
 obtain ⟨v1, V1, h1, hq1, A1, w⟩ := w.virt (y' := mN56) (W := 0) (C := "java/util/HashMap") (b := m0) (w.pays 0 (rmGND0 l Z a0 hw hEL m0 x h0 w.old T) (wq hw 296 rfl) (wq hw 127 rfl) all0 nle nle) (wq hw 292 rfl) (wq hw 293 rfl) (wq hw 295 rfl) (wq hw 294 rfl) (argsL := [(.ref x)]) (rest := []) (by decide) X_m0 pd_22 rfl rfl nlr rfl (d45 2 rfl) nle nle (pc' := 5)
 obtain ⟨rfl, he1⟩ := hq1
 replace w := w.toS [.null]
 replace he1 := he1.symm
 subst he1
 replace w := ((((w.dup (d45 3 rfl)).astoreN (L' := #[.val (.ref m0), .val (.ref x), .val (.ref dv), .val .null]) (d45 4 rfl) rfl).ifnonnullNo (d45 5 rfl) ).aloadN (d45 6 rfl) rfl).goto (pc' := 18) (d45 7 rfl)
 exact w.retA (d45 8 rfl) ⟨rfl, rfl⟩ nle nle
theorem rmGODm (l : Launch) (Z : State) (a0 : Array Value) (hw : HW Z a0) (hEL : EW Z a0 consts_1) (z0 : Int32) (Sc : SC Z z0) (hz0 : ¬ z0 = 0) (m0 t dv : Addr) (k : ClassId) (tv : List Value) (sz mc : Int32) (x : Addr) (c0 q : Int32) (hq : q = 0 ∨ q = own_hs c0) (h0 : Heap) (hx : Ext Z.heap h0) (S : StH Z h0 x [45, 45, c0] q) (hBt : ∀ t, Fld Z h0 x "java/lang/String" "value" "[B" (.ref t) → Ins Z h0 t "[B" true) (ge_x_Z : Z.heap.size ≤ x) (T : HMt Z h0 m0 t k tv sz mc) (hv : tv.getD (own_bin c0) .null = .null) :
   Met l Z consts_1 mN58 jdk_69_method_30_code 4 (some (.object "java/lang/Object")) [] (rM 6 0 0 100) #[.ref m0, .ref x, .ref dv] h0 [x] (fun v h => v = some (.ref dv) ∧ Keep h0 h [x] ∧ StH Z h x [45, 45, c0] (own_hs c0)) := by
 have X_m0 := T.1
 refine Met.of (a0 := a0) (by decide +kernel) hEL hx ?_
 intro p e s m below meth c S0 V w hs hsf
 have Sx := hsf x (List.mem_cons_self ..)
 replace w := ((w.to (g' := mkF m 0 #[.val (.ref m0), .val (.ref x), .val (.ref dv), .unset] [])).aloadN (d45 0 rfl) rfl).aloadN (pc' := 2) (d45 1 rfl) rfl
 obtain ⟨v1, V1, h1, hq1, A1, w⟩ := w.virt (y' := mN56) (W := 0) (C := "java/util/HashMap") (b := m0) (w.pays 0 (rmGNDm l Z a0 hw hEL z0 Sc hz0 m0 t k tv sz mc x c0 q hq h0 w.old S hBt ge_x_Z T hv) (wq hw 296 rfl) (wq hw 127 rfl) (allS Sx all0) nle nle) (wq hw 292 rfl) (wq hw 293 rfl) (wq hw 295 rfl) (wq hw 294 rfl) (argsL := [(.ref x)]) (rest := []) (by decide) X_m0 pd_22 rfl rfl nlr rfl (d45 2 rfl) nle nle (pc' := 5)
 obtain ⟨rfl, K1, S1⟩ := hq1
 replace w := (((((w.toS [.null]).dup (d45 3 rfl)).astoreN (L' := #[.val (.ref m0), .val (.ref x), .val (.ref dv), .val .null]) (d45 4 rfl) rfl).ifnonnullNo (d45 5 rfl) ).aloadN (d45 6 rfl) rfl).goto (pc' := 18) (d45 7 rfl)
 exact w.retA (d45 8 rfl) ⟨rfl, K1, S1⟩ nle nle
theorem rmGODh (l : Launch) (Z : State) (a0 : Array Value) (hw : HW Z a0) (hEL : EW Z a0 consts_1) (z0 : Int32) (Sc : SC Z z0) (hz0 : ¬ z0 = 0) (m0 t n v0 dv : Addr) (k : ClassId) (tv : List Value) (sz mc : Int32) (x : Addr) (c0 q : Int32) (hq : q = 0 ∨ q = own_hs c0) (h0 : Heap) (hx : Ext Z.heap h0) (S : StH Z h0 x [45, 45, c0] q) (hBt : ∀ t, Fld Z h0 x "java/lang/String" "value" "[B" (.ref t) → Ins Z h0 t "[B" true) (ge_x_Z : Z.heap.size ≤ x) (T : HMt Z h0 m0 t k tv sz mc) (hv : tv.getD (own_bin c0) .null = .ref n) (N : Nod Z h0 n (own_hs c0) x v0) :
   Met l Z consts_1 mN58 jdk_69_method_30_code 4 (some (.object "java/lang/Object")) [] (rM 6 0 0 100) #[.ref m0, .ref x, .ref dv] h0 [x] (fun v h => v = some (.ref v0) ∧ Keep h0 h [x] ∧ StH Z h x [45, 45, c0] (own_hs c0)) := by
 have X_m0 := T.1
 have ne2 : n ≠ x := Exa.ne N.1 S.1.exa (by decide)
 refine Met.of (a0 := a0) (by decide +kernel) hEL hx ?_
 intro p e s m below meth c S0 V w hs hsf
 have Sx := hsf x (List.mem_cons_self ..)
 replace w := ((w.to (g' := mkF m 0 #[.val (.ref m0), .val (.ref x), .val (.ref dv), .unset] [])).aloadN (d45 0 rfl) rfl).aloadN (pc' := 2) (d45 1 rfl) rfl
 obtain ⟨v1, V1, h1, hq1, A1, w⟩ := w.virt (y' := mN56) (W := 0) (C := "java/util/HashMap") (b := m0) (w.pays 0 (rmGNDh l Z a0 hw hEL z0 Sc hz0 m0 t n v0 k tv sz mc x c0 q hq h0 w.old S hBt ge_x_Z T hv N) (wq hw 296 rfl) (wq hw 127 rfl) (allS Sx all0) nle nle) (wq hw 292 rfl) (wq hw 293 rfl) (wq hw 295 rfl) (wq hw 294 rfl) (argsL := [(.ref x)]) (rest := []) (by decide) X_m0 pd_22 rfl rfl nlr rfl (d45 2 rfl) nle nle (pc' := 5)
 obtain ⟨rfl, K1, S1⟩ := hq1
 replace w := w.toS [(.ref n)]
 have N1 := N.keepS K1 ne2
 have Nv := N1.2.2.2
 replace w := ((((w.dup (d45 3 rfl)).astoreN (L' := #[.val (.ref m0), .val (.ref x), .val (.ref dv), .val (.ref n)]) (d45 4 rfl) rfl).ifnonnullYes (d45 5 rfl) ).aloadN (d45 9 rfl) rfl).getF (wq hw 515 rfl) Nv (d45 10 rfl) (pc' := 18)
 exact w.retA (d45 8 rfl) ⟨rfl, K1, S1⟩ nle nle
theorem rmLOA1 (l : Launch) (Z : State) (a0 : Array Value) (hw : HW Z a0) (hEL : EW Z a0 consts_1) (em : Addr) (Se : Sta Z Z.heap "java/util/ImmutableCollections" "EMPTY" "Ljava/lang/Object;" (.ref em)) (d : Addr) (kd : ClassId) (x : Addr) (h0 : Heap) (hx : Ext Z.heap h0) (A : Arv Z h0 d kd (.object "java/lang/Object") 1 [.ref x] .null) :
   Met l Z consts_1 mN59 jdk_40_method_47_code 2 (some (.object "java/util/List")) [] (rM 8 3 20 120) #[.ref d] h0 [] (fun v h => ∃ b, v = some (.ref b) ∧ Ext h0 h ∧ IL Z h em b [.ref x]) := by
 refine Met.of (a0 := a0) (by decide +kernel) hEL hx ?_
 intro p e s m below meth c S0 V w hs hsf
 replace w := w.to (g' := mkF m 0 #[.val (.ref d), .unset] [])
 have BZ := w.old
 have B0 := extR h0
 replace w := ((w.aloadN (d78 0 rfl) rfl).arrlen A (d78 1 rfl)).tswIn (d78 2 rfl) (by rw [show (1 : Int32).toInt = 1 from by decide]; decide) (by rw [show (1 : Int32).toInt = 1 from by decide]; rfl) (by decide) (pc' := 34) (by decide)
 obtain ⟨h1, b, g_b, E1, X_b, D_b, S_b, A1, w⟩ := w.new (wq hw 531 rfl) (wq hw 532 rfl) (wq hw 533 rfl) (d78 3 rfl) nle nle (pc' := 37)
 have ge_b_Z : Z.heap.size ≤ b := Nat.le_trans BZ.1 (Nat.le_of_eq g_b.symm)
 have ge_b_0 : h0.size ≤ b := Nat.le_trans B0.1 (Nat.le_of_eq g_b.symm)
 have F_b_e0 := D_b (Or.inr (wq hw 549 rfl)) (ty := (.object "java/lang/Object")) (by decide)
 have F_b_e1 := D_b (Or.inr (wq hw 552 rfl)) (ty := (.object "java/lang/Object")) (by decide)
 have B0 := extT B0 E1
 have A1' := A.ext B0
 replace w := (((w.dup (d78 4 rfl)).aloadN (d78 5 rfl) rfl).iconst (0 : Int32) (d78 6 rfl)).aaload (v := (.ref x)) A1' (d78 7 rfl) ⟨by decide, by decide⟩ (rfl) (pc' := 41)
 obtain ⟨v2, V2, h2, hq2, A2, w⟩ := w.ctor (y' := mN37) (W := 1) (a := b) (w.pays 1 (rmL1i l Z a0 hw hEL em Se b x h1 w.old X_b F_b_e0 F_b_e1 ge_b_Z) (wq hw 537 rfl) (wq hw 533 rfl) all0 nle nle) rfl (wq hw 534 rfl) (wq hw 535 rfl) (wq hw 537 rfl) (argsL := [(.ref x)]) (rest := [(.ref b)]) (by decide) pd_23 rfl rfl nlr rfl (d78 8 rfl) nle nle (pc' := 44)
 obtain ⟨rfl, K2, T⟩ := hq2
 replace w := w.toS [(.ref b)]
 have B0 := extK B0 K2 (allS ge_b_0 all0)
 exact w.retA (d78 9 rfl) ⟨b, rfl, B0, T⟩ nle nle
theorem rmLOA2 (l : Launch) (Z : State) (a0 : Array Value) (hw : HW Z a0) (hEL : EW Z a0 consts_1) (em : Addr) (Se : Sta Z Z.heap "java/util/ImmutableCollections" "EMPTY" "Ljava/lang/Object;" (.ref em)) (d : Addr) (kd : ClassId) (x x2 : Addr) (hne : x2 ≠ em) (h0 : Heap) (hx : Ext Z.heap h0) (A : Arv Z h0 d kd (.object "java/lang/Object") 2 [.ref x, .ref x2] .null) :
   Met l Z consts_1 mN59 jdk_40_method_47_code 2 (some (.object "java/util/List")) [] (rM 8 3 20 120) #[.ref d] h0 [] (fun v h => ∃ b, v = some (.ref b) ∧ Ext h0 h ∧ IL Z h em b [.ref x, .ref x2]) := by
 refine Met.of (a0 := a0) (by decide +kernel) hEL hx ?_
 intro p e s m below meth c S0 V w hs hsf
 replace w := w.to (g' := mkF m 0 #[.val (.ref d), .unset] [])
 have BZ := w.old
 have B0 := extR h0
 replace w := ((w.aloadN (d78 0 rfl) rfl).arrlen A (d78 1 rfl)).tswIn (d78 2 rfl) (by rw [show (2 : Int32).toInt = 2 from by decide]; decide) (by rw [show (2 : Int32).toInt = 2 from by decide]; rfl) (by decide) (pc' := 45) (by decide)
 obtain ⟨h1, b, g_b, E1, X_b, D_b, S_b, A1, w⟩ := w.new (wq hw 531 rfl) (wq hw 532 rfl) (wq hw 533 rfl) (d78 10 rfl) nle nle (pc' := 48)
 have ge_b_Z : Z.heap.size ≤ b := Nat.le_trans BZ.1 (Nat.le_of_eq g_b.symm)
 have ge_b_0 : h0.size ≤ b := Nat.le_trans B0.1 (Nat.le_of_eq g_b.symm)
 have F_b_e0 := D_b (Or.inr (wq hw 549 rfl)) (ty := (.object "java/lang/Object")) (by decide)
 have F_b_e1 := D_b (Or.inr (wq hw 552 rfl)) (ty := (.object "java/lang/Object")) (by decide)
 have B0 := extT B0 E1
 have A1' := A.ext B0
 replace w := ((((((w.dup (d78 11 rfl)).aloadN (d78 12 rfl) rfl).iconst (0 : Int32) (d78 13 rfl)).aaload (v := (.ref x)) A1' (d78 14 rfl) ⟨by decide, by decide⟩ (rfl)).aloadN (d78 15 rfl) rfl).iconst (1 : Int32) (d78 16 rfl)).aaload (v := (.ref x2)) A1' (d78 17 rfl) ⟨by decide, by decide⟩ (rfl) (pc' := 55)
 obtain ⟨v2, V2, h2, hq2, A2, w⟩ := w.ctor (y' := mN38) (W := 1) (a := b) (w.pays 1 (rmL2i l Z a0 hw hEL em b x x2 hne h1 w.old X_b F_b_e0 F_b_e1 ge_b_Z) (wq hw 570 rfl) (wq hw 533 rfl) all0 nle nle) rfl (wq hw 568 rfl) (wq hw 569 rfl) (wq hw 570 rfl) (argsL := [(.ref x), (.ref x2)]) (rest := [(.ref b)]) (by decide) pd_16 rfl rfl nlr rfl (d78 18 rfl) nle nle (pc' := 58)
 obtain ⟨rfl, K2, T⟩ := hq2
 replace w := w.toS [(.ref b)]
 have B0 := extK B0 K2 (allS ge_b_0 all0)
 exact w.retA (d78 19 rfl) ⟨b, rfl, B0, T⟩ nle nle
theorem pn_13 : plainName "java/util/AbstractCollection" = true := by first | (simp [plainName, overriddenIn]; done) | decide +kernel
theorem ef_13 (m : MethodId) (x0 : Addr) : entryFrame m #[(.ref x0)] 1 = mkF m 0 #[.val (.ref x0)] [] := by first | (simp [entryFrame, mkF, argsToLocals, Value.category]; done) | rfl
def Q13 (Z : State) (a1 : Addr) (h0 : Heap) (n0 : Nat) (v : Option Value) (h : Heap) (L : List Loc) : Prop := v = none ∧ Fr n0 L ∧ h = h0
set_option maxHeartbeats 40000000 in
theorem rm13 (l : Launch) (Z : State) (a0 : Array Value) (hw : HW Z a0) (ws : List Jvm.Cond) (a1 : Addr) (h0 : Heap) (n0 : Nat) (Z0 : n0 ≤ h0.size) :
   MetFree l (⟨"java/util/AbstractCollection", "<init>", "()V"⟩ : MethodName) (head1 (Jvm.Cond.code (⟨"java/util/AbstractCollection", "<init>", "()V"⟩ : MethodName) jdk_22_method_1_code 1 none :: ws) ({ frames := 1, cells := 0, slots := 0, locals := 12 } : Room)) (fun a U => a = #[(.ref a1)] ∧ Z.Warmed39 U.vm ∧ U.heap = h0) (fun _ _ _ _ _ => True) (fun _ U o U' => ∃ v L, o = .returned v ∧ Q13 Z a1 h0 n0 v U'.heap L ∧ FrameEnd U o U' L ({ frames := 1, cells := 0, slots := 0, locals := 12 } : Room).cells ({ frames := 1, cells := 0, slots := 0, locals := 12 } : Room).slots) := by
 refine MetFree.of_bodySF (plainFor_of_name pn_13) hisR ?_
 intro p e s m args below meth c s₁ Bd hml0 hP hK
 obtain ⟨rfl, hZ, hh⟩ := hP
 have hx := Bd.exec
 have hby := Bd.bytes
 have hml : c.maxLocals = 1 := hml0
 have hown : s.vm.findClass "java/util/AbstractCollection" = some m.cls := findClass_of_methodNamed Bd.named
 have hnm := (name_of_methodNamed Bd.named Bd.method).1
 have X0 : Stand p l e ({ frames := 1, cells := 0, slots := 0, locals := 12 } : Room) s m #[(.ref a1)] below meth c s₁ [] 0 0 := Stand.of_body Bd
 have e0 : s₁.heap = h0 := by rw [← hh, Bd.state]; rfl
 have N0 := Fr.nil n0
 have pre0 : ∀ t, Steps p.tables e below (s₁.setTop (mkF m 0 #[.val (.ref a1)] [])) t → Steps p.tables e below (s₁.setTop (entryFrame m #[(.ref a1)] 1)) t := fun t k => castTop (ef_13 m a1) k
 obtain ⟨T2, X2, e2, st2⟩ := initO X0 hx hZ hown (hw _ (List.mem_of_getElem? (i := 62) rfl)) (hw _ (List.mem_of_getElem? (i := 12) rfl)) (hw _ (List.mem_of_getElem? (i := 13) rfl)) e0 (g := (mkF m 1 #[.val (.ref a1)] [(.ref a1)])) rfl (by rw [hml]; rfl) rfl (hb hby (d13 1 rfl)) (by decide) (W := 0) (by show 2 * 0 + _ ≤ _; exact Nat.le_of_eq rfl) (by decide)
 obtain ⟨fs, hr, hrun, hended, hW, hsame⟩ := X2.leave (v := none) (fun _ => rfl)
 refine ⟨_, _, pre0 _ ?_, hrun, hended, _, _, rfl, ?_, ⟨_, rfl⟩, hW, hsame.mono (by decide) (by decide)⟩
 · show Steps p.tables e below (s₁.setTop (mkF m 0 #[.val (.ref a1)] [])) _
   refine XS.aloadN X0.here hx rfl (hb hby (d13 0 rfl)) rfl rfl ?_
   show Steps p.tables e below (s₁.setTop (mkF m 1 #[.val (.ref a1)] [(.ref a1)])) _
   refine st2 _ ?_
   show Steps p.tables e below (T2.setTop (mkF m 4 #[.val (.ref a1)] [])) _
   exact X2.returnOut hx Bd.returns (hb hby (d13 2 rfl)) hr
 · show Q13 Z a1 h0 n0 _ T2.heap _
   rw [e2]
   exact ⟨rfl, N0, rfl⟩

theorem pn_12 : plainName "java/util/AbstractList" = true := by first | (simp [plainName, overriddenIn]; done) | decide +kernel
theorem pd_12_2 : parseMethodDescriptor "()V" = some ⟨[], none⟩ := by decide +kernel
theorem ef_12 (m : MethodId) (x0 : Addr) : entryFrame m #[(.ref x0)] 1 = mkF m 0 #[.val (.ref x0)] [] := by first | (simp [entryFrame, mkF, argsToLocals, Value.category]; done) | rfl
def Q12 (Z : State) (a1 : Addr) (u_modCount_a1 : Value) (h0 : Heap) (n0 : Nat) (v : Option Value) (h : Heap) (L : List Loc) : Prop := v = none ∧ Fr n0 L ∧ ∃ sl, Wr h0 h a1 sl (.int 0) ∧ sl = RoadKit.slotOf Z "java/util/AbstractList" "modCount" "I" ∧ Fld Z h a1 "java/util/AbstractList" "modCount" "I" (.int 0)
set_option maxHeartbeats 40000000 in
theorem rm12 (l : Launch) (Z : State) (a0 : Array Value) (hw : HW Z a0) (ws : List Jvm.Cond) (a1 : Addr) (u_modCount_a1 : Value) (h0 : Heap) (n0 : Nat) (Z0 : n0 ≤ h0.size) (E_a1 : Exa Z h0 a1 "java/util/ArrayList") (F_modCount_a1 : Fld Z h0 a1 "java/util/AbstractList" "modCount" "I" u_modCount_a1) (g_a1 : n0 ≤ a1) :
   MetFree l (⟨"java/util/AbstractList", "<init>", "()V"⟩ : MethodName) (head1 (Jvm.Cond.code (⟨"java/util/AbstractList", "<init>", "()V"⟩ : MethodName) jdk_39_method_1_code 1 none :: ws) ({ frames := 2, cells := 0, slots := 0, locals := 26 } : Room)) (fun a U => a = #[(.ref a1)] ∧ Z.Warmed39 U.vm ∧ U.heap = h0) (fun _ _ _ _ _ => True) (fun _ U o U' => ∃ v L, o = .returned v ∧ Q12 Z a1 u_modCount_a1 h0 n0 v U'.heap L ∧ FrameEnd U o U' L ({ frames := 2, cells := 0, slots := 0, locals := 26 } : Room).cells ({ frames := 2, cells := 0, slots := 0, locals := 26 } : Room).slots) := by
 refine MetFree.of_bodySF (plainFor_of_name pn_12) hisR ?_
 intro p e s m args below meth c s₁ Bd hml0 hP hK
 obtain ⟨rfl, hZ, hh⟩ := hP
 have hx := Bd.exec
 have hby := Bd.bytes
 have hml : c.maxLocals = 1 := hml0
 have hown : s.vm.findClass "java/util/AbstractList" = some m.cls := findClass_of_methodNamed Bd.named
 have hnm := (name_of_methodNamed Bd.named Bd.method).1
 have X0 : Stand p l e ({ frames := 2, cells := 0, slots := 0, locals := 26 } : Room) s m #[(.ref a1)] below meth c s₁ [] 0 0 := Stand.of_body Bd
 have e0 : s₁.heap = h0 := by rw [← hh, Bd.state]; rfl
 have N0 := Fr.nil n0
 have pre0 : ∀ t, Steps p.tables e below (s₁.setTop (mkF m 0 #[.val (.ref a1)] [])) t → Steps p.tables e below (s₁.setTop (entryFrame m #[(.ref a1)] 1)) t := fun t k => castTop (ef_12 m a1) k
 obtain ⟨_, _, ⟨T2, L2, k2, n2⟩, -, X2, ⟨Lc2, hQ2, l2, y2, z2⟩, st2⟩ := X0.specialBack hx (y := (⟨"java/util/AbstractCollection", "<init>", "()V"⟩ : MethodName)) rfl hown (mvT hZ (hw _ (List.mem_of_getElem? (i := 56) rfl))) (mvT hZ (hw _ (List.mem_of_getElem? (i := 57) rfl))) (mvT hZ (hw _ (List.mem_of_getElem? (i := 61) rfl))) (by decide) (backOf (W := 0) (rm13 l Z a0 hw [] a1 h0 n0 Z0) hZ (hw _ (List.mem_of_getElem? (i := 61) rfl)) (hw _ (List.mem_of_getElem? (i := 60) rfl)) (by decide) (by decide)) (g := (mkF m 1 #[.val (.ref a1)] [(.ref a1)])) rfl (by rw [hml]; rfl) (Steps.refl _) (a := a1) (argsL := []) (rest := []) (lenOf pd_12_2 rfl) rfl (by show 2 * 0 + _ ≤ _; exact Nat.le_of_eq rfl) (hb hby (d12 1 rfl)) (fun _ _ => ⟨rfl, e0, (by decide : 0 + 0 ≤ _), (by decide : 0 + 0 ≤ _)⟩)
 dsimp only [Pt.U, Pt.locs, Pt.cells, Pt.slots] at X2 l2 y2 z2 st2 hQ2
 subst l2 y2 z2
 obtain ⟨rfl, N2q, e2⟩ := hQ2
 have N2 := Fr.app N0 N2q
 obtain ⟨T3, h3, X3, e3, W3, st3⟩ := putF X2 hx hZ hown (host := "") (Or.inl (hw _ (List.mem_of_getElem? (i := 63) rfl))) Via.refl e2 F_modCount_a1 E_a1 (Or.inl (wq hw 64 rfl)) (wq hw 45 rfl) (ty := .int) (by decide) rfl rfl (g := (mkF m 6 #[.val (.ref a1)] [(.int (0 : Int32)), (.ref a1)])) rfl rfl (hb hby (d12 4 rfl))
 have Fw3 := F_modCount_a1.same W3
 have K3 : Keep h0 h3 [a1] := (Keep.refl h0 [a1]).wr W3 (Or.inl (List.mem_of_getElem? (i := 0) rfl))
 have N3 := Fr.snoc X3 N2 g_a1
 obtain ⟨fs, hr, hrun, hended, hW, hsame⟩ := X3.leave (v := none) (fun _ => rfl)
 refine ⟨_, _, pre0 _ ?_, hrun, hended, _, _, rfl, ?_, ⟨_, rfl⟩, hW, hsame.mono (by decide) (by decide)⟩
 · show Steps p.tables e below (s₁.setTop (mkF m 0 #[.val (.ref a1)] [])) _
   refine XS.aloadN X0.here hx rfl (hb hby (d12 0 rfl)) rfl rfl ?_
   show Steps p.tables e below (s₁.setTop (mkF m 1 #[.val (.ref a1)] [(.ref a1)])) _
   refine st2.trans ?_
   show Steps p.tables e below (T2.setTop (mkF m 4 #[.val (.ref a1)] [])) _
   refine XS.aloadN X2.here hx rfl (hb hby (d12 2 rfl)) rfl rfl ?_
   show Steps p.tables e below (T2.setTop (mkF m 5 #[.val (.ref a1)] [(.ref a1)])) _
   refine XS.iconst X2.here hx rfl (hb hby (d12 3 rfl)) ?_
   show Steps p.tables e below (T2.setTop (mkF m 6 #[.val (.ref a1)] [(.int (0 : Int32)), (.ref a1)])) _
   refine st3 _ ?_
   show Steps p.tables e below (T3.setTop (mkF m 9 #[.val (.ref a1)] [])) _
   exact X3.returnOut hx Bd.returns (hb hby (d12 5 rfl)) hr
 · show Q12 Z a1 u_modCount_a1 h0 n0 _ T3.heap _
   rw [e3]
   exact ⟨rfl, N3, _, W3, rfl, Fw3⟩

theorem pn_11 : plainName "java/util/ArrayList" = true := by first | (simp [plainName, overriddenIn]; done) | decide +kernel
theorem pd_11_2 : parseMethodDescriptor "()V" = some ⟨[], none⟩ := by decide +kernel
theorem ef_11 (m : MethodId) (x0 : Addr) : entryFrame m #[(.ref x0)] 1 = mkF m 0 #[.val (.ref x0)] [] := by first | (simp [entryFrame, mkF, argsToLocals, Value.category]; done) | rfl
def Q11 (Z : State) (a1 : Addr) (w3 : Addr) (u_elementData_a1 : Value) (h0 : Heap) (n0 : Nat) (v : Option Value) (h : Heap) (L : List Loc) : Prop := v = none ∧ Fr n0 L ∧ Keep h0 h [a1] ∧ AL0 Z h a1 w3 0
set_option maxHeartbeats 40000000 in
theorem rm11 (l : Launch) (Z : State) (a0 : Array Value) (hw : HW Z a0) (ws : List Jvm.Cond) (a1 : Addr) (w3 : Addr) (u_elementData_a1 : Value) (h0 : Heap) (n0 : Nat) (Z0 : n0 ≤ h0.size) (S_DEFAULTCAPACITY_EMPTY_ELEMENTDATA : ∀ h, h0.size ≤ h.size → Keep h0 h [a1] → Sta Z h "java/util/ArrayList" "DEFAULTCAPACITY_EMPTY_ELEMENTDATA" "[Ljava/lang/Object;" (.ref w3)) (hnw : w3 ≠ a1) (E_a1 : Exa Z h0 a1 "java/util/ArrayList") (Fm : Fld Z h0 a1 "java/util/AbstractList" "modCount" "I" (.int 0)) (Fs : Fld Z h0 a1 "java/util/ArrayList" "size" "I" (.int 0)) (F_elementData_a1 : Fld Z h0 a1 "java/util/ArrayList" "elementData" "[Ljava/lang/Object;" u_elementData_a1) (g_a1 : n0 ≤ a1) :
   MetFree l (⟨"java/util/ArrayList", "<init>", "()V"⟩ : MethodName) (head1 (Jvm.Cond.code (⟨"java/util/ArrayList", "<init>", "()V"⟩ : MethodName) jdk_38_method_2_code 1 none :: ws) ({ frames := 3, cells := 0, slots := 0, locals := 40 } : Room)) (fun a U => a = #[(.ref a1)] ∧ Z.Warmed39 U.vm ∧ U.heap = h0) (fun _ _ _ _ _ => True) (fun _ U o U' => ∃ v L, o = .returned v ∧ Q11 Z a1 w3 u_elementData_a1 h0 n0 v U'.heap L ∧ FrameEnd U o U' L ({ frames := 3, cells := 0, slots := 0, locals := 40 } : Room).cells ({ frames := 3, cells := 0, slots := 0, locals := 40 } : Room).slots) := by
 refine MetFree.of_bodySF (plainFor_of_name pn_11) hisR ?_
 intro p e s m args below meth c s₁ Bd hml0 hP hK
 obtain ⟨rfl, hZ, hh⟩ := hP
 have hx := Bd.exec
 have hby := Bd.bytes
 have hml : c.maxLocals = 1 := hml0
 have hown : s.vm.findClass "java/util/ArrayList" = some m.cls := findClass_of_methodNamed Bd.named
 have hnm := (name_of_methodNamed Bd.named Bd.method).1
 have X0 : Stand p l e ({ frames := 3, cells := 0, slots := 0, locals := 40 } : Room) s m #[(.ref a1)] below meth c s₁ [] 0 0 := Stand.of_body Bd
 have e0 : s₁.heap = h0 := by rw [← hh, Bd.state]; rfl
 have N0 := Fr.nil n0
 have pre0 : ∀ t, Steps p.tables e below (s₁.setTop (mkF m 0 #[.val (.ref a1)] [])) t → Steps p.tables e below (s₁.setTop (entryFrame m #[(.ref a1)] 1)) t := fun t k => castTop (ef_11 m a1) k
 obtain ⟨_, _, ⟨T2, L2, k2, n2⟩, -, X2, ⟨Lc2, hQ2, l2, y2, z2⟩, st2⟩ := X0.specialBack hx (y := (⟨"java/util/AbstractList", "<init>", "()V"⟩ : MethodName)) rfl hown (mvT hZ (hw _ (List.mem_of_getElem? (i := 50) rfl))) (mvT hZ (hw _ (List.mem_of_getElem? (i := 51) rfl))) (mvT hZ (hw _ (List.mem_of_getElem? (i := 55) rfl))) (by decide) (backOf (W := 0) (rm12 l Z a0 hw [] a1 _ h0 n0 Z0 E_a1 Fm g_a1) hZ (hw _ (List.mem_of_getElem? (i := 55) rfl)) (hw _ (List.mem_of_getElem? (i := 54) rfl)) (by decide) (by decide)) (g := (mkF m 1 #[.val (.ref a1)] [(.ref a1)])) rfl (by rw [hml]; rfl) (Steps.refl _) (a := a1) (argsL := []) (rest := []) (lenOf pd_11_2 rfl) rfl (by show 2 * 0 + _ ≤ _; exact Nat.le_of_eq rfl) (hb hby (d11 1 rfl)) (fun _ _ => ⟨rfl, e0, (by decide : 0 + 0 ≤ _), (by decide : 0 + 0 ≤ _)⟩)
 dsimp only [Pt.U, Pt.locs, Pt.cells, Pt.slots] at X2 l2 y2 z2 st2 hQ2
 subst l2 y2 z2
 obtain ⟨rfl, N2q, sl2, W2, hsl2, Fm2⟩ := hQ2
 subst hsl2
 have N2 := Fr.app N0 N2q
 have K2 := Keep.of_wr W2
 have E2' := E_a1.wr W2
 have Fe2 := F_elementData_a1.other W2 (Or.inr (own_aem hw))
 have Fs2 := Fs.other W2 (Or.inr (own_asm hw))
 obtain ⟨T4, X4, e4, st4⟩ := getS2 X2 hx hZ hown (host := "") (Or.inl (hw _ (List.mem_of_getElem? (i := 65) rfl))) Via.refl rfl (S_DEFAULTCAPACITY_EMPTY_ELEMENTDATA _ K2.1 K2) (g := (mkF m 5 #[.val (.ref a1)] [(.ref a1)])) rfl (hb hby (d11 3 rfl))
 obtain ⟨T5, h5, X5, e5, W5, st5⟩ := putF X4 hx hZ hown (host := "") (Or.inl (hw _ (List.mem_of_getElem? (i := 66) rfl))) Via.refl e4 Fe2 E2' (Or.inl (hw _ (List.mem_of_getElem? (i := 67) rfl))) (hw _ (List.mem_of_getElem? (i := 45) rfl)) (ty := (.array (.object "java/lang/Object"))) (by decide) rfl rfl (g := (mkF m 8 #[.val (.ref a1)] [(.ref w3), (.ref a1)])) rfl rfl (hb hby (d11 4 rfl))
 have Fw5 := Fe2.same W5
 have K5 : Keep h0 h5 [a1] := K2.wr W5 (Or.inl (List.mem_of_getElem? (i := 0) rfl))
 have N5 := Fr.snoc X5 N2 g_a1
 obtain ⟨fs, hr, hrun, hended, hW, hsame⟩ := X5.leave (v := none) (fun _ => rfl)
 refine ⟨_, _, pre0 _ ?_, hrun, hended, _, _, rfl, ?_, ⟨_, rfl⟩, hW, hsame.mono (by decide) (by decide)⟩
 · show Steps p.tables e below (s₁.setTop (mkF m 0 #[.val (.ref a1)] [])) _
   refine XS.aloadN X0.here hx rfl (hb hby (d11 0 rfl)) rfl rfl ?_
   show Steps p.tables e below (s₁.setTop (mkF m 1 #[.val (.ref a1)] [(.ref a1)])) _
   refine st2.trans ?_
   show Steps p.tables e below (T2.setTop (mkF m 4 #[.val (.ref a1)] [])) _
   refine XS.aloadN X2.here hx rfl (hb hby (d11 2 rfl)) rfl rfl ?_
   show Steps p.tables e below (T2.setTop (mkF m 5 #[.val (.ref a1)] [(.ref a1)])) _
   refine st4 _ ?_
   show Steps p.tables e below (T4.setTop (mkF m 8 #[.val (.ref a1)] [(.ref w3), (.ref a1)])) _
   refine st5 _ ?_
   show Steps p.tables e below (T5.setTop (mkF m 11 #[.val (.ref a1)] [])) _
   exact X5.returnOut hx Bd.returns (hb hby (d11 5 rfl)) hr
 · show Q11 Z a1 w3 u_elementData_a1 h0 n0 _ T5.heap _
   rw [e5]
   exact ⟨rfl, N5, K5, E2'.wr W5, Fw5, Fs2.other W5 (Or.inr (own_aes hw).symm), Fm2.other W5 (Or.inr (own_aem hw).symm)⟩

theorem d71_0 : decode prog_16_method_19_code 0 = .ok (.new 37, 3) := by decide +kernel
theorem d71_3 : decode prog_16_method_19_code 3 = .ok (.dup, 1) := by decide +kernel
theorem d71_4 : decode prog_16_method_19_code 4 = .ok (.invokespecial 39, 3) := by decide +kernel
theorem d71_7 : decode prog_16_method_19_code 7 = .ok (.areturn, 1) := by decide +kernel
theorem pn_71 : plainName "com/example/keyturn/keyturn/Options" = true := by first | (simp [plainName, overriddenIn]; done) | decide +kernel
theorem pd_71_2 : parseMethodDescriptor "()V" = some ⟨[], none⟩ := by decide +kernel
theorem ef_71 (m : MethodId) (x0 : Addr) : entryFrame m #[(.ref x0)] 1 = mkF m 0 #[.val (.ref x0)] [] := by first | (simp [entryFrame, mkF, argsToLocals, Value.category]; done) | rfl
def Q71 (Z : State) (a1 dc : Addr) (h0 : Heap) (n0 : Nat) (v : Option Value) (h : Heap) (L : List Loc) : Prop := ∃ b2, v = some (.ref b2) ∧ Fr n0 L ∧ Ext h0 h ∧ h0.size ≤ b2 ∧ AL0 Z h b2 dc 0
set_option maxHeartbeats 40000000 in
theorem rm71 (l : Launch) (Z : State) (a0 : Array Value) (hw : HW Z a0) (ws : List Jvm.Cond) (a1 dc : Addr) (h0 : Heap) (n0 : Nat) (Z0 : n0 ≤ h0.size) (Sd : ∀ h, Ext h0 h → Sta Z h "java/util/ArrayList" "DEFAULTCAPACITY_EMPTY_ELEMENTDATA" "[Ljava/lang/Object;" (.ref dc)) (hdc : dc < h0.size) :
   MetFree l (⟨"com/example/keyturn/keyturn/Options", "lambda$parse$0", "(Ljava/lang/String;)Ljava/util/List;"⟩ : MethodName) (head1 (Jvm.Cond.code (⟨"com/example/keyturn/keyturn/Options", "lambda$parse$0", "(Ljava/lang/String;)Ljava/util/List;"⟩ : MethodName) prog_16_method_19_code 1 (some (.object "java/util/List")) :: ws) ({ frames := 4, cells := 1, slots := 3, locals := 60 } : Room)) (fun a U => a = #[(.ref a1)] ∧ Z.Warmed39 U.vm ∧ U.heap = h0) (fun _ _ _ _ _ => True) (fun _ U o U' => ∃ v L, o = .returned v ∧ Q71 Z a1 dc h0 n0 v U'.heap L ∧ FrameEnd U o U' L ({ frames := 4, cells := 1, slots := 3, locals := 60 } : Room).cells ({ frames := 4, cells := 1, slots := 3, locals := 60 } : Room).slots) := by
 refine MetFree.of_bodySF (plainFor_of_name pn_71) hisR ?_
 intro p e s m args below meth c s₁ Bd hml0 hP hK
 obtain ⟨rfl, hZ, hh⟩ := hP
 have hx := Bd.exec
 have hby := Bd.bytes
 have hml : c.maxLocals = 1 := hml0
 have hown : s.vm.findClass "com/example/keyturn/keyturn/Options" = some m.cls := findClass_of_methodNamed Bd.named
 have hnm := (name_of_methodNamed Bd.named Bd.method).1
 have X0 : Stand p l e ({ frames := 4, cells := 1, slots := 3, locals := 60 } : Room) s m #[(.ref a1)] below meth c s₁ [] 0 0 := Stand.of_body Bd
 have e0 : s₁.heap = h0 := by rw [← hh, Bd.state]; rfl
 have N0 := Fr.nil n0
 have pre0 : ∀ t, Steps p.tables e below (s₁.setTop (mkF m 0 #[.val (.ref a1)] [])) t → Steps p.tables e below (s₁.setTop (entryFrame m #[(.ref a1)] 1)) t := fun t k => castTop (ef_71 m a1) k
 obtain ⟨T2, h2, X2, e2, E2, A2, D2, -, st2⟩ := newO X0 hx hZ hown (hw _ (List.mem_of_getElem? (i := 141) rfl)) (hw _ (List.mem_of_getElem? (i := 45) rfl)) (hw _ (List.mem_of_getElem? (i := 46) rfl)) e0 (g := (mkF m 0 #[.val (.ref a1)] [])) rfl (hb hby d71_0) (by decide) (by decide)
 obtain ⟨b2, g2⟩ : ∃ z, z = h0.size := ⟨_, rfl⟩
 rw [← g2] at A2 D2 st2
 have F_modCount_b2 : Fld Z h2 b2 "java/util/AbstractList" "modCount" "I" (.int (0 : Int32)) := D2 (Or.inl (hw _ (List.mem_of_getElem? (i := 64) rfl))) (ty := .int) (by decide)
 have F_elementData_b2 : Fld Z h2 b2 "java/util/ArrayList" "elementData" "[Ljava/lang/Object;" .null := D2 (Or.inl (hw _ (List.mem_of_getElem? (i := 67) rfl))) (ty := (.array (.object "java/lang/Object"))) (by decide)
 have F_size_b2 : Fld Z h2 b2 "java/util/ArrayList" "size" "I" (.int (0 : Int32)) := D2 (Or.inl (hw _ (List.mem_of_getElem? (i := 153) rfl))) (ty := .int) (by decide)
 have E_b2 := A2
 have g_b2 : n0 ≤ b2 := Nat.le_trans Z0 (Nat.le_of_eq g2.symm)
 have sz_b2 : h0.size ≤ b2 := (Nat.le_trans (Keep.refl h0 []).1 (Nat.le_of_eq g2.symm))
 have K2 : Keep h0 h2 [] := (Keep.refl h0 []).ext E2
 obtain ⟨_, _, ⟨T3, L3, k3, n3⟩, -, X3, ⟨Lc3, hQ3, l3, y3, z3⟩, st3⟩ := X2.specialBack hx (y := (⟨"java/util/ArrayList", "<init>", "()V"⟩ : MethodName)) rfl hown (mvT hZ (hw _ (List.mem_of_getElem? (i := 142) rfl))) (mvT hZ (hw _ (List.mem_of_getElem? (i := 48) rfl))) (mvT hZ (hw _ (List.mem_of_getElem? (i := 49) rfl))) (by decide) (backOf (W := 1) (rm11 l Z a0 hw [] b2 dc .null h2 n0 (Nat.le_trans Z0 E2.1) (fun h hs K => Sd h (extK E2 K (fun x hx => by cases List.mem_singleton.mp hx; exact sz_b2))) (fun q => absurd hdc (Nat.not_lt.mpr (by rw [q]; exact sz_b2))) E_b2 F_modCount_b2 F_size_b2 F_elementData_b2 g_b2) hZ (hw _ (List.mem_of_getElem? (i := 49) rfl)) (hw _ (List.mem_of_getElem? (i := 46) rfl)) (by decide) (by decide)) (g := (mkF m 4 #[.val (.ref a1)] [(.ref b2), (.ref b2)])) rfl (by rw [hml]; rfl) (Steps.refl _) (a := b2) (argsL := []) (rest := [(.ref b2)]) (lenOf pd_71_2 rfl) rfl (by show 2 * 0 + _ ≤ _; exact Nat.le_of_eq rfl) (hb hby d71_4) (fun _ _ => ⟨rfl, e2, (by decide : 1 + 0 ≤ _), (by decide : 3 + 0 ≤ _)⟩)
 dsimp only [Pt.U, Pt.locs, Pt.cells, Pt.slots] at X3 l3 y3 z3 st3 hQ3
 subst l3 y3 z3
 obtain ⟨rfl, N3q, K3, T3'⟩ := hQ3
 have N3 := Fr.app N0 N3q
 obtain ⟨fs, hr, hrun, hended, hW, hsame⟩ := X3.leave (v := some (.ref b2)) (fun h => by rw [Bd.returns] at h; cases h)
 refine ⟨_, _, pre0 _ ?_, hrun, hended, _, _, rfl, ?_, ⟨_, rfl⟩, hW, hsame.mono (by decide) (by decide)⟩
 · show Steps p.tables e below (s₁.setTop (mkF m 0 #[.val (.ref a1)] [])) _
   refine st2 _ ?_
   show Steps p.tables e below (T2.setTop (mkF m 3 #[.val (.ref a1)] [(.ref b2)])) _
   refine XS.dup X2.here hx rfl (hb hby d71_3) rfl rfl ?_
   show Steps p.tables e below (T2.setTop (mkF m 4 #[.val (.ref a1)] [(.ref b2), (.ref b2)])) _
   refine st3.trans ?_
   show Steps p.tables e below (T3.setTop (mkF m 7 #[.val (.ref a1)] [(.ref b2)])) _
   jvm_step X3.here [X3.here.top, hx, (hb hby d71_7), X3.method', Bd.returns, Value.isRef, FieldType.isReference]
   first | (intro acts; rw [hr _ acts rfl rfl rfl]) | rw [hr _ _ rfl rfl rfl]
   exact Steps.refl _
 · show Q71 Z a1 dc h0 n0 _ T3.heap _
   exact ⟨b2, rfl, N3, extK E2 K3 (fun x hx => by cases List.mem_singleton.mp hx; exact sz_b2), sz_b2, T3'⟩
def own_sg : Lambda.Shape := Lambda.Shape.mk "java/util/function/Function" "apply" (MethodDescriptor.mk [.object "java/lang/Object"] (some (.object "java/lang/Object"))) [] 6 "com/example/keyturn/keyturn/Options" "lambda$parse$0" (MethodDescriptor.mk [.object "java/lang/String"] (some (.object "java/util/List"))) false (MethodDescriptor.mk [.object "java/lang/String"] (some (.object "java/util/List")))
def own_fw : ByteArray := ⟨#[0x2b, 0xc0, 0x00, 0x0e, 0xb8, 0x00, 0x14, 0xb0]⟩
theorem own_fw0 : decode own_fw 0 = .ok (.aload_n 1, 1) := by decide +kernel
theorem own_fw1 : decode own_fw 1 = .ok (.checkcast 14, 3) := by decide +kernel
theorem own_fw4 : decode own_fw 4 = .ok (.invokestatic 20, 3) := by decide +kernel
theorem own_fw7 : decode own_fw 7 = .ok (.areturn, 1) := by decide +kernel
def own_lf : ClassFile := (own_sg.file "com/example/keyturn/keyturn/Options").getD { minorVersion := 0, majorVersion := 0, constantPool := #[], accessFlags := 0, thisClass := 0, superClass := 0, interfaces := #[], fields := #[], methods := #[], attributes := #[] }
def own_fm : Method := ((layoutMethods own_lf).bind (·[1]?)).getD default
theorem own_lf_is : own_sg.file "com/example/keyturn/keyturn/Options" = some own_lf := by
 have h : (own_sg.file "com/example/keyturn/keyturn/Options").isSome = true := by decide +kernel
 obtain ⟨x, hx⟩ := Option.isSome_iff_exists.mp h
 simp [own_lf, hx]
theorem own_fm_is (ms : Array Method) (hms : layoutMethods own_lf = some ms) : ms[1]? = some own_fm := by
 have h : ((layoutMethods own_lf).bind (·[1]?)).isSome = true := by decide +kernel
 obtain ⟨x, hx⟩ := Option.isSome_iff_exists.mp h
 have hf : own_fm = x := by simp [own_fm, hx]
 rw [hms] at hx
 rw [hf]; exact hx
theorem own_fm_code : (own_fm.code.map fun c => (c.code.data, c.maxLocals)) = some (own_fw.data, 2) := by decide +kernel
theorem own_fm_flags : (own_fm.accessFlags, own_fm.sig.returnType) = (0x0001, (some (.object "java/lang/Object") : Option FieldType)) := by decide +kernel
theorem own_lf_m : own_lf.constantPool[20]? = some (.methodref 16 19) ∧ own_lf.constantPool.className? 16 = some "com/example/keyturn/keyturn/Options" ∧ own_lf.constantPool.nameAndType? 19 = some ("lambda$parse$0", "(Ljava/lang/String;)Ljava/util/List;") := by decide +kernel
theorem own_lf_c : own_lf.constantPool[16]? = some (.class_ 15) ∧ own_lf.constantPool.string? 15 = some "com/example/keyturn/keyturn/Options" ∧ 16 ≠ own_lf.thisClass := by decide +kernel
theorem own_lf_s : own_lf.constantPool[14]? = some (.class_ 13) ∧ own_lf.constantPool.string? 13 = some "java/lang/String" ∧ 14 ≠ own_lf.thisClass := by decide +kernel
/-- what the tables say of the made class cK and of its second method -/
def MadeV (vm : Vm) (cK cS : ClassId) (methk : Method) (ck : Code) : Prop :=
 ∃ (k tk : Class) (file : ClassFile) (toy : ClassId) (t : MethodId), vm.classes[cK]? = some k ∧ k.name = "com/example/keyturn/keyturn/Options$$Lambda" ∧ k.cf = some file ∧ file.constantPool = own_lf.constantPool ∧
   vm.method? ⟨cK, 1⟩ = some methk ∧ methk.code = some ck ∧ ck.code = own_fw ∧ ck.maxLocals = 2 ∧ methk.locks = false ∧ methk.accessFlags = 0x0001 ∧ methk.sig.returnType = some (.object "java/lang/Object") ∧
   vm.findClass "com/example/keyturn/keyturn/Options" = some toy ∧ vm.classes[toy]? = some tk ∧ ((methodIn toy "lambda$parse$0" "(Ljava/lang/String;)Ljava/util/List;" tk.isInterface none).ask { classPath := fun _ => none } vm).1 = .ok t ∧
   vm.methodReady cK 20 t ∧ vm.classReady cK 16 toy ∧ vm.classReady cK 14 cS ∧ vm.findClass "java/lang/String" = some cS
theorem own_made {vm : Vm} {d cK cS : ClassId} {dk : Class} (hd : vm.classes[d]? = some dk) (hname : dk.name = "com/example/keyturn/keyturn/Options") (h : Lambda.isMade { classPath := fun _ => none } vm d own_sg cK = true) (hS : vm.findClass "java/lang/String" = some cS) : ∃ methk ck, MadeV vm cK cS methk ck := by
 obtain ⟨dk', k, ok, tk, file, cf, object, iface, toy, lay, methods, target, found, hd', hk, hfile, hcf, hobj, -, hok, hlay, hms, ht, htk, hg, -, hrec, -, -, -, hitf, hpool, hmeth, hfields, -, hres, -⟩ := Lambda.isMade_spec h
 cases hd.symm.trans hd'
 rw [hname, own_lf_is] at hcf
 cases hcf
 obtain ⟨b, hb, hsame⟩ := hmeth 1 own_fm (own_fm_is methods hms)
 simp only [Lambda.sameMethod, Bool.and_eq_true, decide_eq_true_eq] at hsame
 obtain ⟨⟨hn, -, hsig, hfl⟩, hcode⟩ := hsame
 have fc := own_fm_code
 have ff := own_fm_flags
 simp only [Prod.mk.injEq] at ff
 cases hfc : own_fm.code with
 | none => rw [hfc] at fc; cases fc
 | some x =>
   cases hbc : b.code with
   | none => simp [hfc, hbc] at hcode
   | some y =>
     simp only [hfc, hbc, Bool.and_eq_true, decide_eq_true_eq] at hcode
     simp only [hfc, Option.map_some, Option.some.injEq, Prod.mk.injEq] at fc
     refine ⟨b, y, k, tk, file, toy, target, hk, by rw [hrec.1, hname]; rfl, hfile, hpool.2.1, by simp [Vm.method?, hk, hb], hbc, ?_, by rw [← hcode.1.1.1.1.2.1]; exact fc.2, ?_, by rw [← hfl]; exact ff.1, by rw [← hsig]; exact ff.2, ht, htk, hg,
       ⟨k, hk, hres 20 _ (Lambda.resolvedOf_method own_lf_m.1 own_lf_m.2.1 ht htk own_lf_m.2.2 hg)⟩, ⟨k, hk, hres 16 _ (Lambda.resolvedOf_class own_lf_c.1 own_lf_c.2.2 own_lf_c.2.1 ht)⟩, ⟨k, hk, hres 14 _ (Lambda.resolvedOf_class own_lf_s.1 own_lf_s.2.2 own_lf_s.2.1 hS)⟩, hS⟩
     · rw [← hcode.1.1.1.1.2.2]
       exact ByteArray.ext fc.1
     · simp [Method.locks, Method.isSynchronized, ← hfl, ff.1, hasFlag, Acc.synchronized]
theorem MadeV.wide {Z : State} {vm' : Vm} {cK cS : ClassId} {methk : Method} {ck : Code} (hW : Z.Warmed39 vm') (M : MadeV Z.vm cK cS methk ck) : MadeV vm' cK cS methk ck := by
 have hA := hW.alike
 obtain ⟨k, tk, file, toy, t, h1, h2, h3, h4, h5, h6, h7, h8, h9, h10, h11, h12, h13, h14, ⟨k1, r1, q1⟩, ⟨k2, r2, q2⟩, ⟨k3, r3, q3⟩, h18⟩ := M
 cases h1.symm.trans r1
 cases h1.symm.trans r2
 cases h1.symm.trans r3
 obtain ⟨k', e1, e2⟩ := hA.2.2 _ _ h1
 obtain ⟨tk', e3, e4⟩ := hA.2.2 _ _ h13
 have ent : ∀ (i : Nat) (r : Resolved), k.resolved[i]? = some (some r) → k'.resolved[i]? = some (some r) := fun i r q => by
   rcases hW.entry h1 e1 i with z | ⟨z, -⟩
   · rw [z]; exact q
   · rw [q] at z; cases z
 have n7 : tk'.isInterface = tk.isInterface := by rw [e4]; rfl
 exact ⟨k', tk', file, toy, t, e1, by rw [e2]; exact h2, by rw [e2]; exact h3, h4, by rw [hA.method?]; exact h5, h6, h7, h8, h9, h10, h11, by rw [hA.findClass]; exact h12, e3, by rw [n7, Lambda.methodIn_ask_alike hA]; exact h14,
   ⟨k', e1, ent _ _ q1⟩, ⟨k', e1, ent _ _ q2⟩, ⟨k', e1, ent _ _ q3⟩, by rw [hA.findClass]; exact h18⟩
/-- the function object f: its class cK, its second method -/
def Lam (Z : State) (f : Addr) (cK cS : ClassId) (methk : Method) (ck : Code) : Prop :=
 MadeV Z.vm cK cS methk ck ∧ Jvm.Free.HMW.FnX (⟨"java/util/function/Function", "apply", "(Ljava/lang/Object;)Ljava/lang/Object;"⟩ : MethodName) cK ⟨cK, 1⟩ Z ∧ (∃ cell : Cell, Z.heap[f]? = some cell ∧ cell.cls = cK ∧ cell.vm = .none) ∧
 ∃ (m : MethodId) (k : Class) (i0 p0 : Nat), Z.methodNamed? mN60 = some m ∧ Z.vm.classes[m.cls]? = some k ∧ (k.callSites.find? fun y => y.1 == m.idx && y.2.1 == 244) = some (i0, p0, .constant f)
theorem own_lam {Z : State} {a0 : Array Value} (hw : HW Z a0) : ∃ f cK cS methk ck, Lam Z f cK cS methk ck := by
 have ws : (Jvm.Cond.lambdaSite mN60 244 84 own_sg).before a0 Z = true := (wq hw 428 rfl)
 have wi : (Jvm.Cond.interfaceMethod "java/util/function/Function" "java/util/function/Function" "apply" "(Ljava/lang/Object;)Ljava/lang/Object;").before a0 Z = true := (wq hw 483 rfl)
 obtain ⟨cK, one, hat⟩ := Cond.lambdaSite_spec ws
 obtain ⟨m, k, cf, i0, p0, lk, hm, hk, -, -, -, hfind, hmade, hcan, hlk⟩ := State.lambdaAt?_spec hat
 obtain ⟨a, cell, rfl, -, -, hcell, hcls, hvm, -⟩ : ∃ a cell, lk = .constant a ∧ one = some a ∧ own_sg.captured = [] ∧ Z.heap[a]? = some cell ∧ cell.cls = cK ∧ cell.vm = .none ∧ cell.slots = #[] := by
   rcases hlk with z | ⟨-, -, h3⟩
   · exact z
   · exact absurd rfl h3
 obtain ⟨k', hk', hnm⟩ := className_of_methodNamed hm
 cases hk.symm.trans hk'
 obtain ⟨cS, tS, g1, g2, g3⟩ := Cond.castable_spec (args := a0) (first := Z) (o := none) (idx := []) (wq hw 9 rfl)
 obtain ⟨methk, ck, M⟩ := own_made hk hnm hmade g1
 obtain ⟨kK, -, -, -, -, h1, -, -, -, h5, -, -, -, -, h10, -⟩ := id M
 exact ⟨a, cK, cS, methk, ck, M, Jvm.Free.HMW.FnX.of_site hmade hcan rfl rfl (by decide +kernel) wi h1 h5 h10, ⟨cell, hcell, hcls, hvm⟩, m, k, i0, p0, hm, hk, hfind⟩
theorem own_fnx {Z : State} {T : State} {xi : MethodName} {cF : ClassId} {mk : MethodId} (hA : Z.vm.Alike T.vm) (F : Jvm.Free.HMW.FnX xi cF mk Z) : Jvm.Free.HMW.FnX xi cF mk T := by
 obtain ⟨kF, methK, h1, h2, h3, h4, h5⟩ := F
 obtain ⟨k', e1, -⟩ := hA.2.2 _ _ h1
 refine ⟨k', methK, e1, by rw [hA.method?]; exact h2, h3, h4, fun r0 r hn hr => ?_⟩
 have hn' : Z.methodNamed? xi = some r0 := by
   have q := State.methodNamed?_setVm (s := Z) hA xi
   rw [← q]; exact hn
 rw [hA.method?] at hr
 obtain ⟨z1, z2, z3⟩ := h5 r0 r hn' hr
 exact ⟨by rw [hA.assignable]; exact z1, by rw [hA.selectMethod]; exact z2, by simp only [hA.superclasses, hA.declaredIn]; exact z3⟩
section OwnLam
variable {p : Program} {l : Launch} {e : Env} {R : Room} {s : State} {m : MethodId} {args : Array Value} {below : List Frame} {meth : Method} {c : Code} {Z : State} {a0 : Array Value} {EL : List (String × Nat)} {S0 : State} {y : MethodName} {B : ByteArray} {ml : Nat} {ret : Option FieldType} {V : Vm} {h h' : Heap} {cl sl : Nat} {g : JFrame}
theorem Met.ofN {ws : List Jvm.Cond} {rm : Room} {as' : Array Value} {sf : List Addr} {Q : Option Value → Heap → Prop} (hpl : plainFor y = true) (hEL : EW Z a0 EL) (hx : Ext Z.heap h)
   (body : ∀ (p : Program) (e : Env) (s : State) (m : MethodId) (below : List Frame) (meth : Method) (c : Code) (S0 : State) (V : Vm), Wk p l e rm s m as' below meth c Z a0 EL S0 y B ml ret V h 0 0 (entryFrame m as' ml) → s.heap = h → (∀ x ∈ sf, Safe Z EL V h x) → Z.methodNamed? y = some m → Fini p e below s Z EL S0 rm.cells rm.slots Q) :
   Met l Z EL y B ml ret ws rm as' h sf Q := by
 refine MetFree.of_bodySF hpl hisR ?_
 intro p e s m args below meth c s₁ Bd hml0 hP hK
 obtain ⟨rfl, hZ, hh, hC, hsf⟩ := hP
 have X0 : Stand p l e rm s m args below meth c s₁ [] 0 0 := Stand.of_body Bd
 have e0 : s₁.heap = h := by rw [← hh, Bd.state]; rfl
 have hown : s.vm.findClass y.cls = some m.cls := findClass_of_methodNamed Bd.named
 subst hh
 exact body p e s m below meth c (s₁.setTop (entryFrame m args ml)) s.vm
   ⟨⟨Bd.exec, Bd.bytes, hml0, Bd.returns, Bd.notSynchronized, by rw [← hZ.alike.findClass]; exact hown, (name_of_methodNamed Bd.named Bd.method).1, hEL⟩, ⟨hZ, CHr.refl hC, hx⟩, s₁, [], s.heap.size, X0, e0, (State.WarmedH.refl s).since _, Nat.le_refl _, Fr.nil _, fun t k => k⟩ rfl hsf (by
     have q := State.methodNamed?_setVm (s := Z) hZ.alike y
     rw [← q]; exact Bd.named)
/-- the invokedynamic of the site -/
theorem Wk.lamC {pc' : Nat} {L : Array Slot} {st : List Value} {f : Addr} {cK cS : ClassId} {methk : Method} {ck : Code} (w : Wk p l e R s m args below meth c Z a0 EL S0 y B ml ret V h cl sl (mkF m 244 L st)) (F : Lam Z f cK cS methk ck) (hn : Z.methodNamed? mN60 = some m) (hL : L.size = ml)
   (hd : decode B 244 = .ok (.invokedynamic 84, 5)) (hW : (st.map fun v => v.category).sum + 3072 ≤ R.locals) (hp : 249 = pc' := by rfl) :
   Wk p l e R s m args below meth c Z a0 EL S0 y B ml ret V h cl sl (mkF m pc' L (.ref f :: st)) := by
 subst hp
 obtain ⟨-, -, -, m', k, i0, p0, hm', hk, hfi⟩ := F
 cases hn.symm.trans hm'
 obtain ⟨k', e1, e2⟩ := w.hZ.alike.2.2 _ _ hk
 refine w.stX fun T locs t X e0 q => ?_
 exact X.lambdaConstant w.1.1 (g := mkF m 244 L st) rfl (hL.trans w.1.2.2.1.symm) (hb w.1.2.1 hd) (k := k') (i0 := i0) (p0 := p0) (a := f) e1 (by rw [e2]; exact hfi) (by rw [X.admits.platform]; show 2 * 0 + (st.map fun v => v.category).sum + 3072 ≤ R.locals; omega) q
/-- invokeinterface on the function object -/
theorem Wk.faceX {pc pc' : Nat} {L : Array Slot} {st rest argsL : List Value} {index W kc ks count : Nat} {xi : MethodName} {cK : ClassId} {f : Addr} {Q : Option Value → Heap → Prop} {ps : List FieldType} {r : Option FieldType} (w : Wk p l e R s m args below meth c Z a0 EL S0 y B ml ret V h cl sl (mkF m pc L st))
   (K : BackW l R p e below (s.setVm V) args (fun _ m' => m' = ⟨cK, 1⟩) 5 W (fun A a => a = (.ref f :: argsL).toArray ∧ A.U.heap = h ∧ A.cells + kc ≤ R.cells ∧ A.slots + ks ≤ R.slots) (fun A _ v D => ∃ Lc : List Loc, Q v D.U.heap ∧ Ext h D.U.heap ∧ Fr Z.heap.size Lc ∧ D.locs = A.locs ++ Lc ∧ D.cells = A.cells + kc ∧ D.slots = A.slots + ks))
   (F : Jvm.Free.HMW.FnX xi cK ⟨cK, 1⟩ Z) (E : ∃ cell : Cell, Z.heap[f]? = some cell ∧ cell.cls = cK ∧ cell.vm = .none) (wl : (Jvm.Cond.methodLink y.cls index xi).before a0 Z = true) (wd : (Jvm.Cond.declares xi).before a0 Z = true) (wf : (Jvm.Cond.interfaceMethod xi.cls xi.cls xi.name xi.desc).before a0 Z = true)
   (hy : xi.cls ≠ "java/lang/invoke/MethodHandle" ∧ xi.cls ≠ "java/lang/invoke/VarHandle") (hpd : parseMethodDescriptor xi.desc = some ⟨ps, r⟩) (hlen : argsL.length = ps.length) (hst : st = argsL.reverse ++ .ref f :: rest) (hW : (rest.map fun v => v.category).sum ≤ W) (hL : L.size = ml) (hd : decode B pc = .ok (.invokeinterface index count, 5)) (hc : cl + kc ≤ R.cells) (hs : sl + ks ≤ R.slots) (hp : pc + 5 = pc' := by rfl) (hfa : ((Jvm.Cond.interfaceMethod xi.cls xi.cls xi.name xi.desc).onTables && (Jvm.Cond.interfaceMethod xi.cls xi.cls xi.name xi.desc).keepsFace) = true := by rfl) :
   ∃ (v : Option Value) (V' : Vm) (h' : Heap), Q v h' ∧ CHr Z EL V h V' h' ∧ Wk p l e R s m args below meth c Z a0 EL S0 y B ml ret V' h' (cl + kc) (sl + ks) (mkF m pc' L (v.toList ++ rest)) := by
 subst hp
 obtain ⟨hf, ⟨hz, hC, hO⟩, T, locs, k0, X, e0, h1, h2, h3, st0⟩ := id w
 obtain ⟨cell, c1, c2, c3⟩ := E
 obtain ⟨kF, methK, f1, f2, f3, f4, f5⟩ := own_fnx (T := s.setVm V) hz.alike F
 obtain ⟨r0, r', hn, hrm, hstR, hsigR⟩ := Cond.declares_spec (mv (s := s.setVm V) (args := args) hz wd)
 obtain ⟨cL, kL, r1, hcL, hkL, hiL, hfoundL, hn1⟩ := Cond.interfaceMethod_spec (mv (s := s.setVm V) (args := args) hz wf hfa)
 cases hn.symm.trans hn1
 have hr0cls : r0.cls = cL := Option.some.inj ((findClass_of_methodNamed hn).symm.trans hcL)
 obtain ⟨g1, g2, g3⟩ := f5 r0 r' hn hrm
 obtain ⟨vm₁, X₁, hstep₁⟩ := X.invokeinterface hf.1 w.own (mv (s := s.setVm V) hz wl) hn hrm hstR (by rw [hr0cls]; exact hkL) hiL hy (a := f) (cell := cell) (kcell := kF) (by rw [e0]; exact hO.2 _ _ c1)
   (fun z q => by rw [c3] at q; cases q) (by rw [c2]; exact f1) (by rw [c2]; exact g1) (by rw [Launch.admits_selectMethod X.admits, c2]; exact g2) f2 (by rw [c2]; exact g3) f3 f4 (g := mkF m pc L st) rfl (argsL := argsL) (rest := rest) (lenOf hpd hlen _ hsigR) hst (hb hf.2.1 hd)
 obtain ⟨v, D, X', ⟨Lc, q1, q2, q3, q4, q5, q6⟩, st'⟩ := K m meth c ⟨T.setVm vm₁, locs, cl, sl⟩ (mkF m pc L rest) (.invokeinterface index count) ⟨cK, 1⟩ (.ref f :: argsL).toArray X₁ rfl (hL.trans hf.2.2.1.symm) (hb hf.2.1 hd) (by show 2 * 0 + (rest.map fun v => v.category).sum ≤ W; omega) rfl ⟨rfl, e0, hc, hs⟩
 have A1 : CHr Z EL V h V D.U.heap := CHr.ext q2 w.ch
 obtain ⟨V', h', a1, a2, a3⟩ := w.back (g' := mkF m (pc + 5) L (v.toList ++ rest)) (y' := xi) (T0 := T) (vm₁ := vm₁) h1 h2 h3 e0 (X'.retabled X'.warmed.wide) (X'.warmed.since _) (by rw [e0]; exact q2.1) ⟨Lc, q1, extT hO q2, q3, A1.trans (CHv.at X' w.hZ w.el A1.1), q4, q5, q6⟩ (fun t q => st0 t ((hstep₁ _ fun acts => by rw [doInvoke_state]; exact Steps.refl _).trans (st'.trans q)))
 exact ⟨v, V', h', a1, a2, a3⟩
end OwnLam
theorem own_lamPays {p : Program} {l : Launch} {e : Env} {R : Room} {s : State} {m : MethodId} {args : Array Value} {below : List Frame} {meth : Method} {c : Code} {Z : State} {a0 : Array Value} {EL : List (String × Nat)} {S0 : State} {y : MethodName} {B : ByteArray} {ml : Nat} {ret : Option FieldType} {V : Vm} {h : Heap} {cl sl : Nat} {g : JFrame}
   (hw : HW Z a0) (dc : Addr) (kd : ClassId) (Sd : Sta Z Z.heap "java/util/ArrayList" "DEFAULTCAPACITY_EMPTY_ELEMENTDATA" "[Ljava/lang/Object;" (.ref dc)) (Dd : Arv Z Z.heap dc kd (.object "java/lang/Object") 0 [] .null) (w : Wk p l e R s m args below meth c Z a0 EL S0 y B ml ret V h cl sl g) {f x : Addr} {cK cS : ClassId} {methk : Method} {ck : Code} (F : Lam Z f cK cS methk ck) (X_x : Exa Z h x "java/lang/String") (W : Nat) (hfr : 6 ≤ R.frames) (hlo : W + (2 + 11) + 72 ≤ R.locals) :
   BackW l R p e below (s.setVm V) args (fun _ m' => m' = ⟨cK, 1⟩) 5 W (fun A a => a = [Value.ref f, Value.ref x].toArray ∧ A.U.heap = h ∧ A.cells + 1 ≤ R.cells ∧ A.slots + 3 ≤ R.slots)
     (fun A _ v D => ∃ Lc : List Loc, (∃ b, v = some (.ref b) ∧ Ext h D.U.heap ∧ h.size ≤ b ∧ AL0 Z D.U.heap b dc 0) ∧ Ext h D.U.heap ∧ Fr Z.heap.size Lc ∧ D.locs = A.locs ++ Lc ∧ D.cells = A.cells + 1 ∧ D.slots = A.slots + 3) := by
 obtain ⟨M, -, -, -⟩ := F
 have hdc : dc < h.size := Nat.lt_of_lt_of_le Dd.lt w.old.1
 have hRM := rm71 l Z a0 hw [] x dc h Z.heap.size w.old.1 (fun h' E => Sd.ext (extT w.old E)) hdc
 have T := Jvm.Free.Fw.fn1Static (l := l) (p := p) (e := e) w.1.1 (Rm := R) (R' := { frames := 5, cells := 1, slots := 3, locals := 72 }) (below' := below) (s' := s.setVm V) (sargs' := args) (cK := cK) (ci := 14) (mi := 20) (cT := cS) (y := mN61) (methk := methk) (ck := ck) (len := 5) (W := W)
   (by obtain ⟨_, _, _, _, _, _, _, _, _, _, _, h7, _⟩ := M; rw [h7]; exact own_fw0) (by obtain ⟨_, _, _, _, _, _, _, _, _, _, _, h7, _⟩ := M; rw [h7]; exact own_fw1) (by obtain ⟨_, _, _, _, _, _, _, _, _, _, _, h7, _⟩ := M; rw [h7]; exact own_fw4) (by obtain ⟨_, _, _, _, _, _, _, _, _, _, _, h7, _⟩ := M; rw [h7]; exact own_fw7)
   (fun U hW => by
     have hU : Z.Warmed39 U.vm := wtrans (s := s.setVm V) w.hZ hW
     obtain ⟨k, tk, file, toy, t, h1, h2, h3, h4, h5, h6, h7, h8, h9, h10, h11, h12, h13, h14, h15, h16, h17, h18⟩ := M.wide hU
     exact ⟨⟨h5, h6, h9, State.plainMethod.of_name (fun k' hk' => by cases h1.symm.trans hk'; rw [h2]; decide), h8, h11⟩, h17,
       Jvm.Free.Fw.StaticAt.of_made (y := mN61) (ci := 16) (nt := 19) h1 h3 (by rw [h4]; exact own_lf_m.1) (by rw [h4]; exact own_lf_m.2.2) h15 h16 h12 h13 h14 (by decide) (mv hU (wq hw 485 rfl)) (mv hU (wq hw 484 rfl)) (mv hU (wq hw 115 rfl)) (sig := ⟨[.object "java/lang/String"], some (.object "java/util/List")⟩) (by decide +kernel) rfl⟩)
   (fun U g a hW => backOf (a0 := a0) (R := { frames := 5, cells := 1, slots := 3, locals := 72 }) (s := U.calling g ⟨cK, 1⟩ a) (args := a) (below := .java g :: below) (p := p) (e := e) (len := 3) (W := 0) hRM (wtrans (s := s.setVm V) w.hZ hW) (wq hw 485 rfl) (wq hw 115 rfl) (by decide) (by decide))
   (fun A a v D _ q => by obtain ⟨L, ⟨b, rfl, -⟩, -⟩ := q; exact ⟨_, rfl, rfl⟩)
   (by show 5 + 1 ≤ R.frames; omega) (by show W + (2 + 11) + 72 ≤ R.locals; omega)
 intro m' meth' c' A gj ig mk a X hg hsize hdg hW hwho hpre
 obtain ⟨rfl, hh, hcl, hsl⟩ := hpre
 have hU : Z.Warmed39 A.U.vm := wtrans (s := s.setVm V) w.hZ X.warmed
 have hfit : Jvm.Free.Fw.Fits A.U cS (.ref x) := by
   obtain ⟨cell, k, x1, x2, x3, x4, -⟩ := X_x
   obtain ⟨c1, t1, g1, g2, g3⟩ := Cond.castable_spec (args := a0) (first := Z) (o := none) (idx := []) (wq hw 9 rfl)
   obtain ⟨_, _, _, _, _, _, _, _, _, _, _, _, _, _, _, _, _, _, _, _, _, _, h18⟩ := M
   cases x2.symm.trans g1
   cases x2.symm.trans g2
   cases x2.symm.trans h18
   obtain ⟨k', e1, -⟩ := hU.alike.2.2 _ _ x3
   exact Or.inr ⟨x, cell, k', k', rfl, by rw [hh]; exact x1, (fun z q => by rw [q] at x4; cases x4), e1, e1, by rw [hU.alike.assignable]; exact g3⟩
 obtain ⟨v, D, X', ⟨x', U₀, U₁, L₁, c₁, n₁, hx', q1, q2, ⟨L, ⟨b, rfl, r1, r2, r3, r4⟩, r5, r6, r7⟩, s1, s2, s3, s4, s5⟩, steps⟩ := T m' meth' c' A gj ig mk _ X hg hsize hdg hW hwho ⟨f, .ref x, rfl, rfl, hfit, hcl, hsl, fun U₀ e1 e2 => ⟨rfl, e2.trans hh, Nat.le_refl _, Nat.le_refl _⟩⟩
 dsimp only [Pt.U, Pt.locs, Pt.cells, Pt.slots] at r1 r2 r3 r4 r5 r6 r7
 rw [← s1] at r2 r4
 exact ⟨_, D, X', ⟨L₁, ⟨b, rfl, r2, r3, r4⟩, r2, by rw [r5]; exact r1, s3, by rw [s4, r6], by rw [s5, r7]⟩, steps⟩
theorem own_nsI {Z : State} {a0 : Array Value} {O K : String} {n : Nat} (w : (Jvm.Cond.noSuperclass O).before a0 Z = true) (wk : (Jvm.Cond.instantiable K n).before a0 Z = true) (hn : O ≠ K) : NS Z O K := by
 obtain ⟨c, k, h1, h2, h3, -, -⟩ := Cond.noSuperclass_spec w
 obtain ⟨t, kt, g1, -⟩ := Cond.instantiable_spec wk
 have ne := ids_ne h1 g1 hn
 refine ⟨c, t, h1, g1, fun fuel => ?_⟩
 cases fuel with
 | zero => rfl
 | succ f => simp [Vm.isSubclassAux, ne, h2, h3]
theorem own_noI {Z : State} {a0 : Array Value} {C S K : String} {n : Nat} (w : (Jvm.Cond.superclass C S).before a0 Z = true) (wk : (Jvm.Cond.instantiable K n).before a0 Z = true) (N : NS Z C K) (hn : C ≠ K) : ∃ c t, Z.vm.findClass C = some c ∧ Z.vm.findClass K = some t ∧ Z.vm.assignable c t = false := by
 obtain ⟨c, t, h0, g0, n3⟩ := N
 obtain ⟨p, k, kp, h1, h2, h3, h4, h5, -, h7⟩ := Cond.superclass_spec h0 w
 obtain ⟨t', kt, g1, g2, g3, g4, -⟩ := Cond.instantiable_spec wk
 cases g0.symm.trans g1
 have g5 : kt.isInterface = false := by
   cases hq : kt.isInterface with
   | false => rfl
   | true => rw [hq] at g4; cases g4
 have ne := ids_ne h0 g0 hn
 refine ⟨c, t, h0, g0, ?_⟩
 show Z.vm.assignableAux (255 + 1) c t = false
 simp [Vm.assignableAux, ne, h2, g2, h5, g3, g5, Vm.isSubclass, n3]
theorem own_na12 {Z : State} {a0 : Array Value} (hw : HW Z a0) : ∃ c t, Z.vm.findClass "java/util/ArrayList" = some c ∧ Z.vm.findClass "java/util/ImmutableCollections$List12" = some t ∧ Z.vm.assignable c t = false :=
 own_noI (wq hw 248 rfl) (wq hw 532 rfl) (NS.step (wq hw 248 rfl) (NS.step (wq hw 249 rfl) (NS.step (wq hw 250 rfl) (own_nsI (wq hw 251 rfl) (wq hw 532 rfl) (by decide)) (by decide)) (by decide)) (by decide)) (by decide)
theorem own_naN {Z : State} {a0 : Array Value} (hw : HW Z a0) : ∃ c t, Z.vm.findClass "java/util/ArrayList" = some c ∧ Z.vm.findClass "java/util/ImmutableCollections$ListN" = some t ∧ Z.vm.assignable c t = false :=
 own_noI (wq hw 248 rfl) (wq hw 582 rfl) (NS.step (wq hw 248 rfl) (NS.step (wq hw 249 rfl) (NS.step (wq hw 250 rfl) (own_nsI (wq hw 251 rfl) (wq hw 582 rfl) (by decide)) (by decide)) (by decide)) (by decide)) (by decide)
theorem own_nN12 {Z : State} {a0 : Array Value} (hw : HW Z a0) : ∃ c t, Z.vm.findClass "java/util/ImmutableCollections$ListN" = some c ∧ Z.vm.findClass "java/util/ImmutableCollections$List12" = some t ∧ Z.vm.assignable c t = false :=
 own_noI (wq hw 315 rfl) (wq hw 532 rfl) (NS.step (wq hw 315 rfl) (NS.step (wq hw 316 rfl) (NS.step (wq hw 317 rfl) (NS.step (wq hw 250 rfl) (own_nsI (wq hw 251 rfl) (wq hw 532 rfl) (by decide)) (by decide)) (by decide)) (by decide)) (by decide)) (by decide)
theorem own_fill {vs : List Value} {i : Nat} (h : i < vs.length) : (vs.take i ++ List.replicate (vs.length - i) Value.null).set i (vs.getD i Value.null) = vs.take (i + 1) ++ List.replicate (vs.length - (i + 1)) Value.null := by
 obtain ⟨m, hm⟩ : ∃ m, vs.length - i = m + 1 := ⟨vs.length - i - 1, by omega⟩
 have hm' : vs.length - (i + 1) = m := by omega
 have hl : (vs.take i).length = i := by rw [List.length_take]; omega
 have e : vs.take (i + 1) = vs.take i ++ [vs.getD i .null] := by rw [List.take_succ, List.getElem?_eq_getElem h]; simp [List.getD_eq_getElem?_getD, h]
 rw [hm, hm', List.replicate_succ, List.set_append_right _ _ (by omega), hl, Nat.sub_self, List.set_cons_zero, e, List.append_assoc]
 rfl
theorem own_gmemV {vs : List Value} {j : Nat} (h : j < vs.length) : vs.getD j .null ∈ vs := by
 simp [List.getD_eq_getElem?_getD, h]
theorem own_lfa8 (l : Launch) (Z : State) (a0 : Array Value) (hw : HW Z a0) (hEL : EW Z a0 consts_1) {p : Program} {e : Env} {s : State} {m : MethodId} {args : Array Value} {below : List Frame} {meth : Method} {c : Code} {S0 : State} (em d t : Addr) (kd kt : ClassId) (vs : List Value) (hv3 : 3 ≤ vs.length) (h10 : vs.length ≤ 10) (h0 : Heap) (A : Arv Z h0 d kd (.object "java/lang/Object") (Int32.ofNat vs.length) vs .null) (HI : ∀ u ∈ vs, ∃ x, u = .ref x ∧ Ins Z h0 x "java/lang/Object" true ∧ x ≠ em) (ge_t_0 : h0.size ≤ t) (ge_t_Z : Z.heap.size ≤ t) (O : Ovr Z kt "java/lang/Object") (f : Nat) :
   ∀ (j : Nat) (hin : Heap) (V : Vm), j + f = vs.length → Ext h0 hin → Arv Z hin t kt (.object "java/lang/Object") (Int32.ofNat vs.length) (vs.take j ++ List.replicate (vs.length - j) .null) .null → Wk p l e (rM 7 2 20 90) s m args below meth c Z a0 consts_1 S0 mN62 jdk_56_method_4_code 3 (some (.object "java/util/List")) V hin 1 10 (mkF m 8 #[.val (.ref d), .val (.ref t), .val (.int (Int32.ofNat j))] []) → Fini p e below s Z consts_1 S0 2 20 (fun v h => ∃ b, v = some (.ref b) ∧ Ext h0 h ∧ IL Z h em b vs) := by
 induction f with
 | zero =>
   intro j hin V hj E01 D w
   have hj' : j = vs.length := by omega
   subst hj'
   have A1 := A.ext E01
   rw [List.take_length, Nat.sub_self, List.replicate_zero, List.append_nil] at D
   have BZ := w.old
   have B0 := extR hin
   replace w := (((w.iloadN (d85 0 rfl) rfl).aloadN (d85 1 rfl) rfl).arrlen A1 (d85 2 rfl)).icmpYes (pc' := 29) (d85 3 rfl) ((flt Int32.lt_irrefl).2.1)
   obtain ⟨h1, b, g_b, E1, X_b, D_b, S_b, A1, w⟩ := w.new (wq hw 252 rfl) (wq hw 582 rfl) (wq hw 328 rfl) (d85 4 rfl) nle nle (pc' := 32)
   have ge_b_Z : Z.heap.size ≤ b := Nat.le_trans BZ.1 (Nat.le_of_eq g_b.symm)
   have ge_b_0 : hin.size ≤ b := Nat.le_trans B0.1 (Nat.le_of_eq g_b.symm)
   have F_b_allowNulls := D_b (Or.inr (wq hw 320 rfl)) (ty := .boolean) (by decide)
   have F_b_elements := D_b (Or.inr (wq hw 331 rfl)) (ty := (.array (.object "java/lang/Object"))) (by decide)
   have B0 := extT B0 E1
   replace w := ((w.dup (d85 5 rfl)).aloadN (d85 6 rfl) rfl).iconst (pc' := 35) (0 : Int32) (d85 7 rfl)
   obtain ⟨v2, V2, h2, hq2, A2, w⟩ := w.ctorN (host := "java/util/ImmutableCollections") (y' := mN39) (W := 1) (a := b) (w.pays 1 (rmLNi l Z a0 hw hEL em b t kt vs hv3 h10 h1 w.old X_b F_b_elements F_b_allowNulls (D.ext B0) ge_b_Z) (wq hw 585 rfl) (wq hw 328 rfl) all0 nle nle) rfl (wq hw 583 rfl) (wq hw 584 rfl) (wq hw 585 rfl) (argsL := [(.ref t), (.int (0 : Int32))]) (rest := [(.ref b)]) (by decide) pd_24 rfl rfl nlr rfl (d85 8 rfl) nle nle (pc' := 38)
   obtain ⟨rfl, K2, T⟩ := hq2
   replace w := w.toS [(.ref b)]
   have B0 := extK B0 K2 (allS ge_b_0 all0)
   exact w.retA (d85 9 rfl) ⟨b, rfl, extT E01 B0, T⟩ nle nle
 | succ f ih =>
   intro j hin V hj E01 D w
   have hjl : j < vs.length := by omega
   have A1 := A.ext E01
   obtain ⟨x, ex, Ix, -⟩ := HI _ (own_gmemV hjl)
   have n1 := own_n32 (n := j) (by omega)
   have ej : Int32.ofNat j + (1 : Int32) = Int32.ofNat (j + 1) := own_add32 (a := j) (b := 1) (by omega)
   replace w := ((((((((w.iloadN (d85 0 rfl) rfl).aloadN (d85 1 rfl) rfl).arrlen A1 (d85 2 rfl)).icmpNo (pc' := 14) (d85 3 rfl) ((tlt ((own_lt32 (by omega) (by omega)).mpr hjl)).2.1)).aloadN (d85 10 rfl) rfl).iloadN (d85 11 rfl) rfl).aloadN (d85 12 rfl) rfl).iloadN (d85 13 rfl) rfl).aaload (v := (.ref x)) A1 (d85 14 rfl) ⟨n1.1, (own_lt32 (by omega) (by omega)).mpr hjl⟩ (by rw [n1.2.1]; exact ex) (pc' := 19)
   obtain ⟨v1, V1, h1, hq1, A1, w⟩ := w.static (y' := mN26) (W := 2) (w.pays 2 (rmRNN l Z a0 hw hEL x hin w.old) (wq hw 96 rfl) (wq hw 95 rfl) all0 nle nle) (wq hw 581 rfl) (wq hw 94 rfl) (wq hw 95 rfl) (wq hw 96 rfl) (argsL := [(.ref x)]) (rest := [(.int (Int32.ofNat j)), (.ref t)]) (by decide) pd_14 rfl rfl nlr rfl (d85 15 rfl) nle nle (pc' := 22)
   obtain ⟨rfl, he1⟩ := hq1
   replace w := w.toS [(.ref x), (.int (Int32.ofNat j)), (.ref t)]
   replace he1 := he1.symm
   subst he1
   obtain ⟨cA, A1', A2', -⟩ := id D
   have St : Sto Z hin t (.ref x) := Sto.ofV A1' A2' O (Ix.ext E01)
   obtain ⟨h2, K2, Aq, A2, w⟩ := w.aastore D (St) (rfl) (d85 16 rfl) ⟨n1.1, (own_lt32 (by omega) (by omega)).mpr hjl⟩ (j) (n1.2.1) (by rw [List.length_append, List.length_take, List.length_replicate]; omega) (ge_t_Z) (pc' := 23)
   rw [← ex, own_fill hjl] at Aq
   replace w := (w.iinc (L' := #[.val (.ref d), .val (.ref t), .val (.int ((Int32.ofNat j) + (1 : Int32)))]) (d85 17 rfl) rfl rfl).goto (pc' := 8) (d85 18 rfl)
   rw [ej] at w
   exact ih (j + 1) _ _ (by omega) (extK E01 K2 (allS ge_t_0 all0)) Aq w
theorem rmLFA (l : Launch) (Z : State) (a0 : Array Value) (hw : HW Z a0) (hEL : EW Z a0 consts_1) (em d : Addr) (kd : ClassId) (vs : List Value) (hv3 : 3 ≤ vs.length) (h10 : vs.length ≤ 10) (h0 : Heap) (hx : Ext Z.heap h0) (A : Arv Z h0 d kd (.object "java/lang/Object") (Int32.ofNat vs.length) vs .null) (HI : ∀ u ∈ vs, ∃ x, u = .ref x ∧ Ins Z h0 x "java/lang/Object" true ∧ x ≠ em) :
   Met l Z consts_1 mN62 jdk_56_method_4_code 3 (some (.object "java/util/List")) [] (rM 7 2 20 90) #[.ref d] h0 [] (fun v h => ∃ b, v = some (.ref b) ∧ Ext h0 h ∧ IL Z h em b vs) := by
 have n1 := own_n32 (n := vs.length) (by omega)
 refine Met.of (a0 := a0) (by decide +kernel) hEL hx ?_
 intro p e s m below meth c S0 V w hs hsf
 replace w := w.to (g' := mkF m 0 #[.val (.ref d), .unset, .unset] [])
 have BZ := w.old
 have B0 := extR h0
 replace w := (w.aloadN (d85 19 rfl) rfl).arrlen A (d85 20 rfl) (pc' := 2)
 obtain ⟨h1, t, k_t, g_t, E1, V_t, X_t, O_t, A1, w⟩ := w.anew (cap := 10) (ad := "[Ljava/lang/Object;") (wq hw 580 rfl) (wq hw 231 rfl) (d85 21 rfl) n1.1 (by rw [n1.2.1]; exact h10) (by decide) nle nle (pc' := 5)
 have ge_t_Z : Z.heap.size ≤ t := Nat.le_trans BZ.1 (Nat.le_of_eq g_t.symm)
 have ge_t_0 : h0.size ≤ t := Nat.le_trans B0.1 (Nat.le_of_eq g_t.symm)
 have B0 := extT B0 E1
 have V1 := V_t.pad (vs' := List.replicate vs.length .null) (pad_rep [] _ vs.length)
 replace w := ((w.astoreN (L' := #[.val (.ref d), .val (.ref t), .unset]) (d85 22 rfl) rfl).iconst (0 : Int32) (d85 23 rfl)).istoreN (pc' := 8) (L' := #[.val (.ref d), .val (.ref t), .val (.int (0 : Int32))]) (d85 24 rfl) rfl
 exact own_lfa8 l Z a0 hw hEL em d t kd k_t vs hv3 h10 h0 A HI ge_t_0 ge_t_Z O_t vs.length 0 _ _ (Nat.zero_add _) B0 (by rw [List.take_zero, List.nil_append, Nat.sub_zero]; exact V1) w
theorem rmLOA3 (l : Launch) (Z : State) (a0 : Array Value) (hw : HW Z a0) (hEL : EW Z a0 consts_1) (em : Addr) (Se : Sta Z Z.heap "java/util/ImmutableCollections" "EMPTY" "Ljava/lang/Object;" (.ref em)) (d : Addr) (kd : ClassId) (vs : List Value) (hv3 : 3 ≤ vs.length) (h10 : vs.length ≤ 10) (h0 : Heap) (hx : Ext Z.heap h0) (A : Arv Z h0 d kd (.object "java/lang/Object") (Int32.ofNat vs.length) vs .null) (HI : ∀ u ∈ vs, ∃ x, u = .ref x ∧ Ins Z h0 x "java/lang/Object" true ∧ x ≠ em) :
   Met l Z consts_1 mN59 jdk_40_method_47_code 2 (some (.object "java/util/List")) [] (rM 8 3 20 120) #[.ref d] h0 [] (fun v h => ∃ b, v = some (.ref b) ∧ Ext h0 h ∧ IL Z h em b vs) := by
 have n1 := own_n32 (n := vs.length) (by omega)
 refine Met.of (a0 := a0) (by decide +kernel) hEL hx ?_
 intro p e s m below meth c S0 V w hs hsf
 replace w := ((((w.to (g' := mkF m 0 #[.val (.ref d), .unset] [])).aloadN (d78 0 rfl) rfl).arrlen A (d78 1 rfl)).tswOut (d78 2 rfl) (by rw [n1.2.2]; omega) (by decide) (by decide)).aloadN (pc' := 60) (d78 20 rfl) rfl
 obtain ⟨v1, V1, h1, hq1, A1, w⟩ := w.static (y' := mN62) (W := 0) (w.pays 0 (rmLFA l Z a0 hw hEL em d kd vs hv3 h10 h0 w.old A HI) (wq hw 579 rfl) (wq hw 121 rfl) all0 nle nle) (wq hw 577 rfl) (wq hw 578 rfl) (wq hw 121 rfl) (wq hw 579 rfl) (argsL := [(.ref d)]) (rest := []) (by decide) pd_25 rfl rfl nlr rfl (d78 21 rfl) nle nle (pc' := 63)
 obtain ⟨b, rfl, E1, T⟩ := hq1
 replace w := w.toS [(.ref b)]
 exact w.retA (d78 22 rfl) ⟨b, rfl, E1, T⟩ nle nle
theorem rmLOA (l : Launch) (Z : State) (a0 : Array Value) (hw : HW Z a0) (hEL : EW Z a0 consts_1) (em : Addr) (Se : Sta Z Z.heap "java/util/ImmutableCollections" "EMPTY" "Ljava/lang/Object;" (.ref em)) (d : Addr) (kd : ClassId) (vs : List Value) (hv1 : vs ≠ []) (h10 : vs.length ≤ 10) (h0 : Heap) (hx : Ext Z.heap h0) (A : Arv Z h0 d kd (.object "java/lang/Object") (Int32.ofNat vs.length) vs .null) (HI : ∀ u ∈ vs, ∃ x, u = .ref x ∧ Ins Z h0 x "java/lang/Object" true ∧ x ≠ em) :
   Met l Z consts_1 mN59 jdk_40_method_47_code 2 (some (.object "java/util/List")) [] (rM 8 3 20 120) #[.ref d] h0 [] (fun v h => ∃ b, v = some (.ref b) ∧ Ext h0 h ∧ IL Z h em b vs) := by
 rcases vs with _ | ⟨u, _ | ⟨u2, _ | ⟨u3, us⟩⟩⟩
 · exact absurd rfl hv1
 · obtain ⟨x, rfl, -⟩ := HI u (by simp)
   have A' : Arv Z h0 d kd (.object "java/lang/Object") 1 [.ref x] .null := A
   exact rmLOA1 l Z a0 hw hEL em Se d kd x h0 hx A'
 · obtain ⟨x, rfl, -⟩ := HI u (by simp)
   obtain ⟨x2, rfl, -, hne⟩ := HI u2 (by simp)
   have A' : Arv Z h0 d kd (.object "java/lang/Object") 2 [.ref x, .ref x2] .null := A
   exact rmLOA2 l Z a0 hw hEL em Se d kd x x2 hne h0 hx A'
 · exact rmLOA3 l Z a0 hw hEL em Se d kd _ (by simp) h10 h0 hx A HI
def Stt (Z : State) (dc : Addr) (kd : ClassId) (es el em mr le : Addr) (kl : ClassId) : Prop :=
 Sta Z Z.heap "java/util/ArrayList" "DEFAULTCAPACITY_EMPTY_ELEMENTDATA" "[Ljava/lang/Object;" (.ref dc) ∧ Arv Z Z.heap dc kd (.object "java/lang/Object") 0 [] .null ∧ Exa Z Z.heap dc "[Ljava/lang/Object;" ∧
 Sta Z Z.heap "java/util/ImmutableCollections" "EMPTY_SET" "Ljava/util/ImmutableCollections$SetN;" (.ref es) ∧ Exa Z Z.heap es "java/util/ImmutableCollections$SetN" ∧ Fld Z Z.heap es "java/util/ImmutableCollections$SetN" "size" "I" (.int 0) ∧
 Sta Z Z.heap "java/util/ImmutableCollections" "EMPTY_LIST" "Ljava/util/ImmutableCollections$ListN;" (.ref el) ∧ Exa Z Z.heap el "java/util/ImmutableCollections$ListN" ∧ Fld Z Z.heap el "java/util/ImmutableCollections$ListN" "elements" "[Ljava/lang/Object;" (.ref le) ∧ Arv Z Z.heap le kl (.object "java/lang/Object") 0 [] .null ∧ Fld Z Z.heap el "java/util/ImmutableCollections$ListN" "allowNulls" "Z" (.int 0) ∧
 Sta Z Z.heap "java/util/ImmutableCollections" "EMPTY" "Ljava/lang/Object;" (.ref em) ∧ Exa Z Z.heap em "java/lang/Object" ∧ Mro Z "[Ljava/lang/Object;" mr
/-- a list: fresh (its array is dc), or with its own array of ten at t -/
def LL (Z : State) (h : Heap) (dc a t : Addr) (vs : List Value) : Prop :=
 (t = dc ∧ vs = [] ∧ ∃ mc, AL0 Z h a dc mc) ∨ (Z.heap.size ≤ t ∧ vs.length ≤ 10 ∧ ∃ k mc, ALn Z h a t k vs mc)
theorem LL.ext {Z : State} {h h' : Heap} {dc a t : Addr} {vs : List Value} (E : Ext h h') (S : LL Z h dc a t vs) : LL Z h' dc a t vs := by
 rcases S with ⟨h1, h2, mc, h3⟩ | ⟨h1, h2, k, mc, h3⟩
 · exact Or.inl ⟨h1, h2, mc, h3.ext E⟩
 · exact Or.inr ⟨h1, h2, k, mc, h3.ext E⟩
theorem AL0.keep {Z : State} {h h' : Heap} {a dc : Addr} {mc : Int32} {ws : List Addr} (K : Keep h h' ws) (h1 : a ∉ ws) (S : AL0 Z h a dc mc) : AL0 Z h' a dc mc := ⟨S.1.keep K, S.2.1.keep K h1, S.2.2.1.keep K h1, S.2.2.2.keep K h1⟩
theorem ALn.keep {Z : State} {h h' : Heap} {a t : Addr} {k : ClassId} {vs : List Value} {mc : Int32} {ws : List Addr} (K : Keep h h' ws) (h1 : a ∉ ws) (h2 : t ∉ ws) (S : ALn Z h a t k vs mc) : ALn Z h' a t k vs mc := ⟨S.1.keep K, S.2.1.keep K h1, S.2.2.1.keep K h1, S.2.2.2.1.keep K h1, S.2.2.2.2.1.keep K h2, S.2.2.2.2.2.1.keep K, S.2.2.2.2.2.2⟩
theorem LL.keep {Z : State} {h h' : Heap} {dc a t : Addr} {vs : List Value} {ws : List Addr} (K : Keep h h' ws) (h1 : a ∉ ws) (h2 : t = dc ∨ t ∉ ws) (hdc : dc < Z.heap.size) (S : LL Z h dc a t vs) : LL Z h' dc a t vs := by
 rcases S with ⟨q1, q2, mc, q3⟩ | ⟨q1, q2, k, mc, q3⟩
 · exact Or.inl ⟨q1, q2, mc, q3.keep K h1⟩
 · exact Or.inr ⟨q1, q2, k, mc, q3.keep K h1 (h2.resolve_left fun z => absurd hdc (by rw [← z]; exact Nat.not_lt.mpr q1))⟩
theorem LL.exa {Z : State} {h : Heap} {dc a t : Addr} {vs : List Value} (S : LL Z h dc a t vs) : Exa Z h a "java/util/ArrayList" := by
 rcases S with ⟨-, -, mc, q3⟩ | ⟨-, -, k, mc, q3⟩
 · exact q3.1
 · exact q3.1
theorem LL.size {Z : State} {h : Heap} {dc a t : Addr} {vs : List Value} (S : LL Z h dc a t vs) : Fld Z h a "java/util/ArrayList" "size" "I" (.int (Int32.ofNat vs.length)) := by
 rcases S with ⟨-, rfl, mc, q3⟩ | ⟨-, -, k, mc, q3⟩
 · exact q3.2.2.1
 · exact q3.2.2.1
theorem LL.len {Z : State} {h : Heap} {dc a t : Addr} {vs : List Value} (S : LL Z h dc a t vs) : vs.length ≤ 10 := by
 rcases S with ⟨-, rfl, -⟩ | ⟨-, h, -⟩
 · simp
 · exact h
/-- the values of a list: references to Objects, none of them em -/
def Obs (Z : State) (h : Heap) (em : Addr) (vs : List Value) : Prop := ∀ u ∈ vs, ∃ x, u = .ref x ∧ Ins Z h x "java/lang/Object" true ∧ x ≠ em
theorem Obs.keep {Z : State} {h h' : Heap} {em : Addr} {vs : List Value} {ws : List Addr} (K : Keep h h' ws) (S : Obs Z h em vs) : Obs Z h' em vs := fun u hu => by
 obtain ⟨x, e, I, n⟩ := S u hu
 exact ⟨x, e, own_insKeep K I, n⟩
theorem Obs.ext {Z : State} {h h' : Heap} {em : Addr} {vs : List Value} (E : Ext h h') (S : Obs Z h em vs) : Obs Z h' em vs := fun u hu => by
 obtain ⟨x, e, I, n⟩ := S u hu
 exact ⟨x, e, I.ext E, n⟩
/-- what List.copyOf gives: EMPTY_LIST, or a list of its own -/
def OL (Z : State) (h : Heap) (em el b : Addr) (vs : List Value) : Prop := (vs = [] ∧ b = el) ∨ IL Z h em b vs
theorem rmLCP0 (l : Launch) (Z : State) (a0 : Array Value) (hw : HW Z a0) (hEL : EW Z a0 consts_1) {dc : Addr} {kd : ClassId} {es el em mr le : Addr} {kl : ClassId} (ST : Stt Z dc kd es el em mr le kl) (a t : Addr) (h0 : Heap) (hx : Ext Z.heap h0) (T : LL Z h0 dc a t []) :
   Met l Z consts_1 mN63 jdk_56_method_3_code 2 (some (.object "java/util/List")) [] (rM 9 4 30 150) #[.ref a] h0 [] (fun v h => v = some (.ref el) ∧ h = h0) := by
 obtain ⟨Sd, Dd, Xd, Ss, Xs, Fz, Sl, Xl, Fe0, Al0, Fn0, Se, Xe, Mr⟩ := id ST
 have X_a := T.exa
 have Fs := T.size
 refine Met.of (a0 := a0) (by decide +kernel) hEL hx ?_
 intro p e s m below meth c S0 V w hs hsf
 replace w := (((((((w.to (g' := mkF m 0 #[.val (.ref a), .unset] [])).aloadN (d37 0 rfl) rfl).instNo (wq hw 247 rfl) (X_a) (own_na12 hw) (d37 1 rfl)).ifNo (d37 2 rfl) (by decide)).aloadN (d37 3 rfl) rfl).instNo (wq hw 252 rfl) (X_a) (own_naN hw) (d37 4 rfl)).ifYes (d37 5 rfl) (by decide)).aloadN (pc' := 32) (d37 6 rfl) rfl
 obtain ⟨v1, V1, h1, hq1, A1, w⟩ := w.face (xi := mN64) (y' := mN16) (W := 0) (C := "java/util/ArrayList") (b := a) (w.pays 0 (rmALe l Z a0 hw hEL a _ h0 w.old Fs) (wq hw 261 rfl) (wq hw 46 rfl) all0 nle nle) (wq hw 253 rfl) (wq hw 254 rfl) (wq hw 255 rfl) (wq hw 256 rfl) (wq hw 257 rfl) (wq hw 258 rfl) (wq hw 259 rfl) (wq hw 260 rfl) (argsL := []) (rest := []) (by decide) (X_a) pd_2 rfl rfl nlr rfl (d37 7 rfl) nle nle (pc' := 37)
 obtain ⟨rfl, he1⟩ := hq1
 replace w := w.toS [(.int (1 : Int32))]
 replace he1 := he1.symm
 subst he1
 replace w := w.ifNo (pc' := 40) (d37 8 rfl) (by decide)
 obtain ⟨v2, V2, h2, hq2, A2, w⟩ := w.static (y' := mN36) (W := 0) (w.pays 0 (rmLO0 l Z a0 hw hEL el Sl h0 w.old) (wq hw 264 rfl) (wq hw 242 rfl) all0 nle nle) (wq hw 262 rfl) (wq hw 263 rfl) (wq hw 242 rfl) (wq hw 264 rfl) (argsL := []) (rest := []) (by decide) pd_26 rfl rfl nlr rfl (d37 9 rfl) nle nle (pc' := 43)
 obtain ⟨rfl, he2⟩ := hq2
 replace w := w.toS [(.ref el)]
 replace he2 := he2.symm
 subst he2
 exact w.retA (d37 10 rfl) ⟨rfl, rfl⟩ nle nle
theorem rmLCPn (l : Launch) (Z : State) (a0 : Array Value) (hw : HW Z a0) (hEL : EW Z a0 consts_1) {dc : Addr} {kd : ClassId} {es el em mr le : Addr} {kl : ClassId} (ST : Stt Z dc kd es el em mr le kl) (a t : Addr) (k : ClassId) (mc : Int32) (vs : List Value) (hv1 : vs ≠ []) (h10 : vs.length ≤ 10) (h0 : Heap) (hx : Ext Z.heap h0) (T : ALn Z h0 a t k vs mc) (HI : Obs Z h0 em vs) :
   Met l Z consts_1 mN63 jdk_56_method_3_code 2 (some (.object "java/util/List")) [] (rM 9 4 30 150) #[.ref a] h0 [] (fun v h => ∃ b, v = some (.ref b) ∧ Ext h0 h ∧ IL Z h em b vs) := by
 obtain ⟨Sd, Dd, Xd, Ss, Xs, Fz, Sl, Xl, Fe0, Al0, Fn0, Se, Xe, Mr⟩ := id ST
 have X_a := T.1
 have Fs := T.2.2.1
 have hl0 : vs.length ≠ 0 := fun q => hv1 (List.eq_nil_of_length_eq_zero q)
 have hn0 : ¬ Int32.ofNat vs.length = 0 := fun z => hl0 ((own_eq32 (a := vs.length) (b := 0) (by omega) (by omega)).mp z)
 refine Met.of (a0 := a0) (by decide +kernel) hEL hx ?_
 intro p e s m below meth c S0 V w hs hsf
 replace w := (((((((w.to (g' := mkF m 0 #[.val (.ref a), .unset] [])).aloadN (d37 0 rfl) rfl).instNo (wq hw 247 rfl) (X_a) (own_na12 hw) (d37 1 rfl)).ifNo (d37 2 rfl) (by decide)).aloadN (d37 3 rfl) rfl).instNo (wq hw 252 rfl) (X_a) (own_naN hw) (d37 4 rfl)).ifYes (d37 5 rfl) (by decide)).aloadN (pc' := 32) (d37 6 rfl) rfl
 obtain ⟨v1, V1, h1, hq1, A1, w⟩ := w.face (xi := mN64) (y' := mN16) (W := 0) (C := "java/util/ArrayList") (b := a) (w.pays 0 (rmALe l Z a0 hw hEL a _ h0 w.old Fs) (wq hw 261 rfl) (wq hw 46 rfl) all0 nle nle) (wq hw 253 rfl) (wq hw 254 rfl) (wq hw 255 rfl) (wq hw 256 rfl) (wq hw 257 rfl) (wq hw 258 rfl) (wq hw 259 rfl) (wq hw 260 rfl) (argsL := []) (rest := []) (by decide) (X_a) pd_2 rfl rfl nlr rfl (d37 7 rfl) nle nle (pc' := 37)
 obtain ⟨rfl, he1⟩ := hq1
 replace w := w.toS [(.int (if Int32.ofNat vs.length = 0 then 1 else 0))]
 replace he1 := he1.symm
 subst he1
 rw [if_neg hn0] at w
 replace w := (w.ifYes (d37 8 rfl) (by decide)).aloadN (pc' := 45) (d37 11 rfl) rfl
 have HI1 := fun u hu => (HI u hu).imp fun x q => And.intro q.1 q.2.1
 obtain ⟨v2, V2, h2, hq2, A2, w⟩ := w.face (xi := mN65) (y' := mN47) (W := 0) (C := "java/util/ArrayList") (b := a) (w.pays 0 (rmTOA l Z a0 hw hEL mr Mr a t k vs mc h10 h0 w.old T HI1) (wq hw 521 rfl) (wq hw 46 rfl) all0 nle nle) (wq hw 516 rfl) (wq hw 202 rfl) (wq hw 203 rfl) (wq hw 517 rfl) (wq hw 518 rfl) (wq hw 519 rfl) (wq hw 520 rfl) (wq hw 260 rfl) (argsL := []) (rest := []) (by decide) (X_a) pd_12 rfl rfl nlr rfl (d37 12 rfl) nle nle (pc' := 50)
 obtain ⟨d, kd', rfl, E2, gd, D, O⟩ := hq2
 replace w := w.toS [(.ref d)]
 have HI2 := Obs.ext E2 HI
 obtain ⟨v3, V3, h3, hq3, A3, w⟩ := w.static (y' := mN59) (W := 0) (w.pays 0 (rmLOA l Z a0 hw hEL em Se d kd' vs hv1 h10 h2 w.old D HI2) (wq hw 530 rfl) (wq hw 242 rfl) all0 nle nle) (wq hw 528 rfl) (wq hw 529 rfl) (wq hw 242 rfl) (wq hw 530 rfl) (argsL := [(.ref d)]) (rest := []) (by decide) pd_25 rfl rfl nlr rfl (d37 13 rfl) nle nle (pc' := 53)
 obtain ⟨b, rfl, E3, T3⟩ := hq3
 replace w := w.toS [(.ref b)]
 exact w.retA (d37 14 rfl) ⟨b, rfl, extT E2 E3, T3⟩ nle nle
theorem rmLCPe (l : Launch) (Z : State) (a0 : Array Value) (hw : HW Z a0) (hEL : EW Z a0 consts_1) {dc : Addr} {kd : ClassId} {es el em mr le : Addr} {kl : ClassId} (ST : Stt Z dc kd es el em mr le kl) (h0 : Heap) (hx : Ext Z.heap h0) :
   Met l Z consts_1 mN63 jdk_56_method_3_code 2 (some (.object "java/util/List")) [] (rM 9 4 30 150) #[.ref el] h0 [] (fun v h => v = some (.ref el) ∧ h = h0) := by
 obtain ⟨Sd, Dd, Xd, Ss, Xs, Fz, Sl, Xl, Fe0, Al0, Fn0, Se, Xe, Mr⟩ := id ST
 have X_el := Xl.ext hx
 have Fn := Fn0.ext hx
 refine Met.of (a0 := a0) (by decide +kernel) hEL hx ?_
 intro p e s m below meth c S0 V w hs hsf
 replace w := (((((((((((((w.to (g' := mkF m 0 #[.val (.ref el), .unset] [])).aloadN (d37 0 rfl) rfl).instNo (wq hw 247 rfl) (X_el) (own_nN12 hw) (d37 1 rfl)).ifNo (d37 2 rfl) (by decide)).aloadN (d37 3 rfl) rfl).inst (wq hw 252 rfl) (Ins.of_exa X_el (wq hw 318 rfl)) (d37 4 rfl)).ifNo (d37 5 rfl) (by decide)).aloadN (d37 15 rfl) rfl).cast (wq hw 252 rfl) (Ins.of_exa X_el (wq hw 318 rfl)) (d37 16 rfl)).astoreN (L' := #[.val (.ref el), .val (.ref el)]) (d37 17 rfl) rfl).aloadN (d37 18 rfl) rfl).getFV (Or.inr (wq hw 319 rfl)) Via.refl Fn (d37 19 rfl)).ifNo (d37 20 rfl) (by decide)).aloadN (pc' := 27) (d37 21 rfl) rfl
 replace w := w.cast (wq hw 321 rfl) (Ins.of_exa X_el (wq hw 322 rfl)) (d37 22 rfl) (pc' := 30)
 exact w.retA (d37 23 rfl) ⟨rfl, rfl⟩ nle nle
theorem rmLCOe (l : Launch) (Z : State) (a0 : Array Value) (hw : HW Z a0) (hEL : EW Z a0 consts_1) {dc : Addr} {kd : ClassId} {es el em mr le : Addr} {kl : ClassId} (ST : Stt Z dc kd es el em mr le kl) (h0 : Heap) (hx : Ext Z.heap h0) :
   Met l Z consts_1 mN66 jdk_40_method_48_code 1 (some (.object "java/util/List")) [] (rM 10 4 30 170) #[.ref el] h0 [] (fun v h => v = some (.ref el) ∧ h = h0) := by
 refine Met.of (a0 := a0) (by decide +kernel) hEL hx ?_
 intro p e s m below meth c S0 V w hs hsf
 replace w := (w.to (g' := mkF m 0 #[.val (.ref el)] [])).aloadN (pc' := 1) (d36 0 rfl) rfl
 obtain ⟨v1, V1, h1, hq1, A1, w⟩ := w.static (y' := mN63) (W := 0) (w.pays 0 (rmLCPe l Z a0 hw hEL ST h0 w.old) (wq hw 246 rfl) (wq hw 121 rfl) all0 nle nle) (wq hw 244 rfl) (wq hw 245 rfl) (wq hw 121 rfl) (wq hw 246 rfl) (argsL := [(.ref el)]) (rest := []) (by decide) pd_27 rfl rfl nlr rfl (d36 1 rfl) nle nle (pc' := 4)
 obtain ⟨rfl, he1⟩ := hq1
 replace w := w.toS [(.ref el)]
 replace he1 := he1.symm
 subst he1
 exact w.retA (d36 2 rfl) ⟨rfl, rfl⟩ nle nle
theorem rmLCO (l : Launch) (Z : State) (a0 : Array Value) (hw : HW Z a0) (hEL : EW Z a0 consts_1) {dc : Addr} {kd : ClassId} {es el em mr le : Addr} {kl : ClassId} (ST : Stt Z dc kd es el em mr le kl) (a t : Addr) (vs : List Value) (h0 : Heap) (hx : Ext Z.heap h0) (T : LL Z h0 dc a t vs) (HI : Obs Z h0 em vs) :
   Met l Z consts_1 mN66 jdk_40_method_48_code 1 (some (.object "java/util/List")) [] (rM 10 4 30 170) #[.ref a] h0 [] (fun v h => ∃ b, v = some (.ref b) ∧ Ext h0 h ∧ OL Z h em el b vs) := by
 by_cases hv1 : vs = []
 · subst hv1
   refine Met.of (a0 := a0) (by decide +kernel) hEL hx ?_
   intro p e s m below meth c S0 V w hs hsf
   replace w := (w.to (g' := mkF m 0 #[.val (.ref a)] [])).aloadN (pc' := 1) (d36 0 rfl) rfl
   obtain ⟨v1, V1, h1, hq1, A1, w⟩ := w.static (y' := mN63) (W := 0) (w.pays 0 (rmLCP0 l Z a0 hw hEL ST a t h0 w.old T) (wq hw 246 rfl) (wq hw 121 rfl) all0 nle nle) (wq hw 244 rfl) (wq hw 245 rfl) (wq hw 121 rfl) (wq hw 246 rfl) (argsL := [(.ref a)]) (rest := []) (by decide) pd_27 rfl rfl nlr rfl (d36 1 rfl) nle nle (pc' := 4)
   obtain ⟨rfl, he1⟩ := hq1
   replace w := w.toS [(.ref el)]
   replace he1 := he1.symm
   subst he1
   exact w.retA (d36 2 rfl) ⟨el, rfl, extR _, Or.inl ⟨rfl, rfl⟩⟩ nle nle
 rcases T with ⟨-, q, -⟩ | ⟨-, h10, k, mc, T⟩
 · exact absurd q hv1
 refine Met.of (a0 := a0) (by decide +kernel) hEL hx ?_
 intro p e s m below meth c S0 V w hs hsf
 replace w := (w.to (g' := mkF m 0 #[.val (.ref a)] [])).aloadN (pc' := 1) (d36 0 rfl) rfl
 obtain ⟨v1, V1, h1, hq1, A1, w⟩ := w.static (y' := mN63) (W := 0) (w.pays 0 (rmLCPn l Z a0 hw hEL ST a t k mc vs hv1 h10 h0 w.old T HI) (wq hw 246 rfl) (wq hw 121 rfl) all0 nle nle) (wq hw 244 rfl) (wq hw 245 rfl) (wq hw 121 rfl) (wq hw 246 rfl) (argsL := [(.ref a)]) (rest := []) (by decide) pd_27 rfl rfl nlr rfl (d36 1 rfl) nle nle (pc' := 4)
 obtain ⟨b, rfl, E1, T1⟩ := hq1
 replace w := w.toS [(.ref b)]
 exact w.retA (d36 2 rfl) ⟨b, rfl, E1, Or.inr T1⟩ nle nle
theorem rmCR4g (l : Launch) (Z : State) (a0 : Array Value) (hw : HW Z a0) (hEL : EW Z a0 consts_1) (mr : Addr) (Mr : Mro Z "[Ljava/lang/Object;" mr) (t : Addr) (k : ClassId) (N : Nat) (us : List Value) (hN : us.length = N) (hl : N ≤ 10) (lo n : Nat) (hlo : lo + n ≤ N) (h0 : Heap) (hx : Ext Z.heap h0) (A : Arv Z h0 t k (.object "java/lang/Object") (Int32.ofNat N) us .null) (HI : ∀ u ∈ (us.drop lo).take n, ∃ x, u = .ref x ∧ Ins Z h0 x "java/lang/Object" true) :
   Met l Z consts_1 mN48 jdk_65_method_130_code 6 (some (.array (.object "java/lang/Object"))) [] (rM 1 1 10 60) #[.ref t, .int (Int32.ofNat lo), .int (Int32.ofNat (lo + n)), .ref mr] h0 [] (fun v h => ∃ d kd, v = some (.ref d) ∧ Ext h0 h ∧ h0.size ≤ d ∧ Arv Z h d kd (.object "java/lang/Object") (Int32.ofNat n) ((us.drop lo).take n) .null) := by
 have n1 := own_n32 (n := n) (by omega)
 have nlo := own_n32 (n := lo) (by omega)
 have nN := own_n32 (n := N) (by omega)
 have es := own_sub32 (a := lo + n) (b := lo) (by omega) (by omega)
 rw [Nat.add_sub_cancel_left] at es
 have es2 : Int32.ofNat N - Int32.ofNat lo = Int32.ofNat (N - lo) := own_sub32 (a := N) (b := lo) (by omega) (by omega)
 refine Met.of (a0 := a0) (by decide +kernel) hEL hx ?_
 intro p e s m below meth c S0 V w hs hsf
 replace w := w.to (g' := mkF m 0 #[.val (.ref t), .val (.int (Int32.ofNat lo)), .val (.int (Int32.ofNat (lo + n))), .val (.ref mr), .unset, .unset] [])
 have BZ := w.old
 have B0 := extR h0
 replace w := ((w.iloadN (d35 0 rfl) rfl).iloadN (d35 1 rfl) rfl).isub (pc' := 3) (d35 2 rfl)
 rw [es] at w
 replace w := ((((((w.istore (L' := #[.val (.ref t), .val (.int (Int32.ofNat lo)), .val (.int (Int32.ofNat (lo + n))), .val (.ref mr), .val (.int (Int32.ofNat n)), .unset]) (d35 3 rfl) rfl).iload (d35 4 rfl) rfl).ifYes (pc' := 42) (d35 5 rfl) ((if0 _ _).trans (flt n1.1).2.1)).aloadN (d35 6 rfl) rfl).ldcM (wq hw 229 rfl) Mr (d35 7 rfl)).acmp true (d35 8 rfl) (decide_eq_true rfl)).iload (pc' := 50) (d35 9 rfl) rfl
 obtain ⟨h1, d, k_d, g_d, E1, V_d, X_d, O_d, A1, w⟩ := w.anew (cap := 10) (ad := "[Ljava/lang/Object;") (wq hw 230 rfl) (wq hw 231 rfl) (d35 10 rfl) n1.1 (by rw [n1.2.1]; omega) (by decide) nle nle (pc' := 53)
 have ge_d_Z : Z.heap.size ≤ d := Nat.le_trans BZ.1 (Nat.le_of_eq g_d.symm)
 have ge_d_0 : h0.size ≤ d := Nat.le_trans B0.1 (Nat.le_of_eq g_d.symm)
 have B0 := extT B0 E1
 have V1 := V_d.pad (vs' := List.replicate n .null) (pad_rep [] _ n)
 have A1' := A.ext E1
 replace w := (((((((((w.goto (d35 11 rfl)).astore (L' := #[.val (.ref t), .val (.int (Int32.ofNat lo)), .val (.int (Int32.ofNat (lo + n))), .val (.ref mr), .val (.int (Int32.ofNat n)), .val (.ref d)]) (d35 12 rfl) rfl).aloadN (d35 13 rfl) rfl).iloadN (d35 14 rfl) rfl).aload (d35 15 rfl) rfl).iconst (0 : Int32) (d35 16 rfl)).aloadN (d35 17 rfl) rfl).arrlen A1' (d35 18 rfl)).iloadN (d35 19 rfl) rfl).isub (pc' := 79) (d35 20 rfl)
 rw [es2] at w
 replace w := w.iload (pc' := 81) (d35 21 rfl) rfl
 have hqn : ¬ Int32.ofNat (N - lo) < Int32.ofNat n := fun z => absurd ((own_lt32 (by omega) (by omega)).mp z) (by omega)
 obtain ⟨v2, V2, h2, hq2, A2, w⟩ := w.static (y' := mN44) (W := 4) (w.pays 4 (rmMIN l Z a0 hw hEL (Int32.ofNat (N - lo)) (Int32.ofNat n) hqn h1 w.old) (wq hw 157 rfl) (wq hw 156 rfl) all0 nle nle) (wq hw 232 rfl) (wq hw 155 rfl) (wq hw 156 rfl) (wq hw 157 rfl) (argsL := [(.int (Int32.ofNat (N - lo))), (.int (Int32.ofNat n))]) (rest := [(.int (0 : Int32)), (.ref d), (.int (Int32.ofNat lo)), (.ref t)]) (by decide) pd_9 rfl rfl nlr rfl (d35 22 rfl) nle nle (pc' := 84)
 obtain ⟨rfl, he2⟩ := hq2
 replace w := w.toS [(.int (Int32.ofNat n)), (.int (0 : Int32)), (.ref d), (.int (Int32.ofNat lo)), (.ref t)]
 replace he2 := he2.symm
 subst he2
 have HS : StoL Z h1 d ((us.drop lo).take n) := own_stoL V1 O_d _ (fun u hu => by obtain ⟨x, e, I⟩ := HI u hu; exact ⟨x, e, I.ext E1⟩)
 obtain ⟨h3, K3, A3', C3, w⟩ := w.arrcopyR (W := 0) (us := (us.drop lo).take n) (wq hw 233 rfl) (wq hw 236 rfl) (wq hw 234 rfl) (wq hw 235 rfl) A1' V1 rfl rfl HS (by decide) nlo.1 (by decide) n1.1 (by rw [n1.2.1, nlo.2.1, nN.2.1]; omega) (by rw [n1.2.1]; exact Nat.le_of_eq (Nat.zero_add _)) (by rw [n1.2.1, nlo.2.1]; exact (own_rangeA us .null lo n (by omega)).symm) (by rw [n1.2.1, List.length_replicate]; exact Nat.le_of_eq (Nat.zero_add _)) ge_d_Z rfl (d35 23 rfl) nle (Nat.le_of_eq rfl) nle (pc' := 87)
 replace w := w.aload (pc' := 89) (d35 24 rfl) rfl
 have A4' : Arv Z h3 d k_d (.object "java/lang/Object") (Int32.ofNat n) ((us.drop lo).take n) .null := by
   have e : (List.replicate n Value.null).take (0 : Int32).toNatClampNeg ++ (us.drop lo).take n ++ (List.replicate n Value.null).drop ((0 : Int32).toNatClampNeg + (Int32.ofNat n).toNatClampNeg) = (us.drop lo).take n := by
     rw [n1.2.1]
     show [] ++ (us.drop lo).take n ++ (List.replicate n Value.null).drop (0 + n) = _
     have e2 : (List.replicate n Value.null).drop n = [] := List.drop_eq_nil_of_le (by rw [List.length_replicate]; exact Nat.le_refl _)
     rw [Nat.zero_add, e2]; simp
   rw [e] at A3'; exact A3'
 exact w.retA (d35 25 rfl) ⟨d, k_d, rfl, extK B0 K3 (allS ge_d_0 all0), ge_d_0, A4'⟩ nle nle
theorem rmCR3g (l : Launch) (Z : State) (a0 : Array Value) (hw : HW Z a0) (hEL : EW Z a0 consts_1) (mr : Addr) (Mr : Mro Z "[Ljava/lang/Object;" mr) (t : Addr) (k : ClassId) (N : Nat) (us : List Value) (hN : us.length = N) (hl : N ≤ 10) (lo n : Nat) (hlo : lo + n ≤ N) (h0 : Heap) (hx : Ext Z.heap h0) (A : Arv Z h0 t k (.object "java/lang/Object") (Int32.ofNat N) us .null) (X_t : Exa Z h0 t "[Ljava/lang/Object;") (HI : ∀ u ∈ (us.drop lo).take n, ∃ x, u = .ref x ∧ Ins Z h0 x "java/lang/Object" true) :
   Met l Z consts_1 mN49 jdk_65_method_129_code 3 (some (.array (.object "java/lang/Object"))) [] (rM 2 1 10 78) #[.ref t, .int (Int32.ofNat lo), .int (Int32.ofNat (lo + n))] h0 [] (fun v h => ∃ d kd, v = some (.ref d) ∧ Ext h0 h ∧ h0.size ≤ d ∧ Arv Z h d kd (.object "java/lang/Object") (Int32.ofNat n) ((us.drop lo).take n) .null) := by
 refine Met.of (a0 := a0) (by decide +kernel) hEL hx ?_
 intro p e s m below meth c S0 V w hs hsf
 replace w := (((((w.to (g' := mkF m 0 #[.val (.ref t), .val (.int (Int32.ofNat lo)), .val (.int (Int32.ofNat (lo + n)))] [])).aloadN (d34 0 rfl) rfl).iloadN (d34 1 rfl) rfl).iloadN (d34 2 rfl) rfl).aloadN (d34 3 rfl) rfl).getClass (W := 3) (wq hw 220 rfl) (wq hw 221 rfl) (wq hw 251 rfl) (wq hw 223 rfl) (wq hw 222 rfl) (wq hw 224 rfl) (X_t) Mr rfl (d34 4 rfl) (by decide) nlr (by decide) (pc' := 7)
 obtain ⟨v1, V1, h1, hq1, A1, w⟩ := w.static (y' := mN48) (W := 0) (w.pays 0 (rmCR4g l Z a0 hw hEL mr Mr t k N us hN hl lo n hlo h0 w.old A HI) (wq hw 228 rfl) (wq hw 218 rfl) all0 nle nle) (wq hw 226 rfl) (wq hw 227 rfl) (wq hw 218 rfl) (wq hw 228 rfl) (argsL := [(.ref t), (.int (Int32.ofNat lo)), (.int (Int32.ofNat (lo + n))), (.ref mr)]) (rest := []) (by decide) pd_19 rfl rfl nlr rfl (d34 5 rfl) nle nle (pc' := 10)
 obtain ⟨d, kd, rfl, E1, gd, D⟩ := hq1
 replace w := w.toS [(.ref d)]
 exact w.retA (d34 6 rfl) ⟨d, kd, rfl, E1, gd, D⟩ nle nle
theorem rmSRC (l : Launch) (Z : State) (a0 : Array Value) (hw : HW Z a0) (hEL : EW Z a0 consts_1) (lo hi n : Nat) (h1 : lo ≤ hi) (h2 : hi ≤ n) (hn : n ≤ 10) (h0 : Heap) (hx : Ext Z.heap h0) :
   Met l Z consts_1 mN67 jdk_39_method_15_code 3 none [] (rM 0 0 0 0) #[.int (Int32.ofNat lo), .int (Int32.ofNat hi), .int (Int32.ofNat n)] h0 [] (fun v h => v = none ∧ h = h0) := by
 have n1 := own_n32 (n := lo) (by omega)
 refine Met.of (a0 := a0) (by decide +kernel) hEL hx ?_
 intro p e s m below meth c S0 V w hs hsf
 replace w := ((((((((w.to (g' := mkF m 0 #[.val (.int (Int32.ofNat lo)), .val (.int (Int32.ofNat hi)), .val (.int (Int32.ofNat n))] [])).iloadN (d29 0 rfl) rfl).ifYes (pc' := 31) (d29 1 rfl) ((if0 _ _).trans (flt n1.1).2.1)).iloadN (d29 2 rfl) rfl).iloadN (d29 3 rfl) rfl).icmpYes (pc' := 63) (d29 4 rfl) ((flt (fun z => absurd ((own_lt32 (a := n) (b := hi) (by omega) (by omega)).mp z) (by omega))).2.2.2)).iloadN (d29 5 rfl) rfl).iloadN (d29 6 rfl) rfl).icmpYes (pc' := 109) (d29 7 rfl) ((flt (fun z => absurd ((own_lt32 (a := hi) (b := lo) (by omega) (by omega)).mp z) (by omega))).2.2.2)
 exact w.ret0 (d29 8 rfl) ⟨rfl, rfl⟩ nle nle
theorem rmABi2 (l : Launch) (Z : State) (a0 : Array Value) (hw : HW Z a0) (hEL : EW Z a0 consts_1) (b : Addr) (h0 : Heap) (hx : Ext Z.heap h0) (X_b : Exa Z h0 b "java/util/ArrayList$SubList") (Fm : Fld Z h0 b "java/util/AbstractList" "modCount" "I" (.int 0)) (ge_b_Z : Z.heap.size ≤ b) :
   Met l Z consts_1 mN13 jdk_39_method_1_code 1 none [] (rM 2 0 0 26) #[.ref b] h0 [] (fun v h => v = none ∧ ∃ sl, Wr h0 h b sl (.int 0) ∧ sl = RoadKit.slotOf Z "java/util/AbstractList" "modCount" "I" ∧ Fld Z h b "java/util/AbstractList" "modCount" "I" (.int 0)) := by
 refine Met.of (a0 := a0) (by decide +kernel) hEL hx ?_
 intro p e s m below meth c S0 V w hs hsf
 replace w := (w.to (g' := mkF m 0 #[.val (.ref b)] [])).aloadN (pc' := 1) (d12 0 rfl) rfl
 obtain ⟨v1, V1, h1, hq1, A1, w⟩ := w.ctor (y' := mN12) (W := 0) (a := b) (w.pays 0 (rmACi l Z a0 hw hEL b h0 w.old) (wq hw 61 rfl) (wq hw 60 rfl) all0 nle nle) rfl (wq hw 56 rfl) (wq hw 57 rfl) (wq hw 61 rfl) (argsL := []) (rest := []) (by decide) pd_7 rfl rfl nlr rfl (d12 1 rfl) nle nle (pc' := 4)
 obtain ⟨rfl, he1⟩ := hq1
 replace w := w.toS []
 replace he1 := he1.symm
 subst he1
 replace w := (w.aloadN (d12 2 rfl) rfl).iconst (pc' := 6) (0 : Int32) (d12 3 rfl)
 obtain ⟨h2, W2, K2, Fw2, A2, w⟩ := w.putF (ty := .int) (wq hw 63 rfl) (Fm) (X_b) (Or.inl (wq hw 180 rfl)) (wq hw 171 rfl) (by decide) rfl rfl (Safe.exa w.hZ.alike X_b (by decide) (by decide)) (ge_b_Z) (d12 4 rfl) (pc' := 9)
 exact w.ret0 (d12 5 rfl) ⟨rfl, _, W2, rfl, Fw2⟩ nle nle
/-- a view of root's elements from lo on, n of them, made when root's modCount was mc -/
def SLp (Z : State) (h : Heap) (b root : Addr) (lo n mc : Int32) : Prop :=
 Exa Z h b "java/util/ArrayList$SubList" ∧ Fld Z h b "java/util/ArrayList$SubList" "root" "Ljava/util/ArrayList;" (.ref root) ∧ Fld Z h b "java/util/ArrayList$SubList" "offset" "I" (.int lo) ∧ Fld Z h b "java/util/ArrayList$SubList" "size" "I" (.int n) ∧ Fld Z h b "java/util/AbstractList" "modCount" "I" (.int mc)
theorem own_srp {Z : State} {a0 : Array Value} (hw : HW Z a0) : RoadKit.slotOf Z "java/util/ArrayList$SubList" "root" "Ljava/util/ArrayList;" ≠ RoadKit.slotOf Z "java/util/ArrayList$SubList" "parent" "Ljava/util/ArrayList$SubList;" := slot_ne (C := "java/util/ArrayList$SubList") (Or.inr (wq hw 182 rfl)) (Or.inr (wq hw 184 rfl)) (by decide) (t := (.object "java/util/ArrayList")) (t' := (.object "java/util/ArrayList$SubList")) (by decide) (by decide)
theorem own_sro {Z : State} {a0 : Array Value} (hw : HW Z a0) : RoadKit.slotOf Z "java/util/ArrayList$SubList" "root" "Ljava/util/ArrayList;" ≠ RoadKit.slotOf Z "java/util/ArrayList$SubList" "offset" "I" := slot_ne (C := "java/util/ArrayList$SubList") (Or.inr (wq hw 182 rfl)) (Or.inr (wq hw 186 rfl)) (by decide) (t := (.object "java/util/ArrayList")) (t' := .int) (by decide) (by decide)
theorem own_srs {Z : State} {a0 : Array Value} (hw : HW Z a0) : RoadKit.slotOf Z "java/util/ArrayList$SubList" "root" "Ljava/util/ArrayList;" ≠ RoadKit.slotOf Z "java/util/ArrayList$SubList" "size" "I" := slot_ne (C := "java/util/ArrayList$SubList") (Or.inr (wq hw 182 rfl)) (Or.inl (wq hw 188 rfl)) (by decide) (t := (.object "java/util/ArrayList")) (t' := .int) (by decide) (by decide)
theorem own_srm {Z : State} {a0 : Array Value} (hw : HW Z a0) : RoadKit.slotOf Z "java/util/ArrayList$SubList" "root" "Ljava/util/ArrayList;" ≠ RoadKit.slotOf Z "java/util/AbstractList" "modCount" "I" := slot_ne (C := "java/util/ArrayList$SubList") (Or.inr (wq hw 182 rfl)) (Or.inl (wq hw 180 rfl)) (by decide) (t := (.object "java/util/ArrayList")) (t' := .int) (by decide) (by decide)
theorem own_spo {Z : State} {a0 : Array Value} (hw : HW Z a0) : RoadKit.slotOf Z "java/util/ArrayList$SubList" "parent" "Ljava/util/ArrayList$SubList;" ≠ RoadKit.slotOf Z "java/util/ArrayList$SubList" "offset" "I" := slot_ne (C := "java/util/ArrayList$SubList") (Or.inr (wq hw 184 rfl)) (Or.inr (wq hw 186 rfl)) (by decide) (t := (.object "java/util/ArrayList$SubList")) (t' := .int) (by decide) (by decide)
theorem own_sps {Z : State} {a0 : Array Value} (hw : HW Z a0) : RoadKit.slotOf Z "java/util/ArrayList$SubList" "parent" "Ljava/util/ArrayList$SubList;" ≠ RoadKit.slotOf Z "java/util/ArrayList$SubList" "size" "I" := slot_ne (C := "java/util/ArrayList$SubList") (Or.inr (wq hw 184 rfl)) (Or.inl (wq hw 188 rfl)) (by decide) (t := (.object "java/util/ArrayList$SubList")) (t' := .int) (by decide) (by decide)
theorem own_spm {Z : State} {a0 : Array Value} (hw : HW Z a0) : RoadKit.slotOf Z "java/util/ArrayList$SubList" "parent" "Ljava/util/ArrayList$SubList;" ≠ RoadKit.slotOf Z "java/util/AbstractList" "modCount" "I" := slot_ne (C := "java/util/ArrayList$SubList") (Or.inr (wq hw 184 rfl)) (Or.inl (wq hw 180 rfl)) (by decide) (t := (.object "java/util/ArrayList$SubList")) (t' := .int) (by decide) (by decide)
theorem own_sos {Z : State} {a0 : Array Value} (hw : HW Z a0) : RoadKit.slotOf Z "java/util/ArrayList$SubList" "offset" "I" ≠ RoadKit.slotOf Z "java/util/ArrayList$SubList" "size" "I" := slot_ne (C := "java/util/ArrayList$SubList") (Or.inr (wq hw 186 rfl)) (Or.inl (wq hw 188 rfl)) (by decide) (t := .int) (t' := .int) (by decide) (by decide)
theorem own_som {Z : State} {a0 : Array Value} (hw : HW Z a0) : RoadKit.slotOf Z "java/util/ArrayList$SubList" "offset" "I" ≠ RoadKit.slotOf Z "java/util/AbstractList" "modCount" "I" := slot_ne (C := "java/util/ArrayList$SubList") (Or.inr (wq hw 186 rfl)) (Or.inl (wq hw 180 rfl)) (by decide) (t := .int) (t' := .int) (by decide) (by decide)
theorem own_ssm {Z : State} {a0 : Array Value} (hw : HW Z a0) : RoadKit.slotOf Z "java/util/ArrayList$SubList" "size" "I" ≠ RoadKit.slotOf Z "java/util/AbstractList" "modCount" "I" := slot_ne (C := "java/util/ArrayList$SubList") (Or.inl (wq hw 188 rfl)) (Or.inl (wq hw 180 rfl)) (by decide) (t := .int) (t' := .int) (by decide) (by decide)
theorem rmSLi (l : Launch) (Z : State) (a0 : Array Value) (hw : HW Z a0) (hEL : EW Z a0 consts_1) (b root : Addr) (lo n : Nat) (hn : lo + n ≤ 10) (mc : Int32) (h0 : Heap) (hx : Ext Z.heap h0) (hne : root ≠ b) (X_b : Exa Z h0 b "java/util/ArrayList$SubList") (Fr0 : Fld Z h0 b "java/util/ArrayList$SubList" "root" "Ljava/util/ArrayList;" .null) (Fp0 : Fld Z h0 b "java/util/ArrayList$SubList" "parent" "Ljava/util/ArrayList$SubList;" .null) (Fo0 : Fld Z h0 b "java/util/ArrayList$SubList" "offset" "I" (.int 0)) (Fs0 : Fld Z h0 b "java/util/ArrayList$SubList" "size" "I" (.int 0)) (Fm0 : Fld Z h0 b "java/util/AbstractList" "modCount" "I" (.int 0)) (ge_b_Z : Z.heap.size ≤ b) (Frm : Fld Z h0 root "java/util/AbstractList" "modCount" "I" (.int mc)) :
   Met l Z consts_1 mN68 jdk_130_method_1_code 4 none [] (rM 3 0 0 40) #[.ref b, .ref root, .int (Int32.ofNat lo), .int (Int32.ofNat (lo + n))] h0 [] (fun v h => v = none ∧ Keep h0 h [b] ∧ SLp Z h b root (Int32.ofNat lo) (Int32.ofNat n) mc) := by
 have es := own_sub32 (a := lo + n) (b := lo) (by omega) (by omega)
 rw [Nat.add_sub_cancel_left] at es
 refine Met.of (a0 := a0) (by decide +kernel) hEL hx ?_
 intro p e s m below meth c S0 V w hs hsf
 replace w := (w.to (g' := mkF m 0 #[.val (.ref b), .val (.ref root), .val (.int (Int32.ofNat lo)), .val (.int (Int32.ofNat (lo + n)))] [])).aloadN (pc' := 1) (d30 0 rfl) rfl
 obtain ⟨v1, V1, h1, hq1, A1, w⟩ := w.ctor (y' := mN13) (W := 0) (a := b) (w.pays 0 (rmABi2 l Z a0 hw hEL b h0 w.old X_b Fm0 ge_b_Z) (wq hw 55 rfl) (wq hw 54 rfl) all0 nle nle) rfl (wq hw 177 rfl) (wq hw 51 rfl) (wq hw 55 rfl) (argsL := []) (rest := []) (by decide) pd_7 rfl rfl nlr rfl (d30 1 rfl) nle nle (pc' := 4)
 obtain ⟨rfl, sl, W1, hsl, Fm1⟩ := hq1
 replace w := w.toS []
 subst hsl
 have X1 := X_b.wr W1
 have Fr1 := Fr0.other W1 (Or.inr (own_srm hw))
 have Fp1 := Fp0.other W1 (Or.inr (own_spm hw))
 have Fo1 := Fo0.other W1 (Or.inr (own_som hw))
 have Fs1 := Fs0.other W1 (Or.inr (own_ssm hw))
 have K1 := Keep.of_wr W1
 replace w := (w.aloadN (d30 2 rfl) rfl).aloadN (pc' := 6) (d30 3 rfl) rfl
 obtain ⟨h2, W2, K2, Fw2, A2, w⟩ := w.putF (ty := (.object "java/util/ArrayList")) (wq hw 181 rfl) (Fr1) (X1) (Or.inr ⟨(wq hw 182 rfl), rfl, rfl⟩) (wq hw 171 rfl) (by decide) rfl rfl (Safe.exa w.hZ.alike X1 (by decide) (by decide)) (ge_b_Z) (d30 4 rfl) (pc' := 9)
 have X2 := X1.wr W2
 have Fp2 := Fp1.other W2 (Or.inr (own_srp hw).symm)
 have Fo2 := Fo1.other W2 (Or.inr (own_sro hw).symm)
 have Fs2 := Fs1.other W2 (Or.inr (own_srs hw).symm)
 have Fm2 := Fm1.other W2 (Or.inr (own_srm hw).symm)
 replace w := (w.aloadN (d30 5 rfl) rfl).aconstNull (pc' := 11) (d30 6 rfl)
 obtain ⟨h3, W3, K3, Fw3, A3, w⟩ := w.putF (ty := (.object "java/util/ArrayList$SubList")) (wq hw 183 rfl) (Fp2) (X2) (Or.inr ⟨(wq hw 184 rfl), rfl, rfl⟩) (wq hw 171 rfl) (by decide) rfl rfl (Safe.exa w.hZ.alike X2 (by decide) (by decide)) (ge_b_Z) (d30 7 rfl) (pc' := 14)
 have X3 := X2.wr W3
 have Fr3 := Fw2.other W3 (Or.inr (own_srp hw))
 have Fo3 := Fo2.other W3 (Or.inr (own_spo hw).symm)
 have Fs3 := Fs2.other W3 (Or.inr (own_sps hw).symm)
 have Fm3 := Fm2.other W3 (Or.inr (own_spm hw).symm)
 replace w := (w.aloadN (d30 8 rfl) rfl).iloadN (pc' := 16) (d30 9 rfl) rfl
 obtain ⟨h4, W4, K4, Fw4, A4, w⟩ := w.putF (ty := .int) (wq hw 185 rfl) (Fo3) (X3) (Or.inr ⟨(wq hw 186 rfl), rfl, rfl⟩) (wq hw 171 rfl) (by decide) rfl rfl (Safe.exa w.hZ.alike X3 (by decide) (by decide)) (ge_b_Z) (d30 10 rfl) (pc' := 19)
 have X4 := X3.wr W4
 have Fr4 := Fr3.other W4 (Or.inr (own_sro hw))
 have Fs4 := Fs3.other W4 (Or.inr (own_sos hw).symm)
 have Fm4 := Fm3.other W4 (Or.inr (own_som hw).symm)
 replace w := (((w.aloadN (d30 11 rfl) rfl).iloadN (d30 12 rfl) rfl).iloadN (d30 13 rfl) rfl).isub (pc' := 23) (d30 14 rfl)
 rw [es] at w
 obtain ⟨h5, W5, K5, Fw5, A5, w⟩ := w.putF (ty := .int) (wq hw 187 rfl) (Fs4) (X4) (Or.inl (wq hw 188 rfl)) (wq hw 171 rfl) (by decide) rfl rfl (Safe.exa w.hZ.alike X4 (by decide) (by decide)) (ge_b_Z) (d30 15 rfl) (pc' := 26)
 have X5 := X4.wr W5
 have Fr5 := Fr4.other W5 (Or.inr (own_srs hw))
 have Fo5 := Fw4.other W5 (Or.inr (own_sos hw))
 have Fm5 := Fm4.other W5 (Or.inr (own_ssm hw).symm)
 have K05 := (((K1.trans K2 (allS (Or.inl (List.mem_cons_self ..)) all0)).trans K3 (allS (Or.inl (List.mem_cons_self ..)) all0)).trans K4 (allS (Or.inl (List.mem_cons_self ..)) all0)).trans K5 (allS (Or.inl (List.mem_cons_self ..)) all0)
 have Frm5 := Frm.keep K05 (ninS hne nin0)
 replace w := ((w.aloadN (d30 16 rfl) rfl).aloadN (d30 17 rfl) rfl).getFV (host := "") (Or.inl (wq hw 189 rfl)) (Via.of (wq hw 190 rfl)) Frm5 (d30 18 rfl) (pc' := 31)
 obtain ⟨h6, W6, K6, Fw6, A6, w⟩ := w.putFV (ty := .int) (wq hw 191 rfl) (Via.of (wq hw 192 rfl)) (Fm5) (X5) (wq hw 180 rfl) (wq hw 171 rfl) (by decide) rfl rfl (Safe.exa w.hZ.alike X5 (by decide) (by decide)) (ge_b_Z) (d30 19 rfl) (pc' := 34)
 exact w.ret0 (d30 20 rfl) ⟨rfl, K05.trans K6 (allS (Or.inl (List.mem_cons_self ..)) all0), X5.wr W6, Fr5.other W6 (Or.inr (own_srm hw)), Fo5.other W6 (Or.inr (own_som hw)), Fw5.other W6 (Or.inr (own_ssm hw)), Fw6⟩ nle nle
theorem rmSUB (l : Launch) (Z : State) (a0 : Array Value) (hw : HW Z a0) (hEL : EW Z a0 consts_1) (root : Addr) (lo n : Nat) (mc : Int32) (hn : lo + n ≤ 10) (h0 : Heap) (hx : Ext Z.heap h0) (X_r : Exa Z h0 root "java/util/ArrayList") (Fs : Fld Z h0 root "java/util/ArrayList" "size" "I" (.int (Int32.ofNat (lo + n)))) (Frm : Fld Z h0 root "java/util/AbstractList" "modCount" "I" (.int mc)) :
   Met l Z consts_1 mN69 jdk_38_method_56_code 3 (some (.object "java/util/List")) [] (rM 4 1 5 64) #[.ref root, .int (Int32.ofNat lo), .int (Int32.ofNat (lo + n))] h0 [] (fun v h => ∃ b, v = some (.ref b) ∧ Ext h0 h ∧ h0.size ≤ b ∧ SLp Z h b root (Int32.ofNat lo) (Int32.ofNat n) mc) := by
 refine Met.of (a0 := a0) (by decide +kernel) hEL hx ?_
 intro p e s m below meth c S0 V w hs hsf
 replace w := w.to (g' := mkF m 0 #[.val (.ref root), .val (.int (Int32.ofNat lo)), .val (.int (Int32.ofNat (lo + n)))] [])
 have BZ := w.old
 have B0 := extR h0
 replace w := (((w.iloadN (d28 0 rfl) rfl).iloadN (d28 1 rfl) rfl).aloadN (d28 2 rfl) rfl).getF (wq hw 152 rfl) Fs (d28 3 rfl) (pc' := 6)
 obtain ⟨v1, V1, h1, hq1, A1, w⟩ := w.staticUp (owner := "java/util/AbstractList") (x' := mN70) (W := 0) (w.pays 0 (rmSRC l Z a0 hw hEL lo (lo + n) (lo + n) (Nat.le_add_right ..) (Nat.le_refl _) hn h0 w.old) (wq hw 169 rfl) (wq hw 54 rfl) all0 nle nle) (wq hw 166 rfl) (wq hw 167 rfl) (wq hw 168 rfl) (wq hw 54 rfl) (wq hw 169 rfl) (argsL := [(.int (Int32.ofNat lo)), (.int (Int32.ofNat (lo + n))), (.int (Int32.ofNat (lo + n)))]) (rest := []) (by decide) pd_28 rfl rfl nlr rfl (d28 4 rfl) nle nle (pc' := 9)
 obtain ⟨rfl, he1⟩ := hq1
 replace w := w.toS []
 replace he1 := he1.symm
 subst he1
 obtain ⟨h2, b, g_b, E2, X_b, D_b, S_b, A2, w⟩ := w.new (wq hw 170 rfl) (wq hw 171 rfl) (wq hw 172 rfl) (d28 5 rfl) nle nle (pc' := 12)
 have ge_b_Z : Z.heap.size ≤ b := Nat.le_trans BZ.1 (Nat.le_of_eq g_b.symm)
 have ge_b_0 : h0.size ≤ b := Nat.le_trans B0.1 (Nat.le_of_eq g_b.symm)
 have F_b_modCount := D_b (Or.inl (wq hw 180 rfl)) (ty := .int) (by decide)
 have F_b_root := D_b (Or.inr (wq hw 182 rfl)) (ty := (.object "java/util/ArrayList")) (by decide)
 have F_b_parent := D_b (Or.inr (wq hw 184 rfl)) (ty := (.object "java/util/ArrayList$SubList")) (by decide)
 have F_b_offset := D_b (Or.inr (wq hw 186 rfl)) (ty := .int) (by decide)
 have F_b_size := D_b (Or.inl (wq hw 188 rfl)) (ty := .int) (by decide)
 have B0 := extT B0 E2
 have hne : root ≠ b := Nat.ne_of_lt (Nat.lt_of_lt_of_le X_r.lt ge_b_0)
 replace w := (((w.dup (d28 6 rfl)).aloadN (d28 7 rfl) rfl).iloadN (d28 8 rfl) rfl).iloadN (pc' := 16) (d28 9 rfl) rfl
 obtain ⟨v3, V3, h3, hq3, A3, w⟩ := w.ctor (y' := mN68) (W := 1) (a := b) (w.pays 1 (rmSLi l Z a0 hw hEL b root lo n hn mc h2 w.old hne X_b F_b_root F_b_parent F_b_offset F_b_size F_b_modCount ge_b_Z (Frm.ext B0)) (wq hw 176 rfl) (wq hw 172 rfl) all0 nle nle) rfl (wq hw 173 rfl) (wq hw 174 rfl) (wq hw 176 rfl) (argsL := [(.ref root), (.int (Int32.ofNat lo)), (.int (Int32.ofNat (lo + n)))]) (rest := [(.ref b)]) (by decide) pd_29 rfl rfl nlr rfl (d28 10 rfl) nle nle (pc' := 19)
 obtain ⟨rfl, K3, T⟩ := hq3
 replace w := w.toS [(.ref b)]
 have B0 := extK B0 K3 (allS ge_b_0 all0)
 exact w.retA (d28 11 rfl) ⟨b, rfl, B0, ge_b_0, T⟩ nle nle
theorem rmSLc (l : Launch) (Z : State) (a0 : Array Value) (hw : HW Z a0) (hEL : EW Z a0 consts_1) (b root : Addr) (lo n mc : Int32) (h0 : Heap) (hx : Ext Z.heap h0) (T : SLp Z h0 b root lo n mc) (Frm : Fld Z h0 root "java/util/AbstractList" "modCount" "I" (.int mc)) :
   Met l Z consts_1 mN71 jdk_130_method_28_code 1 none [] (rM 0 0 0 0) #[.ref b] h0 [] (fun v h => v = none ∧ h = h0) := by
 obtain ⟨X_b, Frt, Fo, Fs, Fm⟩ := T
 refine Met.of (a0 := a0) (by decide +kernel) hEL hx ?_
 intro p e s m below meth c S0 V w hs hsf
 replace w := ((((((w.to (g' := mkF m 0 #[.val (.ref b)] [])).aloadN (d33 0 rfl) rfl).getF (wq hw 181 rfl) Frt (d33 1 rfl)).getFV (host := "") (Or.inl (wq hw 189 rfl)) (Via.of (wq hw 190 rfl)) Frm (d33 2 rfl)).aloadN (d33 3 rfl) rfl).getFV (host := "") (Or.inl (wq hw 191 rfl)) (Via.of (wq hw 192 rfl)) Fm (d33 4 rfl)).icmpYes (pc' := 22) (d33 5 rfl) ((teq rfl).1)
 exact w.ret0 (d33 6 rfl) ⟨rfl, rfl⟩ nle nle
theorem rmSLt (l : Launch) (Z : State) (a0 : Array Value) (hw : HW Z a0) (hEL : EW Z a0 consts_1) (mr : Addr) (Mr : Mro Z "[Ljava/lang/Object;" mr) (b root t : Addr) (k : ClassId) (mc : Int32) (N : Nat) (us : List Value) (hN : us.length = N) (hl : N ≤ 10) (lo n : Nat) (hlo : lo + n ≤ N) (h0 : Heap) (hx : Ext Z.heap h0) (T : SLp Z h0 b root (Int32.ofNat lo) (Int32.ofNat n) mc) (Frm : Fld Z h0 root "java/util/AbstractList" "modCount" "I" (.int mc)) (Fed : Fld Z h0 root "java/util/ArrayList" "elementData" "[Ljava/lang/Object;" (.ref t))
   (A : Arv Z h0 t k (.object "java/lang/Object") (Int32.ofNat N) us .null) (X_t : Exa Z h0 t "[Ljava/lang/Object;") (HI : ∀ u ∈ (us.drop lo).take n, ∃ x, u = .ref x ∧ Ins Z h0 x "java/lang/Object" true) :
   Met l Z consts_1 mN72 jdk_130_method_16_code 1 (some (.array (.object "java/lang/Object"))) [] (rM 3 1 10 100) #[.ref b] h0 [] (fun v h => ∃ d kd, v = some (.ref d) ∧ Ext h0 h ∧ h0.size ≤ d ∧ Arv Z h d kd (.object "java/lang/Object") (Int32.ofNat n) ((us.drop lo).take n) .null) := by
 have ea := own_add32 (a := lo) (b := n) (by omega)
 have T' := T
 obtain ⟨X_b, Frt, Fo, Fs, Fm⟩ := T
 refine Met.of (a0 := a0) (by decide +kernel) hEL hx ?_
 intro p e s m below meth c S0 V w hs hsf
 replace w := (w.to (g' := mkF m 0 #[.val (.ref b)] [])).aloadN (pc' := 1) (d32 0 rfl) rfl
 obtain ⟨v1, V1, h1, hq1, A1, w⟩ := w.priv (y' := mN71) (W := 0) (C := "java/util/ArrayList$SubList") (b := b) (w.pays 0 (rmSLc l Z a0 hw hEL b root _ _ mc h0 w.old T' Frm) (wq hw 214 rfl) (wq hw 172 rfl) all0 nle nle) (wq hw 210 rfl) (wq hw 211 rfl) (wq hw 212 rfl) (wq hw 213 rfl) (wq hw 214 rfl) (argsL := []) (rest := []) (by decide) (X_b) pd_7 rfl rfl nlr rfl (d32 1 rfl) nle nle (pc' := 4)
 obtain ⟨rfl, he1⟩ := hq1
 replace w := w.toS []
 replace he1 := he1.symm
 subst he1
 replace w := (((((((((w.aloadN (d32 2 rfl) rfl).getF (wq hw 181 rfl) Frt (d32 3 rfl)).getF (wq hw 215 rfl) Fed (d32 4 rfl)).aloadN (d32 5 rfl) rfl).getF (wq hw 185 rfl) Fo (d32 6 rfl)).aloadN (d32 7 rfl) rfl).getF (wq hw 185 rfl) Fo (d32 8 rfl)).aloadN (d32 9 rfl) rfl).getF (wq hw 187 rfl) Fs (d32 10 rfl)).iadd (pc' := 24) (d32 11 rfl)
 rw [ea] at w
 obtain ⟨v2, V2, h2, hq2, A2, w⟩ := w.static (y' := mN49) (W := 0) (w.pays 0 (rmCR3g l Z a0 hw hEL mr Mr t k N us hN hl lo n hlo h0 w.old A X_t HI) (wq hw 219 rfl) (wq hw 218 rfl) all0 nle nle) (wq hw 216 rfl) (wq hw 217 rfl) (wq hw 218 rfl) (wq hw 219 rfl) (argsL := [(.ref t), (.int (Int32.ofNat lo)), (.int (Int32.ofNat (lo + n)))]) (rest := []) (by decide) pd_30 rfl rfl nlr rfl (d32 12 rfl) nle nle (pc' := 27)
 obtain ⟨d, kd, rfl, E2, gd, D⟩ := hq2
 replace w := w.toS [(.ref d)]
 exact w.retA (d32 13 rfl) ⟨d, kd, rfl, E2, gd, D⟩ nle nle
theorem own_10_app {vs ws : List Value} (h : vs.length + ws.length ≤ 10) : (own_10 vs).take vs.length ++ ws ++ (own_10 vs).drop (vs.length + ws.length) = own_10 (vs ++ ws) := by
 rw [own_10, own_10, List.take_left, ← List.drop_drop, List.drop_left, List.drop_replicate, List.length_append]
 have e : 10 - vs.length - ws.length = 10 - (vs.length + ws.length) := by omega
 rw [e]
theorem rmADAn (l : Launch) (Z : State) (a0 : Array Value) (hw : HW Z a0) (hEL : EW Z a0 consts_1) (mr : Addr) (Mr : Mro Z "[Ljava/lang/Object;" mr) (kg : ClassId) (mg : Int32) (g tg : Addr) (gs : List Value) (b root t : Addr) (k : ClassId) (mc : Int32) (N : Nat) (us : List Value) (hN : us.length = N) (hl : N ≤ 10) (lo n : Nat) (hlo : lo + n ≤ N) (hgn : gs.length + n ≤ 10) (h0 : Heap) (hx : Ext Z.heap h0) (T : SLp Z h0 b root (Int32.ofNat lo) (Int32.ofNat n) mc) (Frm : Fld Z h0 root "java/util/AbstractList" "modCount" "I" (.int mc)) (Fed : Fld Z h0 root "java/util/ArrayList" "elementData" "[Ljava/lang/Object;" (.ref t)) (A : Arv Z h0 t k (.object "java/lang/Object") (Int32.ofNat N) us .null) (X_t : Exa Z h0 t "[Ljava/lang/Object;") (HI : ∀ u ∈ (us.drop lo).take n, ∃ x, u = .ref x ∧ Ins Z h0 x "java/lang/Object" true) (ge_g_Z : Z.heap.size ≤ g) (G : ALn Z h0 g tg kg gs mg) (ge_tg_Z : Z.heap.size ≤ tg) (hgr : g ≠ root) :
   Met l Z consts_1 mN73 jdk_38_method_41_code 6 (some .boolean) [] (rM 4 2 20 130) #[.ref g, .ref b] h0 [] (fun v h => ∃ mg' z, v = some (.int z) ∧ Keep h0 h [g, tg] ∧ ALn Z h g tg kg (gs ++ (us.drop lo).take n) mg') := by
 have X_b := T.1
 have hlen : ((us.drop lo).take n).length = n := by rw [List.length_take, List.length_drop]; omega
 have n1 := own_n32 (n := n) (by omega)
 have ng := own_n32 (n := gs.length) (by omega)
 have ea := own_add32 (a := gs.length) (b := n) (by omega)
 have es : (10 : Int32) - Int32.ofNat gs.length = Int32.ofNat (10 - gs.length) := own_sub32 (a := 10) (b := gs.length) (by omega) (by omega)
 obtain ⟨X_g, Fe, Fs, Fm, AG, X_tg, O⟩ := G
 have ne : g ≠ tg := Exa.neArv X_g AG (wq hw 45 rfl)
 refine Met.of (a0 := a0) (by decide +kernel) hEL hx ?_
 intro p e s m below meth c S0 V w hs hsf
 have hbz : Z.heap.size ≤ h0.size := w.zsz
 replace w := (w.to (g' := mkF m 0 #[.val (.ref g), .val (.ref b), .unset, .unset, .unset, .unset] [])).aloadN (pc' := 1) (d31 0 rfl) rfl
 obtain ⟨v1, V1, h1, hq1, A1, w⟩ := w.face (xi := mN65) (y' := mN72) (W := 0) (C := "java/util/ArrayList$SubList") (b := b) (w.pays 0 (rmSLt l Z a0 hw hEL mr Mr b root t k mc N us hN hl lo n hlo h0 w.old T Frm Fed A X_t HI) (wq hw 209 rfl) (wq hw 172 rfl) all0 nle nle) (wq hw 201 rfl) (wq hw 202 rfl) (wq hw 203 rfl) (wq hw 204 rfl) (wq hw 205 rfl) (wq hw 206 rfl) (wq hw 207 rfl) (wq hw 208 rfl) (argsL := []) (rest := []) (by decide) (X_b) pd_12 rfl rfl nlr rfl (d31 1 rfl) nle nle (pc' := 6)
 obtain ⟨d, kd, rfl, E1, gd, D⟩ := hq1
 replace w := w.toS [(.ref d)]
 have ge_d_Z : Z.heap.size ≤ d := Nat.le_trans hbz gd
 have ned : g ≠ d := Nat.ne_of_lt (Nat.lt_of_lt_of_le X_g.lt gd)
 have netd : tg ≠ d := Nat.ne_of_lt (Nat.lt_of_lt_of_le AG.lt gd)
 have X1 := X_g.ext E1
 have Fm1 := Fm.ext E1
 replace w := (((((w.astoreN (L' := #[.val (.ref g), .val (.ref b), .val (.ref d), .unset, .unset, .unset]) (d31 2 rfl) rfl).aloadN (d31 3 rfl) rfl).dup (d31 4 rfl)).getFV (host := "") (Or.inl (wq hw 237 rfl)) (Via.of (wq hw 190 rfl)) Fm1 (d31 5 rfl)).iconst (1 : Int32) (d31 6 rfl)).iadd (pc' := 14) (d31 7 rfl)
 obtain ⟨h2, W2, K2, Fw2, A2, w⟩ := w.putFV (ty := .int) (wq hw 237 rfl) (Via.of (wq hw 190 rfl)) (Fm1) (X1) (wq hw 64 rfl) (wq hw 45 rfl) (by decide) rfl rfl (Safe.exa w.hZ.alike X1 (by decide) (by decide)) (ge_g_Z) (d31 8 rfl) (pc' := 17)
 have X2 := X1.wr W2
 have Fe2 := (Fe.ext E1).other W2 (Or.inr (own_aem hw))
 have Fs2 := (Fs.ext E1).other W2 (Or.inr (own_asm hw))
 have AG2 := (AG.ext E1).other W2 ne.symm
 have D2 := D.other W2 ned.symm
 replace w := (((w.aloadN (d31 9 rfl) rfl).arrlen D2 (d31 10 rfl)).istoreN (L' := #[.val (.ref g), .val (.ref b), .val (.ref d), .val (.int (Int32.ofNat n)), .unset, .unset]) (d31 11 rfl) rfl).iloadN (pc' := 21) (d31 12 rfl) rfl
 have K12 : Keep h0 h2 [g, tg] := (keepE E1 [g, tg]).trans K2 (allS (Or.inl (by simp)) all0)
 by_cases q : n = 0
 ·
   replace w := (w.ifNo (pc' := 24) (d31 13 rfl) ((if0 _ _).trans (teq ((own_eq32 (a := n) (b := 0) (by omega) (by omega)).mpr q)).2)).iconst (pc' := 25) (0 : Int32) (d31 14 rfl)
   subst q
   exact w.retN (d31 15 rfl) (by simp) ⟨_, _, rfl, K12, by rw [List.take_zero, List.append_nil]; exact ⟨X2, Fe2, Fs2, Fw2, AG2, (X_tg.ext E1).wr W2, O⟩⟩ nle nle
 replace w := ((((((((((w.ifYes (pc' := 26) (d31 13 rfl) ((if0 _ _).trans (feq (fun z => q ((own_eq32 (a := n) (b := 0) (by omega) (by omega)).mp z))).2)).iloadN (d31 16 rfl) rfl).aloadN (d31 17 rfl) rfl).getF (wq hw 66 rfl) Fe2 (d31 18 rfl)).dup (d31 19 rfl)).astore (L' := #[.val (.ref g), .val (.ref b), .val (.ref d), .val (.int (Int32.ofNat n)), .val (.ref tg), .unset]) (d31 20 rfl) rfl).arrlen AG2 (d31 21 rfl)).aloadN (d31 22 rfl) rfl).getF (wq hw 152 rfl) Fs2 (d31 23 rfl)).dup (d31 24 rfl)).istore (pc' := 42) (L' := #[.val (.ref g), .val (.ref b), .val (.ref d), .val (.int (Int32.ofNat n)), .val (.ref tg), .val (.int (Int32.ofNat gs.length))]) (d31 25 rfl) rfl
 replace w := w.isub (pc' := 43) (d31 26 rfl)
 rw [es] at w
 replace w := (((((w.icmpYes (pc' := 56) (d31 27 rfl) ((flt (fun z => absurd ((own_lt32 (a := 10 - gs.length) (b := n) (by omega) (by omega)).mp z) (by omega))).2.2.2)).aloadN (d31 28 rfl) rfl).iconst (0 : Int32) (d31 29 rfl)).aload (d31 30 rfl) rfl).iload (d31 31 rfl) rfl).iloadN (pc' := 63) (d31 32 rfl) rfl
 have HS : StoL Z h2 tg ((us.drop lo).take n) := own_stoL AG2 O _ (fun u hu => by obtain ⟨x, e, I⟩ := HI u hu; exact ⟨x, e, (I.ext E1).wr W2⟩)
 have eus : (us.drop lo).take n = (List.range (Int32.ofNat n).toNatClampNeg).map fun i => ((us.drop lo).take n).getD ((0 : Int32).toNatClampNeg + i) .null := by
   rw [n1.2.1]
   have q := own_rangeA ((us.drop lo).take n) .null 0 n (by omega)
   rw [List.drop_zero] at q
   exact (q.trans (List.take_of_length_le (by omega))).symm
 obtain ⟨h90, K90, A3', C90, w⟩ := w.arrcopyR (W := 0) (us := (us.drop lo).take n) (wq hw 567 rfl) (wq hw 236 rfl) (wq hw 234 rfl) (wq hw 235 rfl) D2 AG2 rfl rfl HS (by decide) (by decide) ng.1 n1.1 (by rw [n1.2.1]; exact Nat.le_of_eq (Nat.zero_add _)) (by rw [n1.2.1, ng.2.1]; exact hgn) eus (by rw [n1.2.1, ng.2.1, own_10_len (by omega)]; exact hgn) ge_tg_Z rfl (d31 33 rfl) nle (Nat.le_of_eq rfl) nle (pc' := 66)
 rw [n1.2.1, ng.2.1] at A3'
 have e10 := own_10_app (vs := gs) (ws := (us.drop lo).take n) (by omega)
 rw [hlen] at e10
 rw [e10] at A3'
 have nb : g ∉ [tg] := ninS ne nin0
 replace w := (((w.aloadN (d31 34 rfl) rfl).iload (d31 35 rfl) rfl).iloadN (d31 36 rfl) rfl).iadd (pc' := 71) (d31 37 rfl)
 rw [ea] at w
 obtain ⟨h3, W3, K3, Fw3, A3, w⟩ := w.putF (ty := .int) (wq hw 152 rfl) (Fs2.keep K90 nb) (X2.keep K90) (Or.inl (wq hw 153 rfl)) (wq hw 45 rfl) (by decide) rfl rfl (Safe.exa w.hZ.alike (X2.keep K90) (by decide) (by decide)) (ge_g_Z) (d31 38 rfl) (pc' := 74)
 replace w := w.iconst (pc' := 75) (1 : Int32) (d31 39 rfl)
 have e2 : (gs ++ (us.drop lo).take n).length = gs.length + n := by rw [List.length_append, hlen]
 exact w.retN (d31 40 rfl) (by simp) ⟨_, _, rfl, (K12.trans K90 (allS (Or.inl (by simp)) all0)).trans K3 (allS (Or.inl (by simp)) all0), (X2.keep K90).wr W3, (Fe2.keep K90 nb).other W3 (Or.inr (own_aes hw)), by rw [e2]; exact Fw3, (Fw2.keep K90 nb).other W3 (Or.inr (own_asm hw).symm), A3'.other W3 ne.symm, (((X_tg.ext E1).wr W2).keep K90).wr W3, O⟩ nle nle
theorem rmADA0 (l : Launch) (Z : State) (a0 : Array Value) (hw : HW Z a0) (hEL : EW Z a0 consts_1) (dc : Addr) (kd : ClassId) (Sd : Sta Z Z.heap "java/util/ArrayList" "DEFAULTCAPACITY_EMPTY_ELEMENTDATA" "[Ljava/lang/Object;" (.ref dc)) (Dd : Arv Z Z.heap dc kd (.object "java/lang/Object") 0 [] .null) (mr : Addr) (Mr : Mro Z "[Ljava/lang/Object;" mr) (mg : Int32) (g tg : Addr) (gs : List Value) (b root t : Addr) (k : ClassId) (mc : Int32) (N : Nat) (us : List Value) (hN : us.length = N) (hl : N ≤ 10) (lo n : Nat) (hlo : lo + n ≤ N) (hgn : gs.length + n ≤ 10) (h0 : Heap) (hx : Ext Z.heap h0) (T : SLp Z h0 b root (Int32.ofNat lo) (Int32.ofNat n) mc) (Frm : Fld Z h0 root "java/util/AbstractList" "modCount" "I" (.int mc)) (Fed : Fld Z h0 root "java/util/ArrayList" "elementData" "[Ljava/lang/Object;" (.ref t)) (A : Arv Z h0 t k (.object "java/lang/Object") (Int32.ofNat N) us .null) (X_t : Exa Z h0 t "[Ljava/lang/Object;") (HI : ∀ u ∈ (us.drop lo).take n, ∃ x, u = .ref x ∧ Ins Z h0 x "java/lang/Object" true) (ge_g_Z : Z.heap.size ≤ g) (hgs : gs = []) (G : AL0 Z h0 g dc mg) (hgr : g ≠ root) :
   Met l Z consts_1 mN73 jdk_38_method_41_code 6 (some .boolean) [] (rM 4 2 20 130) #[.ref g, .ref b] h0 [] (fun v h => ∃ z, v = some (.int z) ∧ Keep h0 h [g] ∧ ((n = 0 ∧ ∃ mg', AL0 Z h g dc mg') ∨ ∃ t' k' mg', h0.size ≤ t' ∧ ALn Z h g t' k' ((us.drop lo).take n) mg')) := by
 subst hgs
 have X_b := T.1
 have hlen : ((us.drop lo).take n).length = n := by rw [List.length_take, List.length_drop]; omega
 have n1 := own_n32 (n := n) (by omega)
 have hn10 : ¬ (10 : Int32) < Int32.ofNat n := fun z => absurd ((own_lt32 (a := 10) (b := n) (by omega) (by omega)).mp z) (by simp at hgn; omega)
 have hnn : n ≤ 10 := by simp at hgn; omega
 obtain ⟨X_g, Fe, Fs, Fm⟩ := G
 refine Met.of (a0 := a0) (by decide +kernel) hEL hx ?_
 intro p e s m below meth c S0 V w hs hsf
 have hbz : Z.heap.size ≤ h0.size := w.zsz
 replace w := (w.to (g' := mkF m 0 #[.val (.ref g), .val (.ref b), .unset, .unset, .unset, .unset] [])).aloadN (pc' := 1) (d31 0 rfl) rfl
 obtain ⟨v1, V1, h1, hq1, A1, w⟩ := w.face (xi := mN65) (y' := mN72) (W := 0) (C := "java/util/ArrayList$SubList") (b := b) (w.pays 0 (rmSLt l Z a0 hw hEL mr Mr b root t k mc N us hN hl lo n hlo h0 w.old T Frm Fed A X_t HI) (wq hw 209 rfl) (wq hw 172 rfl) all0 nle nle) (wq hw 201 rfl) (wq hw 202 rfl) (wq hw 203 rfl) (wq hw 204 rfl) (wq hw 205 rfl) (wq hw 206 rfl) (wq hw 207 rfl) (wq hw 208 rfl) (argsL := []) (rest := []) (by decide) (X_b) pd_12 rfl rfl nlr rfl (d31 1 rfl) nle nle (pc' := 6)
 obtain ⟨d, kd', rfl, E1, gd, D⟩ := hq1
 replace w := w.toS [(.ref d)]
 have ge_d_Z : Z.heap.size ≤ d := Nat.le_trans hbz gd
 have ned : g ≠ d := Nat.ne_of_lt (Nat.lt_of_lt_of_le X_g.lt gd)
 have X1 := X_g.ext E1
 have Fm1 := Fm.ext E1
 replace w := (((((w.astoreN (L' := #[.val (.ref g), .val (.ref b), .val (.ref d), .unset, .unset, .unset]) (d31 2 rfl) rfl).aloadN (d31 3 rfl) rfl).dup (d31 4 rfl)).getFV (host := "") (Or.inl (wq hw 237 rfl)) (Via.of (wq hw 190 rfl)) Fm1 (d31 5 rfl)).iconst (1 : Int32) (d31 6 rfl)).iadd (pc' := 14) (d31 7 rfl)
 obtain ⟨h2, W2, K2, Fw2, A2, w⟩ := w.putFV (ty := .int) (wq hw 237 rfl) (Via.of (wq hw 190 rfl)) (Fm1) (X1) (wq hw 64 rfl) (wq hw 45 rfl) (by decide) rfl rfl (Safe.exa w.hZ.alike X1 (by decide) (by decide)) (ge_g_Z) (d31 8 rfl) (pc' := 17)
 have X2 := X1.wr W2
 have Fe2 := (Fe.ext E1).other W2 (Or.inr (own_aem hw))
 have Fs2 := (Fs.ext E1).other W2 (Or.inr (own_asm hw))
 have D2 := D.other W2 ned.symm
 have T2 : AL0 Z h2 g dc (mg + 1) := ⟨X2, Fe2, Fs2, Fw2⟩
 replace w := (((w.aloadN (d31 9 rfl) rfl).arrlen D2 (d31 10 rfl)).istoreN (L' := #[.val (.ref g), .val (.ref b), .val (.ref d), .val (.int (Int32.ofNat n)), .unset, .unset]) (d31 11 rfl) rfl).iloadN (pc' := 21) (d31 12 rfl) rfl
 have K12 : Keep h0 h2 [g] := (keepE E1 [g]).trans K2 (allS (Or.inl (by simp)) all0)
 by_cases q : n = 0
 ·
   replace w := (w.ifNo (pc' := 24) (d31 13 rfl) ((if0 _ _).trans (teq ((own_eq32 (a := n) (b := 0) (by omega) (by omega)).mpr q)).2)).iconst (pc' := 25) (0 : Int32) (d31 14 rfl)
   exact w.retN (d31 15 rfl) (by simp) ⟨_, rfl, K12, Or.inl ⟨q, _, T2⟩⟩ nle nle
 replace w := (((((w.ifYes (pc' := 26) (d31 13 rfl) ((if0 _ _).trans (feq (fun z => q ((own_eq32 (a := n) (b := 0) (by omega) (by omega)).mp z))).2)).iloadN (d31 16 rfl) rfl).aloadN (d31 17 rfl) rfl).getF (wq hw 66 rfl) Fe2 (d31 18 rfl)).dup (d31 19 rfl)).astore (pc' := 34) (L' := #[.val (.ref g), .val (.ref b), .val (.ref d), .val (.int (Int32.ofNat n)), .val (.ref dc), .unset]) (d31 20 rfl) rfl
 have D0 := Dd.ext w.old
 replace w := ((((((w.arrlen D0 (d31 21 rfl)).aloadN (d31 22 rfl) rfl).getF (wq hw 152 rfl) Fs2 (d31 23 rfl)).dup (d31 24 rfl)).istore (L' := #[.val (.ref g), .val (.ref b), .val (.ref d), .val (.int (Int32.ofNat n)), .val (.ref dc), .val (.int (0 : Int32))]) (d31 25 rfl) rfl).isub (d31 26 rfl)).icmpNo (pc' := 46) (d31 27 rfl) ((tlt (show (0 : Int32) - 0 < Int32.ofNat n from (own_lt32 (a := 0) (b := n) (by omega) (by omega)).mpr (Nat.pos_of_ne_zero q))).2.2.2)
 have e0n : (0 : Int32) + Int32.ofNat n = Int32.ofNat n := Int32.zero_add _
 replace w := (((w.aloadN (d31 41 rfl) rfl).iload (d31 42 rfl) rfl).iloadN (d31 43 rfl) rfl).iadd (pc' := 51) (d31 44 rfl)
 rw [e0n] at w
 have X_g := X2
 obtain ⟨v3, V3, h3, hq3, A3, w⟩ := w.priv (y' := mN22) (W := 0) (C := "java/util/ArrayList") (b := g) (w.pays 0 (rmGRI l Z a0 hw hEL dc kd Sd Dd g (Int32.ofNat n) hn10 (mg + 1) h2 w.old T2 ge_g_Z) (wq hw 354 rfl) (wq hw 46 rfl) all0 nle nle) (wq hw 350 rfl) (wq hw 351 rfl) (wq hw 352 rfl) (wq hw 353 rfl) (wq hw 354 rfl) (argsL := [(.int (Int32.ofNat n))]) (rest := []) (by decide) (X_g) pd_11 rfl rfl nlr rfl (d31 45 rfl) nle nle (pc' := 54)
 obtain ⟨t', k', rfl, K3, gt, T3⟩ := hq3
 replace w := w.toS [(.ref t')]
 obtain ⟨X3, Fe3, Fs3, Fm3, AG3, X_t3, O3⟩ := T3
 have ge_t_Z : Z.heap.size ≤ t' := Nat.le_trans (Nat.le_trans hbz K12.1) gt
 have ne : g ≠ t' := Exa.neArv X3 AG3 (wq hw 45 rfl)
 have D3 := D2.keep K3 (ninS ned.symm nin0)
 replace w := (((((w.astore (L' := #[.val (.ref g), .val (.ref b), .val (.ref d), .val (.int (Int32.ofNat n)), .val (.ref t'), .val (.int (0 : Int32))]) (d31 46 rfl) rfl).aloadN (d31 28 rfl) rfl).iconst (0 : Int32) (d31 29 rfl)).aload (d31 30 rfl) rfl).iload (d31 31 rfl) rfl).iloadN (pc' := 63) (d31 32 rfl) rfl
 have HS : StoL Z h3 t' ((us.drop lo).take n) := own_stoL AG3 O3 _ (fun u hu => by obtain ⟨x, e, I⟩ := HI u hu; exact ⟨x, e, own_insKeep K3 ((I.ext E1).wr W2)⟩)
 have eus : (us.drop lo).take n = (List.range (Int32.ofNat n).toNatClampNeg).map fun i => ((us.drop lo).take n).getD ((0 : Int32).toNatClampNeg + i) .null := by
   rw [n1.2.1]
   have q := own_rangeA ((us.drop lo).take n) .null 0 n (by omega)
   rw [List.drop_zero] at q
   exact (q.trans (List.take_of_length_le (by omega))).symm
 obtain ⟨h90, K90, A4', C90, w⟩ := w.arrcopyR (W := 0) (us := (us.drop lo).take n) (wq hw 567 rfl) (wq hw 236 rfl) (wq hw 234 rfl) (wq hw 235 rfl) D3 AG3 rfl rfl HS (by decide) (by decide) (by decide) n1.1 (by rw [n1.2.1]; exact Nat.le_of_eq (Nat.zero_add _)) (by rw [n1.2.1]; show 0 + n ≤ 10; omega) eus (by rw [n1.2.1, own_10_len (by simp)]; show 0 + n ≤ 10; omega) ge_t_Z rfl (d31 33 rfl) nle (Nat.le_of_eq rfl) nle (pc' := 66)
 rw [n1.2.1] at A4'
 have e10 := own_10_app (vs := []) (ws := (us.drop lo).take n) (by simp; omega)
 rw [hlen] at e10
 have A5' : Arv Z h90 t' k' (.object "java/lang/Object") 10 (own_10 ((us.drop lo).take n)) .null := by
   rw [List.nil_append] at e10
   rw [← e10]; exact A4'
 have nb : g ∉ [t'] := ninS ne nin0
 replace w := (((w.aloadN (d31 34 rfl) rfl).iload (d31 35 rfl) rfl).iloadN (d31 36 rfl) rfl).iadd (pc' := 71) (d31 37 rfl)
 rw [e0n] at w
 obtain ⟨h4, W4, K4, Fw4, A4, w⟩ := w.putF (ty := .int) (wq hw 152 rfl) (Fs3.keep K90 nb) (X3.keep K90) (Or.inl (wq hw 153 rfl)) (wq hw 45 rfl) (by decide) rfl rfl (Safe.exa w.hZ.alike (X3.keep K90) (by decide) (by decide)) (ge_g_Z) (d31 38 rfl) (pc' := 74)
 replace w := w.iconst (pc' := 75) (1 : Int32) (d31 39 rfl)
 have gt0 : h0.size ≤ t' := Nat.le_trans K12.1 gt
 exact w.retN (d31 40 rfl) (by simp) ⟨_, rfl, ((K12.trans K3 (allS (Or.inl (by simp)) all0)).trans K90 (allS (Or.inr gt0) all0)).trans K4 (allS (Or.inl (by simp)) all0), Or.inr ⟨t', k', _, gt0, (X3.keep K90).wr W4, (Fe3.keep K90 nb).other W4 (Or.inr (own_aes hw)), by rw [hlen]; exact Fw4, (Fm3.keep K90 nb).other W4 (Or.inr (own_asm hw).symm), A5'.other W4 ne.symm, (X_t3.keep K90).wr W4, O3⟩⟩ nle nle
section OwnE
variable {p : Program} {l : Launch} {e : Env} {R : Room} {s : State} {m : MethodId} {args : Array Value} {below : List Frame} {meth : Method} {c : Code} {Z : State} {a0 : Array Value} {EL : List (String × Nat)} {S0 : State} {y : MethodName} {B : ByteArray} {ml : Nat} {ret : Option FieldType} {V : Vm} {h : Heap} {cl sl : Nat}
/-- newarray, with the array's class -/
theorem Wk.newarrE {pc pc' : Nat} {L : Array Slot} {st : List Value} {aty : ArrayType} {ad : String} {n : Int32} {cap : Nat} (w : Wk p l e R s m args below meth c Z a0 EL S0 y B ml ret V h cl sl (mkF m pc L (.int n :: st))) (wa : (Jvm.Cond.arrayClass (newarray.typeOf aty)).before a0 Z = true)
   (hd : decode B pc = .ok (.newarray aty, 2)) (hn : ¬ n < 0) (hcap : n.toNatClampNeg ≤ cap) (had : "[" ++ (newarray.typeOf aty).toString = ad) (hc : cl + 1 ≤ R.cells) (hl : sl + cap ≤ R.slots) (hb8 : cap * 8 ≤ 536870912 := by decide) (hp : pc + 2 = pc' := by rfl) :
   ∃ (h' : Heap) (a : Addr) (k : ClassId), a = h.size ∧ Ext h h' ∧ Arv Z h' a k (newarray.typeOf aty) n [] (defaultValue (newarray.typeOf aty)) ∧ Safe Z EL V h' a ∧ Exa Z h' a ad ∧ CHr Z EL V h V h' ∧
     Wk p l e R s m args below meth c Z a0 EL S0 y B ml ret V h' (cl + 1) (sl + cap) (mkF m pc' L (.ref a :: st)) := by
 subst hp
 obtain ⟨hf, ⟨hz, hC, hO⟩, T, locs, k0, X, e0, h1, h2, h3, st0⟩ := id w
 obtain ⟨T', h', k, X', e', E, A, Ex, st'⟩ := newPE X hf.1 hz wa e0 (g := mkF m pc L (.int n :: st)) rfl (hb hf.2.1 hd) rfl hn hcap hb8 hc hl had
 have Q : CHr Z EL V h V h' := CHr.ext E w.ch
 exact ⟨h', h.size, k, rfl, E, Arv.new A hn, Safe.ext E w.ch (Safe.new (Nat.le_refl _)), Ex, Q, hf, ⟨hz, hC.trans Q, extT hO E⟩, T', locs, k0, X', e', h1, Nat.le_trans h2 E.1, h3, fun t q => st0 t (st' t q)⟩
end OwnE
theorem own_bb (c0 : Int32) : c0.toInt8.toInt32.toInt8.toInt32 = c0.toInt8.toInt32 := by
 have h1 := c_i2b c0
 have h2 := c_i2b c0.toInt8.toInt32
 exact Int32.toInt_inj.mp (by omega)
theorem own_svc {Z : State} {a0 : Array Value} (hw : HW Z a0) : RoadKit.slotOf Z "java/lang/String" "value" "[B" ≠ RoadKit.slotOf Z "java/lang/String" "coder" "B" := slot_ne (C := "java/lang/String") (Or.inr (wq hw 29 rfl)) (Or.inr (wq hw 27 rfl)) (by decide) (t := .array .byte) (t' := .byte) (by decide) (by decide)
theorem rmCM3 (l : Launch) (Z : State) (a0 : Array Value) (hw : HW Z a0) (hEL : EW Z a0 consts_1) (b t : Addr) (kC kb : ClassId) (dv : Value) (c0 c1 c2 : Int32) (r0 : ¬ c0 < 0 ∧ ¬ (255 : Int32) < c0) (r1 : ¬ c1 < 0 ∧ ¬ (255 : Int32) < c1) (r2 : ¬ c2 < 0 ∧ ¬ (255 : Int32) < c2) (h0 : Heap) (hx : Ext Z.heap h0) (ne : b ≠ t) (ge_t_Z : Z.heap.size ≤ t) (A : Arv Z h0 b kC .char 3 [.int c0, .int c1, .int c2] dv) (F : Arv Z h0 t kb .byte 3 [.int 0, .int 0, .int 0] (.int 0)) :
   Met l Z consts_1 mN74 jdk_52_method_21_code 7 (some .int) [] (rM 0 0 0 0) #[.ref b, .int 0, .ref t, .int 0, .int 3] h0 [t] (fun v h => v = some (.int 3) ∧ Keep h0 h [t] ∧ Arv Z h t kb .byte 3 [.int c0.toInt8.toInt32, .int c1.toInt8.toInt32, .int c2.toInt8.toInt32] (.int 0)) := by
 refine Met.of (a0 := a0) (by decide +kernel) hEL hx ?_
 intro p e s m below meth c S0 V w hs hsf
 have St := hsf t (List.mem_cons_self ..)
 have nb : b ∉ [t] := ninS ne nin0
 replace w := (((((((((w.to (g' := mkF m 0 #[.val (.ref b), .val (.int (0 : Int32)), .val (.ref t), .val (.int (0 : Int32)), .val (.int (3 : Int32)), .unset, .unset] [])).iconst (0 : Int32) (d5 0 rfl)).istore (L' := #[.val (.ref b), .val (.int (0 : Int32)), .val (.ref t), .val (.int (0 : Int32)), .val (.int (3 : Int32)), .val (.int (0 : Int32)), .unset]) (d5 1 rfl) rfl).iload (d5 2 rfl) rfl).iload (d5 3 rfl) rfl).icmpNo (d5 4 rfl) (by decide)).aloadN (d5 5 rfl) rfl).iloadN (d5 6 rfl) rfl).caload (v := (.int c0)) A (d5 7 rfl) ⟨by decide, by decide⟩ (rfl)).istore (pc' := 15) (L' := #[.val (.ref b), .val (.int (0 : Int32)), .val (.ref t), .val (.int (0 : Int32)), .val (.int (3 : Int32)), .val (.int (0 : Int32)), .val (.int c0)]) (d5 8 rfl) rfl
 replace w := ((((((w.iload (d5 9 rfl) rfl).sipush (255 : Int32) (d5 10 rfl)).icmpYes (pc' := 26) (d5 11 rfl) ((flt r0.2).2.2.2)).aloadN (d5 12 rfl) rfl).iloadN (d5 13 rfl) rfl).iload (d5 14 rfl) rfl).i2b (pc' := 31) (d5 15 rfl)
 obtain ⟨h1, K1, F1, A1, w⟩ := w.bastore (x' := c0.toInt8.toInt32.toInt8.toInt32) F (d5 16 rfl) ⟨by decide, by decide⟩ (rfl) (0) (rfl) (nle) (ge_t_Z) (St) (pc' := 32)
 have St1 := A1.safe F.lt St
 have Aa := A.keep K1 nb
 replace w := ((w.iinc (L' := #[.val (.ref b), .val (.int ((0 : Int32) + (1 : Int32))), .val (.ref t), .val (.int (0 : Int32)), .val (.int (3 : Int32)), .val (.int (0 : Int32)), .val (.int c0)]) (d5 17 rfl) rfl rfl).iinc (L' := #[.val (.ref b), .val (.int ((0 : Int32) + (1 : Int32))), .val (.ref t), .val (.int ((0 : Int32) + (1 : Int32))), .val (.int (3 : Int32)), .val (.int (0 : Int32)), .val (.int c0)]) (d5 18 rfl) rfl rfl).iinc (pc' := 41) (L' := #[.val (.ref b), .val (.int ((0 : Int32) + (1 : Int32))), .val (.ref t), .val (.int ((0 : Int32) + (1 : Int32))), .val (.int (3 : Int32)), .val (.int ((0 : Int32) + (1 : Int32))), .val (.int c0)]) (d5 19 rfl) rfl rfl
 replace w := (((((((((((w.goto (d5 20 rfl)).iload (d5 2 rfl) rfl).iload (d5 3 rfl) rfl).icmpNo (d5 4 rfl) (by decide)).aloadN (d5 5 rfl) rfl).iloadN (d5 6 rfl) rfl).caload (v := (.int c1)) Aa (d5 7 rfl) ⟨by decide, by decide⟩ (rfl)).istore (L' := #[.val (.ref b), .val (.int ((0 : Int32) + (1 : Int32))), .val (.ref t), .val (.int ((0 : Int32) + (1 : Int32))), .val (.int (3 : Int32)), .val (.int ((0 : Int32) + (1 : Int32))), .val (.int c1)]) (d5 8 rfl) rfl).iload (d5 9 rfl) rfl).sipush (255 : Int32) (d5 10 rfl)).icmpYes (pc' := 26) (d5 11 rfl) ((flt r1.2).2.2.2)).aloadN (pc' := 27) (d5 12 rfl) rfl
 replace w := ((w.iloadN (d5 13 rfl) rfl).iload (d5 14 rfl) rfl).i2b (pc' := 31) (d5 15 rfl)
 obtain ⟨h2, K2, F2, A2, w⟩ := w.bastore (x' := c1.toInt8.toInt32.toInt8.toInt32) F1 (d5 16 rfl) ⟨by decide, by decide⟩ (rfl) (1) (rfl) (nle) (ge_t_Z) (St1) (pc' := 32)
 have St2 := A2.safe F1.lt St1
 have Ab := Aa.keep K2 nb
 replace w := ((w.iinc (L' := #[.val (.ref b), .val (.int (((0 : Int32) + (1 : Int32)) + (1 : Int32))), .val (.ref t), .val (.int ((0 : Int32) + (1 : Int32))), .val (.int (3 : Int32)), .val (.int ((0 : Int32) + (1 : Int32))), .val (.int c1)]) (d5 17 rfl) rfl rfl).iinc (L' := #[.val (.ref b), .val (.int (((0 : Int32) + (1 : Int32)) + (1 : Int32))), .val (.ref t), .val (.int (((0 : Int32) + (1 : Int32)) + (1 : Int32))), .val (.int (3 : Int32)), .val (.int ((0 : Int32) + (1 : Int32))), .val (.int c1)]) (d5 18 rfl) rfl rfl).iinc (pc' := 41) (L' := #[.val (.ref b), .val (.int (((0 : Int32) + (1 : Int32)) + (1 : Int32))), .val (.ref t), .val (.int (((0 : Int32) + (1 : Int32)) + (1 : Int32))), .val (.int (3 : Int32)), .val (.int (((0 : Int32) + (1 : Int32)) + (1 : Int32))), .val (.int c1)]) (d5 19 rfl) rfl rfl
 replace w := ((((((((((w.goto (d5 20 rfl)).iload (d5 2 rfl) rfl).iload (d5 3 rfl) rfl).icmpNo (d5 4 rfl) (by decide)).aloadN (d5 5 rfl) rfl).iloadN (d5 6 rfl) rfl).caload (v := (.int c2)) Ab (d5 7 rfl) ⟨by decide, by decide⟩ (rfl)).istore (L' := #[.val (.ref b), .val (.int (((0 : Int32) + (1 : Int32)) + (1 : Int32))), .val (.ref t), .val (.int (((0 : Int32) + (1 : Int32)) + (1 : Int32))), .val (.int (3 : Int32)), .val (.int (((0 : Int32) + (1 : Int32)) + (1 : Int32))), .val (.int c2)]) (d5 8 rfl) rfl).iload (d5 9 rfl) rfl).sipush (255 : Int32) (d5 10 rfl)).icmpYes (pc' := 26) (d5 11 rfl) ((flt r2.2).2.2.2)
 replace w := (((w.aloadN (d5 12 rfl) rfl).iloadN (d5 13 rfl) rfl).iload (d5 14 rfl) rfl).i2b (pc' := 31) (d5 15 rfl)
 obtain ⟨h3, K3, F3, A3, w⟩ := w.bastore (x' := c2.toInt8.toInt32.toInt8.toInt32) F2 (d5 16 rfl) ⟨by decide, by decide⟩ (rfl) (2) (rfl) (nle) (ge_t_Z) (St2) (pc' := 32)
 replace w := (w.iinc (L' := #[.val (.ref b), .val (.int ((((0 : Int32) + (1 : Int32)) + (1 : Int32)) + (1 : Int32))), .val (.ref t), .val (.int (((0 : Int32) + (1 : Int32)) + (1 : Int32))), .val (.int (3 : Int32)), .val (.int (((0 : Int32) + (1 : Int32)) + (1 : Int32))), .val (.int c2)]) (d5 17 rfl) rfl rfl).iinc (pc' := 38) (L' := #[.val (.ref b), .val (.int ((((0 : Int32) + (1 : Int32)) + (1 : Int32)) + (1 : Int32))), .val (.ref t), .val (.int ((((0 : Int32) + (1 : Int32)) + (1 : Int32)) + (1 : Int32))), .val (.int (3 : Int32)), .val (.int (((0 : Int32) + (1 : Int32)) + (1 : Int32))), .val (.int c2)]) (d5 18 rfl) rfl rfl
 replace w := (((((w.iinc (L' := #[.val (.ref b), .val (.int ((((0 : Int32) + (1 : Int32)) + (1 : Int32)) + (1 : Int32))), .val (.ref t), .val (.int ((((0 : Int32) + (1 : Int32)) + (1 : Int32)) + (1 : Int32))), .val (.int (3 : Int32)), .val (.int ((((0 : Int32) + (1 : Int32)) + (1 : Int32)) + (1 : Int32))), .val (.int c2)]) (d5 19 rfl) rfl rfl).goto (d5 20 rfl)).iload (d5 2 rfl) rfl).iload (d5 3 rfl) rfl).icmpYes (d5 4 rfl) (by decide)).iload (pc' := 46) (d5 21 rfl) rfl
 have KK := (K1.trans K2 (allS (Or.inl (List.mem_cons_self ..)) all0)).trans K3 (allS (Or.inl (List.mem_cons_self ..)) all0)
 have F4 : Arv Z h3 t kb .byte 3 [.int c0.toInt8.toInt32, .int c1.toInt8.toInt32, .int c2.toInt8.toInt32] (.int 0) := by
   have q := F3
   simp only [own_bb] at q
   exact q
 exact w.retI (d5 22 rfl) ⟨rfl, KK, F4⟩ nle nle
theorem rmCPR3 (l : Launch) (Z : State) (a0 : Array Value) (hw : HW Z a0) (hEL : EW Z a0 consts_1) (b : Addr) (kC : ClassId) (dv : Value) (c0 c1 c2 : Int32) (r0 : ¬ c0 < 0 ∧ ¬ (255 : Int32) < c0) (r1 : ¬ c1 < 0 ∧ ¬ (255 : Int32) < c1) (r2 : ¬ c2 < 0 ∧ ¬ (255 : Int32) < c2) (h0 : Heap) (hx : Ext Z.heap h0) (A : Arv Z h0 b kC .char 3 [.int c0, .int c1, .int c2] dv) :
   Met l Z consts_1 mN75 jdk_52_method_16_code 6 (some (.array .byte)) [] (rM 1 1 3 20) #[.ref b, .int 0, .int 3] h0 [] (fun v h => ∃ t kb, v = some (.ref t) ∧ Ext h0 h ∧ h0.size ≤ t ∧ Exa Z h t "[B" ∧ Arv Z h t kb .byte 3 [.int c0.toInt8.toInt32, .int c1.toInt8.toInt32, .int c2.toInt8.toInt32] (.int 0)) := by
 refine Met.of (a0 := a0) (by decide +kernel) hEL hx ?_
 intro p e s m below meth c S0 V w hs hsf
 replace w := (w.to (g' := mkF m 0 #[.val (.ref b), .val (.int (0 : Int32)), .val (.int (3 : Int32)), .unset, .unset, .unset] [])).iloadN (pc' := 1) (d4 0 rfl) rfl
 obtain ⟨h60, t, kb, g_t, E60, V_t, S_t, X_t, A60, w⟩ := w.newarrE (ad := "[B") (cap := 3) (wq hw 19 rfl) (d4 1 rfl) (by decide) (by decide) (by decide) nle nle (pc' := 3)
 have gt : h0.size ≤ t := Nat.le_of_eq g_t.symm
 have ge_t_Z : Z.heap.size ≤ t := Nat.le_trans hx.1 gt
 have ne : b ≠ t := Nat.ne_of_lt (Nat.lt_of_lt_of_le A.lt gt)
 replace V_t := V_t.pad (vs' := [.int 0, .int 0, .int 0]) (pad_rep [] _ 3)
 have A1' := A.ext E60
 replace w := (((((w.astoreN (L' := #[.val (.ref b), .val (.int (0 : Int32)), .val (.int (3 : Int32)), .val (.ref t), .unset, .unset]) (d4 2 rfl) rfl).aloadN (d4 3 rfl) rfl).iloadN (d4 4 rfl) rfl).aloadN (d4 5 rfl) rfl).iconst (0 : Int32) (d4 6 rfl)).iloadN (pc' := 9) (d4 7 rfl) rfl
 obtain ⟨v1, V1, h1, hq1, A1, w⟩ := w.static (y' := mN74) (W := 0) (w.pays 0 (rmCM3 l Z a0 hw hEL b t kC kb dv c0 c1 c2 r0 r1 r2 h60 w.old ne ge_t_Z A1' V_t) (wq hw 22 rfl) (wq hw 17 rfl) (allS S_t all0) nle nle) (wq hw 20 rfl) (wq hw 21 rfl) (wq hw 17 rfl) (wq hw 22 rfl) (argsL := [(.ref b), (.int (0 : Int32)), (.ref t), (.int (0 : Int32)), (.int (3 : Int32))]) (rest := []) (by decide) pd_31 rfl rfl nlr rfl (d4 8 rfl) nle nle (pc' := 12)
 obtain ⟨rfl, K1, F⟩ := hq1
 replace w := (((((w.toS [(.int (3 : Int32))]).istore (L' := #[.val (.ref b), .val (.int (0 : Int32)), .val (.int (3 : Int32)), .val (.ref t), .val (.int (3 : Int32)), .unset]) (d4 9 rfl) rfl).iload (d4 10 rfl) rfl).iloadN (d4 11 rfl) rfl).icmpYes (d4 12 rfl) (by decide)).aloadN (pc' := 58) (d4 13 rfl) rfl
 exact w.retA (d4 14 rfl) ⟨t, kb, rfl, extK E60 K1 (allS gt all0), gt, X_t.keep K1, F⟩ nle nle
theorem rmCFL3 (l : Launch) (Z : State) (a0 : Array Value) (hw : HW Z a0) (hEL : EW Z a0 consts_1) (t : Addr) (kb : ClassId) (vs : List Value) (dv : Value) (h0 : Heap) (hx : Ext Z.heap h0) (T : Arv Z h0 t kb .byte 3 vs dv) :
   Met l Z consts_1 mN76 jdk_52_method_15_code 2 (some .byte) [] (rM 0 0 0 0) #[.ref t, .int 3] h0 [] (fun v h => v = some (.int 0) ∧ h = h0) := by
 refine Met.of (a0 := a0) (by decide +kernel) hEL hx ?_
 intro p e s m below meth c S0 V w hs hsf
 replace w := (((((((w.to (g' := mkF m 0 #[.val (.ref t), .val (.int (3 : Int32))] [])).iloadN (d6 0 rfl) rfl).aloadN (d6 1 rfl) rfl).arrlen T (d6 2 rfl)).isub (d6 3 rfl)).bipush (31 : Int32) (d6 4 rfl)).iushr (d6 5 rfl)).i2b (pc' := 8) (d6 6 rfl)
 exact w.retN (d6 7 rfl) (by simp) ⟨congrArg (fun z => some (Value.int z)) (by decide), rfl⟩ nle nle
theorem own_Svh {Z : State} {a0 : Array Value} (hw : HW Z a0) : RoadKit.slotOf Z "java/lang/String" "value" "[B" ≠ RoadKit.slotOf Z "java/lang/String" "hash" "I" := slot_ne (C := "java/lang/String") (Or.inr (wq hw 29 rfl)) (Or.inl (wq hw 449 rfl)) (by decide) (t := (.array .byte)) (t' := .int) (by decide) (by decide)
theorem own_Svi {Z : State} {a0 : Array Value} (hw : HW Z a0) : RoadKit.slotOf Z "java/lang/String" "value" "[B" ≠ RoadKit.slotOf Z "java/lang/String" "hashIsZero" "Z" := slot_ne (C := "java/lang/String") (Or.inr (wq hw 29 rfl)) (Or.inl (wq hw 451 rfl)) (by decide) (t := (.array .byte)) (t' := .boolean) (by decide) (by decide)
theorem own_Sch {Z : State} {a0 : Array Value} (hw : HW Z a0) : RoadKit.slotOf Z "java/lang/String" "coder" "B" ≠ RoadKit.slotOf Z "java/lang/String" "hash" "I" := slot_ne (C := "java/lang/String") (Or.inr (wq hw 27 rfl)) (Or.inl (wq hw 449 rfl)) (by decide) (t := .byte) (t' := .int) (by decide) (by decide)
theorem own_Sci {Z : State} {a0 : Array Value} (hw : HW Z a0) : RoadKit.slotOf Z "java/lang/String" "coder" "B" ≠ RoadKit.slotOf Z "java/lang/String" "hashIsZero" "Z" := slot_ne (C := "java/lang/String") (Or.inr (wq hw 27 rfl)) (Or.inl (wq hw 451 rfl)) (by decide) (t := .byte) (t' := .boolean) (by decide) (by decide)
theorem rmI43 (l : Launch) (Z : State) (a0 : Array Value) (hw : HW Z a0) (hEL : EW Z a0 consts_1) (z0 : Int32) (Sc : SC Z z0) (hz0 : ¬ z0 = 0) (x b : Addr) (kC : ClassId) (dv : Value) (c0 c1 c2 : Int32) (r0 : ¬ c0 < 0 ∧ ¬ (255 : Int32) < c0) (r1 : ¬ c1 < 0 ∧ ¬ (255 : Int32) < c1) (r2 : ¬ c2 < 0 ∧ ¬ (255 : Int32) < c2) (h0 : Heap) (hx : Ext Z.heap h0) (A : Arv Z h0 b kC .char 3 [.int c0, .int c1, .int c2] dv) (X_x : Exa Z h0 x "java/lang/String") (Gv : Fld Z h0 x "java/lang/String" "value" "[B" .null) (Gc : Fld Z h0 x "java/lang/String" "coder" "B" (.int 0)) (Gh : Fld Z h0 x "java/lang/String" "hash" "I" (.int 0)) (Gz : Fld Z h0 x "java/lang/String" "hashIsZero" "Z" (.int 0)) (ge_x_Z : Z.heap.size ≤ x) :
   Met l Z consts_1 mN77 jdk_42_method_149_code 6 none [] (rM 2 1 3 40) #[.ref x, .ref b, .int 0, .int 3, .null] h0 [x] (fun v h => v = none ∧ Keep h0 h [x] ∧ StH Z h x [c0, c1, c2] 0) := by
 refine Met.of (a0 := a0) (by decide +kernel) hEL hx ?_
 intro p e s m below meth c S0 V w hs hsf
 have Sx := hsf x (List.mem_cons_self ..)
 replace w := (((((((((w.to (g' := mkF m 0 #[.val (.ref x), .val (.ref b), .val (.int (0 : Int32)), .val (.int (3 : Int32)), .val .null, .unset] [])).aloadN (d2 0 rfl) rfl).initO 0 (wq hw 11 rfl) (wq hw 12 rfl) (wq hw 13 rfl) rfl (d2 1 rfl) (by decide) nlr (by decide)).iloadN (d2 2 rfl) rfl).ifYes (d2 3 rfl) (by decide)).getS (wq hw 14 rfl) Sc (d2 4 rfl)).ifNo (pc' := 33) (d2 5 rfl) ((if0 _ _).trans (feq hz0).1)).aloadN (d2 6 rfl) rfl).iloadN (d2 7 rfl) rfl).iloadN (pc' := 36) (d2 8 rfl) rfl
 obtain ⟨v1, V1, h1, hq1, A1, w⟩ := w.static (y' := mN75) (W := 0) (w.pays 0 (rmCPR3 l Z a0 hw hEL b kC dv c0 c1 c2 r0 r1 r2 h0 w.old A) (wq hw 18 rfl) (wq hw 17 rfl) all0 nle nle) (wq hw 15 rfl) (wq hw 16 rfl) (wq hw 17 rfl) (wq hw 18 rfl) (argsL := [(.ref b), (.int (0 : Int32)), (.int (3 : Int32))]) (rest := []) (by decide) pd_32 rfl rfl nlr rfl (d2 9 rfl) nle nle (pc' := 39)
 obtain ⟨t, kb, rfl, E1, gt, X_t, T⟩ := hq1
 replace w := w.toS [(.ref t)]
 have X1 := X_x.ext E1
 have Sx1 := A1.safe X_x.lt Sx
 have ne : x ≠ t := Exa.neArv X1 T (wq hw 1 rfl)
 replace w := (((w.astore (L' := #[.val (.ref x), .val (.ref b), .val (.int (0 : Int32)), .val (.int (3 : Int32)), .val .null, .val (.ref t)]) (d2 10 rfl) rfl).aloadN (d2 11 rfl) rfl).aload (d2 12 rfl) rfl).iloadN (pc' := 45) (d2 13 rfl) rfl
 obtain ⟨v2, V2, h2, hq2, A2, w⟩ := w.static (y' := mN76) (W := 1) (w.pays 1 (rmCFL3 l Z a0 hw hEL t kb _ _ h1 w.old T) (wq hw 25 rfl) (wq hw 17 rfl) all0 nle nle) (wq hw 23 rfl) (wq hw 24 rfl) (wq hw 17 rfl) (wq hw 25 rfl) (argsL := [(.ref t), (.int (3 : Int32))]) (rest := [(.ref x)]) (by decide) pd_33 rfl rfl nlr rfl (d2 14 rfl) nle nle (pc' := 48)
 obtain ⟨rfl, he2⟩ := hq2
 replace w := w.toS [(.int (0 : Int32)), (.ref x)]
 replace he2 := he2.symm
 subst he2
 have Sx2 := A2.safe X1.lt Sx1
 obtain ⟨h3, W3, K3, Fw3, A3, w⟩ := w.putFN (v' := (.int (0 : Int32))) (ty := .byte) (wq hw 26 rfl) (Gc.ext E1) (X1) (Or.inr ⟨(wq hw 27 rfl), rfl, rfl⟩) (wq hw 1 rfl) (by decide) (rfl) (by decide) (Sx2) (ge_x_Z) (d2 15 rfl) (pc' := 51)
 have X3 := X1.wr W3
 have Gv3 := (Gv.ext E1).other W3 (Or.inr (own_svc hw))
 have Gh3 := (Gh.ext E1).other W3 (Or.inr (own_Sch hw).symm)
 have Gz3 := (Gz.ext E1).other W3 (Or.inr (own_Sci hw).symm)
 have Sx3 := A3.safe X1.lt Sx2
 replace w := (w.aloadN (d2 16 rfl) rfl).aload (pc' := 54) (d2 17 rfl) rfl
 obtain ⟨h4, W4, K4, Fw4, A4, w⟩ := w.putF (ty := (.array .byte)) (wq hw 28 rfl) (Gv3) (X3) (Or.inr ⟨(wq hw 29 rfl), rfl, rfl⟩) (wq hw 1 rfl) (by decide) rfl rfl (Sx3) (ge_x_Z) (d2 18 rfl) (pc' := 57)
 have K04 : Keep h0 h4 [x] := ((keepE E1 [x]).trans K3 (allS (Or.inl (List.mem_cons_self ..)) all0)).trans K4 (allS (Or.inl (List.mem_cons_self ..)) all0)
 have X_t4 := (X_t.wr W3).wr W4
 exact w.ret0 (d2 19 rfl) ⟨rfl, K04, ⟨chars1 r0 (chars1 r1 (chars1 r2 chars0)), t, kb, X3.wr W4, Fw4, Fw3.other W4 (Or.inr (own_svc hw).symm), (T.other W3 ne.symm).other W4 ne.symm⟩, Gh3.other W4 (Or.inr (own_Svh hw).symm), Gz3.other W4 (Or.inr (own_Svi hw).symm), own_bt Fw4 (Ins.of_exa X_t4 (wq hw 464 rfl))⟩ nle nle
theorem rmI13 (l : Launch) (Z : State) (a0 : Array Value) (hw : HW Z a0) (hEL : EW Z a0 consts_1) (z0 : Int32) (Sc : SC Z z0) (hz0 : ¬ z0 = 0) (x b : Addr) (kC : ClassId) (dv : Value) (c0 c1 c2 : Int32) (r0 : ¬ c0 < 0 ∧ ¬ (255 : Int32) < c0) (r1 : ¬ c1 < 0 ∧ ¬ (255 : Int32) < c1) (r2 : ¬ c2 < 0 ∧ ¬ (255 : Int32) < c2) (h0 : Heap) (hx : Ext Z.heap h0) (A : Arv Z h0 b kC .char 3 [.int c0, .int c1, .int c2] dv) (X_x : Exa Z h0 x "java/lang/String") (Gv : Fld Z h0 x "java/lang/String" "value" "[B" .null) (Gc : Fld Z h0 x "java/lang/String" "coder" "B" (.int 0)) (Gh : Fld Z h0 x "java/lang/String" "hash" "I" (.int 0)) (Gz : Fld Z h0 x "java/lang/String" "hashIsZero" "Z" (.int 0)) (ge_x_Z : Z.heap.size ≤ x) :
   Met l Z consts_1 mN78 jdk_42_method_3_code 2 none [] (rM 3 1 3 64) #[.ref x, .ref b] h0 [x] (fun v h => v = none ∧ Keep h0 h [x] ∧ StH Z h x [c0, c1, c2] 0) := by
 refine Met.of (a0 := a0) (by decide +kernel) hEL hx ?_
 intro p e s m below meth c S0 V w hs hsf
 have Sx := hsf x (List.mem_cons_self ..)
 replace w := ((((((w.to (g' := mkF m 0 #[.val (.ref x), .val (.ref b)] [])).aloadN (d1 0 rfl) rfl).aloadN (d1 1 rfl) rfl).iconst (0 : Int32) (d1 2 rfl)).aloadN (d1 3 rfl) rfl).arrlen A (d1 4 rfl)).aconstNull (pc' := 6) (d1 5 rfl)
 obtain ⟨v1, V1, h1, hq1, A1, w⟩ := w.ctor (y' := mN77) (W := 0) (a := x) (w.pays 0 (rmI43 l Z a0 hw hEL z0 Sc hz0 x b kC dv c0 c1 c2 r0 r1 r2 h0 w.old A X_x Gv Gc Gh Gz ge_x_Z) (wq hw 10 rfl) (wq hw 2 rfl) (allS Sx all0) nle nle) rfl (wq hw 7 rfl) (wq hw 8 rfl) (wq hw 10 rfl) (argsL := [(.ref b), (.int (0 : Int32)), (.int (3 : Int32)), .null]) (rest := []) (by decide) pd_34 rfl rfl nlr rfl (d1 6 rfl) nle nle (pc' := 9)
 obtain ⟨rfl, K1, T1⟩ := hq1
 replace w := w.toS []
 exact w.ret0 (d1 7 rfl) ⟨rfl, K1, T1⟩ nle nle
theorem rmCE (l : Launch) (Z : State) (a0 : Array Value) (hw : HW Z a0) (hEL : EW Z a0 consts_1) (c0 : Int32) (r0 : ¬ c0 < 0 ∧ ¬ (255 : Int32) < c0) (h0 : Heap) (hx : Ext Z.heap h0) :
   Met l Z consts_1 mN79 jdk_43_method_3_code 1 (some .boolean) [] (rM 0 0 0 0) #[.int c0] h0 [] (fun v h => v = some (.int 1) ∧ h = h0) := by
 refine Met.of (a0 := a0) (by decide +kernel) hEL hx ?_
 intro p e s m below meth c S0 V w hs hsf
 replace w := (((((w.to (g' := mkF m 0 #[.val (.int c0)] [])).iloadN (d8 0 rfl) rfl).sipush (255 : Int32) (d8 1 rfl)).icmpNo (pc' := 7) (d8 2 rfl) ((flt r0.2).2.2.1)).iconst (1 : Int32) (d8 3 rfl)).goto (pc' := 12) (d8 4 rfl)
 exact w.retN (d8 5 rfl) (by simp) ⟨rfl, rfl⟩ nle nle
theorem rmTBC (l : Launch) (Z : State) (a0 : Array Value) (hw : HW Z a0) (hEL : EW Z a0 consts_1) (c0 : Int32) (h0 : Heap) (hx : Ext Z.heap h0) :
   Met l Z consts_1 mN80 jdk_43_method_46_code 1 (some (.array .byte)) [] (rM 0 1 1 0) #[.int c0] h0 [] (fun v h => ∃ t kb, v = some (.ref t) ∧ Ext h0 h ∧ Arv Z h t kb .byte 1 [.int c0.toInt8.toInt32] (.int 0)) := by
 refine Met.of (a0 := a0) (by decide +kernel) hEL hx ?_
 intro p e s m below meth c S0 V w hs hsf
 replace w := w.to (g' := mkF m 0 #[.val (.int c0)] [])
 have BZ := w.old
 have B0 := extR h0
 replace w := w.iconst (pc' := 1) (1 : Int32) (d9 0 rfl)
 obtain ⟨h1, t, k_t, g_t, E1, V_t, S_t, A1, w⟩ := w.newarr (cap := 1) (wq hw 19 rfl) (d9 1 rfl) (by decide) (by decide) nle nle (pc' := 3)
 have ge_t_Z : Z.heap.size ≤ t := Nat.le_trans BZ.1 (Nat.le_of_eq g_t.symm)
 have ge_t_0 : h0.size ≤ t := Nat.le_trans B0.1 (Nat.le_of_eq g_t.symm)
 have B0 := extT B0 E1
 replace V_t := V_t.pad (vs' := [(.int (0 : Int32))]) (pad_rep [] _ 1)
 replace w := (((w.dup (d9 2 rfl)).iconst (0 : Int32) (d9 3 rfl)).iloadN (d9 4 rfl) rfl).i2b (pc' := 7) (d9 5 rfl)
 obtain ⟨h2, K2, V1, A2, w⟩ := w.bastore (x' := c0.toInt8.toInt32.toInt8.toInt32) V_t (d9 6 rfl) ⟨by decide, by decide⟩ (rfl) (0) (rfl) (nle) (ge_t_Z) (S_t) (pc' := 8)
 have B0 := extK B0 K2 (allS ge_t_0 all0)
 rw [own_bb] at V1
 exact w.retA (d9 7 rfl) ⟨t, k_t, rfl, B0, V1⟩ nle nle
theorem rmSBB (l : Launch) (Z : State) (a0 : Array Value) (hw : HW Z a0) (hEL : EW Z a0 consts_1) (x t : Addr) (kb : ClassId) (c0 : Int32) (r0 : ¬ c0 < 0 ∧ ¬ (255 : Int32) < c0) (h0 : Heap) (hx : Ext Z.heap h0) (X_x : Exa Z h0 x "java/lang/String") (Gv : Fld Z h0 x "java/lang/String" "value" "[B" .null) (Gc : Fld Z h0 x "java/lang/String" "coder" "B" (.int 0)) (ge_x_Z : Z.heap.size ≤ x) (A : Arv Z h0 t kb .byte 1 [.int c0.toInt8.toInt32] (.int 0)) :
   Met l Z consts_1 mN81 jdk_42_method_151_code 3 none [] (rM 1 0 0 12) #[.ref x, .ref t, .int 0] h0 [x] (fun v h => v = none ∧ Keep h0 h [x] ∧ Str Z h x [c0]) := by
 have ne : x ≠ t := Exa.neArv X_x A (wq hw 1 rfl)
 refine Met.of (a0 := a0) (by decide +kernel) hEL hx ?_
 intro p e s m below meth c S0 V w hs hsf
 have Sx := hsf x (List.mem_cons_self ..)
 replace w := ((((w.to (g' := mkF m 0 #[.val (.ref x), .val (.ref t), .val (.int (0 : Int32))] [])).aloadN (d10 0 rfl) rfl).initO 0 (wq hw 11 rfl) (wq hw 12 rfl) (wq hw 13 rfl) rfl (d10 1 rfl) (by decide) nlr (by decide)).aloadN (d10 2 rfl) rfl).aloadN (pc' := 6) (d10 3 rfl) rfl
 obtain ⟨h1, W1, K1, Fw1, A1, w⟩ := w.putF (ty := (.array .byte)) (wq hw 28 rfl) (Gv) (X_x) (Or.inr ⟨(wq hw 29 rfl), rfl, rfl⟩) (wq hw 1 rfl) (by decide) rfl rfl (Sx) (ge_x_Z) (d10 4 rfl) (pc' := 9)
 have X1 := X_x.wr W1
 have Gc1 := Gc.other W1 (Or.inr (own_svc hw).symm)
 have Sx1 := A1.safe X_x.lt Sx
 replace w := (w.aloadN (d10 5 rfl) rfl).iloadN (pc' := 11) (d10 6 rfl) rfl
 obtain ⟨h2, W2, K2, Fw2, A2, w⟩ := w.putFN (v' := (.int (0 : Int32))) (ty := .byte) (wq hw 26 rfl) (Gc1) (X1) (Or.inr ⟨(wq hw 27 rfl), rfl, rfl⟩) (wq hw 1 rfl) (by decide) (rfl) (by decide) (Sx1) (ge_x_Z) (d10 7 rfl) (pc' := 14)
 have K02 : Keep h0 h2 [x] := ((Keep.refl h0 [x]).trans K1 (allS (Or.inl (List.mem_cons_self ..)) all0)).trans K2 (allS (Or.inl (List.mem_cons_self ..)) all0)
 exact w.ret0 (d10 8 rfl) ⟨rfl, K02, chars1 r0 chars0, t, kb, X1.wr W2, Fw1.other W2 (Or.inr (own_svc hw)), Fw2, (A.other W1 ne.symm).other W2 ne.symm⟩ nle nle
theorem rmVO (l : Launch) (Z : State) (a0 : Array Value) (hw : HW Z a0) (hEL : EW Z a0 consts_1) (z0 : Int32) (Sc : SC Z z0) (hz0 : ¬ z0 = 0) (c0 : Int32) (r0 : ¬ c0 < 0 ∧ ¬ (255 : Int32) < c0) (h0 : Heap) (hx : Ext Z.heap h0) :
   Met l Z consts_1 mN82 jdk_42_method_139_code 1 (some (.object "java/lang/String")) [] (rM 2 2 5 30) #[.int c0] h0 [] (fun v h => ∃ x, v = some (.ref x) ∧ Ext h0 h ∧ Str Z h x [c0]) := by
 refine Met.of (a0 := a0) (by decide +kernel) hEL hx ?_
 intro p e s m below meth c S0 V w hs hsf
 replace w := w.to (g' := mkF m 0 #[.val (.int c0)] [])
 have BZ := w.old
 have B0 := extR h0
 replace w := ((w.getS (wq hw 14 rfl) Sc (d7 0 rfl)).ifNo (pc' := 6) (d7 1 rfl) ((if0 _ _).trans (feq hz0).1)).iloadN (pc' := 7) (d7 2 rfl) rfl
 obtain ⟨v1, V1, h1, hq1, A1, w⟩ := w.static (y' := mN79) (W := 0) (w.pays 0 (rmCE l Z a0 hw hEL c0 r0 h0 w.old) (wq hw 36 rfl) (wq hw 35 rfl) all0 nle nle) (wq hw 33 rfl) (wq hw 34 rfl) (wq hw 35 rfl) (wq hw 36 rfl) (argsL := [(.int c0)]) (rest := []) (by decide) pd_35 rfl rfl nlr rfl (d7 3 rfl) nle nle (pc' := 10)
 obtain ⟨rfl, he1⟩ := hq1
 replace w := w.toS [(.int (1 : Int32))]
 replace he1 := he1.symm
 subst he1
 replace w := w.ifNo (pc' := 13) (d7 4 rfl) (by decide)
 obtain ⟨h2, x, g_x, E2, X_x, D_x, S_x, A2, w⟩ := w.new (wq hw 37 rfl) (wq hw 1 rfl) (wq hw 2 rfl) (d7 5 rfl) nle nle (pc' := 16)
 have lt_x : x < h2.size := X_x.lt
 have ge_x_Z : Z.heap.size ≤ x := Nat.le_trans BZ.1 (Nat.le_of_eq g_x.symm)
 have ge_x_0 : h0.size ≤ x := Nat.le_trans B0.1 (Nat.le_of_eq g_x.symm)
 have F_x_coder := D_x (Or.inr (wq hw 27 rfl)) (ty := .byte) (by decide)
 have F_x_value := D_x (Or.inr (wq hw 29 rfl)) (ty := (.array .byte)) (by decide)
 have B0 := extT B0 E2
 have B1 := extR h2
 have C1 := CHr.refl w.ch
 replace w := (w.dup (d7 6 rfl)).iloadN (pc' := 18) (d7 7 rfl) rfl
 obtain ⟨v3, V3, h3, hq3, A3, w⟩ := w.static (y' := mN80) (W := 2) (w.pays 2 (rmTBC l Z a0 hw hEL c0 h2 w.old) (wq hw 40 rfl) (wq hw 35 rfl) all0 nle nle) (wq hw 38 rfl) (wq hw 39 rfl) (wq hw 35 rfl) (wq hw 40 rfl) (argsL := [(.int c0)]) (rest := [(.ref x), (.ref x)]) (by decide) pd_36 rfl rfl nlr rfl (d7 8 rfl) nle nle (pc' := 21)
 obtain ⟨t, kb, rfl, E3, Vt⟩ := hq3
 replace w := w.toS [(.ref t), (.ref x), (.ref x)]
 have B0 := extT B0 E3
 have B1 := extT B1 E3
 have C1 := C1.trans A3
 have Sx := C1.safe lt_x S_x
 replace w := w.iconst (pc' := 22) (0 : Int32) (d7 9 rfl)
 obtain ⟨v4, V4, h4, hq4, A4, w⟩ := w.ctor (y' := mN81) (W := 1) (a := x) (w.pays 1 (rmSBB l Z a0 hw hEL x t kb c0 r0 h3 w.old (X_x.ext B1) (F_x_value.ext B1) (F_x_coder.ext B1) ge_x_Z Vt) (wq hw 43 rfl) (wq hw 2 rfl) (allS Sx all0) nle nle) rfl (wq hw 41 rfl) (wq hw 42 rfl) (wq hw 43 rfl) (argsL := [(.ref t), (.int (0 : Int32))]) (rest := [(.ref x)]) (by decide) pd_37 rfl rfl nlr rfl (d7 10 rfl) nle nle (pc' := 25)
 obtain ⟨rfl, K4, T1⟩ := hq4
 replace w := w.toS [(.ref x)]
 have B0 := extK B0 K4 (allS ge_x_0 all0)
 exact w.retA (d7 11 rfl) ⟨x, rfl, B0, T1⟩ nle nle
theorem rmMM2 (l : Launch) (Z : State) (a0 : Array Value) (hw : HW Z a0) (hEL : EW Z a0 consts_1) (t u : Addr) (kt ku : ClassId) (c0 : Int32) (h0 : Heap) (hx : Ext Z.heap h0) (A : Arv Z h0 t kt .byte 3 (([45, 45, c0] : List Int32).map fun c => Value.int c.toInt8.toInt32) (.int 0)) (B' : Arv Z h0 u ku .byte 2 (([45, 45] : List Int32).map fun c => Value.int c.toInt8.toInt32) (.int 0)) :
   Met l Z consts_1 mN83 jdk_48_method_14_code 8 (some .int) [] (rM 0 0 0 0) #[.ref t, .int 0, .ref u, .int 0, .int 2] h0 [] (fun v h => v = some (.int (-1)) ∧ h = h0) := by
 refine Met.of (a0 := a0) (by decide +kernel) hEL hx ?_
 intro p e s m below meth c S0 V w hs hsf
 replace w := ((((((((((w.to (g' := mkF m 0 #[.val (.ref t), .val (.int (0 : Int32)), .val (.ref u), .val (.int (0 : Int32)), .val (.int (2 : Int32)), .unset, .unset, .unset] [])).iconst (0 : Int32) (d60 0 rfl)).istore (L' := #[.val (.ref t), .val (.int (0 : Int32)), .val (.ref u), .val (.int (0 : Int32)), .val (.int (2 : Int32)), .val (.int (0 : Int32)), .unset, .unset]) (d60 1 rfl) rfl).iload (d60 2 rfl) rfl).bipush (7 : Int32) (d60 3 rfl)).icmpYes (d60 4 rfl) (by decide)).iload (d60 5 rfl) rfl).iload (d60 6 rfl) rfl).icmpNo (d60 7 rfl) (by decide)).aloadN (d60 8 rfl) rfl).iloadN (pc' := 79) (d60 9 rfl) rfl
 replace w := (((((((((((w.iload (d60 10 rfl) rfl).iadd (d60 11 rfl)).baload (v := (.int (45 : Int32))) A (d60 12 rfl) ⟨by decide, by decide⟩ (rfl)).aloadN (d60 13 rfl) rfl).iloadN (d60 14 rfl) rfl).iload (d60 15 rfl) rfl).iadd (d60 16 rfl)).baload (v := (.int (45 : Int32))) B' (d60 17 rfl) ⟨by decide, by decide⟩ (rfl)).icmpYes (pc' := 95) (d60 18 rfl) ((teq rfl).1)).iinc (L' := #[.val (.ref t), .val (.int (0 : Int32)), .val (.ref u), .val (.int (0 : Int32)), .val (.int (2 : Int32)), .val (.int ((0 : Int32) + (1 : Int32))), .unset, .unset]) (d60 19 rfl) rfl rfl).goto (d60 20 rfl)).iload (pc' := 72) (d60 5 rfl) rfl
 replace w := (((((((((((((w.iload (d60 6 rfl) rfl).icmpNo (d60 7 rfl) (by decide)).aloadN (d60 8 rfl) rfl).iloadN (d60 9 rfl) rfl).iload (d60 10 rfl) rfl).iadd (d60 11 rfl)).baload (v := (.int (45 : Int32))) A (d60 12 rfl) ⟨by decide, by decide⟩ (rfl)).aloadN (d60 13 rfl) rfl).iloadN (d60 14 rfl) rfl).iload (d60 15 rfl) rfl).iadd (d60 16 rfl)).baload (v := (.int (45 : Int32))) B' (d60 17 rfl) ⟨by decide, by decide⟩ (rfl)).icmpYes (pc' := 95) (d60 18 rfl) ((teq rfl).1)).iinc (pc' := 98) (L' := #[.val (.ref t), .val (.int (0 : Int32)), .val (.ref u), .val (.int (0 : Int32)), .val (.int (2 : Int32)), .val (.int (((0 : Int32) + (1 : Int32)) + (1 : Int32))), .unset, .unset]) (d60 19 rfl) rfl rfl
 replace w := ((((w.goto (d60 20 rfl)).iload (d60 5 rfl) rfl).iload (d60 6 rfl) rfl).icmpYes (d60 7 rfl) (by decide)).iconst (pc' := 102) (-1 : Int32) (d60 21 rfl)
 exact w.retI (d60 22 rfl) ⟨rfl, rfl⟩ nle nle
theorem rmSW2f (l : Launch) (Z : State) (a0 : Array Value) (hw : HW Z a0) (hEL : EW Z a0 consts_1) (z0 : Int32) (Sc : SC Z z0) (hz0 : ¬ z0 = 0) (x y0 : Addr) (cs : List Int32) (hl : cs.length ≤ 1) (h0 : Heap) (hx : Ext Z.heap h0) (U : Str Z h0 x cs) (W0 : Str Z h0 y0 [45, 45]) :
   Met l Z consts_1 mN84 jdk_42_method_75_code 8 (some .boolean) [] (rM 2 0 0 40) #[.ref x, .ref y0, .int 0] h0 [] (fun v h => v = some (.int 0) ∧ h = h0) := by
 have X_x := U.exa
 have X_y0 := W0.exa
 have hwl := own_wordsLen hw
 have hlt : Int32.ofNat cs.length - Int32.ofNat ([45, 45] : List Int32).length < 0 := by
   have q : cs.length = 0 ∨ cs.length = 1 := by omega
   rcases q with q | q <;> rw [q] <;> decide
 refine Met.of (a0 := a0) (by decide +kernel) hEL hx ?_
 intro p e s m below meth c S0 V w hs hsf
 replace w := ((((w.to (g' := mkF m 0 #[.val (.ref x), .val (.ref y0), .val (.int (0 : Int32)), .unset, .unset, .unset, .unset, .unset] [])).iloadN (d57 0 rfl) rfl).ifNo (d57 1 rfl) (by decide)).iloadN (d57 2 rfl) rfl).aloadN (pc' := 6) (d57 3 rfl) rfl
 obtain ⟨v1, V1, h1, hq1, A1, w⟩ := w.virt (y' := mN9) (W := 1) (C := "java/lang/String") (b := x) (w.payLen (W := 1) hwl (wq hw 1 rfl) U Sc hz0 (by omega) nle nle) (wq hw 395 rfl) (wq hw 396 rfl) (wq hw 398 rfl) (wq hw 397 rfl) (argsL := []) (rest := [(.int (0 : Int32))]) (by decide) X_x pd_4 rfl rfl nlr rfl (d57 4 rfl) nle nle (pc' := 9)
 obtain ⟨rfl, he1⟩ := hq1
 replace w := w.toS [(.int (Int32.ofNat cs.length)), (.int (0 : Int32))]
 replace he1 := he1.symm
 subst he1
 replace w := w.aloadN (pc' := 10) (d57 5 rfl) rfl
 obtain ⟨v2, V2, h2, hq2, A2, w⟩ := w.virt (y' := mN9) (W := 2) (C := "java/lang/String") (b := y0) (w.payLen (W := 2) hwl (wq hw 1 rfl) W0 Sc hz0 (by decide) nle nle) (wq hw 395 rfl) (wq hw 396 rfl) (wq hw 398 rfl) (wq hw 397 rfl) (argsL := []) (rest := [(.int (Int32.ofNat cs.length)), (.int (0 : Int32))]) (by decide) X_y0 pd_4 rfl rfl nlr rfl (d57 6 rfl) nle nle (pc' := 13)
 obtain ⟨rfl, he2⟩ := hq2
 replace w := w.toS [(.int (Int32.ofNat ([45, 45] : List Int32).length)), (.int (Int32.ofNat cs.length)), (.int (0 : Int32))]
 replace he2 := he2.symm
 subst he2
 replace w := ((w.isub (d57 7 rfl)).icmpNo (pc' := 17) (d57 8 rfl) ((tlt hlt).2.2.2)).iconst (pc' := 18) (0 : Int32) (d57 9 rfl)
 exact w.retN (d57 10 rfl) (by simp) ⟨rfl, rfl⟩ nle nle
theorem rmSW2t (l : Launch) (Z : State) (a0 : Array Value) (hw : HW Z a0) (hEL : EW Z a0 consts_1) (z0 : Int32) (Sc : SC Z z0) (hz0 : ¬ z0 = 0) (x y0 : Addr) (c0 : Int32) (h0 : Heap) (hx : Ext Z.heap h0) (U : Str Z h0 x [45, 45, c0]) (W0 : Str Z h0 y0 [45, 45]) :
   Met l Z consts_1 mN84 jdk_42_method_75_code 8 (some .boolean) [] (rM 2 0 0 40) #[.ref x, .ref y0, .int 0] h0 [] (fun v h => v = some (.int 1) ∧ h = h0) := by
 have X_x := U.exa
 have X_y0 := W0.exa
 have hwl := own_wordsLen hw
 obtain ⟨-, t, kt, -, Fv, Fc, A⟩ := id U
 obtain ⟨-, u, ku, -, Gv, Gc, B'⟩ := id W0
 refine Met.of (a0 := a0) (by decide +kernel) hEL hx ?_
 intro p e s m below meth c S0 V w hs hsf
 replace w := ((((w.to (g' := mkF m 0 #[.val (.ref x), .val (.ref y0), .val (.int (0 : Int32)), .unset, .unset, .unset, .unset, .unset] [])).iloadN (d57 0 rfl) rfl).ifNo (d57 1 rfl) (by decide)).iloadN (d57 2 rfl) rfl).aloadN (pc' := 6) (d57 3 rfl) rfl
 obtain ⟨v1, V1, h1, hq1, A1, w⟩ := w.virt (y' := mN9) (W := 1) (C := "java/lang/String") (b := x) (w.payLen (W := 1) hwl (wq hw 1 rfl) U Sc hz0 (by simp) nle nle) (wq hw 395 rfl) (wq hw 396 rfl) (wq hw 398 rfl) (wq hw 397 rfl) (argsL := []) (rest := [(.int (0 : Int32))]) (by decide) X_x pd_4 rfl rfl nlr rfl (d57 4 rfl) nle nle (pc' := 9)
 obtain ⟨rfl, he1⟩ := hq1
 replace w := w.toS [(.int (Int32.ofNat ([45, 45, c0] : List Int32).length)), (.int (0 : Int32))]
 replace he1 := he1.symm
 subst he1
 replace w := w.aloadN (pc' := 10) (d57 5 rfl) rfl
 obtain ⟨v2, V2, h2, hq2, A2, w⟩ := w.virt (y' := mN9) (W := 2) (C := "java/lang/String") (b := y0) (w.payLen (W := 2) hwl (wq hw 1 rfl) W0 Sc hz0 (by decide) nle nle) (wq hw 395 rfl) (wq hw 396 rfl) (wq hw 398 rfl) (wq hw 397 rfl) (argsL := []) (rest := [(.int (Int32.ofNat ([45, 45, c0] : List Int32).length)), (.int (0 : Int32))]) (by decide) X_y0 pd_4 rfl rfl nlr rfl (d57 6 rfl) nle nle (pc' := 13)
 obtain ⟨rfl, he2⟩ := hq2
 replace w := w.toS [(.int (Int32.ofNat ([45, 45] : List Int32).length)), (.int (Int32.ofNat ([45, 45, c0] : List Int32).length)), (.int (0 : Int32))]
 replace he2 := he2.symm
 subst he2
 replace w := (((((((((w.isub (d57 7 rfl)).icmpYes (pc' := 19) (d57 8 rfl) ((flt (by show ¬ (3 : Int32) - 2 < 0; decide)).2.2.2)).aloadN (d57 11 rfl) rfl).getF (wq hw 28 rfl) Fv (d57 12 rfl)).astoreN (L' := #[.val (.ref x), .val (.ref y0), .val (.int (0 : Int32)), .val (.ref t), .unset, .unset, .unset, .unset]) (d57 13 rfl) rfl).aloadN (d57 14 rfl) rfl).getF (wq hw 28 rfl) Gv (d57 15 rfl)).astore (L' := #[.val (.ref x), .val (.ref y0), .val (.int (0 : Int32)), .val (.ref t), .val (.ref u), .unset, .unset, .unset]) (d57 16 rfl) rfl).iconst (0 : Int32) (d57 17 rfl)).istore (pc' := 33) (L' := #[.val (.ref x), .val (.ref y0), .val (.int (0 : Int32)), .val (.ref t), .val (.ref u), .val (.int (0 : Int32)), .unset, .unset]) (d57 18 rfl) rfl
 replace w := (((w.aload (d57 19 rfl) rfl).arrlen B' (d57 20 rfl)).istore (L' := #[.val (.ref x), .val (.ref y0), .val (.int (0 : Int32)), .val (.ref t), .val (.ref u), .val (.int (0 : Int32)), .val (.int (2 : Int32)), .unset]) (d57 21 rfl) rfl).aloadN (pc' := 39) (d57 22 rfl) rfl
 obtain ⟨v3, V3, h3, hq3, A3, w⟩ := w.virt (y' := mN8) (W := 0) (C := "java/lang/String") (b := x) (w.pays 0 (rmCDR l Z a0 hw hEL z0 Sc hz0 x h0 w.old Fc) (wq hw 404 rfl) (wq hw 2 rfl) all0 nle nle) (wq hw 400 rfl) (wq hw 401 rfl) (wq hw 403 rfl) (wq hw 402 rfl) (argsL := []) (rest := []) (by decide) X_x pd_5 rfl rfl nlr rfl (d57 23 rfl) nle nle (pc' := 42)
 obtain ⟨rfl, he3⟩ := hq3
 replace w := w.toS [(.int (0 : Int32))]
 replace he3 := he3.symm
 subst he3
 replace w := ((w.istore (L' := #[.val (.ref x), .val (.ref y0), .val (.int (0 : Int32)), .val (.ref t), .val (.ref u), .val (.int (0 : Int32)), .val (.int (2 : Int32)), .val (.int (0 : Int32))]) (d57 24 rfl) rfl).iload (d57 25 rfl) rfl).aloadN (pc' := 47) (d57 26 rfl) rfl
 obtain ⟨v4, V4, h4, hq4, A4, w⟩ := w.virt (y' := mN8) (W := 1) (C := "java/lang/String") (b := y0) (w.pays 1 (rmCDR l Z a0 hw hEL z0 Sc hz0 y0 h0 w.old Gc) (wq hw 404 rfl) (wq hw 2 rfl) all0 nle nle) (wq hw 400 rfl) (wq hw 401 rfl) (wq hw 403 rfl) (wq hw 402 rfl) (argsL := []) (rest := [(.int (0 : Int32))]) (by decide) X_y0 pd_5 rfl rfl nlr rfl (d57 27 rfl) nle nle (pc' := 50)
 obtain ⟨rfl, he4⟩ := hq4
 replace w := w.toS [(.int (0 : Int32)), (.int (0 : Int32))]
 replace he4 := he4.symm
 subst he4
 replace w := ((((((((w.icmpNo (pc' := 53) (d57 28 rfl) ((teq rfl).2)).iload (d57 29 rfl) rfl).iconst (1 : Int32) (d57 30 rfl)).icmpYes (d57 31 rfl) (by decide)).aloadN (d57 32 rfl) rfl).iloadN (d57 33 rfl) rfl).aload (d57 34 rfl) rfl).iconst (0 : Int32) (d57 35 rfl)).iload (pc' := 70) (d57 36 rfl) rfl
 obtain ⟨v5, V5, h5, hq5, A5, w⟩ := w.static (y' := mN83) (W := 0) (w.pays 0 (rmMM2 l Z a0 hw hEL t u kt ku c0 h0 w.old A B') (wq hw 408 rfl) (wq hw 407 rfl) all0 nle nle) (wq hw 405 rfl) (wq hw 406 rfl) (wq hw 407 rfl) (wq hw 408 rfl) (argsL := [(.ref t), (.int (0 : Int32)), (.ref u), (.int (0 : Int32)), (.int (2 : Int32))]) (rest := []) (by decide) pd_38 rfl rfl nlr rfl (d57 37 rfl) nle nle (pc' := 73)
 obtain ⟨rfl, he5⟩ := hq5
 replace w := w.toS [(.int (-1 : Int32))]
 replace he5 := he5.symm
 subst he5
 replace w := ((w.ifNo (d57 38 rfl) (by decide)).iconst (1 : Int32) (d57 39 rfl)).goto (pc' := 81) (d57 40 rfl)
 exact w.retN (d57 41 rfl) (by simp) ⟨rfl, rfl⟩ nle nle
theorem rmSW1 (l : Launch) (Z : State) (a0 : Array Value) (hw : HW Z a0) (hEL : EW Z a0 consts_1) (z0 : Int32) (Sc : SC Z z0) (hz0 : ¬ z0 = 0) (x y0 : Addr) (cs : List Int32) (b : Bool) (hcs : (b = false ∧ cs.length ≤ 1) ∨ (b = true ∧ ∃ c0, cs = [45, 45, c0])) (h0 : Heap) (hx : Ext Z.heap h0) (U : Str Z h0 x cs) (W0 : Str Z h0 y0 [45, 45]) :
   Met l Z consts_1 mN85 jdk_42_method_76_code 2 (some .boolean) [] (rM 3 0 0 60) #[.ref x, .ref y0] h0 [] (fun v h => v = some (.int (if b = true then 1 else 0)) ∧ h = h0) := by
 have X_x := U.exa
 rcases hcs with ⟨rfl, hl⟩ | ⟨rfl, c0, rfl⟩
 ·
   refine Met.of (a0 := a0) (by decide +kernel) hEL hx ?_
   intro p e s m below meth c S0 V w hs hsf
   replace w := (((w.to (g' := mkF m 0 #[.val (.ref x), .val (.ref y0)] [])).aloadN (d56 0 rfl) rfl).aloadN (d56 1 rfl) rfl).iconst (pc' := 3) (0 : Int32) (d56 2 rfl)
   obtain ⟨v1, V1, h1, hq1, A1, w⟩ := w.virt (y' := mN84) (W := 0) (C := "java/lang/String") (b := x) (w.pays 0 (rmSW2f l Z a0 hw hEL z0 Sc hz0 x y0 cs hl h0 w.old U W0) (wq hw 394 rfl) (wq hw 2 rfl) all0 nle nle) (wq hw 390 rfl) (wq hw 391 rfl) (wq hw 393 rfl) (wq hw 392 rfl) (argsL := [(.ref y0), (.int (0 : Int32))]) (rest := []) (by decide) X_x pd_39 rfl rfl nlr rfl (d56 3 rfl) nle nle (pc' := 6)
   obtain ⟨rfl, he1⟩ := hq1
   replace w := w.toS [(.int (0 : Int32))]
   replace he1 := he1.symm
   subst he1
   exact w.retN (d56 4 rfl) (by simp) ⟨rfl, rfl⟩ nle nle
 ·
   refine Met.of (a0 := a0) (by decide +kernel) hEL hx ?_
   intro p e s m below meth c S0 V w hs hsf
   replace w := (((w.to (g' := mkF m 0 #[.val (.ref x), .val (.ref y0)] [])).aloadN (d56 0 rfl) rfl).aloadN (d56 1 rfl) rfl).iconst (pc' := 3) (0 : Int32) (d56 2 rfl)
   obtain ⟨v1, V1, h1, hq1, A1, w⟩ := w.virt (y' := mN84) (W := 0) (C := "java/lang/String") (b := x) (w.pays 0 (rmSW2t l Z a0 hw hEL z0 Sc hz0 x y0 c0 h0 w.old U W0) (wq hw 394 rfl) (wq hw 2 rfl) all0 nle nle) (wq hw 390 rfl) (wq hw 391 rfl) (wq hw 393 rfl) (wq hw 392 rfl) (argsL := [(.ref y0), (.int (0 : Int32))]) (rest := []) (by decide) X_x pd_39 rfl rfl nlr rfl (d56 3 rfl) nle nle (pc' := 6)
   obtain ⟨rfl, he1⟩ := hq1
   replace w := w.toS [(.int (1 : Int32))]
   replace he1 := he1.symm
   subst he1
   exact w.retN (d56 4 rfl) (by simp) ⟨rfl, rfl⟩ nle nle
theorem rmI4 (l : Launch) (Z : State) (a0 : Array Value) (hw : HW Z a0) (hEL : EW Z a0 consts_1) (x b : Addr) (h0 : Heap) (hx : Ext Z.heap h0) (X : Exa Z h0 x "java/lang/String") (Fv : Fld Z h0 x "java/lang/String" "value" "[B" .null) (Fc : Fld Z h0 x "java/lang/String" "coder" "B" (.int 0)) (ge_x_Z : Z.heap.size ≤ x) :
   Met l Z consts_1 mN77 jdk_42_method_149_code 6 none [] ({ frames := 1, cells := 4, slots := 8, locals := 12 } : Room) #[.ref x, .ref b, .int 0, .int 0, .null] h0 [x] (fun v h => v = none ∧ Keep h0 h [x] ∧ Str Z h x []) := by
 refine Met.of (a0 := a0) (by decide +kernel) hEL hx ?_
 intro p e s m below meth c S0 V w hs hsf
 have hstr := own_hstr hw
 have Sx := hsf x (List.mem_cons_self ..)
 replace w := (((((w.to (g' := mkF m 0 #[.val (.ref x), .val (.ref b), .val (.int (0 : Int32)), .val (.int (0 : Int32)), .val .null, .unset] [])).aloadN (d2 0 rfl) rfl).initO 0 (wq hw 11 rfl) (wq hw 12 rfl) (wq hw 13 rfl) rfl (d2 1 rfl) (by decide) nlr (by decide)).iloadN (d2 2 rfl) rfl).ifNo (d2 3 rfl) (by decide)).aloadN (pc' := 9) (d2 20 rfl) rfl
 obtain ⟨q, V1, h1, b_q, k_q, E1, X_q, Fc_q, Fv_q, V_q, N_q, A1, w⟩ := w.ldcS (vs := []) (z := 0) 0 (text := "") (wq hw 576 rfl) hstr (by decide) ⟨by decide, by decide⟩ (by decide) (by decide) (d2 21 rfl) (by decide) (by decide) (by decide) (by decide) (pc' := 11)
 replace w := w.getF (wq hw 28 rfl) Fv_q (d2 22 rfl) (pc' := 14)
 have Sx1 := A1.safe X.lt Sx
 obtain ⟨h2, W2, K2, Fw2, A2, w⟩ := w.putF (ty := (.array .byte)) (wq hw 28 rfl) (Fv.ext E1) (X.ext E1) (Or.inr ⟨(wq hw 29 rfl), rfl, rfl⟩) (wq hw 1 rfl) (by decide) rfl rfl (Sx1) (ge_x_Z) (d2 23 rfl) (pc' := 17)
 have K01 : Keep h0 h2 [x] := (keepE E1 [x]).trans K2 (allS (Or.inl (List.mem_cons_self ..)) all0)
 have X2 := X.keep K01
 have Sx2 := A2.safe (X.ext E1).lt Sx1
 have Fc2 := (Fc.ext E1).other W2 (Or.inr (slot_ne (C := "java/lang/String") (Or.inr (wq hw 27 rfl)) (Or.inr (wq hw 29 rfl)) (by decide) (t := .byte) (t' := .array .byte) (by decide) (by decide)))
 have nb := (N_q x Sx1).2
 have Vb2 := V_q.other W2 (fun z => nb z.symm)
 replace w := w.aloadN (pc' := 18) (d2 24 rfl) rfl
 obtain ⟨r, V3, h3, b_r, k_r, E3, X_r, Fc_r, Fv_r, V_r, N_r, A3, w⟩ := w.ldcS (vs := []) (z := 0) 0 (text := "") (wq hw 576 rfl) hstr (by decide) ⟨by decide, by decide⟩ (by decide) (by decide) (d2 25 rfl) (by decide) (by decide) (by decide) (by decide) (pc' := 20)
 replace w := w.getF (wq hw 26 rfl) Fc_r (d2 26 rfl) (pc' := 23)
 have Sx3 := A3.safe X2.lt Sx2
 obtain ⟨h4, W4, K4, Fw4, A4, w⟩ := w.putFN (v' := (.int (0 : Int32))) (ty := .byte) (wq hw 26 rfl) (Fc2.ext E3) (X2.ext E3) (Or.inr ⟨(wq hw 27 rfl), rfl, rfl⟩) (wq hw 1 rfl) (by decide) (rfl) (by decide) (Sx3) (ge_x_Z) (d2 27 rfl) (pc' := 26)
 have K03 : Keep h0 h4 [x] := (K01.ext E3).trans K4 (allS (Or.inl (List.mem_cons_self ..)) all0)
 exact w.ret0 (d2 28 rfl) ⟨rfl, K03, chars0, b_q, k_q, X.keep K03, (Fw2.ext E3).other W4 (Or.inr (slot_ne (C := "java/lang/String") (Or.inr (wq hw 29 rfl)) (Or.inr (wq hw 27 rfl)) (by decide) (t := .array .byte) (t' := .byte) (by decide) (by decide))), Fw4, (Vb2.ext E3).other W4 (fun z => nb z.symm)⟩ nle nle
theorem rmI1 (l : Launch) (Z : State) (a0 : Array Value) (hw : HW Z a0) (hEL : EW Z a0 consts_1) (x b : Addr) (kC : ClassId) (dv : Value) (h0 : Heap) (hx : Ext Z.heap h0) (X : Exa Z h0 x "java/lang/String") (Fv : Fld Z h0 x "java/lang/String" "value" "[B" .null) (Fc : Fld Z h0 x "java/lang/String" "coder" "B" (.int 0)) (ge_x_Z : Z.heap.size ≤ x) (A : Arv Z h0 b kC .char 0 [] dv) :
   Met l Z consts_1 mN78 jdk_42_method_3_code 2 none [] ({ frames := 2, cells := 4, slots := 8, locals := 29 } : Room) #[.ref x, .ref b] h0 [x] (fun v h => v = none ∧ Keep h0 h [x] ∧ Str Z h x []) := by
 refine Met.of (a0 := a0) (by decide +kernel) hEL hx ?_
 intro p e s m below meth c S0 V w hs hsf
 have Sx := hsf x (List.mem_cons_self ..)
 replace w := ((((((w.to (g' := mkF m 0 #[.val (.ref x), .val (.ref b)] [])).aloadN (d1 0 rfl) rfl).aloadN (d1 1 rfl) rfl).iconst (0 : Int32) (d1 2 rfl)).aloadN (d1 3 rfl) rfl).arrlen A (d1 4 rfl)).aconstNull (pc' := 6) (d1 5 rfl)
 obtain ⟨v1, V1, h1, hq1, A1, w⟩ := w.ctor (y' := mN77) (W := 0) (a := x) (w.pays 0 (rmI4 l Z a0 hw hEL x b h0 w.old X Fv Fc ge_x_Z) (wq hw 10 rfl) (wq hw 2 rfl) (allS Sx all0) nle nle) rfl (wq hw 7 rfl) (wq hw 8 rfl) (wq hw 10 rfl) (argsL := [(.ref b), (.int (0 : Int32)), (.int (0 : Int32)), .null]) (rest := []) (by decide) pd_34 rfl rfl nlr rfl (d1 6 rfl) nle nle (pc' := 9)
 obtain ⟨rfl, K1, T1⟩ := hq1
 replace w := w.toS []
 exact w.ret0 (d1 7 rfl) ⟨rfl, K1, T1⟩ nle nle
theorem own_arvNe {Z : State} {h : Heap} {a b : Addr} {k k' : ClassId} {ty ty' : FieldType} {z z' : Int32} {vs vs' : List Value} {d d' : Value} (A : Arv Z h a k ty z vs d) (B : Arv Z h b k' ty' z' vs' d') (hn : ty ≠ ty') : a ≠ b := fun e => by
 subst e
 obtain ⟨c, ⟨a1, ⟨-, kA, hkA, cA, kdA⟩, -⟩, -⟩ := A
 obtain ⟨c', ⟨b1, ⟨-, kB, hkB, cB, kdB⟩, -⟩, -⟩ := B
 cases a1.symm.trans b1
 cases hkA.symm.trans hkB
 rw [kdA] at kdB
 cases kdB
 exact hn rfl
/-- an entry: what was given (value), its node, its list, the list's array -/
abbrev EN := Option (Addr × Addr × Addr × Addr × ClassId)
def ENT (Z : State) (h : Heap) (tv : List Value) (n : Addr) (c : Int32) (b : EN) : Prop :=
 match b with
 | none => tv.getD (own_bin c) .null = .null
 | some (v, nd, L, tl, kl) => tv.getD (own_bin c) .null = .ref nd ∧ Nod Z h nd (own_hs c) n L ∧ ALn Z h L tl kl [.ref v] 1
def own_fl (b : Bool) : Int32 := if b = true then 1 else 0
def own_cnt (b : EN) : Int32 := own_fl b.isSome
/-- the map of the two names n1 ('--c1') and n2 ('--c2') -/
def MP (Z : State) (lb : Nat) (h : Heap) (m0 n1 n2 : Addr) (c1 c2 : Int32) (b1 b2 : EN) : Prop :=
 (b1 = none ∧ b2 = none ∧ HM0 Z h m0) ∨ ∃ tt kt tv sz mc, HMt Z h m0 tt kt tv sz mc ∧ tv.length = 16 ∧ sz = own_cnt b1 + own_cnt b2 ∧ lb ≤ tt ∧ ENT Z h tv n1 c1 b1 ∧ ENT Z h tv n2 c2 b2
theorem MP.exa {Z : State} {h : Heap} {lb : Nat} {m0 n1 n2 : Addr} {c1 c2 : Int32} {b1 b2 : EN} (M : MP Z lb h m0 n1 n2 c1 c2 b1 b2) : Exa Z h m0 "java/util/HashMap" := by
 rcases M with ⟨-, -, H⟩ | ⟨tt, kt, tv, sz, mc, H, -⟩
 · exact H.1
 · exact H.1
/-- what is written is none of the map's own cells -/
def Off (Z : State) (h : Heap) (ws : List Addr) (bs : EN) : Prop := ∀ v nd L tl kl, bs = some (v, nd, L, tl, kl) → nd ∉ ws ∧ L ∉ ws ∧ tl ∉ ws
theorem ENT.keep {Z : State} {h h' : Heap} {tv : List Value} {n : Addr} {c : Int32} {b : EN} {ws : List Addr} (K : Keep h h' ws) (o : Off Z h ws b) (M : ENT Z h tv n c b) : ENT Z h' tv n c b := by
 match b, M, o with
 | none, M, _ => exact M
 | some (v, nd, L, tl, kl), ⟨h1, h2, h3⟩, o =>
   obtain ⟨o1, o2, o3⟩ := o _ _ _ _ _ rfl
   exact ⟨h1, ⟨h2.1.keep K, h2.2.1.keep K o1, h2.2.2.1.keep K o1, h2.2.2.2.keep K o1⟩, h3.keep K o2 o3⟩
theorem MP.keep {Z : State} {h h' : Heap} {lb : Nat} {m0 n1 n2 : Addr} {c1 c2 : Int32} {b1 b2 : EN} {ws : List Addr} (K : Keep h h' ws) (h1 : m0 ∉ ws) (ht : ∀ tt kt z tv dv, Arv Z h tt kt (.object "java/util/HashMap$Node") z tv dv → tt ∉ ws) (o1 : Off Z h ws b1) (o2 : Off Z h ws b2) (M : MP Z lb h m0 n1 n2 c1 c2 b1 b2) : MP Z lb h' m0 n1 n2 c1 c2 b1 b2 := by
 rcases M with ⟨q1, q2, H⟩ | ⟨tt, kt, tv, sz, mc, H, q1, q2, q3, q4, q5⟩
 · exact Or.inl ⟨q1, q2, H.1.keep K, H.2.1.keep K h1, H.2.2.1.keep K h1, H.2.2.2.1.keep K h1, H.2.2.2.2.keep K h1⟩
 · exact Or.inr ⟨tt, kt, tv, sz, mc, ⟨H.1.keep K, H.2.1.keep K h1, H.2.2.1.keep K h1, H.2.2.2.1.keep K h1, H.2.2.2.2.1.keep K h1, H.2.2.2.2.2.1.keep K (ht _ _ _ _ _ H.2.2.2.2.2.1), H.2.2.2.2.2.2⟩, q1, q2, q3, q4.keep K o1, q5.keep K o2⟩
/-- nothing of the map is a String -/
theorem own_offS {Z : State} {h : Heap} {a0 : Array Value} (hw : HW Z a0) {tv : List Value} {n x : Addr} {c : Int32} {b : EN} (X : Exa Z h x "java/lang/String") (M : ENT Z h tv n c b) : Off Z h [x] b := fun v nd L tl kl e => by
 subst e
 obtain ⟨-, h2, h3⟩ := M
 exact ⟨ninS (Exa.ne h2.1 X (by decide)) nin0, ninS (Exa.ne h3.1 X (by decide)) nin0, ninS (Exa.neArv X h3.2.2.2.2.1 (wq hw 1 rfl)).symm nin0⟩
theorem MP.keepS {Z : State} {h h' : Heap} {a0 : Array Value} (hw : HW Z a0) {lb : Nat} {m0 n1 n2 x : Addr} {c1 c2 : Int32} {b1 b2 : EN} (K : Keep h h' [x]) (X : Exa Z h x "java/lang/String") (M : MP Z lb h m0 n1 n2 c1 c2 b1 b2) : MP Z lb h' m0 n1 n2 c1 c2 b1 b2 := by
 have hm : m0 ∉ [x] := ninS (Exa.ne M.exa X (by decide)) nin0
 have ht : ∀ tt kt z tv dv, Arv Z h tt kt (.object "java/util/HashMap$Node") z tv dv → tt ∉ [x] := fun tt kt z tv dv A => ninS (Exa.neArv X A (wq hw 1 rfl)).symm nin0
 rcases id M with ⟨q1, q2, H⟩ | ⟨tt, kt, tv, sz, mc, H, q1, q2, q3, q4, q5⟩
 · exact M.keep K hm ht (fun _ _ _ _ _ e => by rw [q1] at e; cases e) (fun _ _ _ _ _ e => by rw [q2] at e; cases e)
 · exact M.keep K hm ht (own_offS hw X q4) (own_offS hw X q5)
/-- a String that may be a key -/
def Key (Z : State) (h : Heap) (x : Addr) (c0 : Int32) : Prop := ∃ q, (q = 0 ∨ q = own_hs c0) ∧ StH Z h x [45, 45, c0] q ∧ Z.heap.size ≤ x
theorem Key.keep {Z : State} {h h' : Heap} {x : Addr} {c0 : Int32} {ws : List Addr} (K : Keep h h' ws) (hx : x ∉ ws) (ht : ∀ t, Fld Z h x "java/lang/String" "value" "[B" (.ref t) → t ∉ ws) (S : Key Z h x c0) : Key Z h' x c0 := by
 obtain ⟨q, h1, ⟨h2, h3, h4, h5⟩, h6⟩ := S
 obtain ⟨hp, t, kb, E, Fv, Fc, A⟩ := h2
 exact ⟨q, h1, ⟨⟨hp, t, kb, E.keep K, Fv.keep K hx, Fc.keep K hx, A.keep K (ht t Fv)⟩, h3.keep K hx, h4.keep K hx, own_bt (Fv.keep K hx) (own_insKeep K (h5 t Fv))⟩, h6⟩
theorem Key.ext {Z : State} {h h' : Heap} {x : Addr} {c0 : Int32} (E : Ext h h') (S : Key Z h x c0) : Key Z h' x c0 := S.keep (keepE E []) (by simp) (fun _ _ => by simp)
theorem Key.str {Z : State} {h : Heap} {x : Addr} {c0 : Int32} (S : Key Z h x c0) : Str Z h x [45, 45, c0] := by obtain ⟨q, -, h2, -⟩ := S; exact h2.1
theorem Key.ge {Z : State} {h : Heap} {x : Addr} {c0 : Int32} (S : Key Z h x c0) : Z.heap.size ≤ x := by obtain ⟨q, -, -, h⟩ := S; exact h
theorem Key.keepS {Z : State} {h h' : Heap} {a0 : Array Value} (hw : HW Z a0) {x y : Addr} {c0 : Int32} (K : Keep h h' [y]) (Y : Exa Z h y "java/lang/String") (hn : x ≠ y) (S : Key Z h x c0) : Key Z h' x c0 := S.keep K (ninS hn nin0) (fun t F => by
 obtain ⟨-, t1, kb, -, Fv, -, A⟩ := S.str
 obtain ⟨cell, cf, k, i, f, g1, g2, -, -, -, -, g7⟩ := F
 obtain ⟨cell', cf', k', i', f', p1, p2, -, -, -, -, p7⟩ := Fv
 cases g1.symm.trans p1
 cases g2.symm.trans p2
 rw [p7] at g7
 cases g7
 exact ninS (Exa.neArv Y A (wq hw 1 rfl)).symm nin0)
/-- a String of three signs is no constant -/
theorem own_safeS {Z : State} {a0 : Array Value} {EL : List (String × Nat)} {V : Vm} {h : Heap} {x : Addr} {cs : List Int32} (hZ : Z.Warmed39 V) (S : Str Z h x cs) (hl : cs.length ≤ 5000)
   (hw : ∀ p ∈ EL, ∃ text : String, (Jvm.Cond.stringLink p.1 p.2 text).before a0 Z = true ∧ (∀ c ∈ text.toList, c.toNat < 256) ∧ text.toList.length ≠ cs.length) : Safe Z EL V h x := fun B => by
 obtain ⟨hp0, t, kb, E, Fv, Fc, K⟩ := S
 have St : Safe Z EL V h t := own_safe hZ K (fun p hp => by obtain ⟨text, h1, h2, h3⟩ := hw p hp; exact ⟨text, h1, h2, by rw [(own_n32 hl).2.1]; exact h3⟩)
 obtain ⟨p, hp, u, a, hb, q, hq, Fq, hy⟩ := B
 rcases hy with rfl | rfl
 · have et : t = q.sd := by
     have ha := Fq.ha
     obtain ⟨cS, ⟨⟨-, -, -, ⟨c1, k1, i1, f1, -⟩, -, -, -, v1, -⟩, -⟩, -⟩ := id Fq
     obtain ⟨cell, cf, kf, i, f, g1, g2, -, -, -, -, g7⟩ := Fv
     obtain ⟨k3, e3, -⟩ := State.fieldFound?_setVm (s := ({ Z with heap := h } : State)) hZ.alike g2
     have e4 := (show (Wst Z V h).fieldFound? _ _ _ = _ from e3).symm.trans f1
     simp only [Option.some.injEq, Prod.mk.injEq] at e4
     cases (show h[q.sa]? = some q.sC from ha).symm.trans g1
     rw [e4.2.2.2, v1] at g7
     simpa using g7.symm
   exact St ⟨p, hp, u, a, hb, q, hq, Fq, Or.inr et⟩
 · obtain ⟨cell, k, x1, x2, -⟩ := E
   cases (show h[q.sd]? = some q.SA from Fq.hd).symm.trans x1
   obtain ⟨cS, -, -, h4, -⟩ := Fq
   exact ids_ne (Z := Z) (C := "[B") (K := "java/lang/String") ((hZ.alike.findClass "[B" _).symm.trans h4) x2 (by decide) rfl
theorem Key.safe {Z : State} {a0 : Array Value} {V : Vm} {h : Heap} {x : Addr} {c0 : Int32} (hw : HW Z a0) (hZ : Z.Warmed39 V) (S : Key Z h x c0) : Safe Z consts_1 V h x :=
 own_safeS (a0 := a0) hZ S.str (by simp) (fun p hp => by
   simp only [consts_1, List.mem_cons, List.not_mem_nil, or_false] at hp
   rcases hp with rfl | rfl | rfl | rfl
   · exact ⟨"--", (wq hw 381 rfl), by decide, by show 2 ≠ 3; decide⟩
   · exact ⟨"--", (wq hw 566 rfl), by decide, by show 2 ≠ 3; decide⟩
   · exact ⟨"u", (wq hw 110 rfl), by decide, by show 1 ≠ 3; decide⟩
   · exact ⟨"", (wq hw 576 rfl), by decide, by show 0 ≠ 3; decide⟩)
theorem own_stoN {Z : State} {h : Heap} {t n : Addr} {k : ClassId} {z : Int32} {vs : List Value} {dv : Value} (A : Arv Z h t k (.object "java/util/HashMap$Node") z vs dv) (O : Ovr Z k "java/util/HashMap$Node") (X : Exa Z h n "java/util/HashMap$Node") : Sto Z h t (.ref n) := by
 obtain ⟨cA, A1, A2, -⟩ := id A
 exact Sto.ofV A1 A2 O (Ins.self X)
theorem own_cia66 (l : Launch) (Z : State) (a0 : Array Value) (hw : HW Z a0) (hEL : EW Z a0 consts_1) {p : Program} {e : Env} {s : State} {m : MethodId} {args : Array Value} {below : List Frame} {meth : Method} {c : Code} {S0 : State} {dc : Addr} {kd : ClassId} {es el em mr le : Addr} {kl : ClassId} (ST : Stt Z dc kd es el em mr le kl) {f : Addr} {cK cS : ClassId} {methk : Method} {ck : Code} (LF : Lam Z f cK cS methk ck) {V : Vm} {cl sl : Nat} (hcl : cl ≤ 1) (hsl : sl ≤ 16) (m0 tt : Addr) (kt : ClassId) (tv : List Value) (htv : tv.length = 16) (sz mc : Int32) (x : Addr) (c0 : Int32) (r0 : ¬ c0 < 0 ∧ ¬ (255 : Int32) < c0) (hin : Heap) (X_x : Exa Z hin x "java/lang/String") (T : HMt Z hin m0 tt kt tv sz mc) (hv : tv.getD (own_bin c0) .null = .null) (ge_m0_Z : Z.heap.size ≤ m0) (ge_tt_Z : Z.heap.size ≤ tt)
   (Q : Option Value → Heap → Prop) (hQ : ∀ (L nd : Addr) (h : Heap), Keep hin h [m0, tt] → hin.size ≤ L → hin.size ≤ nd → HMt Z h m0 tt kt (tv.set (own_bin c0) (.ref nd)) (sz + 1) (mc + 1) → Nod Z h nd (own_hs c0) x L → AL0 Z h L dc 0 → Q (some (.ref L)) h)
   (w : Wk p l e (rM 7 3 23 140) s m args below meth c Z a0 consts_1 S0 mN86 jdk_69_method_35_code 13 (some (.object "java/lang/Object")) V hin cl sl (mkF m 66 #[.val (.ref m0), .val (.ref x), .val (.ref f), .val (.int (own_hs c0)), .val (.ref tt), .unset, .val (.int 16), .unset, .val (.int 0), .val .null, .val .null, .unset, .unset] [])) :
   Fini p e below s Z consts_1 S0 3 23 Q := by
 obtain ⟨Sd, Dd, Xd, Ss, Xs, Fz, Sl, Xl, Fe0, Al0, Fn0, Se, Xe, Mr⟩ := id ST
 have hb := own_15 r0
 have hbl : own_bin c0 < tv.length := by
   have q := (own_n32 (n := 16) (by omega))
   rw [htv]
   have h2 := hb.2
   have hin' := hb.1
   have e16 : (16 : Int32).toInt = 16 := by decide
   have e0 : (0 : Int32).toInt = 0 := by decide
   rw [Int32.lt_iff_toInt_lt] at h2 hin'
   unfold own_bin
   rw [Int32.toNatClampNeg]
   omega
 obtain ⟨X_m0, Ft, Fs, Fu, Fc, A, O⟩ := T
 have nemt : m0 ≠ tt := Exa.neArv X_m0 A (wq hw 126 rfl)
 replace w := ((((((((((w.aload (d63 0 rfl) rfl).iload (d63 1 rfl) rfl).iconst (1 : Int32) (d63 2 rfl)).isub (d63 3 rfl)).iloadN (d63 4 rfl) rfl).iand (d63 5 rfl)).dup (d63 6 rfl)).istore (L' := #[.val (.ref m0), .val (.ref x), .val (.ref f), .val (.int (own_hs c0)), .val (.ref tt), .unset, .val (.int (16 : Int32)), .val (.int (((16 : Int32) - (1 : Int32)) &&& (own_hs c0))), .val (.int (0 : Int32)), .val .null, .val .null, .unset, .unset]) (d63 7 rfl) rfl).aaload (v := .null) A (d63 8 rfl) ⟨hb.1, hb.2⟩ (hv)).dup (d63 9 rfl)).astore (pc' := 81) (L' := #[.val (.ref m0), .val (.ref x), .val (.ref f), .val (.int (own_hs c0)), .val (.ref tt), .val .null, .val (.int (16 : Int32)), .val (.int (((16 : Int32) - (1 : Int32)) &&& (own_hs c0))), .val (.int (0 : Int32)), .val .null, .val .null, .unset, .unset]) (d63 10 rfl) rfl
 replace w := (((((w.ifnullYes (d63 11 rfl) ).aloadN (d63 12 rfl) rfl).getF (wq hw 479 rfl) Fc (d63 13 rfl)).istore (L' := #[.val (.ref m0), .val (.ref x), .val (.ref f), .val (.int (own_hs c0)), .val (.ref tt), .val .null, .val (.int (16 : Int32)), .val (.int (((16 : Int32) - (1 : Int32)) &&& (own_hs c0))), .val (.int (0 : Int32)), .val .null, .val .null, .val (.int mc), .unset]) (d63 14 rfl) rfl).aloadN (d63 15 rfl) rfl).aloadN (pc' := 202) (d63 16 rfl) rfl
 obtain ⟨v80, V80, h80, ⟨L, rfl, E80, gL, TL⟩, A80, w⟩ := w.faceX (W := 0) (kc := 1) (ks := 3) (Q := fun v h => ∃ b, v = some (.ref b) ∧ Ext hin h ∧ hin.size ≤ b ∧ AL0 Z h b dc 0) (argsL := [.ref x]) (rest := []) (own_lamPays hw dc kd Sd Dd w LF X_x 0 nle nle) LF.2.1 LF.2.2.1 (wq hw 481 rfl) (wq hw 482 rfl) (wq hw 483 rfl) (by decide) (by decide +kernel : parseMethodDescriptor "(Ljava/lang/Object;)Ljava/lang/Object;" = some ⟨[.object "java/lang/Object"], some (.object "java/lang/Object")⟩) rfl rfl (Nat.le_of_eq rfl) rfl (d63 17 rfl) omr omr (pc' := 207)
 replace w := w.toS [(.ref L)]
 have Fc8 := Fc.ext E80
 have A8 := A.ext E80
 replace w := ((((((((((w.astore (L' := #[.val (.ref m0), .val (.ref x), .val (.ref f), .val (.int (own_hs c0)), .val (.ref tt), .val .null, .val (.int (16 : Int32)), .val (.int (((16 : Int32) - (1 : Int32)) &&& (own_hs c0))), .val (.int (0 : Int32)), .val .null, .val .null, .val (.int mc), .val (.ref L)]) (d63 18 rfl) rfl).iload (d63 19 rfl) rfl).aloadN (d63 20 rfl) rfl).getF (wq hw 479 rfl) Fc8 (d63 21 rfl)).icmpYes (pc' := 226) (d63 22 rfl) ((teq rfl).1)).aload (d63 23 rfl) rfl).ifnonnullYes (d63 24 rfl) ).aload (d63 25 rfl) rfl).ifnullYes (d63 26 rfl) ).aload (d63 27 rfl) rfl).ifnullYes (pc' := 275) (d63 28 rfl) 
 replace w := ((((((w.aload (d63 29 rfl) rfl).iload (d63 30 rfl) rfl).aloadN (d63 31 rfl) rfl).iloadN (d63 32 rfl) rfl).aloadN (d63 33 rfl) rfl).aload (d63 34 rfl) rfl).aload (pc' := 286) (d63 35 rfl) rfl
 have X_m0 := X_m0.ext E80
 obtain ⟨v1, V1, h1, hq1, A1, w⟩ := w.virt (y' := mN53) (W := 2) (C := "java/util/HashMap") (b := m0) (w.pays 2 (rmNND l Z a0 hw hEL m0 x L (own_hs c0) h80 w.old) (wq hw 490 rfl) (wq hw 127 rfl) all0 nle nle) (wq hw 486 rfl) (wq hw 487 rfl) (wq hw 489 rfl) (wq hw 488 rfl) (argsL := [(.int (own_hs c0)), (.ref x), (.ref L), .null]) (rest := [(.int (((16 : Int32) - (1 : Int32)) &&& (own_hs c0))), (.ref tt)]) (by decide) X_m0 pd_40 rfl rfl nlr rfl (d63 36 rfl) omr omr (pc' := 289)
 obtain ⟨nd, rfl, E1, gnd, N1⟩ := hq1
 replace w := w.toS [(.ref nd), (.int (((16 : Int32) - (1 : Int32)) &&& (own_hs c0))), (.ref tt)]
 have A9 := A8.ext E1
 have St := own_stoN A9 O N1.1
 obtain ⟨h2, K2, Aq, A2, w⟩ := w.aastore A9 (St) (rfl) (d63 37 rfl) ⟨hb.1, hb.2⟩ (own_bin c0) (rfl) (hbl) (ge_tt_Z) (pc' := 290)
 have nend : nd ≠ tt := Nat.ne_of_gt (Nat.lt_of_lt_of_le A8.lt gnd)
 have neL : L ≠ tt := Nat.ne_of_gt (Nat.lt_of_lt_of_le A.lt gL)
 have neLm : L ≠ m0 := Nat.ne_of_gt (Nat.lt_of_lt_of_le Ft.lt gL)
 have nendm : nd ≠ m0 := Nat.ne_of_gt (Nat.lt_of_lt_of_le X_m0.lt gnd)
 have nmt : m0 ∉ [tt] := ninS nemt nin0
 have X2 := (X_m0.ext E1).keep K2
 have Ft2 := ((Ft.ext E80).ext E1).keep K2 nmt
 have Fs2 := ((Fs.ext E80).ext E1).keep K2 nmt
 have Fu2 := ((Fu.ext E80).ext E1).keep K2 nmt
 have Fc2 := (Fc8.ext E1).keep K2 nmt
 replace w := ((((((w.iload (d63 38 rfl) rfl).bipush (7 : Int32) (d63 39 rfl)).icmpYes (d63 40 rfl) (by decide)).aloadN (d63 41 rfl) rfl).iload (d63 42 rfl) rfl).iconst (1 : Int32) (d63 43 rfl)).iadd (pc' := 309) (d63 44 rfl)
 obtain ⟨h3, W3, K3, Fw3, A3, w⟩ := w.putF (ty := .int) (wq hw 479 rfl) (Fc2) (X2) (Or.inl (wq hw 480 rfl)) (wq hw 126 rfl) (by decide) rfl rfl (Safe.exa w.hZ.alike X2 (by decide) (by decide)) (ge_m0_Z) (d63 45 rfl) (pc' := 312)
 have X3 := X2.wr W3
 have Ft3 := Ft2.other W3 (Or.inr (own_mtm hw))
 have Fs3 := Fs2.other W3 (Or.inr (own_msm hw))
 have Fu3 := Fu2.other W3 (Or.inr (own_mum hw))
 have Aq3 := Aq.other W3 nemt.symm
 replace w := ((((w.aloadN (d63 46 rfl) rfl).dup (d63 47 rfl)).getF (wq hw 468 rfl) Fs3 (d63 48 rfl)).iconst (1 : Int32) (d63 49 rfl)).iadd (pc' := 319) (d63 50 rfl)
 obtain ⟨h4, W4, K4, Fw4, A4, w⟩ := w.putF (ty := .int) (wq hw 468 rfl) (Fs3) (X3) (Or.inl (wq hw 469 rfl)) (wq hw 126 rfl) (by decide) rfl rfl (Safe.exa w.hZ.alike X3 (by decide) (by decide)) (ge_m0_Z) (d63 51 rfl) (pc' := 322)
 have X_m0 := X3.wr W4
 replace w := (w.aloadN (d63 52 rfl) rfl).iconst (pc' := 324) (1 : Int32) (d63 53 rfl)
 obtain ⟨v5, V5, h5, hq5, A5, w⟩ := w.virt (y' := mN54) (W := 0) (C := "java/util/HashMap") (b := m0) (w.pays 0 (rmANI l Z a0 hw hEL m0 h4 w.old) (wq hw 510 rfl) (wq hw 127 rfl) all0 nle nle) (wq hw 506 rfl) (wq hw 507 rfl) (wq hw 509 rfl) (wq hw 508 rfl) (argsL := [(.int (1 : Int32))]) (rest := []) (by decide) X_m0 pd_41 rfl rfl nlr rfl (d63 54 rfl) omr omr (pc' := 327)
 obtain ⟨rfl, he5⟩ := hq5
 replace w := w.toS []
 replace he5 := he5.symm
 subst he5
 replace w := w.aload (pc' := 329) (d63 55 rfl) rfl
 have K04 : Keep hin h4 [m0, tt] := ((((keepE E80 [m0, tt]).ext E1).trans K2 (allS (Or.inl (by simp)) all0)).trans K3 (allS (Or.inl (by simp)) all0)).trans K4 (allS (Or.inl (by simp)) all0)
 have gnd0 : hin.size ≤ nd := Nat.le_trans E80.1 gnd
 have N4 : Nod Z h4 nd (own_hs c0) x L := Nod.keepS K4 nendm (Nod.keepS K3 nendm (Nod.keepS K2 nend N1))
 have TL4 : AL0 Z h4 L dc 0 := (((TL.ext E1).keep K2 (ninS neL nin0)).keep K3 (ninS neLm nin0)).keep K4 (ninS neLm nin0)
 exact w.retA (d63 56 rfl) (hQ L nd h4 K04 gL gnd0 ⟨X_m0, Ft3.other W4 (Or.inr (own_mts hw)), Fw4, Fu3.other W4 (Or.inr (own_mst hw).symm), Fw3.other W4 (Or.inr (own_msm hw).symm), Aq3.other W4 nemt.symm, O⟩ N4 TL4) omr omr
theorem rmCIAt (l : Launch) (Z : State) (a0 : Array Value) (hw : HW Z a0) (hEL : EW Z a0 consts_1) (z0 : Int32) (Sc : SC Z z0) (hz0 : ¬ z0 = 0) {dc : Addr} {kd : ClassId} {es el em mr le : Addr} {kl : ClassId} (ST : Stt Z dc kd es el em mr le kl) {f : Addr} {cK cS : ClassId} {methk : Method} {ck : Code} (LF : Lam Z f cK cS methk ck) (m0 t : Addr) (k : ClassId) (tv : List Value) (htv : tv.length = 16) (sz mc : Int32) (hsz : ¬ (2 : Int32) < sz) (x : Addr) (c0 q : Int32) (hq : q = 0 ∨ q = own_hs c0) (h0 : Heap) (hx : Ext Z.heap h0) (S : StH Z h0 x [45, 45, c0] q) (hBt : ∀ t, Fld Z h0 x "java/lang/String" "value" "[B" (.ref t) → Ins Z h0 t "[B" true) (ge_x_Z : Z.heap.size ≤ x) (T : HMt Z h0 m0 t k tv sz mc) (hv : tv.getD (own_bin c0) .null = .null) (ge_m0_Z : Z.heap.size ≤ m0) (ge_t_Z : Z.heap.size ≤ t) :
   Met l Z consts_1 mN86 jdk_69_method_35_code 13 (some (.object "java/lang/Object")) [] (rM 7 3 23 140) #[.ref m0, .ref x, .ref f] h0 [x] (fun v h => ∃ L nd, v = some (.ref L) ∧ Keep h0 h [m0, t, x] ∧ h0.size ≤ L ∧ h0.size ≤ nd ∧ HMt Z h m0 t k (tv.set (own_bin c0) (.ref nd)) (sz + 1) (mc + 1) ∧ Nod Z h nd (own_hs c0) x L ∧ AL0 Z h L dc 0 ∧ StH Z h x [45, 45, c0] (own_hs c0)) := by
 have r0 := S.1.1 c0 (by simp)
 have T' := T
 obtain ⟨X_m, Ft, Fs, Fu, Fc, A, O⟩ := T
 have ne : x ≠ t := Exa.neArv S.1.exa A (wq hw 1 rfl)
 have ne2 : m0 ≠ x := Exa.ne X_m S.1.exa (by decide)
 have h12 : ¬ (12 : Int32) < sz := fun z => hsz (by
   have e2 : (2 : Int32).toInt = 2 := by decide
   have e12 : (12 : Int32).toInt = 12 := by decide
   rw [Int32.lt_iff_toInt_lt] at z ⊢; omega)
 refine Met.of (a0 := a0) (by decide +kernel) hEL hx ?_
 intro p e s m below meth c S0 V w hs hsf
 have Sx := hsf x (List.mem_cons_self ..)
 replace w := (((w.to (g' := mkF m 0 #[.val (.ref m0), .val (.ref x), .val (.ref f), .unset, .unset, .unset, .unset, .unset, .unset, .unset, .unset, .unset, .unset] [])).aloadN (d63 57 rfl) rfl).ifnonnullYes (d63 58 rfl) ).aloadN (pc' := 13) (d63 59 rfl) rfl
 obtain ⟨v1, V1, h1, hq1, A1, w⟩ := w.static (y' := mN5) (W := 0) (w.pays 0 (rmHSH l Z a0 hw hEL z0 Sc hz0 x c0 q hq h0 w.old S hBt ge_x_Z) (wq hw 441 rfl) (wq hw 127 rfl) (allS Sx all0) nle nle) (wq hw 439 rfl) (wq hw 440 rfl) (wq hw 127 rfl) (wq hw 441 rfl) (argsL := [(.ref x)]) (rest := []) (by decide) pd_21 rfl rfl nlr rfl (d63 60 rfl) nle nle (pc' := 16)
 obtain ⟨rfl, K1, S1⟩ := hq1
 replace w := w.toS [(.int (own_hs c0))]
 have T1 : HMt Z h1 m0 t k tv sz mc := T'.keepS K1 ne2 ne.symm
 have T1' := T1
 obtain ⟨X_m1, Ft1, Fs1, Fu1, Fc1, A1', O1⟩ := T1
 replace w := ((((w.istoreN (L' := #[.val (.ref m0), .val (.ref x), .val (.ref f), .val (.int (own_hs c0)), .unset, .unset, .unset, .unset, .unset, .unset, .unset, .unset, .unset]) (d63 61 rfl) rfl).iconst (0 : Int32) (d63 62 rfl)).istore (L' := #[.val (.ref m0), .val (.ref x), .val (.ref f), .val (.int (own_hs c0)), .unset, .unset, .unset, .unset, .val (.int (0 : Int32)), .unset, .unset, .unset, .unset]) (d63 63 rfl) rfl).aconstNull (d63 64 rfl)).astore (pc' := 23) (L' := #[.val (.ref m0), .val (.ref x), .val (.ref f), .val (.int (own_hs c0)), .unset, .unset, .unset, .unset, .val (.int (0 : Int32)), .val .null, .unset, .unset, .unset]) (d63 65 rfl) rfl
 replace w := ((((((((((w.aconstNull (d63 66 rfl)).astore (L' := #[.val (.ref m0), .val (.ref x), .val (.ref f), .val (.int (own_hs c0)), .unset, .unset, .unset, .unset, .val (.int (0 : Int32)), .val .null, .val .null, .unset, .unset]) (d63 67 rfl) rfl).aloadN (d63 68 rfl) rfl).getF (wq hw 468 rfl) Fs1 (d63 69 rfl)).aloadN (d63 70 rfl) rfl).getF (wq hw 470 rfl) Fu1 (d63 71 rfl)).icmpNo (pc' := 37) (d63 72 rfl) ((flt h12).2.2.1)).aloadN (d63 73 rfl) rfl).getF (wq hw 297 rfl) Ft1 (d63 74 rfl)).dup (d63 75 rfl)).astore (pc' := 44) (L' := #[.val (.ref m0), .val (.ref x), .val (.ref f), .val (.int (own_hs c0)), .val (.ref t), .unset, .unset, .unset, .val (.int (0 : Int32)), .val .null, .val .null, .unset, .unset]) (d63 76 rfl) rfl
 replace w := (((((w.ifnullNo (d63 77 rfl) ).aload (d63 78 rfl) rfl).arrlen A1' (d63 79 rfl)).dup (d63 80 rfl)).istore (L' := #[.val (.ref m0), .val (.ref x), .val (.ref f), .val (.int (own_hs c0)), .val (.ref t), .unset, .val (.int (16 : Int32)), .unset, .val (.int (0 : Int32)), .val .null, .val .null, .unset, .unset]) (d63 81 rfl) rfl).ifYes (pc' := 66) (d63 82 rfl) (by decide)
 obtain ⟨⟨hp, tb, kb, E_x, Fv_x, Fc_x, Ab⟩, Fh_x, Fz_x, Bt_x⟩ := id S1
 have nb1 : tb ≠ m0 := (Exa.neArv X_m1 Ab (wq hw 126 rfl)).symm
 have nb2 : tb ≠ t := own_arvNe Ab A1' (by decide)
 have nx : x ∉ [m0, t] := ninS ne2.symm (ninS ne nin0)
 have nb : tb ∉ [m0, t] := ninS nb1 (ninS nb2 nin0)
 refine own_cia66 l Z a0 hw hEL ST LF (cl := 0) (sl := 0) (by decide) (by decide) m0 t k tv htv sz mc x c0 r0 h1 S1.1.exa T1' hv ge_m0_Z ge_t_Z _ (fun L nd h K gL gn H N TL => ?_) w
 exact ⟨L, nd, rfl, ((Keep.refl h0 [m0, t, x]).trans K1 (allS (Or.inl (by simp)) all0)).trans K (allS (Or.inl (by simp)) (allS (Or.inl (by simp)) all0)), Nat.le_trans K1.1 gL, Nat.le_trans K1.1 gn, H, N, TL, ⟨hp, tb, kb, E_x.keep K, Fv_x.keep K nx, Fc_x.keep K nx, Ab.keep K nb⟩, Fh_x.keep K nx, Fz_x.keep K nx, own_bt (Fv_x.keep K nx) (own_insKeep K (Bt_x tb Fv_x))⟩
theorem rmCIA0 (l : Launch) (Z : State) (a0 : Array Value) (hw : HW Z a0) (hEL : EW Z a0 consts_1) (z0 : Int32) (Sc : SC Z z0) (hz0 : ¬ z0 = 0) {dc : Addr} {kd : ClassId} {es el em mr le : Addr} {kl : ClassId} (ST : Stt Z dc kd es el em mr le kl) {f : Addr} {cK cS : ClassId} {methk : Method} {ck : Code} (LF : Lam Z f cK cS methk ck) (m0 : Addr) (x : Addr) (c0 q : Int32) (hq : q = 0 ∨ q = own_hs c0) (h0 : Heap) (hx : Ext Z.heap h0) (S : StH Z h0 x [45, 45, c0] q) (hBt : ∀ t, Fld Z h0 x "java/lang/String" "value" "[B" (.ref t) → Ins Z h0 t "[B" true) (ge_x_Z : Z.heap.size ≤ x) (T : HM0 Z h0 m0) (ge_m0_Z : Z.heap.size ≤ m0) :
   Met l Z consts_1 mN86 jdk_69_method_35_code 13 (some (.object "java/lang/Object")) [] (rM 7 3 23 140) #[.ref m0, .ref x, .ref f] h0 [x] (fun v h => ∃ L nd t k, v = some (.ref L) ∧ Keep h0 h [m0, x] ∧ h0.size ≤ L ∧ h0.size ≤ nd ∧ h0.size ≤ t ∧ HMt Z h m0 t k ((List.replicate 16 .null).set (own_bin c0) (.ref nd)) 1 1 ∧ Nod Z h nd (own_hs c0) x L ∧ AL0 Z h L dc 0 ∧ StH Z h x [45, 45, c0] (own_hs c0)) := by
 have r0 := S.1.1 c0 (by simp)
 obtain ⟨X_m, Ft, Fs, Fu, Fc⟩ := T
 have ne2 : m0 ≠ x := Exa.ne X_m S.1.exa (by decide)
 refine Met.of (a0 := a0) (by decide +kernel) hEL hx ?_
 intro p e s m below meth c S0 V w hs hsf
 have Sx := hsf x (List.mem_cons_self ..)
 have hbz : Z.heap.size ≤ h0.size := w.zsz
 replace w := (((w.to (g' := mkF m 0 #[.val (.ref m0), .val (.ref x), .val (.ref f), .unset, .unset, .unset, .unset, .unset, .unset, .unset, .unset, .unset, .unset] [])).aloadN (d63 57 rfl) rfl).ifnonnullYes (d63 58 rfl) ).aloadN (pc' := 13) (d63 59 rfl) rfl
 obtain ⟨v1, V1, h1, hq1, A1, w⟩ := w.static (y' := mN5) (W := 0) (w.pays 0 (rmHSH l Z a0 hw hEL z0 Sc hz0 x c0 q hq h0 w.old S hBt ge_x_Z) (wq hw 441 rfl) (wq hw 127 rfl) (allS Sx all0) nle nle) (wq hw 439 rfl) (wq hw 440 rfl) (wq hw 127 rfl) (wq hw 441 rfl) (argsL := [(.ref x)]) (rest := []) (by decide) pd_21 rfl rfl nlr rfl (d63 60 rfl) nle nle (pc' := 16)
 obtain ⟨rfl, K1, S1⟩ := hq1
 replace w := w.toS [(.int (own_hs c0))]
 have nmx : m0 ∉ [x] := ninS ne2 nin0
 have T1 : HM0 Z h1 m0 := ⟨X_m.keep K1, Ft.keep K1 nmx, Fs.keep K1 nmx, Fu.keep K1 nmx, Fc.keep K1 nmx⟩
 have T1' := T1
 obtain ⟨X_m0, Ft1, Fs1, Fu1, Fc1⟩ := T1
 replace w := ((((w.istoreN (L' := #[.val (.ref m0), .val (.ref x), .val (.ref f), .val (.int (own_hs c0)), .unset, .unset, .unset, .unset, .unset, .unset, .unset, .unset, .unset]) (d63 61 rfl) rfl).iconst (0 : Int32) (d63 62 rfl)).istore (L' := #[.val (.ref m0), .val (.ref x), .val (.ref f), .val (.int (own_hs c0)), .unset, .unset, .unset, .unset, .val (.int (0 : Int32)), .unset, .unset, .unset, .unset]) (d63 63 rfl) rfl).aconstNull (d63 64 rfl)).astore (pc' := 23) (L' := #[.val (.ref m0), .val (.ref x), .val (.ref f), .val (.int (own_hs c0)), .unset, .unset, .unset, .unset, .val (.int (0 : Int32)), .val .null, .unset, .unset, .unset]) (d63 65 rfl) rfl
 replace w := ((((((((((w.aconstNull (d63 66 rfl)).astore (L' := #[.val (.ref m0), .val (.ref x), .val (.ref f), .val (.int (own_hs c0)), .unset, .unset, .unset, .unset, .val (.int (0 : Int32)), .val .null, .val .null, .unset, .unset]) (d63 67 rfl) rfl).aloadN (d63 68 rfl) rfl).getF (wq hw 468 rfl) Fs1 (d63 69 rfl)).aloadN (d63 70 rfl) rfl).getF (wq hw 470 rfl) Fu1 (d63 71 rfl)).icmpNo (d63 72 rfl) (by decide)).aloadN (d63 73 rfl) rfl).getF (wq hw 297 rfl) Ft1 (d63 74 rfl)).dup (d63 75 rfl)).astore (pc' := 44) (L' := #[.val (.ref m0), .val (.ref x), .val (.ref f), .val (.int (own_hs c0)), .val .null, .unset, .unset, .unset, .val (.int (0 : Int32)), .val .null, .val .null, .unset, .unset]) (d63 76 rfl) rfl
 replace w := (w.ifnullYes (d63 77 rfl) ).aloadN (pc' := 57) (d63 83 rfl) rfl
 obtain ⟨v2, V2, h2, hq2, A2, w⟩ := w.virt (y' := mN55) (W := 0) (C := "java/util/HashMap") (b := m0) (w.pays 0 (rmRSZ l Z a0 hw hEL m0 h1 w.old T1' ge_m0_Z) (wq hw 476 rfl) (wq hw 127 rfl) all0 nle nle) (wq hw 472 rfl) (wq hw 473 rfl) (wq hw 475 rfl) (wq hw 474 rfl) (argsL := []) (rest := []) (by decide) X_m0 pd_42 rfl rfl nlr rfl (d63 84 rfl) nle nle (pc' := 60)
 obtain ⟨t, k, rfl, K2, gt, T2⟩ := hq2
 replace w := w.toS [(.ref t)]
 have A2' := T2.2.2.2.2.2.1
 replace w := (((w.dup (d63 85 rfl)).astore (L' := #[.val (.ref m0), .val (.ref x), .val (.ref f), .val (.int (own_hs c0)), .val (.ref t), .unset, .unset, .unset, .val (.int (0 : Int32)), .val .null, .val .null, .unset, .unset]) (d63 86 rfl) rfl).arrlen A2' (d63 87 rfl)).istore (pc' := 66) (L' := #[.val (.ref m0), .val (.ref x), .val (.ref f), .val (.int (own_hs c0)), .val (.ref t), .unset, .val (.int (16 : Int32)), .unset, .val (.int (0 : Int32)), .val .null, .val .null, .unset, .unset]) (d63 88 rfl) rfl
 obtain ⟨⟨hp, tb, kb, E_x, Fv_x, Fc_x, Ab⟩, Fh_x, Fz_x, Bt_x⟩ := id S1
 have nb1 : tb ≠ m0 := (Exa.neArv X_m0 Ab (wq hw 126 rfl)).symm
 have nx1 : x ∉ [m0] := ninS ne2.symm nin0
 have nbm : tb ∉ [m0] := ninS nb1 nin0
 have nxt : x ≠ t := Nat.ne_of_lt (Nat.lt_of_lt_of_le E_x.lt gt)
 have nbt : tb ≠ t := Nat.ne_of_lt (Nat.lt_of_lt_of_le Ab.lt gt)
 have S2 : StH Z h2 x [45, 45, c0] (own_hs c0) := ⟨⟨hp, tb, kb, E_x.keep K2, Fv_x.keep K2 nx1, Fc_x.keep K2 nx1, Ab.keep K2 nbm⟩, Fh_x.keep K2 nx1, Fz_x.keep K2 nx1, own_bt (Fv_x.keep K2 nx1) (own_insKeep K2 (Bt_x tb Fv_x))⟩
 have nx : x ∉ [m0, t] := ninS ne2.symm (ninS nxt nin0)
 have nb : tb ∉ [m0, t] := ninS nb1 (ninS nbt nin0)
 have gt0 : h0.size ≤ t := Nat.le_trans K1.1 gt
 have h02 : h0.size ≤ (h2).size := Nat.le_trans K1.1 K2.1
 refine own_cia66 l Z a0 hw hEL ST LF (cl := 1) (sl := 16) (by decide) (by decide) m0 t k (List.replicate 16 .null) (by simp) 0 0 x c0 r0 h2 S2.1.exa T2 (by rw [List.getD_eq_getElem?_getD, List.getElem?_replicate]; split <;> rfl) ge_m0_Z (Nat.le_trans hbz gt0) _ (fun L nd h K gL gn H N TL => ?_) w
 obtain ⟨⟨hp2, tb2, kb2, E_x2, Fv_x2, Fc_x2, Ab2⟩, Fh_x2, Fz_x2, -⟩ := id S2
 exact ⟨L, nd, t, k, rfl, (((Keep.refl h0 [m0, x]).trans K1 (allS (Or.inl (by simp)) all0)).trans K2 (allS (Or.inl (by simp)) all0)).trans K (allS (Or.inl (by simp)) (allS (Or.inr gt0) all0)), Nat.le_trans h02 gL, Nat.le_trans h02 gn, gt0, H, N, TL, ⟨hp, tb, kb, (E_x.keep K2).keep K, (Fv_x.keep K2 nx1).keep K nx, (Fc_x.keep K2 nx1).keep K nx, (Ab.keep K2 nbm).keep K nb⟩, (Fh_x.keep K2 nx1).keep K nx, (Fz_x.keep K2 nx1).keep K nx, own_bt ((Fv_x.keep K2 nx1).keep K nx) (own_insKeep K (own_insKeep K2 (Bt_x tb Fv_x)))⟩
theorem Met.mono {l : Launch} {Z : State} {EL : List (String × Nat)} {y : MethodName} {B : ByteArray} {ml : Nat} {ret : Option FieldType} {ws : List Jvm.Cond} {rm : Room} {as' : Array Value} {h : Heap} {sf : List Addr} {Q Q' : Option Value → Heap → Prop} (M : Met l Z EL y B ml ret ws rm as' h sf Q) (hq : ∀ v h, Q v h → Q' v h) : Met l Z EL y B ml ret ws rm as' h sf Q' :=
 MetFree.imp M fun a s o t q => by
   obtain ⟨v, L, h1, h2, r⟩ := q
   exact ⟨v, L, h1, hq _ _ h2, r⟩
theorem rmADD (l : Launch) (Z : State) (a0 : Array Value) (hw : HW Z a0) (hEL : EW Z a0 consts_1) {dc : Addr} {kd : ClassId} {es el em mr le : Addr} {kl : ClassId} (ST : Stt Z dc kd es el em mr le kl) (b t : Addr) (vs : List Value) (hl : vs.length < 10) (x : Addr) (h0 : Heap) (hx : Ext Z.heap h0) (T : LL Z h0 dc b t vs) (I : Ins Z h0 x "java/lang/Object" true) (hxb : x ≠ b) (ge_b_Z : Z.heap.size ≤ b) :
   Met l Z consts_1 mN25 jdk_38_method_25_code 2 (some .boolean) [] (rM 4 1 10 64) #[.ref b, .ref x] h0 [] (fun v h => v = some (.int 1) ∧ ∃ t' t2, (t2 = b ∨ (t2 = t ∧ Z.heap.size ≤ t)) ∧ Keep h0 h [b, t2] ∧ (t' = t ∨ h0.size ≤ t') ∧ LL Z h dc b t' (vs ++ [.ref x])) := by
 obtain ⟨Sd, Dd, Xd, Ss, Xs, Fz, Sl, Xl, Fe0, Al0, Fn0, Se, Xe, Mr⟩ := id ST
 have hz := hx.1
 rcases T with ⟨rfl, rfl, mc, T⟩ | ⟨gt, -, k, mc, T⟩
 · refine (rmAD10 l Z a0 hw hEL t kd Sd Dd b mc x h0 hx T I hxb ge_b_Z).mono fun v h q => ?_
   obtain ⟨t', k', rfl, K, g', T'⟩ := q
   exact ⟨rfl, t', b, Or.inl rfl, (Keep.refl h0 [b, b]).trans K (allS (Or.inl (by simp)) all0), Or.inr g', Or.inr ⟨Nat.le_trans hz g', by simp, k', _, T'⟩⟩
 · refine (rmAD1n l Z a0 hw hEL b t k vs mc hl x h0 hx T I ge_b_Z gt).mono fun v h q => ?_
   obtain ⟨rfl, K, T'⟩ := q
   exact ⟨rfl, t, t, Or.inr ⟨rfl, gt⟩, K, Or.inl rfl, Or.inr ⟨gt, by rw [List.length_append]; simp; omega, k, _, T'⟩⟩
def DJ (g tg : Addr) (b : EN) : Prop := ∀ v nd L tl kl, b = some (v, nd, L, tl, kl) → L ≠ g ∧ tl ≠ tg
def PS (Z : State) (h0 h : Heap) (dc em g tg : Addr) (gs : List Value) (m0 x z : Addr) (cx cz : Int32) (bx bz : EN) : Prop :=
 Keep h0 h [x, z] ∧ LL Z h dc g tg gs ∧ MP Z h0.size h m0 x z cx cz bx bz ∧ Key Z h x cx ∧ Key Z h z cz ∧ h0.size ≤ g ∧ (tg = dc ∨ h0.size ≤ tg) ∧ h0.size ≤ m0 ∧ DJ g tg bx ∧ DJ g tg bz ∧ Obs Z h em gs
theorem MP.swap {Z : State} {h : Heap} {lb : Nat} {m0 n1 n2 : Addr} {c1 c2 : Int32} {b1 b2 : EN} (M : MP Z lb h m0 n1 n2 c1 c2 b1 b2) : MP Z lb h m0 n2 n1 c2 c1 b2 b1 := by
 rcases M with ⟨q1, q2, H⟩ | ⟨tt, kt, tv, sz, mc, H, q1, q2, q3, q4, q5⟩
 · exact Or.inl ⟨q2, q1, H⟩
 · exact Or.inr ⟨tt, kt, tv, sz, mc, H, q1, by rw [q2, Int32.add_comm], q3, q5, q4⟩
theorem own_keepW {h h' : Heap} {ws ws' : List Addr} (K : Keep h h' ws) (q : ∀ x ∈ ws, x ∈ ws') : Keep h h' ws' := (Keep.refl h ws').trans K fun x hx => Or.inl (q x hx)
theorem PS.swap {Z : State} {h0 h : Heap} {dc em g tg : Addr} {gs : List Value} {m0 x z : Addr} {cx cz : Int32} {bx bz : EN} (P : PS Z h0 h dc em g tg gs m0 x z cx cz bx bz) : PS Z h0 h dc em g tg gs m0 z x cz cx bz bx := by
 obtain ⟨a1, a2, a3, a4, a5, a6, a7, a8, a9, a10, a11⟩ := P
 exact ⟨own_keepW a1 (by simp), a2, a3.swap, a5, a4, a6, a7, a8, a10, a9, a11⟩
theorem MP.ext {Z : State} {h h' : Heap} {lb : Nat} {m0 n1 n2 : Addr} {c1 c2 : Int32} {b1 b2 : EN} (E : Ext h h') (M : MP Z lb h m0 n1 n2 c1 c2 b1 b2) : MP Z lb h' m0 n1 n2 c1 c2 b1 b2 :=
 M.keep (keepE E []) (by simp) (fun _ _ _ _ _ _ => by simp) (fun _ _ _ _ _ _ => by simp) (fun _ _ _ _ _ _ => by simp)
theorem PS.ext {Z : State} {h0 h h' : Heap} {dc em g tg : Addr} {gs : List Value} {m0 x z : Addr} {cx cz : Int32} {bx bz : EN} (E : Ext h h') (P : PS Z h0 h dc em g tg gs m0 x z cx cz bx bz) : PS Z h0 h' dc em g tg gs m0 x z cx cz bx bz := by
 obtain ⟨a1, a2, a3, a4, a5, a6, a7, a8, a9, a10, a11⟩ := P
 exact ⟨a1.ext E, a2.ext E, a3.ext E, a4.ext E, a5.ext E, a6, a7, a8, a9, a10, a11.ext E⟩
theorem own_llArv {Z : State} {h : Heap} {dc a t : Addr} {kd : ClassId} {vs : List Value} (hx : Ext Z.heap h) (Dd : Arv Z Z.heap dc kd (.object "java/lang/Object") 0 [] .null) (T : LL Z h dc a t vs) : ∃ k n us, Arv Z h t k (.object "java/lang/Object") n us .null := by
 rcases T with ⟨rfl, -, -⟩ | ⟨-, -, k, mc, T⟩
 · exact ⟨_, _, _, Dd.ext hx⟩
 · exact ⟨_, _, _, T.2.2.2.2.1⟩
/-- the lists stand where Strings alone are written -/
theorem own_llS {Z : State} {h h' : Heap} {a0 : Array Value} (hw : HW Z a0) {dc a t x z : Addr} {vs : List Value} (hdc : dc < Z.heap.size) (K : Keep h h' [x, z]) (X : Exa Z h x "java/lang/String") (X' : Exa Z h z "java/lang/String") (T : LL Z h dc a t vs) : LL Z h' dc a t vs := by
 refine T.keep K (ninS (Exa.ne T.exa X (by decide)) (ninS (Exa.ne T.exa X' (by decide)) nin0)) ?_ hdc
 rcases T with ⟨q, -⟩ | ⟨-, -, k, mc, T⟩
 · exact Or.inl q
 · exact Or.inr (ninS (Exa.neArv X T.2.2.2.2.1 (wq hw 1 rfl)).symm (ninS (Exa.neArv X' T.2.2.2.2.1 (wq hw 1 rfl)).symm nin0))
theorem own_strS {Z : State} {h h' : Heap} {a0 : Array Value} (hw : HW Z a0) {o x z : Addr} {cs : List Int32} (K : Keep h h' [x, z]) (X : Exa Z h x "java/lang/String") (X' : Exa Z h z "java/lang/String") (h1 : o ≠ x) (h2 : o ≠ z) (U : Str Z h o cs) : Str Z h' o cs := by
 obtain ⟨hp, t, kb, E, Fv, Fc, A⟩ := U
 have n1 : o ∉ [x, z] := ninS h1 (ninS h2 nin0)
 exact ⟨hp, t, kb, E.keep K, Fv.keep K n1, Fc.keep K n1, A.keep K (ninS (Exa.neArv X A (wq hw 1 rfl)).symm (ninS (Exa.neArv X' A (wq hw 1 rfl)).symm nin0))⟩
theorem own_strNe {Z : State} {h : Heap} {x y : Addr} {cs ds : List Int32} (U : Str Z h x cs) (W : Str Z h y ds) (h1 : cs.length ≤ 5000) (h2 : ds.length ≤ 5000) (hn : cs.length ≠ ds.length) : x ≠ y := fun e => by
 subst e
 obtain ⟨-, t, kb, -, Fv, -, c1, ⟨a1, -⟩, -, a3, -⟩ := U
 obtain ⟨-, t', kb', -, Fv', -, c2, ⟨b1, -⟩, -, b3, -⟩ := W
 obtain ⟨cell, cf, k, i, f, g1, g2, -, -, -, -, g7⟩ := Fv
 obtain ⟨cell', cf', k', i', f', q1, q2, -, -, -, -, q7⟩ := Fv'
 cases g1.symm.trans q1
 cases g2.symm.trans q2
 rw [q7] at g7
 cases g7
 cases a1.symm.trans b1
 rw [(own_n32 h1).2.1] at a3
 rw [(own_n32 h2).2.1] at b3
 exact hn (a3.symm.trans b3)
theorem PS.add {Z : State} {a0 : Array Value} (hw : HW Z a0) {h0 h h' : Heap} {dc em g tg : Addr} {kd : ClassId} {gs gs' : List Value} {m0 x z : Addr} {cx cz : Int32} {bx bz : EN} (hz : Ext Z.heap h) (hz0 : Z.heap.size ≤ h0.size) (Dd : Arv Z Z.heap dc kd (.object "java/lang/Object") 0 [] .null) (P : PS Z h0 h dc em g tg gs m0 x z cx cz bx bz) {t' t2 : Addr}
   (q2 : t2 = g ∨ (t2 = tg ∧ Z.heap.size ≤ tg)) (K : Keep h h' [g, t2]) (q3 : t' = tg ∨ h.size ≤ t') (T' : LL Z h' dc g t' gs') (O : Obs Z h' em gs') : PS Z h0 h' dc em g t' gs' m0 x z cx cz bx bz := by
 obtain ⟨a1, a2, a3, a4, a5, a6, a7, a8, a9, a10, a11⟩ := P
 have hdc : dc < Z.heap.size := Dd.lt
 obtain ⟨kA, nA, uA, AT⟩ := own_llArv hz Dd a2
 have X_g := a2.exa
 have X_x := a4.str.exa
 have X_z := a5.str.exa
 have g2 : h0.size ≤ t2 := by
   rcases q2 with rfl | ⟨rfl, q⟩
   · exact a6
   · exact a7.resolve_left fun z => absurd hdc (by rw [← z]; exact Nat.not_lt.mpr q)
 have off : ∀ y : Addr, y ≠ g → y ≠ tg → y ∉ [g, t2] := fun y n1 n2 => ninS n1 (ninS (by rcases q2 with rfl | ⟨rfl, -⟩ <;> assumption) nin0)
 have nArr : ∀ (y : Addr) (k : ClassId) (ty : FieldType) (n : Int32) (us : List Value) (dv : Value), Arv Z h y k ty n us dv → ty ≠ .object "java/lang/Object" → y ∉ [g, t2] := fun y k ty n us dv A hn => off y (Exa.neArv X_g A (wq hw 45 rfl)).symm (own_arvNe A AT hn)
 have offE : ∀ (tv : List Value) (n : Addr) (c : Int32) (b : EN), ENT Z h tv n c b → DJ g tg b → Off Z h [g, t2] b := fun tv n c b M d v nd L tl kl e => by
   obtain ⟨d1, d2⟩ := d _ _ _ _ _ e
   subst e
   obtain ⟨-, m2, m3⟩ := M
   exact ⟨off nd (Exa.ne m2.1 X_g (by decide)) (Exa.neArv m2.1 AT (wq hw 491 rfl)), off L d1 (Exa.neArv m3.1 AT (wq hw 45 rfl)), off tl (Exa.neArv X_g m3.2.2.2.2.1 (wq hw 45 rfl)).symm d2⟩
 have nm : m0 ∉ [g, t2] := off m0 (Exa.ne a3.exa X_g (by decide)) (Exa.neArv a3.exa AT (wq hw 126 rfl))
 have M' : MP Z h0.size h' m0 x z cx cz bx bz := by
   have ht : ∀ tt kt z tv dv, Arv Z h tt kt (.object "java/util/HashMap$Node") z tv dv → tt ∉ [g, t2] := fun tt kt z tv dv A => nArr tt kt _ z tv dv A (by decide)
   rcases id a3 with ⟨r1, r2, H⟩ | ⟨tt, kt, tv, sz, mc, H, r1, r2, r3, r4, r5⟩
   · exact a3.keep K nm ht (fun _ _ _ _ _ e => by rw [r1] at e; cases e) (fun _ _ _ _ _ e => by rw [r2] at e; cases e)
   · exact a3.keep K nm ht (offE _ _ _ _ r4 a9) (offE _ _ _ _ r5 a10)
 have keyK : ∀ (y : Addr) (c : Int32), Key Z h y c → Key Z h' y c := fun y c S => S.keep K (off y (Exa.ne S.str.exa X_g (by decide)) (Exa.neArv S.str.exa AT (wq hw 1 rfl))) (fun t F => by
   obtain ⟨-, t1, kb, -, Fv, -, A⟩ := S.str
   obtain ⟨cell, cf, k, i, f, g1, g2, -, -, -, -, g7⟩ := F
   obtain ⟨cell', cf', k', i', f', p1, p2, -, -, -, -, p7⟩ := Fv
   cases g1.symm.trans p1
   cases g2.symm.trans p2
   rw [p7] at g7
   cases g7
   exact nArr _ kb _ _ _ _ A (by decide))
 have dj : ∀ (tv : List Value) (n : Addr) (c : Int32) (b : EN), ENT Z h tv n c b → DJ g tg b → DJ g t' b := fun tv n c b M d v nd L tl kl e => by
   obtain ⟨d1, d2⟩ := d _ _ _ _ _ e
   subst e
   obtain ⟨-, -, m3⟩ := M
   refine ⟨d1, ?_⟩
   rcases q3 with rfl | q
   · exact d2
   · exact Nat.ne_of_lt (Nat.lt_of_lt_of_le m3.2.2.2.2.1.lt q)
 have djs : DJ g t' bx ∧ DJ g t' bz := by
   rcases id a3 with ⟨r1, r2, H⟩ | ⟨tt, kt, tv, sz, mc, H, r1, r2, r3, r4, r5⟩
   · exact ⟨(fun _ _ _ _ _ e => by rw [r1] at e; cases e), (fun _ _ _ _ _ e => by rw [r2] at e; cases e)⟩
   · exact ⟨dj _ _ _ _ r4 a9, dj _ _ _ _ r5 a10⟩
 have g3 : t' = dc ∨ h0.size ≤ t' := by
   rcases q3 with rfl | q
   · exact a7
   · exact Or.inr (Nat.le_trans a1.1 q)
 exact ⟨a1.trans K (allS (Or.inr a6) (allS (Or.inr g2) all0)), T', M', keyK x cx a4, keyK z cz a5, a6, g3, a8, djs.1, djs.2, O⟩
theorem own_len45 {cs : List Int32} (h : cs.length ≤ 1) : ¬ cs = [45, 45] := fun q => by rw [q] at h; simp at h
theorem own_len3 {c0 : Int32} : ¬ ([45, 45, c0] : List Int32) = [45, 45] := fun q => by have := congrArg List.length q; simp at this
theorem own_op (l : Launch) (Z : State) (a0 : Array Value) (hw : HW Z a0) (hEL : EW Z a0 consts_1) (z0 : Int32) (Sc : SC Z z0) (hz0 : ¬ z0 = 0) {p : Program} {e : Env} {s : State} {m : MethodId} {args : Array Value} {below : List Frame} {meth : Method} {c : Code} {S0 : State} {dc : Addr} {kd : ClassId} {es el em mr le : Addr} {kl : ClassId} (ST : Stt Z dc kd es el em mr le kl) {V : Vm} {cl sl : Nat} (hcl : cl + 10 ≤ 46) (hsl : sl + 70 ≤ 340) (h0 : Heap) (ag ta nm wn us0 g m0 x z : Addr) (cx cz : Int32) (vs : List Value) (HA : LL Z h0 dc ag ta vs) (X_x0 : Exa Z h0 x "java/lang/String") (X_z0 : Exa Z h0 z "java/lang/String") (tg : Addr) (gs : List Value) (hgl : gs.length < 10) (bx bz : EN) (hin : Heap) (P : PS Z h0 hin dc em g tg gs m0 x z cx cz bx bz) (hz0' : Z.heap.size ≤ h0.size) (i : Nat) (hi : i < vs.length) (o : Addr) (cs : List Int32) (hv : vs.getD i .null = .ref o) (hcs : cs.length ≤ 1) (U0 : Str Z h0 o cs) (hox : o ≠ x) (hoz : o ≠ z) (l9 l10 l11 : Slot) (hl9 : l9 = .unset ∨ ∃ w, l9 = .val w ∧ w.category = 1) (hl10 : l10 = .unset ∨ ∃ w, l10 = .val w ∧ w.category = 1) (hl11 : l11 = .unset ∨ ∃ w, l11 = .val w ∧ w.category = 1) (Q : Option Value → Heap → Prop)
   (w : Wk p l e (rM 11 46 340 3200) s m args below meth c Z a0 consts_1 S0 mN60 prog_16_method_3_code 12 (some (.object "com/example/keyturn/keyturn/Options")) V hin cl sl (mkF m 21 #[.val (.ref ag), .val (.ref nm), .val (.ref es), .val (.ref es), .val (.ref wn), .val (.ref us0), .val (.ref m0), .val (.ref g), .val (.int (Int32.ofNat i)), l9, l10, l11] []))
   (kont : ∀ (V' : Vm) (h' : Heap) (tg' : Addr), PS Z h0 h' dc em g tg' (gs ++ [.ref o]) m0 x z cx cz bx bz → Wk p l e (rM 11 46 340 3200) s m args below meth c Z a0 consts_1 S0 mN60 prog_16_method_3_code 12 (some (.object "com/example/keyturn/keyturn/Options")) V' h' (cl + 5) (sl + 34) (mkF m 21 #[.val (.ref ag), .val (.ref nm), .val (.ref es), .val (.ref es), .val (.ref wn), .val (.ref us0), .val (.ref m0), .val (.ref g), .val (.int (Int32.ofNat (i + 1))), .val (.ref o), l10, l11] []) → Fini p e below s Z consts_1 S0 46 340 Q) :
   Fini p e below s Z consts_1 S0 46 340 Q := by
 obtain ⟨Sd, Dd, Xd, Ss, Xs, Fz, Sl, Xl, Fe0, Al0, Fn0, Se, Xe, Mr⟩ := id ST
 have hdc : dc < Z.heap.size := Dd.lt
 have hstr := own_hstr hw
 have hwe := own_wordsEq hw
 have hx0 := w.old
 have hl10' := HA.len
 have ei : Int32.ofNat i + (1 : Int32) = Int32.ofNat (i + 1) := own_add32 (a := i) (b := 1) (by omega)
 have hA1 := own_llS hw hdc P.1 X_x0 X_z0 HA
 obtain ⟨-, -, ka, ma, TA⟩ := hA1.resolve_left (fun q => by rw [q.2.1] at hi; simp at hi)
 have U1 := own_strS hw P.1 X_x0 X_z0 hox hoz U0
 have X_ag := TA.1
 have X_o := U1.exa
 have Fs := TA.2.2.1
 replace w := (w.iload (d23 0 rfl) rfl).aloadN (pc' := 24) (d23 1 rfl) rfl
 obtain ⟨v1, V1, h1, hq1, A1, w⟩ := w.face (xi := mN87) (y' := mN15) (W := 1) (C := "java/util/ArrayList") (b := ag) (w.pays 1 (rmALs l Z a0 hw hEL ag _ hin w.old Fs) (wq hw 151 rfl) (wq hw 46 rfl) all0 nle nle) (wq hw 143 rfl) (wq hw 144 rfl) (wq hw 145 rfl) (wq hw 146 rfl) (wq hw 147 rfl) (wq hw 148 rfl) (wq hw 149 rfl) (wq hw 150 rfl) (argsL := []) (rest := [(.int (Int32.ofNat i))]) (by decide) (X_ag) pd_4 rfl rfl nlr rfl (d23 2 rfl) omr omr (pc' := 29)
 obtain ⟨rfl, he1⟩ := hq1
 replace w := w.toS [(.int (Int32.ofNat vs.length)), (.int (Int32.ofNat i))]
 replace he1 := he1.symm
 subst he1
 replace w := ((w.icmpNo (pc' := 32) (d23 3 rfl) ((tlt ((own_lt32 (by omega) (by omega)).mpr hi)).2.1)).aloadN (d23 4 rfl) rfl).iload (pc' := 35) (d23 5 rfl) rfl
 obtain ⟨v2, V2, h2, hq2, A2, w⟩ := w.face (xi := mN88) (y' := mN20) (W := 0) (C := "java/util/ArrayList") (b := ag) (w.pays 0 (rmALg l Z a0 hw hEL ag ta ka vs ma (by omega) i hi o hv hin w.old TA) (wq hw 367 rfl) (wq hw 46 rfl) all0 nle nle) (wq hw 360 rfl) (wq hw 361 rfl) (wq hw 362 rfl) (wq hw 363 rfl) (wq hw 364 rfl) (wq hw 365 rfl) (wq hw 366 rfl) (wq hw 150 rfl) (argsL := [(.int (Int32.ofNat i))]) (rest := []) (by decide) (X_ag) pd_10 rfl rfl nlr rfl (d23 6 rfl) omr omr (pc' := 40)
 obtain ⟨rfl, he2⟩ := hq2
 replace w := w.toS [(.ref o)]
 replace he2 := he2.symm
 subst he2
 replace w := w.cast (wq hw 380 rfl) (Ins.self X_o) (d23 7 rfl) (pc' := 43)
 obtain ⟨y1, V3, h3, E3, T_y1, N_y1, A3, w⟩ := w.ldcT [(45 : Int32), (45 : Int32)] 8 (text := "--") (wq hw 381 rfl) hstr (by decide) (by decide) (by decide) (by decide) (by decide) (by decide) (d23 8 rfl) (by decide) (by decide) omr omr (pc' := 45)
 have U2 := U1.ext E3
 have TA2 := TA.ext E3
 have P2 := P.ext E3
 have X_o := U2.exa
 have X_ag := TA2.1
 obtain ⟨v4, V4, h4, hq4, A4, w⟩ := w.virt (y' := mN11) (W := 0) (C := "java/lang/String") (b := o) (w.payEq (W := 0) hwe (wq hw 1 rfl) U2 T_y1 Sc hz0 (by omega) (by decide) nle nle) (wq hw 382 rfl) (wq hw 383 rfl) (wq hw 384 rfl) (wq hw 101 rfl) (argsL := [(.ref y1)]) (rest := []) (by decide) X_o pd_15 rfl rfl nlr rfl (d23 9 rfl) omr omr (pc' := 48)
 obtain ⟨hv4, he4⟩ := hq4
 replace he4 := he4.symm
 subst he4
 rcases hv4 with ⟨-, hc⟩ | ⟨rfl, -⟩
 · exact absurd hc (own_len45 hcs)
 replace w := (((w.toS [(.int (0 : Int32))]).ifNo (d23 10 rfl) (by decide)).aloadN (d23 11 rfl) rfl).iload (pc' := 54) (d23 12 rfl) rfl
 obtain ⟨v5, V5, h5, hq5, A5, w⟩ := w.face (xi := mN88) (y' := mN20) (W := 0) (C := "java/util/ArrayList") (b := ag) (w.pays 0 (rmALg l Z a0 hw hEL ag ta ka vs ma (by omega) i hi o hv h3 w.old TA2) (wq hw 367 rfl) (wq hw 46 rfl) all0 nle nle) (wq hw 360 rfl) (wq hw 361 rfl) (wq hw 362 rfl) (wq hw 363 rfl) (wq hw 364 rfl) (wq hw 365 rfl) (wq hw 366 rfl) (wq hw 150 rfl) (argsL := [(.int (Int32.ofNat i))]) (rest := []) (by decide) (X_ag) pd_10 rfl rfl nlr rfl (d23 13 rfl) omr omr (pc' := 59)
 obtain ⟨rfl, he5⟩ := hq5
 replace w := w.toS [(.ref o)]
 replace he5 := he5.symm
 subst he5
 replace w := ((w.cast (wq hw 380 rfl) (Ins.self X_o) (d23 14 rfl)).astore (L' := #[.val (.ref ag), .val (.ref nm), .val (.ref es), .val (.ref es), .val (.ref wn), .val (.ref us0), .val (.ref m0), .val (.ref g), .val (.int (Int32.ofNat i)), .val (.ref o), l10, l11]) (d23 15 rfl) (XS.store1 rfl (hl9) rfl)).aload (pc' := 66) (d23 16 rfl) rfl
 obtain ⟨y2, V6, h6, E6, T_y2, N_y2, A6, w⟩ := w.ldcT [(45 : Int32), (45 : Int32)] 8 (text := "--") (wq hw 381 rfl) hstr (by decide) (by decide) (by decide) (by decide) (by decide) (by decide) (d23 17 rfl) (by decide) (by decide) omr omr (pc' := 68)
 have U3 := U2.ext E6
 have P3 := P2.ext E6
 have X_o := U3.exa
 have X_g := P3.2.1.exa
 obtain ⟨v7, V7, h7, hq7, A7, w⟩ := w.virt (y' := mN85) (W := 0) (C := "java/lang/String") (b := o) (w.pays 0 (rmSW1 l Z a0 hw hEL z0 Sc hz0 o y2 cs false (Or.inl ⟨rfl, hcs⟩) h6 w.old U3 T_y2) (wq hw 389 rfl) (wq hw 2 rfl) all0 nle nle) (wq hw 385 rfl) (wq hw 386 rfl) (wq hw 388 rfl) (wq hw 387 rfl) (argsL := [(.ref y2)]) (rest := []) (by decide) X_o pd_43 rfl rfl nlr rfl (d23 18 rfl) omr omr (pc' := 71)
 obtain ⟨rfl, he7⟩ := hq7
 replace w := w.toS [(.int (0 : Int32))]
 replace he7 := he7.symm
 subst he7
 replace w := ((w.ifNo (d23 19 rfl) (by decide)).aload (d23 20 rfl) rfl).aload (pc' := 78) (d23 21 rfl) rfl
 have Io : Ins Z h6 o "java/lang/Object" true := Ins.of_exa X_o (wq hw 359 rfl)
 have nog : o ≠ g := Exa.ne X_o X_g (by decide)
 have oem : o ≠ em := Exa.ne X_o (Xe.ext w.old) (by decide)
 obtain ⟨v8, V8, h8, hq8, A8, w⟩ := w.face (xi := mN89) (y' := mN25) (W := 0) (C := "java/util/ArrayList") (b := g) (w.pays 0 (rmADD l Z a0 hw hEL ST g tg gs hgl o h6 w.old P3.2.1 Io nog (Nat.le_trans hz0' P3.2.2.2.2.2.1)) (wq hw 339 rfl) (wq hw 46 rfl) all0 nle nle) (wq hw 512 rfl) (wq hw 333 rfl) (wq hw 334 rfl) (wq hw 335 rfl) (wq hw 336 rfl) (wq hw 337 rfl) (wq hw 338 rfl) (wq hw 150 rfl) (argsL := [(.ref o)]) (rest := []) (by decide) (X_g) pd_15 rfl rfl nlr rfl (d23 22 rfl) omr omr (pc' := 83)
 obtain ⟨rfl, tg', t2, q2, K8, q3, T'⟩ := hq8
 replace w := w.toS [(.int (1 : Int32))]
 have hO : Obs Z h8 em (gs ++ [.ref o]) := fun u hu => by
   rcases List.mem_append.mp hu with q | q
   · exact P3.2.2.2.2.2.2.2.2.2.2.keep K8 u q
   · cases List.mem_singleton.mp q
     exact ⟨o, rfl, own_insKeep K8 Io, oem⟩
 have P4 := P3.add hw (extT (extT hx0 E3) E6) hz0' Dd q2 K8 q3 T' hO
 replace w := ((w.pop (d23 23 rfl)).iinc (L' := #[.val (.ref ag), .val (.ref nm), .val (.ref es), .val (.ref es), .val (.ref wn), .val (.ref us0), .val (.ref m0), .val (.ref g), .val (.int ((Int32.ofNat i) + (1 : Int32))), .val (.ref o), l10, l11]) (d23 24 rfl) rfl rfl).goto (pc' := 21) (d23 25 rfl)
 rw [ei] at w
 exact kont _ _ tg' P4 (w.more omr omr)
theorem own_metSafe {l : Launch} {Z : State} {EL : List (String × Nat)} {y : MethodName} {B : ByteArray} {ml : Nat} {ret : Option FieldType} {ws : List Jvm.Cond} {rm : Room} {as' : Array Value} {h : Heap} {sf : List Addr} {Q : Option Value → Heap → Prop} (M : Met l Z EL y B ml ret ws rm as' h [] Q) : Met l Z EL y B ml ret ws rm as' h sf Q :=
 MetFree.mono M (fun a s q => ⟨q.1, q.2.1, q.2.2.1, q.2.2.2.1, all0⟩) (fun _ _ _ _ _ q => q) (fun _ _ _ _ _ q => q)
theorem rmHCKg (l : Launch) (Z : State) (a0 : Array Value) (hw : HW Z a0) (hEL : EW Z a0 consts_1) (z0 : Int32) (Sc : SC Z z0) (hz0 : ¬ z0 = 0) (m0 x z : Addr) (cx cz : Int32) (bx bz : EN) (lb : Nat) (h0 : Heap) (hx : Ext Z.heap h0) (P : MP Z lb h0 m0 x z cx cz bx bz) (S : Key Z h0 x cx) :
   Met l Z consts_1 mN57 jdk_69_method_14_code 2 (some .boolean) [] (rM 6 0 0 100) #[.ref m0, .ref x] h0 [x] (fun v h => v = some (.int (own_fl bx.isSome)) ∧ Keep h0 h [x] ∧ MP Z lb h m0 x z cx cz bx bz ∧ Key Z h x cx) := by
 have X_x := S.str.exa
 rcases id P with ⟨rfl, rfl, H⟩ | ⟨tt, kt, tv, sz, mc, H, q1, q2, q3, q4, q5⟩
 · refine (own_metSafe (rmHCK0 l Z a0 hw hEL m0 x h0 hx H)).mono fun v h q => ?_
   obtain ⟨rfl, rfl⟩ := q
   exact ⟨rfl, Keep.refl _ _, P, S⟩
 · obtain ⟨q, hq, S0, ge⟩ := S
   match bx, q4 with
   | none, q4 =>
     refine (rmHCKm l Z a0 hw hEL z0 Sc hz0 m0 tt kt tv sz mc x cx q hq h0 hx S0 S0.2.2.2 ge H q4).mono fun v h r => ?_
     obtain ⟨rfl, K, S1⟩ := r
     exact ⟨rfl, K, P.keepS hw K X_x, _, Or.inr rfl, S1, ge⟩
   | some (v0, nd, L, tl, kl), ⟨r1, r2, r3⟩ =>
     refine (rmHCKh l Z a0 hw hEL z0 Sc hz0 m0 tt nd L kt tv sz mc x cx q hq h0 hx S0 S0.2.2.2 ge H r1 r2).mono fun v h r => ?_
     obtain ⟨rfl, K, S1⟩ := r
     exact ⟨rfl, K, P.keepS hw K X_x, _, Or.inr rfl, S1, ge⟩
/-- the list of an entry, or the default -/
def own_lst (b : EN) (dv : Addr) : Addr := match b with | none => dv | some (_, _, L, _, _) => L
theorem rmGODg (l : Launch) (Z : State) (a0 : Array Value) (hw : HW Z a0) (hEL : EW Z a0 consts_1) (z0 : Int32) (Sc : SC Z z0) (hz0 : ¬ z0 = 0) (dv : Addr) (m0 x z : Addr) (cx cz : Int32) (bx bz : EN) (lb : Nat) (h0 : Heap) (hx : Ext Z.heap h0) (P : MP Z lb h0 m0 x z cx cz bx bz) (S : Key Z h0 x cx) :
   Met l Z consts_1 mN58 jdk_69_method_30_code 4 (some (.object "java/lang/Object")) [] (rM 6 0 0 100) #[.ref m0, .ref x, .ref dv] h0 [x] (fun v h => v = some (.ref (own_lst bx dv)) ∧ Keep h0 h [x] ∧ MP Z lb h m0 x z cx cz bx bz ∧ Key Z h x cx) := by
 have X_x := S.str.exa
 rcases id P with ⟨rfl, rfl, H⟩ | ⟨tt, kt, tv, sz, mc, H, q1, q2, q3, q4, q5⟩
 · refine (own_metSafe (rmGOD0 l Z a0 hw hEL m0 x dv h0 hx H)).mono fun v h q => ?_
   obtain ⟨rfl, rfl⟩ := q
   exact ⟨rfl, Keep.refl _ _, P, S⟩
 · obtain ⟨q, hq, S0, ge⟩ := S
   match bx, q4 with
   | none, q4 =>
     refine (rmGODm l Z a0 hw hEL z0 Sc hz0 m0 tt dv kt tv sz mc x cx q hq h0 hx S0 S0.2.2.2 ge H q4).mono fun v h r => ?_
     obtain ⟨rfl, K, S1⟩ := r
     exact ⟨rfl, K, P.keepS hw K X_x, _, Or.inr rfl, S1, ge⟩
   | some (v0, nd, L, tl, kl), ⟨r1, r2, r3⟩ =>
     refine (rmGODh l Z a0 hw hEL z0 Sc hz0 m0 tt nd L dv kt tv sz mc x cx q hq h0 hx S0 S0.2.2.2 ge H r1 r2).mono fun v h r => ?_
     obtain ⟨rfl, K, S1⟩ := r
     exact ⟨rfl, K, P.keepS hw K X_x, _, Or.inr rfl, S1, ge⟩
/-- the map with a fresh list L for x -/
def MPn (Z : State) (lb : Nat) (h : Heap) (m0 x z : Addr) (cx cz : Int32) (nd L : Addr) (bz : EN) : Prop :=
 ∃ tt kt tv sz mc, HMt Z h m0 tt kt tv sz mc ∧ tv.length = 16 ∧ sz = 1 + own_cnt bz ∧ lb ≤ tt ∧ tv.getD (own_bin cx) .null = .ref nd ∧ Nod Z h nd (own_hs cx) x L ∧ ENT Z h tv z cz bz
theorem own_setD {tv : List Value} {i j : Nat} (v d : Value) (h : i ≠ j) : (tv.set i v).getD j d = tv.getD j d := by
 rw [List.getD_eq_getElem?_getD, List.getElem?_set_ne h, List.getD_eq_getElem?_getD]
theorem own_setE {tv : List Value} {i : Nat} (v d : Value) (h : i < tv.length) : (tv.set i v).getD i d = v := by
 rw [List.getD_eq_getElem?_getD, List.getElem?_set_self h]; rfl
theorem own_binlt {c0 : Int32} (r0 : ¬ c0 < 0 ∧ ¬ (255 : Int32) < c0) : own_bin c0 < 16 := by
 have hb := own_15 r0
 have h2 := hb.2
 have h1' := hb.1
 have e16 : (16 : Int32).toInt = 16 := by decide
 have e0 : (0 : Int32).toInt = 0 := by decide
 rw [Int32.lt_iff_toInt_lt] at h2 h1'
 unfold own_bin
 rw [Int32.toNatClampNeg]
 omega
theorem own_entSet {Z : State} {h : Heap} {tv : List Value} {n : Addr} {c : Int32} {b : EN} {i : Nat} {v : Value} (hi : i ≠ own_bin c) (M : ENT Z h tv n c b) : ENT Z h (tv.set i v) n c b := by
 match b, M with
 | none, M => exact (own_setD _ _ hi).trans M
 | some (v0, nd, L, tl, kl), ⟨r1, r2, r3⟩ => exact ⟨(own_setD _ _ hi).trans r1, r2, r3⟩
theorem rmCIAm (l : Launch) (Z : State) (a0 : Array Value) (hw : HW Z a0) (hEL : EW Z a0 consts_1) (z0 : Int32) (Sc : SC Z z0) (hz0 : ¬ z0 = 0) {dc : Addr} {kd : ClassId} {es el em mr le : Addr} {kl : ClassId} (ST : Stt Z dc kd es el em mr le kl) {f : Addr} {cK cS : ClassId} {methk : Method} {ck : Code} (LF : Lam Z f cK cS methk ck) (m0 x z : Addr) (cx cz : Int32) (bz : EN) (lb : Nat) (hbin : own_bin cx ≠ own_bin cz) (h0 : Heap) (hx : Ext Z.heap h0) (hlb : Z.heap.size ≤ lb) (hlb0 : lb ≤ h0.size) (P : MP Z lb h0 m0 x z cx cz none bz) (S : Key Z h0 x cx) (ge_m0_Z : Z.heap.size ≤ m0) :
   Met l Z consts_1 mN86 jdk_69_method_35_code 13 (some (.object "java/lang/Object")) [] (rM 7 3 23 140) #[.ref m0, .ref x, .ref f] h0 [x] (fun v h => ∃ L nd tw, v = some (.ref L) ∧ h0.size ≤ L ∧ AL0 Z h L dc 0 ∧ Keep h0 h [m0, tw, x] ∧ (tw = m0 ∨ (lb ≤ tw ∧ ∃ kt n us dv, Arv Z h0 tw kt (.object "java/util/HashMap$Node") n us dv)) ∧ MPn Z lb h m0 x z cx cz nd L bz ∧ Key Z h x cx) := by
 have X_x := S.str.exa
 have r0 := S.str.1 cx (by simp)
 have hbl := own_binlt r0
 rcases id P with ⟨-, rfl, H⟩ | ⟨tt, kt, tv, sz, mc, H, q1, q2, q3, q4, q5⟩
 · obtain ⟨q, hq, S0, ge⟩ := S
   refine (rmCIA0 l Z a0 hw hEL z0 Sc hz0 ST LF m0 x cx q hq h0 hx S0 S0.2.2.2 ge H ge_m0_Z).mono fun v h r => ?_
   obtain ⟨L, nd, t, k, rfl, K, gL, gn, gt, H', N, TL, S1⟩ := r
   have e0 : (List.replicate 16 Value.null).getD (own_bin cz) .null = .null := by rw [List.getD_eq_getElem?_getD, List.getElem?_replicate]; split <;> rfl
   exact ⟨L, nd, m0, rfl, gL, TL, own_keepW K (by simp), Or.inl rfl, ⟨t, k, _, 1, 1, H', by simp, rfl, Nat.le_trans hlb0 gt, own_setE _ _ (by simpa using hbl), N, own_entSet (b := none) hbin e0⟩, _, Or.inr rfl, S1, ge⟩
 · have hs2 : ¬ (2 : Int32) < sz := by
     rw [q2]
     cases bz with
     | none => exact (by decide : ¬ (2 : Int32) < own_fl false + own_fl false)
     | some q => exact (by decide : ¬ (2 : Int32) < own_fl false + own_fl true)
   have A := H.2.2.2.2.2.1
   have X_m := H.1
   have hsz : sz + 1 = 1 + own_cnt bz := by
     rw [q2]
     cases bz with
     | none => exact (by decide : own_fl false + own_fl false + 1 = 1 + own_fl false)
     | some q => exact (by decide : own_fl false + own_fl true + 1 = 1 + own_fl true)
   have hgm : own_bin cx < tv.length := by rw [q1]; exact hbl
   obtain ⟨q, hq, S0, ge⟩ := S
   refine (rmCIAt l Z a0 hw hEL z0 Sc hz0 ST LF m0 tt kt tv q1 sz mc hs2 x cx q hq h0 hx S0 S0.2.2.2 ge H q4 ge_m0_Z (Nat.le_trans hlb q3)).mono fun v h r => ?_
   obtain ⟨L, nd, rfl, K, gL, gn, H', N, TL, S1⟩ := r
   have oz : Off Z h0 [m0, tt, x] bz := fun v0 nd' L' tl kl e => by
     subst e
     obtain ⟨-, m2, m3⟩ := q5
     exact ⟨ninS (Exa.ne m2.1 X_m (by decide)) (ninS (Exa.neArv m2.1 A (wq hw 491 rfl)) (ninS (Exa.ne m2.1 X_x (by decide)) nin0)),
       ninS (Exa.ne m3.1 X_m (by decide)) (ninS (Exa.neArv m3.1 A (wq hw 45 rfl)) (ninS (Exa.ne m3.1 X_x (by decide)) nin0)),
       ninS (Exa.neArv X_m m3.2.2.2.2.1 (wq hw 126 rfl)).symm (ninS (own_arvNe m3.2.2.2.2.1 A (by decide)) (ninS (Exa.neArv X_x m3.2.2.2.2.1 (wq hw 1 rfl)).symm nin0))⟩
   exact ⟨L, nd, tt, rfl, gL, TL, K, Or.inr ⟨q3, _, _, _, _, A⟩, ⟨tt, kt, _, _, _, H', by rw [List.length_set]; exact q1, hsz, q3, own_setE _ _ hgm, N, own_entSet hbin (q5.keep K oz)⟩, _, Or.inr rfl, S1, ge⟩
/-- the value laid into the fresh list -/
theorem MPn.done {Z : State} {h h' : Heap} {a0 : Array Value} (hw : HW Z a0) {lb : Nat} {m0 x z : Addr} {cx cz : Int32} {nd L : Addr} {bz : EN} {v0 tl : Addr} {kl : ClassId} (M : MPn Z lb h m0 x z cx cz nd L bz) (X_L : Exa Z h L "java/util/ArrayList") (K : Keep h h' [L]) (hL : ∀ v nd' L' tl' kl', bz = some (v, nd', L', tl', kl') → L' ≠ L) (T : ALn Z h' L tl kl [.ref v0] 1) : MP Z lb h' m0 x z cx cz (some (v0, nd, L, tl, kl)) bz := by
 obtain ⟨tt, kt, tv, sz, mc, H, q1, q2, q3, q4, q5, q6⟩ := M
 have nm : m0 ∉ [L] := ninS (Exa.ne H.1 X_L (by decide)) nin0
 have nt : tt ∉ [L] := ninS (Exa.neArv X_L H.2.2.2.2.2.1 (wq hw 45 rfl)).symm nin0
 have oz : Off Z h [L] bz := fun v nd' L' tl' kl' e => by
   have hne := hL _ _ _ _ _ e
   subst e
   obtain ⟨-, m2, m3⟩ := q6
   exact ⟨ninS (Exa.ne m2.1 X_L (by decide)) nin0, ninS hne nin0, ninS (Exa.neArv X_L m3.2.2.2.2.1 (wq hw 45 rfl)).symm nin0⟩
 have nn : nd ∉ [L] := ninS (Exa.ne q5.1 X_L (by decide)) nin0
 exact Or.inr ⟨tt, kt, tv, sz, mc, ⟨H.1.keep K, H.2.1.keep K nm, H.2.2.1.keep K nm, H.2.2.2.1.keep K nm, H.2.2.2.2.1.keep K nm, H.2.2.2.2.2.1.keep K nt, H.2.2.2.2.2.2⟩, q1, q2, q3, ⟨q4, ⟨q5.1.keep K, q5.2.1.keep K nn, q5.2.2.1.keep K nn, q5.2.2.2.keep K nn⟩, T⟩, q6.keep K oz⟩
theorem SE2.keep {Z : State} {h h' : Heap} {b x1 x2 : Addr} {ws : List Addr} (K : Keep h h' ws) (hb : b ∉ ws) (S : SE2 Z h b x1 x2) : SE2 Z h' b x1 x2 := ⟨S.1.keep K, S.2.1.keep K hb, S.2.2.keep K hb⟩
theorem d_ind : decode prog_16_method_3_code 244 = .ok (.invokedynamic 84, 5) := by decide +kernel
theorem own_strK {Z : State} {h h' : Heap} {o : Addr} {cs : List Int32} {ws : List Addr} (K : Keep h h' ws) (ho : o ∉ ws) (hb : ∀ (t : Addr) (k : ClassId) (n : Int32) (us : List Value) (dv : Value), Arv Z h t k .byte n us dv → t ∉ ws) (U : Str Z h o cs) : Str Z h' o cs := by
 obtain ⟨hp, t, kb, E, Fv, Fc, A⟩ := U
 exact ⟨hp, t, kb, E.keep K, Fv.keep K ho, Fc.keep K ho, A.keep K (hb _ _ _ _ _ A)⟩
theorem own_keyArv {Z : State} {h : Heap} {o t : Addr} {cs : List Int32} (U : Str Z h o cs) (F : Fld Z h o "java/lang/String" "value" "[B" (.ref t)) : ∃ k n us dv, Arv Z h t k .byte n us dv := by
 obtain ⟨-, t1, kb, -, Fv, -, A⟩ := U
 obtain ⟨cell, cf, k, i, f, g1, g2, -, -, -, -, g7⟩ := F
 obtain ⟨cell', cf', k', i', f', p1, p2, -, -, -, -, p7⟩ := Fv
 cases g1.symm.trans p1
 cases g2.symm.trans p2
 rw [p7] at g7
 cases g7
 exact ⟨_, _, _, _, A⟩
theorem Ext_trans4 {a b c d e : Heap} (h1 : Ext a b) (h2 : Ext b c) (h3 : Ext c d) (h4 : Ext d e) : Ext a e := extT (extT (extT h1 h2) h3) h4
theorem own_opt (l : Launch) (Z : State) (a0 : Array Value) (hw : HW Z a0) (hEL : EW Z a0 consts_1) (z0 : Int32) (Sc : SC Z z0) (hz0 : ¬ z0 = 0) {p : Program} {e : Env} {s : State} {m : MethodId} {args : Array Value} {below : List Frame} {meth : Method} {c : Code} {S0 : State} {dc : Addr} {kd : ClassId} {es el em mr le : Addr} {kl : ClassId} (ST : Stt Z dc kd es el em mr le kl) {f : Addr} {cK cS : ClassId} {methk : Method} {ck : Code} (LF : Lam Z f cK cS methk ck) {V : Vm} {cl sl : Nat} (hcl : cl + 10 ≤ 46) (hsl : sl + 70 ≤ 340) (h0 : Heap) (ag ta nm wn us0 g m0 x z : Addr) (cx cz : Int32) (vs : List Value) (HA : LL Z h0 dc ag ta vs) (X_x0 : Exa Z h0 x "java/lang/String") (X_z0 : Exa Z h0 z "java/lang/String") (hxz : x ≠ z) (hbin : own_bin cx ≠ own_bin cz) (y1 y2 : Addr) (e1 e2 : Int32) (hy : (y1 = x ∧ e1 = cx ∧ y2 = z ∧ e2 = cz) ∨ (y1 = z ∧ e1 = cz ∧ y2 = x ∧ e2 = cx)) (HN : SE2 Z h0 nm y1 y2) (hnm : Z.methodNamed? mN60 = some m) (tg : Addr) (gs : List Value) (bz : EN) (hin : Heap) (P : PS Z h0 hin dc em g tg gs m0 x z cx cz none bz) (hz0' : Z.heap.size ≤ h0.size) (i : Nat) (hi : i + 1 < vs.length) (v0 : Addr) (cs : List Int32) (hv : vs.getD i .null = .ref x) (hv2 : vs.getD (i + 1) .null = .ref v0) (hcs : cs.length ≤ 1) (U0 : Str Z h0 v0 cs) (hox : v0 ≠ x) (hoz : v0 ≠ z) (l9 l10 l11 : Slot) (hl9 : l9 = .unset ∨ ∃ w, l9 = .val w ∧ w.category = 1) (hl10 : l10 = .unset ∨ ∃ w, l10 = .val w ∧ w.category = 1) (hl11 : l11 = .unset ∨ ∃ w, l11 = .val w ∧ w.category = 1) (Q : Option Value → Heap → Prop)
   (w : Wk p l e (rM 11 46 340 3200) s m args below meth c Z a0 consts_1 S0 mN60 prog_16_method_3_code 12 (some (.object "com/example/keyturn/keyturn/Options")) V hin cl sl (mkF m 21 #[.val (.ref ag), .val (.ref nm), .val (.ref es), .val (.ref es), .val (.ref wn), .val (.ref us0), .val (.ref m0), .val (.ref g), .val (.int (Int32.ofNat i)), l9, l10, l11] []))
   (kont : ∀ (V' : Vm) (h' : Heap) (nd L tl : Addr) (kl : ClassId), PS Z h0 h' dc em g tg gs m0 x z cx cz (some (v0, nd, L, tl, kl)) bz → Wk p l e (rM 11 46 340 3200) s m args below meth c Z a0 consts_1 S0 mN60 prog_16_method_3_code 12 (some (.object "com/example/keyturn/keyturn/Options")) V' h' (cl + 10) (sl + 69) (mkF m 21 #[.val (.ref ag), .val (.ref nm), .val (.ref es), .val (.ref es), .val (.ref wn), .val (.ref us0), .val (.ref m0), .val (.ref g), .val (.int (Int32.ofNat (i + 2))), .val (.ref x), .val (.int 0), .val (.ref L)] []) → Fini p e below s Z consts_1 S0 46 340 Q) :
   Fini p e below s Z consts_1 S0 46 340 Q := by
 obtain ⟨Sd, Dd, Xd, Ss, Xs, Fz, Sl, Xl, Fe0, Al0, Fn0, Se, Xe, Mr⟩ := id ST
 have hdc : dc < Z.heap.size := Dd.lt
 have hx0 := w.old
 have hstr := own_hstr hw
 have hwe := own_wordsEq hw
 have hl10' := HA.len
 have ei : Int32.ofNat i + (1 : Int32) = Int32.ofNat (i + 1) := own_add32 (a := i) (b := 1) (by omega)
 have ei2 : Int32.ofNat i + (2 : Int32) = Int32.ofNat (i + 2) := own_add32 (a := i) (b := 2) (by omega)
 have hA1 := own_llS hw hdc P.1 X_x0 X_z0 HA
 obtain ⟨-, -, ka, ma, TA⟩ := hA1.resolve_left (fun q => by rw [q.2.1] at hi; simp at hi)
 have nxn : nm ∉ [x, z] := ninS (Exa.ne HN.1 X_x0 (by decide)) (ninS (Exa.ne HN.1 X_z0 (by decide)) nin0)
 have HN1 := HN.keep P.1 nxn
 have U1 := own_strS hw P.1 X_x0 X_z0 hox hoz U0
 have X_ag := TA.1
 have X_x := P.2.2.2.1.str.exa
 have Fs := TA.2.2.1
 replace w := (w.iload (d23 0 rfl) rfl).aloadN (pc' := 24) (d23 1 rfl) rfl
 obtain ⟨v1, V1, h1, hq1, A1, w⟩ := w.face (xi := mN87) (y' := mN15) (W := 1) (C := "java/util/ArrayList") (b := ag) (w.pays 1 (rmALs l Z a0 hw hEL ag _ hin w.old Fs) (wq hw 151 rfl) (wq hw 46 rfl) all0 nle nle) (wq hw 143 rfl) (wq hw 144 rfl) (wq hw 145 rfl) (wq hw 146 rfl) (wq hw 147 rfl) (wq hw 148 rfl) (wq hw 149 rfl) (wq hw 150 rfl) (argsL := []) (rest := [(.int (Int32.ofNat i))]) (by decide) (X_ag) pd_4 rfl rfl nlr rfl (d23 2 rfl) omr omr (pc' := 29)
 obtain ⟨rfl, he1⟩ := hq1
 replace w := w.toS [(.int (Int32.ofNat vs.length)), (.int (Int32.ofNat i))]
 replace he1 := he1.symm
 subst he1
 replace w := ((w.icmpNo (pc' := 32) (d23 3 rfl) ((tlt ((own_lt32 (by omega) (by omega)).mpr (by omega))).2.1)).aloadN (d23 4 rfl) rfl).iload (pc' := 35) (d23 5 rfl) rfl
 obtain ⟨v2, V2, h2, hq2, A2, w⟩ := w.face (xi := mN88) (y' := mN20) (W := 0) (C := "java/util/ArrayList") (b := ag) (w.pays 0 (rmALg l Z a0 hw hEL ag ta ka vs ma (by omega) i (by omega) x hv hin w.old TA) (wq hw 367 rfl) (wq hw 46 rfl) all0 nle nle) (wq hw 360 rfl) (wq hw 361 rfl) (wq hw 362 rfl) (wq hw 363 rfl) (wq hw 364 rfl) (wq hw 365 rfl) (wq hw 366 rfl) (wq hw 150 rfl) (argsL := [(.int (Int32.ofNat i))]) (rest := []) (by decide) (X_ag) pd_10 rfl rfl nlr rfl (d23 6 rfl) omr omr (pc' := 40)
 obtain ⟨rfl, he2⟩ := hq2
 replace w := w.toS [(.ref x)]
 replace he2 := he2.symm
 subst he2
 replace w := w.cast (wq hw 380 rfl) (Ins.self X_x) (d23 7 rfl) (pc' := 43)
 obtain ⟨y3, V3, h3, E3, T_y3, N_y3, A3, w⟩ := w.ldcT [(45 : Int32), (45 : Int32)] 8 (text := "--") (wq hw 381 rfl) hstr (by decide) (by decide) (by decide) (by decide) (by decide) (by decide) (d23 8 rfl) (by decide) (by decide) omr omr (pc' := 45)
 have P2 := P.ext E3
 have TA2 := TA.ext E3
 have X_x := P2.2.2.2.1.str.exa
 have X_ag := TA2.1
 obtain ⟨v4, V4, h4, hq4, A4, w⟩ := w.virt (y' := mN11) (W := 0) (C := "java/lang/String") (b := x) (w.payEq (W := 0) hwe (wq hw 1 rfl) P2.2.2.2.1.str T_y3 Sc hz0 (by simp) (by simp) nle nle) (wq hw 382 rfl) (wq hw 383 rfl) (wq hw 384 rfl) (wq hw 101 rfl) (argsL := [(.ref y3)]) (rest := []) (by decide) X_x pd_15 rfl rfl nlr rfl (d23 9 rfl) omr omr (pc' := 48)
 obtain ⟨hv4, he4⟩ := hq4
 replace he4 := he4.symm
 subst he4
 rcases hv4 with ⟨-, hc⟩ | ⟨rfl, -⟩
 · exact absurd hc own_len3
 replace w := (((w.toS [(.int (0 : Int32))]).ifNo (d23 10 rfl) (by decide)).aloadN (d23 11 rfl) rfl).iload (pc' := 54) (d23 12 rfl) rfl
 obtain ⟨v5, V5, h5, hq5, A5, w⟩ := w.face (xi := mN88) (y' := mN20) (W := 0) (C := "java/util/ArrayList") (b := ag) (w.pays 0 (rmALg l Z a0 hw hEL ag ta ka vs ma (by omega) i (by omega) x hv h3 w.old TA2) (wq hw 367 rfl) (wq hw 46 rfl) all0 nle nle) (wq hw 360 rfl) (wq hw 361 rfl) (wq hw 362 rfl) (wq hw 363 rfl) (wq hw 364 rfl) (wq hw 365 rfl) (wq hw 366 rfl) (wq hw 150 rfl) (argsL := [(.int (Int32.ofNat i))]) (rest := []) (by decide) (X_ag) pd_10 rfl rfl nlr rfl (d23 13 rfl) omr omr (pc' := 59)
 obtain ⟨rfl, he5⟩ := hq5
 replace w := w.toS [(.ref x)]
 replace he5 := he5.symm
 subst he5
 replace w := ((w.cast (wq hw 380 rfl) (Ins.self X_x) (d23 14 rfl)).astore (L' := #[.val (.ref ag), .val (.ref nm), .val (.ref es), .val (.ref es), .val (.ref wn), .val (.ref us0), .val (.ref m0), .val (.ref g), .val (.int (Int32.ofNat i)), .val (.ref x), l10, l11]) (d23 15 rfl) (XS.store1 rfl (hl9) rfl)).aload (pc' := 66) (d23 16 rfl) rfl
 obtain ⟨y4, V6, h6, E6, T_y4, N_y4, A6, w⟩ := w.ldcT [(45 : Int32), (45 : Int32)] 8 (text := "--") (wq hw 381 rfl) hstr (by decide) (by decide) (by decide) (by decide) (by decide) (by decide) (d23 17 rfl) (by decide) (by decide) omr omr (pc' := 68)
 have P3 := P2.ext E6
 have TA3 := TA2.ext E6
 have U3 := (U1.ext E3).ext E6
 have HN3 := (HN1.ext E3).ext E6
 have X_x := P3.2.2.2.1.str.exa
 have X_ag := TA3.1
 have X_es := Xs.ext w.old
 have X_nm := HN3.1
 have X_v0 := U3.exa
 have Fs3 := TA3.2.2.1
 obtain ⟨v7, V7, h7, hq7, A7, w⟩ := w.virt (y' := mN85) (W := 0) (C := "java/lang/String") (b := x) (w.pays 0 (rmSW1 l Z a0 hw hEL z0 Sc hz0 x y4 _ true (Or.inr ⟨rfl, cx, rfl⟩) h6 w.old P3.2.2.2.1.str T_y4) (wq hw 389 rfl) (wq hw 2 rfl) all0 nle nle) (wq hw 385 rfl) (wq hw 386 rfl) (wq hw 388 rfl) (wq hw 387 rfl) (argsL := [(.ref y4)]) (rest := []) (by decide) X_x pd_43 rfl rfl nlr rfl (d23 18 rfl) omr omr (pc' := 71)
 obtain ⟨rfl, he7⟩ := hq7
 replace w := w.toS [(.int (1 : Int32))]
 replace he7 := he7.symm
 subst he7
 replace w := ((w.ifYes (d23 19 rfl) (by decide)).aloadN (d23 26 rfl) rfl).aload (pc' := 93) (d23 27 rfl) rfl
 obtain ⟨v8, V8, h8, hq8, A8, w⟩ := w.face (xi := mN90) (y' := mN35) (W := 0) (C := "java/util/ImmutableCollections$SetN") (b := es) (w.pays 0 (rmSNc l Z a0 hw hEL es x h6 w.old (Fz.ext w.old)) (wq hw 418 rfl) (wq hw 417 rfl) all0 nle nle) (wq hw 409 rfl) (wq hw 410 rfl) (wq hw 411 rfl) (wq hw 412 rfl) (wq hw 413 rfl) (wq hw 414 rfl) (wq hw 415 rfl) (wq hw 416 rfl) (argsL := [(.ref x)]) (rest := []) (by decide) (X_es) pd_15 rfl rfl nlr rfl (d23 28 rfl) omr omr (pc' := 98)
 obtain ⟨rfl, he8⟩ := hq8
 replace w := w.toS [(.int (0 : Int32))]
 replace he8 := he8.symm
 subst he8
 replace w := ((((w.istore (L' := #[.val (.ref ag), .val (.ref nm), .val (.ref es), .val (.ref es), .val (.ref wn), .val (.ref us0), .val (.ref m0), .val (.ref g), .val (.int (Int32.ofNat i)), .val (.ref x), .val (.int (0 : Int32)), l11]) (d23 29 rfl) (XS.store1 rfl (hl10) rfl)).iload (d23 30 rfl) rfl).ifNo (d23 31 rfl) (by decide)).aloadN (d23 32 rfl) rfl).aload (pc' := 108) (d23 33 rfl) rfl
 have hS12 : ∃ (k1 k2 : List Int32), k1.length ≤ 9 ∧ k2.length ≤ 9 ∧ ([45, 45, cx] = k1 ∨ k2 = [45, 45, cx]) ∧ Str Z h6 y1 k1 ∧ Str Z h6 y2 k2 := by
   rcases hy with ⟨rfl, -, rfl, -⟩ | ⟨rfl, -, rfl, -⟩
   · exact ⟨_, _, by simp, by simp, Or.inl rfl, P3.2.2.2.1.str, P3.2.2.2.2.1.str⟩
   · exact ⟨_, _, by simp, by simp, Or.inr rfl, P3.2.2.2.2.1.str, P3.2.2.2.1.str⟩
 obtain ⟨k1, k2, hk1, hk2, hin, Uk1, Uk2⟩ := hS12
 obtain ⟨v9, V9, h9, hq9, A9, w⟩ := w.face (xi := mN90) (y' := mN33) (W := 0) (C := "java/util/ImmutableCollections$Set12") (b := nm) (w.pays 0 (rmS12c l Z a0 hw hEL z0 Sc hz0 nm y1 y2 x k1 k2 [45, 45, cx] hk1 hk2 (by simp) hin h6 w.old Uk1 Uk2 P3.2.2.2.1.str HN3) (wq hw 427 rfl) (wq hw 74 rfl) all0 nle nle) (wq hw 409 rfl) (wq hw 410 rfl) (wq hw 411 rfl) (wq hw 422 rfl) (wq hw 423 rfl) (wq hw 424 rfl) (wq hw 425 rfl) (wq hw 426 rfl) (argsL := [(.ref x)]) (rest := []) (by decide) (X_nm) pd_15 rfl rfl nlr rfl (d23 34 rfl) omr omr (pc' := 113)
 obtain ⟨rfl, he9⟩ := hq9
 replace w := w.toS [(.int (1 : Int32))]
 replace he9 := he9.symm
 subst he9
 replace w := (((((w.ifYes (d23 35 rfl) (by decide)).iload (d23 36 rfl) rfl).ifNo (d23 37 rfl) (by decide)).iload (d23 38 rfl) rfl).iconst (1 : Int32) (d23 39 rfl)).iadd (pc' := 153) (d23 40 rfl)
 rw [ei] at w
 replace w := w.aloadN (pc' := 154) (d23 41 rfl) rfl
 obtain ⟨v10, V10, h10, hq10, A10, w⟩ := w.face (xi := mN87) (y' := mN15) (W := 1) (C := "java/util/ArrayList") (b := ag) (w.pays 1 (rmALs l Z a0 hw hEL ag _ h6 w.old Fs3) (wq hw 151 rfl) (wq hw 46 rfl) all0 nle nle) (wq hw 143 rfl) (wq hw 144 rfl) (wq hw 145 rfl) (wq hw 146 rfl) (wq hw 147 rfl) (wq hw 148 rfl) (wq hw 149 rfl) (wq hw 150 rfl) (argsL := []) (rest := [(.int (Int32.ofNat (i + 1)))]) (by decide) (X_ag) pd_4 rfl rfl nlr rfl (d23 42 rfl) omr omr (pc' := 159)
 obtain ⟨rfl, he10⟩ := hq10
 replace w := w.toS [(.int (Int32.ofNat vs.length)), (.int (Int32.ofNat (i + 1)))]
 replace he10 := he10.symm
 subst he10
 replace w := ((((w.icmpNo (pc' := 162) (d23 43 rfl) ((feq (fun z => absurd ((own_eq32 (a := i + 1) (b := vs.length) (by omega) (by omega)).mp z) (by omega))).1)).aloadN (d23 44 rfl) rfl).iload (d23 45 rfl) rfl).iconst (1 : Int32) (d23 46 rfl)).iadd (pc' := 167) (d23 47 rfl)
 rw [ei] at w
 obtain ⟨v11, V11, h11, hq11, A11, w⟩ := w.face (xi := mN88) (y' := mN20) (W := 0) (C := "java/util/ArrayList") (b := ag) (w.pays 0 (rmALg l Z a0 hw hEL ag ta ka vs ma (by omega) (i + 1) hi v0 hv2 h6 w.old TA3) (wq hw 367 rfl) (wq hw 46 rfl) all0 nle nle) (wq hw 360 rfl) (wq hw 361 rfl) (wq hw 362 rfl) (wq hw 363 rfl) (wq hw 364 rfl) (wq hw 365 rfl) (wq hw 366 rfl) (wq hw 150 rfl) (argsL := [(.int (Int32.ofNat (i + 1)))]) (rest := []) (by decide) (X_ag) pd_10 rfl rfl nlr rfl (d23 48 rfl) omr omr (pc' := 172)
 obtain ⟨rfl, he11⟩ := hq11
 replace w := w.toS [(.ref v0)]
 replace he11 := he11.symm
 subst he11
 replace w := w.cast (wq hw 380 rfl) (Ins.self X_v0) (d23 49 rfl) (pc' := 175)
 obtain ⟨y5, V12, h12, E12, T_y5, N_y5, A12, w⟩ := w.ldcT [(45 : Int32), (45 : Int32)] 8 (text := "--") (wq hw 381 rfl) hstr (by decide) (by decide) (by decide) (by decide) (by decide) (by decide) (d23 50 rfl) (by decide) (by decide) omr omr (pc' := 177)
 have E_5 := E12
 have P4 := P3.ext E_5
 have TA4 := TA3.ext E_5
 have U4 := U3.ext E_5
 have X_v0 := U4.exa
 have X_m0 := P4.2.2.1.exa
 obtain ⟨v13, V13, h13, hq13, A13, w⟩ := w.virt (y' := mN85) (W := 0) (C := "java/lang/String") (b := v0) (w.pays 0 (rmSW1 l Z a0 hw hEL z0 Sc hz0 v0 y5 cs false (Or.inl ⟨rfl, hcs⟩) h12 w.old U4 T_y5) (wq hw 389 rfl) (wq hw 2 rfl) all0 nle nle) (wq hw 385 rfl) (wq hw 386 rfl) (wq hw 388 rfl) (wq hw 387 rfl) (argsL := [(.ref y5)]) (rest := []) (by decide) X_v0 pd_43 rfl rfl nlr rfl (d23 51 rfl) omr omr (pc' := 180)
 obtain ⟨rfl, he13⟩ := hq13
 replace w := w.toS [(.int (0 : Int32))]
 replace he13 := he13.symm
 subst he13
 replace w := ((w.ifYes (d23 52 rfl) (by decide)).aload (d23 53 rfl) rfl).aload (pc' := 204) (d23 54 rfl) rfl
 obtain ⟨a1, a2, a3, a4, a5, a6, a7, a8, a9, a10, a11⟩ := P4
 have ge_m0_Z : Z.heap.size ≤ m0 := Nat.le_trans hz0' a8
 obtain ⟨v14, V14, h14, hq14, A14, w⟩ := w.face (xi := mN91) (y' := mN57) (W := 0) (C := "java/util/HashMap") (b := m0) (w.pays 0 (rmHCKg l Z a0 hw hEL z0 Sc hz0 m0 x z cx cz none bz h0.size h12 w.old a3 a4) (wq hw 291 rfl) (wq hw 127 rfl) (allS (a4.safe hw w.hZ) all0) nle nle) (wq hw 283 rfl) (wq hw 284 rfl) (wq hw 285 rfl) (wq hw 286 rfl) (wq hw 287 rfl) (wq hw 288 rfl) (wq hw 289 rfl) (wq hw 290 rfl) (argsL := [(.ref x)]) (rest := []) (by decide) (X_m0) pd_15 rfl rfl nlr rfl (d23 55 rfl) omr omr (pc' := 209)
 obtain ⟨rfl, KH, MH, SH⟩ := hq14
 replace w := w.toS [(.int (0 : Int32))]
 have X_xa := a4.str.exa
 have X_x := SH.str.exa
 replace w := (((w.ifYes (d23 56 rfl) (by decide)).aload (d23 57 rfl) rfl).aload (pc' := 244) (d23 58 rfl) rfl).lamC LF hnm rfl d_ind (by show 1 + (1 + 0) + 3072 ≤ 3200; decide) (pc' := 249)
 have X_m0 := MH.exa
 have hlb0 : h0.size ≤ (h14).size := Nat.le_trans a1.1 KH.1
 obtain ⟨v15, V15, h15, hq15, A15, w⟩ := w.face (xi := mN92) (y' := mN86) (W := 0) (C := "java/util/HashMap") (b := m0) (w.pays 0 (rmCIAm l Z a0 hw hEL z0 Sc hz0 ST LF m0 x z cx cz bz h0.size hbin h14 w.old hz0' hlb0 MH SH ge_m0_Z) (wq hw 438 rfl) (wq hw 127 rfl) (allS (SH.safe hw w.hZ) all0) nle nle) (wq hw 431 rfl) (wq hw 432 rfl) (wq hw 433 rfl) (wq hw 434 rfl) (wq hw 435 rfl) (wq hw 436 rfl) (wq hw 437 rfl) (wq hw 290 rfl) (argsL := [(.ref x), (.ref f)]) (rest := []) (by decide) (X_m0) pd_44 rfl rfl nlr rfl (d23 60 rfl) omr omr (pc' := 254)
 obtain ⟨L, nd, tw, rfl, gL, TL, KC, htw, MC', SC⟩ := hq15
 replace w := w.toS [(.ref L)]
 have X_L := TL.1
 replace w := (((w.cast (wq hw 511 rfl) (Ins.of_exa X_L (wq hw 150 rfl)) (d23 61 rfl)).astore (L' := #[.val (.ref ag), .val (.ref nm), .val (.ref es), .val (.ref es), .val (.ref wn), .val (.ref us0), .val (.ref m0), .val (.ref g), .val (.int (Int32.ofNat i)), .val (.ref x), .val (.int (0 : Int32)), .val (.ref L)]) (d23 62 rfl) (XS.store1 rfl (hl11) rfl)).iload (d23 63 rfl) rfl).ifNo (pc' := 264) (d23 64 rfl) (by decide)
 have X_m1 := MH.exa
 have ntx : ∀ (t : Addr) (k : ClassId) (ty : FieldType) (n : Int32) (us : List Value) (dv : Value), Arv Z h14 t k ty n us dv → ty ≠ .object "java/util/HashMap$Node" → t ∉ [m0, tw, x] := fun t k ty n us dv A hty => ninS (Exa.neArv X_m1 A (wq hw 126 rfl)).symm (ninS (by
   rcases htw with rfl | ⟨-, kt, n', us', dv', AT⟩
   · exact (Exa.neArv X_m1 A (wq hw 126 rfl)).symm
   · exact own_arvNe A AT hty) (ninS (Exa.neArv X_x A (wq hw 1 rfl)).symm nin0))
 have nex : ∀ (y : Addr) (C : String) (kk : Nat), Exa Z h14 y C → C ≠ "java/util/HashMap" → y ≠ x → (Jvm.Cond.instantiable C kk).before a0 Z = true → y ∉ [m0, tw, x] := fun y C kk E n1 n2 wi => ninS (Exa.ne E X_m1 n1) (ninS (by
   rcases htw with rfl | ⟨-, kt, n', us', dv', AT⟩
   · exact Exa.ne E X_m1 n1
   · exact Exa.neArv E AT wi) (ninS n2 nin0))
 have TA5 : ALn Z h14 ag ta ka vs ma := TA4.keep KH (ninS (Exa.ne TA4.1 X_xa (by decide)) nin0) (ninS (Exa.neArv X_xa TA4.2.2.2.2.1 (wq hw 1 rfl)).symm nin0)
 have TA6 : ALn Z h15 ag ta ka vs ma := TA5.keep KC (nex _ _ _ TA5.1 (by decide) (Exa.ne TA5.1 X_x (by decide)) (wq hw 45 rfl)) (ntx _ _ _ _ _ _ TA5.2.2.2.2.1 (by decide))
 have X_ag := TA6.1
 have U5 : Str Z h14 v0 cs := own_strK KH (ninS hox nin0) (fun t k n us dv A => ninS (Exa.neArv X_xa A (wq hw 1 rfl)).symm nin0) U4
 have U6 : Str Z h15 v0 cs := own_strK KC (nex _ _ _ U5.exa (by decide) hox (wq hw 1 rfl)) (fun t k n us dv A => ntx _ _ _ _ _ _ A (by decide)) U5
 have SZ5 : Key Z h14 z cz := a5.keepS hw KH X_xa hxz.symm
 have SZ6 : Key Z h15 z cz := SZ5.keep KC (nex _ _ _ SZ5.str.exa (by decide) hxz.symm (wq hw 1 rfl)) (fun t F => by
   obtain ⟨k, n, us, dv, A⟩ := own_keyArv SZ5.str F
   exact ntx _ _ _ _ _ _ A (by decide))
 have G5 : LL Z h14 dc g tg gs := a2.keep KH (ninS (Exa.ne a2.exa X_xa (by decide)) nin0) (by
   obtain ⟨kA, nA, uA, AT⟩ := own_llArv (Ext_trans4 hx0 E3 E6 E12) Dd a2
   exact Or.inr (ninS (Exa.neArv X_xa AT (wq hw 1 rfl)).symm nin0)) hdc
 have hx14 : Ext Z.heap h14 := extK (Ext_trans4 hx0 E3 E6 E12) KH (allS a4.ge all0)
 have AT5 := own_llArv hx14 Dd G5
 have G6 : LL Z h15 dc g tg gs := G5.keep KC (nex _ _ _ G5.exa (by decide) (Exa.ne G5.exa X_x (by decide)) (wq hw 45 rfl)) (by
   obtain ⟨kA, nA, uA, AT⟩ := AT5
   exact Or.inr (ntx _ _ _ _ _ _ AT (by decide))) hdc
 have X_v0 := U6.exa
 have ltg : g < h14.size := G5.exa.lt
 have lttg : tg < h14.size := by obtain ⟨kA, nA, uA, AT⟩ := AT5; exact AT.lt
 have nLg : L ≠ g := Nat.ne_of_gt (Nat.lt_of_lt_of_le ltg gL)
 have nLz : ∀ v nd' L' tl' kl', bz = some (v, nd', L', tl', kl') → L' ≠ L := fun v nd' L' tl' kl' eb => by
   subst eb
   rcases MH with ⟨-, q, -⟩ | ⟨_, _, _, _, _, _, _, _, _, _, -, -, q⟩
   · cases q
   · exact Nat.ne_of_lt (Nat.lt_of_lt_of_le q.1.lt gL)
 have K06 : Keep h0 h15 [x, z] := (a1.trans KH (allS (Or.inl (by simp)) all0)).trans KC (allS (Or.inr a8) (allS (by
   rcases htw with rfl | ⟨q, -⟩
   · exact Or.inr a8
   · exact Or.inr q) (allS (Or.inl (by simp)) all0)))
 have Io : Ins Z h15 v0 "java/lang/Object" true := Ins.of_exa X_v0 (wq hw 359 rfl)
 have nvL : v0 ≠ L := Exa.ne X_v0 X_L (by decide)
 have ge_L_Z : Z.heap.size ≤ L := Nat.le_trans hz0' (Nat.le_trans hlb0 gL)
 replace w := ((((w.aload (d23 65 rfl) rfl).aloadN (d23 66 rfl) rfl).iload (d23 67 rfl) rfl).iconst (1 : Int32) (d23 68 rfl)).iadd (pc' := 271) (d23 69 rfl)
 rw [ei] at w
 obtain ⟨v16, V16, h16, hq16, A16, w⟩ := w.face (xi := mN88) (y' := mN20) (W := 1) (C := "java/util/ArrayList") (b := ag) (w.pays 1 (rmALg l Z a0 hw hEL ag ta ka vs ma (by omega) (i + 1) hi v0 hv2 h15 w.old TA6) (wq hw 367 rfl) (wq hw 46 rfl) all0 nle nle) (wq hw 360 rfl) (wq hw 361 rfl) (wq hw 362 rfl) (wq hw 363 rfl) (wq hw 364 rfl) (wq hw 365 rfl) (wq hw 366 rfl) (wq hw 150 rfl) (argsL := [(.int (Int32.ofNat (i + 1)))]) (rest := [(.ref L)]) (by decide) (X_ag) pd_10 rfl rfl nlr rfl (d23 70 rfl) omr omr (pc' := 276)
 obtain ⟨rfl, he16⟩ := hq16
 replace w := w.toS [(.ref v0), (.ref L)]
 replace he16 := he16.symm
 subst he16
 replace w := w.cast (wq hw 380 rfl) (Ins.self X_v0) (d23 71 rfl) (pc' := 279)
 obtain ⟨v17, V17, h17, hq17, A17, w⟩ := w.face (xi := mN89) (y' := mN25) (W := 0) (C := "java/util/ArrayList") (b := L) (w.pays 0 (rmAD10 l Z a0 hw hEL dc kd Sd Dd L 0 v0 h15 w.old TL Io nvL ge_L_Z) (wq hw 339 rfl) (wq hw 46 rfl) all0 nle nle) (wq hw 512 rfl) (wq hw 333 rfl) (wq hw 334 rfl) (wq hw 335 rfl) (wq hw 336 rfl) (wq hw 337 rfl) (wq hw 338 rfl) (wq hw 150 rfl) (argsL := [(.ref v0)]) (rest := []) (by decide) (X_L) pd_15 rfl rfl nlr rfl (d23 72 rfl) omr omr (pc' := 284)
 obtain ⟨tl, kl, rfl, KA, gtl, TLn⟩ := hq17
 replace w := w.toS [(.int (1 : Int32))]
 have hx15 : Ext Z.heap h15 := extK hx14 KC (allS ge_m0_Z (allS (by
   rcases htw with rfl | ⟨q, -⟩
   · exact ge_m0_Z
   · exact Nat.le_trans hz0' q) (allS a4.ge all0)))
 have M7 := MC'.done hw X_L KA nLz TLn
 have nst : ∀ (t : Addr) (k : ClassId) (ty : FieldType) (n : Int32) (us : List Value) (dv : Value), Arv Z h15 t k ty n us dv → t ∉ [L] := fun t k ty n us dv A => ninS (Exa.neArv X_L A (wq hw 45 rfl)).symm nin0
 have G7 : LL Z h17 dc g tg gs := G6.keep KA (ninS nLg.symm nin0) (by
   obtain ⟨kA, nA, uA, AT⟩ := own_llArv hx15 Dd G6
   exact Or.inr (nst _ _ _ _ _ _ AT)) hdc
 have SX7 : Key Z h17 x cx := SC.keep KA (ninS (Exa.ne SC.str.exa X_L (by decide)) nin0) (fun t F => by
   obtain ⟨k, n, us, dv, A⟩ := own_keyArv SC.str F
   exact nst _ _ _ _ _ _ A)
 have SZ7 : Key Z h17 z cz := SZ6.keep KA (ninS (Exa.ne SZ6.str.exa X_L (by decide)) nin0) (fun t F => by
   obtain ⟨k, n, us, dv, A⟩ := own_keyArv SZ6.str F
   exact nst _ _ _ _ _ _ A)
 have gL0 : h0.size ≤ L := Nat.le_trans hlb0 gL
 have P7 : PS Z h0 h17 dc em g tg gs m0 x z cx cz (some (v0, nd, L, tl, kl)) bz := ⟨K06.trans KA (allS (Or.inr gL0) all0), G7, M7, SX7, SZ7, a6, a7, a8, (fun v nd' L' tl' kl' eq => by
   cases eq
   exact ⟨nLg, Nat.ne_of_gt (Nat.lt_of_lt_of_le (Nat.lt_of_lt_of_le lttg KC.1) gtl)⟩), a10, ((a11.keep KH).keep KC).keep KA⟩
 replace w := (((((w.pop (d23 73 rfl)).iload (d23 74 rfl) rfl).iload (d23 75 rfl) rfl).ifYes (d23 76 rfl) (by decide)).iconst (2 : Int32) (d23 77 rfl)).iadd (pc' := 298) (d23 78 rfl)
 rw [ei2] at w
 replace w := (w.istore (L' := #[.val (.ref ag), .val (.ref nm), .val (.ref es), .val (.ref es), .val (.ref wn), .val (.ref us0), .val (.ref m0), .val (.ref g), .val (.int (Int32.ofNat (i + 2))), .val (.ref x), .val (.int (0 : Int32)), .val (.ref L)]) (d23 79 rfl) rfl).goto (pc' := 21) (d23 80 rfl)
 exact kont _ _ nd L tl kl P7 (w.more omr omr)
theorem rmMIN2 (l : Launch) (Z : State) (a0 : Array Value) (hw : HW Z a0) (hEL : EW Z a0 consts_1) (a b r : Int32) (hr : (¬ b < a ∧ r = a) ∨ (b < a ∧ r = b)) (h0 : Heap) (hx : Ext Z.heap h0) :
   Met l Z consts_1 mN44 jdk_29_method_69_code 2 (some .int) [] (rM 0 0 0 0) #[.int a, .int b] h0 [] (fun v h => v = some (.int r) ∧ h = h0) := by
 refine Met.of (a0 := a0) (by decide +kernel) hEL hx ?_
 intro p e s m below meth c S0 V w hs hsf
 replace w := ((w.to (g' := mkF m 0 #[.val (.int a), .val (.int b)] [])).iloadN (d27 0 rfl) rfl).iloadN (pc' := 2) (d27 1 rfl) rfl
 rcases hr with ⟨q, rfl⟩ | ⟨q, rfl⟩
 ·
   replace w := ((w.icmpNo (pc' := 5) (d27 2 rfl) ((flt q).2.2.1)).iloadN (d27 5 rfl) rfl).goto (pc' := 10) (d27 6 rfl)
   exact w.retI (d27 4 rfl) ⟨rfl, rfl⟩ nle nle
 replace w := (w.icmpYes (pc' := 9) (d27 2 rfl) ((tlt q).2.2.1)).iloadN (pc' := 10) (d27 3 rfl) rfl
 exact w.retI (d27 4 rfl) ⟨rfl, rfl⟩ nle nle
theorem own_llv {Z : State} {h : Heap} {dc : Addr} {kd : ClassId} {a t : Addr} {vs : List Value} (hx : Ext Z.heap h) (Dd : Arv Z Z.heap dc kd (.object "java/lang/Object") 0 [] .null) (Xd : Exa Z Z.heap dc "[Ljava/lang/Object;") (T : LL Z h dc a t vs) :
   ∃ mc k N us, Fld Z h a "java/util/AbstractList" "modCount" "I" (.int mc) ∧ Fld Z h a "java/util/ArrayList" "elementData" "[Ljava/lang/Object;" (.ref t) ∧ us.length = N ∧ N ≤ 10 ∧ Arv Z h t k (.object "java/lang/Object") (Int32.ofNat N) us .null ∧ Exa Z h t "[Ljava/lang/Object;" ∧ vs.length ≤ N ∧ ∀ lo n, lo + n = vs.length → (us.drop lo).take n = vs.drop lo := by
 rcases T with ⟨rfl, rfl, mc, T⟩ | ⟨gt, hl, k, mc, T⟩
 · exact ⟨mc, kd, 0, [], T.2.2.2, T.2.1, rfl, by omega, Dd.ext hx, Xd.ext hx, by simp, fun lo n _ => by simp⟩
 · exact ⟨mc, k, 10, own_10 vs, T.2.2.2.1, T.2.1, own_10_len hl, by omega, T.2.2.2.2.1, T.2.2.2.2.2.1, hl, fun lo n q => own_10_drop q hl⟩
theorem rmADAg (l : Launch) (Z : State) (a0 : Array Value) (hw : HW Z a0) (hEL : EW Z a0 consts_1) {dc : Addr} {kd : ClassId} {es el em mr le : Addr} {kl : ClassId} (ST : Stt Z dc kd es el em mr le kl) (g tg : Addr) (gs : List Value) (b root t : Addr) (k : ClassId) (mc : Int32) (N : Nat) (us : List Value) (hN : us.length = N) (hl : N ≤ 10) (lo n : Nat) (hlo : lo + n ≤ N) (hgn : gs.length + n ≤ 10) (h0 : Heap) (hx : Ext Z.heap h0) (T : SLp Z h0 b root (Int32.ofNat lo) (Int32.ofNat n) mc) (Frm : Fld Z h0 root "java/util/AbstractList" "modCount" "I" (.int mc)) (Fed : Fld Z h0 root "java/util/ArrayList" "elementData" "[Ljava/lang/Object;" (.ref t)) (A : Arv Z h0 t k (.object "java/lang/Object") (Int32.ofNat N) us .null) (X_t : Exa Z h0 t "[Ljava/lang/Object;") (HI : ∀ u ∈ (us.drop lo).take n, ∃ x, u = .ref x ∧ Ins Z h0 x "java/lang/Object" true) (ge_g_Z : Z.heap.size ≤ g) (G : LL Z h0 dc g tg gs) (hgr : g ≠ root) :
   Met l Z consts_1 mN73 jdk_38_method_41_code 6 (some .boolean) [] (rM 4 2 20 130) #[.ref g, .ref b] h0 [] (fun v h => ∃ zz t' t2, v = some (.int zz) ∧ (t2 = g ∨ (t2 = tg ∧ Z.heap.size ≤ tg)) ∧ Keep h0 h [g, t2] ∧ (t' = tg ∨ h0.size ≤ t') ∧ LL Z h dc g t' (gs ++ (us.drop lo).take n)) := by
 obtain ⟨Sd, Dd, Xd, Ss, Xs, Fz, Sl, Xl, Fe0, Al0, Fn0, Se, Xe, Mr⟩ := id ST
 have hz := hx.1
 have hlen : ((us.drop lo).take n).length = n := by rw [List.length_take, List.length_drop]; omega
 rcases G with ⟨rfl, rfl, mg, G⟩ | ⟨gt, hl2, kg, mg, G⟩
 · refine (rmADA0 l Z a0 hw hEL tg kd Sd Dd mr Mr mg g tg [] b root t k mc N us hN hl lo n hlo hgn h0 hx T Frm Fed A X_t HI ge_g_Z rfl G hgr).mono fun v h q => ?_
   obtain ⟨zz, rfl, K, q⟩ := q
   rcases q with ⟨rfl, mg', T'⟩ | ⟨t', k', mg', gt', T'⟩
   · exact ⟨zz, tg, g, rfl, Or.inl rfl, own_keepW K (by simp), Or.inl rfl, Or.inl ⟨rfl, by simp, mg', T'⟩⟩
   · exact ⟨zz, t', g, rfl, Or.inl rfl, own_keepW K (by simp), Or.inr gt', Or.inr ⟨Nat.le_trans hz gt', by rw [List.nil_append, hlen]; simp at hgn; omega, k', mg', by rw [List.nil_append]; exact T'⟩⟩
 · refine (rmADAn l Z a0 hw hEL mr Mr kg mg g tg gs b root t k mc N us hN hl lo n hlo hgn h0 hx T Frm Fed A X_t HI ge_g_Z G gt hgr).mono fun v h q => ?_
   obtain ⟨mg', zz, rfl, K, T'⟩ := q
   exact ⟨zz, tg, tg, rfl, Or.inr ⟨rfl, gt⟩, K, Or.inl rfl, Or.inr ⟨gt, by rw [List.length_append, hlen]; exact hgn, kg, mg', T'⟩⟩
def OPp (Z : State) (h : Heap) (o m0 ob : Addr) : Prop := Exa Z h o "com/example/keyturn/keyturn/Options" ∧ Fld Z h o "com/example/keyturn/keyturn/Options" "values" "Ljava/util/Map;" (.ref m0) ∧ Fld Z h o "com/example/keyturn/keyturn/Options" "operands" "Ljava/util/List;" (.ref ob)
theorem own_Ovo {Z : State} {a0 : Array Value} (hw : HW Z a0) : RoadKit.slotOf Z "com/example/keyturn/keyturn/Options" "values" "Ljava/util/Map;" ≠ RoadKit.slotOf Z "com/example/keyturn/keyturn/Options" "operands" "Ljava/util/List;" := slot_ne (C := "com/example/keyturn/keyturn/Options") (Or.inr (wq hw 271 rfl)) (Or.inr (wq hw 273 rfl)) (by decide) (t := (.object "java/util/Map")) (t' := (.object "java/util/List")) (by decide) (by decide)
theorem own_Ovn {Z : State} {a0 : Array Value} (hw : HW Z a0) : RoadKit.slotOf Z "com/example/keyturn/keyturn/Options" "values" "Ljava/util/Map;" ≠ RoadKit.slotOf Z "com/example/keyturn/keyturn/Options" "operandNames" "Ljava/util/List;" := slot_ne (C := "com/example/keyturn/keyturn/Options") (Or.inr (wq hw 271 rfl)) (Or.inr (wq hw 275 rfl)) (by decide) (t := (.object "java/util/Map")) (t' := (.object "java/util/List")) (by decide) (by decide)
theorem own_Ovu {Z : State} {a0 : Array Value} (hw : HW Z a0) : RoadKit.slotOf Z "com/example/keyturn/keyturn/Options" "values" "Ljava/util/Map;" ≠ RoadKit.slotOf Z "com/example/keyturn/keyturn/Options" "usage" "Ljava/lang/String;" := slot_ne (C := "com/example/keyturn/keyturn/Options") (Or.inr (wq hw 271 rfl)) (Or.inr (wq hw 277 rfl)) (by decide) (t := (.object "java/util/Map")) (t' := (.object "java/lang/String")) (by decide) (by decide)
theorem own_Oon {Z : State} {a0 : Array Value} (hw : HW Z a0) : RoadKit.slotOf Z "com/example/keyturn/keyturn/Options" "operands" "Ljava/util/List;" ≠ RoadKit.slotOf Z "com/example/keyturn/keyturn/Options" "operandNames" "Ljava/util/List;" := slot_ne (C := "com/example/keyturn/keyturn/Options") (Or.inr (wq hw 273 rfl)) (Or.inr (wq hw 275 rfl)) (by decide) (t := (.object "java/util/List")) (t' := (.object "java/util/List")) (by decide) (by decide)
theorem own_Oou {Z : State} {a0 : Array Value} (hw : HW Z a0) : RoadKit.slotOf Z "com/example/keyturn/keyturn/Options" "operands" "Ljava/util/List;" ≠ RoadKit.slotOf Z "com/example/keyturn/keyturn/Options" "usage" "Ljava/lang/String;" := slot_ne (C := "com/example/keyturn/keyturn/Options") (Or.inr (wq hw 273 rfl)) (Or.inr (wq hw 277 rfl)) (by decide) (t := (.object "java/util/List")) (t' := (.object "java/lang/String")) (by decide) (by decide)
theorem own_Onu {Z : State} {a0 : Array Value} (hw : HW Z a0) : RoadKit.slotOf Z "com/example/keyturn/keyturn/Options" "operandNames" "Ljava/util/List;" ≠ RoadKit.slotOf Z "com/example/keyturn/keyturn/Options" "usage" "Ljava/lang/String;" := slot_ne (C := "com/example/keyturn/keyturn/Options") (Or.inr (wq hw 275 rfl)) (Or.inr (wq hw 277 rfl)) (by decide) (t := (.object "java/util/List")) (t' := (.object "java/lang/String")) (by decide) (by decide)
theorem rmOPi (l : Launch) (Z : State) (a0 : Array Value) (hw : HW Z a0) (hEL : EW Z a0 consts_1) (o m0 ob nb us0 : Addr) (h0 : Heap) (hx : Ext Z.heap h0) (X_o : Exa Z h0 o "com/example/keyturn/keyturn/Options") (Fv : Fld Z h0 o "com/example/keyturn/keyturn/Options" "values" "Ljava/util/Map;" .null) (Fo : Fld Z h0 o "com/example/keyturn/keyturn/Options" "operands" "Ljava/util/List;" .null) (Fn : Fld Z h0 o "com/example/keyturn/keyturn/Options" "operandNames" "Ljava/util/List;" .null) (Fu : Fld Z h0 o "com/example/keyturn/keyturn/Options" "usage" "Ljava/lang/String;" .null) (ge_o_Z : Z.heap.size ≤ o) :
   Met l Z consts_1 mN93 prog_16_method_1_code 5 none [] (rM 1 0 0 12) #[.ref o, .ref m0, .ref ob, .ref nb, .ref us0] h0 [] (fun v h => v = none ∧ Keep h0 h [o] ∧ OPp Z h o m0 ob) := by
 refine Met.of (a0 := a0) (by decide +kernel) hEL hx ?_
 intro p e s m below meth c S0 V w hs hsf
 replace w := ((((w.to (g' := mkF m 0 #[.val (.ref o), .val (.ref m0), .val (.ref ob), .val (.ref nb), .val (.ref us0)] [])).aloadN (d40 0 rfl) rfl).initO 0 (wq hw 269 rfl) (wq hw 12 rfl) (wq hw 13 rfl) rfl (d40 1 rfl) (by decide) nlr (by decide)).aloadN (d40 2 rfl) rfl).aloadN (pc' := 6) (d40 3 rfl) rfl
 obtain ⟨h1, W1, K1, Fw1, A1, w⟩ := w.putF (ty := (.object "java/util/Map")) (wq hw 270 rfl) (Fv) (X_o) (Or.inr ⟨(wq hw 271 rfl), rfl, rfl⟩) (wq hw 239 rfl) (by decide) rfl rfl (Safe.exa w.hZ.alike X_o (by decide) (by decide)) (ge_o_Z) (d40 4 rfl) (pc' := 9)
 have X1 := X_o.wr W1
 have Fo1 := Fo.other W1 (Or.inr (own_Ovo hw).symm)
 have Fn1 := Fn.other W1 (Or.inr (own_Ovn hw).symm)
 have Fu1 := Fu.other W1 (Or.inr (own_Ovu hw).symm)
 replace w := (w.aloadN (d40 5 rfl) rfl).aloadN (pc' := 11) (d40 6 rfl) rfl
 obtain ⟨h2, W2, K2, Fw2, A2, w⟩ := w.putF (ty := (.object "java/util/List")) (wq hw 272 rfl) (Fo1) (X1) (Or.inr ⟨(wq hw 273 rfl), rfl, rfl⟩) (wq hw 239 rfl) (by decide) rfl rfl (Safe.exa w.hZ.alike X1 (by decide) (by decide)) (ge_o_Z) (d40 7 rfl) (pc' := 14)
 have X2 := X1.wr W2
 have Fn2 := Fn1.other W2 (Or.inr (own_Oon hw).symm)
 have Fu2 := Fu1.other W2 (Or.inr (own_Oou hw).symm)
 replace w := (w.aloadN (d40 8 rfl) rfl).aloadN (pc' := 16) (d40 9 rfl) rfl
 obtain ⟨h3, W3, K3, Fw3, A3, w⟩ := w.putF (ty := (.object "java/util/List")) (wq hw 274 rfl) (Fn2) (X2) (Or.inr ⟨(wq hw 275 rfl), rfl, rfl⟩) (wq hw 239 rfl) (by decide) rfl rfl (Safe.exa w.hZ.alike X2 (by decide) (by decide)) (ge_o_Z) (d40 10 rfl) (pc' := 19)
 have X3 := X2.wr W3
 have Fu3 := Fu2.other W3 (Or.inr (own_Onu hw).symm)
 replace w := (w.aloadN (d40 11 rfl) rfl).aload (pc' := 22) (d40 12 rfl) rfl
 obtain ⟨h4, W4, K4, Fw4, A4, w⟩ := w.putF (ty := (.object "java/lang/String")) (wq hw 276 rfl) (Fu3) (X3) (Or.inr ⟨(wq hw 277 rfl), rfl, rfl⟩) (wq hw 239 rfl) (by decide) rfl rfl (Safe.exa w.hZ.alike X3 (by decide) (by decide)) (ge_o_Z) (d40 13 rfl) (pc' := 25)
 exact w.ret0 (d40 14 rfl) ⟨rfl, ((K1.trans K2 (allS (Or.inl (List.mem_cons_self ..)) all0)).trans K3 (allS (Or.inl (List.mem_cons_self ..)) all0)).trans K4 (allS (Or.inl (List.mem_cons_self ..)) all0), X3.wr W4, ((Fw1.other W2 (Or.inr (own_Ovo hw))).other W3 (Or.inr (own_Ovn hw))).other W4 (Or.inr (own_Ovu hw)), (Fw2.other W3 (Or.inr (own_Oon hw))).other W4 (Or.inr (own_Oou hw))⟩ nle nle
/-- an object of a class of its own is written: the rest stands -/
theorem IL.keepX {Z : State} {h h' : Heap} {em b o : Addr} {vs : List Value} {C : String} {a0 : Array Value} {kk : Nat} (K : Keep h h' [o]) (X : Exa Z h o C) (n1 : C ≠ "java/util/ImmutableCollections$List12") (n2 : C ≠ "java/util/ImmutableCollections$ListN") (wi : (Jvm.Cond.instantiable C kk).before a0 Z = true) (S : IL Z h em b vs) : IL Z h' em b vs := by
 rcases S with ⟨x, h1, h2, h3, h4⟩ | ⟨x, y, h1, h0, h2, h3, h4⟩ | ⟨t, k, h1, h2, h3, h4, h5⟩
 · have n : b ∉ [o] := ninS (Exa.ne h2 X (fun q => n1 q.symm)) nin0
   exact Or.inl ⟨x, h1, h2.keep K, h3.keep K n, h4.keep K n⟩
 · have n : b ∉ [o] := ninS (Exa.ne h2 X (fun q => n1 q.symm)) nin0
   exact Or.inr (Or.inl ⟨x, y, h1, h0, h2.keep K, h3.keep K n, h4.keep K n⟩)
 · have n : b ∉ [o] := ninS (Exa.ne h3 X (fun q => n2 q.symm)) nin0
   exact Or.inr (Or.inr ⟨t, k, h1, h2, h3.keep K, h4.keep K n, h5.keep K (ninS (Exa.neArv X h5 wi).symm nin0)⟩)
theorem OL.ext {Z : State} {h h' : Heap} {em el b : Addr} {vs : List Value} (E : Ext h h') (S : OL Z h em el b vs) : OL Z h' em el b vs := S.imp id fun q => q.ext E
theorem MP.keepX {Z : State} {h h' : Heap} {a0 : Array Value} {lb kk : Nat} {m0 n1 n2 o : Addr} {c1 c2 : Int32} {b1 b2 : EN} {C : String} (K : Keep h h' [o]) (X : Exa Z h o C) (q1 : C ≠ "java/util/HashMap") (q2 : C ≠ "java/util/HashMap$Node") (q3 : C ≠ "java/util/ArrayList") (wi : (Jvm.Cond.instantiable C kk).before a0 Z = true) (M : MP Z lb h m0 n1 n2 c1 c2 b1 b2) : MP Z lb h' m0 n1 n2 c1 c2 b1 b2 := by
 have hm : m0 ∉ [o] := ninS (Exa.ne M.exa X (fun q => q1 q.symm)) nin0
 have ht : ∀ tt kt z tv dv, Arv Z h tt kt (.object "java/util/HashMap$Node") z tv dv → tt ∉ [o] := fun tt kt z tv dv A => ninS (Exa.neArv X A wi).symm nin0
 have off : ∀ (tv : List Value) (n : Addr) (c : Int32) (b : EN), ENT Z h tv n c b → Off Z h [o] b := fun tv n c b M v nd L tl kl e => by
   subst e
   obtain ⟨-, h2, h3⟩ := M
   exact ⟨ninS (Exa.ne h2.1 X (fun q => q2 q.symm)) nin0, ninS (Exa.ne h3.1 X (fun q => q3 q.symm)) nin0, ninS (Exa.neArv X h3.2.2.2.2.1 wi).symm nin0⟩
 rcases id M with ⟨r1, r2, H⟩ | ⟨tt, kt, tv, sz, mc, H, r1, r2, r3, r4, r5⟩
 · exact M.keep K hm ht (fun _ _ _ _ _ e => by rw [r1] at e; cases e) (fun _ _ _ _ _ e => by rw [r2] at e; cases e)
 · exact M.keep K hm ht (off _ _ _ _ r4) (off _ _ _ _ r5)
theorem Key.keepX {Z : State} {h h' : Heap} {a0 : Array Value} {kk : Nat} {x o : Addr} {c0 : Int32} {C : String} (K : Keep h h' [o]) (X : Exa Z h o C) (q1 : C ≠ "java/lang/String") (wi : (Jvm.Cond.instantiable C kk).before a0 Z = true) (S : Key Z h x c0) : Key Z h' x c0 :=
 S.keep K (ninS (Exa.ne S.str.exa X (fun q => q1 q.symm)) nin0) (fun t F => by
   obtain ⟨k, n, us, dv, A⟩ := own_keyArv S.str F
   exact ninS (Exa.neArv X A wi).symm nin0)
theorem own_p303 (l : Launch) (Z : State) (a0 : Array Value) (hw : HW Z a0) (hEL : EW Z a0 consts_1) (z0 : Int32) (Sc : SC Z z0) (hz0 : ¬ z0 = 0) {p : Program} {e : Env} {s : State} {m : MethodId} {args : Array Value} {below : List Frame} {meth : Method} {c : Code} {S0 : State} {dc : Addr} {kd : ClassId} {es el em mr le : Addr} {kl : ClassId} (ST : Stt Z dc kd es el em mr le kl) {V : Vm} {cl sl : Nat} (hcl : cl + 12 ≤ 46) (hsl : sl + 100 ≤ 340) (h0 : Heap) (ag ta nm wn us0 g m0 x z : Addr) (cx cz : Int32) (vs : List Value) (HA : LL Z h0 dc ag ta vs) (X_x0 : Exa Z h0 x "java/lang/String") (X_z0 : Exa Z h0 z "java/lang/String") (tw0 : Addr) (ws : List Value) (HW : LL Z h0 dc wn tw0 ws) (hWO : Obs Z h0 em ws) (hVO : Obs Z h0 em vs) (tg : Addr) (gs : List Value) (bx bz : EN) (hin : Heap) (P : PS Z h0 hin dc em g tg gs m0 x z cx cz bx bz) (hz0' : Z.heap.size ≤ h0.size) (i lo n : Nat) (hlo : (lo = i + 1 ∧ i + 1 ≤ vs.length) ∨ (lo = vs.length ∧ i = vs.length)) (hln : lo + n = vs.length) (hgl : gs.length + n = ws.length) (l9 l10 l11 : Slot) (hl9 : l9 = .unset ∨ ∃ w, l9 = .val w ∧ w.category = 1) (hl10 : l10 = .unset ∨ ∃ w, l10 = .val w ∧ w.category = 1) (hl11 : l11 = .unset ∨ ∃ w, l11 = .val w ∧ w.category = 1)
   (w : Wk p l e (rM 11 46 340 3200) s m args below meth c Z a0 consts_1 S0 mN60 prog_16_method_3_code 12 (some (.object "com/example/keyturn/keyturn/Options")) V hin cl sl (mkF m 303 #[.val (.ref ag), .val (.ref nm), .val (.ref es), .val (.ref es), .val (.ref wn), .val (.ref us0), .val (.ref m0), .val (.ref g), .val (.int (Int32.ofNat i)), l9, l10, l11] [])) :
   Fini p e below s Z consts_1 S0 46 340 (fun v h => ∃ o ob, v = some (.ref o) ∧ Keep h0 h [x, z] ∧ OPp Z h o m0 ob ∧ OL Z h em el ob (gs ++ vs.drop lo) ∧ MP Z h0.size h m0 x z cx cz bx bz ∧ Key Z h x cx ∧ Key Z h z cz) := by
 obtain ⟨Sd, Dd, Xd, Ss, Xs, Fz, Sl, Xl, Fe0, Al0, Fn0, Se, Xe, Mr⟩ := id ST
 have hdc : dc < Z.heap.size := Dd.lt
 have hx0 := w.old
 have hl10' := HA.len
 have hw10 := HW.len
 have ei : Int32.ofNat i + (1 : Int32) = Int32.ofNat (i + 1) := own_add32 (a := i) (b := 1) (by omega)
 have hA1 := own_llS hw hdc P.1 X_x0 X_z0 HA
 obtain ⟨ma, ka, N, us, Frm, Fed, hN, hN10, A, X_t, hNv, hdrop⟩ := own_llv hx0 Dd Xd hA1
 have hdr := hdrop lo n hln
 have X_ag := hA1.exa
 have Fs := hA1.size
 have Fs' : Fld Z hin ag "java/util/ArrayList" "size" "I" (.int (Int32.ofNat (lo + n))) := by rw [hln]; exact Fs
 have hmin : (¬ Int32.ofNat vs.length < Int32.ofNat (i + 1) ∧ Int32.ofNat lo = Int32.ofNat (i + 1)) ∨ (Int32.ofNat vs.length < Int32.ofNat (i + 1) ∧ Int32.ofNat lo = Int32.ofNat vs.length) := by
   rcases hlo with ⟨q1, q2⟩ | ⟨q1, q2⟩
   · exact Or.inl ⟨fun z => absurd ((own_lt32 (by omega) (by omega)).mp z) (by omega), by rw [q1]⟩
   · exact Or.inr ⟨(own_lt32 (by omega) (by omega)).mpr (by omega), by rw [q1]⟩
 replace w := ((((w.aload (d23 81 rfl) rfl).aloadN (d23 82 rfl) rfl).iload (d23 83 rfl) rfl).iconst (1 : Int32) (d23 84 rfl)).iadd (pc' := 310) (d23 85 rfl)
 rw [ei] at w
 replace w := w.aloadN (pc' := 311) (d23 86 rfl) rfl
 obtain ⟨v1, V1, h1, hq1, A1, w⟩ := w.face (xi := mN87) (y' := mN15) (W := 3) (C := "java/util/ArrayList") (b := ag) (w.pays 3 (rmALs l Z a0 hw hEL ag _ hin w.old Fs) (wq hw 151 rfl) (wq hw 46 rfl) all0 nle nle) (wq hw 143 rfl) (wq hw 144 rfl) (wq hw 145 rfl) (wq hw 146 rfl) (wq hw 147 rfl) (wq hw 148 rfl) (wq hw 149 rfl) (wq hw 150 rfl) (argsL := []) (rest := [(.int (Int32.ofNat (i + 1))), (.ref ag), (.ref g)]) (by decide) (X_ag) pd_4 rfl rfl nlr rfl (d23 87 rfl) omr omr (pc' := 316)
 obtain ⟨rfl, he1⟩ := hq1
 replace w := w.toS [(.int (Int32.ofNat vs.length)), (.int (Int32.ofNat (i + 1))), (.ref ag), (.ref g)]
 replace he1 := he1.symm
 subst he1
 obtain ⟨v2, V2, h2, hq2, A2, w⟩ := w.static (y' := mN44) (W := 2) (w.pays 2 (rmMIN2 l Z a0 hw hEL (Int32.ofNat (i + 1)) (Int32.ofNat vs.length) (Int32.ofNat lo) hmin hin w.old) (wq hw 157 rfl) (wq hw 156 rfl) all0 nle nle) (wq hw 154 rfl) (wq hw 155 rfl) (wq hw 156 rfl) (wq hw 157 rfl) (argsL := [(.int (Int32.ofNat (i + 1))), (.int (Int32.ofNat vs.length))]) (rest := [(.ref ag), (.ref g)]) (by decide) pd_9 rfl rfl nlr rfl (d23 88 rfl) omr omr (pc' := 319)
 obtain ⟨rfl, he2⟩ := hq2
 replace w := w.toS [(.int (Int32.ofNat lo)), (.ref ag), (.ref g)]
 replace he2 := he2.symm
 subst he2
 replace w := w.aloadN (pc' := 320) (d23 89 rfl) rfl
 obtain ⟨v3, V3, h3, hq3, A3, w⟩ := w.face (xi := mN87) (y' := mN15) (W := 3) (C := "java/util/ArrayList") (b := ag) (w.pays 3 (rmALs l Z a0 hw hEL ag _ hin w.old Fs') (wq hw 151 rfl) (wq hw 46 rfl) all0 nle nle) (wq hw 143 rfl) (wq hw 144 rfl) (wq hw 145 rfl) (wq hw 146 rfl) (wq hw 147 rfl) (wq hw 148 rfl) (wq hw 149 rfl) (wq hw 150 rfl) (argsL := []) (rest := [(.int (Int32.ofNat lo)), (.ref ag), (.ref g)]) (by decide) (X_ag) pd_4 rfl rfl nlr rfl (d23 90 rfl) omr omr (pc' := 325)
 obtain ⟨rfl, he3⟩ := hq3
 replace w := w.toS [(.int (Int32.ofNat (lo + n))), (.int (Int32.ofNat lo)), (.ref ag), (.ref g)]
 replace he3 := he3.symm
 subst he3
 obtain ⟨v4, V4, h4, hq4, A4, w⟩ := w.face (xi := mN94) (y' := mN69) (W := 1) (C := "java/util/ArrayList") (b := ag) (w.pays 1 (rmSUB l Z a0 hw hEL ag lo n ma (by omega) hin w.old X_ag Fs' Frm) (wq hw 165 rfl) (wq hw 46 rfl) all0 nle nle) (wq hw 158 rfl) (wq hw 159 rfl) (wq hw 160 rfl) (wq hw 161 rfl) (wq hw 162 rfl) (wq hw 163 rfl) (wq hw 164 rfl) (wq hw 150 rfl) (argsL := [(.int (Int32.ofNat lo)), (.int (Int32.ofNat (lo + n)))]) (rest := [(.ref g)]) (by decide) (X_ag) pd_45 rfl rfl nlr rfl (d23 91 rfl) omr omr (pc' := 330)
 obtain ⟨sb, rfl, E4, gsb, TS⟩ := hq4
 replace w := w.toS [(.ref sb), (.ref g)]
 have P4 := P.ext E4
 have X_g := P4.2.1.exa
 have nga : g ≠ ag := Nat.ne_of_gt (Nat.lt_of_lt_of_le HA.exa.lt P.2.2.2.2.2.1)
 have hx4 := extT hx0 E4
 have ge_g_Z : Z.heap.size ≤ g := Nat.le_trans hz0' P.2.2.2.2.2.1
 have HI4 : ∀ u ∈ (us.drop lo).take n, ∃ x, u = .ref x ∧ Ins Z h4 x "java/lang/Object" true := fun u hu => by
   rw [hdr] at hu
   obtain ⟨y, e, I, -⟩ := hVO u (List.mem_of_mem_drop hu)
   exact ⟨y, e, (own_insKeep P.1 I).ext E4⟩
 obtain ⟨v5, V5, h5, hq5, A5, w⟩ := w.face (xi := mN95) (y' := mN73) (W := 0) (C := "java/util/ArrayList") (b := g) (w.pays 0 (rmADAg l Z a0 hw hEL ST g tg gs sb ag ta ka ma N us hN hN10 lo n (by omega) (by omega) h4 w.old TS (Frm.ext E4) (Fed.ext E4) (A.ext E4) (X_t.ext E4) HI4 ge_g_Z P4.2.1 nga) (wq hw 200 rfl) (wq hw 46 rfl) all0 nle nle) (wq hw 193 rfl) (wq hw 194 rfl) (wq hw 195 rfl) (wq hw 196 rfl) (wq hw 197 rfl) (wq hw 198 rfl) (wq hw 199 rfl) (wq hw 150 rfl) (argsL := [(.ref sb)]) (rest := []) (by decide) (X_g) pd_46 rfl rfl nlr rfl (d23 92 rfl) omr omr (pc' := 335)
 obtain ⟨zz, t', t2, rfl, q2, K5, q3, T'⟩ := hq5
 replace w := w.toS [(.int zz)]
 have hO5 : Obs Z h5 em (gs ++ (us.drop lo).take n) := fun u hu => by
   rcases List.mem_append.mp hu with q | q
   · exact P4.2.2.2.2.2.2.2.2.2.2.keep K5 u q
   · rw [hdr] at q
     obtain ⟨y, e, I, ne⟩ := hVO u (List.mem_of_mem_drop q)
     exact ⟨y, e, own_insKeep K5 ((own_insKeep P.1 I).ext E4), ne⟩
 have P5 := P4.add hw hx4 hz0' Dd q2 K5 q3 T' hO5
 rw [hdr] at P5
 have X_g := P5.2.1.exa
 have HW5 := own_llS hw hdc P5.1 X_x0 X_z0 HW
 have X_wn := HW5.exa
 have Fw5' := HW5.size
 have hlen5 : (gs ++ vs.drop lo).length = ws.length := by rw [List.length_append, List.length_drop]; omega
 have Fg5 := P5.2.1.size
 rw [hlen5] at Fg5
 replace w := (w.pop (d23 93 rfl)).aload (pc' := 338) (d23 94 rfl) rfl
 obtain ⟨v6, V6, h6, hq6, A6, w⟩ := w.face (xi := mN87) (y' := mN15) (W := 0) (C := "java/util/ArrayList") (b := g) (w.pays 0 (rmALs l Z a0 hw hEL g _ h5 w.old Fg5) (wq hw 151 rfl) (wq hw 46 rfl) all0 nle nle) (wq hw 143 rfl) (wq hw 144 rfl) (wq hw 145 rfl) (wq hw 146 rfl) (wq hw 147 rfl) (wq hw 148 rfl) (wq hw 149 rfl) (wq hw 150 rfl) (argsL := []) (rest := []) (by decide) (X_g) pd_4 rfl rfl nlr rfl (d23 95 rfl) omr omr (pc' := 343)
 obtain ⟨rfl, he6⟩ := hq6
 replace w := w.toS [(.int (Int32.ofNat ws.length))]
 replace he6 := he6.symm
 subst he6
 replace w := w.aload (pc' := 345) (d23 96 rfl) rfl
 obtain ⟨v7, V7, h7, hq7, A7, w⟩ := w.face (xi := mN87) (y' := mN15) (W := 1) (C := "java/util/ArrayList") (b := wn) (w.pays 1 (rmALs l Z a0 hw hEL wn _ h5 w.old Fw5') (wq hw 151 rfl) (wq hw 46 rfl) all0 nle nle) (wq hw 143 rfl) (wq hw 144 rfl) (wq hw 145 rfl) (wq hw 146 rfl) (wq hw 147 rfl) (wq hw 148 rfl) (wq hw 149 rfl) (wq hw 150 rfl) (argsL := []) (rest := [(.int (Int32.ofNat ws.length))]) (by decide) (X_wn) pd_4 rfl rfl nlr rfl (d23 97 rfl) omr omr (pc' := 350)
 obtain ⟨rfl, he7⟩ := hq7
 replace w := w.toS [(.int (Int32.ofNat ws.length)), (.int (Int32.ofNat ws.length))]
 replace he7 := he7.symm
 subst he7
 replace w := (w.icmpYes (pc' := 385) (d23 98 rfl) ((flt Int32.lt_irrefl).2.2.2)).aload (pc' := 387) (d23 99 rfl) rfl
 obtain ⟨v8, V8, h8, hq8, A8, w⟩ := w.face (xi := mN87) (y' := mN15) (W := 0) (C := "java/util/ArrayList") (b := g) (w.pays 0 (rmALs l Z a0 hw hEL g _ h5 w.old Fg5) (wq hw 151 rfl) (wq hw 46 rfl) all0 nle nle) (wq hw 143 rfl) (wq hw 144 rfl) (wq hw 145 rfl) (wq hw 146 rfl) (wq hw 147 rfl) (wq hw 148 rfl) (wq hw 149 rfl) (wq hw 150 rfl) (argsL := []) (rest := []) (by decide) (X_g) pd_4 rfl rfl nlr rfl (d23 100 rfl) omr omr (pc' := 392)
 obtain ⟨rfl, he8⟩ := hq8
 replace w := w.toS [(.int (Int32.ofNat ws.length))]
 replace he8 := he8.symm
 subst he8
 replace w := w.aload (pc' := 394) (d23 101 rfl) rfl
 obtain ⟨v9, V9, h9, hq9, A9, w⟩ := w.face (xi := mN87) (y' := mN15) (W := 1) (C := "java/util/ArrayList") (b := wn) (w.pays 1 (rmALs l Z a0 hw hEL wn _ h5 w.old Fw5') (wq hw 151 rfl) (wq hw 46 rfl) all0 nle nle) (wq hw 143 rfl) (wq hw 144 rfl) (wq hw 145 rfl) (wq hw 146 rfl) (wq hw 147 rfl) (wq hw 148 rfl) (wq hw 149 rfl) (wq hw 150 rfl) (argsL := []) (rest := [(.int (Int32.ofNat ws.length))]) (by decide) (X_wn) pd_4 rfl rfl nlr rfl (d23 102 rfl) omr omr (pc' := 399)
 obtain ⟨rfl, he9⟩ := hq9
 replace w := w.toS [(.int (Int32.ofNat ws.length)), (.int (Int32.ofNat ws.length))]
 replace he9 := he9.symm
 subst he9
 replace w := w.icmpYes (pc' := 434) (d23 103 rfl) ((flt Int32.lt_irrefl).2.1)
 have BZ := w.old
 have B0 := extR h5
 obtain ⟨h10, o, g_o, E10, X_o, D_o, S_o, A10, w⟩ := w.new (wq hw 238 rfl) (wq hw 239 rfl) (wq hw 115 rfl) (d23 104 rfl) omr omr (pc' := 437)
 have ge_o_Z : Z.heap.size ≤ o := Nat.le_trans BZ.1 (Nat.le_of_eq g_o.symm)
 have ge_o_0 : h5.size ≤ o := Nat.le_trans B0.1 (Nat.le_of_eq g_o.symm)
 have F_o_values := D_o (Or.inr (wq hw 271 rfl)) (ty := (.object "java/util/Map")) (by decide)
 have F_o_operands := D_o (Or.inr (wq hw 273 rfl)) (ty := (.object "java/util/List")) (by decide)
 have F_o_operandNames := D_o (Or.inr (wq hw 275 rfl)) (ty := (.object "java/util/List")) (by decide)
 have F_o_usage := D_o (Or.inr (wq hw 277 rfl)) (ty := (.object "java/lang/String")) (by decide)
 have B0 := extT B0 E10
 have P6 := P5.ext B0
 have HW6 := HW5.ext B0
 replace w := ((w.dup (d23 105 rfl)).aload (d23 106 rfl) rfl).aload (pc' := 442) (d23 107 rfl) rfl
 obtain ⟨v11, V11, h11, hq11, A11, w⟩ := w.static (y' := mN66) (W := 3) (w.pays 3 (rmLCO l Z a0 hw hEL ST g t' _ h10 w.old P6.2.1 P6.2.2.2.2.2.2.2.2.2.2) (wq hw 243 rfl) (wq hw 242 rfl) all0 nle nle) (wq hw 240 rfl) (wq hw 241 rfl) (wq hw 242 rfl) (wq hw 243 rfl) (argsL := [(.ref g)]) (rest := [(.ref m0), (.ref o), (.ref o)]) (by decide) pd_27 rfl rfl nlr rfl (d23 108 rfl) omr omr (pc' := 445)
 obtain ⟨ob, rfl, E11, TO⟩ := hq11
 replace w := w.toS [(.ref ob), (.ref m0), (.ref o), (.ref o)]
 have B0 := extT B0 E11
 have E_a := E11
 have HWo : Obs Z h11 em ws := (((hWO.keep P5.1).ext B0) : Obs Z _ em ws)
 replace w := w.aload (pc' := 447) (d23 109 rfl) rfl
 obtain ⟨v12, V12, h12, hq12, A12, w⟩ := w.static (y' := mN66) (W := 4) (w.pays 4 (rmLCO l Z a0 hw hEL ST wn tw0 ws h11 w.old (HW6.ext E_a) HWo) (wq hw 243 rfl) (wq hw 242 rfl) all0 nle nle) (wq hw 240 rfl) (wq hw 241 rfl) (wq hw 242 rfl) (wq hw 243 rfl) (argsL := [(.ref wn)]) (rest := [(.ref ob), (.ref m0), (.ref o), (.ref o)]) (by decide) pd_27 rfl rfl nlr rfl (d23 110 rfl) omr omr (pc' := 450)
 obtain ⟨nb, rfl, E12, TO2⟩ := hq12
 replace w := w.toS [(.ref nb), (.ref ob), (.ref m0), (.ref o), (.ref o)]
 have E_b := E12
 replace w := w.aload (pc' := 452) (d23 111 rfl) rfl
 have X_o3 := (X_o.ext E_a).ext E_b
 obtain ⟨v13, V13, h13, hq13, A13, w⟩ := w.ctor (y' := mN93) (W := 1) (a := o) (w.pays 1 (rmOPi l Z a0 hw hEL o m0 ob nb us0 h12 w.old X_o3 ((F_o_values.ext E_a).ext E_b) ((F_o_operands.ext E_a).ext E_b) ((F_o_operandNames.ext E_a).ext E_b) ((F_o_usage.ext E_a).ext E_b) ge_o_Z) (wq hw 268 rfl) (wq hw 115 rfl) all0 nle nle) rfl (wq hw 266 rfl) (wq hw 267 rfl) (wq hw 268 rfl) (argsL := [(.ref m0), (.ref ob), (.ref nb), (.ref us0)]) (rest := [(.ref o)]) (by decide) pd_47 rfl rfl nlr rfl (d23 112 rfl) omr omr (pc' := 455)
 obtain ⟨rfl, KO, TP⟩ := hq13
 replace w := w.toS [(.ref o)]
 have P7 := (P6.ext E_a).ext E_b
 have h0o : h0.size ≤ o := Nat.le_trans P5.1.1 ge_o_0
 exact w.retA (d23 113 rfl) ⟨o, ob, rfl, P7.1.trans KO (allS (Or.inr h0o) all0), TP, (TO.ext E_b).imp id (fun q => q.keepX KO X_o3 (by decide) (by decide) (wq hw 239 rfl)), P7.2.2.1.keepX KO X_o3 (by decide) (by decide) (by decide) (wq hw 239 rfl), P7.2.2.2.1.keepX KO X_o3 (by decide) (wq hw 239 rfl), P7.2.2.2.2.1.keepX KO X_o3 (by decide) (wq hw 239 rfl)⟩ omr omr
abbrev IT := Sum (Addr × List Int32) (Bool × Addr × List Int32)
def own_flat (x z : Addr) : List IT → List Value
 | [] => []
 | .inl (o, _) :: r => .ref o :: own_flat x z r
 | .inr (i, v, _) :: r => .ref (if i = true then z else x) :: .ref v :: own_flat x z r
def own_cost : List IT → Nat
 | [] => 0
 | .inl _ :: r => 5 + own_cost r
 | .inr _ :: r => 10 + own_cost r
def own_slt : List IT → Nat
 | [] => 0
 | .inl _ :: r => 34 + own_slt r
 | .inr _ :: r => 69 + own_slt r
def own_ops : List IT → Nat
 | [] => 0
 | .inl _ :: r => 1 + own_ops r
 | .inr _ :: r => own_ops r
def own_once : Bool → Bool → List IT → Prop
 | _, _, [] => True
 | a, b, .inl _ :: r => own_once a b r
 | a, b, .inr (false, _, _) :: r => a = false ∧ own_once true b r
 | a, b, .inr (true, _, _) :: r => b = false ∧ own_once a true r
def own_run : List Value → Option Addr → Option Addr → List IT → List Value × Option Addr × Option Addr
 | gs, a, b, [] => (gs, a, b)
 | gs, a, b, .inl (o, _) :: r => own_run (gs ++ [.ref o]) a b r
 | gs, a, b, .inr (false, v, _) :: r => own_run gs (some v) b r
 | gs, a, b, .inr (true, v, _) :: r => own_run gs a (some v) r
def own_iok (Z : State) (h0 : Heap) : List IT → Prop
 | [] => True
 | .inl (o, cs) :: r => (Str Z h0 o cs ∧ cs.length ≤ 1) ∧ own_iok Z h0 r
 | .inr (_, o, cs) :: r => (Str Z h0 o cs ∧ cs.length ≤ 1) ∧ own_iok Z h0 r
theorem own_getA {d : List Value} (u : Value) (r : List Value) : (d ++ u :: r).getD d.length .null = u := by
 rw [List.getD_eq_getElem?_getD, List.getElem?_append_right (Nat.le_refl _), Nat.sub_self]; rfl
theorem own_getB {d : List Value} (u v : Value) (r : List Value) : (d ++ u :: v :: r).getD (d.length + 1) .null = v := by
 rw [List.getD_eq_getElem?_getD, List.getElem?_append_right (by omega), Nat.add_sub_cancel_left]; rfl
/-- what the parse returns -/
def FQ (Z : State) (h0 : Heap) (em el m0 x z : Addr) (cx cz : Int32) (tail : List Value) (v : Option Value) (h : Heap) (r : List Value × Option Addr × Option Addr) : Prop :=
 ∃ o ob bx bz, v = some (.ref o) ∧ Keep h0 h [x, z] ∧ OPp Z h o m0 ob ∧ OL Z h em el ob (r.1 ++ tail) ∧ MP Z h0.size h m0 x z cx cz bx bz ∧ bx.map (·.1) = r.2.1 ∧ bz.map (·.1) = r.2.2 ∧ Key Z h x cx ∧ Key Z h z cz
theorem own_loop (l : Launch) (Z : State) (a0 : Array Value) (hw : HW Z a0) (hEL : EW Z a0 consts_1) (z0 : Int32) (Sc : SC Z z0) (hz0 : ¬ z0 = 0) {p : Program} {e : Env} {s : State} {m : MethodId} {args : Array Value} {below : List Frame} {meth : Method} {c : Code} {S0 : State} {dc : Addr} {kd : ClassId} {es el em mr le : Addr} {kl : ClassId} (ST : Stt Z dc kd es el em mr le kl) {f : Addr} {cK cS : ClassId} {methk : Method} {ck : Code} (LF : Lam Z f cK cS methk ck) (h0 : Heap) (ag ta nm wn us0 g m0 x z : Addr) (cx cz : Int32) (vs : List Value) (HA : LL Z h0 dc ag ta vs) (X_x0 : Exa Z h0 x "java/lang/String") (X_z0 : Exa Z h0 z "java/lang/String") (hxz : x ≠ z) (hbin : own_bin cx ≠ own_bin cz) (HN : SE2 Z h0 nm x z) (hnm : Z.methodNamed? mN60 = some m) (tw0 : Addr) (ws : List Value) (HW : LL Z h0 dc wn tw0 ws) (hWO : Obs Z h0 em ws) (hVO : Obs Z h0 em vs) (hz0' : Z.heap.size ≤ h0.size) (Sx0 : Str Z h0 x [45, 45, cx]) (Sz0 : Str Z h0 z [45, 45, cz]) (rest tail : List Value) (hrest : (rest = [] ∧ tail = []) ∨ ∃ y, rest = .ref y :: tail ∧ Str Z h0 y [45, 45]) :
   ∀ (items : List IT) (done gs : List Value) (bx bz : EN) (tg : Addr) (hin : Heap) (V : Vm) (cl sl : Nat) (l9 l10 l11 : Slot) (hl9 : l9 = .unset ∨ ∃ w, l9 = .val w ∧ w.category = 1) (hl10 : l10 = .unset ∨ ∃ w, l10 = .val w ∧ w.category = 1) (hl11 : l11 = .unset ∨ ∃ w, l11 = .val w ∧ w.category = 1), vs = done ++ (own_flat x z items ++ rest) → own_iok Z h0 items → own_once bx.isSome bz.isSome items → cl + own_cost items + 14 ≤ 46 → sl + own_slt items + 112 ≤ 340 → gs.length + own_ops items + tail.length = ws.length → PS Z h0 hin dc em g tg gs m0 x z cx cz bx bz →
     Wk p l e (rM 11 46 340 3200) s m args below meth c Z a0 consts_1 S0 mN60 prog_16_method_3_code 12 (some (.object "com/example/keyturn/keyturn/Options")) V hin cl sl (mkF m 21 #[.val (.ref ag), .val (.ref nm), .val (.ref es), .val (.ref es), .val (.ref wn), .val (.ref us0), .val (.ref m0), .val (.ref g), .val (.int (Int32.ofNat done.length)), l9, l10, l11] []) → Fini p e below s Z consts_1 S0 46 340 (fun v h => FQ Z h0 em el m0 x z cx cz tail v h (own_run gs (bx.map (·.1)) (bz.map (·.1)) items)) := by
 have hl10' := HA.len
 have hw10 := HW.len
 intro items
 induction items with
 | nil =>
   intro done gs bx bz tg hin V cl sl l9 l10 l11 hl9 hl10 hl11 hvs hok honce hcl hsl hgl P w
   obtain ⟨Sd, Dd, Xd, Ss, Xs, Fz, Sl, Xl, Fe0, Al0, Fn0, Se, Xe, Mr⟩ := id ST
   have hdc : dc < Z.heap.size := Dd.lt
   have hx0 := w.old
   have hstr := own_hstr hw
   have hwe := own_wordsEq hw
   simp only [own_cost, own_slt, own_ops] at hcl hsl hgl
   have hA1 := own_llS hw hdc P.1 X_x0 X_z0 HA
   have X_ag := hA1.exa
   have Fs := hA1.size
   rcases hrest with ⟨rfl, rfl⟩ | ⟨y, rfl, Uy⟩
   · have hvd : vs = done := by rw [hvs]; simp [own_flat]
     replace w := (w.iload (d23 0 rfl) rfl).aloadN (pc' := 24) (d23 1 rfl) rfl
     obtain ⟨v1, V1, h1, hq1, A1, w⟩ := w.face (xi := mN87) (y' := mN15) (W := 1) (C := "java/util/ArrayList") (b := ag) (w.pays 1 (rmALs l Z a0 hw hEL ag _ hin w.old Fs) (wq hw 151 rfl) (wq hw 46 rfl) all0 nle nle) (wq hw 143 rfl) (wq hw 144 rfl) (wq hw 145 rfl) (wq hw 146 rfl) (wq hw 147 rfl) (wq hw 148 rfl) (wq hw 149 rfl) (wq hw 150 rfl) (argsL := []) (rest := [(.int (Int32.ofNat done.length))]) (by decide) (X_ag) pd_4 rfl rfl nlr rfl (d23 2 rfl) omr omr (pc' := 29)
     obtain ⟨rfl, he1⟩ := hq1
     replace w := w.toS [(.int (Int32.ofNat vs.length)), (.int (Int32.ofNat done.length))]
     replace he1 := he1.symm
     subst he1
     replace w := w.icmpYes (pc' := 303) (d23 3 rfl) ((flt (by rw [hvd]; exact Int32.lt_irrefl)).2.1)
     refine (own_p303 l Z a0 hw hEL z0 Sc hz0 ST (by omega) (by omega) h0 ag ta nm wn us0 g m0 x z cx cz vs HA X_x0 X_z0 tw0 ws HW hWO hVO tg gs bx bz _ P hz0' done.length done.length 0 (Or.inr ⟨by rw [hvd], by rw [hvd]⟩) (by rw [hvd]; rfl) (by simpa using hgl) l9 l10 l11 hl9 hl10 hl11 (w.more omr omr)).mono fun v h q => ?_
     obtain ⟨o, ob, q1, q2, q3, q4, q5, q6, q7⟩ := q
     have e0 : vs.drop done.length = [] := by rw [hvd]; simp
     rw [e0] at q4
     exact ⟨o, ob, bx, bz, q1, q2, q3, q4, q5, rfl, rfl, q6, q7⟩
   · have hi : done.length < vs.length := by rw [hvs]; simp [own_flat]
     have hv : vs.getD done.length .null = .ref y := by rw [hvs]; exact own_getA _ _
     obtain ⟨-, -, ka, ma, TA⟩ := hA1.resolve_left (fun q => by rw [q.2.1] at hi; simp at hi)
     have hyx := own_strNe Uy Sx0 (by simp) (by simp) (by simp)
     have hyz := own_strNe Uy Sz0 (by simp) (by simp) (by simp)
     have U1 := own_strS hw P.1 X_x0 X_z0 hyx hyz Uy
     have X_y := U1.exa
     replace w := (w.iload (d23 0 rfl) rfl).aloadN (pc' := 24) (d23 1 rfl) rfl
     obtain ⟨v1, V1, h1, hq1, A1, w⟩ := w.face (xi := mN87) (y' := mN15) (W := 1) (C := "java/util/ArrayList") (b := ag) (w.pays 1 (rmALs l Z a0 hw hEL ag _ hin w.old Fs) (wq hw 151 rfl) (wq hw 46 rfl) all0 nle nle) (wq hw 143 rfl) (wq hw 144 rfl) (wq hw 145 rfl) (wq hw 146 rfl) (wq hw 147 rfl) (wq hw 148 rfl) (wq hw 149 rfl) (wq hw 150 rfl) (argsL := []) (rest := [(.int (Int32.ofNat done.length))]) (by decide) (X_ag) pd_4 rfl rfl nlr rfl (d23 2 rfl) omr omr (pc' := 29)
     obtain ⟨rfl, he1⟩ := hq1
     replace w := w.toS [(.int (Int32.ofNat vs.length)), (.int (Int32.ofNat done.length))]
     replace he1 := he1.symm
     subst he1
     replace w := ((w.icmpNo (pc' := 32) (d23 3 rfl) ((tlt ((own_lt32 (by omega) (by omega)).mpr hi)).2.1)).aloadN (d23 4 rfl) rfl).iload (pc' := 35) (d23 5 rfl) rfl
     obtain ⟨v2, V2, h2, hq2, A2, w⟩ := w.face (xi := mN88) (y' := mN20) (W := 0) (C := "java/util/ArrayList") (b := ag) (w.pays 0 (rmALg l Z a0 hw hEL ag ta ka vs ma (by omega) done.length hi y hv hin w.old TA) (wq hw 367 rfl) (wq hw 46 rfl) all0 nle nle) (wq hw 360 rfl) (wq hw 361 rfl) (wq hw 362 rfl) (wq hw 363 rfl) (wq hw 364 rfl) (wq hw 365 rfl) (wq hw 366 rfl) (wq hw 150 rfl) (argsL := [(.int (Int32.ofNat done.length))]) (rest := []) (by decide) (X_ag) pd_10 rfl rfl nlr rfl (d23 6 rfl) omr omr (pc' := 40)
     obtain ⟨rfl, he2⟩ := hq2
     replace w := w.toS [(.ref y)]
     replace he2 := he2.symm
     subst he2
     replace w := w.cast (wq hw 380 rfl) (Ins.self X_y) (d23 7 rfl) (pc' := 43)
     obtain ⟨y3, V3, h3, E3, T_y3, N_y3, A3, w⟩ := w.ldcT [(45 : Int32), (45 : Int32)] 8 (text := "--") (wq hw 381 rfl) hstr (by decide) (by decide) (by decide) (by decide) (by decide) (by decide) (d23 8 rfl) (by decide) (by decide) omr omr (pc' := 45)
     have U2 := U1.ext E3
     have X_y := U2.exa
     obtain ⟨v4, V4, h4, hq4, A4, w⟩ := w.virt (y' := mN11) (W := 0) (C := "java/lang/String") (b := y) (w.payEq (W := 0) hwe (wq hw 1 rfl) U2 T_y3 Sc hz0 (by decide) (by decide) nle nle) (wq hw 382 rfl) (wq hw 383 rfl) (wq hw 384 rfl) (wq hw 101 rfl) (argsL := [(.ref y3)]) (rest := []) (by decide) X_y pd_15 rfl rfl nlr rfl (d23 9 rfl) omr omr (pc' := 48)
     obtain ⟨hv4, he4⟩ := hq4
     replace he4 := he4.symm
     subst he4
     rcases hv4 with ⟨rfl, -⟩ | ⟨-, hc⟩
     rotate_left
     · exact absurd rfl hc
     replace w := (w.toS [(.int (1 : Int32))]).ifYes (pc' := 303) (d23 10 rfl) (by decide)
     refine (own_p303 l Z a0 hw hEL z0 Sc hz0 ST (by omega) (by omega) h0 ag ta nm wn us0 g m0 x z cx cz vs HA X_x0 X_z0 tw0 ws HW hWO hVO tg gs bx bz _ (P.ext E3) hz0' done.length (done.length + 1) tail.length (Or.inl ⟨rfl, hi⟩) (by rw [hvs]; simp [own_flat]; omega) (by simpa using hgl) l9 l10 l11 hl9 hl10 hl11 (w.more (cl' := cl + 2) (sl' := sl + 12) omr omr)).mono fun v h q => ?_
     obtain ⟨o, ob, q1, q2, q3, q4, q5, q6, q7⟩ := q
     have e0 : vs.drop (done.length + 1) = tail := by rw [hvs]; simp [own_flat]
     rw [e0] at q4
     exact ⟨o, ob, bx, bz, q1, q2, q3, q4, q5, rfl, rfl, q6, q7⟩
 | cons it items ih =>
   intro done gs bx bz tg hin V cl sl l9 l10 l11 hl9 hl10 hl11 hvs hok honce hcl hsl hgl P w
   match it, hvs, hok, honce, hcl, hsl, hgl with
   | .inl (o, cs), hvs, hok, honce, hcl, hsl, hgl =>
     obtain ⟨⟨Uo, hcs⟩, hok⟩ := hok
     simp only [own_cost, own_slt, own_ops, own_flat] at hcl hsl hgl hvs
     have hi : done.length < vs.length := by rw [hvs]; simp
     have hv : vs.getD done.length .null = .ref o := by rw [hvs]; exact own_getA _ _
     have hox := own_strNe Uo Sx0 (by omega) (by simp) (by simp; omega)
     have hoz := own_strNe Uo Sz0 (by omega) (by simp) (by simp; omega)
     refine own_op l Z a0 hw hEL z0 Sc hz0 ST (by omega) (by omega) h0 ag ta nm wn us0 g m0 x z cx cz vs HA X_x0 X_z0 tg gs (by omega) bx bz hin P hz0' done.length hi o cs hv hcs Uo hox hoz l9 l10 l11 hl9 hl10 hl11 _ w (fun V' h' tg' P' w' => ?_)
     have := ih (done ++ [.ref o]) (gs ++ [.ref o]) bx bz tg' h' V' (cl + 5) (sl + 34) (.val (.ref o)) l10 l11 (Or.inr ⟨_, rfl, rfl⟩) hl10 hl11 (by rw [hvs]; simp) hok honce (by omega) (by omega) (by rw [List.length_append]; simp; omega) P' (by rw [List.length_append]; exact w')
     exact this
   | .inr (false, v0, cs), hvs, hok, honce, hcl, hsl, hgl =>
     obtain ⟨⟨Uo, hcs⟩, hok⟩ := hok
     obtain ⟨hb, honce2⟩ := honce
     simp only [own_cost, own_slt, own_ops, own_flat] at hcl hsl hgl hvs
     have hi : done.length + 1 < vs.length := by rw [hvs]; simp
     have hv : vs.getD done.length .null = .ref x := by rw [hvs]; exact own_getA _ _
     have hv2 : vs.getD (done.length + 1) .null = .ref v0 := by rw [hvs]; exact own_getB _ _ _
     have hox := own_strNe Uo Sx0 (by omega) (by simp) (by simp; omega)
     have hoz := own_strNe Uo Sz0 (by omega) (by simp) (by simp; omega)
     cases bx with
     | some q => cases hb
     | none =>
     refine own_opt l Z a0 hw hEL z0 Sc hz0 ST LF (by omega) (by omega) h0 ag ta nm wn us0 g m0 x z cx cz vs HA X_x0 X_z0 hxz hbin x z cx cz (Or.inl ⟨rfl, rfl, rfl, rfl⟩) HN hnm tg gs bz hin P hz0' done.length hi v0 cs hv hv2 hcs Uo hox hoz l9 l10 l11 hl9 hl10 hl11 _ w (fun V' h' nd L tl kl P' w' => ?_)
     have := ih (done ++ [.ref x, .ref v0]) gs (some (v0, nd, L, tl, kl)) bz tg h' V' (cl + 10) (sl + 69) (.val (.ref x)) (.val (.int 0)) (.val (.ref L)) (Or.inr ⟨_, rfl, rfl⟩) (Or.inr ⟨_, rfl, rfl⟩) (Or.inr ⟨_, rfl, rfl⟩) (by rw [hvs]; simp) hok honce2 (by omega) (by omega) (by omega) P' (by rw [List.length_append]; exact w')
     exact this
   | .inr (true, v0, cs), hvs, hok, honce, hcl, hsl, hgl =>
     obtain ⟨⟨Uo, hcs⟩, hok⟩ := hok
     obtain ⟨hb, honce2⟩ := honce
     simp only [own_cost, own_slt, own_ops, own_flat] at hcl hsl hgl hvs
     have hi : done.length + 1 < vs.length := by rw [hvs]; simp
     have hv : vs.getD done.length .null = .ref z := by rw [hvs]; exact own_getA _ _
     have hv2 : vs.getD (done.length + 1) .null = .ref v0 := by rw [hvs]; exact own_getB _ _ _
     have hox := own_strNe Uo Sx0 (by omega) (by simp) (by simp; omega)
     have hoz := own_strNe Uo Sz0 (by omega) (by simp) (by simp; omega)
     cases bz with
     | some q => cases hb
     | none =>
     refine own_opt l Z a0 hw hEL z0 Sc hz0 ST LF (by omega) (by omega) h0 ag ta nm wn us0 g m0 z x cz cx vs HA X_z0 X_x0 hxz.symm hbin.symm x z cx cz (Or.inr ⟨rfl, rfl, rfl, rfl⟩) HN hnm tg gs bx hin P.swap hz0' done.length hi v0 cs hv hv2 hcs Uo hoz hox l9 l10 l11 hl9 hl10 hl11 _ w (fun V' h' nd L tl kl P' w' => ?_)
     have := ih (done ++ [.ref z, .ref v0]) gs bx (some (v0, nd, L, tl, kl)) tg h' V' (cl + 10) (sl + 69) (.val (.ref z)) (.val (.int 0)) (.val (.ref L)) (Or.inr ⟨_, rfl, rfl⟩) (Or.inr ⟨_, rfl, rfl⟩) (Or.inr ⟨_, rfl, rfl⟩) (by rw [hvs]; simp) hok honce2 (by omega) (by omega) (by omega) P'.swap (by rw [List.length_append]; exact w')
     exact this
theorem own_mtl {Z : State} {a0 : Array Value} (hw : HW Z a0) : RoadKit.slotOf Z "java/util/HashMap" "table" "[Ljava/util/HashMap$Node;" ≠ RoadKit.slotOf Z "java/util/HashMap" "loadFactor" "F" := slot_ne (C := "java/util/HashMap") (Or.inl (wq hw 298 rfl)) (Or.inr (wq hw 140 rfl)) (by decide) (t := (.array (.object "java/util/HashMap$Node"))) (t' := .float) (by decide) (by decide)
theorem own_msl {Z : State} {a0 : Array Value} (hw : HW Z a0) : RoadKit.slotOf Z "java/util/HashMap" "size" "I" ≠ RoadKit.slotOf Z "java/util/HashMap" "loadFactor" "F" := slot_ne (C := "java/util/HashMap") (Or.inl (wq hw 469 rfl)) (Or.inr (wq hw 140 rfl)) (by decide) (t := .int) (t' := .float) (by decide) (by decide)
theorem own_mul {Z : State} {a0 : Array Value} (hw : HW Z a0) : RoadKit.slotOf Z "java/util/HashMap" "threshold" "I" ≠ RoadKit.slotOf Z "java/util/HashMap" "loadFactor" "F" := slot_ne (C := "java/util/HashMap") (Or.inl (wq hw 471 rfl)) (Or.inr (wq hw 140 rfl)) (by decide) (t := .int) (t' := .float) (by decide) (by decide)
theorem own_mcl {Z : State} {a0 : Array Value} (hw : HW Z a0) : RoadKit.slotOf Z "java/util/HashMap" "modCount" "I" ≠ RoadKit.slotOf Z "java/util/HashMap" "loadFactor" "F" := slot_ne (C := "java/util/HashMap") (Or.inl (wq hw 480 rfl)) (Or.inr (wq hw 140 rfl)) (by decide) (t := .int) (t' := .float) (by decide) (by decide)
theorem rmPA6 (l : Launch) (Z : State) (a0 : Array Value) (hw : HW Z a0) (hEL : EW Z a0 consts_1) (z0 : Int32) (Sc : SC Z z0) (hz0 : ¬ z0 = 0) {dc : Addr} {kd : ClassId} {es el em mr le : Addr} {kl : ClassId} (ST : Stt Z dc kd es el em mr le kl) {f : Addr} {cK cS : ClassId} {methk : Method} {ck : Code} (LF : Lam Z f cK cS methk ck) (ag ta nm wn us0 x z : Addr) (cx cz : Int32) (vs : List Value) (hxz : x ≠ z) (hbin : own_bin cx ≠ own_bin cz) (tw0 : Addr) (ws : List Value) (rest tail : List Value) (items : List IT) (hvs : vs = own_flat x z items ++ rest) (honce : own_once false false items) (hcost : own_cost items ≤ 30) (hslt : own_slt items ≤ 210) (hops : own_ops items + tail.length = ws.length) (h0 : Heap) (hx : Ext Z.heap h0) (HA : LL Z h0 dc ag ta vs) (HN : SE2 Z h0 nm x z) (HW : LL Z h0 dc wn tw0 ws) (hWO : Obs Z h0 em ws) (hVO : Obs Z h0 em vs) (Sx : Key Z h0 x cx) (Sz : Key Z h0 z cz) (hrest : (rest = [] ∧ tail = []) ∨ ∃ y, rest = .ref y :: tail ∧ Str Z h0 y [45, 45]) (hok : own_iok Z h0 items) :
   Met l Z consts_1 mN60 prog_16_method_3_code 12 (some (.object "com/example/keyturn/keyturn/Options")) [] (rM 11 46 340 3200) #[.ref ag, .ref nm, .ref es, .ref es, .ref wn, .ref us0] h0 [] (fun v h => ∃ m0, FQ Z h0 em el m0 x z cx cz tail v h (own_run [] none none items)) := by
 obtain ⟨Sd, Dd, Xd, Ss, Xs, Fz, Sl, Xl, Fe0, Al0, Fn0, Se, Xe, Mr⟩ := id ST
 refine Met.ofN (a0 := a0) (by decide +kernel) hEL hx ?_
 intro p e s m below meth c S0 V w hs hsf hnm
 replace w := w.to (g' := mkF m 0 #[.val (.ref ag), .val (.ref nm), .val (.ref es), .val (.ref es), .val (.ref wn), .val (.ref us0), .unset, .unset, .unset, .unset, .unset, .unset] [])
 have BZ := w.old
 have B0 := extR h0
 obtain ⟨h1, m0, g_m0, E1, X_m0, D_m0, S_m0, A1, w⟩ := w.new (wq hw 125 rfl) (wq hw 126 rfl) (wq hw 127 rfl) (d23 114 rfl) nle nle (pc' := 3)
 have ge_m0_Z : Z.heap.size ≤ m0 := Nat.le_trans BZ.1 (Nat.le_of_eq g_m0.symm)
 have ge_m0_0 : h0.size ≤ m0 := Nat.le_trans B0.1 (Nat.le_of_eq g_m0.symm)
 have F_m0_loadFactor := D_m0 (Or.inr (wq hw 140 rfl)) (ty := .float) (by decide)
 have F_m0_table := D_m0 (Or.inl (wq hw 298 rfl)) (ty := (.array (.object "java/util/HashMap$Node"))) (by decide)
 have F_m0_size := D_m0 (Or.inl (wq hw 469 rfl)) (ty := .int) (by decide)
 have F_m0_threshold := D_m0 (Or.inl (wq hw 471 rfl)) (ty := .int) (by decide)
 have F_m0_modCount := D_m0 (Or.inl (wq hw 480 rfl)) (ty := .int) (by decide)
 have BZ := extT BZ E1
 have B0 := extT B0 E1
 replace w := w.dup (pc' := 4) (d23 115 rfl)
 obtain ⟨v2, V2, h2, hq2, A2, w⟩ := w.ctor (y' := mN51) (W := 1) (a := m0) (w.pays 1 (rmHMi l Z a0 hw hEL m0 _ h1 w.old X_m0 F_m0_loadFactor ge_m0_Z) (wq hw 130 rfl) (wq hw 127 rfl) all0 nle nle) rfl (wq hw 128 rfl) (wq hw 129 rfl) (wq hw 130 rfl) (argsL := []) (rest := [(.ref m0)]) (by decide) pd_7 rfl rfl nlr rfl (d23 116 rfl) nle nle (pc' := 7)
 obtain ⟨rfl, slh, zh, WH, hslh⟩ := hq2
 replace w := w.toS [(.ref m0)]
 subst hslh
 have KH := Keep.of_wr WH
 have BZ := extK BZ KH (allS ge_m0_Z all0)
 have B0 := extK B0 KH (allS ge_m0_0 all0)
 have H0 : HM0 Z h2 m0 := ⟨X_m0.wr WH, F_m0_table.other WH (Or.inr (own_mtl hw)), F_m0_size.other WH (Or.inr (own_msl hw)), F_m0_threshold.other WH (Or.inr (own_mul hw)), F_m0_modCount.other WH (Or.inr (own_mcl hw))⟩
 replace w := w.astore (pc' := 9) (L' := #[.val (.ref ag), .val (.ref nm), .val (.ref es), .val (.ref es), .val (.ref wn), .val (.ref us0), .val (.ref m0), .unset, .unset, .unset, .unset, .unset]) (d23 117 rfl) rfl
 have B1 := extR h2
 obtain ⟨h3, g, g_g, E3, X_g, D_g, S_g, A3, w⟩ := w.new (wq hw 141 rfl) (wq hw 45 rfl) (wq hw 46 rfl) (d23 118 rfl) nle nle (pc' := 12)
 have ge_g_Z : Z.heap.size ≤ g := Nat.le_trans BZ.1 (Nat.le_of_eq g_g.symm)
 have ge_g_0 : h0.size ≤ g := Nat.le_trans B0.1 (Nat.le_of_eq g_g.symm)
 have ge_g_1 : h2.size ≤ g := Nat.le_trans B1.1 (Nat.le_of_eq g_g.symm)
 have F_g_modCount := D_g (Or.inl (wq hw 64 rfl)) (ty := .int) (by decide)
 have F_g_elementData := D_g (Or.inl (wq hw 67 rfl)) (ty := (.array (.object "java/lang/Object"))) (by decide)
 have F_g_size := D_g (Or.inl (wq hw 153 rfl)) (ty := .int) (by decide)
 have B0 := extT B0 E3
 have B1 := extT B1 E3
 replace w := w.dup (pc' := 13) (d23 119 rfl)
 obtain ⟨v4, V4, h4, hq4, A4, w⟩ := w.ctor (y' := mN14) (W := 1) (a := g) (w.pays 1 (rmALi l Z a0 hw hEL dc kd Sd Dd g h3 w.old X_g F_g_elementData F_g_size F_g_modCount ge_g_Z) (wq hw 49 rfl) (wq hw 46 rfl) all0 nle nle) rfl (wq hw 142 rfl) (wq hw 48 rfl) (wq hw 49 rfl) (argsL := []) (rest := [(.ref g)]) (by decide) pd_7 rfl rfl nlr rfl (d23 120 rfl) nle nle (pc' := 16)
 obtain ⟨rfl, K4, TG⟩ := hq4
 replace w := w.toS [(.ref g)]
 have B0 := extK B0 K4 (allS ge_g_0 all0)
 have B1 := extK B1 K4 (allS ge_g_1 all0)
 replace w := ((w.astore (L' := #[.val (.ref ag), .val (.ref nm), .val (.ref es), .val (.ref es), .val (.ref wn), .val (.ref us0), .val (.ref m0), .val (.ref g), .unset, .unset, .unset, .unset]) (d23 121 rfl) rfl).iconst (0 : Int32) (d23 122 rfl)).istore (pc' := 21) (L' := #[.val (.ref ag), .val (.ref nm), .val (.ref es), .val (.ref es), .val (.ref wn), .val (.ref us0), .val (.ref m0), .val (.ref g), .val (.int (0 : Int32)), .unset, .unset, .unset]) (d23 123 rfl) rfl
 have P0 : PS Z h0 h4 dc em g dc [] m0 x z cx cz none none := ⟨keepE B0 _, Or.inl ⟨rfl, rfl, 0, TG⟩, Or.inl ⟨rfl, rfl, ⟨H0.1.ext B1, H0.2.1.ext B1, H0.2.2.1.ext B1, H0.2.2.2.1.ext B1, H0.2.2.2.2.ext B1⟩⟩, Sx.ext B0, Sz.ext B0, ge_g_0, Or.inl rfl, ge_m0_0, (fun _ _ _ _ _ e => by cases e), (fun _ _ _ _ _ e => by cases e), (fun u hu => by cases hu)⟩
 refine (own_loop l Z a0 hw hEL z0 Sc hz0 ST LF h0 ag ta nm wn us0 g m0 x z cx cz vs HA Sx.str.exa Sz.str.exa hxz hbin HN hnm tw0 ws HW hWO hVO hx.1 Sx.str Sz.str rest tail hrest items [] [] none none dc _ _ 2 11 .unset .unset .unset (Or.inl rfl) (Or.inl rfl) (Or.inl rfl) (by rw [hvs]; rfl) hok honce (by omega) (by omega) (by simpa using hops) P0 w).mono fun v h q => ⟨m0, q⟩
theorem rmPA4 (l : Launch) (Z : State) (a0 : Array Value) (hw : HW Z a0) (hEL : EW Z a0 consts_1) (z0 : Int32) (Sc : SC Z z0) (hz0 : ¬ z0 = 0) {dc : Addr} {kd : ClassId} {es el em mr le : Addr} {kl : ClassId} (ST : Stt Z dc kd es el em mr le kl) {f : Addr} {cK cS : ClassId} {methk : Method} {ck : Code} (LF : Lam Z f cK cS methk ck) (ag ta nm wn us0 x z : Addr) (cx cz : Int32) (vs : List Value) (hxz : x ≠ z) (hbin : own_bin cx ≠ own_bin cz) (tw0 : Addr) (ws : List Value) (rest tail : List Value) (items : List IT) (hvs : vs = own_flat x z items ++ rest) (honce : own_once false false items) (hcost : own_cost items ≤ 30) (hslt : own_slt items ≤ 210) (hops : own_ops items + tail.length = ws.length) (h0 : Heap) (hx : Ext Z.heap h0) (HA : LL Z h0 dc ag ta vs) (HN : SE2 Z h0 nm x z) (HW : LL Z h0 dc wn tw0 ws) (hWO : Obs Z h0 em ws) (hVO : Obs Z h0 em vs) (Sx : Key Z h0 x cx) (Sz : Key Z h0 z cz) (hrest : (rest = [] ∧ tail = []) ∨ ∃ y, rest = .ref y :: tail ∧ Str Z h0 y [45, 45]) (hok : own_iok Z h0 items) :
   Met l Z consts_1 mN96 prog_16_method_2_code 4 (some (.object "com/example/keyturn/keyturn/Options")) [] (rM 12 46 340 3240) #[.ref ag, .ref nm, .ref wn, .ref us0] h0 [] (fun v h => ∃ m0, FQ Z h0 em el m0 x z cx cz tail v h (own_run [] none none items)) := by
 obtain ⟨Sd, Dd, Xd, Ss, Xs, Fz, Sl, Xl, Fe0, Al0, Fn0, Se, Xe, Mr⟩ := id ST
 refine Met.of (a0 := a0) (by decide +kernel) hEL hx ?_
 intro p e s m below meth c S0 V w hs hsf
 replace w := ((w.to (g' := mkF m 0 #[.val (.ref ag), .val (.ref nm), .val (.ref wn), .val (.ref us0)] [])).aloadN (d21 0 rfl) rfl).aloadN (pc' := 2) (d21 1 rfl) rfl
 obtain ⟨v1, V1, h1, hq1, A1, w⟩ := w.static (y' := mN34) (W := 2) (w.pays 2 (rmSO0 l Z a0 hw hEL es Ss h0 w.old) (wq hw 119 rfl) (wq hw 70 rfl) all0 nle nle) (wq hw 117 rfl) (wq hw 118 rfl) (wq hw 70 rfl) (wq hw 119 rfl) (argsL := []) (rest := [(.ref nm), (.ref ag)]) (by decide) pd_48 rfl rfl nlr rfl (d21 2 rfl) nle nle (pc' := 5)
 obtain ⟨rfl, he1⟩ := hq1
 replace w := w.toS [(.ref es), (.ref nm), (.ref ag)]
 replace he1 := he1.symm
 subst he1
 obtain ⟨v2, V2, h2, hq2, A2, w⟩ := w.static (y' := mN34) (W := 3) (w.pays 3 (rmSO0 l Z a0 hw hEL es Ss h0 w.old) (wq hw 119 rfl) (wq hw 70 rfl) all0 nle nle) (wq hw 117 rfl) (wq hw 118 rfl) (wq hw 70 rfl) (wq hw 119 rfl) (argsL := []) (rest := [(.ref es), (.ref nm), (.ref ag)]) (by decide) pd_48 rfl rfl nlr rfl (d21 3 rfl) nle nle (pc' := 8)
 obtain ⟨rfl, he2⟩ := hq2
 replace w := w.toS [(.ref es), (.ref es), (.ref nm), (.ref ag)]
 replace he2 := he2.symm
 subst he2
 replace w := (w.aloadN (d21 4 rfl) rfl).aloadN (pc' := 10) (d21 5 rfl) rfl
 obtain ⟨v3, V3, h3, hq3, A3, w⟩ := w.static (y' := mN60) (W := 0) (w.pays 0 (rmPA6 l Z a0 hw hEL z0 Sc hz0 ST LF ag ta nm wn us0 x z cx cz vs hxz hbin tw0 ws rest tail items hvs honce hcost hslt hops h0 w.old HA HN HW hWO hVO Sx Sz hrest hok) (wq hw 124 rfl) (wq hw 115 rfl) all0 nle nle) (wq hw 122 rfl) (wq hw 123 rfl) (wq hw 115 rfl) (wq hw 124 rfl) (argsL := [(.ref ag), (.ref nm), (.ref es), (.ref es), (.ref wn), (.ref us0)]) (rest := []) (by decide) pd_49 rfl rfl nlr rfl (d21 6 rfl) nle nle (pc' := 13)
 obtain ⟨m0, o, ob, bx, bz, rfl, q2, q3, q4, q5, q6, q7, q8, q9⟩ := hq3
 replace w := w.toS [(.ref o)]
 exact w.retA (d21 7 rfl) ⟨m0, o, ob, bx, bz, rfl, q2, q3, q4, q5, q6, q7, q8, q9⟩ nle nle
theorem OPp.keepS {Z : State} {h h' : Heap} {o m0 ob x : Addr} (K : Keep h h' [x]) (X : Exa Z h x "java/lang/String") (T : OPp Z h o m0 ob) : OPp Z h' o m0 ob := by
 have n : o ∉ [x] := ninS (Exa.ne T.1 X (by decide)) nin0
 exact ⟨T.1.keep K, T.2.1.keep K n, T.2.2.keep K n⟩
theorem OPp.ext {Z : State} {h h' : Heap} {o m0 ob : Addr} (E : Ext h h') (T : OPp Z h o m0 ob) : OPp Z h' o m0 ob := ⟨T.1.ext E, T.2.1.ext E, T.2.2.ext E⟩
theorem rmOPh (l : Launch) (Z : State) (a0 : Array Value) (hw : HW Z a0) (hEL : EW Z a0 consts_1) (z0 : Int32) (Sc : SC Z z0) (hz0 : ¬ z0 = 0) (o ob : Addr) (m0 x z : Addr) (cx cz : Int32) (bx bz : EN) (lb : Nat) (h0 : Heap) (hx : Ext Z.heap h0) (P : MP Z lb h0 m0 x z cx cz bx bz) (S : Key Z h0 x cx) (T : OPp Z h0 o m0 ob) :
   Met l Z consts_1 mN97 prog_16_method_7_code 2 (some .boolean) [] (rM 7 0 0 120) #[.ref o, .ref x] h0 [x] (fun v h => v = some (.int (own_fl bx.isSome)) ∧ Keep h0 h [x] ∧ MP Z lb h m0 x z cx cz bx bz ∧ Key Z h x cx) := by
 have X_m0 := P.exa
 have Fv := T.2.1
 refine Met.of (a0 := a0) (by decide +kernel) hEL hx ?_
 intro p e s m below meth c S0 V w hs hsf
 have Sx := hsf x (List.mem_cons_self ..)
 replace w := (((w.to (g' := mkF m 0 #[.val (.ref o), .val (.ref x)] [])).aloadN (d41 0 rfl) rfl).getF (wq hw 270 rfl) Fv (d41 1 rfl)).aloadN (pc' := 5) (d41 2 rfl) rfl
 obtain ⟨v1, V1, h1, hq1, A1, w⟩ := w.face (xi := mN91) (y' := mN57) (W := 0) (C := "java/util/HashMap") (b := m0) (w.pays 0 (rmHCKg l Z a0 hw hEL z0 Sc hz0 m0 x z cx cz bx bz lb h0 w.old P S) (wq hw 291 rfl) (wq hw 127 rfl) (allS Sx all0) nle nle) (wq hw 283 rfl) (wq hw 284 rfl) (wq hw 285 rfl) (wq hw 286 rfl) (wq hw 287 rfl) (wq hw 288 rfl) (wq hw 289 rfl) (wq hw 290 rfl) (argsL := [(.ref x)]) (rest := []) (by decide) (X_m0) pd_15 rfl rfl nlr rfl (d41 3 rfl) nle nle (pc' := 10)
 obtain ⟨rfl, K1, M1, S1⟩ := hq1
 replace w := w.toS [(.int (own_fl bx.isSome))]
 exact w.retN (d41 4 rfl) (by simp) ⟨by
   cases bx with
   | none => rfl
   | some q => exact congrArg (fun z => some (Value.int z)) (by decide : nar .boolean (own_fl true) = own_fl true), K1, M1, S1⟩ nle nle
theorem rmLCOn (l : Launch) (Z : State) (a0 : Array Value) (hw : HW Z a0) (hEL : EW Z a0 consts_1) {dc : Addr} {kd : ClassId} {es el em mr le : Addr} {kl : ClassId} (ST : Stt Z dc kd es el em mr le kl) (a t : Addr) (k : ClassId) (mc : Int32) (vs : List Value) (hv1 : vs ≠ []) (h10 : vs.length ≤ 10) (h0 : Heap) (hx : Ext Z.heap h0) (T : ALn Z h0 a t k vs mc) (HI : Obs Z h0 em vs) :
   Met l Z consts_1 mN66 jdk_40_method_48_code 1 (some (.object "java/util/List")) [] (rM 10 4 30 170) #[.ref a] h0 [] (fun v h => ∃ b, v = some (.ref b) ∧ Ext h0 h ∧ IL Z h em b vs) := by
 refine Met.of (a0 := a0) (by decide +kernel) hEL hx ?_
 intro p e s m below meth c S0 V w hs hsf
 replace w := (w.to (g' := mkF m 0 #[.val (.ref a)] [])).aloadN (pc' := 1) (d36 0 rfl) rfl
 obtain ⟨v1, V1, h1, hq1, A1, w⟩ := w.static (y' := mN63) (W := 0) (w.pays 0 (rmLCPn l Z a0 hw hEL ST a t k mc vs hv1 h10 h0 w.old T HI) (wq hw 246 rfl) (wq hw 121 rfl) all0 nle nle) (wq hw 244 rfl) (wq hw 245 rfl) (wq hw 121 rfl) (wq hw 246 rfl) (argsL := [(.ref a)]) (rest := []) (by decide) pd_27 rfl rfl nlr rfl (d36 1 rfl) nle nle (pc' := 4)
 obtain ⟨b, rfl, E1, T1⟩ := hq1
 replace w := w.toS [(.ref b)]
 exact w.retA (d36 2 rfl) ⟨b, rfl, E1, T1⟩ nle nle
def own_vals (b : EN) : List Value := match b with | none => [] | some (v, _, _, _, _) => [.ref v]
theorem rmOPa (l : Launch) (Z : State) (a0 : Array Value) (hw : HW Z a0) (hEL : EW Z a0 consts_1) (z0 : Int32) (Sc : SC Z z0) (hz0 : ¬ z0 = 0) {dc : Addr} {kd : ClassId} {es el em mr le : Addr} {kl : ClassId} (ST : Stt Z dc kd es el em mr le kl) (o ob : Addr) (m0 x z : Addr) (cx cz : Int32) (bx bz : EN) (lb : Nat) (h0 : Heap) (hx : Ext Z.heap h0) (P : MP Z lb h0 m0 x z cx cz bx bz) (S : Key Z h0 x cx) (T : OPp Z h0 o m0 ob) (hO : Obs Z h0 em (own_vals bx)) :
   Met l Z consts_1 mN98 prog_16_method_6_code 2 (some (.object "java/util/List")) [] (rM 11 4 30 200) #[.ref o, .ref x] h0 [x] (fun v h => ∃ b, v = some (.ref b) ∧ Keep h0 h [x] ∧ OL Z h em el b (own_vals bx) ∧ MP Z lb h m0 x z cx cz bx bz ∧ Key Z h x cx) := by
 obtain ⟨Sd, Dd, Xd, Ss, Xs, Fz, Sl, Xl, Fe0, Al0, Fn0, Se, Xe, Mr⟩ := id ST
 have X_m0 := P.exa
 have X_x := S.str.exa
 have Fv := T.2.1
 refine Met.of (a0 := a0) (by decide +kernel) hEL hx ?_
 intro p e s m below meth c S0 V w hs hsf
 have Sx := hsf x (List.mem_cons_self ..)
 replace w := (((w.to (g' := mkF m 0 #[.val (.ref o), .val (.ref x)] [])).aloadN (d44 0 rfl) rfl).getF (wq hw 270 rfl) Fv (d44 1 rfl)).aloadN (pc' := 5) (d44 2 rfl) rfl
 obtain ⟨v1, V1, h1, hq1, A1, w⟩ := w.static (y' := mN36) (W := 2) (w.pays 2 (rmLO0 l Z a0 hw hEL el Sl h0 w.old) (wq hw 264 rfl) (wq hw 242 rfl) all0 nle nle) (wq hw 304 rfl) (wq hw 263 rfl) (wq hw 242 rfl) (wq hw 264 rfl) (argsL := []) (rest := [(.ref x), (.ref m0)]) (by decide) pd_26 rfl rfl nlr rfl (d44 3 rfl) nle nle (pc' := 8)
 obtain ⟨rfl, he1⟩ := hq1
 replace w := w.toS [(.ref el), (.ref x), (.ref m0)]
 replace he1 := he1.symm
 subst he1
 have Sx1 := A1.safe X_x.lt Sx
 obtain ⟨v2, V2, h2, hq2, A2, w⟩ := w.face (xi := mN99) (y' := mN58) (W := 0) (C := "java/util/HashMap") (b := m0) (w.pays 0 (rmGODg l Z a0 hw hEL z0 Sc hz0 el m0 x z cx cz bx bz lb h0 w.old P S) (wq hw 312 rfl) (wq hw 127 rfl) (allS Sx1 all0) nle nle) (wq hw 305 rfl) (wq hw 306 rfl) (wq hw 307 rfl) (wq hw 308 rfl) (wq hw 309 rfl) (wq hw 310 rfl) (wq hw 311 rfl) (wq hw 290 rfl) (argsL := [(.ref x), (.ref el)]) (rest := []) (by decide) (X_m0) pd_50 rfl rfl nlr rfl (d44 4 rfl) nle nle (pc' := 13)
 obtain ⟨rfl, K2, M1, S1⟩ := hq2
 replace w := w.toS [(.ref (own_lst bx el))]
 match bx, M1, hO, w with
 | none, M1, hO, w =>
   have X_el := Xl.ext w.old
   replace w := w.cast (wq hw 313 rfl) (Ins.of_exa X_el (wq hw 314 rfl)) (d44 5 rfl) (pc' := 16)
   obtain ⟨v3, V3, h3, hq3, A3, w⟩ := w.static (y' := mN66) (W := 0) (w.pays 0 (rmLCOe l Z a0 hw hEL ST h2 w.old) (wq hw 243 rfl) (wq hw 242 rfl) all0 nle nle) (wq hw 240 rfl) (wq hw 241 rfl) (wq hw 242 rfl) (wq hw 243 rfl) (argsL := [(.ref el)]) (rest := []) (by decide) pd_27 rfl rfl nlr rfl (d44 6 rfl) nle nle (pc' := 19)
   obtain ⟨rfl, he3⟩ := hq3
   replace w := w.toS [(.ref el)]
   replace he3 := he3.symm
   subst he3
   exact w.retA (d44 7 rfl) ⟨el, rfl, K2, Or.inl ⟨rfl, rfl⟩, M1, S1⟩ nle nle
 | some (v0, nd, L, tl, kl), M1, hO, w =>
   obtain ⟨tt, kt, tv, sz, mc, H, q1, q2, q3, ⟨r1, r2, r3⟩, q5⟩ := M1.resolve_left (fun q => by cases q.1)
   have X_L := r3.1
   replace w := w.cast (wq hw 313 rfl) (Ins.of_exa X_L (wq hw 260 rfl)) (d44 5 rfl) (pc' := 16)
   obtain ⟨v4, V4, h4, hq4, A4, w⟩ := w.static (y' := mN66) (W := 0) (w.pays 0 (rmLCOn l Z a0 hw hEL ST L tl kl 1 [.ref v0] (by simp) (by simp) h2 w.old r3 (hO.keep K2)) (wq hw 243 rfl) (wq hw 242 rfl) all0 nle nle) (wq hw 240 rfl) (wq hw 241 rfl) (wq hw 242 rfl) (wq hw 243 rfl) (argsL := [(.ref L)]) (rest := []) (by decide) pd_27 rfl rfl nlr rfl (d44 6 rfl) nle nle (pc' := 19)
   obtain ⟨b, rfl, E4, T3⟩ := hq4
   replace w := w.toS [(.ref b)]
   exact w.retA (d44 7 rfl) ⟨b, rfl, K2.ext E4, Or.inr T3, M1.ext E4, S1.ext E4⟩ nle nle
theorem rmOPo (l : Launch) (Z : State) (a0 : Array Value) (hw : HW Z a0) (hEL : EW Z a0 consts_1) {dc : Addr} {kd : ClassId} {es el em mr le : Addr} {kl : ClassId} (ST : Stt Z dc kd es el em mr le kl) (o m0 ob : Addr) (vs : List Value) (j : Nat) (hj : j < vs.length) (y : Addr) (hv : vs.getD j .null = .ref y) (h0 : Heap) (hx : Ext Z.heap h0) (T : OPp Z h0 o m0 ob) (I : IL Z h0 em ob vs) (X_y : Exa Z h0 y "java/lang/String") :
   Met l Z consts_1 mN100 prog_16_method_10_code 2 (some (.object "java/lang/String")) [] (rM 2 0 0 40) #[.ref o, .int (Int32.ofNat j)] h0 [] (fun v h => v = some (.ref y) ∧ h = h0) := by
 obtain ⟨Sd, Dd, Xd, Ss, Xs, Fz, Sl, Xl, Fe0, Al0, Fn0, Se, Xe, Mr⟩ := id ST
 have Fo := T.2.2
 rcases I with ⟨u, rfl, X_ob, F0, F1⟩ | ⟨u, u2, rfl, hne, X_ob, F0, F1⟩ | ⟨t, k, i3, i10, X_ob, Fe, A⟩
 · have hj0 : j = 0 := by simp at hj; exact hj
   subst hj0
   have hu : u = .ref y := hv
   subst hu
   refine Met.of (a0 := a0) (by decide +kernel) hEL hx ?_
   intro p e s m below meth c S0 V w hs hsf
   replace w := (((w.to (g' := mkF m 0 #[.val (.ref o), .val (.int (Int32.ofNat 0))] [])).aloadN (d84 0 rfl) rfl).getF (wq hw 272 rfl) Fo (d84 1 rfl)).iloadN (pc' := 5) (d84 2 rfl) rfl
   obtain ⟨v1, V1, h1, hq1, A1, w⟩ := w.face (xi := mN88) (y' := mN41) (W := 0) (C := "java/util/ImmutableCollections$List12") (b := ob) (w.pays 0 (rmL12g0 l Z a0 hw hEL ob y h0 w.old F0) (wq hw 564 rfl) (wq hw 533 rfl) all0 nle nle) (wq hw 360 rfl) (wq hw 361 rfl) (wq hw 362 rfl) (wq hw 560 rfl) (wq hw 561 rfl) (wq hw 562 rfl) (wq hw 563 rfl) (wq hw 557 rfl) (argsL := [(.int (Int32.ofNat 0))]) (rest := []) (by decide) (X_ob) pd_10 rfl rfl nlr rfl (d84 3 rfl) nle nle (pc' := 10)
   obtain ⟨rfl, he1⟩ := hq1
   replace w := w.toS [(.ref y)]
   replace he1 := he1.symm
   subst he1
   replace w := w.cast (wq hw 380 rfl) (Ins.self X_y) (d84 4 rfl) (pc' := 13)
   exact w.retA (d84 5 rfl) ⟨rfl, rfl⟩ nle nle
 · have hj2 : j = 0 ∨ j = 1 := by simp at hj; omega
   rcases hj2 with rfl | rfl
   · have hu : u = .ref y := hv
     subst hu
     refine Met.of (a0 := a0) (by decide +kernel) hEL hx ?_
     intro p e s m below meth c S0 V w hs hsf
     replace w := (((w.to (g' := mkF m 0 #[.val (.ref o), .val (.int (Int32.ofNat 0))] [])).aloadN (d84 0 rfl) rfl).getF (wq hw 272 rfl) Fo (d84 1 rfl)).iloadN (pc' := 5) (d84 2 rfl) rfl
     obtain ⟨v1, V1, h1, hq1, A1, w⟩ := w.face (xi := mN88) (y' := mN41) (W := 0) (C := "java/util/ImmutableCollections$List12") (b := ob) (w.pays 0 (rmL12g0 l Z a0 hw hEL ob y h0 w.old F0) (wq hw 564 rfl) (wq hw 533 rfl) all0 nle nle) (wq hw 360 rfl) (wq hw 361 rfl) (wq hw 362 rfl) (wq hw 560 rfl) (wq hw 561 rfl) (wq hw 562 rfl) (wq hw 563 rfl) (wq hw 557 rfl) (argsL := [(.int (Int32.ofNat 0))]) (rest := []) (by decide) (X_ob) pd_10 rfl rfl nlr rfl (d84 3 rfl) nle nle (pc' := 10)
     obtain ⟨rfl, he1⟩ := hq1
     replace w := w.toS [(.ref y)]
     replace he1 := he1.symm
     subst he1
     replace w := w.cast (wq hw 380 rfl) (Ins.self X_y) (d84 4 rfl) (pc' := 13)
     exact w.retA (d84 5 rfl) ⟨rfl, rfl⟩ nle nle
   · have hu : u2 = y := by have q : Value.ref u2 = .ref y := hv; exact Value.ref.inj q
     subst hu
     refine Met.of (a0 := a0) (by decide +kernel) hEL hx ?_
     intro p e s m below meth c S0 V w hs hsf
     replace w := (((w.to (g' := mkF m 0 #[.val (.ref o), .val (.int (Int32.ofNat 1))] [])).aloadN (d84 0 rfl) rfl).getF (wq hw 272 rfl) Fo (d84 1 rfl)).iloadN (pc' := 5) (d84 2 rfl) rfl
     obtain ⟨v1, V1, h1, hq1, A1, w⟩ := w.face (xi := mN88) (y' := mN41) (W := 0) (C := "java/util/ImmutableCollections$List12") (b := ob) (w.pays 0 (rmL12g1 l Z a0 hw hEL em Se ob u2 hne h0 w.old F1) (wq hw 564 rfl) (wq hw 533 rfl) all0 nle nle) (wq hw 360 rfl) (wq hw 361 rfl) (wq hw 362 rfl) (wq hw 560 rfl) (wq hw 561 rfl) (wq hw 562 rfl) (wq hw 563 rfl) (wq hw 557 rfl) (argsL := [(.int (Int32.ofNat 1))]) (rest := []) (by decide) (X_ob) pd_10 rfl rfl nlr rfl (d84 3 rfl) nle nle (pc' := 10)
     obtain ⟨rfl, he1⟩ := hq1
     replace w := w.toS [(.ref u2)]
     replace he1 := he1.symm
     subst he1
     replace w := w.cast (wq hw 380 rfl) (Ins.self X_y) (d84 4 rfl) (pc' := 13)
     exact w.retA (d84 5 rfl) ⟨rfl, rfl⟩ nle nle
 ·
   refine Met.of (a0 := a0) (by decide +kernel) hEL hx ?_
   intro p e s m below meth c S0 V w hs hsf
   replace w := (((w.to (g' := mkF m 0 #[.val (.ref o), .val (.int (Int32.ofNat j))] [])).aloadN (d84 0 rfl) rfl).getF (wq hw 272 rfl) Fo (d84 1 rfl)).iloadN (pc' := 5) (d84 2 rfl) rfl
   obtain ⟨v1, V1, h1, hq1, A1, w⟩ := w.face (xi := mN88) (y' := mN42) (W := 0) (C := "java/util/ImmutableCollections$ListN") (b := ob) (w.pays 0 (rmLNg l Z a0 hw hEL ob t k vs i10 j hj y hv h0 w.old Fe A) (wq hw 595 rfl) (wq hw 328 rfl) all0 nle nle) (wq hw 360 rfl) (wq hw 361 rfl) (wq hw 362 rfl) (wq hw 591 rfl) (wq hw 592 rfl) (wq hw 593 rfl) (wq hw 594 rfl) (wq hw 322 rfl) (argsL := [(.int (Int32.ofNat j))]) (rest := []) (by decide) (X_ob) pd_10 rfl rfl nlr rfl (d84 3 rfl) nle nle (pc' := 10)
   obtain ⟨rfl, he1⟩ := hq1
   replace w := w.toS [(.ref y)]
   replace he1 := he1.symm
   subst he1
   replace w := w.cast (wq hw 380 rfl) (Ins.self X_y) (d84 4 rfl) (pc' := 13)
   exact w.retA (d84 5 rfl) ⟨rfl, rfl⟩ nle nle
/-- the operands parsed (us) and the operands wanted (ws): Strings that spell the same, none of them n1 or n2 -/
def SPr (Z : State) (h : Heap) (n1 n2 : Addr) (us ws : List Value) : Prop := us.length = ws.length ∧ ∀ j, j < ws.length → ∃ y y' cs, us.getD j .null = .ref y ∧ ws.getD j .null = .ref y' ∧ Str Z h y cs ∧ Str Z h y' cs ∧ cs.length ≤ 9 ∧ y ≠ n1 ∧ y ≠ n2 ∧ y' ≠ n1 ∧ y' ≠ n2
theorem own_oem {Z : State} {h : Heap} {em y : Addr} {cs : List Int32} (hx : Ext Z.heap h) (Xe : Exa Z Z.heap em "java/lang/Object") (U : Str Z h y cs) : y ≠ em := Exa.ne U.exa (Xe.ext hx) (by decide)
theorem own_insO {Z : State} {h : Heap} {a0 : Array Value} (hw : HW Z a0) {y : Addr} {cs : List Int32} (U : Str Z h y cs) : Ins Z h y "java/lang/Object" true := Ins.of_exa U.exa (wq hw 359 rfl)
theorem SPr.obs {Z : State} {h : Heap} {a0 : Array Value} (hw : HW Z a0) {n1 n2 em : Addr} {us ws : List Value} (hx : Ext Z.heap h) (Xe : Exa Z Z.heap em "java/lang/Object") (S : SPr Z h n1 n2 us ws) : Obs Z h em ws := fun u hu => by
 obtain ⟨j, hj, e⟩ := List.getElem_of_mem hu
 obtain ⟨y, y', cs, -, e2, -, U, -⟩ := S.2 j hj
 have e3 : u = .ref y' := by rw [← e2, List.getD_eq_getElem?_getD, List.getElem?_eq_getElem hj]; exact e.symm
 exact ⟨y', e3, own_insO hw U, own_oem hx Xe U⟩
theorem SPr.ext {Z : State} {h h' : Heap} {n1 n2 : Addr} {us ws : List Value} (E : Ext h h') (S : SPr Z h n1 n2 us ws) : SPr Z h' n1 n2 us ws := ⟨S.1, fun j hj => by
 obtain ⟨y, y', cs, e1, e2, U, U', q⟩ := S.2 j hj
 exact ⟨y, y', cs, e1, e2, U.ext E, U'.ext E, q⟩⟩
theorem SPr.nil {Z : State} {h : Heap} {n1 n2 : Addr} : SPr Z h n1 n2 [] [] := ⟨rfl, fun j hj => absurd hj (by simp)⟩
theorem own_getL {vs : List Value} {u : Value} {j : Nat} (h : j < vs.length) : (vs ++ [u]).getD j .null = vs.getD j .null := by
 rw [List.getD_eq_getElem?_getD, List.getElem?_append_left h, List.getD_eq_getElem?_getD]
theorem SPr.snoc {Z : State} {h : Heap} {n1 n2 y y' : Addr} {us ws : List Value} {cs : List Int32} (S : SPr Z h n1 n2 us ws) (U : Str Z h y cs) (U' : Str Z h y' cs) (hl : cs.length ≤ 9) (q1 : y ≠ n1) (q2 : y ≠ n2) (q3 : y' ≠ n1) (q4 : y' ≠ n2) : SPr Z h n1 n2 (us ++ [.ref y]) (ws ++ [.ref y']) := by
 refine ⟨by rw [List.length_append, List.length_append, S.1]; rfl, fun j hj => ?_⟩
 rw [List.length_append] at hj
 have hj' : j < ws.length + 1 := hj
 by_cases q : j < ws.length
 · rw [own_getL q, own_getL (by rw [S.1]; exact q)]
   exact S.2 j q
 · have e : j = ws.length := by omega
   subst e
   exact ⟨y, y', cs, by rw [← S.1]; exact own_getA _ _, own_getA _ _, U, U', hl, q1, q2, q3, q4⟩
theorem own_ol0 {Z : State} {h : Heap} {em el b : Addr} (S : OL Z h em el b []) : b = el := by
 rcases S with ⟨-, q⟩ | ⟨x, q, -⟩ | ⟨x, y, q, -⟩ | ⟨t, k, q, -⟩
 · exact q
 · cases q
 · cases q
 · simp at q
theorem own_ol1 {Z : State} {h : Heap} {em el b v : Addr} (S : OL Z h em el b [.ref v]) : Exa Z h b "java/util/ImmutableCollections$List12" ∧ Fld Z h b "java/util/ImmutableCollections$List12" "e0" "Ljava/lang/Object;" (.ref v) ∧ Fld Z h b "java/util/ImmutableCollections$List12" "e1" "Ljava/lang/Object;" (.ref em) := by
 rcases S with ⟨q, -⟩ | ⟨x, q, h1, h2, h3⟩ | ⟨x, y, q, -⟩ | ⟨t, k, q, -⟩
 · cases q
 · cases q
   exact ⟨h1, h2, h3⟩
 · cases q
 · simp at q
theorem own_olIL {Z : State} {h : Heap} {em el b : Addr} {vs : List Value} (S : OL Z h em el b vs) (hn : vs ≠ []) : IL Z h em b vs := S.resolve_left fun q => hn q.1
theorem t1003 (l : Launch) (Z : State) (a0 : Array Value) (hw : HW Z a0) (hEL : EW Z a0 consts_1) {p : Program} {e : Env} {s : State} {m : MethodId} {args : Array Value} {below : List Frame} {meth : Method} {c : Code} {S0 : State} {V : Vm} {cl sl : Nat} (hcl : cl ≤ 112) (hsl : sl ≤ 4608) (hh : Heap) (o wn : Addr) (ws : List Value) (d0 d1 d2 d3 d4 d5 d6 d7 d8 d9 d10 d11 d12 d13 d14 d15 d16 d17 d18 d19 d20 d21 d22 d23 d24 d25 d26 d27 d28 d32 d33 : Slot) (w : Wk p l e room_1 s m args below meth c Z a0 consts_1 S0 Jvm.Pilot.@@N@@.x code maxLocals ret V hh cl sl (mkF m 1003 #[d0, d1, d2, d3, d4, d5, d6, d7, d8, d9, d10, d11, d12, d13, d14, d15, d16, d17, d18, d19, d20, d21, d22, d23, d24, d25, d26, d27, d28, .val (.ref wn), .val (.ref o), .val (.int (1 : Int32)), d32, d33, .val (.int (Int32.ofNat ws.length))] [])) : Fini p e below s Z consts_1 S0 112 4608 (fun v h => v = some (.int 1)) := by
 replace w := w.iload (pc' := 1005) at_1003 rfl
 exact w.retN at_1005 (by simp) rfl oml oml
theorem t965 (l : Launch) (Z : State) (a0 : Array Value) (hw : HW Z a0) (hEL : EW Z a0 consts_1) (z0 : Int32) (Sc : SC Z z0) (hz0 : ¬ z0 = 0) {p : Program} {e : Env} {s : State} {m : MethodId} {args : Array Value} {below : List Frame} {meth : Method} {c : Code} {S0 : State} {dc : Addr} {kd : ClassId} {es el em mr le : Addr} {kl : ClassId} (ST : Stt Z dc kd es el em mr le kl) {V : Vm} {cl sl : Nat} (hcl : cl ≤ 112) (hsl : sl ≤ 4608) (hh : Heap) (o m0 ob wn tw n1 n2 : Addr) (us ws : List Value) (T : OPp Z hh o m0 ob) (TO : OL Z hh em el ob us) (HW : LL Z hh dc wn tw ws) (HS : SPr Z hh n1 n2 us ws) (d0 d1 d2 d3 d4 d5 d6 d7 d8 d9 d10 d11 d12 d13 d14 d15 d16 d17 d18 d19 d20 d21 d22 d23 d24 d25 d26 d27 d28 d32 d33 : Slot) (w : Wk p l e room_1 s m args below meth c Z a0 consts_1 S0 Jvm.Pilot.@@N@@.x code maxLocals ret V hh cl sl (mkF m 965 #[d0, d1, d2, d3, d4, d5, d6, d7, d8, d9, d10, d11, d12, d13, d14, d15, d16, d17, d18, d19, d20, d21, d22, d23, d24, d25, d26, d27, d28, .val (.ref wn), .val (.ref o), .val (.int (1 : Int32)), d32, d33, .val (.int (Int32.ofNat ws.length))] [])) : Fini p e below s Z consts_1 S0 112 4608 (fun v h => v = some (.int 1)) := by
 obtain ⟨Sd, Dd, Xd, Ss, Xs, Fz, Sl, Xl, Fe0, Al0, Fn0, Se, Xe, Mr⟩ := id ST
 have hwe := own_wordsEq hw
 have h10 := HW.len
 have X_o := T.1
 replace w := (w.iload at_965 rfl).iconst (pc' := 968) (3 : Int32) at_967
 by_cases q : 3 < ws.length
 ·
   obtain ⟨y, y', cs, hv, hv', U, U', hcs, -⟩ := HS.2 _ q
   have X_y := U.exa
   have qu : 3 < us.length := by rw [HS.1]; exact q
   have I := own_olIL TO (fun z => by rw [z] at qu; simp at qu)
   obtain ⟨-, -, kw, mw, TW⟩ := HW.resolve_left (fun z => by rw [z.2.1] at q; simp at q)
   have X_wn := TW.1
   replace w := ((((w.icmpNo (pc' := 971) at_968 ((tlt ((own_lt32 (a := 3) (b := ws.length) (by omega) (by omega)).mpr q)).2.2.2)).iload at_971 rfl).ifNo at_973 (by decide)).aload at_976 rfl).iconst (pc' := 979) (3 : Int32) at_978
   obtain ⟨v1, V1, h1, hq1, A1, w⟩ := w.virt (y' := mN100) (W := 0) (C := "com/example/keyturn/keyturn/Options") (b := o) (w.pays 0 (rmOPo l Z a0 hw hEL ST o m0 ob us 3 qu y hv hh w.old T I X_y) (wq hw 575 rfl) (wq hw 115 rfl) all0 nle nle) (wq hw 571 rfl) (wq hw 572 rfl) (wq hw 574 rfl) (wq hw 573 rfl) (argsL := [(.int (3 : Int32))]) (rest := []) (by decide) X_o pd_51 rfl rfl nlr rfl at_979 oml oml (pc' := 982)
   obtain ⟨rfl, he1⟩ := hq1
   replace w := w.toS [(.ref y)]
   replace he1 := he1.symm
   subst he1
   replace w := (w.aload at_982 rfl).iconst (pc' := 985) (3 : Int32) at_984
   obtain ⟨v2, V2, h2, hq2, A2, w⟩ := w.face (xi := mN88) (y' := mN20) (W := 1) (C := "java/util/ArrayList") (b := wn) (w.pays 1 (rmALg l Z a0 hw hEL wn tw kw ws mw h10 3 q y' hv' hh w.old TW) (wq hw 367 rfl) (wq hw 46 rfl) all0 nle nle) (wq hw 559 rfl) (wq hw 361 rfl) (wq hw 362 rfl) (wq hw 363 rfl) (wq hw 364 rfl) (wq hw 365 rfl) (wq hw 366 rfl) (wq hw 150 rfl) (argsL := [(.int (3 : Int32))]) (rest := [(.ref y)]) (by decide) (X_wn) pd_10 rfl rfl nlr rfl at_985 oml oml (pc' := 990)
   obtain ⟨rfl, he2⟩ := hq2
   replace w := w.toS [(.ref y'), (.ref y)]
   replace he2 := he2.symm
   subst he2
   obtain ⟨v3, V3, h3, hq3, A3, w⟩ := w.virt (y' := mN11) (W := 0) (C := "java/lang/String") (b := y) (w.payEq (W := 0) hwe (wq hw 1 rfl) U U' Sc hz0 (by omega) (by omega) nle nle) (wq hw 565 rfl) (wq hw 383 rfl) (wq hw 384 rfl) (wq hw 101 rfl) (argsL := [(.ref y')]) (rest := []) (by decide) X_y pd_15 rfl rfl nlr rfl at_990 oml oml (pc' := 993)
   obtain ⟨hv3, he3⟩ := hq3
   replace he3 := he3.symm
   subst he3
   rcases hv3 with ⟨rfl, -⟩ | ⟨-, hc⟩
   rotate_left
   · exact absurd rfl hc
   replace w := ((((w.toS [(.int (1 : Int32))]).ifNo at_993 (by decide)).iconst (1 : Int32) at_996).goto at_997).istore (pc' := 1003) (L' := #[d0, d1, d2, d3, d4, d5, d6, d7, d8, d9, d10, d11, d12, d13, d14, d15, d16, d17, d18, d19, d20, d21, d22, d23, d24, d25, d26, d27, d28, .val (.ref wn), .val (.ref o), .val (.int (1 : Int32)), d32, d33, .val (.int (Int32.ofNat ws.length))]) at_1001 rfl
   exact t1003 l Z a0 hw hEL oml oml hh o wn ws d0 d1 d2 d3 d4 d5 d6 d7 d8 d9 d10 d11 d12 d13 d14 d15 d16 d17 d18 d19 d20 d21 d22 d23 d24 d25 d26 d27 d28 d32 d33 w
 replace w := w.icmpYes (pc' := 1003) at_968 ((flt (fun z => q ((own_lt32 (a := 3) (b := ws.length) (by omega) (by omega)).mp z))).2.2.2)
 exact t1003 l Z a0 hw hEL hcl hsl hh o wn ws d0 d1 d2 d3 d4 d5 d6 d7 d8 d9 d10 d11 d12 d13 d14 d15 d16 d17 d18 d19 d20 d21 d22 d23 d24 d25 d26 d27 d28 d32 d33 w
theorem t927 (l : Launch) (Z : State) (a0 : Array Value) (hw : HW Z a0) (hEL : EW Z a0 consts_1) (z0 : Int32) (Sc : SC Z z0) (hz0 : ¬ z0 = 0) {p : Program} {e : Env} {s : State} {m : MethodId} {args : Array Value} {below : List Frame} {meth : Method} {c : Code} {S0 : State} {dc : Addr} {kd : ClassId} {es el em mr le : Addr} {kl : ClassId} (ST : Stt Z dc kd es el em mr le kl) {V : Vm} {cl sl : Nat} (hcl : cl ≤ 112) (hsl : sl ≤ 4608) (hh : Heap) (o m0 ob wn tw n1 n2 : Addr) (us ws : List Value) (T : OPp Z hh o m0 ob) (TO : OL Z hh em el ob us) (HW : LL Z hh dc wn tw ws) (HS : SPr Z hh n1 n2 us ws) (d0 d1 d2 d3 d4 d5 d6 d7 d8 d9 d10 d11 d12 d13 d14 d15 d16 d17 d18 d19 d20 d21 d22 d23 d24 d25 d26 d27 d28 d32 d33 : Slot) (w : Wk p l e room_1 s m args below meth c Z a0 consts_1 S0 Jvm.Pilot.@@N@@.x code maxLocals ret V hh cl sl (mkF m 927 #[d0, d1, d2, d3, d4, d5, d6, d7, d8, d9, d10, d11, d12, d13, d14, d15, d16, d17, d18, d19, d20, d21, d22, d23, d24, d25, d26, d27, d28, .val (.ref wn), .val (.ref o), .val (.int (1 : Int32)), d32, d33, .val (.int (Int32.ofNat ws.length))] [])) : Fini p e below s Z consts_1 S0 112 4608 (fun v h => v = some (.int 1)) := by
 obtain ⟨Sd, Dd, Xd, Ss, Xs, Fz, Sl, Xl, Fe0, Al0, Fn0, Se, Xe, Mr⟩ := id ST
 have hwe := own_wordsEq hw
 have h10 := HW.len
 have X_o := T.1
 replace w := (w.iload at_927 rfl).iconst (pc' := 930) (2 : Int32) at_929
 by_cases q : 2 < ws.length
 ·
   obtain ⟨y, y', cs, hv, hv', U, U', hcs, -⟩ := HS.2 _ q
   have X_y := U.exa
   have qu : 2 < us.length := by rw [HS.1]; exact q
   have I := own_olIL TO (fun z => by rw [z] at qu; simp at qu)
   obtain ⟨-, -, kw, mw, TW⟩ := HW.resolve_left (fun z => by rw [z.2.1] at q; simp at q)
   have X_wn := TW.1
   replace w := ((((w.icmpNo (pc' := 933) at_930 ((tlt ((own_lt32 (a := 2) (b := ws.length) (by omega) (by omega)).mpr q)).2.2.2)).iload at_933 rfl).ifNo at_935 (by decide)).aload at_938 rfl).iconst (pc' := 941) (2 : Int32) at_940
   obtain ⟨v1, V1, h1, hq1, A1, w⟩ := w.virt (y' := mN100) (W := 0) (C := "com/example/keyturn/keyturn/Options") (b := o) (w.pays 0 (rmOPo l Z a0 hw hEL ST o m0 ob us 2 qu y hv hh w.old T I X_y) (wq hw 575 rfl) (wq hw 115 rfl) all0 nle nle) (wq hw 571 rfl) (wq hw 572 rfl) (wq hw 574 rfl) (wq hw 573 rfl) (argsL := [(.int (2 : Int32))]) (rest := []) (by decide) X_o pd_51 rfl rfl nlr rfl at_941 oml oml (pc' := 944)
   obtain ⟨rfl, he1⟩ := hq1
   replace w := w.toS [(.ref y)]
   replace he1 := he1.symm
   subst he1
   replace w := (w.aload at_944 rfl).iconst (pc' := 947) (2 : Int32) at_946
   obtain ⟨v2, V2, h2, hq2, A2, w⟩ := w.face (xi := mN88) (y' := mN20) (W := 1) (C := "java/util/ArrayList") (b := wn) (w.pays 1 (rmALg l Z a0 hw hEL wn tw kw ws mw h10 2 q y' hv' hh w.old TW) (wq hw 367 rfl) (wq hw 46 rfl) all0 nle nle) (wq hw 559 rfl) (wq hw 361 rfl) (wq hw 362 rfl) (wq hw 363 rfl) (wq hw 364 rfl) (wq hw 365 rfl) (wq hw 366 rfl) (wq hw 150 rfl) (argsL := [(.int (2 : Int32))]) (rest := [(.ref y)]) (by decide) (X_wn) pd_10 rfl rfl nlr rfl at_947 oml oml (pc' := 952)
   obtain ⟨rfl, he2⟩ := hq2
   replace w := w.toS [(.ref y'), (.ref y)]
   replace he2 := he2.symm
   subst he2
   obtain ⟨v3, V3, h3, hq3, A3, w⟩ := w.virt (y' := mN11) (W := 0) (C := "java/lang/String") (b := y) (w.payEq (W := 0) hwe (wq hw 1 rfl) U U' Sc hz0 (by omega) (by omega) nle nle) (wq hw 565 rfl) (wq hw 383 rfl) (wq hw 384 rfl) (wq hw 101 rfl) (argsL := [(.ref y')]) (rest := []) (by decide) X_y pd_15 rfl rfl nlr rfl at_952 oml oml (pc' := 955)
   obtain ⟨hv3, he3⟩ := hq3
   replace he3 := he3.symm
   subst he3
   rcases hv3 with ⟨rfl, -⟩ | ⟨-, hc⟩
   rotate_left
   · exact absurd rfl hc
   replace w := ((((w.toS [(.int (1 : Int32))]).ifNo at_955 (by decide)).iconst (1 : Int32) at_958).goto at_959).istore (pc' := 965) (L' := #[d0, d1, d2, d3, d4, d5, d6, d7, d8, d9, d10, d11, d12, d13, d14, d15, d16, d17, d18, d19, d20, d21, d22, d23, d24, d25, d26, d27, d28, .val (.ref wn), .val (.ref o), .val (.int (1 : Int32)), d32, d33, .val (.int (Int32.ofNat ws.length))]) at_963 rfl
   exact t965 l Z a0 hw hEL z0 Sc hz0 ST oml oml hh o m0 ob wn tw n1 n2 us ws T TO HW HS d0 d1 d2 d3 d4 d5 d6 d7 d8 d9 d10 d11 d12 d13 d14 d15 d16 d17 d18 d19 d20 d21 d22 d23 d24 d25 d26 d27 d28 d32 d33 w
 replace w := w.icmpYes (pc' := 965) at_930 ((flt (fun z => q ((own_lt32 (a := 2) (b := ws.length) (by omega) (by omega)).mp z))).2.2.2)
 exact t965 l Z a0 hw hEL z0 Sc hz0 ST hcl hsl hh o m0 ob wn tw n1 n2 us ws T TO HW HS d0 d1 d2 d3 d4 d5 d6 d7 d8 d9 d10 d11 d12 d13 d14 d15 d16 d17 d18 d19 d20 d21 d22 d23 d24 d25 d26 d27 d28 d32 d33 w
theorem t889 (l : Launch) (Z : State) (a0 : Array Value) (hw : HW Z a0) (hEL : EW Z a0 consts_1) (z0 : Int32) (Sc : SC Z z0) (hz0 : ¬ z0 = 0) {p : Program} {e : Env} {s : State} {m : MethodId} {args : Array Value} {below : List Frame} {meth : Method} {c : Code} {S0 : State} {dc : Addr} {kd : ClassId} {es el em mr le : Addr} {kl : ClassId} (ST : Stt Z dc kd es el em mr le kl) {V : Vm} {cl sl : Nat} (hcl : cl ≤ 112) (hsl : sl ≤ 4608) (hh : Heap) (o m0 ob wn tw n1 n2 : Addr) (us ws : List Value) (T : OPp Z hh o m0 ob) (TO : OL Z hh em el ob us) (HW : LL Z hh dc wn tw ws) (HS : SPr Z hh n1 n2 us ws) (d0 d1 d2 d3 d4 d5 d6 d7 d8 d9 d10 d11 d12 d13 d14 d15 d16 d17 d18 d19 d20 d21 d22 d23 d24 d25 d26 d27 d28 d32 d33 : Slot) (w : Wk p l e room_1 s m args below meth c Z a0 consts_1 S0 Jvm.Pilot.@@N@@.x code maxLocals ret V hh cl sl (mkF m 889 #[d0, d1, d2, d3, d4, d5, d6, d7, d8, d9, d10, d11, d12, d13, d14, d15, d16, d17, d18, d19, d20, d21, d22, d23, d24, d25, d26, d27, d28, .val (.ref wn), .val (.ref o), .val (.int (1 : Int32)), d32, d33, .val (.int (Int32.ofNat ws.length))] [])) : Fini p e below s Z consts_1 S0 112 4608 (fun v h => v = some (.int 1)) := by
 obtain ⟨Sd, Dd, Xd, Ss, Xs, Fz, Sl, Xl, Fe0, Al0, Fn0, Se, Xe, Mr⟩ := id ST
 have hwe := own_wordsEq hw
 have h10 := HW.len
 have X_o := T.1
 replace w := (w.iload at_889 rfl).iconst (pc' := 892) (1 : Int32) at_891
 by_cases q : 1 < ws.length
 ·
   obtain ⟨y, y', cs, hv, hv', U, U', hcs, -⟩ := HS.2 _ q
   have X_y := U.exa
   have qu : 1 < us.length := by rw [HS.1]; exact q
   have I := own_olIL TO (fun z => by rw [z] at qu; simp at qu)
   obtain ⟨-, -, kw, mw, TW⟩ := HW.resolve_left (fun z => by rw [z.2.1] at q; simp at q)
   have X_wn := TW.1
   replace w := ((((w.icmpNo (pc' := 895) at_892 ((tlt ((own_lt32 (a := 1) (b := ws.length) (by omega) (by omega)).mpr q)).2.2.2)).iload at_895 rfl).ifNo at_897 (by decide)).aload at_900 rfl).iconst (pc' := 903) (1 : Int32) at_902
   obtain ⟨v1, V1, h1, hq1, A1, w⟩ := w.virt (y' := mN100) (W := 0) (C := "com/example/keyturn/keyturn/Options") (b := o) (w.pays 0 (rmOPo l Z a0 hw hEL ST o m0 ob us 1 qu y hv hh w.old T I X_y) (wq hw 575 rfl) (wq hw 115 rfl) all0 nle nle) (wq hw 571 rfl) (wq hw 572 rfl) (wq hw 574 rfl) (wq hw 573 rfl) (argsL := [(.int (1 : Int32))]) (rest := []) (by decide) X_o pd_51 rfl rfl nlr rfl at_903 oml oml (pc' := 906)
   obtain ⟨rfl, he1⟩ := hq1
   replace w := w.toS [(.ref y)]
   replace he1 := he1.symm
   subst he1
   replace w := (w.aload at_906 rfl).iconst (pc' := 909) (1 : Int32) at_908
   obtain ⟨v2, V2, h2, hq2, A2, w⟩ := w.face (xi := mN88) (y' := mN20) (W := 1) (C := "java/util/ArrayList") (b := wn) (w.pays 1 (rmALg l Z a0 hw hEL wn tw kw ws mw h10 1 q y' hv' hh w.old TW) (wq hw 367 rfl) (wq hw 46 rfl) all0 nle nle) (wq hw 559 rfl) (wq hw 361 rfl) (wq hw 362 rfl) (wq hw 363 rfl) (wq hw 364 rfl) (wq hw 365 rfl) (wq hw 366 rfl) (wq hw 150 rfl) (argsL := [(.int (1 : Int32))]) (rest := [(.ref y)]) (by decide) (X_wn) pd_10 rfl rfl nlr rfl at_909 oml oml (pc' := 914)
   obtain ⟨rfl, he2⟩ := hq2
   replace w := w.toS [(.ref y'), (.ref y)]
   replace he2 := he2.symm
   subst he2
   obtain ⟨v3, V3, h3, hq3, A3, w⟩ := w.virt (y' := mN11) (W := 0) (C := "java/lang/String") (b := y) (w.payEq (W := 0) hwe (wq hw 1 rfl) U U' Sc hz0 (by omega) (by omega) nle nle) (wq hw 565 rfl) (wq hw 383 rfl) (wq hw 384 rfl) (wq hw 101 rfl) (argsL := [(.ref y')]) (rest := []) (by decide) X_y pd_15 rfl rfl nlr rfl at_914 oml oml (pc' := 917)
   obtain ⟨hv3, he3⟩ := hq3
   replace he3 := he3.symm
   subst he3
   rcases hv3 with ⟨rfl, -⟩ | ⟨-, hc⟩
   rotate_left
   · exact absurd rfl hc
   replace w := ((((w.toS [(.int (1 : Int32))]).ifNo at_917 (by decide)).iconst (1 : Int32) at_920).goto at_921).istore (pc' := 927) (L' := #[d0, d1, d2, d3, d4, d5, d6, d7, d8, d9, d10, d11, d12, d13, d14, d15, d16, d17, d18, d19, d20, d21, d22, d23, d24, d25, d26, d27, d28, .val (.ref wn), .val (.ref o), .val (.int (1 : Int32)), d32, d33, .val (.int (Int32.ofNat ws.length))]) at_925 rfl
   exact t927 l Z a0 hw hEL z0 Sc hz0 ST oml oml hh o m0 ob wn tw n1 n2 us ws T TO HW HS d0 d1 d2 d3 d4 d5 d6 d7 d8 d9 d10 d11 d12 d13 d14 d15 d16 d17 d18 d19 d20 d21 d22 d23 d24 d25 d26 d27 d28 d32 d33 w
 replace w := w.icmpYes (pc' := 927) at_892 ((flt (fun z => q ((own_lt32 (a := 1) (b := ws.length) (by omega) (by omega)).mp z))).2.2.2)
 exact t927 l Z a0 hw hEL z0 Sc hz0 ST hcl hsl hh o m0 ob wn tw n1 n2 us ws T TO HW HS d0 d1 d2 d3 d4 d5 d6 d7 d8 d9 d10 d11 d12 d13 d14 d15 d16 d17 d18 d19 d20 d21 d22 d23 d24 d25 d26 d27 d28 d32 d33 w
theorem t852 (l : Launch) (Z : State) (a0 : Array Value) (hw : HW Z a0) (hEL : EW Z a0 consts_1) (z0 : Int32) (Sc : SC Z z0) (hz0 : ¬ z0 = 0) {p : Program} {e : Env} {s : State} {m : MethodId} {args : Array Value} {below : List Frame} {meth : Method} {c : Code} {S0 : State} {dc : Addr} {kd : ClassId} {es el em mr le : Addr} {kl : ClassId} (ST : Stt Z dc kd es el em mr le kl) {V : Vm} {cl sl : Nat} (hcl : cl ≤ 112) (hsl : sl ≤ 4608) (hh : Heap) (o m0 ob wn tw n1 n2 : Addr) (us ws : List Value) (T : OPp Z hh o m0 ob) (TO : OL Z hh em el ob us) (HW : LL Z hh dc wn tw ws) (HS : SPr Z hh n1 n2 us ws) (d0 d1 d2 d3 d4 d5 d6 d7 d8 d9 d10 d11 d12 d13 d14 d15 d16 d17 d18 d19 d20 d21 d22 d23 d24 d25 d26 d27 d28 d32 d33 : Slot) (w : Wk p l e room_1 s m args below meth c Z a0 consts_1 S0 Jvm.Pilot.@@N@@.x code maxLocals ret V hh cl sl (mkF m 852 #[d0, d1, d2, d3, d4, d5, d6, d7, d8, d9, d10, d11, d12, d13, d14, d15, d16, d17, d18, d19, d20, d21, d22, d23, d24, d25, d26, d27, d28, .val (.ref wn), .val (.ref o), .val (.int (1 : Int32)), d32, d33, .val (.int (Int32.ofNat ws.length))] [])) : Fini p e below s Z consts_1 S0 112 4608 (fun v h => v = some (.int 1)) := by
 obtain ⟨Sd, Dd, Xd, Ss, Xs, Fz, Sl, Xl, Fe0, Al0, Fn0, Se, Xe, Mr⟩ := id ST
 have hwe := own_wordsEq hw
 have h10 := HW.len
 have X_o := T.1
 replace w := w.iload (pc' := 854) at_852 rfl
 by_cases q : 0 < ws.length
 ·
   obtain ⟨y, y', cs, hv, hv', U, U', hcs, -⟩ := HS.2 _ q
   have X_y := U.exa
   have qu : 0 < us.length := by rw [HS.1]; exact q
   have I := own_olIL TO (fun z => by rw [z] at qu; simp at qu)
   obtain ⟨-, -, kw, mw, TW⟩ := HW.resolve_left (fun z => by rw [z.2.1] at q; simp at q)
   have X_wn := TW.1
   replace w := ((((w.ifNo (pc' := 857) at_854 ((if0 _ _).trans (tlt ((own_lt32 (a := 0) (b := ws.length) (by omega) (by omega)).mpr q)).2.2.2)).iload at_857 rfl).ifNo at_859 (by decide)).aload at_862 rfl).iconst (pc' := 865) (0 : Int32) at_864
   obtain ⟨v1, V1, h1, hq1, A1, w⟩ := w.virt (y' := mN100) (W := 0) (C := "com/example/keyturn/keyturn/Options") (b := o) (w.pays 0 (rmOPo l Z a0 hw hEL ST o m0 ob us 0 qu y hv hh w.old T I X_y) (wq hw 575 rfl) (wq hw 115 rfl) all0 nle nle) (wq hw 571 rfl) (wq hw 572 rfl) (wq hw 574 rfl) (wq hw 573 rfl) (argsL := [(.int (0 : Int32))]) (rest := []) (by decide) X_o pd_51 rfl rfl nlr rfl at_865 oml oml (pc' := 868)
   obtain ⟨rfl, he1⟩ := hq1
   replace w := w.toS [(.ref y)]
   replace he1 := he1.symm
   subst he1
   replace w := (w.aload at_868 rfl).iconst (pc' := 871) (0 : Int32) at_870
   obtain ⟨v2, V2, h2, hq2, A2, w⟩ := w.face (xi := mN88) (y' := mN20) (W := 1) (C := "java/util/ArrayList") (b := wn) (w.pays 1 (rmALg l Z a0 hw hEL wn tw kw ws mw h10 0 q y' hv' hh w.old TW) (wq hw 367 rfl) (wq hw 46 rfl) all0 nle nle) (wq hw 559 rfl) (wq hw 361 rfl) (wq hw 362 rfl) (wq hw 363 rfl) (wq hw 364 rfl) (wq hw 365 rfl) (wq hw 366 rfl) (wq hw 150 rfl) (argsL := [(.int (0 : Int32))]) (rest := [(.ref y)]) (by decide) (X_wn) pd_10 rfl rfl nlr rfl at_871 oml oml (pc' := 876)
   obtain ⟨rfl, he2⟩ := hq2
   replace w := w.toS [(.ref y'), (.ref y)]
   replace he2 := he2.symm
   subst he2
   obtain ⟨v3, V3, h3, hq3, A3, w⟩ := w.virt (y' := mN11) (W := 0) (C := "java/lang/String") (b := y) (w.payEq (W := 0) hwe (wq hw 1 rfl) U U' Sc hz0 (by omega) (by omega) nle nle) (wq hw 565 rfl) (wq hw 383 rfl) (wq hw 384 rfl) (wq hw 101 rfl) (argsL := [(.ref y')]) (rest := []) (by decide) X_y pd_15 rfl rfl nlr rfl at_876 oml oml (pc' := 879)
   obtain ⟨hv3, he3⟩ := hq3
   replace he3 := he3.symm
   subst he3
   rcases hv3 with ⟨rfl, -⟩ | ⟨-, hc⟩
   rotate_left
   · exact absurd rfl hc
   replace w := ((((w.toS [(.int (1 : Int32))]).ifNo at_879 (by decide)).iconst (1 : Int32) at_882).goto at_883).istore (pc' := 889) (L' := #[d0, d1, d2, d3, d4, d5, d6, d7, d8, d9, d10, d11, d12, d13, d14, d15, d16, d17, d18, d19, d20, d21, d22, d23, d24, d25, d26, d27, d28, .val (.ref wn), .val (.ref o), .val (.int (1 : Int32)), d32, d33, .val (.int (Int32.ofNat ws.length))]) at_887 rfl
   exact t889 l Z a0 hw hEL z0 Sc hz0 ST oml oml hh o m0 ob wn tw n1 n2 us ws T TO HW HS d0 d1 d2 d3 d4 d5 d6 d7 d8 d9 d10 d11 d12 d13 d14 d15 d16 d17 d18 d19 d20 d21 d22 d23 d24 d25 d26 d27 d28 d32 d33 w
 replace w := w.ifYes (pc' := 889) at_854 ((if0 _ _).trans (flt (fun z => q ((own_lt32 (a := 0) (b := ws.length) (by omega) (by omega)).mp z))).2.2.2)
 exact t889 l Z a0 hw hEL z0 Sc hz0 ST hcl hsl hh o m0 ob wn tw n1 n2 us ws T TO HW HS d0 d1 d2 d3 d4 d5 d6 d7 d8 d9 d10 d11 d12 d13 d14 d15 d16 d17 d18 d19 d20 d21 d22 d23 d24 d25 d26 d27 d28 d32 d33 w
theorem t843 (l : Launch) (Z : State) (a0 : Array Value) (hw : HW Z a0) (hEL : EW Z a0 consts_1) (z0 : Int32) (Sc : SC Z z0) (hz0 : ¬ z0 = 0) {p : Program} {e : Env} {s : State} {m : MethodId} {args : Array Value} {below : List Frame} {meth : Method} {c : Code} {S0 : State} {dc : Addr} {kd : ClassId} {es el em mr le : Addr} {kl : ClassId} (ST : Stt Z dc kd es el em mr le kl) {V : Vm} {cl sl : Nat} (hcl : cl ≤ 112) (hsl : sl ≤ 4608) (hh : Heap) (o m0 ob wn tw n1 n2 : Addr) (us ws : List Value) (T : OPp Z hh o m0 ob) (TO : OL Z hh em el ob us) (HW : LL Z hh dc wn tw ws) (HS : SPr Z hh n1 n2 us ws) (d0 d1 d2 d3 d4 d5 d6 d7 d8 d9 d10 d11 d12 d13 d14 d15 d16 d17 d18 d19 d20 d21 d22 d23 d24 d25 d26 d27 d28 d32 d33 : Slot) (w : Wk p l e room_1 s m args below meth c Z a0 consts_1 S0 Jvm.Pilot.@@N@@.x code maxLocals ret V hh cl sl (mkF m 843 #[d0, d1, d2, d3, d4, d5, d6, d7, d8, d9, d10, d11, d12, d13, d14, d15, d16, d17, d18, d19, d20, d21, d22, d23, d24, d25, d26, d27, d28, .val (.ref wn), .val (.ref o), .val (.int (1 : Int32)), d32, d33, .unset] [])) : Fini p e below s Z consts_1 S0 112 4608 (fun v h => v = some (.int 1)) := by
 have X_wn := HW.exa
 have Fs := HW.size
 replace w := w.aload (pc' := 845) at_843 rfl
 obtain ⟨v1, V1, h1, hq1, A1, w⟩ := w.face (xi := mN87) (y' := mN15) (W := 0) (C := "java/util/ArrayList") (b := wn) (w.pays 0 (rmALs l Z a0 hw hEL wn _ hh w.old Fs) (wq hw 151 rfl) (wq hw 46 rfl) all0 nle nle) (wq hw 323 rfl) (wq hw 144 rfl) (wq hw 145 rfl) (wq hw 146 rfl) (wq hw 147 rfl) (wq hw 148 rfl) (wq hw 149 rfl) (wq hw 150 rfl) (argsL := []) (rest := []) (by decide) (X_wn) pd_4 rfl rfl nlr rfl at_845 oml oml (pc' := 850)
 obtain ⟨rfl, he1⟩ := hq1
 replace w := w.toS [(.int (Int32.ofNat ws.length))]
 replace he1 := he1.symm
 subst he1
 replace w := w.istore (pc' := 852) (L' := #[d0, d1, d2, d3, d4, d5, d6, d7, d8, d9, d10, d11, d12, d13, d14, d15, d16, d17, d18, d19, d20, d21, d22, d23, d24, d25, d26, d27, d28, .val (.ref wn), .val (.ref o), .val (.int (1 : Int32)), d32, d33, .val (.int (Int32.ofNat ws.length))]) at_850 rfl
 exact t852 l Z a0 hw hEL z0 Sc hz0 ST oml oml hh o m0 ob wn tw n1 n2 us ws T TO HW HS d0 d1 d2 d3 d4 d5 d6 d7 d8 d9 d10 d11 d12 d13 d14 d15 d16 d17 d18 d19 d20 d21 d22 d23 d24 d25 d26 d27 d28 d32 d33 w
theorem t783 (l : Launch) (Z : State) (a0 : Array Value) (hw : HW Z a0) (hEL : EW Z a0 consts_1) (z0 : Int32) (Sc : SC Z z0) (hz0 : ¬ z0 = 0) {p : Program} {e : Env} {s : State} {m : MethodId} {args : Array Value} {below : List Frame} {meth : Method} {c : Code} {S0 : State} {dc : Addr} {kd : ClassId} {es el em mr le : Addr} {kl : ClassId} (ST : Stt Z dc kd es el em mr le kl) {V : Vm} {cl sl : Nat} (hcl : cl ≤ 112) (hsl : sl ≤ 4608) (hh : Heap) (o m0 ob wn tw n1 n2 : Addr) (us ws : List Value) (T : OPp Z hh o m0 ob) (TO : OL Z hh em el ob us) (HW : LL Z hh dc wn tw ws) (HS : SPr Z hh n1 n2 us ws) (b2 v2 : Addr) (cv : List Int32) (bx : EN) (hv1 : ∀ q, bx = some q → q.1 = v2) (U : Str Z hh v2 cv) (hcv : cv.length ≤ 9) (O : OL Z hh em el b2 (own_vals bx)) (d0 d1 d2 d3 d4 d5 d6 d7 d8 d9 d11 d12 d13 d15 d16 d17 d18 d19 d20 d21 d22 d23 d24 d25 d26 d27 d28 d32 : Slot) (w : Wk p l e room_1 s m args below meth c Z a0 consts_1 S0 Jvm.Pilot.@@N@@.x code maxLocals ret V hh cl sl (mkF m 783 #[d0, d1, d2, d3, d4, d5, d6, d7, d8, d9, .val (.ref v2), d11, d12, d13, .val (.int (own_fl bx.isSome)), d15, d16, d17, d18, d19, d20, d21, d22, d23, d24, d25, d26, d27, d28, .val (.ref wn), .val (.ref o), .val (.int (1 : Int32)), d32, .val (.ref b2), .unset] [])) : Fini p e below s Z consts_1 S0 112 4608 (fun v h => v = some (.int 1)) := by
 obtain ⟨Sd, Dd, Xd, Ss, Xs, Fz, Sl, Xl, Fe0, Al0, Fn0, Se, Xe, Mr⟩ := id ST
 have hwe := own_wordsEq hw
 replace w := ((w.iload at_783 rfl).ifNo at_785 (by decide)).iload (pc' := 790) at_788 rfl
 match bx, hv1, O, w with
 | none, hv1, O, w =>
   have eb := own_ol0 O
   subst eb
   have X_b2 := Xl.ext w.old
   replace w := (w.ifYes at_790 (rfl)).aload (pc' := 828) at_826 rfl
   obtain ⟨v1, V1, h1, hq1, A1, w⟩ := w.face (xi := mN87) (y' := mN43) (W := 0) (C := "java/util/ImmutableCollections$ListN") (b := b2) (w.pays 0 (rmLNs0 l Z a0 hw hEL b2 le kl hh w.old (Fe0.ext w.old) (Al0.ext w.old)) (wq hw 329 rfl) (wq hw 328 rfl) all0 nle nle) (wq hw 323 rfl) (wq hw 144 rfl) (wq hw 145 rfl) (wq hw 324 rfl) (wq hw 325 rfl) (wq hw 326 rfl) (wq hw 327 rfl) (wq hw 322 rfl) (argsL := []) (rest := []) (by decide) (X_b2) pd_4 rfl rfl nlr rfl at_828 oml oml (pc' := 833)
   obtain ⟨rfl, he1⟩ := hq1
   replace w := w.toS [(.int (0 : Int32))]
   replace he1 := he1.symm
   subst he1
   replace w := (((w.ifNo at_833 (by decide)).iconst (1 : Int32) at_836).goto at_837).istore (pc' := 843) (L' := #[d0, d1, d2, d3, d4, d5, d6, d7, d8, d9, .val (.ref v2), d11, d12, d13, .val (.int (own_fl (none : EN).isSome)), d15, d16, d17, d18, d19, d20, d21, d22, d23, d24, d25, d26, d27, d28, .val (.ref wn), .val (.ref o), .val (.int (1 : Int32)), d32, .val (.ref b2), .unset]) at_841 rfl
   exact t843 l Z a0 hw hEL z0 Sc hz0 ST oml oml hh o m0 ob wn tw n1 n2 us ws T TO HW HS d0 d1 d2 d3 d4 d5 d6 d7 d8 d9 _ d11 d12 d13 _ d15 d16 d17 d18 d19 d20 d21 d22 d23 d24 d25 d26 d27 d28 d32 _ w
 | some (v0, nd, L, tl, kl), hv1, O, w =>
   have ev : v2 = v0 := (hv1 _ rfl).symm
   subst ev
   obtain ⟨X_b2, F0, F1⟩ := own_ol1 O
   have X_v2 := U.exa
   replace w := (w.ifNo at_790 (rfl)).aload (pc' := 795) at_793 rfl
   obtain ⟨v2, V2, h2, hq2, A2, w⟩ := w.face (xi := mN87) (y' := mN40) (W := 0) (C := "java/util/ImmutableCollections$List12") (b := b2) (w.pays 0 (rmL12s1 l Z a0 hw hEL em Se b2 hh w.old F1) (wq hw 558 rfl) (wq hw 533 rfl) all0 nle nle) (wq hw 323 rfl) (wq hw 144 rfl) (wq hw 145 rfl) (wq hw 553 rfl) (wq hw 554 rfl) (wq hw 555 rfl) (wq hw 556 rfl) (wq hw 557 rfl) (argsL := []) (rest := []) (by decide) (X_b2) pd_4 rfl rfl nlr rfl at_795 oml oml (pc' := 800)
   obtain ⟨rfl, he2⟩ := hq2
   replace w := w.toS [(.int (1 : Int32))]
   replace he2 := he2.symm
   subst he2
   replace w := (((w.iconst (1 : Int32) at_800).icmpNo at_801 (by decide)).aload at_804 rfl).iconst (pc' := 807) (0 : Int32) at_806
   obtain ⟨v3, V3, h3, hq3, A3, w⟩ := w.face (xi := mN88) (y' := mN41) (W := 0) (C := "java/util/ImmutableCollections$List12") (b := b2) (w.pays 0 (rmL12g0 l Z a0 hw hEL b2 v2 hh w.old F0) (wq hw 564 rfl) (wq hw 533 rfl) all0 nle nle) (wq hw 559 rfl) (wq hw 361 rfl) (wq hw 362 rfl) (wq hw 560 rfl) (wq hw 561 rfl) (wq hw 562 rfl) (wq hw 563 rfl) (wq hw 557 rfl) (argsL := [(.int (0 : Int32))]) (rest := []) (by decide) (X_b2) pd_10 rfl rfl nlr rfl at_807 oml oml (pc' := 812)
   obtain ⟨rfl, he3⟩ := hq3
   replace w := w.toS [(.ref v2)]
   replace he3 := he3.symm
   subst he3
   replace w := (w.cast (wq hw 0 rfl) (Ins.self X_v2) at_812).aload (pc' := 817) at_815 rfl
   obtain ⟨v4, V4, h4, hq4, A4, w⟩ := w.virt (y' := mN11) (W := 0) (C := "java/lang/String") (b := v2) (w.payEq (W := 0) hwe (wq hw 1 rfl) U U Sc hz0 (by omega) (by omega) nle nle) (wq hw 565 rfl) (wq hw 383 rfl) (wq hw 384 rfl) (wq hw 101 rfl) (argsL := [(.ref v2)]) (rest := []) (by decide) X_v2 pd_15 rfl rfl nlr rfl at_817 oml oml (pc' := 820)
   obtain ⟨hv4, he4⟩ := hq4
   replace he4 := he4.symm
   subst he4
   rcases hv4 with ⟨rfl, -⟩ | ⟨-, hc⟩
   rotate_left
   · exact absurd rfl hc
   replace w := (((((w.toS [(.int (1 : Int32))]).ifNo at_820 (by decide)).goto at_823).iconst (1 : Int32) at_836).goto at_837).istore (pc' := 843) (L' := #[d0, d1, d2, d3, d4, d5, d6, d7, d8, d9, .val (.ref v2), d11, d12, d13, .val (.int (own_fl (some (v2, nd, L, tl, kl) : EN).isSome)), d15, d16, d17, d18, d19, d20, d21, d22, d23, d24, d25, d26, d27, d28, .val (.ref wn), .val (.ref o), .val (.int (1 : Int32)), d32, .val (.ref b2), .unset]) at_841 rfl
   exact t843 l Z a0 hw hEL z0 Sc hz0 ST oml oml hh o m0 ob wn tw n1 n2 us ws T TO HW HS d0 d1 d2 d3 d4 d5 d6 d7 d8 d9 _ d11 d12 d13 _ d15 d16 d17 d18 d19 d20 d21 d22 d23 d24 d25 d26 d27 d28 d32 _ w
theorem t723 (l : Launch) (Z : State) (a0 : Array Value) (hw : HW Z a0) (hEL : EW Z a0 consts_1) (z0 : Int32) (Sc : SC Z z0) (hz0 : ¬ z0 = 0) {p : Program} {e : Env} {s : State} {m : MethodId} {args : Array Value} {below : List Frame} {meth : Method} {c : Code} {S0 : State} {dc : Addr} {kd : ClassId} {es el em mr le : Addr} {kl : ClassId} (ST : Stt Z dc kd es el em mr le kl) {V : Vm} {cl sl : Nat} (hcl : cl ≤ 112) (hsl : sl ≤ 4608) (hh : Heap) (o m0 ob wn tw n1 n2 : Addr) (us ws : List Value) (T : OPp Z hh o m0 ob) (TO : OL Z hh em el ob us) (HW : LL Z hh dc wn tw ws) (HS : SPr Z hh n1 n2 us ws) (b1 v1 : Addr) (cv : List Int32) (bx : EN) (hv1 : ∀ q, bx = some q → q.1 = v1) (U : Str Z hh v1 cv) (hcv : cv.length ≤ 9) (O : OL Z hh em el b1 (own_vals bx)) (b2 v2 : Addr) (cv2 : List Int32) (by' : EN) (hv2 : ∀ q, by' = some q → q.1 = v2) (U2 : Str Z hh v2 cv2) (hc2 : cv2.length ≤ 9) (O2 : OL Z hh em el b2 (own_vals by')) (d0 d1 d2 d3 d4 d5 d6 d7 d8 d11 d12 d15 d16 d17 d18 d19 d20 d21 d22 d23 d24 d25 d26 d27 d28 : Slot) (w : Wk p l e room_1 s m args below meth c Z a0 consts_1 S0 Jvm.Pilot.@@N@@.x code maxLocals ret V hh cl sl (mkF m 723 #[d0, d1, d2, d3, d4, d5, d6, d7, d8, .val (.ref v1), .val (.ref v2), d11, d12, .val (.int (own_fl bx.isSome)), .val (.int (own_fl by'.isSome)), d15, d16, d17, d18, d19, d20, d21, d22, d23, d24, d25, d26, d27, d28, .val (.ref wn), .val (.ref o), .val (.int (1 : Int32)), .val (.ref b1), .val (.ref b2), .unset] [])) : Fini p e below s Z consts_1 S0 112 4608 (fun v h => v = some (.int 1)) := by
 obtain ⟨Sd, Dd, Xd, Ss, Xs, Fz, Sl, Xl, Fe0, Al0, Fn0, Se, Xe, Mr⟩ := id ST
 have hwe := own_wordsEq hw
 replace w := ((w.iload at_723 rfl).ifNo at_725 (by decide)).iload (pc' := 730) at_728 rfl
 match bx, hv1, O, w with
 | none, hv1, O, w =>
   have eb := own_ol0 O
   subst eb
   have X_b1 := Xl.ext w.old
   replace w := (w.ifYes at_730 (rfl)).aload (pc' := 768) at_766 rfl
   obtain ⟨v1, V1, h1, hq1, A1, w⟩ := w.face (xi := mN87) (y' := mN43) (W := 0) (C := "java/util/ImmutableCollections$ListN") (b := b1) (w.pays 0 (rmLNs0 l Z a0 hw hEL b1 le kl hh w.old (Fe0.ext w.old) (Al0.ext w.old)) (wq hw 329 rfl) (wq hw 328 rfl) all0 nle nle) (wq hw 323 rfl) (wq hw 144 rfl) (wq hw 145 rfl) (wq hw 324 rfl) (wq hw 325 rfl) (wq hw 326 rfl) (wq hw 327 rfl) (wq hw 322 rfl) (argsL := []) (rest := []) (by decide) (X_b1) pd_4 rfl rfl nlr rfl at_768 oml oml (pc' := 773)
   obtain ⟨rfl, he1⟩ := hq1
   replace w := w.toS [(.int (0 : Int32))]
   replace he1 := he1.symm
   subst he1
   replace w := (((w.ifNo at_773 (by decide)).iconst (1 : Int32) at_776).goto at_777).istore (pc' := 783) (L' := #[d0, d1, d2, d3, d4, d5, d6, d7, d8, .val (.ref v1), .val (.ref v2), d11, d12, .val (.int (own_fl (none : EN).isSome)), .val (.int (own_fl by'.isSome)), d15, d16, d17, d18, d19, d20, d21, d22, d23, d24, d25, d26, d27, d28, .val (.ref wn), .val (.ref o), .val (.int (1 : Int32)), .val (.ref b1), .val (.ref b2), .unset]) at_781 rfl
   exact t783 l Z a0 hw hEL z0 Sc hz0 ST oml oml hh o m0 ob wn tw n1 n2 us ws T TO HW HS b2 v2 cv2 by' hv2 U2 hc2 O2 d0 d1 d2 d3 d4 d5 d6 d7 d8 _ d11 d12 _ d15 d16 d17 d18 d19 d20 d21 d22 d23 d24 d25 d26 d27 d28 _ w
 | some (v0, nd, L, tl, kl), hv1, O, w =>
   have ev : v1 = v0 := (hv1 _ rfl).symm
   subst ev
   obtain ⟨X_b1, F0, F1⟩ := own_ol1 O
   have X_v1 := U.exa
   replace w := (w.ifNo at_730 (rfl)).aload (pc' := 735) at_733 rfl
   obtain ⟨v2, V2, h2, hq2, A2, w⟩ := w.face (xi := mN87) (y' := mN40) (W := 0) (C := "java/util/ImmutableCollections$List12") (b := b1) (w.pays 0 (rmL12s1 l Z a0 hw hEL em Se b1 hh w.old F1) (wq hw 558 rfl) (wq hw 533 rfl) all0 nle nle) (wq hw 323 rfl) (wq hw 144 rfl) (wq hw 145 rfl) (wq hw 553 rfl) (wq hw 554 rfl) (wq hw 555 rfl) (wq hw 556 rfl) (wq hw 557 rfl) (argsL := []) (rest := []) (by decide) (X_b1) pd_4 rfl rfl nlr rfl at_735 oml oml (pc' := 740)
   obtain ⟨rfl, he2⟩ := hq2
   replace w := w.toS [(.int (1 : Int32))]
   replace he2 := he2.symm
   subst he2
   replace w := (((w.iconst (1 : Int32) at_740).icmpNo at_741 (by decide)).aload at_744 rfl).iconst (pc' := 747) (0 : Int32) at_746
   obtain ⟨v3, V3, h3, hq3, A3, w⟩ := w.face (xi := mN88) (y' := mN41) (W := 0) (C := "java/util/ImmutableCollections$List12") (b := b1) (w.pays 0 (rmL12g0 l Z a0 hw hEL b1 v1 hh w.old F0) (wq hw 564 rfl) (wq hw 533 rfl) all0 nle nle) (wq hw 559 rfl) (wq hw 361 rfl) (wq hw 362 rfl) (wq hw 560 rfl) (wq hw 561 rfl) (wq hw 562 rfl) (wq hw 563 rfl) (wq hw 557 rfl) (argsL := [(.int (0 : Int32))]) (rest := []) (by decide) (X_b1) pd_10 rfl rfl nlr rfl at_747 oml oml (pc' := 752)
   obtain ⟨rfl, he3⟩ := hq3
   replace w := w.toS [(.ref v1)]
   replace he3 := he3.symm
   subst he3
   replace w := (w.cast (wq hw 0 rfl) (Ins.self X_v1) at_752).aload (pc' := 757) at_755 rfl
   obtain ⟨v4, V4, h4, hq4, A4, w⟩ := w.virt (y' := mN11) (W := 0) (C := "java/lang/String") (b := v1) (w.payEq (W := 0) hwe (wq hw 1 rfl) U U Sc hz0 (by omega) (by omega) nle nle) (wq hw 565 rfl) (wq hw 383 rfl) (wq hw 384 rfl) (wq hw 101 rfl) (argsL := [(.ref v1)]) (rest := []) (by decide) X_v1 pd_15 rfl rfl nlr rfl at_757 oml oml (pc' := 760)
   obtain ⟨hv4, he4⟩ := hq4
   replace he4 := he4.symm
   subst he4
   rcases hv4 with ⟨rfl, -⟩ | ⟨-, hc⟩
   rotate_left
   · exact absurd rfl hc
   replace w := (((((w.toS [(.int (1 : Int32))]).ifNo at_760 (by decide)).goto at_763).iconst (1 : Int32) at_776).goto at_777).istore (pc' := 783) (L' := #[d0, d1, d2, d3, d4, d5, d6, d7, d8, .val (.ref v1), .val (.ref v2), d11, d12, .val (.int (own_fl (some (v1, nd, L, tl, kl) : EN).isSome)), .val (.int (own_fl by'.isSome)), d15, d16, d17, d18, d19, d20, d21, d22, d23, d24, d25, d26, d27, d28, .val (.ref wn), .val (.ref o), .val (.int (1 : Int32)), .val (.ref b1), .val (.ref b2), .unset]) at_781 rfl
   exact t783 l Z a0 hw hEL z0 Sc hz0 ST oml oml hh o m0 ob wn tw n1 n2 us ws T TO HW HS b2 v2 cv2 by' hv2 U2 hc2 O2 d0 d1 d2 d3 d4 d5 d6 d7 d8 _ d11 d12 _ d15 d16 d17 d18 d19 d20 d21 d22 d23 d24 d25 d26 d27 d28 _ w
def T3s (Z : State) (h : Heap) (dc em el o m0 ob wn tw n1 n2 : Addr) (us ws : List Value) (v1 v2 : Addr) (cv1 cv2 : List Int32) : Prop :=
 OPp Z h o m0 ob ∧ OL Z h em el ob us ∧ LL Z h dc wn tw ws ∧ SPr Z h n1 n2 us ws ∧ Str Z h v1 cv1 ∧ Str Z h v2 cv2
theorem T3s.keepS {Z : State} {h h' : Heap} {a0 : Array Value} (hw : HW Z a0) {dc em el o m0 ob wn tw n1 n2 n : Addr} {us ws : List Value} {v1 v2 : Addr} {cv1 cv2 : List Int32} (hdc : dc < Z.heap.size) (K : Keep h h' [n]) (X : Exa Z h n "java/lang/String") (hn : n = n1 ∨ n = n2) (m1 : v1 ≠ n) (m2 : v2 ≠ n) (T : T3s Z h dc em el o m0 ob wn tw n1 n2 us ws v1 v2 cv1 cv2) : T3s Z h' dc em el o m0 ob wn tw n1 n2 us ws v1 v2 cv1 cv2 := by
 obtain ⟨a1, a2, a3, a4, a5, a6⟩ := T
 have nb : ∀ (t : Addr) (k : ClassId) (q : Int32) (us : List Value) (dv : Value), Arv Z h t k .byte q us dv → t ∉ [n] := fun t k q us dv A => ninS (Exa.neArv X A (wq hw 1 rfl)).symm nin0
 refine ⟨a1.keepS K X, a2.imp id (fun q => q.keepX K X (by decide) (by decide) (wq hw 1 rfl)), own_llS hw hdc (own_keepW K (by simp) : Keep h h' [n, n]) X X a3, ⟨a4.1, fun j hj => ?_⟩, own_strK K (ninS m1 nin0) nb a5, own_strK K (ninS m2 nin0) nb a6⟩
 obtain ⟨y, y', cs, e1, e2, U, U', q1, q2, q3, q4, q5⟩ := a4.2 j hj
 exact ⟨y, y', cs, e1, e2, own_strK K (ninS (by rcases hn with rfl | rfl <;> assumption) nin0) nb U, own_strK K (ninS (by rcases hn with rfl | rfl <;> assumption) nin0) nb U', q1, q2, q3, q4, q5⟩
theorem T3s.ext {Z : State} {h h' : Heap} {dc em el o m0 ob wn tw n1 n2 : Addr} {us ws : List Value} {v1 v2 : Addr} {cv1 cv2 : List Int32} (E : Ext h h') (T : T3s Z h dc em el o m0 ob wn tw n1 n2 us ws v1 v2 cv1 cv2) : T3s Z h' dc em el o m0 ob wn tw n1 n2 us ws v1 v2 cv1 cv2 := by
 obtain ⟨a1, a2, a3, a4, a5, a6⟩ := T
 exact ⟨a1.ext E, a2.ext E, a3.ext E, a4.ext E, a5.ext E, a6.ext E⟩
theorem own_obsV {Z : State} {h : Heap} {a0 : Array Value} (hw : HW Z a0) {em v : Addr} {cs : List Int32} {b : EN} (hx : Ext Z.heap h) (Xe : Exa Z Z.heap em "java/lang/Object") (U : Str Z h v cs) (hb : ∀ q, b = some q → q.1 = v) : Obs Z h em (own_vals b) := fun u hu => by
 match b, hb with
 | none, _ => cases hu
 | some (v0, nd, L, tl, kl), hb =>
   have e : v0 = v := hb _ rfl
   subst e
   cases List.mem_singleton.mp hu
   exact ⟨v0, rfl, own_insO hw U, own_oem hx Xe U⟩
theorem OL.keepS {Z : State} {h h' : Heap} {a0 : Array Value} (hw : HW Z a0) {em el b n : Addr} {vs : List Value} (K : Keep h h' [n]) (X : Exa Z h n "java/lang/String") (S : OL Z h em el b vs) : OL Z h' em el b vs := S.imp id (fun q => q.keepX K X (by decide) (by decide) (wq hw 1 rfl))
theorem t674 (l : Launch) (Z : State) (a0 : Array Value) (hw : HW Z a0) (hEL : EW Z a0 consts_1) (z0 : Int32) (Sc : SC Z z0) (hz0 : ¬ z0 = 0) {p : Program} {e : Env} {s : State} {m : MethodId} {args : Array Value} {below : List Frame} {meth : Method} {c : Code} {S0 : State} {dc : Addr} {kd : ClassId} {es el em mr le : Addr} {kl : ClassId} (ST : Stt Z dc kd es el em mr le kl) {V : Vm} {cl sl : Nat} (hcl : cl + 8 ≤ 112) (hsl : sl + 60 ≤ 4608) (hh : Heap) (o m0 ob wn tw n1 n2 : Addr) (us ws : List Value) (v1 v2 : Addr) (cv1 cv2 : List Int32) (hc1 : cv1.length ≤ 1) (hc2 : cv2.length ≤ 1) (T : T3s Z hh dc em el o m0 ob wn tw n1 n2 us ws v1 v2 cv1 cv2) (lb : Nat) (c1 c2 : Int32) (bx bz : EN) (P : MP Z lb hh m0 n1 n2 c1 c2 bx bz) (S1 : Key Z hh n1 c1) (S2 : Key Z hh n2 c2) (hn12 : n1 ≠ n2) (hb1 : ∀ q, bx = some q → q.1 = v1) (hb2 : ∀ q, bz = some q → q.1 = v2) (d0 d1 d2 d3 d4 d5 d8 d11 d12 d15 d16 d17 d18 d19 d20 d21 d22 d23 d24 d25 d26 d27 d28 : Slot) (w : Wk p l e room_1 s m args below meth c Z a0 consts_1 S0 Jvm.Pilot.@@N@@.x code maxLocals ret V hh cl sl (mkF m 674 #[d0, d1, d2, d3, d4, d5, .val (.ref n1), .val (.ref n2), d8, .val (.ref v1), .val (.ref v2), d11, d12, .val (.int (own_fl bx.isSome)), .val (.int (own_fl bz.isSome)), d15, d16, d17, d18, d19, d20, d21, d22, d23, d24, d25, d26, d27, d28, .val (.ref wn), .val (.ref o), .unset, .unset, .unset, .unset] [])) : Fini p e below s Z consts_1 S0 112 4608 (fun v h => v = some (.int 1)) := by
 obtain ⟨Sd, Dd, Xd, Ss, Xs, Fz, Sl, Xl, Fe0, Al0, Fn0, Se, Xe, Mr⟩ := id ST
 have hdc : dc < Z.heap.size := Dd.lt
 have m11 := own_strNe T.2.2.2.2.1 S1.str (by omega) (by simp) (by simp; omega)
 have m12 := own_strNe T.2.2.2.2.1 S2.str (by omega) (by simp) (by simp; omega)
 have m21 := own_strNe T.2.2.2.2.2 S1.str (by omega) (by simp) (by simp; omega)
 have m22 := own_strNe T.2.2.2.2.2 S2.str (by omega) (by simp) (by simp; omega)
 have X_o := T.1.1
 replace w := (w.aload at_674 rfl).aload (pc' := 678) at_676 rfl
 obtain ⟨v1, V1, h1, hq1, A1, w⟩ := w.virt (y' := mN97) (W := 0) (C := "com/example/keyturn/keyturn/Options") (b := o) (w.pays 0 (rmOPh l Z a0 hw hEL z0 Sc hz0 o ob m0 n1 n2 c1 c2 bx bz lb hh w.old P S1 T.1) (wq hw 282 rfl) (wq hw 115 rfl) (allS (S1.safe hw w.hZ) all0) nle nle) (wq hw 278 rfl) (wq hw 279 rfl) (wq hw 281 rfl) (wq hw 280 rfl) (argsL := [(.ref n1)]) (rest := []) (by decide) X_o pd_43 rfl rfl nlr rfl at_678 oml oml (pc' := 681)
 obtain ⟨rfl, Ka, Pa, Sa1⟩ := hq1
 replace w := w.toS [(.int (own_fl bx.isSome))]
 have Xa := S1.str.exa
 have Sa2 := S2.keepS hw Ka Xa hn12.symm
 have Ta := T.keepS hw hdc Ka Xa (Or.inl rfl) m11 m21
 have X_o := Ta.1.1
 replace w := (((w.iload at_681 rfl).icmpNo (pc' := 686) at_683 ((teq rfl).2)).aload at_686 rfl).aload (pc' := 690) at_688 rfl
 obtain ⟨v2, V2, h2, hq2, A2, w⟩ := w.virt (y' := mN97) (W := 0) (C := "com/example/keyturn/keyturn/Options") (b := o) (w.pays 0 (rmOPh l Z a0 hw hEL z0 Sc hz0 o ob m0 n2 n1 c2 c1 bz bx lb h1 w.old Pa.swap Sa2 Ta.1) (wq hw 282 rfl) (wq hw 115 rfl) (allS (Sa2.safe hw w.hZ) all0) nle nle) (wq hw 278 rfl) (wq hw 279 rfl) (wq hw 281 rfl) (wq hw 280 rfl) (argsL := [(.ref n2)]) (rest := []) (by decide) X_o pd_43 rfl rfl nlr rfl at_690 oml oml (pc' := 693)
 obtain ⟨rfl, Kb, Pb, Sb2⟩ := hq2
 replace w := w.toS [(.int (own_fl bz.isSome))]
 have Xb := Sa2.str.exa
 have Sb1 := Sa1.keepS hw Kb Xb hn12
 have Tb := Ta.keepS hw hdc Kb Xb (Or.inr rfl) m12 m22
 have X_o := Tb.1.1
 replace w := ((((((w.iload at_693 rfl).icmpNo (pc' := 698) at_695 ((teq rfl).2)).iconst (1 : Int32) at_698).goto at_699).istore (L' := #[d0, d1, d2, d3, d4, d5, .val (.ref n1), .val (.ref n2), d8, .val (.ref v1), .val (.ref v2), d11, d12, .val (.int (own_fl bx.isSome)), .val (.int (own_fl bz.isSome)), d15, d16, d17, d18, d19, d20, d21, d22, d23, d24, d25, d26, d27, d28, .val (.ref wn), .val (.ref o), .val (.int (1 : Int32)), .unset, .unset, .unset]) at_703 rfl).aload at_705 rfl).aload (pc' := 709) at_707 rfl
 have hO1 := own_obsV hw w.old Xe Tb.2.2.2.2.1 hb1
 obtain ⟨v3, V3, h3, hq3, A3, w⟩ := w.virt (y' := mN98) (W := 0) (C := "com/example/keyturn/keyturn/Options") (b := o) (w.pays 0 (rmOPa l Z a0 hw hEL z0 Sc hz0 ST o ob m0 n1 n2 c1 c2 bx bz lb h2 w.old Pb.swap Sb1 Tb.1 hO1) (wq hw 303 rfl) (wq hw 115 rfl) (allS (Sb1.safe hw w.hZ) all0) nle nle) (wq hw 299 rfl) (wq hw 300 rfl) (wq hw 302 rfl) (wq hw 301 rfl) (argsL := [(.ref n1)]) (rest := []) (by decide) X_o pd_52 rfl rfl nlr rfl at_709 oml oml (pc' := 712)
 obtain ⟨b1, rfl, Kc, O1, Pc, Sc1⟩ := hq3
 replace w := w.toS [(.ref b1)]
 have Xc := Sb1.str.exa
 have Sc2 := Sb2.keepS hw Kc Xc hn12.symm
 have Tc := Tb.keepS hw hdc Kc Xc (Or.inl rfl) m11 m21
 have X_o := Tc.1.1
 replace w := ((w.astore (L' := #[d0, d1, d2, d3, d4, d5, .val (.ref n1), .val (.ref n2), d8, .val (.ref v1), .val (.ref v2), d11, d12, .val (.int (own_fl bx.isSome)), .val (.int (own_fl bz.isSome)), d15, d16, d17, d18, d19, d20, d21, d22, d23, d24, d25, d26, d27, d28, .val (.ref wn), .val (.ref o), .val (.int (1 : Int32)), .val (.ref b1), .unset, .unset]) at_712 rfl).aload at_714 rfl).aload (pc' := 718) at_716 rfl
 have hO2 := own_obsV hw w.old Xe Tc.2.2.2.2.2 hb2
 obtain ⟨v4, V4, h4, hq4, A4, w⟩ := w.virt (y' := mN98) (W := 0) (C := "com/example/keyturn/keyturn/Options") (b := o) (w.pays 0 (rmOPa l Z a0 hw hEL z0 Sc hz0 ST o ob m0 n2 n1 c2 c1 bz bx lb h3 w.old Pc.swap Sc2 Tc.1 hO2) (wq hw 303 rfl) (wq hw 115 rfl) (allS (Sc2.safe hw w.hZ) all0) nle nle) (wq hw 299 rfl) (wq hw 300 rfl) (wq hw 302 rfl) (wq hw 301 rfl) (argsL := [(.ref n2)]) (rest := []) (by decide) X_o pd_52 rfl rfl nlr rfl at_718 oml oml (pc' := 721)
 obtain ⟨b2, rfl, Kd, O2, Pd, Sd2⟩ := hq4
 replace w := w.toS [(.ref b2)]
 have Xd' := Sc2.str.exa
 have Td := Tc.keepS hw hdc Kd Xd' (Or.inr rfl) m12 m22
 have O1d := O1.keepS hw Kd Xd'
 replace w := w.astore (pc' := 723) (L' := #[d0, d1, d2, d3, d4, d5, .val (.ref n1), .val (.ref n2), d8, .val (.ref v1), .val (.ref v2), d11, d12, .val (.int (own_fl bx.isSome)), .val (.int (own_fl bz.isSome)), d15, d16, d17, d18, d19, d20, d21, d22, d23, d24, d25, d26, d27, d28, .val (.ref wn), .val (.ref o), .val (.int (1 : Int32)), .val (.ref b1), .val (.ref b2), .unset]) at_721 rfl
 obtain ⟨q1, q2, q3, q4, q5, q6⟩ := Td
 exact t723 l Z a0 hw hEL z0 Sc hz0 ST oml oml _ o m0 ob wn tw n1 n2 us ws q1 q2 q3 q4 b1 v1 cv1 bx hb1 q5 (by omega) O1d b2 v2 cv2 bz hb2 q6 (by omega) O2 d0 d1 d2 d3 d4 d5 _ _ d8 d11 d12 d15 d16 d17 d18 d19 d20 d21 d22 d23 d24 d25 d26 d27 d28 w

theorem own_iokE {Z : State} {h h' : Heap} (E : Ext h h') : ∀ {items : List IT}, own_iok Z h items → own_iok Z h' items
 | [], _ => trivial
 | .inl (o, cs) :: r, ⟨⟨U, q⟩, k⟩ => ⟨⟨U.ext E, q⟩, own_iokE E k⟩
 | .inr (i, o, cs) :: r, ⟨⟨U, q⟩, k⟩ => ⟨⟨U.ext E, q⟩, own_iokE E k⟩
/-- the law's own strings and lists -/
def LSt (Z : State) (h : Heap) (dc em n1 n2 lk v1 v2 o1 o2 : Addr) (c1 c2 : Int32) (cv1 cv2 co1 co2 : List Int32) (ag ta wn tw : Addr) (vs us ws : List Value) : Prop :=
 Key Z h n1 c1 ∧ Key Z h n2 c2 ∧ Str Z h lk [45, 45, c1] ∧ Str Z h v1 cv1 ∧ Str Z h v2 cv2 ∧ Str Z h o1 co1 ∧ Str Z h o2 co2 ∧ LL Z h dc ag ta vs ∧ LL Z h dc wn tw ws ∧ ag ≠ wn ∧ (tw = dc ∨ tw ≠ ta) ∧ Obs Z h em vs ∧ SPr Z h n1 n2 us ws ∧ Z.heap.size ≤ ag ∧ Z.heap.size ≤ wn
theorem t656 (l : Launch) (Z : State) (a0 : Array Value) (hw : HW Z a0) (hEL : EW Z a0 consts_1) (z0 : Int32) (Sc : SC Z z0) (hz0 : ¬ z0 = 0) {p : Program} {e : Env} {s : State} {m : MethodId} {args : Array Value} {below : List Frame} {meth : Method} {c : Code} {S0 : State} {dc : Addr} {kd : ClassId} {es el em mr le : Addr} {kl : ClassId} (ST : Stt Z dc kd es el em mr le kl) {f : Addr} {cK cS : ClassId} {methk : Method} {ck : Code} (LF : Lam Z f cK cS methk ck) {V : Vm} {cl sl : Nat} (hcl : cl + 57 ≤ 112) (hsl : sl + 440 ≤ 4608) (hh : Heap) (n1 n2 lk v1 v2 o1 o2 : Addr) (c1 c2 : Int32) (cv1 cv2 co1 co2 : List Int32) (hc1 : cv1.length ≤ 1) (hc2 : cv2.length ≤ 1) (ag ta wn tw : Addr) (vs us ws : List Value) (T : LSt Z hh dc em n1 n2 lk v1 v2 o1 o2 c1 c2 cv1 cv2 co1 co2 ag ta wn tw vs us ws) (hn12 : n1 ≠ n2) (hc12 : c1 ≠ c2) (hbin : own_bin c1 ≠ own_bin c2) (items : List IT) (rest tail gs : List Value) (r1 r2 : Option Addr) (hvs : vs = own_flat n1 n2 items ++ rest) (honce : own_once false false items) (hcost : own_cost items ≤ 30) (hslt : own_slt items ≤ 210) (hops : own_ops items + tail.length = ws.length) (hrun : own_run [] none none items = (gs, r1, r2)) (hus : us = gs ++ tail) (hr1 : ∀ a, r1 = some a → a = v1) (hr2 : ∀ a, r2 = some a → a = v2) (hok : own_iok Z hh items) (hrest : (rest = [] ∧ tail = []) ∨ ∃ y, rest = .ref y :: tail ∧ Str Z hh y [45, 45]) (d0 d1 d2 d3 d4 d5 d8 d11 d12 d15 d16 d17 d18 d19 d20 d21 d22 d23 d24 d25 d26 d27 : Slot) (w : Wk p l e room_1 s m args below meth c Z a0 consts_1 S0 Jvm.Pilot.@@N@@.x code maxLocals ret V hh cl sl (mkF m 656 #[d0, d1, d2, d3, d4, d5, .val (.ref n1), .val (.ref n2), d8, .val (.ref v1), .val (.ref v2), d11, d12, .val (.int (own_fl r1.isSome)), .val (.int (own_fl r2.isSome)), d15, d16, d17, d18, d19, d20, d21, d22, d23, d24, d25, d26, d27, .val (.ref ag), .val (.ref wn), .unset, .unset, .unset, .unset, .unset] [])) : Fini p e below s Z consts_1 S0 112 4608 (fun v h => v = some (.int 1)) := by
 obtain ⟨Sd, Dd, Xd, Ss, Xs, Fz, Sl, Xl, Fe0, Al0, Fn0, Se, Xe, Mr⟩ := id ST
 have hdc : dc < Z.heap.size := Dd.lt
 have hstr := own_hstr hw
 have w0old := w.old
 obtain ⟨S1, S2, Ul, U1, U2, V1, V2, HA, HW, naw, dtw, hVO, hSO, ga, gw⟩ := T
 have hne : ¬ ([45, 45, c1] : List Int32) = [45, 45, c2] := fun q => by
   simp at q
   exact hc12 q
 replace w := ((w.aload at_656 rfl).aload at_658 rfl).aload (pc' := 662) at_660 rfl
 obtain ⟨v1, V1, h1, hq1, A1, w⟩ := w.static (y' := mN32) (W := 1) (w.pays 1 (rmSO2 l Z a0 hw hEL z0 Sc hz0 n1 n2 [45, 45, c1] [45, 45, c2] (by simp) (by simp) hne hh w.old S1.str S2.str) (wq hw 71 rfl) (wq hw 70 rfl) all0 nle nle) (wq hw 68 rfl) (wq hw 69 rfl) (wq hw 70 rfl) (wq hw 71 rfl) (argsL := [(.ref n1), (.ref n2)]) (rest := [(.ref ag)]) (by decide) pd_53 rfl rfl nlr rfl at_662 oml oml (pc' := 665)
 obtain ⟨nm, rfl, Ea, HN⟩ := hq1
 replace w := (w.toS [(.ref nm), (.ref ag)]).aload (pc' := 667) at_665 rfl
 obtain ⟨us0, V2, h2, E2, T_us0, N_us0, A2, w⟩ := w.ldcT [(117 : Int32)] 4 (text := "u") (wq hw 110 rfl) hstr (by decide) (by decide) (by decide) (by decide) (by decide) (by decide) at_667 (by decide) (by decide) oml oml (pc' := 669)
 have Eb := extT Ea E2
 have hE2 := E2
 have hSO' := hSO.ext Eb
 have hWO := hSO'.obs hw (extT w0old Eb) Xe
 have hrest' : (rest = [] ∧ tail = []) ∨ ∃ y, rest = .ref y :: tail ∧ Str Z h2 y [45, 45] := hrest.imp id fun ⟨y, e, U⟩ => ⟨y, e, U.ext Eb⟩
 have hok' := own_iokE Eb hok
 have HA' := HA.ext Eb
 have HW' := HW.ext Eb
 have hVO' := hVO.ext Eb
 have S1' := S1.ext Eb
 have S2' := S2.ext Eb
 have HN' := HN.ext hE2
 obtain ⟨v3, V3, h3, hq3, A3, w⟩ := w.static (y' := mN96) (W := 0) (w.pays 0 (rmPA4 l Z a0 hw hEL z0 Sc hz0 ST LF ag ta nm wn us0 n1 n2 c1 c2 vs hn12 hbin tw ws rest tail items hvs honce hcost hslt hops h2 w.old HA' HN' HW' hWO hVO' S1' S2' hrest' hok') (wq hw 116 rfl) (wq hw 115 rfl) all0 nle nle) (wq hw 113 rfl) (wq hw 114 rfl) (wq hw 115 rfl) (wq hw 116 rfl) (argsL := [(.ref ag), (.ref nm), (.ref wn), (.ref us0)]) (rest := []) (by decide) pd_54 rfl rfl nlr rfl at_669 oml oml (pc' := 672)
 obtain ⟨m0, o, ob, bx, bz, rfl, KP, TP, OP, MPf, hbx, hbz, Sf1, Sf2⟩ := hq3
 replace w := w.toS [(.ref o)]
 rw [hrun] at OP hbx hbz
 have OP' : OL Z h3 em el ob us := by rw [hus]; exact OP
 have X1 := S1'.str.exa
 have X2 := S2'.str.exa
 have m11 := own_strNe U1 S1.str (by omega) (by simp) (by simp; omega)
 have m12 := own_strNe U1 S2.str (by omega) (by simp) (by simp; omega)
 have m21 := own_strNe U2 S1.str (by omega) (by simp) (by simp; omega)
 have m22 := own_strNe U2 S2.str (by omega) (by simp) (by simp; omega)
 have T3 : T3s Z h3 dc em el o m0 ob wn tw n1 n2 us ws v1 v2 cv1 cv2 := ⟨TP, OP', own_llS hw hdc KP X1 X2 HW', ⟨hSO.1, fun j hj => by
   obtain ⟨y, y', cs, e1, e2, U, U', q1, q2, q3, q4, q5⟩ := hSO'.2 j hj
   exact ⟨y, y', cs, e1, e2, own_strS hw KP X1 X2 q2 q3 U, own_strS hw KP X1 X2 q4 q5 U', q1, q2, q3, q4, q5⟩⟩, own_strS hw KP X1 X2 m11 m12 (U1.ext Eb), own_strS hw KP X1 X2 m21 m22 (U2.ext Eb)⟩
 have hb1 : ∀ q, bx = some q → q.1 = v1 := fun q e => hr1 _ (by rw [← (show bx.map (·.1) = r1 from hbx), e]; rfl)
 have hb2 : ∀ q, bz = some q → q.1 = v2 := fun q e => hr2 _ (by rw [← (show bz.map (·.1) = r2 from hbz), e]; rfl)
 have ei1 : r1.isSome = bx.isSome := by
   rw [show r1 = bx.map (·.1) from hbx.symm]; simp
 have ei2 : r2.isSome = bz.isSome := by
   rw [show r2 = bz.map (·.1) from hbz.symm]; simp
 replace w := w.astore (pc' := 674) (L' := #[d0, d1, d2, d3, d4, d5, .val (.ref n1), .val (.ref n2), d8, .val (.ref v1), .val (.ref v2), d11, d12, .val (.int (own_fl r1.isSome)), .val (.int (own_fl r2.isSome)), d15, d16, d17, d18, d19, d20, d21, d22, d23, d24, d25, d26, d27, .val (.ref ag), .val (.ref wn), .val (.ref o), .unset, .unset, .unset, .unset]) at_672 rfl
 rw [ei1, ei2] at w
 exact t674 l Z a0 hw hEL z0 Sc hz0 ST oml oml _ o m0 ob wn tw n1 n2 us ws v1 v2 cv1 cv2 hc1 hc2 T3 _ c1 c2 bx bz MPf Sf1 Sf2 hn12 hb1 hb2 d0 d1 d2 d3 d4 d5 d8 d11 d12 d15 d16 d17 d18 d19 d20 d21 d22 d23 d24 d25 d26 d27 _ w
theorem own_fT {b : Bool} (h : b = true) : ¬ own_fl b = 0 := by rw [h]; decide
theorem own_fF {b : Bool} (h : ¬ b = true) : own_fl b = 0 := if_neg h
theorem own_flatS (x z : Addr) : ∀ (a b : List IT), own_flat x z (a ++ b) = own_flat x z a ++ own_flat x z b
 | [], b => rfl
 | .inl (o, cs) :: r, b => by rw [List.cons_append, own_flat, own_flat, own_flatS x z r b, List.cons_append]
 | .inr (i, v, cs) :: r, b => by rw [List.cons_append, own_flat, own_flat, own_flatS x z r b, List.cons_append, List.cons_append]
theorem own_runS : ∀ (items t : List IT) (gs : List Value) (a b : Option Addr), own_run gs a b (items ++ t) = own_run (own_run gs a b items).1 (own_run gs a b items).2.1 (own_run gs a b items).2.2 t
 | [], t, gs, a, b => rfl
 | .inl (o, cs) :: r, t, gs, a, b => own_runS r t _ _ _
 | .inr (false, v, cs) :: r, t, gs, a, b => own_runS r t _ _ _
 | .inr (true, v, cs) :: r, t, gs, a, b => own_runS r t _ _ _
theorem own_onceI (q : Addr × List Int32) : ∀ (items : List IT) (a b : Bool), own_once a b items → own_once a b (items ++ [.inl q])
 | [], a, b, _ => trivial
 | .inl _ :: r, a, b, h => own_onceI q r a b h
 | .inr (false, _, _) :: r, a, b, h => ⟨h.1, own_onceI q r true b h.2⟩
 | .inr (true, _, _) :: r, a, b, h => ⟨h.1, own_onceI q r a true h.2⟩
theorem own_onceF (v : Addr) (cs : List Int32) : ∀ (items : List IT) (gs gs' : List Value) (a b b' : Option Addr), own_once a.isSome b.isSome items → own_run gs a b items = (gs', none, b') → own_once a.isSome b.isSome (items ++ [.inr (false, v, cs)])
 | [], gs, gs', a, b, b', _, h => by
   have e : a = none := congrArg (fun q => q.2.1) h
   subst e
   exact ⟨rfl, trivial⟩
 | .inl _ :: r, gs, gs', a, b, b', h, k => own_onceF v cs r _ _ a b _ h k
 | .inr (false, v', _) :: r, gs, gs', a, b, b', h, k => ⟨h.1, own_onceF v cs r _ _ (some v') b _ h.2 k⟩
 | .inr (true, v', _) :: r, gs, gs', a, b, b', h, k => ⟨h.1, own_onceF v cs r _ _ a (some v') _ h.2 k⟩
theorem own_onceT (v : Addr) (cs : List Int32) : ∀ (items : List IT) (gs gs' : List Value) (a b a' : Option Addr), own_once a.isSome b.isSome items → own_run gs a b items = (gs', a', none) → own_once a.isSome b.isSome (items ++ [.inr (true, v, cs)])
 | [], gs, gs', a, b, a', _, h => by
   have e : b = none := congrArg (fun q => q.2.2) h
   subst e
   exact ⟨rfl, trivial⟩
 | .inl _ :: r, gs, gs', a, b, a', h, k => own_onceT v cs r _ _ a b _ h k
 | .inr (false, v', _) :: r, gs, gs', a, b, a', h, k => ⟨h.1, own_onceT v cs r _ _ (some v') b _ h.2 k⟩
 | .inr (true, v', _) :: r, gs, gs', a, b, a', h, k => ⟨h.1, own_onceT v cs r _ _ a (some v') _ h.2 k⟩
theorem own_iokS {Z : State} {h : Heap} : ∀ {items : List IT} {t : List IT}, own_iok Z h items → own_iok Z h t → own_iok Z h (items ++ t)
 | [], _, _, k => k
 | .inl (_, _) :: _, _, ⟨q, r⟩, k => ⟨q, own_iokS r k⟩
 | .inr (_, _, _) :: _, _, ⟨q, r⟩, k => ⟨q, own_iokS r k⟩
theorem own_opsR : ∀ (items : List IT) (gs gs' : List Value) (a b a' b' : Option Addr), own_run gs a b items = (gs', a', b') → gs'.length = gs.length + own_ops items
 | [], gs, gs', a, b, a', b', h => by rw [show gs = gs' from congrArg (·.1) h]; rfl
 | .inl _ :: r, gs, gs', a, b, a', b', h => by rw [own_opsR r _ _ _ _ _ _ h, List.length_append, own_ops]; simp; omega
 | .inr (false, _, _) :: r, gs, gs', a, b, a', b', h => own_opsR r _ _ _ _ _ _ h
 | .inr (true, _, _) :: r, gs, gs', a, b, a', b', h => own_opsR r _ _ _ _ _ _ h
theorem own_costL (x z : Addr) : ∀ (items : List IT), own_cost items = 5 * (own_flat x z items).length ∧ own_slt items ≤ 35 * (own_flat x z items).length
 | [] => ⟨rfl, Nat.le_refl _⟩
 | .inl _ :: r => by
   obtain ⟨h1, h2⟩ := own_costL x z r
   rw [own_cost, own_slt, own_flat, List.length_cons]; omega
 | .inr _ :: r => by
   obtain ⟨h1, h2⟩ := own_costL x z r
   rw [own_cost, own_slt, own_flat, List.length_cons, List.length_cons]; omega
theorem own_offL {Z : State} {h : Heap} {a t t2 : Addr} (q2 : t2 = a ∨ t2 = t) : ∀ y : Addr, y ≠ a → y ≠ t → y ∉ [a, t2] := fun y n1 n2 => ninS n1 (ninS (by rcases q2 with rfl | rfl <;> assumption) nin0)
theorem own_strL {Z : State} {h h' : Heap} {a0 : Array Value} (hw : HW Z a0) {a t t2 y : Addr} {k : ClassId} {n : Int32} {us : List Value} {dv : Value} {cs : List Int32} (X : Exa Z h a "java/util/ArrayList") (AT : Arv Z h t k (.object "java/lang/Object") n us dv) (q2 : t2 = a ∨ t2 = t) (K : Keep h h' [a, t2]) (U : Str Z h y cs) : Str Z h' y cs :=
 own_strK K (own_offL (Z := Z) (h := h) q2 y (Exa.ne U.exa X (by decide)) (Exa.neArv U.exa AT (wq hw 1 rfl))) (fun t' k' n' us' dv' A => own_offL (Z := Z) (h := h) q2 t' (Exa.neArv X A (wq hw 45 rfl)).symm (own_arvNe A AT (by decide))) U
theorem own_keyL {Z : State} {h h' : Heap} {a0 : Array Value} (hw : HW Z a0) {a t t2 y : Addr} {k : ClassId} {n : Int32} {us : List Value} {dv : Value} {c0 : Int32} (X : Exa Z h a "java/util/ArrayList") (AT : Arv Z h t k (.object "java/lang/Object") n us dv) (q2 : t2 = a ∨ t2 = t) (K : Keep h h' [a, t2]) (U : Key Z h y c0) : Key Z h' y c0 :=
 U.keep K (own_offL (Z := Z) (h := h) q2 y (Exa.ne U.str.exa X (by decide)) (Exa.neArv U.str.exa AT (wq hw 1 rfl))) (fun t' F => by
   obtain ⟨k', n', us', dv', A⟩ := own_keyArv U.str F
   exact own_offL (Z := Z) (h := h) q2 t' (Exa.neArv X A (wq hw 45 rfl)).symm (own_arvNe A AT (by decide)))
theorem own_sprL {Z : State} {h h' : Heap} {a0 : Array Value} (hw : HW Z a0) {a t t2 n1 n2 : Addr} {k : ClassId} {n : Int32} {vs : List Value} {dv : Value} {us ws : List Value} (X : Exa Z h a "java/util/ArrayList") (AT : Arv Z h t k (.object "java/lang/Object") n vs dv) (q2 : t2 = a ∨ t2 = t) (K : Keep h h' [a, t2]) (S : SPr Z h n1 n2 us ws) : SPr Z h' n1 n2 us ws := ⟨S.1, fun j hj => by
 obtain ⟨y, y', cs, e1, e2, U, U', q⟩ := S.2 j hj
 exact ⟨y, y', cs, e1, e2, own_strL hw X AT q2 K U, own_strL hw X AT q2 K U', q⟩⟩
theorem own_iokL {Z : State} {h h' : Heap} {a0 : Array Value} (hw : HW Z a0) {a t t2 : Addr} {k : ClassId} {n : Int32} {vs : List Value} {dv : Value} (X : Exa Z h a "java/util/ArrayList") (AT : Arv Z h t k (.object "java/lang/Object") n vs dv) (q2 : t2 = a ∨ t2 = t) (K : Keep h h' [a, t2]) : ∀ {items : List IT}, own_iok Z h items → own_iok Z h' items
 | [], _ => trivial
 | .inl (o, cs) :: r, ⟨⟨U, q⟩, k⟩ => ⟨⟨own_strL hw X AT q2 K U, q⟩, own_iokL hw X AT q2 K k⟩
 | .inr (i, o, cs) :: r, ⟨⟨U, q⟩, k⟩ => ⟨⟨own_strL hw X AT q2 K U, q⟩, own_iokL hw X AT q2 K k⟩
theorem LSt.ext {Z : State} {h h' : Heap} {dc em n1 n2 lk v1 v2 o1 o2 : Addr} {c1 c2 : Int32} {cv1 cv2 co1 co2 : List Int32} {ag ta wn tw : Addr} {vs us ws : List Value} (E : Ext h h') (T : LSt Z h dc em n1 n2 lk v1 v2 o1 o2 c1 c2 cv1 cv2 co1 co2 ag ta wn tw vs us ws) : LSt Z h' dc em n1 n2 lk v1 v2 o1 o2 c1 c2 cv1 cv2 co1 co2 ag ta wn tw vs us ws := by
 obtain ⟨a1, a2, a3, a4, a5, a6, a7, a8, a9, a10, a11, a12, a13, a14, a15⟩ := T
 exact ⟨a1.ext E, a2.ext E, a3.ext E, a4.ext E, a5.ext E, a6.ext E, a7.ext E, a8.ext E, a9.ext E, a10, a11, a12.ext E, a13.ext E, a14, a15⟩
theorem LSt.addA {Z : State} {h h' : Heap} {a0 : Array Value} (hw : HW Z a0) {dc em n1 n2 lk v1 v2 o1 o2 : Addr} {c1 c2 : Int32} {cv1 cv2 co1 co2 : List Int32} {kd : ClassId} {ag ta wn tw ta' t2 : Addr} {vs us ws vs' : List Value} (hx : Ext Z.heap h) (Dd : Arv Z Z.heap dc kd (.object "java/lang/Object") 0 [] .null) (T : LSt Z h dc em n1 n2 lk v1 v2 o1 o2 c1 c2 cv1 cv2 co1 co2 ag ta wn tw vs us ws)
   (q2 : t2 = ag ∨ (t2 = ta ∧ Z.heap.size ≤ ta)) (K : Keep h h' [ag, t2]) (q3 : ta' = ta ∨ h.size ≤ ta') (T' : LL Z h' dc ag ta' vs') (O : Obs Z h' em vs') : LSt Z h' dc em n1 n2 lk v1 v2 o1 o2 c1 c2 cv1 cv2 co1 co2 ag ta' wn tw vs' us ws := by
 obtain ⟨a1, a2, a3, a4, a5, a6, a7, a8, a9, a10, a11, a12, a13, a14, a15⟩ := T
 have hdc : dc < Z.heap.size := Dd.lt
 obtain ⟨kA, nA, uA, AT⟩ := own_llArv hx Dd a8
 obtain ⟨kW, nW, uW, AW⟩ := own_llArv hx Dd a9
 have X := a8.exa
 have q2' : t2 = ag ∨ t2 = ta := q2.imp id And.left
 have S := fun {y : Addr} {cs : List Int32} (U : Str Z h y cs) => own_strL hw X AT q2' K U
 refine ⟨own_keyL hw X AT q2' K a1, own_keyL hw X AT q2' K a2, S a3, S a4, S a5, S a6, S a7, T', a9.keep K (own_offL (Z := Z) (h := h) q2' wn a10.symm (Exa.neArv a9.exa AT (wq hw 45 rfl))) ?_ hdc, a10, ?_, O, own_sprL hw X AT q2' K a13, a14, a15⟩
 · rcases a11 with q | q
   · exact Or.inl q
   · exact Or.inr (own_offL (Z := Z) (h := h) q2' tw (Exa.neArv X AW (wq hw 45 rfl)).symm q)
 · rcases a11 with q | q
   · exact Or.inl q
   · rcases q3 with rfl | r
     · exact Or.inr q
     · exact Or.inr (Nat.ne_of_lt (Nat.lt_of_lt_of_le AW.lt r))
theorem LSt.addW {Z : State} {h h' : Heap} {a0 : Array Value} (hw : HW Z a0) {dc em n1 n2 lk v1 v2 o1 o2 : Addr} {c1 c2 : Int32} {cv1 cv2 co1 co2 : List Int32} {kd : ClassId} {ag ta wn tw tw' t2 : Addr} {vs us ws us' ws' : List Value} (hx : Ext Z.heap h) (Dd : Arv Z Z.heap dc kd (.object "java/lang/Object") 0 [] .null) (T : LSt Z h dc em n1 n2 lk v1 v2 o1 o2 c1 c2 cv1 cv2 co1 co2 ag ta wn tw vs us ws)
   (q2 : t2 = wn ∨ (t2 = tw ∧ Z.heap.size ≤ tw)) (K : Keep h h' [wn, t2]) (q3 : tw' = tw ∨ h.size ≤ tw') (T' : LL Z h' dc wn tw' ws') (O : SPr Z h' n1 n2 us' ws') : LSt Z h' dc em n1 n2 lk v1 v2 o1 o2 c1 c2 cv1 cv2 co1 co2 ag ta wn tw' vs us' ws' := by
 obtain ⟨a1, a2, a3, a4, a5, a6, a7, a8, a9, a10, a11, a12, a13, a14, a15⟩ := T
 have hdc : dc < Z.heap.size := Dd.lt
 obtain ⟨kA, nA, uA, AT⟩ := own_llArv hx Dd a8
 obtain ⟨kW, nW, uW, AW⟩ := own_llArv hx Dd a9
 have X := a9.exa
 have q2' : t2 = wn ∨ t2 = tw := q2.imp id And.left
 have S := fun {y : Addr} {cs : List Int32} (U : Str Z h y cs) => own_strL hw X AW q2' K U
 refine ⟨own_keyL hw X AW q2' K a1, own_keyL hw X AW q2' K a2, S a3, S a4, S a5, S a6, S a7, a8.keep K ?_ ?_ hdc, T', a10, ?_, a12.keep K, O, a14, a15⟩
 · exact own_offL (Z := Z) (h := h) q2' ag a10 (Exa.neArv a8.exa AW (wq hw 45 rfl))
 · by_cases z : ta = dc
   · exact Or.inl z
   · refine Or.inr (own_offL (Z := Z) (h := h) q2' ta (Exa.neArv X AT (wq hw 45 rfl)).symm ?_)
     rcases a11 with q | q
     · rw [q]; exact z
     · exact q.symm
 · rcases q3 with rfl | r
   · exact a11
   · exact Or.inr (Nat.ne_of_gt (Nat.lt_of_lt_of_le AT.lt r))
theorem own_opsL (x z : Addr) : ∀ (items : List IT), own_ops items ≤ (own_flat x z items).length
 | [] => Nat.le_refl _
 | .inl _ :: r => by have := own_opsL x z r; rw [own_ops, own_flat, List.length_cons]; omega
 | .inr _ :: r => by have := own_opsL x z r; rw [own_ops, own_flat, List.length_cons, List.length_cons]; omega
section OwnLaw3
variable {l : Launch} {Z : State} {a0 : Array Value} {z0 : Int32} {p : Program} {e : Env} {s : State} {m : MethodId} {args : Array Value} {below : List Frame} {meth : Method} {c : Code} {S0 : State} {dc : Addr} {kd : ClassId} {es el em mr le : Addr} {kl : ClassId} {f : Addr} {cK cS : ClassId} {methk : Method} {ck : Code} {hh : Heap} {n1 n2 lk v1 v2 o1 o2 : Addr} {c1 c2 : Int32} {cv1 cv2 co1 co2 : List Int32} {ag ta wn tw : Addr} {vs us ws : List Value} {items : List IT} {gs : List Value} {r1 r2 : Option Addr}
abbrev Cx (Z : State) (a0 : Array Value) (z0 : Int32) (dc : Addr) (kd : ClassId) (es el em mr le : Addr) (kl : ClassId) (f : Addr) (cK cS : ClassId) (methk : Method) (ck : Code) (hh : Heap) (n1 n2 lk v1 v2 o1 o2 : Addr) (c1 c2 : Int32) (cv1 cv2 co1 co2 : List Int32) (ag ta wn tw : Addr) (vs us ws : List Value) (items : List IT) (gs : List Value) (r1 r2 : Option Addr) : Prop := HW Z a0 ∧ EW Z a0 consts_1 ∧ SC Z z0 ∧ ¬ z0 = 0 ∧ Stt Z dc kd es el em mr le kl ∧ Lam Z f cK cS methk ck ∧ cv1.length ≤ 1 ∧ cv2.length ≤ 1 ∧ co1.length ≤ 1 ∧ co2.length ≤ 1 ∧ LSt Z hh dc em n1 n2 lk v1 v2 o1 o2 c1 c2 cv1 cv2 co1 co2 ag ta wn tw vs us ws ∧ n1 ≠ n2 ∧ c1 ≠ c2 ∧ own_bin c1 ≠ own_bin c2 ∧ lk ≠ n1 ∧ lk ≠ n2 ∧ own_once false false items ∧ own_run [] none none items = (gs, r1, r2) ∧ own_iok Z hh items
theorem t631 {V : Vm} {cl sl : Nat} (K : Cx Z a0 z0 dc kd es el em mr le kl f cK cS methk ck hh n1 n2 lk v1 v2 o1 o2 c1 c2 cv1 cv2 co1 co2 ag ta wn tw vs us ws items gs r1 r2) (hcl : cl + 63 ≤ 112) (hsl : sl + 500 ≤ 4608) (G1 G2 : Bool) (hr1 : r1 = if G1 = true then some v1 else none) (hr2 : r2 = if G2 = true then some v2 else none) (tail : List Value) (dd : Addr) (Ud : Str Z hh dd [45, 45]) (hvs : vs = own_flat n1 n2 items ++ (.ref dd :: tail)) (hus : us = gs ++ tail) (hfl : (own_flat n1 n2 items).length ≤ 6) (hl : vs.length ≤ 9) (ps : Int32) (H1 H2 EE TL AG : Bool) (d0 d1 d2 d3 d4 d5 d15 d22 d23 d24 d25 d26 d27 : Slot) (w : Wk p l e room_1 s m args below meth c Z a0 consts_1 S0 Jvm.Pilot.@@N@@.x code maxLocals ret V hh cl sl (mkF m 631 #[d0, d1, d2, d3, d4, d5, .val (.ref n1), .val (.ref n2), .val (.ref lk), .val (.ref v1), .val (.ref v2), .val (.ref o1), .val (.ref o2), .val (.int (own_fl G1)), .val (.int (own_fl G2)), d15, .val (.int ps), .val (.int (own_fl H1)), .val (.int (own_fl H2)), .val (.int (own_fl EE)), .val (.int (own_fl TL)), .val (.int (own_fl AG)), d22, d23, d24, d25, d26, d27, .val (.ref ag), .val (.ref wn), .unset, .unset, .unset, .unset, .unset] [])) : Fini p e below s Z consts_1 S0 112 4608 (fun v h => v = some (.int 1)) := by
 obtain ⟨hw, hEL, Sc, hz0, ST, LF, hc1, hc2, ho1, ho2, T, hn12, hc12, hbin, hlk1, hlk2, honce, hrun, hok⟩ := id K
 obtain ⟨Sd, Dd, Xd, Ss, Xs, Fz, Sl, Xl, Fe0, Al0, Fn0, Se, Xe, Mr⟩ := id ST
 have hstr := own_hstr hw
 have hx0 := w.old
 have l10a := T.2.2.2.2.2.2.2.1.len
 have l10w := T.2.2.2.2.2.2.2.2.1.len
 replace w := w.iload (pc' := 633) at_631 rfl
 by_cases q : AG = true
 rotate_left
 ·
   replace w := w.ifYes (pc' := 656) at_633 ((if0 _ _).trans (teq (own_fF q)).1)
   have ec := own_costL n1 n2 items
   have eo := own_opsR _ _ _ _ _ _ _ hrun
   have e1 : own_fl G1 = own_fl r1.isSome := by rw [hr1]; cases G1 <;> rfl
   have e2 : own_fl G2 = own_fl r2.isSome := by rw [hr2]; cases G2 <;> rfl
   rw [e1, e2] at w
   exact t656 l Z a0 hw hEL z0 Sc hz0 ST LF oml oml _ n1 n2 lk v1 v2 o1 o2 c1 c2 cv1 cv2 co1 co2 hc1 hc2 ag ta wn tw vs us ws T hn12 hc12 hbin items (.ref dd :: tail) tail gs r1 r2 hvs honce (by omega) (by omega) (by have z := (T).2.2.2.2.2.2.2.2.2.2.2.2.1.1; rw [hus] at z; simp at z eo ⊢; omega) hrun hus (fun a q => by rw [hr1] at q; split at q <;> simp_all) (fun a q => by rw [hr2] at q; split at q <;> simp_all) hok (Or.inr ⟨dd, rfl, Ud⟩) d0 d1 d2 d3 d4 d5 _ _ _ d15 _ _ _ _ _ _ d22 d23 d24 d25 d26 d27 w
 replace w := (w.ifNo (pc' := 636) at_633 ((if0 _ _).trans (feq (own_fT q)).1)).aload (pc' := 638) at_636 rfl
 obtain ⟨y1, V1, h1, E1, T_y1, N_y1, A1, w⟩ := w.ldcT [(45 : Int32), (45 : Int32)] 8 (text := "--") (wq hw 566 rfl) hstr (by decide) (by decide) (by decide) (by decide) (by decide) (by decide) at_638 (by decide) (by decide) oml oml (pc' := 640)
 have Tx := T.ext E1
 have E_1 := E1
 have Ioa := own_insO hw T_y1
 have nxa : y1 ≠ ag := Exa.ne (T_y1).exa (Tx).2.2.2.2.2.2.2.1.exa (by decide)
 have ema := own_oem w.old Xe T_y1
 have X_ag := (Tx).2.2.2.2.2.2.2.1.exa
 obtain ⟨kAa, nAa, uAa, ATa⟩ := own_llArv w.old Dd (Tx).2.2.2.2.2.2.2.1
 have hxa := w.old
 obtain ⟨v2, V2, h2, hq2, A2, w⟩ := w.face (xi := mN89) (y' := mN25) (W := 0) (C := "java/util/ArrayList") (b := ag) (w.pays 0 (rmADD l Z a0 hw hEL ST ag ta vs (by omega) y1 h1 w.old (Tx).2.2.2.2.2.2.2.1 Ioa nxa (Tx).2.2.2.2.2.2.2.2.2.2.2.2.2.1) (wq hw 339 rfl) (wq hw 46 rfl) all0 nle nle) (wq hw 332 rfl) (wq hw 333 rfl) (wq hw 334 rfl) (wq hw 335 rfl) (wq hw 336 rfl) (wq hw 337 rfl) (wq hw 338 rfl) (wq hw 150 rfl) (argsL := [(.ref y1)]) (rest := []) (by decide) (X_ag) pd_15 rfl rfl nlr rfl at_640 oml oml (pc' := 645)
 obtain ⟨rfl, taa, tqa, qaa, Ka, qba, TLa⟩ := hq2
 replace w := w.toS [(.int (1 : Int32))]
 have qca : tqa = ag ∨ tqa = ta := qaa.imp id And.left
 have Ta := LSt.addA hw hxa Dd Tx qaa Ka qba TLa (fun u hu => by
   rcases List.mem_append.mp hu with q | q
   · exact (Tx).2.2.2.2.2.2.2.2.2.2.2.1.keep Ka u q
   · cases List.mem_singleton.mp q
     exact ⟨y1, rfl, own_insKeep Ka Ioa, ema⟩)
 replace w := (w.pop at_645).aload (pc' := 648) at_646 rfl
 obtain ⟨y2, V3, h3, E3, T_y2, N_y2, A3, w⟩ := w.ldcT [(45 : Int32), (45 : Int32)] 8 (text := "--") (wq hw 566 rfl) hstr (by decide) (by decide) (by decide) (by decide) (by decide) (by decide) at_648 (by decide) (by decide) oml oml (pc' := 650)
 have Ty := Ta.ext E3
 have E_2 := E3
 have Uy1 := (own_strL hw X_ag ATa qca Ka T_y1).ext E_2
 have Iob := own_insO hw T_y2
 have nxb : y2 ≠ wn := Exa.ne (T_y2).exa (Ty).2.2.2.2.2.2.2.2.1.exa (by decide)
 have X_wn := (Ty).2.2.2.2.2.2.2.2.1.exa
 obtain ⟨kAb, nAb, uAb, ATb⟩ := own_llArv w.old Dd (Ty).2.2.2.2.2.2.2.2.1
 have hxb := w.old
 obtain ⟨v4, V4, h4, hq4, A4, w⟩ := w.face (xi := mN89) (y' := mN25) (W := 0) (C := "java/util/ArrayList") (b := wn) (w.pays 0 (rmADD l Z a0 hw hEL ST wn tw ws (by have z := Ty.2.2.2.2.2.2.2.2.2.2.2.2.1.1; have z2 := congrArg List.length hvs; have z3 := own_opsR _ _ _ _ _ _ _ hrun; have z4 := own_costL n1 n2 items; rw [hus] at z; simp at z z2 z3; have z5 := own_opsL n1 n2 items; omega) y2 h3 w.old (Ty).2.2.2.2.2.2.2.2.1 Iob nxb (Ty).2.2.2.2.2.2.2.2.2.2.2.2.2.2) (wq hw 339 rfl) (wq hw 46 rfl) all0 nle nle) (wq hw 332 rfl) (wq hw 333 rfl) (wq hw 334 rfl) (wq hw 335 rfl) (wq hw 336 rfl) (wq hw 337 rfl) (wq hw 338 rfl) (wq hw 150 rfl) (argsL := [(.ref y2)]) (rest := []) (by decide) (X_wn) pd_15 rfl rfl nlr rfl at_650 oml oml (pc' := 655)
 obtain ⟨rfl, twb, tqb, qab, Kb, qbb, TLb⟩ := hq4
 replace w := w.toS [(.int (1 : Int32))]
 have qcb : tqb = wn ∨ tqb = tw := qab.imp id And.left
 have Tb := LSt.addW hw hxb Dd Ty qab Kb qbb TLb ((own_sprL hw X_wn ATb qcb Kb (Ty).2.2.2.2.2.2.2.2.2.2.2.2.1).snoc (own_strL hw X_wn ATb qcb Kb Uy1) (own_strL hw X_wn ATb qcb Kb T_y2) (by simp) (own_strNe Uy1 (Ty.1).str (by simp) (by simp) (by simp)) (own_strNe Uy1 (Ty.2.1).str (by simp) (by simp) (by simp)) (own_strNe T_y2 (Ty.1).str (by simp) (by simp) (by simp)) (own_strNe T_y2 (Ty.2.1).str (by simp) (by simp) (by simp)))
 have hokb := own_iokL hw X_wn ATb qcb Kb (own_iokE E_2 (own_iokL hw X_ag ATa qca Ka (own_iokE E_1 hok)))
 have Udb := own_strL hw X_wn ATb qcb Kb ((own_strL hw X_ag ATa qca Ka (Ud.ext E_1)).ext E_2)
 have husb : us ++ [.ref y1] = gs ++ (tail ++ [.ref y1]) := by rw [hus, List.append_assoc]
 have hvsb : vs ++ [.ref y1] = own_flat n1 n2 items ++ (.ref dd :: (tail ++ [.ref y1])) := by rw [hvs]; simp
 replace w := w.pop (pc' := 656) at_655
 have ec := own_costL n1 n2 items
 have eo := own_opsR _ _ _ _ _ _ _ hrun
 have e1 : own_fl G1 = own_fl r1.isSome := by rw [hr1]; cases G1 <;> rfl
 have e2 : own_fl G2 = own_fl r2.isSome := by rw [hr2]; cases G2 <;> rfl
 rw [e1, e2] at w
 exact t656 l Z a0 hw hEL z0 Sc hz0 ST LF oml oml _ n1 n2 lk v1 v2 o1 o2 c1 c2 cv1 cv2 co1 co2 hc1 hc2 ag taa wn twb (vs ++ [.ref y1]) (us ++ [.ref y1]) (ws ++ [.ref y2]) Tb hn12 hc12 hbin items (.ref dd :: (tail ++ [.ref y1])) (tail ++ [.ref y1]) gs r1 r2 hvsb honce (by omega) (by omega) (by have z := (Tb).2.2.2.2.2.2.2.2.2.2.2.2.1.1; rw [husb] at z; simp at z eo ⊢; omega) hrun husb (fun a q => by rw [hr1] at q; split at q <;> simp_all) (fun a q => by rw [hr2] at q; split at q <;> simp_all) hokb (Or.inr ⟨dd, rfl, Udb⟩) d0 d1 d2 d3 d4 d5 _ _ _ d15 _ _ _ _ _ _ d22 d23 d24 d25 d26 d27 w
theorem t606 {V : Vm} {cl sl : Nat} (K : Cx Z a0 z0 dc kd es el em mr le kl f cK cS methk ck hh n1 n2 lk v1 v2 o1 o2 c1 c2 cv1 cv2 co1 co2 ag ta wn tw vs us ws items gs r1 r2) (hcl : cl + 65 ≤ 112) (hsl : sl + 520 ≤ 4608) (G1 G2 : Bool) (hr1 : r1 = if G1 = true then some v1 else none) (hr2 : r2 = if G2 = true then some v2 else none) (tail : List Value) (dd : Addr) (Ud : Str Z hh dd [45, 45]) (hvs : vs = own_flat n1 n2 items ++ (.ref dd :: tail)) (hus : us = gs ++ tail) (hfl : (own_flat n1 n2 items).length ≤ 6) (hl : vs.length ≤ 8) (ps : Int32) (H1 H2 EE TL AG : Bool)  (d0 d1 d2 d3 d4 d5 d15 d22 d23 d24 d25 d26 d27 : Slot) (w : Wk p l e room_1 s m args below meth c Z a0 consts_1 S0 Jvm.Pilot.@@N@@.x code maxLocals ret V hh cl sl (mkF m 606 #[d0, d1, d2, d3, d4, d5, .val (.ref n1), .val (.ref n2), .val (.ref lk), .val (.ref v1), .val (.ref v2), .val (.ref o1), .val (.ref o2), .val (.int (own_fl G1)), .val (.int (own_fl G2)), d15, .val (.int ps), .val (.int (own_fl H1)), .val (.int (own_fl H2)), .val (.int (own_fl EE)), .val (.int (own_fl TL)), .val (.int (own_fl AG)), d22, d23, d24, d25, d26, d27, .val (.ref ag), .val (.ref wn), .unset, .unset, .unset, .unset, .unset] [])) : Fini p e below s Z consts_1 S0 112 4608 (fun v h => v = some (.int 1)) := by
 obtain ⟨hw, hEL, Sc, hz0, ST, LF, hc1, hc2, ho1, ho2, T, hn12, hc12, hbin, hlk1, hlk2, honce, hrun, hok⟩ := id K
 obtain ⟨Sd, Dd, Xd, Ss, Xs, Fz, Sl, Xl, Fe0, Al0, Fn0, Se, Xe, Mr⟩ := id ST
 have hstr := own_hstr hw
 have hx0 := w.old
 have l10a := T.2.2.2.2.2.2.2.1.len
 have l10w := T.2.2.2.2.2.2.2.2.1.len
 replace w := w.iload (pc' := 608) at_606 rfl
 by_cases q : TL = true
 rotate_left
 ·
   replace w := w.ifYes (pc' := 631) at_608 ((if0 _ _).trans (teq (own_fF q)).1)
   exact t631 K oml oml G1 G2 hr1 hr2 tail dd Ud hvs hus hfl (by omega) ps H1 H2 EE TL AG d0 d1 d2 d3 d4 d5 d15 d22 d23 d24 d25 d26 d27 w
 replace w := ((w.ifNo (pc' := 611) at_608 ((if0 _ _).trans (feq (own_fT q)).1)).aload at_611 rfl).aload (pc' := 615) at_613 rfl
 have Ioa := own_insO hw T.2.2.1
 have nxa : lk ≠ ag := Exa.ne (T.2.2.1).exa (T).2.2.2.2.2.2.2.1.exa (by decide)
 have ema := own_oem w.old Xe T.2.2.1
 have X_ag := (T).2.2.2.2.2.2.2.1.exa
 obtain ⟨kAa, nAa, uAa, ATa⟩ := own_llArv w.old Dd (T).2.2.2.2.2.2.2.1
 have hxa := w.old
 obtain ⟨v1, V1, h1, hq1, A1, w⟩ := w.face (xi := mN89) (y' := mN25) (W := 0) (C := "java/util/ArrayList") (b := ag) (w.pays 0 (rmADD l Z a0 hw hEL ST ag ta vs (by omega) lk hh w.old (T).2.2.2.2.2.2.2.1 Ioa nxa (T).2.2.2.2.2.2.2.2.2.2.2.2.2.1) (wq hw 339 rfl) (wq hw 46 rfl) all0 nle nle) (wq hw 332 rfl) (wq hw 333 rfl) (wq hw 334 rfl) (wq hw 335 rfl) (wq hw 336 rfl) (wq hw 337 rfl) (wq hw 338 rfl) (wq hw 150 rfl) (argsL := [(.ref lk)]) (rest := []) (by decide) (X_ag) pd_15 rfl rfl nlr rfl at_615 oml oml (pc' := 620)
 obtain ⟨rfl, taa, tqa, qaa, Ka, qba, TLa⟩ := hq1
 replace w := w.toS [(.int (1 : Int32))]
 have qca : tqa = ag ∨ tqa = ta := qaa.imp id And.left
 have Ta := LSt.addA hw hxa Dd T qaa Ka qba TLa (fun u hu => by
   rcases List.mem_append.mp hu with q | q
   · exact (T).2.2.2.2.2.2.2.2.2.2.2.1.keep Ka u q
   · cases List.mem_singleton.mp q
     exact ⟨lk, rfl, own_insKeep Ka Ioa, ema⟩)
 have Uxa := own_strL hw X_ag ATa qca Ka T.2.2.1
 replace w := ((w.pop at_620).aload at_621 rfl).aload (pc' := 625) at_623 rfl
 have Iob := own_insO hw Uxa
 have nxb : lk ≠ wn := Exa.ne (Uxa).exa (Ta).2.2.2.2.2.2.2.2.1.exa (by decide)
 have X_wn := (Ta).2.2.2.2.2.2.2.2.1.exa
 obtain ⟨kAb, nAb, uAb, ATb⟩ := own_llArv w.old Dd (Ta).2.2.2.2.2.2.2.2.1
 have hxb := w.old
 obtain ⟨v2, V2, h2, hq2, A2, w⟩ := w.face (xi := mN89) (y' := mN25) (W := 0) (C := "java/util/ArrayList") (b := wn) (w.pays 0 (rmADD l Z a0 hw hEL ST wn tw ws (by have z := (Ta).2.2.2.2.2.2.2.2.2.2.2.2.1.1; have z2 := congrArg List.length hvs; have z3 := own_opsR _ _ _ _ _ _ _ hrun; have z5 := own_opsL n1 n2 items; rw [hus] at z; simp at z z2 z3; omega) lk h1 w.old (Ta).2.2.2.2.2.2.2.2.1 Iob nxb (Ta).2.2.2.2.2.2.2.2.2.2.2.2.2.2) (wq hw 339 rfl) (wq hw 46 rfl) all0 nle nle) (wq hw 332 rfl) (wq hw 333 rfl) (wq hw 334 rfl) (wq hw 335 rfl) (wq hw 336 rfl) (wq hw 337 rfl) (wq hw 338 rfl) (wq hw 150 rfl) (argsL := [(.ref lk)]) (rest := []) (by decide) (X_wn) pd_15 rfl rfl nlr rfl at_625 oml oml (pc' := 630)
 obtain ⟨rfl, twb, tqb, qab, Kb, qbb, TLb⟩ := hq2
 replace w := w.toS [(.int (1 : Int32))]
 have qcb : tqb = wn ∨ tqb = tw := qab.imp id And.left
 have Tb := LSt.addW hw hxb Dd Ta qab Kb qbb TLb ((own_sprL hw X_wn ATb qcb Kb (Ta).2.2.2.2.2.2.2.2.2.2.2.2.1).snoc (own_strL hw X_wn ATb qcb Kb Uxa) (own_strL hw X_wn ATb qcb Kb Uxa) (by simp) hlk1 hlk2 hlk1 hlk2)
 have hokb := own_iokL hw X_wn ATb qcb Kb (own_iokL hw X_ag ATa qca Ka hok)
 have Udb := own_strL hw X_wn ATb qcb Kb (own_strL hw X_ag ATa qca Ka Ud)
 have husb : us ++ [.ref lk] = gs ++ (tail ++ [.ref lk]) := by rw [hus, List.append_assoc]
 have hvsb : vs ++ [.ref lk] = own_flat n1 n2 items ++ (.ref dd :: (tail ++ [.ref lk])) := by rw [hvs]; simp
 replace w := w.pop (pc' := 631) at_630
 exact t631 ⟨hw, hEL, Sc, hz0, ST, LF, hc1, hc2, ho1, ho2, Tb, hn12, hc12, hbin, hlk1, hlk2, honce, hrun, hokb⟩ oml oml G1 G2 hr1 hr2 (tail ++ [.ref lk]) dd Udb hvsb husb hfl (by simp only [List.length_append, List.length_cons, List.length_nil]; omega) ps H1 H2 EE TL AG d0 d1 d2 d3 d4 d5 d15 d22 d23 d24 d25 d26 d27 w
theorem t575 {V : Vm} {cl sl : Nat} (K : Cx Z a0 z0 dc kd es el em mr le kl f cK cS methk ck hh n1 n2 lk v1 v2 o1 o2 c1 c2 cv1 cv2 co1 co2 ag ta wn tw vs us ws items gs r1 r2) (hcl : cl + 67 ≤ 112) (hsl : sl + 540 ≤ 4608) (G1 G2 : Bool) (hr1 : r1 = if G1 = true then some v1 else none) (hr2 : r2 = if G2 = true then some v2 else none) (tail : List Value) (dd : Addr) (Ud : Str Z hh dd [45, 45]) (hvs : vs = own_flat n1 n2 items ++ (.ref dd :: tail)) (hus : us = gs ++ tail) (hfl : (own_flat n1 n2 items).length ≤ 6) (hl : vs.length ≤ 7) (ps : Int32) (H1 H2 EE TL AG : Bool) (hl3 : ps = 3 → vs.length ≤ 6)  (d0 d1 d2 d3 d4 d5 d15 d22 d23 d24 d25 d26 d27 : Slot) (w : Wk p l e room_1 s m args below meth c Z a0 consts_1 S0 Jvm.Pilot.@@N@@.x code maxLocals ret V hh cl sl (mkF m 575 #[d0, d1, d2, d3, d4, d5, .val (.ref n1), .val (.ref n2), .val (.ref lk), .val (.ref v1), .val (.ref v2), .val (.ref o1), .val (.ref o2), .val (.int (own_fl G1)), .val (.int (own_fl G2)), d15, .val (.int ps), .val (.int (own_fl H1)), .val (.int (own_fl H2)), .val (.int (own_fl EE)), .val (.int (own_fl TL)), .val (.int (own_fl AG)), d22, d23, d24, d25, d26, d27, .val (.ref ag), .val (.ref wn), .unset, .unset, .unset, .unset, .unset] [])) : Fini p e below s Z consts_1 S0 112 4608 (fun v h => v = some (.int 1)) := by
 obtain ⟨hw, hEL, Sc, hz0, ST, LF, hc1, hc2, ho1, ho2, T, hn12, hc12, hbin, hlk1, hlk2, honce, hrun, hok⟩ := id K
 obtain ⟨Sd, Dd, Xd, Ss, Xs, Fz, Sl, Xl, Fe0, Al0, Fn0, Se, Xe, Mr⟩ := id ST
 have hstr := own_hstr hw
 have hx0 := w.old
 have l10a := T.2.2.2.2.2.2.2.1.len
 have l10w := T.2.2.2.2.2.2.2.2.1.len
 replace w := w.iload (pc' := 577) at_575 rfl
 by_cases q : H1 = true
 rotate_left
 ·
   replace w := w.ifYes (pc' := 606) at_577 ((if0 _ _).trans (teq (own_fF q)).1)
   exact t606 K oml oml G1 G2 hr1 hr2 tail dd Ud hvs hus hfl (by omega) ps H1 H2 EE TL AG d0 d1 d2 d3 d4 d5 d15 d22 d23 d24 d25 d26 d27 w
 replace w := ((w.ifNo (pc' := 580) at_577 ((if0 _ _).trans (feq (own_fT q)).1)).iload at_580 rfl).iconst (pc' := 583) (3 : Int32) at_582
 by_cases q2 : ps = 3
 rotate_left
 ·
   replace w := w.icmpYes (pc' := 606) at_583 ((feq q2).2)
   exact t606 K oml oml G1 G2 hr1 hr2 tail dd Ud hvs hus hfl (by omega) ps H1 H2 EE TL AG d0 d1 d2 d3 d4 d5 d15 d22 d23 d24 d25 d26 d27 w
 replace w := ((w.icmpNo (pc' := 586) at_583 ((teq q2).2)).aload at_586 rfl).aload (pc' := 590) at_588 rfl
 have Ioa := own_insO hw T.2.2.2.2.2.1
 have nxa : o1 ≠ ag := Exa.ne (T.2.2.2.2.2.1).exa (T).2.2.2.2.2.2.2.1.exa (by decide)
 have ema := own_oem w.old Xe T.2.2.2.2.2.1
 have X_ag := (T).2.2.2.2.2.2.2.1.exa
 obtain ⟨kAa, nAa, uAa, ATa⟩ := own_llArv w.old Dd (T).2.2.2.2.2.2.2.1
 have hxa := w.old
 obtain ⟨v1, V1, h1, hq1, A1, w⟩ := w.face (xi := mN89) (y' := mN25) (W := 0) (C := "java/util/ArrayList") (b := ag) (w.pays 0 (rmADD l Z a0 hw hEL ST ag ta vs (by omega) o1 hh w.old (T).2.2.2.2.2.2.2.1 Ioa nxa (T).2.2.2.2.2.2.2.2.2.2.2.2.2.1) (wq hw 339 rfl) (wq hw 46 rfl) all0 nle nle) (wq hw 332 rfl) (wq hw 333 rfl) (wq hw 334 rfl) (wq hw 335 rfl) (wq hw 336 rfl) (wq hw 337 rfl) (wq hw 338 rfl) (wq hw 150 rfl) (argsL := [(.ref o1)]) (rest := []) (by decide) (X_ag) pd_15 rfl rfl nlr rfl at_590 oml oml (pc' := 595)
 obtain ⟨rfl, taa, tqa, qaa, Ka, qba, TLa⟩ := hq1
 replace w := w.toS [(.int (1 : Int32))]
 have qca : tqa = ag ∨ tqa = ta := qaa.imp id And.left
 have Ta := LSt.addA hw hxa Dd T qaa Ka qba TLa (fun u hu => by
   rcases List.mem_append.mp hu with q | q
   · exact (T).2.2.2.2.2.2.2.2.2.2.2.1.keep Ka u q
   · cases List.mem_singleton.mp q
     exact ⟨o1, rfl, own_insKeep Ka Ioa, ema⟩)
 have Uxa := own_strL hw X_ag ATa qca Ka T.2.2.2.2.2.1
 replace w := ((w.pop at_595).aload at_596 rfl).aload (pc' := 600) at_598 rfl
 have Iob := own_insO hw Uxa
 have nxb : o1 ≠ wn := Exa.ne (Uxa).exa (Ta).2.2.2.2.2.2.2.2.1.exa (by decide)
 have X_wn := (Ta).2.2.2.2.2.2.2.2.1.exa
 obtain ⟨kAb, nAb, uAb, ATb⟩ := own_llArv w.old Dd (Ta).2.2.2.2.2.2.2.2.1
 have hxb := w.old
 obtain ⟨v2, V2, h2, hq2, A2, w⟩ := w.face (xi := mN89) (y' := mN25) (W := 0) (C := "java/util/ArrayList") (b := wn) (w.pays 0 (rmADD l Z a0 hw hEL ST wn tw ws (by have z := (Ta).2.2.2.2.2.2.2.2.2.2.2.2.1.1; have z2 := congrArg List.length hvs; have z3 := own_opsR _ _ _ _ _ _ _ hrun; have z5 := own_opsL n1 n2 items; rw [hus] at z; simp at z z2 z3; omega) o1 h1 w.old (Ta).2.2.2.2.2.2.2.2.1 Iob nxb (Ta).2.2.2.2.2.2.2.2.2.2.2.2.2.2) (wq hw 339 rfl) (wq hw 46 rfl) all0 nle nle) (wq hw 332 rfl) (wq hw 333 rfl) (wq hw 334 rfl) (wq hw 335 rfl) (wq hw 336 rfl) (wq hw 337 rfl) (wq hw 338 rfl) (wq hw 150 rfl) (argsL := [(.ref o1)]) (rest := []) (by decide) (X_wn) pd_15 rfl rfl nlr rfl at_600 oml oml (pc' := 605)
 obtain ⟨rfl, twb, tqb, qab, Kb, qbb, TLb⟩ := hq2
 replace w := w.toS [(.int (1 : Int32))]
 have qcb : tqb = wn ∨ tqb = tw := qab.imp id And.left
 have Tb := LSt.addW hw hxb Dd Ta qab Kb qbb TLb ((own_sprL hw X_wn ATb qcb Kb (Ta).2.2.2.2.2.2.2.2.2.2.2.2.1).snoc (own_strL hw X_wn ATb qcb Kb Uxa) (own_strL hw X_wn ATb qcb Kb Uxa) (by omega) (own_strNe Uxa (Ta.1).str (by omega) (by simp) (by simp; omega)) (own_strNe Uxa (Ta.2.1).str (by omega) (by simp) (by simp; omega)) (own_strNe Uxa (Ta.1).str (by omega) (by simp) (by simp; omega)) (own_strNe Uxa (Ta.2.1).str (by omega) (by simp) (by simp; omega)))
 have hokb := own_iokL hw X_wn ATb qcb Kb (own_iokL hw X_ag ATa qca Ka hok)
 have Udb := own_strL hw X_wn ATb qcb Kb (own_strL hw X_ag ATa qca Ka Ud)
 have husb : us ++ [.ref o1] = gs ++ (tail ++ [.ref o1]) := by rw [hus, List.append_assoc]
 have hvsb : vs ++ [.ref o1] = own_flat n1 n2 items ++ (.ref dd :: (tail ++ [.ref o1])) := by rw [hvs]; simp
 replace w := w.pop (pc' := 606) at_605
 exact t606 ⟨hw, hEL, Sc, hz0, ST, LF, hc1, hc2, ho1, ho2, Tb, hn12, hc12, hbin, hlk1, hlk2, honce, hrun, hokb⟩ oml oml G1 G2 hr1 hr2 (tail ++ [.ref o1]) dd Udb hvsb husb hfl (by have := hl3 q2; simp only [List.length_append, List.length_cons, List.length_nil]; omega) ps H1 H2 EE TL AG d0 d1 d2 d3 d4 d5 d15 d22 d23 d24 d25 d26 d27 w
theorem t560 {V : Vm} {cl sl : Nat} (K : Cx Z a0 z0 dc kd es el em mr le kl f cK cS methk ck hh n1 n2 lk v1 v2 o1 o2 c1 c2 cv1 cv2 co1 co2 ag ta wn tw vs us ws items gs r1 r2) (hcl : cl + 70 ≤ 112) (hsl : sl + 570 ≤ 4608) (G1 G2 : Bool) (hr1 : r1 = if G1 = true then some v1 else none) (hr2 : r2 = if G2 = true then some v2 else none) (hvs : vs = own_flat n1 n2 items) (hus : us = gs) (hl : vs.length ≤ 6) (ps : Int32) (H1 H2 EE TL AG : Bool) (hl3 : ps = 3 → EE = true → vs.length ≤ 5)  (d0 d1 d2 d3 d4 d5 d15 d22 d23 d24 d25 d26 d27 : Slot) (w : Wk p l e room_1 s m args below meth c Z a0 consts_1 S0 Jvm.Pilot.@@N@@.x code maxLocals ret V hh cl sl (mkF m 560 #[d0, d1, d2, d3, d4, d5, .val (.ref n1), .val (.ref n2), .val (.ref lk), .val (.ref v1), .val (.ref v2), .val (.ref o1), .val (.ref o2), .val (.int (own_fl G1)), .val (.int (own_fl G2)), d15, .val (.int ps), .val (.int (own_fl H1)), .val (.int (own_fl H2)), .val (.int (own_fl EE)), .val (.int (own_fl TL)), .val (.int (own_fl AG)), d22, d23, d24, d25, d26, d27, .val (.ref ag), .val (.ref wn), .unset, .unset, .unset, .unset, .unset] [])) : Fini p e below s Z consts_1 S0 112 4608 (fun v h => v = some (.int 1)) := by
 obtain ⟨hw, hEL, Sc, hz0, ST, LF, hc1, hc2, ho1, ho2, T, hn12, hc12, hbin, hlk1, hlk2, honce, hrun, hok⟩ := id K
 obtain ⟨Sd, Dd, Xd, Ss, Xs, Fz, Sl, Xl, Fe0, Al0, Fn0, Se, Xe, Mr⟩ := id ST
 have hstr := own_hstr hw
 have hx0 := w.old
 have l10a := T.2.2.2.2.2.2.2.1.len
 have l10w := T.2.2.2.2.2.2.2.2.1.len
 replace w := w.iload (pc' := 562) at_560 rfl
 by_cases q : EE = true
 rotate_left
 ·
   replace w := w.ifYes (pc' := 656) at_562 ((if0 _ _).trans (teq (own_fF q)).1)
   have hfl : (own_flat n1 n2 items).length ≤ 6 := by rw [← hvs]; exact hl
   have hvs0 : vs = own_flat n1 n2 items ++ [] := by rw [hvs, List.append_nil]
   have hus0 : us = gs ++ [] := by rw [hus, List.append_nil]
   have ec := own_costL n1 n2 items
   have eo := own_opsR _ _ _ _ _ _ _ hrun
   have e1 : own_fl G1 = own_fl r1.isSome := by rw [hr1]; cases G1 <;> rfl
   have e2 : own_fl G2 = own_fl r2.isSome := by rw [hr2]; cases G2 <;> rfl
   rw [e1, e2] at w
   exact t656 l Z a0 hw hEL z0 Sc hz0 ST LF oml oml _ n1 n2 lk v1 v2 o1 o2 c1 c2 cv1 cv2 co1 co2 hc1 hc2 ag ta wn tw vs us ws T hn12 hc12 hbin items [] [] gs r1 r2 hvs0 honce (by omega) (by omega) (by have z := (T).2.2.2.2.2.2.2.2.2.2.2.2.1.1; rw [hus0] at z; simp at z eo ⊢; omega) hrun hus0 (fun a q => by rw [hr1] at q; split at q <;> simp_all) (fun a q => by rw [hr2] at q; split at q <;> simp_all) hok (Or.inl ⟨rfl, rfl⟩) d0 d1 d2 d3 d4 d5 _ _ _ d15 _ _ _ _ _ _ d22 d23 d24 d25 d26 d27 w
 replace w := (w.ifNo (pc' := 565) at_562 ((if0 _ _).trans (feq (own_fT q)).1)).aload (pc' := 567) at_565 rfl
 obtain ⟨y1, V1, h1, E1, T_y1, N_y1, A1, w⟩ := w.ldcT [(45 : Int32), (45 : Int32)] 8 (text := "--") (wq hw 566 rfl) hstr (by decide) (by decide) (by decide) (by decide) (by decide) (by decide) at_567 (by decide) (by decide) oml oml (pc' := 569)
 have Tx := T.ext E1
 have E_1 := E1
 have Ioa := own_insO hw T_y1
 have nxa : y1 ≠ ag := Exa.ne (T_y1).exa (Tx).2.2.2.2.2.2.2.1.exa (by decide)
 have ema := own_oem w.old Xe T_y1
 have X_ag := (Tx).2.2.2.2.2.2.2.1.exa
 obtain ⟨kAa, nAa, uAa, ATa⟩ := own_llArv w.old Dd (Tx).2.2.2.2.2.2.2.1
 have hxa := w.old
 obtain ⟨v2, V2, h2, hq2, A2, w⟩ := w.face (xi := mN89) (y' := mN25) (W := 0) (C := "java/util/ArrayList") (b := ag) (w.pays 0 (rmADD l Z a0 hw hEL ST ag ta vs (by omega) y1 h1 w.old (Tx).2.2.2.2.2.2.2.1 Ioa nxa (Tx).2.2.2.2.2.2.2.2.2.2.2.2.2.1) (wq hw 339 rfl) (wq hw 46 rfl) all0 nle nle) (wq hw 332 rfl) (wq hw 333 rfl) (wq hw 334 rfl) (wq hw 335 rfl) (wq hw 336 rfl) (wq hw 337 rfl) (wq hw 338 rfl) (wq hw 150 rfl) (argsL := [(.ref y1)]) (rest := []) (by decide) (X_ag) pd_15 rfl rfl nlr rfl at_569 oml oml (pc' := 574)
 obtain ⟨rfl, taa, tqa, qaa, Ka, qba, TLa⟩ := hq2
 replace w := w.toS [(.int (1 : Int32))]
 have qca : tqa = ag ∨ tqa = ta := qaa.imp id And.left
 have Ta := LSt.addA hw hxa Dd Tx qaa Ka qba TLa (fun u hu => by
   rcases List.mem_append.mp hu with q | q
   · exact (Tx).2.2.2.2.2.2.2.2.2.2.2.1.keep Ka u q
   · cases List.mem_singleton.mp q
     exact ⟨y1, rfl, own_insKeep Ka Ioa, ema⟩)
 have hoka := own_iokL hw X_ag ATa qca Ka (own_iokE E_1 hok)
 have Uda := own_strL hw X_ag ATa qca Ka T_y1
 have hfl : (own_flat n1 n2 items).length ≤ 6 := by rw [← hvs]; exact hl
 replace w := w.pop (pc' := 575) at_574
 exact t575 ⟨hw, hEL, Sc, hz0, ST, LF, hc1, hc2, ho1, ho2, Ta, hn12, hc12, hbin, hlk1, hlk2, honce, hrun, hoka⟩ oml oml G1 G2 hr1 hr2 [] y1 Uda (by rw [hvs]) (by rw [hus, List.append_nil]) hfl (by simp only [List.length_append, List.length_cons, List.length_nil]; omega) ps H1 H2 EE TL AG (fun z => by have := hl3 z q; simp only [List.length_append, List.length_cons, List.length_nil]; omega) d0 d1 d2 d3 d4 d5 d15 d22 d23 d24 d25 d26 d27 w
theorem t535 {V : Vm} {cl sl : Nat} (K : Cx Z a0 z0 dc kd es el em mr le kl f cK cS methk ck hh n1 n2 lk v1 v2 o1 o2 c1 c2 cv1 cv2 co1 co2 ag ta wn tw vs us ws items gs r1 r2) (hcl : cl + 72 ≤ 112) (hsl : sl + 590 ≤ 4608) (G1 G2 : Bool) (hr1 : r1 = if G1 = true then some v1 else none) (hr2 : r2 = if G2 = true then some v2 else none) (hvs : vs = own_flat n1 n2 items) (hus : us = gs) (ps : Int32) (H1 H2 EE TL AG : Bool) (hl : vs.length ≤ 5) (hl3 : ps = 3 → EE = true → vs.length ≤ 4)  (d0 d1 d2 d3 d4 d5 d15 d22 d23 d24 d25 d26 d27 : Slot) (w : Wk p l e room_1 s m args below meth c Z a0 consts_1 S0 Jvm.Pilot.@@N@@.x code maxLocals ret V hh cl sl (mkF m 535 #[d0, d1, d2, d3, d4, d5, .val (.ref n1), .val (.ref n2), .val (.ref lk), .val (.ref v1), .val (.ref v2), .val (.ref o1), .val (.ref o2), .val (.int (own_fl G1)), .val (.int (own_fl G2)), d15, .val (.int ps), .val (.int (own_fl H1)), .val (.int (own_fl H2)), .val (.int (own_fl EE)), .val (.int (own_fl TL)), .val (.int (own_fl AG)), d22, d23, d24, d25, d26, d27, .val (.ref ag), .val (.ref wn), .unset, .unset, .unset, .unset, .unset] [])) : Fini p e below s Z consts_1 S0 112 4608 (fun v h => v = some (.int 1)) := by
 obtain ⟨hw, hEL, Sc, hz0, ST, LF, hc1, hc2, ho1, ho2, T, hn12, hc12, hbin, hlk1, hlk2, honce, hrun, hok⟩ := id K
 obtain ⟨Sd, Dd, Xd, Ss, Xs, Fz, Sl, Xl, Fe0, Al0, Fn0, Se, Xe, Mr⟩ := id ST
 have hstr := own_hstr hw
 have hx0 := w.old
 have l10a := T.2.2.2.2.2.2.2.1.len
 have l10w := T.2.2.2.2.2.2.2.2.1.len
 replace w := w.iload (pc' := 537) at_535 rfl
 by_cases q : H2 = true
 rotate_left
 ·
   replace w := w.ifYes (pc' := 560) at_537 ((if0 _ _).trans (teq (own_fF q)).1)
   exact t560 K oml oml G1 G2 hr1 hr2 hvs hus (by omega) ps H1 H2 EE TL AG (fun z1 z2 => by have := hl3 z1 z2; omega) d0 d1 d2 d3 d4 d5 d15 d22 d23 d24 d25 d26 d27 w
 replace w := ((w.ifNo (pc' := 540) at_537 ((if0 _ _).trans (feq (own_fT q)).1)).aload at_540 rfl).aload (pc' := 544) at_542 rfl
 have Ioa := own_insO hw T.2.2.2.2.2.2.1
 have nxa : o2 ≠ ag := Exa.ne (T.2.2.2.2.2.2.1).exa (T).2.2.2.2.2.2.2.1.exa (by decide)
 have ema := own_oem w.old Xe T.2.2.2.2.2.2.1
 have X_ag := (T).2.2.2.2.2.2.2.1.exa
 obtain ⟨kAa, nAa, uAa, ATa⟩ := own_llArv w.old Dd (T).2.2.2.2.2.2.2.1
 have hxa := w.old
 obtain ⟨v1, V1, h1, hq1, A1, w⟩ := w.face (xi := mN89) (y' := mN25) (W := 0) (C := "java/util/ArrayList") (b := ag) (w.pays 0 (rmADD l Z a0 hw hEL ST ag ta vs (by omega) o2 hh w.old (T).2.2.2.2.2.2.2.1 Ioa nxa (T).2.2.2.2.2.2.2.2.2.2.2.2.2.1) (wq hw 339 rfl) (wq hw 46 rfl) all0 nle nle) (wq hw 332 rfl) (wq hw 333 rfl) (wq hw 334 rfl) (wq hw 335 rfl) (wq hw 336 rfl) (wq hw 337 rfl) (wq hw 338 rfl) (wq hw 150 rfl) (argsL := [(.ref o2)]) (rest := []) (by decide) (X_ag) pd_15 rfl rfl nlr rfl at_544 oml oml (pc' := 549)
 obtain ⟨rfl, taa, tqa, qaa, Ka, qba, TLa⟩ := hq1
 replace w := w.toS [(.int (1 : Int32))]
 have qca : tqa = ag ∨ tqa = ta := qaa.imp id And.left
 have Ta := LSt.addA hw hxa Dd T qaa Ka qba TLa (fun u hu => by
   rcases List.mem_append.mp hu with q | q
   · exact (T).2.2.2.2.2.2.2.2.2.2.2.1.keep Ka u q
   · cases List.mem_singleton.mp q
     exact ⟨o2, rfl, own_insKeep Ka Ioa, ema⟩)
 have Uxa := own_strL hw X_ag ATa qca Ka T.2.2.2.2.2.2.1
 replace w := ((w.pop at_549).aload at_550 rfl).aload (pc' := 554) at_552 rfl
 have Iob := own_insO hw Uxa
 have nxb : o2 ≠ wn := Exa.ne (Uxa).exa (Ta).2.2.2.2.2.2.2.2.1.exa (by decide)
 have X_wn := (Ta).2.2.2.2.2.2.2.2.1.exa
 obtain ⟨kAb, nAb, uAb, ATb⟩ := own_llArv w.old Dd (Ta).2.2.2.2.2.2.2.2.1
 have hxb := w.old
 obtain ⟨v2, V2, h2, hq2, A2, w⟩ := w.face (xi := mN89) (y' := mN25) (W := 0) (C := "java/util/ArrayList") (b := wn) (w.pays 0 (rmADD l Z a0 hw hEL ST wn tw ws (by have z := (Ta).2.2.2.2.2.2.2.2.2.2.2.2.1.1; have z2 := congrArg List.length hvs; have z3 := own_opsR _ _ _ _ _ _ _ hrun; have z5 := own_opsL n1 n2 items; rw [hus] at z; simp at z z2 z3; omega) o2 h1 w.old (Ta).2.2.2.2.2.2.2.2.1 Iob nxb (Ta).2.2.2.2.2.2.2.2.2.2.2.2.2.2) (wq hw 339 rfl) (wq hw 46 rfl) all0 nle nle) (wq hw 332 rfl) (wq hw 333 rfl) (wq hw 334 rfl) (wq hw 335 rfl) (wq hw 336 rfl) (wq hw 337 rfl) (wq hw 338 rfl) (wq hw 150 rfl) (argsL := [(.ref o2)]) (rest := []) (by decide) (X_wn) pd_15 rfl rfl nlr rfl at_554 oml oml (pc' := 559)
 obtain ⟨rfl, twb, tqb, qab, Kb, qbb, TLb⟩ := hq2
 replace w := w.toS [(.int (1 : Int32))]
 have qcb : tqb = wn ∨ tqb = tw := qab.imp id And.left
 have Tb := LSt.addW hw hxb Dd Ta qab Kb qbb TLb ((own_sprL hw X_wn ATb qcb Kb (Ta).2.2.2.2.2.2.2.2.2.2.2.2.1).snoc (own_strL hw X_wn ATb qcb Kb Uxa) (own_strL hw X_wn ATb qcb Kb Uxa) (by omega) (own_strNe Uxa (Ta.1).str (by omega) (by simp) (by simp; omega)) (own_strNe Uxa (Ta.2.1).str (by omega) (by simp) (by simp; omega)) (own_strNe Uxa (Ta.1).str (by omega) (by simp) (by simp; omega)) (own_strNe Uxa (Ta.2.1).str (by omega) (by simp) (by simp; omega)))
 have Uxb := own_strL hw X_wn ATb qcb Kb Uxa
 have hokb := own_iokS (own_iokL hw X_wn ATb qcb Kb (own_iokL hw X_ag ATa qca Ka hok)) (t := [.inl (o2, co2)]) ⟨⟨Uxb, by omega⟩, trivial⟩
 have husb : us ++ [.ref o2] = gs ++ [.ref o2] := by rw [hus]
 have hvsb : vs ++ [.ref o2] = own_flat n1 n2 (items ++ [.inl (o2, co2)]) := by rw [own_flatS, ← hvs]; rfl
 have hrunb : own_run [] none none (items ++ [.inl (o2, co2)]) = (gs ++ [.ref o2], r1, r2) := by rw [own_runS, hrun]; rfl
 have hob := own_onceI (o2, co2) items false false honce
 replace w := w.pop (pc' := 560) at_559
 exact t560 ⟨hw, hEL, Sc, hz0, ST, LF, hc1, hc2, ho1, ho2, Tb, hn12, hc12, hbin, hlk1, hlk2, hob, hrunb, hokb⟩ oml oml G1 G2 hr1 hr2 hvsb husb (by simp only [List.length_append, List.length_cons, List.length_nil]; omega) ps H1 H2 EE TL AG (fun z1 z2 => by have := hl3 z1 z2; simp only [List.length_append, List.length_cons, List.length_nil]; omega) d0 d1 d2 d3 d4 d5 d15 d22 d23 d24 d25 d26 d27 w
theorem t515 {V : Vm} {cl sl : Nat} (K : Cx Z a0 z0 dc kd es el em mr le kl f cK cS methk ck hh n1 n2 lk v1 v2 o1 o2 c1 c2 cv1 cv2 co1 co2 ag ta wn tw vs us ws items gs r1 r2) (hcl : cl + 74 ≤ 112) (hsl : sl + 610 ≤ 4608) (G1 G2 : Bool) (hr1 : r1 = if G1 = true then some v1 else none) (hr2 : r2 = if G2 = true then some v2 else none) (hvs : vs = own_flat n1 n2 items) (hus : us = gs) (ps : Int32) (H1 H2 EE TL AG : Bool) (hl : vs.length ≤ 4) (hne : ¬ (ps = 3 ∧ EE = true))  (d0 d1 d2 d3 d4 d5 d15 d22 d23 d24 d25 d26 d27 : Slot) (w : Wk p l e room_1 s m args below meth c Z a0 consts_1 S0 Jvm.Pilot.@@N@@.x code maxLocals ret V hh cl sl (mkF m 515 #[d0, d1, d2, d3, d4, d5, .val (.ref n1), .val (.ref n2), .val (.ref lk), .val (.ref v1), .val (.ref v2), .val (.ref o1), .val (.ref o2), .val (.int (own_fl G1)), .val (.int (own_fl G2)), d15, .val (.int ps), .val (.int (own_fl H1)), .val (.int (own_fl H2)), .val (.int (own_fl EE)), .val (.int (own_fl TL)), .val (.int (own_fl AG)), d22, d23, d24, d25, d26, d27, .val (.ref ag), .val (.ref wn), .unset, .unset, .unset, .unset, .unset] [])) : Fini p e below s Z consts_1 S0 112 4608 (fun v h => v = some (.int 1)) := by
 obtain ⟨hw, hEL, Sc, hz0, ST, LF, hc1, hc2, ho1, ho2, T, hn12, hc12, hbin, hlk1, hlk2, honce, hrun, hok⟩ := id K
 obtain ⟨Sd, Dd, Xd, Ss, Xs, Fz, Sl, Xl, Fe0, Al0, Fn0, Se, Xe, Mr⟩ := id ST
 have hstr := own_hstr hw
 have hx0 := w.old
 have l10a := T.2.2.2.2.2.2.2.1.len
 have l10w := T.2.2.2.2.2.2.2.2.1.len
 replace w := (w.aload at_515 rfl).aload (pc' := 519) at_517 rfl
 have Ioa := own_insO hw T.2.2.2.2.2.1
 have nxa : o1 ≠ ag := Exa.ne (T.2.2.2.2.2.1).exa (T).2.2.2.2.2.2.2.1.exa (by decide)
 have ema := own_oem w.old Xe T.2.2.2.2.2.1
 have X_ag := (T).2.2.2.2.2.2.2.1.exa
 obtain ⟨kAa, nAa, uAa, ATa⟩ := own_llArv w.old Dd (T).2.2.2.2.2.2.2.1
 have hxa := w.old
 obtain ⟨v1, V1, h1, hq1, A1, w⟩ := w.face (xi := mN89) (y' := mN25) (W := 0) (C := "java/util/ArrayList") (b := ag) (w.pays 0 (rmADD l Z a0 hw hEL ST ag ta vs (by omega) o1 hh w.old (T).2.2.2.2.2.2.2.1 Ioa nxa (T).2.2.2.2.2.2.2.2.2.2.2.2.2.1) (wq hw 339 rfl) (wq hw 46 rfl) all0 nle nle) (wq hw 332 rfl) (wq hw 333 rfl) (wq hw 334 rfl) (wq hw 335 rfl) (wq hw 336 rfl) (wq hw 337 rfl) (wq hw 338 rfl) (wq hw 150 rfl) (argsL := [(.ref o1)]) (rest := []) (by decide) (X_ag) pd_15 rfl rfl nlr rfl at_519 oml oml (pc' := 524)
 obtain ⟨rfl, taa, tqa, qaa, Ka, qba, TLa⟩ := hq1
 replace w := w.toS [(.int (1 : Int32))]
 have qca : tqa = ag ∨ tqa = ta := qaa.imp id And.left
 have Ta := LSt.addA hw hxa Dd T qaa Ka qba TLa (fun u hu => by
   rcases List.mem_append.mp hu with q | q
   · exact (T).2.2.2.2.2.2.2.2.2.2.2.1.keep Ka u q
   · cases List.mem_singleton.mp q
     exact ⟨o1, rfl, own_insKeep Ka Ioa, ema⟩)
 have Uxa := own_strL hw X_ag ATa qca Ka T.2.2.2.2.2.1
 replace w := ((w.pop at_524).aload at_525 rfl).aload (pc' := 529) at_527 rfl
 have Iob := own_insO hw Uxa
 have nxb : o1 ≠ wn := Exa.ne (Uxa).exa (Ta).2.2.2.2.2.2.2.2.1.exa (by decide)
 have X_wn := (Ta).2.2.2.2.2.2.2.2.1.exa
 obtain ⟨kAb, nAb, uAb, ATb⟩ := own_llArv w.old Dd (Ta).2.2.2.2.2.2.2.2.1
 have hxb := w.old
 obtain ⟨v2, V2, h2, hq2, A2, w⟩ := w.face (xi := mN89) (y' := mN25) (W := 0) (C := "java/util/ArrayList") (b := wn) (w.pays 0 (rmADD l Z a0 hw hEL ST wn tw ws (by have z := (Ta).2.2.2.2.2.2.2.2.2.2.2.2.1.1; have z2 := congrArg List.length hvs; have z3 := own_opsR _ _ _ _ _ _ _ hrun; have z5 := own_opsL n1 n2 items; rw [hus] at z; simp at z z2 z3; omega) o1 h1 w.old (Ta).2.2.2.2.2.2.2.2.1 Iob nxb (Ta).2.2.2.2.2.2.2.2.2.2.2.2.2.2) (wq hw 339 rfl) (wq hw 46 rfl) all0 nle nle) (wq hw 332 rfl) (wq hw 333 rfl) (wq hw 334 rfl) (wq hw 335 rfl) (wq hw 336 rfl) (wq hw 337 rfl) (wq hw 338 rfl) (wq hw 150 rfl) (argsL := [(.ref o1)]) (rest := []) (by decide) (X_wn) pd_15 rfl rfl nlr rfl at_529 oml oml (pc' := 534)
 obtain ⟨rfl, twb, tqb, qab, Kb, qbb, TLb⟩ := hq2
 replace w := w.toS [(.int (1 : Int32))]
 have qcb : tqb = wn ∨ tqb = tw := qab.imp id And.left
 have Tb := LSt.addW hw hxb Dd Ta qab Kb qbb TLb ((own_sprL hw X_wn ATb qcb Kb (Ta).2.2.2.2.2.2.2.2.2.2.2.2.1).snoc (own_strL hw X_wn ATb qcb Kb Uxa) (own_strL hw X_wn ATb qcb Kb Uxa) (by omega) (own_strNe Uxa (Ta.1).str (by omega) (by simp) (by simp; omega)) (own_strNe Uxa (Ta.2.1).str (by omega) (by simp) (by simp; omega)) (own_strNe Uxa (Ta.1).str (by omega) (by simp) (by simp; omega)) (own_strNe Uxa (Ta.2.1).str (by omega) (by simp) (by simp; omega)))
 have Uxb := own_strL hw X_wn ATb qcb Kb Uxa
 have hokb := own_iokS (own_iokL hw X_wn ATb qcb Kb (own_iokL hw X_ag ATa qca Ka hok)) (t := [.inl (o1, co1)]) ⟨⟨Uxb, by omega⟩, trivial⟩
 have husb : us ++ [.ref o1] = gs ++ [.ref o1] := by rw [hus]
 have hvsb : vs ++ [.ref o1] = own_flat n1 n2 (items ++ [.inl (o1, co1)]) := by rw [own_flatS, ← hvs]; rfl
 have hrunb : own_run [] none none (items ++ [.inl (o1, co1)]) = (gs ++ [.ref o1], r1, r2) := by rw [own_runS, hrun]; rfl
 have hob := own_onceI (o1, co1) items false false honce
 replace w := w.pop (pc' := 535) at_534
 exact t535 ⟨hw, hEL, Sc, hz0, ST, LF, hc1, hc2, ho1, ho2, Tb, hn12, hc12, hbin, hlk1, hlk2, hob, hrunb, hokb⟩ oml oml G1 G2 hr1 hr2 hvsb husb ps H1 H2 EE TL AG (by simp only [List.length_append, List.length_cons, List.length_nil]; omega) (fun z1 z2 => absurd ⟨z1, z2⟩ hne) d0 d1 d2 d3 d4 d5 d15 d22 d23 d24 d25 d26 d27 w
theorem t493 {V : Vm} {cl sl : Nat} (K : Cx Z a0 z0 dc kd es el em mr le kl f cK cS methk ck hh n1 n2 lk v1 v2 o1 o2 c1 c2 cv1 cv2 co1 co2 ag ta wn tw vs us ws items gs r1 r2) (hcl : cl + 74 ≤ 112) (hsl : sl + 610 ≤ 4608) (G1 G2 : Bool) (hr1 : r1 = if G1 = true then some v1 else none) (hr2 : r2 = if G2 = true then some v2 else none) (hvs : vs = own_flat n1 n2 items) (hus : us = gs) (ps : Int32) (H1 H2 EE TL AG : Bool) (hl : vs.length ≤ 5) (hl2 : ps = 2 ∨ ps = 3 → vs.length ≤ 4)  (d0 d1 d2 d3 d4 d5 d15 d22 d23 d24 d25 d26 d27 : Slot) (w : Wk p l e room_1 s m args below meth c Z a0 consts_1 S0 Jvm.Pilot.@@N@@.x code maxLocals ret V hh cl sl (mkF m 493 #[d0, d1, d2, d3, d4, d5, .val (.ref n1), .val (.ref n2), .val (.ref lk), .val (.ref v1), .val (.ref v2), .val (.ref o1), .val (.ref o2), .val (.int (own_fl G1)), .val (.int (own_fl G2)), d15, .val (.int ps), .val (.int (own_fl H1)), .val (.int (own_fl H2)), .val (.int (own_fl EE)), .val (.int (own_fl TL)), .val (.int (own_fl AG)), d22, d23, d24, d25, d26, d27, .val (.ref ag), .val (.ref wn), .unset, .unset, .unset, .unset, .unset] [])) : Fini p e below s Z consts_1 S0 112 4608 (fun v h => v = some (.int 1)) := by
 obtain ⟨hw, hEL, Sc, hz0, ST, LF, hc1, hc2, ho1, ho2, T, hn12, hc12, hbin, hlk1, hlk2, honce, hrun, hok⟩ := id K
 obtain ⟨Sd, Dd, Xd, Ss, Xs, Fz, Sl, Xl, Fe0, Al0, Fn0, Se, Xe, Mr⟩ := id ST
 have hstr := own_hstr hw
 have hx0 := w.old
 have l10a := T.2.2.2.2.2.2.2.1.len
 have l10w := T.2.2.2.2.2.2.2.2.1.len
 replace w := w.iload (pc' := 495) at_493 rfl
 by_cases q : H1 = true
 rotate_left
 ·
   replace w := w.ifYes (pc' := 535) at_495 ((if0 _ _).trans (teq (own_fF q)).1)
   exact t535 K oml oml G1 G2 hr1 hr2 hvs hus ps H1 H2 EE TL AG (by omega) (fun z1 z2 => hl2 (Or.inr z1)) d0 d1 d2 d3 d4 d5 d15 d22 d23 d24 d25 d26 d27 w
 replace w := ((w.ifNo (pc' := 498) at_495 ((if0 _ _).trans (feq (own_fT q)).1)).iload at_498 rfl).iconst (pc' := 501) (2 : Int32) at_500
 by_cases q2 : ps = 2
 ·
   replace w := w.icmpYes (pc' := 515) at_501 ((teq q2).1)
   exact t515 K oml oml G1 G2 hr1 hr2 hvs hus ps H1 H2 EE TL AG (hl2 (Or.inl q2)) (fun z => by rw [q2] at z; exact absurd z.1 (by decide)) d0 d1 d2 d3 d4 d5 d15 d22 d23 d24 d25 d26 d27 w
 replace w := ((w.icmpNo (pc' := 504) at_501 ((feq q2).1)).iload at_504 rfl).iconst (pc' := 507) (3 : Int32) at_506
 by_cases q3 : ps = 3
 rotate_left
 ·
   replace w := w.icmpYes (pc' := 535) at_507 ((feq q3).2)
   exact t535 K oml oml G1 G2 hr1 hr2 hvs hus ps H1 H2 EE TL AG (by omega) (fun z1 z2 => hl2 (Or.inr z1)) d0 d1 d2 d3 d4 d5 d15 d22 d23 d24 d25 d26 d27 w
 replace w := (w.icmpNo (pc' := 510) at_507 ((teq q3).2)).iload (pc' := 512) at_510 rfl
 by_cases q4 : EE = true
 ·
   replace w := w.ifYes (pc' := 535) at_512 ((if0 _ _).trans (feq (own_fT q4)).2)
   exact t535 K oml oml G1 G2 hr1 hr2 hvs hus ps H1 H2 EE TL AG (by omega) (fun z1 z2 => hl2 (Or.inr z1)) d0 d1 d2 d3 d4 d5 d15 d22 d23 d24 d25 d26 d27 w
 replace w := w.ifNo (pc' := 515) at_512 ((if0 _ _).trans (teq (own_fF q4)).2)
 exact t515 K oml oml G1 G2 hr1 hr2 hvs hus ps H1 H2 EE TL AG (hl2 (Or.inr q3)) (fun z => q4 z.2) d0 d1 d2 d3 d4 d5 d15 d22 d23 d24 d25 d26 d27 w
theorem t468F {V : Vm} {cl sl : Nat} (K : Cx Z a0 z0 dc kd es el em mr le kl f cK cS methk ck hh n1 n2 lk v1 v2 o1 o2 c1 c2 cv1 cv2 co1 co2 ag ta wn tw vs us ws items gs r1 r2) (hcl : cl + 78 ≤ 112) (hsl : sl + 640 ≤ 4608) (G1 G2 : Bool) (hr1 : r1 = if G1 = true then some v1 else none) (hnone : r2 = none) (hvs : vs = own_flat n1 n2 items) (hus : us = gs) (ps : Int32) (H1 H2 EE TL AG : Bool) (hl : vs.length ≤ 3) (hl2 : ps = 2 ∨ ps = 3 → vs.length ≤ 2)  (d0 d1 d2 d3 d4 d5 d15 : Slot) (w : Wk p l e room_1 s m args below meth c Z a0 consts_1 S0 Jvm.Pilot.@@N@@.x code maxLocals ret V hh cl sl (mkF m 468 #[d0, d1, d2, d3, d4, d5, .val (.ref n1), .val (.ref n2), .val (.ref lk), .val (.ref v1), .val (.ref v2), .val (.ref o1), .val (.ref o2), .val (.int (own_fl G1)), .val (.int (own_fl G2)), d15, .val (.int ps), .val (.int (own_fl H1)), .val (.int (own_fl H2)), .val (.int (own_fl EE)), .val (.int (own_fl TL)), .val (.int (own_fl AG)), .val (.ref n1), .val (.ref v1), .val (.int (own_fl G1)), .val (.ref n2), .val (.ref v2), .val (.int (own_fl G2)), .val (.ref ag), .val (.ref wn), .unset, .unset, .unset, .unset, .unset] [])) : Fini p e below s Z consts_1 S0 112 4608 (fun v h => v = some (.int 1)) := by
 obtain ⟨hw, hEL, Sc, hz0, ST, LF, hc1, hc2, ho1, ho2, T, hn12, hc12, hbin, hlk1, hlk2, honce, hrun, hok⟩ := id K
 obtain ⟨Sd, Dd, Xd, Ss, Xs, Fz, Sl, Xl, Fe0, Al0, Fn0, Se, Xe, Mr⟩ := id ST
 have hstr := own_hstr hw
 have hx0 := w.old
 have l10a := T.2.2.2.2.2.2.2.1.len
 have l10w := T.2.2.2.2.2.2.2.2.1.len
 replace w := w.iload (pc' := 470) at_468 rfl
 by_cases q : G2 = true
 rotate_left
 ·
   replace w := w.ifYes (pc' := 493) at_470 ((if0 _ _).trans (teq (own_fF q)).1)
   exact t493 K oml oml G1 G2 hr1 (by rw [hnone, if_neg q]) hvs hus ps H1 H2 EE TL AG (by omega) (fun z => by have := hl2 z; omega) d0 d1 d2 d3 d4 d5 d15 _ _ _ _ _ _ w
 replace w := ((w.ifNo (pc' := 473) at_470 ((if0 _ _).trans (feq (own_fT q)).1)).aload at_473 rfl).aload (pc' := 477) at_475 rfl
 have Ioa := own_insO hw (T.2.1).str
 have nxa : n2 ≠ ag := Exa.ne ((T.2.1).str).exa (T).2.2.2.2.2.2.2.1.exa (by decide)
 have ema := own_oem w.old Xe (T.2.1).str
 have X_ag := (T).2.2.2.2.2.2.2.1.exa
 obtain ⟨kAa, nAa, uAa, ATa⟩ := own_llArv w.old Dd (T).2.2.2.2.2.2.2.1
 have hxa := w.old
 obtain ⟨v1, V1, h1, hq1, A1, w⟩ := w.face (xi := mN89) (y' := mN25) (W := 0) (C := "java/util/ArrayList") (b := ag) (w.pays 0 (rmADD l Z a0 hw hEL ST ag ta vs (by omega) n2 hh w.old (T).2.2.2.2.2.2.2.1 Ioa nxa (T).2.2.2.2.2.2.2.2.2.2.2.2.2.1) (wq hw 339 rfl) (wq hw 46 rfl) all0 nle nle) (wq hw 332 rfl) (wq hw 333 rfl) (wq hw 334 rfl) (wq hw 335 rfl) (wq hw 336 rfl) (wq hw 337 rfl) (wq hw 338 rfl) (wq hw 150 rfl) (argsL := [(.ref n2)]) (rest := []) (by decide) (X_ag) pd_15 rfl rfl nlr rfl at_477 oml oml (pc' := 482)
 obtain ⟨rfl, taa, tqa, qaa, Ka, qba, TLa⟩ := hq1
 replace w := w.toS [(.int (1 : Int32))]
 have qca : tqa = ag ∨ tqa = ta := qaa.imp id And.left
 have Ta := LSt.addA hw hxa Dd T qaa Ka qba TLa (fun u hu => by
   rcases List.mem_append.mp hu with q | q
   · exact (T).2.2.2.2.2.2.2.2.2.2.2.1.keep Ka u q
   · cases List.mem_singleton.mp q
     exact ⟨n2, rfl, own_insKeep Ka Ioa, ema⟩)
 have Uva := own_strL hw X_ag ATa qca Ka T.2.2.2.2.1
 have X_ag0 := X_ag
 replace w := ((w.pop at_482).aload at_483 rfl).aload (pc' := 487) at_485 rfl
 have Iob := own_insO hw Uva
 have nxb : v2 ≠ ag := Exa.ne (Uva).exa (Ta).2.2.2.2.2.2.2.1.exa (by decide)
 have emb := own_oem w.old Xe Uva
 have X_ag := (Ta).2.2.2.2.2.2.2.1.exa
 obtain ⟨kAb, nAb, uAb, ATb⟩ := own_llArv w.old Dd (Ta).2.2.2.2.2.2.2.1
 have hxb := w.old
 obtain ⟨v2, V2, h2, hq2, A2, w⟩ := w.face (xi := mN89) (y' := mN25) (W := 0) (C := "java/util/ArrayList") (b := ag) (w.pays 0 (rmADD l Z a0 hw hEL ST ag taa (vs ++ [.ref n2]) (by simp; omega) v2 h1 w.old (Ta).2.2.2.2.2.2.2.1 Iob nxb (Ta).2.2.2.2.2.2.2.2.2.2.2.2.2.1) (wq hw 339 rfl) (wq hw 46 rfl) all0 nle nle) (wq hw 332 rfl) (wq hw 333 rfl) (wq hw 334 rfl) (wq hw 335 rfl) (wq hw 336 rfl) (wq hw 337 rfl) (wq hw 338 rfl) (wq hw 150 rfl) (argsL := [(.ref v2)]) (rest := []) (by decide) (X_ag) pd_15 rfl rfl nlr rfl at_487 oml oml (pc' := 492)
 obtain ⟨rfl, tab, tqb, qab, Kb, qbb, TLb⟩ := hq2
 replace w := w.toS [(.int (1 : Int32))]
 have qcb : tqb = ag ∨ tqb = taa := qab.imp id And.left
 have Tb := LSt.addA hw hxb Dd Ta qab Kb qbb TLb (fun u hu => by
   rcases List.mem_append.mp hu with q | q
   · exact (Ta).2.2.2.2.2.2.2.2.2.2.2.1.keep Kb u q
   · cases List.mem_singleton.mp q
     exact ⟨v2, rfl, own_insKeep Kb Iob, emb⟩)
 have Uvb := own_strL hw X_ag ATb qcb Kb Uva
 have hokb := own_iokS (own_iokL hw X_ag ATb qcb Kb (own_iokL hw X_ag0 ATa qca Ka hok)) (t := [.inr (true, v2, cv2)]) ⟨⟨Uvb, hc2⟩, trivial⟩
 have hvsb : vs ++ [.ref n2] ++ [.ref v2] = own_flat n1 n2 (items ++ [.inr (true, v2, cv2)]) := by rw [own_flatS, ← hvs, List.append_assoc]; rfl
 have hrunb : own_run [] none none (items ++ [.inr (true, v2, cv2)]) = (gs, r1, some v2) := by rw [own_runS, hrun]; rfl
 have hob : own_once false false (items ++ [.inr (true, v2, cv2)]) := own_onceT v2 cv2 items [] gs none none _ honce (by rw [hrun, hnone])
 replace w := w.pop (pc' := 493) at_492
 exact t493 ⟨hw, hEL, Sc, hz0, ST, LF, hc1, hc2, ho1, ho2, Tb, hn12, hc12, hbin, hlk1, hlk2, hob, hrunb, hokb⟩ oml oml G1 G2 hr1 (by rw [if_pos q]) hvsb hus ps H1 H2 EE TL AG (by simp only [List.length_append, List.length_cons, List.length_nil]; omega) (fun z => by have := hl2 z; simp only [List.length_append, List.length_cons, List.length_nil]; omega) d0 d1 d2 d3 d4 d5 d15 _ _ _ _ _ _ w
theorem t437F {V : Vm} {cl sl : Nat} (K : Cx Z a0 z0 dc kd es el em mr le kl f cK cS methk ck hh n1 n2 lk v1 v2 o1 o2 c1 c2 cv1 cv2 co1 co2 ag ta wn tw vs us ws items gs r1 r2) (hcl : cl + 80 ≤ 112) (hsl : sl + 660 ≤ 4608) (G1 G2 : Bool) (hr1 : r1 = if G1 = true then some v1 else none) (hnone : r2 = none) (hvs : vs = own_flat n1 n2 items) (hus : us = gs) (ps : Int32) (H1 H2 EE TL AG : Bool) (hl : vs.length ≤ 3) (hl2 : ¬ ps = 0 → vs.length ≤ 2)  (d0 d1 d2 d3 d4 d5 d15 : Slot) (w : Wk p l e room_1 s m args below meth c Z a0 consts_1 S0 Jvm.Pilot.@@N@@.x code maxLocals ret V hh cl sl (mkF m 437 #[d0, d1, d2, d3, d4, d5, .val (.ref n1), .val (.ref n2), .val (.ref lk), .val (.ref v1), .val (.ref v2), .val (.ref o1), .val (.ref o2), .val (.int (own_fl G1)), .val (.int (own_fl G2)), d15, .val (.int ps), .val (.int (own_fl H1)), .val (.int (own_fl H2)), .val (.int (own_fl EE)), .val (.int (own_fl TL)), .val (.int (own_fl AG)), .val (.ref n1), .val (.ref v1), .val (.int (own_fl G1)), .val (.ref n2), .val (.ref v2), .val (.int (own_fl G2)), .val (.ref ag), .val (.ref wn), .unset, .unset, .unset, .unset, .unset] [])) : Fini p e below s Z consts_1 S0 112 4608 (fun v h => v = some (.int 1)) := by
 obtain ⟨hw, hEL, Sc, hz0, ST, LF, hc1, hc2, ho1, ho2, T, hn12, hc12, hbin, hlk1, hlk2, honce, hrun, hok⟩ := id K
 obtain ⟨Sd, Dd, Xd, Ss, Xs, Fz, Sl, Xl, Fe0, Al0, Fn0, Se, Xe, Mr⟩ := id ST
 have hstr := own_hstr hw
 have hx0 := w.old
 have l10a := T.2.2.2.2.2.2.2.1.len
 have l10w := T.2.2.2.2.2.2.2.2.1.len
 replace w := w.iload (pc' := 439) at_437 rfl
 by_cases q : H1 = true
 rotate_left
 ·
   replace w := w.ifYes (pc' := 468) at_439 ((if0 _ _).trans (teq (own_fF q)).1)
   exact t468F K oml oml G1 G2 hr1 hnone hvs hus ps H1 H2 EE TL AG (by omega) (fun z => hl2 (fun z0 => by rw [z0] at z; exact absurd z (by decide))) d0 d1 d2 d3 d4 d5 d15 w
 replace w := ((w.ifNo (pc' := 442) at_439 ((if0 _ _).trans (feq (own_fT q)).1)).iload at_442 rfl).iconst (pc' := 445) (1 : Int32) at_444
 by_cases q2 : ps = 1
 rotate_left
 ·
   replace w := w.icmpYes (pc' := 468) at_445 ((feq q2).2)
   exact t468F K oml oml G1 G2 hr1 hnone hvs hus ps H1 H2 EE TL AG (by omega) (fun z => hl2 (fun z0 => by rw [z0] at z; exact absurd z (by decide))) d0 d1 d2 d3 d4 d5 d15 w
 replace w := ((w.icmpNo (pc' := 448) at_445 ((teq q2).2)).aload at_448 rfl).aload (pc' := 452) at_450 rfl
 have Ioa := own_insO hw T.2.2.2.2.2.1
 have nxa : o1 ≠ ag := Exa.ne (T.2.2.2.2.2.1).exa (T).2.2.2.2.2.2.2.1.exa (by decide)
 have ema := own_oem w.old Xe T.2.2.2.2.2.1
 have X_ag := (T).2.2.2.2.2.2.2.1.exa
 obtain ⟨kAa, nAa, uAa, ATa⟩ := own_llArv w.old Dd (T).2.2.2.2.2.2.2.1
 have hxa := w.old
 obtain ⟨v1, V1, h1, hq1, A1, w⟩ := w.face (xi := mN89) (y' := mN25) (W := 0) (C := "java/util/ArrayList") (b := ag) (w.pays 0 (rmADD l Z a0 hw hEL ST ag ta vs (by omega) o1 hh w.old (T).2.2.2.2.2.2.2.1 Ioa nxa (T).2.2.2.2.2.2.2.2.2.2.2.2.2.1) (wq hw 339 rfl) (wq hw 46 rfl) all0 nle nle) (wq hw 332 rfl) (wq hw 333 rfl) (wq hw 334 rfl) (wq hw 335 rfl) (wq hw 336 rfl) (wq hw 337 rfl) (wq hw 338 rfl) (wq hw 150 rfl) (argsL := [(.ref o1)]) (rest := []) (by decide) (X_ag) pd_15 rfl rfl nlr rfl at_452 oml oml (pc' := 457)
 obtain ⟨rfl, taa, tqa, qaa, Ka, qba, TLa⟩ := hq1
 replace w := w.toS [(.int (1 : Int32))]
 have qca : tqa = ag ∨ tqa = ta := qaa.imp id And.left
 have Ta := LSt.addA hw hxa Dd T qaa Ka qba TLa (fun u hu => by
   rcases List.mem_append.mp hu with q | q
   · exact (T).2.2.2.2.2.2.2.2.2.2.2.1.keep Ka u q
   · cases List.mem_singleton.mp q
     exact ⟨o1, rfl, own_insKeep Ka Ioa, ema⟩)
 have Uxa := own_strL hw X_ag ATa qca Ka T.2.2.2.2.2.1
 replace w := ((w.pop at_457).aload at_458 rfl).aload (pc' := 462) at_460 rfl
 have Iob := own_insO hw Uxa
 have nxb : o1 ≠ wn := Exa.ne (Uxa).exa (Ta).2.2.2.2.2.2.2.2.1.exa (by decide)
 have X_wn := (Ta).2.2.2.2.2.2.2.2.1.exa
 obtain ⟨kAb, nAb, uAb, ATb⟩ := own_llArv w.old Dd (Ta).2.2.2.2.2.2.2.2.1
 have hxb := w.old
 obtain ⟨v2, V2, h2, hq2, A2, w⟩ := w.face (xi := mN89) (y' := mN25) (W := 0) (C := "java/util/ArrayList") (b := wn) (w.pays 0 (rmADD l Z a0 hw hEL ST wn tw ws (by have z := (Ta).2.2.2.2.2.2.2.2.2.2.2.2.1.1; have z2 := congrArg List.length hvs; have z3 := own_opsR _ _ _ _ _ _ _ hrun; have z5 := own_opsL n1 n2 items; rw [hus] at z; simp at z z2 z3; omega) o1 h1 w.old (Ta).2.2.2.2.2.2.2.2.1 Iob nxb (Ta).2.2.2.2.2.2.2.2.2.2.2.2.2.2) (wq hw 339 rfl) (wq hw 46 rfl) all0 nle nle) (wq hw 332 rfl) (wq hw 333 rfl) (wq hw 334 rfl) (wq hw 335 rfl) (wq hw 336 rfl) (wq hw 337 rfl) (wq hw 338 rfl) (wq hw 150 rfl) (argsL := [(.ref o1)]) (rest := []) (by decide) (X_wn) pd_15 rfl rfl nlr rfl at_462 oml oml (pc' := 467)
 obtain ⟨rfl, twb, tqb, qab, Kb, qbb, TLb⟩ := hq2
 replace w := w.toS [(.int (1 : Int32))]
 have qcb : tqb = wn ∨ tqb = tw := qab.imp id And.left
 have Tb := LSt.addW hw hxb Dd Ta qab Kb qbb TLb ((own_sprL hw X_wn ATb qcb Kb (Ta).2.2.2.2.2.2.2.2.2.2.2.2.1).snoc (own_strL hw X_wn ATb qcb Kb Uxa) (own_strL hw X_wn ATb qcb Kb Uxa) (by omega) (own_strNe Uxa (Ta.1).str (by omega) (by simp) (by simp; omega)) (own_strNe Uxa (Ta.2.1).str (by omega) (by simp) (by simp; omega)) (own_strNe Uxa (Ta.1).str (by omega) (by simp) (by simp; omega)) (own_strNe Uxa (Ta.2.1).str (by omega) (by simp) (by simp; omega)))
 have Uxb := own_strL hw X_wn ATb qcb Kb Uxa
 have hokb := own_iokS (own_iokL hw X_wn ATb qcb Kb (own_iokL hw X_ag ATa qca Ka hok)) (t := [.inl (o1, co1)]) ⟨⟨Uxb, by omega⟩, trivial⟩
 have husb : us ++ [.ref o1] = gs ++ [.ref o1] := by rw [hus]
 have hvsb : vs ++ [.ref o1] = own_flat n1 n2 (items ++ [.inl (o1, co1)]) := by rw [own_flatS, ← hvs]; rfl
 have hrunb : own_run [] none none (items ++ [.inl (o1, co1)]) = (gs ++ [.ref o1], r1, r2) := by rw [own_runS, hrun]; rfl
 have hob := own_onceI (o1, co1) items false false honce
 replace w := w.pop (pc' := 468) at_467
 exact t468F ⟨hw, hEL, Sc, hz0, ST, LF, hc1, hc2, ho1, ho2, Tb, hn12, hc12, hbin, hlk1, hlk2, hob, hrunb, hokb⟩ oml oml G1 G2 hr1 hnone hvsb husb ps H1 H2 EE TL AG (by have := hl2 (fun z0 => by rw [z0] at q2; exact absurd q2 (by decide)); simp only [List.length_append, List.length_cons, List.length_nil]; omega) (fun z => by rw [q2] at z; exact absurd z (by decide)) d0 d1 d2 d3 d4 d5 d15 w
theorem t412F {V : Vm} {cl sl : Nat} (K : Cx Z a0 z0 dc kd es el em mr le kl f cK cS methk ck hh n1 n2 lk v1 v2 o1 o2 c1 c2 cv1 cv2 co1 co2 ag ta wn tw vs us ws items gs r1 r2) (hcl : cl + 84 ≤ 112) (hsl : sl + 680 ≤ 4608) (G1 G2 : Bool) (hnone : r1 = none) (hnone2 : r2 = none) (hvs : vs = own_flat n1 n2 items) (hus : us = gs) (ps : Int32) (H1 H2 EE TL AG : Bool) (hl : vs.length ≤ 1) (hl2 : ¬ ps = 0 → vs.length ≤ 0)  (d0 d1 d2 d3 d4 d5 d15 : Slot) (w : Wk p l e room_1 s m args below meth c Z a0 consts_1 S0 Jvm.Pilot.@@N@@.x code maxLocals ret V hh cl sl (mkF m 412 #[d0, d1, d2, d3, d4, d5, .val (.ref n1), .val (.ref n2), .val (.ref lk), .val (.ref v1), .val (.ref v2), .val (.ref o1), .val (.ref o2), .val (.int (own_fl G1)), .val (.int (own_fl G2)), d15, .val (.int ps), .val (.int (own_fl H1)), .val (.int (own_fl H2)), .val (.int (own_fl EE)), .val (.int (own_fl TL)), .val (.int (own_fl AG)), .val (.ref n1), .val (.ref v1), .val (.int (own_fl G1)), .val (.ref n2), .val (.ref v2), .val (.int (own_fl G2)), .val (.ref ag), .val (.ref wn), .unset, .unset, .unset, .unset, .unset] [])) : Fini p e below s Z consts_1 S0 112 4608 (fun v h => v = some (.int 1)) := by
 obtain ⟨hw, hEL, Sc, hz0, ST, LF, hc1, hc2, ho1, ho2, T, hn12, hc12, hbin, hlk1, hlk2, honce, hrun, hok⟩ := id K
 obtain ⟨Sd, Dd, Xd, Ss, Xs, Fz, Sl, Xl, Fe0, Al0, Fn0, Se, Xe, Mr⟩ := id ST
 have hstr := own_hstr hw
 have hx0 := w.old
 have l10a := T.2.2.2.2.2.2.2.1.len
 have l10w := T.2.2.2.2.2.2.2.2.1.len
 replace w := w.iload (pc' := 414) at_412 rfl
 by_cases q : G1 = true
 rotate_left
 ·
   replace w := w.ifYes (pc' := 437) at_414 ((if0 _ _).trans (teq (own_fF q)).1)
   exact t437F K oml oml G1 G2 (by rw [hnone, if_neg q]) hnone2 hvs hus ps H1 H2 EE TL AG (by omega) (fun z => by have := hl2 z; omega) d0 d1 d2 d3 d4 d5 d15 w
 replace w := ((w.ifNo (pc' := 417) at_414 ((if0 _ _).trans (feq (own_fT q)).1)).aload at_417 rfl).aload (pc' := 421) at_419 rfl
 have Ioa := own_insO hw (T.1).str
 have nxa : n1 ≠ ag := Exa.ne ((T.1).str).exa (T).2.2.2.2.2.2.2.1.exa (by decide)
 have ema := own_oem w.old Xe (T.1).str
 have X_ag := (T).2.2.2.2.2.2.2.1.exa
 obtain ⟨kAa, nAa, uAa, ATa⟩ := own_llArv w.old Dd (T).2.2.2.2.2.2.2.1
 have hxa := w.old
 obtain ⟨v1, V1, h1, hq1, A1, w⟩ := w.face (xi := mN89) (y' := mN25) (W := 0) (C := "java/util/ArrayList") (b := ag) (w.pays 0 (rmADD l Z a0 hw hEL ST ag ta vs (by omega) n1 hh w.old (T).2.2.2.2.2.2.2.1 Ioa nxa (T).2.2.2.2.2.2.2.2.2.2.2.2.2.1) (wq hw 339 rfl) (wq hw 46 rfl) all0 nle nle) (wq hw 332 rfl) (wq hw 333 rfl) (wq hw 334 rfl) (wq hw 335 rfl) (wq hw 336 rfl) (wq hw 337 rfl) (wq hw 338 rfl) (wq hw 150 rfl) (argsL := [(.ref n1)]) (rest := []) (by decide) (X_ag) pd_15 rfl rfl nlr rfl at_421 oml oml (pc' := 426)
 obtain ⟨rfl, taa, tqa, qaa, Ka, qba, TLa⟩ := hq1
 replace w := w.toS [(.int (1 : Int32))]
 have qca : tqa = ag ∨ tqa = ta := qaa.imp id And.left
 have Ta := LSt.addA hw hxa Dd T qaa Ka qba TLa (fun u hu => by
   rcases List.mem_append.mp hu with q | q
   · exact (T).2.2.2.2.2.2.2.2.2.2.2.1.keep Ka u q
   · cases List.mem_singleton.mp q
     exact ⟨n1, rfl, own_insKeep Ka Ioa, ema⟩)
 have Uva := own_strL hw X_ag ATa qca Ka T.2.2.2.1
 have X_ag0 := X_ag
 replace w := ((w.pop at_426).aload at_427 rfl).aload (pc' := 431) at_429 rfl
 have Iob := own_insO hw Uva
 have nxb : v1 ≠ ag := Exa.ne (Uva).exa (Ta).2.2.2.2.2.2.2.1.exa (by decide)
 have emb := own_oem w.old Xe Uva
 have X_ag := (Ta).2.2.2.2.2.2.2.1.exa
 obtain ⟨kAb, nAb, uAb, ATb⟩ := own_llArv w.old Dd (Ta).2.2.2.2.2.2.2.1
 have hxb := w.old
 obtain ⟨v2, V2, h2, hq2, A2, w⟩ := w.face (xi := mN89) (y' := mN25) (W := 0) (C := "java/util/ArrayList") (b := ag) (w.pays 0 (rmADD l Z a0 hw hEL ST ag taa (vs ++ [.ref n1]) (by simp; omega) v1 h1 w.old (Ta).2.2.2.2.2.2.2.1 Iob nxb (Ta).2.2.2.2.2.2.2.2.2.2.2.2.2.1) (wq hw 339 rfl) (wq hw 46 rfl) all0 nle nle) (wq hw 332 rfl) (wq hw 333 rfl) (wq hw 334 rfl) (wq hw 335 rfl) (wq hw 336 rfl) (wq hw 337 rfl) (wq hw 338 rfl) (wq hw 150 rfl) (argsL := [(.ref v1)]) (rest := []) (by decide) (X_ag) pd_15 rfl rfl nlr rfl at_431 oml oml (pc' := 436)
 obtain ⟨rfl, tab, tqb, qab, Kb, qbb, TLb⟩ := hq2
 replace w := w.toS [(.int (1 : Int32))]
 have qcb : tqb = ag ∨ tqb = taa := qab.imp id And.left
 have Tb := LSt.addA hw hxb Dd Ta qab Kb qbb TLb (fun u hu => by
   rcases List.mem_append.mp hu with q | q
   · exact (Ta).2.2.2.2.2.2.2.2.2.2.2.1.keep Kb u q
   · cases List.mem_singleton.mp q
     exact ⟨v1, rfl, own_insKeep Kb Iob, emb⟩)
 have Uvb := own_strL hw X_ag ATb qcb Kb Uva
 have hokb := own_iokS (own_iokL hw X_ag ATb qcb Kb (own_iokL hw X_ag0 ATa qca Ka hok)) (t := [.inr (false, v1, cv1)]) ⟨⟨Uvb, hc1⟩, trivial⟩
 have hvsb : vs ++ [.ref n1] ++ [.ref v1] = own_flat n1 n2 (items ++ [.inr (false, v1, cv1)]) := by rw [own_flatS, ← hvs, List.append_assoc]; rfl
 have hrunb : own_run [] none none (items ++ [.inr (false, v1, cv1)]) = (gs, some v1, r2) := by rw [own_runS, hrun]; rfl
 have hob : own_once false false (items ++ [.inr (false, v1, cv1)]) := own_onceF v1 cv1 items [] gs none none _ honce (by rw [hrun, hnone])
 replace w := w.pop (pc' := 437) at_436
 exact t437F ⟨hw, hEL, Sc, hz0, ST, LF, hc1, hc2, ho1, ho2, Tb, hn12, hc12, hbin, hlk1, hlk2, hob, hrunb, hokb⟩ oml oml G1 G2 (by rw [if_pos q]) hnone2 hvsb hus ps H1 H2 EE TL AG (by simp only [List.length_append, List.length_cons, List.length_nil]; omega) (fun z => by have := hl2 z; simp only [List.length_append, List.length_cons, List.length_nil]; omega) d0 d1 d2 d3 d4 d5 d15 w
theorem t382F {V : Vm} {cl sl : Nat} (K : Cx Z a0 z0 dc kd es el em mr le kl f cK cS methk ck hh n1 n2 lk v1 v2 o1 o2 c1 c2 cv1 cv2 co1 co2 ag ta wn tw vs us ws items gs r1 r2) (hcl : cl + 86 ≤ 112) (hsl : sl + 700 ≤ 4608) (G1 G2 : Bool) (hnone : r1 = none) (hnone2 : r2 = none) (hvs : vs = own_flat n1 n2 items) (hus : us = gs) (ps : Int32) (H1 H2 EE TL AG : Bool) (hl : vs.length ≤ 0)  (d0 d1 d2 d3 d4 d5 d15 : Slot) (w : Wk p l e room_1 s m args below meth c Z a0 consts_1 S0 Jvm.Pilot.@@N@@.x code maxLocals ret V hh cl sl (mkF m 382 #[d0, d1, d2, d3, d4, d5, .val (.ref n1), .val (.ref n2), .val (.ref lk), .val (.ref v1), .val (.ref v2), .val (.ref o1), .val (.ref o2), .val (.int (own_fl G1)), .val (.int (own_fl G2)), d15, .val (.int ps), .val (.int (own_fl H1)), .val (.int (own_fl H2)), .val (.int (own_fl EE)), .val (.int (own_fl TL)), .val (.int (own_fl AG)), .val (.ref n1), .val (.ref v1), .val (.int (own_fl G1)), .val (.ref n2), .val (.ref v2), .val (.int (own_fl G2)), .val (.ref ag), .val (.ref wn), .unset, .unset, .unset, .unset, .unset] [])) : Fini p e below s Z consts_1 S0 112 4608 (fun v h => v = some (.int 1)) := by
 obtain ⟨hw, hEL, Sc, hz0, ST, LF, hc1, hc2, ho1, ho2, T, hn12, hc12, hbin, hlk1, hlk2, honce, hrun, hok⟩ := id K
 obtain ⟨Sd, Dd, Xd, Ss, Xs, Fz, Sl, Xl, Fe0, Al0, Fn0, Se, Xe, Mr⟩ := id ST
 have hstr := own_hstr hw
 have hx0 := w.old
 have l10a := T.2.2.2.2.2.2.2.1.len
 have l10w := T.2.2.2.2.2.2.2.2.1.len
 replace w := w.iload (pc' := 384) at_382 rfl
 by_cases q : H1 = true
 rotate_left
 ·
   replace w := w.ifYes (pc' := 412) at_384 ((if0 _ _).trans (teq (own_fF q)).1)
   exact t412F K oml oml G1 G2 hnone hnone2 hvs hus ps H1 H2 EE TL AG (by omega) (fun z => by omega) d0 d1 d2 d3 d4 d5 d15 w
 replace w := (w.ifNo (pc' := 387) at_384 ((if0 _ _).trans (feq (own_fT q)).1)).iload (pc' := 389) at_387 rfl
 by_cases q2 : ps = 0
 rotate_left
 ·
   replace w := w.ifYes (pc' := 412) at_389 ((if0 _ _).trans (feq q2).2)
   exact t412F K oml oml G1 G2 hnone hnone2 hvs hus ps H1 H2 EE TL AG (by omega) (fun z => by omega) d0 d1 d2 d3 d4 d5 d15 w
 replace w := ((w.ifNo (pc' := 392) at_389 ((if0 _ _).trans (teq q2).2)).aload at_392 rfl).aload (pc' := 396) at_394 rfl
 have Ioa := own_insO hw T.2.2.2.2.2.1
 have nxa : o1 ≠ ag := Exa.ne (T.2.2.2.2.2.1).exa (T).2.2.2.2.2.2.2.1.exa (by decide)
 have ema := own_oem w.old Xe T.2.2.2.2.2.1
 have X_ag := (T).2.2.2.2.2.2.2.1.exa
 obtain ⟨kAa, nAa, uAa, ATa⟩ := own_llArv w.old Dd (T).2.2.2.2.2.2.2.1
 have hxa := w.old
 obtain ⟨v1, V1, h1, hq1, A1, w⟩ := w.face (xi := mN89) (y' := mN25) (W := 0) (C := "java/util/ArrayList") (b := ag) (w.pays 0 (rmADD l Z a0 hw hEL ST ag ta vs (by omega) o1 hh w.old (T).2.2.2.2.2.2.2.1 Ioa nxa (T).2.2.2.2.2.2.2.2.2.2.2.2.2.1) (wq hw 339 rfl) (wq hw 46 rfl) all0 nle nle) (wq hw 332 rfl) (wq hw 333 rfl) (wq hw 334 rfl) (wq hw 335 rfl) (wq hw 336 rfl) (wq hw 337 rfl) (wq hw 338 rfl) (wq hw 150 rfl) (argsL := [(.ref o1)]) (rest := []) (by decide) (X_ag) pd_15 rfl rfl nlr rfl at_396 oml oml (pc' := 401)
 obtain ⟨rfl, taa, tqa, qaa, Ka, qba, TLa⟩ := hq1
 replace w := w.toS [(.int (1 : Int32))]
 have qca : tqa = ag ∨ tqa = ta := qaa.imp id And.left
 have Ta := LSt.addA hw hxa Dd T qaa Ka qba TLa (fun u hu => by
   rcases List.mem_append.mp hu with q | q
   · exact (T).2.2.2.2.2.2.2.2.2.2.2.1.keep Ka u q
   · cases List.mem_singleton.mp q
     exact ⟨o1, rfl, own_insKeep Ka Ioa, ema⟩)
 have Uxa := own_strL hw X_ag ATa qca Ka T.2.2.2.2.2.1
 replace w := ((w.pop at_401).aload at_402 rfl).aload (pc' := 406) at_404 rfl
 have Iob := own_insO hw Uxa
 have nxb : o1 ≠ wn := Exa.ne (Uxa).exa (Ta).2.2.2.2.2.2.2.2.1.exa (by decide)
 have X_wn := (Ta).2.2.2.2.2.2.2.2.1.exa
 obtain ⟨kAb, nAb, uAb, ATb⟩ := own_llArv w.old Dd (Ta).2.2.2.2.2.2.2.2.1
 have hxb := w.old
 obtain ⟨v2, V2, h2, hq2, A2, w⟩ := w.face (xi := mN89) (y' := mN25) (W := 0) (C := "java/util/ArrayList") (b := wn) (w.pays 0 (rmADD l Z a0 hw hEL ST wn tw ws (by have z := (Ta).2.2.2.2.2.2.2.2.2.2.2.2.1.1; have z2 := congrArg List.length hvs; have z3 := own_opsR _ _ _ _ _ _ _ hrun; have z5 := own_opsL n1 n2 items; rw [hus] at z; simp at z z2 z3; omega) o1 h1 w.old (Ta).2.2.2.2.2.2.2.2.1 Iob nxb (Ta).2.2.2.2.2.2.2.2.2.2.2.2.2.2) (wq hw 339 rfl) (wq hw 46 rfl) all0 nle nle) (wq hw 332 rfl) (wq hw 333 rfl) (wq hw 334 rfl) (wq hw 335 rfl) (wq hw 336 rfl) (wq hw 337 rfl) (wq hw 338 rfl) (wq hw 150 rfl) (argsL := [(.ref o1)]) (rest := []) (by decide) (X_wn) pd_15 rfl rfl nlr rfl at_406 oml oml (pc' := 411)
 obtain ⟨rfl, twb, tqb, qab, Kb, qbb, TLb⟩ := hq2
 replace w := w.toS [(.int (1 : Int32))]
 have qcb : tqb = wn ∨ tqb = tw := qab.imp id And.left
 have Tb := LSt.addW hw hxb Dd Ta qab Kb qbb TLb ((own_sprL hw X_wn ATb qcb Kb (Ta).2.2.2.2.2.2.2.2.2.2.2.2.1).snoc (own_strL hw X_wn ATb qcb Kb Uxa) (own_strL hw X_wn ATb qcb Kb Uxa) (by omega) (own_strNe Uxa (Ta.1).str (by omega) (by simp) (by simp; omega)) (own_strNe Uxa (Ta.2.1).str (by omega) (by simp) (by simp; omega)) (own_strNe Uxa (Ta.1).str (by omega) (by simp) (by simp; omega)) (own_strNe Uxa (Ta.2.1).str (by omega) (by simp) (by simp; omega)))
 have Uxb := own_strL hw X_wn ATb qcb Kb Uxa
 have hokb := own_iokS (own_iokL hw X_wn ATb qcb Kb (own_iokL hw X_ag ATa qca Ka hok)) (t := [.inl (o1, co1)]) ⟨⟨Uxb, by omega⟩, trivial⟩
 have husb : us ++ [.ref o1] = gs ++ [.ref o1] := by rw [hus]
 have hvsb : vs ++ [.ref o1] = own_flat n1 n2 (items ++ [.inl (o1, co1)]) := by rw [own_flatS, ← hvs]; rfl
 have hrunb : own_run [] none none (items ++ [.inl (o1, co1)]) = (gs ++ [.ref o1], r1, r2) := by rw [own_runS, hrun]; rfl
 have hob := own_onceI (o1, co1) items false false honce
 replace w := w.pop (pc' := 412) at_411
 exact t412F ⟨hw, hEL, Sc, hz0, ST, LF, hc1, hc2, ho1, ho2, Tb, hn12, hc12, hbin, hlk1, hlk2, hob, hrunb, hokb⟩ oml oml G1 G2 hnone hnone2 hvsb husb ps H1 H2 EE TL AG (by simp only [List.length_append, List.length_cons, List.length_nil]; omega) (fun z => absurd q2 z) d0 d1 d2 d3 d4 d5 d15 w
theorem t468T {V : Vm} {cl sl : Nat} (K : Cx Z a0 z0 dc kd es el em mr le kl f cK cS methk ck hh n1 n2 lk v1 v2 o1 o2 c1 c2 cv1 cv2 co1 co2 ag ta wn tw vs us ws items gs r1 r2) (hcl : cl + 78 ≤ 112) (hsl : sl + 640 ≤ 4608) (G1 G2 : Bool) (hr2 : r2 = if G2 = true then some v2 else none) (hnone : r1 = none) (hvs : vs = own_flat n1 n2 items) (hus : us = gs) (ps : Int32) (H1 H2 EE TL AG : Bool) (hl : vs.length ≤ 3) (hl2 : ps = 2 ∨ ps = 3 → vs.length ≤ 2)  (d0 d1 d2 d3 d4 d5 d15 : Slot) (w : Wk p l e room_1 s m args below meth c Z a0 consts_1 S0 Jvm.Pilot.@@N@@.x code maxLocals ret V hh cl sl (mkF m 468 #[d0, d1, d2, d3, d4, d5, .val (.ref n1), .val (.ref n2), .val (.ref lk), .val (.ref v1), .val (.ref v2), .val (.ref o1), .val (.ref o2), .val (.int (own_fl G1)), .val (.int (own_fl G2)), d15, .val (.int ps), .val (.int (own_fl H1)), .val (.int (own_fl H2)), .val (.int (own_fl EE)), .val (.int (own_fl TL)), .val (.int (own_fl AG)), .val (.ref n2), .val (.ref v2), .val (.int (own_fl G2)), .val (.ref n1), .val (.ref v1), .val (.int (own_fl G1)), .val (.ref ag), .val (.ref wn), .unset, .unset, .unset, .unset, .unset] [])) : Fini p e below s Z consts_1 S0 112 4608 (fun v h => v = some (.int 1)) := by
 obtain ⟨hw, hEL, Sc, hz0, ST, LF, hc1, hc2, ho1, ho2, T, hn12, hc12, hbin, hlk1, hlk2, honce, hrun, hok⟩ := id K
 obtain ⟨Sd, Dd, Xd, Ss, Xs, Fz, Sl, Xl, Fe0, Al0, Fn0, Se, Xe, Mr⟩ := id ST
 have hstr := own_hstr hw
 have hx0 := w.old
 have l10a := T.2.2.2.2.2.2.2.1.len
 have l10w := T.2.2.2.2.2.2.2.2.1.len
 replace w := w.iload (pc' := 470) at_468 rfl
 by_cases q : G1 = true
 rotate_left
 ·
   replace w := w.ifYes (pc' := 493) at_470 ((if0 _ _).trans (teq (own_fF q)).1)
   exact t493 K oml oml G1 G2 (by rw [hnone, if_neg q]) hr2 hvs hus ps H1 H2 EE TL AG (by omega) (fun z => by have := hl2 z; omega) d0 d1 d2 d3 d4 d5 d15 _ _ _ _ _ _ w
 replace w := ((w.ifNo (pc' := 473) at_470 ((if0 _ _).trans (feq (own_fT q)).1)).aload at_473 rfl).aload (pc' := 477) at_475 rfl
 have Ioa := own_insO hw (T.1).str
 have nxa : n1 ≠ ag := Exa.ne ((T.1).str).exa (T).2.2.2.2.2.2.2.1.exa (by decide)
 have ema := own_oem w.old Xe (T.1).str
 have X_ag := (T).2.2.2.2.2.2.2.1.exa
 obtain ⟨kAa, nAa, uAa, ATa⟩ := own_llArv w.old Dd (T).2.2.2.2.2.2.2.1
 have hxa := w.old
 obtain ⟨v1, V1, h1, hq1, A1, w⟩ := w.face (xi := mN89) (y' := mN25) (W := 0) (C := "java/util/ArrayList") (b := ag) (w.pays 0 (rmADD l Z a0 hw hEL ST ag ta vs (by omega) n1 hh w.old (T).2.2.2.2.2.2.2.1 Ioa nxa (T).2.2.2.2.2.2.2.2.2.2.2.2.2.1) (wq hw 339 rfl) (wq hw 46 rfl) all0 nle nle) (wq hw 332 rfl) (wq hw 333 rfl) (wq hw 334 rfl) (wq hw 335 rfl) (wq hw 336 rfl) (wq hw 337 rfl) (wq hw 338 rfl) (wq hw 150 rfl) (argsL := [(.ref n1)]) (rest := []) (by decide) (X_ag) pd_15 rfl rfl nlr rfl at_477 oml oml (pc' := 482)
 obtain ⟨rfl, taa, tqa, qaa, Ka, qba, TLa⟩ := hq1
 replace w := w.toS [(.int (1 : Int32))]
 have qca : tqa = ag ∨ tqa = ta := qaa.imp id And.left
 have Ta := LSt.addA hw hxa Dd T qaa Ka qba TLa (fun u hu => by
   rcases List.mem_append.mp hu with q | q
   · exact (T).2.2.2.2.2.2.2.2.2.2.2.1.keep Ka u q
   · cases List.mem_singleton.mp q
     exact ⟨n1, rfl, own_insKeep Ka Ioa, ema⟩)
 have Uva := own_strL hw X_ag ATa qca Ka T.2.2.2.1
 have X_ag0 := X_ag
 replace w := ((w.pop at_482).aload at_483 rfl).aload (pc' := 487) at_485 rfl
 have Iob := own_insO hw Uva
 have nxb : v1 ≠ ag := Exa.ne (Uva).exa (Ta).2.2.2.2.2.2.2.1.exa (by decide)
 have emb := own_oem w.old Xe Uva
 have X_ag := (Ta).2.2.2.2.2.2.2.1.exa
 obtain ⟨kAb, nAb, uAb, ATb⟩ := own_llArv w.old Dd (Ta).2.2.2.2.2.2.2.1
 have hxb := w.old
 obtain ⟨v2, V2, h2, hq2, A2, w⟩ := w.face (xi := mN89) (y' := mN25) (W := 0) (C := "java/util/ArrayList") (b := ag) (w.pays 0 (rmADD l Z a0 hw hEL ST ag taa (vs ++ [.ref n1]) (by simp; omega) v1 h1 w.old (Ta).2.2.2.2.2.2.2.1 Iob nxb (Ta).2.2.2.2.2.2.2.2.2.2.2.2.2.1) (wq hw 339 rfl) (wq hw 46 rfl) all0 nle nle) (wq hw 332 rfl) (wq hw 333 rfl) (wq hw 334 rfl) (wq hw 335 rfl) (wq hw 336 rfl) (wq hw 337 rfl) (wq hw 338 rfl) (wq hw 150 rfl) (argsL := [(.ref v1)]) (rest := []) (by decide) (X_ag) pd_15 rfl rfl nlr rfl at_487 oml oml (pc' := 492)
 obtain ⟨rfl, tab, tqb, qab, Kb, qbb, TLb⟩ := hq2
 replace w := w.toS [(.int (1 : Int32))]
 have qcb : tqb = ag ∨ tqb = taa := qab.imp id And.left
 have Tb := LSt.addA hw hxb Dd Ta qab Kb qbb TLb (fun u hu => by
   rcases List.mem_append.mp hu with q | q
   · exact (Ta).2.2.2.2.2.2.2.2.2.2.2.1.keep Kb u q
   · cases List.mem_singleton.mp q
     exact ⟨v1, rfl, own_insKeep Kb Iob, emb⟩)
 have Uvb := own_strL hw X_ag ATb qcb Kb Uva
 have hokb := own_iokS (own_iokL hw X_ag ATb qcb Kb (own_iokL hw X_ag0 ATa qca Ka hok)) (t := [.inr (false, v1, cv1)]) ⟨⟨Uvb, hc1⟩, trivial⟩
 have hvsb : vs ++ [.ref n1] ++ [.ref v1] = own_flat n1 n2 (items ++ [.inr (false, v1, cv1)]) := by rw [own_flatS, ← hvs, List.append_assoc]; rfl
 have hrunb : own_run [] none none (items ++ [.inr (false, v1, cv1)]) = (gs, some v1, r2) := by rw [own_runS, hrun]; rfl
 have hob : own_once false false (items ++ [.inr (false, v1, cv1)]) := own_onceF v1 cv1 items [] gs none none _ honce (by rw [hrun, hnone])
 replace w := w.pop (pc' := 493) at_492
 exact t493 ⟨hw, hEL, Sc, hz0, ST, LF, hc1, hc2, ho1, ho2, Tb, hn12, hc12, hbin, hlk1, hlk2, hob, hrunb, hokb⟩ oml oml G1 G2 (by rw [if_pos q]) hr2 hvsb hus ps H1 H2 EE TL AG (by simp only [List.length_append, List.length_cons, List.length_nil]; omega) (fun z => by have := hl2 z; simp only [List.length_append, List.length_cons, List.length_nil]; omega) d0 d1 d2 d3 d4 d5 d15 _ _ _ _ _ _ w
theorem t437T {V : Vm} {cl sl : Nat} (K : Cx Z a0 z0 dc kd es el em mr le kl f cK cS methk ck hh n1 n2 lk v1 v2 o1 o2 c1 c2 cv1 cv2 co1 co2 ag ta wn tw vs us ws items gs r1 r2) (hcl : cl + 80 ≤ 112) (hsl : sl + 660 ≤ 4608) (G1 G2 : Bool) (hr2 : r2 = if G2 = true then some v2 else none) (hnone : r1 = none) (hvs : vs = own_flat n1 n2 items) (hus : us = gs) (ps : Int32) (H1 H2 EE TL AG : Bool) (hl : vs.length ≤ 3) (hl2 : ¬ ps = 0 → vs.length ≤ 2)  (d0 d1 d2 d3 d4 d5 d15 : Slot) (w : Wk p l e room_1 s m args below meth c Z a0 consts_1 S0 Jvm.Pilot.@@N@@.x code maxLocals ret V hh cl sl (mkF m 437 #[d0, d1, d2, d3, d4, d5, .val (.ref n1), .val (.ref n2), .val (.ref lk), .val (.ref v1), .val (.ref v2), .val (.ref o1), .val (.ref o2), .val (.int (own_fl G1)), .val (.int (own_fl G2)), d15, .val (.int ps), .val (.int (own_fl H1)), .val (.int (own_fl H2)), .val (.int (own_fl EE)), .val (.int (own_fl TL)), .val (.int (own_fl AG)), .val (.ref n2), .val (.ref v2), .val (.int (own_fl G2)), .val (.ref n1), .val (.ref v1), .val (.int (own_fl G1)), .val (.ref ag), .val (.ref wn), .unset, .unset, .unset, .unset, .unset] [])) : Fini p e below s Z consts_1 S0 112 4608 (fun v h => v = some (.int 1)) := by
 obtain ⟨hw, hEL, Sc, hz0, ST, LF, hc1, hc2, ho1, ho2, T, hn12, hc12, hbin, hlk1, hlk2, honce, hrun, hok⟩ := id K
 obtain ⟨Sd, Dd, Xd, Ss, Xs, Fz, Sl, Xl, Fe0, Al0, Fn0, Se, Xe, Mr⟩ := id ST
 have hstr := own_hstr hw
 have hx0 := w.old
 have l10a := T.2.2.2.2.2.2.2.1.len
 have l10w := T.2.2.2.2.2.2.2.2.1.len
 replace w := w.iload (pc' := 439) at_437 rfl
 by_cases q : H1 = true
 rotate_left
 ·
   replace w := w.ifYes (pc' := 468) at_439 ((if0 _ _).trans (teq (own_fF q)).1)
   exact t468T K oml oml G1 G2 hr2 hnone hvs hus ps H1 H2 EE TL AG (by omega) (fun z => hl2 (fun z0 => by rw [z0] at z; exact absurd z (by decide))) d0 d1 d2 d3 d4 d5 d15 w
 replace w := ((w.ifNo (pc' := 442) at_439 ((if0 _ _).trans (feq (own_fT q)).1)).iload at_442 rfl).iconst (pc' := 445) (1 : Int32) at_444
 by_cases q2 : ps = 1
 rotate_left
 ·
   replace w := w.icmpYes (pc' := 468) at_445 ((feq q2).2)
   exact t468T K oml oml G1 G2 hr2 hnone hvs hus ps H1 H2 EE TL AG (by omega) (fun z => hl2 (fun z0 => by rw [z0] at z; exact absurd z (by decide))) d0 d1 d2 d3 d4 d5 d15 w
 replace w := ((w.icmpNo (pc' := 448) at_445 ((teq q2).2)).aload at_448 rfl).aload (pc' := 452) at_450 rfl
 have Ioa := own_insO hw T.2.2.2.2.2.1
 have nxa : o1 ≠ ag := Exa.ne (T.2.2.2.2.2.1).exa (T).2.2.2.2.2.2.2.1.exa (by decide)
 have ema := own_oem w.old Xe T.2.2.2.2.2.1
 have X_ag := (T).2.2.2.2.2.2.2.1.exa
 obtain ⟨kAa, nAa, uAa, ATa⟩ := own_llArv w.old Dd (T).2.2.2.2.2.2.2.1
 have hxa := w.old
 obtain ⟨v1, V1, h1, hq1, A1, w⟩ := w.face (xi := mN89) (y' := mN25) (W := 0) (C := "java/util/ArrayList") (b := ag) (w.pays 0 (rmADD l Z a0 hw hEL ST ag ta vs (by omega) o1 hh w.old (T).2.2.2.2.2.2.2.1 Ioa nxa (T).2.2.2.2.2.2.2.2.2.2.2.2.2.1) (wq hw 339 rfl) (wq hw 46 rfl) all0 nle nle) (wq hw 332 rfl) (wq hw 333 rfl) (wq hw 334 rfl) (wq hw 335 rfl) (wq hw 336 rfl) (wq hw 337 rfl) (wq hw 338 rfl) (wq hw 150 rfl) (argsL := [(.ref o1)]) (rest := []) (by decide) (X_ag) pd_15 rfl rfl nlr rfl at_452 oml oml (pc' := 457)
 obtain ⟨rfl, taa, tqa, qaa, Ka, qba, TLa⟩ := hq1
 replace w := w.toS [(.int (1 : Int32))]
 have qca : tqa = ag ∨ tqa = ta := qaa.imp id And.left
 have Ta := LSt.addA hw hxa Dd T qaa Ka qba TLa (fun u hu => by
   rcases List.mem_append.mp hu with q | q
   · exact (T).2.2.2.2.2.2.2.2.2.2.2.1.keep Ka u q
   · cases List.mem_singleton.mp q
     exact ⟨o1, rfl, own_insKeep Ka Ioa, ema⟩)
 have Uxa := own_strL hw X_ag ATa qca Ka T.2.2.2.2.2.1
 replace w := ((w.pop at_457).aload at_458 rfl).aload (pc' := 462) at_460 rfl
 have Iob := own_insO hw Uxa
 have nxb : o1 ≠ wn := Exa.ne (Uxa).exa (Ta).2.2.2.2.2.2.2.2.1.exa (by decide)
 have X_wn := (Ta).2.2.2.2.2.2.2.2.1.exa
 obtain ⟨kAb, nAb, uAb, ATb⟩ := own_llArv w.old Dd (Ta).2.2.2.2.2.2.2.2.1
 have hxb := w.old
 obtain ⟨v2, V2, h2, hq2, A2, w⟩ := w.face (xi := mN89) (y' := mN25) (W := 0) (C := "java/util/ArrayList") (b := wn) (w.pays 0 (rmADD l Z a0 hw hEL ST wn tw ws (by have z := (Ta).2.2.2.2.2.2.2.2.2.2.2.2.1.1; have z2 := congrArg List.length hvs; have z3 := own_opsR _ _ _ _ _ _ _ hrun; have z5 := own_opsL n1 n2 items; rw [hus] at z; simp at z z2 z3; omega) o1 h1 w.old (Ta).2.2.2.2.2.2.2.2.1 Iob nxb (Ta).2.2.2.2.2.2.2.2.2.2.2.2.2.2) (wq hw 339 rfl) (wq hw 46 rfl) all0 nle nle) (wq hw 332 rfl) (wq hw 333 rfl) (wq hw 334 rfl) (wq hw 335 rfl) (wq hw 336 rfl) (wq hw 337 rfl) (wq hw 338 rfl) (wq hw 150 rfl) (argsL := [(.ref o1)]) (rest := []) (by decide) (X_wn) pd_15 rfl rfl nlr rfl at_462 oml oml (pc' := 467)
 obtain ⟨rfl, twb, tqb, qab, Kb, qbb, TLb⟩ := hq2
 replace w := w.toS [(.int (1 : Int32))]
 have qcb : tqb = wn ∨ tqb = tw := qab.imp id And.left
 have Tb := LSt.addW hw hxb Dd Ta qab Kb qbb TLb ((own_sprL hw X_wn ATb qcb Kb (Ta).2.2.2.2.2.2.2.2.2.2.2.2.1).snoc (own_strL hw X_wn ATb qcb Kb Uxa) (own_strL hw X_wn ATb qcb Kb Uxa) (by omega) (own_strNe Uxa (Ta.1).str (by omega) (by simp) (by simp; omega)) (own_strNe Uxa (Ta.2.1).str (by omega) (by simp) (by simp; omega)) (own_strNe Uxa (Ta.1).str (by omega) (by simp) (by simp; omega)) (own_strNe Uxa (Ta.2.1).str (by omega) (by simp) (by simp; omega)))
 have Uxb := own_strL hw X_wn ATb qcb Kb Uxa
 have hokb := own_iokS (own_iokL hw X_wn ATb qcb Kb (own_iokL hw X_ag ATa qca Ka hok)) (t := [.inl (o1, co1)]) ⟨⟨Uxb, by omega⟩, trivial⟩
 have husb : us ++ [.ref o1] = gs ++ [.ref o1] := by rw [hus]
 have hvsb : vs ++ [.ref o1] = own_flat n1 n2 (items ++ [.inl (o1, co1)]) := by rw [own_flatS, ← hvs]; rfl
 have hrunb : own_run [] none none (items ++ [.inl (o1, co1)]) = (gs ++ [.ref o1], r1, r2) := by rw [own_runS, hrun]; rfl
 have hob := own_onceI (o1, co1) items false false honce
 replace w := w.pop (pc' := 468) at_467
 exact t468T ⟨hw, hEL, Sc, hz0, ST, LF, hc1, hc2, ho1, ho2, Tb, hn12, hc12, hbin, hlk1, hlk2, hob, hrunb, hokb⟩ oml oml G1 G2 hr2 hnone hvsb husb ps H1 H2 EE TL AG (by have := hl2 (fun z0 => by rw [z0] at q2; exact absurd q2 (by decide)); simp only [List.length_append, List.length_cons, List.length_nil]; omega) (fun z => by rw [q2] at z; exact absurd z (by decide)) d0 d1 d2 d3 d4 d5 d15 w
theorem t412T {V : Vm} {cl sl : Nat} (K : Cx Z a0 z0 dc kd es el em mr le kl f cK cS methk ck hh n1 n2 lk v1 v2 o1 o2 c1 c2 cv1 cv2 co1 co2 ag ta wn tw vs us ws items gs r1 r2) (hcl : cl + 84 ≤ 112) (hsl : sl + 680 ≤ 4608) (G1 G2 : Bool) (hnone : r2 = none) (hnone2 : r1 = none) (hvs : vs = own_flat n1 n2 items) (hus : us = gs) (ps : Int32) (H1 H2 EE TL AG : Bool) (hl : vs.length ≤ 1) (hl2 : ¬ ps = 0 → vs.length ≤ 0)  (d0 d1 d2 d3 d4 d5 d15 : Slot) (w : Wk p l e room_1 s m args below meth c Z a0 consts_1 S0 Jvm.Pilot.@@N@@.x code maxLocals ret V hh cl sl (mkF m 412 #[d0, d1, d2, d3, d4, d5, .val (.ref n1), .val (.ref n2), .val (.ref lk), .val (.ref v1), .val (.ref v2), .val (.ref o1), .val (.ref o2), .val (.int (own_fl G1)), .val (.int (own_fl G2)), d15, .val (.int ps), .val (.int (own_fl H1)), .val (.int (own_fl H2)), .val (.int (own_fl EE)), .val (.int (own_fl TL)), .val (.int (own_fl AG)), .val (.ref n2), .val (.ref v2), .val (.int (own_fl G2)), .val (.ref n1), .val (.ref v1), .val (.int (own_fl G1)), .val (.ref ag), .val (.ref wn), .unset, .unset, .unset, .unset, .unset] [])) : Fini p e below s Z consts_1 S0 112 4608 (fun v h => v = some (.int 1)) := by
 obtain ⟨hw, hEL, Sc, hz0, ST, LF, hc1, hc2, ho1, ho2, T, hn12, hc12, hbin, hlk1, hlk2, honce, hrun, hok⟩ := id K
 obtain ⟨Sd, Dd, Xd, Ss, Xs, Fz, Sl, Xl, Fe0, Al0, Fn0, Se, Xe, Mr⟩ := id ST
 have hstr := own_hstr hw
 have hx0 := w.old
 have l10a := T.2.2.2.2.2.2.2.1.len
 have l10w := T.2.2.2.2.2.2.2.2.1.len
 replace w := w.iload (pc' := 414) at_412 rfl
 by_cases q : G2 = true
 rotate_left
 ·
   replace w := w.ifYes (pc' := 437) at_414 ((if0 _ _).trans (teq (own_fF q)).1)
   exact t437T K oml oml G1 G2 (by rw [hnone, if_neg q]) hnone2 hvs hus ps H1 H2 EE TL AG (by omega) (fun z => by have := hl2 z; omega) d0 d1 d2 d3 d4 d5 d15 w
 replace w := ((w.ifNo (pc' := 417) at_414 ((if0 _ _).trans (feq (own_fT q)).1)).aload at_417 rfl).aload (pc' := 421) at_419 rfl
 have Ioa := own_insO hw (T.2.1).str
 have nxa : n2 ≠ ag := Exa.ne ((T.2.1).str).exa (T).2.2.2.2.2.2.2.1.exa (by decide)
 have ema := own_oem w.old Xe (T.2.1).str
 have X_ag := (T).2.2.2.2.2.2.2.1.exa
 obtain ⟨kAa, nAa, uAa, ATa⟩ := own_llArv w.old Dd (T).2.2.2.2.2.2.2.1
 have hxa := w.old
 obtain ⟨v1, V1, h1, hq1, A1, w⟩ := w.face (xi := mN89) (y' := mN25) (W := 0) (C := "java/util/ArrayList") (b := ag) (w.pays 0 (rmADD l Z a0 hw hEL ST ag ta vs (by omega) n2 hh w.old (T).2.2.2.2.2.2.2.1 Ioa nxa (T).2.2.2.2.2.2.2.2.2.2.2.2.2.1) (wq hw 339 rfl) (wq hw 46 rfl) all0 nle nle) (wq hw 332 rfl) (wq hw 333 rfl) (wq hw 334 rfl) (wq hw 335 rfl) (wq hw 336 rfl) (wq hw 337 rfl) (wq hw 338 rfl) (wq hw 150 rfl) (argsL := [(.ref n2)]) (rest := []) (by decide) (X_ag) pd_15 rfl rfl nlr rfl at_421 oml oml (pc' := 426)
 obtain ⟨rfl, taa, tqa, qaa, Ka, qba, TLa⟩ := hq1
 replace w := w.toS [(.int (1 : Int32))]
 have qca : tqa = ag ∨ tqa = ta := qaa.imp id And.left
 have Ta := LSt.addA hw hxa Dd T qaa Ka qba TLa (fun u hu => by
   rcases List.mem_append.mp hu with q | q
   · exact (T).2.2.2.2.2.2.2.2.2.2.2.1.keep Ka u q
   · cases List.mem_singleton.mp q
     exact ⟨n2, rfl, own_insKeep Ka Ioa, ema⟩)
 have Uva := own_strL hw X_ag ATa qca Ka T.2.2.2.2.1
 have X_ag0 := X_ag
 replace w := ((w.pop at_426).aload at_427 rfl).aload (pc' := 431) at_429 rfl
 have Iob := own_insO hw Uva
 have nxb : v2 ≠ ag := Exa.ne (Uva).exa (Ta).2.2.2.2.2.2.2.1.exa (by decide)
 have emb := own_oem w.old Xe Uva
 have X_ag := (Ta).2.2.2.2.2.2.2.1.exa
 obtain ⟨kAb, nAb, uAb, ATb⟩ := own_llArv w.old Dd (Ta).2.2.2.2.2.2.2.1
 have hxb := w.old
 obtain ⟨v2, V2, h2, hq2, A2, w⟩ := w.face (xi := mN89) (y' := mN25) (W := 0) (C := "java/util/ArrayList") (b := ag) (w.pays 0 (rmADD l Z a0 hw hEL ST ag taa (vs ++ [.ref n2]) (by simp; omega) v2 h1 w.old (Ta).2.2.2.2.2.2.2.1 Iob nxb (Ta).2.2.2.2.2.2.2.2.2.2.2.2.2.1) (wq hw 339 rfl) (wq hw 46 rfl) all0 nle nle) (wq hw 332 rfl) (wq hw 333 rfl) (wq hw 334 rfl) (wq hw 335 rfl) (wq hw 336 rfl) (wq hw 337 rfl) (wq hw 338 rfl) (wq hw 150 rfl) (argsL := [(.ref v2)]) (rest := []) (by decide) (X_ag) pd_15 rfl rfl nlr rfl at_431 oml oml (pc' := 436)
 obtain ⟨rfl, tab, tqb, qab, Kb, qbb, TLb⟩ := hq2
 replace w := w.toS [(.int (1 : Int32))]
 have qcb : tqb = ag ∨ tqb = taa := qab.imp id And.left
 have Tb := LSt.addA hw hxb Dd Ta qab Kb qbb TLb (fun u hu => by
   rcases List.mem_append.mp hu with q | q
   · exact (Ta).2.2.2.2.2.2.2.2.2.2.2.1.keep Kb u q
   · cases List.mem_singleton.mp q
     exact ⟨v2, rfl, own_insKeep Kb Iob, emb⟩)
 have Uvb := own_strL hw X_ag ATb qcb Kb Uva
 have hokb := own_iokS (own_iokL hw X_ag ATb qcb Kb (own_iokL hw X_ag0 ATa qca Ka hok)) (t := [.inr (true, v2, cv2)]) ⟨⟨Uvb, hc2⟩, trivial⟩
 have hvsb : vs ++ [.ref n2] ++ [.ref v2] = own_flat n1 n2 (items ++ [.inr (true, v2, cv2)]) := by rw [own_flatS, ← hvs, List.append_assoc]; rfl
 have hrunb : own_run [] none none (items ++ [.inr (true, v2, cv2)]) = (gs, r1, some v2) := by rw [own_runS, hrun]; rfl
 have hob : own_once false false (items ++ [.inr (true, v2, cv2)]) := own_onceT v2 cv2 items [] gs none none _ honce (by rw [hrun, hnone])
 replace w := w.pop (pc' := 437) at_436
 exact t437T ⟨hw, hEL, Sc, hz0, ST, LF, hc1, hc2, ho1, ho2, Tb, hn12, hc12, hbin, hlk1, hlk2, hob, hrunb, hokb⟩ oml oml G1 G2 (by rw [if_pos q]) hnone2 hvsb hus ps H1 H2 EE TL AG (by simp only [List.length_append, List.length_cons, List.length_nil]; omega) (fun z => by have := hl2 z; simp only [List.length_append, List.length_cons, List.length_nil]; omega) d0 d1 d2 d3 d4 d5 d15 w
theorem t382T {V : Vm} {cl sl : Nat} (K : Cx Z a0 z0 dc kd es el em mr le kl f cK cS methk ck hh n1 n2 lk v1 v2 o1 o2 c1 c2 cv1 cv2 co1 co2 ag ta wn tw vs us ws items gs r1 r2) (hcl : cl + 86 ≤ 112) (hsl : sl + 700 ≤ 4608) (G1 G2 : Bool) (hnone : r2 = none) (hnone2 : r1 = none) (hvs : vs = own_flat n1 n2 items) (hus : us = gs) (ps : Int32) (H1 H2 EE TL AG : Bool) (hl : vs.length ≤ 0)  (d0 d1 d2 d3 d4 d5 d15 : Slot) (w : Wk p l e room_1 s m args below meth c Z a0 consts_1 S0 Jvm.Pilot.@@N@@.x code maxLocals ret V hh cl sl (mkF m 382 #[d0, d1, d2, d3, d4, d5, .val (.ref n1), .val (.ref n2), .val (.ref lk), .val (.ref v1), .val (.ref v2), .val (.ref o1), .val (.ref o2), .val (.int (own_fl G1)), .val (.int (own_fl G2)), d15, .val (.int ps), .val (.int (own_fl H1)), .val (.int (own_fl H2)), .val (.int (own_fl EE)), .val (.int (own_fl TL)), .val (.int (own_fl AG)), .val (.ref n2), .val (.ref v2), .val (.int (own_fl G2)), .val (.ref n1), .val (.ref v1), .val (.int (own_fl G1)), .val (.ref ag), .val (.ref wn), .unset, .unset, .unset, .unset, .unset] [])) : Fini p e below s Z consts_1 S0 112 4608 (fun v h => v = some (.int 1)) := by
 obtain ⟨hw, hEL, Sc, hz0, ST, LF, hc1, hc2, ho1, ho2, T, hn12, hc12, hbin, hlk1, hlk2, honce, hrun, hok⟩ := id K
 obtain ⟨Sd, Dd, Xd, Ss, Xs, Fz, Sl, Xl, Fe0, Al0, Fn0, Se, Xe, Mr⟩ := id ST
 have hstr := own_hstr hw
 have hx0 := w.old
 have l10a := T.2.2.2.2.2.2.2.1.len
 have l10w := T.2.2.2.2.2.2.2.2.1.len
 replace w := w.iload (pc' := 384) at_382 rfl
 by_cases q : H1 = true
 rotate_left
 ·
   replace w := w.ifYes (pc' := 412) at_384 ((if0 _ _).trans (teq (own_fF q)).1)
   exact t412T K oml oml G1 G2 hnone hnone2 hvs hus ps H1 H2 EE TL AG (by omega) (fun z => by omega) d0 d1 d2 d3 d4 d5 d15 w
 replace w := (w.ifNo (pc' := 387) at_384 ((if0 _ _).trans (feq (own_fT q)).1)).iload (pc' := 389) at_387 rfl
 by_cases q2 : ps = 0
 rotate_left
 ·
   replace w := w.ifYes (pc' := 412) at_389 ((if0 _ _).trans (feq q2).2)
   exact t412T K oml oml G1 G2 hnone hnone2 hvs hus ps H1 H2 EE TL AG (by omega) (fun z => by omega) d0 d1 d2 d3 d4 d5 d15 w
 replace w := ((w.ifNo (pc' := 392) at_389 ((if0 _ _).trans (teq q2).2)).aload at_392 rfl).aload (pc' := 396) at_394 rfl
 have Ioa := own_insO hw T.2.2.2.2.2.1
 have nxa : o1 ≠ ag := Exa.ne (T.2.2.2.2.2.1).exa (T).2.2.2.2.2.2.2.1.exa (by decide)
 have ema := own_oem w.old Xe T.2.2.2.2.2.1
 have X_ag := (T).2.2.2.2.2.2.2.1.exa
 obtain ⟨kAa, nAa, uAa, ATa⟩ := own_llArv w.old Dd (T).2.2.2.2.2.2.2.1
 have hxa := w.old
 obtain ⟨v1, V1, h1, hq1, A1, w⟩ := w.face (xi := mN89) (y' := mN25) (W := 0) (C := "java/util/ArrayList") (b := ag) (w.pays 0 (rmADD l Z a0 hw hEL ST ag ta vs (by omega) o1 hh w.old (T).2.2.2.2.2.2.2.1 Ioa nxa (T).2.2.2.2.2.2.2.2.2.2.2.2.2.1) (wq hw 339 rfl) (wq hw 46 rfl) all0 nle nle) (wq hw 332 rfl) (wq hw 333 rfl) (wq hw 334 rfl) (wq hw 335 rfl) (wq hw 336 rfl) (wq hw 337 rfl) (wq hw 338 rfl) (wq hw 150 rfl) (argsL := [(.ref o1)]) (rest := []) (by decide) (X_ag) pd_15 rfl rfl nlr rfl at_396 oml oml (pc' := 401)
 obtain ⟨rfl, taa, tqa, qaa, Ka, qba, TLa⟩ := hq1
 replace w := w.toS [(.int (1 : Int32))]
 have qca : tqa = ag ∨ tqa = ta := qaa.imp id And.left
 have Ta := LSt.addA hw hxa Dd T qaa Ka qba TLa (fun u hu => by
   rcases List.mem_append.mp hu with q | q
   · exact (T).2.2.2.2.2.2.2.2.2.2.2.1.keep Ka u q
   · cases List.mem_singleton.mp q
     exact ⟨o1, rfl, own_insKeep Ka Ioa, ema⟩)
 have Uxa := own_strL hw X_ag ATa qca Ka T.2.2.2.2.2.1
 replace w := ((w.pop at_401).aload at_402 rfl).aload (pc' := 406) at_404 rfl
 have Iob := own_insO hw Uxa
 have nxb : o1 ≠ wn := Exa.ne (Uxa).exa (Ta).2.2.2.2.2.2.2.2.1.exa (by decide)
 have X_wn := (Ta).2.2.2.2.2.2.2.2.1.exa
 obtain ⟨kAb, nAb, uAb, ATb⟩ := own_llArv w.old Dd (Ta).2.2.2.2.2.2.2.2.1
 have hxb := w.old
 obtain ⟨v2, V2, h2, hq2, A2, w⟩ := w.face (xi := mN89) (y' := mN25) (W := 0) (C := "java/util/ArrayList") (b := wn) (w.pays 0 (rmADD l Z a0 hw hEL ST wn tw ws (by have z := (Ta).2.2.2.2.2.2.2.2.2.2.2.2.1.1; have z2 := congrArg List.length hvs; have z3 := own_opsR _ _ _ _ _ _ _ hrun; have z5 := own_opsL n1 n2 items; rw [hus] at z; simp at z z2 z3; omega) o1 h1 w.old (Ta).2.2.2.2.2.2.2.2.1 Iob nxb (Ta).2.2.2.2.2.2.2.2.2.2.2.2.2.2) (wq hw 339 rfl) (wq hw 46 rfl) all0 nle nle) (wq hw 332 rfl) (wq hw 333 rfl) (wq hw 334 rfl) (wq hw 335 rfl) (wq hw 336 rfl) (wq hw 337 rfl) (wq hw 338 rfl) (wq hw 150 rfl) (argsL := [(.ref o1)]) (rest := []) (by decide) (X_wn) pd_15 rfl rfl nlr rfl at_406 oml oml (pc' := 411)
 obtain ⟨rfl, twb, tqb, qab, Kb, qbb, TLb⟩ := hq2
 replace w := w.toS [(.int (1 : Int32))]
 have qcb : tqb = wn ∨ tqb = tw := qab.imp id And.left
 have Tb := LSt.addW hw hxb Dd Ta qab Kb qbb TLb ((own_sprL hw X_wn ATb qcb Kb (Ta).2.2.2.2.2.2.2.2.2.2.2.2.1).snoc (own_strL hw X_wn ATb qcb Kb Uxa) (own_strL hw X_wn ATb qcb Kb Uxa) (by omega) (own_strNe Uxa (Ta.1).str (by omega) (by simp) (by simp; omega)) (own_strNe Uxa (Ta.2.1).str (by omega) (by simp) (by simp; omega)) (own_strNe Uxa (Ta.1).str (by omega) (by simp) (by simp; omega)) (own_strNe Uxa (Ta.2.1).str (by omega) (by simp) (by simp; omega)))
 have Uxb := own_strL hw X_wn ATb qcb Kb Uxa
 have hokb := own_iokS (own_iokL hw X_wn ATb qcb Kb (own_iokL hw X_ag ATa qca Ka hok)) (t := [.inl (o1, co1)]) ⟨⟨Uxb, by omega⟩, trivial⟩
 have husb : us ++ [.ref o1] = gs ++ [.ref o1] := by rw [hus]
 have hvsb : vs ++ [.ref o1] = own_flat n1 n2 (items ++ [.inl (o1, co1)]) := by rw [own_flatS, ← hvs]; rfl
 have hrunb : own_run [] none none (items ++ [.inl (o1, co1)]) = (gs ++ [.ref o1], r1, r2) := by rw [own_runS, hrun]; rfl
 have hob := own_onceI (o1, co1) items false false honce
 replace w := w.pop (pc' := 412) at_411
 exact t412T ⟨hw, hEL, Sc, hz0, ST, LF, hc1, hc2, ho1, ho2, Tb, hn12, hc12, hbin, hlk1, hlk2, hob, hrunb, hokb⟩ oml oml G1 G2 hnone hnone2 hvsb husb ps H1 H2 EE TL AG (by simp only [List.length_append, List.length_cons, List.length_nil]; omega) (fun z => absurd q2 z) d0 d1 d2 d3 d4 d5 d15 w
end OwnLaw3
section OwnBit
variable {p : Program} {l : Launch} {e : Env} {R : Room} {s : State} {m : MethodId} {args : Array Value} {below : List Frame} {meth : Method} {c : Code} {Z : State} {a0 : Array Value} {EL : List (String × Nat)} {S0 : State} {y : MethodName} {B : ByteArray} {ml : Nat} {ret : Option FieldType} {V : Vm} {h : Heap} {cl sl : Nat}
theorem Wk.bit {pc pc' : Nat} {L : Array Slot} {st : List Value} {z : Int32} (w : Wk p l e R s m args below meth c Z a0 EL S0 y B ml ret V h cl sl (mkF m pc L (.int z :: st))) (h1 : decode B pc = .ok (.ifCond .eq 7, 3)) (h2 : decode B (pc + 3) = .ok (.iconst 1, 1)) (h3 : decode B (pc + 4) = .ok (.goto 4, 3)) (h4 : decode B (pc + 7) = .ok (.iconst 0, 1)) (hp : pc + 8 = pc' := by rfl) :
   ∃ G : Bool, Wk p l e R s m args below meth c Z a0 EL S0 y B ml ret V h cl sl (mkF m pc' L (.int (own_fl G) :: st)) := by
 subst hp
 by_cases q : z = 0
 · have w1 := w.ifYes (pc' := pc + 7) h1 ((if0 _ _).trans (teq q).1) (by omega) (by omega)
   exact ⟨false, w1.iconst (pc' := pc + 8) (0 : Int32) h4⟩
 · have w1 := w.ifNo (pc' := pc + 3) h1 ((if0 _ _).trans (feq q).1)
   have w2 := w1.iconst (pc' := pc + 4) (1 : Int32) h2
   exact ⟨true, w2.goto (pc' := pc + 8) h3 (by omega) (by omega)⟩
end OwnBit
def own_x1 (c : Int32) : Int32 := (c ^^^ 1).toUInt32.toUInt16.toUInt32.toInt32
theorem own_x1all : ∀ n : Fin 256, (¬ own_x1 (Int32.ofNat n.val) < 0 ∧ ¬ (255 : Int32) < own_x1 (Int32.ofNat n.val)) ∧ nar .char (own_x1 (Int32.ofNat n.val)) = own_x1 (Int32.ofNat n.val) ∧ Int32.ofNat n.val ≠ own_x1 (Int32.ofNat n.val) ∧ own_bin (Int32.ofNat n.val) ≠ own_bin (own_x1 (Int32.ofNat n.val)) := by decide +kernel
theorem own_x1is {c : Int32} (h : ¬ c < 0 ∧ ¬ (255 : Int32) < c) : (¬ own_x1 c < 0 ∧ ¬ (255 : Int32) < own_x1 c) ∧ nar .char (own_x1 c) = own_x1 c ∧ c ≠ own_x1 c ∧ own_bin c ≠ own_bin (own_x1 c) := by
 have e0 : (0 : Int32).toInt = 0 := by decide
 have e1 : (255 : Int32).toInt = 255 := by decide
 have h1 := h.1; have h2 := h.2
 rw [Int32.lt_iff_toInt_lt] at h1 h2
 have e : Int32.ofNat c.toInt.toNat = c := Int32.toInt_inj.mp (by rw [(own_n32 (n := c.toInt.toNat) (by omega)).2.2]; omega)
 have q := own_x1all ⟨c.toInt.toNat, by omega⟩
 rw [← e]; exact q
theorem own_r45 : ¬ (45 : Int32) < 0 ∧ ¬ (255 : Int32) < 45 := by decide
theorem t122 (l : Launch) (Z : State) (a0 : Array Value) (hw : HW Z a0) (hEL : EW Z a0 consts_1) (z0 : Int32) (Sc : SC Z z0) (hz0 : ¬ z0 = 0) {p : Program} {e : Env} {s : State} {m : MethodId} {args : Array Value} {below : List Frame} {meth : Method} {c : Code} {S0 : State} {dc : Addr} {kd : ClassId} {es el em mr le : Addr} {kl : ClassId} (ST : Stt Z dc kd es el em mr le kl) {f : Addr} {cK cS : ClassId} {methk : Method} {ck : Code} (LF : Lam Z f cK cS methk ck) {V : Vm} (hh : Heap) (p0 p1 p2 p3 p4 c1 c2 : Int32) (n1 n2 lk v1 : Addr) (cv1 : List Int32) (hc1 : cv1.length ≤ 1) (S1 : Key Z hh n1 c1) (S2 : Key Z hh n2 c2) (Ul : Str Z hh lk [45, 45, c1]) (U1 : Str Z hh v1 cv1) (hn12 : n1 ≠ n2) (hc12 : c1 ≠ c2) (hbin : own_bin c1 ≠ own_bin c2) (hlk1 : lk ≠ n1) (hlk2 : lk ≠ n2)
   (w : Wk p l e room_1 s m args below meth c Z a0 consts_1 S0 Jvm.Pilot.@@N@@.x code maxLocals ret V hh 15 45 (mkF m 122 #[.val (.int p0), .val (.int p1), .val (.int p2), .val (.int p3), .val (.int p4), .val (.int c1), .val (.ref n1), .val (.ref n2), .val (.ref lk), .unset, .unset, .unset, .unset, .unset, .unset, .unset, .unset, .unset, .unset, .unset, .unset, .unset, .unset, .unset, .unset, .unset, .unset, .unset, .unset, .unset, .unset, .unset, .unset, .unset, .unset] [.ref v1])) : Fini p e below s Z consts_1 S0 112 4608 (fun v h => v = some (.int 1)) := by
 obtain ⟨Sd, Dd, Xd, Ss, Xs, Fz, Sl, Xl, Fe0, Al0, Fn0, Se, Xe, Mr⟩ := id ST
 have BZ := w.old
 have B0 := extR hh
 replace w := ((((((w.astore (L' := #[.val (.int p0), .val (.int p1), .val (.int p2), .val (.int p3), .val (.int p4), .val (.int c1), .val (.ref n1), .val (.ref n2), .val (.ref lk), .val (.ref v1), .unset, .unset, .unset, .unset, .unset, .unset, .unset, .unset, .unset, .unset, .unset, .unset, .unset, .unset, .unset, .unset, .unset, .unset, .unset, .unset, .unset, .unset, .unset, .unset, .unset]) at_122 rfl).iloadN at_124 rfl).bipush (8 : Int32) at_125).iushr at_127).sipush (255 : Int32) at_128).iand at_131).i2c (pc' := 133) at_132
 rw [i2c_mask] at w
 obtain ⟨b2, hb2⟩ : ∃ z, z = ((p2.toUInt32 >>> ((8 : Int32) &&& 31).toUInt32).toInt32 &&& (255 : Int32)) := ⟨_, rfl⟩
 rw [← hb2] at w
 have rb2 : ¬ b2 < 0 ∧ ¬ (255 : Int32) < b2 := by rw [hb2]; exact and255 _
 obtain ⟨v1, V1, h1, hq1, A1, w⟩ := w.static (y' := mN82) (W := 0) (w.pays 0 (rmVO l Z a0 hw hEL z0 Sc hz0 b2 rb2 hh w.old) (wq hw 32 rfl) (wq hw 2 rfl) all0 nle nle) (wq hw 30 rfl) (wq hw 31 rfl) (wq hw 2 rfl) (wq hw 32 rfl) (argsL := [(.int b2)]) (rest := []) (by decide) pd_55 rfl rfl nlr rfl at_133 nle nle (pc' := 136)
 obtain ⟨v2, rfl, E1, U2⟩ := hq1
 replace w := w.toS [(.ref v2)]
 have BZ := extT BZ E1
 have B0 := extT B0 E1
 have B1 := extR h1
 replace w := ((((w.astore (L' := #[.val (.int p0), .val (.int p1), .val (.int p2), .val (.int p3), .val (.int p4), .val (.int c1), .val (.ref n1), .val (.ref n2), .val (.ref lk), .val (.ref v1), .val (.ref v2), .unset, .unset, .unset, .unset, .unset, .unset, .unset, .unset, .unset, .unset, .unset, .unset, .unset, .unset, .unset, .unset, .unset, .unset, .unset, .unset, .unset, .unset, .unset, .unset]) at_136 rfl).iloadN at_138 rfl).sipush (255 : Int32) at_139).iand at_142).i2c (pc' := 144) at_143
 rw [i2c_mask] at w
 obtain ⟨o1c, ho1⟩ : ∃ z, z = (p3 &&& (255 : Int32)) := ⟨_, rfl⟩
 rw [← ho1] at w
 have ro1 : ¬ o1c < 0 ∧ ¬ (255 : Int32) < o1c := by rw [ho1]; exact and255 _
 obtain ⟨v2, V2, h2, hq2, A2, w⟩ := w.static (y' := mN82) (W := 0) (w.pays 0 (rmVO l Z a0 hw hEL z0 Sc hz0 o1c ro1 h1 w.old) (wq hw 32 rfl) (wq hw 2 rfl) all0 nle nle) (wq hw 30 rfl) (wq hw 31 rfl) (wq hw 2 rfl) (wq hw 32 rfl) (argsL := [(.int o1c)]) (rest := []) (by decide) pd_55 rfl rfl nlr rfl at_144 nle nle (pc' := 147)
 obtain ⟨o1, rfl, E2, V1⟩ := hq2
 replace w := w.toS [(.ref o1)]
 have BZ := extT BZ E2
 have B0 := extT B0 E2
 have B1 := extT B1 E2
 have B2 := extR h2
 replace w := ((((w.astore (L' := #[.val (.int p0), .val (.int p1), .val (.int p2), .val (.int p3), .val (.int p4), .val (.int c1), .val (.ref n1), .val (.ref n2), .val (.ref lk), .val (.ref v1), .val (.ref v2), .val (.ref o1), .unset, .unset, .unset, .unset, .unset, .unset, .unset, .unset, .unset, .unset, .unset, .unset, .unset, .unset, .unset, .unset, .unset, .unset, .unset, .unset, .unset, .unset, .unset]) at_147 rfl).iload at_149 rfl).sipush (255 : Int32) at_151).iand at_154).i2c (pc' := 156) at_155
 rw [i2c_mask] at w
 obtain ⟨o2c, ho2⟩ : ∃ z, z = (p4 &&& (255 : Int32)) := ⟨_, rfl⟩
 rw [← ho2] at w
 have ro2 : ¬ o2c < 0 ∧ ¬ (255 : Int32) < o2c := by rw [ho2]; exact and255 _
 obtain ⟨v3, V3, h3, hq3, A3, w⟩ := w.static (y' := mN82) (W := 0) (w.pays 0 (rmVO l Z a0 hw hEL z0 Sc hz0 o2c ro2 h2 w.old) (wq hw 32 rfl) (wq hw 2 rfl) all0 nle nle) (wq hw 30 rfl) (wq hw 31 rfl) (wq hw 2 rfl) (wq hw 32 rfl) (argsL := [(.int o2c)]) (rest := []) (by decide) pd_55 rfl rfl nlr rfl at_156 nle nle (pc' := 159)
 obtain ⟨o2, rfl, E3, V2⟩ := hq3
 replace w := w.toS [(.ref o2)]
 have BZ := extT BZ E3
 have B0 := extT B0 E3
 have B1 := extT B1 E3
 have B2 := extT B2 E3
 replace w := (((w.astore (L' := #[.val (.int p0), .val (.int p1), .val (.int p2), .val (.int p3), .val (.int p4), .val (.int c1), .val (.ref n1), .val (.ref n2), .val (.ref lk), .val (.ref v1), .val (.ref v2), .val (.ref o1), .val (.ref o2), .unset, .unset, .unset, .unset, .unset, .unset, .unset, .unset, .unset, .unset, .unset, .unset, .unset, .unset, .unset, .unset, .unset, .unset, .unset, .unset, .unset, .unset]) at_159 rfl).iloadN at_161 rfl).iconst (1 : Int32) at_162).iand (pc' := 164) at_163
 obtain ⟨G1, w⟩ := w.bit at_164 at_167 at_168 at_171 (pc' := 172)
 replace w := (((w.istore (L' := #[.val (.int p0), .val (.int p1), .val (.int p2), .val (.int p3), .val (.int p4), .val (.int c1), .val (.ref n1), .val (.ref n2), .val (.ref lk), .val (.ref v1), .val (.ref v2), .val (.ref o1), .val (.ref o2), .val (.int (own_fl G1)), .unset, .unset, .unset, .unset, .unset, .unset, .unset, .unset, .unset, .unset, .unset, .unset, .unset, .unset, .unset, .unset, .unset, .unset, .unset, .unset, .unset]) at_172 rfl).iloadN at_174 rfl).iconst (2 : Int32) at_175).iand (pc' := 177) at_176
 obtain ⟨G2, w⟩ := w.bit at_177 at_180 at_181 at_184 (pc' := 185)
 replace w := (((w.istore (L' := #[.val (.int p0), .val (.int p1), .val (.int p2), .val (.int p3), .val (.int p4), .val (.int c1), .val (.ref n1), .val (.ref n2), .val (.ref lk), .val (.ref v1), .val (.ref v2), .val (.ref o1), .val (.ref o2), .val (.int (own_fl G1)), .val (.int (own_fl G2)), .unset, .unset, .unset, .unset, .unset, .unset, .unset, .unset, .unset, .unset, .unset, .unset, .unset, .unset, .unset, .unset, .unset, .unset, .unset, .unset]) at_185 rfl).iloadN at_187 rfl).iconst (4 : Int32) at_188).iand (pc' := 190) at_189
 obtain ⟨SW, w⟩ := w.bit at_190 at_193 at_194 at_197 (pc' := 198)
 replace w := (((((w.istore (L' := #[.val (.int p0), .val (.int p1), .val (.int p2), .val (.int p3), .val (.int p4), .val (.int c1), .val (.ref n1), .val (.ref n2), .val (.ref lk), .val (.ref v1), .val (.ref v2), .val (.ref o1), .val (.ref o2), .val (.int (own_fl G1)), .val (.int (own_fl G2)), .val (.int (own_fl SW)), .unset, .unset, .unset, .unset, .unset, .unset, .unset, .unset, .unset, .unset, .unset, .unset, .unset, .unset, .unset, .unset, .unset, .unset, .unset]) at_198 rfl).iloadN at_200 rfl).iconst (3 : Int32) at_201).iushr at_202).iconst (3 : Int32) at_203).iand (pc' := 205) at_204
 obtain ⟨ps, hps⟩ : ∃ z, z = (((p0.toUInt32 >>> ((3 : Int32) &&& 31).toUInt32).toInt32) &&& (3 : Int32)) := ⟨_, rfl⟩
 rw [← hps] at w
 replace w := (((w.istore (L' := #[.val (.int p0), .val (.int p1), .val (.int p2), .val (.int p3), .val (.int p4), .val (.int c1), .val (.ref n1), .val (.ref n2), .val (.ref lk), .val (.ref v1), .val (.ref v2), .val (.ref o1), .val (.ref o2), .val (.int (own_fl G1)), .val (.int (own_fl G2)), .val (.int (own_fl SW)), .val (.int ps), .unset, .unset, .unset, .unset, .unset, .unset, .unset, .unset, .unset, .unset, .unset, .unset, .unset, .unset, .unset, .unset, .unset, .unset]) at_205 rfl).iloadN at_207 rfl).bipush (32 : Int32) at_208).iand (pc' := 211) at_210
 obtain ⟨H1, w⟩ := w.bit at_211 at_214 at_215 at_218 (pc' := 219)
 replace w := (((w.istore (L' := #[.val (.int p0), .val (.int p1), .val (.int p2), .val (.int p3), .val (.int p4), .val (.int c1), .val (.ref n1), .val (.ref n2), .val (.ref lk), .val (.ref v1), .val (.ref v2), .val (.ref o1), .val (.ref o2), .val (.int (own_fl G1)), .val (.int (own_fl G2)), .val (.int (own_fl SW)), .val (.int ps), .val (.int (own_fl H1)), .unset, .unset, .unset, .unset, .unset, .unset, .unset, .unset, .unset, .unset, .unset, .unset, .unset, .unset, .unset, .unset, .unset]) at_219 rfl).iloadN at_221 rfl).bipush (64 : Int32) at_222).iand (pc' := 225) at_224
 obtain ⟨H2, w⟩ := w.bit at_225 at_228 at_229 at_232 (pc' := 233)
 replace w := (((w.istore (L' := #[.val (.int p0), .val (.int p1), .val (.int p2), .val (.int p3), .val (.int p4), .val (.int c1), .val (.ref n1), .val (.ref n2), .val (.ref lk), .val (.ref v1), .val (.ref v2), .val (.ref o1), .val (.ref o2), .val (.int (own_fl G1)), .val (.int (own_fl G2)), .val (.int (own_fl SW)), .val (.int ps), .val (.int (own_fl H1)), .val (.int (own_fl H2)), .unset, .unset, .unset, .unset, .unset, .unset, .unset, .unset, .unset, .unset, .unset, .unset, .unset, .unset, .unset, .unset]) at_233 rfl).iloadN at_235 rfl).sipush (128 : Int32) at_236).iand (pc' := 240) at_239
 obtain ⟨EE, w⟩ := w.bit at_240 at_243 at_244 at_247 (pc' := 248)
 replace w := ((w.istore (L' := #[.val (.int p0), .val (.int p1), .val (.int p2), .val (.int p3), .val (.int p4), .val (.int c1), .val (.ref n1), .val (.ref n2), .val (.ref lk), .val (.ref v1), .val (.ref v2), .val (.ref o1), .val (.ref o2), .val (.int (own_fl G1)), .val (.int (own_fl G2)), .val (.int (own_fl SW)), .val (.int ps), .val (.int (own_fl H1)), .val (.int (own_fl H2)), .val (.int (own_fl EE)), .unset, .unset, .unset, .unset, .unset, .unset, .unset, .unset, .unset, .unset, .unset, .unset, .unset, .unset, .unset]) at_248 rfl).iloadN at_250 rfl).sipush (pc' := 254) (256 : Int32) at_251
 replace w := w.iand (pc' := 255) at_254
 obtain ⟨TL, w⟩ := w.bit at_255 at_258 at_259 at_262 (pc' := 263)
 replace w := ((w.istore (L' := #[.val (.int p0), .val (.int p1), .val (.int p2), .val (.int p3), .val (.int p4), .val (.int c1), .val (.ref n1), .val (.ref n2), .val (.ref lk), .val (.ref v1), .val (.ref v2), .val (.ref o1), .val (.ref o2), .val (.int (own_fl G1)), .val (.int (own_fl G2)), .val (.int (own_fl SW)), .val (.int ps), .val (.int (own_fl H1)), .val (.int (own_fl H2)), .val (.int (own_fl EE)), .val (.int (own_fl TL)), .unset, .unset, .unset, .unset, .unset, .unset, .unset, .unset, .unset, .unset, .unset, .unset, .unset, .unset]) at_263 rfl).iloadN at_265 rfl).sipush (pc' := 269) (512 : Int32) at_266
 replace w := w.iand (pc' := 270) at_269
 obtain ⟨AG, w⟩ := w.bit at_270 at_273 at_274 at_277 (pc' := 278)
 replace w := (w.istore (L' := #[.val (.int p0), .val (.int p1), .val (.int p2), .val (.int p3), .val (.int p4), .val (.int c1), .val (.ref n1), .val (.ref n2), .val (.ref lk), .val (.ref v1), .val (.ref v2), .val (.ref o1), .val (.ref o2), .val (.int (own_fl G1)), .val (.int (own_fl G2)), .val (.int (own_fl SW)), .val (.int ps), .val (.int (own_fl H1)), .val (.int (own_fl H2)), .val (.int (own_fl EE)), .val (.int (own_fl TL)), .val (.int (own_fl AG)), .unset, .unset, .unset, .unset, .unset, .unset, .unset, .unset, .unset, .unset, .unset, .unset, .unset]) at_278 rfl).iload (pc' := 282) at_280 rfl
 by_cases q : SW = true
 ·
   replace w := (((w.ifNo (pc' := 285) at_282 ((if0 _ _).trans (feq (own_fT q)).1)).aload at_285 rfl).goto at_287).astore (pc' := 294) (L' := #[.val (.int p0), .val (.int p1), .val (.int p2), .val (.int p3), .val (.int p4), .val (.int c1), .val (.ref n1), .val (.ref n2), .val (.ref lk), .val (.ref v1), .val (.ref v2), .val (.ref o1), .val (.ref o2), .val (.int (own_fl G1)), .val (.int (own_fl G2)), .val (.int (own_fl SW)), .val (.int ps), .val (.int (own_fl H1)), .val (.int (own_fl H2)), .val (.int (own_fl EE)), .val (.int (own_fl TL)), .val (.int (own_fl AG)), .val (.ref n2), .unset, .unset, .unset, .unset, .unset, .unset, .unset, .unset, .unset, .unset, .unset, .unset]) at_292 rfl
   replace w := ((((w.iload at_294 rfl).ifNo (pc' := 299) at_296 ((if0 _ _).trans (feq (own_fT q)).1)).aload at_299 rfl).goto at_301).astore (pc' := 308) (L' := #[.val (.int p0), .val (.int p1), .val (.int p2), .val (.int p3), .val (.int p4), .val (.int c1), .val (.ref n1), .val (.ref n2), .val (.ref lk), .val (.ref v1), .val (.ref v2), .val (.ref o1), .val (.ref o2), .val (.int (own_fl G1)), .val (.int (own_fl G2)), .val (.int (own_fl SW)), .val (.int ps), .val (.int (own_fl H1)), .val (.int (own_fl H2)), .val (.int (own_fl EE)), .val (.int (own_fl TL)), .val (.int (own_fl AG)), .val (.ref n2), .val (.ref v2), .unset, .unset, .unset, .unset, .unset, .unset, .unset, .unset, .unset, .unset, .unset]) at_306 rfl
   replace w := ((((w.iload at_308 rfl).ifNo (pc' := 313) at_310 ((if0 _ _).trans (feq (own_fT q)).1)).iload at_313 rfl).goto at_315).istore (pc' := 322) (L' := #[.val (.int p0), .val (.int p1), .val (.int p2), .val (.int p3), .val (.int p4), .val (.int c1), .val (.ref n1), .val (.ref n2), .val (.ref lk), .val (.ref v1), .val (.ref v2), .val (.ref o1), .val (.ref o2), .val (.int (own_fl G1)), .val (.int (own_fl G2)), .val (.int (own_fl SW)), .val (.int ps), .val (.int (own_fl H1)), .val (.int (own_fl H2)), .val (.int (own_fl EE)), .val (.int (own_fl TL)), .val (.int (own_fl AG)), .val (.ref n2), .val (.ref v2), .val (.int (own_fl G2)), .unset, .unset, .unset, .unset, .unset, .unset, .unset, .unset, .unset, .unset]) at_320 rfl
   replace w := ((((w.iload at_322 rfl).ifNo (pc' := 327) at_324 ((if0 _ _).trans (feq (own_fT q)).1)).aload at_327 rfl).goto at_329).astore (pc' := 336) (L' := #[.val (.int p0), .val (.int p1), .val (.int p2), .val (.int p3), .val (.int p4), .val (.int c1), .val (.ref n1), .val (.ref n2), .val (.ref lk), .val (.ref v1), .val (.ref v2), .val (.ref o1), .val (.ref o2), .val (.int (own_fl G1)), .val (.int (own_fl G2)), .val (.int (own_fl SW)), .val (.int ps), .val (.int (own_fl H1)), .val (.int (own_fl H2)), .val (.int (own_fl EE)), .val (.int (own_fl TL)), .val (.int (own_fl AG)), .val (.ref n2), .val (.ref v2), .val (.int (own_fl G2)), .val (.ref n1), .unset, .unset, .unset, .unset, .unset, .unset, .unset, .unset, .unset]) at_334 rfl
   replace w := ((((w.iload at_336 rfl).ifNo (pc' := 341) at_338 ((if0 _ _).trans (feq (own_fT q)).1)).aload at_341 rfl).goto at_343).astore (pc' := 350) (L' := #[.val (.int p0), .val (.int p1), .val (.int p2), .val (.int p3), .val (.int p4), .val (.int c1), .val (.ref n1), .val (.ref n2), .val (.ref lk), .val (.ref v1), .val (.ref v2), .val (.ref o1), .val (.ref o2), .val (.int (own_fl G1)), .val (.int (own_fl G2)), .val (.int (own_fl SW)), .val (.int ps), .val (.int (own_fl H1)), .val (.int (own_fl H2)), .val (.int (own_fl EE)), .val (.int (own_fl TL)), .val (.int (own_fl AG)), .val (.ref n2), .val (.ref v2), .val (.int (own_fl G2)), .val (.ref n1), .val (.ref v1), .unset, .unset, .unset, .unset, .unset, .unset, .unset, .unset]) at_348 rfl
   replace w := ((((w.iload at_350 rfl).ifNo (pc' := 355) at_352 ((if0 _ _).trans (feq (own_fT q)).1)).iload at_355 rfl).goto at_357).istore (pc' := 364) (L' := #[.val (.int p0), .val (.int p1), .val (.int p2), .val (.int p3), .val (.int p4), .val (.int c1), .val (.ref n1), .val (.ref n2), .val (.ref lk), .val (.ref v1), .val (.ref v2), .val (.ref o1), .val (.ref o2), .val (.int (own_fl G1)), .val (.int (own_fl G2)), .val (.int (own_fl SW)), .val (.int ps), .val (.int (own_fl H1)), .val (.int (own_fl H2)), .val (.int (own_fl EE)), .val (.int (own_fl TL)), .val (.int (own_fl AG)), .val (.ref n2), .val (.ref v2), .val (.int (own_fl G2)), .val (.ref n1), .val (.ref v1), .val (.int (own_fl G1)), .unset, .unset, .unset, .unset, .unset, .unset, .unset]) at_362 rfl
   have B9 := extR h3
   obtain ⟨h4, ag, g_ag, E4, X_ag, D_ag, S_ag, A4, w⟩ := w.new (wq hw 44 rfl) (wq hw 45 rfl) (wq hw 46 rfl) at_364 nle nle (pc' := 367)
   have ge_ag_Z : Z.heap.size ≤ ag := Nat.le_trans BZ.1 (Nat.le_of_eq g_ag.symm)
   have ge_ag_0 : hh.size ≤ ag := Nat.le_trans B0.1 (Nat.le_of_eq g_ag.symm)
   have ge_ag_1 : h1.size ≤ ag := Nat.le_trans B1.1 (Nat.le_of_eq g_ag.symm)
   have ge_ag_2 : h2.size ≤ ag := Nat.le_trans B2.1 (Nat.le_of_eq g_ag.symm)
   have ge_ag_9 : h3.size ≤ ag := Nat.le_trans B9.1 (Nat.le_of_eq g_ag.symm)
   have F_ag_modCount := D_ag (Or.inl (wq hw 64 rfl)) (ty := .int) (by decide)
   have F_ag_elementData := D_ag (Or.inl (wq hw 67 rfl)) (ty := (.array (.object "java/lang/Object"))) (by decide)
   have F_ag_size := D_ag (Or.inl (wq hw 153 rfl)) (ty := .int) (by decide)
   have BZ := extT BZ E4
   have B0 := extT B0 E4
   have B1 := extT B1 E4
   have B2 := extT B2 E4
   have B9 := extT B9 E4
   replace w := w.dup (pc' := 368) at_367
   obtain ⟨v5, V5, h5, hq5, A5, w⟩ := w.ctor (y' := mN14) (W := 1) (a := ag) (w.pays 1 (rmALi l Z a0 hw hEL dc kd Sd Dd ag h4 w.old X_ag F_ag_elementData F_ag_size F_ag_modCount ge_ag_Z) (wq hw 49 rfl) (wq hw 46 rfl) all0 nle nle) rfl (wq hw 47 rfl) (wq hw 48 rfl) (wq hw 49 rfl) (argsL := []) (rest := [(.ref ag)]) (by decide) pd_7 rfl rfl nlr rfl at_368 nle nle (pc' := 371)
   obtain ⟨rfl, K5, TGa⟩ := hq5
   replace w := w.toS [(.ref ag)]
   have BZ := extK BZ K5 (allS ge_ag_Z all0)
   have B0 := extK B0 K5 (allS ge_ag_0 all0)
   have B1 := extK B1 K5 (allS ge_ag_1 all0)
   have B2 := extK B2 K5 (allS ge_ag_2 all0)
   have B9 := extK B9 K5 (allS ge_ag_9 all0)
   replace w := w.astore (pc' := 373) (L' := #[.val (.int p0), .val (.int p1), .val (.int p2), .val (.int p3), .val (.int p4), .val (.int c1), .val (.ref n1), .val (.ref n2), .val (.ref lk), .val (.ref v1), .val (.ref v2), .val (.ref o1), .val (.ref o2), .val (.int (own_fl G1)), .val (.int (own_fl G2)), .val (.int (own_fl SW)), .val (.int ps), .val (.int (own_fl H1)), .val (.int (own_fl H2)), .val (.int (own_fl EE)), .val (.int (own_fl TL)), .val (.int (own_fl AG)), .val (.ref n2), .val (.ref v2), .val (.int (own_fl G2)), .val (.ref n1), .val (.ref v1), .val (.int (own_fl G1)), .val (.ref ag), .unset, .unset, .unset, .unset, .unset, .unset]) at_371 rfl
   have B8 := extR h5
   obtain ⟨h6, wn, g_wn, E6, X_wn, D_wn, S_wn, A6, w⟩ := w.new (wq hw 44 rfl) (wq hw 45 rfl) (wq hw 46 rfl) at_373 nle nle (pc' := 376)
   have ge_wn_Z : Z.heap.size ≤ wn := Nat.le_trans BZ.1 (Nat.le_of_eq g_wn.symm)
   have ge_wn_0 : hh.size ≤ wn := Nat.le_trans B0.1 (Nat.le_of_eq g_wn.symm)
   have ge_wn_1 : h1.size ≤ wn := Nat.le_trans B1.1 (Nat.le_of_eq g_wn.symm)
   have ge_wn_2 : h2.size ≤ wn := Nat.le_trans B2.1 (Nat.le_of_eq g_wn.symm)
   have ge_wn_9 : h3.size ≤ wn := Nat.le_trans B9.1 (Nat.le_of_eq g_wn.symm)
   have ge_wn_8 : h5.size ≤ wn := Nat.le_trans B8.1 (Nat.le_of_eq g_wn.symm)
   have F_wn_modCount := D_wn (Or.inl (wq hw 64 rfl)) (ty := .int) (by decide)
   have F_wn_elementData := D_wn (Or.inl (wq hw 67 rfl)) (ty := (.array (.object "java/lang/Object"))) (by decide)
   have F_wn_size := D_wn (Or.inl (wq hw 153 rfl)) (ty := .int) (by decide)
   have BZ := extT BZ E6
   have B0 := extT B0 E6
   have B1 := extT B1 E6
   have B2 := extT B2 E6
   have B9 := extT B9 E6
   have B8 := extT B8 E6
   replace w := w.dup (pc' := 377) at_376
   obtain ⟨v7, V7, h7, hq7, A7, w⟩ := w.ctor (y' := mN14) (W := 1) (a := wn) (w.pays 1 (rmALi l Z a0 hw hEL dc kd Sd Dd wn h6 w.old X_wn F_wn_elementData F_wn_size F_wn_modCount ge_wn_Z) (wq hw 49 rfl) (wq hw 46 rfl) all0 nle nle) rfl (wq hw 47 rfl) (wq hw 48 rfl) (wq hw 49 rfl) (argsL := []) (rest := [(.ref wn)]) (by decide) pd_7 rfl rfl nlr rfl at_377 nle nle (pc' := 380)
   obtain ⟨rfl, K7, TGw⟩ := hq7
   replace w := w.toS [(.ref wn)]
   have BZ := extK BZ K7 (allS ge_wn_Z all0)
   have B0 := extK B0 K7 (allS ge_wn_0 all0)
   have B1 := extK B1 K7 (allS ge_wn_1 all0)
   have B2 := extK B2 K7 (allS ge_wn_2 all0)
   have B9 := extK B9 K7 (allS ge_wn_9 all0)
   have B8 := extK B8 K7 (allS ge_wn_8 all0)
   replace w := w.astore (pc' := 382) (L' := #[.val (.int p0), .val (.int p1), .val (.int p2), .val (.int p3), .val (.int p4), .val (.int c1), .val (.ref n1), .val (.ref n2), .val (.ref lk), .val (.ref v1), .val (.ref v2), .val (.ref o1), .val (.ref o2), .val (.int (own_fl G1)), .val (.int (own_fl G2)), .val (.int (own_fl SW)), .val (.int ps), .val (.int (own_fl H1)), .val (.int (own_fl H2)), .val (.int (own_fl EE)), .val (.int (own_fl TL)), .val (.int (own_fl AG)), .val (.ref n2), .val (.ref v2), .val (.int (own_fl G2)), .val (.ref n1), .val (.ref v1), .val (.int (own_fl G1)), .val (.ref ag), .val (.ref wn), .unset, .unset, .unset, .unset, .unset]) at_380 rfl
   have TGa' := TGa.ext B8
   have naw : ag ≠ wn := Nat.ne_of_lt (Nat.lt_of_lt_of_le TGa.1.lt ge_wn_8)
   have TT : LSt Z h7 dc em n1 n2 lk v1 v2 o1 o2 c1 c2 cv1 [b2] [o1c] [o2c] ag dc wn dc [] [] [] := ⟨S1.ext B0, S2.ext B0, Ul.ext B0, U1.ext B0, (U2.ext B1), (V1.ext B2), (V2.ext B9), Or.inl ⟨rfl, rfl, 0, TGa'⟩, Or.inl ⟨rfl, rfl, 0, TGw⟩, naw, Or.inl rfl, (fun u hu => by cases hu), SPr.nil, ge_ag_Z, ge_wn_Z⟩
   exact t382T (items := []) (gs := []) (r1 := none) (r2 := none) ⟨hw, hEL, Sc, hz0, ST, LF, hc1, (by simp), (by simp), (by simp), TT, hn12, hc12, hbin, hlk1, hlk2, trivial, rfl, trivial⟩ oml oml G1 G2 rfl rfl rfl rfl ps H1 H2 EE TL AG (by simp) _ _ _ _ _ _ _ w
 replace w := ((w.ifYes (pc' := 290) at_282 ((if0 _ _).trans (teq (own_fF q)).1)).aload at_290 rfl).astore (pc' := 294) (L' := #[.val (.int p0), .val (.int p1), .val (.int p2), .val (.int p3), .val (.int p4), .val (.int c1), .val (.ref n1), .val (.ref n2), .val (.ref lk), .val (.ref v1), .val (.ref v2), .val (.ref o1), .val (.ref o2), .val (.int (own_fl G1)), .val (.int (own_fl G2)), .val (.int (own_fl SW)), .val (.int ps), .val (.int (own_fl H1)), .val (.int (own_fl H2)), .val (.int (own_fl EE)), .val (.int (own_fl TL)), .val (.int (own_fl AG)), .val (.ref n1), .unset, .unset, .unset, .unset, .unset, .unset, .unset, .unset, .unset, .unset, .unset, .unset]) at_292 rfl
 replace w := (((w.iload at_294 rfl).ifYes (pc' := 304) at_296 ((if0 _ _).trans (teq (own_fF q)).1)).aload at_304 rfl).astore (pc' := 308) (L' := #[.val (.int p0), .val (.int p1), .val (.int p2), .val (.int p3), .val (.int p4), .val (.int c1), .val (.ref n1), .val (.ref n2), .val (.ref lk), .val (.ref v1), .val (.ref v2), .val (.ref o1), .val (.ref o2), .val (.int (own_fl G1)), .val (.int (own_fl G2)), .val (.int (own_fl SW)), .val (.int ps), .val (.int (own_fl H1)), .val (.int (own_fl H2)), .val (.int (own_fl EE)), .val (.int (own_fl TL)), .val (.int (own_fl AG)), .val (.ref n1), .val (.ref v1), .unset, .unset, .unset, .unset, .unset, .unset, .unset, .unset, .unset, .unset, .unset]) at_306 rfl
 replace w := (((w.iload at_308 rfl).ifYes (pc' := 318) at_310 ((if0 _ _).trans (teq (own_fF q)).1)).iload at_318 rfl).istore (pc' := 322) (L' := #[.val (.int p0), .val (.int p1), .val (.int p2), .val (.int p3), .val (.int p4), .val (.int c1), .val (.ref n1), .val (.ref n2), .val (.ref lk), .val (.ref v1), .val (.ref v2), .val (.ref o1), .val (.ref o2), .val (.int (own_fl G1)), .val (.int (own_fl G2)), .val (.int (own_fl SW)), .val (.int ps), .val (.int (own_fl H1)), .val (.int (own_fl H2)), .val (.int (own_fl EE)), .val (.int (own_fl TL)), .val (.int (own_fl AG)), .val (.ref n1), .val (.ref v1), .val (.int (own_fl G1)), .unset, .unset, .unset, .unset, .unset, .unset, .unset, .unset, .unset, .unset]) at_320 rfl
 replace w := (((w.iload at_322 rfl).ifYes (pc' := 332) at_324 ((if0 _ _).trans (teq (own_fF q)).1)).aload at_332 rfl).astore (pc' := 336) (L' := #[.val (.int p0), .val (.int p1), .val (.int p2), .val (.int p3), .val (.int p4), .val (.int c1), .val (.ref n1), .val (.ref n2), .val (.ref lk), .val (.ref v1), .val (.ref v2), .val (.ref o1), .val (.ref o2), .val (.int (own_fl G1)), .val (.int (own_fl G2)), .val (.int (own_fl SW)), .val (.int ps), .val (.int (own_fl H1)), .val (.int (own_fl H2)), .val (.int (own_fl EE)), .val (.int (own_fl TL)), .val (.int (own_fl AG)), .val (.ref n1), .val (.ref v1), .val (.int (own_fl G1)), .val (.ref n2), .unset, .unset, .unset, .unset, .unset, .unset, .unset, .unset, .unset]) at_334 rfl
 replace w := (((w.iload at_336 rfl).ifYes (pc' := 346) at_338 ((if0 _ _).trans (teq (own_fF q)).1)).aload at_346 rfl).astore (pc' := 350) (L' := #[.val (.int p0), .val (.int p1), .val (.int p2), .val (.int p3), .val (.int p4), .val (.int c1), .val (.ref n1), .val (.ref n2), .val (.ref lk), .val (.ref v1), .val (.ref v2), .val (.ref o1), .val (.ref o2), .val (.int (own_fl G1)), .val (.int (own_fl G2)), .val (.int (own_fl SW)), .val (.int ps), .val (.int (own_fl H1)), .val (.int (own_fl H2)), .val (.int (own_fl EE)), .val (.int (own_fl TL)), .val (.int (own_fl AG)), .val (.ref n1), .val (.ref v1), .val (.int (own_fl G1)), .val (.ref n2), .val (.ref v2), .unset, .unset, .unset, .unset, .unset, .unset, .unset, .unset]) at_348 rfl
 replace w := (((w.iload at_350 rfl).ifYes (pc' := 360) at_352 ((if0 _ _).trans (teq (own_fF q)).1)).iload at_360 rfl).istore (pc' := 364) (L' := #[.val (.int p0), .val (.int p1), .val (.int p2), .val (.int p3), .val (.int p4), .val (.int c1), .val (.ref n1), .val (.ref n2), .val (.ref lk), .val (.ref v1), .val (.ref v2), .val (.ref o1), .val (.ref o2), .val (.int (own_fl G1)), .val (.int (own_fl G2)), .val (.int (own_fl SW)), .val (.int ps), .val (.int (own_fl H1)), .val (.int (own_fl H2)), .val (.int (own_fl EE)), .val (.int (own_fl TL)), .val (.int (own_fl AG)), .val (.ref n1), .val (.ref v1), .val (.int (own_fl G1)), .val (.ref n2), .val (.ref v2), .val (.int (own_fl G2)), .unset, .unset, .unset, .unset, .unset, .unset, .unset]) at_362 rfl
 have B9 := extR h3
 obtain ⟨h8, ag, g_ag, E8, X_ag, D_ag, S_ag, A8, w⟩ := w.new (wq hw 44 rfl) (wq hw 45 rfl) (wq hw 46 rfl) at_364 nle nle (pc' := 367)
 have ge_ag_Z : Z.heap.size ≤ ag := Nat.le_trans BZ.1 (Nat.le_of_eq g_ag.symm)
 have ge_ag_0 : hh.size ≤ ag := Nat.le_trans B0.1 (Nat.le_of_eq g_ag.symm)
 have ge_ag_1 : h1.size ≤ ag := Nat.le_trans B1.1 (Nat.le_of_eq g_ag.symm)
 have ge_ag_2 : h2.size ≤ ag := Nat.le_trans B2.1 (Nat.le_of_eq g_ag.symm)
 have ge_ag_9 : h3.size ≤ ag := Nat.le_trans B9.1 (Nat.le_of_eq g_ag.symm)
 have F_ag_modCount := D_ag (Or.inl (wq hw 64 rfl)) (ty := .int) (by decide)
 have F_ag_elementData := D_ag (Or.inl (wq hw 67 rfl)) (ty := (.array (.object "java/lang/Object"))) (by decide)
 have F_ag_size := D_ag (Or.inl (wq hw 153 rfl)) (ty := .int) (by decide)
 have BZ := extT BZ E8
 have B0 := extT B0 E8
 have B1 := extT B1 E8
 have B2 := extT B2 E8
 have B9 := extT B9 E8
 replace w := w.dup (pc' := 368) at_367
 obtain ⟨v9, V9, h9, hq9, A9, w⟩ := w.ctor (y' := mN14) (W := 1) (a := ag) (w.pays 1 (rmALi l Z a0 hw hEL dc kd Sd Dd ag h8 w.old X_ag F_ag_elementData F_ag_size F_ag_modCount ge_ag_Z) (wq hw 49 rfl) (wq hw 46 rfl) all0 nle nle) rfl (wq hw 47 rfl) (wq hw 48 rfl) (wq hw 49 rfl) (argsL := []) (rest := [(.ref ag)]) (by decide) pd_7 rfl rfl nlr rfl at_368 nle nle (pc' := 371)
 obtain ⟨rfl, K9, TGa⟩ := hq9
 replace w := w.toS [(.ref ag)]
 have BZ := extK BZ K9 (allS ge_ag_Z all0)
 have B0 := extK B0 K9 (allS ge_ag_0 all0)
 have B1 := extK B1 K9 (allS ge_ag_1 all0)
 have B2 := extK B2 K9 (allS ge_ag_2 all0)
 have B9 := extK B9 K9 (allS ge_ag_9 all0)
 replace w := w.astore (pc' := 373) (L' := #[.val (.int p0), .val (.int p1), .val (.int p2), .val (.int p3), .val (.int p4), .val (.int c1), .val (.ref n1), .val (.ref n2), .val (.ref lk), .val (.ref v1), .val (.ref v2), .val (.ref o1), .val (.ref o2), .val (.int (own_fl G1)), .val (.int (own_fl G2)), .val (.int (own_fl SW)), .val (.int ps), .val (.int (own_fl H1)), .val (.int (own_fl H2)), .val (.int (own_fl EE)), .val (.int (own_fl TL)), .val (.int (own_fl AG)), .val (.ref n1), .val (.ref v1), .val (.int (own_fl G1)), .val (.ref n2), .val (.ref v2), .val (.int (own_fl G2)), .val (.ref ag), .unset, .unset, .unset, .unset, .unset, .unset]) at_371 rfl
 have B8 := extR h9
 obtain ⟨h10, wn, g_wn, E10, X_wn, D_wn, S_wn, A10, w⟩ := w.new (wq hw 44 rfl) (wq hw 45 rfl) (wq hw 46 rfl) at_373 nle nle (pc' := 376)
 have ge_wn_Z : Z.heap.size ≤ wn := Nat.le_trans BZ.1 (Nat.le_of_eq g_wn.symm)
 have ge_wn_0 : hh.size ≤ wn := Nat.le_trans B0.1 (Nat.le_of_eq g_wn.symm)
 have ge_wn_1 : h1.size ≤ wn := Nat.le_trans B1.1 (Nat.le_of_eq g_wn.symm)
 have ge_wn_2 : h2.size ≤ wn := Nat.le_trans B2.1 (Nat.le_of_eq g_wn.symm)
 have ge_wn_9 : h3.size ≤ wn := Nat.le_trans B9.1 (Nat.le_of_eq g_wn.symm)
 have ge_wn_8 : h9.size ≤ wn := Nat.le_trans B8.1 (Nat.le_of_eq g_wn.symm)
 have F_wn_modCount := D_wn (Or.inl (wq hw 64 rfl)) (ty := .int) (by decide)
 have F_wn_elementData := D_wn (Or.inl (wq hw 67 rfl)) (ty := (.array (.object "java/lang/Object"))) (by decide)
 have F_wn_size := D_wn (Or.inl (wq hw 153 rfl)) (ty := .int) (by decide)
 have B0 := extT B0 E10
 have B1 := extT B1 E10
 have B2 := extT B2 E10
 have B9 := extT B9 E10
 have B8 := extT B8 E10
 replace w := w.dup (pc' := 377) at_376
 obtain ⟨v11, V11, h11, hq11, A11, w⟩ := w.ctor (y' := mN14) (W := 1) (a := wn) (w.pays 1 (rmALi l Z a0 hw hEL dc kd Sd Dd wn h10 w.old X_wn F_wn_elementData F_wn_size F_wn_modCount ge_wn_Z) (wq hw 49 rfl) (wq hw 46 rfl) all0 nle nle) rfl (wq hw 47 rfl) (wq hw 48 rfl) (wq hw 49 rfl) (argsL := []) (rest := [(.ref wn)]) (by decide) pd_7 rfl rfl nlr rfl at_377 nle nle (pc' := 380)
 obtain ⟨rfl, K11, TGw⟩ := hq11
 replace w := w.toS [(.ref wn)]
 have B0 := extK B0 K11 (allS ge_wn_0 all0)
 have B1 := extK B1 K11 (allS ge_wn_1 all0)
 have B2 := extK B2 K11 (allS ge_wn_2 all0)
 have B9 := extK B9 K11 (allS ge_wn_9 all0)
 have B8 := extK B8 K11 (allS ge_wn_8 all0)
 replace w := w.astore (pc' := 382) (L' := #[.val (.int p0), .val (.int p1), .val (.int p2), .val (.int p3), .val (.int p4), .val (.int c1), .val (.ref n1), .val (.ref n2), .val (.ref lk), .val (.ref v1), .val (.ref v2), .val (.ref o1), .val (.ref o2), .val (.int (own_fl G1)), .val (.int (own_fl G2)), .val (.int (own_fl SW)), .val (.int ps), .val (.int (own_fl H1)), .val (.int (own_fl H2)), .val (.int (own_fl EE)), .val (.int (own_fl TL)), .val (.int (own_fl AG)), .val (.ref n1), .val (.ref v1), .val (.int (own_fl G1)), .val (.ref n2), .val (.ref v2), .val (.int (own_fl G2)), .val (.ref ag), .val (.ref wn), .unset, .unset, .unset, .unset, .unset]) at_380 rfl
 have TGa' := TGa.ext B8
 have naw : ag ≠ wn := Nat.ne_of_lt (Nat.lt_of_lt_of_le TGa.1.lt ge_wn_8)
 have TT : LSt Z h11 dc em n1 n2 lk v1 v2 o1 o2 c1 c2 cv1 [b2] [o1c] [o2c] ag dc wn dc [] [] [] := ⟨S1.ext B0, S2.ext B0, Ul.ext B0, U1.ext B0, (U2.ext B1), (V1.ext B2), (V2.ext B9), Or.inl ⟨rfl, rfl, 0, TGa'⟩, Or.inl ⟨rfl, rfl, 0, TGw⟩, naw, Or.inl rfl, (fun u hu => by cases hu), SPr.nil, ge_ag_Z, ge_wn_Z⟩
 exact t382F (items := []) (gs := []) (r1 := none) (r2 := none) ⟨hw, hEL, Sc, hz0, ST, LF, hc1, (by simp), (by simp), (by simp), TT, hn12, hc12, hbin, hlk1, hlk2, trivial, rfl, trivial⟩ oml oml G1 G2 rfl rfl rfl rfl ps H1 H2 EE TL AG (by simp) _ _ _ _ _ _ _ w
theorem rm0 (l : Launch) (Z : State) (a0 : Array Value) (hw : HW Z a0) (hEL : EW Z a0 consts_1) (z0 : Int32) (Sc : SC Z z0) (hz0 : ¬ z0 = 0) {dc : Addr} {kd : ClassId} {es el em mr le : Addr} {kl : ClassId} (ST : Stt Z dc kd es el em mr le kl) {f : Addr} {cK cS : ClassId} {methk : Method} {ck : Code} (LF : Lam Z f cK cS methk ck) (p0 p1 p2 p3 p4 : Int32) :
   Met l Z consts_1 x code maxLocals ret tables_1 room_1 #[.int p0, .int p1, .int p2, .int p3, .int p4] Z.heap [] (fun v h => v = some (.int 1)) := by
 obtain ⟨Sd, Dd, Xd, Ss, Xs, Fz, Sl, Xl, Fe0, Al0, Fn0, Se, Xe, Mr⟩ := id ST
 refine Met.of (a0 := a0) (by decide +kernel) hEL (extR _) ?_
 intro p e s m below meth c S0 V w hs hsf
 have hstr := own_hstr hw
 replace w := w.to (g' := mkF m 0 #[.val (.int p0), .val (.int p1), .val (.int p2), .val (.int p3), .val (.int p4), .unset, .unset, .unset, .unset, .unset, .unset, .unset, .unset, .unset, .unset, .unset, .unset, .unset, .unset, .unset, .unset, .unset, .unset, .unset, .unset, .unset, .unset, .unset, .unset, .unset, .unset, .unset, .unset, .unset, .unset] []) (by first | (simp [entryFrame, mkF, argsToLocals, Value.category, maxLocals]; done) | rfl)
 have BZ := w.old
 replace w := (((w.iloadN at_0 rfl).sipush (255 : Int32) at_1).iand at_4).i2c (pc' := 6) at_5
 rw [i2c_mask] at w
 obtain ⟨c1, hc1e⟩ : ∃ z, z = (p1 &&& (255 : Int32)) := ⟨_, rfl⟩
 rw [← hc1e] at w
 have r1 : ¬ c1 < 0 ∧ ¬ (255 : Int32) < c1 := by rw [hc1e]; exact and255 _
 have nr1 : nar .char c1 = c1 := by rw [hc1e]; exact nar255 _
 obtain ⟨r2, nr2, hc12, hbin⟩ := own_x1is r1
 replace w := w.istore (pc' := 8) (L' := #[.val (.int p0), .val (.int p1), .val (.int p2), .val (.int p3), .val (.int p4), .val (.int c1), .unset, .unset, .unset, .unset, .unset, .unset, .unset, .unset, .unset, .unset, .unset, .unset, .unset, .unset, .unset, .unset, .unset, .unset, .unset, .unset, .unset, .unset, .unset, .unset, .unset, .unset, .unset, .unset, .unset]) at_6 rfl
 obtain ⟨h1, n1, g_n1, E1, X_n1, D_n1, S_n1, A1, w⟩ := w.new (wq hw 0 rfl) (wq hw 1 rfl) (wq hw 2 rfl) at_8 nle nle (pc' := 11)
 have lt_n1 : n1 < h1.size := X_n1.lt
 have ge_n1_Z : Z.heap.size ≤ n1 := Nat.le_trans BZ.1 (Nat.le_of_eq g_n1.symm)
 have F_n1_coder := D_n1 (Or.inr (wq hw 27 rfl)) (ty := .byte) (by decide)
 have F_n1_value := D_n1 (Or.inr (wq hw 29 rfl)) (ty := (.array .byte)) (by decide)
 have F_n1_hash := D_n1 (Or.inl (wq hw 449 rfl)) (ty := .int) (by decide)
 have F_n1_hashIsZero := D_n1 (Or.inl (wq hw 451 rfl)) (ty := .boolean) (by decide)
 have BZ := extT BZ E1
 have B1 := extR h1
 have C1 := CHr.refl w.ch
 replace w := (w.dup at_11).iconst (pc' := 13) (3 : Int32) at_12
 obtain ⟨h2, b1, k_b1, g_b1, E2, V_b1, S_b1, A2, w⟩ := w.newarr (cap := 3) (wq hw 3 rfl) at_13 (by decide) (by decide) nle nle (pc' := 15)
 have ge_b1_Z : Z.heap.size ≤ b1 := Nat.le_trans BZ.1 (Nat.le_of_eq g_b1.symm)
 have ge_b1_1 : h1.size ≤ b1 := Nat.le_trans B1.1 (Nat.le_of_eq g_b1.symm)
 have BZ := extT BZ E2
 have B1 := extT B1 E2
 have C1 := C1.trans A2
 replace V_b1 := V_b1.pad (vs' := [(.int (0 : Int32)), (.int (0 : Int32)), (.int (0 : Int32))]) (pad_rep [] _ 3)
 replace w := ((w.dup at_15).iconst (0 : Int32) at_16).bipush (pc' := 19) (45 : Int32) at_17
 obtain ⟨h3, K3, V_b1, A3, w⟩ := w.castore (x' := (45 : Int32)) V_b1 at_19 ⟨by decide, by decide⟩ (by decide) 0 rfl nle ge_b1_Z (pc' := 20)
 replace V_b1 := V_b1.pad (vs' := [(.int (45 : Int32)), (.int (0 : Int32)), (.int (0 : Int32))]) (fun _ => rfl)
 have BZ := extK BZ K3 (allS ge_b1_Z all0)
 have B1 := extK B1 K3 (allS ge_b1_1 all0)
 have C1 := C1.trans A3
 replace w := ((w.dup at_20).iconst (1 : Int32) at_21).bipush (pc' := 24) (45 : Int32) at_22
 obtain ⟨h4, K4, V_b1, A4, w⟩ := w.castore (x' := (45 : Int32)) V_b1 at_24 ⟨by decide, by decide⟩ (by decide) 1 rfl nle ge_b1_Z (pc' := 25)
 replace V_b1 := V_b1.pad (vs' := [(.int (45 : Int32)), (.int (45 : Int32)), (.int (0 : Int32))]) (fun _ => rfl)
 have BZ := extK BZ K4 (allS ge_b1_Z all0)
 have B1 := extK B1 K4 (allS ge_b1_1 all0)
 have C1 := C1.trans A4
 replace w := ((w.dup at_25).iconst (2 : Int32) at_26).iload (pc' := 29) at_27 rfl
 obtain ⟨h5, K5, V_b1, A5, w⟩ := w.castore (x' := c1) V_b1 at_29 ⟨by decide, by decide⟩ nr1 2 rfl nle ge_b1_Z (pc' := 30)
 replace V_b1 := V_b1.pad (vs' := [(.int (45 : Int32)), (.int (45 : Int32)), (.int c1)]) (fun _ => rfl)
 have BZ := extK BZ K5 (allS ge_b1_Z all0)
 have B1 := extK B1 K5 (allS ge_b1_1 all0)
 have C1 := C1.trans A5
 have Sx := C1.safe lt_n1 S_n1
 obtain ⟨v6, V6, h6, hq6, A6, w⟩ := w.ctor (y' := mN78) (W := 1) (a := n1) (w.pays 1 (rmI13 l Z a0 hw hEL z0 Sc hz0 n1 b1 k_b1 _ 45 45 c1 own_r45 own_r45 r1 h5 w.old V_b1 (X_n1.ext B1) (F_n1_value.ext B1) (F_n1_coder.ext B1) (F_n1_hash.ext B1) (F_n1_hashIsZero.ext B1) ge_n1_Z) (wq hw 6 rfl) (wq hw 2 rfl) (allS Sx all0) nle nle) rfl (wq hw 4 rfl) (wq hw 5 rfl) (wq hw 6 rfl) (argsL := [(.ref b1)]) (rest := [(.ref n1)]) (by decide) pd_56 rfl rfl nlr rfl at_30 nle nle (pc' := 33)
 obtain ⟨rfl, K6, S_n13⟩ := hq6
 replace w := w.toS [(.ref n1)]
 have BZ := extK BZ K6 (allS ge_n1_Z all0)
 have B4 := extR h6
 replace w := w.astore (pc' := 35) (L' := #[.val (.int p0), .val (.int p1), .val (.int p2), .val (.int p3), .val (.int p4), .val (.int c1), .val (.ref n1), .unset, .unset, .unset, .unset, .unset, .unset, .unset, .unset, .unset, .unset, .unset, .unset, .unset, .unset, .unset, .unset, .unset, .unset, .unset, .unset, .unset, .unset, .unset, .unset, .unset, .unset, .unset, .unset]) at_33 rfl
 obtain ⟨h7, n2, g_n2, E7, X_n2, D_n2, S_n2, A7, w⟩ := w.new (wq hw 0 rfl) (wq hw 1 rfl) (wq hw 2 rfl) at_35 nle nle (pc' := 38)
 have lt_n2 : n2 < h7.size := X_n2.lt
 have ge_n2_Z : Z.heap.size ≤ n2 := Nat.le_trans BZ.1 (Nat.le_of_eq g_n2.symm)
 have ge_n2_4 : h6.size ≤ n2 := Nat.le_trans B4.1 (Nat.le_of_eq g_n2.symm)
 have F_n2_coder := D_n2 (Or.inr (wq hw 27 rfl)) (ty := .byte) (by decide)
 have F_n2_value := D_n2 (Or.inr (wq hw 29 rfl)) (ty := (.array .byte)) (by decide)
 have F_n2_hash := D_n2 (Or.inl (wq hw 449 rfl)) (ty := .int) (by decide)
 have F_n2_hashIsZero := D_n2 (Or.inl (wq hw 451 rfl)) (ty := .boolean) (by decide)
 have BZ := extT BZ E7
 have B4 := extT B4 E7
 have B1 := extR h7
 have C1 := CHr.refl w.ch
 replace w := (w.dup at_38).iconst (pc' := 40) (3 : Int32) at_39
 obtain ⟨h8, b2, k_b2, g_b2, E8, V_b2, S_b2, A8, w⟩ := w.newarr (cap := 3) (wq hw 3 rfl) at_40 (by decide) (by decide) nle nle (pc' := 42)
 have ge_b2_Z : Z.heap.size ≤ b2 := Nat.le_trans BZ.1 (Nat.le_of_eq g_b2.symm)
 have ge_b2_4 : h6.size ≤ b2 := Nat.le_trans B4.1 (Nat.le_of_eq g_b2.symm)
 have ge_b2_1 : h7.size ≤ b2 := Nat.le_trans B1.1 (Nat.le_of_eq g_b2.symm)
 have BZ := extT BZ E8
 have B4 := extT B4 E8
 have B1 := extT B1 E8
 have C1 := C1.trans A8
 replace V_b2 := V_b2.pad (vs' := [(.int (0 : Int32)), (.int (0 : Int32)), (.int (0 : Int32))]) (pad_rep [] _ 3)
 replace w := ((w.dup at_42).iconst (0 : Int32) at_43).bipush (pc' := 46) (45 : Int32) at_44
 obtain ⟨h9, K9, V_b2, A9, w⟩ := w.castore (x' := (45 : Int32)) V_b2 at_46 ⟨by decide, by decide⟩ (by decide) 0 rfl nle ge_b2_Z (pc' := 47)
 replace V_b2 := V_b2.pad (vs' := [(.int (45 : Int32)), (.int (0 : Int32)), (.int (0 : Int32))]) (fun _ => rfl)
 have BZ := extK BZ K9 (allS ge_b2_Z all0)
 have B4 := extK B4 K9 (allS ge_b2_4 all0)
 have B1 := extK B1 K9 (allS ge_b2_1 all0)
 have C1 := C1.trans A9
 replace w := ((w.dup at_47).iconst (1 : Int32) at_48).bipush (pc' := 51) (45 : Int32) at_49
 obtain ⟨h10, K10, V_b2, A10, w⟩ := w.castore (x' := (45 : Int32)) V_b2 at_51 ⟨by decide, by decide⟩ (by decide) 1 rfl nle ge_b2_Z (pc' := 52)
 replace V_b2 := V_b2.pad (vs' := [(.int (45 : Int32)), (.int (45 : Int32)), (.int (0 : Int32))]) (fun _ => rfl)
 have BZ := extK BZ K10 (allS ge_b2_Z all0)
 have B4 := extK B4 K10 (allS ge_b2_4 all0)
 have B1 := extK B1 K10 (allS ge_b2_1 all0)
 have C1 := C1.trans A10
 replace w := (((((w.dup at_52).iconst (2 : Int32) at_53).iload at_54 rfl).iconst (1 : Int32) at_56).ixor at_57).i2c (pc' := 59) at_58
 change Wk _ _ _ _ _ _ _ _ _ _ _ _ _ _ _ _ _ _ _ _ _ _ (mkF m 59 _ (.int (own_x1 c1) :: _)) at w
 obtain ⟨h11, K11, V_b2, A11, w⟩ := w.castore (x' := (own_x1 c1)) V_b2 at_59 ⟨by decide, by decide⟩ nr2 2 rfl nle ge_b2_Z (pc' := 60)
 replace V_b2 := V_b2.pad (vs' := [(.int (45 : Int32)), (.int (45 : Int32)), (.int (own_x1 c1))]) (fun _ => rfl)
 have BZ := extK BZ K11 (allS ge_b2_Z all0)
 have B4 := extK B4 K11 (allS ge_b2_4 all0)
 have B1 := extK B1 K11 (allS ge_b2_1 all0)
 have C1 := C1.trans A11
 have Sx := C1.safe lt_n2 S_n2
 obtain ⟨v12, V12, h12, hq12, A12, w⟩ := w.ctor (y' := mN78) (W := 1) (a := n2) (w.pays 1 (rmI13 l Z a0 hw hEL z0 Sc hz0 n2 b2 k_b2 _ 45 45 (own_x1 c1) own_r45 own_r45 r2 h11 w.old V_b2 (X_n2.ext B1) (F_n2_value.ext B1) (F_n2_coder.ext B1) (F_n2_hash.ext B1) (F_n2_hashIsZero.ext B1) ge_n2_Z) (wq hw 6 rfl) (wq hw 2 rfl) (allS Sx all0) nle nle) rfl (wq hw 4 rfl) (wq hw 5 rfl) (wq hw 6 rfl) (argsL := [(.ref b2)]) (rest := [(.ref n2)]) (by decide) pd_56 rfl rfl nlr rfl at_60 nle nle (pc' := 63)
 obtain ⟨rfl, K12, S_n23⟩ := hq12
 replace w := w.toS [(.ref n2)]
 have BZ := extK BZ K12 (allS ge_n2_Z all0)
 have B4 := extK B4 K12 (allS ge_n2_4 all0)
 have B5 := extR h12
 replace w := w.astore (pc' := 65) (L' := #[.val (.int p0), .val (.int p1), .val (.int p2), .val (.int p3), .val (.int p4), .val (.int c1), .val (.ref n1), .val (.ref n2), .unset, .unset, .unset, .unset, .unset, .unset, .unset, .unset, .unset, .unset, .unset, .unset, .unset, .unset, .unset, .unset, .unset, .unset, .unset, .unset, .unset, .unset, .unset, .unset, .unset, .unset, .unset]) at_63 rfl
 obtain ⟨h13, lk, g_lk, E13, X_lk, D_lk, S_lk, A13, w⟩ := w.new (wq hw 0 rfl) (wq hw 1 rfl) (wq hw 2 rfl) at_65 nle nle (pc' := 68)
 have lt_lk : lk < h13.size := X_lk.lt
 have ge_lk_Z : Z.heap.size ≤ lk := Nat.le_trans BZ.1 (Nat.le_of_eq g_lk.symm)
 have ge_lk_4 : h6.size ≤ lk := Nat.le_trans B4.1 (Nat.le_of_eq g_lk.symm)
 have ge_lk_5 : h12.size ≤ lk := Nat.le_trans B5.1 (Nat.le_of_eq g_lk.symm)
 have F_lk_coder := D_lk (Or.inr (wq hw 27 rfl)) (ty := .byte) (by decide)
 have F_lk_value := D_lk (Or.inr (wq hw 29 rfl)) (ty := (.array .byte)) (by decide)
 have F_lk_hash := D_lk (Or.inl (wq hw 449 rfl)) (ty := .int) (by decide)
 have F_lk_hashIsZero := D_lk (Or.inl (wq hw 451 rfl)) (ty := .boolean) (by decide)
 have BZ := extT BZ E13
 have B4 := extT B4 E13
 have B5 := extT B5 E13
 have B1 := extR h13
 have C1 := CHr.refl w.ch
 replace w := (w.dup at_68).iconst (pc' := 70) (3 : Int32) at_69
 obtain ⟨h14, b3, k_b3, g_b3, E14, V_b3, S_b3, A14, w⟩ := w.newarr (cap := 3) (wq hw 3 rfl) at_70 (by decide) (by decide) nle nle (pc' := 72)
 have ge_b3_Z : Z.heap.size ≤ b3 := Nat.le_trans BZ.1 (Nat.le_of_eq g_b3.symm)
 have ge_b3_4 : h6.size ≤ b3 := Nat.le_trans B4.1 (Nat.le_of_eq g_b3.symm)
 have ge_b3_5 : h12.size ≤ b3 := Nat.le_trans B5.1 (Nat.le_of_eq g_b3.symm)
 have ge_b3_1 : h13.size ≤ b3 := Nat.le_trans B1.1 (Nat.le_of_eq g_b3.symm)
 have BZ := extT BZ E14
 have B4 := extT B4 E14
 have B5 := extT B5 E14
 have B1 := extT B1 E14
 have C1 := C1.trans A14
 replace V_b3 := V_b3.pad (vs' := [(.int (0 : Int32)), (.int (0 : Int32)), (.int (0 : Int32))]) (pad_rep [] _ 3)
 replace w := ((w.dup at_72).iconst (0 : Int32) at_73).bipush (pc' := 76) (45 : Int32) at_74
 obtain ⟨h15, K15, V_b3, A15, w⟩ := w.castore (x' := (45 : Int32)) V_b3 at_76 ⟨by decide, by decide⟩ (by decide) 0 rfl nle ge_b3_Z (pc' := 77)
 replace V_b3 := V_b3.pad (vs' := [(.int (45 : Int32)), (.int (0 : Int32)), (.int (0 : Int32))]) (fun _ => rfl)
 have BZ := extK BZ K15 (allS ge_b3_Z all0)
 have B4 := extK B4 K15 (allS ge_b3_4 all0)
 have B5 := extK B5 K15 (allS ge_b3_5 all0)
 have B1 := extK B1 K15 (allS ge_b3_1 all0)
 have C1 := C1.trans A15
 replace w := ((w.dup at_77).iconst (1 : Int32) at_78).bipush (pc' := 81) (45 : Int32) at_79
 obtain ⟨h16, K16, V_b3, A16, w⟩ := w.castore (x' := (45 : Int32)) V_b3 at_81 ⟨by decide, by decide⟩ (by decide) 1 rfl nle ge_b3_Z (pc' := 82)
 replace V_b3 := V_b3.pad (vs' := [(.int (45 : Int32)), (.int (45 : Int32)), (.int (0 : Int32))]) (fun _ => rfl)
 have BZ := extK BZ K16 (allS ge_b3_Z all0)
 have B4 := extK B4 K16 (allS ge_b3_4 all0)
 have B5 := extK B5 K16 (allS ge_b3_5 all0)
 have B1 := extK B1 K16 (allS ge_b3_1 all0)
 have C1 := C1.trans A16
 replace w := ((w.dup at_82).iconst (2 : Int32) at_83).iload (pc' := 86) at_84 rfl
 obtain ⟨h17, K17, V_b3, A17, w⟩ := w.castore (x' := c1) V_b3 at_86 ⟨by decide, by decide⟩ nr1 2 rfl nle ge_b3_Z (pc' := 87)
 replace V_b3 := V_b3.pad (vs' := [(.int (45 : Int32)), (.int (45 : Int32)), (.int c1)]) (fun _ => rfl)
 have BZ := extK BZ K17 (allS ge_b3_Z all0)
 have B4 := extK B4 K17 (allS ge_b3_4 all0)
 have B5 := extK B5 K17 (allS ge_b3_5 all0)
 have B1 := extK B1 K17 (allS ge_b3_1 all0)
 have C1 := C1.trans A17
 have Sx := C1.safe lt_lk S_lk
 obtain ⟨v18, V18, h18, hq18, A18, w⟩ := w.ctor (y' := mN78) (W := 1) (a := lk) (w.pays 1 (rmI13 l Z a0 hw hEL z0 Sc hz0 lk b3 k_b3 _ 45 45 c1 own_r45 own_r45 r1 h17 w.old V_b3 (X_lk.ext B1) (F_lk_value.ext B1) (F_lk_coder.ext B1) (F_lk_hash.ext B1) (F_lk_hashIsZero.ext B1) ge_lk_Z) (wq hw 6 rfl) (wq hw 2 rfl) (allS Sx all0) nle nle) rfl (wq hw 4 rfl) (wq hw 5 rfl) (wq hw 6 rfl) (argsL := [(.ref b3)]) (rest := [(.ref lk)]) (by decide) pd_56 rfl rfl nlr rfl at_87 nle nle (pc' := 90)
 obtain ⟨rfl, K18, S_lk3⟩ := hq18
 replace w := w.toS [(.ref lk)]
 have BZ := extK BZ K18 (allS ge_lk_Z all0)
 have B4 := extK B4 K18 (allS ge_lk_4 all0)
 have B5 := extK B5 K18 (allS ge_lk_5 all0)
 have B6 := extR h18
 replace w := w.astore (pc' := 92) (L' := #[.val (.int p0), .val (.int p1), .val (.int p2), .val (.int p3), .val (.int p4), .val (.int c1), .val (.ref n1), .val (.ref n2), .val (.ref lk), .unset, .unset, .unset, .unset, .unset, .unset, .unset, .unset, .unset, .unset, .unset, .unset, .unset, .unset, .unset, .unset, .unset, .unset, .unset, .unset, .unset, .unset, .unset, .unset, .unset, .unset]) at_90 rfl
 have K1' := Key.ext B4 (⟨0, Or.inl rfl, S_n13, ge_n1_Z⟩ : Key Z _ n1 c1)
 have K2' := Key.ext B5 (⟨0, Or.inl rfl, S_n23, ge_n2_Z⟩ : Key Z _ n2 (own_x1 c1))
 have hn12 : n1 ≠ n2 := Nat.ne_of_lt (Nat.lt_of_lt_of_le S_n13.1.exa.lt ge_n2_4)
 have hlk1 : lk ≠ n1 := Nat.ne_of_gt (Nat.lt_of_lt_of_le S_n13.1.exa.lt ge_lk_4)
 have hlk2 : lk ≠ n2 := Nat.ne_of_gt (Nat.lt_of_lt_of_le S_n23.1.exa.lt ge_lk_5)
 replace w := ((w.iloadN at_92 rfl).sipush (1024 : Int32) at_93).iand (pc' := 97) at_96
 obtain ⟨md, hmd⟩ : ∃ z, z = (p0 &&& (1024 : Int32)) := ⟨_, rfl⟩
 rw [← hmd] at w
 by_cases q : md = 0
 ·
   replace w := ((((w.ifYes (pc' := 113) at_97 ((if0 _ _).trans (teq q).1)).iloadN at_113 rfl).sipush (255 : Int32) at_114).iand at_117).i2c (pc' := 119) at_118
   rw [i2c_mask] at w
   obtain ⟨vb, hvb⟩ : ∃ z, z = (p2 &&& (255 : Int32)) := ⟨_, rfl⟩
   rw [← hvb] at w
   have rvb : ¬ vb < 0 ∧ ¬ (255 : Int32) < vb := by rw [hvb]; exact and255 _
   obtain ⟨v19, V19, h19, hq19, A19, w⟩ := w.static (y' := mN82) (W := 0) (w.pays 0 (rmVO l Z a0 hw hEL z0 Sc hz0 vb rvb h18 w.old) (wq hw 32 rfl) (wq hw 2 rfl) all0 nle nle) (wq hw 30 rfl) (wq hw 31 rfl) (wq hw 2 rfl) (wq hw 32 rfl) (argsL := [(.int vb)]) (rest := []) (by decide) pd_55 rfl rfl nlr rfl at_119 nle nle (pc' := 122)
   obtain ⟨v1, rfl, E19, U1⟩ := hq19
   replace w := w.toS [(.ref v1)]
   have BZ := extT BZ E19
   have B4 := extT B4 E19
   have B5 := extT B5 E19
   have B6 := extT B6 E19
   exact t122 l Z a0 hw hEL z0 Sc hz0 ST LF _ p0 p1 p2 p3 p4 c1 (own_x1 c1) n1 n2 lk v1 [vb] (by simp) (K1'.ext E19) (K2'.ext E19) (S_lk3.1.ext B6) U1 hn12 hc12 hbin hlk1 hlk2 (w.more nle nle)
 replace w := w.ifNo (pc' := 100) at_97 ((if0 _ _).trans (feq q).1)
 obtain ⟨h20, v1, g_v1, E20, X_v1, D_v1, S_v1, A20, w⟩ := w.new (wq hw 0 rfl) (wq hw 1 rfl) (wq hw 2 rfl) at_100 nle nle (pc' := 103)
 have lt_v1 : v1 < h20.size := X_v1.lt
 have ge_v1_Z : Z.heap.size ≤ v1 := Nat.le_trans BZ.1 (Nat.le_of_eq g_v1.symm)
 have ge_v1_4 : h6.size ≤ v1 := Nat.le_trans B4.1 (Nat.le_of_eq g_v1.symm)
 have ge_v1_5 : h12.size ≤ v1 := Nat.le_trans B5.1 (Nat.le_of_eq g_v1.symm)
 have ge_v1_6 : h18.size ≤ v1 := Nat.le_trans B6.1 (Nat.le_of_eq g_v1.symm)
 have F_v1_coder := D_v1 (Or.inr (wq hw 27 rfl)) (ty := .byte) (by decide)
 have F_v1_value := D_v1 (Or.inr (wq hw 29 rfl)) (ty := (.array .byte)) (by decide)
 have BZ := extT BZ E20
 have B4 := extT B4 E20
 have B5 := extT B5 E20
 have B6 := extT B6 E20
 have B1 := extR h20
 have C1 := CHr.refl w.ch
 replace w := (w.dup at_103).iconst (pc' := 105) (0 : Int32) at_104
 obtain ⟨h21, b4, k_b4, g_b4, E21, V_b4, S_b4, A21, w⟩ := w.newarr (cap := 0) (wq hw 3 rfl) at_105 (by decide) (by decide) nle nle (pc' := 107)
 have ge_b4_Z : Z.heap.size ≤ b4 := Nat.le_trans BZ.1 (Nat.le_of_eq g_b4.symm)
 have ge_b4_4 : h6.size ≤ b4 := Nat.le_trans B4.1 (Nat.le_of_eq g_b4.symm)
 have ge_b4_5 : h12.size ≤ b4 := Nat.le_trans B5.1 (Nat.le_of_eq g_b4.symm)
 have ge_b4_6 : h18.size ≤ b4 := Nat.le_trans B6.1 (Nat.le_of_eq g_b4.symm)
 have ge_b4_1 : h20.size ≤ b4 := Nat.le_trans B1.1 (Nat.le_of_eq g_b4.symm)
 have B4 := extT B4 E21
 have B5 := extT B5 E21
 have B6 := extT B6 E21
 have B1 := extT B1 E21
 have C1 := C1.trans A21
 replace V_b4 := V_b4.pad (vs' := []) (pad_rep [] _ 0)
 have Sx := C1.safe lt_v1 S_v1
 obtain ⟨v22, V22, h22, hq22, A22, w⟩ := w.ctor (y' := mN78) (W := 1) (a := v1) (w.pays 1 (rmI1 l Z a0 hw hEL v1 b4 k_b4 _ h21 w.old (X_v1.ext B1) (F_v1_value.ext B1) (F_v1_coder.ext B1) ge_v1_Z V_b4) (wq hw 6 rfl) (wq hw 2 rfl) (allS Sx all0) nle nle) rfl (wq hw 4 rfl) (wq hw 5 rfl) (wq hw 6 rfl) (argsL := [(.ref b4)]) (rest := [(.ref v1)]) (by decide) pd_56 rfl rfl nlr rfl at_107 nle nle (pc' := 110)
 obtain ⟨rfl, K22, U1⟩ := hq22
 replace w := w.toS [(.ref v1)]
 have B4 := extK B4 K22 (allS ge_v1_4 all0)
 have B5 := extK B5 K22 (allS ge_v1_5 all0)
 have B6 := extK B6 K22 (allS ge_v1_6 all0)
 replace w := w.goto (pc' := 122) at_110
 exact t122 l Z a0 hw hEL z0 Sc hz0 ST LF _ p0 p1 p2 p3 p4 c1 (own_x1 c1) n1 n2 lk v1 [] (by simp) (Key.ext B4 (⟨0, Or.inl rfl, S_n13, ge_n1_Z⟩ : Key Z _ n1 c1)) (Key.ext B5 (⟨0, Or.inl rfl, S_n23, ge_n2_Z⟩ : Key Z _ n2 (own_x1 c1))) (S_lk3.1.ext B6) U1 hn12 hc12 hbin hlk1 hlk2 (w.more nle nle)
theorem own_fldE {Z : State} {args : Array Value} {t : Term} {a : Addr} {C n d : String} {v : Value} (ev : t.eval args Z none [] Z = some (.ref a)) (h : (Term.field t C n d).eval args Z none [] Z = some v) : Fld Z Z.heap a C n d v := Fld.start (by rw [fld_at ev] at h; exact h)
set_option maxHeartbeats 40000000 in
theorem comes_1 {Post : Tables → Env → Array Value → State → Outcome → State → Prop} (hpost : ∀ tb e args s v u, (limb_1_1.after args s (.returned v) u = true ∧ limb_1_2.after args s (.returned v) u = true ∧ True) → FramedW s (.returned v) u (Jvm.fieldLocs frame_1_writes args s ++ Jvm.arrayLocs frame_1_arrays args s ++ Jvm.staticLocs frame_1_statics s) 112 4608 → Post tb e args s (.returned v) u) :
   ArmFor flags0 classFile x code maxLocals ret World_1 tables_1 room_1 Calls_1 rest_1 Pre_1 Post := by
 intro l hfl _ _ p e ha hc hk s m args below hf hA hF happ hP
 obtain ⟨hcalls, hrest, hpre⟩ := hP
 obtain ⟨-, -, -, hnamed, -, -, -, hat⟩ := (Spec.applies_iff hf).mp happ
 obtain ⟨hg, hn⟩ := and_e (Cond.before_iff.mp (show (Jvm.Cond.and given_1 narrow_1).before args s = true from hpre))
 obtain ⟨hcount, g0⟩ := and_e hg
 obtain ⟨g0, g1⟩ := and_e g0
 obtain ⟨g1, g2⟩ := and_e g1
 obtain ⟨g2, g3⟩ := and_e g2
 obtain ⟨g3, g4⟩ := and_e g3
 obtain ⟨w0, w1, w2, w3, w4, rfl⟩ : ∃ w0 w1 w2 w3 w4 : Value, args = #[w0, w1, w2, w3, w4] := by
   have hs : args.size = 5 := by simpa [Cond.value, given_1] using hcount
   obtain ⟨L⟩ := args
   match L, hs with
   | [w0, w1, w2, w3, w4], _ => exact ⟨w0, w1, w2, w3, w4, rfl⟩
 have hw := fun d (hd : d ∈ tables_1) => atoms_spec (ws := Jvm.Cond.code x code maxLocals ret :: tables_1) hat d (List.mem_cons_of_mem _ hd)
 obtain ⟨hsets, hown0⟩ := atoms_of _ (rest_1_c_eq ▸ (show rest_1_c.before _ s = true from hrest))
 have hfit : Fit s := fun {y c} hc i hi => by
   obtain ⟨ha, rfl⟩ := Array.getElem?_eq_some_iff.mp hc
   have q := List.all_eq_true.mp ((Array.all_eq_true_iff_forall_mem.mp hF) _ (Array.getElem_mem ha)) i (List.mem_range.mpr hi)
   simpa [Array.getElem?_eq_getElem hi] using q
 have n5 := not_v (Cond.before_iff.mp (hsets _ (List.mem_of_getElem? (i := 2) rfl)))
 obtain ⟨i0, e0⟩ := is_v g0
 obtain rfl : w0 = (.int i0) := Option.some.inj e0
 obtain ⟨i1, e1⟩ := is_v g1
 obtain rfl : w1 = (.int i1) := Option.some.inj e1
 obtain ⟨i2, e2⟩ := is_v g2
 obtain rfl : w2 = (.int i2) := Option.some.inj e2
 obtain ⟨i3, e3⟩ := is_v g3
 obtain rfl : w3 = (.int i3) := Option.some.inj e3
 obtain ⟨i4, e4⟩ := is_v g4
 obtain rfl : w4 = (.int i4) := Option.some.inj e4
 obtain ⟨z0, ez⟩ := is_v (Cond.before_iff.mp (hsets _ (List.mem_of_getElem? (i := 1) rfl)))
 have Sc : Sta s s.heap "java/lang/String" "COMPACT_STRINGS" "Z" (.int z0) := Sta.start ez (Or.inl (hsets _ (List.mem_of_getElem? (i := 0) rfl)))
 have hz0 : ¬ (z0 = (0 : Int32)) := gotF (Cond.eq_ints ez (Term.int_eval (0))) n5
 obtain ⟨fm, ef, rfm⟩ := isR_v (Cond.before_iff.mp (hsets _ (List.mem_of_getElem? (i := 8) rfl)))
 have Sf : Sta s s.heap "jdk/internal/util/Preconditions" "SIOOBE_FORMATTER" "Ljava/util/function/BiFunction;" fm := Sta.start ef (Or.inl (hsets _ (List.mem_of_getElem? (i := 7) rfl)))
 have hEL : EW s #[.int i0, .int i1, .int i2, .int i3, .int i4] consts_1 := (EW.cons (wq hw 381 rfl) (by decide) (EW.cons (wq hw 566 rfl) (by decide) (EW.cons (wq hw 110 rfl) (by decide) (EW.cons (wq hw 576 rfl) (by decide) EW.nil))))
 have hCH : CHv s consts_1 s.vm s.heap := CHv.start hEL (fun q hq => hcalls.2.1 q hq) (hsets _ (List.mem_of_getElem? (i := 2) rfl)) (wq hw 19 rfl) (wq hw 1 rfl)
 have wv := fun (i : Nat) (d : Jvm.Cond) (q : jdkStatics_1[i]? = some d) => Cond.before_iff.mp (hsets d (List.mem_of_getElem? q))
 obtain ⟨dc, ed⟩ := exa_v (wv 16 _ rfl)
 obtain ⟨es, ee⟩ := exa_v (wv 20 _ rfl)
 obtain ⟨el, el'⟩ := exa_v (wv 27 _ rfl)
 obtain ⟨em, em'⟩ := exa_v (wv 34 _ rfl)
 obtain ⟨le, eel⟩ := exa_v (wv 29 _ rfl)
 obtain ⟨kd, Ad⟩ := own_arr0 hfit [] .null ed (wv 15 _ rfl) (wv 17 _ rfl) (by decide) rfl (fun i v hv => by cases i <;> cases hv)
 obtain ⟨kl, Al⟩ := own_arr0 hfit [] .null eel (wv 28 _ rfl) (wv 30 _ rfl) (by decide) rfl (fun i v hv => by cases i <;> cases hv)
 obtain ⟨cM, kM, mr, hM1, hM2, hM3, -⟩ := hcalls.1
 have ST : Stt s dc kd es el em mr le kl := ⟨Sta.start ed (Or.inr ⟨(wq hw 46 rfl), hsets _ (List.mem_of_getElem? (i := 11) rfl)⟩), Ad, Exa.start ed (wv 16 _ rfl), Sta.start ee (Or.inl (hsets _ (List.mem_of_getElem? (i := 19) rfl))), Exa.start ee (wv 20 _ rfl), own_fldE ee (eqv_i (Term.int_eval 0) (wv 24 _ rfl)), Sta.start el' (Or.inl (hsets _ (List.mem_of_getElem? (i := 26) rfl))), Exa.start el' (wv 27 _ rfl), own_fldE el' eel, Al, own_fldE el' (eqv_i (Term.int_eval 0) (wv 31 _ rfl)), Sta.start em' (Or.inl (hsets _ (List.mem_of_getElem? (i := 33) rfl))), Exa.start em' (wv 34 _ rfl), cM, kM, hM1, hM2, hM3⟩
 obtain ⟨lf, cK, cS, methk, ck, LF⟩ := own_lam hw
 obtain ⟨n, o, h1, h2, h3, v, L, rfl, rfl, -, N, -, hq⟩ := rm0 l s _ hw hEL z0 Sc hz0 ST LF i0 i1 i2 i3 i4 p e ha hc hk s m _ below hf ((Spec.applies_iff_loose hf).mp happ).1 ⟨rfl, State.Warmed39.refl s, rfl, hCH, all0⟩ trivial
 refine ⟨n, _, h1, h2, h3, hpost _ _ _ _ _ _ ⟨Cond.after_iff.mpr rfl, Cond.after_iff.mpr (eq_i res_at (Term.int_eval (1)) rfl), trivial⟩ ⟨hq.1, hq.2.1, hq.2.2.1, (hq.2.2.2.sift fun y hy => Or.inr (N y hy)).mono (by decide) (by decide)⟩⟩
theorem main_1_1 : Claimed_1_1 := comes_1 fun _ _ _ _ _ _ h hF => ⟨h.1, hF⟩
theorem main_1_2 : Claimed_1_2 := comes_1 fun _ _ _ _ _ _ h hF => ⟨h.2.1, hF⟩
end Jvm.Pilot.@@N@@

@@BLOCK:LamKit.lean.txt@@
namespace Jvm.Pilot.@@N@@
open Jvm Jvm.ClassFile Sem Op Lib Jvm.Free Jvm.Stand Jvm.Pilot.@@N@@.Jvm.D
/-! MADE BY PROGRAM (witnessworld.py) out of the Statement's table words and the real class files: 52 classes; the members and pool entries that the words name. The judged class is class 1, her method 1. -/
namespace start1
open Jvm.ClassFile
def u (s : String) : CpInfo := .utf8 (stringToUtf16 s)
/-- a pool by its gaps: so many unusable entries, then the entry; so many at the end -/
def gap : Nat → List CpInfo → List CpInfo
  | 0, r => r
  | n + 1, r => .unusable :: gap n r
def poolList (es : List (Nat × CpInfo)) (last : Nat) : List CpInfo := es.foldr (fun e r => gap e.1 (e.2 :: r)) (gap last [])
def pool (es : List (Nat × CpInfo)) (last : Nat) : Array CpInfo := ⟨poolList es last⟩
def fileOf (pool : Array CpInfo) (this : Nat) (attrs : Array Attribute := #[]) (ms : Array MethodInfo := #[]) (fl : Nat := 33) (sup : Nat := 0) (ifs : Array Nat := #[]) (fds : Array FieldInfo := #[]) : ClassFile where
  minorVersion := 0
  majorVersion := 65
  constantPool := pool
  accessFlags := fl
  thisClass := this
  superClass := sup
  interfaces := ifs
  fields := fds
  methods := ms
  attributes := attrs
def plain (name : String) (sup : Option ClassId) : Class where
  name := name
  kind := .ordinary
  loader := none
  accessFlags := 33
  super := sup
  interfaces := #[]
  cf := none
  fields := #[]
  methods := #[]
  instanceTypes := #[]
  staticTypes := #[]
  resolved := #[]
  callSites := []
  init := .initialized
  statics := none
  mirror := none

def pool0 : Array CpInfo := pool [(5, u "<init>"), (0, u "()V"), (1, .class_ 10), (1, u "java/lang/Object"), (0, u "getClass"), (0, u "()Ljava/lang/Class;"), (14, u "hashCode"), (0, u "()I"), (63, u "equals"), (0, u "(Ljava/lang/Object;)Z")] 30

def k0c0 : Code := ⟨0, 1, object_method_1_code, #[], #[]⟩
def k0m0 : Method := ⟨"<init>", "()V", ⟨[], none⟩, 1, some k0c0⟩
def k0m1 : Method := ⟨"getClass", "()Ljava/lang/Class;", ⟨[], some (.object "java/lang/Class")⟩, 273, none⟩
def k0m2 : Method := ⟨"hashCode", "()I", ⟨[], some .int⟩, 257, none⟩
def k0c3 : Code := ⟨2, 2, ⟨#[0x2a, 0x2b, 0xa6, 0x00, 0x07, 0x04, 0xa7, 0x00, 0x04, 0x03, 0xac]⟩, #[], #[]⟩
def k0m3 : Method := ⟨"equals", "(Ljava/lang/Object;)Z", ⟨[(.object "java/lang/Object")], some .boolean⟩, 1, some k0c3⟩
/-- java/lang/Object -/
def k0 : Class := { plain "java/lang/Object" none with
  accessFlags := 33
  interfaces := #[]
  cf := some (fileOf pool0 8 #[] #[⟨1, 5, 6, #[]⟩, ⟨273, 11, 12, #[]⟩, ⟨257, 27, 28, #[]⟩, ⟨1, 92, 93, #[]⟩] 33 0 #[] #[])
  fields := #[]
  methods := #[k0m0, k0m1, k0m2, k0m3]
  instanceTypes := #[]
  staticTypes := #[]
  resolved := Array.replicate 124 none
  statics := none }

def pool1 : Array CpInfo := pool [(2, .class_ 4), (0, .nameAndType 5 6), (0, u "java/lang/Object"), (0, u "<init>"), (0, u "()V"), (0, .class_ 8), (0, u "java/lang/String"), (0, .methodref 7 10), (0, .nameAndType 5 11), (0, u "([C)V"), (0, .methodref 7 13), (0, .nameAndType 14 15), (0, u "valueOf"), (0, u "(C)Ljava/lang/String;"), (0, .class_ 17), (0, u "java/util/ArrayList"), (0, .methodref 16 3), (0, .interfaceMethodref 20 21), (0, .class_ 22), (0, .nameAndType 23 24), (0, u "java/util/List"), (0, u "add"), (0, u "(Ljava/lang/Object;)Z"), (0, .string 26), (0, u "--"), (0, .interfaceMethodref 28 29), (0, .class_ 30), (0, .nameAndType 31 32), (0, u "java/util/Set"), (0, u "of"), (0, u "(Ljava/lang/Object;Ljava/lang/Object;)Ljava/util/Set;"), (0, .string 34), (0, u "u"), (0, .methodref 36 37), (0, .class_ 38), (0, .nameAndType 39 40), (0, u "com/example/keyturn/keyturn/Options"), (0, u "parse"), (0, u "(Ljava/util/List;Ljava/util/Set;Ljava/util/List;Ljava/lang/String;)Lcom/example/keyturn/keyturn/Options;"), (0, .methodref 36 42), (0, .nameAndType 43 44), (0, u "has"), (0, u "(Ljava/lang/String;)Z"), (0, .methodref 36 46), (0, .nameAndType 47 48), (0, u "all"), (0, u "(Ljava/lang/String;)Ljava/util/List;"), (0, .interfaceMethodref 20 50), (0, .nameAndType 51 52), (0, u "size"), (0, u "()I"), (0, .interfaceMethodref 20 54), (0, .nameAndType 55 56), (0, u "get"), (0, u "(I)Ljava/lang/Object;"), (0, .methodref 7 58), (0, .nameAndType 59 24), (0, u "equals"), (0, .methodref 36 61), (0, .nameAndType 62 63), (0, u "operand"), (0, u "(I)Ljava/lang/String;"), (0, .class_ 65), (0, u "com/example/keyturn/keyturn/OptionsParsePinLaw"), (2, u "law"), (0, u "(IIIII)Z")] 6

def k1m0 : Method := ⟨"<init>", "()V", ⟨[], none⟩, 2, none⟩
def k1c1 : Code := ⟨7, 35, code, #[], #[]⟩
def k1m1 : Method := ⟨"law", "(IIIII)Z", ⟨[.int, .int, .int, .int, .int], some .boolean⟩, 9, some k1c1⟩
/-- com/example/keyturn/keyturn/OptionsParsePinLaw -/
def k1 : Class := { plain "com/example/keyturn/keyturn/OptionsParsePinLaw" (some 0) with
  accessFlags := 49
  interfaces := #[]
  cf := some (fileOf pool1 64 #[] #[⟨2, 5, 6, #[]⟩, ⟨9, 68, 69, #[]⟩] 49 2 #[] #[])
  fields := #[]
  methods := #[k1m0, k1m1]
  instanceTypes := #[]
  staticTypes := #[]
  resolved := Array.replicate 76 none
  statics := none }

def pool2 : Array CpInfo := pool [(1, .class_ 2), (0, u "java/io/Serializable"), (0, .class_ 4), (0, u "java/lang/Object")] 2

/-- java/io/Serializable -/
def k2 : Class := { plain "java/io/Serializable" (some 0) with
  accessFlags := 1537
  interfaces := #[]
  cf := some (fileOf pool2 1 #[] #[] 1537 3 #[] #[])
  fields := #[]
  methods := #[]
  instanceTypes := #[]
  staticTypes := #[]
  resolved := Array.replicate 7 none
  statics := none }

def pool3 : Array CpInfo := pool [(1, .class_ 2), (0, u "java/lang/Comparable"), (0, .class_ 4), (0, u "java/lang/Object")] 7

/-- java/lang/Comparable -/
def k3 : Class := { plain "java/lang/Comparable" (some 0) with
  accessFlags := 1537
  interfaces := #[]
  cf := some (fileOf pool3 1 #[] #[] 1537 3 #[] #[])
  fields := #[]
  methods := #[]
  instanceTypes := #[]
  staticTypes := #[]
  resolved := Array.replicate 12 none
  statics := none }

def pool4 : Array CpInfo := pool [(2, .class_ 4), (1, u "java/lang/CharSequence"), (42, .class_ 48), (0, u "java/lang/CharSequence$1CodePointIterator"), (10, .class_ 60), (0, u "java/lang/CharSequence$1CharIterator"), (5, .class_ 67), (0, u "java/lang/Object")] 63

/-- java/lang/CharSequence -/
def k4 : Class := { plain "java/lang/CharSequence" (some 0) with
  accessFlags := 1537
  interfaces := #[]
  cf := some (fileOf pool4 2 #[.nestMembers #[47, 59]] #[] 1537 66 #[] #[])
  fields := #[]
  methods := #[]
  instanceTypes := #[]
  staticTypes := #[]
  resolved := Array.replicate 131 none
  statics := none }

def pool5 : Array CpInfo := pool [(1, .class_ 2), (0, u "java/lang/constant/Constable"), (0, .class_ 4), (0, u "java/lang/Object")] 6

/-- java/lang/constant/Constable -/
def k5 : Class := { plain "java/lang/constant/Constable" (some 0) with
  accessFlags := 1537
  interfaces := #[]
  cf := some (fileOf pool5 1 #[] #[] 1537 3 #[] #[])
  fields := #[]
  methods := #[]
  instanceTypes := #[]
  staticTypes := #[]
  resolved := Array.replicate 11 none
  statics := none }

def pool6 : Array CpInfo := pool [(1, .class_ 2), (0, u "java/lang/constant/ConstantDesc"), (0, .class_ 4), (0, u "java/lang/Object")] 32

/-- java/lang/constant/ConstantDesc -/
def k6 : Class := { plain "java/lang/constant/ConstantDesc" (some 0) with
  accessFlags := 1537
  interfaces := #[]
  cf := some (fileOf pool6 1 #[] #[] 1537 3 #[] #[])
  fields := #[]
  methods := #[]
  instanceTypes := #[]
  staticTypes := #[]
  resolved := Array.replicate 37 none
  statics := none }

def pool7 : Array CpInfo := pool [(1, .methodref 2 3), (0, .class_ 4), (0, .nameAndType 5 6), (0, u "java/lang/Object"), (0, u "<init>"), (0, u "()V"), (0, .string 8), (0, u ""), (0, .fieldref 10 11), (0, .class_ 12), (0, .nameAndType 13 14), (0, u "java/lang/String"), (0, u "value"), (0, u "[B"), (0, .fieldref 10 16), (0, .nameAndType 17 18), (0, u "coder"), (0, u "B"), (0, .fieldref 10 20), (0, .nameAndType 21 22), (0, u "hash"), (0, u "I"), (0, .fieldref 10 24), (0, .nameAndType 25 26), (0, u "hashIsZero"), (0, u "Z"), (0, .methodref 10 28), (0, .nameAndType 5 29), (0, u "([CIILjava/lang/Void;)V"), (8, .fieldref 10 39), (0, .nameAndType 40 26), (0, u "COMPACT_STRINGS"), (1, .class_ 44), (1, u "java/lang/StringUTF16"), (0, u "compress"), (1, .methodref 42 48), (0, .nameAndType 49 50), (0, u "coderFromArrayLen"), (0, u "([BI)B"), (2, u "toBytes"), (53, .class_ 109), (1, u "java/lang/StringLatin1"), (32, u "()Z"), (34, .methodref 42 178), (0, .nameAndType 45 179), (0, u "([CII)[B"), (29, .methodref 10 210), (0, .nameAndType 5 211), (0, u "([BB)V"), (122, u "()I"), (0, .methodref 10 336), (0, .nameAndType 17 337), (0, u "()B"), (31, u "(C)Z"), (6, u "([BI[BII)I"), (115, .methodref 10 493), (0, .nameAndType 494 142), (0, u "isLatin1"), (10, .methodref 10 506), (0, .nameAndType 507 334), (0, u "length"), (33, .methodref 107 542), (0, .nameAndType 543 544), (0, u "equals"), (0, u "([B[B)Z"), (14, .class_ 561), (1, u "jdk/internal/util/ArraysSupport"), (0, u "mismatch"), (10, u "(Ljava/lang/Object;)Z"), (1, .class_ 576), (0, u "java/lang/CharSequence"), (22, u "CASE_INSENSITIVE_ORDER"), (0, u "Ljava/util/Comparator;"), (6, .methodref 559 608), (0, .nameAndType 562 376), (15, .methodref 10 625), (0, .nameAndType 626 627), (0, u "startsWith"), (0, u "(Ljava/lang/String;I)Z"), (0, .methodref 107 629), (0, .nameAndType 630 631), (0, u "hashCode"), (0, u "([B)I"), (150, u "valueOf"), (0, u "(C)Ljava/lang/String;"), (226, u "([C)V"), (4, .methodref 107 1016), (0, .nameAndType 1017 369), (0, u "canEncode"), (0, .methodref 107 1019), (0, .nameAndType 53 1020), (0, u "(C)[B"), (80, u "serialPersistentFields"), (0, u "[Ljava/io/ObjectStreamField;"), (0, .class_ 1104), (0, u "java/lang/String$CaseInsensitiveComparator"), (1, .class_ 1107), (0, u "java/io/Serializable"), (0, .class_ 1109), (0, u "java/lang/Comparable"), (0, .class_ 1111), (0, u "java/lang/constant/Constable"), (0, .class_ 1113), (0, u "java/lang/constant/ConstantDesc"), (2, u "serialVersionUID"), (0, u "J"), (3, u "REPL"), (0, u "C"), (2, u "LATIN1"), (1, u "UTF16"), (129, u "(Ljava/lang/String;)Z")] 193

def k7m0 : Method := ⟨"<init>", "()V", ⟨[], none⟩, 1, none⟩
def k7c1 : Code := ⟨5, 2, jdk_42_method_3_code, #[], #[]⟩
def k7m1 : Method := ⟨"<init>", "([C)V", ⟨[(.array .char)], none⟩, 1, some k7c1⟩
def k7c2 : Code := ⟨2, 1, jdk_42_method_54_code, #[], #[]⟩
def k7m2 : Method := ⟨"length", "()I", ⟨[], some .int⟩, 1, some k7c2⟩
def k7c3 : Code := ⟨2, 3, jdk_42_method_66_code, #[], #[]⟩
def k7m3 : Method := ⟨"equals", "(Ljava/lang/Object;)Z", ⟨[(.object "java/lang/Object")], some .boolean⟩, 1, some k7c3⟩
def k7c4 : Code := ⟨5, 8, jdk_42_method_75_code, #[], #[]⟩
def k7m4 : Method := ⟨"startsWith", "(Ljava/lang/String;I)Z", ⟨[(.object "java/lang/String"), .int], some .boolean⟩, 1, some k7c4⟩
def k7c5 : Code := ⟨3, 2, jdk_42_method_76_code, #[], #[]⟩
def k7m5 : Method := ⟨"startsWith", "(Ljava/lang/String;)Z", ⟨[(.object "java/lang/String")], some .boolean⟩, 1, some k7c5⟩
def k7c6 : Code := ⟨2, 2, jdk_42_method_78_code, #[], #[]⟩
def k7m6 : Method := ⟨"hashCode", "()I", ⟨[], some .int⟩, 1, some k7c6⟩
def k7c7 : Code := ⟨4, 1, jdk_42_method_139_code, #[], #[]⟩
def k7m7 : Method := ⟨"valueOf", "(C)Ljava/lang/String;", ⟨[.char], some (.object "java/lang/String")⟩, 9, some k7c7⟩
def k7c8 : Code := ⟨4, 6, jdk_42_method_149_code, #[], #[]⟩
def k7m8 : Method := ⟨"<init>", "([CIILjava/lang/Void;)V", ⟨[(.array .char), .int, .int, (.object "java/lang/Void")], none⟩, 2, some k7c8⟩
def k7c9 : Code := ⟨2, 3, jdk_42_method_151_code, #[], #[]⟩
def k7m9 : Method := ⟨"<init>", "([BB)V", ⟨[(.array .byte), .byte], none⟩, 0, some k7c9⟩
def k7c10 : Code := ⟨1, 1, jdk_42_method_152_code, #[], #[]⟩
def k7m10 : Method := ⟨"coder", "()B", ⟨[], some .byte⟩, 0, some k7c10⟩
def k7c11 : Code := ⟨1, 1, jdk_42_method_154_code, #[], #[]⟩
def k7m11 : Method := ⟨"isLatin1", "()Z", ⟨[], some .boolean⟩, 0, some k7c11⟩
/-- java/lang/String -/
def k7 : Class := { plain "java/lang/String" (some 0) with
  accessFlags := 49
  interfaces := #[2, 3, 4, 5, 6]
  cf := some (fileOf pool7 10 #[.nestMembers #[1103]] #[⟨1, 5, 6, #[]⟩, ⟨1, 5, 1010, #[]⟩, ⟨1, 507, 334, #[]⟩, ⟨1, 543, 573, #[]⟩, ⟨1, 626, 627, #[]⟩, ⟨1, 626, 1257, #[]⟩, ⟨1, 630, 334, #[]⟩, ⟨9, 782, 783, #[]⟩, ⟨2, 5, 29, #[]⟩, ⟨0, 5, 211, #[]⟩, ⟨0, 17, 337, #[]⟩, ⟨0, 494, 142, #[]⟩] 49 2 #[1106, 1108, 575, 1110, 1112] #[⟨18, 13, 14, #[]⟩, ⟨18, 17, 18, #[]⟩, ⟨2, 21, 22, #[]⟩, ⟨2, 25, 26, #[]⟩, ⟨26, 1116, 1117, #[]⟩, ⟨24, 40, 26, #[]⟩, ⟨26, 1101, 1102, #[]⟩, ⟨26, 1121, 1122, #[]⟩, ⟨25, 599, 600, #[]⟩, ⟨24, 1125, 18, #[]⟩, ⟨24, 1127, 18, #[]⟩])
  fields := #[⟨"value", (.array .byte), 18, 0, 0⟩, ⟨"coder", .byte, 18, 1, 0⟩, ⟨"hash", .int, 2, 2, 0⟩, ⟨"hashIsZero", .boolean, 2, 3, 0⟩, ⟨"serialVersionUID", .long, 26, 0, 0⟩, ⟨"COMPACT_STRINGS", .boolean, 24, 1, 0⟩, ⟨"serialPersistentFields", (.array (.object "java/io/ObjectStreamField")), 26, 2, 0⟩, ⟨"REPL", .char, 26, 3, 0⟩, ⟨"CASE_INSENSITIVE_ORDER", (.object "java/util/Comparator"), 25, 4, 0⟩, ⟨"LATIN1", .byte, 24, 5, 0⟩, ⟨"UTF16", .byte, 24, 6, 0⟩]
  methods := #[k7m0, k7m1, k7m2, k7m3, k7m4, k7m5, k7m6, k7m7, k7m8, k7m9, k7m10, k7m11]
  instanceTypes := #[(.array .byte), .byte, .int, .boolean]
  staticTypes := #[.long, .boolean, (.array (.object "java/io/ObjectStreamField")), .char, (.object "java/util/Comparator"), .byte, .byte]
  resolved := Array.replicate 1451 none
  statics := some 0 }

def pool8 : Array CpInfo := pool [(6, .class_ 8), (1, u "java/lang/Object"), (0, u "<init>"), (0, u "()V"), (1, .class_ 14), (1, u "java/lang/StringUTF16"), (31, u "$assertionsDisabled"), (0, u "Z"), (13, u "HI_BYTE_SHIFT"), (0, u "I"), (2, u "LO_BYTE_SHIFT"), (49, .methodref 12 116), (0, .nameAndType 117 118), (0, u "compress"), (0, u "([CI[BII)I"), (3, u "([CII)[B"), (138, u "coderFromArrayLen"), (0, u "([BI)B"), (106, .class_ 371), (1, u "java/lang/StringUTF16$LinesSpliterator"), (58, u "MAX_LENGTH"), (196, .class_ 628), (0, u "java/lang/StringUTF16$CodePointsSpliterator"), (0, .class_ 630), (0, u "java/lang/StringUTF16$CharsSpliterator")] 4

def k8m0 : Method := ⟨"<init>", "()V", ⟨[], none⟩, 0, none⟩
def k8c1 : Code := ⟨2, 2, jdk_52_method_15_code, #[], #[]⟩
def k8m1 : Method := ⟨"coderFromArrayLen", "([BI)B", ⟨[(.array .byte), .int], some .byte⟩, 8, some k8c1⟩
def k8c2 : Code := ⟨5, 6, jdk_52_method_16_code, #[], #[]⟩
def k8m2 : Method := ⟨"compress", "([CII)[B", ⟨[(.array .char), .int, .int], some (.array .byte)⟩, 9, some k8c2⟩
def k8c3 : Code := ⟨3, 7, jdk_52_method_21_code, #[], #[]⟩
def k8m3 : Method := ⟨"compress", "([CI[BII)I", ⟨[(.array .char), .int, (.array .byte), .int, .int], some .int⟩, 9, some k8c3⟩
/-- java/lang/StringUTF16 -/
def k8 : Class := { plain "java/lang/StringUTF16" (some 0) with
  accessFlags := 48
  interfaces := #[]
  cf := some (fileOf pool8 12 #[.nestMembers #[627, 629, 369]] #[⟨0, 9, 10, #[]⟩, ⟨8, 261, 262, #[]⟩, ⟨9, 117, 122, #[]⟩, ⟨9, 117, 118, #[]⟩] 48 6 #[] #[⟨26, 61, 62, #[]⟩, ⟨26, 65, 62, #[]⟩, ⟨24, 430, 62, #[]⟩, ⟨4120, 46, 47, #[]⟩])
  fields := #[⟨"HI_BYTE_SHIFT", .int, 26, 0, 0⟩, ⟨"LO_BYTE_SHIFT", .int, 26, 1, 0⟩, ⟨"MAX_LENGTH", .int, 24, 2, 0⟩, ⟨"$assertionsDisabled", .boolean, 4120, 3, 0⟩]
  methods := #[k8m0, k8m1, k8m2, k8m3]
  instanceTypes := #[]
  staticTypes := #[.int, .int, .int, .boolean]
  resolved := Array.replicate 635 none
  statics := none }

def pool9 : Array CpInfo := pool [(4, .class_ 6), (1, u "java/lang/Object"), (0, u "<init>"), (0, u "()V"), (5, .class_ 16), (1, u "java/lang/StringLatin1"), (28, .class_ 47), (1, u "jdk/internal/util/ArraysSupport"), (9, u "([B)I"), (26, .methodref 45 85), (0, .nameAndType 86 87), (0, u "vectorizedHashCode"), (0, u "(Ljava/lang/Object;IIII)I"), (2, u "canEncode"), (14, u "(C)Z"), (15, u "$assertionsDisabled"), (0, u "Z"), (98, .class_ 223), (1, u "java/lang/StringLatin1$LinesSpliterator"), (57, u "equals"), (0, u "([B[B)Z"), (15, u "hashCode"), (81, u "toBytes"), (1, u "(C)[B"), (7, .class_ 391), (0, u "java/lang/StringLatin1$CharsSpliterator")] 3

def k9m0 : Method := ⟨"<init>", "()V", ⟨[], none⟩, 0, none⟩
def k9c1 : Code := ⟨2, 1, jdk_43_method_3_code, #[], #[]⟩
def k9m1 : Method := ⟨"canEncode", "(C)Z", ⟨[.char], some .boolean⟩, 9, some k9c1⟩
def k9c2 : Code := ⟨3, 3, jdk_43_method_13_code, #[], #[]⟩
def k9m2 : Method := ⟨"equals", "([B[B)Z", ⟨[(.array .byte), (.array .byte)], some .boolean⟩, 9, some k9c2⟩
def k9c3 : Code := ⟨5, 1, jdk_43_method_21_code, #[], #[]⟩
def k9m3 : Method := ⟨"hashCode", "([B)I", ⟨[(.array .byte)], some .int⟩, 9, some k9c3⟩
def k9c4 : Code := ⟨4, 1, jdk_43_method_46_code, #[], #[]⟩
def k9m4 : Method := ⟨"toBytes", "(C)[B", ⟨[.char], some (.array .byte)⟩, 9, some k9c4⟩
/-- java/lang/StringLatin1 -/
def k9 : Class := { plain "java/lang/StringLatin1" (some 0) with
  accessFlags := 48
  interfaces := #[]
  cf := some (fileOf pool9 14 #[.nestMembers #[390, 221]] #[⟨0, 7, 8, #[]⟩, ⟨9, 90, 105, #[]⟩, ⟨9, 281, 282, #[]⟩, ⟨9, 298, 57, #[]⟩, ⟨9, 380, 382, #[]⟩] 48 4 #[] #[⟨4120, 121, 122, #[]⟩])
  fields := #[⟨"$assertionsDisabled", .boolean, 4120, 0, 0⟩]
  methods := #[k9m0, k9m1, k9m2, k9m3, k9m4]
  instanceTypes := #[]
  staticTypes := #[.boolean]
  resolved := Array.replicate 395 none
  statics := none }

def pool10 : Array CpInfo := pool [(8, .class_ 10), (1, u "java/lang/Iterable"), (24, .class_ 36), (0, u "java/lang/Object")] 25

/-- java/lang/Iterable -/
def k10 : Class := { plain "java/lang/Iterable" (some 0) with
  accessFlags := 1537
  interfaces := #[]
  cf := some (fileOf pool10 8 #[] #[] 1537 35 #[] #[])
  fields := #[]
  methods := #[]
  instanceTypes := #[]
  staticTypes := #[]
  resolved := Array.replicate 62 none
  statics := none }

def pool11 : Array CpInfo := pool [(10, .class_ 12), (1, u "java/util/Collection"), (0, u "toArray"), (16, u "()Z"), (29, .class_ 61), (0, u "java/lang/Object"), (0, .class_ 63), (0, u "java/lang/Iterable"), (2, u "isEmpty"), (3, u "()[Ljava/lang/Object;")] 44

def k11m0 : Method := ⟨"isEmpty", "()Z", ⟨[], some .boolean⟩, 1025, none⟩
def k11m1 : Method := ⟨"toArray", "()[Ljava/lang/Object;", ⟨[], some (.array (.object "java/lang/Object"))⟩, 1025, none⟩
/-- java/util/Collection -/
def k11 : Class := { plain "java/util/Collection" (some 0) with
  accessFlags := 1537
  interfaces := #[10]
  cf := some (fileOf pool11 10 #[] #[⟨1025, 66, 30, #[]⟩, ⟨1025, 13, 70, #[]⟩] 1537 60 #[62] #[])
  fields := #[]
  methods := #[k11m0, k11m1]
  instanceTypes := #[]
  staticTypes := #[]
  resolved := Array.replicate 115 none
  statics := none }

def pool12 : Array CpInfo := pool [(1, .methodref 2 3), (0, .class_ 4), (0, .nameAndType 5 6), (0, u "java/lang/Object"), (0, u "<init>"), (0, u "()V"), (1, .class_ 10), (1, u "java/util/AbstractCollection"), (66, .class_ 78), (0, u "java/util/Collection")] 81

def k12c0 : Code := ⟨1, 1, jdk_22_method_1_code, #[], #[]⟩
def k12m0 : Method := ⟨"<init>", "()V", ⟨[], none⟩, 4, some k12c0⟩
/-- java/util/AbstractCollection -/
def k12 : Class := { plain "java/util/AbstractCollection" (some 0) with
  accessFlags := 1057
  interfaces := #[11]
  cf := some (fileOf pool12 8 #[] #[⟨4, 5, 6, #[]⟩] 1057 2 #[77] #[])
  fields := #[]
  methods := #[k12m0]
  instanceTypes := #[]
  staticTypes := #[]
  resolved := Array.replicate 160 none
  statics := none }

def pool13 : Array CpInfo := pool [(8, .class_ 10), (1, u "java/util/SequencedCollection"), (15, .class_ 27), (0, u "java/lang/Object"), (0, .class_ 29), (0, u "java/util/Collection")] 27

/-- java/util/SequencedCollection -/
def k13 : Class := { plain "java/util/SequencedCollection" (some 0) with
  accessFlags := 1537
  interfaces := #[11]
  cf := some (fileOf pool13 8 #[] #[] 1537 26 #[28] #[])
  fields := #[]
  methods := #[]
  instanceTypes := #[]
  staticTypes := #[]
  resolved := Array.replicate 57 none
  statics := none }

def pool14 : Array CpInfo := pool [(8, .class_ 10), (1, u "java/util/List"), (20, u "(Ljava/lang/Object;)V"), (16, u "<init>"), (11, u "add"), (3, u "(Ljava/lang/Object;)Z"), (10, u "get"), (0, u "(I)Ljava/lang/Object;"), (2, u "size"), (0, u "()I"), (7, u "of"), (1, .fieldref 91 92), (0, .class_ 93), (0, .nameAndType 94 95), (0, u "java/util/ImmutableCollections"), (0, u "EMPTY_LIST"), (0, u "Ljava/util/ImmutableCollections$ListN;"), (0, .class_ 97), (0, u "java/util/ImmutableCollections$List12"), (0, .methodref 96 99), (0, .nameAndType 48 31), (0, .methodref 96 101), (0, .nameAndType 48 102), (0, u "(Ljava/lang/Object;Ljava/lang/Object;)V"), (0, .class_ 104), (0, u "java/lang/Object"), (3, u "([Ljava/lang/Object;)Ljava/util/List;"), (0, .methodref 91 110), (0, .nameAndType 111 108), (0, u "listFromArray"), (0, .methodref 91 113), (0, .nameAndType 114 115), (0, u "listCopy"), (0, u "(Ljava/util/Collection;)Ljava/util/List;"), (3, u "()Ljava/util/List;"), (0, .class_ 121), (0, u "java/util/SequencedCollection"), (9, u "(Ljava/util/Collection;)Z"), (1, u "addAll"), (48, u "subList"), (0, u "(II)Ljava/util/List;"), (50, u "copyOf")] 16

def k14m0 : Method := ⟨"size", "()I", ⟨[], some .int⟩, 1025, none⟩
def k14m1 : Method := ⟨"add", "(Ljava/lang/Object;)Z", ⟨[(.object "java/lang/Object")], some .boolean⟩, 1025, none⟩
def k14m2 : Method := ⟨"addAll", "(Ljava/util/Collection;)Z", ⟨[(.object "java/util/Collection")], some .boolean⟩, 1025, none⟩
def k14m3 : Method := ⟨"get", "(I)Ljava/lang/Object;", ⟨[.int], some (.object "java/lang/Object")⟩, 1025, none⟩
def k14m4 : Method := ⟨"subList", "(II)Ljava/util/List;", ⟨[.int, .int], some (.object "java/util/List")⟩, 1025, none⟩
def k14c5 : Code := ⟨1, 0, jdk_40_method_36_code, #[], #[]⟩
def k14m5 : Method := ⟨"of", "()Ljava/util/List;", ⟨[], some (.object "java/util/List")⟩, 9, some k14c5⟩
def k14c6 : Code := ⟨5, 2, jdk_40_method_47_code, #[], #[]⟩
def k14m6 : Method := ⟨"of", "([Ljava/lang/Object;)Ljava/util/List;", ⟨[(.array (.object "java/lang/Object"))], some (.object "java/util/List")⟩, 137, some k14c6⟩
def k14c7 : Code := ⟨1, 1, jdk_40_method_48_code, #[], #[]⟩
def k14m7 : Method := ⟨"copyOf", "(Ljava/util/Collection;)Ljava/util/List;", ⟨[(.object "java/util/Collection")], some (.object "java/util/List")⟩, 9, some k14c7⟩
/-- java/util/List -/
def k14 : Class := { plain "java/util/List" (some 0) with
  accessFlags := 1537
  interfaces := #[13]
  cf := some (fileOf pool14 8 #[] #[⟨1025, 79, 80, #[]⟩, ⟨1025, 60, 64, #[]⟩, ⟨1025, 133, 131, #[]⟩, ⟨1025, 75, 76, #[]⟩, ⟨1025, 182, 183, #[]⟩, ⟨9, 88, 119, #[]⟩, ⟨137, 88, 108, #[]⟩, ⟨9, 234, 115, #[]⟩] 1537 103 #[120] #[])
  fields := #[]
  methods := #[k14m0, k14m1, k14m2, k14m3, k14m4, k14m5, k14m6, k14m7]
  instanceTypes := #[]
  staticTypes := #[]
  resolved := Array.replicate 251 none
  statics := none }

def pool15 : Array CpInfo := pool [(1, .methodref 2 3), (0, .class_ 4), (0, .nameAndType 5 6), (0, u "java/util/AbstractCollection"), (0, u "<init>"), (0, u "()V"), (0, .fieldref 8 9), (0, .class_ 10), (0, .nameAndType 11 12), (0, u "java/util/AbstractList"), (0, u "modCount"), (0, u "I"), (64, .class_ 78), (0, u "java/util/AbstractList$Itr"), (3, .class_ 83), (0, u "java/util/AbstractList$ListItr"), (5, u "subListRangeCheck"), (0, u "(III)V"), (2, .class_ 94), (0, u "java/util/AbstractList$RandomAccessSubList"), (3, .class_ 99), (0, u "java/util/AbstractList$SubList"), (33, .class_ 134), (0, u "java/util/List"), (73, .class_ 209), (0, u "java/util/AbstractList$SubList$1"), (0, .class_ 211), (0, u "java/util/AbstractList$RandomAccessSpliterator")] 6

def k15c0 : Code := ⟨2, 1, jdk_39_method_1_code, #[], #[]⟩
def k15m0 : Method := ⟨"<init>", "()V", ⟨[], none⟩, 4, some k15c0⟩
def k15c1 : Code := ⟨4, 3, jdk_39_method_15_code, #[], #[]⟩
def k15m1 : Method := ⟨"subListRangeCheck", "(III)V", ⟨[.int, .int, .int], none⟩, 8, some k15c1⟩
/-- java/util/AbstractList -/
def k15 : Class := { plain "java/util/AbstractList" (some 12) with
  accessFlags := 1057
  interfaces := #[14]
  cf := some (fileOf pool15 8 #[.nestMembers #[93, 98, 208, 210, 82, 77]] #[⟨4, 5, 6, #[]⟩, ⟨8, 89, 90, #[]⟩] 1057 2 #[133] #[⟨132, 11, 12, #[]⟩])
  fields := #[⟨"modCount", .int, 132, 0, 0⟩]
  methods := #[k15m0, k15m1]
  instanceTypes := #[.int]
  staticTypes := #[]
  resolved := Array.replicate 218 none
  statics := none }

def pool16 : Array CpInfo := pool [(1, .class_ 2), (0, u "java/util/RandomAccess"), (0, .class_ 4), (0, u "java/lang/Object")] 2

/-- java/util/RandomAccess -/
def k16 : Class := { plain "java/util/RandomAccess" (some 0) with
  accessFlags := 1537
  interfaces := #[]
  cf := some (fileOf pool16 1 #[] #[] 1537 3 #[] #[])
  fields := #[]
  methods := #[]
  instanceTypes := #[]
  staticTypes := #[]
  resolved := Array.replicate 7 none
  statics := none }

def pool17 : Array CpInfo := pool [(1, .class_ 2), (0, u "java/lang/Cloneable"), (0, .class_ 4), (0, u "java/lang/Object")] 2

/-- java/lang/Cloneable -/
def k17 : Class := { plain "java/lang/Cloneable" (some 0) with
  accessFlags := 1537
  interfaces := #[]
  cf := some (fileOf pool17 1 #[] #[] 1537 3 #[] #[])
  fields := #[]
  methods := #[]
  instanceTypes := #[]
  staticTypes := #[]
  resolved := Array.replicate 7 none
  statics := none }

def pool18 : Array CpInfo := pool [(1, .methodref 2 3), (0, .class_ 4), (0, .nameAndType 5 6), (0, u "java/util/AbstractList"), (0, u "<init>"), (0, u "()V"), (0, .class_ 8), (0, u "java/lang/Object"), (0, .fieldref 10 11), (0, .class_ 12), (0, .nameAndType 13 14), (0, u "java/util/ArrayList"), (0, u "elementData"), (0, u "[Ljava/lang/Object;"), (2, u "EMPTY_ELEMENTDATA"), (21, .fieldref 10 40), (0, .nameAndType 41 14), (0, u "DEFAULTCAPACITY_EMPTY_ELEMENTDATA"), (0, .interfaceMethodref 43 44), (0, .class_ 45), (0, .nameAndType 46 47), (0, u "java/util/Collection"), (0, u "toArray"), (0, u "()[Ljava/lang/Object;"), (0, .fieldref 10 49), (0, .nameAndType 50 51), (0, u "size"), (0, u "I"), (6, .class_ 60), (1, u "java/util/Arrays"), (0, u "copyOf"), (1, .fieldref 10 64), (0, .nameAndType 65 51), (0, u "modCount"), (0, .methodref 58 67), (0, .nameAndType 61 68), (0, u "([Ljava/lang/Object;I)[Ljava/lang/Object;"), (0, .methodref 10 70), (0, .nameAndType 71 72), (0, u "grow"), (0, u "(I)[Ljava/lang/Object;"), (6, .methodref 80 81), (0, .class_ 82), (0, .nameAndType 83 84), (0, u "java/lang/Math"), (0, u "max"), (0, u "(II)I"), (11, u "(Ljava/lang/Object;)Z"), (15, .methodref 113 114), (0, .class_ 115), (0, .nameAndType 116 117), (0, u "java/lang/System"), (0, u "arraycopy"), (0, u "(Ljava/lang/Object;ILjava/lang/Object;II)V"), (0, .methodref 119 120), (0, .class_ 121), (0, .nameAndType 122 84), (0, u "java/util/Objects"), (0, u "checkIndex"), (0, .methodref 10 124), (0, .nameAndType 13 125), (0, u "(I)Ljava/lang/Object;"), (3, .methodref 10 130), (0, .nameAndType 71 47), (0, .methodref 10 132), (0, .nameAndType 133 134), (0, u "add"), (0, u "(Ljava/lang/Object;[Ljava/lang/Object;I)V"), (13, .class_ 149), (0, u "java/util/List"), (23, u "()Z"), (12, u "()I"), (75, .class_ 263), (0, u "java/util/ArrayList$ListItr"), (3, .class_ 268), (0, u "java/util/ArrayList$Itr"), (3, .methodref 10 273), (0, .nameAndType 274 275), (0, u "subListRangeCheck"), (0, u "(III)V"), (0, .class_ 277), (0, u "java/util/ArrayList$SubList"), (0, .methodref 276 279), (0, .nameAndType 5 280), (0, u "(Ljava/util/ArrayList;II)V"), (9, .class_ 291), (0, u "java/util/ArrayList$ArrayListSpliterator"), (37, .class_ 330), (0, u "java/util/RandomAccess"), (0, .class_ 332), (0, u "java/lang/Cloneable"), (0, .class_ 334), (0, u "java/io/Serializable"), (0, u "serialVersionUID"), (0, u "J"), (3, u "DEFAULT_CAPACITY"), (22, u "isEmpty"), (17, u "get"), (38, u "addAll"), (0, u "(Ljava/util/Collection;)Z"), (37, u "subList"), (0, u "(II)Ljava/util/List;"), (39, .class_ 501), (0, u "java/util/ArrayList$SubList$2"), (0, .class_ 503), (0, u "java/util/ArrayList$SubList$1")] 5

def k18c0 : Code := ⟨2, 1, jdk_38_method_2_code, #[], #[]⟩
def k18m0 : Method := ⟨"<init>", "()V", ⟨[], none⟩, 1, some k18c0⟩
def k18c1 : Code := ⟨4, 4, jdk_38_method_6_code, #[], #[]⟩
def k18m1 : Method := ⟨"grow", "(I)[Ljava/lang/Object;", ⟨[.int], some (.array (.object "java/lang/Object"))⟩, 2, some k18c1⟩
def k18c2 : Code := ⟨3, 1, jdk_38_method_7_code, #[], #[]⟩
def k18m2 : Method := ⟨"grow", "()[Ljava/lang/Object;", ⟨[], some (.array (.object "java/lang/Object"))⟩, 2, some k18c2⟩
def k18c3 : Code := ⟨1, 1, jdk_38_method_8_code, #[], #[]⟩
def k18m3 : Method := ⟨"size", "()I", ⟨[], some .int⟩, 1, some k18c3⟩
def k18c4 : Code := ⟨1, 1, jdk_38_method_9_code, #[], #[]⟩
def k18m4 : Method := ⟨"isEmpty", "()Z", ⟨[], some .boolean⟩, 1, some k18c4⟩
def k18c5 : Code := ⟨2, 1, jdk_38_method_16_code, #[], #[]⟩
def k18m5 : Method := ⟨"toArray", "()[Ljava/lang/Object;", ⟨[], some (.array (.object "java/lang/Object"))⟩, 1, some k18c5⟩
def k18c6 : Code := ⟨2, 2, jdk_38_method_18_code, #[], #[]⟩
def k18m6 : Method := ⟨"elementData", "(I)Ljava/lang/Object;", ⟨[.int], some (.object "java/lang/Object")⟩, 0, some k18c6⟩
def k18c7 : Code := ⟨2, 2, jdk_38_method_20_code, #[], #[]⟩
def k18m7 : Method := ⟨"get", "(I)Ljava/lang/Object;", ⟨[.int], some (.object "java/lang/Object")⟩, 1, some k18c7⟩
def k18c8 : Code := ⟨3, 4, jdk_38_method_24_code, #[], #[]⟩
def k18m8 : Method := ⟨"add", "(Ljava/lang/Object;[Ljava/lang/Object;I)V", ⟨[(.object "java/lang/Object"), (.array (.object "java/lang/Object")), .int], none⟩, 2, some k18c8⟩
def k18c9 : Code := ⟨4, 2, jdk_38_method_25_code, #[], #[]⟩
def k18m9 : Method := ⟨"add", "(Ljava/lang/Object;)Z", ⟨[(.object "java/lang/Object")], some .boolean⟩, 1, some k18c9⟩
def k18c10 : Code := ⟨5, 6, jdk_38_method_41_code, #[], #[]⟩
def k18m10 : Method := ⟨"addAll", "(Ljava/util/Collection;)Z", ⟨[(.object "java/util/Collection")], some .boolean⟩, 1, some k18c10⟩
def k18c11 : Code := ⟨5, 3, jdk_38_method_56_code, #[], #[]⟩
def k18m11 : Method := ⟨"subList", "(II)Ljava/util/List;", ⟨[.int, .int], some (.object "java/util/List")⟩, 1, some k18c11⟩
/-- java/util/ArrayList -/
def k18 : Class := { plain "java/util/ArrayList" (some 15) with
  accessFlags := 33
  interfaces := #[14, 16, 17, 2]
  cf := some (fileOf pool18 10 #[.nestMembers #[290, 276, 500, 502, 262, 267]] #[⟨1, 5, 6, #[]⟩, ⟨2, 71, 72, #[]⟩, ⟨2, 71, 47, #[]⟩, ⟨1, 50, 186, #[]⟩, ⟨1, 363, 173, #[]⟩, ⟨1, 46, 47, #[]⟩, ⟨0, 13, 125, #[]⟩, ⟨1, 381, 125, #[]⟩, ⟨2, 133, 134, #[]⟩, ⟨1, 133, 96, #[]⟩, ⟨1, 420, 421, #[]⟩, ⟨1, 459, 460, #[]⟩] 33 2 #[148, 329, 331, 333] #[⟨26, 335, 336, #[]⟩, ⟨26, 340, 51, #[]⟩, ⟨26, 17, 14, #[]⟩, ⟨26, 41, 14, #[]⟩, ⟨128, 13, 14, #[]⟩, ⟨2, 50, 51, #[]⟩])
  fields := #[⟨"serialVersionUID", .long, 26, 0, 0⟩, ⟨"DEFAULT_CAPACITY", .int, 26, 1, 0⟩, ⟨"EMPTY_ELEMENTDATA", (.array (.object "java/lang/Object")), 26, 2, 0⟩, ⟨"DEFAULTCAPACITY_EMPTY_ELEMENTDATA", (.array (.object "java/lang/Object")), 26, 3, 0⟩, ⟨"elementData", (.array (.object "java/lang/Object")), 128, 1, 0⟩, ⟨"size", .int, 2, 2, 0⟩]
  methods := #[k18m0, k18m1, k18m2, k18m3, k18m4, k18m5, k18m6, k18m7, k18m8, k18m9, k18m10, k18m11]
  instanceTypes := #[.int, (.array (.object "java/lang/Object")), .int]
  staticTypes := #[.long, .int, (.array (.object "java/lang/Object")), (.array (.object "java/lang/Object"))]
  resolved := Array.replicate 509 none
  statics := some 1 }

def pool19 : Array CpInfo := pool [(9, .fieldref 10 11), (0, .class_ 12), (0, .nameAndType 13 14), (0, u "java/util/ImmutableCollections"), (0, u "EMPTY_SET"), (0, u "Ljava/util/ImmutableCollections$SetN;"), (0, .class_ 16), (0, u "java/util/ImmutableCollections$Set12"), (2, u "<init>"), (1, .methodref 15 22), (0, .nameAndType 19 23), (0, u "(Ljava/lang/Object;Ljava/lang/Object;)V"), (2, .class_ 27), (0, u "java/lang/Object"), (5, .class_ 34), (0, u "java/util/Set"), (1, .class_ 38), (1, u "java/util/Collection"), (4, u "of"), (0, u "()Ljava/util/Set;"), (14, u "contains"), (0, u "(Ljava/lang/Object;)Z"), (35, u "(Ljava/lang/Object;Ljava/lang/Object;)Ljava/util/Set;")] 47

def k19m0 : Method := ⟨"contains", "(Ljava/lang/Object;)Z", ⟨[(.object "java/lang/Object")], some .boolean⟩, 1025, none⟩
def k19c1 : Code := ⟨1, 0, jdk_96_method_17_code, #[], #[]⟩
def k19m1 : Method := ⟨"of", "()Ljava/util/Set;", ⟨[], some (.object "java/util/Set")⟩, 9, some k19c1⟩
def k19c2 : Code := ⟨4, 2, jdk_96_method_19_code, #[], #[]⟩
def k19m2 : Method := ⟨"of", "(Ljava/lang/Object;Ljava/lang/Object;)Ljava/util/Set;", ⟨[(.object "java/lang/Object"), (.object "java/lang/Object")], some (.object "java/util/Set")⟩, 9, some k19c2⟩
/-- java/util/Set -/
def k19 : Class := { plain "java/util/Set" (some 0) with
  accessFlags := 1537
  interfaces := #[11]
  cf := some (fileOf pool19 33 #[] #[⟨1025, 59, 60, #[]⟩, ⟨9, 43, 44, #[]⟩, ⟨9, 43, 96, #[]⟩] 1537 26 #[36] #[])
  fields := #[]
  methods := #[k19m0, k19m1, k19m2]
  instanceTypes := #[]
  staticTypes := #[]
  resolved := Array.replicate 144 none
  statics := none }

def pool20 : Array CpInfo := pool [(1, .methodref 2 3), (0, .class_ 4), (0, .nameAndType 5 6), (0, u "java/util/AbstractCollection"), (0, u "<init>"), (0, u "()V"), (1, .class_ 10), (1, u "java/util/ImmutableCollections"), (2, .class_ 14), (0, u "java/util/ImmutableCollections$AbstractImmutableCollection")] 41

def k20c0 : Code := ⟨1, 1, jdk_47_method_1_code, #[], #[]⟩
def k20m0 : Method := ⟨"<init>", "()V", ⟨[], none⟩, 0, some k20c0⟩
/-- java/util/ImmutableCollections$AbstractImmutableCollection -/
def k20 : Class := { plain "java/util/ImmutableCollections$AbstractImmutableCollection" (some 12) with
  accessFlags := 1056
  interfaces := #[]
  cf := some (fileOf pool20 13 #[.nestHost 8] #[⟨0, 5, 6, #[]⟩] 1056 2 #[] #[])
  fields := #[]
  methods := #[k20m0]
  instanceTypes := #[]
  staticTypes := #[]
  resolved := Array.replicate 56 none
  statics := none }

def pool21 : Array CpInfo := pool [(1, .methodref 2 3), (0, .class_ 4), (0, .nameAndType 5 6), (0, u "java/util/ImmutableCollections$AbstractImmutableCollection"), (0, u "<init>"), (0, u "()V"), (0, .class_ 8), (0, u "java/util/Set"), (7, .class_ 17), (0, u "java/util/ImmutableCollections$AbstractImmutableSet"), (43, .class_ 62), (0, u "java/util/ImmutableCollections")] 3

def k21c0 : Code := ⟨1, 1, jdk_100_method_1_code, #[], #[]⟩
def k21m0 : Method := ⟨"<init>", "()V", ⟨[], none⟩, 0, some k21c0⟩
/-- java/util/ImmutableCollections$AbstractImmutableSet -/
def k21 : Class := { plain "java/util/ImmutableCollections$AbstractImmutableSet" (some 20) with
  accessFlags := 1056
  interfaces := #[19]
  cf := some (fileOf pool21 16 #[.nestHost 61] #[⟨0, 5, 6, #[]⟩] 1056 2 #[7] #[])
  fields := #[]
  methods := #[k21m0]
  instanceTypes := #[]
  staticTypes := #[]
  resolved := Array.replicate 66 none
  statics := none }

def pool22 : Array CpInfo := pool [(1, .methodref 2 3), (0, .class_ 4), (0, .nameAndType 5 6), (0, u "java/util/ImmutableCollections$AbstractImmutableSet"), (0, u "<init>"), (0, u "()V"), (0, .methodref 8 9), (0, .class_ 10), (0, .nameAndType 11 12), (0, u "java/util/Objects"), (0, u "requireNonNull"), (0, u "(Ljava/lang/Object;)Ljava/lang/Object;"), (0, .fieldref 14 15), (0, .class_ 16), (0, .nameAndType 17 18), (0, u "java/util/ImmutableCollections$Set12"), (0, u "e0"), (0, u "Ljava/lang/Object;"), (1, .class_ 22), (1, u "java/util/ImmutableCollections"), (1, .fieldref 14 25), (0, .nameAndType 26 18), (0, u "e1"), (0, .methodref 28 29), (0, .class_ 30), (0, .nameAndType 31 32), (0, u "java/lang/Object"), (0, u "equals"), (0, u "(Ljava/lang/Object;)Z"), (64, .class_ 98), (0, u "java/io/Serializable"), (13, u "(Ljava/lang/Object;Ljava/lang/Object;)V"), (4, u "contains")] 31

def k22c0 : Code := ⟨4, 3, jdk_101_method_2_code, #[], #[]⟩
def k22m0 : Method := ⟨"<init>", "(Ljava/lang/Object;Ljava/lang/Object;)V", ⟨[(.object "java/lang/Object"), (.object "java/lang/Object")], none⟩, 0, some k22c0⟩
def k22c1 : Code := ⟨2, 2, jdk_101_method_5_code, #[], #[]⟩
def k22m1 : Method := ⟨"contains", "(Ljava/lang/Object;)Z", ⟨[(.object "java/lang/Object")], some .boolean⟩, 1, some k22c1⟩
/-- java/util/ImmutableCollections$Set12 -/
def k22 : Class := { plain "java/util/ImmutableCollections$Set12" (some 21) with
  accessFlags := 48
  interfaces := #[2]
  cf := some (fileOf pool22 14 #[.nestHost 20] #[⟨0, 5, 112, #[]⟩, ⟨1, 117, 32, #[]⟩] 48 2 #[97] #[⟨18, 17, 18, #[]⟩, ⟨18, 26, 18, #[]⟩])
  fields := #[⟨"e0", (.object "java/lang/Object"), 18, 0, 0⟩, ⟨"e1", (.object "java/lang/Object"), 18, 1, 0⟩]
  methods := #[k22m0, k22m1]
  instanceTypes := #[(.object "java/lang/Object"), (.object "java/lang/Object")]
  staticTypes := #[]
  resolved := Array.replicate 149 none
  statics := none }

def pool23 : Array CpInfo := pool [(2, .class_ 4), (1, u "java/lang/Object"), (0, u "<init>"), (0, u "()V"), (35, .class_ 44), (1, u "java/util/Objects"), (0, u "requireNonNull"), (0, u "(Ljava/lang/Object;)Ljava/lang/Object;"), (58, .methodref 106 107), (0, .class_ 108), (0, .nameAndType 109 110), (0, u "jdk/internal/util/Preconditions"), (0, u "checkIndex"), (0, u "(IILjava/util/function/BiFunction;)I"), (60, u "(II)I")] 12

def k23m0 : Method := ⟨"<init>", "()V", ⟨[], none⟩, 2, none⟩
def k23c1 : Code := ⟨2, 1, jdk_31_method_10_code, #[], #[]⟩
def k23m1 : Method := ⟨"requireNonNull", "(Ljava/lang/Object;)Ljava/lang/Object;", ⟨[(.object "java/lang/Object")], some (.object "java/lang/Object")⟩, 9, some k23c1⟩
def k23c2 : Code := ⟨3, 2, jdk_31_method_17_code, #[], #[]⟩
def k23m2 : Method := ⟨"checkIndex", "(II)I", ⟨[.int, .int], some .int⟩, 9, some k23c2⟩
/-- java/util/Objects -/
def k23 : Class := { plain "java/util/Objects" (some 0) with
  accessFlags := 49
  interfaces := #[]
  cf := some (fileOf pool23 42 #[] #[⟨2, 5, 6, #[]⟩, ⟨9, 45, 46, #[]⟩, ⟨9, 109, 171, #[]⟩] 49 2 #[] #[])
  fields := #[]
  methods := #[k23m0, k23m1, k23m2]
  instanceTypes := #[]
  staticTypes := #[]
  resolved := Array.replicate 184 none
  statics := none }

def pool24 : Array CpInfo := pool [(1, .methodref 2 3), (0, .class_ 4), (0, .nameAndType 5 6), (0, u "java/lang/Object"), (0, u "<init>"), (0, u "()V"), (0, .fieldref 8 9), (0, .class_ 10), (0, .nameAndType 11 12), (0, u "com/example/keyturn/keyturn/Options"), (0, u "values"), (0, u "Ljava/util/Map;"), (0, .fieldref 8 14), (0, .nameAndType 15 16), (0, u "operands"), (0, u "Ljava/util/List;"), (0, .fieldref 8 18), (0, .nameAndType 19 16), (0, u "operandNames"), (0, .fieldref 8 21), (0, .nameAndType 22 23), (0, u "usage"), (0, u "Ljava/lang/String;"), (0, .interfaceMethodref 25 26), (0, .class_ 27), (0, .nameAndType 28 29), (0, u "java/util/Set"), (0, u "of"), (0, u "()Ljava/util/Set;"), (0, .methodref 8 31), (0, .nameAndType 32 33), (0, u "parse"), (0, u "(Ljava/util/List;Ljava/util/Set;Ljava/util/Set;Ljava/util/Set;Ljava/util/List;Ljava/lang/String;)Lcom/example/keyturn/keyturn/Options;"), (0, .class_ 35), (0, u "java/util/HashMap"), (0, .methodref 34 3), (0, .class_ 38), (0, u "java/util/ArrayList"), (0, .methodref 37 3), (0, .interfaceMethodref 41 42), (0, .class_ 43), (0, .nameAndType 44 45), (0, u "java/util/List"), (0, u "size"), (0, u "()I"), (0, .interfaceMethodref 41 47), (0, .nameAndType 48 49), (0, u "get"), (0, u "(I)Ljava/lang/Object;"), (0, .class_ 51), (0, u "java/lang/String"), (0, .string 53), (0, u "--"), (0, .methodref 50 55), (0, .nameAndType 56 57), (0, u "equals"), (0, u "(Ljava/lang/Object;)Z"), (0, .methodref 50 59), (0, .nameAndType 60 61), (0, u "startsWith"), (0, u "(Ljava/lang/String;)Z"), (0, .interfaceMethodref 41 63), (0, .nameAndType 64 57), (0, u "add"), (0, .interfaceMethodref 25 66), (0, .nameAndType 67 57), (0, u "contains"), (10, .interfaceMethodref 79 80), (0, .class_ 81), (0, .nameAndType 82 57), (0, u "java/util/Map"), (0, u "containsKey"), (1, .invokeDynamic 3 85), (0, .nameAndType 86 87), (0, u "apply"), (0, u "()Ljava/util/function/Function;"), (0, .interfaceMethodref 79 89), (0, .nameAndType 90 91), (0, u "computeIfAbsent"), (0, u "(Ljava/lang/Object;Ljava/util/function/Function;)Ljava/lang/Object;"), (0, .methodref 93 94), (0, .class_ 95), (0, .nameAndType 96 97), (0, u "java/lang/Math"), (0, u "min"), (0, u "(II)I"), (0, .interfaceMethodref 41 99), (0, .nameAndType 100 101), (0, u "subList"), (0, u "(II)Ljava/util/List;"), (0, .interfaceMethodref 41 103), (0, .nameAndType 104 105), (0, u "addAll"), (0, u "(Ljava/util/Collection;)Z"), (2, .interfaceMethodref 41 109), (0, .nameAndType 110 111), (0, u "copyOf"), (0, u "(Ljava/util/Collection;)Ljava/util/List;"), (0, .methodref 8 113), (0, .nameAndType 5 114), (0, u "(Ljava/util/Map;Ljava/util/List;Ljava/util/List;Ljava/lang/String;)V"), (7, u "(Ljava/lang/Object;)Ljava/lang/Object;"), (32, u "(Ljava/util/List;Ljava/util/Set;Ljava/util/List;Ljava/lang/String;)Lcom/example/keyturn/keyturn/Options;"), (2, u "all"), (0, u "(Ljava/lang/String;)Ljava/util/List;"), (4, .interfaceMethodref 41 165), (0, .nameAndType 28 166), (0, u "()Ljava/util/List;"), (0, .interfaceMethodref 79 168), (0, .nameAndType 169 170), (0, u "getOrDefault"), (0, u "(Ljava/lang/Object;Ljava/lang/Object;)Ljava/lang/Object;"), (0, .class_ 172), (0, u "java/util/Collection"), (21, u "operand"), (0, u "(I)Ljava/lang/String;"), (34, u "has"), (7, u "DURATION"), (0, u "Ljava/util/regex/Pattern;"), (42, u "MAX_DURATION"), (0, u "Ljava/time/Duration;"), (30, u "END_OF_OPTIONS"), (1, u "PROGRAM_USAGE"), (23, u "lambda$parse$0"), (10, .methodType 122), (0, .methodHandle 6 353), (0, .methodref 8 354), (0, .nameAndType 340 159), (0, .methodType 159), (30, .methodHandle 6 387), (0, .methodref 388 389), (0, .class_ 390), (0, .nameAndType 391 392), (0, u "java/lang/invoke/LambdaMetafactory"), (0, u "metafactory"), (0, u "(Ljava/lang/invoke/MethodHandles$Lookup;Ljava/lang/String;Ljava/lang/invoke/MethodType;Ljava/lang/invoke/MethodType;Ljava/lang/invoke/MethodHandle;Ljava/lang/invoke/MethodType;)Ljava/lang/invoke/CallSite;")] 6

def k24c0 : Code := ⟨2, 5, prog_16_method_1_code, #[], #[]⟩
def k24m0 : Method := ⟨"<init>", "(Ljava/util/Map;Ljava/util/List;Ljava/util/List;Ljava/lang/String;)V", ⟨[(.object "java/util/Map"), (.object "java/util/List"), (.object "java/util/List"), (.object "java/lang/String")], none⟩, 2, some k24c0⟩
def k24c1 : Code := ⟨6, 4, prog_16_method_2_code, #[], #[]⟩
def k24m1 : Method := ⟨"parse", "(Ljava/util/List;Ljava/util/Set;Ljava/util/List;Ljava/lang/String;)Lcom/example/keyturn/keyturn/Options;", ⟨[(.object "java/util/List"), (.object "java/util/Set"), (.object "java/util/List"), (.object "java/lang/String")], some (.object "com/example/keyturn/keyturn/Options")⟩, 8, some k24c1⟩
def k24c2 : Code := ⟨6, 12, prog_16_method_3_code, #[], #[]⟩
def k24m2 : Method := ⟨"parse", "(Ljava/util/List;Ljava/util/Set;Ljava/util/Set;Ljava/util/Set;Ljava/util/List;Ljava/lang/String;)Lcom/example/keyturn/keyturn/Options;", ⟨[(.object "java/util/List"), (.object "java/util/Set"), (.object "java/util/Set"), (.object "java/util/Set"), (.object "java/util/List"), (.object "java/lang/String")], some (.object "com/example/keyturn/keyturn/Options")⟩, 8, some k24c2⟩
def k24c3 : Code := ⟨3, 2, prog_16_method_6_code, #[], #[]⟩
def k24m3 : Method := ⟨"all", "(Ljava/lang/String;)Ljava/util/List;", ⟨[(.object "java/lang/String")], some (.object "java/util/List")⟩, 0, some k24c3⟩
def k24c4 : Code := ⟨2, 2, prog_16_method_7_code, #[], #[]⟩
def k24m4 : Method := ⟨"has", "(Ljava/lang/String;)Z", ⟨[(.object "java/lang/String")], some .boolean⟩, 0, some k24c4⟩
def k24c5 : Code := ⟨2, 2, prog_16_method_10_code, #[], #[]⟩
def k24m5 : Method := ⟨"operand", "(I)Ljava/lang/String;", ⟨[.int], some (.object "java/lang/String")⟩, 0, some k24c5⟩
def k24c6 : Code := ⟨2, 1, prog_16_method_19_code, #[], #[]⟩
def k24m6 : Method := ⟨"lambda$parse$0", "(Ljava/lang/String;)Ljava/util/List;", ⟨[(.object "java/lang/String")], some (.object "java/util/List")⟩, 4106, some k24c6⟩
/-- com/example/keyturn/keyturn/Options -/
def k24 : Class := { plain "com/example/keyturn/keyturn/Options" (some 0) with
  accessFlags := 48
  interfaces := #[]
  cf := some (fileOf pool24 8 #[.bootstrapMethods #[⟨0, #[]⟩, ⟨0, #[]⟩, ⟨0, #[]⟩, ⟨386, #[351, 352, 355]⟩, ⟨0, #[]⟩, ⟨0, #[]⟩, ⟨0, #[]⟩, ⟨0, #[]⟩, ⟨0, #[]⟩, ⟨0, #[]⟩, ⟨0, #[]⟩, ⟨0, #[]⟩, ⟨0, #[]⟩, ⟨0, #[]⟩]] #[⟨2, 5, 114, #[]⟩, ⟨8, 32, 155, #[]⟩, ⟨8, 32, 33, #[]⟩, ⟨0, 158, 159, #[]⟩, ⟨0, 230, 61, #[]⟩, ⟨0, 194, 195, #[]⟩, ⟨4106, 340, 159, #[]⟩] 48 2 #[] #[⟨26, 238, 239, #[]⟩, ⟨26, 282, 283, #[]⟩, ⟨26, 314, 23, #[]⟩, ⟨26, 316, 23, #[]⟩, ⟨18, 11, 12, #[]⟩, ⟨18, 15, 16, #[]⟩, ⟨18, 19, 16, #[]⟩, ⟨18, 22, 23, #[]⟩])
  fields := #[⟨"DURATION", (.object "java/util/regex/Pattern"), 26, 0, 0⟩, ⟨"MAX_DURATION", (.object "java/time/Duration"), 26, 1, 0⟩, ⟨"END_OF_OPTIONS", (.object "java/lang/String"), 26, 2, 0⟩, ⟨"PROGRAM_USAGE", (.object "java/lang/String"), 26, 3, 0⟩, ⟨"values", (.object "java/util/Map"), 18, 0, 0⟩, ⟨"operands", (.object "java/util/List"), 18, 1, 0⟩, ⟨"operandNames", (.object "java/util/List"), 18, 2, 0⟩, ⟨"usage", (.object "java/lang/String"), 18, 3, 0⟩]
  methods := #[k24m0, k24m1, k24m2, k24m3, k24m4, k24m5, k24m6]
  instanceTypes := #[(.object "java/util/Map"), (.object "java/util/List"), (.object "java/util/List"), (.object "java/lang/String")]
  staticTypes := #[(.object "java/util/regex/Pattern"), (.object "java/time/Duration"), (.object "java/lang/String"), (.object "java/lang/String")]
  resolved := Array.replicate 399 none
  callSites := [(2, 244, .constant 5)]
  statics := none }

def pool25 : Array CpInfo := pool [(2, .class_ 4), (1, u "java/lang/Object"), (0, u "<init>"), (0, u "()V"), (3, .class_ 11), (0, u "java/util/ImmutableCollections$List12"), (0, .class_ 13), (0, u "java/util/ImmutableCollections$ListN"), (0, .fieldref 12 15), (0, .nameAndType 16 17), (0, u "allowNulls"), (0, u "Z"), (0, .class_ 19), (0, u "java/util/List"), (0, .interfaceMethodref 21 22), (0, .class_ 23), (0, .nameAndType 24 25), (0, u "java/util/Collection"), (0, u "isEmpty"), (0, u "()Z"), (0, .interfaceMethodref 18 27), (0, .nameAndType 28 29), (0, u "of"), (0, u "()Ljava/util/List;"), (0, .interfaceMethodref 21 31), (0, .nameAndType 32 33), (0, u "toArray"), (0, u "()[Ljava/lang/Object;"), (0, .interfaceMethodref 18 35), (0, .nameAndType 28 36), (0, u "([Ljava/lang/Object;)Ljava/util/List;"), (0, .methodref 38 39), (0, .class_ 40), (0, .nameAndType 41 42), (0, u "java/util/Objects"), (0, u "requireNonNull"), (0, u "(Ljava/lang/Object;)Ljava/lang/Object;"), (0, .methodref 12 44), (0, .nameAndType 5 45), (0, u "([Ljava/lang/Object;Z)V"), (1, .class_ 49), (1, u "java/util/ImmutableCollections"), (0, u "$assertionsDisabled"), (5, u "[Ljava/lang/Object;"), (5, u "EMPTY_LIST"), (0, u "Ljava/util/ImmutableCollections$ListN;"), (8, u "EMPTY_LIST_NULLS"), (22, u "SALT32L"), (0, u "J"), (2, u "REVERSE"), (6, u "archivedObjects"), (2, u "EMPTY"), (0, u "Ljava/lang/Object;"), (0, .class_ 112), (0, u "java/util/ImmutableCollections$SetN"), (5, u "EMPTY_SET"), (0, u "Ljava/util/ImmutableCollections$SetN;"), (0, .class_ 121), (0, u "java/util/ImmutableCollections$MapN"), (3, u "EMPTY_MAP"), (0, u "Ljava/util/ImmutableCollections$MapN;"), (4, u "EXPAND_FACTOR"), (0, u "I"), (9, u "listCopy"), (0, u "(Ljava/util/Collection;)Ljava/util/List;"), (7, u "listFromArray"), (17, .class_ 170), (0, u "java/util/ImmutableCollections$MapN$MapNIterator"), (0, .class_ 172), (0, u "java/util/ImmutableCollections$MapN$1"), (0, .class_ 174), (0, u "java/util/ImmutableCollections$Map1"), (0, .class_ 176), (0, u "java/util/ImmutableCollections$AbstractImmutableMap"), (0, .class_ 178), (0, u "java/util/ImmutableCollections$SetN$SetNIterator"), (0, .class_ 180), (0, u "java/util/ImmutableCollections$Set12"), (0, .class_ 182), (0, u "java/util/ImmutableCollections$Set12$1"), (0, .class_ 184), (0, u "java/util/ImmutableCollections$AbstractImmutableSet"), (0, .class_ 186), (0, u "java/util/ImmutableCollections$SubList"), (0, .class_ 188), (0, u "java/util/ImmutableCollections$ListItr"), (0, .class_ 190), (0, u "java/util/ImmutableCollections$AbstractImmutableList"), (0, .class_ 192), (0, u "java/util/ImmutableCollections$AbstractImmutableCollection"), (0, .class_ 194), (0, u "java/util/ImmutableCollections$Access"), (0, .class_ 196), (0, u "java/util/ImmutableCollections$Access$1")] 16

def k25m0 : Method := ⟨"<init>", "()V", ⟨[], none⟩, 2, none⟩
def k25c1 : Code := ⟨1, 2, jdk_56_method_3_code, #[], #[]⟩
def k25m1 : Method := ⟨"listCopy", "(Ljava/util/Collection;)Ljava/util/List;", ⟨[(.object "java/util/Collection")], some (.object "java/util/List")⟩, 8, some k25c1⟩
def k25c2 : Code := ⟨4, 3, jdk_56_method_4_code, #[], #[]⟩
def k25m2 : Method := ⟨"listFromArray", "([Ljava/lang/Object;)Ljava/util/List;", ⟨[(.array (.object "java/lang/Object"))], some (.object "java/util/List")⟩, 136, some k25c2⟩
/-- java/util/ImmutableCollections -/
def k25 : Class := { plain "java/util/ImmutableCollections" (some 0) with
  accessFlags := 32
  interfaces := #[]
  cf := some (fileOf pool25 47 #[.nestMembers #[120, 169, 171, 173, 175, 111, 177, 179, 181, 183, 12, 10, 185, 187, 189, 191, 193, 195]] #[⟨2, 5, 6, #[]⟩, ⟨8, 142, 143, #[]⟩, ⟨136, 151, 36, #[]⟩] 32 2 #[] #[⟨26, 95, 96, #[]⟩, ⟨26, 99, 17, #[]⟩, ⟨10, 106, 56, #[]⟩, ⟨26, 109, 110, #[]⟩, ⟨24, 62, 63, #[]⟩, ⟨24, 72, 63, #[]⟩, ⟨24, 118, 119, #[]⟩, ⟨24, 125, 126, #[]⟩, ⟨24, 131, 132, #[]⟩, ⟨4120, 50, 17, #[]⟩])
  fields := #[⟨"SALT32L", .long, 26, 0, 0⟩, ⟨"REVERSE", .boolean, 26, 1, 0⟩, ⟨"archivedObjects", (.array (.object "java/lang/Object")), 10, 2, 0⟩, ⟨"EMPTY", (.object "java/lang/Object"), 26, 3, 0⟩, ⟨"EMPTY_LIST", (.object "java/util/ImmutableCollections$ListN"), 24, 4, 0⟩, ⟨"EMPTY_LIST_NULLS", (.object "java/util/ImmutableCollections$ListN"), 24, 5, 0⟩, ⟨"EMPTY_SET", (.object "java/util/ImmutableCollections$SetN"), 24, 6, 0⟩, ⟨"EMPTY_MAP", (.object "java/util/ImmutableCollections$MapN"), 24, 7, 0⟩, ⟨"EXPAND_FACTOR", .int, 24, 8, 0⟩, ⟨"$assertionsDisabled", .boolean, 4120, 9, 0⟩]
  methods := #[k25m0, k25m1, k25m2]
  instanceTypes := #[]
  staticTypes := #[.long, .boolean, (.array (.object "java/lang/Object")), (.object "java/lang/Object"), (.object "java/util/ImmutableCollections$ListN"), (.object "java/util/ImmutableCollections$ListN"), (.object "java/util/ImmutableCollections$SetN"), (.object "java/util/ImmutableCollections$MapN"), .int, .boolean]
  resolved := Array.replicate 213 none
  statics := some 2 }

def pool26 : Array CpInfo := pool [(2, .class_ 4), (1, u "java/util/Map"), (4, u "containsKey"), (0, u "(Ljava/lang/Object;)Z"), (25, .class_ 37), (0, u "java/util/Map$Entry"), (25, u "(Ljava/lang/Object;Ljava/lang/Object;)Ljava/lang/Object;"), (29, .class_ 94), (0, u "java/lang/Object"), (43, u "getOrDefault"), (41, u "computeIfAbsent"), (0, u "(Ljava/lang/Object;Ljava/util/function/Function;)Ljava/lang/Object;")] 81

def k26m0 : Method := ⟨"containsKey", "(Ljava/lang/Object;)Z", ⟨[(.object "java/lang/Object")], some .boolean⟩, 1025, none⟩
def k26c1 : Code := ⟨2, 4, ⟨#[0x2a, 0x2b, 0xb9, 0x00, 0x01, 0x02, 0x00, 0x59, 0x4e, 0xc7, 0x00, 0x0d, 0x2a, 0x2b, 0xb9, 0x00, 0x07, 0x02, 0x00, 0x99, 0x00, 0x07, 0x2d, 0xa7, 0x00, 0x04, 0x2c, 0xb0]⟩, #[], #[]⟩
def k26m1 : Method := ⟨"getOrDefault", "(Ljava/lang/Object;Ljava/lang/Object;)Ljava/lang/Object;", ⟨[(.object "java/lang/Object"), (.object "java/lang/Object")], some (.object "java/lang/Object")⟩, 1, some k26c1⟩
def k26c2 : Code := ⟨3, 5, ⟨#[0x2c, 0xb8, 0x00, 0x0b, 0x57, 0x2a, 0x2b, 0xb9, 0x00, 0x01, 0x02, 0x00, 0x59, 0x4e, 0xc7, 0x00, 0x1d, 0x2c, 0x2b, 0xb9, 0x00, 0x4d, 0x02, 0x00, 0x59, 0x3a, 0x04, 0xc6, 0x00, 0x10, 0x2a, 0x2b, 0x19, 0x04, 0xb9, 0x00, 0x43, 0x03, 0x00, 0x57, 0x19, 0x04, 0xb0, 0x2d, 0xb0]⟩, #[], #[]⟩
def k26m2 : Method := ⟨"computeIfAbsent", "(Ljava/lang/Object;Ljava/util/function/Function;)Ljava/lang/Object;", ⟨[(.object "java/lang/Object"), (.object "java/util/function/Function")], some (.object "java/lang/Object")⟩, 1, some k26c2⟩
/-- java/util/Map -/
def k26 : Class := { plain "java/util/Map" (some 0) with
  accessFlags := 1537
  interfaces := #[]
  cf := some (fileOf pool26 2 #[.nestMembers #[36]] #[⟨1025, 9, 10, #[]⟩, ⟨1, 138, 63, #[]⟩, ⟨1, 180, 181, #[]⟩] 1537 93 #[] #[])
  fields := #[]
  methods := #[k26m0, k26m1, k26m2]
  instanceTypes := #[]
  staticTypes := #[]
  resolved := Array.replicate 263 none
  statics := none }

def pool27 : Array CpInfo := pool [(1, .methodref 2 3), (0, .class_ 4), (0, .nameAndType 5 6), (0, u "java/lang/Object"), (0, u "<init>"), (0, u "()V"), (1, .class_ 10), (1, u "java/util/AbstractMap"), (42, .class_ 54), (0, u "java/util/Map"), (9, u "keySet"), (0, u "Ljava/util/Set;"), (0, .class_ 67), (0, u "java/util/AbstractMap$1"), (5, u "values"), (0, u "Ljava/util/Collection;"), (0, .class_ 76), (0, u "java/util/AbstractMap$2"), (104, .class_ 182), (0, u "java/util/AbstractMap$ViewCollection"), (0, .class_ 184), (0, u "java/util/AbstractMap$SimpleImmutableEntry"), (0, .class_ 186), (0, u "java/util/AbstractMap$SimpleEntry"), (0, .class_ 188), (0, u "java/util/AbstractMap$2$1"), (0, .class_ 190), (0, u "java/util/AbstractMap$1$1")] 5

def k27c0 : Code := ⟨1, 1, jdk_71_method_1_code, #[], #[]⟩
def k27m0 : Method := ⟨"<init>", "()V", ⟨[], none⟩, 4, some k27c0⟩
/-- java/util/AbstractMap -/
def k27 : Class := { plain "java/util/AbstractMap" (some 0) with
  accessFlags := 1057
  interfaces := #[26]
  cf := some (fileOf pool27 8 #[.nestMembers #[181, 183, 185, 75, 187, 66, 189]] #[⟨4, 5, 6, #[]⟩] 1057 2 #[53] #[⟨128, 64, 65, #[]⟩, ⟨128, 73, 74, #[]⟩])
  fields := #[⟨"keySet", (.object "java/util/Set"), 128, 0, 0⟩, ⟨"values", (.object "java/util/Collection"), 128, 1, 0⟩]
  methods := #[k27m0]
  instanceTypes := #[(.object "java/util/Set"), (.object "java/util/Collection")]
  staticTypes := #[]
  resolved := Array.replicate 196 none
  statics := none }

def pool28 : Array CpInfo := pool [(1, .methodref 2 3), (0, .class_ 4), (0, .nameAndType 5 6), (0, u "java/lang/Object"), (0, u "hashCode"), (0, u "()I"), (26, u "(Ljava/lang/Object;)I"), (6, .class_ 41), (0, u "java/util/HashMap"), (1, .methodref 44 45), (0, .class_ 46), (0, .nameAndType 47 48), (0, u "java/util/AbstractMap"), (0, u "<init>"), (0, u "()V"), (32, .fieldref 40 82), (0, .nameAndType 83 84), (0, u "loadFactor"), (0, u "F"), (3, .fieldref 40 89), (0, .nameAndType 90 91), (0, u "threshold"), (0, u "I"), (0, .float 1061158912), (8, .class_ 103), (1, u "java/util/Map"), (0, u "size"), (0, .fieldref 40 106), (0, .nameAndType 107 108), (0, u "table"), (0, u "[Ljava/util/HashMap$Node;"), (8, .methodref 40 118), (0, .nameAndType 119 120), (0, u "resize"), (0, u "()[Ljava/util/HashMap$Node;"), (2, u "entrySet"), (25, .methodref 40 150), (0, .nameAndType 151 33), (0, u "hash"), (4, .fieldref 40 157), (0, .nameAndType 104 91), (0, .methodref 40 159), (0, .nameAndType 160 161), (0, u "getNode"), (0, u "(Ljava/lang/Object;)Ljava/util/HashMap$Node;"), (0, .fieldref 163 164), (0, .class_ 165), (0, .nameAndType 166 167), (0, u "java/util/HashMap$Node"), (0, u "value"), (0, u "Ljava/lang/Object;"), (0, .fieldref 163 169), (0, .nameAndType 151 91), (0, .fieldref 163 171), (0, .nameAndType 172 167), (0, u "key"), (3, u "(Ljava/lang/Object;)Z"), (3, .class_ 181), (0, u "java/util/HashMap$TreeNode"), (4, .methodref 40 187), (0, .nameAndType 188 189), (0, u "newNode"), (0, u "(ILjava/lang/Object;Ljava/lang/Object;Ljava/util/HashMap$Node;)Ljava/util/HashMap$Node;"), (12, .fieldref 40 203), (0, .nameAndType 204 91), (0, u "modCount"), (0, .methodref 40 206), (0, .nameAndType 207 208), (0, u "afterNodeInsertion"), (0, u "(Z)V"), (33, u "Ljava/util/Set;"), (0, .class_ 244), (0, u "java/util/HashMap$KeySet"), (18, .class_ 264), (0, u "java/util/HashMap$Values"), (3, .class_ 269), (0, u "java/util/HashMap$EntrySet"), (4, .interfaceMethodref 275 276), (0, .class_ 277), (0, .nameAndType 278 279), (0, u "java/util/function/Function"), (0, u "apply"), (0, u "(Ljava/lang/Object;)Ljava/lang/Object;"), (7, u "(Ljava/lang/Object;Ljava/lang/Object;)Ljava/lang/Object;"), (58, .class_ 348), (1, u "java/util/HashMap$UnsafeHolder"), (26, .methodref 163 376), (0, .nameAndType 47 377), (0, u "(ILjava/lang/Object;Ljava/lang/Object;Ljava/util/HashMap$Node;)V"), (14, .class_ 393), (0, u "java/lang/Cloneable"), (0, .class_ 395), (0, u "java/io/Serializable"), (0, u "serialVersionUID"), (0, u "J"), (3, u "DEFAULT_INITIAL_CAPACITY"), (1, u "MAXIMUM_CAPACITY"), (0, u "DEFAULT_LOAD_FACTOR"), (0, u "TREEIFY_THRESHOLD"), (1, u "UNTREEIFY_THRESHOLD"), (1, u "MIN_TREEIFY_CAPACITY"), (59, u "containsKey"), (54, u "getOrDefault"), (8, u "computeIfAbsent"), (0, u "(Ljava/lang/Object;Ljava/util/function/Function;)Ljava/lang/Object;"), (61, .class_ 597), (0, u "java/util/HashMap$EntrySpliterator"), (0, .class_ 599), (0, u "java/util/HashMap$ValueSpliterator"), (0, .class_ 601), (0, u "java/util/HashMap$KeySpliterator"), (0, .class_ 603), (0, u "java/util/HashMap$HashMapSpliterator"), (0, .class_ 605), (0, u "java/util/HashMap$EntryIterator"), (0, .class_ 607), (0, u "java/util/HashMap$ValueIterator"), (0, .class_ 609), (0, u "java/util/HashMap$KeyIterator"), (0, .class_ 611), (0, u "java/util/HashMap$HashIterator")] 17

def k28c0 : Code := ⟨3, 2, jdk_69_method_1_code, #[], #[]⟩
def k28m0 : Method := ⟨"hash", "(Ljava/lang/Object;)I", ⟨[(.object "java/lang/Object")], some .int⟩, 24, some k28c0⟩
def k28c1 : Code := ⟨2, 1, jdk_69_method_7_code, #[], #[]⟩
def k28m1 : Method := ⟨"<init>", "()V", ⟨[], none⟩, 1, some k28c1⟩
def k28c2 : Code := ⟨4, 8, jdk_69_method_13_code, #[], #[]⟩
def k28m2 : Method := ⟨"getNode", "(Ljava/lang/Object;)Ljava/util/HashMap$Node;", ⟨[(.object "java/lang/Object")], some (.object "java/util/HashMap$Node")⟩, 16, some k28c2⟩
def k28c3 : Code := ⟨2, 2, jdk_69_method_14_code, #[], #[]⟩
def k28m3 : Method := ⟨"containsKey", "(Ljava/lang/Object;)Z", ⟨[(.object "java/lang/Object")], some .boolean⟩, 1, some k28c3⟩
def k28c4 : Code := ⟨5, 14, jdk_69_method_17_code, #[], #[]⟩
def k28m4 : Method := ⟨"resize", "()[Ljava/util/HashMap$Node;", ⟨[], some (.array (.object "java/util/HashMap$Node"))⟩, 16, some k28c4⟩
def k28c5 : Code := ⟨2, 4, jdk_69_method_30_code, #[], #[]⟩
def k28m5 : Method := ⟨"getOrDefault", "(Ljava/lang/Object;Ljava/lang/Object;)Ljava/lang/Object;", ⟨[(.object "java/lang/Object"), (.object "java/lang/Object")], some (.object "java/lang/Object")⟩, 1, some k28c5⟩
def k28c6 : Code := ⟨7, 13, jdk_69_method_35_code, #[], #[]⟩
def k28m6 : Method := ⟨"computeIfAbsent", "(Ljava/lang/Object;Ljava/util/function/Function;)Ljava/lang/Object;", ⟨[(.object "java/lang/Object"), (.object "java/util/function/Function")], some (.object "java/lang/Object")⟩, 1, some k28c6⟩
def k28c7 : Code := ⟨6, 5, jdk_69_method_46_code, #[], #[]⟩
def k28m7 : Method := ⟨"newNode", "(ILjava/lang/Object;Ljava/lang/Object;Ljava/util/HashMap$Node;)Ljava/util/HashMap$Node;", ⟨[.int, (.object "java/lang/Object"), (.object "java/lang/Object"), (.object "java/util/HashMap$Node")], some (.object "java/util/HashMap$Node")⟩, 0, some k28c7⟩
def k28c8 : Code := ⟨0, 2, jdk_69_method_52_code, #[], #[]⟩
def k28m8 : Method := ⟨"afterNodeInsertion", "(Z)V", ⟨[.boolean], none⟩, 0, some k28c8⟩
/-- java/util/HashMap -/
def k28 : Class := { plain "java/util/HashMap" (some 27) with
  accessFlags := 33
  interfaces := #[26, 17, 2]
  cf := some (fileOf pool28 40 #[.nestMembers #[180, 596, 598, 600, 602, 604, 606, 608, 610, 346, 268, 263, 243, 163]] #[⟨24, 151, 33, #[]⟩, ⟨1, 47, 48, #[]⟩, ⟨16, 160, 161, #[]⟩, ⟨1, 469, 176, #[]⟩, ⟨16, 119, 120, #[]⟩, ⟨1, 524, 287, #[]⟩, ⟨1, 533, 534, #[]⟩, ⟨0, 188, 189, #[]⟩, ⟨0, 207, 208, #[]⟩] 33 44 #[101, 392, 394] #[⟨26, 396, 397, #[]⟩, ⟨24, 401, 91, #[]⟩, ⟨24, 403, 91, #[]⟩, ⟨24, 404, 84, #[]⟩, ⟨24, 405, 91, #[]⟩, ⟨24, 407, 91, #[]⟩, ⟨24, 409, 91, #[]⟩, ⟨128, 107, 108, #[]⟩, ⟨128, 123, 242, #[]⟩, ⟨128, 104, 91, #[]⟩, ⟨128, 204, 91, #[]⟩, ⟨0, 90, 91, #[]⟩, ⟨16, 83, 84, #[]⟩])
  fields := #[⟨"serialVersionUID", .long, 26, 0, 0⟩, ⟨"DEFAULT_INITIAL_CAPACITY", .int, 24, 1, 0⟩, ⟨"MAXIMUM_CAPACITY", .int, 24, 2, 0⟩, ⟨"DEFAULT_LOAD_FACTOR", .float, 24, 3, 0⟩, ⟨"TREEIFY_THRESHOLD", .int, 24, 4, 0⟩, ⟨"UNTREEIFY_THRESHOLD", .int, 24, 5, 0⟩, ⟨"MIN_TREEIFY_CAPACITY", .int, 24, 6, 0⟩, ⟨"table", (.array (.object "java/util/HashMap$Node")), 128, 2, 0⟩, ⟨"entrySet", (.object "java/util/Set"), 128, 3, 0⟩, ⟨"size", .int, 128, 4, 0⟩, ⟨"modCount", .int, 128, 5, 0⟩, ⟨"threshold", .int, 0, 6, 0⟩, ⟨"loadFactor", .float, 16, 7, 0⟩]
  methods := #[k28m0, k28m1, k28m2, k28m3, k28m4, k28m5, k28m6, k28m7, k28m8]
  instanceTypes := #[(.object "java/util/Set"), (.object "java/util/Collection"), (.array (.object "java/util/HashMap$Node")), (.object "java/util/Set"), .int, .int, .int, .float]
  staticTypes := #[.long, .int, .int, .float, .int, .int, .int]
  resolved := Array.replicate 629 none
  statics := none }

def pool29 : Array CpInfo := pool [(1, .class_ 2), (0, u "java/lang/Math"), (1, .class_ 6), (1, u "java/lang/Object"), (0, u "<init>"), (0, u "()V"), (89, .class_ 100), (1, u "java/lang/Math$RandomNumberGeneratorHolder"), (71, u "negativeZeroFloatBits"), (0, u "J"), (2, u "negativeZeroDoubleBits"), (21, u "max"), (2, u "min"), (43, u "$assertionsDisabled"), (0, u "Z"), (88, u "(II)I"), (2, u "twoToTheDoubleScaleDown"), (0, u "D"), (4, u "twoToTheDoubleScaleUp"), (9, u "E"), (3, u "PI"), (2, u "TAU"), (2, u "DEGREES_TO_RADIANS"), (0, u "RADIANS_TO_DEGREES")] 94

def k29m0 : Method := ⟨"<init>", "()V", ⟨[], none⟩, 2, none⟩
def k29c1 : Code := ⟨2, 2, jdk_29_method_65_code, #[], #[]⟩
def k29m1 : Method := ⟨"max", "(II)I", ⟨[.int, .int], some .int⟩, 9, some k29c1⟩
def k29c2 : Code := ⟨2, 2, jdk_29_method_69_code, #[], #[]⟩
def k29m2 : Method := ⟨"min", "(II)I", ⟨[.int, .int], some .int⟩, 9, some k29c2⟩
/-- java/lang/Math -/
def k29 : Class := { plain "java/lang/Math" (some 0) with
  accessFlags := 49
  interfaces := #[]
  cf := some (fileOf pool29 1 #[.nestMembers #[98]] #[⟨2, 7, 8, #[]⟩, ⟨9, 198, 335, #[]⟩, ⟨9, 201, 335, #[]⟩] 49 4 #[] #[⟨25, 354, 339, #[]⟩, ⟨25, 358, 339, #[]⟩, ⟨25, 361, 339, #[]⟩, ⟨26, 364, 339, #[]⟩, ⟨26, 365, 339, #[]⟩, ⟨26, 172, 173, #[]⟩, ⟨26, 176, 173, #[]⟩, ⟨8, 344, 339, #[]⟩, ⟨8, 338, 339, #[]⟩, ⟨4120, 245, 246, #[]⟩])
  fields := #[⟨"E", .double, 25, 0, 0⟩, ⟨"PI", .double, 25, 1, 0⟩, ⟨"TAU", .double, 25, 2, 0⟩, ⟨"DEGREES_TO_RADIANS", .double, 26, 3, 0⟩, ⟨"RADIANS_TO_DEGREES", .double, 26, 4, 0⟩, ⟨"negativeZeroFloatBits", .long, 26, 5, 0⟩, ⟨"negativeZeroDoubleBits", .long, 26, 6, 0⟩, ⟨"twoToTheDoubleScaleUp", .double, 8, 7, 0⟩, ⟨"twoToTheDoubleScaleDown", .double, 8, 8, 0⟩, ⟨"$assertionsDisabled", .boolean, 4120, 9, 0⟩]
  methods := #[k29m0, k29m1, k29m2]
  instanceTypes := #[]
  staticTypes := #[.double, .double, .double, .double, .double, .long, .long, .double, .double, .boolean]
  resolved := Array.replicate 460 none
  statics := none }

def pool30 : Array CpInfo := pool [(1, .methodref 2 3), (0, .class_ 4), (0, .nameAndType 5 6), (0, u "java/util/AbstractList"), (0, u "<init>"), (0, u "()V"), (0, .fieldref 8 9), (0, .class_ 10), (0, .nameAndType 11 12), (0, u "java/util/ArrayList$SubList"), (0, u "root"), (0, u "Ljava/util/ArrayList;"), (0, .fieldref 8 14), (0, .nameAndType 15 16), (0, u "parent"), (0, u "Ljava/util/ArrayList$SubList;"), (0, .fieldref 8 18), (0, .nameAndType 19 20), (0, u "offset"), (0, u "I"), (0, .fieldref 8 22), (0, .nameAndType 23 20), (0, u "size"), (0, .fieldref 25 26), (0, .class_ 27), (0, .nameAndType 28 20), (0, u "java/util/ArrayList"), (0, u "modCount"), (0, .fieldref 8 26), (6, .methodref 8 37), (0, .nameAndType 38 6), (0, u "checkForComodification"), (2, u "elementData"), (1, .fieldref 25 44), (0, .nameAndType 41 45), (0, u "[Ljava/lang/Object;"), (44, .methodref 91 92), (0, .class_ 93), (0, .nameAndType 94 95), (0, u "java/util/Arrays"), (0, u "copyOfRange"), (0, u "([Ljava/lang/Object;II)[Ljava/lang/Object;"), (86, .class_ 183), (0, u "java/util/RandomAccess"), (3, u "(Ljava/util/ArrayList;II)V"), (49, u "toArray"), (0, u "()[Ljava/lang/Object;")] 31

def k30c0 : Code := ⟨3, 4, jdk_130_method_1_code, #[], #[]⟩
def k30m0 : Method := ⟨"<init>", "(Ljava/util/ArrayList;II)V", ⟨[(.object "java/util/ArrayList"), .int, .int], none⟩, 1, some k30c0⟩
def k30c1 : Code := ⟨4, 1, jdk_130_method_16_code, #[], #[]⟩
def k30m1 : Method := ⟨"toArray", "()[Ljava/lang/Object;", ⟨[], some (.array (.object "java/lang/Object"))⟩, 1, some k30c1⟩
def k30c2 : Code := ⟨2, 1, jdk_130_method_28_code, #[], #[]⟩
def k30m2 : Method := ⟨"checkForComodification", "()V", ⟨[], none⟩, 2, some k30c2⟩
/-- java/util/ArrayList$SubList -/
def k30 : Class := { plain "java/util/ArrayList$SubList" (some 15) with
  accessFlags := 32
  interfaces := #[16]
  cf := some (fileOf pool30 8 #[.nestHost 25] #[⟨1, 5, 187, #[]⟩, ⟨1, 237, 238, #[]⟩, ⟨2, 38, 6, #[]⟩] 32 2 #[182] #[⟨18, 11, 12, #[]⟩, ⟨18, 15, 16, #[]⟩, ⟨18, 19, 20, #[]⟩, ⟨2, 23, 20, #[]⟩])
  fields := #[⟨"root", (.object "java/util/ArrayList"), 18, 1, 0⟩, ⟨"parent", (.object "java/util/ArrayList$SubList"), 18, 2, 0⟩, ⟨"offset", .int, 18, 3, 0⟩, ⟨"size", .int, 2, 4, 0⟩]
  methods := #[k30m0, k30m1, k30m2]
  instanceTypes := #[.int, (.object "java/util/ArrayList"), (.object "java/util/ArrayList$SubList"), .int, .int]
  staticTypes := #[]
  resolved := Array.replicate 270 none
  statics := none }

def pool31 : Array CpInfo := pool [(2, .class_ 4), (1, u "java/lang/Object"), (0, u "<init>"), (0, u "()V"), (7, .class_ 16), (1, u "java/util/Arrays"), (57, .class_ 76), (1, u "java/util/Arrays$NaturalOrder"), (9, .methodref 2 87), (0, .nameAndType 88 89), (0, u "getClass"), (0, u "()Ljava/lang/Class;"), (20, .class_ 111), (0, u "[Ljava/lang/Object;"), (1, .class_ 115), (1, u "java/util/Arrays$LegacyMergeSort"), (1, u "Z"), (21, u "copyOfRange"), (0, u "([Ljava/lang/Object;II)[Ljava/lang/Object;"), (9, .methodref 151 152), (0, .class_ 153), (0, .nameAndType 154 155), (0, u "java/lang/System"), (0, u "arraycopy"), (0, u "(Ljava/lang/Object;ILjava/lang/Object;II)V"), (144, .methodref 14 301), (0, .nameAndType 302 303), (0, u "copyOf"), (0, u "([Ljava/lang/Object;ILjava/lang/Class;)[Ljava/lang/Object;"), (0, .methodref 305 306), (0, .class_ 307), (0, .nameAndType 308 309), (0, u "java/lang/Math"), (0, u "min"), (0, u "(II)I"), (24, .methodref 14 335), (0, .nameAndType 139 336), (0, u "([Ljava/lang/Object;IILjava/lang/Class;)[Ljava/lang/Object;"), (38, .class_ 376), (0, u "java/util/Arrays$ArrayList"), (68, u "$assertionsDisabled"), (269, u "MIN_ARRAY_SORT_GRAN"), (0, u "I"), (2, u "INSERTIONSORT_THRESHOLD"), (140, u "([Ljava/lang/Object;I)[Ljava/lang/Object;"), (114, .class_ 976), (0, u "java/util/Arrays$ArrayItr")] 52

def k31m0 : Method := ⟨"<init>", "()V", ⟨[], none⟩, 2, none⟩
def k31c1 : Code := ⟨3, 2, jdk_65_method_119_code, #[], #[]⟩
def k31m1 : Method := ⟨"copyOf", "([Ljava/lang/Object;I)[Ljava/lang/Object;", ⟨[(.array (.object "java/lang/Object")), .int], some (.array (.object "java/lang/Object"))⟩, 9, some k31c1⟩
def k31c2 : Code := ⟨6, 4, jdk_65_method_120_code, #[], #[]⟩
def k31m2 : Method := ⟨"copyOf", "([Ljava/lang/Object;ILjava/lang/Class;)[Ljava/lang/Object;", ⟨[(.array (.object "java/lang/Object")), .int, (.object "java/lang/Class")], some (.array (.object "java/lang/Object"))⟩, 9, some k31c2⟩
def k31c3 : Code := ⟨4, 3, jdk_65_method_129_code, #[], #[]⟩
def k31m3 : Method := ⟨"copyOfRange", "([Ljava/lang/Object;II)[Ljava/lang/Object;", ⟨[(.array (.object "java/lang/Object")), .int, .int], some (.array (.object "java/lang/Object"))⟩, 9, some k31c3⟩
def k31c4 : Code := ⟨6, 6, jdk_65_method_130_code, #[], #[]⟩
def k31m4 : Method := ⟨"copyOfRange", "([Ljava/lang/Object;IILjava/lang/Class;)[Ljava/lang/Object;", ⟨[(.array (.object "java/lang/Object")), .int, .int, (.object "java/lang/Class")], some (.array (.object "java/lang/Object"))⟩, 9, some k31c4⟩
/-- java/util/Arrays -/
def k31 : Class := { plain "java/util/Arrays" (some 0) with
  accessFlags := 49
  interfaces := #[]
  cf := some (fileOf pool31 14 #[.nestMembers #[975, 375, 113, 74]] #[⟨2, 5, 6, #[]⟩, ⟨9, 302, 860, #[]⟩, ⟨9, 302, 303, #[]⟩, ⟨9, 139, 140, #[]⟩, ⟨9, 139, 336, #[]⟩] 49 2 #[] #[⟨26, 715, 716, #[]⟩, ⟨26, 719, 716, #[]⟩, ⟨4120, 445, 117, #[]⟩])
  fields := #[⟨"MIN_ARRAY_SORT_GRAN", .int, 26, 0, 0⟩, ⟨"INSERTIONSORT_THRESHOLD", .int, 26, 1, 0⟩, ⟨"$assertionsDisabled", .boolean, 4120, 2, 0⟩]
  methods := #[k31m0, k31m1, k31m2, k31m3, k31m4]
  instanceTypes := #[]
  staticTypes := #[.int, .int, .boolean]
  resolved := Array.replicate 1029 none
  statics := none }

def pool32 : Array CpInfo := pool [(2, .class_ 4), (1, u "java/lang/Object"), (0, u "<init>"), (0, u "()V"), (1, .class_ 10), (1, u "java/lang/System"), (0, u "allowSecurityManager"), (0, u "I"), (16, u "cons"), (0, u "Ljava/io/Console;"), (77, .class_ 110), (1, u "java/lang/System$CallersHolder"), (43, u "initialErrStream"), (0, u "Ljava/io/PrintStream;"), (19, u "security"), (0, u "Ljava/lang/SecurityManager;"), (31, .class_ 209), (0, u "java/lang/System$1"), (7, u "props"), (0, u "Ljava/util/Properties;"), (2, u "lineSeparator"), (0, u "Ljava/lang/String;"), (96, .class_ 321), (1, u "java/lang/System$LoggerFinder"), (5, .class_ 328), (0, u "java/lang/System$Logger"), (67, u "err"), (2, u "out"), (91, u "notSupportedJnuEncoding"), (15, u "in"), (17, u "initialIn"), (0, u "Ljava/io/InputStream;"), (35, u "bootLayer"), (0, u "Ljava/lang/ModuleLayer;"), (99, .class_ 664), (0, u "java/lang/System$2"), (9, u "NEVER"), (2, u "MAYBE"), (49, u "arraycopy"), (0, u "(Ljava/lang/Object;ILjava/lang/Object;II)V"), (72, .class_ 802), (0, u "java/lang/System$Logger$Level")] 31

def k32m0 : Method := ⟨"<init>", "()V", ⟨[], none⟩, 2, none⟩
def k32m1 : Method := ⟨"arraycopy", "(Ljava/lang/Object;ILjava/lang/Object;II)V", ⟨[(.object "java/lang/Object"), .int, (.object "java/lang/Object"), .int, .int], none⟩, 265, none⟩
/-- java/lang/System -/
def k32 : Class := { plain "java/lang/System" (some 0) with
  accessFlags := 49
  interfaces := #[]
  cf := some (fileOf pool32 8 #[.nestMembers #[319, 327, 801, 108, 663, 208]] #[⟨2, 5, 6, #[]⟩, ⟨265, 727, 728, #[]⟩] 49 2 #[] #[⟨25, 507, 526, #[]⟩, ⟨25, 399, 155, #[]⟩, ⟨25, 396, 155, #[]⟩, ⟨10, 525, 526, #[]⟩, ⟨26, 674, 12, #[]⟩, ⟨26, 677, 12, #[]⟩, ⟨10, 11, 12, #[]⟩, ⟨74, 175, 176, #[]⟩, ⟨10, 491, 222, #[]⟩, ⟨74, 29, 30, #[]⟩, ⟨74, 154, 155, #[]⟩, ⟨10, 217, 218, #[]⟩, ⟨10, 221, 222, #[]⟩, ⟨8, 562, 563, #[]⟩])
  fields := #[⟨"in", (.object "java/io/InputStream"), 25, 0, 0⟩, ⟨"out", (.object "java/io/PrintStream"), 25, 1, 0⟩, ⟨"err", (.object "java/io/PrintStream"), 25, 2, 0⟩, ⟨"initialIn", (.object "java/io/InputStream"), 10, 3, 0⟩, ⟨"NEVER", .int, 26, 4, 0⟩, ⟨"MAYBE", .int, 26, 5, 0⟩, ⟨"allowSecurityManager", .int, 10, 6, 0⟩, ⟨"security", (.object "java/lang/SecurityManager"), 74, 7, 0⟩, ⟨"notSupportedJnuEncoding", (.object "java/lang/String"), 10, 8, 0⟩, ⟨"cons", (.object "java/io/Console"), 74, 9, 0⟩, ⟨"initialErrStream", (.object "java/io/PrintStream"), 74, 10, 0⟩, ⟨"props", (.object "java/util/Properties"), 10, 11, 0⟩, ⟨"lineSeparator", (.object "java/lang/String"), 10, 12, 0⟩, ⟨"bootLayer", (.object "java/lang/ModuleLayer"), 8, 13, 0⟩]
  methods := #[k32m0, k32m1]
  instanceTypes := #[]
  staticTypes := #[(.object "java/io/InputStream"), (.object "java/io/PrintStream"), (.object "java/io/PrintStream"), (.object "java/io/InputStream"), .int, .int, .int, (.object "java/lang/SecurityManager"), (.object "java/lang/String"), (.object "java/io/Console"), (.object "java/io/PrintStream"), (.object "java/util/Properties"), (.object "java/lang/String"), (.object "java/lang/ModuleLayer")]
  resolved := Array.replicate 834 none
  statics := none }

def pool33 : Array CpInfo := pool [(1, .methodref 2 3), (0, .class_ 4), (0, .nameAndType 5 6), (0, u "java/util/ImmutableCollections$AbstractImmutableCollection"), (0, u "<init>"), (0, u "()V"), (1, .class_ 10), (1, u "java/util/ImmutableCollections"), (3, .class_ 16), (1, u "java/util/ImmutableCollections$AbstractImmutableList"), (60, .class_ 78), (0, u "java/util/List"), (45, .class_ 125), (0, u "java/util/RandomAccess")] 70

def k33c0 : Code := ⟨1, 1, jdk_46_method_1_code, #[], #[]⟩
def k33m0 : Method := ⟨"<init>", "()V", ⟨[], none⟩, 0, some k33c0⟩
/-- java/util/ImmutableCollections$AbstractImmutableList -/
def k33 : Class := { plain "java/util/ImmutableCollections$AbstractImmutableList" (some 20) with
  accessFlags := 1056
  interfaces := #[14, 16]
  cf := some (fileOf pool33 14 #[.nestHost 8] #[⟨0, 5, 6, #[]⟩] 1056 2 #[77, 124] #[])
  fields := #[]
  methods := #[k33m0]
  instanceTypes := #[]
  staticTypes := #[]
  resolved := Array.replicate 196 none
  statics := none }

def pool34 : Array CpInfo := pool [(1, .methodref 2 3), (0, .class_ 4), (0, .nameAndType 5 6), (0, u "java/util/ImmutableCollections$AbstractImmutableList"), (0, u "<init>"), (0, u "()V"), (0, .methodref 8 9), (0, .class_ 10), (0, .nameAndType 11 12), (0, u "java/util/Objects"), (0, u "requireNonNull"), (0, u "(Ljava/lang/Object;)Ljava/lang/Object;"), (0, .fieldref 14 15), (0, .class_ 16), (0, .nameAndType 17 18), (0, u "java/util/ImmutableCollections$List12"), (0, u "e0"), (0, u "Ljava/lang/Object;"), (0, .fieldref 20 21), (0, .class_ 22), (0, .nameAndType 23 18), (0, u "java/util/ImmutableCollections"), (0, u "EMPTY"), (0, .fieldref 14 25), (0, .nameAndType 26 18), (0, u "e1"), (24, u "size"), (0, u "()I"), (17, .class_ 71), (0, u "java/io/Serializable"), (4, u "(Ljava/lang/Object;)V"), (8, u "(Ljava/lang/Object;Ljava/lang/Object;)V"), (4, u "get"), (0, u "(I)Ljava/lang/Object;")] 33

def k34c0 : Code := ⟨2, 2, jdk_44_method_1_code, #[], #[]⟩
def k34m0 : Method := ⟨"<init>", "(Ljava/lang/Object;)V", ⟨[(.object "java/lang/Object")], none⟩, 0, some k34c0⟩
def k34c1 : Code := ⟨2, 3, jdk_44_method_2_code, #[], #[]⟩
def k34m1 : Method := ⟨"<init>", "(Ljava/lang/Object;Ljava/lang/Object;)V", ⟨[(.object "java/lang/Object"), (.object "java/lang/Object")], none⟩, 0, some k34c1⟩
def k34c2 : Code := ⟨2, 1, jdk_44_method_3_code, #[], #[]⟩
def k34m2 : Method := ⟨"size", "()I", ⟨[], some .int⟩, 1, some k34c2⟩
def k34c3 : Code := ⟨2, 2, jdk_44_method_5_code, #[], #[]⟩
def k34m3 : Method := ⟨"get", "(I)Ljava/lang/Object;", ⟨[.int], some (.object "java/lang/Object")⟩, 1, some k34c3⟩
/-- java/util/ImmutableCollections$List12 -/
def k34 : Class := { plain "java/util/ImmutableCollections$List12" (some 33) with
  accessFlags := 48
  interfaces := #[2]
  cf := some (fileOf pool34 14 #[.nestHost 20] #[⟨0, 5, 76, #[]⟩, ⟨0, 5, 85, #[]⟩, ⟨1, 51, 52, #[]⟩, ⟨1, 90, 91, #[]⟩] 48 2 #[70] #[⟨18, 17, 18, #[]⟩, ⟨18, 26, 18, #[]⟩])
  fields := #[⟨"e0", (.object "java/lang/Object"), 18, 0, 0⟩, ⟨"e1", (.object "java/lang/Object"), 18, 1, 0⟩]
  methods := #[k34m0, k34m1, k34m2, k34m3]
  instanceTypes := #[(.object "java/lang/Object"), (.object "java/lang/Object")]
  staticTypes := #[]
  resolved := Array.replicate 125 none
  statics := none }

def pool35 : Array CpInfo := pool [(1, .methodref 2 3), (0, .class_ 4), (0, .nameAndType 5 6), (0, u "java/util/ImmutableCollections$AbstractImmutableList"), (0, u "<init>"), (0, u "()V"), (0, .fieldref 8 9), (0, .class_ 10), (0, .nameAndType 11 12), (0, u "java/util/ImmutableCollections$ListN"), (0, u "elements"), (0, u "[Ljava/lang/Object;"), (0, .fieldref 8 14), (0, .nameAndType 15 16), (0, u "allowNulls"), (0, u "Z"), (42, .class_ 60), (0, u "java/io/Serializable"), (4, u "([Ljava/lang/Object;Z)V"), (11, u "size"), (0, u "()I"), (0, u "get"), (0, u "(I)Ljava/lang/Object;"), (33, .class_ 115), (0, u "java/util/ImmutableCollections")] 3

def k35c0 : Code := ⟨2, 3, jdk_45_method_1_code, #[], #[]⟩
def k35m0 : Method := ⟨"<init>", "([Ljava/lang/Object;Z)V", ⟨[(.array (.object "java/lang/Object")), .boolean], none⟩, 2, some k35c0⟩
def k35c1 : Code := ⟨1, 1, jdk_45_method_3_code, #[], #[]⟩
def k35m1 : Method := ⟨"size", "()I", ⟨[], some .int⟩, 1, some k35c1⟩
def k35c2 : Code := ⟨2, 2, jdk_45_method_4_code, #[], #[]⟩
def k35m2 : Method := ⟨"get", "(I)Ljava/lang/Object;", ⟨[.int], some (.object "java/lang/Object")⟩, 1, some k35c2⟩
/-- java/util/ImmutableCollections$ListN -/
def k35 : Class := { plain "java/util/ImmutableCollections$ListN" (some 33) with
  accessFlags := 48
  interfaces := #[2]
  cf := some (fileOf pool35 8 #[.nestHost 114] #[⟨2, 5, 65, #[]⟩, ⟨1, 77, 78, #[]⟩, ⟨1, 79, 80, #[]⟩] 48 2 #[59] #[⟨18, 11, 12, #[]⟩, ⟨18, 15, 16, #[]⟩])
  fields := #[⟨"elements", (.array (.object "java/lang/Object")), 18, 0, 0⟩, ⟨"allowNulls", .boolean, 18, 1, 0⟩]
  methods := #[k35m0, k35m1, k35m2]
  instanceTypes := #[(.array (.object "java/lang/Object")), .boolean]
  staticTypes := #[]
  resolved := Array.replicate 119 none
  statics := none }

def pool36 : Array CpInfo := pool [(2, .class_ 4), (1, u "java/lang/Object"), (0, u "<init>"), (0, u "()V"), (17, .class_ 26), (1, u "jdk/internal/util/Preconditions"), (6, u "checkIndex"), (21, .class_ 56), (0, u "jdk/internal/util/Preconditions$4"), (57, .class_ 115), (0, u "jdk/internal/util/Preconditions$1"), (7, u "SIOOBE_FORMATTER"), (0, u "Ljava/util/function/BiFunction;"), (0, .class_ 126), (0, u "jdk/internal/util/Preconditions$2"), (3, u "AIOOBE_FORMATTER"), (0, .class_ 132), (0, u "jdk/internal/util/Preconditions$3"), (3, u "IOOBE_FORMATTER"), (41, u "(IILjava/util/function/BiFunction;)I")] 15

def k36m0 : Method := ⟨"<init>", "()V", ⟨[], none⟩, 1, none⟩
def k36c1 : Code := ⟨3, 3, jdk_41_method_11_code, #[], #[]⟩
def k36m1 : Method := ⟨"checkIndex", "(IILjava/util/function/BiFunction;)I", ⟨[.int, .int, (.object "java/util/function/BiFunction")], some .int⟩, 9, some k36c1⟩
/-- jdk/internal/util/Preconditions -/
def k36 : Class := { plain "jdk/internal/util/Preconditions" (some 0) with
  accessFlags := 33
  interfaces := #[]
  cf := some (fileOf pool36 24 #[.nestMembers #[55, 131, 125, 114]] #[⟨1, 5, 6, #[]⟩, ⟨9, 33, 178, #[]⟩] 33 2 #[] #[⟨25, 123, 124, #[]⟩, ⟨25, 130, 124, #[]⟩, ⟨25, 136, 124, #[]⟩])
  fields := #[⟨"SIOOBE_FORMATTER", (.object "java/util/function/BiFunction"), 25, 0, 0⟩, ⟨"AIOOBE_FORMATTER", (.object "java/util/function/BiFunction"), 25, 1, 0⟩, ⟨"IOOBE_FORMATTER", (.object "java/util/function/BiFunction"), 25, 2, 0⟩]
  methods := #[k36m0, k36m1]
  instanceTypes := #[]
  staticTypes := #[(.object "java/util/function/BiFunction"), (.object "java/util/function/BiFunction"), (.object "java/util/function/BiFunction")]
  resolved := Array.replicate 194 none
  statics := some 3 }

def pool37 : Array CpInfo := pool [(9, u "<init>"), (6, .class_ 18), (1, u "java/lang/Object"), (0, u "()V"), (1, .class_ 23), (1, u "jdk/internal/util/ArraysSupport"), (0, u "LOG2_ARRAY_LONG_INDEX_SCALE"), (0, u "I"), (2, u "U"), (0, u "Ljdk/internal/misc/Unsafe;"), (8, u "BIG_ENDIAN"), (0, u "Z"), (8, u "LOG2_BYTE_BIT_SIZE"), (4, u "LOG2_ARRAY_INT_INDEX_SCALE"), (6, .class_ 61), (0, u "[B"), (0, .methodref 21 63), (0, .nameAndType 64 65), (0, u "signedHashCode"), (0, u "(I[BII)I"), (42, u "JLA"), (0, u "Ljdk/internal/access/JavaLangAccess;"), (11, u "LOG2_ARRAY_BOOLEAN_INDEX_SCALE"), (9, u "LOG2_ARRAY_BYTE_INDEX_SCALE"), (5, u "LOG2_ARRAY_CHAR_INDEX_SCALE"), (5, u "LOG2_ARRAY_SHORT_INDEX_SCALE"), (5, u "mismatch"), (12, u "LOG2_ARRAY_FLOAT_INDEX_SCALE"), (24, u "LOG2_ARRAY_DOUBLE_INDEX_SCALE"), (89, u "T_BOOLEAN"), (2, u "T_CHAR"), (1, u "T_FLOAT"), (1, u "T_DOUBLE"), (1, u "T_BYTE"), (1, u "T_SHORT"), (1, u "T_INT"), (1, u "T_LONG"), (1, u "SOFT_MAX_ARRAY_LENGTH"), (26, u "vectorizedHashCode"), (0, u "(Ljava/lang/Object;IIII)I"), (14, u "([BI[BII)I")] 40

def k37m0 : Method := ⟨"<init>", "()V", ⟨[], none⟩, 2, none⟩
def k37c1 : Code := ⟨4, 5, jdk_48_method_4_code, #[], #[]⟩
def k37m1 : Method := ⟨"vectorizedHashCode", "(Ljava/lang/Object;IIII)I", ⟨[(.object "java/lang/Object"), .int, .int, .int, .int], some .int⟩, 9, some k37c1⟩
def k37c2 : Code := ⟨3, 6, jdk_48_method_5_code, #[], #[]⟩
def k37m2 : Method := ⟨"signedHashCode", "(I[BII)I", ⟨[.int, (.array .byte), .int, .int], some .int⟩, 10, some k37c2⟩
def k37c3 : Code := ⟨8, 8, jdk_48_method_14_code, #[], #[]⟩
def k37m3 : Method := ⟨"mismatch", "([BI[BII)I", ⟨[(.array .byte), .int, (.array .byte), .int, .int], some .int⟩, 9, some k37c3⟩
/-- jdk/internal/util/ArraysSupport -/
def k37 : Class := { plain "jdk/internal/util/ArraysSupport" (some 0) with
  accessFlags := 33
  interfaces := #[]
  cf := some (fileOf pool37 21 #[] #[⟨2, 9, 19, #[]⟩, ⟨9, 321, 322, #[]⟩, ⟨10, 64, 65, #[]⟩, ⟨9, 149, 337, #[]⟩] 33 16 #[] #[⟨24, 28, 29, #[]⟩, ⟨26, 38, 39, #[]⟩, ⟨25, 121, 25, #[]⟩, ⟨25, 131, 25, #[]⟩, ⟨25, 137, 25, #[]⟩, ⟨25, 143, 25, #[]⟩, ⟨25, 53, 25, #[]⟩, ⟨25, 24, 25, #[]⟩, ⟨25, 162, 25, #[]⟩, ⟨25, 187, 25, #[]⟩, ⟨26, 48, 25, #[]⟩, ⟨25, 277, 25, #[]⟩, ⟨25, 280, 25, #[]⟩, ⟨25, 282, 25, #[]⟩, ⟨25, 284, 25, #[]⟩, ⟨25, 286, 25, #[]⟩, ⟨25, 288, 25, #[]⟩, ⟨25, 290, 25, #[]⟩, ⟨25, 292, 25, #[]⟩, ⟨26, 108, 109, #[]⟩, ⟨25, 294, 25, #[]⟩])
  fields := #[⟨"U", (.object "jdk/internal/misc/Unsafe"), 24, 0, 0⟩, ⟨"BIG_ENDIAN", .boolean, 26, 1, 0⟩, ⟨"LOG2_ARRAY_BOOLEAN_INDEX_SCALE", .int, 25, 2, 0⟩, ⟨"LOG2_ARRAY_BYTE_INDEX_SCALE", .int, 25, 3, 0⟩, ⟨"LOG2_ARRAY_CHAR_INDEX_SCALE", .int, 25, 4, 0⟩, ⟨"LOG2_ARRAY_SHORT_INDEX_SCALE", .int, 25, 5, 0⟩, ⟨"LOG2_ARRAY_INT_INDEX_SCALE", .int, 25, 6, 0⟩, ⟨"LOG2_ARRAY_LONG_INDEX_SCALE", .int, 25, 7, 0⟩, ⟨"LOG2_ARRAY_FLOAT_INDEX_SCALE", .int, 25, 8, 0⟩, ⟨"LOG2_ARRAY_DOUBLE_INDEX_SCALE", .int, 25, 9, 0⟩, ⟨"LOG2_BYTE_BIT_SIZE", .int, 26, 10, 0⟩, ⟨"T_BOOLEAN", .int, 25, 11, 0⟩, ⟨"T_CHAR", .int, 25, 12, 0⟩, ⟨"T_FLOAT", .int, 25, 13, 0⟩, ⟨"T_DOUBLE", .int, 25, 14, 0⟩, ⟨"T_BYTE", .int, 25, 15, 0⟩, ⟨"T_SHORT", .int, 25, 16, 0⟩, ⟨"T_INT", .int, 25, 17, 0⟩, ⟨"T_LONG", .int, 25, 18, 0⟩, ⟨"JLA", (.object "jdk/internal/access/JavaLangAccess"), 26, 19, 0⟩, ⟨"SOFT_MAX_ARRAY_LENGTH", .int, 25, 20, 0⟩]
  methods := #[k37m0, k37m1, k37m2, k37m3]
  instanceTypes := #[]
  staticTypes := #[(.object "jdk/internal/misc/Unsafe"), .boolean, .int, .int, .int, .int, .int, .int, .int, .int, .int, .int, .int, .int, .int, .int, .int, .int, .int, (.object "jdk/internal/access/JavaLangAccess"), .int]
  resolved := Array.replicate 378 none
  statics := none }

def pool38 : Array CpInfo := pool [(1, .class_ 2), (0, u "java/util/ImmutableCollections"), (1, .class_ 6), (1, u "java/util/ImmutableCollections$AbstractImmutableSet"), (2, .fieldref 10 11), (0, .class_ 12), (0, .nameAndType 13 14), (0, u "java/util/ImmutableCollections$SetN"), (0, u "size"), (0, u "I"), (4, u "elements"), (0, u "[Ljava/lang/Object;"), (25, .methodref 47 48), (0, .class_ 49), (0, .nameAndType 50 51), (0, u "java/util/Objects"), (0, u "requireNonNull"), (0, u "(Ljava/lang/Object;)Ljava/lang/Object;"), (18, u "(Ljava/lang/Object;)Z"), (36, .class_ 108), (0, u "java/io/Serializable"), (23, u "contains")] 35

def k38c0 : Code := ⟨2, 2, jdk_132_method_4_code, #[], #[]⟩
def k38m0 : Method := ⟨"contains", "(Ljava/lang/Object;)Z", ⟨[(.object "java/lang/Object")], some .boolean⟩, 1, some k38c0⟩
/-- java/util/ImmutableCollections$SetN -/
def k38 : Class := { plain "java/util/ImmutableCollections$SetN" (some 21) with
  accessFlags := 48
  interfaces := #[2]
  cf := some (fileOf pool38 10 #[.nestHost 1] #[⟨1, 132, 70, #[]⟩] 48 4 #[107] #[⟨16, 19, 20, #[]⟩, ⟨16, 13, 14, #[]⟩])
  fields := #[⟨"elements", (.array (.object "java/lang/Object")), 16, 0, 0⟩, ⟨"size", .int, 16, 1, 0⟩]
  methods := #[k38m0]
  instanceTypes := #[(.array (.object "java/lang/Object")), .int]
  staticTypes := #[]
  resolved := Array.replicate 168 none
  statics := none }

def pool39 : Array CpInfo := pool [(6, u "(Ljava/lang/Object;)Ljava/lang/Object;"), (2, u "apply"), (6, .class_ 18), (1, u "java/util/function/Function"), (0, .class_ 20), (0, u "java/lang/Object")] 56

def k39m0 : Method := ⟨"apply", "(Ljava/lang/Object;)Ljava/lang/Object;", ⟨[(.object "java/lang/Object")], some (.object "java/lang/Object")⟩, 1025, none⟩
/-- java/util/function/Function -/
def k39 : Class := { plain "java/util/function/Function" (some 0) with
  accessFlags := 1537
  interfaces := #[]
  cf := some (fileOf pool39 16 #[] #[⟨1025, 9, 6, #[]⟩] 1537 19 #[] #[])
  fields := #[]
  methods := #[k39m0]
  instanceTypes := #[]
  staticTypes := #[]
  resolved := Array.replicate 77 none
  statics := none }

def pool40 : Array CpInfo := pool [(23, .class_ 25), (1, u "java/util/Map$Entry"), (6, .class_ 34), (1, u "java/util/Map"), (34, .class_ 70), (0, u "java/lang/Object")] 107

/-- java/util/Map$Entry -/
def k40 : Class := { plain "java/util/Map$Entry" (some 0) with
  accessFlags := 1537
  interfaces := #[]
  cf := some (fileOf pool40 23 #[.nestHost 32] #[] 1537 69 #[] #[])
  fields := #[]
  methods := #[]
  instanceTypes := #[]
  staticTypes := #[]
  resolved := Array.replicate 178 none
  statics := none }

def pool41 : Array CpInfo := pool [(1, .methodref 2 3), (0, .class_ 4), (0, .nameAndType 5 6), (0, u "java/lang/Object"), (0, u "<init>"), (0, u "()V"), (0, .fieldref 8 9), (0, .class_ 10), (0, .nameAndType 11 12), (0, u "java/util/HashMap$Node"), (0, u "hash"), (0, u "I"), (0, .fieldref 8 14), (0, .nameAndType 15 16), (0, u "key"), (0, u "Ljava/lang/Object;"), (0, .fieldref 8 18), (0, .nameAndType 19 16), (0, u "value"), (0, .fieldref 8 21), (0, .nameAndType 22 23), (0, u "next"), (0, u "Ljava/util/HashMap$Node;"), (22, .class_ 47), (0, u "java/util/Map$Entry"), (15, u "(ILjava/lang/Object;Ljava/lang/Object;Ljava/util/HashMap$Node;)V"), (24, .class_ 89), (0, u "java/util/HashMap")] 5

def k41c0 : Code := ⟨2, 5, jdk_70_method_1_code, #[], #[]⟩
def k41m0 : Method := ⟨"<init>", "(ILjava/lang/Object;Ljava/lang/Object;Ljava/util/HashMap$Node;)V", ⟨[.int, (.object "java/lang/Object"), (.object "java/lang/Object"), (.object "java/util/HashMap$Node")], none⟩, 0, some k41c0⟩
/-- java/util/HashMap$Node -/
def k41 : Class := { plain "java/util/HashMap$Node" (some 0) with
  accessFlags := 32
  interfaces := #[40]
  cf := some (fileOf pool41 8 #[.nestHost 88] #[⟨0, 5, 63, #[]⟩] 32 2 #[46] #[⟨16, 11, 12, #[]⟩, ⟨16, 15, 16, #[]⟩, ⟨0, 19, 16, #[]⟩, ⟨0, 22, 23, #[]⟩])
  fields := #[⟨"hash", .int, 16, 0, 0⟩, ⟨"key", (.object "java/lang/Object"), 16, 1, 0⟩, ⟨"value", (.object "java/lang/Object"), 0, 2, 0⟩, ⟨"next", (.object "java/util/HashMap$Node"), 0, 3, 0⟩]
  methods := #[k41m0]
  instanceTypes := #[.int, (.object "java/lang/Object"), (.object "java/lang/Object"), (.object "java/util/HashMap$Node")]
  staticTypes := #[]
  resolved := Array.replicate 95 none
  statics := none }

def pool42 : Array CpInfo := pool [(1, u "java/lang/Class"), (0, .class_ 1), (0, u "java/lang/Object"), (0, .class_ 3)] 0

/-- java/lang/Class -/
def k42 : Class := { plain "java/lang/Class" (some 0) with
  accessFlags := 49
  interfaces := #[]
  cf := some (fileOf pool42 2 #[] #[] 49 4 #[] #[])
  fields := #[]
  methods := #[]
  instanceTypes := #[]
  staticTypes := #[]
  resolved := Array.replicate 5 none
  statics := none }

/-- the primitive byte -/
def k43 : Class := { plain "byte" none with kind := .primitive 'B', accessFlags := 0x411 }
/-- [B -/
def k44 : Class := { plain "[B" (some 0) with kind := .array 43 .byte, interfaces := #[17, 2], accessFlags := 1041 }

/-- the primitive char -/
def k45 : Class := { plain "char" none with kind := .primitive 'C', accessFlags := 0x411 }
/-- [C -/
def k46 : Class := { plain "[C" (some 0) with kind := .array 45 .char, interfaces := #[17, 2], accessFlags := 1041 }

/-- the primitive int -/
def k47 : Class := { plain "int" none with kind := .primitive 'I', accessFlags := 0x411 }
/-- [I -/
def k48 : Class := { plain "[I" (some 0) with kind := .array 47 .int, interfaces := #[17, 2], accessFlags := 1041 }

/-- [Ljava/lang/Object; -/
def k49 : Class := { plain "[Ljava/lang/Object;" (some 0) with kind := .array 0 (.object "java/lang/Object"), interfaces := #[17, 2], accessFlags := 1041, mirror := some 4 }

/-- [Ljava/util/HashMap$Node; -/
def k50 : Class := { plain "[Ljava/util/HashMap$Node;" (some 0) with kind := .array 41 (.object "java/util/HashMap$Node"), interfaces := #[17, 2], accessFlags := 1041 }

def classes0 : Array Class := #[k0, k1, k2, k3, k4, k5, k6, k7, k8, k9, k10, k11, k12, k13, k14, k15, k16, k17, k18, k19, k20, k21, k22, k23, k24, k25, k26, k27, k28, k29, k30, k31, k32, k33, k34, k35, k36, k37, k38, k39, k40, k41, k42, k43, k44, k45, k46, k47, k48, k49, k50]
/-- the class that the rule has made for the site at 244 of com/example/keyturn/keyturn/Options.parse -/
def k51 : Class := Jvm.LamKit.madeRec { classes := classes0 } "com/example/keyturn/keyturn/Options" (Jvm.Lambda.Shape.mk "java/util/function/Function" "apply" (Jvm.ClassFile.MethodDescriptor.mk ([(Jvm.ClassFile.FieldType.object "java/lang/Object")] : List Jvm.ClassFile.FieldType) (Option.some (Jvm.ClassFile.FieldType.object "java/lang/Object"))) ([] : List Jvm.ClassFile.FieldType) (6 : Nat) "com/example/keyturn/keyturn/Options" "lambda$parse$0" (Jvm.ClassFile.MethodDescriptor.mk ([(Jvm.ClassFile.FieldType.object "java/lang/String")] : List Jvm.ClassFile.FieldType) (Option.some (Jvm.ClassFile.FieldType.object "java/util/List"))) false (Jvm.ClassFile.MethodDescriptor.mk ([(Jvm.ClassFile.FieldType.object "java/lang/String")] : List Jvm.ClassFile.FieldType) (Option.some (Jvm.ClassFile.FieldType.object "java/util/List")))) 51

def heap : Heap := #[{ cls := 7, slots := #[.long 0, .int 1, .null, .int 0, .null, .int 0, .int 0], vm := .statics 7 },
  { cls := 18, slots := #[.long 0, .int 0, .ref 6, .ref 7], vm := .statics 18 },
  { cls := 25, slots := #[.long 0, .int 0, .null, .ref 10, .ref 9, .null, .ref 8, .null, .int 0, .int 1], vm := .statics 25 },
  { cls := 36, slots := #[.null, .null, .null], vm := .statics 36 },
  { cls := 42, slots := #[], vm := .mirror 49 },
  { cls := 51, slots := #[], vm := .none },
  { cls := 49, slots := #[], vm := .none },
  { cls := 49, slots := #[], vm := .none },
  { cls := 38, slots := #[.ref 6, .int 0], vm := .none },
  { cls := 35, slots := #[.ref 6, .int 0], vm := .none },
  { cls := 0, slots := #[], vm := .none }]
def classes : Array Class := #[k0, k1, k2, k3, k4, k5, k6, k7, k8, k9, k10, k11, k12, k13, k14, k15, k16, k17, k18, k19, k20, k21, k22, k23, k24, k25, k26, k27, k28, k29, k30, k31, k32, k33, k34, k35, k36, k37, k38, k39, k40, k41, k42, k43, k44, k45, k46, k47, k48, k49, k50, k51]
def interned : List (Array UInt16 × Addr) := []
def slotsUsed : Nat := 28
def theMethod : MethodId := ⟨1, 1⟩
def args0 : Array Value := #[.int 0, .int 65, .int 66, .int 67, .int 68]
def aboutOver (below : List Frame) : State where
  vm := { classes := classes, interned := interned.toArray }
  heap := heap
  slotsUsed := slotsUsed
  threads := #[{ frames := .invoking theMethod args0 :: below }]
def below0 : List Frame := [.native { method := ⟨0, 0⟩, args := #[] }]
def about1 : State := aboutOver below0
def p0 : Program := .bare "" "" ""
def e0 : Env := launch0.env 0 0 0
theorem w_frames : about1.frames = Frame.invoking theMethod args0 :: below0 := rfl
set_option maxRecDepth 65536 in
theorem w_args : argsFit about1.vm theMethod args0 = true := by decide +kernel
set_option maxRecDepth 65536 in
theorem w_heap : heapFits about1 = true := by decide +kernel
set_option maxRecDepth 65536 in
theorem w_runnable : about1.curStatus? = some .runnable := by decide +kernel
set_option maxRecDepth 65536 in
theorem w_alone : about1.alone = true := by decide +kernel
set_option maxRecDepth 65536 in
theorem w_named : about1.methodNamed? x = some theMethod := by decide +kernel
set_option maxRecDepth 65536 in
theorem w_hears : about1.hears theMethod below0 = true := by decide +kernel
set_option maxRecDepth 65536 in
theorem w_ripe : about1.ripe theMethod args0 below0 = true := by decide +kernel
theorem w_running : about1.status = .running := rfl
set_option maxRecDepth 65536 in
theorem w_room : about1.hasRoom e0.platform room_1 = true :=
  launch0.hasRoom_least _ room_1 (by decide +kernel) (by decide +kernel) (by decide +kernel) (by decide +kernel) (by decide +kernel) (by decide +kernel)
theorem allAtoms_all (ts : List Jvm.Cond) (a : Array Jvm.Value) (st : Jvm.State) : (allAtoms ts).before a st = ts.all (fun c => c.before a st) := by
  induction ts with
  | nil => rfl
  | cons c t ih =>
    show (Jvm.Cond.and c (allAtoms t)).before a st = _
    rw [Jvm.Cond.before_and, ih, List.all_cons]
def words1 : List Jvm.Cond := Jvm.Cond.code x code maxLocals ret :: tables_1
/-- a 'code' word, met by the world's own term for the bytes: nothing is compared byte by byte -/
theorem code_word {y : MethodName} {bytes : ByteArray} {mx : Nat} {rt : Option FieldType} {a : Array Value} {s : State} {m : MethodId} {meth : Method} {c : Code} (h1 : s.methodNamed? y = some m) (h2 : s.vm.method? m = some meth) (h3 : meth.code = some c) (h4 : c.code = bytes)
    (h5 : (c.maxLocals == mx && c.exceptionTable.isEmpty && decide (c.maxStack ≤ mostOperands) && decide (meth.sig.returnType = rt) && !meth.locks && decide (parseMethodDescriptor y.desc = some meth.sig)) = true) : (Jvm.Cond.code y bytes mx rt).before a s = true := by
  simp only [Bool.and_eq_true, beq_iff_eq, Bool.not_eq_true', decide_eq_true_eq] at h5
  obtain ⟨⟨⟨⟨⟨g1, g2⟩, g3⟩, g4⟩, g5⟩, g6⟩ := h5
  simp [Cond.before, Cond.holds, Cond.value, h1, h2, h3, h4, g1, g2, g3, g4, g5, g6]
def isCode : Jvm.Cond → Bool
  | .code _ _ _ _ => true
  | _ => false
theorem all_split {L : List Jvm.Cond} {P : Jvm.Cond → Bool} (h1 : L.all (fun c => isCode c || P c) = true) (h2 : ∀ c ∈ L.filter isCode, P c = true) : L.all P = true := by
  refine List.all_eq_true.mpr fun c hc => ?_
  have h := List.all_eq_true.mp h1 c hc
  rcases Bool.eq_false_or_eq_true (isCode c) with hi | hi
  · exact h2 c (List.mem_filter.mpr ⟨hc, hi⟩)
  · simpa [hi] using h
set_option maxRecDepth 65536 in
theorem w_c0 : (Jvm.Cond.code x code maxLocals ret).before args0 about1 = true := code_word (m := ⟨1, 1⟩) (meth := k1m1) (c := k1c1) (by decide +kernel) rfl rfl rfl (by decide +kernel)
set_option maxRecDepth 65536 in
theorem w_c1 : (Jvm.Cond.code ⟨"java/lang/String", "<init>", "([C)V"⟩ jdk_42_method_3_code 2 none).before args0 about1 = true := code_word (m := ⟨7, 1⟩) (meth := k7m1) (c := k7c1) (by decide +kernel) rfl rfl rfl (by decide +kernel)
set_option maxRecDepth 65536 in
theorem w_c2 : (Jvm.Cond.code ⟨"java/lang/String", "<init>", "([CIILjava/lang/Void;)V"⟩ jdk_42_method_149_code 6 none).before args0 about1 = true := code_word (m := ⟨7, 8⟩) (meth := k7m8) (c := k7c8) (by decide +kernel) rfl rfl rfl (by decide +kernel)
set_option maxRecDepth 65536 in
theorem w_c3 : (Jvm.Cond.code ⟨"java/lang/Object", "<init>", "()V"⟩ object_method_1_code 1 none).before args0 about1 = true := code_word (m := ⟨0, 0⟩) (meth := k0m0) (c := k0c0) (by decide +kernel) rfl rfl rfl (by decide +kernel)
set_option maxRecDepth 65536 in
theorem w_c4 : (Jvm.Cond.code ⟨"java/lang/StringUTF16", "compress", "([CII)[B"⟩ jdk_52_method_16_code 6 (some (.array .byte))).before args0 about1 = true := code_word (m := ⟨8, 2⟩) (meth := k8m2) (c := k8c2) (by decide +kernel) rfl rfl rfl (by decide +kernel)
set_option maxRecDepth 65536 in
theorem w_c5 : (Jvm.Cond.code ⟨"java/lang/StringUTF16", "compress", "([CI[BII)I"⟩ jdk_52_method_21_code 7 (some .int)).before args0 about1 = true := code_word (m := ⟨8, 3⟩) (meth := k8m3) (c := k8c3) (by decide +kernel) rfl rfl rfl (by decide +kernel)
set_option maxRecDepth 65536 in
theorem w_c6 : (Jvm.Cond.code ⟨"java/lang/StringUTF16", "coderFromArrayLen", "([BI)B"⟩ jdk_52_method_15_code 2 (some .byte)).before args0 about1 = true := code_word (m := ⟨8, 1⟩) (meth := k8m1) (c := k8c1) (by decide +kernel) rfl rfl rfl (by decide +kernel)
set_option maxRecDepth 65536 in
theorem w_c7 : (Jvm.Cond.code ⟨"java/lang/String", "valueOf", "(C)Ljava/lang/String;"⟩ jdk_42_method_139_code 1 (some (.object "java/lang/String"))).before args0 about1 = true := code_word (m := ⟨7, 7⟩) (meth := k7m7) (c := k7c7) (by decide +kernel) rfl rfl rfl (by decide +kernel)
set_option maxRecDepth 65536 in
theorem w_c8 : (Jvm.Cond.code ⟨"java/lang/StringLatin1", "canEncode", "(C)Z"⟩ jdk_43_method_3_code 1 (some .boolean)).before args0 about1 = true := code_word (m := ⟨9, 1⟩) (meth := k9m1) (c := k9c1) (by decide +kernel) rfl rfl rfl (by decide +kernel)
set_option maxRecDepth 65536 in
theorem w_c9 : (Jvm.Cond.code ⟨"java/lang/StringLatin1", "toBytes", "(C)[B"⟩ jdk_43_method_46_code 1 (some (.array .byte))).before args0 about1 = true := code_word (m := ⟨9, 4⟩) (meth := k9m4) (c := k9c4) (by decide +kernel) rfl rfl rfl (by decide +kernel)
set_option maxRecDepth 65536 in
theorem w_c10 : (Jvm.Cond.code ⟨"java/lang/String", "<init>", "([BB)V"⟩ jdk_42_method_151_code 3 none).before args0 about1 = true := code_word (m := ⟨7, 9⟩) (meth := k7m9) (c := k7c9) (by decide +kernel) rfl rfl rfl (by decide +kernel)
set_option maxRecDepth 65536 in
theorem w_c11 : (Jvm.Cond.code ⟨"java/util/ArrayList", "<init>", "()V"⟩ jdk_38_method_2_code 1 none).before args0 about1 = true := code_word (m := ⟨18, 0⟩) (meth := k18m0) (c := k18c0) (by decide +kernel) rfl rfl rfl (by decide +kernel)
set_option maxRecDepth 65536 in
theorem w_c12 : (Jvm.Cond.code ⟨"java/util/AbstractList", "<init>", "()V"⟩ jdk_39_method_1_code 1 none).before args0 about1 = true := code_word (m := ⟨15, 0⟩) (meth := k15m0) (c := k15c0) (by decide +kernel) rfl rfl rfl (by decide +kernel)
set_option maxRecDepth 65536 in
theorem w_c13 : (Jvm.Cond.code ⟨"java/util/AbstractCollection", "<init>", "()V"⟩ jdk_22_method_1_code 1 none).before args0 about1 = true := code_word (m := ⟨12, 0⟩) (meth := k12m0) (c := k12c0) (by decide +kernel) rfl rfl rfl (by decide +kernel)
set_option maxRecDepth 65536 in
theorem w_c14 : (Jvm.Cond.code ⟨"java/util/Set", "of", "(Ljava/lang/Object;Ljava/lang/Object;)Ljava/util/Set;"⟩ jdk_96_method_19_code 2 (some (.object "java/util/Set"))).before args0 about1 = true := code_word (m := ⟨19, 2⟩) (meth := k19m2) (c := k19c2) (by decide +kernel) rfl rfl rfl (by decide +kernel)
set_option maxRecDepth 65536 in
theorem w_c15 : (Jvm.Cond.code ⟨"java/util/ImmutableCollections$Set12", "<init>", "(Ljava/lang/Object;Ljava/lang/Object;)V"⟩ jdk_101_method_2_code 3 none).before args0 about1 = true := code_word (m := ⟨22, 0⟩) (meth := k22m0) (c := k22c0) (by decide +kernel) rfl rfl rfl (by decide +kernel)
set_option maxRecDepth 65536 in
theorem w_c16 : (Jvm.Cond.code ⟨"java/util/ImmutableCollections$AbstractImmutableSet", "<init>", "()V"⟩ jdk_100_method_1_code 1 none).before args0 about1 = true := code_word (m := ⟨21, 0⟩) (meth := k21m0) (c := k21c0) (by decide +kernel) rfl rfl rfl (by decide +kernel)
set_option maxRecDepth 65536 in
theorem w_c17 : (Jvm.Cond.code ⟨"java/util/ImmutableCollections$AbstractImmutableCollection", "<init>", "()V"⟩ jdk_47_method_1_code 1 none).before args0 about1 = true := code_word (m := ⟨20, 0⟩) (meth := k20m0) (c := k20c0) (by decide +kernel) rfl rfl rfl (by decide +kernel)
set_option maxRecDepth 65536 in
theorem w_c18 : (Jvm.Cond.code ⟨"java/util/Objects", "requireNonNull", "(Ljava/lang/Object;)Ljava/lang/Object;"⟩ jdk_31_method_10_code 1 (some (.object "java/lang/Object"))).before args0 about1 = true := code_word (m := ⟨23, 1⟩) (meth := k23m1) (c := k23c1) (by decide +kernel) rfl rfl rfl (by decide +kernel)
set_option maxRecDepth 65536 in
theorem w_c19 : (Jvm.Cond.code ⟨"java/lang/String", "equals", "(Ljava/lang/Object;)Z"⟩ jdk_42_method_66_code 3 (some .boolean)).before args0 about1 = true := code_word (m := ⟨7, 3⟩) (meth := k7m3) (c := k7c3) (by decide +kernel) rfl rfl rfl (by decide +kernel)
set_option maxRecDepth 65536 in
theorem w_c20 : (Jvm.Cond.code ⟨"java/lang/StringLatin1", "equals", "([B[B)Z"⟩ jdk_43_method_13_code 3 (some .boolean)).before args0 about1 = true := code_word (m := ⟨9, 2⟩) (meth := k9m2) (c := k9c2) (by decide +kernel) rfl rfl rfl (by decide +kernel)
set_option maxRecDepth 65536 in
theorem w_c21 : (Jvm.Cond.code ⟨"com/example/keyturn/keyturn/Options", "parse", "(Ljava/util/List;Ljava/util/Set;Ljava/util/List;Ljava/lang/String;)Lcom/example/keyturn/keyturn/Options;"⟩ prog_16_method_2_code 4 (some (.object "com/example/keyturn/keyturn/Options"))).before args0 about1 = true := code_word (m := ⟨24, 1⟩) (meth := k24m1) (c := k24c1) (by decide +kernel) rfl rfl rfl (by decide +kernel)
set_option maxRecDepth 65536 in
theorem w_c22 : (Jvm.Cond.code ⟨"java/util/Set", "of", "()Ljava/util/Set;"⟩ jdk_96_method_17_code 0 (some (.object "java/util/Set"))).before args0 about1 = true := code_word (m := ⟨19, 1⟩) (meth := k19m1) (c := k19c1) (by decide +kernel) rfl rfl rfl (by decide +kernel)
set_option maxRecDepth 65536 in
theorem w_c23 : (Jvm.Cond.code ⟨"com/example/keyturn/keyturn/Options", "parse", "(Ljava/util/List;Ljava/util/Set;Ljava/util/Set;Ljava/util/Set;Ljava/util/List;Ljava/lang/String;)Lcom/example/keyturn/keyturn/Options;"⟩ prog_16_method_3_code 12 (some (.object "com/example/keyturn/keyturn/Options"))).before args0 about1 = true := code_word (m := ⟨24, 2⟩) (meth := k24m2) (c := k24c2) (by decide +kernel) rfl rfl rfl (by decide +kernel)
set_option maxRecDepth 65536 in
theorem w_c24 : (Jvm.Cond.code ⟨"java/util/HashMap", "<init>", "()V"⟩ jdk_69_method_7_code 1 none).before args0 about1 = true := code_word (m := ⟨28, 1⟩) (meth := k28m1) (c := k28c1) (by decide +kernel) rfl rfl rfl (by decide +kernel)
set_option maxRecDepth 65536 in
theorem w_c25 : (Jvm.Cond.code ⟨"java/util/AbstractMap", "<init>", "()V"⟩ jdk_71_method_1_code 1 none).before args0 about1 = true := code_word (m := ⟨27, 0⟩) (meth := k27m0) (c := k27c0) (by decide +kernel) rfl rfl rfl (by decide +kernel)
set_option maxRecDepth 65536 in
theorem w_c26 : (Jvm.Cond.code ⟨"java/util/ArrayList", "size", "()I"⟩ jdk_38_method_8_code 1 (some .int)).before args0 about1 = true := code_word (m := ⟨18, 3⟩) (meth := k18m3) (c := k18c3) (by decide +kernel) rfl rfl rfl (by decide +kernel)
set_option maxRecDepth 65536 in
theorem w_c27 : (Jvm.Cond.code ⟨"java/lang/Math", "min", "(II)I"⟩ jdk_29_method_69_code 2 (some .int)).before args0 about1 = true := code_word (m := ⟨29, 2⟩) (meth := k29m2) (c := k29c2) (by decide +kernel) rfl rfl rfl (by decide +kernel)
set_option maxRecDepth 65536 in
theorem w_c28 : (Jvm.Cond.code ⟨"java/util/ArrayList", "subList", "(II)Ljava/util/List;"⟩ jdk_38_method_56_code 3 (some (.object "java/util/List"))).before args0 about1 = true := code_word (m := ⟨18, 11⟩) (meth := k18m11) (c := k18c11) (by decide +kernel) rfl rfl rfl (by decide +kernel)
set_option maxRecDepth 65536 in
theorem w_c29 : (Jvm.Cond.code ⟨"java/util/AbstractList", "subListRangeCheck", "(III)V"⟩ jdk_39_method_15_code 3 none).before args0 about1 = true := code_word (m := ⟨15, 1⟩) (meth := k15m1) (c := k15c1) (by decide +kernel) rfl rfl rfl (by decide +kernel)
set_option maxRecDepth 65536 in
theorem w_c30 : (Jvm.Cond.code ⟨"java/util/ArrayList$SubList", "<init>", "(Ljava/util/ArrayList;II)V"⟩ jdk_130_method_1_code 4 none).before args0 about1 = true := code_word (m := ⟨30, 0⟩) (meth := k30m0) (c := k30c0) (by decide +kernel) rfl rfl rfl (by decide +kernel)
set_option maxRecDepth 65536 in
theorem w_c31 : (Jvm.Cond.code ⟨"java/util/ArrayList", "addAll", "(Ljava/util/Collection;)Z"⟩ jdk_38_method_41_code 6 (some .boolean)).before args0 about1 = true := code_word (m := ⟨18, 10⟩) (meth := k18m10) (c := k18c10) (by decide +kernel) rfl rfl rfl (by decide +kernel)
set_option maxRecDepth 65536 in
theorem w_c32 : (Jvm.Cond.code ⟨"java/util/ArrayList$SubList", "toArray", "()[Ljava/lang/Object;"⟩ jdk_130_method_16_code 1 (some (.array (.object "java/lang/Object")))).before args0 about1 = true := code_word (m := ⟨30, 1⟩) (meth := k30m1) (c := k30c1) (by decide +kernel) rfl rfl rfl (by decide +kernel)
set_option maxRecDepth 65536 in
theorem w_c33 : (Jvm.Cond.code ⟨"java/util/ArrayList$SubList", "checkForComodification", "()V"⟩ jdk_130_method_28_code 1 none).before args0 about1 = true := code_word (m := ⟨30, 2⟩) (meth := k30m2) (c := k30c2) (by decide +kernel) rfl rfl rfl (by decide +kernel)
set_option maxRecDepth 65536 in
theorem w_c34 : (Jvm.Cond.code ⟨"java/util/Arrays", "copyOfRange", "([Ljava/lang/Object;II)[Ljava/lang/Object;"⟩ jdk_65_method_129_code 3 (some (.array (.object "java/lang/Object")))).before args0 about1 = true := code_word (m := ⟨31, 3⟩) (meth := k31m3) (c := k31c3) (by decide +kernel) rfl rfl rfl (by decide +kernel)
set_option maxRecDepth 65536 in
theorem w_c35 : (Jvm.Cond.code ⟨"java/util/Arrays", "copyOfRange", "([Ljava/lang/Object;IILjava/lang/Class;)[Ljava/lang/Object;"⟩ jdk_65_method_130_code 6 (some (.array (.object "java/lang/Object")))).before args0 about1 = true := code_word (m := ⟨31, 4⟩) (meth := k31m4) (c := k31c4) (by decide +kernel) rfl rfl rfl (by decide +kernel)
set_option maxRecDepth 65536 in
theorem w_c36 : (Jvm.Cond.code ⟨"java/util/List", "copyOf", "(Ljava/util/Collection;)Ljava/util/List;"⟩ jdk_40_method_48_code 1 (some (.object "java/util/List"))).before args0 about1 = true := code_word (m := ⟨14, 7⟩) (meth := k14m7) (c := k14c7) (by decide +kernel) rfl rfl rfl (by decide +kernel)
set_option maxRecDepth 65536 in
theorem w_c37 : (Jvm.Cond.code ⟨"java/util/ImmutableCollections", "listCopy", "(Ljava/util/Collection;)Ljava/util/List;"⟩ jdk_56_method_3_code 2 (some (.object "java/util/List"))).before args0 about1 = true := code_word (m := ⟨25, 1⟩) (meth := k25m1) (c := k25c1) (by decide +kernel) rfl rfl rfl (by decide +kernel)
set_option maxRecDepth 65536 in
theorem w_c38 : (Jvm.Cond.code ⟨"java/util/ArrayList", "isEmpty", "()Z"⟩ jdk_38_method_9_code 1 (some .boolean)).before args0 about1 = true := code_word (m := ⟨18, 4⟩) (meth := k18m4) (c := k18c4) (by decide +kernel) rfl rfl rfl (by decide +kernel)
set_option maxRecDepth 65536 in
theorem w_c39 : (Jvm.Cond.code ⟨"java/util/List", "of", "()Ljava/util/List;"⟩ jdk_40_method_36_code 0 (some (.object "java/util/List"))).before args0 about1 = true := code_word (m := ⟨14, 5⟩) (meth := k14m5) (c := k14c5) (by decide +kernel) rfl rfl rfl (by decide +kernel)
set_option maxRecDepth 65536 in
theorem w_c40 : (Jvm.Cond.code ⟨"com/example/keyturn/keyturn/Options", "<init>", "(Ljava/util/Map;Ljava/util/List;Ljava/util/List;Ljava/lang/String;)V"⟩ prog_16_method_1_code 5 none).before args0 about1 = true := code_word (m := ⟨24, 0⟩) (meth := k24m0) (c := k24c0) (by decide +kernel) rfl rfl rfl (by decide +kernel)
set_option maxRecDepth 65536 in
theorem w_c41 : (Jvm.Cond.code ⟨"com/example/keyturn/keyturn/Options", "has", "(Ljava/lang/String;)Z"⟩ prog_16_method_7_code 2 (some .boolean)).before args0 about1 = true := code_word (m := ⟨24, 4⟩) (meth := k24m4) (c := k24c4) (by decide +kernel) rfl rfl rfl (by decide +kernel)
set_option maxRecDepth 65536 in
theorem w_c42 : (Jvm.Cond.code ⟨"java/util/HashMap", "containsKey", "(Ljava/lang/Object;)Z"⟩ jdk_69_method_14_code 2 (some .boolean)).before args0 about1 = true := code_word (m := ⟨28, 3⟩) (meth := k28m3) (c := k28c3) (by decide +kernel) rfl rfl rfl (by decide +kernel)
set_option maxRecDepth 65536 in
theorem w_c43 : (Jvm.Cond.code ⟨"java/util/HashMap", "getNode", "(Ljava/lang/Object;)Ljava/util/HashMap$Node;"⟩ jdk_69_method_13_code 8 (some (.object "java/util/HashMap$Node"))).before args0 about1 = true := code_word (m := ⟨28, 2⟩) (meth := k28m2) (c := k28c2) (by decide +kernel) rfl rfl rfl (by decide +kernel)
set_option maxRecDepth 65536 in
theorem w_c44 : (Jvm.Cond.code ⟨"com/example/keyturn/keyturn/Options", "all", "(Ljava/lang/String;)Ljava/util/List;"⟩ prog_16_method_6_code 2 (some (.object "java/util/List"))).before args0 about1 = true := code_word (m := ⟨24, 3⟩) (meth := k24m3) (c := k24c3) (by decide +kernel) rfl rfl rfl (by decide +kernel)
set_option maxRecDepth 65536 in
theorem w_c45 : (Jvm.Cond.code ⟨"java/util/HashMap", "getOrDefault", "(Ljava/lang/Object;Ljava/lang/Object;)Ljava/lang/Object;"⟩ jdk_69_method_30_code 4 (some (.object "java/lang/Object"))).before args0 about1 = true := code_word (m := ⟨28, 5⟩) (meth := k28m5) (c := k28c5) (by decide +kernel) rfl rfl rfl (by decide +kernel)
set_option maxRecDepth 65536 in
theorem w_c46 : (Jvm.Cond.code ⟨"java/util/ImmutableCollections$ListN", "size", "()I"⟩ jdk_45_method_3_code 1 (some .int)).before args0 about1 = true := code_word (m := ⟨35, 1⟩) (meth := k35m1) (c := k35c1) (by decide +kernel) rfl rfl rfl (by decide +kernel)
set_option maxRecDepth 65536 in
theorem w_c47 : (Jvm.Cond.code ⟨"java/util/ArrayList", "add", "(Ljava/lang/Object;)Z"⟩ jdk_38_method_25_code 2 (some .boolean)).before args0 about1 = true := code_word (m := ⟨18, 9⟩) (meth := k18m9) (c := k18c9) (by decide +kernel) rfl rfl rfl (by decide +kernel)
set_option maxRecDepth 65536 in
theorem w_c48 : (Jvm.Cond.code ⟨"java/util/ArrayList", "add", "(Ljava/lang/Object;[Ljava/lang/Object;I)V"⟩ jdk_38_method_24_code 4 none).before args0 about1 = true := code_word (m := ⟨18, 8⟩) (meth := k18m8) (c := k18c8) (by decide +kernel) rfl rfl rfl (by decide +kernel)
set_option maxRecDepth 65536 in
theorem w_c49 : (Jvm.Cond.code ⟨"java/util/ArrayList", "grow", "()[Ljava/lang/Object;"⟩ jdk_38_method_7_code 1 (some (.array (.object "java/lang/Object")))).before args0 about1 = true := code_word (m := ⟨18, 2⟩) (meth := k18m2) (c := k18c2) (by decide +kernel) rfl rfl rfl (by decide +kernel)
set_option maxRecDepth 65536 in
theorem w_c50 : (Jvm.Cond.code ⟨"java/util/ArrayList", "grow", "(I)[Ljava/lang/Object;"⟩ jdk_38_method_6_code 4 (some (.array (.object "java/lang/Object")))).before args0 about1 = true := code_word (m := ⟨18, 1⟩) (meth := k18m1) (c := k18c1) (by decide +kernel) rfl rfl rfl (by decide +kernel)
set_option maxRecDepth 65536 in
theorem w_c51 : (Jvm.Cond.code ⟨"java/lang/Math", "max", "(II)I"⟩ jdk_29_method_65_code 2 (some .int)).before args0 about1 = true := code_word (m := ⟨29, 1⟩) (meth := k29m1) (c := k29c1) (by decide +kernel) rfl rfl rfl (by decide +kernel)
set_option maxRecDepth 65536 in
theorem w_c52 : (Jvm.Cond.code ⟨"java/util/ArrayList", "get", "(I)Ljava/lang/Object;"⟩ jdk_38_method_20_code 2 (some (.object "java/lang/Object"))).before args0 about1 = true := code_word (m := ⟨18, 7⟩) (meth := k18m7) (c := k18c7) (by decide +kernel) rfl rfl rfl (by decide +kernel)
set_option maxRecDepth 65536 in
theorem w_c53 : (Jvm.Cond.code ⟨"java/util/Objects", "checkIndex", "(II)I"⟩ jdk_31_method_17_code 2 (some .int)).before args0 about1 = true := code_word (m := ⟨23, 2⟩) (meth := k23m2) (c := k23c2) (by decide +kernel) rfl rfl rfl (by decide +kernel)
set_option maxRecDepth 65536 in
theorem w_c54 : (Jvm.Cond.code ⟨"jdk/internal/util/Preconditions", "checkIndex", "(IILjava/util/function/BiFunction;)I"⟩ jdk_41_method_11_code 3 (some .int)).before args0 about1 = true := code_word (m := ⟨36, 1⟩) (meth := k36m1) (c := k36c1) (by decide +kernel) rfl rfl rfl (by decide +kernel)
set_option maxRecDepth 65536 in
theorem w_c55 : (Jvm.Cond.code ⟨"java/util/ArrayList", "elementData", "(I)Ljava/lang/Object;"⟩ jdk_38_method_18_code 2 (some (.object "java/lang/Object"))).before args0 about1 = true := code_word (m := ⟨18, 6⟩) (meth := k18m6) (c := k18c6) (by decide +kernel) rfl rfl rfl (by decide +kernel)
set_option maxRecDepth 65536 in
theorem w_c56 : (Jvm.Cond.code ⟨"java/lang/String", "startsWith", "(Ljava/lang/String;)Z"⟩ jdk_42_method_76_code 2 (some .boolean)).before args0 about1 = true := code_word (m := ⟨7, 5⟩) (meth := k7m5) (c := k7c5) (by decide +kernel) rfl rfl rfl (by decide +kernel)
set_option maxRecDepth 65536 in
theorem w_c57 : (Jvm.Cond.code ⟨"java/lang/String", "startsWith", "(Ljava/lang/String;I)Z"⟩ jdk_42_method_75_code 8 (some .boolean)).before args0 about1 = true := code_word (m := ⟨7, 4⟩) (meth := k7m4) (c := k7c4) (by decide +kernel) rfl rfl rfl (by decide +kernel)
set_option maxRecDepth 65536 in
theorem w_c58 : (Jvm.Cond.code ⟨"java/lang/String", "length", "()I"⟩ jdk_42_method_54_code 1 (some .int)).before args0 about1 = true := code_word (m := ⟨7, 2⟩) (meth := k7m2) (c := k7c2) (by decide +kernel) rfl rfl rfl (by decide +kernel)
set_option maxRecDepth 65536 in
theorem w_c59 : (Jvm.Cond.code ⟨"java/lang/String", "coder", "()B"⟩ jdk_42_method_152_code 1 (some .byte)).before args0 about1 = true := code_word (m := ⟨7, 10⟩) (meth := k7m10) (c := k7c10) (by decide +kernel) rfl rfl rfl (by decide +kernel)
set_option maxRecDepth 65536 in
theorem w_c60 : (Jvm.Cond.code ⟨"jdk/internal/util/ArraysSupport", "mismatch", "([BI[BII)I"⟩ jdk_48_method_14_code 8 (some .int)).before args0 about1 = true := code_word (m := ⟨37, 3⟩) (meth := k37m3) (c := k37c3) (by decide +kernel) rfl rfl rfl (by decide +kernel)
set_option maxRecDepth 65536 in
theorem w_c61 : (Jvm.Cond.code ⟨"java/util/ImmutableCollections$SetN", "contains", "(Ljava/lang/Object;)Z"⟩ jdk_132_method_4_code 2 (some .boolean)).before args0 about1 = true := code_word (m := ⟨38, 0⟩) (meth := k38m0) (c := k38c0) (by decide +kernel) rfl rfl rfl (by decide +kernel)
set_option maxRecDepth 65536 in
theorem w_c62 : (Jvm.Cond.code ⟨"java/util/ImmutableCollections$Set12", "contains", "(Ljava/lang/Object;)Z"⟩ jdk_101_method_5_code 2 (some .boolean)).before args0 about1 = true := code_word (m := ⟨22, 1⟩) (meth := k22m1) (c := k22c1) (by decide +kernel) rfl rfl rfl (by decide +kernel)
set_option maxRecDepth 65536 in
theorem w_c63 : (Jvm.Cond.code ⟨"java/util/HashMap", "computeIfAbsent", "(Ljava/lang/Object;Ljava/util/function/Function;)Ljava/lang/Object;"⟩ jdk_69_method_35_code 13 (some (.object "java/lang/Object"))).before args0 about1 = true := code_word (m := ⟨28, 6⟩) (meth := k28m6) (c := k28c6) (by decide +kernel) rfl rfl rfl (by decide +kernel)
set_option maxRecDepth 65536 in
theorem w_c64 : (Jvm.Cond.code ⟨"java/util/HashMap", "hash", "(Ljava/lang/Object;)I"⟩ jdk_69_method_1_code 2 (some .int)).before args0 about1 = true := code_word (m := ⟨28, 0⟩) (meth := k28m0) (c := k28c0) (by decide +kernel) rfl rfl rfl (by decide +kernel)
set_option maxRecDepth 65536 in
theorem w_c65 : (Jvm.Cond.code ⟨"java/lang/String", "hashCode", "()I"⟩ jdk_42_method_78_code 2 (some .int)).before args0 about1 = true := code_word (m := ⟨7, 6⟩) (meth := k7m6) (c := k7c6) (by decide +kernel) rfl rfl rfl (by decide +kernel)
set_option maxRecDepth 65536 in
theorem w_c66 : (Jvm.Cond.code ⟨"java/lang/String", "isLatin1", "()Z"⟩ jdk_42_method_154_code 1 (some .boolean)).before args0 about1 = true := code_word (m := ⟨7, 11⟩) (meth := k7m11) (c := k7c11) (by decide +kernel) rfl rfl rfl (by decide +kernel)
set_option maxRecDepth 65536 in
theorem w_c67 : (Jvm.Cond.code ⟨"java/lang/StringLatin1", "hashCode", "([B)I"⟩ jdk_43_method_21_code 1 (some .int)).before args0 about1 = true := code_word (m := ⟨9, 3⟩) (meth := k9m3) (c := k9c3) (by decide +kernel) rfl rfl rfl (by decide +kernel)
set_option maxRecDepth 65536 in
theorem w_c68 : (Jvm.Cond.code ⟨"jdk/internal/util/ArraysSupport", "vectorizedHashCode", "(Ljava/lang/Object;IIII)I"⟩ jdk_48_method_4_code 5 (some .int)).before args0 about1 = true := code_word (m := ⟨37, 1⟩) (meth := k37m1) (c := k37c1) (by decide +kernel) rfl rfl rfl (by decide +kernel)
set_option maxRecDepth 65536 in
theorem w_c69 : (Jvm.Cond.code ⟨"jdk/internal/util/ArraysSupport", "signedHashCode", "(I[BII)I"⟩ jdk_48_method_5_code 6 (some .int)).before args0 about1 = true := code_word (m := ⟨37, 2⟩) (meth := k37m2) (c := k37c2) (by decide +kernel) rfl rfl rfl (by decide +kernel)
set_option maxRecDepth 65536 in
theorem w_c70 : (Jvm.Cond.code ⟨"java/util/HashMap", "resize", "()[Ljava/util/HashMap$Node;"⟩ jdk_69_method_17_code 14 (some (.array (.object "java/util/HashMap$Node")))).before args0 about1 = true := code_word (m := ⟨28, 4⟩) (meth := k28m4) (c := k28c4) (by decide +kernel) rfl rfl rfl (by decide +kernel)
set_option maxRecDepth 65536 in
theorem w_c71 : (Jvm.Cond.code ⟨"com/example/keyturn/keyturn/Options", "lambda$parse$0", "(Ljava/lang/String;)Ljava/util/List;"⟩ prog_16_method_19_code 1 (some (.object "java/util/List"))).before args0 about1 = true := code_word (m := ⟨24, 6⟩) (meth := k24m6) (c := k24c6) (by decide +kernel) rfl rfl rfl (by decide +kernel)
set_option maxRecDepth 65536 in
theorem w_c72 : (Jvm.Cond.code ⟨"java/util/HashMap", "newNode", "(ILjava/lang/Object;Ljava/lang/Object;Ljava/util/HashMap$Node;)Ljava/util/HashMap$Node;"⟩ jdk_69_method_46_code 5 (some (.object "java/util/HashMap$Node"))).before args0 about1 = true := code_word (m := ⟨28, 7⟩) (meth := k28m7) (c := k28c7) (by decide +kernel) rfl rfl rfl (by decide +kernel)
set_option maxRecDepth 65536 in
theorem w_c73 : (Jvm.Cond.code ⟨"java/util/HashMap$Node", "<init>", "(ILjava/lang/Object;Ljava/lang/Object;Ljava/util/HashMap$Node;)V"⟩ jdk_70_method_1_code 5 none).before args0 about1 = true := code_word (m := ⟨41, 0⟩) (meth := k41m0) (c := k41c0) (by decide +kernel) rfl rfl rfl (by decide +kernel)
set_option maxRecDepth 65536 in
theorem w_c74 : (Jvm.Cond.code ⟨"java/util/HashMap", "afterNodeInsertion", "(Z)V"⟩ jdk_69_method_52_code 2 none).before args0 about1 = true := code_word (m := ⟨28, 8⟩) (meth := k28m8) (c := k28c8) (by decide +kernel) rfl rfl rfl (by decide +kernel)
set_option maxRecDepth 65536 in
theorem w_c75 : (Jvm.Cond.code ⟨"java/util/ArrayList", "toArray", "()[Ljava/lang/Object;"⟩ jdk_38_method_16_code 1 (some (.array (.object "java/lang/Object")))).before args0 about1 = true := code_word (m := ⟨18, 5⟩) (meth := k18m5) (c := k18c5) (by decide +kernel) rfl rfl rfl (by decide +kernel)
set_option maxRecDepth 65536 in
theorem w_c76 : (Jvm.Cond.code ⟨"java/util/Arrays", "copyOf", "([Ljava/lang/Object;I)[Ljava/lang/Object;"⟩ jdk_65_method_119_code 2 (some (.array (.object "java/lang/Object")))).before args0 about1 = true := code_word (m := ⟨31, 1⟩) (meth := k31m1) (c := k31c1) (by decide +kernel) rfl rfl rfl (by decide +kernel)
set_option maxRecDepth 65536 in
theorem w_c77 : (Jvm.Cond.code ⟨"java/util/Arrays", "copyOf", "([Ljava/lang/Object;ILjava/lang/Class;)[Ljava/lang/Object;"⟩ jdk_65_method_120_code 4 (some (.array (.object "java/lang/Object")))).before args0 about1 = true := code_word (m := ⟨31, 2⟩) (meth := k31m2) (c := k31c2) (by decide +kernel) rfl rfl rfl (by decide +kernel)
set_option maxRecDepth 65536 in
theorem w_c78 : (Jvm.Cond.code ⟨"java/util/List", "of", "([Ljava/lang/Object;)Ljava/util/List;"⟩ jdk_40_method_47_code 2 (some (.object "java/util/List"))).before args0 about1 = true := code_word (m := ⟨14, 6⟩) (meth := k14m6) (c := k14c6) (by decide +kernel) rfl rfl rfl (by decide +kernel)
set_option maxRecDepth 65536 in
theorem w_c79 : (Jvm.Cond.code ⟨"java/util/ImmutableCollections$List12", "<init>", "(Ljava/lang/Object;)V"⟩ jdk_44_method_1_code 2 none).before args0 about1 = true := code_word (m := ⟨34, 0⟩) (meth := k34m0) (c := k34c0) (by decide +kernel) rfl rfl rfl (by decide +kernel)
set_option maxRecDepth 65536 in
theorem w_c80 : (Jvm.Cond.code ⟨"java/util/ImmutableCollections$AbstractImmutableList", "<init>", "()V"⟩ jdk_46_method_1_code 1 none).before args0 about1 = true := code_word (m := ⟨33, 0⟩) (meth := k33m0) (c := k33c0) (by decide +kernel) rfl rfl rfl (by decide +kernel)
set_option maxRecDepth 65536 in
theorem w_c81 : (Jvm.Cond.code ⟨"java/util/ImmutableCollections$List12", "size", "()I"⟩ jdk_44_method_3_code 1 (some .int)).before args0 about1 = true := code_word (m := ⟨34, 2⟩) (meth := k34m2) (c := k34c2) (by decide +kernel) rfl rfl rfl (by decide +kernel)
set_option maxRecDepth 65536 in
theorem w_c82 : (Jvm.Cond.code ⟨"java/util/ImmutableCollections$List12", "get", "(I)Ljava/lang/Object;"⟩ jdk_44_method_5_code 2 (some (.object "java/lang/Object"))).before args0 about1 = true := code_word (m := ⟨34, 3⟩) (meth := k34m3) (c := k34c3) (by decide +kernel) rfl rfl rfl (by decide +kernel)
set_option maxRecDepth 65536 in
theorem w_c83 : (Jvm.Cond.code ⟨"java/util/ImmutableCollections$List12", "<init>", "(Ljava/lang/Object;Ljava/lang/Object;)V"⟩ jdk_44_method_2_code 3 none).before args0 about1 = true := code_word (m := ⟨34, 1⟩) (meth := k34m1) (c := k34c1) (by decide +kernel) rfl rfl rfl (by decide +kernel)
set_option maxRecDepth 65536 in
theorem w_c84 : (Jvm.Cond.code ⟨"com/example/keyturn/keyturn/Options", "operand", "(I)Ljava/lang/String;"⟩ prog_16_method_10_code 2 (some (.object "java/lang/String"))).before args0 about1 = true := code_word (m := ⟨24, 5⟩) (meth := k24m5) (c := k24c5) (by decide +kernel) rfl rfl rfl (by decide +kernel)
set_option maxRecDepth 65536 in
theorem w_c85 : (Jvm.Cond.code ⟨"java/util/ImmutableCollections", "listFromArray", "([Ljava/lang/Object;)Ljava/util/List;"⟩ jdk_56_method_4_code 3 (some (.object "java/util/List"))).before args0 about1 = true := code_word (m := ⟨25, 2⟩) (meth := k25m2) (c := k25c2) (by decide +kernel) rfl rfl rfl (by decide +kernel)
set_option maxRecDepth 65536 in
theorem w_c86 : (Jvm.Cond.code ⟨"java/util/ImmutableCollections$ListN", "<init>", "([Ljava/lang/Object;Z)V"⟩ jdk_45_method_1_code 3 none).before args0 about1 = true := code_word (m := ⟨35, 0⟩) (meth := k35m0) (c := k35c0) (by decide +kernel) rfl rfl rfl (by decide +kernel)
set_option maxRecDepth 65536 in
theorem w_c87 : (Jvm.Cond.code ⟨"java/util/ImmutableCollections$ListN", "get", "(I)Ljava/lang/Object;"⟩ jdk_45_method_4_code 2 (some (.object "java/lang/Object"))).before args0 about1 = true := code_word (m := ⟨35, 2⟩) (meth := k35m2) (c := k35c2) (by decide +kernel) rfl rfl rfl (by decide +kernel)
def codes1 : List Jvm.Cond := [Jvm.Cond.code x code maxLocals ret, Jvm.Cond.code ⟨"java/lang/String", "<init>", "([C)V"⟩ jdk_42_method_3_code 2 none, Jvm.Cond.code ⟨"java/lang/String", "<init>", "([CIILjava/lang/Void;)V"⟩ jdk_42_method_149_code 6 none, Jvm.Cond.code ⟨"java/lang/Object", "<init>", "()V"⟩ object_method_1_code 1 none, Jvm.Cond.code ⟨"java/lang/StringUTF16", "compress", "([CII)[B"⟩ jdk_52_method_16_code 6 (some (.array .byte)), Jvm.Cond.code ⟨"java/lang/StringUTF16", "compress", "([CI[BII)I"⟩ jdk_52_method_21_code 7 (some .int), Jvm.Cond.code ⟨"java/lang/StringUTF16", "coderFromArrayLen", "([BI)B"⟩ jdk_52_method_15_code 2 (some .byte), Jvm.Cond.code ⟨"java/lang/String", "valueOf", "(C)Ljava/lang/String;"⟩ jdk_42_method_139_code 1 (some (.object "java/lang/String")), Jvm.Cond.code ⟨"java/lang/StringLatin1", "canEncode", "(C)Z"⟩ jdk_43_method_3_code 1 (some .boolean), Jvm.Cond.code ⟨"java/lang/StringLatin1", "toBytes", "(C)[B"⟩ jdk_43_method_46_code 1 (some (.array .byte)), Jvm.Cond.code ⟨"java/lang/String", "<init>", "([BB)V"⟩ jdk_42_method_151_code 3 none, Jvm.Cond.code ⟨"java/util/ArrayList", "<init>", "()V"⟩ jdk_38_method_2_code 1 none, Jvm.Cond.code ⟨"java/util/AbstractList", "<init>", "()V"⟩ jdk_39_method_1_code 1 none, Jvm.Cond.code ⟨"java/util/AbstractCollection", "<init>", "()V"⟩ jdk_22_method_1_code 1 none, Jvm.Cond.code ⟨"java/util/Set", "of", "(Ljava/lang/Object;Ljava/lang/Object;)Ljava/util/Set;"⟩ jdk_96_method_19_code 2 (some (.object "java/util/Set")), Jvm.Cond.code ⟨"java/util/ImmutableCollections$Set12", "<init>", "(Ljava/lang/Object;Ljava/lang/Object;)V"⟩ jdk_101_method_2_code 3 none, Jvm.Cond.code ⟨"java/util/ImmutableCollections$AbstractImmutableSet", "<init>", "()V"⟩ jdk_100_method_1_code 1 none, Jvm.Cond.code ⟨"java/util/ImmutableCollections$AbstractImmutableCollection", "<init>", "()V"⟩ jdk_47_method_1_code 1 none, Jvm.Cond.code ⟨"java/util/Objects", "requireNonNull", "(Ljava/lang/Object;)Ljava/lang/Object;"⟩ jdk_31_method_10_code 1 (some (.object "java/lang/Object")), Jvm.Cond.code ⟨"java/lang/String", "equals", "(Ljava/lang/Object;)Z"⟩ jdk_42_method_66_code 3 (some .boolean), Jvm.Cond.code ⟨"java/lang/StringLatin1", "equals", "([B[B)Z"⟩ jdk_43_method_13_code 3 (some .boolean), Jvm.Cond.code ⟨"com/example/keyturn/keyturn/Options", "parse", "(Ljava/util/List;Ljava/util/Set;Ljava/util/List;Ljava/lang/String;)Lcom/example/keyturn/keyturn/Options;"⟩ prog_16_method_2_code 4 (some (.object "com/example/keyturn/keyturn/Options")), Jvm.Cond.code ⟨"java/util/Set", "of", "()Ljava/util/Set;"⟩ jdk_96_method_17_code 0 (some (.object "java/util/Set")), Jvm.Cond.code ⟨"com/example/keyturn/keyturn/Options", "parse", "(Ljava/util/List;Ljava/util/Set;Ljava/util/Set;Ljava/util/Set;Ljava/util/List;Ljava/lang/String;)Lcom/example/keyturn/keyturn/Options;"⟩ prog_16_method_3_code 12 (some (.object "com/example/keyturn/keyturn/Options")), Jvm.Cond.code ⟨"java/util/HashMap", "<init>", "()V"⟩ jdk_69_method_7_code 1 none, Jvm.Cond.code ⟨"java/util/AbstractMap", "<init>", "()V"⟩ jdk_71_method_1_code 1 none, Jvm.Cond.code ⟨"java/util/ArrayList", "size", "()I"⟩ jdk_38_method_8_code 1 (some .int), Jvm.Cond.code ⟨"java/lang/Math", "min", "(II)I"⟩ jdk_29_method_69_code 2 (some .int), Jvm.Cond.code ⟨"java/util/ArrayList", "subList", "(II)Ljava/util/List;"⟩ jdk_38_method_56_code 3 (some (.object "java/util/List")), Jvm.Cond.code ⟨"java/util/AbstractList", "subListRangeCheck", "(III)V"⟩ jdk_39_method_15_code 3 none, Jvm.Cond.code ⟨"java/util/ArrayList$SubList", "<init>", "(Ljava/util/ArrayList;II)V"⟩ jdk_130_method_1_code 4 none, Jvm.Cond.code ⟨"java/util/ArrayList", "addAll", "(Ljava/util/Collection;)Z"⟩ jdk_38_method_41_code 6 (some .boolean), Jvm.Cond.code ⟨"java/util/ArrayList$SubList", "toArray", "()[Ljava/lang/Object;"⟩ jdk_130_method_16_code 1 (some (.array (.object "java/lang/Object"))), Jvm.Cond.code ⟨"java/util/ArrayList$SubList", "checkForComodification", "()V"⟩ jdk_130_method_28_code 1 none, Jvm.Cond.code ⟨"java/util/Arrays", "copyOfRange", "([Ljava/lang/Object;II)[Ljava/lang/Object;"⟩ jdk_65_method_129_code 3 (some (.array (.object "java/lang/Object"))), Jvm.Cond.code ⟨"java/util/Arrays", "copyOfRange", "([Ljava/lang/Object;IILjava/lang/Class;)[Ljava/lang/Object;"⟩ jdk_65_method_130_code 6 (some (.array (.object "java/lang/Object"))), Jvm.Cond.code ⟨"java/util/List", "copyOf", "(Ljava/util/Collection;)Ljava/util/List;"⟩ jdk_40_method_48_code 1 (some (.object "java/util/List")), Jvm.Cond.code ⟨"java/util/ImmutableCollections", "listCopy", "(Ljava/util/Collection;)Ljava/util/List;"⟩ jdk_56_method_3_code 2 (some (.object "java/util/List")), Jvm.Cond.code ⟨"java/util/ArrayList", "isEmpty", "()Z"⟩ jdk_38_method_9_code 1 (some .boolean), Jvm.Cond.code ⟨"java/util/List", "of", "()Ljava/util/List;"⟩ jdk_40_method_36_code 0 (some (.object "java/util/List")), Jvm.Cond.code ⟨"com/example/keyturn/keyturn/Options", "<init>", "(Ljava/util/Map;Ljava/util/List;Ljava/util/List;Ljava/lang/String;)V"⟩ prog_16_method_1_code 5 none, Jvm.Cond.code ⟨"com/example/keyturn/keyturn/Options", "has", "(Ljava/lang/String;)Z"⟩ prog_16_method_7_code 2 (some .boolean), Jvm.Cond.code ⟨"java/util/HashMap", "containsKey", "(Ljava/lang/Object;)Z"⟩ jdk_69_method_14_code 2 (some .boolean), Jvm.Cond.code ⟨"java/util/HashMap", "getNode", "(Ljava/lang/Object;)Ljava/util/HashMap$Node;"⟩ jdk_69_method_13_code 8 (some (.object "java/util/HashMap$Node")), Jvm.Cond.code ⟨"com/example/keyturn/keyturn/Options", "all", "(Ljava/lang/String;)Ljava/util/List;"⟩ prog_16_method_6_code 2 (some (.object "java/util/List")), Jvm.Cond.code ⟨"java/util/HashMap", "getOrDefault", "(Ljava/lang/Object;Ljava/lang/Object;)Ljava/lang/Object;"⟩ jdk_69_method_30_code 4 (some (.object "java/lang/Object")), Jvm.Cond.code ⟨"java/util/ImmutableCollections$ListN", "size", "()I"⟩ jdk_45_method_3_code 1 (some .int), Jvm.Cond.code ⟨"java/util/ArrayList", "add", "(Ljava/lang/Object;)Z"⟩ jdk_38_method_25_code 2 (some .boolean), Jvm.Cond.code ⟨"java/util/ArrayList", "add", "(Ljava/lang/Object;[Ljava/lang/Object;I)V"⟩ jdk_38_method_24_code 4 none, Jvm.Cond.code ⟨"java/util/ArrayList", "grow", "()[Ljava/lang/Object;"⟩ jdk_38_method_7_code 1 (some (.array (.object "java/lang/Object"))), Jvm.Cond.code ⟨"java/util/ArrayList", "grow", "(I)[Ljava/lang/Object;"⟩ jdk_38_method_6_code 4 (some (.array (.object "java/lang/Object"))), Jvm.Cond.code ⟨"java/lang/Math", "max", "(II)I"⟩ jdk_29_method_65_code 2 (some .int), Jvm.Cond.code ⟨"java/util/ArrayList", "get", "(I)Ljava/lang/Object;"⟩ jdk_38_method_20_code 2 (some (.object "java/lang/Object")), Jvm.Cond.code ⟨"java/util/Objects", "checkIndex", "(II)I"⟩ jdk_31_method_17_code 2 (some .int), Jvm.Cond.code ⟨"jdk/internal/util/Preconditions", "checkIndex", "(IILjava/util/function/BiFunction;)I"⟩ jdk_41_method_11_code 3 (some .int), Jvm.Cond.code ⟨"java/util/ArrayList", "elementData", "(I)Ljava/lang/Object;"⟩ jdk_38_method_18_code 2 (some (.object "java/lang/Object")), Jvm.Cond.code ⟨"java/lang/String", "startsWith", "(Ljava/lang/String;)Z"⟩ jdk_42_method_76_code 2 (some .boolean), Jvm.Cond.code ⟨"java/lang/String", "startsWith", "(Ljava/lang/String;I)Z"⟩ jdk_42_method_75_code 8 (some .boolean), Jvm.Cond.code ⟨"java/lang/String", "length", "()I"⟩ jdk_42_method_54_code 1 (some .int), Jvm.Cond.code ⟨"java/lang/String", "coder", "()B"⟩ jdk_42_method_152_code 1 (some .byte), Jvm.Cond.code ⟨"jdk/internal/util/ArraysSupport", "mismatch", "([BI[BII)I"⟩ jdk_48_method_14_code 8 (some .int), Jvm.Cond.code ⟨"java/util/ImmutableCollections$SetN", "contains", "(Ljava/lang/Object;)Z"⟩ jdk_132_method_4_code 2 (some .boolean), Jvm.Cond.code ⟨"java/util/ImmutableCollections$Set12", "contains", "(Ljava/lang/Object;)Z"⟩ jdk_101_method_5_code 2 (some .boolean), Jvm.Cond.code ⟨"java/util/HashMap", "computeIfAbsent", "(Ljava/lang/Object;Ljava/util/function/Function;)Ljava/lang/Object;"⟩ jdk_69_method_35_code 13 (some (.object "java/lang/Object")), Jvm.Cond.code ⟨"java/util/HashMap", "hash", "(Ljava/lang/Object;)I"⟩ jdk_69_method_1_code 2 (some .int), Jvm.Cond.code ⟨"java/lang/String", "hashCode", "()I"⟩ jdk_42_method_78_code 2 (some .int), Jvm.Cond.code ⟨"java/lang/String", "isLatin1", "()Z"⟩ jdk_42_method_154_code 1 (some .boolean), Jvm.Cond.code ⟨"java/lang/StringLatin1", "hashCode", "([B)I"⟩ jdk_43_method_21_code 1 (some .int), Jvm.Cond.code ⟨"jdk/internal/util/ArraysSupport", "vectorizedHashCode", "(Ljava/lang/Object;IIII)I"⟩ jdk_48_method_4_code 5 (some .int), Jvm.Cond.code ⟨"jdk/internal/util/ArraysSupport", "signedHashCode", "(I[BII)I"⟩ jdk_48_method_5_code 6 (some .int), Jvm.Cond.code ⟨"java/util/HashMap", "resize", "()[Ljava/util/HashMap$Node;"⟩ jdk_69_method_17_code 14 (some (.array (.object "java/util/HashMap$Node"))), Jvm.Cond.code ⟨"com/example/keyturn/keyturn/Options", "lambda$parse$0", "(Ljava/lang/String;)Ljava/util/List;"⟩ prog_16_method_19_code 1 (some (.object "java/util/List")), Jvm.Cond.code ⟨"java/util/HashMap", "newNode", "(ILjava/lang/Object;Ljava/lang/Object;Ljava/util/HashMap$Node;)Ljava/util/HashMap$Node;"⟩ jdk_69_method_46_code 5 (some (.object "java/util/HashMap$Node")), Jvm.Cond.code ⟨"java/util/HashMap$Node", "<init>", "(ILjava/lang/Object;Ljava/lang/Object;Ljava/util/HashMap$Node;)V"⟩ jdk_70_method_1_code 5 none, Jvm.Cond.code ⟨"java/util/HashMap", "afterNodeInsertion", "(Z)V"⟩ jdk_69_method_52_code 2 none, Jvm.Cond.code ⟨"java/util/ArrayList", "toArray", "()[Ljava/lang/Object;"⟩ jdk_38_method_16_code 1 (some (.array (.object "java/lang/Object"))), Jvm.Cond.code ⟨"java/util/Arrays", "copyOf", "([Ljava/lang/Object;I)[Ljava/lang/Object;"⟩ jdk_65_method_119_code 2 (some (.array (.object "java/lang/Object"))), Jvm.Cond.code ⟨"java/util/Arrays", "copyOf", "([Ljava/lang/Object;ILjava/lang/Class;)[Ljava/lang/Object;"⟩ jdk_65_method_120_code 4 (some (.array (.object "java/lang/Object"))), Jvm.Cond.code ⟨"java/util/List", "of", "([Ljava/lang/Object;)Ljava/util/List;"⟩ jdk_40_method_47_code 2 (some (.object "java/util/List")), Jvm.Cond.code ⟨"java/util/ImmutableCollections$List12", "<init>", "(Ljava/lang/Object;)V"⟩ jdk_44_method_1_code 2 none, Jvm.Cond.code ⟨"java/util/ImmutableCollections$AbstractImmutableList", "<init>", "()V"⟩ jdk_46_method_1_code 1 none, Jvm.Cond.code ⟨"java/util/ImmutableCollections$List12", "size", "()I"⟩ jdk_44_method_3_code 1 (some .int), Jvm.Cond.code ⟨"java/util/ImmutableCollections$List12", "get", "(I)Ljava/lang/Object;"⟩ jdk_44_method_5_code 2 (some (.object "java/lang/Object")), Jvm.Cond.code ⟨"java/util/ImmutableCollections$List12", "<init>", "(Ljava/lang/Object;Ljava/lang/Object;)V"⟩ jdk_44_method_2_code 3 none, Jvm.Cond.code ⟨"com/example/keyturn/keyturn/Options", "operand", "(I)Ljava/lang/String;"⟩ prog_16_method_10_code 2 (some (.object "java/lang/String")), Jvm.Cond.code ⟨"java/util/ImmutableCollections", "listFromArray", "([Ljava/lang/Object;)Ljava/util/List;"⟩ jdk_56_method_4_code 3 (some (.object "java/util/List")), Jvm.Cond.code ⟨"java/util/ImmutableCollections$ListN", "<init>", "([Ljava/lang/Object;Z)V"⟩ jdk_45_method_1_code 3 none, Jvm.Cond.code ⟨"java/util/ImmutableCollections$ListN", "get", "(I)Ljava/lang/Object;"⟩ jdk_45_method_4_code 2 (some (.object "java/lang/Object"))]
set_option maxRecDepth 65536 in
theorem codes_eq : words1.filter isCode = codes1 := rfl
theorem w_codes : ∀ c ∈ words1.filter isCode, c.before args0 about1 = true := by
  rw [codes_eq]
  intro c hc
  simp only [codes1, List.mem_cons, List.not_mem_nil, or_false] at hc
  rcases hc with rfl | rfl | rfl | rfl | rfl | rfl | rfl | rfl | rfl | rfl | rfl | rfl | rfl | rfl | rfl | rfl | rfl | rfl | rfl | rfl | rfl | rfl | rfl | rfl | rfl | rfl | rfl | rfl | rfl | rfl | rfl | rfl | rfl | rfl | rfl | rfl | rfl | rfl | rfl | rfl | rfl | rfl | rfl | rfl | rfl | rfl | rfl | rfl | rfl | rfl | rfl | rfl | rfl | rfl | rfl | rfl | rfl | rfl | rfl | rfl | rfl | rfl | rfl | rfl | rfl | rfl | rfl | rfl | rfl | rfl | rfl | rfl | rfl | rfl | rfl | rfl | rfl | rfl | rfl | rfl | rfl | rfl | rfl | rfl | rfl | rfl | rfl | rfl
  · exact w_c0
  · exact w_c1
  · exact w_c2
  · exact w_c3
  · exact w_c4
  · exact w_c5
  · exact w_c6
  · exact w_c7
  · exact w_c8
  · exact w_c9
  · exact w_c10
  · exact w_c11
  · exact w_c12
  · exact w_c13
  · exact w_c14
  · exact w_c15
  · exact w_c16
  · exact w_c17
  · exact w_c18
  · exact w_c19
  · exact w_c20
  · exact w_c21
  · exact w_c22
  · exact w_c23
  · exact w_c24
  · exact w_c25
  · exact w_c26
  · exact w_c27
  · exact w_c28
  · exact w_c29
  · exact w_c30
  · exact w_c31
  · exact w_c32
  · exact w_c33
  · exact w_c34
  · exact w_c35
  · exact w_c36
  · exact w_c37
  · exact w_c38
  · exact w_c39
  · exact w_c40
  · exact w_c41
  · exact w_c42
  · exact w_c43
  · exact w_c44
  · exact w_c45
  · exact w_c46
  · exact w_c47
  · exact w_c48
  · exact w_c49
  · exact w_c50
  · exact w_c51
  · exact w_c52
  · exact w_c53
  · exact w_c54
  · exact w_c55
  · exact w_c56
  · exact w_c57
  · exact w_c58
  · exact w_c59
  · exact w_c60
  · exact w_c61
  · exact w_c62
  · exact w_c63
  · exact w_c64
  · exact w_c65
  · exact w_c66
  · exact w_c67
  · exact w_c68
  · exact w_c69
  · exact w_c70
  · exact w_c71
  · exact w_c72
  · exact w_c73
  · exact w_c74
  · exact w_c75
  · exact w_c76
  · exact w_c77
  · exact w_c78
  · exact w_c79
  · exact w_c80
  · exact w_c81
  · exact w_c82
  · exact w_c83
  · exact w_c84
  · exact w_c85
  · exact w_c86
  · exact w_c87
set_option maxRecDepth 65536 in
theorem w_t1 : (words1.take 24).all (fun c => isCode c || c.before args0 about1) = true := by decide +kernel
set_option maxRecDepth 65536 in
theorem w_t2 : ((words1.drop 24).take 24).all (fun c => isCode c || c.before args0 about1) = true := by decide +kernel
set_option maxRecDepth 65536 in
theorem w_t3 : (((words1.drop 24).drop 24).take 24).all (fun c => isCode c || c.before args0 about1) = true := by decide +kernel
set_option maxRecDepth 65536 in
theorem w_t4 : ((((words1.drop 24).drop 24).drop 24).take 24).all (fun c => isCode c || c.before args0 about1) = true := by decide +kernel
set_option maxRecDepth 65536 in
theorem w_t5 : (((((words1.drop 24).drop 24).drop 24).drop 24).take 24).all (fun c => isCode c || c.before args0 about1) = true := by decide +kernel
set_option maxRecDepth 65536 in
theorem w_t6 : ((((((words1.drop 24).drop 24).drop 24).drop 24).drop 24).take 24).all (fun c => isCode c || c.before args0 about1) = true := by decide +kernel
set_option maxRecDepth 65536 in
theorem w_t7 : (((((((words1.drop 24).drop 24).drop 24).drop 24).drop 24).drop 24).take 24).all (fun c => isCode c || c.before args0 about1) = true := by decide +kernel
set_option maxRecDepth 65536 in
theorem w_t8 : ((((((((words1.drop 24).drop 24).drop 24).drop 24).drop 24).drop 24).drop 24).take 24).all (fun c => isCode c || c.before args0 about1) = true := by decide +kernel
set_option maxRecDepth 65536 in
theorem w_t9 : (((((((((words1.drop 24).drop 24).drop 24).drop 24).drop 24).drop 24).drop 24).drop 24).take 24).all (fun c => isCode c || c.before args0 about1) = true := by decide +kernel
set_option maxRecDepth 65536 in
theorem w_t10 : ((((((((((words1.drop 24).drop 24).drop 24).drop 24).drop 24).drop 24).drop 24).drop 24).drop 24).take 24).all (fun c => isCode c || c.before args0 about1) = true := by decide +kernel
set_option maxRecDepth 65536 in
theorem w_t11 : (((((((((((words1.drop 24).drop 24).drop 24).drop 24).drop 24).drop 24).drop 24).drop 24).drop 24).drop 24).take 24).all (fun c => isCode c || c.before args0 about1) = true := by decide +kernel
set_option maxRecDepth 65536 in
theorem w_t12 : ((((((((((((words1.drop 24).drop 24).drop 24).drop 24).drop 24).drop 24).drop 24).drop 24).drop 24).drop 24).drop 24).take 24).all (fun c => isCode c || c.before args0 about1) = true := by decide +kernel
set_option maxRecDepth 65536 in
theorem w_t13 : (((((((((((((words1.drop 24).drop 24).drop 24).drop 24).drop 24).drop 24).drop 24).drop 24).drop 24).drop 24).drop 24).drop 24).take 24).all (fun c => isCode c || c.before args0 about1) = true := by decide +kernel
set_option maxRecDepth 65536 in
theorem w_t14 : ((((((((((((((words1.drop 24).drop 24).drop 24).drop 24).drop 24).drop 24).drop 24).drop 24).drop 24).drop 24).drop 24).drop 24).drop 24).take 24).all (fun c => isCode c || c.before args0 about1) = true := by decide +kernel
set_option maxRecDepth 65536 in
theorem w_t15 : (((((((((((((((words1.drop 24).drop 24).drop 24).drop 24).drop 24).drop 24).drop 24).drop 24).drop 24).drop 24).drop 24).drop 24).drop 24).drop 24).take 24).all (fun c => isCode c || c.before args0 about1) = true := by decide +kernel
set_option maxRecDepth 65536 in
theorem w_t16 : ((((((((((((((((words1.drop 24).drop 24).drop 24).drop 24).drop 24).drop 24).drop 24).drop 24).drop 24).drop 24).drop 24).drop 24).drop 24).drop 24).drop 24).take 24).all (fun c => isCode c || c.before args0 about1) = true := by decide +kernel
set_option maxRecDepth 65536 in
theorem w_t17 : (((((((((((((((((words1.drop 24).drop 24).drop 24).drop 24).drop 24).drop 24).drop 24).drop 24).drop 24).drop 24).drop 24).drop 24).drop 24).drop 24).drop 24).drop 24).take 24).all (fun c => isCode c || c.before args0 about1) = true := by decide +kernel
set_option maxRecDepth 65536 in
theorem w_t18 : ((((((((((((((((((words1.drop 24).drop 24).drop 24).drop 24).drop 24).drop 24).drop 24).drop 24).drop 24).drop 24).drop 24).drop 24).drop 24).drop 24).drop 24).drop 24).drop 24).take 24).all (fun c => isCode c || c.before args0 about1) = true := by decide +kernel
set_option maxRecDepth 65536 in
theorem w_t19 : (((((((((((((((((((words1.drop 24).drop 24).drop 24).drop 24).drop 24).drop 24).drop 24).drop 24).drop 24).drop 24).drop 24).drop 24).drop 24).drop 24).drop 24).drop 24).drop 24).drop 24).take 24).all (fun c => isCode c || c.before args0 about1) = true := by decide +kernel
set_option maxRecDepth 65536 in
theorem w_t20 : ((((((((((((((((((((words1.drop 24).drop 24).drop 24).drop 24).drop 24).drop 24).drop 24).drop 24).drop 24).drop 24).drop 24).drop 24).drop 24).drop 24).drop 24).drop 24).drop 24).drop 24).drop 24).take 24).all (fun c => isCode c || c.before args0 about1) = true := by decide +kernel
set_option maxRecDepth 65536 in
theorem w_t21 : (((((((((((((((((((((words1.drop 24).drop 24).drop 24).drop 24).drop 24).drop 24).drop 24).drop 24).drop 24).drop 24).drop 24).drop 24).drop 24).drop 24).drop 24).drop 24).drop 24).drop 24).drop 24).drop 24).take 24).all (fun c => isCode c || c.before args0 about1) = true := by decide +kernel
set_option maxRecDepth 65536 in
theorem w_t22 : ((((((((((((((((((((((words1.drop 24).drop 24).drop 24).drop 24).drop 24).drop 24).drop 24).drop 24).drop 24).drop 24).drop 24).drop 24).drop 24).drop 24).drop 24).drop 24).drop 24).drop 24).drop 24).drop 24).drop 24).take 24).all (fun c => isCode c || c.before args0 about1) = true := by decide +kernel
set_option maxRecDepth 65536 in
theorem w_t23 : (((((((((((((((((((((((words1.drop 24).drop 24).drop 24).drop 24).drop 24).drop 24).drop 24).drop 24).drop 24).drop 24).drop 24).drop 24).drop 24).drop 24).drop 24).drop 24).drop 24).drop 24).drop 24).drop 24).drop 24).drop 24).take 24).all (fun c => isCode c || c.before args0 about1) = true := by decide +kernel
set_option maxRecDepth 65536 in
theorem w_t24 : ((((((((((((((((((((((((words1.drop 24).drop 24).drop 24).drop 24).drop 24).drop 24).drop 24).drop 24).drop 24).drop 24).drop 24).drop 24).drop 24).drop 24).drop 24).drop 24).drop 24).drop 24).drop 24).drop 24).drop 24).drop 24).drop 24).take 24).all (fun c => isCode c || c.before args0 about1) = true := by decide +kernel
set_option maxRecDepth 65536 in
theorem w_t25 : ((((((((((((((((((((((((words1.drop 24).drop 24).drop 24).drop 24).drop 24).drop 24).drop 24).drop 24).drop 24).drop 24).drop 24).drop 24).drop 24).drop 24).drop 24).drop 24).drop 24).drop 24).drop 24).drop 24).drop 24).drop 24).drop 24).drop 24).all (fun c => isCode c || c.before args0 about1) = true := by decide +kernel
theorem w_tables : (allAtoms (Jvm.Cond.code x code maxLocals ret :: tables_1)).before args0 about1 = true := by
  rw [allAtoms_all]
  show words1.all (fun c => c.before args0 about1) = true
  refine all_split ?_ w_codes
  rw [← List.take_append_drop 24 words1, List.all_append, w_t1, ← List.take_append_drop 24 (words1.drop 24), List.all_append, w_t2, ← List.take_append_drop 24 ((words1.drop 24).drop 24), List.all_append, w_t3, ← List.take_append_drop 24 (((words1.drop 24).drop 24).drop 24), List.all_append, w_t4, ← List.take_append_drop 24 ((((words1.drop 24).drop 24).drop 24).drop 24), List.all_append, w_t5, ← List.take_append_drop 24 (((((words1.drop 24).drop 24).drop 24).drop 24).drop 24), List.all_append, w_t6, ← List.take_append_drop 24 ((((((words1.drop 24).drop 24).drop 24).drop 24).drop 24).drop 24), List.all_append, w_t7, ← List.take_append_drop 24 (((((((words1.drop 24).drop 24).drop 24).drop 24).drop 24).drop 24).drop 24), List.all_append, w_t8, ← List.take_append_drop 24 ((((((((words1.drop 24).drop 24).drop 24).drop 24).drop 24).drop 24).drop 24).drop 24), List.all_append, w_t9, ← List.take_append_drop 24 (((((((((words1.drop 24).drop 24).drop 24).drop 24).drop 24).drop 24).drop 24).drop 24).drop 24), List.all_append, w_t10, ← List.take_append_drop 24 ((((((((((words1.drop 24).drop 24).drop 24).drop 24).drop 24).drop 24).drop 24).drop 24).drop 24).drop 24), List.all_append, w_t11, ← List.take_append_drop 24 (((((((((((words1.drop 24).drop 24).drop 24).drop 24).drop 24).drop 24).drop 24).drop 24).drop 24).drop 24).drop 24), List.all_append, w_t12, ← List.take_append_drop 24 ((((((((((((words1.drop 24).drop 24).drop 24).drop 24).drop 24).drop 24).drop 24).drop 24).drop 24).drop 24).drop 24).drop 24), List.all_append, w_t13, ← List.take_append_drop 24 (((((((((((((words1.drop 24).drop 24).drop 24).drop 24).drop 24).drop 24).drop 24).drop 24).drop 24).drop 24).drop 24).drop 24).drop 24), List.all_append, w_t14, ← List.take_append_drop 24 ((((((((((((((words1.drop 24).drop 24).drop 24).drop 24).drop 24).drop 24).drop 24).drop 24).drop 24).drop 24).drop 24).drop 24).drop 24).drop 24), List.all_append, w_t15, ← List.take_append_drop 24 (((((((((((((((words1.drop 24).drop 24).drop 24).drop 24).drop 24).drop 24).drop 24).drop 24).drop 24).drop 24).drop 24).drop 24).drop 24).drop 24).drop 24), List.all_append, w_t16, ← List.take_append_drop 24 ((((((((((((((((words1.drop 24).drop 24).drop 24).drop 24).drop 24).drop 24).drop 24).drop 24).drop 24).drop 24).drop 24).drop 24).drop 24).drop 24).drop 24).drop 24), List.all_append, w_t17, ← List.take_append_drop 24 (((((((((((((((((words1.drop 24).drop 24).drop 24).drop 24).drop 24).drop 24).drop 24).drop 24).drop 24).drop 24).drop 24).drop 24).drop 24).drop 24).drop 24).drop 24).drop 24), List.all_append, w_t18, ← List.take_append_drop 24 ((((((((((((((((((words1.drop 24).drop 24).drop 24).drop 24).drop 24).drop 24).drop 24).drop 24).drop 24).drop 24).drop 24).drop 24).drop 24).drop 24).drop 24).drop 24).drop 24).drop 24), List.all_append, w_t19, ← List.take_append_drop 24 (((((((((((((((((((words1.drop 24).drop 24).drop 24).drop 24).drop 24).drop 24).drop 24).drop 24).drop 24).drop 24).drop 24).drop 24).drop 24).drop 24).drop 24).drop 24).drop 24).drop 24).drop 24), List.all_append, w_t20, ← List.take_append_drop 24 ((((((((((((((((((((words1.drop 24).drop 24).drop 24).drop 24).drop 24).drop 24).drop 24).drop 24).drop 24).drop 24).drop 24).drop 24).drop 24).drop 24).drop 24).drop 24).drop 24).drop 24).drop 24).drop 24), List.all_append, w_t21, ← List.take_append_drop 24 (((((((((((((((((((((words1.drop 24).drop 24).drop 24).drop 24).drop 24).drop 24).drop 24).drop 24).drop 24).drop 24).drop 24).drop 24).drop 24).drop 24).drop 24).drop 24).drop 24).drop 24).drop 24).drop 24).drop 24), List.all_append, w_t22, ← List.take_append_drop 24 ((((((((((((((((((((((words1.drop 24).drop 24).drop 24).drop 24).drop 24).drop 24).drop 24).drop 24).drop 24).drop 24).drop 24).drop 24).drop 24).drop 24).drop 24).drop 24).drop 24).drop 24).drop 24).drop 24).drop 24).drop 24), List.all_append, w_t23, ← List.take_append_drop 24 (((((((((((((((((((((((words1.drop 24).drop 24).drop 24).drop 24).drop 24).drop 24).drop 24).drop 24).drop 24).drop 24).drop 24).drop 24).drop 24).drop 24).drop 24).drop 24).drop 24).drop 24).drop 24).drop 24).drop 24).drop 24).drop 24), List.all_append, w_t24, w_t25]
  rfl
set_option maxRecDepth 65536 in
theorem w_rest : rest_1_c.before args0 about1 = true := by decide +kernel
set_option maxRecDepth 65536 in
theorem w_case : (Jvm.Cond.and given_1 narrow_1).before args0 about1 = true := by decide +kernel
set_option maxRecDepth 65536 in
theorem w_consts : constsHeld consts_1 about1 := Jvm.Lit.constsHeldB_iff.mp (by decide +kernel)
theorem w_applies : (headSpec (Jvm.Cond.code x code maxLocals ret :: tables_1) room_1).applies x e0.platform about1 = true :=
  (Spec.applies_iff w_frames).mpr ⟨w_running, w_runnable, w_alone, w_named, w_hears, w_ripe, w_room, w_tables⟩
theorem atStart : AtStart classFile x code maxLocals ret World_1 tables_1 room_1 Calls_1 rest_1 Pre_1 launch0 p0 e0 about1 theMethod args0 below0 :=
  ⟨lists_1, trivial, launch0.admits_env _ _ _, launch0.least_env, fairChoices_fair.cas, fairChoices_fair.clock, w_frames, w_args, w_heap, w_applies, ⟨⟨49, k49, 4, by decide +kernel, rfl, rfl, _, rfl, rfl⟩, ⟨w_consts, trivial⟩⟩, w_rest, w_case⟩
end start1
theorem witness_1 : WitnessClaimed_1 := ⟨start1.p0, start1.e0, start1.about1, start1.theMethod, start1.args0, start1.below0, start1.atStart⟩
end Jvm.Pilot.@@N@@
