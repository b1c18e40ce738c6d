import JvmDerived
import JvmDerived.Pilot.@@N@@Statement
import JvmDerived.Pilot.@@N@@Code
set_option linter.unusedVariables false
set_option linter.unusedSimpArgs false
set_option maxRecDepth 65536
set_option maxHeartbeats 40000000
namespace Jvm.OwnWk
open Sem ClassFile Op Lib Jvm.Stand Jvm.Free Jvm.LawKit Jvm.RoadKit
def Sd (Z : State) (own : String) (bs : ByteArray) (mx : Nat) (ret : Option FieldType) (n0 : Nat) (p : Program) (l : Launch) (e : Env) (R : Room) (s : State) (m : MethodId) (args : Array Value) (below : List Frame) (meth : Method) (c : Code) (T : State) (h : Heap) (k n : Nat) : Prop :=
  ∃ locs, Stand p l e R s m args below meth c T locs k n ∧ T.heap = h ∧ Fr n0 locs ∧ n0 ≤ s.heap.size ∧ p.tables.exec = Jvm.exec ∧ Z.Warmed39 s.vm ∧ s.vm.findClass own = some m.cls ∧ c.code = bs ∧ c.maxLocals = mx ∧ meth.sig.returnType = ret ∧ meth.locks = false
def Gl (p : Program) (e : Env) (below : List Frame) (P : Outcome → State → Prop) (A : State) : Prop := ∃ t o, Steps p.tables e below A t ∧ t.status = .running ∧ Ended t below o ∧ P o t
def Pst (s : State) (n0 K N : Nat) (Q : Option Value → Heap → Prop) (o : Outcome) (t : State) : Prop := ∃ v L, o = .returned v ∧ (Q v t.heap ∧ Fr n0 L) ∧ FrameEnd s o t L K N
def OMet (l : Launch) (Z : State) (ws : List Jvm.Cond) (y : MethodName) (bs : ByteArray) (mx : Nat) (ret : Option FieldType) (rm : Room) (as : Array Value) (h : Heap) (n0 : Nat) (Q : Option Value → Heap → Prop) : Prop :=
  MetFree l y (head1 (Jvm.Cond.code y bs mx ret :: ws) rm) (fun a U => a = as ∧ Z.Warmed39 U.vm ∧ U.heap = h) (fun _ _ _ _ _ => True) (fun _ U o U' => ∃ v L, o = .returned v ∧ (Q v U'.heap ∧ Fr n0 L) ∧ FrameEnd U o U' L rm.cells rm.slots)
def own_ne (a b : Addr) : Prop := a ≠ b
section Kit
variable {Z : State} {own : String} {bs : ByteArray} {mx : Nat} {ret : Option FieldType} {n0 : Nat} {p : Program} {l : Launch} {e : Env} {R : Room} {s : State} {m : MethodId} {args : Array Value} {below : List Frame} {meth : Method} {c : Code} {T : State} {h : Heap} {k n : Nat} {P : Outcome → State → Prop} {L : Array Slot} {S : List Value} {pc pc' pcT pcF : Nat} {a0 : Array Value} {t : FieldType}
theorem Gl.of1 {A B : State} (f : ∀ t, Steps p.tables e below B t → Steps p.tables e below A t) (q : Gl p e below P B) : Gl p e below P A := by
  obtain ⟨t, o, h1, h2⟩ := q
  exact ⟨t, o, f t h1, h2⟩
theorem Gl.via {A B : State} (f : Steps p.tables e below A B) (q : Gl p e below P B) : Gl p e below P A := by
  obtain ⟨t, o, h1, h2⟩ := q
  exact ⟨t, o, f.trans h1, h2⟩
theorem OMet.of {ws : List Jvm.Cond} {y : MethodName} {rm : Room} {as : Array Value} {Q : Option Value → Heap → Prop} (ho : y.cls = own) (hpl : plainFor y = true) (hef : ∀ m, entryFrame m as mx = mkF m 0 L []) (hn : n0 ≤ h.size)
    (body : ∀ p e s m below meth c T, Sd Z own bs mx ret n0 p l e rm s m as below meth c T h 0 0 → meth.name = y.name → Gl p e below (Pst s n0 rm.cells rm.slots Q) (T.setTop (mkF m 0 L []))) : OMet l Z ws y bs mx ret rm as h n0 Q := by
  subst ho
  refine MetFree.of_bodySF hpl hisR ?_
  intro p e s m args below meth c s₁ Bd hml0 hP hK
  obtain ⟨rfl, hZ, hh⟩ := hP
  have e0 : s₁.heap = h := by rw [← hh, Bd.state]; rfl
  obtain ⟨t, o, h1, h2, h3, h4⟩ := body p e s m below meth c s₁ ⟨[], Stand.of_body Bd, e0, Fr.nil n0, by rw [hh]; exact hn, Bd.exec, hZ, findClass_of_methodNamed Bd.named, Bd.bytes, hml0, Bd.returns, Bd.notSynchronized⟩ (name_of_methodNamed Bd.named Bd.method).1
  exact ⟨t, o, castTop (hef m) h1, h2, h3, h4⟩

theorem own_grow {T' : State} {locs' : List Loc} {k' n' : Nat} (X : Stand p l e R s m args below meth c T' locs' k' n') : s.heap.size ≤ T'.heap.size := X.same.2.1
theorem own_eqI {args : Array Value} {Z : State} {t : Term} {v : Int32} (q : (Jvm.Cond.eq t (.int v)).value args Z none Z [] = some true) : t.eval args Z none [] Z = some (.int v) := by
  simp only [Cond.value, Term.eval] at q
  cases ht : t.eval args Z none [] Z with
  | none => simp [ht] at q
  | some w => cases w <;> simp [ht] at q ⊢ <;> exact q
theorem Sd.sz (Y : Sd Z own bs mx ret n0 p l e R s m args below meth c T h k n) : n0 ≤ h.size := by
  obtain ⟨locs, X, eT, N, hn0, hx, hZ, hown, hby, hml, hrt, hlk⟩ := Y
  exact eT ▸ Nat.le_trans hn0 (own_grow X)
theorem own_c3 {v : Int32} (h0 : 0 ≤ v.toInt) (h : v.toInt ≤ 3) : v = 0 ∨ v = 1 ∨ v = 2 ∨ v = 3 := by
  have : v.toInt = 0 ∨ v.toInt = 1 ∨ v.toInt = 2 ∨ v.toInt = 3 := by omega
  rcases this with q | q | q | q <;> simp [← Int32.toInt_inj, q]
theorem own_narR {t : FieldType} {x : Value} (q : x.isRef = true) : narrow t x = x := by rcases ref_cases q with rfl | ⟨z, rfl⟩ <;> cases t <;> rfl
theorem OMet.un {l : Launch} {Z : State} {ws : List Jvm.Cond} {y : MethodName} {bs : ByteArray} {mx : Nat} {ret : Option FieldType} {rm : Room} {as : Array Value} {h : Heap} {n0 : Nat} {Q : Option Value → Heap → Prop} (q : OMet l Z ws y bs mx ret rm as h n0 Q) :
  MetFree l y (head1 (Jvm.Cond.code y bs mx ret :: ws) rm) (fun a U => a = as ∧ Z.Warmed39 U.vm ∧ U.heap = h) (fun _ _ _ _ _ => True) (fun _ U o U' => ∃ v L, o = .returned v ∧ (fun v h' L => Q v h' ∧ Fr n0 L) v U'.heap L ∧ FrameEnd U o U' L rm.cells rm.slots) := q
theorem Gl.iadd (Y : Sd Z own bs mx ret n0 p l e R s m args below meth c T h k n) {x y : Int32} {r : Int32} (hr : x + y = r) (hd : decode bs pc = .ok (.iadd, 1)) (hp : pc + 1 = pc') (q : Gl p e below P (T.setTop (mkF m pc' L (.int r :: S)))) : Gl p e below P (T.setTop (mkF m pc L (.int y :: .int x :: S))) := by
  obtain ⟨locs, X, eT, N, hn0, hx, hZ, hown, hby, hml, hrt, hlk⟩ := Y
  subst hp hr
  exact q.of1 fun t q => XS.iadd X.here hx rfl (hb hby hd) rfl q
theorem Gl.isub (Y : Sd Z own bs mx ret n0 p l e R s m args below meth c T h k n) {x y : Int32} {r : Int32} (hr : x - y = r) (hd : decode bs pc = .ok (.isub, 1)) (hp : pc + 1 = pc') (q : Gl p e below P (T.setTop (mkF m pc' L (.int r :: S)))) : Gl p e below P (T.setTop (mkF m pc L (.int y :: .int x :: S))) := by
  obtain ⟨locs, X, eT, N, hn0, hx, hZ, hown, hby, hml, hrt, hlk⟩ := Y
  subst hp hr
  exact q.of1 fun t q => XS.isub X.here hx rfl (hb hby hd) rfl q
theorem Gl.iand (Y : Sd Z own bs mx ret n0 p l e R s m args below meth c T h k n) {x y : Int32} {r : Int32} (hr : x &&& y = r) (hd : decode bs pc = .ok (.iand, 1)) (hp : pc + 1 = pc') (q : Gl p e below P (T.setTop (mkF m pc' L (.int r :: S)))) : Gl p e below P (T.setTop (mkF m pc L (.int y :: .int x :: S))) := by
  obtain ⟨locs, X, eT, N, hn0, hx, hZ, hown, hby, hml, hrt, hlk⟩ := Y
  subst hp hr
  exact q.of1 fun t q => XS.iand X.here hx rfl (hb hby hd) rfl q
theorem Gl.iconst (Y : Sd Z own bs mx ret n0 p l e R s m args below meth c T h k n) {i : Int} {v : Int32} (hv : Int32.ofInt i = v) (hd : decode bs pc = .ok (.iconst i, 1)) (hp : pc + 1 = pc') (q : Gl p e below P (T.setTop (mkF m pc' L (.int v :: S)))) : Gl p e below P (T.setTop (mkF m pc L S)) := by
  obtain ⟨locs, X, eT, N, hn0, hx, hZ, hown, hby, hml, hrt, hlk⟩ := Y
  subst hp
  exact q.of1 fun t q => XS.iconst X.here hx rfl (hb hby hd) (by rw [hv]; exact q)
theorem Gl.bipush (Y : Sd Z own bs mx ret n0 p l e R s m args below meth c T h k n) {i : Int} {v : Int32} (hv : (Int8.ofInt i).toInt32 = v) (hd : decode bs pc = .ok (.bipush i, 2)) (hp : pc + 2 = pc') (q : Gl p e below P (T.setTop (mkF m pc' L (.int v :: S)))) : Gl p e below P (T.setTop (mkF m pc L S)) := by
  obtain ⟨locs, X, eT, N, hn0, hx, hZ, hown, hby, hml, hrt, hlk⟩ := Y
  subst hp
  exact q.of1 fun t q => XS.bipush X.here hx rfl (hb hby hd) (by rw [hv]; exact q)
theorem Gl.sipush (Y : Sd Z own bs mx ret n0 p l e R s m args below meth c T h k n) {i : Int} {v : Int32} (hv : (Int16.ofInt i).toInt32 = v) (hd : decode bs pc = .ok (.sipush i, 3)) (hp : pc + 3 = pc') (q : Gl p e below P (T.setTop (mkF m pc' L (.int v :: S)))) : Gl p e below P (T.setTop (mkF m pc L S)) := by
  obtain ⟨locs, X, eT, N, hn0, hx, hZ, hown, hby, hml, hrt, hlk⟩ := Y
  subst hp
  exact q.of1 fun t q => XS.sipush X.here hx rfl (hb hby hd) (by rw [hv]; exact q)
theorem Gl.aconstNull (Y : Sd Z own bs mx ret n0 p l e R s m args below meth c T h k n)  (hd : decode bs pc = .ok (.aconst_null, 1)) (hp : pc + 1 = pc') (q : Gl p e below P (T.setTop (mkF m pc' L (.null :: S)))) : Gl p e below P (T.setTop (mkF m pc L S)) := by
  obtain ⟨locs, X, eT, N, hn0, hx, hZ, hown, hby, hml, hrt, hlk⟩ := Y
  subst hp
  exact q.of1 fun t q => XS.aconstNull X.here hx rfl (hb hby hd) q
theorem Gl.ldcD (Y : Sd Z own bs mx ret n0 p l e R s m args below meth c T h k n) {i : Nat} {v : UInt64} (w : (Jvm.Cond.constantDouble own i v).before a0 Z = true) (hd : decode bs pc = .ok (.ldc2_w i, 3)) (hp : pc + 3 = pc') (q : Gl p e below P (T.setTop (mkF m pc' L (.double v :: S)))) : Gl p e below P (T.setTop (mkF m pc L S)) := by
  obtain ⟨locs, X, eT, N, hn0, hx, hZ, hown, hby, hml, hrt, hlk⟩ := Y
  subst hp
  exact q.of1 fun t q => X.ldc2DoubleC hx hown (mvT hZ w) (g := mkF m pc L S) rfl (hb hby hd) t q
theorem Gl.iload (Y : Sd Z own bs mx ret n0 p l e R s m args below meth c T h k n) {i : Nat} {v : Int32} (hl : L[i]? = some (.val (.int v))) (hd : decode bs pc = .ok (.iload i, 2)) (hp : pc + 2 = pc') (q : Gl p e below P (T.setTop (mkF m pc' L (.int v :: S)))) : Gl p e below P (T.setTop (mkF m pc L S)) := by
  obtain ⟨locs, X, eT, N, hn0, hx, hZ, hown, hby, hml, hrt, hlk⟩ := Y
  subst hp
  exact q.of1 fun t q => XS.iload X.here hx rfl (hb hby hd) hl q
theorem Gl.iloadN (Y : Sd Z own bs mx ret n0 p l e R s m args below meth c T h k n) {i : Fin 4} {v : Int32} (hl : L[i.val]? = some (.val (.int v))) (hd : decode bs pc = .ok (.iload_n i, 1)) (hp : pc + 1 = pc') (q : Gl p e below P (T.setTop (mkF m pc' L (.int v :: S)))) : Gl p e below P (T.setTop (mkF m pc L S)) := by
  obtain ⟨locs, X, eT, N, hn0, hx, hZ, hown, hby, hml, hrt, hlk⟩ := Y
  subst hp
  exact q.of1 fun t q => XS.iloadN X.here hx rfl (hb hby hd) hl q
theorem Gl.lload (Y : Sd Z own bs mx ret n0 p l e R s m args below meth c T h k n) {i : Nat} {v : Int64} (hl : L[i]? = some (.val (.long v))) (hd : decode bs pc = .ok (.lload i, 2)) (hp : pc + 2 = pc') (q : Gl p e below P (T.setTop (mkF m pc' L (.long v :: S)))) : Gl p e below P (T.setTop (mkF m pc L S)) := by
  obtain ⟨locs, X, eT, N, hn0, hx, hZ, hown, hby, hml, hrt, hlk⟩ := Y
  subst hp
  exact q.of1 fun t q => XS.lload X.here hx rfl (hb hby hd) hl q
theorem Gl.lloadN (Y : Sd Z own bs mx ret n0 p l e R s m args below meth c T h k n) {i : Fin 4} {v : Int64} (hl : L[i.val]? = some (.val (.long v))) (hd : decode bs pc = .ok (.lload_n i, 1)) (hp : pc + 1 = pc') (q : Gl p e below P (T.setTop (mkF m pc' L (.long v :: S)))) : Gl p e below P (T.setTop (mkF m pc L S)) := by
  obtain ⟨locs, X, eT, N, hn0, hx, hZ, hown, hby, hml, hrt, hlk⟩ := Y
  subst hp
  exact q.of1 fun t q => XS.lloadN X.here hx rfl (hb hby hd) hl q
theorem Gl.dload (Y : Sd Z own bs mx ret n0 p l e R s m args below meth c T h k n) {i : Nat} {v : UInt64} (hl : L[i]? = some (.val (.double v))) (hd : decode bs pc = .ok (.dload i, 2)) (hp : pc + 2 = pc') (q : Gl p e below P (T.setTop (mkF m pc' L (.double v :: S)))) : Gl p e below P (T.setTop (mkF m pc L S)) := by
  obtain ⟨locs, X, eT, N, hn0, hx, hZ, hown, hby, hml, hrt, hlk⟩ := Y
  subst hp
  exact q.of1 fun t q => XS.dload X.here hx rfl (hb hby hd) hl q
theorem Gl.dloadN (Y : Sd Z own bs mx ret n0 p l e R s m args below meth c T h k n) {i : Fin 4} {v : UInt64} (hl : L[i.val]? = some (.val (.double v))) (hd : decode bs pc = .ok (.dload_n i, 1)) (hp : pc + 1 = pc') (q : Gl p e below P (T.setTop (mkF m pc' L (.double v :: S)))) : Gl p e below P (T.setTop (mkF m pc L S)) := by
  obtain ⟨locs, X, eT, N, hn0, hx, hZ, hown, hby, hml, hrt, hlk⟩ := Y
  subst hp
  exact q.of1 fun t q => XS.dloadN X.here hx rfl (hb hby hd) hl q
theorem Gl.dconst0 (Y : Sd Z own bs mx ret n0 p l e R s m args below meth c T h k n)  (hd : decode bs pc = .ok (.dconst 0, 1)) (hp : pc + 1 = pc') (q : Gl p e below P (T.setTop (mkF m pc' L (.double FP.dconst0 :: S)))) : Gl p e below P (T.setTop (mkF m pc L S)) := by
  obtain ⟨locs, X, eT, N, hn0, hx, hZ, hown, hby, hml, hrt, hlk⟩ := Y
  subst hp
  exact q.of1 fun t q => XS.dconst0 X.here hx rfl (hb hby hd) rfl q
theorem Gl.dconst1 (Y : Sd Z own bs mx ret n0 p l e R s m args below meth c T h k n)  (hd : decode bs pc = .ok (.dconst 1, 1)) (hp : pc + 1 = pc') (q : Gl p e below P (T.setTop (mkF m pc' L (.double FP.dconst1 :: S)))) : Gl p e below P (T.setTop (mkF m pc L S)) := by
  obtain ⟨locs, X, eT, N, hn0, hx, hZ, hown, hby, hml, hrt, hlk⟩ := Y
  subst hp
  exact q.of1 fun t q => XS.dconst1 X.here hx rfl (hb hby hd) rfl q
theorem Gl.aload (Y : Sd Z own bs mx ret n0 p l e R s m args below meth c T h k n) {i : Nat} {v : Value} (hl : L[i]? = some (.val v)) (hv : v.isRef = true) (hd : decode bs pc = .ok (.aload i, 2)) (hp : pc + 2 = pc') (q : Gl p e below P (T.setTop (mkF m pc' L (v :: S)))) : Gl p e below P (T.setTop (mkF m pc L S)) := by
  obtain ⟨locs, X, eT, N, hn0, hx, hZ, hown, hby, hml, hrt, hlk⟩ := Y
  subst hp
  exact q.of1 fun t q => XS.aload X.here hx rfl (hb hby hd) hl hv q
theorem Gl.aloadN (Y : Sd Z own bs mx ret n0 p l e R s m args below meth c T h k n) {i : Fin 4} {v : Value} (hl : L[i.val]? = some (.val v)) (hv : v.isRef = true) (hd : decode bs pc = .ok (.aload_n i, 1)) (hp : pc + 1 = pc') (q : Gl p e below P (T.setTop (mkF m pc' L (v :: S)))) : Gl p e below P (T.setTop (mkF m pc L S)) := by
  obtain ⟨locs, X, eT, N, hn0, hx, hZ, hown, hby, hml, hrt, hlk⟩ := Y
  subst hp
  exact q.of1 fun t q => XS.aloadN X.here hx rfl (hb hby hd) hl hv q
theorem Gl.istore (Y : Sd Z own bs mx ret n0 p l e R s m args below meth c T h k n) {i : Nat} {v : Int32} {L' : Array Slot} (hl : storeLocals L i (.int v) = some L') (hd : decode bs pc = .ok (.istore i, 2)) (hp : pc + 2 = pc') (q : Gl p e below P (T.setTop (mkF m pc' L' S))) : Gl p e below P (T.setTop (mkF m pc L (.int v :: S))) := by
  obtain ⟨locs, X, eT, N, hn0, hx, hZ, hown, hby, hml, hrt, hlk⟩ := Y
  subst hp
  exact q.of1 fun t q => XS.istore X.here hx rfl (hb hby hd) rfl hl q
theorem Gl.istoreN (Y : Sd Z own bs mx ret n0 p l e R s m args below meth c T h k n) {i : Fin 4} {v : Int32} {L' : Array Slot} (hl : storeLocals L i.val (.int v) = some L') (hd : decode bs pc = .ok (.istore_n i, 1)) (hp : pc + 1 = pc') (q : Gl p e below P (T.setTop (mkF m pc' L' S))) : Gl p e below P (T.setTop (mkF m pc L (.int v :: S))) := by
  obtain ⟨locs, X, eT, N, hn0, hx, hZ, hown, hby, hml, hrt, hlk⟩ := Y
  subst hp
  exact q.of1 fun t q => XS.istoreN X.here hx rfl (hb hby hd) rfl hl q
theorem Gl.lstore (Y : Sd Z own bs mx ret n0 p l e R s m args below meth c T h k n) {i : Nat} {v : Int64} {L' : Array Slot} (hl : storeLocals L i (.long v) = some L') (hd : decode bs pc = .ok (.lstore i, 2)) (hp : pc + 2 = pc') (q : Gl p e below P (T.setTop (mkF m pc' L' S))) : Gl p e below P (T.setTop (mkF m pc L (.long v :: S))) := by
  obtain ⟨locs, X, eT, N, hn0, hx, hZ, hown, hby, hml, hrt, hlk⟩ := Y
  subst hp
  exact q.of1 fun t q => XS.lstore X.here hx rfl (hb hby hd) rfl hl q
theorem Gl.astore (Y : Sd Z own bs mx ret n0 p l e R s m args below meth c T h k n) {i : Nat} {v : Value} (hv : v.isRef = true) {L' : Array Slot} (hl : storeLocals L i (v) = some L') (hd : decode bs pc = .ok (.astore i, 2)) (hp : pc + 2 = pc') (q : Gl p e below P (T.setTop (mkF m pc' L' S))) : Gl p e below P (T.setTop (mkF m pc L (v :: S))) := by
  obtain ⟨locs, X, eT, N, hn0, hx, hZ, hown, hby, hml, hrt, hlk⟩ := Y
  subst hp
  exact q.of1 fun t q => XS.astore X.here hx rfl (hb hby hd) rfl hv hl q
theorem Gl.astoreN (Y : Sd Z own bs mx ret n0 p l e R s m args below meth c T h k n) {i : Fin 4} {v : Value} (hv : v.isRef = true) {L' : Array Slot} (hl : storeLocals L i.val (v) = some L') (hd : decode bs pc = .ok (.astore_n i, 1)) (hp : pc + 1 = pc') (q : Gl p e below P (T.setTop (mkF m pc' L' S))) : Gl p e below P (T.setTop (mkF m pc L (v :: S))) := by
  obtain ⟨locs, X, eT, N, hn0, hx, hZ, hown, hby, hml, hrt, hlk⟩ := Y
  subst hp
  exact q.of1 fun t q => XS.astoreN X.here hx rfl (hb hby hd) rfl hv hl q
theorem Gl.iinc (Y : Sd Z own bs mx ret n0 p l e R s m args below meth c T h k n) {i : Nat} {cst : Int} {x r : Int32} {L' : Array Slot} (hl : L[i]? = some (.val (.int x))) (hr : x + Int32.ofInt cst = r) (hl' : storeLocals L i (.int r) = some L') (hd : decode bs pc = .ok (.iinc i cst, 3)) (hp : pc + 3 = pc') (q : Gl p e below P (T.setTop (mkF m pc' L' S))) : Gl p e below P (T.setTop (mkF m pc L S)) := by
  obtain ⟨locs, X, eT, N, hn0, hx, hZ, hown, hby, hml, hrt, hlk⟩ := Y
  subst hp
  exact q.of1 fun t q => XS.iinc X.here hx rfl (hb hby hd) hl (by rw [hr]; exact hl') q
theorem Gl.dup (Y : Sd Z own bs mx ret n0 p l e R s m args below meth c T h k n) {x : Value} (hc : x.category = 1) (hd : decode bs pc = .ok (.dup, 1)) (hp : pc + 1 = pc') (q : Gl p e below P (T.setTop (mkF m pc' L (x :: x :: S)))) : Gl p e below P (T.setTop (mkF m pc L (x :: S))) := by
  obtain ⟨locs, X, eT, N, hn0, hx, hZ, hown, hby, hml, hrt, hlk⟩ := Y
  subst hp
  exact q.of1 fun t q => XS.dup X.here hx rfl (hb hby hd) rfl hc q
theorem Gl.lcmp (Y : Sd Z own bs mx ret n0 p l e R s m args below meth c T h k n) {x y : Int64} {r : Int32} (hr : lcmpW x y = r) (hd : decode bs pc = .ok (.lcmp, 1)) (hp : pc + 1 = pc') (q : Gl p e below P (T.setTop (mkF m pc' L (.int r :: S)))) : Gl p e below P (T.setTop (mkF m pc L (.long y :: .long x :: S))) := by
  obtain ⟨locs, X, eT, N, hn0, hx, hZ, hown, hby, hml, hrt, hlk⟩ := Y
  subst hp hr
  exact q.of1 fun t q => XS.lcmp X.here hx rfl (hb hby hd) rfl q
theorem Gl.arraylength (Y : Sd Z own bs mx ret n0 p l e R s m args below meth c T h k n) {a : Addr} {ck : ClassId} {ty : FieldType} {z : Int32} {vs : List Value} {d : Value} (F : Arv Z h a ck ty z vs d) (hd : decode bs pc = .ok (.arraylength, 1)) (hp : pc + 1 = pc') (q : Gl p e below P (T.setTop (mkF m pc' L (.int z :: S)))) : Gl p e below P (T.setTop (mkF m pc L (.ref a :: S))) := by
  obtain ⟨locs, X, eT, N, hn0, hx, hZ, hown, hby, hml, hrt, hlk⟩ := Y
  subst hp
  exact q.of1 fun t q => by
    obtain ⟨cl, A, -, S1, N1, -⟩ := F
    exact X.arraylength hx (by rw [eT]; exact A.1) (State.isArrayOf_alike hZ.alike A.2.1) (g := mkF m pc L (.ref a :: S)) rfl rfl (hb hby hd) t (by rw [len_of S1 N1]; exact q)
theorem Gl.laload (Y : Sd Z own bs mx ret n0 p l e R s m args below meth c T h k n) {a : Addr} {ck : ClassId} {z j : Int32} {vs : List Value} {d v : Value} (F : Arv Z h a ck .long z vs d) (hj : ¬ j < 0 ∧ j < z) (hv : vs.getD j.toNatClampNeg d = v) (hd : decode bs pc = .ok (.laload, 1)) (hp : pc + 1 = pc') (q : Gl p e below P (T.setTop (mkF m pc' L (v :: S)))) : Gl p e below P (T.setTop (mkF m pc L (.int j :: .ref a :: S))) := by
  obtain ⟨locs, X, eT, N, hn0, hx, hZ, hown, hby, hml, hrt, hlk⟩ := Y
  subst hp
  exact q.of1 fun t q => by
    obtain ⟨cl, A, -, S1, N1, H, -⟩ := F
    exact X.laload hx (by rw [eT]; exact A.1) (State.isArrayOf_alike hZ.alike A.2.1) A.2.2 (inb_of S1 hj) (H.at (inb_of S1 hj) hv) (g := mkF m pc L (.int j :: .ref a :: S)) rfl rfl (hb hby hd) t q
theorem Gl.goto (Y : Sd Z own bs mx ret n0 p l e R s m args below meth c T h k n) {o : Int} (hd : decode bs pc = .ok (.goto o, 3)) (ho : 0 ≤ (pc : Int) + o) (hp : ((pc : Int) + o).toNat = pc') (q : Gl p e below P (T.setTop (mkF m pc' L S))) : Gl p e below P (T.setTop (mkF m pc L S)) := by
  obtain ⟨locs, X, eT, N, hn0, hx, hZ, hown, hby, hml, hrt, hlk⟩ := Y
  exact q.of1 fun t q => XS.goto X.here hx rfl rfl (hb hby hd) ho hp q
theorem Gl.icmpeq (Y : Sd Z own bs mx ret n0 p l e R s m args below meth c T h k n) {x y : Int32} {o : Int} (hd : decode bs pc = .ok (.if_icmp .eq o, 3)) (ho : 0 ≤ (pc : Int) + o) (ht : ((pc : Int) + o).toNat = pcT) (hf : pc + 3 = pcF) (q1 : x = y → Gl p e below P (T.setTop (mkF m pcT L S))) (q2 : ¬ x = y → Gl p e below P (T.setTop (mkF m pcF L S))) : Gl p e below P (T.setTop (mkF m pc L (.int y :: .int x :: S))) := by
  obtain ⟨locs, X, eT, N, hn0, hx, hZ, hown, hby, hml, hrt, hlk⟩ := Y
  by_cases hq : x = y
  · exact (q1 hq).of1 fun t q => XS.icmpYes X.here hx rfl rfl (hb hby hd) rfl (Jvm.Free.XT.ii_eq_t hq) ho ht q
  · subst hf
    exact (q2 (by first | exact hq | exact Decidable.not_not.mp hq)).of1 fun t q => XS.icmpNo X.here hx rfl (hb hby hd) rfl (Jvm.Free.XT.ii_eq_f (by first | exact hq | exact Decidable.not_not.mp hq)) q
theorem Gl.ifne (Y : Sd Z own bs mx ret n0 p l e R s m args below meth c T h k n) {x : Int32} {o : Int} (hd : decode bs pc = .ok (.ifCond .ne o, 3)) (ho : 0 ≤ (pc : Int) + o) (ht : ((pc : Int) + o).toNat = pcT) (hf : pc + 3 = pcF) (q1 : ¬ x = 0 → Gl p e below P (T.setTop (mkF m pcT L S))) (q2 : x = 0 → Gl p e below P (T.setTop (mkF m pcF L S))) : Gl p e below P (T.setTop (mkF m pc L (.int x :: S))) := by
  obtain ⟨locs, X, eT, N, hn0, hx, hZ, hown, hby, hml, hrt, hlk⟩ := Y
  by_cases hq : ¬ x = 0
  · exact (q1 hq).of1 fun t q => XS.ifYes X.here hx rfl rfl (hb hby hd) rfl (Jvm.Free.XT.i0_ne_t hq) ho ht q
  · subst hf
    exact (q2 (by first | exact hq | exact Decidable.not_not.mp hq)).of1 fun t q => XS.ifNo X.here hx rfl (hb hby hd) rfl (Jvm.Free.XT.i0_ne_f (by first | exact hq | exact Decidable.not_not.mp hq)) q
theorem Gl.icmpne (Y : Sd Z own bs mx ret n0 p l e R s m args below meth c T h k n) {x y : Int32} {o : Int} (hd : decode bs pc = .ok (.if_icmp .ne o, 3)) (ho : 0 ≤ (pc : Int) + o) (ht : ((pc : Int) + o).toNat = pcT) (hf : pc + 3 = pcF) (q1 : ¬ x = y → Gl p e below P (T.setTop (mkF m pcT L S))) (q2 : x = y → Gl p e below P (T.setTop (mkF m pcF L S))) : Gl p e below P (T.setTop (mkF m pc L (.int y :: .int x :: S))) := by
  obtain ⟨locs, X, eT, N, hn0, hx, hZ, hown, hby, hml, hrt, hlk⟩ := Y
  by_cases hq : ¬ x = y
  · exact (q1 hq).of1 fun t q => XS.icmpYes X.here hx rfl rfl (hb hby hd) rfl (Jvm.Free.XT.ii_ne_t hq) ho ht q
  · subst hf
    exact (q2 (by first | exact hq | exact Decidable.not_not.mp hq)).of1 fun t q => XS.icmpNo X.here hx rfl (hb hby hd) rfl (Jvm.Free.XT.ii_ne_f (by first | exact hq | exact Decidable.not_not.mp hq)) q
theorem Gl.icmplt (Y : Sd Z own bs mx ret n0 p l e R s m args below meth c T h k n) {x y : Int32} {o : Int} (hd : decode bs pc = .ok (.if_icmp .lt o, 3)) (ho : 0 ≤ (pc : Int) + o) (ht : ((pc : Int) + o).toNat = pcT) (hf : pc + 3 = pcF) (q1 : x < y → Gl p e below P (T.setTop (mkF m pcT L S))) (q2 : ¬ x < y → Gl p e below P (T.setTop (mkF m pcF L S))) : Gl p e below P (T.setTop (mkF m pc L (.int y :: .int x :: S))) := by
  obtain ⟨locs, X, eT, N, hn0, hx, hZ, hown, hby, hml, hrt, hlk⟩ := Y
  by_cases hq : x < y
  · exact (q1 hq).of1 fun t q => XS.icmpYes X.here hx rfl rfl (hb hby hd) rfl (Jvm.Free.XT.ii_lt_t hq) ho ht q
  · subst hf
    exact (q2 (by first | exact hq | exact Decidable.not_not.mp hq)).of1 fun t q => XS.icmpNo X.here hx rfl (hb hby hd) rfl (Jvm.Free.XT.ii_lt_f (by first | exact hq | exact Decidable.not_not.mp hq)) q
theorem Gl.lcmplt (Y : Sd Z own bs mx ret n0 p l e R s m args below meth c T h k n) {x y : Int64} {pc1 : Nat} {o : Int} (hd0 : decode bs pc = .ok (.lcmp, 1)) (hp1 : pc + 1 = pc1) (hd : decode bs pc1 = .ok (.ifCond .lt o, 3)) (ho : 0 ≤ (pc1 : Int) + o) (ht : ((pc1 : Int) + o).toNat = pcT) (hf : pc1 + 3 = pcF) (q1 : x < y → Gl p e below P (T.setTop (mkF m pcT L S))) (q2 : ¬ x < y → Gl p e below P (T.setTop (mkF m pcF L S))) : Gl p e below P (T.setTop (mkF m pc L (.long y :: .long x :: S))) := by
  refine Gl.lcmp Y rfl hd0 hp1 ?_
  obtain ⟨locs, X, eT, N, hn0, hx, hZ, hown, hby, hml, hrt, hlk⟩ := Y
  by_cases hq : x < y
  · exact (q1 hq).of1 fun t q => XS.ifYes X.here hx rfl rfl (hb hby hd) rfl (Jvm.Free.XT.ll_lt_t hq) ho ht q
  · subst hf
    exact (q2 (by first | exact hq | exact Decidable.not_not.mp hq)).of1 fun t q => XS.ifNo X.here hx rfl (hb hby hd) rfl (Jvm.Free.XT.ll_lt_f (by first | exact hq | exact Decidable.not_not.mp hq)) q
theorem Gl.icmpge (Y : Sd Z own bs mx ret n0 p l e R s m args below meth c T h k n) {x y : Int32} {o : Int} (hd : decode bs pc = .ok (.if_icmp .ge o, 3)) (ho : 0 ≤ (pc : Int) + o) (ht : ((pc : Int) + o).toNat = pcT) (hf : pc + 3 = pcF) (q1 : ¬ x < y → Gl p e below P (T.setTop (mkF m pcT L S))) (q2 : x < y → Gl p e below P (T.setTop (mkF m pcF L S))) : Gl p e below P (T.setTop (mkF m pc L (.int y :: .int x :: S))) := by
  obtain ⟨locs, X, eT, N, hn0, hx, hZ, hown, hby, hml, hrt, hlk⟩ := Y
  by_cases hq : ¬ x < y
  · exact (q1 hq).of1 fun t q => XS.icmpYes X.here hx rfl rfl (hb hby hd) rfl (Jvm.Free.XT.ii_ge_t hq) ho ht q
  · subst hf
    exact (q2 (by first | exact hq | exact Decidable.not_not.mp hq)).of1 fun t q => XS.icmpNo X.here hx rfl (hb hby hd) rfl (Jvm.Free.XT.ii_ge_f (by first | exact hq | exact Decidable.not_not.mp hq)) q
theorem Gl.lcmpge (Y : Sd Z own bs mx ret n0 p l e R s m args below meth c T h k n) {x y : Int64} {pc1 : Nat} {o : Int} (hd0 : decode bs pc = .ok (.lcmp, 1)) (hp1 : pc + 1 = pc1) (hd : decode bs pc1 = .ok (.ifCond .ge o, 3)) (ho : 0 ≤ (pc1 : Int) + o) (ht : ((pc1 : Int) + o).toNat = pcT) (hf : pc1 + 3 = pcF) (q1 : ¬ x < y → Gl p e below P (T.setTop (mkF m pcT L S))) (q2 : x < y → Gl p e below P (T.setTop (mkF m pcF L S))) : Gl p e below P (T.setTop (mkF m pc L (.long y :: .long x :: S))) := by
  refine Gl.lcmp Y rfl hd0 hp1 ?_
  obtain ⟨locs, X, eT, N, hn0, hx, hZ, hown, hby, hml, hrt, hlk⟩ := Y
  by_cases hq : ¬ x < y
  · exact (q1 hq).of1 fun t q => XS.ifYes X.here hx rfl rfl (hb hby hd) rfl (Jvm.Free.XT.ll_ge_t hq) ho ht q
  · subst hf
    exact (q2 (by first | exact hq | exact Decidable.not_not.mp hq)).of1 fun t q => XS.ifNo X.here hx rfl (hb hby hd) rfl (Jvm.Free.XT.ll_ge_f (by first | exact hq | exact Decidable.not_not.mp hq)) q
theorem Gl.icmpgt (Y : Sd Z own bs mx ret n0 p l e R s m args below meth c T h k n) {x y : Int32} {o : Int} (hd : decode bs pc = .ok (.if_icmp .gt o, 3)) (ho : 0 ≤ (pc : Int) + o) (ht : ((pc : Int) + o).toNat = pcT) (hf : pc + 3 = pcF) (q1 : y < x → Gl p e below P (T.setTop (mkF m pcT L S))) (q2 : ¬ y < x → Gl p e below P (T.setTop (mkF m pcF L S))) : Gl p e below P (T.setTop (mkF m pc L (.int y :: .int x :: S))) := by
  obtain ⟨locs, X, eT, N, hn0, hx, hZ, hown, hby, hml, hrt, hlk⟩ := Y
  by_cases hq : y < x
  · exact (q1 hq).of1 fun t q => XS.icmpYes X.here hx rfl rfl (hb hby hd) rfl (Jvm.Free.XT.ii_gt_t hq) ho ht q
  · subst hf
    exact (q2 (by first | exact hq | exact Decidable.not_not.mp hq)).of1 fun t q => XS.icmpNo X.here hx rfl (hb hby hd) rfl (Jvm.Free.XT.ii_gt_f (by first | exact hq | exact Decidable.not_not.mp hq)) q
theorem Gl.lcmpgt (Y : Sd Z own bs mx ret n0 p l e R s m args below meth c T h k n) {x y : Int64} {pc1 : Nat} {o : Int} (hd0 : decode bs pc = .ok (.lcmp, 1)) (hp1 : pc + 1 = pc1) (hd : decode bs pc1 = .ok (.ifCond .gt o, 3)) (ho : 0 ≤ (pc1 : Int) + o) (ht : ((pc1 : Int) + o).toNat = pcT) (hf : pc1 + 3 = pcF) (q1 : y < x → Gl p e below P (T.setTop (mkF m pcT L S))) (q2 : ¬ y < x → Gl p e below P (T.setTop (mkF m pcF L S))) : Gl p e below P (T.setTop (mkF m pc L (.long y :: .long x :: S))) := by
  refine Gl.lcmp Y rfl hd0 hp1 ?_
  obtain ⟨locs, X, eT, N, hn0, hx, hZ, hown, hby, hml, hrt, hlk⟩ := Y
  by_cases hq : y < x
  · exact (q1 hq).of1 fun t q => XS.ifYes X.here hx rfl rfl (hb hby hd) rfl (Jvm.Free.XT.ll_gt_t hq) ho ht q
  · subst hf
    exact (q2 (by first | exact hq | exact Decidable.not_not.mp hq)).of1 fun t q => XS.ifNo X.here hx rfl (hb hby hd) rfl (Jvm.Free.XT.ll_gt_f (by first | exact hq | exact Decidable.not_not.mp hq)) q
theorem Gl.ifle (Y : Sd Z own bs mx ret n0 p l e R s m args below meth c T h k n) {x : Int32} {o : Int} (hd : decode bs pc = .ok (.ifCond .le o, 3)) (ho : 0 ≤ (pc : Int) + o) (ht : ((pc : Int) + o).toNat = pcT) (hf : pc + 3 = pcF) (q1 : ¬ 0 < x → Gl p e below P (T.setTop (mkF m pcT L S))) (q2 : 0 < x → Gl p e below P (T.setTop (mkF m pcF L S))) : Gl p e below P (T.setTop (mkF m pc L (.int x :: S))) := by
  obtain ⟨locs, X, eT, N, hn0, hx, hZ, hown, hby, hml, hrt, hlk⟩ := Y
  by_cases hq : ¬ 0 < x
  · exact (q1 hq).of1 fun t q => XS.ifYes X.here hx rfl rfl (hb hby hd) rfl (Jvm.Free.XT.i0_le_t hq) ho ht q
  · subst hf
    exact (q2 (by first | exact hq | exact Decidable.not_not.mp hq)).of1 fun t q => XS.ifNo X.here hx rfl (hb hby hd) rfl (Jvm.Free.XT.i0_le_f (by first | exact hq | exact Decidable.not_not.mp hq)) q
theorem Gl.icmple (Y : Sd Z own bs mx ret n0 p l e R s m args below meth c T h k n) {x y : Int32} {o : Int} (hd : decode bs pc = .ok (.if_icmp .le o, 3)) (ho : 0 ≤ (pc : Int) + o) (ht : ((pc : Int) + o).toNat = pcT) (hf : pc + 3 = pcF) (q1 : ¬ y < x → Gl p e below P (T.setTop (mkF m pcT L S))) (q2 : y < x → Gl p e below P (T.setTop (mkF m pcF L S))) : Gl p e below P (T.setTop (mkF m pc L (.int y :: .int x :: S))) := by
  obtain ⟨locs, X, eT, N, hn0, hx, hZ, hown, hby, hml, hrt, hlk⟩ := Y
  by_cases hq : ¬ y < x
  · exact (q1 hq).of1 fun t q => XS.icmpYes X.here hx rfl rfl (hb hby hd) rfl (Jvm.Free.XT.ii_le_t hq) ho ht q
  · subst hf
    exact (q2 (by first | exact hq | exact Decidable.not_not.mp hq)).of1 fun t q => XS.icmpNo X.here hx rfl (hb hby hd) rfl (Jvm.Free.XT.ii_le_f (by first | exact hq | exact Decidable.not_not.mp hq)) q
theorem Gl.getF (Y : Sd Z own bs mx ret n0 p l e R s m args below meth c T h k n) {i : Nat} {R0 O f d host : String} {a : Addr} {v : Value} (w : (Jvm.Cond.fieldLink own i R0 f d).before a0 Z = true ∨ (Jvm.Cond.fieldLinkNest own i R0 f d host).before a0 Z = true) (via : Via Z R0 O f d) (F : Fld Z h a O f d v) (hd : decode bs pc = .ok (.getfield i, 3)) (hp : pc + 3 = pc') (q : ∀ T', Sd Z own bs mx ret n0 p l e R s m args below meth c T' h k n → Gl p e below P (T'.setTop (mkF m pc' L (v :: S)))) : Gl p e below P (T.setTop (mkF m pc L (.ref a :: S))) := by
  obtain ⟨locs, X, eT, N, hn0, hx, hZ, hown, hby, hml, hrt, hlk⟩ := Y
  subst hp
  obtain ⟨T', X', e', st⟩ := Jvm.RoadKit.getF X hx hZ hown w via eT F (g := mkF m pc L (.ref a :: S)) rfl rfl (hb hby hd)
  exact (q T' ⟨locs, X', e', N, hn0, hx, hZ, hown, hby, hml, hrt, hlk⟩).of1 st
theorem Gl.putF (Y : Sd Z own bs mx ret n0 p l e R s m args below meth c T h k n) {i kk : Nat} {R0 O f d host C : String} {ty : FieldType} {a : Addr} {v old : Value} (w : (Jvm.Cond.fieldLink own i R0 f d).before a0 Z = true ∨ (Jvm.Cond.fieldLinkNest own i R0 f d host).before a0 Z = true) (via : Via Z R0 O f d) (F : Fld Z h a O f d old) (E : Exa Z h a C) (Lw : (Jvm.Cond.lays C O f d).before a0 Z = true ∨ ((Jvm.Cond.laysFinal C O f d).before a0 Z = true ∧ own = O ∧ meth.name = "<init>")) (wi : (Jvm.Cond.instantiable C kk).before a0 Z = true) (ha : n0 ≤ a) (hty : parseFieldDescriptor d = some ty) (hn : narrow ty v = v) (hf : fits ty v = true) (hd : decode bs pc = .ok (.putfield i, 3)) (hp : pc + 3 = pc') (q : ∀ T' h', Sd Z own bs mx ret n0 p l e R s m args below meth c T' h' k n → Wr h h' a (Jvm.RoadKit.slotOf Z O f d) v → Gl p e below P (T'.setTop (mkF m pc' L S))) : Gl p e below P (T.setTop (mkF m pc L (v :: .ref a :: S))) := by
  obtain ⟨locs, X, eT, N, hn0, hx, hZ, hown, hby, hml, hrt, hlk⟩ := Y
  subst hp
  obtain ⟨T', h', X', e', W, st⟩ := Jvm.RoadKit.putF X hx hZ hown w via eT F E Lw wi hty hn hf (g := mkF m pc L (v :: .ref a :: S)) rfl rfl (hb hby hd)
  exact (q T' h' ⟨_, X', e', Fr.snoc X' N ha, hn0, hx, hZ, hown, hby, hml, hrt, hlk⟩ W).of1 st
theorem Gl.newO (Y : Sd Z own bs mx ret n0 p l e R s m args below meth c T h k n) {i sl : Nat} {C : String} (w : (Jvm.Cond.classLink own i C).before a0 Z = true) (wi : (Jvm.Cond.instantiable C sl).before a0 Z = true) (wz : (Jvm.Cond.initialized C).before a0 Z = true) (hc : k + 1 ≤ R.cells) (hl : n + sl ≤ R.slots) (hd : decode bs pc = .ok (.new i, 3)) (hp : pc + 3 = pc') (q : ∀ T' h' b, Sd Z own bs mx ret n0 p l e R s m args below meth c T' h' (k + 1) (n + sl) → Ext h h' → b = h.size → n0 ≤ b → Exa Z h' b C → (∀ {O nm d : String} {ty : FieldType}, Laid Z a0 C O nm d → parseFieldDescriptor d = some ty → Fld Z h' b O nm d (defaultValue ty)) → Gl p e below P (T'.setTop (mkF m pc' L (.ref b :: S)))) : Gl p e below P (T.setTop (mkF m pc L S)) := by
  obtain ⟨locs, X, eT, N, hn0, hx, hZ, hown, hby, hml, hrt, hlk⟩ := Y
  subst hp
  obtain ⟨T', h', X', e', E, A, D, -, st⟩ := Jvm.RoadKit.newO X hx hZ hown w wi wz eT (g := mkF m pc L S) rfl (hb hby hd) hc hl
  exact (q T' h' h.size ⟨locs, X', e', N, hn0, hx, hZ, hown, hby, hml, hrt, hlk⟩ E rfl (eT ▸ Nat.le_trans hn0 (own_grow X)) A D).of1 st
theorem Gl.newP (Y : Sd Z own bs mx ret n0 p l e R s m args below meth c T h k n) {aty : ArrayType} {ty : FieldType} {z : Int32} (cap : Nat) (hat : newarray.typeOf aty = ty) (w : (Jvm.Cond.arrayClass ty).before a0 Z = true) (hz : ¬ z < 0) (hcap : z.toNatClampNeg ≤ cap) (hcb : cap * 8 ≤ 536870912) (hc : k + 1 ≤ R.cells) (hl : n + cap ≤ R.slots) (hd : decode bs pc = .ok (.newarray aty, 2)) (hp : pc + 2 = pc') (q : ∀ T' h' b ck, Sd Z own bs mx ret n0 p l e R s m args below meth c T' h' (k + 1) (n + cap) → Ext h h' → b = h.size → n0 ≤ b → Arv Z h' b ck ty z [] (defaultValue ty) → Gl p e below P (T'.setTop (mkF m pc' L (.ref b :: S)))) : Gl p e below P (T.setTop (mkF m pc L (.int z :: S))) := by
  obtain ⟨locs, X, eT, N, hn0, hx, hZ, hown, hby, hml, hrt, hlk⟩ := Y
  subst hp hat
  obtain ⟨T', h', ck, X', e', E, A, st⟩ := Jvm.RoadKit.newP X hx hZ w eT (g := mkF m pc L (.int z :: S)) rfl (hb hby hd) rfl hz hcap hcb hc hl
  exact (q T' h' h.size ck ⟨locs, X', e', N, hn0, hx, hZ, hown, hby, hml, hrt, hlk⟩ E rfl (eT ▸ Nat.le_trans hn0 (own_grow X)) (Arv.new A hz)).of1 st
theorem Gl.lastore (Y : Sd Z own bs mx ret n0 p l e R s m args below meth c T h k n) {a : Addr} {ck : ClassId} {z j : Int32} {x : Int64} {vs : List Value} {d v : Value} {ix : Nat} (F : Arv Z h a ck .long z vs d) (hv : .long x = v) (hj : ¬ j < 0 ∧ j < z) (hjx : j.toNatClampNeg = ix) (hlen : ix < vs.length) (ha : n0 ≤ a) (hd : decode bs pc = .ok (.lastore, 1)) (hp : pc + 1 = pc') (q : ∀ T' h', Sd Z own bs mx ret n0 p l e R s m args below meth c T' h' k n → Wr h h' a ix v → Arv Z h' a ck .long z (vs.set ix v) d → Gl p e below P (T'.setTop (mkF m pc' L S))) : Gl p e below P (T.setTop (mkF m pc L (.long x :: .int j :: .ref a :: S))) := by
  obtain ⟨locs, X, eT, N, hn0, hx, hZ, hown, hby, hml, hrt, hlk⟩ := Y
  subst hp hv hjx
  obtain ⟨cl, A, C1, S1, N1, H, Gf⟩ := F
  obtain ⟨T', h', X', e', W, st⟩ := stJ X hx hZ eT A (inb_of S1 hj) (g := mkF m pc L (.long x :: .int j :: .ref a :: S)) rfl rfl (hb hby hd)
  exact (q T' h' ⟨_, X', e', Fr.snoc X' N ha, hn0, hx, hZ, hown, hby, hml, hrt, hlk⟩ W (Arv.set A C1 S1 N1 H Gf rfl W _ rfl hlen)).of1 st
theorem Gl.initO (Y : Sd Z own bs mx ret n0 p l e R s m args below meth c T h k n) {i : Nat} {a : Addr} (w1 : (Jvm.Cond.methodLink own i Lib.objectInit).before a0 Z = true) (w2 : (Jvm.Cond.instanceMethod Lib.objectInit).before a0 Z = true) (w3 : (Jvm.Cond.code Lib.objectInit ⟨#[0xb1]⟩ 1 none).before a0 Z = true) (hL : L.size = mx) (hf : 1 ≤ R.frames) (hl : (S.map fun v => v.category).sum + 12 ≤ R.locals) (hd : decode bs pc = .ok (.invokespecial i, 3)) (hp : pc + 3 = pc') (q : ∀ T', Sd Z own bs mx ret n0 p l e R s m args below meth c T' h k n → Gl p e below P (T'.setTop (mkF m pc' L S))) : Gl p e below P (T.setTop (mkF m pc L (.ref a :: S))) := by
  obtain ⟨locs, X, eT, N, hn0, hx, hZ, hown, hby, hml, hrt, hlk⟩ := Y
  subst hp
  obtain ⟨T', X', e', st⟩ := Jvm.RoadKit.initO X hx hZ hown w1 w2 w3 eT (g := mkF m pc L (.ref a :: S)) rfl (by rw [hml]; exact hL) rfl (hb hby hd) hf (W := (S.map fun v => v.category).sum) (by show 2 * 0 + _ ≤ _; omega) hl
  exact (q T' ⟨locs, X', e', N, hn0, hx, hZ, hown, hby, hml, hrt, hlk⟩).of1 st
theorem Gl.callS (Y : Sd Z own bs mx ret n0 p l e R s m args below meth c T h k n) {y : MethodName} {bs2 : ByteArray} {mx2 : Nat} {ret2 : Option FieldType} {rm : Room} {as : Array Value} {Q : Option Value → Heap → Prop} {i : Nat} {argsL rest : List Value} (w1 : (Jvm.Cond.methodLink own i y).before a0 Z = true) (w2 : (Jvm.Cond.static y).before a0 Z = true) (w3 : (Jvm.Cond.initialized y.cls).before a0 Z = true) (w4 : (Jvm.Cond.code y bs2 mx2 ret2).before a0 Z = true) (hy : y.cls ≠ "java/lang/invoke/MethodHandle" ∧ y.cls ≠ "java/lang/invoke/VarHandle") (hM : OMet l Z [] y bs2 mx2 ret2 rm as h n0 Q) (has : argsL.toArray = as) (hS : S = argsL.reverse ++ rest) (hlen : ∀ sig, parseMethodDescriptor y.desc = some sig → argsL.length = sig.parameters.length) (hL : L.size = mx) (hf : rm.frames + 1 ≤ R.frames) (hl : (rest.map fun v => v.category).sum + (mx2 + 11) + rm.locals ≤ R.locals) (hc : k + rm.cells ≤ R.cells) (hs : n + rm.slots ≤ R.slots) (hd : decode bs pc = .ok (.invokestatic i, 3)) (hp : pc + 3 = pc') (q : ∀ v T' h', Sd Z own bs mx ret n0 p l e R s m args below meth c T' h' (k + rm.cells) (n + rm.slots) → Q v h' → Gl p e below P (T'.setTop (mkF m pc' L (v.toList ++ rest)))) : Gl p e below P (T.setTop (mkF m pc L S)) := by
  obtain ⟨locs, X, eT, N, hn0, hx, hZ, hown, hby, hml, hrt, hlk⟩ := Y
  subst hp has hS
  obtain ⟨v, vm₁, ⟨T', L', k', n'⟩, -, X', hB, st⟩ := Jvm.LawKit.callS X hx (y := y) hown (mvT hZ w1) (mvT hZ w2) (mvT hZ w3) (mvT hZ w4) hy (backOf (Q := fun v h' L => Q v h' ∧ Fr n0 L) (W := (rest.map fun v => v.category).sum) (OMet.un hM) hZ w4 w3 hf hl) (g := mkF m pc L (argsL.reverse ++ rest)) rfl (by rw [hml]; exact hL) (argsL := argsL) (rest := rest) hlen rfl (by show 2 * 0 + _ ≤ _; omega) (hb hby hd) (fun _ _ => ⟨rfl, eT, hc, hs⟩)
  obtain ⟨Lc, ⟨hQ, NL⟩, l1, l2, l3⟩ := hB
  dsimp only [Pt.U, Pt.locs, Pt.cells, Pt.slots] at X' l1 l2 l3 st hQ
  subst l1 l2 l3
  exact (q v T' T'.heap ⟨_, X', rfl, Fr.app N NL, hn0, hx, hZ, hown, hby, hml, hrt, hlk⟩ hQ).of1 st
theorem Gl.callN (Y : Sd Z own bs mx ret n0 p l e R s m args below meth c T h k n) {y : MethodName} {bs2 : ByteArray} {mx2 : Nat} {rm : Room} {as : Array Value} {Q : Option Value → Heap → Prop} {i : Nat} {argsL rest : List Value} {a : Addr} (hy1 : y.name = "<init>") (w1 : (Jvm.Cond.methodLink own i y).before a0 Z = true) (w2 : (Jvm.Cond.instanceMethod y).before a0 Z = true) (w3 : (Jvm.Cond.initialized y.cls).before a0 Z = true) (w4 : (Jvm.Cond.code y bs2 mx2 none).before a0 Z = true) (hy : y.cls ≠ "java/lang/invoke/MethodHandle" ∧ y.cls ≠ "java/lang/invoke/VarHandle") (hM : OMet l Z [] y bs2 mx2 none rm as h n0 Q) (has : (.ref a :: argsL).toArray = as) (hS : S = argsL.reverse ++ .ref a :: rest) (hlen : ∀ sig, parseMethodDescriptor y.desc = some sig → argsL.length = sig.parameters.length) (hL : L.size = mx) (hf : rm.frames + 1 ≤ R.frames) (hl : (rest.map fun v => v.category).sum + (mx2 + 11) + rm.locals ≤ R.locals) (hc : k + rm.cells ≤ R.cells) (hs : n + rm.slots ≤ R.slots) (hd : decode bs pc = .ok (.invokespecial i, 3)) (hp : pc + 3 = pc') (q : ∀ v T' h', Sd Z own bs mx ret n0 p l e R s m args below meth c T' h' (k + rm.cells) (n + rm.slots) → Q v h' → Gl p e below P (T'.setTop (mkF m pc' L (v.toList ++ rest)))) : Gl p e below P (T.setTop (mkF m pc L S)) := by
  obtain ⟨locs, X, eT, N, hn0, hx, hZ, hown, hby, hml, hrt, hlk⟩ := Y
  subst hp has hS
  obtain ⟨v, vm₁, ⟨T', L', k', n'⟩, -, X', hB, st⟩ := X.specialBack hx (y := y) hy1 hown (mvT hZ w1) (mvT hZ w2) (mvT hZ w4) hy (backOf (Q := fun v h' L => Q v h' ∧ Fr n0 L) (W := (rest.map fun v => v.category).sum) (OMet.un hM) hZ w4 w3 hf hl) (g := mkF m pc L (argsL.reverse ++ .ref a :: rest)) rfl (by rw [hml]; exact hL) (Steps.refl _) (a := a) (argsL := argsL) (rest := rest) hlen rfl (by show 2 * 0 + _ ≤ _; omega) (hb hby hd) (fun _ _ => ⟨rfl, eT, hc, hs⟩)
  obtain ⟨Lc, ⟨hQ, NL⟩, l1, l2, l3⟩ := hB
  dsimp only [Pt.U, Pt.locs, Pt.cells, Pt.slots] at X' l1 l2 l3 st hQ
  subst l1 l2 l3
  exact Gl.via st (q v T' T'.heap ⟨_, X', rfl, Fr.app N NL, hn0, hx, hZ, hown, hby, hml, hrt, hlk⟩ hQ)
theorem Gl.callV (Y : Sd Z own bs mx ret n0 p l e R s m args below meth c T h k n) {y : MethodName} {bs2 : ByteArray} {mx2 : Nat} {ret2 : Option FieldType} {rm : Room} {as : Array Value} {Q : Option Value → Heap → Prop} {i : Nat} {z : MethodName} {C : String} {argsL rest : List Value} {a : Addr} (w1 : (Jvm.Cond.methodLink own i z).before a0 Z = true) (wd : (Jvm.Cond.declares z).before a0 Z = true) (ws0 : (Jvm.Cond.selects z.cls z z).before a0 Z = true) (ws : (Jvm.Cond.selects C z y).before a0 Z = true) (w2 : (Jvm.Cond.instanceMethod y).before a0 Z = true) (w3 : (Jvm.Cond.initialized y.cls).before a0 Z = true) (w4 : (Jvm.Cond.code y bs2 mx2 ret2).before a0 Z = true) (hy : z.cls ≠ "java/lang/invoke/MethodHandle" ∧ z.cls ≠ "java/lang/invoke/VarHandle") (E : Exa Z h a C) (hM : OMet l Z [] y bs2 mx2 ret2 rm as h n0 Q) (has : (.ref a :: argsL).toArray = as) (hS : S = argsL.reverse ++ .ref a :: rest) (hlen : ∀ sig, parseMethodDescriptor z.desc = some sig → argsL.length = sig.parameters.length) (hL : L.size = mx) (hf : rm.frames + 1 ≤ R.frames) (hl : (rest.map fun v => v.category).sum + (mx2 + 11) + rm.locals ≤ R.locals) (hc : k + rm.cells ≤ R.cells) (hs : n + rm.slots ≤ R.slots) (hd : decode bs pc = .ok (.invokevirtual i, 3)) (hp : pc + 3 = pc') (q : ∀ v T' h', Sd Z own bs mx ret n0 p l e R s m args below meth c T' h' (k + rm.cells) (n + rm.slots) → Q v h' → Gl p e below P (T'.setTop (mkF m pc' L (v.toList ++ rest)))) : Gl p e below P (T.setTop (mkF m pc L S)) := by
  obtain ⟨locs, X, eT, N, hn0, hx, hZ, hown, hby, hml, hrt, hlk⟩ := Y
  subst hp has hS
  obtain ⟨cq, kq, qa, qb, qc⟩ := isOf hZ eT E
  obtain ⟨v, vm₁, ⟨T', L', k', n'⟩, -, X', hB, st⟩ := X.virtualBack hx (y := z) (z := y) hown (mvT hZ w1) (mvT hZ wd) (notFace_of_selects (args := #[]) (mvT hZ ws0)) (mvT hZ ws) (mvT hZ w2) hy (backOf (Q := fun v h' L => Q v h' ∧ Fr n0 L) (W := (rest.map fun v => v.category).sum) (OMet.un hM) hZ w4 w3 hf hl) qa qc (g := mkF m pc L (argsL.reverse ++ .ref a :: rest)) rfl (by rw [hml]; exact hL) (Steps.refl _) (argsL := argsL) (rest := rest) hlen rfl (by show 2 * 0 + _ ≤ _; omega) (hb hby hd) (fun _ _ => ⟨rfl, eT, hc, hs⟩)
  obtain ⟨Lc, ⟨hQ, NL⟩, l1, l2, l3⟩ := hB
  dsimp only [Pt.U, Pt.locs, Pt.cells, Pt.slots] at X' l1 l2 l3 st hQ
  subst l1 l2 l3
  exact Gl.via st (q v T' T'.heap ⟨_, X', rfl, Fr.app N NL, hn0, hx, hZ, hown, hby, hml, hrt, hlk⟩ hQ)
theorem Gl.fin (Y : Sd Z own bs mx ret n0 p l e R s m args below meth c T h k n) {K M : Nat} {Q : Option Value → Heap → Prop} (hk : k ≤ K) (hm : n ≤ M) {g : JFrame} {v : Option Value} (hv : ret = none → v = none) (st : ∀ fs, (∀ (f : JFrame) (acts : List Action), f.method = m → f.locked = none → f.entered = [] → (doReturn e (T.setTop f) acts v).1 = T.setFrames fs) → Steps p.tables e below (T.setTop g) (T.setFrames fs)) (hQ : Q v h) : Gl p e below (Pst s n0 K M Q) (T.setTop g) := by
  obtain ⟨locs, X, eT, N, hn0, hx, hZ, hown, hby, hml, hrt, hlk⟩ := Y
  obtain ⟨fs, hr, hrun, hended, hW, hsame⟩ := X.leave (v := v) (fun q => hv (hrt.symm.trans q)) hlk
  exact ⟨_, _, st fs hr, hrun, hended, v, locs, rfl, ⟨by show Q v T.heap; rw [eT]; exact hQ, N⟩, ⟨_, rfl⟩, hW, hsame.mono hk hm⟩
theorem Gl.retV (Y : Sd Z own bs mx none n0 p l e R s m args below meth c T h k n) {K M : Nat} {Q : Option Value → Heap → Prop} (hk : k ≤ K) (hm : n ≤ M)  (hd : decode bs pc = .ok (.return_, 1)) (hQ : Q none h) : Gl p e below (Pst s n0 K M Q) (T.setTop (mkF m pc L [])) := by
  have Y0 := Y
  obtain ⟨locs, X, eT, N, hn0, hx, hZ, hown, hby, hml, hrt, hlk⟩ := Y
  exact Gl.fin Y0 hk hm (v := none) (fun q => by first | rfl | cases q) (fun fs hr => X.returnOut hx hrt (hb hby hd) hr) hQ
theorem Gl.retI (Y : Sd Z own bs mx (some .int) n0 p l e R s m args below meth c T h k n) {K M : Nat} {Q : Option Value → Heap → Prop} (hk : k ≤ K) (hm : n ≤ M) {x : Int32} (hd : decode bs pc = .ok (.ireturn, 1)) (hQ : Q (some (.int x)) h) : Gl p e below (Pst s n0 K M Q) (T.setTop (mkF m pc L (.int x :: S))) := by
  have Y0 := Y
  obtain ⟨locs, X, eT, N, hn0, hx, hZ, hown, hby, hml, hrt, hlk⟩ := Y
  exact Gl.fin Y0 hk hm (v := (some (.int x))) (fun q => by first | rfl | cases q) (fun fs hr => retOut X hx hrt rfl (Or.inl ⟨rfl, Or.inl rfl, x, rfl⟩) (hb hby hd) hr) hQ
theorem Gl.retJ (Y : Sd Z own bs mx (some .long) n0 p l e R s m args below meth c T h k n) {K M : Nat} {Q : Option Value → Heap → Prop} (hk : k ≤ K) (hm : n ≤ M) {x : Int64} (hd : decode bs pc = .ok (.lreturn, 1)) (hQ : Q (some (.long x)) h) : Gl p e below (Pst s n0 K M Q) (T.setTop (mkF m pc L (.long x :: S))) := by
  have Y0 := Y
  obtain ⟨locs, X, eT, N, hn0, hx, hZ, hown, hby, hml, hrt, hlk⟩ := Y
  exact Gl.fin Y0 hk hm (v := (some (.long x))) (fun q => by first | rfl | cases q) (fun fs hr => retOut X hx hrt rfl (Or.inr (Or.inl ⟨rfl, rfl, x, rfl⟩)) (hb hby hd) hr) hQ
theorem Gl.retA (Y : Sd Z own bs mx (some t) n0 p l e R s m args below meth c T h k n) {K M : Nat} {Q : Option Value → Heap → Prop} (hk : k ≤ K) (hm : n ≤ M) {x : Value} (ht : t.isReference = true) (hxr : x.isRef = true) (hd : decode bs pc = .ok (.areturn, 1)) (hQ : Q (some x) h) : Gl p e below (Pst s n0 K M Q) (T.setTop (mkF m pc L (x :: S))) := by
  have Y0 := Y
  obtain ⟨locs, X, eT, N, hn0, hx, hZ, hown, hby, hml, hrt, hlk⟩ := Y
  exact Gl.fin Y0 hk hm (v := (some x)) (fun q => by first | rfl | cases q) (fun fs hr => retOut X hx hrt (own_narR hxr) (Or.inr (Or.inr (Or.inr (Or.inr ⟨rfl, ht, hxr⟩)))) (hb hby hd) hr) hQ
theorem Gl.retZ (Y : Sd Z own bs mx (some .boolean) n0 p l e R s m args below meth c T h k n) {K M : Nat} {Q : Option Value → Heap → Prop} (hk : k ≤ K) (hm : n ≤ M) {x x' : Int32} (hxn : nar .boolean x = x') (hd : decode bs pc = .ok (.ireturn, 1)) (hQ : Q (some (.int x')) h) : Gl p e below (Pst s n0 K M Q) (T.setTop (mkF m pc L (.int x :: S))) := by
  have Y0 := Y
  obtain ⟨locs, X, eT, N, hn0, hx, hZ, hown, hby, hml, hrt, hlk⟩ := Y
  exact Gl.fin Y0 hk hm (v := (some (.int x'))) (fun q => by first | rfl | cases q) (fun fs hr => retN X hx (t := .boolean) hrt (by simp) (hb hby hd) (by rw [hxn]; exact hr)) hQ
theorem Gl.dstore (Y : Sd Z own bs mx ret n0 p l e R s m args below meth c T h k n) {i : Nat} {v : UInt64} {L' : Array Slot} (hl : storeLocals L i (.double v) = some L') (hd : decode bs pc = .ok (.dstore i, 2)) (hp : pc + 2 = pc') (q : Gl p e below P (T.setTop (mkF m pc' L' S))) : Gl p e below P (T.setTop (mkF m pc L (.double v :: S))) := by
  obtain ⟨locs, X, eT, N, hn0, hx, hZ, hown, hby, hml, hrt, hlk⟩ := Y
  subst hp
  exact q.of1 fun t q => XS.dstore X.here hx rfl (hb hby hd) rfl hl q
theorem Gl.i2d (Y : Sd Z own bs mx ret n0 p l e R s m args below meth c T h k n) {x : Int32} {r : UInt64} (hr : FP.i2d x = r) (hd : decode bs pc = .ok (.i2d, 1)) (hp : pc + 1 = pc') (q : Gl p e below P (T.setTop (mkF m pc' L (.double r :: S)))) : Gl p e below P (T.setTop (mkF m pc L (.int x :: S))) := by
  obtain ⟨locs, X, eT, N, hn0, hx, hZ, hown, hby, hml, hrt, hlk⟩ := Y
  subst hp hr
  exact q.of1 fun t q => XS.i2dS X.here hx rfl (hb hby hd) rfl rfl q
theorem Gl.l2d (Y : Sd Z own bs mx ret n0 p l e R s m args below meth c T h k n) {x : Int64} {r : UInt64} (hr : FP.l2d x = r) (hd : decode bs pc = .ok (.l2d, 1)) (hp : pc + 1 = pc') (q : Gl p e below P (T.setTop (mkF m pc' L (.double r :: S)))) : Gl p e below P (T.setTop (mkF m pc L (.long x :: S))) := by
  obtain ⟨locs, X, eT, N, hn0, hx, hZ, hown, hby, hml, hrt, hlk⟩ := Y
  subst hp hr
  exact q.of1 fun t q => XS.l2dS X.here hx rfl (hb hby hd) rfl rfl q
theorem Gl.d2i (Y : Sd Z own bs mx ret n0 p l e R s m args below meth c T h k n) {x : UInt64} {r : Int32} (hr : FP.d2i x = r) (hd : decode bs pc = .ok (.d2i, 1)) (hp : pc + 1 = pc') (q : Gl p e below P (T.setTop (mkF m pc' L (.int r :: S)))) : Gl p e below P (T.setTop (mkF m pc L (.double x :: S))) := by
  obtain ⟨locs, X, eT, N, hn0, hx, hZ, hown, hby, hml, hrt, hlk⟩ := Y
  subst hp hr
  exact q.of1 fun t q => XS.d2iS X.here hx rfl (hb hby hd) rfl rfl q
theorem Gl.dmul (Y : Sd Z own bs mx ret n0 p l e R s m args below meth c T h k n) {x y : UInt64} (hn : Jvm.Free.Fl.NoNaN64 (FP.dmul x y)) {r : UInt64} (hr : FP.dmul x y = r) (hd : decode bs pc = .ok (.dmul, 1)) (hp : pc + 1 = pc') (q : Gl p e below P (T.setTop (mkF m pc' L (.double r :: S)))) : Gl p e below P (T.setTop (mkF m pc L (.double y :: .double x :: S))) := by
  obtain ⟨locs, X, eT, N, hn0, hx, hZ, hown, hby, hml, hrt, hlk⟩ := Y
  subst hp hr
  exact q.of1 fun t q => XS.dmulS X.here hx rfl (hb hby hd) rfl hn rfl q
theorem Gl.ddiv (Y : Sd Z own bs mx ret n0 p l e R s m args below meth c T h k n) {x y : UInt64} (hn : Jvm.Free.Fl.NoNaN64 (FP.ddiv x y)) {r : UInt64} (hr : FP.ddiv x y = r) (hd : decode bs pc = .ok (.ddiv, 1)) (hp : pc + 1 = pc') (q : Gl p e below P (T.setTop (mkF m pc' L (.double r :: S)))) : Gl p e below P (T.setTop (mkF m pc L (.double y :: .double x :: S))) := by
  obtain ⟨locs, X, eT, N, hn0, hx, hZ, hown, hby, hml, hrt, hlk⟩ := Y
  subst hp hr
  exact q.of1 fun t q => XS.ddivS X.here hx rfl (hb hby hd) rfl hn rfl q
theorem Gl.dcmp (Y : Sd Z own bs mx ret n0 p l e R s m args below meth c T h k n) {o : CmpOp} {x y : UInt64} {v : Int32} (hv : cmpValue (FP.dcmp x y) o = v) (hd : decode bs pc = .ok (.dcmp o, 1)) (hp : pc + 1 = pc') (q : Gl p e below P (T.setTop (mkF m pc' L (.int v :: S)))) : Gl p e below P (T.setTop (mkF m pc L (.double y :: .double x :: S))) := by
  obtain ⟨locs, X, eT, N, hn0, hx, hZ, hown, hby, hml, hrt, hlk⟩ := Y
  subst hp
  exact q.of1 fun t q => XS.dcmpS X.here hx rfl (hb hby hd) rfl hv q
theorem Gl.retD (Y : Sd Z own bs mx (some .double) n0 p l e R s m args below meth c T h k n) {K M : Nat} {Q : Option Value → Heap → Prop} (hk : k ≤ K) (hm : n ≤ M) {x : UInt64} (hd : decode bs pc = .ok (.dreturn, 1)) (hQ : Q (some (.double x)) h) : Gl p e below (Pst s n0 K M Q) (T.setTop (mkF m pc L (.double x :: S))) := by
  have Y0 := Y
  obtain ⟨locs, X, eT, N, hn0, hx, hZ, hown, hby, hml, hrt, hlk⟩ := Y
  exact Gl.fin Y0 hk hm (v := (some (.double x))) (fun q => by first | rfl | cases q) (fun fs hr => retOut X hx hrt rfl (Or.inr (Or.inr (Or.inl ⟨rfl, rfl, x, rfl⟩))) (hb hby hd) hr) hQ
theorem Gl.cpy (Y : Sd Z own bs mx ret n0 p l e R s m args below meth c T h k n) {i : Nat} {a b : Addr} {ck ck' : ClassId} {ty : FieldType} {z z' sp dp nn : Int32} {vs vd us vr : List Value} {dv dd : Value} (w1 : (Jvm.Cond.methodLink own i Jvm.Stand.acN).before a0 Z = true) (w2 : (Jvm.Cond.native Jvm.Stand.acN).before a0 Z = true) (w3 : (Jvm.Cond.static Jvm.Stand.acN).before a0 Z = true) (w4 : (Jvm.Cond.initialized "java/lang/System").before a0 Z = true) (A : Arv Z h a ck ty z vs dv) (B : Arv Z h b ck' ty z' vd dd) (hty : refKind ty = false) (h1 : ¬ sp < 0) (h2 : ¬ dp < 0) (h3 : ¬ nn < 0) (h4 : sp.toNatClampNeg + nn.toNatClampNeg ≤ z.toNatClampNeg) (h5 : dp.toNatClampNeg + nn.toNatClampNeg ≤ z'.toNatClampNeg) (hus : us = (List.range nn.toNatClampNeg).map fun i => vs.getD (sp.toNatClampNeg + i) dv) (hl : dp.toNatClampNeg + nn.toNatClampNeg ≤ vd.length) (hvr : vd.take dp.toNatClampNeg ++ us ++ vd.drop (dp.toNatClampNeg + nn.toNatClampNeg) = vr) (ge : n0 ≤ b) (hL : L.size = mx) (hf : 1 ≤ R.frames) (hlo : (S.map fun v => v.category).sum + 18 ≤ R.locals) (hd : decode bs pc = .ok (.invokestatic i, 3)) (hp : pc + 3 = pc') (q : ∀ T' h', Sd Z own bs mx ret n0 p l e R s m args below meth c T' h' k n → Keep h h' [b] → Arv Z h' b ck' ty z' vr dd → Gl p e below P (T'.setTop (mkF m pc' L S))) : Gl p e below P (T.setTop (mkF m pc L (.int nn :: .int dp :: .ref b :: .int sp :: .ref a :: S))) := by
  obtain ⟨locs, X, eT, N, hn0, hx, hZ, hown, hby, hml, hrt, hlk⟩ := Y
  subst hp hvr
  obtain ⟨T', h', L', X', e', N', K, A', st⟩ := cpA X hx hZ hown w1 w2 w3 w4 eT A B (Or.inl ⟨rfl, hty⟩) h1 h2 h3 h4 h5 hus hl N ge (g := mkF m pc L (.int nn :: .int dp :: .ref b :: .int sp :: .ref a :: S)) rfl (by rw [hml]; exact hL) rfl (hb hby hd) hf (W := (S.map fun v => v.category).sum) (by show 2 * 0 + _ ≤ _; omega) (by rw [show nativeFrameWords "java/lang/System" "arraycopy" 5 = 7 from by decide]; exact hlo)
  exact (q T' h' ⟨L', X', e', N', hn0, hx, hZ, hown, hby, hml, hrt, hlk⟩ K A').of1 st
end Kit
end Jvm.OwnWk

namespace Jvm.OwnLw
open Sem ClassFile Op Lib Jvm.Stand Jvm.Free Jvm.LawKit Jvm.RoadKit Jvm.OwnWk
def Ls (Z : State) (own : String) (bs : ByteArray) (mx : Nat) (ret : Option FieldType) (p : Program) (l : Launch) (e : Env) (s T0 : State) (m : MethodId) (below r : List Frame) (K F : Nat) (T : State) : Prop :=
  ∃ (meth : Method) (c : Code) (f : JFrame) (vm : Vm), T = (T0.setVm vm).setFrames (.java f :: r) ∧ At T m c below ∧ p.tables.exec = Jvm.exec ∧ l.admits e ∧ Z.Warmed39 s.vm ∧ s.WarmedH vm ∧ s.vm.findClass own = some m.cls ∧ s.vm.method? m = some meth ∧ meth.code = some c ∧ c.code = bs ∧ c.maxLocals = mx ∧ meth.sig.returnType = ret ∧ meth.locks = false ∧ (stackUse r).2 + K ≤ (e.platform.stackLimits T0.me).2 ∧ r.length + F ≤ (e.platform.stackLimits T0.me).1 ∧ T0.cur < T0.threads.size
section Low
variable {Z : State} {own : String} {bs : ByteArray} {mx : Nat} {ret : Option FieldType} {p : Program} {l : Launch} {e : Env} {s T0 : State} {m : MethodId} {below r : List Frame} {T : State} {K F : Nat} {P : Outcome → State → Prop} {L : Array Slot} {S : List Value} {pc pc' pcT pcF : Nat} {a0 : Array Value} {c : Code} {args : Array Value} {h : Heap}
theorem lw_ldcJ (here : At T m c below) (hx : p.tables.exec = Jvm.exec) (hv : s.WarmedH T.vm) {i : Nat} {v : Int64} (hown : s.vm.findClass own = some m.cls) (w : (Cond.constantLong own i v).before args s = true) {g : JFrame} (hg : g.method = m) (hd : decode c.code g.pc = .ok (.ldc2_w i, 3)) {t : State}
    (q : Steps p.tables e below (T.setTop { g with pc := g.pc + 3, stack := .long v :: g.stack }) t) : Steps p.tables e below (T.setTop g) t := by
  obtain ⟨k, cf, bytes, hk, hcf, hcp, hb⟩ := Cond.constantLong_spec hown w
  obtain ⟨k', hk', he⟩ := hv.alike.2.2 _ _ hk
  subst hg
  jvm_step here [hx, hd, ldc2_w.wp_long (s := T) (f := g) here.top hk' (by rw [he]; exact hcf) hcp, hb]
  exact q
theorem lw_ldcD (here : At T m c below) (hx : p.tables.exec = Jvm.exec) (hv : s.WarmedH T.vm) {i : Nat} {v : UInt64} (hown : s.vm.findClass own = some m.cls) (w : (Cond.constantDouble own i v).before args s = true) {g : JFrame} (hg : g.method = m) (hd : decode c.code g.pc = .ok (.ldc2_w i, 3)) {t : State}
    (q : Steps p.tables e below (T.setTop { g with pc := g.pc + 3, stack := .double v :: g.stack }) t) : Steps p.tables e below (T.setTop g) t := by
  obtain ⟨k, cf, hk, hcf, hcp⟩ := Cond.constantDouble_spec hown w
  obtain ⟨k', hk', he⟩ := hv.alike.2.2 _ _ hk
  subst hg
  jvm_step here [hx, hd, ldc2_w.wp_double (s := T) (f := g) here.top hk' (by rw [he]; exact hcf) hcp]
  exact q
theorem lw_getS (here : At T m c below) (hx : p.tables.exec = Jvm.exec) (hadm : l.admits e) (hv : s.WarmedH T.vm) {R0 f0 d0 : String} {i : Nat} (hown : s.vm.findClass own = some m.cls) (w : (Cond.fieldLink own i R0 f0 d0).before args s = true)
    {cf j : Nat} {k : Class} {f : Field} (hi : s.fieldFound? R0 f0 d0 = some (cf, k, j, f)) (hst : f.isStatic = true) (hinit : k.init = .initialized) {a1 : Addr} {cell : Cell} {v : Value} (hs : k.statics = some a1) (hcell : T.heap[a1]? = some cell) (hkn : cell.vm ≠ .unknown) (hsl : cell.slots[f.slot]? = some v)
    {g : JFrame} (hg : g.method = m) (hd : decode c.code g.pc = .ok (.getstatic i, 3)) : ∃ vm', s.WarmedH vm' ∧ ∀ t, Steps p.tables e below ((T.setVm vm').setTop { g with pc := g.pc + 3, stack := v :: g.stack }) t → Steps p.tables e below (T.setTop g) t := by
  obtain ⟨ci, cl, k1, i1, f1, hi1, hl, hr⟩ := Cond.fieldLink_spec hown w e.platform (by rw [hadm.platform])
  cases hi.symm.trans hi1
  obtain ⟨hk, hf⟩ := State.fieldFound?_spec hi
  obtain ⟨vm', hgv, hW, hrd, hfi⟩ := State.fieldEntry (e := e) hv hl hr hk hf
  obtain ⟨kc, hkc, hek⟩ := hW.alike.2.2 _ _ hk
  refine ⟨vm', hW, fun t q => ?_⟩
  subst hg
  jvm_step here [hx, hd, getstatic.wp_cold (e := e) (s := T) (f := g) here.top hgv hrd hfi, getstatic.wp_ready (e := e) (s := T.setVm vm') (f := g) here.top hrd hst hkc (by rw [hek]; exact hinit) (by rw [hek]; exact hs) (show (T.setVm vm').heap[a1]? = some cell from hcell) hkn hsl]
  exact q
theorem lw_invoke (here : At T m c below) (hx : p.tables.exec = Jvm.exec) (hadm : l.admits e) (hv : s.WarmedH T.vm) {i : Nat} {y : MethodName} (hown : s.vm.findClass own = some m.cls) (w : (Cond.methodLink own i y).before args s = true)
    {m' : MethodId} {meth' : Method} {k' : Class} (hn : s.methodNamed? y = some m') (hm' : s.vm.method? m' = some meth') (hst : meth'.isStatic = true) (hk' : s.vm.classes[m'.cls]? = some k') (hinit : k'.init = .initialized) (hy : y.cls ≠ "java/lang/invoke/MethodHandle" ∧ y.cls ≠ "java/lang/invoke/VarHandle")
    {g : JFrame} (hg : g.method = m) {argsL rest : List Value} (hlen : argsL.length = meth'.sig.parameters.length) (hstk : g.stack = argsL.reverse ++ rest) (hd : decode c.code g.pc = .ok (.invokestatic i, 3)) :
    ∃ vm', s.WarmedH vm' ∧ ∀ t, (∀ acts, Steps p.tables e below (doInvoke e ((T.setVm vm').setTop { g with stack := rest }) acts m' argsL.toArray).1 t) → Steps p.tables e below (T.setTop g) t := by
  have hpv : e.platform.polymorphicOnlyByInvokevirtual = true := by rw [hadm.platform]
  obtain ⟨ci, hl, hr⟩ := Cond.methodLink_spec hown hn w e.platform (by rw [hadm.platform])
  obtain ⟨kx, hkx, hnx⟩ := className_of_methodNamed hn
  cases hk'.symm.trans hkx
  have hE : s.MethodEntry e T.vm m.cls i m' ci := State.methodEntry hv hl hr fun k hk => by
    cases hk'.symm.trans hk
    rw [hnx]; exact hy
  obtain ⟨dk, cfl, nt, mn, md, via, ck, _, hdk, hcf, hcp, hnt, -, -, hck, -, hnp, -⟩ := hl.here
  cases hk'.symm.trans hck
  obtain ⟨dk2, hdk2, hed2⟩ := hE.warmed.alike.2.2 _ _ hdk
  obtain ⟨k2, hk2, he2⟩ := hE.warmed.alike.2.2 _ _ hk'
  have hno : (k'.methods.any fun y => y.name == mn && !y.isStatic && signaturePolymorphic k' y) = false := by simp [hnp]
  have hno2 : (k2.methods.any fun y => y.name == mn && !y.isStatic && signaturePolymorphic k2 y) = false := by rw [he2]; exact hno
  refine ⟨T.vm.called m.cls ci i m', hE.warmed, fun t q => ?_⟩
  subst hg
  jvm_step here [hx, hd, invokestatic.wp_cold (e := e) (s := T) (s₀ := s) (f := g) here.top hpv hv hE hdk hcf hcp hnt hk' hno,
    invokestatic.wp_ready (e := e) (s := T.setVm (T.vm.called g.method.cls ci i m')) (k := k2) (meth := meth') (m := m') (args := argsL) (rest := rest) (f := g)
      here.top ⟨ci, mn, md, via, m'.cls, k2, memberRef_ask_via (e := e) hdk2 (by rw [hed2]; exact hcf) hcp hnt, hE.classReady, hk2, hno2⟩ hE.ready hk2
      (by show (T.vm.called g.method.cls ci i m').method? m' = some meth'; rw [hE.warmed.alike.method?]; exact hm') (by rw [he2]; exact hnp meth') hst (by rw [he2]; exact hinit) hlen hstk]
  exact fun acts => q _
theorem lw_ret (here : At T m c below) (hx : p.tables.exec = Jvm.exec) {meth : Method} (hm : T.vm.method? m = some meth) {rt : FieldType} (hrt : meth.sig.returnType = some rt) {w : Value} {i : Instr} (hi : (i = .ireturn ∧ rt = .int ∧ ∃ z, w = .int z) ∨ (i = .dreturn ∧ rt = .double ∧ ∃ z, w = .double z)) (hd : decode c.code pc = .ok (i, 1)) {fs : List Frame}
    (hl : ∀ (f : JFrame) (acts : List Action), f.method = m → f.locked = none → f.entered = [] → (doReturn e (T.setTop f) acts (some w)).1 = T.setFrames fs) : Steps p.tables e below (T.setTop (mkF m pc L (w :: S))) (T.setFrames fs) := by
  rcases hi with ⟨rfl, rfl, z, rfl⟩ | ⟨rfl, rfl, z, rfl⟩
  all_goals
    show Steps p.tables e below (T.setTop { method := m, pc := pc, locals := L, stack := _ :: S, locked := none }) _
    jvm_step here [here.top, hx, hd, hm, hrt, narrow]
    first | (intro acts; rw [hl _ acts rfl rfl rfl]) | rw [hl _ _ rfl rfl rfl]
    exact Steps.refl _
theorem Lw.dloadN (Y : Ls Z own bs mx ret p l e s T0 m below r K F T) {i : Fin 4} {v : UInt64} (hl : L[i.val]? = some (.val (.double v))) (hd : decode bs pc = .ok (.dload_n i, 1)) (hp : pc + 1 = pc') (q : Gl p e below P (T.setTop (mkF m pc' L (.double v :: S)))) : Gl p e below P (T.setTop (mkF m pc L S)) := by
  obtain ⟨meth, c, f0, vm, eT, here, hx, hadm, hZ, hWm, hown, hm, hc, hby, hml, hrt, hlk, hK, hF, hcur⟩ := Y
  subst hp
  exact q.of1 fun t q => XS.dloadN here hx rfl (hb hby hd) hl q
theorem Lw.dload (Y : Ls Z own bs mx ret p l e s T0 m below r K F T) {i : Nat} {v : UInt64} (hl : L[i]? = some (.val (.double v))) (hd : decode bs pc = .ok (.dload i, 2)) (hp : pc + 2 = pc') (q : Gl p e below P (T.setTop (mkF m pc' L (.double v :: S)))) : Gl p e below P (T.setTop (mkF m pc L S)) := by
  obtain ⟨meth, c, f0, vm, eT, here, hx, hadm, hZ, hWm, hown, hm, hc, hby, hml, hrt, hlk, hK, hF, hcur⟩ := Y
  subst hp
  exact q.of1 fun t q => XS.dload here hx rfl (hb hby hd) hl q
theorem Lw.dstore (Y : Ls Z own bs mx ret p l e s T0 m below r K F T) {i : Nat} {v : UInt64} {L' : Array Slot} (hl : storeLocals L i (.double v) = some L') (hd : decode bs pc = .ok (.dstore i, 2)) (hp : pc + 2 = pc') (q : Gl p e below P (T.setTop (mkF m pc' L' S))) : Gl p e below P (T.setTop (mkF m pc L (.double v :: S))) := by
  obtain ⟨meth, c, f0, vm, eT, here, hx, hadm, hZ, hWm, hown, hm, hc, hby, hml, hrt, hlk, hK, hF, hcur⟩ := Y
  subst hp
  exact q.of1 fun t q => XS.dstore here hx rfl (hb hby hd) rfl hl q
theorem Lw.dconst0 (Y : Ls Z own bs mx ret p l e s T0 m below r K F T)  (hd : decode bs pc = .ok (.dconst 0, 1)) (hp : pc + 1 = pc') (q : Gl p e below P (T.setTop (mkF m pc' L (.double FP.dconst0 :: S)))) : Gl p e below P (T.setTop (mkF m pc L S)) := by
  obtain ⟨meth, c, f0, vm, eT, here, hx, hadm, hZ, hWm, hown, hm, hc, hby, hml, hrt, hlk, hK, hF, hcur⟩ := Y
  subst hp
  exact q.of1 fun t q => XS.dconst0 here hx rfl (hb hby hd) rfl q
theorem Lw.dconst1 (Y : Ls Z own bs mx ret p l e s T0 m below r K F T)  (hd : decode bs pc = .ok (.dconst 1, 1)) (hp : pc + 1 = pc') (q : Gl p e below P (T.setTop (mkF m pc' L (.double FP.dconst1 :: S)))) : Gl p e below P (T.setTop (mkF m pc L S)) := by
  obtain ⟨meth, c, f0, vm, eT, here, hx, hadm, hZ, hWm, hown, hm, hc, hby, hml, hrt, hlk, hK, hF, hcur⟩ := Y
  subst hp
  exact q.of1 fun t q => XS.dconst1 here hx rfl (hb hby hd) rfl q
theorem Lw.istore (Y : Ls Z own bs mx ret p l e s T0 m below r K F T) {i : Nat} {v : Int32} {L' : Array Slot} (hl : storeLocals L i (.int v) = some L') (hd : decode bs pc = .ok (.istore i, 2)) (hp : pc + 2 = pc') (q : Gl p e below P (T.setTop (mkF m pc' L' S))) : Gl p e below P (T.setTop (mkF m pc L (.int v :: S))) := by
  obtain ⟨meth, c, f0, vm, eT, here, hx, hadm, hZ, hWm, hown, hm, hc, hby, hml, hrt, hlk, hK, hF, hcur⟩ := Y
  subst hp
  exact q.of1 fun t q => XS.istore here hx rfl (hb hby hd) rfl hl q
theorem Lw.iload (Y : Ls Z own bs mx ret p l e s T0 m below r K F T) {i : Nat} {v : Int32} (hl : L[i]? = some (.val (.int v))) (hd : decode bs pc = .ok (.iload i, 2)) (hp : pc + 2 = pc') (q : Gl p e below P (T.setTop (mkF m pc' L (.int v :: S)))) : Gl p e below P (T.setTop (mkF m pc L S)) := by
  obtain ⟨meth, c, f0, vm, eT, here, hx, hadm, hZ, hWm, hown, hm, hc, hby, hml, hrt, hlk, hK, hF, hcur⟩ := Y
  subst hp
  exact q.of1 fun t q => XS.iload here hx rfl (hb hby hd) hl q
theorem Lw.bipush (Y : Ls Z own bs mx ret p l e s T0 m below r K F T) {i : Int} {v : Int32} (hv : (Int8.ofInt i).toInt32 = v) (hd : decode bs pc = .ok (.bipush i, 2)) (hp : pc + 2 = pc') (q : Gl p e below P (T.setTop (mkF m pc' L (.int v :: S)))) : Gl p e below P (T.setTop (mkF m pc L S)) := by
  obtain ⟨meth, c, f0, vm, eT, here, hx, hadm, hZ, hWm, hown, hm, hc, hby, hml, hrt, hlk, hK, hF, hcur⟩ := Y
  subst hp
  exact q.of1 fun t q => XS.bipush here hx rfl (hb hby hd) (by rw [hv]; exact q)
theorem Lw.lconst (Y : Ls Z own bs mx ret p l e s T0 m below r K F T) {i : Fin 2} {v : Int64} (hv : Int64.ofNat i = v) (hd : decode bs pc = .ok (.lconst i, 1)) (hp : pc + 1 = pc') (q : Gl p e below P (T.setTop (mkF m pc' L (.long v :: S)))) : Gl p e below P (T.setTop (mkF m pc L S)) := by
  obtain ⟨meth, c, f0, vm, eT, here, hx, hadm, hZ, hWm, hown, hm, hc, hby, hml, hrt, hlk, hK, hF, hcur⟩ := Y
  subst hp
  exact q.of1 fun t q => XS.lconst here hx rfl (hb hby hd) (by rw [hv]; exact q)
theorem Lw.lstore (Y : Ls Z own bs mx ret p l e s T0 m below r K F T) {i : Nat} {v : Int64} {L' : Array Slot} (hl : storeLocals L i (.long v) = some L') (hd : decode bs pc = .ok (.lstore i, 2)) (hp : pc + 2 = pc') (q : Gl p e below P (T.setTop (mkF m pc' L' S))) : Gl p e below P (T.setTop (mkF m pc L (.long v :: S))) := by
  obtain ⟨meth, c, f0, vm, eT, here, hx, hadm, hZ, hWm, hown, hm, hc, hby, hml, hrt, hlk, hK, hF, hcur⟩ := Y
  subst hp
  exact q.of1 fun t q => XS.lstore here hx rfl (hb hby hd) rfl hl q
theorem Lw.lload (Y : Ls Z own bs mx ret p l e s T0 m below r K F T) {i : Nat} {v : Int64} (hl : L[i]? = some (.val (.long v))) (hd : decode bs pc = .ok (.lload i, 2)) (hp : pc + 2 = pc') (q : Gl p e below P (T.setTop (mkF m pc' L (.long v :: S)))) : Gl p e below P (T.setTop (mkF m pc L S)) := by
  obtain ⟨meth, c, f0, vm, eT, here, hx, hadm, hZ, hWm, hown, hm, hc, hby, hml, hrt, hlk, hK, hF, hcur⟩ := Y
  subst hp
  exact q.of1 fun t q => XS.lload here hx rfl (hb hby hd) hl q
theorem Lw.land (Y : Ls Z own bs mx ret p l e s T0 m below r K F T) {x y : Int64} {x9 : Int64} (hr : x &&& y = x9) (hd : decode bs pc = .ok (.land, 1)) (hp : pc + 1 = pc') (q : Gl p e below P (T.setTop (mkF m pc' L (.long x9 :: S)))) : Gl p e below P (T.setTop (mkF m pc L (.long y :: .long x :: S))) := by
  obtain ⟨meth, c, f0, vm, eT, here, hx, hadm, hZ, hWm, hown, hm, hc, hby, hml, hrt, hlk, hK, hF, hcur⟩ := Y
  subst hp hr
  exact q.of1 fun t q => XS.land here hx rfl (hb hby hd) rfl q
theorem Lw.lxor (Y : Ls Z own bs mx ret p l e s T0 m below r K F T) {x y : Int64} {x9 : Int64} (hr : x ^^^ y = x9) (hd : decode bs pc = .ok (.lxor, 1)) (hp : pc + 1 = pc') (q : Gl p e below P (T.setTop (mkF m pc' L (.long x9 :: S)))) : Gl p e below P (T.setTop (mkF m pc L (.long y :: .long x :: S))) := by
  obtain ⟨meth, c, f0, vm, eT, here, hx, hadm, hZ, hWm, hown, hm, hc, hby, hml, hrt, hlk, hK, hF, hcur⟩ := Y
  subst hp hr
  exact q.of1 fun t q => XS.lxor here hx rfl (hb hby hd) rfl q
theorem Lw.lshr (Y : Ls Z own bs mx ret p l e s T0 m below r K F T) {x : Int64} {y : Int32} {x9 : Int64} (hr : x >>> (y &&& 0x3f).toInt64 = x9) (hd : decode bs pc = .ok (.lshr, 1)) (hp : pc + 1 = pc') (q : Gl p e below P (T.setTop (mkF m pc' L (.long x9 :: S)))) : Gl p e below P (T.setTop (mkF m pc L (.int y :: .long x :: S))) := by
  obtain ⟨meth, c, f0, vm, eT, here, hx, hadm, hZ, hWm, hown, hm, hc, hby, hml, hrt, hlk, hK, hF, hcur⟩ := Y
  subst hp hr
  exact q.of1 fun t q => XS.lshr here hx rfl (hb hby hd) rfl q
theorem Lw.lsub (Y : Ls Z own bs mx ret p l e s T0 m below r K F T) {x y : Int64} {x9 : Int64} (hr : x - y = x9) (hd : decode bs pc = .ok (.lsub, 1)) (hp : pc + 1 = pc') (q : Gl p e below P (T.setTop (mkF m pc' L (.long x9 :: S)))) : Gl p e below P (T.setTop (mkF m pc L (.long y :: .long x :: S))) := by
  obtain ⟨meth, c, f0, vm, eT, here, hx, hadm, hZ, hWm, hown, hm, hc, hby, hml, hrt, hlk, hK, hF, hcur⟩ := Y
  subst hp hr
  exact q.of1 fun t q => XS.lsub here hx rfl (hb hby hd) rfl q
theorem Lw.l2i (Y : Ls Z own bs mx ret p l e s T0 m below r K F T) {x : Int64} {x9 : Int32} (hr : x.toInt32 = x9) (hd : decode bs pc = .ok (.l2i, 1)) (hp : pc + 1 = pc') (q : Gl p e below P (T.setTop (mkF m pc' L (.int x9 :: S)))) : Gl p e below P (T.setTop (mkF m pc L (.long x :: S))) := by
  obtain ⟨meth, c, f0, vm, eT, here, hx, hadm, hZ, hWm, hown, hm, hc, hby, hml, hrt, hlk, hK, hF, hcur⟩ := Y
  subst hp hr
  exact q.of1 fun t q => XS.l2i here hx rfl (hb hby hd) rfl q
theorem Lw.dcmp (Y : Ls Z own bs mx ret p l e s T0 m below r K F T) {o : CmpOp} {x y : UInt64} {v : Int32} (hv : cmpValue (FP.dcmp x y) o = v) (hd : decode bs pc = .ok (.dcmp o, 1)) (hp : pc + 1 = pc') (q : Gl p e below P (T.setTop (mkF m pc' L (.int v :: S)))) : Gl p e below P (T.setTop (mkF m pc L (.double y :: .double x :: S))) := by
  obtain ⟨meth, c, f0, vm, eT, here, hx, hadm, hZ, hWm, hown, hm, hc, hby, hml, hrt, hlk, hK, hF, hcur⟩ := Y
  subst hp
  exact q.of1 fun t q => XS.dcmpS here hx rfl (hb hby hd) rfl hv q
theorem Lw.dmul (Y : Ls Z own bs mx ret p l e s T0 m below r K F T) {x y : UInt64} (hn : Jvm.Free.Fl.NoNaN64 (FP.dmul x y)) {x9 : UInt64} (hr : FP.dmul x y = x9) (hd : decode bs pc = .ok (.dmul, 1)) (hp : pc + 1 = pc') (q : Gl p e below P (T.setTop (mkF m pc' L (.double x9 :: S)))) : Gl p e below P (T.setTop (mkF m pc L (.double y :: .double x :: S))) := by
  obtain ⟨meth, c, f0, vm, eT, here, hx, hadm, hZ, hWm, hown, hm, hc, hby, hml, hrt, hlk, hK, hF, hcur⟩ := Y
  subst hp hr
  exact q.of1 fun t q => XS.dmulS here hx rfl (hb hby hd) rfl hn rfl q
theorem Lw.dadd (Y : Ls Z own bs mx ret p l e s T0 m below r K F T) {x y : UInt64} (hn : Jvm.Free.Fl.NoNaN64 (FP.dadd x y)) {x9 : UInt64} (hr : FP.dadd x y = x9) (hd : decode bs pc = .ok (.dadd, 1)) (hp : pc + 1 = pc') (q : Gl p e below P (T.setTop (mkF m pc' L (.double x9 :: S)))) : Gl p e below P (T.setTop (mkF m pc L (.double y :: .double x :: S))) := by
  obtain ⟨meth, c, f0, vm, eT, here, hx, hadm, hZ, hWm, hown, hm, hc, hby, hml, hrt, hlk, hK, hF, hcur⟩ := Y
  subst hp hr
  exact q.of1 fun t q => XS.daddS here hx rfl (hb hby hd) rfl hn rfl q
theorem Lw.goto (Y : Ls Z own bs mx ret p l e s T0 m below r K F T) {o : Int} (hd : decode bs pc = .ok (.goto o, 3)) (ho : 0 ≤ (pc : Int) + o) (hp : ((pc : Int) + o).toNat = pc') (q : Gl p e below P (T.setTop (mkF m pc' L S))) : Gl p e below P (T.setTop (mkF m pc L S)) := by
  obtain ⟨meth, c, f0, vm, eT, here, hx, hadm, hZ, hWm, hown, hm, hc, hby, hml, hrt, hlk, hK, hF, hcur⟩ := Y
  exact q.of1 fun t q => XS.goto here hx rfl rfl (hb hby hd) ho hp q
theorem Lw.ifge (Y : Ls Z own bs mx ret p l e s T0 m below r K F T) {x : Int32} {o : Int} (hd : decode bs pc = .ok (.ifCond .ge o, 3)) (ho : 0 ≤ (pc : Int) + o) (ht : ((pc : Int) + o).toNat = pcT) (hf : pc + 3 = pcF) (q1 : ¬ x < 0 → Gl p e below P (T.setTop (mkF m pcT L S))) (q2 : x < 0 → Gl p e below P (T.setTop (mkF m pcF L S))) : Gl p e below P (T.setTop (mkF m pc L (.int x :: S))) := by
  obtain ⟨meth, c, f0, vm, eT, here, hx, hadm, hZ, hWm, hown, hm, hc, hby, hml, hrt, hlk, hK, hF, hcur⟩ := Y
  by_cases hq : ¬ x < 0
  · exact (q1 hq).of1 fun t q => XS.ifYes here hx rfl rfl (hb hby hd) rfl (Jvm.Free.XT.i0_ge_t hq) ho ht q
  · subst hf
    exact (q2 (by first | exact hq | exact Decidable.not_not.mp hq)).of1 fun t q => XS.ifNo here hx rfl (hb hby hd) rfl (Jvm.Free.XT.i0_ge_f (by first | exact hq | exact Decidable.not_not.mp hq)) q
theorem Lw.ifne (Y : Ls Z own bs mx ret p l e s T0 m below r K F T) {x : Int32} {o : Int} (hd : decode bs pc = .ok (.ifCond .ne o, 3)) (ho : 0 ≤ (pc : Int) + o) (ht : ((pc : Int) + o).toNat = pcT) (hf : pc + 3 = pcF) (q1 : ¬ x = 0 → Gl p e below P (T.setTop (mkF m pcT L S))) (q2 : x = 0 → Gl p e below P (T.setTop (mkF m pcF L S))) : Gl p e below P (T.setTop (mkF m pc L (.int x :: S))) := by
  obtain ⟨meth, c, f0, vm, eT, here, hx, hadm, hZ, hWm, hown, hm, hc, hby, hml, hrt, hlk, hK, hF, hcur⟩ := Y
  by_cases hq : ¬ x = 0
  · exact (q1 hq).of1 fun t q => XS.ifYes here hx rfl rfl (hb hby hd) rfl (Jvm.Free.XT.i0_ne_t hq) ho ht q
  · subst hf
    exact (q2 (by first | exact hq | exact Decidable.not_not.mp hq)).of1 fun t q => XS.ifNo here hx rfl (hb hby hd) rfl (Jvm.Free.XT.i0_ne_f (by first | exact hq | exact Decidable.not_not.mp hq)) q
theorem Lw.ifle (Y : Ls Z own bs mx ret p l e s T0 m below r K F T) {x : Int32} {o : Int} (hd : decode bs pc = .ok (.ifCond .le o, 3)) (ho : 0 ≤ (pc : Int) + o) (ht : ((pc : Int) + o).toNat = pcT) (hf : pc + 3 = pcF) (q1 : ¬ 0 < x → Gl p e below P (T.setTop (mkF m pcT L S))) (q2 : 0 < x → Gl p e below P (T.setTop (mkF m pcF L S))) : Gl p e below P (T.setTop (mkF m pc L (.int x :: S))) := by
  obtain ⟨meth, c, f0, vm, eT, here, hx, hadm, hZ, hWm, hown, hm, hc, hby, hml, hrt, hlk, hK, hF, hcur⟩ := Y
  by_cases hq : ¬ 0 < x
  · exact (q1 hq).of1 fun t q => XS.ifYes here hx rfl rfl (hb hby hd) rfl (Jvm.Free.XT.i0_le_t hq) ho ht q
  · subst hf
    exact (q2 (by first | exact hq | exact Decidable.not_not.mp hq)).of1 fun t q => XS.ifNo here hx rfl (hb hby hd) rfl (Jvm.Free.XT.i0_le_f (by first | exact hq | exact Decidable.not_not.mp hq)) q
theorem Lw.icmplt (Y : Ls Z own bs mx ret p l e s T0 m below r K F T) {x y : Int32} {o : Int} (hd : decode bs pc = .ok (.if_icmp .lt o, 3)) (ho : 0 ≤ (pc : Int) + o) (ht : ((pc : Int) + o).toNat = pcT) (hf : pc + 3 = pcF) (q1 : x < y → Gl p e below P (T.setTop (mkF m pcT L S))) (q2 : ¬ x < y → Gl p e below P (T.setTop (mkF m pcF L S))) : Gl p e below P (T.setTop (mkF m pc L (.int y :: .int x :: S))) := by
  obtain ⟨meth, c, f0, vm, eT, here, hx, hadm, hZ, hWm, hown, hm, hc, hby, hml, hrt, hlk, hK, hF, hcur⟩ := Y
  by_cases hq : x < y
  · exact (q1 hq).of1 fun t q => XS.icmpYes here hx rfl rfl (hb hby hd) rfl (Jvm.Free.XT.ii_lt_t hq) ho ht q
  · subst hf
    exact (q2 (by first | exact hq | exact Decidable.not_not.mp hq)).of1 fun t q => XS.icmpNo here hx rfl (hb hby hd) rfl (Jvm.Free.XT.ii_lt_f (by first | exact hq | exact Decidable.not_not.mp hq)) q
theorem Lw.lcmp (Y : Ls Z own bs mx ret p l e s T0 m below r K F T) {x y : Int64} {x9 : Int32} (hr : lcmpW x y = x9) (hd : decode bs pc = .ok (.lcmp, 1)) (hp : pc + 1 = pc') (q : Gl p e below P (T.setTop (mkF m pc' L (.int x9 :: S)))) : Gl p e below P (T.setTop (mkF m pc L (.long y :: .long x :: S))) := by
  obtain ⟨meth, c, f0, vm, eT, here, hx, hadm, hZ, hWm, hown, hm, hc, hby, hml, hrt, hlk, hK, hF, hcur⟩ := Y
  subst hp hr
  exact q.of1 fun t q => XS.lcmp here hx rfl (hb hby hd) rfl q
theorem Lw.lcmpne (Y : Ls Z own bs mx ret p l e s T0 m below r K F T) {x y : Int64} {pc1 : Nat} {o : Int} (hd0 : decode bs pc = .ok (.lcmp, 1)) (hp1 : pc + 1 = pc1) (hd : decode bs pc1 = .ok (.ifCond .ne o, 3)) (ho : 0 ≤ (pc1 : Int) + o) (ht : ((pc1 : Int) + o).toNat = pcT) (hf : pc1 + 3 = pcF) (q1 : ¬ x = y → Gl p e below P (T.setTop (mkF m pcT L S))) (q2 : x = y → Gl p e below P (T.setTop (mkF m pcF L S))) : Gl p e below P (T.setTop (mkF m pc L (.long y :: .long x :: S))) := by
  refine Lw.lcmp Y rfl hd0 hp1 ?_
  obtain ⟨meth, c, f0, vm, eT, here, hx, hadm, hZ, hWm, hown, hm, hc, hby, hml, hrt, hlk, hK, hF, hcur⟩ := Y
  by_cases hq : ¬ x = y
  · exact (q1 hq).of1 fun t q => XS.ifYes here hx rfl rfl (hb hby hd) rfl (Jvm.Free.XT.ll_ne_t hq) ho ht q
  · subst hf
    exact (q2 (by first | exact hq | exact Decidable.not_not.mp hq)).of1 fun t q => XS.ifNo here hx rfl (hb hby hd) rfl (Jvm.Free.XT.ll_ne_f (by first | exact hq | exact Decidable.not_not.mp hq)) q
theorem lw_vm {f : JFrame} {vm : Vm} (eT : T = (T0.setVm vm).setFrames (.java f :: r)) : T.vm = vm := by rw [eT]; rfl
theorem lw_top {f g : JFrame} {vm : Vm} (hcur : T0.cur < T0.threads.size) (eT : T = (T0.setVm vm).setFrames (.java f :: r)) : T.setTop g = (T0.setVm vm).setFrames (.java g :: r) := by
  subst eT
  rw [State.setTop_of_frames g (State.frames_setFrames (s := T0.setVm vm) _ hcur), State.setFrames_setFrames]
theorem lw_fr {f : JFrame} {vm : Vm} (hcur : T0.cur < T0.threads.size) (eT : T = (T0.setVm vm).setFrames (.java f :: r)) : T.frames = .java f :: r := by
  subst eT
  exact State.frames_setFrames (s := T0.setVm vm) _ hcur
theorem lw_at {f : JFrame} {vm vm2 : Vm} (hcur : T0.cur < T0.threads.size) (eT : T = (T0.setVm vm).setFrames (.java f :: r)) (hrun : T0.status = .running) (hrn : T0.curStatus? = some .runnable) (hal : T0.alone = true) (hv2 : s.WarmedH vm2) {y : MethodName} (hpl : plainFor y = true) {m' : MethodId} {meth' : Method} {c' : Code} (hn : s.methodNamed? y = some m') (hm' : s.vm.method? m' = some meth') (hc' : meth'.code = some c') (f2 : JFrame) {r2 : List Frame} (hab : ∃ mid, r2 = mid ++ below) : At ((T0.setVm vm2).setFrames (.java f2 :: r2)) m' c' below := by
  have hF : ((T0.setVm vm2).setFrames (.java f2 :: r2)).frames = .java f2 :: r2 := State.frames_setFrames (s := T0.setVm vm2) _ hcur
  have hm2 : vm2.method? m' = some meth' := by rw [hv2.alike.method?]; exact hm'
  refine ⟨?_, ?_, hrun, ?_, ?_, ?_, ?_⟩
  · rw [Option.isSome_iff_exists]
    exact ⟨f2, State.topJava?_eq_some.mpr ⟨r2, hF⟩⟩
  · obtain ⟨mid, q⟩ := hab
    exact ⟨mid, by rw [hF]; exact q⟩
  · have q : (T0.setVm vm2).curStatus? = some .runnable := hrn
    simpa using q
  · have q : (T0.setVm vm2).alone = true := hal
    simpa using q
  · rw [State.code?_eq]
    show (vm2.method? m').bind _ = _
    rw [hm2]
    exact hc'
  · refine State.plainMethod.of_named (x := y) hpl ?_ hm2
    show (s.setVm vm2).methodNamed? y = some m'
    rw [State.methodNamed?_setVm hv2.alike]
    exact hn
theorem lw_room {f : JFrame} {vm : Vm} (hcur : T0.cur < T0.threads.size) (eT : T = (T0.setVm vm).setFrames (.java f :: r)) (hK : (stackUse r).2 + K ≤ (e.platform.stackLimits T0.me).2) (hF : r.length + F ≤ (e.platform.stackLimits T0.me).1) {g : JFrame} (vars : Nat) (h1 : g.locals.size + 11 + 2 * g.monitorRoom + operandWords g.stack + vars + 11 ≤ K) (h2 : 2 ≤ F) : e.platform.stackFull (((T.setTop g).threads[(T.setTop g).cur]?).getD { frames := [] }) (T.setTop g).frames vars = false := by
  have e1 := lw_top (g := g) hcur eT
  rw [e1]
  have hF1 : ((T0.setVm vm).setFrames (.java g :: r)).frames = .java g :: r := State.frames_setFrames (s := T0.setVm vm) _ hcur
  rw [hF1]
  have e2 : e.platform.stackLimits (((T0.setVm vm).setFrames (.java g :: r)).me) = e.platform.stackLimits T0.me := State.stackLimits_setFrames _ _ _
  refine Platform.stackFull_eq_false ?_ ?_
  · show _ < (e.platform.stackLimits (State.me _)).1
    rw [e2, List.length_cons]
    omega
  · show _ ≤ (e.platform.stackLimits (State.me _)).2
    rw [e2, stackUse_java]
    show (stackUse r).2 + _ + _ + _ ≤ _
    omega
theorem Lw.ldcJ (Y : Ls Z own bs mx ret p l e s T0 m below r K F T) {i : Nat} {v : Int64} (w : (Jvm.Cond.constantLong own i v).before a0 Z = true) (hd : decode bs pc = .ok (.ldc2_w i, 3)) (hp : pc + 3 = pc') (q : Gl p e below P (T.setTop (mkF m pc' L (.long v :: S)))) : Gl p e below P (T.setTop (mkF m pc L S)) := by
  obtain ⟨meth, c, f0, vm, eT, here, hx, hadm, hZ, hWm, hown, hm, hc, hby, hml, hrt, hlk, hK, hF, hcur⟩ := Y
  subst hp
  exact q.of1 fun t q => lw_ldcJ here hx (by rw [lw_vm eT]; exact hWm) hown (mvT (args := #[]) hZ w) (g := mkF m pc L S) rfl (hb hby hd) q
theorem Lw.ldcD (Y : Ls Z own bs mx ret p l e s T0 m below r K F T) {i : Nat} {v : UInt64} (w : (Jvm.Cond.constantDouble own i v).before a0 Z = true) (hd : decode bs pc = .ok (.ldc2_w i, 3)) (hp : pc + 3 = pc') (q : Gl p e below P (T.setTop (mkF m pc' L (.double v :: S)))) : Gl p e below P (T.setTop (mkF m pc L S)) := by
  obtain ⟨meth, c, f0, vm, eT, here, hx, hadm, hZ, hWm, hown, hm, hc, hby, hml, hrt, hlk, hK, hF, hcur⟩ := Y
  subst hp
  exact q.of1 fun t q => lw_ldcD here hx (by rw [lw_vm eT]; exact hWm) hown (mvT (args := #[]) hZ w) (g := mkF m pc L S) rfl (hb hby hd) q
theorem Lw.getS (Y : Ls Z own bs mx ret p l e s T0 m below r K F T) (hh : T0.heap = h) {i : Nat} {R0 O f d : String} {v : Value} (w : (Jvm.Cond.fieldLink own i R0 f d).before a0 Z = true) (via : Via Z R0 O f d) (F9 : Sta Z h O f d v) (hd : decode bs pc = .ok (.getstatic i, 3)) (hp : pc + 3 = pc') (q : ∀ T', Ls Z own bs mx ret p l e s T0 m below r K F T' → Gl p e below P (T'.setTop (mkF m pc' L (v :: S)))) : Gl p e below P (T.setTop (mkF m pc L S)) := by
  obtain ⟨meth, c, f0, vm, eT, here, hx, hadm, hZ, hWm, hown, hm, hc, hby, hml, hrt, hlk, hK, hF, hcur⟩ := Y
  subst hp
  obtain ⟨cf, i1, k1, f1, st, cell, h1, h2, h3, h4, h5, h6, h7⟩ := F9
  obtain ⟨k', hi, ek⟩ := State.fieldFound?_setVm (s := Z) hZ.alike (via _ h1)
  obtain ⟨vm', hW, sp⟩ := lw_getS here hx hadm (by rw [lw_vm eT]; exact hWm) hown (mvT (args := #[]) hZ w) hi h2 (by rw [ek]; exact h3) (a1 := st) (by rw [ek]; exact h4) (by rw [eT]; show T0.heap[st]? = some cell; rw [hh]; exact h5) (fun q => by rw [q] at h6; cases h6) h7 (g := mkF m pc L S) rfl (hb hby hd)
  exact (q (T.setVm vm') ⟨meth, c, f0, vm', by rw [eT]; rfl, here.setVm (by rw [lw_vm eT]; exact hWm.alike.symm.trans hW.alike), hx, hadm, hZ, hW, hown, hm, hc, hby, hml, hrt, hlk, hK, hF, hcur⟩).of1 sp
theorem Lw.dbits (Y : Ls Z own bs mx ret p l e s T0 m below r K F T) {i : Nat} {b : UInt64} {x9 : Int64} (hr : b.toInt64 = x9)  (w1 : (Jvm.Cond.methodLink own i Jvm.doubleToRawLongBitsName).before a0 Z = true) (w2 : (Jvm.Cond.native Jvm.doubleToRawLongBitsName).before a0 Z = true) (w3 : (Jvm.Cond.static Jvm.doubleToRawLongBitsName).before a0 Z = true) (w4 : (Jvm.Cond.initialized "java/lang/Double").before a0 Z = true) (hL : L.size = mx) (h1 : mx + 26 ≤ K) (h2 : 2 ≤ F) (hd : decode bs pc = .ok (.invokestatic i, 3)) (hp : pc + 3 = pc') (q : ∀ T', Ls Z own bs mx ret p l e s T0 m below r K F T' → Gl p e below P (T'.setTop (mkF m pc' L [.long x9]))) : Gl p e below P (T.setTop (mkF m pc L [.double b])) := by
  obtain ⟨meth, c, f0, vm, eT, here, hx, hadm, hZ, hWm, hown, hm, hc, hby, hml, hrt, hlk, hK, hF, hcur⟩ := Y
  subst hp hr
  obtain ⟨rS, kS, mS, hnS, hmS, hkS, N⟩ := NativeOf.of_static (mvT (args := #[]) hZ w2) (mvT (args := #[]) hZ w3) (ps := [.double]) (ret := some .long) (by decide +kernel)
  have hi := Cond.initialized_spec (findClass_of_methodNamed hnS) hkS (mvT (args := #[]) hZ w4)
  obtain ⟨vm', hW, st⟩ := lw_invoke here hx hadm (by rw [lw_vm eT]; exact hWm) hown (mvT (args := #[]) hZ w1) hnS hmS N.static hkS hi (by decide) (g := mkF m pc L [.double b]) rfl (argsL := [.double b]) (rest := []) (by rw [N.sig]; rfl) rfl (hb hby hd)
  obtain ⟨k2, N2⟩ := N.alike hW.alike
  have eT2 : T.setVm vm' = (T0.setVm vm').setFrames (.java f0 :: r) := by rw [eT]; rfl
  have h9 : At (T.setVm vm') m c below := here.setVm (by rw [lw_vm eT]; exact hWm.alike.symm.trans hW.alike)
  refine (q (T.setVm vm') ⟨meth, c, f0, vm', eT2, h9, hx, hadm, hZ, hW, hown, hm, hc, hby, hml, hrt, hlk, hK, hF, hcur⟩).of1 fun t q => st t fun acts => ?_
  exact Steps.doubleToRawLongBitsOf (g := mkF m pc L []) (ig := .invokestatic i) (len := 3) p h9 acts N2 b (lw_room hcur eT2 hK hF _ (by
    rw [show nativeFrameWords "java/lang/Double" "doubleToRawLongBits" 2 = 4 from by decide]
    show L.size + 11 + 2 * 0 + 0 + 4 + 11 ≤ K
    omega) h2) (hb hby hd) q
theorem Lw.lbits (Y : Ls Z own bs mx ret p l e s T0 m below r K F T) {i : Nat} {b : Int64} {x9 : UInt64} (hr : b.toUInt64 = x9) (hq : (b.toUInt64 &&& 0x7fffffffffffffff > 0x7ff0000000000000 && b.toUInt64 &&& 0x0008000000000000 == 0) = false) (w1 : (Jvm.Cond.methodLink own i Jvm.longBitsToDoubleName).before a0 Z = true) (w2 : (Jvm.Cond.native Jvm.longBitsToDoubleName).before a0 Z = true) (w3 : (Jvm.Cond.static Jvm.longBitsToDoubleName).before a0 Z = true) (w4 : (Jvm.Cond.initialized "java/lang/Double").before a0 Z = true) (hL : L.size = mx) (h1 : mx + 26 ≤ K) (h2 : 2 ≤ F) (hd : decode bs pc = .ok (.invokestatic i, 3)) (hp : pc + 3 = pc') (q : ∀ T', Ls Z own bs mx ret p l e s T0 m below r K F T' → Gl p e below P (T'.setTop (mkF m pc' L [.double x9]))) : Gl p e below P (T.setTop (mkF m pc L [.long b])) := by
  obtain ⟨meth, c, f0, vm, eT, here, hx, hadm, hZ, hWm, hown, hm, hc, hby, hml, hrt, hlk, hK, hF, hcur⟩ := Y
  subst hp hr
  obtain ⟨rS, kS, mS, hnS, hmS, hkS, N⟩ := NativeOf.of_static (mvT (args := #[]) hZ w2) (mvT (args := #[]) hZ w3) (ps := [.long]) (ret := some .double) (by decide +kernel)
  have hi := Cond.initialized_spec (findClass_of_methodNamed hnS) hkS (mvT (args := #[]) hZ w4)
  obtain ⟨vm', hW, st⟩ := lw_invoke here hx hadm (by rw [lw_vm eT]; exact hWm) hown (mvT (args := #[]) hZ w1) hnS hmS N.static hkS hi (by decide) (g := mkF m pc L [.long b]) rfl (argsL := [.long b]) (rest := []) (by rw [N.sig]; rfl) rfl (hb hby hd)
  obtain ⟨k2, N2⟩ := N.alike hW.alike
  have eT2 : T.setVm vm' = (T0.setVm vm').setFrames (.java f0 :: r) := by rw [eT]; rfl
  have h9 : At (T.setVm vm') m c below := here.setVm (by rw [lw_vm eT]; exact hWm.alike.symm.trans hW.alike)
  refine (q (T.setVm vm') ⟨meth, c, f0, vm', eT2, h9, hx, hadm, hZ, hW, hown, hm, hc, hby, hml, hrt, hlk, hK, hF, hcur⟩).of1 fun t q => st t fun acts => ?_
  exact Steps.longBitsToDoubleOf (g := mkF m pc L []) (ig := .invokestatic i) (len := 3) p h9 acts N2 b (lw_room hcur eT2 hK hF _ (by
    rw [show nativeFrameWords "java/lang/Double" "longBitsToDouble" 2 = 4 from by decide]
    show L.size + 11 + 2 * 0 + 0 + 4 + 11 ≤ K
    omega) h2) hq (hb hby hd) q
theorem Lw.retD (Y : Ls Z own bs mx (some .double) p l e s T0 m below r K F T) {x : UInt64} {fs : List Frame} (hd : decode bs pc = .ok (.dreturn, 1)) (hfs : ∀ vm', s.WarmedH vm' → handOver (s.setVm vm') (some (.double x)) r = some fs) (q : ∀ vm', s.WarmedH vm' → Gl p e below P ((T0.setVm vm').setFrames fs)) : Gl p e below P (T.setTop (mkF m pc L (.double x :: S))) := by
  obtain ⟨meth, c, f0, vm, eT, here, hx, hadm, hZ, hWm, hown, hm, hc, hby, hml, hrt, hlk, hK, hF, hcur⟩ := Y
  have e1 : T.setFrames fs = (T0.setVm vm).setFrames fs := by rw [eT, State.setFrames_setFrames]
  have hm2 : T.vm.method? m = some meth := by rw [lw_vm eT, hWm.alike.method?]; exact hm
  refine (q vm hWm).of1 fun t q' => Steps.trans (lw_ret here hx hm2 hrt (Or.inr ⟨rfl, rfl, x, rfl⟩) (hb hby hd) (fun f acts h1 h2 h3 => ?_)) (e1 ▸ q')
  exact ret_to (lw_fr hcur eT) (by rw [h1]; exact hm2) hlk h2 h3 (by rw [handOver_of_vm (u := T) (s := s.setVm vm) (lw_vm eT)]; exact hfs vm hWm) acts
theorem Lw.retI (Y : Ls Z own bs mx (some .int) p l e s T0 m below r K F T) {x : Int32} {fs : List Frame} (hd : decode bs pc = .ok (.ireturn, 1)) (hfs : ∀ vm', s.WarmedH vm' → handOver (s.setVm vm') (some (.int x)) r = some fs) (q : ∀ vm', s.WarmedH vm' → Gl p e below P ((T0.setVm vm').setFrames fs)) : Gl p e below P (T.setTop (mkF m pc L (.int x :: S))) := by
  obtain ⟨meth, c, f0, vm, eT, here, hx, hadm, hZ, hWm, hown, hm, hc, hby, hml, hrt, hlk, hK, hF, hcur⟩ := Y
  have e1 : T.setFrames fs = (T0.setVm vm).setFrames fs := by rw [eT, State.setFrames_setFrames]
  have hm2 : T.vm.method? m = some meth := by rw [lw_vm eT, hWm.alike.method?]; exact hm
  refine (q vm hWm).of1 fun t q' => Steps.trans (lw_ret here hx hm2 hrt (Or.inl ⟨rfl, rfl, x, rfl⟩) (hb hby hd) (fun f acts h1 h2 h3 => ?_)) (e1 ▸ q')
  exact ret_to (lw_fr hcur eT) (by rw [h1]; exact hm2) hlk h2 h3 (by rw [handOver_of_vm (u := T) (s := s.setVm vm) (lw_vm eT)]; exact hfs vm hWm) acts
def LMet (Z : State) (own : String) (bs : ByteArray) (mx : Nat) (ret : Option FieldType) (K F : Nat) (L0 : Array Slot) (v : Value) (h : Heap) : Prop :=
  ∀ (p : Program) (l : Launch) (e : Env) (s T0 : State) (m : MethodId) (below r : List Frame) (T : State) (P : Outcome → State → Prop) (fs : List Frame), T0.heap = h → Ls Z own bs mx ret p l e s T0 m below r K F T → (∀ vm', s.WarmedH vm' → handOver (s.setVm vm') (some v) r = some fs) → (∀ vm', s.WarmedH vm' → Gl p e below P ((T0.setVm vm').setFrames fs)) → Gl p e below P (T.setTop (mkF m 0 L0 []))
theorem lw_over {vm : Vm} {meth : Method} (hv : s.WarmedH vm) (hm : s.vm.method? m = some meth) (hc : meth.code = some c) {v : Value} {g : JFrame} (hg : g.method = m) {i : Instr} {n : Nat} (hd : decode c.code g.pc = .ok (i, n)) : handOver (s.setVm vm) (some v) (.java g :: r) = some (.java { g with pc := g.pc + n, stack := v :: g.stack } :: r) := by
  have q : (s.setVm vm).code? g.method = some c := by
    rw [State.code?_eq, hg]
    show (vm.method? m).bind _ = _
    rw [hv.alike.method?, hm]
    exact hc
  simp [handOver, q, hd, Except.toOption]
theorem Lw.callS (Y : Ls Z own bs mx ret p l e s T0 m below r K F T) (hh : T0.heap = h) {i : Nat} {y : MethodName} {bs2 : ByteArray} {mx2 K2 F2 : Nat} {ret2 : Option FieldType} {L2 : Array Slot} {v : Value} {as : Array Value} {argsL : List Value} (w1 : (Jvm.Cond.methodLink own i y).before a0 Z = true) (w2 : (Jvm.Cond.static y).before a0 Z = true) (w3 : (Jvm.Cond.initialized y.cls).before a0 Z = true) (w4 : (Jvm.Cond.code y bs2 mx2 ret2).before a0 Z = true) (hy : y.cls ≠ "java/lang/invoke/MethodHandle" ∧ y.cls ≠ "java/lang/invoke/VarHandle") (hpl : plainFor y = true) (hM : LMet Z y.cls bs2 mx2 ret2 K2 F2 L2 v h) (hef : ∀ m, entryFrame m as mx2 = mkF m 0 L2 []) (has : argsL.toArray = as) (hS : S = argsL.reverse) (hlen : ∀ sig, parseMethodDescriptor y.desc = some sig → argsL.length = sig.parameters.length) (hL : L.size = mx) (h1 : mx + 11 + K2 ≤ K) (h2 : mx2 + 11 ≤ K2) (h3 : F2 + 1 ≤ F) (h4 : 1 ≤ F2) (hd : decode bs pc = .ok (.invokestatic i, 3)) (hp : pc + 3 = pc') (q : ∀ T', Ls Z own bs mx ret p l e s T0 m below r K F T' → Gl p e below P (T'.setTop (mkF m (pc + 3) L [v]))) : Gl p e below P (T.setTop (mkF m pc L S)) := by
  obtain ⟨meth, c, f0, vm, eT, here, hx, hadm, hZ, hWm, hown, hm, hc, hby, hml, hrt, hlk, hK, hF, hcur⟩ := Y
  subst hp has hS
  have w4' := mvT (args := #[]) hZ w4
  obtain ⟨m', hn⟩ := Cond.code_named w4'
  obtain ⟨meth', c', hm', hc', hby', hml', hrt', hlk', -, hsig'⟩ := Cond.code_spec hn w4'
  obtain ⟨k', hk', -⟩ := className_of_methodNamed hn
  have hi := Cond.initialized_spec (findClass_of_methodNamed hn) hk' (mvT (args := #[]) hZ w3)
  obtain ⟨vm', hW, st⟩ := lw_invoke here hx hadm (by rw [lw_vm eT]; exact hWm) hown (mvT (args := #[]) hZ w1) hn hm' (Cond.static_spec hn hm' (mvT (args := #[]) hZ w2)) hk' hi hy (g := mkF m pc L argsL.reverse) rfl (argsL := argsL) (rest := []) (hlen _ hsig') (by simp) (hb hby hd)
  have eT2 : T.setVm vm' = (T0.setVm vm').setFrames (.java f0 :: r) := by rw [eT]; rfl
  have h9 : At (T.setVm vm') m c below := here.setVm (by rw [lw_vm eT]; exact hWm.alike.symm.trans hW.alike)
  have hfull := lw_room (g := mkF m pc L []) hcur eT2 hK hF mx2 (by
    show L.size + 11 + 2 * 0 + 0 + mx2 + 11 ≤ K
    omega) (by omega)
  have hrun : T0.status = .running := by have q := here.running; rw [eT] at q; exact q
  have hrn : T0.curStatus? = some .runnable := by have q := here.runnable; rw [eT] at q; simpa using q
  have hal : T0.alone = true := by have q := here.alone; rw [eT] at q; simpa using q
  have hab : ∃ mid, r = mid ++ below := by
    obtain ⟨mid, q⟩ := here.above
    rw [lw_fr hcur eT] at q
    exact ⟨mid, q⟩
  have hin : ∀ acts, (doInvoke e ((T.setVm vm').setTop (mkF m pc L [])) acts m' argsL.toArray).1 = (T0.setVm vm').setFrames (.java (mkF m' 0 L2 []) :: .java (mkF m pc L []) :: r) := fun acts => by
    rw [(doInvoke_java (s := (T.setVm vm').setTop (mkF m pc L [])) (e := e) (acts := acts) (args := argsL.toArray) (meth := meth') (code := c') (by show vm'.method? m' = _; rw [hW.alike.method?]; exact hm') hc' hlk' (by rw [hml']; exact hfull)).1, hml']
    rw [State.pushFrame, lw_top hcur eT2, State.frames_setFrames (s := T0.setVm vm') _ hcur, State.setFrames_setFrames]
    have q := hef m'
    rw [← q]
    rfl
  refine Gl.of1 (fun t q => st t fun acts => by rw [hin acts]; exact q) ?_
  have hB := lw_at (y := y) hcur eT hrun hrn hal hW hpl hn hm' hc' (mkF m' 0 L2 []) (r2 := .java (mkF m pc L []) :: r) (by obtain ⟨mid, q⟩ := hab; exact ⟨.java (mkF m pc L []) :: mid, congrArg (List.cons _) q⟩)
  have q1 := hM p l e s T0 m' below (.java (mkF m pc L []) :: r) ((T0.setVm vm').setFrames (.java (mkF m' 0 L2 []) :: .java (mkF m pc L []) :: r)) P (.java (mkF m (pc + 3) L [v]) :: r) hh
    ⟨meth', c', mkF m' 0 L2 [], vm', rfl, hB, hx, hadm, hZ, hW, findClass_of_methodNamed hn, hm', hc', hby', hml', hrt', hlk', by
      rw [stackUse_java]
      show (stackUse r).2 + (L.size + 11 + 2 * 0 + 0) + K2 ≤ _
      omega, by rw [List.length_cons]; omega, hcur⟩
    (fun vm2 h2 => lw_over (g := mkF m pc L []) h2 hm hc rfl (hb hby hd))
    (fun vm2 h2 => by
      have q2 := q ((T0.setVm vm2).setFrames (.java f0 :: r)) ⟨meth, c, f0, vm2, rfl, by
        have q3 := here.setVm (vm' := vm2) (by rw [lw_vm eT]; exact hWm.alike.symm.trans h2.alike)
        rw [eT] at q3
        exact q3, hx, hadm, hZ, h2, hown, hm, hc, hby, hml, hrt, hlk, hK, hF, hcur⟩
      rw [lw_top hcur rfl] at q2
      exact q2)
  rw [lw_top hcur rfl] at q1
  exact q1
theorem Lw.ceil {n0 : Nat} {R : Room} {meth : Method} {k n : Nat} (Y : Jvm.OwnWk.Sd Z own bs mx ret n0 p l e R s m args below meth c T h k n) {i : Nat} {b v : UInt64} {bsM bsS : ByteArray} (w1 : (Jvm.Cond.methodLink own i (⟨"java/lang/Math", "ceil", "(D)D"⟩ : MethodName)).before a0 Z = true) (w2 : (Jvm.Cond.static (⟨"java/lang/Math", "ceil", "(D)D"⟩ : MethodName)).before a0 Z = true) (w3 : (Jvm.Cond.initialized "java/lang/Math").before a0 Z = true) (w4 : (Jvm.Cond.code (⟨"java/lang/Math", "ceil", "(D)D"⟩ : MethodName) bsM 2 (some .double)).before a0 Z = true) (w5 : (Jvm.Cond.code (⟨"java/lang/StrictMath", "ceil", "(D)D"⟩ : MethodName) bsS 2 (some .double)).before a0 Z = true) (w6 : (Jvm.Cond.initialized "java/lang/StrictMath").before a0 Z = true) (hpl : plainFor (⟨"java/lang/StrictMath", "ceil", "(D)D"⟩ : MethodName) = true) (hM : LMet Z "java/lang/StrictMath" bsS 2 (some .double) K F #[.val (.double b), .second] (.double v) h) (hnn : v &&& 0x7fffffffffffffff ≤ 0x7ff0000000000000) (hK : K ≤ 1000) (hK2 : 13 ≤ K) (hF : F + 1 ≤ R.frames) (hF2 : 1 ≤ F) (hL : L.size = mx) (hl : 13 ≤ R.locals) (hd : decode bs pc = .ok (.invokestatic i, 3)) (hp : pc + 3 = pc') (q : ∀ T', Jvm.OwnWk.Sd Z own bs mx ret n0 p l e R s m args below meth c T' h k n → Gl p e below P (T'.setTop (mkF m pc' L [.double v]))) : Gl p e below P (T.setTop (mkF m pc L [.double b])) := by
  obtain ⟨locs, X, eT, N, hn0, hx, hZ, hown, hby, hml, hrt, hlk⟩ := Y
  subst hp
  have w4' := mvT (args := #[]) hZ w4
  obtain ⟨mM, hnM⟩ := Cond.code_named w4'
  obtain ⟨meM, cM, hmM, hcM, -, hmlM, -, hlkM, -, hsgM⟩ := Cond.code_spec hnM w4'
  obtain ⟨kM, hkM, -⟩ := className_of_methodNamed hnM
  have hiM := Cond.initialized_spec (findClass_of_methodNamed hnM) hkM (mvT (args := #[]) hZ w3)
  have hsg2 : parseMethodDescriptor "(D)D" = some { parameters := [.double], returnType := some .double } := by decide +kernel
  have hpar : meM.sig = { parameters := [.double], returnType := some .double } := Option.some.inj (hsgM.symm.trans hsg2)
  obtain ⟨vm1, X1, st1⟩ := X.invokestatic hx hown (mvT hZ w1) hnM hmM (Cond.static_spec hnM hmM (mvT (args := #[]) hZ w2)) hkM hiM (by decide) (g := mkF m pc L [.double b]) rfl (argsL := [.double b]) (rest := []) (by rw [hpar]; rfl) rfl (hb hby hd)
  have eT1 : (T.setVm vm1).heap = h := eT
  generalize T.setVm vm1 = T1 at X1 st1 eT1
  have hn1 : T1.methodNamed? (⟨"java/lang/Math", "ceil", "(D)D"⟩ : MethodName) = some mM := by
    show (s.setVm T1.vm).methodNamed? _ = _
    rw [State.methodNamed?_setVm X1.warmed.alike]
    exact hnM
  have hm1 : T1.vm.method? mM = some meM := by rw [X1.warmed.alike.method?]; exact hmM
  obtain ⟨k1, hk1, hk1n⟩ := className_of_methodNamed hn1
  obtain ⟨hmn, hmd⟩ := name_of_methodNamed hn1 hm1
  have hx1 : k1.methods[mM.idx]? = some meM := by simpa [Vm.method?, hk1] using hm1
  have hb1 : k1.loader = none := Vm.bootOf_findClass (findClass_of_methodNamed hn1) hk1
  have w5' := mvT (args := #[]) hZ w5
  obtain ⟨mS, hnS⟩ := Cond.code_named w5'
  obtain ⟨meS, cS, hmS, hcS, hbyS, hmlS, hrtS, hlkS, -, -⟩ := Cond.code_spec hnS w5'
  have hnS1 : T1.methodNamed? (⟨"java/lang/StrictMath", "ceil", "(D)D"⟩ : MethodName) = some mS := by
    show (s.setVm T1.vm).methodNamed? _ = _
    rw [State.methodNamed?_setVm X1.warmed.alike]
    exact hnS
  obtain ⟨kS, hkS, -⟩ := className_of_methodNamed hnS1
  have hfS : T1.vm.findClass "java/lang/StrictMath" = some mS.cls := findClass_of_methodNamed hnS1
  have hiS : kS.init = .initialized := by
    obtain ⟨k0, hk0, -⟩ := className_of_methodNamed hnS
    have q0 := Cond.initialized_spec (findClass_of_methodNamed hnS) hk0 (mvT (args := #[]) hZ w6)
    obtain ⟨k2, hk2, ek⟩ := X1.warmed.alike.2.2 _ _ hk0
    cases hk2.symm.trans hkS
    rw [ek]
    exact q0
  have hfm : kS.findMethod "ceil" "(D)D" = some mS.idx := by
    have q0 : ((T1.vm.findClass "java/lang/StrictMath").bind fun c => (T1.vm.classes[c]?).bind fun k => (k.findMethod "ceil" "(D)D").bind fun i => some (⟨c, i⟩ : MethodId)) = some mS := hnS1
    rw [hfS, Option.bind_some, hkS, Option.bind_some] at q0
    cases q1 : kS.findMethod "ceil" "(D)D" with
    | none => rw [q1] at q0; cases q0
    | some j => rw [q1, Option.bind_some] at q0; rw [← Option.some.inj q0]
  obtain ⟨g0, hfr⟩ := X1.frames_eq
  have hcur : T1.cur < T1.threads.size := State.cur_lt_of_frames hfr
  have htop : ∀ g : JFrame, T1.setTop g = T1.setFrames (.java g :: below) := fun g => State.setTop_of_frames _ hfr
  obtain ⟨-, r2, -, r4⟩ := State.hasRoom_stack X1.room
  rw [State.localsInUse_invoking X1.frames X1.method X1.code] at r4
  rw [X1.frames, List.length_cons] at r2
  have hw := stackUse_le_stackWeight below
  have hlim := X1.limits
  have hvm : vmFrameWords = 1024 := rfl
  have hsz : L.size = c.maxLocals := by rw [hml]; exact hL
  have hfull := X1.notFull (g := mkF m pc L []) hsz (vars := 2) (by omega) (by
    show 2 * 0 + 0 + (2 + 11) ≤ R.locals
    omega)
  have hin : ∀ acts, (doInvoke e (T1.setTop (mkF m pc L [])) acts mM #[.double b]).1 = T1.setFrames (.java (entryFrame mM #[.double b] 2) :: .java (mkF m pc L []) :: below) := fun acts => by
    rw [(doInvoke_java (s := T1.setTop (mkF m pc L [])) (e := e) (acts := acts) (args := #[.double b]) (meth := meM) (code := cM) hm1 hcM hlkM (by rw [hmlM]; exact hfull)).1, hmlM, State.pushFrame, htop, State.frames_setFrames _ hcur, State.setFrames_setFrames]
    rfl
  have hf1 := State.frames_setFrames (s := T1) (.java (entryFrame mM #[.double b] 2) :: .java (mkF m pc L []) :: below) hcur
  have hov : overridden p.tables e (T1.setFrames (.java (entryFrame mM #[.double b] 2) :: .java (mkF m pc L []) :: below)) (entryFrame mM #[.double b] 2) = some Jvm.Free.Hsc.ceilRow :=
    Jvm.Free.Fl.Abs.overridden_some (k := k1) (x := meM) rfl hk1 (by rw [hk1n]; decide) hb1 hx1 (by rw [hk1n, hmn, hmd]; exact Jvm.Free.Hsc.ceil_row p)
  obtain ⟨acts2, hr2⟩ := Jvm.Free.Hsc.ceil_run b e (T1.setFrames (.native { method := mM, args := #[.double b] } :: .java (mkF m pc L []) :: below)) (cS := mS.cls) (kS := kS) (i := mS.idx) hfS hkS hiS hfm
  have hst2 : (stepThread p.tables e (T1.setFrames (.java (entryFrame mM #[.double b] 2) :: .java (mkF m pc L []) :: below))).1 = (doInvoke e (T1.setFrames (.native { method := mM, args := #[.double b], stage := 1, saved := #[], awaiting := true, answer := none, words := 0 } :: .java (mkF m pc L []) :: below)) acts2 mS #[.double b]).1 := by
    unfold stepThread
    simp only [hf1, hov]
    have q1 : (T1.vm.classes[mM.cls]?.bind fun x => x.methods[mM.idx]?) = some meM := by simp [hk1, hx1]
    have q2 : ((T1.vm.classes[mM.cls]?).bind fun k => Option.map (fun n => upcallWords k.name n.name) k.methods[mM.idx]?).getD 0 = 0 := by simp [hk1, hx1, hk1n, hmn, upcallWords]
    have q3 : ∀ n : Nat, List.take (1 + n) [Value.double b] = [Value.double b] := fun n => List.take_of_length_le (Nat.le_add_right 1 n)
    simp [entryFrame, argsToLocals, Value.category, argCount, q1, q2, q3, hpar, hr2, afterNative, State.setFrames_setFrames]
  have hfN := State.frames_setFrames (s := T1) (.native { method := mM, args := #[.double b], stage := 1, saved := #[], awaiting := true, answer := none, words := 0 } :: .java (mkF m pc L []) :: below) hcur
  have hsu : stackUse (.native { method := mM, args := #[.double b], stage := 1, saved := #[], awaiting := true, answer := none, words := 0 } :: .java (mkF m pc L []) :: below) = ((stackUse below).1 + 1 + 1, (stackUse below).2 + (L.size + 11 + 2 * 0 + 0)) := by
    rw [stackUse_light _ _ (fun f q => by cases q) rfl, stackUse_java]
    rfl
  have hlm2 : ∀ fs, e.platform.stackLimits (T1.setFrames fs).me = e.platform.stackLimits s.me := fun fs => by rw [State.stackLimits_setFrames]; exact hlim
  have hfull2 : e.platform.stackFull (((T1.setFrames (.native { method := mM, args := #[.double b], stage := 1, saved := #[], awaiting := true, answer := none, words := 0 } :: .java (mkF m pc L []) :: below)).threads[(T1.setFrames (.native { method := mM, args := #[.double b], stage := 1, saved := #[], awaiting := true, answer := none, words := 0 } :: .java (mkF m pc L []) :: below)).cur]?).getD { frames := [] }) (T1.setFrames (.native { method := mM, args := #[.double b], stage := 1, saved := #[], awaiting := true, answer := none, words := 0 } :: .java (mkF m pc L []) :: below)).frames 2 = false := by
    rw [hfN]
    refine Platform.stackFull_eq_false ?_ ?_
    · show _ < (e.platform.stackLimits (State.me _)).1
      rw [hlm2, List.length_cons, List.length_cons]
      omega
    · show _ ≤ (e.platform.stackLimits (State.me _)).2
      rw [hlm2, hsu]
      show (stackUse below).2 + (L.size + 11 + 2 * 0 + 0) + 2 + 11 ≤ _
      omega
  have hmS1 : T1.vm.method? mS = some meS := by rw [X1.warmed.alike.method?]; exact hmS
  have hin2 : (doInvoke e (T1.setFrames (.native { method := mM, args := #[.double b], stage := 1, saved := #[], awaiting := true, answer := none, words := 0 } :: .java (mkF m pc L []) :: below)) acts2 mS #[.double b]).1 = (T1.setVm T1.vm).setFrames (.java (mkF mS 0 #[.val (.double b), .second] []) :: .native { method := mM, args := #[.double b], stage := 1, saved := #[], awaiting := true, answer := none, words := 0 } :: .java (mkF m pc L []) :: below) := by
    rw [(doInvoke_java (s := T1.setFrames (.native { method := mM, args := #[.double b], stage := 1, saved := #[], awaiting := true, answer := none, words := 0 } :: .java (mkF m pc L []) :: below)) (e := e) (acts := acts2) (args := #[.double b]) (meth := meS) (code := cS) hmS1 hcS hlkS (by rw [hmlS]; exact hfull2)).1, hmlS, State.pushFrame, hfN, State.setFrames_setFrames]
    rfl
  have hrun := X1.here.running
  have hrn := X1.here.runnable
  have hal := X1.here.alone
  refine Gl.of1 (B := T1.setFrames (.java (entryFrame mM #[.double b] 2) :: .java (mkF m pc L []) :: below)) (fun t q => st1 t fun acts => by rw [show ({ mkF m pc L [.double b] with stack := [] } : JFrame) = mkF m pc L [] from rfl]; exact (hin acts).symm ▸ q) ?_
  refine Gl.of1 (B := (T1.setVm T1.vm).setFrames (.java (mkF mS 0 #[.val (.double b), .second] []) :: .native { method := mM, args := #[.double b], stage := 1, saved := #[], awaiting := true, answer := none, words := 0 } :: .java (mkF m pc L []) :: below)) (fun t q => Steps.head ⟨hrun, by simpa using hrn, by simpa using hal⟩ ⟨[.java (entryFrame mM #[.double b] 2), .java (mkF m pc L [])], by rw [hf1]; rfl, by simp, by simp⟩ (by rw [hst2, hin2]; exact q)) ?_
  have hB := lw_at (T := (T1.setVm T1.vm).setFrames (.java (mkF mS 0 #[.val (.double b), .second] []) :: below)) (f := mkF mS 0 #[.val (.double b), .second] []) (vm := T1.vm) (r := below) (y := (⟨"java/lang/StrictMath", "ceil", "(D)D"⟩ : MethodName)) hcur rfl hrun hrn hal X1.warmed hpl hnS hmS hcS (mkF mS 0 #[.val (.double b), .second] []) (r2 := .native { method := mM, args := #[.double b], stage := 1, saved := #[], awaiting := true, answer := none, words := 0 } :: .java (mkF m pc L []) :: below) ⟨[.native { method := mM, args := #[.double b], stage := 1, saved := #[], awaiting := true, answer := none, words := 0 }, .java (mkF m pc L [])], rfl⟩
  have q1 := hM p l e s T1 mS below (.native { method := mM, args := #[.double b], stage := 1, saved := #[], awaiting := true, answer := none, words := 0 } :: .java (mkF m pc L []) :: below) ((T1.setVm T1.vm).setFrames (.java (mkF mS 0 #[.val (.double b), .second] []) :: .native { method := mM, args := #[.double b], stage := 1, saved := #[], awaiting := true, answer := none, words := 0 } :: .java (mkF m pc L []) :: below)) P (.native { method := mM, args := #[.double b], stage := 1, saved := #[], awaiting := false, answer := some (.returned (some (.double v))), words := 0 } :: .java (mkF m pc L []) :: below) eT1
    ⟨meS, cS, mkF mS 0 #[.val (.double b), .second] [], T1.vm, rfl, hB, hx, X1.admits, hZ, X1.warmed, findClass_of_methodNamed hnS, hmS, hcS, hbyS, hmlS, hrtS, hlkS, by
      rw [hsu, hlim]
      show (stackUse below).2 + (L.size + 11 + 2 * 0 + 0) + K ≤ _
      omega, by rw [hlim, List.length_cons, List.length_cons]; omega, hcur⟩
    (fun vm2 h2 => rfl)
    (fun vm2 h2 => by
      have hf4 := State.frames_setFrames (s := T1.setVm vm2) (.native { method := mM, args := #[.double b], stage := 1, saved := #[], awaiting := false, answer := some (.returned (some (.double v))), words := 0 } :: .java (mkF m pc L []) :: below) hcur
      have hn4 : (s.setVm vm2).methodNamed? (⟨"java/lang/Math", "ceil", "(D)D"⟩ : MethodName) = some mM := by rw [State.methodNamed?_setVm h2.alike]; exact hnM
      have hm4 : (s.setVm vm2).vm.method? mM = some meM := by show vm2.method? mM = _; rw [h2.alike.method?]; exact hmM
      obtain ⟨k4, hk4, hk4n⟩ := className_of_methodNamed hn4
      have hk5 : vm2.classes[mM.cls]? = some k4 := hk4
      have hm5 : vm2.method? mM = some meM := hm4
      have hx4 : k4.methods[mM.idx]? = some meM := by simpa [Vm.method?, hk5] using hm5
      have hb4 : k4.loader = none := Vm.bootOf_findClass (findClass_of_methodNamed hn4) hk4
      obtain ⟨acts3, hr3⟩ := Jvm.Free.Hsc.ceil_resume hnn e ((T1.setVm vm2).setFrames (.native { method := mM, args := #[.double b], stage := 1, saved := #[], awaiting := false, answer := some (.returned (some (.double v))), words := 0 } :: .java (mkF m pc L []) :: below))
      have ho : handOver ((T1.setVm vm2).setFrames (.native { method := mM, args := #[.double b], stage := 1, saved := #[], awaiting := false, answer := some (.returned (some (.double v))), words := 0 } :: .java (mkF m pc L []) :: below)) (some (.double v)) (.java (mkF m pc L []) :: below) = some (.java (mkF m (pc + 3) L [.double v]) :: below) := by
        rw [handOver_of_vm (u := (T1.setVm vm2).setFrames (.native { method := mM, args := #[.double b], stage := 1, saved := #[], awaiting := false, answer := some (.returned (some (.double v))), words := 0 } :: .java (mkF m pc L []) :: below)) (s := s.setVm vm2) rfl]
        exact lw_over (g := mkF m pc L []) h2 X.method X.code rfl (hb hby hd)
      have hs4 : (stepThread p.tables e ((T1.setVm vm2).setFrames (.native { method := mM, args := #[.double b], stage := 1, saved := #[], awaiting := false, answer := some (.returned (some (.double v))), words := 0 } :: .java (mkF m pc L []) :: below))).1 = (T1.setVm vm2).setFrames (.java (mkF m (pc + 3) L [.double v]) :: below) := by
        rw [Jvm.Free.Hsc.stepThread_resumed' (f := { method := mM, args := #[.double b], stage := 1, saved := #[], awaiting := false, answer := some (.returned (some (.double v))), words := 0 }) (o := .returned (some (.double v))) hf4 hk4 hb4 hx4 (by rw [hk4n, hmn, hmd]; exact Jvm.Free.Hsc.ceil_row p) rfl]
        show (afterNative e _ _ ((Jvm.Free.Hsc.ceilRow.resume 1 #[] (.returned (some (.double v)))).run e _)).1 = _
        rw [hr3]
        have q5 := doReturn_native (e := e) (acts := acts3) (f := { method := mM, args := #[.double b], stage := 1, saved := #[], awaiting := false, answer := some (.returned (some (.double v))), words := 0 }) hf4 rfl ho
        rw [State.setFrames_setFrames] at q5
        exact q5
      have q2 := q (T1.setVm vm2) ⟨locs, X1.noted h2, eT1, N, hn0, hx, hZ, hown, hby, hml, hrt, hlk⟩
      rw [State.setTop_of_frames (s := T1.setVm vm2) _ hfr] at q2
      exact q2.of1 fun t q => Steps.head ⟨hrun, by have q6 : (T1.setVm vm2).curStatus? = some .runnable := hrn; simpa using q6, by have q6 : (T1.setVm vm2).alone = true := hal; simpa using q6⟩ ⟨[.native { method := mM, args := #[.double b], stage := 1, saved := #[], awaiting := false, answer := some (.returned (some (.double v))), words := 0 }, .java (mkF m pc L [])], by rw [hf4]; rfl, by simp, by simp⟩ (by rw [hs4]; exact q))
  rw [lw_top (T0 := T1) (f := mkF mS 0 #[.val (.double b), .second] []) hcur rfl] at q1
  exact q1
end Low
end Jvm.OwnLw


namespace Jvm.Pilot.@@N@@
open Jvm Jvm.ClassFile Sem Op Lib Jvm.Free Jvm.Stand Jvm.LawKit Jvm.RoadKit Bundle Jvm.OwnWk Jvm.OwnLw Jvm.Pilot.@@N@@.Jvm.D
theorem nle {a b : Nat} (h : Nat.ble a b = true) : a ≤ b := Nat.le_of_ble_eq_true h
variable (l : Launch) (Z : State) (a0 : Array Value)
abbrev HW (a0 : Array Value) (Z : State) : Prop := ∀ d ∈ tables_1, d.before a0 Z = true
abbrev dq (x : Int64) : UInt64 := FP.ddiv (FP.l2d x) (4696837146684686336 : UInt64)
theorem own_nn (x : Int64) : Jvm.Free.Fl.NoNaN64 (FP.ddiv (FP.l2d x) (4696837146684686336 : UInt64)) := Jvm.Free.Fl.ddiv_out (Jvm.Free.Fl.l2d_fin x).noNaN (by unfold Jvm.Free.Fl.Fin64; decide) (by unfold Jvm.Free.Fl.Nz64; decide)
theorem own_dc {x y : Int64} (h : x = y) : cmpValue (FP.dcmp (dq x) (dq y)) .l = 0 := by
  subst h
  rw [show FP.dcmp (dq x) (dq x) = some .eq from FP.Core.dcmp_self (Jvm.Free.Fl.val64_no.mp (own_nn x))]
  rfl
def S2 (x0 x1 r0 r1 : Int64) : Prop := r0.toInt ≤ r1.toInt ∧ ((r0.toInt = x0.toInt ∧ r1.toInt = x1.toInt) ∨ (r0.toInt = x1.toInt ∧ r1.toInt = x0.toInt))
def S3 (x0 x1 x2 r0 r1 r2 : Int64) : Prop := (r0.toInt ≤ r1.toInt ∧ r1.toInt ≤ r2.toInt) ∧ r0.toInt + r1.toInt + r2.toInt = x0.toInt + x1.toInt + x2.toInt ∧ (r0.toInt ≤ x0.toInt ∧ r0.toInt ≤ x1.toInt ∧ r0.toInt ≤ x2.toInt ∧ (r0.toInt = x0.toInt ∨ r0.toInt = x1.toInt ∨ r0.toInt = x2.toInt)) ∧ (x0.toInt ≤ r2.toInt ∧ x1.toInt ≤ r2.toInt ∧ x2.toInt ≤ r2.toInt ∧ (r2.toInt = x0.toInt ∨ r2.toInt = x1.toInt ∨ r2.toInt = x2.toInt))
def Mn (a b m : Int64) : Prop := (m.toInt = a.toInt ∧ a.toInt ≤ b.toInt) ∨ (m.toInt = b.toInt ∧ b.toInt < a.toInt)
def Mx (a b m : Int64) : Prop := (m.toInt = a.toInt ∧ b.toInt ≤ a.toInt) ∨ (m.toInt = b.toInt ∧ a.toInt < b.toInt)
theorem own_2lo {a b r0 r1 u : Int64} (h : S2 a b r0 r1) (k : Mn a b u) : r0 = u := by
  unfold S2 at h
  unfold Mn at k
  exact Int64.toInt_inj.mp (by omega)
theorem own_2hi {a b r0 r1 u : Int64} (h : S2 a b r0 r1) (k : Mx a b u) : r1 = u := by
  unfold S2 at h
  unfold Mx at k
  exact Int64.toInt_inj.mp (by omega)
theorem own_3lo {a b c r0 r1 r2 u v : Int64} (h : S3 a b c r0 r1 r2) (k : Mn a b u) (k2 : Mn u c v) : r0 = v := by
  obtain ⟨⟨h1, h2⟩, h3, ⟨h4, h5, h6, h7⟩, h8⟩ := h
  unfold Mn at k k2
  clear h3 h8
  exact Int64.toInt_inj.mp (by omega)
theorem own_3hi {a b c r0 r1 r2 u v : Int64} (h : S3 a b c r0 r1 r2) (k : Mx a b u) (k2 : Mx u c v) : r2 = v := by
  obtain ⟨⟨h1, h2⟩, h3, -, h4, h5, h6, h7⟩ := h
  unfold Mx at k k2
  clear h3
  exact Int64.toInt_inj.mp (by omega)
theorem own_3md {a b c r0 r1 r2 u v w z : Int64} (h : S3 a b c r0 r1 r2) (k : Mn a b u) (k2 : Mx a b v) (k3 : Mn v c w) (k4 : Mx u w z) : r1 = z := by
  obtain ⟨⟨h1, h2⟩, h3, ⟨h4, h5, h6, h7⟩, h8, h9, h10, h11⟩ := h
  unfold Mn at k k3
  unfold Mx at k2 k4
  exact Int64.toInt_inj.mp (by omega)
theorem own_k3 {a v : Int32} (h : a &&& (3 : Int32) = v) : v = 0 ∨ v = 1 ∨ v = 2 ∨ v = 3 := by
  have q := c_mask a (3 : Int32) 2 (by decide) (by decide)
  rw [h] at q
  exact own_c3 (by omega) (by omega)
theorem dA_0 : decode prog_21_method_1_code 0 = .ok (.aload_n 0, 1) := by decide +kernel
theorem dA_1 : decode prog_21_method_1_code 1 = .ok (.invokespecial 1, 3) := by decide +kernel
theorem tw_6 {a0 : Array Value} {Z : State} (hw : HW a0 Z) : (Jvm.Cond.methodLink "com/example/impatiens/impatiens/loadtool/Latencies" (1 : Nat) ({ cls := "java/lang/Object", name := "<init>", desc := "()V" } : Jvm.MethodName)).before a0 Z = true := hw _ (List.mem_of_getElem? (i := 6) rfl)
theorem tw_7 {a0 : Array Value} {Z : State} (hw : HW a0 Z) : (Jvm.Cond.instanceMethod ({ cls := "java/lang/Object", name := "<init>", desc := "()V" } : Jvm.MethodName)).before a0 Z = true := hw _ (List.mem_of_getElem? (i := 7) rfl)
theorem tw_8 {a0 : Array Value} {Z : State} (hw : HW a0 Z) : (Jvm.Cond.code ({ cls := "java/lang/Object", name := "<init>", desc := "()V" } : Jvm.MethodName) object_method_1_code (1 : Nat) (Option.none : Option Jvm.ClassFile.FieldType)).before a0 Z = true := hw _ (List.mem_of_getElem? (i := 8) rfl)
theorem dA_4 : decode prog_21_method_1_code 4 = .ok (.aload_n 0, 1) := by decide +kernel
theorem dA_5 : decode prog_21_method_1_code 5 = .ok (.sipush 1024, 3) := by decide +kernel
theorem dA_8 : decode prog_21_method_1_code 8 = .ok (.newarray .long, 2) := by decide +kernel
theorem tw_9 {a0 : Array Value} {Z : State} (hw : HW a0 Z) : (Jvm.Cond.arrayClass Jvm.ClassFile.FieldType.long).before a0 Z = true := hw _ (List.mem_of_getElem? (i := 9) rfl)
theorem dA_10 : decode prog_21_method_1_code 10 = .ok (.putfield 7, 3) := by decide +kernel
theorem tw_10 {a0 : Array Value} {Z : State} (hw : HW a0 Z) : (Jvm.Cond.fieldLink "com/example/impatiens/impatiens/loadtool/Latencies" (7 : Nat) "com/example/impatiens/impatiens/loadtool/Latencies" "nanos" "[J").before a0 Z = true := hw _ (List.mem_of_getElem? (i := 10) rfl)
theorem tw_11 {a0 : Array Value} {Z : State} (hw : HW a0 Z) : (Jvm.Cond.lays "com/example/impatiens/impatiens/loadtool/Latencies" "com/example/impatiens/impatiens/loadtool/Latencies" "nanos" "[J").before a0 Z = true := hw _ (List.mem_of_getElem? (i := 11) rfl)
theorem tw_1 {a0 : Array Value} {Z : State} (hw : HW a0 Z) : (Jvm.Cond.instantiable "com/example/impatiens/impatiens/loadtool/Latencies" (2 : Nat)).before a0 Z = true := hw _ (List.mem_of_getElem? (i := 1) rfl)
theorem dA_13 : decode prog_21_method_1_code 13 = .ok (.return_, 1) := by decide +kernel
theorem tw_18 {a0 : Array Value} {Z : State} (hw : HW a0 Z) : (Jvm.Cond.lays "com/example/impatiens/impatiens/loadtool/Latencies" "com/example/impatiens/impatiens/loadtool/Latencies" "count" "I").before a0 Z = true := hw _ (List.mem_of_getElem? (i := 18) rfl)
def R0 : Room := { frames := 1, cells := 1, slots := 1024, locals := 12 }
def Q0 (Z : State) (a : Addr) (h0 : Heap) (v : Option Value) (h : Heap) : Prop := ∃ b : Addr, ∃ kb : ClassId, v = none ∧ Keep h0 h [a] ∧ h0.size ≤ b ∧ Exa Z h a "com/example/impatiens/impatiens/loadtool/Latencies" ∧ Fld Z h a "com/example/impatiens/impatiens/loadtool/Latencies" "nanos" "[J" (.ref b) ∧ Fld Z h a "com/example/impatiens/impatiens/loadtool/Latencies" "count" "I" (.int 0) ∧ Arv Z h b kb .long (1024 : Int32) [(.long 0), (.long 0), (.long 0)] (.long 0)
theorem ef0 (a : Addr) (m : MethodId) : entryFrame m #[(.ref a)] 1 = mkF m 0 #[.val (.ref a)] [] := by first | (simp [entryFrame, mkF, argsToLocals, Value.category]; done) | rfl
theorem pn_0 : plainName "com/example/impatiens/impatiens/loadtool/Latencies" = true := by first | (simp [plainName, overriddenIn]; done) | decide +kernel
theorem rm0 (hw : HW a0 Z) (a : Addr) (h0 : Heap) (n0 : Nat) (Z0 : n0 ≤ h0.size) (E : Exa Z h0 a "com/example/impatiens/impatiens/loadtool/Latencies") (F1 : Fld Z h0 a "com/example/impatiens/impatiens/loadtool/Latencies" "nanos" "[J" .null) (F2 : Fld Z h0 a "com/example/impatiens/impatiens/loadtool/Latencies" "count" "I" (.int 0)) (ga : n0 ≤ a) : OMet l Z [] (⟨"com/example/impatiens/impatiens/loadtool/Latencies", "<init>", "()V"⟩ : MethodName) prog_21_method_1_code 1 none R0 #[(.ref a)] h0 n0 (Q0 Z a h0) := by
  refine OMet.of (own := "com/example/impatiens/impatiens/loadtool/Latencies") rfl (plainFor_of_name pn_0) (ef0 a) Z0 ?_
  intro p e s m below meth c T0 Y0 hnm
  refine Gl.aloadN Y0 rfl rfl dA_0 rfl ?_
  refine Gl.initO Y0 (tw_6 hw) (tw_7 hw) (tw_8 hw) rfl (by decide) (nle rfl) dA_1 rfl (fun T1 Y1 => ?_)
  refine Gl.aloadN Y1 rfl rfl dA_4 rfl ?_
  refine Gl.sipush Y1 (v := (1024 : Int32)) (by decide) dA_5 rfl ?_
  refine Gl.newP Y1 1024 (ty := .long) rfl (tw_9 hw) (by decide) (by decide) (nle rfl) (nle rfl) (nle rfl) dA_8 rfl (fun T8 h8 b8 ck8 Y8 E8 g8 sb8 V8 => ?_)
  have V8 : Arv Z h8 b8 ck8 .long (1024 : Int32) [(.long 0), (.long 0), (.long 0)] (.long 0) := V8.pad (pad_rep [] (.long 0) 3)
  have zb8 : h0.size ≤ b8 := Nat.le_trans (Keep.refl h0 [a]).1 (Nat.le_of_eq g8.symm)
  have K8 : Keep h0 h8 [a] := (Keep.refl h0 [a]).ext E8
  show Gl p e below _ (T8.setTop (mkF m 10 _ [(.ref b8), (.ref a)]))
  have f1 := (Fld.ext E8 F1)
  have f2 := (Exa.ext E8 E)
  refine Gl.putF Y8 (host := "") (Or.inl (tw_10 hw)) Via.refl f1 f2 (Or.inl (tw_11 hw)) (tw_1 hw) ga (ty := (.array .long)) (by decide) rfl rfl dA_10 rfl (fun T10 h10 Y10 W10 => ?_)
  have f3 : Fld Z h10 a "com/example/impatiens/impatiens/loadtool/Latencies" "nanos" "[J" (.ref b8) := Fld.same W10 f1
  have K10 : Keep h0 h10 [a] := K8.wr W10 (Or.inl (List.mem_of_getElem? (i := 0) rfl))
  have f4 := (Exa.wr W10 f2)
  have f5 := (Fld.other W10 (Fld.ext E8 F2) (Or.inr (slot_ne (Or.inl (tw_18 hw)) (Or.inl (tw_11 hw)) (by decide) (t := .int) (t' := (.array .long)) (by decide) (by decide))))
  have f6 := (V8.other W10 (Ne.symm (Nat.ne_of_lt (Nat.lt_of_lt_of_eq E.lt g8.symm))))
  exact Gl.retV Y10 (by decide) (by decide)  dA_13 ⟨b8, ck8, rfl, K10, zb8, f4, (by first | exact f3 | (subst_vars; exact f3) | (rw [PF]; exact f3)), f5, f6⟩
theorem dB_0 : decode prog_21_method_2_code 0 = .ok (.aload_n 0, 1) := by decide +kernel
theorem dB_1 : decode prog_21_method_2_code 1 = .ok (.getfield 13, 3) := by decide +kernel
theorem tw_17 {a0 : Array Value} {Z : State} (hw : HW a0 Z) : (Jvm.Cond.fieldLink "com/example/impatiens/impatiens/loadtool/Latencies" (13 : Nat) "com/example/impatiens/impatiens/loadtool/Latencies" "count" "I").before a0 Z = true := hw _ (List.mem_of_getElem? (i := 17) rfl)
theorem dB_4 : decode prog_21_method_2_code 4 = .ok (.aload_n 0, 1) := by decide +kernel
theorem dB_5 : decode prog_21_method_2_code 5 = .ok (.getfield 7, 3) := by decide +kernel
theorem dB_8 : decode prog_21_method_2_code 8 = .ok (.arraylength, 1) := by decide +kernel
theorem dB_9 : decode prog_21_method_2_code 9 = .ok (.if_icmp .ne 20, 3) := by decide +kernel
theorem dB_29 : decode prog_21_method_2_code 29 = .ok (.aload_n 0, 1) := by decide +kernel
theorem dB_30 : decode prog_21_method_2_code 30 = .ok (.getfield 7, 3) := by decide +kernel
theorem dB_33 : decode prog_21_method_2_code 33 = .ok (.aload_n 0, 1) := by decide +kernel
theorem dB_34 : decode prog_21_method_2_code 34 = .ok (.getfield 13, 3) := by decide +kernel
theorem dB_37 : decode prog_21_method_2_code 37 = .ok (.lload_n 1, 1) := by decide +kernel
theorem dB_38 : decode prog_21_method_2_code 38 = .ok (.lastore, 1) := by decide +kernel
theorem dB_39 : decode prog_21_method_2_code 39 = .ok (.aload_n 0, 1) := by decide +kernel
theorem dB_40 : decode prog_21_method_2_code 40 = .ok (.dup, 1) := by decide +kernel
theorem dB_41 : decode prog_21_method_2_code 41 = .ok (.getfield 13, 3) := by decide +kernel
theorem dB_44 : decode prog_21_method_2_code 44 = .ok (.iconst 1, 1) := by decide +kernel
theorem dB_45 : decode prog_21_method_2_code 45 = .ok (.iadd, 1) := by decide +kernel
theorem dB_46 : decode prog_21_method_2_code 46 = .ok (.putfield 13, 3) := by decide +kernel
theorem dB_49 : decode prog_21_method_2_code 49 = .ok (.return_, 1) := by decide +kernel
def R1 : Room := { frames := 0, cells := 0, slots := 0, locals := 0 }
def Q1 (Z : State) (a b : Addr) (kb : ClassId) (u x0 x1 x2 : Int64) (h0 : Heap) (v : Option Value) (h : Heap) : Prop := v = none ∧ Keep h0 h [a, b] ∧ Exa Z h a "com/example/impatiens/impatiens/loadtool/Latencies" ∧ Fld Z h a "com/example/impatiens/impatiens/loadtool/Latencies" "nanos" "[J" (.ref b) ∧ Fld Z h a "com/example/impatiens/impatiens/loadtool/Latencies" "count" "I" (.int 1) ∧ Arv Z h b kb .long (1024 : Int32) [(.long u), (.long x1), (.long x2)] (.long 0)
theorem ef1 (a : Addr) (u : Int64) (m : MethodId) : entryFrame m #[(.ref a), (.long u)] 3 = mkF m 0 #[.val (.ref a), .val (.long u), .second] [] := by first | (simp [entryFrame, mkF, argsToLocals, Value.category]; done) | rfl
theorem rm1 (hw : HW a0 Z) (a b : Addr) (kb : ClassId) (u x0 x1 x2 : Int64) (h0 : Heap) (n0 : Nat) (Z0 : n0 ≤ h0.size) (E : Exa Z h0 a "com/example/impatiens/impatiens/loadtool/Latencies") (F1 : Fld Z h0 a "com/example/impatiens/impatiens/loadtool/Latencies" "nanos" "[J" (.ref b)) (F2 : Fld Z h0 a "com/example/impatiens/impatiens/loadtool/Latencies" "count" "I" (.int 0)) (V : Arv Z h0 b kb .long (1024 : Int32) [(.long x0), (.long x1), (.long x2)] (.long 0)) (ga : n0 ≤ a) (gb : n0 ≤ b) (nab : own_ne a b) : OMet l Z [] (⟨"com/example/impatiens/impatiens/loadtool/Latencies", "add", "(J)V"⟩ : MethodName) prog_21_method_2_code 3 none R1 #[(.ref a), (.long u)] h0 n0 (Q1 Z a b kb u x0 x1 x2 h0) := by
  refine OMet.of (own := "com/example/impatiens/impatiens/loadtool/Latencies") rfl (plainFor_of_name pn_0) (ef1 a u) Z0 ?_
  intro p e s m below meth c T0 Y0 hnm
  refine Gl.aloadN Y0 rfl rfl dB_0 rfl ?_
  refine Gl.getF Y0 (host := "") (Or.inl (tw_17 hw)) Via.refl F2 dB_1 rfl (fun T1 Y1 => ?_)
  refine Gl.aloadN Y1 rfl rfl dB_4 rfl ?_
  refine Gl.getF Y1 (host := "") (Or.inl (tw_10 hw)) Via.refl F1 dB_5 rfl (fun T5 Y5 => ?_)
  refine Gl.arraylength Y5 V dB_8 rfl ?_
  refine Gl.icmpne Y5 dB_9 (by decide) rfl rfl (fun c9 => ?_) (fun c9 => ?_)
  rotate_left
  · exact absurd c9 (by decide)
  refine Gl.aloadN Y5 rfl rfl dB_29 rfl ?_
  refine Gl.getF Y5 (host := "") (Or.inl (tw_10 hw)) Via.refl F1 dB_30 rfl (fun T30 Y30 => ?_)
  refine Gl.aloadN Y30 rfl rfl dB_33 rfl ?_
  refine Gl.getF Y30 (host := "") (Or.inl (tw_17 hw)) Via.refl F2 dB_34 rfl (fun T34 Y34 => ?_)
  refine Gl.lloadN Y34 rfl dB_37 rfl ?_
  refine Gl.lastore Y34 V (v := (.long u)) rfl ⟨by decide, by decide⟩ (ix := 0) rfl (nle rfl) gb dB_38 rfl (fun T38 h38 Y38 W38 A38 => ?_)
  have A38 : Arv Z h38 b kb .long (1024 : Int32) [(.long u), (.long x1), (.long x2)] (.long 0) := A38
  have K38 : Keep h0 h38 [a, b] := (Keep.refl h0 [a, b]).wr W38 (Or.inl (List.mem_of_getElem? (i := 1) rfl))
  show Gl p e below _ (T38.setTop (mkF m 39 _ []))
  refine Gl.aloadN Y38 rfl rfl dB_39 rfl ?_
  refine Gl.dup Y38 rfl dB_40 rfl ?_
  have f1 := (Fld.other W38 F2 (Or.inl nab))
  refine Gl.getF Y38 (host := "") (Or.inl (tw_17 hw)) Via.refl f1 dB_41 rfl (fun T41 Y41 => ?_)
  refine Gl.iconst Y41 (v := (1 : Int32)) (by decide) dB_44 rfl ?_
  refine Gl.iadd Y41 (r := (1 : Int32)) (by decide) dB_45 rfl ?_
  have f2 := (Exa.wr W38 E)
  refine Gl.putF Y41 (host := "") (Or.inl (tw_17 hw)) Via.refl f1 f2 (Or.inl (tw_18 hw)) (tw_1 hw) ga (ty := .int) (by decide) rfl rfl dB_46 rfl (fun T46 h46 Y46 W46 => ?_)
  have f3 : Fld Z h46 a "com/example/impatiens/impatiens/loadtool/Latencies" "count" "I" (.int 1) := Fld.same W46 f1
  have K46 : Keep h0 h46 [a, b] := K38.wr W46 (Or.inl (List.mem_of_getElem? (i := 0) rfl))
  have f4 := (Exa.wr W46 f2)
  have f5 := (Fld.other W46 (Fld.other W38 F1 (Or.inl nab)) (Or.inr (slot_ne (Or.inl (tw_11 hw)) (Or.inl (tw_18 hw)) (by decide) (t := (.array .long)) (t' := .int) (by decide) (by decide))))
  have f6 := (A38.other W46 (Ne.symm nab))
  exact Gl.retV Y46 (by decide) (by decide)  dB_49 ⟨rfl, K46, f4, f5, f3, f6⟩
def R2 : Room := { frames := 0, cells := 0, slots := 0, locals := 0 }
def Q2 (Z : State) (a b : Addr) (kb : ClassId) (u x0 x1 x2 : Int64) (h0 : Heap) (v : Option Value) (h : Heap) : Prop := v = none ∧ Keep h0 h [a, b] ∧ Exa Z h a "com/example/impatiens/impatiens/loadtool/Latencies" ∧ Fld Z h a "com/example/impatiens/impatiens/loadtool/Latencies" "nanos" "[J" (.ref b) ∧ Fld Z h a "com/example/impatiens/impatiens/loadtool/Latencies" "count" "I" (.int 2) ∧ Arv Z h b kb .long (1024 : Int32) [(.long x0), (.long u), (.long x2)] (.long 0)
theorem ef2 (a : Addr) (u : Int64) (m : MethodId) : entryFrame m #[(.ref a), (.long u)] 3 = mkF m 0 #[.val (.ref a), .val (.long u), .second] [] := by first | (simp [entryFrame, mkF, argsToLocals, Value.category]; done) | rfl
theorem rm2 (hw : HW a0 Z) (a b : Addr) (kb : ClassId) (u x0 x1 x2 : Int64) (h0 : Heap) (n0 : Nat) (Z0 : n0 ≤ h0.size) (E : Exa Z h0 a "com/example/impatiens/impatiens/loadtool/Latencies") (F1 : Fld Z h0 a "com/example/impatiens/impatiens/loadtool/Latencies" "nanos" "[J" (.ref b)) (F2 : Fld Z h0 a "com/example/impatiens/impatiens/loadtool/Latencies" "count" "I" (.int 1)) (V : Arv Z h0 b kb .long (1024 : Int32) [(.long x0), (.long x1), (.long x2)] (.long 0)) (ga : n0 ≤ a) (gb : n0 ≤ b) (nab : own_ne a b) : OMet l Z [] (⟨"com/example/impatiens/impatiens/loadtool/Latencies", "add", "(J)V"⟩ : MethodName) prog_21_method_2_code 3 none R2 #[(.ref a), (.long u)] h0 n0 (Q2 Z a b kb u x0 x1 x2 h0) := by
  refine OMet.of (own := "com/example/impatiens/impatiens/loadtool/Latencies") rfl (plainFor_of_name pn_0) (ef2 a u) Z0 ?_
  intro p e s m below meth c T0 Y0 hnm
  refine Gl.aloadN Y0 rfl rfl dB_0 rfl ?_
  refine Gl.getF Y0 (host := "") (Or.inl (tw_17 hw)) Via.refl F2 dB_1 rfl (fun T1 Y1 => ?_)
  refine Gl.aloadN Y1 rfl rfl dB_4 rfl ?_
  refine Gl.getF Y1 (host := "") (Or.inl (tw_10 hw)) Via.refl F1 dB_5 rfl (fun T5 Y5 => ?_)
  refine Gl.arraylength Y5 V dB_8 rfl ?_
  refine Gl.icmpne Y5 dB_9 (by decide) rfl rfl (fun c9 => ?_) (fun c9 => ?_)
  rotate_left
  · exact absurd c9 (by decide)
  refine Gl.aloadN Y5 rfl rfl dB_29 rfl ?_
  refine Gl.getF Y5 (host := "") (Or.inl (tw_10 hw)) Via.refl F1 dB_30 rfl (fun T30 Y30 => ?_)
  refine Gl.aloadN Y30 rfl rfl dB_33 rfl ?_
  refine Gl.getF Y30 (host := "") (Or.inl (tw_17 hw)) Via.refl F2 dB_34 rfl (fun T34 Y34 => ?_)
  refine Gl.lloadN Y34 rfl dB_37 rfl ?_
  refine Gl.lastore Y34 V (v := (.long u)) rfl ⟨by decide, by decide⟩ (ix := 1) rfl (nle rfl) gb dB_38 rfl (fun T38 h38 Y38 W38 A38 => ?_)
  have A38 : Arv Z h38 b kb .long (1024 : Int32) [(.long x0), (.long u), (.long x2)] (.long 0) := A38
  have K38 : Keep h0 h38 [a, b] := (Keep.refl h0 [a, b]).wr W38 (Or.inl (List.mem_of_getElem? (i := 1) rfl))
  show Gl p e below _ (T38.setTop (mkF m 39 _ []))
  refine Gl.aloadN Y38 rfl rfl dB_39 rfl ?_
  refine Gl.dup Y38 rfl dB_40 rfl ?_
  have f1 := (Fld.other W38 F2 (Or.inl nab))
  refine Gl.getF Y38 (host := "") (Or.inl (tw_17 hw)) Via.refl f1 dB_41 rfl (fun T41 Y41 => ?_)
  refine Gl.iconst Y41 (v := (1 : Int32)) (by decide) dB_44 rfl ?_
  refine Gl.iadd Y41 (r := (2 : Int32)) (by decide) dB_45 rfl ?_
  have f2 := (Exa.wr W38 E)
  refine Gl.putF Y41 (host := "") (Or.inl (tw_17 hw)) Via.refl f1 f2 (Or.inl (tw_18 hw)) (tw_1 hw) ga (ty := .int) (by decide) rfl rfl dB_46 rfl (fun T46 h46 Y46 W46 => ?_)
  have f3 : Fld Z h46 a "com/example/impatiens/impatiens/loadtool/Latencies" "count" "I" (.int 2) := Fld.same W46 f1
  have K46 : Keep h0 h46 [a, b] := K38.wr W46 (Or.inl (List.mem_of_getElem? (i := 0) rfl))
  have f4 := (Exa.wr W46 f2)
  have f5 := (Fld.other W46 (Fld.other W38 F1 (Or.inl nab)) (Or.inr (slot_ne (Or.inl (tw_11 hw)) (Or.inl (tw_18 hw)) (by decide) (t := (.array .long)) (t' := .int) (by decide) (by decide))))
  have f6 := (A38.other W46 (Ne.symm nab))
  exact Gl.retV Y46 (by decide) (by decide)  dB_49 ⟨rfl, K46, f4, f5, f3, f6⟩
def R3 : Room := { frames := 0, cells := 0, slots := 0, locals := 0 }
def Q3 (Z : State) (a b : Addr) (kb : ClassId) (u x0 x1 x2 : Int64) (h0 : Heap) (v : Option Value) (h : Heap) : Prop := v = none ∧ Keep h0 h [a, b] ∧ Exa Z h a "com/example/impatiens/impatiens/loadtool/Latencies" ∧ Fld Z h a "com/example/impatiens/impatiens/loadtool/Latencies" "nanos" "[J" (.ref b) ∧ Fld Z h a "com/example/impatiens/impatiens/loadtool/Latencies" "count" "I" (.int 3) ∧ Arv Z h b kb .long (1024 : Int32) [(.long x0), (.long x1), (.long u)] (.long 0)
theorem ef3 (a : Addr) (u : Int64) (m : MethodId) : entryFrame m #[(.ref a), (.long u)] 3 = mkF m 0 #[.val (.ref a), .val (.long u), .second] [] := by first | (simp [entryFrame, mkF, argsToLocals, Value.category]; done) | rfl
theorem rm3 (hw : HW a0 Z) (a b : Addr) (kb : ClassId) (u x0 x1 x2 : Int64) (h0 : Heap) (n0 : Nat) (Z0 : n0 ≤ h0.size) (E : Exa Z h0 a "com/example/impatiens/impatiens/loadtool/Latencies") (F1 : Fld Z h0 a "com/example/impatiens/impatiens/loadtool/Latencies" "nanos" "[J" (.ref b)) (F2 : Fld Z h0 a "com/example/impatiens/impatiens/loadtool/Latencies" "count" "I" (.int 2)) (V : Arv Z h0 b kb .long (1024 : Int32) [(.long x0), (.long x1), (.long x2)] (.long 0)) (ga : n0 ≤ a) (gb : n0 ≤ b) (nab : own_ne a b) : OMet l Z [] (⟨"com/example/impatiens/impatiens/loadtool/Latencies", "add", "(J)V"⟩ : MethodName) prog_21_method_2_code 3 none R3 #[(.ref a), (.long u)] h0 n0 (Q3 Z a b kb u x0 x1 x2 h0) := by
  refine OMet.of (own := "com/example/impatiens/impatiens/loadtool/Latencies") rfl (plainFor_of_name pn_0) (ef3 a u) Z0 ?_
  intro p e s m below meth c T0 Y0 hnm
  refine Gl.aloadN Y0 rfl rfl dB_0 rfl ?_
  refine Gl.getF Y0 (host := "") (Or.inl (tw_17 hw)) Via.refl F2 dB_1 rfl (fun T1 Y1 => ?_)
  refine Gl.aloadN Y1 rfl rfl dB_4 rfl ?_
  refine Gl.getF Y1 (host := "") (Or.inl (tw_10 hw)) Via.refl F1 dB_5 rfl (fun T5 Y5 => ?_)
  refine Gl.arraylength Y5 V dB_8 rfl ?_
  refine Gl.icmpne Y5 dB_9 (by decide) rfl rfl (fun c9 => ?_) (fun c9 => ?_)
  rotate_left
  · exact absurd c9 (by decide)
  refine Gl.aloadN Y5 rfl rfl dB_29 rfl ?_
  refine Gl.getF Y5 (host := "") (Or.inl (tw_10 hw)) Via.refl F1 dB_30 rfl (fun T30 Y30 => ?_)
  refine Gl.aloadN Y30 rfl rfl dB_33 rfl ?_
  refine Gl.getF Y30 (host := "") (Or.inl (tw_17 hw)) Via.refl F2 dB_34 rfl (fun T34 Y34 => ?_)
  refine Gl.lloadN Y34 rfl dB_37 rfl ?_
  refine Gl.lastore Y34 V (v := (.long u)) rfl ⟨by decide, by decide⟩ (ix := 2) rfl (nle rfl) gb dB_38 rfl (fun T38 h38 Y38 W38 A38 => ?_)
  have A38 : Arv Z h38 b kb .long (1024 : Int32) [(.long x0), (.long x1), (.long u)] (.long 0) := A38
  have K38 : Keep h0 h38 [a, b] := (Keep.refl h0 [a, b]).wr W38 (Or.inl (List.mem_of_getElem? (i := 1) rfl))
  show Gl p e below _ (T38.setTop (mkF m 39 _ []))
  refine Gl.aloadN Y38 rfl rfl dB_39 rfl ?_
  refine Gl.dup Y38 rfl dB_40 rfl ?_
  have f1 := (Fld.other W38 F2 (Or.inl nab))
  refine Gl.getF Y38 (host := "") (Or.inl (tw_17 hw)) Via.refl f1 dB_41 rfl (fun T41 Y41 => ?_)
  refine Gl.iconst Y41 (v := (1 : Int32)) (by decide) dB_44 rfl ?_
  refine Gl.iadd Y41 (r := (3 : Int32)) (by decide) dB_45 rfl ?_
  have f2 := (Exa.wr W38 E)
  refine Gl.putF Y41 (host := "") (Or.inl (tw_17 hw)) Via.refl f1 f2 (Or.inl (tw_18 hw)) (tw_1 hw) ga (ty := .int) (by decide) rfl rfl dB_46 rfl (fun T46 h46 Y46 W46 => ?_)
  have f3 : Fld Z h46 a "com/example/impatiens/impatiens/loadtool/Latencies" "count" "I" (.int 3) := Fld.same W46 f1
  have K46 : Keep h0 h46 [a, b] := K38.wr W46 (Or.inl (List.mem_of_getElem? (i := 0) rfl))
  have f4 := (Exa.wr W46 f2)
  have f5 := (Fld.other W46 (Fld.other W38 F1 (Or.inl nab)) (Or.inr (slot_ne (Or.inl (tw_11 hw)) (Or.inl (tw_18 hw)) (by decide) (t := (.array .long)) (t' := .int) (by decide) (by decide))))
  have f6 := (A38.other W46 (Ne.symm nab))
  exact Gl.retV Y46 (by decide) (by decide)  dB_49 ⟨rfl, K46, f4, f5, f3, f6⟩
theorem dC_0 : decode prog_21_method_3_code 0 = .ok (.aload_n 0, 1) := by decide +kernel
theorem dC_1 : decode prog_21_method_3_code 1 = .ok (.getfield 13, 3) := by decide +kernel
theorem dC_4 : decode prog_21_method_3_code 4 = .ok (.ireturn, 1) := by decide +kernel
def R4 : Room := { frames := 0, cells := 0, slots := 0, locals := 0 }
def Q4 (Z : State) (a : Addr) (h0 : Heap) (v : Option Value) (h : Heap) : Prop := v = some (.int 0) ∧ h0 = h
theorem ef4 (a : Addr) (m : MethodId) : entryFrame m #[(.ref a)] 1 = mkF m 0 #[.val (.ref a)] [] := by first | (simp [entryFrame, mkF, argsToLocals, Value.category]; done) | rfl
theorem rm4 (hw : HW a0 Z) (a : Addr) (h0 : Heap) (n0 : Nat) (Z0 : n0 ≤ h0.size) (F2 : Fld Z h0 a "com/example/impatiens/impatiens/loadtool/Latencies" "count" "I" (.int 0)) : OMet l Z [] (⟨"com/example/impatiens/impatiens/loadtool/Latencies", "count", "()I"⟩ : MethodName) prog_21_method_3_code 1 (some .int) R4 #[(.ref a)] h0 n0 (Q4 Z a h0) := by
  refine OMet.of (own := "com/example/impatiens/impatiens/loadtool/Latencies") rfl (plainFor_of_name pn_0) (ef4 a) Z0 ?_
  intro p e s m below meth c T0 Y0 hnm
  refine Gl.aloadN Y0 rfl rfl dC_0 rfl ?_
  refine Gl.getF Y0 (host := "") (Or.inl (tw_17 hw)) Via.refl F2 dC_1 rfl (fun T1 Y1 => ?_)
  exact Gl.retI Y1 (by decide) (by decide)  dC_4 ⟨rfl, rfl⟩
def R5 : Room := { frames := 0, cells := 0, slots := 0, locals := 0 }
def Q5 (Z : State) (a : Addr) (h0 : Heap) (v : Option Value) (h : Heap) : Prop := v = some (.int 1) ∧ h0 = h
theorem ef5 (a : Addr) (m : MethodId) : entryFrame m #[(.ref a)] 1 = mkF m 0 #[.val (.ref a)] [] := by first | (simp [entryFrame, mkF, argsToLocals, Value.category]; done) | rfl
theorem rm5 (hw : HW a0 Z) (a : Addr) (h0 : Heap) (n0 : Nat) (Z0 : n0 ≤ h0.size) (F2 : Fld Z h0 a "com/example/impatiens/impatiens/loadtool/Latencies" "count" "I" (.int 1)) : OMet l Z [] (⟨"com/example/impatiens/impatiens/loadtool/Latencies", "count", "()I"⟩ : MethodName) prog_21_method_3_code 1 (some .int) R5 #[(.ref a)] h0 n0 (Q5 Z a h0) := by
  refine OMet.of (own := "com/example/impatiens/impatiens/loadtool/Latencies") rfl (plainFor_of_name pn_0) (ef5 a) Z0 ?_
  intro p e s m below meth c T0 Y0 hnm
  refine Gl.aloadN Y0 rfl rfl dC_0 rfl ?_
  refine Gl.getF Y0 (host := "") (Or.inl (tw_17 hw)) Via.refl F2 dC_1 rfl (fun T1 Y1 => ?_)
  exact Gl.retI Y1 (by decide) (by decide)  dC_4 ⟨rfl, rfl⟩
def R6 : Room := { frames := 0, cells := 0, slots := 0, locals := 0 }
def Q6 (Z : State) (a : Addr) (h0 : Heap) (v : Option Value) (h : Heap) : Prop := v = some (.int 2) ∧ h0 = h
theorem ef6 (a : Addr) (m : MethodId) : entryFrame m #[(.ref a)] 1 = mkF m 0 #[.val (.ref a)] [] := by first | (simp [entryFrame, mkF, argsToLocals, Value.category]; done) | rfl
theorem rm6 (hw : HW a0 Z) (a : Addr) (h0 : Heap) (n0 : Nat) (Z0 : n0 ≤ h0.size) (F2 : Fld Z h0 a "com/example/impatiens/impatiens/loadtool/Latencies" "count" "I" (.int 2)) : OMet l Z [] (⟨"com/example/impatiens/impatiens/loadtool/Latencies", "count", "()I"⟩ : MethodName) prog_21_method_3_code 1 (some .int) R6 #[(.ref a)] h0 n0 (Q6 Z a h0) := by
  refine OMet.of (own := "com/example/impatiens/impatiens/loadtool/Latencies") rfl (plainFor_of_name pn_0) (ef6 a) Z0 ?_
  intro p e s m below meth c T0 Y0 hnm
  refine Gl.aloadN Y0 rfl rfl dC_0 rfl ?_
  refine Gl.getF Y0 (host := "") (Or.inl (tw_17 hw)) Via.refl F2 dC_1 rfl (fun T1 Y1 => ?_)
  exact Gl.retI Y1 (by decide) (by decide)  dC_4 ⟨rfl, rfl⟩
def R7 : Room := { frames := 0, cells := 0, slots := 0, locals := 0 }
def Q7 (Z : State) (a : Addr) (h0 : Heap) (v : Option Value) (h : Heap) : Prop := v = some (.int 3) ∧ h0 = h
theorem ef7 (a : Addr) (m : MethodId) : entryFrame m #[(.ref a)] 1 = mkF m 0 #[.val (.ref a)] [] := by first | (simp [entryFrame, mkF, argsToLocals, Value.category]; done) | rfl
theorem rm7 (hw : HW a0 Z) (a : Addr) (h0 : Heap) (n0 : Nat) (Z0 : n0 ≤ h0.size) (F2 : Fld Z h0 a "com/example/impatiens/impatiens/loadtool/Latencies" "count" "I" (.int 3)) : OMet l Z [] (⟨"com/example/impatiens/impatiens/loadtool/Latencies", "count", "()I"⟩ : MethodName) prog_21_method_3_code 1 (some .int) R7 #[(.ref a)] h0 n0 (Q7 Z a h0) := by
  refine OMet.of (own := "com/example/impatiens/impatiens/loadtool/Latencies") rfl (plainFor_of_name pn_0) (ef7 a) Z0 ?_
  intro p e s m below meth c T0 Y0 hnm
  refine Gl.aloadN Y0 rfl rfl dC_0 rfl ?_
  refine Gl.getF Y0 (host := "") (Or.inl (tw_17 hw)) Via.refl F2 dC_1 rfl (fun T1 Y1 => ?_)
  exact Gl.retI Y1 (by decide) (by decide)  dC_4 ⟨rfl, rfl⟩
theorem dD_0 : decode jdk_29_method_69_code 0 = .ok (.iload_n 0, 1) := by decide +kernel
theorem dD_1 : decode jdk_29_method_69_code 1 = .ok (.iload_n 1, 1) := by decide +kernel
theorem dD_2 : decode jdk_29_method_69_code 2 = .ok (.if_icmp .gt 7, 3) := by decide +kernel
theorem dD_9 : decode jdk_29_method_69_code 9 = .ok (.iload_n 1, 1) := by decide +kernel
theorem dD_10 : decode jdk_29_method_69_code 10 = .ok (.ireturn, 1) := by decide +kernel
def R8 : Room := { frames := 0, cells := 0, slots := 0, locals := 0 }
def Q8 (Z : State) (h0 : Heap) (v : Option Value) (h : Heap) : Prop := v = some (.int 1) ∧ h0 = h
theorem ef8 (m : MethodId) : entryFrame m #[(.int 1024), (.int 1)] 2 = mkF m 0 #[.val (.int 1024), .val (.int 1)] [] := by first | (simp [entryFrame, mkF, argsToLocals, Value.category]; done) | rfl
theorem rm8 (hw : HW a0 Z) (h0 : Heap) (n0 : Nat) (Z0 : n0 ≤ h0.size) : OMet l Z [] (⟨"java/lang/Math", "min", "(II)I"⟩ : MethodName) jdk_29_method_69_code 2 (some .int) R8 #[(.int 1024), (.int 1)] h0 n0 (Q8 Z h0) := by
  refine OMet.of (own := "java/lang/Math") rfl (Jvm.Free.JP.mathPlain rfl (by decide +kernel)) (ef8) Z0 ?_
  intro p e s m below meth c T0 Y0 hnm
  refine Gl.iloadN Y0 rfl dD_0 rfl ?_
  refine Gl.iloadN Y0 rfl dD_1 rfl ?_
  refine Gl.icmpgt Y0 dD_2 (by decide) rfl rfl (fun c2 => ?_) (fun c2 => ?_)
  rotate_left
  · exact absurd c2 (by decide)
  refine Gl.iloadN Y0 rfl dD_9 rfl ?_
  exact Gl.retI Y0 (by decide) (by decide)  dD_10 ⟨rfl, rfl⟩
theorem dE_0 : decode jdk_65_method_124_code 0 = .ok (.iload_n 1, 1) := by decide +kernel
theorem dE_1 : decode jdk_65_method_124_code 1 = .ok (.aload_n 0, 1) := by decide +kernel
theorem dE_2 : decode jdk_65_method_124_code 2 = .ok (.arraylength, 1) := by decide +kernel
theorem dE_3 : decode jdk_65_method_124_code 3 = .ok (.if_icmp .ne 11, 3) := by decide +kernel
theorem dE_14 : decode jdk_65_method_124_code 14 = .ok (.iload_n 1, 1) := by decide +kernel
theorem dE_15 : decode jdk_65_method_124_code 15 = .ok (.newarray .long, 2) := by decide +kernel
theorem dE_17 : decode jdk_65_method_124_code 17 = .ok (.astore_n 2, 1) := by decide +kernel
theorem dE_18 : decode jdk_65_method_124_code 18 = .ok (.aload_n 0, 1) := by decide +kernel
theorem dE_19 : decode jdk_65_method_124_code 19 = .ok (.iconst 0, 1) := by decide +kernel
theorem dE_20 : decode jdk_65_method_124_code 20 = .ok (.aload_n 2, 1) := by decide +kernel
theorem dE_21 : decode jdk_65_method_124_code 21 = .ok (.iconst 0, 1) := by decide +kernel
theorem dE_22 : decode jdk_65_method_124_code 22 = .ok (.aload_n 0, 1) := by decide +kernel
theorem dE_23 : decode jdk_65_method_124_code 23 = .ok (.arraylength, 1) := by decide +kernel
theorem dE_24 : decode jdk_65_method_124_code 24 = .ok (.iload_n 1, 1) := by decide +kernel
theorem dE_25 : decode jdk_65_method_124_code 25 = .ok (.invokestatic 304, 3) := by decide +kernel
theorem tw_33 {a0 : Array Value} {Z : State} (hw : HW a0 Z) : (Jvm.Cond.methodLink "java/util/Arrays" (304 : Nat) ({ cls := "java/lang/Math", name := "min", desc := "(II)I" } : Jvm.MethodName)).before a0 Z = true := hw _ (List.mem_of_getElem? (i := 33) rfl)
theorem pd_0 : parseMethodDescriptor "(II)I" = some ⟨[.int, .int], some .int⟩ := by decide +kernel
theorem tw_36 {a0 : Array Value} {Z : State} (hw : HW a0 Z) : (Jvm.Cond.code ({ cls := "java/lang/Math", name := "min", desc := "(II)I" } : Jvm.MethodName) jdk_29_method_69_code (2 : Nat) (Option.some Jvm.ClassFile.FieldType.int)).before a0 Z = true := hw _ (List.mem_of_getElem? (i := 36) rfl)
theorem tw_35 {a0 : Array Value} {Z : State} (hw : HW a0 Z) : (Jvm.Cond.initialized "java/lang/Math").before a0 Z = true := hw _ (List.mem_of_getElem? (i := 35) rfl)
theorem tw_34 {a0 : Array Value} {Z : State} (hw : HW a0 Z) : (Jvm.Cond.static ({ cls := "java/lang/Math", name := "min", desc := "(II)I" } : Jvm.MethodName)).before a0 Z = true := hw _ (List.mem_of_getElem? (i := 34) rfl)
theorem dE_28 : decode jdk_65_method_124_code 28 = .ok (.invokestatic 150, 3) := by decide +kernel
theorem tw_37 {a0 : Array Value} {Z : State} (hw : HW a0 Z) : (Jvm.Cond.methodLink "java/util/Arrays" (150 : Nat) ({ cls := "java/lang/System", name := "arraycopy", desc := "(Ljava/lang/Object;ILjava/lang/Object;II)V" } : Jvm.MethodName)).before a0 Z = true := hw _ (List.mem_of_getElem? (i := 37) rfl)
theorem tw_40 {a0 : Array Value} {Z : State} (hw : HW a0 Z) : (Jvm.Cond.native ({ cls := "java/lang/System", name := "arraycopy", desc := "(Ljava/lang/Object;ILjava/lang/Object;II)V" } : Jvm.MethodName)).before a0 Z = true := hw _ (List.mem_of_getElem? (i := 40) rfl)
theorem tw_38 {a0 : Array Value} {Z : State} (hw : HW a0 Z) : (Jvm.Cond.static ({ cls := "java/lang/System", name := "arraycopy", desc := "(Ljava/lang/Object;ILjava/lang/Object;II)V" } : Jvm.MethodName)).before a0 Z = true := hw _ (List.mem_of_getElem? (i := 38) rfl)
theorem tw_39 {a0 : Array Value} {Z : State} (hw : HW a0 Z) : (Jvm.Cond.initialized "java/lang/System").before a0 Z = true := hw _ (List.mem_of_getElem? (i := 39) rfl)
theorem dE_31 : decode jdk_65_method_124_code 31 = .ok (.aload_n 2, 1) := by decide +kernel
theorem dE_32 : decode jdk_65_method_124_code 32 = .ok (.areturn, 1) := by decide +kernel
def R9 : Room := { frames := 1, cells := 1, slots := 1, locals := 18 }
def Q9 (Z : State) (b : Addr) (kb : ClassId) (x0 x1 x2 : Int64) (h0 : Heap) (v : Option Value) (h : Heap) : Prop := ∃ d : Addr, ∃ kd : ClassId, v = some (.ref d) ∧ Keep h0 h [] ∧ h0.size ≤ d ∧ Arv Z h d kd .long (1 : Int32) [(.long x0)] (.long 0)
theorem ef9 (b : Addr) (m : MethodId) : entryFrame m #[(.ref b), (.int 1)] 3 = mkF m 0 #[.val (.ref b), .val (.int 1), .unset] [] := by first | (simp [entryFrame, mkF, argsToLocals, Value.category]; done) | rfl
theorem pn_1 : plainName "java/util/Arrays" = true := by first | (simp [plainName, overriddenIn]; done) | decide +kernel
theorem rm9 (hw : HW a0 Z) (b : Addr) (kb : ClassId) (x0 x1 x2 : Int64) (h0 : Heap) (n0 : Nat) (Z0 : n0 ≤ h0.size) (V : Arv Z h0 b kb .long (1024 : Int32) [(.long x0), (.long x1), (.long x2)] (.long 0)) : OMet l Z [] (⟨"java/util/Arrays", "copyOf", "([JI)[J"⟩ : MethodName) jdk_65_method_124_code 3 (some (.array .long)) R9 #[(.ref b), (.int 1)] h0 n0 (Q9 Z b kb x0 x1 x2 h0) := by
  refine OMet.of (own := "java/util/Arrays") rfl (plainFor_of_name pn_1) (ef9 b) Z0 ?_
  intro p e s m below meth c T0 Y0 hnm
  refine Gl.iloadN Y0 rfl dE_0 rfl ?_
  refine Gl.aloadN Y0 rfl rfl dE_1 rfl ?_
  refine Gl.arraylength Y0 V dE_2 rfl ?_
  refine Gl.icmpne Y0 dE_3 (by decide) rfl rfl (fun c3 => ?_) (fun c3 => ?_)
  rotate_left
  · exact absurd c3 (by decide)
  refine Gl.iloadN Y0 rfl dE_14 rfl ?_
  refine Gl.newP Y0 1 (ty := .long) rfl (tw_9 hw) (by decide) (by decide) (nle rfl) (nle rfl) (nle rfl) dE_15 rfl (fun T15 h15 b15 ck15 Y15 E15 g15 sb15 V15 => ?_)
  have V15 : Arv Z h15 b15 ck15 .long (1 : Int32) [(.long 0)] (.long 0) := V15.pad (pad_rep [] (.long 0) 1)
  have zb15 : h0.size ≤ b15 := Nat.le_trans (Keep.refl h0 []).1 (Nat.le_of_eq g15.symm)
  have K15 : Keep h0 h15 [] := (Keep.refl h0 []).ext E15
  show Gl p e below _ (T15.setTop (mkF m 17 _ [(.ref b15)]))
  refine Gl.astoreN Y15 rfl (L' := #[.val (.ref b), .val (.int 1), .val (.ref b15)]) rfl dE_17 rfl ?_
  refine Gl.aloadN Y15 rfl rfl dE_18 rfl ?_
  refine Gl.iconst Y15 (v := (0 : Int32)) (by decide) dE_19 rfl ?_
  refine Gl.aloadN Y15 rfl rfl dE_20 rfl ?_
  refine Gl.iconst Y15 (v := (0 : Int32)) (by decide) dE_21 rfl ?_
  refine Gl.aloadN Y15 rfl rfl dE_22 rfl ?_
  have f1 := (V.ext E15)
  refine Gl.arraylength Y15 f1 dE_23 rfl ?_
  refine Gl.iloadN Y15 rfl dE_24 rfl ?_
  refine Gl.callS Y15 (tw_33 hw) (tw_34 hw) (tw_35 hw) (tw_36 hw) (by decide) (rm8 l Z a0 hw h15 n0 Y15.sz) (argsL := [(.int 1024), (.int 1)]) (rest := [(.int 0), (.ref b15), (.int 0), (.ref b)]) rfl rfl (lenOf pd_0 rfl) rfl (by decide) (nle rfl) (by decide) (by decide) dE_25 rfl (fun v25 T25 h25 Y25 q25 => ?_)
  obtain ⟨rfl, rfl⟩ := q25
  show Gl p e below _ (T25.setTop (mkF m 28 _ [(.int 1), (.int 0), (.ref b15), (.int 0), (.ref b)]))
  refine Gl.cpy Y25 (tw_37 hw) (tw_40 hw) (tw_38 hw) (tw_39 hw) f1 V15 rfl (by decide) (by decide) (by decide) (by decide) (by decide) (us := [(.long x0)]) rfl (nle rfl) (vr := [(.long x0)]) rfl sb15 rfl (by decide) (nle rfl) dE_28 rfl (fun T28 h28 Y28 K28 A28 => ?_)
  have KK28 : Keep h0 h28 [] := K15.trans K28 (allS (Or.inr zb15) all0)
  show Gl p e below _ (T28.setTop (mkF m 31 _ []))
  refine Gl.aloadN Y28 rfl rfl dE_31 rfl ?_
  exact Gl.retA Y28 (by decide) (by decide) rfl rfl dE_32 ⟨b15, ck15, rfl, KK28, zb15, A28⟩
def R10 : Room := { frames := 0, cells := 0, slots := 0, locals := 0 }
def Q10 (Z : State) (h0 : Heap) (v : Option Value) (h : Heap) : Prop := v = some (.int 2) ∧ h0 = h
theorem ef10 (m : MethodId) : entryFrame m #[(.int 1024), (.int 2)] 2 = mkF m 0 #[.val (.int 1024), .val (.int 2)] [] := by first | (simp [entryFrame, mkF, argsToLocals, Value.category]; done) | rfl
theorem rm10 (hw : HW a0 Z) (h0 : Heap) (n0 : Nat) (Z0 : n0 ≤ h0.size) : OMet l Z [] (⟨"java/lang/Math", "min", "(II)I"⟩ : MethodName) jdk_29_method_69_code 2 (some .int) R10 #[(.int 1024), (.int 2)] h0 n0 (Q10 Z h0) := by
  refine OMet.of (own := "java/lang/Math") rfl (Jvm.Free.JP.mathPlain rfl (by decide +kernel)) (ef10) Z0 ?_
  intro p e s m below meth c T0 Y0 hnm
  refine Gl.iloadN Y0 rfl dD_0 rfl ?_
  refine Gl.iloadN Y0 rfl dD_1 rfl ?_
  refine Gl.icmpgt Y0 dD_2 (by decide) rfl rfl (fun c2 => ?_) (fun c2 => ?_)
  rotate_left
  · exact absurd c2 (by decide)
  refine Gl.iloadN Y0 rfl dD_9 rfl ?_
  exact Gl.retI Y0 (by decide) (by decide)  dD_10 ⟨rfl, rfl⟩
def R11 : Room := { frames := 1, cells := 1, slots := 2, locals := 18 }
def Q11 (Z : State) (b : Addr) (kb : ClassId) (x0 x1 x2 : Int64) (h0 : Heap) (v : Option Value) (h : Heap) : Prop := ∃ d : Addr, ∃ kd : ClassId, v = some (.ref d) ∧ Keep h0 h [] ∧ h0.size ≤ d ∧ Arv Z h d kd .long (2 : Int32) [(.long x0), (.long x1)] (.long 0)
theorem ef11 (b : Addr) (m : MethodId) : entryFrame m #[(.ref b), (.int 2)] 3 = mkF m 0 #[.val (.ref b), .val (.int 2), .unset] [] := by first | (simp [entryFrame, mkF, argsToLocals, Value.category]; done) | rfl
theorem rm11 (hw : HW a0 Z) (b : Addr) (kb : ClassId) (x0 x1 x2 : Int64) (h0 : Heap) (n0 : Nat) (Z0 : n0 ≤ h0.size) (V : Arv Z h0 b kb .long (1024 : Int32) [(.long x0), (.long x1), (.long x2)] (.long 0)) : OMet l Z [] (⟨"java/util/Arrays", "copyOf", "([JI)[J"⟩ : MethodName) jdk_65_method_124_code 3 (some (.array .long)) R11 #[(.ref b), (.int 2)] h0 n0 (Q11 Z b kb x0 x1 x2 h0) := by
  refine OMet.of (own := "java/util/Arrays") rfl (plainFor_of_name pn_1) (ef11 b) Z0 ?_
  intro p e s m below meth c T0 Y0 hnm
  refine Gl.iloadN Y0 rfl dE_0 rfl ?_
  refine Gl.aloadN Y0 rfl rfl dE_1 rfl ?_
  refine Gl.arraylength Y0 V dE_2 rfl ?_
  refine Gl.icmpne Y0 dE_3 (by decide) rfl rfl (fun c3 => ?_) (fun c3 => ?_)
  rotate_left
  · exact absurd c3 (by decide)
  refine Gl.iloadN Y0 rfl dE_14 rfl ?_
  refine Gl.newP Y0 2 (ty := .long) rfl (tw_9 hw) (by decide) (by decide) (nle rfl) (nle rfl) (nle rfl) dE_15 rfl (fun T15 h15 b15 ck15 Y15 E15 g15 sb15 V15 => ?_)
  have V15 : Arv Z h15 b15 ck15 .long (2 : Int32) [(.long 0), (.long 0)] (.long 0) := V15.pad (pad_rep [] (.long 0) 2)
  have zb15 : h0.size ≤ b15 := Nat.le_trans (Keep.refl h0 []).1 (Nat.le_of_eq g15.symm)
  have K15 : Keep h0 h15 [] := (Keep.refl h0 []).ext E15
  show Gl p e below _ (T15.setTop (mkF m 17 _ [(.ref b15)]))
  refine Gl.astoreN Y15 rfl (L' := #[.val (.ref b), .val (.int 2), .val (.ref b15)]) rfl dE_17 rfl ?_
  refine Gl.aloadN Y15 rfl rfl dE_18 rfl ?_
  refine Gl.iconst Y15 (v := (0 : Int32)) (by decide) dE_19 rfl ?_
  refine Gl.aloadN Y15 rfl rfl dE_20 rfl ?_
  refine Gl.iconst Y15 (v := (0 : Int32)) (by decide) dE_21 rfl ?_
  refine Gl.aloadN Y15 rfl rfl dE_22 rfl ?_
  have f1 := (V.ext E15)
  refine Gl.arraylength Y15 f1 dE_23 rfl ?_
  refine Gl.iloadN Y15 rfl dE_24 rfl ?_
  refine Gl.callS Y15 (tw_33 hw) (tw_34 hw) (tw_35 hw) (tw_36 hw) (by decide) (rm10 l Z a0 hw h15 n0 Y15.sz) (argsL := [(.int 1024), (.int 2)]) (rest := [(.int 0), (.ref b15), (.int 0), (.ref b)]) rfl rfl (lenOf pd_0 rfl) rfl (by decide) (nle rfl) (by decide) (by decide) dE_25 rfl (fun v25 T25 h25 Y25 q25 => ?_)
  obtain ⟨rfl, rfl⟩ := q25
  show Gl p e below _ (T25.setTop (mkF m 28 _ [(.int 2), (.int 0), (.ref b15), (.int 0), (.ref b)]))
  refine Gl.cpy Y25 (tw_37 hw) (tw_40 hw) (tw_38 hw) (tw_39 hw) f1 V15 rfl (by decide) (by decide) (by decide) (by decide) (by decide) (us := [(.long x0), (.long x1)]) rfl (nle rfl) (vr := [(.long x0), (.long x1)]) rfl sb15 rfl (by decide) (nle rfl) dE_28 rfl (fun T28 h28 Y28 K28 A28 => ?_)
  have KK28 : Keep h0 h28 [] := K15.trans K28 (allS (Or.inr zb15) all0)
  show Gl p e below _ (T28.setTop (mkF m 31 _ []))
  refine Gl.aloadN Y28 rfl rfl dE_31 rfl ?_
  exact Gl.retA Y28 (by decide) (by decide) rfl rfl dE_32 ⟨b15, ck15, rfl, KK28, zb15, A28⟩
def R12 : Room := { frames := 0, cells := 0, slots := 0, locals := 0 }
def Q12 (Z : State) (h0 : Heap) (v : Option Value) (h : Heap) : Prop := v = some (.int 3) ∧ h0 = h
theorem ef12 (m : MethodId) : entryFrame m #[(.int 1024), (.int 3)] 2 = mkF m 0 #[.val (.int 1024), .val (.int 3)] [] := by first | (simp [entryFrame, mkF, argsToLocals, Value.category]; done) | rfl
theorem rm12 (hw : HW a0 Z) (h0 : Heap) (n0 : Nat) (Z0 : n0 ≤ h0.size) : OMet l Z [] (⟨"java/lang/Math", "min", "(II)I"⟩ : MethodName) jdk_29_method_69_code 2 (some .int) R12 #[(.int 1024), (.int 3)] h0 n0 (Q12 Z h0) := by
  refine OMet.of (own := "java/lang/Math") rfl (Jvm.Free.JP.mathPlain rfl (by decide +kernel)) (ef12) Z0 ?_
  intro p e s m below meth c T0 Y0 hnm
  refine Gl.iloadN Y0 rfl dD_0 rfl ?_
  refine Gl.iloadN Y0 rfl dD_1 rfl ?_
  refine Gl.icmpgt Y0 dD_2 (by decide) rfl rfl (fun c2 => ?_) (fun c2 => ?_)
  rotate_left
  · exact absurd c2 (by decide)
  refine Gl.iloadN Y0 rfl dD_9 rfl ?_
  exact Gl.retI Y0 (by decide) (by decide)  dD_10 ⟨rfl, rfl⟩
def R13 : Room := { frames := 1, cells := 1, slots := 3, locals := 18 }
def Q13 (Z : State) (b : Addr) (kb : ClassId) (x0 x1 x2 : Int64) (h0 : Heap) (v : Option Value) (h : Heap) : Prop := ∃ d : Addr, ∃ kd : ClassId, v = some (.ref d) ∧ Keep h0 h [] ∧ h0.size ≤ d ∧ Arv Z h d kd .long (3 : Int32) [(.long x0), (.long x1), (.long x2)] (.long 0)
theorem ef13 (b : Addr) (m : MethodId) : entryFrame m #[(.ref b), (.int 3)] 3 = mkF m 0 #[.val (.ref b), .val (.int 3), .unset] [] := by first | (simp [entryFrame, mkF, argsToLocals, Value.category]; done) | rfl
theorem rm13 (hw : HW a0 Z) (b : Addr) (kb : ClassId) (x0 x1 x2 : Int64) (h0 : Heap) (n0 : Nat) (Z0 : n0 ≤ h0.size) (V : Arv Z h0 b kb .long (1024 : Int32) [(.long x0), (.long x1), (.long x2)] (.long 0)) : OMet l Z [] (⟨"java/util/Arrays", "copyOf", "([JI)[J"⟩ : MethodName) jdk_65_method_124_code 3 (some (.array .long)) R13 #[(.ref b), (.int 3)] h0 n0 (Q13 Z b kb x0 x1 x2 h0) := by
  refine OMet.of (own := "java/util/Arrays") rfl (plainFor_of_name pn_1) (ef13 b) Z0 ?_
  intro p e s m below meth c T0 Y0 hnm
  refine Gl.iloadN Y0 rfl dE_0 rfl ?_
  refine Gl.aloadN Y0 rfl rfl dE_1 rfl ?_
  refine Gl.arraylength Y0 V dE_2 rfl ?_
  refine Gl.icmpne Y0 dE_3 (by decide) rfl rfl (fun c3 => ?_) (fun c3 => ?_)
  rotate_left
  · exact absurd c3 (by decide)
  refine Gl.iloadN Y0 rfl dE_14 rfl ?_
  refine Gl.newP Y0 3 (ty := .long) rfl (tw_9 hw) (by decide) (by decide) (nle rfl) (nle rfl) (nle rfl) dE_15 rfl (fun T15 h15 b15 ck15 Y15 E15 g15 sb15 V15 => ?_)
  have V15 : Arv Z h15 b15 ck15 .long (3 : Int32) [(.long 0), (.long 0), (.long 0)] (.long 0) := V15.pad (pad_rep [] (.long 0) 3)
  have zb15 : h0.size ≤ b15 := Nat.le_trans (Keep.refl h0 []).1 (Nat.le_of_eq g15.symm)
  have K15 : Keep h0 h15 [] := (Keep.refl h0 []).ext E15
  show Gl p e below _ (T15.setTop (mkF m 17 _ [(.ref b15)]))
  refine Gl.astoreN Y15 rfl (L' := #[.val (.ref b), .val (.int 3), .val (.ref b15)]) rfl dE_17 rfl ?_
  refine Gl.aloadN Y15 rfl rfl dE_18 rfl ?_
  refine Gl.iconst Y15 (v := (0 : Int32)) (by decide) dE_19 rfl ?_
  refine Gl.aloadN Y15 rfl rfl dE_20 rfl ?_
  refine Gl.iconst Y15 (v := (0 : Int32)) (by decide) dE_21 rfl ?_
  refine Gl.aloadN Y15 rfl rfl dE_22 rfl ?_
  have f1 := (V.ext E15)
  refine Gl.arraylength Y15 f1 dE_23 rfl ?_
  refine Gl.iloadN Y15 rfl dE_24 rfl ?_
  refine Gl.callS Y15 (tw_33 hw) (tw_34 hw) (tw_35 hw) (tw_36 hw) (by decide) (rm12 l Z a0 hw h15 n0 Y15.sz) (argsL := [(.int 1024), (.int 3)]) (rest := [(.int 0), (.ref b15), (.int 0), (.ref b)]) rfl rfl (lenOf pd_0 rfl) rfl (by decide) (nle rfl) (by decide) (by decide) dE_25 rfl (fun v25 T25 h25 Y25 q25 => ?_)
  obtain ⟨rfl, rfl⟩ := q25
  show Gl p e below _ (T25.setTop (mkF m 28 _ [(.int 3), (.int 0), (.ref b15), (.int 0), (.ref b)]))
  refine Gl.cpy Y25 (tw_37 hw) (tw_40 hw) (tw_38 hw) (tw_39 hw) f1 V15 rfl (by decide) (by decide) (by decide) (by decide) (by decide) (us := [(.long x0), (.long x1), (.long x2)]) rfl (nle rfl) (vr := [(.long x0), (.long x1), (.long x2)]) rfl sb15 rfl (by decide) (nle rfl) dE_28 rfl (fun T28 h28 Y28 K28 A28 => ?_)
  have KK28 : Keep h0 h28 [] := K15.trans K28 (allS (Or.inr zb15) all0)
  show Gl p e below _ (T28.setTop (mkF m 31 _ []))
  refine Gl.aloadN Y28 rfl rfl dE_31 rfl ?_
  exact Gl.retA Y28 (by decide) (by decide) rfl rfl dE_32 ⟨b15, ck15, rfl, KK28, zb15, A28⟩
theorem dF_0 : decode jdk_29_method_65_code 0 = .ok (.iload_n 0, 1) := by decide +kernel
theorem dF_1 : decode jdk_29_method_65_code 1 = .ok (.iload_n 1, 1) := by decide +kernel
theorem dF_2 : decode jdk_29_method_65_code 2 = .ok (.if_icmp .lt 7, 3) := by decide +kernel
theorem dF_9 : decode jdk_29_method_65_code 9 = .ok (.iload_n 1, 1) := by decide +kernel
theorem dF_10 : decode jdk_29_method_65_code 10 = .ok (.ireturn, 1) := by decide +kernel
def R14 : Room := { frames := 0, cells := 0, slots := 0, locals := 0 }
def Q14 (Z : State) (h0 : Heap) (v : Option Value) (h : Heap) : Prop := v = some (.int 1) ∧ h0 = h
theorem ef14 (m : MethodId) : entryFrame m #[(.int 0), (.int 1)] 2 = mkF m 0 #[.val (.int 0), .val (.int 1)] [] := by first | (simp [entryFrame, mkF, argsToLocals, Value.category]; done) | rfl
theorem rm14 (hw : HW a0 Z) (h0 : Heap) (n0 : Nat) (Z0 : n0 ≤ h0.size) : OMet l Z [] (⟨"java/lang/Math", "max", "(II)I"⟩ : MethodName) jdk_29_method_65_code 2 (some .int) R14 #[(.int 0), (.int 1)] h0 n0 (Q14 Z h0) := by
  refine OMet.of (own := "java/lang/Math") rfl (Jvm.Free.JP.mathPlain rfl (by decide +kernel)) (ef14) Z0 ?_
  intro p e s m below meth c T0 Y0 hnm
  refine Gl.iloadN Y0 rfl dF_0 rfl ?_
  refine Gl.iloadN Y0 rfl dF_1 rfl ?_
  refine Gl.icmplt Y0 dF_2 (by decide) rfl rfl (fun c2 => ?_) (fun c2 => ?_)
  rotate_left
  · exact absurd c2 (by decide)
  refine Gl.iloadN Y0 rfl dF_9 rfl ?_
  exact Gl.retI Y0 (by decide) (by decide)  dF_10 ⟨rfl, rfl⟩
theorem dF_5 : decode jdk_29_method_65_code 5 = .ok (.iload_n 0, 1) := by decide +kernel
theorem dF_6 : decode jdk_29_method_65_code 6 = .ok (.goto 4, 3) := by decide +kernel
def R15 : Room := { frames := 0, cells := 0, slots := 0, locals := 0 }
def Q15 (Z : State) (h0 : Heap) (v : Option Value) (h : Heap) : Prop := v = some (.int 1) ∧ h0 = h
theorem ef15 (m : MethodId) : entryFrame m #[(.int 1), (.int 1)] 2 = mkF m 0 #[.val (.int 1), .val (.int 1)] [] := by first | (simp [entryFrame, mkF, argsToLocals, Value.category]; done) | rfl
theorem rm15 (hw : HW a0 Z) (h0 : Heap) (n0 : Nat) (Z0 : n0 ≤ h0.size) : OMet l Z [] (⟨"java/lang/Math", "max", "(II)I"⟩ : MethodName) jdk_29_method_65_code 2 (some .int) R15 #[(.int 1), (.int 1)] h0 n0 (Q15 Z h0) := by
  refine OMet.of (own := "java/lang/Math") rfl (Jvm.Free.JP.mathPlain rfl (by decide +kernel)) (ef15) Z0 ?_
  intro p e s m below meth c T0 Y0 hnm
  refine Gl.iloadN Y0 rfl dF_0 rfl ?_
  refine Gl.iloadN Y0 rfl dF_1 rfl ?_
  refine Gl.icmplt Y0 dF_2 (by decide) rfl rfl (fun c2 => ?_) (fun c2 => ?_)
  · exact absurd c2 (by decide)
  refine Gl.iloadN Y0 rfl dF_5 rfl ?_
  refine Gl.goto Y0 dF_6 (by decide) rfl ?_
  exact Gl.retI Y0 (by decide) (by decide)  dF_10 ⟨rfl, rfl⟩
def R16 : Room := { frames := 0, cells := 0, slots := 0, locals := 0 }
def Q16 (Z : State) (h0 : Heap) (v : Option Value) (h : Heap) : Prop := v = some (.int 2) ∧ h0 = h
theorem ef16 (m : MethodId) : entryFrame m #[(.int 2), (.int 1)] 2 = mkF m 0 #[.val (.int 2), .val (.int 1)] [] := by first | (simp [entryFrame, mkF, argsToLocals, Value.category]; done) | rfl
theorem rm16 (hw : HW a0 Z) (h0 : Heap) (n0 : Nat) (Z0 : n0 ≤ h0.size) : OMet l Z [] (⟨"java/lang/Math", "max", "(II)I"⟩ : MethodName) jdk_29_method_65_code 2 (some .int) R16 #[(.int 2), (.int 1)] h0 n0 (Q16 Z h0) := by
  refine OMet.of (own := "java/lang/Math") rfl (Jvm.Free.JP.mathPlain rfl (by decide +kernel)) (ef16) Z0 ?_
  intro p e s m below meth c T0 Y0 hnm
  refine Gl.iloadN Y0 rfl dF_0 rfl ?_
  refine Gl.iloadN Y0 rfl dF_1 rfl ?_
  refine Gl.icmplt Y0 dF_2 (by decide) rfl rfl (fun c2 => ?_) (fun c2 => ?_)
  · exact absurd c2 (by decide)
  refine Gl.iloadN Y0 rfl dF_5 rfl ?_
  refine Gl.goto Y0 dF_6 (by decide) rfl ?_
  exact Gl.retI Y0 (by decide) (by decide)  dF_10 ⟨rfl, rfl⟩
def R17 : Room := { frames := 0, cells := 0, slots := 0, locals := 0 }
def Q17 (Z : State) (h0 : Heap) (v : Option Value) (h : Heap) : Prop := v = some (.int 3) ∧ h0 = h
theorem ef17 (m : MethodId) : entryFrame m #[(.int 3), (.int 1)] 2 = mkF m 0 #[.val (.int 3), .val (.int 1)] [] := by first | (simp [entryFrame, mkF, argsToLocals, Value.category]; done) | rfl
theorem rm17 (hw : HW a0 Z) (h0 : Heap) (n0 : Nat) (Z0 : n0 ≤ h0.size) : OMet l Z [] (⟨"java/lang/Math", "max", "(II)I"⟩ : MethodName) jdk_29_method_65_code 2 (some .int) R17 #[(.int 3), (.int 1)] h0 n0 (Q17 Z h0) := by
  refine OMet.of (own := "java/lang/Math") rfl (Jvm.Free.JP.mathPlain rfl (by decide +kernel)) (ef17) Z0 ?_
  intro p e s m below meth c T0 Y0 hnm
  refine Gl.iloadN Y0 rfl dF_0 rfl ?_
  refine Gl.iloadN Y0 rfl dF_1 rfl ?_
  refine Gl.icmplt Y0 dF_2 (by decide) rfl rfl (fun c2 => ?_) (fun c2 => ?_)
  · exact absurd c2 (by decide)
  refine Gl.iloadN Y0 rfl dF_5 rfl ?_
  refine Gl.goto Y0 dF_6 (by decide) rfl ?_
  exact Gl.retI Y0 (by decide) (by decide)  dF_10 ⟨rfl, rfl⟩
theorem dG_0 : decode jdk_2529_method_15_code 0 = .ok (.iload_n 1, 1) := by decide +kernel
theorem dG_1 : decode jdk_2529_method_15_code 1 = .ok (.istore 4, 2) := by decide +kernel
theorem dG_3 : decode jdk_2529_method_15_code 3 = .ok (.iinc 4 1, 3) := by decide +kernel
theorem dG_6 : decode jdk_2529_method_15_code 6 = .ok (.iload 4, 2) := by decide +kernel
theorem dG_8 : decode jdk_2529_method_15_code 8 = .ok (.iload_n 2, 1) := by decide +kernel
theorem dG_9 : decode jdk_2529_method_15_code 9 = .ok (.if_icmp .ge 60, 3) := by decide +kernel
theorem dG_69 : decode jdk_2529_method_15_code 69 = .ok (.return_, 1) := by decide +kernel
def R18 : Room := { frames := 0, cells := 0, slots := 0, locals := 0 }
def Q18 (Z : State) (d : Addr) (kd : ClassId) (x0 : Int64) (h0 : Heap) (v : Option Value) (h : Heap) : Prop := ∃ r0 : Int64, v = none ∧ (r0 = x0) ∧ Keep h0 h [d] ∧ Arv Z h d kd .long (1 : Int32) [(.long r0)] (.long 0)
theorem ef18 (d : Addr) (m : MethodId) : entryFrame m #[(.ref d), (.int 0), (.int 1)] 7 = mkF m 0 #[.val (.ref d), .val (.int 0), .val (.int 1), .unset, .unset, .unset, .unset] [] := by first | (simp [entryFrame, mkF, argsToLocals, Value.category]; done) | rfl
theorem pn_2 : plainName "java/util/DualPivotQuicksort" = true := by first | (simp [plainName, overriddenIn]; done) | decide +kernel
theorem rm18 (hw : HW a0 Z) (d : Addr) (kd : ClassId) (x0 : Int64) (h0 : Heap) (n0 : Nat) (Z0 : n0 ≤ h0.size) (V : Arv Z h0 d kd .long (1 : Int32) [(.long x0)] (.long 0)) (gd : n0 ≤ d) : OMet l Z [] (⟨"java/util/DualPivotQuicksort", "insertionSort", "([JII)V"⟩ : MethodName) jdk_2529_method_15_code 7 none R18 #[(.ref d), (.int 0), (.int 1)] h0 n0 (Q18 Z d kd x0 h0) := by
  refine OMet.of (own := "java/util/DualPivotQuicksort") rfl (plainFor_of_name pn_2) (ef18 d) Z0 ?_
  intro p e s m below meth c T0 Y0 hnm
  refine Gl.iloadN Y0 rfl dG_0 rfl ?_
  refine Gl.istore Y0 (L' := #[.val (.ref d), .val (.int 0), .val (.int 1), .unset, .val (.int 0), .unset, .unset]) rfl dG_1 rfl ?_
  refine Gl.iinc Y0 rfl (r := (1 : Int32)) (by decide) (L' := #[.val (.ref d), .val (.int 0), .val (.int 1), .unset, .val (.int 1), .unset, .unset]) rfl dG_3 rfl ?_
  refine Gl.iload Y0 rfl dG_6 rfl ?_
  refine Gl.iloadN Y0 rfl dG_8 rfl ?_
  refine Gl.icmpge Y0 dG_9 (by decide) rfl rfl (fun c9 => ?_) (fun c9 => ?_)
  rotate_left
  · exact absurd c9 (by decide)
  exact Gl.retV Y0 (by decide) (by decide)  dG_69 ⟨x0, rfl, rfl, (Keep.refl h0 [d]), V⟩
theorem dH_0 : decode jdk_2529_method_13_code 0 = .ok (.iload 4, 2) := by decide +kernel
theorem dH_2 : decode jdk_2529_method_13_code 2 = .ok (.iconst 1, 1) := by decide +kernel
theorem dH_3 : decode jdk_2529_method_13_code 3 = .ok (.isub, 1) := by decide +kernel
theorem dH_4 : decode jdk_2529_method_13_code 4 = .ok (.istore 5, 2) := by decide +kernel
theorem dH_6 : decode jdk_2529_method_13_code 6 = .ok (.iload 4, 2) := by decide +kernel
theorem dH_8 : decode jdk_2529_method_13_code 8 = .ok (.iload_n 3, 1) := by decide +kernel
theorem dH_9 : decode jdk_2529_method_13_code 9 = .ok (.isub, 1) := by decide +kernel
theorem dH_10 : decode jdk_2529_method_13_code 10 = .ok (.istore 6, 2) := by decide +kernel
theorem dH_12 : decode jdk_2529_method_13_code 12 = .ok (.iload 6, 2) := by decide +kernel
theorem dH_14 : decode jdk_2529_method_13_code 14 = .ok (.bipush 65, 2) := by decide +kernel
theorem dH_16 : decode jdk_2529_method_13_code 16 = .ok (.iload_n 2, 1) := by decide +kernel
theorem dH_17 : decode jdk_2529_method_13_code 17 = .ok (.iadd, 1) := by decide +kernel
theorem dH_18 : decode jdk_2529_method_13_code 18 = .ok (.if_icmp .ge 28, 3) := by decide +kernel
theorem dH_21 : decode jdk_2529_method_13_code 21 = .ok (.iload_n 2, 1) := by decide +kernel
theorem dH_22 : decode jdk_2529_method_13_code 22 = .ok (.iconst 1, 1) := by decide +kernel
theorem dH_23 : decode jdk_2529_method_13_code 23 = .ok (.iand, 1) := by decide +kernel
theorem dH_24 : decode jdk_2529_method_13_code 24 = .ok (.ifCond .le 22, 3) := by decide +kernel
theorem dH_46 : decode jdk_2529_method_13_code 46 = .ok (.iload 6, 2) := by decide +kernel
theorem dH_48 : decode jdk_2529_method_13_code 48 = .ok (.bipush 44, 2) := by decide +kernel
theorem dH_50 : decode jdk_2529_method_13_code 50 = .ok (.if_icmp .ge 11, 3) := by decide +kernel
theorem dH_53 : decode jdk_2529_method_13_code 53 = .ok (.aload_n 1, 1) := by decide +kernel
theorem dH_54 : decode jdk_2529_method_13_code 54 = .ok (.iload_n 3, 1) := by decide +kernel
theorem dH_55 : decode jdk_2529_method_13_code 55 = .ok (.iload 4, 2) := by decide +kernel
theorem dH_57 : decode jdk_2529_method_13_code 57 = .ok (.invokestatic 105, 3) := by decide +kernel
theorem tw_51 {a0 : Array Value} {Z : State} (hw : HW a0 Z) : (Jvm.Cond.methodLink "java/util/DualPivotQuicksort" (105 : Nat) ({ cls := "java/util/DualPivotQuicksort", name := "insertionSort", desc := "([JII)V" } : Jvm.MethodName)).before a0 Z = true := hw _ (List.mem_of_getElem? (i := 51) rfl)
theorem pd_1 : parseMethodDescriptor "([JII)V" = some ⟨[(.array .long), .int, .int], none⟩ := by decide +kernel
theorem tw_53 {a0 : Array Value} {Z : State} (hw : HW a0 Z) : (Jvm.Cond.code ({ cls := "java/util/DualPivotQuicksort", name := "insertionSort", desc := "([JII)V" } : Jvm.MethodName) jdk_2529_method_15_code (7 : Nat) (Option.none : Option Jvm.ClassFile.FieldType)).before a0 Z = true := hw _ (List.mem_of_getElem? (i := 53) rfl)
theorem tw_46 {a0 : Array Value} {Z : State} (hw : HW a0 Z) : (Jvm.Cond.initialized "java/util/DualPivotQuicksort").before a0 Z = true := hw _ (List.mem_of_getElem? (i := 46) rfl)
theorem tw_52 {a0 : Array Value} {Z : State} (hw : HW a0 Z) : (Jvm.Cond.static ({ cls := "java/util/DualPivotQuicksort", name := "insertionSort", desc := "([JII)V" } : Jvm.MethodName)).before a0 Z = true := hw _ (List.mem_of_getElem? (i := 52) rfl)
theorem dH_60 : decode jdk_2529_method_13_code 60 = .ok (.return_, 1) := by decide +kernel
def R19 : Room := { frames := 1, cells := 0, slots := 0, locals := 18 }
def Q19 (Z : State) (d : Addr) (kd : ClassId) (x0 : Int64) (h0 : Heap) (v : Option Value) (h : Heap) : Prop := ∃ r0 : Int64, v = none ∧ (r0 = x0) ∧ Keep h0 h [d] ∧ Arv Z h d kd .long (1 : Int32) [(.long r0)] (.long 0)
theorem ef19 (d : Addr) (m : MethodId) : entryFrame m #[.null, (.ref d), (.int 0), (.int 0), (.int 1)] 25 = mkF m 0 #[.val .null, .val (.ref d), .val (.int 0), .val (.int 0), .val (.int 1), .unset, .unset, .unset, .unset, .unset, .unset, .unset, .unset, .unset, .unset, .unset, .unset, .unset, .unset, .unset, .unset, .unset, .unset, .unset, .unset] [] := by first | (simp [entryFrame, mkF, argsToLocals, Value.category]; done) | rfl
theorem rm19 (hw : HW a0 Z) (d : Addr) (kd : ClassId) (x0 : Int64) (h0 : Heap) (n0 : Nat) (Z0 : n0 ≤ h0.size) (V : Arv Z h0 d kd .long (1 : Int32) [(.long x0)] (.long 0)) (gd : n0 ≤ d) : OMet l Z [] (⟨"java/util/DualPivotQuicksort", "sort", "(Ljava/util/DualPivotQuicksort$Sorter;[JIII)V"⟩ : MethodName) jdk_2529_method_13_code 25 none R19 #[.null, (.ref d), (.int 0), (.int 0), (.int 1)] h0 n0 (Q19 Z d kd x0 h0) := by
  refine OMet.of (own := "java/util/DualPivotQuicksort") rfl (plainFor_of_name pn_2) (ef19 d) Z0 ?_
  intro p e s m below meth c T0 Y0 hnm
  refine Gl.iload Y0 rfl dH_0 rfl ?_
  refine Gl.iconst Y0 (v := (1 : Int32)) (by decide) dH_2 rfl ?_
  refine Gl.isub Y0 (r := (0 : Int32)) (by decide) dH_3 rfl ?_
  refine Gl.istore Y0 (L' := #[.val .null, .val (.ref d), .val (.int 0), .val (.int 0), .val (.int 1), .val (.int 0), .unset, .unset, .unset, .unset, .unset, .unset, .unset, .unset, .unset, .unset, .unset, .unset, .unset, .unset, .unset, .unset, .unset, .unset, .unset]) rfl dH_4 rfl ?_
  refine Gl.iload Y0 rfl dH_6 rfl ?_
  refine Gl.iloadN Y0 rfl dH_8 rfl ?_
  refine Gl.isub Y0 (r := (1 : Int32)) (by decide) dH_9 rfl ?_
  refine Gl.istore Y0 (L' := #[.val .null, .val (.ref d), .val (.int 0), .val (.int 0), .val (.int 1), .val (.int 0), .val (.int 1), .unset, .unset, .unset, .unset, .unset, .unset, .unset, .unset, .unset, .unset, .unset, .unset, .unset, .unset, .unset, .unset, .unset, .unset]) rfl dH_10 rfl ?_
  refine Gl.iload Y0 rfl dH_12 rfl ?_
  refine Gl.bipush Y0 (v := (65 : Int32)) (by decide) dH_14 rfl ?_
  refine Gl.iloadN Y0 rfl dH_16 rfl ?_
  refine Gl.iadd Y0 (r := (65 : Int32)) (by decide) dH_17 rfl ?_
  refine Gl.icmpge Y0 dH_18 (by decide) rfl rfl (fun c18 => ?_) (fun c18 => ?_)
  · exact absurd c18 (by decide)
  refine Gl.iloadN Y0 rfl dH_21 rfl ?_
  refine Gl.iconst Y0 (v := (1 : Int32)) (by decide) dH_22 rfl ?_
  refine Gl.iand Y0 (r := (0 : Int32)) (by decide) dH_23 rfl ?_
  refine Gl.ifle Y0 dH_24 (by decide) rfl rfl (fun c24 => ?_) (fun c24 => ?_)
  rotate_left
  · exact absurd c24 (by decide)
  refine Gl.iload Y0 rfl dH_46 rfl ?_
  refine Gl.bipush Y0 (v := (44 : Int32)) (by decide) dH_48 rfl ?_
  refine Gl.icmpge Y0 dH_50 (by decide) rfl rfl (fun c50 => ?_) (fun c50 => ?_)
  · exact absurd c50 (by decide)
  refine Gl.aloadN Y0 rfl rfl dH_53 rfl ?_
  refine Gl.iloadN Y0 rfl dH_54 rfl ?_
  refine Gl.iload Y0 rfl dH_55 rfl ?_
  refine Gl.callS Y0 (tw_51 hw) (tw_52 hw) (tw_46 hw) (tw_53 hw) (by decide) (rm18 l Z a0 hw d kd x0 h0 n0 Y0.sz V gd) (argsL := [(.ref d), (.int 0), (.int 1)]) (rest := []) rfl rfl (lenOf pd_1 rfl) rfl (by decide) (nle rfl) (by decide) (by decide) dH_57 rfl (fun v57 T57 h57 Y57 q57 => ?_)
  obtain ⟨r057, rfl, p57, K57, f57_0⟩ := q57
  have KK57 : Keep h0 h57 [d] := (Keep.refl h0 [d]).trans K57 (allS (Or.inl (List.mem_of_getElem? (i := 0) rfl)) all0)
  show Gl p e below _ (T57.setTop (mkF m 60 _ []))
  exact Gl.retV Y57 (by decide) (by decide)  dH_60 ⟨r057, rfl, p57, KK57, f57_0⟩
theorem dI_0 : decode jdk_2529_method_12_code 0 = .ok (.iload_n 3, 1) := by decide +kernel
theorem dI_1 : decode jdk_2529_method_12_code 1 = .ok (.iload_n 2, 1) := by decide +kernel
theorem dI_2 : decode jdk_2529_method_12_code 2 = .ok (.isub, 1) := by decide +kernel
theorem dI_3 : decode jdk_2529_method_12_code 3 = .ok (.istore 4, 2) := by decide +kernel
theorem dI_5 : decode jdk_2529_method_12_code 5 = .ok (.iload_n 1, 1) := by decide +kernel
theorem dI_6 : decode jdk_2529_method_12_code 6 = .ok (.iconst 1, 1) := by decide +kernel
theorem dI_7 : decode jdk_2529_method_12_code 7 = .ok (.if_icmp .le 61, 3) := by decide +kernel
theorem dI_68 : decode jdk_2529_method_12_code 68 = .ok (.aconst_null, 1) := by decide +kernel
theorem dI_69 : decode jdk_2529_method_12_code 69 = .ok (.aload_n 0, 1) := by decide +kernel
theorem dI_70 : decode jdk_2529_method_12_code 70 = .ok (.iconst 0, 1) := by decide +kernel
theorem dI_71 : decode jdk_2529_method_12_code 71 = .ok (.iload_n 2, 1) := by decide +kernel
theorem dI_72 : decode jdk_2529_method_12_code 72 = .ok (.iload_n 3, 1) := by decide +kernel
theorem dI_73 : decode jdk_2529_method_12_code 73 = .ok (.invokestatic 99, 3) := by decide +kernel
theorem tw_48 {a0 : Array Value} {Z : State} (hw : HW a0 Z) : (Jvm.Cond.methodLink "java/util/DualPivotQuicksort" (99 : Nat) ({ cls := "java/util/DualPivotQuicksort", name := "sort", desc := "(Ljava/util/DualPivotQuicksort$Sorter;[JIII)V" } : Jvm.MethodName)).before a0 Z = true := hw _ (List.mem_of_getElem? (i := 48) rfl)
theorem pd_2 : parseMethodDescriptor "(Ljava/util/DualPivotQuicksort$Sorter;[JIII)V" = some ⟨[(.object "java/util/DualPivotQuicksort$Sorter"), (.array .long), .int, .int, .int], none⟩ := by decide +kernel
theorem tw_50 {a0 : Array Value} {Z : State} (hw : HW a0 Z) : (Jvm.Cond.code ({ cls := "java/util/DualPivotQuicksort", name := "sort", desc := "(Ljava/util/DualPivotQuicksort$Sorter;[JIII)V" } : Jvm.MethodName) jdk_2529_method_13_code (25 : Nat) (Option.none : Option Jvm.ClassFile.FieldType)).before a0 Z = true := hw _ (List.mem_of_getElem? (i := 50) rfl)
theorem tw_49 {a0 : Array Value} {Z : State} (hw : HW a0 Z) : (Jvm.Cond.static ({ cls := "java/util/DualPivotQuicksort", name := "sort", desc := "(Ljava/util/DualPivotQuicksort$Sorter;[JIII)V" } : Jvm.MethodName)).before a0 Z = true := hw _ (List.mem_of_getElem? (i := 49) rfl)
theorem dI_76 : decode jdk_2529_method_12_code 76 = .ok (.return_, 1) := by decide +kernel
def R20 : Room := { frames := 2, cells := 0, slots := 0, locals := 54 }
def Q20 (Z : State) (d : Addr) (kd : ClassId) (x0 : Int64) (h0 : Heap) (v : Option Value) (h : Heap) : Prop := ∃ r0 : Int64, v = none ∧ (r0 = x0) ∧ Keep h0 h [d] ∧ Arv Z h d kd .long (1 : Int32) [(.long r0)] (.long 0)
theorem ef20 (d : Addr) (m : MethodId) : entryFrame m #[(.ref d), (.int 0), (.int 0), (.int 1)] 7 = mkF m 0 #[.val (.ref d), .val (.int 0), .val (.int 0), .val (.int 1), .unset, .unset, .unset] [] := by first | (simp [entryFrame, mkF, argsToLocals, Value.category]; done) | rfl
theorem rm20 (hw : HW a0 Z) (d : Addr) (kd : ClassId) (x0 : Int64) (h0 : Heap) (n0 : Nat) (Z0 : n0 ≤ h0.size) (V : Arv Z h0 d kd .long (1 : Int32) [(.long x0)] (.long 0)) (gd : n0 ≤ d) : OMet l Z [] (⟨"java/util/DualPivotQuicksort", "sort", "([JIII)V"⟩ : MethodName) jdk_2529_method_12_code 7 none R20 #[(.ref d), (.int 0), (.int 0), (.int 1)] h0 n0 (Q20 Z d kd x0 h0) := by
  refine OMet.of (own := "java/util/DualPivotQuicksort") rfl (plainFor_of_name pn_2) (ef20 d) Z0 ?_
  intro p e s m below meth c T0 Y0 hnm
  refine Gl.iloadN Y0 rfl dI_0 rfl ?_
  refine Gl.iloadN Y0 rfl dI_1 rfl ?_
  refine Gl.isub Y0 (r := (1 : Int32)) (by decide) dI_2 rfl ?_
  refine Gl.istore Y0 (L' := #[.val (.ref d), .val (.int 0), .val (.int 0), .val (.int 1), .val (.int 1), .unset, .unset]) rfl dI_3 rfl ?_
  refine Gl.iloadN Y0 rfl dI_5 rfl ?_
  refine Gl.iconst Y0 (v := (1 : Int32)) (by decide) dI_6 rfl ?_
  refine Gl.icmple Y0 dI_7 (by decide) rfl rfl (fun c7 => ?_) (fun c7 => ?_)
  rotate_left
  · exact absurd c7 (by decide)
  refine Gl.aconstNull Y0 dI_68 rfl ?_
  refine Gl.aloadN Y0 rfl rfl dI_69 rfl ?_
  refine Gl.iconst Y0 (v := (0 : Int32)) (by decide) dI_70 rfl ?_
  refine Gl.iloadN Y0 rfl dI_71 rfl ?_
  refine Gl.iloadN Y0 rfl dI_72 rfl ?_
  refine Gl.callS Y0 (tw_48 hw) (tw_49 hw) (tw_46 hw) (tw_50 hw) (by decide) (rm19 l Z a0 hw d kd x0 h0 n0 Y0.sz V gd) (argsL := [.null, (.ref d), (.int 0), (.int 0), (.int 1)]) (rest := []) rfl rfl (lenOf pd_2 rfl) rfl (by decide) (nle rfl) (by decide) (by decide) dI_73 rfl (fun v73 T73 h73 Y73 q73 => ?_)
  obtain ⟨r073, rfl, p73, K73, f73_0⟩ := q73
  have KK73 : Keep h0 h73 [d] := (Keep.refl h0 [d]).trans K73 (allS (Or.inl (List.mem_of_getElem? (i := 0) rfl)) all0)
  show Gl p e below _ (T73.setTop (mkF m 76 _ []))
  exact Gl.retV Y73 (by decide) (by decide)  dI_76 ⟨r073, rfl, p73, KK73, f73_0⟩
theorem dJ_0 : decode jdk_65_method_4_code 0 = .ok (.aload_n 0, 1) := by decide +kernel
theorem dJ_1 : decode jdk_65_method_4_code 1 = .ok (.iconst 0, 1) := by decide +kernel
theorem dJ_2 : decode jdk_65_method_4_code 2 = .ok (.iconst 0, 1) := by decide +kernel
theorem dJ_3 : decode jdk_65_method_4_code 3 = .ok (.aload_n 0, 1) := by decide +kernel
theorem dJ_4 : decode jdk_65_method_4_code 4 = .ok (.arraylength, 1) := by decide +kernel
theorem dJ_5 : decode jdk_65_method_4_code 5 = .ok (.invokestatic 19, 3) := by decide +kernel
theorem tw_44 {a0 : Array Value} {Z : State} (hw : HW a0 Z) : (Jvm.Cond.methodLink "java/util/Arrays" (19 : Nat) ({ cls := "java/util/DualPivotQuicksort", name := "sort", desc := "([JIII)V" } : Jvm.MethodName)).before a0 Z = true := hw _ (List.mem_of_getElem? (i := 44) rfl)
theorem pd_3 : parseMethodDescriptor "([JIII)V" = some ⟨[(.array .long), .int, .int, .int], none⟩ := by decide +kernel
theorem tw_47 {a0 : Array Value} {Z : State} (hw : HW a0 Z) : (Jvm.Cond.code ({ cls := "java/util/DualPivotQuicksort", name := "sort", desc := "([JIII)V" } : Jvm.MethodName) jdk_2529_method_12_code (7 : Nat) (Option.none : Option Jvm.ClassFile.FieldType)).before a0 Z = true := hw _ (List.mem_of_getElem? (i := 47) rfl)
theorem tw_45 {a0 : Array Value} {Z : State} (hw : HW a0 Z) : (Jvm.Cond.static ({ cls := "java/util/DualPivotQuicksort", name := "sort", desc := "([JIII)V" } : Jvm.MethodName)).before a0 Z = true := hw _ (List.mem_of_getElem? (i := 45) rfl)
theorem dJ_8 : decode jdk_65_method_4_code 8 = .ok (.return_, 1) := by decide +kernel
def R21 : Room := { frames := 3, cells := 0, slots := 0, locals := 72 }
def Q21 (Z : State) (d : Addr) (kd : ClassId) (x0 : Int64) (h0 : Heap) (v : Option Value) (h : Heap) : Prop := ∃ r0 : Int64, v = none ∧ (r0 = x0) ∧ Keep h0 h [d] ∧ Arv Z h d kd .long (1 : Int32) [(.long r0)] (.long 0)
theorem ef21 (d : Addr) (m : MethodId) : entryFrame m #[(.ref d)] 1 = mkF m 0 #[.val (.ref d)] [] := by first | (simp [entryFrame, mkF, argsToLocals, Value.category]; done) | rfl
theorem rm21 (hw : HW a0 Z) (d : Addr) (kd : ClassId) (x0 : Int64) (h0 : Heap) (n0 : Nat) (Z0 : n0 ≤ h0.size) (V : Arv Z h0 d kd .long (1 : Int32) [(.long x0)] (.long 0)) (gd : n0 ≤ d) : OMet l Z [] (⟨"java/util/Arrays", "sort", "([J)V"⟩ : MethodName) jdk_65_method_4_code 1 none R21 #[(.ref d)] h0 n0 (Q21 Z d kd x0 h0) := by
  refine OMet.of (own := "java/util/Arrays") rfl (plainFor_of_name pn_1) (ef21 d) Z0 ?_
  intro p e s m below meth c T0 Y0 hnm
  refine Gl.aloadN Y0 rfl rfl dJ_0 rfl ?_
  refine Gl.iconst Y0 (v := (0 : Int32)) (by decide) dJ_1 rfl ?_
  refine Gl.iconst Y0 (v := (0 : Int32)) (by decide) dJ_2 rfl ?_
  refine Gl.aloadN Y0 rfl rfl dJ_3 rfl ?_
  refine Gl.arraylength Y0 V dJ_4 rfl ?_
  refine Gl.callS Y0 (tw_44 hw) (tw_45 hw) (tw_46 hw) (tw_47 hw) (by decide) (rm20 l Z a0 hw d kd x0 h0 n0 Y0.sz V gd) (argsL := [(.ref d), (.int 0), (.int 0), (.int 1)]) (rest := []) rfl rfl (lenOf pd_3 rfl) rfl (by decide) (nle rfl) (by decide) (by decide) dJ_5 rfl (fun v5 T5 h5 Y5 q5 => ?_)
  obtain ⟨r05, rfl, p5, K5, f5_0⟩ := q5
  have KK5 : Keep h0 h5 [d] := (Keep.refl h0 [d]).trans K5 (allS (Or.inl (List.mem_of_getElem? (i := 0) rfl)) all0)
  show Gl p e below _ (T5.setTop (mkF m 8 _ []))
  exact Gl.retV Y5 (by decide) (by decide)  dJ_8 ⟨r05, rfl, p5, KK5, f5_0⟩
theorem dG_12 : decode jdk_2529_method_15_code 12 = .ok (.aload_n 0, 1) := by decide +kernel
theorem dG_13 : decode jdk_2529_method_15_code 13 = .ok (.iload 4, 2) := by decide +kernel
theorem dG_15 : decode jdk_2529_method_15_code 15 = .ok (.dup, 1) := by decide +kernel
theorem dG_16 : decode jdk_2529_method_15_code 16 = .ok (.istore_n 3, 1) := by decide +kernel
theorem dG_17 : decode jdk_2529_method_15_code 17 = .ok (.laload, 1) := by decide +kernel
theorem dG_18 : decode jdk_2529_method_15_code 18 = .ok (.lstore 5, 2) := by decide +kernel
theorem dG_20 : decode jdk_2529_method_15_code 20 = .ok (.lload 5, 2) := by decide +kernel
theorem dG_22 : decode jdk_2529_method_15_code 22 = .ok (.aload_n 0, 1) := by decide +kernel
theorem dG_23 : decode jdk_2529_method_15_code 23 = .ok (.iload_n 3, 1) := by decide +kernel
theorem dG_24 : decode jdk_2529_method_15_code 24 = .ok (.iconst 1, 1) := by decide +kernel
theorem dG_25 : decode jdk_2529_method_15_code 25 = .ok (.isub, 1) := by decide +kernel
theorem dG_26 : decode jdk_2529_method_15_code 26 = .ok (.laload, 1) := by decide +kernel
theorem dG_27 : decode jdk_2529_method_15_code 27 = .ok (.lcmp, 1) := by decide +kernel
theorem dG_28 : decode jdk_2529_method_15_code 28 = .ok (.ifCond .ge 38, 3) := by decide +kernel
theorem dG_66 : decode jdk_2529_method_15_code 66 = .ok (.goto (-63), 3) := by decide +kernel
theorem dG_31 : decode jdk_2529_method_15_code 31 = .ok (.iinc 3 (-1), 3) := by decide +kernel
theorem dG_34 : decode jdk_2529_method_15_code 34 = .ok (.iload_n 3, 1) := by decide +kernel
theorem dG_35 : decode jdk_2529_method_15_code 35 = .ok (.iload_n 1, 1) := by decide +kernel
theorem dG_36 : decode jdk_2529_method_15_code 36 = .ok (.if_icmp .lt 23, 3) := by decide +kernel
theorem dG_39 : decode jdk_2529_method_15_code 39 = .ok (.lload 5, 2) := by decide +kernel
theorem dG_41 : decode jdk_2529_method_15_code 41 = .ok (.aload_n 0, 1) := by decide +kernel
theorem dG_42 : decode jdk_2529_method_15_code 42 = .ok (.iload_n 3, 1) := by decide +kernel
theorem dG_43 : decode jdk_2529_method_15_code 43 = .ok (.laload, 1) := by decide +kernel
theorem dG_44 : decode jdk_2529_method_15_code 44 = .ok (.lcmp, 1) := by decide +kernel
theorem dG_45 : decode jdk_2529_method_15_code 45 = .ok (.ifCond .ge 14, 3) := by decide +kernel
theorem dG_48 : decode jdk_2529_method_15_code 48 = .ok (.aload_n 0, 1) := by decide +kernel
theorem dG_49 : decode jdk_2529_method_15_code 49 = .ok (.iload_n 3, 1) := by decide +kernel
theorem dG_50 : decode jdk_2529_method_15_code 50 = .ok (.iconst 1, 1) := by decide +kernel
theorem dG_51 : decode jdk_2529_method_15_code 51 = .ok (.iadd, 1) := by decide +kernel
theorem dG_52 : decode jdk_2529_method_15_code 52 = .ok (.aload_n 0, 1) := by decide +kernel
theorem dG_53 : decode jdk_2529_method_15_code 53 = .ok (.iload_n 3, 1) := by decide +kernel
theorem dG_54 : decode jdk_2529_method_15_code 54 = .ok (.laload, 1) := by decide +kernel
theorem dG_55 : decode jdk_2529_method_15_code 55 = .ok (.lastore, 1) := by decide +kernel
theorem dG_56 : decode jdk_2529_method_15_code 56 = .ok (.goto (-25), 3) := by decide +kernel
theorem dG_59 : decode jdk_2529_method_15_code 59 = .ok (.aload_n 0, 1) := by decide +kernel
theorem dG_60 : decode jdk_2529_method_15_code 60 = .ok (.iload_n 3, 1) := by decide +kernel
theorem dG_61 : decode jdk_2529_method_15_code 61 = .ok (.iconst 1, 1) := by decide +kernel
theorem dG_62 : decode jdk_2529_method_15_code 62 = .ok (.iadd, 1) := by decide +kernel
theorem dG_63 : decode jdk_2529_method_15_code 63 = .ok (.lload 5, 2) := by decide +kernel
theorem dG_65 : decode jdk_2529_method_15_code 65 = .ok (.lastore, 1) := by decide +kernel
def R22 : Room := { frames := 0, cells := 0, slots := 0, locals := 0 }
def Q22 (Z : State) (d : Addr) (kd : ClassId) (x0 x1 : Int64) (h0 : Heap) (v : Option Value) (h : Heap) : Prop := ∃ r0 : Int64, ∃ r1 : Int64, v = none ∧ (S2 x0 x1 r0 r1) ∧ Keep h0 h [d] ∧ Arv Z h d kd .long (2 : Int32) [(.long r0), (.long r1)] (.long 0)
theorem ef22 (d : Addr) (m : MethodId) : entryFrame m #[(.ref d), (.int 0), (.int 2)] 7 = mkF m 0 #[.val (.ref d), .val (.int 0), .val (.int 2), .unset, .unset, .unset, .unset] [] := by first | (simp [entryFrame, mkF, argsToLocals, Value.category]; done) | rfl
theorem rm22 (hw : HW a0 Z) (d : Addr) (kd : ClassId) (x0 x1 : Int64) (h0 : Heap) (n0 : Nat) (Z0 : n0 ≤ h0.size) (V : Arv Z h0 d kd .long (2 : Int32) [(.long x0), (.long x1)] (.long 0)) (gd : n0 ≤ d) : OMet l Z [] (⟨"java/util/DualPivotQuicksort", "insertionSort", "([JII)V"⟩ : MethodName) jdk_2529_method_15_code 7 none R22 #[(.ref d), (.int 0), (.int 2)] h0 n0 (Q22 Z d kd x0 x1 h0) := by
  refine OMet.of (own := "java/util/DualPivotQuicksort") rfl (plainFor_of_name pn_2) (ef22 d) Z0 ?_
  intro p e s m below meth c T0 Y0 hnm
  refine Gl.iloadN Y0 rfl dG_0 rfl ?_
  refine Gl.istore Y0 (L' := #[.val (.ref d), .val (.int 0), .val (.int 2), .unset, .val (.int 0), .unset, .unset]) rfl dG_1 rfl ?_
  refine Gl.iinc Y0 rfl (r := (1 : Int32)) (by decide) (L' := #[.val (.ref d), .val (.int 0), .val (.int 2), .unset, .val (.int 1), .unset, .unset]) rfl dG_3 rfl ?_
  refine Gl.iload Y0 rfl dG_6 rfl ?_
  refine Gl.iloadN Y0 rfl dG_8 rfl ?_
  refine Gl.icmpge Y0 dG_9 (by decide) rfl rfl (fun c9 => ?_) (fun c9 => ?_)
  · exact absurd c9 (by decide)
  refine Gl.aloadN Y0 rfl rfl dG_12 rfl ?_
  refine Gl.iload Y0 rfl dG_13 rfl ?_
  refine Gl.dup Y0 rfl dG_15 rfl ?_
  refine Gl.istoreN Y0 (L' := #[.val (.ref d), .val (.int 0), .val (.int 2), .val (.int 1), .val (.int 1), .unset, .unset]) rfl dG_16 rfl ?_
  refine Gl.laload Y0 V ⟨by decide, by decide⟩ (v := (.long x1)) rfl dG_17 rfl ?_
  refine Gl.lstore Y0 (L' := #[.val (.ref d), .val (.int 0), .val (.int 2), .val (.int 1), .val (.int 1), .val (.long x1), .second]) rfl dG_18 rfl ?_
  refine Gl.lload Y0 rfl dG_20 rfl ?_
  refine Gl.aloadN Y0 rfl rfl dG_22 rfl ?_
  refine Gl.iloadN Y0 rfl dG_23 rfl ?_
  refine Gl.iconst Y0 (v := (1 : Int32)) (by decide) dG_24 rfl ?_
  refine Gl.isub Y0 (r := (0 : Int32)) (by decide) dG_25 rfl ?_
  refine Gl.laload Y0 V ⟨by decide, by decide⟩ (v := (.long x0)) rfl dG_26 rfl ?_
  refine Gl.lcmpge Y0 dG_27 rfl dG_28 (by decide) rfl rfl (fun c28 => ?_) (fun c28 => ?_)
  · have j28 : ¬ (x1.toInt < x0.toInt) := fun q => c28 (Int64.lt_iff_toInt_lt.mpr q)
    refine Gl.goto Y0 dG_66 (by decide) rfl ?_
    refine Gl.iinc Y0 rfl (r := (2 : Int32)) (by decide) (L' := #[.val (.ref d), .val (.int 0), .val (.int 2), .val (.int 1), .val (.int 2), .val (.long x1), .second]) rfl dG_3 rfl ?_
    refine Gl.iload Y0 rfl dG_6 rfl ?_
    refine Gl.iloadN Y0 rfl dG_8 rfl ?_
    refine Gl.icmpge Y0 dG_9 (by decide) rfl rfl (fun c9_2 => ?_) (fun c9_2 => ?_)
    rotate_left
    · exact absurd c9_2 (by decide)
    exact Gl.retV Y0 (by decide) (by decide)  dG_69 ⟨x0, x1, rfl, (by unfold S2; omega), (Keep.refl h0 [d]), V⟩
  · have j28 : x1.toInt < x0.toInt := Int64.lt_iff_toInt_lt.mp c28
    refine Gl.iinc Y0 rfl (r := (0 : Int32)) (by decide) (L' := #[.val (.ref d), .val (.int 0), .val (.int 2), .val (.int 0), .val (.int 1), .val (.long x1), .second]) rfl dG_31 rfl ?_
    refine Gl.iloadN Y0 rfl dG_34 rfl ?_
    refine Gl.iloadN Y0 rfl dG_35 rfl ?_
    refine Gl.icmplt Y0 dG_36 (by decide) rfl rfl (fun c36 => ?_) (fun c36 => ?_)
    · exact absurd c36 (by decide)
    refine Gl.lload Y0 rfl dG_39 rfl ?_
    refine Gl.aloadN Y0 rfl rfl dG_41 rfl ?_
    refine Gl.iloadN Y0 rfl dG_42 rfl ?_
    refine Gl.laload Y0 V ⟨by decide, by decide⟩ (v := (.long x0)) rfl dG_43 rfl ?_
    refine Gl.lcmpge Y0 dG_44 rfl dG_45 (by decide) rfl rfl (fun c45 => ?_) (fun c45 => ?_)
    · exact absurd c28 c45
    have j45 : x1.toInt < x0.toInt := Int64.lt_iff_toInt_lt.mp c45
    refine Gl.aloadN Y0 rfl rfl dG_48 rfl ?_
    refine Gl.iloadN Y0 rfl dG_49 rfl ?_
    refine Gl.iconst Y0 (v := (1 : Int32)) (by decide) dG_50 rfl ?_
    refine Gl.iadd Y0 (r := (1 : Int32)) (by decide) dG_51 rfl ?_
    refine Gl.aloadN Y0 rfl rfl dG_52 rfl ?_
    refine Gl.iloadN Y0 rfl dG_53 rfl ?_
    refine Gl.laload Y0 V ⟨by decide, by decide⟩ (v := (.long x0)) rfl dG_54 rfl ?_
    refine Gl.lastore Y0 V (v := (.long x0)) rfl ⟨by decide, by decide⟩ (ix := 1) rfl (nle rfl) gd dG_55 rfl (fun T55 h55 Y55 W55 A55 => ?_)
    have A55 : Arv Z h55 d kd .long (2 : Int32) [(.long x0), (.long x0)] (.long 0) := A55
    have K55 : Keep h0 h55 [d] := (Keep.refl h0 [d]).wr W55 (Or.inl (List.mem_of_getElem? (i := 0) rfl))
    show Gl p e below _ (T55.setTop (mkF m 56 _ []))
    refine Gl.goto Y55 dG_56 (by decide) rfl ?_
    refine Gl.iinc Y55 rfl (r := (-1 : Int32)) (by decide) (L' := #[.val (.ref d), .val (.int 0), .val (.int 2), .val (.int (-1)), .val (.int 1), .val (.long x1), .second]) rfl dG_31 rfl ?_
    refine Gl.iloadN Y55 rfl dG_34 rfl ?_
    refine Gl.iloadN Y55 rfl dG_35 rfl ?_
    refine Gl.icmplt Y55 dG_36 (by decide) rfl rfl (fun c36_2 => ?_) (fun c36_2 => ?_)
    rotate_left
    · exact absurd c36_2 (by decide)
    refine Gl.aloadN Y55 rfl rfl dG_59 rfl ?_
    refine Gl.iloadN Y55 rfl dG_60 rfl ?_
    refine Gl.iconst Y55 (v := (1 : Int32)) (by decide) dG_61 rfl ?_
    refine Gl.iadd Y55 (r := (0 : Int32)) (by decide) dG_62 rfl ?_
    refine Gl.lload Y55 rfl dG_63 rfl ?_
    refine Gl.lastore Y55 A55 (v := (.long x1)) rfl ⟨by decide, by decide⟩ (ix := 0) rfl (nle rfl) gd dG_65 rfl (fun T65 h65 Y65 W65 A65 => ?_)
    have A65 : Arv Z h65 d kd .long (2 : Int32) [(.long x1), (.long x0)] (.long 0) := A65
    have K65 : Keep h0 h65 [d] := K55.wr W65 (Or.inl (List.mem_of_getElem? (i := 0) rfl))
    show Gl p e below _ (T65.setTop (mkF m 66 _ []))
    refine Gl.goto Y65 dG_66 (by decide) rfl ?_
    refine Gl.iinc Y65 rfl (r := (2 : Int32)) (by decide) (L' := #[.val (.ref d), .val (.int 0), .val (.int 2), .val (.int (-1)), .val (.int 2), .val (.long x1), .second]) rfl dG_3 rfl ?_
    refine Gl.iload Y65 rfl dG_6 rfl ?_
    refine Gl.iloadN Y65 rfl dG_8 rfl ?_
    refine Gl.icmpge Y65 dG_9 (by decide) rfl rfl (fun c9_2 => ?_) (fun c9_2 => ?_)
    rotate_left
    · exact absurd c9_2 (by decide)
    exact Gl.retV Y65 (by decide) (by decide)  dG_69 ⟨x1, x0, rfl, (by unfold S2; omega), K65, A65⟩
def R23 : Room := { frames := 1, cells := 0, slots := 0, locals := 18 }
def Q23 (Z : State) (d : Addr) (kd : ClassId) (x0 x1 : Int64) (h0 : Heap) (v : Option Value) (h : Heap) : Prop := ∃ r0 : Int64, ∃ r1 : Int64, v = none ∧ (S2 x0 x1 r0 r1) ∧ Keep h0 h [d] ∧ Arv Z h d kd .long (2 : Int32) [(.long r0), (.long r1)] (.long 0)
theorem ef23 (d : Addr) (m : MethodId) : entryFrame m #[.null, (.ref d), (.int 0), (.int 0), (.int 2)] 25 = mkF m 0 #[.val .null, .val (.ref d), .val (.int 0), .val (.int 0), .val (.int 2), .unset, .unset, .unset, .unset, .unset, .unset, .unset, .unset, .unset, .unset, .unset, .unset, .unset, .unset, .unset, .unset, .unset, .unset, .unset, .unset] [] := by first | (simp [entryFrame, mkF, argsToLocals, Value.category]; done) | rfl
theorem rm23 (hw : HW a0 Z) (d : Addr) (kd : ClassId) (x0 x1 : Int64) (h0 : Heap) (n0 : Nat) (Z0 : n0 ≤ h0.size) (V : Arv Z h0 d kd .long (2 : Int32) [(.long x0), (.long x1)] (.long 0)) (gd : n0 ≤ d) : OMet l Z [] (⟨"java/util/DualPivotQuicksort", "sort", "(Ljava/util/DualPivotQuicksort$Sorter;[JIII)V"⟩ : MethodName) jdk_2529_method_13_code 25 none R23 #[.null, (.ref d), (.int 0), (.int 0), (.int 2)] h0 n0 (Q23 Z d kd x0 x1 h0) := by
  refine OMet.of (own := "java/util/DualPivotQuicksort") rfl (plainFor_of_name pn_2) (ef23 d) Z0 ?_
  intro p e s m below meth c T0 Y0 hnm
  refine Gl.iload Y0 rfl dH_0 rfl ?_
  refine Gl.iconst Y0 (v := (1 : Int32)) (by decide) dH_2 rfl ?_
  refine Gl.isub Y0 (r := (1 : Int32)) (by decide) dH_3 rfl ?_
  refine Gl.istore Y0 (L' := #[.val .null, .val (.ref d), .val (.int 0), .val (.int 0), .val (.int 2), .val (.int 1), .unset, .unset, .unset, .unset, .unset, .unset, .unset, .unset, .unset, .unset, .unset, .unset, .unset, .unset, .unset, .unset, .unset, .unset, .unset]) rfl dH_4 rfl ?_
  refine Gl.iload Y0 rfl dH_6 rfl ?_
  refine Gl.iloadN Y0 rfl dH_8 rfl ?_
  refine Gl.isub Y0 (r := (2 : Int32)) (by decide) dH_9 rfl ?_
  refine Gl.istore Y0 (L' := #[.val .null, .val (.ref d), .val (.int 0), .val (.int 0), .val (.int 2), .val (.int 1), .val (.int 2), .unset, .unset, .unset, .unset, .unset, .unset, .unset, .unset, .unset, .unset, .unset, .unset, .unset, .unset, .unset, .unset, .unset, .unset]) rfl dH_10 rfl ?_
  refine Gl.iload Y0 rfl dH_12 rfl ?_
  refine Gl.bipush Y0 (v := (65 : Int32)) (by decide) dH_14 rfl ?_
  refine Gl.iloadN Y0 rfl dH_16 rfl ?_
  refine Gl.iadd Y0 (r := (65 : Int32)) (by decide) dH_17 rfl ?_
  refine Gl.icmpge Y0 dH_18 (by decide) rfl rfl (fun c18 => ?_) (fun c18 => ?_)
  · exact absurd c18 (by decide)
  refine Gl.iloadN Y0 rfl dH_21 rfl ?_
  refine Gl.iconst Y0 (v := (1 : Int32)) (by decide) dH_22 rfl ?_
  refine Gl.iand Y0 (r := (0 : Int32)) (by decide) dH_23 rfl ?_
  refine Gl.ifle Y0 dH_24 (by decide) rfl rfl (fun c24 => ?_) (fun c24 => ?_)
  rotate_left
  · exact absurd c24 (by decide)
  refine Gl.iload Y0 rfl dH_46 rfl ?_
  refine Gl.bipush Y0 (v := (44 : Int32)) (by decide) dH_48 rfl ?_
  refine Gl.icmpge Y0 dH_50 (by decide) rfl rfl (fun c50 => ?_) (fun c50 => ?_)
  · exact absurd c50 (by decide)
  refine Gl.aloadN Y0 rfl rfl dH_53 rfl ?_
  refine Gl.iloadN Y0 rfl dH_54 rfl ?_
  refine Gl.iload Y0 rfl dH_55 rfl ?_
  refine Gl.callS Y0 (tw_51 hw) (tw_52 hw) (tw_46 hw) (tw_53 hw) (by decide) (rm22 l Z a0 hw d kd x0 x1 h0 n0 Y0.sz V gd) (argsL := [(.ref d), (.int 0), (.int 2)]) (rest := []) rfl rfl (lenOf pd_1 rfl) rfl (by decide) (nle rfl) (by decide) (by decide) dH_57 rfl (fun v57 T57 h57 Y57 q57 => ?_)
  obtain ⟨r057, r157, rfl, p57, K57, f57_0⟩ := q57
  have KK57 : Keep h0 h57 [d] := (Keep.refl h0 [d]).trans K57 (allS (Or.inl (List.mem_of_getElem? (i := 0) rfl)) all0)
  show Gl p e below _ (T57.setTop (mkF m 60 _ []))
  exact Gl.retV Y57 (by decide) (by decide)  dH_60 ⟨r057, r157, rfl, p57, KK57, f57_0⟩
def R24 : Room := { frames := 2, cells := 0, slots := 0, locals := 54 }
def Q24 (Z : State) (d : Addr) (kd : ClassId) (x0 x1 : Int64) (h0 : Heap) (v : Option Value) (h : Heap) : Prop := ∃ r0 : Int64, ∃ r1 : Int64, v = none ∧ (S2 x0 x1 r0 r1) ∧ Keep h0 h [d] ∧ Arv Z h d kd .long (2 : Int32) [(.long r0), (.long r1)] (.long 0)
theorem ef24 (d : Addr) (m : MethodId) : entryFrame m #[(.ref d), (.int 0), (.int 0), (.int 2)] 7 = mkF m 0 #[.val (.ref d), .val (.int 0), .val (.int 0), .val (.int 2), .unset, .unset, .unset] [] := by first | (simp [entryFrame, mkF, argsToLocals, Value.category]; done) | rfl
theorem rm24 (hw : HW a0 Z) (d : Addr) (kd : ClassId) (x0 x1 : Int64) (h0 : Heap) (n0 : Nat) (Z0 : n0 ≤ h0.size) (V : Arv Z h0 d kd .long (2 : Int32) [(.long x0), (.long x1)] (.long 0)) (gd : n0 ≤ d) : OMet l Z [] (⟨"java/util/DualPivotQuicksort", "sort", "([JIII)V"⟩ : MethodName) jdk_2529_method_12_code 7 none R24 #[(.ref d), (.int 0), (.int 0), (.int 2)] h0 n0 (Q24 Z d kd x0 x1 h0) := by
  refine OMet.of (own := "java/util/DualPivotQuicksort") rfl (plainFor_of_name pn_2) (ef24 d) Z0 ?_
  intro p e s m below meth c T0 Y0 hnm
  refine Gl.iloadN Y0 rfl dI_0 rfl ?_
  refine Gl.iloadN Y0 rfl dI_1 rfl ?_
  refine Gl.isub Y0 (r := (2 : Int32)) (by decide) dI_2 rfl ?_
  refine Gl.istore Y0 (L' := #[.val (.ref d), .val (.int 0), .val (.int 0), .val (.int 2), .val (.int 2), .unset, .unset]) rfl dI_3 rfl ?_
  refine Gl.iloadN Y0 rfl dI_5 rfl ?_
  refine Gl.iconst Y0 (v := (1 : Int32)) (by decide) dI_6 rfl ?_
  refine Gl.icmple Y0 dI_7 (by decide) rfl rfl (fun c7 => ?_) (fun c7 => ?_)
  rotate_left
  · exact absurd c7 (by decide)
  refine Gl.aconstNull Y0 dI_68 rfl ?_
  refine Gl.aloadN Y0 rfl rfl dI_69 rfl ?_
  refine Gl.iconst Y0 (v := (0 : Int32)) (by decide) dI_70 rfl ?_
  refine Gl.iloadN Y0 rfl dI_71 rfl ?_
  refine Gl.iloadN Y0 rfl dI_72 rfl ?_
  refine Gl.callS Y0 (tw_48 hw) (tw_49 hw) (tw_46 hw) (tw_50 hw) (by decide) (rm23 l Z a0 hw d kd x0 x1 h0 n0 Y0.sz V gd) (argsL := [.null, (.ref d), (.int 0), (.int 0), (.int 2)]) (rest := []) rfl rfl (lenOf pd_2 rfl) rfl (by decide) (nle rfl) (by decide) (by decide) dI_73 rfl (fun v73 T73 h73 Y73 q73 => ?_)
  obtain ⟨r073, r173, rfl, p73, K73, f73_0⟩ := q73
  have KK73 : Keep h0 h73 [d] := (Keep.refl h0 [d]).trans K73 (allS (Or.inl (List.mem_of_getElem? (i := 0) rfl)) all0)
  show Gl p e below _ (T73.setTop (mkF m 76 _ []))
  exact Gl.retV Y73 (by decide) (by decide)  dI_76 ⟨r073, r173, rfl, p73, KK73, f73_0⟩
def R25 : Room := { frames := 3, cells := 0, slots := 0, locals := 72 }
def Q25 (Z : State) (d : Addr) (kd : ClassId) (x0 x1 : Int64) (h0 : Heap) (v : Option Value) (h : Heap) : Prop := ∃ r0 : Int64, ∃ r1 : Int64, v = none ∧ (S2 x0 x1 r0 r1) ∧ Keep h0 h [d] ∧ Arv Z h d kd .long (2 : Int32) [(.long r0), (.long r1)] (.long 0)
theorem ef25 (d : Addr) (m : MethodId) : entryFrame m #[(.ref d)] 1 = mkF m 0 #[.val (.ref d)] [] := by first | (simp [entryFrame, mkF, argsToLocals, Value.category]; done) | rfl
theorem rm25 (hw : HW a0 Z) (d : Addr) (kd : ClassId) (x0 x1 : Int64) (h0 : Heap) (n0 : Nat) (Z0 : n0 ≤ h0.size) (V : Arv Z h0 d kd .long (2 : Int32) [(.long x0), (.long x1)] (.long 0)) (gd : n0 ≤ d) : OMet l Z [] (⟨"java/util/Arrays", "sort", "([J)V"⟩ : MethodName) jdk_65_method_4_code 1 none R25 #[(.ref d)] h0 n0 (Q25 Z d kd x0 x1 h0) := by
  refine OMet.of (own := "java/util/Arrays") rfl (plainFor_of_name pn_1) (ef25 d) Z0 ?_
  intro p e s m below meth c T0 Y0 hnm
  refine Gl.aloadN Y0 rfl rfl dJ_0 rfl ?_
  refine Gl.iconst Y0 (v := (0 : Int32)) (by decide) dJ_1 rfl ?_
  refine Gl.iconst Y0 (v := (0 : Int32)) (by decide) dJ_2 rfl ?_
  refine Gl.aloadN Y0 rfl rfl dJ_3 rfl ?_
  refine Gl.arraylength Y0 V dJ_4 rfl ?_
  refine Gl.callS Y0 (tw_44 hw) (tw_45 hw) (tw_46 hw) (tw_47 hw) (by decide) (rm24 l Z a0 hw d kd x0 x1 h0 n0 Y0.sz V gd) (argsL := [(.ref d), (.int 0), (.int 0), (.int 2)]) (rest := []) rfl rfl (lenOf pd_3 rfl) rfl (by decide) (nle rfl) (by decide) (by decide) dJ_5 rfl (fun v5 T5 h5 Y5 q5 => ?_)
  obtain ⟨r05, r15, rfl, p5, K5, f5_0⟩ := q5
  have KK5 : Keep h0 h5 [d] := (Keep.refl h0 [d]).trans K5 (allS (Or.inl (List.mem_of_getElem? (i := 0) rfl)) all0)
  show Gl p e below _ (T5.setTop (mkF m 8 _ []))
  exact Gl.retV Y5 (by decide) (by decide)  dJ_8 ⟨r05, r15, rfl, p5, KK5, f5_0⟩
def R26 : Room := { frames := 0, cells := 0, slots := 0, locals := 0 }
def Q26 (Z : State) (d : Addr) (kd : ClassId) (x0 x1 x2 : Int64) (h0 : Heap) (v : Option Value) (h : Heap) : Prop := ∃ r0 : Int64, ∃ r1 : Int64, ∃ r2 : Int64, v = none ∧ (S3 x0 x1 x2 r0 r1 r2) ∧ Keep h0 h [d] ∧ Arv Z h d kd .long (3 : Int32) [(.long r0), (.long r1), (.long r2)] (.long 0)
theorem ef26 (d : Addr) (m : MethodId) : entryFrame m #[(.ref d), (.int 0), (.int 3)] 7 = mkF m 0 #[.val (.ref d), .val (.int 0), .val (.int 3), .unset, .unset, .unset, .unset] [] := by first | (simp [entryFrame, mkF, argsToLocals, Value.category]; done) | rfl
theorem rm26 (hw : HW a0 Z) (d : Addr) (kd : ClassId) (x0 x1 x2 : Int64) (h0 : Heap) (n0 : Nat) (Z0 : n0 ≤ h0.size) (V : Arv Z h0 d kd .long (3 : Int32) [(.long x0), (.long x1), (.long x2)] (.long 0)) (gd : n0 ≤ d) : OMet l Z [] (⟨"java/util/DualPivotQuicksort", "insertionSort", "([JII)V"⟩ : MethodName) jdk_2529_method_15_code 7 none R26 #[(.ref d), (.int 0), (.int 3)] h0 n0 (Q26 Z d kd x0 x1 x2 h0) := by
  refine OMet.of (own := "java/util/DualPivotQuicksort") rfl (plainFor_of_name pn_2) (ef26 d) Z0 ?_
  intro p e s m below meth c T0 Y0 hnm
  refine Gl.iloadN Y0 rfl dG_0 rfl ?_
  refine Gl.istore Y0 (L' := #[.val (.ref d), .val (.int 0), .val (.int 3), .unset, .val (.int 0), .unset, .unset]) rfl dG_1 rfl ?_
  refine Gl.iinc Y0 rfl (r := (1 : Int32)) (by decide) (L' := #[.val (.ref d), .val (.int 0), .val (.int 3), .unset, .val (.int 1), .unset, .unset]) rfl dG_3 rfl ?_
  refine Gl.iload Y0 rfl dG_6 rfl ?_
  refine Gl.iloadN Y0 rfl dG_8 rfl ?_
  refine Gl.icmpge Y0 dG_9 (by decide) rfl rfl (fun c9 => ?_) (fun c9 => ?_)
  · exact absurd c9 (by decide)
  refine Gl.aloadN Y0 rfl rfl dG_12 rfl ?_
  refine Gl.iload Y0 rfl dG_13 rfl ?_
  refine Gl.dup Y0 rfl dG_15 rfl ?_
  refine Gl.istoreN Y0 (L' := #[.val (.ref d), .val (.int 0), .val (.int 3), .val (.int 1), .val (.int 1), .unset, .unset]) rfl dG_16 rfl ?_
  refine Gl.laload Y0 V ⟨by decide, by decide⟩ (v := (.long x1)) rfl dG_17 rfl ?_
  refine Gl.lstore Y0 (L' := #[.val (.ref d), .val (.int 0), .val (.int 3), .val (.int 1), .val (.int 1), .val (.long x1), .second]) rfl dG_18 rfl ?_
  refine Gl.lload Y0 rfl dG_20 rfl ?_
  refine Gl.aloadN Y0 rfl rfl dG_22 rfl ?_
  refine Gl.iloadN Y0 rfl dG_23 rfl ?_
  refine Gl.iconst Y0 (v := (1 : Int32)) (by decide) dG_24 rfl ?_
  refine Gl.isub Y0 (r := (0 : Int32)) (by decide) dG_25 rfl ?_
  refine Gl.laload Y0 V ⟨by decide, by decide⟩ (v := (.long x0)) rfl dG_26 rfl ?_
  refine Gl.lcmpge Y0 dG_27 rfl dG_28 (by decide) rfl rfl (fun c28 => ?_) (fun c28 => ?_)
  · have j28 : ¬ (x1.toInt < x0.toInt) := fun q => c28 (Int64.lt_iff_toInt_lt.mpr q)
    refine Gl.goto Y0 dG_66 (by decide) rfl ?_
    refine Gl.iinc Y0 rfl (r := (2 : Int32)) (by decide) (L' := #[.val (.ref d), .val (.int 0), .val (.int 3), .val (.int 1), .val (.int 2), .val (.long x1), .second]) rfl dG_3 rfl ?_
    refine Gl.iload Y0 rfl dG_6 rfl ?_
    refine Gl.iloadN Y0 rfl dG_8 rfl ?_
    refine Gl.icmpge Y0 dG_9 (by decide) rfl rfl (fun c9_2 => ?_) (fun c9_2 => ?_)
    · exact absurd c9_2 (by decide)
    refine Gl.aloadN Y0 rfl rfl dG_12 rfl ?_
    refine Gl.iload Y0 rfl dG_13 rfl ?_
    refine Gl.dup Y0 rfl dG_15 rfl ?_
    refine Gl.istoreN Y0 (L' := #[.val (.ref d), .val (.int 0), .val (.int 3), .val (.int 2), .val (.int 2), .val (.long x1), .second]) rfl dG_16 rfl ?_
    refine Gl.laload Y0 V ⟨by decide, by decide⟩ (v := (.long x2)) rfl dG_17 rfl ?_
    refine Gl.lstore Y0 (L' := #[.val (.ref d), .val (.int 0), .val (.int 3), .val (.int 2), .val (.int 2), .val (.long x2), .second]) rfl dG_18 rfl ?_
    refine Gl.lload Y0 rfl dG_20 rfl ?_
    refine Gl.aloadN Y0 rfl rfl dG_22 rfl ?_
    refine Gl.iloadN Y0 rfl dG_23 rfl ?_
    refine Gl.iconst Y0 (v := (1 : Int32)) (by decide) dG_24 rfl ?_
    refine Gl.isub Y0 (r := (1 : Int32)) (by decide) dG_25 rfl ?_
    refine Gl.laload Y0 V ⟨by decide, by decide⟩ (v := (.long x1)) rfl dG_26 rfl ?_
    refine Gl.lcmpge Y0 dG_27 rfl dG_28 (by decide) rfl rfl (fun c28_2 => ?_) (fun c28_2 => ?_)
    · have j28_2 : ¬ (x2.toInt < x1.toInt) := fun q => c28_2 (Int64.lt_iff_toInt_lt.mpr q)
      refine Gl.goto Y0 dG_66 (by decide) rfl ?_
      refine Gl.iinc Y0 rfl (r := (3 : Int32)) (by decide) (L' := #[.val (.ref d), .val (.int 0), .val (.int 3), .val (.int 2), .val (.int 3), .val (.long x2), .second]) rfl dG_3 rfl ?_
      refine Gl.iload Y0 rfl dG_6 rfl ?_
      refine Gl.iloadN Y0 rfl dG_8 rfl ?_
      refine Gl.icmpge Y0 dG_9 (by decide) rfl rfl (fun c9_3 => ?_) (fun c9_3 => ?_)
      rotate_left
      · exact absurd c9_3 (by decide)
      exact Gl.retV Y0 (by decide) (by decide)  dG_69 ⟨x0, x1, x2, rfl, (by unfold S3; omega), (Keep.refl h0 [d]), V⟩
    · have j28_2 : x2.toInt < x1.toInt := Int64.lt_iff_toInt_lt.mp c28_2
      refine Gl.iinc Y0 rfl (r := (1 : Int32)) (by decide) (L' := #[.val (.ref d), .val (.int 0), .val (.int 3), .val (.int 1), .val (.int 2), .val (.long x2), .second]) rfl dG_31 rfl ?_
      refine Gl.iloadN Y0 rfl dG_34 rfl ?_
      refine Gl.iloadN Y0 rfl dG_35 rfl ?_
      refine Gl.icmplt Y0 dG_36 (by decide) rfl rfl (fun c36 => ?_) (fun c36 => ?_)
      · exact absurd c36 (by decide)
      refine Gl.lload Y0 rfl dG_39 rfl ?_
      refine Gl.aloadN Y0 rfl rfl dG_41 rfl ?_
      refine Gl.iloadN Y0 rfl dG_42 rfl ?_
      refine Gl.laload Y0 V ⟨by decide, by decide⟩ (v := (.long x1)) rfl dG_43 rfl ?_
      refine Gl.lcmpge Y0 dG_44 rfl dG_45 (by decide) rfl rfl (fun c45 => ?_) (fun c45 => ?_)
      · exact absurd c28_2 c45
      have j45 : x2.toInt < x1.toInt := Int64.lt_iff_toInt_lt.mp c45
      refine Gl.aloadN Y0 rfl rfl dG_48 rfl ?_
      refine Gl.iloadN Y0 rfl dG_49 rfl ?_
      refine Gl.iconst Y0 (v := (1 : Int32)) (by decide) dG_50 rfl ?_
      refine Gl.iadd Y0 (r := (2 : Int32)) (by decide) dG_51 rfl ?_
      refine Gl.aloadN Y0 rfl rfl dG_52 rfl ?_
      refine Gl.iloadN Y0 rfl dG_53 rfl ?_
      refine Gl.laload Y0 V ⟨by decide, by decide⟩ (v := (.long x1)) rfl dG_54 rfl ?_
      refine Gl.lastore Y0 V (v := (.long x1)) rfl ⟨by decide, by decide⟩ (ix := 2) rfl (nle rfl) gd dG_55 rfl (fun T55 h55 Y55 W55 A55 => ?_)
      have A55 : Arv Z h55 d kd .long (3 : Int32) [(.long x0), (.long x1), (.long x1)] (.long 0) := A55
      have K55 : Keep h0 h55 [d] := (Keep.refl h0 [d]).wr W55 (Or.inl (List.mem_of_getElem? (i := 0) rfl))
      show Gl p e below _ (T55.setTop (mkF m 56 _ []))
      refine Gl.goto Y55 dG_56 (by decide) rfl ?_
      refine Gl.iinc Y55 rfl (r := (0 : Int32)) (by decide) (L' := #[.val (.ref d), .val (.int 0), .val (.int 3), .val (.int 0), .val (.int 2), .val (.long x2), .second]) rfl dG_31 rfl ?_
      refine Gl.iloadN Y55 rfl dG_34 rfl ?_
      refine Gl.iloadN Y55 rfl dG_35 rfl ?_
      refine Gl.icmplt Y55 dG_36 (by decide) rfl rfl (fun c36_2 => ?_) (fun c36_2 => ?_)
      · exact absurd c36_2 (by decide)
      refine Gl.lload Y55 rfl dG_39 rfl ?_
      refine Gl.aloadN Y55 rfl rfl dG_41 rfl ?_
      refine Gl.iloadN Y55 rfl dG_42 rfl ?_
      refine Gl.laload Y55 A55 ⟨by decide, by decide⟩ (v := (.long x0)) rfl dG_43 rfl ?_
      refine Gl.lcmpge Y55 dG_44 rfl dG_45 (by decide) rfl rfl (fun c45_2 => ?_) (fun c45_2 => ?_)
      · have j45_2 : ¬ (x2.toInt < x0.toInt) := fun q => c45_2 (Int64.lt_iff_toInt_lt.mpr q)
        refine Gl.aloadN Y55 rfl rfl dG_59 rfl ?_
        refine Gl.iloadN Y55 rfl dG_60 rfl ?_
        refine Gl.iconst Y55 (v := (1 : Int32)) (by decide) dG_61 rfl ?_
        refine Gl.iadd Y55 (r := (1 : Int32)) (by decide) dG_62 rfl ?_
        refine Gl.lload Y55 rfl dG_63 rfl ?_
        refine Gl.lastore Y55 A55 (v := (.long x2)) rfl ⟨by decide, by decide⟩ (ix := 1) rfl (nle rfl) gd dG_65 rfl (fun T65 h65 Y65 W65 A65 => ?_)
        have A65 : Arv Z h65 d kd .long (3 : Int32) [(.long x0), (.long x2), (.long x1)] (.long 0) := A65
        have K65 : Keep h0 h65 [d] := K55.wr W65 (Or.inl (List.mem_of_getElem? (i := 0) rfl))
        show Gl p e below _ (T65.setTop (mkF m 66 _ []))
        refine Gl.goto Y65 dG_66 (by decide) rfl ?_
        refine Gl.iinc Y65 rfl (r := (3 : Int32)) (by decide) (L' := #[.val (.ref d), .val (.int 0), .val (.int 3), .val (.int 0), .val (.int 3), .val (.long x2), .second]) rfl dG_3 rfl ?_
        refine Gl.iload Y65 rfl dG_6 rfl ?_
        refine Gl.iloadN Y65 rfl dG_8 rfl ?_
        refine Gl.icmpge Y65 dG_9 (by decide) rfl rfl (fun c9_3 => ?_) (fun c9_3 => ?_)
        rotate_left
        · exact absurd c9_3 (by decide)
        exact Gl.retV Y65 (by decide) (by decide)  dG_69 ⟨x0, x2, x1, rfl, (by unfold S3; omega), K65, A65⟩
      · have j45_2 : x2.toInt < x0.toInt := Int64.lt_iff_toInt_lt.mp c45_2
        refine Gl.aloadN Y55 rfl rfl dG_48 rfl ?_
        refine Gl.iloadN Y55 rfl dG_49 rfl ?_
        refine Gl.iconst Y55 (v := (1 : Int32)) (by decide) dG_50 rfl ?_
        refine Gl.iadd Y55 (r := (1 : Int32)) (by decide) dG_51 rfl ?_
        refine Gl.aloadN Y55 rfl rfl dG_52 rfl ?_
        refine Gl.iloadN Y55 rfl dG_53 rfl ?_
        refine Gl.laload Y55 A55 ⟨by decide, by decide⟩ (v := (.long x0)) rfl dG_54 rfl ?_
        refine Gl.lastore Y55 A55 (v := (.long x0)) rfl ⟨by decide, by decide⟩ (ix := 1) rfl (nle rfl) gd dG_55 rfl (fun T55_2 h55_2 Y55_2 W55_2 A55_2 => ?_)
        have A55_2 : Arv Z h55_2 d kd .long (3 : Int32) [(.long x0), (.long x0), (.long x1)] (.long 0) := A55_2
        have K55_2 : Keep h0 h55_2 [d] := K55.wr W55_2 (Or.inl (List.mem_of_getElem? (i := 0) rfl))
        show Gl p e below _ (T55_2.setTop (mkF m 56 _ []))
        refine Gl.goto Y55_2 dG_56 (by decide) rfl ?_
        refine Gl.iinc Y55_2 rfl (r := (-1 : Int32)) (by decide) (L' := #[.val (.ref d), .val (.int 0), .val (.int 3), .val (.int (-1)), .val (.int 2), .val (.long x2), .second]) rfl dG_31 rfl ?_
        refine Gl.iloadN Y55_2 rfl dG_34 rfl ?_
        refine Gl.iloadN Y55_2 rfl dG_35 rfl ?_
        refine Gl.icmplt Y55_2 dG_36 (by decide) rfl rfl (fun c36_3 => ?_) (fun c36_3 => ?_)
        rotate_left
        · exact absurd c36_3 (by decide)
        refine Gl.aloadN Y55_2 rfl rfl dG_59 rfl ?_
        refine Gl.iloadN Y55_2 rfl dG_60 rfl ?_
        refine Gl.iconst Y55_2 (v := (1 : Int32)) (by decide) dG_61 rfl ?_
        refine Gl.iadd Y55_2 (r := (0 : Int32)) (by decide) dG_62 rfl ?_
        refine Gl.lload Y55_2 rfl dG_63 rfl ?_
        refine Gl.lastore Y55_2 A55_2 (v := (.long x2)) rfl ⟨by decide, by decide⟩ (ix := 0) rfl (nle rfl) gd dG_65 rfl (fun T65 h65 Y65 W65 A65 => ?_)
        have A65 : Arv Z h65 d kd .long (3 : Int32) [(.long x2), (.long x0), (.long x1)] (.long 0) := A65
        have K65 : Keep h0 h65 [d] := K55_2.wr W65 (Or.inl (List.mem_of_getElem? (i := 0) rfl))
        show Gl p e below _ (T65.setTop (mkF m 66 _ []))
        refine Gl.goto Y65 dG_66 (by decide) rfl ?_
        refine Gl.iinc Y65 rfl (r := (3 : Int32)) (by decide) (L' := #[.val (.ref d), .val (.int 0), .val (.int 3), .val (.int (-1)), .val (.int 3), .val (.long x2), .second]) rfl dG_3 rfl ?_
        refine Gl.iload Y65 rfl dG_6 rfl ?_
        refine Gl.iloadN Y65 rfl dG_8 rfl ?_
        refine Gl.icmpge Y65 dG_9 (by decide) rfl rfl (fun c9_3 => ?_) (fun c9_3 => ?_)
        rotate_left
        · exact absurd c9_3 (by decide)
        exact Gl.retV Y65 (by decide) (by decide)  dG_69 ⟨x2, x0, x1, rfl, (by unfold S3; omega), K65, A65⟩
  · have j28 : x1.toInt < x0.toInt := Int64.lt_iff_toInt_lt.mp c28
    refine Gl.iinc Y0 rfl (r := (0 : Int32)) (by decide) (L' := #[.val (.ref d), .val (.int 0), .val (.int 3), .val (.int 0), .val (.int 1), .val (.long x1), .second]) rfl dG_31 rfl ?_
    refine Gl.iloadN Y0 rfl dG_34 rfl ?_
    refine Gl.iloadN Y0 rfl dG_35 rfl ?_
    refine Gl.icmplt Y0 dG_36 (by decide) rfl rfl (fun c36 => ?_) (fun c36 => ?_)
    · exact absurd c36 (by decide)
    refine Gl.lload Y0 rfl dG_39 rfl ?_
    refine Gl.aloadN Y0 rfl rfl dG_41 rfl ?_
    refine Gl.iloadN Y0 rfl dG_42 rfl ?_
    refine Gl.laload Y0 V ⟨by decide, by decide⟩ (v := (.long x0)) rfl dG_43 rfl ?_
    refine Gl.lcmpge Y0 dG_44 rfl dG_45 (by decide) rfl rfl (fun c45 => ?_) (fun c45 => ?_)
    · exact absurd c28 c45
    have j45 : x1.toInt < x0.toInt := Int64.lt_iff_toInt_lt.mp c45
    refine Gl.aloadN Y0 rfl rfl dG_48 rfl ?_
    refine Gl.iloadN Y0 rfl dG_49 rfl ?_
    refine Gl.iconst Y0 (v := (1 : Int32)) (by decide) dG_50 rfl ?_
    refine Gl.iadd Y0 (r := (1 : Int32)) (by decide) dG_51 rfl ?_
    refine Gl.aloadN Y0 rfl rfl dG_52 rfl ?_
    refine Gl.iloadN Y0 rfl dG_53 rfl ?_
    refine Gl.laload Y0 V ⟨by decide, by decide⟩ (v := (.long x0)) rfl dG_54 rfl ?_
    refine Gl.lastore Y0 V (v := (.long x0)) rfl ⟨by decide, by decide⟩ (ix := 1) rfl (nle rfl) gd dG_55 rfl (fun T55 h55 Y55 W55 A55 => ?_)
    have A55 : Arv Z h55 d kd .long (3 : Int32) [(.long x0), (.long x0), (.long x2)] (.long 0) := A55
    have K55 : Keep h0 h55 [d] := (Keep.refl h0 [d]).wr W55 (Or.inl (List.mem_of_getElem? (i := 0) rfl))
    show Gl p e below _ (T55.setTop (mkF m 56 _ []))
    refine Gl.goto Y55 dG_56 (by decide) rfl ?_
    refine Gl.iinc Y55 rfl (r := (-1 : Int32)) (by decide) (L' := #[.val (.ref d), .val (.int 0), .val (.int 3), .val (.int (-1)), .val (.int 1), .val (.long x1), .second]) rfl dG_31 rfl ?_
    refine Gl.iloadN Y55 rfl dG_34 rfl ?_
    refine Gl.iloadN Y55 rfl dG_35 rfl ?_
    refine Gl.icmplt Y55 dG_36 (by decide) rfl rfl (fun c36_2 => ?_) (fun c36_2 => ?_)
    rotate_left
    · exact absurd c36_2 (by decide)
    refine Gl.aloadN Y55 rfl rfl dG_59 rfl ?_
    refine Gl.iloadN Y55 rfl dG_60 rfl ?_
    refine Gl.iconst Y55 (v := (1 : Int32)) (by decide) dG_61 rfl ?_
    refine Gl.iadd Y55 (r := (0 : Int32)) (by decide) dG_62 rfl ?_
    refine Gl.lload Y55 rfl dG_63 rfl ?_
    refine Gl.lastore Y55 A55 (v := (.long x1)) rfl ⟨by decide, by decide⟩ (ix := 0) rfl (nle rfl) gd dG_65 rfl (fun T65 h65 Y65 W65 A65 => ?_)
    have A65 : Arv Z h65 d kd .long (3 : Int32) [(.long x1), (.long x0), (.long x2)] (.long 0) := A65
    have K65 : Keep h0 h65 [d] := K55.wr W65 (Or.inl (List.mem_of_getElem? (i := 0) rfl))
    show Gl p e below _ (T65.setTop (mkF m 66 _ []))
    refine Gl.goto Y65 dG_66 (by decide) rfl ?_
    refine Gl.iinc Y65 rfl (r := (2 : Int32)) (by decide) (L' := #[.val (.ref d), .val (.int 0), .val (.int 3), .val (.int (-1)), .val (.int 2), .val (.long x1), .second]) rfl dG_3 rfl ?_
    refine Gl.iload Y65 rfl dG_6 rfl ?_
    refine Gl.iloadN Y65 rfl dG_8 rfl ?_
    refine Gl.icmpge Y65 dG_9 (by decide) rfl rfl (fun c9_2 => ?_) (fun c9_2 => ?_)
    · exact absurd c9_2 (by decide)
    refine Gl.aloadN Y65 rfl rfl dG_12 rfl ?_
    refine Gl.iload Y65 rfl dG_13 rfl ?_
    refine Gl.dup Y65 rfl dG_15 rfl ?_
    refine Gl.istoreN Y65 (L' := #[.val (.ref d), .val (.int 0), .val (.int 3), .val (.int 2), .val (.int 2), .val (.long x1), .second]) rfl dG_16 rfl ?_
    refine Gl.laload Y65 A65 ⟨by decide, by decide⟩ (v := (.long x2)) rfl dG_17 rfl ?_
    refine Gl.lstore Y65 (L' := #[.val (.ref d), .val (.int 0), .val (.int 3), .val (.int 2), .val (.int 2), .val (.long x2), .second]) rfl dG_18 rfl ?_
    refine Gl.lload Y65 rfl dG_20 rfl ?_
    refine Gl.aloadN Y65 rfl rfl dG_22 rfl ?_
    refine Gl.iloadN Y65 rfl dG_23 rfl ?_
    refine Gl.iconst Y65 (v := (1 : Int32)) (by decide) dG_24 rfl ?_
    refine Gl.isub Y65 (r := (1 : Int32)) (by decide) dG_25 rfl ?_
    refine Gl.laload Y65 A65 ⟨by decide, by decide⟩ (v := (.long x0)) rfl dG_26 rfl ?_
    refine Gl.lcmpge Y65 dG_27 rfl dG_28 (by decide) rfl rfl (fun c28_2 => ?_) (fun c28_2 => ?_)
    · have j28_2 : ¬ (x2.toInt < x0.toInt) := fun q => c28_2 (Int64.lt_iff_toInt_lt.mpr q)
      refine Gl.goto Y65 dG_66 (by decide) rfl ?_
      refine Gl.iinc Y65 rfl (r := (3 : Int32)) (by decide) (L' := #[.val (.ref d), .val (.int 0), .val (.int 3), .val (.int 2), .val (.int 3), .val (.long x2), .second]) rfl dG_3 rfl ?_
      refine Gl.iload Y65 rfl dG_6 rfl ?_
      refine Gl.iloadN Y65 rfl dG_8 rfl ?_
      refine Gl.icmpge Y65 dG_9 (by decide) rfl rfl (fun c9_3 => ?_) (fun c9_3 => ?_)
      rotate_left
      · exact absurd c9_3 (by decide)
      exact Gl.retV Y65 (by decide) (by decide)  dG_69 ⟨x1, x0, x2, rfl, (by unfold S3; omega), K65, A65⟩
    · have j28_2 : x2.toInt < x0.toInt := Int64.lt_iff_toInt_lt.mp c28_2
      refine Gl.iinc Y65 rfl (r := (1 : Int32)) (by decide) (L' := #[.val (.ref d), .val (.int 0), .val (.int 3), .val (.int 1), .val (.int 2), .val (.long x2), .second]) rfl dG_31 rfl ?_
      refine Gl.iloadN Y65 rfl dG_34 rfl ?_
      refine Gl.iloadN Y65 rfl dG_35 rfl ?_
      refine Gl.icmplt Y65 dG_36 (by decide) rfl rfl (fun c36_3 => ?_) (fun c36_3 => ?_)
      · exact absurd c36_3 (by decide)
      refine Gl.lload Y65 rfl dG_39 rfl ?_
      refine Gl.aloadN Y65 rfl rfl dG_41 rfl ?_
      refine Gl.iloadN Y65 rfl dG_42 rfl ?_
      refine Gl.laload Y65 A65 ⟨by decide, by decide⟩ (v := (.long x0)) rfl dG_43 rfl ?_
      refine Gl.lcmpge Y65 dG_44 rfl dG_45 (by decide) rfl rfl (fun c45_2 => ?_) (fun c45_2 => ?_)
      · exact absurd c28_2 c45_2
      have j45_2 : x2.toInt < x0.toInt := Int64.lt_iff_toInt_lt.mp c45_2
      refine Gl.aloadN Y65 rfl rfl dG_48 rfl ?_
      refine Gl.iloadN Y65 rfl dG_49 rfl ?_
      refine Gl.iconst Y65 (v := (1 : Int32)) (by decide) dG_50 rfl ?_
      refine Gl.iadd Y65 (r := (2 : Int32)) (by decide) dG_51 rfl ?_
      refine Gl.aloadN Y65 rfl rfl dG_52 rfl ?_
      refine Gl.iloadN Y65 rfl dG_53 rfl ?_
      refine Gl.laload Y65 A65 ⟨by decide, by decide⟩ (v := (.long x0)) rfl dG_54 rfl ?_
      refine Gl.lastore Y65 A65 (v := (.long x0)) rfl ⟨by decide, by decide⟩ (ix := 2) rfl (nle rfl) gd dG_55 rfl (fun T55_2 h55_2 Y55_2 W55_2 A55_2 => ?_)
      have A55_2 : Arv Z h55_2 d kd .long (3 : Int32) [(.long x1), (.long x0), (.long x0)] (.long 0) := A55_2
      have K55_2 : Keep h0 h55_2 [d] := K65.wr W55_2 (Or.inl (List.mem_of_getElem? (i := 0) rfl))
      show Gl p e below _ (T55_2.setTop (mkF m 56 _ []))
      refine Gl.goto Y55_2 dG_56 (by decide) rfl ?_
      refine Gl.iinc Y55_2 rfl (r := (0 : Int32)) (by decide) (L' := #[.val (.ref d), .val (.int 0), .val (.int 3), .val (.int 0), .val (.int 2), .val (.long x2), .second]) rfl dG_31 rfl ?_
      refine Gl.iloadN Y55_2 rfl dG_34 rfl ?_
      refine Gl.iloadN Y55_2 rfl dG_35 rfl ?_
      refine Gl.icmplt Y55_2 dG_36 (by decide) rfl rfl (fun c36_4 => ?_) (fun c36_4 => ?_)
      · exact absurd c36_4 (by decide)
      refine Gl.lload Y55_2 rfl dG_39 rfl ?_
      refine Gl.aloadN Y55_2 rfl rfl dG_41 rfl ?_
      refine Gl.iloadN Y55_2 rfl dG_42 rfl ?_
      refine Gl.laload Y55_2 A55_2 ⟨by decide, by decide⟩ (v := (.long x1)) rfl dG_43 rfl ?_
      refine Gl.lcmpge Y55_2 dG_44 rfl dG_45 (by decide) rfl rfl (fun c45_3 => ?_) (fun c45_3 => ?_)
      · have j45_3 : ¬ (x2.toInt < x1.toInt) := fun q => c45_3 (Int64.lt_iff_toInt_lt.mpr q)
        refine Gl.aloadN Y55_2 rfl rfl dG_59 rfl ?_
        refine Gl.iloadN Y55_2 rfl dG_60 rfl ?_
        refine Gl.iconst Y55_2 (v := (1 : Int32)) (by decide) dG_61 rfl ?_
        refine Gl.iadd Y55_2 (r := (1 : Int32)) (by decide) dG_62 rfl ?_
        refine Gl.lload Y55_2 rfl dG_63 rfl ?_
        refine Gl.lastore Y55_2 A55_2 (v := (.long x2)) rfl ⟨by decide, by decide⟩ (ix := 1) rfl (nle rfl) gd dG_65 rfl (fun T65_2 h65_2 Y65_2 W65_2 A65_2 => ?_)
        have A65_2 : Arv Z h65_2 d kd .long (3 : Int32) [(.long x1), (.long x2), (.long x0)] (.long 0) := A65_2
        have K65_2 : Keep h0 h65_2 [d] := K55_2.wr W65_2 (Or.inl (List.mem_of_getElem? (i := 0) rfl))
        show Gl p e below _ (T65_2.setTop (mkF m 66 _ []))
        refine Gl.goto Y65_2 dG_66 (by decide) rfl ?_
        refine Gl.iinc Y65_2 rfl (r := (3 : Int32)) (by decide) (L' := #[.val (.ref d), .val (.int 0), .val (.int 3), .val (.int 0), .val (.int 3), .val (.long x2), .second]) rfl dG_3 rfl ?_
        refine Gl.iload Y65_2 rfl dG_6 rfl ?_
        refine Gl.iloadN Y65_2 rfl dG_8 rfl ?_
        refine Gl.icmpge Y65_2 dG_9 (by decide) rfl rfl (fun c9_3 => ?_) (fun c9_3 => ?_)
        rotate_left
        · exact absurd c9_3 (by decide)
        exact Gl.retV Y65_2 (by decide) (by decide)  dG_69 ⟨x1, x2, x0, rfl, (by unfold S3; omega), K65_2, A65_2⟩
      · have j45_3 : x2.toInt < x1.toInt := Int64.lt_iff_toInt_lt.mp c45_3
        refine Gl.aloadN Y55_2 rfl rfl dG_48 rfl ?_
        refine Gl.iloadN Y55_2 rfl dG_49 rfl ?_
        refine Gl.iconst Y55_2 (v := (1 : Int32)) (by decide) dG_50 rfl ?_
        refine Gl.iadd Y55_2 (r := (1 : Int32)) (by decide) dG_51 rfl ?_
        refine Gl.aloadN Y55_2 rfl rfl dG_52 rfl ?_
        refine Gl.iloadN Y55_2 rfl dG_53 rfl ?_
        refine Gl.laload Y55_2 A55_2 ⟨by decide, by decide⟩ (v := (.long x1)) rfl dG_54 rfl ?_
        refine Gl.lastore Y55_2 A55_2 (v := (.long x1)) rfl ⟨by decide, by decide⟩ (ix := 1) rfl (nle rfl) gd dG_55 rfl (fun T55_3 h55_3 Y55_3 W55_3 A55_3 => ?_)
        have A55_3 : Arv Z h55_3 d kd .long (3 : Int32) [(.long x1), (.long x1), (.long x0)] (.long 0) := A55_3
        have K55_3 : Keep h0 h55_3 [d] := K55_2.wr W55_3 (Or.inl (List.mem_of_getElem? (i := 0) rfl))
        show Gl p e below _ (T55_3.setTop (mkF m 56 _ []))
        refine Gl.goto Y55_3 dG_56 (by decide) rfl ?_
        refine Gl.iinc Y55_3 rfl (r := (-1 : Int32)) (by decide) (L' := #[.val (.ref d), .val (.int 0), .val (.int 3), .val (.int (-1)), .val (.int 2), .val (.long x2), .second]) rfl dG_31 rfl ?_
        refine Gl.iloadN Y55_3 rfl dG_34 rfl ?_
        refine Gl.iloadN Y55_3 rfl dG_35 rfl ?_
        refine Gl.icmplt Y55_3 dG_36 (by decide) rfl rfl (fun c36_5 => ?_) (fun c36_5 => ?_)
        rotate_left
        · exact absurd c36_5 (by decide)
        refine Gl.aloadN Y55_3 rfl rfl dG_59 rfl ?_
        refine Gl.iloadN Y55_3 rfl dG_60 rfl ?_
        refine Gl.iconst Y55_3 (v := (1 : Int32)) (by decide) dG_61 rfl ?_
        refine Gl.iadd Y55_3 (r := (0 : Int32)) (by decide) dG_62 rfl ?_
        refine Gl.lload Y55_3 rfl dG_63 rfl ?_
        refine Gl.lastore Y55_3 A55_3 (v := (.long x2)) rfl ⟨by decide, by decide⟩ (ix := 0) rfl (nle rfl) gd dG_65 rfl (fun T65_2 h65_2 Y65_2 W65_2 A65_2 => ?_)
        have A65_2 : Arv Z h65_2 d kd .long (3 : Int32) [(.long x2), (.long x1), (.long x0)] (.long 0) := A65_2
        have K65_2 : Keep h0 h65_2 [d] := K55_3.wr W65_2 (Or.inl (List.mem_of_getElem? (i := 0) rfl))
        show Gl p e below _ (T65_2.setTop (mkF m 66 _ []))
        refine Gl.goto Y65_2 dG_66 (by decide) rfl ?_
        refine Gl.iinc Y65_2 rfl (r := (3 : Int32)) (by decide) (L' := #[.val (.ref d), .val (.int 0), .val (.int 3), .val (.int (-1)), .val (.int 3), .val (.long x2), .second]) rfl dG_3 rfl ?_
        refine Gl.iload Y65_2 rfl dG_6 rfl ?_
        refine Gl.iloadN Y65_2 rfl dG_8 rfl ?_
        refine Gl.icmpge Y65_2 dG_9 (by decide) rfl rfl (fun c9_3 => ?_) (fun c9_3 => ?_)
        rotate_left
        · exact absurd c9_3 (by decide)
        exact Gl.retV Y65_2 (by decide) (by decide)  dG_69 ⟨x2, x1, x0, rfl, (by unfold S3; omega), K65_2, A65_2⟩
def R27 : Room := { frames := 1, cells := 0, slots := 0, locals := 18 }
def Q27 (Z : State) (d : Addr) (kd : ClassId) (x0 x1 x2 : Int64) (h0 : Heap) (v : Option Value) (h : Heap) : Prop := ∃ r0 : Int64, ∃ r1 : Int64, ∃ r2 : Int64, v = none ∧ (S3 x0 x1 x2 r0 r1 r2) ∧ Keep h0 h [d] ∧ Arv Z h d kd .long (3 : Int32) [(.long r0), (.long r1), (.long r2)] (.long 0)
theorem ef27 (d : Addr) (m : MethodId) : entryFrame m #[.null, (.ref d), (.int 0), (.int 0), (.int 3)] 25 = mkF m 0 #[.val .null, .val (.ref d), .val (.int 0), .val (.int 0), .val (.int 3), .unset, .unset, .unset, .unset, .unset, .unset, .unset, .unset, .unset, .unset, .unset, .unset, .unset, .unset, .unset, .unset, .unset, .unset, .unset, .unset] [] := by first | (simp [entryFrame, mkF, argsToLocals, Value.category]; done) | rfl
theorem rm27 (hw : HW a0 Z) (d : Addr) (kd : ClassId) (x0 x1 x2 : Int64) (h0 : Heap) (n0 : Nat) (Z0 : n0 ≤ h0.size) (V : Arv Z h0 d kd .long (3 : Int32) [(.long x0), (.long x1), (.long x2)] (.long 0)) (gd : n0 ≤ d) : OMet l Z [] (⟨"java/util/DualPivotQuicksort", "sort", "(Ljava/util/DualPivotQuicksort$Sorter;[JIII)V"⟩ : MethodName) jdk_2529_method_13_code 25 none R27 #[.null, (.ref d), (.int 0), (.int 0), (.int 3)] h0 n0 (Q27 Z d kd x0 x1 x2 h0) := by
  refine OMet.of (own := "java/util/DualPivotQuicksort") rfl (plainFor_of_name pn_2) (ef27 d) Z0 ?_
  intro p e s m below meth c T0 Y0 hnm
  refine Gl.iload Y0 rfl dH_0 rfl ?_
  refine Gl.iconst Y0 (v := (1 : Int32)) (by decide) dH_2 rfl ?_
  refine Gl.isub Y0 (r := (2 : Int32)) (by decide) dH_3 rfl ?_
  refine Gl.istore Y0 (L' := #[.val .null, .val (.ref d), .val (.int 0), .val (.int 0), .val (.int 3), .val (.int 2), .unset, .unset, .unset, .unset, .unset, .unset, .unset, .unset, .unset, .unset, .unset, .unset, .unset, .unset, .unset, .unset, .unset, .unset, .unset]) rfl dH_4 rfl ?_
  refine Gl.iload Y0 rfl dH_6 rfl ?_
  refine Gl.iloadN Y0 rfl dH_8 rfl ?_
  refine Gl.isub Y0 (r := (3 : Int32)) (by decide) dH_9 rfl ?_
  refine Gl.istore Y0 (L' := #[.val .null, .val (.ref d), .val (.int 0), .val (.int 0), .val (.int 3), .val (.int 2), .val (.int 3), .unset, .unset, .unset, .unset, .unset, .unset, .unset, .unset, .unset, .unset, .unset, .unset, .unset, .unset, .unset, .unset, .unset, .unset]) rfl dH_10 rfl ?_
  refine Gl.iload Y0 rfl dH_12 rfl ?_
  refine Gl.bipush Y0 (v := (65 : Int32)) (by decide) dH_14 rfl ?_
  refine Gl.iloadN Y0 rfl dH_16 rfl ?_
  refine Gl.iadd Y0 (r := (65 : Int32)) (by decide) dH_17 rfl ?_
  refine Gl.icmpge Y0 dH_18 (by decide) rfl rfl (fun c18 => ?_) (fun c18 => ?_)
  · exact absurd c18 (by decide)
  refine Gl.iloadN Y0 rfl dH_21 rfl ?_
  refine Gl.iconst Y0 (v := (1 : Int32)) (by decide) dH_22 rfl ?_
  refine Gl.iand Y0 (r := (0 : Int32)) (by decide) dH_23 rfl ?_
  refine Gl.ifle Y0 dH_24 (by decide) rfl rfl (fun c24 => ?_) (fun c24 => ?_)
  rotate_left
  · exact absurd c24 (by decide)
  refine Gl.iload Y0 rfl dH_46 rfl ?_
  refine Gl.bipush Y0 (v := (44 : Int32)) (by decide) dH_48 rfl ?_
  refine Gl.icmpge Y0 dH_50 (by decide) rfl rfl (fun c50 => ?_) (fun c50 => ?_)
  · exact absurd c50 (by decide)
  refine Gl.aloadN Y0 rfl rfl dH_53 rfl ?_
  refine Gl.iloadN Y0 rfl dH_54 rfl ?_
  refine Gl.iload Y0 rfl dH_55 rfl ?_
  refine Gl.callS Y0 (tw_51 hw) (tw_52 hw) (tw_46 hw) (tw_53 hw) (by decide) (rm26 l Z a0 hw d kd x0 x1 x2 h0 n0 Y0.sz V gd) (argsL := [(.ref d), (.int 0), (.int 3)]) (rest := []) rfl rfl (lenOf pd_1 rfl) rfl (by decide) (nle rfl) (by decide) (by decide) dH_57 rfl (fun v57 T57 h57 Y57 q57 => ?_)
  obtain ⟨r057, r157, r257, rfl, p57, K57, f57_0⟩ := q57
  have KK57 : Keep h0 h57 [d] := (Keep.refl h0 [d]).trans K57 (allS (Or.inl (List.mem_of_getElem? (i := 0) rfl)) all0)
  show Gl p e below _ (T57.setTop (mkF m 60 _ []))
  exact Gl.retV Y57 (by decide) (by decide)  dH_60 ⟨r057, r157, r257, rfl, p57, KK57, f57_0⟩
def R28 : Room := { frames := 2, cells := 0, slots := 0, locals := 54 }
def Q28 (Z : State) (d : Addr) (kd : ClassId) (x0 x1 x2 : Int64) (h0 : Heap) (v : Option Value) (h : Heap) : Prop := ∃ r0 : Int64, ∃ r1 : Int64, ∃ r2 : Int64, v = none ∧ (S3 x0 x1 x2 r0 r1 r2) ∧ Keep h0 h [d] ∧ Arv Z h d kd .long (3 : Int32) [(.long r0), (.long r1), (.long r2)] (.long 0)
theorem ef28 (d : Addr) (m : MethodId) : entryFrame m #[(.ref d), (.int 0), (.int 0), (.int 3)] 7 = mkF m 0 #[.val (.ref d), .val (.int 0), .val (.int 0), .val (.int 3), .unset, .unset, .unset] [] := by first | (simp [entryFrame, mkF, argsToLocals, Value.category]; done) | rfl
theorem rm28 (hw : HW a0 Z) (d : Addr) (kd : ClassId) (x0 x1 x2 : Int64) (h0 : Heap) (n0 : Nat) (Z0 : n0 ≤ h0.size) (V : Arv Z h0 d kd .long (3 : Int32) [(.long x0), (.long x1), (.long x2)] (.long 0)) (gd : n0 ≤ d) : OMet l Z [] (⟨"java/util/DualPivotQuicksort", "sort", "([JIII)V"⟩ : MethodName) jdk_2529_method_12_code 7 none R28 #[(.ref d), (.int 0), (.int 0), (.int 3)] h0 n0 (Q28 Z d kd x0 x1 x2 h0) := by
  refine OMet.of (own := "java/util/DualPivotQuicksort") rfl (plainFor_of_name pn_2) (ef28 d) Z0 ?_
  intro p e s m below meth c T0 Y0 hnm
  refine Gl.iloadN Y0 rfl dI_0 rfl ?_
  refine Gl.iloadN Y0 rfl dI_1 rfl ?_
  refine Gl.isub Y0 (r := (3 : Int32)) (by decide) dI_2 rfl ?_
  refine Gl.istore Y0 (L' := #[.val (.ref d), .val (.int 0), .val (.int 0), .val (.int 3), .val (.int 3), .unset, .unset]) rfl dI_3 rfl ?_
  refine Gl.iloadN Y0 rfl dI_5 rfl ?_
  refine Gl.iconst Y0 (v := (1 : Int32)) (by decide) dI_6 rfl ?_
  refine Gl.icmple Y0 dI_7 (by decide) rfl rfl (fun c7 => ?_) (fun c7 => ?_)
  rotate_left
  · exact absurd c7 (by decide)
  refine Gl.aconstNull Y0 dI_68 rfl ?_
  refine Gl.aloadN Y0 rfl rfl dI_69 rfl ?_
  refine Gl.iconst Y0 (v := (0 : Int32)) (by decide) dI_70 rfl ?_
  refine Gl.iloadN Y0 rfl dI_71 rfl ?_
  refine Gl.iloadN Y0 rfl dI_72 rfl ?_
  refine Gl.callS Y0 (tw_48 hw) (tw_49 hw) (tw_46 hw) (tw_50 hw) (by decide) (rm27 l Z a0 hw d kd x0 x1 x2 h0 n0 Y0.sz V gd) (argsL := [.null, (.ref d), (.int 0), (.int 0), (.int 3)]) (rest := []) rfl rfl (lenOf pd_2 rfl) rfl (by decide) (nle rfl) (by decide) (by decide) dI_73 rfl (fun v73 T73 h73 Y73 q73 => ?_)
  obtain ⟨r073, r173, r273, rfl, p73, K73, f73_0⟩ := q73
  have KK73 : Keep h0 h73 [d] := (Keep.refl h0 [d]).trans K73 (allS (Or.inl (List.mem_of_getElem? (i := 0) rfl)) all0)
  show Gl p e below _ (T73.setTop (mkF m 76 _ []))
  exact Gl.retV Y73 (by decide) (by decide)  dI_76 ⟨r073, r173, r273, rfl, p73, KK73, f73_0⟩
def R29 : Room := { frames := 3, cells := 0, slots := 0, locals := 72 }
def Q29 (Z : State) (d : Addr) (kd : ClassId) (x0 x1 x2 : Int64) (h0 : Heap) (v : Option Value) (h : Heap) : Prop := ∃ r0 : Int64, ∃ r1 : Int64, ∃ r2 : Int64, v = none ∧ (S3 x0 x1 x2 r0 r1 r2) ∧ Keep h0 h [d] ∧ Arv Z h d kd .long (3 : Int32) [(.long r0), (.long r1), (.long r2)] (.long 0)
theorem ef29 (d : Addr) (m : MethodId) : entryFrame m #[(.ref d)] 1 = mkF m 0 #[.val (.ref d)] [] := by first | (simp [entryFrame, mkF, argsToLocals, Value.category]; done) | rfl
theorem rm29 (hw : HW a0 Z) (d : Addr) (kd : ClassId) (x0 x1 x2 : Int64) (h0 : Heap) (n0 : Nat) (Z0 : n0 ≤ h0.size) (V : Arv Z h0 d kd .long (3 : Int32) [(.long x0), (.long x1), (.long x2)] (.long 0)) (gd : n0 ≤ d) : OMet l Z [] (⟨"java/util/Arrays", "sort", "([J)V"⟩ : MethodName) jdk_65_method_4_code 1 none R29 #[(.ref d)] h0 n0 (Q29 Z d kd x0 x1 x2 h0) := by
  refine OMet.of (own := "java/util/Arrays") rfl (plainFor_of_name pn_1) (ef29 d) Z0 ?_
  intro p e s m below meth c T0 Y0 hnm
  refine Gl.aloadN Y0 rfl rfl dJ_0 rfl ?_
  refine Gl.iconst Y0 (v := (0 : Int32)) (by decide) dJ_1 rfl ?_
  refine Gl.iconst Y0 (v := (0 : Int32)) (by decide) dJ_2 rfl ?_
  refine Gl.aloadN Y0 rfl rfl dJ_3 rfl ?_
  refine Gl.arraylength Y0 V dJ_4 rfl ?_
  refine Gl.callS Y0 (tw_44 hw) (tw_45 hw) (tw_46 hw) (tw_47 hw) (by decide) (rm28 l Z a0 hw d kd x0 x1 x2 h0 n0 Y0.sz V gd) (argsL := [(.ref d), (.int 0), (.int 0), (.int 3)]) (rest := []) rfl rfl (lenOf pd_3 rfl) rfl (by decide) (nle rfl) (by decide) (by decide) dJ_5 rfl (fun v5 T5 h5 Y5 q5 => ?_)
  obtain ⟨r05, r15, r25, rfl, p5, K5, f5_0⟩ := q5
  have KK5 : Keep h0 h5 [d] := (Keep.refl h0 [d]).trans K5 (allS (Or.inl (List.mem_of_getElem? (i := 0) rfl)) all0)
  show Gl p e below _ (T5.setTop (mkF m 8 _ []))
  exact Gl.retV Y5 (by decide) (by decide)  dJ_8 ⟨r05, r15, r25, rfl, p5, KK5, f5_0⟩
theorem dK_0 : decode jdk_29_method_92_code 0 = .ok (.dload_n 0, 1) := by decide +kernel
theorem dK_1 : decode jdk_29_method_92_code 1 = .ok (.invokestatic 79, 3) := by decide +kernel
theorem tw_68 {a0 : Array Value} {Z : State} (hw : HW a0 Z) : (Jvm.Cond.methodLink "java/lang/Math" (79 : Nat) ({ cls := "java/lang/Double", name := "doubleToRawLongBits", desc := "(D)J" } : Jvm.MethodName)).before a0 Z = true := hw _ (List.mem_of_getElem? (i := 68) rfl)
theorem tw_71 {a0 : Array Value} {Z : State} (hw : HW a0 Z) : (Jvm.Cond.native ({ cls := "java/lang/Double", name := "doubleToRawLongBits", desc := "(D)J" } : Jvm.MethodName)).before a0 Z = true := hw _ (List.mem_of_getElem? (i := 71) rfl)
theorem tw_69 {a0 : Array Value} {Z : State} (hw : HW a0 Z) : (Jvm.Cond.static ({ cls := "java/lang/Double", name := "doubleToRawLongBits", desc := "(D)J" } : Jvm.MethodName)).before a0 Z = true := hw _ (List.mem_of_getElem? (i := 69) rfl)
theorem tw_70 {a0 : Array Value} {Z : State} (hw : HW a0 Z) : (Jvm.Cond.initialized "java/lang/Double").before a0 Z = true := hw _ (List.mem_of_getElem? (i := 70) rfl)
theorem dK_4 : decode jdk_29_method_92_code 4 = .ok (.ldc2_w 87, 3) := by decide +kernel
theorem tw_72 {a0 : Array Value} {Z : State} (hw : HW a0 Z) : (Jvm.Cond.constantLong "java/lang/Math" (87 : Nat) (9218868437227405312 : Int64)).before a0 Z = true := hw _ (List.mem_of_getElem? (i := 72) rfl)
theorem dK_7 : decode jdk_29_method_92_code 7 = .ok (.land, 1) := by decide +kernel
theorem dK_8 : decode jdk_29_method_92_code 8 = .ok (.bipush 52, 2) := by decide +kernel
theorem dK_10 : decode jdk_29_method_92_code 10 = .ok (.lshr, 1) := by decide +kernel
theorem dK_11 : decode jdk_29_method_92_code 11 = .ok (.ldc2_w 322, 3) := by decide +kernel
theorem tw_73 {a0 : Array Value} {Z : State} (hw : HW a0 Z) : (Jvm.Cond.constantLong "java/lang/Math" (322 : Nat) (1023 : Int64)).before a0 Z = true := hw _ (List.mem_of_getElem? (i := 73) rfl)
theorem dK_14 : decode jdk_29_method_92_code 14 = .ok (.lsub, 1) := by decide +kernel
theorem dK_15 : decode jdk_29_method_92_code 15 = .ok (.l2i, 1) := by decide +kernel
theorem dK_16 : decode jdk_29_method_92_code 16 = .ok (.ireturn, 1) := by decide +kernel
theorem ef30 (m : MethodId) : entryFrame m #[(.double (0 : UInt64))] 2 = mkF m 0 #[.val (.double (0 : UInt64)), .second] [] := by first | (simp [entryFrame, mkF, argsToLocals, Value.category]; done) | rfl
theorem rm30 (hw : HW a0 Z) (h0 : Heap) (n0 : Nat) : LMet Z "java/lang/Math" jdk_29_method_92_code 2 (some .int) 28 2 #[.val (.double (0 : UInt64)), .second] (.int (-1023)) h0 := by
  intro p l e s TB m below r T0 P fs hh Y0 hfs qf
  refine Lw.dloadN Y0 rfl dK_0 rfl ?_
  refine Lw.dbits Y0 (x9 := (0 : Int64)) (by decide +kernel) (tw_68 hw) (tw_71 hw) (tw_69 hw) (tw_70 hw) rfl (by decide) (by decide) dK_1 rfl (fun T1 Y1 => ?_)
  show Gl p e below _ (T1.setTop (mkF m 4 _ [(.long 0)]))
  refine Lw.ldcJ Y1 (tw_72 hw) dK_4 rfl ?_
  refine Lw.land Y1 (x9 := (0 : Int64)) (by decide) dK_7 rfl ?_
  refine Lw.bipush Y1 (v := (52 : Int32)) (by decide) dK_8 rfl ?_
  refine Lw.lshr Y1 (x9 := (0 : Int64)) (by decide) dK_10 rfl ?_
  refine Lw.ldcJ Y1 (tw_73 hw) dK_11 rfl ?_
  refine Lw.lsub Y1 (x9 := (-1023 : Int64)) (by decide) dK_14 rfl ?_
  refine Lw.l2i Y1 (x9 := (-1023 : Int32)) (by decide) dK_15 rfl ?_
  exact Lw.retI Y1 dK_16 hfs qf
theorem dL_0 : decode jdk_128_method_18_code 0 = .ok (.dload_n 0, 1) := by decide +kernel
theorem dL_1 : decode jdk_128_method_18_code 1 = .ok (.invokestatic 66, 3) := by decide +kernel
theorem tw_65 {a0 : Array Value} {Z : State} (hw : HW a0 Z) : (Jvm.Cond.methodLink "java/lang/StrictMath" (66 : Nat) ({ cls := "java/lang/Math", name := "getExponent", desc := "(D)I" } : Jvm.MethodName)).before a0 Z = true := hw _ (List.mem_of_getElem? (i := 65) rfl)
theorem tw_66 {a0 : Array Value} {Z : State} (hw : HW a0 Z) : (Jvm.Cond.static ({ cls := "java/lang/Math", name := "getExponent", desc := "(D)I" } : Jvm.MethodName)).before a0 Z = true := hw _ (List.mem_of_getElem? (i := 66) rfl)
theorem tw_67 {a0 : Array Value} {Z : State} (hw : HW a0 Z) : (Jvm.Cond.code ({ cls := "java/lang/Math", name := "getExponent", desc := "(D)I" } : Jvm.MethodName) jdk_29_method_92_code (2 : Nat) (Option.some Jvm.ClassFile.FieldType.int)).before a0 Z = true := hw _ (List.mem_of_getElem? (i := 67) rfl)
theorem pd_4 : parseMethodDescriptor "(D)I" = some ⟨[.double], some .int⟩ := by decide +kernel
theorem dL_4 : decode jdk_128_method_18_code 4 = .ok (.istore 8, 2) := by decide +kernel
theorem dL_6 : decode jdk_128_method_18_code 6 = .ok (.iload 8, 2) := by decide +kernel
theorem dL_8 : decode jdk_128_method_18_code 8 = .ok (.ifCond .ge 26, 3) := by decide +kernel
theorem dL_11 : decode jdk_128_method_18_code 11 = .ok (.dload_n 0, 1) := by decide +kernel
theorem dL_12 : decode jdk_128_method_18_code 12 = .ok (.dconst 0, 1) := by decide +kernel
theorem dL_13 : decode jdk_128_method_18_code 13 = .ok (.dcmp .l, 1) := by decide +kernel
theorem dL_14 : decode jdk_128_method_18_code 14 = .ok (.ifCond .ne 7, 3) := by decide +kernel
theorem dL_17 : decode jdk_128_method_18_code 17 = .ok (.dload_n 0, 1) := by decide +kernel
theorem dL_18 : decode jdk_128_method_18_code 18 = .ok (.goto 15, 3) := by decide +kernel
theorem dL_33 : decode jdk_128_method_18_code 33 = .ok (.dreturn, 1) := by decide +kernel
theorem ef31 (m : MethodId) : entryFrame m #[(.double (0 : UInt64)), (.double (9223372036854775808 : UInt64)), (.double (4607182418800017408 : UInt64)), (.double (4607182418800017408 : UInt64))] 15 = mkF m 0 #[.val (.double (0 : UInt64)), .second, .val (.double (9223372036854775808 : UInt64)), .second, .val (.double (4607182418800017408 : UInt64)), .second, .val (.double (4607182418800017408 : UInt64)), .second, .unset, .unset, .unset, .unset, .unset, .unset, .unset] [] := by first | (simp [entryFrame, mkF, argsToLocals, Value.category]; done) | rfl
theorem rm31 (hw : HW a0 Z) (h0 : Heap) (n0 : Nat) (O : Old Z n0 h0) (SA : Sta Z Z.heap "java/lang/StrictMath" "$assertionsDisabled" "Z" (.int 1)) : LMet Z "java/lang/StrictMath" jdk_128_method_18_code 15 (some .double) 54 3 #[.val (.double (0 : UInt64)), .second, .val (.double (9223372036854775808 : UInt64)), .second, .val (.double (4607182418800017408 : UInt64)), .second, .val (.double (4607182418800017408 : UInt64)), .second, .unset, .unset, .unset, .unset, .unset, .unset, .unset] (.double (0 : UInt64)) h0 := by
  intro p l e s TB m below r T0 P fs hh Y0 hfs qf
  refine Lw.dloadN Y0 rfl dL_0 rfl ?_
  refine Lw.callS Y0 hh (tw_65 hw) (tw_66 hw) (tw_35 hw) (tw_67 hw) (by decide) (Jvm.Free.JP.mathPlain rfl (by decide +kernel)) (rm30 Z a0 hw h0 n0) (ef30) (argsL := [(.double (0 : UInt64))]) rfl rfl (lenOf pd_4 rfl) rfl (by decide) (by decide) (by decide) (by decide) dL_1 rfl (fun T1 Y1 => ?_)
  show Gl p e below _ (T1.setTop (mkF m 4 _ [(.int (-1023))]))
  refine Lw.istore Y1 (L' := #[.val (.double (0 : UInt64)), .second, .val (.double (9223372036854775808 : UInt64)), .second, .val (.double (4607182418800017408 : UInt64)), .second, .val (.double (4607182418800017408 : UInt64)), .second, .val (.int (-1023)), .unset, .unset, .unset, .unset, .unset, .unset]) rfl dL_4 rfl ?_
  refine Lw.iload Y1 rfl dL_6 rfl ?_
  refine Lw.ifge Y1 dL_8 (by decide) rfl rfl (fun c8 => ?_) (fun c8 => ?_)
  · exact absurd c8 (by decide)
  refine Lw.dloadN Y1 rfl dL_11 rfl ?_
  refine Lw.dconst0 Y1 dL_12 rfl ?_
  show Gl p e below _ (T1.setTop (mkF m 13 _ [(.double (0 : UInt64)), (.double (0 : UInt64))]))
  refine Lw.dcmp Y1 (v := (0 : Int32)) (by decide +kernel) dL_13 rfl ?_
  refine Lw.ifne Y1 dL_14 (by decide) rfl rfl (fun c14 => ?_) (fun c14 => ?_)
  · exact absurd c14 (by decide)
  refine Lw.dloadN Y1 rfl dL_17 rfl ?_
  refine Lw.goto Y1 dL_18 (by decide) rfl ?_
  exact Lw.retD Y1 dL_33 hfs qf
theorem dM_0 : decode jdk_128_method_16_code 0 = .ok (.dload_n 0, 1) := by decide +kernel
theorem dM_1 : decode jdk_128_method_16_code 1 = .ok (.ldc2_w 58, 3) := by decide +kernel
theorem tw_61 {a0 : Array Value} {Z : State} (hw : HW a0 Z) : (Jvm.Cond.constantDouble "java/lang/StrictMath" (58 : Nat) (9223372036854775808 : UInt64)).before a0 Z = true := hw _ (List.mem_of_getElem? (i := 61) rfl)
theorem dM_4 : decode jdk_128_method_16_code 4 = .ok (.dconst 1, 1) := by decide +kernel
theorem dM_5 : decode jdk_128_method_16_code 5 = .ok (.dconst 1, 1) := by decide +kernel
theorem dM_6 : decode jdk_128_method_16_code 6 = .ok (.invokestatic 60, 3) := by decide +kernel
theorem tw_62 {a0 : Array Value} {Z : State} (hw : HW a0 Z) : (Jvm.Cond.methodLink "java/lang/StrictMath" (60 : Nat) ({ cls := "java/lang/StrictMath", name := "floorOrCeil", desc := "(DDDD)D" } : Jvm.MethodName)).before a0 Z = true := hw _ (List.mem_of_getElem? (i := 62) rfl)
theorem tw_63 {a0 : Array Value} {Z : State} (hw : HW a0 Z) : (Jvm.Cond.static ({ cls := "java/lang/StrictMath", name := "floorOrCeil", desc := "(DDDD)D" } : Jvm.MethodName)).before a0 Z = true := hw _ (List.mem_of_getElem? (i := 63) rfl)
theorem tw_59 {a0 : Array Value} {Z : State} (hw : HW a0 Z) : (Jvm.Cond.initialized "java/lang/StrictMath").before a0 Z = true := hw _ (List.mem_of_getElem? (i := 59) rfl)
theorem tw_64 {a0 : Array Value} {Z : State} (hw : HW a0 Z) : (Jvm.Cond.code ({ cls := "java/lang/StrictMath", name := "floorOrCeil", desc := "(DDDD)D" } : Jvm.MethodName) jdk_128_method_18_code (15 : Nat) (Option.some Jvm.ClassFile.FieldType.double)).before a0 Z = true := hw _ (List.mem_of_getElem? (i := 64) rfl)
theorem pn_3 : plainName "java/lang/StrictMath" = true := by first | (simp [plainName, overriddenIn]; done) | decide +kernel
theorem pd_5 : parseMethodDescriptor "(DDDD)D" = some ⟨[.double, .double, .double, .double], some .double⟩ := by decide +kernel
theorem dM_9 : decode jdk_128_method_16_code 9 = .ok (.dreturn, 1) := by decide +kernel
theorem ef32 (m : MethodId) : entryFrame m #[(.double (0 : UInt64))] 2 = mkF m 0 #[.val (.double (0 : UInt64)), .second] [] := by first | (simp [entryFrame, mkF, argsToLocals, Value.category]; done) | rfl
theorem rm32 (hw : HW a0 Z) (h0 : Heap) (n0 : Nat) (O : Old Z n0 h0) (SA : Sta Z Z.heap "java/lang/StrictMath" "$assertionsDisabled" "Z" (.int 1)) : LMet Z "java/lang/StrictMath" jdk_128_method_16_code 2 (some .double) 67 4 #[.val (.double (0 : UInt64)), .second] (.double (0 : UInt64)) h0 := by
  intro p l e s TB m below r T0 P fs hh Y0 hfs qf
  refine Lw.dloadN Y0 rfl dM_0 rfl ?_
  refine Lw.ldcD Y0 (tw_61 hw) dM_1 rfl ?_
  refine Lw.dconst1 Y0 dM_4 rfl ?_
  show Gl p e below _ (T0.setTop (mkF m 5 _ [(.double (4607182418800017408 : UInt64)), (.double (9223372036854775808 : UInt64)), (.double (0 : UInt64))]))
  refine Lw.dconst1 Y0 dM_5 rfl ?_
  show Gl p e below _ (T0.setTop (mkF m 6 _ [(.double (4607182418800017408 : UInt64)), (.double (4607182418800017408 : UInt64)), (.double (9223372036854775808 : UInt64)), (.double (0 : UInt64))]))
  refine Lw.callS Y0 hh (tw_62 hw) (tw_63 hw) (tw_59 hw) (tw_64 hw) (by decide) (plainFor_of_name pn_3) (rm31 Z a0 hw h0 n0 O SA) (ef31) (argsL := [(.double (0 : UInt64)), (.double (9223372036854775808 : UInt64)), (.double (4607182418800017408 : UInt64)), (.double (4607182418800017408 : UInt64))]) rfl rfl (lenOf pd_5 rfl) rfl (by decide) (by decide) (by decide) (by decide) dM_6 rfl (fun T6 Y6 => ?_)
  show Gl p e below _ (T6.setTop (mkF m 9 _ [(.double (0 : UInt64))]))
  exact Lw.retD Y6 dM_9 hfs qf
theorem ef33 (m : MethodId) : entryFrame m #[(.double (4602678819172646912 : UInt64))] 2 = mkF m 0 #[.val (.double (4602678819172646912 : UInt64)), .second] [] := by first | (simp [entryFrame, mkF, argsToLocals, Value.category]; done) | rfl
theorem rm33 (hw : HW a0 Z) (h0 : Heap) (n0 : Nat) : LMet Z "java/lang/Math" jdk_29_method_92_code 2 (some .int) 28 2 #[.val (.double (4602678819172646912 : UInt64)), .second] (.int (-1)) h0 := by
  intro p l e s TB m below r T0 P fs hh Y0 hfs qf
  refine Lw.dloadN Y0 rfl dK_0 rfl ?_
  refine Lw.dbits Y0 (x9 := (4602678819172646912 : Int64)) (by decide +kernel) (tw_68 hw) (tw_71 hw) (tw_69 hw) (tw_70 hw) rfl (by decide) (by decide) dK_1 rfl (fun T1 Y1 => ?_)
  show Gl p e below _ (T1.setTop (mkF m 4 _ [(.long 4602678819172646912)]))
  refine Lw.ldcJ Y1 (tw_72 hw) dK_4 rfl ?_
  refine Lw.land Y1 (x9 := (4602678819172646912 : Int64)) (by decide) dK_7 rfl ?_
  refine Lw.bipush Y1 (v := (52 : Int32)) (by decide) dK_8 rfl ?_
  refine Lw.lshr Y1 (x9 := (1022 : Int64)) (by decide) dK_10 rfl ?_
  refine Lw.ldcJ Y1 (tw_73 hw) dK_11 rfl ?_
  refine Lw.lsub Y1 (x9 := (-1 : Int64)) (by decide) dK_14 rfl ?_
  refine Lw.l2i Y1 (x9 := (-1 : Int32)) (by decide) dK_15 rfl ?_
  exact Lw.retI Y1 dK_16 hfs qf
theorem dL_21 : decode jdk_128_method_18_code 21 = .ok (.dload_n 0, 1) := by decide +kernel
theorem dL_22 : decode jdk_128_method_18_code 22 = .ok (.dconst 0, 1) := by decide +kernel
theorem dL_23 : decode jdk_128_method_18_code 23 = .ok (.dcmp .g, 1) := by decide +kernel
theorem dL_24 : decode jdk_128_method_18_code 24 = .ok (.ifCond .ge 7, 3) := by decide +kernel
theorem dL_31 : decode jdk_128_method_18_code 31 = .ok (.dload 4, 2) := by decide +kernel
theorem ef34 (m : MethodId) : entryFrame m #[(.double (4602678819172646912 : UInt64)), (.double (9223372036854775808 : UInt64)), (.double (4607182418800017408 : UInt64)), (.double (4607182418800017408 : UInt64))] 15 = mkF m 0 #[.val (.double (4602678819172646912 : UInt64)), .second, .val (.double (9223372036854775808 : UInt64)), .second, .val (.double (4607182418800017408 : UInt64)), .second, .val (.double (4607182418800017408 : UInt64)), .second, .unset, .unset, .unset, .unset, .unset, .unset, .unset] [] := by first | (simp [entryFrame, mkF, argsToLocals, Value.category]; done) | rfl
theorem rm34 (hw : HW a0 Z) (h0 : Heap) (n0 : Nat) (O : Old Z n0 h0) (SA : Sta Z Z.heap "java/lang/StrictMath" "$assertionsDisabled" "Z" (.int 1)) : LMet Z "java/lang/StrictMath" jdk_128_method_18_code 15 (some .double) 54 3 #[.val (.double (4602678819172646912 : UInt64)), .second, .val (.double (9223372036854775808 : UInt64)), .second, .val (.double (4607182418800017408 : UInt64)), .second, .val (.double (4607182418800017408 : UInt64)), .second, .unset, .unset, .unset, .unset, .unset, .unset, .unset] (.double (4607182418800017408 : UInt64)) h0 := by
  intro p l e s TB m below r T0 P fs hh Y0 hfs qf
  refine Lw.dloadN Y0 rfl dL_0 rfl ?_
  refine Lw.callS Y0 hh (tw_65 hw) (tw_66 hw) (tw_35 hw) (tw_67 hw) (by decide) (Jvm.Free.JP.mathPlain rfl (by decide +kernel)) (rm33 Z a0 hw h0 n0) (ef33) (argsL := [(.double (4602678819172646912 : UInt64))]) rfl rfl (lenOf pd_4 rfl) rfl (by decide) (by decide) (by decide) (by decide) dL_1 rfl (fun T1 Y1 => ?_)
  show Gl p e below _ (T1.setTop (mkF m 4 _ [(.int (-1))]))
  refine Lw.istore Y1 (L' := #[.val (.double (4602678819172646912 : UInt64)), .second, .val (.double (9223372036854775808 : UInt64)), .second, .val (.double (4607182418800017408 : UInt64)), .second, .val (.double (4607182418800017408 : UInt64)), .second, .val (.int (-1)), .unset, .unset, .unset, .unset, .unset, .unset]) rfl dL_4 rfl ?_
  refine Lw.iload Y1 rfl dL_6 rfl ?_
  refine Lw.ifge Y1 dL_8 (by decide) rfl rfl (fun c8 => ?_) (fun c8 => ?_)
  · exact absurd c8 (by decide)
  refine Lw.dloadN Y1 rfl dL_11 rfl ?_
  refine Lw.dconst0 Y1 dL_12 rfl ?_
  show Gl p e below _ (T1.setTop (mkF m 13 _ [(.double (0 : UInt64)), (.double (4602678819172646912 : UInt64))]))
  refine Lw.dcmp Y1 (v := (1 : Int32)) (by decide +kernel) dL_13 rfl ?_
  refine Lw.ifne Y1 dL_14 (by decide) rfl rfl (fun c14 => ?_) (fun c14 => ?_)
  rotate_left
  · exact absurd c14 (by decide)
  refine Lw.dloadN Y1 rfl dL_21 rfl ?_
  refine Lw.dconst0 Y1 dL_22 rfl ?_
  show Gl p e below _ (T1.setTop (mkF m 23 _ [(.double (0 : UInt64)), (.double (4602678819172646912 : UInt64))]))
  refine Lw.dcmp Y1 (v := (1 : Int32)) (by decide +kernel) dL_23 rfl ?_
  refine Lw.ifge Y1 dL_24 (by decide) rfl rfl (fun c24 => ?_) (fun c24 => ?_)
  rotate_left
  · exact absurd c24 (by decide)
  refine Lw.dload Y1 rfl dL_31 rfl ?_
  exact Lw.retD Y1 dL_33 hfs qf
theorem ef35 (m : MethodId) : entryFrame m #[(.double (4602678819172646912 : UInt64))] 2 = mkF m 0 #[.val (.double (4602678819172646912 : UInt64)), .second] [] := by first | (simp [entryFrame, mkF, argsToLocals, Value.category]; done) | rfl
theorem rm35 (hw : HW a0 Z) (h0 : Heap) (n0 : Nat) (O : Old Z n0 h0) (SA : Sta Z Z.heap "java/lang/StrictMath" "$assertionsDisabled" "Z" (.int 1)) : LMet Z "java/lang/StrictMath" jdk_128_method_16_code 2 (some .double) 67 4 #[.val (.double (4602678819172646912 : UInt64)), .second] (.double (4607182418800017408 : UInt64)) h0 := by
  intro p l e s TB m below r T0 P fs hh Y0 hfs qf
  refine Lw.dloadN Y0 rfl dM_0 rfl ?_
  refine Lw.ldcD Y0 (tw_61 hw) dM_1 rfl ?_
  refine Lw.dconst1 Y0 dM_4 rfl ?_
  show Gl p e below _ (T0.setTop (mkF m 5 _ [(.double (4607182418800017408 : UInt64)), (.double (9223372036854775808 : UInt64)), (.double (4602678819172646912 : UInt64))]))
  refine Lw.dconst1 Y0 dM_5 rfl ?_
  show Gl p e below _ (T0.setTop (mkF m 6 _ [(.double (4607182418800017408 : UInt64)), (.double (4607182418800017408 : UInt64)), (.double (9223372036854775808 : UInt64)), (.double (4602678819172646912 : UInt64))]))
  refine Lw.callS Y0 hh (tw_62 hw) (tw_63 hw) (tw_59 hw) (tw_64 hw) (by decide) (plainFor_of_name pn_3) (rm34 Z a0 hw h0 n0 O SA) (ef34) (argsL := [(.double (4602678819172646912 : UInt64)), (.double (9223372036854775808 : UInt64)), (.double (4607182418800017408 : UInt64)), (.double (4607182418800017408 : UInt64))]) rfl rfl (lenOf pd_5 rfl) rfl (by decide) (by decide) (by decide) (by decide) dM_6 rfl (fun T6 Y6 => ?_)
  show Gl p e below _ (T6.setTop (mkF m 9 _ [(.double (4607182418800017408 : UInt64))]))
  exact Lw.retD Y6 dM_9 hfs qf
theorem ef36 (m : MethodId) : entryFrame m #[(.double (4607182418800017408 : UInt64))] 2 = mkF m 0 #[.val (.double (4607182418800017408 : UInt64)), .second] [] := by first | (simp [entryFrame, mkF, argsToLocals, Value.category]; done) | rfl
theorem rm36 (hw : HW a0 Z) (h0 : Heap) (n0 : Nat) : LMet Z "java/lang/Math" jdk_29_method_92_code 2 (some .int) 28 2 #[.val (.double (4607182418800017408 : UInt64)), .second] (.int 0) h0 := by
  intro p l e s TB m below r T0 P fs hh Y0 hfs qf
  refine Lw.dloadN Y0 rfl dK_0 rfl ?_
  refine Lw.dbits Y0 (x9 := (4607182418800017408 : Int64)) (by decide +kernel) (tw_68 hw) (tw_71 hw) (tw_69 hw) (tw_70 hw) rfl (by decide) (by decide) dK_1 rfl (fun T1 Y1 => ?_)
  show Gl p e below _ (T1.setTop (mkF m 4 _ [(.long 4607182418800017408)]))
  refine Lw.ldcJ Y1 (tw_72 hw) dK_4 rfl ?_
  refine Lw.land Y1 (x9 := (4607182418800017408 : Int64)) (by decide) dK_7 rfl ?_
  refine Lw.bipush Y1 (v := (52 : Int32)) (by decide) dK_8 rfl ?_
  refine Lw.lshr Y1 (x9 := (1023 : Int64)) (by decide) dK_10 rfl ?_
  refine Lw.ldcJ Y1 (tw_73 hw) dK_11 rfl ?_
  refine Lw.lsub Y1 (x9 := (0 : Int64)) (by decide) dK_14 rfl ?_
  refine Lw.l2i Y1 (x9 := (0 : Int32)) (by decide) dK_15 rfl ?_
  exact Lw.retI Y1 dK_16 hfs qf
theorem dL_34 : decode jdk_128_method_18_code 34 = .ok (.iload 8, 2) := by decide +kernel
theorem dL_36 : decode jdk_128_method_18_code 36 = .ok (.bipush 52, 2) := by decide +kernel
theorem dL_38 : decode jdk_128_method_18_code 38 = .ok (.if_icmp .lt 5, 3) := by decide +kernel
theorem dL_43 : decode jdk_128_method_18_code 43 = .ok (.getstatic 70, 3) := by decide +kernel
theorem tw_78 {a0 : Array Value} {Z : State} (hw : HW a0 Z) : (Jvm.Cond.fieldLink "java/lang/StrictMath" (70 : Nat) "java/lang/StrictMath" "$assertionsDisabled" "Z").before a0 Z = true := hw _ (List.mem_of_getElem? (i := 78) rfl)
theorem dL_46 : decode jdk_128_method_18_code 46 = .ok (.ifCond .ne 23, 3) := by decide +kernel
theorem dL_69 : decode jdk_128_method_18_code 69 = .ok (.dload_n 0, 1) := by decide +kernel
theorem dL_70 : decode jdk_128_method_18_code 70 = .ok (.invokestatic 77, 3) := by decide +kernel
theorem tw_79 {a0 : Array Value} {Z : State} (hw : HW a0 Z) : (Jvm.Cond.methodLink "java/lang/StrictMath" (77 : Nat) ({ cls := "java/lang/Double", name := "doubleToRawLongBits", desc := "(D)J" } : Jvm.MethodName)).before a0 Z = true := hw _ (List.mem_of_getElem? (i := 79) rfl)
theorem dL_73 : decode jdk_128_method_18_code 73 = .ok (.lstore 9, 2) := by decide +kernel
theorem dL_75 : decode jdk_128_method_18_code 75 = .ok (.ldc2_w 85, 3) := by decide +kernel
theorem tw_80 {a0 : Array Value} {Z : State} (hw : HW a0 Z) : (Jvm.Cond.constantLong "java/lang/StrictMath" (85 : Nat) (4503599627370495 : Int64)).before a0 Z = true := hw _ (List.mem_of_getElem? (i := 80) rfl)
theorem dL_78 : decode jdk_128_method_18_code 78 = .ok (.iload 8, 2) := by decide +kernel
theorem dL_80 : decode jdk_128_method_18_code 80 = .ok (.lshr, 1) := by decide +kernel
theorem dL_81 : decode jdk_128_method_18_code 81 = .ok (.lstore 11, 2) := by decide +kernel
theorem dL_83 : decode jdk_128_method_18_code 83 = .ok (.lload 11, 2) := by decide +kernel
theorem dL_85 : decode jdk_128_method_18_code 85 = .ok (.lload 9, 2) := by decide +kernel
theorem dL_87 : decode jdk_128_method_18_code 87 = .ok (.land, 1) := by decide +kernel
theorem dL_88 : decode jdk_128_method_18_code 88 = .ok (.lconst 0, 1) := by decide +kernel
theorem dL_89 : decode jdk_128_method_18_code 89 = .ok (.lcmp, 1) := by decide +kernel
theorem dL_90 : decode jdk_128_method_18_code 90 = .ok (.ifCond .ne 5, 3) := by decide +kernel
theorem dL_93 : decode jdk_128_method_18_code 93 = .ok (.dload_n 0, 1) := by decide +kernel
theorem dL_94 : decode jdk_128_method_18_code 94 = .ok (.dreturn, 1) := by decide +kernel
theorem ef37 (m : MethodId) : entryFrame m #[(.double (4607182418800017408 : UInt64)), (.double (9223372036854775808 : UInt64)), (.double (4607182418800017408 : UInt64)), (.double (4607182418800017408 : UInt64))] 15 = mkF m 0 #[.val (.double (4607182418800017408 : UInt64)), .second, .val (.double (9223372036854775808 : UInt64)), .second, .val (.double (4607182418800017408 : UInt64)), .second, .val (.double (4607182418800017408 : UInt64)), .second, .unset, .unset, .unset, .unset, .unset, .unset, .unset] [] := by first | (simp [entryFrame, mkF, argsToLocals, Value.category]; done) | rfl
theorem rm37 (hw : HW a0 Z) (h0 : Heap) (n0 : Nat) (O : Old Z n0 h0) (SA : Sta Z Z.heap "java/lang/StrictMath" "$assertionsDisabled" "Z" (.int 1)) : LMet Z "java/lang/StrictMath" jdk_128_method_18_code 15 (some .double) 54 3 #[.val (.double (4607182418800017408 : UInt64)), .second, .val (.double (9223372036854775808 : UInt64)), .second, .val (.double (4607182418800017408 : UInt64)), .second, .val (.double (4607182418800017408 : UInt64)), .second, .unset, .unset, .unset, .unset, .unset, .unset, .unset] (.double (4607182418800017408 : UInt64)) h0 := by
  intro p l e s TB m below r T0 P fs hh Y0 hfs qf
  refine Lw.dloadN Y0 rfl dL_0 rfl ?_
  refine Lw.callS Y0 hh (tw_65 hw) (tw_66 hw) (tw_35 hw) (tw_67 hw) (by decide) (Jvm.Free.JP.mathPlain rfl (by decide +kernel)) (rm36 Z a0 hw h0 n0) (ef36) (argsL := [(.double (4607182418800017408 : UInt64))]) rfl rfl (lenOf pd_4 rfl) rfl (by decide) (by decide) (by decide) (by decide) dL_1 rfl (fun T1 Y1 => ?_)
  show Gl p e below _ (T1.setTop (mkF m 4 _ [(.int 0)]))
  refine Lw.istore Y1 (L' := #[.val (.double (4607182418800017408 : UInt64)), .second, .val (.double (9223372036854775808 : UInt64)), .second, .val (.double (4607182418800017408 : UInt64)), .second, .val (.double (4607182418800017408 : UInt64)), .second, .val (.int 0), .unset, .unset, .unset, .unset, .unset, .unset]) rfl dL_4 rfl ?_
  refine Lw.iload Y1 rfl dL_6 rfl ?_
  refine Lw.ifge Y1 dL_8 (by decide) rfl rfl (fun c8 => ?_) (fun c8 => ?_)
  rotate_left
  · exact absurd c8 (by decide)
  refine Lw.iload Y1 rfl dL_34 rfl ?_
  refine Lw.bipush Y1 (v := (52 : Int32)) (by decide) dL_36 rfl ?_
  refine Lw.icmplt Y1 dL_38 (by decide) rfl rfl (fun c38 => ?_) (fun c38 => ?_)
  rotate_left
  · exact absurd c38 (by decide)
  refine Lw.getS Y1 hh (tw_78 hw) Via.refl (Sta.ext O.2 SA) dL_43 rfl (fun T43 Y43 => ?_)
  refine Lw.ifne Y43 dL_46 (by decide) rfl rfl (fun c46 => ?_) (fun c46 => ?_)
  rotate_left
  · exact absurd c46 (by decide)
  refine Lw.dloadN Y43 rfl dL_69 rfl ?_
  refine Lw.dbits Y43 (x9 := (4607182418800017408 : Int64)) (by decide +kernel) (tw_79 hw) (tw_71 hw) (tw_69 hw) (tw_70 hw) rfl (by decide) (by decide) dL_70 rfl (fun T70 Y70 => ?_)
  show Gl p e below _ (T70.setTop (mkF m 73 _ [(.long 4607182418800017408)]))
  refine Lw.lstore Y70 (L' := #[.val (.double (4607182418800017408 : UInt64)), .second, .val (.double (9223372036854775808 : UInt64)), .second, .val (.double (4607182418800017408 : UInt64)), .second, .val (.double (4607182418800017408 : UInt64)), .second, .val (.int 0), .val (.long 4607182418800017408), .second, .unset, .unset, .unset, .unset]) rfl dL_73 rfl ?_
  refine Lw.ldcJ Y70 (tw_80 hw) dL_75 rfl ?_
  refine Lw.iload Y70 rfl dL_78 rfl ?_
  refine Lw.lshr Y70 (x9 := (4503599627370495 : Int64)) (by decide) dL_80 rfl ?_
  refine Lw.lstore Y70 (L' := #[.val (.double (4607182418800017408 : UInt64)), .second, .val (.double (9223372036854775808 : UInt64)), .second, .val (.double (4607182418800017408 : UInt64)), .second, .val (.double (4607182418800017408 : UInt64)), .second, .val (.int 0), .val (.long 4607182418800017408), .second, .val (.long 4503599627370495), .second, .unset, .unset]) rfl dL_81 rfl ?_
  refine Lw.lload Y70 rfl dL_83 rfl ?_
  refine Lw.lload Y70 rfl dL_85 rfl ?_
  refine Lw.land Y70 (x9 := (0 : Int64)) (by decide) dL_87 rfl ?_
  refine Lw.lconst Y70 (v := (0 : Int64)) (by decide) dL_88 rfl ?_
  refine Lw.lcmpne Y70 dL_89 rfl dL_90 (by decide) rfl rfl (fun c90 => ?_) (fun c90 => ?_)
  · exact absurd c90 (by decide)
  refine Lw.dloadN Y70 rfl dL_93 rfl ?_
  exact Lw.retD Y70 dL_94 hfs qf
theorem ef38 (m : MethodId) : entryFrame m #[(.double (4607182418800017408 : UInt64))] 2 = mkF m 0 #[.val (.double (4607182418800017408 : UInt64)), .second] [] := by first | (simp [entryFrame, mkF, argsToLocals, Value.category]; done) | rfl
theorem rm38 (hw : HW a0 Z) (h0 : Heap) (n0 : Nat) (O : Old Z n0 h0) (SA : Sta Z Z.heap "java/lang/StrictMath" "$assertionsDisabled" "Z" (.int 1)) : LMet Z "java/lang/StrictMath" jdk_128_method_16_code 2 (some .double) 67 4 #[.val (.double (4607182418800017408 : UInt64)), .second] (.double (4607182418800017408 : UInt64)) h0 := by
  intro p l e s TB m below r T0 P fs hh Y0 hfs qf
  refine Lw.dloadN Y0 rfl dM_0 rfl ?_
  refine Lw.ldcD Y0 (tw_61 hw) dM_1 rfl ?_
  refine Lw.dconst1 Y0 dM_4 rfl ?_
  show Gl p e below _ (T0.setTop (mkF m 5 _ [(.double (4607182418800017408 : UInt64)), (.double (9223372036854775808 : UInt64)), (.double (4607182418800017408 : UInt64))]))
  refine Lw.dconst1 Y0 dM_5 rfl ?_
  show Gl p e below _ (T0.setTop (mkF m 6 _ [(.double (4607182418800017408 : UInt64)), (.double (4607182418800017408 : UInt64)), (.double (9223372036854775808 : UInt64)), (.double (4607182418800017408 : UInt64))]))
  refine Lw.callS Y0 hh (tw_62 hw) (tw_63 hw) (tw_59 hw) (tw_64 hw) (by decide) (plainFor_of_name pn_3) (rm37 Z a0 hw h0 n0 O SA) (ef37) (argsL := [(.double (4607182418800017408 : UInt64)), (.double (9223372036854775808 : UInt64)), (.double (4607182418800017408 : UInt64)), (.double (4607182418800017408 : UInt64))]) rfl rfl (lenOf pd_5 rfl) rfl (by decide) (by decide) (by decide) (by decide) dM_6 rfl (fun T6 Y6 => ?_)
  show Gl p e below _ (T6.setTop (mkF m 9 _ [(.double (4607182418800017408 : UInt64))]))
  exact Lw.retD Y6 dM_9 hfs qf
theorem ef39 (m : MethodId) : entryFrame m #[(.double (4609434218613702656 : UInt64))] 2 = mkF m 0 #[.val (.double (4609434218613702656 : UInt64)), .second] [] := by first | (simp [entryFrame, mkF, argsToLocals, Value.category]; done) | rfl
theorem rm39 (hw : HW a0 Z) (h0 : Heap) (n0 : Nat) : LMet Z "java/lang/Math" jdk_29_method_92_code 2 (some .int) 28 2 #[.val (.double (4609434218613702656 : UInt64)), .second] (.int 0) h0 := by
  intro p l e s TB m below r T0 P fs hh Y0 hfs qf
  refine Lw.dloadN Y0 rfl dK_0 rfl ?_
  refine Lw.dbits Y0 (x9 := (4609434218613702656 : Int64)) (by decide +kernel) (tw_68 hw) (tw_71 hw) (tw_69 hw) (tw_70 hw) rfl (by decide) (by decide) dK_1 rfl (fun T1 Y1 => ?_)
  show Gl p e below _ (T1.setTop (mkF m 4 _ [(.long 4609434218613702656)]))
  refine Lw.ldcJ Y1 (tw_72 hw) dK_4 rfl ?_
  refine Lw.land Y1 (x9 := (4607182418800017408 : Int64)) (by decide) dK_7 rfl ?_
  refine Lw.bipush Y1 (v := (52 : Int32)) (by decide) dK_8 rfl ?_
  refine Lw.lshr Y1 (x9 := (1023 : Int64)) (by decide) dK_10 rfl ?_
  refine Lw.ldcJ Y1 (tw_73 hw) dK_11 rfl ?_
  refine Lw.lsub Y1 (x9 := (0 : Int64)) (by decide) dK_14 rfl ?_
  refine Lw.l2i Y1 (x9 := (0 : Int32)) (by decide) dK_15 rfl ?_
  exact Lw.retI Y1 dK_16 hfs qf
theorem dL_95 : decode jdk_128_method_18_code 95 = .ok (.lload 9, 2) := by decide +kernel
theorem dL_97 : decode jdk_128_method_18_code 97 = .ok (.lload 11, 2) := by decide +kernel
theorem dL_99 : decode jdk_128_method_18_code 99 = .ok (.ldc2_w 87, 3) := by decide +kernel
theorem tw_82 {a0 : Array Value} {Z : State} (hw : HW a0 Z) : (Jvm.Cond.constantLong "java/lang/StrictMath" (87 : Nat) (-1 : Int64)).before a0 Z = true := hw _ (List.mem_of_getElem? (i := 82) rfl)
theorem dL_102 : decode jdk_128_method_18_code 102 = .ok (.lxor, 1) := by decide +kernel
theorem dL_103 : decode jdk_128_method_18_code 103 = .ok (.land, 1) := by decide +kernel
theorem dL_104 : decode jdk_128_method_18_code 104 = .ok (.invokestatic 89, 3) := by decide +kernel
theorem tw_83 {a0 : Array Value} {Z : State} (hw : HW a0 Z) : (Jvm.Cond.methodLink "java/lang/StrictMath" (89 : Nat) ({ cls := "java/lang/Double", name := "longBitsToDouble", desc := "(J)D" } : Jvm.MethodName)).before a0 Z = true := hw _ (List.mem_of_getElem? (i := 83) rfl)
theorem tw_85 {a0 : Array Value} {Z : State} (hw : HW a0 Z) : (Jvm.Cond.native ({ cls := "java/lang/Double", name := "longBitsToDouble", desc := "(J)D" } : Jvm.MethodName)).before a0 Z = true := hw _ (List.mem_of_getElem? (i := 85) rfl)
theorem tw_84 {a0 : Array Value} {Z : State} (hw : HW a0 Z) : (Jvm.Cond.static ({ cls := "java/lang/Double", name := "longBitsToDouble", desc := "(J)D" } : Jvm.MethodName)).before a0 Z = true := hw _ (List.mem_of_getElem? (i := 84) rfl)
theorem dL_107 : decode jdk_128_method_18_code 107 = .ok (.dstore 13, 2) := by decide +kernel
theorem dL_109 : decode jdk_128_method_18_code 109 = .ok (.dload 6, 2) := by decide +kernel
theorem dL_111 : decode jdk_128_method_18_code 111 = .ok (.dload_n 0, 1) := by decide +kernel
theorem dL_112 : decode jdk_128_method_18_code 112 = .ok (.dmul, 1) := by decide +kernel
theorem dL_113 : decode jdk_128_method_18_code 113 = .ok (.dconst 0, 1) := by decide +kernel
theorem dL_114 : decode jdk_128_method_18_code 114 = .ok (.dcmp .l, 1) := by decide +kernel
theorem dL_115 : decode jdk_128_method_18_code 115 = .ok (.ifCond .le 10, 3) := by decide +kernel
theorem dL_118 : decode jdk_128_method_18_code 118 = .ok (.dload 13, 2) := by decide +kernel
theorem dL_120 : decode jdk_128_method_18_code 120 = .ok (.dload 6, 2) := by decide +kernel
theorem dL_122 : decode jdk_128_method_18_code 122 = .ok (.dadd, 1) := by decide +kernel
theorem dL_123 : decode jdk_128_method_18_code 123 = .ok (.dstore 13, 2) := by decide +kernel
theorem dL_125 : decode jdk_128_method_18_code 125 = .ok (.dload 13, 2) := by decide +kernel
theorem dL_127 : decode jdk_128_method_18_code 127 = .ok (.dreturn, 1) := by decide +kernel
theorem ef40 (m : MethodId) : entryFrame m #[(.double (4609434218613702656 : UInt64)), (.double (9223372036854775808 : UInt64)), (.double (4607182418800017408 : UInt64)), (.double (4607182418800017408 : UInt64))] 15 = mkF m 0 #[.val (.double (4609434218613702656 : UInt64)), .second, .val (.double (9223372036854775808 : UInt64)), .second, .val (.double (4607182418800017408 : UInt64)), .second, .val (.double (4607182418800017408 : UInt64)), .second, .unset, .unset, .unset, .unset, .unset, .unset, .unset] [] := by first | (simp [entryFrame, mkF, argsToLocals, Value.category]; done) | rfl
theorem rm40 (hw : HW a0 Z) (h0 : Heap) (n0 : Nat) (O : Old Z n0 h0) (SA : Sta Z Z.heap "java/lang/StrictMath" "$assertionsDisabled" "Z" (.int 1)) : LMet Z "java/lang/StrictMath" jdk_128_method_18_code 15 (some .double) 54 3 #[.val (.double (4609434218613702656 : UInt64)), .second, .val (.double (9223372036854775808 : UInt64)), .second, .val (.double (4607182418800017408 : UInt64)), .second, .val (.double (4607182418800017408 : UInt64)), .second, .unset, .unset, .unset, .unset, .unset, .unset, .unset] (.double (4611686018427387904 : UInt64)) h0 := by
  intro p l e s TB m below r T0 P fs hh Y0 hfs qf
  refine Lw.dloadN Y0 rfl dL_0 rfl ?_
  refine Lw.callS Y0 hh (tw_65 hw) (tw_66 hw) (tw_35 hw) (tw_67 hw) (by decide) (Jvm.Free.JP.mathPlain rfl (by decide +kernel)) (rm39 Z a0 hw h0 n0) (ef39) (argsL := [(.double (4609434218613702656 : UInt64))]) rfl rfl (lenOf pd_4 rfl) rfl (by decide) (by decide) (by decide) (by decide) dL_1 rfl (fun T1 Y1 => ?_)
  show Gl p e below _ (T1.setTop (mkF m 4 _ [(.int 0)]))
  refine Lw.istore Y1 (L' := #[.val (.double (4609434218613702656 : UInt64)), .second, .val (.double (9223372036854775808 : UInt64)), .second, .val (.double (4607182418800017408 : UInt64)), .second, .val (.double (4607182418800017408 : UInt64)), .second, .val (.int 0), .unset, .unset, .unset, .unset, .unset, .unset]) rfl dL_4 rfl ?_
  refine Lw.iload Y1 rfl dL_6 rfl ?_
  refine Lw.ifge Y1 dL_8 (by decide) rfl rfl (fun c8 => ?_) (fun c8 => ?_)
  rotate_left
  · exact absurd c8 (by decide)
  refine Lw.iload Y1 rfl dL_34 rfl ?_
  refine Lw.bipush Y1 (v := (52 : Int32)) (by decide) dL_36 rfl ?_
  refine Lw.icmplt Y1 dL_38 (by decide) rfl rfl (fun c38 => ?_) (fun c38 => ?_)
  rotate_left
  · exact absurd c38 (by decide)
  refine Lw.getS Y1 hh (tw_78 hw) Via.refl (Sta.ext O.2 SA) dL_43 rfl (fun T43 Y43 => ?_)
  refine Lw.ifne Y43 dL_46 (by decide) rfl rfl (fun c46 => ?_) (fun c46 => ?_)
  rotate_left
  · exact absurd c46 (by decide)
  refine Lw.dloadN Y43 rfl dL_69 rfl ?_
  refine Lw.dbits Y43 (x9 := (4609434218613702656 : Int64)) (by decide +kernel) (tw_79 hw) (tw_71 hw) (tw_69 hw) (tw_70 hw) rfl (by decide) (by decide) dL_70 rfl (fun T70 Y70 => ?_)
  show Gl p e below _ (T70.setTop (mkF m 73 _ [(.long 4609434218613702656)]))
  refine Lw.lstore Y70 (L' := #[.val (.double (4609434218613702656 : UInt64)), .second, .val (.double (9223372036854775808 : UInt64)), .second, .val (.double (4607182418800017408 : UInt64)), .second, .val (.double (4607182418800017408 : UInt64)), .second, .val (.int 0), .val (.long 4609434218613702656), .second, .unset, .unset, .unset, .unset]) rfl dL_73 rfl ?_
  refine Lw.ldcJ Y70 (tw_80 hw) dL_75 rfl ?_
  refine Lw.iload Y70 rfl dL_78 rfl ?_
  refine Lw.lshr Y70 (x9 := (4503599627370495 : Int64)) (by decide) dL_80 rfl ?_
  refine Lw.lstore Y70 (L' := #[.val (.double (4609434218613702656 : UInt64)), .second, .val (.double (9223372036854775808 : UInt64)), .second, .val (.double (4607182418800017408 : UInt64)), .second, .val (.double (4607182418800017408 : UInt64)), .second, .val (.int 0), .val (.long 4609434218613702656), .second, .val (.long 4503599627370495), .second, .unset, .unset]) rfl dL_81 rfl ?_
  refine Lw.lload Y70 rfl dL_83 rfl ?_
  refine Lw.lload Y70 rfl dL_85 rfl ?_
  refine Lw.land Y70 (x9 := (2251799813685248 : Int64)) (by decide) dL_87 rfl ?_
  refine Lw.lconst Y70 (v := (0 : Int64)) (by decide) dL_88 rfl ?_
  refine Lw.lcmpne Y70 dL_89 rfl dL_90 (by decide) rfl rfl (fun c90 => ?_) (fun c90 => ?_)
  rotate_left
  · exact absurd c90 (by decide)
  refine Lw.lload Y70 rfl dL_95 rfl ?_
  refine Lw.lload Y70 rfl dL_97 rfl ?_
  refine Lw.ldcJ Y70 (tw_82 hw) dL_99 rfl ?_
  refine Lw.lxor Y70 (x9 := (-4503599627370496 : Int64)) (by decide) dL_102 rfl ?_
  refine Lw.land Y70 (x9 := (4607182418800017408 : Int64)) (by decide) dL_103 rfl ?_
  refine Lw.lbits Y70 (x9 := (4607182418800017408 : UInt64)) (by decide +kernel) (by decide +kernel) (tw_83 hw) (tw_85 hw) (tw_84 hw) (tw_70 hw) rfl (by decide) (by decide) dL_104 rfl (fun T104 Y104 => ?_)
  show Gl p e below _ (T104.setTop (mkF m 107 _ [(.double (4607182418800017408 : UInt64))]))
  refine Lw.dstore Y104 (L' := #[.val (.double (4609434218613702656 : UInt64)), .second, .val (.double (9223372036854775808 : UInt64)), .second, .val (.double (4607182418800017408 : UInt64)), .second, .val (.double (4607182418800017408 : UInt64)), .second, .val (.int 0), .val (.long 4609434218613702656), .second, .val (.long 4503599627370495), .second, .val (.double (4607182418800017408 : UInt64)), .second]) rfl dL_107 rfl ?_
  refine Lw.dload Y104 rfl dL_109 rfl ?_
  refine Lw.dloadN Y104 rfl dL_111 rfl ?_
  refine Lw.dmul Y104 (by unfold Jvm.Free.Fl.NoNaN64; decide +kernel) (x9 := (4609434218613702656 : UInt64)) (by decide +kernel) dL_112 rfl ?_
  refine Lw.dconst0 Y104 dL_113 rfl ?_
  show Gl p e below _ (T104.setTop (mkF m 114 _ [(.double (0 : UInt64)), (.double (4609434218613702656 : UInt64))]))
  refine Lw.dcmp Y104 (v := (1 : Int32)) (by decide +kernel) dL_114 rfl ?_
  refine Lw.ifle Y104 dL_115 (by decide) rfl rfl (fun c115 => ?_) (fun c115 => ?_)
  · exact absurd c115 (by decide)
  refine Lw.dload Y104 rfl dL_118 rfl ?_
  refine Lw.dload Y104 rfl dL_120 rfl ?_
  refine Lw.dadd Y104 (by unfold Jvm.Free.Fl.NoNaN64; decide +kernel) (x9 := (4611686018427387904 : UInt64)) (by decide +kernel) dL_122 rfl ?_
  refine Lw.dstore Y104 (L' := #[.val (.double (4609434218613702656 : UInt64)), .second, .val (.double (9223372036854775808 : UInt64)), .second, .val (.double (4607182418800017408 : UInt64)), .second, .val (.double (4607182418800017408 : UInt64)), .second, .val (.int 0), .val (.long 4609434218613702656), .second, .val (.long 4503599627370495), .second, .val (.double (4611686018427387904 : UInt64)), .second]) rfl dL_123 rfl ?_
  refine Lw.dload Y104 rfl dL_125 rfl ?_
  exact Lw.retD Y104 dL_127 hfs qf
theorem ef41 (m : MethodId) : entryFrame m #[(.double (4609434218613702656 : UInt64))] 2 = mkF m 0 #[.val (.double (4609434218613702656 : UInt64)), .second] [] := by first | (simp [entryFrame, mkF, argsToLocals, Value.category]; done) | rfl
theorem rm41 (hw : HW a0 Z) (h0 : Heap) (n0 : Nat) (O : Old Z n0 h0) (SA : Sta Z Z.heap "java/lang/StrictMath" "$assertionsDisabled" "Z" (.int 1)) : LMet Z "java/lang/StrictMath" jdk_128_method_16_code 2 (some .double) 67 4 #[.val (.double (4609434218613702656 : UInt64)), .second] (.double (4611686018427387904 : UInt64)) h0 := by
  intro p l e s TB m below r T0 P fs hh Y0 hfs qf
  refine Lw.dloadN Y0 rfl dM_0 rfl ?_
  refine Lw.ldcD Y0 (tw_61 hw) dM_1 rfl ?_
  refine Lw.dconst1 Y0 dM_4 rfl ?_
  show Gl p e below _ (T0.setTop (mkF m 5 _ [(.double (4607182418800017408 : UInt64)), (.double (9223372036854775808 : UInt64)), (.double (4609434218613702656 : UInt64))]))
  refine Lw.dconst1 Y0 dM_5 rfl ?_
  show Gl p e below _ (T0.setTop (mkF m 6 _ [(.double (4607182418800017408 : UInt64)), (.double (4607182418800017408 : UInt64)), (.double (9223372036854775808 : UInt64)), (.double (4609434218613702656 : UInt64))]))
  refine Lw.callS Y0 hh (tw_62 hw) (tw_63 hw) (tw_59 hw) (tw_64 hw) (by decide) (plainFor_of_name pn_3) (rm40 Z a0 hw h0 n0 O SA) (ef40) (argsL := [(.double (4609434218613702656 : UInt64)), (.double (9223372036854775808 : UInt64)), (.double (4607182418800017408 : UInt64)), (.double (4607182418800017408 : UInt64))]) rfl rfl (lenOf pd_5 rfl) rfl (by decide) (by decide) (by decide) (by decide) dM_6 rfl (fun T6 Y6 => ?_)
  show Gl p e below _ (T6.setTop (mkF m 9 _ [(.double (4611686018427387904 : UInt64))]))
  exact Lw.retD Y6 dM_9 hfs qf
theorem ef42 (m : MethodId) : entryFrame m #[(.double (4611686018427387904 : UInt64))] 2 = mkF m 0 #[.val (.double (4611686018427387904 : UInt64)), .second] [] := by first | (simp [entryFrame, mkF, argsToLocals, Value.category]; done) | rfl
theorem rm42 (hw : HW a0 Z) (h0 : Heap) (n0 : Nat) : LMet Z "java/lang/Math" jdk_29_method_92_code 2 (some .int) 28 2 #[.val (.double (4611686018427387904 : UInt64)), .second] (.int 1) h0 := by
  intro p l e s TB m below r T0 P fs hh Y0 hfs qf
  refine Lw.dloadN Y0 rfl dK_0 rfl ?_
  refine Lw.dbits Y0 (x9 := (4611686018427387904 : Int64)) (by decide +kernel) (tw_68 hw) (tw_71 hw) (tw_69 hw) (tw_70 hw) rfl (by decide) (by decide) dK_1 rfl (fun T1 Y1 => ?_)
  show Gl p e below _ (T1.setTop (mkF m 4 _ [(.long 4611686018427387904)]))
  refine Lw.ldcJ Y1 (tw_72 hw) dK_4 rfl ?_
  refine Lw.land Y1 (x9 := (4611686018427387904 : Int64)) (by decide) dK_7 rfl ?_
  refine Lw.bipush Y1 (v := (52 : Int32)) (by decide) dK_8 rfl ?_
  refine Lw.lshr Y1 (x9 := (1024 : Int64)) (by decide) dK_10 rfl ?_
  refine Lw.ldcJ Y1 (tw_73 hw) dK_11 rfl ?_
  refine Lw.lsub Y1 (x9 := (1 : Int64)) (by decide) dK_14 rfl ?_
  refine Lw.l2i Y1 (x9 := (1 : Int32)) (by decide) dK_15 rfl ?_
  exact Lw.retI Y1 dK_16 hfs qf
theorem ef43 (m : MethodId) : entryFrame m #[(.double (4611686018427387904 : UInt64)), (.double (9223372036854775808 : UInt64)), (.double (4607182418800017408 : UInt64)), (.double (4607182418800017408 : UInt64))] 15 = mkF m 0 #[.val (.double (4611686018427387904 : UInt64)), .second, .val (.double (9223372036854775808 : UInt64)), .second, .val (.double (4607182418800017408 : UInt64)), .second, .val (.double (4607182418800017408 : UInt64)), .second, .unset, .unset, .unset, .unset, .unset, .unset, .unset] [] := by first | (simp [entryFrame, mkF, argsToLocals, Value.category]; done) | rfl
theorem rm43 (hw : HW a0 Z) (h0 : Heap) (n0 : Nat) (O : Old Z n0 h0) (SA : Sta Z Z.heap "java/lang/StrictMath" "$assertionsDisabled" "Z" (.int 1)) : LMet Z "java/lang/StrictMath" jdk_128_method_18_code 15 (some .double) 54 3 #[.val (.double (4611686018427387904 : UInt64)), .second, .val (.double (9223372036854775808 : UInt64)), .second, .val (.double (4607182418800017408 : UInt64)), .second, .val (.double (4607182418800017408 : UInt64)), .second, .unset, .unset, .unset, .unset, .unset, .unset, .unset] (.double (4611686018427387904 : UInt64)) h0 := by
  intro p l e s TB m below r T0 P fs hh Y0 hfs qf
  refine Lw.dloadN Y0 rfl dL_0 rfl ?_
  refine Lw.callS Y0 hh (tw_65 hw) (tw_66 hw) (tw_35 hw) (tw_67 hw) (by decide) (Jvm.Free.JP.mathPlain rfl (by decide +kernel)) (rm42 Z a0 hw h0 n0) (ef42) (argsL := [(.double (4611686018427387904 : UInt64))]) rfl rfl (lenOf pd_4 rfl) rfl (by decide) (by decide) (by decide) (by decide) dL_1 rfl (fun T1 Y1 => ?_)
  show Gl p e below _ (T1.setTop (mkF m 4 _ [(.int 1)]))
  refine Lw.istore Y1 (L' := #[.val (.double (4611686018427387904 : UInt64)), .second, .val (.double (9223372036854775808 : UInt64)), .second, .val (.double (4607182418800017408 : UInt64)), .second, .val (.double (4607182418800017408 : UInt64)), .second, .val (.int 1), .unset, .unset, .unset, .unset, .unset, .unset]) rfl dL_4 rfl ?_
  refine Lw.iload Y1 rfl dL_6 rfl ?_
  refine Lw.ifge Y1 dL_8 (by decide) rfl rfl (fun c8 => ?_) (fun c8 => ?_)
  rotate_left
  · exact absurd c8 (by decide)
  refine Lw.iload Y1 rfl dL_34 rfl ?_
  refine Lw.bipush Y1 (v := (52 : Int32)) (by decide) dL_36 rfl ?_
  refine Lw.icmplt Y1 dL_38 (by decide) rfl rfl (fun c38 => ?_) (fun c38 => ?_)
  rotate_left
  · exact absurd c38 (by decide)
  refine Lw.getS Y1 hh (tw_78 hw) Via.refl (Sta.ext O.2 SA) dL_43 rfl (fun T43 Y43 => ?_)
  refine Lw.ifne Y43 dL_46 (by decide) rfl rfl (fun c46 => ?_) (fun c46 => ?_)
  rotate_left
  · exact absurd c46 (by decide)
  refine Lw.dloadN Y43 rfl dL_69 rfl ?_
  refine Lw.dbits Y43 (x9 := (4611686018427387904 : Int64)) (by decide +kernel) (tw_79 hw) (tw_71 hw) (tw_69 hw) (tw_70 hw) rfl (by decide) (by decide) dL_70 rfl (fun T70 Y70 => ?_)
  show Gl p e below _ (T70.setTop (mkF m 73 _ [(.long 4611686018427387904)]))
  refine Lw.lstore Y70 (L' := #[.val (.double (4611686018427387904 : UInt64)), .second, .val (.double (9223372036854775808 : UInt64)), .second, .val (.double (4607182418800017408 : UInt64)), .second, .val (.double (4607182418800017408 : UInt64)), .second, .val (.int 1), .val (.long 4611686018427387904), .second, .unset, .unset, .unset, .unset]) rfl dL_73 rfl ?_
  refine Lw.ldcJ Y70 (tw_80 hw) dL_75 rfl ?_
  refine Lw.iload Y70 rfl dL_78 rfl ?_
  refine Lw.lshr Y70 (x9 := (2251799813685247 : Int64)) (by decide) dL_80 rfl ?_
  refine Lw.lstore Y70 (L' := #[.val (.double (4611686018427387904 : UInt64)), .second, .val (.double (9223372036854775808 : UInt64)), .second, .val (.double (4607182418800017408 : UInt64)), .second, .val (.double (4607182418800017408 : UInt64)), .second, .val (.int 1), .val (.long 4611686018427387904), .second, .val (.long 2251799813685247), .second, .unset, .unset]) rfl dL_81 rfl ?_
  refine Lw.lload Y70 rfl dL_83 rfl ?_
  refine Lw.lload Y70 rfl dL_85 rfl ?_
  refine Lw.land Y70 (x9 := (0 : Int64)) (by decide) dL_87 rfl ?_
  refine Lw.lconst Y70 (v := (0 : Int64)) (by decide) dL_88 rfl ?_
  refine Lw.lcmpne Y70 dL_89 rfl dL_90 (by decide) rfl rfl (fun c90 => ?_) (fun c90 => ?_)
  · exact absurd c90 (by decide)
  refine Lw.dloadN Y70 rfl dL_93 rfl ?_
  exact Lw.retD Y70 dL_94 hfs qf
theorem ef44 (m : MethodId) : entryFrame m #[(.double (4611686018427387904 : UInt64))] 2 = mkF m 0 #[.val (.double (4611686018427387904 : UInt64)), .second] [] := by first | (simp [entryFrame, mkF, argsToLocals, Value.category]; done) | rfl
theorem rm44 (hw : HW a0 Z) (h0 : Heap) (n0 : Nat) (O : Old Z n0 h0) (SA : Sta Z Z.heap "java/lang/StrictMath" "$assertionsDisabled" "Z" (.int 1)) : LMet Z "java/lang/StrictMath" jdk_128_method_16_code 2 (some .double) 67 4 #[.val (.double (4611686018427387904 : UInt64)), .second] (.double (4611686018427387904 : UInt64)) h0 := by
  intro p l e s TB m below r T0 P fs hh Y0 hfs qf
  refine Lw.dloadN Y0 rfl dM_0 rfl ?_
  refine Lw.ldcD Y0 (tw_61 hw) dM_1 rfl ?_
  refine Lw.dconst1 Y0 dM_4 rfl ?_
  show Gl p e below _ (T0.setTop (mkF m 5 _ [(.double (4607182418800017408 : UInt64)), (.double (9223372036854775808 : UInt64)), (.double (4611686018427387904 : UInt64))]))
  refine Lw.dconst1 Y0 dM_5 rfl ?_
  show Gl p e below _ (T0.setTop (mkF m 6 _ [(.double (4607182418800017408 : UInt64)), (.double (4607182418800017408 : UInt64)), (.double (9223372036854775808 : UInt64)), (.double (4611686018427387904 : UInt64))]))
  refine Lw.callS Y0 hh (tw_62 hw) (tw_63 hw) (tw_59 hw) (tw_64 hw) (by decide) (plainFor_of_name pn_3) (rm43 Z a0 hw h0 n0 O SA) (ef43) (argsL := [(.double (4611686018427387904 : UInt64)), (.double (9223372036854775808 : UInt64)), (.double (4607182418800017408 : UInt64)), (.double (4607182418800017408 : UInt64))]) rfl rfl (lenOf pd_5 rfl) rfl (by decide) (by decide) (by decide) (by decide) dM_6 rfl (fun T6 Y6 => ?_)
  show Gl p e below _ (T6.setTop (mkF m 9 _ [(.double (4611686018427387904 : UInt64))]))
  exact Lw.retD Y6 dM_9 hfs qf
theorem ef45 (m : MethodId) : entryFrame m #[(.double (4613937818241073152 : UInt64))] 2 = mkF m 0 #[.val (.double (4613937818241073152 : UInt64)), .second] [] := by first | (simp [entryFrame, mkF, argsToLocals, Value.category]; done) | rfl
theorem rm45 (hw : HW a0 Z) (h0 : Heap) (n0 : Nat) : LMet Z "java/lang/Math" jdk_29_method_92_code 2 (some .int) 28 2 #[.val (.double (4613937818241073152 : UInt64)), .second] (.int 1) h0 := by
  intro p l e s TB m below r T0 P fs hh Y0 hfs qf
  refine Lw.dloadN Y0 rfl dK_0 rfl ?_
  refine Lw.dbits Y0 (x9 := (4613937818241073152 : Int64)) (by decide +kernel) (tw_68 hw) (tw_71 hw) (tw_69 hw) (tw_70 hw) rfl (by decide) (by decide) dK_1 rfl (fun T1 Y1 => ?_)
  show Gl p e below _ (T1.setTop (mkF m 4 _ [(.long 4613937818241073152)]))
  refine Lw.ldcJ Y1 (tw_72 hw) dK_4 rfl ?_
  refine Lw.land Y1 (x9 := (4611686018427387904 : Int64)) (by decide) dK_7 rfl ?_
  refine Lw.bipush Y1 (v := (52 : Int32)) (by decide) dK_8 rfl ?_
  refine Lw.lshr Y1 (x9 := (1024 : Int64)) (by decide) dK_10 rfl ?_
  refine Lw.ldcJ Y1 (tw_73 hw) dK_11 rfl ?_
  refine Lw.lsub Y1 (x9 := (1 : Int64)) (by decide) dK_14 rfl ?_
  refine Lw.l2i Y1 (x9 := (1 : Int32)) (by decide) dK_15 rfl ?_
  exact Lw.retI Y1 dK_16 hfs qf
theorem ef46 (m : MethodId) : entryFrame m #[(.double (4613937818241073152 : UInt64)), (.double (9223372036854775808 : UInt64)), (.double (4607182418800017408 : UInt64)), (.double (4607182418800017408 : UInt64))] 15 = mkF m 0 #[.val (.double (4613937818241073152 : UInt64)), .second, .val (.double (9223372036854775808 : UInt64)), .second, .val (.double (4607182418800017408 : UInt64)), .second, .val (.double (4607182418800017408 : UInt64)), .second, .unset, .unset, .unset, .unset, .unset, .unset, .unset] [] := by first | (simp [entryFrame, mkF, argsToLocals, Value.category]; done) | rfl
theorem rm46 (hw : HW a0 Z) (h0 : Heap) (n0 : Nat) (O : Old Z n0 h0) (SA : Sta Z Z.heap "java/lang/StrictMath" "$assertionsDisabled" "Z" (.int 1)) : LMet Z "java/lang/StrictMath" jdk_128_method_18_code 15 (some .double) 54 3 #[.val (.double (4613937818241073152 : UInt64)), .second, .val (.double (9223372036854775808 : UInt64)), .second, .val (.double (4607182418800017408 : UInt64)), .second, .val (.double (4607182418800017408 : UInt64)), .second, .unset, .unset, .unset, .unset, .unset, .unset, .unset] (.double (4613937818241073152 : UInt64)) h0 := by
  intro p l e s TB m below r T0 P fs hh Y0 hfs qf
  refine Lw.dloadN Y0 rfl dL_0 rfl ?_
  refine Lw.callS Y0 hh (tw_65 hw) (tw_66 hw) (tw_35 hw) (tw_67 hw) (by decide) (Jvm.Free.JP.mathPlain rfl (by decide +kernel)) (rm45 Z a0 hw h0 n0) (ef45) (argsL := [(.double (4613937818241073152 : UInt64))]) rfl rfl (lenOf pd_4 rfl) rfl (by decide) (by decide) (by decide) (by decide) dL_1 rfl (fun T1 Y1 => ?_)
  show Gl p e below _ (T1.setTop (mkF m 4 _ [(.int 1)]))
  refine Lw.istore Y1 (L' := #[.val (.double (4613937818241073152 : UInt64)), .second, .val (.double (9223372036854775808 : UInt64)), .second, .val (.double (4607182418800017408 : UInt64)), .second, .val (.double (4607182418800017408 : UInt64)), .second, .val (.int 1), .unset, .unset, .unset, .unset, .unset, .unset]) rfl dL_4 rfl ?_
  refine Lw.iload Y1 rfl dL_6 rfl ?_
  refine Lw.ifge Y1 dL_8 (by decide) rfl rfl (fun c8 => ?_) (fun c8 => ?_)
  rotate_left
  · exact absurd c8 (by decide)
  refine Lw.iload Y1 rfl dL_34 rfl ?_
  refine Lw.bipush Y1 (v := (52 : Int32)) (by decide) dL_36 rfl ?_
  refine Lw.icmplt Y1 dL_38 (by decide) rfl rfl (fun c38 => ?_) (fun c38 => ?_)
  rotate_left
  · exact absurd c38 (by decide)
  refine Lw.getS Y1 hh (tw_78 hw) Via.refl (Sta.ext O.2 SA) dL_43 rfl (fun T43 Y43 => ?_)
  refine Lw.ifne Y43 dL_46 (by decide) rfl rfl (fun c46 => ?_) (fun c46 => ?_)
  rotate_left
  · exact absurd c46 (by decide)
  refine Lw.dloadN Y43 rfl dL_69 rfl ?_
  refine Lw.dbits Y43 (x9 := (4613937818241073152 : Int64)) (by decide +kernel) (tw_79 hw) (tw_71 hw) (tw_69 hw) (tw_70 hw) rfl (by decide) (by decide) dL_70 rfl (fun T70 Y70 => ?_)
  show Gl p e below _ (T70.setTop (mkF m 73 _ [(.long 4613937818241073152)]))
  refine Lw.lstore Y70 (L' := #[.val (.double (4613937818241073152 : UInt64)), .second, .val (.double (9223372036854775808 : UInt64)), .second, .val (.double (4607182418800017408 : UInt64)), .second, .val (.double (4607182418800017408 : UInt64)), .second, .val (.int 1), .val (.long 4613937818241073152), .second, .unset, .unset, .unset, .unset]) rfl dL_73 rfl ?_
  refine Lw.ldcJ Y70 (tw_80 hw) dL_75 rfl ?_
  refine Lw.iload Y70 rfl dL_78 rfl ?_
  refine Lw.lshr Y70 (x9 := (2251799813685247 : Int64)) (by decide) dL_80 rfl ?_
  refine Lw.lstore Y70 (L' := #[.val (.double (4613937818241073152 : UInt64)), .second, .val (.double (9223372036854775808 : UInt64)), .second, .val (.double (4607182418800017408 : UInt64)), .second, .val (.double (4607182418800017408 : UInt64)), .second, .val (.int 1), .val (.long 4613937818241073152), .second, .val (.long 2251799813685247), .second, .unset, .unset]) rfl dL_81 rfl ?_
  refine Lw.lload Y70 rfl dL_83 rfl ?_
  refine Lw.lload Y70 rfl dL_85 rfl ?_
  refine Lw.land Y70 (x9 := (0 : Int64)) (by decide) dL_87 rfl ?_
  refine Lw.lconst Y70 (v := (0 : Int64)) (by decide) dL_88 rfl ?_
  refine Lw.lcmpne Y70 dL_89 rfl dL_90 (by decide) rfl rfl (fun c90 => ?_) (fun c90 => ?_)
  · exact absurd c90 (by decide)
  refine Lw.dloadN Y70 rfl dL_93 rfl ?_
  exact Lw.retD Y70 dL_94 hfs qf
theorem ef47 (m : MethodId) : entryFrame m #[(.double (4613937818241073152 : UInt64))] 2 = mkF m 0 #[.val (.double (4613937818241073152 : UInt64)), .second] [] := by first | (simp [entryFrame, mkF, argsToLocals, Value.category]; done) | rfl
theorem rm47 (hw : HW a0 Z) (h0 : Heap) (n0 : Nat) (O : Old Z n0 h0) (SA : Sta Z Z.heap "java/lang/StrictMath" "$assertionsDisabled" "Z" (.int 1)) : LMet Z "java/lang/StrictMath" jdk_128_method_16_code 2 (some .double) 67 4 #[.val (.double (4613937818241073152 : UInt64)), .second] (.double (4613937818241073152 : UInt64)) h0 := by
  intro p l e s TB m below r T0 P fs hh Y0 hfs qf
  refine Lw.dloadN Y0 rfl dM_0 rfl ?_
  refine Lw.ldcD Y0 (tw_61 hw) dM_1 rfl ?_
  refine Lw.dconst1 Y0 dM_4 rfl ?_
  show Gl p e below _ (T0.setTop (mkF m 5 _ [(.double (4607182418800017408 : UInt64)), (.double (9223372036854775808 : UInt64)), (.double (4613937818241073152 : UInt64))]))
  refine Lw.dconst1 Y0 dM_5 rfl ?_
  show Gl p e below _ (T0.setTop (mkF m 6 _ [(.double (4607182418800017408 : UInt64)), (.double (4607182418800017408 : UInt64)), (.double (9223372036854775808 : UInt64)), (.double (4613937818241073152 : UInt64))]))
  refine Lw.callS Y0 hh (tw_62 hw) (tw_63 hw) (tw_59 hw) (tw_64 hw) (by decide) (plainFor_of_name pn_3) (rm46 Z a0 hw h0 n0 O SA) (ef46) (argsL := [(.double (4613937818241073152 : UInt64)), (.double (9223372036854775808 : UInt64)), (.double (4607182418800017408 : UInt64)), (.double (4607182418800017408 : UInt64))]) rfl rfl (lenOf pd_5 rfl) rfl (by decide) (by decide) (by decide) (by decide) dM_6 rfl (fun T6 Y6 => ?_)
  show Gl p e below _ (T6.setTop (mkF m 9 _ [(.double (4613937818241073152 : UInt64))]))
  exact Lw.retD Y6 dM_9 hfs qf
theorem dN_0 : decode prog_21_method_4_code 0 = .ok (.aload_n 0, 1) := by decide +kernel
theorem dN_1 : decode prog_21_method_4_code 1 = .ok (.getfield 13, 3) := by decide +kernel
theorem dN_4 : decode prog_21_method_4_code 4 = .ok (.ifCond .ne 7, 3) := by decide +kernel
theorem dN_11 : decode prog_21_method_4_code 11 = .ok (.aload_n 0, 1) := by decide +kernel
theorem dN_12 : decode prog_21_method_4_code 12 = .ok (.getfield 7, 3) := by decide +kernel
theorem dN_15 : decode prog_21_method_4_code 15 = .ok (.aload_n 0, 1) := by decide +kernel
theorem dN_16 : decode prog_21_method_4_code 16 = .ok (.getfield 13, 3) := by decide +kernel
theorem dN_19 : decode prog_21_method_4_code 19 = .ok (.invokestatic 17, 3) := by decide +kernel
theorem tw_29 {a0 : Array Value} {Z : State} (hw : HW a0 Z) : (Jvm.Cond.methodLink "com/example/impatiens/impatiens/loadtool/Latencies" (17 : Nat) ({ cls := "java/util/Arrays", name := "copyOf", desc := "([JI)[J" } : Jvm.MethodName)).before a0 Z = true := hw _ (List.mem_of_getElem? (i := 29) rfl)
theorem pd_6 : parseMethodDescriptor "([JI)[J" = some ⟨[(.array .long), .int], some (.array .long)⟩ := by decide +kernel
theorem tw_32 {a0 : Array Value} {Z : State} (hw : HW a0 Z) : (Jvm.Cond.code ({ cls := "java/util/Arrays", name := "copyOf", desc := "([JI)[J" } : Jvm.MethodName) jdk_65_method_124_code (3 : Nat) (Option.some (Jvm.ClassFile.FieldType.array Jvm.ClassFile.FieldType.long))).before a0 Z = true := hw _ (List.mem_of_getElem? (i := 32) rfl)
theorem tw_31 {a0 : Array Value} {Z : State} (hw : HW a0 Z) : (Jvm.Cond.initialized "java/util/Arrays").before a0 Z = true := hw _ (List.mem_of_getElem? (i := 31) rfl)
theorem tw_30 {a0 : Array Value} {Z : State} (hw : HW a0 Z) : (Jvm.Cond.static ({ cls := "java/util/Arrays", name := "copyOf", desc := "([JI)[J" } : Jvm.MethodName)).before a0 Z = true := hw _ (List.mem_of_getElem? (i := 30) rfl)
theorem dN_22 : decode prog_21_method_4_code 22 = .ok (.astore_n 3, 1) := by decide +kernel
theorem dN_23 : decode prog_21_method_4_code 23 = .ok (.aload_n 3, 1) := by decide +kernel
theorem dN_24 : decode prog_21_method_4_code 24 = .ok (.invokestatic 27, 3) := by decide +kernel
theorem tw_41 {a0 : Array Value} {Z : State} (hw : HW a0 Z) : (Jvm.Cond.methodLink "com/example/impatiens/impatiens/loadtool/Latencies" (27 : Nat) ({ cls := "java/util/Arrays", name := "sort", desc := "([J)V" } : Jvm.MethodName)).before a0 Z = true := hw _ (List.mem_of_getElem? (i := 41) rfl)
theorem pd_7 : parseMethodDescriptor "([J)V" = some ⟨[(.array .long)], none⟩ := by decide +kernel
theorem tw_43 {a0 : Array Value} {Z : State} (hw : HW a0 Z) : (Jvm.Cond.code ({ cls := "java/util/Arrays", name := "sort", desc := "([J)V" } : Jvm.MethodName) jdk_65_method_4_code (1 : Nat) (Option.none : Option Jvm.ClassFile.FieldType)).before a0 Z = true := hw _ (List.mem_of_getElem? (i := 43) rfl)
theorem tw_42 {a0 : Array Value} {Z : State} (hw : HW a0 Z) : (Jvm.Cond.static ({ cls := "java/util/Arrays", name := "sort", desc := "([J)V" } : Jvm.MethodName)).before a0 Z = true := hw _ (List.mem_of_getElem? (i := 42) rfl)
theorem dN_27 : decode prog_21_method_4_code 27 = .ok (.dload_n 1, 1) := by decide +kernel
theorem dN_28 : decode prog_21_method_4_code 28 = .ok (.aload_n 0, 1) := by decide +kernel
theorem dN_29 : decode prog_21_method_4_code 29 = .ok (.getfield 13, 3) := by decide +kernel
theorem dN_32 : decode prog_21_method_4_code 32 = .ok (.i2d, 1) := by decide +kernel
theorem dN_33 : decode prog_21_method_4_code 33 = .ok (.dmul, 1) := by decide +kernel
theorem dN_34 : decode prog_21_method_4_code 34 = .ok (.invokestatic 31, 3) := by decide +kernel
theorem tw_54 {a0 : Array Value} {Z : State} (hw : HW a0 Z) : (Jvm.Cond.methodLink "com/example/impatiens/impatiens/loadtool/Latencies" (31 : Nat) ({ cls := "java/lang/Math", name := "ceil", desc := "(D)D" } : Jvm.MethodName)).before a0 Z = true := hw _ (List.mem_of_getElem? (i := 54) rfl)
theorem tw_55 {a0 : Array Value} {Z : State} (hw : HW a0 Z) : (Jvm.Cond.static ({ cls := "java/lang/Math", name := "ceil", desc := "(D)D" } : Jvm.MethodName)).before a0 Z = true := hw _ (List.mem_of_getElem? (i := 55) rfl)
theorem tw_56 {a0 : Array Value} {Z : State} (hw : HW a0 Z) : (Jvm.Cond.code ({ cls := "java/lang/Math", name := "ceil", desc := "(D)D" } : Jvm.MethodName) jdk_29_method_16_code (2 : Nat) (Option.some Jvm.ClassFile.FieldType.double)).before a0 Z = true := hw _ (List.mem_of_getElem? (i := 56) rfl)
theorem tw_60 {a0 : Array Value} {Z : State} (hw : HW a0 Z) : (Jvm.Cond.code ({ cls := "java/lang/StrictMath", name := "ceil", desc := "(D)D" } : Jvm.MethodName) jdk_128_method_16_code (2 : Nat) (Option.some Jvm.ClassFile.FieldType.double)).before a0 Z = true := hw _ (List.mem_of_getElem? (i := 60) rfl)
theorem dN_37 : decode prog_21_method_4_code 37 = .ok (.d2i, 1) := by decide +kernel
theorem dN_38 : decode prog_21_method_4_code 38 = .ok (.istore 4, 2) := by decide +kernel
theorem dN_40 : decode prog_21_method_4_code 40 = .ok (.aload_n 3, 1) := by decide +kernel
theorem dN_41 : decode prog_21_method_4_code 41 = .ok (.iload 4, 2) := by decide +kernel
theorem dN_43 : decode prog_21_method_4_code 43 = .ok (.iconst 1, 1) := by decide +kernel
theorem dN_44 : decode prog_21_method_4_code 44 = .ok (.invokestatic 37, 3) := by decide +kernel
theorem tw_74 {a0 : Array Value} {Z : State} (hw : HW a0 Z) : (Jvm.Cond.methodLink "com/example/impatiens/impatiens/loadtool/Latencies" (37 : Nat) ({ cls := "java/lang/Math", name := "max", desc := "(II)I" } : Jvm.MethodName)).before a0 Z = true := hw _ (List.mem_of_getElem? (i := 74) rfl)
theorem tw_76 {a0 : Array Value} {Z : State} (hw : HW a0 Z) : (Jvm.Cond.code ({ cls := "java/lang/Math", name := "max", desc := "(II)I" } : Jvm.MethodName) jdk_29_method_65_code (2 : Nat) (Option.some Jvm.ClassFile.FieldType.int)).before a0 Z = true := hw _ (List.mem_of_getElem? (i := 76) rfl)
theorem tw_75 {a0 : Array Value} {Z : State} (hw : HW a0 Z) : (Jvm.Cond.static ({ cls := "java/lang/Math", name := "max", desc := "(II)I" } : Jvm.MethodName)).before a0 Z = true := hw _ (List.mem_of_getElem? (i := 75) rfl)
theorem dN_47 : decode prog_21_method_4_code 47 = .ok (.iconst 1, 1) := by decide +kernel
theorem dN_48 : decode prog_21_method_4_code 48 = .ok (.isub, 1) := by decide +kernel
theorem dN_49 : decode prog_21_method_4_code 49 = .ok (.laload, 1) := by decide +kernel
theorem dN_50 : decode prog_21_method_4_code 50 = .ok (.l2d, 1) := by decide +kernel
theorem dN_51 : decode prog_21_method_4_code 51 = .ok (.ldc2_w 41, 3) := by decide +kernel
theorem tw_77 {a0 : Array Value} {Z : State} (hw : HW a0 Z) : (Jvm.Cond.constantDouble "com/example/impatiens/impatiens/loadtool/Latencies" (41 : Nat) (4696837146684686336 : UInt64)).before a0 Z = true := hw _ (List.mem_of_getElem? (i := 77) rfl)
theorem dN_54 : decode prog_21_method_4_code 54 = .ok (.ddiv, 1) := by decide +kernel
theorem dN_55 : decode prog_21_method_4_code 55 = .ok (.dreturn, 1) := by decide +kernel
def R48 : Room := { frames := 5, cells := 1, slots := 1, locals := 84 }
def Q48 (Z : State) (a b : Addr) (kb : ClassId) (x0 x1 x2 : Int64) (h0 : Heap) (v : Option Value) (h : Heap) : Prop := ∃ r0 : Int64, v = some (.double (dq r0)) ∧ (r0 = x0) ∧ Keep h0 h []
theorem ef48 (a : Addr) (m : MethodId) : entryFrame m #[(.ref a), (.double (0 : UInt64))] 5 = mkF m 0 #[.val (.ref a), .val (.double (0 : UInt64)), .second, .unset, .unset] [] := by first | (simp [entryFrame, mkF, argsToLocals, Value.category]; done) | rfl
theorem rm48 (hw : HW a0 Z) (a b : Addr) (kb : ClassId) (x0 x1 x2 : Int64) (h0 : Heap) (n0 : Nat) (Z0 : n0 ≤ h0.size) (O : Old Z n0 h0) (SA : Sta Z Z.heap "java/lang/StrictMath" "$assertionsDisabled" "Z" (.int 1)) (E : Exa Z h0 a "com/example/impatiens/impatiens/loadtool/Latencies") (F1 : Fld Z h0 a "com/example/impatiens/impatiens/loadtool/Latencies" "nanos" "[J" (.ref b)) (F2 : Fld Z h0 a "com/example/impatiens/impatiens/loadtool/Latencies" "count" "I" (.int 1)) (V : Arv Z h0 b kb .long (1024 : Int32) [(.long x0), (.long x1), (.long x2)] (.long 0)) : OMet l Z [] (⟨"com/example/impatiens/impatiens/loadtool/Latencies", "percentileMs", "(D)D"⟩ : MethodName) prog_21_method_4_code 5 (some .double) R48 #[(.ref a), (.double (0 : UInt64))] h0 n0 (Q48 Z a b kb x0 x1 x2 h0) := by
  refine OMet.of (own := "com/example/impatiens/impatiens/loadtool/Latencies") rfl (plainFor_of_name pn_0) (ef48 a) Z0 ?_
  intro p e s m below meth c T0 Y0 hnm
  refine Gl.aloadN Y0 rfl rfl dN_0 rfl ?_
  refine Gl.getF Y0 (host := "") (Or.inl (tw_17 hw)) Via.refl F2 dN_1 rfl (fun T1 Y1 => ?_)
  refine Gl.ifne Y1 dN_4 (by decide) rfl rfl (fun c4 => ?_) (fun c4 => ?_)
  rotate_left
  · exact absurd c4 (by decide)
  refine Gl.aloadN Y1 rfl rfl dN_11 rfl ?_
  refine Gl.getF Y1 (host := "") (Or.inl (tw_10 hw)) Via.refl F1 dN_12 rfl (fun T12 Y12 => ?_)
  refine Gl.aloadN Y12 rfl rfl dN_15 rfl ?_
  refine Gl.getF Y12 (host := "") (Or.inl (tw_17 hw)) Via.refl F2 dN_16 rfl (fun T16 Y16 => ?_)
  refine Gl.callS Y16 (tw_29 hw) (tw_30 hw) (tw_31 hw) (tw_32 hw) (by decide) (rm9 l Z a0 hw b kb x0 x1 x2 h0 n0 Y16.sz V) (argsL := [(.ref b), (.int 1)]) (rest := []) rfl rfl (lenOf pd_6 rfl) rfl (by decide) (nle rfl) (by decide) (by decide) dN_19 rfl (fun v19 T19 h19 Y19 q19 => ?_)
  obtain ⟨d19, kd19, rfl, K19, f19_0, f19_1⟩ := q19
  have Y19_sz : n0 ≤ h0.size := Y16.sz
  have KK19 : Keep h0 h19 [] := (Keep.refl h0 []).trans K19 all0
  have zd19 : h0.size ≤ d19 := Nat.le_trans (Keep.refl h0 []).1 f19_0
  show Gl p e below _ (T19.setTop (mkF m 22 _ [(.ref d19)]))
  refine Gl.astoreN Y19 rfl (L' := #[.val (.ref a), .val (.double (0 : UInt64)), .second, .val (.ref d19), .unset]) rfl dN_22 rfl ?_
  refine Gl.aloadN Y19 rfl rfl dN_23 rfl ?_
  refine Gl.callS Y19 (tw_41 hw) (tw_42 hw) (tw_31 hw) (tw_43 hw) (by decide) (rm21 l Z a0 hw d19 kd19 x0 h19 n0 Y19.sz f19_1 (Nat.le_trans Y19_sz f19_0)) (argsL := [(.ref d19)]) (rest := []) rfl rfl (lenOf pd_7 rfl) rfl (by decide) (nle rfl) (by decide) (by decide) dN_24 rfl (fun v24 T24 h24 Y24 q24 => ?_)
  obtain ⟨r024, rfl, p24, K24, f24_0⟩ := q24
  have KK24 : Keep h0 h24 [] := KK19.trans K24 (allS (Or.inr zd19) all0)
  show Gl p e below _ (T24.setTop (mkF m 27 _ []))
  refine Gl.dloadN Y24 rfl dN_27 rfl ?_
  refine Gl.aloadN Y24 rfl rfl dN_28 rfl ?_
  have f1 := ((F2.keep K19 nin0).keep K24 (ninS (Nat.ne_of_lt (Nat.lt_of_lt_of_le E.lt f19_0)) nin0))
  refine Gl.getF Y24 (host := "") (Or.inl (tw_17 hw)) Via.refl f1 dN_29 rfl (fun T29 Y29 => ?_)
  refine Gl.i2d Y29 (r := (4607182418800017408 : UInt64)) (by decide +kernel) dN_32 rfl ?_
  refine Gl.dmul Y29 (by unfold Jvm.Free.Fl.NoNaN64; decide +kernel) (r := (0 : UInt64)) (by decide +kernel) dN_33 rfl ?_
  have f2 := ((O.keep K19 all0).keep K24 (allS (Nat.le_trans Y19_sz f19_0) all0))
  refine Lw.ceil Y29 (tw_54 hw) (tw_55 hw) (tw_35 hw) (tw_56 hw) (tw_60 hw) (tw_59 hw) (plainFor_of_name pn_3) (rm32 Z a0 hw h24 n0 f2 SA) (by decide +kernel) (by decide) (by decide) (by decide) (by decide) rfl (by decide) dN_34 rfl (fun T34 Y34 => ?_)
  show Gl p e below _ (T34.setTop (mkF m 37 _ [(.double (0 : UInt64))]))
  refine Gl.d2i Y34 (r := (0 : Int32)) (by decide +kernel) dN_37 rfl ?_
  refine Gl.istore Y34 (L' := #[.val (.ref a), .val (.double (0 : UInt64)), .second, .val (.ref d19), .val (.int 0)]) rfl dN_38 rfl ?_
  refine Gl.aloadN Y34 rfl rfl dN_40 rfl ?_
  refine Gl.iload Y34 rfl dN_41 rfl ?_
  refine Gl.iconst Y34 (v := (1 : Int32)) (by decide) dN_43 rfl ?_
  refine Gl.callS Y34 (tw_74 hw) (tw_75 hw) (tw_35 hw) (tw_76 hw) (by decide) (rm14 l Z a0 hw h24 n0 Y34.sz) (argsL := [(.int 0), (.int 1)]) (rest := [(.ref d19)]) rfl rfl (lenOf pd_0 rfl) rfl (by decide) (nle rfl) (by decide) (by decide) dN_44 rfl (fun v44 T44 h44 Y44 q44 => ?_)
  obtain ⟨rfl, rfl⟩ := q44
  show Gl p e below _ (T44.setTop (mkF m 47 _ [(.int 1), (.ref d19)]))
  refine Gl.iconst Y44 (v := (1 : Int32)) (by decide) dN_47 rfl ?_
  refine Gl.isub Y44 (r := (0 : Int32)) (by decide) dN_48 rfl ?_
  refine Gl.laload Y44 f24_0 ⟨by decide, by decide⟩ (v := (.long r024)) rfl dN_49 rfl ?_
  refine Gl.l2d Y44 rfl dN_50 rfl ?_
  refine Gl.ldcD Y44 (tw_77 hw) dN_51 rfl ?_
  refine Gl.ddiv Y44 (own_nn r024) (r := dq r024) rfl dN_54 rfl ?_
  exact Gl.retD Y44 (by decide) (by decide)  dN_55 ⟨r024, rfl, p24, KK24⟩
def R49 : Room := { frames := 5, cells := 1, slots := 1, locals := 84 }
def Q49 (Z : State) (a b : Addr) (kb : ClassId) (x0 x1 x2 : Int64) (h0 : Heap) (v : Option Value) (h : Heap) : Prop := ∃ r0 : Int64, v = some (.double (dq r0)) ∧ (r0 = x0) ∧ Keep h0 h []
theorem ef49 (a : Addr) (m : MethodId) : entryFrame m #[(.ref a), (.double (4607182418800017408 : UInt64))] 5 = mkF m 0 #[.val (.ref a), .val (.double (4607182418800017408 : UInt64)), .second, .unset, .unset] [] := by first | (simp [entryFrame, mkF, argsToLocals, Value.category]; done) | rfl
theorem rm49 (hw : HW a0 Z) (a b : Addr) (kb : ClassId) (x0 x1 x2 : Int64) (h0 : Heap) (n0 : Nat) (Z0 : n0 ≤ h0.size) (O : Old Z n0 h0) (SA : Sta Z Z.heap "java/lang/StrictMath" "$assertionsDisabled" "Z" (.int 1)) (E : Exa Z h0 a "com/example/impatiens/impatiens/loadtool/Latencies") (F1 : Fld Z h0 a "com/example/impatiens/impatiens/loadtool/Latencies" "nanos" "[J" (.ref b)) (F2 : Fld Z h0 a "com/example/impatiens/impatiens/loadtool/Latencies" "count" "I" (.int 1)) (V : Arv Z h0 b kb .long (1024 : Int32) [(.long x0), (.long x1), (.long x2)] (.long 0)) : OMet l Z [] (⟨"com/example/impatiens/impatiens/loadtool/Latencies", "percentileMs", "(D)D"⟩ : MethodName) prog_21_method_4_code 5 (some .double) R49 #[(.ref a), (.double (4607182418800017408 : UInt64))] h0 n0 (Q49 Z a b kb x0 x1 x2 h0) := by
  refine OMet.of (own := "com/example/impatiens/impatiens/loadtool/Latencies") rfl (plainFor_of_name pn_0) (ef49 a) Z0 ?_
  intro p e s m below meth c T0 Y0 hnm
  refine Gl.aloadN Y0 rfl rfl dN_0 rfl ?_
  refine Gl.getF Y0 (host := "") (Or.inl (tw_17 hw)) Via.refl F2 dN_1 rfl (fun T1 Y1 => ?_)
  refine Gl.ifne Y1 dN_4 (by decide) rfl rfl (fun c4 => ?_) (fun c4 => ?_)
  rotate_left
  · exact absurd c4 (by decide)
  refine Gl.aloadN Y1 rfl rfl dN_11 rfl ?_
  refine Gl.getF Y1 (host := "") (Or.inl (tw_10 hw)) Via.refl F1 dN_12 rfl (fun T12 Y12 => ?_)
  refine Gl.aloadN Y12 rfl rfl dN_15 rfl ?_
  refine Gl.getF Y12 (host := "") (Or.inl (tw_17 hw)) Via.refl F2 dN_16 rfl (fun T16 Y16 => ?_)
  refine Gl.callS Y16 (tw_29 hw) (tw_30 hw) (tw_31 hw) (tw_32 hw) (by decide) (rm9 l Z a0 hw b kb x0 x1 x2 h0 n0 Y16.sz V) (argsL := [(.ref b), (.int 1)]) (rest := []) rfl rfl (lenOf pd_6 rfl) rfl (by decide) (nle rfl) (by decide) (by decide) dN_19 rfl (fun v19 T19 h19 Y19 q19 => ?_)
  obtain ⟨d19, kd19, rfl, K19, f19_0, f19_1⟩ := q19
  have Y19_sz : n0 ≤ h0.size := Y16.sz
  have KK19 : Keep h0 h19 [] := (Keep.refl h0 []).trans K19 all0
  have zd19 : h0.size ≤ d19 := Nat.le_trans (Keep.refl h0 []).1 f19_0
  show Gl p e below _ (T19.setTop (mkF m 22 _ [(.ref d19)]))
  refine Gl.astoreN Y19 rfl (L' := #[.val (.ref a), .val (.double (4607182418800017408 : UInt64)), .second, .val (.ref d19), .unset]) rfl dN_22 rfl ?_
  refine Gl.aloadN Y19 rfl rfl dN_23 rfl ?_
  refine Gl.callS Y19 (tw_41 hw) (tw_42 hw) (tw_31 hw) (tw_43 hw) (by decide) (rm21 l Z a0 hw d19 kd19 x0 h19 n0 Y19.sz f19_1 (Nat.le_trans Y19_sz f19_0)) (argsL := [(.ref d19)]) (rest := []) rfl rfl (lenOf pd_7 rfl) rfl (by decide) (nle rfl) (by decide) (by decide) dN_24 rfl (fun v24 T24 h24 Y24 q24 => ?_)
  obtain ⟨r024, rfl, p24, K24, f24_0⟩ := q24
  have KK24 : Keep h0 h24 [] := KK19.trans K24 (allS (Or.inr zd19) all0)
  show Gl p e below _ (T24.setTop (mkF m 27 _ []))
  refine Gl.dloadN Y24 rfl dN_27 rfl ?_
  refine Gl.aloadN Y24 rfl rfl dN_28 rfl ?_
  have f1 := ((F2.keep K19 nin0).keep K24 (ninS (Nat.ne_of_lt (Nat.lt_of_lt_of_le E.lt f19_0)) nin0))
  refine Gl.getF Y24 (host := "") (Or.inl (tw_17 hw)) Via.refl f1 dN_29 rfl (fun T29 Y29 => ?_)
  refine Gl.i2d Y29 (r := (4607182418800017408 : UInt64)) (by decide +kernel) dN_32 rfl ?_
  refine Gl.dmul Y29 (by unfold Jvm.Free.Fl.NoNaN64; decide +kernel) (r := (4607182418800017408 : UInt64)) (by decide +kernel) dN_33 rfl ?_
  have f2 := ((O.keep K19 all0).keep K24 (allS (Nat.le_trans Y19_sz f19_0) all0))
  refine Lw.ceil Y29 (tw_54 hw) (tw_55 hw) (tw_35 hw) (tw_56 hw) (tw_60 hw) (tw_59 hw) (plainFor_of_name pn_3) (rm38 Z a0 hw h24 n0 f2 SA) (by decide +kernel) (by decide) (by decide) (by decide) (by decide) rfl (by decide) dN_34 rfl (fun T34 Y34 => ?_)
  show Gl p e below _ (T34.setTop (mkF m 37 _ [(.double (4607182418800017408 : UInt64))]))
  refine Gl.d2i Y34 (r := (1 : Int32)) (by decide +kernel) dN_37 rfl ?_
  refine Gl.istore Y34 (L' := #[.val (.ref a), .val (.double (4607182418800017408 : UInt64)), .second, .val (.ref d19), .val (.int 1)]) rfl dN_38 rfl ?_
  refine Gl.aloadN Y34 rfl rfl dN_40 rfl ?_
  refine Gl.iload Y34 rfl dN_41 rfl ?_
  refine Gl.iconst Y34 (v := (1 : Int32)) (by decide) dN_43 rfl ?_
  refine Gl.callS Y34 (tw_74 hw) (tw_75 hw) (tw_35 hw) (tw_76 hw) (by decide) (rm15 l Z a0 hw h24 n0 Y34.sz) (argsL := [(.int 1), (.int 1)]) (rest := [(.ref d19)]) rfl rfl (lenOf pd_0 rfl) rfl (by decide) (nle rfl) (by decide) (by decide) dN_44 rfl (fun v44 T44 h44 Y44 q44 => ?_)
  obtain ⟨rfl, rfl⟩ := q44
  show Gl p e below _ (T44.setTop (mkF m 47 _ [(.int 1), (.ref d19)]))
  refine Gl.iconst Y44 (v := (1 : Int32)) (by decide) dN_47 rfl ?_
  refine Gl.isub Y44 (r := (0 : Int32)) (by decide) dN_48 rfl ?_
  refine Gl.laload Y44 f24_0 ⟨by decide, by decide⟩ (v := (.long r024)) rfl dN_49 rfl ?_
  refine Gl.l2d Y44 rfl dN_50 rfl ?_
  refine Gl.ldcD Y44 (tw_77 hw) dN_51 rfl ?_
  refine Gl.ddiv Y44 (own_nn r024) (r := dq r024) rfl dN_54 rfl ?_
  exact Gl.retD Y44 (by decide) (by decide)  dN_55 ⟨r024, rfl, p24, KK24⟩
def R50 : Room := { frames := 5, cells := 1, slots := 1, locals := 84 }
def Q50 (Z : State) (a b : Addr) (kb : ClassId) (x0 x1 x2 : Int64) (h0 : Heap) (v : Option Value) (h : Heap) : Prop := ∃ r0 : Int64, v = some (.double (dq r0)) ∧ (r0 = x0) ∧ Keep h0 h []
theorem ef50 (a : Addr) (m : MethodId) : entryFrame m #[(.ref a), (.double (4602678819172646912 : UInt64))] 5 = mkF m 0 #[.val (.ref a), .val (.double (4602678819172646912 : UInt64)), .second, .unset, .unset] [] := by first | (simp [entryFrame, mkF, argsToLocals, Value.category]; done) | rfl
theorem rm50 (hw : HW a0 Z) (a b : Addr) (kb : ClassId) (x0 x1 x2 : Int64) (h0 : Heap) (n0 : Nat) (Z0 : n0 ≤ h0.size) (O : Old Z n0 h0) (SA : Sta Z Z.heap "java/lang/StrictMath" "$assertionsDisabled" "Z" (.int 1)) (E : Exa Z h0 a "com/example/impatiens/impatiens/loadtool/Latencies") (F1 : Fld Z h0 a "com/example/impatiens/impatiens/loadtool/Latencies" "nanos" "[J" (.ref b)) (F2 : Fld Z h0 a "com/example/impatiens/impatiens/loadtool/Latencies" "count" "I" (.int 1)) (V : Arv Z h0 b kb .long (1024 : Int32) [(.long x0), (.long x1), (.long x2)] (.long 0)) : OMet l Z [] (⟨"com/example/impatiens/impatiens/loadtool/Latencies", "percentileMs", "(D)D"⟩ : MethodName) prog_21_method_4_code 5 (some .double) R50 #[(.ref a), (.double (4602678819172646912 : UInt64))] h0 n0 (Q50 Z a b kb x0 x1 x2 h0) := by
  refine OMet.of (own := "com/example/impatiens/impatiens/loadtool/Latencies") rfl (plainFor_of_name pn_0) (ef50 a) Z0 ?_
  intro p e s m below meth c T0 Y0 hnm
  refine Gl.aloadN Y0 rfl rfl dN_0 rfl ?_
  refine Gl.getF Y0 (host := "") (Or.inl (tw_17 hw)) Via.refl F2 dN_1 rfl (fun T1 Y1 => ?_)
  refine Gl.ifne Y1 dN_4 (by decide) rfl rfl (fun c4 => ?_) (fun c4 => ?_)
  rotate_left
  · exact absurd c4 (by decide)
  refine Gl.aloadN Y1 rfl rfl dN_11 rfl ?_
  refine Gl.getF Y1 (host := "") (Or.inl (tw_10 hw)) Via.refl F1 dN_12 rfl (fun T12 Y12 => ?_)
  refine Gl.aloadN Y12 rfl rfl dN_15 rfl ?_
  refine Gl.getF Y12 (host := "") (Or.inl (tw_17 hw)) Via.refl F2 dN_16 rfl (fun T16 Y16 => ?_)
  refine Gl.callS Y16 (tw_29 hw) (tw_30 hw) (tw_31 hw) (tw_32 hw) (by decide) (rm9 l Z a0 hw b kb x0 x1 x2 h0 n0 Y16.sz V) (argsL := [(.ref b), (.int 1)]) (rest := []) rfl rfl (lenOf pd_6 rfl) rfl (by decide) (nle rfl) (by decide) (by decide) dN_19 rfl (fun v19 T19 h19 Y19 q19 => ?_)
  obtain ⟨d19, kd19, rfl, K19, f19_0, f19_1⟩ := q19
  have Y19_sz : n0 ≤ h0.size := Y16.sz
  have KK19 : Keep h0 h19 [] := (Keep.refl h0 []).trans K19 all0
  have zd19 : h0.size ≤ d19 := Nat.le_trans (Keep.refl h0 []).1 f19_0
  show Gl p e below _ (T19.setTop (mkF m 22 _ [(.ref d19)]))
  refine Gl.astoreN Y19 rfl (L' := #[.val (.ref a), .val (.double (4602678819172646912 : UInt64)), .second, .val (.ref d19), .unset]) rfl dN_22 rfl ?_
  refine Gl.aloadN Y19 rfl rfl dN_23 rfl ?_
  refine Gl.callS Y19 (tw_41 hw) (tw_42 hw) (tw_31 hw) (tw_43 hw) (by decide) (rm21 l Z a0 hw d19 kd19 x0 h19 n0 Y19.sz f19_1 (Nat.le_trans Y19_sz f19_0)) (argsL := [(.ref d19)]) (rest := []) rfl rfl (lenOf pd_7 rfl) rfl (by decide) (nle rfl) (by decide) (by decide) dN_24 rfl (fun v24 T24 h24 Y24 q24 => ?_)
  obtain ⟨r024, rfl, p24, K24, f24_0⟩ := q24
  have KK24 : Keep h0 h24 [] := KK19.trans K24 (allS (Or.inr zd19) all0)
  show Gl p e below _ (T24.setTop (mkF m 27 _ []))
  refine Gl.dloadN Y24 rfl dN_27 rfl ?_
  refine Gl.aloadN Y24 rfl rfl dN_28 rfl ?_
  have f1 := ((F2.keep K19 nin0).keep K24 (ninS (Nat.ne_of_lt (Nat.lt_of_lt_of_le E.lt f19_0)) nin0))
  refine Gl.getF Y24 (host := "") (Or.inl (tw_17 hw)) Via.refl f1 dN_29 rfl (fun T29 Y29 => ?_)
  refine Gl.i2d Y29 (r := (4607182418800017408 : UInt64)) (by decide +kernel) dN_32 rfl ?_
  refine Gl.dmul Y29 (by unfold Jvm.Free.Fl.NoNaN64; decide +kernel) (r := (4602678819172646912 : UInt64)) (by decide +kernel) dN_33 rfl ?_
  have f2 := ((O.keep K19 all0).keep K24 (allS (Nat.le_trans Y19_sz f19_0) all0))
  refine Lw.ceil Y29 (tw_54 hw) (tw_55 hw) (tw_35 hw) (tw_56 hw) (tw_60 hw) (tw_59 hw) (plainFor_of_name pn_3) (rm35 Z a0 hw h24 n0 f2 SA) (by decide +kernel) (by decide) (by decide) (by decide) (by decide) rfl (by decide) dN_34 rfl (fun T34 Y34 => ?_)
  show Gl p e below _ (T34.setTop (mkF m 37 _ [(.double (4607182418800017408 : UInt64))]))
  refine Gl.d2i Y34 (r := (1 : Int32)) (by decide +kernel) dN_37 rfl ?_
  refine Gl.istore Y34 (L' := #[.val (.ref a), .val (.double (4602678819172646912 : UInt64)), .second, .val (.ref d19), .val (.int 1)]) rfl dN_38 rfl ?_
  refine Gl.aloadN Y34 rfl rfl dN_40 rfl ?_
  refine Gl.iload Y34 rfl dN_41 rfl ?_
  refine Gl.iconst Y34 (v := (1 : Int32)) (by decide) dN_43 rfl ?_
  refine Gl.callS Y34 (tw_74 hw) (tw_75 hw) (tw_35 hw) (tw_76 hw) (by decide) (rm15 l Z a0 hw h24 n0 Y34.sz) (argsL := [(.int 1), (.int 1)]) (rest := [(.ref d19)]) rfl rfl (lenOf pd_0 rfl) rfl (by decide) (nle rfl) (by decide) (by decide) dN_44 rfl (fun v44 T44 h44 Y44 q44 => ?_)
  obtain ⟨rfl, rfl⟩ := q44
  show Gl p e below _ (T44.setTop (mkF m 47 _ [(.int 1), (.ref d19)]))
  refine Gl.iconst Y44 (v := (1 : Int32)) (by decide) dN_47 rfl ?_
  refine Gl.isub Y44 (r := (0 : Int32)) (by decide) dN_48 rfl ?_
  refine Gl.laload Y44 f24_0 ⟨by decide, by decide⟩ (v := (.long r024)) rfl dN_49 rfl ?_
  refine Gl.l2d Y44 rfl dN_50 rfl ?_
  refine Gl.ldcD Y44 (tw_77 hw) dN_51 rfl ?_
  refine Gl.ddiv Y44 (own_nn r024) (r := dq r024) rfl dN_54 rfl ?_
  exact Gl.retD Y44 (by decide) (by decide)  dN_55 ⟨r024, rfl, p24, KK24⟩
def R51 : Room := { frames := 5, cells := 1, slots := 2, locals := 84 }
def Q51 (Z : State) (a b : Addr) (kb : ClassId) (x0 x1 x2 : Int64) (h0 : Heap) (v : Option Value) (h : Heap) : Prop := ∃ r0 : Int64, ∃ r1 : Int64, v = some (.double (dq r0)) ∧ (S2 x0 x1 r0 r1) ∧ Keep h0 h []
theorem ef51 (a : Addr) (m : MethodId) : entryFrame m #[(.ref a), (.double (0 : UInt64))] 5 = mkF m 0 #[.val (.ref a), .val (.double (0 : UInt64)), .second, .unset, .unset] [] := by first | (simp [entryFrame, mkF, argsToLocals, Value.category]; done) | rfl
theorem rm51 (hw : HW a0 Z) (a b : Addr) (kb : ClassId) (x0 x1 x2 : Int64) (h0 : Heap) (n0 : Nat) (Z0 : n0 ≤ h0.size) (O : Old Z n0 h0) (SA : Sta Z Z.heap "java/lang/StrictMath" "$assertionsDisabled" "Z" (.int 1)) (E : Exa Z h0 a "com/example/impatiens/impatiens/loadtool/Latencies") (F1 : Fld Z h0 a "com/example/impatiens/impatiens/loadtool/Latencies" "nanos" "[J" (.ref b)) (F2 : Fld Z h0 a "com/example/impatiens/impatiens/loadtool/Latencies" "count" "I" (.int 2)) (V : Arv Z h0 b kb .long (1024 : Int32) [(.long x0), (.long x1), (.long x2)] (.long 0)) : OMet l Z [] (⟨"com/example/impatiens/impatiens/loadtool/Latencies", "percentileMs", "(D)D"⟩ : MethodName) prog_21_method_4_code 5 (some .double) R51 #[(.ref a), (.double (0 : UInt64))] h0 n0 (Q51 Z a b kb x0 x1 x2 h0) := by
  refine OMet.of (own := "com/example/impatiens/impatiens/loadtool/Latencies") rfl (plainFor_of_name pn_0) (ef51 a) Z0 ?_
  intro p e s m below meth c T0 Y0 hnm
  refine Gl.aloadN Y0 rfl rfl dN_0 rfl ?_
  refine Gl.getF Y0 (host := "") (Or.inl (tw_17 hw)) Via.refl F2 dN_1 rfl (fun T1 Y1 => ?_)
  refine Gl.ifne Y1 dN_4 (by decide) rfl rfl (fun c4 => ?_) (fun c4 => ?_)
  rotate_left
  · exact absurd c4 (by decide)
  refine Gl.aloadN Y1 rfl rfl dN_11 rfl ?_
  refine Gl.getF Y1 (host := "") (Or.inl (tw_10 hw)) Via.refl F1 dN_12 rfl (fun T12 Y12 => ?_)
  refine Gl.aloadN Y12 rfl rfl dN_15 rfl ?_
  refine Gl.getF Y12 (host := "") (Or.inl (tw_17 hw)) Via.refl F2 dN_16 rfl (fun T16 Y16 => ?_)
  refine Gl.callS Y16 (tw_29 hw) (tw_30 hw) (tw_31 hw) (tw_32 hw) (by decide) (rm11 l Z a0 hw b kb x0 x1 x2 h0 n0 Y16.sz V) (argsL := [(.ref b), (.int 2)]) (rest := []) rfl rfl (lenOf pd_6 rfl) rfl (by decide) (nle rfl) (by decide) (by decide) dN_19 rfl (fun v19 T19 h19 Y19 q19 => ?_)
  obtain ⟨d19, kd19, rfl, K19, f19_0, f19_1⟩ := q19
  have Y19_sz : n0 ≤ h0.size := Y16.sz
  have KK19 : Keep h0 h19 [] := (Keep.refl h0 []).trans K19 all0
  have zd19 : h0.size ≤ d19 := Nat.le_trans (Keep.refl h0 []).1 f19_0
  show Gl p e below _ (T19.setTop (mkF m 22 _ [(.ref d19)]))
  refine Gl.astoreN Y19 rfl (L' := #[.val (.ref a), .val (.double (0 : UInt64)), .second, .val (.ref d19), .unset]) rfl dN_22 rfl ?_
  refine Gl.aloadN Y19 rfl rfl dN_23 rfl ?_
  refine Gl.callS Y19 (tw_41 hw) (tw_42 hw) (tw_31 hw) (tw_43 hw) (by decide) (rm25 l Z a0 hw d19 kd19 x0 x1 h19 n0 Y19.sz f19_1 (Nat.le_trans Y19_sz f19_0)) (argsL := [(.ref d19)]) (rest := []) rfl rfl (lenOf pd_7 rfl) rfl (by decide) (nle rfl) (by decide) (by decide) dN_24 rfl (fun v24 T24 h24 Y24 q24 => ?_)
  obtain ⟨r024, r124, rfl, p24, K24, f24_0⟩ := q24
  have KK24 : Keep h0 h24 [] := KK19.trans K24 (allS (Or.inr zd19) all0)
  show Gl p e below _ (T24.setTop (mkF m 27 _ []))
  refine Gl.dloadN Y24 rfl dN_27 rfl ?_
  refine Gl.aloadN Y24 rfl rfl dN_28 rfl ?_
  have f1 := ((F2.keep K19 nin0).keep K24 (ninS (Nat.ne_of_lt (Nat.lt_of_lt_of_le E.lt f19_0)) nin0))
  refine Gl.getF Y24 (host := "") (Or.inl (tw_17 hw)) Via.refl f1 dN_29 rfl (fun T29 Y29 => ?_)
  refine Gl.i2d Y29 (r := (4611686018427387904 : UInt64)) (by decide +kernel) dN_32 rfl ?_
  refine Gl.dmul Y29 (by unfold Jvm.Free.Fl.NoNaN64; decide +kernel) (r := (0 : UInt64)) (by decide +kernel) dN_33 rfl ?_
  have f2 := ((O.keep K19 all0).keep K24 (allS (Nat.le_trans Y19_sz f19_0) all0))
  refine Lw.ceil Y29 (tw_54 hw) (tw_55 hw) (tw_35 hw) (tw_56 hw) (tw_60 hw) (tw_59 hw) (plainFor_of_name pn_3) (rm32 Z a0 hw h24 n0 f2 SA) (by decide +kernel) (by decide) (by decide) (by decide) (by decide) rfl (by decide) dN_34 rfl (fun T34 Y34 => ?_)
  show Gl p e below _ (T34.setTop (mkF m 37 _ [(.double (0 : UInt64))]))
  refine Gl.d2i Y34 (r := (0 : Int32)) (by decide +kernel) dN_37 rfl ?_
  refine Gl.istore Y34 (L' := #[.val (.ref a), .val (.double (0 : UInt64)), .second, .val (.ref d19), .val (.int 0)]) rfl dN_38 rfl ?_
  refine Gl.aloadN Y34 rfl rfl dN_40 rfl ?_
  refine Gl.iload Y34 rfl dN_41 rfl ?_
  refine Gl.iconst Y34 (v := (1 : Int32)) (by decide) dN_43 rfl ?_
  refine Gl.callS Y34 (tw_74 hw) (tw_75 hw) (tw_35 hw) (tw_76 hw) (by decide) (rm14 l Z a0 hw h24 n0 Y34.sz) (argsL := [(.int 0), (.int 1)]) (rest := [(.ref d19)]) rfl rfl (lenOf pd_0 rfl) rfl (by decide) (nle rfl) (by decide) (by decide) dN_44 rfl (fun v44 T44 h44 Y44 q44 => ?_)
  obtain ⟨rfl, rfl⟩ := q44
  show Gl p e below _ (T44.setTop (mkF m 47 _ [(.int 1), (.ref d19)]))
  refine Gl.iconst Y44 (v := (1 : Int32)) (by decide) dN_47 rfl ?_
  refine Gl.isub Y44 (r := (0 : Int32)) (by decide) dN_48 rfl ?_
  refine Gl.laload Y44 f24_0 ⟨by decide, by decide⟩ (v := (.long r024)) rfl dN_49 rfl ?_
  refine Gl.l2d Y44 rfl dN_50 rfl ?_
  refine Gl.ldcD Y44 (tw_77 hw) dN_51 rfl ?_
  refine Gl.ddiv Y44 (own_nn r024) (r := dq r024) rfl dN_54 rfl ?_
  exact Gl.retD Y44 (by decide) (by decide)  dN_55 ⟨r024, r124, rfl, p24, KK24⟩
def R52 : Room := { frames := 5, cells := 1, slots := 2, locals := 84 }
def Q52 (Z : State) (a b : Addr) (kb : ClassId) (x0 x1 x2 : Int64) (h0 : Heap) (v : Option Value) (h : Heap) : Prop := ∃ r0 : Int64, ∃ r1 : Int64, v = some (.double (dq r1)) ∧ (S2 x0 x1 r0 r1) ∧ Keep h0 h []
theorem ef52 (a : Addr) (m : MethodId) : entryFrame m #[(.ref a), (.double (4607182418800017408 : UInt64))] 5 = mkF m 0 #[.val (.ref a), .val (.double (4607182418800017408 : UInt64)), .second, .unset, .unset] [] := by first | (simp [entryFrame, mkF, argsToLocals, Value.category]; done) | rfl
theorem rm52 (hw : HW a0 Z) (a b : Addr) (kb : ClassId) (x0 x1 x2 : Int64) (h0 : Heap) (n0 : Nat) (Z0 : n0 ≤ h0.size) (O : Old Z n0 h0) (SA : Sta Z Z.heap "java/lang/StrictMath" "$assertionsDisabled" "Z" (.int 1)) (E : Exa Z h0 a "com/example/impatiens/impatiens/loadtool/Latencies") (F1 : Fld Z h0 a "com/example/impatiens/impatiens/loadtool/Latencies" "nanos" "[J" (.ref b)) (F2 : Fld Z h0 a "com/example/impatiens/impatiens/loadtool/Latencies" "count" "I" (.int 2)) (V : Arv Z h0 b kb .long (1024 : Int32) [(.long x0), (.long x1), (.long x2)] (.long 0)) : OMet l Z [] (⟨"com/example/impatiens/impatiens/loadtool/Latencies", "percentileMs", "(D)D"⟩ : MethodName) prog_21_method_4_code 5 (some .double) R52 #[(.ref a), (.double (4607182418800017408 : UInt64))] h0 n0 (Q52 Z a b kb x0 x1 x2 h0) := by
  refine OMet.of (own := "com/example/impatiens/impatiens/loadtool/Latencies") rfl (plainFor_of_name pn_0) (ef52 a) Z0 ?_
  intro p e s m below meth c T0 Y0 hnm
  refine Gl.aloadN Y0 rfl rfl dN_0 rfl ?_
  refine Gl.getF Y0 (host := "") (Or.inl (tw_17 hw)) Via.refl F2 dN_1 rfl (fun T1 Y1 => ?_)
  refine Gl.ifne Y1 dN_4 (by decide) rfl rfl (fun c4 => ?_) (fun c4 => ?_)
  rotate_left
  · exact absurd c4 (by decide)
  refine Gl.aloadN Y1 rfl rfl dN_11 rfl ?_
  refine Gl.getF Y1 (host := "") (Or.inl (tw_10 hw)) Via.refl F1 dN_12 rfl (fun T12 Y12 => ?_)
  refine Gl.aloadN Y12 rfl rfl dN_15 rfl ?_
  refine Gl.getF Y12 (host := "") (Or.inl (tw_17 hw)) Via.refl F2 dN_16 rfl (fun T16 Y16 => ?_)
  refine Gl.callS Y16 (tw_29 hw) (tw_30 hw) (tw_31 hw) (tw_32 hw) (by decide) (rm11 l Z a0 hw b kb x0 x1 x2 h0 n0 Y16.sz V) (argsL := [(.ref b), (.int 2)]) (rest := []) rfl rfl (lenOf pd_6 rfl) rfl (by decide) (nle rfl) (by decide) (by decide) dN_19 rfl (fun v19 T19 h19 Y19 q19 => ?_)
  obtain ⟨d19, kd19, rfl, K19, f19_0, f19_1⟩ := q19
  have Y19_sz : n0 ≤ h0.size := Y16.sz
  have KK19 : Keep h0 h19 [] := (Keep.refl h0 []).trans K19 all0
  have zd19 : h0.size ≤ d19 := Nat.le_trans (Keep.refl h0 []).1 f19_0
  show Gl p e below _ (T19.setTop (mkF m 22 _ [(.ref d19)]))
  refine Gl.astoreN Y19 rfl (L' := #[.val (.ref a), .val (.double (4607182418800017408 : UInt64)), .second, .val (.ref d19), .unset]) rfl dN_22 rfl ?_
  refine Gl.aloadN Y19 rfl rfl dN_23 rfl ?_
  refine Gl.callS Y19 (tw_41 hw) (tw_42 hw) (tw_31 hw) (tw_43 hw) (by decide) (rm25 l Z a0 hw d19 kd19 x0 x1 h19 n0 Y19.sz f19_1 (Nat.le_trans Y19_sz f19_0)) (argsL := [(.ref d19)]) (rest := []) rfl rfl (lenOf pd_7 rfl) rfl (by decide) (nle rfl) (by decide) (by decide) dN_24 rfl (fun v24 T24 h24 Y24 q24 => ?_)
  obtain ⟨r024, r124, rfl, p24, K24, f24_0⟩ := q24
  have KK24 : Keep h0 h24 [] := KK19.trans K24 (allS (Or.inr zd19) all0)
  show Gl p e below _ (T24.setTop (mkF m 27 _ []))
  refine Gl.dloadN Y24 rfl dN_27 rfl ?_
  refine Gl.aloadN Y24 rfl rfl dN_28 rfl ?_
  have f1 := ((F2.keep K19 nin0).keep K24 (ninS (Nat.ne_of_lt (Nat.lt_of_lt_of_le E.lt f19_0)) nin0))
  refine Gl.getF Y24 (host := "") (Or.inl (tw_17 hw)) Via.refl f1 dN_29 rfl (fun T29 Y29 => ?_)
  refine Gl.i2d Y29 (r := (4611686018427387904 : UInt64)) (by decide +kernel) dN_32 rfl ?_
  refine Gl.dmul Y29 (by unfold Jvm.Free.Fl.NoNaN64; decide +kernel) (r := (4611686018427387904 : UInt64)) (by decide +kernel) dN_33 rfl ?_
  have f2 := ((O.keep K19 all0).keep K24 (allS (Nat.le_trans Y19_sz f19_0) all0))
  refine Lw.ceil Y29 (tw_54 hw) (tw_55 hw) (tw_35 hw) (tw_56 hw) (tw_60 hw) (tw_59 hw) (plainFor_of_name pn_3) (rm44 Z a0 hw h24 n0 f2 SA) (by decide +kernel) (by decide) (by decide) (by decide) (by decide) rfl (by decide) dN_34 rfl (fun T34 Y34 => ?_)
  show Gl p e below _ (T34.setTop (mkF m 37 _ [(.double (4611686018427387904 : UInt64))]))
  refine Gl.d2i Y34 (r := (2 : Int32)) (by decide +kernel) dN_37 rfl ?_
  refine Gl.istore Y34 (L' := #[.val (.ref a), .val (.double (4607182418800017408 : UInt64)), .second, .val (.ref d19), .val (.int 2)]) rfl dN_38 rfl ?_
  refine Gl.aloadN Y34 rfl rfl dN_40 rfl ?_
  refine Gl.iload Y34 rfl dN_41 rfl ?_
  refine Gl.iconst Y34 (v := (1 : Int32)) (by decide) dN_43 rfl ?_
  refine Gl.callS Y34 (tw_74 hw) (tw_75 hw) (tw_35 hw) (tw_76 hw) (by decide) (rm16 l Z a0 hw h24 n0 Y34.sz) (argsL := [(.int 2), (.int 1)]) (rest := [(.ref d19)]) rfl rfl (lenOf pd_0 rfl) rfl (by decide) (nle rfl) (by decide) (by decide) dN_44 rfl (fun v44 T44 h44 Y44 q44 => ?_)
  obtain ⟨rfl, rfl⟩ := q44
  show Gl p e below _ (T44.setTop (mkF m 47 _ [(.int 2), (.ref d19)]))
  refine Gl.iconst Y44 (v := (1 : Int32)) (by decide) dN_47 rfl ?_
  refine Gl.isub Y44 (r := (1 : Int32)) (by decide) dN_48 rfl ?_
  refine Gl.laload Y44 f24_0 ⟨by decide, by decide⟩ (v := (.long r124)) rfl dN_49 rfl ?_
  refine Gl.l2d Y44 rfl dN_50 rfl ?_
  refine Gl.ldcD Y44 (tw_77 hw) dN_51 rfl ?_
  refine Gl.ddiv Y44 (own_nn r124) (r := dq r124) rfl dN_54 rfl ?_
  exact Gl.retD Y44 (by decide) (by decide)  dN_55 ⟨r024, r124, rfl, p24, KK24⟩
def R53 : Room := { frames := 5, cells := 1, slots := 2, locals := 84 }
def Q53 (Z : State) (a b : Addr) (kb : ClassId) (x0 x1 x2 : Int64) (h0 : Heap) (v : Option Value) (h : Heap) : Prop := ∃ r0 : Int64, ∃ r1 : Int64, v = some (.double (dq r0)) ∧ (S2 x0 x1 r0 r1) ∧ Keep h0 h []
theorem ef53 (a : Addr) (m : MethodId) : entryFrame m #[(.ref a), (.double (4602678819172646912 : UInt64))] 5 = mkF m 0 #[.val (.ref a), .val (.double (4602678819172646912 : UInt64)), .second, .unset, .unset] [] := by first | (simp [entryFrame, mkF, argsToLocals, Value.category]; done) | rfl
theorem rm53 (hw : HW a0 Z) (a b : Addr) (kb : ClassId) (x0 x1 x2 : Int64) (h0 : Heap) (n0 : Nat) (Z0 : n0 ≤ h0.size) (O : Old Z n0 h0) (SA : Sta Z Z.heap "java/lang/StrictMath" "$assertionsDisabled" "Z" (.int 1)) (E : Exa Z h0 a "com/example/impatiens/impatiens/loadtool/Latencies") (F1 : Fld Z h0 a "com/example/impatiens/impatiens/loadtool/Latencies" "nanos" "[J" (.ref b)) (F2 : Fld Z h0 a "com/example/impatiens/impatiens/loadtool/Latencies" "count" "I" (.int 2)) (V : Arv Z h0 b kb .long (1024 : Int32) [(.long x0), (.long x1), (.long x2)] (.long 0)) : OMet l Z [] (⟨"com/example/impatiens/impatiens/loadtool/Latencies", "percentileMs", "(D)D"⟩ : MethodName) prog_21_method_4_code 5 (some .double) R53 #[(.ref a), (.double (4602678819172646912 : UInt64))] h0 n0 (Q53 Z a b kb x0 x1 x2 h0) := by
  refine OMet.of (own := "com/example/impatiens/impatiens/loadtool/Latencies") rfl (plainFor_of_name pn_0) (ef53 a) Z0 ?_
  intro p e s m below meth c T0 Y0 hnm
  refine Gl.aloadN Y0 rfl rfl dN_0 rfl ?_
  refine Gl.getF Y0 (host := "") (Or.inl (tw_17 hw)) Via.refl F2 dN_1 rfl (fun T1 Y1 => ?_)
  refine Gl.ifne Y1 dN_4 (by decide) rfl rfl (fun c4 => ?_) (fun c4 => ?_)
  rotate_left
  · exact absurd c4 (by decide)
  refine Gl.aloadN Y1 rfl rfl dN_11 rfl ?_
  refine Gl.getF Y1 (host := "") (Or.inl (tw_10 hw)) Via.refl F1 dN_12 rfl (fun T12 Y12 => ?_)
  refine Gl.aloadN Y12 rfl rfl dN_15 rfl ?_
  refine Gl.getF Y12 (host := "") (Or.inl (tw_17 hw)) Via.refl F2 dN_16 rfl (fun T16 Y16 => ?_)
  refine Gl.callS Y16 (tw_29 hw) (tw_30 hw) (tw_31 hw) (tw_32 hw) (by decide) (rm11 l Z a0 hw b kb x0 x1 x2 h0 n0 Y16.sz V) (argsL := [(.ref b), (.int 2)]) (rest := []) rfl rfl (lenOf pd_6 rfl) rfl (by decide) (nle rfl) (by decide) (by decide) dN_19 rfl (fun v19 T19 h19 Y19 q19 => ?_)
  obtain ⟨d19, kd19, rfl, K19, f19_0, f19_1⟩ := q19
  have Y19_sz : n0 ≤ h0.size := Y16.sz
  have KK19 : Keep h0 h19 [] := (Keep.refl h0 []).trans K19 all0
  have zd19 : h0.size ≤ d19 := Nat.le_trans (Keep.refl h0 []).1 f19_0
  show Gl p e below _ (T19.setTop (mkF m 22 _ [(.ref d19)]))
  refine Gl.astoreN Y19 rfl (L' := #[.val (.ref a), .val (.double (4602678819172646912 : UInt64)), .second, .val (.ref d19), .unset]) rfl dN_22 rfl ?_
  refine Gl.aloadN Y19 rfl rfl dN_23 rfl ?_
  refine Gl.callS Y19 (tw_41 hw) (tw_42 hw) (tw_31 hw) (tw_43 hw) (by decide) (rm25 l Z a0 hw d19 kd19 x0 x1 h19 n0 Y19.sz f19_1 (Nat.le_trans Y19_sz f19_0)) (argsL := [(.ref d19)]) (rest := []) rfl rfl (lenOf pd_7 rfl) rfl (by decide) (nle rfl) (by decide) (by decide) dN_24 rfl (fun v24 T24 h24 Y24 q24 => ?_)
  obtain ⟨r024, r124, rfl, p24, K24, f24_0⟩ := q24
  have KK24 : Keep h0 h24 [] := KK19.trans K24 (allS (Or.inr zd19) all0)
  show Gl p e below _ (T24.setTop (mkF m 27 _ []))
  refine Gl.dloadN Y24 rfl dN_27 rfl ?_
  refine Gl.aloadN Y24 rfl rfl dN_28 rfl ?_
  have f1 := ((F2.keep K19 nin0).keep K24 (ninS (Nat.ne_of_lt (Nat.lt_of_lt_of_le E.lt f19_0)) nin0))
  refine Gl.getF Y24 (host := "") (Or.inl (tw_17 hw)) Via.refl f1 dN_29 rfl (fun T29 Y29 => ?_)
  refine Gl.i2d Y29 (r := (4611686018427387904 : UInt64)) (by decide +kernel) dN_32 rfl ?_
  refine Gl.dmul Y29 (by unfold Jvm.Free.Fl.NoNaN64; decide +kernel) (r := (4607182418800017408 : UInt64)) (by decide +kernel) dN_33 rfl ?_
  have f2 := ((O.keep K19 all0).keep K24 (allS (Nat.le_trans Y19_sz f19_0) all0))
  refine Lw.ceil Y29 (tw_54 hw) (tw_55 hw) (tw_35 hw) (tw_56 hw) (tw_60 hw) (tw_59 hw) (plainFor_of_name pn_3) (rm38 Z a0 hw h24 n0 f2 SA) (by decide +kernel) (by decide) (by decide) (by decide) (by decide) rfl (by decide) dN_34 rfl (fun T34 Y34 => ?_)
  show Gl p e below _ (T34.setTop (mkF m 37 _ [(.double (4607182418800017408 : UInt64))]))
  refine Gl.d2i Y34 (r := (1 : Int32)) (by decide +kernel) dN_37 rfl ?_
  refine Gl.istore Y34 (L' := #[.val (.ref a), .val (.double (4602678819172646912 : UInt64)), .second, .val (.ref d19), .val (.int 1)]) rfl dN_38 rfl ?_
  refine Gl.aloadN Y34 rfl rfl dN_40 rfl ?_
  refine Gl.iload Y34 rfl dN_41 rfl ?_
  refine Gl.iconst Y34 (v := (1 : Int32)) (by decide) dN_43 rfl ?_
  refine Gl.callS Y34 (tw_74 hw) (tw_75 hw) (tw_35 hw) (tw_76 hw) (by decide) (rm15 l Z a0 hw h24 n0 Y34.sz) (argsL := [(.int 1), (.int 1)]) (rest := [(.ref d19)]) rfl rfl (lenOf pd_0 rfl) rfl (by decide) (nle rfl) (by decide) (by decide) dN_44 rfl (fun v44 T44 h44 Y44 q44 => ?_)
  obtain ⟨rfl, rfl⟩ := q44
  show Gl p e below _ (T44.setTop (mkF m 47 _ [(.int 1), (.ref d19)]))
  refine Gl.iconst Y44 (v := (1 : Int32)) (by decide) dN_47 rfl ?_
  refine Gl.isub Y44 (r := (0 : Int32)) (by decide) dN_48 rfl ?_
  refine Gl.laload Y44 f24_0 ⟨by decide, by decide⟩ (v := (.long r024)) rfl dN_49 rfl ?_
  refine Gl.l2d Y44 rfl dN_50 rfl ?_
  refine Gl.ldcD Y44 (tw_77 hw) dN_51 rfl ?_
  refine Gl.ddiv Y44 (own_nn r024) (r := dq r024) rfl dN_54 rfl ?_
  exact Gl.retD Y44 (by decide) (by decide)  dN_55 ⟨r024, r124, rfl, p24, KK24⟩
def R54 : Room := { frames := 5, cells := 1, slots := 3, locals := 84 }
def Q54 (Z : State) (a b : Addr) (kb : ClassId) (x0 x1 x2 : Int64) (h0 : Heap) (v : Option Value) (h : Heap) : Prop := ∃ r0 : Int64, ∃ r1 : Int64, ∃ r2 : Int64, v = some (.double (dq r0)) ∧ (S3 x0 x1 x2 r0 r1 r2) ∧ Keep h0 h []
theorem ef54 (a : Addr) (m : MethodId) : entryFrame m #[(.ref a), (.double (0 : UInt64))] 5 = mkF m 0 #[.val (.ref a), .val (.double (0 : UInt64)), .second, .unset, .unset] [] := by first | (simp [entryFrame, mkF, argsToLocals, Value.category]; done) | rfl
theorem rm54 (hw : HW a0 Z) (a b : Addr) (kb : ClassId) (x0 x1 x2 : Int64) (h0 : Heap) (n0 : Nat) (Z0 : n0 ≤ h0.size) (O : Old Z n0 h0) (SA : Sta Z Z.heap "java/lang/StrictMath" "$assertionsDisabled" "Z" (.int 1)) (E : Exa Z h0 a "com/example/impatiens/impatiens/loadtool/Latencies") (F1 : Fld Z h0 a "com/example/impatiens/impatiens/loadtool/Latencies" "nanos" "[J" (.ref b)) (F2 : Fld Z h0 a "com/example/impatiens/impatiens/loadtool/Latencies" "count" "I" (.int 3)) (V : Arv Z h0 b kb .long (1024 : Int32) [(.long x0), (.long x1), (.long x2)] (.long 0)) : OMet l Z [] (⟨"com/example/impatiens/impatiens/loadtool/Latencies", "percentileMs", "(D)D"⟩ : MethodName) prog_21_method_4_code 5 (some .double) R54 #[(.ref a), (.double (0 : UInt64))] h0 n0 (Q54 Z a b kb x0 x1 x2 h0) := by
  refine OMet.of (own := "com/example/impatiens/impatiens/loadtool/Latencies") rfl (plainFor_of_name pn_0) (ef54 a) Z0 ?_
  intro p e s m below meth c T0 Y0 hnm
  refine Gl.aloadN Y0 rfl rfl dN_0 rfl ?_
  refine Gl.getF Y0 (host := "") (Or.inl (tw_17 hw)) Via.refl F2 dN_1 rfl (fun T1 Y1 => ?_)
  refine Gl.ifne Y1 dN_4 (by decide) rfl rfl (fun c4 => ?_) (fun c4 => ?_)
  rotate_left
  · exact absurd c4 (by decide)
  refine Gl.aloadN Y1 rfl rfl dN_11 rfl ?_
  refine Gl.getF Y1 (host := "") (Or.inl (tw_10 hw)) Via.refl F1 dN_12 rfl (fun T12 Y12 => ?_)
  refine Gl.aloadN Y12 rfl rfl dN_15 rfl ?_
  refine Gl.getF Y12 (host := "") (Or.inl (tw_17 hw)) Via.refl F2 dN_16 rfl (fun T16 Y16 => ?_)
  refine Gl.callS Y16 (tw_29 hw) (tw_30 hw) (tw_31 hw) (tw_32 hw) (by decide) (rm13 l Z a0 hw b kb x0 x1 x2 h0 n0 Y16.sz V) (argsL := [(.ref b), (.int 3)]) (rest := []) rfl rfl (lenOf pd_6 rfl) rfl (by decide) (nle rfl) (by decide) (by decide) dN_19 rfl (fun v19 T19 h19 Y19 q19 => ?_)
  obtain ⟨d19, kd19, rfl, K19, f19_0, f19_1⟩ := q19
  have Y19_sz : n0 ≤ h0.size := Y16.sz
  have KK19 : Keep h0 h19 [] := (Keep.refl h0 []).trans K19 all0
  have zd19 : h0.size ≤ d19 := Nat.le_trans (Keep.refl h0 []).1 f19_0
  show Gl p e below _ (T19.setTop (mkF m 22 _ [(.ref d19)]))
  refine Gl.astoreN Y19 rfl (L' := #[.val (.ref a), .val (.double (0 : UInt64)), .second, .val (.ref d19), .unset]) rfl dN_22 rfl ?_
  refine Gl.aloadN Y19 rfl rfl dN_23 rfl ?_
  refine Gl.callS Y19 (tw_41 hw) (tw_42 hw) (tw_31 hw) (tw_43 hw) (by decide) (rm29 l Z a0 hw d19 kd19 x0 x1 x2 h19 n0 Y19.sz f19_1 (Nat.le_trans Y19_sz f19_0)) (argsL := [(.ref d19)]) (rest := []) rfl rfl (lenOf pd_7 rfl) rfl (by decide) (nle rfl) (by decide) (by decide) dN_24 rfl (fun v24 T24 h24 Y24 q24 => ?_)
  obtain ⟨r024, r124, r224, rfl, p24, K24, f24_0⟩ := q24
  have KK24 : Keep h0 h24 [] := KK19.trans K24 (allS (Or.inr zd19) all0)
  show Gl p e below _ (T24.setTop (mkF m 27 _ []))
  refine Gl.dloadN Y24 rfl dN_27 rfl ?_
  refine Gl.aloadN Y24 rfl rfl dN_28 rfl ?_
  have f1 := ((F2.keep K19 nin0).keep K24 (ninS (Nat.ne_of_lt (Nat.lt_of_lt_of_le E.lt f19_0)) nin0))
  refine Gl.getF Y24 (host := "") (Or.inl (tw_17 hw)) Via.refl f1 dN_29 rfl (fun T29 Y29 => ?_)
  refine Gl.i2d Y29 (r := (4613937818241073152 : UInt64)) (by decide +kernel) dN_32 rfl ?_
  refine Gl.dmul Y29 (by unfold Jvm.Free.Fl.NoNaN64; decide +kernel) (r := (0 : UInt64)) (by decide +kernel) dN_33 rfl ?_
  have f2 := ((O.keep K19 all0).keep K24 (allS (Nat.le_trans Y19_sz f19_0) all0))
  refine Lw.ceil Y29 (tw_54 hw) (tw_55 hw) (tw_35 hw) (tw_56 hw) (tw_60 hw) (tw_59 hw) (plainFor_of_name pn_3) (rm32 Z a0 hw h24 n0 f2 SA) (by decide +kernel) (by decide) (by decide) (by decide) (by decide) rfl (by decide) dN_34 rfl (fun T34 Y34 => ?_)
  show Gl p e below _ (T34.setTop (mkF m 37 _ [(.double (0 : UInt64))]))
  refine Gl.d2i Y34 (r := (0 : Int32)) (by decide +kernel) dN_37 rfl ?_
  refine Gl.istore Y34 (L' := #[.val (.ref a), .val (.double (0 : UInt64)), .second, .val (.ref d19), .val (.int 0)]) rfl dN_38 rfl ?_
  refine Gl.aloadN Y34 rfl rfl dN_40 rfl ?_
  refine Gl.iload Y34 rfl dN_41 rfl ?_
  refine Gl.iconst Y34 (v := (1 : Int32)) (by decide) dN_43 rfl ?_
  refine Gl.callS Y34 (tw_74 hw) (tw_75 hw) (tw_35 hw) (tw_76 hw) (by decide) (rm14 l Z a0 hw h24 n0 Y34.sz) (argsL := [(.int 0), (.int 1)]) (rest := [(.ref d19)]) rfl rfl (lenOf pd_0 rfl) rfl (by decide) (nle rfl) (by decide) (by decide) dN_44 rfl (fun v44 T44 h44 Y44 q44 => ?_)
  obtain ⟨rfl, rfl⟩ := q44
  show Gl p e below _ (T44.setTop (mkF m 47 _ [(.int 1), (.ref d19)]))
  refine Gl.iconst Y44 (v := (1 : Int32)) (by decide) dN_47 rfl ?_
  refine Gl.isub Y44 (r := (0 : Int32)) (by decide) dN_48 rfl ?_
  refine Gl.laload Y44 f24_0 ⟨by decide, by decide⟩ (v := (.long r024)) rfl dN_49 rfl ?_
  refine Gl.l2d Y44 rfl dN_50 rfl ?_
  refine Gl.ldcD Y44 (tw_77 hw) dN_51 rfl ?_
  refine Gl.ddiv Y44 (own_nn r024) (r := dq r024) rfl dN_54 rfl ?_
  exact Gl.retD Y44 (by decide) (by decide)  dN_55 ⟨r024, r124, r224, rfl, p24, KK24⟩
def R55 : Room := { frames := 5, cells := 1, slots := 3, locals := 84 }
def Q55 (Z : State) (a b : Addr) (kb : ClassId) (x0 x1 x2 : Int64) (h0 : Heap) (v : Option Value) (h : Heap) : Prop := ∃ r0 : Int64, ∃ r1 : Int64, ∃ r2 : Int64, v = some (.double (dq r2)) ∧ (S3 x0 x1 x2 r0 r1 r2) ∧ Keep h0 h []
theorem ef55 (a : Addr) (m : MethodId) : entryFrame m #[(.ref a), (.double (4607182418800017408 : UInt64))] 5 = mkF m 0 #[.val (.ref a), .val (.double (4607182418800017408 : UInt64)), .second, .unset, .unset] [] := by first | (simp [entryFrame, mkF, argsToLocals, Value.category]; done) | rfl
theorem rm55 (hw : HW a0 Z) (a b : Addr) (kb : ClassId) (x0 x1 x2 : Int64) (h0 : Heap) (n0 : Nat) (Z0 : n0 ≤ h0.size) (O : Old Z n0 h0) (SA : Sta Z Z.heap "java/lang/StrictMath" "$assertionsDisabled" "Z" (.int 1)) (E : Exa Z h0 a "com/example/impatiens/impatiens/loadtool/Latencies") (F1 : Fld Z h0 a "com/example/impatiens/impatiens/loadtool/Latencies" "nanos" "[J" (.ref b)) (F2 : Fld Z h0 a "com/example/impatiens/impatiens/loadtool/Latencies" "count" "I" (.int 3)) (V : Arv Z h0 b kb .long (1024 : Int32) [(.long x0), (.long x1), (.long x2)] (.long 0)) : OMet l Z [] (⟨"com/example/impatiens/impatiens/loadtool/Latencies", "percentileMs", "(D)D"⟩ : MethodName) prog_21_method_4_code 5 (some .double) R55 #[(.ref a), (.double (4607182418800017408 : UInt64))] h0 n0 (Q55 Z a b kb x0 x1 x2 h0) := by
  refine OMet.of (own := "com/example/impatiens/impatiens/loadtool/Latencies") rfl (plainFor_of_name pn_0) (ef55 a) Z0 ?_
  intro p e s m below meth c T0 Y0 hnm
  refine Gl.aloadN Y0 rfl rfl dN_0 rfl ?_
  refine Gl.getF Y0 (host := "") (Or.inl (tw_17 hw)) Via.refl F2 dN_1 rfl (fun T1 Y1 => ?_)
  refine Gl.ifne Y1 dN_4 (by decide) rfl rfl (fun c4 => ?_) (fun c4 => ?_)
  rotate_left
  · exact absurd c4 (by decide)
  refine Gl.aloadN Y1 rfl rfl dN_11 rfl ?_
  refine Gl.getF Y1 (host := "") (Or.inl (tw_10 hw)) Via.refl F1 dN_12 rfl (fun T12 Y12 => ?_)
  refine Gl.aloadN Y12 rfl rfl dN_15 rfl ?_
  refine Gl.getF Y12 (host := "") (Or.inl (tw_17 hw)) Via.refl F2 dN_16 rfl (fun T16 Y16 => ?_)
  refine Gl.callS Y16 (tw_29 hw) (tw_30 hw) (tw_31 hw) (tw_32 hw) (by decide) (rm13 l Z a0 hw b kb x0 x1 x2 h0 n0 Y16.sz V) (argsL := [(.ref b), (.int 3)]) (rest := []) rfl rfl (lenOf pd_6 rfl) rfl (by decide) (nle rfl) (by decide) (by decide) dN_19 rfl (fun v19 T19 h19 Y19 q19 => ?_)
  obtain ⟨d19, kd19, rfl, K19, f19_0, f19_1⟩ := q19
  have Y19_sz : n0 ≤ h0.size := Y16.sz
  have KK19 : Keep h0 h19 [] := (Keep.refl h0 []).trans K19 all0
  have zd19 : h0.size ≤ d19 := Nat.le_trans (Keep.refl h0 []).1 f19_0
  show Gl p e below _ (T19.setTop (mkF m 22 _ [(.ref d19)]))
  refine Gl.astoreN Y19 rfl (L' := #[.val (.ref a), .val (.double (4607182418800017408 : UInt64)), .second, .val (.ref d19), .unset]) rfl dN_22 rfl ?_
  refine Gl.aloadN Y19 rfl rfl dN_23 rfl ?_
  refine Gl.callS Y19 (tw_41 hw) (tw_42 hw) (tw_31 hw) (tw_43 hw) (by decide) (rm29 l Z a0 hw d19 kd19 x0 x1 x2 h19 n0 Y19.sz f19_1 (Nat.le_trans Y19_sz f19_0)) (argsL := [(.ref d19)]) (rest := []) rfl rfl (lenOf pd_7 rfl) rfl (by decide) (nle rfl) (by decide) (by decide) dN_24 rfl (fun v24 T24 h24 Y24 q24 => ?_)
  obtain ⟨r024, r124, r224, rfl, p24, K24, f24_0⟩ := q24
  have KK24 : Keep h0 h24 [] := KK19.trans K24 (allS (Or.inr zd19) all0)
  show Gl p e below _ (T24.setTop (mkF m 27 _ []))
  refine Gl.dloadN Y24 rfl dN_27 rfl ?_
  refine Gl.aloadN Y24 rfl rfl dN_28 rfl ?_
  have f1 := ((F2.keep K19 nin0).keep K24 (ninS (Nat.ne_of_lt (Nat.lt_of_lt_of_le E.lt f19_0)) nin0))
  refine Gl.getF Y24 (host := "") (Or.inl (tw_17 hw)) Via.refl f1 dN_29 rfl (fun T29 Y29 => ?_)
  refine Gl.i2d Y29 (r := (4613937818241073152 : UInt64)) (by decide +kernel) dN_32 rfl ?_
  refine Gl.dmul Y29 (by unfold Jvm.Free.Fl.NoNaN64; decide +kernel) (r := (4613937818241073152 : UInt64)) (by decide +kernel) dN_33 rfl ?_
  have f2 := ((O.keep K19 all0).keep K24 (allS (Nat.le_trans Y19_sz f19_0) all0))
  refine Lw.ceil Y29 (tw_54 hw) (tw_55 hw) (tw_35 hw) (tw_56 hw) (tw_60 hw) (tw_59 hw) (plainFor_of_name pn_3) (rm47 Z a0 hw h24 n0 f2 SA) (by decide +kernel) (by decide) (by decide) (by decide) (by decide) rfl (by decide) dN_34 rfl (fun T34 Y34 => ?_)
  show Gl p e below _ (T34.setTop (mkF m 37 _ [(.double (4613937818241073152 : UInt64))]))
  refine Gl.d2i Y34 (r := (3 : Int32)) (by decide +kernel) dN_37 rfl ?_
  refine Gl.istore Y34 (L' := #[.val (.ref a), .val (.double (4607182418800017408 : UInt64)), .second, .val (.ref d19), .val (.int 3)]) rfl dN_38 rfl ?_
  refine Gl.aloadN Y34 rfl rfl dN_40 rfl ?_
  refine Gl.iload Y34 rfl dN_41 rfl ?_
  refine Gl.iconst Y34 (v := (1 : Int32)) (by decide) dN_43 rfl ?_
  refine Gl.callS Y34 (tw_74 hw) (tw_75 hw) (tw_35 hw) (tw_76 hw) (by decide) (rm17 l Z a0 hw h24 n0 Y34.sz) (argsL := [(.int 3), (.int 1)]) (rest := [(.ref d19)]) rfl rfl (lenOf pd_0 rfl) rfl (by decide) (nle rfl) (by decide) (by decide) dN_44 rfl (fun v44 T44 h44 Y44 q44 => ?_)
  obtain ⟨rfl, rfl⟩ := q44
  show Gl p e below _ (T44.setTop (mkF m 47 _ [(.int 3), (.ref d19)]))
  refine Gl.iconst Y44 (v := (1 : Int32)) (by decide) dN_47 rfl ?_
  refine Gl.isub Y44 (r := (2 : Int32)) (by decide) dN_48 rfl ?_
  refine Gl.laload Y44 f24_0 ⟨by decide, by decide⟩ (v := (.long r224)) rfl dN_49 rfl ?_
  refine Gl.l2d Y44 rfl dN_50 rfl ?_
  refine Gl.ldcD Y44 (tw_77 hw) dN_51 rfl ?_
  refine Gl.ddiv Y44 (own_nn r224) (r := dq r224) rfl dN_54 rfl ?_
  exact Gl.retD Y44 (by decide) (by decide)  dN_55 ⟨r024, r124, r224, rfl, p24, KK24⟩
def R56 : Room := { frames := 5, cells := 1, slots := 3, locals := 84 }
def Q56 (Z : State) (a b : Addr) (kb : ClassId) (x0 x1 x2 : Int64) (h0 : Heap) (v : Option Value) (h : Heap) : Prop := ∃ r0 : Int64, ∃ r1 : Int64, ∃ r2 : Int64, v = some (.double (dq r1)) ∧ (S3 x0 x1 x2 r0 r1 r2) ∧ Keep h0 h []
theorem ef56 (a : Addr) (m : MethodId) : entryFrame m #[(.ref a), (.double (4602678819172646912 : UInt64))] 5 = mkF m 0 #[.val (.ref a), .val (.double (4602678819172646912 : UInt64)), .second, .unset, .unset] [] := by first | (simp [entryFrame, mkF, argsToLocals, Value.category]; done) | rfl
theorem rm56 (hw : HW a0 Z) (a b : Addr) (kb : ClassId) (x0 x1 x2 : Int64) (h0 : Heap) (n0 : Nat) (Z0 : n0 ≤ h0.size) (O : Old Z n0 h0) (SA : Sta Z Z.heap "java/lang/StrictMath" "$assertionsDisabled" "Z" (.int 1)) (E : Exa Z h0 a "com/example/impatiens/impatiens/loadtool/Latencies") (F1 : Fld Z h0 a "com/example/impatiens/impatiens/loadtool/Latencies" "nanos" "[J" (.ref b)) (F2 : Fld Z h0 a "com/example/impatiens/impatiens/loadtool/Latencies" "count" "I" (.int 3)) (V : Arv Z h0 b kb .long (1024 : Int32) [(.long x0), (.long x1), (.long x2)] (.long 0)) : OMet l Z [] (⟨"com/example/impatiens/impatiens/loadtool/Latencies", "percentileMs", "(D)D"⟩ : MethodName) prog_21_method_4_code 5 (some .double) R56 #[(.ref a), (.double (4602678819172646912 : UInt64))] h0 n0 (Q56 Z a b kb x0 x1 x2 h0) := by
  refine OMet.of (own := "com/example/impatiens/impatiens/loadtool/Latencies") rfl (plainFor_of_name pn_0) (ef56 a) Z0 ?_
  intro p e s m below meth c T0 Y0 hnm
  refine Gl.aloadN Y0 rfl rfl dN_0 rfl ?_
  refine Gl.getF Y0 (host := "") (Or.inl (tw_17 hw)) Via.refl F2 dN_1 rfl (fun T1 Y1 => ?_)
  refine Gl.ifne Y1 dN_4 (by decide) rfl rfl (fun c4 => ?_) (fun c4 => ?_)
  rotate_left
  · exact absurd c4 (by decide)
  refine Gl.aloadN Y1 rfl rfl dN_11 rfl ?_
  refine Gl.getF Y1 (host := "") (Or.inl (tw_10 hw)) Via.refl F1 dN_12 rfl (fun T12 Y12 => ?_)
  refine Gl.aloadN Y12 rfl rfl dN_15 rfl ?_
  refine Gl.getF Y12 (host := "") (Or.inl (tw_17 hw)) Via.refl F2 dN_16 rfl (fun T16 Y16 => ?_)
  refine Gl.callS Y16 (tw_29 hw) (tw_30 hw) (tw_31 hw) (tw_32 hw) (by decide) (rm13 l Z a0 hw b kb x0 x1 x2 h0 n0 Y16.sz V) (argsL := [(.ref b), (.int 3)]) (rest := []) rfl rfl (lenOf pd_6 rfl) rfl (by decide) (nle rfl) (by decide) (by decide) dN_19 rfl (fun v19 T19 h19 Y19 q19 => ?_)
  obtain ⟨d19, kd19, rfl, K19, f19_0, f19_1⟩ := q19
  have Y19_sz : n0 ≤ h0.size := Y16.sz
  have KK19 : Keep h0 h19 [] := (Keep.refl h0 []).trans K19 all0
  have zd19 : h0.size ≤ d19 := Nat.le_trans (Keep.refl h0 []).1 f19_0
  show Gl p e below _ (T19.setTop (mkF m 22 _ [(.ref d19)]))
  refine Gl.astoreN Y19 rfl (L' := #[.val (.ref a), .val (.double (4602678819172646912 : UInt64)), .second, .val (.ref d19), .unset]) rfl dN_22 rfl ?_
  refine Gl.aloadN Y19 rfl rfl dN_23 rfl ?_
  refine Gl.callS Y19 (tw_41 hw) (tw_42 hw) (tw_31 hw) (tw_43 hw) (by decide) (rm29 l Z a0 hw d19 kd19 x0 x1 x2 h19 n0 Y19.sz f19_1 (Nat.le_trans Y19_sz f19_0)) (argsL := [(.ref d19)]) (rest := []) rfl rfl (lenOf pd_7 rfl) rfl (by decide) (nle rfl) (by decide) (by decide) dN_24 rfl (fun v24 T24 h24 Y24 q24 => ?_)
  obtain ⟨r024, r124, r224, rfl, p24, K24, f24_0⟩ := q24
  have KK24 : Keep h0 h24 [] := KK19.trans K24 (allS (Or.inr zd19) all0)
  show Gl p e below _ (T24.setTop (mkF m 27 _ []))
  refine Gl.dloadN Y24 rfl dN_27 rfl ?_
  refine Gl.aloadN Y24 rfl rfl dN_28 rfl ?_
  have f1 := ((F2.keep K19 nin0).keep K24 (ninS (Nat.ne_of_lt (Nat.lt_of_lt_of_le E.lt f19_0)) nin0))
  refine Gl.getF Y24 (host := "") (Or.inl (tw_17 hw)) Via.refl f1 dN_29 rfl (fun T29 Y29 => ?_)
  refine Gl.i2d Y29 (r := (4613937818241073152 : UInt64)) (by decide +kernel) dN_32 rfl ?_
  refine Gl.dmul Y29 (by unfold Jvm.Free.Fl.NoNaN64; decide +kernel) (r := (4609434218613702656 : UInt64)) (by decide +kernel) dN_33 rfl ?_
  have f2 := ((O.keep K19 all0).keep K24 (allS (Nat.le_trans Y19_sz f19_0) all0))
  refine Lw.ceil Y29 (tw_54 hw) (tw_55 hw) (tw_35 hw) (tw_56 hw) (tw_60 hw) (tw_59 hw) (plainFor_of_name pn_3) (rm41 Z a0 hw h24 n0 f2 SA) (by decide +kernel) (by decide) (by decide) (by decide) (by decide) rfl (by decide) dN_34 rfl (fun T34 Y34 => ?_)
  show Gl p e below _ (T34.setTop (mkF m 37 _ [(.double (4611686018427387904 : UInt64))]))
  refine Gl.d2i Y34 (r := (2 : Int32)) (by decide +kernel) dN_37 rfl ?_
  refine Gl.istore Y34 (L' := #[.val (.ref a), .val (.double (4602678819172646912 : UInt64)), .second, .val (.ref d19), .val (.int 2)]) rfl dN_38 rfl ?_
  refine Gl.aloadN Y34 rfl rfl dN_40 rfl ?_
  refine Gl.iload Y34 rfl dN_41 rfl ?_
  refine Gl.iconst Y34 (v := (1 : Int32)) (by decide) dN_43 rfl ?_
  refine Gl.callS Y34 (tw_74 hw) (tw_75 hw) (tw_35 hw) (tw_76 hw) (by decide) (rm16 l Z a0 hw h24 n0 Y34.sz) (argsL := [(.int 2), (.int 1)]) (rest := [(.ref d19)]) rfl rfl (lenOf pd_0 rfl) rfl (by decide) (nle rfl) (by decide) (by decide) dN_44 rfl (fun v44 T44 h44 Y44 q44 => ?_)
  obtain ⟨rfl, rfl⟩ := q44
  show Gl p e below _ (T44.setTop (mkF m 47 _ [(.int 2), (.ref d19)]))
  refine Gl.iconst Y44 (v := (1 : Int32)) (by decide) dN_47 rfl ?_
  refine Gl.isub Y44 (r := (1 : Int32)) (by decide) dN_48 rfl ?_
  refine Gl.laload Y44 f24_0 ⟨by decide, by decide⟩ (v := (.long r124)) rfl dN_49 rfl ?_
  refine Gl.l2d Y44 rfl dN_50 rfl ?_
  refine Gl.ldcD Y44 (tw_77 hw) dN_51 rfl ?_
  refine Gl.ddiv Y44 (own_nn r124) (r := dq r124) rfl dN_54 rfl ?_
  exact Gl.retD Y44 (by decide) (by decide)  dN_55 ⟨r024, r124, r224, rfl, p24, KK24⟩
theorem dO_0 : decode jdk_29_method_70_code 0 = .ok (.lload_n 0, 1) := by decide +kernel
theorem dO_1 : decode jdk_29_method_70_code 1 = .ok (.lload_n 2, 1) := by decide +kernel
theorem dO_2 : decode jdk_29_method_70_code 2 = .ok (.lcmp, 1) := by decide +kernel
theorem dO_3 : decode jdk_29_method_70_code 3 = .ok (.ifCond .gt 7, 3) := by decide +kernel
theorem dO_10 : decode jdk_29_method_70_code 10 = .ok (.lload_n 2, 1) := by decide +kernel
theorem dO_11 : decode jdk_29_method_70_code 11 = .ok (.lreturn, 1) := by decide +kernel
theorem dO_6 : decode jdk_29_method_70_code 6 = .ok (.lload_n 0, 1) := by decide +kernel
theorem dO_7 : decode jdk_29_method_70_code 7 = .ok (.goto 4, 3) := by decide +kernel
def R57 : Room := { frames := 0, cells := 0, slots := 0, locals := 0 }
def Q57 (Z : State) (u y : Int64) (h0 : Heap) (v : Option Value) (h : Heap) : Prop := ∃ r : Int64, v = some (.long r) ∧ (Mn u y r) ∧ h0 = h
theorem ef57 (u y : Int64) (m : MethodId) : entryFrame m #[(.long u), (.long y)] 4 = mkF m 0 #[.val (.long u), .second, .val (.long y), .second] [] := by first | (simp [entryFrame, mkF, argsToLocals, Value.category]; done) | rfl
theorem rm57 (hw : HW a0 Z) (u y : Int64) (h0 : Heap) (n0 : Nat) (Z0 : n0 ≤ h0.size) : OMet l Z [] (⟨"java/lang/Math", "min", "(JJ)J"⟩ : MethodName) jdk_29_method_70_code 4 (some .long) R57 #[(.long u), (.long y)] h0 n0 (Q57 Z u y h0) := by
  refine OMet.of (own := "java/lang/Math") rfl (Jvm.Free.JP.mathPlain rfl (by decide +kernel)) (ef57 u y) Z0 ?_
  intro p e s m below meth c T0 Y0 hnm
  have nu := rng64 u
  have ny := rng64 y
  refine Gl.lloadN Y0 rfl dO_0 rfl ?_
  refine Gl.lloadN Y0 rfl dO_1 rfl ?_
  refine Gl.lcmpgt Y0 dO_2 rfl dO_3 (by decide) rfl rfl (fun c3 => ?_) (fun c3 => ?_)
  · have j3 : y.toInt < u.toInt := Int64.lt_iff_toInt_lt.mp c3
    refine Gl.lloadN Y0 rfl dO_10 rfl ?_
    exact Gl.retJ Y0 (by decide) (by decide)  dO_11 ⟨y, rfl, (by unfold Mn; omega), rfl⟩
  · have j3 : ¬ (y.toInt < u.toInt) := fun q => c3 (Int64.lt_iff_toInt_lt.mpr q)
    refine Gl.lloadN Y0 rfl dO_6 rfl ?_
    refine Gl.goto Y0 dO_7 (by decide) rfl ?_
    exact Gl.retJ Y0 (by decide) (by decide)  dO_11 ⟨u, rfl, (by unfold Mn; omega), rfl⟩
theorem dP_0 : decode jdk_29_method_66_code 0 = .ok (.lload_n 0, 1) := by decide +kernel
theorem dP_1 : decode jdk_29_method_66_code 1 = .ok (.lload_n 2, 1) := by decide +kernel
theorem dP_2 : decode jdk_29_method_66_code 2 = .ok (.lcmp, 1) := by decide +kernel
theorem dP_3 : decode jdk_29_method_66_code 3 = .ok (.ifCond .lt 7, 3) := by decide +kernel
theorem dP_10 : decode jdk_29_method_66_code 10 = .ok (.lload_n 2, 1) := by decide +kernel
theorem dP_11 : decode jdk_29_method_66_code 11 = .ok (.lreturn, 1) := by decide +kernel
theorem dP_6 : decode jdk_29_method_66_code 6 = .ok (.lload_n 0, 1) := by decide +kernel
theorem dP_7 : decode jdk_29_method_66_code 7 = .ok (.goto 4, 3) := by decide +kernel
def R58 : Room := { frames := 0, cells := 0, slots := 0, locals := 0 }
def Q58 (Z : State) (u y : Int64) (h0 : Heap) (v : Option Value) (h : Heap) : Prop := ∃ r : Int64, v = some (.long r) ∧ (Mx u y r) ∧ h0 = h
theorem ef58 (u y : Int64) (m : MethodId) : entryFrame m #[(.long u), (.long y)] 4 = mkF m 0 #[.val (.long u), .second, .val (.long y), .second] [] := by first | (simp [entryFrame, mkF, argsToLocals, Value.category]; done) | rfl
theorem rm58 (hw : HW a0 Z) (u y : Int64) (h0 : Heap) (n0 : Nat) (Z0 : n0 ≤ h0.size) : OMet l Z [] (⟨"java/lang/Math", "max", "(JJ)J"⟩ : MethodName) jdk_29_method_66_code 4 (some .long) R58 #[(.long u), (.long y)] h0 n0 (Q58 Z u y h0) := by
  refine OMet.of (own := "java/lang/Math") rfl (Jvm.Free.JP.mathPlain rfl (by decide +kernel)) (ef58 u y) Z0 ?_
  intro p e s m below meth c T0 Y0 hnm
  have nu := rng64 u
  have ny := rng64 y
  refine Gl.lloadN Y0 rfl dP_0 rfl ?_
  refine Gl.lloadN Y0 rfl dP_1 rfl ?_
  refine Gl.lcmplt Y0 dP_2 rfl dP_3 (by decide) rfl rfl (fun c3 => ?_) (fun c3 => ?_)
  · have j3 : u.toInt < y.toInt := Int64.lt_iff_toInt_lt.mp c3
    refine Gl.lloadN Y0 rfl dP_10 rfl ?_
    exact Gl.retJ Y0 (by decide) (by decide)  dP_11 ⟨y, rfl, (by unfold Mx; omega), rfl⟩
  · have j3 : ¬ (u.toInt < y.toInt) := fun q => c3 (Int64.lt_iff_toInt_lt.mpr q)
    refine Gl.lloadN Y0 rfl dP_6 rfl ?_
    refine Gl.goto Y0 dP_7 (by decide) rfl ?_
    exact Gl.retJ Y0 (by decide) (by decide)  dP_11 ⟨u, rfl, (by unfold Mx; omega), rfl⟩
theorem tw_0 {a0 : Array Value} {Z : State} (hw : HW a0 Z) : (Jvm.Cond.classLink "com/example/impatiens/impatiens/loadtool/LatenciesAddPinLaw" (7 : Nat) "com/example/impatiens/impatiens/loadtool/Latencies").before a0 Z = true := hw _ (List.mem_of_getElem? (i := 0) rfl)
theorem tw_2 {a0 : Array Value} {Z : State} (hw : HW a0 Z) : (Jvm.Cond.initialized "com/example/impatiens/impatiens/loadtool/Latencies").before a0 Z = true := hw _ (List.mem_of_getElem? (i := 2) rfl)
theorem tw_3 {a0 : Array Value} {Z : State} (hw : HW a0 Z) : (Jvm.Cond.methodLink "com/example/impatiens/impatiens/loadtool/LatenciesAddPinLaw" (9 : Nat) ({ cls := "com/example/impatiens/impatiens/loadtool/Latencies", name := "<init>", desc := "()V" } : Jvm.MethodName)).before a0 Z = true := hw _ (List.mem_of_getElem? (i := 3) rfl)
theorem pd_8 : parseMethodDescriptor "()V" = some ⟨[], none⟩ := by decide +kernel
theorem tw_5 {a0 : Array Value} {Z : State} (hw : HW a0 Z) : (Jvm.Cond.code ({ cls := "com/example/impatiens/impatiens/loadtool/Latencies", name := "<init>", desc := "()V" } : Jvm.MethodName) prog_21_method_1_code (1 : Nat) (Option.none : Option Jvm.ClassFile.FieldType)).before a0 Z = true := hw _ (List.mem_of_getElem? (i := 5) rfl)
theorem tw_4 {a0 : Array Value} {Z : State} (hw : HW a0 Z) : (Jvm.Cond.instanceMethod ({ cls := "com/example/impatiens/impatiens/loadtool/Latencies", name := "<init>", desc := "()V" } : Jvm.MethodName)).before a0 Z = true := hw _ (List.mem_of_getElem? (i := 4) rfl)
theorem tw_12 {a0 : Array Value} {Z : State} (hw : HW a0 Z) : (Jvm.Cond.methodLink "com/example/impatiens/impatiens/loadtool/LatenciesAddPinLaw" (14 : Nat) ({ cls := "com/example/impatiens/impatiens/loadtool/Latencies", name := "count", desc := "()I" } : Jvm.MethodName)).before a0 Z = true := hw _ (List.mem_of_getElem? (i := 12) rfl)
theorem pd_9 : parseMethodDescriptor "()I" = some ⟨[], some .int⟩ := by decide +kernel
theorem tw_16 {a0 : Array Value} {Z : State} (hw : HW a0 Z) : (Jvm.Cond.code ({ cls := "com/example/impatiens/impatiens/loadtool/Latencies", name := "count", desc := "()I" } : Jvm.MethodName) prog_21_method_3_code (1 : Nat) (Option.some Jvm.ClassFile.FieldType.int)).before a0 Z = true := hw _ (List.mem_of_getElem? (i := 16) rfl)
theorem tw_13 {a0 : Array Value} {Z : State} (hw : HW a0 Z) : (Jvm.Cond.declares ({ cls := "com/example/impatiens/impatiens/loadtool/Latencies", name := "count", desc := "()I" } : Jvm.MethodName)).before a0 Z = true := hw _ (List.mem_of_getElem? (i := 13) rfl)
theorem tw_15 {a0 : Array Value} {Z : State} (hw : HW a0 Z) : (Jvm.Cond.selects "com/example/impatiens/impatiens/loadtool/Latencies" ({ cls := "com/example/impatiens/impatiens/loadtool/Latencies", name := "count", desc := "()I" } : Jvm.MethodName) ({ cls := "com/example/impatiens/impatiens/loadtool/Latencies", name := "count", desc := "()I" } : Jvm.MethodName)).before a0 Z = true := hw _ (List.mem_of_getElem? (i := 15) rfl)
theorem tw_14 {a0 : Array Value} {Z : State} (hw : HW a0 Z) : (Jvm.Cond.instanceMethod ({ cls := "com/example/impatiens/impatiens/loadtool/Latencies", name := "count", desc := "()I" } : Jvm.MethodName)).before a0 Z = true := hw _ (List.mem_of_getElem? (i := 14) rfl)
theorem tw_19 {a0 : Array Value} {Z : State} (hw : HW a0 Z) : (Jvm.Cond.methodLink "com/example/impatiens/impatiens/loadtool/LatenciesAddPinLaw" (10 : Nat) ({ cls := "com/example/impatiens/impatiens/loadtool/Latencies", name := "add", desc := "(J)V" } : Jvm.MethodName)).before a0 Z = true := hw _ (List.mem_of_getElem? (i := 19) rfl)
theorem pd_10 : parseMethodDescriptor "(J)V" = some ⟨[.long], none⟩ := by decide +kernel
theorem tw_23 {a0 : Array Value} {Z : State} (hw : HW a0 Z) : (Jvm.Cond.code ({ cls := "com/example/impatiens/impatiens/loadtool/Latencies", name := "add", desc := "(J)V" } : Jvm.MethodName) prog_21_method_2_code (3 : Nat) (Option.none : Option Jvm.ClassFile.FieldType)).before a0 Z = true := hw _ (List.mem_of_getElem? (i := 23) rfl)
theorem tw_20 {a0 : Array Value} {Z : State} (hw : HW a0 Z) : (Jvm.Cond.declares ({ cls := "com/example/impatiens/impatiens/loadtool/Latencies", name := "add", desc := "(J)V" } : Jvm.MethodName)).before a0 Z = true := hw _ (List.mem_of_getElem? (i := 20) rfl)
theorem tw_22 {a0 : Array Value} {Z : State} (hw : HW a0 Z) : (Jvm.Cond.selects "com/example/impatiens/impatiens/loadtool/Latencies" ({ cls := "com/example/impatiens/impatiens/loadtool/Latencies", name := "add", desc := "(J)V" } : Jvm.MethodName) ({ cls := "com/example/impatiens/impatiens/loadtool/Latencies", name := "add", desc := "(J)V" } : Jvm.MethodName)).before a0 Z = true := hw _ (List.mem_of_getElem? (i := 22) rfl)
theorem tw_21 {a0 : Array Value} {Z : State} (hw : HW a0 Z) : (Jvm.Cond.instanceMethod ({ cls := "com/example/impatiens/impatiens/loadtool/Latencies", name := "add", desc := "(J)V" } : Jvm.MethodName)).before a0 Z = true := hw _ (List.mem_of_getElem? (i := 21) rfl)
theorem tw_24 {a0 : Array Value} {Z : State} (hw : HW a0 Z) : (Jvm.Cond.methodLink "com/example/impatiens/impatiens/loadtool/LatenciesAddPinLaw" (18 : Nat) ({ cls := "com/example/impatiens/impatiens/loadtool/Latencies", name := "percentileMs", desc := "(D)D" } : Jvm.MethodName)).before a0 Z = true := hw _ (List.mem_of_getElem? (i := 24) rfl)
theorem pd_11 : parseMethodDescriptor "(D)D" = some ⟨[.double], some .double⟩ := by decide +kernel
theorem tw_28 {a0 : Array Value} {Z : State} (hw : HW a0 Z) : (Jvm.Cond.code ({ cls := "com/example/impatiens/impatiens/loadtool/Latencies", name := "percentileMs", desc := "(D)D" } : Jvm.MethodName) prog_21_method_4_code (5 : Nat) (Option.some Jvm.ClassFile.FieldType.double)).before a0 Z = true := hw _ (List.mem_of_getElem? (i := 28) rfl)
theorem tw_25 {a0 : Array Value} {Z : State} (hw : HW a0 Z) : (Jvm.Cond.declares ({ cls := "com/example/impatiens/impatiens/loadtool/Latencies", name := "percentileMs", desc := "(D)D" } : Jvm.MethodName)).before a0 Z = true := hw _ (List.mem_of_getElem? (i := 25) rfl)
theorem tw_27 {a0 : Array Value} {Z : State} (hw : HW a0 Z) : (Jvm.Cond.selects "com/example/impatiens/impatiens/loadtool/Latencies" ({ cls := "com/example/impatiens/impatiens/loadtool/Latencies", name := "percentileMs", desc := "(D)D" } : Jvm.MethodName) ({ cls := "com/example/impatiens/impatiens/loadtool/Latencies", name := "percentileMs", desc := "(D)D" } : Jvm.MethodName)).before a0 Z = true := hw _ (List.mem_of_getElem? (i := 27) rfl)
theorem tw_26 {a0 : Array Value} {Z : State} (hw : HW a0 Z) : (Jvm.Cond.instanceMethod ({ cls := "com/example/impatiens/impatiens/loadtool/Latencies", name := "percentileMs", desc := "(D)D" } : Jvm.MethodName)).before a0 Z = true := hw _ (List.mem_of_getElem? (i := 26) rfl)
theorem tw_81 {a0 : Array Value} {Z : State} (hw : HW a0 Z) : (Jvm.Cond.constantDouble "com/example/impatiens/impatiens/loadtool/LatenciesAddPinLaw" (22 : Nat) (4602678819172646912 : UInt64)).before a0 Z = true := hw _ (List.mem_of_getElem? (i := 81) rfl)
theorem tw_92 {a0 : Array Value} {Z : State} (hw : HW a0 Z) : (Jvm.Cond.constantDouble "com/example/impatiens/impatiens/loadtool/LatenciesAddPinLaw" (33 : Nat) (4696837146684686336 : UInt64)).before a0 Z = true := hw _ (List.mem_of_getElem? (i := 92) rfl)
theorem tw_86 {a0 : Array Value} {Z : State} (hw : HW a0 Z) : (Jvm.Cond.methodLink "com/example/impatiens/impatiens/loadtool/LatenciesAddPinLaw" (24 : Nat) ({ cls := "java/lang/Math", name := "min", desc := "(JJ)J" } : Jvm.MethodName)).before a0 Z = true := hw _ (List.mem_of_getElem? (i := 86) rfl)
theorem pd_12 : parseMethodDescriptor "(JJ)J" = some ⟨[.long, .long], some .long⟩ := by decide +kernel
theorem tw_88 {a0 : Array Value} {Z : State} (hw : HW a0 Z) : (Jvm.Cond.code ({ cls := "java/lang/Math", name := "min", desc := "(JJ)J" } : Jvm.MethodName) jdk_29_method_70_code (4 : Nat) (Option.some Jvm.ClassFile.FieldType.long)).before a0 Z = true := hw _ (List.mem_of_getElem? (i := 88) rfl)
theorem tw_87 {a0 : Array Value} {Z : State} (hw : HW a0 Z) : (Jvm.Cond.static ({ cls := "java/lang/Math", name := "min", desc := "(JJ)J" } : Jvm.MethodName)).before a0 Z = true := hw _ (List.mem_of_getElem? (i := 87) rfl)
theorem tw_89 {a0 : Array Value} {Z : State} (hw : HW a0 Z) : (Jvm.Cond.methodLink "com/example/impatiens/impatiens/loadtool/LatenciesAddPinLaw" (30 : Nat) ({ cls := "java/lang/Math", name := "max", desc := "(JJ)J" } : Jvm.MethodName)).before a0 Z = true := hw _ (List.mem_of_getElem? (i := 89) rfl)
theorem tw_91 {a0 : Array Value} {Z : State} (hw : HW a0 Z) : (Jvm.Cond.code ({ cls := "java/lang/Math", name := "max", desc := "(JJ)J" } : Jvm.MethodName) jdk_29_method_66_code (4 : Nat) (Option.some Jvm.ClassFile.FieldType.long)).before a0 Z = true := hw _ (List.mem_of_getElem? (i := 91) rfl)
theorem tw_90 {a0 : Array Value} {Z : State} (hw : HW a0 Z) : (Jvm.Cond.static ({ cls := "java/lang/Math", name := "max", desc := "(JJ)J" } : Jvm.MethodName)).before a0 Z = true := hw _ (List.mem_of_getElem? (i := 90) rfl)
def QL (Z : State) (kk : Int32) (aa bb cc : Int64) (h0 : Heap) (v : Option Value) (h : Heap) : Prop := v = some (.int 1)
theorem efL (kk : Int32) (aa bb cc : Int64) (m : MethodId) : entryFrame m #[(.int kk), (.long aa), (.long bb), (.long cc)] maxLocals = mkF m 0 #[.val (.int kk), .val (.long aa), .second, .val (.long bb), .second, .val (.long cc), .second, .unset, .unset, .unset, .unset, .unset, .unset, .unset, .unset, .unset, .unset, .unset, .unset, .unset, .unset] [] := by first | (simp [entryFrame, mkF, argsToLocals, Value.category, maxLocals]; done) | rfl
theorem pn_4 : plainName "com/example/impatiens/impatiens/loadtool/LatenciesAddPinLaw" = true := by first | (simp [plainName, overriddenIn]; done) | decide +kernel
theorem rmL (hw : HW a0 Z) (ws : List Jvm.Cond) (kk : Int32) (aa bb cc : Int64) (h0 : Heap) (n0 : Nat) (Z0 : n0 ≤ h0.size) (O : Old Z n0 h0) (SA : Sta Z Z.heap "java/lang/StrictMath" "$assertionsDisabled" "Z" (.int 1)) : OMet l Z ws x code maxLocals ret room_1 #[(.int kk), (.long aa), (.long bb), (.long cc)] h0 n0 (QL Z kk aa bb cc h0) := by
  refine OMet.of (own := "com/example/impatiens/impatiens/loadtool/LatenciesAddPinLaw") rfl (plainFor_of_name pn_4) (efL kk aa bb cc) Z0 ?_
  intro p e s m below meth c T0 Y0 hnm
  refine Gl.iloadN Y0 rfl at_0 rfl ?_
  refine Gl.iconst Y0 (v := (3 : Int32)) (by decide) at_1 rfl ?_
  obtain ⟨v2, hv2⟩ : ∃ z : Int32, kk &&& (3 : Int32) = z := ⟨_, rfl⟩
  refine Gl.iand Y0 hv2 at_2 rfl ?_
  refine Gl.istore Y0 (L' := #[.val (.int kk), .val (.long aa), .second, .val (.long bb), .second, .val (.long cc), .second, .val (.int v2), .unset, .unset, .unset, .unset, .unset, .unset, .unset, .unset, .unset, .unset, .unset, .unset, .unset]) rfl at_3 rfl ?_
  have cs_v2 : v2 = (0 : Int32) ∨ v2 = (1 : Int32) ∨ v2 = (2 : Int32) ∨ v2 = (3 : Int32) := own_k3 hv2
  rcases cs_v2 with rfl | rfl | rfl | rfl
  · refine Gl.newO Y0 (tw_0 hw) (tw_1 hw) (tw_2 hw) (by decide) (by decide) at_5 rfl (fun T5 h5 b5 Y5 E5 g5 sb5 X5 D5 => ?_)
    have f1 : Fld Z h5 b5 "com/example/impatiens/impatiens/loadtool/Latencies" "nanos" "[J" .null := D5 (Or.inl (tw_11 hw)) (ty := (.array .long)) (by decide)
    have f2 : Fld Z h5 b5 "com/example/impatiens/impatiens/loadtool/Latencies" "count" "I" (.int 0) := D5 (Or.inl (tw_18 hw)) (ty := .int) (by decide)
    show Gl p e below _ (T5.setTop (mkF m 8 _ [(.ref b5)]))
    refine Gl.dup Y5 rfl at_8 rfl ?_
    refine Gl.callN Y5 rfl (tw_3 hw) (tw_4 hw) (tw_2 hw) (tw_5 hw) (by decide) (rm0 l Z a0 hw b5 h5 n0 Y5.sz X5 f1 f2 sb5) (a := b5) (argsL := []) (rest := [(.ref b5)]) rfl rfl (lenOf pd_8 rfl) rfl (by decide) (nle rfl) (by decide) (by decide) at_9 rfl (fun v9 T9 h9 Y9 q9 => ?_)
    obtain ⟨b9, kb9, rfl, K9, f9_0, f9_1, f9_2, f9_3, f9_4⟩ := q9
    have Y9_sz : n0 ≤ h5.size := Y5.sz
    show Gl p e below _ (T9.setTop (mkF m 12 _ [(.ref b5)]))
    refine Gl.astore Y9 rfl (L' := #[.val (.int kk), .val (.long aa), .second, .val (.long bb), .second, .val (.long cc), .second, .val (.int 0), .val (.ref b5), .unset, .unset, .unset, .unset, .unset, .unset, .unset, .unset, .unset, .unset, .unset, .unset]) rfl at_12 rfl ?_
    refine Gl.iload Y9 rfl at_14 rfl ?_
    refine Gl.iconst Y9 (v := (1 : Int32)) (by decide) at_16 rfl ?_
    refine Gl.icmplt Y9 at_17 (by decide) rfl rfl (fun c17 => ?_) (fun c17 => ?_)
    rotate_left
    · exact absurd c17 (by decide)
    refine Gl.iload Y9 rfl at_26 rfl ?_
    refine Gl.iconst Y9 (v := (2 : Int32)) (by decide) at_28 rfl ?_
    refine Gl.icmplt Y9 at_29 (by decide) rfl rfl (fun c29 => ?_) (fun c29 => ?_)
    rotate_left
    · exact absurd c29 (by decide)
    refine Gl.iload Y9 rfl at_38 rfl ?_
    refine Gl.iconst Y9 (v := (3 : Int32)) (by decide) at_40 rfl ?_
    refine Gl.icmplt Y9 at_41 (by decide) rfl rfl (fun c41 => ?_) (fun c41 => ?_)
    rotate_left
    · exact absurd c41 (by decide)
    refine Gl.aload Y9 rfl rfl at_51 rfl ?_
    refine Gl.callV Y9 (tw_12 hw) (tw_13 hw) (tw_15 hw) (tw_15 hw) (tw_14 hw) (tw_2 hw) (tw_16 hw) (by decide) f9_1 (rm4 l Z a0 hw b5 h9 n0 Y9.sz f9_3) (a := b5) (argsL := []) (rest := []) rfl rfl (lenOf pd_9 rfl) rfl (by decide) (nle rfl) (by decide) (by decide) at_53 rfl (fun v53 T53 h53 Y53 q53 => ?_)
    obtain ⟨rfl, rfl⟩ := q53
    show Gl p e below _ (T53.setTop (mkF m 56 _ [(.int 0)]))
    refine Gl.iload Y53 rfl at_56 rfl ?_
    refine Gl.icmpeq Y53 at_58 (by decide) rfl rfl (fun c58 => ?_) (fun c58 => ?_)
    rotate_left
    · exact absurd c58 (by decide)
    refine Gl.iload Y53 rfl at_63 rfl ?_
    refine Gl.ifne Y53 at_65 (by decide) rfl rfl (fun c65 => ?_) (fun c65 => ?_)
    · exact absurd c65 (by decide)
    refine Gl.iconst Y53 (v := (1 : Int32)) (by decide) at_68 rfl ?_
    exact Gl.retZ Y53 (by decide) (by decide) (x' := (1 : Int32)) (by decide) at_69 rfl
  · refine Gl.newO Y0 (tw_0 hw) (tw_1 hw) (tw_2 hw) (by decide) (by decide) at_5 rfl (fun T5 h5 b5 Y5 E5 g5 sb5 X5 D5 => ?_)
    have f3 : Fld Z h5 b5 "com/example/impatiens/impatiens/loadtool/Latencies" "nanos" "[J" .null := D5 (Or.inl (tw_11 hw)) (ty := (.array .long)) (by decide)
    have f4 : Fld Z h5 b5 "com/example/impatiens/impatiens/loadtool/Latencies" "count" "I" (.int 0) := D5 (Or.inl (tw_18 hw)) (ty := .int) (by decide)
    show Gl p e below _ (T5.setTop (mkF m 8 _ [(.ref b5)]))
    refine Gl.dup Y5 rfl at_8 rfl ?_
    refine Gl.callN Y5 rfl (tw_3 hw) (tw_4 hw) (tw_2 hw) (tw_5 hw) (by decide) (rm0 l Z a0 hw b5 h5 n0 Y5.sz X5 f3 f4 sb5) (a := b5) (argsL := []) (rest := [(.ref b5)]) rfl rfl (lenOf pd_8 rfl) rfl (by decide) (nle rfl) (by decide) (by decide) at_9 rfl (fun v9 T9 h9 Y9 q9 => ?_)
    obtain ⟨b9, kb9, rfl, K9, f9_0, f9_1, f9_2, f9_3, f9_4⟩ := q9
    have Y9_sz : n0 ≤ h5.size := Y5.sz
    show Gl p e below _ (T9.setTop (mkF m 12 _ [(.ref b5)]))
    refine Gl.astore Y9 rfl (L' := #[.val (.int kk), .val (.long aa), .second, .val (.long bb), .second, .val (.long cc), .second, .val (.int 1), .val (.ref b5), .unset, .unset, .unset, .unset, .unset, .unset, .unset, .unset, .unset, .unset, .unset, .unset]) rfl at_12 rfl ?_
    refine Gl.iload Y9 rfl at_14 rfl ?_
    refine Gl.iconst Y9 (v := (1 : Int32)) (by decide) at_16 rfl ?_
    refine Gl.icmplt Y9 at_17 (by decide) rfl rfl (fun c17 => ?_) (fun c17 => ?_)
    · exact absurd c17 (by decide)
    refine Gl.aload Y9 rfl rfl at_20 rfl ?_
    refine Gl.lloadN Y9 rfl at_22 rfl ?_
    refine Gl.callV Y9 (tw_19 hw) (tw_20 hw) (tw_22 hw) (tw_22 hw) (tw_21 hw) (tw_2 hw) (tw_23 hw) (by decide) f9_1 (rm1 l Z a0 hw b5 b9 kb9 aa (0 : Int64) (0 : Int64) (0 : Int64) h9 n0 Y9.sz f9_1 f9_2 f9_3 f9_4 sb5 (Nat.le_trans Y9_sz f9_0) (Nat.ne_of_lt (Nat.lt_of_lt_of_le X5.lt f9_0))) (a := b5) (argsL := [(.long aa)]) (rest := []) rfl rfl (lenOf pd_10 rfl) rfl (by decide) (nle rfl) (by decide) (by decide) at_23 rfl (fun v23 T23 h23 Y23 q23 => ?_)
    obtain ⟨rfl, K23, f23_0, f23_1, f23_2, f23_3⟩ := q23
    show Gl p e below _ (T23.setTop (mkF m 26 _ []))
    refine Gl.iload Y23 rfl at_26 rfl ?_
    refine Gl.iconst Y23 (v := (2 : Int32)) (by decide) at_28 rfl ?_
    refine Gl.icmplt Y23 at_29 (by decide) rfl rfl (fun c29 => ?_) (fun c29 => ?_)
    rotate_left
    · exact absurd c29 (by decide)
    refine Gl.iload Y23 rfl at_38 rfl ?_
    refine Gl.iconst Y23 (v := (3 : Int32)) (by decide) at_40 rfl ?_
    refine Gl.icmplt Y23 at_41 (by decide) rfl rfl (fun c41 => ?_) (fun c41 => ?_)
    rotate_left
    · exact absurd c41 (by decide)
    refine Gl.aload Y23 rfl rfl at_51 rfl ?_
    refine Gl.callV Y23 (tw_12 hw) (tw_13 hw) (tw_15 hw) (tw_15 hw) (tw_14 hw) (tw_2 hw) (tw_16 hw) (by decide) f23_0 (rm5 l Z a0 hw b5 h23 n0 Y23.sz f23_2) (a := b5) (argsL := []) (rest := []) rfl rfl (lenOf pd_9 rfl) rfl (by decide) (nle rfl) (by decide) (by decide) at_53 rfl (fun v53 T53 h53 Y53 q53 => ?_)
    obtain ⟨rfl, rfl⟩ := q53
    show Gl p e below _ (T53.setTop (mkF m 56 _ [(.int 1)]))
    refine Gl.iload Y53 rfl at_56 rfl ?_
    refine Gl.icmpeq Y53 at_58 (by decide) rfl rfl (fun c58 => ?_) (fun c58 => ?_)
    rotate_left
    · exact absurd c58 (by decide)
    refine Gl.iload Y53 rfl at_63 rfl ?_
    refine Gl.ifne Y53 at_65 (by decide) rfl rfl (fun c65 => ?_) (fun c65 => ?_)
    rotate_left
    · exact absurd c65 (by decide)
    refine Gl.aload Y53 rfl rfl at_70 rfl ?_
    refine Gl.dconst0 Y53 at_72 rfl ?_
    show Gl p e below _ (T53.setTop (mkF m 73 _ [(.double (0 : UInt64)), (.ref b5)]))
    have f5 := (((O.ext E5).keep K9 (allS sb5 all0)).keep K23 (allS sb5 (allS (Nat.le_trans Y9_sz f9_0) all0)))
    refine Gl.callV Y53 (tw_24 hw) (tw_25 hw) (tw_27 hw) (tw_27 hw) (tw_26 hw) (tw_2 hw) (tw_28 hw) (by decide) f23_0 (rm48 l Z a0 hw b5 b9 kb9 aa (0 : Int64) (0 : Int64) h23 n0 Y53.sz f5 SA f23_0 f23_1 f23_2 f23_3) (a := b5) (argsL := [(.double (0 : UInt64))]) (rest := []) rfl rfl (lenOf pd_11 rfl) rfl (by decide) (nle rfl) (by decide) (by decide) at_73 rfl (fun v73 T73 h73 Y73 q73 => ?_)
    obtain ⟨r073, rfl, p73, K73⟩ := q73
    show Gl p e below _ (T73.setTop (mkF m 76 _ [(.double (dq r073))]))
    refine Gl.dstore Y73 (L' := #[.val (.int kk), .val (.long aa), .second, .val (.long bb), .second, .val (.long cc), .second, .val (.int 1), .val (.ref b5), .val (.double (dq r073)), .second, .unset, .unset, .unset, .unset, .unset, .unset, .unset, .unset, .unset, .unset]) rfl at_76 rfl ?_
    refine Gl.aload Y73 rfl rfl at_78 rfl ?_
    refine Gl.dconst1 Y73 at_80 rfl ?_
    show Gl p e below _ (T73.setTop (mkF m 81 _ [(.double (4607182418800017408 : UInt64)), (.ref b5)]))
    have f6 := (f5.keep K73 all0)
    have f7 := (f23_0.keep K73)
    have f8 := (f23_1.keep K73 nin0)
    have f9 := (f23_2.keep K73 nin0)
    have f10 := (f23_3.keep K73 nin0)
    refine Gl.callV Y73 (tw_24 hw) (tw_25 hw) (tw_27 hw) (tw_27 hw) (tw_26 hw) (tw_2 hw) (tw_28 hw) (by decide) f7 (rm49 l Z a0 hw b5 b9 kb9 aa (0 : Int64) (0 : Int64) h73 n0 Y73.sz f6 SA f7 f8 f9 f10) (a := b5) (argsL := [(.double (4607182418800017408 : UInt64))]) (rest := []) rfl rfl (lenOf pd_11 rfl) rfl (by decide) (nle rfl) (by decide) (by decide) at_81 rfl (fun v81 T81 h81 Y81 q81 => ?_)
    obtain ⟨r081, rfl, p81, K81⟩ := q81
    show Gl p e below _ (T81.setTop (mkF m 84 _ [(.double (dq r081))]))
    refine Gl.dstore Y81 (L' := #[.val (.int kk), .val (.long aa), .second, .val (.long bb), .second, .val (.long cc), .second, .val (.int 1), .val (.ref b5), .val (.double (dq r073)), .second, .val (.double (dq r081)), .second, .unset, .unset, .unset, .unset, .unset, .unset, .unset, .unset]) rfl at_84 rfl ?_
    refine Gl.aload Y81 rfl rfl at_86 rfl ?_
    refine Gl.ldcD Y81 (tw_81 hw) at_88 rfl ?_
    have f11 := (f6.keep K81 all0)
    have f12 := (f7.keep K81)
    have f13 := (f8.keep K81 nin0)
    have f14 := (f9.keep K81 nin0)
    have f15 := (f10.keep K81 nin0)
    refine Gl.callV Y81 (tw_24 hw) (tw_25 hw) (tw_27 hw) (tw_27 hw) (tw_26 hw) (tw_2 hw) (tw_28 hw) (by decide) f12 (rm50 l Z a0 hw b5 b9 kb9 aa (0 : Int64) (0 : Int64) h81 n0 Y81.sz f11 SA f12 f13 f14 f15) (a := b5) (argsL := [(.double (4602678819172646912 : UInt64))]) (rest := []) rfl rfl (lenOf pd_11 rfl) rfl (by decide) (nle rfl) (by decide) (by decide) at_91 rfl (fun v91 T91 h91 Y91 q91 => ?_)
    obtain ⟨r091, rfl, p91, K91⟩ := q91
    show Gl p e below _ (T91.setTop (mkF m 94 _ [(.double (dq r091))]))
    refine Gl.dstore Y91 (L' := #[.val (.int kk), .val (.long aa), .second, .val (.long bb), .second, .val (.long cc), .second, .val (.int 1), .val (.ref b5), .val (.double (dq r073)), .second, .val (.double (dq r081)), .second, .val (.double (dq r091)), .second, .unset, .unset, .unset, .unset, .unset, .unset]) rfl at_94 rfl ?_
    refine Gl.lloadN Y91 rfl at_96 rfl ?_
    refine Gl.lstore Y91 (L' := #[.val (.int kk), .val (.long aa), .second, .val (.long bb), .second, .val (.long cc), .second, .val (.int 1), .val (.ref b5), .val (.double (dq r073)), .second, .val (.double (dq r081)), .second, .val (.double (dq r091)), .second, .val (.long aa), .second, .unset, .unset, .unset, .unset]) rfl at_97 rfl ?_
    refine Gl.lloadN Y91 rfl at_99 rfl ?_
    refine Gl.lstore Y91 (L' := #[.val (.int kk), .val (.long aa), .second, .val (.long bb), .second, .val (.long cc), .second, .val (.int 1), .val (.ref b5), .val (.double (dq r073)), .second, .val (.double (dq r081)), .second, .val (.double (dq r091)), .second, .val (.long aa), .second, .val (.long aa), .second, .unset, .unset]) rfl at_100 rfl ?_
    refine Gl.lloadN Y91 rfl at_102 rfl ?_
    refine Gl.lstore Y91 (L' := #[.val (.int kk), .val (.long aa), .second, .val (.long bb), .second, .val (.long cc), .second, .val (.int 1), .val (.ref b5), .val (.double (dq r073)), .second, .val (.double (dq r081)), .second, .val (.double (dq r091)), .second, .val (.long aa), .second, .val (.long aa), .second, .val (.long aa), .second]) rfl at_103 rfl ?_
    refine Gl.iload Y91 rfl at_105 rfl ?_
    refine Gl.iconst Y91 (v := (2 : Int32)) (by decide) at_107 rfl ?_
    refine Gl.icmplt Y91 at_108 (by decide) rfl rfl (fun c108 => ?_) (fun c108 => ?_)
    rotate_left
    · exact absurd c108 (by decide)
    refine Gl.iload Y91 rfl at_129 rfl ?_
    refine Gl.iconst Y91 (v := (3 : Int32)) (by decide) at_131 rfl ?_
    refine Gl.icmpne Y91 at_132 (by decide) rfl rfl (fun c132 => ?_) (fun c132 => ?_)
    rotate_left
    · exact absurd c132 (by decide)
    refine Gl.dload Y91 rfl at_173 rfl ?_
    refine Gl.lload Y91 rfl at_175 rfl ?_
    refine Gl.l2d Y91 rfl at_177 rfl ?_
    refine Gl.ldcD Y91 (tw_92 hw) at_178 rfl ?_
    refine Gl.ddiv Y91 (own_nn aa) (r := dq aa) rfl at_181 rfl ?_
    refine Gl.dcmp Y91 (v := (0 : Int32)) (own_dc (p73)) at_182 rfl ?_
    refine Gl.ifne Y91 at_183 (by decide) rfl rfl (fun c183 => ?_) (fun c183 => ?_)
    · exact absurd c183 (by decide)
    refine Gl.dload Y91 rfl at_186 rfl ?_
    refine Gl.lload Y91 rfl at_188 rfl ?_
    refine Gl.l2d Y91 rfl at_190 rfl ?_
    refine Gl.ldcD Y91 (tw_92 hw) at_191 rfl ?_
    refine Gl.ddiv Y91 (own_nn aa) (r := dq aa) rfl at_194 rfl ?_
    refine Gl.dcmp Y91 (v := (0 : Int32)) (own_dc (p81)) at_195 rfl ?_
    refine Gl.ifne Y91 at_196 (by decide) rfl rfl (fun c196 => ?_) (fun c196 => ?_)
    · exact absurd c196 (by decide)
    refine Gl.dload Y91 rfl at_199 rfl ?_
    refine Gl.lload Y91 rfl at_201 rfl ?_
    refine Gl.l2d Y91 rfl at_203 rfl ?_
    refine Gl.ldcD Y91 (tw_92 hw) at_204 rfl ?_
    refine Gl.ddiv Y91 (own_nn aa) (r := dq aa) rfl at_207 rfl ?_
    refine Gl.dcmp Y91 (v := (0 : Int32)) (own_dc (p91)) at_208 rfl ?_
    refine Gl.ifne Y91 at_209 (by decide) rfl rfl (fun c209 => ?_) (fun c209 => ?_)
    · exact absurd c209 (by decide)
    refine Gl.iconst Y91 (v := (1 : Int32)) (by decide) at_212 rfl ?_
    refine Gl.goto Y91 at_213 (by decide) rfl ?_
    exact Gl.retZ Y91 (by decide) (by decide) (x' := (1 : Int32)) (by decide) at_217 rfl
  · refine Gl.newO Y0 (tw_0 hw) (tw_1 hw) (tw_2 hw) (by decide) (by decide) at_5 rfl (fun T5 h5 b5 Y5 E5 g5 sb5 X5 D5 => ?_)
    have f16 : Fld Z h5 b5 "com/example/impatiens/impatiens/loadtool/Latencies" "nanos" "[J" .null := D5 (Or.inl (tw_11 hw)) (ty := (.array .long)) (by decide)
    have f17 : Fld Z h5 b5 "com/example/impatiens/impatiens/loadtool/Latencies" "count" "I" (.int 0) := D5 (Or.inl (tw_18 hw)) (ty := .int) (by decide)
    show Gl p e below _ (T5.setTop (mkF m 8 _ [(.ref b5)]))
    refine Gl.dup Y5 rfl at_8 rfl ?_
    refine Gl.callN Y5 rfl (tw_3 hw) (tw_4 hw) (tw_2 hw) (tw_5 hw) (by decide) (rm0 l Z a0 hw b5 h5 n0 Y5.sz X5 f16 f17 sb5) (a := b5) (argsL := []) (rest := [(.ref b5)]) rfl rfl (lenOf pd_8 rfl) rfl (by decide) (nle rfl) (by decide) (by decide) at_9 rfl (fun v9 T9 h9 Y9 q9 => ?_)
    obtain ⟨b9, kb9, rfl, K9, f9_0, f9_1, f9_2, f9_3, f9_4⟩ := q9
    have Y9_sz : n0 ≤ h5.size := Y5.sz
    show Gl p e below _ (T9.setTop (mkF m 12 _ [(.ref b5)]))
    refine Gl.astore Y9 rfl (L' := #[.val (.int kk), .val (.long aa), .second, .val (.long bb), .second, .val (.long cc), .second, .val (.int 2), .val (.ref b5), .unset, .unset, .unset, .unset, .unset, .unset, .unset, .unset, .unset, .unset, .unset, .unset]) rfl at_12 rfl ?_
    refine Gl.iload Y9 rfl at_14 rfl ?_
    refine Gl.iconst Y9 (v := (1 : Int32)) (by decide) at_16 rfl ?_
    refine Gl.icmplt Y9 at_17 (by decide) rfl rfl (fun c17 => ?_) (fun c17 => ?_)
    · exact absurd c17 (by decide)
    refine Gl.aload Y9 rfl rfl at_20 rfl ?_
    refine Gl.lloadN Y9 rfl at_22 rfl ?_
    refine Gl.callV Y9 (tw_19 hw) (tw_20 hw) (tw_22 hw) (tw_22 hw) (tw_21 hw) (tw_2 hw) (tw_23 hw) (by decide) f9_1 (rm1 l Z a0 hw b5 b9 kb9 aa (0 : Int64) (0 : Int64) (0 : Int64) h9 n0 Y9.sz f9_1 f9_2 f9_3 f9_4 sb5 (Nat.le_trans Y9_sz f9_0) (Nat.ne_of_lt (Nat.lt_of_lt_of_le X5.lt f9_0))) (a := b5) (argsL := [(.long aa)]) (rest := []) rfl rfl (lenOf pd_10 rfl) rfl (by decide) (nle rfl) (by decide) (by decide) at_23 rfl (fun v23 T23 h23 Y23 q23 => ?_)
    obtain ⟨rfl, K23, f23_0, f23_1, f23_2, f23_3⟩ := q23
    show Gl p e below _ (T23.setTop (mkF m 26 _ []))
    refine Gl.iload Y23 rfl at_26 rfl ?_
    refine Gl.iconst Y23 (v := (2 : Int32)) (by decide) at_28 rfl ?_
    refine Gl.icmplt Y23 at_29 (by decide) rfl rfl (fun c29 => ?_) (fun c29 => ?_)
    · exact absurd c29 (by decide)
    refine Gl.aload Y23 rfl rfl at_32 rfl ?_
    refine Gl.lloadN Y23 rfl at_34 rfl ?_
    refine Gl.callV Y23 (tw_19 hw) (tw_20 hw) (tw_22 hw) (tw_22 hw) (tw_21 hw) (tw_2 hw) (tw_23 hw) (by decide) f23_0 (rm2 l Z a0 hw b5 b9 kb9 bb aa (0 : Int64) (0 : Int64) h23 n0 Y23.sz f23_0 f23_1 f23_2 f23_3 sb5 (Nat.le_trans Y9_sz f9_0) (Nat.ne_of_lt (Nat.lt_of_lt_of_le X5.lt f9_0))) (a := b5) (argsL := [(.long bb)]) (rest := []) rfl rfl (lenOf pd_10 rfl) rfl (by decide) (nle rfl) (by decide) (by decide) at_35 rfl (fun v35 T35 h35 Y35 q35 => ?_)
    obtain ⟨rfl, K35, f35_0, f35_1, f35_2, f35_3⟩ := q35
    show Gl p e below _ (T35.setTop (mkF m 38 _ []))
    refine Gl.iload Y35 rfl at_38 rfl ?_
    refine Gl.iconst Y35 (v := (3 : Int32)) (by decide) at_40 rfl ?_
    refine Gl.icmplt Y35 at_41 (by decide) rfl rfl (fun c41 => ?_) (fun c41 => ?_)
    rotate_left
    · exact absurd c41 (by decide)
    refine Gl.aload Y35 rfl rfl at_51 rfl ?_
    refine Gl.callV Y35 (tw_12 hw) (tw_13 hw) (tw_15 hw) (tw_15 hw) (tw_14 hw) (tw_2 hw) (tw_16 hw) (by decide) f35_0 (rm6 l Z a0 hw b5 h35 n0 Y35.sz f35_2) (a := b5) (argsL := []) (rest := []) rfl rfl (lenOf pd_9 rfl) rfl (by decide) (nle rfl) (by decide) (by decide) at_53 rfl (fun v53 T53 h53 Y53 q53 => ?_)
    obtain ⟨rfl, rfl⟩ := q53
    show Gl p e below _ (T53.setTop (mkF m 56 _ [(.int 2)]))
    refine Gl.iload Y53 rfl at_56 rfl ?_
    refine Gl.icmpeq Y53 at_58 (by decide) rfl rfl (fun c58 => ?_) (fun c58 => ?_)
    rotate_left
    · exact absurd c58 (by decide)
    refine Gl.iload Y53 rfl at_63 rfl ?_
    refine Gl.ifne Y53 at_65 (by decide) rfl rfl (fun c65 => ?_) (fun c65 => ?_)
    rotate_left
    · exact absurd c65 (by decide)
    refine Gl.aload Y53 rfl rfl at_70 rfl ?_
    refine Gl.dconst0 Y53 at_72 rfl ?_
    show Gl p e below _ (T53.setTop (mkF m 73 _ [(.double (0 : UInt64)), (.ref b5)]))
    have f18 := ((((O.ext E5).keep K9 (allS sb5 all0)).keep K23 (allS sb5 (allS (Nat.le_trans Y9_sz f9_0) all0))).keep K35 (allS sb5 (allS (Nat.le_trans Y9_sz f9_0) all0)))
    refine Gl.callV Y53 (tw_24 hw) (tw_25 hw) (tw_27 hw) (tw_27 hw) (tw_26 hw) (tw_2 hw) (tw_28 hw) (by decide) f35_0 (rm51 l Z a0 hw b5 b9 kb9 aa bb (0 : Int64) h35 n0 Y53.sz f18 SA f35_0 f35_1 f35_2 f35_3) (a := b5) (argsL := [(.double (0 : UInt64))]) (rest := []) rfl rfl (lenOf pd_11 rfl) rfl (by decide) (nle rfl) (by decide) (by decide) at_73 rfl (fun v73 T73 h73 Y73 q73 => ?_)
    obtain ⟨r073, r173, rfl, p73, K73⟩ := q73
    show Gl p e below _ (T73.setTop (mkF m 76 _ [(.double (dq r073))]))
    refine Gl.dstore Y73 (L' := #[.val (.int kk), .val (.long aa), .second, .val (.long bb), .second, .val (.long cc), .second, .val (.int 2), .val (.ref b5), .val (.double (dq r073)), .second, .unset, .unset, .unset, .unset, .unset, .unset, .unset, .unset, .unset, .unset]) rfl at_76 rfl ?_
    refine Gl.aload Y73 rfl rfl at_78 rfl ?_
    refine Gl.dconst1 Y73 at_80 rfl ?_
    show Gl p e below _ (T73.setTop (mkF m 81 _ [(.double (4607182418800017408 : UInt64)), (.ref b5)]))
    have f19 := (f18.keep K73 all0)
    have f20 := (f35_0.keep K73)
    have f21 := (f35_1.keep K73 nin0)
    have f22 := (f35_2.keep K73 nin0)
    have f23 := (f35_3.keep K73 nin0)
    refine Gl.callV Y73 (tw_24 hw) (tw_25 hw) (tw_27 hw) (tw_27 hw) (tw_26 hw) (tw_2 hw) (tw_28 hw) (by decide) f20 (rm52 l Z a0 hw b5 b9 kb9 aa bb (0 : Int64) h73 n0 Y73.sz f19 SA f20 f21 f22 f23) (a := b5) (argsL := [(.double (4607182418800017408 : UInt64))]) (rest := []) rfl rfl (lenOf pd_11 rfl) rfl (by decide) (nle rfl) (by decide) (by decide) at_81 rfl (fun v81 T81 h81 Y81 q81 => ?_)
    obtain ⟨r081, r181, rfl, p81, K81⟩ := q81
    show Gl p e below _ (T81.setTop (mkF m 84 _ [(.double (dq r181))]))
    refine Gl.dstore Y81 (L' := #[.val (.int kk), .val (.long aa), .second, .val (.long bb), .second, .val (.long cc), .second, .val (.int 2), .val (.ref b5), .val (.double (dq r073)), .second, .val (.double (dq r181)), .second, .unset, .unset, .unset, .unset, .unset, .unset, .unset, .unset]) rfl at_84 rfl ?_
    refine Gl.aload Y81 rfl rfl at_86 rfl ?_
    refine Gl.ldcD Y81 (tw_81 hw) at_88 rfl ?_
    have f24 := (f19.keep K81 all0)
    have f25 := (f20.keep K81)
    have f26 := (f21.keep K81 nin0)
    have f27 := (f22.keep K81 nin0)
    have f28 := (f23.keep K81 nin0)
    refine Gl.callV Y81 (tw_24 hw) (tw_25 hw) (tw_27 hw) (tw_27 hw) (tw_26 hw) (tw_2 hw) (tw_28 hw) (by decide) f25 (rm53 l Z a0 hw b5 b9 kb9 aa bb (0 : Int64) h81 n0 Y81.sz f24 SA f25 f26 f27 f28) (a := b5) (argsL := [(.double (4602678819172646912 : UInt64))]) (rest := []) rfl rfl (lenOf pd_11 rfl) rfl (by decide) (nle rfl) (by decide) (by decide) at_91 rfl (fun v91 T91 h91 Y91 q91 => ?_)
    obtain ⟨r091, r191, rfl, p91, K91⟩ := q91
    show Gl p e below _ (T91.setTop (mkF m 94 _ [(.double (dq r091))]))
    refine Gl.dstore Y91 (L' := #[.val (.int kk), .val (.long aa), .second, .val (.long bb), .second, .val (.long cc), .second, .val (.int 2), .val (.ref b5), .val (.double (dq r073)), .second, .val (.double (dq r181)), .second, .val (.double (dq r091)), .second, .unset, .unset, .unset, .unset, .unset, .unset]) rfl at_94 rfl ?_
    refine Gl.lloadN Y91 rfl at_96 rfl ?_
    refine Gl.lstore Y91 (L' := #[.val (.int kk), .val (.long aa), .second, .val (.long bb), .second, .val (.long cc), .second, .val (.int 2), .val (.ref b5), .val (.double (dq r073)), .second, .val (.double (dq r181)), .second, .val (.double (dq r091)), .second, .val (.long aa), .second, .unset, .unset, .unset, .unset]) rfl at_97 rfl ?_
    refine Gl.lloadN Y91 rfl at_99 rfl ?_
    refine Gl.lstore Y91 (L' := #[.val (.int kk), .val (.long aa), .second, .val (.long bb), .second, .val (.long cc), .second, .val (.int 2), .val (.ref b5), .val (.double (dq r073)), .second, .val (.double (dq r181)), .second, .val (.double (dq r091)), .second, .val (.long aa), .second, .val (.long aa), .second, .unset, .unset]) rfl at_100 rfl ?_
    refine Gl.lloadN Y91 rfl at_102 rfl ?_
    refine Gl.lstore Y91 (L' := #[.val (.int kk), .val (.long aa), .second, .val (.long bb), .second, .val (.long cc), .second, .val (.int 2), .val (.ref b5), .val (.double (dq r073)), .second, .val (.double (dq r181)), .second, .val (.double (dq r091)), .second, .val (.long aa), .second, .val (.long aa), .second, .val (.long aa), .second]) rfl at_103 rfl ?_
    refine Gl.iload Y91 rfl at_105 rfl ?_
    refine Gl.iconst Y91 (v := (2 : Int32)) (by decide) at_107 rfl ?_
    refine Gl.icmplt Y91 at_108 (by decide) rfl rfl (fun c108 => ?_) (fun c108 => ?_)
    · exact absurd c108 (by decide)
    refine Gl.lloadN Y91 rfl at_111 rfl ?_
    refine Gl.lloadN Y91 rfl at_112 rfl ?_
    refine Gl.callS Y91 (tw_86 hw) (tw_87 hw) (tw_35 hw) (tw_88 hw) (by decide) (rm57 l Z a0 hw aa bb h91 n0 Y91.sz) (argsL := [(.long aa), (.long bb)]) (rest := []) rfl rfl (lenOf pd_12 rfl) rfl (by decide) (nle rfl) (by decide) (by decide) at_113 rfl (fun v113 T113 h113 Y113 q113 => ?_)
    obtain ⟨r113, rfl, p113, rfl⟩ := q113
    show Gl p e below _ (T113.setTop (mkF m 116 _ [(.long r113)]))
    refine Gl.lstore Y113 (L' := #[.val (.int kk), .val (.long aa), .second, .val (.long bb), .second, .val (.long cc), .second, .val (.int 2), .val (.ref b5), .val (.double (dq r073)), .second, .val (.double (dq r181)), .second, .val (.double (dq r091)), .second, .val (.long r113), .second, .val (.long aa), .second, .val (.long aa), .second]) rfl at_116 rfl ?_
    refine Gl.lloadN Y113 rfl at_118 rfl ?_
    refine Gl.lloadN Y113 rfl at_119 rfl ?_
    refine Gl.callS Y113 (tw_89 hw) (tw_90 hw) (tw_35 hw) (tw_91 hw) (by decide) (rm58 l Z a0 hw aa bb h91 n0 Y113.sz) (argsL := [(.long aa), (.long bb)]) (rest := []) rfl rfl (lenOf pd_12 rfl) rfl (by decide) (nle rfl) (by decide) (by decide) at_120 rfl (fun v120 T120 h120 Y120 q120 => ?_)
    obtain ⟨r120, rfl, p120, rfl⟩ := q120
    show Gl p e below _ (T120.setTop (mkF m 123 _ [(.long r120)]))
    refine Gl.lstore Y120 (L' := #[.val (.int kk), .val (.long aa), .second, .val (.long bb), .second, .val (.long cc), .second, .val (.int 2), .val (.ref b5), .val (.double (dq r073)), .second, .val (.double (dq r181)), .second, .val (.double (dq r091)), .second, .val (.long r113), .second, .val (.long r120), .second, .val (.long aa), .second]) rfl at_123 rfl ?_
    refine Gl.lload Y120 rfl at_125 rfl ?_
    refine Gl.lstore Y120 (L' := #[.val (.int kk), .val (.long aa), .second, .val (.long bb), .second, .val (.long cc), .second, .val (.int 2), .val (.ref b5), .val (.double (dq r073)), .second, .val (.double (dq r181)), .second, .val (.double (dq r091)), .second, .val (.long r113), .second, .val (.long r120), .second, .val (.long r113), .second]) rfl at_127 rfl ?_
    refine Gl.iload Y120 rfl at_129 rfl ?_
    refine Gl.iconst Y120 (v := (3 : Int32)) (by decide) at_131 rfl ?_
    refine Gl.icmpne Y120 at_132 (by decide) rfl rfl (fun c132 => ?_) (fun c132 => ?_)
    rotate_left
    · exact absurd c132 (by decide)
    refine Gl.dload Y120 rfl at_173 rfl ?_
    refine Gl.lload Y120 rfl at_175 rfl ?_
    refine Gl.l2d Y120 rfl at_177 rfl ?_
    refine Gl.ldcD Y120 (tw_92 hw) at_178 rfl ?_
    refine Gl.ddiv Y120 (own_nn r113) (r := dq r113) rfl at_181 rfl ?_
    refine Gl.dcmp Y120 (v := (0 : Int32)) (own_dc (own_2lo p73 p113)) at_182 rfl ?_
    refine Gl.ifne Y120 at_183 (by decide) rfl rfl (fun c183 => ?_) (fun c183 => ?_)
    · exact absurd c183 (by decide)
    refine Gl.dload Y120 rfl at_186 rfl ?_
    refine Gl.lload Y120 rfl at_188 rfl ?_
    refine Gl.l2d Y120 rfl at_190 rfl ?_
    refine Gl.ldcD Y120 (tw_92 hw) at_191 rfl ?_
    refine Gl.ddiv Y120 (own_nn r120) (r := dq r120) rfl at_194 rfl ?_
    refine Gl.dcmp Y120 (v := (0 : Int32)) (own_dc (own_2hi p81 p120)) at_195 rfl ?_
    refine Gl.ifne Y120 at_196 (by decide) rfl rfl (fun c196 => ?_) (fun c196 => ?_)
    · exact absurd c196 (by decide)
    refine Gl.dload Y120 rfl at_199 rfl ?_
    refine Gl.lload Y120 rfl at_201 rfl ?_
    refine Gl.l2d Y120 rfl at_203 rfl ?_
    refine Gl.ldcD Y120 (tw_92 hw) at_204 rfl ?_
    refine Gl.ddiv Y120 (own_nn r113) (r := dq r113) rfl at_207 rfl ?_
    refine Gl.dcmp Y120 (v := (0 : Int32)) (own_dc (own_2lo p91 p113)) at_208 rfl ?_
    refine Gl.ifne Y120 at_209 (by decide) rfl rfl (fun c209 => ?_) (fun c209 => ?_)
    · exact absurd c209 (by decide)
    refine Gl.iconst Y120 (v := (1 : Int32)) (by decide) at_212 rfl ?_
    refine Gl.goto Y120 at_213 (by decide) rfl ?_
    exact Gl.retZ Y120 (by decide) (by decide) (x' := (1 : Int32)) (by decide) at_217 rfl
  · refine Gl.newO Y0 (tw_0 hw) (tw_1 hw) (tw_2 hw) (by decide) (by decide) at_5 rfl (fun T5 h5 b5 Y5 E5 g5 sb5 X5 D5 => ?_)
    have f29 : Fld Z h5 b5 "com/example/impatiens/impatiens/loadtool/Latencies" "nanos" "[J" .null := D5 (Or.inl (tw_11 hw)) (ty := (.array .long)) (by decide)
    have f30 : Fld Z h5 b5 "com/example/impatiens/impatiens/loadtool/Latencies" "count" "I" (.int 0) := D5 (Or.inl (tw_18 hw)) (ty := .int) (by decide)
    show Gl p e below _ (T5.setTop (mkF m 8 _ [(.ref b5)]))
    refine Gl.dup Y5 rfl at_8 rfl ?_
    refine Gl.callN Y5 rfl (tw_3 hw) (tw_4 hw) (tw_2 hw) (tw_5 hw) (by decide) (rm0 l Z a0 hw b5 h5 n0 Y5.sz X5 f29 f30 sb5) (a := b5) (argsL := []) (rest := [(.ref b5)]) rfl rfl (lenOf pd_8 rfl) rfl (by decide) (nle rfl) (by decide) (by decide) at_9 rfl (fun v9 T9 h9 Y9 q9 => ?_)
    obtain ⟨b9, kb9, rfl, K9, f9_0, f9_1, f9_2, f9_3, f9_4⟩ := q9
    have Y9_sz : n0 ≤ h5.size := Y5.sz
    show Gl p e below _ (T9.setTop (mkF m 12 _ [(.ref b5)]))
    refine Gl.astore Y9 rfl (L' := #[.val (.int kk), .val (.long aa), .second, .val (.long bb), .second, .val (.long cc), .second, .val (.int 3), .val (.ref b5), .unset, .unset, .unset, .unset, .unset, .unset, .unset, .unset, .unset, .unset, .unset, .unset]) rfl at_12 rfl ?_
    refine Gl.iload Y9 rfl at_14 rfl ?_
    refine Gl.iconst Y9 (v := (1 : Int32)) (by decide) at_16 rfl ?_
    refine Gl.icmplt Y9 at_17 (by decide) rfl rfl (fun c17 => ?_) (fun c17 => ?_)
    · exact absurd c17 (by decide)
    refine Gl.aload Y9 rfl rfl at_20 rfl ?_
    refine Gl.lloadN Y9 rfl at_22 rfl ?_
    refine Gl.callV Y9 (tw_19 hw) (tw_20 hw) (tw_22 hw) (tw_22 hw) (tw_21 hw) (tw_2 hw) (tw_23 hw) (by decide) f9_1 (rm1 l Z a0 hw b5 b9 kb9 aa (0 : Int64) (0 : Int64) (0 : Int64) h9 n0 Y9.sz f9_1 f9_2 f9_3 f9_4 sb5 (Nat.le_trans Y9_sz f9_0) (Nat.ne_of_lt (Nat.lt_of_lt_of_le X5.lt f9_0))) (a := b5) (argsL := [(.long aa)]) (rest := []) rfl rfl (lenOf pd_10 rfl) rfl (by decide) (nle rfl) (by decide) (by decide) at_23 rfl (fun v23 T23 h23 Y23 q23 => ?_)
    obtain ⟨rfl, K23, f23_0, f23_1, f23_2, f23_3⟩ := q23
    show Gl p e below _ (T23.setTop (mkF m 26 _ []))
    refine Gl.iload Y23 rfl at_26 rfl ?_
    refine Gl.iconst Y23 (v := (2 : Int32)) (by decide) at_28 rfl ?_
    refine Gl.icmplt Y23 at_29 (by decide) rfl rfl (fun c29 => ?_) (fun c29 => ?_)
    · exact absurd c29 (by decide)
    refine Gl.aload Y23 rfl rfl at_32 rfl ?_
    refine Gl.lloadN Y23 rfl at_34 rfl ?_
    refine Gl.callV Y23 (tw_19 hw) (tw_20 hw) (tw_22 hw) (tw_22 hw) (tw_21 hw) (tw_2 hw) (tw_23 hw) (by decide) f23_0 (rm2 l Z a0 hw b5 b9 kb9 bb aa (0 : Int64) (0 : Int64) h23 n0 Y23.sz f23_0 f23_1 f23_2 f23_3 sb5 (Nat.le_trans Y9_sz f9_0) (Nat.ne_of_lt (Nat.lt_of_lt_of_le X5.lt f9_0))) (a := b5) (argsL := [(.long bb)]) (rest := []) rfl rfl (lenOf pd_10 rfl) rfl (by decide) (nle rfl) (by decide) (by decide) at_35 rfl (fun v35 T35 h35 Y35 q35 => ?_)
    obtain ⟨rfl, K35, f35_0, f35_1, f35_2, f35_3⟩ := q35
    show Gl p e below _ (T35.setTop (mkF m 38 _ []))
    refine Gl.iload Y35 rfl at_38 rfl ?_
    refine Gl.iconst Y35 (v := (3 : Int32)) (by decide) at_40 rfl ?_
    refine Gl.icmplt Y35 at_41 (by decide) rfl rfl (fun c41 => ?_) (fun c41 => ?_)
    · exact absurd c41 (by decide)
    refine Gl.aload Y35 rfl rfl at_44 rfl ?_
    refine Gl.lload Y35 rfl at_46 rfl ?_
    refine Gl.callV Y35 (tw_19 hw) (tw_20 hw) (tw_22 hw) (tw_22 hw) (tw_21 hw) (tw_2 hw) (tw_23 hw) (by decide) f35_0 (rm3 l Z a0 hw b5 b9 kb9 cc aa bb (0 : Int64) h35 n0 Y35.sz f35_0 f35_1 f35_2 f35_3 sb5 (Nat.le_trans Y9_sz f9_0) (Nat.ne_of_lt (Nat.lt_of_lt_of_le X5.lt f9_0))) (a := b5) (argsL := [(.long cc)]) (rest := []) rfl rfl (lenOf pd_10 rfl) rfl (by decide) (nle rfl) (by decide) (by decide) at_48 rfl (fun v48 T48 h48 Y48 q48 => ?_)
    obtain ⟨rfl, K48, f48_0, f48_1, f48_2, f48_3⟩ := q48
    show Gl p e below _ (T48.setTop (mkF m 51 _ []))
    refine Gl.aload Y48 rfl rfl at_51 rfl ?_
    refine Gl.callV Y48 (tw_12 hw) (tw_13 hw) (tw_15 hw) (tw_15 hw) (tw_14 hw) (tw_2 hw) (tw_16 hw) (by decide) f48_0 (rm7 l Z a0 hw b5 h48 n0 Y48.sz f48_2) (a := b5) (argsL := []) (rest := []) rfl rfl (lenOf pd_9 rfl) rfl (by decide) (nle rfl) (by decide) (by decide) at_53 rfl (fun v53 T53 h53 Y53 q53 => ?_)
    obtain ⟨rfl, rfl⟩ := q53
    show Gl p e below _ (T53.setTop (mkF m 56 _ [(.int 3)]))
    refine Gl.iload Y53 rfl at_56 rfl ?_
    refine Gl.icmpeq Y53 at_58 (by decide) rfl rfl (fun c58 => ?_) (fun c58 => ?_)
    rotate_left
    · exact absurd c58 (by decide)
    refine Gl.iload Y53 rfl at_63 rfl ?_
    refine Gl.ifne Y53 at_65 (by decide) rfl rfl (fun c65 => ?_) (fun c65 => ?_)
    rotate_left
    · exact absurd c65 (by decide)
    refine Gl.aload Y53 rfl rfl at_70 rfl ?_
    refine Gl.dconst0 Y53 at_72 rfl ?_
    show Gl p e below _ (T53.setTop (mkF m 73 _ [(.double (0 : UInt64)), (.ref b5)]))
    have f31 := (((((O.ext E5).keep K9 (allS sb5 all0)).keep K23 (allS sb5 (allS (Nat.le_trans Y9_sz f9_0) all0))).keep K35 (allS sb5 (allS (Nat.le_trans Y9_sz f9_0) all0))).keep K48 (allS sb5 (allS (Nat.le_trans Y9_sz f9_0) all0)))
    refine Gl.callV Y53 (tw_24 hw) (tw_25 hw) (tw_27 hw) (tw_27 hw) (tw_26 hw) (tw_2 hw) (tw_28 hw) (by decide) f48_0 (rm54 l Z a0 hw b5 b9 kb9 aa bb cc h48 n0 Y53.sz f31 SA f48_0 f48_1 f48_2 f48_3) (a := b5) (argsL := [(.double (0 : UInt64))]) (rest := []) rfl rfl (lenOf pd_11 rfl) rfl (by decide) (nle rfl) (by decide) (by decide) at_73 rfl (fun v73 T73 h73 Y73 q73 => ?_)
    obtain ⟨r073, r173, r273, rfl, p73, K73⟩ := q73
    show Gl p e below _ (T73.setTop (mkF m 76 _ [(.double (dq r073))]))
    refine Gl.dstore Y73 (L' := #[.val (.int kk), .val (.long aa), .second, .val (.long bb), .second, .val (.long cc), .second, .val (.int 3), .val (.ref b5), .val (.double (dq r073)), .second, .unset, .unset, .unset, .unset, .unset, .unset, .unset, .unset, .unset, .unset]) rfl at_76 rfl ?_
    refine Gl.aload Y73 rfl rfl at_78 rfl ?_
    refine Gl.dconst1 Y73 at_80 rfl ?_
    show Gl p e below _ (T73.setTop (mkF m 81 _ [(.double (4607182418800017408 : UInt64)), (.ref b5)]))
    have f32 := (f31.keep K73 all0)
    have f33 := (f48_0.keep K73)
    have f34 := (f48_1.keep K73 nin0)
    have f35 := (f48_2.keep K73 nin0)
    have f36 := (f48_3.keep K73 nin0)
    refine Gl.callV Y73 (tw_24 hw) (tw_25 hw) (tw_27 hw) (tw_27 hw) (tw_26 hw) (tw_2 hw) (tw_28 hw) (by decide) f33 (rm55 l Z a0 hw b5 b9 kb9 aa bb cc h73 n0 Y73.sz f32 SA f33 f34 f35 f36) (a := b5) (argsL := [(.double (4607182418800017408 : UInt64))]) (rest := []) rfl rfl (lenOf pd_11 rfl) rfl (by decide) (nle rfl) (by decide) (by decide) at_81 rfl (fun v81 T81 h81 Y81 q81 => ?_)
    obtain ⟨r081, r181, r281, rfl, p81, K81⟩ := q81
    show Gl p e below _ (T81.setTop (mkF m 84 _ [(.double (dq r281))]))
    refine Gl.dstore Y81 (L' := #[.val (.int kk), .val (.long aa), .second, .val (.long bb), .second, .val (.long cc), .second, .val (.int 3), .val (.ref b5), .val (.double (dq r073)), .second, .val (.double (dq r281)), .second, .unset, .unset, .unset, .unset, .unset, .unset, .unset, .unset]) rfl at_84 rfl ?_
    refine Gl.aload Y81 rfl rfl at_86 rfl ?_
    refine Gl.ldcD Y81 (tw_81 hw) at_88 rfl ?_
    have f37 := (f32.keep K81 all0)
    have f38 := (f33.keep K81)
    have f39 := (f34.keep K81 nin0)
    have f40 := (f35.keep K81 nin0)
    have f41 := (f36.keep K81 nin0)
    refine Gl.callV Y81 (tw_24 hw) (tw_25 hw) (tw_27 hw) (tw_27 hw) (tw_26 hw) (tw_2 hw) (tw_28 hw) (by decide) f38 (rm56 l Z a0 hw b5 b9 kb9 aa bb cc h81 n0 Y81.sz f37 SA f38 f39 f40 f41) (a := b5) (argsL := [(.double (4602678819172646912 : UInt64))]) (rest := []) rfl rfl (lenOf pd_11 rfl) rfl (by decide) (nle rfl) (by decide) (by decide) at_91 rfl (fun v91 T91 h91 Y91 q91 => ?_)
    obtain ⟨r091, r191, r291, rfl, p91, K91⟩ := q91
    show Gl p e below _ (T91.setTop (mkF m 94 _ [(.double (dq r191))]))
    refine Gl.dstore Y91 (L' := #[.val (.int kk), .val (.long aa), .second, .val (.long bb), .second, .val (.long cc), .second, .val (.int 3), .val (.ref b5), .val (.double (dq r073)), .second, .val (.double (dq r281)), .second, .val (.double (dq r191)), .second, .unset, .unset, .unset, .unset, .unset, .unset]) rfl at_94 rfl ?_
    refine Gl.lloadN Y91 rfl at_96 rfl ?_
    refine Gl.lstore Y91 (L' := #[.val (.int kk), .val (.long aa), .second, .val (.long bb), .second, .val (.long cc), .second, .val (.int 3), .val (.ref b5), .val (.double (dq r073)), .second, .val (.double (dq r281)), .second, .val (.double (dq r191)), .second, .val (.long aa), .second, .unset, .unset, .unset, .unset]) rfl at_97 rfl ?_
    refine Gl.lloadN Y91 rfl at_99 rfl ?_
    refine Gl.lstore Y91 (L' := #[.val (.int kk), .val (.long aa), .second, .val (.long bb), .second, .val (.long cc), .second, .val (.int 3), .val (.ref b5), .val (.double (dq r073)), .second, .val (.double (dq r281)), .second, .val (.double (dq r191)), .second, .val (.long aa), .second, .val (.long aa), .second, .unset, .unset]) rfl at_100 rfl ?_
    refine Gl.lloadN Y91 rfl at_102 rfl ?_
    refine Gl.lstore Y91 (L' := #[.val (.int kk), .val (.long aa), .second, .val (.long bb), .second, .val (.long cc), .second, .val (.int 3), .val (.ref b5), .val (.double (dq r073)), .second, .val (.double (dq r281)), .second, .val (.double (dq r191)), .second, .val (.long aa), .second, .val (.long aa), .second, .val (.long aa), .second]) rfl at_103 rfl ?_
    refine Gl.iload Y91 rfl at_105 rfl ?_
    refine Gl.iconst Y91 (v := (2 : Int32)) (by decide) at_107 rfl ?_
    refine Gl.icmplt Y91 at_108 (by decide) rfl rfl (fun c108 => ?_) (fun c108 => ?_)
    · exact absurd c108 (by decide)
    refine Gl.lloadN Y91 rfl at_111 rfl ?_
    refine Gl.lloadN Y91 rfl at_112 rfl ?_
    refine Gl.callS Y91 (tw_86 hw) (tw_87 hw) (tw_35 hw) (tw_88 hw) (by decide) (rm57 l Z a0 hw aa bb h91 n0 Y91.sz) (argsL := [(.long aa), (.long bb)]) (rest := []) rfl rfl (lenOf pd_12 rfl) rfl (by decide) (nle rfl) (by decide) (by decide) at_113 rfl (fun v113 T113 h113 Y113 q113 => ?_)
    obtain ⟨r113, rfl, p113, rfl⟩ := q113
    show Gl p e below _ (T113.setTop (mkF m 116 _ [(.long r113)]))
    refine Gl.lstore Y113 (L' := #[.val (.int kk), .val (.long aa), .second, .val (.long bb), .second, .val (.long cc), .second, .val (.int 3), .val (.ref b5), .val (.double (dq r073)), .second, .val (.double (dq r281)), .second, .val (.double (dq r191)), .second, .val (.long r113), .second, .val (.long aa), .second, .val (.long aa), .second]) rfl at_116 rfl ?_
    refine Gl.lloadN Y113 rfl at_118 rfl ?_
    refine Gl.lloadN Y113 rfl at_119 rfl ?_
    refine Gl.callS Y113 (tw_89 hw) (tw_90 hw) (tw_35 hw) (tw_91 hw) (by decide) (rm58 l Z a0 hw aa bb h91 n0 Y113.sz) (argsL := [(.long aa), (.long bb)]) (rest := []) rfl rfl (lenOf pd_12 rfl) rfl (by decide) (nle rfl) (by decide) (by decide) at_120 rfl (fun v120 T120 h120 Y120 q120 => ?_)
    obtain ⟨r120, rfl, p120, rfl⟩ := q120
    show Gl p e below _ (T120.setTop (mkF m 123 _ [(.long r120)]))
    refine Gl.lstore Y120 (L' := #[.val (.int kk), .val (.long aa), .second, .val (.long bb), .second, .val (.long cc), .second, .val (.int 3), .val (.ref b5), .val (.double (dq r073)), .second, .val (.double (dq r281)), .second, .val (.double (dq r191)), .second, .val (.long r113), .second, .val (.long r120), .second, .val (.long aa), .second]) rfl at_123 rfl ?_
    refine Gl.lload Y120 rfl at_125 rfl ?_
    refine Gl.lstore Y120 (L' := #[.val (.int kk), .val (.long aa), .second, .val (.long bb), .second, .val (.long cc), .second, .val (.int 3), .val (.ref b5), .val (.double (dq r073)), .second, .val (.double (dq r281)), .second, .val (.double (dq r191)), .second, .val (.long r113), .second, .val (.long r120), .second, .val (.long r113), .second]) rfl at_127 rfl ?_
    refine Gl.iload Y120 rfl at_129 rfl ?_
    refine Gl.iconst Y120 (v := (3 : Int32)) (by decide) at_131 rfl ?_
    refine Gl.icmpne Y120 at_132 (by decide) rfl rfl (fun c132 => ?_) (fun c132 => ?_)
    · exact absurd c132 (by decide)
    refine Gl.lloadN Y120 rfl at_135 rfl ?_
    refine Gl.lloadN Y120 rfl at_136 rfl ?_
    refine Gl.callS Y120 (tw_86 hw) (tw_87 hw) (tw_35 hw) (tw_88 hw) (by decide) (rm57 l Z a0 hw aa bb h91 n0 Y120.sz) (argsL := [(.long aa), (.long bb)]) (rest := []) rfl rfl (lenOf pd_12 rfl) rfl (by decide) (nle rfl) (by decide) (by decide) at_137 rfl (fun v137 T137 h137 Y137 q137 => ?_)
    obtain ⟨r137, rfl, p137, rfl⟩ := q137
    show Gl p e below _ (T137.setTop (mkF m 140 _ [(.long r137)]))
    refine Gl.lloadN Y137 rfl at_140 rfl ?_
    refine Gl.lloadN Y137 rfl at_141 rfl ?_
    refine Gl.callS Y137 (tw_89 hw) (tw_90 hw) (tw_35 hw) (tw_91 hw) (by decide) (rm58 l Z a0 hw aa bb h91 n0 Y137.sz) (argsL := [(.long aa), (.long bb)]) (rest := [(.long r137)]) rfl rfl (lenOf pd_12 rfl) rfl (by decide) (nle rfl) (by decide) (by decide) at_142 rfl (fun v142 T142 h142 Y142 q142 => ?_)
    obtain ⟨r142, rfl, p142, rfl⟩ := q142
    show Gl p e below _ (T142.setTop (mkF m 145 _ [(.long r142), (.long r137)]))
    refine Gl.lload Y142 rfl at_145 rfl ?_
    refine Gl.callS Y142 (tw_86 hw) (tw_87 hw) (tw_35 hw) (tw_88 hw) (by decide) (rm57 l Z a0 hw r142 cc h91 n0 Y142.sz) (argsL := [(.long r142), (.long cc)]) (rest := [(.long r137)]) rfl rfl (lenOf pd_12 rfl) rfl (by decide) (nle rfl) (by decide) (by decide) at_147 rfl (fun v147 T147 h147 Y147 q147 => ?_)
    obtain ⟨r147, rfl, p147, rfl⟩ := q147
    show Gl p e below _ (T147.setTop (mkF m 150 _ [(.long r147), (.long r137)]))
    refine Gl.callS Y147 (tw_89 hw) (tw_90 hw) (tw_35 hw) (tw_91 hw) (by decide) (rm58 l Z a0 hw r137 r147 h91 n0 Y147.sz) (argsL := [(.long r137), (.long r147)]) (rest := []) rfl rfl (lenOf pd_12 rfl) rfl (by decide) (nle rfl) (by decide) (by decide) at_150 rfl (fun v150 T150 h150 Y150 q150 => ?_)
    obtain ⟨r150, rfl, p150, rfl⟩ := q150
    show Gl p e below _ (T150.setTop (mkF m 153 _ [(.long r150)]))
    refine Gl.lstore Y150 (L' := #[.val (.int kk), .val (.long aa), .second, .val (.long bb), .second, .val (.long cc), .second, .val (.int 3), .val (.ref b5), .val (.double (dq r073)), .second, .val (.double (dq r281)), .second, .val (.double (dq r191)), .second, .val (.long r113), .second, .val (.long r120), .second, .val (.long r150), .second]) rfl at_153 rfl ?_
    refine Gl.lload Y150 rfl at_155 rfl ?_
    refine Gl.lload Y150 rfl at_157 rfl ?_
    refine Gl.callS Y150 (tw_86 hw) (tw_87 hw) (tw_35 hw) (tw_88 hw) (by decide) (rm57 l Z a0 hw r113 cc h91 n0 Y150.sz) (argsL := [(.long r113), (.long cc)]) (rest := []) rfl rfl (lenOf pd_12 rfl) rfl (by decide) (nle rfl) (by decide) (by decide) at_159 rfl (fun v159 T159 h159 Y159 q159 => ?_)
    obtain ⟨r159, rfl, p159, rfl⟩ := q159
    show Gl p e below _ (T159.setTop (mkF m 162 _ [(.long r159)]))
    refine Gl.lstore Y159 (L' := #[.val (.int kk), .val (.long aa), .second, .val (.long bb), .second, .val (.long cc), .second, .val (.int 3), .val (.ref b5), .val (.double (dq r073)), .second, .val (.double (dq r281)), .second, .val (.double (dq r191)), .second, .val (.long r159), .second, .val (.long r120), .second, .val (.long r150), .second]) rfl at_162 rfl ?_
    refine Gl.lload Y159 rfl at_164 rfl ?_
    refine Gl.lload Y159 rfl at_166 rfl ?_
    refine Gl.callS Y159 (tw_89 hw) (tw_90 hw) (tw_35 hw) (tw_91 hw) (by decide) (rm58 l Z a0 hw r120 cc h91 n0 Y159.sz) (argsL := [(.long r120), (.long cc)]) (rest := []) rfl rfl (lenOf pd_12 rfl) rfl (by decide) (nle rfl) (by decide) (by decide) at_168 rfl (fun v168 T168 h168 Y168 q168 => ?_)
    obtain ⟨r168, rfl, p168, rfl⟩ := q168
    show Gl p e below _ (T168.setTop (mkF m 171 _ [(.long r168)]))
    refine Gl.lstore Y168 (L' := #[.val (.int kk), .val (.long aa), .second, .val (.long bb), .second, .val (.long cc), .second, .val (.int 3), .val (.ref b5), .val (.double (dq r073)), .second, .val (.double (dq r281)), .second, .val (.double (dq r191)), .second, .val (.long r159), .second, .val (.long r168), .second, .val (.long r150), .second]) rfl at_171 rfl ?_
    refine Gl.dload Y168 rfl at_173 rfl ?_
    refine Gl.lload Y168 rfl at_175 rfl ?_
    refine Gl.l2d Y168 rfl at_177 rfl ?_
    refine Gl.ldcD Y168 (tw_92 hw) at_178 rfl ?_
    refine Gl.ddiv Y168 (own_nn r159) (r := dq r159) rfl at_181 rfl ?_
    refine Gl.dcmp Y168 (v := (0 : Int32)) (own_dc (own_3lo p73 p113 p159)) at_182 rfl ?_
    refine Gl.ifne Y168 at_183 (by decide) rfl rfl (fun c183 => ?_) (fun c183 => ?_)
    · exact absurd c183 (by decide)
    refine Gl.dload Y168 rfl at_186 rfl ?_
    refine Gl.lload Y168 rfl at_188 rfl ?_
    refine Gl.l2d Y168 rfl at_190 rfl ?_
    refine Gl.ldcD Y168 (tw_92 hw) at_191 rfl ?_
    refine Gl.ddiv Y168 (own_nn r168) (r := dq r168) rfl at_194 rfl ?_
    refine Gl.dcmp Y168 (v := (0 : Int32)) (own_dc (own_3hi p81 p120 p168)) at_195 rfl ?_
    refine Gl.ifne Y168 at_196 (by decide) rfl rfl (fun c196 => ?_) (fun c196 => ?_)
    · exact absurd c196 (by decide)
    refine Gl.dload Y168 rfl at_199 rfl ?_
    refine Gl.lload Y168 rfl at_201 rfl ?_
    refine Gl.l2d Y168 rfl at_203 rfl ?_
    refine Gl.ldcD Y168 (tw_92 hw) at_204 rfl ?_
    refine Gl.ddiv Y168 (own_nn r150) (r := dq r150) rfl at_207 rfl ?_
    refine Gl.dcmp Y168 (v := (0 : Int32)) (own_dc (own_3md p91 p137 p142 p147 p150)) at_208 rfl ?_
    refine Gl.ifne Y168 at_209 (by decide) rfl rfl (fun c209 => ?_) (fun c209 => ?_)
    · exact absurd c209 (by decide)
    refine Gl.iconst Y168 (v := (1 : Int32)) (by decide) at_212 rfl ?_
    refine Gl.goto Y168 at_213 (by decide) rfl ?_
    exact Gl.retZ Y168 (by decide) (by decide) (x' := (1 : Int32)) (by decide) at_217 rfl
set_option maxRecDepth 65536 in
set_option maxHeartbeats 40000000 in
theorem comes_1 {Post : Tables → Env → Array Value → State → Outcome → State → Prop} (hpost : ∀ tb e args s v u, (limb_1_1.after args s (.returned v) u = true ∧ limb_1_2.after args s (.returned v) u = true ∧ True) → FrameEnd s (.returned v) u (Jvm.fieldLocs frame_1_writes args s ++ Jvm.arrayLocs frame_1_arrays args s ++ Jvm.staticLocs frame_1_statics s) 24 2176 → Post tb e args s (.returned v) u) :
    ArmFor flags0 classFile x code maxLocals ret World_1 tables_1 room_1 Calls_1 rest_1 Pre_1 Post := by
  intro l hfl _ _ p e ha hc hk s m args below hf hA hF happ hP
  obtain ⟨hcalls, hrest, hpre⟩ := hP
  obtain ⟨-, -, -, hnamed, -, -, -, hat⟩ := (Spec.applies_iff hf).mp happ
  obtain ⟨hg, hn⟩ := and_e (Cond.before_iff.mp (show (Jvm.Cond.and given_1 narrow_1).before args s = true from hpre))
  obtain ⟨a0, g0⟩ := and_e hg
  obtain ⟨a1, g1⟩ := and_e g0
  obtain ⟨a2, g2⟩ := and_e g1
  obtain ⟨a3, g3⟩ := and_e g2
  obtain ⟨w0, w1, w2, w3, rfl⟩ : ∃ w0 w1 w2 w3 : Value, args = #[w0, w1, w2, w3] := by
    have hs : args.size = 4 := by simpa [Cond.value, given_1] using a0
    obtain ⟨L⟩ := args
    match L, hs with
    | [w0, w1, w2, w3], _ => exact ⟨w0, w1, w2, w3, rfl⟩
  have hw := fun d (hd : d ∈ tables_1) => atoms_spec (ws := Jvm.Cond.code x code maxLocals ret :: tables_1) hat d (List.mem_cons_of_mem _ hd)
  have hfit : Fit s := fun {y c} hc i hi => by
    obtain ⟨ha, rfl⟩ := Array.getElem?_eq_some_iff.mp hc
    have q := List.all_eq_true.mp ((Array.all_eq_true_iff_forall_mem.mp hF) _ (Array.getElem_mem ha)) i (List.mem_range.mpr hi)
    simpa [Array.getElem?_eq_getElem hi] using q
  obtain ⟨i0, e0⟩ := is_v a1
  obtain rfl : w0 = (.int i0) := Option.some.inj e0
  obtain ⟨i1, e1⟩ := isL_v a2
  obtain rfl : w1 = (.long i1) := Option.some.inj e1
  obtain ⟨i2, e2⟩ := isL_v a3
  obtain rfl : w2 = (.long i2) := Option.some.inj e2
  obtain ⟨i3, e3⟩ := isL_v g3
  obtain rfl : w3 = (.long i3) := Option.some.inj e3
  have hs := (atoms_of jdkStatics_1 (show (jdkStatics_1.foldr Jvm.Cond.and restOwn_1).before _ s = true from hrest)).1
  have S_a := Sta.start (own_eqI (Cond.before_iff.mp (hs _ (List.mem_of_getElem? (i := 2) rfl)))) (Or.inl (hs _ (List.mem_of_getElem? (i := 1) rfl)))
  obtain ⟨n, o, h1, h2, h3, v, L, rfl, ⟨hv, N⟩, hq⟩ := rmL l s _ hw tables_1 i0 i1 i2 i3 s.heap s.heap.size (Nat.le_refl _) (Old.start s) S_a p e ha hc hk s m _ below hf ((Spec.applies_iff_loose hf).mp happ).1 ⟨rfl, State.Warmed39.refl s, rfl⟩ trivial
  obtain rfl : v = some (.int 1) := hv
  refine ⟨n, _, h1, h2, h3, hpost _ _ _ _ _ _ ⟨Cond.after_iff.mpr rfl, Cond.after_iff.mpr (eq_i res_at (Term.int_eval (1)) rfl), trivial⟩ ⟨hq.1, hq.2.1, (hq.2.2.sift fun y hy => Or.inr (N y hy)).mono (by decide) (by decide)⟩⟩
theorem main_1_1 : Claimed_1_1 := comes_1 fun _ _ _ _ _ _ h hF => ⟨h.1, hF⟩
theorem main_1_2 : Claimed_1_2 := comes_1 fun _ _ _ _ _ _ h hF => ⟨h.2.1, hF⟩
end Jvm.Pilot.@@N@@
namespace Jvm.Pilot.@@N@@
open Jvm Jvm.ClassFile Sem Op Lib Jvm.Free Jvm.Stand Jvm.Pilot.@@N@@.Jvm.D
/-! MADE BY PROGRAM (witnessworld.py) out of the Statement's table words and the real class files: 21 classes; the members and pool entries that the words name. The judged class is class 1, her method 1. -/
namespace start1
open Jvm.ClassFile
def u (s : String) : CpInfo := .utf8 (stringToUtf16 s)
/-- a pool by its gaps: so many unusable entries, then the entry; so many at the end -/
def gap : Nat → List CpInfo → List CpInfo
  | 0, r => r
  | n + 1, r => .unusable :: gap n r
def poolList (es : List (Nat × CpInfo)) (last : Nat) : List CpInfo := es.foldr (fun e r => gap e.1 (e.2 :: r)) (gap last [])
def pool (es : List (Nat × CpInfo)) (last : Nat) : Array CpInfo := ⟨poolList es last⟩
def fileOf (pool : Array CpInfo) (this : Nat) (attrs : Array Attribute := #[]) (ms : Array MethodInfo := #[]) (fl : Nat := 33) (sup : Nat := 0) (ifs : Array Nat := #[]) (fds : Array FieldInfo := #[]) : ClassFile where
  minorVersion := 0
  majorVersion := 65
  constantPool := pool
  accessFlags := fl
  thisClass := this
  superClass := sup
  interfaces := ifs
  fields := fds
  methods := ms
  attributes := attrs
def plain (name : String) (sup : Option ClassId) : Class where
  name := name
  kind := .ordinary
  loader := none
  accessFlags := 33
  super := sup
  interfaces := #[]
  cf := none
  fields := #[]
  methods := #[]
  instanceTypes := #[]
  staticTypes := #[]
  resolved := #[]
  callSites := []
  init := .initialized
  statics := none
  mirror := none

def pool0 : Array CpInfo := pool [(5, u "<init>"), (0, u "()V"), (1, .class_ 10), (1, u "java/lang/Object")] 113

def k0c0 : Code := { maxStack := 0, maxLocals := 1, code := object_method_1_code, exceptionTable := #[], attributes := #[] }
def k0m0 : Method := { name := "<init>", desc := "()V", sig := { parameters := [], returnType := none }, accessFlags := 1, code := some k0c0 }
/-- java/lang/Object -/
def k0 : Class := { plain "java/lang/Object" none with
  accessFlags := 33
  interfaces := #[]
  cf := some (fileOf pool0 8 #[] #[{ accessFlags := 1, nameIndex := 5, descriptorIndex := 6, attributes := #[] }] 33 0 #[] #[])
  fields := #[]
  methods := #[k0m0]
  instanceTypes := #[]
  staticTypes := #[]
  resolved := Array.replicate 124 none
  statics := none }

def pool1 : Array CpInfo := pool [(2, .class_ 4), (0, .nameAndType 5 6), (0, u "java/lang/Object"), (0, u "<init>"), (0, u "()V"), (0, .class_ 8), (0, u "com/example/impatiens/impatiens/loadtool/Latencies"), (0, .methodref 7 3), (0, .methodref 7 11), (0, .nameAndType 12 13), (0, u "add"), (0, u "(J)V"), (0, .methodref 7 15), (0, .nameAndType 16 17), (0, u "count"), (0, u "()I"), (0, .methodref 7 19), (0, .nameAndType 20 21), (0, u "percentileMs"), (0, u "(D)D"), (0, .double 4602678819172646912), (1, .methodref 25 26), (0, .class_ 27), (0, .nameAndType 28 29), (0, u "java/lang/Math"), (0, u "min"), (0, u "(JJ)J"), (0, .methodref 25 31), (0, .nameAndType 32 29), (0, u "max"), (0, .double 4696837146684686336), (1, .class_ 36), (0, u "com/example/impatiens/impatiens/loadtool/LatenciesAddPinLaw"), (2, u "law"), (0, u "(IJJJ)Z")] 3

def k1m0 : Method := { name := "<init>", desc := "()V", sig := { parameters := [], returnType := none }, accessFlags := 1, code := none }
def k1c1 : Code := { maxStack := 6, maxLocals := 21, code := code, exceptionTable := #[], attributes := #[] }
def k1m1 : Method := { name := "law", desc := "(IJJJ)Z", sig := { parameters := [.int, .long, .long, .long], returnType := some .boolean }, accessFlags := 9, code := some k1c1 }
/-- com/example/impatiens/impatiens/loadtool/LatenciesAddPinLaw -/
def k1 : Class := { plain "com/example/impatiens/impatiens/loadtool/LatenciesAddPinLaw" (some 0) with
  accessFlags := 49
  interfaces := #[]
  cf := some (fileOf pool1 35 #[] #[{ accessFlags := 1, nameIndex := 5, descriptorIndex := 6, attributes := #[] }, { accessFlags := 9, nameIndex := 39, descriptorIndex := 40, attributes := #[] }] 49 2 #[] #[])
  fields := #[]
  methods := #[k1m0, k1m1]
  instanceTypes := #[]
  staticTypes := #[]
  resolved := Array.replicate 44 none
  statics := none }

def pool2 : Array CpInfo := pool [(1, .methodref 2 3), (0, .class_ 4), (0, .nameAndType 5 6), (0, u "java/lang/Object"), (0, u "<init>"), (0, u "()V"), (0, .fieldref 8 9), (0, .class_ 10), (0, .nameAndType 11 12), (0, u "com/example/impatiens/impatiens/loadtool/Latencies"), (0, u "nanos"), (0, u "[J"), (0, .fieldref 8 14), (0, .nameAndType 15 16), (0, u "count"), (0, u "I"), (0, .methodref 18 19), (0, .class_ 20), (0, .nameAndType 21 22), (0, u "java/util/Arrays"), (0, u "copyOf"), (0, u "([JI)[J"), (2, .double 9221120237041090560), (1, .methodref 18 28), (0, .nameAndType 29 30), (0, u "sort"), (0, u "([J)V"), (0, .methodref 32 33), (0, .class_ 34), (0, .nameAndType 35 36), (0, u "java/lang/Math"), (0, u "ceil"), (0, u "(D)D"), (0, .methodref 32 38), (0, .nameAndType 39 40), (0, u "max"), (0, u "(II)I"), (0, .double 4696837146684686336), (3, u "add"), (0, u "(J)V"), (1, u "()I"), (0, u "percentileMs")] 2

def k2c0 : Code := { maxStack := 2, maxLocals := 1, code := prog_21_method_1_code, exceptionTable := #[], attributes := #[] }
def k2m0 : Method := { name := "<init>", desc := "()V", sig := { parameters := [], returnType := none }, accessFlags := 0, code := some k2c0 }
def k2c1 : Code := { maxStack := 4, maxLocals := 3, code := prog_21_method_2_code, exceptionTable := #[], attributes := #[] }
def k2m1 : Method := { name := "add", desc := "(J)V", sig := { parameters := [.long], returnType := none }, accessFlags := 0, code := some k2c1 }
def k2c2 : Code := { maxStack := 1, maxLocals := 1, code := prog_21_method_3_code, exceptionTable := #[], attributes := #[] }
def k2m2 : Method := { name := "count", desc := "()I", sig := { parameters := [], returnType := some .int }, accessFlags := 0, code := some k2c2 }
def k2c3 : Code := { maxStack := 4, maxLocals := 5, code := prog_21_method_4_code, exceptionTable := #[], attributes := #[] }
def k2m3 : Method := { name := "percentileMs", desc := "(D)D", sig := { parameters := [.double], returnType := some .double }, accessFlags := 0, code := some k2c3 }
/-- com/example/impatiens/impatiens/loadtool/Latencies -/
def k2 : Class := { plain "com/example/impatiens/impatiens/loadtool/Latencies" (some 0) with
  accessFlags := 48
  interfaces := #[]
  cf := some (fileOf pool2 8 #[] #[{ accessFlags := 0, nameIndex := 5, descriptorIndex := 6, attributes := #[] }, { accessFlags := 0, nameIndex := 45, descriptorIndex := 46, attributes := #[] }, { accessFlags := 0, nameIndex := 15, descriptorIndex := 48, attributes := #[] }, { accessFlags := 0, nameIndex := 49, descriptorIndex := 36, attributes := #[] }] 48 2 #[] #[{ accessFlags := 2, nameIndex := 11, descriptorIndex := 12, attributes := #[] }, { accessFlags := 2, nameIndex := 15, descriptorIndex := 16, attributes := #[] }])
  fields := #[{ name := "nanos", type := (.array .long), accessFlags := 2, slot := 0, constantValue := 0 }, { name := "count", type := .int, accessFlags := 2, slot := 1, constantValue := 0 }]
  methods := #[k2m0, k2m1, k2m2, k2m3]
  instanceTypes := #[(.array .long), .int]
  staticTypes := #[]
  resolved := Array.replicate 52 none
  statics := none }

def pool3 : Array CpInfo := pool [(2, .class_ 4), (1, u "java/lang/Object"), (0, u "<init>"), (0, u "()V"), (1, .class_ 10), (1, u "java/util/DualPivotQuicksort"), (0, u "sort"), (2, .class_ 16), (1, u "java/util/Arrays"), (2, .methodref 8 20), (0, .nameAndType 11 21), (0, u "([JIII)V"), (52, .class_ 76), (1, u "java/util/Arrays$NaturalOrder"), (36, .class_ 115), (1, u "java/util/Arrays$LegacyMergeSort"), (1, u "Z"), (32, .methodref 151 152), (0, .class_ 153), (0, .nameAndType 154 155), (0, u "java/lang/System"), (0, u "arraycopy"), (0, u "(Ljava/lang/Object;ILjava/lang/Object;II)V"), (146, u "copyOf"), (1, .methodref 305 306), (0, .class_ 307), (0, .nameAndType 308 309), (0, u "java/lang/Math"), (0, u "min"), (0, u "(II)I"), (65, .class_ 376), (0, u "java/util/Arrays$ArrayList"), (68, u "$assertionsDisabled"), (269, u "MIN_ARRAY_SORT_GRAN"), (0, u "I"), (2, u "INSERTIONSORT_THRESHOLD"), (11, u "([J)V"), (140, u "([JI)[J"), (102, .class_ 976), (0, u "java/util/Arrays$ArrayItr")] 52

def k3m0 : Method := { name := "<init>", desc := "()V", sig := { parameters := [], returnType := none }, accessFlags := 2, code := none }
def k3c1 : Code := { maxStack := 4, maxLocals := 1, code := jdk_65_method_4_code, exceptionTable := #[], attributes := #[] }
def k3m1 : Method := { name := "sort", desc := "([J)V", sig := { parameters := [(.array .long)], returnType := none }, accessFlags := 9, code := some k3c1 }
def k3c2 : Code := { maxStack := 6, maxLocals := 3, code := jdk_65_method_124_code, exceptionTable := #[], attributes := #[] }
def k3m2 : Method := { name := "copyOf", desc := "([JI)[J", sig := { parameters := [(.array .long), .int], returnType := some (.array .long) }, accessFlags := 9, code := some k3c2 }
/-- java/util/Arrays -/
def k3 : Class := { plain "java/util/Arrays" (some 0) with
  accessFlags := 49
  interfaces := #[]
  cf := some (fileOf pool3 14 #[.nestMembers #[975, 375, 113, 74]] #[{ accessFlags := 2, nameIndex := 5, descriptorIndex := 6, attributes := #[] }, { accessFlags := 9, nameIndex := 11, descriptorIndex := 731, attributes := #[] }, { accessFlags := 9, nameIndex := 302, descriptorIndex := 872, attributes := #[] }] 49 2 #[] #[{ accessFlags := 26, nameIndex := 715, descriptorIndex := 716, attributes := #[] }, { accessFlags := 26, nameIndex := 719, descriptorIndex := 716, attributes := #[] }, { accessFlags := 4120, nameIndex := 445, descriptorIndex := 117, attributes := #[] }])
  fields := #[{ name := "MIN_ARRAY_SORT_GRAN", type := .int, accessFlags := 26, slot := 0, constantValue := 0 }, { name := "INSERTIONSORT_THRESHOLD", type := .int, accessFlags := 26, slot := 1, constantValue := 0 }, { name := "$assertionsDisabled", type := .boolean, accessFlags := 4120, slot := 2, constantValue := 0 }]
  methods := #[k3m0, k3m1, k3m2]
  instanceTypes := #[]
  staticTypes := #[.int, .int, .boolean]
  resolved := Array.replicate 1029 none
  statics := none }

def pool4 : Array CpInfo := pool [(1, .class_ 2), (0, u "java/lang/Math"), (1, .class_ 6), (1, u "java/lang/Object"), (0, u "<init>"), (0, u "()V"), (1, .class_ 12), (1, u "java/lang/StrictMath"), (1, u "(D)D"), (38, .methodref 10 54), (0, .nameAndType 55 14), (0, u "ceil"), (23, .methodref 80 81), (0, .class_ 82), (0, .nameAndType 83 84), (0, u "java/lang/Double"), (0, u "doubleToRawLongBits"), (0, u "(D)J"), (2, .long 9218868437227405312), (10, .class_ 100), (1, u "java/lang/Math$RandomNumberGeneratorHolder"), (20, u "(JJ)J"), (50, u "negativeZeroFloatBits"), (0, u "J"), (2, u "negativeZeroDoubleBits"), (21, u "max"), (2, u "min"), (43, u "$assertionsDisabled"), (0, u "Z"), (33, u "getExponent"), (0, u "(D)I"), (40, .long 1023), (12, u "(II)I"), (2, u "twoToTheDoubleScaleDown"), (0, u "D"), (4, u "twoToTheDoubleScaleUp"), (9, u "E"), (3, u "PI"), (2, u "TAU"), (2, u "DEGREES_TO_RADIANS"), (0, u "RADIANS_TO_DEGREES")] 94

def k4m0 : Method := { name := "<init>", desc := "()V", sig := { parameters := [], returnType := none }, accessFlags := 2, code := none }
def k4c1 : Code := { maxStack := 2, maxLocals := 2, code := jdk_29_method_16_code, exceptionTable := #[], attributes := #[] }
def k4m1 : Method := { name := "ceil", desc := "(D)D", sig := { parameters := [.double], returnType := some .double }, accessFlags := 9, code := some k4c1 }
def k4c2 : Code := { maxStack := 2, maxLocals := 2, code := jdk_29_method_65_code, exceptionTable := #[], attributes := #[] }
def k4m2 : Method := { name := "max", desc := "(II)I", sig := { parameters := [.int, .int], returnType := some .int }, accessFlags := 9, code := some k4c2 }
def k4c3 : Code := { maxStack := 4, maxLocals := 4, code := jdk_29_method_66_code, exceptionTable := #[], attributes := #[] }
def k4m3 : Method := { name := "max", desc := "(JJ)J", sig := { parameters := [.long, .long], returnType := some .long }, accessFlags := 9, code := some k4c3 }
def k4c4 : Code := { maxStack := 2, maxLocals := 2, code := jdk_29_method_69_code, exceptionTable := #[], attributes := #[] }
def k4m4 : Method := { name := "min", desc := "(II)I", sig := { parameters := [.int, .int], returnType := some .int }, accessFlags := 9, code := some k4c4 }
def k4c5 : Code := { maxStack := 4, maxLocals := 4, code := jdk_29_method_70_code, exceptionTable := #[], attributes := #[] }
def k4m5 : Method := { name := "min", desc := "(JJ)J", sig := { parameters := [.long, .long], returnType := some .long }, accessFlags := 9, code := some k4c5 }
def k4c6 : Code := { maxStack := 4, maxLocals := 2, code := jdk_29_method_92_code, exceptionTable := #[], attributes := #[] }
def k4m6 : Method := { name := "getExponent", desc := "(D)I", sig := { parameters := [.double], returnType := some .int }, accessFlags := 9, code := some k4c6 }
/-- java/lang/Math -/
def k4 : Class := { plain "java/lang/Math" (some 0) with
  accessFlags := 49
  interfaces := #[]
  cf := some (fileOf pool4 1 #[.nestMembers #[98]] #[{ accessFlags := 2, nameIndex := 7, descriptorIndex := 8, attributes := #[] }, { accessFlags := 9, nameIndex := 55, descriptorIndex := 14, attributes := #[] }, { accessFlags := 9, nameIndex := 198, descriptorIndex := 335, attributes := #[] }, { accessFlags := 9, nameIndex := 198, descriptorIndex := 121, attributes := #[] }, { accessFlags := 9, nameIndex := 201, descriptorIndex := 335, attributes := #[] }, { accessFlags := 9, nameIndex := 201, descriptorIndex := 121, attributes := #[] }, { accessFlags := 9, nameIndex := 280, descriptorIndex := 281, attributes := #[] }] 49 4 #[] #[{ accessFlags := 25, nameIndex := 354, descriptorIndex := 339, attributes := #[] }, { accessFlags := 25, nameIndex := 358, descriptorIndex := 339, attributes := #[] }, { accessFlags := 25, nameIndex := 361, descriptorIndex := 339, attributes := #[] }, { accessFlags := 26, nameIndex := 364, descriptorIndex := 339, attributes := #[] }, { accessFlags := 26, nameIndex := 365, descriptorIndex := 339, attributes := #[] }, { accessFlags := 26, nameIndex := 172, descriptorIndex := 173, attributes := #[] }, { accessFlags := 26, nameIndex := 176, descriptorIndex := 173, attributes := #[] }, { accessFlags := 8, nameIndex := 344, descriptorIndex := 339, attributes := #[] }, { accessFlags := 8, nameIndex := 338, descriptorIndex := 339, attributes := #[] }, { accessFlags := 4120, nameIndex := 245, descriptorIndex := 246, attributes := #[] }])
  fields := #[{ name := "E", type := .double, accessFlags := 25, slot := 0, constantValue := 0 }, { name := "PI", type := .double, accessFlags := 25, slot := 1, constantValue := 0 }, { name := "TAU", type := .double, accessFlags := 25, slot := 2, constantValue := 0 }, { name := "DEGREES_TO_RADIANS", type := .double, accessFlags := 26, slot := 3, constantValue := 0 }, { name := "RADIANS_TO_DEGREES", type := .double, accessFlags := 26, slot := 4, constantValue := 0 }, { name := "negativeZeroFloatBits", type := .long, accessFlags := 26, slot := 5, constantValue := 0 }, { name := "negativeZeroDoubleBits", type := .long, accessFlags := 26, slot := 6, constantValue := 0 }, { name := "twoToTheDoubleScaleUp", type := .double, accessFlags := 8, slot := 7, constantValue := 0 }, { name := "twoToTheDoubleScaleDown", type := .double, accessFlags := 8, slot := 8, constantValue := 0 }, { name := "$assertionsDisabled", type := .boolean, accessFlags := 4120, slot := 9, constantValue := 0 }]
  methods := #[k4m0, k4m1, k4m2, k4m3, k4m4, k4m5, k4m6]
  instanceTypes := #[]
  staticTypes := #[.double, .double, .double, .double, .double, .long, .long, .double, .double, .boolean]
  resolved := Array.replicate 460 none
  statics := none }

def pool5 : Array CpInfo := pool [(2, .class_ 4), (1, u "java/lang/Object"), (0, u "<init>"), (0, u "()V"), (1, .class_ 10), (1, u "java/lang/System"), (0, u "allowSecurityManager"), (0, u "I"), (16, u "cons"), (0, u "Ljava/io/Console;"), (77, .class_ 110), (1, u "java/lang/System$CallersHolder"), (43, u "initialErrStream"), (0, u "Ljava/io/PrintStream;"), (19, u "security"), (0, u "Ljava/lang/SecurityManager;"), (31, .class_ 209), (0, u "java/lang/System$1"), (7, u "props"), (0, u "Ljava/util/Properties;"), (2, u "lineSeparator"), (0, u "Ljava/lang/String;"), (96, .class_ 321), (1, u "java/lang/System$LoggerFinder"), (5, .class_ 328), (0, u "java/lang/System$Logger"), (67, u "err"), (2, u "out"), (91, u "notSupportedJnuEncoding"), (15, u "in"), (17, u "initialIn"), (0, u "Ljava/io/InputStream;"), (35, u "bootLayer"), (0, u "Ljava/lang/ModuleLayer;"), (99, .class_ 664), (0, u "java/lang/System$2"), (9, u "NEVER"), (2, u "MAYBE"), (49, u "arraycopy"), (0, u "(Ljava/lang/Object;ILjava/lang/Object;II)V"), (72, .class_ 802), (0, u "java/lang/System$Logger$Level")] 31

def k5m0 : Method := { name := "<init>", desc := "()V", sig := { parameters := [], returnType := none }, accessFlags := 2, code := none }
def k5m1 : Method := { name := "arraycopy", desc := "(Ljava/lang/Object;ILjava/lang/Object;II)V", sig := { parameters := [(.object "java/lang/Object"), .int, (.object "java/lang/Object"), .int, .int], returnType := none }, accessFlags := 265, code := none }
/-- java/lang/System -/
def k5 : Class := { plain "java/lang/System" (some 0) with
  accessFlags := 49
  interfaces := #[]
  cf := some (fileOf pool5 8 #[.nestMembers #[319, 327, 801, 108, 663, 208]] #[{ accessFlags := 2, nameIndex := 5, descriptorIndex := 6, attributes := #[] }, { accessFlags := 265, nameIndex := 727, descriptorIndex := 728, attributes := #[] }] 49 2 #[] #[{ accessFlags := 25, nameIndex := 507, descriptorIndex := 526, attributes := #[] }, { accessFlags := 25, nameIndex := 399, descriptorIndex := 155, attributes := #[] }, { accessFlags := 25, nameIndex := 396, descriptorIndex := 155, attributes := #[] }, { accessFlags := 10, nameIndex := 525, descriptorIndex := 526, attributes := #[] }, { accessFlags := 26, nameIndex := 674, descriptorIndex := 12, attributes := #[] }, { accessFlags := 26, nameIndex := 677, descriptorIndex := 12, attributes := #[] }, { accessFlags := 10, nameIndex := 11, descriptorIndex := 12, attributes := #[] }, { accessFlags := 74, nameIndex := 175, descriptorIndex := 176, attributes := #[] }, { accessFlags := 10, nameIndex := 491, descriptorIndex := 222, attributes := #[] }, { accessFlags := 74, nameIndex := 29, descriptorIndex := 30, attributes := #[] }, { accessFlags := 74, nameIndex := 154, descriptorIndex := 155, attributes := #[] }, { accessFlags := 10, nameIndex := 217, descriptorIndex := 218, attributes := #[] }, { accessFlags := 10, nameIndex := 221, descriptorIndex := 222, attributes := #[] }, { accessFlags := 8, nameIndex := 562, descriptorIndex := 563, attributes := #[] }])
  fields := #[{ name := "in", type := (.object "java/io/InputStream"), accessFlags := 25, slot := 0, constantValue := 0 }, { name := "out", type := (.object "java/io/PrintStream"), accessFlags := 25, slot := 1, constantValue := 0 }, { name := "err", type := (.object "java/io/PrintStream"), accessFlags := 25, slot := 2, constantValue := 0 }, { name := "initialIn", type := (.object "java/io/InputStream"), accessFlags := 10, slot := 3, constantValue := 0 }, { name := "NEVER", type := .int, accessFlags := 26, slot := 4, constantValue := 0 }, { name := "MAYBE", type := .int, accessFlags := 26, slot := 5, constantValue := 0 }, { name := "allowSecurityManager", type := .int, accessFlags := 10, slot := 6, constantValue := 0 }, { name := "security", type := (.object "java/lang/SecurityManager"), accessFlags := 74, slot := 7, constantValue := 0 }, { name := "notSupportedJnuEncoding", type := (.object "java/lang/String"), accessFlags := 10, slot := 8, constantValue := 0 }, { name := "cons", type := (.object "java/io/Console"), accessFlags := 74, slot := 9, constantValue := 0 }, { name := "initialErrStream", type := (.object "java/io/PrintStream"), accessFlags := 74, slot := 10, constantValue := 0 }, { name := "props", type := (.object "java/util/Properties"), accessFlags := 10, slot := 11, constantValue := 0 }, { name := "lineSeparator", type := (.object "java/lang/String"), accessFlags := 10, slot := 12, constantValue := 0 }, { name := "bootLayer", type := (.object "java/lang/ModuleLayer"), accessFlags := 8, slot := 13, constantValue := 0 }]
  methods := #[k5m0, k5m1]
  instanceTypes := #[]
  staticTypes := #[(.object "java/io/InputStream"), (.object "java/io/PrintStream"), (.object "java/io/PrintStream"), (.object "java/io/InputStream"), .int, .int, .int, (.object "java/lang/SecurityManager"), (.object "java/lang/String"), (.object "java/io/Console"), (.object "java/io/PrintStream"), (.object "java/util/Properties"), (.object "java/lang/String"), (.object "java/lang/ModuleLayer")]
  resolved := Array.replicate 834 none
  statics := none }

def pool6 : Array CpInfo := pool [(1, .class_ 2), (0, u "java/util/DualPivotQuicksort"), (5, .class_ 10), (1, u "java/lang/Object"), (0, u "<init>"), (0, u "()V"), (4, .class_ 18), (0, u "java/util/DualPivotQuicksort$Sorter"), (9, u "sort"), (7, u "insertionSort"), (31, u "I"), (4, .class_ 74), (0, u "java/util/DualPivotQuicksort$RunMerger"), (10, .class_ 86), (0, u "java/util/DualPivotQuicksort$Merger"), (12, .methodref 1 100), (0, .nameAndType 28 101), (0, u "(Ljava/util/DualPivotQuicksort$Sorter;[JIII)V"), (2, u "([JIII)V"), (0, .methodref 1 106), (0, .nameAndType 36 107), (0, u "([JII)V"), (106, u "MAX_MIXED_INSERTION_SORT_SIZE"), (2, u "MAX_INSERTION_SORT_SIZE"), (1, u "MIN_PARALLEL_SORT_SIZE"), (1, u "MIN_TRY_MERGE_SIZE"), (0, u "MIN_FIRST_RUN_SIZE"), (1, u "MIN_FIRST_RUNS_FACTOR"), (1, u "MAX_RUN_CAPACITY"), (1, u "MIN_RUN_COUNT"), (1, u "MIN_PARALLEL_MERGE_PARTS_SIZE"), (0, u "MIN_BYTE_COUNTING_SORT_SIZE"), (1, u "MIN_SHORT_OR_CHAR_COUNTING_SORT_SIZE"), (1, u "DELTA"), (1, u "MAX_RECURSION_DEPTH"), (1, u "NUM_BYTE_VALUES"), (1, u "MAX_BYTE_INDEX"), (0, u "NUM_CHAR_VALUES"), (0, u "NUM_SHORT_VALUES"), (0, u "MAX_SHORT_INDEX")] 86

def k6m0 : Method := { name := "<init>", desc := "()V", sig := { parameters := [], returnType := none }, accessFlags := 2, code := none }
def k6c1 : Code := { maxStack := 9, maxLocals := 7, code := jdk_2529_method_12_code, exceptionTable := #[], attributes := #[] }
def k6m1 : Method := { name := "sort", desc := "([JIII)V", sig := { parameters := [(.array .long), .int, .int, .int], returnType := none }, accessFlags := 8, code := some k6c1 }
def k6c2 : Code := { maxStack := 6, maxLocals := 25, code := jdk_2529_method_13_code, exceptionTable := #[], attributes := #[] }
def k6m2 : Method := { name := "sort", desc := "(Ljava/util/DualPivotQuicksort$Sorter;[JIII)V", sig := { parameters := [(.object "java/util/DualPivotQuicksort$Sorter"), (.array .long), .int, .int, .int], returnType := none }, accessFlags := 8, code := some k6c2 }
def k6c3 : Code := { maxStack := 5, maxLocals := 7, code := jdk_2529_method_15_code, exceptionTable := #[], attributes := #[] }
def k6m3 : Method := { name := "insertionSort", desc := "([JII)V", sig := { parameters := [(.array .long), .int, .int], returnType := none }, accessFlags := 10, code := some k6c3 }
/-- java/util/DualPivotQuicksort -/
def k6 : Class := { plain "java/util/DualPivotQuicksort" (some 0) with
  accessFlags := 48
  interfaces := #[]
  cf := some (fileOf pool6 1 #[.nestMembers #[73, 85, 17]] #[{ accessFlags := 2, nameIndex := 11, descriptorIndex := 12, attributes := #[] }, { accessFlags := 8, nameIndex := 28, descriptorIndex := 104, attributes := #[] }, { accessFlags := 8, nameIndex := 28, descriptorIndex := 101, attributes := #[] }, { accessFlags := 10, nameIndex := 36, descriptorIndex := 107, attributes := #[] }] 48 8 #[] #[{ accessFlags := 26, nameIndex := 214, descriptorIndex := 68, attributes := #[] }, { accessFlags := 26, nameIndex := 217, descriptorIndex := 68, attributes := #[] }, { accessFlags := 26, nameIndex := 219, descriptorIndex := 68, attributes := #[] }, { accessFlags := 26, nameIndex := 221, descriptorIndex := 68, attributes := #[] }, { accessFlags := 26, nameIndex := 222, descriptorIndex := 68, attributes := #[] }, { accessFlags := 26, nameIndex := 224, descriptorIndex := 68, attributes := #[] }, { accessFlags := 26, nameIndex := 226, descriptorIndex := 68, attributes := #[] }, { accessFlags := 26, nameIndex := 228, descriptorIndex := 68, attributes := #[] }, { accessFlags := 26, nameIndex := 230, descriptorIndex := 68, attributes := #[] }, { accessFlags := 26, nameIndex := 231, descriptorIndex := 68, attributes := #[] }, { accessFlags := 26, nameIndex := 233, descriptorIndex := 68, attributes := #[] }, { accessFlags := 26, nameIndex := 235, descriptorIndex := 68, attributes := #[] }, { accessFlags := 26, nameIndex := 237, descriptorIndex := 68, attributes := #[] }, { accessFlags := 26, nameIndex := 239, descriptorIndex := 68, attributes := #[] }, { accessFlags := 26, nameIndex := 241, descriptorIndex := 68, attributes := #[] }, { accessFlags := 26, nameIndex := 242, descriptorIndex := 68, attributes := #[] }, { accessFlags := 26, nameIndex := 243, descriptorIndex := 68, attributes := #[] }, { accessFlags := 26, nameIndex := 244, descriptorIndex := 68, attributes := #[] }])
  fields := #[{ name := "MAX_MIXED_INSERTION_SORT_SIZE", type := .int, accessFlags := 26, slot := 0, constantValue := 0 }, { name := "MAX_INSERTION_SORT_SIZE", type := .int, accessFlags := 26, slot := 1, constantValue := 0 }, { name := "MIN_PARALLEL_SORT_SIZE", type := .int, accessFlags := 26, slot := 2, constantValue := 0 }, { name := "MIN_TRY_MERGE_SIZE", type := .int, accessFlags := 26, slot := 3, constantValue := 0 }, { name := "MIN_FIRST_RUN_SIZE", type := .int, accessFlags := 26, slot := 4, constantValue := 0 }, { name := "MIN_FIRST_RUNS_FACTOR", type := .int, accessFlags := 26, slot := 5, constantValue := 0 }, { name := "MAX_RUN_CAPACITY", type := .int, accessFlags := 26, slot := 6, constantValue := 0 }, { name := "MIN_RUN_COUNT", type := .int, accessFlags := 26, slot := 7, constantValue := 0 }, { name := "MIN_PARALLEL_MERGE_PARTS_SIZE", type := .int, accessFlags := 26, slot := 8, constantValue := 0 }, { name := "MIN_BYTE_COUNTING_SORT_SIZE", type := .int, accessFlags := 26, slot := 9, constantValue := 0 }, { name := "MIN_SHORT_OR_CHAR_COUNTING_SORT_SIZE", type := .int, accessFlags := 26, slot := 10, constantValue := 0 }, { name := "DELTA", type := .int, accessFlags := 26, slot := 11, constantValue := 0 }, { name := "MAX_RECURSION_DEPTH", type := .int, accessFlags := 26, slot := 12, constantValue := 0 }, { name := "NUM_BYTE_VALUES", type := .int, accessFlags := 26, slot := 13, constantValue := 0 }, { name := "MAX_BYTE_INDEX", type := .int, accessFlags := 26, slot := 14, constantValue := 0 }, { name := "NUM_CHAR_VALUES", type := .int, accessFlags := 26, slot := 15, constantValue := 0 }, { name := "NUM_SHORT_VALUES", type := .int, accessFlags := 26, slot := 16, constantValue := 0 }, { name := "MAX_SHORT_INDEX", type := .int, accessFlags := 26, slot := 17, constantValue := 0 }]
  methods := #[k6m0, k6m1, k6m2, k6m3]
  instanceTypes := #[]
  staticTypes := #[.int, .int, .int, .int, .int, .int, .int, .int, .int, .int, .int, .int, .int, .int, .int, .int, .int, .int]
  resolved := Array.replicate 331 none
  statics := none }

def pool7 : Array CpInfo := pool [(1, .class_ 2), (0, u "java/lang/StrictMath"), (1, .class_ 6), (1, u "java/lang/Object"), (0, u "<init>"), (0, u "()V"), (5, u "(D)D"), (16, .class_ 33), (1, u "java/lang/Math"), (24, .double 9223372036854775808), (1, .methodref 1 61), (0, .nameAndType 62 63), (0, u "floorOrCeil"), (0, u "(DDDD)D"), (2, .methodref 31 67), (0, .nameAndType 68 69), (0, u "getExponent"), (0, u "(D)I"), (0, .fieldref 1 71), (0, .nameAndType 72 73), (0, u "$assertionsDisabled"), (0, u "Z"), (3, .methodref 78 79), (0, .class_ 80), (0, .nameAndType 81 82), (0, u "java/lang/Double"), (0, u "doubleToRawLongBits"), (0, u "(D)J"), (2, .long 4503599627370495), (1, .long 18446744073709551615), (1, .methodref 78 90), (0, .nameAndType 91 92), (0, u "longBitsToDouble"), (0, u "(J)D"), (21, .class_ 116), (1, u "java/lang/StrictMath$RandomNumberGeneratorHolder"), (222, u "E"), (0, u "D"), (3, u "PI"), (2, u "TAU"), (26, u "ceil")] 61

def k7m0 : Method := { name := "<init>", desc := "()V", sig := { parameters := [], returnType := none }, accessFlags := 2, code := none }
def k7c1 : Code := { maxStack := 8, maxLocals := 2, code := jdk_128_method_16_code, exceptionTable := #[], attributes := #[] }
def k7m1 : Method := { name := "ceil", desc := "(D)D", sig := { parameters := [.double], returnType := some .double }, accessFlags := 9, code := some k7c1 }
def k7c2 : Code := { maxStack := 6, maxLocals := 15, code := jdk_128_method_18_code, exceptionTable := #[], attributes := #[] }
def k7m2 : Method := { name := "floorOrCeil", desc := "(DDDD)D", sig := { parameters := [.double, .double, .double, .double], returnType := some .double }, accessFlags := 10, code := some k7c2 }
/-- java/lang/StrictMath -/
def k7 : Class := { plain "java/lang/StrictMath" (some 0) with
  accessFlags := 49
  interfaces := #[]
  cf := some (fileOf pool7 1 #[.nestMembers #[114]] #[{ accessFlags := 2, nameIndex := 7, descriptorIndex := 8, attributes := #[] }, { accessFlags := 9, nameIndex := 374, descriptorIndex := 14, attributes := #[] }, { accessFlags := 10, nameIndex := 62, descriptorIndex := 63, attributes := #[] }] 49 4 #[] #[{ accessFlags := 25, nameIndex := 339, descriptorIndex := 340, attributes := #[] }, { accessFlags := 25, nameIndex := 344, descriptorIndex := 340, attributes := #[] }, { accessFlags := 25, nameIndex := 347, descriptorIndex := 340, attributes := #[] }, { accessFlags := 4120, nameIndex := 72, descriptorIndex := 73, attributes := #[] }])
  fields := #[{ name := "E", type := .double, accessFlags := 25, slot := 0, constantValue := 0 }, { name := "PI", type := .double, accessFlags := 25, slot := 1, constantValue := 0 }, { name := "TAU", type := .double, accessFlags := 25, slot := 2, constantValue := 0 }, { name := "$assertionsDisabled", type := .boolean, accessFlags := 4120, slot := 3, constantValue := 0 }]
  methods := #[k7m0, k7m1, k7m2]
  instanceTypes := #[]
  staticTypes := #[.double, .double, .double, .boolean]
  resolved := Array.replicate 436 none
  statics := some 0 }

def pool8 : Array CpInfo := pool [(1, .class_ 2), (0, u "java/io/Serializable"), (0, .class_ 4), (0, u "java/lang/Object")] 2

/-- java/io/Serializable -/
def k8 : Class := { plain "java/io/Serializable" (some 0) with
  accessFlags := 1537
  interfaces := #[]
  cf := some (fileOf pool8 1 #[] #[] 1537 3 #[] #[])
  fields := #[]
  methods := #[]
  instanceTypes := #[]
  staticTypes := #[]
  resolved := Array.replicate 7 none
  statics := none }

def pool9 : Array CpInfo := pool [(2, .class_ 4), (1, u "java/lang/Object"), (0, u "<init>"), (0, u "()V"), (1, .class_ 10), (1, u "java/lang/Number"), (2, .class_ 14), (0, u "java/io/Serializable"), (0, u "serialVersionUID"), (0, u "J")] 20

def k9m0 : Method := { name := "<init>", desc := "()V", sig := { parameters := [], returnType := none }, accessFlags := 1, code := none }
/-- java/lang/Number -/
def k9 : Class := { plain "java/lang/Number" (some 0) with
  accessFlags := 1057
  interfaces := #[8]
  cf := some (fileOf pool9 8 #[] #[{ accessFlags := 1, nameIndex := 5, descriptorIndex := 6, attributes := #[] }] 1057 2 #[13] #[{ accessFlags := 26, nameIndex := 15, descriptorIndex := 16, attributes := #[] }])
  fields := #[{ name := "serialVersionUID", type := .long, accessFlags := 26, slot := 0, constantValue := 0 }]
  methods := #[k9m0]
  instanceTypes := #[]
  staticTypes := #[.long]
  resolved := Array.replicate 37 none
  statics := none }

def pool10 : Array CpInfo := pool [(1, .class_ 2), (0, u "java/lang/Comparable"), (0, .class_ 4), (0, u "java/lang/Object")] 7

/-- java/lang/Comparable -/
def k10 : Class := { plain "java/lang/Comparable" (some 0) with
  accessFlags := 1537
  interfaces := #[]
  cf := some (fileOf pool10 1 #[] #[] 1537 3 #[] #[])
  fields := #[]
  methods := #[]
  instanceTypes := #[]
  staticTypes := #[]
  resolved := Array.replicate 12 none
  statics := none }

def pool11 : Array CpInfo := pool [(1, .class_ 2), (0, u "java/lang/constant/Constable"), (0, .class_ 4), (0, u "java/lang/Object")] 6

/-- java/lang/constant/Constable -/
def k11 : Class := { plain "java/lang/constant/Constable" (some 0) with
  accessFlags := 1537
  interfaces := #[]
  cf := some (fileOf pool11 1 #[] #[] 1537 3 #[] #[])
  fields := #[]
  methods := #[]
  instanceTypes := #[]
  staticTypes := #[]
  resolved := Array.replicate 11 none
  statics := none }

def pool12 : Array CpInfo := pool [(1, .class_ 2), (0, u "java/lang/constant/ConstantDesc"), (0, .class_ 4), (0, u "java/lang/Object")] 32

/-- java/lang/constant/ConstantDesc -/
def k12 : Class := { plain "java/lang/constant/ConstantDesc" (some 0) with
  accessFlags := 1537
  interfaces := #[]
  cf := some (fileOf pool12 1 #[] #[] 1537 3 #[] #[])
  fields := #[]
  methods := #[]
  instanceTypes := #[]
  staticTypes := #[]
  resolved := Array.replicate 37 none
  statics := none }

def pool13 : Array CpInfo := pool [(1, .class_ 2), (0, u "java/lang/Double"), (46, u "(D)J"), (64, .class_ 116), (1, u "java/lang/Number"), (3, u "value"), (0, u "D"), (14, u "doubleToRawLongBits"), (36, u "TYPE"), (0, u "Ljava/lang/Class;"), (0, .class_ 176), (0, u "java/lang/Comparable"), (0, .class_ 178), (0, u "java/lang/constant/Constable"), (0, .class_ 180), (0, u "java/lang/constant/ConstantDesc"), (0, u "POSITIVE_INFINITY"), (3, u "NEGATIVE_INFINITY"), (2, u "NaN"), (2, u "MAX_VALUE"), (0, u "MIN_NORMAL"), (0, u "MIN_VALUE"), (2, u "SIZE"), (0, u "I"), (1, u "PRECISION"), (1, u "MAX_EXPONENT"), (1, u "MIN_EXPONENT"), (1, u "BYTES"), (3, u "serialVersionUID"), (0, u "J"), (48, u "longBitsToDouble"), (0, u "(J)D")] 29

def k13m0 : Method := { name := "doubleToRawLongBits", desc := "(D)J", sig := { parameters := [.double], returnType := some .long }, accessFlags := 265, code := none }
def k13m1 : Method := { name := "longBitsToDouble", desc := "(J)D", sig := { parameters := [.long], returnType := some .double }, accessFlags := 265, code := none }
/-- java/lang/Double -/
def k13 : Class := { plain "java/lang/Double" (some 9) with
  accessFlags := 49
  interfaces := #[10, 11, 12]
  cf := some (fileOf pool13 1 #[] #[{ accessFlags := 265, nameIndex := 136, descriptorIndex := 49, attributes := #[] }, { accessFlags := 265, nameIndex := 259, descriptorIndex := 260, attributes := #[] }] 49 114 #[175, 177, 179] #[{ accessFlags := 25, nameIndex := 181, descriptorIndex := 121, attributes := #[] }, { accessFlags := 25, nameIndex := 185, descriptorIndex := 121, attributes := #[] }, { accessFlags := 25, nameIndex := 188, descriptorIndex := 121, attributes := #[] }, { accessFlags := 25, nameIndex := 191, descriptorIndex := 121, attributes := #[] }, { accessFlags := 25, nameIndex := 192, descriptorIndex := 121, attributes := #[] }, { accessFlags := 25, nameIndex := 193, descriptorIndex := 121, attributes := #[] }, { accessFlags := 25, nameIndex := 196, descriptorIndex := 197, attributes := #[] }, { accessFlags := 25, nameIndex := 199, descriptorIndex := 197, attributes := #[] }, { accessFlags := 25, nameIndex := 201, descriptorIndex := 197, attributes := #[] }, { accessFlags := 25, nameIndex := 203, descriptorIndex := 197, attributes := #[] }, { accessFlags := 25, nameIndex := 205, descriptorIndex := 197, attributes := #[] }, { accessFlags := 25, nameIndex := 173, descriptorIndex := 174, attributes := #[] }, { accessFlags := 18, nameIndex := 120, descriptorIndex := 121, attributes := #[] }, { accessFlags := 26, nameIndex := 209, descriptorIndex := 210, attributes := #[] }])
  fields := #[{ name := "POSITIVE_INFINITY", type := .double, accessFlags := 25, slot := 0, constantValue := 0 }, { name := "NEGATIVE_INFINITY", type := .double, accessFlags := 25, slot := 1, constantValue := 0 }, { name := "NaN", type := .double, accessFlags := 25, slot := 2, constantValue := 0 }, { name := "MAX_VALUE", type := .double, accessFlags := 25, slot := 3, constantValue := 0 }, { name := "MIN_NORMAL", type := .double, accessFlags := 25, slot := 4, constantValue := 0 }, { name := "MIN_VALUE", type := .double, accessFlags := 25, slot := 5, constantValue := 0 }, { name := "SIZE", type := .int, accessFlags := 25, slot := 6, constantValue := 0 }, { name := "PRECISION", type := .int, accessFlags := 25, slot := 7, constantValue := 0 }, { name := "MAX_EXPONENT", type := .int, accessFlags := 25, slot := 8, constantValue := 0 }, { name := "MIN_EXPONENT", type := .int, accessFlags := 25, slot := 9, constantValue := 0 }, { name := "BYTES", type := .int, accessFlags := 25, slot := 10, constantValue := 0 }, { name := "TYPE", type := (.object "java/lang/Class"), accessFlags := 25, slot := 11, constantValue := 0 }, { name := "value", type := .double, accessFlags := 18, slot := 0, constantValue := 0 }, { name := "serialVersionUID", type := .long, accessFlags := 26, slot := 12, constantValue := 0 }]
  methods := #[k13m0, k13m1]
  instanceTypes := #[.double]
  staticTypes := #[.double, .double, .double, .double, .double, .double, .int, .int, .int, .int, .int, (.object "java/lang/Class"), .long]
  resolved := Array.replicate 290 none
  statics := none }

def pool14 : Array CpInfo := pool [(1, u "java/lang/Cloneable"), (0, .class_ 1), (0, u "java/lang/Object"), (0, .class_ 3)] 3

/-- java/lang/Cloneable -/
def k14 : Class := { plain "java/lang/Cloneable" (some 0) with
  accessFlags := 1537
  interfaces := #[]
  cf := some (fileOf pool14 2 #[] #[] 1537 4 #[] #[])
  fields := #[]
  methods := #[]
  instanceTypes := #[]
  staticTypes := #[]
  resolved := Array.replicate 8 none
  statics := none }

/-- the primitive byte -/
def k15 : Class := { plain "byte" none with kind := .primitive 'B', accessFlags := 0x411 }
/-- [B -/
def k16 : Class := { plain "[B" (some 0) with kind := .array 15 .byte, interfaces := #[14, 8], accessFlags := 1041 }

/-- the primitive int -/
def k17 : Class := { plain "int" none with kind := .primitive 'I', accessFlags := 0x411 }
/-- [I -/
def k18 : Class := { plain "[I" (some 0) with kind := .array 17 .int, interfaces := #[14, 8], accessFlags := 1041 }

/-- the primitive long -/
def k19 : Class := { plain "long" none with kind := .primitive 'J', accessFlags := 0x411 }
/-- [J -/
def k20 : Class := { plain "[J" (some 0) with kind := .array 19 .long, interfaces := #[14, 8], accessFlags := 1041 }

def heap : Heap := #[{ cls := 7, slots := #[.double 0, .double 0, .double 0, .int 1], vm := .statics 7 }]
def classes : Array Class := #[k0, k1, k2, k3, k4, k5, k6, k7, k8, k9, k10, k11, k12, k13, k14, k15, k16, k17, k18, k19, k20]
def interned : List (Array UInt16 × Addr) := []
def slotsUsed : Nat := 4
def theMethod : MethodId := ⟨1, 1⟩
def args0 : Array Value := #[.int 3, .long 5, .long 2, .long 9]
def aboutOver (below : List Frame) : State where
  vm := { classes := classes, interned := interned.toArray }
  heap := heap
  slotsUsed := slotsUsed
  threads := #[{ frames := .invoking theMethod args0 :: below }]
def below0 : List Frame := [.native { method := ⟨0, 0⟩, args := #[] }]
def about1 : State := aboutOver below0
def p0 : Program := .bare "" "" ""
def e0 : Env := launch0.env 0 0 0
theorem w_frames : about1.frames = Frame.invoking theMethod args0 :: below0 := rfl
set_option maxRecDepth 65536 in
theorem w_args : argsFit about1.vm theMethod args0 = true := by decide +kernel
set_option maxRecDepth 65536 in
theorem w_heap : heapFits about1 = true := by decide +kernel
set_option maxRecDepth 65536 in
theorem w_runnable : about1.curStatus? = some .runnable := by decide +kernel
set_option maxRecDepth 65536 in
theorem w_alone : about1.alone = true := by decide +kernel
set_option maxRecDepth 65536 in
theorem w_named : about1.methodNamed? x = some theMethod := by decide +kernel
set_option maxRecDepth 65536 in
theorem w_hears : about1.hears theMethod below0 = true := by decide +kernel
set_option maxRecDepth 65536 in
theorem w_ripe : about1.ripe theMethod args0 below0 = true := by decide +kernel
theorem w_running : about1.status = .running := rfl
set_option maxRecDepth 65536 in
theorem w_room : about1.hasRoom e0.platform room_1 = true :=
  launch0.hasRoom_least _ room_1 (by decide +kernel) (by decide +kernel) (by decide +kernel) (by decide +kernel) (by decide +kernel) (by decide +kernel)
theorem allAtoms_all (ts : List Jvm.Cond) (a : Array Jvm.Value) (st : Jvm.State) : (allAtoms ts).before a st = ts.all (fun c => c.before a st) := by
  induction ts with
  | nil => rfl
  | cons c t ih =>
    show (Jvm.Cond.and c (allAtoms t)).before a st = _
    rw [Jvm.Cond.before_and, ih, List.all_cons]
def words1 : List Jvm.Cond := Jvm.Cond.code x code maxLocals ret :: tables_1
/-- a 'code' word, met by the world's own term for the bytes: nothing is compared byte by byte -/
theorem code_word {y : MethodName} {bytes : ByteArray} {mx : Nat} {rt : Option FieldType} {a : Array Value} {s : State} {m : MethodId} {meth : Method} {c : Code} (h1 : s.methodNamed? y = some m) (h2 : s.vm.method? m = some meth) (h3 : meth.code = some c) (h4 : c.code = bytes)
    (h5 : (c.maxLocals == mx && c.exceptionTable.isEmpty && decide (c.maxStack ≤ mostOperands) && decide (meth.sig.returnType = rt) && !meth.locks && decide (parseMethodDescriptor y.desc = some meth.sig)) = true) : (Jvm.Cond.code y bytes mx rt).before a s = true := by
  simp only [Bool.and_eq_true, beq_iff_eq, Bool.not_eq_true', decide_eq_true_eq] at h5
  obtain ⟨⟨⟨⟨⟨g1, g2⟩, g3⟩, g4⟩, g5⟩, g6⟩ := h5
  simp [Cond.before, Cond.holds, Cond.value, h1, h2, h3, h4, g1, g2, g3, g4, g5, g6]
def isCode : Jvm.Cond → Bool
  | .code _ _ _ _ => true
  | _ => false
theorem all_split {L : List Jvm.Cond} {P : Jvm.Cond → Bool} (h1 : L.all (fun c => isCode c || P c) = true) (h2 : ∀ c ∈ L.filter isCode, P c = true) : L.all P = true := by
  refine List.all_eq_true.mpr fun c hc => ?_
  have h := List.all_eq_true.mp h1 c hc
  rcases Bool.eq_false_or_eq_true (isCode c) with hi | hi
  · exact h2 c (List.mem_filter.mpr ⟨hc, hi⟩)
  · simpa [hi] using h
set_option maxRecDepth 65536 in
theorem w_c0 : (Jvm.Cond.code x code maxLocals ret).before args0 about1 = true := code_word (m := ⟨1, 1⟩) (meth := k1m1) (c := k1c1) (by decide +kernel) rfl rfl rfl (by decide +kernel)
set_option maxRecDepth 65536 in
theorem w_c1 : (Jvm.Cond.code ({ cls := "com/example/impatiens/impatiens/loadtool/Latencies", name := "<init>", desc := "()V" } : Jvm.MethodName) prog_21_method_1_code (1 : Nat) (Option.none : Option Jvm.ClassFile.FieldType)).before args0 about1 = true := code_word (m := ⟨2, 0⟩) (meth := k2m0) (c := k2c0) (by decide +kernel) rfl rfl rfl (by decide +kernel)
set_option maxRecDepth 65536 in
theorem w_c2 : (Jvm.Cond.code ({ cls := "java/lang/Object", name := "<init>", desc := "()V" } : Jvm.MethodName) object_method_1_code (1 : Nat) (Option.none : Option Jvm.ClassFile.FieldType)).before args0 about1 = true := code_word (m := ⟨0, 0⟩) (meth := k0m0) (c := k0c0) (by decide +kernel) rfl rfl rfl (by decide +kernel)
set_option maxRecDepth 65536 in
theorem w_c3 : (Jvm.Cond.code ({ cls := "com/example/impatiens/impatiens/loadtool/Latencies", name := "count", desc := "()I" } : Jvm.MethodName) prog_21_method_3_code (1 : Nat) (Option.some Jvm.ClassFile.FieldType.int)).before args0 about1 = true := code_word (m := ⟨2, 2⟩) (meth := k2m2) (c := k2c2) (by decide +kernel) rfl rfl rfl (by decide +kernel)
set_option maxRecDepth 65536 in
theorem w_c4 : (Jvm.Cond.code ({ cls := "com/example/impatiens/impatiens/loadtool/Latencies", name := "add", desc := "(J)V" } : Jvm.MethodName) prog_21_method_2_code (3 : Nat) (Option.none : Option Jvm.ClassFile.FieldType)).before args0 about1 = true := code_word (m := ⟨2, 1⟩) (meth := k2m1) (c := k2c1) (by decide +kernel) rfl rfl rfl (by decide +kernel)
set_option maxRecDepth 65536 in
theorem w_c5 : (Jvm.Cond.code ({ cls := "com/example/impatiens/impatiens/loadtool/Latencies", name := "percentileMs", desc := "(D)D" } : Jvm.MethodName) prog_21_method_4_code (5 : Nat) (Option.some Jvm.ClassFile.FieldType.double)).before args0 about1 = true := code_word (m := ⟨2, 3⟩) (meth := k2m3) (c := k2c3) (by decide +kernel) rfl rfl rfl (by decide +kernel)
set_option maxRecDepth 65536 in
theorem w_c6 : (Jvm.Cond.code ({ cls := "java/util/Arrays", name := "copyOf", desc := "([JI)[J" } : Jvm.MethodName) jdk_65_method_124_code (3 : Nat) (Option.some (Jvm.ClassFile.FieldType.array Jvm.ClassFile.FieldType.long))).before args0 about1 = true := code_word (m := ⟨3, 2⟩) (meth := k3m2) (c := k3c2) (by decide +kernel) rfl rfl rfl (by decide +kernel)
set_option maxRecDepth 65536 in
theorem w_c7 : (Jvm.Cond.code ({ cls := "java/lang/Math", name := "min", desc := "(II)I" } : Jvm.MethodName) jdk_29_method_69_code (2 : Nat) (Option.some Jvm.ClassFile.FieldType.int)).before args0 about1 = true := code_word (m := ⟨4, 4⟩) (meth := k4m4) (c := k4c4) (by decide +kernel) rfl rfl rfl (by decide +kernel)
set_option maxRecDepth 65536 in
theorem w_c8 : (Jvm.Cond.code ({ cls := "java/util/Arrays", name := "sort", desc := "([J)V" } : Jvm.MethodName) jdk_65_method_4_code (1 : Nat) (Option.none : Option Jvm.ClassFile.FieldType)).before args0 about1 = true := code_word (m := ⟨3, 1⟩) (meth := k3m1) (c := k3c1) (by decide +kernel) rfl rfl rfl (by decide +kernel)
set_option maxRecDepth 65536 in
theorem w_c9 : (Jvm.Cond.code ({ cls := "java/util/DualPivotQuicksort", name := "sort", desc := "([JIII)V" } : Jvm.MethodName) jdk_2529_method_12_code (7 : Nat) (Option.none : Option Jvm.ClassFile.FieldType)).before args0 about1 = true := code_word (m := ⟨6, 1⟩) (meth := k6m1) (c := k6c1) (by decide +kernel) rfl rfl rfl (by decide +kernel)
set_option maxRecDepth 65536 in
theorem w_c10 : (Jvm.Cond.code ({ cls := "java/util/DualPivotQuicksort", name := "sort", desc := "(Ljava/util/DualPivotQuicksort$Sorter;[JIII)V" } : Jvm.MethodName) jdk_2529_method_13_code (25 : Nat) (Option.none : Option Jvm.ClassFile.FieldType)).before args0 about1 = true := code_word (m := ⟨6, 2⟩) (meth := k6m2) (c := k6c2) (by decide +kernel) rfl rfl rfl (by decide +kernel)
set_option maxRecDepth 65536 in
theorem w_c11 : (Jvm.Cond.code ({ cls := "java/util/DualPivotQuicksort", name := "insertionSort", desc := "([JII)V" } : Jvm.MethodName) jdk_2529_method_15_code (7 : Nat) (Option.none : Option Jvm.ClassFile.FieldType)).before args0 about1 = true := code_word (m := ⟨6, 3⟩) (meth := k6m3) (c := k6c3) (by decide +kernel) rfl rfl rfl (by decide +kernel)
set_option maxRecDepth 65536 in
theorem w_c12 : (Jvm.Cond.code ({ cls := "java/lang/Math", name := "ceil", desc := "(D)D" } : Jvm.MethodName) jdk_29_method_16_code (2 : Nat) (Option.some Jvm.ClassFile.FieldType.double)).before args0 about1 = true := code_word (m := ⟨4, 1⟩) (meth := k4m1) (c := k4c1) (by decide +kernel) rfl rfl rfl (by decide +kernel)
set_option maxRecDepth 65536 in
theorem w_c13 : (Jvm.Cond.code ({ cls := "java/lang/StrictMath", name := "ceil", desc := "(D)D" } : Jvm.MethodName) jdk_128_method_16_code (2 : Nat) (Option.some Jvm.ClassFile.FieldType.double)).before args0 about1 = true := code_word (m := ⟨7, 1⟩) (meth := k7m1) (c := k7c1) (by decide +kernel) rfl rfl rfl (by decide +kernel)
set_option maxRecDepth 65536 in
theorem w_c14 : (Jvm.Cond.code ({ cls := "java/lang/StrictMath", name := "floorOrCeil", desc := "(DDDD)D" } : Jvm.MethodName) jdk_128_method_18_code (15 : Nat) (Option.some Jvm.ClassFile.FieldType.double)).before args0 about1 = true := code_word (m := ⟨7, 2⟩) (meth := k7m2) (c := k7c2) (by decide +kernel) rfl rfl rfl (by decide +kernel)
set_option maxRecDepth 65536 in
theorem w_c15 : (Jvm.Cond.code ({ cls := "java/lang/Math", name := "getExponent", desc := "(D)I" } : Jvm.MethodName) jdk_29_method_92_code (2 : Nat) (Option.some Jvm.ClassFile.FieldType.int)).before args0 about1 = true := code_word (m := ⟨4, 6⟩) (meth := k4m6) (c := k4c6) (by decide +kernel) rfl rfl rfl (by decide +kernel)
set_option maxRecDepth 65536 in
theorem w_c16 : (Jvm.Cond.code ({ cls := "java/lang/Math", name := "max", desc := "(II)I" } : Jvm.MethodName) jdk_29_method_65_code (2 : Nat) (Option.some Jvm.ClassFile.FieldType.int)).before args0 about1 = true := code_word (m := ⟨4, 2⟩) (meth := k4m2) (c := k4c2) (by decide +kernel) rfl rfl rfl (by decide +kernel)
set_option maxRecDepth 65536 in
theorem w_c17 : (Jvm.Cond.code ({ cls := "java/lang/Math", name := "min", desc := "(JJ)J" } : Jvm.MethodName) jdk_29_method_70_code (4 : Nat) (Option.some Jvm.ClassFile.FieldType.long)).before args0 about1 = true := code_word (m := ⟨4, 5⟩) (meth := k4m5) (c := k4c5) (by decide +kernel) rfl rfl rfl (by decide +kernel)
set_option maxRecDepth 65536 in
theorem w_c18 : (Jvm.Cond.code ({ cls := "java/lang/Math", name := "max", desc := "(JJ)J" } : Jvm.MethodName) jdk_29_method_66_code (4 : Nat) (Option.some Jvm.ClassFile.FieldType.long)).before args0 about1 = true := code_word (m := ⟨4, 3⟩) (meth := k4m3) (c := k4c3) (by decide +kernel) rfl rfl rfl (by decide +kernel)
def codes1 : List Jvm.Cond := [Jvm.Cond.code x code maxLocals ret, Jvm.Cond.code ({ cls := "com/example/impatiens/impatiens/loadtool/Latencies", name := "<init>", desc := "()V" } : Jvm.MethodName) prog_21_method_1_code (1 : Nat) (Option.none : Option Jvm.ClassFile.FieldType), Jvm.Cond.code ({ cls := "java/lang/Object", name := "<init>", desc := "()V" } : Jvm.MethodName) object_method_1_code (1 : Nat) (Option.none : Option Jvm.ClassFile.FieldType), Jvm.Cond.code ({ cls := "com/example/impatiens/impatiens/loadtool/Latencies", name := "count", desc := "()I" } : Jvm.MethodName) prog_21_method_3_code (1 : Nat) (Option.some Jvm.ClassFile.FieldType.int), Jvm.Cond.code ({ cls := "com/example/impatiens/impatiens/loadtool/Latencies", name := "add", desc := "(J)V" } : Jvm.MethodName) prog_21_method_2_code (3 : Nat) (Option.none : Option Jvm.ClassFile.FieldType), Jvm.Cond.code ({ cls := "com/example/impatiens/impatiens/loadtool/Latencies", name := "percentileMs", desc := "(D)D" } : Jvm.MethodName) prog_21_method_4_code (5 : Nat) (Option.some Jvm.ClassFile.FieldType.double), Jvm.Cond.code ({ cls := "java/util/Arrays", name := "copyOf", desc := "([JI)[J" } : Jvm.MethodName) jdk_65_method_124_code (3 : Nat) (Option.some (Jvm.ClassFile.FieldType.array Jvm.ClassFile.FieldType.long)), Jvm.Cond.code ({ cls := "java/lang/Math", name := "min", desc := "(II)I" } : Jvm.MethodName) jdk_29_method_69_code (2 : Nat) (Option.some Jvm.ClassFile.FieldType.int), Jvm.Cond.code ({ cls := "java/util/Arrays", name := "sort", desc := "([J)V" } : Jvm.MethodName) jdk_65_method_4_code (1 : Nat) (Option.none : Option Jvm.ClassFile.FieldType), Jvm.Cond.code ({ cls := "java/util/DualPivotQuicksort", name := "sort", desc := "([JIII)V" } : Jvm.MethodName) jdk_2529_method_12_code (7 : Nat) (Option.none : Option Jvm.ClassFile.FieldType), Jvm.Cond.code ({ cls := "java/util/DualPivotQuicksort", name := "sort", desc := "(Ljava/util/DualPivotQuicksort$Sorter;[JIII)V" } : Jvm.MethodName) jdk_2529_method_13_code (25 : Nat) (Option.none : Option Jvm.ClassFile.FieldType), Jvm.Cond.code ({ cls := "java/util/DualPivotQuicksort", name := "insertionSort", desc := "([JII)V" } : Jvm.MethodName) jdk_2529_method_15_code (7 : Nat) (Option.none : Option Jvm.ClassFile.FieldType), Jvm.Cond.code ({ cls := "java/lang/Math", name := "ceil", desc := "(D)D" } : Jvm.MethodName) jdk_29_method_16_code (2 : Nat) (Option.some Jvm.ClassFile.FieldType.double), Jvm.Cond.code ({ cls := "java/lang/StrictMath", name := "ceil", desc := "(D)D" } : Jvm.MethodName) jdk_128_method_16_code (2 : Nat) (Option.some Jvm.ClassFile.FieldType.double), Jvm.Cond.code ({ cls := "java/lang/StrictMath", name := "floorOrCeil", desc := "(DDDD)D" } : Jvm.MethodName) jdk_128_method_18_code (15 : Nat) (Option.some Jvm.ClassFile.FieldType.double), Jvm.Cond.code ({ cls := "java/lang/Math", name := "getExponent", desc := "(D)I" } : Jvm.MethodName) jdk_29_method_92_code (2 : Nat) (Option.some Jvm.ClassFile.FieldType.int), Jvm.Cond.code ({ cls := "java/lang/Math", name := "max", desc := "(II)I" } : Jvm.MethodName) jdk_29_method_65_code (2 : Nat) (Option.some Jvm.ClassFile.FieldType.int), Jvm.Cond.code ({ cls := "java/lang/Math", name := "min", desc := "(JJ)J" } : Jvm.MethodName) jdk_29_method_70_code (4 : Nat) (Option.some Jvm.ClassFile.FieldType.long), Jvm.Cond.code ({ cls := "java/lang/Math", name := "max", desc := "(JJ)J" } : Jvm.MethodName) jdk_29_method_66_code (4 : Nat) (Option.some Jvm.ClassFile.FieldType.long)]
set_option maxRecDepth 65536 in
theorem codes_eq : words1.filter isCode = codes1 := rfl
theorem w_codes : ∀ c ∈ words1.filter isCode, c.before args0 about1 = true := by
  rw [codes_eq]
  intro c hc
  simp only [codes1, List.mem_cons, List.not_mem_nil, or_false] at hc
  rcases hc with rfl | rfl | rfl | rfl | rfl | rfl | rfl | rfl | rfl | rfl | rfl | rfl | rfl | rfl | rfl | rfl | rfl | rfl | rfl
  · exact w_c0
  · exact w_c1
  · exact w_c2
  · exact w_c3
  · exact w_c4
  · exact w_c5
  · exact w_c6
  · exact w_c7
  · exact w_c8
  · exact w_c9
  · exact w_c10
  · exact w_c11
  · exact w_c12
  · exact w_c13
  · exact w_c14
  · exact w_c15
  · exact w_c16
  · exact w_c17
  · exact w_c18
set_option maxRecDepth 65536 in
theorem w_t1 : (words1.take 24).all (fun c => isCode c || c.before args0 about1) = true := by decide +kernel
set_option maxRecDepth 65536 in
theorem w_t2 : ((words1.drop 24).take 24).all (fun c => isCode c || c.before args0 about1) = true := by decide +kernel
set_option maxRecDepth 65536 in
theorem w_t3 : (((words1.drop 24).drop 24).take 24).all (fun c => isCode c || c.before args0 about1) = true := by decide +kernel
set_option maxRecDepth 65536 in
theorem w_t4 : (((words1.drop 24).drop 24).drop 24).all (fun c => isCode c || c.before args0 about1) = true := by decide +kernel
theorem w_tables : (allAtoms (Jvm.Cond.code x code maxLocals ret :: tables_1)).before args0 about1 = true := by
  rw [allAtoms_all]
  show words1.all (fun c => c.before args0 about1) = true
  refine all_split ?_ w_codes
  rw [← List.take_append_drop 24 words1, List.all_append, w_t1, ← List.take_append_drop 24 (words1.drop 24), List.all_append, w_t2, ← List.take_append_drop 24 ((words1.drop 24).drop 24), List.all_append, w_t3, w_t4]
  rfl
set_option maxRecDepth 65536 in
theorem w_rest : rest_1_c.before args0 about1 = true := by decide +kernel
set_option maxRecDepth 65536 in
theorem w_case : (Jvm.Cond.and given_1 narrow_1).before args0 about1 = true := by decide +kernel
theorem w_applies : (headSpec (Jvm.Cond.code x code maxLocals ret :: tables_1) room_1).applies x e0.platform about1 = true :=
  (Spec.applies_iff w_frames).mpr ⟨w_running, w_runnable, w_alone, w_named, w_hears, w_ripe, w_room, w_tables⟩
theorem atStart : AtStart classFile x code maxLocals ret World_1 tables_1 room_1 Calls_1 rest_1 Pre_1 launch0 p0 e0 about1 theMethod args0 below0 :=
  ⟨lists_1, trivial, launch0.admits_env _ _ _, launch0.least_env, fairChoices_fair.cas, fairChoices_fair.clock, w_frames, w_args, w_heap, w_applies, trivial, w_rest, w_case⟩
end start1
theorem witness_1 : WitnessClaimed_1 := ⟨start1.p0, start1.e0, start1.about1, start1.theMethod, start1.args0, start1.below0, start1.atStart⟩
end Jvm.Pilot.@@N@@
