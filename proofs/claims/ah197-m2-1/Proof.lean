import JvmDerived
import JvmDerived.Pilot.@@N@@Statement
import JvmDerived.Pilot.@@N@@Code
set_option linter.unusedVariables false
set_option linter.unusedSimpArgs false
set_option maxRecDepth 65536
set_option maxHeartbeats 40000000
namespace Jvm.OwnWk
open Sem ClassFile Op Lib Jvm.Stand Jvm.Free Jvm.LawKit Jvm.RoadKit
def Sd (Z : State) (own : String) (bs : ByteArray) (mx : Nat) (ret : Option FieldType) (n0 : Nat) (p : Program) (l : Launch) (e : Env) (R : Room) (s : State) (m : MethodId) (args : Array Value) (below : List Frame) (meth : Method) (c : Code) (T : State) (h : Heap) (k n : Nat) : Prop :=
  ∃ locs, Stand p l e R s m args below meth c T locs k n ∧ T.heap = h ∧ Fr n0 locs ∧ n0 ≤ s.heap.size ∧ p.tables.exec = Jvm.exec ∧ Z.Warmed39 s.vm ∧ s.vm.findClass own = some m.cls ∧ c.code = bs ∧ c.maxLocals = mx ∧ meth.sig.returnType = ret ∧ meth.locks = false
def Gl (p : Program) (e : Env) (below : List Frame) (P : Outcome → State → Prop) (A : State) : Prop := ∃ t o, Steps p.tables e below A t ∧ t.status = .running ∧ Ended t below o ∧ P o t
def Pst (s : State) (n0 K N : Nat) (Q : Option Value → Heap → Prop) (o : Outcome) (t : State) : Prop := ∃ v L, o = .returned v ∧ (Q v t.heap ∧ Fr n0 L) ∧ FrameEnd s o t L K N
def OMet (l : Launch) (Z : State) (ws : List Jvm.Cond) (y : MethodName) (bs : ByteArray) (mx : Nat) (ret : Option FieldType) (rm : Room) (as : Array Value) (h : Heap) (n0 : Nat) (Q : Option Value → Heap → Prop) : Prop :=
  MetFree l y (head1 (Jvm.Cond.code y bs mx ret :: ws) rm) (fun a U => a = as ∧ Z.Warmed39 U.vm ∧ U.heap = h) (fun _ _ _ _ _ => True) (fun _ U o U' => ∃ v L, o = .returned v ∧ (Q v U'.heap ∧ Fr n0 L) ∧ FrameEnd U o U' L rm.cells rm.slots)
def own_ne (a b : Addr) : Prop := a ≠ b
section Kit
variable {Z : State} {own : String} {bs : ByteArray} {mx : Nat} {ret : Option FieldType} {n0 : Nat} {p : Program} {l : Launch} {e : Env} {R : Room} {s : State} {m : MethodId} {args : Array Value} {below : List Frame} {meth : Method} {c : Code} {T : State} {h : Heap} {k n : Nat} {P : Outcome → State → Prop} {L : Array Slot} {S : List Value} {pc pc' pcT pcF : Nat} {a0 : Array Value} {t : FieldType}
theorem Gl.of1 {A B : State} (f : ∀ t, Steps p.tables e below B t → Steps p.tables e below A t) (q : Gl p e below P B) : Gl p e below P A := by
  obtain ⟨t, o, h1, h2⟩ := q
  exact ⟨t, o, f t h1, h2⟩
theorem Gl.via {A B : State} (f : Steps p.tables e below A B) (q : Gl p e below P B) : Gl p e below P A := by
  obtain ⟨t, o, h1, h2⟩ := q
  exact ⟨t, o, f.trans h1, h2⟩
theorem OMet.of {ws : List Jvm.Cond} {y : MethodName} {rm : Room} {as : Array Value} {Q : Option Value → Heap → Prop} (ho : y.cls = own) (hpl : plainFor y = true) (hef : ∀ m, entryFrame m as mx = mkF m 0 L []) (hn : n0 ≤ h.size)
    (body : ∀ p e s m below meth c T, Sd Z own bs mx ret n0 p l e rm s m as below meth c T h 0 0 → meth.name = y.name → Gl p e below (Pst s n0 rm.cells rm.slots Q) (T.setTop (mkF m 0 L []))) : OMet l Z ws y bs mx ret rm as h n0 Q := by
  subst ho
  refine MetFree.of_bodySF hpl hisR ?_
  intro p e s m args below meth c s₁ Bd hml0 hP hK
  obtain ⟨rfl, hZ, hh⟩ := hP
  have e0 : s₁.heap = h := by rw [← hh, Bd.state]; rfl
  obtain ⟨t, o, h1, h2, h3, h4⟩ := body p e s m below meth c s₁ ⟨[], Stand.of_body Bd, e0, Fr.nil n0, by rw [hh]; exact hn, Bd.exec, hZ, findClass_of_methodNamed Bd.named, Bd.bytes, hml0, Bd.returns, Bd.notSynchronized⟩ (name_of_methodNamed Bd.named Bd.method).1
  exact ⟨t, o, castTop (hef m) h1, h2, h3, h4⟩

theorem own_grow {T' : State} {locs' : List Loc} {k' n' : Nat} (X : Stand p l e R s m args below meth c T' locs' k' n') : s.heap.size ≤ T'.heap.size := X.same.2.1
theorem own_eqI {args : Array Value} {Z : State} {t : Term} {v : Int32} (q : (Jvm.Cond.eq t (.int v)).value args Z none Z [] = some true) : t.eval args Z none [] Z = some (.int v) := by
  simp only [Cond.value, Term.eval] at q
  cases ht : t.eval args Z none [] Z with
  | none => simp [ht] at q
  | some w => cases w <;> simp [ht] at q ⊢ <;> exact q
theorem own_ite {c A B : Prop} [Decidable c] (h1 : c → A) (h2 : ¬ c → B) : A ∨ B := if q : c then Or.inl (h1 q) else Or.inr (h2 q)
theorem own_cut {A B : Prop} (f : B → A) (b : B) : A := f b
theorem Sd.sz (Y : Sd Z own bs mx ret n0 p l e R s m args below meth c T h k n) : n0 ≤ h.size := by
  obtain ⟨locs, X, eT, N, hn0, hx, hZ, hown, hby, hml, hrt, hlk⟩ := Y
  exact eT ▸ Nat.le_trans hn0 (own_grow X)
theorem own_narB {a v : Int32} (h : a.toInt8.toInt32 = v) : nar .byte v = v := by subst h; simp [nar]
theorem own_narC {a v : Int32} (h : a.toUInt32.toUInt16.toUInt32.toInt32 = v) : nar .char v = v := by subst h; have q := Jvm.Free.XT.narrow_c a; exact Value.int.inj q
theorem own_narS {a v : Int32} (h : a.toInt16.toInt32 = v) : nar .short v = v := by subst h; simp [nar]
theorem own_c3 {v : Int32} (h0 : 0 ≤ v.toInt) (h : v.toInt ≤ 3) : v = 0 ∨ v = 1 ∨ v = 2 ∨ v = 3 := by
  have : v.toInt = 0 ∨ v.toInt = 1 ∨ v.toInt = 2 ∨ v.toInt = 3 := by omega
  rcases this with q | q | q | q <;> simp [← Int32.toInt_inj, q]
theorem own_c4 {v : Int32} (h0 : 0 ≤ v.toInt) (h : v.toInt ≤ 4) : v = 0 ∨ v = 1 ∨ v = 2 ∨ v = 3 ∨ v = 4 := by
  have : v.toInt = 0 ∨ v.toInt = 1 ∨ v.toInt = 2 ∨ v.toInt = 3 ∨ v.toInt = 4 := by omega
  rcases this with q | q | q | q | q <;> simp [← Int32.toInt_inj, q]
theorem own_c5 {v : Int32} (h0 : 0 ≤ v.toInt) (h : v.toInt ≤ 5) : v = 0 ∨ v = 1 ∨ v = 2 ∨ v = 3 ∨ v = 4 ∨ v = 5 := by
  have : v.toInt = 0 ∨ v.toInt = 1 ∨ v.toInt = 2 ∨ v.toInt = 3 ∨ v.toInt = 4 ∨ v.toInt = 5 := by omega
  rcases this with q | q | q | q | q | q <;> simp [← Int32.toInt_inj, q]
theorem own_narR {t : FieldType} {x : Value} (q : x.isRef = true) : narrow t x = x := by rcases ref_cases q with rfl | ⟨z, rfl⟩ <;> cases t <;> rfl
theorem OMet.un {l : Launch} {Z : State} {ws : List Jvm.Cond} {y : MethodName} {bs : ByteArray} {mx : Nat} {ret : Option FieldType} {rm : Room} {as : Array Value} {h : Heap} {n0 : Nat} {Q : Option Value → Heap → Prop} (q : OMet l Z ws y bs mx ret rm as h n0 Q) :
  MetFree l y (head1 (Jvm.Cond.code y bs mx ret :: ws) rm) (fun a U => a = as ∧ Z.Warmed39 U.vm ∧ U.heap = h) (fun _ _ _ _ _ => True) (fun _ U o U' => ∃ v L, o = .returned v ∧ (fun v h' L => Q v h' ∧ Fr n0 L) v U'.heap L ∧ FrameEnd U o U' L rm.cells rm.slots) := q
theorem own_not64 (x : Int64) : (x ^^^ (-1)).toInt = -x.toInt - 1 := by
  have h1 : x ^^^ (-1) = ~~~x := by
    apply Int64.toBitVec_inj.mp
    rw [Int64.toBitVec_xor, Int64.toBitVec_not]
    exact BitVec.xor_allOnes
  rw [h1, Int64.not_eq_neg_sub]
  have q := c_lsub (-x) 1
  have r := c_lneg x
  have n1 := rng64 (-x - 1)
  have n2 := rng64 (-x)
  have n3 := rng64 x
  simp only [Int64.reduceToInt] at q
  omega
theorem own_narZ {x : Int32} (q : x = 0 ∨ x = 1) : nar .boolean x = x := by rcases q with rfl | rfl <;> rfl
theorem own_nZ {x : Int32} (q : x = 0 ∨ x = 1) : narrow .boolean (.int x) = .int x := by rcases q with rfl | rfl <;> rfl
theorem own_fZ {x : Int32} (q : x = 0 ∨ x = 1) : fits .boolean (.int x) = true := by rcases q with rfl | rfl <;> rfl
theorem Gl.iadd (Y : Sd Z own bs mx ret n0 p l e R s m args below meth c T h k n) {x y : Int32} {r : Int32} (hr : x + y = r) (hd : decode bs pc = .ok (.iadd, 1)) (hp : pc + 1 = pc') (q : Gl p e below P (T.setTop (mkF m pc' L (.int r :: S)))) : Gl p e below P (T.setTop (mkF m pc L (.int y :: .int x :: S))) := by
  obtain ⟨locs, X, eT, N, hn0, hx, hZ, hown, hby, hml, hrt, hlk⟩ := Y
  subst hp hr
  exact q.of1 fun t q => XS.iadd X.here hx rfl (hb hby hd) rfl q
theorem Gl.isub (Y : Sd Z own bs mx ret n0 p l e R s m args below meth c T h k n) {x y : Int32} {r : Int32} (hr : x - y = r) (hd : decode bs pc = .ok (.isub, 1)) (hp : pc + 1 = pc') (q : Gl p e below P (T.setTop (mkF m pc' L (.int r :: S)))) : Gl p e below P (T.setTop (mkF m pc L (.int y :: .int x :: S))) := by
  obtain ⟨locs, X, eT, N, hn0, hx, hZ, hown, hby, hml, hrt, hlk⟩ := Y
  subst hp hr
  exact q.of1 fun t q => XS.isub X.here hx rfl (hb hby hd) rfl q
theorem Gl.imul (Y : Sd Z own bs mx ret n0 p l e R s m args below meth c T h k n) {x y : Int32} {r : Int32} (hr : x * y = r) (hd : decode bs pc = .ok (.imul, 1)) (hp : pc + 1 = pc') (q : Gl p e below P (T.setTop (mkF m pc' L (.int r :: S)))) : Gl p e below P (T.setTop (mkF m pc L (.int y :: .int x :: S))) := by
  obtain ⟨locs, X, eT, N, hn0, hx, hZ, hown, hby, hml, hrt, hlk⟩ := Y
  subst hp hr
  exact q.of1 fun t q => XS.imul X.here hx rfl (hb hby hd) rfl q
theorem Gl.iand (Y : Sd Z own bs mx ret n0 p l e R s m args below meth c T h k n) {x y : Int32} {r : Int32} (hr : x &&& y = r) (hd : decode bs pc = .ok (.iand, 1)) (hp : pc + 1 = pc') (q : Gl p e below P (T.setTop (mkF m pc' L (.int r :: S)))) : Gl p e below P (T.setTop (mkF m pc L (.int y :: .int x :: S))) := by
  obtain ⟨locs, X, eT, N, hn0, hx, hZ, hown, hby, hml, hrt, hlk⟩ := Y
  subst hp hr
  exact q.of1 fun t q => XS.iand X.here hx rfl (hb hby hd) rfl q
theorem Gl.ior (Y : Sd Z own bs mx ret n0 p l e R s m args below meth c T h k n) {x y : Int32} {r : Int32} (hr : x ||| y = r) (hd : decode bs pc = .ok (.ior, 1)) (hp : pc + 1 = pc') (q : Gl p e below P (T.setTop (mkF m pc' L (.int r :: S)))) : Gl p e below P (T.setTop (mkF m pc L (.int y :: .int x :: S))) := by
  obtain ⟨locs, X, eT, N, hn0, hx, hZ, hown, hby, hml, hrt, hlk⟩ := Y
  subst hp hr
  exact q.of1 fun t q => XS.ior X.here hx rfl (hb hby hd) rfl q
theorem Gl.ixor (Y : Sd Z own bs mx ret n0 p l e R s m args below meth c T h k n) {x y : Int32} {r : Int32} (hr : x ^^^ y = r) (hd : decode bs pc = .ok (.ixor, 1)) (hp : pc + 1 = pc') (q : Gl p e below P (T.setTop (mkF m pc' L (.int r :: S)))) : Gl p e below P (T.setTop (mkF m pc L (.int y :: .int x :: S))) := by
  obtain ⟨locs, X, eT, N, hn0, hx, hZ, hown, hby, hml, hrt, hlk⟩ := Y
  subst hp hr
  exact q.of1 fun t q => XS.ixor X.here hx rfl (hb hby hd) rfl q
theorem Gl.ishl (Y : Sd Z own bs mx ret n0 p l e R s m args below meth c T h k n) {x y : Int32} {r : Int32} (hr : x <<< (y &&& 31) = r) (hd : decode bs pc = .ok (.ishl, 1)) (hp : pc + 1 = pc') (q : Gl p e below P (T.setTop (mkF m pc' L (.int r :: S)))) : Gl p e below P (T.setTop (mkF m pc L (.int y :: .int x :: S))) := by
  obtain ⟨locs, X, eT, N, hn0, hx, hZ, hown, hby, hml, hrt, hlk⟩ := Y
  subst hp hr
  exact q.of1 fun t q => XS.ishl X.here hx rfl (hb hby hd) rfl q
theorem Gl.ishr (Y : Sd Z own bs mx ret n0 p l e R s m args below meth c T h k n) {x y : Int32} {r : Int32} (hr : x >>> (y &&& 31) = r) (hd : decode bs pc = .ok (.ishr, 1)) (hp : pc + 1 = pc') (q : Gl p e below P (T.setTop (mkF m pc' L (.int r :: S)))) : Gl p e below P (T.setTop (mkF m pc L (.int y :: .int x :: S))) := by
  obtain ⟨locs, X, eT, N, hn0, hx, hZ, hown, hby, hml, hrt, hlk⟩ := Y
  subst hp hr
  exact q.of1 fun t q => XS.ishr X.here hx rfl (hb hby hd) rfl q
theorem Gl.iushr (Y : Sd Z own bs mx ret n0 p l e R s m args below meth c T h k n) {x y : Int32} {r : Int32} (hr : (x.toUInt32 >>> (y &&& 31).toUInt32).toInt32 = r) (hd : decode bs pc = .ok (.iushr, 1)) (hp : pc + 1 = pc') (q : Gl p e below P (T.setTop (mkF m pc' L (.int r :: S)))) : Gl p e below P (T.setTop (mkF m pc L (.int y :: .int x :: S))) := by
  obtain ⟨locs, X, eT, N, hn0, hx, hZ, hown, hby, hml, hrt, hlk⟩ := Y
  subst hp hr
  exact q.of1 fun t q => XS.iushr X.here hx rfl (hb hby hd) rfl q
theorem Gl.ladd (Y : Sd Z own bs mx ret n0 p l e R s m args below meth c T h k n) {x y : Int64} {r : Int64} (hr : x + y = r) (hd : decode bs pc = .ok (.ladd, 1)) (hp : pc + 1 = pc') (q : Gl p e below P (T.setTop (mkF m pc' L (.long r :: S)))) : Gl p e below P (T.setTop (mkF m pc L (.long y :: .long x :: S))) := by
  obtain ⟨locs, X, eT, N, hn0, hx, hZ, hown, hby, hml, hrt, hlk⟩ := Y
  subst hp hr
  exact q.of1 fun t q => XS.ladd X.here hx rfl (hb hby hd) rfl q
theorem Gl.lsub (Y : Sd Z own bs mx ret n0 p l e R s m args below meth c T h k n) {x y : Int64} {r : Int64} (hr : x - y = r) (hd : decode bs pc = .ok (.lsub, 1)) (hp : pc + 1 = pc') (q : Gl p e below P (T.setTop (mkF m pc' L (.long r :: S)))) : Gl p e below P (T.setTop (mkF m pc L (.long y :: .long x :: S))) := by
  obtain ⟨locs, X, eT, N, hn0, hx, hZ, hown, hby, hml, hrt, hlk⟩ := Y
  subst hp hr
  exact q.of1 fun t q => XS.lsub X.here hx rfl (hb hby hd) rfl q
theorem Gl.lmul (Y : Sd Z own bs mx ret n0 p l e R s m args below meth c T h k n) {x y : Int64} {r : Int64} (hr : x * y = r) (hd : decode bs pc = .ok (.lmul, 1)) (hp : pc + 1 = pc') (q : Gl p e below P (T.setTop (mkF m pc' L (.long r :: S)))) : Gl p e below P (T.setTop (mkF m pc L (.long y :: .long x :: S))) := by
  obtain ⟨locs, X, eT, N, hn0, hx, hZ, hown, hby, hml, hrt, hlk⟩ := Y
  subst hp hr
  exact q.of1 fun t q => XS.lmul X.here hx rfl (hb hby hd) rfl q
theorem Gl.land (Y : Sd Z own bs mx ret n0 p l e R s m args below meth c T h k n) {x y : Int64} {r : Int64} (hr : x &&& y = r) (hd : decode bs pc = .ok (.land, 1)) (hp : pc + 1 = pc') (q : Gl p e below P (T.setTop (mkF m pc' L (.long r :: S)))) : Gl p e below P (T.setTop (mkF m pc L (.long y :: .long x :: S))) := by
  obtain ⟨locs, X, eT, N, hn0, hx, hZ, hown, hby, hml, hrt, hlk⟩ := Y
  subst hp hr
  exact q.of1 fun t q => XS.land X.here hx rfl (hb hby hd) rfl q
theorem Gl.lor (Y : Sd Z own bs mx ret n0 p l e R s m args below meth c T h k n) {x y : Int64} {r : Int64} (hr : x ||| y = r) (hd : decode bs pc = .ok (.lor, 1)) (hp : pc + 1 = pc') (q : Gl p e below P (T.setTop (mkF m pc' L (.long r :: S)))) : Gl p e below P (T.setTop (mkF m pc L (.long y :: .long x :: S))) := by
  obtain ⟨locs, X, eT, N, hn0, hx, hZ, hown, hby, hml, hrt, hlk⟩ := Y
  subst hp hr
  exact q.of1 fun t q => XS.lor X.here hx rfl (hb hby hd) rfl q
theorem Gl.lxor (Y : Sd Z own bs mx ret n0 p l e R s m args below meth c T h k n) {x y : Int64} {r : Int64} (hr : x ^^^ y = r) (hd : decode bs pc = .ok (.lxor, 1)) (hp : pc + 1 = pc') (q : Gl p e below P (T.setTop (mkF m pc' L (.long r :: S)))) : Gl p e below P (T.setTop (mkF m pc L (.long y :: .long x :: S))) := by
  obtain ⟨locs, X, eT, N, hn0, hx, hZ, hown, hby, hml, hrt, hlk⟩ := Y
  subst hp hr
  exact q.of1 fun t q => XS.lxor X.here hx rfl (hb hby hd) rfl q
theorem Gl.lshl (Y : Sd Z own bs mx ret n0 p l e R s m args below meth c T h k n) {x : Int64} {y : Int32} {r : Int64} (hr : x <<< (y &&& 0x3f).toInt64 = r) (hd : decode bs pc = .ok (.lshl, 1)) (hp : pc + 1 = pc') (q : Gl p e below P (T.setTop (mkF m pc' L (.long r :: S)))) : Gl p e below P (T.setTop (mkF m pc L (.int y :: .long x :: S))) := by
  obtain ⟨locs, X, eT, N, hn0, hx, hZ, hown, hby, hml, hrt, hlk⟩ := Y
  subst hp hr
  exact q.of1 fun t q => XS.lshl X.here hx rfl (hb hby hd) rfl q
theorem Gl.lshr (Y : Sd Z own bs mx ret n0 p l e R s m args below meth c T h k n) {x : Int64} {y : Int32} {r : Int64} (hr : x >>> (y &&& 0x3f).toInt64 = r) (hd : decode bs pc = .ok (.lshr, 1)) (hp : pc + 1 = pc') (q : Gl p e below P (T.setTop (mkF m pc' L (.long r :: S)))) : Gl p e below P (T.setTop (mkF m pc L (.int y :: .long x :: S))) := by
  obtain ⟨locs, X, eT, N, hn0, hx, hZ, hown, hby, hml, hrt, hlk⟩ := Y
  subst hp hr
  exact q.of1 fun t q => XS.lshr X.here hx rfl (hb hby hd) rfl q
theorem Gl.lushr (Y : Sd Z own bs mx ret n0 p l e R s m args below meth c T h k n) {x : Int64} {y : Int32} {r : Int64} (hr : (x.toUInt64 >>> (y &&& 0x3f).toInt64.toUInt64).toInt64 = r) (hd : decode bs pc = .ok (.lushr, 1)) (hp : pc + 1 = pc') (q : Gl p e below P (T.setTop (mkF m pc' L (.long r :: S)))) : Gl p e below P (T.setTop (mkF m pc L (.int y :: .long x :: S))) := by
  obtain ⟨locs, X, eT, N, hn0, hx, hZ, hown, hby, hml, hrt, hlk⟩ := Y
  subst hp hr
  exact q.of1 fun t q => XS.lushr X.here hx rfl (hb hby hd) rfl q
theorem Gl.idiv (Y : Sd Z own bs mx ret n0 p l e R s m args below meth c T h k n) {x y : Int32} (hy : y ≠ 0) {r : Int32} (hr : x / y = r) (hd : decode bs pc = .ok (.idiv, 1)) (hp : pc + 1 = pc') (q : Gl p e below P (T.setTop (mkF m pc' L (.int r :: S)))) : Gl p e below P (T.setTop (mkF m pc L (.int y :: .int x :: S))) := by
  obtain ⟨locs, X, eT, N, hn0, hx, hZ, hown, hby, hml, hrt, hlk⟩ := Y
  subst hp hr
  exact q.of1 fun t q => XS.idiv X.here hx rfl (hb hby hd) rfl hy q
theorem Gl.irem (Y : Sd Z own bs mx ret n0 p l e R s m args below meth c T h k n) {x y : Int32} (hy : y ≠ 0) {r : Int32} (hr : x % y = r) (hd : decode bs pc = .ok (.irem, 1)) (hp : pc + 1 = pc') (q : Gl p e below P (T.setTop (mkF m pc' L (.int r :: S)))) : Gl p e below P (T.setTop (mkF m pc L (.int y :: .int x :: S))) := by
  obtain ⟨locs, X, eT, N, hn0, hx, hZ, hown, hby, hml, hrt, hlk⟩ := Y
  subst hp hr
  exact q.of1 fun t q => iremM X hx rfl (hb hby hd) rfl hy q
theorem Gl.ldiv (Y : Sd Z own bs mx ret n0 p l e R s m args below meth c T h k n) {x y : Int64} (hy : y ≠ 0) {r : Int64} (hr : x / y = r) (hd : decode bs pc = .ok (.ldiv, 1)) (hp : pc + 1 = pc') (q : Gl p e below P (T.setTop (mkF m pc' L (.long r :: S)))) : Gl p e below P (T.setTop (mkF m pc L (.long y :: .long x :: S))) := by
  obtain ⟨locs, X, eT, N, hn0, hx, hZ, hown, hby, hml, hrt, hlk⟩ := Y
  subst hp hr
  exact q.of1 fun t q => XS.ldiv X.here hx rfl (hb hby hd) rfl hy q
theorem Gl.lrem (Y : Sd Z own bs mx ret n0 p l e R s m args below meth c T h k n) {x y : Int64} (hy : y ≠ 0) {r : Int64} (hr : x % y = r) (hd : decode bs pc = .ok (.lrem, 1)) (hp : pc + 1 = pc') (q : Gl p e below P (T.setTop (mkF m pc' L (.long r :: S)))) : Gl p e below P (T.setTop (mkF m pc L (.long y :: .long x :: S))) := by
  obtain ⟨locs, X, eT, N, hn0, hx, hZ, hown, hby, hml, hrt, hlk⟩ := Y
  subst hp hr
  exact q.of1 fun t q => XS.lrem X.here hx rfl (hb hby hd) rfl hy (by rw [lrem_mod]; exact q)
theorem Gl.ineg (Y : Sd Z own bs mx ret n0 p l e R s m args below meth c T h k n) {x : Int32} {r : Int32} (hr : -x = r) (hd : decode bs pc = .ok (.ineg, 1)) (hp : pc + 1 = pc') (q : Gl p e below P (T.setTop (mkF m pc' L (.int r :: S)))) : Gl p e below P (T.setTop (mkF m pc L (.int x :: S))) := by
  obtain ⟨locs, X, eT, N, hn0, hx, hZ, hown, hby, hml, hrt, hlk⟩ := Y
  subst hp hr
  exact q.of1 fun t q => XS.ineg X.here hx rfl (hb hby hd) rfl q
theorem Gl.lneg (Y : Sd Z own bs mx ret n0 p l e R s m args below meth c T h k n) {x : Int64} {r : Int64} (hr : -x = r) (hd : decode bs pc = .ok (.lneg, 1)) (hp : pc + 1 = pc') (q : Gl p e below P (T.setTop (mkF m pc' L (.long r :: S)))) : Gl p e below P (T.setTop (mkF m pc L (.long x :: S))) := by
  obtain ⟨locs, X, eT, N, hn0, hx, hZ, hown, hby, hml, hrt, hlk⟩ := Y
  subst hp hr
  exact q.of1 fun t q => XS.lneg X.here hx rfl (hb hby hd) rfl q
theorem Gl.i2b (Y : Sd Z own bs mx ret n0 p l e R s m args below meth c T h k n) {x : Int32} {r : Int32} (hr : x.toInt8.toInt32 = r) (hd : decode bs pc = .ok (.i2b, 1)) (hp : pc + 1 = pc') (q : Gl p e below P (T.setTop (mkF m pc' L (.int r :: S)))) : Gl p e below P (T.setTop (mkF m pc L (.int x :: S))) := by
  obtain ⟨locs, X, eT, N, hn0, hx, hZ, hown, hby, hml, hrt, hlk⟩ := Y
  subst hp hr
  exact q.of1 fun t q => XS.i2b X.here hx rfl (hb hby hd) rfl q
theorem Gl.i2c (Y : Sd Z own bs mx ret n0 p l e R s m args below meth c T h k n) {x : Int32} {r : Int32} (hr : x.toUInt32.toUInt16.toUInt32.toInt32 = r) (hd : decode bs pc = .ok (.i2c, 1)) (hp : pc + 1 = pc') (q : Gl p e below P (T.setTop (mkF m pc' L (.int r :: S)))) : Gl p e below P (T.setTop (mkF m pc L (.int x :: S))) := by
  obtain ⟨locs, X, eT, N, hn0, hx, hZ, hown, hby, hml, hrt, hlk⟩ := Y
  subst hp hr
  exact q.of1 fun t q => XS.i2c X.here hx rfl (hb hby hd) rfl q
theorem Gl.i2s (Y : Sd Z own bs mx ret n0 p l e R s m args below meth c T h k n) {x : Int32} {r : Int32} (hr : x.toInt16.toInt32 = r) (hd : decode bs pc = .ok (.i2s, 1)) (hp : pc + 1 = pc') (q : Gl p e below P (T.setTop (mkF m pc' L (.int r :: S)))) : Gl p e below P (T.setTop (mkF m pc L (.int x :: S))) := by
  obtain ⟨locs, X, eT, N, hn0, hx, hZ, hown, hby, hml, hrt, hlk⟩ := Y
  subst hp hr
  exact q.of1 fun t q => XS.i2s X.here hx rfl (hb hby hd) rfl q
theorem Gl.i2l (Y : Sd Z own bs mx ret n0 p l e R s m args below meth c T h k n) {x : Int32} {r : Int64} (hr : x.toInt64 = r) (hd : decode bs pc = .ok (.i2l, 1)) (hp : pc + 1 = pc') (q : Gl p e below P (T.setTop (mkF m pc' L (.long r :: S)))) : Gl p e below P (T.setTop (mkF m pc L (.int x :: S))) := by
  obtain ⟨locs, X, eT, N, hn0, hx, hZ, hown, hby, hml, hrt, hlk⟩ := Y
  subst hp hr
  exact q.of1 fun t q => XS.i2l X.here hx rfl (hb hby hd) rfl q
theorem Gl.l2i (Y : Sd Z own bs mx ret n0 p l e R s m args below meth c T h k n) {x : Int64} {r : Int32} (hr : x.toInt32 = r) (hd : decode bs pc = .ok (.l2i, 1)) (hp : pc + 1 = pc') (q : Gl p e below P (T.setTop (mkF m pc' L (.int r :: S)))) : Gl p e below P (T.setTop (mkF m pc L (.long x :: S))) := by
  obtain ⟨locs, X, eT, N, hn0, hx, hZ, hown, hby, hml, hrt, hlk⟩ := Y
  subst hp hr
  exact q.of1 fun t q => XS.l2i X.here hx rfl (hb hby hd) rfl q
theorem Gl.iconst (Y : Sd Z own bs mx ret n0 p l e R s m args below meth c T h k n) {i : Int} {v : Int32} (hv : Int32.ofInt i = v) (hd : decode bs pc = .ok (.iconst i, 1)) (hp : pc + 1 = pc') (q : Gl p e below P (T.setTop (mkF m pc' L (.int v :: S)))) : Gl p e below P (T.setTop (mkF m pc L S)) := by
  obtain ⟨locs, X, eT, N, hn0, hx, hZ, hown, hby, hml, hrt, hlk⟩ := Y
  subst hp
  exact q.of1 fun t q => XS.iconst X.here hx rfl (hb hby hd) (by rw [hv]; exact q)
theorem Gl.bipush (Y : Sd Z own bs mx ret n0 p l e R s m args below meth c T h k n) {i : Int} {v : Int32} (hv : (Int8.ofInt i).toInt32 = v) (hd : decode bs pc = .ok (.bipush i, 2)) (hp : pc + 2 = pc') (q : Gl p e below P (T.setTop (mkF m pc' L (.int v :: S)))) : Gl p e below P (T.setTop (mkF m pc L S)) := by
  obtain ⟨locs, X, eT, N, hn0, hx, hZ, hown, hby, hml, hrt, hlk⟩ := Y
  subst hp
  exact q.of1 fun t q => XS.bipush X.here hx rfl (hb hby hd) (by rw [hv]; exact q)
theorem Gl.sipush (Y : Sd Z own bs mx ret n0 p l e R s m args below meth c T h k n) {i : Int} {v : Int32} (hv : (Int16.ofInt i).toInt32 = v) (hd : decode bs pc = .ok (.sipush i, 3)) (hp : pc + 3 = pc') (q : Gl p e below P (T.setTop (mkF m pc' L (.int v :: S)))) : Gl p e below P (T.setTop (mkF m pc L S)) := by
  obtain ⟨locs, X, eT, N, hn0, hx, hZ, hown, hby, hml, hrt, hlk⟩ := Y
  subst hp
  exact q.of1 fun t q => XS.sipush X.here hx rfl (hb hby hd) (by rw [hv]; exact q)
theorem Gl.lconst (Y : Sd Z own bs mx ret n0 p l e R s m args below meth c T h k n) {i : Fin 2} {v : Int64} (hv : Int64.ofNat i = v) (hd : decode bs pc = .ok (.lconst i, 1)) (hp : pc + 1 = pc') (q : Gl p e below P (T.setTop (mkF m pc' L (.long v :: S)))) : Gl p e below P (T.setTop (mkF m pc L S)) := by
  obtain ⟨locs, X, eT, N, hn0, hx, hZ, hown, hby, hml, hrt, hlk⟩ := Y
  subst hp
  exact q.of1 fun t q => XS.lconst X.here hx rfl (hb hby hd) (by rw [hv]; exact q)
theorem Gl.aconstNull (Y : Sd Z own bs mx ret n0 p l e R s m args below meth c T h k n)  (hd : decode bs pc = .ok (.aconst_null, 1)) (hp : pc + 1 = pc') (q : Gl p e below P (T.setTop (mkF m pc' L (.null :: S)))) : Gl p e below P (T.setTop (mkF m pc L S)) := by
  obtain ⟨locs, X, eT, N, hn0, hx, hZ, hown, hby, hml, hrt, hlk⟩ := Y
  subst hp
  exact q.of1 fun t q => XS.aconstNull X.here hx rfl (hb hby hd) q
theorem Gl.ldcI (Y : Sd Z own bs mx ret n0 p l e R s m args below meth c T h k n) {i : Nat} {v : Int32} (w : (Jvm.Cond.constant own i v).before a0 Z = true) (hd : decode bs pc = .ok (.ldc i, 2)) (hp : pc + 2 = pc') (q : Gl p e below P (T.setTop (mkF m pc' L (.int v :: S)))) : Gl p e below P (T.setTop (mkF m pc L S)) := by
  obtain ⟨locs, X, eT, N, hn0, hx, hZ, hown, hby, hml, hrt, hlk⟩ := Y
  subst hp
  exact q.of1 fun t q => X.ldcInt hx hown (mvT hZ w) (g := mkF m pc L S) rfl (hb hby hd) t q
theorem Gl.ldcWI (Y : Sd Z own bs mx ret n0 p l e R s m args below meth c T h k n) {i : Nat} {v : Int32} (w : (Jvm.Cond.constant own i v).before a0 Z = true) (hd : decode bs pc = .ok (.ldc_w i, 3)) (hp : pc + 3 = pc') (q : Gl p e below P (T.setTop (mkF m pc' L (.int v :: S)))) : Gl p e below P (T.setTop (mkF m pc L S)) := by
  obtain ⟨locs, X, eT, N, hn0, hx, hZ, hown, hby, hml, hrt, hlk⟩ := Y
  subst hp
  exact q.of1 fun t q => X.ldcWI hx hown (mvT hZ w) (g := mkF m pc L S) rfl (hb hby hd) q
theorem Gl.ldcJ (Y : Sd Z own bs mx ret n0 p l e R s m args below meth c T h k n) {i : Nat} {v : Int64} (w : (Jvm.Cond.constantLong own i v).before a0 Z = true) (hd : decode bs pc = .ok (.ldc2_w i, 3)) (hp : pc + 3 = pc') (q : Gl p e below P (T.setTop (mkF m pc' L (.long v :: S)))) : Gl p e below P (T.setTop (mkF m pc L S)) := by
  obtain ⟨locs, X, eT, N, hn0, hx, hZ, hown, hby, hml, hrt, hlk⟩ := Y
  subst hp
  exact q.of1 fun t q => X.ldc2Long hx hown (mvT hZ w) (g := mkF m pc L S) rfl (hb hby hd) t q
theorem Gl.ldcD (Y : Sd Z own bs mx ret n0 p l e R s m args below meth c T h k n) {i : Nat} {v : UInt64} (w : (Jvm.Cond.constantDouble own i v).before a0 Z = true) (hd : decode bs pc = .ok (.ldc2_w i, 3)) (hp : pc + 3 = pc') (q : Gl p e below P (T.setTop (mkF m pc' L (.double v :: S)))) : Gl p e below P (T.setTop (mkF m pc L S)) := by
  obtain ⟨locs, X, eT, N, hn0, hx, hZ, hown, hby, hml, hrt, hlk⟩ := Y
  subst hp
  exact q.of1 fun t q => X.ldc2DoubleC hx hown (mvT hZ w) (g := mkF m pc L S) rfl (hb hby hd) t q
theorem Gl.iload (Y : Sd Z own bs mx ret n0 p l e R s m args below meth c T h k n) {i : Nat} {v : Int32} (hl : L[i]? = some (.val (.int v))) (hd : decode bs pc = .ok (.iload i, 2)) (hp : pc + 2 = pc') (q : Gl p e below P (T.setTop (mkF m pc' L (.int v :: S)))) : Gl p e below P (T.setTop (mkF m pc L S)) := by
  obtain ⟨locs, X, eT, N, hn0, hx, hZ, hown, hby, hml, hrt, hlk⟩ := Y
  subst hp
  exact q.of1 fun t q => XS.iload X.here hx rfl (hb hby hd) hl q
theorem Gl.iloadN (Y : Sd Z own bs mx ret n0 p l e R s m args below meth c T h k n) {i : Fin 4} {v : Int32} (hl : L[i.val]? = some (.val (.int v))) (hd : decode bs pc = .ok (.iload_n i, 1)) (hp : pc + 1 = pc') (q : Gl p e below P (T.setTop (mkF m pc' L (.int v :: S)))) : Gl p e below P (T.setTop (mkF m pc L S)) := by
  obtain ⟨locs, X, eT, N, hn0, hx, hZ, hown, hby, hml, hrt, hlk⟩ := Y
  subst hp
  exact q.of1 fun t q => XS.iloadN X.here hx rfl (hb hby hd) hl q
theorem Gl.lload (Y : Sd Z own bs mx ret n0 p l e R s m args below meth c T h k n) {i : Nat} {v : Int64} (hl : L[i]? = some (.val (.long v))) (hd : decode bs pc = .ok (.lload i, 2)) (hp : pc + 2 = pc') (q : Gl p e below P (T.setTop (mkF m pc' L (.long v :: S)))) : Gl p e below P (T.setTop (mkF m pc L S)) := by
  obtain ⟨locs, X, eT, N, hn0, hx, hZ, hown, hby, hml, hrt, hlk⟩ := Y
  subst hp
  exact q.of1 fun t q => XS.lload X.here hx rfl (hb hby hd) hl q
theorem Gl.lloadN (Y : Sd Z own bs mx ret n0 p l e R s m args below meth c T h k n) {i : Fin 4} {v : Int64} (hl : L[i.val]? = some (.val (.long v))) (hd : decode bs pc = .ok (.lload_n i, 1)) (hp : pc + 1 = pc') (q : Gl p e below P (T.setTop (mkF m pc' L (.long v :: S)))) : Gl p e below P (T.setTop (mkF m pc L S)) := by
  obtain ⟨locs, X, eT, N, hn0, hx, hZ, hown, hby, hml, hrt, hlk⟩ := Y
  subst hp
  exact q.of1 fun t q => XS.lloadN X.here hx rfl (hb hby hd) hl q
theorem Gl.dload (Y : Sd Z own bs mx ret n0 p l e R s m args below meth c T h k n) {i : Nat} {v : UInt64} (hl : L[i]? = some (.val (.double v))) (hd : decode bs pc = .ok (.dload i, 2)) (hp : pc + 2 = pc') (q : Gl p e below P (T.setTop (mkF m pc' L (.double v :: S)))) : Gl p e below P (T.setTop (mkF m pc L S)) := by
  obtain ⟨locs, X, eT, N, hn0, hx, hZ, hown, hby, hml, hrt, hlk⟩ := Y
  subst hp
  exact q.of1 fun t q => XS.dload X.here hx rfl (hb hby hd) hl q
theorem Gl.dloadN (Y : Sd Z own bs mx ret n0 p l e R s m args below meth c T h k n) {i : Fin 4} {v : UInt64} (hl : L[i.val]? = some (.val (.double v))) (hd : decode bs pc = .ok (.dload_n i, 1)) (hp : pc + 1 = pc') (q : Gl p e below P (T.setTop (mkF m pc' L (.double v :: S)))) : Gl p e below P (T.setTop (mkF m pc L S)) := by
  obtain ⟨locs, X, eT, N, hn0, hx, hZ, hown, hby, hml, hrt, hlk⟩ := Y
  subst hp
  exact q.of1 fun t q => XS.dloadN X.here hx rfl (hb hby hd) hl q
theorem Gl.dconst0 (Y : Sd Z own bs mx ret n0 p l e R s m args below meth c T h k n)  (hd : decode bs pc = .ok (.dconst 0, 1)) (hp : pc + 1 = pc') (q : Gl p e below P (T.setTop (mkF m pc' L (.double FP.dconst0 :: S)))) : Gl p e below P (T.setTop (mkF m pc L S)) := by
  obtain ⟨locs, X, eT, N, hn0, hx, hZ, hown, hby, hml, hrt, hlk⟩ := Y
  subst hp
  exact q.of1 fun t q => XS.dconst0 X.here hx rfl (hb hby hd) rfl q
theorem Gl.dconst1 (Y : Sd Z own bs mx ret n0 p l e R s m args below meth c T h k n)  (hd : decode bs pc = .ok (.dconst 1, 1)) (hp : pc + 1 = pc') (q : Gl p e below P (T.setTop (mkF m pc' L (.double FP.dconst1 :: S)))) : Gl p e below P (T.setTop (mkF m pc L S)) := by
  obtain ⟨locs, X, eT, N, hn0, hx, hZ, hown, hby, hml, hrt, hlk⟩ := Y
  subst hp
  exact q.of1 fun t q => XS.dconst1 X.here hx rfl (hb hby hd) rfl q
theorem Gl.aload (Y : Sd Z own bs mx ret n0 p l e R s m args below meth c T h k n) {i : Nat} {v : Value} (hl : L[i]? = some (.val v)) (hv : v.isRef = true) (hd : decode bs pc = .ok (.aload i, 2)) (hp : pc + 2 = pc') (q : Gl p e below P (T.setTop (mkF m pc' L (v :: S)))) : Gl p e below P (T.setTop (mkF m pc L S)) := by
  obtain ⟨locs, X, eT, N, hn0, hx, hZ, hown, hby, hml, hrt, hlk⟩ := Y
  subst hp
  exact q.of1 fun t q => XS.aload X.here hx rfl (hb hby hd) hl hv q
theorem Gl.aloadN (Y : Sd Z own bs mx ret n0 p l e R s m args below meth c T h k n) {i : Fin 4} {v : Value} (hl : L[i.val]? = some (.val v)) (hv : v.isRef = true) (hd : decode bs pc = .ok (.aload_n i, 1)) (hp : pc + 1 = pc') (q : Gl p e below P (T.setTop (mkF m pc' L (v :: S)))) : Gl p e below P (T.setTop (mkF m pc L S)) := by
  obtain ⟨locs, X, eT, N, hn0, hx, hZ, hown, hby, hml, hrt, hlk⟩ := Y
  subst hp
  exact q.of1 fun t q => XS.aloadN X.here hx rfl (hb hby hd) hl hv q
theorem Gl.istore (Y : Sd Z own bs mx ret n0 p l e R s m args below meth c T h k n) {i : Nat} {v : Int32} {L' : Array Slot} (hl : storeLocals L i (.int v) = some L') (hd : decode bs pc = .ok (.istore i, 2)) (hp : pc + 2 = pc') (q : Gl p e below P (T.setTop (mkF m pc' L' S))) : Gl p e below P (T.setTop (mkF m pc L (.int v :: S))) := by
  obtain ⟨locs, X, eT, N, hn0, hx, hZ, hown, hby, hml, hrt, hlk⟩ := Y
  subst hp
  exact q.of1 fun t q => XS.istore X.here hx rfl (hb hby hd) rfl hl q
theorem Gl.istoreN (Y : Sd Z own bs mx ret n0 p l e R s m args below meth c T h k n) {i : Fin 4} {v : Int32} {L' : Array Slot} (hl : storeLocals L i.val (.int v) = some L') (hd : decode bs pc = .ok (.istore_n i, 1)) (hp : pc + 1 = pc') (q : Gl p e below P (T.setTop (mkF m pc' L' S))) : Gl p e below P (T.setTop (mkF m pc L (.int v :: S))) := by
  obtain ⟨locs, X, eT, N, hn0, hx, hZ, hown, hby, hml, hrt, hlk⟩ := Y
  subst hp
  exact q.of1 fun t q => XS.istoreN X.here hx rfl (hb hby hd) rfl hl q
theorem Gl.lstore (Y : Sd Z own bs mx ret n0 p l e R s m args below meth c T h k n) {i : Nat} {v : Int64} {L' : Array Slot} (hl : storeLocals L i (.long v) = some L') (hd : decode bs pc = .ok (.lstore i, 2)) (hp : pc + 2 = pc') (q : Gl p e below P (T.setTop (mkF m pc' L' S))) : Gl p e below P (T.setTop (mkF m pc L (.long v :: S))) := by
  obtain ⟨locs, X, eT, N, hn0, hx, hZ, hown, hby, hml, hrt, hlk⟩ := Y
  subst hp
  exact q.of1 fun t q => XS.lstore X.here hx rfl (hb hby hd) rfl hl q
theorem Gl.lstoreN (Y : Sd Z own bs mx ret n0 p l e R s m args below meth c T h k n) {i : Fin 4} {v : Int64} {L' : Array Slot} (hl : storeLocals L i.val (.long v) = some L') (hd : decode bs pc = .ok (.lstore_n i, 1)) (hp : pc + 1 = pc') (q : Gl p e below P (T.setTop (mkF m pc' L' S))) : Gl p e below P (T.setTop (mkF m pc L (.long v :: S))) := by
  obtain ⟨locs, X, eT, N, hn0, hx, hZ, hown, hby, hml, hrt, hlk⟩ := Y
  subst hp
  exact q.of1 fun t q => XS.lstoreN X.here hx rfl (hb hby hd) rfl hl q
theorem Gl.astore (Y : Sd Z own bs mx ret n0 p l e R s m args below meth c T h k n) {i : Nat} {v : Value} (hv : v.isRef = true) {L' : Array Slot} (hl : storeLocals L i (v) = some L') (hd : decode bs pc = .ok (.astore i, 2)) (hp : pc + 2 = pc') (q : Gl p e below P (T.setTop (mkF m pc' L' S))) : Gl p e below P (T.setTop (mkF m pc L (v :: S))) := by
  obtain ⟨locs, X, eT, N, hn0, hx, hZ, hown, hby, hml, hrt, hlk⟩ := Y
  subst hp
  exact q.of1 fun t q => XS.astore X.here hx rfl (hb hby hd) rfl hv hl q
theorem Gl.astoreN (Y : Sd Z own bs mx ret n0 p l e R s m args below meth c T h k n) {i : Fin 4} {v : Value} (hv : v.isRef = true) {L' : Array Slot} (hl : storeLocals L i.val (v) = some L') (hd : decode bs pc = .ok (.astore_n i, 1)) (hp : pc + 1 = pc') (q : Gl p e below P (T.setTop (mkF m pc' L' S))) : Gl p e below P (T.setTop (mkF m pc L (v :: S))) := by
  obtain ⟨locs, X, eT, N, hn0, hx, hZ, hown, hby, hml, hrt, hlk⟩ := Y
  subst hp
  exact q.of1 fun t q => XS.astoreN X.here hx rfl (hb hby hd) rfl hv hl q
theorem Gl.iinc (Y : Sd Z own bs mx ret n0 p l e R s m args below meth c T h k n) {i : Nat} {cst : Int} {x r : Int32} {L' : Array Slot} (hl : L[i]? = some (.val (.int x))) (hr : x + Int32.ofInt cst = r) (hl' : storeLocals L i (.int r) = some L') (hd : decode bs pc = .ok (.iinc i cst, 3)) (hp : pc + 3 = pc') (q : Gl p e below P (T.setTop (mkF m pc' L' S))) : Gl p e below P (T.setTop (mkF m pc L S)) := by
  obtain ⟨locs, X, eT, N, hn0, hx, hZ, hown, hby, hml, hrt, hlk⟩ := Y
  subst hp
  exact q.of1 fun t q => XS.iinc X.here hx rfl (hb hby hd) hl (by rw [hr]; exact hl') q
theorem Gl.dup (Y : Sd Z own bs mx ret n0 p l e R s m args below meth c T h k n) {x : Value} (hc : x.category = 1) (hd : decode bs pc = .ok (.dup, 1)) (hp : pc + 1 = pc') (q : Gl p e below P (T.setTop (mkF m pc' L (x :: x :: S)))) : Gl p e below P (T.setTop (mkF m pc L (x :: S))) := by
  obtain ⟨locs, X, eT, N, hn0, hx, hZ, hown, hby, hml, hrt, hlk⟩ := Y
  subst hp
  exact q.of1 fun t q => XS.dup X.here hx rfl (hb hby hd) rfl hc q
theorem Gl.pop (Y : Sd Z own bs mx ret n0 p l e R s m args below meth c T h k n) {x : Value} (hc : x.category = 1) (hd : decode bs pc = .ok (.pop, 1)) (hp : pc + 1 = pc') (q : Gl p e below P (T.setTop (mkF m pc' L S))) : Gl p e below P (T.setTop (mkF m pc L (x :: S))) := by
  obtain ⟨locs, X, eT, N, hn0, hx, hZ, hown, hby, hml, hrt, hlk⟩ := Y
  subst hp
  exact q.of1 fun t q => XS.pop X.here hx rfl (hb hby hd) rfl hc q
theorem Gl.dupX1 (Y : Sd Z own bs mx ret n0 p l e R s m args below meth c T h k n) {x y : Value} (hc : x.category = 1) (hc' : y.category = 1) (hd : decode bs pc = .ok (.dup_x1, 1)) (hp : pc + 1 = pc') (q : Gl p e below P (T.setTop (mkF m pc' L (x :: y :: x :: S)))) : Gl p e below P (T.setTop (mkF m pc L (x :: y :: S))) := by
  obtain ⟨locs, X, eT, N, hn0, hx, hZ, hown, hby, hml, hrt, hlk⟩ := Y
  subst hp
  exact q.of1 fun t q => XS.dupX1 X.here hx rfl (hb hby hd) rfl hc hc' q
theorem Gl.lcmp (Y : Sd Z own bs mx ret n0 p l e R s m args below meth c T h k n) {x y : Int64} {r : Int32} (hr : lcmpW x y = r) (hd : decode bs pc = .ok (.lcmp, 1)) (hp : pc + 1 = pc') (q : Gl p e below P (T.setTop (mkF m pc' L (.int r :: S)))) : Gl p e below P (T.setTop (mkF m pc L (.long y :: .long x :: S))) := by
  obtain ⟨locs, X, eT, N, hn0, hx, hZ, hown, hby, hml, hrt, hlk⟩ := Y
  subst hp hr
  exact q.of1 fun t q => XS.lcmp X.here hx rfl (hb hby hd) rfl q
theorem Gl.arraylength (Y : Sd Z own bs mx ret n0 p l e R s m args below meth c T h k n) {a : Addr} {ck : ClassId} {ty : FieldType} {z : Int32} {vs : List Value} {d : Value} (F : Arv Z h a ck ty z vs d) (hd : decode bs pc = .ok (.arraylength, 1)) (hp : pc + 1 = pc') (q : Gl p e below P (T.setTop (mkF m pc' L (.int z :: S)))) : Gl p e below P (T.setTop (mkF m pc L (.ref a :: S))) := by
  obtain ⟨locs, X, eT, N, hn0, hx, hZ, hown, hby, hml, hrt, hlk⟩ := Y
  subst hp
  exact q.of1 fun t q => by
    obtain ⟨cl, A, -, S1, N1, -⟩ := F
    exact X.arraylength hx (by rw [eT]; exact A.1) (State.isArrayOf_alike hZ.alike A.2.1) (g := mkF m pc L (.ref a :: S)) rfl rfl (hb hby hd) t (by rw [len_of S1 N1]; exact q)
theorem Gl.iaload (Y : Sd Z own bs mx ret n0 p l e R s m args below meth c T h k n) {a : Addr} {ck : ClassId} {z j : Int32} {vs : List Value} {d v : Value} (F : Arv Z h a ck .int z vs d) (hj : ¬ j < 0 ∧ j < z) (hv : vs.getD j.toNatClampNeg d = v) (hd : decode bs pc = .ok (.iaload, 1)) (hp : pc + 1 = pc') (q : Gl p e below P (T.setTop (mkF m pc' L (v :: S)))) : Gl p e below P (T.setTop (mkF m pc L (.int j :: .ref a :: S))) := by
  obtain ⟨locs, X, eT, N, hn0, hx, hZ, hown, hby, hml, hrt, hlk⟩ := Y
  subst hp
  exact q.of1 fun t q => by
    obtain ⟨cl, A, -, S1, N1, H, -⟩ := F
    exact X.iaload hx (by rw [eT]; exact A.1) (State.isArrayOf_alike hZ.alike A.2.1) A.2.2 (inb_of S1 hj) (H.at (inb_of S1 hj) hv) (g := mkF m pc L (.int j :: .ref a :: S)) rfl rfl (hb hby hd) t q
theorem Gl.laload (Y : Sd Z own bs mx ret n0 p l e R s m args below meth c T h k n) {a : Addr} {ck : ClassId} {z j : Int32} {vs : List Value} {d v : Value} (F : Arv Z h a ck .long z vs d) (hj : ¬ j < 0 ∧ j < z) (hv : vs.getD j.toNatClampNeg d = v) (hd : decode bs pc = .ok (.laload, 1)) (hp : pc + 1 = pc') (q : Gl p e below P (T.setTop (mkF m pc' L (v :: S)))) : Gl p e below P (T.setTop (mkF m pc L (.int j :: .ref a :: S))) := by
  obtain ⟨locs, X, eT, N, hn0, hx, hZ, hown, hby, hml, hrt, hlk⟩ := Y
  subst hp
  exact q.of1 fun t q => by
    obtain ⟨cl, A, -, S1, N1, H, -⟩ := F
    exact X.laload hx (by rw [eT]; exact A.1) (State.isArrayOf_alike hZ.alike A.2.1) A.2.2 (inb_of S1 hj) (H.at (inb_of S1 hj) hv) (g := mkF m pc L (.int j :: .ref a :: S)) rfl rfl (hb hby hd) t q
theorem Gl.caload (Y : Sd Z own bs mx ret n0 p l e R s m args below meth c T h k n) {a : Addr} {ck : ClassId} {z j : Int32} {vs : List Value} {d v : Value} (F : Arv Z h a ck .char z vs d) (hj : ¬ j < 0 ∧ j < z) (hv : vs.getD j.toNatClampNeg d = v) (hd : decode bs pc = .ok (.caload, 1)) (hp : pc + 1 = pc') (q : Gl p e below P (T.setTop (mkF m pc' L (v :: S)))) : Gl p e below P (T.setTop (mkF m pc L (.int j :: .ref a :: S))) := by
  obtain ⟨locs, X, eT, N, hn0, hx, hZ, hown, hby, hml, hrt, hlk⟩ := Y
  subst hp
  exact q.of1 fun t q => by
    obtain ⟨cl, A, -, S1, N1, H, -⟩ := F
    exact X.caload hx (by rw [eT]; exact A.1) (State.isArrayOf_alike hZ.alike A.2.1) A.2.2 (inb_of S1 hj) (H.at (inb_of S1 hj) hv) (g := mkF m pc L (.int j :: .ref a :: S)) rfl rfl (hb hby hd) t q
theorem Gl.saload (Y : Sd Z own bs mx ret n0 p l e R s m args below meth c T h k n) {a : Addr} {ck : ClassId} {z j : Int32} {vs : List Value} {d v : Value} (F : Arv Z h a ck .short z vs d) (hj : ¬ j < 0 ∧ j < z) (hv : vs.getD j.toNatClampNeg d = v) (hd : decode bs pc = .ok (.saload, 1)) (hp : pc + 1 = pc') (q : Gl p e below P (T.setTop (mkF m pc' L (v :: S)))) : Gl p e below P (T.setTop (mkF m pc L (.int j :: .ref a :: S))) := by
  obtain ⟨locs, X, eT, N, hn0, hx, hZ, hown, hby, hml, hrt, hlk⟩ := Y
  subst hp
  exact q.of1 fun t q => by
    obtain ⟨cl, A, -, S1, N1, H, -⟩ := F
    exact X.saload hx (by rw [eT]; exact A.1) (State.isArrayOf_alike hZ.alike A.2.1) A.2.2 (inb_of S1 hj) (H.at (inb_of S1 hj) hv) (g := mkF m pc L (.int j :: .ref a :: S)) rfl rfl (hb hby hd) t q
theorem Gl.baload (Y : Sd Z own bs mx ret n0 p l e R s m args below meth c T h k n) {a : Addr} {ck : ClassId} {z j : Int32} {vs : List Value} {d v : Value} (F : Arv Z h a ck .byte z vs d) (hj : ¬ j < 0 ∧ j < z) (hv : vs.getD j.toNatClampNeg d = v) (hd : decode bs pc = .ok (.baload, 1)) (hp : pc + 1 = pc') (q : Gl p e below P (T.setTop (mkF m pc' L (v :: S)))) : Gl p e below P (T.setTop (mkF m pc L (.int j :: .ref a :: S))) := by
  obtain ⟨locs, X, eT, N, hn0, hx, hZ, hown, hby, hml, hrt, hlk⟩ := Y
  subst hp
  exact q.of1 fun t q => by
    obtain ⟨cl, A, -, S1, N1, H, -⟩ := F
    exact X.baloadBytes hx (by rw [eT]; exact A.1) (State.isArrayOf_alike hZ.alike A.2.1) A.2.2 (inb_of S1 hj) (H.at (inb_of S1 hj) hv) (g := mkF m pc L (.int j :: .ref a :: S)) rfl rfl (hb hby hd) t q
theorem Gl.goto (Y : Sd Z own bs mx ret n0 p l e R s m args below meth c T h k n) {o : Int} (hd : decode bs pc = .ok (.goto o, 3)) (ho : 0 ≤ (pc : Int) + o) (hp : ((pc : Int) + o).toNat = pc') (q : Gl p e below P (T.setTop (mkF m pc' L S))) : Gl p e below P (T.setTop (mkF m pc L S)) := by
  obtain ⟨locs, X, eT, N, hn0, hx, hZ, hown, hby, hml, hrt, hlk⟩ := Y
  exact q.of1 fun t q => XS.goto X.here hx rfl rfl (hb hby hd) ho hp q
theorem Gl.ifeq (Y : Sd Z own bs mx ret n0 p l e R s m args below meth c T h k n) {x : Int32} {o : Int} (hd : decode bs pc = .ok (.ifCond .eq o, 3)) (ho : 0 ≤ (pc : Int) + o) (ht : ((pc : Int) + o).toNat = pcT) (hf : pc + 3 = pcF) (q1 : x = 0 → Gl p e below P (T.setTop (mkF m pcT L S))) (q2 : ¬ x = 0 → Gl p e below P (T.setTop (mkF m pcF L S))) : Gl p e below P (T.setTop (mkF m pc L (.int x :: S))) := by
  obtain ⟨locs, X, eT, N, hn0, hx, hZ, hown, hby, hml, hrt, hlk⟩ := Y
  by_cases hq : x = 0
  · exact (q1 hq).of1 fun t q => XS.ifYes X.here hx rfl rfl (hb hby hd) rfl (Jvm.Free.XT.i0_eq_t hq) ho ht q
  · subst hf
    exact (q2 (by first | exact hq | exact Decidable.not_not.mp hq)).of1 fun t q => XS.ifNo X.here hx rfl (hb hby hd) rfl (Jvm.Free.XT.i0_eq_f (by first | exact hq | exact Decidable.not_not.mp hq)) q
theorem Gl.icmpeq (Y : Sd Z own bs mx ret n0 p l e R s m args below meth c T h k n) {x y : Int32} {o : Int} (hd : decode bs pc = .ok (.if_icmp .eq o, 3)) (ho : 0 ≤ (pc : Int) + o) (ht : ((pc : Int) + o).toNat = pcT) (hf : pc + 3 = pcF) (q1 : x = y → Gl p e below P (T.setTop (mkF m pcT L S))) (q2 : ¬ x = y → Gl p e below P (T.setTop (mkF m pcF L S))) : Gl p e below P (T.setTop (mkF m pc L (.int y :: .int x :: S))) := by
  obtain ⟨locs, X, eT, N, hn0, hx, hZ, hown, hby, hml, hrt, hlk⟩ := Y
  by_cases hq : x = y
  · exact (q1 hq).of1 fun t q => XS.icmpYes X.here hx rfl rfl (hb hby hd) rfl (Jvm.Free.XT.ii_eq_t hq) ho ht q
  · subst hf
    exact (q2 (by first | exact hq | exact Decidable.not_not.mp hq)).of1 fun t q => XS.icmpNo X.here hx rfl (hb hby hd) rfl (Jvm.Free.XT.ii_eq_f (by first | exact hq | exact Decidable.not_not.mp hq)) q
theorem Gl.lcmpeq (Y : Sd Z own bs mx ret n0 p l e R s m args below meth c T h k n) {x y : Int64} {pc1 : Nat} {o : Int} (hd0 : decode bs pc = .ok (.lcmp, 1)) (hp1 : pc + 1 = pc1) (hd : decode bs pc1 = .ok (.ifCond .eq o, 3)) (ho : 0 ≤ (pc1 : Int) + o) (ht : ((pc1 : Int) + o).toNat = pcT) (hf : pc1 + 3 = pcF) (q1 : x = y → Gl p e below P (T.setTop (mkF m pcT L S))) (q2 : ¬ x = y → Gl p e below P (T.setTop (mkF m pcF L S))) : Gl p e below P (T.setTop (mkF m pc L (.long y :: .long x :: S))) := by
  refine Gl.lcmp Y rfl hd0 hp1 ?_
  obtain ⟨locs, X, eT, N, hn0, hx, hZ, hown, hby, hml, hrt, hlk⟩ := Y
  by_cases hq : x = y
  · exact (q1 hq).of1 fun t q => XS.ifYes X.here hx rfl rfl (hb hby hd) rfl (Jvm.Free.XT.ll_eq_t hq) ho ht q
  · subst hf
    exact (q2 (by first | exact hq | exact Decidable.not_not.mp hq)).of1 fun t q => XS.ifNo X.here hx rfl (hb hby hd) rfl (Jvm.Free.XT.ll_eq_f (by first | exact hq | exact Decidable.not_not.mp hq)) q
theorem Gl.ifne (Y : Sd Z own bs mx ret n0 p l e R s m args below meth c T h k n) {x : Int32} {o : Int} (hd : decode bs pc = .ok (.ifCond .ne o, 3)) (ho : 0 ≤ (pc : Int) + o) (ht : ((pc : Int) + o).toNat = pcT) (hf : pc + 3 = pcF) (q1 : ¬ x = 0 → Gl p e below P (T.setTop (mkF m pcT L S))) (q2 : x = 0 → Gl p e below P (T.setTop (mkF m pcF L S))) : Gl p e below P (T.setTop (mkF m pc L (.int x :: S))) := by
  obtain ⟨locs, X, eT, N, hn0, hx, hZ, hown, hby, hml, hrt, hlk⟩ := Y
  by_cases hq : ¬ x = 0
  · exact (q1 hq).of1 fun t q => XS.ifYes X.here hx rfl rfl (hb hby hd) rfl (Jvm.Free.XT.i0_ne_t hq) ho ht q
  · subst hf
    exact (q2 (by first | exact hq | exact Decidable.not_not.mp hq)).of1 fun t q => XS.ifNo X.here hx rfl (hb hby hd) rfl (Jvm.Free.XT.i0_ne_f (by first | exact hq | exact Decidable.not_not.mp hq)) q
theorem Gl.icmpne (Y : Sd Z own bs mx ret n0 p l e R s m args below meth c T h k n) {x y : Int32} {o : Int} (hd : decode bs pc = .ok (.if_icmp .ne o, 3)) (ho : 0 ≤ (pc : Int) + o) (ht : ((pc : Int) + o).toNat = pcT) (hf : pc + 3 = pcF) (q1 : ¬ x = y → Gl p e below P (T.setTop (mkF m pcT L S))) (q2 : x = y → Gl p e below P (T.setTop (mkF m pcF L S))) : Gl p e below P (T.setTop (mkF m pc L (.int y :: .int x :: S))) := by
  obtain ⟨locs, X, eT, N, hn0, hx, hZ, hown, hby, hml, hrt, hlk⟩ := Y
  by_cases hq : ¬ x = y
  · exact (q1 hq).of1 fun t q => XS.icmpYes X.here hx rfl rfl (hb hby hd) rfl (Jvm.Free.XT.ii_ne_t hq) ho ht q
  · subst hf
    exact (q2 (by first | exact hq | exact Decidable.not_not.mp hq)).of1 fun t q => XS.icmpNo X.here hx rfl (hb hby hd) rfl (Jvm.Free.XT.ii_ne_f (by first | exact hq | exact Decidable.not_not.mp hq)) q
theorem Gl.lcmpne (Y : Sd Z own bs mx ret n0 p l e R s m args below meth c T h k n) {x y : Int64} {pc1 : Nat} {o : Int} (hd0 : decode bs pc = .ok (.lcmp, 1)) (hp1 : pc + 1 = pc1) (hd : decode bs pc1 = .ok (.ifCond .ne o, 3)) (ho : 0 ≤ (pc1 : Int) + o) (ht : ((pc1 : Int) + o).toNat = pcT) (hf : pc1 + 3 = pcF) (q1 : ¬ x = y → Gl p e below P (T.setTop (mkF m pcT L S))) (q2 : x = y → Gl p e below P (T.setTop (mkF m pcF L S))) : Gl p e below P (T.setTop (mkF m pc L (.long y :: .long x :: S))) := by
  refine Gl.lcmp Y rfl hd0 hp1 ?_
  obtain ⟨locs, X, eT, N, hn0, hx, hZ, hown, hby, hml, hrt, hlk⟩ := Y
  by_cases hq : ¬ x = y
  · exact (q1 hq).of1 fun t q => XS.ifYes X.here hx rfl rfl (hb hby hd) rfl (Jvm.Free.XT.ll_ne_t hq) ho ht q
  · subst hf
    exact (q2 (by first | exact hq | exact Decidable.not_not.mp hq)).of1 fun t q => XS.ifNo X.here hx rfl (hb hby hd) rfl (Jvm.Free.XT.ll_ne_f (by first | exact hq | exact Decidable.not_not.mp hq)) q
theorem Gl.iflt (Y : Sd Z own bs mx ret n0 p l e R s m args below meth c T h k n) {x : Int32} {o : Int} (hd : decode bs pc = .ok (.ifCond .lt o, 3)) (ho : 0 ≤ (pc : Int) + o) (ht : ((pc : Int) + o).toNat = pcT) (hf : pc + 3 = pcF) (q1 : x < 0 → Gl p e below P (T.setTop (mkF m pcT L S))) (q2 : ¬ x < 0 → Gl p e below P (T.setTop (mkF m pcF L S))) : Gl p e below P (T.setTop (mkF m pc L (.int x :: S))) := by
  obtain ⟨locs, X, eT, N, hn0, hx, hZ, hown, hby, hml, hrt, hlk⟩ := Y
  by_cases hq : x < 0
  · exact (q1 hq).of1 fun t q => XS.ifYes X.here hx rfl rfl (hb hby hd) rfl (Jvm.Free.XT.i0_lt_t hq) ho ht q
  · subst hf
    exact (q2 (by first | exact hq | exact Decidable.not_not.mp hq)).of1 fun t q => XS.ifNo X.here hx rfl (hb hby hd) rfl (Jvm.Free.XT.i0_lt_f (by first | exact hq | exact Decidable.not_not.mp hq)) q
theorem Gl.icmplt (Y : Sd Z own bs mx ret n0 p l e R s m args below meth c T h k n) {x y : Int32} {o : Int} (hd : decode bs pc = .ok (.if_icmp .lt o, 3)) (ho : 0 ≤ (pc : Int) + o) (ht : ((pc : Int) + o).toNat = pcT) (hf : pc + 3 = pcF) (q1 : x < y → Gl p e below P (T.setTop (mkF m pcT L S))) (q2 : ¬ x < y → Gl p e below P (T.setTop (mkF m pcF L S))) : Gl p e below P (T.setTop (mkF m pc L (.int y :: .int x :: S))) := by
  obtain ⟨locs, X, eT, N, hn0, hx, hZ, hown, hby, hml, hrt, hlk⟩ := Y
  by_cases hq : x < y
  · exact (q1 hq).of1 fun t q => XS.icmpYes X.here hx rfl rfl (hb hby hd) rfl (Jvm.Free.XT.ii_lt_t hq) ho ht q
  · subst hf
    exact (q2 (by first | exact hq | exact Decidable.not_not.mp hq)).of1 fun t q => XS.icmpNo X.here hx rfl (hb hby hd) rfl (Jvm.Free.XT.ii_lt_f (by first | exact hq | exact Decidable.not_not.mp hq)) q
theorem Gl.lcmplt (Y : Sd Z own bs mx ret n0 p l e R s m args below meth c T h k n) {x y : Int64} {pc1 : Nat} {o : Int} (hd0 : decode bs pc = .ok (.lcmp, 1)) (hp1 : pc + 1 = pc1) (hd : decode bs pc1 = .ok (.ifCond .lt o, 3)) (ho : 0 ≤ (pc1 : Int) + o) (ht : ((pc1 : Int) + o).toNat = pcT) (hf : pc1 + 3 = pcF) (q1 : x < y → Gl p e below P (T.setTop (mkF m pcT L S))) (q2 : ¬ x < y → Gl p e below P (T.setTop (mkF m pcF L S))) : Gl p e below P (T.setTop (mkF m pc L (.long y :: .long x :: S))) := by
  refine Gl.lcmp Y rfl hd0 hp1 ?_
  obtain ⟨locs, X, eT, N, hn0, hx, hZ, hown, hby, hml, hrt, hlk⟩ := Y
  by_cases hq : x < y
  · exact (q1 hq).of1 fun t q => XS.ifYes X.here hx rfl rfl (hb hby hd) rfl (Jvm.Free.XT.ll_lt_t hq) ho ht q
  · subst hf
    exact (q2 (by first | exact hq | exact Decidable.not_not.mp hq)).of1 fun t q => XS.ifNo X.here hx rfl (hb hby hd) rfl (Jvm.Free.XT.ll_lt_f (by first | exact hq | exact Decidable.not_not.mp hq)) q
theorem Gl.ifge (Y : Sd Z own bs mx ret n0 p l e R s m args below meth c T h k n) {x : Int32} {o : Int} (hd : decode bs pc = .ok (.ifCond .ge o, 3)) (ho : 0 ≤ (pc : Int) + o) (ht : ((pc : Int) + o).toNat = pcT) (hf : pc + 3 = pcF) (q1 : ¬ x < 0 → Gl p e below P (T.setTop (mkF m pcT L S))) (q2 : x < 0 → Gl p e below P (T.setTop (mkF m pcF L S))) : Gl p e below P (T.setTop (mkF m pc L (.int x :: S))) := by
  obtain ⟨locs, X, eT, N, hn0, hx, hZ, hown, hby, hml, hrt, hlk⟩ := Y
  by_cases hq : ¬ x < 0
  · exact (q1 hq).of1 fun t q => XS.ifYes X.here hx rfl rfl (hb hby hd) rfl (Jvm.Free.XT.i0_ge_t hq) ho ht q
  · subst hf
    exact (q2 (by first | exact hq | exact Decidable.not_not.mp hq)).of1 fun t q => XS.ifNo X.here hx rfl (hb hby hd) rfl (Jvm.Free.XT.i0_ge_f (by first | exact hq | exact Decidable.not_not.mp hq)) q
theorem Gl.icmpge (Y : Sd Z own bs mx ret n0 p l e R s m args below meth c T h k n) {x y : Int32} {o : Int} (hd : decode bs pc = .ok (.if_icmp .ge o, 3)) (ho : 0 ≤ (pc : Int) + o) (ht : ((pc : Int) + o).toNat = pcT) (hf : pc + 3 = pcF) (q1 : ¬ x < y → Gl p e below P (T.setTop (mkF m pcT L S))) (q2 : x < y → Gl p e below P (T.setTop (mkF m pcF L S))) : Gl p e below P (T.setTop (mkF m pc L (.int y :: .int x :: S))) := by
  obtain ⟨locs, X, eT, N, hn0, hx, hZ, hown, hby, hml, hrt, hlk⟩ := Y
  by_cases hq : ¬ x < y
  · exact (q1 hq).of1 fun t q => XS.icmpYes X.here hx rfl rfl (hb hby hd) rfl (Jvm.Free.XT.ii_ge_t hq) ho ht q
  · subst hf
    exact (q2 (by first | exact hq | exact Decidable.not_not.mp hq)).of1 fun t q => XS.icmpNo X.here hx rfl (hb hby hd) rfl (Jvm.Free.XT.ii_ge_f (by first | exact hq | exact Decidable.not_not.mp hq)) q
theorem Gl.lcmpge (Y : Sd Z own bs mx ret n0 p l e R s m args below meth c T h k n) {x y : Int64} {pc1 : Nat} {o : Int} (hd0 : decode bs pc = .ok (.lcmp, 1)) (hp1 : pc + 1 = pc1) (hd : decode bs pc1 = .ok (.ifCond .ge o, 3)) (ho : 0 ≤ (pc1 : Int) + o) (ht : ((pc1 : Int) + o).toNat = pcT) (hf : pc1 + 3 = pcF) (q1 : ¬ x < y → Gl p e below P (T.setTop (mkF m pcT L S))) (q2 : x < y → Gl p e below P (T.setTop (mkF m pcF L S))) : Gl p e below P (T.setTop (mkF m pc L (.long y :: .long x :: S))) := by
  refine Gl.lcmp Y rfl hd0 hp1 ?_
  obtain ⟨locs, X, eT, N, hn0, hx, hZ, hown, hby, hml, hrt, hlk⟩ := Y
  by_cases hq : ¬ x < y
  · exact (q1 hq).of1 fun t q => XS.ifYes X.here hx rfl rfl (hb hby hd) rfl (Jvm.Free.XT.ll_ge_t hq) ho ht q
  · subst hf
    exact (q2 (by first | exact hq | exact Decidable.not_not.mp hq)).of1 fun t q => XS.ifNo X.here hx rfl (hb hby hd) rfl (Jvm.Free.XT.ll_ge_f (by first | exact hq | exact Decidable.not_not.mp hq)) q
theorem Gl.ifgt (Y : Sd Z own bs mx ret n0 p l e R s m args below meth c T h k n) {x : Int32} {o : Int} (hd : decode bs pc = .ok (.ifCond .gt o, 3)) (ho : 0 ≤ (pc : Int) + o) (ht : ((pc : Int) + o).toNat = pcT) (hf : pc + 3 = pcF) (q1 : 0 < x → Gl p e below P (T.setTop (mkF m pcT L S))) (q2 : ¬ 0 < x → Gl p e below P (T.setTop (mkF m pcF L S))) : Gl p e below P (T.setTop (mkF m pc L (.int x :: S))) := by
  obtain ⟨locs, X, eT, N, hn0, hx, hZ, hown, hby, hml, hrt, hlk⟩ := Y
  by_cases hq : 0 < x
  · exact (q1 hq).of1 fun t q => XS.ifYes X.here hx rfl rfl (hb hby hd) rfl (Jvm.Free.XT.i0_gt_t hq) ho ht q
  · subst hf
    exact (q2 (by first | exact hq | exact Decidable.not_not.mp hq)).of1 fun t q => XS.ifNo X.here hx rfl (hb hby hd) rfl (Jvm.Free.XT.i0_gt_f (by first | exact hq | exact Decidable.not_not.mp hq)) q
theorem Gl.icmpgt (Y : Sd Z own bs mx ret n0 p l e R s m args below meth c T h k n) {x y : Int32} {o : Int} (hd : decode bs pc = .ok (.if_icmp .gt o, 3)) (ho : 0 ≤ (pc : Int) + o) (ht : ((pc : Int) + o).toNat = pcT) (hf : pc + 3 = pcF) (q1 : y < x → Gl p e below P (T.setTop (mkF m pcT L S))) (q2 : ¬ y < x → Gl p e below P (T.setTop (mkF m pcF L S))) : Gl p e below P (T.setTop (mkF m pc L (.int y :: .int x :: S))) := by
  obtain ⟨locs, X, eT, N, hn0, hx, hZ, hown, hby, hml, hrt, hlk⟩ := Y
  by_cases hq : y < x
  · exact (q1 hq).of1 fun t q => XS.icmpYes X.here hx rfl rfl (hb hby hd) rfl (Jvm.Free.XT.ii_gt_t hq) ho ht q
  · subst hf
    exact (q2 (by first | exact hq | exact Decidable.not_not.mp hq)).of1 fun t q => XS.icmpNo X.here hx rfl (hb hby hd) rfl (Jvm.Free.XT.ii_gt_f (by first | exact hq | exact Decidable.not_not.mp hq)) q
theorem Gl.lcmpgt (Y : Sd Z own bs mx ret n0 p l e R s m args below meth c T h k n) {x y : Int64} {pc1 : Nat} {o : Int} (hd0 : decode bs pc = .ok (.lcmp, 1)) (hp1 : pc + 1 = pc1) (hd : decode bs pc1 = .ok (.ifCond .gt o, 3)) (ho : 0 ≤ (pc1 : Int) + o) (ht : ((pc1 : Int) + o).toNat = pcT) (hf : pc1 + 3 = pcF) (q1 : y < x → Gl p e below P (T.setTop (mkF m pcT L S))) (q2 : ¬ y < x → Gl p e below P (T.setTop (mkF m pcF L S))) : Gl p e below P (T.setTop (mkF m pc L (.long y :: .long x :: S))) := by
  refine Gl.lcmp Y rfl hd0 hp1 ?_
  obtain ⟨locs, X, eT, N, hn0, hx, hZ, hown, hby, hml, hrt, hlk⟩ := Y
  by_cases hq : y < x
  · exact (q1 hq).of1 fun t q => XS.ifYes X.here hx rfl rfl (hb hby hd) rfl (Jvm.Free.XT.ll_gt_t hq) ho ht q
  · subst hf
    exact (q2 (by first | exact hq | exact Decidable.not_not.mp hq)).of1 fun t q => XS.ifNo X.here hx rfl (hb hby hd) rfl (Jvm.Free.XT.ll_gt_f (by first | exact hq | exact Decidable.not_not.mp hq)) q
theorem Gl.ifle (Y : Sd Z own bs mx ret n0 p l e R s m args below meth c T h k n) {x : Int32} {o : Int} (hd : decode bs pc = .ok (.ifCond .le o, 3)) (ho : 0 ≤ (pc : Int) + o) (ht : ((pc : Int) + o).toNat = pcT) (hf : pc + 3 = pcF) (q1 : ¬ 0 < x → Gl p e below P (T.setTop (mkF m pcT L S))) (q2 : 0 < x → Gl p e below P (T.setTop (mkF m pcF L S))) : Gl p e below P (T.setTop (mkF m pc L (.int x :: S))) := by
  obtain ⟨locs, X, eT, N, hn0, hx, hZ, hown, hby, hml, hrt, hlk⟩ := Y
  by_cases hq : ¬ 0 < x
  · exact (q1 hq).of1 fun t q => XS.ifYes X.here hx rfl rfl (hb hby hd) rfl (Jvm.Free.XT.i0_le_t hq) ho ht q
  · subst hf
    exact (q2 (by first | exact hq | exact Decidable.not_not.mp hq)).of1 fun t q => XS.ifNo X.here hx rfl (hb hby hd) rfl (Jvm.Free.XT.i0_le_f (by first | exact hq | exact Decidable.not_not.mp hq)) q
theorem Gl.icmple (Y : Sd Z own bs mx ret n0 p l e R s m args below meth c T h k n) {x y : Int32} {o : Int} (hd : decode bs pc = .ok (.if_icmp .le o, 3)) (ho : 0 ≤ (pc : Int) + o) (ht : ((pc : Int) + o).toNat = pcT) (hf : pc + 3 = pcF) (q1 : ¬ y < x → Gl p e below P (T.setTop (mkF m pcT L S))) (q2 : y < x → Gl p e below P (T.setTop (mkF m pcF L S))) : Gl p e below P (T.setTop (mkF m pc L (.int y :: .int x :: S))) := by
  obtain ⟨locs, X, eT, N, hn0, hx, hZ, hown, hby, hml, hrt, hlk⟩ := Y
  by_cases hq : ¬ y < x
  · exact (q1 hq).of1 fun t q => XS.icmpYes X.here hx rfl rfl (hb hby hd) rfl (Jvm.Free.XT.ii_le_t hq) ho ht q
  · subst hf
    exact (q2 (by first | exact hq | exact Decidable.not_not.mp hq)).of1 fun t q => XS.icmpNo X.here hx rfl (hb hby hd) rfl (Jvm.Free.XT.ii_le_f (by first | exact hq | exact Decidable.not_not.mp hq)) q
theorem Gl.lcmple (Y : Sd Z own bs mx ret n0 p l e R s m args below meth c T h k n) {x y : Int64} {pc1 : Nat} {o : Int} (hd0 : decode bs pc = .ok (.lcmp, 1)) (hp1 : pc + 1 = pc1) (hd : decode bs pc1 = .ok (.ifCond .le o, 3)) (ho : 0 ≤ (pc1 : Int) + o) (ht : ((pc1 : Int) + o).toNat = pcT) (hf : pc1 + 3 = pcF) (q1 : ¬ y < x → Gl p e below P (T.setTop (mkF m pcT L S))) (q2 : y < x → Gl p e below P (T.setTop (mkF m pcF L S))) : Gl p e below P (T.setTop (mkF m pc L (.long y :: .long x :: S))) := by
  refine Gl.lcmp Y rfl hd0 hp1 ?_
  obtain ⟨locs, X, eT, N, hn0, hx, hZ, hown, hby, hml, hrt, hlk⟩ := Y
  by_cases hq : ¬ y < x
  · exact (q1 hq).of1 fun t q => XS.ifYes X.here hx rfl rfl (hb hby hd) rfl (Jvm.Free.XT.ll_le_t hq) ho ht q
  · subst hf
    exact (q2 (by first | exact hq | exact Decidable.not_not.mp hq)).of1 fun t q => XS.ifNo X.here hx rfl (hb hby hd) rfl (Jvm.Free.XT.ll_le_f (by first | exact hq | exact Decidable.not_not.mp hq)) q
theorem Gl.ifnullY (Y : Sd Z own bs mx ret n0 p l e R s m args below meth c T h k n)  {o : Int} (hd : decode bs pc = .ok (.ifnull o, 3)) (ho : 0 ≤ (pc : Int) + o) (ht : ((pc : Int) + o).toNat = pcT) (q : Gl p e below P (T.setTop (mkF m pcT L S))) : Gl p e below P (T.setTop (mkF m pc L (.null :: S))) := by
  obtain ⟨locs, X, eT, N, hn0, hx, hZ, hown, hby, hml, hrt, hlk⟩ := Y
  exact q.of1 fun t q => XS.ifnullYes X.here hx rfl rfl (hb hby hd) rfl ho ht q
theorem Gl.ifnullN (Y : Sd Z own bs mx ret n0 p l e R s m args below meth c T h k n) {b : Addr} {o : Int} (hd : decode bs pc = .ok (.ifnull o, 3)) (hf : pc + 3 = pcF) (q : Gl p e below P (T.setTop (mkF m pcF L S))) : Gl p e below P (T.setTop (mkF m pc L (.ref b :: S))) := by
  obtain ⟨locs, X, eT, N, hn0, hx, hZ, hown, hby, hml, hrt, hlk⟩ := Y
  subst hf
  exact q.of1 fun t q => XS.ifnullNo X.here hx rfl (hb hby hd) rfl q
theorem Gl.ifnonnullY (Y : Sd Z own bs mx ret n0 p l e R s m args below meth c T h k n) {b : Addr} {o : Int} (hd : decode bs pc = .ok (.ifnonnull o, 3)) (ho : 0 ≤ (pc : Int) + o) (ht : ((pc : Int) + o).toNat = pcT) (q : Gl p e below P (T.setTop (mkF m pcT L S))) : Gl p e below P (T.setTop (mkF m pc L (.ref b :: S))) := by
  obtain ⟨locs, X, eT, N, hn0, hx, hZ, hown, hby, hml, hrt, hlk⟩ := Y
  exact q.of1 fun t q => XS.ifnonnullYes X.here hx rfl rfl (hb hby hd) rfl ho ht q
theorem Gl.ifnonnullN (Y : Sd Z own bs mx ret n0 p l e R s m args below meth c T h k n)  {o : Int} (hd : decode bs pc = .ok (.ifnonnull o, 3)) (hf : pc + 3 = pcF) (q : Gl p e below P (T.setTop (mkF m pcF L S))) : Gl p e below P (T.setTop (mkF m pc L (.null :: S))) := by
  obtain ⟨locs, X, eT, N, hn0, hx, hZ, hown, hby, hml, hrt, hlk⟩ := Y
  subst hf
  exact q.of1 fun t q => XS.ifnonnullNo X.here hx rfl (hb hby hd) rfl q
theorem Gl.acmpeq (Y : Sd Z own bs mx ret n0 p l e R s m args below meth c T h k n) {x y : Value} {o : Int} (h1 : x.isRef = true) (h2 : y.isRef = true) (hd : decode bs pc = .ok (.if_acmp .eq o, 3)) (ho : 0 ≤ (pc : Int) + o) (ht : ((pc : Int) + o).toNat = pcT) (hf : pc + 3 = pcF) (q1 : x = y → Gl p e below P (T.setTop (mkF m pcT L S))) (q2 : ¬ x = y → Gl p e below P (T.setTop (mkF m pcF L S))) : Gl p e below P (T.setTop (mkF m pc L (y :: x :: S))) := by
  obtain ⟨locs, X, eT, N, hn0, hx, hZ, hown, hby, hml, hrt, hlk⟩ := Y
  subst ht hf
  by_cases hq : x = y
  · exact (q1 hq).of1 fun t q => Jvm.RoadKit.acmp (g := mkF m pc L (y :: x :: S)) X hx rfl h1 h2 (pc0 := pc) (same := true) rfl (hb hby hd) rfl (decide_eq_true hq) ho rfl q
  · exact (q2 hq).of1 fun t q => Jvm.RoadKit.acmp (g := mkF m pc L (y :: x :: S)) X hx rfl h1 h2 (pc0 := pc) (same := false) rfl (hb hby hd) rfl (decide_eq_false hq) ho rfl q
theorem Gl.acmpne (Y : Sd Z own bs mx ret n0 p l e R s m args below meth c T h k n) {x y : Value} {o : Int} (h1 : x.isRef = true) (h2 : y.isRef = true) (hd : decode bs pc = .ok (.if_acmp .ne o, 3)) (ho : 0 ≤ (pc : Int) + o) (ht : ((pc : Int) + o).toNat = pcT) (hf : pc + 3 = pcF) (q1 : ¬ x = y → Gl p e below P (T.setTop (mkF m pcT L S))) (q2 : x = y → Gl p e below P (T.setTop (mkF m pcF L S))) : Gl p e below P (T.setTop (mkF m pc L (y :: x :: S))) := by
  obtain ⟨locs, X, eT, N, hn0, hx, hZ, hown, hby, hml, hrt, hlk⟩ := Y
  subst ht hf
  by_cases hq : x = y
  · exact (q2 hq).of1 fun t q => Jvm.RoadKit.acmp (g := mkF m pc L (y :: x :: S)) X hx rfl h1 h2 (pc0 := pc) (same := true) rfl (hb hby hd) rfl (decide_eq_true hq) ho rfl q
  · exact (q1 hq).of1 fun t q => Jvm.RoadKit.acmp (g := mkF m pc L (y :: x :: S)) X hx rfl h1 h2 (pc0 := pc) (same := false) rfl (hb hby hd) rfl (decide_eq_false hq) ho rfl q
theorem Gl.getF (Y : Sd Z own bs mx ret n0 p l e R s m args below meth c T h k n) {i : Nat} {R0 O f d host : String} {a : Addr} {v : Value} (w : (Jvm.Cond.fieldLink own i R0 f d).before a0 Z = true ∨ (Jvm.Cond.fieldLinkNest own i R0 f d host).before a0 Z = true) (via : Via Z R0 O f d) (F : Fld Z h a O f d v) (hd : decode bs pc = .ok (.getfield i, 3)) (hp : pc + 3 = pc') (q : ∀ T', Sd Z own bs mx ret n0 p l e R s m args below meth c T' h k n → Gl p e below P (T'.setTop (mkF m pc' L (v :: S)))) : Gl p e below P (T.setTop (mkF m pc L (.ref a :: S))) := by
  obtain ⟨locs, X, eT, N, hn0, hx, hZ, hown, hby, hml, hrt, hlk⟩ := Y
  subst hp
  obtain ⟨T', X', e', st⟩ := Jvm.RoadKit.getF X hx hZ hown w via eT F (g := mkF m pc L (.ref a :: S)) rfl rfl (hb hby hd)
  exact (q T' ⟨locs, X', e', N, hn0, hx, hZ, hown, hby, hml, hrt, hlk⟩).of1 st
theorem Gl.getS (Y : Sd Z own bs mx ret n0 p l e R s m args below meth c T h k n) {i : Nat} {R0 O f d host : String} {v : Value} (w : (Jvm.Cond.fieldLink own i R0 f d).before a0 Z = true ∨ (Jvm.Cond.fieldLinkNest own i R0 f d host).before a0 Z = true) (via : Via Z R0 O f d) (F : Sta Z h O f d v) (hd : decode bs pc = .ok (.getstatic i, 3)) (hp : pc + 3 = pc') (q : ∀ T', Sd Z own bs mx ret n0 p l e R s m args below meth c T' h k n → Gl p e below P (T'.setTop (mkF m pc' L (v :: S)))) : Gl p e below P (T.setTop (mkF m pc L S)) := by
  obtain ⟨locs, X, eT, N, hn0, hx, hZ, hown, hby, hml, hrt, hlk⟩ := Y
  subst hp
  obtain ⟨T', X', e', st⟩ := getS2 X hx hZ hown w via eT F (g := mkF m pc L S) rfl (hb hby hd)
  exact (q T' ⟨locs, X', e', N, hn0, hx, hZ, hown, hby, hml, hrt, hlk⟩).of1 st
theorem Gl.putF (Y : Sd Z own bs mx ret n0 p l e R s m args below meth c T h k n) {i kk : Nat} {R0 O f d host C : String} {ty : FieldType} {a : Addr} {v old : Value} (w : (Jvm.Cond.fieldLink own i R0 f d).before a0 Z = true ∨ (Jvm.Cond.fieldLinkNest own i R0 f d host).before a0 Z = true) (via : Via Z R0 O f d) (F : Fld Z h a O f d old) (E : Exa Z h a C) (Lw : (Jvm.Cond.lays C O f d).before a0 Z = true ∨ ((Jvm.Cond.laysFinal C O f d).before a0 Z = true ∧ own = O ∧ meth.name = "<init>")) (wi : (Jvm.Cond.instantiable C kk).before a0 Z = true) (ha : n0 ≤ a) (hty : parseFieldDescriptor d = some ty) (hn : narrow ty v = v) (hf : fits ty v = true) (hd : decode bs pc = .ok (.putfield i, 3)) (hp : pc + 3 = pc') (q : ∀ T' h', Sd Z own bs mx ret n0 p l e R s m args below meth c T' h' k n → Wr h h' a (Jvm.RoadKit.slotOf Z O f d) v → Gl p e below P (T'.setTop (mkF m pc' L S))) : Gl p e below P (T.setTop (mkF m pc L (v :: .ref a :: S))) := by
  obtain ⟨locs, X, eT, N, hn0, hx, hZ, hown, hby, hml, hrt, hlk⟩ := Y
  subst hp
  obtain ⟨T', h', X', e', W, st⟩ := Jvm.RoadKit.putF X hx hZ hown w via eT F E Lw wi hty hn hf (g := mkF m pc L (v :: .ref a :: S)) rfl rfl (hb hby hd)
  exact (q T' h' ⟨_, X', e', Fr.snoc X' N ha, hn0, hx, hZ, hown, hby, hml, hrt, hlk⟩ W).of1 st
theorem Gl.putFN (Y : Sd Z own bs mx ret n0 p l e R s m args below meth c T h k n) {i kk : Nat} {R0 O f d C : String} {ty : FieldType} {a : Addr} {v v' old : Value} (w : (Jvm.Cond.fieldLink own i R0 f d).before a0 Z = true) (via : Via Z R0 O f d) (F : Fld Z h a O f d old) (E : Exa Z h a C) (Lw : (Jvm.Cond.lays C O f d).before a0 Z = true ∨ ((Jvm.Cond.laysFinal C O f d).before a0 Z = true ∧ own = O ∧ meth.name = "<init>")) (wi : (Jvm.Cond.instantiable C kk).before a0 Z = true) (ha : n0 ≤ a) (hty : parseFieldDescriptor d = some ty) (hn : narrow ty v = v') (hf : fits ty v' = true) (hd : decode bs pc = .ok (.putfield i, 3)) (hp : pc + 3 = pc') (q : ∀ T' h', Sd Z own bs mx ret n0 p l e R s m args below meth c T' h' k n → Wr h h' a (Jvm.RoadKit.slotOf Z O f d) v' → Gl p e below P (T'.setTop (mkF m pc' L S))) : Gl p e below P (T.setTop (mkF m pc L (v :: .ref a :: S))) := by
  obtain ⟨locs, X, eT, N, hn0, hx, hZ, hown, hby, hml, hrt, hlk⟩ := Y
  subst hp
  obtain ⟨T', h', X', e', W, st⟩ := Jvm.RoadKit.putFN X hx hZ hown w via eT F E Lw wi hty hn hf (g := mkF m pc L (v :: .ref a :: S)) rfl rfl (hb hby hd)
  exact (q T' h' ⟨_, X', e', Fr.snoc X' N ha, hn0, hx, hZ, hown, hby, hml, hrt, hlk⟩ W).of1 st
theorem Gl.newO (Y : Sd Z own bs mx ret n0 p l e R s m args below meth c T h k n) {i sl : Nat} {C : String} (w : (Jvm.Cond.classLink own i C).before a0 Z = true) (wi : (Jvm.Cond.instantiable C sl).before a0 Z = true) (wz : (Jvm.Cond.initialized C).before a0 Z = true) (hc : k + 1 ≤ R.cells) (hl : n + sl ≤ R.slots) (hd : decode bs pc = .ok (.new i, 3)) (hp : pc + 3 = pc') (q : ∀ T' h' b, Sd Z own bs mx ret n0 p l e R s m args below meth c T' h' (k + 1) (n + sl) → Ext h h' → b = h.size → n0 ≤ b → Exa Z h' b C → (∀ {O nm d : String} {ty : FieldType}, Laid Z a0 C O nm d → parseFieldDescriptor d = some ty → Fld Z h' b O nm d (defaultValue ty)) → Gl p e below P (T'.setTop (mkF m pc' L (.ref b :: S)))) : Gl p e below P (T.setTop (mkF m pc L S)) := by
  obtain ⟨locs, X, eT, N, hn0, hx, hZ, hown, hby, hml, hrt, hlk⟩ := Y
  subst hp
  obtain ⟨T', h', X', e', E, A, D, -, st⟩ := Jvm.RoadKit.newO X hx hZ hown w wi wz eT (g := mkF m pc L S) rfl (hb hby hd) hc hl
  exact (q T' h' h.size ⟨locs, X', e', N, hn0, hx, hZ, hown, hby, hml, hrt, hlk⟩ E rfl (eT ▸ Nat.le_trans hn0 (own_grow X)) A D).of1 st
theorem Gl.newP (Y : Sd Z own bs mx ret n0 p l e R s m args below meth c T h k n) {aty : ArrayType} {ty : FieldType} {z : Int32} (cap : Nat) (hat : newarray.typeOf aty = ty) (w : (Jvm.Cond.arrayClass ty).before a0 Z = true) (hz : ¬ z < 0) (hcap : z.toNatClampNeg ≤ cap) (hcb : cap * 8 ≤ 536870912) (hc : k + 1 ≤ R.cells) (hl : n + cap ≤ R.slots) (hd : decode bs pc = .ok (.newarray aty, 2)) (hp : pc + 2 = pc') (q : ∀ T' h' b ck, Sd Z own bs mx ret n0 p l e R s m args below meth c T' h' (k + 1) (n + cap) → Ext h h' → b = h.size → n0 ≤ b → Arv Z h' b ck ty z [] (defaultValue ty) → Gl p e below P (T'.setTop (mkF m pc' L (.ref b :: S)))) : Gl p e below P (T.setTop (mkF m pc L (.int z :: S))) := by
  obtain ⟨locs, X, eT, N, hn0, hx, hZ, hown, hby, hml, hrt, hlk⟩ := Y
  subst hp hat
  obtain ⟨T', h', ck, X', e', E, A, st⟩ := Jvm.RoadKit.newP X hx hZ w eT (g := mkF m pc L (.int z :: S)) rfl (hb hby hd) rfl hz hcap hcb hc hl
  exact (q T' h' h.size ck ⟨locs, X', e', N, hn0, hx, hZ, hown, hby, hml, hrt, hlk⟩ E rfl (eT ▸ Nat.le_trans hn0 (own_grow X)) (Arv.new A hz)).of1 st
theorem Gl.iastore (Y : Sd Z own bs mx ret n0 p l e R s m args below meth c T h k n) {a : Addr} {ck : ClassId} {z j : Int32} {x : Int32} {vs : List Value} {d v : Value} {ix : Nat} (F : Arv Z h a ck .int z vs d) (hv : .int x = v) (hj : ¬ j < 0 ∧ j < z) (hjx : j.toNatClampNeg = ix) (hlen : ix < vs.length) (ha : n0 ≤ a) (hd : decode bs pc = .ok (.iastore, 1)) (hp : pc + 1 = pc') (q : ∀ T' h', Sd Z own bs mx ret n0 p l e R s m args below meth c T' h' k n → Wr h h' a ix v → Arv Z h' a ck .int z (vs.set ix v) d → Gl p e below P (T'.setTop (mkF m pc' L S))) : Gl p e below P (T.setTop (mkF m pc L (.int x :: .int j :: .ref a :: S))) := by
  obtain ⟨locs, X, eT, N, hn0, hx, hZ, hown, hby, hml, hrt, hlk⟩ := Y
  subst hp hv hjx
  obtain ⟨cl, A, C1, S1, N1, H, Gf⟩ := F
  obtain ⟨T', h', X', e', W, st⟩ := stI X hx hZ eT A (inb_of S1 hj) (g := mkF m pc L (.int x :: .int j :: .ref a :: S)) rfl rfl (hb hby hd)
  exact (q T' h' ⟨_, X', e', Fr.snoc X' N ha, hn0, hx, hZ, hown, hby, hml, hrt, hlk⟩ W (Arv.set A C1 S1 N1 H Gf rfl W _ rfl hlen)).of1 st
theorem Gl.lastore (Y : Sd Z own bs mx ret n0 p l e R s m args below meth c T h k n) {a : Addr} {ck : ClassId} {z j : Int32} {x : Int64} {vs : List Value} {d v : Value} {ix : Nat} (F : Arv Z h a ck .long z vs d) (hv : .long x = v) (hj : ¬ j < 0 ∧ j < z) (hjx : j.toNatClampNeg = ix) (hlen : ix < vs.length) (ha : n0 ≤ a) (hd : decode bs pc = .ok (.lastore, 1)) (hp : pc + 1 = pc') (q : ∀ T' h', Sd Z own bs mx ret n0 p l e R s m args below meth c T' h' k n → Wr h h' a ix v → Arv Z h' a ck .long z (vs.set ix v) d → Gl p e below P (T'.setTop (mkF m pc' L S))) : Gl p e below P (T.setTop (mkF m pc L (.long x :: .int j :: .ref a :: S))) := by
  obtain ⟨locs, X, eT, N, hn0, hx, hZ, hown, hby, hml, hrt, hlk⟩ := Y
  subst hp hv hjx
  obtain ⟨cl, A, C1, S1, N1, H, Gf⟩ := F
  obtain ⟨T', h', X', e', W, st⟩ := stJ X hx hZ eT A (inb_of S1 hj) (g := mkF m pc L (.long x :: .int j :: .ref a :: S)) rfl rfl (hb hby hd)
  exact (q T' h' ⟨_, X', e', Fr.snoc X' N ha, hn0, hx, hZ, hown, hby, hml, hrt, hlk⟩ W (Arv.set A C1 S1 N1 H Gf rfl W _ rfl hlen)).of1 st
theorem Gl.castore (Y : Sd Z own bs mx ret n0 p l e R s m args below meth c T h k n) {a : Addr} {ck : ClassId} {z j : Int32} {x : Int32} {vs : List Value} {d v : Value} {ix : Nat} (F : Arv Z h a ck .char z vs d) (hv : .int (nar .char x) = v) (hj : ¬ j < 0 ∧ j < z) (hjx : j.toNatClampNeg = ix) (hlen : ix < vs.length) (ha : n0 ≤ a) (hd : decode bs pc = .ok (.castore, 1)) (hp : pc + 1 = pc') (q : ∀ T' h', Sd Z own bs mx ret n0 p l e R s m args below meth c T' h' k n → Wr h h' a ix v → Arv Z h' a ck .char z (vs.set ix v) d → Gl p e below P (T'.setTop (mkF m pc' L S))) : Gl p e below P (T.setTop (mkF m pc L (.int x :: .int j :: .ref a :: S))) := by
  obtain ⟨locs, X, eT, N, hn0, hx, hZ, hown, hby, hml, hrt, hlk⟩ := Y
  subst hp hv hjx
  obtain ⟨cl, A, C1, S1, N1, H, Gf⟩ := F
  obtain ⟨T', h', X', e', W, st⟩ := stC X hx hZ eT A (inb_of S1 hj) (g := mkF m pc L (.int x :: .int j :: .ref a :: S)) rfl rfl (hb hby hd)
  exact (q T' h' ⟨_, X', e', Fr.snoc X' N ha, hn0, hx, hZ, hown, hby, hml, hrt, hlk⟩ W (Arv.set A C1 S1 N1 H Gf (fits_nar_char _) W _ rfl hlen)).of1 st
theorem Gl.sastore (Y : Sd Z own bs mx ret n0 p l e R s m args below meth c T h k n) {a : Addr} {ck : ClassId} {z j : Int32} {x : Int32} {vs : List Value} {d v : Value} {ix : Nat} (F : Arv Z h a ck .short z vs d) (hv : .int (nar .short x) = v) (hj : ¬ j < 0 ∧ j < z) (hjx : j.toNatClampNeg = ix) (hlen : ix < vs.length) (ha : n0 ≤ a) (hd : decode bs pc = .ok (.sastore, 1)) (hp : pc + 1 = pc') (q : ∀ T' h', Sd Z own bs mx ret n0 p l e R s m args below meth c T' h' k n → Wr h h' a ix v → Arv Z h' a ck .short z (vs.set ix v) d → Gl p e below P (T'.setTop (mkF m pc' L S))) : Gl p e below P (T.setTop (mkF m pc L (.int x :: .int j :: .ref a :: S))) := by
  obtain ⟨locs, X, eT, N, hn0, hx, hZ, hown, hby, hml, hrt, hlk⟩ := Y
  subst hp hv hjx
  obtain ⟨cl, A, C1, S1, N1, H, Gf⟩ := F
  obtain ⟨T', h', X', e', W, st⟩ := stS X hx hZ eT A (inb_of S1 hj) (g := mkF m pc L (.int x :: .int j :: .ref a :: S)) rfl rfl (hb hby hd)
  exact (q T' h' ⟨_, X', e', Fr.snoc X' N ha, hn0, hx, hZ, hown, hby, hml, hrt, hlk⟩ W (Arv.set A C1 S1 N1 H Gf (fits_nar_short _) W _ rfl hlen)).of1 st
theorem Gl.bastore (Y : Sd Z own bs mx ret n0 p l e R s m args below meth c T h k n) {a : Addr} {ck : ClassId} {z j : Int32} {x : Int32} {vs : List Value} {d v : Value} {ix : Nat} (F : Arv Z h a ck .byte z vs d) (hv : .int (nar .byte x) = v) (hj : ¬ j < 0 ∧ j < z) (hjx : j.toNatClampNeg = ix) (hlen : ix < vs.length) (ha : n0 ≤ a) (hd : decode bs pc = .ok (.bastore, 1)) (hp : pc + 1 = pc') (q : ∀ T' h', Sd Z own bs mx ret n0 p l e R s m args below meth c T' h' k n → Wr h h' a ix v → Arv Z h' a ck .byte z (vs.set ix v) d → Gl p e below P (T'.setTop (mkF m pc' L S))) : Gl p e below P (T.setTop (mkF m pc L (.int x :: .int j :: .ref a :: S))) := by
  obtain ⟨locs, X, eT, N, hn0, hx, hZ, hown, hby, hml, hrt, hlk⟩ := Y
  subst hp hv hjx
  obtain ⟨cl, A, C1, S1, N1, H, Gf⟩ := F
  obtain ⟨T', h', X', e', W, st⟩ := stB X hx hZ eT A (inb_of S1 hj) (g := mkF m pc L (.int x :: .int j :: .ref a :: S)) rfl rfl (hb hby hd)
  exact (q T' h' ⟨_, X', e', Fr.snoc X' N ha, hn0, hx, hZ, hown, hby, hml, hrt, hlk⟩ W (Arv.set A C1 S1 N1 H Gf (fits_nar_byte _) W _ rfl hlen)).of1 st
theorem Gl.initO (Y : Sd Z own bs mx ret n0 p l e R s m args below meth c T h k n) {i : Nat} {a : Addr} (w1 : (Jvm.Cond.methodLink own i Lib.objectInit).before a0 Z = true) (w2 : (Jvm.Cond.instanceMethod Lib.objectInit).before a0 Z = true) (w3 : (Jvm.Cond.code Lib.objectInit ⟨#[0xb1]⟩ 1 none).before a0 Z = true) (hL : L.size = mx) (hf : 1 ≤ R.frames) (hl : (S.map fun v => v.category).sum + 12 ≤ R.locals) (hd : decode bs pc = .ok (.invokespecial i, 3)) (hp : pc + 3 = pc') (q : ∀ T', Sd Z own bs mx ret n0 p l e R s m args below meth c T' h k n → Gl p e below P (T'.setTop (mkF m pc' L S))) : Gl p e below P (T.setTop (mkF m pc L (.ref a :: S))) := by
  obtain ⟨locs, X, eT, N, hn0, hx, hZ, hown, hby, hml, hrt, hlk⟩ := Y
  subst hp
  obtain ⟨T', X', e', st⟩ := Jvm.RoadKit.initO X hx hZ hown w1 w2 w3 eT (g := mkF m pc L (.ref a :: S)) rfl (by rw [hml]; exact hL) rfl (hb hby hd) hf (W := (S.map fun v => v.category).sum) (by show 2 * 0 + _ ≤ _; omega) hl
  exact (q T' ⟨locs, X', e', N, hn0, hx, hZ, hown, hby, hml, hrt, hlk⟩).of1 st
theorem Gl.castY (Y : Sd Z own bs mx ret n0 p l e R s m args below meth c T h k n) {i : Nat} {K : String} {a : Addr} (w : (Jvm.Cond.classLink own i K).before a0 Z = true) (F : Ins Z h a K true) (hd : decode bs pc = .ok (.checkcast i, 3)) (hp : pc + 3 = pc') (q : ∀ T', Sd Z own bs mx ret n0 p l e R s m args below meth c T' h k n → Gl p e below P (T'.setTop (mkF m pc' L (.ref a :: S)))) : Gl p e below P (T.setTop (mkF m pc L (.ref a :: S))) := by
  obtain ⟨locs, X, eT, N, hn0, hx, hZ, hown, hby, hml, hrt, hlk⟩ := Y
  subst hp
  obtain ⟨T', X', e', st⟩ := Jvm.RoadKit.castY X hx hZ hown w eT F (g := mkF m pc L (.ref a :: S)) rfl rfl (hb hby hd)
  exact (q T' ⟨locs, X', e', N, hn0, hx, hZ, hown, hby, hml, hrt, hlk⟩).of1 st
theorem Gl.instY (Y : Sd Z own bs mx ret n0 p l e R s m args below meth c T h k n) {i : Nat} {K : String} {a : Addr} (w : (Jvm.Cond.classLink own i K).before a0 Z = true) (F : Ins Z h a K true) (hd : decode bs pc = .ok (.instanceof i, 3)) (hp : pc + 3 = pc') (q : ∀ T', Sd Z own bs mx ret n0 p l e R s m args below meth c T' h k n → Gl p e below P (T'.setTop (mkF m pc' L (.int 1 :: S)))) : Gl p e below P (T.setTop (mkF m pc L (.ref a :: S))) := by
  obtain ⟨locs, X, eT, N, hn0, hx, hZ, hown, hby, hml, hrt, hlk⟩ := Y
  subst hp
  obtain ⟨T', X', e', st⟩ := Jvm.RoadKit.instY X hx hZ hown w eT F (g := mkF m pc L (.ref a :: S)) rfl rfl (hb hby hd)
  exact (q T' ⟨locs, X', e', N, hn0, hx, hZ, hown, hby, hml, hrt, hlk⟩).of1 st
theorem Gl.instNo (Y : Sd Z own bs mx ret n0 p l e R s m args below meth c T h k n) {i : Nat} {K C : String} {a : Addr} (w : (Jvm.Cond.classLink own i K).before a0 Z = true) (E : Exa Z h a C) (F : ∃ c t, Z.vm.findClass C = some c ∧ Z.vm.findClass K = some t ∧ Z.vm.assignable c t = false) (hd : decode bs pc = .ok (.instanceof i, 3)) (hp : pc + 3 = pc') (q : ∀ T', Sd Z own bs mx ret n0 p l e R s m args below meth c T' h k n → Gl p e below P (T'.setTop (mkF m pc' L (.int 0 :: S)))) : Gl p e below P (T.setTop (mkF m pc L (.ref a :: S))) := by
  obtain ⟨locs, X, eT, N, hn0, hx, hZ, hown, hby, hml, hrt, hlk⟩ := Y
  subst hp
  obtain ⟨T', X', e', st⟩ := Jvm.RoadKit.instNo X hx hZ hown w eT E F (g := mkF m pc L (.ref a :: S)) rfl rfl (hb hby hd)
  exact (q T' ⟨locs, X', e', N, hn0, hx, hZ, hown, hby, hml, hrt, hlk⟩).of1 st
theorem Gl.castNull (Y : Sd Z own bs mx ret n0 p l e R s m args below meth c T h k n) {i : Nat} (hd : decode bs pc = .ok (.checkcast i, 3)) (hp : pc + 3 = pc') (q : Gl p e below P (T.setTop (mkF m pc' L (.null :: S)))) : Gl p e below P (T.setTop (mkF m pc L (.null :: S))) := by
  obtain ⟨locs, X, eT, N, hn0, hx, hZ, hown, hby, hml, hrt, hlk⟩ := Y
  subst hp
  exact q.of1 fun t q => X.checkcastNull hx (g := mkF m pc L (.null :: S)) rfl rfl (hb hby hd) t q
theorem Gl.instNull (Y : Sd Z own bs mx ret n0 p l e R s m args below meth c T h k n) {i : Nat} (hd : decode bs pc = .ok (.instanceof i, 3)) (hp : pc + 3 = pc') (q : Gl p e below P (T.setTop (mkF m pc' L (.int 0 :: S)))) : Gl p e below P (T.setTop (mkF m pc L (.null :: S))) := by
  obtain ⟨locs, X, eT, N, hn0, hx, hZ, hown, hby, hml, hrt, hlk⟩ := Y
  subst hp
  exact q.of1 fun t q => X.instanceofNull hx (g := mkF m pc L (.null :: S)) rfl rfl (hb hby hd) t q
theorem Gl.newR (Y : Sd Z own bs mx ret n0 p l e R s m args below meth c T h k n) {i : Nat} {C : String} {z : Int32} (cap : Nat) (w1 : (Jvm.Cond.classLink own i C).before a0 Z = true) (w2 : (Jvm.Cond.arrayOver (.object C)).before a0 Z = true) (hz : ¬ z < 0) (hcap : z.toNatClampNeg ≤ cap) (hcb : cap * 8 ≤ 536870912) (hc : k + 1 ≤ R.cells) (hl : n + cap ≤ R.slots) (hd : decode bs pc = .ok (.anewarray i, 3)) (hp : pc + 3 = pc') (q : ∀ T' h' b ck, Sd Z own bs mx ret n0 p l e R s m args below meth c T' h' (k + 1) (n + cap) → Ext h h' → b = h.size → n0 ≤ b → Arv Z h' b ck (.object C) z [] .null → Gl p e below P (T'.setTop (mkF m pc' L (.ref b :: S)))) : Gl p e below P (T.setTop (mkF m pc L (.int z :: S))) := by
  obtain ⟨locs, X, eT, N, hn0, hx, hZ, hown, hby, hml, hrt, hlk⟩ := Y
  subst hp
  obtain ⟨T', h', ck, X', e', E, A, -, st⟩ := Jvm.RoadKit.newR X hx hZ hown w1 w2 eT (g := mkF m pc L (.int z :: S)) rfl (hb hby hd) rfl hz hcap hcb hc hl
  exact (q T' h' h.size ck ⟨locs, X', e', N, hn0, hx, hZ, hown, hby, hml, hrt, hlk⟩ E rfl (eT ▸ Nat.le_trans hn0 (own_grow X)) (Arv.new A hz)).of1 st
theorem Gl.callS (Y : Sd Z own bs mx ret n0 p l e R s m args below meth c T h k n) {y : MethodName} {bs2 : ByteArray} {mx2 : Nat} {ret2 : Option FieldType} {rm : Room} {as : Array Value} {Q : Option Value → Heap → Prop} {i : Nat} {argsL rest : List Value} (w1 : (Jvm.Cond.methodLink own i y).before a0 Z = true) (w2 : (Jvm.Cond.static y).before a0 Z = true) (w3 : (Jvm.Cond.initialized y.cls).before a0 Z = true) (w4 : (Jvm.Cond.code y bs2 mx2 ret2).before a0 Z = true) (hy : y.cls ≠ "java/lang/invoke/MethodHandle" ∧ y.cls ≠ "java/lang/invoke/VarHandle") (hM : OMet l Z [] y bs2 mx2 ret2 rm as h n0 Q) (has : argsL.toArray = as) (hS : S = argsL.reverse ++ rest) (hlen : ∀ sig, parseMethodDescriptor y.desc = some sig → argsL.length = sig.parameters.length) (hL : L.size = mx) (hf : rm.frames + 1 ≤ R.frames) (hl : (rest.map fun v => v.category).sum + (mx2 + 11) + rm.locals ≤ R.locals) (hc : k + rm.cells ≤ R.cells) (hs : n + rm.slots ≤ R.slots) (hd : decode bs pc = .ok (.invokestatic i, 3)) (hp : pc + 3 = pc') (q : ∀ v T' h', Sd Z own bs mx ret n0 p l e R s m args below meth c T' h' (k + rm.cells) (n + rm.slots) → Q v h' → Gl p e below P (T'.setTop (mkF m pc' L (v.toList ++ rest)))) : Gl p e below P (T.setTop (mkF m pc L S)) := by
  obtain ⟨locs, X, eT, N, hn0, hx, hZ, hown, hby, hml, hrt, hlk⟩ := Y
  subst hp has hS
  obtain ⟨v, vm₁, ⟨T', L', k', n'⟩, -, X', hB, st⟩ := Jvm.LawKit.callS X hx (y := y) hown (mvT hZ w1) (mvT hZ w2) (mvT hZ w3) (mvT hZ w4) hy (backOf (Q := fun v h' L => Q v h' ∧ Fr n0 L) (W := (rest.map fun v => v.category).sum) (OMet.un hM) hZ w4 w3 hf hl) (g := mkF m pc L (argsL.reverse ++ rest)) rfl (by rw [hml]; exact hL) (argsL := argsL) (rest := rest) hlen rfl (by show 2 * 0 + _ ≤ _; omega) (hb hby hd) (fun _ _ => ⟨rfl, eT, hc, hs⟩)
  obtain ⟨Lc, ⟨hQ, NL⟩, l1, l2, l3⟩ := hB
  dsimp only [Pt.U, Pt.locs, Pt.cells, Pt.slots] at X' l1 l2 l3 st hQ
  subst l1 l2 l3
  exact (q v T' T'.heap ⟨_, X', rfl, Fr.app N NL, hn0, hx, hZ, hown, hby, hml, hrt, hlk⟩ hQ).of1 st
theorem Gl.callN (Y : Sd Z own bs mx ret n0 p l e R s m args below meth c T h k n) {y : MethodName} {bs2 : ByteArray} {mx2 : Nat} {rm : Room} {as : Array Value} {Q : Option Value → Heap → Prop} {i : Nat} {argsL rest : List Value} {a : Addr} (hy1 : y.name = "<init>") (w1 : (Jvm.Cond.methodLink own i y).before a0 Z = true) (w2 : (Jvm.Cond.instanceMethod y).before a0 Z = true) (w3 : (Jvm.Cond.initialized y.cls).before a0 Z = true) (w4 : (Jvm.Cond.code y bs2 mx2 none).before a0 Z = true) (hy : y.cls ≠ "java/lang/invoke/MethodHandle" ∧ y.cls ≠ "java/lang/invoke/VarHandle") (hM : OMet l Z [] y bs2 mx2 none rm as h n0 Q) (has : (.ref a :: argsL).toArray = as) (hS : S = argsL.reverse ++ .ref a :: rest) (hlen : ∀ sig, parseMethodDescriptor y.desc = some sig → argsL.length = sig.parameters.length) (hL : L.size = mx) (hf : rm.frames + 1 ≤ R.frames) (hl : (rest.map fun v => v.category).sum + (mx2 + 11) + rm.locals ≤ R.locals) (hc : k + rm.cells ≤ R.cells) (hs : n + rm.slots ≤ R.slots) (hd : decode bs pc = .ok (.invokespecial i, 3)) (hp : pc + 3 = pc') (q : ∀ v T' h', Sd Z own bs mx ret n0 p l e R s m args below meth c T' h' (k + rm.cells) (n + rm.slots) → Q v h' → Gl p e below P (T'.setTop (mkF m pc' L (v.toList ++ rest)))) : Gl p e below P (T.setTop (mkF m pc L S)) := by
  obtain ⟨locs, X, eT, N, hn0, hx, hZ, hown, hby, hml, hrt, hlk⟩ := Y
  subst hp has hS
  obtain ⟨v, vm₁, ⟨T', L', k', n'⟩, -, X', hB, st⟩ := X.specialBack hx (y := y) hy1 hown (mvT hZ w1) (mvT hZ w2) (mvT hZ w4) hy (backOf (Q := fun v h' L => Q v h' ∧ Fr n0 L) (W := (rest.map fun v => v.category).sum) (OMet.un hM) hZ w4 w3 hf hl) (g := mkF m pc L (argsL.reverse ++ .ref a :: rest)) rfl (by rw [hml]; exact hL) (Steps.refl _) (a := a) (argsL := argsL) (rest := rest) hlen rfl (by show 2 * 0 + _ ≤ _; omega) (hb hby hd) (fun _ _ => ⟨rfl, eT, hc, hs⟩)
  obtain ⟨Lc, ⟨hQ, NL⟩, l1, l2, l3⟩ := hB
  dsimp only [Pt.U, Pt.locs, Pt.cells, Pt.slots] at X' l1 l2 l3 st hQ
  subst l1 l2 l3
  exact Gl.via st (q v T' T'.heap ⟨_, X', rfl, Fr.app N NL, hn0, hx, hZ, hown, hby, hml, hrt, hlk⟩ hQ)
theorem Gl.callV (Y : Sd Z own bs mx ret n0 p l e R s m args below meth c T h k n) {y : MethodName} {bs2 : ByteArray} {mx2 : Nat} {ret2 : Option FieldType} {rm : Room} {as : Array Value} {Q : Option Value → Heap → Prop} {i : Nat} {z : MethodName} {C : String} {argsL rest : List Value} {a : Addr} (w1 : (Jvm.Cond.methodLink own i z).before a0 Z = true) (wd : (Jvm.Cond.declares z).before a0 Z = true) (ws0 : (Jvm.Cond.selects z.cls z z).before a0 Z = true) (ws : (Jvm.Cond.selects C z y).before a0 Z = true) (w2 : (Jvm.Cond.instanceMethod y).before a0 Z = true) (w3 : (Jvm.Cond.initialized y.cls).before a0 Z = true) (w4 : (Jvm.Cond.code y bs2 mx2 ret2).before a0 Z = true) (hy : z.cls ≠ "java/lang/invoke/MethodHandle" ∧ z.cls ≠ "java/lang/invoke/VarHandle") (E : Exa Z h a C) (hM : OMet l Z [] y bs2 mx2 ret2 rm as h n0 Q) (has : (.ref a :: argsL).toArray = as) (hS : S = argsL.reverse ++ .ref a :: rest) (hlen : ∀ sig, parseMethodDescriptor z.desc = some sig → argsL.length = sig.parameters.length) (hL : L.size = mx) (hf : rm.frames + 1 ≤ R.frames) (hl : (rest.map fun v => v.category).sum + (mx2 + 11) + rm.locals ≤ R.locals) (hc : k + rm.cells ≤ R.cells) (hs : n + rm.slots ≤ R.slots) (hd : decode bs pc = .ok (.invokevirtual i, 3)) (hp : pc + 3 = pc') (q : ∀ v T' h', Sd Z own bs mx ret n0 p l e R s m args below meth c T' h' (k + rm.cells) (n + rm.slots) → Q v h' → Gl p e below P (T'.setTop (mkF m pc' L (v.toList ++ rest)))) : Gl p e below P (T.setTop (mkF m pc L S)) := by
  obtain ⟨locs, X, eT, N, hn0, hx, hZ, hown, hby, hml, hrt, hlk⟩ := Y
  subst hp has hS
  obtain ⟨cq, kq, qa, qb, qc⟩ := isOf hZ eT E
  obtain ⟨v, vm₁, ⟨T', L', k', n'⟩, -, X', hB, st⟩ := X.virtualBack hx (y := z) (z := y) hown (mvT hZ w1) (mvT hZ wd) (notFace_of_selects (args := #[]) (mvT hZ ws0)) (mvT hZ ws) (mvT hZ w2) hy (backOf (Q := fun v h' L => Q v h' ∧ Fr n0 L) (W := (rest.map fun v => v.category).sum) (OMet.un hM) hZ w4 w3 hf hl) qa qc (g := mkF m pc L (argsL.reverse ++ .ref a :: rest)) rfl (by rw [hml]; exact hL) (Steps.refl _) (argsL := argsL) (rest := rest) hlen rfl (by show 2 * 0 + _ ≤ _; omega) (hb hby hd) (fun _ _ => ⟨rfl, eT, hc, hs⟩)
  obtain ⟨Lc, ⟨hQ, NL⟩, l1, l2, l3⟩ := hB
  dsimp only [Pt.U, Pt.locs, Pt.cells, Pt.slots] at X' l1 l2 l3 st hQ
  subst l1 l2 l3
  exact Gl.via st (q v T' T'.heap ⟨_, X', rfl, Fr.app N NL, hn0, hx, hZ, hown, hby, hml, hrt, hlk⟩ hQ)
theorem Gl.callP (Y : Sd Z own bs mx ret n0 p l e R s m args below meth c T h k n) {y : MethodName} {bs2 : ByteArray} {mx2 : Nat} {ret2 : Option FieldType} {rm : Room} {as : Array Value} {Q : Option Value → Heap → Prop} {i : Nat} {C : String} {kk : Nat} {argsL rest : List Value} {a : Addr} (w1 : (Jvm.Cond.methodLink own i y).before a0 Z = true) (w2 : (Jvm.Cond.instanceMethod y).before a0 Z = true) (wp : (Jvm.Cond.privateMethod y).before a0 Z = true) (wi : (Jvm.Cond.instantiable y.cls kk).before a0 Z = true) (w3 : (Jvm.Cond.initialized y.cls).before a0 Z = true) (w4 : (Jvm.Cond.code y bs2 mx2 ret2).before a0 Z = true) (hy : y.cls ≠ "java/lang/invoke/MethodHandle" ∧ y.cls ≠ "java/lang/invoke/VarHandle") (E : Exa Z h a C) (hM : OMet l Z [] y bs2 mx2 ret2 rm as h n0 Q) (has : (.ref a :: argsL).toArray = as) (hS : S = argsL.reverse ++ .ref a :: rest) (hlen : ∀ sig, parseMethodDescriptor y.desc = some sig → argsL.length = sig.parameters.length) (hL : L.size = mx) (hf : rm.frames + 1 ≤ R.frames) (hl : (rest.map fun v => v.category).sum + (mx2 + 11) + rm.locals ≤ R.locals) (hc : k + rm.cells ≤ R.cells) (hs : n + rm.slots ≤ R.slots) (hd : decode bs pc = .ok (.invokevirtual i, 3)) (hp : pc + 3 = pc') (q : ∀ v T' h', Sd Z own bs mx ret n0 p l e R s m args below meth c T' h' (k + rm.cells) (n + rm.slots) → Q v h' → Gl p e below P (T'.setTop (mkF m pc' L (v.toList ++ rest)))) : Gl p e below P (T.setTop (mkF m pc L S)) := by
  obtain ⟨locs, X, eT, N, hn0, hx, hZ, hown, hby, hml, hrt, hlk⟩ := Y
  subst hp has hS
  obtain ⟨cq, qa, qb⟩ := E.cell
  have hpr := Cond.privateMethod_at (mvP hZ wp (args := #[]))
  obtain ⟨c1, k1, i1, i2, -, i4, -⟩ := Cond.instantiable_spec (mv (args := args) hZ wi)
  have i5 : k1.isInterface = false := by cases hi : k1.isInterface <;> simp [hi] at i4 ⊢
  have hsel := selects_self_of_private (args := args) i1 i2 i5 hpr (mvT hZ w2) hy
  obtain ⟨v, vm₁, ⟨T', L', k', n'⟩, -, X', hB, st⟩ := X.privateBack hx (y := y) hown (mvT hZ w1) (mvT hZ w2) hsel hpr (mvT hZ w4) hy (backOf (Q := fun v h' L => Q v h' ∧ Fr n0 L) (W := (rest.map fun v => v.category).sum) (OMet.un hM) hZ w4 w3 hf hl) (g := mkF m pc L (argsL.reverse ++ .ref a :: rest)) rfl (by rw [hml]; exact hL) (Steps.refl _) (a := a) (by rw [eT]; exact qa) qb (argsL := argsL) (rest := rest) hlen rfl (by show 2 * 0 + _ ≤ _; omega) (hb hby hd) (fun _ _ => ⟨rfl, eT, hc, hs⟩)
  obtain ⟨Lc, ⟨hQ, NL⟩, l1, l2, l3⟩ := hB
  dsimp only [Pt.U, Pt.locs, Pt.cells, Pt.slots] at X' l1 l2 l3 st hQ
  subst l1 l2 l3
  exact Gl.via st (q v T' T'.heap ⟨_, X', rfl, Fr.app N NL, hn0, hx, hZ, hown, hby, hml, hrt, hlk⟩ hQ)
theorem Gl.callNN (Y : Sd Z own bs mx ret n0 p l e R s m args below meth c T h k n) {y : MethodName} {bs2 : ByteArray} {mx2 : Nat} {rm : Room} {as : Array Value} {Q : Option Value → Heap → Prop} {i : Nat} {argsL rest : List Value} {host : String} {a : Addr} (hy1 : y.name = "<init>") (w1 : (Jvm.Cond.methodLinkNest own i y host).before a0 Z = true) (w2 : (Jvm.Cond.instanceMethod y).before a0 Z = true) (w3 : (Jvm.Cond.initialized y.cls).before a0 Z = true) (w4 : (Jvm.Cond.code y bs2 mx2 none).before a0 Z = true) (hy : y.cls ≠ "java/lang/invoke/MethodHandle" ∧ y.cls ≠ "java/lang/invoke/VarHandle") (hM : OMet l Z [] y bs2 mx2 none rm as h n0 Q) (has : (.ref a :: argsL).toArray = as) (hS : S = argsL.reverse ++ .ref a :: rest) (hlen : ∀ sig, parseMethodDescriptor y.desc = some sig → argsL.length = sig.parameters.length) (hL : L.size = mx) (hf : rm.frames + 1 ≤ R.frames) (hl : (rest.map fun v => v.category).sum + (mx2 + 11) + rm.locals ≤ R.locals) (hc : k + rm.cells ≤ R.cells) (hs : n + rm.slots ≤ R.slots) (hd : decode bs pc = .ok (.invokespecial i, 3)) (hp : pc + 3 = pc') (q : ∀ v T' h', Sd Z own bs mx ret n0 p l e R s m args below meth c T' h' (k + rm.cells) (n + rm.slots) → Q v h' → Gl p e below P (T'.setTop (mkF m pc' L (v.toList ++ rest)))) : Gl p e below P (T.setTop (mkF m pc L S)) := by
  obtain ⟨locs, X, eT, N, hn0, hx, hZ, hown, hby, hml, hrt, hlk⟩ := Y
  subst hp has hS
  obtain ⟨v, vm₁, ⟨T', L', k', n'⟩, -, X', hB, st⟩ := X.specialBackNest hx (y := y) hy1 hown (Cond.methodLinkNest_wide hZ w1 :) (mvT hZ w2) (mvT hZ w4) hy (backOf (Q := fun v h' L => Q v h' ∧ Fr n0 L) (W := (rest.map fun v => v.category).sum) (OMet.un hM) hZ w4 w3 hf hl) (g := mkF m pc L (argsL.reverse ++ .ref a :: rest)) rfl (by rw [hml]; exact hL) (Steps.refl _) (a := a) (argsL := argsL) (rest := rest) hlen rfl (by show 2 * 0 + _ ≤ _; omega) (hb hby hd) (fun _ _ => ⟨rfl, eT, hc, hs⟩)
  obtain ⟨Lc, ⟨hQ, NL⟩, l1, l2, l3⟩ := hB
  dsimp only [Pt.U, Pt.locs, Pt.cells, Pt.slots] at X' l1 l2 l3 st hQ
  subst l1 l2 l3
  exact Gl.via st (q v T' T'.heap ⟨_, X', rfl, Fr.app N NL, hn0, hx, hZ, hown, hby, hml, hrt, hlk⟩ hQ)
theorem Gl.callVU (Y : Sd Z own bs mx ret n0 p l e R s m args below meth c T h k n) {y : MethodName} {bs2 : ByteArray} {mx2 : Nat} {ret2 : Option FieldType} {rm : Room} {as : Array Value} {Q : Option Value → Heap → Prop} {i : Nat} {owner : String} {z : MethodName} {C : String} {argsL rest : List Value} {a : Addr} (w1 : (Jvm.Cond.methodLink own i z).before a0 Z = true) (w0 : (Jvm.Cond.sameMethod z.cls owner z.name z.desc).before a0 Z = true) (wd : (Jvm.Cond.declares ⟨owner, z.name, z.desc⟩).before a0 Z = true) (ws : (Jvm.Cond.selects C z y).before a0 Z = true) (w2 : (Jvm.Cond.instanceMethod y).before a0 Z = true) (w3 : (Jvm.Cond.initialized y.cls).before a0 Z = true) (w4 : (Jvm.Cond.code y bs2 mx2 ret2).before a0 Z = true) (hy : owner ≠ "java/lang/invoke/MethodHandle" ∧ owner ≠ "java/lang/invoke/VarHandle") (E : Exa Z h a C) (hM : OMet l Z [] y bs2 mx2 ret2 rm as h n0 Q) (has : (.ref a :: argsL).toArray = as) (hS : S = argsL.reverse ++ .ref a :: rest) (hlen : ∀ sig, parseMethodDescriptor z.desc = some sig → argsL.length = sig.parameters.length) (hL : L.size = mx) (hf : rm.frames + 1 ≤ R.frames) (hl : (rest.map fun v => v.category).sum + (mx2 + 11) + rm.locals ≤ R.locals) (hc : k + rm.cells ≤ R.cells) (hs : n + rm.slots ≤ R.slots) (hd : decode bs pc = .ok (.invokevirtual i, 3)) (hp : pc + 3 = pc') (q : ∀ v T' h', Sd Z own bs mx ret n0 p l e R s m args below meth c T' h' (k + rm.cells) (n + rm.slots) → Q v h' → Gl p e below P (T'.setTop (mkF m pc' L (v.toList ++ rest)))) : Gl p e below P (T.setTop (mkF m pc L S)) := by
  obtain ⟨locs, X, eT, N, hn0, hx, hZ, hown, hby, hml, hrt, hlk⟩ := Y
  subst hp has hS
  obtain ⟨cq, kq, qa, qb, qc⟩ := isOf hZ eT E
  obtain ⟨v, vm₁, ⟨T', L', k', n'⟩, -, X', hB, st⟩ := X.virtualBackUp hx (x := z) (y := y) hown (mvT hZ w1) (mvT hZ w0) (mvT hZ wd) hy (mvT hZ ws) (mvT hZ w2) (backOf (Q := fun v h' L => Q v h' ∧ Fr n0 L) (W := (rest.map fun v => v.category).sum) (OMet.un hM) hZ w4 w3 hf hl) qa qc (g := mkF m pc L (argsL.reverse ++ .ref a :: rest)) rfl (by rw [hml]; exact hL) (Steps.refl _) (argsL := argsL) (rest := rest) hlen rfl (by show 2 * 0 + _ ≤ _; omega) (hb hby hd) (fun _ _ => ⟨rfl, eT, hc, hs⟩)
  obtain ⟨Lc, ⟨hQ, NL⟩, l1, l2, l3⟩ := hB
  dsimp only [Pt.U, Pt.locs, Pt.cells, Pt.slots] at X' l1 l2 l3 st hQ
  subst l1 l2 l3
  exact Gl.via st (q v T' T'.heap ⟨_, X', rfl, Fr.app N NL, hn0, hx, hZ, hown, hby, hml, hrt, hlk⟩ hQ)
theorem Gl.fin (Y : Sd Z own bs mx ret n0 p l e R s m args below meth c T h k n) {K M : Nat} {Q : Option Value → Heap → Prop} (hk : k ≤ K) (hm : n ≤ M) {g : JFrame} {v : Option Value} (hv : ret = none → v = none) (st : ∀ fs, (∀ (f : JFrame) (acts : List Action), f.method = m → f.locked = none → f.entered = [] → (doReturn e (T.setTop f) acts v).1 = T.setFrames fs) → Steps p.tables e below (T.setTop g) (T.setFrames fs)) (hQ : Q v h) : Gl p e below (Pst s n0 K M Q) (T.setTop g) := by
  obtain ⟨locs, X, eT, N, hn0, hx, hZ, hown, hby, hml, hrt, hlk⟩ := Y
  obtain ⟨fs, hr, hrun, hended, hW, hsame⟩ := X.leave (v := v) (fun q => hv (hrt.symm.trans q)) hlk
  exact ⟨_, _, st fs hr, hrun, hended, v, locs, rfl, ⟨by show Q v T.heap; rw [eT]; exact hQ, N⟩, ⟨_, rfl⟩, hW, hsame.mono hk hm⟩
theorem Gl.retV (Y : Sd Z own bs mx none n0 p l e R s m args below meth c T h k n) {K M : Nat} {Q : Option Value → Heap → Prop} (hk : k ≤ K) (hm : n ≤ M)  (hd : decode bs pc = .ok (.return_, 1)) (hQ : Q none h) : Gl p e below (Pst s n0 K M Q) (T.setTop (mkF m pc L [])) := by
  have Y0 := Y
  obtain ⟨locs, X, eT, N, hn0, hx, hZ, hown, hby, hml, hrt, hlk⟩ := Y
  exact Gl.fin Y0 hk hm (v := none) (fun q => by first | rfl | cases q) (fun fs hr => X.returnOut hx hrt (hb hby hd) hr) hQ
theorem Gl.retI (Y : Sd Z own bs mx (some .int) n0 p l e R s m args below meth c T h k n) {K M : Nat} {Q : Option Value → Heap → Prop} (hk : k ≤ K) (hm : n ≤ M) {x : Int32} (hd : decode bs pc = .ok (.ireturn, 1)) (hQ : Q (some (.int x)) h) : Gl p e below (Pst s n0 K M Q) (T.setTop (mkF m pc L (.int x :: S))) := by
  have Y0 := Y
  obtain ⟨locs, X, eT, N, hn0, hx, hZ, hown, hby, hml, hrt, hlk⟩ := Y
  exact Gl.fin Y0 hk hm (v := (some (.int x))) (fun q => by first | rfl | cases q) (fun fs hr => retOut X hx hrt rfl (Or.inl ⟨rfl, Or.inl rfl, x, rfl⟩) (hb hby hd) hr) hQ
theorem Gl.retJ (Y : Sd Z own bs mx (some .long) n0 p l e R s m args below meth c T h k n) {K M : Nat} {Q : Option Value → Heap → Prop} (hk : k ≤ K) (hm : n ≤ M) {x : Int64} (hd : decode bs pc = .ok (.lreturn, 1)) (hQ : Q (some (.long x)) h) : Gl p e below (Pst s n0 K M Q) (T.setTop (mkF m pc L (.long x :: S))) := by
  have Y0 := Y
  obtain ⟨locs, X, eT, N, hn0, hx, hZ, hown, hby, hml, hrt, hlk⟩ := Y
  exact Gl.fin Y0 hk hm (v := (some (.long x))) (fun q => by first | rfl | cases q) (fun fs hr => retOut X hx hrt rfl (Or.inr (Or.inl ⟨rfl, rfl, x, rfl⟩)) (hb hby hd) hr) hQ
theorem Gl.retA (Y : Sd Z own bs mx (some t) n0 p l e R s m args below meth c T h k n) {K M : Nat} {Q : Option Value → Heap → Prop} (hk : k ≤ K) (hm : n ≤ M) {x : Value} (ht : t.isReference = true) (hxr : x.isRef = true) (hd : decode bs pc = .ok (.areturn, 1)) (hQ : Q (some x) h) : Gl p e below (Pst s n0 K M Q) (T.setTop (mkF m pc L (x :: S))) := by
  have Y0 := Y
  obtain ⟨locs, X, eT, N, hn0, hx, hZ, hown, hby, hml, hrt, hlk⟩ := Y
  exact Gl.fin Y0 hk hm (v := (some x)) (fun q => by first | rfl | cases q) (fun fs hr => retOut X hx hrt (own_narR hxr) (Or.inr (Or.inr (Or.inr (Or.inr ⟨rfl, ht, hxr⟩)))) (hb hby hd) hr) hQ
theorem Gl.retZ (Y : Sd Z own bs mx (some .boolean) n0 p l e R s m args below meth c T h k n) {K M : Nat} {Q : Option Value → Heap → Prop} (hk : k ≤ K) (hm : n ≤ M) {x x' : Int32} (hxn : nar .boolean x = x') (hd : decode bs pc = .ok (.ireturn, 1)) (hQ : Q (some (.int x')) h) : Gl p e below (Pst s n0 K M Q) (T.setTop (mkF m pc L (.int x :: S))) := by
  have Y0 := Y
  obtain ⟨locs, X, eT, N, hn0, hx, hZ, hown, hby, hml, hrt, hlk⟩ := Y
  exact Gl.fin Y0 hk hm (v := (some (.int x'))) (fun q => by first | rfl | cases q) (fun fs hr => retN X hx (t := .boolean) hrt (by simp) (hb hby hd) (by rw [hxn]; exact hr)) hQ
theorem Gl.retB (Y : Sd Z own bs mx (some .byte) n0 p l e R s m args below meth c T h k n) {K M : Nat} {Q : Option Value → Heap → Prop} (hk : k ≤ K) (hm : n ≤ M) {x x' : Int32} (hxn : nar .byte x = x') (hd : decode bs pc = .ok (.ireturn, 1)) (hQ : Q (some (.int x')) h) : Gl p e below (Pst s n0 K M Q) (T.setTop (mkF m pc L (.int x :: S))) := by
  have Y0 := Y
  obtain ⟨locs, X, eT, N, hn0, hx, hZ, hown, hby, hml, hrt, hlk⟩ := Y
  exact Gl.fin Y0 hk hm (v := (some (.int x'))) (fun q => by first | rfl | cases q) (fun fs hr => retN X hx (t := .byte) hrt (by simp) (hb hby hd) (by rw [hxn]; exact hr)) hQ
theorem Gl.retC (Y : Sd Z own bs mx (some .char) n0 p l e R s m args below meth c T h k n) {K M : Nat} {Q : Option Value → Heap → Prop} (hk : k ≤ K) (hm : n ≤ M) {x x' : Int32} (hxn : nar .char x = x') (hd : decode bs pc = .ok (.ireturn, 1)) (hQ : Q (some (.int x')) h) : Gl p e below (Pst s n0 K M Q) (T.setTop (mkF m pc L (.int x :: S))) := by
  have Y0 := Y
  obtain ⟨locs, X, eT, N, hn0, hx, hZ, hown, hby, hml, hrt, hlk⟩ := Y
  exact Gl.fin Y0 hk hm (v := (some (.int x'))) (fun q => by first | rfl | cases q) (fun fs hr => retN X hx (t := .char) hrt (by simp) (hb hby hd) (by rw [hxn]; exact hr)) hQ
theorem Gl.retSh (Y : Sd Z own bs mx (some .short) n0 p l e R s m args below meth c T h k n) {K M : Nat} {Q : Option Value → Heap → Prop} (hk : k ≤ K) (hm : n ≤ M) {x x' : Int32} (hxn : nar .short x = x') (hd : decode bs pc = .ok (.ireturn, 1)) (hQ : Q (some (.int x')) h) : Gl p e below (Pst s n0 K M Q) (T.setTop (mkF m pc L (.int x :: S))) := by
  have Y0 := Y
  obtain ⟨locs, X, eT, N, hn0, hx, hZ, hown, hby, hml, hrt, hlk⟩ := Y
  exact Gl.fin Y0 hk hm (v := (some (.int x'))) (fun q => by first | rfl | cases q) (fun fs hr => retN X hx (t := .short) hrt (by simp) (hb hby hd) (by rw [hxn]; exact hr)) hQ
end Kit
end Jvm.OwnWk

namespace Jvm.Pilot.@@N@@
open Jvm Jvm.ClassFile Sem Op Lib Jvm.Free Jvm.Stand Jvm.LawKit Jvm.RoadKit Bundle Jvm.OwnWk Jvm.Pilot.@@N@@.Jvm.D
abbrev HW (a0 : Array Value) (Z : State) : Prop := ∀ d ∈ tables_1, d.before a0 Z = true
def own_o (w c : Int64) : Int64 := (w ^^^ (-1)) + c
def own_k (w c : Int64) : Int64 := c &&& (if own_o w c = 0 then 1 else 0)
theorem own_k01 {w c : Int64} (hc : c = 0 ∨ c = 1) : own_k w c = 0 ∨ own_k w c = 1 := by
  unfold own_k
  rcases hc with rfl | rfl <;> split <;> decide
theorem own_k1 {w c : Int64} (hc : c = 0 ∨ c = 1) (h : own_k w c = 1) : w = 0 ∧ c = 1 := by
  rcases hc with rfl | rfl
  · exfalso; revert h; unfold own_k; split <;> decide
  · refine ⟨?_, rfl⟩
    by_cases q : own_o w 1 = 0
    · unfold own_o at q
      have e1 := own_not64 w
      have e2 := c_ladd (w ^^^ (-1)) 1
      have r1 := rng64 w
      have r2 := rng64 ((w ^^^ (-1)) + 1)
      rw [q] at e2
      simp only [Int64.reduceToInt] at e2
      apply Int64.toInt_inj.mp
      simp only [Int64.reduceToInt]
      omega
    · exfalso; revert h; unfold own_k; rw [if_neg q]; decide
theorem own_sum (b c : Int64) (w : Int64) (hb : w ^^^ (-1) = b) {u v : Int64} (hu : (0 : Int64) + b = u) (hv : u + c = v) : v = own_o w c := by
  subst hb hu hv
  unfold own_o
  rw [Int64.zero_add]
theorem own_sgn (v : Int64) : (v.toUInt64 >>> ((63 : Int32) &&& 0x3f).toInt64.toUInt64).toInt64 = if v < 0 then 1 else 0 := by
  have q := c_lushr v (63 : Int32) 63 (by decide) (by decide)
  have r := rng64 v
  apply Int64.toInt_inj.mp
  by_cases h : v < 0
  · rw [if_pos h]
    have := Int64.lt_iff_toInt_lt.mp h
    simp only [Int64.reduceToInt] at *
    omega
  · rw [if_neg h]
    have : ¬ v.toInt < (0 : Int64).toInt := fun z => h (Int64.lt_iff_toInt_lt.mpr z)
    simp only [Int64.reduceToInt] at *
    omega
theorem own_carry (w c : Int64) (hc : c = 0 ∨ c = 1) : (((0 &&& (w ^^^ (-1))) ||| ((0 ||| (w ^^^ (-1))) &&& (own_o w c ^^^ (-1)))).toUInt64 >>> ((63 : Int32) &&& 0x3f).toInt64.toUInt64).toInt64 = own_k w c := by
  rw [own_sgn]
  have z1 : (0 : Int64) &&& (w ^^^ (-1)) = 0 := Int64.zero_and
  have z2 : (0 : Int64) ||| (w ^^^ (-1)) = (w ^^^ (-1)) := Int64.zero_or
  rw [z1, z2, Int64.zero_or]
  have s1 := c_andSL (w ^^^ (-1)) (own_o w c ^^^ (-1))
  have e1 := own_not64 w
  have e2 := own_not64 (own_o w c)
  have e3 := c_ladd (w ^^^ (-1)) c
  have r1 := rng64 w
  have r2 := rng64 (own_o w c)
  rw [show (w ^^^ (-1)) + c = own_o w c from rfl] at e3
  have hlt : ((w ^^^ (-1)) &&& (own_o w c ^^^ (-1))) < 0 ↔ ((w ^^^ (-1)) &&& (own_o w c ^^^ (-1))).toInt < 0 := by
    rw [Int64.lt_iff_toInt_lt]; simp
  have hz : own_o w c = 0 ↔ (own_o w c).toInt = 0 := by
    rw [← Int64.toInt_inj]; simp
  unfold own_k
  rcases hc with rfl | rfl
  · simp only [Int64.reduceToInt] at e3
    have : ¬ ((w ^^^ (-1)) &&& (own_o w 0 ^^^ (-1))) < 0 := by rw [hlt]; omega
    rw [if_neg this, Int64.zero_and]
  · simp only [Int64.reduceToInt] at e3
    by_cases q : own_o w 1 = 0
    · have q' := hz.mp q
      have : ((w ^^^ (-1)) &&& (own_o w 1 ^^^ (-1))) < 0 := by rw [hlt]; omega
      rw [if_pos this, if_pos q]; rfl
    · have q' : ¬ (own_o w 1).toInt = 0 := fun z => q (hz.mpr z)
      have : ¬ ((w ^^^ (-1)) &&& (own_o w 1 ^^^ (-1))) < 0 := by rw [hlt]; omega
      rw [if_neg this, if_neg q]; rfl
theorem own_fit (w c : Int64) (hc : c = 0 ∨ c = 1) (h : ¬ (w = (-9223372036854775808) ∧ c = 1)) : ¬ ((0 ^^^ own_o w c) &&& ((w ^^^ (-1)) ^^^ own_o w c)) < 0 := by
  rw [Int64.zero_xor]
  have s1 := c_andSL (own_o w c) ((w ^^^ (-1)) ^^^ own_o w c)
  have s2 := c_xorSL (w ^^^ (-1)) (own_o w c)
  have e1 := own_not64 w
  have e3 := c_ladd (w ^^^ (-1)) c
  have r1 := rng64 w
  have r2 := rng64 (own_o w c)
  rw [show (w ^^^ (-1)) + c = own_o w c from rfl] at e3
  intro k
  have k' := Int64.lt_iff_toInt_lt.mp k
  rcases hc with rfl | rfl
  · simp only [Int64.reduceToInt] at e3 k'
    omega
  · have hw : ¬ w.toInt = -9223372036854775808 := fun z => h ⟨Int64.toInt_inj.mp (by rw [z]; rfl), rfl⟩
    simp only [Int64.reduceToInt] at e3 k'
    omega
def own_cy (a b s : Int64) : Int64 := (((a &&& b) ||| ((a ||| b) &&& (s ^^^ (-1)))).toUInt64 >>> ((63 : Int32) &&& 0x3f).toInt64.toUInt64).toInt64
theorem own_cyv (a b s : Int64) : (own_cy a b s).toInt = if ((a.toInt < 0 ∧ b.toInt < 0) ∨ ((a.toInt < 0 ∨ b.toInt < 0) ∧ 0 ≤ s.toInt)) then 1 else 0 := by
  unfold own_cy
  rw [own_sgn]
  have s1 := c_andSL a b
  have s2 := c_orSL a b
  have s3 := own_not64 s
  have s4 := c_andSL (a ||| b) (s ^^^ (-1))
  have s5 := c_orSL (a &&& b) ((a ||| b) &&& (s ^^^ (-1)))
  have hlt : ((a &&& b) ||| ((a ||| b) &&& (s ^^^ (-1)))) < 0 ↔ ((a &&& b) ||| ((a ||| b) &&& (s ^^^ (-1)))).toInt < 0 := by rw [Int64.lt_iff_toInt_lt]; simp
  by_cases q : ((a &&& b) ||| ((a ||| b) &&& (s ^^^ (-1)))) < 0
  · rw [if_pos q]
    have q' := hlt.mp q
    rw [if_pos (by omega)]; rfl
  · rw [if_neg q]
    have q' : ¬ _ := fun z => q (hlt.mpr z)
    rw [if_neg (by omega)]; rfl
theorem own_sx01 {x sx : Int64} (h : x >>> ((63 : Int32) &&& 0x3f).toInt64 = sx) : (x.toInt < 0 ∧ sx.toInt = -1) ∨ (0 ≤ x.toInt ∧ sx.toInt = 0) := by
  have q := c_lshr x (63 : Int32) 63 (by decide)
  rw [h] at q
  have r := rng64 x
  omega
theorem own_lo {x y sx sy u s : Int64} (hx : x >>> ((63 : Int32) &&& 0x3f).toInt64 = sx) (hy : y >>> ((63 : Int32) &&& 0x3f).toInt64 = sy) (hu : x + y = u) (hs : u + 0 = s) :
    x.toInt + y.toInt = (sx.toInt + sy.toInt + (own_cy x y s).toInt) * 18446744073709551616 + s.toInt % 18446744073709551616 ∧ ((own_cy x y s).toInt = 0 ∨ (own_cy x y s).toInt = 1) := by
  have e0 : s = u := by rw [← hs, Int64.add_zero]
  subst e0
  have q1 := own_sx01 hx
  have q2 := own_sx01 hy
  have q3 := c_ladd x y
  rw [hu] at q3
  have r1 := rng64 x
  have r2 := rng64 y
  have r3 := rng64 s
  rw [own_cyv]
  split <;> omega
theorem own_T {x y sx sy u s w c t : Int64} (hx : x >>> ((63 : Int32) &&& 0x3f).toInt64 = sx) (hy : y >>> ((63 : Int32) &&& 0x3f).toInt64 = sy) (hu : x + y = u) (hs : u + 0 = s) (hc : own_cy x y s = c) (hw : sx + sy = w) (ht : w + c = t) :
    x.toInt + y.toInt = t.toInt * 18446744073709551616 + s.toInt % 18446744073709551616 ∧ (t.toInt = 0 ∨ t.toInt = -1) ∧ t.toInt = sx.toInt + sy.toInt + c.toInt ∧ (c.toInt = 0 ∨ c.toInt = 1) := by
  have q := own_lo hx hy hu hs
  rw [hc] at q
  have q1 := own_sx01 hx
  have q2 := own_sx01 hy
  have q3 := c_ladd sx sy
  rw [hw] at q3
  have q4 := c_ladd w c
  rw [ht] at q4
  have r1 := rng64 x
  have r2 := rng64 y
  have r3 := rng64 w
  have r4 := rng64 t
  omega
theorem own_hi {sx sy c t : Int64} (hx : sx.toInt = 0 ∨ sx.toInt = -1) (hy : sy.toInt = 0 ∨ sy.toInt = -1) (hc : c.toInt = 0 ∨ c.toInt = 1) (ht : t.toInt = sx.toInt + sy.toInt + c.toInt) (h01 : t.toInt = 0 ∨ t.toInt = -1) : own_cy sx sy t = c := by
  apply Int64.toInt_inj.mp
  rw [own_cyv]
  split <;> omega
theorem own_fit2 {sx sy c t : Int64} (hx : sx.toInt = 0 ∨ sx.toInt = -1) (hy : sy.toInt = 0 ∨ sy.toInt = -1) (hc : c.toInt = 0 ∨ c.toInt = 1) (ht : t.toInt = sx.toInt + sy.toInt + c.toInt) (h01 : t.toInt = 0 ∨ t.toInt = -1) : ¬ ((sx ^^^ t) &&& (sy ^^^ t)) < 0 := by
  have s1 := c_xorSL sx t
  have s2 := c_xorSL sy t
  have s3 := c_andSL (sx ^^^ t) (sy ^^^ t)
  intro q
  have q' := Int64.lt_iff_toInt_lt.mp q
  simp only [Int64.reduceToInt] at q'
  omega
theorem own_oi (w c : Int64) : ((own_o w c).toInt - (-w.toInt - 1 + c.toInt)) % 18446744073709551616 = 0 := by
  have q := c_ladd (w ^^^ (-1)) c
  rw [own_not64] at q
  exact q
theorem own_ki (w c : Int64) (hc : c.toInt = 0 ∨ c.toInt = 1) : (own_k w c).toInt = if (own_o w c).toInt = 0 then c.toInt else 0 := by
  have hz : own_o w c = 0 ↔ (own_o w c).toInt = 0 := by rw [← Int64.toInt_inj]; simp
  unfold own_k
  by_cases q : own_o w c = 0
  · rw [if_pos q, if_pos (hz.mp q)]
    rcases hc with h | h
    · rw [show c = 0 from Int64.toInt_inj.mp (by rw [h]; rfl)]; rfl
    · rw [show c = 1 from Int64.toInt_inj.mp (by rw [h]; rfl)]; rfl
  · rw [if_neg q, if_neg (fun z => q (hz.mpr z)), Int64.and_zero]; rfl
theorem own_n1 (w : Int64) : (w.toInt = -9223372036854775808 ∧ (own_o w 1).toInt = -9223372036854775808) ∨ (¬ w.toInt = -9223372036854775808 ∧ (own_o w 1).toInt = -w.toInt) := by
  have q := own_oi w 1
  have r := rng64 w
  have r2 := rng64 (own_o w 1)
  simp only [Int64.reduceToInt] at q
  omega
def own_ngs (a t : Int64) : Nat → Int64 × Int64
  | 0 => (own_o a 1, own_k a 1)
  | i + 1 => (own_o t (own_ngs a t i).2, own_k t (own_ngs a t i).2)
theorem own_step (a t : Int64) (h : t.toInt = 0 ∨ t.toInt = -1) (c : Int64) (hc : c.toInt = 0 ∨ c.toInt = 1) : (own_o t c).toInt = -t.toInt - 1 + c.toInt ∧ ((own_k t c).toInt = 0 ∨ (own_k t c).toInt = 1) ∧ ((own_k t c).toInt = 1 ↔ (t.toInt = 0 ∧ c.toInt = 1)) := by
  have q := own_oi t c
  have r2 := rng64 (own_o t c)
  have k := own_ki t c hc
  split at k <;> omega
theorem own_first (a : Int64) : ((own_o a 1).toInt = 0 ↔ a.toInt = 0) ∧ ((own_k a 1).toInt = 0 ∨ (own_k a 1).toInt = 1) ∧ ((own_k a 1).toInt = 1 ↔ a.toInt = 0) := by
  have q := own_oi a 1
  have r := rng64 a
  have r2 := rng64 (own_o a 1)
  have k := own_ki a 1 (Or.inr rfl)
  simp only [Int64.reduceToInt] at q k
  split at k <;> omega
theorem own_ch0 {t c : Int64} (ht : t.toInt = 0) (hc : c.toInt = 0 ∨ c.toInt = 1) : (own_o t c).toInt = c.toInt - 1 ∧ (own_k t c).toInt = c.toInt := by
  have q := own_step t t (Or.inl ht) c hc
  omega
theorem own_ch1 {t c : Int64} (ht : t.toInt = -1) (hc : c.toInt = 0 ∨ c.toInt = 1) : (own_o t c).toInt = c.toInt ∧ (own_k t c).toInt = 0 := by
  have q := own_step t t (Or.inr ht) c hc
  omega
theorem own_ov1 {x y u s : Int64} (hu : x + y = u) (hs : u + 0 = s) : (((x ^^^ s) &&& (y ^^^ s)) < 0 → x.toInt + y.toInt < -9223372036854775808 ∨ 9223372036854775807 < x.toInt + y.toInt) ∧ (¬ ((x ^^^ s) &&& (y ^^^ s)) < 0 → s.toInt = x.toInt + y.toInt ∧ ¬ (x.toInt + y.toInt < -9223372036854775808) ∧ ¬ (9223372036854775807 < x.toInt + y.toInt)) := by
  have e0 : s = u := by rw [← hs, Int64.add_zero]
  subst e0
  have q3 := c_ladd x y
  rw [hu] at q3
  have s1 := c_xorSL x s
  have s2 := c_xorSL y s
  have s3 := c_andSL (x ^^^ s) (y ^^^ s)
  have r1 := rng64 x
  have r2 := rng64 y
  have r3 := rng64 s
  have hlt : ((x ^^^ s) &&& (y ^^^ s)) < 0 ↔ ((x ^^^ s) &&& (y ^^^ s)).toInt < 0 := by rw [Int64.lt_iff_toInt_lt]; simp
  rw [hlt]
  omega
theorem dA_0 : decode prog_137_method_1_code 0 = .ok (.aload_n 0, 1) := by decide +kernel
theorem dA_1 : decode prog_137_method_1_code 1 = .ok (.invokespecial 1, 3) := by decide +kernel
theorem tw_6 {a0 : Array Value} {Z : State} (hw : HW a0 Z) : (Jvm.Cond.methodLink "com/example/meterwise/meterwise/model/WholeNumber" (1 : Nat) ({ cls := "java/lang/Object", name := "<init>", desc := "()V" } : Jvm.MethodName)).before a0 Z = true := hw _ (List.mem_of_getElem? (i := 6) rfl)
theorem tw_7 {a0 : Array Value} {Z : State} (hw : HW a0 Z) : (Jvm.Cond.instanceMethod ({ cls := "java/lang/Object", name := "<init>", desc := "()V" } : Jvm.MethodName)).before a0 Z = true := hw _ (List.mem_of_getElem? (i := 7) rfl)
theorem tw_8 {a0 : Array Value} {Z : State} (hw : HW a0 Z) : (Jvm.Cond.code ({ cls := "java/lang/Object", name := "<init>", desc := "()V" } : Jvm.MethodName) object_method_1_code (1 : Nat) (Option.none : Option Jvm.ClassFile.FieldType)).before a0 Z = true := hw _ (List.mem_of_getElem? (i := 8) rfl)
theorem dA_4 : decode prog_137_method_1_code 4 = .ok (.iload_n 1, 1) := by decide +kernel
theorem dA_5 : decode prog_137_method_1_code 5 = .ok (.iconst 1, 1) := by decide +kernel
theorem dA_6 : decode prog_137_method_1_code 6 = .ok (.if_icmp .ge 17, 3) := by decide +kernel
theorem dA_23 : decode prog_137_method_1_code 23 = .ok (.iload_n 1, 1) := by decide +kernel
theorem dA_24 : decode prog_137_method_1_code 24 = .ok (.i2l, 1) := by decide +kernel
theorem dA_25 : decode prog_137_method_1_code 25 = .ok (.ldc2_w 16, 3) := by decide +kernel
theorem tw_9 {a0 : Array Value} {Z : State} (hw : HW a0 Z) : (Jvm.Cond.constantLong "com/example/meterwise/meterwise/model/WholeNumber" (16 : Nat) (3322 : Int64)).before a0 Z = true := hw _ (List.mem_of_getElem? (i := 9) rfl)
theorem dA_28 : decode prog_137_method_1_code 28 = .ok (.lmul, 1) := by decide +kernel
theorem dA_29 : decode prog_137_method_1_code 29 = .ok (.ldc2_w 18, 3) := by decide +kernel
theorem tw_10 {a0 : Array Value} {Z : State} (hw : HW a0 Z) : (Jvm.Cond.constantLong "com/example/meterwise/meterwise/model/WholeNumber" (18 : Nat) (999 : Int64)).before a0 Z = true := hw _ (List.mem_of_getElem? (i := 10) rfl)
theorem dA_32 : decode prog_137_method_1_code 32 = .ok (.ladd, 1) := by decide +kernel
theorem dA_33 : decode prog_137_method_1_code 33 = .ok (.ldc2_w 20, 3) := by decide +kernel
theorem tw_11 {a0 : Array Value} {Z : State} (hw : HW a0 Z) : (Jvm.Cond.constantLong "com/example/meterwise/meterwise/model/WholeNumber" (20 : Nat) (1000 : Int64)).before a0 Z = true := hw _ (List.mem_of_getElem? (i := 11) rfl)
theorem dA_36 : decode prog_137_method_1_code 36 = .ok (.ldiv, 1) := by decide +kernel
theorem dA_37 : decode prog_137_method_1_code 37 = .ok (.lconst 1, 1) := by decide +kernel
theorem dA_38 : decode prog_137_method_1_code 38 = .ok (.ladd, 1) := by decide +kernel
theorem dA_39 : decode prog_137_method_1_code 39 = .ok (.lstore_n 2, 1) := by decide +kernel
theorem dA_40 : decode prog_137_method_1_code 40 = .ok (.aload_n 0, 1) := by decide +kernel
theorem dA_41 : decode prog_137_method_1_code 41 = .ok (.lload_n 2, 1) := by decide +kernel
theorem dA_42 : decode prog_137_method_1_code 42 = .ok (.ldc2_w 24, 3) := by decide +kernel
theorem tw_12 {a0 : Array Value} {Z : State} (hw : HW a0 Z) : (Jvm.Cond.constantLong "com/example/meterwise/meterwise/model/WholeNumber" (24 : Nat) (64 : Int64)).before a0 Z = true := hw _ (List.mem_of_getElem? (i := 12) rfl)
theorem dA_45 : decode prog_137_method_1_code 45 = .ok (.ladd, 1) := by decide +kernel
theorem dA_46 : decode prog_137_method_1_code 46 = .ok (.lconst 1, 1) := by decide +kernel
theorem dA_47 : decode prog_137_method_1_code 47 = .ok (.lsub, 1) := by decide +kernel
theorem dA_48 : decode prog_137_method_1_code 48 = .ok (.ldc2_w 24, 3) := by decide +kernel
theorem dA_51 : decode prog_137_method_1_code 51 = .ok (.ldiv, 1) := by decide +kernel
theorem dA_52 : decode prog_137_method_1_code 52 = .ok (.l2i, 1) := by decide +kernel
theorem dA_53 : decode prog_137_method_1_code 53 = .ok (.newarray .long, 2) := by decide +kernel
theorem tw_13 {a0 : Array Value} {Z : State} (hw : HW a0 Z) : (Jvm.Cond.arrayClass Jvm.ClassFile.FieldType.long).before a0 Z = true := hw _ (List.mem_of_getElem? (i := 13) rfl)
theorem dA_55 : decode prog_137_method_1_code 55 = .ok (.putfield 26, 3) := by decide +kernel
theorem tw_14 {a0 : Array Value} {Z : State} (hw : HW a0 Z) : (Jvm.Cond.fieldLink "com/example/meterwise/meterwise/model/WholeNumber" (26 : Nat) "com/example/meterwise/meterwise/model/WholeNumber" "words" "[J").before a0 Z = true := hw _ (List.mem_of_getElem? (i := 14) rfl)
theorem tw_15 {a0 : Array Value} {Z : State} (hw : HW a0 Z) : (Jvm.Cond.laysFinal "com/example/meterwise/meterwise/model/WholeNumber" "com/example/meterwise/meterwise/model/WholeNumber" "words" "[J").before a0 Z = true := hw _ (List.mem_of_getElem? (i := 15) rfl)
theorem tw_1 {a0 : Array Value} {Z : State} (hw : HW a0 Z) : (Jvm.Cond.instantiable "com/example/meterwise/meterwise/model/WholeNumber" (2 : Nat)).before a0 Z = true := hw _ (List.mem_of_getElem? (i := 1) rfl)
theorem dA_58 : decode prog_137_method_1_code 58 = .ok (.return_, 1) := by decide +kernel
def R0 : Room := { frames := 1, cells := 1, slots := 1, locals := 12 }
def Q0 (Z : State) (a : Addr) (dg : Int32) (h0 : Heap) (v : Option Value) (h : Heap) : Prop := ∃ wa : Addr, ∃ ck : ClassId, v = none ∧ Keep h0 h [a] ∧ h0.size ≤ wa ∧ Exa Z h a "com/example/meterwise/meterwise/model/WholeNumber" ∧ Fld Z h a "com/example/meterwise/meterwise/model/WholeNumber" "words" "[J" (.ref wa) ∧ Arv Z h wa ck .long (1 : Int32) [(.long 0)] (.long 0)
theorem ef0 (a : Addr) (dg : Int32) (m : MethodId) : entryFrame m #[(.ref a), (.int dg)] 4 = mkF m 0 #[.val (.ref a), .val (.int dg), .unset, .unset] [] := by first | (simp [entryFrame, mkF, argsToLocals, Value.category]; done) | rfl
theorem pn_0 : plainName "com/example/meterwise/meterwise/model/WholeNumber" = true := by first | (simp [plainName, overriddenIn]; done) | decide +kernel
theorem rm0 (l : Launch) (Z : State) (a0 : Array Value) (hw : HW a0 Z) (ws : List Jvm.Cond) (a : Addr) (dg : Int32) (h0 : Heap) (n0 : Nat) (Z0 : n0 ≤ h0.size) (E : Exa Z h0 a "com/example/meterwise/meterwise/model/WholeNumber") (F_words : Fld Z h0 a "com/example/meterwise/meterwise/model/WholeNumber" "words" "[J" .null) (ga : n0 ≤ a) (h1 : 1 ≤ dg.toInt) (h2 : dg.toInt ≤ 18) : OMet l Z ws (⟨"com/example/meterwise/meterwise/model/WholeNumber", "<init>", "(I)V"⟩ : MethodName) prog_137_method_1_code 4 none R0 #[(.ref a), (.int dg)] h0 n0 (Q0 Z a dg h0) := by
  refine OMet.of (own := "com/example/meterwise/meterwise/model/WholeNumber") rfl (plainFor_of_name pn_0) (ef0 a dg) Z0 ?_
  intro p e s m below meth c T0 Y0 hnm
  have ndg := rng32 dg
  refine Gl.aloadN Y0 rfl rfl dA_0 rfl ?_
  refine Gl.initO Y0 (tw_6 hw) (tw_7 hw) (tw_8 hw) rfl (by decide) (Nat.le_of_ble_eq_true rfl) dA_1 rfl (fun T1 Y1 => ?_)
  refine Gl.iloadN Y1 rfl dA_4 rfl ?_
  refine Gl.iconst Y1 (v := (1 : Int32)) (by decide) dA_5 rfl ?_
  refine Gl.icmpge Y1 dA_6 (by decide) rfl rfl (fun c6 => ?_) (fun c6 => ?_)
  rotate_left
  · exfalso; have j6 : dg.toInt < 1 := Int32.lt_iff_toInt_lt.mp c6; omega
  have j6 : ¬ (dg.toInt < 1) := fun q => c6 (Int32.lt_iff_toInt_lt.mpr q)
  refine Gl.iloadN Y1 rfl dA_23 rfl ?_
  obtain ⟨v24, hv24⟩ : ∃ z : Int64, dg.toInt64 = z := ⟨_, rfl⟩
  have iv24 : v24.toInt = dg.toInt := by have q := c_i2l dg; rw [hv24] at q; exact q
  refine Gl.i2l Y1 hv24 dA_24 rfl ?_
  refine Gl.ldcJ Y1 (tw_9 hw) dA_25 rfl ?_
  obtain ⟨v28, hv28⟩ : ∃ z : Int64, v24 * (3322 : Int64) = z := ⟨_, rfl⟩
  have iv28 : v28.toInt = v24.toInt * 3322 := by
    have q : (v28.toInt - (v24.toInt * 3322)) % 18446744073709551616 = 0 := by have q := c_lmul v24 (3322 : Int64); rw [hv28] at q; exact q
    have r := rng64 v28
    omega
  refine Gl.lmul Y1 hv28 dA_28 rfl ?_
  refine Gl.ldcJ Y1 (tw_10 hw) dA_29 rfl ?_
  obtain ⟨v32, hv32⟩ : ∃ z : Int64, v28 + (999 : Int64) = z := ⟨_, rfl⟩
  have iv32 : v32.toInt = v28.toInt + 999 := by
    have q : (v32.toInt - (v28.toInt + 999)) % 18446744073709551616 = 0 := by have q := c_ladd v28 (999 : Int64); rw [hv32] at q; exact q
    have r := rng64 v32
    omega
  refine Gl.ladd Y1 hv32 dA_32 rfl ?_
  refine Gl.ldcJ Y1 (tw_11 hw) dA_33 rfl ?_
  obtain ⟨v36, hv36⟩ : ∃ z : Int64, v32 / (1000 : Int64) = z := ⟨_, rfl⟩
  have iv36 : v36.toInt = v32.toInt / 1000 := by have q := (c_ldiv v32 (1000 : Int64) 1000 (by decide) (by decide)).1 (by omega); rw [hv36] at q; exact q
  refine Gl.ldiv Y1 (by decide) hv36 dA_36 rfl ?_
  refine Gl.lconst Y1 (v := (1 : Int64)) (by decide) dA_37 rfl ?_
  obtain ⟨v38, hv38⟩ : ∃ z : Int64, v36 + (1 : Int64) = z := ⟨_, rfl⟩
  have iv38 : v38.toInt = v36.toInt + 1 := by
    have q : (v38.toInt - (v36.toInt + 1)) % 18446744073709551616 = 0 := by have q := c_ladd v36 (1 : Int64); rw [hv38] at q; exact q
    have r := rng64 v38
    omega
  refine Gl.ladd Y1 hv38 dA_38 rfl ?_
  refine Gl.lstoreN Y1 (L' := #[.val (.ref a), .val (.int dg), .val (.long v38), .second]) rfl dA_39 rfl ?_
  refine Gl.aloadN Y1 rfl rfl dA_40 rfl ?_
  refine Gl.lloadN Y1 rfl dA_41 rfl ?_
  refine Gl.ldcJ Y1 (tw_12 hw) dA_42 rfl ?_
  obtain ⟨v45, hv45⟩ : ∃ z : Int64, v38 + (64 : Int64) = z := ⟨_, rfl⟩
  have iv45 : v45.toInt = v38.toInt + 64 := by
    have q : (v45.toInt - (v38.toInt + 64)) % 18446744073709551616 = 0 := by have q := c_ladd v38 (64 : Int64); rw [hv45] at q; exact q
    have r := rng64 v45
    omega
  refine Gl.ladd Y1 hv45 dA_45 rfl ?_
  refine Gl.lconst Y1 (v := (1 : Int64)) (by decide) dA_46 rfl ?_
  obtain ⟨v47, hv47⟩ : ∃ z : Int64, v45 - (1 : Int64) = z := ⟨_, rfl⟩
  have iv47 : v47.toInt = v45.toInt - 1 := by
    have q : (v47.toInt - (v45.toInt - 1)) % 18446744073709551616 = 0 := by have q := c_lsub v45 (1 : Int64); rw [hv47] at q; exact q
    have r := rng64 v47
    omega
  refine Gl.lsub Y1 hv47 dA_47 rfl ?_
  refine Gl.ldcJ Y1 (tw_12 hw) dA_48 rfl ?_
  obtain ⟨v51, hv51⟩ : ∃ z : Int64, v47 / (64 : Int64) = z := ⟨_, rfl⟩
  have iv51 : v51.toInt = v47.toInt / 64 := by have q := (c_ldiv v47 (64 : Int64) 64 (by decide) (by decide)).1 (by omega); rw [hv51] at q; exact q
  refine Gl.ldiv Y1 (by decide) hv51 dA_51 rfl ?_
  obtain ⟨v52, hv52⟩ : ∃ z : Int32, v51.toInt32 = z := ⟨_, rfl⟩
  have iv52 : v52.toInt = v51.toInt := by
    have q : (v52.toInt - v51.toInt) % 4294967296 = 0 := by have q := c_l2i v51; rw [hv52] at q; exact q
    have r := rng32 v52
    omega
  refine Gl.l2i Y1 hv52 dA_52 rfl ?_
  obtain rfl : v52 = (1 : Int32) := Int32.toInt_inj.mp (by simp only [Int32.reduceToInt]; omega)
  refine Gl.newP Y1 1 (ty := .long) rfl (tw_13 hw) (by decide) (by decide) (Nat.le_of_ble_eq_true rfl) (Nat.le_of_ble_eq_true rfl) (Nat.le_of_ble_eq_true rfl) dA_53 rfl (fun T53 h53 b53 ck53 Y53 E53 g53 sb53 V53 => ?_)
  have V53 : Arv Z h53 b53 ck53 .long (1 : Int32) [(.long 0)] (.long 0) := V53.pad (pad_rep [] (.long 0) 1)
  have zb53 : h0.size ≤ b53 := Nat.le_trans (Keep.refl h0 [a]).1 (Nat.le_of_eq g53.symm)
  have K53 : Keep h0 h53 [a] := (Keep.refl h0 [a]).ext E53
  show Gl p e below _ (T53.setTop (mkF m 55 _ [(.ref b53), (.ref a)]))
  have f1 := (Fld.ext E53 F_words)
  have f2 := (Exa.ext E53 E)
  refine Gl.putF Y53 (host := "") (Or.inl (tw_14 hw)) Via.refl f1 f2 (Or.inr ⟨(tw_15 hw), rfl, hnm⟩) (tw_1 hw) ga (ty := (.array .long)) (by decide) rfl rfl dA_55 rfl (fun T55 h55 Y55 W55 => ?_)
  have f3 : Fld Z h55 a "com/example/meterwise/meterwise/model/WholeNumber" "words" "[J" (.ref b53) := Fld.same W55 f1
  have K55 : Keep h0 h55 [a] := K53.wr W55 (Or.inl (List.mem_of_getElem? (i := 0) rfl))
  have f4 := (Exa.wr W55 f2)
  have f5 := (V53.other W55 (Ne.symm (Nat.ne_of_lt (Nat.lt_of_lt_of_eq E.lt g53.symm))))
  exact Gl.retV Y55 (by decide) (by decide)  dA_58 ⟨b53, ck53, rfl, K55, zb53, f4, (by first | exact f3 | (subst_vars; exact f3) | (rw [PF]; exact f3)), f5⟩
def R1 : Room := { frames := 1, cells := 1, slots := 2, locals := 12 }
def Q1 (Z : State) (a : Addr) (dg : Int32) (h0 : Heap) (v : Option Value) (h : Heap) : Prop := ∃ wa : Addr, ∃ ck : ClassId, v = none ∧ Keep h0 h [a] ∧ h0.size ≤ wa ∧ Exa Z h a "com/example/meterwise/meterwise/model/WholeNumber" ∧ Fld Z h a "com/example/meterwise/meterwise/model/WholeNumber" "words" "[J" (.ref wa) ∧ Arv Z h wa ck .long (2 : Int32) [(.long 0), (.long 0)] (.long 0)
theorem ef1 (a : Addr) (dg : Int32) (m : MethodId) : entryFrame m #[(.ref a), (.int dg)] 4 = mkF m 0 #[.val (.ref a), .val (.int dg), .unset, .unset] [] := by first | (simp [entryFrame, mkF, argsToLocals, Value.category]; done) | rfl
theorem rm1 (l : Launch) (Z : State) (a0 : Array Value) (hw : HW a0 Z) (ws : List Jvm.Cond) (a : Addr) (dg : Int32) (h0 : Heap) (n0 : Nat) (Z0 : n0 ≤ h0.size) (E : Exa Z h0 a "com/example/meterwise/meterwise/model/WholeNumber") (F_words : Fld Z h0 a "com/example/meterwise/meterwise/model/WholeNumber" "words" "[J" .null) (ga : n0 ≤ a) (h1 : 19 ≤ dg.toInt) (h2 : dg.toInt ≤ 38) : OMet l Z ws (⟨"com/example/meterwise/meterwise/model/WholeNumber", "<init>", "(I)V"⟩ : MethodName) prog_137_method_1_code 4 none R1 #[(.ref a), (.int dg)] h0 n0 (Q1 Z a dg h0) := by
  refine OMet.of (own := "com/example/meterwise/meterwise/model/WholeNumber") rfl (plainFor_of_name pn_0) (ef1 a dg) Z0 ?_
  intro p e s m below meth c T0 Y0 hnm
  have ndg := rng32 dg
  refine Gl.aloadN Y0 rfl rfl dA_0 rfl ?_
  refine Gl.initO Y0 (tw_6 hw) (tw_7 hw) (tw_8 hw) rfl (by decide) (Nat.le_of_ble_eq_true rfl) dA_1 rfl (fun T1 Y1 => ?_)
  refine Gl.iloadN Y1 rfl dA_4 rfl ?_
  refine Gl.iconst Y1 (v := (1 : Int32)) (by decide) dA_5 rfl ?_
  refine Gl.icmpge Y1 dA_6 (by decide) rfl rfl (fun c6 => ?_) (fun c6 => ?_)
  rotate_left
  · exfalso; have j6 : dg.toInt < 1 := Int32.lt_iff_toInt_lt.mp c6; omega
  have j6 : ¬ (dg.toInt < 1) := fun q => c6 (Int32.lt_iff_toInt_lt.mpr q)
  refine Gl.iloadN Y1 rfl dA_23 rfl ?_
  obtain ⟨v24, hv24⟩ : ∃ z : Int64, dg.toInt64 = z := ⟨_, rfl⟩
  have iv24 : v24.toInt = dg.toInt := by have q := c_i2l dg; rw [hv24] at q; exact q
  refine Gl.i2l Y1 hv24 dA_24 rfl ?_
  refine Gl.ldcJ Y1 (tw_9 hw) dA_25 rfl ?_
  obtain ⟨v28, hv28⟩ : ∃ z : Int64, v24 * (3322 : Int64) = z := ⟨_, rfl⟩
  have iv28 : v28.toInt = v24.toInt * 3322 := by
    have q : (v28.toInt - (v24.toInt * 3322)) % 18446744073709551616 = 0 := by have q := c_lmul v24 (3322 : Int64); rw [hv28] at q; exact q
    have r := rng64 v28
    omega
  refine Gl.lmul Y1 hv28 dA_28 rfl ?_
  refine Gl.ldcJ Y1 (tw_10 hw) dA_29 rfl ?_
  obtain ⟨v32, hv32⟩ : ∃ z : Int64, v28 + (999 : Int64) = z := ⟨_, rfl⟩
  have iv32 : v32.toInt = v28.toInt + 999 := by
    have q : (v32.toInt - (v28.toInt + 999)) % 18446744073709551616 = 0 := by have q := c_ladd v28 (999 : Int64); rw [hv32] at q; exact q
    have r := rng64 v32
    omega
  refine Gl.ladd Y1 hv32 dA_32 rfl ?_
  refine Gl.ldcJ Y1 (tw_11 hw) dA_33 rfl ?_
  obtain ⟨v36, hv36⟩ : ∃ z : Int64, v32 / (1000 : Int64) = z := ⟨_, rfl⟩
  have iv36 : v36.toInt = v32.toInt / 1000 := by have q := (c_ldiv v32 (1000 : Int64) 1000 (by decide) (by decide)).1 (by omega); rw [hv36] at q; exact q
  refine Gl.ldiv Y1 (by decide) hv36 dA_36 rfl ?_
  refine Gl.lconst Y1 (v := (1 : Int64)) (by decide) dA_37 rfl ?_
  obtain ⟨v38, hv38⟩ : ∃ z : Int64, v36 + (1 : Int64) = z := ⟨_, rfl⟩
  have iv38 : v38.toInt = v36.toInt + 1 := by
    have q : (v38.toInt - (v36.toInt + 1)) % 18446744073709551616 = 0 := by have q := c_ladd v36 (1 : Int64); rw [hv38] at q; exact q
    have r := rng64 v38
    omega
  refine Gl.ladd Y1 hv38 dA_38 rfl ?_
  refine Gl.lstoreN Y1 (L' := #[.val (.ref a), .val (.int dg), .val (.long v38), .second]) rfl dA_39 rfl ?_
  refine Gl.aloadN Y1 rfl rfl dA_40 rfl ?_
  refine Gl.lloadN Y1 rfl dA_41 rfl ?_
  refine Gl.ldcJ Y1 (tw_12 hw) dA_42 rfl ?_
  obtain ⟨v45, hv45⟩ : ∃ z : Int64, v38 + (64 : Int64) = z := ⟨_, rfl⟩
  have iv45 : v45.toInt = v38.toInt + 64 := by
    have q : (v45.toInt - (v38.toInt + 64)) % 18446744073709551616 = 0 := by have q := c_ladd v38 (64 : Int64); rw [hv45] at q; exact q
    have r := rng64 v45
    omega
  refine Gl.ladd Y1 hv45 dA_45 rfl ?_
  refine Gl.lconst Y1 (v := (1 : Int64)) (by decide) dA_46 rfl ?_
  obtain ⟨v47, hv47⟩ : ∃ z : Int64, v45 - (1 : Int64) = z := ⟨_, rfl⟩
  have iv47 : v47.toInt = v45.toInt - 1 := by
    have q : (v47.toInt - (v45.toInt - 1)) % 18446744073709551616 = 0 := by have q := c_lsub v45 (1 : Int64); rw [hv47] at q; exact q
    have r := rng64 v47
    omega
  refine Gl.lsub Y1 hv47 dA_47 rfl ?_
  refine Gl.ldcJ Y1 (tw_12 hw) dA_48 rfl ?_
  obtain ⟨v51, hv51⟩ : ∃ z : Int64, v47 / (64 : Int64) = z := ⟨_, rfl⟩
  have iv51 : v51.toInt = v47.toInt / 64 := by have q := (c_ldiv v47 (64 : Int64) 64 (by decide) (by decide)).1 (by omega); rw [hv51] at q; exact q
  refine Gl.ldiv Y1 (by decide) hv51 dA_51 rfl ?_
  obtain ⟨v52, hv52⟩ : ∃ z : Int32, v51.toInt32 = z := ⟨_, rfl⟩
  have iv52 : v52.toInt = v51.toInt := by
    have q : (v52.toInt - v51.toInt) % 4294967296 = 0 := by have q := c_l2i v51; rw [hv52] at q; exact q
    have r := rng32 v52
    omega
  refine Gl.l2i Y1 hv52 dA_52 rfl ?_
  obtain rfl : v52 = (2 : Int32) := Int32.toInt_inj.mp (by simp only [Int32.reduceToInt]; omega)
  refine Gl.newP Y1 2 (ty := .long) rfl (tw_13 hw) (by decide) (by decide) (Nat.le_of_ble_eq_true rfl) (Nat.le_of_ble_eq_true rfl) (Nat.le_of_ble_eq_true rfl) dA_53 rfl (fun T53 h53 b53 ck53 Y53 E53 g53 sb53 V53 => ?_)
  have V53 : Arv Z h53 b53 ck53 .long (2 : Int32) [(.long 0), (.long 0)] (.long 0) := V53.pad (pad_rep [] (.long 0) 2)
  have zb53 : h0.size ≤ b53 := Nat.le_trans (Keep.refl h0 [a]).1 (Nat.le_of_eq g53.symm)
  have K53 : Keep h0 h53 [a] := (Keep.refl h0 [a]).ext E53
  show Gl p e below _ (T53.setTop (mkF m 55 _ [(.ref b53), (.ref a)]))
  have f1 := (Fld.ext E53 F_words)
  have f2 := (Exa.ext E53 E)
  refine Gl.putF Y53 (host := "") (Or.inl (tw_14 hw)) Via.refl f1 f2 (Or.inr ⟨(tw_15 hw), rfl, hnm⟩) (tw_1 hw) ga (ty := (.array .long)) (by decide) rfl rfl dA_55 rfl (fun T55 h55 Y55 W55 => ?_)
  have f3 : Fld Z h55 a "com/example/meterwise/meterwise/model/WholeNumber" "words" "[J" (.ref b53) := Fld.same W55 f1
  have K55 : Keep h0 h55 [a] := K53.wr W55 (Or.inl (List.mem_of_getElem? (i := 0) rfl))
  have f4 := (Exa.wr W55 f2)
  have f5 := (V53.other W55 (Ne.symm (Nat.ne_of_lt (Nat.lt_of_lt_of_eq E.lt g53.symm))))
  exact Gl.retV Y55 (by decide) (by decide)  dA_58 ⟨b53, ck53, rfl, K55, zb53, f4, (by first | exact f3 | (subst_vars; exact f3) | (rw [PF]; exact f3)), f5⟩
def R2 : Room := { frames := 1, cells := 1, slots := 3, locals := 12 }
def Q2 (Z : State) (a : Addr) (dg : Int32) (h0 : Heap) (v : Option Value) (h : Heap) : Prop := ∃ wa : Addr, ∃ ck : ClassId, v = none ∧ Keep h0 h [a] ∧ h0.size ≤ wa ∧ Exa Z h a "com/example/meterwise/meterwise/model/WholeNumber" ∧ Fld Z h a "com/example/meterwise/meterwise/model/WholeNumber" "words" "[J" (.ref wa) ∧ Arv Z h wa ck .long (3 : Int32) [(.long 0), (.long 0), (.long 0)] (.long 0)
theorem ef2 (a : Addr) (dg : Int32) (m : MethodId) : entryFrame m #[(.ref a), (.int dg)] 4 = mkF m 0 #[.val (.ref a), .val (.int dg), .unset, .unset] [] := by first | (simp [entryFrame, mkF, argsToLocals, Value.category]; done) | rfl
theorem rm2 (l : Launch) (Z : State) (a0 : Array Value) (hw : HW a0 Z) (ws : List Jvm.Cond) (a : Addr) (dg : Int32) (h0 : Heap) (n0 : Nat) (Z0 : n0 ≤ h0.size) (E : Exa Z h0 a "com/example/meterwise/meterwise/model/WholeNumber") (F_words : Fld Z h0 a "com/example/meterwise/meterwise/model/WholeNumber" "words" "[J" .null) (ga : n0 ≤ a) (h1 : 39 ≤ dg.toInt) (h2 : dg.toInt ≤ 57) : OMet l Z ws (⟨"com/example/meterwise/meterwise/model/WholeNumber", "<init>", "(I)V"⟩ : MethodName) prog_137_method_1_code 4 none R2 #[(.ref a), (.int dg)] h0 n0 (Q2 Z a dg h0) := by
  refine OMet.of (own := "com/example/meterwise/meterwise/model/WholeNumber") rfl (plainFor_of_name pn_0) (ef2 a dg) Z0 ?_
  intro p e s m below meth c T0 Y0 hnm
  have ndg := rng32 dg
  refine Gl.aloadN Y0 rfl rfl dA_0 rfl ?_
  refine Gl.initO Y0 (tw_6 hw) (tw_7 hw) (tw_8 hw) rfl (by decide) (Nat.le_of_ble_eq_true rfl) dA_1 rfl (fun T1 Y1 => ?_)
  refine Gl.iloadN Y1 rfl dA_4 rfl ?_
  refine Gl.iconst Y1 (v := (1 : Int32)) (by decide) dA_5 rfl ?_
  refine Gl.icmpge Y1 dA_6 (by decide) rfl rfl (fun c6 => ?_) (fun c6 => ?_)
  rotate_left
  · exfalso; have j6 : dg.toInt < 1 := Int32.lt_iff_toInt_lt.mp c6; omega
  have j6 : ¬ (dg.toInt < 1) := fun q => c6 (Int32.lt_iff_toInt_lt.mpr q)
  refine Gl.iloadN Y1 rfl dA_23 rfl ?_
  obtain ⟨v24, hv24⟩ : ∃ z : Int64, dg.toInt64 = z := ⟨_, rfl⟩
  have iv24 : v24.toInt = dg.toInt := by have q := c_i2l dg; rw [hv24] at q; exact q
  refine Gl.i2l Y1 hv24 dA_24 rfl ?_
  refine Gl.ldcJ Y1 (tw_9 hw) dA_25 rfl ?_
  obtain ⟨v28, hv28⟩ : ∃ z : Int64, v24 * (3322 : Int64) = z := ⟨_, rfl⟩
  have iv28 : v28.toInt = v24.toInt * 3322 := by
    have q : (v28.toInt - (v24.toInt * 3322)) % 18446744073709551616 = 0 := by have q := c_lmul v24 (3322 : Int64); rw [hv28] at q; exact q
    have r := rng64 v28
    omega
  refine Gl.lmul Y1 hv28 dA_28 rfl ?_
  refine Gl.ldcJ Y1 (tw_10 hw) dA_29 rfl ?_
  obtain ⟨v32, hv32⟩ : ∃ z : Int64, v28 + (999 : Int64) = z := ⟨_, rfl⟩
  have iv32 : v32.toInt = v28.toInt + 999 := by
    have q : (v32.toInt - (v28.toInt + 999)) % 18446744073709551616 = 0 := by have q := c_ladd v28 (999 : Int64); rw [hv32] at q; exact q
    have r := rng64 v32
    omega
  refine Gl.ladd Y1 hv32 dA_32 rfl ?_
  refine Gl.ldcJ Y1 (tw_11 hw) dA_33 rfl ?_
  obtain ⟨v36, hv36⟩ : ∃ z : Int64, v32 / (1000 : Int64) = z := ⟨_, rfl⟩
  have iv36 : v36.toInt = v32.toInt / 1000 := by have q := (c_ldiv v32 (1000 : Int64) 1000 (by decide) (by decide)).1 (by omega); rw [hv36] at q; exact q
  refine Gl.ldiv Y1 (by decide) hv36 dA_36 rfl ?_
  refine Gl.lconst Y1 (v := (1 : Int64)) (by decide) dA_37 rfl ?_
  obtain ⟨v38, hv38⟩ : ∃ z : Int64, v36 + (1 : Int64) = z := ⟨_, rfl⟩
  have iv38 : v38.toInt = v36.toInt + 1 := by
    have q : (v38.toInt - (v36.toInt + 1)) % 18446744073709551616 = 0 := by have q := c_ladd v36 (1 : Int64); rw [hv38] at q; exact q
    have r := rng64 v38
    omega
  refine Gl.ladd Y1 hv38 dA_38 rfl ?_
  refine Gl.lstoreN Y1 (L' := #[.val (.ref a), .val (.int dg), .val (.long v38), .second]) rfl dA_39 rfl ?_
  refine Gl.aloadN Y1 rfl rfl dA_40 rfl ?_
  refine Gl.lloadN Y1 rfl dA_41 rfl ?_
  refine Gl.ldcJ Y1 (tw_12 hw) dA_42 rfl ?_
  obtain ⟨v45, hv45⟩ : ∃ z : Int64, v38 + (64 : Int64) = z := ⟨_, rfl⟩
  have iv45 : v45.toInt = v38.toInt + 64 := by
    have q : (v45.toInt - (v38.toInt + 64)) % 18446744073709551616 = 0 := by have q := c_ladd v38 (64 : Int64); rw [hv45] at q; exact q
    have r := rng64 v45
    omega
  refine Gl.ladd Y1 hv45 dA_45 rfl ?_
  refine Gl.lconst Y1 (v := (1 : Int64)) (by decide) dA_46 rfl ?_
  obtain ⟨v47, hv47⟩ : ∃ z : Int64, v45 - (1 : Int64) = z := ⟨_, rfl⟩
  have iv47 : v47.toInt = v45.toInt - 1 := by
    have q : (v47.toInt - (v45.toInt - 1)) % 18446744073709551616 = 0 := by have q := c_lsub v45 (1 : Int64); rw [hv47] at q; exact q
    have r := rng64 v47
    omega
  refine Gl.lsub Y1 hv47 dA_47 rfl ?_
  refine Gl.ldcJ Y1 (tw_12 hw) dA_48 rfl ?_
  obtain ⟨v51, hv51⟩ : ∃ z : Int64, v47 / (64 : Int64) = z := ⟨_, rfl⟩
  have iv51 : v51.toInt = v47.toInt / 64 := by have q := (c_ldiv v47 (64 : Int64) 64 (by decide) (by decide)).1 (by omega); rw [hv51] at q; exact q
  refine Gl.ldiv Y1 (by decide) hv51 dA_51 rfl ?_
  obtain ⟨v52, hv52⟩ : ∃ z : Int32, v51.toInt32 = z := ⟨_, rfl⟩
  have iv52 : v52.toInt = v51.toInt := by
    have q : (v52.toInt - v51.toInt) % 4294967296 = 0 := by have q := c_l2i v51; rw [hv52] at q; exact q
    have r := rng32 v52
    omega
  refine Gl.l2i Y1 hv52 dA_52 rfl ?_
  obtain rfl : v52 = (3 : Int32) := Int32.toInt_inj.mp (by simp only [Int32.reduceToInt]; omega)
  refine Gl.newP Y1 3 (ty := .long) rfl (tw_13 hw) (by decide) (by decide) (Nat.le_of_ble_eq_true rfl) (Nat.le_of_ble_eq_true rfl) (Nat.le_of_ble_eq_true rfl) dA_53 rfl (fun T53 h53 b53 ck53 Y53 E53 g53 sb53 V53 => ?_)
  have V53 : Arv Z h53 b53 ck53 .long (3 : Int32) [(.long 0), (.long 0), (.long 0)] (.long 0) := V53.pad (pad_rep [] (.long 0) 3)
  have zb53 : h0.size ≤ b53 := Nat.le_trans (Keep.refl h0 [a]).1 (Nat.le_of_eq g53.symm)
  have K53 : Keep h0 h53 [a] := (Keep.refl h0 [a]).ext E53
  show Gl p e below _ (T53.setTop (mkF m 55 _ [(.ref b53), (.ref a)]))
  have f1 := (Fld.ext E53 F_words)
  have f2 := (Exa.ext E53 E)
  refine Gl.putF Y53 (host := "") (Or.inl (tw_14 hw)) Via.refl f1 f2 (Or.inr ⟨(tw_15 hw), rfl, hnm⟩) (tw_1 hw) ga (ty := (.array .long)) (by decide) rfl rfl dA_55 rfl (fun T55 h55 Y55 W55 => ?_)
  have f3 : Fld Z h55 a "com/example/meterwise/meterwise/model/WholeNumber" "words" "[J" (.ref b53) := Fld.same W55 f1
  have K55 : Keep h0 h55 [a] := K53.wr W55 (Or.inl (List.mem_of_getElem? (i := 0) rfl))
  have f4 := (Exa.wr W55 f2)
  have f5 := (V53.other W55 (Ne.symm (Nat.ne_of_lt (Nat.lt_of_lt_of_eq E.lt g53.symm))))
  exact Gl.retV Y55 (by decide) (by decide)  dA_58 ⟨b53, ck53, rfl, K55, zb53, f4, (by first | exact f3 | (subst_vars; exact f3) | (rw [PF]; exact f3)), f5⟩
def R3 : Room := { frames := 1, cells := 1, slots := 4, locals := 12 }
def Q3 (Z : State) (a : Addr) (dg : Int32) (h0 : Heap) (v : Option Value) (h : Heap) : Prop := ∃ wa : Addr, ∃ ck : ClassId, v = none ∧ Keep h0 h [a] ∧ h0.size ≤ wa ∧ Exa Z h a "com/example/meterwise/meterwise/model/WholeNumber" ∧ Fld Z h a "com/example/meterwise/meterwise/model/WholeNumber" "words" "[J" (.ref wa) ∧ Arv Z h wa ck .long (4 : Int32) [(.long 0), (.long 0), (.long 0), (.long 0)] (.long 0)
theorem ef3 (a : Addr) (dg : Int32) (m : MethodId) : entryFrame m #[(.ref a), (.int dg)] 4 = mkF m 0 #[.val (.ref a), .val (.int dg), .unset, .unset] [] := by first | (simp [entryFrame, mkF, argsToLocals, Value.category]; done) | rfl
theorem rm3 (l : Launch) (Z : State) (a0 : Array Value) (hw : HW a0 Z) (ws : List Jvm.Cond) (a : Addr) (dg : Int32) (h0 : Heap) (n0 : Nat) (Z0 : n0 ≤ h0.size) (E : Exa Z h0 a "com/example/meterwise/meterwise/model/WholeNumber") (F_words : Fld Z h0 a "com/example/meterwise/meterwise/model/WholeNumber" "words" "[J" .null) (ga : n0 ≤ a) (h1 : 58 ≤ dg.toInt) (h2 : dg.toInt ≤ 64) : OMet l Z ws (⟨"com/example/meterwise/meterwise/model/WholeNumber", "<init>", "(I)V"⟩ : MethodName) prog_137_method_1_code 4 none R3 #[(.ref a), (.int dg)] h0 n0 (Q3 Z a dg h0) := by
  refine OMet.of (own := "com/example/meterwise/meterwise/model/WholeNumber") rfl (plainFor_of_name pn_0) (ef3 a dg) Z0 ?_
  intro p e s m below meth c T0 Y0 hnm
  have ndg := rng32 dg
  refine Gl.aloadN Y0 rfl rfl dA_0 rfl ?_
  refine Gl.initO Y0 (tw_6 hw) (tw_7 hw) (tw_8 hw) rfl (by decide) (Nat.le_of_ble_eq_true rfl) dA_1 rfl (fun T1 Y1 => ?_)
  refine Gl.iloadN Y1 rfl dA_4 rfl ?_
  refine Gl.iconst Y1 (v := (1 : Int32)) (by decide) dA_5 rfl ?_
  refine Gl.icmpge Y1 dA_6 (by decide) rfl rfl (fun c6 => ?_) (fun c6 => ?_)
  rotate_left
  · exfalso; have j6 : dg.toInt < 1 := Int32.lt_iff_toInt_lt.mp c6; omega
  have j6 : ¬ (dg.toInt < 1) := fun q => c6 (Int32.lt_iff_toInt_lt.mpr q)
  refine Gl.iloadN Y1 rfl dA_23 rfl ?_
  obtain ⟨v24, hv24⟩ : ∃ z : Int64, dg.toInt64 = z := ⟨_, rfl⟩
  have iv24 : v24.toInt = dg.toInt := by have q := c_i2l dg; rw [hv24] at q; exact q
  refine Gl.i2l Y1 hv24 dA_24 rfl ?_
  refine Gl.ldcJ Y1 (tw_9 hw) dA_25 rfl ?_
  obtain ⟨v28, hv28⟩ : ∃ z : Int64, v24 * (3322 : Int64) = z := ⟨_, rfl⟩
  have iv28 : v28.toInt = v24.toInt * 3322 := by
    have q : (v28.toInt - (v24.toInt * 3322)) % 18446744073709551616 = 0 := by have q := c_lmul v24 (3322 : Int64); rw [hv28] at q; exact q
    have r := rng64 v28
    omega
  refine Gl.lmul Y1 hv28 dA_28 rfl ?_
  refine Gl.ldcJ Y1 (tw_10 hw) dA_29 rfl ?_
  obtain ⟨v32, hv32⟩ : ∃ z : Int64, v28 + (999 : Int64) = z := ⟨_, rfl⟩
  have iv32 : v32.toInt = v28.toInt + 999 := by
    have q : (v32.toInt - (v28.toInt + 999)) % 18446744073709551616 = 0 := by have q := c_ladd v28 (999 : Int64); rw [hv32] at q; exact q
    have r := rng64 v32
    omega
  refine Gl.ladd Y1 hv32 dA_32 rfl ?_
  refine Gl.ldcJ Y1 (tw_11 hw) dA_33 rfl ?_
  obtain ⟨v36, hv36⟩ : ∃ z : Int64, v32 / (1000 : Int64) = z := ⟨_, rfl⟩
  have iv36 : v36.toInt = v32.toInt / 1000 := by have q := (c_ldiv v32 (1000 : Int64) 1000 (by decide) (by decide)).1 (by omega); rw [hv36] at q; exact q
  refine Gl.ldiv Y1 (by decide) hv36 dA_36 rfl ?_
  refine Gl.lconst Y1 (v := (1 : Int64)) (by decide) dA_37 rfl ?_
  obtain ⟨v38, hv38⟩ : ∃ z : Int64, v36 + (1 : Int64) = z := ⟨_, rfl⟩
  have iv38 : v38.toInt = v36.toInt + 1 := by
    have q : (v38.toInt - (v36.toInt + 1)) % 18446744073709551616 = 0 := by have q := c_ladd v36 (1 : Int64); rw [hv38] at q; exact q
    have r := rng64 v38
    omega
  refine Gl.ladd Y1 hv38 dA_38 rfl ?_
  refine Gl.lstoreN Y1 (L' := #[.val (.ref a), .val (.int dg), .val (.long v38), .second]) rfl dA_39 rfl ?_
  refine Gl.aloadN Y1 rfl rfl dA_40 rfl ?_
  refine Gl.lloadN Y1 rfl dA_41 rfl ?_
  refine Gl.ldcJ Y1 (tw_12 hw) dA_42 rfl ?_
  obtain ⟨v45, hv45⟩ : ∃ z : Int64, v38 + (64 : Int64) = z := ⟨_, rfl⟩
  have iv45 : v45.toInt = v38.toInt + 64 := by
    have q : (v45.toInt - (v38.toInt + 64)) % 18446744073709551616 = 0 := by have q := c_ladd v38 (64 : Int64); rw [hv45] at q; exact q
    have r := rng64 v45
    omega
  refine Gl.ladd Y1 hv45 dA_45 rfl ?_
  refine Gl.lconst Y1 (v := (1 : Int64)) (by decide) dA_46 rfl ?_
  obtain ⟨v47, hv47⟩ : ∃ z : Int64, v45 - (1 : Int64) = z := ⟨_, rfl⟩
  have iv47 : v47.toInt = v45.toInt - 1 := by
    have q : (v47.toInt - (v45.toInt - 1)) % 18446744073709551616 = 0 := by have q := c_lsub v45 (1 : Int64); rw [hv47] at q; exact q
    have r := rng64 v47
    omega
  refine Gl.lsub Y1 hv47 dA_47 rfl ?_
  refine Gl.ldcJ Y1 (tw_12 hw) dA_48 rfl ?_
  obtain ⟨v51, hv51⟩ : ∃ z : Int64, v47 / (64 : Int64) = z := ⟨_, rfl⟩
  have iv51 : v51.toInt = v47.toInt / 64 := by have q := (c_ldiv v47 (64 : Int64) 64 (by decide) (by decide)).1 (by omega); rw [hv51] at q; exact q
  refine Gl.ldiv Y1 (by decide) hv51 dA_51 rfl ?_
  obtain ⟨v52, hv52⟩ : ∃ z : Int32, v51.toInt32 = z := ⟨_, rfl⟩
  have iv52 : v52.toInt = v51.toInt := by
    have q : (v52.toInt - v51.toInt) % 4294967296 = 0 := by have q := c_l2i v51; rw [hv52] at q; exact q
    have r := rng32 v52
    omega
  refine Gl.l2i Y1 hv52 dA_52 rfl ?_
  obtain rfl : v52 = (4 : Int32) := Int32.toInt_inj.mp (by simp only [Int32.reduceToInt]; omega)
  refine Gl.newP Y1 4 (ty := .long) rfl (tw_13 hw) (by decide) (by decide) (Nat.le_of_ble_eq_true rfl) (Nat.le_of_ble_eq_true rfl) (Nat.le_of_ble_eq_true rfl) dA_53 rfl (fun T53 h53 b53 ck53 Y53 E53 g53 sb53 V53 => ?_)
  have V53 : Arv Z h53 b53 ck53 .long (4 : Int32) [(.long 0), (.long 0), (.long 0), (.long 0)] (.long 0) := V53.pad (pad_rep [] (.long 0) 4)
  have zb53 : h0.size ≤ b53 := Nat.le_trans (Keep.refl h0 [a]).1 (Nat.le_of_eq g53.symm)
  have K53 : Keep h0 h53 [a] := (Keep.refl h0 [a]).ext E53
  show Gl p e below _ (T53.setTop (mkF m 55 _ [(.ref b53), (.ref a)]))
  have f1 := (Fld.ext E53 F_words)
  have f2 := (Exa.ext E53 E)
  refine Gl.putF Y53 (host := "") (Or.inl (tw_14 hw)) Via.refl f1 f2 (Or.inr ⟨(tw_15 hw), rfl, hnm⟩) (tw_1 hw) ga (ty := (.array .long)) (by decide) rfl rfl dA_55 rfl (fun T55 h55 Y55 W55 => ?_)
  have f3 : Fld Z h55 a "com/example/meterwise/meterwise/model/WholeNumber" "words" "[J" (.ref b53) := Fld.same W55 f1
  have K55 : Keep h0 h55 [a] := K53.wr W55 (Or.inl (List.mem_of_getElem? (i := 0) rfl))
  have f4 := (Exa.wr W55 f2)
  have f5 := (V53.other W55 (Ne.symm (Nat.ne_of_lt (Nat.lt_of_lt_of_eq E.lt g53.symm))))
  exact Gl.retV Y55 (by decide) (by decide)  dA_58 ⟨b53, ck53, rfl, K55, zb53, f4, (by first | exact f3 | (subst_vars; exact f3) | (rw [PF]; exact f3)), f5⟩
theorem dB_0 : decode prog_137_method_31_code 0 = .ok (.aload_n 0, 1) := by decide +kernel
theorem dB_1 : decode prog_137_method_31_code 1 = .ok (.getfield 26, 3) := by decide +kernel
theorem dB_4 : decode prog_137_method_31_code 4 = .ok (.aload_n 0, 1) := by decide +kernel
theorem dB_5 : decode prog_137_method_31_code 5 = .ok (.getfield 26, 3) := by decide +kernel
theorem dB_8 : decode prog_137_method_31_code 8 = .ok (.arraylength, 1) := by decide +kernel
theorem dB_9 : decode prog_137_method_31_code 9 = .ok (.iconst 1, 1) := by decide +kernel
theorem dB_10 : decode prog_137_method_31_code 10 = .ok (.isub, 1) := by decide +kernel
theorem dB_11 : decode prog_137_method_31_code 11 = .ok (.laload, 1) := by decide +kernel
theorem dB_12 : decode prog_137_method_31_code 12 = .ok (.lreturn, 1) := by decide +kernel
def R4 : Room := { frames := 0, cells := 0, slots := 0, locals := 0 }
def Q4 (Z : State) (o : Addr) (wo : Addr) (ko : ClassId) (x0 : Int64) (h0 : Heap) (v : Option Value) (h : Heap) : Prop := v = some (.long x0) ∧ h0 = h
theorem ef4 (o : Addr) (m : MethodId) : entryFrame m #[(.ref o)] 1 = mkF m 0 #[.val (.ref o)] [] := by first | (simp [entryFrame, mkF, argsToLocals, Value.category]; done) | rfl
theorem rm4 (l : Launch) (Z : State) (a0 : Array Value) (hw : HW a0 Z) (ws : List Jvm.Cond) (o : Addr) (wo : Addr) (ko : ClassId) (x0 : Int64) (h0 : Heap) (n0 : Nat) (Z0 : n0 ≤ h0.size) (E_o : Exa Z h0 o "com/example/meterwise/meterwise/model/WholeNumber") (F_o : Fld Z h0 o "com/example/meterwise/meterwise/model/WholeNumber" "words" "[J" (.ref wo)) (V_o : Arv Z h0 wo ko .long (1 : Int32) [(.long x0)] (.long 0)) : OMet l Z ws (⟨"com/example/meterwise/meterwise/model/WholeNumber", "top", "()J"⟩ : MethodName) prog_137_method_31_code 1 (some .long) R4 #[(.ref o)] h0 n0 (Q4 Z o wo ko x0 h0) := by
  refine OMet.of (own := "com/example/meterwise/meterwise/model/WholeNumber") rfl (plainFor_of_name pn_0) (ef4 o) Z0 ?_
  intro p e s m below meth c T0 Y0 hnm
  refine Gl.aloadN Y0 rfl rfl dB_0 rfl ?_
  refine Gl.getF Y0 (host := "") (Or.inl (tw_14 hw)) Via.refl F_o dB_1 rfl (fun T1 Y1 => ?_)
  refine Gl.aloadN Y1 rfl rfl dB_4 rfl ?_
  refine Gl.getF Y1 (host := "") (Or.inl (tw_14 hw)) Via.refl F_o dB_5 rfl (fun T5 Y5 => ?_)
  refine Gl.arraylength Y5 V_o dB_8 rfl ?_
  refine Gl.iconst Y5 (v := (1 : Int32)) (by decide) dB_9 rfl ?_
  refine Gl.isub Y5 (r := (0 : Int32)) (by decide) dB_10 rfl ?_
  refine Gl.laload Y5 V_o ⟨by decide, by decide⟩ (v := (.long x0)) rfl dB_11 rfl ?_
  exact Gl.retJ Y5 (by decide) (by decide)  dB_12 ⟨rfl, rfl⟩
theorem dC_0 : decode jdk_65_method_101_code 0 = .ok (.iconst 0, 1) := by decide +kernel
theorem dC_1 : decode jdk_65_method_101_code 1 = .ok (.istore_n 3, 1) := by decide +kernel
theorem dC_2 : decode jdk_65_method_101_code 2 = .ok (.aload_n 0, 1) := by decide +kernel
theorem dC_3 : decode jdk_65_method_101_code 3 = .ok (.arraylength, 1) := by decide +kernel
theorem dC_4 : decode jdk_65_method_101_code 4 = .ok (.istore 4, 2) := by decide +kernel
theorem dC_6 : decode jdk_65_method_101_code 6 = .ok (.iload_n 3, 1) := by decide +kernel
theorem dC_7 : decode jdk_65_method_101_code 7 = .ok (.iload 4, 2) := by decide +kernel
theorem dC_9 : decode jdk_65_method_101_code 9 = .ok (.if_icmp .ge 13, 3) := by decide +kernel
theorem dC_12 : decode jdk_65_method_101_code 12 = .ok (.aload_n 0, 1) := by decide +kernel
theorem dC_13 : decode jdk_65_method_101_code 13 = .ok (.iload_n 3, 1) := by decide +kernel
theorem dC_14 : decode jdk_65_method_101_code 14 = .ok (.lload_n 1, 1) := by decide +kernel
theorem dC_15 : decode jdk_65_method_101_code 15 = .ok (.lastore, 1) := by decide +kernel
theorem dC_16 : decode jdk_65_method_101_code 16 = .ok (.iinc 3 1, 3) := by decide +kernel
theorem dC_19 : decode jdk_65_method_101_code 19 = .ok (.goto (-13), 3) := by decide +kernel
theorem dC_22 : decode jdk_65_method_101_code 22 = .ok (.return_, 1) := by decide +kernel
def R5 : Room := { frames := 0, cells := 0, slots := 0, locals := 0 }
def Q5 (Z : State) (a : Addr) (ka : ClassId) (x0 : Int64) (h0 : Heap) (v : Option Value) (h : Heap) : Prop := v = none ∧ Keep h0 h [a] ∧ Arv Z h a ka .long (1 : Int32) [(.long 0)] (.long 0)
theorem ef5 (a : Addr) (m : MethodId) : entryFrame m #[(.ref a), (.long 0)] 5 = mkF m 0 #[.val (.ref a), .val (.long 0), .second, .unset, .unset] [] := by first | (simp [entryFrame, mkF, argsToLocals, Value.category]; done) | rfl
theorem pn_1 : plainName "java/util/Arrays" = true := by first | (simp [plainName, overriddenIn]; done) | decide +kernel
theorem rm5 (l : Launch) (Z : State) (a0 : Array Value) (hw : HW a0 Z) (ws : List Jvm.Cond) (a : Addr) (ka : ClassId) (x0 : Int64) (h0 : Heap) (n0 : Nat) (Z0 : n0 ≤ h0.size) (V : Arv Z h0 a ka .long (1 : Int32) [(.long x0)] (.long 0)) (ga : n0 ≤ a) : OMet l Z ws (⟨"java/util/Arrays", "fill", "([JJ)V"⟩ : MethodName) jdk_65_method_101_code 5 none R5 #[(.ref a), (.long 0)] h0 n0 (Q5 Z a ka x0 h0) := by
  refine OMet.of (own := "java/util/Arrays") rfl (plainFor_of_name pn_1) (ef5 a) Z0 ?_
  intro p e s m below meth c T0 Y0 hnm
  refine Gl.iconst Y0 (v := (0 : Int32)) (by decide) dC_0 rfl ?_
  refine Gl.istoreN Y0 (L' := #[.val (.ref a), .val (.long 0), .second, .val (.int 0), .unset]) rfl dC_1 rfl ?_
  refine Gl.aloadN Y0 rfl rfl dC_2 rfl ?_
  refine Gl.arraylength Y0 V dC_3 rfl ?_
  refine Gl.istore Y0 (L' := #[.val (.ref a), .val (.long 0), .second, .val (.int 0), .val (.int 1)]) rfl dC_4 rfl ?_
  refine Gl.iloadN Y0 rfl dC_6 rfl ?_
  refine Gl.iload Y0 rfl dC_7 rfl ?_
  refine Gl.icmpge Y0 dC_9 (by decide) rfl rfl (fun c9 => ?_) (fun c9 => ?_)
  · exact absurd c9 (by decide)
  refine Gl.aloadN Y0 rfl rfl dC_12 rfl ?_
  refine Gl.iloadN Y0 rfl dC_13 rfl ?_
  refine Gl.lloadN Y0 rfl dC_14 rfl ?_
  refine Gl.lastore Y0 V (v := (.long 0)) rfl ⟨by decide, by decide⟩ (ix := 0) rfl (Nat.le_of_ble_eq_true rfl) ga dC_15 rfl (fun T15 h15 Y15 W15 A15 => ?_)
  have A15 : Arv Z h15 a ka .long (1 : Int32) [(.long 0)] (.long 0) := A15
  have K15 : Keep h0 h15 [a] := (Keep.refl h0 [a]).wr W15 (Or.inl (List.mem_of_getElem? (i := 0) rfl))
  show Gl p e below _ (T15.setTop (mkF m 16 _ []))
  refine Gl.iinc Y15 rfl (r := (1 : Int32)) (by decide) (L' := #[.val (.ref a), .val (.long 0), .second, .val (.int 1), .val (.int 1)]) rfl dC_16 rfl ?_
  refine Gl.goto Y15 dC_19 (by decide) rfl ?_
  refine Gl.iloadN Y15 rfl dC_6 rfl ?_
  refine Gl.iload Y15 rfl dC_7 rfl ?_
  refine Gl.icmpge Y15 dC_9 (by decide) rfl rfl (fun c9_2 => ?_) (fun c9_2 => ?_)
  rotate_left
  · exact absurd c9_2 (by decide)
  exact Gl.retV Y15 (by decide) (by decide)  dC_22 ⟨rfl, K15, A15⟩
theorem dD_0 : decode jdk_65_method_30_code 0 = .ok (.iload_n 1, 1) := by decide +kernel
theorem dD_1 : decode jdk_65_method_30_code 1 = .ok (.iload_n 2, 1) := by decide +kernel
theorem dD_2 : decode jdk_65_method_30_code 2 = .ok (.if_icmp .le 44, 3) := by decide +kernel
theorem dD_46 : decode jdk_65_method_30_code 46 = .ok (.iload_n 1, 1) := by decide +kernel
theorem dD_47 : decode jdk_65_method_30_code 47 = .ok (.ifCond .ge 12, 3) := by decide +kernel
theorem dD_59 : decode jdk_65_method_30_code 59 = .ok (.iload_n 2, 1) := by decide +kernel
theorem dD_60 : decode jdk_65_method_30_code 60 = .ok (.iload_n 0, 1) := by decide +kernel
theorem dD_61 : decode jdk_65_method_30_code 61 = .ok (.if_icmp .le 12, 3) := by decide +kernel
theorem dD_73 : decode jdk_65_method_30_code 73 = .ok (.return_, 1) := by decide +kernel
def R6 : Room := { frames := 0, cells := 0, slots := 0, locals := 0 }
def Q6 (Z : State) (h0 : Heap) (v : Option Value) (h : Heap) : Prop := v = none ∧ h0 = h
theorem ef6 (m : MethodId) : entryFrame m #[(.int 1), (.int 1), (.int 1)] 3 = mkF m 0 #[.val (.int 1), .val (.int 1), .val (.int 1)] [] := by first | (simp [entryFrame, mkF, argsToLocals, Value.category]; done) | rfl
theorem rm6 (l : Launch) (Z : State) (a0 : Array Value) (hw : HW a0 Z) (ws : List Jvm.Cond) (h0 : Heap) (n0 : Nat) (Z0 : n0 ≤ h0.size) : OMet l Z ws (⟨"java/util/Arrays", "rangeCheck", "(III)V"⟩ : MethodName) jdk_65_method_30_code 3 none R6 #[(.int 1), (.int 1), (.int 1)] h0 n0 (Q6 Z h0) := by
  refine OMet.of (own := "java/util/Arrays") rfl (plainFor_of_name pn_1) (ef6) Z0 ?_
  intro p e s m below meth c T0 Y0 hnm
  refine Gl.iloadN Y0 rfl dD_0 rfl ?_
  refine Gl.iloadN Y0 rfl dD_1 rfl ?_
  refine Gl.icmple Y0 dD_2 (by decide) rfl rfl (fun c2 => ?_) (fun c2 => ?_)
  rotate_left
  · exact absurd c2 (by decide)
  refine Gl.iloadN Y0 rfl dD_46 rfl ?_
  refine Gl.ifge Y0 dD_47 (by decide) rfl rfl (fun c47 => ?_) (fun c47 => ?_)
  rotate_left
  · exact absurd c47 (by decide)
  refine Gl.iloadN Y0 rfl dD_59 rfl ?_
  refine Gl.iloadN Y0 rfl dD_60 rfl ?_
  refine Gl.icmple Y0 dD_61 (by decide) rfl rfl (fun c61 => ?_) (fun c61 => ?_)
  rotate_left
  · exact absurd c61 (by decide)
  exact Gl.retV Y0 (by decide) (by decide)  dD_73 ⟨rfl, rfl⟩
theorem dE_0 : decode jdk_65_method_102_code 0 = .ok (.aload_n 0, 1) := by decide +kernel
theorem dE_1 : decode jdk_65_method_102_code 1 = .ok (.arraylength, 1) := by decide +kernel
theorem dE_2 : decode jdk_65_method_102_code 2 = .ok (.iload_n 1, 1) := by decide +kernel
theorem dE_3 : decode jdk_65_method_102_code 3 = .ok (.iload_n 2, 1) := by decide +kernel
theorem dE_4 : decode jdk_65_method_102_code 4 = .ok (.invokestatic 13, 3) := by decide +kernel
theorem tw_25 {a0 : Array Value} {Z : State} (hw : HW a0 Z) : (Jvm.Cond.methodLink "java/util/Arrays" (13 : Nat) ({ cls := "java/util/Arrays", name := "rangeCheck", desc := "(III)V" } : Jvm.MethodName)).before a0 Z = true := hw _ (List.mem_of_getElem? (i := 25) rfl)
theorem pd_0 : parseMethodDescriptor "(III)V" = some ⟨[.int, .int, .int], none⟩ := by decide +kernel
theorem tw_27 {a0 : Array Value} {Z : State} (hw : HW a0 Z) : (Jvm.Cond.code ({ cls := "java/util/Arrays", name := "rangeCheck", desc := "(III)V" } : Jvm.MethodName) jdk_65_method_30_code (3 : Nat) (Option.none : Option Jvm.ClassFile.FieldType)).before a0 Z = true := hw _ (List.mem_of_getElem? (i := 27) rfl)
theorem tw_23 {a0 : Array Value} {Z : State} (hw : HW a0 Z) : (Jvm.Cond.initialized "java/util/Arrays").before a0 Z = true := hw _ (List.mem_of_getElem? (i := 23) rfl)
theorem tw_26 {a0 : Array Value} {Z : State} (hw : HW a0 Z) : (Jvm.Cond.static ({ cls := "java/util/Arrays", name := "rangeCheck", desc := "(III)V" } : Jvm.MethodName)).before a0 Z = true := hw _ (List.mem_of_getElem? (i := 26) rfl)
theorem dE_7 : decode jdk_65_method_102_code 7 = .ok (.iload_n 1, 1) := by decide +kernel
theorem dE_8 : decode jdk_65_method_102_code 8 = .ok (.istore 5, 2) := by decide +kernel
theorem dE_10 : decode jdk_65_method_102_code 10 = .ok (.iload 5, 2) := by decide +kernel
theorem dE_12 : decode jdk_65_method_102_code 12 = .ok (.iload_n 2, 1) := by decide +kernel
theorem dE_13 : decode jdk_65_method_102_code 13 = .ok (.if_icmp .ge 14, 3) := by decide +kernel
theorem dE_27 : decode jdk_65_method_102_code 27 = .ok (.return_, 1) := by decide +kernel
def R7 : Room := { frames := 1, cells := 0, slots := 0, locals := 14 }
def Q7 (Z : State) (a : Addr) (ka : ClassId) (v1 : Int64) (x0 : Int64) (h0 : Heap) (v : Option Value) (h : Heap) : Prop := v = none ∧ Keep h0 h [a] ∧ Arv Z h a ka .long (1 : Int32) [(.long x0)] (.long 0)
theorem ef7 (a : Addr) (v1 : Int64) (m : MethodId) : entryFrame m #[(.ref a), (.int 1), (.int 1), (.long v1)] 6 = mkF m 0 #[.val (.ref a), .val (.int 1), .val (.int 1), .val (.long v1), .second, .unset] [] := by first | (simp [entryFrame, mkF, argsToLocals, Value.category]; done) | rfl
theorem rm7 (l : Launch) (Z : State) (a0 : Array Value) (hw : HW a0 Z) (ws : List Jvm.Cond) (a : Addr) (ka : ClassId) (v1 : Int64) (x0 : Int64) (h0 : Heap) (n0 : Nat) (Z0 : n0 ≤ h0.size) (V : Arv Z h0 a ka .long (1 : Int32) [(.long x0)] (.long 0)) (ga : n0 ≤ a) : OMet l Z ws (⟨"java/util/Arrays", "fill", "([JIIJ)V"⟩ : MethodName) jdk_65_method_102_code 6 none R7 #[(.ref a), (.int 1), (.int 1), (.long v1)] h0 n0 (Q7 Z a ka v1 x0 h0) := by
  refine OMet.of (own := "java/util/Arrays") rfl (plainFor_of_name pn_1) (ef7 a v1) Z0 ?_
  intro p e s m below meth c T0 Y0 hnm
  refine Gl.aloadN Y0 rfl rfl dE_0 rfl ?_
  refine Gl.arraylength Y0 V dE_1 rfl ?_
  refine Gl.iloadN Y0 rfl dE_2 rfl ?_
  refine Gl.iloadN Y0 rfl dE_3 rfl ?_
  refine Gl.callS Y0 (tw_25 hw) (tw_26 hw) (tw_23 hw) (tw_27 hw) (by decide) (rm6 l Z a0 hw [] h0 n0 Y0.sz) (argsL := [(.int 1), (.int 1), (.int 1)]) (rest := []) rfl rfl (lenOf pd_0 rfl) rfl (by decide) (Nat.le_of_ble_eq_true rfl) (by decide) (by decide) dE_4 rfl (fun v4 T4 h4 Y4 q4 => ?_)
  obtain ⟨rfl, rfl⟩ := q4
  show Gl p e below _ (T4.setTop (mkF m 7 _ []))
  refine Gl.iloadN Y4 rfl dE_7 rfl ?_
  refine Gl.istore Y4 (L' := #[.val (.ref a), .val (.int 1), .val (.int 1), .val (.long v1), .second, .val (.int 1)]) rfl dE_8 rfl ?_
  refine Gl.iload Y4 rfl dE_10 rfl ?_
  refine Gl.iloadN Y4 rfl dE_12 rfl ?_
  refine Gl.icmpge Y4 dE_13 (by decide) rfl rfl (fun c13 => ?_) (fun c13 => ?_)
  rotate_left
  · exact absurd c13 (by decide)
  exact Gl.retV Y4 (by decide) (by decide)  dE_27 ⟨rfl, (Keep.refl h0 [a]), V⟩
theorem dF_0 : decode prog_137_method_4_code 0 = .ok (.aload_n 0, 1) := by decide +kernel
theorem dF_1 : decode prog_137_method_4_code 1 = .ok (.getfield 26, 3) := by decide +kernel
theorem dF_4 : decode prog_137_method_4_code 4 = .ok (.iconst 0, 1) := by decide +kernel
theorem dF_5 : decode prog_137_method_4_code 5 = .ok (.lload_n 1, 1) := by decide +kernel
theorem dF_6 : decode prog_137_method_4_code 6 = .ok (.lastore, 1) := by decide +kernel
theorem dF_7 : decode prog_137_method_4_code 7 = .ok (.aload_n 0, 1) := by decide +kernel
theorem dF_8 : decode prog_137_method_4_code 8 = .ok (.getfield 26, 3) := by decide +kernel
theorem dF_11 : decode prog_137_method_4_code 11 = .ok (.iconst 1, 1) := by decide +kernel
theorem dF_12 : decode prog_137_method_4_code 12 = .ok (.aload_n 0, 1) := by decide +kernel
theorem dF_13 : decode prog_137_method_4_code 13 = .ok (.getfield 26, 3) := by decide +kernel
theorem dF_16 : decode prog_137_method_4_code 16 = .ok (.arraylength, 1) := by decide +kernel
theorem dF_17 : decode prog_137_method_4_code 17 = .ok (.lload_n 1, 1) := by decide +kernel
theorem dF_18 : decode prog_137_method_4_code 18 = .ok (.bipush 63, 2) := by decide +kernel
theorem dF_20 : decode prog_137_method_4_code 20 = .ok (.lshr, 1) := by decide +kernel
theorem dF_21 : decode prog_137_method_4_code 21 = .ok (.invokestatic 58, 3) := by decide +kernel
theorem tw_21 {a0 : Array Value} {Z : State} (hw : HW a0 Z) : (Jvm.Cond.methodLink "com/example/meterwise/meterwise/model/WholeNumber" (58 : Nat) ({ cls := "java/util/Arrays", name := "fill", desc := "([JIIJ)V" } : Jvm.MethodName)).before a0 Z = true := hw _ (List.mem_of_getElem? (i := 21) rfl)
theorem pd_1 : parseMethodDescriptor "([JIIJ)V" = some ⟨[(.array .long), .int, .int, .long], none⟩ := by decide +kernel
theorem tw_24 {a0 : Array Value} {Z : State} (hw : HW a0 Z) : (Jvm.Cond.code ({ cls := "java/util/Arrays", name := "fill", desc := "([JIIJ)V" } : Jvm.MethodName) jdk_65_method_102_code (6 : Nat) (Option.none : Option Jvm.ClassFile.FieldType)).before a0 Z = true := hw _ (List.mem_of_getElem? (i := 24) rfl)
theorem tw_22 {a0 : Array Value} {Z : State} (hw : HW a0 Z) : (Jvm.Cond.static ({ cls := "java/util/Arrays", name := "fill", desc := "([JIIJ)V" } : Jvm.MethodName)).before a0 Z = true := hw _ (List.mem_of_getElem? (i := 22) rfl)
theorem dF_24 : decode prog_137_method_4_code 24 = .ok (.aload_n 0, 1) := by decide +kernel
theorem dF_25 : decode prog_137_method_4_code 25 = .ok (.areturn, 1) := by decide +kernel
def R8 : Room := { frames := 2, cells := 0, slots := 0, locals := 31 }
def Q8 (Z : State) (o : Addr) (wo : Addr) (ko : ClassId) (x0 : Int64) (v1 : Int64) (sg : Int64) (h0 : Heap) (v : Option Value) (h : Heap) : Prop := v = some (.ref o) ∧ Keep h0 h [wo] ∧ Arv Z h wo ko .long (1 : Int32) [(.long v1)] (.long 0)
theorem ef8 (o : Addr) (v1 : Int64) (m : MethodId) : entryFrame m #[(.ref o), (.long v1)] 3 = mkF m 0 #[.val (.ref o), .val (.long v1), .second] [] := by first | (simp [entryFrame, mkF, argsToLocals, Value.category]; done) | rfl
theorem rm8 (l : Launch) (Z : State) (a0 : Array Value) (hw : HW a0 Z) (ws : List Jvm.Cond) (o : Addr) (wo : Addr) (ko : ClassId) (x0 : Int64) (v1 : Int64) (sg : Int64) (h0 : Heap) (n0 : Nat) (Z0 : n0 ≤ h0.size) (E_o : Exa Z h0 o "com/example/meterwise/meterwise/model/WholeNumber") (F_o : Fld Z h0 o "com/example/meterwise/meterwise/model/WholeNumber" "words" "[J" (.ref wo)) (V_o : Arv Z h0 wo ko .long (1 : Int32) [(.long x0)] (.long 0)) (g_o : n0 ≤ wo) (nn_o : own_ne o wo) (hsg : v1 >>> ((63 : Int32) &&& 0x3f).toInt64 = sg) : OMet l Z ws (⟨"com/example/meterwise/meterwise/model/WholeNumber", "set", "(J)Lcom/example/meterwise/meterwise/model/WholeNumber;"⟩ : MethodName) prog_137_method_4_code 3 (some (.object "com/example/meterwise/meterwise/model/WholeNumber")) R8 #[(.ref o), (.long v1)] h0 n0 (Q8 Z o wo ko x0 v1 sg h0) := by
  refine OMet.of (own := "com/example/meterwise/meterwise/model/WholeNumber") rfl (plainFor_of_name pn_0) (ef8 o v1) Z0 ?_
  intro p e s m below meth c T0 Y0 hnm
  refine Gl.aloadN Y0 rfl rfl dF_0 rfl ?_
  refine Gl.getF Y0 (host := "") (Or.inl (tw_14 hw)) Via.refl F_o dF_1 rfl (fun T1 Y1 => ?_)
  refine Gl.iconst Y1 (v := (0 : Int32)) (by decide) dF_4 rfl ?_
  refine Gl.lloadN Y1 rfl dF_5 rfl ?_
  refine Gl.lastore Y1 V_o (v := (.long v1)) rfl ⟨by decide, by decide⟩ (ix := 0) rfl (Nat.le_of_ble_eq_true rfl) g_o dF_6 rfl (fun T6 h6 Y6 W6 A6 => ?_)
  have A6 : Arv Z h6 wo ko .long (1 : Int32) [(.long v1)] (.long 0) := A6
  have K6 : Keep h0 h6 [wo] := (Keep.refl h0 [wo]).wr W6 (Or.inl (List.mem_of_getElem? (i := 0) rfl))
  show Gl p e below _ (T6.setTop (mkF m 7 _ []))
  refine Gl.aloadN Y6 rfl rfl dF_7 rfl ?_
  have f1 := (Fld.other W6 F_o (Or.inl nn_o))
  refine Gl.getF Y6 (host := "") (Or.inl (tw_14 hw)) Via.refl f1 dF_8 rfl (fun T8 Y8 => ?_)
  refine Gl.iconst Y8 (v := (1 : Int32)) (by decide) dF_11 rfl ?_
  refine Gl.aloadN Y8 rfl rfl dF_12 rfl ?_
  refine Gl.getF Y8 (host := "") (Or.inl (tw_14 hw)) Via.refl f1 dF_13 rfl (fun T13 Y13 => ?_)
  refine Gl.arraylength Y13 A6 dF_16 rfl ?_
  refine Gl.lloadN Y13 rfl dF_17 rfl ?_
  refine Gl.bipush Y13 (v := (63 : Int32)) (by decide) dF_18 rfl ?_
  obtain ⟨v20, hv20⟩ : ∃ z : Int64, (v1 >>> ((63 : Int32) &&& 0x3f).toInt64) = z := ⟨_, rfl⟩
  refine Gl.lshr Y13 hv20 dF_20 rfl ?_
  obtain rfl : sg = v20 := Eq.symm (hv20.symm.trans hsg)
  refine Gl.callS Y13 (tw_21 hw) (tw_22 hw) (tw_23 hw) (tw_24 hw) (by decide) (rm7 l Z a0 hw [] wo ko sg v1 h6 n0 Y13.sz A6 g_o) (argsL := [(.ref wo), (.int 1), (.int 1), (.long sg)]) (rest := []) rfl rfl (lenOf pd_1 rfl) rfl (by decide) (Nat.le_of_ble_eq_true rfl) (by decide) (by decide) dF_21 rfl (fun v21 T21 h21 Y21 q21 => ?_)
  obtain ⟨rfl, K21, f21_0⟩ := q21
  have KK21 : Keep h0 h21 [wo] := K6.trans K21 (allS (Or.inl (List.mem_of_getElem? (i := 0) rfl)) all0)
  show Gl p e below _ (T21.setTop (mkF m 24 _ []))
  refine Gl.aloadN Y21 rfl rfl dF_24 rfl ?_
  exact Gl.retA Y21 (by decide) (by decide) rfl rfl dF_25 ⟨rfl, KK21, f21_0⟩
theorem dG_0 : decode prog_137_method_10_code 0 = .ok (.iconst 0, 1) := by decide +kernel
theorem dG_1 : decode prog_137_method_10_code 1 = .ok (.istore_n 1, 1) := by decide +kernel
theorem dG_2 : decode prog_137_method_10_code 2 = .ok (.iload_n 1, 1) := by decide +kernel
theorem dG_3 : decode prog_137_method_10_code 3 = .ok (.aload_n 0, 1) := by decide +kernel
theorem dG_4 : decode prog_137_method_10_code 4 = .ok (.getfield 26, 3) := by decide +kernel
theorem dG_7 : decode prog_137_method_10_code 7 = .ok (.arraylength, 1) := by decide +kernel
theorem dG_8 : decode prog_137_method_10_code 8 = .ok (.iconst 1, 1) := by decide +kernel
theorem dG_9 : decode prog_137_method_10_code 9 = .ok (.isub, 1) := by decide +kernel
theorem dG_10 : decode prog_137_method_10_code 10 = .ok (.if_icmp .ge 22, 3) := by decide +kernel
theorem dG_32 : decode prog_137_method_10_code 32 = .ok (.iconst 1, 1) := by decide +kernel
theorem dG_33 : decode prog_137_method_10_code 33 = .ok (.ireturn, 1) := by decide +kernel
def R9 : Room := { frames := 0, cells := 0, slots := 0, locals := 0 }
def Q9 (Z : State) (o : Addr) (wo : Addr) (ko : ClassId) (x0 : Int64) (h0 : Heap) (v : Option Value) (h : Heap) : Prop := v = some (.int 1) ∧ h0 = h
theorem ef9 (o : Addr) (m : MethodId) : entryFrame m #[(.ref o)] 2 = mkF m 0 #[.val (.ref o), .unset] [] := by first | (simp [entryFrame, mkF, argsToLocals, Value.category]; done) | rfl
theorem rm9 (l : Launch) (Z : State) (a0 : Array Value) (hw : HW a0 Z) (ws : List Jvm.Cond) (o : Addr) (wo : Addr) (ko : ClassId) (x0 : Int64) (h0 : Heap) (n0 : Nat) (Z0 : n0 ≤ h0.size) (E_o : Exa Z h0 o "com/example/meterwise/meterwise/model/WholeNumber") (F_o : Fld Z h0 o "com/example/meterwise/meterwise/model/WholeNumber" "words" "[J" (.ref wo)) (V_o : Arv Z h0 wo ko .long (1 : Int32) [(.long x0)] (.long 0)) : OMet l Z ws (⟨"com/example/meterwise/meterwise/model/WholeNumber", "zeroBelowTop", "()Z"⟩ : MethodName) prog_137_method_10_code 2 (some .boolean) R9 #[(.ref o)] h0 n0 (Q9 Z o wo ko x0 h0) := by
  refine OMet.of (own := "com/example/meterwise/meterwise/model/WholeNumber") rfl (plainFor_of_name pn_0) (ef9 o) Z0 ?_
  intro p e s m below meth c T0 Y0 hnm
  refine Gl.iconst Y0 (v := (0 : Int32)) (by decide) dG_0 rfl ?_
  refine Gl.istoreN Y0 (L' := #[.val (.ref o), .val (.int 0)]) rfl dG_1 rfl ?_
  refine Gl.iloadN Y0 rfl dG_2 rfl ?_
  refine Gl.aloadN Y0 rfl rfl dG_3 rfl ?_
  refine Gl.getF Y0 (host := "") (Or.inl (tw_14 hw)) Via.refl F_o dG_4 rfl (fun T4 Y4 => ?_)
  refine Gl.arraylength Y4 V_o dG_7 rfl ?_
  refine Gl.iconst Y4 (v := (1 : Int32)) (by decide) dG_8 rfl ?_
  refine Gl.isub Y4 (r := (0 : Int32)) (by decide) dG_9 rfl ?_
  refine Gl.icmpge Y4 dG_10 (by decide) rfl rfl (fun c10 => ?_) (fun c10 => ?_)
  rotate_left
  · exact absurd c10 (by decide)
  refine Gl.iconst Y4 (v := (1 : Int32)) (by decide) dG_32 rfl ?_
  exact Gl.retZ Y4 (by decide) (by decide) (x' := (1 : Int32)) (by decide) dG_33 ⟨rfl, rfl⟩
theorem dH_0 : decode prog_137_method_8_code 0 = .ok (.aload_n 0, 1) := by decide +kernel
theorem dH_1 : decode prog_137_method_8_code 1 = .ok (.invokevirtual 78, 3) := by decide +kernel
theorem tw_42 {a0 : Array Value} {Z : State} (hw : HW a0 Z) : (Jvm.Cond.methodLink "com/example/meterwise/meterwise/model/WholeNumber" (78 : Nat) ({ cls := "com/example/meterwise/meterwise/model/WholeNumber", name := "top", desc := "()J" } : Jvm.MethodName)).before a0 Z = true := hw _ (List.mem_of_getElem? (i := 42) rfl)
theorem pd_2 : parseMethodDescriptor "()J" = some ⟨[], some .long⟩ := by decide +kernel
theorem tw_45 {a0 : Array Value} {Z : State} (hw : HW a0 Z) : (Jvm.Cond.code ({ cls := "com/example/meterwise/meterwise/model/WholeNumber", name := "top", desc := "()J" } : Jvm.MethodName) prog_137_method_31_code (1 : Nat) (Option.some Jvm.ClassFile.FieldType.long)).before a0 Z = true := hw _ (List.mem_of_getElem? (i := 45) rfl)
theorem tw_2 {a0 : Array Value} {Z : State} (hw : HW a0 Z) : (Jvm.Cond.initialized "com/example/meterwise/meterwise/model/WholeNumber").before a0 Z = true := hw _ (List.mem_of_getElem? (i := 2) rfl)
theorem tw_43 {a0 : Array Value} {Z : State} (hw : HW a0 Z) : (Jvm.Cond.instanceMethod ({ cls := "com/example/meterwise/meterwise/model/WholeNumber", name := "top", desc := "()J" } : Jvm.MethodName)).before a0 Z = true := hw _ (List.mem_of_getElem? (i := 43) rfl)
theorem tw_44 {a0 : Array Value} {Z : State} (hw : HW a0 Z) : (Jvm.Cond.privateMethod ({ cls := "com/example/meterwise/meterwise/model/WholeNumber", name := "top", desc := "()J" } : Jvm.MethodName)).before a0 Z = true := hw _ (List.mem_of_getElem? (i := 44) rfl)
theorem dH_4 : decode prog_137_method_8_code 4 = .ok (.ldc2_w 108, 3) := by decide +kernel
theorem tw_46 {a0 : Array Value} {Z : State} (hw : HW a0 Z) : (Jvm.Cond.constantLong "com/example/meterwise/meterwise/model/WholeNumber" (108 : Nat) (-9223372036854775808 : Int64)).before a0 Z = true := hw _ (List.mem_of_getElem? (i := 46) rfl)
theorem dH_7 : decode prog_137_method_8_code 7 = .ok (.lcmp, 1) := by decide +kernel
theorem dH_8 : decode prog_137_method_8_code 8 = .ok (.ifCond .ne 14, 3) := by decide +kernel
theorem dH_22 : decode prog_137_method_8_code 22 = .ok (.iconst 0, 1) := by decide +kernel
theorem dH_23 : decode prog_137_method_8_code 23 = .ok (.ireturn, 1) := by decide +kernel
theorem dH_11 : decode prog_137_method_8_code 11 = .ok (.aload_n 0, 1) := by decide +kernel
theorem dH_12 : decode prog_137_method_8_code 12 = .ok (.invokevirtual 110, 3) := by decide +kernel
theorem tw_75 {a0 : Array Value} {Z : State} (hw : HW a0 Z) : (Jvm.Cond.methodLink "com/example/meterwise/meterwise/model/WholeNumber" (110 : Nat) ({ cls := "com/example/meterwise/meterwise/model/WholeNumber", name := "zeroBelowTop", desc := "()Z" } : Jvm.MethodName)).before a0 Z = true := hw _ (List.mem_of_getElem? (i := 75) rfl)
theorem pd_3 : parseMethodDescriptor "()Z" = some ⟨[], some .boolean⟩ := by decide +kernel
theorem tw_78 {a0 : Array Value} {Z : State} (hw : HW a0 Z) : (Jvm.Cond.code ({ cls := "com/example/meterwise/meterwise/model/WholeNumber", name := "zeroBelowTop", desc := "()Z" } : Jvm.MethodName) prog_137_method_10_code (2 : Nat) (Option.some Jvm.ClassFile.FieldType.boolean)).before a0 Z = true := hw _ (List.mem_of_getElem? (i := 78) rfl)
theorem tw_76 {a0 : Array Value} {Z : State} (hw : HW a0 Z) : (Jvm.Cond.instanceMethod ({ cls := "com/example/meterwise/meterwise/model/WholeNumber", name := "zeroBelowTop", desc := "()Z" } : Jvm.MethodName)).before a0 Z = true := hw _ (List.mem_of_getElem? (i := 76) rfl)
theorem tw_77 {a0 : Array Value} {Z : State} (hw : HW a0 Z) : (Jvm.Cond.privateMethod ({ cls := "com/example/meterwise/meterwise/model/WholeNumber", name := "zeroBelowTop", desc := "()Z" } : Jvm.MethodName)).before a0 Z = true := hw _ (List.mem_of_getElem? (i := 77) rfl)
theorem dH_15 : decode prog_137_method_8_code 15 = .ok (.ifCond .eq 7, 3) := by decide +kernel
theorem dH_18 : decode prog_137_method_8_code 18 = .ok (.iconst 1, 1) := by decide +kernel
theorem dH_19 : decode prog_137_method_8_code 19 = .ok (.goto 4, 3) := by decide +kernel
def R10 : Room := { frames := 1, cells := 0, slots := 0, locals := 13 }
def Q10 (Z : State) (o : Addr) (wo : Addr) (ko : ClassId) (x0 : Int64) (h0 : Heap) (v : Option Value) (h : Heap) : Prop := ∃ r : Int32, v = some (.int r) ∧ (((x0.toInt = (-9223372036854775808)) ∧ r.toInt = 1) ∨ (¬ (x0.toInt = (-9223372036854775808)) ∧ r.toInt = 0)) ∧ h0 = h
theorem ef10 (o : Addr) (m : MethodId) : entryFrame m #[(.ref o)] 1 = mkF m 0 #[.val (.ref o)] [] := by first | (simp [entryFrame, mkF, argsToLocals, Value.category]; done) | rfl
theorem rm10 (l : Launch) (Z : State) (a0 : Array Value) (hw : HW a0 Z) (ws : List Jvm.Cond) (o : Addr) (wo : Addr) (ko : ClassId) (x0 : Int64) (h0 : Heap) (n0 : Nat) (Z0 : n0 ≤ h0.size) (E_o : Exa Z h0 o "com/example/meterwise/meterwise/model/WholeNumber") (F_o : Fld Z h0 o "com/example/meterwise/meterwise/model/WholeNumber" "words" "[J" (.ref wo)) (V_o : Arv Z h0 wo ko .long (1 : Int32) [(.long x0)] (.long 0)) : OMet l Z ws (⟨"com/example/meterwise/meterwise/model/WholeNumber", "overflowed", "()Z"⟩ : MethodName) prog_137_method_8_code 1 (some .boolean) R10 #[(.ref o)] h0 n0 (Q10 Z o wo ko x0 h0) := by
  refine OMet.of (own := "com/example/meterwise/meterwise/model/WholeNumber") rfl (plainFor_of_name pn_0) (ef10 o) Z0 ?_
  intro p e s m below meth c T0 Y0 hnm
  refine Gl.aloadN Y0 rfl rfl dH_0 rfl ?_
  refine Gl.callP Y0 (tw_42 hw) (tw_43 hw) (tw_44 hw) (tw_1 hw) (tw_2 hw) (tw_45 hw) (by decide) E_o (rm4 l Z a0 hw [] o wo ko x0 h0 n0 Y0.sz E_o F_o V_o) (a := o) (argsL := []) (rest := []) rfl rfl (lenOf pd_2 rfl) rfl (by decide) (Nat.le_of_ble_eq_true rfl) (by decide) (by decide) dH_1 rfl (fun v1 T1 h1 Y1 q1 => ?_)
  obtain ⟨rfl, rfl⟩ := q1
  show Gl p e below _ (T1.setTop (mkF m 4 _ [(.long x0)]))
  refine Gl.ldcJ Y1 (tw_46 hw) dH_4 rfl ?_
  refine Gl.lcmpne Y1 dH_7 rfl dH_8 (by decide) rfl rfl (fun c8 => ?_) (fun c8 => ?_)
  · have j8 : ¬ (x0.toInt = (-9223372036854775808)) := fun q => c8 (Int64.toInt_inj.mp q)
    refine Gl.iconst Y1 (v := (0 : Int32)) (by decide) dH_22 rfl ?_
    exact Gl.retZ Y1 (by decide) (by decide) (x' := (0 : Int32)) (by decide) dH_23 ⟨(0 : Int32), rfl, (by have q0 : (0 : Int32).toInt = 0 := rfl; have q1 : (1 : Int32).toInt = 1 := rfl; have q2 : (-1 : Int32).toInt = -1 := rfl; omega), rfl⟩
  · have j8 : x0.toInt = (-9223372036854775808) := congrArg Int64.toInt c8
    refine Gl.aloadN Y1 rfl rfl dH_11 rfl ?_
    refine Gl.callP Y1 (tw_75 hw) (tw_76 hw) (tw_77 hw) (tw_1 hw) (tw_2 hw) (tw_78 hw) (by decide) E_o (rm9 l Z a0 hw [] o wo ko x0 h0 n0 Y1.sz E_o F_o V_o) (a := o) (argsL := []) (rest := []) rfl rfl (lenOf pd_3 rfl) rfl (by decide) (Nat.le_of_ble_eq_true rfl) (by decide) (by decide) dH_12 rfl (fun v12 T12 h12 Y12 q12 => ?_)
    obtain ⟨rfl, rfl⟩ := q12
    show Gl p e below _ (T12.setTop (mkF m 15 _ [(.int 1)]))
    refine Gl.ifeq Y12 dH_15 (by decide) rfl rfl (fun c15 => ?_) (fun c15 => ?_)
    · exact absurd c15 (by decide)
    refine Gl.iconst Y12 (v := (1 : Int32)) (by decide) dH_18 rfl ?_
    refine Gl.goto Y12 dH_19 (by decide) rfl ?_
    exact Gl.retZ Y12 (by decide) (by decide) (x' := (1 : Int32)) (by decide) dH_23 ⟨(1 : Int32), rfl, (by have q0 : (0 : Int32).toInt = 0 := rfl; have q1 : (1 : Int32).toInt = 1 := rfl; have q2 : (-1 : Int32).toInt = -1 := rfl; omega), rfl⟩
theorem dI_0 : decode prog_137_method_9_code 0 = .ok (.aload_n 0, 1) := by decide +kernel
theorem dI_1 : decode prog_137_method_9_code 1 = .ok (.invokevirtual 78, 3) := by decide +kernel
theorem dI_4 : decode prog_137_method_9_code 4 = .ok (.lstore_n 1, 1) := by decide +kernel
theorem dI_5 : decode prog_137_method_9_code 5 = .ok (.lload_n 1, 1) := by decide +kernel
theorem dI_6 : decode prog_137_method_9_code 6 = .ok (.lconst 0, 1) := by decide +kernel
theorem dI_7 : decode prog_137_method_9_code 7 = .ok (.lcmp, 1) := by decide +kernel
theorem dI_8 : decode prog_137_method_9_code 8 = .ok (.ifCond .ge 5, 3) := by decide +kernel
theorem dI_13 : decode prog_137_method_9_code 13 = .ok (.lload_n 1, 1) := by decide +kernel
theorem dI_14 : decode prog_137_method_9_code 14 = .ok (.lconst 0, 1) := by decide +kernel
theorem dI_15 : decode prog_137_method_9_code 15 = .ok (.lcmp, 1) := by decide +kernel
theorem dI_16 : decode prog_137_method_9_code 16 = .ok (.ifCond .ne 21, 3) := by decide +kernel
theorem dI_37 : decode prog_137_method_9_code 37 = .ok (.iconst 1, 1) := by decide +kernel
theorem dI_38 : decode prog_137_method_9_code 38 = .ok (.goto 4, 3) := by decide +kernel
theorem dI_42 : decode prog_137_method_9_code 42 = .ok (.ireturn, 1) := by decide +kernel
theorem dI_19 : decode prog_137_method_9_code 19 = .ok (.aload_n 0, 1) := by decide +kernel
theorem dI_20 : decode prog_137_method_9_code 20 = .ok (.getfield 26, 3) := by decide +kernel
theorem dI_23 : decode prog_137_method_9_code 23 = .ok (.iconst 0, 1) := by decide +kernel
theorem dI_24 : decode prog_137_method_9_code 24 = .ok (.laload, 1) := by decide +kernel
theorem dI_25 : decode prog_137_method_9_code 25 = .ok (.lconst 0, 1) := by decide +kernel
theorem dI_26 : decode prog_137_method_9_code 26 = .ok (.lcmp, 1) := by decide +kernel
theorem dI_27 : decode prog_137_method_9_code 27 = .ok (.ifCond .ne 10, 3) := by decide +kernel
theorem dI_30 : decode prog_137_method_9_code 30 = .ok (.aload_n 0, 1) := by decide +kernel
theorem dI_31 : decode prog_137_method_9_code 31 = .ok (.invokevirtual 110, 3) := by decide +kernel
theorem dI_34 : decode prog_137_method_9_code 34 = .ok (.ifCond .ne 7, 3) := by decide +kernel
theorem dI_41 : decode prog_137_method_9_code 41 = .ok (.iconst 0, 1) := by decide +kernel
theorem dI_11 : decode prog_137_method_9_code 11 = .ok (.iconst (-1), 1) := by decide +kernel
theorem dI_12 : decode prog_137_method_9_code 12 = .ok (.ireturn, 1) := by decide +kernel
def R11 : Room := { frames := 1, cells := 0, slots := 0, locals := 13 }
def Q11 (Z : State) (o : Addr) (wo : Addr) (ko : ClassId) (x0 : Int64) (h0 : Heap) (v : Option Value) (h : Heap) : Prop := ∃ r : Int32, v = some (.int r) ∧ (((x0.toInt < 0 ∧ r.toInt = -1) ∨ (¬ x0.toInt < 0 ∧ (x0.toInt = 0) ∧ r.toInt = 0) ∨ (¬ x0.toInt < 0 ∧ ¬ (x0.toInt = 0) ∧ r.toInt = 1))) ∧ h0 = h
theorem ef11 (o : Addr) (m : MethodId) : entryFrame m #[(.ref o)] 3 = mkF m 0 #[.val (.ref o), .unset, .unset] [] := by first | (simp [entryFrame, mkF, argsToLocals, Value.category]; done) | rfl
theorem rm11 (l : Launch) (Z : State) (a0 : Array Value) (hw : HW a0 Z) (ws : List Jvm.Cond) (o : Addr) (wo : Addr) (ko : ClassId) (x0 : Int64) (h0 : Heap) (n0 : Nat) (Z0 : n0 ≤ h0.size) (E_o : Exa Z h0 o "com/example/meterwise/meterwise/model/WholeNumber") (F_o : Fld Z h0 o "com/example/meterwise/meterwise/model/WholeNumber" "words" "[J" (.ref wo)) (V_o : Arv Z h0 wo ko .long (1 : Int32) [(.long x0)] (.long 0)) : OMet l Z ws (⟨"com/example/meterwise/meterwise/model/WholeNumber", "signum", "()I"⟩ : MethodName) prog_137_method_9_code 3 (some .int) R11 #[(.ref o)] h0 n0 (Q11 Z o wo ko x0 h0) := by
  refine OMet.of (own := "com/example/meterwise/meterwise/model/WholeNumber") rfl (plainFor_of_name pn_0) (ef11 o) Z0 ?_
  intro p e s m below meth c T0 Y0 hnm
  refine Gl.aloadN Y0 rfl rfl dI_0 rfl ?_
  refine Gl.callP Y0 (tw_42 hw) (tw_43 hw) (tw_44 hw) (tw_1 hw) (tw_2 hw) (tw_45 hw) (by decide) E_o (rm4 l Z a0 hw [] o wo ko x0 h0 n0 Y0.sz E_o F_o V_o) (a := o) (argsL := []) (rest := []) rfl rfl (lenOf pd_2 rfl) rfl (by decide) (Nat.le_of_ble_eq_true rfl) (by decide) (by decide) dI_1 rfl (fun v1 T1 h1 Y1 q1 => ?_)
  obtain ⟨rfl, rfl⟩ := q1
  show Gl p e below _ (T1.setTop (mkF m 4 _ [(.long x0)]))
  refine Gl.lstoreN Y1 (L' := #[.val (.ref o), .val (.long x0), .second]) rfl dI_4 rfl ?_
  refine Gl.lloadN Y1 rfl dI_5 rfl ?_
  refine Gl.lconst Y1 (v := (0 : Int64)) (by decide) dI_6 rfl ?_
  refine Gl.lcmpge Y1 dI_7 rfl dI_8 (by decide) rfl rfl (fun c8 => ?_) (fun c8 => ?_)
  · have j8 : ¬ (x0.toInt < 0) := fun q => c8 (Int64.lt_iff_toInt_lt.mpr q)
    refine Gl.lloadN Y1 rfl dI_13 rfl ?_
    refine Gl.lconst Y1 (v := (0 : Int64)) (by decide) dI_14 rfl ?_
    refine Gl.lcmpne Y1 dI_15 rfl dI_16 (by decide) rfl rfl (fun c16 => ?_) (fun c16 => ?_)
    · have j16 : ¬ (x0.toInt = 0) := fun q => c16 (Int64.toInt_inj.mp q)
      refine Gl.iconst Y1 (v := (1 : Int32)) (by decide) dI_37 rfl ?_
      refine Gl.goto Y1 dI_38 (by decide) rfl ?_
      exact Gl.retI Y1 (by decide) (by decide)  dI_42 ⟨(1 : Int32), rfl, (by have q0 : (0 : Int32).toInt = 0 := rfl; have q1 : (1 : Int32).toInt = 1 := rfl; have q2 : (-1 : Int32).toInt = -1 := rfl; omega), rfl⟩
    · have j16 : x0.toInt = 0 := congrArg Int64.toInt c16
      refine Gl.aloadN Y1 rfl rfl dI_19 rfl ?_
      refine Gl.getF Y1 (host := "") (Or.inl (tw_14 hw)) Via.refl F_o dI_20 rfl (fun T20 Y20 => ?_)
      refine Gl.iconst Y20 (v := (0 : Int32)) (by decide) dI_23 rfl ?_
      refine Gl.laload Y20 V_o ⟨by decide, by decide⟩ (v := (.long x0)) rfl dI_24 rfl ?_
      refine Gl.lconst Y20 (v := (0 : Int64)) (by decide) dI_25 rfl ?_
      refine Gl.lcmpne Y20 dI_26 rfl dI_27 (by decide) rfl rfl (fun c27 => ?_) (fun c27 => ?_)
      · exact absurd c16 c27
      have j27 : x0.toInt = 0 := congrArg Int64.toInt c27
      refine Gl.aloadN Y20 rfl rfl dI_30 rfl ?_
      refine Gl.callP Y20 (tw_75 hw) (tw_76 hw) (tw_77 hw) (tw_1 hw) (tw_2 hw) (tw_78 hw) (by decide) E_o (rm9 l Z a0 hw [] o wo ko x0 h0 n0 Y20.sz E_o F_o V_o) (a := o) (argsL := []) (rest := []) rfl rfl (lenOf pd_3 rfl) rfl (by decide) (Nat.le_of_ble_eq_true rfl) (by decide) (by decide) dI_31 rfl (fun v31 T31 h31 Y31 q31 => ?_)
      obtain ⟨rfl, rfl⟩ := q31
      show Gl p e below _ (T31.setTop (mkF m 34 _ [(.int 1)]))
      refine Gl.ifne Y31 dI_34 (by decide) rfl rfl (fun c34 => ?_) (fun c34 => ?_)
      rotate_left
      · exact absurd c34 (by decide)
      refine Gl.iconst Y31 (v := (0 : Int32)) (by decide) dI_41 rfl ?_
      exact Gl.retI Y31 (by decide) (by decide)  dI_42 ⟨(0 : Int32), rfl, (by have q0 : (0 : Int32).toInt = 0 := rfl; have q1 : (1 : Int32).toInt = 1 := rfl; have q2 : (-1 : Int32).toInt = -1 := rfl; omega), rfl⟩
  · have j8 : x0.toInt < 0 := Int64.lt_iff_toInt_lt.mp c8
    refine Gl.iconst Y1 (v := (-1 : Int32)) (by decide) dI_11 rfl ?_
    exact Gl.retI Y1 (by decide) (by decide)  dI_12 ⟨(-1 : Int32), rfl, (by have q0 : (0 : Int32).toInt = 0 := rfl; have q1 : (1 : Int32).toInt = 1 := rfl; have q2 : (-1 : Int32).toInt = -1 := rfl; omega), rfl⟩
theorem dJ_0 : decode prog_137_method_19_code 0 = .ok (.lconst 1, 1) := by decide +kernel
theorem dJ_1 : decode prog_137_method_19_code 1 = .ok (.lstore_n 1, 1) := by decide +kernel
theorem dJ_2 : decode prog_137_method_19_code 2 = .ok (.iconst 0, 1) := by decide +kernel
theorem dJ_3 : decode prog_137_method_19_code 3 = .ok (.istore_n 3, 1) := by decide +kernel
theorem dJ_4 : decode prog_137_method_19_code 4 = .ok (.iload_n 3, 1) := by decide +kernel
theorem dJ_5 : decode prog_137_method_19_code 5 = .ok (.aload_n 0, 1) := by decide +kernel
theorem dJ_6 : decode prog_137_method_19_code 6 = .ok (.getfield 26, 3) := by decide +kernel
theorem dJ_9 : decode prog_137_method_19_code 9 = .ok (.arraylength, 1) := by decide +kernel
theorem dJ_10 : decode prog_137_method_19_code 10 = .ok (.if_icmp .ge 46, 3) := by decide +kernel
theorem dJ_13 : decode prog_137_method_19_code 13 = .ok (.aload_n 0, 1) := by decide +kernel
theorem dJ_14 : decode prog_137_method_19_code 14 = .ok (.getfield 26, 3) := by decide +kernel
theorem dJ_17 : decode prog_137_method_19_code 17 = .ok (.iload_n 3, 1) := by decide +kernel
theorem dJ_18 : decode prog_137_method_19_code 18 = .ok (.aload_n 0, 1) := by decide +kernel
theorem dJ_19 : decode prog_137_method_19_code 19 = .ok (.getfield 26, 3) := by decide +kernel
theorem dJ_22 : decode prog_137_method_19_code 22 = .ok (.iload_n 3, 1) := by decide +kernel
theorem dJ_23 : decode prog_137_method_19_code 23 = .ok (.laload, 1) := by decide +kernel
theorem dJ_24 : decode prog_137_method_19_code 24 = .ok (.ldc2_w 128, 3) := by decide +kernel
theorem tw_51 {a0 : Array Value} {Z : State} (hw : HW a0 Z) : (Jvm.Cond.constantLong "com/example/meterwise/meterwise/model/WholeNumber" (128 : Nat) (-1 : Int64)).before a0 Z = true := hw _ (List.mem_of_getElem? (i := 51) rfl)
theorem dJ_27 : decode prog_137_method_19_code 27 = .ok (.lxor, 1) := by decide +kernel
theorem dJ_28 : decode prog_137_method_19_code 28 = .ok (.lload_n 1, 1) := by decide +kernel
theorem dJ_29 : decode prog_137_method_19_code 29 = .ok (.ladd, 1) := by decide +kernel
theorem dJ_30 : decode prog_137_method_19_code 30 = .ok (.lastore, 1) := by decide +kernel
theorem dJ_31 : decode prog_137_method_19_code 31 = .ok (.lload_n 1, 1) := by decide +kernel
theorem dJ_32 : decode prog_137_method_19_code 32 = .ok (.aload_n 0, 1) := by decide +kernel
theorem dJ_33 : decode prog_137_method_19_code 33 = .ok (.getfield 26, 3) := by decide +kernel
theorem dJ_36 : decode prog_137_method_19_code 36 = .ok (.iload_n 3, 1) := by decide +kernel
theorem dJ_37 : decode prog_137_method_19_code 37 = .ok (.laload, 1) := by decide +kernel
theorem dJ_38 : decode prog_137_method_19_code 38 = .ok (.lconst 0, 1) := by decide +kernel
theorem dJ_39 : decode prog_137_method_19_code 39 = .ok (.lcmp, 1) := by decide +kernel
theorem dJ_40 : decode prog_137_method_19_code 40 = .ok (.ifCond .ne 7, 3) := by decide +kernel
theorem dJ_47 : decode prog_137_method_19_code 47 = .ok (.lconst 0, 1) := by decide +kernel
theorem dJ_43 : decode prog_137_method_19_code 43 = .ok (.lconst 1, 1) := by decide +kernel
theorem dJ_44 : decode prog_137_method_19_code 44 = .ok (.goto 4, 3) := by decide +kernel
theorem dJ_48 : decode prog_137_method_19_code 48 = .ok (.land, 1) := by decide +kernel
theorem dJ_49 : decode prog_137_method_19_code 49 = .ok (.lstore_n 1, 1) := by decide +kernel
theorem dJ_50 : decode prog_137_method_19_code 50 = .ok (.iinc 3 1, 3) := by decide +kernel
theorem dJ_53 : decode prog_137_method_19_code 53 = .ok (.goto (-49), 3) := by decide +kernel
theorem dJ_56 : decode prog_137_method_19_code 56 = .ok (.aload_n 0, 1) := by decide +kernel
theorem dJ_57 : decode prog_137_method_19_code 57 = .ok (.areturn, 1) := by decide +kernel
def R12 : Room := { frames := 0, cells := 0, slots := 0, locals := 0 }
def Q12 (Z : State) (o : Addr) (wo : Addr) (ko : ClassId) (x0 : Int64) (h0 : Heap) (v : Option Value) (h : Heap) : Prop := v = some (.ref o) ∧ Keep h0 h [wo] ∧ Arv Z h wo ko .long (1 : Int32) [(.long (own_o x0 1))] (.long 0)
theorem ef12 (o : Addr) (m : MethodId) : entryFrame m #[(.ref o)] 4 = mkF m 0 #[.val (.ref o), .unset, .unset, .unset] [] := by first | (simp [entryFrame, mkF, argsToLocals, Value.category]; done) | rfl
theorem rm12 (l : Launch) (Z : State) (a0 : Array Value) (hw : HW a0 Z) (ws : List Jvm.Cond) (o : Addr) (wo : Addr) (ko : ClassId) (x0 : Int64) (h0 : Heap) (n0 : Nat) (Z0 : n0 ≤ h0.size) (E_o : Exa Z h0 o "com/example/meterwise/meterwise/model/WholeNumber") (F_o : Fld Z h0 o "com/example/meterwise/meterwise/model/WholeNumber" "words" "[J" (.ref wo)) (V_o : Arv Z h0 wo ko .long (1 : Int32) [(.long x0)] (.long 0)) (g_o : n0 ≤ wo) (nn_o : own_ne o wo) : OMet l Z ws (⟨"com/example/meterwise/meterwise/model/WholeNumber", "negate", "()Lcom/example/meterwise/meterwise/model/WholeNumber;"⟩ : MethodName) prog_137_method_19_code 4 (some (.object "com/example/meterwise/meterwise/model/WholeNumber")) R12 #[(.ref o)] h0 n0 (Q12 Z o wo ko x0 h0) := by
  refine OMet.of (own := "com/example/meterwise/meterwise/model/WholeNumber") rfl (plainFor_of_name pn_0) (ef12 o) Z0 ?_
  intro p e s m below meth c T0 Y0 hnm
  refine Gl.lconst Y0 (v := (1 : Int64)) (by decide) dJ_0 rfl ?_
  refine Gl.lstoreN Y0 (L' := #[.val (.ref o), .val (.long 1), .second, .unset]) rfl dJ_1 rfl ?_
  refine Gl.iconst Y0 (v := (0 : Int32)) (by decide) dJ_2 rfl ?_
  refine Gl.istoreN Y0 (L' := #[.val (.ref o), .val (.long 1), .second, .val (.int 0)]) rfl dJ_3 rfl ?_
  refine Gl.iloadN Y0 rfl dJ_4 rfl ?_
  refine Gl.aloadN Y0 rfl rfl dJ_5 rfl ?_
  refine Gl.getF Y0 (host := "") (Or.inl (tw_14 hw)) Via.refl F_o dJ_6 rfl (fun T6 Y6 => ?_)
  refine Gl.arraylength Y6 V_o dJ_9 rfl ?_
  refine Gl.icmpge Y6 dJ_10 (by decide) rfl rfl (fun c10 => ?_) (fun c10 => ?_)
  · exact absurd c10 (by decide)
  refine Gl.aloadN Y6 rfl rfl dJ_13 rfl ?_
  refine Gl.getF Y6 (host := "") (Or.inl (tw_14 hw)) Via.refl F_o dJ_14 rfl (fun T14 Y14 => ?_)
  refine Gl.iloadN Y14 rfl dJ_17 rfl ?_
  refine Gl.aloadN Y14 rfl rfl dJ_18 rfl ?_
  refine Gl.getF Y14 (host := "") (Or.inl (tw_14 hw)) Via.refl F_o dJ_19 rfl (fun T19 Y19 => ?_)
  refine Gl.iloadN Y19 rfl dJ_22 rfl ?_
  refine Gl.laload Y19 V_o ⟨by decide, by decide⟩ (v := (.long x0)) rfl dJ_23 rfl ?_
  refine Gl.ldcJ Y19 (tw_51 hw) dJ_24 rfl ?_
  refine Gl.lxor Y19 rfl dJ_27 rfl ?_
  refine Gl.lloadN Y19 rfl dJ_28 rfl ?_
  refine Gl.ladd Y19 rfl dJ_29 rfl ?_
  refine Gl.lastore Y19 V_o (v := (.long ((x0 ^^^ (-1 : Int64)) + (1 : Int64)))) rfl ⟨by decide, by decide⟩ (ix := 0) rfl (Nat.le_of_ble_eq_true rfl) g_o dJ_30 rfl (fun T30 h30 Y30 W30 A30 => ?_)
  have A30 : Arv Z h30 wo ko .long (1 : Int32) [(.long ((x0 ^^^ (-1 : Int64)) + (1 : Int64)))] (.long 0) := A30
  have K30 : Keep h0 h30 [wo] := (Keep.refl h0 [wo]).wr W30 (Or.inl (List.mem_of_getElem? (i := 0) rfl))
  show Gl p e below _ (T30.setTop (mkF m 31 _ []))
  refine Gl.lloadN Y30 rfl dJ_31 rfl ?_
  refine Gl.aloadN Y30 rfl rfl dJ_32 rfl ?_
  have f1 := (Fld.other W30 F_o (Or.inl nn_o))
  refine Gl.getF Y30 (host := "") (Or.inl (tw_14 hw)) Via.refl f1 dJ_33 rfl (fun T33 Y33 => ?_)
  refine Gl.iloadN Y33 rfl dJ_36 rfl ?_
  refine Gl.laload Y33 A30 ⟨by decide, by decide⟩ (v := (.long ((x0 ^^^ (-1 : Int64)) + (1 : Int64)))) rfl dJ_37 rfl ?_
  refine Gl.lconst Y33 (v := (0 : Int64)) (by decide) dJ_38 rfl ?_
  obtain ⟨z39, hz39⟩ : ∃ z : Int64, (if ((x0 ^^^ (-1 : Int64)) + (1 : Int64)) = (0 : Int64) then (1 : Int64) else (0 : Int64)) = z := ⟨_, rfl⟩
  refine own_cut (B := ∀ T', Sd Z "com/example/meterwise/meterwise/model/WholeNumber" prog_137_method_19_code 4 (some (.object "com/example/meterwise/meterwise/model/WholeNumber")) n0 p l e R12 s m #[(.ref o)] below meth c T' h30 0 0 → Gl p e below (Pst s n0 R12.cells R12.slots (Q12 Z o wo ko x0 h0)) (T'.setTop (mkF m 48 #[.val (.ref o), .val (.long 1), .second, .val (.int 0)] [(.long z39), (.long 1)]))) (fun jk => ?_) (fun T39j Y39j => ?_)
  · refine Gl.lcmpne Y33 dJ_39 rfl dJ_40 (by decide) rfl rfl (fun c40 => ?_) (fun c40 => ?_)
    · refine Gl.lconst Y33 (v := (0 : Int64)) (by decide) dJ_47 rfl ?_
      have ez39 : z39 = (0 : Int64) := by rw [← hz39]; simp only [c40, ↓reduceIte, if_true, if_false]
      rw [ez39] at jk
      exact jk T33 Y33
    · refine Gl.lconst Y33 (v := (1 : Int64)) (by decide) dJ_43 rfl ?_
      refine Gl.goto Y33 dJ_44 (by decide) rfl ?_
      have ez39 : z39 = (1 : Int64) := by rw [← hz39]; simp only [c40, ↓reduceIte, if_true, if_false]
      rw [ez39] at jk
      exact jk T33 Y33
  refine Gl.land Y39j rfl dJ_48 rfl ?_
  refine Gl.lstoreN Y39j (L' := #[.val (.ref o), .val (.long ((1 : Int64) &&& z39)), .second, .val (.int 0)]) rfl dJ_49 rfl ?_
  refine Gl.iinc Y39j rfl (r := (1 : Int32)) (by decide) (L' := #[.val (.ref o), .val (.long ((1 : Int64) &&& z39)), .second, .val (.int 1)]) rfl dJ_50 rfl ?_
  refine Gl.goto Y39j dJ_53 (by decide) rfl ?_
  refine Gl.iloadN Y39j rfl dJ_4 rfl ?_
  refine Gl.aloadN Y39j rfl rfl dJ_5 rfl ?_
  refine Gl.getF Y39j (host := "") (Or.inl (tw_14 hw)) Via.refl f1 dJ_6 rfl (fun T6_2 Y6_2 => ?_)
  refine Gl.arraylength Y6_2 A30 dJ_9 rfl ?_
  refine Gl.icmpge Y6_2 dJ_10 (by decide) rfl rfl (fun c10_2 => ?_) (fun c10_2 => ?_)
  rotate_left
  · exact absurd c10_2 (by decide)
  refine Gl.aloadN Y6_2 rfl rfl dJ_56 rfl ?_
  subst hz39
  exact Gl.retA Y6_2 (by decide) (by decide) rfl rfl dJ_57 ⟨rfl, K30, A30⟩
theorem dK_0 : decode jdk_29_method_65_code 0 = .ok (.iload_n 0, 1) := by decide +kernel
theorem dK_1 : decode jdk_29_method_65_code 1 = .ok (.iload_n 1, 1) := by decide +kernel
theorem dK_2 : decode jdk_29_method_65_code 2 = .ok (.if_icmp .lt 7, 3) := by decide +kernel
theorem dK_5 : decode jdk_29_method_65_code 5 = .ok (.iload_n 0, 1) := by decide +kernel
theorem dK_6 : decode jdk_29_method_65_code 6 = .ok (.goto 4, 3) := by decide +kernel
theorem dK_10 : decode jdk_29_method_65_code 10 = .ok (.ireturn, 1) := by decide +kernel
def R13 : Room := { frames := 0, cells := 0, slots := 0, locals := 0 }
def Q13 (Z : State) (h0 : Heap) (v : Option Value) (h : Heap) : Prop := v = some (.int 1) ∧ h0 = h
theorem ef13 (m : MethodId) : entryFrame m #[(.int 1), (.int 1)] 2 = mkF m 0 #[.val (.int 1), .val (.int 1)] [] := by first | (simp [entryFrame, mkF, argsToLocals, Value.category]; done) | rfl
theorem rm13 (l : Launch) (Z : State) (a0 : Array Value) (hw : HW a0 Z) (ws : List Jvm.Cond) (h0 : Heap) (n0 : Nat) (Z0 : n0 ≤ h0.size) : OMet l Z ws (⟨"java/lang/Math", "max", "(II)I"⟩ : MethodName) jdk_29_method_65_code 2 (some .int) R13 #[(.int 1), (.int 1)] h0 n0 (Q13 Z h0) := by
  refine OMet.of (own := "java/lang/Math") rfl (Jvm.Free.JP.mathPlain rfl (by decide +kernel)) (ef13) Z0 ?_
  intro p e s m below meth c T0 Y0 hnm
  refine Gl.iloadN Y0 rfl dK_0 rfl ?_
  refine Gl.iloadN Y0 rfl dK_1 rfl ?_
  refine Gl.icmplt Y0 dK_2 (by decide) rfl rfl (fun c2 => ?_) (fun c2 => ?_)
  · exact absurd c2 (by decide)
  refine Gl.iloadN Y0 rfl dK_5 rfl ?_
  refine Gl.goto Y0 dK_6 (by decide) rfl ?_
  exact Gl.retI Y0 (by decide) (by decide)  dK_10 ⟨rfl, rfl⟩
theorem dL_0 : decode prog_137_method_7_code 0 = .ok (.aload_n 0, 1) := by decide +kernel
theorem dL_1 : decode prog_137_method_7_code 1 = .ok (.getfield 26, 3) := by decide +kernel
theorem dL_4 : decode prog_137_method_7_code 4 = .ok (.lconst 0, 1) := by decide +kernel
theorem dL_5 : decode prog_137_method_7_code 5 = .ok (.invokestatic 105, 3) := by decide +kernel
theorem tw_72 {a0 : Array Value} {Z : State} (hw : HW a0 Z) : (Jvm.Cond.methodLink "com/example/meterwise/meterwise/model/WholeNumber" (105 : Nat) ({ cls := "java/util/Arrays", name := "fill", desc := "([JJ)V" } : Jvm.MethodName)).before a0 Z = true := hw _ (List.mem_of_getElem? (i := 72) rfl)
theorem pd_4 : parseMethodDescriptor "([JJ)V" = some ⟨[(.array .long), .long], none⟩ := by decide +kernel
theorem tw_74 {a0 : Array Value} {Z : State} (hw : HW a0 Z) : (Jvm.Cond.code ({ cls := "java/util/Arrays", name := "fill", desc := "([JJ)V" } : Jvm.MethodName) jdk_65_method_101_code (5 : Nat) (Option.none : Option Jvm.ClassFile.FieldType)).before a0 Z = true := hw _ (List.mem_of_getElem? (i := 74) rfl)
theorem tw_73 {a0 : Array Value} {Z : State} (hw : HW a0 Z) : (Jvm.Cond.static ({ cls := "java/util/Arrays", name := "fill", desc := "([JJ)V" } : Jvm.MethodName)).before a0 Z = true := hw _ (List.mem_of_getElem? (i := 73) rfl)
theorem dL_8 : decode prog_137_method_7_code 8 = .ok (.aload_n 0, 1) := by decide +kernel
theorem dL_9 : decode prog_137_method_7_code 9 = .ok (.getfield 26, 3) := by decide +kernel
theorem dL_12 : decode prog_137_method_7_code 12 = .ok (.aload_n 0, 1) := by decide +kernel
theorem dL_13 : decode prog_137_method_7_code 13 = .ok (.getfield 26, 3) := by decide +kernel
theorem dL_16 : decode prog_137_method_7_code 16 = .ok (.arraylength, 1) := by decide +kernel
theorem dL_17 : decode prog_137_method_7_code 17 = .ok (.iconst 1, 1) := by decide +kernel
theorem dL_18 : decode prog_137_method_7_code 18 = .ok (.isub, 1) := by decide +kernel
theorem dL_19 : decode prog_137_method_7_code 19 = .ok (.ldc2_w 108, 3) := by decide +kernel
theorem dL_22 : decode prog_137_method_7_code 22 = .ok (.lastore, 1) := by decide +kernel
theorem dL_23 : decode prog_137_method_7_code 23 = .ok (.aload_n 0, 1) := by decide +kernel
theorem dL_24 : decode prog_137_method_7_code 24 = .ok (.areturn, 1) := by decide +kernel
def R14 : Room := { frames := 1, cells := 0, slots := 0, locals := 16 }
def Q14 (Z : State) (o : Addr) (wo : Addr) (ko : ClassId) (x0 : Int64) (h0 : Heap) (v : Option Value) (h : Heap) : Prop := v = some (.ref o) ∧ Keep h0 h [wo] ∧ Arv Z h wo ko .long (1 : Int32) [(.long (-9223372036854775808))] (.long 0)
theorem ef14 (o : Addr) (m : MethodId) : entryFrame m #[(.ref o)] 1 = mkF m 0 #[.val (.ref o)] [] := by first | (simp [entryFrame, mkF, argsToLocals, Value.category]; done) | rfl
theorem rm14 (l : Launch) (Z : State) (a0 : Array Value) (hw : HW a0 Z) (ws : List Jvm.Cond) (o : Addr) (wo : Addr) (ko : ClassId) (x0 : Int64) (h0 : Heap) (n0 : Nat) (Z0 : n0 ≤ h0.size) (E_o : Exa Z h0 o "com/example/meterwise/meterwise/model/WholeNumber") (F_o : Fld Z h0 o "com/example/meterwise/meterwise/model/WholeNumber" "words" "[J" (.ref wo)) (V_o : Arv Z h0 wo ko .long (1 : Int32) [(.long x0)] (.long 0)) (g_o : n0 ≤ wo) (nn_o : own_ne o wo) : OMet l Z ws (⟨"com/example/meterwise/meterwise/model/WholeNumber", "overflow", "()Lcom/example/meterwise/meterwise/model/WholeNumber;"⟩ : MethodName) prog_137_method_7_code 1 (some (.object "com/example/meterwise/meterwise/model/WholeNumber")) R14 #[(.ref o)] h0 n0 (Q14 Z o wo ko x0 h0) := by
  refine OMet.of (own := "com/example/meterwise/meterwise/model/WholeNumber") rfl (plainFor_of_name pn_0) (ef14 o) Z0 ?_
  intro p e s m below meth c T0 Y0 hnm
  refine Gl.aloadN Y0 rfl rfl dL_0 rfl ?_
  refine Gl.getF Y0 (host := "") (Or.inl (tw_14 hw)) Via.refl F_o dL_1 rfl (fun T1 Y1 => ?_)
  refine Gl.lconst Y1 (v := (0 : Int64)) (by decide) dL_4 rfl ?_
  refine Gl.callS Y1 (tw_72 hw) (tw_73 hw) (tw_23 hw) (tw_74 hw) (by decide) (rm5 l Z a0 hw [] wo ko x0 h0 n0 Y1.sz V_o g_o) (argsL := [(.ref wo), (.long 0)]) (rest := []) rfl rfl (lenOf pd_4 rfl) rfl (by decide) (Nat.le_of_ble_eq_true rfl) (by decide) (by decide) dL_5 rfl (fun v5 T5 h5 Y5 q5 => ?_)
  obtain ⟨rfl, K5, f5_0⟩ := q5
  have KK5 : Keep h0 h5 [wo] := (Keep.refl h0 [wo]).trans K5 (allS (Or.inl (List.mem_of_getElem? (i := 0) rfl)) all0)
  show Gl p e below _ (T5.setTop (mkF m 8 _ []))
  refine Gl.aloadN Y5 rfl rfl dL_8 rfl ?_
  have f1 := (F_o.keep K5 (ninS nn_o nin0))
  refine Gl.getF Y5 (host := "") (Or.inl (tw_14 hw)) Via.refl f1 dL_9 rfl (fun T9 Y9 => ?_)
  refine Gl.aloadN Y9 rfl rfl dL_12 rfl ?_
  refine Gl.getF Y9 (host := "") (Or.inl (tw_14 hw)) Via.refl f1 dL_13 rfl (fun T13 Y13 => ?_)
  refine Gl.arraylength Y13 f5_0 dL_16 rfl ?_
  refine Gl.iconst Y13 (v := (1 : Int32)) (by decide) dL_17 rfl ?_
  refine Gl.isub Y13 (r := (0 : Int32)) (by decide) dL_18 rfl ?_
  refine Gl.ldcJ Y13 (tw_46 hw) dL_19 rfl ?_
  refine Gl.lastore Y13 f5_0 (v := (.long (-9223372036854775808))) rfl ⟨by decide, by decide⟩ (ix := 0) rfl (Nat.le_of_ble_eq_true rfl) g_o dL_22 rfl (fun T22 h22 Y22 W22 A22 => ?_)
  have A22 : Arv Z h22 wo ko .long (1 : Int32) [(.long (-9223372036854775808))] (.long 0) := A22
  have K22 : Keep h0 h22 [wo] := KK5.wr W22 (Or.inl (List.mem_of_getElem? (i := 0) rfl))
  show Gl p e below _ (T22.setTop (mkF m 23 _ []))
  refine Gl.aloadN Y22 rfl rfl dL_23 rfl ?_
  exact Gl.retA Y22 (by decide) (by decide) rfl rfl dL_24 ⟨rfl, K22, A22⟩
theorem dM_0 : decode prog_137_method_14_code 0 = .ok (.aload_n 0, 1) := by decide +kernel
theorem dM_1 : decode prog_137_method_14_code 1 = .ok (.invokevirtual 70, 3) := by decide +kernel
theorem tw_37 {a0 : Array Value} {Z : State} (hw : HW a0 Z) : (Jvm.Cond.methodLink "com/example/meterwise/meterwise/model/WholeNumber" (70 : Nat) ({ cls := "com/example/meterwise/meterwise/model/WholeNumber", name := "overflowed", desc := "()Z" } : Jvm.MethodName)).before a0 Z = true := hw _ (List.mem_of_getElem? (i := 37) rfl)
theorem tw_41 {a0 : Array Value} {Z : State} (hw : HW a0 Z) : (Jvm.Cond.code ({ cls := "com/example/meterwise/meterwise/model/WholeNumber", name := "overflowed", desc := "()Z" } : Jvm.MethodName) prog_137_method_8_code (1 : Nat) (Option.some Jvm.ClassFile.FieldType.boolean)).before a0 Z = true := hw _ (List.mem_of_getElem? (i := 41) rfl)
theorem tw_38 {a0 : Array Value} {Z : State} (hw : HW a0 Z) : (Jvm.Cond.declares ({ cls := "com/example/meterwise/meterwise/model/WholeNumber", name := "overflowed", desc := "()Z" } : Jvm.MethodName)).before a0 Z = true := hw _ (List.mem_of_getElem? (i := 38) rfl)
theorem tw_40 {a0 : Array Value} {Z : State} (hw : HW a0 Z) : (Jvm.Cond.selects "com/example/meterwise/meterwise/model/WholeNumber" ({ cls := "com/example/meterwise/meterwise/model/WholeNumber", name := "overflowed", desc := "()Z" } : Jvm.MethodName) ({ cls := "com/example/meterwise/meterwise/model/WholeNumber", name := "overflowed", desc := "()Z" } : Jvm.MethodName)).before a0 Z = true := hw _ (List.mem_of_getElem? (i := 40) rfl)
theorem tw_39 {a0 : Array Value} {Z : State} (hw : HW a0 Z) : (Jvm.Cond.instanceMethod ({ cls := "com/example/meterwise/meterwise/model/WholeNumber", name := "overflowed", desc := "()Z" } : Jvm.MethodName)).before a0 Z = true := hw _ (List.mem_of_getElem? (i := 39) rfl)
theorem dM_4 : decode prog_137_method_14_code 4 = .ok (.ifCond .ne 10, 3) := by decide +kernel
theorem dM_14 : decode prog_137_method_14_code 14 = .ok (.aload_n 0, 1) := by decide +kernel
theorem dM_15 : decode prog_137_method_14_code 15 = .ok (.invokevirtual 74, 3) := by decide +kernel
theorem tw_67 {a0 : Array Value} {Z : State} (hw : HW a0 Z) : (Jvm.Cond.methodLink "com/example/meterwise/meterwise/model/WholeNumber" (74 : Nat) ({ cls := "com/example/meterwise/meterwise/model/WholeNumber", name := "overflow", desc := "()Lcom/example/meterwise/meterwise/model/WholeNumber;" } : Jvm.MethodName)).before a0 Z = true := hw _ (List.mem_of_getElem? (i := 67) rfl)
theorem pd_5 : parseMethodDescriptor "()Lcom/example/meterwise/meterwise/model/WholeNumber;" = some ⟨[], some (.object "com/example/meterwise/meterwise/model/WholeNumber")⟩ := by decide +kernel
theorem tw_71 {a0 : Array Value} {Z : State} (hw : HW a0 Z) : (Jvm.Cond.code ({ cls := "com/example/meterwise/meterwise/model/WholeNumber", name := "overflow", desc := "()Lcom/example/meterwise/meterwise/model/WholeNumber;" } : Jvm.MethodName) prog_137_method_7_code (1 : Nat) (Option.some (Jvm.ClassFile.FieldType.object "com/example/meterwise/meterwise/model/WholeNumber"))).before a0 Z = true := hw _ (List.mem_of_getElem? (i := 71) rfl)
theorem tw_68 {a0 : Array Value} {Z : State} (hw : HW a0 Z) : (Jvm.Cond.declares ({ cls := "com/example/meterwise/meterwise/model/WholeNumber", name := "overflow", desc := "()Lcom/example/meterwise/meterwise/model/WholeNumber;" } : Jvm.MethodName)).before a0 Z = true := hw _ (List.mem_of_getElem? (i := 68) rfl)
theorem tw_70 {a0 : Array Value} {Z : State} (hw : HW a0 Z) : (Jvm.Cond.selects "com/example/meterwise/meterwise/model/WholeNumber" ({ cls := "com/example/meterwise/meterwise/model/WholeNumber", name := "overflow", desc := "()Lcom/example/meterwise/meterwise/model/WholeNumber;" } : Jvm.MethodName) ({ cls := "com/example/meterwise/meterwise/model/WholeNumber", name := "overflow", desc := "()Lcom/example/meterwise/meterwise/model/WholeNumber;" } : Jvm.MethodName)).before a0 Z = true := hw _ (List.mem_of_getElem? (i := 70) rfl)
theorem tw_69 {a0 : Array Value} {Z : State} (hw : HW a0 Z) : (Jvm.Cond.instanceMethod ({ cls := "com/example/meterwise/meterwise/model/WholeNumber", name := "overflow", desc := "()Lcom/example/meterwise/meterwise/model/WholeNumber;" } : Jvm.MethodName)).before a0 Z = true := hw _ (List.mem_of_getElem? (i := 69) rfl)
theorem dM_18 : decode prog_137_method_14_code 18 = .ok (.areturn, 1) := by decide +kernel
theorem dM_7 : decode prog_137_method_14_code 7 = .ok (.aload_n 1, 1) := by decide +kernel
theorem dM_8 : decode prog_137_method_14_code 8 = .ok (.invokevirtual 70, 3) := by decide +kernel
theorem dM_11 : decode prog_137_method_14_code 11 = .ok (.ifCond .eq 8, 3) := by decide +kernel
theorem dM_19 : decode prog_137_method_14_code 19 = .ok (.aload_n 1, 1) := by decide +kernel
theorem dM_20 : decode prog_137_method_14_code 20 = .ok (.getfield 26, 3) := by decide +kernel
theorem dM_23 : decode prog_137_method_14_code 23 = .ok (.astore_n 3, 1) := by decide +kernel
theorem dM_24 : decode prog_137_method_14_code 24 = .ok (.aload_n 0, 1) := by decide +kernel
theorem dM_25 : decode prog_137_method_14_code 25 = .ok (.getfield 26, 3) := by decide +kernel
theorem dM_28 : decode prog_137_method_14_code 28 = .ok (.arraylength, 1) := by decide +kernel
theorem dM_29 : decode prog_137_method_14_code 29 = .ok (.aload_n 3, 1) := by decide +kernel
theorem dM_30 : decode prog_137_method_14_code 30 = .ok (.arraylength, 1) := by decide +kernel
theorem dM_31 : decode prog_137_method_14_code 31 = .ok (.invokestatic 36, 3) := by decide +kernel
theorem tw_47 {a0 : Array Value} {Z : State} (hw : HW a0 Z) : (Jvm.Cond.methodLink "com/example/meterwise/meterwise/model/WholeNumber" (36 : Nat) ({ cls := "java/lang/Math", name := "max", desc := "(II)I" } : Jvm.MethodName)).before a0 Z = true := hw _ (List.mem_of_getElem? (i := 47) rfl)
theorem pd_6 : parseMethodDescriptor "(II)I" = some ⟨[.int, .int], some .int⟩ := by decide +kernel
theorem tw_50 {a0 : Array Value} {Z : State} (hw : HW a0 Z) : (Jvm.Cond.code ({ cls := "java/lang/Math", name := "max", desc := "(II)I" } : Jvm.MethodName) jdk_29_method_65_code (2 : Nat) (Option.some Jvm.ClassFile.FieldType.int)).before a0 Z = true := hw _ (List.mem_of_getElem? (i := 50) rfl)
theorem tw_49 {a0 : Array Value} {Z : State} (hw : HW a0 Z) : (Jvm.Cond.initialized "java/lang/Math").before a0 Z = true := hw _ (List.mem_of_getElem? (i := 49) rfl)
theorem tw_48 {a0 : Array Value} {Z : State} (hw : HW a0 Z) : (Jvm.Cond.static ({ cls := "java/lang/Math", name := "max", desc := "(II)I" } : Jvm.MethodName)).before a0 Z = true := hw _ (List.mem_of_getElem? (i := 48) rfl)
theorem dM_34 : decode prog_137_method_14_code 34 = .ok (.istore 4, 2) := by decide +kernel
theorem dM_36 : decode prog_137_method_14_code 36 = .ok (.aload_n 0, 1) := by decide +kernel
theorem dM_37 : decode prog_137_method_14_code 37 = .ok (.invokevirtual 78, 3) := by decide +kernel
theorem dM_40 : decode prog_137_method_14_code 40 = .ok (.bipush 63, 2) := by decide +kernel
theorem dM_42 : decode prog_137_method_14_code 42 = .ok (.lshr, 1) := by decide +kernel
theorem dM_43 : decode prog_137_method_14_code 43 = .ok (.lstore 5, 2) := by decide +kernel
theorem dM_45 : decode prog_137_method_14_code 45 = .ok (.aload_n 3, 1) := by decide +kernel
theorem dM_46 : decode prog_137_method_14_code 46 = .ok (.aload_n 3, 1) := by decide +kernel
theorem dM_47 : decode prog_137_method_14_code 47 = .ok (.arraylength, 1) := by decide +kernel
theorem dM_48 : decode prog_137_method_14_code 48 = .ok (.iconst 1, 1) := by decide +kernel
theorem dM_49 : decode prog_137_method_14_code 49 = .ok (.isub, 1) := by decide +kernel
theorem dM_50 : decode prog_137_method_14_code 50 = .ok (.laload, 1) := by decide +kernel
theorem dM_51 : decode prog_137_method_14_code 51 = .ok (.bipush 63, 2) := by decide +kernel
theorem dM_53 : decode prog_137_method_14_code 53 = .ok (.lshr, 1) := by decide +kernel
theorem dM_54 : decode prog_137_method_14_code 54 = .ok (.lstore 7, 2) := by decide +kernel
theorem dM_56 : decode prog_137_method_14_code 56 = .ok (.iload_n 2, 1) := by decide +kernel
theorem dM_57 : decode prog_137_method_14_code 57 = .ok (.ifCond .eq 9, 3) := by decide +kernel
theorem dM_66 : decode prog_137_method_14_code 66 = .ok (.lconst 0, 1) := by decide +kernel
theorem dM_67 : decode prog_137_method_14_code 67 = .ok (.lstore 9, 2) := by decide +kernel
theorem dM_69 : decode prog_137_method_14_code 69 = .ok (.iload_n 2, 1) := by decide +kernel
theorem dM_70 : decode prog_137_method_14_code 70 = .ok (.ifCond .eq 7, 3) := by decide +kernel
theorem dM_77 : decode prog_137_method_14_code 77 = .ok (.lconst 0, 1) := by decide +kernel
theorem dM_78 : decode prog_137_method_14_code 78 = .ok (.lstore 11, 2) := by decide +kernel
theorem dM_80 : decode prog_137_method_14_code 80 = .ok (.lconst 0, 1) := by decide +kernel
theorem dM_81 : decode prog_137_method_14_code 81 = .ok (.lstore 13, 2) := by decide +kernel
theorem dM_83 : decode prog_137_method_14_code 83 = .ok (.lconst 0, 1) := by decide +kernel
theorem dM_84 : decode prog_137_method_14_code 84 = .ok (.lstore 15, 2) := by decide +kernel
theorem dM_86 : decode prog_137_method_14_code 86 = .ok (.lconst 0, 1) := by decide +kernel
theorem dM_87 : decode prog_137_method_14_code 87 = .ok (.lstore 17, 2) := by decide +kernel
theorem dM_89 : decode prog_137_method_14_code 89 = .ok (.iconst 1, 1) := by decide +kernel
theorem dM_90 : decode prog_137_method_14_code 90 = .ok (.istore 19, 2) := by decide +kernel
theorem dM_92 : decode prog_137_method_14_code 92 = .ok (.iconst 0, 1) := by decide +kernel
theorem dM_93 : decode prog_137_method_14_code 93 = .ok (.istore 20, 2) := by decide +kernel
theorem dM_95 : decode prog_137_method_14_code 95 = .ok (.iload 20, 2) := by decide +kernel
theorem dM_97 : decode prog_137_method_14_code 97 = .ok (.iload 4, 2) := by decide +kernel
theorem dM_99 : decode prog_137_method_14_code 99 = .ok (.if_icmp .ge 132, 3) := by decide +kernel
theorem dM_102 : decode prog_137_method_14_code 102 = .ok (.iload 20, 2) := by decide +kernel
theorem dM_104 : decode prog_137_method_14_code 104 = .ok (.aload_n 0, 1) := by decide +kernel
theorem dM_105 : decode prog_137_method_14_code 105 = .ok (.getfield 26, 3) := by decide +kernel
theorem dM_108 : decode prog_137_method_14_code 108 = .ok (.arraylength, 1) := by decide +kernel
theorem dM_109 : decode prog_137_method_14_code 109 = .ok (.if_icmp .ge 13, 3) := by decide +kernel
theorem dM_112 : decode prog_137_method_14_code 112 = .ok (.aload_n 0, 1) := by decide +kernel
theorem dM_113 : decode prog_137_method_14_code 113 = .ok (.getfield 26, 3) := by decide +kernel
theorem dM_116 : decode prog_137_method_14_code 116 = .ok (.iload 20, 2) := by decide +kernel
theorem dM_118 : decode prog_137_method_14_code 118 = .ok (.laload, 1) := by decide +kernel
theorem dM_119 : decode prog_137_method_14_code 119 = .ok (.goto 5, 3) := by decide +kernel
theorem dM_124 : decode prog_137_method_14_code 124 = .ok (.lstore 13, 2) := by decide +kernel
theorem dM_126 : decode prog_137_method_14_code 126 = .ok (.iload 20, 2) := by decide +kernel
theorem dM_128 : decode prog_137_method_14_code 128 = .ok (.aload_n 3, 1) := by decide +kernel
theorem dM_129 : decode prog_137_method_14_code 129 = .ok (.arraylength, 1) := by decide +kernel
theorem dM_130 : decode prog_137_method_14_code 130 = .ok (.if_icmp .ge 10, 3) := by decide +kernel
theorem dM_133 : decode prog_137_method_14_code 133 = .ok (.aload_n 3, 1) := by decide +kernel
theorem dM_134 : decode prog_137_method_14_code 134 = .ok (.iload 20, 2) := by decide +kernel
theorem dM_136 : decode prog_137_method_14_code 136 = .ok (.laload, 1) := by decide +kernel
theorem dM_137 : decode prog_137_method_14_code 137 = .ok (.goto 5, 3) := by decide +kernel
theorem dM_142 : decode prog_137_method_14_code 142 = .ok (.lload 9, 2) := by decide +kernel
theorem dM_144 : decode prog_137_method_14_code 144 = .ok (.lxor, 1) := by decide +kernel
theorem dM_145 : decode prog_137_method_14_code 145 = .ok (.lstore 15, 2) := by decide +kernel
theorem dM_147 : decode prog_137_method_14_code 147 = .ok (.lload 13, 2) := by decide +kernel
theorem dM_149 : decode prog_137_method_14_code 149 = .ok (.lload 15, 2) := by decide +kernel
theorem dM_151 : decode prog_137_method_14_code 151 = .ok (.ladd, 1) := by decide +kernel
theorem dM_152 : decode prog_137_method_14_code 152 = .ok (.lload 11, 2) := by decide +kernel
theorem dM_154 : decode prog_137_method_14_code 154 = .ok (.ladd, 1) := by decide +kernel
theorem dM_155 : decode prog_137_method_14_code 155 = .ok (.lstore 17, 2) := by decide +kernel
theorem dM_157 : decode prog_137_method_14_code 157 = .ok (.lload 13, 2) := by decide +kernel
theorem dM_159 : decode prog_137_method_14_code 159 = .ok (.lload 15, 2) := by decide +kernel
theorem dM_161 : decode prog_137_method_14_code 161 = .ok (.land, 1) := by decide +kernel
theorem dM_162 : decode prog_137_method_14_code 162 = .ok (.lload 13, 2) := by decide +kernel
theorem dM_164 : decode prog_137_method_14_code 164 = .ok (.lload 15, 2) := by decide +kernel
theorem dM_166 : decode prog_137_method_14_code 166 = .ok (.lor, 1) := by decide +kernel
theorem dM_167 : decode prog_137_method_14_code 167 = .ok (.lload 17, 2) := by decide +kernel
theorem dM_169 : decode prog_137_method_14_code 169 = .ok (.ldc2_w 128, 3) := by decide +kernel
theorem dM_172 : decode prog_137_method_14_code 172 = .ok (.lxor, 1) := by decide +kernel
theorem dM_173 : decode prog_137_method_14_code 173 = .ok (.land, 1) := by decide +kernel
theorem dM_174 : decode prog_137_method_14_code 174 = .ok (.lor, 1) := by decide +kernel
theorem dM_175 : decode prog_137_method_14_code 175 = .ok (.bipush 63, 2) := by decide +kernel
theorem dM_177 : decode prog_137_method_14_code 177 = .ok (.lushr, 1) := by decide +kernel
theorem dM_178 : decode prog_137_method_14_code 178 = .ok (.lstore 11, 2) := by decide +kernel
theorem dM_180 : decode prog_137_method_14_code 180 = .ok (.iload 20, 2) := by decide +kernel
theorem dM_182 : decode prog_137_method_14_code 182 = .ok (.aload_n 0, 1) := by decide +kernel
theorem dM_183 : decode prog_137_method_14_code 183 = .ok (.getfield 26, 3) := by decide +kernel
theorem dM_186 : decode prog_137_method_14_code 186 = .ok (.arraylength, 1) := by decide +kernel
theorem dM_187 : decode prog_137_method_14_code 187 = .ok (.if_icmp .ge 15, 3) := by decide +kernel
theorem dM_190 : decode prog_137_method_14_code 190 = .ok (.aload_n 0, 1) := by decide +kernel
theorem dM_191 : decode prog_137_method_14_code 191 = .ok (.getfield 26, 3) := by decide +kernel
theorem dM_194 : decode prog_137_method_14_code 194 = .ok (.iload 20, 2) := by decide +kernel
theorem dM_196 : decode prog_137_method_14_code 196 = .ok (.lload 17, 2) := by decide +kernel
theorem dM_198 : decode prog_137_method_14_code 198 = .ok (.lastore, 1) := by decide +kernel
theorem dM_199 : decode prog_137_method_14_code 199 = .ok (.goto 26, 3) := by decide +kernel
theorem dM_225 : decode prog_137_method_14_code 225 = .ok (.iinc 20 1, 3) := by decide +kernel
theorem dM_228 : decode prog_137_method_14_code 228 = .ok (.goto (-133), 3) := by decide +kernel
theorem dM_231 : decode prog_137_method_14_code 231 = .ok (.iload 19, 2) := by decide +kernel
theorem dM_233 : decode prog_137_method_14_code 233 = .ok (.ifCond .eq 23, 3) := by decide +kernel
theorem dM_236 : decode prog_137_method_14_code 236 = .ok (.lload 13, 2) := by decide +kernel
theorem dM_238 : decode prog_137_method_14_code 238 = .ok (.lload 17, 2) := by decide +kernel
theorem dM_240 : decode prog_137_method_14_code 240 = .ok (.lxor, 1) := by decide +kernel
theorem dM_241 : decode prog_137_method_14_code 241 = .ok (.lload 15, 2) := by decide +kernel
theorem dM_243 : decode prog_137_method_14_code 243 = .ok (.lload 17, 2) := by decide +kernel
theorem dM_245 : decode prog_137_method_14_code 245 = .ok (.lxor, 1) := by decide +kernel
theorem dM_246 : decode prog_137_method_14_code 246 = .ok (.land, 1) := by decide +kernel
theorem dM_247 : decode prog_137_method_14_code 247 = .ok (.lconst 0, 1) := by decide +kernel
theorem dM_248 : decode prog_137_method_14_code 248 = .ok (.lcmp, 1) := by decide +kernel
theorem dM_249 : decode prog_137_method_14_code 249 = .ok (.ifCond .lt 7, 3) := by decide +kernel
theorem dM_256 : decode prog_137_method_14_code 256 = .ok (.aload_n 0, 1) := by decide +kernel
theorem dM_257 : decode prog_137_method_14_code 257 = .ok (.invokevirtual 74, 3) := by decide +kernel
theorem dM_260 : decode prog_137_method_14_code 260 = .ok (.areturn, 1) := by decide +kernel
theorem dM_252 : decode prog_137_method_14_code 252 = .ok (.aload_n 0, 1) := by decide +kernel
theorem dM_253 : decode prog_137_method_14_code 253 = .ok (.goto 7, 3) := by decide +kernel
def R15 : Room := { frames := 2, cells := 0, slots := 0, locals := 28 }
def Q15 (Z : State) (o : Addr) (wo : Addr) (ko : ClassId) (x0 : Int64) (u : Addr) (wu : Addr) (ku : ClassId) (y0 : Int64) (h0 : Heap) (v : Option Value) (h : Heap) : Prop := ∃ e0 : Int64, v = some (.ref o) ∧ (((x0.toInt = (-9223372036854775808) ∨ y0.toInt = (-9223372036854775808) ∨ x0.toInt + y0.toInt < (-9223372036854775808) ∨ 9223372036854775807 < x0.toInt + y0.toInt) ∧ e0.toInt = (-9223372036854775808)) ∨ (¬ (x0.toInt = (-9223372036854775808) ∨ y0.toInt = (-9223372036854775808) ∨ x0.toInt + y0.toInt < (-9223372036854775808) ∨ 9223372036854775807 < x0.toInt + y0.toInt) ∧ e0.toInt = x0.toInt + y0.toInt)) ∧ Keep h0 h [wo] ∧ Arv Z h wo ko .long (1 : Int32) [(.long e0)] (.long 0)
theorem ef15 (o : Addr) (u : Addr) (m : MethodId) : entryFrame m #[(.ref o), (.ref u), (.int 0)] 21 = mkF m 0 #[.val (.ref o), .val (.ref u), .val (.int 0), .unset, .unset, .unset, .unset, .unset, .unset, .unset, .unset, .unset, .unset, .unset, .unset, .unset, .unset, .unset, .unset, .unset, .unset] [] := by first | (simp [entryFrame, mkF, argsToLocals, Value.category]; done) | rfl
theorem rm15 (l : Launch) (Z : State) (a0 : Array Value) (hw : HW a0 Z) (ws : List Jvm.Cond) (o : Addr) (wo : Addr) (ko : ClassId) (x0 : Int64) (u : Addr) (wu : Addr) (ku : ClassId) (y0 : Int64) (h0 : Heap) (n0 : Nat) (Z0 : n0 ≤ h0.size) (E_o : Exa Z h0 o "com/example/meterwise/meterwise/model/WholeNumber") (F_o : Fld Z h0 o "com/example/meterwise/meterwise/model/WholeNumber" "words" "[J" (.ref wo)) (V_o : Arv Z h0 wo ko .long (1 : Int32) [(.long x0)] (.long 0)) (g_o : n0 ≤ wo) (nn_o : own_ne o wo) (E_u : Exa Z h0 u "com/example/meterwise/meterwise/model/WholeNumber") (F_u : Fld Z h0 u "com/example/meterwise/meterwise/model/WholeNumber" "words" "[J" (.ref wu)) (V_u : Arv Z h0 wu ku .long (1 : Int32) [(.long y0)] (.long 0)) (nw : own_ne wo wu) (np : own_ne u wo) : OMet l Z ws (⟨"com/example/meterwise/meterwise/model/WholeNumber", "add", "(Lcom/example/meterwise/meterwise/model/WholeNumber;Z)Lcom/example/meterwise/meterwise/model/WholeNumber;"⟩ : MethodName) prog_137_method_14_code 21 (some (.object "com/example/meterwise/meterwise/model/WholeNumber")) R15 #[(.ref o), (.ref u), (.int 0)] h0 n0 (Q15 Z o wo ko x0 u wu ku y0 h0) := by
  refine OMet.of (own := "com/example/meterwise/meterwise/model/WholeNumber") rfl (plainFor_of_name pn_0) (ef15 o u) Z0 ?_
  intro p e s m below meth c T0 Y0 hnm
  refine Gl.aloadN Y0 rfl rfl dM_0 rfl ?_
  refine Gl.callV Y0 (tw_37 hw) (tw_38 hw) (tw_40 hw) (tw_40 hw) (tw_39 hw) (tw_2 hw) (tw_41 hw) (by decide) E_o (rm10 l Z a0 hw [] o wo ko x0 h0 n0 Y0.sz E_o F_o V_o) (a := o) (argsL := []) (rest := []) rfl rfl (lenOf pd_3 rfl) rfl (by decide) (Nat.le_of_ble_eq_true rfl) (by decide) (by decide) dM_1 rfl (fun v1 T1 h1 Y1 q1 => ?_)
  obtain ⟨r1, rfl, p1, rfl⟩ := q1
  have br1 : r1 = 0 ∨ r1 = 1 := by rcases p1 with q | q; exact Or.inr (Int32.toInt_inj.mp q.2); exact Or.inl (Int32.toInt_inj.mp q.2)
  show Gl p e below _ (T1.setTop (mkF m 4 _ [(.int r1)]))
  refine Gl.ifne Y1 dM_4 (by decide) rfl rfl (fun c4 => ?_) (fun c4 => ?_)
  · refine Gl.aloadN Y1 rfl rfl dM_14 rfl ?_
    refine Gl.callV Y1 (tw_67 hw) (tw_68 hw) (tw_70 hw) (tw_70 hw) (tw_69 hw) (tw_2 hw) (tw_71 hw) (by decide) E_o (rm14 l Z a0 hw [] o wo ko x0 h0 n0 Y1.sz E_o F_o V_o g_o nn_o) (a := o) (argsL := []) (rest := []) rfl rfl (lenOf pd_5 rfl) rfl (by decide) (Nat.le_of_ble_eq_true rfl) (by decide) (by decide) dM_15 rfl (fun v15 T15 h15 Y15 q15 => ?_)
    obtain ⟨rfl, K15, f15_0⟩ := q15
    have KK15 : Keep h0 h15 [wo] := (Keep.refl h0 [wo]).trans K15 (allS (Or.inl (List.mem_of_getElem? (i := 0) rfl)) all0)
    show Gl p e below _ (T15.setTop (mkF m 18 _ [(.ref o)]))
    exact Gl.retA Y15 (by decide) (by decide) rfl rfl dM_18 ⟨(-9223372036854775808 : Int64), rfl, (by have q3 : (-9223372036854775808 : Int64).toInt = -9223372036854775808 := rfl; have k4 : ¬ r1.toInt = 0 := fun q => c4 (Int32.toInt_inj.mp q); omega), KK15, f15_0⟩
  · refine Gl.aloadN Y1 rfl rfl dM_7 rfl ?_
    refine Gl.callV Y1 (tw_37 hw) (tw_38 hw) (tw_40 hw) (tw_40 hw) (tw_39 hw) (tw_2 hw) (tw_41 hw) (by decide) E_u (rm10 l Z a0 hw [] u wu ku y0 h0 n0 Y1.sz E_u F_u V_u) (a := u) (argsL := []) (rest := []) rfl rfl (lenOf pd_3 rfl) rfl (by decide) (Nat.le_of_ble_eq_true rfl) (by decide) (by decide) dM_8 rfl (fun v8 T8 h8 Y8 q8 => ?_)
    obtain ⟨r8, rfl, p8, rfl⟩ := q8
    have br8 : r8 = 0 ∨ r8 = 1 := by rcases p8 with q | q; exact Or.inr (Int32.toInt_inj.mp q.2); exact Or.inl (Int32.toInt_inj.mp q.2)
    show Gl p e below _ (T8.setTop (mkF m 11 _ [(.int r8)]))
    refine Gl.ifeq Y8 dM_11 (by decide) rfl rfl (fun c11 => ?_) (fun c11 => ?_)
    · refine Gl.aloadN Y8 rfl rfl dM_19 rfl ?_
      refine Gl.getF Y8 (host := "") (Or.inl (tw_14 hw)) Via.refl F_u dM_20 rfl (fun T20 Y20 => ?_)
      refine Gl.astoreN Y20 rfl (L' := #[.val (.ref o), .val (.ref u), .val (.int 0), .val (.ref wu), .unset, .unset, .unset, .unset, .unset, .unset, .unset, .unset, .unset, .unset, .unset, .unset, .unset, .unset, .unset, .unset, .unset]) rfl dM_23 rfl ?_
      refine Gl.aloadN Y20 rfl rfl dM_24 rfl ?_
      refine Gl.getF Y20 (host := "") (Or.inl (tw_14 hw)) Via.refl F_o dM_25 rfl (fun T25 Y25 => ?_)
      refine Gl.arraylength Y25 V_o dM_28 rfl ?_
      refine Gl.aloadN Y25 rfl rfl dM_29 rfl ?_
      refine Gl.arraylength Y25 V_u dM_30 rfl ?_
      refine Gl.callS Y25 (tw_47 hw) (tw_48 hw) (tw_49 hw) (tw_50 hw) (by decide) (rm13 l Z a0 hw [] h0 n0 Y25.sz) (argsL := [(.int 1), (.int 1)]) (rest := []) rfl rfl (lenOf pd_6 rfl) rfl (by decide) (Nat.le_of_ble_eq_true rfl) (by decide) (by decide) dM_31 rfl (fun v31 T31 h31 Y31 q31 => ?_)
      obtain ⟨rfl, rfl⟩ := q31
      show Gl p e below _ (T31.setTop (mkF m 34 _ [(.int 1)]))
      refine Gl.istore Y31 (L' := #[.val (.ref o), .val (.ref u), .val (.int 0), .val (.ref wu), .val (.int 1), .unset, .unset, .unset, .unset, .unset, .unset, .unset, .unset, .unset, .unset, .unset, .unset, .unset, .unset, .unset, .unset]) rfl dM_34 rfl ?_
      refine Gl.aloadN Y31 rfl rfl dM_36 rfl ?_
      refine Gl.callP Y31 (tw_42 hw) (tw_43 hw) (tw_44 hw) (tw_1 hw) (tw_2 hw) (tw_45 hw) (by decide) E_o (rm4 l Z a0 hw [] o wo ko x0 h0 n0 Y31.sz E_o F_o V_o) (a := o) (argsL := []) (rest := []) rfl rfl (lenOf pd_2 rfl) rfl (by decide) (Nat.le_of_ble_eq_true rfl) (by decide) (by decide) dM_37 rfl (fun v37 T37 h37 Y37 q37 => ?_)
      obtain ⟨rfl, rfl⟩ := q37
      show Gl p e below _ (T37.setTop (mkF m 40 _ [(.long x0)]))
      refine Gl.bipush Y37 (v := (63 : Int32)) (by decide) dM_40 rfl ?_
      obtain ⟨v42, hv42⟩ : ∃ z : Int64, (x0 >>> ((63 : Int32) &&& 0x3f).toInt64) = z := ⟨_, rfl⟩
      refine Gl.lshr Y37 hv42 dM_42 rfl ?_
      refine Gl.lstore Y37 (L' := #[.val (.ref o), .val (.ref u), .val (.int 0), .val (.ref wu), .val (.int 1), .val (.long v42), .second, .unset, .unset, .unset, .unset, .unset, .unset, .unset, .unset, .unset, .unset, .unset, .unset, .unset, .unset]) rfl dM_43 rfl ?_
      refine Gl.aloadN Y37 rfl rfl dM_45 rfl ?_
      refine Gl.aloadN Y37 rfl rfl dM_46 rfl ?_
      refine Gl.arraylength Y37 V_u dM_47 rfl ?_
      refine Gl.iconst Y37 (v := (1 : Int32)) (by decide) dM_48 rfl ?_
      refine Gl.isub Y37 (r := (0 : Int32)) (by decide) dM_49 rfl ?_
      refine Gl.laload Y37 V_u ⟨by decide, by decide⟩ (v := (.long y0)) rfl dM_50 rfl ?_
      refine Gl.bipush Y37 (v := (63 : Int32)) (by decide) dM_51 rfl ?_
      obtain ⟨v53, hv53⟩ : ∃ z : Int64, (y0 >>> ((63 : Int32) &&& 0x3f).toInt64) = z := ⟨_, rfl⟩
      refine Gl.lshr Y37 hv53 dM_53 rfl ?_
      refine Gl.lstore Y37 (L' := #[.val (.ref o), .val (.ref u), .val (.int 0), .val (.ref wu), .val (.int 1), .val (.long v42), .second, .val (.long v53), .second, .unset, .unset, .unset, .unset, .unset, .unset, .unset, .unset, .unset, .unset, .unset, .unset]) rfl dM_54 rfl ?_
      refine Gl.iloadN Y37 rfl dM_56 rfl ?_
      refine Gl.ifeq Y37 dM_57 (by decide) rfl rfl (fun c57 => ?_) (fun c57 => ?_)
      rotate_left
      · exact absurd c57 (by decide)
      refine Gl.lconst Y37 (v := (0 : Int64)) (by decide) dM_66 rfl ?_
      refine Gl.lstore Y37 (L' := #[.val (.ref o), .val (.ref u), .val (.int 0), .val (.ref wu), .val (.int 1), .val (.long v42), .second, .val (.long v53), .second, .val (.long 0), .second, .unset, .unset, .unset, .unset, .unset, .unset, .unset, .unset, .unset, .unset]) rfl dM_67 rfl ?_
      refine Gl.iloadN Y37 rfl dM_69 rfl ?_
      refine Gl.ifeq Y37 dM_70 (by decide) rfl rfl (fun c70 => ?_) (fun c70 => ?_)
      rotate_left
      · exact absurd c70 (by decide)
      refine Gl.lconst Y37 (v := (0 : Int64)) (by decide) dM_77 rfl ?_
      refine Gl.lstore Y37 (L' := #[.val (.ref o), .val (.ref u), .val (.int 0), .val (.ref wu), .val (.int 1), .val (.long v42), .second, .val (.long v53), .second, .val (.long 0), .second, .val (.long 0), .second, .unset, .unset, .unset, .unset, .unset, .unset, .unset, .unset]) rfl dM_78 rfl ?_
      refine Gl.lconst Y37 (v := (0 : Int64)) (by decide) dM_80 rfl ?_
      refine Gl.lstore Y37 (L' := #[.val (.ref o), .val (.ref u), .val (.int 0), .val (.ref wu), .val (.int 1), .val (.long v42), .second, .val (.long v53), .second, .val (.long 0), .second, .val (.long 0), .second, .val (.long 0), .second, .unset, .unset, .unset, .unset, .unset, .unset]) rfl dM_81 rfl ?_
      refine Gl.lconst Y37 (v := (0 : Int64)) (by decide) dM_83 rfl ?_
      refine Gl.lstore Y37 (L' := #[.val (.ref o), .val (.ref u), .val (.int 0), .val (.ref wu), .val (.int 1), .val (.long v42), .second, .val (.long v53), .second, .val (.long 0), .second, .val (.long 0), .second, .val (.long 0), .second, .val (.long 0), .second, .unset, .unset, .unset, .unset]) rfl dM_84 rfl ?_
      refine Gl.lconst Y37 (v := (0 : Int64)) (by decide) dM_86 rfl ?_
      refine Gl.lstore Y37 (L' := #[.val (.ref o), .val (.ref u), .val (.int 0), .val (.ref wu), .val (.int 1), .val (.long v42), .second, .val (.long v53), .second, .val (.long 0), .second, .val (.long 0), .second, .val (.long 0), .second, .val (.long 0), .second, .val (.long 0), .second, .unset, .unset]) rfl dM_87 rfl ?_
      refine Gl.iconst Y37 (v := (1 : Int32)) (by decide) dM_89 rfl ?_
      refine Gl.istore Y37 (L' := #[.val (.ref o), .val (.ref u), .val (.int 0), .val (.ref wu), .val (.int 1), .val (.long v42), .second, .val (.long v53), .second, .val (.long 0), .second, .val (.long 0), .second, .val (.long 0), .second, .val (.long 0), .second, .val (.long 0), .second, .val (.int 1), .unset]) rfl dM_90 rfl ?_
      refine Gl.iconst Y37 (v := (0 : Int32)) (by decide) dM_92 rfl ?_
      refine Gl.istore Y37 (L' := #[.val (.ref o), .val (.ref u), .val (.int 0), .val (.ref wu), .val (.int 1), .val (.long v42), .second, .val (.long v53), .second, .val (.long 0), .second, .val (.long 0), .second, .val (.long 0), .second, .val (.long 0), .second, .val (.long 0), .second, .val (.int 1), .val (.int 0)]) rfl dM_93 rfl ?_
      refine Gl.iload Y37 rfl dM_95 rfl ?_
      refine Gl.iload Y37 rfl dM_97 rfl ?_
      refine Gl.icmpge Y37 dM_99 (by decide) rfl rfl (fun c99 => ?_) (fun c99 => ?_)
      · exact absurd c99 (by decide)
      refine Gl.iload Y37 rfl dM_102 rfl ?_
      refine Gl.aloadN Y37 rfl rfl dM_104 rfl ?_
      refine Gl.getF Y37 (host := "") (Or.inl (tw_14 hw)) Via.refl F_o dM_105 rfl (fun T105 Y105 => ?_)
      refine Gl.arraylength Y105 V_o dM_108 rfl ?_
      refine Gl.icmpge Y105 dM_109 (by decide) rfl rfl (fun c109 => ?_) (fun c109 => ?_)
      · exact absurd c109 (by decide)
      refine Gl.aloadN Y105 rfl rfl dM_112 rfl ?_
      refine Gl.getF Y105 (host := "") (Or.inl (tw_14 hw)) Via.refl F_o dM_113 rfl (fun T113 Y113 => ?_)
      refine Gl.iload Y113 rfl dM_116 rfl ?_
      refine Gl.laload Y113 V_o ⟨by decide, by decide⟩ (v := (.long x0)) rfl dM_118 rfl ?_
      refine Gl.goto Y113 dM_119 (by decide) rfl ?_
      refine Gl.lstore Y113 (L' := #[.val (.ref o), .val (.ref u), .val (.int 0), .val (.ref wu), .val (.int 1), .val (.long v42), .second, .val (.long v53), .second, .val (.long 0), .second, .val (.long 0), .second, .val (.long x0), .second, .val (.long 0), .second, .val (.long 0), .second, .val (.int 1), .val (.int 0)]) rfl dM_124 rfl ?_
      refine Gl.iload Y113 rfl dM_126 rfl ?_
      refine Gl.aloadN Y113 rfl rfl dM_128 rfl ?_
      refine Gl.arraylength Y113 V_u dM_129 rfl ?_
      refine Gl.icmpge Y113 dM_130 (by decide) rfl rfl (fun c130 => ?_) (fun c130 => ?_)
      · exact absurd c130 (by decide)
      refine Gl.aloadN Y113 rfl rfl dM_133 rfl ?_
      refine Gl.iload Y113 rfl dM_134 rfl ?_
      refine Gl.laload Y113 V_u ⟨by decide, by decide⟩ (v := (.long y0)) rfl dM_136 rfl ?_
      refine Gl.goto Y113 dM_137 (by decide) rfl ?_
      refine Gl.lload Y113 rfl dM_142 rfl ?_
      obtain ⟨v144, hv144⟩ : ∃ z : Int64, y0 ^^^ (0 : Int64) = z := ⟨_, rfl⟩
      refine Gl.lxor Y113 hv144 dM_144 rfl ?_
      obtain rfl : y0 = v144 := Eq.symm (by rw [← hv144]; exact Int64.xor_zero)
      refine Gl.lstore Y113 (L' := #[.val (.ref o), .val (.ref u), .val (.int 0), .val (.ref wu), .val (.int 1), .val (.long v42), .second, .val (.long v53), .second, .val (.long 0), .second, .val (.long 0), .second, .val (.long x0), .second, .val (.long y0), .second, .val (.long 0), .second, .val (.int 1), .val (.int 0)]) rfl dM_145 rfl ?_
      refine Gl.lload Y113 rfl dM_147 rfl ?_
      refine Gl.lload Y113 rfl dM_149 rfl ?_
      obtain ⟨v151, hv151⟩ : ∃ z : Int64, x0 + y0 = z := ⟨_, rfl⟩
      refine Gl.ladd Y113 hv151 dM_151 rfl ?_
      refine Gl.lload Y113 rfl dM_152 rfl ?_
      obtain ⟨v154, hv154⟩ : ∃ z : Int64, v151 + (0 : Int64) = z := ⟨_, rfl⟩
      refine Gl.ladd Y113 hv154 dM_154 rfl ?_
      refine Gl.lstore Y113 (L' := #[.val (.ref o), .val (.ref u), .val (.int 0), .val (.ref wu), .val (.int 1), .val (.long v42), .second, .val (.long v53), .second, .val (.long 0), .second, .val (.long 0), .second, .val (.long x0), .second, .val (.long y0), .second, .val (.long v154), .second, .val (.int 1), .val (.int 0)]) rfl dM_155 rfl ?_
      refine Gl.lload Y113 rfl dM_157 rfl ?_
      refine Gl.lload Y113 rfl dM_159 rfl ?_
      obtain ⟨v161, hv161⟩ : ∃ z : Int64, x0 &&& y0 = z := ⟨_, rfl⟩
      refine Gl.land Y113 hv161 dM_161 rfl ?_
      refine Gl.lload Y113 rfl dM_162 rfl ?_
      refine Gl.lload Y113 rfl dM_164 rfl ?_
      obtain ⟨v166, hv166⟩ : ∃ z : Int64, x0 ||| y0 = z := ⟨_, rfl⟩
      refine Gl.lor Y113 hv166 dM_166 rfl ?_
      refine Gl.lload Y113 rfl dM_167 rfl ?_
      refine Gl.ldcJ Y113 (tw_51 hw) dM_169 rfl ?_
      obtain ⟨v172, hv172⟩ : ∃ z : Int64, v154 ^^^ (-1 : Int64) = z := ⟨_, rfl⟩
      refine Gl.lxor Y113 hv172 dM_172 rfl ?_
      obtain ⟨v173, hv173⟩ : ∃ z : Int64, v166 &&& v172 = z := ⟨_, rfl⟩
      refine Gl.land Y113 hv173 dM_173 rfl ?_
      obtain ⟨v174, hv174⟩ : ∃ z : Int64, v161 ||| v173 = z := ⟨_, rfl⟩
      refine Gl.lor Y113 hv174 dM_174 rfl ?_
      refine Gl.bipush Y113 (v := (63 : Int32)) (by decide) dM_175 rfl ?_
      obtain ⟨v177, hv177⟩ : ∃ z : Int64, (v174.toUInt64 >>> ((63 : Int32) &&& 0x3f).toInt64.toUInt64).toInt64 = z := ⟨_, rfl⟩
      refine Gl.lushr Y113 hv177 dM_177 rfl ?_
      refine Gl.lstore Y113 (L' := #[.val (.ref o), .val (.ref u), .val (.int 0), .val (.ref wu), .val (.int 1), .val (.long v42), .second, .val (.long v53), .second, .val (.long 0), .second, .val (.long v177), .second, .val (.long x0), .second, .val (.long y0), .second, .val (.long v154), .second, .val (.int 1), .val (.int 0)]) rfl dM_178 rfl ?_
      refine Gl.iload Y113 rfl dM_180 rfl ?_
      refine Gl.aloadN Y113 rfl rfl dM_182 rfl ?_
      refine Gl.getF Y113 (host := "") (Or.inl (tw_14 hw)) Via.refl F_o dM_183 rfl (fun T183 Y183 => ?_)
      refine Gl.arraylength Y183 V_o dM_186 rfl ?_
      refine Gl.icmpge Y183 dM_187 (by decide) rfl rfl (fun c187 => ?_) (fun c187 => ?_)
      · exact absurd c187 (by decide)
      refine Gl.aloadN Y183 rfl rfl dM_190 rfl ?_
      refine Gl.getF Y183 (host := "") (Or.inl (tw_14 hw)) Via.refl F_o dM_191 rfl (fun T191 Y191 => ?_)
      refine Gl.iload Y191 rfl dM_194 rfl ?_
      refine Gl.lload Y191 rfl dM_196 rfl ?_
      refine Gl.lastore Y191 V_o (v := (.long v154)) rfl ⟨by decide, by decide⟩ (ix := 0) rfl (Nat.le_of_ble_eq_true rfl) g_o dM_198 rfl (fun T198 h198 Y198 W198 A198 => ?_)
      have A198 : Arv Z h198 wo ko .long (1 : Int32) [(.long v154)] (.long 0) := A198
      have K198 : Keep h0 h198 [wo] := (Keep.refl h0 [wo]).wr W198 (Or.inl (List.mem_of_getElem? (i := 0) rfl))
      show Gl p e below _ (T198.setTop (mkF m 199 _ []))
      refine Gl.goto Y198 dM_199 (by decide) rfl ?_
      refine Gl.iinc Y198 rfl (r := (1 : Int32)) (by decide) (L' := #[.val (.ref o), .val (.ref u), .val (.int 0), .val (.ref wu), .val (.int 1), .val (.long v42), .second, .val (.long v53), .second, .val (.long 0), .second, .val (.long v177), .second, .val (.long x0), .second, .val (.long y0), .second, .val (.long v154), .second, .val (.int 1), .val (.int 1)]) rfl dM_225 rfl ?_
      refine Gl.goto Y198 dM_228 (by decide) rfl ?_
      refine Gl.iload Y198 rfl dM_95 rfl ?_
      refine Gl.iload Y198 rfl dM_97 rfl ?_
      refine Gl.icmpge Y198 dM_99 (by decide) rfl rfl (fun c99_2 => ?_) (fun c99_2 => ?_)
      rotate_left
      · exact absurd c99_2 (by decide)
      refine Gl.iload Y198 rfl dM_231 rfl ?_
      refine Gl.ifeq Y198 dM_233 (by decide) rfl rfl (fun c233 => ?_) (fun c233 => ?_)
      · exact absurd c233 (by decide)
      refine Gl.lload Y198 rfl dM_236 rfl ?_
      refine Gl.lload Y198 rfl dM_238 rfl ?_
      obtain ⟨v240, hv240⟩ : ∃ z : Int64, x0 ^^^ v154 = z := ⟨_, rfl⟩
      refine Gl.lxor Y198 hv240 dM_240 rfl ?_
      refine Gl.lload Y198 rfl dM_241 rfl ?_
      refine Gl.lload Y198 rfl dM_243 rfl ?_
      obtain ⟨v245, hv245⟩ : ∃ z : Int64, y0 ^^^ v154 = z := ⟨_, rfl⟩
      refine Gl.lxor Y198 hv245 dM_245 rfl ?_
      obtain ⟨v246, hv246⟩ : ∃ z : Int64, v240 &&& v245 = z := ⟨_, rfl⟩
      refine Gl.land Y198 hv246 dM_246 rfl ?_
      refine Gl.lconst Y198 (v := (0 : Int64)) (by decide) dM_247 rfl ?_
      refine Gl.lcmplt Y198 dM_248 rfl dM_249 (by decide) rfl rfl (fun c249 => ?_) (fun c249 => ?_)
      · refine Gl.aloadN Y198 rfl rfl dM_256 rfl ?_
        have f1 := (Exa.wr W198 E_o)
        have f2 := (Fld.other W198 F_o (Or.inl nn_o))
        refine Gl.callV Y198 (tw_67 hw) (tw_68 hw) (tw_70 hw) (tw_70 hw) (tw_69 hw) (tw_2 hw) (tw_71 hw) (by decide) f1 (rm14 l Z a0 hw [] o wo ko v154 h198 n0 Y198.sz f1 f2 A198 g_o nn_o) (a := o) (argsL := []) (rest := []) rfl rfl (lenOf pd_5 rfl) rfl (by decide) (Nat.le_of_ble_eq_true rfl) (by decide) (by decide) dM_257 rfl (fun v257 T257 h257 Y257 q257 => ?_)
        obtain ⟨rfl, K257, f257_0⟩ := q257
        have KK257 : Keep h0 h257 [wo] := K198.trans K257 (allS (Or.inl (List.mem_of_getElem? (i := 0) rfl)) all0)
        show Gl p e below _ (T257.setTop (mkF m 260 _ [(.ref o)]))
        exact Gl.retA Y257 (by decide) (by decide) rfl rfl dM_260 ⟨(-9223372036854775808 : Int64), rfl, (by have q3 : (-9223372036854775808 : Int64).toInt = -9223372036854775808 := rfl; have k4 : r1.toInt = 0 := congrArg Int32.toInt c4; have k11 : r8.toInt = 0 := congrArg Int32.toInt c11; have w1 := own_ov1 hv151 hv154; rw [hv240, hv245, hv246] at w1; have w2 := w1.1 c249; omega), KK257, f257_0⟩
      · refine Gl.aloadN Y198 rfl rfl dM_252 rfl ?_
        refine Gl.goto Y198 dM_253 (by decide) rfl ?_
        exact Gl.retA Y198 (by decide) (by decide) rfl rfl dM_260 ⟨v154, rfl, (by have q3 : (-9223372036854775808 : Int64).toInt = -9223372036854775808 := rfl; have k4 : r1.toInt = 0 := congrArg Int32.toInt c4; have k11 : r8.toInt = 0 := congrArg Int32.toInt c11; have w1 := own_ov1 hv151 hv154; rw [hv240, hv245, hv246] at w1; have w2 := w1.2 c249; omega), K198, A198⟩
    · refine Gl.aloadN Y8 rfl rfl dM_14 rfl ?_
      refine Gl.callV Y8 (tw_67 hw) (tw_68 hw) (tw_70 hw) (tw_70 hw) (tw_69 hw) (tw_2 hw) (tw_71 hw) (by decide) E_o (rm14 l Z a0 hw [] o wo ko x0 h0 n0 Y8.sz E_o F_o V_o g_o nn_o) (a := o) (argsL := []) (rest := []) rfl rfl (lenOf pd_5 rfl) rfl (by decide) (Nat.le_of_ble_eq_true rfl) (by decide) (by decide) dM_15 rfl (fun v15 T15 h15 Y15 q15 => ?_)
      obtain ⟨rfl, K15, f15_0⟩ := q15
      have KK15 : Keep h0 h15 [wo] := (Keep.refl h0 [wo]).trans K15 (allS (Or.inl (List.mem_of_getElem? (i := 0) rfl)) all0)
      show Gl p e below _ (T15.setTop (mkF m 18 _ [(.ref o)]))
      exact Gl.retA Y15 (by decide) (by decide) rfl rfl dM_18 ⟨(-9223372036854775808 : Int64), rfl, (by have q3 : (-9223372036854775808 : Int64).toInt = -9223372036854775808 := rfl; have k4 : r1.toInt = 0 := congrArg Int32.toInt c4; have k11 : ¬ r8.toInt = 0 := fun q => c11 (Int32.toInt_inj.mp q); omega), KK15, f15_0⟩
theorem dN_0 : decode prog_137_method_12_code 0 = .ok (.aload_n 0, 1) := by decide +kernel
theorem dN_1 : decode prog_137_method_12_code 1 = .ok (.aload_n 1, 1) := by decide +kernel
theorem dN_2 : decode prog_137_method_12_code 2 = .ok (.iconst 0, 1) := by decide +kernel
theorem dN_3 : decode prog_137_method_12_code 3 = .ok (.invokevirtual 124, 3) := by decide +kernel
theorem tw_33 {a0 : Array Value} {Z : State} (hw : HW a0 Z) : (Jvm.Cond.methodLink "com/example/meterwise/meterwise/model/WholeNumber" (124 : Nat) ({ cls := "com/example/meterwise/meterwise/model/WholeNumber", name := "add", desc := "(Lcom/example/meterwise/meterwise/model/WholeNumber;Z)Lcom/example/meterwise/meterwise/model/WholeNumber;" } : Jvm.MethodName)).before a0 Z = true := hw _ (List.mem_of_getElem? (i := 33) rfl)
theorem pd_7 : parseMethodDescriptor "(Lcom/example/meterwise/meterwise/model/WholeNumber;Z)Lcom/example/meterwise/meterwise/model/WholeNumber;" = some ⟨[(.object "com/example/meterwise/meterwise/model/WholeNumber"), .boolean], some (.object "com/example/meterwise/meterwise/model/WholeNumber")⟩ := by decide +kernel
theorem tw_36 {a0 : Array Value} {Z : State} (hw : HW a0 Z) : (Jvm.Cond.code ({ cls := "com/example/meterwise/meterwise/model/WholeNumber", name := "add", desc := "(Lcom/example/meterwise/meterwise/model/WholeNumber;Z)Lcom/example/meterwise/meterwise/model/WholeNumber;" } : Jvm.MethodName) prog_137_method_14_code (21 : Nat) (Option.some (Jvm.ClassFile.FieldType.object "com/example/meterwise/meterwise/model/WholeNumber"))).before a0 Z = true := hw _ (List.mem_of_getElem? (i := 36) rfl)
theorem tw_34 {a0 : Array Value} {Z : State} (hw : HW a0 Z) : (Jvm.Cond.instanceMethod ({ cls := "com/example/meterwise/meterwise/model/WholeNumber", name := "add", desc := "(Lcom/example/meterwise/meterwise/model/WholeNumber;Z)Lcom/example/meterwise/meterwise/model/WholeNumber;" } : Jvm.MethodName)).before a0 Z = true := hw _ (List.mem_of_getElem? (i := 34) rfl)
theorem tw_35 {a0 : Array Value} {Z : State} (hw : HW a0 Z) : (Jvm.Cond.privateMethod ({ cls := "com/example/meterwise/meterwise/model/WholeNumber", name := "add", desc := "(Lcom/example/meterwise/meterwise/model/WholeNumber;Z)Lcom/example/meterwise/meterwise/model/WholeNumber;" } : Jvm.MethodName)).before a0 Z = true := hw _ (List.mem_of_getElem? (i := 35) rfl)
theorem dN_6 : decode prog_137_method_12_code 6 = .ok (.areturn, 1) := by decide +kernel
def R16 : Room := { frames := 3, cells := 0, slots := 0, locals := 60 }
def Q16 (Z : State) (o : Addr) (wo : Addr) (ko : ClassId) (x0 : Int64) (u : Addr) (wu : Addr) (ku : ClassId) (y0 : Int64) (h0 : Heap) (v : Option Value) (h : Heap) : Prop := ∃ e0 : Int64, v = some (.ref o) ∧ (((x0.toInt = (-9223372036854775808) ∨ y0.toInt = (-9223372036854775808) ∨ x0.toInt + y0.toInt < (-9223372036854775808) ∨ 9223372036854775807 < x0.toInt + y0.toInt) ∧ e0.toInt = (-9223372036854775808)) ∨ (¬ (x0.toInt = (-9223372036854775808) ∨ y0.toInt = (-9223372036854775808) ∨ x0.toInt + y0.toInt < (-9223372036854775808) ∨ 9223372036854775807 < x0.toInt + y0.toInt) ∧ e0.toInt = x0.toInt + y0.toInt)) ∧ Keep h0 h [wo] ∧ Arv Z h wo ko .long (1 : Int32) [(.long e0)] (.long 0)
theorem ef16 (o : Addr) (u : Addr) (m : MethodId) : entryFrame m #[(.ref o), (.ref u)] 2 = mkF m 0 #[.val (.ref o), .val (.ref u)] [] := by first | (simp [entryFrame, mkF, argsToLocals, Value.category]; done) | rfl
theorem rm16 (l : Launch) (Z : State) (a0 : Array Value) (hw : HW a0 Z) (ws : List Jvm.Cond) (o : Addr) (wo : Addr) (ko : ClassId) (x0 : Int64) (u : Addr) (wu : Addr) (ku : ClassId) (y0 : Int64) (h0 : Heap) (n0 : Nat) (Z0 : n0 ≤ h0.size) (E_o : Exa Z h0 o "com/example/meterwise/meterwise/model/WholeNumber") (F_o : Fld Z h0 o "com/example/meterwise/meterwise/model/WholeNumber" "words" "[J" (.ref wo)) (V_o : Arv Z h0 wo ko .long (1 : Int32) [(.long x0)] (.long 0)) (g_o : n0 ≤ wo) (nn_o : own_ne o wo) (E_u : Exa Z h0 u "com/example/meterwise/meterwise/model/WholeNumber") (F_u : Fld Z h0 u "com/example/meterwise/meterwise/model/WholeNumber" "words" "[J" (.ref wu)) (V_u : Arv Z h0 wu ku .long (1 : Int32) [(.long y0)] (.long 0)) (nw : own_ne wo wu) (np : own_ne u wo) : OMet l Z ws (⟨"com/example/meterwise/meterwise/model/WholeNumber", "add", "(Lcom/example/meterwise/meterwise/model/WholeNumber;)Lcom/example/meterwise/meterwise/model/WholeNumber;"⟩ : MethodName) prog_137_method_12_code 2 (some (.object "com/example/meterwise/meterwise/model/WholeNumber")) R16 #[(.ref o), (.ref u)] h0 n0 (Q16 Z o wo ko x0 u wu ku y0 h0) := by
  refine OMet.of (own := "com/example/meterwise/meterwise/model/WholeNumber") rfl (plainFor_of_name pn_0) (ef16 o u) Z0 ?_
  intro p e s m below meth c T0 Y0 hnm
  refine Gl.aloadN Y0 rfl rfl dN_0 rfl ?_
  refine Gl.aloadN Y0 rfl rfl dN_1 rfl ?_
  refine Gl.iconst Y0 (v := (0 : Int32)) (by decide) dN_2 rfl ?_
  refine Gl.callP Y0 (tw_33 hw) (tw_34 hw) (tw_35 hw) (tw_1 hw) (tw_2 hw) (tw_36 hw) (by decide) E_o (rm15 l Z a0 hw [] o wo ko x0 u wu ku y0 h0 n0 Y0.sz E_o F_o V_o g_o nn_o E_u F_u V_u nw np) (a := o) (argsL := [(.ref u), (.int 0)]) (rest := []) rfl rfl (lenOf pd_7 rfl) rfl (by decide) (Nat.le_of_ble_eq_true rfl) (by decide) (by decide) dN_3 rfl (fun v3 T3 h3 Y3 q3 => ?_)
  obtain ⟨e03, rfl, p3, K3, f3_0⟩ := q3
  have KK3 : Keep h0 h3 [wo] := (Keep.refl h0 [wo]).trans K3 (allS (Or.inl (List.mem_of_getElem? (i := 0) rfl)) all0)
  show Gl p e below _ (T3.setTop (mkF m 6 _ [(.ref o)]))
  exact Gl.retA Y3 (by decide) (by decide) rfl rfl dN_6 ⟨e03, rfl, p3, KK3, f3_0⟩
def R17 : Room := { frames := 0, cells := 0, slots := 0, locals := 0 }
def Q17 (Z : State) (o : Addr) (wo : Addr) (ko : ClassId) (x0 : Int64) (x1 : Int64) (h0 : Heap) (v : Option Value) (h : Heap) : Prop := v = some (.long x1) ∧ h0 = h
theorem ef17 (o : Addr) (m : MethodId) : entryFrame m #[(.ref o)] 1 = mkF m 0 #[.val (.ref o)] [] := by first | (simp [entryFrame, mkF, argsToLocals, Value.category]; done) | rfl
theorem rm17 (l : Launch) (Z : State) (a0 : Array Value) (hw : HW a0 Z) (ws : List Jvm.Cond) (o : Addr) (wo : Addr) (ko : ClassId) (x0 : Int64) (x1 : Int64) (h0 : Heap) (n0 : Nat) (Z0 : n0 ≤ h0.size) (E_o : Exa Z h0 o "com/example/meterwise/meterwise/model/WholeNumber") (F_o : Fld Z h0 o "com/example/meterwise/meterwise/model/WholeNumber" "words" "[J" (.ref wo)) (V_o : Arv Z h0 wo ko .long (2 : Int32) [(.long x0), (.long x1)] (.long 0)) : OMet l Z ws (⟨"com/example/meterwise/meterwise/model/WholeNumber", "top", "()J"⟩ : MethodName) prog_137_method_31_code 1 (some .long) R17 #[(.ref o)] h0 n0 (Q17 Z o wo ko x0 x1 h0) := by
  refine OMet.of (own := "com/example/meterwise/meterwise/model/WholeNumber") rfl (plainFor_of_name pn_0) (ef17 o) Z0 ?_
  intro p e s m below meth c T0 Y0 hnm
  refine Gl.aloadN Y0 rfl rfl dB_0 rfl ?_
  refine Gl.getF Y0 (host := "") (Or.inl (tw_14 hw)) Via.refl F_o dB_1 rfl (fun T1 Y1 => ?_)
  refine Gl.aloadN Y1 rfl rfl dB_4 rfl ?_
  refine Gl.getF Y1 (host := "") (Or.inl (tw_14 hw)) Via.refl F_o dB_5 rfl (fun T5 Y5 => ?_)
  refine Gl.arraylength Y5 V_o dB_8 rfl ?_
  refine Gl.iconst Y5 (v := (1 : Int32)) (by decide) dB_9 rfl ?_
  refine Gl.isub Y5 (r := (1 : Int32)) (by decide) dB_10 rfl ?_
  refine Gl.laload Y5 V_o ⟨by decide, by decide⟩ (v := (.long x1)) rfl dB_11 rfl ?_
  exact Gl.retJ Y5 (by decide) (by decide)  dB_12 ⟨rfl, rfl⟩
def R18 : Room := { frames := 0, cells := 0, slots := 0, locals := 0 }
def Q18 (Z : State) (a : Addr) (ka : ClassId) (x0 : Int64) (x1 : Int64) (h0 : Heap) (v : Option Value) (h : Heap) : Prop := v = none ∧ Keep h0 h [a] ∧ Arv Z h a ka .long (2 : Int32) [(.long 0), (.long 0)] (.long 0)
theorem ef18 (a : Addr) (m : MethodId) : entryFrame m #[(.ref a), (.long 0)] 5 = mkF m 0 #[.val (.ref a), .val (.long 0), .second, .unset, .unset] [] := by first | (simp [entryFrame, mkF, argsToLocals, Value.category]; done) | rfl
theorem rm18 (l : Launch) (Z : State) (a0 : Array Value) (hw : HW a0 Z) (ws : List Jvm.Cond) (a : Addr) (ka : ClassId) (x0 : Int64) (x1 : Int64) (h0 : Heap) (n0 : Nat) (Z0 : n0 ≤ h0.size) (V : Arv Z h0 a ka .long (2 : Int32) [(.long x0), (.long x1)] (.long 0)) (ga : n0 ≤ a) : OMet l Z ws (⟨"java/util/Arrays", "fill", "([JJ)V"⟩ : MethodName) jdk_65_method_101_code 5 none R18 #[(.ref a), (.long 0)] h0 n0 (Q18 Z a ka x0 x1 h0) := by
  refine OMet.of (own := "java/util/Arrays") rfl (plainFor_of_name pn_1) (ef18 a) Z0 ?_
  intro p e s m below meth c T0 Y0 hnm
  refine Gl.iconst Y0 (v := (0 : Int32)) (by decide) dC_0 rfl ?_
  refine Gl.istoreN Y0 (L' := #[.val (.ref a), .val (.long 0), .second, .val (.int 0), .unset]) rfl dC_1 rfl ?_
  refine Gl.aloadN Y0 rfl rfl dC_2 rfl ?_
  refine Gl.arraylength Y0 V dC_3 rfl ?_
  refine Gl.istore Y0 (L' := #[.val (.ref a), .val (.long 0), .second, .val (.int 0), .val (.int 2)]) rfl dC_4 rfl ?_
  refine Gl.iloadN Y0 rfl dC_6 rfl ?_
  refine Gl.iload Y0 rfl dC_7 rfl ?_
  refine Gl.icmpge Y0 dC_9 (by decide) rfl rfl (fun c9 => ?_) (fun c9 => ?_)
  · exact absurd c9 (by decide)
  refine Gl.aloadN Y0 rfl rfl dC_12 rfl ?_
  refine Gl.iloadN Y0 rfl dC_13 rfl ?_
  refine Gl.lloadN Y0 rfl dC_14 rfl ?_
  refine Gl.lastore Y0 V (v := (.long 0)) rfl ⟨by decide, by decide⟩ (ix := 0) rfl (Nat.le_of_ble_eq_true rfl) ga dC_15 rfl (fun T15 h15 Y15 W15 A15 => ?_)
  have A15 : Arv Z h15 a ka .long (2 : Int32) [(.long 0), (.long x1)] (.long 0) := A15
  have K15 : Keep h0 h15 [a] := (Keep.refl h0 [a]).wr W15 (Or.inl (List.mem_of_getElem? (i := 0) rfl))
  show Gl p e below _ (T15.setTop (mkF m 16 _ []))
  refine Gl.iinc Y15 rfl (r := (1 : Int32)) (by decide) (L' := #[.val (.ref a), .val (.long 0), .second, .val (.int 1), .val (.int 2)]) rfl dC_16 rfl ?_
  refine Gl.goto Y15 dC_19 (by decide) rfl ?_
  refine Gl.iloadN Y15 rfl dC_6 rfl ?_
  refine Gl.iload Y15 rfl dC_7 rfl ?_
  refine Gl.icmpge Y15 dC_9 (by decide) rfl rfl (fun c9_2 => ?_) (fun c9_2 => ?_)
  · exact absurd c9_2 (by decide)
  refine Gl.aloadN Y15 rfl rfl dC_12 rfl ?_
  refine Gl.iloadN Y15 rfl dC_13 rfl ?_
  refine Gl.lloadN Y15 rfl dC_14 rfl ?_
  refine Gl.lastore Y15 A15 (v := (.long 0)) rfl ⟨by decide, by decide⟩ (ix := 1) rfl (Nat.le_of_ble_eq_true rfl) ga dC_15 rfl (fun T15_2 h15_2 Y15_2 W15_2 A15_2 => ?_)
  have A15_2 : Arv Z h15_2 a ka .long (2 : Int32) [(.long 0), (.long 0)] (.long 0) := A15_2
  have K15_2 : Keep h0 h15_2 [a] := K15.wr W15_2 (Or.inl (List.mem_of_getElem? (i := 0) rfl))
  show Gl p e below _ (T15_2.setTop (mkF m 16 _ []))
  refine Gl.iinc Y15_2 rfl (r := (2 : Int32)) (by decide) (L' := #[.val (.ref a), .val (.long 0), .second, .val (.int 2), .val (.int 2)]) rfl dC_16 rfl ?_
  refine Gl.goto Y15_2 dC_19 (by decide) rfl ?_
  refine Gl.iloadN Y15_2 rfl dC_6 rfl ?_
  refine Gl.iload Y15_2 rfl dC_7 rfl ?_
  refine Gl.icmpge Y15_2 dC_9 (by decide) rfl rfl (fun c9_3 => ?_) (fun c9_3 => ?_)
  rotate_left
  · exact absurd c9_3 (by decide)
  exact Gl.retV Y15_2 (by decide) (by decide)  dC_22 ⟨rfl, K15_2, A15_2⟩
def R19 : Room := { frames := 0, cells := 0, slots := 0, locals := 0 }
def Q19 (Z : State) (h0 : Heap) (v : Option Value) (h : Heap) : Prop := v = none ∧ h0 = h
theorem ef19 (m : MethodId) : entryFrame m #[(.int 2), (.int 1), (.int 2)] 3 = mkF m 0 #[.val (.int 2), .val (.int 1), .val (.int 2)] [] := by first | (simp [entryFrame, mkF, argsToLocals, Value.category]; done) | rfl
theorem rm19 (l : Launch) (Z : State) (a0 : Array Value) (hw : HW a0 Z) (ws : List Jvm.Cond) (h0 : Heap) (n0 : Nat) (Z0 : n0 ≤ h0.size) : OMet l Z ws (⟨"java/util/Arrays", "rangeCheck", "(III)V"⟩ : MethodName) jdk_65_method_30_code 3 none R19 #[(.int 2), (.int 1), (.int 2)] h0 n0 (Q19 Z h0) := by
  refine OMet.of (own := "java/util/Arrays") rfl (plainFor_of_name pn_1) (ef19) Z0 ?_
  intro p e s m below meth c T0 Y0 hnm
  refine Gl.iloadN Y0 rfl dD_0 rfl ?_
  refine Gl.iloadN Y0 rfl dD_1 rfl ?_
  refine Gl.icmple Y0 dD_2 (by decide) rfl rfl (fun c2 => ?_) (fun c2 => ?_)
  rotate_left
  · exact absurd c2 (by decide)
  refine Gl.iloadN Y0 rfl dD_46 rfl ?_
  refine Gl.ifge Y0 dD_47 (by decide) rfl rfl (fun c47 => ?_) (fun c47 => ?_)
  rotate_left
  · exact absurd c47 (by decide)
  refine Gl.iloadN Y0 rfl dD_59 rfl ?_
  refine Gl.iloadN Y0 rfl dD_60 rfl ?_
  refine Gl.icmple Y0 dD_61 (by decide) rfl rfl (fun c61 => ?_) (fun c61 => ?_)
  rotate_left
  · exact absurd c61 (by decide)
  exact Gl.retV Y0 (by decide) (by decide)  dD_73 ⟨rfl, rfl⟩
theorem dE_16 : decode jdk_65_method_102_code 16 = .ok (.aload_n 0, 1) := by decide +kernel
theorem dE_17 : decode jdk_65_method_102_code 17 = .ok (.iload 5, 2) := by decide +kernel
theorem dE_19 : decode jdk_65_method_102_code 19 = .ok (.lload_n 3, 1) := by decide +kernel
theorem dE_20 : decode jdk_65_method_102_code 20 = .ok (.lastore, 1) := by decide +kernel
theorem dE_21 : decode jdk_65_method_102_code 21 = .ok (.iinc 5 1, 3) := by decide +kernel
theorem dE_24 : decode jdk_65_method_102_code 24 = .ok (.goto (-14), 3) := by decide +kernel
def R20 : Room := { frames := 1, cells := 0, slots := 0, locals := 14 }
def Q20 (Z : State) (a : Addr) (ka : ClassId) (v1 : Int64) (x0 : Int64) (x1 : Int64) (h0 : Heap) (v : Option Value) (h : Heap) : Prop := v = none ∧ Keep h0 h [a] ∧ Arv Z h a ka .long (2 : Int32) [(.long x0), (.long v1)] (.long 0)
theorem ef20 (a : Addr) (v1 : Int64) (m : MethodId) : entryFrame m #[(.ref a), (.int 1), (.int 2), (.long v1)] 6 = mkF m 0 #[.val (.ref a), .val (.int 1), .val (.int 2), .val (.long v1), .second, .unset] [] := by first | (simp [entryFrame, mkF, argsToLocals, Value.category]; done) | rfl
theorem rm20 (l : Launch) (Z : State) (a0 : Array Value) (hw : HW a0 Z) (ws : List Jvm.Cond) (a : Addr) (ka : ClassId) (v1 : Int64) (x0 : Int64) (x1 : Int64) (h0 : Heap) (n0 : Nat) (Z0 : n0 ≤ h0.size) (V : Arv Z h0 a ka .long (2 : Int32) [(.long x0), (.long x1)] (.long 0)) (ga : n0 ≤ a) : OMet l Z ws (⟨"java/util/Arrays", "fill", "([JIIJ)V"⟩ : MethodName) jdk_65_method_102_code 6 none R20 #[(.ref a), (.int 1), (.int 2), (.long v1)] h0 n0 (Q20 Z a ka v1 x0 x1 h0) := by
  refine OMet.of (own := "java/util/Arrays") rfl (plainFor_of_name pn_1) (ef20 a v1) Z0 ?_
  intro p e s m below meth c T0 Y0 hnm
  refine Gl.aloadN Y0 rfl rfl dE_0 rfl ?_
  refine Gl.arraylength Y0 V dE_1 rfl ?_
  refine Gl.iloadN Y0 rfl dE_2 rfl ?_
  refine Gl.iloadN Y0 rfl dE_3 rfl ?_
  refine Gl.callS Y0 (tw_25 hw) (tw_26 hw) (tw_23 hw) (tw_27 hw) (by decide) (rm19 l Z a0 hw [] h0 n0 Y0.sz) (argsL := [(.int 2), (.int 1), (.int 2)]) (rest := []) rfl rfl (lenOf pd_0 rfl) rfl (by decide) (Nat.le_of_ble_eq_true rfl) (by decide) (by decide) dE_4 rfl (fun v4 T4 h4 Y4 q4 => ?_)
  obtain ⟨rfl, rfl⟩ := q4
  show Gl p e below _ (T4.setTop (mkF m 7 _ []))
  refine Gl.iloadN Y4 rfl dE_7 rfl ?_
  refine Gl.istore Y4 (L' := #[.val (.ref a), .val (.int 1), .val (.int 2), .val (.long v1), .second, .val (.int 1)]) rfl dE_8 rfl ?_
  refine Gl.iload Y4 rfl dE_10 rfl ?_
  refine Gl.iloadN Y4 rfl dE_12 rfl ?_
  refine Gl.icmpge Y4 dE_13 (by decide) rfl rfl (fun c13 => ?_) (fun c13 => ?_)
  · exact absurd c13 (by decide)
  refine Gl.aloadN Y4 rfl rfl dE_16 rfl ?_
  refine Gl.iload Y4 rfl dE_17 rfl ?_
  refine Gl.lloadN Y4 rfl dE_19 rfl ?_
  refine Gl.lastore Y4 V (v := (.long v1)) rfl ⟨by decide, by decide⟩ (ix := 1) rfl (Nat.le_of_ble_eq_true rfl) ga dE_20 rfl (fun T20 h20 Y20 W20 A20 => ?_)
  have A20 : Arv Z h20 a ka .long (2 : Int32) [(.long x0), (.long v1)] (.long 0) := A20
  have K20 : Keep h0 h20 [a] := (Keep.refl h0 [a]).wr W20 (Or.inl (List.mem_of_getElem? (i := 0) rfl))
  show Gl p e below _ (T20.setTop (mkF m 21 _ []))
  refine Gl.iinc Y20 rfl (r := (2 : Int32)) (by decide) (L' := #[.val (.ref a), .val (.int 1), .val (.int 2), .val (.long v1), .second, .val (.int 2)]) rfl dE_21 rfl ?_
  refine Gl.goto Y20 dE_24 (by decide) rfl ?_
  refine Gl.iload Y20 rfl dE_10 rfl ?_
  refine Gl.iloadN Y20 rfl dE_12 rfl ?_
  refine Gl.icmpge Y20 dE_13 (by decide) rfl rfl (fun c13_2 => ?_) (fun c13_2 => ?_)
  rotate_left
  · exact absurd c13_2 (by decide)
  exact Gl.retV Y20 (by decide) (by decide)  dE_27 ⟨rfl, K20, A20⟩
def R21 : Room := { frames := 2, cells := 0, slots := 0, locals := 31 }
def Q21 (Z : State) (o : Addr) (wo : Addr) (ko : ClassId) (x0 : Int64) (x1 : Int64) (v1 : Int64) (sg : Int64) (h0 : Heap) (v : Option Value) (h : Heap) : Prop := v = some (.ref o) ∧ Keep h0 h [wo] ∧ Arv Z h wo ko .long (2 : Int32) [(.long v1), (.long sg)] (.long 0)
theorem ef21 (o : Addr) (v1 : Int64) (m : MethodId) : entryFrame m #[(.ref o), (.long v1)] 3 = mkF m 0 #[.val (.ref o), .val (.long v1), .second] [] := by first | (simp [entryFrame, mkF, argsToLocals, Value.category]; done) | rfl
theorem rm21 (l : Launch) (Z : State) (a0 : Array Value) (hw : HW a0 Z) (ws : List Jvm.Cond) (o : Addr) (wo : Addr) (ko : ClassId) (x0 : Int64) (x1 : Int64) (v1 : Int64) (sg : Int64) (h0 : Heap) (n0 : Nat) (Z0 : n0 ≤ h0.size) (E_o : Exa Z h0 o "com/example/meterwise/meterwise/model/WholeNumber") (F_o : Fld Z h0 o "com/example/meterwise/meterwise/model/WholeNumber" "words" "[J" (.ref wo)) (V_o : Arv Z h0 wo ko .long (2 : Int32) [(.long x0), (.long x1)] (.long 0)) (g_o : n0 ≤ wo) (nn_o : own_ne o wo) (hsg : v1 >>> ((63 : Int32) &&& 0x3f).toInt64 = sg) : OMet l Z ws (⟨"com/example/meterwise/meterwise/model/WholeNumber", "set", "(J)Lcom/example/meterwise/meterwise/model/WholeNumber;"⟩ : MethodName) prog_137_method_4_code 3 (some (.object "com/example/meterwise/meterwise/model/WholeNumber")) R21 #[(.ref o), (.long v1)] h0 n0 (Q21 Z o wo ko x0 x1 v1 sg h0) := by
  refine OMet.of (own := "com/example/meterwise/meterwise/model/WholeNumber") rfl (plainFor_of_name pn_0) (ef21 o v1) Z0 ?_
  intro p e s m below meth c T0 Y0 hnm
  refine Gl.aloadN Y0 rfl rfl dF_0 rfl ?_
  refine Gl.getF Y0 (host := "") (Or.inl (tw_14 hw)) Via.refl F_o dF_1 rfl (fun T1 Y1 => ?_)
  refine Gl.iconst Y1 (v := (0 : Int32)) (by decide) dF_4 rfl ?_
  refine Gl.lloadN Y1 rfl dF_5 rfl ?_
  refine Gl.lastore Y1 V_o (v := (.long v1)) rfl ⟨by decide, by decide⟩ (ix := 0) rfl (Nat.le_of_ble_eq_true rfl) g_o dF_6 rfl (fun T6 h6 Y6 W6 A6 => ?_)
  have A6 : Arv Z h6 wo ko .long (2 : Int32) [(.long v1), (.long x1)] (.long 0) := A6
  have K6 : Keep h0 h6 [wo] := (Keep.refl h0 [wo]).wr W6 (Or.inl (List.mem_of_getElem? (i := 0) rfl))
  show Gl p e below _ (T6.setTop (mkF m 7 _ []))
  refine Gl.aloadN Y6 rfl rfl dF_7 rfl ?_
  have f1 := (Fld.other W6 F_o (Or.inl nn_o))
  refine Gl.getF Y6 (host := "") (Or.inl (tw_14 hw)) Via.refl f1 dF_8 rfl (fun T8 Y8 => ?_)
  refine Gl.iconst Y8 (v := (1 : Int32)) (by decide) dF_11 rfl ?_
  refine Gl.aloadN Y8 rfl rfl dF_12 rfl ?_
  refine Gl.getF Y8 (host := "") (Or.inl (tw_14 hw)) Via.refl f1 dF_13 rfl (fun T13 Y13 => ?_)
  refine Gl.arraylength Y13 A6 dF_16 rfl ?_
  refine Gl.lloadN Y13 rfl dF_17 rfl ?_
  refine Gl.bipush Y13 (v := (63 : Int32)) (by decide) dF_18 rfl ?_
  obtain ⟨v20, hv20⟩ : ∃ z : Int64, (v1 >>> ((63 : Int32) &&& 0x3f).toInt64) = z := ⟨_, rfl⟩
  refine Gl.lshr Y13 hv20 dF_20 rfl ?_
  obtain rfl : sg = v20 := Eq.symm (hv20.symm.trans hsg)
  refine Gl.callS Y13 (tw_21 hw) (tw_22 hw) (tw_23 hw) (tw_24 hw) (by decide) (rm20 l Z a0 hw [] wo ko sg v1 x1 h6 n0 Y13.sz A6 g_o) (argsL := [(.ref wo), (.int 1), (.int 2), (.long sg)]) (rest := []) rfl rfl (lenOf pd_1 rfl) rfl (by decide) (Nat.le_of_ble_eq_true rfl) (by decide) (by decide) dF_21 rfl (fun v21 T21 h21 Y21 q21 => ?_)
  obtain ⟨rfl, K21, f21_0⟩ := q21
  have KK21 : Keep h0 h21 [wo] := K6.trans K21 (allS (Or.inl (List.mem_of_getElem? (i := 0) rfl)) all0)
  show Gl p e below _ (T21.setTop (mkF m 24 _ []))
  refine Gl.aloadN Y21 rfl rfl dF_24 rfl ?_
  exact Gl.retA Y21 (by decide) (by decide) rfl rfl dF_25 ⟨rfl, KK21, f21_0⟩
theorem dG_13 : decode prog_137_method_10_code 13 = .ok (.aload_n 0, 1) := by decide +kernel
theorem dG_14 : decode prog_137_method_10_code 14 = .ok (.getfield 26, 3) := by decide +kernel
theorem dG_17 : decode prog_137_method_10_code 17 = .ok (.iload_n 1, 1) := by decide +kernel
theorem dG_18 : decode prog_137_method_10_code 18 = .ok (.laload, 1) := by decide +kernel
theorem dG_19 : decode prog_137_method_10_code 19 = .ok (.lconst 0, 1) := by decide +kernel
theorem dG_20 : decode prog_137_method_10_code 20 = .ok (.lcmp, 1) := by decide +kernel
theorem dG_21 : decode prog_137_method_10_code 21 = .ok (.ifCond .eq 5, 3) := by decide +kernel
theorem dG_26 : decode prog_137_method_10_code 26 = .ok (.iinc 1 1, 3) := by decide +kernel
theorem dG_29 : decode prog_137_method_10_code 29 = .ok (.goto (-27), 3) := by decide +kernel
theorem dG_24 : decode prog_137_method_10_code 24 = .ok (.iconst 0, 1) := by decide +kernel
theorem dG_25 : decode prog_137_method_10_code 25 = .ok (.ireturn, 1) := by decide +kernel
def R22 : Room := { frames := 0, cells := 0, slots := 0, locals := 0 }
def Q22 (Z : State) (o : Addr) (wo : Addr) (ko : ClassId) (x0 : Int64) (x1 : Int64) (h0 : Heap) (v : Option Value) (h : Heap) : Prop := ∃ r : Int32, v = some (.int r) ∧ (((x0.toInt = 0) ∧ r.toInt = 1) ∨ (¬ (x0.toInt = 0) ∧ r.toInt = 0)) ∧ h0 = h
theorem ef22 (o : Addr) (m : MethodId) : entryFrame m #[(.ref o)] 2 = mkF m 0 #[.val (.ref o), .unset] [] := by first | (simp [entryFrame, mkF, argsToLocals, Value.category]; done) | rfl
theorem rm22 (l : Launch) (Z : State) (a0 : Array Value) (hw : HW a0 Z) (ws : List Jvm.Cond) (o : Addr) (wo : Addr) (ko : ClassId) (x0 : Int64) (x1 : Int64) (h0 : Heap) (n0 : Nat) (Z0 : n0 ≤ h0.size) (E_o : Exa Z h0 o "com/example/meterwise/meterwise/model/WholeNumber") (F_o : Fld Z h0 o "com/example/meterwise/meterwise/model/WholeNumber" "words" "[J" (.ref wo)) (V_o : Arv Z h0 wo ko .long (2 : Int32) [(.long x0), (.long x1)] (.long 0)) : OMet l Z ws (⟨"com/example/meterwise/meterwise/model/WholeNumber", "zeroBelowTop", "()Z"⟩ : MethodName) prog_137_method_10_code 2 (some .boolean) R22 #[(.ref o)] h0 n0 (Q22 Z o wo ko x0 x1 h0) := by
  refine OMet.of (own := "com/example/meterwise/meterwise/model/WholeNumber") rfl (plainFor_of_name pn_0) (ef22 o) Z0 ?_
  intro p e s m below meth c T0 Y0 hnm
  refine Gl.iconst Y0 (v := (0 : Int32)) (by decide) dG_0 rfl ?_
  refine Gl.istoreN Y0 (L' := #[.val (.ref o), .val (.int 0)]) rfl dG_1 rfl ?_
  refine Gl.iloadN Y0 rfl dG_2 rfl ?_
  refine Gl.aloadN Y0 rfl rfl dG_3 rfl ?_
  refine Gl.getF Y0 (host := "") (Or.inl (tw_14 hw)) Via.refl F_o dG_4 rfl (fun T4 Y4 => ?_)
  refine Gl.arraylength Y4 V_o dG_7 rfl ?_
  refine Gl.iconst Y4 (v := (1 : Int32)) (by decide) dG_8 rfl ?_
  refine Gl.isub Y4 (r := (1 : Int32)) (by decide) dG_9 rfl ?_
  refine Gl.icmpge Y4 dG_10 (by decide) rfl rfl (fun c10 => ?_) (fun c10 => ?_)
  · exact absurd c10 (by decide)
  refine Gl.aloadN Y4 rfl rfl dG_13 rfl ?_
  refine Gl.getF Y4 (host := "") (Or.inl (tw_14 hw)) Via.refl F_o dG_14 rfl (fun T14 Y14 => ?_)
  refine Gl.iloadN Y14 rfl dG_17 rfl ?_
  refine Gl.laload Y14 V_o ⟨by decide, by decide⟩ (v := (.long x0)) rfl dG_18 rfl ?_
  refine Gl.lconst Y14 (v := (0 : Int64)) (by decide) dG_19 rfl ?_
  refine Gl.lcmpeq Y14 dG_20 rfl dG_21 (by decide) rfl rfl (fun c21 => ?_) (fun c21 => ?_)
  · have j21 : x0.toInt = 0 := congrArg Int64.toInt c21
    refine Gl.iinc Y14 rfl (r := (1 : Int32)) (by decide) (L' := #[.val (.ref o), .val (.int 1)]) rfl dG_26 rfl ?_
    refine Gl.goto Y14 dG_29 (by decide) rfl ?_
    refine Gl.iloadN Y14 rfl dG_2 rfl ?_
    refine Gl.aloadN Y14 rfl rfl dG_3 rfl ?_
    refine Gl.getF Y14 (host := "") (Or.inl (tw_14 hw)) Via.refl F_o dG_4 rfl (fun T4_2 Y4_2 => ?_)
    refine Gl.arraylength Y4_2 V_o dG_7 rfl ?_
    refine Gl.iconst Y4_2 (v := (1 : Int32)) (by decide) dG_8 rfl ?_
    refine Gl.isub Y4_2 (r := (1 : Int32)) (by decide) dG_9 rfl ?_
    refine Gl.icmpge Y4_2 dG_10 (by decide) rfl rfl (fun c10_2 => ?_) (fun c10_2 => ?_)
    rotate_left
    · exact absurd c10_2 (by decide)
    refine Gl.iconst Y4_2 (v := (1 : Int32)) (by decide) dG_32 rfl ?_
    exact Gl.retZ Y4_2 (by decide) (by decide) (x' := (1 : Int32)) (by decide) dG_33 ⟨(1 : Int32), rfl, (by have q0 : (0 : Int32).toInt = 0 := rfl; have q1 : (1 : Int32).toInt = 1 := rfl; have q2 : (-1 : Int32).toInt = -1 := rfl; omega), rfl⟩
  · have j21 : ¬ (x0.toInt = 0) := fun q => c21 (Int64.toInt_inj.mp q)
    refine Gl.iconst Y14 (v := (0 : Int32)) (by decide) dG_24 rfl ?_
    exact Gl.retZ Y14 (by decide) (by decide) (x' := (0 : Int32)) (by decide) dG_25 ⟨(0 : Int32), rfl, (by have q0 : (0 : Int32).toInt = 0 := rfl; have q1 : (1 : Int32).toInt = 1 := rfl; have q2 : (-1 : Int32).toInt = -1 := rfl; omega), rfl⟩
def R23 : Room := { frames := 1, cells := 0, slots := 0, locals := 13 }
def Q23 (Z : State) (o : Addr) (wo : Addr) (ko : ClassId) (x0 : Int64) (x1 : Int64) (h0 : Heap) (v : Option Value) (h : Heap) : Prop := ∃ r : Int32, v = some (.int r) ∧ (((x1.toInt = (-9223372036854775808) ∧ x0.toInt = 0) ∧ r.toInt = 1) ∨ (¬ (x1.toInt = (-9223372036854775808) ∧ x0.toInt = 0) ∧ r.toInt = 0)) ∧ h0 = h
theorem ef23 (o : Addr) (m : MethodId) : entryFrame m #[(.ref o)] 1 = mkF m 0 #[.val (.ref o)] [] := by first | (simp [entryFrame, mkF, argsToLocals, Value.category]; done) | rfl
theorem rm23 (l : Launch) (Z : State) (a0 : Array Value) (hw : HW a0 Z) (ws : List Jvm.Cond) (o : Addr) (wo : Addr) (ko : ClassId) (x0 : Int64) (x1 : Int64) (h0 : Heap) (n0 : Nat) (Z0 : n0 ≤ h0.size) (E_o : Exa Z h0 o "com/example/meterwise/meterwise/model/WholeNumber") (F_o : Fld Z h0 o "com/example/meterwise/meterwise/model/WholeNumber" "words" "[J" (.ref wo)) (V_o : Arv Z h0 wo ko .long (2 : Int32) [(.long x0), (.long x1)] (.long 0)) : OMet l Z ws (⟨"com/example/meterwise/meterwise/model/WholeNumber", "overflowed", "()Z"⟩ : MethodName) prog_137_method_8_code 1 (some .boolean) R23 #[(.ref o)] h0 n0 (Q23 Z o wo ko x0 x1 h0) := by
  refine OMet.of (own := "com/example/meterwise/meterwise/model/WholeNumber") rfl (plainFor_of_name pn_0) (ef23 o) Z0 ?_
  intro p e s m below meth c T0 Y0 hnm
  refine Gl.aloadN Y0 rfl rfl dH_0 rfl ?_
  refine Gl.callP Y0 (tw_42 hw) (tw_43 hw) (tw_44 hw) (tw_1 hw) (tw_2 hw) (tw_45 hw) (by decide) E_o (rm17 l Z a0 hw [] o wo ko x0 x1 h0 n0 Y0.sz E_o F_o V_o) (a := o) (argsL := []) (rest := []) rfl rfl (lenOf pd_2 rfl) rfl (by decide) (Nat.le_of_ble_eq_true rfl) (by decide) (by decide) dH_1 rfl (fun v1 T1 h1 Y1 q1 => ?_)
  obtain ⟨rfl, rfl⟩ := q1
  show Gl p e below _ (T1.setTop (mkF m 4 _ [(.long x1)]))
  refine Gl.ldcJ Y1 (tw_46 hw) dH_4 rfl ?_
  refine Gl.lcmpne Y1 dH_7 rfl dH_8 (by decide) rfl rfl (fun c8 => ?_) (fun c8 => ?_)
  · have j8 : ¬ (x1.toInt = (-9223372036854775808)) := fun q => c8 (Int64.toInt_inj.mp q)
    refine Gl.iconst Y1 (v := (0 : Int32)) (by decide) dH_22 rfl ?_
    exact Gl.retZ Y1 (by decide) (by decide) (x' := (0 : Int32)) (by decide) dH_23 ⟨(0 : Int32), rfl, (by have q0 : (0 : Int32).toInt = 0 := rfl; have q1 : (1 : Int32).toInt = 1 := rfl; have q2 : (-1 : Int32).toInt = -1 := rfl; omega), rfl⟩
  · have j8 : x1.toInt = (-9223372036854775808) := congrArg Int64.toInt c8
    refine Gl.aloadN Y1 rfl rfl dH_11 rfl ?_
    refine Gl.callP Y1 (tw_75 hw) (tw_76 hw) (tw_77 hw) (tw_1 hw) (tw_2 hw) (tw_78 hw) (by decide) E_o (rm22 l Z a0 hw [] o wo ko x0 x1 h0 n0 Y1.sz E_o F_o V_o) (a := o) (argsL := []) (rest := []) rfl rfl (lenOf pd_3 rfl) rfl (by decide) (Nat.le_of_ble_eq_true rfl) (by decide) (by decide) dH_12 rfl (fun v12 T12 h12 Y12 q12 => ?_)
    obtain ⟨r12, rfl, p12, rfl⟩ := q12
    have br12 : r12 = 0 ∨ r12 = 1 := by rcases p12 with q | q; exact Or.inr (Int32.toInt_inj.mp q.2); exact Or.inl (Int32.toInt_inj.mp q.2)
    show Gl p e below _ (T12.setTop (mkF m 15 _ [(.int r12)]))
    refine Gl.ifeq Y12 dH_15 (by decide) rfl rfl (fun c15 => ?_) (fun c15 => ?_)
    · have j15 : r12.toInt = 0 := congrArg Int32.toInt c15
      refine Gl.iconst Y12 (v := (0 : Int32)) (by decide) dH_22 rfl ?_
      exact Gl.retZ Y12 (by decide) (by decide) (x' := (0 : Int32)) (by decide) dH_23 ⟨(0 : Int32), rfl, (by have q0 : (0 : Int32).toInt = 0 := rfl; have q1 : (1 : Int32).toInt = 1 := rfl; have q2 : (-1 : Int32).toInt = -1 := rfl; omega), rfl⟩
    · have j15 : ¬ (r12.toInt = 0) := fun q => c15 (Int32.toInt_inj.mp q)
      refine Gl.iconst Y12 (v := (1 : Int32)) (by decide) dH_18 rfl ?_
      refine Gl.goto Y12 dH_19 (by decide) rfl ?_
      exact Gl.retZ Y12 (by decide) (by decide) (x' := (1 : Int32)) (by decide) dH_23 ⟨(1 : Int32), rfl, (by have q0 : (0 : Int32).toInt = 0 := rfl; have q1 : (1 : Int32).toInt = 1 := rfl; have q2 : (-1 : Int32).toInt = -1 := rfl; omega), rfl⟩
def R24 : Room := { frames := 1, cells := 0, slots := 0, locals := 13 }
def Q24 (Z : State) (o : Addr) (wo : Addr) (ko : ClassId) (x0 : Int64) (x1 : Int64) (h0 : Heap) (v : Option Value) (h : Heap) : Prop := ∃ r : Int32, v = some (.int r) ∧ (((x1.toInt < 0 ∧ r.toInt = -1) ∨ (¬ x1.toInt < 0 ∧ (x0.toInt = 0 ∧ x1.toInt = 0) ∧ r.toInt = 0) ∨ (¬ x1.toInt < 0 ∧ ¬ (x0.toInt = 0 ∧ x1.toInt = 0) ∧ r.toInt = 1))) ∧ h0 = h
theorem ef24 (o : Addr) (m : MethodId) : entryFrame m #[(.ref o)] 3 = mkF m 0 #[.val (.ref o), .unset, .unset] [] := by first | (simp [entryFrame, mkF, argsToLocals, Value.category]; done) | rfl
theorem rm24 (l : Launch) (Z : State) (a0 : Array Value) (hw : HW a0 Z) (ws : List Jvm.Cond) (o : Addr) (wo : Addr) (ko : ClassId) (x0 : Int64) (x1 : Int64) (h0 : Heap) (n0 : Nat) (Z0 : n0 ≤ h0.size) (E_o : Exa Z h0 o "com/example/meterwise/meterwise/model/WholeNumber") (F_o : Fld Z h0 o "com/example/meterwise/meterwise/model/WholeNumber" "words" "[J" (.ref wo)) (V_o : Arv Z h0 wo ko .long (2 : Int32) [(.long x0), (.long x1)] (.long 0)) : OMet l Z ws (⟨"com/example/meterwise/meterwise/model/WholeNumber", "signum", "()I"⟩ : MethodName) prog_137_method_9_code 3 (some .int) R24 #[(.ref o)] h0 n0 (Q24 Z o wo ko x0 x1 h0) := by
  refine OMet.of (own := "com/example/meterwise/meterwise/model/WholeNumber") rfl (plainFor_of_name pn_0) (ef24 o) Z0 ?_
  intro p e s m below meth c T0 Y0 hnm
  refine Gl.aloadN Y0 rfl rfl dI_0 rfl ?_
  refine Gl.callP Y0 (tw_42 hw) (tw_43 hw) (tw_44 hw) (tw_1 hw) (tw_2 hw) (tw_45 hw) (by decide) E_o (rm17 l Z a0 hw [] o wo ko x0 x1 h0 n0 Y0.sz E_o F_o V_o) (a := o) (argsL := []) (rest := []) rfl rfl (lenOf pd_2 rfl) rfl (by decide) (Nat.le_of_ble_eq_true rfl) (by decide) (by decide) dI_1 rfl (fun v1 T1 h1 Y1 q1 => ?_)
  obtain ⟨rfl, rfl⟩ := q1
  show Gl p e below _ (T1.setTop (mkF m 4 _ [(.long x1)]))
  refine Gl.lstoreN Y1 (L' := #[.val (.ref o), .val (.long x1), .second]) rfl dI_4 rfl ?_
  refine Gl.lloadN Y1 rfl dI_5 rfl ?_
  refine Gl.lconst Y1 (v := (0 : Int64)) (by decide) dI_6 rfl ?_
  refine Gl.lcmpge Y1 dI_7 rfl dI_8 (by decide) rfl rfl (fun c8 => ?_) (fun c8 => ?_)
  · have j8 : ¬ (x1.toInt < 0) := fun q => c8 (Int64.lt_iff_toInt_lt.mpr q)
    refine Gl.lloadN Y1 rfl dI_13 rfl ?_
    refine Gl.lconst Y1 (v := (0 : Int64)) (by decide) dI_14 rfl ?_
    refine Gl.lcmpne Y1 dI_15 rfl dI_16 (by decide) rfl rfl (fun c16 => ?_) (fun c16 => ?_)
    · have j16 : ¬ (x1.toInt = 0) := fun q => c16 (Int64.toInt_inj.mp q)
      refine Gl.iconst Y1 (v := (1 : Int32)) (by decide) dI_37 rfl ?_
      refine Gl.goto Y1 dI_38 (by decide) rfl ?_
      exact Gl.retI Y1 (by decide) (by decide)  dI_42 ⟨(1 : Int32), rfl, (by have q0 : (0 : Int32).toInt = 0 := rfl; have q1 : (1 : Int32).toInt = 1 := rfl; have q2 : (-1 : Int32).toInt = -1 := rfl; omega), rfl⟩
    · have j16 : x1.toInt = 0 := congrArg Int64.toInt c16
      refine Gl.aloadN Y1 rfl rfl dI_19 rfl ?_
      refine Gl.getF Y1 (host := "") (Or.inl (tw_14 hw)) Via.refl F_o dI_20 rfl (fun T20 Y20 => ?_)
      refine Gl.iconst Y20 (v := (0 : Int32)) (by decide) dI_23 rfl ?_
      refine Gl.laload Y20 V_o ⟨by decide, by decide⟩ (v := (.long x0)) rfl dI_24 rfl ?_
      refine Gl.lconst Y20 (v := (0 : Int64)) (by decide) dI_25 rfl ?_
      refine Gl.lcmpne Y20 dI_26 rfl dI_27 (by decide) rfl rfl (fun c27 => ?_) (fun c27 => ?_)
      · have j27 : ¬ (x0.toInt = 0) := fun q => c27 (Int64.toInt_inj.mp q)
        refine Gl.iconst Y20 (v := (1 : Int32)) (by decide) dI_37 rfl ?_
        refine Gl.goto Y20 dI_38 (by decide) rfl ?_
        exact Gl.retI Y20 (by decide) (by decide)  dI_42 ⟨(1 : Int32), rfl, (by have q0 : (0 : Int32).toInt = 0 := rfl; have q1 : (1 : Int32).toInt = 1 := rfl; have q2 : (-1 : Int32).toInt = -1 := rfl; omega), rfl⟩
      · have j27 : x0.toInt = 0 := congrArg Int64.toInt c27
        refine Gl.aloadN Y20 rfl rfl dI_30 rfl ?_
        refine Gl.callP Y20 (tw_75 hw) (tw_76 hw) (tw_77 hw) (tw_1 hw) (tw_2 hw) (tw_78 hw) (by decide) E_o (rm22 l Z a0 hw [] o wo ko x0 x1 h0 n0 Y20.sz E_o F_o V_o) (a := o) (argsL := []) (rest := []) rfl rfl (lenOf pd_3 rfl) rfl (by decide) (Nat.le_of_ble_eq_true rfl) (by decide) (by decide) dI_31 rfl (fun v31 T31 h31 Y31 q31 => ?_)
        obtain ⟨r31, rfl, p31, rfl⟩ := q31
        have br31 : r31 = 0 ∨ r31 = 1 := by rcases p31 with q | q; exact Or.inr (Int32.toInt_inj.mp q.2); exact Or.inl (Int32.toInt_inj.mp q.2)
        show Gl p e below _ (T31.setTop (mkF m 34 _ [(.int r31)]))
        refine Gl.ifne Y31 dI_34 (by decide) rfl rfl (fun c34 => ?_) (fun c34 => ?_)
        · have j34 : ¬ (r31.toInt = 0) := fun q => c34 (Int32.toInt_inj.mp q)
          refine Gl.iconst Y31 (v := (0 : Int32)) (by decide) dI_41 rfl ?_
          exact Gl.retI Y31 (by decide) (by decide)  dI_42 ⟨(0 : Int32), rfl, (by have q0 : (0 : Int32).toInt = 0 := rfl; have q1 : (1 : Int32).toInt = 1 := rfl; have q2 : (-1 : Int32).toInt = -1 := rfl; omega), rfl⟩
        · have j34 : r31.toInt = 0 := congrArg Int32.toInt c34
          refine Gl.iconst Y31 (v := (1 : Int32)) (by decide) dI_37 rfl ?_
          refine Gl.goto Y31 dI_38 (by decide) rfl ?_
          exact Gl.retI Y31 (by decide) (by decide)  dI_42 ⟨(1 : Int32), rfl, (by have q0 : (0 : Int32).toInt = 0 := rfl; have q1 : (1 : Int32).toInt = 1 := rfl; have q2 : (-1 : Int32).toInt = -1 := rfl; omega), rfl⟩
  · have j8 : x1.toInt < 0 := Int64.lt_iff_toInt_lt.mp c8
    refine Gl.iconst Y1 (v := (-1 : Int32)) (by decide) dI_11 rfl ?_
    exact Gl.retI Y1 (by decide) (by decide)  dI_12 ⟨(-1 : Int32), rfl, (by have q0 : (0 : Int32).toInt = 0 := rfl; have q1 : (1 : Int32).toInt = 1 := rfl; have q2 : (-1 : Int32).toInt = -1 := rfl; omega), rfl⟩
def R25 : Room := { frames := 0, cells := 0, slots := 0, locals := 0 }
def Q25 (Z : State) (o : Addr) (wo : Addr) (ko : ClassId) (x0 : Int64) (x1 : Int64) (h0 : Heap) (v : Option Value) (h : Heap) : Prop := v = some (.ref o) ∧ Keep h0 h [wo] ∧ Arv Z h wo ko .long (2 : Int32) [(.long (own_o x0 1)), (.long (own_o x1 (own_k x0 1)))] (.long 0)
theorem ef25 (o : Addr) (m : MethodId) : entryFrame m #[(.ref o)] 4 = mkF m 0 #[.val (.ref o), .unset, .unset, .unset] [] := by first | (simp [entryFrame, mkF, argsToLocals, Value.category]; done) | rfl
theorem rm25 (l : Launch) (Z : State) (a0 : Array Value) (hw : HW a0 Z) (ws : List Jvm.Cond) (o : Addr) (wo : Addr) (ko : ClassId) (x0 : Int64) (x1 : Int64) (h0 : Heap) (n0 : Nat) (Z0 : n0 ≤ h0.size) (E_o : Exa Z h0 o "com/example/meterwise/meterwise/model/WholeNumber") (F_o : Fld Z h0 o "com/example/meterwise/meterwise/model/WholeNumber" "words" "[J" (.ref wo)) (V_o : Arv Z h0 wo ko .long (2 : Int32) [(.long x0), (.long x1)] (.long 0)) (g_o : n0 ≤ wo) (nn_o : own_ne o wo) : OMet l Z ws (⟨"com/example/meterwise/meterwise/model/WholeNumber", "negate", "()Lcom/example/meterwise/meterwise/model/WholeNumber;"⟩ : MethodName) prog_137_method_19_code 4 (some (.object "com/example/meterwise/meterwise/model/WholeNumber")) R25 #[(.ref o)] h0 n0 (Q25 Z o wo ko x0 x1 h0) := by
  refine OMet.of (own := "com/example/meterwise/meterwise/model/WholeNumber") rfl (plainFor_of_name pn_0) (ef25 o) Z0 ?_
  intro p e s m below meth c T0 Y0 hnm
  refine Gl.lconst Y0 (v := (1 : Int64)) (by decide) dJ_0 rfl ?_
  refine Gl.lstoreN Y0 (L' := #[.val (.ref o), .val (.long 1), .second, .unset]) rfl dJ_1 rfl ?_
  refine Gl.iconst Y0 (v := (0 : Int32)) (by decide) dJ_2 rfl ?_
  refine Gl.istoreN Y0 (L' := #[.val (.ref o), .val (.long 1), .second, .val (.int 0)]) rfl dJ_3 rfl ?_
  refine Gl.iloadN Y0 rfl dJ_4 rfl ?_
  refine Gl.aloadN Y0 rfl rfl dJ_5 rfl ?_
  refine Gl.getF Y0 (host := "") (Or.inl (tw_14 hw)) Via.refl F_o dJ_6 rfl (fun T6 Y6 => ?_)
  refine Gl.arraylength Y6 V_o dJ_9 rfl ?_
  refine Gl.icmpge Y6 dJ_10 (by decide) rfl rfl (fun c10 => ?_) (fun c10 => ?_)
  · exact absurd c10 (by decide)
  refine Gl.aloadN Y6 rfl rfl dJ_13 rfl ?_
  refine Gl.getF Y6 (host := "") (Or.inl (tw_14 hw)) Via.refl F_o dJ_14 rfl (fun T14 Y14 => ?_)
  refine Gl.iloadN Y14 rfl dJ_17 rfl ?_
  refine Gl.aloadN Y14 rfl rfl dJ_18 rfl ?_
  refine Gl.getF Y14 (host := "") (Or.inl (tw_14 hw)) Via.refl F_o dJ_19 rfl (fun T19 Y19 => ?_)
  refine Gl.iloadN Y19 rfl dJ_22 rfl ?_
  refine Gl.laload Y19 V_o ⟨by decide, by decide⟩ (v := (.long x0)) rfl dJ_23 rfl ?_
  refine Gl.ldcJ Y19 (tw_51 hw) dJ_24 rfl ?_
  refine Gl.lxor Y19 rfl dJ_27 rfl ?_
  refine Gl.lloadN Y19 rfl dJ_28 rfl ?_
  refine Gl.ladd Y19 rfl dJ_29 rfl ?_
  refine Gl.lastore Y19 V_o (v := (.long ((x0 ^^^ (-1 : Int64)) + (1 : Int64)))) rfl ⟨by decide, by decide⟩ (ix := 0) rfl (Nat.le_of_ble_eq_true rfl) g_o dJ_30 rfl (fun T30 h30 Y30 W30 A30 => ?_)
  have A30 : Arv Z h30 wo ko .long (2 : Int32) [(.long ((x0 ^^^ (-1 : Int64)) + (1 : Int64))), (.long x1)] (.long 0) := A30
  have K30 : Keep h0 h30 [wo] := (Keep.refl h0 [wo]).wr W30 (Or.inl (List.mem_of_getElem? (i := 0) rfl))
  show Gl p e below _ (T30.setTop (mkF m 31 _ []))
  refine Gl.lloadN Y30 rfl dJ_31 rfl ?_
  refine Gl.aloadN Y30 rfl rfl dJ_32 rfl ?_
  have f1 := (Fld.other W30 F_o (Or.inl nn_o))
  refine Gl.getF Y30 (host := "") (Or.inl (tw_14 hw)) Via.refl f1 dJ_33 rfl (fun T33 Y33 => ?_)
  refine Gl.iloadN Y33 rfl dJ_36 rfl ?_
  refine Gl.laload Y33 A30 ⟨by decide, by decide⟩ (v := (.long ((x0 ^^^ (-1 : Int64)) + (1 : Int64)))) rfl dJ_37 rfl ?_
  refine Gl.lconst Y33 (v := (0 : Int64)) (by decide) dJ_38 rfl ?_
  obtain ⟨z39, hz39⟩ : ∃ z : Int64, (if ((x0 ^^^ (-1 : Int64)) + (1 : Int64)) = (0 : Int64) then (1 : Int64) else (0 : Int64)) = z := ⟨_, rfl⟩
  refine own_cut (B := ∀ T', Sd Z "com/example/meterwise/meterwise/model/WholeNumber" prog_137_method_19_code 4 (some (.object "com/example/meterwise/meterwise/model/WholeNumber")) n0 p l e R25 s m #[(.ref o)] below meth c T' h30 0 0 → Gl p e below (Pst s n0 R25.cells R25.slots (Q25 Z o wo ko x0 x1 h0)) (T'.setTop (mkF m 48 #[.val (.ref o), .val (.long 1), .second, .val (.int 0)] [(.long z39), (.long 1)]))) (fun jk => ?_) (fun T39j Y39j => ?_)
  · refine Gl.lcmpne Y33 dJ_39 rfl dJ_40 (by decide) rfl rfl (fun c40 => ?_) (fun c40 => ?_)
    · refine Gl.lconst Y33 (v := (0 : Int64)) (by decide) dJ_47 rfl ?_
      have ez39 : z39 = (0 : Int64) := by rw [← hz39]; simp only [c40, ↓reduceIte, if_true, if_false]
      rw [ez39] at jk
      exact jk T33 Y33
    · refine Gl.lconst Y33 (v := (1 : Int64)) (by decide) dJ_43 rfl ?_
      refine Gl.goto Y33 dJ_44 (by decide) rfl ?_
      have ez39 : z39 = (1 : Int64) := by rw [← hz39]; simp only [c40, ↓reduceIte, if_true, if_false]
      rw [ez39] at jk
      exact jk T33 Y33
  refine Gl.land Y39j rfl dJ_48 rfl ?_
  refine Gl.lstoreN Y39j (L' := #[.val (.ref o), .val (.long ((1 : Int64) &&& z39)), .second, .val (.int 0)]) rfl dJ_49 rfl ?_
  refine Gl.iinc Y39j rfl (r := (1 : Int32)) (by decide) (L' := #[.val (.ref o), .val (.long ((1 : Int64) &&& z39)), .second, .val (.int 1)]) rfl dJ_50 rfl ?_
  refine Gl.goto Y39j dJ_53 (by decide) rfl ?_
  refine Gl.iloadN Y39j rfl dJ_4 rfl ?_
  refine Gl.aloadN Y39j rfl rfl dJ_5 rfl ?_
  refine Gl.getF Y39j (host := "") (Or.inl (tw_14 hw)) Via.refl f1 dJ_6 rfl (fun T6_2 Y6_2 => ?_)
  refine Gl.arraylength Y6_2 A30 dJ_9 rfl ?_
  refine Gl.icmpge Y6_2 dJ_10 (by decide) rfl rfl (fun c10_2 => ?_) (fun c10_2 => ?_)
  · exact absurd c10_2 (by decide)
  refine Gl.aloadN Y6_2 rfl rfl dJ_13 rfl ?_
  refine Gl.getF Y6_2 (host := "") (Or.inl (tw_14 hw)) Via.refl f1 dJ_14 rfl (fun T14_2 Y14_2 => ?_)
  refine Gl.iloadN Y14_2 rfl dJ_17 rfl ?_
  refine Gl.aloadN Y14_2 rfl rfl dJ_18 rfl ?_
  refine Gl.getF Y14_2 (host := "") (Or.inl (tw_14 hw)) Via.refl f1 dJ_19 rfl (fun T19_2 Y19_2 => ?_)
  refine Gl.iloadN Y19_2 rfl dJ_22 rfl ?_
  refine Gl.laload Y19_2 A30 ⟨by decide, by decide⟩ (v := (.long x1)) rfl dJ_23 rfl ?_
  refine Gl.ldcJ Y19_2 (tw_51 hw) dJ_24 rfl ?_
  refine Gl.lxor Y19_2 rfl dJ_27 rfl ?_
  refine Gl.lloadN Y19_2 rfl dJ_28 rfl ?_
  refine Gl.ladd Y19_2 rfl dJ_29 rfl ?_
  refine Gl.lastore Y19_2 A30 (v := (.long ((x1 ^^^ (-1 : Int64)) + ((1 : Int64) &&& z39)))) rfl ⟨by decide, by decide⟩ (ix := 1) rfl (Nat.le_of_ble_eq_true rfl) g_o dJ_30 rfl (fun T30_2 h30_2 Y30_2 W30_2 A30_2 => ?_)
  have A30_2 : Arv Z h30_2 wo ko .long (2 : Int32) [(.long ((x0 ^^^ (-1 : Int64)) + (1 : Int64))), (.long ((x1 ^^^ (-1 : Int64)) + ((1 : Int64) &&& z39)))] (.long 0) := A30_2
  have K30_2 : Keep h0 h30_2 [wo] := K30.wr W30_2 (Or.inl (List.mem_of_getElem? (i := 0) rfl))
  show Gl p e below _ (T30_2.setTop (mkF m 31 _ []))
  refine Gl.lloadN Y30_2 rfl dJ_31 rfl ?_
  refine Gl.aloadN Y30_2 rfl rfl dJ_32 rfl ?_
  have f2 := (Fld.other W30_2 f1 (Or.inl nn_o))
  refine Gl.getF Y30_2 (host := "") (Or.inl (tw_14 hw)) Via.refl f2 dJ_33 rfl (fun T33_2 Y33_2 => ?_)
  refine Gl.iloadN Y33_2 rfl dJ_36 rfl ?_
  refine Gl.laload Y33_2 A30_2 ⟨by decide, by decide⟩ (v := (.long ((x1 ^^^ (-1 : Int64)) + ((1 : Int64) &&& z39)))) rfl dJ_37 rfl ?_
  refine Gl.lconst Y33_2 (v := (0 : Int64)) (by decide) dJ_38 rfl ?_
  obtain ⟨z39_2, hz39_2⟩ : ∃ z : Int64, (if ((x1 ^^^ (-1 : Int64)) + ((1 : Int64) &&& z39)) = (0 : Int64) then (1 : Int64) else (0 : Int64)) = z := ⟨_, rfl⟩
  refine own_cut (B := ∀ T', Sd Z "com/example/meterwise/meterwise/model/WholeNumber" prog_137_method_19_code 4 (some (.object "com/example/meterwise/meterwise/model/WholeNumber")) n0 p l e R25 s m #[(.ref o)] below meth c T' h30_2 0 0 → Gl p e below (Pst s n0 R25.cells R25.slots (Q25 Z o wo ko x0 x1 h0)) (T'.setTop (mkF m 48 #[.val (.ref o), .val (.long ((1 : Int64) &&& z39)), .second, .val (.int 1)] [(.long z39_2), (.long ((1 : Int64) &&& z39))]))) (fun jk => ?_) (fun T39j_2 Y39j_2 => ?_)
  · refine Gl.lcmpne Y33_2 dJ_39 rfl dJ_40 (by decide) rfl rfl (fun c40 => ?_) (fun c40 => ?_)
    · refine Gl.lconst Y33_2 (v := (0 : Int64)) (by decide) dJ_47 rfl ?_
      have ez39_2 : z39_2 = (0 : Int64) := by rw [← hz39_2]; simp only [c40, ↓reduceIte, if_true, if_false]
      rw [ez39_2] at jk
      exact jk T33_2 Y33_2
    · refine Gl.lconst Y33_2 (v := (1 : Int64)) (by decide) dJ_43 rfl ?_
      refine Gl.goto Y33_2 dJ_44 (by decide) rfl ?_
      have ez39_2 : z39_2 = (1 : Int64) := by rw [← hz39_2]; simp only [c40, ↓reduceIte, if_true, if_false]
      rw [ez39_2] at jk
      exact jk T33_2 Y33_2
  refine Gl.land Y39j_2 rfl dJ_48 rfl ?_
  refine Gl.lstoreN Y39j_2 (L' := #[.val (.ref o), .val (.long (((1 : Int64) &&& z39) &&& z39_2)), .second, .val (.int 1)]) rfl dJ_49 rfl ?_
  refine Gl.iinc Y39j_2 rfl (r := (2 : Int32)) (by decide) (L' := #[.val (.ref o), .val (.long (((1 : Int64) &&& z39) &&& z39_2)), .second, .val (.int 2)]) rfl dJ_50 rfl ?_
  refine Gl.goto Y39j_2 dJ_53 (by decide) rfl ?_
  refine Gl.iloadN Y39j_2 rfl dJ_4 rfl ?_
  refine Gl.aloadN Y39j_2 rfl rfl dJ_5 rfl ?_
  refine Gl.getF Y39j_2 (host := "") (Or.inl (tw_14 hw)) Via.refl f2 dJ_6 rfl (fun T6_3 Y6_3 => ?_)
  refine Gl.arraylength Y6_3 A30_2 dJ_9 rfl ?_
  refine Gl.icmpge Y6_3 dJ_10 (by decide) rfl rfl (fun c10_3 => ?_) (fun c10_3 => ?_)
  rotate_left
  · exact absurd c10_3 (by decide)
  refine Gl.aloadN Y6_3 rfl rfl dJ_56 rfl ?_
  subst hz39 hz39_2
  exact Gl.retA Y6_3 (by decide) (by decide) rfl rfl dJ_57 ⟨rfl, K30_2, A30_2⟩
def R26 : Room := { frames := 0, cells := 0, slots := 0, locals := 0 }
def Q26 (Z : State) (h0 : Heap) (v : Option Value) (h : Heap) : Prop := v = some (.int 2) ∧ h0 = h
theorem ef26 (m : MethodId) : entryFrame m #[(.int 2), (.int 2)] 2 = mkF m 0 #[.val (.int 2), .val (.int 2)] [] := by first | (simp [entryFrame, mkF, argsToLocals, Value.category]; done) | rfl
theorem rm26 (l : Launch) (Z : State) (a0 : Array Value) (hw : HW a0 Z) (ws : List Jvm.Cond) (h0 : Heap) (n0 : Nat) (Z0 : n0 ≤ h0.size) : OMet l Z ws (⟨"java/lang/Math", "max", "(II)I"⟩ : MethodName) jdk_29_method_65_code 2 (some .int) R26 #[(.int 2), (.int 2)] h0 n0 (Q26 Z h0) := by
  refine OMet.of (own := "java/lang/Math") rfl (Jvm.Free.JP.mathPlain rfl (by decide +kernel)) (ef26) Z0 ?_
  intro p e s m below meth c T0 Y0 hnm
  refine Gl.iloadN Y0 rfl dK_0 rfl ?_
  refine Gl.iloadN Y0 rfl dK_1 rfl ?_
  refine Gl.icmplt Y0 dK_2 (by decide) rfl rfl (fun c2 => ?_) (fun c2 => ?_)
  · exact absurd c2 (by decide)
  refine Gl.iloadN Y0 rfl dK_5 rfl ?_
  refine Gl.goto Y0 dK_6 (by decide) rfl ?_
  exact Gl.retI Y0 (by decide) (by decide)  dK_10 ⟨rfl, rfl⟩
def R27 : Room := { frames := 1, cells := 0, slots := 0, locals := 16 }
def Q27 (Z : State) (o : Addr) (wo : Addr) (ko : ClassId) (x0 : Int64) (x1 : Int64) (h0 : Heap) (v : Option Value) (h : Heap) : Prop := v = some (.ref o) ∧ Keep h0 h [wo] ∧ Arv Z h wo ko .long (2 : Int32) [(.long 0), (.long (-9223372036854775808))] (.long 0)
theorem ef27 (o : Addr) (m : MethodId) : entryFrame m #[(.ref o)] 1 = mkF m 0 #[.val (.ref o)] [] := by first | (simp [entryFrame, mkF, argsToLocals, Value.category]; done) | rfl
theorem rm27 (l : Launch) (Z : State) (a0 : Array Value) (hw : HW a0 Z) (ws : List Jvm.Cond) (o : Addr) (wo : Addr) (ko : ClassId) (x0 : Int64) (x1 : Int64) (h0 : Heap) (n0 : Nat) (Z0 : n0 ≤ h0.size) (E_o : Exa Z h0 o "com/example/meterwise/meterwise/model/WholeNumber") (F_o : Fld Z h0 o "com/example/meterwise/meterwise/model/WholeNumber" "words" "[J" (.ref wo)) (V_o : Arv Z h0 wo ko .long (2 : Int32) [(.long x0), (.long x1)] (.long 0)) (g_o : n0 ≤ wo) (nn_o : own_ne o wo) : OMet l Z ws (⟨"com/example/meterwise/meterwise/model/WholeNumber", "overflow", "()Lcom/example/meterwise/meterwise/model/WholeNumber;"⟩ : MethodName) prog_137_method_7_code 1 (some (.object "com/example/meterwise/meterwise/model/WholeNumber")) R27 #[(.ref o)] h0 n0 (Q27 Z o wo ko x0 x1 h0) := by
  refine OMet.of (own := "com/example/meterwise/meterwise/model/WholeNumber") rfl (plainFor_of_name pn_0) (ef27 o) Z0 ?_
  intro p e s m below meth c T0 Y0 hnm
  refine Gl.aloadN Y0 rfl rfl dL_0 rfl ?_
  refine Gl.getF Y0 (host := "") (Or.inl (tw_14 hw)) Via.refl F_o dL_1 rfl (fun T1 Y1 => ?_)
  refine Gl.lconst Y1 (v := (0 : Int64)) (by decide) dL_4 rfl ?_
  refine Gl.callS Y1 (tw_72 hw) (tw_73 hw) (tw_23 hw) (tw_74 hw) (by decide) (rm18 l Z a0 hw [] wo ko x0 x1 h0 n0 Y1.sz V_o g_o) (argsL := [(.ref wo), (.long 0)]) (rest := []) rfl rfl (lenOf pd_4 rfl) rfl (by decide) (Nat.le_of_ble_eq_true rfl) (by decide) (by decide) dL_5 rfl (fun v5 T5 h5 Y5 q5 => ?_)
  obtain ⟨rfl, K5, f5_0⟩ := q5
  have KK5 : Keep h0 h5 [wo] := (Keep.refl h0 [wo]).trans K5 (allS (Or.inl (List.mem_of_getElem? (i := 0) rfl)) all0)
  show Gl p e below _ (T5.setTop (mkF m 8 _ []))
  refine Gl.aloadN Y5 rfl rfl dL_8 rfl ?_
  have f1 := (F_o.keep K5 (ninS nn_o nin0))
  refine Gl.getF Y5 (host := "") (Or.inl (tw_14 hw)) Via.refl f1 dL_9 rfl (fun T9 Y9 => ?_)
  refine Gl.aloadN Y9 rfl rfl dL_12 rfl ?_
  refine Gl.getF Y9 (host := "") (Or.inl (tw_14 hw)) Via.refl f1 dL_13 rfl (fun T13 Y13 => ?_)
  refine Gl.arraylength Y13 f5_0 dL_16 rfl ?_
  refine Gl.iconst Y13 (v := (1 : Int32)) (by decide) dL_17 rfl ?_
  refine Gl.isub Y13 (r := (1 : Int32)) (by decide) dL_18 rfl ?_
  refine Gl.ldcJ Y13 (tw_46 hw) dL_19 rfl ?_
  refine Gl.lastore Y13 f5_0 (v := (.long (-9223372036854775808))) rfl ⟨by decide, by decide⟩ (ix := 1) rfl (Nat.le_of_ble_eq_true rfl) g_o dL_22 rfl (fun T22 h22 Y22 W22 A22 => ?_)
  have A22 : Arv Z h22 wo ko .long (2 : Int32) [(.long 0), (.long (-9223372036854775808))] (.long 0) := A22
  have K22 : Keep h0 h22 [wo] := KK5.wr W22 (Or.inl (List.mem_of_getElem? (i := 0) rfl))
  show Gl p e below _ (T22.setTop (mkF m 23 _ []))
  refine Gl.aloadN Y22 rfl rfl dL_23 rfl ?_
  exact Gl.retA Y22 (by decide) (by decide) rfl rfl dL_24 ⟨rfl, K22, A22⟩
def R28 : Room := { frames := 2, cells := 0, slots := 0, locals := 25 }
def Q28 (Z : State) (o : Addr) (wo : Addr) (ko : ClassId) (x0 : Int64) (sx : Int64) (u : Addr) (wu : Addr) (ku : ClassId) (y0 : Int64) (sy : Int64) (h0 : Heap) (v : Option Value) (h : Heap) : Prop := ∃ e0 : Int64, ∃ e1 : Int64, v = some (.ref o) ∧ (x0.toInt + y0.toInt = e1.toInt * 18446744073709551616 + e0.toInt % 18446744073709551616 ∧ (e1.toInt = 0 ∨ e1.toInt = -1)) ∧ Keep h0 h [wo] ∧ Arv Z h wo ko .long (2 : Int32) [(.long e0), (.long e1)] (.long 0)
theorem ef28 (o : Addr) (u : Addr) (m : MethodId) : entryFrame m #[(.ref o), (.ref u), (.int 0)] 21 = mkF m 0 #[.val (.ref o), .val (.ref u), .val (.int 0), .unset, .unset, .unset, .unset, .unset, .unset, .unset, .unset, .unset, .unset, .unset, .unset, .unset, .unset, .unset, .unset, .unset, .unset] [] := by first | (simp [entryFrame, mkF, argsToLocals, Value.category]; done) | rfl
theorem rm28 (l : Launch) (Z : State) (a0 : Array Value) (hw : HW a0 Z) (ws : List Jvm.Cond) (o : Addr) (wo : Addr) (ko : ClassId) (x0 : Int64) (sx : Int64) (u : Addr) (wu : Addr) (ku : ClassId) (y0 : Int64) (sy : Int64) (h0 : Heap) (n0 : Nat) (Z0 : n0 ≤ h0.size) (E_o : Exa Z h0 o "com/example/meterwise/meterwise/model/WholeNumber") (F_o : Fld Z h0 o "com/example/meterwise/meterwise/model/WholeNumber" "words" "[J" (.ref wo)) (V_o : Arv Z h0 wo ko .long (2 : Int32) [(.long x0), (.long sx)] (.long 0)) (g_o : n0 ≤ wo) (nn_o : own_ne o wo) (E_u : Exa Z h0 u "com/example/meterwise/meterwise/model/WholeNumber") (F_u : Fld Z h0 u "com/example/meterwise/meterwise/model/WholeNumber" "words" "[J" (.ref wu)) (V_u : Arv Z h0 wu ku .long (2 : Int32) [(.long y0), (.long sy)] (.long 0)) (nw : own_ne wo wu) (np : own_ne u wo) (hsx : x0 >>> ((63 : Int32) &&& 0x3f).toInt64 = sx) (hsy : y0 >>> ((63 : Int32) &&& 0x3f).toInt64 = sy) : OMet l Z ws (⟨"com/example/meterwise/meterwise/model/WholeNumber", "add", "(Lcom/example/meterwise/meterwise/model/WholeNumber;Z)Lcom/example/meterwise/meterwise/model/WholeNumber;"⟩ : MethodName) prog_137_method_14_code 21 (some (.object "com/example/meterwise/meterwise/model/WholeNumber")) R28 #[(.ref o), (.ref u), (.int 0)] h0 n0 (Q28 Z o wo ko x0 sx u wu ku y0 sy h0) := by
  refine OMet.of (own := "com/example/meterwise/meterwise/model/WholeNumber") rfl (plainFor_of_name pn_0) (ef28 o u) Z0 ?_
  intro p e s m below meth c T0 Y0 hnm
  refine Gl.aloadN Y0 rfl rfl dM_0 rfl ?_
  refine Gl.callV Y0 (tw_37 hw) (tw_38 hw) (tw_40 hw) (tw_40 hw) (tw_39 hw) (tw_2 hw) (tw_41 hw) (by decide) E_o (rm23 l Z a0 hw [] o wo ko x0 sx h0 n0 Y0.sz E_o F_o V_o) (a := o) (argsL := []) (rest := []) rfl rfl (lenOf pd_3 rfl) rfl (by decide) (Nat.le_of_ble_eq_true rfl) (by decide) (by decide) dM_1 rfl (fun v1 T1 h1 Y1 q1 => ?_)
  obtain ⟨r1, rfl, p1, rfl⟩ := q1
  have br1 : r1 = 0 ∨ r1 = 1 := by rcases p1 with q | q; exact Or.inr (Int32.toInt_inj.mp q.2); exact Or.inl (Int32.toInt_inj.mp q.2)
  show Gl p e below _ (T1.setTop (mkF m 4 _ [(.int r1)]))
  refine Gl.ifne Y1 dM_4 (by decide) rfl rfl (fun c4 => ?_) (fun c4 => ?_)
  · exfalso
    rcases p1 with z | z
    · have := own_sx01 hsx; omega
    · exact c4 (Int32.toInt_inj.mp z.2)
  refine Gl.aloadN Y1 rfl rfl dM_7 rfl ?_
  refine Gl.callV Y1 (tw_37 hw) (tw_38 hw) (tw_40 hw) (tw_40 hw) (tw_39 hw) (tw_2 hw) (tw_41 hw) (by decide) E_u (rm23 l Z a0 hw [] u wu ku y0 sy h0 n0 Y1.sz E_u F_u V_u) (a := u) (argsL := []) (rest := []) rfl rfl (lenOf pd_3 rfl) rfl (by decide) (Nat.le_of_ble_eq_true rfl) (by decide) (by decide) dM_8 rfl (fun v8 T8 h8 Y8 q8 => ?_)
  obtain ⟨r8, rfl, p8, rfl⟩ := q8
  have br8 : r8 = 0 ∨ r8 = 1 := by rcases p8 with q | q; exact Or.inr (Int32.toInt_inj.mp q.2); exact Or.inl (Int32.toInt_inj.mp q.2)
  show Gl p e below _ (T8.setTop (mkF m 11 _ [(.int r8)]))
  refine Gl.ifeq Y8 dM_11 (by decide) rfl rfl (fun c11 => ?_) (fun c11 => ?_)
  rotate_left
  · exfalso
    rcases p8 with z | z
    · have := own_sx01 hsy; omega
    · exact c11 (Int32.toInt_inj.mp z.2)
  refine Gl.aloadN Y8 rfl rfl dM_19 rfl ?_
  refine Gl.getF Y8 (host := "") (Or.inl (tw_14 hw)) Via.refl F_u dM_20 rfl (fun T20 Y20 => ?_)
  refine Gl.astoreN Y20 rfl (L' := #[.val (.ref o), .val (.ref u), .val (.int 0), .val (.ref wu), .unset, .unset, .unset, .unset, .unset, .unset, .unset, .unset, .unset, .unset, .unset, .unset, .unset, .unset, .unset, .unset, .unset]) rfl dM_23 rfl ?_
  refine Gl.aloadN Y20 rfl rfl dM_24 rfl ?_
  refine Gl.getF Y20 (host := "") (Or.inl (tw_14 hw)) Via.refl F_o dM_25 rfl (fun T25 Y25 => ?_)
  refine Gl.arraylength Y25 V_o dM_28 rfl ?_
  refine Gl.aloadN Y25 rfl rfl dM_29 rfl ?_
  refine Gl.arraylength Y25 V_u dM_30 rfl ?_
  refine Gl.callS Y25 (tw_47 hw) (tw_48 hw) (tw_49 hw) (tw_50 hw) (by decide) (rm26 l Z a0 hw [] h0 n0 Y25.sz) (argsL := [(.int 2), (.int 2)]) (rest := []) rfl rfl (lenOf pd_6 rfl) rfl (by decide) (Nat.le_of_ble_eq_true rfl) (by decide) (by decide) dM_31 rfl (fun v31 T31 h31 Y31 q31 => ?_)
  obtain ⟨rfl, rfl⟩ := q31
  show Gl p e below _ (T31.setTop (mkF m 34 _ [(.int 2)]))
  refine Gl.istore Y31 (L' := #[.val (.ref o), .val (.ref u), .val (.int 0), .val (.ref wu), .val (.int 2), .unset, .unset, .unset, .unset, .unset, .unset, .unset, .unset, .unset, .unset, .unset, .unset, .unset, .unset, .unset, .unset]) rfl dM_34 rfl ?_
  refine Gl.aloadN Y31 rfl rfl dM_36 rfl ?_
  refine Gl.callP Y31 (tw_42 hw) (tw_43 hw) (tw_44 hw) (tw_1 hw) (tw_2 hw) (tw_45 hw) (by decide) E_o (rm17 l Z a0 hw [] o wo ko x0 sx h0 n0 Y31.sz E_o F_o V_o) (a := o) (argsL := []) (rest := []) rfl rfl (lenOf pd_2 rfl) rfl (by decide) (Nat.le_of_ble_eq_true rfl) (by decide) (by decide) dM_37 rfl (fun v37 T37 h37 Y37 q37 => ?_)
  obtain ⟨rfl, rfl⟩ := q37
  show Gl p e below _ (T37.setTop (mkF m 40 _ [(.long sx)]))
  refine Gl.bipush Y37 (v := (63 : Int32)) (by decide) dM_40 rfl ?_
  obtain ⟨v42, hv42⟩ : ∃ z : Int64, (sx >>> ((63 : Int32) &&& 0x3f).toInt64) = z := ⟨_, rfl⟩
  refine Gl.lshr Y37 hv42 dM_42 rfl ?_
  refine Gl.lstore Y37 (L' := #[.val (.ref o), .val (.ref u), .val (.int 0), .val (.ref wu), .val (.int 2), .val (.long v42), .second, .unset, .unset, .unset, .unset, .unset, .unset, .unset, .unset, .unset, .unset, .unset, .unset, .unset, .unset]) rfl dM_43 rfl ?_
  refine Gl.aloadN Y37 rfl rfl dM_45 rfl ?_
  refine Gl.aloadN Y37 rfl rfl dM_46 rfl ?_
  refine Gl.arraylength Y37 V_u dM_47 rfl ?_
  refine Gl.iconst Y37 (v := (1 : Int32)) (by decide) dM_48 rfl ?_
  refine Gl.isub Y37 (r := (1 : Int32)) (by decide) dM_49 rfl ?_
  refine Gl.laload Y37 V_u ⟨by decide, by decide⟩ (v := (.long sy)) rfl dM_50 rfl ?_
  refine Gl.bipush Y37 (v := (63 : Int32)) (by decide) dM_51 rfl ?_
  obtain ⟨v53, hv53⟩ : ∃ z : Int64, (sy >>> ((63 : Int32) &&& 0x3f).toInt64) = z := ⟨_, rfl⟩
  refine Gl.lshr Y37 hv53 dM_53 rfl ?_
  refine Gl.lstore Y37 (L' := #[.val (.ref o), .val (.ref u), .val (.int 0), .val (.ref wu), .val (.int 2), .val (.long v42), .second, .val (.long v53), .second, .unset, .unset, .unset, .unset, .unset, .unset, .unset, .unset, .unset, .unset, .unset, .unset]) rfl dM_54 rfl ?_
  refine Gl.iloadN Y37 rfl dM_56 rfl ?_
  refine Gl.ifeq Y37 dM_57 (by decide) rfl rfl (fun c57 => ?_) (fun c57 => ?_)
  rotate_left
  · exact absurd c57 (by decide)
  refine Gl.lconst Y37 (v := (0 : Int64)) (by decide) dM_66 rfl ?_
  refine Gl.lstore Y37 (L' := #[.val (.ref o), .val (.ref u), .val (.int 0), .val (.ref wu), .val (.int 2), .val (.long v42), .second, .val (.long v53), .second, .val (.long 0), .second, .unset, .unset, .unset, .unset, .unset, .unset, .unset, .unset, .unset, .unset]) rfl dM_67 rfl ?_
  refine Gl.iloadN Y37 rfl dM_69 rfl ?_
  refine Gl.ifeq Y37 dM_70 (by decide) rfl rfl (fun c70 => ?_) (fun c70 => ?_)
  rotate_left
  · exact absurd c70 (by decide)
  refine Gl.lconst Y37 (v := (0 : Int64)) (by decide) dM_77 rfl ?_
  refine Gl.lstore Y37 (L' := #[.val (.ref o), .val (.ref u), .val (.int 0), .val (.ref wu), .val (.int 2), .val (.long v42), .second, .val (.long v53), .second, .val (.long 0), .second, .val (.long 0), .second, .unset, .unset, .unset, .unset, .unset, .unset, .unset, .unset]) rfl dM_78 rfl ?_
  refine Gl.lconst Y37 (v := (0 : Int64)) (by decide) dM_80 rfl ?_
  refine Gl.lstore Y37 (L' := #[.val (.ref o), .val (.ref u), .val (.int 0), .val (.ref wu), .val (.int 2), .val (.long v42), .second, .val (.long v53), .second, .val (.long 0), .second, .val (.long 0), .second, .val (.long 0), .second, .unset, .unset, .unset, .unset, .unset, .unset]) rfl dM_81 rfl ?_
  refine Gl.lconst Y37 (v := (0 : Int64)) (by decide) dM_83 rfl ?_
  refine Gl.lstore Y37 (L' := #[.val (.ref o), .val (.ref u), .val (.int 0), .val (.ref wu), .val (.int 2), .val (.long v42), .second, .val (.long v53), .second, .val (.long 0), .second, .val (.long 0), .second, .val (.long 0), .second, .val (.long 0), .second, .unset, .unset, .unset, .unset]) rfl dM_84 rfl ?_
  refine Gl.lconst Y37 (v := (0 : Int64)) (by decide) dM_86 rfl ?_
  refine Gl.lstore Y37 (L' := #[.val (.ref o), .val (.ref u), .val (.int 0), .val (.ref wu), .val (.int 2), .val (.long v42), .second, .val (.long v53), .second, .val (.long 0), .second, .val (.long 0), .second, .val (.long 0), .second, .val (.long 0), .second, .val (.long 0), .second, .unset, .unset]) rfl dM_87 rfl ?_
  refine Gl.iconst Y37 (v := (1 : Int32)) (by decide) dM_89 rfl ?_
  refine Gl.istore Y37 (L' := #[.val (.ref o), .val (.ref u), .val (.int 0), .val (.ref wu), .val (.int 2), .val (.long v42), .second, .val (.long v53), .second, .val (.long 0), .second, .val (.long 0), .second, .val (.long 0), .second, .val (.long 0), .second, .val (.long 0), .second, .val (.int 1), .unset]) rfl dM_90 rfl ?_
  refine Gl.iconst Y37 (v := (0 : Int32)) (by decide) dM_92 rfl ?_
  refine Gl.istore Y37 (L' := #[.val (.ref o), .val (.ref u), .val (.int 0), .val (.ref wu), .val (.int 2), .val (.long v42), .second, .val (.long v53), .second, .val (.long 0), .second, .val (.long 0), .second, .val (.long 0), .second, .val (.long 0), .second, .val (.long 0), .second, .val (.int 1), .val (.int 0)]) rfl dM_93 rfl ?_
  refine Gl.iload Y37 rfl dM_95 rfl ?_
  refine Gl.iload Y37 rfl dM_97 rfl ?_
  refine Gl.icmpge Y37 dM_99 (by decide) rfl rfl (fun c99 => ?_) (fun c99 => ?_)
  · exact absurd c99 (by decide)
  refine Gl.iload Y37 rfl dM_102 rfl ?_
  refine Gl.aloadN Y37 rfl rfl dM_104 rfl ?_
  refine Gl.getF Y37 (host := "") (Or.inl (tw_14 hw)) Via.refl F_o dM_105 rfl (fun T105 Y105 => ?_)
  refine Gl.arraylength Y105 V_o dM_108 rfl ?_
  refine Gl.icmpge Y105 dM_109 (by decide) rfl rfl (fun c109 => ?_) (fun c109 => ?_)
  · exact absurd c109 (by decide)
  refine Gl.aloadN Y105 rfl rfl dM_112 rfl ?_
  refine Gl.getF Y105 (host := "") (Or.inl (tw_14 hw)) Via.refl F_o dM_113 rfl (fun T113 Y113 => ?_)
  refine Gl.iload Y113 rfl dM_116 rfl ?_
  refine Gl.laload Y113 V_o ⟨by decide, by decide⟩ (v := (.long x0)) rfl dM_118 rfl ?_
  refine Gl.goto Y113 dM_119 (by decide) rfl ?_
  refine Gl.lstore Y113 (L' := #[.val (.ref o), .val (.ref u), .val (.int 0), .val (.ref wu), .val (.int 2), .val (.long v42), .second, .val (.long v53), .second, .val (.long 0), .second, .val (.long 0), .second, .val (.long x0), .second, .val (.long 0), .second, .val (.long 0), .second, .val (.int 1), .val (.int 0)]) rfl dM_124 rfl ?_
  refine Gl.iload Y113 rfl dM_126 rfl ?_
  refine Gl.aloadN Y113 rfl rfl dM_128 rfl ?_
  refine Gl.arraylength Y113 V_u dM_129 rfl ?_
  refine Gl.icmpge Y113 dM_130 (by decide) rfl rfl (fun c130 => ?_) (fun c130 => ?_)
  · exact absurd c130 (by decide)
  refine Gl.aloadN Y113 rfl rfl dM_133 rfl ?_
  refine Gl.iload Y113 rfl dM_134 rfl ?_
  refine Gl.laload Y113 V_u ⟨by decide, by decide⟩ (v := (.long y0)) rfl dM_136 rfl ?_
  refine Gl.goto Y113 dM_137 (by decide) rfl ?_
  refine Gl.lload Y113 rfl dM_142 rfl ?_
  obtain ⟨v144, hv144⟩ : ∃ z : Int64, y0 ^^^ (0 : Int64) = z := ⟨_, rfl⟩
  refine Gl.lxor Y113 hv144 dM_144 rfl ?_
  obtain rfl : y0 = v144 := Eq.symm (by rw [← hv144]; exact Int64.xor_zero)
  refine Gl.lstore Y113 (L' := #[.val (.ref o), .val (.ref u), .val (.int 0), .val (.ref wu), .val (.int 2), .val (.long v42), .second, .val (.long v53), .second, .val (.long 0), .second, .val (.long 0), .second, .val (.long x0), .second, .val (.long y0), .second, .val (.long 0), .second, .val (.int 1), .val (.int 0)]) rfl dM_145 rfl ?_
  refine Gl.lload Y113 rfl dM_147 rfl ?_
  refine Gl.lload Y113 rfl dM_149 rfl ?_
  obtain ⟨v151, hv151⟩ : ∃ z : Int64, x0 + y0 = z := ⟨_, rfl⟩
  refine Gl.ladd Y113 hv151 dM_151 rfl ?_
  refine Gl.lload Y113 rfl dM_152 rfl ?_
  obtain ⟨v154, hv154⟩ : ∃ z : Int64, v151 + (0 : Int64) = z := ⟨_, rfl⟩
  refine Gl.ladd Y113 hv154 dM_154 rfl ?_
  refine Gl.lstore Y113 (L' := #[.val (.ref o), .val (.ref u), .val (.int 0), .val (.ref wu), .val (.int 2), .val (.long v42), .second, .val (.long v53), .second, .val (.long 0), .second, .val (.long 0), .second, .val (.long x0), .second, .val (.long y0), .second, .val (.long v154), .second, .val (.int 1), .val (.int 0)]) rfl dM_155 rfl ?_
  refine Gl.lload Y113 rfl dM_157 rfl ?_
  refine Gl.lload Y113 rfl dM_159 rfl ?_
  obtain ⟨v161, hv161⟩ : ∃ z : Int64, x0 &&& y0 = z := ⟨_, rfl⟩
  refine Gl.land Y113 hv161 dM_161 rfl ?_
  refine Gl.lload Y113 rfl dM_162 rfl ?_
  refine Gl.lload Y113 rfl dM_164 rfl ?_
  obtain ⟨v166, hv166⟩ : ∃ z : Int64, x0 ||| y0 = z := ⟨_, rfl⟩
  refine Gl.lor Y113 hv166 dM_166 rfl ?_
  refine Gl.lload Y113 rfl dM_167 rfl ?_
  refine Gl.ldcJ Y113 (tw_51 hw) dM_169 rfl ?_
  obtain ⟨v172, hv172⟩ : ∃ z : Int64, v154 ^^^ (-1 : Int64) = z := ⟨_, rfl⟩
  refine Gl.lxor Y113 hv172 dM_172 rfl ?_
  obtain ⟨v173, hv173⟩ : ∃ z : Int64, v166 &&& v172 = z := ⟨_, rfl⟩
  refine Gl.land Y113 hv173 dM_173 rfl ?_
  obtain ⟨v174, hv174⟩ : ∃ z : Int64, v161 ||| v173 = z := ⟨_, rfl⟩
  refine Gl.lor Y113 hv174 dM_174 rfl ?_
  refine Gl.bipush Y113 (v := (63 : Int32)) (by decide) dM_175 rfl ?_
  obtain ⟨v177, hv177⟩ : ∃ z : Int64, (v174.toUInt64 >>> ((63 : Int32) &&& 0x3f).toInt64.toUInt64).toInt64 = z := ⟨_, rfl⟩
  refine Gl.lushr Y113 hv177 dM_177 rfl ?_
  have hcy : own_cy x0 y0 v154 = v177 := by rw [← hv177, ← hv174, ← hv173, ← hv172, ← hv166, ← hv161]; rfl
  refine Gl.lstore Y113 (L' := #[.val (.ref o), .val (.ref u), .val (.int 0), .val (.ref wu), .val (.int 2), .val (.long v42), .second, .val (.long v53), .second, .val (.long 0), .second, .val (.long v177), .second, .val (.long x0), .second, .val (.long y0), .second, .val (.long v154), .second, .val (.int 1), .val (.int 0)]) rfl dM_178 rfl ?_
  refine Gl.iload Y113 rfl dM_180 rfl ?_
  refine Gl.aloadN Y113 rfl rfl dM_182 rfl ?_
  refine Gl.getF Y113 (host := "") (Or.inl (tw_14 hw)) Via.refl F_o dM_183 rfl (fun T183 Y183 => ?_)
  refine Gl.arraylength Y183 V_o dM_186 rfl ?_
  refine Gl.icmpge Y183 dM_187 (by decide) rfl rfl (fun c187 => ?_) (fun c187 => ?_)
  · exact absurd c187 (by decide)
  refine Gl.aloadN Y183 rfl rfl dM_190 rfl ?_
  refine Gl.getF Y183 (host := "") (Or.inl (tw_14 hw)) Via.refl F_o dM_191 rfl (fun T191 Y191 => ?_)
  refine Gl.iload Y191 rfl dM_194 rfl ?_
  refine Gl.lload Y191 rfl dM_196 rfl ?_
  refine Gl.lastore Y191 V_o (v := (.long v154)) rfl ⟨by decide, by decide⟩ (ix := 0) rfl (Nat.le_of_ble_eq_true rfl) g_o dM_198 rfl (fun T198 h198 Y198 W198 A198 => ?_)
  have A198 : Arv Z h198 wo ko .long (2 : Int32) [(.long v154), (.long sx)] (.long 0) := A198
  have K198 : Keep h0 h198 [wo] := (Keep.refl h0 [wo]).wr W198 (Or.inl (List.mem_of_getElem? (i := 0) rfl))
  show Gl p e below _ (T198.setTop (mkF m 199 _ []))
  refine Gl.goto Y198 dM_199 (by decide) rfl ?_
  refine Gl.iinc Y198 rfl (r := (1 : Int32)) (by decide) (L' := #[.val (.ref o), .val (.ref u), .val (.int 0), .val (.ref wu), .val (.int 2), .val (.long v42), .second, .val (.long v53), .second, .val (.long 0), .second, .val (.long v177), .second, .val (.long x0), .second, .val (.long y0), .second, .val (.long v154), .second, .val (.int 1), .val (.int 1)]) rfl dM_225 rfl ?_
  refine Gl.goto Y198 dM_228 (by decide) rfl ?_
  refine Gl.iload Y198 rfl dM_95 rfl ?_
  refine Gl.iload Y198 rfl dM_97 rfl ?_
  refine Gl.icmpge Y198 dM_99 (by decide) rfl rfl (fun c99_2 => ?_) (fun c99_2 => ?_)
  · exact absurd c99_2 (by decide)
  refine Gl.iload Y198 rfl dM_102 rfl ?_
  refine Gl.aloadN Y198 rfl rfl dM_104 rfl ?_
  have f1 := (Fld.other W198 F_o (Or.inl nn_o))
  refine Gl.getF Y198 (host := "") (Or.inl (tw_14 hw)) Via.refl f1 dM_105 rfl (fun T105_2 Y105_2 => ?_)
  refine Gl.arraylength Y105_2 A198 dM_108 rfl ?_
  refine Gl.icmpge Y105_2 dM_109 (by decide) rfl rfl (fun c109_2 => ?_) (fun c109_2 => ?_)
  · exact absurd c109_2 (by decide)
  refine Gl.aloadN Y105_2 rfl rfl dM_112 rfl ?_
  refine Gl.getF Y105_2 (host := "") (Or.inl (tw_14 hw)) Via.refl f1 dM_113 rfl (fun T113_2 Y113_2 => ?_)
  refine Gl.iload Y113_2 rfl dM_116 rfl ?_
  refine Gl.laload Y113_2 A198 ⟨by decide, by decide⟩ (v := (.long sx)) rfl dM_118 rfl ?_
  refine Gl.goto Y113_2 dM_119 (by decide) rfl ?_
  refine Gl.lstore Y113_2 (L' := #[.val (.ref o), .val (.ref u), .val (.int 0), .val (.ref wu), .val (.int 2), .val (.long v42), .second, .val (.long v53), .second, .val (.long 0), .second, .val (.long v177), .second, .val (.long sx), .second, .val (.long y0), .second, .val (.long v154), .second, .val (.int 1), .val (.int 1)]) rfl dM_124 rfl ?_
  refine Gl.iload Y113_2 rfl dM_126 rfl ?_
  refine Gl.aloadN Y113_2 rfl rfl dM_128 rfl ?_
  have f2 := (V_u.other W198 (Ne.symm nw))
  refine Gl.arraylength Y113_2 f2 dM_129 rfl ?_
  refine Gl.icmpge Y113_2 dM_130 (by decide) rfl rfl (fun c130_2 => ?_) (fun c130_2 => ?_)
  · exact absurd c130_2 (by decide)
  refine Gl.aloadN Y113_2 rfl rfl dM_133 rfl ?_
  refine Gl.iload Y113_2 rfl dM_134 rfl ?_
  refine Gl.laload Y113_2 f2 ⟨by decide, by decide⟩ (v := (.long sy)) rfl dM_136 rfl ?_
  refine Gl.goto Y113_2 dM_137 (by decide) rfl ?_
  refine Gl.lload Y113_2 rfl dM_142 rfl ?_
  obtain ⟨v144_2, hv144_2⟩ : ∃ z : Int64, sy ^^^ (0 : Int64) = z := ⟨_, rfl⟩
  refine Gl.lxor Y113_2 hv144_2 dM_144 rfl ?_
  obtain rfl : sy = v144_2 := Eq.symm (by rw [← hv144_2]; exact Int64.xor_zero)
  refine Gl.lstore Y113_2 (L' := #[.val (.ref o), .val (.ref u), .val (.int 0), .val (.ref wu), .val (.int 2), .val (.long v42), .second, .val (.long v53), .second, .val (.long 0), .second, .val (.long v177), .second, .val (.long sx), .second, .val (.long sy), .second, .val (.long v154), .second, .val (.int 1), .val (.int 1)]) rfl dM_145 rfl ?_
  refine Gl.lload Y113_2 rfl dM_147 rfl ?_
  refine Gl.lload Y113_2 rfl dM_149 rfl ?_
  obtain ⟨v151_2, hv151_2⟩ : ∃ z : Int64, sx + sy = z := ⟨_, rfl⟩
  refine Gl.ladd Y113_2 hv151_2 dM_151 rfl ?_
  refine Gl.lload Y113_2 rfl dM_152 rfl ?_
  obtain ⟨v154_2, hv154_2⟩ : ∃ z : Int64, v151_2 + v177 = z := ⟨_, rfl⟩
  refine Gl.ladd Y113_2 hv154_2 dM_154 rfl ?_
  refine Gl.lstore Y113_2 (L' := #[.val (.ref o), .val (.ref u), .val (.int 0), .val (.ref wu), .val (.int 2), .val (.long v42), .second, .val (.long v53), .second, .val (.long 0), .second, .val (.long v177), .second, .val (.long sx), .second, .val (.long sy), .second, .val (.long v154_2), .second, .val (.int 1), .val (.int 1)]) rfl dM_155 rfl ?_
  refine Gl.lload Y113_2 rfl dM_157 rfl ?_
  refine Gl.lload Y113_2 rfl dM_159 rfl ?_
  obtain ⟨v161_2, hv161_2⟩ : ∃ z : Int64, sx &&& sy = z := ⟨_, rfl⟩
  refine Gl.land Y113_2 hv161_2 dM_161 rfl ?_
  refine Gl.lload Y113_2 rfl dM_162 rfl ?_
  refine Gl.lload Y113_2 rfl dM_164 rfl ?_
  obtain ⟨v166_2, hv166_2⟩ : ∃ z : Int64, sx ||| sy = z := ⟨_, rfl⟩
  refine Gl.lor Y113_2 hv166_2 dM_166 rfl ?_
  refine Gl.lload Y113_2 rfl dM_167 rfl ?_
  refine Gl.ldcJ Y113_2 (tw_51 hw) dM_169 rfl ?_
  obtain ⟨v172_2, hv172_2⟩ : ∃ z : Int64, v154_2 ^^^ (-1 : Int64) = z := ⟨_, rfl⟩
  refine Gl.lxor Y113_2 hv172_2 dM_172 rfl ?_
  obtain ⟨v173_2, hv173_2⟩ : ∃ z : Int64, v166_2 &&& v172_2 = z := ⟨_, rfl⟩
  refine Gl.land Y113_2 hv173_2 dM_173 rfl ?_
  obtain ⟨v174_2, hv174_2⟩ : ∃ z : Int64, v161_2 ||| v173_2 = z := ⟨_, rfl⟩
  refine Gl.lor Y113_2 hv174_2 dM_174 rfl ?_
  refine Gl.bipush Y113_2 (v := (63 : Int32)) (by decide) dM_175 rfl ?_
  obtain ⟨v177_2, hv177_2⟩ : ∃ z : Int64, (v174_2.toUInt64 >>> ((63 : Int32) &&& 0x3f).toInt64.toUInt64).toInt64 = z := ⟨_, rfl⟩
  refine Gl.lushr Y113_2 hv177_2 dM_177 rfl ?_
  have tt := own_T hsx hsy hv151 hv154 hcy hv151_2 hv154_2
  have zx : sx.toInt = 0 ∨ sx.toInt = -1 := by have := own_sx01 hsx; omega
  have zy : sy.toInt = 0 ∨ sy.toInt = -1 := by have := own_sx01 hsy; omega
  obtain rfl : v177 = v177_2 := Eq.symm (by rw [← hv177_2, ← hv174_2, ← hv173_2, ← hv172_2, ← hv166_2, ← hv161_2]; exact own_hi zx zy tt.2.2.2 tt.2.2.1 tt.2.1)
  refine Gl.lstore Y113_2 (L' := #[.val (.ref o), .val (.ref u), .val (.int 0), .val (.ref wu), .val (.int 2), .val (.long v42), .second, .val (.long v53), .second, .val (.long 0), .second, .val (.long v177), .second, .val (.long sx), .second, .val (.long sy), .second, .val (.long v154_2), .second, .val (.int 1), .val (.int 1)]) rfl dM_178 rfl ?_
  refine Gl.iload Y113_2 rfl dM_180 rfl ?_
  refine Gl.aloadN Y113_2 rfl rfl dM_182 rfl ?_
  refine Gl.getF Y113_2 (host := "") (Or.inl (tw_14 hw)) Via.refl f1 dM_183 rfl (fun T183_2 Y183_2 => ?_)
  refine Gl.arraylength Y183_2 A198 dM_186 rfl ?_
  refine Gl.icmpge Y183_2 dM_187 (by decide) rfl rfl (fun c187_2 => ?_) (fun c187_2 => ?_)
  · exact absurd c187_2 (by decide)
  refine Gl.aloadN Y183_2 rfl rfl dM_190 rfl ?_
  refine Gl.getF Y183_2 (host := "") (Or.inl (tw_14 hw)) Via.refl f1 dM_191 rfl (fun T191_2 Y191_2 => ?_)
  refine Gl.iload Y191_2 rfl dM_194 rfl ?_
  refine Gl.lload Y191_2 rfl dM_196 rfl ?_
  refine Gl.lastore Y191_2 A198 (v := (.long v154_2)) rfl ⟨by decide, by decide⟩ (ix := 1) rfl (Nat.le_of_ble_eq_true rfl) g_o dM_198 rfl (fun T198_2 h198_2 Y198_2 W198_2 A198_2 => ?_)
  have A198_2 : Arv Z h198_2 wo ko .long (2 : Int32) [(.long v154), (.long v154_2)] (.long 0) := A198_2
  have K198_2 : Keep h0 h198_2 [wo] := K198.wr W198_2 (Or.inl (List.mem_of_getElem? (i := 0) rfl))
  show Gl p e below _ (T198_2.setTop (mkF m 199 _ []))
  refine Gl.goto Y198_2 dM_199 (by decide) rfl ?_
  refine Gl.iinc Y198_2 rfl (r := (2 : Int32)) (by decide) (L' := #[.val (.ref o), .val (.ref u), .val (.int 0), .val (.ref wu), .val (.int 2), .val (.long v42), .second, .val (.long v53), .second, .val (.long 0), .second, .val (.long v177), .second, .val (.long sx), .second, .val (.long sy), .second, .val (.long v154_2), .second, .val (.int 1), .val (.int 2)]) rfl dM_225 rfl ?_
  refine Gl.goto Y198_2 dM_228 (by decide) rfl ?_
  refine Gl.iload Y198_2 rfl dM_95 rfl ?_
  refine Gl.iload Y198_2 rfl dM_97 rfl ?_
  refine Gl.icmpge Y198_2 dM_99 (by decide) rfl rfl (fun c99_3 => ?_) (fun c99_3 => ?_)
  rotate_left
  · exact absurd c99_3 (by decide)
  refine Gl.iload Y198_2 rfl dM_231 rfl ?_
  refine Gl.ifeq Y198_2 dM_233 (by decide) rfl rfl (fun c233 => ?_) (fun c233 => ?_)
  · exact absurd c233 (by decide)
  refine Gl.lload Y198_2 rfl dM_236 rfl ?_
  refine Gl.lload Y198_2 rfl dM_238 rfl ?_
  obtain ⟨v240, hv240⟩ : ∃ z : Int64, sx ^^^ v154_2 = z := ⟨_, rfl⟩
  refine Gl.lxor Y198_2 hv240 dM_240 rfl ?_
  refine Gl.lload Y198_2 rfl dM_241 rfl ?_
  refine Gl.lload Y198_2 rfl dM_243 rfl ?_
  obtain ⟨v245, hv245⟩ : ∃ z : Int64, sy ^^^ v154_2 = z := ⟨_, rfl⟩
  refine Gl.lxor Y198_2 hv245 dM_245 rfl ?_
  obtain ⟨v246, hv246⟩ : ∃ z : Int64, v240 &&& v245 = z := ⟨_, rfl⟩
  refine Gl.land Y198_2 hv246 dM_246 rfl ?_
  refine Gl.lconst Y198_2 (v := (0 : Int64)) (by decide) dM_247 rfl ?_
  refine Gl.lcmplt Y198_2 dM_248 rfl dM_249 (by decide) rfl rfl (fun c249 => ?_) (fun c249 => ?_)
  · refine absurd c249 ?_
    rw [← hv246, ← hv245, ← hv240]
    exact own_fit2 zx zy tt.2.2.2 tt.2.2.1 tt.2.1
  refine Gl.aloadN Y198_2 rfl rfl dM_252 rfl ?_
  refine Gl.goto Y198_2 dM_253 (by decide) rfl ?_
  exact Gl.retA Y198_2 (by decide) (by decide) rfl rfl dM_260 ⟨v154, v154_2, rfl, ⟨tt.1, tt.2.1⟩, K198_2, A198_2⟩
def R29 : Room := { frames := 3, cells := 0, slots := 0, locals := 57 }
def Q29 (Z : State) (o : Addr) (wo : Addr) (ko : ClassId) (x0 : Int64) (sx : Int64) (u : Addr) (wu : Addr) (ku : ClassId) (y0 : Int64) (sy : Int64) (h0 : Heap) (v : Option Value) (h : Heap) : Prop := ∃ e0 : Int64, ∃ e1 : Int64, v = some (.ref o) ∧ (x0.toInt + y0.toInt = e1.toInt * 18446744073709551616 + e0.toInt % 18446744073709551616 ∧ (e1.toInt = 0 ∨ e1.toInt = -1)) ∧ Keep h0 h [wo] ∧ Arv Z h wo ko .long (2 : Int32) [(.long e0), (.long e1)] (.long 0)
theorem ef29 (o : Addr) (u : Addr) (m : MethodId) : entryFrame m #[(.ref o), (.ref u)] 2 = mkF m 0 #[.val (.ref o), .val (.ref u)] [] := by first | (simp [entryFrame, mkF, argsToLocals, Value.category]; done) | rfl
theorem rm29 (l : Launch) (Z : State) (a0 : Array Value) (hw : HW a0 Z) (ws : List Jvm.Cond) (o : Addr) (wo : Addr) (ko : ClassId) (x0 : Int64) (sx : Int64) (u : Addr) (wu : Addr) (ku : ClassId) (y0 : Int64) (sy : Int64) (h0 : Heap) (n0 : Nat) (Z0 : n0 ≤ h0.size) (E_o : Exa Z h0 o "com/example/meterwise/meterwise/model/WholeNumber") (F_o : Fld Z h0 o "com/example/meterwise/meterwise/model/WholeNumber" "words" "[J" (.ref wo)) (V_o : Arv Z h0 wo ko .long (2 : Int32) [(.long x0), (.long sx)] (.long 0)) (g_o : n0 ≤ wo) (nn_o : own_ne o wo) (E_u : Exa Z h0 u "com/example/meterwise/meterwise/model/WholeNumber") (F_u : Fld Z h0 u "com/example/meterwise/meterwise/model/WholeNumber" "words" "[J" (.ref wu)) (V_u : Arv Z h0 wu ku .long (2 : Int32) [(.long y0), (.long sy)] (.long 0)) (nw : own_ne wo wu) (np : own_ne u wo) (hsx : x0 >>> ((63 : Int32) &&& 0x3f).toInt64 = sx) (hsy : y0 >>> ((63 : Int32) &&& 0x3f).toInt64 = sy) : OMet l Z ws (⟨"com/example/meterwise/meterwise/model/WholeNumber", "add", "(Lcom/example/meterwise/meterwise/model/WholeNumber;)Lcom/example/meterwise/meterwise/model/WholeNumber;"⟩ : MethodName) prog_137_method_12_code 2 (some (.object "com/example/meterwise/meterwise/model/WholeNumber")) R29 #[(.ref o), (.ref u)] h0 n0 (Q29 Z o wo ko x0 sx u wu ku y0 sy h0) := by
  refine OMet.of (own := "com/example/meterwise/meterwise/model/WholeNumber") rfl (plainFor_of_name pn_0) (ef29 o u) Z0 ?_
  intro p e s m below meth c T0 Y0 hnm
  refine Gl.aloadN Y0 rfl rfl dN_0 rfl ?_
  refine Gl.aloadN Y0 rfl rfl dN_1 rfl ?_
  refine Gl.iconst Y0 (v := (0 : Int32)) (by decide) dN_2 rfl ?_
  refine Gl.callP Y0 (tw_33 hw) (tw_34 hw) (tw_35 hw) (tw_1 hw) (tw_2 hw) (tw_36 hw) (by decide) E_o (rm28 l Z a0 hw [] o wo ko x0 sx u wu ku y0 sy h0 n0 Y0.sz E_o F_o V_o g_o nn_o E_u F_u V_u nw np (by first | assumption | decide | omega | (simp; done)) (by first | assumption | decide | omega | (simp; done))) (a := o) (argsL := [(.ref u), (.int 0)]) (rest := []) rfl rfl (lenOf pd_7 rfl) rfl (by decide) (Nat.le_of_ble_eq_true rfl) (by decide) (by decide) dN_3 rfl (fun v3 T3 h3 Y3 q3 => ?_)
  obtain ⟨e03, e13, rfl, p3, K3, f3_0⟩ := q3
  have KK3 : Keep h0 h3 [wo] := (Keep.refl h0 [wo]).trans K3 (allS (Or.inl (List.mem_of_getElem? (i := 0) rfl)) all0)
  show Gl p e below _ (T3.setTop (mkF m 6 _ [(.ref o)]))
  exact Gl.retA Y3 (by decide) (by decide) rfl rfl dN_6 ⟨e03, e13, rfl, p3, KK3, f3_0⟩
def R30 : Room := { frames := 0, cells := 0, slots := 0, locals := 0 }
def Q30 (Z : State) (o : Addr) (wo : Addr) (ko : ClassId) (x0 : Int64) (x1 : Int64) (x2 : Int64) (h0 : Heap) (v : Option Value) (h : Heap) : Prop := v = some (.long x2) ∧ h0 = h
theorem ef30 (o : Addr) (m : MethodId) : entryFrame m #[(.ref o)] 1 = mkF m 0 #[.val (.ref o)] [] := by first | (simp [entryFrame, mkF, argsToLocals, Value.category]; done) | rfl
theorem rm30 (l : Launch) (Z : State) (a0 : Array Value) (hw : HW a0 Z) (ws : List Jvm.Cond) (o : Addr) (wo : Addr) (ko : ClassId) (x0 : Int64) (x1 : Int64) (x2 : Int64) (h0 : Heap) (n0 : Nat) (Z0 : n0 ≤ h0.size) (E_o : Exa Z h0 o "com/example/meterwise/meterwise/model/WholeNumber") (F_o : Fld Z h0 o "com/example/meterwise/meterwise/model/WholeNumber" "words" "[J" (.ref wo)) (V_o : Arv Z h0 wo ko .long (3 : Int32) [(.long x0), (.long x1), (.long x2)] (.long 0)) : OMet l Z ws (⟨"com/example/meterwise/meterwise/model/WholeNumber", "top", "()J"⟩ : MethodName) prog_137_method_31_code 1 (some .long) R30 #[(.ref o)] h0 n0 (Q30 Z o wo ko x0 x1 x2 h0) := by
  refine OMet.of (own := "com/example/meterwise/meterwise/model/WholeNumber") rfl (plainFor_of_name pn_0) (ef30 o) Z0 ?_
  intro p e s m below meth c T0 Y0 hnm
  refine Gl.aloadN Y0 rfl rfl dB_0 rfl ?_
  refine Gl.getF Y0 (host := "") (Or.inl (tw_14 hw)) Via.refl F_o dB_1 rfl (fun T1 Y1 => ?_)
  refine Gl.aloadN Y1 rfl rfl dB_4 rfl ?_
  refine Gl.getF Y1 (host := "") (Or.inl (tw_14 hw)) Via.refl F_o dB_5 rfl (fun T5 Y5 => ?_)
  refine Gl.arraylength Y5 V_o dB_8 rfl ?_
  refine Gl.iconst Y5 (v := (1 : Int32)) (by decide) dB_9 rfl ?_
  refine Gl.isub Y5 (r := (2 : Int32)) (by decide) dB_10 rfl ?_
  refine Gl.laload Y5 V_o ⟨by decide, by decide⟩ (v := (.long x2)) rfl dB_11 rfl ?_
  exact Gl.retJ Y5 (by decide) (by decide)  dB_12 ⟨rfl, rfl⟩
def R31 : Room := { frames := 0, cells := 0, slots := 0, locals := 0 }
def Q31 (Z : State) (a : Addr) (ka : ClassId) (x0 : Int64) (x1 : Int64) (x2 : Int64) (h0 : Heap) (v : Option Value) (h : Heap) : Prop := v = none ∧ Keep h0 h [a] ∧ Arv Z h a ka .long (3 : Int32) [(.long 0), (.long 0), (.long 0)] (.long 0)
theorem ef31 (a : Addr) (m : MethodId) : entryFrame m #[(.ref a), (.long 0)] 5 = mkF m 0 #[.val (.ref a), .val (.long 0), .second, .unset, .unset] [] := by first | (simp [entryFrame, mkF, argsToLocals, Value.category]; done) | rfl
theorem rm31 (l : Launch) (Z : State) (a0 : Array Value) (hw : HW a0 Z) (ws : List Jvm.Cond) (a : Addr) (ka : ClassId) (x0 : Int64) (x1 : Int64) (x2 : Int64) (h0 : Heap) (n0 : Nat) (Z0 : n0 ≤ h0.size) (V : Arv Z h0 a ka .long (3 : Int32) [(.long x0), (.long x1), (.long x2)] (.long 0)) (ga : n0 ≤ a) : OMet l Z ws (⟨"java/util/Arrays", "fill", "([JJ)V"⟩ : MethodName) jdk_65_method_101_code 5 none R31 #[(.ref a), (.long 0)] h0 n0 (Q31 Z a ka x0 x1 x2 h0) := by
  refine OMet.of (own := "java/util/Arrays") rfl (plainFor_of_name pn_1) (ef31 a) Z0 ?_
  intro p e s m below meth c T0 Y0 hnm
  refine Gl.iconst Y0 (v := (0 : Int32)) (by decide) dC_0 rfl ?_
  refine Gl.istoreN Y0 (L' := #[.val (.ref a), .val (.long 0), .second, .val (.int 0), .unset]) rfl dC_1 rfl ?_
  refine Gl.aloadN Y0 rfl rfl dC_2 rfl ?_
  refine Gl.arraylength Y0 V dC_3 rfl ?_
  refine Gl.istore Y0 (L' := #[.val (.ref a), .val (.long 0), .second, .val (.int 0), .val (.int 3)]) rfl dC_4 rfl ?_
  refine Gl.iloadN Y0 rfl dC_6 rfl ?_
  refine Gl.iload Y0 rfl dC_7 rfl ?_
  refine Gl.icmpge Y0 dC_9 (by decide) rfl rfl (fun c9 => ?_) (fun c9 => ?_)
  · exact absurd c9 (by decide)
  refine Gl.aloadN Y0 rfl rfl dC_12 rfl ?_
  refine Gl.iloadN Y0 rfl dC_13 rfl ?_
  refine Gl.lloadN Y0 rfl dC_14 rfl ?_
  refine Gl.lastore Y0 V (v := (.long 0)) rfl ⟨by decide, by decide⟩ (ix := 0) rfl (Nat.le_of_ble_eq_true rfl) ga dC_15 rfl (fun T15 h15 Y15 W15 A15 => ?_)
  have A15 : Arv Z h15 a ka .long (3 : Int32) [(.long 0), (.long x1), (.long x2)] (.long 0) := A15
  have K15 : Keep h0 h15 [a] := (Keep.refl h0 [a]).wr W15 (Or.inl (List.mem_of_getElem? (i := 0) rfl))
  show Gl p e below _ (T15.setTop (mkF m 16 _ []))
  refine Gl.iinc Y15 rfl (r := (1 : Int32)) (by decide) (L' := #[.val (.ref a), .val (.long 0), .second, .val (.int 1), .val (.int 3)]) rfl dC_16 rfl ?_
  refine Gl.goto Y15 dC_19 (by decide) rfl ?_
  refine Gl.iloadN Y15 rfl dC_6 rfl ?_
  refine Gl.iload Y15 rfl dC_7 rfl ?_
  refine Gl.icmpge Y15 dC_9 (by decide) rfl rfl (fun c9_2 => ?_) (fun c9_2 => ?_)
  · exact absurd c9_2 (by decide)
  refine Gl.aloadN Y15 rfl rfl dC_12 rfl ?_
  refine Gl.iloadN Y15 rfl dC_13 rfl ?_
  refine Gl.lloadN Y15 rfl dC_14 rfl ?_
  refine Gl.lastore Y15 A15 (v := (.long 0)) rfl ⟨by decide, by decide⟩ (ix := 1) rfl (Nat.le_of_ble_eq_true rfl) ga dC_15 rfl (fun T15_2 h15_2 Y15_2 W15_2 A15_2 => ?_)
  have A15_2 : Arv Z h15_2 a ka .long (3 : Int32) [(.long 0), (.long 0), (.long x2)] (.long 0) := A15_2
  have K15_2 : Keep h0 h15_2 [a] := K15.wr W15_2 (Or.inl (List.mem_of_getElem? (i := 0) rfl))
  show Gl p e below _ (T15_2.setTop (mkF m 16 _ []))
  refine Gl.iinc Y15_2 rfl (r := (2 : Int32)) (by decide) (L' := #[.val (.ref a), .val (.long 0), .second, .val (.int 2), .val (.int 3)]) rfl dC_16 rfl ?_
  refine Gl.goto Y15_2 dC_19 (by decide) rfl ?_
  refine Gl.iloadN Y15_2 rfl dC_6 rfl ?_
  refine Gl.iload Y15_2 rfl dC_7 rfl ?_
  refine Gl.icmpge Y15_2 dC_9 (by decide) rfl rfl (fun c9_3 => ?_) (fun c9_3 => ?_)
  · exact absurd c9_3 (by decide)
  refine Gl.aloadN Y15_2 rfl rfl dC_12 rfl ?_
  refine Gl.iloadN Y15_2 rfl dC_13 rfl ?_
  refine Gl.lloadN Y15_2 rfl dC_14 rfl ?_
  refine Gl.lastore Y15_2 A15_2 (v := (.long 0)) rfl ⟨by decide, by decide⟩ (ix := 2) rfl (Nat.le_of_ble_eq_true rfl) ga dC_15 rfl (fun T15_3 h15_3 Y15_3 W15_3 A15_3 => ?_)
  have A15_3 : Arv Z h15_3 a ka .long (3 : Int32) [(.long 0), (.long 0), (.long 0)] (.long 0) := A15_3
  have K15_3 : Keep h0 h15_3 [a] := K15_2.wr W15_3 (Or.inl (List.mem_of_getElem? (i := 0) rfl))
  show Gl p e below _ (T15_3.setTop (mkF m 16 _ []))
  refine Gl.iinc Y15_3 rfl (r := (3 : Int32)) (by decide) (L' := #[.val (.ref a), .val (.long 0), .second, .val (.int 3), .val (.int 3)]) rfl dC_16 rfl ?_
  refine Gl.goto Y15_3 dC_19 (by decide) rfl ?_
  refine Gl.iloadN Y15_3 rfl dC_6 rfl ?_
  refine Gl.iload Y15_3 rfl dC_7 rfl ?_
  refine Gl.icmpge Y15_3 dC_9 (by decide) rfl rfl (fun c9_4 => ?_) (fun c9_4 => ?_)
  rotate_left
  · exact absurd c9_4 (by decide)
  exact Gl.retV Y15_3 (by decide) (by decide)  dC_22 ⟨rfl, K15_3, A15_3⟩
def R32 : Room := { frames := 0, cells := 0, slots := 0, locals := 0 }
def Q32 (Z : State) (h0 : Heap) (v : Option Value) (h : Heap) : Prop := v = none ∧ h0 = h
theorem ef32 (m : MethodId) : entryFrame m #[(.int 3), (.int 1), (.int 3)] 3 = mkF m 0 #[.val (.int 3), .val (.int 1), .val (.int 3)] [] := by first | (simp [entryFrame, mkF, argsToLocals, Value.category]; done) | rfl
theorem rm32 (l : Launch) (Z : State) (a0 : Array Value) (hw : HW a0 Z) (ws : List Jvm.Cond) (h0 : Heap) (n0 : Nat) (Z0 : n0 ≤ h0.size) : OMet l Z ws (⟨"java/util/Arrays", "rangeCheck", "(III)V"⟩ : MethodName) jdk_65_method_30_code 3 none R32 #[(.int 3), (.int 1), (.int 3)] h0 n0 (Q32 Z h0) := by
  refine OMet.of (own := "java/util/Arrays") rfl (plainFor_of_name pn_1) (ef32) Z0 ?_
  intro p e s m below meth c T0 Y0 hnm
  refine Gl.iloadN Y0 rfl dD_0 rfl ?_
  refine Gl.iloadN Y0 rfl dD_1 rfl ?_
  refine Gl.icmple Y0 dD_2 (by decide) rfl rfl (fun c2 => ?_) (fun c2 => ?_)
  rotate_left
  · exact absurd c2 (by decide)
  refine Gl.iloadN Y0 rfl dD_46 rfl ?_
  refine Gl.ifge Y0 dD_47 (by decide) rfl rfl (fun c47 => ?_) (fun c47 => ?_)
  rotate_left
  · exact absurd c47 (by decide)
  refine Gl.iloadN Y0 rfl dD_59 rfl ?_
  refine Gl.iloadN Y0 rfl dD_60 rfl ?_
  refine Gl.icmple Y0 dD_61 (by decide) rfl rfl (fun c61 => ?_) (fun c61 => ?_)
  rotate_left
  · exact absurd c61 (by decide)
  exact Gl.retV Y0 (by decide) (by decide)  dD_73 ⟨rfl, rfl⟩
def R33 : Room := { frames := 1, cells := 0, slots := 0, locals := 14 }
def Q33 (Z : State) (a : Addr) (ka : ClassId) (v1 : Int64) (x0 : Int64) (x1 : Int64) (x2 : Int64) (h0 : Heap) (v : Option Value) (h : Heap) : Prop := v = none ∧ Keep h0 h [a] ∧ Arv Z h a ka .long (3 : Int32) [(.long x0), (.long v1), (.long v1)] (.long 0)
theorem ef33 (a : Addr) (v1 : Int64) (m : MethodId) : entryFrame m #[(.ref a), (.int 1), (.int 3), (.long v1)] 6 = mkF m 0 #[.val (.ref a), .val (.int 1), .val (.int 3), .val (.long v1), .second, .unset] [] := by first | (simp [entryFrame, mkF, argsToLocals, Value.category]; done) | rfl
theorem rm33 (l : Launch) (Z : State) (a0 : Array Value) (hw : HW a0 Z) (ws : List Jvm.Cond) (a : Addr) (ka : ClassId) (v1 : Int64) (x0 : Int64) (x1 : Int64) (x2 : Int64) (h0 : Heap) (n0 : Nat) (Z0 : n0 ≤ h0.size) (V : Arv Z h0 a ka .long (3 : Int32) [(.long x0), (.long x1), (.long x2)] (.long 0)) (ga : n0 ≤ a) : OMet l Z ws (⟨"java/util/Arrays", "fill", "([JIIJ)V"⟩ : MethodName) jdk_65_method_102_code 6 none R33 #[(.ref a), (.int 1), (.int 3), (.long v1)] h0 n0 (Q33 Z a ka v1 x0 x1 x2 h0) := by
  refine OMet.of (own := "java/util/Arrays") rfl (plainFor_of_name pn_1) (ef33 a v1) Z0 ?_
  intro p e s m below meth c T0 Y0 hnm
  refine Gl.aloadN Y0 rfl rfl dE_0 rfl ?_
  refine Gl.arraylength Y0 V dE_1 rfl ?_
  refine Gl.iloadN Y0 rfl dE_2 rfl ?_
  refine Gl.iloadN Y0 rfl dE_3 rfl ?_
  refine Gl.callS Y0 (tw_25 hw) (tw_26 hw) (tw_23 hw) (tw_27 hw) (by decide) (rm32 l Z a0 hw [] h0 n0 Y0.sz) (argsL := [(.int 3), (.int 1), (.int 3)]) (rest := []) rfl rfl (lenOf pd_0 rfl) rfl (by decide) (Nat.le_of_ble_eq_true rfl) (by decide) (by decide) dE_4 rfl (fun v4 T4 h4 Y4 q4 => ?_)
  obtain ⟨rfl, rfl⟩ := q4
  show Gl p e below _ (T4.setTop (mkF m 7 _ []))
  refine Gl.iloadN Y4 rfl dE_7 rfl ?_
  refine Gl.istore Y4 (L' := #[.val (.ref a), .val (.int 1), .val (.int 3), .val (.long v1), .second, .val (.int 1)]) rfl dE_8 rfl ?_
  refine Gl.iload Y4 rfl dE_10 rfl ?_
  refine Gl.iloadN Y4 rfl dE_12 rfl ?_
  refine Gl.icmpge Y4 dE_13 (by decide) rfl rfl (fun c13 => ?_) (fun c13 => ?_)
  · exact absurd c13 (by decide)
  refine Gl.aloadN Y4 rfl rfl dE_16 rfl ?_
  refine Gl.iload Y4 rfl dE_17 rfl ?_
  refine Gl.lloadN Y4 rfl dE_19 rfl ?_
  refine Gl.lastore Y4 V (v := (.long v1)) rfl ⟨by decide, by decide⟩ (ix := 1) rfl (Nat.le_of_ble_eq_true rfl) ga dE_20 rfl (fun T20 h20 Y20 W20 A20 => ?_)
  have A20 : Arv Z h20 a ka .long (3 : Int32) [(.long x0), (.long v1), (.long x2)] (.long 0) := A20
  have K20 : Keep h0 h20 [a] := (Keep.refl h0 [a]).wr W20 (Or.inl (List.mem_of_getElem? (i := 0) rfl))
  show Gl p e below _ (T20.setTop (mkF m 21 _ []))
  refine Gl.iinc Y20 rfl (r := (2 : Int32)) (by decide) (L' := #[.val (.ref a), .val (.int 1), .val (.int 3), .val (.long v1), .second, .val (.int 2)]) rfl dE_21 rfl ?_
  refine Gl.goto Y20 dE_24 (by decide) rfl ?_
  refine Gl.iload Y20 rfl dE_10 rfl ?_
  refine Gl.iloadN Y20 rfl dE_12 rfl ?_
  refine Gl.icmpge Y20 dE_13 (by decide) rfl rfl (fun c13_2 => ?_) (fun c13_2 => ?_)
  · exact absurd c13_2 (by decide)
  refine Gl.aloadN Y20 rfl rfl dE_16 rfl ?_
  refine Gl.iload Y20 rfl dE_17 rfl ?_
  refine Gl.lloadN Y20 rfl dE_19 rfl ?_
  refine Gl.lastore Y20 A20 (v := (.long v1)) rfl ⟨by decide, by decide⟩ (ix := 2) rfl (Nat.le_of_ble_eq_true rfl) ga dE_20 rfl (fun T20_2 h20_2 Y20_2 W20_2 A20_2 => ?_)
  have A20_2 : Arv Z h20_2 a ka .long (3 : Int32) [(.long x0), (.long v1), (.long v1)] (.long 0) := A20_2
  have K20_2 : Keep h0 h20_2 [a] := K20.wr W20_2 (Or.inl (List.mem_of_getElem? (i := 0) rfl))
  show Gl p e below _ (T20_2.setTop (mkF m 21 _ []))
  refine Gl.iinc Y20_2 rfl (r := (3 : Int32)) (by decide) (L' := #[.val (.ref a), .val (.int 1), .val (.int 3), .val (.long v1), .second, .val (.int 3)]) rfl dE_21 rfl ?_
  refine Gl.goto Y20_2 dE_24 (by decide) rfl ?_
  refine Gl.iload Y20_2 rfl dE_10 rfl ?_
  refine Gl.iloadN Y20_2 rfl dE_12 rfl ?_
  refine Gl.icmpge Y20_2 dE_13 (by decide) rfl rfl (fun c13_3 => ?_) (fun c13_3 => ?_)
  rotate_left
  · exact absurd c13_3 (by decide)
  exact Gl.retV Y20_2 (by decide) (by decide)  dE_27 ⟨rfl, K20_2, A20_2⟩
def R34 : Room := { frames := 2, cells := 0, slots := 0, locals := 31 }
def Q34 (Z : State) (o : Addr) (wo : Addr) (ko : ClassId) (x0 : Int64) (x1 : Int64) (x2 : Int64) (v1 : Int64) (sg : Int64) (h0 : Heap) (v : Option Value) (h : Heap) : Prop := v = some (.ref o) ∧ Keep h0 h [wo] ∧ Arv Z h wo ko .long (3 : Int32) [(.long v1), (.long sg), (.long sg)] (.long 0)
theorem ef34 (o : Addr) (v1 : Int64) (m : MethodId) : entryFrame m #[(.ref o), (.long v1)] 3 = mkF m 0 #[.val (.ref o), .val (.long v1), .second] [] := by first | (simp [entryFrame, mkF, argsToLocals, Value.category]; done) | rfl
theorem rm34 (l : Launch) (Z : State) (a0 : Array Value) (hw : HW a0 Z) (ws : List Jvm.Cond) (o : Addr) (wo : Addr) (ko : ClassId) (x0 : Int64) (x1 : Int64) (x2 : Int64) (v1 : Int64) (sg : Int64) (h0 : Heap) (n0 : Nat) (Z0 : n0 ≤ h0.size) (E_o : Exa Z h0 o "com/example/meterwise/meterwise/model/WholeNumber") (F_o : Fld Z h0 o "com/example/meterwise/meterwise/model/WholeNumber" "words" "[J" (.ref wo)) (V_o : Arv Z h0 wo ko .long (3 : Int32) [(.long x0), (.long x1), (.long x2)] (.long 0)) (g_o : n0 ≤ wo) (nn_o : own_ne o wo) (hsg : v1 >>> ((63 : Int32) &&& 0x3f).toInt64 = sg) : OMet l Z ws (⟨"com/example/meterwise/meterwise/model/WholeNumber", "set", "(J)Lcom/example/meterwise/meterwise/model/WholeNumber;"⟩ : MethodName) prog_137_method_4_code 3 (some (.object "com/example/meterwise/meterwise/model/WholeNumber")) R34 #[(.ref o), (.long v1)] h0 n0 (Q34 Z o wo ko x0 x1 x2 v1 sg h0) := by
  refine OMet.of (own := "com/example/meterwise/meterwise/model/WholeNumber") rfl (plainFor_of_name pn_0) (ef34 o v1) Z0 ?_
  intro p e s m below meth c T0 Y0 hnm
  refine Gl.aloadN Y0 rfl rfl dF_0 rfl ?_
  refine Gl.getF Y0 (host := "") (Or.inl (tw_14 hw)) Via.refl F_o dF_1 rfl (fun T1 Y1 => ?_)
  refine Gl.iconst Y1 (v := (0 : Int32)) (by decide) dF_4 rfl ?_
  refine Gl.lloadN Y1 rfl dF_5 rfl ?_
  refine Gl.lastore Y1 V_o (v := (.long v1)) rfl ⟨by decide, by decide⟩ (ix := 0) rfl (Nat.le_of_ble_eq_true rfl) g_o dF_6 rfl (fun T6 h6 Y6 W6 A6 => ?_)
  have A6 : Arv Z h6 wo ko .long (3 : Int32) [(.long v1), (.long x1), (.long x2)] (.long 0) := A6
  have K6 : Keep h0 h6 [wo] := (Keep.refl h0 [wo]).wr W6 (Or.inl (List.mem_of_getElem? (i := 0) rfl))
  show Gl p e below _ (T6.setTop (mkF m 7 _ []))
  refine Gl.aloadN Y6 rfl rfl dF_7 rfl ?_
  have f1 := (Fld.other W6 F_o (Or.inl nn_o))
  refine Gl.getF Y6 (host := "") (Or.inl (tw_14 hw)) Via.refl f1 dF_8 rfl (fun T8 Y8 => ?_)
  refine Gl.iconst Y8 (v := (1 : Int32)) (by decide) dF_11 rfl ?_
  refine Gl.aloadN Y8 rfl rfl dF_12 rfl ?_
  refine Gl.getF Y8 (host := "") (Or.inl (tw_14 hw)) Via.refl f1 dF_13 rfl (fun T13 Y13 => ?_)
  refine Gl.arraylength Y13 A6 dF_16 rfl ?_
  refine Gl.lloadN Y13 rfl dF_17 rfl ?_
  refine Gl.bipush Y13 (v := (63 : Int32)) (by decide) dF_18 rfl ?_
  obtain ⟨v20, hv20⟩ : ∃ z : Int64, (v1 >>> ((63 : Int32) &&& 0x3f).toInt64) = z := ⟨_, rfl⟩
  refine Gl.lshr Y13 hv20 dF_20 rfl ?_
  obtain rfl : sg = v20 := Eq.symm (hv20.symm.trans hsg)
  refine Gl.callS Y13 (tw_21 hw) (tw_22 hw) (tw_23 hw) (tw_24 hw) (by decide) (rm33 l Z a0 hw [] wo ko sg v1 x1 x2 h6 n0 Y13.sz A6 g_o) (argsL := [(.ref wo), (.int 1), (.int 3), (.long sg)]) (rest := []) rfl rfl (lenOf pd_1 rfl) rfl (by decide) (Nat.le_of_ble_eq_true rfl) (by decide) (by decide) dF_21 rfl (fun v21 T21 h21 Y21 q21 => ?_)
  obtain ⟨rfl, K21, f21_0⟩ := q21
  have KK21 : Keep h0 h21 [wo] := K6.trans K21 (allS (Or.inl (List.mem_of_getElem? (i := 0) rfl)) all0)
  show Gl p e below _ (T21.setTop (mkF m 24 _ []))
  refine Gl.aloadN Y21 rfl rfl dF_24 rfl ?_
  exact Gl.retA Y21 (by decide) (by decide) rfl rfl dF_25 ⟨rfl, KK21, f21_0⟩
def R35 : Room := { frames := 0, cells := 0, slots := 0, locals := 0 }
def Q35 (Z : State) (o : Addr) (wo : Addr) (ko : ClassId) (x0 : Int64) (x1 : Int64) (x2 : Int64) (h0 : Heap) (v : Option Value) (h : Heap) : Prop := ∃ r : Int32, v = some (.int r) ∧ (((x0.toInt = 0 ∧ x1.toInt = 0) ∧ r.toInt = 1) ∨ (¬ (x0.toInt = 0 ∧ x1.toInt = 0) ∧ r.toInt = 0)) ∧ h0 = h
theorem ef35 (o : Addr) (m : MethodId) : entryFrame m #[(.ref o)] 2 = mkF m 0 #[.val (.ref o), .unset] [] := by first | (simp [entryFrame, mkF, argsToLocals, Value.category]; done) | rfl
theorem rm35 (l : Launch) (Z : State) (a0 : Array Value) (hw : HW a0 Z) (ws : List Jvm.Cond) (o : Addr) (wo : Addr) (ko : ClassId) (x0 : Int64) (x1 : Int64) (x2 : Int64) (h0 : Heap) (n0 : Nat) (Z0 : n0 ≤ h0.size) (E_o : Exa Z h0 o "com/example/meterwise/meterwise/model/WholeNumber") (F_o : Fld Z h0 o "com/example/meterwise/meterwise/model/WholeNumber" "words" "[J" (.ref wo)) (V_o : Arv Z h0 wo ko .long (3 : Int32) [(.long x0), (.long x1), (.long x2)] (.long 0)) : OMet l Z ws (⟨"com/example/meterwise/meterwise/model/WholeNumber", "zeroBelowTop", "()Z"⟩ : MethodName) prog_137_method_10_code 2 (some .boolean) R35 #[(.ref o)] h0 n0 (Q35 Z o wo ko x0 x1 x2 h0) := by
  refine OMet.of (own := "com/example/meterwise/meterwise/model/WholeNumber") rfl (plainFor_of_name pn_0) (ef35 o) Z0 ?_
  intro p e s m below meth c T0 Y0 hnm
  refine Gl.iconst Y0 (v := (0 : Int32)) (by decide) dG_0 rfl ?_
  refine Gl.istoreN Y0 (L' := #[.val (.ref o), .val (.int 0)]) rfl dG_1 rfl ?_
  refine Gl.iloadN Y0 rfl dG_2 rfl ?_
  refine Gl.aloadN Y0 rfl rfl dG_3 rfl ?_
  refine Gl.getF Y0 (host := "") (Or.inl (tw_14 hw)) Via.refl F_o dG_4 rfl (fun T4 Y4 => ?_)
  refine Gl.arraylength Y4 V_o dG_7 rfl ?_
  refine Gl.iconst Y4 (v := (1 : Int32)) (by decide) dG_8 rfl ?_
  refine Gl.isub Y4 (r := (2 : Int32)) (by decide) dG_9 rfl ?_
  refine Gl.icmpge Y4 dG_10 (by decide) rfl rfl (fun c10 => ?_) (fun c10 => ?_)
  · exact absurd c10 (by decide)
  refine Gl.aloadN Y4 rfl rfl dG_13 rfl ?_
  refine Gl.getF Y4 (host := "") (Or.inl (tw_14 hw)) Via.refl F_o dG_14 rfl (fun T14 Y14 => ?_)
  refine Gl.iloadN Y14 rfl dG_17 rfl ?_
  refine Gl.laload Y14 V_o ⟨by decide, by decide⟩ (v := (.long x0)) rfl dG_18 rfl ?_
  refine Gl.lconst Y14 (v := (0 : Int64)) (by decide) dG_19 rfl ?_
  refine Gl.lcmpeq Y14 dG_20 rfl dG_21 (by decide) rfl rfl (fun c21 => ?_) (fun c21 => ?_)
  · have j21 : x0.toInt = 0 := congrArg Int64.toInt c21
    refine Gl.iinc Y14 rfl (r := (1 : Int32)) (by decide) (L' := #[.val (.ref o), .val (.int 1)]) rfl dG_26 rfl ?_
    refine Gl.goto Y14 dG_29 (by decide) rfl ?_
    refine Gl.iloadN Y14 rfl dG_2 rfl ?_
    refine Gl.aloadN Y14 rfl rfl dG_3 rfl ?_
    refine Gl.getF Y14 (host := "") (Or.inl (tw_14 hw)) Via.refl F_o dG_4 rfl (fun T4_2 Y4_2 => ?_)
    refine Gl.arraylength Y4_2 V_o dG_7 rfl ?_
    refine Gl.iconst Y4_2 (v := (1 : Int32)) (by decide) dG_8 rfl ?_
    refine Gl.isub Y4_2 (r := (2 : Int32)) (by decide) dG_9 rfl ?_
    refine Gl.icmpge Y4_2 dG_10 (by decide) rfl rfl (fun c10_2 => ?_) (fun c10_2 => ?_)
    · exact absurd c10_2 (by decide)
    refine Gl.aloadN Y4_2 rfl rfl dG_13 rfl ?_
    refine Gl.getF Y4_2 (host := "") (Or.inl (tw_14 hw)) Via.refl F_o dG_14 rfl (fun T14_2 Y14_2 => ?_)
    refine Gl.iloadN Y14_2 rfl dG_17 rfl ?_
    refine Gl.laload Y14_2 V_o ⟨by decide, by decide⟩ (v := (.long x1)) rfl dG_18 rfl ?_
    refine Gl.lconst Y14_2 (v := (0 : Int64)) (by decide) dG_19 rfl ?_
    refine Gl.lcmpeq Y14_2 dG_20 rfl dG_21 (by decide) rfl rfl (fun c21_2 => ?_) (fun c21_2 => ?_)
    · have j21_2 : x1.toInt = 0 := congrArg Int64.toInt c21_2
      refine Gl.iinc Y14_2 rfl (r := (2 : Int32)) (by decide) (L' := #[.val (.ref o), .val (.int 2)]) rfl dG_26 rfl ?_
      refine Gl.goto Y14_2 dG_29 (by decide) rfl ?_
      refine Gl.iloadN Y14_2 rfl dG_2 rfl ?_
      refine Gl.aloadN Y14_2 rfl rfl dG_3 rfl ?_
      refine Gl.getF Y14_2 (host := "") (Or.inl (tw_14 hw)) Via.refl F_o dG_4 rfl (fun T4_3 Y4_3 => ?_)
      refine Gl.arraylength Y4_3 V_o dG_7 rfl ?_
      refine Gl.iconst Y4_3 (v := (1 : Int32)) (by decide) dG_8 rfl ?_
      refine Gl.isub Y4_3 (r := (2 : Int32)) (by decide) dG_9 rfl ?_
      refine Gl.icmpge Y4_3 dG_10 (by decide) rfl rfl (fun c10_3 => ?_) (fun c10_3 => ?_)
      rotate_left
      · exact absurd c10_3 (by decide)
      refine Gl.iconst Y4_3 (v := (1 : Int32)) (by decide) dG_32 rfl ?_
      exact Gl.retZ Y4_3 (by decide) (by decide) (x' := (1 : Int32)) (by decide) dG_33 ⟨(1 : Int32), rfl, (by have q0 : (0 : Int32).toInt = 0 := rfl; have q1 : (1 : Int32).toInt = 1 := rfl; have q2 : (-1 : Int32).toInt = -1 := rfl; omega), rfl⟩
    · have j21_2 : ¬ (x1.toInt = 0) := fun q => c21_2 (Int64.toInt_inj.mp q)
      refine Gl.iconst Y14_2 (v := (0 : Int32)) (by decide) dG_24 rfl ?_
      exact Gl.retZ Y14_2 (by decide) (by decide) (x' := (0 : Int32)) (by decide) dG_25 ⟨(0 : Int32), rfl, (by have q0 : (0 : Int32).toInt = 0 := rfl; have q1 : (1 : Int32).toInt = 1 := rfl; have q2 : (-1 : Int32).toInt = -1 := rfl; omega), rfl⟩
  · have j21 : ¬ (x0.toInt = 0) := fun q => c21 (Int64.toInt_inj.mp q)
    refine Gl.iconst Y14 (v := (0 : Int32)) (by decide) dG_24 rfl ?_
    exact Gl.retZ Y14 (by decide) (by decide) (x' := (0 : Int32)) (by decide) dG_25 ⟨(0 : Int32), rfl, (by have q0 : (0 : Int32).toInt = 0 := rfl; have q1 : (1 : Int32).toInt = 1 := rfl; have q2 : (-1 : Int32).toInt = -1 := rfl; omega), rfl⟩
def R36 : Room := { frames := 1, cells := 0, slots := 0, locals := 13 }
def Q36 (Z : State) (o : Addr) (wo : Addr) (ko : ClassId) (x0 : Int64) (x1 : Int64) (x2 : Int64) (h0 : Heap) (v : Option Value) (h : Heap) : Prop := ∃ r : Int32, v = some (.int r) ∧ (((x2.toInt = (-9223372036854775808) ∧ x0.toInt = 0 ∧ x1.toInt = 0) ∧ r.toInt = 1) ∨ (¬ (x2.toInt = (-9223372036854775808) ∧ x0.toInt = 0 ∧ x1.toInt = 0) ∧ r.toInt = 0)) ∧ h0 = h
theorem ef36 (o : Addr) (m : MethodId) : entryFrame m #[(.ref o)] 1 = mkF m 0 #[.val (.ref o)] [] := by first | (simp [entryFrame, mkF, argsToLocals, Value.category]; done) | rfl
theorem rm36 (l : Launch) (Z : State) (a0 : Array Value) (hw : HW a0 Z) (ws : List Jvm.Cond) (o : Addr) (wo : Addr) (ko : ClassId) (x0 : Int64) (x1 : Int64) (x2 : Int64) (h0 : Heap) (n0 : Nat) (Z0 : n0 ≤ h0.size) (E_o : Exa Z h0 o "com/example/meterwise/meterwise/model/WholeNumber") (F_o : Fld Z h0 o "com/example/meterwise/meterwise/model/WholeNumber" "words" "[J" (.ref wo)) (V_o : Arv Z h0 wo ko .long (3 : Int32) [(.long x0), (.long x1), (.long x2)] (.long 0)) : OMet l Z ws (⟨"com/example/meterwise/meterwise/model/WholeNumber", "overflowed", "()Z"⟩ : MethodName) prog_137_method_8_code 1 (some .boolean) R36 #[(.ref o)] h0 n0 (Q36 Z o wo ko x0 x1 x2 h0) := by
  refine OMet.of (own := "com/example/meterwise/meterwise/model/WholeNumber") rfl (plainFor_of_name pn_0) (ef36 o) Z0 ?_
  intro p e s m below meth c T0 Y0 hnm
  refine Gl.aloadN Y0 rfl rfl dH_0 rfl ?_
  refine Gl.callP Y0 (tw_42 hw) (tw_43 hw) (tw_44 hw) (tw_1 hw) (tw_2 hw) (tw_45 hw) (by decide) E_o (rm30 l Z a0 hw [] o wo ko x0 x1 x2 h0 n0 Y0.sz E_o F_o V_o) (a := o) (argsL := []) (rest := []) rfl rfl (lenOf pd_2 rfl) rfl (by decide) (Nat.le_of_ble_eq_true rfl) (by decide) (by decide) dH_1 rfl (fun v1 T1 h1 Y1 q1 => ?_)
  obtain ⟨rfl, rfl⟩ := q1
  show Gl p e below _ (T1.setTop (mkF m 4 _ [(.long x2)]))
  refine Gl.ldcJ Y1 (tw_46 hw) dH_4 rfl ?_
  refine Gl.lcmpne Y1 dH_7 rfl dH_8 (by decide) rfl rfl (fun c8 => ?_) (fun c8 => ?_)
  · have j8 : ¬ (x2.toInt = (-9223372036854775808)) := fun q => c8 (Int64.toInt_inj.mp q)
    refine Gl.iconst Y1 (v := (0 : Int32)) (by decide) dH_22 rfl ?_
    exact Gl.retZ Y1 (by decide) (by decide) (x' := (0 : Int32)) (by decide) dH_23 ⟨(0 : Int32), rfl, (by have q0 : (0 : Int32).toInt = 0 := rfl; have q1 : (1 : Int32).toInt = 1 := rfl; have q2 : (-1 : Int32).toInt = -1 := rfl; omega), rfl⟩
  · have j8 : x2.toInt = (-9223372036854775808) := congrArg Int64.toInt c8
    refine Gl.aloadN Y1 rfl rfl dH_11 rfl ?_
    refine Gl.callP Y1 (tw_75 hw) (tw_76 hw) (tw_77 hw) (tw_1 hw) (tw_2 hw) (tw_78 hw) (by decide) E_o (rm35 l Z a0 hw [] o wo ko x0 x1 x2 h0 n0 Y1.sz E_o F_o V_o) (a := o) (argsL := []) (rest := []) rfl rfl (lenOf pd_3 rfl) rfl (by decide) (Nat.le_of_ble_eq_true rfl) (by decide) (by decide) dH_12 rfl (fun v12 T12 h12 Y12 q12 => ?_)
    obtain ⟨r12, rfl, p12, rfl⟩ := q12
    have br12 : r12 = 0 ∨ r12 = 1 := by rcases p12 with q | q; exact Or.inr (Int32.toInt_inj.mp q.2); exact Or.inl (Int32.toInt_inj.mp q.2)
    show Gl p e below _ (T12.setTop (mkF m 15 _ [(.int r12)]))
    refine Gl.ifeq Y12 dH_15 (by decide) rfl rfl (fun c15 => ?_) (fun c15 => ?_)
    · have j15 : r12.toInt = 0 := congrArg Int32.toInt c15
      refine Gl.iconst Y12 (v := (0 : Int32)) (by decide) dH_22 rfl ?_
      exact Gl.retZ Y12 (by decide) (by decide) (x' := (0 : Int32)) (by decide) dH_23 ⟨(0 : Int32), rfl, (by have q0 : (0 : Int32).toInt = 0 := rfl; have q1 : (1 : Int32).toInt = 1 := rfl; have q2 : (-1 : Int32).toInt = -1 := rfl; omega), rfl⟩
    · have j15 : ¬ (r12.toInt = 0) := fun q => c15 (Int32.toInt_inj.mp q)
      refine Gl.iconst Y12 (v := (1 : Int32)) (by decide) dH_18 rfl ?_
      refine Gl.goto Y12 dH_19 (by decide) rfl ?_
      exact Gl.retZ Y12 (by decide) (by decide) (x' := (1 : Int32)) (by decide) dH_23 ⟨(1 : Int32), rfl, (by have q0 : (0 : Int32).toInt = 0 := rfl; have q1 : (1 : Int32).toInt = 1 := rfl; have q2 : (-1 : Int32).toInt = -1 := rfl; omega), rfl⟩
def R37 : Room := { frames := 1, cells := 0, slots := 0, locals := 13 }
def Q37 (Z : State) (o : Addr) (wo : Addr) (ko : ClassId) (x0 : Int64) (x1 : Int64) (x2 : Int64) (h0 : Heap) (v : Option Value) (h : Heap) : Prop := ∃ r : Int32, v = some (.int r) ∧ (((x2.toInt < 0 ∧ r.toInt = -1) ∨ (¬ x2.toInt < 0 ∧ (x0.toInt = 0 ∧ x1.toInt = 0 ∧ x2.toInt = 0) ∧ r.toInt = 0) ∨ (¬ x2.toInt < 0 ∧ ¬ (x0.toInt = 0 ∧ x1.toInt = 0 ∧ x2.toInt = 0) ∧ r.toInt = 1))) ∧ h0 = h
theorem ef37 (o : Addr) (m : MethodId) : entryFrame m #[(.ref o)] 3 = mkF m 0 #[.val (.ref o), .unset, .unset] [] := by first | (simp [entryFrame, mkF, argsToLocals, Value.category]; done) | rfl
theorem rm37 (l : Launch) (Z : State) (a0 : Array Value) (hw : HW a0 Z) (ws : List Jvm.Cond) (o : Addr) (wo : Addr) (ko : ClassId) (x0 : Int64) (x1 : Int64) (x2 : Int64) (h0 : Heap) (n0 : Nat) (Z0 : n0 ≤ h0.size) (E_o : Exa Z h0 o "com/example/meterwise/meterwise/model/WholeNumber") (F_o : Fld Z h0 o "com/example/meterwise/meterwise/model/WholeNumber" "words" "[J" (.ref wo)) (V_o : Arv Z h0 wo ko .long (3 : Int32) [(.long x0), (.long x1), (.long x2)] (.long 0)) : OMet l Z ws (⟨"com/example/meterwise/meterwise/model/WholeNumber", "signum", "()I"⟩ : MethodName) prog_137_method_9_code 3 (some .int) R37 #[(.ref o)] h0 n0 (Q37 Z o wo ko x0 x1 x2 h0) := by
  refine OMet.of (own := "com/example/meterwise/meterwise/model/WholeNumber") rfl (plainFor_of_name pn_0) (ef37 o) Z0 ?_
  intro p e s m below meth c T0 Y0 hnm
  refine Gl.aloadN Y0 rfl rfl dI_0 rfl ?_
  refine Gl.callP Y0 (tw_42 hw) (tw_43 hw) (tw_44 hw) (tw_1 hw) (tw_2 hw) (tw_45 hw) (by decide) E_o (rm30 l Z a0 hw [] o wo ko x0 x1 x2 h0 n0 Y0.sz E_o F_o V_o) (a := o) (argsL := []) (rest := []) rfl rfl (lenOf pd_2 rfl) rfl (by decide) (Nat.le_of_ble_eq_true rfl) (by decide) (by decide) dI_1 rfl (fun v1 T1 h1 Y1 q1 => ?_)
  obtain ⟨rfl, rfl⟩ := q1
  show Gl p e below _ (T1.setTop (mkF m 4 _ [(.long x2)]))
  refine Gl.lstoreN Y1 (L' := #[.val (.ref o), .val (.long x2), .second]) rfl dI_4 rfl ?_
  refine Gl.lloadN Y1 rfl dI_5 rfl ?_
  refine Gl.lconst Y1 (v := (0 : Int64)) (by decide) dI_6 rfl ?_
  refine Gl.lcmpge Y1 dI_7 rfl dI_8 (by decide) rfl rfl (fun c8 => ?_) (fun c8 => ?_)
  · have j8 : ¬ (x2.toInt < 0) := fun q => c8 (Int64.lt_iff_toInt_lt.mpr q)
    refine Gl.lloadN Y1 rfl dI_13 rfl ?_
    refine Gl.lconst Y1 (v := (0 : Int64)) (by decide) dI_14 rfl ?_
    refine Gl.lcmpne Y1 dI_15 rfl dI_16 (by decide) rfl rfl (fun c16 => ?_) (fun c16 => ?_)
    · have j16 : ¬ (x2.toInt = 0) := fun q => c16 (Int64.toInt_inj.mp q)
      refine Gl.iconst Y1 (v := (1 : Int32)) (by decide) dI_37 rfl ?_
      refine Gl.goto Y1 dI_38 (by decide) rfl ?_
      exact Gl.retI Y1 (by decide) (by decide)  dI_42 ⟨(1 : Int32), rfl, (by have q0 : (0 : Int32).toInt = 0 := rfl; have q1 : (1 : Int32).toInt = 1 := rfl; have q2 : (-1 : Int32).toInt = -1 := rfl; omega), rfl⟩
    · have j16 : x2.toInt = 0 := congrArg Int64.toInt c16
      refine Gl.aloadN Y1 rfl rfl dI_19 rfl ?_
      refine Gl.getF Y1 (host := "") (Or.inl (tw_14 hw)) Via.refl F_o dI_20 rfl (fun T20 Y20 => ?_)
      refine Gl.iconst Y20 (v := (0 : Int32)) (by decide) dI_23 rfl ?_
      refine Gl.laload Y20 V_o ⟨by decide, by decide⟩ (v := (.long x0)) rfl dI_24 rfl ?_
      refine Gl.lconst Y20 (v := (0 : Int64)) (by decide) dI_25 rfl ?_
      refine Gl.lcmpne Y20 dI_26 rfl dI_27 (by decide) rfl rfl (fun c27 => ?_) (fun c27 => ?_)
      · have j27 : ¬ (x0.toInt = 0) := fun q => c27 (Int64.toInt_inj.mp q)
        refine Gl.iconst Y20 (v := (1 : Int32)) (by decide) dI_37 rfl ?_
        refine Gl.goto Y20 dI_38 (by decide) rfl ?_
        exact Gl.retI Y20 (by decide) (by decide)  dI_42 ⟨(1 : Int32), rfl, (by have q0 : (0 : Int32).toInt = 0 := rfl; have q1 : (1 : Int32).toInt = 1 := rfl; have q2 : (-1 : Int32).toInt = -1 := rfl; omega), rfl⟩
      · have j27 : x0.toInt = 0 := congrArg Int64.toInt c27
        refine Gl.aloadN Y20 rfl rfl dI_30 rfl ?_
        refine Gl.callP Y20 (tw_75 hw) (tw_76 hw) (tw_77 hw) (tw_1 hw) (tw_2 hw) (tw_78 hw) (by decide) E_o (rm35 l Z a0 hw [] o wo ko x0 x1 x2 h0 n0 Y20.sz E_o F_o V_o) (a := o) (argsL := []) (rest := []) rfl rfl (lenOf pd_3 rfl) rfl (by decide) (Nat.le_of_ble_eq_true rfl) (by decide) (by decide) dI_31 rfl (fun v31 T31 h31 Y31 q31 => ?_)
        obtain ⟨r31, rfl, p31, rfl⟩ := q31
        have br31 : r31 = 0 ∨ r31 = 1 := by rcases p31 with q | q; exact Or.inr (Int32.toInt_inj.mp q.2); exact Or.inl (Int32.toInt_inj.mp q.2)
        show Gl p e below _ (T31.setTop (mkF m 34 _ [(.int r31)]))
        refine Gl.ifne Y31 dI_34 (by decide) rfl rfl (fun c34 => ?_) (fun c34 => ?_)
        · have j34 : ¬ (r31.toInt = 0) := fun q => c34 (Int32.toInt_inj.mp q)
          refine Gl.iconst Y31 (v := (0 : Int32)) (by decide) dI_41 rfl ?_
          exact Gl.retI Y31 (by decide) (by decide)  dI_42 ⟨(0 : Int32), rfl, (by have q0 : (0 : Int32).toInt = 0 := rfl; have q1 : (1 : Int32).toInt = 1 := rfl; have q2 : (-1 : Int32).toInt = -1 := rfl; omega), rfl⟩
        · have j34 : r31.toInt = 0 := congrArg Int32.toInt c34
          refine Gl.iconst Y31 (v := (1 : Int32)) (by decide) dI_37 rfl ?_
          refine Gl.goto Y31 dI_38 (by decide) rfl ?_
          exact Gl.retI Y31 (by decide) (by decide)  dI_42 ⟨(1 : Int32), rfl, (by have q0 : (0 : Int32).toInt = 0 := rfl; have q1 : (1 : Int32).toInt = 1 := rfl; have q2 : (-1 : Int32).toInt = -1 := rfl; omega), rfl⟩
  · have j8 : x2.toInt < 0 := Int64.lt_iff_toInt_lt.mp c8
    refine Gl.iconst Y1 (v := (-1 : Int32)) (by decide) dI_11 rfl ?_
    exact Gl.retI Y1 (by decide) (by decide)  dI_12 ⟨(-1 : Int32), rfl, (by have q0 : (0 : Int32).toInt = 0 := rfl; have q1 : (1 : Int32).toInt = 1 := rfl; have q2 : (-1 : Int32).toInt = -1 := rfl; omega), rfl⟩
def R38 : Room := { frames := 0, cells := 0, slots := 0, locals := 0 }
def Q38 (Z : State) (o : Addr) (wo : Addr) (ko : ClassId) (x0 : Int64) (x1 : Int64) (x2 : Int64) (h0 : Heap) (v : Option Value) (h : Heap) : Prop := v = some (.ref o) ∧ Keep h0 h [wo] ∧ Arv Z h wo ko .long (3 : Int32) [(.long (own_o x0 1)), (.long (own_o x1 (own_k x0 1))), (.long (own_o x2 (own_k x1 (own_k x0 1))))] (.long 0)
theorem ef38 (o : Addr) (m : MethodId) : entryFrame m #[(.ref o)] 4 = mkF m 0 #[.val (.ref o), .unset, .unset, .unset] [] := by first | (simp [entryFrame, mkF, argsToLocals, Value.category]; done) | rfl
theorem rm38 (l : Launch) (Z : State) (a0 : Array Value) (hw : HW a0 Z) (ws : List Jvm.Cond) (o : Addr) (wo : Addr) (ko : ClassId) (x0 : Int64) (x1 : Int64) (x2 : Int64) (h0 : Heap) (n0 : Nat) (Z0 : n0 ≤ h0.size) (E_o : Exa Z h0 o "com/example/meterwise/meterwise/model/WholeNumber") (F_o : Fld Z h0 o "com/example/meterwise/meterwise/model/WholeNumber" "words" "[J" (.ref wo)) (V_o : Arv Z h0 wo ko .long (3 : Int32) [(.long x0), (.long x1), (.long x2)] (.long 0)) (g_o : n0 ≤ wo) (nn_o : own_ne o wo) : OMet l Z ws (⟨"com/example/meterwise/meterwise/model/WholeNumber", "negate", "()Lcom/example/meterwise/meterwise/model/WholeNumber;"⟩ : MethodName) prog_137_method_19_code 4 (some (.object "com/example/meterwise/meterwise/model/WholeNumber")) R38 #[(.ref o)] h0 n0 (Q38 Z o wo ko x0 x1 x2 h0) := by
  refine OMet.of (own := "com/example/meterwise/meterwise/model/WholeNumber") rfl (plainFor_of_name pn_0) (ef38 o) Z0 ?_
  intro p e s m below meth c T0 Y0 hnm
  refine Gl.lconst Y0 (v := (1 : Int64)) (by decide) dJ_0 rfl ?_
  refine Gl.lstoreN Y0 (L' := #[.val (.ref o), .val (.long 1), .second, .unset]) rfl dJ_1 rfl ?_
  refine Gl.iconst Y0 (v := (0 : Int32)) (by decide) dJ_2 rfl ?_
  refine Gl.istoreN Y0 (L' := #[.val (.ref o), .val (.long 1), .second, .val (.int 0)]) rfl dJ_3 rfl ?_
  refine Gl.iloadN Y0 rfl dJ_4 rfl ?_
  refine Gl.aloadN Y0 rfl rfl dJ_5 rfl ?_
  refine Gl.getF Y0 (host := "") (Or.inl (tw_14 hw)) Via.refl F_o dJ_6 rfl (fun T6 Y6 => ?_)
  refine Gl.arraylength Y6 V_o dJ_9 rfl ?_
  refine Gl.icmpge Y6 dJ_10 (by decide) rfl rfl (fun c10 => ?_) (fun c10 => ?_)
  · exact absurd c10 (by decide)
  refine Gl.aloadN Y6 rfl rfl dJ_13 rfl ?_
  refine Gl.getF Y6 (host := "") (Or.inl (tw_14 hw)) Via.refl F_o dJ_14 rfl (fun T14 Y14 => ?_)
  refine Gl.iloadN Y14 rfl dJ_17 rfl ?_
  refine Gl.aloadN Y14 rfl rfl dJ_18 rfl ?_
  refine Gl.getF Y14 (host := "") (Or.inl (tw_14 hw)) Via.refl F_o dJ_19 rfl (fun T19 Y19 => ?_)
  refine Gl.iloadN Y19 rfl dJ_22 rfl ?_
  refine Gl.laload Y19 V_o ⟨by decide, by decide⟩ (v := (.long x0)) rfl dJ_23 rfl ?_
  refine Gl.ldcJ Y19 (tw_51 hw) dJ_24 rfl ?_
  refine Gl.lxor Y19 rfl dJ_27 rfl ?_
  refine Gl.lloadN Y19 rfl dJ_28 rfl ?_
  refine Gl.ladd Y19 rfl dJ_29 rfl ?_
  refine Gl.lastore Y19 V_o (v := (.long ((x0 ^^^ (-1 : Int64)) + (1 : Int64)))) rfl ⟨by decide, by decide⟩ (ix := 0) rfl (Nat.le_of_ble_eq_true rfl) g_o dJ_30 rfl (fun T30 h30 Y30 W30 A30 => ?_)
  have A30 : Arv Z h30 wo ko .long (3 : Int32) [(.long ((x0 ^^^ (-1 : Int64)) + (1 : Int64))), (.long x1), (.long x2)] (.long 0) := A30
  have K30 : Keep h0 h30 [wo] := (Keep.refl h0 [wo]).wr W30 (Or.inl (List.mem_of_getElem? (i := 0) rfl))
  show Gl p e below _ (T30.setTop (mkF m 31 _ []))
  refine Gl.lloadN Y30 rfl dJ_31 rfl ?_
  refine Gl.aloadN Y30 rfl rfl dJ_32 rfl ?_
  have f1 := (Fld.other W30 F_o (Or.inl nn_o))
  refine Gl.getF Y30 (host := "") (Or.inl (tw_14 hw)) Via.refl f1 dJ_33 rfl (fun T33 Y33 => ?_)
  refine Gl.iloadN Y33 rfl dJ_36 rfl ?_
  refine Gl.laload Y33 A30 ⟨by decide, by decide⟩ (v := (.long ((x0 ^^^ (-1 : Int64)) + (1 : Int64)))) rfl dJ_37 rfl ?_
  refine Gl.lconst Y33 (v := (0 : Int64)) (by decide) dJ_38 rfl ?_
  obtain ⟨z39, hz39⟩ : ∃ z : Int64, (if ((x0 ^^^ (-1 : Int64)) + (1 : Int64)) = (0 : Int64) then (1 : Int64) else (0 : Int64)) = z := ⟨_, rfl⟩
  refine own_cut (B := ∀ T', Sd Z "com/example/meterwise/meterwise/model/WholeNumber" prog_137_method_19_code 4 (some (.object "com/example/meterwise/meterwise/model/WholeNumber")) n0 p l e R38 s m #[(.ref o)] below meth c T' h30 0 0 → Gl p e below (Pst s n0 R38.cells R38.slots (Q38 Z o wo ko x0 x1 x2 h0)) (T'.setTop (mkF m 48 #[.val (.ref o), .val (.long 1), .second, .val (.int 0)] [(.long z39), (.long 1)]))) (fun jk => ?_) (fun T39j Y39j => ?_)
  · refine Gl.lcmpne Y33 dJ_39 rfl dJ_40 (by decide) rfl rfl (fun c40 => ?_) (fun c40 => ?_)
    · refine Gl.lconst Y33 (v := (0 : Int64)) (by decide) dJ_47 rfl ?_
      have ez39 : z39 = (0 : Int64) := by rw [← hz39]; simp only [c40, ↓reduceIte, if_true, if_false]
      rw [ez39] at jk
      exact jk T33 Y33
    · refine Gl.lconst Y33 (v := (1 : Int64)) (by decide) dJ_43 rfl ?_
      refine Gl.goto Y33 dJ_44 (by decide) rfl ?_
      have ez39 : z39 = (1 : Int64) := by rw [← hz39]; simp only [c40, ↓reduceIte, if_true, if_false]
      rw [ez39] at jk
      exact jk T33 Y33
  refine Gl.land Y39j rfl dJ_48 rfl ?_
  refine Gl.lstoreN Y39j (L' := #[.val (.ref o), .val (.long ((1 : Int64) &&& z39)), .second, .val (.int 0)]) rfl dJ_49 rfl ?_
  refine Gl.iinc Y39j rfl (r := (1 : Int32)) (by decide) (L' := #[.val (.ref o), .val (.long ((1 : Int64) &&& z39)), .second, .val (.int 1)]) rfl dJ_50 rfl ?_
  refine Gl.goto Y39j dJ_53 (by decide) rfl ?_
  refine Gl.iloadN Y39j rfl dJ_4 rfl ?_
  refine Gl.aloadN Y39j rfl rfl dJ_5 rfl ?_
  refine Gl.getF Y39j (host := "") (Or.inl (tw_14 hw)) Via.refl f1 dJ_6 rfl (fun T6_2 Y6_2 => ?_)
  refine Gl.arraylength Y6_2 A30 dJ_9 rfl ?_
  refine Gl.icmpge Y6_2 dJ_10 (by decide) rfl rfl (fun c10_2 => ?_) (fun c10_2 => ?_)
  · exact absurd c10_2 (by decide)
  refine Gl.aloadN Y6_2 rfl rfl dJ_13 rfl ?_
  refine Gl.getF Y6_2 (host := "") (Or.inl (tw_14 hw)) Via.refl f1 dJ_14 rfl (fun T14_2 Y14_2 => ?_)
  refine Gl.iloadN Y14_2 rfl dJ_17 rfl ?_
  refine Gl.aloadN Y14_2 rfl rfl dJ_18 rfl ?_
  refine Gl.getF Y14_2 (host := "") (Or.inl (tw_14 hw)) Via.refl f1 dJ_19 rfl (fun T19_2 Y19_2 => ?_)
  refine Gl.iloadN Y19_2 rfl dJ_22 rfl ?_
  refine Gl.laload Y19_2 A30 ⟨by decide, by decide⟩ (v := (.long x1)) rfl dJ_23 rfl ?_
  refine Gl.ldcJ Y19_2 (tw_51 hw) dJ_24 rfl ?_
  refine Gl.lxor Y19_2 rfl dJ_27 rfl ?_
  refine Gl.lloadN Y19_2 rfl dJ_28 rfl ?_
  refine Gl.ladd Y19_2 rfl dJ_29 rfl ?_
  refine Gl.lastore Y19_2 A30 (v := (.long ((x1 ^^^ (-1 : Int64)) + ((1 : Int64) &&& z39)))) rfl ⟨by decide, by decide⟩ (ix := 1) rfl (Nat.le_of_ble_eq_true rfl) g_o dJ_30 rfl (fun T30_2 h30_2 Y30_2 W30_2 A30_2 => ?_)
  have A30_2 : Arv Z h30_2 wo ko .long (3 : Int32) [(.long ((x0 ^^^ (-1 : Int64)) + (1 : Int64))), (.long ((x1 ^^^ (-1 : Int64)) + ((1 : Int64) &&& z39))), (.long x2)] (.long 0) := A30_2
  have K30_2 : Keep h0 h30_2 [wo] := K30.wr W30_2 (Or.inl (List.mem_of_getElem? (i := 0) rfl))
  show Gl p e below _ (T30_2.setTop (mkF m 31 _ []))
  refine Gl.lloadN Y30_2 rfl dJ_31 rfl ?_
  refine Gl.aloadN Y30_2 rfl rfl dJ_32 rfl ?_
  have f2 := (Fld.other W30_2 f1 (Or.inl nn_o))
  refine Gl.getF Y30_2 (host := "") (Or.inl (tw_14 hw)) Via.refl f2 dJ_33 rfl (fun T33_2 Y33_2 => ?_)
  refine Gl.iloadN Y33_2 rfl dJ_36 rfl ?_
  refine Gl.laload Y33_2 A30_2 ⟨by decide, by decide⟩ (v := (.long ((x1 ^^^ (-1 : Int64)) + ((1 : Int64) &&& z39)))) rfl dJ_37 rfl ?_
  refine Gl.lconst Y33_2 (v := (0 : Int64)) (by decide) dJ_38 rfl ?_
  obtain ⟨z39_2, hz39_2⟩ : ∃ z : Int64, (if ((x1 ^^^ (-1 : Int64)) + ((1 : Int64) &&& z39)) = (0 : Int64) then (1 : Int64) else (0 : Int64)) = z := ⟨_, rfl⟩
  refine own_cut (B := ∀ T', Sd Z "com/example/meterwise/meterwise/model/WholeNumber" prog_137_method_19_code 4 (some (.object "com/example/meterwise/meterwise/model/WholeNumber")) n0 p l e R38 s m #[(.ref o)] below meth c T' h30_2 0 0 → Gl p e below (Pst s n0 R38.cells R38.slots (Q38 Z o wo ko x0 x1 x2 h0)) (T'.setTop (mkF m 48 #[.val (.ref o), .val (.long ((1 : Int64) &&& z39)), .second, .val (.int 1)] [(.long z39_2), (.long ((1 : Int64) &&& z39))]))) (fun jk => ?_) (fun T39j_2 Y39j_2 => ?_)
  · refine Gl.lcmpne Y33_2 dJ_39 rfl dJ_40 (by decide) rfl rfl (fun c40 => ?_) (fun c40 => ?_)
    · refine Gl.lconst Y33_2 (v := (0 : Int64)) (by decide) dJ_47 rfl ?_
      have ez39_2 : z39_2 = (0 : Int64) := by rw [← hz39_2]; simp only [c40, ↓reduceIte, if_true, if_false]
      rw [ez39_2] at jk
      exact jk T33_2 Y33_2
    · refine Gl.lconst Y33_2 (v := (1 : Int64)) (by decide) dJ_43 rfl ?_
      refine Gl.goto Y33_2 dJ_44 (by decide) rfl ?_
      have ez39_2 : z39_2 = (1 : Int64) := by rw [← hz39_2]; simp only [c40, ↓reduceIte, if_true, if_false]
      rw [ez39_2] at jk
      exact jk T33_2 Y33_2
  refine Gl.land Y39j_2 rfl dJ_48 rfl ?_
  refine Gl.lstoreN Y39j_2 (L' := #[.val (.ref o), .val (.long (((1 : Int64) &&& z39) &&& z39_2)), .second, .val (.int 1)]) rfl dJ_49 rfl ?_
  refine Gl.iinc Y39j_2 rfl (r := (2 : Int32)) (by decide) (L' := #[.val (.ref o), .val (.long (((1 : Int64) &&& z39) &&& z39_2)), .second, .val (.int 2)]) rfl dJ_50 rfl ?_
  refine Gl.goto Y39j_2 dJ_53 (by decide) rfl ?_
  refine Gl.iloadN Y39j_2 rfl dJ_4 rfl ?_
  refine Gl.aloadN Y39j_2 rfl rfl dJ_5 rfl ?_
  refine Gl.getF Y39j_2 (host := "") (Or.inl (tw_14 hw)) Via.refl f2 dJ_6 rfl (fun T6_3 Y6_3 => ?_)
  refine Gl.arraylength Y6_3 A30_2 dJ_9 rfl ?_
  refine Gl.icmpge Y6_3 dJ_10 (by decide) rfl rfl (fun c10_3 => ?_) (fun c10_3 => ?_)
  · exact absurd c10_3 (by decide)
  refine Gl.aloadN Y6_3 rfl rfl dJ_13 rfl ?_
  refine Gl.getF Y6_3 (host := "") (Or.inl (tw_14 hw)) Via.refl f2 dJ_14 rfl (fun T14_3 Y14_3 => ?_)
  refine Gl.iloadN Y14_3 rfl dJ_17 rfl ?_
  refine Gl.aloadN Y14_3 rfl rfl dJ_18 rfl ?_
  refine Gl.getF Y14_3 (host := "") (Or.inl (tw_14 hw)) Via.refl f2 dJ_19 rfl (fun T19_3 Y19_3 => ?_)
  refine Gl.iloadN Y19_3 rfl dJ_22 rfl ?_
  refine Gl.laload Y19_3 A30_2 ⟨by decide, by decide⟩ (v := (.long x2)) rfl dJ_23 rfl ?_
  refine Gl.ldcJ Y19_3 (tw_51 hw) dJ_24 rfl ?_
  refine Gl.lxor Y19_3 rfl dJ_27 rfl ?_
  refine Gl.lloadN Y19_3 rfl dJ_28 rfl ?_
  refine Gl.ladd Y19_3 rfl dJ_29 rfl ?_
  refine Gl.lastore Y19_3 A30_2 (v := (.long ((x2 ^^^ (-1 : Int64)) + (((1 : Int64) &&& z39) &&& z39_2)))) rfl ⟨by decide, by decide⟩ (ix := 2) rfl (Nat.le_of_ble_eq_true rfl) g_o dJ_30 rfl (fun T30_3 h30_3 Y30_3 W30_3 A30_3 => ?_)
  have A30_3 : Arv Z h30_3 wo ko .long (3 : Int32) [(.long ((x0 ^^^ (-1 : Int64)) + (1 : Int64))), (.long ((x1 ^^^ (-1 : Int64)) + ((1 : Int64) &&& z39))), (.long ((x2 ^^^ (-1 : Int64)) + (((1 : Int64) &&& z39) &&& z39_2)))] (.long 0) := A30_3
  have K30_3 : Keep h0 h30_3 [wo] := K30_2.wr W30_3 (Or.inl (List.mem_of_getElem? (i := 0) rfl))
  show Gl p e below _ (T30_3.setTop (mkF m 31 _ []))
  refine Gl.lloadN Y30_3 rfl dJ_31 rfl ?_
  refine Gl.aloadN Y30_3 rfl rfl dJ_32 rfl ?_
  have f3 := (Fld.other W30_3 f2 (Or.inl nn_o))
  refine Gl.getF Y30_3 (host := "") (Or.inl (tw_14 hw)) Via.refl f3 dJ_33 rfl (fun T33_3 Y33_3 => ?_)
  refine Gl.iloadN Y33_3 rfl dJ_36 rfl ?_
  refine Gl.laload Y33_3 A30_3 ⟨by decide, by decide⟩ (v := (.long ((x2 ^^^ (-1 : Int64)) + (((1 : Int64) &&& z39) &&& z39_2)))) rfl dJ_37 rfl ?_
  refine Gl.lconst Y33_3 (v := (0 : Int64)) (by decide) dJ_38 rfl ?_
  obtain ⟨z39_3, hz39_3⟩ : ∃ z : Int64, (if ((x2 ^^^ (-1 : Int64)) + (((1 : Int64) &&& z39) &&& z39_2)) = (0 : Int64) then (1 : Int64) else (0 : Int64)) = z := ⟨_, rfl⟩
  refine own_cut (B := ∀ T', Sd Z "com/example/meterwise/meterwise/model/WholeNumber" prog_137_method_19_code 4 (some (.object "com/example/meterwise/meterwise/model/WholeNumber")) n0 p l e R38 s m #[(.ref o)] below meth c T' h30_3 0 0 → Gl p e below (Pst s n0 R38.cells R38.slots (Q38 Z o wo ko x0 x1 x2 h0)) (T'.setTop (mkF m 48 #[.val (.ref o), .val (.long (((1 : Int64) &&& z39) &&& z39_2)), .second, .val (.int 2)] [(.long z39_3), (.long (((1 : Int64) &&& z39) &&& z39_2))]))) (fun jk => ?_) (fun T39j_3 Y39j_3 => ?_)
  · refine Gl.lcmpne Y33_3 dJ_39 rfl dJ_40 (by decide) rfl rfl (fun c40 => ?_) (fun c40 => ?_)
    · refine Gl.lconst Y33_3 (v := (0 : Int64)) (by decide) dJ_47 rfl ?_
      have ez39_3 : z39_3 = (0 : Int64) := by rw [← hz39_3]; simp only [c40, ↓reduceIte, if_true, if_false]
      rw [ez39_3] at jk
      exact jk T33_3 Y33_3
    · refine Gl.lconst Y33_3 (v := (1 : Int64)) (by decide) dJ_43 rfl ?_
      refine Gl.goto Y33_3 dJ_44 (by decide) rfl ?_
      have ez39_3 : z39_3 = (1 : Int64) := by rw [← hz39_3]; simp only [c40, ↓reduceIte, if_true, if_false]
      rw [ez39_3] at jk
      exact jk T33_3 Y33_3
  refine Gl.land Y39j_3 rfl dJ_48 rfl ?_
  refine Gl.lstoreN Y39j_3 (L' := #[.val (.ref o), .val (.long ((((1 : Int64) &&& z39) &&& z39_2) &&& z39_3)), .second, .val (.int 2)]) rfl dJ_49 rfl ?_
  refine Gl.iinc Y39j_3 rfl (r := (3 : Int32)) (by decide) (L' := #[.val (.ref o), .val (.long ((((1 : Int64) &&& z39) &&& z39_2) &&& z39_3)), .second, .val (.int 3)]) rfl dJ_50 rfl ?_
  refine Gl.goto Y39j_3 dJ_53 (by decide) rfl ?_
  refine Gl.iloadN Y39j_3 rfl dJ_4 rfl ?_
  refine Gl.aloadN Y39j_3 rfl rfl dJ_5 rfl ?_
  refine Gl.getF Y39j_3 (host := "") (Or.inl (tw_14 hw)) Via.refl f3 dJ_6 rfl (fun T6_4 Y6_4 => ?_)
  refine Gl.arraylength Y6_4 A30_3 dJ_9 rfl ?_
  refine Gl.icmpge Y6_4 dJ_10 (by decide) rfl rfl (fun c10_4 => ?_) (fun c10_4 => ?_)
  rotate_left
  · exact absurd c10_4 (by decide)
  refine Gl.aloadN Y6_4 rfl rfl dJ_56 rfl ?_
  subst hz39 hz39_2 hz39_3
  exact Gl.retA Y6_4 (by decide) (by decide) rfl rfl dJ_57 ⟨rfl, K30_3, A30_3⟩
def R39 : Room := { frames := 0, cells := 0, slots := 0, locals := 0 }
def Q39 (Z : State) (h0 : Heap) (v : Option Value) (h : Heap) : Prop := v = some (.int 3) ∧ h0 = h
theorem ef39 (m : MethodId) : entryFrame m #[(.int 3), (.int 3)] 2 = mkF m 0 #[.val (.int 3), .val (.int 3)] [] := by first | (simp [entryFrame, mkF, argsToLocals, Value.category]; done) | rfl
theorem rm39 (l : Launch) (Z : State) (a0 : Array Value) (hw : HW a0 Z) (ws : List Jvm.Cond) (h0 : Heap) (n0 : Nat) (Z0 : n0 ≤ h0.size) : OMet l Z ws (⟨"java/lang/Math", "max", "(II)I"⟩ : MethodName) jdk_29_method_65_code 2 (some .int) R39 #[(.int 3), (.int 3)] h0 n0 (Q39 Z h0) := by
  refine OMet.of (own := "java/lang/Math") rfl (Jvm.Free.JP.mathPlain rfl (by decide +kernel)) (ef39) Z0 ?_
  intro p e s m below meth c T0 Y0 hnm
  refine Gl.iloadN Y0 rfl dK_0 rfl ?_
  refine Gl.iloadN Y0 rfl dK_1 rfl ?_
  refine Gl.icmplt Y0 dK_2 (by decide) rfl rfl (fun c2 => ?_) (fun c2 => ?_)
  · exact absurd c2 (by decide)
  refine Gl.iloadN Y0 rfl dK_5 rfl ?_
  refine Gl.goto Y0 dK_6 (by decide) rfl ?_
  exact Gl.retI Y0 (by decide) (by decide)  dK_10 ⟨rfl, rfl⟩
def R40 : Room := { frames := 1, cells := 0, slots := 0, locals := 16 }
def Q40 (Z : State) (o : Addr) (wo : Addr) (ko : ClassId) (x0 : Int64) (x1 : Int64) (x2 : Int64) (h0 : Heap) (v : Option Value) (h : Heap) : Prop := v = some (.ref o) ∧ Keep h0 h [wo] ∧ Arv Z h wo ko .long (3 : Int32) [(.long 0), (.long 0), (.long (-9223372036854775808))] (.long 0)
theorem ef40 (o : Addr) (m : MethodId) : entryFrame m #[(.ref o)] 1 = mkF m 0 #[.val (.ref o)] [] := by first | (simp [entryFrame, mkF, argsToLocals, Value.category]; done) | rfl
theorem rm40 (l : Launch) (Z : State) (a0 : Array Value) (hw : HW a0 Z) (ws : List Jvm.Cond) (o : Addr) (wo : Addr) (ko : ClassId) (x0 : Int64) (x1 : Int64) (x2 : Int64) (h0 : Heap) (n0 : Nat) (Z0 : n0 ≤ h0.size) (E_o : Exa Z h0 o "com/example/meterwise/meterwise/model/WholeNumber") (F_o : Fld Z h0 o "com/example/meterwise/meterwise/model/WholeNumber" "words" "[J" (.ref wo)) (V_o : Arv Z h0 wo ko .long (3 : Int32) [(.long x0), (.long x1), (.long x2)] (.long 0)) (g_o : n0 ≤ wo) (nn_o : own_ne o wo) : OMet l Z ws (⟨"com/example/meterwise/meterwise/model/WholeNumber", "overflow", "()Lcom/example/meterwise/meterwise/model/WholeNumber;"⟩ : MethodName) prog_137_method_7_code 1 (some (.object "com/example/meterwise/meterwise/model/WholeNumber")) R40 #[(.ref o)] h0 n0 (Q40 Z o wo ko x0 x1 x2 h0) := by
  refine OMet.of (own := "com/example/meterwise/meterwise/model/WholeNumber") rfl (plainFor_of_name pn_0) (ef40 o) Z0 ?_
  intro p e s m below meth c T0 Y0 hnm
  refine Gl.aloadN Y0 rfl rfl dL_0 rfl ?_
  refine Gl.getF Y0 (host := "") (Or.inl (tw_14 hw)) Via.refl F_o dL_1 rfl (fun T1 Y1 => ?_)
  refine Gl.lconst Y1 (v := (0 : Int64)) (by decide) dL_4 rfl ?_
  refine Gl.callS Y1 (tw_72 hw) (tw_73 hw) (tw_23 hw) (tw_74 hw) (by decide) (rm31 l Z a0 hw [] wo ko x0 x1 x2 h0 n0 Y1.sz V_o g_o) (argsL := [(.ref wo), (.long 0)]) (rest := []) rfl rfl (lenOf pd_4 rfl) rfl (by decide) (Nat.le_of_ble_eq_true rfl) (by decide) (by decide) dL_5 rfl (fun v5 T5 h5 Y5 q5 => ?_)
  obtain ⟨rfl, K5, f5_0⟩ := q5
  have KK5 : Keep h0 h5 [wo] := (Keep.refl h0 [wo]).trans K5 (allS (Or.inl (List.mem_of_getElem? (i := 0) rfl)) all0)
  show Gl p e below _ (T5.setTop (mkF m 8 _ []))
  refine Gl.aloadN Y5 rfl rfl dL_8 rfl ?_
  have f1 := (F_o.keep K5 (ninS nn_o nin0))
  refine Gl.getF Y5 (host := "") (Or.inl (tw_14 hw)) Via.refl f1 dL_9 rfl (fun T9 Y9 => ?_)
  refine Gl.aloadN Y9 rfl rfl dL_12 rfl ?_
  refine Gl.getF Y9 (host := "") (Or.inl (tw_14 hw)) Via.refl f1 dL_13 rfl (fun T13 Y13 => ?_)
  refine Gl.arraylength Y13 f5_0 dL_16 rfl ?_
  refine Gl.iconst Y13 (v := (1 : Int32)) (by decide) dL_17 rfl ?_
  refine Gl.isub Y13 (r := (2 : Int32)) (by decide) dL_18 rfl ?_
  refine Gl.ldcJ Y13 (tw_46 hw) dL_19 rfl ?_
  refine Gl.lastore Y13 f5_0 (v := (.long (-9223372036854775808))) rfl ⟨by decide, by decide⟩ (ix := 2) rfl (Nat.le_of_ble_eq_true rfl) g_o dL_22 rfl (fun T22 h22 Y22 W22 A22 => ?_)
  have A22 : Arv Z h22 wo ko .long (3 : Int32) [(.long 0), (.long 0), (.long (-9223372036854775808))] (.long 0) := A22
  have K22 : Keep h0 h22 [wo] := KK5.wr W22 (Or.inl (List.mem_of_getElem? (i := 0) rfl))
  show Gl p e below _ (T22.setTop (mkF m 23 _ []))
  refine Gl.aloadN Y22 rfl rfl dL_23 rfl ?_
  exact Gl.retA Y22 (by decide) (by decide) rfl rfl dL_24 ⟨rfl, K22, A22⟩
def R41 : Room := { frames := 2, cells := 0, slots := 0, locals := 25 }
def Q41 (Z : State) (o : Addr) (wo : Addr) (ko : ClassId) (x0 : Int64) (sx : Int64) (u : Addr) (wu : Addr) (ku : ClassId) (y0 : Int64) (sy : Int64) (h0 : Heap) (v : Option Value) (h : Heap) : Prop := ∃ e0 : Int64, ∃ e1 : Int64, v = some (.ref o) ∧ (x0.toInt + y0.toInt = e1.toInt * 18446744073709551616 + e0.toInt % 18446744073709551616 ∧ (e1.toInt = 0 ∨ e1.toInt = -1)) ∧ Keep h0 h [wo] ∧ Arv Z h wo ko .long (3 : Int32) [(.long e0), (.long e1), (.long e1)] (.long 0)
theorem ef41 (o : Addr) (u : Addr) (m : MethodId) : entryFrame m #[(.ref o), (.ref u), (.int 0)] 21 = mkF m 0 #[.val (.ref o), .val (.ref u), .val (.int 0), .unset, .unset, .unset, .unset, .unset, .unset, .unset, .unset, .unset, .unset, .unset, .unset, .unset, .unset, .unset, .unset, .unset, .unset] [] := by first | (simp [entryFrame, mkF, argsToLocals, Value.category]; done) | rfl
theorem rm41 (l : Launch) (Z : State) (a0 : Array Value) (hw : HW a0 Z) (ws : List Jvm.Cond) (o : Addr) (wo : Addr) (ko : ClassId) (x0 : Int64) (sx : Int64) (u : Addr) (wu : Addr) (ku : ClassId) (y0 : Int64) (sy : Int64) (h0 : Heap) (n0 : Nat) (Z0 : n0 ≤ h0.size) (E_o : Exa Z h0 o "com/example/meterwise/meterwise/model/WholeNumber") (F_o : Fld Z h0 o "com/example/meterwise/meterwise/model/WholeNumber" "words" "[J" (.ref wo)) (V_o : Arv Z h0 wo ko .long (3 : Int32) [(.long x0), (.long sx), (.long sx)] (.long 0)) (g_o : n0 ≤ wo) (nn_o : own_ne o wo) (E_u : Exa Z h0 u "com/example/meterwise/meterwise/model/WholeNumber") (F_u : Fld Z h0 u "com/example/meterwise/meterwise/model/WholeNumber" "words" "[J" (.ref wu)) (V_u : Arv Z h0 wu ku .long (3 : Int32) [(.long y0), (.long sy), (.long sy)] (.long 0)) (nw : own_ne wo wu) (np : own_ne u wo) (hsx : x0 >>> ((63 : Int32) &&& 0x3f).toInt64 = sx) (hsy : y0 >>> ((63 : Int32) &&& 0x3f).toInt64 = sy) : OMet l Z ws (⟨"com/example/meterwise/meterwise/model/WholeNumber", "add", "(Lcom/example/meterwise/meterwise/model/WholeNumber;Z)Lcom/example/meterwise/meterwise/model/WholeNumber;"⟩ : MethodName) prog_137_method_14_code 21 (some (.object "com/example/meterwise/meterwise/model/WholeNumber")) R41 #[(.ref o), (.ref u), (.int 0)] h0 n0 (Q41 Z o wo ko x0 sx u wu ku y0 sy h0) := by
  refine OMet.of (own := "com/example/meterwise/meterwise/model/WholeNumber") rfl (plainFor_of_name pn_0) (ef41 o u) Z0 ?_
  intro p e s m below meth c T0 Y0 hnm
  refine Gl.aloadN Y0 rfl rfl dM_0 rfl ?_
  refine Gl.callV Y0 (tw_37 hw) (tw_38 hw) (tw_40 hw) (tw_40 hw) (tw_39 hw) (tw_2 hw) (tw_41 hw) (by decide) E_o (rm36 l Z a0 hw [] o wo ko x0 sx sx h0 n0 Y0.sz E_o F_o V_o) (a := o) (argsL := []) (rest := []) rfl rfl (lenOf pd_3 rfl) rfl (by decide) (Nat.le_of_ble_eq_true rfl) (by decide) (by decide) dM_1 rfl (fun v1 T1 h1 Y1 q1 => ?_)
  obtain ⟨r1, rfl, p1, rfl⟩ := q1
  have br1 : r1 = 0 ∨ r1 = 1 := by rcases p1 with q | q; exact Or.inr (Int32.toInt_inj.mp q.2); exact Or.inl (Int32.toInt_inj.mp q.2)
  show Gl p e below _ (T1.setTop (mkF m 4 _ [(.int r1)]))
  refine Gl.ifne Y1 dM_4 (by decide) rfl rfl (fun c4 => ?_) (fun c4 => ?_)
  · exfalso
    rcases p1 with z | z
    · have := own_sx01 hsx; omega
    · exact c4 (Int32.toInt_inj.mp z.2)
  refine Gl.aloadN Y1 rfl rfl dM_7 rfl ?_
  refine Gl.callV Y1 (tw_37 hw) (tw_38 hw) (tw_40 hw) (tw_40 hw) (tw_39 hw) (tw_2 hw) (tw_41 hw) (by decide) E_u (rm36 l Z a0 hw [] u wu ku y0 sy sy h0 n0 Y1.sz E_u F_u V_u) (a := u) (argsL := []) (rest := []) rfl rfl (lenOf pd_3 rfl) rfl (by decide) (Nat.le_of_ble_eq_true rfl) (by decide) (by decide) dM_8 rfl (fun v8 T8 h8 Y8 q8 => ?_)
  obtain ⟨r8, rfl, p8, rfl⟩ := q8
  have br8 : r8 = 0 ∨ r8 = 1 := by rcases p8 with q | q; exact Or.inr (Int32.toInt_inj.mp q.2); exact Or.inl (Int32.toInt_inj.mp q.2)
  show Gl p e below _ (T8.setTop (mkF m 11 _ [(.int r8)]))
  refine Gl.ifeq Y8 dM_11 (by decide) rfl rfl (fun c11 => ?_) (fun c11 => ?_)
  rotate_left
  · exfalso
    rcases p8 with z | z
    · have := own_sx01 hsy; omega
    · exact c11 (Int32.toInt_inj.mp z.2)
  refine Gl.aloadN Y8 rfl rfl dM_19 rfl ?_
  refine Gl.getF Y8 (host := "") (Or.inl (tw_14 hw)) Via.refl F_u dM_20 rfl (fun T20 Y20 => ?_)
  refine Gl.astoreN Y20 rfl (L' := #[.val (.ref o), .val (.ref u), .val (.int 0), .val (.ref wu), .unset, .unset, .unset, .unset, .unset, .unset, .unset, .unset, .unset, .unset, .unset, .unset, .unset, .unset, .unset, .unset, .unset]) rfl dM_23 rfl ?_
  refine Gl.aloadN Y20 rfl rfl dM_24 rfl ?_
  refine Gl.getF Y20 (host := "") (Or.inl (tw_14 hw)) Via.refl F_o dM_25 rfl (fun T25 Y25 => ?_)
  refine Gl.arraylength Y25 V_o dM_28 rfl ?_
  refine Gl.aloadN Y25 rfl rfl dM_29 rfl ?_
  refine Gl.arraylength Y25 V_u dM_30 rfl ?_
  refine Gl.callS Y25 (tw_47 hw) (tw_48 hw) (tw_49 hw) (tw_50 hw) (by decide) (rm39 l Z a0 hw [] h0 n0 Y25.sz) (argsL := [(.int 3), (.int 3)]) (rest := []) rfl rfl (lenOf pd_6 rfl) rfl (by decide) (Nat.le_of_ble_eq_true rfl) (by decide) (by decide) dM_31 rfl (fun v31 T31 h31 Y31 q31 => ?_)
  obtain ⟨rfl, rfl⟩ := q31
  show Gl p e below _ (T31.setTop (mkF m 34 _ [(.int 3)]))
  refine Gl.istore Y31 (L' := #[.val (.ref o), .val (.ref u), .val (.int 0), .val (.ref wu), .val (.int 3), .unset, .unset, .unset, .unset, .unset, .unset, .unset, .unset, .unset, .unset, .unset, .unset, .unset, .unset, .unset, .unset]) rfl dM_34 rfl ?_
  refine Gl.aloadN Y31 rfl rfl dM_36 rfl ?_
  refine Gl.callP Y31 (tw_42 hw) (tw_43 hw) (tw_44 hw) (tw_1 hw) (tw_2 hw) (tw_45 hw) (by decide) E_o (rm30 l Z a0 hw [] o wo ko x0 sx sx h0 n0 Y31.sz E_o F_o V_o) (a := o) (argsL := []) (rest := []) rfl rfl (lenOf pd_2 rfl) rfl (by decide) (Nat.le_of_ble_eq_true rfl) (by decide) (by decide) dM_37 rfl (fun v37 T37 h37 Y37 q37 => ?_)
  obtain ⟨rfl, rfl⟩ := q37
  show Gl p e below _ (T37.setTop (mkF m 40 _ [(.long sx)]))
  refine Gl.bipush Y37 (v := (63 : Int32)) (by decide) dM_40 rfl ?_
  obtain ⟨v42, hv42⟩ : ∃ z : Int64, (sx >>> ((63 : Int32) &&& 0x3f).toInt64) = z := ⟨_, rfl⟩
  refine Gl.lshr Y37 hv42 dM_42 rfl ?_
  refine Gl.lstore Y37 (L' := #[.val (.ref o), .val (.ref u), .val (.int 0), .val (.ref wu), .val (.int 3), .val (.long v42), .second, .unset, .unset, .unset, .unset, .unset, .unset, .unset, .unset, .unset, .unset, .unset, .unset, .unset, .unset]) rfl dM_43 rfl ?_
  refine Gl.aloadN Y37 rfl rfl dM_45 rfl ?_
  refine Gl.aloadN Y37 rfl rfl dM_46 rfl ?_
  refine Gl.arraylength Y37 V_u dM_47 rfl ?_
  refine Gl.iconst Y37 (v := (1 : Int32)) (by decide) dM_48 rfl ?_
  refine Gl.isub Y37 (r := (2 : Int32)) (by decide) dM_49 rfl ?_
  refine Gl.laload Y37 V_u ⟨by decide, by decide⟩ (v := (.long sy)) rfl dM_50 rfl ?_
  refine Gl.bipush Y37 (v := (63 : Int32)) (by decide) dM_51 rfl ?_
  obtain ⟨v53, hv53⟩ : ∃ z : Int64, (sy >>> ((63 : Int32) &&& 0x3f).toInt64) = z := ⟨_, rfl⟩
  refine Gl.lshr Y37 hv53 dM_53 rfl ?_
  refine Gl.lstore Y37 (L' := #[.val (.ref o), .val (.ref u), .val (.int 0), .val (.ref wu), .val (.int 3), .val (.long v42), .second, .val (.long v53), .second, .unset, .unset, .unset, .unset, .unset, .unset, .unset, .unset, .unset, .unset, .unset, .unset]) rfl dM_54 rfl ?_
  refine Gl.iloadN Y37 rfl dM_56 rfl ?_
  refine Gl.ifeq Y37 dM_57 (by decide) rfl rfl (fun c57 => ?_) (fun c57 => ?_)
  rotate_left
  · exact absurd c57 (by decide)
  refine Gl.lconst Y37 (v := (0 : Int64)) (by decide) dM_66 rfl ?_
  refine Gl.lstore Y37 (L' := #[.val (.ref o), .val (.ref u), .val (.int 0), .val (.ref wu), .val (.int 3), .val (.long v42), .second, .val (.long v53), .second, .val (.long 0), .second, .unset, .unset, .unset, .unset, .unset, .unset, .unset, .unset, .unset, .unset]) rfl dM_67 rfl ?_
  refine Gl.iloadN Y37 rfl dM_69 rfl ?_
  refine Gl.ifeq Y37 dM_70 (by decide) rfl rfl (fun c70 => ?_) (fun c70 => ?_)
  rotate_left
  · exact absurd c70 (by decide)
  refine Gl.lconst Y37 (v := (0 : Int64)) (by decide) dM_77 rfl ?_
  refine Gl.lstore Y37 (L' := #[.val (.ref o), .val (.ref u), .val (.int 0), .val (.ref wu), .val (.int 3), .val (.long v42), .second, .val (.long v53), .second, .val (.long 0), .second, .val (.long 0), .second, .unset, .unset, .unset, .unset, .unset, .unset, .unset, .unset]) rfl dM_78 rfl ?_
  refine Gl.lconst Y37 (v := (0 : Int64)) (by decide) dM_80 rfl ?_
  refine Gl.lstore Y37 (L' := #[.val (.ref o), .val (.ref u), .val (.int 0), .val (.ref wu), .val (.int 3), .val (.long v42), .second, .val (.long v53), .second, .val (.long 0), .second, .val (.long 0), .second, .val (.long 0), .second, .unset, .unset, .unset, .unset, .unset, .unset]) rfl dM_81 rfl ?_
  refine Gl.lconst Y37 (v := (0 : Int64)) (by decide) dM_83 rfl ?_
  refine Gl.lstore Y37 (L' := #[.val (.ref o), .val (.ref u), .val (.int 0), .val (.ref wu), .val (.int 3), .val (.long v42), .second, .val (.long v53), .second, .val (.long 0), .second, .val (.long 0), .second, .val (.long 0), .second, .val (.long 0), .second, .unset, .unset, .unset, .unset]) rfl dM_84 rfl ?_
  refine Gl.lconst Y37 (v := (0 : Int64)) (by decide) dM_86 rfl ?_
  refine Gl.lstore Y37 (L' := #[.val (.ref o), .val (.ref u), .val (.int 0), .val (.ref wu), .val (.int 3), .val (.long v42), .second, .val (.long v53), .second, .val (.long 0), .second, .val (.long 0), .second, .val (.long 0), .second, .val (.long 0), .second, .val (.long 0), .second, .unset, .unset]) rfl dM_87 rfl ?_
  refine Gl.iconst Y37 (v := (1 : Int32)) (by decide) dM_89 rfl ?_
  refine Gl.istore Y37 (L' := #[.val (.ref o), .val (.ref u), .val (.int 0), .val (.ref wu), .val (.int 3), .val (.long v42), .second, .val (.long v53), .second, .val (.long 0), .second, .val (.long 0), .second, .val (.long 0), .second, .val (.long 0), .second, .val (.long 0), .second, .val (.int 1), .unset]) rfl dM_90 rfl ?_
  refine Gl.iconst Y37 (v := (0 : Int32)) (by decide) dM_92 rfl ?_
  refine Gl.istore Y37 (L' := #[.val (.ref o), .val (.ref u), .val (.int 0), .val (.ref wu), .val (.int 3), .val (.long v42), .second, .val (.long v53), .second, .val (.long 0), .second, .val (.long 0), .second, .val (.long 0), .second, .val (.long 0), .second, .val (.long 0), .second, .val (.int 1), .val (.int 0)]) rfl dM_93 rfl ?_
  refine Gl.iload Y37 rfl dM_95 rfl ?_
  refine Gl.iload Y37 rfl dM_97 rfl ?_
  refine Gl.icmpge Y37 dM_99 (by decide) rfl rfl (fun c99 => ?_) (fun c99 => ?_)
  · exact absurd c99 (by decide)
  refine Gl.iload Y37 rfl dM_102 rfl ?_
  refine Gl.aloadN Y37 rfl rfl dM_104 rfl ?_
  refine Gl.getF Y37 (host := "") (Or.inl (tw_14 hw)) Via.refl F_o dM_105 rfl (fun T105 Y105 => ?_)
  refine Gl.arraylength Y105 V_o dM_108 rfl ?_
  refine Gl.icmpge Y105 dM_109 (by decide) rfl rfl (fun c109 => ?_) (fun c109 => ?_)
  · exact absurd c109 (by decide)
  refine Gl.aloadN Y105 rfl rfl dM_112 rfl ?_
  refine Gl.getF Y105 (host := "") (Or.inl (tw_14 hw)) Via.refl F_o dM_113 rfl (fun T113 Y113 => ?_)
  refine Gl.iload Y113 rfl dM_116 rfl ?_
  refine Gl.laload Y113 V_o ⟨by decide, by decide⟩ (v := (.long x0)) rfl dM_118 rfl ?_
  refine Gl.goto Y113 dM_119 (by decide) rfl ?_
  refine Gl.lstore Y113 (L' := #[.val (.ref o), .val (.ref u), .val (.int 0), .val (.ref wu), .val (.int 3), .val (.long v42), .second, .val (.long v53), .second, .val (.long 0), .second, .val (.long 0), .second, .val (.long x0), .second, .val (.long 0), .second, .val (.long 0), .second, .val (.int 1), .val (.int 0)]) rfl dM_124 rfl ?_
  refine Gl.iload Y113 rfl dM_126 rfl ?_
  refine Gl.aloadN Y113 rfl rfl dM_128 rfl ?_
  refine Gl.arraylength Y113 V_u dM_129 rfl ?_
  refine Gl.icmpge Y113 dM_130 (by decide) rfl rfl (fun c130 => ?_) (fun c130 => ?_)
  · exact absurd c130 (by decide)
  refine Gl.aloadN Y113 rfl rfl dM_133 rfl ?_
  refine Gl.iload Y113 rfl dM_134 rfl ?_
  refine Gl.laload Y113 V_u ⟨by decide, by decide⟩ (v := (.long y0)) rfl dM_136 rfl ?_
  refine Gl.goto Y113 dM_137 (by decide) rfl ?_
  refine Gl.lload Y113 rfl dM_142 rfl ?_
  obtain ⟨v144, hv144⟩ : ∃ z : Int64, y0 ^^^ (0 : Int64) = z := ⟨_, rfl⟩
  refine Gl.lxor Y113 hv144 dM_144 rfl ?_
  obtain rfl : y0 = v144 := Eq.symm (by rw [← hv144]; exact Int64.xor_zero)
  refine Gl.lstore Y113 (L' := #[.val (.ref o), .val (.ref u), .val (.int 0), .val (.ref wu), .val (.int 3), .val (.long v42), .second, .val (.long v53), .second, .val (.long 0), .second, .val (.long 0), .second, .val (.long x0), .second, .val (.long y0), .second, .val (.long 0), .second, .val (.int 1), .val (.int 0)]) rfl dM_145 rfl ?_
  refine Gl.lload Y113 rfl dM_147 rfl ?_
  refine Gl.lload Y113 rfl dM_149 rfl ?_
  obtain ⟨v151, hv151⟩ : ∃ z : Int64, x0 + y0 = z := ⟨_, rfl⟩
  refine Gl.ladd Y113 hv151 dM_151 rfl ?_
  refine Gl.lload Y113 rfl dM_152 rfl ?_
  obtain ⟨v154, hv154⟩ : ∃ z : Int64, v151 + (0 : Int64) = z := ⟨_, rfl⟩
  refine Gl.ladd Y113 hv154 dM_154 rfl ?_
  refine Gl.lstore Y113 (L' := #[.val (.ref o), .val (.ref u), .val (.int 0), .val (.ref wu), .val (.int 3), .val (.long v42), .second, .val (.long v53), .second, .val (.long 0), .second, .val (.long 0), .second, .val (.long x0), .second, .val (.long y0), .second, .val (.long v154), .second, .val (.int 1), .val (.int 0)]) rfl dM_155 rfl ?_
  refine Gl.lload Y113 rfl dM_157 rfl ?_
  refine Gl.lload Y113 rfl dM_159 rfl ?_
  obtain ⟨v161, hv161⟩ : ∃ z : Int64, x0 &&& y0 = z := ⟨_, rfl⟩
  refine Gl.land Y113 hv161 dM_161 rfl ?_
  refine Gl.lload Y113 rfl dM_162 rfl ?_
  refine Gl.lload Y113 rfl dM_164 rfl ?_
  obtain ⟨v166, hv166⟩ : ∃ z : Int64, x0 ||| y0 = z := ⟨_, rfl⟩
  refine Gl.lor Y113 hv166 dM_166 rfl ?_
  refine Gl.lload Y113 rfl dM_167 rfl ?_
  refine Gl.ldcJ Y113 (tw_51 hw) dM_169 rfl ?_
  obtain ⟨v172, hv172⟩ : ∃ z : Int64, v154 ^^^ (-1 : Int64) = z := ⟨_, rfl⟩
  refine Gl.lxor Y113 hv172 dM_172 rfl ?_
  obtain ⟨v173, hv173⟩ : ∃ z : Int64, v166 &&& v172 = z := ⟨_, rfl⟩
  refine Gl.land Y113 hv173 dM_173 rfl ?_
  obtain ⟨v174, hv174⟩ : ∃ z : Int64, v161 ||| v173 = z := ⟨_, rfl⟩
  refine Gl.lor Y113 hv174 dM_174 rfl ?_
  refine Gl.bipush Y113 (v := (63 : Int32)) (by decide) dM_175 rfl ?_
  obtain ⟨v177, hv177⟩ : ∃ z : Int64, (v174.toUInt64 >>> ((63 : Int32) &&& 0x3f).toInt64.toUInt64).toInt64 = z := ⟨_, rfl⟩
  refine Gl.lushr Y113 hv177 dM_177 rfl ?_
  have hcy : own_cy x0 y0 v154 = v177 := by rw [← hv177, ← hv174, ← hv173, ← hv172, ← hv166, ← hv161]; rfl
  refine Gl.lstore Y113 (L' := #[.val (.ref o), .val (.ref u), .val (.int 0), .val (.ref wu), .val (.int 3), .val (.long v42), .second, .val (.long v53), .second, .val (.long 0), .second, .val (.long v177), .second, .val (.long x0), .second, .val (.long y0), .second, .val (.long v154), .second, .val (.int 1), .val (.int 0)]) rfl dM_178 rfl ?_
  refine Gl.iload Y113 rfl dM_180 rfl ?_
  refine Gl.aloadN Y113 rfl rfl dM_182 rfl ?_
  refine Gl.getF Y113 (host := "") (Or.inl (tw_14 hw)) Via.refl F_o dM_183 rfl (fun T183 Y183 => ?_)
  refine Gl.arraylength Y183 V_o dM_186 rfl ?_
  refine Gl.icmpge Y183 dM_187 (by decide) rfl rfl (fun c187 => ?_) (fun c187 => ?_)
  · exact absurd c187 (by decide)
  refine Gl.aloadN Y183 rfl rfl dM_190 rfl ?_
  refine Gl.getF Y183 (host := "") (Or.inl (tw_14 hw)) Via.refl F_o dM_191 rfl (fun T191 Y191 => ?_)
  refine Gl.iload Y191 rfl dM_194 rfl ?_
  refine Gl.lload Y191 rfl dM_196 rfl ?_
  refine Gl.lastore Y191 V_o (v := (.long v154)) rfl ⟨by decide, by decide⟩ (ix := 0) rfl (Nat.le_of_ble_eq_true rfl) g_o dM_198 rfl (fun T198 h198 Y198 W198 A198 => ?_)
  have A198 : Arv Z h198 wo ko .long (3 : Int32) [(.long v154), (.long sx), (.long sx)] (.long 0) := A198
  have K198 : Keep h0 h198 [wo] := (Keep.refl h0 [wo]).wr W198 (Or.inl (List.mem_of_getElem? (i := 0) rfl))
  show Gl p e below _ (T198.setTop (mkF m 199 _ []))
  refine Gl.goto Y198 dM_199 (by decide) rfl ?_
  refine Gl.iinc Y198 rfl (r := (1 : Int32)) (by decide) (L' := #[.val (.ref o), .val (.ref u), .val (.int 0), .val (.ref wu), .val (.int 3), .val (.long v42), .second, .val (.long v53), .second, .val (.long 0), .second, .val (.long v177), .second, .val (.long x0), .second, .val (.long y0), .second, .val (.long v154), .second, .val (.int 1), .val (.int 1)]) rfl dM_225 rfl ?_
  refine Gl.goto Y198 dM_228 (by decide) rfl ?_
  refine Gl.iload Y198 rfl dM_95 rfl ?_
  refine Gl.iload Y198 rfl dM_97 rfl ?_
  refine Gl.icmpge Y198 dM_99 (by decide) rfl rfl (fun c99_2 => ?_) (fun c99_2 => ?_)
  · exact absurd c99_2 (by decide)
  refine Gl.iload Y198 rfl dM_102 rfl ?_
  refine Gl.aloadN Y198 rfl rfl dM_104 rfl ?_
  have f1 := (Fld.other W198 F_o (Or.inl nn_o))
  refine Gl.getF Y198 (host := "") (Or.inl (tw_14 hw)) Via.refl f1 dM_105 rfl (fun T105_2 Y105_2 => ?_)
  refine Gl.arraylength Y105_2 A198 dM_108 rfl ?_
  refine Gl.icmpge Y105_2 dM_109 (by decide) rfl rfl (fun c109_2 => ?_) (fun c109_2 => ?_)
  · exact absurd c109_2 (by decide)
  refine Gl.aloadN Y105_2 rfl rfl dM_112 rfl ?_
  refine Gl.getF Y105_2 (host := "") (Or.inl (tw_14 hw)) Via.refl f1 dM_113 rfl (fun T113_2 Y113_2 => ?_)
  refine Gl.iload Y113_2 rfl dM_116 rfl ?_
  refine Gl.laload Y113_2 A198 ⟨by decide, by decide⟩ (v := (.long sx)) rfl dM_118 rfl ?_
  refine Gl.goto Y113_2 dM_119 (by decide) rfl ?_
  refine Gl.lstore Y113_2 (L' := #[.val (.ref o), .val (.ref u), .val (.int 0), .val (.ref wu), .val (.int 3), .val (.long v42), .second, .val (.long v53), .second, .val (.long 0), .second, .val (.long v177), .second, .val (.long sx), .second, .val (.long y0), .second, .val (.long v154), .second, .val (.int 1), .val (.int 1)]) rfl dM_124 rfl ?_
  refine Gl.iload Y113_2 rfl dM_126 rfl ?_
  refine Gl.aloadN Y113_2 rfl rfl dM_128 rfl ?_
  have f2 := (V_u.other W198 (Ne.symm nw))
  refine Gl.arraylength Y113_2 f2 dM_129 rfl ?_
  refine Gl.icmpge Y113_2 dM_130 (by decide) rfl rfl (fun c130_2 => ?_) (fun c130_2 => ?_)
  · exact absurd c130_2 (by decide)
  refine Gl.aloadN Y113_2 rfl rfl dM_133 rfl ?_
  refine Gl.iload Y113_2 rfl dM_134 rfl ?_
  refine Gl.laload Y113_2 f2 ⟨by decide, by decide⟩ (v := (.long sy)) rfl dM_136 rfl ?_
  refine Gl.goto Y113_2 dM_137 (by decide) rfl ?_
  refine Gl.lload Y113_2 rfl dM_142 rfl ?_
  obtain ⟨v144_2, hv144_2⟩ : ∃ z : Int64, sy ^^^ (0 : Int64) = z := ⟨_, rfl⟩
  refine Gl.lxor Y113_2 hv144_2 dM_144 rfl ?_
  obtain rfl : sy = v144_2 := Eq.symm (by rw [← hv144_2]; exact Int64.xor_zero)
  refine Gl.lstore Y113_2 (L' := #[.val (.ref o), .val (.ref u), .val (.int 0), .val (.ref wu), .val (.int 3), .val (.long v42), .second, .val (.long v53), .second, .val (.long 0), .second, .val (.long v177), .second, .val (.long sx), .second, .val (.long sy), .second, .val (.long v154), .second, .val (.int 1), .val (.int 1)]) rfl dM_145 rfl ?_
  refine Gl.lload Y113_2 rfl dM_147 rfl ?_
  refine Gl.lload Y113_2 rfl dM_149 rfl ?_
  obtain ⟨v151_2, hv151_2⟩ : ∃ z : Int64, sx + sy = z := ⟨_, rfl⟩
  refine Gl.ladd Y113_2 hv151_2 dM_151 rfl ?_
  refine Gl.lload Y113_2 rfl dM_152 rfl ?_
  obtain ⟨v154_2, hv154_2⟩ : ∃ z : Int64, v151_2 + v177 = z := ⟨_, rfl⟩
  refine Gl.ladd Y113_2 hv154_2 dM_154 rfl ?_
  refine Gl.lstore Y113_2 (L' := #[.val (.ref o), .val (.ref u), .val (.int 0), .val (.ref wu), .val (.int 3), .val (.long v42), .second, .val (.long v53), .second, .val (.long 0), .second, .val (.long v177), .second, .val (.long sx), .second, .val (.long sy), .second, .val (.long v154_2), .second, .val (.int 1), .val (.int 1)]) rfl dM_155 rfl ?_
  refine Gl.lload Y113_2 rfl dM_157 rfl ?_
  refine Gl.lload Y113_2 rfl dM_159 rfl ?_
  obtain ⟨v161_2, hv161_2⟩ : ∃ z : Int64, sx &&& sy = z := ⟨_, rfl⟩
  refine Gl.land Y113_2 hv161_2 dM_161 rfl ?_
  refine Gl.lload Y113_2 rfl dM_162 rfl ?_
  refine Gl.lload Y113_2 rfl dM_164 rfl ?_
  obtain ⟨v166_2, hv166_2⟩ : ∃ z : Int64, sx ||| sy = z := ⟨_, rfl⟩
  refine Gl.lor Y113_2 hv166_2 dM_166 rfl ?_
  refine Gl.lload Y113_2 rfl dM_167 rfl ?_
  refine Gl.ldcJ Y113_2 (tw_51 hw) dM_169 rfl ?_
  obtain ⟨v172_2, hv172_2⟩ : ∃ z : Int64, v154_2 ^^^ (-1 : Int64) = z := ⟨_, rfl⟩
  refine Gl.lxor Y113_2 hv172_2 dM_172 rfl ?_
  obtain ⟨v173_2, hv173_2⟩ : ∃ z : Int64, v166_2 &&& v172_2 = z := ⟨_, rfl⟩
  refine Gl.land Y113_2 hv173_2 dM_173 rfl ?_
  obtain ⟨v174_2, hv174_2⟩ : ∃ z : Int64, v161_2 ||| v173_2 = z := ⟨_, rfl⟩
  refine Gl.lor Y113_2 hv174_2 dM_174 rfl ?_
  refine Gl.bipush Y113_2 (v := (63 : Int32)) (by decide) dM_175 rfl ?_
  obtain ⟨v177_2, hv177_2⟩ : ∃ z : Int64, (v174_2.toUInt64 >>> ((63 : Int32) &&& 0x3f).toInt64.toUInt64).toInt64 = z := ⟨_, rfl⟩
  refine Gl.lushr Y113_2 hv177_2 dM_177 rfl ?_
  have tt := own_T hsx hsy hv151 hv154 hcy hv151_2 hv154_2
  have zx : sx.toInt = 0 ∨ sx.toInt = -1 := by have := own_sx01 hsx; omega
  have zy : sy.toInt = 0 ∨ sy.toInt = -1 := by have := own_sx01 hsy; omega
  obtain rfl : v177 = v177_2 := Eq.symm (by rw [← hv177_2, ← hv174_2, ← hv173_2, ← hv172_2, ← hv166_2, ← hv161_2]; exact own_hi zx zy tt.2.2.2 tt.2.2.1 tt.2.1)
  refine Gl.lstore Y113_2 (L' := #[.val (.ref o), .val (.ref u), .val (.int 0), .val (.ref wu), .val (.int 3), .val (.long v42), .second, .val (.long v53), .second, .val (.long 0), .second, .val (.long v177), .second, .val (.long sx), .second, .val (.long sy), .second, .val (.long v154_2), .second, .val (.int 1), .val (.int 1)]) rfl dM_178 rfl ?_
  refine Gl.iload Y113_2 rfl dM_180 rfl ?_
  refine Gl.aloadN Y113_2 rfl rfl dM_182 rfl ?_
  refine Gl.getF Y113_2 (host := "") (Or.inl (tw_14 hw)) Via.refl f1 dM_183 rfl (fun T183_2 Y183_2 => ?_)
  refine Gl.arraylength Y183_2 A198 dM_186 rfl ?_
  refine Gl.icmpge Y183_2 dM_187 (by decide) rfl rfl (fun c187_2 => ?_) (fun c187_2 => ?_)
  · exact absurd c187_2 (by decide)
  refine Gl.aloadN Y183_2 rfl rfl dM_190 rfl ?_
  refine Gl.getF Y183_2 (host := "") (Or.inl (tw_14 hw)) Via.refl f1 dM_191 rfl (fun T191_2 Y191_2 => ?_)
  refine Gl.iload Y191_2 rfl dM_194 rfl ?_
  refine Gl.lload Y191_2 rfl dM_196 rfl ?_
  refine Gl.lastore Y191_2 A198 (v := (.long v154_2)) rfl ⟨by decide, by decide⟩ (ix := 1) rfl (Nat.le_of_ble_eq_true rfl) g_o dM_198 rfl (fun T198_2 h198_2 Y198_2 W198_2 A198_2 => ?_)
  have A198_2 : Arv Z h198_2 wo ko .long (3 : Int32) [(.long v154), (.long v154_2), (.long sx)] (.long 0) := A198_2
  have K198_2 : Keep h0 h198_2 [wo] := K198.wr W198_2 (Or.inl (List.mem_of_getElem? (i := 0) rfl))
  show Gl p e below _ (T198_2.setTop (mkF m 199 _ []))
  refine Gl.goto Y198_2 dM_199 (by decide) rfl ?_
  refine Gl.iinc Y198_2 rfl (r := (2 : Int32)) (by decide) (L' := #[.val (.ref o), .val (.ref u), .val (.int 0), .val (.ref wu), .val (.int 3), .val (.long v42), .second, .val (.long v53), .second, .val (.long 0), .second, .val (.long v177), .second, .val (.long sx), .second, .val (.long sy), .second, .val (.long v154_2), .second, .val (.int 1), .val (.int 2)]) rfl dM_225 rfl ?_
  refine Gl.goto Y198_2 dM_228 (by decide) rfl ?_
  refine Gl.iload Y198_2 rfl dM_95 rfl ?_
  refine Gl.iload Y198_2 rfl dM_97 rfl ?_
  refine Gl.icmpge Y198_2 dM_99 (by decide) rfl rfl (fun c99_3 => ?_) (fun c99_3 => ?_)
  · exact absurd c99_3 (by decide)
  refine Gl.iload Y198_2 rfl dM_102 rfl ?_
  refine Gl.aloadN Y198_2 rfl rfl dM_104 rfl ?_
  have f3 := (Fld.other W198_2 f1 (Or.inl nn_o))
  refine Gl.getF Y198_2 (host := "") (Or.inl (tw_14 hw)) Via.refl f3 dM_105 rfl (fun T105_3 Y105_3 => ?_)
  refine Gl.arraylength Y105_3 A198_2 dM_108 rfl ?_
  refine Gl.icmpge Y105_3 dM_109 (by decide) rfl rfl (fun c109_3 => ?_) (fun c109_3 => ?_)
  · exact absurd c109_3 (by decide)
  refine Gl.aloadN Y105_3 rfl rfl dM_112 rfl ?_
  refine Gl.getF Y105_3 (host := "") (Or.inl (tw_14 hw)) Via.refl f3 dM_113 rfl (fun T113_3 Y113_3 => ?_)
  refine Gl.iload Y113_3 rfl dM_116 rfl ?_
  refine Gl.laload Y113_3 A198_2 ⟨by decide, by decide⟩ (v := (.long sx)) rfl dM_118 rfl ?_
  refine Gl.goto Y113_3 dM_119 (by decide) rfl ?_
  refine Gl.lstore Y113_3 (L' := #[.val (.ref o), .val (.ref u), .val (.int 0), .val (.ref wu), .val (.int 3), .val (.long v42), .second, .val (.long v53), .second, .val (.long 0), .second, .val (.long v177), .second, .val (.long sx), .second, .val (.long sy), .second, .val (.long v154_2), .second, .val (.int 1), .val (.int 2)]) rfl dM_124 rfl ?_
  refine Gl.iload Y113_3 rfl dM_126 rfl ?_
  refine Gl.aloadN Y113_3 rfl rfl dM_128 rfl ?_
  have f4 := (f2.other W198_2 (Ne.symm nw))
  refine Gl.arraylength Y113_3 f4 dM_129 rfl ?_
  refine Gl.icmpge Y113_3 dM_130 (by decide) rfl rfl (fun c130_3 => ?_) (fun c130_3 => ?_)
  · exact absurd c130_3 (by decide)
  refine Gl.aloadN Y113_3 rfl rfl dM_133 rfl ?_
  refine Gl.iload Y113_3 rfl dM_134 rfl ?_
  refine Gl.laload Y113_3 f4 ⟨by decide, by decide⟩ (v := (.long sy)) rfl dM_136 rfl ?_
  refine Gl.goto Y113_3 dM_137 (by decide) rfl ?_
  refine Gl.lload Y113_3 rfl dM_142 rfl ?_
  refine Gl.lxor Y113_3 hv144_2 dM_144 rfl ?_
  refine Gl.lstore Y113_3 (L' := #[.val (.ref o), .val (.ref u), .val (.int 0), .val (.ref wu), .val (.int 3), .val (.long v42), .second, .val (.long v53), .second, .val (.long 0), .second, .val (.long v177), .second, .val (.long sx), .second, .val (.long sy), .second, .val (.long v154_2), .second, .val (.int 1), .val (.int 2)]) rfl dM_145 rfl ?_
  refine Gl.lload Y113_3 rfl dM_147 rfl ?_
  refine Gl.lload Y113_3 rfl dM_149 rfl ?_
  refine Gl.ladd Y113_3 hv151_2 dM_151 rfl ?_
  refine Gl.lload Y113_3 rfl dM_152 rfl ?_
  refine Gl.ladd Y113_3 hv154_2 dM_154 rfl ?_
  refine Gl.lstore Y113_3 (L' := #[.val (.ref o), .val (.ref u), .val (.int 0), .val (.ref wu), .val (.int 3), .val (.long v42), .second, .val (.long v53), .second, .val (.long 0), .second, .val (.long v177), .second, .val (.long sx), .second, .val (.long sy), .second, .val (.long v154_2), .second, .val (.int 1), .val (.int 2)]) rfl dM_155 rfl ?_
  refine Gl.lload Y113_3 rfl dM_157 rfl ?_
  refine Gl.lload Y113_3 rfl dM_159 rfl ?_
  refine Gl.land Y113_3 hv161_2 dM_161 rfl ?_
  refine Gl.lload Y113_3 rfl dM_162 rfl ?_
  refine Gl.lload Y113_3 rfl dM_164 rfl ?_
  refine Gl.lor Y113_3 hv166_2 dM_166 rfl ?_
  refine Gl.lload Y113_3 rfl dM_167 rfl ?_
  refine Gl.ldcJ Y113_3 (tw_51 hw) dM_169 rfl ?_
  refine Gl.lxor Y113_3 hv172_2 dM_172 rfl ?_
  refine Gl.land Y113_3 hv173_2 dM_173 rfl ?_
  refine Gl.lor Y113_3 hv174_2 dM_174 rfl ?_
  refine Gl.bipush Y113_3 (v := (63 : Int32)) (by decide) dM_175 rfl ?_
  refine Gl.lushr Y113_3 hv177_2 dM_177 rfl ?_
  refine Gl.lstore Y113_3 (L' := #[.val (.ref o), .val (.ref u), .val (.int 0), .val (.ref wu), .val (.int 3), .val (.long v42), .second, .val (.long v53), .second, .val (.long 0), .second, .val (.long v177), .second, .val (.long sx), .second, .val (.long sy), .second, .val (.long v154_2), .second, .val (.int 1), .val (.int 2)]) rfl dM_178 rfl ?_
  refine Gl.iload Y113_3 rfl dM_180 rfl ?_
  refine Gl.aloadN Y113_3 rfl rfl dM_182 rfl ?_
  refine Gl.getF Y113_3 (host := "") (Or.inl (tw_14 hw)) Via.refl f3 dM_183 rfl (fun T183_3 Y183_3 => ?_)
  refine Gl.arraylength Y183_3 A198_2 dM_186 rfl ?_
  refine Gl.icmpge Y183_3 dM_187 (by decide) rfl rfl (fun c187_3 => ?_) (fun c187_3 => ?_)
  · exact absurd c187_3 (by decide)
  refine Gl.aloadN Y183_3 rfl rfl dM_190 rfl ?_
  refine Gl.getF Y183_3 (host := "") (Or.inl (tw_14 hw)) Via.refl f3 dM_191 rfl (fun T191_3 Y191_3 => ?_)
  refine Gl.iload Y191_3 rfl dM_194 rfl ?_
  refine Gl.lload Y191_3 rfl dM_196 rfl ?_
  refine Gl.lastore Y191_3 A198_2 (v := (.long v154_2)) rfl ⟨by decide, by decide⟩ (ix := 2) rfl (Nat.le_of_ble_eq_true rfl) g_o dM_198 rfl (fun T198_3 h198_3 Y198_3 W198_3 A198_3 => ?_)
  have A198_3 : Arv Z h198_3 wo ko .long (3 : Int32) [(.long v154), (.long v154_2), (.long v154_2)] (.long 0) := A198_3
  have K198_3 : Keep h0 h198_3 [wo] := K198_2.wr W198_3 (Or.inl (List.mem_of_getElem? (i := 0) rfl))
  show Gl p e below _ (T198_3.setTop (mkF m 199 _ []))
  refine Gl.goto Y198_3 dM_199 (by decide) rfl ?_
  refine Gl.iinc Y198_3 rfl (r := (3 : Int32)) (by decide) (L' := #[.val (.ref o), .val (.ref u), .val (.int 0), .val (.ref wu), .val (.int 3), .val (.long v42), .second, .val (.long v53), .second, .val (.long 0), .second, .val (.long v177), .second, .val (.long sx), .second, .val (.long sy), .second, .val (.long v154_2), .second, .val (.int 1), .val (.int 3)]) rfl dM_225 rfl ?_
  refine Gl.goto Y198_3 dM_228 (by decide) rfl ?_
  refine Gl.iload Y198_3 rfl dM_95 rfl ?_
  refine Gl.iload Y198_3 rfl dM_97 rfl ?_
  refine Gl.icmpge Y198_3 dM_99 (by decide) rfl rfl (fun c99_4 => ?_) (fun c99_4 => ?_)
  rotate_left
  · exact absurd c99_4 (by decide)
  refine Gl.iload Y198_3 rfl dM_231 rfl ?_
  refine Gl.ifeq Y198_3 dM_233 (by decide) rfl rfl (fun c233 => ?_) (fun c233 => ?_)
  · exact absurd c233 (by decide)
  refine Gl.lload Y198_3 rfl dM_236 rfl ?_
  refine Gl.lload Y198_3 rfl dM_238 rfl ?_
  obtain ⟨v240, hv240⟩ : ∃ z : Int64, sx ^^^ v154_2 = z := ⟨_, rfl⟩
  refine Gl.lxor Y198_3 hv240 dM_240 rfl ?_
  refine Gl.lload Y198_3 rfl dM_241 rfl ?_
  refine Gl.lload Y198_3 rfl dM_243 rfl ?_
  obtain ⟨v245, hv245⟩ : ∃ z : Int64, sy ^^^ v154_2 = z := ⟨_, rfl⟩
  refine Gl.lxor Y198_3 hv245 dM_245 rfl ?_
  obtain ⟨v246, hv246⟩ : ∃ z : Int64, v240 &&& v245 = z := ⟨_, rfl⟩
  refine Gl.land Y198_3 hv246 dM_246 rfl ?_
  refine Gl.lconst Y198_3 (v := (0 : Int64)) (by decide) dM_247 rfl ?_
  refine Gl.lcmplt Y198_3 dM_248 rfl dM_249 (by decide) rfl rfl (fun c249 => ?_) (fun c249 => ?_)
  · refine absurd c249 ?_
    rw [← hv246, ← hv245, ← hv240]
    exact own_fit2 zx zy tt.2.2.2 tt.2.2.1 tt.2.1
  refine Gl.aloadN Y198_3 rfl rfl dM_252 rfl ?_
  refine Gl.goto Y198_3 dM_253 (by decide) rfl ?_
  exact Gl.retA Y198_3 (by decide) (by decide) rfl rfl dM_260 ⟨v154, v154_2, rfl, ⟨tt.1, tt.2.1⟩, K198_3, A198_3⟩
def R42 : Room := { frames := 3, cells := 0, slots := 0, locals := 57 }
def Q42 (Z : State) (o : Addr) (wo : Addr) (ko : ClassId) (x0 : Int64) (sx : Int64) (u : Addr) (wu : Addr) (ku : ClassId) (y0 : Int64) (sy : Int64) (h0 : Heap) (v : Option Value) (h : Heap) : Prop := ∃ e0 : Int64, ∃ e1 : Int64, v = some (.ref o) ∧ (x0.toInt + y0.toInt = e1.toInt * 18446744073709551616 + e0.toInt % 18446744073709551616 ∧ (e1.toInt = 0 ∨ e1.toInt = -1)) ∧ Keep h0 h [wo] ∧ Arv Z h wo ko .long (3 : Int32) [(.long e0), (.long e1), (.long e1)] (.long 0)
theorem ef42 (o : Addr) (u : Addr) (m : MethodId) : entryFrame m #[(.ref o), (.ref u)] 2 = mkF m 0 #[.val (.ref o), .val (.ref u)] [] := by first | (simp [entryFrame, mkF, argsToLocals, Value.category]; done) | rfl
theorem rm42 (l : Launch) (Z : State) (a0 : Array Value) (hw : HW a0 Z) (ws : List Jvm.Cond) (o : Addr) (wo : Addr) (ko : ClassId) (x0 : Int64) (sx : Int64) (u : Addr) (wu : Addr) (ku : ClassId) (y0 : Int64) (sy : Int64) (h0 : Heap) (n0 : Nat) (Z0 : n0 ≤ h0.size) (E_o : Exa Z h0 o "com/example/meterwise/meterwise/model/WholeNumber") (F_o : Fld Z h0 o "com/example/meterwise/meterwise/model/WholeNumber" "words" "[J" (.ref wo)) (V_o : Arv Z h0 wo ko .long (3 : Int32) [(.long x0), (.long sx), (.long sx)] (.long 0)) (g_o : n0 ≤ wo) (nn_o : own_ne o wo) (E_u : Exa Z h0 u "com/example/meterwise/meterwise/model/WholeNumber") (F_u : Fld Z h0 u "com/example/meterwise/meterwise/model/WholeNumber" "words" "[J" (.ref wu)) (V_u : Arv Z h0 wu ku .long (3 : Int32) [(.long y0), (.long sy), (.long sy)] (.long 0)) (nw : own_ne wo wu) (np : own_ne u wo) (hsx : x0 >>> ((63 : Int32) &&& 0x3f).toInt64 = sx) (hsy : y0 >>> ((63 : Int32) &&& 0x3f).toInt64 = sy) : OMet l Z ws (⟨"com/example/meterwise/meterwise/model/WholeNumber", "add", "(Lcom/example/meterwise/meterwise/model/WholeNumber;)Lcom/example/meterwise/meterwise/model/WholeNumber;"⟩ : MethodName) prog_137_method_12_code 2 (some (.object "com/example/meterwise/meterwise/model/WholeNumber")) R42 #[(.ref o), (.ref u)] h0 n0 (Q42 Z o wo ko x0 sx u wu ku y0 sy h0) := by
  refine OMet.of (own := "com/example/meterwise/meterwise/model/WholeNumber") rfl (plainFor_of_name pn_0) (ef42 o u) Z0 ?_
  intro p e s m below meth c T0 Y0 hnm
  refine Gl.aloadN Y0 rfl rfl dN_0 rfl ?_
  refine Gl.aloadN Y0 rfl rfl dN_1 rfl ?_
  refine Gl.iconst Y0 (v := (0 : Int32)) (by decide) dN_2 rfl ?_
  refine Gl.callP Y0 (tw_33 hw) (tw_34 hw) (tw_35 hw) (tw_1 hw) (tw_2 hw) (tw_36 hw) (by decide) E_o (rm41 l Z a0 hw [] o wo ko x0 sx u wu ku y0 sy h0 n0 Y0.sz E_o F_o V_o g_o nn_o E_u F_u V_u nw np (by first | assumption | decide | omega | (simp; done)) (by first | assumption | decide | omega | (simp; done))) (a := o) (argsL := [(.ref u), (.int 0)]) (rest := []) rfl rfl (lenOf pd_7 rfl) rfl (by decide) (Nat.le_of_ble_eq_true rfl) (by decide) (by decide) dN_3 rfl (fun v3 T3 h3 Y3 q3 => ?_)
  obtain ⟨e03, e13, rfl, p3, K3, f3_0⟩ := q3
  have KK3 : Keep h0 h3 [wo] := (Keep.refl h0 [wo]).trans K3 (allS (Or.inl (List.mem_of_getElem? (i := 0) rfl)) all0)
  show Gl p e below _ (T3.setTop (mkF m 6 _ [(.ref o)]))
  exact Gl.retA Y3 (by decide) (by decide) rfl rfl dN_6 ⟨e03, e13, rfl, p3, KK3, f3_0⟩
def R43 : Room := { frames := 0, cells := 0, slots := 0, locals := 0 }
def Q43 (Z : State) (o : Addr) (wo : Addr) (ko : ClassId) (x0 : Int64) (x1 : Int64) (x2 : Int64) (x3 : Int64) (h0 : Heap) (v : Option Value) (h : Heap) : Prop := v = some (.long x3) ∧ h0 = h
theorem ef43 (o : Addr) (m : MethodId) : entryFrame m #[(.ref o)] 1 = mkF m 0 #[.val (.ref o)] [] := by first | (simp [entryFrame, mkF, argsToLocals, Value.category]; done) | rfl
theorem rm43 (l : Launch) (Z : State) (a0 : Array Value) (hw : HW a0 Z) (ws : List Jvm.Cond) (o : Addr) (wo : Addr) (ko : ClassId) (x0 : Int64) (x1 : Int64) (x2 : Int64) (x3 : Int64) (h0 : Heap) (n0 : Nat) (Z0 : n0 ≤ h0.size) (E_o : Exa Z h0 o "com/example/meterwise/meterwise/model/WholeNumber") (F_o : Fld Z h0 o "com/example/meterwise/meterwise/model/WholeNumber" "words" "[J" (.ref wo)) (V_o : Arv Z h0 wo ko .long (4 : Int32) [(.long x0), (.long x1), (.long x2), (.long x3)] (.long 0)) : OMet l Z ws (⟨"com/example/meterwise/meterwise/model/WholeNumber", "top", "()J"⟩ : MethodName) prog_137_method_31_code 1 (some .long) R43 #[(.ref o)] h0 n0 (Q43 Z o wo ko x0 x1 x2 x3 h0) := by
  refine OMet.of (own := "com/example/meterwise/meterwise/model/WholeNumber") rfl (plainFor_of_name pn_0) (ef43 o) Z0 ?_
  intro p e s m below meth c T0 Y0 hnm
  refine Gl.aloadN Y0 rfl rfl dB_0 rfl ?_
  refine Gl.getF Y0 (host := "") (Or.inl (tw_14 hw)) Via.refl F_o dB_1 rfl (fun T1 Y1 => ?_)
  refine Gl.aloadN Y1 rfl rfl dB_4 rfl ?_
  refine Gl.getF Y1 (host := "") (Or.inl (tw_14 hw)) Via.refl F_o dB_5 rfl (fun T5 Y5 => ?_)
  refine Gl.arraylength Y5 V_o dB_8 rfl ?_
  refine Gl.iconst Y5 (v := (1 : Int32)) (by decide) dB_9 rfl ?_
  refine Gl.isub Y5 (r := (3 : Int32)) (by decide) dB_10 rfl ?_
  refine Gl.laload Y5 V_o ⟨by decide, by decide⟩ (v := (.long x3)) rfl dB_11 rfl ?_
  exact Gl.retJ Y5 (by decide) (by decide)  dB_12 ⟨rfl, rfl⟩
def R44 : Room := { frames := 0, cells := 0, slots := 0, locals := 0 }
def Q44 (Z : State) (a : Addr) (ka : ClassId) (x0 : Int64) (x1 : Int64) (x2 : Int64) (x3 : Int64) (h0 : Heap) (v : Option Value) (h : Heap) : Prop := v = none ∧ Keep h0 h [a] ∧ Arv Z h a ka .long (4 : Int32) [(.long 0), (.long 0), (.long 0), (.long 0)] (.long 0)
theorem ef44 (a : Addr) (m : MethodId) : entryFrame m #[(.ref a), (.long 0)] 5 = mkF m 0 #[.val (.ref a), .val (.long 0), .second, .unset, .unset] [] := by first | (simp [entryFrame, mkF, argsToLocals, Value.category]; done) | rfl
theorem rm44 (l : Launch) (Z : State) (a0 : Array Value) (hw : HW a0 Z) (ws : List Jvm.Cond) (a : Addr) (ka : ClassId) (x0 : Int64) (x1 : Int64) (x2 : Int64) (x3 : Int64) (h0 : Heap) (n0 : Nat) (Z0 : n0 ≤ h0.size) (V : Arv Z h0 a ka .long (4 : Int32) [(.long x0), (.long x1), (.long x2), (.long x3)] (.long 0)) (ga : n0 ≤ a) : OMet l Z ws (⟨"java/util/Arrays", "fill", "([JJ)V"⟩ : MethodName) jdk_65_method_101_code 5 none R44 #[(.ref a), (.long 0)] h0 n0 (Q44 Z a ka x0 x1 x2 x3 h0) := by
  refine OMet.of (own := "java/util/Arrays") rfl (plainFor_of_name pn_1) (ef44 a) Z0 ?_
  intro p e s m below meth c T0 Y0 hnm
  refine Gl.iconst Y0 (v := (0 : Int32)) (by decide) dC_0 rfl ?_
  refine Gl.istoreN Y0 (L' := #[.val (.ref a), .val (.long 0), .second, .val (.int 0), .unset]) rfl dC_1 rfl ?_
  refine Gl.aloadN Y0 rfl rfl dC_2 rfl ?_
  refine Gl.arraylength Y0 V dC_3 rfl ?_
  refine Gl.istore Y0 (L' := #[.val (.ref a), .val (.long 0), .second, .val (.int 0), .val (.int 4)]) rfl dC_4 rfl ?_
  refine Gl.iloadN Y0 rfl dC_6 rfl ?_
  refine Gl.iload Y0 rfl dC_7 rfl ?_
  refine Gl.icmpge Y0 dC_9 (by decide) rfl rfl (fun c9 => ?_) (fun c9 => ?_)
  · exact absurd c9 (by decide)
  refine Gl.aloadN Y0 rfl rfl dC_12 rfl ?_
  refine Gl.iloadN Y0 rfl dC_13 rfl ?_
  refine Gl.lloadN Y0 rfl dC_14 rfl ?_
  refine Gl.lastore Y0 V (v := (.long 0)) rfl ⟨by decide, by decide⟩ (ix := 0) rfl (Nat.le_of_ble_eq_true rfl) ga dC_15 rfl (fun T15 h15 Y15 W15 A15 => ?_)
  have A15 : Arv Z h15 a ka .long (4 : Int32) [(.long 0), (.long x1), (.long x2), (.long x3)] (.long 0) := A15
  have K15 : Keep h0 h15 [a] := (Keep.refl h0 [a]).wr W15 (Or.inl (List.mem_of_getElem? (i := 0) rfl))
  show Gl p e below _ (T15.setTop (mkF m 16 _ []))
  refine Gl.iinc Y15 rfl (r := (1 : Int32)) (by decide) (L' := #[.val (.ref a), .val (.long 0), .second, .val (.int 1), .val (.int 4)]) rfl dC_16 rfl ?_
  refine Gl.goto Y15 dC_19 (by decide) rfl ?_
  refine Gl.iloadN Y15 rfl dC_6 rfl ?_
  refine Gl.iload Y15 rfl dC_7 rfl ?_
  refine Gl.icmpge Y15 dC_9 (by decide) rfl rfl (fun c9_2 => ?_) (fun c9_2 => ?_)
  · exact absurd c9_2 (by decide)
  refine Gl.aloadN Y15 rfl rfl dC_12 rfl ?_
  refine Gl.iloadN Y15 rfl dC_13 rfl ?_
  refine Gl.lloadN Y15 rfl dC_14 rfl ?_
  refine Gl.lastore Y15 A15 (v := (.long 0)) rfl ⟨by decide, by decide⟩ (ix := 1) rfl (Nat.le_of_ble_eq_true rfl) ga dC_15 rfl (fun T15_2 h15_2 Y15_2 W15_2 A15_2 => ?_)
  have A15_2 : Arv Z h15_2 a ka .long (4 : Int32) [(.long 0), (.long 0), (.long x2), (.long x3)] (.long 0) := A15_2
  have K15_2 : Keep h0 h15_2 [a] := K15.wr W15_2 (Or.inl (List.mem_of_getElem? (i := 0) rfl))
  show Gl p e below _ (T15_2.setTop (mkF m 16 _ []))
  refine Gl.iinc Y15_2 rfl (r := (2 : Int32)) (by decide) (L' := #[.val (.ref a), .val (.long 0), .second, .val (.int 2), .val (.int 4)]) rfl dC_16 rfl ?_
  refine Gl.goto Y15_2 dC_19 (by decide) rfl ?_
  refine Gl.iloadN Y15_2 rfl dC_6 rfl ?_
  refine Gl.iload Y15_2 rfl dC_7 rfl ?_
  refine Gl.icmpge Y15_2 dC_9 (by decide) rfl rfl (fun c9_3 => ?_) (fun c9_3 => ?_)
  · exact absurd c9_3 (by decide)
  refine Gl.aloadN Y15_2 rfl rfl dC_12 rfl ?_
  refine Gl.iloadN Y15_2 rfl dC_13 rfl ?_
  refine Gl.lloadN Y15_2 rfl dC_14 rfl ?_
  refine Gl.lastore Y15_2 A15_2 (v := (.long 0)) rfl ⟨by decide, by decide⟩ (ix := 2) rfl (Nat.le_of_ble_eq_true rfl) ga dC_15 rfl (fun T15_3 h15_3 Y15_3 W15_3 A15_3 => ?_)
  have A15_3 : Arv Z h15_3 a ka .long (4 : Int32) [(.long 0), (.long 0), (.long 0), (.long x3)] (.long 0) := A15_3
  have K15_3 : Keep h0 h15_3 [a] := K15_2.wr W15_3 (Or.inl (List.mem_of_getElem? (i := 0) rfl))
  show Gl p e below _ (T15_3.setTop (mkF m 16 _ []))
  refine Gl.iinc Y15_3 rfl (r := (3 : Int32)) (by decide) (L' := #[.val (.ref a), .val (.long 0), .second, .val (.int 3), .val (.int 4)]) rfl dC_16 rfl ?_
  refine Gl.goto Y15_3 dC_19 (by decide) rfl ?_
  refine Gl.iloadN Y15_3 rfl dC_6 rfl ?_
  refine Gl.iload Y15_3 rfl dC_7 rfl ?_
  refine Gl.icmpge Y15_3 dC_9 (by decide) rfl rfl (fun c9_4 => ?_) (fun c9_4 => ?_)
  · exact absurd c9_4 (by decide)
  refine Gl.aloadN Y15_3 rfl rfl dC_12 rfl ?_
  refine Gl.iloadN Y15_3 rfl dC_13 rfl ?_
  refine Gl.lloadN Y15_3 rfl dC_14 rfl ?_
  refine Gl.lastore Y15_3 A15_3 (v := (.long 0)) rfl ⟨by decide, by decide⟩ (ix := 3) rfl (Nat.le_of_ble_eq_true rfl) ga dC_15 rfl (fun T15_4 h15_4 Y15_4 W15_4 A15_4 => ?_)
  have A15_4 : Arv Z h15_4 a ka .long (4 : Int32) [(.long 0), (.long 0), (.long 0), (.long 0)] (.long 0) := A15_4
  have K15_4 : Keep h0 h15_4 [a] := K15_3.wr W15_4 (Or.inl (List.mem_of_getElem? (i := 0) rfl))
  show Gl p e below _ (T15_4.setTop (mkF m 16 _ []))
  refine Gl.iinc Y15_4 rfl (r := (4 : Int32)) (by decide) (L' := #[.val (.ref a), .val (.long 0), .second, .val (.int 4), .val (.int 4)]) rfl dC_16 rfl ?_
  refine Gl.goto Y15_4 dC_19 (by decide) rfl ?_
  refine Gl.iloadN Y15_4 rfl dC_6 rfl ?_
  refine Gl.iload Y15_4 rfl dC_7 rfl ?_
  refine Gl.icmpge Y15_4 dC_9 (by decide) rfl rfl (fun c9_5 => ?_) (fun c9_5 => ?_)
  rotate_left
  · exact absurd c9_5 (by decide)
  exact Gl.retV Y15_4 (by decide) (by decide)  dC_22 ⟨rfl, K15_4, A15_4⟩
def R45 : Room := { frames := 0, cells := 0, slots := 0, locals := 0 }
def Q45 (Z : State) (h0 : Heap) (v : Option Value) (h : Heap) : Prop := v = none ∧ h0 = h
theorem ef45 (m : MethodId) : entryFrame m #[(.int 4), (.int 1), (.int 4)] 3 = mkF m 0 #[.val (.int 4), .val (.int 1), .val (.int 4)] [] := by first | (simp [entryFrame, mkF, argsToLocals, Value.category]; done) | rfl
theorem rm45 (l : Launch) (Z : State) (a0 : Array Value) (hw : HW a0 Z) (ws : List Jvm.Cond) (h0 : Heap) (n0 : Nat) (Z0 : n0 ≤ h0.size) : OMet l Z ws (⟨"java/util/Arrays", "rangeCheck", "(III)V"⟩ : MethodName) jdk_65_method_30_code 3 none R45 #[(.int 4), (.int 1), (.int 4)] h0 n0 (Q45 Z h0) := by
  refine OMet.of (own := "java/util/Arrays") rfl (plainFor_of_name pn_1) (ef45) Z0 ?_
  intro p e s m below meth c T0 Y0 hnm
  refine Gl.iloadN Y0 rfl dD_0 rfl ?_
  refine Gl.iloadN Y0 rfl dD_1 rfl ?_
  refine Gl.icmple Y0 dD_2 (by decide) rfl rfl (fun c2 => ?_) (fun c2 => ?_)
  rotate_left
  · exact absurd c2 (by decide)
  refine Gl.iloadN Y0 rfl dD_46 rfl ?_
  refine Gl.ifge Y0 dD_47 (by decide) rfl rfl (fun c47 => ?_) (fun c47 => ?_)
  rotate_left
  · exact absurd c47 (by decide)
  refine Gl.iloadN Y0 rfl dD_59 rfl ?_
  refine Gl.iloadN Y0 rfl dD_60 rfl ?_
  refine Gl.icmple Y0 dD_61 (by decide) rfl rfl (fun c61 => ?_) (fun c61 => ?_)
  rotate_left
  · exact absurd c61 (by decide)
  exact Gl.retV Y0 (by decide) (by decide)  dD_73 ⟨rfl, rfl⟩
def R46 : Room := { frames := 1, cells := 0, slots := 0, locals := 14 }
def Q46 (Z : State) (a : Addr) (ka : ClassId) (v1 : Int64) (x0 : Int64) (x1 : Int64) (x2 : Int64) (x3 : Int64) (h0 : Heap) (v : Option Value) (h : Heap) : Prop := v = none ∧ Keep h0 h [a] ∧ Arv Z h a ka .long (4 : Int32) [(.long x0), (.long v1), (.long v1), (.long v1)] (.long 0)
theorem ef46 (a : Addr) (v1 : Int64) (m : MethodId) : entryFrame m #[(.ref a), (.int 1), (.int 4), (.long v1)] 6 = mkF m 0 #[.val (.ref a), .val (.int 1), .val (.int 4), .val (.long v1), .second, .unset] [] := by first | (simp [entryFrame, mkF, argsToLocals, Value.category]; done) | rfl
theorem rm46 (l : Launch) (Z : State) (a0 : Array Value) (hw : HW a0 Z) (ws : List Jvm.Cond) (a : Addr) (ka : ClassId) (v1 : Int64) (x0 : Int64) (x1 : Int64) (x2 : Int64) (x3 : Int64) (h0 : Heap) (n0 : Nat) (Z0 : n0 ≤ h0.size) (V : Arv Z h0 a ka .long (4 : Int32) [(.long x0), (.long x1), (.long x2), (.long x3)] (.long 0)) (ga : n0 ≤ a) : OMet l Z ws (⟨"java/util/Arrays", "fill", "([JIIJ)V"⟩ : MethodName) jdk_65_method_102_code 6 none R46 #[(.ref a), (.int 1), (.int 4), (.long v1)] h0 n0 (Q46 Z a ka v1 x0 x1 x2 x3 h0) := by
  refine OMet.of (own := "java/util/Arrays") rfl (plainFor_of_name pn_1) (ef46 a v1) Z0 ?_
  intro p e s m below meth c T0 Y0 hnm
  refine Gl.aloadN Y0 rfl rfl dE_0 rfl ?_
  refine Gl.arraylength Y0 V dE_1 rfl ?_
  refine Gl.iloadN Y0 rfl dE_2 rfl ?_
  refine Gl.iloadN Y0 rfl dE_3 rfl ?_
  refine Gl.callS Y0 (tw_25 hw) (tw_26 hw) (tw_23 hw) (tw_27 hw) (by decide) (rm45 l Z a0 hw [] h0 n0 Y0.sz) (argsL := [(.int 4), (.int 1), (.int 4)]) (rest := []) rfl rfl (lenOf pd_0 rfl) rfl (by decide) (Nat.le_of_ble_eq_true rfl) (by decide) (by decide) dE_4 rfl (fun v4 T4 h4 Y4 q4 => ?_)
  obtain ⟨rfl, rfl⟩ := q4
  show Gl p e below _ (T4.setTop (mkF m 7 _ []))
  refine Gl.iloadN Y4 rfl dE_7 rfl ?_
  refine Gl.istore Y4 (L' := #[.val (.ref a), .val (.int 1), .val (.int 4), .val (.long v1), .second, .val (.int 1)]) rfl dE_8 rfl ?_
  refine Gl.iload Y4 rfl dE_10 rfl ?_
  refine Gl.iloadN Y4 rfl dE_12 rfl ?_
  refine Gl.icmpge Y4 dE_13 (by decide) rfl rfl (fun c13 => ?_) (fun c13 => ?_)
  · exact absurd c13 (by decide)
  refine Gl.aloadN Y4 rfl rfl dE_16 rfl ?_
  refine Gl.iload Y4 rfl dE_17 rfl ?_
  refine Gl.lloadN Y4 rfl dE_19 rfl ?_
  refine Gl.lastore Y4 V (v := (.long v1)) rfl ⟨by decide, by decide⟩ (ix := 1) rfl (Nat.le_of_ble_eq_true rfl) ga dE_20 rfl (fun T20 h20 Y20 W20 A20 => ?_)
  have A20 : Arv Z h20 a ka .long (4 : Int32) [(.long x0), (.long v1), (.long x2), (.long x3)] (.long 0) := A20
  have K20 : Keep h0 h20 [a] := (Keep.refl h0 [a]).wr W20 (Or.inl (List.mem_of_getElem? (i := 0) rfl))
  show Gl p e below _ (T20.setTop (mkF m 21 _ []))
  refine Gl.iinc Y20 rfl (r := (2 : Int32)) (by decide) (L' := #[.val (.ref a), .val (.int 1), .val (.int 4), .val (.long v1), .second, .val (.int 2)]) rfl dE_21 rfl ?_
  refine Gl.goto Y20 dE_24 (by decide) rfl ?_
  refine Gl.iload Y20 rfl dE_10 rfl ?_
  refine Gl.iloadN Y20 rfl dE_12 rfl ?_
  refine Gl.icmpge Y20 dE_13 (by decide) rfl rfl (fun c13_2 => ?_) (fun c13_2 => ?_)
  · exact absurd c13_2 (by decide)
  refine Gl.aloadN Y20 rfl rfl dE_16 rfl ?_
  refine Gl.iload Y20 rfl dE_17 rfl ?_
  refine Gl.lloadN Y20 rfl dE_19 rfl ?_
  refine Gl.lastore Y20 A20 (v := (.long v1)) rfl ⟨by decide, by decide⟩ (ix := 2) rfl (Nat.le_of_ble_eq_true rfl) ga dE_20 rfl (fun T20_2 h20_2 Y20_2 W20_2 A20_2 => ?_)
  have A20_2 : Arv Z h20_2 a ka .long (4 : Int32) [(.long x0), (.long v1), (.long v1), (.long x3)] (.long 0) := A20_2
  have K20_2 : Keep h0 h20_2 [a] := K20.wr W20_2 (Or.inl (List.mem_of_getElem? (i := 0) rfl))
  show Gl p e below _ (T20_2.setTop (mkF m 21 _ []))
  refine Gl.iinc Y20_2 rfl (r := (3 : Int32)) (by decide) (L' := #[.val (.ref a), .val (.int 1), .val (.int 4), .val (.long v1), .second, .val (.int 3)]) rfl dE_21 rfl ?_
  refine Gl.goto Y20_2 dE_24 (by decide) rfl ?_
  refine Gl.iload Y20_2 rfl dE_10 rfl ?_
  refine Gl.iloadN Y20_2 rfl dE_12 rfl ?_
  refine Gl.icmpge Y20_2 dE_13 (by decide) rfl rfl (fun c13_3 => ?_) (fun c13_3 => ?_)
  · exact absurd c13_3 (by decide)
  refine Gl.aloadN Y20_2 rfl rfl dE_16 rfl ?_
  refine Gl.iload Y20_2 rfl dE_17 rfl ?_
  refine Gl.lloadN Y20_2 rfl dE_19 rfl ?_
  refine Gl.lastore Y20_2 A20_2 (v := (.long v1)) rfl ⟨by decide, by decide⟩ (ix := 3) rfl (Nat.le_of_ble_eq_true rfl) ga dE_20 rfl (fun T20_3 h20_3 Y20_3 W20_3 A20_3 => ?_)
  have A20_3 : Arv Z h20_3 a ka .long (4 : Int32) [(.long x0), (.long v1), (.long v1), (.long v1)] (.long 0) := A20_3
  have K20_3 : Keep h0 h20_3 [a] := K20_2.wr W20_3 (Or.inl (List.mem_of_getElem? (i := 0) rfl))
  show Gl p e below _ (T20_3.setTop (mkF m 21 _ []))
  refine Gl.iinc Y20_3 rfl (r := (4 : Int32)) (by decide) (L' := #[.val (.ref a), .val (.int 1), .val (.int 4), .val (.long v1), .second, .val (.int 4)]) rfl dE_21 rfl ?_
  refine Gl.goto Y20_3 dE_24 (by decide) rfl ?_
  refine Gl.iload Y20_3 rfl dE_10 rfl ?_
  refine Gl.iloadN Y20_3 rfl dE_12 rfl ?_
  refine Gl.icmpge Y20_3 dE_13 (by decide) rfl rfl (fun c13_4 => ?_) (fun c13_4 => ?_)
  rotate_left
  · exact absurd c13_4 (by decide)
  exact Gl.retV Y20_3 (by decide) (by decide)  dE_27 ⟨rfl, K20_3, A20_3⟩
def R47 : Room := { frames := 2, cells := 0, slots := 0, locals := 31 }
def Q47 (Z : State) (o : Addr) (wo : Addr) (ko : ClassId) (x0 : Int64) (x1 : Int64) (x2 : Int64) (x3 : Int64) (v1 : Int64) (sg : Int64) (h0 : Heap) (v : Option Value) (h : Heap) : Prop := v = some (.ref o) ∧ Keep h0 h [wo] ∧ Arv Z h wo ko .long (4 : Int32) [(.long v1), (.long sg), (.long sg), (.long sg)] (.long 0)
theorem ef47 (o : Addr) (v1 : Int64) (m : MethodId) : entryFrame m #[(.ref o), (.long v1)] 3 = mkF m 0 #[.val (.ref o), .val (.long v1), .second] [] := by first | (simp [entryFrame, mkF, argsToLocals, Value.category]; done) | rfl
theorem rm47 (l : Launch) (Z : State) (a0 : Array Value) (hw : HW a0 Z) (ws : List Jvm.Cond) (o : Addr) (wo : Addr) (ko : ClassId) (x0 : Int64) (x1 : Int64) (x2 : Int64) (x3 : Int64) (v1 : Int64) (sg : Int64) (h0 : Heap) (n0 : Nat) (Z0 : n0 ≤ h0.size) (E_o : Exa Z h0 o "com/example/meterwise/meterwise/model/WholeNumber") (F_o : Fld Z h0 o "com/example/meterwise/meterwise/model/WholeNumber" "words" "[J" (.ref wo)) (V_o : Arv Z h0 wo ko .long (4 : Int32) [(.long x0), (.long x1), (.long x2), (.long x3)] (.long 0)) (g_o : n0 ≤ wo) (nn_o : own_ne o wo) (hsg : v1 >>> ((63 : Int32) &&& 0x3f).toInt64 = sg) : OMet l Z ws (⟨"com/example/meterwise/meterwise/model/WholeNumber", "set", "(J)Lcom/example/meterwise/meterwise/model/WholeNumber;"⟩ : MethodName) prog_137_method_4_code 3 (some (.object "com/example/meterwise/meterwise/model/WholeNumber")) R47 #[(.ref o), (.long v1)] h0 n0 (Q47 Z o wo ko x0 x1 x2 x3 v1 sg h0) := by
  refine OMet.of (own := "com/example/meterwise/meterwise/model/WholeNumber") rfl (plainFor_of_name pn_0) (ef47 o v1) Z0 ?_
  intro p e s m below meth c T0 Y0 hnm
  refine Gl.aloadN Y0 rfl rfl dF_0 rfl ?_
  refine Gl.getF Y0 (host := "") (Or.inl (tw_14 hw)) Via.refl F_o dF_1 rfl (fun T1 Y1 => ?_)
  refine Gl.iconst Y1 (v := (0 : Int32)) (by decide) dF_4 rfl ?_
  refine Gl.lloadN Y1 rfl dF_5 rfl ?_
  refine Gl.lastore Y1 V_o (v := (.long v1)) rfl ⟨by decide, by decide⟩ (ix := 0) rfl (Nat.le_of_ble_eq_true rfl) g_o dF_6 rfl (fun T6 h6 Y6 W6 A6 => ?_)
  have A6 : Arv Z h6 wo ko .long (4 : Int32) [(.long v1), (.long x1), (.long x2), (.long x3)] (.long 0) := A6
  have K6 : Keep h0 h6 [wo] := (Keep.refl h0 [wo]).wr W6 (Or.inl (List.mem_of_getElem? (i := 0) rfl))
  show Gl p e below _ (T6.setTop (mkF m 7 _ []))
  refine Gl.aloadN Y6 rfl rfl dF_7 rfl ?_
  have f1 := (Fld.other W6 F_o (Or.inl nn_o))
  refine Gl.getF Y6 (host := "") (Or.inl (tw_14 hw)) Via.refl f1 dF_8 rfl (fun T8 Y8 => ?_)
  refine Gl.iconst Y8 (v := (1 : Int32)) (by decide) dF_11 rfl ?_
  refine Gl.aloadN Y8 rfl rfl dF_12 rfl ?_
  refine Gl.getF Y8 (host := "") (Or.inl (tw_14 hw)) Via.refl f1 dF_13 rfl (fun T13 Y13 => ?_)
  refine Gl.arraylength Y13 A6 dF_16 rfl ?_
  refine Gl.lloadN Y13 rfl dF_17 rfl ?_
  refine Gl.bipush Y13 (v := (63 : Int32)) (by decide) dF_18 rfl ?_
  obtain ⟨v20, hv20⟩ : ∃ z : Int64, (v1 >>> ((63 : Int32) &&& 0x3f).toInt64) = z := ⟨_, rfl⟩
  refine Gl.lshr Y13 hv20 dF_20 rfl ?_
  obtain rfl : sg = v20 := Eq.symm (hv20.symm.trans hsg)
  refine Gl.callS Y13 (tw_21 hw) (tw_22 hw) (tw_23 hw) (tw_24 hw) (by decide) (rm46 l Z a0 hw [] wo ko sg v1 x1 x2 x3 h6 n0 Y13.sz A6 g_o) (argsL := [(.ref wo), (.int 1), (.int 4), (.long sg)]) (rest := []) rfl rfl (lenOf pd_1 rfl) rfl (by decide) (Nat.le_of_ble_eq_true rfl) (by decide) (by decide) dF_21 rfl (fun v21 T21 h21 Y21 q21 => ?_)
  obtain ⟨rfl, K21, f21_0⟩ := q21
  have KK21 : Keep h0 h21 [wo] := K6.trans K21 (allS (Or.inl (List.mem_of_getElem? (i := 0) rfl)) all0)
  show Gl p e below _ (T21.setTop (mkF m 24 _ []))
  refine Gl.aloadN Y21 rfl rfl dF_24 rfl ?_
  exact Gl.retA Y21 (by decide) (by decide) rfl rfl dF_25 ⟨rfl, KK21, f21_0⟩
def R48 : Room := { frames := 0, cells := 0, slots := 0, locals := 0 }
def Q48 (Z : State) (o : Addr) (wo : Addr) (ko : ClassId) (x0 : Int64) (x1 : Int64) (x2 : Int64) (x3 : Int64) (h0 : Heap) (v : Option Value) (h : Heap) : Prop := ∃ r : Int32, v = some (.int r) ∧ (((x0.toInt = 0 ∧ x1.toInt = 0 ∧ x2.toInt = 0) ∧ r.toInt = 1) ∨ (¬ (x0.toInt = 0 ∧ x1.toInt = 0 ∧ x2.toInt = 0) ∧ r.toInt = 0)) ∧ h0 = h
theorem ef48 (o : Addr) (m : MethodId) : entryFrame m #[(.ref o)] 2 = mkF m 0 #[.val (.ref o), .unset] [] := by first | (simp [entryFrame, mkF, argsToLocals, Value.category]; done) | rfl
theorem rm48 (l : Launch) (Z : State) (a0 : Array Value) (hw : HW a0 Z) (ws : List Jvm.Cond) (o : Addr) (wo : Addr) (ko : ClassId) (x0 : Int64) (x1 : Int64) (x2 : Int64) (x3 : Int64) (h0 : Heap) (n0 : Nat) (Z0 : n0 ≤ h0.size) (E_o : Exa Z h0 o "com/example/meterwise/meterwise/model/WholeNumber") (F_o : Fld Z h0 o "com/example/meterwise/meterwise/model/WholeNumber" "words" "[J" (.ref wo)) (V_o : Arv Z h0 wo ko .long (4 : Int32) [(.long x0), (.long x1), (.long x2), (.long x3)] (.long 0)) : OMet l Z ws (⟨"com/example/meterwise/meterwise/model/WholeNumber", "zeroBelowTop", "()Z"⟩ : MethodName) prog_137_method_10_code 2 (some .boolean) R48 #[(.ref o)] h0 n0 (Q48 Z o wo ko x0 x1 x2 x3 h0) := by
  refine OMet.of (own := "com/example/meterwise/meterwise/model/WholeNumber") rfl (plainFor_of_name pn_0) (ef48 o) Z0 ?_
  intro p e s m below meth c T0 Y0 hnm
  refine Gl.iconst Y0 (v := (0 : Int32)) (by decide) dG_0 rfl ?_
  refine Gl.istoreN Y0 (L' := #[.val (.ref o), .val (.int 0)]) rfl dG_1 rfl ?_
  refine Gl.iloadN Y0 rfl dG_2 rfl ?_
  refine Gl.aloadN Y0 rfl rfl dG_3 rfl ?_
  refine Gl.getF Y0 (host := "") (Or.inl (tw_14 hw)) Via.refl F_o dG_4 rfl (fun T4 Y4 => ?_)
  refine Gl.arraylength Y4 V_o dG_7 rfl ?_
  refine Gl.iconst Y4 (v := (1 : Int32)) (by decide) dG_8 rfl ?_
  refine Gl.isub Y4 (r := (3 : Int32)) (by decide) dG_9 rfl ?_
  refine Gl.icmpge Y4 dG_10 (by decide) rfl rfl (fun c10 => ?_) (fun c10 => ?_)
  · exact absurd c10 (by decide)
  refine Gl.aloadN Y4 rfl rfl dG_13 rfl ?_
  refine Gl.getF Y4 (host := "") (Or.inl (tw_14 hw)) Via.refl F_o dG_14 rfl (fun T14 Y14 => ?_)
  refine Gl.iloadN Y14 rfl dG_17 rfl ?_
  refine Gl.laload Y14 V_o ⟨by decide, by decide⟩ (v := (.long x0)) rfl dG_18 rfl ?_
  refine Gl.lconst Y14 (v := (0 : Int64)) (by decide) dG_19 rfl ?_
  refine Gl.lcmpeq Y14 dG_20 rfl dG_21 (by decide) rfl rfl (fun c21 => ?_) (fun c21 => ?_)
  · have j21 : x0.toInt = 0 := congrArg Int64.toInt c21
    refine Gl.iinc Y14 rfl (r := (1 : Int32)) (by decide) (L' := #[.val (.ref o), .val (.int 1)]) rfl dG_26 rfl ?_
    refine Gl.goto Y14 dG_29 (by decide) rfl ?_
    refine Gl.iloadN Y14 rfl dG_2 rfl ?_
    refine Gl.aloadN Y14 rfl rfl dG_3 rfl ?_
    refine Gl.getF Y14 (host := "") (Or.inl (tw_14 hw)) Via.refl F_o dG_4 rfl (fun T4_2 Y4_2 => ?_)
    refine Gl.arraylength Y4_2 V_o dG_7 rfl ?_
    refine Gl.iconst Y4_2 (v := (1 : Int32)) (by decide) dG_8 rfl ?_
    refine Gl.isub Y4_2 (r := (3 : Int32)) (by decide) dG_9 rfl ?_
    refine Gl.icmpge Y4_2 dG_10 (by decide) rfl rfl (fun c10_2 => ?_) (fun c10_2 => ?_)
    · exact absurd c10_2 (by decide)
    refine Gl.aloadN Y4_2 rfl rfl dG_13 rfl ?_
    refine Gl.getF Y4_2 (host := "") (Or.inl (tw_14 hw)) Via.refl F_o dG_14 rfl (fun T14_2 Y14_2 => ?_)
    refine Gl.iloadN Y14_2 rfl dG_17 rfl ?_
    refine Gl.laload Y14_2 V_o ⟨by decide, by decide⟩ (v := (.long x1)) rfl dG_18 rfl ?_
    refine Gl.lconst Y14_2 (v := (0 : Int64)) (by decide) dG_19 rfl ?_
    refine Gl.lcmpeq Y14_2 dG_20 rfl dG_21 (by decide) rfl rfl (fun c21_2 => ?_) (fun c21_2 => ?_)
    · have j21_2 : x1.toInt = 0 := congrArg Int64.toInt c21_2
      refine Gl.iinc Y14_2 rfl (r := (2 : Int32)) (by decide) (L' := #[.val (.ref o), .val (.int 2)]) rfl dG_26 rfl ?_
      refine Gl.goto Y14_2 dG_29 (by decide) rfl ?_
      refine Gl.iloadN Y14_2 rfl dG_2 rfl ?_
      refine Gl.aloadN Y14_2 rfl rfl dG_3 rfl ?_
      refine Gl.getF Y14_2 (host := "") (Or.inl (tw_14 hw)) Via.refl F_o dG_4 rfl (fun T4_3 Y4_3 => ?_)
      refine Gl.arraylength Y4_3 V_o dG_7 rfl ?_
      refine Gl.iconst Y4_3 (v := (1 : Int32)) (by decide) dG_8 rfl ?_
      refine Gl.isub Y4_3 (r := (3 : Int32)) (by decide) dG_9 rfl ?_
      refine Gl.icmpge Y4_3 dG_10 (by decide) rfl rfl (fun c10_3 => ?_) (fun c10_3 => ?_)
      · exact absurd c10_3 (by decide)
      refine Gl.aloadN Y4_3 rfl rfl dG_13 rfl ?_
      refine Gl.getF Y4_3 (host := "") (Or.inl (tw_14 hw)) Via.refl F_o dG_14 rfl (fun T14_3 Y14_3 => ?_)
      refine Gl.iloadN Y14_3 rfl dG_17 rfl ?_
      refine Gl.laload Y14_3 V_o ⟨by decide, by decide⟩ (v := (.long x2)) rfl dG_18 rfl ?_
      refine Gl.lconst Y14_3 (v := (0 : Int64)) (by decide) dG_19 rfl ?_
      refine Gl.lcmpeq Y14_3 dG_20 rfl dG_21 (by decide) rfl rfl (fun c21_3 => ?_) (fun c21_3 => ?_)
      · have j21_3 : x2.toInt = 0 := congrArg Int64.toInt c21_3
        refine Gl.iinc Y14_3 rfl (r := (3 : Int32)) (by decide) (L' := #[.val (.ref o), .val (.int 3)]) rfl dG_26 rfl ?_
        refine Gl.goto Y14_3 dG_29 (by decide) rfl ?_
        refine Gl.iloadN Y14_3 rfl dG_2 rfl ?_
        refine Gl.aloadN Y14_3 rfl rfl dG_3 rfl ?_
        refine Gl.getF Y14_3 (host := "") (Or.inl (tw_14 hw)) Via.refl F_o dG_4 rfl (fun T4_4 Y4_4 => ?_)
        refine Gl.arraylength Y4_4 V_o dG_7 rfl ?_
        refine Gl.iconst Y4_4 (v := (1 : Int32)) (by decide) dG_8 rfl ?_
        refine Gl.isub Y4_4 (r := (3 : Int32)) (by decide) dG_9 rfl ?_
        refine Gl.icmpge Y4_4 dG_10 (by decide) rfl rfl (fun c10_4 => ?_) (fun c10_4 => ?_)
        rotate_left
        · exact absurd c10_4 (by decide)
        refine Gl.iconst Y4_4 (v := (1 : Int32)) (by decide) dG_32 rfl ?_
        exact Gl.retZ Y4_4 (by decide) (by decide) (x' := (1 : Int32)) (by decide) dG_33 ⟨(1 : Int32), rfl, (by have q0 : (0 : Int32).toInt = 0 := rfl; have q1 : (1 : Int32).toInt = 1 := rfl; have q2 : (-1 : Int32).toInt = -1 := rfl; omega), rfl⟩
      · have j21_3 : ¬ (x2.toInt = 0) := fun q => c21_3 (Int64.toInt_inj.mp q)
        refine Gl.iconst Y14_3 (v := (0 : Int32)) (by decide) dG_24 rfl ?_
        exact Gl.retZ Y14_3 (by decide) (by decide) (x' := (0 : Int32)) (by decide) dG_25 ⟨(0 : Int32), rfl, (by have q0 : (0 : Int32).toInt = 0 := rfl; have q1 : (1 : Int32).toInt = 1 := rfl; have q2 : (-1 : Int32).toInt = -1 := rfl; omega), rfl⟩
    · have j21_2 : ¬ (x1.toInt = 0) := fun q => c21_2 (Int64.toInt_inj.mp q)
      refine Gl.iconst Y14_2 (v := (0 : Int32)) (by decide) dG_24 rfl ?_
      exact Gl.retZ Y14_2 (by decide) (by decide) (x' := (0 : Int32)) (by decide) dG_25 ⟨(0 : Int32), rfl, (by have q0 : (0 : Int32).toInt = 0 := rfl; have q1 : (1 : Int32).toInt = 1 := rfl; have q2 : (-1 : Int32).toInt = -1 := rfl; omega), rfl⟩
  · have j21 : ¬ (x0.toInt = 0) := fun q => c21 (Int64.toInt_inj.mp q)
    refine Gl.iconst Y14 (v := (0 : Int32)) (by decide) dG_24 rfl ?_
    exact Gl.retZ Y14 (by decide) (by decide) (x' := (0 : Int32)) (by decide) dG_25 ⟨(0 : Int32), rfl, (by have q0 : (0 : Int32).toInt = 0 := rfl; have q1 : (1 : Int32).toInt = 1 := rfl; have q2 : (-1 : Int32).toInt = -1 := rfl; omega), rfl⟩
def R49 : Room := { frames := 1, cells := 0, slots := 0, locals := 13 }
def Q49 (Z : State) (o : Addr) (wo : Addr) (ko : ClassId) (x0 : Int64) (x1 : Int64) (x2 : Int64) (x3 : Int64) (h0 : Heap) (v : Option Value) (h : Heap) : Prop := ∃ r : Int32, v = some (.int r) ∧ (((x3.toInt = (-9223372036854775808) ∧ x0.toInt = 0 ∧ x1.toInt = 0 ∧ x2.toInt = 0) ∧ r.toInt = 1) ∨ (¬ (x3.toInt = (-9223372036854775808) ∧ x0.toInt = 0 ∧ x1.toInt = 0 ∧ x2.toInt = 0) ∧ r.toInt = 0)) ∧ h0 = h
theorem ef49 (o : Addr) (m : MethodId) : entryFrame m #[(.ref o)] 1 = mkF m 0 #[.val (.ref o)] [] := by first | (simp [entryFrame, mkF, argsToLocals, Value.category]; done) | rfl
theorem rm49 (l : Launch) (Z : State) (a0 : Array Value) (hw : HW a0 Z) (ws : List Jvm.Cond) (o : Addr) (wo : Addr) (ko : ClassId) (x0 : Int64) (x1 : Int64) (x2 : Int64) (x3 : Int64) (h0 : Heap) (n0 : Nat) (Z0 : n0 ≤ h0.size) (E_o : Exa Z h0 o "com/example/meterwise/meterwise/model/WholeNumber") (F_o : Fld Z h0 o "com/example/meterwise/meterwise/model/WholeNumber" "words" "[J" (.ref wo)) (V_o : Arv Z h0 wo ko .long (4 : Int32) [(.long x0), (.long x1), (.long x2), (.long x3)] (.long 0)) : OMet l Z ws (⟨"com/example/meterwise/meterwise/model/WholeNumber", "overflowed", "()Z"⟩ : MethodName) prog_137_method_8_code 1 (some .boolean) R49 #[(.ref o)] h0 n0 (Q49 Z o wo ko x0 x1 x2 x3 h0) := by
  refine OMet.of (own := "com/example/meterwise/meterwise/model/WholeNumber") rfl (plainFor_of_name pn_0) (ef49 o) Z0 ?_
  intro p e s m below meth c T0 Y0 hnm
  refine Gl.aloadN Y0 rfl rfl dH_0 rfl ?_
  refine Gl.callP Y0 (tw_42 hw) (tw_43 hw) (tw_44 hw) (tw_1 hw) (tw_2 hw) (tw_45 hw) (by decide) E_o (rm43 l Z a0 hw [] o wo ko x0 x1 x2 x3 h0 n0 Y0.sz E_o F_o V_o) (a := o) (argsL := []) (rest := []) rfl rfl (lenOf pd_2 rfl) rfl (by decide) (Nat.le_of_ble_eq_true rfl) (by decide) (by decide) dH_1 rfl (fun v1 T1 h1 Y1 q1 => ?_)
  obtain ⟨rfl, rfl⟩ := q1
  show Gl p e below _ (T1.setTop (mkF m 4 _ [(.long x3)]))
  refine Gl.ldcJ Y1 (tw_46 hw) dH_4 rfl ?_
  refine Gl.lcmpne Y1 dH_7 rfl dH_8 (by decide) rfl rfl (fun c8 => ?_) (fun c8 => ?_)
  · have j8 : ¬ (x3.toInt = (-9223372036854775808)) := fun q => c8 (Int64.toInt_inj.mp q)
    refine Gl.iconst Y1 (v := (0 : Int32)) (by decide) dH_22 rfl ?_
    exact Gl.retZ Y1 (by decide) (by decide) (x' := (0 : Int32)) (by decide) dH_23 ⟨(0 : Int32), rfl, (by have q0 : (0 : Int32).toInt = 0 := rfl; have q1 : (1 : Int32).toInt = 1 := rfl; have q2 : (-1 : Int32).toInt = -1 := rfl; omega), rfl⟩
  · have j8 : x3.toInt = (-9223372036854775808) := congrArg Int64.toInt c8
    refine Gl.aloadN Y1 rfl rfl dH_11 rfl ?_
    refine Gl.callP Y1 (tw_75 hw) (tw_76 hw) (tw_77 hw) (tw_1 hw) (tw_2 hw) (tw_78 hw) (by decide) E_o (rm48 l Z a0 hw [] o wo ko x0 x1 x2 x3 h0 n0 Y1.sz E_o F_o V_o) (a := o) (argsL := []) (rest := []) rfl rfl (lenOf pd_3 rfl) rfl (by decide) (Nat.le_of_ble_eq_true rfl) (by decide) (by decide) dH_12 rfl (fun v12 T12 h12 Y12 q12 => ?_)
    obtain ⟨r12, rfl, p12, rfl⟩ := q12
    have br12 : r12 = 0 ∨ r12 = 1 := by rcases p12 with q | q; exact Or.inr (Int32.toInt_inj.mp q.2); exact Or.inl (Int32.toInt_inj.mp q.2)
    show Gl p e below _ (T12.setTop (mkF m 15 _ [(.int r12)]))
    refine Gl.ifeq Y12 dH_15 (by decide) rfl rfl (fun c15 => ?_) (fun c15 => ?_)
    · have j15 : r12.toInt = 0 := congrArg Int32.toInt c15
      refine Gl.iconst Y12 (v := (0 : Int32)) (by decide) dH_22 rfl ?_
      exact Gl.retZ Y12 (by decide) (by decide) (x' := (0 : Int32)) (by decide) dH_23 ⟨(0 : Int32), rfl, (by have q0 : (0 : Int32).toInt = 0 := rfl; have q1 : (1 : Int32).toInt = 1 := rfl; have q2 : (-1 : Int32).toInt = -1 := rfl; omega), rfl⟩
    · have j15 : ¬ (r12.toInt = 0) := fun q => c15 (Int32.toInt_inj.mp q)
      refine Gl.iconst Y12 (v := (1 : Int32)) (by decide) dH_18 rfl ?_
      refine Gl.goto Y12 dH_19 (by decide) rfl ?_
      exact Gl.retZ Y12 (by decide) (by decide) (x' := (1 : Int32)) (by decide) dH_23 ⟨(1 : Int32), rfl, (by have q0 : (0 : Int32).toInt = 0 := rfl; have q1 : (1 : Int32).toInt = 1 := rfl; have q2 : (-1 : Int32).toInt = -1 := rfl; omega), rfl⟩
def R50 : Room := { frames := 1, cells := 0, slots := 0, locals := 13 }
def Q50 (Z : State) (o : Addr) (wo : Addr) (ko : ClassId) (x0 : Int64) (x1 : Int64) (x2 : Int64) (x3 : Int64) (h0 : Heap) (v : Option Value) (h : Heap) : Prop := ∃ r : Int32, v = some (.int r) ∧ (((x3.toInt < 0 ∧ r.toInt = -1) ∨ (¬ x3.toInt < 0 ∧ (x0.toInt = 0 ∧ x1.toInt = 0 ∧ x2.toInt = 0 ∧ x3.toInt = 0) ∧ r.toInt = 0) ∨ (¬ x3.toInt < 0 ∧ ¬ (x0.toInt = 0 ∧ x1.toInt = 0 ∧ x2.toInt = 0 ∧ x3.toInt = 0) ∧ r.toInt = 1))) ∧ h0 = h
theorem ef50 (o : Addr) (m : MethodId) : entryFrame m #[(.ref o)] 3 = mkF m 0 #[.val (.ref o), .unset, .unset] [] := by first | (simp [entryFrame, mkF, argsToLocals, Value.category]; done) | rfl
theorem rm50 (l : Launch) (Z : State) (a0 : Array Value) (hw : HW a0 Z) (ws : List Jvm.Cond) (o : Addr) (wo : Addr) (ko : ClassId) (x0 : Int64) (x1 : Int64) (x2 : Int64) (x3 : Int64) (h0 : Heap) (n0 : Nat) (Z0 : n0 ≤ h0.size) (E_o : Exa Z h0 o "com/example/meterwise/meterwise/model/WholeNumber") (F_o : Fld Z h0 o "com/example/meterwise/meterwise/model/WholeNumber" "words" "[J" (.ref wo)) (V_o : Arv Z h0 wo ko .long (4 : Int32) [(.long x0), (.long x1), (.long x2), (.long x3)] (.long 0)) : OMet l Z ws (⟨"com/example/meterwise/meterwise/model/WholeNumber", "signum", "()I"⟩ : MethodName) prog_137_method_9_code 3 (some .int) R50 #[(.ref o)] h0 n0 (Q50 Z o wo ko x0 x1 x2 x3 h0) := by
  refine OMet.of (own := "com/example/meterwise/meterwise/model/WholeNumber") rfl (plainFor_of_name pn_0) (ef50 o) Z0 ?_
  intro p e s m below meth c T0 Y0 hnm
  refine Gl.aloadN Y0 rfl rfl dI_0 rfl ?_
  refine Gl.callP Y0 (tw_42 hw) (tw_43 hw) (tw_44 hw) (tw_1 hw) (tw_2 hw) (tw_45 hw) (by decide) E_o (rm43 l Z a0 hw [] o wo ko x0 x1 x2 x3 h0 n0 Y0.sz E_o F_o V_o) (a := o) (argsL := []) (rest := []) rfl rfl (lenOf pd_2 rfl) rfl (by decide) (Nat.le_of_ble_eq_true rfl) (by decide) (by decide) dI_1 rfl (fun v1 T1 h1 Y1 q1 => ?_)
  obtain ⟨rfl, rfl⟩ := q1
  show Gl p e below _ (T1.setTop (mkF m 4 _ [(.long x3)]))
  refine Gl.lstoreN Y1 (L' := #[.val (.ref o), .val (.long x3), .second]) rfl dI_4 rfl ?_
  refine Gl.lloadN Y1 rfl dI_5 rfl ?_
  refine Gl.lconst Y1 (v := (0 : Int64)) (by decide) dI_6 rfl ?_
  refine Gl.lcmpge Y1 dI_7 rfl dI_8 (by decide) rfl rfl (fun c8 => ?_) (fun c8 => ?_)
  · have j8 : ¬ (x3.toInt < 0) := fun q => c8 (Int64.lt_iff_toInt_lt.mpr q)
    refine Gl.lloadN Y1 rfl dI_13 rfl ?_
    refine Gl.lconst Y1 (v := (0 : Int64)) (by decide) dI_14 rfl ?_
    refine Gl.lcmpne Y1 dI_15 rfl dI_16 (by decide) rfl rfl (fun c16 => ?_) (fun c16 => ?_)
    · have j16 : ¬ (x3.toInt = 0) := fun q => c16 (Int64.toInt_inj.mp q)
      refine Gl.iconst Y1 (v := (1 : Int32)) (by decide) dI_37 rfl ?_
      refine Gl.goto Y1 dI_38 (by decide) rfl ?_
      exact Gl.retI Y1 (by decide) (by decide)  dI_42 ⟨(1 : Int32), rfl, (by have q0 : (0 : Int32).toInt = 0 := rfl; have q1 : (1 : Int32).toInt = 1 := rfl; have q2 : (-1 : Int32).toInt = -1 := rfl; omega), rfl⟩
    · have j16 : x3.toInt = 0 := congrArg Int64.toInt c16
      refine Gl.aloadN Y1 rfl rfl dI_19 rfl ?_
      refine Gl.getF Y1 (host := "") (Or.inl (tw_14 hw)) Via.refl F_o dI_20 rfl (fun T20 Y20 => ?_)
      refine Gl.iconst Y20 (v := (0 : Int32)) (by decide) dI_23 rfl ?_
      refine Gl.laload Y20 V_o ⟨by decide, by decide⟩ (v := (.long x0)) rfl dI_24 rfl ?_
      refine Gl.lconst Y20 (v := (0 : Int64)) (by decide) dI_25 rfl ?_
      refine Gl.lcmpne Y20 dI_26 rfl dI_27 (by decide) rfl rfl (fun c27 => ?_) (fun c27 => ?_)
      · have j27 : ¬ (x0.toInt = 0) := fun q => c27 (Int64.toInt_inj.mp q)
        refine Gl.iconst Y20 (v := (1 : Int32)) (by decide) dI_37 rfl ?_
        refine Gl.goto Y20 dI_38 (by decide) rfl ?_
        exact Gl.retI Y20 (by decide) (by decide)  dI_42 ⟨(1 : Int32), rfl, (by have q0 : (0 : Int32).toInt = 0 := rfl; have q1 : (1 : Int32).toInt = 1 := rfl; have q2 : (-1 : Int32).toInt = -1 := rfl; omega), rfl⟩
      · have j27 : x0.toInt = 0 := congrArg Int64.toInt c27
        refine Gl.aloadN Y20 rfl rfl dI_30 rfl ?_
        refine Gl.callP Y20 (tw_75 hw) (tw_76 hw) (tw_77 hw) (tw_1 hw) (tw_2 hw) (tw_78 hw) (by decide) E_o (rm48 l Z a0 hw [] o wo ko x0 x1 x2 x3 h0 n0 Y20.sz E_o F_o V_o) (a := o) (argsL := []) (rest := []) rfl rfl (lenOf pd_3 rfl) rfl (by decide) (Nat.le_of_ble_eq_true rfl) (by decide) (by decide) dI_31 rfl (fun v31 T31 h31 Y31 q31 => ?_)
        obtain ⟨r31, rfl, p31, rfl⟩ := q31
        have br31 : r31 = 0 ∨ r31 = 1 := by rcases p31 with q | q; exact Or.inr (Int32.toInt_inj.mp q.2); exact Or.inl (Int32.toInt_inj.mp q.2)
        show Gl p e below _ (T31.setTop (mkF m 34 _ [(.int r31)]))
        refine Gl.ifne Y31 dI_34 (by decide) rfl rfl (fun c34 => ?_) (fun c34 => ?_)
        · have j34 : ¬ (r31.toInt = 0) := fun q => c34 (Int32.toInt_inj.mp q)
          refine Gl.iconst Y31 (v := (0 : Int32)) (by decide) dI_41 rfl ?_
          exact Gl.retI Y31 (by decide) (by decide)  dI_42 ⟨(0 : Int32), rfl, (by have q0 : (0 : Int32).toInt = 0 := rfl; have q1 : (1 : Int32).toInt = 1 := rfl; have q2 : (-1 : Int32).toInt = -1 := rfl; omega), rfl⟩
        · have j34 : r31.toInt = 0 := congrArg Int32.toInt c34
          refine Gl.iconst Y31 (v := (1 : Int32)) (by decide) dI_37 rfl ?_
          refine Gl.goto Y31 dI_38 (by decide) rfl ?_
          exact Gl.retI Y31 (by decide) (by decide)  dI_42 ⟨(1 : Int32), rfl, (by have q0 : (0 : Int32).toInt = 0 := rfl; have q1 : (1 : Int32).toInt = 1 := rfl; have q2 : (-1 : Int32).toInt = -1 := rfl; omega), rfl⟩
  · have j8 : x3.toInt < 0 := Int64.lt_iff_toInt_lt.mp c8
    refine Gl.iconst Y1 (v := (-1 : Int32)) (by decide) dI_11 rfl ?_
    exact Gl.retI Y1 (by decide) (by decide)  dI_12 ⟨(-1 : Int32), rfl, (by have q0 : (0 : Int32).toInt = 0 := rfl; have q1 : (1 : Int32).toInt = 1 := rfl; have q2 : (-1 : Int32).toInt = -1 := rfl; omega), rfl⟩
def R51 : Room := { frames := 0, cells := 0, slots := 0, locals := 0 }
def Q51 (Z : State) (o : Addr) (wo : Addr) (ko : ClassId) (x0 : Int64) (x1 : Int64) (x2 : Int64) (x3 : Int64) (h0 : Heap) (v : Option Value) (h : Heap) : Prop := v = some (.ref o) ∧ Keep h0 h [wo] ∧ Arv Z h wo ko .long (4 : Int32) [(.long (own_o x0 1)), (.long (own_o x1 (own_k x0 1))), (.long (own_o x2 (own_k x1 (own_k x0 1)))), (.long (own_o x3 (own_k x2 (own_k x1 (own_k x0 1)))))] (.long 0)
theorem ef51 (o : Addr) (m : MethodId) : entryFrame m #[(.ref o)] 4 = mkF m 0 #[.val (.ref o), .unset, .unset, .unset] [] := by first | (simp [entryFrame, mkF, argsToLocals, Value.category]; done) | rfl
theorem rm51 (l : Launch) (Z : State) (a0 : Array Value) (hw : HW a0 Z) (ws : List Jvm.Cond) (o : Addr) (wo : Addr) (ko : ClassId) (x0 : Int64) (x1 : Int64) (x2 : Int64) (x3 : Int64) (h0 : Heap) (n0 : Nat) (Z0 : n0 ≤ h0.size) (E_o : Exa Z h0 o "com/example/meterwise/meterwise/model/WholeNumber") (F_o : Fld Z h0 o "com/example/meterwise/meterwise/model/WholeNumber" "words" "[J" (.ref wo)) (V_o : Arv Z h0 wo ko .long (4 : Int32) [(.long x0), (.long x1), (.long x2), (.long x3)] (.long 0)) (g_o : n0 ≤ wo) (nn_o : own_ne o wo) : OMet l Z ws (⟨"com/example/meterwise/meterwise/model/WholeNumber", "negate", "()Lcom/example/meterwise/meterwise/model/WholeNumber;"⟩ : MethodName) prog_137_method_19_code 4 (some (.object "com/example/meterwise/meterwise/model/WholeNumber")) R51 #[(.ref o)] h0 n0 (Q51 Z o wo ko x0 x1 x2 x3 h0) := by
  refine OMet.of (own := "com/example/meterwise/meterwise/model/WholeNumber") rfl (plainFor_of_name pn_0) (ef51 o) Z0 ?_
  intro p e s m below meth c T0 Y0 hnm
  refine Gl.lconst Y0 (v := (1 : Int64)) (by decide) dJ_0 rfl ?_
  refine Gl.lstoreN Y0 (L' := #[.val (.ref o), .val (.long 1), .second, .unset]) rfl dJ_1 rfl ?_
  refine Gl.iconst Y0 (v := (0 : Int32)) (by decide) dJ_2 rfl ?_
  refine Gl.istoreN Y0 (L' := #[.val (.ref o), .val (.long 1), .second, .val (.int 0)]) rfl dJ_3 rfl ?_
  refine Gl.iloadN Y0 rfl dJ_4 rfl ?_
  refine Gl.aloadN Y0 rfl rfl dJ_5 rfl ?_
  refine Gl.getF Y0 (host := "") (Or.inl (tw_14 hw)) Via.refl F_o dJ_6 rfl (fun T6 Y6 => ?_)
  refine Gl.arraylength Y6 V_o dJ_9 rfl ?_
  refine Gl.icmpge Y6 dJ_10 (by decide) rfl rfl (fun c10 => ?_) (fun c10 => ?_)
  · exact absurd c10 (by decide)
  refine Gl.aloadN Y6 rfl rfl dJ_13 rfl ?_
  refine Gl.getF Y6 (host := "") (Or.inl (tw_14 hw)) Via.refl F_o dJ_14 rfl (fun T14 Y14 => ?_)
  refine Gl.iloadN Y14 rfl dJ_17 rfl ?_
  refine Gl.aloadN Y14 rfl rfl dJ_18 rfl ?_
  refine Gl.getF Y14 (host := "") (Or.inl (tw_14 hw)) Via.refl F_o dJ_19 rfl (fun T19 Y19 => ?_)
  refine Gl.iloadN Y19 rfl dJ_22 rfl ?_
  refine Gl.laload Y19 V_o ⟨by decide, by decide⟩ (v := (.long x0)) rfl dJ_23 rfl ?_
  refine Gl.ldcJ Y19 (tw_51 hw) dJ_24 rfl ?_
  refine Gl.lxor Y19 rfl dJ_27 rfl ?_
  refine Gl.lloadN Y19 rfl dJ_28 rfl ?_
  refine Gl.ladd Y19 rfl dJ_29 rfl ?_
  refine Gl.lastore Y19 V_o (v := (.long ((x0 ^^^ (-1 : Int64)) + (1 : Int64)))) rfl ⟨by decide, by decide⟩ (ix := 0) rfl (Nat.le_of_ble_eq_true rfl) g_o dJ_30 rfl (fun T30 h30 Y30 W30 A30 => ?_)
  have A30 : Arv Z h30 wo ko .long (4 : Int32) [(.long ((x0 ^^^ (-1 : Int64)) + (1 : Int64))), (.long x1), (.long x2), (.long x3)] (.long 0) := A30
  have K30 : Keep h0 h30 [wo] := (Keep.refl h0 [wo]).wr W30 (Or.inl (List.mem_of_getElem? (i := 0) rfl))
  show Gl p e below _ (T30.setTop (mkF m 31 _ []))
  refine Gl.lloadN Y30 rfl dJ_31 rfl ?_
  refine Gl.aloadN Y30 rfl rfl dJ_32 rfl ?_
  have f1 := (Fld.other W30 F_o (Or.inl nn_o))
  refine Gl.getF Y30 (host := "") (Or.inl (tw_14 hw)) Via.refl f1 dJ_33 rfl (fun T33 Y33 => ?_)
  refine Gl.iloadN Y33 rfl dJ_36 rfl ?_
  refine Gl.laload Y33 A30 ⟨by decide, by decide⟩ (v := (.long ((x0 ^^^ (-1 : Int64)) + (1 : Int64)))) rfl dJ_37 rfl ?_
  refine Gl.lconst Y33 (v := (0 : Int64)) (by decide) dJ_38 rfl ?_
  obtain ⟨z39, hz39⟩ : ∃ z : Int64, (if ((x0 ^^^ (-1 : Int64)) + (1 : Int64)) = (0 : Int64) then (1 : Int64) else (0 : Int64)) = z := ⟨_, rfl⟩
  refine own_cut (B := ∀ T', Sd Z "com/example/meterwise/meterwise/model/WholeNumber" prog_137_method_19_code 4 (some (.object "com/example/meterwise/meterwise/model/WholeNumber")) n0 p l e R51 s m #[(.ref o)] below meth c T' h30 0 0 → Gl p e below (Pst s n0 R51.cells R51.slots (Q51 Z o wo ko x0 x1 x2 x3 h0)) (T'.setTop (mkF m 48 #[.val (.ref o), .val (.long 1), .second, .val (.int 0)] [(.long z39), (.long 1)]))) (fun jk => ?_) (fun T39j Y39j => ?_)
  · refine Gl.lcmpne Y33 dJ_39 rfl dJ_40 (by decide) rfl rfl (fun c40 => ?_) (fun c40 => ?_)
    · refine Gl.lconst Y33 (v := (0 : Int64)) (by decide) dJ_47 rfl ?_
      have ez39 : z39 = (0 : Int64) := by rw [← hz39]; simp only [c40, ↓reduceIte, if_true, if_false]
      rw [ez39] at jk
      exact jk T33 Y33
    · refine Gl.lconst Y33 (v := (1 : Int64)) (by decide) dJ_43 rfl ?_
      refine Gl.goto Y33 dJ_44 (by decide) rfl ?_
      have ez39 : z39 = (1 : Int64) := by rw [← hz39]; simp only [c40, ↓reduceIte, if_true, if_false]
      rw [ez39] at jk
      exact jk T33 Y33
  refine Gl.land Y39j rfl dJ_48 rfl ?_
  refine Gl.lstoreN Y39j (L' := #[.val (.ref o), .val (.long ((1 : Int64) &&& z39)), .second, .val (.int 0)]) rfl dJ_49 rfl ?_
  refine Gl.iinc Y39j rfl (r := (1 : Int32)) (by decide) (L' := #[.val (.ref o), .val (.long ((1 : Int64) &&& z39)), .second, .val (.int 1)]) rfl dJ_50 rfl ?_
  refine Gl.goto Y39j dJ_53 (by decide) rfl ?_
  refine Gl.iloadN Y39j rfl dJ_4 rfl ?_
  refine Gl.aloadN Y39j rfl rfl dJ_5 rfl ?_
  refine Gl.getF Y39j (host := "") (Or.inl (tw_14 hw)) Via.refl f1 dJ_6 rfl (fun T6_2 Y6_2 => ?_)
  refine Gl.arraylength Y6_2 A30 dJ_9 rfl ?_
  refine Gl.icmpge Y6_2 dJ_10 (by decide) rfl rfl (fun c10_2 => ?_) (fun c10_2 => ?_)
  · exact absurd c10_2 (by decide)
  refine Gl.aloadN Y6_2 rfl rfl dJ_13 rfl ?_
  refine Gl.getF Y6_2 (host := "") (Or.inl (tw_14 hw)) Via.refl f1 dJ_14 rfl (fun T14_2 Y14_2 => ?_)
  refine Gl.iloadN Y14_2 rfl dJ_17 rfl ?_
  refine Gl.aloadN Y14_2 rfl rfl dJ_18 rfl ?_
  refine Gl.getF Y14_2 (host := "") (Or.inl (tw_14 hw)) Via.refl f1 dJ_19 rfl (fun T19_2 Y19_2 => ?_)
  refine Gl.iloadN Y19_2 rfl dJ_22 rfl ?_
  refine Gl.laload Y19_2 A30 ⟨by decide, by decide⟩ (v := (.long x1)) rfl dJ_23 rfl ?_
  refine Gl.ldcJ Y19_2 (tw_51 hw) dJ_24 rfl ?_
  refine Gl.lxor Y19_2 rfl dJ_27 rfl ?_
  refine Gl.lloadN Y19_2 rfl dJ_28 rfl ?_
  refine Gl.ladd Y19_2 rfl dJ_29 rfl ?_
  refine Gl.lastore Y19_2 A30 (v := (.long ((x1 ^^^ (-1 : Int64)) + ((1 : Int64) &&& z39)))) rfl ⟨by decide, by decide⟩ (ix := 1) rfl (Nat.le_of_ble_eq_true rfl) g_o dJ_30 rfl (fun T30_2 h30_2 Y30_2 W30_2 A30_2 => ?_)
  have A30_2 : Arv Z h30_2 wo ko .long (4 : Int32) [(.long ((x0 ^^^ (-1 : Int64)) + (1 : Int64))), (.long ((x1 ^^^ (-1 : Int64)) + ((1 : Int64) &&& z39))), (.long x2), (.long x3)] (.long 0) := A30_2
  have K30_2 : Keep h0 h30_2 [wo] := K30.wr W30_2 (Or.inl (List.mem_of_getElem? (i := 0) rfl))
  show Gl p e below _ (T30_2.setTop (mkF m 31 _ []))
  refine Gl.lloadN Y30_2 rfl dJ_31 rfl ?_
  refine Gl.aloadN Y30_2 rfl rfl dJ_32 rfl ?_
  have f2 := (Fld.other W30_2 f1 (Or.inl nn_o))
  refine Gl.getF Y30_2 (host := "") (Or.inl (tw_14 hw)) Via.refl f2 dJ_33 rfl (fun T33_2 Y33_2 => ?_)
  refine Gl.iloadN Y33_2 rfl dJ_36 rfl ?_
  refine Gl.laload Y33_2 A30_2 ⟨by decide, by decide⟩ (v := (.long ((x1 ^^^ (-1 : Int64)) + ((1 : Int64) &&& z39)))) rfl dJ_37 rfl ?_
  refine Gl.lconst Y33_2 (v := (0 : Int64)) (by decide) dJ_38 rfl ?_
  obtain ⟨z39_2, hz39_2⟩ : ∃ z : Int64, (if ((x1 ^^^ (-1 : Int64)) + ((1 : Int64) &&& z39)) = (0 : Int64) then (1 : Int64) else (0 : Int64)) = z := ⟨_, rfl⟩
  refine own_cut (B := ∀ T', Sd Z "com/example/meterwise/meterwise/model/WholeNumber" prog_137_method_19_code 4 (some (.object "com/example/meterwise/meterwise/model/WholeNumber")) n0 p l e R51 s m #[(.ref o)] below meth c T' h30_2 0 0 → Gl p e below (Pst s n0 R51.cells R51.slots (Q51 Z o wo ko x0 x1 x2 x3 h0)) (T'.setTop (mkF m 48 #[.val (.ref o), .val (.long ((1 : Int64) &&& z39)), .second, .val (.int 1)] [(.long z39_2), (.long ((1 : Int64) &&& z39))]))) (fun jk => ?_) (fun T39j_2 Y39j_2 => ?_)
  · refine Gl.lcmpne Y33_2 dJ_39 rfl dJ_40 (by decide) rfl rfl (fun c40 => ?_) (fun c40 => ?_)
    · refine Gl.lconst Y33_2 (v := (0 : Int64)) (by decide) dJ_47 rfl ?_
      have ez39_2 : z39_2 = (0 : Int64) := by rw [← hz39_2]; simp only [c40, ↓reduceIte, if_true, if_false]
      rw [ez39_2] at jk
      exact jk T33_2 Y33_2
    · refine Gl.lconst Y33_2 (v := (1 : Int64)) (by decide) dJ_43 rfl ?_
      refine Gl.goto Y33_2 dJ_44 (by decide) rfl ?_
      have ez39_2 : z39_2 = (1 : Int64) := by rw [← hz39_2]; simp only [c40, ↓reduceIte, if_true, if_false]
      rw [ez39_2] at jk
      exact jk T33_2 Y33_2
  refine Gl.land Y39j_2 rfl dJ_48 rfl ?_
  refine Gl.lstoreN Y39j_2 (L' := #[.val (.ref o), .val (.long (((1 : Int64) &&& z39) &&& z39_2)), .second, .val (.int 1)]) rfl dJ_49 rfl ?_
  refine Gl.iinc Y39j_2 rfl (r := (2 : Int32)) (by decide) (L' := #[.val (.ref o), .val (.long (((1 : Int64) &&& z39) &&& z39_2)), .second, .val (.int 2)]) rfl dJ_50 rfl ?_
  refine Gl.goto Y39j_2 dJ_53 (by decide) rfl ?_
  refine Gl.iloadN Y39j_2 rfl dJ_4 rfl ?_
  refine Gl.aloadN Y39j_2 rfl rfl dJ_5 rfl ?_
  refine Gl.getF Y39j_2 (host := "") (Or.inl (tw_14 hw)) Via.refl f2 dJ_6 rfl (fun T6_3 Y6_3 => ?_)
  refine Gl.arraylength Y6_3 A30_2 dJ_9 rfl ?_
  refine Gl.icmpge Y6_3 dJ_10 (by decide) rfl rfl (fun c10_3 => ?_) (fun c10_3 => ?_)
  · exact absurd c10_3 (by decide)
  refine Gl.aloadN Y6_3 rfl rfl dJ_13 rfl ?_
  refine Gl.getF Y6_3 (host := "") (Or.inl (tw_14 hw)) Via.refl f2 dJ_14 rfl (fun T14_3 Y14_3 => ?_)
  refine Gl.iloadN Y14_3 rfl dJ_17 rfl ?_
  refine Gl.aloadN Y14_3 rfl rfl dJ_18 rfl ?_
  refine Gl.getF Y14_3 (host := "") (Or.inl (tw_14 hw)) Via.refl f2 dJ_19 rfl (fun T19_3 Y19_3 => ?_)
  refine Gl.iloadN Y19_3 rfl dJ_22 rfl ?_
  refine Gl.laload Y19_3 A30_2 ⟨by decide, by decide⟩ (v := (.long x2)) rfl dJ_23 rfl ?_
  refine Gl.ldcJ Y19_3 (tw_51 hw) dJ_24 rfl ?_
  refine Gl.lxor Y19_3 rfl dJ_27 rfl ?_
  refine Gl.lloadN Y19_3 rfl dJ_28 rfl ?_
  refine Gl.ladd Y19_3 rfl dJ_29 rfl ?_
  refine Gl.lastore Y19_3 A30_2 (v := (.long ((x2 ^^^ (-1 : Int64)) + (((1 : Int64) &&& z39) &&& z39_2)))) rfl ⟨by decide, by decide⟩ (ix := 2) rfl (Nat.le_of_ble_eq_true rfl) g_o dJ_30 rfl (fun T30_3 h30_3 Y30_3 W30_3 A30_3 => ?_)
  have A30_3 : Arv Z h30_3 wo ko .long (4 : Int32) [(.long ((x0 ^^^ (-1 : Int64)) + (1 : Int64))), (.long ((x1 ^^^ (-1 : Int64)) + ((1 : Int64) &&& z39))), (.long ((x2 ^^^ (-1 : Int64)) + (((1 : Int64) &&& z39) &&& z39_2))), (.long x3)] (.long 0) := A30_3
  have K30_3 : Keep h0 h30_3 [wo] := K30_2.wr W30_3 (Or.inl (List.mem_of_getElem? (i := 0) rfl))
  show Gl p e below _ (T30_3.setTop (mkF m 31 _ []))
  refine Gl.lloadN Y30_3 rfl dJ_31 rfl ?_
  refine Gl.aloadN Y30_3 rfl rfl dJ_32 rfl ?_
  have f3 := (Fld.other W30_3 f2 (Or.inl nn_o))
  refine Gl.getF Y30_3 (host := "") (Or.inl (tw_14 hw)) Via.refl f3 dJ_33 rfl (fun T33_3 Y33_3 => ?_)
  refine Gl.iloadN Y33_3 rfl dJ_36 rfl ?_
  refine Gl.laload Y33_3 A30_3 ⟨by decide, by decide⟩ (v := (.long ((x2 ^^^ (-1 : Int64)) + (((1 : Int64) &&& z39) &&& z39_2)))) rfl dJ_37 rfl ?_
  refine Gl.lconst Y33_3 (v := (0 : Int64)) (by decide) dJ_38 rfl ?_
  obtain ⟨z39_3, hz39_3⟩ : ∃ z : Int64, (if ((x2 ^^^ (-1 : Int64)) + (((1 : Int64) &&& z39) &&& z39_2)) = (0 : Int64) then (1 : Int64) else (0 : Int64)) = z := ⟨_, rfl⟩
  refine own_cut (B := ∀ T', Sd Z "com/example/meterwise/meterwise/model/WholeNumber" prog_137_method_19_code 4 (some (.object "com/example/meterwise/meterwise/model/WholeNumber")) n0 p l e R51 s m #[(.ref o)] below meth c T' h30_3 0 0 → Gl p e below (Pst s n0 R51.cells R51.slots (Q51 Z o wo ko x0 x1 x2 x3 h0)) (T'.setTop (mkF m 48 #[.val (.ref o), .val (.long (((1 : Int64) &&& z39) &&& z39_2)), .second, .val (.int 2)] [(.long z39_3), (.long (((1 : Int64) &&& z39) &&& z39_2))]))) (fun jk => ?_) (fun T39j_3 Y39j_3 => ?_)
  · refine Gl.lcmpne Y33_3 dJ_39 rfl dJ_40 (by decide) rfl rfl (fun c40 => ?_) (fun c40 => ?_)
    · refine Gl.lconst Y33_3 (v := (0 : Int64)) (by decide) dJ_47 rfl ?_
      have ez39_3 : z39_3 = (0 : Int64) := by rw [← hz39_3]; simp only [c40, ↓reduceIte, if_true, if_false]
      rw [ez39_3] at jk
      exact jk T33_3 Y33_3
    · refine Gl.lconst Y33_3 (v := (1 : Int64)) (by decide) dJ_43 rfl ?_
      refine Gl.goto Y33_3 dJ_44 (by decide) rfl ?_
      have ez39_3 : z39_3 = (1 : Int64) := by rw [← hz39_3]; simp only [c40, ↓reduceIte, if_true, if_false]
      rw [ez39_3] at jk
      exact jk T33_3 Y33_3
  refine Gl.land Y39j_3 rfl dJ_48 rfl ?_
  refine Gl.lstoreN Y39j_3 (L' := #[.val (.ref o), .val (.long ((((1 : Int64) &&& z39) &&& z39_2) &&& z39_3)), .second, .val (.int 2)]) rfl dJ_49 rfl ?_
  refine Gl.iinc Y39j_3 rfl (r := (3 : Int32)) (by decide) (L' := #[.val (.ref o), .val (.long ((((1 : Int64) &&& z39) &&& z39_2) &&& z39_3)), .second, .val (.int 3)]) rfl dJ_50 rfl ?_
  refine Gl.goto Y39j_3 dJ_53 (by decide) rfl ?_
  refine Gl.iloadN Y39j_3 rfl dJ_4 rfl ?_
  refine Gl.aloadN Y39j_3 rfl rfl dJ_5 rfl ?_
  refine Gl.getF Y39j_3 (host := "") (Or.inl (tw_14 hw)) Via.refl f3 dJ_6 rfl (fun T6_4 Y6_4 => ?_)
  refine Gl.arraylength Y6_4 A30_3 dJ_9 rfl ?_
  refine Gl.icmpge Y6_4 dJ_10 (by decide) rfl rfl (fun c10_4 => ?_) (fun c10_4 => ?_)
  · exact absurd c10_4 (by decide)
  refine Gl.aloadN Y6_4 rfl rfl dJ_13 rfl ?_
  refine Gl.getF Y6_4 (host := "") (Or.inl (tw_14 hw)) Via.refl f3 dJ_14 rfl (fun T14_4 Y14_4 => ?_)
  refine Gl.iloadN Y14_4 rfl dJ_17 rfl ?_
  refine Gl.aloadN Y14_4 rfl rfl dJ_18 rfl ?_
  refine Gl.getF Y14_4 (host := "") (Or.inl (tw_14 hw)) Via.refl f3 dJ_19 rfl (fun T19_4 Y19_4 => ?_)
  refine Gl.iloadN Y19_4 rfl dJ_22 rfl ?_
  refine Gl.laload Y19_4 A30_3 ⟨by decide, by decide⟩ (v := (.long x3)) rfl dJ_23 rfl ?_
  refine Gl.ldcJ Y19_4 (tw_51 hw) dJ_24 rfl ?_
  refine Gl.lxor Y19_4 rfl dJ_27 rfl ?_
  refine Gl.lloadN Y19_4 rfl dJ_28 rfl ?_
  refine Gl.ladd Y19_4 rfl dJ_29 rfl ?_
  refine Gl.lastore Y19_4 A30_3 (v := (.long ((x3 ^^^ (-1 : Int64)) + ((((1 : Int64) &&& z39) &&& z39_2) &&& z39_3)))) rfl ⟨by decide, by decide⟩ (ix := 3) rfl (Nat.le_of_ble_eq_true rfl) g_o dJ_30 rfl (fun T30_4 h30_4 Y30_4 W30_4 A30_4 => ?_)
  have A30_4 : Arv Z h30_4 wo ko .long (4 : Int32) [(.long ((x0 ^^^ (-1 : Int64)) + (1 : Int64))), (.long ((x1 ^^^ (-1 : Int64)) + ((1 : Int64) &&& z39))), (.long ((x2 ^^^ (-1 : Int64)) + (((1 : Int64) &&& z39) &&& z39_2))), (.long ((x3 ^^^ (-1 : Int64)) + ((((1 : Int64) &&& z39) &&& z39_2) &&& z39_3)))] (.long 0) := A30_4
  have K30_4 : Keep h0 h30_4 [wo] := K30_3.wr W30_4 (Or.inl (List.mem_of_getElem? (i := 0) rfl))
  show Gl p e below _ (T30_4.setTop (mkF m 31 _ []))
  refine Gl.lloadN Y30_4 rfl dJ_31 rfl ?_
  refine Gl.aloadN Y30_4 rfl rfl dJ_32 rfl ?_
  have f4 := (Fld.other W30_4 f3 (Or.inl nn_o))
  refine Gl.getF Y30_4 (host := "") (Or.inl (tw_14 hw)) Via.refl f4 dJ_33 rfl (fun T33_4 Y33_4 => ?_)
  refine Gl.iloadN Y33_4 rfl dJ_36 rfl ?_
  refine Gl.laload Y33_4 A30_4 ⟨by decide, by decide⟩ (v := (.long ((x3 ^^^ (-1 : Int64)) + ((((1 : Int64) &&& z39) &&& z39_2) &&& z39_3)))) rfl dJ_37 rfl ?_
  refine Gl.lconst Y33_4 (v := (0 : Int64)) (by decide) dJ_38 rfl ?_
  obtain ⟨z39_4, hz39_4⟩ : ∃ z : Int64, (if ((x3 ^^^ (-1 : Int64)) + ((((1 : Int64) &&& z39) &&& z39_2) &&& z39_3)) = (0 : Int64) then (1 : Int64) else (0 : Int64)) = z := ⟨_, rfl⟩
  refine own_cut (B := ∀ T', Sd Z "com/example/meterwise/meterwise/model/WholeNumber" prog_137_method_19_code 4 (some (.object "com/example/meterwise/meterwise/model/WholeNumber")) n0 p l e R51 s m #[(.ref o)] below meth c T' h30_4 0 0 → Gl p e below (Pst s n0 R51.cells R51.slots (Q51 Z o wo ko x0 x1 x2 x3 h0)) (T'.setTop (mkF m 48 #[.val (.ref o), .val (.long ((((1 : Int64) &&& z39) &&& z39_2) &&& z39_3)), .second, .val (.int 3)] [(.long z39_4), (.long ((((1 : Int64) &&& z39) &&& z39_2) &&& z39_3))]))) (fun jk => ?_) (fun T39j_4 Y39j_4 => ?_)
  · refine Gl.lcmpne Y33_4 dJ_39 rfl dJ_40 (by decide) rfl rfl (fun c40 => ?_) (fun c40 => ?_)
    · refine Gl.lconst Y33_4 (v := (0 : Int64)) (by decide) dJ_47 rfl ?_
      have ez39_4 : z39_4 = (0 : Int64) := by rw [← hz39_4]; simp only [c40, ↓reduceIte, if_true, if_false]
      rw [ez39_4] at jk
      exact jk T33_4 Y33_4
    · refine Gl.lconst Y33_4 (v := (1 : Int64)) (by decide) dJ_43 rfl ?_
      refine Gl.goto Y33_4 dJ_44 (by decide) rfl ?_
      have ez39_4 : z39_4 = (1 : Int64) := by rw [← hz39_4]; simp only [c40, ↓reduceIte, if_true, if_false]
      rw [ez39_4] at jk
      exact jk T33_4 Y33_4
  refine Gl.land Y39j_4 rfl dJ_48 rfl ?_
  refine Gl.lstoreN Y39j_4 (L' := #[.val (.ref o), .val (.long (((((1 : Int64) &&& z39) &&& z39_2) &&& z39_3) &&& z39_4)), .second, .val (.int 3)]) rfl dJ_49 rfl ?_
  refine Gl.iinc Y39j_4 rfl (r := (4 : Int32)) (by decide) (L' := #[.val (.ref o), .val (.long (((((1 : Int64) &&& z39) &&& z39_2) &&& z39_3) &&& z39_4)), .second, .val (.int 4)]) rfl dJ_50 rfl ?_
  refine Gl.goto Y39j_4 dJ_53 (by decide) rfl ?_
  refine Gl.iloadN Y39j_4 rfl dJ_4 rfl ?_
  refine Gl.aloadN Y39j_4 rfl rfl dJ_5 rfl ?_
  refine Gl.getF Y39j_4 (host := "") (Or.inl (tw_14 hw)) Via.refl f4 dJ_6 rfl (fun T6_5 Y6_5 => ?_)
  refine Gl.arraylength Y6_5 A30_4 dJ_9 rfl ?_
  refine Gl.icmpge Y6_5 dJ_10 (by decide) rfl rfl (fun c10_5 => ?_) (fun c10_5 => ?_)
  rotate_left
  · exact absurd c10_5 (by decide)
  refine Gl.aloadN Y6_5 rfl rfl dJ_56 rfl ?_
  subst hz39 hz39_2 hz39_3 hz39_4
  exact Gl.retA Y6_5 (by decide) (by decide) rfl rfl dJ_57 ⟨rfl, K30_4, A30_4⟩
def R52 : Room := { frames := 0, cells := 0, slots := 0, locals := 0 }
def Q52 (Z : State) (h0 : Heap) (v : Option Value) (h : Heap) : Prop := v = some (.int 4) ∧ h0 = h
theorem ef52 (m : MethodId) : entryFrame m #[(.int 4), (.int 4)] 2 = mkF m 0 #[.val (.int 4), .val (.int 4)] [] := by first | (simp [entryFrame, mkF, argsToLocals, Value.category]; done) | rfl
theorem rm52 (l : Launch) (Z : State) (a0 : Array Value) (hw : HW a0 Z) (ws : List Jvm.Cond) (h0 : Heap) (n0 : Nat) (Z0 : n0 ≤ h0.size) : OMet l Z ws (⟨"java/lang/Math", "max", "(II)I"⟩ : MethodName) jdk_29_method_65_code 2 (some .int) R52 #[(.int 4), (.int 4)] h0 n0 (Q52 Z h0) := by
  refine OMet.of (own := "java/lang/Math") rfl (Jvm.Free.JP.mathPlain rfl (by decide +kernel)) (ef52) Z0 ?_
  intro p e s m below meth c T0 Y0 hnm
  refine Gl.iloadN Y0 rfl dK_0 rfl ?_
  refine Gl.iloadN Y0 rfl dK_1 rfl ?_
  refine Gl.icmplt Y0 dK_2 (by decide) rfl rfl (fun c2 => ?_) (fun c2 => ?_)
  · exact absurd c2 (by decide)
  refine Gl.iloadN Y0 rfl dK_5 rfl ?_
  refine Gl.goto Y0 dK_6 (by decide) rfl ?_
  exact Gl.retI Y0 (by decide) (by decide)  dK_10 ⟨rfl, rfl⟩
def R53 : Room := { frames := 1, cells := 0, slots := 0, locals := 16 }
def Q53 (Z : State) (o : Addr) (wo : Addr) (ko : ClassId) (x0 : Int64) (x1 : Int64) (x2 : Int64) (x3 : Int64) (h0 : Heap) (v : Option Value) (h : Heap) : Prop := v = some (.ref o) ∧ Keep h0 h [wo] ∧ Arv Z h wo ko .long (4 : Int32) [(.long 0), (.long 0), (.long 0), (.long (-9223372036854775808))] (.long 0)
theorem ef53 (o : Addr) (m : MethodId) : entryFrame m #[(.ref o)] 1 = mkF m 0 #[.val (.ref o)] [] := by first | (simp [entryFrame, mkF, argsToLocals, Value.category]; done) | rfl
theorem rm53 (l : Launch) (Z : State) (a0 : Array Value) (hw : HW a0 Z) (ws : List Jvm.Cond) (o : Addr) (wo : Addr) (ko : ClassId) (x0 : Int64) (x1 : Int64) (x2 : Int64) (x3 : Int64) (h0 : Heap) (n0 : Nat) (Z0 : n0 ≤ h0.size) (E_o : Exa Z h0 o "com/example/meterwise/meterwise/model/WholeNumber") (F_o : Fld Z h0 o "com/example/meterwise/meterwise/model/WholeNumber" "words" "[J" (.ref wo)) (V_o : Arv Z h0 wo ko .long (4 : Int32) [(.long x0), (.long x1), (.long x2), (.long x3)] (.long 0)) (g_o : n0 ≤ wo) (nn_o : own_ne o wo) : OMet l Z ws (⟨"com/example/meterwise/meterwise/model/WholeNumber", "overflow", "()Lcom/example/meterwise/meterwise/model/WholeNumber;"⟩ : MethodName) prog_137_method_7_code 1 (some (.object "com/example/meterwise/meterwise/model/WholeNumber")) R53 #[(.ref o)] h0 n0 (Q53 Z o wo ko x0 x1 x2 x3 h0) := by
  refine OMet.of (own := "com/example/meterwise/meterwise/model/WholeNumber") rfl (plainFor_of_name pn_0) (ef53 o) Z0 ?_
  intro p e s m below meth c T0 Y0 hnm
  refine Gl.aloadN Y0 rfl rfl dL_0 rfl ?_
  refine Gl.getF Y0 (host := "") (Or.inl (tw_14 hw)) Via.refl F_o dL_1 rfl (fun T1 Y1 => ?_)
  refine Gl.lconst Y1 (v := (0 : Int64)) (by decide) dL_4 rfl ?_
  refine Gl.callS Y1 (tw_72 hw) (tw_73 hw) (tw_23 hw) (tw_74 hw) (by decide) (rm44 l Z a0 hw [] wo ko x0 x1 x2 x3 h0 n0 Y1.sz V_o g_o) (argsL := [(.ref wo), (.long 0)]) (rest := []) rfl rfl (lenOf pd_4 rfl) rfl (by decide) (Nat.le_of_ble_eq_true rfl) (by decide) (by decide) dL_5 rfl (fun v5 T5 h5 Y5 q5 => ?_)
  obtain ⟨rfl, K5, f5_0⟩ := q5
  have KK5 : Keep h0 h5 [wo] := (Keep.refl h0 [wo]).trans K5 (allS (Or.inl (List.mem_of_getElem? (i := 0) rfl)) all0)
  show Gl p e below _ (T5.setTop (mkF m 8 _ []))
  refine Gl.aloadN Y5 rfl rfl dL_8 rfl ?_
  have f1 := (F_o.keep K5 (ninS nn_o nin0))
  refine Gl.getF Y5 (host := "") (Or.inl (tw_14 hw)) Via.refl f1 dL_9 rfl (fun T9 Y9 => ?_)
  refine Gl.aloadN Y9 rfl rfl dL_12 rfl ?_
  refine Gl.getF Y9 (host := "") (Or.inl (tw_14 hw)) Via.refl f1 dL_13 rfl (fun T13 Y13 => ?_)
  refine Gl.arraylength Y13 f5_0 dL_16 rfl ?_
  refine Gl.iconst Y13 (v := (1 : Int32)) (by decide) dL_17 rfl ?_
  refine Gl.isub Y13 (r := (3 : Int32)) (by decide) dL_18 rfl ?_
  refine Gl.ldcJ Y13 (tw_46 hw) dL_19 rfl ?_
  refine Gl.lastore Y13 f5_0 (v := (.long (-9223372036854775808))) rfl ⟨by decide, by decide⟩ (ix := 3) rfl (Nat.le_of_ble_eq_true rfl) g_o dL_22 rfl (fun T22 h22 Y22 W22 A22 => ?_)
  have A22 : Arv Z h22 wo ko .long (4 : Int32) [(.long 0), (.long 0), (.long 0), (.long (-9223372036854775808))] (.long 0) := A22
  have K22 : Keep h0 h22 [wo] := KK5.wr W22 (Or.inl (List.mem_of_getElem? (i := 0) rfl))
  show Gl p e below _ (T22.setTop (mkF m 23 _ []))
  refine Gl.aloadN Y22 rfl rfl dL_23 rfl ?_
  exact Gl.retA Y22 (by decide) (by decide) rfl rfl dL_24 ⟨rfl, K22, A22⟩
def R54 : Room := { frames := 2, cells := 0, slots := 0, locals := 25 }
def Q54 (Z : State) (o : Addr) (wo : Addr) (ko : ClassId) (x0 : Int64) (sx : Int64) (u : Addr) (wu : Addr) (ku : ClassId) (y0 : Int64) (sy : Int64) (h0 : Heap) (v : Option Value) (h : Heap) : Prop := ∃ e0 : Int64, ∃ e1 : Int64, v = some (.ref o) ∧ (x0.toInt + y0.toInt = e1.toInt * 18446744073709551616 + e0.toInt % 18446744073709551616 ∧ (e1.toInt = 0 ∨ e1.toInt = -1)) ∧ Keep h0 h [wo] ∧ Arv Z h wo ko .long (4 : Int32) [(.long e0), (.long e1), (.long e1), (.long e1)] (.long 0)
theorem ef54 (o : Addr) (u : Addr) (m : MethodId) : entryFrame m #[(.ref o), (.ref u), (.int 0)] 21 = mkF m 0 #[.val (.ref o), .val (.ref u), .val (.int 0), .unset, .unset, .unset, .unset, .unset, .unset, .unset, .unset, .unset, .unset, .unset, .unset, .unset, .unset, .unset, .unset, .unset, .unset] [] := by first | (simp [entryFrame, mkF, argsToLocals, Value.category]; done) | rfl
theorem rm54 (l : Launch) (Z : State) (a0 : Array Value) (hw : HW a0 Z) (ws : List Jvm.Cond) (o : Addr) (wo : Addr) (ko : ClassId) (x0 : Int64) (sx : Int64) (u : Addr) (wu : Addr) (ku : ClassId) (y0 : Int64) (sy : Int64) (h0 : Heap) (n0 : Nat) (Z0 : n0 ≤ h0.size) (E_o : Exa Z h0 o "com/example/meterwise/meterwise/model/WholeNumber") (F_o : Fld Z h0 o "com/example/meterwise/meterwise/model/WholeNumber" "words" "[J" (.ref wo)) (V_o : Arv Z h0 wo ko .long (4 : Int32) [(.long x0), (.long sx), (.long sx), (.long sx)] (.long 0)) (g_o : n0 ≤ wo) (nn_o : own_ne o wo) (E_u : Exa Z h0 u "com/example/meterwise/meterwise/model/WholeNumber") (F_u : Fld Z h0 u "com/example/meterwise/meterwise/model/WholeNumber" "words" "[J" (.ref wu)) (V_u : Arv Z h0 wu ku .long (4 : Int32) [(.long y0), (.long sy), (.long sy), (.long sy)] (.long 0)) (nw : own_ne wo wu) (np : own_ne u wo) (hsx : x0 >>> ((63 : Int32) &&& 0x3f).toInt64 = sx) (hsy : y0 >>> ((63 : Int32) &&& 0x3f).toInt64 = sy) : OMet l Z ws (⟨"com/example/meterwise/meterwise/model/WholeNumber", "add", "(Lcom/example/meterwise/meterwise/model/WholeNumber;Z)Lcom/example/meterwise/meterwise/model/WholeNumber;"⟩ : MethodName) prog_137_method_14_code 21 (some (.object "com/example/meterwise/meterwise/model/WholeNumber")) R54 #[(.ref o), (.ref u), (.int 0)] h0 n0 (Q54 Z o wo ko x0 sx u wu ku y0 sy h0) := by
  refine OMet.of (own := "com/example/meterwise/meterwise/model/WholeNumber") rfl (plainFor_of_name pn_0) (ef54 o u) Z0 ?_
  intro p e s m below meth c T0 Y0 hnm
  refine Gl.aloadN Y0 rfl rfl dM_0 rfl ?_
  refine Gl.callV Y0 (tw_37 hw) (tw_38 hw) (tw_40 hw) (tw_40 hw) (tw_39 hw) (tw_2 hw) (tw_41 hw) (by decide) E_o (rm49 l Z a0 hw [] o wo ko x0 sx sx sx h0 n0 Y0.sz E_o F_o V_o) (a := o) (argsL := []) (rest := []) rfl rfl (lenOf pd_3 rfl) rfl (by decide) (Nat.le_of_ble_eq_true rfl) (by decide) (by decide) dM_1 rfl (fun v1 T1 h1 Y1 q1 => ?_)
  obtain ⟨r1, rfl, p1, rfl⟩ := q1
  have br1 : r1 = 0 ∨ r1 = 1 := by rcases p1 with q | q; exact Or.inr (Int32.toInt_inj.mp q.2); exact Or.inl (Int32.toInt_inj.mp q.2)
  show Gl p e below _ (T1.setTop (mkF m 4 _ [(.int r1)]))
  refine Gl.ifne Y1 dM_4 (by decide) rfl rfl (fun c4 => ?_) (fun c4 => ?_)
  · exfalso
    rcases p1 with z | z
    · have := own_sx01 hsx; omega
    · exact c4 (Int32.toInt_inj.mp z.2)
  refine Gl.aloadN Y1 rfl rfl dM_7 rfl ?_
  refine Gl.callV Y1 (tw_37 hw) (tw_38 hw) (tw_40 hw) (tw_40 hw) (tw_39 hw) (tw_2 hw) (tw_41 hw) (by decide) E_u (rm49 l Z a0 hw [] u wu ku y0 sy sy sy h0 n0 Y1.sz E_u F_u V_u) (a := u) (argsL := []) (rest := []) rfl rfl (lenOf pd_3 rfl) rfl (by decide) (Nat.le_of_ble_eq_true rfl) (by decide) (by decide) dM_8 rfl (fun v8 T8 h8 Y8 q8 => ?_)
  obtain ⟨r8, rfl, p8, rfl⟩ := q8
  have br8 : r8 = 0 ∨ r8 = 1 := by rcases p8 with q | q; exact Or.inr (Int32.toInt_inj.mp q.2); exact Or.inl (Int32.toInt_inj.mp q.2)
  show Gl p e below _ (T8.setTop (mkF m 11 _ [(.int r8)]))
  refine Gl.ifeq Y8 dM_11 (by decide) rfl rfl (fun c11 => ?_) (fun c11 => ?_)
  rotate_left
  · exfalso
    rcases p8 with z | z
    · have := own_sx01 hsy; omega
    · exact c11 (Int32.toInt_inj.mp z.2)
  refine Gl.aloadN Y8 rfl rfl dM_19 rfl ?_
  refine Gl.getF Y8 (host := "") (Or.inl (tw_14 hw)) Via.refl F_u dM_20 rfl (fun T20 Y20 => ?_)
  refine Gl.astoreN Y20 rfl (L' := #[.val (.ref o), .val (.ref u), .val (.int 0), .val (.ref wu), .unset, .unset, .unset, .unset, .unset, .unset, .unset, .unset, .unset, .unset, .unset, .unset, .unset, .unset, .unset, .unset, .unset]) rfl dM_23 rfl ?_
  refine Gl.aloadN Y20 rfl rfl dM_24 rfl ?_
  refine Gl.getF Y20 (host := "") (Or.inl (tw_14 hw)) Via.refl F_o dM_25 rfl (fun T25 Y25 => ?_)
  refine Gl.arraylength Y25 V_o dM_28 rfl ?_
  refine Gl.aloadN Y25 rfl rfl dM_29 rfl ?_
  refine Gl.arraylength Y25 V_u dM_30 rfl ?_
  refine Gl.callS Y25 (tw_47 hw) (tw_48 hw) (tw_49 hw) (tw_50 hw) (by decide) (rm52 l Z a0 hw [] h0 n0 Y25.sz) (argsL := [(.int 4), (.int 4)]) (rest := []) rfl rfl (lenOf pd_6 rfl) rfl (by decide) (Nat.le_of_ble_eq_true rfl) (by decide) (by decide) dM_31 rfl (fun v31 T31 h31 Y31 q31 => ?_)
  obtain ⟨rfl, rfl⟩ := q31
  show Gl p e below _ (T31.setTop (mkF m 34 _ [(.int 4)]))
  refine Gl.istore Y31 (L' := #[.val (.ref o), .val (.ref u), .val (.int 0), .val (.ref wu), .val (.int 4), .unset, .unset, .unset, .unset, .unset, .unset, .unset, .unset, .unset, .unset, .unset, .unset, .unset, .unset, .unset, .unset]) rfl dM_34 rfl ?_
  refine Gl.aloadN Y31 rfl rfl dM_36 rfl ?_
  refine Gl.callP Y31 (tw_42 hw) (tw_43 hw) (tw_44 hw) (tw_1 hw) (tw_2 hw) (tw_45 hw) (by decide) E_o (rm43 l Z a0 hw [] o wo ko x0 sx sx sx h0 n0 Y31.sz E_o F_o V_o) (a := o) (argsL := []) (rest := []) rfl rfl (lenOf pd_2 rfl) rfl (by decide) (Nat.le_of_ble_eq_true rfl) (by decide) (by decide) dM_37 rfl (fun v37 T37 h37 Y37 q37 => ?_)
  obtain ⟨rfl, rfl⟩ := q37
  show Gl p e below _ (T37.setTop (mkF m 40 _ [(.long sx)]))
  refine Gl.bipush Y37 (v := (63 : Int32)) (by decide) dM_40 rfl ?_
  obtain ⟨v42, hv42⟩ : ∃ z : Int64, (sx >>> ((63 : Int32) &&& 0x3f).toInt64) = z := ⟨_, rfl⟩
  refine Gl.lshr Y37 hv42 dM_42 rfl ?_
  refine Gl.lstore Y37 (L' := #[.val (.ref o), .val (.ref u), .val (.int 0), .val (.ref wu), .val (.int 4), .val (.long v42), .second, .unset, .unset, .unset, .unset, .unset, .unset, .unset, .unset, .unset, .unset, .unset, .unset, .unset, .unset]) rfl dM_43 rfl ?_
  refine Gl.aloadN Y37 rfl rfl dM_45 rfl ?_
  refine Gl.aloadN Y37 rfl rfl dM_46 rfl ?_
  refine Gl.arraylength Y37 V_u dM_47 rfl ?_
  refine Gl.iconst Y37 (v := (1 : Int32)) (by decide) dM_48 rfl ?_
  refine Gl.isub Y37 (r := (3 : Int32)) (by decide) dM_49 rfl ?_
  refine Gl.laload Y37 V_u ⟨by decide, by decide⟩ (v := (.long sy)) rfl dM_50 rfl ?_
  refine Gl.bipush Y37 (v := (63 : Int32)) (by decide) dM_51 rfl ?_
  obtain ⟨v53, hv53⟩ : ∃ z : Int64, (sy >>> ((63 : Int32) &&& 0x3f).toInt64) = z := ⟨_, rfl⟩
  refine Gl.lshr Y37 hv53 dM_53 rfl ?_
  refine Gl.lstore Y37 (L' := #[.val (.ref o), .val (.ref u), .val (.int 0), .val (.ref wu), .val (.int 4), .val (.long v42), .second, .val (.long v53), .second, .unset, .unset, .unset, .unset, .unset, .unset, .unset, .unset, .unset, .unset, .unset, .unset]) rfl dM_54 rfl ?_
  refine Gl.iloadN Y37 rfl dM_56 rfl ?_
  refine Gl.ifeq Y37 dM_57 (by decide) rfl rfl (fun c57 => ?_) (fun c57 => ?_)
  rotate_left
  · exact absurd c57 (by decide)
  refine Gl.lconst Y37 (v := (0 : Int64)) (by decide) dM_66 rfl ?_
  refine Gl.lstore Y37 (L' := #[.val (.ref o), .val (.ref u), .val (.int 0), .val (.ref wu), .val (.int 4), .val (.long v42), .second, .val (.long v53), .second, .val (.long 0), .second, .unset, .unset, .unset, .unset, .unset, .unset, .unset, .unset, .unset, .unset]) rfl dM_67 rfl ?_
  refine Gl.iloadN Y37 rfl dM_69 rfl ?_
  refine Gl.ifeq Y37 dM_70 (by decide) rfl rfl (fun c70 => ?_) (fun c70 => ?_)
  rotate_left
  · exact absurd c70 (by decide)
  refine Gl.lconst Y37 (v := (0 : Int64)) (by decide) dM_77 rfl ?_
  refine Gl.lstore Y37 (L' := #[.val (.ref o), .val (.ref u), .val (.int 0), .val (.ref wu), .val (.int 4), .val (.long v42), .second, .val (.long v53), .second, .val (.long 0), .second, .val (.long 0), .second, .unset, .unset, .unset, .unset, .unset, .unset, .unset, .unset]) rfl dM_78 rfl ?_
  refine Gl.lconst Y37 (v := (0 : Int64)) (by decide) dM_80 rfl ?_
  refine Gl.lstore Y37 (L' := #[.val (.ref o), .val (.ref u), .val (.int 0), .val (.ref wu), .val (.int 4), .val (.long v42), .second, .val (.long v53), .second, .val (.long 0), .second, .val (.long 0), .second, .val (.long 0), .second, .unset, .unset, .unset, .unset, .unset, .unset]) rfl dM_81 rfl ?_
  refine Gl.lconst Y37 (v := (0 : Int64)) (by decide) dM_83 rfl ?_
  refine Gl.lstore Y37 (L' := #[.val (.ref o), .val (.ref u), .val (.int 0), .val (.ref wu), .val (.int 4), .val (.long v42), .second, .val (.long v53), .second, .val (.long 0), .second, .val (.long 0), .second, .val (.long 0), .second, .val (.long 0), .second, .unset, .unset, .unset, .unset]) rfl dM_84 rfl ?_
  refine Gl.lconst Y37 (v := (0 : Int64)) (by decide) dM_86 rfl ?_
  refine Gl.lstore Y37 (L' := #[.val (.ref o), .val (.ref u), .val (.int 0), .val (.ref wu), .val (.int 4), .val (.long v42), .second, .val (.long v53), .second, .val (.long 0), .second, .val (.long 0), .second, .val (.long 0), .second, .val (.long 0), .second, .val (.long 0), .second, .unset, .unset]) rfl dM_87 rfl ?_
  refine Gl.iconst Y37 (v := (1 : Int32)) (by decide) dM_89 rfl ?_
  refine Gl.istore Y37 (L' := #[.val (.ref o), .val (.ref u), .val (.int 0), .val (.ref wu), .val (.int 4), .val (.long v42), .second, .val (.long v53), .second, .val (.long 0), .second, .val (.long 0), .second, .val (.long 0), .second, .val (.long 0), .second, .val (.long 0), .second, .val (.int 1), .unset]) rfl dM_90 rfl ?_
  refine Gl.iconst Y37 (v := (0 : Int32)) (by decide) dM_92 rfl ?_
  refine Gl.istore Y37 (L' := #[.val (.ref o), .val (.ref u), .val (.int 0), .val (.ref wu), .val (.int 4), .val (.long v42), .second, .val (.long v53), .second, .val (.long 0), .second, .val (.long 0), .second, .val (.long 0), .second, .val (.long 0), .second, .val (.long 0), .second, .val (.int 1), .val (.int 0)]) rfl dM_93 rfl ?_
  refine Gl.iload Y37 rfl dM_95 rfl ?_
  refine Gl.iload Y37 rfl dM_97 rfl ?_
  refine Gl.icmpge Y37 dM_99 (by decide) rfl rfl (fun c99 => ?_) (fun c99 => ?_)
  · exact absurd c99 (by decide)
  refine Gl.iload Y37 rfl dM_102 rfl ?_
  refine Gl.aloadN Y37 rfl rfl dM_104 rfl ?_
  refine Gl.getF Y37 (host := "") (Or.inl (tw_14 hw)) Via.refl F_o dM_105 rfl (fun T105 Y105 => ?_)
  refine Gl.arraylength Y105 V_o dM_108 rfl ?_
  refine Gl.icmpge Y105 dM_109 (by decide) rfl rfl (fun c109 => ?_) (fun c109 => ?_)
  · exact absurd c109 (by decide)
  refine Gl.aloadN Y105 rfl rfl dM_112 rfl ?_
  refine Gl.getF Y105 (host := "") (Or.inl (tw_14 hw)) Via.refl F_o dM_113 rfl (fun T113 Y113 => ?_)
  refine Gl.iload Y113 rfl dM_116 rfl ?_
  refine Gl.laload Y113 V_o ⟨by decide, by decide⟩ (v := (.long x0)) rfl dM_118 rfl ?_
  refine Gl.goto Y113 dM_119 (by decide) rfl ?_
  refine Gl.lstore Y113 (L' := #[.val (.ref o), .val (.ref u), .val (.int 0), .val (.ref wu), .val (.int 4), .val (.long v42), .second, .val (.long v53), .second, .val (.long 0), .second, .val (.long 0), .second, .val (.long x0), .second, .val (.long 0), .second, .val (.long 0), .second, .val (.int 1), .val (.int 0)]) rfl dM_124 rfl ?_
  refine Gl.iload Y113 rfl dM_126 rfl ?_
  refine Gl.aloadN Y113 rfl rfl dM_128 rfl ?_
  refine Gl.arraylength Y113 V_u dM_129 rfl ?_
  refine Gl.icmpge Y113 dM_130 (by decide) rfl rfl (fun c130 => ?_) (fun c130 => ?_)
  · exact absurd c130 (by decide)
  refine Gl.aloadN Y113 rfl rfl dM_133 rfl ?_
  refine Gl.iload Y113 rfl dM_134 rfl ?_
  refine Gl.laload Y113 V_u ⟨by decide, by decide⟩ (v := (.long y0)) rfl dM_136 rfl ?_
  refine Gl.goto Y113 dM_137 (by decide) rfl ?_
  refine Gl.lload Y113 rfl dM_142 rfl ?_
  obtain ⟨v144, hv144⟩ : ∃ z : Int64, y0 ^^^ (0 : Int64) = z := ⟨_, rfl⟩
  refine Gl.lxor Y113 hv144 dM_144 rfl ?_
  obtain rfl : y0 = v144 := Eq.symm (by rw [← hv144]; exact Int64.xor_zero)
  refine Gl.lstore Y113 (L' := #[.val (.ref o), .val (.ref u), .val (.int 0), .val (.ref wu), .val (.int 4), .val (.long v42), .second, .val (.long v53), .second, .val (.long 0), .second, .val (.long 0), .second, .val (.long x0), .second, .val (.long y0), .second, .val (.long 0), .second, .val (.int 1), .val (.int 0)]) rfl dM_145 rfl ?_
  refine Gl.lload Y113 rfl dM_147 rfl ?_
  refine Gl.lload Y113 rfl dM_149 rfl ?_
  obtain ⟨v151, hv151⟩ : ∃ z : Int64, x0 + y0 = z := ⟨_, rfl⟩
  refine Gl.ladd Y113 hv151 dM_151 rfl ?_
  refine Gl.lload Y113 rfl dM_152 rfl ?_
  obtain ⟨v154, hv154⟩ : ∃ z : Int64, v151 + (0 : Int64) = z := ⟨_, rfl⟩
  refine Gl.ladd Y113 hv154 dM_154 rfl ?_
  refine Gl.lstore Y113 (L' := #[.val (.ref o), .val (.ref u), .val (.int 0), .val (.ref wu), .val (.int 4), .val (.long v42), .second, .val (.long v53), .second, .val (.long 0), .second, .val (.long 0), .second, .val (.long x0), .second, .val (.long y0), .second, .val (.long v154), .second, .val (.int 1), .val (.int 0)]) rfl dM_155 rfl ?_
  refine Gl.lload Y113 rfl dM_157 rfl ?_
  refine Gl.lload Y113 rfl dM_159 rfl ?_
  obtain ⟨v161, hv161⟩ : ∃ z : Int64, x0 &&& y0 = z := ⟨_, rfl⟩
  refine Gl.land Y113 hv161 dM_161 rfl ?_
  refine Gl.lload Y113 rfl dM_162 rfl ?_
  refine Gl.lload Y113 rfl dM_164 rfl ?_
  obtain ⟨v166, hv166⟩ : ∃ z : Int64, x0 ||| y0 = z := ⟨_, rfl⟩
  refine Gl.lor Y113 hv166 dM_166 rfl ?_
  refine Gl.lload Y113 rfl dM_167 rfl ?_
  refine Gl.ldcJ Y113 (tw_51 hw) dM_169 rfl ?_
  obtain ⟨v172, hv172⟩ : ∃ z : Int64, v154 ^^^ (-1 : Int64) = z := ⟨_, rfl⟩
  refine Gl.lxor Y113 hv172 dM_172 rfl ?_
  obtain ⟨v173, hv173⟩ : ∃ z : Int64, v166 &&& v172 = z := ⟨_, rfl⟩
  refine Gl.land Y113 hv173 dM_173 rfl ?_
  obtain ⟨v174, hv174⟩ : ∃ z : Int64, v161 ||| v173 = z := ⟨_, rfl⟩
  refine Gl.lor Y113 hv174 dM_174 rfl ?_
  refine Gl.bipush Y113 (v := (63 : Int32)) (by decide) dM_175 rfl ?_
  obtain ⟨v177, hv177⟩ : ∃ z : Int64, (v174.toUInt64 >>> ((63 : Int32) &&& 0x3f).toInt64.toUInt64).toInt64 = z := ⟨_, rfl⟩
  refine Gl.lushr Y113 hv177 dM_177 rfl ?_
  have hcy : own_cy x0 y0 v154 = v177 := by rw [← hv177, ← hv174, ← hv173, ← hv172, ← hv166, ← hv161]; rfl
  refine Gl.lstore Y113 (L' := #[.val (.ref o), .val (.ref u), .val (.int 0), .val (.ref wu), .val (.int 4), .val (.long v42), .second, .val (.long v53), .second, .val (.long 0), .second, .val (.long v177), .second, .val (.long x0), .second, .val (.long y0), .second, .val (.long v154), .second, .val (.int 1), .val (.int 0)]) rfl dM_178 rfl ?_
  refine Gl.iload Y113 rfl dM_180 rfl ?_
  refine Gl.aloadN Y113 rfl rfl dM_182 rfl ?_
  refine Gl.getF Y113 (host := "") (Or.inl (tw_14 hw)) Via.refl F_o dM_183 rfl (fun T183 Y183 => ?_)
  refine Gl.arraylength Y183 V_o dM_186 rfl ?_
  refine Gl.icmpge Y183 dM_187 (by decide) rfl rfl (fun c187 => ?_) (fun c187 => ?_)
  · exact absurd c187 (by decide)
  refine Gl.aloadN Y183 rfl rfl dM_190 rfl ?_
  refine Gl.getF Y183 (host := "") (Or.inl (tw_14 hw)) Via.refl F_o dM_191 rfl (fun T191 Y191 => ?_)
  refine Gl.iload Y191 rfl dM_194 rfl ?_
  refine Gl.lload Y191 rfl dM_196 rfl ?_
  refine Gl.lastore Y191 V_o (v := (.long v154)) rfl ⟨by decide, by decide⟩ (ix := 0) rfl (Nat.le_of_ble_eq_true rfl) g_o dM_198 rfl (fun T198 h198 Y198 W198 A198 => ?_)
  have A198 : Arv Z h198 wo ko .long (4 : Int32) [(.long v154), (.long sx), (.long sx), (.long sx)] (.long 0) := A198
  have K198 : Keep h0 h198 [wo] := (Keep.refl h0 [wo]).wr W198 (Or.inl (List.mem_of_getElem? (i := 0) rfl))
  show Gl p e below _ (T198.setTop (mkF m 199 _ []))
  refine Gl.goto Y198 dM_199 (by decide) rfl ?_
  refine Gl.iinc Y198 rfl (r := (1 : Int32)) (by decide) (L' := #[.val (.ref o), .val (.ref u), .val (.int 0), .val (.ref wu), .val (.int 4), .val (.long v42), .second, .val (.long v53), .second, .val (.long 0), .second, .val (.long v177), .second, .val (.long x0), .second, .val (.long y0), .second, .val (.long v154), .second, .val (.int 1), .val (.int 1)]) rfl dM_225 rfl ?_
  refine Gl.goto Y198 dM_228 (by decide) rfl ?_
  refine Gl.iload Y198 rfl dM_95 rfl ?_
  refine Gl.iload Y198 rfl dM_97 rfl ?_
  refine Gl.icmpge Y198 dM_99 (by decide) rfl rfl (fun c99_2 => ?_) (fun c99_2 => ?_)
  · exact absurd c99_2 (by decide)
  refine Gl.iload Y198 rfl dM_102 rfl ?_
  refine Gl.aloadN Y198 rfl rfl dM_104 rfl ?_
  have f1 := (Fld.other W198 F_o (Or.inl nn_o))
  refine Gl.getF Y198 (host := "") (Or.inl (tw_14 hw)) Via.refl f1 dM_105 rfl (fun T105_2 Y105_2 => ?_)
  refine Gl.arraylength Y105_2 A198 dM_108 rfl ?_
  refine Gl.icmpge Y105_2 dM_109 (by decide) rfl rfl (fun c109_2 => ?_) (fun c109_2 => ?_)
  · exact absurd c109_2 (by decide)
  refine Gl.aloadN Y105_2 rfl rfl dM_112 rfl ?_
  refine Gl.getF Y105_2 (host := "") (Or.inl (tw_14 hw)) Via.refl f1 dM_113 rfl (fun T113_2 Y113_2 => ?_)
  refine Gl.iload Y113_2 rfl dM_116 rfl ?_
  refine Gl.laload Y113_2 A198 ⟨by decide, by decide⟩ (v := (.long sx)) rfl dM_118 rfl ?_
  refine Gl.goto Y113_2 dM_119 (by decide) rfl ?_
  refine Gl.lstore Y113_2 (L' := #[.val (.ref o), .val (.ref u), .val (.int 0), .val (.ref wu), .val (.int 4), .val (.long v42), .second, .val (.long v53), .second, .val (.long 0), .second, .val (.long v177), .second, .val (.long sx), .second, .val (.long y0), .second, .val (.long v154), .second, .val (.int 1), .val (.int 1)]) rfl dM_124 rfl ?_
  refine Gl.iload Y113_2 rfl dM_126 rfl ?_
  refine Gl.aloadN Y113_2 rfl rfl dM_128 rfl ?_
  have f2 := (V_u.other W198 (Ne.symm nw))
  refine Gl.arraylength Y113_2 f2 dM_129 rfl ?_
  refine Gl.icmpge Y113_2 dM_130 (by decide) rfl rfl (fun c130_2 => ?_) (fun c130_2 => ?_)
  · exact absurd c130_2 (by decide)
  refine Gl.aloadN Y113_2 rfl rfl dM_133 rfl ?_
  refine Gl.iload Y113_2 rfl dM_134 rfl ?_
  refine Gl.laload Y113_2 f2 ⟨by decide, by decide⟩ (v := (.long sy)) rfl dM_136 rfl ?_
  refine Gl.goto Y113_2 dM_137 (by decide) rfl ?_
  refine Gl.lload Y113_2 rfl dM_142 rfl ?_
  obtain ⟨v144_2, hv144_2⟩ : ∃ z : Int64, sy ^^^ (0 : Int64) = z := ⟨_, rfl⟩
  refine Gl.lxor Y113_2 hv144_2 dM_144 rfl ?_
  obtain rfl : sy = v144_2 := Eq.symm (by rw [← hv144_2]; exact Int64.xor_zero)
  refine Gl.lstore Y113_2 (L' := #[.val (.ref o), .val (.ref u), .val (.int 0), .val (.ref wu), .val (.int 4), .val (.long v42), .second, .val (.long v53), .second, .val (.long 0), .second, .val (.long v177), .second, .val (.long sx), .second, .val (.long sy), .second, .val (.long v154), .second, .val (.int 1), .val (.int 1)]) rfl dM_145 rfl ?_
  refine Gl.lload Y113_2 rfl dM_147 rfl ?_
  refine Gl.lload Y113_2 rfl dM_149 rfl ?_
  obtain ⟨v151_2, hv151_2⟩ : ∃ z : Int64, sx + sy = z := ⟨_, rfl⟩
  refine Gl.ladd Y113_2 hv151_2 dM_151 rfl ?_
  refine Gl.lload Y113_2 rfl dM_152 rfl ?_
  obtain ⟨v154_2, hv154_2⟩ : ∃ z : Int64, v151_2 + v177 = z := ⟨_, rfl⟩
  refine Gl.ladd Y113_2 hv154_2 dM_154 rfl ?_
  refine Gl.lstore Y113_2 (L' := #[.val (.ref o), .val (.ref u), .val (.int 0), .val (.ref wu), .val (.int 4), .val (.long v42), .second, .val (.long v53), .second, .val (.long 0), .second, .val (.long v177), .second, .val (.long sx), .second, .val (.long sy), .second, .val (.long v154_2), .second, .val (.int 1), .val (.int 1)]) rfl dM_155 rfl ?_
  refine Gl.lload Y113_2 rfl dM_157 rfl ?_
  refine Gl.lload Y113_2 rfl dM_159 rfl ?_
  obtain ⟨v161_2, hv161_2⟩ : ∃ z : Int64, sx &&& sy = z := ⟨_, rfl⟩
  refine Gl.land Y113_2 hv161_2 dM_161 rfl ?_
  refine Gl.lload Y113_2 rfl dM_162 rfl ?_
  refine Gl.lload Y113_2 rfl dM_164 rfl ?_
  obtain ⟨v166_2, hv166_2⟩ : ∃ z : Int64, sx ||| sy = z := ⟨_, rfl⟩
  refine Gl.lor Y113_2 hv166_2 dM_166 rfl ?_
  refine Gl.lload Y113_2 rfl dM_167 rfl ?_
  refine Gl.ldcJ Y113_2 (tw_51 hw) dM_169 rfl ?_
  obtain ⟨v172_2, hv172_2⟩ : ∃ z : Int64, v154_2 ^^^ (-1 : Int64) = z := ⟨_, rfl⟩
  refine Gl.lxor Y113_2 hv172_2 dM_172 rfl ?_
  obtain ⟨v173_2, hv173_2⟩ : ∃ z : Int64, v166_2 &&& v172_2 = z := ⟨_, rfl⟩
  refine Gl.land Y113_2 hv173_2 dM_173 rfl ?_
  obtain ⟨v174_2, hv174_2⟩ : ∃ z : Int64, v161_2 ||| v173_2 = z := ⟨_, rfl⟩
  refine Gl.lor Y113_2 hv174_2 dM_174 rfl ?_
  refine Gl.bipush Y113_2 (v := (63 : Int32)) (by decide) dM_175 rfl ?_
  obtain ⟨v177_2, hv177_2⟩ : ∃ z : Int64, (v174_2.toUInt64 >>> ((63 : Int32) &&& 0x3f).toInt64.toUInt64).toInt64 = z := ⟨_, rfl⟩
  refine Gl.lushr Y113_2 hv177_2 dM_177 rfl ?_
  have tt := own_T hsx hsy hv151 hv154 hcy hv151_2 hv154_2
  have zx : sx.toInt = 0 ∨ sx.toInt = -1 := by have := own_sx01 hsx; omega
  have zy : sy.toInt = 0 ∨ sy.toInt = -1 := by have := own_sx01 hsy; omega
  obtain rfl : v177 = v177_2 := Eq.symm (by rw [← hv177_2, ← hv174_2, ← hv173_2, ← hv172_2, ← hv166_2, ← hv161_2]; exact own_hi zx zy tt.2.2.2 tt.2.2.1 tt.2.1)
  refine Gl.lstore Y113_2 (L' := #[.val (.ref o), .val (.ref u), .val (.int 0), .val (.ref wu), .val (.int 4), .val (.long v42), .second, .val (.long v53), .second, .val (.long 0), .second, .val (.long v177), .second, .val (.long sx), .second, .val (.long sy), .second, .val (.long v154_2), .second, .val (.int 1), .val (.int 1)]) rfl dM_178 rfl ?_
  refine Gl.iload Y113_2 rfl dM_180 rfl ?_
  refine Gl.aloadN Y113_2 rfl rfl dM_182 rfl ?_
  refine Gl.getF Y113_2 (host := "") (Or.inl (tw_14 hw)) Via.refl f1 dM_183 rfl (fun T183_2 Y183_2 => ?_)
  refine Gl.arraylength Y183_2 A198 dM_186 rfl ?_
  refine Gl.icmpge Y183_2 dM_187 (by decide) rfl rfl (fun c187_2 => ?_) (fun c187_2 => ?_)
  · exact absurd c187_2 (by decide)
  refine Gl.aloadN Y183_2 rfl rfl dM_190 rfl ?_
  refine Gl.getF Y183_2 (host := "") (Or.inl (tw_14 hw)) Via.refl f1 dM_191 rfl (fun T191_2 Y191_2 => ?_)
  refine Gl.iload Y191_2 rfl dM_194 rfl ?_
  refine Gl.lload Y191_2 rfl dM_196 rfl ?_
  refine Gl.lastore Y191_2 A198 (v := (.long v154_2)) rfl ⟨by decide, by decide⟩ (ix := 1) rfl (Nat.le_of_ble_eq_true rfl) g_o dM_198 rfl (fun T198_2 h198_2 Y198_2 W198_2 A198_2 => ?_)
  have A198_2 : Arv Z h198_2 wo ko .long (4 : Int32) [(.long v154), (.long v154_2), (.long sx), (.long sx)] (.long 0) := A198_2
  have K198_2 : Keep h0 h198_2 [wo] := K198.wr W198_2 (Or.inl (List.mem_of_getElem? (i := 0) rfl))
  show Gl p e below _ (T198_2.setTop (mkF m 199 _ []))
  refine Gl.goto Y198_2 dM_199 (by decide) rfl ?_
  refine Gl.iinc Y198_2 rfl (r := (2 : Int32)) (by decide) (L' := #[.val (.ref o), .val (.ref u), .val (.int 0), .val (.ref wu), .val (.int 4), .val (.long v42), .second, .val (.long v53), .second, .val (.long 0), .second, .val (.long v177), .second, .val (.long sx), .second, .val (.long sy), .second, .val (.long v154_2), .second, .val (.int 1), .val (.int 2)]) rfl dM_225 rfl ?_
  refine Gl.goto Y198_2 dM_228 (by decide) rfl ?_
  refine Gl.iload Y198_2 rfl dM_95 rfl ?_
  refine Gl.iload Y198_2 rfl dM_97 rfl ?_
  refine Gl.icmpge Y198_2 dM_99 (by decide) rfl rfl (fun c99_3 => ?_) (fun c99_3 => ?_)
  · exact absurd c99_3 (by decide)
  refine Gl.iload Y198_2 rfl dM_102 rfl ?_
  refine Gl.aloadN Y198_2 rfl rfl dM_104 rfl ?_
  have f3 := (Fld.other W198_2 f1 (Or.inl nn_o))
  refine Gl.getF Y198_2 (host := "") (Or.inl (tw_14 hw)) Via.refl f3 dM_105 rfl (fun T105_3 Y105_3 => ?_)
  refine Gl.arraylength Y105_3 A198_2 dM_108 rfl ?_
  refine Gl.icmpge Y105_3 dM_109 (by decide) rfl rfl (fun c109_3 => ?_) (fun c109_3 => ?_)
  · exact absurd c109_3 (by decide)
  refine Gl.aloadN Y105_3 rfl rfl dM_112 rfl ?_
  refine Gl.getF Y105_3 (host := "") (Or.inl (tw_14 hw)) Via.refl f3 dM_113 rfl (fun T113_3 Y113_3 => ?_)
  refine Gl.iload Y113_3 rfl dM_116 rfl ?_
  refine Gl.laload Y113_3 A198_2 ⟨by decide, by decide⟩ (v := (.long sx)) rfl dM_118 rfl ?_
  refine Gl.goto Y113_3 dM_119 (by decide) rfl ?_
  refine Gl.lstore Y113_3 (L' := #[.val (.ref o), .val (.ref u), .val (.int 0), .val (.ref wu), .val (.int 4), .val (.long v42), .second, .val (.long v53), .second, .val (.long 0), .second, .val (.long v177), .second, .val (.long sx), .second, .val (.long sy), .second, .val (.long v154_2), .second, .val (.int 1), .val (.int 2)]) rfl dM_124 rfl ?_
  refine Gl.iload Y113_3 rfl dM_126 rfl ?_
  refine Gl.aloadN Y113_3 rfl rfl dM_128 rfl ?_
  have f4 := (f2.other W198_2 (Ne.symm nw))
  refine Gl.arraylength Y113_3 f4 dM_129 rfl ?_
  refine Gl.icmpge Y113_3 dM_130 (by decide) rfl rfl (fun c130_3 => ?_) (fun c130_3 => ?_)
  · exact absurd c130_3 (by decide)
  refine Gl.aloadN Y113_3 rfl rfl dM_133 rfl ?_
  refine Gl.iload Y113_3 rfl dM_134 rfl ?_
  refine Gl.laload Y113_3 f4 ⟨by decide, by decide⟩ (v := (.long sy)) rfl dM_136 rfl ?_
  refine Gl.goto Y113_3 dM_137 (by decide) rfl ?_
  refine Gl.lload Y113_3 rfl dM_142 rfl ?_
  refine Gl.lxor Y113_3 hv144_2 dM_144 rfl ?_
  refine Gl.lstore Y113_3 (L' := #[.val (.ref o), .val (.ref u), .val (.int 0), .val (.ref wu), .val (.int 4), .val (.long v42), .second, .val (.long v53), .second, .val (.long 0), .second, .val (.long v177), .second, .val (.long sx), .second, .val (.long sy), .second, .val (.long v154_2), .second, .val (.int 1), .val (.int 2)]) rfl dM_145 rfl ?_
  refine Gl.lload Y113_3 rfl dM_147 rfl ?_
  refine Gl.lload Y113_3 rfl dM_149 rfl ?_
  refine Gl.ladd Y113_3 hv151_2 dM_151 rfl ?_
  refine Gl.lload Y113_3 rfl dM_152 rfl ?_
  refine Gl.ladd Y113_3 hv154_2 dM_154 rfl ?_
  refine Gl.lstore Y113_3 (L' := #[.val (.ref o), .val (.ref u), .val (.int 0), .val (.ref wu), .val (.int 4), .val (.long v42), .second, .val (.long v53), .second, .val (.long 0), .second, .val (.long v177), .second, .val (.long sx), .second, .val (.long sy), .second, .val (.long v154_2), .second, .val (.int 1), .val (.int 2)]) rfl dM_155 rfl ?_
  refine Gl.lload Y113_3 rfl dM_157 rfl ?_
  refine Gl.lload Y113_3 rfl dM_159 rfl ?_
  refine Gl.land Y113_3 hv161_2 dM_161 rfl ?_
  refine Gl.lload Y113_3 rfl dM_162 rfl ?_
  refine Gl.lload Y113_3 rfl dM_164 rfl ?_
  refine Gl.lor Y113_3 hv166_2 dM_166 rfl ?_
  refine Gl.lload Y113_3 rfl dM_167 rfl ?_
  refine Gl.ldcJ Y113_3 (tw_51 hw) dM_169 rfl ?_
  refine Gl.lxor Y113_3 hv172_2 dM_172 rfl ?_
  refine Gl.land Y113_3 hv173_2 dM_173 rfl ?_
  refine Gl.lor Y113_3 hv174_2 dM_174 rfl ?_
  refine Gl.bipush Y113_3 (v := (63 : Int32)) (by decide) dM_175 rfl ?_
  refine Gl.lushr Y113_3 hv177_2 dM_177 rfl ?_
  refine Gl.lstore Y113_3 (L' := #[.val (.ref o), .val (.ref u), .val (.int 0), .val (.ref wu), .val (.int 4), .val (.long v42), .second, .val (.long v53), .second, .val (.long 0), .second, .val (.long v177), .second, .val (.long sx), .second, .val (.long sy), .second, .val (.long v154_2), .second, .val (.int 1), .val (.int 2)]) rfl dM_178 rfl ?_
  refine Gl.iload Y113_3 rfl dM_180 rfl ?_
  refine Gl.aloadN Y113_3 rfl rfl dM_182 rfl ?_
  refine Gl.getF Y113_3 (host := "") (Or.inl (tw_14 hw)) Via.refl f3 dM_183 rfl (fun T183_3 Y183_3 => ?_)
  refine Gl.arraylength Y183_3 A198_2 dM_186 rfl ?_
  refine Gl.icmpge Y183_3 dM_187 (by decide) rfl rfl (fun c187_3 => ?_) (fun c187_3 => ?_)
  · exact absurd c187_3 (by decide)
  refine Gl.aloadN Y183_3 rfl rfl dM_190 rfl ?_
  refine Gl.getF Y183_3 (host := "") (Or.inl (tw_14 hw)) Via.refl f3 dM_191 rfl (fun T191_3 Y191_3 => ?_)
  refine Gl.iload Y191_3 rfl dM_194 rfl ?_
  refine Gl.lload Y191_3 rfl dM_196 rfl ?_
  refine Gl.lastore Y191_3 A198_2 (v := (.long v154_2)) rfl ⟨by decide, by decide⟩ (ix := 2) rfl (Nat.le_of_ble_eq_true rfl) g_o dM_198 rfl (fun T198_3 h198_3 Y198_3 W198_3 A198_3 => ?_)
  have A198_3 : Arv Z h198_3 wo ko .long (4 : Int32) [(.long v154), (.long v154_2), (.long v154_2), (.long sx)] (.long 0) := A198_3
  have K198_3 : Keep h0 h198_3 [wo] := K198_2.wr W198_3 (Or.inl (List.mem_of_getElem? (i := 0) rfl))
  show Gl p e below _ (T198_3.setTop (mkF m 199 _ []))
  refine Gl.goto Y198_3 dM_199 (by decide) rfl ?_
  refine Gl.iinc Y198_3 rfl (r := (3 : Int32)) (by decide) (L' := #[.val (.ref o), .val (.ref u), .val (.int 0), .val (.ref wu), .val (.int 4), .val (.long v42), .second, .val (.long v53), .second, .val (.long 0), .second, .val (.long v177), .second, .val (.long sx), .second, .val (.long sy), .second, .val (.long v154_2), .second, .val (.int 1), .val (.int 3)]) rfl dM_225 rfl ?_
  refine Gl.goto Y198_3 dM_228 (by decide) rfl ?_
  refine Gl.iload Y198_3 rfl dM_95 rfl ?_
  refine Gl.iload Y198_3 rfl dM_97 rfl ?_
  refine Gl.icmpge Y198_3 dM_99 (by decide) rfl rfl (fun c99_4 => ?_) (fun c99_4 => ?_)
  · exact absurd c99_4 (by decide)
  refine Gl.iload Y198_3 rfl dM_102 rfl ?_
  refine Gl.aloadN Y198_3 rfl rfl dM_104 rfl ?_
  have f5 := (Fld.other W198_3 f3 (Or.inl nn_o))
  refine Gl.getF Y198_3 (host := "") (Or.inl (tw_14 hw)) Via.refl f5 dM_105 rfl (fun T105_4 Y105_4 => ?_)
  refine Gl.arraylength Y105_4 A198_3 dM_108 rfl ?_
  refine Gl.icmpge Y105_4 dM_109 (by decide) rfl rfl (fun c109_4 => ?_) (fun c109_4 => ?_)
  · exact absurd c109_4 (by decide)
  refine Gl.aloadN Y105_4 rfl rfl dM_112 rfl ?_
  refine Gl.getF Y105_4 (host := "") (Or.inl (tw_14 hw)) Via.refl f5 dM_113 rfl (fun T113_4 Y113_4 => ?_)
  refine Gl.iload Y113_4 rfl dM_116 rfl ?_
  refine Gl.laload Y113_4 A198_3 ⟨by decide, by decide⟩ (v := (.long sx)) rfl dM_118 rfl ?_
  refine Gl.goto Y113_4 dM_119 (by decide) rfl ?_
  refine Gl.lstore Y113_4 (L' := #[.val (.ref o), .val (.ref u), .val (.int 0), .val (.ref wu), .val (.int 4), .val (.long v42), .second, .val (.long v53), .second, .val (.long 0), .second, .val (.long v177), .second, .val (.long sx), .second, .val (.long sy), .second, .val (.long v154_2), .second, .val (.int 1), .val (.int 3)]) rfl dM_124 rfl ?_
  refine Gl.iload Y113_4 rfl dM_126 rfl ?_
  refine Gl.aloadN Y113_4 rfl rfl dM_128 rfl ?_
  have f6 := (f4.other W198_3 (Ne.symm nw))
  refine Gl.arraylength Y113_4 f6 dM_129 rfl ?_
  refine Gl.icmpge Y113_4 dM_130 (by decide) rfl rfl (fun c130_4 => ?_) (fun c130_4 => ?_)
  · exact absurd c130_4 (by decide)
  refine Gl.aloadN Y113_4 rfl rfl dM_133 rfl ?_
  refine Gl.iload Y113_4 rfl dM_134 rfl ?_
  refine Gl.laload Y113_4 f6 ⟨by decide, by decide⟩ (v := (.long sy)) rfl dM_136 rfl ?_
  refine Gl.goto Y113_4 dM_137 (by decide) rfl ?_
  refine Gl.lload Y113_4 rfl dM_142 rfl ?_
  refine Gl.lxor Y113_4 hv144_2 dM_144 rfl ?_
  refine Gl.lstore Y113_4 (L' := #[.val (.ref o), .val (.ref u), .val (.int 0), .val (.ref wu), .val (.int 4), .val (.long v42), .second, .val (.long v53), .second, .val (.long 0), .second, .val (.long v177), .second, .val (.long sx), .second, .val (.long sy), .second, .val (.long v154_2), .second, .val (.int 1), .val (.int 3)]) rfl dM_145 rfl ?_
  refine Gl.lload Y113_4 rfl dM_147 rfl ?_
  refine Gl.lload Y113_4 rfl dM_149 rfl ?_
  refine Gl.ladd Y113_4 hv151_2 dM_151 rfl ?_
  refine Gl.lload Y113_4 rfl dM_152 rfl ?_
  refine Gl.ladd Y113_4 hv154_2 dM_154 rfl ?_
  refine Gl.lstore Y113_4 (L' := #[.val (.ref o), .val (.ref u), .val (.int 0), .val (.ref wu), .val (.int 4), .val (.long v42), .second, .val (.long v53), .second, .val (.long 0), .second, .val (.long v177), .second, .val (.long sx), .second, .val (.long sy), .second, .val (.long v154_2), .second, .val (.int 1), .val (.int 3)]) rfl dM_155 rfl ?_
  refine Gl.lload Y113_4 rfl dM_157 rfl ?_
  refine Gl.lload Y113_4 rfl dM_159 rfl ?_
  refine Gl.land Y113_4 hv161_2 dM_161 rfl ?_
  refine Gl.lload Y113_4 rfl dM_162 rfl ?_
  refine Gl.lload Y113_4 rfl dM_164 rfl ?_
  refine Gl.lor Y113_4 hv166_2 dM_166 rfl ?_
  refine Gl.lload Y113_4 rfl dM_167 rfl ?_
  refine Gl.ldcJ Y113_4 (tw_51 hw) dM_169 rfl ?_
  refine Gl.lxor Y113_4 hv172_2 dM_172 rfl ?_
  refine Gl.land Y113_4 hv173_2 dM_173 rfl ?_
  refine Gl.lor Y113_4 hv174_2 dM_174 rfl ?_
  refine Gl.bipush Y113_4 (v := (63 : Int32)) (by decide) dM_175 rfl ?_
  refine Gl.lushr Y113_4 hv177_2 dM_177 rfl ?_
  refine Gl.lstore Y113_4 (L' := #[.val (.ref o), .val (.ref u), .val (.int 0), .val (.ref wu), .val (.int 4), .val (.long v42), .second, .val (.long v53), .second, .val (.long 0), .second, .val (.long v177), .second, .val (.long sx), .second, .val (.long sy), .second, .val (.long v154_2), .second, .val (.int 1), .val (.int 3)]) rfl dM_178 rfl ?_
  refine Gl.iload Y113_4 rfl dM_180 rfl ?_
  refine Gl.aloadN Y113_4 rfl rfl dM_182 rfl ?_
  refine Gl.getF Y113_4 (host := "") (Or.inl (tw_14 hw)) Via.refl f5 dM_183 rfl (fun T183_4 Y183_4 => ?_)
  refine Gl.arraylength Y183_4 A198_3 dM_186 rfl ?_
  refine Gl.icmpge Y183_4 dM_187 (by decide) rfl rfl (fun c187_4 => ?_) (fun c187_4 => ?_)
  · exact absurd c187_4 (by decide)
  refine Gl.aloadN Y183_4 rfl rfl dM_190 rfl ?_
  refine Gl.getF Y183_4 (host := "") (Or.inl (tw_14 hw)) Via.refl f5 dM_191 rfl (fun T191_4 Y191_4 => ?_)
  refine Gl.iload Y191_4 rfl dM_194 rfl ?_
  refine Gl.lload Y191_4 rfl dM_196 rfl ?_
  refine Gl.lastore Y191_4 A198_3 (v := (.long v154_2)) rfl ⟨by decide, by decide⟩ (ix := 3) rfl (Nat.le_of_ble_eq_true rfl) g_o dM_198 rfl (fun T198_4 h198_4 Y198_4 W198_4 A198_4 => ?_)
  have A198_4 : Arv Z h198_4 wo ko .long (4 : Int32) [(.long v154), (.long v154_2), (.long v154_2), (.long v154_2)] (.long 0) := A198_4
  have K198_4 : Keep h0 h198_4 [wo] := K198_3.wr W198_4 (Or.inl (List.mem_of_getElem? (i := 0) rfl))
  show Gl p e below _ (T198_4.setTop (mkF m 199 _ []))
  refine Gl.goto Y198_4 dM_199 (by decide) rfl ?_
  refine Gl.iinc Y198_4 rfl (r := (4 : Int32)) (by decide) (L' := #[.val (.ref o), .val (.ref u), .val (.int 0), .val (.ref wu), .val (.int 4), .val (.long v42), .second, .val (.long v53), .second, .val (.long 0), .second, .val (.long v177), .second, .val (.long sx), .second, .val (.long sy), .second, .val (.long v154_2), .second, .val (.int 1), .val (.int 4)]) rfl dM_225 rfl ?_
  refine Gl.goto Y198_4 dM_228 (by decide) rfl ?_
  refine Gl.iload Y198_4 rfl dM_95 rfl ?_
  refine Gl.iload Y198_4 rfl dM_97 rfl ?_
  refine Gl.icmpge Y198_4 dM_99 (by decide) rfl rfl (fun c99_5 => ?_) (fun c99_5 => ?_)
  rotate_left
  · exact absurd c99_5 (by decide)
  refine Gl.iload Y198_4 rfl dM_231 rfl ?_
  refine Gl.ifeq Y198_4 dM_233 (by decide) rfl rfl (fun c233 => ?_) (fun c233 => ?_)
  · exact absurd c233 (by decide)
  refine Gl.lload Y198_4 rfl dM_236 rfl ?_
  refine Gl.lload Y198_4 rfl dM_238 rfl ?_
  obtain ⟨v240, hv240⟩ : ∃ z : Int64, sx ^^^ v154_2 = z := ⟨_, rfl⟩
  refine Gl.lxor Y198_4 hv240 dM_240 rfl ?_
  refine Gl.lload Y198_4 rfl dM_241 rfl ?_
  refine Gl.lload Y198_4 rfl dM_243 rfl ?_
  obtain ⟨v245, hv245⟩ : ∃ z : Int64, sy ^^^ v154_2 = z := ⟨_, rfl⟩
  refine Gl.lxor Y198_4 hv245 dM_245 rfl ?_
  obtain ⟨v246, hv246⟩ : ∃ z : Int64, v240 &&& v245 = z := ⟨_, rfl⟩
  refine Gl.land Y198_4 hv246 dM_246 rfl ?_
  refine Gl.lconst Y198_4 (v := (0 : Int64)) (by decide) dM_247 rfl ?_
  refine Gl.lcmplt Y198_4 dM_248 rfl dM_249 (by decide) rfl rfl (fun c249 => ?_) (fun c249 => ?_)
  · refine absurd c249 ?_
    rw [← hv246, ← hv245, ← hv240]
    exact own_fit2 zx zy tt.2.2.2 tt.2.2.1 tt.2.1
  refine Gl.aloadN Y198_4 rfl rfl dM_252 rfl ?_
  refine Gl.goto Y198_4 dM_253 (by decide) rfl ?_
  exact Gl.retA Y198_4 (by decide) (by decide) rfl rfl dM_260 ⟨v154, v154_2, rfl, ⟨tt.1, tt.2.1⟩, K198_4, A198_4⟩
def R55 : Room := { frames := 3, cells := 0, slots := 0, locals := 57 }
def Q55 (Z : State) (o : Addr) (wo : Addr) (ko : ClassId) (x0 : Int64) (sx : Int64) (u : Addr) (wu : Addr) (ku : ClassId) (y0 : Int64) (sy : Int64) (h0 : Heap) (v : Option Value) (h : Heap) : Prop := ∃ e0 : Int64, ∃ e1 : Int64, v = some (.ref o) ∧ (x0.toInt + y0.toInt = e1.toInt * 18446744073709551616 + e0.toInt % 18446744073709551616 ∧ (e1.toInt = 0 ∨ e1.toInt = -1)) ∧ Keep h0 h [wo] ∧ Arv Z h wo ko .long (4 : Int32) [(.long e0), (.long e1), (.long e1), (.long e1)] (.long 0)
theorem ef55 (o : Addr) (u : Addr) (m : MethodId) : entryFrame m #[(.ref o), (.ref u)] 2 = mkF m 0 #[.val (.ref o), .val (.ref u)] [] := by first | (simp [entryFrame, mkF, argsToLocals, Value.category]; done) | rfl
theorem rm55 (l : Launch) (Z : State) (a0 : Array Value) (hw : HW a0 Z) (ws : List Jvm.Cond) (o : Addr) (wo : Addr) (ko : ClassId) (x0 : Int64) (sx : Int64) (u : Addr) (wu : Addr) (ku : ClassId) (y0 : Int64) (sy : Int64) (h0 : Heap) (n0 : Nat) (Z0 : n0 ≤ h0.size) (E_o : Exa Z h0 o "com/example/meterwise/meterwise/model/WholeNumber") (F_o : Fld Z h0 o "com/example/meterwise/meterwise/model/WholeNumber" "words" "[J" (.ref wo)) (V_o : Arv Z h0 wo ko .long (4 : Int32) [(.long x0), (.long sx), (.long sx), (.long sx)] (.long 0)) (g_o : n0 ≤ wo) (nn_o : own_ne o wo) (E_u : Exa Z h0 u "com/example/meterwise/meterwise/model/WholeNumber") (F_u : Fld Z h0 u "com/example/meterwise/meterwise/model/WholeNumber" "words" "[J" (.ref wu)) (V_u : Arv Z h0 wu ku .long (4 : Int32) [(.long y0), (.long sy), (.long sy), (.long sy)] (.long 0)) (nw : own_ne wo wu) (np : own_ne u wo) (hsx : x0 >>> ((63 : Int32) &&& 0x3f).toInt64 = sx) (hsy : y0 >>> ((63 : Int32) &&& 0x3f).toInt64 = sy) : OMet l Z ws (⟨"com/example/meterwise/meterwise/model/WholeNumber", "add", "(Lcom/example/meterwise/meterwise/model/WholeNumber;)Lcom/example/meterwise/meterwise/model/WholeNumber;"⟩ : MethodName) prog_137_method_12_code 2 (some (.object "com/example/meterwise/meterwise/model/WholeNumber")) R55 #[(.ref o), (.ref u)] h0 n0 (Q55 Z o wo ko x0 sx u wu ku y0 sy h0) := by
  refine OMet.of (own := "com/example/meterwise/meterwise/model/WholeNumber") rfl (plainFor_of_name pn_0) (ef55 o u) Z0 ?_
  intro p e s m below meth c T0 Y0 hnm
  refine Gl.aloadN Y0 rfl rfl dN_0 rfl ?_
  refine Gl.aloadN Y0 rfl rfl dN_1 rfl ?_
  refine Gl.iconst Y0 (v := (0 : Int32)) (by decide) dN_2 rfl ?_
  refine Gl.callP Y0 (tw_33 hw) (tw_34 hw) (tw_35 hw) (tw_1 hw) (tw_2 hw) (tw_36 hw) (by decide) E_o (rm54 l Z a0 hw [] o wo ko x0 sx u wu ku y0 sy h0 n0 Y0.sz E_o F_o V_o g_o nn_o E_u F_u V_u nw np (by first | assumption | decide | omega | (simp; done)) (by first | assumption | decide | omega | (simp; done))) (a := o) (argsL := [(.ref u), (.int 0)]) (rest := []) rfl rfl (lenOf pd_7 rfl) rfl (by decide) (Nat.le_of_ble_eq_true rfl) (by decide) (by decide) dN_3 rfl (fun v3 T3 h3 Y3 q3 => ?_)
  obtain ⟨e03, e13, rfl, p3, K3, f3_0⟩ := q3
  have KK3 : Keep h0 h3 [wo] := (Keep.refl h0 [wo]).trans K3 (allS (Or.inl (List.mem_of_getElem? (i := 0) rfl)) all0)
  show Gl p e below _ (T3.setTop (mkF m 6 _ [(.ref o)]))
  exact Gl.retA Y3 (by decide) (by decide) rfl rfl dN_6 ⟨e03, e13, rfl, p3, KK3, f3_0⟩
theorem dO_0 : decode method_2_code 0 = .ok (.lload_n 0, 1) := by decide +kernel
theorem dO_1 : decode method_2_code 1 = .ok (.lconst 0, 1) := by decide +kernel
theorem dO_2 : decode method_2_code 2 = .ok (.lcmp, 1) := by decide +kernel
theorem dO_3 : decode method_2_code 3 = .ok (.ifCond .ge 5, 3) := by decide +kernel
theorem dO_8 : decode method_2_code 8 = .ok (.lload_n 0, 1) := by decide +kernel
theorem dO_9 : decode method_2_code 9 = .ok (.lconst 0, 1) := by decide +kernel
theorem dO_10 : decode method_2_code 10 = .ok (.lcmp, 1) := by decide +kernel
theorem dO_11 : decode method_2_code 11 = .ok (.ifCond .ne 5, 3) := by decide +kernel
theorem dO_16 : decode method_2_code 16 = .ok (.iconst 1, 1) := by decide +kernel
theorem dO_17 : decode method_2_code 17 = .ok (.ireturn, 1) := by decide +kernel
theorem dO_14 : decode method_2_code 14 = .ok (.iconst 0, 1) := by decide +kernel
theorem dO_15 : decode method_2_code 15 = .ok (.ireturn, 1) := by decide +kernel
theorem dO_6 : decode method_2_code 6 = .ok (.iconst (-1), 1) := by decide +kernel
theorem dO_7 : decode method_2_code 7 = .ok (.ireturn, 1) := by decide +kernel
def R56 : Room := { frames := 0, cells := 0, slots := 0, locals := 0 }
def Q56 (Z : State) (t1 : Int64) (h0 : Heap) (v : Option Value) (h : Heap) : Prop := ∃ r : Int32, v = some (.int r) ∧ ((t1.toInt < 0 ∧ r.toInt = -1) ∨ (t1.toInt = 0 ∧ r.toInt = 0) ∨ (0 < t1.toInt ∧ r.toInt = 1)) ∧ h0 = h
theorem ef56 (t1 : Int64) (m : MethodId) : entryFrame m #[(.long t1)] 2 = mkF m 0 #[.val (.long t1), .second] [] := by first | (simp [entryFrame, mkF, argsToLocals, Value.category]; done) | rfl
theorem pn_2 : plainName "com/example/meterwise/meterwise/model/WholeNumberSignumPinLaw" = true := by first | (simp [plainName, overriddenIn]; done) | decide +kernel
theorem rm56 (l : Launch) (Z : State) (a0 : Array Value) (hw : HW a0 Z) (ws : List Jvm.Cond) (t1 : Int64) (h0 : Heap) (n0 : Nat) (Z0 : n0 ≤ h0.size) : OMet l Z ws (⟨"com/example/meterwise/meterwise/model/WholeNumberSignumPinLaw", "signOf", "(J)I"⟩ : MethodName) method_2_code 2 (some .int) R56 #[(.long t1)] h0 n0 (Q56 Z t1 h0) := by
  refine OMet.of (own := "com/example/meterwise/meterwise/model/WholeNumberSignumPinLaw") rfl (plainFor_of_name pn_2) (ef56 t1) Z0 ?_
  intro p e s m below meth c T0 Y0 hnm
  have nt1 := rng64 t1
  refine Gl.lloadN Y0 rfl dO_0 rfl ?_
  refine Gl.lconst Y0 (v := (0 : Int64)) (by decide) dO_1 rfl ?_
  refine Gl.lcmpge Y0 dO_2 rfl dO_3 (by decide) rfl rfl (fun c3 => ?_) (fun c3 => ?_)
  · have j3 : ¬ (t1.toInt < 0) := fun q => c3 (Int64.lt_iff_toInt_lt.mpr q)
    refine Gl.lloadN Y0 rfl dO_8 rfl ?_
    refine Gl.lconst Y0 (v := (0 : Int64)) (by decide) dO_9 rfl ?_
    refine Gl.lcmpne Y0 dO_10 rfl dO_11 (by decide) rfl rfl (fun c11 => ?_) (fun c11 => ?_)
    · have j11 : ¬ (t1.toInt = 0) := fun q => c11 (Int64.toInt_inj.mp q)
      refine Gl.iconst Y0 (v := (1 : Int32)) (by decide) dO_16 rfl ?_
      exact Gl.retI Y0 (by decide) (by decide)  dO_17 ⟨(1 : Int32), rfl, (by have q0 : (0 : Int32).toInt = 0 := rfl; have q1 : (1 : Int32).toInt = 1 := rfl; have q2 : (-1 : Int32).toInt = -1 := rfl; omega), rfl⟩
    · have j11 : t1.toInt = 0 := congrArg Int64.toInt c11
      refine Gl.iconst Y0 (v := (0 : Int32)) (by decide) dO_14 rfl ?_
      exact Gl.retI Y0 (by decide) (by decide)  dO_15 ⟨(0 : Int32), rfl, (by have q0 : (0 : Int32).toInt = 0 := rfl; have q1 : (1 : Int32).toInt = 1 := rfl; have q2 : (-1 : Int32).toInt = -1 := rfl; omega), rfl⟩
  · have j3 : t1.toInt < 0 := Int64.lt_iff_toInt_lt.mp c3
    refine Gl.iconst Y0 (v := (-1 : Int32)) (by decide) dO_6 rfl ?_
    exact Gl.retI Y0 (by decide) (by decide)  dO_7 ⟨(-1 : Int32), rfl, (by have q0 : (0 : Int32).toInt = 0 := rfl; have q1 : (1 : Int32).toInt = 1 := rfl; have q2 : (-1 : Int32).toInt = -1 := rfl; omega), rfl⟩
theorem own_spec1 {xx yy : Int64} {dg ng ac : Int} {e r : Int64} (hd : dg ≤ 18) (hn : ng = 0 ∨ ng = 1) (p : ((xx.toInt = (-9223372036854775808) ∨ yy.toInt = (-9223372036854775808) ∨ xx.toInt + yy.toInt < (-9223372036854775808) ∨ 9223372036854775807 < xx.toInt + yy.toInt) ∧ e.toInt = (-9223372036854775808)) ∨ (¬ (xx.toInt = (-9223372036854775808) ∨ yy.toInt = (-9223372036854775808) ∨ xx.toInt + yy.toInt < (-9223372036854775808) ∨ 9223372036854775807 < xx.toInt + yy.toInt) ∧ e.toInt = xx.toInt + yy.toInt)) (h : (ng = 0 ∧ r = e) ∨ (ng = 1 ∧ r = own_o e 1)) (q : ((r.toInt < 0 ∧ ac = -1) ∨ (¬ r.toInt < 0 ∧ (r.toInt = 0) ∧ ac = 0) ∨ (¬ r.toInt < 0 ∧ ¬ (r.toInt = 0) ∧ ac = 1))) : ((dg ≤ 18 ∧ (xx.toInt = (-9223372036854775808) ∨ yy.toInt = (-9223372036854775808) ∨ xx.toInt + yy.toInt ≤ (-9223372036854775808) ∨ 9223372036854775807 < xx.toInt + yy.toInt)) ∧ ac = -1) ∨ (¬ (dg ≤ 18 ∧ (xx.toInt = (-9223372036854775808) ∨ yy.toInt = (-9223372036854775808) ∨ xx.toInt + yy.toInt ≤ (-9223372036854775808) ∨ 9223372036854775807 < xx.toInt + yy.toInt)) ∧ ((xx.toInt + yy.toInt < 0 ∧ ac = 2 * ng - 1) ∨ (xx.toInt + yy.toInt = 0 ∧ ac = 0) ∨ (0 < xx.toInt + yy.toInt ∧ ac = 1 - 2 * ng))) := by
  have q3 := own_n1 e
  have r1 := rng64 e
  rcases h with ⟨h1, rfl⟩ | ⟨h1, rfl⟩ <;> omega
theorem own_spec2 {xx yy : Int64} {dg ng ac : Int} {e t : Int64} (hd : ¬ dg ≤ 18) (p : xx.toInt + yy.toInt = t.toInt * 18446744073709551616 + e.toInt % 18446744073709551616 ∧ (t.toInt = 0 ∨ t.toInt = -1)) (h : (ng = 0 ∧ ((t.toInt < 0 ∧ ac = -1) ∨ (¬ t.toInt < 0 ∧ (e.toInt = 0 ∧ t.toInt = 0) ∧ ac = 0) ∨ (¬ t.toInt < 0 ∧ ¬ (e.toInt = 0 ∧ t.toInt = 0) ∧ ac = 1))) ∨ (ng = 1 ∧ (((own_o t (own_k e 1)).toInt < 0 ∧ ac = -1) ∨ (¬ (own_o t (own_k e 1)).toInt < 0 ∧ ((own_o e 1).toInt = 0 ∧ (own_o t (own_k e 1)).toInt = 0) ∧ ac = 0) ∨ (¬ (own_o t (own_k e 1)).toInt < 0 ∧ ¬ ((own_o e 1).toInt = 0 ∧ (own_o t (own_k e 1)).toInt = 0) ∧ ac = 1)))) : ((dg ≤ 18 ∧ (xx.toInt = (-9223372036854775808) ∨ yy.toInt = (-9223372036854775808) ∨ xx.toInt + yy.toInt ≤ (-9223372036854775808) ∨ 9223372036854775807 < xx.toInt + yy.toInt)) ∧ ac = -1) ∨ (¬ (dg ≤ 18 ∧ (xx.toInt = (-9223372036854775808) ∨ yy.toInt = (-9223372036854775808) ∨ xx.toInt + yy.toInt ≤ (-9223372036854775808) ∨ 9223372036854775807 < xx.toInt + yy.toInt)) ∧ ((xx.toInt + yy.toInt < 0 ∧ ac = 2 * ng - 1) ∨ (xx.toInt + yy.toInt = 0 ∧ ac = 0) ∨ (0 < xx.toInt + yy.toInt ∧ ac = 1 - 2 * ng))) := by
  obtain ⟨p1, p2⟩ := p
  have r1 := rng64 e
  have f := own_first e
  rcases p2 with ht | ht
  · have s1 := own_ch0 ht (c := (own_k e 1)) f.2.1
    have b1 : (own_k e 1).toInt = 0 ∨ (own_k e 1).toInt = 1 := f.2.1
    rcases h with ⟨h1, q⟩ | ⟨h1, q⟩ <;> omega
  · have s1 := own_ch1 ht (c := (own_k e 1)) f.2.1
    rcases h with ⟨h1, q⟩ | ⟨h1, q⟩ <;> omega
theorem own_spec3 {xx yy : Int64} {dg ng ac : Int} {e t : Int64} (hd : ¬ dg ≤ 18) (p : xx.toInt + yy.toInt = t.toInt * 18446744073709551616 + e.toInt % 18446744073709551616 ∧ (t.toInt = 0 ∨ t.toInt = -1)) (h : (ng = 0 ∧ ((t.toInt < 0 ∧ ac = -1) ∨ (¬ t.toInt < 0 ∧ (e.toInt = 0 ∧ t.toInt = 0 ∧ t.toInt = 0) ∧ ac = 0) ∨ (¬ t.toInt < 0 ∧ ¬ (e.toInt = 0 ∧ t.toInt = 0 ∧ t.toInt = 0) ∧ ac = 1))) ∨ (ng = 1 ∧ (((own_o t (own_k t (own_k e 1))).toInt < 0 ∧ ac = -1) ∨ (¬ (own_o t (own_k t (own_k e 1))).toInt < 0 ∧ ((own_o e 1).toInt = 0 ∧ (own_o t (own_k e 1)).toInt = 0 ∧ (own_o t (own_k t (own_k e 1))).toInt = 0) ∧ ac = 0) ∨ (¬ (own_o t (own_k t (own_k e 1))).toInt < 0 ∧ ¬ ((own_o e 1).toInt = 0 ∧ (own_o t (own_k e 1)).toInt = 0 ∧ (own_o t (own_k t (own_k e 1))).toInt = 0) ∧ ac = 1)))) : ((dg ≤ 18 ∧ (xx.toInt = (-9223372036854775808) ∨ yy.toInt = (-9223372036854775808) ∨ xx.toInt + yy.toInt ≤ (-9223372036854775808) ∨ 9223372036854775807 < xx.toInt + yy.toInt)) ∧ ac = -1) ∨ (¬ (dg ≤ 18 ∧ (xx.toInt = (-9223372036854775808) ∨ yy.toInt = (-9223372036854775808) ∨ xx.toInt + yy.toInt ≤ (-9223372036854775808) ∨ 9223372036854775807 < xx.toInt + yy.toInt)) ∧ ((xx.toInt + yy.toInt < 0 ∧ ac = 2 * ng - 1) ∨ (xx.toInt + yy.toInt = 0 ∧ ac = 0) ∨ (0 < xx.toInt + yy.toInt ∧ ac = 1 - 2 * ng))) := by
  obtain ⟨p1, p2⟩ := p
  have r1 := rng64 e
  have f := own_first e
  rcases p2 with ht | ht
  · have s1 := own_ch0 ht (c := (own_k e 1)) f.2.1
    have b1 : (own_k e 1).toInt = 0 ∨ (own_k e 1).toInt = 1 := f.2.1
    have s2 := own_ch0 ht (c := (own_k t (own_k e 1))) (by rw [s1.2]; exact f.2.1)
    rw [s1.2] at s2
    have b2 : (own_k e 1).toInt = 0 ∨ (own_k e 1).toInt = 1 := f.2.1
    rcases h with ⟨h1, q⟩ | ⟨h1, q⟩ <;> omega
  · have s1 := own_ch1 ht (c := (own_k e 1)) f.2.1
    have s2 := own_ch1 ht (c := (own_k t (own_k e 1))) (by rw [s1.2]; exact Or.inl rfl)
    rcases h with ⟨h1, q⟩ | ⟨h1, q⟩ <;> omega
theorem own_spec4 {xx yy : Int64} {dg ng ac : Int} {e t : Int64} (hd : ¬ dg ≤ 18) (p : xx.toInt + yy.toInt = t.toInt * 18446744073709551616 + e.toInt % 18446744073709551616 ∧ (t.toInt = 0 ∨ t.toInt = -1)) (h : (ng = 0 ∧ ((t.toInt < 0 ∧ ac = -1) ∨ (¬ t.toInt < 0 ∧ (e.toInt = 0 ∧ t.toInt = 0 ∧ t.toInt = 0 ∧ t.toInt = 0) ∧ ac = 0) ∨ (¬ t.toInt < 0 ∧ ¬ (e.toInt = 0 ∧ t.toInt = 0 ∧ t.toInt = 0 ∧ t.toInt = 0) ∧ ac = 1))) ∨ (ng = 1 ∧ (((own_o t (own_k t (own_k t (own_k e 1)))).toInt < 0 ∧ ac = -1) ∨ (¬ (own_o t (own_k t (own_k t (own_k e 1)))).toInt < 0 ∧ ((own_o e 1).toInt = 0 ∧ (own_o t (own_k e 1)).toInt = 0 ∧ (own_o t (own_k t (own_k e 1))).toInt = 0 ∧ (own_o t (own_k t (own_k t (own_k e 1)))).toInt = 0) ∧ ac = 0) ∨ (¬ (own_o t (own_k t (own_k t (own_k e 1)))).toInt < 0 ∧ ¬ ((own_o e 1).toInt = 0 ∧ (own_o t (own_k e 1)).toInt = 0 ∧ (own_o t (own_k t (own_k e 1))).toInt = 0 ∧ (own_o t (own_k t (own_k t (own_k e 1)))).toInt = 0) ∧ ac = 1)))) : ((dg ≤ 18 ∧ (xx.toInt = (-9223372036854775808) ∨ yy.toInt = (-9223372036854775808) ∨ xx.toInt + yy.toInt ≤ (-9223372036854775808) ∨ 9223372036854775807 < xx.toInt + yy.toInt)) ∧ ac = -1) ∨ (¬ (dg ≤ 18 ∧ (xx.toInt = (-9223372036854775808) ∨ yy.toInt = (-9223372036854775808) ∨ xx.toInt + yy.toInt ≤ (-9223372036854775808) ∨ 9223372036854775807 < xx.toInt + yy.toInt)) ∧ ((xx.toInt + yy.toInt < 0 ∧ ac = 2 * ng - 1) ∨ (xx.toInt + yy.toInt = 0 ∧ ac = 0) ∨ (0 < xx.toInt + yy.toInt ∧ ac = 1 - 2 * ng))) := by
  obtain ⟨p1, p2⟩ := p
  have r1 := rng64 e
  have f := own_first e
  rcases p2 with ht | ht
  · have s1 := own_ch0 ht (c := (own_k e 1)) f.2.1
    have b1 : (own_k e 1).toInt = 0 ∨ (own_k e 1).toInt = 1 := f.2.1
    have s2 := own_ch0 ht (c := (own_k t (own_k e 1))) (by rw [s1.2]; exact f.2.1)
    rw [s1.2] at s2
    have b2 : (own_k e 1).toInt = 0 ∨ (own_k e 1).toInt = 1 := f.2.1
    have s3 := own_ch0 ht (c := (own_k t (own_k t (own_k e 1)))) (by rw [s2.2]; exact b2)
    rw [s2.2] at s3
    have b3 : (own_k e 1).toInt = 0 ∨ (own_k e 1).toInt = 1 := f.2.1
    rcases h with ⟨h1, q⟩ | ⟨h1, q⟩ <;> omega
  · have s1 := own_ch1 ht (c := (own_k e 1)) f.2.1
    have s2 := own_ch1 ht (c := (own_k t (own_k e 1))) (by rw [s1.2]; exact Or.inl rfl)
    have s3 := own_ch1 ht (c := (own_k t (own_k t (own_k e 1)))) (by rw [s2.2]; exact Or.inl rfl)
    rcases h with ⟨h1, q⟩ | ⟨h1, q⟩ <;> omega
theorem own_more {Z : State} {own : String} {bs : ByteArray} {mx : Nat} {ret : Option FieldType} {n0 : Nat} {p : Program} {l : Launch} {e : Env} {R : Room} {s : State} {m : MethodId} {args : Array Value} {below : List Frame} {meth : Method} {c : Code} {T : State} {h : Heap} {k n k' n' : Nat} (Y : Sd Z own bs mx ret n0 p l e R s m args below meth c T h k n) (hk : k ≤ k') (hn : n ≤ n') : Sd Z own bs mx ret n0 p l e R s m args below meth c T h k' n' := by
  obtain ⟨locs, X, r⟩ := Y
  exact ⟨locs, X.mono hk hn, r⟩
theorem tw_0 {a0 : Array Value} {Z : State} (hw : HW a0 Z) : (Jvm.Cond.classLink "com/example/meterwise/meterwise/model/WholeNumberSignumPinLaw" (7 : Nat) "com/example/meterwise/meterwise/model/WholeNumber").before a0 Z = true := hw _ (List.mem_of_getElem? (i := 0) rfl)
theorem tw_3 {a0 : Array Value} {Z : State} (hw : HW a0 Z) : (Jvm.Cond.methodLink "com/example/meterwise/meterwise/model/WholeNumberSignumPinLaw" (9 : Nat) ({ cls := "com/example/meterwise/meterwise/model/WholeNumber", name := "<init>", desc := "(I)V" } : Jvm.MethodName)).before a0 Z = true := hw _ (List.mem_of_getElem? (i := 3) rfl)
theorem pd_8 : parseMethodDescriptor "(I)V" = some ⟨[.int], none⟩ := by decide +kernel
theorem tw_5 {a0 : Array Value} {Z : State} (hw : HW a0 Z) : (Jvm.Cond.code ({ cls := "com/example/meterwise/meterwise/model/WholeNumber", name := "<init>", desc := "(I)V" } : Jvm.MethodName) prog_137_method_1_code (4 : Nat) (Option.none : Option Jvm.ClassFile.FieldType)).before a0 Z = true := hw _ (List.mem_of_getElem? (i := 5) rfl)
theorem tw_4 {a0 : Array Value} {Z : State} (hw : HW a0 Z) : (Jvm.Cond.instanceMethod ({ cls := "com/example/meterwise/meterwise/model/WholeNumber", name := "<init>", desc := "(I)V" } : Jvm.MethodName)).before a0 Z = true := hw _ (List.mem_of_getElem? (i := 4) rfl)
theorem tw_16 {a0 : Array Value} {Z : State} (hw : HW a0 Z) : (Jvm.Cond.methodLink "com/example/meterwise/meterwise/model/WholeNumberSignumPinLaw" (12 : Nat) ({ cls := "com/example/meterwise/meterwise/model/WholeNumber", name := "set", desc := "(J)Lcom/example/meterwise/meterwise/model/WholeNumber;" } : Jvm.MethodName)).before a0 Z = true := hw _ (List.mem_of_getElem? (i := 16) rfl)
theorem pd_9 : parseMethodDescriptor "(J)Lcom/example/meterwise/meterwise/model/WholeNumber;" = some ⟨[.long], some (.object "com/example/meterwise/meterwise/model/WholeNumber")⟩ := by decide +kernel
theorem tw_20 {a0 : Array Value} {Z : State} (hw : HW a0 Z) : (Jvm.Cond.code ({ cls := "com/example/meterwise/meterwise/model/WholeNumber", name := "set", desc := "(J)Lcom/example/meterwise/meterwise/model/WholeNumber;" } : Jvm.MethodName) prog_137_method_4_code (3 : Nat) (Option.some (Jvm.ClassFile.FieldType.object "com/example/meterwise/meterwise/model/WholeNumber"))).before a0 Z = true := hw _ (List.mem_of_getElem? (i := 20) rfl)
theorem tw_17 {a0 : Array Value} {Z : State} (hw : HW a0 Z) : (Jvm.Cond.declares ({ cls := "com/example/meterwise/meterwise/model/WholeNumber", name := "set", desc := "(J)Lcom/example/meterwise/meterwise/model/WholeNumber;" } : Jvm.MethodName)).before a0 Z = true := hw _ (List.mem_of_getElem? (i := 17) rfl)
theorem tw_19 {a0 : Array Value} {Z : State} (hw : HW a0 Z) : (Jvm.Cond.selects "com/example/meterwise/meterwise/model/WholeNumber" ({ cls := "com/example/meterwise/meterwise/model/WholeNumber", name := "set", desc := "(J)Lcom/example/meterwise/meterwise/model/WholeNumber;" } : Jvm.MethodName) ({ cls := "com/example/meterwise/meterwise/model/WholeNumber", name := "set", desc := "(J)Lcom/example/meterwise/meterwise/model/WholeNumber;" } : Jvm.MethodName)).before a0 Z = true := hw _ (List.mem_of_getElem? (i := 19) rfl)
theorem tw_18 {a0 : Array Value} {Z : State} (hw : HW a0 Z) : (Jvm.Cond.instanceMethod ({ cls := "com/example/meterwise/meterwise/model/WholeNumber", name := "set", desc := "(J)Lcom/example/meterwise/meterwise/model/WholeNumber;" } : Jvm.MethodName)).before a0 Z = true := hw _ (List.mem_of_getElem? (i := 18) rfl)
theorem tw_28 {a0 : Array Value} {Z : State} (hw : HW a0 Z) : (Jvm.Cond.methodLink "com/example/meterwise/meterwise/model/WholeNumberSignumPinLaw" (16 : Nat) ({ cls := "com/example/meterwise/meterwise/model/WholeNumber", name := "add", desc := "(Lcom/example/meterwise/meterwise/model/WholeNumber;)Lcom/example/meterwise/meterwise/model/WholeNumber;" } : Jvm.MethodName)).before a0 Z = true := hw _ (List.mem_of_getElem? (i := 28) rfl)
theorem pd_10 : parseMethodDescriptor "(Lcom/example/meterwise/meterwise/model/WholeNumber;)Lcom/example/meterwise/meterwise/model/WholeNumber;" = some ⟨[(.object "com/example/meterwise/meterwise/model/WholeNumber")], some (.object "com/example/meterwise/meterwise/model/WholeNumber")⟩ := by decide +kernel
theorem tw_32 {a0 : Array Value} {Z : State} (hw : HW a0 Z) : (Jvm.Cond.code ({ cls := "com/example/meterwise/meterwise/model/WholeNumber", name := "add", desc := "(Lcom/example/meterwise/meterwise/model/WholeNumber;)Lcom/example/meterwise/meterwise/model/WholeNumber;" } : Jvm.MethodName) prog_137_method_12_code (2 : Nat) (Option.some (Jvm.ClassFile.FieldType.object "com/example/meterwise/meterwise/model/WholeNumber"))).before a0 Z = true := hw _ (List.mem_of_getElem? (i := 32) rfl)
theorem tw_29 {a0 : Array Value} {Z : State} (hw : HW a0 Z) : (Jvm.Cond.declares ({ cls := "com/example/meterwise/meterwise/model/WholeNumber", name := "add", desc := "(Lcom/example/meterwise/meterwise/model/WholeNumber;)Lcom/example/meterwise/meterwise/model/WholeNumber;" } : Jvm.MethodName)).before a0 Z = true := hw _ (List.mem_of_getElem? (i := 29) rfl)
theorem tw_31 {a0 : Array Value} {Z : State} (hw : HW a0 Z) : (Jvm.Cond.selects "com/example/meterwise/meterwise/model/WholeNumber" ({ cls := "com/example/meterwise/meterwise/model/WholeNumber", name := "add", desc := "(Lcom/example/meterwise/meterwise/model/WholeNumber;)Lcom/example/meterwise/meterwise/model/WholeNumber;" } : Jvm.MethodName) ({ cls := "com/example/meterwise/meterwise/model/WholeNumber", name := "add", desc := "(Lcom/example/meterwise/meterwise/model/WholeNumber;)Lcom/example/meterwise/meterwise/model/WholeNumber;" } : Jvm.MethodName)).before a0 Z = true := hw _ (List.mem_of_getElem? (i := 31) rfl)
theorem tw_30 {a0 : Array Value} {Z : State} (hw : HW a0 Z) : (Jvm.Cond.instanceMethod ({ cls := "com/example/meterwise/meterwise/model/WholeNumber", name := "add", desc := "(Lcom/example/meterwise/meterwise/model/WholeNumber;)Lcom/example/meterwise/meterwise/model/WholeNumber;" } : Jvm.MethodName)).before a0 Z = true := hw _ (List.mem_of_getElem? (i := 30) rfl)
theorem tw_57 {a0 : Array Value} {Z : State} (hw : HW a0 Z) : (Jvm.Cond.methodLink "com/example/meterwise/meterwise/model/WholeNumberSignumPinLaw" (24 : Nat) ({ cls := "com/example/meterwise/meterwise/model/WholeNumber", name := "signum", desc := "()I" } : Jvm.MethodName)).before a0 Z = true := hw _ (List.mem_of_getElem? (i := 57) rfl)
theorem pd_11 : parseMethodDescriptor "()I" = some ⟨[], some .int⟩ := by decide +kernel
theorem tw_61 {a0 : Array Value} {Z : State} (hw : HW a0 Z) : (Jvm.Cond.code ({ cls := "com/example/meterwise/meterwise/model/WholeNumber", name := "signum", desc := "()I" } : Jvm.MethodName) prog_137_method_9_code (3 : Nat) (Option.some Jvm.ClassFile.FieldType.int)).before a0 Z = true := hw _ (List.mem_of_getElem? (i := 61) rfl)
theorem tw_58 {a0 : Array Value} {Z : State} (hw : HW a0 Z) : (Jvm.Cond.declares ({ cls := "com/example/meterwise/meterwise/model/WholeNumber", name := "signum", desc := "()I" } : Jvm.MethodName)).before a0 Z = true := hw _ (List.mem_of_getElem? (i := 58) rfl)
theorem tw_60 {a0 : Array Value} {Z : State} (hw : HW a0 Z) : (Jvm.Cond.selects "com/example/meterwise/meterwise/model/WholeNumber" ({ cls := "com/example/meterwise/meterwise/model/WholeNumber", name := "signum", desc := "()I" } : Jvm.MethodName) ({ cls := "com/example/meterwise/meterwise/model/WholeNumber", name := "signum", desc := "()I" } : Jvm.MethodName)).before a0 Z = true := hw _ (List.mem_of_getElem? (i := 60) rfl)
theorem tw_59 {a0 : Array Value} {Z : State} (hw : HW a0 Z) : (Jvm.Cond.instanceMethod ({ cls := "com/example/meterwise/meterwise/model/WholeNumber", name := "signum", desc := "()I" } : Jvm.MethodName)).before a0 Z = true := hw _ (List.mem_of_getElem? (i := 59) rfl)
theorem tw_52 {a0 : Array Value} {Z : State} (hw : HW a0 Z) : (Jvm.Cond.methodLink "com/example/meterwise/meterwise/model/WholeNumberSignumPinLaw" (20 : Nat) ({ cls := "com/example/meterwise/meterwise/model/WholeNumber", name := "negate", desc := "()Lcom/example/meterwise/meterwise/model/WholeNumber;" } : Jvm.MethodName)).before a0 Z = true := hw _ (List.mem_of_getElem? (i := 52) rfl)
theorem tw_56 {a0 : Array Value} {Z : State} (hw : HW a0 Z) : (Jvm.Cond.code ({ cls := "com/example/meterwise/meterwise/model/WholeNumber", name := "negate", desc := "()Lcom/example/meterwise/meterwise/model/WholeNumber;" } : Jvm.MethodName) prog_137_method_19_code (4 : Nat) (Option.some (Jvm.ClassFile.FieldType.object "com/example/meterwise/meterwise/model/WholeNumber"))).before a0 Z = true := hw _ (List.mem_of_getElem? (i := 56) rfl)
theorem tw_53 {a0 : Array Value} {Z : State} (hw : HW a0 Z) : (Jvm.Cond.declares ({ cls := "com/example/meterwise/meterwise/model/WholeNumber", name := "negate", desc := "()Lcom/example/meterwise/meterwise/model/WholeNumber;" } : Jvm.MethodName)).before a0 Z = true := hw _ (List.mem_of_getElem? (i := 53) rfl)
theorem tw_55 {a0 : Array Value} {Z : State} (hw : HW a0 Z) : (Jvm.Cond.selects "com/example/meterwise/meterwise/model/WholeNumber" ({ cls := "com/example/meterwise/meterwise/model/WholeNumber", name := "negate", desc := "()Lcom/example/meterwise/meterwise/model/WholeNumber;" } : Jvm.MethodName) ({ cls := "com/example/meterwise/meterwise/model/WholeNumber", name := "negate", desc := "()Lcom/example/meterwise/meterwise/model/WholeNumber;" } : Jvm.MethodName)).before a0 Z = true := hw _ (List.mem_of_getElem? (i := 55) rfl)
theorem tw_54 {a0 : Array Value} {Z : State} (hw : HW a0 Z) : (Jvm.Cond.instanceMethod ({ cls := "com/example/meterwise/meterwise/model/WholeNumber", name := "negate", desc := "()Lcom/example/meterwise/meterwise/model/WholeNumber;" } : Jvm.MethodName)).before a0 Z = true := hw _ (List.mem_of_getElem? (i := 54) rfl)
theorem tw_62 {a0 : Array Value} {Z : State} (hw : HW a0 Z) : (Jvm.Cond.methodLink "com/example/meterwise/meterwise/model/WholeNumberSignumPinLaw" (28 : Nat) ({ cls := "com/example/meterwise/meterwise/model/WholeNumberSignumPinLaw", name := "signOf", desc := "(J)I" } : Jvm.MethodName)).before a0 Z = true := hw _ (List.mem_of_getElem? (i := 62) rfl)
theorem pd_12 : parseMethodDescriptor "(J)I" = some ⟨[.long], some .int⟩ := by decide +kernel
theorem tw_65 {a0 : Array Value} {Z : State} (hw : HW a0 Z) : (Jvm.Cond.code ({ cls := "com/example/meterwise/meterwise/model/WholeNumberSignumPinLaw", name := "signOf", desc := "(J)I" } : Jvm.MethodName) method_2_code (2 : Nat) (Option.some Jvm.ClassFile.FieldType.int)).before a0 Z = true := hw _ (List.mem_of_getElem? (i := 65) rfl)
theorem tw_64 {a0 : Array Value} {Z : State} (hw : HW a0 Z) : (Jvm.Cond.initialized "com/example/meterwise/meterwise/model/WholeNumberSignumPinLaw").before a0 Z = true := hw _ (List.mem_of_getElem? (i := 64) rfl)
theorem tw_63 {a0 : Array Value} {Z : State} (hw : HW a0 Z) : (Jvm.Cond.static ({ cls := "com/example/meterwise/meterwise/model/WholeNumberSignumPinLaw", name := "signOf", desc := "(J)I" } : Jvm.MethodName)).before a0 Z = true := hw _ (List.mem_of_getElem? (i := 63) rfl)
theorem tw_66 {a0 : Array Value} {Z : State} (hw : HW a0 Z) : (Jvm.Cond.constantLong "com/example/meterwise/meterwise/model/WholeNumberSignumPinLaw" (36 : Nat) (-9223372036854775808 : Int64)).before a0 Z = true := hw _ (List.mem_of_getElem? (i := 66) rfl)
def QL (Z : State) (xx : Int64) (yy : Int64) (dd : Int32) (ff : Int32) (h0 : Heap) (v : Option Value) (h : Heap) : Prop := v = some (.int 1)
theorem efL (xx : Int64) (yy : Int64) (dd : Int32) (ff : Int32) (m : MethodId) : entryFrame m #[(.long xx), (.long yy), (.int dd), (.int ff)] maxLocals = mkF m 0 #[.val (.long xx), .second, .val (.long yy), .second, .val (.int dd), .val (.int ff), .unset, .unset, .unset, .unset, .unset, .unset, .unset, .unset, .unset, .unset, .unset, .unset] [] := by first | (simp [entryFrame, mkF, argsToLocals, Value.category, maxLocals]; done) | rfl
theorem rmL (l : Launch) (Z : State) (a0 : Array Value) (hw : HW a0 Z) (ws : List Jvm.Cond) (xx : Int64) (yy : Int64) (dd : Int32) (ff : Int32) (h0 : Heap) (n0 : Nat) (Z0 : n0 ≤ h0.size) : OMet l Z ws x code maxLocals ret room_1 #[(.long xx), (.long yy), (.int dd), (.int ff)] h0 n0 (QL Z xx yy dd ff h0) := by
  refine OMet.of (own := "com/example/meterwise/meterwise/model/WholeNumberSignumPinLaw") rfl (plainFor_of_name pn_2) (efL xx yy dd ff) Z0 ?_
  intro p e s m below meth c T0 Y0 hnm
  have nxx := rng64 xx
  have nyy := rng64 yy
  have ndd := rng32 dd
  have nff := rng32 ff
  refine Gl.iload Y0 rfl at_0 rfl ?_
  refine Gl.bipush Y0 (v := (63 : Int32)) (by decide) at_2 rfl ?_
  obtain ⟨v4, hv4⟩ : ∃ z : Int32, dd &&& (63 : Int32) = z := ⟨_, rfl⟩
  have iv4 : v4.toInt = dd.toInt % 64 := by have q := c_mask dd (63 : Int32) 6 (by decide) (by decide); rw [hv4] at q; exact q
  refine Gl.iand Y0 hv4 at_4 rfl ?_
  refine Gl.iconst Y0 (v := (1 : Int32)) (by decide) at_5 rfl ?_
  obtain ⟨v6, hv6⟩ : ∃ z : Int32, v4 + (1 : Int32) = z := ⟨_, rfl⟩
  have iv6 : v6.toInt = v4.toInt + 1 := by
    have q : (v6.toInt - (v4.toInt + 1)) % 4294967296 = 0 := by have q := c_iadd v4 (1 : Int32); rw [hv6] at q; exact q
    have r := rng32 v6
    omega
  refine Gl.iadd Y0 hv6 at_6 rfl ?_
  refine Gl.istore Y0 (L' := #[.val (.long xx), .second, .val (.long yy), .second, .val (.int dd), .val (.int ff), .val (.int v6), .unset, .unset, .unset, .unset, .unset, .unset, .unset, .unset, .unset, .unset, .unset]) rfl at_7 rfl ?_
  refine Gl.iload Y0 rfl at_9 rfl ?_
  refine Gl.iconst Y0 (v := (1 : Int32)) (by decide) at_11 rfl ?_
  obtain ⟨v12, hv12⟩ : ∃ z : Int32, ff &&& (1 : Int32) = z := ⟨_, rfl⟩
  have iv12 : v12.toInt = ff.toInt % 2 := by have q := c_mask ff (1 : Int32) 1 (by decide) (by decide); rw [hv12] at q; exact q
  refine Gl.iand Y0 hv12 at_12 rfl ?_
  obtain ⟨z13, hz13⟩ : ∃ z : Int32, (if v12 = (0 : Int32) then (0 : Int32) else (1 : Int32)) = z := ⟨_, rfl⟩
  have iz13 : (v12.toInt = 0 ∧ (z13.toInt = 0)) ∨ (¬ (v12.toInt = 0) ∧ (z13.toInt = 1)) := own_ite (c := v12 = (0 : Int32)) (fun q0 => ⟨congrArg Int32.toInt q0, congrArg Int32.toInt (show z13 = (0 : Int32) from by rw [← hz13]; simp only [q0, ↓reduceIte, if_true, if_false, ite_self])⟩) (fun q0 => ⟨fun q => q0 (Int32.toInt_inj.mp q), congrArg Int32.toInt (show z13 = (1 : Int32) from by rw [← hz13]; simp only [q0, ↓reduceIte, if_true, if_false, ite_self])⟩)
  have bz13 : z13 = 0 ∨ z13 = 1 := by rw [← hz13]; (repeat' split) <;> first | (simp; done) | assumption
  refine own_cut (B := ∀ T', Sd Z "com/example/meterwise/meterwise/model/WholeNumberSignumPinLaw" code maxLocals (some .boolean) n0 p l e room_1 s m #[(.long xx), (.long yy), (.int dd), (.int ff)] below meth c T' h0 0 0 → Gl p e below (Pst s n0 room_1.cells room_1.slots (QL Z xx yy dd ff h0)) (T'.setTop (mkF m 21 #[.val (.long xx), .second, .val (.long yy), .second, .val (.int dd), .val (.int ff), .val (.int v6), .unset, .unset, .unset, .unset, .unset, .unset, .unset, .unset, .unset, .unset, .unset] [(.int z13)]))) (fun jk => ?_) (fun T13j Y13j => ?_)
  · refine Gl.ifeq Y0 at_13 (by decide) rfl rfl (fun c13 => ?_) (fun c13 => ?_)
    · have j13 : v12.toInt = 0 := congrArg Int32.toInt c13
      refine Gl.iconst Y0 (v := (0 : Int32)) (by decide) at_20 rfl ?_
      have ez13 : z13 = (0 : Int32) := by rw [← hz13]; simp only [c13, ↓reduceIte, if_true, if_false]
      rw [ez13] at jk
      exact jk T0 Y0
    · have j13 : ¬ (v12.toInt = 0) := fun q => c13 (Int32.toInt_inj.mp q)
      refine Gl.iconst Y0 (v := (1 : Int32)) (by decide) at_16 rfl ?_
      refine Gl.goto Y0 at_17 (by decide) rfl ?_
      have ez13 : z13 = (1 : Int32) := by rw [← hz13]; simp only [c13, ↓reduceIte, if_true, if_false]
      rw [ez13] at jk
      exact jk T0 Y0
  refine Gl.istore Y13j (L' := #[.val (.long xx), .second, .val (.long yy), .second, .val (.int dd), .val (.int ff), .val (.int v6), .val (.int z13), .unset, .unset, .unset, .unset, .unset, .unset, .unset, .unset, .unset, .unset]) rfl at_21 rfl ?_
  refine own_cut (B := ∀ (dg ng ac : Int32) (r8 r9 : Addr) (T' : State) (h' : Heap), Sd Z "com/example/meterwise/meterwise/model/WholeNumberSignumPinLaw" code maxLocals (some .boolean) n0 p l e room_1 s m #[(.long xx), (.long yy), (.int dd), (.int ff)] below meth c T' h' 16 128 → (ng.toInt = 0 ∨ ng.toInt = 1) → (((dg.toInt ≤ 18 ∧ (xx.toInt = (-9223372036854775808) ∨ yy.toInt = (-9223372036854775808) ∨ xx.toInt + yy.toInt ≤ (-9223372036854775808) ∨ 9223372036854775807 < xx.toInt + yy.toInt)) ∧ ac.toInt = -1) ∨ (¬ (dg.toInt ≤ 18 ∧ (xx.toInt = (-9223372036854775808) ∨ yy.toInt = (-9223372036854775808) ∨ xx.toInt + yy.toInt ≤ (-9223372036854775808) ∨ 9223372036854775807 < xx.toInt + yy.toInt)) ∧ ((xx.toInt + yy.toInt < 0 ∧ ac.toInt = 2 * ng.toInt - 1) ∨ (xx.toInt + yy.toInt = 0 ∧ ac.toInt = 0) ∨ (0 < xx.toInt + yy.toInt ∧ ac.toInt = 1 - 2 * ng.toInt)))) → Gl p e below (Pst s n0 room_1.cells room_1.slots (QL Z xx yy dd ff h0)) (T'.setTop (mkF m 85 #[.val (.long xx), .second, .val (.long yy), .second, .val (.int dd), .val (.int ff), .val (.int dg), .val (.int ng), .val (.ref r8), .val (.ref r9), .val (.int ac), .unset, .unset, .unset, .unset, .unset, .unset, .unset] []))) (fun tail => ?_) (fun dg ng ac r8 r9 Tc hc Yc hng spec => ?_)
  · by_cases dg18 : v6 < (19 : Int32)
    · have jg18 : v6.toInt < 19 := Int32.lt_iff_toInt_lt.mp dg18
      refine Gl.newO Y13j (tw_0 hw) (tw_1 hw) (tw_2 hw) (by decide) (by decide) at_23 rfl (fun T23 h23 b23 Y23 E23 g23 sb23 X23 D23 => ?_)
      have f1 : Fld Z h23 b23 "com/example/meterwise/meterwise/model/WholeNumber" "words" "[J" .null := D23 (Or.inr (tw_15 hw)) (ty := (.array .long)) (by decide)
      show Gl p e below _ (T23.setTop (mkF m 26 _ [(.ref b23)]))
      refine Gl.dup Y23 rfl at_26 rfl ?_
      refine Gl.iload Y23 rfl at_27 rfl ?_
      refine Gl.callN Y23 rfl (tw_3 hw) (tw_4 hw) (tw_2 hw) (tw_5 hw) (by decide) (rm0 l Z a0 hw [] b23 v6 h23 n0 Y23.sz X23 f1 sb23 (by first | assumption | decide | omega | (simp; done)) (by first | assumption | decide | omega | (simp; done))) (a := b23) (argsL := [(.int v6)]) (rest := [(.ref b23)]) rfl rfl (lenOf pd_8 rfl) rfl (by decide) (Nat.le_of_ble_eq_true rfl) (by decide) (by decide) at_29 rfl (fun v29 T29 h29 Y29 q29 => ?_)
      obtain ⟨wa29, ck29, rfl, K29, f29_0, f29_1, f29_2, f29_3⟩ := q29
      have Y29_sz : n0 ≤ h23.size := Y23.sz
      show Gl p e below _ (T29.setTop (mkF m 32 _ [(.ref b23)]))
      refine Gl.astore Y29 rfl (L' := #[.val (.long xx), .second, .val (.long yy), .second, .val (.int dd), .val (.int ff), .val (.int v6), .val (.int z13), .val (.ref b23), .unset, .unset, .unset, .unset, .unset, .unset, .unset, .unset, .unset]) rfl at_32 rfl ?_
      refine Gl.newO Y29 (tw_0 hw) (tw_1 hw) (tw_2 hw) (by decide) (by decide) at_34 rfl (fun T34 h34 b34 Y34 E34 g34 sb34 X34 D34 => ?_)
      have f2 : Fld Z h34 b34 "com/example/meterwise/meterwise/model/WholeNumber" "words" "[J" .null := D34 (Or.inr (tw_15 hw)) (ty := (.array .long)) (by decide)
      show Gl p e below _ (T34.setTop (mkF m 37 _ [(.ref b34)]))
      refine Gl.dup Y34 rfl at_37 rfl ?_
      refine Gl.iload Y34 rfl at_38 rfl ?_
      refine Gl.callN Y34 rfl (tw_3 hw) (tw_4 hw) (tw_2 hw) (tw_5 hw) (by decide) (rm0 l Z a0 hw [] b34 v6 h34 n0 Y34.sz X34 f2 sb34 (by first | assumption | decide | omega | (simp; done)) (by first | assumption | decide | omega | (simp; done))) (a := b34) (argsL := [(.int v6)]) (rest := [(.ref b34)]) rfl rfl (lenOf pd_8 rfl) rfl (by decide) (Nat.le_of_ble_eq_true rfl) (by decide) (by decide) at_40 rfl (fun v40 T40 h40 Y40 q40 => ?_)
      obtain ⟨wa40, ck40, rfl, K40, f40_0, f40_1, f40_2, f40_3⟩ := q40
      have f3 := (Exa.ext E34 f29_1)
      have f4 := (f29_3.ext E34)
      have Y40_sz : n0 ≤ h34.size := Y34.sz
      show Gl p e below _ (T40.setTop (mkF m 43 _ [(.ref b34)]))
      refine Gl.astore Y40 rfl (L' := #[.val (.long xx), .second, .val (.long yy), .second, .val (.int dd), .val (.int ff), .val (.int v6), .val (.int z13), .val (.ref b23), .val (.ref b34), .unset, .unset, .unset, .unset, .unset, .unset, .unset, .unset]) rfl at_43 rfl ?_
      obtain ⟨sx, hsx⟩ : ∃ z : Int64, xx >>> ((63 : Int32) &&& 0x3f).toInt64 = z := ⟨_, rfl⟩
      obtain ⟨sy, hsy⟩ : ∃ z : Int64, yy >>> ((63 : Int32) &&& 0x3f).toInt64 = z := ⟨_, rfl⟩
      have hng : z13.toInt = 0 ∨ z13.toInt = 1 := by omega
      refine Gl.aload Y40 rfl rfl at_45 rfl ?_
      refine Gl.lloadN Y40 rfl at_47 rfl ?_
      have f5 := (f3.keep K40)
      have f6 := ((Fld.ext E34 f29_2).keep K40 (ninS (Nat.ne_of_lt (Nat.lt_of_lt_of_eq f29_1.lt g34.symm)) nin0))
      have f7 := (f4.keep K40 (ninS (Nat.ne_of_lt (Nat.lt_of_lt_of_eq f29_3.lt g34.symm)) nin0))
      refine Gl.callV Y40 (tw_16 hw) (tw_17 hw) (tw_19 hw) (tw_19 hw) (tw_18 hw) (tw_2 hw) (tw_20 hw) (by decide) f5 (rm8 l Z a0 hw [] b23 wa29 ck29 (0 : Int64) xx sx h40 n0 Y40.sz f5 f6 f7 (Nat.le_trans Y29_sz f29_0) (Nat.ne_of_lt (Nat.lt_of_lt_of_le X23.lt f29_0)) (hsx)) (a := b23) (argsL := [(.long xx)]) (rest := []) rfl rfl (lenOf pd_9 rfl) rfl (by decide) (Nat.le_of_ble_eq_true rfl) (by decide) (by decide) at_48 rfl (fun v48 T48 h48 Y48 q48 => ?_)
      obtain ⟨rfl, K48, f48_0⟩ := q48
      show Gl p e below _ (T48.setTop (mkF m 51 _ [(.ref b23)]))
      refine Gl.pop Y48 rfl at_51 rfl ?_
      refine Gl.aload Y48 rfl rfl at_52 rfl ?_
      refine Gl.lloadN Y48 rfl at_54 rfl ?_
      have f8 := (f40_1.keep K48)
      have f9 := (f40_2.keep K48 (ninS (Ne.symm (Nat.ne_of_lt (Nat.lt_of_lt_of_eq f29_3.lt g34.symm))) nin0))
      have f10 := (f40_3.keep K48 (ninS (Ne.symm (Nat.ne_of_lt (Nat.lt_of_lt_of_le f4.lt f40_0))) nin0))
      refine Gl.callV Y48 (tw_16 hw) (tw_17 hw) (tw_19 hw) (tw_19 hw) (tw_18 hw) (tw_2 hw) (tw_20 hw) (by decide) f8 (rm8 l Z a0 hw [] b34 wa40 ck40 (0 : Int64) yy sy h48 n0 Y48.sz f8 f9 f10 (Nat.le_trans Y40_sz f40_0) (Nat.ne_of_lt (Nat.lt_of_lt_of_le X34.lt f40_0)) (hsy)) (a := b34) (argsL := [(.long yy)]) (rest := []) rfl rfl (lenOf pd_9 rfl) rfl (by decide) (Nat.le_of_ble_eq_true rfl) (by decide) (by decide) at_55 rfl (fun v55 T55 h55 Y55 q55 => ?_)
      obtain ⟨rfl, K55, f55_0⟩ := q55
      show Gl p e below _ (T55.setTop (mkF m 58 _ [(.ref b34)]))
      refine Gl.pop Y55 rfl at_58 rfl ?_
      refine Gl.aload Y55 rfl rfl at_59 rfl ?_
      refine Gl.aload Y55 rfl rfl at_61 rfl ?_
      have f11 := ((f5.keep K48).keep K55)
      have f12 := ((f6.keep K48 (ninS (Nat.ne_of_lt (Nat.lt_of_lt_of_le X23.lt f29_0)) nin0)).keep K55 (ninS (Nat.ne_of_lt (Nat.lt_of_lt_of_le f3.lt f40_0)) nin0))
      have f13 := (f48_0.keep K55 (ninS (Nat.ne_of_lt (Nat.lt_of_lt_of_le f4.lt f40_0)) nin0))
      have f14 := (f8.keep K55)
      have f15 := (f9.keep K55 (ninS (Nat.ne_of_lt (Nat.lt_of_lt_of_le X34.lt f40_0)) nin0))
      refine Gl.callV Y55 (tw_28 hw) (tw_29 hw) (tw_31 hw) (tw_31 hw) (tw_30 hw) (tw_2 hw) (tw_32 hw) (by decide) f11 (rm16 l Z a0 hw [] b23 wa29 ck29 xx b34 wa40 ck40 yy h55 n0 Y55.sz f11 f12 f13 (Nat.le_trans Y29_sz f29_0) (Nat.ne_of_lt (Nat.lt_of_lt_of_le X23.lt f29_0)) f14 f15 f55_0 (Nat.ne_of_lt (Nat.lt_of_lt_of_le f4.lt f40_0)) (Ne.symm (Nat.ne_of_lt (Nat.lt_of_lt_of_eq f29_3.lt g34.symm)))) (a := b23) (argsL := [(.ref b34)]) (rest := []) rfl rfl (lenOf pd_10 rfl) rfl (by decide) (Nat.le_of_ble_eq_true rfl) (by decide) (by decide) at_63 rfl (fun v63 T63 h63 Y63 q63 => ?_)
      obtain ⟨e063, rfl, p63, K63, f63_0⟩ := q63
      show Gl p e below _ (T63.setTop (mkF m 66 _ [(.ref b23)]))
      refine Gl.pop Y63 rfl at_66 rfl ?_
      refine Gl.iload Y63 rfl at_67 rfl ?_
      refine Gl.ifeq Y63 at_69 (by decide) rfl rfl (fun c69 => ?_) (fun c69 => ?_)
      · have j69 : z13.toInt = 0 := congrArg Int32.toInt c69
        refine Gl.aload Y63 rfl rfl at_78 rfl ?_
        have f16 := (f11.keep K63)
        have f17 := (f12.keep K63 (ninS (Nat.ne_of_lt (Nat.lt_of_lt_of_le X23.lt f29_0)) nin0))
        refine Gl.callV Y63 (tw_57 hw) (tw_58 hw) (tw_60 hw) (tw_60 hw) (tw_59 hw) (tw_2 hw) (tw_61 hw) (by decide) f16 (rm11 l Z a0 hw [] b23 wa29 ck29 e063 h63 n0 Y63.sz f16 f17 f63_0) (a := b23) (argsL := []) (rest := []) rfl rfl (lenOf pd_11 rfl) rfl (by decide) (Nat.le_of_ble_eq_true rfl) (by decide) (by decide) at_80 rfl (fun v80 T80 h80 Y80 q80 => ?_)
        obtain ⟨r80, rfl, p80, rfl⟩ := q80
        show Gl p e below _ (T80.setTop (mkF m 83 _ [(.int r80)]))
        refine Gl.istore Y80 (L' := #[.val (.long xx), .second, .val (.long yy), .second, .val (.int dd), .val (.int ff), .val (.int v6), .val (.int z13), .val (.ref b23), .val (.ref b34), .val (.int r80), .unset, .unset, .unset, .unset, .unset, .unset, .unset]) rfl at_83 rfl ?_
        have hd :  v6.toInt ≤ 18 := by omega
        have ngv : z13.toInt = 0 := by omega
        have spec := own_spec1 (xx := xx) (yy := yy) hd hng p63 (Or.inl ⟨ngv, rfl⟩) p80
        exact tail v6 z13 r80 b23 b34 T80 h63 (own_more Y80 (by decide) (by decide)) hng spec
      · have j69 : ¬ (z13.toInt = 0) := fun q => c69 (Int32.toInt_inj.mp q)
        refine Gl.aload Y63 rfl rfl at_72 rfl ?_
        have f18 := (f11.keep K63)
        have f19 := (f12.keep K63 (ninS (Nat.ne_of_lt (Nat.lt_of_lt_of_le X23.lt f29_0)) nin0))
        refine Gl.callV Y63 (tw_52 hw) (tw_53 hw) (tw_55 hw) (tw_55 hw) (tw_54 hw) (tw_2 hw) (tw_56 hw) (by decide) f18 (rm12 l Z a0 hw [] b23 wa29 ck29 e063 h63 n0 Y63.sz f18 f19 f63_0 (Nat.le_trans Y29_sz f29_0) (Nat.ne_of_lt (Nat.lt_of_lt_of_le X23.lt f29_0))) (a := b23) (argsL := []) (rest := []) rfl rfl (lenOf pd_5 rfl) rfl (by decide) (Nat.le_of_ble_eq_true rfl) (by decide) (by decide) at_74 rfl (fun v74 T74 h74 Y74 q74 => ?_)
        obtain ⟨rfl, K74, f74_0⟩ := q74
        show Gl p e below _ (T74.setTop (mkF m 77 _ [(.ref b23)]))
        refine Gl.pop Y74 rfl at_77 rfl ?_
        refine Gl.aload Y74 rfl rfl at_78 rfl ?_
        have f20 := (f18.keep K74)
        have f21 := (f19.keep K74 (ninS (Nat.ne_of_lt (Nat.lt_of_lt_of_le X23.lt f29_0)) nin0))
        refine Gl.callV Y74 (tw_57 hw) (tw_58 hw) (tw_60 hw) (tw_60 hw) (tw_59 hw) (tw_2 hw) (tw_61 hw) (by decide) f20 (rm11 l Z a0 hw [] b23 wa29 ck29 (own_o e063 1) h74 n0 Y74.sz f20 f21 f74_0) (a := b23) (argsL := []) (rest := []) rfl rfl (lenOf pd_11 rfl) rfl (by decide) (Nat.le_of_ble_eq_true rfl) (by decide) (by decide) at_80 rfl (fun v80 T80 h80 Y80 q80 => ?_)
        obtain ⟨r80, rfl, p80, rfl⟩ := q80
        show Gl p e below _ (T80.setTop (mkF m 83 _ [(.int r80)]))
        refine Gl.istore Y80 (L' := #[.val (.long xx), .second, .val (.long yy), .second, .val (.int dd), .val (.int ff), .val (.int v6), .val (.int z13), .val (.ref b23), .val (.ref b34), .val (.int r80), .unset, .unset, .unset, .unset, .unset, .unset, .unset]) rfl at_83 rfl ?_
        have hd :  v6.toInt ≤ 18 := by omega
        have ngv : z13.toInt = 1 := by omega
        have spec := own_spec1 (xx := xx) (yy := yy) hd hng p63 (Or.inr ⟨ngv, rfl⟩) p80
        exact tail v6 z13 r80 b23 b34 T80 h74 (own_more Y80 (by decide) (by decide)) hng spec
    · have jg18 : ¬ (v6.toInt < 19) := fun q => dg18 (Int32.lt_iff_toInt_lt.mpr q)
      by_cases dg38 : v6 < (39 : Int32)
      · have jg38 : v6.toInt < 39 := Int32.lt_iff_toInt_lt.mp dg38
        refine Gl.newO Y13j (tw_0 hw) (tw_1 hw) (tw_2 hw) (by decide) (by decide) at_23 rfl (fun T23 h23 b23 Y23 E23 g23 sb23 X23 D23 => ?_)
        have f22 : Fld Z h23 b23 "com/example/meterwise/meterwise/model/WholeNumber" "words" "[J" .null := D23 (Or.inr (tw_15 hw)) (ty := (.array .long)) (by decide)
        show Gl p e below _ (T23.setTop (mkF m 26 _ [(.ref b23)]))
        refine Gl.dup Y23 rfl at_26 rfl ?_
        refine Gl.iload Y23 rfl at_27 rfl ?_
        refine Gl.callN Y23 rfl (tw_3 hw) (tw_4 hw) (tw_2 hw) (tw_5 hw) (by decide) (rm1 l Z a0 hw [] b23 v6 h23 n0 Y23.sz X23 f22 sb23 (by first | assumption | decide | omega | (simp; done)) (by first | assumption | decide | omega | (simp; done))) (a := b23) (argsL := [(.int v6)]) (rest := [(.ref b23)]) rfl rfl (lenOf pd_8 rfl) rfl (by decide) (Nat.le_of_ble_eq_true rfl) (by decide) (by decide) at_29 rfl (fun v29 T29 h29 Y29 q29 => ?_)
        obtain ⟨wa29, ck29, rfl, K29, f29_0, f29_1, f29_2, f29_3⟩ := q29
        have Y29_sz : n0 ≤ h23.size := Y23.sz
        show Gl p e below _ (T29.setTop (mkF m 32 _ [(.ref b23)]))
        refine Gl.astore Y29 rfl (L' := #[.val (.long xx), .second, .val (.long yy), .second, .val (.int dd), .val (.int ff), .val (.int v6), .val (.int z13), .val (.ref b23), .unset, .unset, .unset, .unset, .unset, .unset, .unset, .unset, .unset]) rfl at_32 rfl ?_
        refine Gl.newO Y29 (tw_0 hw) (tw_1 hw) (tw_2 hw) (by decide) (by decide) at_34 rfl (fun T34 h34 b34 Y34 E34 g34 sb34 X34 D34 => ?_)
        have f23 : Fld Z h34 b34 "com/example/meterwise/meterwise/model/WholeNumber" "words" "[J" .null := D34 (Or.inr (tw_15 hw)) (ty := (.array .long)) (by decide)
        show Gl p e below _ (T34.setTop (mkF m 37 _ [(.ref b34)]))
        refine Gl.dup Y34 rfl at_37 rfl ?_
        refine Gl.iload Y34 rfl at_38 rfl ?_
        refine Gl.callN Y34 rfl (tw_3 hw) (tw_4 hw) (tw_2 hw) (tw_5 hw) (by decide) (rm1 l Z a0 hw [] b34 v6 h34 n0 Y34.sz X34 f23 sb34 (by first | assumption | decide | omega | (simp; done)) (by first | assumption | decide | omega | (simp; done))) (a := b34) (argsL := [(.int v6)]) (rest := [(.ref b34)]) rfl rfl (lenOf pd_8 rfl) rfl (by decide) (Nat.le_of_ble_eq_true rfl) (by decide) (by decide) at_40 rfl (fun v40 T40 h40 Y40 q40 => ?_)
        obtain ⟨wa40, ck40, rfl, K40, f40_0, f40_1, f40_2, f40_3⟩ := q40
        have f24 := (Exa.ext E34 f29_1)
        have f25 := (f29_3.ext E34)
        have Y40_sz : n0 ≤ h34.size := Y34.sz
        show Gl p e below _ (T40.setTop (mkF m 43 _ [(.ref b34)]))
        refine Gl.astore Y40 rfl (L' := #[.val (.long xx), .second, .val (.long yy), .second, .val (.int dd), .val (.int ff), .val (.int v6), .val (.int z13), .val (.ref b23), .val (.ref b34), .unset, .unset, .unset, .unset, .unset, .unset, .unset, .unset]) rfl at_43 rfl ?_
        obtain ⟨sx, hsx⟩ : ∃ z : Int64, xx >>> ((63 : Int32) &&& 0x3f).toInt64 = z := ⟨_, rfl⟩
        obtain ⟨sy, hsy⟩ : ∃ z : Int64, yy >>> ((63 : Int32) &&& 0x3f).toInt64 = z := ⟨_, rfl⟩
        have hng : z13.toInt = 0 ∨ z13.toInt = 1 := by omega
        refine Gl.aload Y40 rfl rfl at_45 rfl ?_
        refine Gl.lloadN Y40 rfl at_47 rfl ?_
        have f26 := (f24.keep K40)
        have f27 := ((Fld.ext E34 f29_2).keep K40 (ninS (Nat.ne_of_lt (Nat.lt_of_lt_of_eq f29_1.lt g34.symm)) nin0))
        have f28 := (f25.keep K40 (ninS (Nat.ne_of_lt (Nat.lt_of_lt_of_eq f29_3.lt g34.symm)) nin0))
        refine Gl.callV Y40 (tw_16 hw) (tw_17 hw) (tw_19 hw) (tw_19 hw) (tw_18 hw) (tw_2 hw) (tw_20 hw) (by decide) f26 (rm21 l Z a0 hw [] b23 wa29 ck29 (0 : Int64) (0 : Int64) xx sx h40 n0 Y40.sz f26 f27 f28 (Nat.le_trans Y29_sz f29_0) (Nat.ne_of_lt (Nat.lt_of_lt_of_le X23.lt f29_0)) (hsx)) (a := b23) (argsL := [(.long xx)]) (rest := []) rfl rfl (lenOf pd_9 rfl) rfl (by decide) (Nat.le_of_ble_eq_true rfl) (by decide) (by decide) at_48 rfl (fun v48 T48 h48 Y48 q48 => ?_)
        obtain ⟨rfl, K48, f48_0⟩ := q48
        show Gl p e below _ (T48.setTop (mkF m 51 _ [(.ref b23)]))
        refine Gl.pop Y48 rfl at_51 rfl ?_
        refine Gl.aload Y48 rfl rfl at_52 rfl ?_
        refine Gl.lloadN Y48 rfl at_54 rfl ?_
        have f29 := (f40_1.keep K48)
        have f30 := (f40_2.keep K48 (ninS (Ne.symm (Nat.ne_of_lt (Nat.lt_of_lt_of_eq f29_3.lt g34.symm))) nin0))
        have f31 := (f40_3.keep K48 (ninS (Ne.symm (Nat.ne_of_lt (Nat.lt_of_lt_of_le f25.lt f40_0))) nin0))
        refine Gl.callV Y48 (tw_16 hw) (tw_17 hw) (tw_19 hw) (tw_19 hw) (tw_18 hw) (tw_2 hw) (tw_20 hw) (by decide) f29 (rm21 l Z a0 hw [] b34 wa40 ck40 (0 : Int64) (0 : Int64) yy sy h48 n0 Y48.sz f29 f30 f31 (Nat.le_trans Y40_sz f40_0) (Nat.ne_of_lt (Nat.lt_of_lt_of_le X34.lt f40_0)) (hsy)) (a := b34) (argsL := [(.long yy)]) (rest := []) rfl rfl (lenOf pd_9 rfl) rfl (by decide) (Nat.le_of_ble_eq_true rfl) (by decide) (by decide) at_55 rfl (fun v55 T55 h55 Y55 q55 => ?_)
        obtain ⟨rfl, K55, f55_0⟩ := q55
        show Gl p e below _ (T55.setTop (mkF m 58 _ [(.ref b34)]))
        refine Gl.pop Y55 rfl at_58 rfl ?_
        refine Gl.aload Y55 rfl rfl at_59 rfl ?_
        refine Gl.aload Y55 rfl rfl at_61 rfl ?_
        have f32 := ((f26.keep K48).keep K55)
        have f33 := ((f27.keep K48 (ninS (Nat.ne_of_lt (Nat.lt_of_lt_of_le X23.lt f29_0)) nin0)).keep K55 (ninS (Nat.ne_of_lt (Nat.lt_of_lt_of_le f24.lt f40_0)) nin0))
        have f34 := (f48_0.keep K55 (ninS (Nat.ne_of_lt (Nat.lt_of_lt_of_le f25.lt f40_0)) nin0))
        have f35 := (f29.keep K55)
        have f36 := (f30.keep K55 (ninS (Nat.ne_of_lt (Nat.lt_of_lt_of_le X34.lt f40_0)) nin0))
        refine Gl.callV Y55 (tw_28 hw) (tw_29 hw) (tw_31 hw) (tw_31 hw) (tw_30 hw) (tw_2 hw) (tw_32 hw) (by decide) f32 (rm29 l Z a0 hw [] b23 wa29 ck29 xx sx b34 wa40 ck40 yy sy h55 n0 Y55.sz f32 f33 f34 (Nat.le_trans Y29_sz f29_0) (Nat.ne_of_lt (Nat.lt_of_lt_of_le X23.lt f29_0)) f35 f36 f55_0 (Nat.ne_of_lt (Nat.lt_of_lt_of_le f25.lt f40_0)) (Ne.symm (Nat.ne_of_lt (Nat.lt_of_lt_of_eq f29_3.lt g34.symm))) (hsx) (hsy)) (a := b23) (argsL := [(.ref b34)]) (rest := []) rfl rfl (lenOf pd_10 rfl) rfl (by decide) (Nat.le_of_ble_eq_true rfl) (by decide) (by decide) at_63 rfl (fun v63 T63 h63 Y63 q63 => ?_)
        obtain ⟨e063, e163, rfl, p63, K63, f63_0⟩ := q63
        show Gl p e below _ (T63.setTop (mkF m 66 _ [(.ref b23)]))
        refine Gl.pop Y63 rfl at_66 rfl ?_
        refine Gl.iload Y63 rfl at_67 rfl ?_
        refine Gl.ifeq Y63 at_69 (by decide) rfl rfl (fun c69 => ?_) (fun c69 => ?_)
        · have j69 : z13.toInt = 0 := congrArg Int32.toInt c69
          refine Gl.aload Y63 rfl rfl at_78 rfl ?_
          have f37 := (f32.keep K63)
          have f38 := (f33.keep K63 (ninS (Nat.ne_of_lt (Nat.lt_of_lt_of_le X23.lt f29_0)) nin0))
          refine Gl.callV Y63 (tw_57 hw) (tw_58 hw) (tw_60 hw) (tw_60 hw) (tw_59 hw) (tw_2 hw) (tw_61 hw) (by decide) f37 (rm24 l Z a0 hw [] b23 wa29 ck29 e063 e163 h63 n0 Y63.sz f37 f38 f63_0) (a := b23) (argsL := []) (rest := []) rfl rfl (lenOf pd_11 rfl) rfl (by decide) (Nat.le_of_ble_eq_true rfl) (by decide) (by decide) at_80 rfl (fun v80 T80 h80 Y80 q80 => ?_)
          obtain ⟨r80, rfl, p80, rfl⟩ := q80
          show Gl p e below _ (T80.setTop (mkF m 83 _ [(.int r80)]))
          refine Gl.istore Y80 (L' := #[.val (.long xx), .second, .val (.long yy), .second, .val (.int dd), .val (.int ff), .val (.int v6), .val (.int z13), .val (.ref b23), .val (.ref b34), .val (.int r80), .unset, .unset, .unset, .unset, .unset, .unset, .unset]) rfl at_83 rfl ?_
          have hd : ¬ ( v6.toInt ≤ 18) := by omega
          have ngv : z13.toInt = 0 := by omega
          have spec := own_spec2 (xx := xx) (yy := yy) hd p63 (Or.inl ⟨ngv, p80⟩)
          exact tail v6 z13 r80 b23 b34 T80 h63 (own_more Y80 (by decide) (by decide)) hng spec
        · have j69 : ¬ (z13.toInt = 0) := fun q => c69 (Int32.toInt_inj.mp q)
          refine Gl.aload Y63 rfl rfl at_72 rfl ?_
          have f39 := (f32.keep K63)
          have f40 := (f33.keep K63 (ninS (Nat.ne_of_lt (Nat.lt_of_lt_of_le X23.lt f29_0)) nin0))
          refine Gl.callV Y63 (tw_52 hw) (tw_53 hw) (tw_55 hw) (tw_55 hw) (tw_54 hw) (tw_2 hw) (tw_56 hw) (by decide) f39 (rm25 l Z a0 hw [] b23 wa29 ck29 e063 e163 h63 n0 Y63.sz f39 f40 f63_0 (Nat.le_trans Y29_sz f29_0) (Nat.ne_of_lt (Nat.lt_of_lt_of_le X23.lt f29_0))) (a := b23) (argsL := []) (rest := []) rfl rfl (lenOf pd_5 rfl) rfl (by decide) (Nat.le_of_ble_eq_true rfl) (by decide) (by decide) at_74 rfl (fun v74 T74 h74 Y74 q74 => ?_)
          obtain ⟨rfl, K74, f74_0⟩ := q74
          show Gl p e below _ (T74.setTop (mkF m 77 _ [(.ref b23)]))
          refine Gl.pop Y74 rfl at_77 rfl ?_
          refine Gl.aload Y74 rfl rfl at_78 rfl ?_
          have f41 := (f39.keep K74)
          have f42 := (f40.keep K74 (ninS (Nat.ne_of_lt (Nat.lt_of_lt_of_le X23.lt f29_0)) nin0))
          refine Gl.callV Y74 (tw_57 hw) (tw_58 hw) (tw_60 hw) (tw_60 hw) (tw_59 hw) (tw_2 hw) (tw_61 hw) (by decide) f41 (rm24 l Z a0 hw [] b23 wa29 ck29 (own_o e063 1) (own_o e163 (own_k e063 1)) h74 n0 Y74.sz f41 f42 f74_0) (a := b23) (argsL := []) (rest := []) rfl rfl (lenOf pd_11 rfl) rfl (by decide) (Nat.le_of_ble_eq_true rfl) (by decide) (by decide) at_80 rfl (fun v80 T80 h80 Y80 q80 => ?_)
          obtain ⟨r80, rfl, p80, rfl⟩ := q80
          show Gl p e below _ (T80.setTop (mkF m 83 _ [(.int r80)]))
          refine Gl.istore Y80 (L' := #[.val (.long xx), .second, .val (.long yy), .second, .val (.int dd), .val (.int ff), .val (.int v6), .val (.int z13), .val (.ref b23), .val (.ref b34), .val (.int r80), .unset, .unset, .unset, .unset, .unset, .unset, .unset]) rfl at_83 rfl ?_
          have hd : ¬ ( v6.toInt ≤ 18) := by omega
          have ngv : z13.toInt = 1 := by omega
          have spec := own_spec2 (xx := xx) (yy := yy) hd p63 (Or.inr ⟨ngv, p80⟩)
          exact tail v6 z13 r80 b23 b34 T80 h74 (own_more Y80 (by decide) (by decide)) hng spec
      · have jg38 : ¬ (v6.toInt < 39) := fun q => dg38 (Int32.lt_iff_toInt_lt.mpr q)
        by_cases dg57 : v6 < (58 : Int32)
        · have jg57 : v6.toInt < 58 := Int32.lt_iff_toInt_lt.mp dg57
          refine Gl.newO Y13j (tw_0 hw) (tw_1 hw) (tw_2 hw) (by decide) (by decide) at_23 rfl (fun T23 h23 b23 Y23 E23 g23 sb23 X23 D23 => ?_)
          have f43 : Fld Z h23 b23 "com/example/meterwise/meterwise/model/WholeNumber" "words" "[J" .null := D23 (Or.inr (tw_15 hw)) (ty := (.array .long)) (by decide)
          show Gl p e below _ (T23.setTop (mkF m 26 _ [(.ref b23)]))
          refine Gl.dup Y23 rfl at_26 rfl ?_
          refine Gl.iload Y23 rfl at_27 rfl ?_
          refine Gl.callN Y23 rfl (tw_3 hw) (tw_4 hw) (tw_2 hw) (tw_5 hw) (by decide) (rm2 l Z a0 hw [] b23 v6 h23 n0 Y23.sz X23 f43 sb23 (by first | assumption | decide | omega | (simp; done)) (by first | assumption | decide | omega | (simp; done))) (a := b23) (argsL := [(.int v6)]) (rest := [(.ref b23)]) rfl rfl (lenOf pd_8 rfl) rfl (by decide) (Nat.le_of_ble_eq_true rfl) (by decide) (by decide) at_29 rfl (fun v29 T29 h29 Y29 q29 => ?_)
          obtain ⟨wa29, ck29, rfl, K29, f29_0, f29_1, f29_2, f29_3⟩ := q29
          have Y29_sz : n0 ≤ h23.size := Y23.sz
          show Gl p e below _ (T29.setTop (mkF m 32 _ [(.ref b23)]))
          refine Gl.astore Y29 rfl (L' := #[.val (.long xx), .second, .val (.long yy), .second, .val (.int dd), .val (.int ff), .val (.int v6), .val (.int z13), .val (.ref b23), .unset, .unset, .unset, .unset, .unset, .unset, .unset, .unset, .unset]) rfl at_32 rfl ?_
          refine Gl.newO Y29 (tw_0 hw) (tw_1 hw) (tw_2 hw) (by decide) (by decide) at_34 rfl (fun T34 h34 b34 Y34 E34 g34 sb34 X34 D34 => ?_)
          have f44 : Fld Z h34 b34 "com/example/meterwise/meterwise/model/WholeNumber" "words" "[J" .null := D34 (Or.inr (tw_15 hw)) (ty := (.array .long)) (by decide)
          show Gl p e below _ (T34.setTop (mkF m 37 _ [(.ref b34)]))
          refine Gl.dup Y34 rfl at_37 rfl ?_
          refine Gl.iload Y34 rfl at_38 rfl ?_
          refine Gl.callN Y34 rfl (tw_3 hw) (tw_4 hw) (tw_2 hw) (tw_5 hw) (by decide) (rm2 l Z a0 hw [] b34 v6 h34 n0 Y34.sz X34 f44 sb34 (by first | assumption | decide | omega | (simp; done)) (by first | assumption | decide | omega | (simp; done))) (a := b34) (argsL := [(.int v6)]) (rest := [(.ref b34)]) rfl rfl (lenOf pd_8 rfl) rfl (by decide) (Nat.le_of_ble_eq_true rfl) (by decide) (by decide) at_40 rfl (fun v40 T40 h40 Y40 q40 => ?_)
          obtain ⟨wa40, ck40, rfl, K40, f40_0, f40_1, f40_2, f40_3⟩ := q40
          have f45 := (Exa.ext E34 f29_1)
          have f46 := (f29_3.ext E34)
          have Y40_sz : n0 ≤ h34.size := Y34.sz
          show Gl p e below _ (T40.setTop (mkF m 43 _ [(.ref b34)]))
          refine Gl.astore Y40 rfl (L' := #[.val (.long xx), .second, .val (.long yy), .second, .val (.int dd), .val (.int ff), .val (.int v6), .val (.int z13), .val (.ref b23), .val (.ref b34), .unset, .unset, .unset, .unset, .unset, .unset, .unset, .unset]) rfl at_43 rfl ?_
          obtain ⟨sx, hsx⟩ : ∃ z : Int64, xx >>> ((63 : Int32) &&& 0x3f).toInt64 = z := ⟨_, rfl⟩
          obtain ⟨sy, hsy⟩ : ∃ z : Int64, yy >>> ((63 : Int32) &&& 0x3f).toInt64 = z := ⟨_, rfl⟩
          have hng : z13.toInt = 0 ∨ z13.toInt = 1 := by omega
          refine Gl.aload Y40 rfl rfl at_45 rfl ?_
          refine Gl.lloadN Y40 rfl at_47 rfl ?_
          have f47 := (f45.keep K40)
          have f48 := ((Fld.ext E34 f29_2).keep K40 (ninS (Nat.ne_of_lt (Nat.lt_of_lt_of_eq f29_1.lt g34.symm)) nin0))
          have f49 := (f46.keep K40 (ninS (Nat.ne_of_lt (Nat.lt_of_lt_of_eq f29_3.lt g34.symm)) nin0))
          refine Gl.callV Y40 (tw_16 hw) (tw_17 hw) (tw_19 hw) (tw_19 hw) (tw_18 hw) (tw_2 hw) (tw_20 hw) (by decide) f47 (rm34 l Z a0 hw [] b23 wa29 ck29 (0 : Int64) (0 : Int64) (0 : Int64) xx sx h40 n0 Y40.sz f47 f48 f49 (Nat.le_trans Y29_sz f29_0) (Nat.ne_of_lt (Nat.lt_of_lt_of_le X23.lt f29_0)) (hsx)) (a := b23) (argsL := [(.long xx)]) (rest := []) rfl rfl (lenOf pd_9 rfl) rfl (by decide) (Nat.le_of_ble_eq_true rfl) (by decide) (by decide) at_48 rfl (fun v48 T48 h48 Y48 q48 => ?_)
          obtain ⟨rfl, K48, f48_0⟩ := q48
          show Gl p e below _ (T48.setTop (mkF m 51 _ [(.ref b23)]))
          refine Gl.pop Y48 rfl at_51 rfl ?_
          refine Gl.aload Y48 rfl rfl at_52 rfl ?_
          refine Gl.lloadN Y48 rfl at_54 rfl ?_
          have f50 := (f40_1.keep K48)
          have f51 := (f40_2.keep K48 (ninS (Ne.symm (Nat.ne_of_lt (Nat.lt_of_lt_of_eq f29_3.lt g34.symm))) nin0))
          have f52 := (f40_3.keep K48 (ninS (Ne.symm (Nat.ne_of_lt (Nat.lt_of_lt_of_le f46.lt f40_0))) nin0))
          refine Gl.callV Y48 (tw_16 hw) (tw_17 hw) (tw_19 hw) (tw_19 hw) (tw_18 hw) (tw_2 hw) (tw_20 hw) (by decide) f50 (rm34 l Z a0 hw [] b34 wa40 ck40 (0 : Int64) (0 : Int64) (0 : Int64) yy sy h48 n0 Y48.sz f50 f51 f52 (Nat.le_trans Y40_sz f40_0) (Nat.ne_of_lt (Nat.lt_of_lt_of_le X34.lt f40_0)) (hsy)) (a := b34) (argsL := [(.long yy)]) (rest := []) rfl rfl (lenOf pd_9 rfl) rfl (by decide) (Nat.le_of_ble_eq_true rfl) (by decide) (by decide) at_55 rfl (fun v55 T55 h55 Y55 q55 => ?_)
          obtain ⟨rfl, K55, f55_0⟩ := q55
          show Gl p e below _ (T55.setTop (mkF m 58 _ [(.ref b34)]))
          refine Gl.pop Y55 rfl at_58 rfl ?_
          refine Gl.aload Y55 rfl rfl at_59 rfl ?_
          refine Gl.aload Y55 rfl rfl at_61 rfl ?_
          have f53 := ((f47.keep K48).keep K55)
          have f54 := ((f48.keep K48 (ninS (Nat.ne_of_lt (Nat.lt_of_lt_of_le X23.lt f29_0)) nin0)).keep K55 (ninS (Nat.ne_of_lt (Nat.lt_of_lt_of_le f45.lt f40_0)) nin0))
          have f55 := (f48_0.keep K55 (ninS (Nat.ne_of_lt (Nat.lt_of_lt_of_le f46.lt f40_0)) nin0))
          have f56 := (f50.keep K55)
          have f57 := (f51.keep K55 (ninS (Nat.ne_of_lt (Nat.lt_of_lt_of_le X34.lt f40_0)) nin0))
          refine Gl.callV Y55 (tw_28 hw) (tw_29 hw) (tw_31 hw) (tw_31 hw) (tw_30 hw) (tw_2 hw) (tw_32 hw) (by decide) f53 (rm42 l Z a0 hw [] b23 wa29 ck29 xx sx b34 wa40 ck40 yy sy h55 n0 Y55.sz f53 f54 f55 (Nat.le_trans Y29_sz f29_0) (Nat.ne_of_lt (Nat.lt_of_lt_of_le X23.lt f29_0)) f56 f57 f55_0 (Nat.ne_of_lt (Nat.lt_of_lt_of_le f46.lt f40_0)) (Ne.symm (Nat.ne_of_lt (Nat.lt_of_lt_of_eq f29_3.lt g34.symm))) (hsx) (hsy)) (a := b23) (argsL := [(.ref b34)]) (rest := []) rfl rfl (lenOf pd_10 rfl) rfl (by decide) (Nat.le_of_ble_eq_true rfl) (by decide) (by decide) at_63 rfl (fun v63 T63 h63 Y63 q63 => ?_)
          obtain ⟨e063, e163, rfl, p63, K63, f63_0⟩ := q63
          show Gl p e below _ (T63.setTop (mkF m 66 _ [(.ref b23)]))
          refine Gl.pop Y63 rfl at_66 rfl ?_
          refine Gl.iload Y63 rfl at_67 rfl ?_
          refine Gl.ifeq Y63 at_69 (by decide) rfl rfl (fun c69 => ?_) (fun c69 => ?_)
          · have j69 : z13.toInt = 0 := congrArg Int32.toInt c69
            refine Gl.aload Y63 rfl rfl at_78 rfl ?_
            have f58 := (f53.keep K63)
            have f59 := (f54.keep K63 (ninS (Nat.ne_of_lt (Nat.lt_of_lt_of_le X23.lt f29_0)) nin0))
            refine Gl.callV Y63 (tw_57 hw) (tw_58 hw) (tw_60 hw) (tw_60 hw) (tw_59 hw) (tw_2 hw) (tw_61 hw) (by decide) f58 (rm37 l Z a0 hw [] b23 wa29 ck29 e063 e163 e163 h63 n0 Y63.sz f58 f59 f63_0) (a := b23) (argsL := []) (rest := []) rfl rfl (lenOf pd_11 rfl) rfl (by decide) (Nat.le_of_ble_eq_true rfl) (by decide) (by decide) at_80 rfl (fun v80 T80 h80 Y80 q80 => ?_)
            obtain ⟨r80, rfl, p80, rfl⟩ := q80
            show Gl p e below _ (T80.setTop (mkF m 83 _ [(.int r80)]))
            refine Gl.istore Y80 (L' := #[.val (.long xx), .second, .val (.long yy), .second, .val (.int dd), .val (.int ff), .val (.int v6), .val (.int z13), .val (.ref b23), .val (.ref b34), .val (.int r80), .unset, .unset, .unset, .unset, .unset, .unset, .unset]) rfl at_83 rfl ?_
            have hd : ¬ ( v6.toInt ≤ 18) := by omega
            have ngv : z13.toInt = 0 := by omega
            have spec := own_spec3 (xx := xx) (yy := yy) hd p63 (Or.inl ⟨ngv, p80⟩)
            exact tail v6 z13 r80 b23 b34 T80 h63 (own_more Y80 (by decide) (by decide)) hng spec
          · have j69 : ¬ (z13.toInt = 0) := fun q => c69 (Int32.toInt_inj.mp q)
            refine Gl.aload Y63 rfl rfl at_72 rfl ?_
            have f60 := (f53.keep K63)
            have f61 := (f54.keep K63 (ninS (Nat.ne_of_lt (Nat.lt_of_lt_of_le X23.lt f29_0)) nin0))
            refine Gl.callV Y63 (tw_52 hw) (tw_53 hw) (tw_55 hw) (tw_55 hw) (tw_54 hw) (tw_2 hw) (tw_56 hw) (by decide) f60 (rm38 l Z a0 hw [] b23 wa29 ck29 e063 e163 e163 h63 n0 Y63.sz f60 f61 f63_0 (Nat.le_trans Y29_sz f29_0) (Nat.ne_of_lt (Nat.lt_of_lt_of_le X23.lt f29_0))) (a := b23) (argsL := []) (rest := []) rfl rfl (lenOf pd_5 rfl) rfl (by decide) (Nat.le_of_ble_eq_true rfl) (by decide) (by decide) at_74 rfl (fun v74 T74 h74 Y74 q74 => ?_)
            obtain ⟨rfl, K74, f74_0⟩ := q74
            show Gl p e below _ (T74.setTop (mkF m 77 _ [(.ref b23)]))
            refine Gl.pop Y74 rfl at_77 rfl ?_
            refine Gl.aload Y74 rfl rfl at_78 rfl ?_
            have f62 := (f60.keep K74)
            have f63 := (f61.keep K74 (ninS (Nat.ne_of_lt (Nat.lt_of_lt_of_le X23.lt f29_0)) nin0))
            refine Gl.callV Y74 (tw_57 hw) (tw_58 hw) (tw_60 hw) (tw_60 hw) (tw_59 hw) (tw_2 hw) (tw_61 hw) (by decide) f62 (rm37 l Z a0 hw [] b23 wa29 ck29 (own_o e063 1) (own_o e163 (own_k e063 1)) (own_o e163 (own_k e163 (own_k e063 1))) h74 n0 Y74.sz f62 f63 f74_0) (a := b23) (argsL := []) (rest := []) rfl rfl (lenOf pd_11 rfl) rfl (by decide) (Nat.le_of_ble_eq_true rfl) (by decide) (by decide) at_80 rfl (fun v80 T80 h80 Y80 q80 => ?_)
            obtain ⟨r80, rfl, p80, rfl⟩ := q80
            show Gl p e below _ (T80.setTop (mkF m 83 _ [(.int r80)]))
            refine Gl.istore Y80 (L' := #[.val (.long xx), .second, .val (.long yy), .second, .val (.int dd), .val (.int ff), .val (.int v6), .val (.int z13), .val (.ref b23), .val (.ref b34), .val (.int r80), .unset, .unset, .unset, .unset, .unset, .unset, .unset]) rfl at_83 rfl ?_
            have hd : ¬ ( v6.toInt ≤ 18) := by omega
            have ngv : z13.toInt = 1 := by omega
            have spec := own_spec3 (xx := xx) (yy := yy) hd p63 (Or.inr ⟨ngv, p80⟩)
            exact tail v6 z13 r80 b23 b34 T80 h74 (own_more Y80 (by decide) (by decide)) hng spec
        · have jg57 : ¬ (v6.toInt < 58) := fun q => dg57 (Int32.lt_iff_toInt_lt.mpr q)
          refine Gl.newO Y13j (tw_0 hw) (tw_1 hw) (tw_2 hw) (by decide) (by decide) at_23 rfl (fun T23 h23 b23 Y23 E23 g23 sb23 X23 D23 => ?_)
          have f64 : Fld Z h23 b23 "com/example/meterwise/meterwise/model/WholeNumber" "words" "[J" .null := D23 (Or.inr (tw_15 hw)) (ty := (.array .long)) (by decide)
          show Gl p e below _ (T23.setTop (mkF m 26 _ [(.ref b23)]))
          refine Gl.dup Y23 rfl at_26 rfl ?_
          refine Gl.iload Y23 rfl at_27 rfl ?_
          refine Gl.callN Y23 rfl (tw_3 hw) (tw_4 hw) (tw_2 hw) (tw_5 hw) (by decide) (rm3 l Z a0 hw [] b23 v6 h23 n0 Y23.sz X23 f64 sb23 (by first | assumption | decide | omega | (simp; done)) (by first | assumption | decide | omega | (simp; done))) (a := b23) (argsL := [(.int v6)]) (rest := [(.ref b23)]) rfl rfl (lenOf pd_8 rfl) rfl (by decide) (Nat.le_of_ble_eq_true rfl) (by decide) (by decide) at_29 rfl (fun v29 T29 h29 Y29 q29 => ?_)
          obtain ⟨wa29, ck29, rfl, K29, f29_0, f29_1, f29_2, f29_3⟩ := q29
          have Y29_sz : n0 ≤ h23.size := Y23.sz
          show Gl p e below _ (T29.setTop (mkF m 32 _ [(.ref b23)]))
          refine Gl.astore Y29 rfl (L' := #[.val (.long xx), .second, .val (.long yy), .second, .val (.int dd), .val (.int ff), .val (.int v6), .val (.int z13), .val (.ref b23), .unset, .unset, .unset, .unset, .unset, .unset, .unset, .unset, .unset]) rfl at_32 rfl ?_
          refine Gl.newO Y29 (tw_0 hw) (tw_1 hw) (tw_2 hw) (by decide) (by decide) at_34 rfl (fun T34 h34 b34 Y34 E34 g34 sb34 X34 D34 => ?_)
          have f65 : Fld Z h34 b34 "com/example/meterwise/meterwise/model/WholeNumber" "words" "[J" .null := D34 (Or.inr (tw_15 hw)) (ty := (.array .long)) (by decide)
          show Gl p e below _ (T34.setTop (mkF m 37 _ [(.ref b34)]))
          refine Gl.dup Y34 rfl at_37 rfl ?_
          refine Gl.iload Y34 rfl at_38 rfl ?_
          refine Gl.callN Y34 rfl (tw_3 hw) (tw_4 hw) (tw_2 hw) (tw_5 hw) (by decide) (rm3 l Z a0 hw [] b34 v6 h34 n0 Y34.sz X34 f65 sb34 (by first | assumption | decide | omega | (simp; done)) (by first | assumption | decide | omega | (simp; done))) (a := b34) (argsL := [(.int v6)]) (rest := [(.ref b34)]) rfl rfl (lenOf pd_8 rfl) rfl (by decide) (Nat.le_of_ble_eq_true rfl) (by decide) (by decide) at_40 rfl (fun v40 T40 h40 Y40 q40 => ?_)
          obtain ⟨wa40, ck40, rfl, K40, f40_0, f40_1, f40_2, f40_3⟩ := q40
          have f66 := (Exa.ext E34 f29_1)
          have f67 := (f29_3.ext E34)
          have Y40_sz : n0 ≤ h34.size := Y34.sz
          show Gl p e below _ (T40.setTop (mkF m 43 _ [(.ref b34)]))
          refine Gl.astore Y40 rfl (L' := #[.val (.long xx), .second, .val (.long yy), .second, .val (.int dd), .val (.int ff), .val (.int v6), .val (.int z13), .val (.ref b23), .val (.ref b34), .unset, .unset, .unset, .unset, .unset, .unset, .unset, .unset]) rfl at_43 rfl ?_
          obtain ⟨sx, hsx⟩ : ∃ z : Int64, xx >>> ((63 : Int32) &&& 0x3f).toInt64 = z := ⟨_, rfl⟩
          obtain ⟨sy, hsy⟩ : ∃ z : Int64, yy >>> ((63 : Int32) &&& 0x3f).toInt64 = z := ⟨_, rfl⟩
          have hng : z13.toInt = 0 ∨ z13.toInt = 1 := by omega
          refine Gl.aload Y40 rfl rfl at_45 rfl ?_
          refine Gl.lloadN Y40 rfl at_47 rfl ?_
          have f68 := (f66.keep K40)
          have f69 := ((Fld.ext E34 f29_2).keep K40 (ninS (Nat.ne_of_lt (Nat.lt_of_lt_of_eq f29_1.lt g34.symm)) nin0))
          have f70 := (f67.keep K40 (ninS (Nat.ne_of_lt (Nat.lt_of_lt_of_eq f29_3.lt g34.symm)) nin0))
          refine Gl.callV Y40 (tw_16 hw) (tw_17 hw) (tw_19 hw) (tw_19 hw) (tw_18 hw) (tw_2 hw) (tw_20 hw) (by decide) f68 (rm47 l Z a0 hw [] b23 wa29 ck29 (0 : Int64) (0 : Int64) (0 : Int64) (0 : Int64) xx sx h40 n0 Y40.sz f68 f69 f70 (Nat.le_trans Y29_sz f29_0) (Nat.ne_of_lt (Nat.lt_of_lt_of_le X23.lt f29_0)) (hsx)) (a := b23) (argsL := [(.long xx)]) (rest := []) rfl rfl (lenOf pd_9 rfl) rfl (by decide) (Nat.le_of_ble_eq_true rfl) (by decide) (by decide) at_48 rfl (fun v48 T48 h48 Y48 q48 => ?_)
          obtain ⟨rfl, K48, f48_0⟩ := q48
          show Gl p e below _ (T48.setTop (mkF m 51 _ [(.ref b23)]))
          refine Gl.pop Y48 rfl at_51 rfl ?_
          refine Gl.aload Y48 rfl rfl at_52 rfl ?_
          refine Gl.lloadN Y48 rfl at_54 rfl ?_
          have f71 := (f40_1.keep K48)
          have f72 := (f40_2.keep K48 (ninS (Ne.symm (Nat.ne_of_lt (Nat.lt_of_lt_of_eq f29_3.lt g34.symm))) nin0))
          have f73 := (f40_3.keep K48 (ninS (Ne.symm (Nat.ne_of_lt (Nat.lt_of_lt_of_le f67.lt f40_0))) nin0))
          refine Gl.callV Y48 (tw_16 hw) (tw_17 hw) (tw_19 hw) (tw_19 hw) (tw_18 hw) (tw_2 hw) (tw_20 hw) (by decide) f71 (rm47 l Z a0 hw [] b34 wa40 ck40 (0 : Int64) (0 : Int64) (0 : Int64) (0 : Int64) yy sy h48 n0 Y48.sz f71 f72 f73 (Nat.le_trans Y40_sz f40_0) (Nat.ne_of_lt (Nat.lt_of_lt_of_le X34.lt f40_0)) (hsy)) (a := b34) (argsL := [(.long yy)]) (rest := []) rfl rfl (lenOf pd_9 rfl) rfl (by decide) (Nat.le_of_ble_eq_true rfl) (by decide) (by decide) at_55 rfl (fun v55 T55 h55 Y55 q55 => ?_)
          obtain ⟨rfl, K55, f55_0⟩ := q55
          show Gl p e below _ (T55.setTop (mkF m 58 _ [(.ref b34)]))
          refine Gl.pop Y55 rfl at_58 rfl ?_
          refine Gl.aload Y55 rfl rfl at_59 rfl ?_
          refine Gl.aload Y55 rfl rfl at_61 rfl ?_
          have f74 := ((f68.keep K48).keep K55)
          have f75 := ((f69.keep K48 (ninS (Nat.ne_of_lt (Nat.lt_of_lt_of_le X23.lt f29_0)) nin0)).keep K55 (ninS (Nat.ne_of_lt (Nat.lt_of_lt_of_le f66.lt f40_0)) nin0))
          have f76 := (f48_0.keep K55 (ninS (Nat.ne_of_lt (Nat.lt_of_lt_of_le f67.lt f40_0)) nin0))
          have f77 := (f71.keep K55)
          have f78 := (f72.keep K55 (ninS (Nat.ne_of_lt (Nat.lt_of_lt_of_le X34.lt f40_0)) nin0))
          refine Gl.callV Y55 (tw_28 hw) (tw_29 hw) (tw_31 hw) (tw_31 hw) (tw_30 hw) (tw_2 hw) (tw_32 hw) (by decide) f74 (rm55 l Z a0 hw [] b23 wa29 ck29 xx sx b34 wa40 ck40 yy sy h55 n0 Y55.sz f74 f75 f76 (Nat.le_trans Y29_sz f29_0) (Nat.ne_of_lt (Nat.lt_of_lt_of_le X23.lt f29_0)) f77 f78 f55_0 (Nat.ne_of_lt (Nat.lt_of_lt_of_le f67.lt f40_0)) (Ne.symm (Nat.ne_of_lt (Nat.lt_of_lt_of_eq f29_3.lt g34.symm))) (hsx) (hsy)) (a := b23) (argsL := [(.ref b34)]) (rest := []) rfl rfl (lenOf pd_10 rfl) rfl (by decide) (Nat.le_of_ble_eq_true rfl) (by decide) (by decide) at_63 rfl (fun v63 T63 h63 Y63 q63 => ?_)
          obtain ⟨e063, e163, rfl, p63, K63, f63_0⟩ := q63
          show Gl p e below _ (T63.setTop (mkF m 66 _ [(.ref b23)]))
          refine Gl.pop Y63 rfl at_66 rfl ?_
          refine Gl.iload Y63 rfl at_67 rfl ?_
          refine Gl.ifeq Y63 at_69 (by decide) rfl rfl (fun c69 => ?_) (fun c69 => ?_)
          · have j69 : z13.toInt = 0 := congrArg Int32.toInt c69
            refine Gl.aload Y63 rfl rfl at_78 rfl ?_
            have f79 := (f74.keep K63)
            have f80 := (f75.keep K63 (ninS (Nat.ne_of_lt (Nat.lt_of_lt_of_le X23.lt f29_0)) nin0))
            refine Gl.callV Y63 (tw_57 hw) (tw_58 hw) (tw_60 hw) (tw_60 hw) (tw_59 hw) (tw_2 hw) (tw_61 hw) (by decide) f79 (rm50 l Z a0 hw [] b23 wa29 ck29 e063 e163 e163 e163 h63 n0 Y63.sz f79 f80 f63_0) (a := b23) (argsL := []) (rest := []) rfl rfl (lenOf pd_11 rfl) rfl (by decide) (Nat.le_of_ble_eq_true rfl) (by decide) (by decide) at_80 rfl (fun v80 T80 h80 Y80 q80 => ?_)
            obtain ⟨r80, rfl, p80, rfl⟩ := q80
            show Gl p e below _ (T80.setTop (mkF m 83 _ [(.int r80)]))
            refine Gl.istore Y80 (L' := #[.val (.long xx), .second, .val (.long yy), .second, .val (.int dd), .val (.int ff), .val (.int v6), .val (.int z13), .val (.ref b23), .val (.ref b34), .val (.int r80), .unset, .unset, .unset, .unset, .unset, .unset, .unset]) rfl at_83 rfl ?_
            have hd : ¬ ( v6.toInt ≤ 18) := by omega
            have ngv : z13.toInt = 0 := by omega
            have spec := own_spec4 (xx := xx) (yy := yy) hd p63 (Or.inl ⟨ngv, p80⟩)
            exact tail v6 z13 r80 b23 b34 T80 h63 (own_more Y80 (by decide) (by decide)) hng spec
          · have j69 : ¬ (z13.toInt = 0) := fun q => c69 (Int32.toInt_inj.mp q)
            refine Gl.aload Y63 rfl rfl at_72 rfl ?_
            have f81 := (f74.keep K63)
            have f82 := (f75.keep K63 (ninS (Nat.ne_of_lt (Nat.lt_of_lt_of_le X23.lt f29_0)) nin0))
            refine Gl.callV Y63 (tw_52 hw) (tw_53 hw) (tw_55 hw) (tw_55 hw) (tw_54 hw) (tw_2 hw) (tw_56 hw) (by decide) f81 (rm51 l Z a0 hw [] b23 wa29 ck29 e063 e163 e163 e163 h63 n0 Y63.sz f81 f82 f63_0 (Nat.le_trans Y29_sz f29_0) (Nat.ne_of_lt (Nat.lt_of_lt_of_le X23.lt f29_0))) (a := b23) (argsL := []) (rest := []) rfl rfl (lenOf pd_5 rfl) rfl (by decide) (Nat.le_of_ble_eq_true rfl) (by decide) (by decide) at_74 rfl (fun v74 T74 h74 Y74 q74 => ?_)
            obtain ⟨rfl, K74, f74_0⟩ := q74
            show Gl p e below _ (T74.setTop (mkF m 77 _ [(.ref b23)]))
            refine Gl.pop Y74 rfl at_77 rfl ?_
            refine Gl.aload Y74 rfl rfl at_78 rfl ?_
            have f83 := (f81.keep K74)
            have f84 := (f82.keep K74 (ninS (Nat.ne_of_lt (Nat.lt_of_lt_of_le X23.lt f29_0)) nin0))
            refine Gl.callV Y74 (tw_57 hw) (tw_58 hw) (tw_60 hw) (tw_60 hw) (tw_59 hw) (tw_2 hw) (tw_61 hw) (by decide) f83 (rm50 l Z a0 hw [] b23 wa29 ck29 (own_o e063 1) (own_o e163 (own_k e063 1)) (own_o e163 (own_k e163 (own_k e063 1))) (own_o e163 (own_k e163 (own_k e163 (own_k e063 1)))) h74 n0 Y74.sz f83 f84 f74_0) (a := b23) (argsL := []) (rest := []) rfl rfl (lenOf pd_11 rfl) rfl (by decide) (Nat.le_of_ble_eq_true rfl) (by decide) (by decide) at_80 rfl (fun v80 T80 h80 Y80 q80 => ?_)
            obtain ⟨r80, rfl, p80, rfl⟩ := q80
            show Gl p e below _ (T80.setTop (mkF m 83 _ [(.int r80)]))
            refine Gl.istore Y80 (L' := #[.val (.long xx), .second, .val (.long yy), .second, .val (.int dd), .val (.int ff), .val (.int v6), .val (.int z13), .val (.ref b23), .val (.ref b34), .val (.int r80), .unset, .unset, .unset, .unset, .unset, .unset, .unset]) rfl at_83 rfl ?_
            have hd : ¬ ( v6.toInt ≤ 18) := by omega
            have ngv : z13.toInt = 1 := by omega
            have spec := own_spec4 (xx := xx) (yy := yy) hd p63 (Or.inr ⟨ngv, p80⟩)
            exact tail v6 z13 r80 b23 b34 T80 h74 (own_more Y80 (by decide) (by decide)) hng spec
  have ndg := rng32 dg
  refine Gl.lloadN Yc rfl at_85 rfl ?_
  refine Gl.lloadN Yc rfl at_86 rfl ?_
  obtain ⟨v87, hv87⟩ : ∃ z : Int64, xx + yy = z := ⟨_, rfl⟩
  refine Gl.ladd Yc hv87 at_87 rfl ?_
  refine Gl.lstore Yc (L' := #[.val (.long xx), .second, .val (.long yy), .second, .val (.int dd), .val (.int ff), .val (.int dg), .val (.int ng), .val (.ref r8), .val (.ref r9), .val (.int ac), .val (.long v87), .second, .unset, .unset, .unset, .unset, .unset]) rfl at_88 rfl ?_
  refine Gl.lloadN Yc rfl at_90 rfl ?_
  refine Gl.lload Yc rfl at_91 rfl ?_
  obtain ⟨v93, hv93⟩ : ∃ z : Int64, xx ^^^ v87 = z := ⟨_, rfl⟩
  refine Gl.lxor Yc hv93 at_93 rfl ?_
  refine Gl.lloadN Yc rfl at_94 rfl ?_
  refine Gl.lload Yc rfl at_95 rfl ?_
  obtain ⟨v97, hv97⟩ : ∃ z : Int64, yy ^^^ v87 = z := ⟨_, rfl⟩
  refine Gl.lxor Yc hv97 at_97 rfl ?_
  obtain ⟨v98, hv98⟩ : ∃ z : Int64, v93 &&& v97 = z := ⟨_, rfl⟩
  refine Gl.land Yc hv98 at_98 rfl ?_
  have lov := own_ov1 hv87 (Int64.add_zero _)
  rw [hv93, hv97, hv98] at lov
  refine Gl.lconst Yc (v := (0 : Int64)) (by decide) at_99 rfl ?_
  refine Gl.lcmpge Yc at_100 rfl at_101 (by decide) rfl rfl (fun c101 => ?_) (fun c101 => ?_)
  · have j101 : ¬ (v98.toInt < 0) := fun q => c101 (Int64.lt_iff_toInt_lt.mpr q)
    refine Gl.iconst Yc (v := (0 : Int32)) (by decide) at_108 rfl ?_
    have lv := lov.2 c101
    clear lov
    refine Gl.istore Yc (L' := #[.val (.long xx), .second, .val (.long yy), .second, .val (.int dd), .val (.int ff), .val (.int dg), .val (.int ng), .val (.ref r8), .val (.ref r9), .val (.int ac), .val (.long v87), .second, .val (.int 0), .unset, .unset, .unset, .unset]) rfl at_109 rfl ?_
    refine Gl.iload Yc rfl at_111 rfl ?_
    refine Gl.ifeq Yc at_113 (by decide) rfl rfl (fun c113 => ?_) (fun c113 => ?_)
    rotate_left
    · exact absurd c113 (by decide)
    refine Gl.lload Yc rfl at_132 rfl ?_
    refine Gl.callS Yc (tw_62 hw) (tw_63 hw) (tw_64 hw) (tw_65 hw) (by decide) (rm56 l Z a0 hw [] v87 hc n0 Yc.sz) (argsL := [(.long v87)]) (rest := []) rfl rfl (lenOf pd_12 rfl) rfl (by decide) (Nat.le_of_ble_eq_true rfl) (by decide) (by decide) at_134 rfl (fun v134 T134 h134 Y134 q134 => ?_)
    obtain ⟨r134, rfl, p134, rfl⟩ := q134
    show Gl p e below _ (T134.setTop (mkF m 137 _ [(.int r134)]))
    refine Gl.istore Y134 (L' := #[.val (.long xx), .second, .val (.long yy), .second, .val (.int dd), .val (.int ff), .val (.int dg), .val (.int ng), .val (.ref r8), .val (.ref r9), .val (.int ac), .val (.long v87), .second, .val (.int 0), .val (.int r134), .unset, .unset, .unset]) rfl at_137 rfl ?_
    refine Gl.iload Y134 rfl at_139 rfl ?_
    refine Gl.bipush Y134 (v := (18 : Int32)) (by decide) at_141 rfl ?_
    refine Gl.icmpgt Y134 at_143 (by decide) rfl rfl (fun c143 => ?_) (fun c143 => ?_)
    · have j143 : 18 < dg.toInt := Int32.lt_iff_toInt_lt.mp c143
      refine Gl.iconst Y134 (v := (0 : Int32)) (by decide) at_150 rfl ?_
      refine Gl.istore Y134 (L' := #[.val (.long xx), .second, .val (.long yy), .second, .val (.int dd), .val (.int ff), .val (.int dg), .val (.int ng), .val (.ref r8), .val (.ref r9), .val (.int ac), .val (.long v87), .second, .val (.int 0), .val (.int r134), .val (.int 0), .unset, .unset]) rfl at_151 rfl ?_
      refine Gl.iload Y134 rfl at_153 rfl ?_
      refine Gl.ifeq Y134 at_155 (by decide) rfl rfl (fun c155 => ?_) (fun c155 => ?_)
      rotate_left
      · exact absurd c155 (by decide)
      refine Gl.iconst Y134 (v := (0 : Int32)) (by decide) at_192 rfl ?_
      refine Gl.istore Y134 (L' := #[.val (.long xx), .second, .val (.long yy), .second, .val (.int dd), .val (.int ff), .val (.int dg), .val (.int ng), .val (.ref r8), .val (.ref r9), .val (.int ac), .val (.long v87), .second, .val (.int 0), .val (.int r134), .val (.int 0), .val (.int 0), .unset]) rfl at_193 rfl ?_
      refine Gl.iload Y134 rfl at_195 rfl ?_
      refine Gl.ifeq Y134 at_197 (by decide) rfl rfl (fun c197 => ?_) (fun c197 => ?_)
      rotate_left
      · exact absurd c197 (by decide)
      refine Gl.iload Y134 rfl at_206 rfl ?_
      refine Gl.ifeq Y134 at_208 (by decide) rfl rfl (fun c208 => ?_) (fun c208 => ?_)
      · have j208 : ng.toInt = 0 := congrArg Int32.toInt c208
        refine Gl.iload Y134 rfl at_219 rfl ?_
        refine Gl.istore Y134 (L' := #[.val (.long xx), .second, .val (.long yy), .second, .val (.int dd), .val (.int ff), .val (.int dg), .val (.int ng), .val (.ref r8), .val (.ref r9), .val (.int ac), .val (.long v87), .second, .val (.int 0), .val (.int r134), .val (.int 0), .val (.int 0), .val (.int r134)]) rfl at_221 rfl ?_
        refine Gl.iload Y134 rfl at_223 rfl ?_
        refine Gl.iload Y134 rfl at_225 rfl ?_
        refine Gl.icmpne Y134 at_227 (by decide) rfl rfl (fun c227 => ?_) (fun c227 => ?_)
        · exfalso; have j227 : ¬ (ac.toInt = r134.toInt) := fun q => c227 (Int32.toInt_inj.mp q); omega
        have j227 : ac.toInt = r134.toInt := congrArg Int32.toInt c227
        refine Gl.iconst Y134 (v := (1 : Int32)) (by decide) at_230 rfl ?_
        refine Gl.goto Y134 at_231 (by decide) rfl ?_
        exact Gl.retZ Y134 (by decide) (by decide) (x' := (1 : Int32)) (by decide) at_235 rfl
      · have j208 : ¬ (ng.toInt = 0) := fun q => c208 (Int32.toInt_inj.mp q)
        refine Gl.iload Y134 rfl at_211 rfl ?_
        obtain ⟨v213, hv213⟩ : ∃ z : Int32, (-r134) = z := ⟨_, rfl⟩
        have iv213 : v213.toInt = -r134.toInt := by
          have q := c_ineg r134
          rw [hv213] at q
          have r := rng32 v213
          omega
        refine Gl.ineg Y134 hv213 at_213 rfl ?_
        refine Gl.istore Y134 (L' := #[.val (.long xx), .second, .val (.long yy), .second, .val (.int dd), .val (.int ff), .val (.int dg), .val (.int ng), .val (.ref r8), .val (.ref r9), .val (.int ac), .val (.long v87), .second, .val (.int 0), .val (.int r134), .val (.int 0), .val (.int 0), .val (.int v213)]) rfl at_214 rfl ?_
        refine Gl.goto Y134 at_216 (by decide) rfl ?_
        refine Gl.iload Y134 rfl at_223 rfl ?_
        refine Gl.iload Y134 rfl at_225 rfl ?_
        refine Gl.icmpne Y134 at_227 (by decide) rfl rfl (fun c227 => ?_) (fun c227 => ?_)
        · exfalso; have j227 : ¬ (ac.toInt = v213.toInt) := fun q => c227 (Int32.toInt_inj.mp q); omega
        have j227 : ac.toInt = v213.toInt := congrArg Int32.toInt c227
        refine Gl.iconst Y134 (v := (1 : Int32)) (by decide) at_230 rfl ?_
        refine Gl.goto Y134 at_231 (by decide) rfl ?_
        exact Gl.retZ Y134 (by decide) (by decide) (x' := (1 : Int32)) (by decide) at_235 rfl
    · have j143 : ¬ (18 < dg.toInt) := fun q => c143 (Int32.lt_iff_toInt_lt.mpr q)
      refine Gl.iconst Y134 (v := (1 : Int32)) (by decide) at_146 rfl ?_
      refine Gl.goto Y134 at_147 (by decide) rfl ?_
      refine Gl.istore Y134 (L' := #[.val (.long xx), .second, .val (.long yy), .second, .val (.int dd), .val (.int ff), .val (.int dg), .val (.int ng), .val (.ref r8), .val (.ref r9), .val (.int ac), .val (.long v87), .second, .val (.int 0), .val (.int r134), .val (.int 1), .unset, .unset]) rfl at_151 rfl ?_
      refine Gl.iload Y134 rfl at_153 rfl ?_
      refine Gl.ifeq Y134 at_155 (by decide) rfl rfl (fun c155 => ?_) (fun c155 => ?_)
      · exact absurd c155 (by decide)
      refine Gl.lloadN Y134 rfl at_158 rfl ?_
      refine Gl.ldcJ Y134 (tw_66 hw) at_159 rfl ?_
      refine Gl.lcmpeq Y134 at_162 rfl at_163 (by decide) rfl rfl (fun c163 => ?_) (fun c163 => ?_)
      · have j163 : xx.toInt = (-9223372036854775808) := congrArg Int64.toInt c163
        refine Gl.iconst Y134 (v := (1 : Int32)) (by decide) at_188 rfl ?_
        refine Gl.goto Y134 at_189 (by decide) rfl ?_
        refine Gl.istore Y134 (L' := #[.val (.long xx), .second, .val (.long yy), .second, .val (.int dd), .val (.int ff), .val (.int dg), .val (.int ng), .val (.ref r8), .val (.ref r9), .val (.int ac), .val (.long v87), .second, .val (.int 0), .val (.int r134), .val (.int 1), .val (.int 1), .unset]) rfl at_193 rfl ?_
        refine Gl.iload Y134 rfl at_195 rfl ?_
        refine Gl.ifeq Y134 at_197 (by decide) rfl rfl (fun c197 => ?_) (fun c197 => ?_)
        · exact absurd c197 (by decide)
        refine Gl.iconst Y134 (v := (-1 : Int32)) (by decide) at_200 rfl ?_
        refine Gl.istore Y134 (L' := #[.val (.long xx), .second, .val (.long yy), .second, .val (.int dd), .val (.int ff), .val (.int dg), .val (.int ng), .val (.ref r8), .val (.ref r9), .val (.int ac), .val (.long v87), .second, .val (.int 0), .val (.int r134), .val (.int 1), .val (.int 1), .val (.int (-1))]) rfl at_201 rfl ?_
        refine Gl.goto Y134 at_203 (by decide) rfl ?_
        refine Gl.iload Y134 rfl at_223 rfl ?_
        refine Gl.iload Y134 rfl at_225 rfl ?_
        refine Gl.icmpne Y134 at_227 (by decide) rfl rfl (fun c227 => ?_) (fun c227 => ?_)
        · exfalso; have j227 : ¬ (ac.toInt = (-1)) := fun q => c227 (Int32.toInt_inj.mp q); omega
        have j227 : ac.toInt = (-1) := congrArg Int32.toInt c227
        refine Gl.iconst Y134 (v := (1 : Int32)) (by decide) at_230 rfl ?_
        refine Gl.goto Y134 at_231 (by decide) rfl ?_
        exact Gl.retZ Y134 (by decide) (by decide) (x' := (1 : Int32)) (by decide) at_235 rfl
      · have j163 : ¬ (xx.toInt = (-9223372036854775808)) := fun q => c163 (Int64.toInt_inj.mp q)
        refine Gl.lloadN Y134 rfl at_166 rfl ?_
        refine Gl.ldcJ Y134 (tw_66 hw) at_167 rfl ?_
        refine Gl.lcmpeq Y134 at_170 rfl at_171 (by decide) rfl rfl (fun c171 => ?_) (fun c171 => ?_)
        · have j171 : yy.toInt = (-9223372036854775808) := congrArg Int64.toInt c171
          refine Gl.iconst Y134 (v := (1 : Int32)) (by decide) at_188 rfl ?_
          refine Gl.goto Y134 at_189 (by decide) rfl ?_
          refine Gl.istore Y134 (L' := #[.val (.long xx), .second, .val (.long yy), .second, .val (.int dd), .val (.int ff), .val (.int dg), .val (.int ng), .val (.ref r8), .val (.ref r9), .val (.int ac), .val (.long v87), .second, .val (.int 0), .val (.int r134), .val (.int 1), .val (.int 1), .unset]) rfl at_193 rfl ?_
          refine Gl.iload Y134 rfl at_195 rfl ?_
          refine Gl.ifeq Y134 at_197 (by decide) rfl rfl (fun c197 => ?_) (fun c197 => ?_)
          · exact absurd c197 (by decide)
          refine Gl.iconst Y134 (v := (-1 : Int32)) (by decide) at_200 rfl ?_
          refine Gl.istore Y134 (L' := #[.val (.long xx), .second, .val (.long yy), .second, .val (.int dd), .val (.int ff), .val (.int dg), .val (.int ng), .val (.ref r8), .val (.ref r9), .val (.int ac), .val (.long v87), .second, .val (.int 0), .val (.int r134), .val (.int 1), .val (.int 1), .val (.int (-1))]) rfl at_201 rfl ?_
          refine Gl.goto Y134 at_203 (by decide) rfl ?_
          refine Gl.iload Y134 rfl at_223 rfl ?_
          refine Gl.iload Y134 rfl at_225 rfl ?_
          refine Gl.icmpne Y134 at_227 (by decide) rfl rfl (fun c227 => ?_) (fun c227 => ?_)
          · exfalso; have j227 : ¬ (ac.toInt = (-1)) := fun q => c227 (Int32.toInt_inj.mp q); omega
          have j227 : ac.toInt = (-1) := congrArg Int32.toInt c227
          refine Gl.iconst Y134 (v := (1 : Int32)) (by decide) at_230 rfl ?_
          refine Gl.goto Y134 at_231 (by decide) rfl ?_
          exact Gl.retZ Y134 (by decide) (by decide) (x' := (1 : Int32)) (by decide) at_235 rfl
        · have j171 : ¬ (yy.toInt = (-9223372036854775808)) := fun q => c171 (Int64.toInt_inj.mp q)
          refine Gl.iload Y134 rfl at_174 rfl ?_
          refine Gl.ifne Y134 at_176 (by decide) rfl rfl (fun c176 => ?_) (fun c176 => ?_)
          · exact absurd c176 (by decide)
          refine Gl.lload Y134 rfl at_179 rfl ?_
          refine Gl.ldcJ Y134 (tw_66 hw) at_181 rfl ?_
          refine Gl.lcmpne Y134 at_184 rfl at_185 (by decide) rfl rfl (fun c185 => ?_) (fun c185 => ?_)
          · have j185 : ¬ (v87.toInt = (-9223372036854775808)) := fun q => c185 (Int64.toInt_inj.mp q)
            refine Gl.iconst Y134 (v := (0 : Int32)) (by decide) at_192 rfl ?_
            refine Gl.istore Y134 (L' := #[.val (.long xx), .second, .val (.long yy), .second, .val (.int dd), .val (.int ff), .val (.int dg), .val (.int ng), .val (.ref r8), .val (.ref r9), .val (.int ac), .val (.long v87), .second, .val (.int 0), .val (.int r134), .val (.int 1), .val (.int 0), .unset]) rfl at_193 rfl ?_
            refine Gl.iload Y134 rfl at_195 rfl ?_
            refine Gl.ifeq Y134 at_197 (by decide) rfl rfl (fun c197 => ?_) (fun c197 => ?_)
            rotate_left
            · exact absurd c197 (by decide)
            refine Gl.iload Y134 rfl at_206 rfl ?_
            refine Gl.ifeq Y134 at_208 (by decide) rfl rfl (fun c208 => ?_) (fun c208 => ?_)
            · have j208 : ng.toInt = 0 := congrArg Int32.toInt c208
              refine Gl.iload Y134 rfl at_219 rfl ?_
              refine Gl.istore Y134 (L' := #[.val (.long xx), .second, .val (.long yy), .second, .val (.int dd), .val (.int ff), .val (.int dg), .val (.int ng), .val (.ref r8), .val (.ref r9), .val (.int ac), .val (.long v87), .second, .val (.int 0), .val (.int r134), .val (.int 1), .val (.int 0), .val (.int r134)]) rfl at_221 rfl ?_
              refine Gl.iload Y134 rfl at_223 rfl ?_
              refine Gl.iload Y134 rfl at_225 rfl ?_
              refine Gl.icmpne Y134 at_227 (by decide) rfl rfl (fun c227 => ?_) (fun c227 => ?_)
              · exfalso; have j227 : ¬ (ac.toInt = r134.toInt) := fun q => c227 (Int32.toInt_inj.mp q); omega
              have j227 : ac.toInt = r134.toInt := congrArg Int32.toInt c227
              refine Gl.iconst Y134 (v := (1 : Int32)) (by decide) at_230 rfl ?_
              refine Gl.goto Y134 at_231 (by decide) rfl ?_
              exact Gl.retZ Y134 (by decide) (by decide) (x' := (1 : Int32)) (by decide) at_235 rfl
            · have j208 : ¬ (ng.toInt = 0) := fun q => c208 (Int32.toInt_inj.mp q)
              refine Gl.iload Y134 rfl at_211 rfl ?_
              obtain ⟨v213, hv213⟩ : ∃ z : Int32, (-r134) = z := ⟨_, rfl⟩
              have iv213 : v213.toInt = -r134.toInt := by
                have q := c_ineg r134
                rw [hv213] at q
                have r := rng32 v213
                omega
              refine Gl.ineg Y134 hv213 at_213 rfl ?_
              refine Gl.istore Y134 (L' := #[.val (.long xx), .second, .val (.long yy), .second, .val (.int dd), .val (.int ff), .val (.int dg), .val (.int ng), .val (.ref r8), .val (.ref r9), .val (.int ac), .val (.long v87), .second, .val (.int 0), .val (.int r134), .val (.int 1), .val (.int 0), .val (.int v213)]) rfl at_214 rfl ?_
              refine Gl.goto Y134 at_216 (by decide) rfl ?_
              refine Gl.iload Y134 rfl at_223 rfl ?_
              refine Gl.iload Y134 rfl at_225 rfl ?_
              refine Gl.icmpne Y134 at_227 (by decide) rfl rfl (fun c227 => ?_) (fun c227 => ?_)
              · exfalso; have j227 : ¬ (ac.toInt = v213.toInt) := fun q => c227 (Int32.toInt_inj.mp q); omega
              have j227 : ac.toInt = v213.toInt := congrArg Int32.toInt c227
              refine Gl.iconst Y134 (v := (1 : Int32)) (by decide) at_230 rfl ?_
              refine Gl.goto Y134 at_231 (by decide) rfl ?_
              exact Gl.retZ Y134 (by decide) (by decide) (x' := (1 : Int32)) (by decide) at_235 rfl
          · have j185 : v87.toInt = (-9223372036854775808) := congrArg Int64.toInt c185
            refine Gl.iconst Y134 (v := (1 : Int32)) (by decide) at_188 rfl ?_
            refine Gl.goto Y134 at_189 (by decide) rfl ?_
            refine Gl.istore Y134 (L' := #[.val (.long xx), .second, .val (.long yy), .second, .val (.int dd), .val (.int ff), .val (.int dg), .val (.int ng), .val (.ref r8), .val (.ref r9), .val (.int ac), .val (.long v87), .second, .val (.int 0), .val (.int r134), .val (.int 1), .val (.int 1), .unset]) rfl at_193 rfl ?_
            refine Gl.iload Y134 rfl at_195 rfl ?_
            refine Gl.ifeq Y134 at_197 (by decide) rfl rfl (fun c197 => ?_) (fun c197 => ?_)
            · exact absurd c197 (by decide)
            refine Gl.iconst Y134 (v := (-1 : Int32)) (by decide) at_200 rfl ?_
            refine Gl.istore Y134 (L' := #[.val (.long xx), .second, .val (.long yy), .second, .val (.int dd), .val (.int ff), .val (.int dg), .val (.int ng), .val (.ref r8), .val (.ref r9), .val (.int ac), .val (.long v87), .second, .val (.int 0), .val (.int r134), .val (.int 1), .val (.int 1), .val (.int (-1))]) rfl at_201 rfl ?_
            refine Gl.goto Y134 at_203 (by decide) rfl ?_
            refine Gl.iload Y134 rfl at_223 rfl ?_
            refine Gl.iload Y134 rfl at_225 rfl ?_
            refine Gl.icmpne Y134 at_227 (by decide) rfl rfl (fun c227 => ?_) (fun c227 => ?_)
            · exfalso; have j227 : ¬ (ac.toInt = (-1)) := fun q => c227 (Int32.toInt_inj.mp q); omega
            have j227 : ac.toInt = (-1) := congrArg Int32.toInt c227
            refine Gl.iconst Y134 (v := (1 : Int32)) (by decide) at_230 rfl ?_
            refine Gl.goto Y134 at_231 (by decide) rfl ?_
            exact Gl.retZ Y134 (by decide) (by decide) (x' := (1 : Int32)) (by decide) at_235 rfl
  · have j101 : v98.toInt < 0 := Int64.lt_iff_toInt_lt.mp c101
    refine Gl.iconst Yc (v := (1 : Int32)) (by decide) at_104 rfl ?_
    refine Gl.goto Yc at_105 (by decide) rfl ?_
    have lv := lov.1 c101
    clear lov
    refine Gl.istore Yc (L' := #[.val (.long xx), .second, .val (.long yy), .second, .val (.int dd), .val (.int ff), .val (.int dg), .val (.int ng), .val (.ref r8), .val (.ref r9), .val (.int ac), .val (.long v87), .second, .val (.int 1), .unset, .unset, .unset, .unset]) rfl at_109 rfl ?_
    refine Gl.iload Yc rfl at_111 rfl ?_
    refine Gl.ifeq Yc at_113 (by decide) rfl rfl (fun c113 => ?_) (fun c113 => ?_)
    · exact absurd c113 (by decide)
    refine Gl.lloadN Yc rfl at_116 rfl ?_
    refine Gl.lconst Yc (v := (0 : Int64)) (by decide) at_117 rfl ?_
    refine Gl.lcmpge Yc at_118 rfl at_119 (by decide) rfl rfl (fun c119 => ?_) (fun c119 => ?_)
    · have j119 : ¬ (xx.toInt < 0) := fun q => c119 (Int64.lt_iff_toInt_lt.mpr q)
      refine Gl.iconst Yc (v := (1 : Int32)) (by decide) at_126 rfl ?_
      refine Gl.istore Yc (L' := #[.val (.long xx), .second, .val (.long yy), .second, .val (.int dd), .val (.int ff), .val (.int dg), .val (.int ng), .val (.ref r8), .val (.ref r9), .val (.int ac), .val (.long v87), .second, .val (.int 1), .val (.int 1), .unset, .unset, .unset]) rfl at_127 rfl ?_
      refine Gl.goto Yc at_129 (by decide) rfl ?_
      refine Gl.iload Yc rfl at_139 rfl ?_
      refine Gl.bipush Yc (v := (18 : Int32)) (by decide) at_141 rfl ?_
      refine Gl.icmpgt Yc at_143 (by decide) rfl rfl (fun c143 => ?_) (fun c143 => ?_)
      · have j143 : 18 < dg.toInt := Int32.lt_iff_toInt_lt.mp c143
        refine Gl.iconst Yc (v := (0 : Int32)) (by decide) at_150 rfl ?_
        refine Gl.istore Yc (L' := #[.val (.long xx), .second, .val (.long yy), .second, .val (.int dd), .val (.int ff), .val (.int dg), .val (.int ng), .val (.ref r8), .val (.ref r9), .val (.int ac), .val (.long v87), .second, .val (.int 1), .val (.int 1), .val (.int 0), .unset, .unset]) rfl at_151 rfl ?_
        refine Gl.iload Yc rfl at_153 rfl ?_
        refine Gl.ifeq Yc at_155 (by decide) rfl rfl (fun c155 => ?_) (fun c155 => ?_)
        rotate_left
        · exact absurd c155 (by decide)
        refine Gl.iconst Yc (v := (0 : Int32)) (by decide) at_192 rfl ?_
        refine Gl.istore Yc (L' := #[.val (.long xx), .second, .val (.long yy), .second, .val (.int dd), .val (.int ff), .val (.int dg), .val (.int ng), .val (.ref r8), .val (.ref r9), .val (.int ac), .val (.long v87), .second, .val (.int 1), .val (.int 1), .val (.int 0), .val (.int 0), .unset]) rfl at_193 rfl ?_
        refine Gl.iload Yc rfl at_195 rfl ?_
        refine Gl.ifeq Yc at_197 (by decide) rfl rfl (fun c197 => ?_) (fun c197 => ?_)
        rotate_left
        · exact absurd c197 (by decide)
        refine Gl.iload Yc rfl at_206 rfl ?_
        refine Gl.ifeq Yc at_208 (by decide) rfl rfl (fun c208 => ?_) (fun c208 => ?_)
        · have j208 : ng.toInt = 0 := congrArg Int32.toInt c208
          refine Gl.iload Yc rfl at_219 rfl ?_
          refine Gl.istore Yc (L' := #[.val (.long xx), .second, .val (.long yy), .second, .val (.int dd), .val (.int ff), .val (.int dg), .val (.int ng), .val (.ref r8), .val (.ref r9), .val (.int ac), .val (.long v87), .second, .val (.int 1), .val (.int 1), .val (.int 0), .val (.int 0), .val (.int 1)]) rfl at_221 rfl ?_
          refine Gl.iload Yc rfl at_223 rfl ?_
          refine Gl.iload Yc rfl at_225 rfl ?_
          refine Gl.icmpne Yc at_227 (by decide) rfl rfl (fun c227 => ?_) (fun c227 => ?_)
          · exfalso; have j227 : ¬ (ac.toInt = 1) := fun q => c227 (Int32.toInt_inj.mp q); omega
          have j227 : ac.toInt = 1 := congrArg Int32.toInt c227
          refine Gl.iconst Yc (v := (1 : Int32)) (by decide) at_230 rfl ?_
          refine Gl.goto Yc at_231 (by decide) rfl ?_
          exact Gl.retZ Yc (by decide) (by decide) (x' := (1 : Int32)) (by decide) at_235 rfl
        · have j208 : ¬ (ng.toInt = 0) := fun q => c208 (Int32.toInt_inj.mp q)
          refine Gl.iload Yc rfl at_211 rfl ?_
          refine Gl.ineg Yc (r := (-1 : Int32)) (by decide) at_213 rfl ?_
          refine Gl.istore Yc (L' := #[.val (.long xx), .second, .val (.long yy), .second, .val (.int dd), .val (.int ff), .val (.int dg), .val (.int ng), .val (.ref r8), .val (.ref r9), .val (.int ac), .val (.long v87), .second, .val (.int 1), .val (.int 1), .val (.int 0), .val (.int 0), .val (.int (-1))]) rfl at_214 rfl ?_
          refine Gl.goto Yc at_216 (by decide) rfl ?_
          refine Gl.iload Yc rfl at_223 rfl ?_
          refine Gl.iload Yc rfl at_225 rfl ?_
          refine Gl.icmpne Yc at_227 (by decide) rfl rfl (fun c227 => ?_) (fun c227 => ?_)
          · exfalso; have j227 : ¬ (ac.toInt = (-1)) := fun q => c227 (Int32.toInt_inj.mp q); omega
          have j227 : ac.toInt = (-1) := congrArg Int32.toInt c227
          refine Gl.iconst Yc (v := (1 : Int32)) (by decide) at_230 rfl ?_
          refine Gl.goto Yc at_231 (by decide) rfl ?_
          exact Gl.retZ Yc (by decide) (by decide) (x' := (1 : Int32)) (by decide) at_235 rfl
      · have j143 : ¬ (18 < dg.toInt) := fun q => c143 (Int32.lt_iff_toInt_lt.mpr q)
        refine Gl.iconst Yc (v := (1 : Int32)) (by decide) at_146 rfl ?_
        refine Gl.goto Yc at_147 (by decide) rfl ?_
        refine Gl.istore Yc (L' := #[.val (.long xx), .second, .val (.long yy), .second, .val (.int dd), .val (.int ff), .val (.int dg), .val (.int ng), .val (.ref r8), .val (.ref r9), .val (.int ac), .val (.long v87), .second, .val (.int 1), .val (.int 1), .val (.int 1), .unset, .unset]) rfl at_151 rfl ?_
        refine Gl.iload Yc rfl at_153 rfl ?_
        refine Gl.ifeq Yc at_155 (by decide) rfl rfl (fun c155 => ?_) (fun c155 => ?_)
        · exact absurd c155 (by decide)
        refine Gl.lloadN Yc rfl at_158 rfl ?_
        refine Gl.ldcJ Yc (tw_66 hw) at_159 rfl ?_
        refine Gl.lcmpeq Yc at_162 rfl at_163 (by decide) rfl rfl (fun c163 => ?_) (fun c163 => ?_)
        · exfalso; have j163 : xx.toInt = (-9223372036854775808) := congrArg Int64.toInt c163; omega
        have j163 : ¬ (xx.toInt = (-9223372036854775808)) := fun q => c163 (Int64.toInt_inj.mp q)
        refine Gl.lloadN Yc rfl at_166 rfl ?_
        refine Gl.ldcJ Yc (tw_66 hw) at_167 rfl ?_
        refine Gl.lcmpeq Yc at_170 rfl at_171 (by decide) rfl rfl (fun c171 => ?_) (fun c171 => ?_)
        · have j171 : yy.toInt = (-9223372036854775808) := congrArg Int64.toInt c171
          refine Gl.iconst Yc (v := (1 : Int32)) (by decide) at_188 rfl ?_
          refine Gl.goto Yc at_189 (by decide) rfl ?_
          refine Gl.istore Yc (L' := #[.val (.long xx), .second, .val (.long yy), .second, .val (.int dd), .val (.int ff), .val (.int dg), .val (.int ng), .val (.ref r8), .val (.ref r9), .val (.int ac), .val (.long v87), .second, .val (.int 1), .val (.int 1), .val (.int 1), .val (.int 1), .unset]) rfl at_193 rfl ?_
          refine Gl.iload Yc rfl at_195 rfl ?_
          refine Gl.ifeq Yc at_197 (by decide) rfl rfl (fun c197 => ?_) (fun c197 => ?_)
          · exact absurd c197 (by decide)
          refine Gl.iconst Yc (v := (-1 : Int32)) (by decide) at_200 rfl ?_
          refine Gl.istore Yc (L' := #[.val (.long xx), .second, .val (.long yy), .second, .val (.int dd), .val (.int ff), .val (.int dg), .val (.int ng), .val (.ref r8), .val (.ref r9), .val (.int ac), .val (.long v87), .second, .val (.int 1), .val (.int 1), .val (.int 1), .val (.int 1), .val (.int (-1))]) rfl at_201 rfl ?_
          refine Gl.goto Yc at_203 (by decide) rfl ?_
          refine Gl.iload Yc rfl at_223 rfl ?_
          refine Gl.iload Yc rfl at_225 rfl ?_
          refine Gl.icmpne Yc at_227 (by decide) rfl rfl (fun c227 => ?_) (fun c227 => ?_)
          · exfalso; have j227 : ¬ (ac.toInt = (-1)) := fun q => c227 (Int32.toInt_inj.mp q); omega
          have j227 : ac.toInt = (-1) := congrArg Int32.toInt c227
          refine Gl.iconst Yc (v := (1 : Int32)) (by decide) at_230 rfl ?_
          refine Gl.goto Yc at_231 (by decide) rfl ?_
          exact Gl.retZ Yc (by decide) (by decide) (x' := (1 : Int32)) (by decide) at_235 rfl
        · have j171 : ¬ (yy.toInt = (-9223372036854775808)) := fun q => c171 (Int64.toInt_inj.mp q)
          refine Gl.iload Yc rfl at_174 rfl ?_
          refine Gl.ifne Yc at_176 (by decide) rfl rfl (fun c176 => ?_) (fun c176 => ?_)
          rotate_left
          · exact absurd c176 (by decide)
          refine Gl.iconst Yc (v := (1 : Int32)) (by decide) at_188 rfl ?_
          refine Gl.goto Yc at_189 (by decide) rfl ?_
          refine Gl.istore Yc (L' := #[.val (.long xx), .second, .val (.long yy), .second, .val (.int dd), .val (.int ff), .val (.int dg), .val (.int ng), .val (.ref r8), .val (.ref r9), .val (.int ac), .val (.long v87), .second, .val (.int 1), .val (.int 1), .val (.int 1), .val (.int 1), .unset]) rfl at_193 rfl ?_
          refine Gl.iload Yc rfl at_195 rfl ?_
          refine Gl.ifeq Yc at_197 (by decide) rfl rfl (fun c197 => ?_) (fun c197 => ?_)
          · exact absurd c197 (by decide)
          refine Gl.iconst Yc (v := (-1 : Int32)) (by decide) at_200 rfl ?_
          refine Gl.istore Yc (L' := #[.val (.long xx), .second, .val (.long yy), .second, .val (.int dd), .val (.int ff), .val (.int dg), .val (.int ng), .val (.ref r8), .val (.ref r9), .val (.int ac), .val (.long v87), .second, .val (.int 1), .val (.int 1), .val (.int 1), .val (.int 1), .val (.int (-1))]) rfl at_201 rfl ?_
          refine Gl.goto Yc at_203 (by decide) rfl ?_
          refine Gl.iload Yc rfl at_223 rfl ?_
          refine Gl.iload Yc rfl at_225 rfl ?_
          refine Gl.icmpne Yc at_227 (by decide) rfl rfl (fun c227 => ?_) (fun c227 => ?_)
          · exfalso; have j227 : ¬ (ac.toInt = (-1)) := fun q => c227 (Int32.toInt_inj.mp q); omega
          have j227 : ac.toInt = (-1) := congrArg Int32.toInt c227
          refine Gl.iconst Yc (v := (1 : Int32)) (by decide) at_230 rfl ?_
          refine Gl.goto Yc at_231 (by decide) rfl ?_
          exact Gl.retZ Yc (by decide) (by decide) (x' := (1 : Int32)) (by decide) at_235 rfl
    · have j119 : xx.toInt < 0 := Int64.lt_iff_toInt_lt.mp c119
      refine Gl.iconst Yc (v := (-1 : Int32)) (by decide) at_122 rfl ?_
      refine Gl.goto Yc at_123 (by decide) rfl ?_
      refine Gl.istore Yc (L' := #[.val (.long xx), .second, .val (.long yy), .second, .val (.int dd), .val (.int ff), .val (.int dg), .val (.int ng), .val (.ref r8), .val (.ref r9), .val (.int ac), .val (.long v87), .second, .val (.int 1), .val (.int (-1)), .unset, .unset, .unset]) rfl at_127 rfl ?_
      refine Gl.goto Yc at_129 (by decide) rfl ?_
      refine Gl.iload Yc rfl at_139 rfl ?_
      refine Gl.bipush Yc (v := (18 : Int32)) (by decide) at_141 rfl ?_
      refine Gl.icmpgt Yc at_143 (by decide) rfl rfl (fun c143 => ?_) (fun c143 => ?_)
      · have j143 : 18 < dg.toInt := Int32.lt_iff_toInt_lt.mp c143
        refine Gl.iconst Yc (v := (0 : Int32)) (by decide) at_150 rfl ?_
        refine Gl.istore Yc (L' := #[.val (.long xx), .second, .val (.long yy), .second, .val (.int dd), .val (.int ff), .val (.int dg), .val (.int ng), .val (.ref r8), .val (.ref r9), .val (.int ac), .val (.long v87), .second, .val (.int 1), .val (.int (-1)), .val (.int 0), .unset, .unset]) rfl at_151 rfl ?_
        refine Gl.iload Yc rfl at_153 rfl ?_
        refine Gl.ifeq Yc at_155 (by decide) rfl rfl (fun c155 => ?_) (fun c155 => ?_)
        rotate_left
        · exact absurd c155 (by decide)
        refine Gl.iconst Yc (v := (0 : Int32)) (by decide) at_192 rfl ?_
        refine Gl.istore Yc (L' := #[.val (.long xx), .second, .val (.long yy), .second, .val (.int dd), .val (.int ff), .val (.int dg), .val (.int ng), .val (.ref r8), .val (.ref r9), .val (.int ac), .val (.long v87), .second, .val (.int 1), .val (.int (-1)), .val (.int 0), .val (.int 0), .unset]) rfl at_193 rfl ?_
        refine Gl.iload Yc rfl at_195 rfl ?_
        refine Gl.ifeq Yc at_197 (by decide) rfl rfl (fun c197 => ?_) (fun c197 => ?_)
        rotate_left
        · exact absurd c197 (by decide)
        refine Gl.iload Yc rfl at_206 rfl ?_
        refine Gl.ifeq Yc at_208 (by decide) rfl rfl (fun c208 => ?_) (fun c208 => ?_)
        · have j208 : ng.toInt = 0 := congrArg Int32.toInt c208
          refine Gl.iload Yc rfl at_219 rfl ?_
          refine Gl.istore Yc (L' := #[.val (.long xx), .second, .val (.long yy), .second, .val (.int dd), .val (.int ff), .val (.int dg), .val (.int ng), .val (.ref r8), .val (.ref r9), .val (.int ac), .val (.long v87), .second, .val (.int 1), .val (.int (-1)), .val (.int 0), .val (.int 0), .val (.int (-1))]) rfl at_221 rfl ?_
          refine Gl.iload Yc rfl at_223 rfl ?_
          refine Gl.iload Yc rfl at_225 rfl ?_
          refine Gl.icmpne Yc at_227 (by decide) rfl rfl (fun c227 => ?_) (fun c227 => ?_)
          · exfalso; have j227 : ¬ (ac.toInt = (-1)) := fun q => c227 (Int32.toInt_inj.mp q); omega
          have j227 : ac.toInt = (-1) := congrArg Int32.toInt c227
          refine Gl.iconst Yc (v := (1 : Int32)) (by decide) at_230 rfl ?_
          refine Gl.goto Yc at_231 (by decide) rfl ?_
          exact Gl.retZ Yc (by decide) (by decide) (x' := (1 : Int32)) (by decide) at_235 rfl
        · have j208 : ¬ (ng.toInt = 0) := fun q => c208 (Int32.toInt_inj.mp q)
          refine Gl.iload Yc rfl at_211 rfl ?_
          refine Gl.ineg Yc (r := (1 : Int32)) (by decide) at_213 rfl ?_
          refine Gl.istore Yc (L' := #[.val (.long xx), .second, .val (.long yy), .second, .val (.int dd), .val (.int ff), .val (.int dg), .val (.int ng), .val (.ref r8), .val (.ref r9), .val (.int ac), .val (.long v87), .second, .val (.int 1), .val (.int (-1)), .val (.int 0), .val (.int 0), .val (.int 1)]) rfl at_214 rfl ?_
          refine Gl.goto Yc at_216 (by decide) rfl ?_
          refine Gl.iload Yc rfl at_223 rfl ?_
          refine Gl.iload Yc rfl at_225 rfl ?_
          refine Gl.icmpne Yc at_227 (by decide) rfl rfl (fun c227 => ?_) (fun c227 => ?_)
          · exfalso; have j227 : ¬ (ac.toInt = 1) := fun q => c227 (Int32.toInt_inj.mp q); omega
          have j227 : ac.toInt = 1 := congrArg Int32.toInt c227
          refine Gl.iconst Yc (v := (1 : Int32)) (by decide) at_230 rfl ?_
          refine Gl.goto Yc at_231 (by decide) rfl ?_
          exact Gl.retZ Yc (by decide) (by decide) (x' := (1 : Int32)) (by decide) at_235 rfl
      · have j143 : ¬ (18 < dg.toInt) := fun q => c143 (Int32.lt_iff_toInt_lt.mpr q)
        refine Gl.iconst Yc (v := (1 : Int32)) (by decide) at_146 rfl ?_
        refine Gl.goto Yc at_147 (by decide) rfl ?_
        refine Gl.istore Yc (L' := #[.val (.long xx), .second, .val (.long yy), .second, .val (.int dd), .val (.int ff), .val (.int dg), .val (.int ng), .val (.ref r8), .val (.ref r9), .val (.int ac), .val (.long v87), .second, .val (.int 1), .val (.int (-1)), .val (.int 1), .unset, .unset]) rfl at_151 rfl ?_
        refine Gl.iload Yc rfl at_153 rfl ?_
        refine Gl.ifeq Yc at_155 (by decide) rfl rfl (fun c155 => ?_) (fun c155 => ?_)
        · exact absurd c155 (by decide)
        refine Gl.lloadN Yc rfl at_158 rfl ?_
        refine Gl.ldcJ Yc (tw_66 hw) at_159 rfl ?_
        refine Gl.lcmpeq Yc at_162 rfl at_163 (by decide) rfl rfl (fun c163 => ?_) (fun c163 => ?_)
        · have j163 : xx.toInt = (-9223372036854775808) := congrArg Int64.toInt c163
          refine Gl.iconst Yc (v := (1 : Int32)) (by decide) at_188 rfl ?_
          refine Gl.goto Yc at_189 (by decide) rfl ?_
          refine Gl.istore Yc (L' := #[.val (.long xx), .second, .val (.long yy), .second, .val (.int dd), .val (.int ff), .val (.int dg), .val (.int ng), .val (.ref r8), .val (.ref r9), .val (.int ac), .val (.long v87), .second, .val (.int 1), .val (.int (-1)), .val (.int 1), .val (.int 1), .unset]) rfl at_193 rfl ?_
          refine Gl.iload Yc rfl at_195 rfl ?_
          refine Gl.ifeq Yc at_197 (by decide) rfl rfl (fun c197 => ?_) (fun c197 => ?_)
          · exact absurd c197 (by decide)
          refine Gl.iconst Yc (v := (-1 : Int32)) (by decide) at_200 rfl ?_
          refine Gl.istore Yc (L' := #[.val (.long xx), .second, .val (.long yy), .second, .val (.int dd), .val (.int ff), .val (.int dg), .val (.int ng), .val (.ref r8), .val (.ref r9), .val (.int ac), .val (.long v87), .second, .val (.int 1), .val (.int (-1)), .val (.int 1), .val (.int 1), .val (.int (-1))]) rfl at_201 rfl ?_
          refine Gl.goto Yc at_203 (by decide) rfl ?_
          refine Gl.iload Yc rfl at_223 rfl ?_
          refine Gl.iload Yc rfl at_225 rfl ?_
          refine Gl.icmpne Yc at_227 (by decide) rfl rfl (fun c227 => ?_) (fun c227 => ?_)
          · exfalso; have j227 : ¬ (ac.toInt = (-1)) := fun q => c227 (Int32.toInt_inj.mp q); omega
          have j227 : ac.toInt = (-1) := congrArg Int32.toInt c227
          refine Gl.iconst Yc (v := (1 : Int32)) (by decide) at_230 rfl ?_
          refine Gl.goto Yc at_231 (by decide) rfl ?_
          exact Gl.retZ Yc (by decide) (by decide) (x' := (1 : Int32)) (by decide) at_235 rfl
        · have j163 : ¬ (xx.toInt = (-9223372036854775808)) := fun q => c163 (Int64.toInt_inj.mp q)
          refine Gl.lloadN Yc rfl at_166 rfl ?_
          refine Gl.ldcJ Yc (tw_66 hw) at_167 rfl ?_
          refine Gl.lcmpeq Yc at_170 rfl at_171 (by decide) rfl rfl (fun c171 => ?_) (fun c171 => ?_)
          · have j171 : yy.toInt = (-9223372036854775808) := congrArg Int64.toInt c171
            refine Gl.iconst Yc (v := (1 : Int32)) (by decide) at_188 rfl ?_
            refine Gl.goto Yc at_189 (by decide) rfl ?_
            refine Gl.istore Yc (L' := #[.val (.long xx), .second, .val (.long yy), .second, .val (.int dd), .val (.int ff), .val (.int dg), .val (.int ng), .val (.ref r8), .val (.ref r9), .val (.int ac), .val (.long v87), .second, .val (.int 1), .val (.int (-1)), .val (.int 1), .val (.int 1), .unset]) rfl at_193 rfl ?_
            refine Gl.iload Yc rfl at_195 rfl ?_
            refine Gl.ifeq Yc at_197 (by decide) rfl rfl (fun c197 => ?_) (fun c197 => ?_)
            · exact absurd c197 (by decide)
            refine Gl.iconst Yc (v := (-1 : Int32)) (by decide) at_200 rfl ?_
            refine Gl.istore Yc (L' := #[.val (.long xx), .second, .val (.long yy), .second, .val (.int dd), .val (.int ff), .val (.int dg), .val (.int ng), .val (.ref r8), .val (.ref r9), .val (.int ac), .val (.long v87), .second, .val (.int 1), .val (.int (-1)), .val (.int 1), .val (.int 1), .val (.int (-1))]) rfl at_201 rfl ?_
            refine Gl.goto Yc at_203 (by decide) rfl ?_
            refine Gl.iload Yc rfl at_223 rfl ?_
            refine Gl.iload Yc rfl at_225 rfl ?_
            refine Gl.icmpne Yc at_227 (by decide) rfl rfl (fun c227 => ?_) (fun c227 => ?_)
            · exfalso; have j227 : ¬ (ac.toInt = (-1)) := fun q => c227 (Int32.toInt_inj.mp q); omega
            have j227 : ac.toInt = (-1) := congrArg Int32.toInt c227
            refine Gl.iconst Yc (v := (1 : Int32)) (by decide) at_230 rfl ?_
            refine Gl.goto Yc at_231 (by decide) rfl ?_
            exact Gl.retZ Yc (by decide) (by decide) (x' := (1 : Int32)) (by decide) at_235 rfl
          · have j171 : ¬ (yy.toInt = (-9223372036854775808)) := fun q => c171 (Int64.toInt_inj.mp q)
            refine Gl.iload Yc rfl at_174 rfl ?_
            refine Gl.ifne Yc at_176 (by decide) rfl rfl (fun c176 => ?_) (fun c176 => ?_)
            rotate_left
            · exact absurd c176 (by decide)
            refine Gl.iconst Yc (v := (1 : Int32)) (by decide) at_188 rfl ?_
            refine Gl.goto Yc at_189 (by decide) rfl ?_
            refine Gl.istore Yc (L' := #[.val (.long xx), .second, .val (.long yy), .second, .val (.int dd), .val (.int ff), .val (.int dg), .val (.int ng), .val (.ref r8), .val (.ref r9), .val (.int ac), .val (.long v87), .second, .val (.int 1), .val (.int (-1)), .val (.int 1), .val (.int 1), .unset]) rfl at_193 rfl ?_
            refine Gl.iload Yc rfl at_195 rfl ?_
            refine Gl.ifeq Yc at_197 (by decide) rfl rfl (fun c197 => ?_) (fun c197 => ?_)
            · exact absurd c197 (by decide)
            refine Gl.iconst Yc (v := (-1 : Int32)) (by decide) at_200 rfl ?_
            refine Gl.istore Yc (L' := #[.val (.long xx), .second, .val (.long yy), .second, .val (.int dd), .val (.int ff), .val (.int dg), .val (.int ng), .val (.ref r8), .val (.ref r9), .val (.int ac), .val (.long v87), .second, .val (.int 1), .val (.int (-1)), .val (.int 1), .val (.int 1), .val (.int (-1))]) rfl at_201 rfl ?_
            refine Gl.goto Yc at_203 (by decide) rfl ?_
            refine Gl.iload Yc rfl at_223 rfl ?_
            refine Gl.iload Yc rfl at_225 rfl ?_
            refine Gl.icmpne Yc at_227 (by decide) rfl rfl (fun c227 => ?_) (fun c227 => ?_)
            · exfalso; have j227 : ¬ (ac.toInt = (-1)) := fun q => c227 (Int32.toInt_inj.mp q); omega
            have j227 : ac.toInt = (-1) := congrArg Int32.toInt c227
            refine Gl.iconst Yc (v := (1 : Int32)) (by decide) at_230 rfl ?_
            refine Gl.goto Yc at_231 (by decide) rfl ?_
            exact Gl.retZ Yc (by decide) (by decide) (x' := (1 : Int32)) (by decide) at_235 rfl
set_option maxRecDepth 65536 in
set_option maxHeartbeats 40000000 in
theorem comes_1 {Post : Tables → Env → Array Value → State → Outcome → State → Prop} (hpost : ∀ tb e args s v u, (limb_1_1.after args s (.returned v) u = true ∧ limb_1_2.after args s (.returned v) u = true ∧ True) → FrameEnd s (.returned v) u (Jvm.fieldLocs frame_1_writes args s ++ Jvm.arrayLocs frame_1_arrays args s ++ Jvm.staticLocs frame_1_statics s) 16 128 → Post tb e args s (.returned v) u) :
    ArmFor flags0 classFile x code maxLocals ret World_1 tables_1 room_1 Calls_1 rest_1 Pre_1 Post := by
  intro l hfl _ _ p e ha hc hk s m args below hf hA hF happ hP
  obtain ⟨hcalls, hrest, hpre⟩ := hP
  obtain ⟨-, -, -, hnamed, -, -, -, hat⟩ := (Spec.applies_iff hf).mp happ
  obtain ⟨hg, hn⟩ := and_e (Cond.before_iff.mp (show (Jvm.Cond.and given_1 narrow_1).before args s = true from hpre))
  obtain ⟨a0, g0⟩ := and_e hg
  obtain ⟨a1, g1⟩ := and_e g0
  obtain ⟨a2, g2⟩ := and_e g1
  obtain ⟨a3, g3⟩ := and_e g2
  obtain ⟨w0, w1, w2, w3, rfl⟩ : ∃ w0 w1 w2 w3 : Value, args = #[w0, w1, w2, w3] := by
    have hs : args.size = 4 := by simpa [Cond.value, given_1] using a0
    obtain ⟨L⟩ := args
    match L, hs with
    | [w0, w1, w2, w3], _ => exact ⟨w0, w1, w2, w3, rfl⟩
  have hw := fun d (hd : d ∈ tables_1) => atoms_spec (ws := Jvm.Cond.code x code maxLocals ret :: tables_1) hat d (List.mem_cons_of_mem _ hd)
  have hfit : Fit s := fun {y c} hc i hi => by
    obtain ⟨ha, rfl⟩ := Array.getElem?_eq_some_iff.mp hc
    have q := List.all_eq_true.mp ((Array.all_eq_true_iff_forall_mem.mp hF) _ (Array.getElem_mem ha)) i (List.mem_range.mpr hi)
    simpa [Array.getElem?_eq_getElem hi] using q
  obtain ⟨i0, e0⟩ := isL_v a1
  obtain rfl : w0 = (.long i0) := Option.some.inj e0
  obtain ⟨i1, e1⟩ := isL_v a2
  obtain rfl : w1 = (.long i1) := Option.some.inj e1
  obtain ⟨i2, e2⟩ := is_v a3
  obtain rfl : w2 = (.int i2) := Option.some.inj e2
  obtain ⟨i3, e3⟩ := is_v g3
  obtain rfl : w3 = (.int i3) := Option.some.inj e3
  obtain ⟨n, o, h1, h2, h3, v, L, rfl, ⟨hv, N⟩, hq⟩ := rmL l s _ hw tables_1 i0 i1 i2 i3 s.heap s.heap.size (Nat.le_refl _) p e ha hc hk s m _ below hf ((Spec.applies_iff_loose hf).mp happ).1 ⟨rfl, State.Warmed39.refl s, rfl⟩ trivial
  obtain rfl : v = some (.int 1) := hv
  refine ⟨n, _, h1, h2, h3, hpost _ _ _ _ _ _ ⟨Cond.after_iff.mpr rfl, Cond.after_iff.mpr (eq_i res_at (Term.int_eval (1)) rfl), trivial⟩ ⟨hq.1, hq.2.1, (hq.2.2.sift fun y hy => Or.inr (N y hy)).mono (by decide) (by decide)⟩⟩
theorem main_1_1 : Claimed_1_1 := comes_1 fun _ _ _ _ _ _ h hF => ⟨h.1, hF⟩
theorem main_1_2 : Claimed_1_2 := comes_1 fun _ _ _ _ _ _ h hF => ⟨h.2.1, hF⟩
end Jvm.Pilot.@@N@@
namespace Jvm.Pilot.@@N@@
open Jvm Jvm.ClassFile Sem Op Lib Jvm.Free Jvm.Stand Jvm.Pilot.@@N@@.Jvm.D
/-! MADE BY PROGRAM (witnessworld.py) out of the Statement's table words and the real class files: 13 classes; the members and pool entries that the words name. The judged class is class 1, her method 2. -/
namespace start1
open Jvm.ClassFile
def u (s : String) : CpInfo := .utf8 (stringToUtf16 s)
/-- a pool by its gaps: so many unusable entries, then the entry; so many at the end -/
def gap : Nat → List CpInfo → List CpInfo
  | 0, r => r
  | n + 1, r => .unusable :: gap n r
def poolList (es : List (Nat × CpInfo)) (last : Nat) : List CpInfo := es.foldr (fun e r => gap e.1 (e.2 :: r)) (gap last [])
def pool (es : List (Nat × CpInfo)) (last : Nat) : Array CpInfo := ⟨poolList es last⟩
def fileOf (pool : Array CpInfo) (this : Nat) (attrs : Array Attribute := #[]) (ms : Array MethodInfo := #[]) (fl : Nat := 33) (sup : Nat := 0) (ifs : Array Nat := #[]) (fds : Array FieldInfo := #[]) : ClassFile where
  minorVersion := 0
  majorVersion := 65
  constantPool := pool
  accessFlags := fl
  thisClass := this
  superClass := sup
  interfaces := ifs
  fields := fds
  methods := ms
  attributes := attrs
def plain (name : String) (sup : Option ClassId) : Class where
  name := name
  kind := .ordinary
  loader := none
  accessFlags := 33
  super := sup
  interfaces := #[]
  cf := none
  fields := #[]
  methods := #[]
  instanceTypes := #[]
  staticTypes := #[]
  resolved := #[]
  callSites := []
  init := .initialized
  statics := none
  mirror := none

def pool0 : Array CpInfo := pool [(5, u "<init>"), (0, u "()V"), (1, .class_ 10), (1, u "java/lang/Object")] 113

def k0c0 : Code := { maxStack := 0, maxLocals := 1, code := object_method_1_code, exceptionTable := #[], attributes := #[] }
def k0m0 : Method := { name := "<init>", desc := "()V", sig := { parameters := [], returnType := none }, accessFlags := 1, code := some k0c0 }
/-- java/lang/Object -/
def k0 : Class := { plain "java/lang/Object" none with
  accessFlags := 33
  interfaces := #[]
  cf := some (fileOf pool0 8 #[] #[{ accessFlags := 1, nameIndex := 5, descriptorIndex := 6, attributes := #[] }] 33 0 #[] #[])
  fields := #[]
  methods := #[k0m0]
  instanceTypes := #[]
  staticTypes := #[]
  resolved := Array.replicate 124 none
  statics := none }

def pool1 : Array CpInfo := pool [(2, .class_ 4), (1, u "java/lang/Object"), (0, u "<init>"), (0, u "()V"), (0, .class_ 8), (0, u "com/example/meterwise/meterwise/model/WholeNumber"), (0, .methodref 7 10), (0, .nameAndType 5 11), (0, u "(I)V"), (0, .methodref 7 13), (0, .nameAndType 14 15), (0, u "set"), (0, u "(J)Lcom/example/meterwise/meterwise/model/WholeNumber;"), (0, .methodref 7 17), (0, .nameAndType 18 19), (0, u "add"), (0, u "(Lcom/example/meterwise/meterwise/model/WholeNumber;)Lcom/example/meterwise/meterwise/model/WholeNumber;"), (0, .methodref 7 21), (0, .nameAndType 22 23), (0, u "negate"), (0, u "()Lcom/example/meterwise/meterwise/model/WholeNumber;"), (0, .methodref 7 25), (0, .nameAndType 26 27), (0, u "signum"), (0, u "()I"), (0, .methodref 29 30), (0, .class_ 31), (0, .nameAndType 32 33), (0, u "com/example/meterwise/meterwise/model/WholeNumberSignumPinLaw"), (0, u "signOf"), (0, u "(J)I"), (2, .long 9223372036854775808), (4, u "law"), (0, u "(JJII)Z")] 2

def k1m0 : Method := { name := "<init>", desc := "()V", sig := { parameters := [], returnType := none }, accessFlags := 1, code := none }
def k1c1 : Code := { maxStack := 4, maxLocals := 2, code := method_2_code, exceptionTable := #[], attributes := #[] }
def k1m1 : Method := { name := "signOf", desc := "(J)I", sig := { parameters := [.long], returnType := some .int }, accessFlags := 10, code := some k1c1 }
def k1c2 : Code := { maxStack := 6, maxLocals := 18, code := code, exceptionTable := #[], attributes := #[] }
def k1m2 : Method := { name := "law", desc := "(JJII)Z", sig := { parameters := [.long, .long, .int, .int], returnType := some .boolean }, accessFlags := 9, code := some k1c2 }
/-- com/example/meterwise/meterwise/model/WholeNumberSignumPinLaw -/
def k1 : Class := { plain "com/example/meterwise/meterwise/model/WholeNumberSignumPinLaw" (some 0) with
  accessFlags := 49
  interfaces := #[]
  cf := some (fileOf pool1 29 #[] #[{ accessFlags := 1, nameIndex := 5, descriptorIndex := 6, attributes := #[] }, { accessFlags := 10, nameIndex := 32, descriptorIndex := 33, attributes := #[] }, { accessFlags := 9, nameIndex := 41, descriptorIndex := 42, attributes := #[] }] 49 2 #[] #[])
  fields := #[]
  methods := #[k1m0, k1m1, k1m2]
  instanceTypes := #[]
  staticTypes := #[]
  resolved := Array.replicate 45 none
  statics := none }

def pool2 : Array CpInfo := pool [(1, .methodref 2 3), (0, .class_ 4), (0, .nameAndType 5 6), (0, u "java/lang/Object"), (0, u "<init>"), (0, u "()V"), (9, .long 3322), (1, .long 999), (1, .long 1000), (3, .long 64), (1, .fieldref 27 28), (0, .class_ 29), (0, .nameAndType 30 31), (0, u "com/example/meterwise/meterwise/model/WholeNumber"), (0, u "words"), (0, u "[J"), (4, .methodref 37 38), (0, .class_ 39), (0, .nameAndType 40 41), (0, u "java/lang/Math"), (0, u "max"), (0, u "(II)I"), (2, u "(I)V"), (2, u "set"), (6, u "()I"), (3, .methodref 59 60), (0, .class_ 61), (0, .nameAndType 62 63), (0, u "java/util/Arrays"), (0, u "fill"), (0, u "([JIIJ)V"), (6, .methodref 27 71), (0, .nameAndType 72 73), (0, u "overflowed"), (0, u "()Z"), (0, .methodref 27 75), (0, .nameAndType 76 77), (0, u "overflow"), (0, u "()Lcom/example/meterwise/meterwise/model/WholeNumber;"), (0, .methodref 27 79), (0, .nameAndType 80 81), (0, u "top"), (0, u "()J"), (23, .methodref 59 106), (0, .nameAndType 62 107), (0, u "([JJ)V"), (0, .long 9223372036854775808), (1, .methodref 27 111), (0, .nameAndType 112 73), (0, u "zeroBelowTop"), (11, .methodref 27 125), (0, .nameAndType 126 127), (0, u "add"), (0, u "(Lcom/example/meterwise/meterwise/model/WholeNumber;Z)Lcom/example/meterwise/meterwise/model/WholeNumber;"), (0, .long 18446744073709551615), (3, u "signum"), (2, u "work"), (3, u "negate"), (15, u "POWERS"), (73, u "LONG_PLACES"), (0, u "I"), (2, u "WORD_PLACES"), (1, u "HALF"), (0, u "J"), (0, u "BILLION"), (4, u "(J)Lcom/example/meterwise/meterwise/model/WholeNumber;"), (0, u "(Lcom/example/meterwise/meterwise/model/WholeNumber;)Lcom/example/meterwise/meterwise/model/WholeNumber;")] 34

def k2c0 : Code := { maxStack := 5, maxLocals := 4, code := prog_137_method_1_code, exceptionTable := #[], attributes := #[] }
def k2m0 : Method := { name := "<init>", desc := "(I)V", sig := { parameters := [.int], returnType := none }, accessFlags := 1, code := some k2c0 }
def k2c1 : Code := { maxStack := 6, maxLocals := 3, code := prog_137_method_4_code, exceptionTable := #[], attributes := #[] }
def k2m1 : Method := { name := "set", desc := "(J)Lcom/example/meterwise/meterwise/model/WholeNumber;", sig := { parameters := [.long], returnType := some (.object "com/example/meterwise/meterwise/model/WholeNumber") }, accessFlags := 1, code := some k2c1 }
def k2c2 : Code := { maxStack := 4, maxLocals := 1, code := prog_137_method_7_code, exceptionTable := #[], attributes := #[] }
def k2m2 : Method := { name := "overflow", desc := "()Lcom/example/meterwise/meterwise/model/WholeNumber;", sig := { parameters := [], returnType := some (.object "com/example/meterwise/meterwise/model/WholeNumber") }, accessFlags := 1, code := some k2c2 }
def k2c3 : Code := { maxStack := 4, maxLocals := 1, code := prog_137_method_8_code, exceptionTable := #[], attributes := #[] }
def k2m3 : Method := { name := "overflowed", desc := "()Z", sig := { parameters := [], returnType := some .boolean }, accessFlags := 1, code := some k2c3 }
def k2c4 : Code := { maxStack := 4, maxLocals := 3, code := prog_137_method_9_code, exceptionTable := #[], attributes := #[] }
def k2m4 : Method := { name := "signum", desc := "()I", sig := { parameters := [], returnType := some .int }, accessFlags := 1, code := some k2c4 }
def k2c5 : Code := { maxStack := 4, maxLocals := 2, code := prog_137_method_10_code, exceptionTable := #[], attributes := #[] }
def k2m5 : Method := { name := "zeroBelowTop", desc := "()Z", sig := { parameters := [], returnType := some .boolean }, accessFlags := 2, code := some k2c5 }
def k2c6 : Code := { maxStack := 3, maxLocals := 2, code := prog_137_method_12_code, exceptionTable := #[], attributes := #[] }
def k2m6 : Method := { name := "add", desc := "(Lcom/example/meterwise/meterwise/model/WholeNumber;)Lcom/example/meterwise/meterwise/model/WholeNumber;", sig := { parameters := [(.object "com/example/meterwise/meterwise/model/WholeNumber")], returnType := some (.object "com/example/meterwise/meterwise/model/WholeNumber") }, accessFlags := 1, code := some k2c6 }
def k2c7 : Code := { maxStack := 8, maxLocals := 21, code := prog_137_method_14_code, exceptionTable := #[], attributes := #[] }
def k2m7 : Method := { name := "add", desc := "(Lcom/example/meterwise/meterwise/model/WholeNumber;Z)Lcom/example/meterwise/meterwise/model/WholeNumber;", sig := { parameters := [(.object "com/example/meterwise/meterwise/model/WholeNumber"), .boolean], returnType := some (.object "com/example/meterwise/meterwise/model/WholeNumber") }, accessFlags := 2, code := some k2c7 }
def k2c8 : Code := { maxStack := 6, maxLocals := 4, code := prog_137_method_19_code, exceptionTable := #[], attributes := #[] }
def k2m8 : Method := { name := "negate", desc := "()Lcom/example/meterwise/meterwise/model/WholeNumber;", sig := { parameters := [], returnType := some (.object "com/example/meterwise/meterwise/model/WholeNumber") }, accessFlags := 1, code := some k2c8 }
def k2c9 : Code := { maxStack := 3, maxLocals := 1, code := prog_137_method_31_code, exceptionTable := #[], attributes := #[] }
def k2m9 : Method := { name := "top", desc := "()J", sig := { parameters := [], returnType := some .long }, accessFlags := 2, code := some k2c9 }
/-- com/example/meterwise/meterwise/model/WholeNumber -/
def k2 : Class := { plain "com/example/meterwise/meterwise/model/WholeNumber" (some 0) with
  accessFlags := 33
  interfaces := #[]
  cf := some (fileOf pool2 27 #[] #[{ accessFlags := 1, nameIndex := 5, descriptorIndex := 44, attributes := #[] }, { accessFlags := 1, nameIndex := 47, descriptorIndex := 242, attributes := #[] }, { accessFlags := 1, nameIndex := 76, descriptorIndex := 77, attributes := #[] }, { accessFlags := 1, nameIndex := 72, descriptorIndex := 73, attributes := #[] }, { accessFlags := 1, nameIndex := 132, descriptorIndex := 54, attributes := #[] }, { accessFlags := 2, nameIndex := 112, descriptorIndex := 73, attributes := #[] }, { accessFlags := 1, nameIndex := 126, descriptorIndex := 243, attributes := #[] }, { accessFlags := 2, nameIndex := 126, descriptorIndex := 127, attributes := #[] }, { accessFlags := 1, nameIndex := 139, descriptorIndex := 77, attributes := #[] }, { accessFlags := 2, nameIndex := 80, descriptorIndex := 81, attributes := #[] }] 33 2 #[] #[{ accessFlags := 26, nameIndex := 229, descriptorIndex := 230, attributes := #[] }, { accessFlags := 26, nameIndex := 233, descriptorIndex := 230, attributes := #[] }, { accessFlags := 26, nameIndex := 235, descriptorIndex := 236, attributes := #[] }, { accessFlags := 26, nameIndex := 237, descriptorIndex := 236, attributes := #[] }, { accessFlags := 26, nameIndex := 155, descriptorIndex := 31, attributes := #[] }, { accessFlags := 18, nameIndex := 30, descriptorIndex := 31, attributes := #[] }, { accessFlags := 2, nameIndex := 135, descriptorIndex := 31, attributes := #[] }])
  fields := #[{ name := "LONG_PLACES", type := .int, accessFlags := 26, slot := 0, constantValue := 0 }, { name := "WORD_PLACES", type := .int, accessFlags := 26, slot := 1, constantValue := 0 }, { name := "HALF", type := .long, accessFlags := 26, slot := 2, constantValue := 0 }, { name := "BILLION", type := .long, accessFlags := 26, slot := 3, constantValue := 0 }, { name := "POWERS", type := (.array .long), accessFlags := 26, slot := 4, constantValue := 0 }, { name := "words", type := (.array .long), accessFlags := 18, slot := 0, constantValue := 0 }, { name := "work", type := (.array .long), accessFlags := 2, slot := 1, constantValue := 0 }]
  methods := #[k2m0, k2m1, k2m2, k2m3, k2m4, k2m5, k2m6, k2m7, k2m8, k2m9]
  instanceTypes := #[(.array .long), (.array .long)]
  staticTypes := #[.int, .int, .long, .long, (.array .long)]
  resolved := Array.replicate 278 none
  statics := none }

def pool3 : Array CpInfo := pool [(2, .class_ 4), (1, u "java/lang/Object"), (0, u "<init>"), (0, u "()V"), (6, .methodref 14 15), (0, .class_ 16), (0, .nameAndType 17 18), (0, u "java/util/Arrays"), (0, u "rangeCheck"), (0, u "(III)V"), (55, .class_ 76), (1, u "java/util/Arrays$NaturalOrder"), (36, .class_ 115), (1, u "java/util/Arrays$LegacyMergeSort"), (1, u "Z"), (257, .class_ 376), (0, u "java/util/Arrays$ArrayList"), (68, u "$assertionsDisabled"), (269, u "MIN_ARRAY_SORT_GRAN"), (0, u "I"), (2, u "INSERTIONSORT_THRESHOLD"), (120, u "fill"), (0, u "([JJ)V"), (2, u "([JIIJ)V"), (130, .class_ 976), (0, u "java/util/Arrays$ArrayItr")] 52

def k3m0 : Method := { name := "<init>", desc := "()V", sig := { parameters := [], returnType := none }, accessFlags := 2, code := none }
def k3c1 : Code := { maxStack := 4, maxLocals := 3, code := jdk_65_method_30_code, exceptionTable := #[], attributes := #[] }
def k3m1 : Method := { name := "rangeCheck", desc := "(III)V", sig := { parameters := [.int, .int, .int], returnType := none }, accessFlags := 8, code := some k3c1 }
def k3c2 : Code := { maxStack := 4, maxLocals := 5, code := jdk_65_method_101_code, exceptionTable := #[], attributes := #[] }
def k3m2 : Method := { name := "fill", desc := "([JJ)V", sig := { parameters := [(.array .long), .long], returnType := none }, accessFlags := 9, code := some k3c2 }
def k3c3 : Code := { maxStack := 4, maxLocals := 6, code := jdk_65_method_102_code, exceptionTable := #[], attributes := #[] }
def k3m3 : Method := { name := "fill", desc := "([JIIJ)V", sig := { parameters := [(.array .long), .int, .int, .long], returnType := none }, accessFlags := 9, code := some k3c3 }
/-- java/util/Arrays -/
def k3 : Class := { plain "java/util/Arrays" (some 0) with
  accessFlags := 49
  interfaces := #[]
  cf := some (fileOf pool3 14 #[.nestMembers #[975, 375, 113, 74]] #[{ accessFlags := 2, nameIndex := 5, descriptorIndex := 6, attributes := #[] }, { accessFlags := 8, nameIndex := 17, descriptorIndex := 18, attributes := #[] }, { accessFlags := 9, nameIndex := 840, descriptorIndex := 841, attributes := #[] }, { accessFlags := 9, nameIndex := 840, descriptorIndex := 844, attributes := #[] }] 49 2 #[] #[{ accessFlags := 26, nameIndex := 715, descriptorIndex := 716, attributes := #[] }, { accessFlags := 26, nameIndex := 719, descriptorIndex := 716, attributes := #[] }, { accessFlags := 4120, nameIndex := 445, descriptorIndex := 117, attributes := #[] }])
  fields := #[{ name := "MIN_ARRAY_SORT_GRAN", type := .int, accessFlags := 26, slot := 0, constantValue := 0 }, { name := "INSERTIONSORT_THRESHOLD", type := .int, accessFlags := 26, slot := 1, constantValue := 0 }, { name := "$assertionsDisabled", type := .boolean, accessFlags := 4120, slot := 2, constantValue := 0 }]
  methods := #[k3m0, k3m1, k3m2, k3m3]
  instanceTypes := #[]
  staticTypes := #[.int, .int, .boolean]
  resolved := Array.replicate 1029 none
  statics := none }

def pool4 : Array CpInfo := pool [(1, .class_ 2), (0, u "java/lang/Math"), (1, .class_ 6), (1, u "java/lang/Object"), (0, u "<init>"), (0, u "()V"), (89, .class_ 100), (1, u "java/lang/Math$RandomNumberGeneratorHolder"), (71, u "negativeZeroFloatBits"), (0, u "J"), (2, u "negativeZeroDoubleBits"), (21, u "max"), (46, u "$assertionsDisabled"), (0, u "Z"), (88, u "(II)I"), (2, u "twoToTheDoubleScaleDown"), (0, u "D"), (4, u "twoToTheDoubleScaleUp"), (9, u "E"), (3, u "PI"), (2, u "TAU"), (2, u "DEGREES_TO_RADIANS"), (0, u "RADIANS_TO_DEGREES")] 94

def k4m0 : Method := { name := "<init>", desc := "()V", sig := { parameters := [], returnType := none }, accessFlags := 2, code := none }
def k4c1 : Code := { maxStack := 2, maxLocals := 2, code := jdk_29_method_65_code, exceptionTable := #[], attributes := #[] }
def k4m1 : Method := { name := "max", desc := "(II)I", sig := { parameters := [.int, .int], returnType := some .int }, accessFlags := 9, code := some k4c1 }
/-- java/lang/Math -/
def k4 : Class := { plain "java/lang/Math" (some 0) with
  accessFlags := 49
  interfaces := #[]
  cf := some (fileOf pool4 1 #[.nestMembers #[98]] #[{ accessFlags := 2, nameIndex := 7, descriptorIndex := 8, attributes := #[] }, { accessFlags := 9, nameIndex := 198, descriptorIndex := 335, attributes := #[] }] 49 4 #[] #[{ accessFlags := 25, nameIndex := 354, descriptorIndex := 339, attributes := #[] }, { accessFlags := 25, nameIndex := 358, descriptorIndex := 339, attributes := #[] }, { accessFlags := 25, nameIndex := 361, descriptorIndex := 339, attributes := #[] }, { accessFlags := 26, nameIndex := 364, descriptorIndex := 339, attributes := #[] }, { accessFlags := 26, nameIndex := 365, descriptorIndex := 339, attributes := #[] }, { accessFlags := 26, nameIndex := 172, descriptorIndex := 173, attributes := #[] }, { accessFlags := 26, nameIndex := 176, descriptorIndex := 173, attributes := #[] }, { accessFlags := 8, nameIndex := 344, descriptorIndex := 339, attributes := #[] }, { accessFlags := 8, nameIndex := 338, descriptorIndex := 339, attributes := #[] }, { accessFlags := 4120, nameIndex := 245, descriptorIndex := 246, attributes := #[] }])
  fields := #[{ name := "E", type := .double, accessFlags := 25, slot := 0, constantValue := 0 }, { name := "PI", type := .double, accessFlags := 25, slot := 1, constantValue := 0 }, { name := "TAU", type := .double, accessFlags := 25, slot := 2, constantValue := 0 }, { name := "DEGREES_TO_RADIANS", type := .double, accessFlags := 26, slot := 3, constantValue := 0 }, { name := "RADIANS_TO_DEGREES", type := .double, accessFlags := 26, slot := 4, constantValue := 0 }, { name := "negativeZeroFloatBits", type := .long, accessFlags := 26, slot := 5, constantValue := 0 }, { name := "negativeZeroDoubleBits", type := .long, accessFlags := 26, slot := 6, constantValue := 0 }, { name := "twoToTheDoubleScaleUp", type := .double, accessFlags := 8, slot := 7, constantValue := 0 }, { name := "twoToTheDoubleScaleDown", type := .double, accessFlags := 8, slot := 8, constantValue := 0 }, { name := "$assertionsDisabled", type := .boolean, accessFlags := 4120, slot := 9, constantValue := 0 }]
  methods := #[k4m0, k4m1]
  instanceTypes := #[]
  staticTypes := #[.double, .double, .double, .double, .double, .long, .long, .double, .double, .boolean]
  resolved := Array.replicate 460 none
  statics := none }

def pool5 : Array CpInfo := pool [(1, u "java/lang/Cloneable"), (0, .class_ 1), (0, u "java/lang/Object"), (0, .class_ 3)] 3

/-- java/lang/Cloneable -/
def k5 : Class := { plain "java/lang/Cloneable" (some 0) with
  accessFlags := 1537
  interfaces := #[]
  cf := some (fileOf pool5 2 #[] #[] 1537 4 #[] #[])
  fields := #[]
  methods := #[]
  instanceTypes := #[]
  staticTypes := #[]
  resolved := Array.replicate 8 none
  statics := none }

def pool6 : Array CpInfo := pool [(1, u "java/io/Serializable"), (0, .class_ 1), (0, u "java/lang/Object"), (0, .class_ 3)] 3

/-- java/io/Serializable -/
def k6 : Class := { plain "java/io/Serializable" (some 0) with
  accessFlags := 1537
  interfaces := #[]
  cf := some (fileOf pool6 2 #[] #[] 1537 4 #[] #[])
  fields := #[]
  methods := #[]
  instanceTypes := #[]
  staticTypes := #[]
  resolved := Array.replicate 8 none
  statics := none }

/-- the primitive byte -/
def k7 : Class := { plain "byte" none with kind := .primitive 'B', accessFlags := 0x411 }
/-- [B -/
def k8 : Class := { plain "[B" (some 0) with kind := .array 7 .byte, interfaces := #[5, 6], accessFlags := 1041 }

/-- the primitive int -/
def k9 : Class := { plain "int" none with kind := .primitive 'I', accessFlags := 0x411 }
/-- [I -/
def k10 : Class := { plain "[I" (some 0) with kind := .array 9 .int, interfaces := #[5, 6], accessFlags := 1041 }

/-- the primitive long -/
def k11 : Class := { plain "long" none with kind := .primitive 'J', accessFlags := 0x411 }
/-- [J -/
def k12 : Class := { plain "[J" (some 0) with kind := .array 11 .long, interfaces := #[5, 6], accessFlags := 1041 }

def heap : Heap := #[]
def classes : Array Class := #[k0, k1, k2, k3, k4, k5, k6, k7, k8, k9, k10, k11, k12]
def interned : List (Array UInt16 × Addr) := []
def slotsUsed : Nat := 0
def theMethod : MethodId := ⟨1, 2⟩
def args0 : Array Value := #[.long 7, .long 3, .int 9, .int 4]
def aboutOver (below : List Frame) : State where
  vm := { classes := classes, interned := interned.toArray }
  heap := heap
  slotsUsed := slotsUsed
  threads := #[{ frames := .invoking theMethod args0 :: below }]
def below0 : List Frame := [.native { method := ⟨0, 0⟩, args := #[] }]
def about1 : State := aboutOver below0
def p0 : Program := .bare "" "" ""
def e0 : Env := launch0.env 0 0 0
theorem w_frames : about1.frames = Frame.invoking theMethod args0 :: below0 := rfl
set_option maxRecDepth 65536 in
theorem w_args : argsFit about1.vm theMethod args0 = true := by decide +kernel
set_option maxRecDepth 65536 in
theorem w_heap : heapFits about1 = true := by decide +kernel
set_option maxRecDepth 65536 in
theorem w_runnable : about1.curStatus? = some .runnable := by decide +kernel
set_option maxRecDepth 65536 in
theorem w_alone : about1.alone = true := by decide +kernel
set_option maxRecDepth 65536 in
theorem w_named : about1.methodNamed? x = some theMethod := by decide +kernel
set_option maxRecDepth 65536 in
theorem w_hears : about1.hears theMethod below0 = true := by decide +kernel
set_option maxRecDepth 65536 in
theorem w_ripe : about1.ripe theMethod args0 below0 = true := by decide +kernel
theorem w_running : about1.status = .running := rfl
set_option maxRecDepth 65536 in
theorem w_room : about1.hasRoom e0.platform room_1 = true :=
  launch0.hasRoom_least _ room_1 (by decide +kernel) (by decide +kernel) (by decide +kernel) (by decide +kernel) (by decide +kernel) (by decide +kernel)
theorem allAtoms_all (ts : List Jvm.Cond) (a : Array Jvm.Value) (st : Jvm.State) : (allAtoms ts).before a st = ts.all (fun c => c.before a st) := by
  induction ts with
  | nil => rfl
  | cons c t ih =>
    show (Jvm.Cond.and c (allAtoms t)).before a st = _
    rw [Jvm.Cond.before_and, ih, List.all_cons]
def words1 : List Jvm.Cond := Jvm.Cond.code x code maxLocals ret :: tables_1
/-- a 'code' word, met by the world's own term for the bytes: nothing is compared byte by byte -/
theorem code_word {y : MethodName} {bytes : ByteArray} {mx : Nat} {rt : Option FieldType} {a : Array Value} {s : State} {m : MethodId} {meth : Method} {c : Code} (h1 : s.methodNamed? y = some m) (h2 : s.vm.method? m = some meth) (h3 : meth.code = some c) (h4 : c.code = bytes)
    (h5 : (c.maxLocals == mx && c.exceptionTable.isEmpty && decide (c.maxStack ≤ mostOperands) && decide (meth.sig.returnType = rt) && !meth.locks && decide (parseMethodDescriptor y.desc = some meth.sig)) = true) : (Jvm.Cond.code y bytes mx rt).before a s = true := by
  simp only [Bool.and_eq_true, beq_iff_eq, Bool.not_eq_true', decide_eq_true_eq] at h5
  obtain ⟨⟨⟨⟨⟨g1, g2⟩, g3⟩, g4⟩, g5⟩, g6⟩ := h5
  simp [Cond.before, Cond.holds, Cond.value, h1, h2, h3, h4, g1, g2, g3, g4, g5, g6]
def isCode : Jvm.Cond → Bool
  | .code _ _ _ _ => true
  | _ => false
theorem all_split {L : List Jvm.Cond} {P : Jvm.Cond → Bool} (h1 : L.all (fun c => isCode c || P c) = true) (h2 : ∀ c ∈ L.filter isCode, P c = true) : L.all P = true := by
  refine List.all_eq_true.mpr fun c hc => ?_
  have h := List.all_eq_true.mp h1 c hc
  rcases Bool.eq_false_or_eq_true (isCode c) with hi | hi
  · exact h2 c (List.mem_filter.mpr ⟨hc, hi⟩)
  · simpa [hi] using h
set_option maxRecDepth 65536 in
theorem w_c0 : (Jvm.Cond.code x code maxLocals ret).before args0 about1 = true := code_word (m := ⟨1, 2⟩) (meth := k1m2) (c := k1c2) (by decide +kernel) rfl rfl rfl (by decide +kernel)
set_option maxRecDepth 65536 in
theorem w_c1 : (Jvm.Cond.code ({ cls := "com/example/meterwise/meterwise/model/WholeNumber", name := "<init>", desc := "(I)V" } : Jvm.MethodName) prog_137_method_1_code (4 : Nat) (Option.none : Option Jvm.ClassFile.FieldType)).before args0 about1 = true := code_word (m := ⟨2, 0⟩) (meth := k2m0) (c := k2c0) (by decide +kernel) rfl rfl rfl (by decide +kernel)
set_option maxRecDepth 65536 in
theorem w_c2 : (Jvm.Cond.code ({ cls := "java/lang/Object", name := "<init>", desc := "()V" } : Jvm.MethodName) object_method_1_code (1 : Nat) (Option.none : Option Jvm.ClassFile.FieldType)).before args0 about1 = true := code_word (m := ⟨0, 0⟩) (meth := k0m0) (c := k0c0) (by decide +kernel) rfl rfl rfl (by decide +kernel)
set_option maxRecDepth 65536 in
theorem w_c3 : (Jvm.Cond.code ({ cls := "com/example/meterwise/meterwise/model/WholeNumber", name := "set", desc := "(J)Lcom/example/meterwise/meterwise/model/WholeNumber;" } : Jvm.MethodName) prog_137_method_4_code (3 : Nat) (Option.some (Jvm.ClassFile.FieldType.object "com/example/meterwise/meterwise/model/WholeNumber"))).before args0 about1 = true := code_word (m := ⟨2, 1⟩) (meth := k2m1) (c := k2c1) (by decide +kernel) rfl rfl rfl (by decide +kernel)
set_option maxRecDepth 65536 in
theorem w_c4 : (Jvm.Cond.code ({ cls := "java/util/Arrays", name := "fill", desc := "([JIIJ)V" } : Jvm.MethodName) jdk_65_method_102_code (6 : Nat) (Option.none : Option Jvm.ClassFile.FieldType)).before args0 about1 = true := code_word (m := ⟨3, 3⟩) (meth := k3m3) (c := k3c3) (by decide +kernel) rfl rfl rfl (by decide +kernel)
set_option maxRecDepth 65536 in
theorem w_c5 : (Jvm.Cond.code ({ cls := "java/util/Arrays", name := "rangeCheck", desc := "(III)V" } : Jvm.MethodName) jdk_65_method_30_code (3 : Nat) (Option.none : Option Jvm.ClassFile.FieldType)).before args0 about1 = true := code_word (m := ⟨3, 1⟩) (meth := k3m1) (c := k3c1) (by decide +kernel) rfl rfl rfl (by decide +kernel)
set_option maxRecDepth 65536 in
theorem w_c6 : (Jvm.Cond.code ({ cls := "com/example/meterwise/meterwise/model/WholeNumber", name := "add", desc := "(Lcom/example/meterwise/meterwise/model/WholeNumber;)Lcom/example/meterwise/meterwise/model/WholeNumber;" } : Jvm.MethodName) prog_137_method_12_code (2 : Nat) (Option.some (Jvm.ClassFile.FieldType.object "com/example/meterwise/meterwise/model/WholeNumber"))).before args0 about1 = true := code_word (m := ⟨2, 6⟩) (meth := k2m6) (c := k2c6) (by decide +kernel) rfl rfl rfl (by decide +kernel)
set_option maxRecDepth 65536 in
theorem w_c7 : (Jvm.Cond.code ({ cls := "com/example/meterwise/meterwise/model/WholeNumber", name := "add", desc := "(Lcom/example/meterwise/meterwise/model/WholeNumber;Z)Lcom/example/meterwise/meterwise/model/WholeNumber;" } : Jvm.MethodName) prog_137_method_14_code (21 : Nat) (Option.some (Jvm.ClassFile.FieldType.object "com/example/meterwise/meterwise/model/WholeNumber"))).before args0 about1 = true := code_word (m := ⟨2, 7⟩) (meth := k2m7) (c := k2c7) (by decide +kernel) rfl rfl rfl (by decide +kernel)
set_option maxRecDepth 65536 in
theorem w_c8 : (Jvm.Cond.code ({ cls := "com/example/meterwise/meterwise/model/WholeNumber", name := "overflowed", desc := "()Z" } : Jvm.MethodName) prog_137_method_8_code (1 : Nat) (Option.some Jvm.ClassFile.FieldType.boolean)).before args0 about1 = true := code_word (m := ⟨2, 3⟩) (meth := k2m3) (c := k2c3) (by decide +kernel) rfl rfl rfl (by decide +kernel)
set_option maxRecDepth 65536 in
theorem w_c9 : (Jvm.Cond.code ({ cls := "com/example/meterwise/meterwise/model/WholeNumber", name := "top", desc := "()J" } : Jvm.MethodName) prog_137_method_31_code (1 : Nat) (Option.some Jvm.ClassFile.FieldType.long)).before args0 about1 = true := code_word (m := ⟨2, 9⟩) (meth := k2m9) (c := k2c9) (by decide +kernel) rfl rfl rfl (by decide +kernel)
set_option maxRecDepth 65536 in
theorem w_c10 : (Jvm.Cond.code ({ cls := "java/lang/Math", name := "max", desc := "(II)I" } : Jvm.MethodName) jdk_29_method_65_code (2 : Nat) (Option.some Jvm.ClassFile.FieldType.int)).before args0 about1 = true := code_word (m := ⟨4, 1⟩) (meth := k4m1) (c := k4c1) (by decide +kernel) rfl rfl rfl (by decide +kernel)
set_option maxRecDepth 65536 in
theorem w_c11 : (Jvm.Cond.code ({ cls := "com/example/meterwise/meterwise/model/WholeNumber", name := "negate", desc := "()Lcom/example/meterwise/meterwise/model/WholeNumber;" } : Jvm.MethodName) prog_137_method_19_code (4 : Nat) (Option.some (Jvm.ClassFile.FieldType.object "com/example/meterwise/meterwise/model/WholeNumber"))).before args0 about1 = true := code_word (m := ⟨2, 8⟩) (meth := k2m8) (c := k2c8) (by decide +kernel) rfl rfl rfl (by decide +kernel)
set_option maxRecDepth 65536 in
theorem w_c12 : (Jvm.Cond.code ({ cls := "com/example/meterwise/meterwise/model/WholeNumber", name := "signum", desc := "()I" } : Jvm.MethodName) prog_137_method_9_code (3 : Nat) (Option.some Jvm.ClassFile.FieldType.int)).before args0 about1 = true := code_word (m := ⟨2, 4⟩) (meth := k2m4) (c := k2c4) (by decide +kernel) rfl rfl rfl (by decide +kernel)
set_option maxRecDepth 65536 in
theorem w_c13 : (Jvm.Cond.code ({ cls := "com/example/meterwise/meterwise/model/WholeNumberSignumPinLaw", name := "signOf", desc := "(J)I" } : Jvm.MethodName) method_2_code (2 : Nat) (Option.some Jvm.ClassFile.FieldType.int)).before args0 about1 = true := code_word (m := ⟨1, 1⟩) (meth := k1m1) (c := k1c1) (by decide +kernel) rfl rfl rfl (by decide +kernel)
set_option maxRecDepth 65536 in
theorem w_c14 : (Jvm.Cond.code ({ cls := "com/example/meterwise/meterwise/model/WholeNumber", name := "overflow", desc := "()Lcom/example/meterwise/meterwise/model/WholeNumber;" } : Jvm.MethodName) prog_137_method_7_code (1 : Nat) (Option.some (Jvm.ClassFile.FieldType.object "com/example/meterwise/meterwise/model/WholeNumber"))).before args0 about1 = true := code_word (m := ⟨2, 2⟩) (meth := k2m2) (c := k2c2) (by decide +kernel) rfl rfl rfl (by decide +kernel)
set_option maxRecDepth 65536 in
theorem w_c15 : (Jvm.Cond.code ({ cls := "java/util/Arrays", name := "fill", desc := "([JJ)V" } : Jvm.MethodName) jdk_65_method_101_code (5 : Nat) (Option.none : Option Jvm.ClassFile.FieldType)).before args0 about1 = true := code_word (m := ⟨3, 2⟩) (meth := k3m2) (c := k3c2) (by decide +kernel) rfl rfl rfl (by decide +kernel)
set_option maxRecDepth 65536 in
theorem w_c16 : (Jvm.Cond.code ({ cls := "com/example/meterwise/meterwise/model/WholeNumber", name := "zeroBelowTop", desc := "()Z" } : Jvm.MethodName) prog_137_method_10_code (2 : Nat) (Option.some Jvm.ClassFile.FieldType.boolean)).before args0 about1 = true := code_word (m := ⟨2, 5⟩) (meth := k2m5) (c := k2c5) (by decide +kernel) rfl rfl rfl (by decide +kernel)
def codes1 : List Jvm.Cond := [Jvm.Cond.code x code maxLocals ret, Jvm.Cond.code ({ cls := "com/example/meterwise/meterwise/model/WholeNumber", name := "<init>", desc := "(I)V" } : Jvm.MethodName) prog_137_method_1_code (4 : Nat) (Option.none : Option Jvm.ClassFile.FieldType), Jvm.Cond.code ({ cls := "java/lang/Object", name := "<init>", desc := "()V" } : Jvm.MethodName) object_method_1_code (1 : Nat) (Option.none : Option Jvm.ClassFile.FieldType), Jvm.Cond.code ({ cls := "com/example/meterwise/meterwise/model/WholeNumber", name := "set", desc := "(J)Lcom/example/meterwise/meterwise/model/WholeNumber;" } : Jvm.MethodName) prog_137_method_4_code (3 : Nat) (Option.some (Jvm.ClassFile.FieldType.object "com/example/meterwise/meterwise/model/WholeNumber")), Jvm.Cond.code ({ cls := "java/util/Arrays", name := "fill", desc := "([JIIJ)V" } : Jvm.MethodName) jdk_65_method_102_code (6 : Nat) (Option.none : Option Jvm.ClassFile.FieldType), Jvm.Cond.code ({ cls := "java/util/Arrays", name := "rangeCheck", desc := "(III)V" } : Jvm.MethodName) jdk_65_method_30_code (3 : Nat) (Option.none : Option Jvm.ClassFile.FieldType), Jvm.Cond.code ({ cls := "com/example/meterwise/meterwise/model/WholeNumber", name := "add", desc := "(Lcom/example/meterwise/meterwise/model/WholeNumber;)Lcom/example/meterwise/meterwise/model/WholeNumber;" } : Jvm.MethodName) prog_137_method_12_code (2 : Nat) (Option.some (Jvm.ClassFile.FieldType.object "com/example/meterwise/meterwise/model/WholeNumber")), Jvm.Cond.code ({ cls := "com/example/meterwise/meterwise/model/WholeNumber", name := "add", desc := "(Lcom/example/meterwise/meterwise/model/WholeNumber;Z)Lcom/example/meterwise/meterwise/model/WholeNumber;" } : Jvm.MethodName) prog_137_method_14_code (21 : Nat) (Option.some (Jvm.ClassFile.FieldType.object "com/example/meterwise/meterwise/model/WholeNumber")), Jvm.Cond.code ({ cls := "com/example/meterwise/meterwise/model/WholeNumber", name := "overflowed", desc := "()Z" } : Jvm.MethodName) prog_137_method_8_code (1 : Nat) (Option.some Jvm.ClassFile.FieldType.boolean), Jvm.Cond.code ({ cls := "com/example/meterwise/meterwise/model/WholeNumber", name := "top", desc := "()J" } : Jvm.MethodName) prog_137_method_31_code (1 : Nat) (Option.some Jvm.ClassFile.FieldType.long), Jvm.Cond.code ({ cls := "java/lang/Math", name := "max", desc := "(II)I" } : Jvm.MethodName) jdk_29_method_65_code (2 : Nat) (Option.some Jvm.ClassFile.FieldType.int), Jvm.Cond.code ({ cls := "com/example/meterwise/meterwise/model/WholeNumber", name := "negate", desc := "()Lcom/example/meterwise/meterwise/model/WholeNumber;" } : Jvm.MethodName) prog_137_method_19_code (4 : Nat) (Option.some (Jvm.ClassFile.FieldType.object "com/example/meterwise/meterwise/model/WholeNumber")), Jvm.Cond.code ({ cls := "com/example/meterwise/meterwise/model/WholeNumber", name := "signum", desc := "()I" } : Jvm.MethodName) prog_137_method_9_code (3 : Nat) (Option.some Jvm.ClassFile.FieldType.int), Jvm.Cond.code ({ cls := "com/example/meterwise/meterwise/model/WholeNumberSignumPinLaw", name := "signOf", desc := "(J)I" } : Jvm.MethodName) method_2_code (2 : Nat) (Option.some Jvm.ClassFile.FieldType.int), Jvm.Cond.code ({ cls := "com/example/meterwise/meterwise/model/WholeNumber", name := "overflow", desc := "()Lcom/example/meterwise/meterwise/model/WholeNumber;" } : Jvm.MethodName) prog_137_method_7_code (1 : Nat) (Option.some (Jvm.ClassFile.FieldType.object "com/example/meterwise/meterwise/model/WholeNumber")), Jvm.Cond.code ({ cls := "java/util/Arrays", name := "fill", desc := "([JJ)V" } : Jvm.MethodName) jdk_65_method_101_code (5 : Nat) (Option.none : Option Jvm.ClassFile.FieldType), Jvm.Cond.code ({ cls := "com/example/meterwise/meterwise/model/WholeNumber", name := "zeroBelowTop", desc := "()Z" } : Jvm.MethodName) prog_137_method_10_code (2 : Nat) (Option.some Jvm.ClassFile.FieldType.boolean)]
set_option maxRecDepth 65536 in
theorem codes_eq : words1.filter isCode = codes1 := rfl
theorem w_codes : ∀ c ∈ words1.filter isCode, c.before args0 about1 = true := by
  rw [codes_eq]
  intro c hc
  simp only [codes1, List.mem_cons, List.not_mem_nil, or_false] at hc
  rcases hc with rfl | rfl | rfl | rfl | rfl | rfl | rfl | rfl | rfl | rfl | rfl | rfl | rfl | rfl | rfl | rfl | rfl
  · exact w_c0
  · exact w_c1
  · exact w_c2
  · exact w_c3
  · exact w_c4
  · exact w_c5
  · exact w_c6
  · exact w_c7
  · exact w_c8
  · exact w_c9
  · exact w_c10
  · exact w_c11
  · exact w_c12
  · exact w_c13
  · exact w_c14
  · exact w_c15
  · exact w_c16
set_option maxRecDepth 65536 in
theorem w_t1 : (words1.take 24).all (fun c => isCode c || c.before args0 about1) = true := by decide +kernel
set_option maxRecDepth 65536 in
theorem w_t2 : ((words1.drop 24).take 24).all (fun c => isCode c || c.before args0 about1) = true := by decide +kernel
set_option maxRecDepth 65536 in
theorem w_t3 : (((words1.drop 24).drop 24).take 24).all (fun c => isCode c || c.before args0 about1) = true := by decide +kernel
set_option maxRecDepth 65536 in
theorem w_t4 : (((words1.drop 24).drop 24).drop 24).all (fun c => isCode c || c.before args0 about1) = true := by decide +kernel
theorem w_tables : (allAtoms (Jvm.Cond.code x code maxLocals ret :: tables_1)).before args0 about1 = true := by
  rw [allAtoms_all]
  show words1.all (fun c => c.before args0 about1) = true
  refine all_split ?_ w_codes
  rw [← List.take_append_drop 24 words1, List.all_append, w_t1, ← List.take_append_drop 24 (words1.drop 24), List.all_append, w_t2, ← List.take_append_drop 24 ((words1.drop 24).drop 24), List.all_append, w_t3, w_t4]
  rfl
set_option maxRecDepth 65536 in
theorem w_case : (Jvm.Cond.and given_1 narrow_1).before args0 about1 = true := by decide +kernel
theorem w_applies : (headSpec (Jvm.Cond.code x code maxLocals ret :: tables_1) room_1).applies x e0.platform about1 = true :=
  (Spec.applies_iff w_frames).mpr ⟨w_running, w_runnable, w_alone, w_named, w_hears, w_ripe, w_room, w_tables⟩
theorem atStart : AtStart classFile x code maxLocals ret World_1 tables_1 room_1 Calls_1 rest_1 Pre_1 launch0 p0 e0 about1 theMethod args0 below0 :=
  ⟨lists_1, trivial, launch0.admits_env _ _ _, launch0.least_env, fairChoices_fair.cas, fairChoices_fair.clock, w_frames, w_args, w_heap, w_applies, trivial, trivial, w_case⟩
end start1
theorem witness_1 : WitnessClaimed_1 := ⟨start1.p0, start1.e0, start1.about1, start1.theMethod, start1.args0, start1.below0, start1.atStart⟩
end Jvm.Pilot.@@N@@
