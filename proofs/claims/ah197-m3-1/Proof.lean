import JvmDerived
import JvmDerived.Pilot.@@N@@Statement
import JvmDerived.Pilot.@@N@@Code
set_option linter.unusedVariables false
set_option linter.unusedSimpArgs false
set_option maxRecDepth 65536
set_option maxHeartbeats 40000000
namespace Jvm.OwnWk
open Sem ClassFile Op Lib Jvm.Stand Jvm.Free Jvm.LawKit Jvm.RoadKit
def Sd (Z : State) (own : String) (bs : ByteArray) (mx : Nat) (ret : Option FieldType) (n0 : Nat) (p : Program) (l : Launch) (e : Env) (R : Room) (s : State) (m : MethodId) (args : Array Value) (below : List Frame) (meth : Method) (c : Code) (T : State) (h : Heap) (k n : Nat) : Prop :=
  ∃ locs, Stand p l e R s m args below meth c T locs k n ∧ T.heap = h ∧ Fr n0 locs ∧ n0 ≤ s.heap.size ∧ p.tables.exec = Jvm.exec ∧ Z.Warmed39 s.vm ∧ s.vm.findClass own = some m.cls ∧ c.code = bs ∧ c.maxLocals = mx ∧ meth.sig.returnType = ret ∧ meth.locks = false
def Gl (p : Program) (e : Env) (below : List Frame) (P : Outcome → State → Prop) (A : State) : Prop := ∃ t o, Steps p.tables e below A t ∧ t.status = .running ∧ Ended t below o ∧ P o t
def Pst (s : State) (n0 K N : Nat) (Q : Option Value → Heap → Prop) (o : Outcome) (t : State) : Prop := ∃ v L, o = .returned v ∧ (Q v t.heap ∧ Fr n0 L) ∧ FrameEnd s o t L K N
def OMet (l : Launch) (Z : State) (ws : List Jvm.Cond) (y : MethodName) (bs : ByteArray) (mx : Nat) (ret : Option FieldType) (rm : Room) (as : Array Value) (h : Heap) (n0 : Nat) (Q : Option Value → Heap → Prop) : Prop :=
  MetFree l y (head1 (Jvm.Cond.code y bs mx ret :: ws) rm) (fun a U => a = as ∧ Z.Warmed39 U.vm ∧ U.heap = h) (fun _ _ _ _ _ => True) (fun _ U o U' => ∃ v L, o = .returned v ∧ (Q v U'.heap ∧ Fr n0 L) ∧ FrameEnd U o U' L rm.cells rm.slots)
def own_ne (a b : Addr) : Prop := a ≠ b
section Kit
variable {Z : State} {own : String} {bs : ByteArray} {mx : Nat} {ret : Option FieldType} {n0 : Nat} {p : Program} {l : Launch} {e : Env} {R : Room} {s : State} {m : MethodId} {args : Array Value} {below : List Frame} {meth : Method} {c : Code} {T : State} {h : Heap} {k n : Nat} {P : Outcome → State → Prop} {L : Array Slot} {S : List Value} {pc pc' pcT pcF : Nat} {a0 : Array Value} {t : FieldType}
theorem Gl.of1 {A B : State} (f : ∀ t, Steps p.tables e below B t → Steps p.tables e below A t) (q : Gl p e below P B) : Gl p e below P A := by
  obtain ⟨t, o, h1, h2⟩ := q
  exact ⟨t, o, f t h1, h2⟩
theorem Gl.via {A B : State} (f : Steps p.tables e below A B) (q : Gl p e below P B) : Gl p e below P A := by
  obtain ⟨t, o, h1, h2⟩ := q
  exact ⟨t, o, f.trans h1, h2⟩
theorem OMet.of {ws : List Jvm.Cond} {y : MethodName} {rm : Room} {as : Array Value} {Q : Option Value → Heap → Prop} (ho : y.cls = own) (hpl : plainFor y = true) (hef : ∀ m, entryFrame m as mx = mkF m 0 L []) (hn : n0 ≤ h.size)
    (body : ∀ p e s m below meth c T, Sd Z own bs mx ret n0 p l e rm s m as below meth c T h 0 0 → meth.name = y.name → Gl p e below (Pst s n0 rm.cells rm.slots Q) (T.setTop (mkF m 0 L []))) : OMet l Z ws y bs mx ret rm as h n0 Q := by
  subst ho
  refine MetFree.of_bodySF hpl hisR ?_
  intro p e s m args below meth c s₁ Bd hml0 hP hK
  obtain ⟨rfl, hZ, hh⟩ := hP
  have e0 : s₁.heap = h := by rw [← hh, Bd.state]; rfl
  obtain ⟨t, o, h1, h2, h3, h4⟩ := body p e s m below meth c s₁ ⟨[], Stand.of_body Bd, e0, Fr.nil n0, by rw [hh]; exact hn, Bd.exec, hZ, findClass_of_methodNamed Bd.named, Bd.bytes, hml0, Bd.returns, Bd.notSynchronized⟩ (name_of_methodNamed Bd.named Bd.method).1
  exact ⟨t, o, castTop (hef m) h1, h2, h3, h4⟩

theorem own_grow {T' : State} {locs' : List Loc} {k' n' : Nat} (X : Stand p l e R s m args below meth c T' locs' k' n') : s.heap.size ≤ T'.heap.size := X.same.2.1
theorem own_eqI {args : Array Value} {Z : State} {t : Term} {v : Int32} (q : (Jvm.Cond.eq t (.int v)).value args Z none Z [] = some true) : t.eval args Z none [] Z = some (.int v) := by
  simp only [Cond.value, Term.eval] at q
  cases ht : t.eval args Z none [] Z with
  | none => simp [ht] at q
  | some w => cases w <;> simp [ht] at q ⊢ <;> exact q
theorem own_ite {c A B : Prop} [Decidable c] (h1 : c → A) (h2 : ¬ c → B) : A ∨ B := if q : c then Or.inl (h1 q) else Or.inr (h2 q)
theorem own_cut {A B : Prop} (f : B → A) (b : B) : A := f b
theorem Sd.sz (Y : Sd Z own bs mx ret n0 p l e R s m args below meth c T h k n) : n0 ≤ h.size := by
  obtain ⟨locs, X, eT, N, hn0, hx, hZ, hown, hby, hml, hrt, hlk⟩ := Y
  exact eT ▸ Nat.le_trans hn0 (own_grow X)
theorem own_narB {a v : Int32} (h : a.toInt8.toInt32 = v) : nar .byte v = v := by subst h; simp [nar]
theorem own_narC {a v : Int32} (h : a.toUInt32.toUInt16.toUInt32.toInt32 = v) : nar .char v = v := by subst h; have q := Jvm.Free.XT.narrow_c a; exact Value.int.inj q
theorem own_narS {a v : Int32} (h : a.toInt16.toInt32 = v) : nar .short v = v := by subst h; simp [nar]
theorem own_c3 {v : Int32} (h0 : 0 ≤ v.toInt) (h : v.toInt ≤ 3) : v = 0 ∨ v = 1 ∨ v = 2 ∨ v = 3 := by
  have : v.toInt = 0 ∨ v.toInt = 1 ∨ v.toInt = 2 ∨ v.toInt = 3 := by omega
  rcases this with q | q | q | q <;> simp [← Int32.toInt_inj, q]
theorem own_c4 {v : Int32} (h0 : 0 ≤ v.toInt) (h : v.toInt ≤ 4) : v = 0 ∨ v = 1 ∨ v = 2 ∨ v = 3 ∨ v = 4 := by
  have : v.toInt = 0 ∨ v.toInt = 1 ∨ v.toInt = 2 ∨ v.toInt = 3 ∨ v.toInt = 4 := by omega
  rcases this with q | q | q | q | q <;> simp [← Int32.toInt_inj, q]
theorem own_c5 {v : Int32} (h0 : 0 ≤ v.toInt) (h : v.toInt ≤ 5) : v = 0 ∨ v = 1 ∨ v = 2 ∨ v = 3 ∨ v = 4 ∨ v = 5 := by
  have : v.toInt = 0 ∨ v.toInt = 1 ∨ v.toInt = 2 ∨ v.toInt = 3 ∨ v.toInt = 4 ∨ v.toInt = 5 := by omega
  rcases this with q | q | q | q | q | q <;> simp [← Int32.toInt_inj, q]
theorem own_narR {t : FieldType} {x : Value} (q : x.isRef = true) : narrow t x = x := by rcases ref_cases q with rfl | ⟨z, rfl⟩ <;> cases t <;> rfl
theorem OMet.un {l : Launch} {Z : State} {ws : List Jvm.Cond} {y : MethodName} {bs : ByteArray} {mx : Nat} {ret : Option FieldType} {rm : Room} {as : Array Value} {h : Heap} {n0 : Nat} {Q : Option Value → Heap → Prop} (q : OMet l Z ws y bs mx ret rm as h n0 Q) :
  MetFree l y (head1 (Jvm.Cond.code y bs mx ret :: ws) rm) (fun a U => a = as ∧ Z.Warmed39 U.vm ∧ U.heap = h) (fun _ _ _ _ _ => True) (fun _ U o U' => ∃ v L, o = .returned v ∧ (fun v h' L => Q v h' ∧ Fr n0 L) v U'.heap L ∧ FrameEnd U o U' L rm.cells rm.slots) := q
theorem own_not64 (x : Int64) : (x ^^^ (-1)).toInt = -x.toInt - 1 := by
  have h1 : x ^^^ (-1) = ~~~x := by
    apply Int64.toBitVec_inj.mp
    rw [Int64.toBitVec_xor, Int64.toBitVec_not]
    exact BitVec.xor_allOnes
  rw [h1, Int64.not_eq_neg_sub]
  have q := c_lsub (-x) 1
  have r := c_lneg x
  have n1 := rng64 (-x - 1)
  have n2 := rng64 (-x)
  have n3 := rng64 x
  simp only [Int64.reduceToInt] at q
  omega
theorem own_narZ {x : Int32} (q : x = 0 ∨ x = 1) : nar .boolean x = x := by rcases q with rfl | rfl <;> rfl
theorem own_nZ {x : Int32} (q : x = 0 ∨ x = 1) : narrow .boolean (.int x) = .int x := by rcases q with rfl | rfl <;> rfl
theorem own_fZ {x : Int32} (q : x = 0 ∨ x = 1) : fits .boolean (.int x) = true := by rcases q with rfl | rfl <;> rfl
theorem Gl.iadd (Y : Sd Z own bs mx ret n0 p l e R s m args below meth c T h k n) {x y : Int32} {r : Int32} (hr : x + y = r) (hd : decode bs pc = .ok (.iadd, 1)) (hp : pc + 1 = pc') (q : Gl p e below P (T.setTop (mkF m pc' L (.int r :: S)))) : Gl p e below P (T.setTop (mkF m pc L (.int y :: .int x :: S))) := by
  obtain ⟨locs, X, eT, N, hn0, hx, hZ, hown, hby, hml, hrt, hlk⟩ := Y
  subst hp hr
  exact q.of1 fun t q => XS.iadd X.here hx rfl (hb hby hd) rfl q
theorem Gl.isub (Y : Sd Z own bs mx ret n0 p l e R s m args below meth c T h k n) {x y : Int32} {r : Int32} (hr : x - y = r) (hd : decode bs pc = .ok (.isub, 1)) (hp : pc + 1 = pc') (q : Gl p e below P (T.setTop (mkF m pc' L (.int r :: S)))) : Gl p e below P (T.setTop (mkF m pc L (.int y :: .int x :: S))) := by
  obtain ⟨locs, X, eT, N, hn0, hx, hZ, hown, hby, hml, hrt, hlk⟩ := Y
  subst hp hr
  exact q.of1 fun t q => XS.isub X.here hx rfl (hb hby hd) rfl q
theorem Gl.imul (Y : Sd Z own bs mx ret n0 p l e R s m args below meth c T h k n) {x y : Int32} {r : Int32} (hr : x * y = r) (hd : decode bs pc = .ok (.imul, 1)) (hp : pc + 1 = pc') (q : Gl p e below P (T.setTop (mkF m pc' L (.int r :: S)))) : Gl p e below P (T.setTop (mkF m pc L (.int y :: .int x :: S))) := by
  obtain ⟨locs, X, eT, N, hn0, hx, hZ, hown, hby, hml, hrt, hlk⟩ := Y
  subst hp hr
  exact q.of1 fun t q => XS.imul X.here hx rfl (hb hby hd) rfl q
theorem Gl.iand (Y : Sd Z own bs mx ret n0 p l e R s m args below meth c T h k n) {x y : Int32} {r : Int32} (hr : x &&& y = r) (hd : decode bs pc = .ok (.iand, 1)) (hp : pc + 1 = pc') (q : Gl p e below P (T.setTop (mkF m pc' L (.int r :: S)))) : Gl p e below P (T.setTop (mkF m pc L (.int y :: .int x :: S))) := by
  obtain ⟨locs, X, eT, N, hn0, hx, hZ, hown, hby, hml, hrt, hlk⟩ := Y
  subst hp hr
  exact q.of1 fun t q => XS.iand X.here hx rfl (hb hby hd) rfl q
theorem Gl.ior (Y : Sd Z own bs mx ret n0 p l e R s m args below meth c T h k n) {x y : Int32} {r : Int32} (hr : x ||| y = r) (hd : decode bs pc = .ok (.ior, 1)) (hp : pc + 1 = pc') (q : Gl p e below P (T.setTop (mkF m pc' L (.int r :: S)))) : Gl p e below P (T.setTop (mkF m pc L (.int y :: .int x :: S))) := by
  obtain ⟨locs, X, eT, N, hn0, hx, hZ, hown, hby, hml, hrt, hlk⟩ := Y
  subst hp hr
  exact q.of1 fun t q => XS.ior X.here hx rfl (hb hby hd) rfl q
theorem Gl.ixor (Y : Sd Z own bs mx ret n0 p l e R s m args below meth c T h k n) {x y : Int32} {r : Int32} (hr : x ^^^ y = r) (hd : decode bs pc = .ok (.ixor, 1)) (hp : pc + 1 = pc') (q : Gl p e below P (T.setTop (mkF m pc' L (.int r :: S)))) : Gl p e below P (T.setTop (mkF m pc L (.int y :: .int x :: S))) := by
  obtain ⟨locs, X, eT, N, hn0, hx, hZ, hown, hby, hml, hrt, hlk⟩ := Y
  subst hp hr
  exact q.of1 fun t q => XS.ixor X.here hx rfl (hb hby hd) rfl q
theorem Gl.ishl (Y : Sd Z own bs mx ret n0 p l e R s m args below meth c T h k n) {x y : Int32} {r : Int32} (hr : x <<< (y &&& 31) = r) (hd : decode bs pc = .ok (.ishl, 1)) (hp : pc + 1 = pc') (q : Gl p e below P (T.setTop (mkF m pc' L (.int r :: S)))) : Gl p e below P (T.setTop (mkF m pc L (.int y :: .int x :: S))) := by
  obtain ⟨locs, X, eT, N, hn0, hx, hZ, hown, hby, hml, hrt, hlk⟩ := Y
  subst hp hr
  exact q.of1 fun t q => XS.ishl X.here hx rfl (hb hby hd) rfl q
theorem Gl.ishr (Y : Sd Z own bs mx ret n0 p l e R s m args below meth c T h k n) {x y : Int32} {r : Int32} (hr : x >>> (y &&& 31) = r) (hd : decode bs pc = .ok (.ishr, 1)) (hp : pc + 1 = pc') (q : Gl p e below P (T.setTop (mkF m pc' L (.int r :: S)))) : Gl p e below P (T.setTop (mkF m pc L (.int y :: .int x :: S))) := by
  obtain ⟨locs, X, eT, N, hn0, hx, hZ, hown, hby, hml, hrt, hlk⟩ := Y
  subst hp hr
  exact q.of1 fun t q => XS.ishr X.here hx rfl (hb hby hd) rfl q
theorem Gl.iushr (Y : Sd Z own bs mx ret n0 p l e R s m args below meth c T h k n) {x y : Int32} {r : Int32} (hr : (x.toUInt32 >>> (y &&& 31).toUInt32).toInt32 = r) (hd : decode bs pc = .ok (.iushr, 1)) (hp : pc + 1 = pc') (q : Gl p e below P (T.setTop (mkF m pc' L (.int r :: S)))) : Gl p e below P (T.setTop (mkF m pc L (.int y :: .int x :: S))) := by
  obtain ⟨locs, X, eT, N, hn0, hx, hZ, hown, hby, hml, hrt, hlk⟩ := Y
  subst hp hr
  exact q.of1 fun t q => XS.iushr X.here hx rfl (hb hby hd) rfl q
theorem Gl.ladd (Y : Sd Z own bs mx ret n0 p l e R s m args below meth c T h k n) {x y : Int64} {r : Int64} (hr : x + y = r) (hd : decode bs pc = .ok (.ladd, 1)) (hp : pc + 1 = pc') (q : Gl p e below P (T.setTop (mkF m pc' L (.long r :: S)))) : Gl p e below P (T.setTop (mkF m pc L (.long y :: .long x :: S))) := by
  obtain ⟨locs, X, eT, N, hn0, hx, hZ, hown, hby, hml, hrt, hlk⟩ := Y
  subst hp hr
  exact q.of1 fun t q => XS.ladd X.here hx rfl (hb hby hd) rfl q
theorem Gl.lsub (Y : Sd Z own bs mx ret n0 p l e R s m args below meth c T h k n) {x y : Int64} {r : Int64} (hr : x - y = r) (hd : decode bs pc = .ok (.lsub, 1)) (hp : pc + 1 = pc') (q : Gl p e below P (T.setTop (mkF m pc' L (.long r :: S)))) : Gl p e below P (T.setTop (mkF m pc L (.long y :: .long x :: S))) := by
  obtain ⟨locs, X, eT, N, hn0, hx, hZ, hown, hby, hml, hrt, hlk⟩ := Y
  subst hp hr
  exact q.of1 fun t q => XS.lsub X.here hx rfl (hb hby hd) rfl q
theorem Gl.lmul (Y : Sd Z own bs mx ret n0 p l e R s m args below meth c T h k n) {x y : Int64} {r : Int64} (hr : x * y = r) (hd : decode bs pc = .ok (.lmul, 1)) (hp : pc + 1 = pc') (q : Gl p e below P (T.setTop (mkF m pc' L (.long r :: S)))) : Gl p e below P (T.setTop (mkF m pc L (.long y :: .long x :: S))) := by
  obtain ⟨locs, X, eT, N, hn0, hx, hZ, hown, hby, hml, hrt, hlk⟩ := Y
  subst hp hr
  exact q.of1 fun t q => XS.lmul X.here hx rfl (hb hby hd) rfl q
theorem Gl.land (Y : Sd Z own bs mx ret n0 p l e R s m args below meth c T h k n) {x y : Int64} {r : Int64} (hr : x &&& y = r) (hd : decode bs pc = .ok (.land, 1)) (hp : pc + 1 = pc') (q : Gl p e below P (T.setTop (mkF m pc' L (.long r :: S)))) : Gl p e below P (T.setTop (mkF m pc L (.long y :: .long x :: S))) := by
  obtain ⟨locs, X, eT, N, hn0, hx, hZ, hown, hby, hml, hrt, hlk⟩ := Y
  subst hp hr
  exact q.of1 fun t q => XS.land X.here hx rfl (hb hby hd) rfl q
theorem Gl.lor (Y : Sd Z own bs mx ret n0 p l e R s m args below meth c T h k n) {x y : Int64} {r : Int64} (hr : x ||| y = r) (hd : decode bs pc = .ok (.lor, 1)) (hp : pc + 1 = pc') (q : Gl p e below P (T.setTop (mkF m pc' L (.long r :: S)))) : Gl p e below P (T.setTop (mkF m pc L (.long y :: .long x :: S))) := by
  obtain ⟨locs, X, eT, N, hn0, hx, hZ, hown, hby, hml, hrt, hlk⟩ := Y
  subst hp hr
  exact q.of1 fun t q => XS.lor X.here hx rfl (hb hby hd) rfl q
theorem Gl.lxor (Y : Sd Z own bs mx ret n0 p l e R s m args below meth c T h k n) {x y : Int64} {r : Int64} (hr : x ^^^ y = r) (hd : decode bs pc = .ok (.lxor, 1)) (hp : pc + 1 = pc') (q : Gl p e below P (T.setTop (mkF m pc' L (.long r :: S)))) : Gl p e below P (T.setTop (mkF m pc L (.long y :: .long x :: S))) := by
  obtain ⟨locs, X, eT, N, hn0, hx, hZ, hown, hby, hml, hrt, hlk⟩ := Y
  subst hp hr
  exact q.of1 fun t q => XS.lxor X.here hx rfl (hb hby hd) rfl q
theorem Gl.lshl (Y : Sd Z own bs mx ret n0 p l e R s m args below meth c T h k n) {x : Int64} {y : Int32} {r : Int64} (hr : x <<< (y &&& 0x3f).toInt64 = r) (hd : decode bs pc = .ok (.lshl, 1)) (hp : pc + 1 = pc') (q : Gl p e below P (T.setTop (mkF m pc' L (.long r :: S)))) : Gl p e below P (T.setTop (mkF m pc L (.int y :: .long x :: S))) := by
  obtain ⟨locs, X, eT, N, hn0, hx, hZ, hown, hby, hml, hrt, hlk⟩ := Y
  subst hp hr
  exact q.of1 fun t q => XS.lshl X.here hx rfl (hb hby hd) rfl q
theorem Gl.lshr (Y : Sd Z own bs mx ret n0 p l e R s m args below meth c T h k n) {x : Int64} {y : Int32} {r : Int64} (hr : x >>> (y &&& 0x3f).toInt64 = r) (hd : decode bs pc = .ok (.lshr, 1)) (hp : pc + 1 = pc') (q : Gl p e below P (T.setTop (mkF m pc' L (.long r :: S)))) : Gl p e below P (T.setTop (mkF m pc L (.int y :: .long x :: S))) := by
  obtain ⟨locs, X, eT, N, hn0, hx, hZ, hown, hby, hml, hrt, hlk⟩ := Y
  subst hp hr
  exact q.of1 fun t q => XS.lshr X.here hx rfl (hb hby hd) rfl q
theorem Gl.lushr (Y : Sd Z own bs mx ret n0 p l e R s m args below meth c T h k n) {x : Int64} {y : Int32} {r : Int64} (hr : (x.toUInt64 >>> (y &&& 0x3f).toInt64.toUInt64).toInt64 = r) (hd : decode bs pc = .ok (.lushr, 1)) (hp : pc + 1 = pc') (q : Gl p e below P (T.setTop (mkF m pc' L (.long r :: S)))) : Gl p e below P (T.setTop (mkF m pc L (.int y :: .long x :: S))) := by
  obtain ⟨locs, X, eT, N, hn0, hx, hZ, hown, hby, hml, hrt, hlk⟩ := Y
  subst hp hr
  exact q.of1 fun t q => XS.lushr X.here hx rfl (hb hby hd) rfl q
theorem Gl.idiv (Y : Sd Z own bs mx ret n0 p l e R s m args below meth c T h k n) {x y : Int32} (hy : y ≠ 0) {r : Int32} (hr : x / y = r) (hd : decode bs pc = .ok (.idiv, 1)) (hp : pc + 1 = pc') (q : Gl p e below P (T.setTop (mkF m pc' L (.int r :: S)))) : Gl p e below P (T.setTop (mkF m pc L (.int y :: .int x :: S))) := by
  obtain ⟨locs, X, eT, N, hn0, hx, hZ, hown, hby, hml, hrt, hlk⟩ := Y
  subst hp hr
  exact q.of1 fun t q => XS.idiv X.here hx rfl (hb hby hd) rfl hy q
theorem Gl.irem (Y : Sd Z own bs mx ret n0 p l e R s m args below meth c T h k n) {x y : Int32} (hy : y ≠ 0) {r : Int32} (hr : x % y = r) (hd : decode bs pc = .ok (.irem, 1)) (hp : pc + 1 = pc') (q : Gl p e below P (T.setTop (mkF m pc' L (.int r :: S)))) : Gl p e below P (T.setTop (mkF m pc L (.int y :: .int x :: S))) := by
  obtain ⟨locs, X, eT, N, hn0, hx, hZ, hown, hby, hml, hrt, hlk⟩ := Y
  subst hp hr
  exact q.of1 fun t q => iremM X hx rfl (hb hby hd) rfl hy q
theorem Gl.ldiv (Y : Sd Z own bs mx ret n0 p l e R s m args below meth c T h k n) {x y : Int64} (hy : y ≠ 0) {r : Int64} (hr : x / y = r) (hd : decode bs pc = .ok (.ldiv, 1)) (hp : pc + 1 = pc') (q : Gl p e below P (T.setTop (mkF m pc' L (.long r :: S)))) : Gl p e below P (T.setTop (mkF m pc L (.long y :: .long x :: S))) := by
  obtain ⟨locs, X, eT, N, hn0, hx, hZ, hown, hby, hml, hrt, hlk⟩ := Y
  subst hp hr
  exact q.of1 fun t q => XS.ldiv X.here hx rfl (hb hby hd) rfl hy q
theorem Gl.lrem (Y : Sd Z own bs mx ret n0 p l e R s m args below meth c T h k n) {x y : Int64} (hy : y ≠ 0) {r : Int64} (hr : x % y = r) (hd : decode bs pc = .ok (.lrem, 1)) (hp : pc + 1 = pc') (q : Gl p e below P (T.setTop (mkF m pc' L (.long r :: S)))) : Gl p e below P (T.setTop (mkF m pc L (.long y :: .long x :: S))) := by
  obtain ⟨locs, X, eT, N, hn0, hx, hZ, hown, hby, hml, hrt, hlk⟩ := Y
  subst hp hr
  exact q.of1 fun t q => XS.lrem X.here hx rfl (hb hby hd) rfl hy (by rw [lrem_mod]; exact q)
theorem Gl.ineg (Y : Sd Z own bs mx ret n0 p l e R s m args below meth c T h k n) {x : Int32} {r : Int32} (hr : -x = r) (hd : decode bs pc = .ok (.ineg, 1)) (hp : pc + 1 = pc') (q : Gl p e below P (T.setTop (mkF m pc' L (.int r :: S)))) : Gl p e below P (T.setTop (mkF m pc L (.int x :: S))) := by
  obtain ⟨locs, X, eT, N, hn0, hx, hZ, hown, hby, hml, hrt, hlk⟩ := Y
  subst hp hr
  exact q.of1 fun t q => XS.ineg X.here hx rfl (hb hby hd) rfl q
theorem Gl.lneg (Y : Sd Z own bs mx ret n0 p l e R s m args below meth c T h k n) {x : Int64} {r : Int64} (hr : -x = r) (hd : decode bs pc = .ok (.lneg, 1)) (hp : pc + 1 = pc') (q : Gl p e below P (T.setTop (mkF m pc' L (.long r :: S)))) : Gl p e below P (T.setTop (mkF m pc L (.long x :: S))) := by
  obtain ⟨locs, X, eT, N, hn0, hx, hZ, hown, hby, hml, hrt, hlk⟩ := Y
  subst hp hr
  exact q.of1 fun t q => XS.lneg X.here hx rfl (hb hby hd) rfl q
theorem Gl.i2b (Y : Sd Z own bs mx ret n0 p l e R s m args below meth c T h k n) {x : Int32} {r : Int32} (hr : x.toInt8.toInt32 = r) (hd : decode bs pc = .ok (.i2b, 1)) (hp : pc + 1 = pc') (q : Gl p e below P (T.setTop (mkF m pc' L (.int r :: S)))) : Gl p e below P (T.setTop (mkF m pc L (.int x :: S))) := by
  obtain ⟨locs, X, eT, N, hn0, hx, hZ, hown, hby, hml, hrt, hlk⟩ := Y
  subst hp hr
  exact q.of1 fun t q => XS.i2b X.here hx rfl (hb hby hd) rfl q
theorem Gl.i2c (Y : Sd Z own bs mx ret n0 p l e R s m args below meth c T h k n) {x : Int32} {r : Int32} (hr : x.toUInt32.toUInt16.toUInt32.toInt32 = r) (hd : decode bs pc = .ok (.i2c, 1)) (hp : pc + 1 = pc') (q : Gl p e below P (T.setTop (mkF m pc' L (.int r :: S)))) : Gl p e below P (T.setTop (mkF m pc L (.int x :: S))) := by
  obtain ⟨locs, X, eT, N, hn0, hx, hZ, hown, hby, hml, hrt, hlk⟩ := Y
  subst hp hr
  exact q.of1 fun t q => XS.i2c X.here hx rfl (hb hby hd) rfl q
theorem Gl.i2s (Y : Sd Z own bs mx ret n0 p l e R s m args below meth c T h k n) {x : Int32} {r : Int32} (hr : x.toInt16.toInt32 = r) (hd : decode bs pc = .ok (.i2s, 1)) (hp : pc + 1 = pc') (q : Gl p e below P (T.setTop (mkF m pc' L (.int r :: S)))) : Gl p e below P (T.setTop (mkF m pc L (.int x :: S))) := by
  obtain ⟨locs, X, eT, N, hn0, hx, hZ, hown, hby, hml, hrt, hlk⟩ := Y
  subst hp hr
  exact q.of1 fun t q => XS.i2s X.here hx rfl (hb hby hd) rfl q
theorem Gl.i2l (Y : Sd Z own bs mx ret n0 p l e R s m args below meth c T h k n) {x : Int32} {r : Int64} (hr : x.toInt64 = r) (hd : decode bs pc = .ok (.i2l, 1)) (hp : pc + 1 = pc') (q : Gl p e below P (T.setTop (mkF m pc' L (.long r :: S)))) : Gl p e below P (T.setTop (mkF m pc L (.int x :: S))) := by
  obtain ⟨locs, X, eT, N, hn0, hx, hZ, hown, hby, hml, hrt, hlk⟩ := Y
  subst hp hr
  exact q.of1 fun t q => XS.i2l X.here hx rfl (hb hby hd) rfl q
theorem Gl.l2i (Y : Sd Z own bs mx ret n0 p l e R s m args below meth c T h k n) {x : Int64} {r : Int32} (hr : x.toInt32 = r) (hd : decode bs pc = .ok (.l2i, 1)) (hp : pc + 1 = pc') (q : Gl p e below P (T.setTop (mkF m pc' L (.int r :: S)))) : Gl p e below P (T.setTop (mkF m pc L (.long x :: S))) := by
  obtain ⟨locs, X, eT, N, hn0, hx, hZ, hown, hby, hml, hrt, hlk⟩ := Y
  subst hp hr
  exact q.of1 fun t q => XS.l2i X.here hx rfl (hb hby hd) rfl q
theorem Gl.iconst (Y : Sd Z own bs mx ret n0 p l e R s m args below meth c T h k n) {i : Int} {v : Int32} (hv : Int32.ofInt i = v) (hd : decode bs pc = .ok (.iconst i, 1)) (hp : pc + 1 = pc') (q : Gl p e below P (T.setTop (mkF m pc' L (.int v :: S)))) : Gl p e below P (T.setTop (mkF m pc L S)) := by
  obtain ⟨locs, X, eT, N, hn0, hx, hZ, hown, hby, hml, hrt, hlk⟩ := Y
  subst hp
  exact q.of1 fun t q => XS.iconst X.here hx rfl (hb hby hd) (by rw [hv]; exact q)
theorem Gl.bipush (Y : Sd Z own bs mx ret n0 p l e R s m args below meth c T h k n) {i : Int} {v : Int32} (hv : (Int8.ofInt i).toInt32 = v) (hd : decode bs pc = .ok (.bipush i, 2)) (hp : pc + 2 = pc') (q : Gl p e below P (T.setTop (mkF m pc' L (.int v :: S)))) : Gl p e below P (T.setTop (mkF m pc L S)) := by
  obtain ⟨locs, X, eT, N, hn0, hx, hZ, hown, hby, hml, hrt, hlk⟩ := Y
  subst hp
  exact q.of1 fun t q => XS.bipush X.here hx rfl (hb hby hd) (by rw [hv]; exact q)
theorem Gl.sipush (Y : Sd Z own bs mx ret n0 p l e R s m args below meth c T h k n) {i : Int} {v : Int32} (hv : (Int16.ofInt i).toInt32 = v) (hd : decode bs pc = .ok (.sipush i, 3)) (hp : pc + 3 = pc') (q : Gl p e below P (T.setTop (mkF m pc' L (.int v :: S)))) : Gl p e below P (T.setTop (mkF m pc L S)) := by
  obtain ⟨locs, X, eT, N, hn0, hx, hZ, hown, hby, hml, hrt, hlk⟩ := Y
  subst hp
  exact q.of1 fun t q => XS.sipush X.here hx rfl (hb hby hd) (by rw [hv]; exact q)
theorem Gl.lconst (Y : Sd Z own bs mx ret n0 p l e R s m args below meth c T h k n) {i : Fin 2} {v : Int64} (hv : Int64.ofNat i = v) (hd : decode bs pc = .ok (.lconst i, 1)) (hp : pc + 1 = pc') (q : Gl p e below P (T.setTop (mkF m pc' L (.long v :: S)))) : Gl p e below P (T.setTop (mkF m pc L S)) := by
  obtain ⟨locs, X, eT, N, hn0, hx, hZ, hown, hby, hml, hrt, hlk⟩ := Y
  subst hp
  exact q.of1 fun t q => XS.lconst X.here hx rfl (hb hby hd) (by rw [hv]; exact q)
theorem Gl.aconstNull (Y : Sd Z own bs mx ret n0 p l e R s m args below meth c T h k n)  (hd : decode bs pc = .ok (.aconst_null, 1)) (hp : pc + 1 = pc') (q : Gl p e below P (T.setTop (mkF m pc' L (.null :: S)))) : Gl p e below P (T.setTop (mkF m pc L S)) := by
  obtain ⟨locs, X, eT, N, hn0, hx, hZ, hown, hby, hml, hrt, hlk⟩ := Y
  subst hp
  exact q.of1 fun t q => XS.aconstNull X.here hx rfl (hb hby hd) q
theorem Gl.ldcI (Y : Sd Z own bs mx ret n0 p l e R s m args below meth c T h k n) {i : Nat} {v : Int32} (w : (Jvm.Cond.constant own i v).before a0 Z = true) (hd : decode bs pc = .ok (.ldc i, 2)) (hp : pc + 2 = pc') (q : Gl p e below P (T.setTop (mkF m pc' L (.int v :: S)))) : Gl p e below P (T.setTop (mkF m pc L S)) := by
  obtain ⟨locs, X, eT, N, hn0, hx, hZ, hown, hby, hml, hrt, hlk⟩ := Y
  subst hp
  exact q.of1 fun t q => X.ldcInt hx hown (mvT hZ w) (g := mkF m pc L S) rfl (hb hby hd) t q
theorem Gl.ldcWI (Y : Sd Z own bs mx ret n0 p l e R s m args below meth c T h k n) {i : Nat} {v : Int32} (w : (Jvm.Cond.constant own i v).before a0 Z = true) (hd : decode bs pc = .ok (.ldc_w i, 3)) (hp : pc + 3 = pc') (q : Gl p e below P (T.setTop (mkF m pc' L (.int v :: S)))) : Gl p e below P (T.setTop (mkF m pc L S)) := by
  obtain ⟨locs, X, eT, N, hn0, hx, hZ, hown, hby, hml, hrt, hlk⟩ := Y
  subst hp
  exact q.of1 fun t q => X.ldcWI hx hown (mvT hZ w) (g := mkF m pc L S) rfl (hb hby hd) q
theorem Gl.ldcJ (Y : Sd Z own bs mx ret n0 p l e R s m args below meth c T h k n) {i : Nat} {v : Int64} (w : (Jvm.Cond.constantLong own i v).before a0 Z = true) (hd : decode bs pc = .ok (.ldc2_w i, 3)) (hp : pc + 3 = pc') (q : Gl p e below P (T.setTop (mkF m pc' L (.long v :: S)))) : Gl p e below P (T.setTop (mkF m pc L S)) := by
  obtain ⟨locs, X, eT, N, hn0, hx, hZ, hown, hby, hml, hrt, hlk⟩ := Y
  subst hp
  exact q.of1 fun t q => X.ldc2Long hx hown (mvT hZ w) (g := mkF m pc L S) rfl (hb hby hd) t q
theorem Gl.ldcD (Y : Sd Z own bs mx ret n0 p l e R s m args below meth c T h k n) {i : Nat} {v : UInt64} (w : (Jvm.Cond.constantDouble own i v).before a0 Z = true) (hd : decode bs pc = .ok (.ldc2_w i, 3)) (hp : pc + 3 = pc') (q : Gl p e below P (T.setTop (mkF m pc' L (.double v :: S)))) : Gl p e below P (T.setTop (mkF m pc L S)) := by
  obtain ⟨locs, X, eT, N, hn0, hx, hZ, hown, hby, hml, hrt, hlk⟩ := Y
  subst hp
  exact q.of1 fun t q => X.ldc2DoubleC hx hown (mvT hZ w) (g := mkF m pc L S) rfl (hb hby hd) t q
theorem Gl.iload (Y : Sd Z own bs mx ret n0 p l e R s m args below meth c T h k n) {i : Nat} {v : Int32} (hl : L[i]? = some (.val (.int v))) (hd : decode bs pc = .ok (.iload i, 2)) (hp : pc + 2 = pc') (q : Gl p e below P (T.setTop (mkF m pc' L (.int v :: S)))) : Gl p e below P (T.setTop (mkF m pc L S)) := by
  obtain ⟨locs, X, eT, N, hn0, hx, hZ, hown, hby, hml, hrt, hlk⟩ := Y
  subst hp
  exact q.of1 fun t q => XS.iload X.here hx rfl (hb hby hd) hl q
theorem Gl.iloadN (Y : Sd Z own bs mx ret n0 p l e R s m args below meth c T h k n) {i : Fin 4} {v : Int32} (hl : L[i.val]? = some (.val (.int v))) (hd : decode bs pc = .ok (.iload_n i, 1)) (hp : pc + 1 = pc') (q : Gl p e below P (T.setTop (mkF m pc' L (.int v :: S)))) : Gl p e below P (T.setTop (mkF m pc L S)) := by
  obtain ⟨locs, X, eT, N, hn0, hx, hZ, hown, hby, hml, hrt, hlk⟩ := Y
  subst hp
  exact q.of1 fun t q => XS.iloadN X.here hx rfl (hb hby hd) hl q
theorem Gl.lload (Y : Sd Z own bs mx ret n0 p l e R s m args below meth c T h k n) {i : Nat} {v : Int64} (hl : L[i]? = some (.val (.long v))) (hd : decode bs pc = .ok (.lload i, 2)) (hp : pc + 2 = pc') (q : Gl p e below P (T.setTop (mkF m pc' L (.long v :: S)))) : Gl p e below P (T.setTop (mkF m pc L S)) := by
  obtain ⟨locs, X, eT, N, hn0, hx, hZ, hown, hby, hml, hrt, hlk⟩ := Y
  subst hp
  exact q.of1 fun t q => XS.lload X.here hx rfl (hb hby hd) hl q
theorem Gl.lloadN (Y : Sd Z own bs mx ret n0 p l e R s m args below meth c T h k n) {i : Fin 4} {v : Int64} (hl : L[i.val]? = some (.val (.long v))) (hd : decode bs pc = .ok (.lload_n i, 1)) (hp : pc + 1 = pc') (q : Gl p e below P (T.setTop (mkF m pc' L (.long v :: S)))) : Gl p e below P (T.setTop (mkF m pc L S)) := by
  obtain ⟨locs, X, eT, N, hn0, hx, hZ, hown, hby, hml, hrt, hlk⟩ := Y
  subst hp
  exact q.of1 fun t q => XS.lloadN X.here hx rfl (hb hby hd) hl q
theorem Gl.dload (Y : Sd Z own bs mx ret n0 p l e R s m args below meth c T h k n) {i : Nat} {v : UInt64} (hl : L[i]? = some (.val (.double v))) (hd : decode bs pc = .ok (.dload i, 2)) (hp : pc + 2 = pc') (q : Gl p e below P (T.setTop (mkF m pc' L (.double v :: S)))) : Gl p e below P (T.setTop (mkF m pc L S)) := by
  obtain ⟨locs, X, eT, N, hn0, hx, hZ, hown, hby, hml, hrt, hlk⟩ := Y
  subst hp
  exact q.of1 fun t q => XS.dload X.here hx rfl (hb hby hd) hl q
theorem Gl.dloadN (Y : Sd Z own bs mx ret n0 p l e R s m args below meth c T h k n) {i : Fin 4} {v : UInt64} (hl : L[i.val]? = some (.val (.double v))) (hd : decode bs pc = .ok (.dload_n i, 1)) (hp : pc + 1 = pc') (q : Gl p e below P (T.setTop (mkF m pc' L (.double v :: S)))) : Gl p e below P (T.setTop (mkF m pc L S)) := by
  obtain ⟨locs, X, eT, N, hn0, hx, hZ, hown, hby, hml, hrt, hlk⟩ := Y
  subst hp
  exact q.of1 fun t q => XS.dloadN X.here hx rfl (hb hby hd) hl q
theorem Gl.dconst0 (Y : Sd Z own bs mx ret n0 p l e R s m args below meth c T h k n)  (hd : decode bs pc = .ok (.dconst 0, 1)) (hp : pc + 1 = pc') (q : Gl p e below P (T.setTop (mkF m pc' L (.double FP.dconst0 :: S)))) : Gl p e below P (T.setTop (mkF m pc L S)) := by
  obtain ⟨locs, X, eT, N, hn0, hx, hZ, hown, hby, hml, hrt, hlk⟩ := Y
  subst hp
  exact q.of1 fun t q => XS.dconst0 X.here hx rfl (hb hby hd) rfl q
theorem Gl.dconst1 (Y : Sd Z own bs mx ret n0 p l e R s m args below meth c T h k n)  (hd : decode bs pc = .ok (.dconst 1, 1)) (hp : pc + 1 = pc') (q : Gl p e below P (T.setTop (mkF m pc' L (.double FP.dconst1 :: S)))) : Gl p e below P (T.setTop (mkF m pc L S)) := by
  obtain ⟨locs, X, eT, N, hn0, hx, hZ, hown, hby, hml, hrt, hlk⟩ := Y
  subst hp
  exact q.of1 fun t q => XS.dconst1 X.here hx rfl (hb hby hd) rfl q
theorem Gl.aload (Y : Sd Z own bs mx ret n0 p l e R s m args below meth c T h k n) {i : Nat} {v : Value} (hl : L[i]? = some (.val v)) (hv : v.isRef = true) (hd : decode bs pc = .ok (.aload i, 2)) (hp : pc + 2 = pc') (q : Gl p e below P (T.setTop (mkF m pc' L (v :: S)))) : Gl p e below P (T.setTop (mkF m pc L S)) := by
  obtain ⟨locs, X, eT, N, hn0, hx, hZ, hown, hby, hml, hrt, hlk⟩ := Y
  subst hp
  exact q.of1 fun t q => XS.aload X.here hx rfl (hb hby hd) hl hv q
theorem Gl.aloadN (Y : Sd Z own bs mx ret n0 p l e R s m args below meth c T h k n) {i : Fin 4} {v : Value} (hl : L[i.val]? = some (.val v)) (hv : v.isRef = true) (hd : decode bs pc = .ok (.aload_n i, 1)) (hp : pc + 1 = pc') (q : Gl p e below P (T.setTop (mkF m pc' L (v :: S)))) : Gl p e below P (T.setTop (mkF m pc L S)) := by
  obtain ⟨locs, X, eT, N, hn0, hx, hZ, hown, hby, hml, hrt, hlk⟩ := Y
  subst hp
  exact q.of1 fun t q => XS.aloadN X.here hx rfl (hb hby hd) hl hv q
theorem Gl.istore (Y : Sd Z own bs mx ret n0 p l e R s m args below meth c T h k n) {i : Nat} {v : Int32} {L' : Array Slot} (hl : storeLocals L i (.int v) = some L') (hd : decode bs pc = .ok (.istore i, 2)) (hp : pc + 2 = pc') (q : Gl p e below P (T.setTop (mkF m pc' L' S))) : Gl p e below P (T.setTop (mkF m pc L (.int v :: S))) := by
  obtain ⟨locs, X, eT, N, hn0, hx, hZ, hown, hby, hml, hrt, hlk⟩ := Y
  subst hp
  exact q.of1 fun t q => XS.istore X.here hx rfl (hb hby hd) rfl hl q
theorem Gl.istoreN (Y : Sd Z own bs mx ret n0 p l e R s m args below meth c T h k n) {i : Fin 4} {v : Int32} {L' : Array Slot} (hl : storeLocals L i.val (.int v) = some L') (hd : decode bs pc = .ok (.istore_n i, 1)) (hp : pc + 1 = pc') (q : Gl p e below P (T.setTop (mkF m pc' L' S))) : Gl p e below P (T.setTop (mkF m pc L (.int v :: S))) := by
  obtain ⟨locs, X, eT, N, hn0, hx, hZ, hown, hby, hml, hrt, hlk⟩ := Y
  subst hp
  exact q.of1 fun t q => XS.istoreN X.here hx rfl (hb hby hd) rfl hl q
theorem Gl.lstore (Y : Sd Z own bs mx ret n0 p l e R s m args below meth c T h k n) {i : Nat} {v : Int64} {L' : Array Slot} (hl : storeLocals L i (.long v) = some L') (hd : decode bs pc = .ok (.lstore i, 2)) (hp : pc + 2 = pc') (q : Gl p e below P (T.setTop (mkF m pc' L' S))) : Gl p e below P (T.setTop (mkF m pc L (.long v :: S))) := by
  obtain ⟨locs, X, eT, N, hn0, hx, hZ, hown, hby, hml, hrt, hlk⟩ := Y
  subst hp
  exact q.of1 fun t q => XS.lstore X.here hx rfl (hb hby hd) rfl hl q
theorem Gl.lstoreN (Y : Sd Z own bs mx ret n0 p l e R s m args below meth c T h k n) {i : Fin 4} {v : Int64} {L' : Array Slot} (hl : storeLocals L i.val (.long v) = some L') (hd : decode bs pc = .ok (.lstore_n i, 1)) (hp : pc + 1 = pc') (q : Gl p e below P (T.setTop (mkF m pc' L' S))) : Gl p e below P (T.setTop (mkF m pc L (.long v :: S))) := by
  obtain ⟨locs, X, eT, N, hn0, hx, hZ, hown, hby, hml, hrt, hlk⟩ := Y
  subst hp
  exact q.of1 fun t q => XS.lstoreN X.here hx rfl (hb hby hd) rfl hl q
theorem Gl.astore (Y : Sd Z own bs mx ret n0 p l e R s m args below meth c T h k n) {i : Nat} {v : Value} (hv : v.isRef = true) {L' : Array Slot} (hl : storeLocals L i (v) = some L') (hd : decode bs pc = .ok (.astore i, 2)) (hp : pc + 2 = pc') (q : Gl p e below P (T.setTop (mkF m pc' L' S))) : Gl p e below P (T.setTop (mkF m pc L (v :: S))) := by
  obtain ⟨locs, X, eT, N, hn0, hx, hZ, hown, hby, hml, hrt, hlk⟩ := Y
  subst hp
  exact q.of1 fun t q => XS.astore X.here hx rfl (hb hby hd) rfl hv hl q
theorem Gl.astoreN (Y : Sd Z own bs mx ret n0 p l e R s m args below meth c T h k n) {i : Fin 4} {v : Value} (hv : v.isRef = true) {L' : Array Slot} (hl : storeLocals L i.val (v) = some L') (hd : decode bs pc = .ok (.astore_n i, 1)) (hp : pc + 1 = pc') (q : Gl p e below P (T.setTop (mkF m pc' L' S))) : Gl p e below P (T.setTop (mkF m pc L (v :: S))) := by
  obtain ⟨locs, X, eT, N, hn0, hx, hZ, hown, hby, hml, hrt, hlk⟩ := Y
  subst hp
  exact q.of1 fun t q => XS.astoreN X.here hx rfl (hb hby hd) rfl hv hl q
theorem Gl.iinc (Y : Sd Z own bs mx ret n0 p l e R s m args below meth c T h k n) {i : Nat} {cst : Int} {x r : Int32} {L' : Array Slot} (hl : L[i]? = some (.val (.int x))) (hr : x + Int32.ofInt cst = r) (hl' : storeLocals L i (.int r) = some L') (hd : decode bs pc = .ok (.iinc i cst, 3)) (hp : pc + 3 = pc') (q : Gl p e below P (T.setTop (mkF m pc' L' S))) : Gl p e below P (T.setTop (mkF m pc L S)) := by
  obtain ⟨locs, X, eT, N, hn0, hx, hZ, hown, hby, hml, hrt, hlk⟩ := Y
  subst hp
  exact q.of1 fun t q => XS.iinc X.here hx rfl (hb hby hd) hl (by rw [hr]; exact hl') q
theorem Gl.dup (Y : Sd Z own bs mx ret n0 p l e R s m args below meth c T h k n) {x : Value} (hc : x.category = 1) (hd : decode bs pc = .ok (.dup, 1)) (hp : pc + 1 = pc') (q : Gl p e below P (T.setTop (mkF m pc' L (x :: x :: S)))) : Gl p e below P (T.setTop (mkF m pc L (x :: S))) := by
  obtain ⟨locs, X, eT, N, hn0, hx, hZ, hown, hby, hml, hrt, hlk⟩ := Y
  subst hp
  exact q.of1 fun t q => XS.dup X.here hx rfl (hb hby hd) rfl hc q
theorem Gl.pop (Y : Sd Z own bs mx ret n0 p l e R s m args below meth c T h k n) {x : Value} (hc : x.category = 1) (hd : decode bs pc = .ok (.pop, 1)) (hp : pc + 1 = pc') (q : Gl p e below P (T.setTop (mkF m pc' L S))) : Gl p e below P (T.setTop (mkF m pc L (x :: S))) := by
  obtain ⟨locs, X, eT, N, hn0, hx, hZ, hown, hby, hml, hrt, hlk⟩ := Y
  subst hp
  exact q.of1 fun t q => XS.pop X.here hx rfl (hb hby hd) rfl hc q
theorem Gl.dupX1 (Y : Sd Z own bs mx ret n0 p l e R s m args below meth c T h k n) {x y : Value} (hc : x.category = 1) (hc' : y.category = 1) (hd : decode bs pc = .ok (.dup_x1, 1)) (hp : pc + 1 = pc') (q : Gl p e below P (T.setTop (mkF m pc' L (x :: y :: x :: S)))) : Gl p e below P (T.setTop (mkF m pc L (x :: y :: S))) := by
  obtain ⟨locs, X, eT, N, hn0, hx, hZ, hown, hby, hml, hrt, hlk⟩ := Y
  subst hp
  exact q.of1 fun t q => XS.dupX1 X.here hx rfl (hb hby hd) rfl hc hc' q
theorem Gl.lcmp (Y : Sd Z own bs mx ret n0 p l e R s m args below meth c T h k n) {x y : Int64} {r : Int32} (hr : lcmpW x y = r) (hd : decode bs pc = .ok (.lcmp, 1)) (hp : pc + 1 = pc') (q : Gl p e below P (T.setTop (mkF m pc' L (.int r :: S)))) : Gl p e below P (T.setTop (mkF m pc L (.long y :: .long x :: S))) := by
  obtain ⟨locs, X, eT, N, hn0, hx, hZ, hown, hby, hml, hrt, hlk⟩ := Y
  subst hp hr
  exact q.of1 fun t q => XS.lcmp X.here hx rfl (hb hby hd) rfl q
theorem Gl.arraylength (Y : Sd Z own bs mx ret n0 p l e R s m args below meth c T h k n) {a : Addr} {ck : ClassId} {ty : FieldType} {z : Int32} {vs : List Value} {d : Value} (F : Arv Z h a ck ty z vs d) (hd : decode bs pc = .ok (.arraylength, 1)) (hp : pc + 1 = pc') (q : Gl p e below P (T.setTop (mkF m pc' L (.int z :: S)))) : Gl p e below P (T.setTop (mkF m pc L (.ref a :: S))) := by
  obtain ⟨locs, X, eT, N, hn0, hx, hZ, hown, hby, hml, hrt, hlk⟩ := Y
  subst hp
  exact q.of1 fun t q => by
    obtain ⟨cl, A, -, S1, N1, -⟩ := F
    exact X.arraylength hx (by rw [eT]; exact A.1) (State.isArrayOf_alike hZ.alike A.2.1) (g := mkF m pc L (.ref a :: S)) rfl rfl (hb hby hd) t (by rw [len_of S1 N1]; exact q)
theorem Gl.iaload (Y : Sd Z own bs mx ret n0 p l e R s m args below meth c T h k n) {a : Addr} {ck : ClassId} {z j : Int32} {vs : List Value} {d v : Value} (F : Arv Z h a ck .int z vs d) (hj : ¬ j < 0 ∧ j < z) (hv : vs.getD j.toNatClampNeg d = v) (hd : decode bs pc = .ok (.iaload, 1)) (hp : pc + 1 = pc') (q : Gl p e below P (T.setTop (mkF m pc' L (v :: S)))) : Gl p e below P (T.setTop (mkF m pc L (.int j :: .ref a :: S))) := by
  obtain ⟨locs, X, eT, N, hn0, hx, hZ, hown, hby, hml, hrt, hlk⟩ := Y
  subst hp
  exact q.of1 fun t q => by
    obtain ⟨cl, A, -, S1, N1, H, -⟩ := F
    exact X.iaload hx (by rw [eT]; exact A.1) (State.isArrayOf_alike hZ.alike A.2.1) A.2.2 (inb_of S1 hj) (H.at (inb_of S1 hj) hv) (g := mkF m pc L (.int j :: .ref a :: S)) rfl rfl (hb hby hd) t q
theorem Gl.laload (Y : Sd Z own bs mx ret n0 p l e R s m args below meth c T h k n) {a : Addr} {ck : ClassId} {z j : Int32} {vs : List Value} {d v : Value} (F : Arv Z h a ck .long z vs d) (hj : ¬ j < 0 ∧ j < z) (hv : vs.getD j.toNatClampNeg d = v) (hd : decode bs pc = .ok (.laload, 1)) (hp : pc + 1 = pc') (q : Gl p e below P (T.setTop (mkF m pc' L (v :: S)))) : Gl p e below P (T.setTop (mkF m pc L (.int j :: .ref a :: S))) := by
  obtain ⟨locs, X, eT, N, hn0, hx, hZ, hown, hby, hml, hrt, hlk⟩ := Y
  subst hp
  exact q.of1 fun t q => by
    obtain ⟨cl, A, -, S1, N1, H, -⟩ := F
    exact X.laload hx (by rw [eT]; exact A.1) (State.isArrayOf_alike hZ.alike A.2.1) A.2.2 (inb_of S1 hj) (H.at (inb_of S1 hj) hv) (g := mkF m pc L (.int j :: .ref a :: S)) rfl rfl (hb hby hd) t q
theorem Gl.caload (Y : Sd Z own bs mx ret n0 p l e R s m args below meth c T h k n) {a : Addr} {ck : ClassId} {z j : Int32} {vs : List Value} {d v : Value} (F : Arv Z h a ck .char z vs d) (hj : ¬ j < 0 ∧ j < z) (hv : vs.getD j.toNatClampNeg d = v) (hd : decode bs pc = .ok (.caload, 1)) (hp : pc + 1 = pc') (q : Gl p e below P (T.setTop (mkF m pc' L (v :: S)))) : Gl p e below P (T.setTop (mkF m pc L (.int j :: .ref a :: S))) := by
  obtain ⟨locs, X, eT, N, hn0, hx, hZ, hown, hby, hml, hrt, hlk⟩ := Y
  subst hp
  exact q.of1 fun t q => by
    obtain ⟨cl, A, -, S1, N1, H, -⟩ := F
    exact X.caload hx (by rw [eT]; exact A.1) (State.isArrayOf_alike hZ.alike A.2.1) A.2.2 (inb_of S1 hj) (H.at (inb_of S1 hj) hv) (g := mkF m pc L (.int j :: .ref a :: S)) rfl rfl (hb hby hd) t q
theorem Gl.saload (Y : Sd Z own bs mx ret n0 p l e R s m args below meth c T h k n) {a : Addr} {ck : ClassId} {z j : Int32} {vs : List Value} {d v : Value} (F : Arv Z h a ck .short z vs d) (hj : ¬ j < 0 ∧ j < z) (hv : vs.getD j.toNatClampNeg d = v) (hd : decode bs pc = .ok (.saload, 1)) (hp : pc + 1 = pc') (q : Gl p e below P (T.setTop (mkF m pc' L (v :: S)))) : Gl p e below P (T.setTop (mkF m pc L (.int j :: .ref a :: S))) := by
  obtain ⟨locs, X, eT, N, hn0, hx, hZ, hown, hby, hml, hrt, hlk⟩ := Y
  subst hp
  exact q.of1 fun t q => by
    obtain ⟨cl, A, -, S1, N1, H, -⟩ := F
    exact X.saload hx (by rw [eT]; exact A.1) (State.isArrayOf_alike hZ.alike A.2.1) A.2.2 (inb_of S1 hj) (H.at (inb_of S1 hj) hv) (g := mkF m pc L (.int j :: .ref a :: S)) rfl rfl (hb hby hd) t q
theorem Gl.baload (Y : Sd Z own bs mx ret n0 p l e R s m args below meth c T h k n) {a : Addr} {ck : ClassId} {z j : Int32} {vs : List Value} {d v : Value} (F : Arv Z h a ck .byte z vs d) (hj : ¬ j < 0 ∧ j < z) (hv : vs.getD j.toNatClampNeg d = v) (hd : decode bs pc = .ok (.baload, 1)) (hp : pc + 1 = pc') (q : Gl p e below P (T.setTop (mkF m pc' L (v :: S)))) : Gl p e below P (T.setTop (mkF m pc L (.int j :: .ref a :: S))) := by
  obtain ⟨locs, X, eT, N, hn0, hx, hZ, hown, hby, hml, hrt, hlk⟩ := Y
  subst hp
  exact q.of1 fun t q => by
    obtain ⟨cl, A, -, S1, N1, H, -⟩ := F
    exact X.baloadBytes hx (by rw [eT]; exact A.1) (State.isArrayOf_alike hZ.alike A.2.1) A.2.2 (inb_of S1 hj) (H.at (inb_of S1 hj) hv) (g := mkF m pc L (.int j :: .ref a :: S)) rfl rfl (hb hby hd) t q
theorem Gl.goto (Y : Sd Z own bs mx ret n0 p l e R s m args below meth c T h k n) {o : Int} (hd : decode bs pc = .ok (.goto o, 3)) (ho : 0 ≤ (pc : Int) + o) (hp : ((pc : Int) + o).toNat = pc') (q : Gl p e below P (T.setTop (mkF m pc' L S))) : Gl p e below P (T.setTop (mkF m pc L S)) := by
  obtain ⟨locs, X, eT, N, hn0, hx, hZ, hown, hby, hml, hrt, hlk⟩ := Y
  exact q.of1 fun t q => XS.goto X.here hx rfl rfl (hb hby hd) ho hp q
theorem Gl.ifeq (Y : Sd Z own bs mx ret n0 p l e R s m args below meth c T h k n) {x : Int32} {o : Int} (hd : decode bs pc = .ok (.ifCond .eq o, 3)) (ho : 0 ≤ (pc : Int) + o) (ht : ((pc : Int) + o).toNat = pcT) (hf : pc + 3 = pcF) (q1 : x = 0 → Gl p e below P (T.setTop (mkF m pcT L S))) (q2 : ¬ x = 0 → Gl p e below P (T.setTop (mkF m pcF L S))) : Gl p e below P (T.setTop (mkF m pc L (.int x :: S))) := by
  obtain ⟨locs, X, eT, N, hn0, hx, hZ, hown, hby, hml, hrt, hlk⟩ := Y
  by_cases hq : x = 0
  · exact (q1 hq).of1 fun t q => XS.ifYes X.here hx rfl rfl (hb hby hd) rfl (Jvm.Free.XT.i0_eq_t hq) ho ht q
  · subst hf
    exact (q2 (by first | exact hq | exact Decidable.not_not.mp hq)).of1 fun t q => XS.ifNo X.here hx rfl (hb hby hd) rfl (Jvm.Free.XT.i0_eq_f (by first | exact hq | exact Decidable.not_not.mp hq)) q
theorem Gl.icmpeq (Y : Sd Z own bs mx ret n0 p l e R s m args below meth c T h k n) {x y : Int32} {o : Int} (hd : decode bs pc = .ok (.if_icmp .eq o, 3)) (ho : 0 ≤ (pc : Int) + o) (ht : ((pc : Int) + o).toNat = pcT) (hf : pc + 3 = pcF) (q1 : x = y → Gl p e below P (T.setTop (mkF m pcT L S))) (q2 : ¬ x = y → Gl p e below P (T.setTop (mkF m pcF L S))) : Gl p e below P (T.setTop (mkF m pc L (.int y :: .int x :: S))) := by
  obtain ⟨locs, X, eT, N, hn0, hx, hZ, hown, hby, hml, hrt, hlk⟩ := Y
  by_cases hq : x = y
  · exact (q1 hq).of1 fun t q => XS.icmpYes X.here hx rfl rfl (hb hby hd) rfl (Jvm.Free.XT.ii_eq_t hq) ho ht q
  · subst hf
    exact (q2 (by first | exact hq | exact Decidable.not_not.mp hq)).of1 fun t q => XS.icmpNo X.here hx rfl (hb hby hd) rfl (Jvm.Free.XT.ii_eq_f (by first | exact hq | exact Decidable.not_not.mp hq)) q
theorem Gl.lcmpeq (Y : Sd Z own bs mx ret n0 p l e R s m args below meth c T h k n) {x y : Int64} {pc1 : Nat} {o : Int} (hd0 : decode bs pc = .ok (.lcmp, 1)) (hp1 : pc + 1 = pc1) (hd : decode bs pc1 = .ok (.ifCond .eq o, 3)) (ho : 0 ≤ (pc1 : Int) + o) (ht : ((pc1 : Int) + o).toNat = pcT) (hf : pc1 + 3 = pcF) (q1 : x = y → Gl p e below P (T.setTop (mkF m pcT L S))) (q2 : ¬ x = y → Gl p e below P (T.setTop (mkF m pcF L S))) : Gl p e below P (T.setTop (mkF m pc L (.long y :: .long x :: S))) := by
  refine Gl.lcmp Y rfl hd0 hp1 ?_
  obtain ⟨locs, X, eT, N, hn0, hx, hZ, hown, hby, hml, hrt, hlk⟩ := Y
  by_cases hq : x = y
  · exact (q1 hq).of1 fun t q => XS.ifYes X.here hx rfl rfl (hb hby hd) rfl (Jvm.Free.XT.ll_eq_t hq) ho ht q
  · subst hf
    exact (q2 (by first | exact hq | exact Decidable.not_not.mp hq)).of1 fun t q => XS.ifNo X.here hx rfl (hb hby hd) rfl (Jvm.Free.XT.ll_eq_f (by first | exact hq | exact Decidable.not_not.mp hq)) q
theorem Gl.ifne (Y : Sd Z own bs mx ret n0 p l e R s m args below meth c T h k n) {x : Int32} {o : Int} (hd : decode bs pc = .ok (.ifCond .ne o, 3)) (ho : 0 ≤ (pc : Int) + o) (ht : ((pc : Int) + o).toNat = pcT) (hf : pc + 3 = pcF) (q1 : ¬ x = 0 → Gl p e below P (T.setTop (mkF m pcT L S))) (q2 : x = 0 → Gl p e below P (T.setTop (mkF m pcF L S))) : Gl p e below P (T.setTop (mkF m pc L (.int x :: S))) := by
  obtain ⟨locs, X, eT, N, hn0, hx, hZ, hown, hby, hml, hrt, hlk⟩ := Y
  by_cases hq : ¬ x = 0
  · exact (q1 hq).of1 fun t q => XS.ifYes X.here hx rfl rfl (hb hby hd) rfl (Jvm.Free.XT.i0_ne_t hq) ho ht q
  · subst hf
    exact (q2 (by first | exact hq | exact Decidable.not_not.mp hq)).of1 fun t q => XS.ifNo X.here hx rfl (hb hby hd) rfl (Jvm.Free.XT.i0_ne_f (by first | exact hq | exact Decidable.not_not.mp hq)) q
theorem Gl.icmpne (Y : Sd Z own bs mx ret n0 p l e R s m args below meth c T h k n) {x y : Int32} {o : Int} (hd : decode bs pc = .ok (.if_icmp .ne o, 3)) (ho : 0 ≤ (pc : Int) + o) (ht : ((pc : Int) + o).toNat = pcT) (hf : pc + 3 = pcF) (q1 : ¬ x = y → Gl p e below P (T.setTop (mkF m pcT L S))) (q2 : x = y → Gl p e below P (T.setTop (mkF m pcF L S))) : Gl p e below P (T.setTop (mkF m pc L (.int y :: .int x :: S))) := by
  obtain ⟨locs, X, eT, N, hn0, hx, hZ, hown, hby, hml, hrt, hlk⟩ := Y
  by_cases hq : ¬ x = y
  · exact (q1 hq).of1 fun t q => XS.icmpYes X.here hx rfl rfl (hb hby hd) rfl (Jvm.Free.XT.ii_ne_t hq) ho ht q
  · subst hf
    exact (q2 (by first | exact hq | exact Decidable.not_not.mp hq)).of1 fun t q => XS.icmpNo X.here hx rfl (hb hby hd) rfl (Jvm.Free.XT.ii_ne_f (by first | exact hq | exact Decidable.not_not.mp hq)) q
theorem Gl.lcmpne (Y : Sd Z own bs mx ret n0 p l e R s m args below meth c T h k n) {x y : Int64} {pc1 : Nat} {o : Int} (hd0 : decode bs pc = .ok (.lcmp, 1)) (hp1 : pc + 1 = pc1) (hd : decode bs pc1 = .ok (.ifCond .ne o, 3)) (ho : 0 ≤ (pc1 : Int) + o) (ht : ((pc1 : Int) + o).toNat = pcT) (hf : pc1 + 3 = pcF) (q1 : ¬ x = y → Gl p e below P (T.setTop (mkF m pcT L S))) (q2 : x = y → Gl p e below P (T.setTop (mkF m pcF L S))) : Gl p e below P (T.setTop (mkF m pc L (.long y :: .long x :: S))) := by
  refine Gl.lcmp Y rfl hd0 hp1 ?_
  obtain ⟨locs, X, eT, N, hn0, hx, hZ, hown, hby, hml, hrt, hlk⟩ := Y
  by_cases hq : ¬ x = y
  · exact (q1 hq).of1 fun t q => XS.ifYes X.here hx rfl rfl (hb hby hd) rfl (Jvm.Free.XT.ll_ne_t hq) ho ht q
  · subst hf
    exact (q2 (by first | exact hq | exact Decidable.not_not.mp hq)).of1 fun t q => XS.ifNo X.here hx rfl (hb hby hd) rfl (Jvm.Free.XT.ll_ne_f (by first | exact hq | exact Decidable.not_not.mp hq)) q
theorem Gl.iflt (Y : Sd Z own bs mx ret n0 p l e R s m args below meth c T h k n) {x : Int32} {o : Int} (hd : decode bs pc = .ok (.ifCond .lt o, 3)) (ho : 0 ≤ (pc : Int) + o) (ht : ((pc : Int) + o).toNat = pcT) (hf : pc + 3 = pcF) (q1 : x < 0 → Gl p e below P (T.setTop (mkF m pcT L S))) (q2 : ¬ x < 0 → Gl p e below P (T.setTop (mkF m pcF L S))) : Gl p e below P (T.setTop (mkF m pc L (.int x :: S))) := by
  obtain ⟨locs, X, eT, N, hn0, hx, hZ, hown, hby, hml, hrt, hlk⟩ := Y
  by_cases hq : x < 0
  · exact (q1 hq).of1 fun t q => XS.ifYes X.here hx rfl rfl (hb hby hd) rfl (Jvm.Free.XT.i0_lt_t hq) ho ht q
  · subst hf
    exact (q2 (by first | exact hq | exact Decidable.not_not.mp hq)).of1 fun t q => XS.ifNo X.here hx rfl (hb hby hd) rfl (Jvm.Free.XT.i0_lt_f (by first | exact hq | exact Decidable.not_not.mp hq)) q
theorem Gl.icmplt (Y : Sd Z own bs mx ret n0 p l e R s m args below meth c T h k n) {x y : Int32} {o : Int} (hd : decode bs pc = .ok (.if_icmp .lt o, 3)) (ho : 0 ≤ (pc : Int) + o) (ht : ((pc : Int) + o).toNat = pcT) (hf : pc + 3 = pcF) (q1 : x < y → Gl p e below P (T.setTop (mkF m pcT L S))) (q2 : ¬ x < y → Gl p e below P (T.setTop (mkF m pcF L S))) : Gl p e below P (T.setTop (mkF m pc L (.int y :: .int x :: S))) := by
  obtain ⟨locs, X, eT, N, hn0, hx, hZ, hown, hby, hml, hrt, hlk⟩ := Y
  by_cases hq : x < y
  · exact (q1 hq).of1 fun t q => XS.icmpYes X.here hx rfl rfl (hb hby hd) rfl (Jvm.Free.XT.ii_lt_t hq) ho ht q
  · subst hf
    exact (q2 (by first | exact hq | exact Decidable.not_not.mp hq)).of1 fun t q => XS.icmpNo X.here hx rfl (hb hby hd) rfl (Jvm.Free.XT.ii_lt_f (by first | exact hq | exact Decidable.not_not.mp hq)) q
theorem Gl.lcmplt (Y : Sd Z own bs mx ret n0 p l e R s m args below meth c T h k n) {x y : Int64} {pc1 : Nat} {o : Int} (hd0 : decode bs pc = .ok (.lcmp, 1)) (hp1 : pc + 1 = pc1) (hd : decode bs pc1 = .ok (.ifCond .lt o, 3)) (ho : 0 ≤ (pc1 : Int) + o) (ht : ((pc1 : Int) + o).toNat = pcT) (hf : pc1 + 3 = pcF) (q1 : x < y → Gl p e below P (T.setTop (mkF m pcT L S))) (q2 : ¬ x < y → Gl p e below P (T.setTop (mkF m pcF L S))) : Gl p e below P (T.setTop (mkF m pc L (.long y :: .long x :: S))) := by
  refine Gl.lcmp Y rfl hd0 hp1 ?_
  obtain ⟨locs, X, eT, N, hn0, hx, hZ, hown, hby, hml, hrt, hlk⟩ := Y
  by_cases hq : x < y
  · exact (q1 hq).of1 fun t q => XS.ifYes X.here hx rfl rfl (hb hby hd) rfl (Jvm.Free.XT.ll_lt_t hq) ho ht q
  · subst hf
    exact (q2 (by first | exact hq | exact Decidable.not_not.mp hq)).of1 fun t q => XS.ifNo X.here hx rfl (hb hby hd) rfl (Jvm.Free.XT.ll_lt_f (by first | exact hq | exact Decidable.not_not.mp hq)) q
theorem Gl.ifge (Y : Sd Z own bs mx ret n0 p l e R s m args below meth c T h k n) {x : Int32} {o : Int} (hd : decode bs pc = .ok (.ifCond .ge o, 3)) (ho : 0 ≤ (pc : Int) + o) (ht : ((pc : Int) + o).toNat = pcT) (hf : pc + 3 = pcF) (q1 : ¬ x < 0 → Gl p e below P (T.setTop (mkF m pcT L S))) (q2 : x < 0 → Gl p e below P (T.setTop (mkF m pcF L S))) : Gl p e below P (T.setTop (mkF m pc L (.int x :: S))) := by
  obtain ⟨locs, X, eT, N, hn0, hx, hZ, hown, hby, hml, hrt, hlk⟩ := Y
  by_cases hq : ¬ x < 0
  · exact (q1 hq).of1 fun t q => XS.ifYes X.here hx rfl rfl (hb hby hd) rfl (Jvm.Free.XT.i0_ge_t hq) ho ht q
  · subst hf
    exact (q2 (by first | exact hq | exact Decidable.not_not.mp hq)).of1 fun t q => XS.ifNo X.here hx rfl (hb hby hd) rfl (Jvm.Free.XT.i0_ge_f (by first | exact hq | exact Decidable.not_not.mp hq)) q
theorem Gl.icmpge (Y : Sd Z own bs mx ret n0 p l e R s m args below meth c T h k n) {x y : Int32} {o : Int} (hd : decode bs pc = .ok (.if_icmp .ge o, 3)) (ho : 0 ≤ (pc : Int) + o) (ht : ((pc : Int) + o).toNat = pcT) (hf : pc + 3 = pcF) (q1 : ¬ x < y → Gl p e below P (T.setTop (mkF m pcT L S))) (q2 : x < y → Gl p e below P (T.setTop (mkF m pcF L S))) : Gl p e below P (T.setTop (mkF m pc L (.int y :: .int x :: S))) := by
  obtain ⟨locs, X, eT, N, hn0, hx, hZ, hown, hby, hml, hrt, hlk⟩ := Y
  by_cases hq : ¬ x < y
  · exact (q1 hq).of1 fun t q => XS.icmpYes X.here hx rfl rfl (hb hby hd) rfl (Jvm.Free.XT.ii_ge_t hq) ho ht q
  · subst hf
    exact (q2 (by first | exact hq | exact Decidable.not_not.mp hq)).of1 fun t q => XS.icmpNo X.here hx rfl (hb hby hd) rfl (Jvm.Free.XT.ii_ge_f (by first | exact hq | exact Decidable.not_not.mp hq)) q
theorem Gl.lcmpge (Y : Sd Z own bs mx ret n0 p l e R s m args below meth c T h k n) {x y : Int64} {pc1 : Nat} {o : Int} (hd0 : decode bs pc = .ok (.lcmp, 1)) (hp1 : pc + 1 = pc1) (hd : decode bs pc1 = .ok (.ifCond .ge o, 3)) (ho : 0 ≤ (pc1 : Int) + o) (ht : ((pc1 : Int) + o).toNat = pcT) (hf : pc1 + 3 = pcF) (q1 : ¬ x < y → Gl p e below P (T.setTop (mkF m pcT L S))) (q2 : x < y → Gl p e below P (T.setTop (mkF m pcF L S))) : Gl p e below P (T.setTop (mkF m pc L (.long y :: .long x :: S))) := by
  refine Gl.lcmp Y rfl hd0 hp1 ?_
  obtain ⟨locs, X, eT, N, hn0, hx, hZ, hown, hby, hml, hrt, hlk⟩ := Y
  by_cases hq : ¬ x < y
  · exact (q1 hq).of1 fun t q => XS.ifYes X.here hx rfl rfl (hb hby hd) rfl (Jvm.Free.XT.ll_ge_t hq) ho ht q
  · subst hf
    exact (q2 (by first | exact hq | exact Decidable.not_not.mp hq)).of1 fun t q => XS.ifNo X.here hx rfl (hb hby hd) rfl (Jvm.Free.XT.ll_ge_f (by first | exact hq | exact Decidable.not_not.mp hq)) q
theorem Gl.ifgt (Y : Sd Z own bs mx ret n0 p l e R s m args below meth c T h k n) {x : Int32} {o : Int} (hd : decode bs pc = .ok (.ifCond .gt o, 3)) (ho : 0 ≤ (pc : Int) + o) (ht : ((pc : Int) + o).toNat = pcT) (hf : pc + 3 = pcF) (q1 : 0 < x → Gl p e below P (T.setTop (mkF m pcT L S))) (q2 : ¬ 0 < x → Gl p e below P (T.setTop (mkF m pcF L S))) : Gl p e below P (T.setTop (mkF m pc L (.int x :: S))) := by
  obtain ⟨locs, X, eT, N, hn0, hx, hZ, hown, hby, hml, hrt, hlk⟩ := Y
  by_cases hq : 0 < x
  · exact (q1 hq).of1 fun t q => XS.ifYes X.here hx rfl rfl (hb hby hd) rfl (Jvm.Free.XT.i0_gt_t hq) ho ht q
  · subst hf
    exact (q2 (by first | exact hq | exact Decidable.not_not.mp hq)).of1 fun t q => XS.ifNo X.here hx rfl (hb hby hd) rfl (Jvm.Free.XT.i0_gt_f (by first | exact hq | exact Decidable.not_not.mp hq)) q
theorem Gl.icmpgt (Y : Sd Z own bs mx ret n0 p l e R s m args below meth c T h k n) {x y : Int32} {o : Int} (hd : decode bs pc = .ok (.if_icmp .gt o, 3)) (ho : 0 ≤ (pc : Int) + o) (ht : ((pc : Int) + o).toNat = pcT) (hf : pc + 3 = pcF) (q1 : y < x → Gl p e below P (T.setTop (mkF m pcT L S))) (q2 : ¬ y < x → Gl p e below P (T.setTop (mkF m pcF L S))) : Gl p e below P (T.setTop (mkF m pc L (.int y :: .int x :: S))) := by
  obtain ⟨locs, X, eT, N, hn0, hx, hZ, hown, hby, hml, hrt, hlk⟩ := Y
  by_cases hq : y < x
  · exact (q1 hq).of1 fun t q => XS.icmpYes X.here hx rfl rfl (hb hby hd) rfl (Jvm.Free.XT.ii_gt_t hq) ho ht q
  · subst hf
    exact (q2 (by first | exact hq | exact Decidable.not_not.mp hq)).of1 fun t q => XS.icmpNo X.here hx rfl (hb hby hd) rfl (Jvm.Free.XT.ii_gt_f (by first | exact hq | exact Decidable.not_not.mp hq)) q
theorem Gl.lcmpgt (Y : Sd Z own bs mx ret n0 p l e R s m args below meth c T h k n) {x y : Int64} {pc1 : Nat} {o : Int} (hd0 : decode bs pc = .ok (.lcmp, 1)) (hp1 : pc + 1 = pc1) (hd : decode bs pc1 = .ok (.ifCond .gt o, 3)) (ho : 0 ≤ (pc1 : Int) + o) (ht : ((pc1 : Int) + o).toNat = pcT) (hf : pc1 + 3 = pcF) (q1 : y < x → Gl p e below P (T.setTop (mkF m pcT L S))) (q2 : ¬ y < x → Gl p e below P (T.setTop (mkF m pcF L S))) : Gl p e below P (T.setTop (mkF m pc L (.long y :: .long x :: S))) := by
  refine Gl.lcmp Y rfl hd0 hp1 ?_
  obtain ⟨locs, X, eT, N, hn0, hx, hZ, hown, hby, hml, hrt, hlk⟩ := Y
  by_cases hq : y < x
  · exact (q1 hq).of1 fun t q => XS.ifYes X.here hx rfl rfl (hb hby hd) rfl (Jvm.Free.XT.ll_gt_t hq) ho ht q
  · subst hf
    exact (q2 (by first | exact hq | exact Decidable.not_not.mp hq)).of1 fun t q => XS.ifNo X.here hx rfl (hb hby hd) rfl (Jvm.Free.XT.ll_gt_f (by first | exact hq | exact Decidable.not_not.mp hq)) q
theorem Gl.ifle (Y : Sd Z own bs mx ret n0 p l e R s m args below meth c T h k n) {x : Int32} {o : Int} (hd : decode bs pc = .ok (.ifCond .le o, 3)) (ho : 0 ≤ (pc : Int) + o) (ht : ((pc : Int) + o).toNat = pcT) (hf : pc + 3 = pcF) (q1 : ¬ 0 < x → Gl p e below P (T.setTop (mkF m pcT L S))) (q2 : 0 < x → Gl p e below P (T.setTop (mkF m pcF L S))) : Gl p e below P (T.setTop (mkF m pc L (.int x :: S))) := by
  obtain ⟨locs, X, eT, N, hn0, hx, hZ, hown, hby, hml, hrt, hlk⟩ := Y
  by_cases hq : ¬ 0 < x
  · exact (q1 hq).of1 fun t q => XS.ifYes X.here hx rfl rfl (hb hby hd) rfl (Jvm.Free.XT.i0_le_t hq) ho ht q
  · subst hf
    exact (q2 (by first | exact hq | exact Decidable.not_not.mp hq)).of1 fun t q => XS.ifNo X.here hx rfl (hb hby hd) rfl (Jvm.Free.XT.i0_le_f (by first | exact hq | exact Decidable.not_not.mp hq)) q
theorem Gl.icmple (Y : Sd Z own bs mx ret n0 p l e R s m args below meth c T h k n) {x y : Int32} {o : Int} (hd : decode bs pc = .ok (.if_icmp .le o, 3)) (ho : 0 ≤ (pc : Int) + o) (ht : ((pc : Int) + o).toNat = pcT) (hf : pc + 3 = pcF) (q1 : ¬ y < x → Gl p e below P (T.setTop (mkF m pcT L S))) (q2 : y < x → Gl p e below P (T.setTop (mkF m pcF L S))) : Gl p e below P (T.setTop (mkF m pc L (.int y :: .int x :: S))) := by
  obtain ⟨locs, X, eT, N, hn0, hx, hZ, hown, hby, hml, hrt, hlk⟩ := Y
  by_cases hq : ¬ y < x
  · exact (q1 hq).of1 fun t q => XS.icmpYes X.here hx rfl rfl (hb hby hd) rfl (Jvm.Free.XT.ii_le_t hq) ho ht q
  · subst hf
    exact (q2 (by first | exact hq | exact Decidable.not_not.mp hq)).of1 fun t q => XS.icmpNo X.here hx rfl (hb hby hd) rfl (Jvm.Free.XT.ii_le_f (by first | exact hq | exact Decidable.not_not.mp hq)) q
theorem Gl.lcmple (Y : Sd Z own bs mx ret n0 p l e R s m args below meth c T h k n) {x y : Int64} {pc1 : Nat} {o : Int} (hd0 : decode bs pc = .ok (.lcmp, 1)) (hp1 : pc + 1 = pc1) (hd : decode bs pc1 = .ok (.ifCond .le o, 3)) (ho : 0 ≤ (pc1 : Int) + o) (ht : ((pc1 : Int) + o).toNat = pcT) (hf : pc1 + 3 = pcF) (q1 : ¬ y < x → Gl p e below P (T.setTop (mkF m pcT L S))) (q2 : y < x → Gl p e below P (T.setTop (mkF m pcF L S))) : Gl p e below P (T.setTop (mkF m pc L (.long y :: .long x :: S))) := by
  refine Gl.lcmp Y rfl hd0 hp1 ?_
  obtain ⟨locs, X, eT, N, hn0, hx, hZ, hown, hby, hml, hrt, hlk⟩ := Y
  by_cases hq : ¬ y < x
  · exact (q1 hq).of1 fun t q => XS.ifYes X.here hx rfl rfl (hb hby hd) rfl (Jvm.Free.XT.ll_le_t hq) ho ht q
  · subst hf
    exact (q2 (by first | exact hq | exact Decidable.not_not.mp hq)).of1 fun t q => XS.ifNo X.here hx rfl (hb hby hd) rfl (Jvm.Free.XT.ll_le_f (by first | exact hq | exact Decidable.not_not.mp hq)) q
theorem Gl.ifnullY (Y : Sd Z own bs mx ret n0 p l e R s m args below meth c T h k n)  {o : Int} (hd : decode bs pc = .ok (.ifnull o, 3)) (ho : 0 ≤ (pc : Int) + o) (ht : ((pc : Int) + o).toNat = pcT) (q : Gl p e below P (T.setTop (mkF m pcT L S))) : Gl p e below P (T.setTop (mkF m pc L (.null :: S))) := by
  obtain ⟨locs, X, eT, N, hn0, hx, hZ, hown, hby, hml, hrt, hlk⟩ := Y
  exact q.of1 fun t q => XS.ifnullYes X.here hx rfl rfl (hb hby hd) rfl ho ht q
theorem Gl.ifnullN (Y : Sd Z own bs mx ret n0 p l e R s m args below meth c T h k n) {b : Addr} {o : Int} (hd : decode bs pc = .ok (.ifnull o, 3)) (hf : pc + 3 = pcF) (q : Gl p e below P (T.setTop (mkF m pcF L S))) : Gl p e below P (T.setTop (mkF m pc L (.ref b :: S))) := by
  obtain ⟨locs, X, eT, N, hn0, hx, hZ, hown, hby, hml, hrt, hlk⟩ := Y
  subst hf
  exact q.of1 fun t q => XS.ifnullNo X.here hx rfl (hb hby hd) rfl q
theorem Gl.ifnonnullY (Y : Sd Z own bs mx ret n0 p l e R s m args below meth c T h k n) {b : Addr} {o : Int} (hd : decode bs pc = .ok (.ifnonnull o, 3)) (ho : 0 ≤ (pc : Int) + o) (ht : ((pc : Int) + o).toNat = pcT) (q : Gl p e below P (T.setTop (mkF m pcT L S))) : Gl p e below P (T.setTop (mkF m pc L (.ref b :: S))) := by
  obtain ⟨locs, X, eT, N, hn0, hx, hZ, hown, hby, hml, hrt, hlk⟩ := Y
  exact q.of1 fun t q => XS.ifnonnullYes X.here hx rfl rfl (hb hby hd) rfl ho ht q
theorem Gl.ifnonnullN (Y : Sd Z own bs mx ret n0 p l e R s m args below meth c T h k n)  {o : Int} (hd : decode bs pc = .ok (.ifnonnull o, 3)) (hf : pc + 3 = pcF) (q : Gl p e below P (T.setTop (mkF m pcF L S))) : Gl p e below P (T.setTop (mkF m pc L (.null :: S))) := by
  obtain ⟨locs, X, eT, N, hn0, hx, hZ, hown, hby, hml, hrt, hlk⟩ := Y
  subst hf
  exact q.of1 fun t q => XS.ifnonnullNo X.here hx rfl (hb hby hd) rfl q
theorem Gl.acmpeq (Y : Sd Z own bs mx ret n0 p l e R s m args below meth c T h k n) {x y : Value} {o : Int} (h1 : x.isRef = true) (h2 : y.isRef = true) (hd : decode bs pc = .ok (.if_acmp .eq o, 3)) (ho : 0 ≤ (pc : Int) + o) (ht : ((pc : Int) + o).toNat = pcT) (hf : pc + 3 = pcF) (q1 : x = y → Gl p e below P (T.setTop (mkF m pcT L S))) (q2 : ¬ x = y → Gl p e below P (T.setTop (mkF m pcF L S))) : Gl p e below P (T.setTop (mkF m pc L (y :: x :: S))) := by
  obtain ⟨locs, X, eT, N, hn0, hx, hZ, hown, hby, hml, hrt, hlk⟩ := Y
  subst ht hf
  by_cases hq : x = y
  · exact (q1 hq).of1 fun t q => Jvm.RoadKit.acmp (g := mkF m pc L (y :: x :: S)) X hx rfl h1 h2 (pc0 := pc) (same := true) rfl (hb hby hd) rfl (decide_eq_true hq) ho rfl q
  · exact (q2 hq).of1 fun t q => Jvm.RoadKit.acmp (g := mkF m pc L (y :: x :: S)) X hx rfl h1 h2 (pc0 := pc) (same := false) rfl (hb hby hd) rfl (decide_eq_false hq) ho rfl q
theorem Gl.acmpne (Y : Sd Z own bs mx ret n0 p l e R s m args below meth c T h k n) {x y : Value} {o : Int} (h1 : x.isRef = true) (h2 : y.isRef = true) (hd : decode bs pc = .ok (.if_acmp .ne o, 3)) (ho : 0 ≤ (pc : Int) + o) (ht : ((pc : Int) + o).toNat = pcT) (hf : pc + 3 = pcF) (q1 : ¬ x = y → Gl p e below P (T.setTop (mkF m pcT L S))) (q2 : x = y → Gl p e below P (T.setTop (mkF m pcF L S))) : Gl p e below P (T.setTop (mkF m pc L (y :: x :: S))) := by
  obtain ⟨locs, X, eT, N, hn0, hx, hZ, hown, hby, hml, hrt, hlk⟩ := Y
  subst ht hf
  by_cases hq : x = y
  · exact (q2 hq).of1 fun t q => Jvm.RoadKit.acmp (g := mkF m pc L (y :: x :: S)) X hx rfl h1 h2 (pc0 := pc) (same := true) rfl (hb hby hd) rfl (decide_eq_true hq) ho rfl q
  · exact (q1 hq).of1 fun t q => Jvm.RoadKit.acmp (g := mkF m pc L (y :: x :: S)) X hx rfl h1 h2 (pc0 := pc) (same := false) rfl (hb hby hd) rfl (decide_eq_false hq) ho rfl q
theorem Gl.getF (Y : Sd Z own bs mx ret n0 p l e R s m args below meth c T h k n) {i : Nat} {R0 O f d host : String} {a : Addr} {v : Value} (w : (Jvm.Cond.fieldLink own i R0 f d).before a0 Z = true ∨ (Jvm.Cond.fieldLinkNest own i R0 f d host).before a0 Z = true) (via : Via Z R0 O f d) (F : Fld Z h a O f d v) (hd : decode bs pc = .ok (.getfield i, 3)) (hp : pc + 3 = pc') (q : ∀ T', Sd Z own bs mx ret n0 p l e R s m args below meth c T' h k n → Gl p e below P (T'.setTop (mkF m pc' L (v :: S)))) : Gl p e below P (T.setTop (mkF m pc L (.ref a :: S))) := by
  obtain ⟨locs, X, eT, N, hn0, hx, hZ, hown, hby, hml, hrt, hlk⟩ := Y
  subst hp
  obtain ⟨T', X', e', st⟩ := Jvm.RoadKit.getF X hx hZ hown w via eT F (g := mkF m pc L (.ref a :: S)) rfl rfl (hb hby hd)
  exact (q T' ⟨locs, X', e', N, hn0, hx, hZ, hown, hby, hml, hrt, hlk⟩).of1 st
theorem Gl.getS (Y : Sd Z own bs mx ret n0 p l e R s m args below meth c T h k n) {i : Nat} {R0 O f d host : String} {v : Value} (w : (Jvm.Cond.fieldLink own i R0 f d).before a0 Z = true ∨ (Jvm.Cond.fieldLinkNest own i R0 f d host).before a0 Z = true) (via : Via Z R0 O f d) (F : Sta Z h O f d v) (hd : decode bs pc = .ok (.getstatic i, 3)) (hp : pc + 3 = pc') (q : ∀ T', Sd Z own bs mx ret n0 p l e R s m args below meth c T' h k n → Gl p e below P (T'.setTop (mkF m pc' L (v :: S)))) : Gl p e below P (T.setTop (mkF m pc L S)) := by
  obtain ⟨locs, X, eT, N, hn0, hx, hZ, hown, hby, hml, hrt, hlk⟩ := Y
  subst hp
  obtain ⟨T', X', e', st⟩ := getS2 X hx hZ hown w via eT F (g := mkF m pc L S) rfl (hb hby hd)
  exact (q T' ⟨locs, X', e', N, hn0, hx, hZ, hown, hby, hml, hrt, hlk⟩).of1 st
theorem Gl.putF (Y : Sd Z own bs mx ret n0 p l e R s m args below meth c T h k n) {i kk : Nat} {R0 O f d host C : String} {ty : FieldType} {a : Addr} {v old : Value} (w : (Jvm.Cond.fieldLink own i R0 f d).before a0 Z = true ∨ (Jvm.Cond.fieldLinkNest own i R0 f d host).before a0 Z = true) (via : Via Z R0 O f d) (F : Fld Z h a O f d old) (E : Exa Z h a C) (Lw : (Jvm.Cond.lays C O f d).before a0 Z = true ∨ ((Jvm.Cond.laysFinal C O f d).before a0 Z = true ∧ own = O ∧ meth.name = "<init>")) (wi : (Jvm.Cond.instantiable C kk).before a0 Z = true) (ha : n0 ≤ a) (hty : parseFieldDescriptor d = some ty) (hn : narrow ty v = v) (hf : fits ty v = true) (hd : decode bs pc = .ok (.putfield i, 3)) (hp : pc + 3 = pc') (q : ∀ T' h', Sd Z own bs mx ret n0 p l e R s m args below meth c T' h' k n → Wr h h' a (Jvm.RoadKit.slotOf Z O f d) v → Gl p e below P (T'.setTop (mkF m pc' L S))) : Gl p e below P (T.setTop (mkF m pc L (v :: .ref a :: S))) := by
  obtain ⟨locs, X, eT, N, hn0, hx, hZ, hown, hby, hml, hrt, hlk⟩ := Y
  subst hp
  obtain ⟨T', h', X', e', W, st⟩ := Jvm.RoadKit.putF X hx hZ hown w via eT F E Lw wi hty hn hf (g := mkF m pc L (v :: .ref a :: S)) rfl rfl (hb hby hd)
  exact (q T' h' ⟨_, X', e', Fr.snoc X' N ha, hn0, hx, hZ, hown, hby, hml, hrt, hlk⟩ W).of1 st
theorem Gl.putFN (Y : Sd Z own bs mx ret n0 p l e R s m args below meth c T h k n) {i kk : Nat} {R0 O f d C : String} {ty : FieldType} {a : Addr} {v v' old : Value} (w : (Jvm.Cond.fieldLink own i R0 f d).before a0 Z = true) (via : Via Z R0 O f d) (F : Fld Z h a O f d old) (E : Exa Z h a C) (Lw : (Jvm.Cond.lays C O f d).before a0 Z = true ∨ ((Jvm.Cond.laysFinal C O f d).before a0 Z = true ∧ own = O ∧ meth.name = "<init>")) (wi : (Jvm.Cond.instantiable C kk).before a0 Z = true) (ha : n0 ≤ a) (hty : parseFieldDescriptor d = some ty) (hn : narrow ty v = v') (hf : fits ty v' = true) (hd : decode bs pc = .ok (.putfield i, 3)) (hp : pc + 3 = pc') (q : ∀ T' h', Sd Z own bs mx ret n0 p l e R s m args below meth c T' h' k n → Wr h h' a (Jvm.RoadKit.slotOf Z O f d) v' → Gl p e below P (T'.setTop (mkF m pc' L S))) : Gl p e below P (T.setTop (mkF m pc L (v :: .ref a :: S))) := by
  obtain ⟨locs, X, eT, N, hn0, hx, hZ, hown, hby, hml, hrt, hlk⟩ := Y
  subst hp
  obtain ⟨T', h', X', e', W, st⟩ := Jvm.RoadKit.putFN X hx hZ hown w via eT F E Lw wi hty hn hf (g := mkF m pc L (v :: .ref a :: S)) rfl rfl (hb hby hd)
  exact (q T' h' ⟨_, X', e', Fr.snoc X' N ha, hn0, hx, hZ, hown, hby, hml, hrt, hlk⟩ W).of1 st
theorem Gl.newO (Y : Sd Z own bs mx ret n0 p l e R s m args below meth c T h k n) {i sl : Nat} {C : String} (w : (Jvm.Cond.classLink own i C).before a0 Z = true) (wi : (Jvm.Cond.instantiable C sl).before a0 Z = true) (wz : (Jvm.Cond.initialized C).before a0 Z = true) (hc : k + 1 ≤ R.cells) (hl : n + sl ≤ R.slots) (hd : decode bs pc = .ok (.new i, 3)) (hp : pc + 3 = pc') (q : ∀ T' h' b, Sd Z own bs mx ret n0 p l e R s m args below meth c T' h' (k + 1) (n + sl) → Ext h h' → b = h.size → n0 ≤ b → Exa Z h' b C → (∀ {O nm d : String} {ty : FieldType}, Laid Z a0 C O nm d → parseFieldDescriptor d = some ty → Fld Z h' b O nm d (defaultValue ty)) → Gl p e below P (T'.setTop (mkF m pc' L (.ref b :: S)))) : Gl p e below P (T.setTop (mkF m pc L S)) := by
  obtain ⟨locs, X, eT, N, hn0, hx, hZ, hown, hby, hml, hrt, hlk⟩ := Y
  subst hp
  obtain ⟨T', h', X', e', E, A, D, -, st⟩ := Jvm.RoadKit.newO X hx hZ hown w wi wz eT (g := mkF m pc L S) rfl (hb hby hd) hc hl
  exact (q T' h' h.size ⟨locs, X', e', N, hn0, hx, hZ, hown, hby, hml, hrt, hlk⟩ E rfl (eT ▸ Nat.le_trans hn0 (own_grow X)) A D).of1 st
theorem Gl.newP (Y : Sd Z own bs mx ret n0 p l e R s m args below meth c T h k n) {aty : ArrayType} {ty : FieldType} {z : Int32} (cap : Nat) (hat : newarray.typeOf aty = ty) (w : (Jvm.Cond.arrayClass ty).before a0 Z = true) (hz : ¬ z < 0) (hcap : z.toNatClampNeg ≤ cap) (hcb : cap * 8 ≤ 536870912) (hc : k + 1 ≤ R.cells) (hl : n + cap ≤ R.slots) (hd : decode bs pc = .ok (.newarray aty, 2)) (hp : pc + 2 = pc') (q : ∀ T' h' b ck, Sd Z own bs mx ret n0 p l e R s m args below meth c T' h' (k + 1) (n + cap) → Ext h h' → b = h.size → n0 ≤ b → Arv Z h' b ck ty z [] (defaultValue ty) → Gl p e below P (T'.setTop (mkF m pc' L (.ref b :: S)))) : Gl p e below P (T.setTop (mkF m pc L (.int z :: S))) := by
  obtain ⟨locs, X, eT, N, hn0, hx, hZ, hown, hby, hml, hrt, hlk⟩ := Y
  subst hp hat
  obtain ⟨T', h', ck, X', e', E, A, st⟩ := Jvm.RoadKit.newP X hx hZ w eT (g := mkF m pc L (.int z :: S)) rfl (hb hby hd) rfl hz hcap hcb hc hl
  exact (q T' h' h.size ck ⟨locs, X', e', N, hn0, hx, hZ, hown, hby, hml, hrt, hlk⟩ E rfl (eT ▸ Nat.le_trans hn0 (own_grow X)) (Arv.new A hz)).of1 st
theorem Gl.iastore (Y : Sd Z own bs mx ret n0 p l e R s m args below meth c T h k n) {a : Addr} {ck : ClassId} {z j : Int32} {x : Int32} {vs : List Value} {d v : Value} {ix : Nat} (F : Arv Z h a ck .int z vs d) (hv : .int x = v) (hj : ¬ j < 0 ∧ j < z) (hjx : j.toNatClampNeg = ix) (hlen : ix < vs.length) (ha : n0 ≤ a) (hd : decode bs pc = .ok (.iastore, 1)) (hp : pc + 1 = pc') (q : ∀ T' h', Sd Z own bs mx ret n0 p l e R s m args below meth c T' h' k n → Wr h h' a ix v → Arv Z h' a ck .int z (vs.set ix v) d → Gl p e below P (T'.setTop (mkF m pc' L S))) : Gl p e below P (T.setTop (mkF m pc L (.int x :: .int j :: .ref a :: S))) := by
  obtain ⟨locs, X, eT, N, hn0, hx, hZ, hown, hby, hml, hrt, hlk⟩ := Y
  subst hp hv hjx
  obtain ⟨cl, A, C1, S1, N1, H, Gf⟩ := F
  obtain ⟨T', h', X', e', W, st⟩ := stI X hx hZ eT A (inb_of S1 hj) (g := mkF m pc L (.int x :: .int j :: .ref a :: S)) rfl rfl (hb hby hd)
  exact (q T' h' ⟨_, X', e', Fr.snoc X' N ha, hn0, hx, hZ, hown, hby, hml, hrt, hlk⟩ W (Arv.set A C1 S1 N1 H Gf rfl W _ rfl hlen)).of1 st
theorem Gl.lastore (Y : Sd Z own bs mx ret n0 p l e R s m args below meth c T h k n) {a : Addr} {ck : ClassId} {z j : Int32} {x : Int64} {vs : List Value} {d v : Value} {ix : Nat} (F : Arv Z h a ck .long z vs d) (hv : .long x = v) (hj : ¬ j < 0 ∧ j < z) (hjx : j.toNatClampNeg = ix) (hlen : ix < vs.length) (ha : n0 ≤ a) (hd : decode bs pc = .ok (.lastore, 1)) (hp : pc + 1 = pc') (q : ∀ T' h', Sd Z own bs mx ret n0 p l e R s m args below meth c T' h' k n → Wr h h' a ix v → Arv Z h' a ck .long z (vs.set ix v) d → Gl p e below P (T'.setTop (mkF m pc' L S))) : Gl p e below P (T.setTop (mkF m pc L (.long x :: .int j :: .ref a :: S))) := by
  obtain ⟨locs, X, eT, N, hn0, hx, hZ, hown, hby, hml, hrt, hlk⟩ := Y
  subst hp hv hjx
  obtain ⟨cl, A, C1, S1, N1, H, Gf⟩ := F
  obtain ⟨T', h', X', e', W, st⟩ := stJ X hx hZ eT A (inb_of S1 hj) (g := mkF m pc L (.long x :: .int j :: .ref a :: S)) rfl rfl (hb hby hd)
  exact (q T' h' ⟨_, X', e', Fr.snoc X' N ha, hn0, hx, hZ, hown, hby, hml, hrt, hlk⟩ W (Arv.set A C1 S1 N1 H Gf rfl W _ rfl hlen)).of1 st
theorem Gl.castore (Y : Sd Z own bs mx ret n0 p l e R s m args below meth c T h k n) {a : Addr} {ck : ClassId} {z j : Int32} {x : Int32} {vs : List Value} {d v : Value} {ix : Nat} (F : Arv Z h a ck .char z vs d) (hv : .int (nar .char x) = v) (hj : ¬ j < 0 ∧ j < z) (hjx : j.toNatClampNeg = ix) (hlen : ix < vs.length) (ha : n0 ≤ a) (hd : decode bs pc = .ok (.castore, 1)) (hp : pc + 1 = pc') (q : ∀ T' h', Sd Z own bs mx ret n0 p l e R s m args below meth c T' h' k n → Wr h h' a ix v → Arv Z h' a ck .char z (vs.set ix v) d → Gl p e below P (T'.setTop (mkF m pc' L S))) : Gl p e below P (T.setTop (mkF m pc L (.int x :: .int j :: .ref a :: S))) := by
  obtain ⟨locs, X, eT, N, hn0, hx, hZ, hown, hby, hml, hrt, hlk⟩ := Y
  subst hp hv hjx
  obtain ⟨cl, A, C1, S1, N1, H, Gf⟩ := F
  obtain ⟨T', h', X', e', W, st⟩ := stC X hx hZ eT A (inb_of S1 hj) (g := mkF m pc L (.int x :: .int j :: .ref a :: S)) rfl rfl (hb hby hd)
  exact (q T' h' ⟨_, X', e', Fr.snoc X' N ha, hn0, hx, hZ, hown, hby, hml, hrt, hlk⟩ W (Arv.set A C1 S1 N1 H Gf (fits_nar_char _) W _ rfl hlen)).of1 st
theorem Gl.sastore (Y : Sd Z own bs mx ret n0 p l e R s m args below meth c T h k n) {a : Addr} {ck : ClassId} {z j : Int32} {x : Int32} {vs : List Value} {d v : Value} {ix : Nat} (F : Arv Z h a ck .short z vs d) (hv : .int (nar .short x) = v) (hj : ¬ j < 0 ∧ j < z) (hjx : j.toNatClampNeg = ix) (hlen : ix < vs.length) (ha : n0 ≤ a) (hd : decode bs pc = .ok (.sastore, 1)) (hp : pc + 1 = pc') (q : ∀ T' h', Sd Z own bs mx ret n0 p l e R s m args below meth c T' h' k n → Wr h h' a ix v → Arv Z h' a ck .short z (vs.set ix v) d → Gl p e below P (T'.setTop (mkF m pc' L S))) : Gl p e below P (T.setTop (mkF m pc L (.int x :: .int j :: .ref a :: S))) := by
  obtain ⟨locs, X, eT, N, hn0, hx, hZ, hown, hby, hml, hrt, hlk⟩ := Y
  subst hp hv hjx
  obtain ⟨cl, A, C1, S1, N1, H, Gf⟩ := F
  obtain ⟨T', h', X', e', W, st⟩ := stS X hx hZ eT A (inb_of S1 hj) (g := mkF m pc L (.int x :: .int j :: .ref a :: S)) rfl rfl (hb hby hd)
  exact (q T' h' ⟨_, X', e', Fr.snoc X' N ha, hn0, hx, hZ, hown, hby, hml, hrt, hlk⟩ W (Arv.set A C1 S1 N1 H Gf (fits_nar_short _) W _ rfl hlen)).of1 st
theorem Gl.bastore (Y : Sd Z own bs mx ret n0 p l e R s m args below meth c T h k n) {a : Addr} {ck : ClassId} {z j : Int32} {x : Int32} {vs : List Value} {d v : Value} {ix : Nat} (F : Arv Z h a ck .byte z vs d) (hv : .int (nar .byte x) = v) (hj : ¬ j < 0 ∧ j < z) (hjx : j.toNatClampNeg = ix) (hlen : ix < vs.length) (ha : n0 ≤ a) (hd : decode bs pc = .ok (.bastore, 1)) (hp : pc + 1 = pc') (q : ∀ T' h', Sd Z own bs mx ret n0 p l e R s m args below meth c T' h' k n → Wr h h' a ix v → Arv Z h' a ck .byte z (vs.set ix v) d → Gl p e below P (T'.setTop (mkF m pc' L S))) : Gl p e below P (T.setTop (mkF m pc L (.int x :: .int j :: .ref a :: S))) := by
  obtain ⟨locs, X, eT, N, hn0, hx, hZ, hown, hby, hml, hrt, hlk⟩ := Y
  subst hp hv hjx
  obtain ⟨cl, A, C1, S1, N1, H, Gf⟩ := F
  obtain ⟨T', h', X', e', W, st⟩ := stB X hx hZ eT A (inb_of S1 hj) (g := mkF m pc L (.int x :: .int j :: .ref a :: S)) rfl rfl (hb hby hd)
  exact (q T' h' ⟨_, X', e', Fr.snoc X' N ha, hn0, hx, hZ, hown, hby, hml, hrt, hlk⟩ W (Arv.set A C1 S1 N1 H Gf (fits_nar_byte _) W _ rfl hlen)).of1 st
theorem Gl.initO (Y : Sd Z own bs mx ret n0 p l e R s m args below meth c T h k n) {i : Nat} {a : Addr} (w1 : (Jvm.Cond.methodLink own i Lib.objectInit).before a0 Z = true) (w2 : (Jvm.Cond.instanceMethod Lib.objectInit).before a0 Z = true) (w3 : (Jvm.Cond.code Lib.objectInit ⟨#[0xb1]⟩ 1 none).before a0 Z = true) (hL : L.size = mx) (hf : 1 ≤ R.frames) (hl : (S.map fun v => v.category).sum + 12 ≤ R.locals) (hd : decode bs pc = .ok (.invokespecial i, 3)) (hp : pc + 3 = pc') (q : ∀ T', Sd Z own bs mx ret n0 p l e R s m args below meth c T' h k n → Gl p e below P (T'.setTop (mkF m pc' L S))) : Gl p e below P (T.setTop (mkF m pc L (.ref a :: S))) := by
  obtain ⟨locs, X, eT, N, hn0, hx, hZ, hown, hby, hml, hrt, hlk⟩ := Y
  subst hp
  obtain ⟨T', X', e', st⟩ := Jvm.RoadKit.initO X hx hZ hown w1 w2 w3 eT (g := mkF m pc L (.ref a :: S)) rfl (by rw [hml]; exact hL) rfl (hb hby hd) hf (W := (S.map fun v => v.category).sum) (by show 2 * 0 + _ ≤ _; omega) hl
  exact (q T' ⟨locs, X', e', N, hn0, hx, hZ, hown, hby, hml, hrt, hlk⟩).of1 st
theorem Gl.castY (Y : Sd Z own bs mx ret n0 p l e R s m args below meth c T h k n) {i : Nat} {K : String} {a : Addr} (w : (Jvm.Cond.classLink own i K).before a0 Z = true) (F : Ins Z h a K true) (hd : decode bs pc = .ok (.checkcast i, 3)) (hp : pc + 3 = pc') (q : ∀ T', Sd Z own bs mx ret n0 p l e R s m args below meth c T' h k n → Gl p e below P (T'.setTop (mkF m pc' L (.ref a :: S)))) : Gl p e below P (T.setTop (mkF m pc L (.ref a :: S))) := by
  obtain ⟨locs, X, eT, N, hn0, hx, hZ, hown, hby, hml, hrt, hlk⟩ := Y
  subst hp
  obtain ⟨T', X', e', st⟩ := Jvm.RoadKit.castY X hx hZ hown w eT F (g := mkF m pc L (.ref a :: S)) rfl rfl (hb hby hd)
  exact (q T' ⟨locs, X', e', N, hn0, hx, hZ, hown, hby, hml, hrt, hlk⟩).of1 st
theorem Gl.instY (Y : Sd Z own bs mx ret n0 p l e R s m args below meth c T h k n) {i : Nat} {K : String} {a : Addr} (w : (Jvm.Cond.classLink own i K).before a0 Z = true) (F : Ins Z h a K true) (hd : decode bs pc = .ok (.instanceof i, 3)) (hp : pc + 3 = pc') (q : ∀ T', Sd Z own bs mx ret n0 p l e R s m args below meth c T' h k n → Gl p e below P (T'.setTop (mkF m pc' L (.int 1 :: S)))) : Gl p e below P (T.setTop (mkF m pc L (.ref a :: S))) := by
  obtain ⟨locs, X, eT, N, hn0, hx, hZ, hown, hby, hml, hrt, hlk⟩ := Y
  subst hp
  obtain ⟨T', X', e', st⟩ := Jvm.RoadKit.instY X hx hZ hown w eT F (g := mkF m pc L (.ref a :: S)) rfl rfl (hb hby hd)
  exact (q T' ⟨locs, X', e', N, hn0, hx, hZ, hown, hby, hml, hrt, hlk⟩).of1 st
theorem Gl.instNo (Y : Sd Z own bs mx ret n0 p l e R s m args below meth c T h k n) {i : Nat} {K C : String} {a : Addr} (w : (Jvm.Cond.classLink own i K).before a0 Z = true) (E : Exa Z h a C) (F : ∃ c t, Z.vm.findClass C = some c ∧ Z.vm.findClass K = some t ∧ Z.vm.assignable c t = false) (hd : decode bs pc = .ok (.instanceof i, 3)) (hp : pc + 3 = pc') (q : ∀ T', Sd Z own bs mx ret n0 p l e R s m args below meth c T' h k n → Gl p e below P (T'.setTop (mkF m pc' L (.int 0 :: S)))) : Gl p e below P (T.setTop (mkF m pc L (.ref a :: S))) := by
  obtain ⟨locs, X, eT, N, hn0, hx, hZ, hown, hby, hml, hrt, hlk⟩ := Y
  subst hp
  obtain ⟨T', X', e', st⟩ := Jvm.RoadKit.instNo X hx hZ hown w eT E F (g := mkF m pc L (.ref a :: S)) rfl rfl (hb hby hd)
  exact (q T' ⟨locs, X', e', N, hn0, hx, hZ, hown, hby, hml, hrt, hlk⟩).of1 st
theorem Gl.castNull (Y : Sd Z own bs mx ret n0 p l e R s m args below meth c T h k n) {i : Nat} (hd : decode bs pc = .ok (.checkcast i, 3)) (hp : pc + 3 = pc') (q : Gl p e below P (T.setTop (mkF m pc' L (.null :: S)))) : Gl p e below P (T.setTop (mkF m pc L (.null :: S))) := by
  obtain ⟨locs, X, eT, N, hn0, hx, hZ, hown, hby, hml, hrt, hlk⟩ := Y
  subst hp
  exact q.of1 fun t q => X.checkcastNull hx (g := mkF m pc L (.null :: S)) rfl rfl (hb hby hd) t q
theorem Gl.instNull (Y : Sd Z own bs mx ret n0 p l e R s m args below meth c T h k n) {i : Nat} (hd : decode bs pc = .ok (.instanceof i, 3)) (hp : pc + 3 = pc') (q : Gl p e below P (T.setTop (mkF m pc' L (.int 0 :: S)))) : Gl p e below P (T.setTop (mkF m pc L (.null :: S))) := by
  obtain ⟨locs, X, eT, N, hn0, hx, hZ, hown, hby, hml, hrt, hlk⟩ := Y
  subst hp
  exact q.of1 fun t q => X.instanceofNull hx (g := mkF m pc L (.null :: S)) rfl rfl (hb hby hd) t q
theorem Gl.newR (Y : Sd Z own bs mx ret n0 p l e R s m args below meth c T h k n) {i : Nat} {C : String} {z : Int32} (cap : Nat) (w1 : (Jvm.Cond.classLink own i C).before a0 Z = true) (w2 : (Jvm.Cond.arrayOver (.object C)).before a0 Z = true) (hz : ¬ z < 0) (hcap : z.toNatClampNeg ≤ cap) (hcb : cap * 8 ≤ 536870912) (hc : k + 1 ≤ R.cells) (hl : n + cap ≤ R.slots) (hd : decode bs pc = .ok (.anewarray i, 3)) (hp : pc + 3 = pc') (q : ∀ T' h' b ck, Sd Z own bs mx ret n0 p l e R s m args below meth c T' h' (k + 1) (n + cap) → Ext h h' → b = h.size → n0 ≤ b → Arv Z h' b ck (.object C) z [] .null → Gl p e below P (T'.setTop (mkF m pc' L (.ref b :: S)))) : Gl p e below P (T.setTop (mkF m pc L (.int z :: S))) := by
  obtain ⟨locs, X, eT, N, hn0, hx, hZ, hown, hby, hml, hrt, hlk⟩ := Y
  subst hp
  obtain ⟨T', h', ck, X', e', E, A, -, st⟩ := Jvm.RoadKit.newR X hx hZ hown w1 w2 eT (g := mkF m pc L (.int z :: S)) rfl (hb hby hd) rfl hz hcap hcb hc hl
  exact (q T' h' h.size ck ⟨locs, X', e', N, hn0, hx, hZ, hown, hby, hml, hrt, hlk⟩ E rfl (eT ▸ Nat.le_trans hn0 (own_grow X)) (Arv.new A hz)).of1 st
theorem Gl.callS (Y : Sd Z own bs mx ret n0 p l e R s m args below meth c T h k n) {y : MethodName} {bs2 : ByteArray} {mx2 : Nat} {ret2 : Option FieldType} {rm : Room} {as : Array Value} {Q : Option Value → Heap → Prop} {i : Nat} {argsL rest : List Value} (w1 : (Jvm.Cond.methodLink own i y).before a0 Z = true) (w2 : (Jvm.Cond.static y).before a0 Z = true) (w3 : (Jvm.Cond.initialized y.cls).before a0 Z = true) (w4 : (Jvm.Cond.code y bs2 mx2 ret2).before a0 Z = true) (hy : y.cls ≠ "java/lang/invoke/MethodHandle" ∧ y.cls ≠ "java/lang/invoke/VarHandle") (hM : OMet l Z [] y bs2 mx2 ret2 rm as h n0 Q) (has : argsL.toArray = as) (hS : S = argsL.reverse ++ rest) (hlen : ∀ sig, parseMethodDescriptor y.desc = some sig → argsL.length = sig.parameters.length) (hL : L.size = mx) (hf : rm.frames + 1 ≤ R.frames) (hl : (rest.map fun v => v.category).sum + (mx2 + 11) + rm.locals ≤ R.locals) (hc : k + rm.cells ≤ R.cells) (hs : n + rm.slots ≤ R.slots) (hd : decode bs pc = .ok (.invokestatic i, 3)) (hp : pc + 3 = pc') (q : ∀ v T' h', Sd Z own bs mx ret n0 p l e R s m args below meth c T' h' (k + rm.cells) (n + rm.slots) → Q v h' → Gl p e below P (T'.setTop (mkF m pc' L (v.toList ++ rest)))) : Gl p e below P (T.setTop (mkF m pc L S)) := by
  obtain ⟨locs, X, eT, N, hn0, hx, hZ, hown, hby, hml, hrt, hlk⟩ := Y
  subst hp has hS
  obtain ⟨v, vm₁, ⟨T', L', k', n'⟩, -, X', hB, st⟩ := Jvm.LawKit.callS X hx (y := y) hown (mvT hZ w1) (mvT hZ w2) (mvT hZ w3) (mvT hZ w4) hy (backOf (Q := fun v h' L => Q v h' ∧ Fr n0 L) (W := (rest.map fun v => v.category).sum) (OMet.un hM) hZ w4 w3 hf hl) (g := mkF m pc L (argsL.reverse ++ rest)) rfl (by rw [hml]; exact hL) (argsL := argsL) (rest := rest) hlen rfl (by show 2 * 0 + _ ≤ _; omega) (hb hby hd) (fun _ _ => ⟨rfl, eT, hc, hs⟩)
  obtain ⟨Lc, ⟨hQ, NL⟩, l1, l2, l3⟩ := hB
  dsimp only [Pt.U, Pt.locs, Pt.cells, Pt.slots] at X' l1 l2 l3 st hQ
  subst l1 l2 l3
  exact (q v T' T'.heap ⟨_, X', rfl, Fr.app N NL, hn0, hx, hZ, hown, hby, hml, hrt, hlk⟩ hQ).of1 st
theorem Gl.callN (Y : Sd Z own bs mx ret n0 p l e R s m args below meth c T h k n) {y : MethodName} {bs2 : ByteArray} {mx2 : Nat} {rm : Room} {as : Array Value} {Q : Option Value → Heap → Prop} {i : Nat} {argsL rest : List Value} {a : Addr} (hy1 : y.name = "<init>") (w1 : (Jvm.Cond.methodLink own i y).before a0 Z = true) (w2 : (Jvm.Cond.instanceMethod y).before a0 Z = true) (w3 : (Jvm.Cond.initialized y.cls).before a0 Z = true) (w4 : (Jvm.Cond.code y bs2 mx2 none).before a0 Z = true) (hy : y.cls ≠ "java/lang/invoke/MethodHandle" ∧ y.cls ≠ "java/lang/invoke/VarHandle") (hM : OMet l Z [] y bs2 mx2 none rm as h n0 Q) (has : (.ref a :: argsL).toArray = as) (hS : S = argsL.reverse ++ .ref a :: rest) (hlen : ∀ sig, parseMethodDescriptor y.desc = some sig → argsL.length = sig.parameters.length) (hL : L.size = mx) (hf : rm.frames + 1 ≤ R.frames) (hl : (rest.map fun v => v.category).sum + (mx2 + 11) + rm.locals ≤ R.locals) (hc : k + rm.cells ≤ R.cells) (hs : n + rm.slots ≤ R.slots) (hd : decode bs pc = .ok (.invokespecial i, 3)) (hp : pc + 3 = pc') (q : ∀ v T' h', Sd Z own bs mx ret n0 p l e R s m args below meth c T' h' (k + rm.cells) (n + rm.slots) → Q v h' → Gl p e below P (T'.setTop (mkF m pc' L (v.toList ++ rest)))) : Gl p e below P (T.setTop (mkF m pc L S)) := by
  obtain ⟨locs, X, eT, N, hn0, hx, hZ, hown, hby, hml, hrt, hlk⟩ := Y
  subst hp has hS
  obtain ⟨v, vm₁, ⟨T', L', k', n'⟩, -, X', hB, st⟩ := X.specialBack hx (y := y) hy1 hown (mvT hZ w1) (mvT hZ w2) (mvT hZ w4) hy (backOf (Q := fun v h' L => Q v h' ∧ Fr n0 L) (W := (rest.map fun v => v.category).sum) (OMet.un hM) hZ w4 w3 hf hl) (g := mkF m pc L (argsL.reverse ++ .ref a :: rest)) rfl (by rw [hml]; exact hL) (Steps.refl _) (a := a) (argsL := argsL) (rest := rest) hlen rfl (by show 2 * 0 + _ ≤ _; omega) (hb hby hd) (fun _ _ => ⟨rfl, eT, hc, hs⟩)
  obtain ⟨Lc, ⟨hQ, NL⟩, l1, l2, l3⟩ := hB
  dsimp only [Pt.U, Pt.locs, Pt.cells, Pt.slots] at X' l1 l2 l3 st hQ
  subst l1 l2 l3
  exact Gl.via st (q v T' T'.heap ⟨_, X', rfl, Fr.app N NL, hn0, hx, hZ, hown, hby, hml, hrt, hlk⟩ hQ)
theorem Gl.callV (Y : Sd Z own bs mx ret n0 p l e R s m args below meth c T h k n) {y : MethodName} {bs2 : ByteArray} {mx2 : Nat} {ret2 : Option FieldType} {rm : Room} {as : Array Value} {Q : Option Value → Heap → Prop} {i : Nat} {z : MethodName} {C : String} {argsL rest : List Value} {a : Addr} (w1 : (Jvm.Cond.methodLink own i z).before a0 Z = true) (wd : (Jvm.Cond.declares z).before a0 Z = true) (ws0 : (Jvm.Cond.selects z.cls z z).before a0 Z = true) (ws : (Jvm.Cond.selects C z y).before a0 Z = true) (w2 : (Jvm.Cond.instanceMethod y).before a0 Z = true) (w3 : (Jvm.Cond.initialized y.cls).before a0 Z = true) (w4 : (Jvm.Cond.code y bs2 mx2 ret2).before a0 Z = true) (hy : z.cls ≠ "java/lang/invoke/MethodHandle" ∧ z.cls ≠ "java/lang/invoke/VarHandle") (E : Exa Z h a C) (hM : OMet l Z [] y bs2 mx2 ret2 rm as h n0 Q) (has : (.ref a :: argsL).toArray = as) (hS : S = argsL.reverse ++ .ref a :: rest) (hlen : ∀ sig, parseMethodDescriptor z.desc = some sig → argsL.length = sig.parameters.length) (hL : L.size = mx) (hf : rm.frames + 1 ≤ R.frames) (hl : (rest.map fun v => v.category).sum + (mx2 + 11) + rm.locals ≤ R.locals) (hc : k + rm.cells ≤ R.cells) (hs : n + rm.slots ≤ R.slots) (hd : decode bs pc = .ok (.invokevirtual i, 3)) (hp : pc + 3 = pc') (q : ∀ v T' h', Sd Z own bs mx ret n0 p l e R s m args below meth c T' h' (k + rm.cells) (n + rm.slots) → Q v h' → Gl p e below P (T'.setTop (mkF m pc' L (v.toList ++ rest)))) : Gl p e below P (T.setTop (mkF m pc L S)) := by
  obtain ⟨locs, X, eT, N, hn0, hx, hZ, hown, hby, hml, hrt, hlk⟩ := Y
  subst hp has hS
  obtain ⟨cq, kq, qa, qb, qc⟩ := isOf hZ eT E
  obtain ⟨v, vm₁, ⟨T', L', k', n'⟩, -, X', hB, st⟩ := X.virtualBack hx (y := z) (z := y) hown (mvT hZ w1) (mvT hZ wd) (notFace_of_selects (args := #[]) (mvT hZ ws0)) (mvT hZ ws) (mvT hZ w2) hy (backOf (Q := fun v h' L => Q v h' ∧ Fr n0 L) (W := (rest.map fun v => v.category).sum) (OMet.un hM) hZ w4 w3 hf hl) qa qc (g := mkF m pc L (argsL.reverse ++ .ref a :: rest)) rfl (by rw [hml]; exact hL) (Steps.refl _) (argsL := argsL) (rest := rest) hlen rfl (by show 2 * 0 + _ ≤ _; omega) (hb hby hd) (fun _ _ => ⟨rfl, eT, hc, hs⟩)
  obtain ⟨Lc, ⟨hQ, NL⟩, l1, l2, l3⟩ := hB
  dsimp only [Pt.U, Pt.locs, Pt.cells, Pt.slots] at X' l1 l2 l3 st hQ
  subst l1 l2 l3
  exact Gl.via st (q v T' T'.heap ⟨_, X', rfl, Fr.app N NL, hn0, hx, hZ, hown, hby, hml, hrt, hlk⟩ hQ)
theorem Gl.callP (Y : Sd Z own bs mx ret n0 p l e R s m args below meth c T h k n) {y : MethodName} {bs2 : ByteArray} {mx2 : Nat} {ret2 : Option FieldType} {rm : Room} {as : Array Value} {Q : Option Value → Heap → Prop} {i : Nat} {C : String} {kk : Nat} {argsL rest : List Value} {a : Addr} (w1 : (Jvm.Cond.methodLink own i y).before a0 Z = true) (w2 : (Jvm.Cond.instanceMethod y).before a0 Z = true) (wp : (Jvm.Cond.privateMethod y).before a0 Z = true) (wi : (Jvm.Cond.instantiable y.cls kk).before a0 Z = true) (w3 : (Jvm.Cond.initialized y.cls).before a0 Z = true) (w4 : (Jvm.Cond.code y bs2 mx2 ret2).before a0 Z = true) (hy : y.cls ≠ "java/lang/invoke/MethodHandle" ∧ y.cls ≠ "java/lang/invoke/VarHandle") (E : Exa Z h a C) (hM : OMet l Z [] y bs2 mx2 ret2 rm as h n0 Q) (has : (.ref a :: argsL).toArray = as) (hS : S = argsL.reverse ++ .ref a :: rest) (hlen : ∀ sig, parseMethodDescriptor y.desc = some sig → argsL.length = sig.parameters.length) (hL : L.size = mx) (hf : rm.frames + 1 ≤ R.frames) (hl : (rest.map fun v => v.category).sum + (mx2 + 11) + rm.locals ≤ R.locals) (hc : k + rm.cells ≤ R.cells) (hs : n + rm.slots ≤ R.slots) (hd : decode bs pc = .ok (.invokevirtual i, 3)) (hp : pc + 3 = pc') (q : ∀ v T' h', Sd Z own bs mx ret n0 p l e R s m args below meth c T' h' (k + rm.cells) (n + rm.slots) → Q v h' → Gl p e below P (T'.setTop (mkF m pc' L (v.toList ++ rest)))) : Gl p e below P (T.setTop (mkF m pc L S)) := by
  obtain ⟨locs, X, eT, N, hn0, hx, hZ, hown, hby, hml, hrt, hlk⟩ := Y
  subst hp has hS
  obtain ⟨cq, qa, qb⟩ := E.cell
  have hpr := Cond.privateMethod_at (mvP hZ wp (args := #[]))
  obtain ⟨c1, k1, i1, i2, -, i4, -⟩ := Cond.instantiable_spec (mv (args := args) hZ wi)
  have i5 : k1.isInterface = false := by cases hi : k1.isInterface <;> simp [hi] at i4 ⊢
  have hsel := selects_self_of_private (args := args) i1 i2 i5 hpr (mvT hZ w2) hy
  obtain ⟨v, vm₁, ⟨T', L', k', n'⟩, -, X', hB, st⟩ := X.privateBack hx (y := y) hown (mvT hZ w1) (mvT hZ w2) hsel hpr (mvT hZ w4) hy (backOf (Q := fun v h' L => Q v h' ∧ Fr n0 L) (W := (rest.map fun v => v.category).sum) (OMet.un hM) hZ w4 w3 hf hl) (g := mkF m pc L (argsL.reverse ++ .ref a :: rest)) rfl (by rw [hml]; exact hL) (Steps.refl _) (a := a) (by rw [eT]; exact qa) qb (argsL := argsL) (rest := rest) hlen rfl (by show 2 * 0 + _ ≤ _; omega) (hb hby hd) (fun _ _ => ⟨rfl, eT, hc, hs⟩)
  obtain ⟨Lc, ⟨hQ, NL⟩, l1, l2, l3⟩ := hB
  dsimp only [Pt.U, Pt.locs, Pt.cells, Pt.slots] at X' l1 l2 l3 st hQ
  subst l1 l2 l3
  exact Gl.via st (q v T' T'.heap ⟨_, X', rfl, Fr.app N NL, hn0, hx, hZ, hown, hby, hml, hrt, hlk⟩ hQ)
theorem Gl.callNN (Y : Sd Z own bs mx ret n0 p l e R s m args below meth c T h k n) {y : MethodName} {bs2 : ByteArray} {mx2 : Nat} {rm : Room} {as : Array Value} {Q : Option Value → Heap → Prop} {i : Nat} {argsL rest : List Value} {host : String} {a : Addr} (hy1 : y.name = "<init>") (w1 : (Jvm.Cond.methodLinkNest own i y host).before a0 Z = true) (w2 : (Jvm.Cond.instanceMethod y).before a0 Z = true) (w3 : (Jvm.Cond.initialized y.cls).before a0 Z = true) (w4 : (Jvm.Cond.code y bs2 mx2 none).before a0 Z = true) (hy : y.cls ≠ "java/lang/invoke/MethodHandle" ∧ y.cls ≠ "java/lang/invoke/VarHandle") (hM : OMet l Z [] y bs2 mx2 none rm as h n0 Q) (has : (.ref a :: argsL).toArray = as) (hS : S = argsL.reverse ++ .ref a :: rest) (hlen : ∀ sig, parseMethodDescriptor y.desc = some sig → argsL.length = sig.parameters.length) (hL : L.size = mx) (hf : rm.frames + 1 ≤ R.frames) (hl : (rest.map fun v => v.category).sum + (mx2 + 11) + rm.locals ≤ R.locals) (hc : k + rm.cells ≤ R.cells) (hs : n + rm.slots ≤ R.slots) (hd : decode bs pc = .ok (.invokespecial i, 3)) (hp : pc + 3 = pc') (q : ∀ v T' h', Sd Z own bs mx ret n0 p l e R s m args below meth c T' h' (k + rm.cells) (n + rm.slots) → Q v h' → Gl p e below P (T'.setTop (mkF m pc' L (v.toList ++ rest)))) : Gl p e below P (T.setTop (mkF m pc L S)) := by
  obtain ⟨locs, X, eT, N, hn0, hx, hZ, hown, hby, hml, hrt, hlk⟩ := Y
  subst hp has hS
  obtain ⟨v, vm₁, ⟨T', L', k', n'⟩, -, X', hB, st⟩ := X.specialBackNest hx (y := y) hy1 hown (Cond.methodLinkNest_wide hZ w1 :) (mvT hZ w2) (mvT hZ w4) hy (backOf (Q := fun v h' L => Q v h' ∧ Fr n0 L) (W := (rest.map fun v => v.category).sum) (OMet.un hM) hZ w4 w3 hf hl) (g := mkF m pc L (argsL.reverse ++ .ref a :: rest)) rfl (by rw [hml]; exact hL) (Steps.refl _) (a := a) (argsL := argsL) (rest := rest) hlen rfl (by show 2 * 0 + _ ≤ _; omega) (hb hby hd) (fun _ _ => ⟨rfl, eT, hc, hs⟩)
  obtain ⟨Lc, ⟨hQ, NL⟩, l1, l2, l3⟩ := hB
  dsimp only [Pt.U, Pt.locs, Pt.cells, Pt.slots] at X' l1 l2 l3 st hQ
  subst l1 l2 l3
  exact Gl.via st (q v T' T'.heap ⟨_, X', rfl, Fr.app N NL, hn0, hx, hZ, hown, hby, hml, hrt, hlk⟩ hQ)
theorem Gl.callVU (Y : Sd Z own bs mx ret n0 p l e R s m args below meth c T h k n) {y : MethodName} {bs2 : ByteArray} {mx2 : Nat} {ret2 : Option FieldType} {rm : Room} {as : Array Value} {Q : Option Value → Heap → Prop} {i : Nat} {owner : String} {z : MethodName} {C : String} {argsL rest : List Value} {a : Addr} (w1 : (Jvm.Cond.methodLink own i z).before a0 Z = true) (w0 : (Jvm.Cond.sameMethod z.cls owner z.name z.desc).before a0 Z = true) (wd : (Jvm.Cond.declares ⟨owner, z.name, z.desc⟩).before a0 Z = true) (ws : (Jvm.Cond.selects C z y).before a0 Z = true) (w2 : (Jvm.Cond.instanceMethod y).before a0 Z = true) (w3 : (Jvm.Cond.initialized y.cls).before a0 Z = true) (w4 : (Jvm.Cond.code y bs2 mx2 ret2).before a0 Z = true) (hy : owner ≠ "java/lang/invoke/MethodHandle" ∧ owner ≠ "java/lang/invoke/VarHandle") (E : Exa Z h a C) (hM : OMet l Z [] y bs2 mx2 ret2 rm as h n0 Q) (has : (.ref a :: argsL).toArray = as) (hS : S = argsL.reverse ++ .ref a :: rest) (hlen : ∀ sig, parseMethodDescriptor z.desc = some sig → argsL.length = sig.parameters.length) (hL : L.size = mx) (hf : rm.frames + 1 ≤ R.frames) (hl : (rest.map fun v => v.category).sum + (mx2 + 11) + rm.locals ≤ R.locals) (hc : k + rm.cells ≤ R.cells) (hs : n + rm.slots ≤ R.slots) (hd : decode bs pc = .ok (.invokevirtual i, 3)) (hp : pc + 3 = pc') (q : ∀ v T' h', Sd Z own bs mx ret n0 p l e R s m args below meth c T' h' (k + rm.cells) (n + rm.slots) → Q v h' → Gl p e below P (T'.setTop (mkF m pc' L (v.toList ++ rest)))) : Gl p e below P (T.setTop (mkF m pc L S)) := by
  obtain ⟨locs, X, eT, N, hn0, hx, hZ, hown, hby, hml, hrt, hlk⟩ := Y
  subst hp has hS
  obtain ⟨cq, kq, qa, qb, qc⟩ := isOf hZ eT E
  obtain ⟨v, vm₁, ⟨T', L', k', n'⟩, -, X', hB, st⟩ := X.virtualBackUp hx (x := z) (y := y) hown (mvT hZ w1) (mvT hZ w0) (mvT hZ wd) hy (mvT hZ ws) (mvT hZ w2) (backOf (Q := fun v h' L => Q v h' ∧ Fr n0 L) (W := (rest.map fun v => v.category).sum) (OMet.un hM) hZ w4 w3 hf hl) qa qc (g := mkF m pc L (argsL.reverse ++ .ref a :: rest)) rfl (by rw [hml]; exact hL) (Steps.refl _) (argsL := argsL) (rest := rest) hlen rfl (by show 2 * 0 + _ ≤ _; omega) (hb hby hd) (fun _ _ => ⟨rfl, eT, hc, hs⟩)
  obtain ⟨Lc, ⟨hQ, NL⟩, l1, l2, l3⟩ := hB
  dsimp only [Pt.U, Pt.locs, Pt.cells, Pt.slots] at X' l1 l2 l3 st hQ
  subst l1 l2 l3
  exact Gl.via st (q v T' T'.heap ⟨_, X', rfl, Fr.app N NL, hn0, hx, hZ, hown, hby, hml, hrt, hlk⟩ hQ)
theorem Gl.fin (Y : Sd Z own bs mx ret n0 p l e R s m args below meth c T h k n) {K M : Nat} {Q : Option Value → Heap → Prop} (hk : k ≤ K) (hm : n ≤ M) {g : JFrame} {v : Option Value} (hv : ret = none → v = none) (st : ∀ fs, (∀ (f : JFrame) (acts : List Action), f.method = m → f.locked = none → f.entered = [] → (doReturn e (T.setTop f) acts v).1 = T.setFrames fs) → Steps p.tables e below (T.setTop g) (T.setFrames fs)) (hQ : Q v h) : Gl p e below (Pst s n0 K M Q) (T.setTop g) := by
  obtain ⟨locs, X, eT, N, hn0, hx, hZ, hown, hby, hml, hrt, hlk⟩ := Y
  obtain ⟨fs, hr, hrun, hended, hW, hsame⟩ := X.leave (v := v) (fun q => hv (hrt.symm.trans q)) hlk
  exact ⟨_, _, st fs hr, hrun, hended, v, locs, rfl, ⟨by show Q v T.heap; rw [eT]; exact hQ, N⟩, ⟨_, rfl⟩, hW, hsame.mono hk hm⟩
theorem Gl.retV (Y : Sd Z own bs mx none n0 p l e R s m args below meth c T h k n) {K M : Nat} {Q : Option Value → Heap → Prop} (hk : k ≤ K) (hm : n ≤ M)  (hd : decode bs pc = .ok (.return_, 1)) (hQ : Q none h) : Gl p e below (Pst s n0 K M Q) (T.setTop (mkF m pc L [])) := by
  have Y0 := Y
  obtain ⟨locs, X, eT, N, hn0, hx, hZ, hown, hby, hml, hrt, hlk⟩ := Y
  exact Gl.fin Y0 hk hm (v := none) (fun q => by first | rfl | cases q) (fun fs hr => X.returnOut hx hrt (hb hby hd) hr) hQ
theorem Gl.retI (Y : Sd Z own bs mx (some .int) n0 p l e R s m args below meth c T h k n) {K M : Nat} {Q : Option Value → Heap → Prop} (hk : k ≤ K) (hm : n ≤ M) {x : Int32} (hd : decode bs pc = .ok (.ireturn, 1)) (hQ : Q (some (.int x)) h) : Gl p e below (Pst s n0 K M Q) (T.setTop (mkF m pc L (.int x :: S))) := by
  have Y0 := Y
  obtain ⟨locs, X, eT, N, hn0, hx, hZ, hown, hby, hml, hrt, hlk⟩ := Y
  exact Gl.fin Y0 hk hm (v := (some (.int x))) (fun q => by first | rfl | cases q) (fun fs hr => retOut X hx hrt rfl (Or.inl ⟨rfl, Or.inl rfl, x, rfl⟩) (hb hby hd) hr) hQ
theorem Gl.retJ (Y : Sd Z own bs mx (some .long) n0 p l e R s m args below meth c T h k n) {K M : Nat} {Q : Option Value → Heap → Prop} (hk : k ≤ K) (hm : n ≤ M) {x : Int64} (hd : decode bs pc = .ok (.lreturn, 1)) (hQ : Q (some (.long x)) h) : Gl p e below (Pst s n0 K M Q) (T.setTop (mkF m pc L (.long x :: S))) := by
  have Y0 := Y
  obtain ⟨locs, X, eT, N, hn0, hx, hZ, hown, hby, hml, hrt, hlk⟩ := Y
  exact Gl.fin Y0 hk hm (v := (some (.long x))) (fun q => by first | rfl | cases q) (fun fs hr => retOut X hx hrt rfl (Or.inr (Or.inl ⟨rfl, rfl, x, rfl⟩)) (hb hby hd) hr) hQ
theorem Gl.retA (Y : Sd Z own bs mx (some t) n0 p l e R s m args below meth c T h k n) {K M : Nat} {Q : Option Value → Heap → Prop} (hk : k ≤ K) (hm : n ≤ M) {x : Value} (ht : t.isReference = true) (hxr : x.isRef = true) (hd : decode bs pc = .ok (.areturn, 1)) (hQ : Q (some x) h) : Gl p e below (Pst s n0 K M Q) (T.setTop (mkF m pc L (x :: S))) := by
  have Y0 := Y
  obtain ⟨locs, X, eT, N, hn0, hx, hZ, hown, hby, hml, hrt, hlk⟩ := Y
  exact Gl.fin Y0 hk hm (v := (some x)) (fun q => by first | rfl | cases q) (fun fs hr => retOut X hx hrt (own_narR hxr) (Or.inr (Or.inr (Or.inr (Or.inr ⟨rfl, ht, hxr⟩)))) (hb hby hd) hr) hQ
theorem Gl.retZ (Y : Sd Z own bs mx (some .boolean) n0 p l e R s m args below meth c T h k n) {K M : Nat} {Q : Option Value → Heap → Prop} (hk : k ≤ K) (hm : n ≤ M) {x x' : Int32} (hxn : nar .boolean x = x') (hd : decode bs pc = .ok (.ireturn, 1)) (hQ : Q (some (.int x')) h) : Gl p e below (Pst s n0 K M Q) (T.setTop (mkF m pc L (.int x :: S))) := by
  have Y0 := Y
  obtain ⟨locs, X, eT, N, hn0, hx, hZ, hown, hby, hml, hrt, hlk⟩ := Y
  exact Gl.fin Y0 hk hm (v := (some (.int x'))) (fun q => by first | rfl | cases q) (fun fs hr => retN X hx (t := .boolean) hrt (by simp) (hb hby hd) (by rw [hxn]; exact hr)) hQ
theorem Gl.retB (Y : Sd Z own bs mx (some .byte) n0 p l e R s m args below meth c T h k n) {K M : Nat} {Q : Option Value → Heap → Prop} (hk : k ≤ K) (hm : n ≤ M) {x x' : Int32} (hxn : nar .byte x = x') (hd : decode bs pc = .ok (.ireturn, 1)) (hQ : Q (some (.int x')) h) : Gl p e below (Pst s n0 K M Q) (T.setTop (mkF m pc L (.int x :: S))) := by
  have Y0 := Y
  obtain ⟨locs, X, eT, N, hn0, hx, hZ, hown, hby, hml, hrt, hlk⟩ := Y
  exact Gl.fin Y0 hk hm (v := (some (.int x'))) (fun q => by first | rfl | cases q) (fun fs hr => retN X hx (t := .byte) hrt (by simp) (hb hby hd) (by rw [hxn]; exact hr)) hQ
theorem Gl.retC (Y : Sd Z own bs mx (some .char) n0 p l e R s m args below meth c T h k n) {K M : Nat} {Q : Option Value → Heap → Prop} (hk : k ≤ K) (hm : n ≤ M) {x x' : Int32} (hxn : nar .char x = x') (hd : decode bs pc = .ok (.ireturn, 1)) (hQ : Q (some (.int x')) h) : Gl p e below (Pst s n0 K M Q) (T.setTop (mkF m pc L (.int x :: S))) := by
  have Y0 := Y
  obtain ⟨locs, X, eT, N, hn0, hx, hZ, hown, hby, hml, hrt, hlk⟩ := Y
  exact Gl.fin Y0 hk hm (v := (some (.int x'))) (fun q => by first | rfl | cases q) (fun fs hr => retN X hx (t := .char) hrt (by simp) (hb hby hd) (by rw [hxn]; exact hr)) hQ
theorem Gl.retSh (Y : Sd Z own bs mx (some .short) n0 p l e R s m args below meth c T h k n) {K M : Nat} {Q : Option Value → Heap → Prop} (hk : k ≤ K) (hm : n ≤ M) {x x' : Int32} (hxn : nar .short x = x') (hd : decode bs pc = .ok (.ireturn, 1)) (hQ : Q (some (.int x')) h) : Gl p e below (Pst s n0 K M Q) (T.setTop (mkF m pc L (.int x :: S))) := by
  have Y0 := Y
  obtain ⟨locs, X, eT, N, hn0, hx, hZ, hown, hby, hml, hrt, hlk⟩ := Y
  exact Gl.fin Y0 hk hm (v := (some (.int x'))) (fun q => by first | rfl | cases q) (fun fs hr => retN X hx (t := .short) hrt (by simp) (hb hby hd) (by rw [hxn]; exact hr)) hQ
end Kit
end Jvm.OwnWk

namespace Jvm.Pilot.@@N@@
open Jvm Jvm.ClassFile Sem Op Lib Jvm.Free Jvm.Stand Jvm.LawKit Jvm.RoadKit Bundle Jvm.OwnWk Jvm.Pilot.@@N@@.Jvm.D
abbrev kW : String := "com/example/meterwise/meterwise/model/WholeNumber"
abbrev HW (a0 : Array Value) (Z : State) : Prop := ∀ d ∈ tables_1, d.before a0 Z = true
theorem own_k3 {a v : Int32} (h : a &&& (3 : Int32) = v) : v = 0 ∨ v = 1 ∨ v = 2 ∨ v = 3 := by
  have q := c_mask a (3 : Int32) 2 (by decide) (by decide)
  rw [h] at q
  exact own_c3 (by omega) (by omega)
theorem own_sn {v : Int64} (h : v < 0) : v >>> ((63 : Int32) &&& 0x3f).toInt64 = -1 := by
  have q := c_lshr v (63 : Int32) 63 (by decide)
  have r := rng64 v
  have k := Int64.lt_iff_toInt_lt.mp h
  apply Int64.toInt_inj.mp
  simp only [Int64.reduceToInt] at *
  omega
theorem own_sp {v : Int64} (h : ¬ v < 0) : v >>> ((63 : Int32) &&& 0x3f).toInt64 = 0 := by
  have q := c_lshr v (63 : Int32) 63 (by decide)
  have r := rng64 v
  have k : ¬ v.toInt < (0 : Int64).toInt := fun z => h (Int64.lt_iff_toInt_lt.mpr z)
  apply Int64.toInt_inj.mp
  simp only [Int64.reduceToInt] at *
  omega
theorem dA_0 : decode prog_137_method_1_code 0 = .ok (.aload_n 0, 1) := by decide +kernel
theorem dA_1 : decode prog_137_method_1_code 1 = .ok (.invokespecial 1, 3) := by decide +kernel
theorem tw_7 {a0 : Array Value} {Z : State} (hw : HW a0 Z) : (Jvm.Cond.methodLink "com/example/meterwise/meterwise/model/WholeNumber" (1 : Nat) ({ cls := "java/lang/Object", name := "<init>", desc := "()V" } : Jvm.MethodName)).before a0 Z = true := hw _ (List.mem_of_getElem? (i := 7) rfl)
theorem tw_8 {a0 : Array Value} {Z : State} (hw : HW a0 Z) : (Jvm.Cond.instanceMethod ({ cls := "java/lang/Object", name := "<init>", desc := "()V" } : Jvm.MethodName)).before a0 Z = true := hw _ (List.mem_of_getElem? (i := 8) rfl)
theorem tw_9 {a0 : Array Value} {Z : State} (hw : HW a0 Z) : (Jvm.Cond.code ({ cls := "java/lang/Object", name := "<init>", desc := "()V" } : Jvm.MethodName) object_method_1_code (1 : Nat) (Option.none : Option Jvm.ClassFile.FieldType)).before a0 Z = true := hw _ (List.mem_of_getElem? (i := 9) rfl)
theorem dA_4 : decode prog_137_method_1_code 4 = .ok (.iload_n 1, 1) := by decide +kernel
theorem dA_5 : decode prog_137_method_1_code 5 = .ok (.iconst 1, 1) := by decide +kernel
theorem dA_6 : decode prog_137_method_1_code 6 = .ok (.if_icmp .ge 17, 3) := by decide +kernel
theorem dA_23 : decode prog_137_method_1_code 23 = .ok (.iload_n 1, 1) := by decide +kernel
theorem dA_24 : decode prog_137_method_1_code 24 = .ok (.i2l, 1) := by decide +kernel
theorem dA_25 : decode prog_137_method_1_code 25 = .ok (.ldc2_w 16, 3) := by decide +kernel
theorem tw_10 {a0 : Array Value} {Z : State} (hw : HW a0 Z) : (Jvm.Cond.constantLong "com/example/meterwise/meterwise/model/WholeNumber" (16 : Nat) (3322 : Int64)).before a0 Z = true := hw _ (List.mem_of_getElem? (i := 10) rfl)
theorem dA_28 : decode prog_137_method_1_code 28 = .ok (.lmul, 1) := by decide +kernel
theorem dA_29 : decode prog_137_method_1_code 29 = .ok (.ldc2_w 18, 3) := by decide +kernel
theorem tw_11 {a0 : Array Value} {Z : State} (hw : HW a0 Z) : (Jvm.Cond.constantLong "com/example/meterwise/meterwise/model/WholeNumber" (18 : Nat) (999 : Int64)).before a0 Z = true := hw _ (List.mem_of_getElem? (i := 11) rfl)
theorem dA_32 : decode prog_137_method_1_code 32 = .ok (.ladd, 1) := by decide +kernel
theorem dA_33 : decode prog_137_method_1_code 33 = .ok (.ldc2_w 20, 3) := by decide +kernel
theorem tw_12 {a0 : Array Value} {Z : State} (hw : HW a0 Z) : (Jvm.Cond.constantLong "com/example/meterwise/meterwise/model/WholeNumber" (20 : Nat) (1000 : Int64)).before a0 Z = true := hw _ (List.mem_of_getElem? (i := 12) rfl)
theorem dA_36 : decode prog_137_method_1_code 36 = .ok (.ldiv, 1) := by decide +kernel
theorem dA_37 : decode prog_137_method_1_code 37 = .ok (.lconst 1, 1) := by decide +kernel
theorem dA_38 : decode prog_137_method_1_code 38 = .ok (.ladd, 1) := by decide +kernel
theorem dA_39 : decode prog_137_method_1_code 39 = .ok (.lstore_n 2, 1) := by decide +kernel
theorem dA_40 : decode prog_137_method_1_code 40 = .ok (.aload_n 0, 1) := by decide +kernel
theorem dA_41 : decode prog_137_method_1_code 41 = .ok (.lload_n 2, 1) := by decide +kernel
theorem dA_42 : decode prog_137_method_1_code 42 = .ok (.ldc2_w 24, 3) := by decide +kernel
theorem tw_13 {a0 : Array Value} {Z : State} (hw : HW a0 Z) : (Jvm.Cond.constantLong "com/example/meterwise/meterwise/model/WholeNumber" (24 : Nat) (64 : Int64)).before a0 Z = true := hw _ (List.mem_of_getElem? (i := 13) rfl)
theorem dA_45 : decode prog_137_method_1_code 45 = .ok (.ladd, 1) := by decide +kernel
theorem dA_46 : decode prog_137_method_1_code 46 = .ok (.lconst 1, 1) := by decide +kernel
theorem dA_47 : decode prog_137_method_1_code 47 = .ok (.lsub, 1) := by decide +kernel
theorem dA_48 : decode prog_137_method_1_code 48 = .ok (.ldc2_w 24, 3) := by decide +kernel
theorem dA_51 : decode prog_137_method_1_code 51 = .ok (.ldiv, 1) := by decide +kernel
theorem dA_52 : decode prog_137_method_1_code 52 = .ok (.l2i, 1) := by decide +kernel
theorem dA_53 : decode prog_137_method_1_code 53 = .ok (.newarray .long, 2) := by decide +kernel
theorem tw_14 {a0 : Array Value} {Z : State} (hw : HW a0 Z) : (Jvm.Cond.arrayClass Jvm.ClassFile.FieldType.long).before a0 Z = true := hw _ (List.mem_of_getElem? (i := 14) rfl)
theorem dA_55 : decode prog_137_method_1_code 55 = .ok (.putfield 26, 3) := by decide +kernel
theorem tw_15 {a0 : Array Value} {Z : State} (hw : HW a0 Z) : (Jvm.Cond.fieldLink "com/example/meterwise/meterwise/model/WholeNumber" (26 : Nat) "com/example/meterwise/meterwise/model/WholeNumber" "words" "[J").before a0 Z = true := hw _ (List.mem_of_getElem? (i := 15) rfl)
theorem tw_16 {a0 : Array Value} {Z : State} (hw : HW a0 Z) : (Jvm.Cond.laysFinal "com/example/meterwise/meterwise/model/WholeNumber" "com/example/meterwise/meterwise/model/WholeNumber" "words" "[J").before a0 Z = true := hw _ (List.mem_of_getElem? (i := 16) rfl)
theorem tw_2 {a0 : Array Value} {Z : State} (hw : HW a0 Z) : (Jvm.Cond.instantiable "com/example/meterwise/meterwise/model/WholeNumber" (2 : Nat)).before a0 Z = true := hw _ (List.mem_of_getElem? (i := 2) rfl)
theorem dA_58 : decode prog_137_method_1_code 58 = .ok (.return_, 1) := by decide +kernel
theorem tw_79 {a0 : Array Value} {Z : State} (hw : HW a0 Z) : (Jvm.Cond.lays "com/example/meterwise/meterwise/model/WholeNumber" "com/example/meterwise/meterwise/model/WholeNumber" "work" "[J").before a0 Z = true := hw _ (List.mem_of_getElem? (i := 79) rfl)
def R0 : Room := { frames := 1, cells := 1, slots := 1, locals := 12 }
def Q0 (Z : State) (a : Addr) (dg : Int32) (h0 : Heap) (v : Option Value) (h : Heap) : Prop := ∃ wa : Addr, ∃ ck : ClassId, v = none ∧ Keep h0 h [a] ∧ h0.size ≤ wa ∧ Exa Z h a kW ∧ Fld Z h a kW "words" "[J" (.ref wa) ∧ Fld Z h a kW "work" "[J" .null ∧ Arv Z h wa ck .long (1 : Int32) [(.long 0)] (.long 0)
theorem ef0 (a : Addr) (dg : Int32) (m : MethodId) : entryFrame m #[(.ref a), (.int dg)] 4 = mkF m 0 #[.val (.ref a), .val (.int dg), .unset, .unset] [] := by first | (simp [entryFrame, mkF, argsToLocals, Value.category]; done) | rfl
theorem pn_0 : plainName "com/example/meterwise/meterwise/model/WholeNumber" = true := by first | (simp [plainName, overriddenIn]; done) | decide +kernel
theorem rm0 (l : Launch) (Z : State) (a0 : Array Value) (hw : HW a0 Z) (ws : List Jvm.Cond) (a : Addr) (dg : Int32) (h0 : Heap) (n0 : Nat) (Z0 : n0 ≤ h0.size) (E : Exa Z h0 a kW) (F_words : Fld Z h0 a kW "words" "[J" .null) (F_work : Fld Z h0 a kW "work" "[J" .null) (ga : n0 ≤ a) (h1 : 1 ≤ dg.toInt) (h2 : dg.toInt ≤ 18) : OMet l Z ws (⟨"com/example/meterwise/meterwise/model/WholeNumber", "<init>", "(I)V"⟩ : MethodName) prog_137_method_1_code 4 none R0 #[(.ref a), (.int dg)] h0 n0 (Q0 Z a dg h0) := by
  refine OMet.of (own := "com/example/meterwise/meterwise/model/WholeNumber") rfl (plainFor_of_name pn_0) (ef0 a dg) Z0 ?_
  intro p e s m below meth c T0 Y0 hnm
  have ndg := rng32 dg
  refine Gl.aloadN Y0 rfl rfl dA_0 rfl ?_
  refine Gl.initO Y0 (tw_7 hw) (tw_8 hw) (tw_9 hw) rfl (by decide) (Nat.le_of_ble_eq_true rfl) dA_1 rfl (fun T1 Y1 => ?_)
  refine Gl.iloadN Y1 rfl dA_4 rfl ?_
  refine Gl.iconst Y1 (v := (1 : Int32)) (by decide) dA_5 rfl ?_
  refine Gl.icmpge Y1 dA_6 (by decide) rfl rfl (fun c6 => ?_) (fun c6 => ?_)
  rotate_left
  · exfalso; have j6 : dg.toInt < 1 := Int32.lt_iff_toInt_lt.mp c6; omega
  have j6 : ¬ (dg.toInt < 1) := fun q => c6 (Int32.lt_iff_toInt_lt.mpr q)
  refine Gl.iloadN Y1 rfl dA_23 rfl ?_
  obtain ⟨v24, hv24⟩ : ∃ z : Int64, dg.toInt64 = z := ⟨_, rfl⟩
  have iv24 : v24.toInt = dg.toInt := by have q := c_i2l dg; rw [hv24] at q; exact q
  refine Gl.i2l Y1 hv24 dA_24 rfl ?_
  refine Gl.ldcJ Y1 (tw_10 hw) dA_25 rfl ?_
  obtain ⟨v28, hv28⟩ : ∃ z : Int64, v24 * (3322 : Int64) = z := ⟨_, rfl⟩
  have iv28 : v28.toInt = v24.toInt * 3322 := by
    have q : (v28.toInt - (v24.toInt * 3322)) % 18446744073709551616 = 0 := by have q := c_lmul v24 (3322 : Int64); rw [hv28] at q; exact q
    have r := rng64 v28
    omega
  refine Gl.lmul Y1 hv28 dA_28 rfl ?_
  refine Gl.ldcJ Y1 (tw_11 hw) dA_29 rfl ?_
  obtain ⟨v32, hv32⟩ : ∃ z : Int64, v28 + (999 : Int64) = z := ⟨_, rfl⟩
  have iv32 : v32.toInt = v28.toInt + 999 := by
    have q : (v32.toInt - (v28.toInt + 999)) % 18446744073709551616 = 0 := by have q := c_ladd v28 (999 : Int64); rw [hv32] at q; exact q
    have r := rng64 v32
    omega
  refine Gl.ladd Y1 hv32 dA_32 rfl ?_
  refine Gl.ldcJ Y1 (tw_12 hw) dA_33 rfl ?_
  obtain ⟨v36, hv36⟩ : ∃ z : Int64, v32 / (1000 : Int64) = z := ⟨_, rfl⟩
  have iv36 : v36.toInt = v32.toInt / 1000 := by have q := (c_ldiv v32 (1000 : Int64) 1000 (by decide) (by decide)).1 (by omega); rw [hv36] at q; exact q
  refine Gl.ldiv Y1 (by decide) hv36 dA_36 rfl ?_
  refine Gl.lconst Y1 (v := (1 : Int64)) (by decide) dA_37 rfl ?_
  obtain ⟨v38, hv38⟩ : ∃ z : Int64, v36 + (1 : Int64) = z := ⟨_, rfl⟩
  have iv38 : v38.toInt = v36.toInt + 1 := by
    have q : (v38.toInt - (v36.toInt + 1)) % 18446744073709551616 = 0 := by have q := c_ladd v36 (1 : Int64); rw [hv38] at q; exact q
    have r := rng64 v38
    omega
  refine Gl.ladd Y1 hv38 dA_38 rfl ?_
  refine Gl.lstoreN Y1 (L' := #[.val (.ref a), .val (.int dg), .val (.long v38), .second]) rfl dA_39 rfl ?_
  refine Gl.aloadN Y1 rfl rfl dA_40 rfl ?_
  refine Gl.lloadN Y1 rfl dA_41 rfl ?_
  refine Gl.ldcJ Y1 (tw_13 hw) dA_42 rfl ?_
  obtain ⟨v45, hv45⟩ : ∃ z : Int64, v38 + (64 : Int64) = z := ⟨_, rfl⟩
  have iv45 : v45.toInt = v38.toInt + 64 := by
    have q : (v45.toInt - (v38.toInt + 64)) % 18446744073709551616 = 0 := by have q := c_ladd v38 (64 : Int64); rw [hv45] at q; exact q
    have r := rng64 v45
    omega
  refine Gl.ladd Y1 hv45 dA_45 rfl ?_
  refine Gl.lconst Y1 (v := (1 : Int64)) (by decide) dA_46 rfl ?_
  obtain ⟨v47, hv47⟩ : ∃ z : Int64, v45 - (1 : Int64) = z := ⟨_, rfl⟩
  have iv47 : v47.toInt = v45.toInt - 1 := by
    have q : (v47.toInt - (v45.toInt - 1)) % 18446744073709551616 = 0 := by have q := c_lsub v45 (1 : Int64); rw [hv47] at q; exact q
    have r := rng64 v47
    omega
  refine Gl.lsub Y1 hv47 dA_47 rfl ?_
  refine Gl.ldcJ Y1 (tw_13 hw) dA_48 rfl ?_
  obtain ⟨v51, hv51⟩ : ∃ z : Int64, v47 / (64 : Int64) = z := ⟨_, rfl⟩
  have iv51 : v51.toInt = v47.toInt / 64 := by have q := (c_ldiv v47 (64 : Int64) 64 (by decide) (by decide)).1 (by omega); rw [hv51] at q; exact q
  refine Gl.ldiv Y1 (by decide) hv51 dA_51 rfl ?_
  obtain ⟨v52, hv52⟩ : ∃ z : Int32, v51.toInt32 = z := ⟨_, rfl⟩
  have iv52 : v52.toInt = v51.toInt := by
    have q : (v52.toInt - v51.toInt) % 4294967296 = 0 := by have q := c_l2i v51; rw [hv52] at q; exact q
    have r := rng32 v52
    omega
  refine Gl.l2i Y1 hv52 dA_52 rfl ?_
  obtain rfl : v52 = (1 : Int32) := Int32.toInt_inj.mp (by simp only [Int32.reduceToInt]; omega)
  refine Gl.newP Y1 1 (ty := .long) rfl (tw_14 hw) (by decide) (by decide) (Nat.le_of_ble_eq_true rfl) (Nat.le_of_ble_eq_true rfl) (Nat.le_of_ble_eq_true rfl) dA_53 rfl (fun T53 h53 b53 ck53 Y53 E53 g53 sb53 V53 => ?_)
  have V53 : Arv Z h53 b53 ck53 .long (1 : Int32) [(.long 0)] (.long 0) := V53.pad (pad_rep [] (.long 0) 1)
  have zb53 : h0.size ≤ b53 := Nat.le_trans (Keep.refl h0 [a]).1 (Nat.le_of_eq g53.symm)
  have K53 : Keep h0 h53 [a] := (Keep.refl h0 [a]).ext E53
  show Gl p e below _ (T53.setTop (mkF m 55 _ [(.ref b53), (.ref a)]))
  have f1 := (Fld.ext E53 F_words)
  have f2 := (Exa.ext E53 E)
  refine Gl.putF Y53 (host := "") (Or.inl (tw_15 hw)) Via.refl f1 f2 (Or.inr ⟨(tw_16 hw), rfl, hnm⟩) (tw_2 hw) ga (ty := (.array .long)) (by decide) rfl rfl dA_55 rfl (fun T55 h55 Y55 W55 => ?_)
  have f3 : Fld Z h55 a kW "words" "[J" (.ref b53) := Fld.same W55 f1
  have K55 : Keep h0 h55 [a] := K53.wr W55 (Or.inl (List.mem_of_getElem? (i := 0) rfl))
  have f4 := (Exa.wr W55 f2)
  have f5 := (Fld.other W55 (Fld.ext E53 F_work) (Or.inr (slot_ne (Or.inl (tw_79 hw)) (Or.inr (tw_16 hw)) (by decide) (t := (.array .long)) (t' := (.array .long)) (by decide) (by decide))))
  have f6 := (V53.other W55 (Ne.symm (Nat.ne_of_lt (Nat.lt_of_lt_of_eq E.lt g53.symm))))
  exact Gl.retV Y55 (by decide) (by decide)  dA_58 ⟨b53, ck53, rfl, K55, zb53, f4, (by first | exact f3 | (subst_vars; exact f3) | (rw [PF]; exact f3)), f5, f6⟩
def R1 : Room := { frames := 1, cells := 1, slots := 2, locals := 12 }
def Q1 (Z : State) (a : Addr) (dg : Int32) (h0 : Heap) (v : Option Value) (h : Heap) : Prop := ∃ wa : Addr, ∃ ck : ClassId, v = none ∧ Keep h0 h [a] ∧ h0.size ≤ wa ∧ Exa Z h a kW ∧ Fld Z h a kW "words" "[J" (.ref wa) ∧ Fld Z h a kW "work" "[J" .null ∧ Arv Z h wa ck .long (2 : Int32) [(.long 0), (.long 0)] (.long 0)
theorem ef1 (a : Addr) (dg : Int32) (m : MethodId) : entryFrame m #[(.ref a), (.int dg)] 4 = mkF m 0 #[.val (.ref a), .val (.int dg), .unset, .unset] [] := by first | (simp [entryFrame, mkF, argsToLocals, Value.category]; done) | rfl
theorem rm1 (l : Launch) (Z : State) (a0 : Array Value) (hw : HW a0 Z) (ws : List Jvm.Cond) (a : Addr) (dg : Int32) (h0 : Heap) (n0 : Nat) (Z0 : n0 ≤ h0.size) (E : Exa Z h0 a kW) (F_words : Fld Z h0 a kW "words" "[J" .null) (F_work : Fld Z h0 a kW "work" "[J" .null) (ga : n0 ≤ a) (h1 : 19 ≤ dg.toInt) (h2 : dg.toInt ≤ 38) : OMet l Z ws (⟨"com/example/meterwise/meterwise/model/WholeNumber", "<init>", "(I)V"⟩ : MethodName) prog_137_method_1_code 4 none R1 #[(.ref a), (.int dg)] h0 n0 (Q1 Z a dg h0) := by
  refine OMet.of (own := "com/example/meterwise/meterwise/model/WholeNumber") rfl (plainFor_of_name pn_0) (ef1 a dg) Z0 ?_
  intro p e s m below meth c T0 Y0 hnm
  have ndg := rng32 dg
  refine Gl.aloadN Y0 rfl rfl dA_0 rfl ?_
  refine Gl.initO Y0 (tw_7 hw) (tw_8 hw) (tw_9 hw) rfl (by decide) (Nat.le_of_ble_eq_true rfl) dA_1 rfl (fun T1 Y1 => ?_)
  refine Gl.iloadN Y1 rfl dA_4 rfl ?_
  refine Gl.iconst Y1 (v := (1 : Int32)) (by decide) dA_5 rfl ?_
  refine Gl.icmpge Y1 dA_6 (by decide) rfl rfl (fun c6 => ?_) (fun c6 => ?_)
  rotate_left
  · exfalso; have j6 : dg.toInt < 1 := Int32.lt_iff_toInt_lt.mp c6; omega
  have j6 : ¬ (dg.toInt < 1) := fun q => c6 (Int32.lt_iff_toInt_lt.mpr q)
  refine Gl.iloadN Y1 rfl dA_23 rfl ?_
  obtain ⟨v24, hv24⟩ : ∃ z : Int64, dg.toInt64 = z := ⟨_, rfl⟩
  have iv24 : v24.toInt = dg.toInt := by have q := c_i2l dg; rw [hv24] at q; exact q
  refine Gl.i2l Y1 hv24 dA_24 rfl ?_
  refine Gl.ldcJ Y1 (tw_10 hw) dA_25 rfl ?_
  obtain ⟨v28, hv28⟩ : ∃ z : Int64, v24 * (3322 : Int64) = z := ⟨_, rfl⟩
  have iv28 : v28.toInt = v24.toInt * 3322 := by
    have q : (v28.toInt - (v24.toInt * 3322)) % 18446744073709551616 = 0 := by have q := c_lmul v24 (3322 : Int64); rw [hv28] at q; exact q
    have r := rng64 v28
    omega
  refine Gl.lmul Y1 hv28 dA_28 rfl ?_
  refine Gl.ldcJ Y1 (tw_11 hw) dA_29 rfl ?_
  obtain ⟨v32, hv32⟩ : ∃ z : Int64, v28 + (999 : Int64) = z := ⟨_, rfl⟩
  have iv32 : v32.toInt = v28.toInt + 999 := by
    have q : (v32.toInt - (v28.toInt + 999)) % 18446744073709551616 = 0 := by have q := c_ladd v28 (999 : Int64); rw [hv32] at q; exact q
    have r := rng64 v32
    omega
  refine Gl.ladd Y1 hv32 dA_32 rfl ?_
  refine Gl.ldcJ Y1 (tw_12 hw) dA_33 rfl ?_
  obtain ⟨v36, hv36⟩ : ∃ z : Int64, v32 / (1000 : Int64) = z := ⟨_, rfl⟩
  have iv36 : v36.toInt = v32.toInt / 1000 := by have q := (c_ldiv v32 (1000 : Int64) 1000 (by decide) (by decide)).1 (by omega); rw [hv36] at q; exact q
  refine Gl.ldiv Y1 (by decide) hv36 dA_36 rfl ?_
  refine Gl.lconst Y1 (v := (1 : Int64)) (by decide) dA_37 rfl ?_
  obtain ⟨v38, hv38⟩ : ∃ z : Int64, v36 + (1 : Int64) = z := ⟨_, rfl⟩
  have iv38 : v38.toInt = v36.toInt + 1 := by
    have q : (v38.toInt - (v36.toInt + 1)) % 18446744073709551616 = 0 := by have q := c_ladd v36 (1 : Int64); rw [hv38] at q; exact q
    have r := rng64 v38
    omega
  refine Gl.ladd Y1 hv38 dA_38 rfl ?_
  refine Gl.lstoreN Y1 (L' := #[.val (.ref a), .val (.int dg), .val (.long v38), .second]) rfl dA_39 rfl ?_
  refine Gl.aloadN Y1 rfl rfl dA_40 rfl ?_
  refine Gl.lloadN Y1 rfl dA_41 rfl ?_
  refine Gl.ldcJ Y1 (tw_13 hw) dA_42 rfl ?_
  obtain ⟨v45, hv45⟩ : ∃ z : Int64, v38 + (64 : Int64) = z := ⟨_, rfl⟩
  have iv45 : v45.toInt = v38.toInt + 64 := by
    have q : (v45.toInt - (v38.toInt + 64)) % 18446744073709551616 = 0 := by have q := c_ladd v38 (64 : Int64); rw [hv45] at q; exact q
    have r := rng64 v45
    omega
  refine Gl.ladd Y1 hv45 dA_45 rfl ?_
  refine Gl.lconst Y1 (v := (1 : Int64)) (by decide) dA_46 rfl ?_
  obtain ⟨v47, hv47⟩ : ∃ z : Int64, v45 - (1 : Int64) = z := ⟨_, rfl⟩
  have iv47 : v47.toInt = v45.toInt - 1 := by
    have q : (v47.toInt - (v45.toInt - 1)) % 18446744073709551616 = 0 := by have q := c_lsub v45 (1 : Int64); rw [hv47] at q; exact q
    have r := rng64 v47
    omega
  refine Gl.lsub Y1 hv47 dA_47 rfl ?_
  refine Gl.ldcJ Y1 (tw_13 hw) dA_48 rfl ?_
  obtain ⟨v51, hv51⟩ : ∃ z : Int64, v47 / (64 : Int64) = z := ⟨_, rfl⟩
  have iv51 : v51.toInt = v47.toInt / 64 := by have q := (c_ldiv v47 (64 : Int64) 64 (by decide) (by decide)).1 (by omega); rw [hv51] at q; exact q
  refine Gl.ldiv Y1 (by decide) hv51 dA_51 rfl ?_
  obtain ⟨v52, hv52⟩ : ∃ z : Int32, v51.toInt32 = z := ⟨_, rfl⟩
  have iv52 : v52.toInt = v51.toInt := by
    have q : (v52.toInt - v51.toInt) % 4294967296 = 0 := by have q := c_l2i v51; rw [hv52] at q; exact q
    have r := rng32 v52
    omega
  refine Gl.l2i Y1 hv52 dA_52 rfl ?_
  obtain rfl : v52 = (2 : Int32) := Int32.toInt_inj.mp (by simp only [Int32.reduceToInt]; omega)
  refine Gl.newP Y1 2 (ty := .long) rfl (tw_14 hw) (by decide) (by decide) (Nat.le_of_ble_eq_true rfl) (Nat.le_of_ble_eq_true rfl) (Nat.le_of_ble_eq_true rfl) dA_53 rfl (fun T53 h53 b53 ck53 Y53 E53 g53 sb53 V53 => ?_)
  have V53 : Arv Z h53 b53 ck53 .long (2 : Int32) [(.long 0), (.long 0)] (.long 0) := V53.pad (pad_rep [] (.long 0) 2)
  have zb53 : h0.size ≤ b53 := Nat.le_trans (Keep.refl h0 [a]).1 (Nat.le_of_eq g53.symm)
  have K53 : Keep h0 h53 [a] := (Keep.refl h0 [a]).ext E53
  show Gl p e below _ (T53.setTop (mkF m 55 _ [(.ref b53), (.ref a)]))
  have f1 := (Fld.ext E53 F_words)
  have f2 := (Exa.ext E53 E)
  refine Gl.putF Y53 (host := "") (Or.inl (tw_15 hw)) Via.refl f1 f2 (Or.inr ⟨(tw_16 hw), rfl, hnm⟩) (tw_2 hw) ga (ty := (.array .long)) (by decide) rfl rfl dA_55 rfl (fun T55 h55 Y55 W55 => ?_)
  have f3 : Fld Z h55 a kW "words" "[J" (.ref b53) := Fld.same W55 f1
  have K55 : Keep h0 h55 [a] := K53.wr W55 (Or.inl (List.mem_of_getElem? (i := 0) rfl))
  have f4 := (Exa.wr W55 f2)
  have f5 := (Fld.other W55 (Fld.ext E53 F_work) (Or.inr (slot_ne (Or.inl (tw_79 hw)) (Or.inr (tw_16 hw)) (by decide) (t := (.array .long)) (t' := (.array .long)) (by decide) (by decide))))
  have f6 := (V53.other W55 (Ne.symm (Nat.ne_of_lt (Nat.lt_of_lt_of_eq E.lt g53.symm))))
  exact Gl.retV Y55 (by decide) (by decide)  dA_58 ⟨b53, ck53, rfl, K55, zb53, f4, (by first | exact f3 | (subst_vars; exact f3) | (rw [PF]; exact f3)), f5, f6⟩
def R2 : Room := { frames := 1, cells := 1, slots := 3, locals := 12 }
def Q2 (Z : State) (a : Addr) (dg : Int32) (h0 : Heap) (v : Option Value) (h : Heap) : Prop := ∃ wa : Addr, ∃ ck : ClassId, v = none ∧ Keep h0 h [a] ∧ h0.size ≤ wa ∧ Exa Z h a kW ∧ Fld Z h a kW "words" "[J" (.ref wa) ∧ Fld Z h a kW "work" "[J" .null ∧ Arv Z h wa ck .long (3 : Int32) [(.long 0), (.long 0), (.long 0)] (.long 0)
theorem ef2 (a : Addr) (dg : Int32) (m : MethodId) : entryFrame m #[(.ref a), (.int dg)] 4 = mkF m 0 #[.val (.ref a), .val (.int dg), .unset, .unset] [] := by first | (simp [entryFrame, mkF, argsToLocals, Value.category]; done) | rfl
theorem rm2 (l : Launch) (Z : State) (a0 : Array Value) (hw : HW a0 Z) (ws : List Jvm.Cond) (a : Addr) (dg : Int32) (h0 : Heap) (n0 : Nat) (Z0 : n0 ≤ h0.size) (E : Exa Z h0 a kW) (F_words : Fld Z h0 a kW "words" "[J" .null) (F_work : Fld Z h0 a kW "work" "[J" .null) (ga : n0 ≤ a) (h1 : 39 ≤ dg.toInt) (h2 : dg.toInt ≤ 57) : OMet l Z ws (⟨"com/example/meterwise/meterwise/model/WholeNumber", "<init>", "(I)V"⟩ : MethodName) prog_137_method_1_code 4 none R2 #[(.ref a), (.int dg)] h0 n0 (Q2 Z a dg h0) := by
  refine OMet.of (own := "com/example/meterwise/meterwise/model/WholeNumber") rfl (plainFor_of_name pn_0) (ef2 a dg) Z0 ?_
  intro p e s m below meth c T0 Y0 hnm
  have ndg := rng32 dg
  refine Gl.aloadN Y0 rfl rfl dA_0 rfl ?_
  refine Gl.initO Y0 (tw_7 hw) (tw_8 hw) (tw_9 hw) rfl (by decide) (Nat.le_of_ble_eq_true rfl) dA_1 rfl (fun T1 Y1 => ?_)
  refine Gl.iloadN Y1 rfl dA_4 rfl ?_
  refine Gl.iconst Y1 (v := (1 : Int32)) (by decide) dA_5 rfl ?_
  refine Gl.icmpge Y1 dA_6 (by decide) rfl rfl (fun c6 => ?_) (fun c6 => ?_)
  rotate_left
  · exfalso; have j6 : dg.toInt < 1 := Int32.lt_iff_toInt_lt.mp c6; omega
  have j6 : ¬ (dg.toInt < 1) := fun q => c6 (Int32.lt_iff_toInt_lt.mpr q)
  refine Gl.iloadN Y1 rfl dA_23 rfl ?_
  obtain ⟨v24, hv24⟩ : ∃ z : Int64, dg.toInt64 = z := ⟨_, rfl⟩
  have iv24 : v24.toInt = dg.toInt := by have q := c_i2l dg; rw [hv24] at q; exact q
  refine Gl.i2l Y1 hv24 dA_24 rfl ?_
  refine Gl.ldcJ Y1 (tw_10 hw) dA_25 rfl ?_
  obtain ⟨v28, hv28⟩ : ∃ z : Int64, v24 * (3322 : Int64) = z := ⟨_, rfl⟩
  have iv28 : v28.toInt = v24.toInt * 3322 := by
    have q : (v28.toInt - (v24.toInt * 3322)) % 18446744073709551616 = 0 := by have q := c_lmul v24 (3322 : Int64); rw [hv28] at q; exact q
    have r := rng64 v28
    omega
  refine Gl.lmul Y1 hv28 dA_28 rfl ?_
  refine Gl.ldcJ Y1 (tw_11 hw) dA_29 rfl ?_
  obtain ⟨v32, hv32⟩ : ∃ z : Int64, v28 + (999 : Int64) = z := ⟨_, rfl⟩
  have iv32 : v32.toInt = v28.toInt + 999 := by
    have q : (v32.toInt - (v28.toInt + 999)) % 18446744073709551616 = 0 := by have q := c_ladd v28 (999 : Int64); rw [hv32] at q; exact q
    have r := rng64 v32
    omega
  refine Gl.ladd Y1 hv32 dA_32 rfl ?_
  refine Gl.ldcJ Y1 (tw_12 hw) dA_33 rfl ?_
  obtain ⟨v36, hv36⟩ : ∃ z : Int64, v32 / (1000 : Int64) = z := ⟨_, rfl⟩
  have iv36 : v36.toInt = v32.toInt / 1000 := by have q := (c_ldiv v32 (1000 : Int64) 1000 (by decide) (by decide)).1 (by omega); rw [hv36] at q; exact q
  refine Gl.ldiv Y1 (by decide) hv36 dA_36 rfl ?_
  refine Gl.lconst Y1 (v := (1 : Int64)) (by decide) dA_37 rfl ?_
  obtain ⟨v38, hv38⟩ : ∃ z : Int64, v36 + (1 : Int64) = z := ⟨_, rfl⟩
  have iv38 : v38.toInt = v36.toInt + 1 := by
    have q : (v38.toInt - (v36.toInt + 1)) % 18446744073709551616 = 0 := by have q := c_ladd v36 (1 : Int64); rw [hv38] at q; exact q
    have r := rng64 v38
    omega
  refine Gl.ladd Y1 hv38 dA_38 rfl ?_
  refine Gl.lstoreN Y1 (L' := #[.val (.ref a), .val (.int dg), .val (.long v38), .second]) rfl dA_39 rfl ?_
  refine Gl.aloadN Y1 rfl rfl dA_40 rfl ?_
  refine Gl.lloadN Y1 rfl dA_41 rfl ?_
  refine Gl.ldcJ Y1 (tw_13 hw) dA_42 rfl ?_
  obtain ⟨v45, hv45⟩ : ∃ z : Int64, v38 + (64 : Int64) = z := ⟨_, rfl⟩
  have iv45 : v45.toInt = v38.toInt + 64 := by
    have q : (v45.toInt - (v38.toInt + 64)) % 18446744073709551616 = 0 := by have q := c_ladd v38 (64 : Int64); rw [hv45] at q; exact q
    have r := rng64 v45
    omega
  refine Gl.ladd Y1 hv45 dA_45 rfl ?_
  refine Gl.lconst Y1 (v := (1 : Int64)) (by decide) dA_46 rfl ?_
  obtain ⟨v47, hv47⟩ : ∃ z : Int64, v45 - (1 : Int64) = z := ⟨_, rfl⟩
  have iv47 : v47.toInt = v45.toInt - 1 := by
    have q : (v47.toInt - (v45.toInt - 1)) % 18446744073709551616 = 0 := by have q := c_lsub v45 (1 : Int64); rw [hv47] at q; exact q
    have r := rng64 v47
    omega
  refine Gl.lsub Y1 hv47 dA_47 rfl ?_
  refine Gl.ldcJ Y1 (tw_13 hw) dA_48 rfl ?_
  obtain ⟨v51, hv51⟩ : ∃ z : Int64, v47 / (64 : Int64) = z := ⟨_, rfl⟩
  have iv51 : v51.toInt = v47.toInt / 64 := by have q := (c_ldiv v47 (64 : Int64) 64 (by decide) (by decide)).1 (by omega); rw [hv51] at q; exact q
  refine Gl.ldiv Y1 (by decide) hv51 dA_51 rfl ?_
  obtain ⟨v52, hv52⟩ : ∃ z : Int32, v51.toInt32 = z := ⟨_, rfl⟩
  have iv52 : v52.toInt = v51.toInt := by
    have q : (v52.toInt - v51.toInt) % 4294967296 = 0 := by have q := c_l2i v51; rw [hv52] at q; exact q
    have r := rng32 v52
    omega
  refine Gl.l2i Y1 hv52 dA_52 rfl ?_
  obtain rfl : v52 = (3 : Int32) := Int32.toInt_inj.mp (by simp only [Int32.reduceToInt]; omega)
  refine Gl.newP Y1 3 (ty := .long) rfl (tw_14 hw) (by decide) (by decide) (Nat.le_of_ble_eq_true rfl) (Nat.le_of_ble_eq_true rfl) (Nat.le_of_ble_eq_true rfl) dA_53 rfl (fun T53 h53 b53 ck53 Y53 E53 g53 sb53 V53 => ?_)
  have V53 : Arv Z h53 b53 ck53 .long (3 : Int32) [(.long 0), (.long 0), (.long 0)] (.long 0) := V53.pad (pad_rep [] (.long 0) 3)
  have zb53 : h0.size ≤ b53 := Nat.le_trans (Keep.refl h0 [a]).1 (Nat.le_of_eq g53.symm)
  have K53 : Keep h0 h53 [a] := (Keep.refl h0 [a]).ext E53
  show Gl p e below _ (T53.setTop (mkF m 55 _ [(.ref b53), (.ref a)]))
  have f1 := (Fld.ext E53 F_words)
  have f2 := (Exa.ext E53 E)
  refine Gl.putF Y53 (host := "") (Or.inl (tw_15 hw)) Via.refl f1 f2 (Or.inr ⟨(tw_16 hw), rfl, hnm⟩) (tw_2 hw) ga (ty := (.array .long)) (by decide) rfl rfl dA_55 rfl (fun T55 h55 Y55 W55 => ?_)
  have f3 : Fld Z h55 a kW "words" "[J" (.ref b53) := Fld.same W55 f1
  have K55 : Keep h0 h55 [a] := K53.wr W55 (Or.inl (List.mem_of_getElem? (i := 0) rfl))
  have f4 := (Exa.wr W55 f2)
  have f5 := (Fld.other W55 (Fld.ext E53 F_work) (Or.inr (slot_ne (Or.inl (tw_79 hw)) (Or.inr (tw_16 hw)) (by decide) (t := (.array .long)) (t' := (.array .long)) (by decide) (by decide))))
  have f6 := (V53.other W55 (Ne.symm (Nat.ne_of_lt (Nat.lt_of_lt_of_eq E.lt g53.symm))))
  exact Gl.retV Y55 (by decide) (by decide)  dA_58 ⟨b53, ck53, rfl, K55, zb53, f4, (by first | exact f3 | (subst_vars; exact f3) | (rw [PF]; exact f3)), f5, f6⟩
theorem dB_0 : decode prog_137_method_31_code 0 = .ok (.aload_n 0, 1) := by decide +kernel
theorem dB_1 : decode prog_137_method_31_code 1 = .ok (.getfield 26, 3) := by decide +kernel
theorem dB_4 : decode prog_137_method_31_code 4 = .ok (.aload_n 0, 1) := by decide +kernel
theorem dB_5 : decode prog_137_method_31_code 5 = .ok (.getfield 26, 3) := by decide +kernel
theorem dB_8 : decode prog_137_method_31_code 8 = .ok (.arraylength, 1) := by decide +kernel
theorem dB_9 : decode prog_137_method_31_code 9 = .ok (.iconst 1, 1) := by decide +kernel
theorem dB_10 : decode prog_137_method_31_code 10 = .ok (.isub, 1) := by decide +kernel
theorem dB_11 : decode prog_137_method_31_code 11 = .ok (.laload, 1) := by decide +kernel
theorem dB_12 : decode prog_137_method_31_code 12 = .ok (.lreturn, 1) := by decide +kernel
def R3 : Room := { frames := 0, cells := 0, slots := 0, locals := 0 }
def Q3 (Z : State) (o : Addr) (wo : Addr) (ko : ClassId) (x0 : Int64) (h0 : Heap) (v : Option Value) (h : Heap) : Prop := v = some (.long x0) ∧ h0 = h
theorem ef3 (o : Addr) (m : MethodId) : entryFrame m #[(.ref o)] 1 = mkF m 0 #[.val (.ref o)] [] := by first | (simp [entryFrame, mkF, argsToLocals, Value.category]; done) | rfl
theorem rm3 (l : Launch) (Z : State) (a0 : Array Value) (hw : HW a0 Z) (ws : List Jvm.Cond) (o : Addr) (wo : Addr) (ko : ClassId) (x0 : Int64) (h0 : Heap) (n0 : Nat) (Z0 : n0 ≤ h0.size) (E_o : Exa Z h0 o kW) (F_o : Fld Z h0 o kW "words" "[J" (.ref wo)) (V_o : Arv Z h0 wo ko .long (1 : Int32) [(.long x0)] (.long 0)) : OMet l Z ws (⟨"com/example/meterwise/meterwise/model/WholeNumber", "top", "()J"⟩ : MethodName) prog_137_method_31_code 1 (some .long) R3 #[(.ref o)] h0 n0 (Q3 Z o wo ko x0 h0) := by
  refine OMet.of (own := "com/example/meterwise/meterwise/model/WholeNumber") rfl (plainFor_of_name pn_0) (ef3 o) Z0 ?_
  intro p e s m below meth c T0 Y0 hnm
  refine Gl.aloadN Y0 rfl rfl dB_0 rfl ?_
  refine Gl.getF Y0 (host := "") (Or.inl (tw_15 hw)) Via.refl F_o dB_1 rfl (fun T1 Y1 => ?_)
  refine Gl.aloadN Y1 rfl rfl dB_4 rfl ?_
  refine Gl.getF Y1 (host := "") (Or.inl (tw_15 hw)) Via.refl F_o dB_5 rfl (fun T5 Y5 => ?_)
  refine Gl.arraylength Y5 V_o dB_8 rfl ?_
  refine Gl.iconst Y5 (v := (1 : Int32)) (by decide) dB_9 rfl ?_
  refine Gl.isub Y5 (r := (0 : Int32)) (by decide) dB_10 rfl ?_
  refine Gl.laload Y5 V_o ⟨by decide, by decide⟩ (v := (.long x0)) rfl dB_11 rfl ?_
  exact Gl.retJ Y5 (by decide) (by decide)  dB_12 ⟨rfl, rfl⟩
theorem dC_0 : decode jdk_65_method_101_code 0 = .ok (.iconst 0, 1) := by decide +kernel
theorem dC_1 : decode jdk_65_method_101_code 1 = .ok (.istore_n 3, 1) := by decide +kernel
theorem dC_2 : decode jdk_65_method_101_code 2 = .ok (.aload_n 0, 1) := by decide +kernel
theorem dC_3 : decode jdk_65_method_101_code 3 = .ok (.arraylength, 1) := by decide +kernel
theorem dC_4 : decode jdk_65_method_101_code 4 = .ok (.istore 4, 2) := by decide +kernel
theorem dC_6 : decode jdk_65_method_101_code 6 = .ok (.iload_n 3, 1) := by decide +kernel
theorem dC_7 : decode jdk_65_method_101_code 7 = .ok (.iload 4, 2) := by decide +kernel
theorem dC_9 : decode jdk_65_method_101_code 9 = .ok (.if_icmp .ge 13, 3) := by decide +kernel
theorem dC_12 : decode jdk_65_method_101_code 12 = .ok (.aload_n 0, 1) := by decide +kernel
theorem dC_13 : decode jdk_65_method_101_code 13 = .ok (.iload_n 3, 1) := by decide +kernel
theorem dC_14 : decode jdk_65_method_101_code 14 = .ok (.lload_n 1, 1) := by decide +kernel
theorem dC_15 : decode jdk_65_method_101_code 15 = .ok (.lastore, 1) := by decide +kernel
theorem dC_16 : decode jdk_65_method_101_code 16 = .ok (.iinc 3 1, 3) := by decide +kernel
theorem dC_19 : decode jdk_65_method_101_code 19 = .ok (.goto (-13), 3) := by decide +kernel
theorem dC_22 : decode jdk_65_method_101_code 22 = .ok (.return_, 1) := by decide +kernel
def R4 : Room := { frames := 0, cells := 0, slots := 0, locals := 0 }
def Q4 (Z : State) (a : Addr) (ka : ClassId) (x0 : Int64) (h0 : Heap) (v : Option Value) (h : Heap) : Prop := v = none ∧ Keep h0 h [a] ∧ Arv Z h a ka .long (1 : Int32) [(.long 0)] (.long 0)
theorem ef4 (a : Addr) (m : MethodId) : entryFrame m #[(.ref a), (.long 0)] 5 = mkF m 0 #[.val (.ref a), .val (.long 0), .second, .unset, .unset] [] := by first | (simp [entryFrame, mkF, argsToLocals, Value.category]; done) | rfl
theorem pn_1 : plainName "java/util/Arrays" = true := by first | (simp [plainName, overriddenIn]; done) | decide +kernel
theorem rm4 (l : Launch) (Z : State) (a0 : Array Value) (hw : HW a0 Z) (ws : List Jvm.Cond) (a : Addr) (ka : ClassId) (x0 : Int64) (h0 : Heap) (n0 : Nat) (Z0 : n0 ≤ h0.size) (V : Arv Z h0 a ka .long (1 : Int32) [(.long x0)] (.long 0)) (ga : n0 ≤ a) : OMet l Z ws (⟨"java/util/Arrays", "fill", "([JJ)V"⟩ : MethodName) jdk_65_method_101_code 5 none R4 #[(.ref a), (.long 0)] h0 n0 (Q4 Z a ka x0 h0) := by
  refine OMet.of (own := "java/util/Arrays") rfl (plainFor_of_name pn_1) (ef4 a) Z0 ?_
  intro p e s m below meth c T0 Y0 hnm
  refine Gl.iconst Y0 (v := (0 : Int32)) (by decide) dC_0 rfl ?_
  refine Gl.istoreN Y0 (L' := #[.val (.ref a), .val (.long 0), .second, .val (.int 0), .unset]) rfl dC_1 rfl ?_
  refine Gl.aloadN Y0 rfl rfl dC_2 rfl ?_
  refine Gl.arraylength Y0 V dC_3 rfl ?_
  refine Gl.istore Y0 (L' := #[.val (.ref a), .val (.long 0), .second, .val (.int 0), .val (.int 1)]) rfl dC_4 rfl ?_
  refine Gl.iloadN Y0 rfl dC_6 rfl ?_
  refine Gl.iload Y0 rfl dC_7 rfl ?_
  refine Gl.icmpge Y0 dC_9 (by decide) rfl rfl (fun c9 => ?_) (fun c9 => ?_)
  · exact absurd c9 (by decide)
  refine Gl.aloadN Y0 rfl rfl dC_12 rfl ?_
  refine Gl.iloadN Y0 rfl dC_13 rfl ?_
  refine Gl.lloadN Y0 rfl dC_14 rfl ?_
  refine Gl.lastore Y0 V (v := (.long 0)) rfl ⟨by decide, by decide⟩ (ix := 0) rfl (Nat.le_of_ble_eq_true rfl) ga dC_15 rfl (fun T15 h15 Y15 W15 A15 => ?_)
  have A15 : Arv Z h15 a ka .long (1 : Int32) [(.long 0)] (.long 0) := A15
  have K15 : Keep h0 h15 [a] := (Keep.refl h0 [a]).wr W15 (Or.inl (List.mem_of_getElem? (i := 0) rfl))
  show Gl p e below _ (T15.setTop (mkF m 16 _ []))
  refine Gl.iinc Y15 rfl (r := (1 : Int32)) (by decide) (L' := #[.val (.ref a), .val (.long 0), .second, .val (.int 1), .val (.int 1)]) rfl dC_16 rfl ?_
  refine Gl.goto Y15 dC_19 (by decide) rfl ?_
  refine Gl.iloadN Y15 rfl dC_6 rfl ?_
  refine Gl.iload Y15 rfl dC_7 rfl ?_
  refine Gl.icmpge Y15 dC_9 (by decide) rfl rfl (fun c9_2 => ?_) (fun c9_2 => ?_)
  rotate_left
  · exact absurd c9_2 (by decide)
  exact Gl.retV Y15 (by decide) (by decide)  dC_22 ⟨rfl, K15, A15⟩
theorem dD_0 : decode jdk_65_method_30_code 0 = .ok (.iload_n 1, 1) := by decide +kernel
theorem dD_1 : decode jdk_65_method_30_code 1 = .ok (.iload_n 2, 1) := by decide +kernel
theorem dD_2 : decode jdk_65_method_30_code 2 = .ok (.if_icmp .le 44, 3) := by decide +kernel
theorem dD_46 : decode jdk_65_method_30_code 46 = .ok (.iload_n 1, 1) := by decide +kernel
theorem dD_47 : decode jdk_65_method_30_code 47 = .ok (.ifCond .ge 12, 3) := by decide +kernel
theorem dD_59 : decode jdk_65_method_30_code 59 = .ok (.iload_n 2, 1) := by decide +kernel
theorem dD_60 : decode jdk_65_method_30_code 60 = .ok (.iload_n 0, 1) := by decide +kernel
theorem dD_61 : decode jdk_65_method_30_code 61 = .ok (.if_icmp .le 12, 3) := by decide +kernel
theorem dD_73 : decode jdk_65_method_30_code 73 = .ok (.return_, 1) := by decide +kernel
def R5 : Room := { frames := 0, cells := 0, slots := 0, locals := 0 }
def Q5 (Z : State) (h0 : Heap) (v : Option Value) (h : Heap) : Prop := v = none ∧ h0 = h
theorem ef5 (m : MethodId) : entryFrame m #[(.int 1), (.int 1), (.int 1)] 3 = mkF m 0 #[.val (.int 1), .val (.int 1), .val (.int 1)] [] := by first | (simp [entryFrame, mkF, argsToLocals, Value.category]; done) | rfl
theorem rm5 (l : Launch) (Z : State) (a0 : Array Value) (hw : HW a0 Z) (ws : List Jvm.Cond) (h0 : Heap) (n0 : Nat) (Z0 : n0 ≤ h0.size) : OMet l Z ws (⟨"java/util/Arrays", "rangeCheck", "(III)V"⟩ : MethodName) jdk_65_method_30_code 3 none R5 #[(.int 1), (.int 1), (.int 1)] h0 n0 (Q5 Z h0) := by
  refine OMet.of (own := "java/util/Arrays") rfl (plainFor_of_name pn_1) (ef5) Z0 ?_
  intro p e s m below meth c T0 Y0 hnm
  refine Gl.iloadN Y0 rfl dD_0 rfl ?_
  refine Gl.iloadN Y0 rfl dD_1 rfl ?_
  refine Gl.icmple Y0 dD_2 (by decide) rfl rfl (fun c2 => ?_) (fun c2 => ?_)
  rotate_left
  · exact absurd c2 (by decide)
  refine Gl.iloadN Y0 rfl dD_46 rfl ?_
  refine Gl.ifge Y0 dD_47 (by decide) rfl rfl (fun c47 => ?_) (fun c47 => ?_)
  rotate_left
  · exact absurd c47 (by decide)
  refine Gl.iloadN Y0 rfl dD_59 rfl ?_
  refine Gl.iloadN Y0 rfl dD_60 rfl ?_
  refine Gl.icmple Y0 dD_61 (by decide) rfl rfl (fun c61 => ?_) (fun c61 => ?_)
  rotate_left
  · exact absurd c61 (by decide)
  exact Gl.retV Y0 (by decide) (by decide)  dD_73 ⟨rfl, rfl⟩
theorem dE_0 : decode jdk_65_method_102_code 0 = .ok (.aload_n 0, 1) := by decide +kernel
theorem dE_1 : decode jdk_65_method_102_code 1 = .ok (.arraylength, 1) := by decide +kernel
theorem dE_2 : decode jdk_65_method_102_code 2 = .ok (.iload_n 1, 1) := by decide +kernel
theorem dE_3 : decode jdk_65_method_102_code 3 = .ok (.iload_n 2, 1) := by decide +kernel
theorem dE_4 : decode jdk_65_method_102_code 4 = .ok (.invokestatic 13, 3) := by decide +kernel
theorem tw_27 {a0 : Array Value} {Z : State} (hw : HW a0 Z) : (Jvm.Cond.methodLink "java/util/Arrays" (13 : Nat) ({ cls := "java/util/Arrays", name := "rangeCheck", desc := "(III)V" } : Jvm.MethodName)).before a0 Z = true := hw _ (List.mem_of_getElem? (i := 27) rfl)
theorem pd_0 : parseMethodDescriptor "(III)V" = some ⟨[.int, .int, .int], none⟩ := by decide +kernel
theorem tw_29 {a0 : Array Value} {Z : State} (hw : HW a0 Z) : (Jvm.Cond.code ({ cls := "java/util/Arrays", name := "rangeCheck", desc := "(III)V" } : Jvm.MethodName) jdk_65_method_30_code (3 : Nat) (Option.none : Option Jvm.ClassFile.FieldType)).before a0 Z = true := hw _ (List.mem_of_getElem? (i := 29) rfl)
theorem tw_25 {a0 : Array Value} {Z : State} (hw : HW a0 Z) : (Jvm.Cond.initialized "java/util/Arrays").before a0 Z = true := hw _ (List.mem_of_getElem? (i := 25) rfl)
theorem tw_28 {a0 : Array Value} {Z : State} (hw : HW a0 Z) : (Jvm.Cond.static ({ cls := "java/util/Arrays", name := "rangeCheck", desc := "(III)V" } : Jvm.MethodName)).before a0 Z = true := hw _ (List.mem_of_getElem? (i := 28) rfl)
theorem dE_7 : decode jdk_65_method_102_code 7 = .ok (.iload_n 1, 1) := by decide +kernel
theorem dE_8 : decode jdk_65_method_102_code 8 = .ok (.istore 5, 2) := by decide +kernel
theorem dE_10 : decode jdk_65_method_102_code 10 = .ok (.iload 5, 2) := by decide +kernel
theorem dE_12 : decode jdk_65_method_102_code 12 = .ok (.iload_n 2, 1) := by decide +kernel
theorem dE_13 : decode jdk_65_method_102_code 13 = .ok (.if_icmp .ge 14, 3) := by decide +kernel
theorem dE_27 : decode jdk_65_method_102_code 27 = .ok (.return_, 1) := by decide +kernel
def R6 : Room := { frames := 1, cells := 0, slots := 0, locals := 14 }
def Q6 (Z : State) (a : Addr) (ka : ClassId) (v1 : Int64) (x0 : Int64) (h0 : Heap) (v : Option Value) (h : Heap) : Prop := v = none ∧ Keep h0 h [a] ∧ Arv Z h a ka .long (1 : Int32) [(.long x0)] (.long 0)
theorem ef6 (a : Addr) (v1 : Int64) (m : MethodId) : entryFrame m #[(.ref a), (.int 1), (.int 1), (.long v1)] 6 = mkF m 0 #[.val (.ref a), .val (.int 1), .val (.int 1), .val (.long v1), .second, .unset] [] := by first | (simp [entryFrame, mkF, argsToLocals, Value.category]; done) | rfl
theorem rm6 (l : Launch) (Z : State) (a0 : Array Value) (hw : HW a0 Z) (ws : List Jvm.Cond) (a : Addr) (ka : ClassId) (v1 : Int64) (x0 : Int64) (h0 : Heap) (n0 : Nat) (Z0 : n0 ≤ h0.size) (V : Arv Z h0 a ka .long (1 : Int32) [(.long x0)] (.long 0)) (ga : n0 ≤ a) : OMet l Z ws (⟨"java/util/Arrays", "fill", "([JIIJ)V"⟩ : MethodName) jdk_65_method_102_code 6 none R6 #[(.ref a), (.int 1), (.int 1), (.long v1)] h0 n0 (Q6 Z a ka v1 x0 h0) := by
  refine OMet.of (own := "java/util/Arrays") rfl (plainFor_of_name pn_1) (ef6 a v1) Z0 ?_
  intro p e s m below meth c T0 Y0 hnm
  refine Gl.aloadN Y0 rfl rfl dE_0 rfl ?_
  refine Gl.arraylength Y0 V dE_1 rfl ?_
  refine Gl.iloadN Y0 rfl dE_2 rfl ?_
  refine Gl.iloadN Y0 rfl dE_3 rfl ?_
  refine Gl.callS Y0 (tw_27 hw) (tw_28 hw) (tw_25 hw) (tw_29 hw) (by decide) (rm5 l Z a0 hw [] h0 n0 Y0.sz) (argsL := [(.int 1), (.int 1), (.int 1)]) (rest := []) rfl rfl (lenOf pd_0 rfl) rfl (by decide) (Nat.le_of_ble_eq_true rfl) (by decide) (by decide) dE_4 rfl (fun v4 T4 h4 Y4 q4 => ?_)
  obtain ⟨rfl, rfl⟩ := q4
  show Gl p e below _ (T4.setTop (mkF m 7 _ []))
  refine Gl.iloadN Y4 rfl dE_7 rfl ?_
  refine Gl.istore Y4 (L' := #[.val (.ref a), .val (.int 1), .val (.int 1), .val (.long v1), .second, .val (.int 1)]) rfl dE_8 rfl ?_
  refine Gl.iload Y4 rfl dE_10 rfl ?_
  refine Gl.iloadN Y4 rfl dE_12 rfl ?_
  refine Gl.icmpge Y4 dE_13 (by decide) rfl rfl (fun c13 => ?_) (fun c13 => ?_)
  rotate_left
  · exact absurd c13 (by decide)
  exact Gl.retV Y4 (by decide) (by decide)  dE_27 ⟨rfl, (Keep.refl h0 [a]), V⟩
theorem dF_0 : decode prog_137_method_4_code 0 = .ok (.aload_n 0, 1) := by decide +kernel
theorem dF_1 : decode prog_137_method_4_code 1 = .ok (.getfield 26, 3) := by decide +kernel
theorem dF_4 : decode prog_137_method_4_code 4 = .ok (.iconst 0, 1) := by decide +kernel
theorem dF_5 : decode prog_137_method_4_code 5 = .ok (.lload_n 1, 1) := by decide +kernel
theorem dF_6 : decode prog_137_method_4_code 6 = .ok (.lastore, 1) := by decide +kernel
theorem dF_7 : decode prog_137_method_4_code 7 = .ok (.aload_n 0, 1) := by decide +kernel
theorem dF_8 : decode prog_137_method_4_code 8 = .ok (.getfield 26, 3) := by decide +kernel
theorem dF_11 : decode prog_137_method_4_code 11 = .ok (.iconst 1, 1) := by decide +kernel
theorem dF_12 : decode prog_137_method_4_code 12 = .ok (.aload_n 0, 1) := by decide +kernel
theorem dF_13 : decode prog_137_method_4_code 13 = .ok (.getfield 26, 3) := by decide +kernel
theorem dF_16 : decode prog_137_method_4_code 16 = .ok (.arraylength, 1) := by decide +kernel
theorem dF_17 : decode prog_137_method_4_code 17 = .ok (.lload_n 1, 1) := by decide +kernel
theorem dF_18 : decode prog_137_method_4_code 18 = .ok (.bipush 63, 2) := by decide +kernel
theorem dF_20 : decode prog_137_method_4_code 20 = .ok (.lshr, 1) := by decide +kernel
theorem dF_21 : decode prog_137_method_4_code 21 = .ok (.invokestatic 58, 3) := by decide +kernel
theorem tw_23 {a0 : Array Value} {Z : State} (hw : HW a0 Z) : (Jvm.Cond.methodLink "com/example/meterwise/meterwise/model/WholeNumber" (58 : Nat) ({ cls := "java/util/Arrays", name := "fill", desc := "([JIIJ)V" } : Jvm.MethodName)).before a0 Z = true := hw _ (List.mem_of_getElem? (i := 23) rfl)
theorem pd_1 : parseMethodDescriptor "([JIIJ)V" = some ⟨[(.array .long), .int, .int, .long], none⟩ := by decide +kernel
theorem tw_26 {a0 : Array Value} {Z : State} (hw : HW a0 Z) : (Jvm.Cond.code ({ cls := "java/util/Arrays", name := "fill", desc := "([JIIJ)V" } : Jvm.MethodName) jdk_65_method_102_code (6 : Nat) (Option.none : Option Jvm.ClassFile.FieldType)).before a0 Z = true := hw _ (List.mem_of_getElem? (i := 26) rfl)
theorem tw_24 {a0 : Array Value} {Z : State} (hw : HW a0 Z) : (Jvm.Cond.static ({ cls := "java/util/Arrays", name := "fill", desc := "([JIIJ)V" } : Jvm.MethodName)).before a0 Z = true := hw _ (List.mem_of_getElem? (i := 24) rfl)
theorem dF_24 : decode prog_137_method_4_code 24 = .ok (.aload_n 0, 1) := by decide +kernel
theorem dF_25 : decode prog_137_method_4_code 25 = .ok (.areturn, 1) := by decide +kernel
def R7 : Room := { frames := 2, cells := 0, slots := 0, locals := 31 }
def Q7 (Z : State) (o : Addr) (wo : Addr) (ko : ClassId) (x0 : Int64) (v1 : Int64) (sg : Int64) (h0 : Heap) (v : Option Value) (h : Heap) : Prop := v = some (.ref o) ∧ Keep h0 h [wo] ∧ Arv Z h wo ko .long (1 : Int32) [(.long v1)] (.long 0)
theorem ef7 (o : Addr) (v1 : Int64) (m : MethodId) : entryFrame m #[(.ref o), (.long v1)] 3 = mkF m 0 #[.val (.ref o), .val (.long v1), .second] [] := by first | (simp [entryFrame, mkF, argsToLocals, Value.category]; done) | rfl
theorem rm7 (l : Launch) (Z : State) (a0 : Array Value) (hw : HW a0 Z) (ws : List Jvm.Cond) (o : Addr) (wo : Addr) (ko : ClassId) (x0 : Int64) (v1 : Int64) (sg : Int64) (h0 : Heap) (n0 : Nat) (Z0 : n0 ≤ h0.size) (E_o : Exa Z h0 o kW) (F_o : Fld Z h0 o kW "words" "[J" (.ref wo)) (V_o : Arv Z h0 wo ko .long (1 : Int32) [(.long x0)] (.long 0)) (g_o : n0 ≤ wo) (nn_o : own_ne o wo) (hsg : v1 >>> ((63 : Int32) &&& 0x3f).toInt64 = sg) : OMet l Z ws (⟨"com/example/meterwise/meterwise/model/WholeNumber", "set", "(J)Lcom/example/meterwise/meterwise/model/WholeNumber;"⟩ : MethodName) prog_137_method_4_code 3 (some (.object "com/example/meterwise/meterwise/model/WholeNumber")) R7 #[(.ref o), (.long v1)] h0 n0 (Q7 Z o wo ko x0 v1 sg h0) := by
  refine OMet.of (own := "com/example/meterwise/meterwise/model/WholeNumber") rfl (plainFor_of_name pn_0) (ef7 o v1) Z0 ?_
  intro p e s m below meth c T0 Y0 hnm
  refine Gl.aloadN Y0 rfl rfl dF_0 rfl ?_
  refine Gl.getF Y0 (host := "") (Or.inl (tw_15 hw)) Via.refl F_o dF_1 rfl (fun T1 Y1 => ?_)
  refine Gl.iconst Y1 (v := (0 : Int32)) (by decide) dF_4 rfl ?_
  refine Gl.lloadN Y1 rfl dF_5 rfl ?_
  refine Gl.lastore Y1 V_o (v := (.long v1)) rfl ⟨by decide, by decide⟩ (ix := 0) rfl (Nat.le_of_ble_eq_true rfl) g_o dF_6 rfl (fun T6 h6 Y6 W6 A6 => ?_)
  have A6 : Arv Z h6 wo ko .long (1 : Int32) [(.long v1)] (.long 0) := A6
  have K6 : Keep h0 h6 [wo] := (Keep.refl h0 [wo]).wr W6 (Or.inl (List.mem_of_getElem? (i := 0) rfl))
  show Gl p e below _ (T6.setTop (mkF m 7 _ []))
  refine Gl.aloadN Y6 rfl rfl dF_7 rfl ?_
  have f1 := (Fld.other W6 F_o (Or.inl nn_o))
  refine Gl.getF Y6 (host := "") (Or.inl (tw_15 hw)) Via.refl f1 dF_8 rfl (fun T8 Y8 => ?_)
  refine Gl.iconst Y8 (v := (1 : Int32)) (by decide) dF_11 rfl ?_
  refine Gl.aloadN Y8 rfl rfl dF_12 rfl ?_
  refine Gl.getF Y8 (host := "") (Or.inl (tw_15 hw)) Via.refl f1 dF_13 rfl (fun T13 Y13 => ?_)
  refine Gl.arraylength Y13 A6 dF_16 rfl ?_
  refine Gl.lloadN Y13 rfl dF_17 rfl ?_
  refine Gl.bipush Y13 (v := (63 : Int32)) (by decide) dF_18 rfl ?_
  obtain ⟨v20, hv20⟩ : ∃ z : Int64, (v1 >>> ((63 : Int32) &&& 0x3f).toInt64) = z := ⟨_, rfl⟩
  refine Gl.lshr Y13 hv20 dF_20 rfl ?_
  obtain rfl : sg = v20 := Eq.symm (hv20.symm.trans hsg)
  refine Gl.callS Y13 (tw_23 hw) (tw_24 hw) (tw_25 hw) (tw_26 hw) (by decide) (rm6 l Z a0 hw [] wo ko sg v1 h6 n0 Y13.sz A6 g_o) (argsL := [(.ref wo), (.int 1), (.int 1), (.long sg)]) (rest := []) rfl rfl (lenOf pd_1 rfl) rfl (by decide) (Nat.le_of_ble_eq_true rfl) (by decide) (by decide) dF_21 rfl (fun v21 T21 h21 Y21 q21 => ?_)
  obtain ⟨rfl, K21, f21_0⟩ := q21
  have KK21 : Keep h0 h21 [wo] := K6.trans K21 (allS (Or.inl (List.mem_of_getElem? (i := 0) rfl)) all0)
  show Gl p e below _ (T21.setTop (mkF m 24 _ []))
  refine Gl.aloadN Y21 rfl rfl dF_24 rfl ?_
  exact Gl.retA Y21 (by decide) (by decide) rfl rfl dF_25 ⟨rfl, KK21, f21_0⟩
theorem dG_0 : decode prog_137_method_7_code 0 = .ok (.aload_n 0, 1) := by decide +kernel
theorem dG_1 : decode prog_137_method_7_code 1 = .ok (.getfield 26, 3) := by decide +kernel
theorem dG_4 : decode prog_137_method_7_code 4 = .ok (.lconst 0, 1) := by decide +kernel
theorem dG_5 : decode prog_137_method_7_code 5 = .ok (.invokestatic 105, 3) := by decide +kernel
theorem tw_55 {a0 : Array Value} {Z : State} (hw : HW a0 Z) : (Jvm.Cond.methodLink "com/example/meterwise/meterwise/model/WholeNumber" (105 : Nat) ({ cls := "java/util/Arrays", name := "fill", desc := "([JJ)V" } : Jvm.MethodName)).before a0 Z = true := hw _ (List.mem_of_getElem? (i := 55) rfl)
theorem pd_2 : parseMethodDescriptor "([JJ)V" = some ⟨[(.array .long), .long], none⟩ := by decide +kernel
theorem tw_57 {a0 : Array Value} {Z : State} (hw : HW a0 Z) : (Jvm.Cond.code ({ cls := "java/util/Arrays", name := "fill", desc := "([JJ)V" } : Jvm.MethodName) jdk_65_method_101_code (5 : Nat) (Option.none : Option Jvm.ClassFile.FieldType)).before a0 Z = true := hw _ (List.mem_of_getElem? (i := 57) rfl)
theorem tw_56 {a0 : Array Value} {Z : State} (hw : HW a0 Z) : (Jvm.Cond.static ({ cls := "java/util/Arrays", name := "fill", desc := "([JJ)V" } : Jvm.MethodName)).before a0 Z = true := hw _ (List.mem_of_getElem? (i := 56) rfl)
theorem dG_8 : decode prog_137_method_7_code 8 = .ok (.aload_n 0, 1) := by decide +kernel
theorem dG_9 : decode prog_137_method_7_code 9 = .ok (.getfield 26, 3) := by decide +kernel
theorem dG_12 : decode prog_137_method_7_code 12 = .ok (.aload_n 0, 1) := by decide +kernel
theorem dG_13 : decode prog_137_method_7_code 13 = .ok (.getfield 26, 3) := by decide +kernel
theorem dG_16 : decode prog_137_method_7_code 16 = .ok (.arraylength, 1) := by decide +kernel
theorem dG_17 : decode prog_137_method_7_code 17 = .ok (.iconst 1, 1) := by decide +kernel
theorem dG_18 : decode prog_137_method_7_code 18 = .ok (.isub, 1) := by decide +kernel
theorem dG_19 : decode prog_137_method_7_code 19 = .ok (.ldc2_w 108, 3) := by decide +kernel
theorem tw_45 {a0 : Array Value} {Z : State} (hw : HW a0 Z) : (Jvm.Cond.constantLong "com/example/meterwise/meterwise/model/WholeNumber" (108 : Nat) (-9223372036854775808 : Int64)).before a0 Z = true := hw _ (List.mem_of_getElem? (i := 45) rfl)
theorem dG_22 : decode prog_137_method_7_code 22 = .ok (.lastore, 1) := by decide +kernel
theorem dG_23 : decode prog_137_method_7_code 23 = .ok (.aload_n 0, 1) := by decide +kernel
theorem dG_24 : decode prog_137_method_7_code 24 = .ok (.areturn, 1) := by decide +kernel
def R8 : Room := { frames := 1, cells := 0, slots := 0, locals := 16 }
def Q8 (Z : State) (o : Addr) (wo : Addr) (ko : ClassId) (x0 : Int64) (h0 : Heap) (v : Option Value) (h : Heap) : Prop := v = some (.ref o) ∧ Keep h0 h [wo] ∧ Arv Z h wo ko .long (1 : Int32) [(.long (-9223372036854775808))] (.long 0)
theorem ef8 (o : Addr) (m : MethodId) : entryFrame m #[(.ref o)] 1 = mkF m 0 #[.val (.ref o)] [] := by first | (simp [entryFrame, mkF, argsToLocals, Value.category]; done) | rfl
theorem rm8 (l : Launch) (Z : State) (a0 : Array Value) (hw : HW a0 Z) (ws : List Jvm.Cond) (o : Addr) (wo : Addr) (ko : ClassId) (x0 : Int64) (h0 : Heap) (n0 : Nat) (Z0 : n0 ≤ h0.size) (E_o : Exa Z h0 o kW) (F_o : Fld Z h0 o kW "words" "[J" (.ref wo)) (V_o : Arv Z h0 wo ko .long (1 : Int32) [(.long x0)] (.long 0)) (g_o : n0 ≤ wo) (nn_o : own_ne o wo) : OMet l Z ws (⟨"com/example/meterwise/meterwise/model/WholeNumber", "overflow", "()Lcom/example/meterwise/meterwise/model/WholeNumber;"⟩ : MethodName) prog_137_method_7_code 1 (some (.object "com/example/meterwise/meterwise/model/WholeNumber")) R8 #[(.ref o)] h0 n0 (Q8 Z o wo ko x0 h0) := by
  refine OMet.of (own := "com/example/meterwise/meterwise/model/WholeNumber") rfl (plainFor_of_name pn_0) (ef8 o) Z0 ?_
  intro p e s m below meth c T0 Y0 hnm
  refine Gl.aloadN Y0 rfl rfl dG_0 rfl ?_
  refine Gl.getF Y0 (host := "") (Or.inl (tw_15 hw)) Via.refl F_o dG_1 rfl (fun T1 Y1 => ?_)
  refine Gl.lconst Y1 (v := (0 : Int64)) (by decide) dG_4 rfl ?_
  refine Gl.callS Y1 (tw_55 hw) (tw_56 hw) (tw_25 hw) (tw_57 hw) (by decide) (rm4 l Z a0 hw [] wo ko x0 h0 n0 Y1.sz V_o g_o) (argsL := [(.ref wo), (.long 0)]) (rest := []) rfl rfl (lenOf pd_2 rfl) rfl (by decide) (Nat.le_of_ble_eq_true rfl) (by decide) (by decide) dG_5 rfl (fun v5 T5 h5 Y5 q5 => ?_)
  obtain ⟨rfl, K5, f5_0⟩ := q5
  have KK5 : Keep h0 h5 [wo] := (Keep.refl h0 [wo]).trans K5 (allS (Or.inl (List.mem_of_getElem? (i := 0) rfl)) all0)
  show Gl p e below _ (T5.setTop (mkF m 8 _ []))
  refine Gl.aloadN Y5 rfl rfl dG_8 rfl ?_
  have f1 := (F_o.keep K5 (ninS nn_o nin0))
  refine Gl.getF Y5 (host := "") (Or.inl (tw_15 hw)) Via.refl f1 dG_9 rfl (fun T9 Y9 => ?_)
  refine Gl.aloadN Y9 rfl rfl dG_12 rfl ?_
  refine Gl.getF Y9 (host := "") (Or.inl (tw_15 hw)) Via.refl f1 dG_13 rfl (fun T13 Y13 => ?_)
  refine Gl.arraylength Y13 f5_0 dG_16 rfl ?_
  refine Gl.iconst Y13 (v := (1 : Int32)) (by decide) dG_17 rfl ?_
  refine Gl.isub Y13 (r := (0 : Int32)) (by decide) dG_18 rfl ?_
  refine Gl.ldcJ Y13 (tw_45 hw) dG_19 rfl ?_
  refine Gl.lastore Y13 f5_0 (v := (.long (-9223372036854775808))) rfl ⟨by decide, by decide⟩ (ix := 0) rfl (Nat.le_of_ble_eq_true rfl) g_o dG_22 rfl (fun T22 h22 Y22 W22 A22 => ?_)
  have A22 : Arv Z h22 wo ko .long (1 : Int32) [(.long (-9223372036854775808))] (.long 0) := A22
  have K22 : Keep h0 h22 [wo] := KK5.wr W22 (Or.inl (List.mem_of_getElem? (i := 0) rfl))
  show Gl p e below _ (T22.setTop (mkF m 23 _ []))
  refine Gl.aloadN Y22 rfl rfl dG_23 rfl ?_
  exact Gl.retA Y22 (by decide) (by decide) rfl rfl dG_24 ⟨rfl, K22, A22⟩
theorem dH_0 : decode jdk_29_method_65_code 0 = .ok (.iload_n 0, 1) := by decide +kernel
theorem dH_1 : decode jdk_29_method_65_code 1 = .ok (.iload_n 1, 1) := by decide +kernel
theorem dH_2 : decode jdk_29_method_65_code 2 = .ok (.if_icmp .lt 7, 3) := by decide +kernel
theorem dH_5 : decode jdk_29_method_65_code 5 = .ok (.iload_n 0, 1) := by decide +kernel
theorem dH_6 : decode jdk_29_method_65_code 6 = .ok (.goto 4, 3) := by decide +kernel
theorem dH_10 : decode jdk_29_method_65_code 10 = .ok (.ireturn, 1) := by decide +kernel
def R9 : Room := { frames := 0, cells := 0, slots := 0, locals := 0 }
def Q9 (Z : State) (h0 : Heap) (v : Option Value) (h : Heap) : Prop := v = some (.int 1) ∧ h0 = h
theorem ef9 (m : MethodId) : entryFrame m #[(.int 1), (.int 1)] 2 = mkF m 0 #[.val (.int 1), .val (.int 1)] [] := by first | (simp [entryFrame, mkF, argsToLocals, Value.category]; done) | rfl
theorem rm9 (l : Launch) (Z : State) (a0 : Array Value) (hw : HW a0 Z) (ws : List Jvm.Cond) (h0 : Heap) (n0 : Nat) (Z0 : n0 ≤ h0.size) : OMet l Z ws (⟨"java/lang/Math", "max", "(II)I"⟩ : MethodName) jdk_29_method_65_code 2 (some .int) R9 #[(.int 1), (.int 1)] h0 n0 (Q9 Z h0) := by
  refine OMet.of (own := "java/lang/Math") rfl (Jvm.Free.JP.mathPlain rfl (by decide +kernel)) (ef9) Z0 ?_
  intro p e s m below meth c T0 Y0 hnm
  refine Gl.iloadN Y0 rfl dH_0 rfl ?_
  refine Gl.iloadN Y0 rfl dH_1 rfl ?_
  refine Gl.icmplt Y0 dH_2 (by decide) rfl rfl (fun c2 => ?_) (fun c2 => ?_)
  · exact absurd c2 (by decide)
  refine Gl.iloadN Y0 rfl dH_5 rfl ?_
  refine Gl.goto Y0 dH_6 (by decide) rfl ?_
  exact Gl.retI Y0 (by decide) (by decide)  dH_10 ⟨rfl, rfl⟩
def R10 : Room := { frames := 0, cells := 0, slots := 0, locals := 0 }
def Q10 (Z : State) (o : Addr) (wo : Addr) (ko : ClassId) (x0 : Int64) (x1 : Int64) (h0 : Heap) (v : Option Value) (h : Heap) : Prop := v = some (.long x1) ∧ h0 = h
theorem ef10 (o : Addr) (m : MethodId) : entryFrame m #[(.ref o)] 1 = mkF m 0 #[.val (.ref o)] [] := by first | (simp [entryFrame, mkF, argsToLocals, Value.category]; done) | rfl
theorem rm10 (l : Launch) (Z : State) (a0 : Array Value) (hw : HW a0 Z) (ws : List Jvm.Cond) (o : Addr) (wo : Addr) (ko : ClassId) (x0 : Int64) (x1 : Int64) (h0 : Heap) (n0 : Nat) (Z0 : n0 ≤ h0.size) (E_o : Exa Z h0 o kW) (F_o : Fld Z h0 o kW "words" "[J" (.ref wo)) (V_o : Arv Z h0 wo ko .long (2 : Int32) [(.long x0), (.long x1)] (.long 0)) : OMet l Z ws (⟨"com/example/meterwise/meterwise/model/WholeNumber", "top", "()J"⟩ : MethodName) prog_137_method_31_code 1 (some .long) R10 #[(.ref o)] h0 n0 (Q10 Z o wo ko x0 x1 h0) := by
  refine OMet.of (own := "com/example/meterwise/meterwise/model/WholeNumber") rfl (plainFor_of_name pn_0) (ef10 o) Z0 ?_
  intro p e s m below meth c T0 Y0 hnm
  refine Gl.aloadN Y0 rfl rfl dB_0 rfl ?_
  refine Gl.getF Y0 (host := "") (Or.inl (tw_15 hw)) Via.refl F_o dB_1 rfl (fun T1 Y1 => ?_)
  refine Gl.aloadN Y1 rfl rfl dB_4 rfl ?_
  refine Gl.getF Y1 (host := "") (Or.inl (tw_15 hw)) Via.refl F_o dB_5 rfl (fun T5 Y5 => ?_)
  refine Gl.arraylength Y5 V_o dB_8 rfl ?_
  refine Gl.iconst Y5 (v := (1 : Int32)) (by decide) dB_9 rfl ?_
  refine Gl.isub Y5 (r := (1 : Int32)) (by decide) dB_10 rfl ?_
  refine Gl.laload Y5 V_o ⟨by decide, by decide⟩ (v := (.long x1)) rfl dB_11 rfl ?_
  exact Gl.retJ Y5 (by decide) (by decide)  dB_12 ⟨rfl, rfl⟩
def R11 : Room := { frames := 0, cells := 0, slots := 0, locals := 0 }
def Q11 (Z : State) (a : Addr) (ka : ClassId) (x0 : Int64) (x1 : Int64) (h0 : Heap) (v : Option Value) (h : Heap) : Prop := v = none ∧ Keep h0 h [a] ∧ Arv Z h a ka .long (2 : Int32) [(.long 0), (.long 0)] (.long 0)
theorem ef11 (a : Addr) (m : MethodId) : entryFrame m #[(.ref a), (.long 0)] 5 = mkF m 0 #[.val (.ref a), .val (.long 0), .second, .unset, .unset] [] := by first | (simp [entryFrame, mkF, argsToLocals, Value.category]; done) | rfl
theorem rm11 (l : Launch) (Z : State) (a0 : Array Value) (hw : HW a0 Z) (ws : List Jvm.Cond) (a : Addr) (ka : ClassId) (x0 : Int64) (x1 : Int64) (h0 : Heap) (n0 : Nat) (Z0 : n0 ≤ h0.size) (V : Arv Z h0 a ka .long (2 : Int32) [(.long x0), (.long x1)] (.long 0)) (ga : n0 ≤ a) : OMet l Z ws (⟨"java/util/Arrays", "fill", "([JJ)V"⟩ : MethodName) jdk_65_method_101_code 5 none R11 #[(.ref a), (.long 0)] h0 n0 (Q11 Z a ka x0 x1 h0) := by
  refine OMet.of (own := "java/util/Arrays") rfl (plainFor_of_name pn_1) (ef11 a) Z0 ?_
  intro p e s m below meth c T0 Y0 hnm
  refine Gl.iconst Y0 (v := (0 : Int32)) (by decide) dC_0 rfl ?_
  refine Gl.istoreN Y0 (L' := #[.val (.ref a), .val (.long 0), .second, .val (.int 0), .unset]) rfl dC_1 rfl ?_
  refine Gl.aloadN Y0 rfl rfl dC_2 rfl ?_
  refine Gl.arraylength Y0 V dC_3 rfl ?_
  refine Gl.istore Y0 (L' := #[.val (.ref a), .val (.long 0), .second, .val (.int 0), .val (.int 2)]) rfl dC_4 rfl ?_
  refine Gl.iloadN Y0 rfl dC_6 rfl ?_
  refine Gl.iload Y0 rfl dC_7 rfl ?_
  refine Gl.icmpge Y0 dC_9 (by decide) rfl rfl (fun c9 => ?_) (fun c9 => ?_)
  · exact absurd c9 (by decide)
  refine Gl.aloadN Y0 rfl rfl dC_12 rfl ?_
  refine Gl.iloadN Y0 rfl dC_13 rfl ?_
  refine Gl.lloadN Y0 rfl dC_14 rfl ?_
  refine Gl.lastore Y0 V (v := (.long 0)) rfl ⟨by decide, by decide⟩ (ix := 0) rfl (Nat.le_of_ble_eq_true rfl) ga dC_15 rfl (fun T15 h15 Y15 W15 A15 => ?_)
  have A15 : Arv Z h15 a ka .long (2 : Int32) [(.long 0), (.long x1)] (.long 0) := A15
  have K15 : Keep h0 h15 [a] := (Keep.refl h0 [a]).wr W15 (Or.inl (List.mem_of_getElem? (i := 0) rfl))
  show Gl p e below _ (T15.setTop (mkF m 16 _ []))
  refine Gl.iinc Y15 rfl (r := (1 : Int32)) (by decide) (L' := #[.val (.ref a), .val (.long 0), .second, .val (.int 1), .val (.int 2)]) rfl dC_16 rfl ?_
  refine Gl.goto Y15 dC_19 (by decide) rfl ?_
  refine Gl.iloadN Y15 rfl dC_6 rfl ?_
  refine Gl.iload Y15 rfl dC_7 rfl ?_
  refine Gl.icmpge Y15 dC_9 (by decide) rfl rfl (fun c9_2 => ?_) (fun c9_2 => ?_)
  · exact absurd c9_2 (by decide)
  refine Gl.aloadN Y15 rfl rfl dC_12 rfl ?_
  refine Gl.iloadN Y15 rfl dC_13 rfl ?_
  refine Gl.lloadN Y15 rfl dC_14 rfl ?_
  refine Gl.lastore Y15 A15 (v := (.long 0)) rfl ⟨by decide, by decide⟩ (ix := 1) rfl (Nat.le_of_ble_eq_true rfl) ga dC_15 rfl (fun T15_2 h15_2 Y15_2 W15_2 A15_2 => ?_)
  have A15_2 : Arv Z h15_2 a ka .long (2 : Int32) [(.long 0), (.long 0)] (.long 0) := A15_2
  have K15_2 : Keep h0 h15_2 [a] := K15.wr W15_2 (Or.inl (List.mem_of_getElem? (i := 0) rfl))
  show Gl p e below _ (T15_2.setTop (mkF m 16 _ []))
  refine Gl.iinc Y15_2 rfl (r := (2 : Int32)) (by decide) (L' := #[.val (.ref a), .val (.long 0), .second, .val (.int 2), .val (.int 2)]) rfl dC_16 rfl ?_
  refine Gl.goto Y15_2 dC_19 (by decide) rfl ?_
  refine Gl.iloadN Y15_2 rfl dC_6 rfl ?_
  refine Gl.iload Y15_2 rfl dC_7 rfl ?_
  refine Gl.icmpge Y15_2 dC_9 (by decide) rfl rfl (fun c9_3 => ?_) (fun c9_3 => ?_)
  rotate_left
  · exact absurd c9_3 (by decide)
  exact Gl.retV Y15_2 (by decide) (by decide)  dC_22 ⟨rfl, K15_2, A15_2⟩
def R12 : Room := { frames := 0, cells := 0, slots := 0, locals := 0 }
def Q12 (Z : State) (h0 : Heap) (v : Option Value) (h : Heap) : Prop := v = none ∧ h0 = h
theorem ef12 (m : MethodId) : entryFrame m #[(.int 2), (.int 1), (.int 2)] 3 = mkF m 0 #[.val (.int 2), .val (.int 1), .val (.int 2)] [] := by first | (simp [entryFrame, mkF, argsToLocals, Value.category]; done) | rfl
theorem rm12 (l : Launch) (Z : State) (a0 : Array Value) (hw : HW a0 Z) (ws : List Jvm.Cond) (h0 : Heap) (n0 : Nat) (Z0 : n0 ≤ h0.size) : OMet l Z ws (⟨"java/util/Arrays", "rangeCheck", "(III)V"⟩ : MethodName) jdk_65_method_30_code 3 none R12 #[(.int 2), (.int 1), (.int 2)] h0 n0 (Q12 Z h0) := by
  refine OMet.of (own := "java/util/Arrays") rfl (plainFor_of_name pn_1) (ef12) Z0 ?_
  intro p e s m below meth c T0 Y0 hnm
  refine Gl.iloadN Y0 rfl dD_0 rfl ?_
  refine Gl.iloadN Y0 rfl dD_1 rfl ?_
  refine Gl.icmple Y0 dD_2 (by decide) rfl rfl (fun c2 => ?_) (fun c2 => ?_)
  rotate_left
  · exact absurd c2 (by decide)
  refine Gl.iloadN Y0 rfl dD_46 rfl ?_
  refine Gl.ifge Y0 dD_47 (by decide) rfl rfl (fun c47 => ?_) (fun c47 => ?_)
  rotate_left
  · exact absurd c47 (by decide)
  refine Gl.iloadN Y0 rfl dD_59 rfl ?_
  refine Gl.iloadN Y0 rfl dD_60 rfl ?_
  refine Gl.icmple Y0 dD_61 (by decide) rfl rfl (fun c61 => ?_) (fun c61 => ?_)
  rotate_left
  · exact absurd c61 (by decide)
  exact Gl.retV Y0 (by decide) (by decide)  dD_73 ⟨rfl, rfl⟩
theorem dE_16 : decode jdk_65_method_102_code 16 = .ok (.aload_n 0, 1) := by decide +kernel
theorem dE_17 : decode jdk_65_method_102_code 17 = .ok (.iload 5, 2) := by decide +kernel
theorem dE_19 : decode jdk_65_method_102_code 19 = .ok (.lload_n 3, 1) := by decide +kernel
theorem dE_20 : decode jdk_65_method_102_code 20 = .ok (.lastore, 1) := by decide +kernel
theorem dE_21 : decode jdk_65_method_102_code 21 = .ok (.iinc 5 1, 3) := by decide +kernel
theorem dE_24 : decode jdk_65_method_102_code 24 = .ok (.goto (-14), 3) := by decide +kernel
def R13 : Room := { frames := 1, cells := 0, slots := 0, locals := 14 }
def Q13 (Z : State) (a : Addr) (ka : ClassId) (v1 : Int64) (x0 : Int64) (x1 : Int64) (h0 : Heap) (v : Option Value) (h : Heap) : Prop := v = none ∧ Keep h0 h [a] ∧ Arv Z h a ka .long (2 : Int32) [(.long x0), (.long v1)] (.long 0)
theorem ef13 (a : Addr) (v1 : Int64) (m : MethodId) : entryFrame m #[(.ref a), (.int 1), (.int 2), (.long v1)] 6 = mkF m 0 #[.val (.ref a), .val (.int 1), .val (.int 2), .val (.long v1), .second, .unset] [] := by first | (simp [entryFrame, mkF, argsToLocals, Value.category]; done) | rfl
theorem rm13 (l : Launch) (Z : State) (a0 : Array Value) (hw : HW a0 Z) (ws : List Jvm.Cond) (a : Addr) (ka : ClassId) (v1 : Int64) (x0 : Int64) (x1 : Int64) (h0 : Heap) (n0 : Nat) (Z0 : n0 ≤ h0.size) (V : Arv Z h0 a ka .long (2 : Int32) [(.long x0), (.long x1)] (.long 0)) (ga : n0 ≤ a) : OMet l Z ws (⟨"java/util/Arrays", "fill", "([JIIJ)V"⟩ : MethodName) jdk_65_method_102_code 6 none R13 #[(.ref a), (.int 1), (.int 2), (.long v1)] h0 n0 (Q13 Z a ka v1 x0 x1 h0) := by
  refine OMet.of (own := "java/util/Arrays") rfl (plainFor_of_name pn_1) (ef13 a v1) Z0 ?_
  intro p e s m below meth c T0 Y0 hnm
  refine Gl.aloadN Y0 rfl rfl dE_0 rfl ?_
  refine Gl.arraylength Y0 V dE_1 rfl ?_
  refine Gl.iloadN Y0 rfl dE_2 rfl ?_
  refine Gl.iloadN Y0 rfl dE_3 rfl ?_
  refine Gl.callS Y0 (tw_27 hw) (tw_28 hw) (tw_25 hw) (tw_29 hw) (by decide) (rm12 l Z a0 hw [] h0 n0 Y0.sz) (argsL := [(.int 2), (.int 1), (.int 2)]) (rest := []) rfl rfl (lenOf pd_0 rfl) rfl (by decide) (Nat.le_of_ble_eq_true rfl) (by decide) (by decide) dE_4 rfl (fun v4 T4 h4 Y4 q4 => ?_)
  obtain ⟨rfl, rfl⟩ := q4
  show Gl p e below _ (T4.setTop (mkF m 7 _ []))
  refine Gl.iloadN Y4 rfl dE_7 rfl ?_
  refine Gl.istore Y4 (L' := #[.val (.ref a), .val (.int 1), .val (.int 2), .val (.long v1), .second, .val (.int 1)]) rfl dE_8 rfl ?_
  refine Gl.iload Y4 rfl dE_10 rfl ?_
  refine Gl.iloadN Y4 rfl dE_12 rfl ?_
  refine Gl.icmpge Y4 dE_13 (by decide) rfl rfl (fun c13 => ?_) (fun c13 => ?_)
  · exact absurd c13 (by decide)
  refine Gl.aloadN Y4 rfl rfl dE_16 rfl ?_
  refine Gl.iload Y4 rfl dE_17 rfl ?_
  refine Gl.lloadN Y4 rfl dE_19 rfl ?_
  refine Gl.lastore Y4 V (v := (.long v1)) rfl ⟨by decide, by decide⟩ (ix := 1) rfl (Nat.le_of_ble_eq_true rfl) ga dE_20 rfl (fun T20 h20 Y20 W20 A20 => ?_)
  have A20 : Arv Z h20 a ka .long (2 : Int32) [(.long x0), (.long v1)] (.long 0) := A20
  have K20 : Keep h0 h20 [a] := (Keep.refl h0 [a]).wr W20 (Or.inl (List.mem_of_getElem? (i := 0) rfl))
  show Gl p e below _ (T20.setTop (mkF m 21 _ []))
  refine Gl.iinc Y20 rfl (r := (2 : Int32)) (by decide) (L' := #[.val (.ref a), .val (.int 1), .val (.int 2), .val (.long v1), .second, .val (.int 2)]) rfl dE_21 rfl ?_
  refine Gl.goto Y20 dE_24 (by decide) rfl ?_
  refine Gl.iload Y20 rfl dE_10 rfl ?_
  refine Gl.iloadN Y20 rfl dE_12 rfl ?_
  refine Gl.icmpge Y20 dE_13 (by decide) rfl rfl (fun c13_2 => ?_) (fun c13_2 => ?_)
  rotate_left
  · exact absurd c13_2 (by decide)
  exact Gl.retV Y20 (by decide) (by decide)  dE_27 ⟨rfl, K20, A20⟩
def R14 : Room := { frames := 2, cells := 0, slots := 0, locals := 31 }
def Q14 (Z : State) (o : Addr) (wo : Addr) (ko : ClassId) (x0 : Int64) (x1 : Int64) (v1 : Int64) (sg : Int64) (h0 : Heap) (v : Option Value) (h : Heap) : Prop := v = some (.ref o) ∧ Keep h0 h [wo] ∧ Arv Z h wo ko .long (2 : Int32) [(.long v1), (.long sg)] (.long 0)
theorem ef14 (o : Addr) (v1 : Int64) (m : MethodId) : entryFrame m #[(.ref o), (.long v1)] 3 = mkF m 0 #[.val (.ref o), .val (.long v1), .second] [] := by first | (simp [entryFrame, mkF, argsToLocals, Value.category]; done) | rfl
theorem rm14 (l : Launch) (Z : State) (a0 : Array Value) (hw : HW a0 Z) (ws : List Jvm.Cond) (o : Addr) (wo : Addr) (ko : ClassId) (x0 : Int64) (x1 : Int64) (v1 : Int64) (sg : Int64) (h0 : Heap) (n0 : Nat) (Z0 : n0 ≤ h0.size) (E_o : Exa Z h0 o kW) (F_o : Fld Z h0 o kW "words" "[J" (.ref wo)) (V_o : Arv Z h0 wo ko .long (2 : Int32) [(.long x0), (.long x1)] (.long 0)) (g_o : n0 ≤ wo) (nn_o : own_ne o wo) (hsg : v1 >>> ((63 : Int32) &&& 0x3f).toInt64 = sg) : OMet l Z ws (⟨"com/example/meterwise/meterwise/model/WholeNumber", "set", "(J)Lcom/example/meterwise/meterwise/model/WholeNumber;"⟩ : MethodName) prog_137_method_4_code 3 (some (.object "com/example/meterwise/meterwise/model/WholeNumber")) R14 #[(.ref o), (.long v1)] h0 n0 (Q14 Z o wo ko x0 x1 v1 sg h0) := by
  refine OMet.of (own := "com/example/meterwise/meterwise/model/WholeNumber") rfl (plainFor_of_name pn_0) (ef14 o v1) Z0 ?_
  intro p e s m below meth c T0 Y0 hnm
  refine Gl.aloadN Y0 rfl rfl dF_0 rfl ?_
  refine Gl.getF Y0 (host := "") (Or.inl (tw_15 hw)) Via.refl F_o dF_1 rfl (fun T1 Y1 => ?_)
  refine Gl.iconst Y1 (v := (0 : Int32)) (by decide) dF_4 rfl ?_
  refine Gl.lloadN Y1 rfl dF_5 rfl ?_
  refine Gl.lastore Y1 V_o (v := (.long v1)) rfl ⟨by decide, by decide⟩ (ix := 0) rfl (Nat.le_of_ble_eq_true rfl) g_o dF_6 rfl (fun T6 h6 Y6 W6 A6 => ?_)
  have A6 : Arv Z h6 wo ko .long (2 : Int32) [(.long v1), (.long x1)] (.long 0) := A6
  have K6 : Keep h0 h6 [wo] := (Keep.refl h0 [wo]).wr W6 (Or.inl (List.mem_of_getElem? (i := 0) rfl))
  show Gl p e below _ (T6.setTop (mkF m 7 _ []))
  refine Gl.aloadN Y6 rfl rfl dF_7 rfl ?_
  have f1 := (Fld.other W6 F_o (Or.inl nn_o))
  refine Gl.getF Y6 (host := "") (Or.inl (tw_15 hw)) Via.refl f1 dF_8 rfl (fun T8 Y8 => ?_)
  refine Gl.iconst Y8 (v := (1 : Int32)) (by decide) dF_11 rfl ?_
  refine Gl.aloadN Y8 rfl rfl dF_12 rfl ?_
  refine Gl.getF Y8 (host := "") (Or.inl (tw_15 hw)) Via.refl f1 dF_13 rfl (fun T13 Y13 => ?_)
  refine Gl.arraylength Y13 A6 dF_16 rfl ?_
  refine Gl.lloadN Y13 rfl dF_17 rfl ?_
  refine Gl.bipush Y13 (v := (63 : Int32)) (by decide) dF_18 rfl ?_
  obtain ⟨v20, hv20⟩ : ∃ z : Int64, (v1 >>> ((63 : Int32) &&& 0x3f).toInt64) = z := ⟨_, rfl⟩
  refine Gl.lshr Y13 hv20 dF_20 rfl ?_
  obtain rfl : sg = v20 := Eq.symm (hv20.symm.trans hsg)
  refine Gl.callS Y13 (tw_23 hw) (tw_24 hw) (tw_25 hw) (tw_26 hw) (by decide) (rm13 l Z a0 hw [] wo ko sg v1 x1 h6 n0 Y13.sz A6 g_o) (argsL := [(.ref wo), (.int 1), (.int 2), (.long sg)]) (rest := []) rfl rfl (lenOf pd_1 rfl) rfl (by decide) (Nat.le_of_ble_eq_true rfl) (by decide) (by decide) dF_21 rfl (fun v21 T21 h21 Y21 q21 => ?_)
  obtain ⟨rfl, K21, f21_0⟩ := q21
  have KK21 : Keep h0 h21 [wo] := K6.trans K21 (allS (Or.inl (List.mem_of_getElem? (i := 0) rfl)) all0)
  show Gl p e below _ (T21.setTop (mkF m 24 _ []))
  refine Gl.aloadN Y21 rfl rfl dF_24 rfl ?_
  exact Gl.retA Y21 (by decide) (by decide) rfl rfl dF_25 ⟨rfl, KK21, f21_0⟩
def R15 : Room := { frames := 1, cells := 0, slots := 0, locals := 16 }
def Q15 (Z : State) (o : Addr) (wo : Addr) (ko : ClassId) (x0 : Int64) (x1 : Int64) (h0 : Heap) (v : Option Value) (h : Heap) : Prop := v = some (.ref o) ∧ Keep h0 h [wo] ∧ Arv Z h wo ko .long (2 : Int32) [(.long 0), (.long (-9223372036854775808))] (.long 0)
theorem ef15 (o : Addr) (m : MethodId) : entryFrame m #[(.ref o)] 1 = mkF m 0 #[.val (.ref o)] [] := by first | (simp [entryFrame, mkF, argsToLocals, Value.category]; done) | rfl
theorem rm15 (l : Launch) (Z : State) (a0 : Array Value) (hw : HW a0 Z) (ws : List Jvm.Cond) (o : Addr) (wo : Addr) (ko : ClassId) (x0 : Int64) (x1 : Int64) (h0 : Heap) (n0 : Nat) (Z0 : n0 ≤ h0.size) (E_o : Exa Z h0 o kW) (F_o : Fld Z h0 o kW "words" "[J" (.ref wo)) (V_o : Arv Z h0 wo ko .long (2 : Int32) [(.long x0), (.long x1)] (.long 0)) (g_o : n0 ≤ wo) (nn_o : own_ne o wo) : OMet l Z ws (⟨"com/example/meterwise/meterwise/model/WholeNumber", "overflow", "()Lcom/example/meterwise/meterwise/model/WholeNumber;"⟩ : MethodName) prog_137_method_7_code 1 (some (.object "com/example/meterwise/meterwise/model/WholeNumber")) R15 #[(.ref o)] h0 n0 (Q15 Z o wo ko x0 x1 h0) := by
  refine OMet.of (own := "com/example/meterwise/meterwise/model/WholeNumber") rfl (plainFor_of_name pn_0) (ef15 o) Z0 ?_
  intro p e s m below meth c T0 Y0 hnm
  refine Gl.aloadN Y0 rfl rfl dG_0 rfl ?_
  refine Gl.getF Y0 (host := "") (Or.inl (tw_15 hw)) Via.refl F_o dG_1 rfl (fun T1 Y1 => ?_)
  refine Gl.lconst Y1 (v := (0 : Int64)) (by decide) dG_4 rfl ?_
  refine Gl.callS Y1 (tw_55 hw) (tw_56 hw) (tw_25 hw) (tw_57 hw) (by decide) (rm11 l Z a0 hw [] wo ko x0 x1 h0 n0 Y1.sz V_o g_o) (argsL := [(.ref wo), (.long 0)]) (rest := []) rfl rfl (lenOf pd_2 rfl) rfl (by decide) (Nat.le_of_ble_eq_true rfl) (by decide) (by decide) dG_5 rfl (fun v5 T5 h5 Y5 q5 => ?_)
  obtain ⟨rfl, K5, f5_0⟩ := q5
  have KK5 : Keep h0 h5 [wo] := (Keep.refl h0 [wo]).trans K5 (allS (Or.inl (List.mem_of_getElem? (i := 0) rfl)) all0)
  show Gl p e below _ (T5.setTop (mkF m 8 _ []))
  refine Gl.aloadN Y5 rfl rfl dG_8 rfl ?_
  have f1 := (F_o.keep K5 (ninS nn_o nin0))
  refine Gl.getF Y5 (host := "") (Or.inl (tw_15 hw)) Via.refl f1 dG_9 rfl (fun T9 Y9 => ?_)
  refine Gl.aloadN Y9 rfl rfl dG_12 rfl ?_
  refine Gl.getF Y9 (host := "") (Or.inl (tw_15 hw)) Via.refl f1 dG_13 rfl (fun T13 Y13 => ?_)
  refine Gl.arraylength Y13 f5_0 dG_16 rfl ?_
  refine Gl.iconst Y13 (v := (1 : Int32)) (by decide) dG_17 rfl ?_
  refine Gl.isub Y13 (r := (1 : Int32)) (by decide) dG_18 rfl ?_
  refine Gl.ldcJ Y13 (tw_45 hw) dG_19 rfl ?_
  refine Gl.lastore Y13 f5_0 (v := (.long (-9223372036854775808))) rfl ⟨by decide, by decide⟩ (ix := 1) rfl (Nat.le_of_ble_eq_true rfl) g_o dG_22 rfl (fun T22 h22 Y22 W22 A22 => ?_)
  have A22 : Arv Z h22 wo ko .long (2 : Int32) [(.long 0), (.long (-9223372036854775808))] (.long 0) := A22
  have K22 : Keep h0 h22 [wo] := KK5.wr W22 (Or.inl (List.mem_of_getElem? (i := 0) rfl))
  show Gl p e below _ (T22.setTop (mkF m 23 _ []))
  refine Gl.aloadN Y22 rfl rfl dG_23 rfl ?_
  exact Gl.retA Y22 (by decide) (by decide) rfl rfl dG_24 ⟨rfl, K22, A22⟩
def R16 : Room := { frames := 0, cells := 0, slots := 0, locals := 0 }
def Q16 (Z : State) (h0 : Heap) (v : Option Value) (h : Heap) : Prop := v = some (.int 2) ∧ h0 = h
theorem ef16 (m : MethodId) : entryFrame m #[(.int 2), (.int 2)] 2 = mkF m 0 #[.val (.int 2), .val (.int 2)] [] := by first | (simp [entryFrame, mkF, argsToLocals, Value.category]; done) | rfl
theorem rm16 (l : Launch) (Z : State) (a0 : Array Value) (hw : HW a0 Z) (ws : List Jvm.Cond) (h0 : Heap) (n0 : Nat) (Z0 : n0 ≤ h0.size) : OMet l Z ws (⟨"java/lang/Math", "max", "(II)I"⟩ : MethodName) jdk_29_method_65_code 2 (some .int) R16 #[(.int 2), (.int 2)] h0 n0 (Q16 Z h0) := by
  refine OMet.of (own := "java/lang/Math") rfl (Jvm.Free.JP.mathPlain rfl (by decide +kernel)) (ef16) Z0 ?_
  intro p e s m below meth c T0 Y0 hnm
  refine Gl.iloadN Y0 rfl dH_0 rfl ?_
  refine Gl.iloadN Y0 rfl dH_1 rfl ?_
  refine Gl.icmplt Y0 dH_2 (by decide) rfl rfl (fun c2 => ?_) (fun c2 => ?_)
  · exact absurd c2 (by decide)
  refine Gl.iloadN Y0 rfl dH_5 rfl ?_
  refine Gl.goto Y0 dH_6 (by decide) rfl ?_
  exact Gl.retI Y0 (by decide) (by decide)  dH_10 ⟨rfl, rfl⟩
def R17 : Room := { frames := 0, cells := 0, slots := 0, locals := 0 }
def Q17 (Z : State) (o : Addr) (wo : Addr) (ko : ClassId) (x0 : Int64) (x1 : Int64) (x2 : Int64) (h0 : Heap) (v : Option Value) (h : Heap) : Prop := v = some (.long x2) ∧ h0 = h
theorem ef17 (o : Addr) (m : MethodId) : entryFrame m #[(.ref o)] 1 = mkF m 0 #[.val (.ref o)] [] := by first | (simp [entryFrame, mkF, argsToLocals, Value.category]; done) | rfl
theorem rm17 (l : Launch) (Z : State) (a0 : Array Value) (hw : HW a0 Z) (ws : List Jvm.Cond) (o : Addr) (wo : Addr) (ko : ClassId) (x0 : Int64) (x1 : Int64) (x2 : Int64) (h0 : Heap) (n0 : Nat) (Z0 : n0 ≤ h0.size) (E_o : Exa Z h0 o kW) (F_o : Fld Z h0 o kW "words" "[J" (.ref wo)) (V_o : Arv Z h0 wo ko .long (3 : Int32) [(.long x0), (.long x1), (.long x2)] (.long 0)) : OMet l Z ws (⟨"com/example/meterwise/meterwise/model/WholeNumber", "top", "()J"⟩ : MethodName) prog_137_method_31_code 1 (some .long) R17 #[(.ref o)] h0 n0 (Q17 Z o wo ko x0 x1 x2 h0) := by
  refine OMet.of (own := "com/example/meterwise/meterwise/model/WholeNumber") rfl (plainFor_of_name pn_0) (ef17 o) Z0 ?_
  intro p e s m below meth c T0 Y0 hnm
  refine Gl.aloadN Y0 rfl rfl dB_0 rfl ?_
  refine Gl.getF Y0 (host := "") (Or.inl (tw_15 hw)) Via.refl F_o dB_1 rfl (fun T1 Y1 => ?_)
  refine Gl.aloadN Y1 rfl rfl dB_4 rfl ?_
  refine Gl.getF Y1 (host := "") (Or.inl (tw_15 hw)) Via.refl F_o dB_5 rfl (fun T5 Y5 => ?_)
  refine Gl.arraylength Y5 V_o dB_8 rfl ?_
  refine Gl.iconst Y5 (v := (1 : Int32)) (by decide) dB_9 rfl ?_
  refine Gl.isub Y5 (r := (2 : Int32)) (by decide) dB_10 rfl ?_
  refine Gl.laload Y5 V_o ⟨by decide, by decide⟩ (v := (.long x2)) rfl dB_11 rfl ?_
  exact Gl.retJ Y5 (by decide) (by decide)  dB_12 ⟨rfl, rfl⟩
def R18 : Room := { frames := 0, cells := 0, slots := 0, locals := 0 }
def Q18 (Z : State) (a : Addr) (ka : ClassId) (x0 : Int64) (x1 : Int64) (x2 : Int64) (h0 : Heap) (v : Option Value) (h : Heap) : Prop := v = none ∧ Keep h0 h [a] ∧ Arv Z h a ka .long (3 : Int32) [(.long 0), (.long 0), (.long 0)] (.long 0)
theorem ef18 (a : Addr) (m : MethodId) : entryFrame m #[(.ref a), (.long 0)] 5 = mkF m 0 #[.val (.ref a), .val (.long 0), .second, .unset, .unset] [] := by first | (simp [entryFrame, mkF, argsToLocals, Value.category]; done) | rfl
theorem rm18 (l : Launch) (Z : State) (a0 : Array Value) (hw : HW a0 Z) (ws : List Jvm.Cond) (a : Addr) (ka : ClassId) (x0 : Int64) (x1 : Int64) (x2 : Int64) (h0 : Heap) (n0 : Nat) (Z0 : n0 ≤ h0.size) (V : Arv Z h0 a ka .long (3 : Int32) [(.long x0), (.long x1), (.long x2)] (.long 0)) (ga : n0 ≤ a) : OMet l Z ws (⟨"java/util/Arrays", "fill", "([JJ)V"⟩ : MethodName) jdk_65_method_101_code 5 none R18 #[(.ref a), (.long 0)] h0 n0 (Q18 Z a ka x0 x1 x2 h0) := by
  refine OMet.of (own := "java/util/Arrays") rfl (plainFor_of_name pn_1) (ef18 a) Z0 ?_
  intro p e s m below meth c T0 Y0 hnm
  refine Gl.iconst Y0 (v := (0 : Int32)) (by decide) dC_0 rfl ?_
  refine Gl.istoreN Y0 (L' := #[.val (.ref a), .val (.long 0), .second, .val (.int 0), .unset]) rfl dC_1 rfl ?_
  refine Gl.aloadN Y0 rfl rfl dC_2 rfl ?_
  refine Gl.arraylength Y0 V dC_3 rfl ?_
  refine Gl.istore Y0 (L' := #[.val (.ref a), .val (.long 0), .second, .val (.int 0), .val (.int 3)]) rfl dC_4 rfl ?_
  refine Gl.iloadN Y0 rfl dC_6 rfl ?_
  refine Gl.iload Y0 rfl dC_7 rfl ?_
  refine Gl.icmpge Y0 dC_9 (by decide) rfl rfl (fun c9 => ?_) (fun c9 => ?_)
  · exact absurd c9 (by decide)
  refine Gl.aloadN Y0 rfl rfl dC_12 rfl ?_
  refine Gl.iloadN Y0 rfl dC_13 rfl ?_
  refine Gl.lloadN Y0 rfl dC_14 rfl ?_
  refine Gl.lastore Y0 V (v := (.long 0)) rfl ⟨by decide, by decide⟩ (ix := 0) rfl (Nat.le_of_ble_eq_true rfl) ga dC_15 rfl (fun T15 h15 Y15 W15 A15 => ?_)
  have A15 : Arv Z h15 a ka .long (3 : Int32) [(.long 0), (.long x1), (.long x2)] (.long 0) := A15
  have K15 : Keep h0 h15 [a] := (Keep.refl h0 [a]).wr W15 (Or.inl (List.mem_of_getElem? (i := 0) rfl))
  show Gl p e below _ (T15.setTop (mkF m 16 _ []))
  refine Gl.iinc Y15 rfl (r := (1 : Int32)) (by decide) (L' := #[.val (.ref a), .val (.long 0), .second, .val (.int 1), .val (.int 3)]) rfl dC_16 rfl ?_
  refine Gl.goto Y15 dC_19 (by decide) rfl ?_
  refine Gl.iloadN Y15 rfl dC_6 rfl ?_
  refine Gl.iload Y15 rfl dC_7 rfl ?_
  refine Gl.icmpge Y15 dC_9 (by decide) rfl rfl (fun c9_2 => ?_) (fun c9_2 => ?_)
  · exact absurd c9_2 (by decide)
  refine Gl.aloadN Y15 rfl rfl dC_12 rfl ?_
  refine Gl.iloadN Y15 rfl dC_13 rfl ?_
  refine Gl.lloadN Y15 rfl dC_14 rfl ?_
  refine Gl.lastore Y15 A15 (v := (.long 0)) rfl ⟨by decide, by decide⟩ (ix := 1) rfl (Nat.le_of_ble_eq_true rfl) ga dC_15 rfl (fun T15_2 h15_2 Y15_2 W15_2 A15_2 => ?_)
  have A15_2 : Arv Z h15_2 a ka .long (3 : Int32) [(.long 0), (.long 0), (.long x2)] (.long 0) := A15_2
  have K15_2 : Keep h0 h15_2 [a] := K15.wr W15_2 (Or.inl (List.mem_of_getElem? (i := 0) rfl))
  show Gl p e below _ (T15_2.setTop (mkF m 16 _ []))
  refine Gl.iinc Y15_2 rfl (r := (2 : Int32)) (by decide) (L' := #[.val (.ref a), .val (.long 0), .second, .val (.int 2), .val (.int 3)]) rfl dC_16 rfl ?_
  refine Gl.goto Y15_2 dC_19 (by decide) rfl ?_
  refine Gl.iloadN Y15_2 rfl dC_6 rfl ?_
  refine Gl.iload Y15_2 rfl dC_7 rfl ?_
  refine Gl.icmpge Y15_2 dC_9 (by decide) rfl rfl (fun c9_3 => ?_) (fun c9_3 => ?_)
  · exact absurd c9_3 (by decide)
  refine Gl.aloadN Y15_2 rfl rfl dC_12 rfl ?_
  refine Gl.iloadN Y15_2 rfl dC_13 rfl ?_
  refine Gl.lloadN Y15_2 rfl dC_14 rfl ?_
  refine Gl.lastore Y15_2 A15_2 (v := (.long 0)) rfl ⟨by decide, by decide⟩ (ix := 2) rfl (Nat.le_of_ble_eq_true rfl) ga dC_15 rfl (fun T15_3 h15_3 Y15_3 W15_3 A15_3 => ?_)
  have A15_3 : Arv Z h15_3 a ka .long (3 : Int32) [(.long 0), (.long 0), (.long 0)] (.long 0) := A15_3
  have K15_3 : Keep h0 h15_3 [a] := K15_2.wr W15_3 (Or.inl (List.mem_of_getElem? (i := 0) rfl))
  show Gl p e below _ (T15_3.setTop (mkF m 16 _ []))
  refine Gl.iinc Y15_3 rfl (r := (3 : Int32)) (by decide) (L' := #[.val (.ref a), .val (.long 0), .second, .val (.int 3), .val (.int 3)]) rfl dC_16 rfl ?_
  refine Gl.goto Y15_3 dC_19 (by decide) rfl ?_
  refine Gl.iloadN Y15_3 rfl dC_6 rfl ?_
  refine Gl.iload Y15_3 rfl dC_7 rfl ?_
  refine Gl.icmpge Y15_3 dC_9 (by decide) rfl rfl (fun c9_4 => ?_) (fun c9_4 => ?_)
  rotate_left
  · exact absurd c9_4 (by decide)
  exact Gl.retV Y15_3 (by decide) (by decide)  dC_22 ⟨rfl, K15_3, A15_3⟩
def R19 : Room := { frames := 0, cells := 0, slots := 0, locals := 0 }
def Q19 (Z : State) (h0 : Heap) (v : Option Value) (h : Heap) : Prop := v = none ∧ h0 = h
theorem ef19 (m : MethodId) : entryFrame m #[(.int 3), (.int 1), (.int 3)] 3 = mkF m 0 #[.val (.int 3), .val (.int 1), .val (.int 3)] [] := by first | (simp [entryFrame, mkF, argsToLocals, Value.category]; done) | rfl
theorem rm19 (l : Launch) (Z : State) (a0 : Array Value) (hw : HW a0 Z) (ws : List Jvm.Cond) (h0 : Heap) (n0 : Nat) (Z0 : n0 ≤ h0.size) : OMet l Z ws (⟨"java/util/Arrays", "rangeCheck", "(III)V"⟩ : MethodName) jdk_65_method_30_code 3 none R19 #[(.int 3), (.int 1), (.int 3)] h0 n0 (Q19 Z h0) := by
  refine OMet.of (own := "java/util/Arrays") rfl (plainFor_of_name pn_1) (ef19) Z0 ?_
  intro p e s m below meth c T0 Y0 hnm
  refine Gl.iloadN Y0 rfl dD_0 rfl ?_
  refine Gl.iloadN Y0 rfl dD_1 rfl ?_
  refine Gl.icmple Y0 dD_2 (by decide) rfl rfl (fun c2 => ?_) (fun c2 => ?_)
  rotate_left
  · exact absurd c2 (by decide)
  refine Gl.iloadN Y0 rfl dD_46 rfl ?_
  refine Gl.ifge Y0 dD_47 (by decide) rfl rfl (fun c47 => ?_) (fun c47 => ?_)
  rotate_left
  · exact absurd c47 (by decide)
  refine Gl.iloadN Y0 rfl dD_59 rfl ?_
  refine Gl.iloadN Y0 rfl dD_60 rfl ?_
  refine Gl.icmple Y0 dD_61 (by decide) rfl rfl (fun c61 => ?_) (fun c61 => ?_)
  rotate_left
  · exact absurd c61 (by decide)
  exact Gl.retV Y0 (by decide) (by decide)  dD_73 ⟨rfl, rfl⟩
def R20 : Room := { frames := 1, cells := 0, slots := 0, locals := 14 }
def Q20 (Z : State) (a : Addr) (ka : ClassId) (v1 : Int64) (x0 : Int64) (x1 : Int64) (x2 : Int64) (h0 : Heap) (v : Option Value) (h : Heap) : Prop := v = none ∧ Keep h0 h [a] ∧ Arv Z h a ka .long (3 : Int32) [(.long x0), (.long v1), (.long v1)] (.long 0)
theorem ef20 (a : Addr) (v1 : Int64) (m : MethodId) : entryFrame m #[(.ref a), (.int 1), (.int 3), (.long v1)] 6 = mkF m 0 #[.val (.ref a), .val (.int 1), .val (.int 3), .val (.long v1), .second, .unset] [] := by first | (simp [entryFrame, mkF, argsToLocals, Value.category]; done) | rfl
theorem rm20 (l : Launch) (Z : State) (a0 : Array Value) (hw : HW a0 Z) (ws : List Jvm.Cond) (a : Addr) (ka : ClassId) (v1 : Int64) (x0 : Int64) (x1 : Int64) (x2 : Int64) (h0 : Heap) (n0 : Nat) (Z0 : n0 ≤ h0.size) (V : Arv Z h0 a ka .long (3 : Int32) [(.long x0), (.long x1), (.long x2)] (.long 0)) (ga : n0 ≤ a) : OMet l Z ws (⟨"java/util/Arrays", "fill", "([JIIJ)V"⟩ : MethodName) jdk_65_method_102_code 6 none R20 #[(.ref a), (.int 1), (.int 3), (.long v1)] h0 n0 (Q20 Z a ka v1 x0 x1 x2 h0) := by
  refine OMet.of (own := "java/util/Arrays") rfl (plainFor_of_name pn_1) (ef20 a v1) Z0 ?_
  intro p e s m below meth c T0 Y0 hnm
  refine Gl.aloadN Y0 rfl rfl dE_0 rfl ?_
  refine Gl.arraylength Y0 V dE_1 rfl ?_
  refine Gl.iloadN Y0 rfl dE_2 rfl ?_
  refine Gl.iloadN Y0 rfl dE_3 rfl ?_
  refine Gl.callS Y0 (tw_27 hw) (tw_28 hw) (tw_25 hw) (tw_29 hw) (by decide) (rm19 l Z a0 hw [] h0 n0 Y0.sz) (argsL := [(.int 3), (.int 1), (.int 3)]) (rest := []) rfl rfl (lenOf pd_0 rfl) rfl (by decide) (Nat.le_of_ble_eq_true rfl) (by decide) (by decide) dE_4 rfl (fun v4 T4 h4 Y4 q4 => ?_)
  obtain ⟨rfl, rfl⟩ := q4
  show Gl p e below _ (T4.setTop (mkF m 7 _ []))
  refine Gl.iloadN Y4 rfl dE_7 rfl ?_
  refine Gl.istore Y4 (L' := #[.val (.ref a), .val (.int 1), .val (.int 3), .val (.long v1), .second, .val (.int 1)]) rfl dE_8 rfl ?_
  refine Gl.iload Y4 rfl dE_10 rfl ?_
  refine Gl.iloadN Y4 rfl dE_12 rfl ?_
  refine Gl.icmpge Y4 dE_13 (by decide) rfl rfl (fun c13 => ?_) (fun c13 => ?_)
  · exact absurd c13 (by decide)
  refine Gl.aloadN Y4 rfl rfl dE_16 rfl ?_
  refine Gl.iload Y4 rfl dE_17 rfl ?_
  refine Gl.lloadN Y4 rfl dE_19 rfl ?_
  refine Gl.lastore Y4 V (v := (.long v1)) rfl ⟨by decide, by decide⟩ (ix := 1) rfl (Nat.le_of_ble_eq_true rfl) ga dE_20 rfl (fun T20 h20 Y20 W20 A20 => ?_)
  have A20 : Arv Z h20 a ka .long (3 : Int32) [(.long x0), (.long v1), (.long x2)] (.long 0) := A20
  have K20 : Keep h0 h20 [a] := (Keep.refl h0 [a]).wr W20 (Or.inl (List.mem_of_getElem? (i := 0) rfl))
  show Gl p e below _ (T20.setTop (mkF m 21 _ []))
  refine Gl.iinc Y20 rfl (r := (2 : Int32)) (by decide) (L' := #[.val (.ref a), .val (.int 1), .val (.int 3), .val (.long v1), .second, .val (.int 2)]) rfl dE_21 rfl ?_
  refine Gl.goto Y20 dE_24 (by decide) rfl ?_
  refine Gl.iload Y20 rfl dE_10 rfl ?_
  refine Gl.iloadN Y20 rfl dE_12 rfl ?_
  refine Gl.icmpge Y20 dE_13 (by decide) rfl rfl (fun c13_2 => ?_) (fun c13_2 => ?_)
  · exact absurd c13_2 (by decide)
  refine Gl.aloadN Y20 rfl rfl dE_16 rfl ?_
  refine Gl.iload Y20 rfl dE_17 rfl ?_
  refine Gl.lloadN Y20 rfl dE_19 rfl ?_
  refine Gl.lastore Y20 A20 (v := (.long v1)) rfl ⟨by decide, by decide⟩ (ix := 2) rfl (Nat.le_of_ble_eq_true rfl) ga dE_20 rfl (fun T20_2 h20_2 Y20_2 W20_2 A20_2 => ?_)
  have A20_2 : Arv Z h20_2 a ka .long (3 : Int32) [(.long x0), (.long v1), (.long v1)] (.long 0) := A20_2
  have K20_2 : Keep h0 h20_2 [a] := K20.wr W20_2 (Or.inl (List.mem_of_getElem? (i := 0) rfl))
  show Gl p e below _ (T20_2.setTop (mkF m 21 _ []))
  refine Gl.iinc Y20_2 rfl (r := (3 : Int32)) (by decide) (L' := #[.val (.ref a), .val (.int 1), .val (.int 3), .val (.long v1), .second, .val (.int 3)]) rfl dE_21 rfl ?_
  refine Gl.goto Y20_2 dE_24 (by decide) rfl ?_
  refine Gl.iload Y20_2 rfl dE_10 rfl ?_
  refine Gl.iloadN Y20_2 rfl dE_12 rfl ?_
  refine Gl.icmpge Y20_2 dE_13 (by decide) rfl rfl (fun c13_3 => ?_) (fun c13_3 => ?_)
  rotate_left
  · exact absurd c13_3 (by decide)
  exact Gl.retV Y20_2 (by decide) (by decide)  dE_27 ⟨rfl, K20_2, A20_2⟩
def R21 : Room := { frames := 2, cells := 0, slots := 0, locals := 31 }
def Q21 (Z : State) (o : Addr) (wo : Addr) (ko : ClassId) (x0 : Int64) (x1 : Int64) (x2 : Int64) (v1 : Int64) (sg : Int64) (h0 : Heap) (v : Option Value) (h : Heap) : Prop := v = some (.ref o) ∧ Keep h0 h [wo] ∧ Arv Z h wo ko .long (3 : Int32) [(.long v1), (.long sg), (.long sg)] (.long 0)
theorem ef21 (o : Addr) (v1 : Int64) (m : MethodId) : entryFrame m #[(.ref o), (.long v1)] 3 = mkF m 0 #[.val (.ref o), .val (.long v1), .second] [] := by first | (simp [entryFrame, mkF, argsToLocals, Value.category]; done) | rfl
theorem rm21 (l : Launch) (Z : State) (a0 : Array Value) (hw : HW a0 Z) (ws : List Jvm.Cond) (o : Addr) (wo : Addr) (ko : ClassId) (x0 : Int64) (x1 : Int64) (x2 : Int64) (v1 : Int64) (sg : Int64) (h0 : Heap) (n0 : Nat) (Z0 : n0 ≤ h0.size) (E_o : Exa Z h0 o kW) (F_o : Fld Z h0 o kW "words" "[J" (.ref wo)) (V_o : Arv Z h0 wo ko .long (3 : Int32) [(.long x0), (.long x1), (.long x2)] (.long 0)) (g_o : n0 ≤ wo) (nn_o : own_ne o wo) (hsg : v1 >>> ((63 : Int32) &&& 0x3f).toInt64 = sg) : OMet l Z ws (⟨"com/example/meterwise/meterwise/model/WholeNumber", "set", "(J)Lcom/example/meterwise/meterwise/model/WholeNumber;"⟩ : MethodName) prog_137_method_4_code 3 (some (.object "com/example/meterwise/meterwise/model/WholeNumber")) R21 #[(.ref o), (.long v1)] h0 n0 (Q21 Z o wo ko x0 x1 x2 v1 sg h0) := by
  refine OMet.of (own := "com/example/meterwise/meterwise/model/WholeNumber") rfl (plainFor_of_name pn_0) (ef21 o v1) Z0 ?_
  intro p e s m below meth c T0 Y0 hnm
  refine Gl.aloadN Y0 rfl rfl dF_0 rfl ?_
  refine Gl.getF Y0 (host := "") (Or.inl (tw_15 hw)) Via.refl F_o dF_1 rfl (fun T1 Y1 => ?_)
  refine Gl.iconst Y1 (v := (0 : Int32)) (by decide) dF_4 rfl ?_
  refine Gl.lloadN Y1 rfl dF_5 rfl ?_
  refine Gl.lastore Y1 V_o (v := (.long v1)) rfl ⟨by decide, by decide⟩ (ix := 0) rfl (Nat.le_of_ble_eq_true rfl) g_o dF_6 rfl (fun T6 h6 Y6 W6 A6 => ?_)
  have A6 : Arv Z h6 wo ko .long (3 : Int32) [(.long v1), (.long x1), (.long x2)] (.long 0) := A6
  have K6 : Keep h0 h6 [wo] := (Keep.refl h0 [wo]).wr W6 (Or.inl (List.mem_of_getElem? (i := 0) rfl))
  show Gl p e below _ (T6.setTop (mkF m 7 _ []))
  refine Gl.aloadN Y6 rfl rfl dF_7 rfl ?_
  have f1 := (Fld.other W6 F_o (Or.inl nn_o))
  refine Gl.getF Y6 (host := "") (Or.inl (tw_15 hw)) Via.refl f1 dF_8 rfl (fun T8 Y8 => ?_)
  refine Gl.iconst Y8 (v := (1 : Int32)) (by decide) dF_11 rfl ?_
  refine Gl.aloadN Y8 rfl rfl dF_12 rfl ?_
  refine Gl.getF Y8 (host := "") (Or.inl (tw_15 hw)) Via.refl f1 dF_13 rfl (fun T13 Y13 => ?_)
  refine Gl.arraylength Y13 A6 dF_16 rfl ?_
  refine Gl.lloadN Y13 rfl dF_17 rfl ?_
  refine Gl.bipush Y13 (v := (63 : Int32)) (by decide) dF_18 rfl ?_
  obtain ⟨v20, hv20⟩ : ∃ z : Int64, (v1 >>> ((63 : Int32) &&& 0x3f).toInt64) = z := ⟨_, rfl⟩
  refine Gl.lshr Y13 hv20 dF_20 rfl ?_
  obtain rfl : sg = v20 := Eq.symm (hv20.symm.trans hsg)
  refine Gl.callS Y13 (tw_23 hw) (tw_24 hw) (tw_25 hw) (tw_26 hw) (by decide) (rm20 l Z a0 hw [] wo ko sg v1 x1 x2 h6 n0 Y13.sz A6 g_o) (argsL := [(.ref wo), (.int 1), (.int 3), (.long sg)]) (rest := []) rfl rfl (lenOf pd_1 rfl) rfl (by decide) (Nat.le_of_ble_eq_true rfl) (by decide) (by decide) dF_21 rfl (fun v21 T21 h21 Y21 q21 => ?_)
  obtain ⟨rfl, K21, f21_0⟩ := q21
  have KK21 : Keep h0 h21 [wo] := K6.trans K21 (allS (Or.inl (List.mem_of_getElem? (i := 0) rfl)) all0)
  show Gl p e below _ (T21.setTop (mkF m 24 _ []))
  refine Gl.aloadN Y21 rfl rfl dF_24 rfl ?_
  exact Gl.retA Y21 (by decide) (by decide) rfl rfl dF_25 ⟨rfl, KK21, f21_0⟩
def R22 : Room := { frames := 1, cells := 0, slots := 0, locals := 16 }
def Q22 (Z : State) (o : Addr) (wo : Addr) (ko : ClassId) (x0 : Int64) (x1 : Int64) (x2 : Int64) (h0 : Heap) (v : Option Value) (h : Heap) : Prop := v = some (.ref o) ∧ Keep h0 h [wo] ∧ Arv Z h wo ko .long (3 : Int32) [(.long 0), (.long 0), (.long (-9223372036854775808))] (.long 0)
theorem ef22 (o : Addr) (m : MethodId) : entryFrame m #[(.ref o)] 1 = mkF m 0 #[.val (.ref o)] [] := by first | (simp [entryFrame, mkF, argsToLocals, Value.category]; done) | rfl
theorem rm22 (l : Launch) (Z : State) (a0 : Array Value) (hw : HW a0 Z) (ws : List Jvm.Cond) (o : Addr) (wo : Addr) (ko : ClassId) (x0 : Int64) (x1 : Int64) (x2 : Int64) (h0 : Heap) (n0 : Nat) (Z0 : n0 ≤ h0.size) (E_o : Exa Z h0 o kW) (F_o : Fld Z h0 o kW "words" "[J" (.ref wo)) (V_o : Arv Z h0 wo ko .long (3 : Int32) [(.long x0), (.long x1), (.long x2)] (.long 0)) (g_o : n0 ≤ wo) (nn_o : own_ne o wo) : OMet l Z ws (⟨"com/example/meterwise/meterwise/model/WholeNumber", "overflow", "()Lcom/example/meterwise/meterwise/model/WholeNumber;"⟩ : MethodName) prog_137_method_7_code 1 (some (.object "com/example/meterwise/meterwise/model/WholeNumber")) R22 #[(.ref o)] h0 n0 (Q22 Z o wo ko x0 x1 x2 h0) := by
  refine OMet.of (own := "com/example/meterwise/meterwise/model/WholeNumber") rfl (plainFor_of_name pn_0) (ef22 o) Z0 ?_
  intro p e s m below meth c T0 Y0 hnm
  refine Gl.aloadN Y0 rfl rfl dG_0 rfl ?_
  refine Gl.getF Y0 (host := "") (Or.inl (tw_15 hw)) Via.refl F_o dG_1 rfl (fun T1 Y1 => ?_)
  refine Gl.lconst Y1 (v := (0 : Int64)) (by decide) dG_4 rfl ?_
  refine Gl.callS Y1 (tw_55 hw) (tw_56 hw) (tw_25 hw) (tw_57 hw) (by decide) (rm18 l Z a0 hw [] wo ko x0 x1 x2 h0 n0 Y1.sz V_o g_o) (argsL := [(.ref wo), (.long 0)]) (rest := []) rfl rfl (lenOf pd_2 rfl) rfl (by decide) (Nat.le_of_ble_eq_true rfl) (by decide) (by decide) dG_5 rfl (fun v5 T5 h5 Y5 q5 => ?_)
  obtain ⟨rfl, K5, f5_0⟩ := q5
  have KK5 : Keep h0 h5 [wo] := (Keep.refl h0 [wo]).trans K5 (allS (Or.inl (List.mem_of_getElem? (i := 0) rfl)) all0)
  show Gl p e below _ (T5.setTop (mkF m 8 _ []))
  refine Gl.aloadN Y5 rfl rfl dG_8 rfl ?_
  have f1 := (F_o.keep K5 (ninS nn_o nin0))
  refine Gl.getF Y5 (host := "") (Or.inl (tw_15 hw)) Via.refl f1 dG_9 rfl (fun T9 Y9 => ?_)
  refine Gl.aloadN Y9 rfl rfl dG_12 rfl ?_
  refine Gl.getF Y9 (host := "") (Or.inl (tw_15 hw)) Via.refl f1 dG_13 rfl (fun T13 Y13 => ?_)
  refine Gl.arraylength Y13 f5_0 dG_16 rfl ?_
  refine Gl.iconst Y13 (v := (1 : Int32)) (by decide) dG_17 rfl ?_
  refine Gl.isub Y13 (r := (2 : Int32)) (by decide) dG_18 rfl ?_
  refine Gl.ldcJ Y13 (tw_45 hw) dG_19 rfl ?_
  refine Gl.lastore Y13 f5_0 (v := (.long (-9223372036854775808))) rfl ⟨by decide, by decide⟩ (ix := 2) rfl (Nat.le_of_ble_eq_true rfl) g_o dG_22 rfl (fun T22 h22 Y22 W22 A22 => ?_)
  have A22 : Arv Z h22 wo ko .long (3 : Int32) [(.long 0), (.long 0), (.long (-9223372036854775808))] (.long 0) := A22
  have K22 : Keep h0 h22 [wo] := KK5.wr W22 (Or.inl (List.mem_of_getElem? (i := 0) rfl))
  show Gl p e below _ (T22.setTop (mkF m 23 _ []))
  refine Gl.aloadN Y22 rfl rfl dG_23 rfl ?_
  exact Gl.retA Y22 (by decide) (by decide) rfl rfl dG_24 ⟨rfl, K22, A22⟩
def R23 : Room := { frames := 0, cells := 0, slots := 0, locals := 0 }
def Q23 (Z : State) (h0 : Heap) (v : Option Value) (h : Heap) : Prop := v = some (.int 3) ∧ h0 = h
theorem ef23 (m : MethodId) : entryFrame m #[(.int 3), (.int 3)] 2 = mkF m 0 #[.val (.int 3), .val (.int 3)] [] := by first | (simp [entryFrame, mkF, argsToLocals, Value.category]; done) | rfl
theorem rm23 (l : Launch) (Z : State) (a0 : Array Value) (hw : HW a0 Z) (ws : List Jvm.Cond) (h0 : Heap) (n0 : Nat) (Z0 : n0 ≤ h0.size) : OMet l Z ws (⟨"java/lang/Math", "max", "(II)I"⟩ : MethodName) jdk_29_method_65_code 2 (some .int) R23 #[(.int 3), (.int 3)] h0 n0 (Q23 Z h0) := by
  refine OMet.of (own := "java/lang/Math") rfl (Jvm.Free.JP.mathPlain rfl (by decide +kernel)) (ef23) Z0 ?_
  intro p e s m below meth c T0 Y0 hnm
  refine Gl.iloadN Y0 rfl dH_0 rfl ?_
  refine Gl.iloadN Y0 rfl dH_1 rfl ?_
  refine Gl.icmplt Y0 dH_2 (by decide) rfl rfl (fun c2 => ?_) (fun c2 => ?_)
  · exact absurd c2 (by decide)
  refine Gl.iloadN Y0 rfl dH_5 rfl ?_
  refine Gl.goto Y0 dH_6 (by decide) rfl ?_
  exact Gl.retI Y0 (by decide) (by decide)  dH_10 ⟨rfl, rfl⟩
theorem tw_0 {a0 : Array Value} {Z : State} (hw : HW a0 Z) : (Jvm.Cond.constant "com/example/meterwise/meterwise/model/WholeNumberOverflowedPinLaw" (7 : Nat) (2147483647 : Int32)).before a0 Z = true := hw _ (List.mem_of_getElem? (i := 0) rfl)
theorem tw_1 {a0 : Array Value} {Z : State} (hw : HW a0 Z) : (Jvm.Cond.classLink "com/example/meterwise/meterwise/model/WholeNumberOverflowedPinLaw" (8 : Nat) "com/example/meterwise/meterwise/model/WholeNumber").before a0 Z = true := hw _ (List.mem_of_getElem? (i := 1) rfl)
theorem tw_3 {a0 : Array Value} {Z : State} (hw : HW a0 Z) : (Jvm.Cond.initialized "com/example/meterwise/meterwise/model/WholeNumber").before a0 Z = true := hw _ (List.mem_of_getElem? (i := 3) rfl)
theorem tw_4 {a0 : Array Value} {Z : State} (hw : HW a0 Z) : (Jvm.Cond.methodLink "com/example/meterwise/meterwise/model/WholeNumberOverflowedPinLaw" (10 : Nat) ({ cls := "com/example/meterwise/meterwise/model/WholeNumber", name := "<init>", desc := "(I)V" } : Jvm.MethodName)).before a0 Z = true := hw _ (List.mem_of_getElem? (i := 4) rfl)
theorem pd_3 : parseMethodDescriptor "(I)V" = some ⟨[.int], none⟩ := by decide +kernel
theorem tw_6 {a0 : Array Value} {Z : State} (hw : HW a0 Z) : (Jvm.Cond.code ({ cls := "com/example/meterwise/meterwise/model/WholeNumber", name := "<init>", desc := "(I)V" } : Jvm.MethodName) prog_137_method_1_code (4 : Nat) (Option.none : Option Jvm.ClassFile.FieldType)).before a0 Z = true := hw _ (List.mem_of_getElem? (i := 6) rfl)
theorem tw_5 {a0 : Array Value} {Z : State} (hw : HW a0 Z) : (Jvm.Cond.instanceMethod ({ cls := "com/example/meterwise/meterwise/model/WholeNumber", name := "<init>", desc := "(I)V" } : Jvm.MethodName)).before a0 Z = true := hw _ (List.mem_of_getElem? (i := 5) rfl)
theorem tw_68 {a0 : Array Value} {Z : State} (hw : HW a0 Z) : (Jvm.Cond.methodLink "com/example/meterwise/meterwise/model/WholeNumberOverflowedPinLaw" (36 : Nat) ({ cls := "com/example/meterwise/meterwise/model/WholeNumber", name := "overflowed", desc := "()Z" } : Jvm.MethodName)).before a0 Z = true := hw _ (List.mem_of_getElem? (i := 68) rfl)
theorem dI_0 : decode prog_137_method_8_code 0 = .ok (.aload_n 0, 1) := by decide +kernel
theorem dI_1 : decode prog_137_method_8_code 1 = .ok (.invokevirtual 78, 3) := by decide +kernel
theorem tw_41 {a0 : Array Value} {Z : State} (hw : HW a0 Z) : (Jvm.Cond.methodLink "com/example/meterwise/meterwise/model/WholeNumber" (78 : Nat) ({ cls := "com/example/meterwise/meterwise/model/WholeNumber", name := "top", desc := "()J" } : Jvm.MethodName)).before a0 Z = true := hw _ (List.mem_of_getElem? (i := 41) rfl)
theorem pd_4 : parseMethodDescriptor "()J" = some ⟨[], some .long⟩ := by decide +kernel
theorem tw_44 {a0 : Array Value} {Z : State} (hw : HW a0 Z) : (Jvm.Cond.code ({ cls := "com/example/meterwise/meterwise/model/WholeNumber", name := "top", desc := "()J" } : Jvm.MethodName) prog_137_method_31_code (1 : Nat) (Option.some Jvm.ClassFile.FieldType.long)).before a0 Z = true := hw _ (List.mem_of_getElem? (i := 44) rfl)
theorem tw_42 {a0 : Array Value} {Z : State} (hw : HW a0 Z) : (Jvm.Cond.instanceMethod ({ cls := "com/example/meterwise/meterwise/model/WholeNumber", name := "top", desc := "()J" } : Jvm.MethodName)).before a0 Z = true := hw _ (List.mem_of_getElem? (i := 42) rfl)
theorem tw_43 {a0 : Array Value} {Z : State} (hw : HW a0 Z) : (Jvm.Cond.privateMethod ({ cls := "com/example/meterwise/meterwise/model/WholeNumber", name := "top", desc := "()J" } : Jvm.MethodName)).before a0 Z = true := hw _ (List.mem_of_getElem? (i := 43) rfl)
theorem dI_4 : decode prog_137_method_8_code 4 = .ok (.ldc2_w 108, 3) := by decide +kernel
theorem dI_7 : decode prog_137_method_8_code 7 = .ok (.lcmp, 1) := by decide +kernel
theorem dI_8 : decode prog_137_method_8_code 8 = .ok (.ifCond .ne 14, 3) := by decide +kernel
theorem dI_22 : decode prog_137_method_8_code 22 = .ok (.iconst 0, 1) := by decide +kernel
theorem dI_23 : decode prog_137_method_8_code 23 = .ok (.ireturn, 1) := by decide +kernel
def RA25 : Room := { frames := 1, cells := 0, slots := 0, locals := 12 }
def QA25 (Z : State) (o0 : Addr) (o1 : Addr) (k_o1 : ClassId) (h0 : Heap) (v : Option Value) (h : Heap) : Prop := v = some (.int 0) ∧ h0 = h
theorem efA25 (o0 : Addr) (m : MethodId) : entryFrame m #[(.ref o0)] 1 = mkF m 0 #[.val (.ref o0)] [] := by first | (simp [entryFrame, mkF, argsToLocals, Value.category]; done) | rfl
theorem rmA25 (l : Launch) (Z : State) (a0 : Array Value) (hw : HW a0 Z) (ws : List Jvm.Cond) (o0 : Addr) (o1 : Addr) (k_o1 : ClassId) (h0 : Heap) (n0 : Nat) (Z0 : n0 ≤ h0.size) (E_o0 : Exa Z h0 o0 kW) (F_o0_words : Fld Z h0 o0 kW "words" "[J" (.ref o1)) (F_o0_work : Fld Z h0 o0 kW "work" "[J" .null) (g_o0 : n0 ≤ o0) (V_o1 : Arv Z h0 o1 k_o1 .long (1 : Int32) [(.long 0)] (.long 0)) (g_o1 : n0 ≤ o1) (n_o0_o1 : own_ne o0 o1) : OMet l Z ws (⟨"com/example/meterwise/meterwise/model/WholeNumber", "overflowed", "()Z"⟩ : MethodName) prog_137_method_8_code 1 (some .boolean) RA25 #[(.ref o0)] h0 n0 (QA25 Z o0 o1 k_o1 h0) := by
  refine OMet.of (own := "com/example/meterwise/meterwise/model/WholeNumber") rfl (plainFor_of_name pn_0) (efA25 o0) Z0 ?_
  intro p e s m below meth c T0 Y0 hnm
  refine Gl.aloadN Y0 rfl rfl dI_0 rfl ?_
  refine Gl.callP Y0 (tw_41 hw) (tw_42 hw) (tw_43 hw) (tw_2 hw) (tw_3 hw) (tw_44 hw) (by decide) E_o0 (rm3 l Z a0 hw [] o0 o1 k_o1 (0 : Int64) h0 n0 Y0.sz E_o0 F_o0_words V_o1) (a := o0) (argsL := []) (rest := []) rfl rfl (lenOf pd_4 rfl) rfl (by decide) (Nat.le_of_ble_eq_true rfl) (by decide) (by decide) dI_1 rfl (fun v1 T1 h1 Y1 q1 => ?_)
  obtain ⟨rfl, rfl⟩ := q1
  show Gl p e below _ (T1.setTop (mkF m 4 _ [(.long 0)]))
  refine Gl.ldcJ Y1 (tw_45 hw) dI_4 rfl ?_
  refine Gl.lcmpne Y1 dI_7 rfl dI_8 (by decide) rfl rfl (fun c8 => ?_) (fun c8 => ?_)
  rotate_left
  · exact absurd c8 (by decide)
  refine Gl.iconst Y1 (v := (0 : Int32)) (by decide) dI_22 rfl ?_
  exact Gl.retZ Y1 (by decide) (by decide) (x' := (0 : Int32)) (by decide) dI_23 ⟨rfl, rfl⟩
theorem pd_5 : parseMethodDescriptor "()Z" = some ⟨[], some .boolean⟩ := by decide +kernel
theorem tw_40 {a0 : Array Value} {Z : State} (hw : HW a0 Z) : (Jvm.Cond.code ({ cls := "com/example/meterwise/meterwise/model/WholeNumber", name := "overflowed", desc := "()Z" } : Jvm.MethodName) prog_137_method_8_code (1 : Nat) (Option.some Jvm.ClassFile.FieldType.boolean)).before a0 Z = true := hw _ (List.mem_of_getElem? (i := 40) rfl)
theorem tw_37 {a0 : Array Value} {Z : State} (hw : HW a0 Z) : (Jvm.Cond.declares ({ cls := "com/example/meterwise/meterwise/model/WholeNumber", name := "overflowed", desc := "()Z" } : Jvm.MethodName)).before a0 Z = true := hw _ (List.mem_of_getElem? (i := 37) rfl)
theorem tw_39 {a0 : Array Value} {Z : State} (hw : HW a0 Z) : (Jvm.Cond.selects "com/example/meterwise/meterwise/model/WholeNumber" ({ cls := "com/example/meterwise/meterwise/model/WholeNumber", name := "overflowed", desc := "()Z" } : Jvm.MethodName) ({ cls := "com/example/meterwise/meterwise/model/WholeNumber", name := "overflowed", desc := "()Z" } : Jvm.MethodName)).before a0 Z = true := hw _ (List.mem_of_getElem? (i := 39) rfl)
theorem tw_38 {a0 : Array Value} {Z : State} (hw : HW a0 Z) : (Jvm.Cond.instanceMethod ({ cls := "com/example/meterwise/meterwise/model/WholeNumber", name := "overflowed", desc := "()Z" } : Jvm.MethodName)).before a0 Z = true := hw _ (List.mem_of_getElem? (i := 38) rfl)
theorem tw_18 {a0 : Array Value} {Z : State} (hw : HW a0 Z) : (Jvm.Cond.methodLink "com/example/meterwise/meterwise/model/WholeNumberOverflowedPinLaw" (17 : Nat) ({ cls := "com/example/meterwise/meterwise/model/WholeNumber", name := "set", desc := "(J)Lcom/example/meterwise/meterwise/model/WholeNumber;" } : Jvm.MethodName)).before a0 Z = true := hw _ (List.mem_of_getElem? (i := 18) rfl)
theorem pd_6 : parseMethodDescriptor "(J)Lcom/example/meterwise/meterwise/model/WholeNumber;" = some ⟨[.long], some (.object "com/example/meterwise/meterwise/model/WholeNumber")⟩ := by decide +kernel
theorem tw_22 {a0 : Array Value} {Z : State} (hw : HW a0 Z) : (Jvm.Cond.code ({ cls := "com/example/meterwise/meterwise/model/WholeNumber", name := "set", desc := "(J)Lcom/example/meterwise/meterwise/model/WholeNumber;" } : Jvm.MethodName) prog_137_method_4_code (3 : Nat) (Option.some (Jvm.ClassFile.FieldType.object "com/example/meterwise/meterwise/model/WholeNumber"))).before a0 Z = true := hw _ (List.mem_of_getElem? (i := 22) rfl)
theorem tw_19 {a0 : Array Value} {Z : State} (hw : HW a0 Z) : (Jvm.Cond.declares ({ cls := "com/example/meterwise/meterwise/model/WholeNumber", name := "set", desc := "(J)Lcom/example/meterwise/meterwise/model/WholeNumber;" } : Jvm.MethodName)).before a0 Z = true := hw _ (List.mem_of_getElem? (i := 19) rfl)
theorem tw_21 {a0 : Array Value} {Z : State} (hw : HW a0 Z) : (Jvm.Cond.selects "com/example/meterwise/meterwise/model/WholeNumber" ({ cls := "com/example/meterwise/meterwise/model/WholeNumber", name := "set", desc := "(J)Lcom/example/meterwise/meterwise/model/WholeNumber;" } : Jvm.MethodName) ({ cls := "com/example/meterwise/meterwise/model/WholeNumber", name := "set", desc := "(J)Lcom/example/meterwise/meterwise/model/WholeNumber;" } : Jvm.MethodName)).before a0 Z = true := hw _ (List.mem_of_getElem? (i := 21) rfl)
theorem tw_20 {a0 : Array Value} {Z : State} (hw : HW a0 Z) : (Jvm.Cond.instanceMethod ({ cls := "com/example/meterwise/meterwise/model/WholeNumber", name := "set", desc := "(J)Lcom/example/meterwise/meterwise/model/WholeNumber;" } : Jvm.MethodName)).before a0 Z = true := hw _ (List.mem_of_getElem? (i := 20) rfl)
theorem tw_17 {a0 : Array Value} {Z : State} (hw : HW a0 Z) : (Jvm.Cond.constantLong "com/example/meterwise/meterwise/model/WholeNumberOverflowedPinLaw" (15 : Nat) (-9223372036854775808 : Int64)).before a0 Z = true := hw _ (List.mem_of_getElem? (i := 17) rfl)
def RA26 : Room := { frames := 1, cells := 0, slots := 0, locals := 12 }
def QA26 (Z : State) (o0 : Addr) (o1 : Addr) (k_o1 : ClassId) (p0 : Int64) (h0 : Heap) (v : Option Value) (h : Heap) : Prop := v = some (.int 0) ∧ h0 = h
theorem efA26 (o0 : Addr) (m : MethodId) : entryFrame m #[(.ref o0)] 1 = mkF m 0 #[.val (.ref o0)] [] := by first | (simp [entryFrame, mkF, argsToLocals, Value.category]; done) | rfl
theorem rmA26 (l : Launch) (Z : State) (a0 : Array Value) (hw : HW a0 Z) (ws : List Jvm.Cond) (o0 : Addr) (o1 : Addr) (k_o1 : ClassId) (p0 : Int64) (h0 : Heap) (n0 : Nat) (Z0 : n0 ≤ h0.size) (E_o0 : Exa Z h0 o0 kW) (F_o0_words : Fld Z h0 o0 kW "words" "[J" (.ref o1)) (F_o0_work : Fld Z h0 o0 kW "work" "[J" .null) (g_o0 : n0 ≤ o0) (V_o1 : Arv Z h0 o1 k_o1 .long (1 : Int32) [(.long p0)] (.long 0)) (g_o1 : n0 ≤ o1) (n_o0_o1 : own_ne o0 o1) (hA0 : ¬ (p0 = (-9223372036854775808 : Int64))) : OMet l Z ws (⟨"com/example/meterwise/meterwise/model/WholeNumber", "overflowed", "()Z"⟩ : MethodName) prog_137_method_8_code 1 (some .boolean) RA26 #[(.ref o0)] h0 n0 (QA26 Z o0 o1 k_o1 p0 h0) := by
  refine OMet.of (own := "com/example/meterwise/meterwise/model/WholeNumber") rfl (plainFor_of_name pn_0) (efA26 o0) Z0 ?_
  intro p e s m below meth c T0 Y0 hnm
  refine Gl.aloadN Y0 rfl rfl dI_0 rfl ?_
  refine Gl.callP Y0 (tw_41 hw) (tw_42 hw) (tw_43 hw) (tw_2 hw) (tw_3 hw) (tw_44 hw) (by decide) E_o0 (rm3 l Z a0 hw [] o0 o1 k_o1 p0 h0 n0 Y0.sz E_o0 F_o0_words V_o1) (a := o0) (argsL := []) (rest := []) rfl rfl (lenOf pd_4 rfl) rfl (by decide) (Nat.le_of_ble_eq_true rfl) (by decide) (by decide) dI_1 rfl (fun v1 T1 h1 Y1 q1 => ?_)
  obtain ⟨rfl, rfl⟩ := q1
  show Gl p e below _ (T1.setTop (mkF m 4 _ [(.long p0)]))
  refine Gl.ldcJ Y1 (tw_45 hw) dI_4 rfl ?_
  refine Gl.lcmpne Y1 dI_7 rfl dI_8 (by decide) rfl rfl (fun c8 => ?_) (fun c8 => ?_)
  rotate_left
  · exact absurd c8 hA0
  refine Gl.iconst Y1 (v := (0 : Int32)) (by decide) dI_22 rfl ?_
  exact Gl.retZ Y1 (by decide) (by decide) (x' := (0 : Int32)) (by decide) dI_23 ⟨rfl, rfl⟩
theorem dI_11 : decode prog_137_method_8_code 11 = .ok (.aload_n 0, 1) := by decide +kernel
theorem dI_12 : decode prog_137_method_8_code 12 = .ok (.invokevirtual 110, 3) := by decide +kernel
theorem tw_46 {a0 : Array Value} {Z : State} (hw : HW a0 Z) : (Jvm.Cond.methodLink "com/example/meterwise/meterwise/model/WholeNumber" (110 : Nat) ({ cls := "com/example/meterwise/meterwise/model/WholeNumber", name := "zeroBelowTop", desc := "()Z" } : Jvm.MethodName)).before a0 Z = true := hw _ (List.mem_of_getElem? (i := 46) rfl)
theorem dJ_0 : decode prog_137_method_10_code 0 = .ok (.iconst 0, 1) := by decide +kernel
theorem dJ_1 : decode prog_137_method_10_code 1 = .ok (.istore_n 1, 1) := by decide +kernel
theorem dJ_2 : decode prog_137_method_10_code 2 = .ok (.iload_n 1, 1) := by decide +kernel
theorem dJ_3 : decode prog_137_method_10_code 3 = .ok (.aload_n 0, 1) := by decide +kernel
theorem dJ_4 : decode prog_137_method_10_code 4 = .ok (.getfield 26, 3) := by decide +kernel
theorem dJ_7 : decode prog_137_method_10_code 7 = .ok (.arraylength, 1) := by decide +kernel
theorem dJ_8 : decode prog_137_method_10_code 8 = .ok (.iconst 1, 1) := by decide +kernel
theorem dJ_9 : decode prog_137_method_10_code 9 = .ok (.isub, 1) := by decide +kernel
theorem dJ_10 : decode prog_137_method_10_code 10 = .ok (.if_icmp .ge 22, 3) := by decide +kernel
theorem dJ_32 : decode prog_137_method_10_code 32 = .ok (.iconst 1, 1) := by decide +kernel
theorem dJ_33 : decode prog_137_method_10_code 33 = .ok (.ireturn, 1) := by decide +kernel
def RA28 : Room := { frames := 0, cells := 0, slots := 0, locals := 0 }
def QA28 (Z : State) (o0 : Addr) (o1 : Addr) (k_o1 : ClassId) (p0 : Int64) (h0 : Heap) (v : Option Value) (h : Heap) : Prop := v = some (.int 1) ∧ h0 = h
theorem efA28 (o0 : Addr) (m : MethodId) : entryFrame m #[(.ref o0)] 2 = mkF m 0 #[.val (.ref o0), .unset] [] := by first | (simp [entryFrame, mkF, argsToLocals, Value.category]; done) | rfl
theorem rmA28 (l : Launch) (Z : State) (a0 : Array Value) (hw : HW a0 Z) (ws : List Jvm.Cond) (o0 : Addr) (o1 : Addr) (k_o1 : ClassId) (p0 : Int64) (h0 : Heap) (n0 : Nat) (Z0 : n0 ≤ h0.size) (E_o0 : Exa Z h0 o0 kW) (F_o0_words : Fld Z h0 o0 kW "words" "[J" (.ref o1)) (F_o0_work : Fld Z h0 o0 kW "work" "[J" .null) (g_o0 : n0 ≤ o0) (V_o1 : Arv Z h0 o1 k_o1 .long (1 : Int32) [(.long p0)] (.long 0)) (g_o1 : n0 ≤ o1) (n_o0_o1 : own_ne o0 o1) : OMet l Z ws (⟨"com/example/meterwise/meterwise/model/WholeNumber", "zeroBelowTop", "()Z"⟩ : MethodName) prog_137_method_10_code 2 (some .boolean) RA28 #[(.ref o0)] h0 n0 (QA28 Z o0 o1 k_o1 p0 h0) := by
  refine OMet.of (own := "com/example/meterwise/meterwise/model/WholeNumber") rfl (plainFor_of_name pn_0) (efA28 o0) Z0 ?_
  intro p e s m below meth c T0 Y0 hnm
  refine Gl.iconst Y0 (v := (0 : Int32)) (by decide) dJ_0 rfl ?_
  refine Gl.istoreN Y0 (L' := #[.val (.ref o0), .val (.int 0)]) rfl dJ_1 rfl ?_
  refine Gl.iloadN Y0 rfl dJ_2 rfl ?_
  refine Gl.aloadN Y0 rfl rfl dJ_3 rfl ?_
  refine Gl.getF Y0 (host := "") (Or.inl (tw_15 hw)) Via.refl F_o0_words dJ_4 rfl (fun T4 Y4 => ?_)
  refine Gl.arraylength Y4 V_o1 dJ_7 rfl ?_
  refine Gl.iconst Y4 (v := (1 : Int32)) (by decide) dJ_8 rfl ?_
  refine Gl.isub Y4 (r := (0 : Int32)) (by decide) dJ_9 rfl ?_
  refine Gl.icmpge Y4 dJ_10 (by decide) rfl rfl (fun c10 => ?_) (fun c10 => ?_)
  rotate_left
  · exact absurd c10 (by decide)
  refine Gl.iconst Y4 (v := (1 : Int32)) (by decide) dJ_32 rfl ?_
  exact Gl.retZ Y4 (by decide) (by decide) (x' := (1 : Int32)) (by decide) dJ_33 ⟨rfl, rfl⟩
theorem tw_49 {a0 : Array Value} {Z : State} (hw : HW a0 Z) : (Jvm.Cond.code ({ cls := "com/example/meterwise/meterwise/model/WholeNumber", name := "zeroBelowTop", desc := "()Z" } : Jvm.MethodName) prog_137_method_10_code (2 : Nat) (Option.some Jvm.ClassFile.FieldType.boolean)).before a0 Z = true := hw _ (List.mem_of_getElem? (i := 49) rfl)
theorem tw_47 {a0 : Array Value} {Z : State} (hw : HW a0 Z) : (Jvm.Cond.instanceMethod ({ cls := "com/example/meterwise/meterwise/model/WholeNumber", name := "zeroBelowTop", desc := "()Z" } : Jvm.MethodName)).before a0 Z = true := hw _ (List.mem_of_getElem? (i := 47) rfl)
theorem tw_48 {a0 : Array Value} {Z : State} (hw : HW a0 Z) : (Jvm.Cond.privateMethod ({ cls := "com/example/meterwise/meterwise/model/WholeNumber", name := "zeroBelowTop", desc := "()Z" } : Jvm.MethodName)).before a0 Z = true := hw _ (List.mem_of_getElem? (i := 48) rfl)
theorem dI_15 : decode prog_137_method_8_code 15 = .ok (.ifCond .eq 7, 3) := by decide +kernel
theorem dI_18 : decode prog_137_method_8_code 18 = .ok (.iconst 1, 1) := by decide +kernel
theorem dI_19 : decode prog_137_method_8_code 19 = .ok (.goto 4, 3) := by decide +kernel
def RA27 : Room := { frames := 1, cells := 0, slots := 0, locals := 13 }
def QA27 (Z : State) (o0 : Addr) (o1 : Addr) (k_o1 : ClassId) (p0 : Int64) (h0 : Heap) (v : Option Value) (h : Heap) : Prop := v = some (.int 1) ∧ h0 = h
theorem efA27 (o0 : Addr) (m : MethodId) : entryFrame m #[(.ref o0)] 1 = mkF m 0 #[.val (.ref o0)] [] := by first | (simp [entryFrame, mkF, argsToLocals, Value.category]; done) | rfl
theorem rmA27 (l : Launch) (Z : State) (a0 : Array Value) (hw : HW a0 Z) (ws : List Jvm.Cond) (o0 : Addr) (o1 : Addr) (k_o1 : ClassId) (p0 : Int64) (h0 : Heap) (n0 : Nat) (Z0 : n0 ≤ h0.size) (E_o0 : Exa Z h0 o0 kW) (F_o0_words : Fld Z h0 o0 kW "words" "[J" (.ref o1)) (F_o0_work : Fld Z h0 o0 kW "work" "[J" .null) (g_o0 : n0 ≤ o0) (V_o1 : Arv Z h0 o1 k_o1 .long (1 : Int32) [(.long p0)] (.long 0)) (g_o1 : n0 ≤ o1) (n_o0_o1 : own_ne o0 o1) (hA0 : p0 = (-9223372036854775808 : Int64)) : OMet l Z ws (⟨"com/example/meterwise/meterwise/model/WholeNumber", "overflowed", "()Z"⟩ : MethodName) prog_137_method_8_code 1 (some .boolean) RA27 #[(.ref o0)] h0 n0 (QA27 Z o0 o1 k_o1 p0 h0) := by
  refine OMet.of (own := "com/example/meterwise/meterwise/model/WholeNumber") rfl (plainFor_of_name pn_0) (efA27 o0) Z0 ?_
  intro p e s m below meth c T0 Y0 hnm
  refine Gl.aloadN Y0 rfl rfl dI_0 rfl ?_
  refine Gl.callP Y0 (tw_41 hw) (tw_42 hw) (tw_43 hw) (tw_2 hw) (tw_3 hw) (tw_44 hw) (by decide) E_o0 (rm3 l Z a0 hw [] o0 o1 k_o1 p0 h0 n0 Y0.sz E_o0 F_o0_words V_o1) (a := o0) (argsL := []) (rest := []) rfl rfl (lenOf pd_4 rfl) rfl (by decide) (Nat.le_of_ble_eq_true rfl) (by decide) (by decide) dI_1 rfl (fun v1 T1 h1 Y1 q1 => ?_)
  obtain ⟨rfl, rfl⟩ := q1
  show Gl p e below _ (T1.setTop (mkF m 4 _ [(.long p0)]))
  refine Gl.ldcJ Y1 (tw_45 hw) dI_4 rfl ?_
  refine Gl.lcmpne Y1 dI_7 rfl dI_8 (by decide) rfl rfl (fun c8 => ?_) (fun c8 => ?_)
  · exact absurd hA0 c8
  refine Gl.aloadN Y1 rfl rfl dI_11 rfl ?_
  refine Gl.callP Y1 (tw_46 hw) (tw_47 hw) (tw_48 hw) (tw_2 hw) (tw_3 hw) (tw_49 hw) (by decide) E_o0 (rmA28 l Z a0 hw [] o0 o1 k_o1 p0 h0 n0 Y1.sz E_o0 F_o0_words F_o0_work g_o0 V_o1 g_o1 n_o0_o1) (a := o0) (argsL := []) (rest := []) rfl rfl (lenOf pd_5 rfl) rfl (by decide) (Nat.le_of_ble_eq_true rfl) (by decide) (by decide) dI_12 rfl (fun v12 T12 h12 Y12 q12 => ?_)
  obtain ⟨rfl, rfl⟩ := q12
  show Gl p e below _ (T12.setTop (mkF m 15 _ [(.int 1)]))
  refine Gl.ifeq Y12 dI_15 (by decide) rfl rfl (fun c15 => ?_) (fun c15 => ?_)
  · exact absurd c15 (by decide)
  refine Gl.iconst Y12 (v := (1 : Int32)) (by decide) dI_18 rfl ?_
  refine Gl.goto Y12 dI_19 (by decide) rfl ?_
  exact Gl.retZ Y12 (by decide) (by decide) (x' := (1 : Int32)) (by decide) dI_23 ⟨rfl, rfl⟩
theorem tw_109 {a0 : Array Value} {Z : State} (hw : HW a0 Z) : (Jvm.Cond.methodLink "com/example/meterwise/meterwise/model/WholeNumberOverflowedPinLaw" (32 : Nat) ({ cls := "com/example/meterwise/meterwise/model/WholeNumber", name := "overflow", desc := "()Lcom/example/meterwise/meterwise/model/WholeNumber;" } : Jvm.MethodName)).before a0 Z = true := hw _ (List.mem_of_getElem? (i := 109) rfl)
theorem pd_7 : parseMethodDescriptor "()Lcom/example/meterwise/meterwise/model/WholeNumber;" = some ⟨[], some (.object "com/example/meterwise/meterwise/model/WholeNumber")⟩ := by decide +kernel
theorem tw_54 {a0 : Array Value} {Z : State} (hw : HW a0 Z) : (Jvm.Cond.code ({ cls := "com/example/meterwise/meterwise/model/WholeNumber", name := "overflow", desc := "()Lcom/example/meterwise/meterwise/model/WholeNumber;" } : Jvm.MethodName) prog_137_method_7_code (1 : Nat) (Option.some (Jvm.ClassFile.FieldType.object "com/example/meterwise/meterwise/model/WholeNumber"))).before a0 Z = true := hw _ (List.mem_of_getElem? (i := 54) rfl)
theorem tw_51 {a0 : Array Value} {Z : State} (hw : HW a0 Z) : (Jvm.Cond.declares ({ cls := "com/example/meterwise/meterwise/model/WholeNumber", name := "overflow", desc := "()Lcom/example/meterwise/meterwise/model/WholeNumber;" } : Jvm.MethodName)).before a0 Z = true := hw _ (List.mem_of_getElem? (i := 51) rfl)
theorem tw_53 {a0 : Array Value} {Z : State} (hw : HW a0 Z) : (Jvm.Cond.selects "com/example/meterwise/meterwise/model/WholeNumber" ({ cls := "com/example/meterwise/meterwise/model/WholeNumber", name := "overflow", desc := "()Lcom/example/meterwise/meterwise/model/WholeNumber;" } : Jvm.MethodName) ({ cls := "com/example/meterwise/meterwise/model/WholeNumber", name := "overflow", desc := "()Lcom/example/meterwise/meterwise/model/WholeNumber;" } : Jvm.MethodName)).before a0 Z = true := hw _ (List.mem_of_getElem? (i := 53) rfl)
theorem tw_52 {a0 : Array Value} {Z : State} (hw : HW a0 Z) : (Jvm.Cond.instanceMethod ({ cls := "com/example/meterwise/meterwise/model/WholeNumber", name := "overflow", desc := "()Lcom/example/meterwise/meterwise/model/WholeNumber;" } : Jvm.MethodName)).before a0 Z = true := hw _ (List.mem_of_getElem? (i := 52) rfl)
def RA30 : Room := { frames := 0, cells := 0, slots := 0, locals := 0 }
def QA30 (Z : State) (o0 : Addr) (o1 : Addr) (k_o1 : ClassId) (h0 : Heap) (v : Option Value) (h : Heap) : Prop := v = some (.int 1) ∧ h0 = h
theorem efA30 (o0 : Addr) (m : MethodId) : entryFrame m #[(.ref o0)] 2 = mkF m 0 #[.val (.ref o0), .unset] [] := by first | (simp [entryFrame, mkF, argsToLocals, Value.category]; done) | rfl
theorem rmA30 (l : Launch) (Z : State) (a0 : Array Value) (hw : HW a0 Z) (ws : List Jvm.Cond) (o0 : Addr) (o1 : Addr) (k_o1 : ClassId) (h0 : Heap) (n0 : Nat) (Z0 : n0 ≤ h0.size) (E_o0 : Exa Z h0 o0 kW) (F_o0_words : Fld Z h0 o0 kW "words" "[J" (.ref o1)) (F_o0_work : Fld Z h0 o0 kW "work" "[J" .null) (g_o0 : n0 ≤ o0) (V_o1 : Arv Z h0 o1 k_o1 .long (1 : Int32) [(.long (-9223372036854775808))] (.long 0)) (g_o1 : n0 ≤ o1) (n_o0_o1 : own_ne o0 o1) : OMet l Z ws (⟨"com/example/meterwise/meterwise/model/WholeNumber", "zeroBelowTop", "()Z"⟩ : MethodName) prog_137_method_10_code 2 (some .boolean) RA30 #[(.ref o0)] h0 n0 (QA30 Z o0 o1 k_o1 h0) := by
  refine OMet.of (own := "com/example/meterwise/meterwise/model/WholeNumber") rfl (plainFor_of_name pn_0) (efA30 o0) Z0 ?_
  intro p e s m below meth c T0 Y0 hnm
  refine Gl.iconst Y0 (v := (0 : Int32)) (by decide) dJ_0 rfl ?_
  refine Gl.istoreN Y0 (L' := #[.val (.ref o0), .val (.int 0)]) rfl dJ_1 rfl ?_
  refine Gl.iloadN Y0 rfl dJ_2 rfl ?_
  refine Gl.aloadN Y0 rfl rfl dJ_3 rfl ?_
  refine Gl.getF Y0 (host := "") (Or.inl (tw_15 hw)) Via.refl F_o0_words dJ_4 rfl (fun T4 Y4 => ?_)
  refine Gl.arraylength Y4 V_o1 dJ_7 rfl ?_
  refine Gl.iconst Y4 (v := (1 : Int32)) (by decide) dJ_8 rfl ?_
  refine Gl.isub Y4 (r := (0 : Int32)) (by decide) dJ_9 rfl ?_
  refine Gl.icmpge Y4 dJ_10 (by decide) rfl rfl (fun c10 => ?_) (fun c10 => ?_)
  rotate_left
  · exact absurd c10 (by decide)
  refine Gl.iconst Y4 (v := (1 : Int32)) (by decide) dJ_32 rfl ?_
  exact Gl.retZ Y4 (by decide) (by decide) (x' := (1 : Int32)) (by decide) dJ_33 ⟨rfl, rfl⟩
def RA29 : Room := { frames := 1, cells := 0, slots := 0, locals := 13 }
def QA29 (Z : State) (o0 : Addr) (o1 : Addr) (k_o1 : ClassId) (h0 : Heap) (v : Option Value) (h : Heap) : Prop := v = some (.int 1) ∧ h0 = h
theorem efA29 (o0 : Addr) (m : MethodId) : entryFrame m #[(.ref o0)] 1 = mkF m 0 #[.val (.ref o0)] [] := by first | (simp [entryFrame, mkF, argsToLocals, Value.category]; done) | rfl
theorem rmA29 (l : Launch) (Z : State) (a0 : Array Value) (hw : HW a0 Z) (ws : List Jvm.Cond) (o0 : Addr) (o1 : Addr) (k_o1 : ClassId) (h0 : Heap) (n0 : Nat) (Z0 : n0 ≤ h0.size) (E_o0 : Exa Z h0 o0 kW) (F_o0_words : Fld Z h0 o0 kW "words" "[J" (.ref o1)) (F_o0_work : Fld Z h0 o0 kW "work" "[J" .null) (g_o0 : n0 ≤ o0) (V_o1 : Arv Z h0 o1 k_o1 .long (1 : Int32) [(.long (-9223372036854775808))] (.long 0)) (g_o1 : n0 ≤ o1) (n_o0_o1 : own_ne o0 o1) : OMet l Z ws (⟨"com/example/meterwise/meterwise/model/WholeNumber", "overflowed", "()Z"⟩ : MethodName) prog_137_method_8_code 1 (some .boolean) RA29 #[(.ref o0)] h0 n0 (QA29 Z o0 o1 k_o1 h0) := by
  refine OMet.of (own := "com/example/meterwise/meterwise/model/WholeNumber") rfl (plainFor_of_name pn_0) (efA29 o0) Z0 ?_
  intro p e s m below meth c T0 Y0 hnm
  refine Gl.aloadN Y0 rfl rfl dI_0 rfl ?_
  refine Gl.callP Y0 (tw_41 hw) (tw_42 hw) (tw_43 hw) (tw_2 hw) (tw_3 hw) (tw_44 hw) (by decide) E_o0 (rm3 l Z a0 hw [] o0 o1 k_o1 (-9223372036854775808 : Int64) h0 n0 Y0.sz E_o0 F_o0_words V_o1) (a := o0) (argsL := []) (rest := []) rfl rfl (lenOf pd_4 rfl) rfl (by decide) (Nat.le_of_ble_eq_true rfl) (by decide) (by decide) dI_1 rfl (fun v1 T1 h1 Y1 q1 => ?_)
  obtain ⟨rfl, rfl⟩ := q1
  show Gl p e below _ (T1.setTop (mkF m 4 _ [(.long (-9223372036854775808))]))
  refine Gl.ldcJ Y1 (tw_45 hw) dI_4 rfl ?_
  refine Gl.lcmpne Y1 dI_7 rfl dI_8 (by decide) rfl rfl (fun c8 => ?_) (fun c8 => ?_)
  · exact absurd c8 (by decide)
  refine Gl.aloadN Y1 rfl rfl dI_11 rfl ?_
  refine Gl.callP Y1 (tw_46 hw) (tw_47 hw) (tw_48 hw) (tw_2 hw) (tw_3 hw) (tw_49 hw) (by decide) E_o0 (rmA30 l Z a0 hw [] o0 o1 k_o1 h0 n0 Y1.sz E_o0 F_o0_words F_o0_work g_o0 V_o1 g_o1 n_o0_o1) (a := o0) (argsL := []) (rest := []) rfl rfl (lenOf pd_5 rfl) rfl (by decide) (Nat.le_of_ble_eq_true rfl) (by decide) (by decide) dI_12 rfl (fun v12 T12 h12 Y12 q12 => ?_)
  obtain ⟨rfl, rfl⟩ := q12
  show Gl p e below _ (T12.setTop (mkF m 15 _ [(.int 1)]))
  refine Gl.ifeq Y12 dI_15 (by decide) rfl rfl (fun c15 => ?_) (fun c15 => ?_)
  · exact absurd c15 (by decide)
  refine Gl.iconst Y12 (v := (1 : Int32)) (by decide) dI_18 rfl ?_
  refine Gl.goto Y12 dI_19 (by decide) rfl ?_
  exact Gl.retZ Y12 (by decide) (by decide) (x' := (1 : Int32)) (by decide) dI_23 ⟨rfl, rfl⟩
theorem tw_30 {a0 : Array Value} {Z : State} (hw : HW a0 Z) : (Jvm.Cond.constantLong "com/example/meterwise/meterwise/model/WholeNumberOverflowedPinLaw" (21 : Nat) (3 : Int64)).before a0 Z = true := hw _ (List.mem_of_getElem? (i := 30) rfl)
theorem tw_31 {a0 : Array Value} {Z : State} (hw : HW a0 Z) : (Jvm.Cond.methodLink "com/example/meterwise/meterwise/model/WholeNumberOverflowedPinLaw" (23 : Nat) ({ cls := "com/example/meterwise/meterwise/model/WholeNumber", name := "multiply", desc := "(Lcom/example/meterwise/meterwise/model/WholeNumber;)Lcom/example/meterwise/meterwise/model/WholeNumber;" } : Jvm.MethodName)).before a0 Z = true := hw _ (List.mem_of_getElem? (i := 31) rfl)
theorem dK_0 : decode prog_137_method_15_code 0 = .ok (.aload_n 0, 1) := by decide +kernel
theorem dK_1 : decode prog_137_method_15_code 1 = .ok (.invokevirtual 70, 3) := by decide +kernel
theorem tw_36 {a0 : Array Value} {Z : State} (hw : HW a0 Z) : (Jvm.Cond.methodLink "com/example/meterwise/meterwise/model/WholeNumber" (70 : Nat) ({ cls := "com/example/meterwise/meterwise/model/WholeNumber", name := "overflowed", desc := "()Z" } : Jvm.MethodName)).before a0 Z = true := hw _ (List.mem_of_getElem? (i := 36) rfl)
theorem dK_4 : decode prog_137_method_15_code 4 = .ok (.ifCond .ne 10, 3) := by decide +kernel
theorem dK_14 : decode prog_137_method_15_code 14 = .ok (.aload_n 0, 1) := by decide +kernel
theorem dK_15 : decode prog_137_method_15_code 15 = .ok (.invokevirtual 74, 3) := by decide +kernel
theorem tw_50 {a0 : Array Value} {Z : State} (hw : HW a0 Z) : (Jvm.Cond.methodLink "com/example/meterwise/meterwise/model/WholeNumber" (74 : Nat) ({ cls := "com/example/meterwise/meterwise/model/WholeNumber", name := "overflow", desc := "()Lcom/example/meterwise/meterwise/model/WholeNumber;" } : Jvm.MethodName)).before a0 Z = true := hw _ (List.mem_of_getElem? (i := 50) rfl)
theorem dK_18 : decode prog_137_method_15_code 18 = .ok (.areturn, 1) := by decide +kernel
def RA31 : Room := { frames := 2, cells := 0, slots := 0, locals := 28 }
def QA31 (Z : State) (o0 : Addr) (o1 : Addr) (o2 : Addr) (o3 : Addr) (k_o2 : ClassId) (k_o3 : ClassId) (h0 : Heap) (v : Option Value) (h : Heap) : Prop := v = some (.ref o0) ∧ Keep h0 h [o0, o1, o2, o3] ∧ Exa Z h o0 kW ∧ Exa Z h o1 kW ∧ Fld Z h o0 kW "words" "[J" (.ref o2) ∧ Fld Z h o0 kW "work" "[J" .null ∧ Fld Z h o1 kW "words" "[J" (.ref o3) ∧ Fld Z h o1 kW "work" "[J" .null ∧ Arv Z h o2 k_o2 .long (1 : Int32) [(.long (-9223372036854775808))] (.long 0) ∧ Arv Z h o3 k_o3 .long (1 : Int32) [(.long 3)] (.long 0)
theorem efA31 (o0 : Addr) (o1 : Addr) (m : MethodId) : entryFrame m #[(.ref o0), (.ref o1)] 10 = mkF m 0 #[.val (.ref o0), .val (.ref o1), .unset, .unset, .unset, .unset, .unset, .unset, .unset, .unset] [] := by first | (simp [entryFrame, mkF, argsToLocals, Value.category]; done) | rfl
theorem rmA31 (l : Launch) (Z : State) (a0 : Array Value) (hw : HW a0 Z) (ws : List Jvm.Cond) (o0 : Addr) (o1 : Addr) (o2 : Addr) (o3 : Addr) (k_o2 : ClassId) (k_o3 : ClassId) (h0 : Heap) (n0 : Nat) (Z0 : n0 ≤ h0.size) (E_o0 : Exa Z h0 o0 kW) (F_o0_words : Fld Z h0 o0 kW "words" "[J" (.ref o2)) (F_o0_work : Fld Z h0 o0 kW "work" "[J" .null) (g_o0 : n0 ≤ o0) (E_o1 : Exa Z h0 o1 kW) (F_o1_words : Fld Z h0 o1 kW "words" "[J" (.ref o3)) (F_o1_work : Fld Z h0 o1 kW "work" "[J" .null) (g_o1 : n0 ≤ o1) (V_o2 : Arv Z h0 o2 k_o2 .long (1 : Int32) [(.long (-9223372036854775808))] (.long 0)) (g_o2 : n0 ≤ o2) (V_o3 : Arv Z h0 o3 k_o3 .long (1 : Int32) [(.long 3)] (.long 0)) (g_o3 : n0 ≤ o3) (n_o0_o1 : own_ne o0 o1) (n_o0_o2 : own_ne o0 o2) (n_o0_o3 : own_ne o0 o3) (n_o1_o2 : own_ne o1 o2) (n_o1_o3 : own_ne o1 o3) (n_o2_o3 : own_ne o2 o3) : OMet l Z ws (⟨"com/example/meterwise/meterwise/model/WholeNumber", "multiply", "(Lcom/example/meterwise/meterwise/model/WholeNumber;)Lcom/example/meterwise/meterwise/model/WholeNumber;"⟩ : MethodName) prog_137_method_15_code 10 (some (.object "com/example/meterwise/meterwise/model/WholeNumber")) RA31 #[(.ref o0), (.ref o1)] h0 n0 (QA31 Z o0 o1 o2 o3 k_o2 k_o3 h0) := by
  refine OMet.of (own := "com/example/meterwise/meterwise/model/WholeNumber") rfl (plainFor_of_name pn_0) (efA31 o0 o1) Z0 ?_
  intro p e s m below meth c T0 Y0 hnm
  refine Gl.aloadN Y0 rfl rfl dK_0 rfl ?_
  refine Gl.callV Y0 (tw_36 hw) (tw_37 hw) (tw_39 hw) (tw_39 hw) (tw_38 hw) (tw_3 hw) (tw_40 hw) (by decide) E_o0 (rmA29 l Z a0 hw [] o0 o2 k_o2 h0 n0 Y0.sz E_o0 F_o0_words F_o0_work g_o0 V_o2 g_o2 n_o0_o2) (a := o0) (argsL := []) (rest := []) rfl rfl (lenOf pd_5 rfl) rfl (by decide) (Nat.le_of_ble_eq_true rfl) (by decide) (by decide) dK_1 rfl (fun v1 T1 h1 Y1 q1 => ?_)
  obtain ⟨rfl, rfl⟩ := q1
  show Gl p e below _ (T1.setTop (mkF m 4 _ [(.int 1)]))
  refine Gl.ifne Y1 dK_4 (by decide) rfl rfl (fun c4 => ?_) (fun c4 => ?_)
  rotate_left
  · exact absurd c4 (by decide)
  refine Gl.aloadN Y1 rfl rfl dK_14 rfl ?_
  refine Gl.callV Y1 (tw_50 hw) (tw_51 hw) (tw_53 hw) (tw_53 hw) (tw_52 hw) (tw_3 hw) (tw_54 hw) (by decide) E_o0 (rm8 l Z a0 hw [] o0 o2 k_o2 (-9223372036854775808 : Int64) h0 n0 Y1.sz E_o0 F_o0_words V_o2 g_o2 n_o0_o2) (a := o0) (argsL := []) (rest := []) rfl rfl (lenOf pd_7 rfl) rfl (by decide) (Nat.le_of_ble_eq_true rfl) (by decide) (by decide) dK_15 rfl (fun v15 T15 h15 Y15 q15 => ?_)
  obtain ⟨rfl, K15, f15_0⟩ := q15
  have KK15 : Keep h0 h15 [o0, o1, o2, o3] := (Keep.refl h0 [o0, o1, o2, o3]).trans K15 (allS (Or.inl (List.mem_of_getElem? (i := 2) rfl)) all0)
  show Gl p e below _ (T15.setTop (mkF m 18 _ [(.ref o0)]))
  have f1 := (E_o0.keep K15)
  have f2 := (E_o1.keep K15)
  have f3 := (F_o0_words.keep K15 (ninS n_o0_o2 nin0))
  have f4 := (F_o0_work.keep K15 (ninS n_o0_o2 nin0))
  have f5 := (F_o1_words.keep K15 (ninS n_o1_o2 nin0))
  have f6 := (F_o1_work.keep K15 (ninS n_o1_o2 nin0))
  have f7 := (V_o3.keep K15 (ninS (Ne.symm n_o2_o3) nin0))
  exact Gl.retA Y15 (by decide) (by decide) rfl rfl dK_18 ⟨rfl, KK15, f1, f2, f3, f4, f5, f6, f15_0, f7⟩
theorem pd_8 : parseMethodDescriptor "(Lcom/example/meterwise/meterwise/model/WholeNumber;)Lcom/example/meterwise/meterwise/model/WholeNumber;" = some ⟨[(.object "com/example/meterwise/meterwise/model/WholeNumber")], some (.object "com/example/meterwise/meterwise/model/WholeNumber")⟩ := by decide +kernel
theorem tw_35 {a0 : Array Value} {Z : State} (hw : HW a0 Z) : (Jvm.Cond.code ({ cls := "com/example/meterwise/meterwise/model/WholeNumber", name := "multiply", desc := "(Lcom/example/meterwise/meterwise/model/WholeNumber;)Lcom/example/meterwise/meterwise/model/WholeNumber;" } : Jvm.MethodName) prog_137_method_15_code (10 : Nat) (Option.some (Jvm.ClassFile.FieldType.object "com/example/meterwise/meterwise/model/WholeNumber"))).before a0 Z = true := hw _ (List.mem_of_getElem? (i := 35) rfl)
theorem tw_32 {a0 : Array Value} {Z : State} (hw : HW a0 Z) : (Jvm.Cond.declares ({ cls := "com/example/meterwise/meterwise/model/WholeNumber", name := "multiply", desc := "(Lcom/example/meterwise/meterwise/model/WholeNumber;)Lcom/example/meterwise/meterwise/model/WholeNumber;" } : Jvm.MethodName)).before a0 Z = true := hw _ (List.mem_of_getElem? (i := 32) rfl)
theorem tw_34 {a0 : Array Value} {Z : State} (hw : HW a0 Z) : (Jvm.Cond.selects "com/example/meterwise/meterwise/model/WholeNumber" ({ cls := "com/example/meterwise/meterwise/model/WholeNumber", name := "multiply", desc := "(Lcom/example/meterwise/meterwise/model/WholeNumber;)Lcom/example/meterwise/meterwise/model/WholeNumber;" } : Jvm.MethodName) ({ cls := "com/example/meterwise/meterwise/model/WholeNumber", name := "multiply", desc := "(Lcom/example/meterwise/meterwise/model/WholeNumber;)Lcom/example/meterwise/meterwise/model/WholeNumber;" } : Jvm.MethodName)).before a0 Z = true := hw _ (List.mem_of_getElem? (i := 34) rfl)
theorem tw_33 {a0 : Array Value} {Z : State} (hw : HW a0 Z) : (Jvm.Cond.instanceMethod ({ cls := "com/example/meterwise/meterwise/model/WholeNumber", name := "multiply", desc := "(Lcom/example/meterwise/meterwise/model/WholeNumber;)Lcom/example/meterwise/meterwise/model/WholeNumber;" } : Jvm.MethodName)).before a0 Z = true := hw _ (List.mem_of_getElem? (i := 33) rfl)
theorem tw_58 {a0 : Array Value} {Z : State} (hw : HW a0 Z) : (Jvm.Cond.constantLong "com/example/meterwise/meterwise/model/WholeNumberOverflowedPinLaw" (27 : Nat) (6148914691236517205 : Int64)).before a0 Z = true := hw _ (List.mem_of_getElem? (i := 58) rfl)
def RA32 : Room := { frames := 2, cells := 0, slots := 0, locals := 28 }
def QA32 (Z : State) (o0 : Addr) (o1 : Addr) (o2 : Addr) (o3 : Addr) (k_o2 : ClassId) (k_o3 : ClassId) (h0 : Heap) (v : Option Value) (h : Heap) : Prop := v = some (.ref o0) ∧ Keep h0 h [o0, o1, o2, o3] ∧ Exa Z h o0 kW ∧ Exa Z h o1 kW ∧ Fld Z h o0 kW "words" "[J" (.ref o2) ∧ Fld Z h o0 kW "work" "[J" .null ∧ Fld Z h o1 kW "words" "[J" (.ref o3) ∧ Fld Z h o1 kW "work" "[J" .null ∧ Arv Z h o2 k_o2 .long (1 : Int32) [(.long (-9223372036854775808))] (.long 0) ∧ Arv Z h o3 k_o3 .long (1 : Int32) [(.long 6148914691236517205)] (.long 0)
theorem efA32 (o0 : Addr) (o1 : Addr) (m : MethodId) : entryFrame m #[(.ref o0), (.ref o1)] 10 = mkF m 0 #[.val (.ref o0), .val (.ref o1), .unset, .unset, .unset, .unset, .unset, .unset, .unset, .unset] [] := by first | (simp [entryFrame, mkF, argsToLocals, Value.category]; done) | rfl
theorem rmA32 (l : Launch) (Z : State) (a0 : Array Value) (hw : HW a0 Z) (ws : List Jvm.Cond) (o0 : Addr) (o1 : Addr) (o2 : Addr) (o3 : Addr) (k_o2 : ClassId) (k_o3 : ClassId) (h0 : Heap) (n0 : Nat) (Z0 : n0 ≤ h0.size) (E_o0 : Exa Z h0 o0 kW) (F_o0_words : Fld Z h0 o0 kW "words" "[J" (.ref o2)) (F_o0_work : Fld Z h0 o0 kW "work" "[J" .null) (g_o0 : n0 ≤ o0) (E_o1 : Exa Z h0 o1 kW) (F_o1_words : Fld Z h0 o1 kW "words" "[J" (.ref o3)) (F_o1_work : Fld Z h0 o1 kW "work" "[J" .null) (g_o1 : n0 ≤ o1) (V_o2 : Arv Z h0 o2 k_o2 .long (1 : Int32) [(.long (-9223372036854775808))] (.long 0)) (g_o2 : n0 ≤ o2) (V_o3 : Arv Z h0 o3 k_o3 .long (1 : Int32) [(.long 6148914691236517205)] (.long 0)) (g_o3 : n0 ≤ o3) (n_o0_o1 : own_ne o0 o1) (n_o0_o2 : own_ne o0 o2) (n_o0_o3 : own_ne o0 o3) (n_o1_o2 : own_ne o1 o2) (n_o1_o3 : own_ne o1 o3) (n_o2_o3 : own_ne o2 o3) : OMet l Z ws (⟨"com/example/meterwise/meterwise/model/WholeNumber", "multiply", "(Lcom/example/meterwise/meterwise/model/WholeNumber;)Lcom/example/meterwise/meterwise/model/WholeNumber;"⟩ : MethodName) prog_137_method_15_code 10 (some (.object "com/example/meterwise/meterwise/model/WholeNumber")) RA32 #[(.ref o0), (.ref o1)] h0 n0 (QA32 Z o0 o1 o2 o3 k_o2 k_o3 h0) := by
  refine OMet.of (own := "com/example/meterwise/meterwise/model/WholeNumber") rfl (plainFor_of_name pn_0) (efA32 o0 o1) Z0 ?_
  intro p e s m below meth c T0 Y0 hnm
  refine Gl.aloadN Y0 rfl rfl dK_0 rfl ?_
  refine Gl.callV Y0 (tw_36 hw) (tw_37 hw) (tw_39 hw) (tw_39 hw) (tw_38 hw) (tw_3 hw) (tw_40 hw) (by decide) E_o0 (rmA29 l Z a0 hw [] o0 o2 k_o2 h0 n0 Y0.sz E_o0 F_o0_words F_o0_work g_o0 V_o2 g_o2 n_o0_o2) (a := o0) (argsL := []) (rest := []) rfl rfl (lenOf pd_5 rfl) rfl (by decide) (Nat.le_of_ble_eq_true rfl) (by decide) (by decide) dK_1 rfl (fun v1 T1 h1 Y1 q1 => ?_)
  obtain ⟨rfl, rfl⟩ := q1
  show Gl p e below _ (T1.setTop (mkF m 4 _ [(.int 1)]))
  refine Gl.ifne Y1 dK_4 (by decide) rfl rfl (fun c4 => ?_) (fun c4 => ?_)
  rotate_left
  · exact absurd c4 (by decide)
  refine Gl.aloadN Y1 rfl rfl dK_14 rfl ?_
  refine Gl.callV Y1 (tw_50 hw) (tw_51 hw) (tw_53 hw) (tw_53 hw) (tw_52 hw) (tw_3 hw) (tw_54 hw) (by decide) E_o0 (rm8 l Z a0 hw [] o0 o2 k_o2 (-9223372036854775808 : Int64) h0 n0 Y1.sz E_o0 F_o0_words V_o2 g_o2 n_o0_o2) (a := o0) (argsL := []) (rest := []) rfl rfl (lenOf pd_7 rfl) rfl (by decide) (Nat.le_of_ble_eq_true rfl) (by decide) (by decide) dK_15 rfl (fun v15 T15 h15 Y15 q15 => ?_)
  obtain ⟨rfl, K15, f15_0⟩ := q15
  have KK15 : Keep h0 h15 [o0, o1, o2, o3] := (Keep.refl h0 [o0, o1, o2, o3]).trans K15 (allS (Or.inl (List.mem_of_getElem? (i := 2) rfl)) all0)
  show Gl p e below _ (T15.setTop (mkF m 18 _ [(.ref o0)]))
  have f1 := (E_o0.keep K15)
  have f2 := (E_o1.keep K15)
  have f3 := (F_o0_words.keep K15 (ninS n_o0_o2 nin0))
  have f4 := (F_o0_work.keep K15 (ninS n_o0_o2 nin0))
  have f5 := (F_o1_words.keep K15 (ninS n_o1_o2 nin0))
  have f6 := (F_o1_work.keep K15 (ninS n_o1_o2 nin0))
  have f7 := (V_o3.keep K15 (ninS (Ne.symm n_o2_o3) nin0))
  exact Gl.retA Y15 (by decide) (by decide) rfl rfl dK_18 ⟨rfl, KK15, f1, f2, f3, f4, f5, f6, f15_0, f7⟩
theorem tw_59 {a0 : Array Value} {Z : State} (hw : HW a0 Z) : (Jvm.Cond.methodLink "com/example/meterwise/meterwise/model/WholeNumberOverflowedPinLaw" (29 : Nat) ({ cls := "com/example/meterwise/meterwise/model/WholeNumber", name := "add", desc := "(Lcom/example/meterwise/meterwise/model/WholeNumber;)Lcom/example/meterwise/meterwise/model/WholeNumber;" } : Jvm.MethodName)).before a0 Z = true := hw _ (List.mem_of_getElem? (i := 59) rfl)
theorem dL_0 : decode prog_137_method_12_code 0 = .ok (.aload_n 0, 1) := by decide +kernel
theorem dL_1 : decode prog_137_method_12_code 1 = .ok (.aload_n 1, 1) := by decide +kernel
theorem dL_2 : decode prog_137_method_12_code 2 = .ok (.iconst 0, 1) := by decide +kernel
theorem dL_3 : decode prog_137_method_12_code 3 = .ok (.invokevirtual 124, 3) := by decide +kernel
theorem tw_64 {a0 : Array Value} {Z : State} (hw : HW a0 Z) : (Jvm.Cond.methodLink "com/example/meterwise/meterwise/model/WholeNumber" (124 : Nat) ({ cls := "com/example/meterwise/meterwise/model/WholeNumber", name := "add", desc := "(Lcom/example/meterwise/meterwise/model/WholeNumber;Z)Lcom/example/meterwise/meterwise/model/WholeNumber;" } : Jvm.MethodName)).before a0 Z = true := hw _ (List.mem_of_getElem? (i := 64) rfl)
theorem dM_0 : decode prog_137_method_14_code 0 = .ok (.aload_n 0, 1) := by decide +kernel
theorem dM_1 : decode prog_137_method_14_code 1 = .ok (.invokevirtual 70, 3) := by decide +kernel
theorem dM_4 : decode prog_137_method_14_code 4 = .ok (.ifCond .ne 10, 3) := by decide +kernel
theorem dM_14 : decode prog_137_method_14_code 14 = .ok (.aload_n 0, 1) := by decide +kernel
theorem dM_15 : decode prog_137_method_14_code 15 = .ok (.invokevirtual 74, 3) := by decide +kernel
theorem dM_18 : decode prog_137_method_14_code 18 = .ok (.areturn, 1) := by decide +kernel
def RA34 : Room := { frames := 2, cells := 0, slots := 0, locals := 28 }
def QA34 (Z : State) (o0 : Addr) (o1 : Addr) (o2 : Addr) (o3 : Addr) (k_o2 : ClassId) (k_o3 : ClassId) (p0 : Int64) (h0 : Heap) (v : Option Value) (h : Heap) : Prop := v = some (.ref o0) ∧ Keep h0 h [o0, o1, o2, o3] ∧ Exa Z h o0 kW ∧ Exa Z h o1 kW ∧ Fld Z h o0 kW "words" "[J" (.ref o2) ∧ Fld Z h o0 kW "work" "[J" .null ∧ Fld Z h o1 kW "words" "[J" (.ref o3) ∧ Fld Z h o1 kW "work" "[J" .null ∧ Arv Z h o2 k_o2 .long (1 : Int32) [(.long (-9223372036854775808))] (.long 0) ∧ Arv Z h o3 k_o3 .long (1 : Int32) [(.long p0)] (.long 0)
theorem efA34 (o0 : Addr) (o1 : Addr) (m : MethodId) : entryFrame m #[(.ref o0), (.ref o1), (.int 0)] 21 = mkF m 0 #[.val (.ref o0), .val (.ref o1), .val (.int 0), .unset, .unset, .unset, .unset, .unset, .unset, .unset, .unset, .unset, .unset, .unset, .unset, .unset, .unset, .unset, .unset, .unset, .unset] [] := by first | (simp [entryFrame, mkF, argsToLocals, Value.category]; done) | rfl
theorem rmA34 (l : Launch) (Z : State) (a0 : Array Value) (hw : HW a0 Z) (ws : List Jvm.Cond) (o0 : Addr) (o1 : Addr) (o2 : Addr) (o3 : Addr) (k_o2 : ClassId) (k_o3 : ClassId) (p0 : Int64) (h0 : Heap) (n0 : Nat) (Z0 : n0 ≤ h0.size) (E_o0 : Exa Z h0 o0 kW) (F_o0_words : Fld Z h0 o0 kW "words" "[J" (.ref o2)) (F_o0_work : Fld Z h0 o0 kW "work" "[J" .null) (g_o0 : n0 ≤ o0) (E_o1 : Exa Z h0 o1 kW) (F_o1_words : Fld Z h0 o1 kW "words" "[J" (.ref o3)) (F_o1_work : Fld Z h0 o1 kW "work" "[J" .null) (g_o1 : n0 ≤ o1) (V_o2 : Arv Z h0 o2 k_o2 .long (1 : Int32) [(.long (-9223372036854775808))] (.long 0)) (g_o2 : n0 ≤ o2) (V_o3 : Arv Z h0 o3 k_o3 .long (1 : Int32) [(.long p0)] (.long 0)) (g_o3 : n0 ≤ o3) (n_o0_o1 : own_ne o0 o1) (n_o0_o2 : own_ne o0 o2) (n_o0_o3 : own_ne o0 o3) (n_o1_o2 : own_ne o1 o2) (n_o1_o3 : own_ne o1 o3) (n_o2_o3 : own_ne o2 o3) : OMet l Z ws (⟨"com/example/meterwise/meterwise/model/WholeNumber", "add", "(Lcom/example/meterwise/meterwise/model/WholeNumber;Z)Lcom/example/meterwise/meterwise/model/WholeNumber;"⟩ : MethodName) prog_137_method_14_code 21 (some (.object "com/example/meterwise/meterwise/model/WholeNumber")) RA34 #[(.ref o0), (.ref o1), (.int 0)] h0 n0 (QA34 Z o0 o1 o2 o3 k_o2 k_o3 p0 h0) := by
  refine OMet.of (own := "com/example/meterwise/meterwise/model/WholeNumber") rfl (plainFor_of_name pn_0) (efA34 o0 o1) Z0 ?_
  intro p e s m below meth c T0 Y0 hnm
  refine Gl.aloadN Y0 rfl rfl dM_0 rfl ?_
  refine Gl.callV Y0 (tw_36 hw) (tw_37 hw) (tw_39 hw) (tw_39 hw) (tw_38 hw) (tw_3 hw) (tw_40 hw) (by decide) E_o0 (rmA29 l Z a0 hw [] o0 o2 k_o2 h0 n0 Y0.sz E_o0 F_o0_words F_o0_work g_o0 V_o2 g_o2 n_o0_o2) (a := o0) (argsL := []) (rest := []) rfl rfl (lenOf pd_5 rfl) rfl (by decide) (Nat.le_of_ble_eq_true rfl) (by decide) (by decide) dM_1 rfl (fun v1 T1 h1 Y1 q1 => ?_)
  obtain ⟨rfl, rfl⟩ := q1
  show Gl p e below _ (T1.setTop (mkF m 4 _ [(.int 1)]))
  refine Gl.ifne Y1 dM_4 (by decide) rfl rfl (fun c4 => ?_) (fun c4 => ?_)
  rotate_left
  · exact absurd c4 (by decide)
  refine Gl.aloadN Y1 rfl rfl dM_14 rfl ?_
  refine Gl.callV Y1 (tw_50 hw) (tw_51 hw) (tw_53 hw) (tw_53 hw) (tw_52 hw) (tw_3 hw) (tw_54 hw) (by decide) E_o0 (rm8 l Z a0 hw [] o0 o2 k_o2 (-9223372036854775808 : Int64) h0 n0 Y1.sz E_o0 F_o0_words V_o2 g_o2 n_o0_o2) (a := o0) (argsL := []) (rest := []) rfl rfl (lenOf pd_7 rfl) rfl (by decide) (Nat.le_of_ble_eq_true rfl) (by decide) (by decide) dM_15 rfl (fun v15 T15 h15 Y15 q15 => ?_)
  obtain ⟨rfl, K15, f15_0⟩ := q15
  have KK15 : Keep h0 h15 [o0, o1, o2, o3] := (Keep.refl h0 [o0, o1, o2, o3]).trans K15 (allS (Or.inl (List.mem_of_getElem? (i := 2) rfl)) all0)
  show Gl p e below _ (T15.setTop (mkF m 18 _ [(.ref o0)]))
  have f1 := (E_o0.keep K15)
  have f2 := (E_o1.keep K15)
  have f3 := (F_o0_words.keep K15 (ninS n_o0_o2 nin0))
  have f4 := (F_o0_work.keep K15 (ninS n_o0_o2 nin0))
  have f5 := (F_o1_words.keep K15 (ninS n_o1_o2 nin0))
  have f6 := (F_o1_work.keep K15 (ninS n_o1_o2 nin0))
  have f7 := (V_o3.keep K15 (ninS (Ne.symm n_o2_o3) nin0))
  exact Gl.retA Y15 (by decide) (by decide) rfl rfl dM_18 ⟨rfl, KK15, f1, f2, f3, f4, f5, f6, f15_0, f7⟩
theorem pd_9 : parseMethodDescriptor "(Lcom/example/meterwise/meterwise/model/WholeNumber;Z)Lcom/example/meterwise/meterwise/model/WholeNumber;" = some ⟨[(.object "com/example/meterwise/meterwise/model/WholeNumber"), .boolean], some (.object "com/example/meterwise/meterwise/model/WholeNumber")⟩ := by decide +kernel
theorem tw_67 {a0 : Array Value} {Z : State} (hw : HW a0 Z) : (Jvm.Cond.code ({ cls := "com/example/meterwise/meterwise/model/WholeNumber", name := "add", desc := "(Lcom/example/meterwise/meterwise/model/WholeNumber;Z)Lcom/example/meterwise/meterwise/model/WholeNumber;" } : Jvm.MethodName) prog_137_method_14_code (21 : Nat) (Option.some (Jvm.ClassFile.FieldType.object "com/example/meterwise/meterwise/model/WholeNumber"))).before a0 Z = true := hw _ (List.mem_of_getElem? (i := 67) rfl)
theorem tw_65 {a0 : Array Value} {Z : State} (hw : HW a0 Z) : (Jvm.Cond.instanceMethod ({ cls := "com/example/meterwise/meterwise/model/WholeNumber", name := "add", desc := "(Lcom/example/meterwise/meterwise/model/WholeNumber;Z)Lcom/example/meterwise/meterwise/model/WholeNumber;" } : Jvm.MethodName)).before a0 Z = true := hw _ (List.mem_of_getElem? (i := 65) rfl)
theorem tw_66 {a0 : Array Value} {Z : State} (hw : HW a0 Z) : (Jvm.Cond.privateMethod ({ cls := "com/example/meterwise/meterwise/model/WholeNumber", name := "add", desc := "(Lcom/example/meterwise/meterwise/model/WholeNumber;Z)Lcom/example/meterwise/meterwise/model/WholeNumber;" } : Jvm.MethodName)).before a0 Z = true := hw _ (List.mem_of_getElem? (i := 66) rfl)
theorem dL_6 : decode prog_137_method_12_code 6 = .ok (.areturn, 1) := by decide +kernel
def RA33 : Room := { frames := 3, cells := 0, slots := 0, locals := 60 }
def QA33 (Z : State) (o0 : Addr) (o1 : Addr) (o2 : Addr) (o3 : Addr) (k_o2 : ClassId) (k_o3 : ClassId) (p0 : Int64) (h0 : Heap) (v : Option Value) (h : Heap) : Prop := v = some (.ref o0) ∧ Keep h0 h [o0, o1, o2, o3] ∧ Exa Z h o0 kW ∧ Exa Z h o1 kW ∧ Fld Z h o0 kW "words" "[J" (.ref o2) ∧ Fld Z h o0 kW "work" "[J" .null ∧ Fld Z h o1 kW "words" "[J" (.ref o3) ∧ Fld Z h o1 kW "work" "[J" .null ∧ Arv Z h o2 k_o2 .long (1 : Int32) [(.long (-9223372036854775808))] (.long 0) ∧ Arv Z h o3 k_o3 .long (1 : Int32) [(.long p0)] (.long 0)
theorem efA33 (o0 : Addr) (o1 : Addr) (m : MethodId) : entryFrame m #[(.ref o0), (.ref o1)] 2 = mkF m 0 #[.val (.ref o0), .val (.ref o1)] [] := by first | (simp [entryFrame, mkF, argsToLocals, Value.category]; done) | rfl
theorem rmA33 (l : Launch) (Z : State) (a0 : Array Value) (hw : HW a0 Z) (ws : List Jvm.Cond) (o0 : Addr) (o1 : Addr) (o2 : Addr) (o3 : Addr) (k_o2 : ClassId) (k_o3 : ClassId) (p0 : Int64) (h0 : Heap) (n0 : Nat) (Z0 : n0 ≤ h0.size) (E_o0 : Exa Z h0 o0 kW) (F_o0_words : Fld Z h0 o0 kW "words" "[J" (.ref o2)) (F_o0_work : Fld Z h0 o0 kW "work" "[J" .null) (g_o0 : n0 ≤ o0) (E_o1 : Exa Z h0 o1 kW) (F_o1_words : Fld Z h0 o1 kW "words" "[J" (.ref o3)) (F_o1_work : Fld Z h0 o1 kW "work" "[J" .null) (g_o1 : n0 ≤ o1) (V_o2 : Arv Z h0 o2 k_o2 .long (1 : Int32) [(.long (-9223372036854775808))] (.long 0)) (g_o2 : n0 ≤ o2) (V_o3 : Arv Z h0 o3 k_o3 .long (1 : Int32) [(.long p0)] (.long 0)) (g_o3 : n0 ≤ o3) (n_o0_o1 : own_ne o0 o1) (n_o0_o2 : own_ne o0 o2) (n_o0_o3 : own_ne o0 o3) (n_o1_o2 : own_ne o1 o2) (n_o1_o3 : own_ne o1 o3) (n_o2_o3 : own_ne o2 o3) : OMet l Z ws (⟨"com/example/meterwise/meterwise/model/WholeNumber", "add", "(Lcom/example/meterwise/meterwise/model/WholeNumber;)Lcom/example/meterwise/meterwise/model/WholeNumber;"⟩ : MethodName) prog_137_method_12_code 2 (some (.object "com/example/meterwise/meterwise/model/WholeNumber")) RA33 #[(.ref o0), (.ref o1)] h0 n0 (QA33 Z o0 o1 o2 o3 k_o2 k_o3 p0 h0) := by
  refine OMet.of (own := "com/example/meterwise/meterwise/model/WholeNumber") rfl (plainFor_of_name pn_0) (efA33 o0 o1) Z0 ?_
  intro p e s m below meth c T0 Y0 hnm
  refine Gl.aloadN Y0 rfl rfl dL_0 rfl ?_
  refine Gl.aloadN Y0 rfl rfl dL_1 rfl ?_
  refine Gl.iconst Y0 (v := (0 : Int32)) (by decide) dL_2 rfl ?_
  refine Gl.callP Y0 (tw_64 hw) (tw_65 hw) (tw_66 hw) (tw_2 hw) (tw_3 hw) (tw_67 hw) (by decide) E_o0 (rmA34 l Z a0 hw [] o0 o1 o2 o3 k_o2 k_o3 p0 h0 n0 Y0.sz E_o0 F_o0_words F_o0_work g_o0 E_o1 F_o1_words F_o1_work g_o1 V_o2 g_o2 V_o3 g_o3 n_o0_o1 n_o0_o2 n_o0_o3 n_o1_o2 n_o1_o3 n_o2_o3) (a := o0) (argsL := [(.ref o1), (.int 0)]) (rest := []) rfl rfl (lenOf pd_9 rfl) rfl (by decide) (Nat.le_of_ble_eq_true rfl) (by decide) (by decide) dL_3 rfl (fun v3 T3 h3 Y3 q3 => ?_)
  obtain ⟨rfl, K3, f3_0, f3_1, f3_2, f3_3, f3_4, f3_5, f3_6, f3_7⟩ := q3
  have KK3 : Keep h0 h3 [o0, o1, o2, o3] := (Keep.refl h0 [o0, o1, o2, o3]).trans K3 (allS (Or.inl (List.mem_of_getElem? (i := 0) rfl)) (allS (Or.inl (List.mem_of_getElem? (i := 1) rfl)) (allS (Or.inl (List.mem_of_getElem? (i := 2) rfl)) (allS (Or.inl (List.mem_of_getElem? (i := 3) rfl)) all0))))
  show Gl p e below _ (T3.setTop (mkF m 6 _ [(.ref o0)]))
  exact Gl.retA Y3 (by decide) (by decide) rfl rfl dL_6 ⟨rfl, KK3, f3_0, f3_1, f3_2, f3_3, f3_4, f3_5, f3_6, f3_7⟩
theorem tw_63 {a0 : Array Value} {Z : State} (hw : HW a0 Z) : (Jvm.Cond.code ({ cls := "com/example/meterwise/meterwise/model/WholeNumber", name := "add", desc := "(Lcom/example/meterwise/meterwise/model/WholeNumber;)Lcom/example/meterwise/meterwise/model/WholeNumber;" } : Jvm.MethodName) prog_137_method_12_code (2 : Nat) (Option.some (Jvm.ClassFile.FieldType.object "com/example/meterwise/meterwise/model/WholeNumber"))).before a0 Z = true := hw _ (List.mem_of_getElem? (i := 63) rfl)
theorem tw_60 {a0 : Array Value} {Z : State} (hw : HW a0 Z) : (Jvm.Cond.declares ({ cls := "com/example/meterwise/meterwise/model/WholeNumber", name := "add", desc := "(Lcom/example/meterwise/meterwise/model/WholeNumber;)Lcom/example/meterwise/meterwise/model/WholeNumber;" } : Jvm.MethodName)).before a0 Z = true := hw _ (List.mem_of_getElem? (i := 60) rfl)
theorem tw_62 {a0 : Array Value} {Z : State} (hw : HW a0 Z) : (Jvm.Cond.selects "com/example/meterwise/meterwise/model/WholeNumber" ({ cls := "com/example/meterwise/meterwise/model/WholeNumber", name := "add", desc := "(Lcom/example/meterwise/meterwise/model/WholeNumber;)Lcom/example/meterwise/meterwise/model/WholeNumber;" } : Jvm.MethodName) ({ cls := "com/example/meterwise/meterwise/model/WholeNumber", name := "add", desc := "(Lcom/example/meterwise/meterwise/model/WholeNumber;)Lcom/example/meterwise/meterwise/model/WholeNumber;" } : Jvm.MethodName)).before a0 Z = true := hw _ (List.mem_of_getElem? (i := 62) rfl)
theorem tw_61 {a0 : Array Value} {Z : State} (hw : HW a0 Z) : (Jvm.Cond.instanceMethod ({ cls := "com/example/meterwise/meterwise/model/WholeNumber", name := "add", desc := "(Lcom/example/meterwise/meterwise/model/WholeNumber;)Lcom/example/meterwise/meterwise/model/WholeNumber;" } : Jvm.MethodName)).before a0 Z = true := hw _ (List.mem_of_getElem? (i := 61) rfl)
def RA35 : Room := { frames := 1, cells := 0, slots := 0, locals := 12 }
def QA35 (Z : State) (o0 : Addr) (o1 : Addr) (k_o1 : ClassId) (h0 : Heap) (v : Option Value) (h : Heap) : Prop := v = some (.int 0) ∧ h0 = h
theorem efA35 (o0 : Addr) (m : MethodId) : entryFrame m #[(.ref o0)] 1 = mkF m 0 #[.val (.ref o0)] [] := by first | (simp [entryFrame, mkF, argsToLocals, Value.category]; done) | rfl
theorem rmA35 (l : Launch) (Z : State) (a0 : Array Value) (hw : HW a0 Z) (ws : List Jvm.Cond) (o0 : Addr) (o1 : Addr) (k_o1 : ClassId) (h0 : Heap) (n0 : Nat) (Z0 : n0 ≤ h0.size) (E_o0 : Exa Z h0 o0 kW) (F_o0_words : Fld Z h0 o0 kW "words" "[J" (.ref o1)) (F_o0_work : Fld Z h0 o0 kW "work" "[J" .null) (g_o0 : n0 ≤ o0) (V_o1 : Arv Z h0 o1 k_o1 .long (2 : Int32) [(.long 0), (.long 0)] (.long 0)) (g_o1 : n0 ≤ o1) (n_o0_o1 : own_ne o0 o1) : OMet l Z ws (⟨"com/example/meterwise/meterwise/model/WholeNumber", "overflowed", "()Z"⟩ : MethodName) prog_137_method_8_code 1 (some .boolean) RA35 #[(.ref o0)] h0 n0 (QA35 Z o0 o1 k_o1 h0) := by
  refine OMet.of (own := "com/example/meterwise/meterwise/model/WholeNumber") rfl (plainFor_of_name pn_0) (efA35 o0) Z0 ?_
  intro p e s m below meth c T0 Y0 hnm
  refine Gl.aloadN Y0 rfl rfl dI_0 rfl ?_
  refine Gl.callP Y0 (tw_41 hw) (tw_42 hw) (tw_43 hw) (tw_2 hw) (tw_3 hw) (tw_44 hw) (by decide) E_o0 (rm10 l Z a0 hw [] o0 o1 k_o1 (0 : Int64) (0 : Int64) h0 n0 Y0.sz E_o0 F_o0_words V_o1) (a := o0) (argsL := []) (rest := []) rfl rfl (lenOf pd_4 rfl) rfl (by decide) (Nat.le_of_ble_eq_true rfl) (by decide) (by decide) dI_1 rfl (fun v1 T1 h1 Y1 q1 => ?_)
  obtain ⟨rfl, rfl⟩ := q1
  show Gl p e below _ (T1.setTop (mkF m 4 _ [(.long 0)]))
  refine Gl.ldcJ Y1 (tw_45 hw) dI_4 rfl ?_
  refine Gl.lcmpne Y1 dI_7 rfl dI_8 (by decide) rfl rfl (fun c8 => ?_) (fun c8 => ?_)
  rotate_left
  · exact absurd c8 (by decide)
  refine Gl.iconst Y1 (v := (0 : Int32)) (by decide) dI_22 rfl ?_
  exact Gl.retZ Y1 (by decide) (by decide) (x' := (0 : Int32)) (by decide) dI_23 ⟨rfl, rfl⟩
def RA36 : Room := { frames := 1, cells := 0, slots := 0, locals := 12 }
def QA36 (Z : State) (o0 : Addr) (o1 : Addr) (k_o1 : ClassId) (p0 : Int64) (h0 : Heap) (v : Option Value) (h : Heap) : Prop := v = some (.int 0) ∧ h0 = h
theorem efA36 (o0 : Addr) (m : MethodId) : entryFrame m #[(.ref o0)] 1 = mkF m 0 #[.val (.ref o0)] [] := by first | (simp [entryFrame, mkF, argsToLocals, Value.category]; done) | rfl
theorem rmA36 (l : Launch) (Z : State) (a0 : Array Value) (hw : HW a0 Z) (ws : List Jvm.Cond) (o0 : Addr) (o1 : Addr) (k_o1 : ClassId) (p0 : Int64) (h0 : Heap) (n0 : Nat) (Z0 : n0 ≤ h0.size) (E_o0 : Exa Z h0 o0 kW) (F_o0_words : Fld Z h0 o0 kW "words" "[J" (.ref o1)) (F_o0_work : Fld Z h0 o0 kW "work" "[J" .null) (g_o0 : n0 ≤ o0) (V_o1 : Arv Z h0 o1 k_o1 .long (2 : Int32) [(.long p0), (.long (-1))] (.long 0)) (g_o1 : n0 ≤ o1) (n_o0_o1 : own_ne o0 o1) : OMet l Z ws (⟨"com/example/meterwise/meterwise/model/WholeNumber", "overflowed", "()Z"⟩ : MethodName) prog_137_method_8_code 1 (some .boolean) RA36 #[(.ref o0)] h0 n0 (QA36 Z o0 o1 k_o1 p0 h0) := by
  refine OMet.of (own := "com/example/meterwise/meterwise/model/WholeNumber") rfl (plainFor_of_name pn_0) (efA36 o0) Z0 ?_
  intro p e s m below meth c T0 Y0 hnm
  refine Gl.aloadN Y0 rfl rfl dI_0 rfl ?_
  refine Gl.callP Y0 (tw_41 hw) (tw_42 hw) (tw_43 hw) (tw_2 hw) (tw_3 hw) (tw_44 hw) (by decide) E_o0 (rm10 l Z a0 hw [] o0 o1 k_o1 p0 (-1 : Int64) h0 n0 Y0.sz E_o0 F_o0_words V_o1) (a := o0) (argsL := []) (rest := []) rfl rfl (lenOf pd_4 rfl) rfl (by decide) (Nat.le_of_ble_eq_true rfl) (by decide) (by decide) dI_1 rfl (fun v1 T1 h1 Y1 q1 => ?_)
  obtain ⟨rfl, rfl⟩ := q1
  show Gl p e below _ (T1.setTop (mkF m 4 _ [(.long (-1))]))
  refine Gl.ldcJ Y1 (tw_45 hw) dI_4 rfl ?_
  refine Gl.lcmpne Y1 dI_7 rfl dI_8 (by decide) rfl rfl (fun c8 => ?_) (fun c8 => ?_)
  rotate_left
  · exact absurd c8 (by decide)
  refine Gl.iconst Y1 (v := (0 : Int32)) (by decide) dI_22 rfl ?_
  exact Gl.retZ Y1 (by decide) (by decide) (x' := (0 : Int32)) (by decide) dI_23 ⟨rfl, rfl⟩
def RA37 : Room := { frames := 1, cells := 0, slots := 0, locals := 12 }
def QA37 (Z : State) (o0 : Addr) (o1 : Addr) (k_o1 : ClassId) (p0 : Int64) (h0 : Heap) (v : Option Value) (h : Heap) : Prop := v = some (.int 0) ∧ h0 = h
theorem efA37 (o0 : Addr) (m : MethodId) : entryFrame m #[(.ref o0)] 1 = mkF m 0 #[.val (.ref o0)] [] := by first | (simp [entryFrame, mkF, argsToLocals, Value.category]; done) | rfl
theorem rmA37 (l : Launch) (Z : State) (a0 : Array Value) (hw : HW a0 Z) (ws : List Jvm.Cond) (o0 : Addr) (o1 : Addr) (k_o1 : ClassId) (p0 : Int64) (h0 : Heap) (n0 : Nat) (Z0 : n0 ≤ h0.size) (E_o0 : Exa Z h0 o0 kW) (F_o0_words : Fld Z h0 o0 kW "words" "[J" (.ref o1)) (F_o0_work : Fld Z h0 o0 kW "work" "[J" .null) (g_o0 : n0 ≤ o0) (V_o1 : Arv Z h0 o1 k_o1 .long (2 : Int32) [(.long p0), (.long 0)] (.long 0)) (g_o1 : n0 ≤ o1) (n_o0_o1 : own_ne o0 o1) : OMet l Z ws (⟨"com/example/meterwise/meterwise/model/WholeNumber", "overflowed", "()Z"⟩ : MethodName) prog_137_method_8_code 1 (some .boolean) RA37 #[(.ref o0)] h0 n0 (QA37 Z o0 o1 k_o1 p0 h0) := by
  refine OMet.of (own := "com/example/meterwise/meterwise/model/WholeNumber") rfl (plainFor_of_name pn_0) (efA37 o0) Z0 ?_
  intro p e s m below meth c T0 Y0 hnm
  refine Gl.aloadN Y0 rfl rfl dI_0 rfl ?_
  refine Gl.callP Y0 (tw_41 hw) (tw_42 hw) (tw_43 hw) (tw_2 hw) (tw_3 hw) (tw_44 hw) (by decide) E_o0 (rm10 l Z a0 hw [] o0 o1 k_o1 p0 (0 : Int64) h0 n0 Y0.sz E_o0 F_o0_words V_o1) (a := o0) (argsL := []) (rest := []) rfl rfl (lenOf pd_4 rfl) rfl (by decide) (Nat.le_of_ble_eq_true rfl) (by decide) (by decide) dI_1 rfl (fun v1 T1 h1 Y1 q1 => ?_)
  obtain ⟨rfl, rfl⟩ := q1
  show Gl p e below _ (T1.setTop (mkF m 4 _ [(.long 0)]))
  refine Gl.ldcJ Y1 (tw_45 hw) dI_4 rfl ?_
  refine Gl.lcmpne Y1 dI_7 rfl dI_8 (by decide) rfl rfl (fun c8 => ?_) (fun c8 => ?_)
  rotate_left
  · exact absurd c8 (by decide)
  refine Gl.iconst Y1 (v := (0 : Int32)) (by decide) dI_22 rfl ?_
  exact Gl.retZ Y1 (by decide) (by decide) (x' := (0 : Int32)) (by decide) dI_23 ⟨rfl, rfl⟩
theorem dJ_13 : decode prog_137_method_10_code 13 = .ok (.aload_n 0, 1) := by decide +kernel
theorem dJ_14 : decode prog_137_method_10_code 14 = .ok (.getfield 26, 3) := by decide +kernel
theorem dJ_17 : decode prog_137_method_10_code 17 = .ok (.iload_n 1, 1) := by decide +kernel
theorem dJ_18 : decode prog_137_method_10_code 18 = .ok (.laload, 1) := by decide +kernel
theorem dJ_19 : decode prog_137_method_10_code 19 = .ok (.lconst 0, 1) := by decide +kernel
theorem dJ_20 : decode prog_137_method_10_code 20 = .ok (.lcmp, 1) := by decide +kernel
theorem dJ_21 : decode prog_137_method_10_code 21 = .ok (.ifCond .eq 5, 3) := by decide +kernel
theorem dJ_26 : decode prog_137_method_10_code 26 = .ok (.iinc 1 1, 3) := by decide +kernel
theorem dJ_29 : decode prog_137_method_10_code 29 = .ok (.goto (-27), 3) := by decide +kernel
def RA39 : Room := { frames := 0, cells := 0, slots := 0, locals := 0 }
def QA39 (Z : State) (o0 : Addr) (o1 : Addr) (k_o1 : ClassId) (h0 : Heap) (v : Option Value) (h : Heap) : Prop := v = some (.int 1) ∧ h0 = h
theorem efA39 (o0 : Addr) (m : MethodId) : entryFrame m #[(.ref o0)] 2 = mkF m 0 #[.val (.ref o0), .unset] [] := by first | (simp [entryFrame, mkF, argsToLocals, Value.category]; done) | rfl
theorem rmA39 (l : Launch) (Z : State) (a0 : Array Value) (hw : HW a0 Z) (ws : List Jvm.Cond) (o0 : Addr) (o1 : Addr) (k_o1 : ClassId) (h0 : Heap) (n0 : Nat) (Z0 : n0 ≤ h0.size) (E_o0 : Exa Z h0 o0 kW) (F_o0_words : Fld Z h0 o0 kW "words" "[J" (.ref o1)) (F_o0_work : Fld Z h0 o0 kW "work" "[J" .null) (g_o0 : n0 ≤ o0) (V_o1 : Arv Z h0 o1 k_o1 .long (2 : Int32) [(.long 0), (.long (-9223372036854775808))] (.long 0)) (g_o1 : n0 ≤ o1) (n_o0_o1 : own_ne o0 o1) : OMet l Z ws (⟨"com/example/meterwise/meterwise/model/WholeNumber", "zeroBelowTop", "()Z"⟩ : MethodName) prog_137_method_10_code 2 (some .boolean) RA39 #[(.ref o0)] h0 n0 (QA39 Z o0 o1 k_o1 h0) := by
  refine OMet.of (own := "com/example/meterwise/meterwise/model/WholeNumber") rfl (plainFor_of_name pn_0) (efA39 o0) Z0 ?_
  intro p e s m below meth c T0 Y0 hnm
  refine Gl.iconst Y0 (v := (0 : Int32)) (by decide) dJ_0 rfl ?_
  refine Gl.istoreN Y0 (L' := #[.val (.ref o0), .val (.int 0)]) rfl dJ_1 rfl ?_
  refine Gl.iloadN Y0 rfl dJ_2 rfl ?_
  refine Gl.aloadN Y0 rfl rfl dJ_3 rfl ?_
  refine Gl.getF Y0 (host := "") (Or.inl (tw_15 hw)) Via.refl F_o0_words dJ_4 rfl (fun T4 Y4 => ?_)
  refine Gl.arraylength Y4 V_o1 dJ_7 rfl ?_
  refine Gl.iconst Y4 (v := (1 : Int32)) (by decide) dJ_8 rfl ?_
  refine Gl.isub Y4 (r := (1 : Int32)) (by decide) dJ_9 rfl ?_
  refine Gl.icmpge Y4 dJ_10 (by decide) rfl rfl (fun c10 => ?_) (fun c10 => ?_)
  · exact absurd c10 (by decide)
  refine Gl.aloadN Y4 rfl rfl dJ_13 rfl ?_
  refine Gl.getF Y4 (host := "") (Or.inl (tw_15 hw)) Via.refl F_o0_words dJ_14 rfl (fun T14 Y14 => ?_)
  refine Gl.iloadN Y14 rfl dJ_17 rfl ?_
  refine Gl.laload Y14 V_o1 ⟨by decide, by decide⟩ (v := (.long 0)) rfl dJ_18 rfl ?_
  refine Gl.lconst Y14 (v := (0 : Int64)) (by decide) dJ_19 rfl ?_
  refine Gl.lcmpeq Y14 dJ_20 rfl dJ_21 (by decide) rfl rfl (fun c21 => ?_) (fun c21 => ?_)
  rotate_left
  · exact absurd c21 (by decide)
  refine Gl.iinc Y14 rfl (r := (1 : Int32)) (by decide) (L' := #[.val (.ref o0), .val (.int 1)]) rfl dJ_26 rfl ?_
  refine Gl.goto Y14 dJ_29 (by decide) rfl ?_
  refine Gl.iloadN Y14 rfl dJ_2 rfl ?_
  refine Gl.aloadN Y14 rfl rfl dJ_3 rfl ?_
  refine Gl.getF Y14 (host := "") (Or.inl (tw_15 hw)) Via.refl F_o0_words dJ_4 rfl (fun T4_2 Y4_2 => ?_)
  refine Gl.arraylength Y4_2 V_o1 dJ_7 rfl ?_
  refine Gl.iconst Y4_2 (v := (1 : Int32)) (by decide) dJ_8 rfl ?_
  refine Gl.isub Y4_2 (r := (1 : Int32)) (by decide) dJ_9 rfl ?_
  refine Gl.icmpge Y4_2 dJ_10 (by decide) rfl rfl (fun c10_2 => ?_) (fun c10_2 => ?_)
  rotate_left
  · exact absurd c10_2 (by decide)
  refine Gl.iconst Y4_2 (v := (1 : Int32)) (by decide) dJ_32 rfl ?_
  exact Gl.retZ Y4_2 (by decide) (by decide) (x' := (1 : Int32)) (by decide) dJ_33 ⟨rfl, rfl⟩
def RA38 : Room := { frames := 1, cells := 0, slots := 0, locals := 13 }
def QA38 (Z : State) (o0 : Addr) (o1 : Addr) (k_o1 : ClassId) (h0 : Heap) (v : Option Value) (h : Heap) : Prop := v = some (.int 1) ∧ h0 = h
theorem efA38 (o0 : Addr) (m : MethodId) : entryFrame m #[(.ref o0)] 1 = mkF m 0 #[.val (.ref o0)] [] := by first | (simp [entryFrame, mkF, argsToLocals, Value.category]; done) | rfl
theorem rmA38 (l : Launch) (Z : State) (a0 : Array Value) (hw : HW a0 Z) (ws : List Jvm.Cond) (o0 : Addr) (o1 : Addr) (k_o1 : ClassId) (h0 : Heap) (n0 : Nat) (Z0 : n0 ≤ h0.size) (E_o0 : Exa Z h0 o0 kW) (F_o0_words : Fld Z h0 o0 kW "words" "[J" (.ref o1)) (F_o0_work : Fld Z h0 o0 kW "work" "[J" .null) (g_o0 : n0 ≤ o0) (V_o1 : Arv Z h0 o1 k_o1 .long (2 : Int32) [(.long 0), (.long (-9223372036854775808))] (.long 0)) (g_o1 : n0 ≤ o1) (n_o0_o1 : own_ne o0 o1) : OMet l Z ws (⟨"com/example/meterwise/meterwise/model/WholeNumber", "overflowed", "()Z"⟩ : MethodName) prog_137_method_8_code 1 (some .boolean) RA38 #[(.ref o0)] h0 n0 (QA38 Z o0 o1 k_o1 h0) := by
  refine OMet.of (own := "com/example/meterwise/meterwise/model/WholeNumber") rfl (plainFor_of_name pn_0) (efA38 o0) Z0 ?_
  intro p e s m below meth c T0 Y0 hnm
  refine Gl.aloadN Y0 rfl rfl dI_0 rfl ?_
  refine Gl.callP Y0 (tw_41 hw) (tw_42 hw) (tw_43 hw) (tw_2 hw) (tw_3 hw) (tw_44 hw) (by decide) E_o0 (rm10 l Z a0 hw [] o0 o1 k_o1 (0 : Int64) (-9223372036854775808 : Int64) h0 n0 Y0.sz E_o0 F_o0_words V_o1) (a := o0) (argsL := []) (rest := []) rfl rfl (lenOf pd_4 rfl) rfl (by decide) (Nat.le_of_ble_eq_true rfl) (by decide) (by decide) dI_1 rfl (fun v1 T1 h1 Y1 q1 => ?_)
  obtain ⟨rfl, rfl⟩ := q1
  show Gl p e below _ (T1.setTop (mkF m 4 _ [(.long (-9223372036854775808))]))
  refine Gl.ldcJ Y1 (tw_45 hw) dI_4 rfl ?_
  refine Gl.lcmpne Y1 dI_7 rfl dI_8 (by decide) rfl rfl (fun c8 => ?_) (fun c8 => ?_)
  · exact absurd c8 (by decide)
  refine Gl.aloadN Y1 rfl rfl dI_11 rfl ?_
  refine Gl.callP Y1 (tw_46 hw) (tw_47 hw) (tw_48 hw) (tw_2 hw) (tw_3 hw) (tw_49 hw) (by decide) E_o0 (rmA39 l Z a0 hw [] o0 o1 k_o1 h0 n0 Y1.sz E_o0 F_o0_words F_o0_work g_o0 V_o1 g_o1 n_o0_o1) (a := o0) (argsL := []) (rest := []) rfl rfl (lenOf pd_5 rfl) rfl (by decide) (Nat.le_of_ble_eq_true rfl) (by decide) (by decide) dI_12 rfl (fun v12 T12 h12 Y12 q12 => ?_)
  obtain ⟨rfl, rfl⟩ := q12
  show Gl p e below _ (T12.setTop (mkF m 15 _ [(.int 1)]))
  refine Gl.ifeq Y12 dI_15 (by decide) rfl rfl (fun c15 => ?_) (fun c15 => ?_)
  · exact absurd c15 (by decide)
  refine Gl.iconst Y12 (v := (1 : Int32)) (by decide) dI_18 rfl ?_
  refine Gl.goto Y12 dI_19 (by decide) rfl ?_
  exact Gl.retZ Y12 (by decide) (by decide) (x' := (1 : Int32)) (by decide) dI_23 ⟨rfl, rfl⟩
def RA41 : Room := { frames := 1, cells := 0, slots := 0, locals := 12 }
def QA41 (Z : State) (o0 : Addr) (o1 : Addr) (k_o1 : ClassId) (h0 : Heap) (v : Option Value) (h : Heap) : Prop := v = some (.int 0) ∧ h0 = h
theorem efA41 (o0 : Addr) (m : MethodId) : entryFrame m #[(.ref o0)] 1 = mkF m 0 #[.val (.ref o0)] [] := by first | (simp [entryFrame, mkF, argsToLocals, Value.category]; done) | rfl
theorem rmA41 (l : Launch) (Z : State) (a0 : Array Value) (hw : HW a0 Z) (ws : List Jvm.Cond) (o0 : Addr) (o1 : Addr) (k_o1 : ClassId) (h0 : Heap) (n0 : Nat) (Z0 : n0 ≤ h0.size) (E_o0 : Exa Z h0 o0 kW) (F_o0_words : Fld Z h0 o0 kW "words" "[J" (.ref o1)) (F_o0_work : Fld Z h0 o0 kW "work" "[J" .null) (g_o0 : n0 ≤ o0) (V_o1 : Arv Z h0 o1 k_o1 .long (2 : Int32) [(.long (-9223372036854775808)), (.long (-1))] (.long 0)) (g_o1 : n0 ≤ o1) (n_o0_o1 : own_ne o0 o1) : OMet l Z ws (⟨"com/example/meterwise/meterwise/model/WholeNumber", "overflowed", "()Z"⟩ : MethodName) prog_137_method_8_code 1 (some .boolean) RA41 #[(.ref o0)] h0 n0 (QA41 Z o0 o1 k_o1 h0) := by
  refine OMet.of (own := "com/example/meterwise/meterwise/model/WholeNumber") rfl (plainFor_of_name pn_0) (efA41 o0) Z0 ?_
  intro p e s m below meth c T0 Y0 hnm
  refine Gl.aloadN Y0 rfl rfl dI_0 rfl ?_
  refine Gl.callP Y0 (tw_41 hw) (tw_42 hw) (tw_43 hw) (tw_2 hw) (tw_3 hw) (tw_44 hw) (by decide) E_o0 (rm10 l Z a0 hw [] o0 o1 k_o1 (-9223372036854775808 : Int64) (-1 : Int64) h0 n0 Y0.sz E_o0 F_o0_words V_o1) (a := o0) (argsL := []) (rest := []) rfl rfl (lenOf pd_4 rfl) rfl (by decide) (Nat.le_of_ble_eq_true rfl) (by decide) (by decide) dI_1 rfl (fun v1 T1 h1 Y1 q1 => ?_)
  obtain ⟨rfl, rfl⟩ := q1
  show Gl p e below _ (T1.setTop (mkF m 4 _ [(.long (-1))]))
  refine Gl.ldcJ Y1 (tw_45 hw) dI_4 rfl ?_
  refine Gl.lcmpne Y1 dI_7 rfl dI_8 (by decide) rfl rfl (fun c8 => ?_) (fun c8 => ?_)
  rotate_left
  · exact absurd c8 (by decide)
  refine Gl.iconst Y1 (v := (0 : Int32)) (by decide) dI_22 rfl ?_
  exact Gl.retZ Y1 (by decide) (by decide) (x' := (0 : Int32)) (by decide) dI_23 ⟨rfl, rfl⟩
theorem dK_7 : decode prog_137_method_15_code 7 = .ok (.aload_n 1, 1) := by decide +kernel
theorem dK_8 : decode prog_137_method_15_code 8 = .ok (.invokevirtual 70, 3) := by decide +kernel
def RA42 : Room := { frames := 1, cells := 0, slots := 0, locals := 12 }
def QA42 (Z : State) (o0 : Addr) (o1 : Addr) (k_o1 : ClassId) (h0 : Heap) (v : Option Value) (h : Heap) : Prop := v = some (.int 0) ∧ h0 = h
theorem efA42 (o0 : Addr) (m : MethodId) : entryFrame m #[(.ref o0)] 1 = mkF m 0 #[.val (.ref o0)] [] := by first | (simp [entryFrame, mkF, argsToLocals, Value.category]; done) | rfl
theorem rmA42 (l : Launch) (Z : State) (a0 : Array Value) (hw : HW a0 Z) (ws : List Jvm.Cond) (o0 : Addr) (o1 : Addr) (k_o1 : ClassId) (h0 : Heap) (n0 : Nat) (Z0 : n0 ≤ h0.size) (E_o0 : Exa Z h0 o0 kW) (F_o0_words : Fld Z h0 o0 kW "words" "[J" (.ref o1)) (F_o0_work : Fld Z h0 o0 kW "work" "[J" .null) (g_o0 : n0 ≤ o0) (V_o1 : Arv Z h0 o1 k_o1 .long (2 : Int32) [(.long 3), (.long 0)] (.long 0)) (g_o1 : n0 ≤ o1) (n_o0_o1 : own_ne o0 o1) : OMet l Z ws (⟨"com/example/meterwise/meterwise/model/WholeNumber", "overflowed", "()Z"⟩ : MethodName) prog_137_method_8_code 1 (some .boolean) RA42 #[(.ref o0)] h0 n0 (QA42 Z o0 o1 k_o1 h0) := by
  refine OMet.of (own := "com/example/meterwise/meterwise/model/WholeNumber") rfl (plainFor_of_name pn_0) (efA42 o0) Z0 ?_
  intro p e s m below meth c T0 Y0 hnm
  refine Gl.aloadN Y0 rfl rfl dI_0 rfl ?_
  refine Gl.callP Y0 (tw_41 hw) (tw_42 hw) (tw_43 hw) (tw_2 hw) (tw_3 hw) (tw_44 hw) (by decide) E_o0 (rm10 l Z a0 hw [] o0 o1 k_o1 (3 : Int64) (0 : Int64) h0 n0 Y0.sz E_o0 F_o0_words V_o1) (a := o0) (argsL := []) (rest := []) rfl rfl (lenOf pd_4 rfl) rfl (by decide) (Nat.le_of_ble_eq_true rfl) (by decide) (by decide) dI_1 rfl (fun v1 T1 h1 Y1 q1 => ?_)
  obtain ⟨rfl, rfl⟩ := q1
  show Gl p e below _ (T1.setTop (mkF m 4 _ [(.long 0)]))
  refine Gl.ldcJ Y1 (tw_45 hw) dI_4 rfl ?_
  refine Gl.lcmpne Y1 dI_7 rfl dI_8 (by decide) rfl rfl (fun c8 => ?_) (fun c8 => ?_)
  rotate_left
  · exact absurd c8 (by decide)
  refine Gl.iconst Y1 (v := (0 : Int32)) (by decide) dI_22 rfl ?_
  exact Gl.retZ Y1 (by decide) (by decide) (x' := (0 : Int32)) (by decide) dI_23 ⟨rfl, rfl⟩
theorem dK_11 : decode prog_137_method_15_code 11 = .ok (.ifCond .eq 8, 3) := by decide +kernel
theorem dK_19 : decode prog_137_method_15_code 19 = .ok (.aload_n 0, 1) := by decide +kernel
theorem dK_20 : decode prog_137_method_15_code 20 = .ok (.invokevirtual 130, 3) := by decide +kernel
theorem tw_69 {a0 : Array Value} {Z : State} (hw : HW a0 Z) : (Jvm.Cond.methodLink "com/example/meterwise/meterwise/model/WholeNumber" (130 : Nat) ({ cls := "com/example/meterwise/meterwise/model/WholeNumber", name := "signum", desc := "()I" } : Jvm.MethodName)).before a0 Z = true := hw _ (List.mem_of_getElem? (i := 69) rfl)
theorem dN_0 : decode prog_137_method_9_code 0 = .ok (.aload_n 0, 1) := by decide +kernel
theorem dN_1 : decode prog_137_method_9_code 1 = .ok (.invokevirtual 78, 3) := by decide +kernel
theorem dN_4 : decode prog_137_method_9_code 4 = .ok (.lstore_n 1, 1) := by decide +kernel
theorem dN_5 : decode prog_137_method_9_code 5 = .ok (.lload_n 1, 1) := by decide +kernel
theorem dN_6 : decode prog_137_method_9_code 6 = .ok (.lconst 0, 1) := by decide +kernel
theorem dN_7 : decode prog_137_method_9_code 7 = .ok (.lcmp, 1) := by decide +kernel
theorem dN_8 : decode prog_137_method_9_code 8 = .ok (.ifCond .ge 5, 3) := by decide +kernel
theorem dN_11 : decode prog_137_method_9_code 11 = .ok (.iconst (-1), 1) := by decide +kernel
theorem dN_12 : decode prog_137_method_9_code 12 = .ok (.ireturn, 1) := by decide +kernel
def RA43 : Room := { frames := 1, cells := 0, slots := 0, locals := 12 }
def QA43 (Z : State) (o0 : Addr) (o1 : Addr) (k_o1 : ClassId) (h0 : Heap) (v : Option Value) (h : Heap) : Prop := v = some (.int (-1)) ∧ h0 = h
theorem efA43 (o0 : Addr) (m : MethodId) : entryFrame m #[(.ref o0)] 3 = mkF m 0 #[.val (.ref o0), .unset, .unset] [] := by first | (simp [entryFrame, mkF, argsToLocals, Value.category]; done) | rfl
theorem rmA43 (l : Launch) (Z : State) (a0 : Array Value) (hw : HW a0 Z) (ws : List Jvm.Cond) (o0 : Addr) (o1 : Addr) (k_o1 : ClassId) (h0 : Heap) (n0 : Nat) (Z0 : n0 ≤ h0.size) (E_o0 : Exa Z h0 o0 kW) (F_o0_words : Fld Z h0 o0 kW "words" "[J" (.ref o1)) (F_o0_work : Fld Z h0 o0 kW "work" "[J" .null) (g_o0 : n0 ≤ o0) (V_o1 : Arv Z h0 o1 k_o1 .long (2 : Int32) [(.long (-9223372036854775808)), (.long (-1))] (.long 0)) (g_o1 : n0 ≤ o1) (n_o0_o1 : own_ne o0 o1) : OMet l Z ws (⟨"com/example/meterwise/meterwise/model/WholeNumber", "signum", "()I"⟩ : MethodName) prog_137_method_9_code 3 (some .int) RA43 #[(.ref o0)] h0 n0 (QA43 Z o0 o1 k_o1 h0) := by
  refine OMet.of (own := "com/example/meterwise/meterwise/model/WholeNumber") rfl (plainFor_of_name pn_0) (efA43 o0) Z0 ?_
  intro p e s m below meth c T0 Y0 hnm
  refine Gl.aloadN Y0 rfl rfl dN_0 rfl ?_
  refine Gl.callP Y0 (tw_41 hw) (tw_42 hw) (tw_43 hw) (tw_2 hw) (tw_3 hw) (tw_44 hw) (by decide) E_o0 (rm10 l Z a0 hw [] o0 o1 k_o1 (-9223372036854775808 : Int64) (-1 : Int64) h0 n0 Y0.sz E_o0 F_o0_words V_o1) (a := o0) (argsL := []) (rest := []) rfl rfl (lenOf pd_4 rfl) rfl (by decide) (Nat.le_of_ble_eq_true rfl) (by decide) (by decide) dN_1 rfl (fun v1 T1 h1 Y1 q1 => ?_)
  obtain ⟨rfl, rfl⟩ := q1
  show Gl p e below _ (T1.setTop (mkF m 4 _ [(.long (-1))]))
  refine Gl.lstoreN Y1 (L' := #[.val (.ref o0), .val (.long (-1)), .second]) rfl dN_4 rfl ?_
  refine Gl.lloadN Y1 rfl dN_5 rfl ?_
  refine Gl.lconst Y1 (v := (0 : Int64)) (by decide) dN_6 rfl ?_
  refine Gl.lcmpge Y1 dN_7 rfl dN_8 (by decide) rfl rfl (fun c8 => ?_) (fun c8 => ?_)
  · exact absurd c8 (by decide)
  refine Gl.iconst Y1 (v := (-1 : Int32)) (by decide) dN_11 rfl ?_
  exact Gl.retI Y1 (by decide) (by decide)  dN_12 ⟨rfl, rfl⟩
theorem pd_10 : parseMethodDescriptor "()I" = some ⟨[], some .int⟩ := by decide +kernel
theorem tw_73 {a0 : Array Value} {Z : State} (hw : HW a0 Z) : (Jvm.Cond.code ({ cls := "com/example/meterwise/meterwise/model/WholeNumber", name := "signum", desc := "()I" } : Jvm.MethodName) prog_137_method_9_code (3 : Nat) (Option.some Jvm.ClassFile.FieldType.int)).before a0 Z = true := hw _ (List.mem_of_getElem? (i := 73) rfl)
theorem tw_70 {a0 : Array Value} {Z : State} (hw : HW a0 Z) : (Jvm.Cond.declares ({ cls := "com/example/meterwise/meterwise/model/WholeNumber", name := "signum", desc := "()I" } : Jvm.MethodName)).before a0 Z = true := hw _ (List.mem_of_getElem? (i := 70) rfl)
theorem tw_72 {a0 : Array Value} {Z : State} (hw : HW a0 Z) : (Jvm.Cond.selects "com/example/meterwise/meterwise/model/WholeNumber" ({ cls := "com/example/meterwise/meterwise/model/WholeNumber", name := "signum", desc := "()I" } : Jvm.MethodName) ({ cls := "com/example/meterwise/meterwise/model/WholeNumber", name := "signum", desc := "()I" } : Jvm.MethodName)).before a0 Z = true := hw _ (List.mem_of_getElem? (i := 72) rfl)
theorem tw_71 {a0 : Array Value} {Z : State} (hw : HW a0 Z) : (Jvm.Cond.instanceMethod ({ cls := "com/example/meterwise/meterwise/model/WholeNumber", name := "signum", desc := "()I" } : Jvm.MethodName)).before a0 Z = true := hw _ (List.mem_of_getElem? (i := 71) rfl)
theorem dK_23 : decode prog_137_method_15_code 23 = .ok (.ifCond .ne 5, 3) := by decide +kernel
theorem dK_28 : decode prog_137_method_15_code 28 = .ok (.aload_n 0, 1) := by decide +kernel
theorem dK_29 : decode prog_137_method_15_code 29 = .ok (.invokevirtual 133, 3) := by decide +kernel
theorem tw_74 {a0 : Array Value} {Z : State} (hw : HW a0 Z) : (Jvm.Cond.methodLink "com/example/meterwise/meterwise/model/WholeNumber" (133 : Nat) ({ cls := "com/example/meterwise/meterwise/model/WholeNumber", name := "work", desc := "()[J" } : Jvm.MethodName)).before a0 Z = true := hw _ (List.mem_of_getElem? (i := 74) rfl)
theorem dO_0 : decode prog_137_method_33_code 0 = .ok (.aload_n 0, 1) := by decide +kernel
theorem dO_1 : decode prog_137_method_33_code 1 = .ok (.getfield 224, 3) := by decide +kernel
theorem tw_78 {a0 : Array Value} {Z : State} (hw : HW a0 Z) : (Jvm.Cond.fieldLink "com/example/meterwise/meterwise/model/WholeNumber" (224 : Nat) "com/example/meterwise/meterwise/model/WholeNumber" "work" "[J").before a0 Z = true := hw _ (List.mem_of_getElem? (i := 78) rfl)
theorem dO_4 : decode prog_137_method_33_code 4 = .ok (.ifnonnull 18, 3) := by decide +kernel
theorem dO_7 : decode prog_137_method_33_code 7 = .ok (.aload_n 0, 1) := by decide +kernel
theorem dO_8 : decode prog_137_method_33_code 8 = .ok (.iconst 2, 1) := by decide +kernel
theorem dO_9 : decode prog_137_method_33_code 9 = .ok (.aload_n 0, 1) := by decide +kernel
theorem dO_10 : decode prog_137_method_33_code 10 = .ok (.getfield 26, 3) := by decide +kernel
theorem dO_13 : decode prog_137_method_33_code 13 = .ok (.arraylength, 1) := by decide +kernel
theorem dO_14 : decode prog_137_method_33_code 14 = .ok (.iconst 1, 1) := by decide +kernel
theorem dO_15 : decode prog_137_method_33_code 15 = .ok (.iadd, 1) := by decide +kernel
theorem dO_16 : decode prog_137_method_33_code 16 = .ok (.imul, 1) := by decide +kernel
theorem dO_17 : decode prog_137_method_33_code 17 = .ok (.newarray .long, 2) := by decide +kernel
theorem dO_19 : decode prog_137_method_33_code 19 = .ok (.putfield 224, 3) := by decide +kernel
theorem dO_22 : decode prog_137_method_33_code 22 = .ok (.aload_n 0, 1) := by decide +kernel
theorem dO_23 : decode prog_137_method_33_code 23 = .ok (.getfield 224, 3) := by decide +kernel
theorem dO_26 : decode prog_137_method_33_code 26 = .ok (.areturn, 1) := by decide +kernel
def RA44 : Room := { frames := 0, cells := 1, slots := 6, locals := 0 }
def QA44 (Z : State) (o0 : Addr) (o1 : Addr) (k_o1 : ClassId) (h0 : Heap) (v : Option Value) (h : Heap) : Prop := ∃ b17 : Addr, ∃ ck17 : ClassId, v = some (.ref b17) ∧ Keep h0 h [o0, o1] ∧ h0.size ≤ b17 ∧ Exa Z h o0 kW ∧ Fld Z h o0 kW "words" "[J" (.ref o1) ∧ Fld Z h o0 kW "work" "[J" (.ref b17) ∧ Arv Z h b17 ck17 .long (6 : Int32) [(.long 0), (.long 0), (.long 0), (.long 0), (.long 0), (.long 0)] (.long 0) ∧ Arv Z h o1 k_o1 .long (2 : Int32) [(.long (-9223372036854775808)), (.long (-1))] (.long 0)
theorem efA44 (o0 : Addr) (m : MethodId) : entryFrame m #[(.ref o0)] 1 = mkF m 0 #[.val (.ref o0)] [] := by first | (simp [entryFrame, mkF, argsToLocals, Value.category]; done) | rfl
theorem rmA44 (l : Launch) (Z : State) (a0 : Array Value) (hw : HW a0 Z) (ws : List Jvm.Cond) (o0 : Addr) (o1 : Addr) (k_o1 : ClassId) (h0 : Heap) (n0 : Nat) (Z0 : n0 ≤ h0.size) (E_o0 : Exa Z h0 o0 kW) (F_o0_words : Fld Z h0 o0 kW "words" "[J" (.ref o1)) (F_o0_work : Fld Z h0 o0 kW "work" "[J" .null) (g_o0 : n0 ≤ o0) (V_o1 : Arv Z h0 o1 k_o1 .long (2 : Int32) [(.long (-9223372036854775808)), (.long (-1))] (.long 0)) (g_o1 : n0 ≤ o1) (n_o0_o1 : own_ne o0 o1) : OMet l Z ws (⟨"com/example/meterwise/meterwise/model/WholeNumber", "work", "()[J"⟩ : MethodName) prog_137_method_33_code 1 (some (.array .long)) RA44 #[(.ref o0)] h0 n0 (QA44 Z o0 o1 k_o1 h0) := by
  refine OMet.of (own := "com/example/meterwise/meterwise/model/WholeNumber") rfl (plainFor_of_name pn_0) (efA44 o0) Z0 ?_
  intro p e s m below meth c T0 Y0 hnm
  refine Gl.aloadN Y0 rfl rfl dO_0 rfl ?_
  refine Gl.getF Y0 (host := "") (Or.inl (tw_78 hw)) Via.refl F_o0_work dO_1 rfl (fun T1 Y1 => ?_)
  refine Gl.ifnonnullN Y1 dO_4 rfl ?_
  refine Gl.aloadN Y1 rfl rfl dO_7 rfl ?_
  refine Gl.iconst Y1 (v := (2 : Int32)) (by decide) dO_8 rfl ?_
  refine Gl.aloadN Y1 rfl rfl dO_9 rfl ?_
  refine Gl.getF Y1 (host := "") (Or.inl (tw_15 hw)) Via.refl F_o0_words dO_10 rfl (fun T10 Y10 => ?_)
  refine Gl.arraylength Y10 V_o1 dO_13 rfl ?_
  refine Gl.iconst Y10 (v := (1 : Int32)) (by decide) dO_14 rfl ?_
  refine Gl.iadd Y10 (r := (3 : Int32)) (by decide) dO_15 rfl ?_
  refine Gl.imul Y10 (r := (6 : Int32)) (by decide) dO_16 rfl ?_
  refine Gl.newP Y10 6 (ty := .long) rfl (tw_14 hw) (by decide) (by decide) (Nat.le_of_ble_eq_true rfl) (Nat.le_of_ble_eq_true rfl) (Nat.le_of_ble_eq_true rfl) dO_17 rfl (fun T17 h17 b17 ck17 Y17 E17 g17 sb17 V17 => ?_)
  have V17 : Arv Z h17 b17 ck17 .long (6 : Int32) [(.long 0), (.long 0), (.long 0), (.long 0), (.long 0), (.long 0)] (.long 0) := V17.pad (pad_rep [] (.long 0) 6)
  have zb17 : h0.size ≤ b17 := Nat.le_trans (Keep.refl h0 [o0, o1]).1 (Nat.le_of_eq g17.symm)
  have K17 : Keep h0 h17 [o0, o1] := (Keep.refl h0 [o0, o1]).ext E17
  show Gl p e below _ (T17.setTop (mkF m 19 _ [(.ref b17), (.ref o0)]))
  have f1 := (Fld.ext E17 F_o0_work)
  have f2 := (Exa.ext E17 E_o0)
  refine Gl.putF Y17 (host := "") (Or.inl (tw_78 hw)) Via.refl f1 f2 (Or.inl (tw_79 hw)) (tw_2 hw) g_o0 (ty := (.array .long)) (by decide) rfl rfl dO_19 rfl (fun T19 h19 Y19 W19 => ?_)
  have f3 : Fld Z h19 o0 kW "work" "[J" (.ref b17) := Fld.same W19 f1
  have K19 : Keep h0 h19 [o0, o1] := K17.wr W19 (Or.inl (List.mem_of_getElem? (i := 0) rfl))
  refine Gl.aloadN Y19 rfl rfl dO_22 rfl ?_
  refine Gl.getF Y19 (host := "") (Or.inl (tw_78 hw)) Via.refl f3 dO_23 rfl (fun T23 Y23 => ?_)
  have f4 := (Exa.wr W19 f2)
  have f5 := (Fld.other W19 (Fld.ext E17 F_o0_words) (Or.inr (slot_ne (Or.inr (tw_16 hw)) (Or.inl (tw_79 hw)) (by decide) (t := (.array .long)) (t' := (.array .long)) (by decide) (by decide))))
  have f6 := (V17.other W19 (Ne.symm (Nat.ne_of_lt (Nat.lt_of_lt_of_eq E_o0.lt g17.symm))))
  have f7 := ((V_o1.ext E17).other W19 (Ne.symm n_o0_o1))
  exact Gl.retA Y23 (by decide) (by decide) rfl rfl dO_26 ⟨b17, ck17, rfl, K19, zb17, f4, f5, f3, f6, f7⟩
theorem pd_11 : parseMethodDescriptor "()[J" = some ⟨[], some (.array .long)⟩ := by decide +kernel
theorem tw_77 {a0 : Array Value} {Z : State} (hw : HW a0 Z) : (Jvm.Cond.code ({ cls := "com/example/meterwise/meterwise/model/WholeNumber", name := "work", desc := "()[J" } : Jvm.MethodName) prog_137_method_33_code (1 : Nat) (Option.some (Jvm.ClassFile.FieldType.array Jvm.ClassFile.FieldType.long))).before a0 Z = true := hw _ (List.mem_of_getElem? (i := 77) rfl)
theorem tw_75 {a0 : Array Value} {Z : State} (hw : HW a0 Z) : (Jvm.Cond.instanceMethod ({ cls := "com/example/meterwise/meterwise/model/WholeNumber", name := "work", desc := "()[J" } : Jvm.MethodName)).before a0 Z = true := hw _ (List.mem_of_getElem? (i := 75) rfl)
theorem tw_76 {a0 : Array Value} {Z : State} (hw : HW a0 Z) : (Jvm.Cond.privateMethod ({ cls := "com/example/meterwise/meterwise/model/WholeNumber", name := "work", desc := "()[J" } : Jvm.MethodName)).before a0 Z = true := hw _ (List.mem_of_getElem? (i := 76) rfl)
theorem dK_32 : decode prog_137_method_15_code 32 = .ok (.astore_n 2, 1) := by decide +kernel
theorem dK_33 : decode prog_137_method_15_code 33 = .ok (.aload_n 1, 1) := by decide +kernel
theorem dK_34 : decode prog_137_method_15_code 34 = .ok (.invokevirtual 78, 3) := by decide +kernel
theorem dK_37 : decode prog_137_method_15_code 37 = .ok (.lconst 0, 1) := by decide +kernel
theorem dK_38 : decode prog_137_method_15_code 38 = .ok (.lcmp, 1) := by decide +kernel
theorem dK_39 : decode prog_137_method_15_code 39 = .ok (.ifCond .ge 7, 3) := by decide +kernel
theorem dK_46 : decode prog_137_method_15_code 46 = .ok (.iconst 0, 1) := by decide +kernel
theorem dK_47 : decode prog_137_method_15_code 47 = .ok (.istore_n 3, 1) := by decide +kernel
theorem dK_48 : decode prog_137_method_15_code 48 = .ok (.iconst 0, 1) := by decide +kernel
theorem dK_49 : decode prog_137_method_15_code 49 = .ok (.istore 4, 2) := by decide +kernel
theorem dK_51 : decode prog_137_method_15_code 51 = .ok (.lconst 1, 1) := by decide +kernel
theorem dK_52 : decode prog_137_method_15_code 52 = .ok (.lstore 5, 2) := by decide +kernel
theorem dK_54 : decode prog_137_method_15_code 54 = .ok (.iconst 0, 1) := by decide +kernel
theorem dK_55 : decode prog_137_method_15_code 55 = .ok (.istore 7, 2) := by decide +kernel
theorem dK_57 : decode prog_137_method_15_code 57 = .ok (.iload 7, 2) := by decide +kernel
theorem dK_59 : decode prog_137_method_15_code 59 = .ok (.aload_n 1, 1) := by decide +kernel
theorem dK_60 : decode prog_137_method_15_code 60 = .ok (.getfield 26, 3) := by decide +kernel
theorem dK_63 : decode prog_137_method_15_code 63 = .ok (.arraylength, 1) := by decide +kernel
theorem dK_64 : decode prog_137_method_15_code 64 = .ok (.if_icmp .ge 84, 3) := by decide +kernel
theorem dK_67 : decode prog_137_method_15_code 67 = .ok (.aload_n 1, 1) := by decide +kernel
theorem dK_68 : decode prog_137_method_15_code 68 = .ok (.getfield 26, 3) := by decide +kernel
theorem dK_71 : decode prog_137_method_15_code 71 = .ok (.iload 7, 2) := by decide +kernel
theorem dK_73 : decode prog_137_method_15_code 73 = .ok (.laload, 1) := by decide +kernel
theorem dK_74 : decode prog_137_method_15_code 74 = .ok (.lstore 8, 2) := by decide +kernel
theorem dK_76 : decode prog_137_method_15_code 76 = .ok (.iload_n 3, 1) := by decide +kernel
theorem dK_77 : decode prog_137_method_15_code 77 = .ok (.ifCond .eq 31, 3) := by decide +kernel
theorem dK_108 : decode prog_137_method_15_code 108 = .ok (.lload 8, 2) := by decide +kernel
theorem dK_110 : decode prog_137_method_15_code 110 = .ok (.lconst 0, 1) := by decide +kernel
theorem dK_111 : decode prog_137_method_15_code 111 = .ok (.lcmp, 1) := by decide +kernel
theorem dK_112 : decode prog_137_method_15_code 112 = .ok (.ifCond .eq 10, 3) := by decide +kernel
theorem dK_115 : decode prog_137_method_15_code 115 = .ok (.iload 7, 2) := by decide +kernel
theorem dK_117 : decode prog_137_method_15_code 117 = .ok (.iconst 1, 1) := by decide +kernel
theorem dK_118 : decode prog_137_method_15_code 118 = .ok (.iadd, 1) := by decide +kernel
theorem dK_119 : decode prog_137_method_15_code 119 = .ok (.goto 5, 3) := by decide +kernel
theorem dK_124 : decode prog_137_method_15_code 124 = .ok (.istore 4, 2) := by decide +kernel
theorem dK_126 : decode prog_137_method_15_code 126 = .ok (.iload 7, 2) := by decide +kernel
theorem dK_128 : decode prog_137_method_15_code 128 = .ok (.aload_n 0, 1) := by decide +kernel
theorem dK_129 : decode prog_137_method_15_code 129 = .ok (.getfield 26, 3) := by decide +kernel
theorem dK_132 : decode prog_137_method_15_code 132 = .ok (.arraylength, 1) := by decide +kernel
theorem dK_133 : decode prog_137_method_15_code 133 = .ok (.if_icmp .gt 9, 3) := by decide +kernel
theorem dK_136 : decode prog_137_method_15_code 136 = .ok (.aload_n 2, 1) := by decide +kernel
theorem dK_137 : decode prog_137_method_15_code 137 = .ok (.iload 7, 2) := by decide +kernel
theorem dK_139 : decode prog_137_method_15_code 139 = .ok (.lload 8, 2) := by decide +kernel
theorem dK_141 : decode prog_137_method_15_code 141 = .ok (.lastore, 1) := by decide +kernel
theorem dK_142 : decode prog_137_method_15_code 142 = .ok (.iinc 7 1, 3) := by decide +kernel
theorem dK_145 : decode prog_137_method_15_code 145 = .ok (.goto (-88), 3) := by decide +kernel
theorem dK_122 : decode prog_137_method_15_code 122 = .ok (.iload 4, 2) := by decide +kernel
theorem dK_148 : decode prog_137_method_15_code 148 = .ok (.aload_n 0, 1) := by decide +kernel
theorem dK_149 : decode prog_137_method_15_code 149 = .ok (.invokevirtual 78, 3) := by decide +kernel
theorem dK_152 : decode prog_137_method_15_code 152 = .ok (.lconst 0, 1) := by decide +kernel
theorem dK_153 : decode prog_137_method_15_code 153 = .ok (.lcmp, 1) := by decide +kernel
theorem dK_154 : decode prog_137_method_15_code 154 = .ok (.ifCond .ge 7, 3) := by decide +kernel
theorem dK_157 : decode prog_137_method_15_code 157 = .ok (.iconst 1, 1) := by decide +kernel
theorem dK_158 : decode prog_137_method_15_code 158 = .ok (.goto 4, 3) := by decide +kernel
theorem dK_162 : decode prog_137_method_15_code 162 = .ok (.iload_n 3, 1) := by decide +kernel
theorem dK_163 : decode prog_137_method_15_code 163 = .ok (.if_icmp .eq 7, 3) := by decide +kernel
theorem dK_166 : decode prog_137_method_15_code 166 = .ok (.iconst 1, 1) := by decide +kernel
theorem dK_167 : decode prog_137_method_15_code 167 = .ok (.goto 4, 3) := by decide +kernel
theorem dK_171 : decode prog_137_method_15_code 171 = .ok (.istore 7, 2) := by decide +kernel
theorem dK_173 : decode prog_137_method_15_code 173 = .ok (.aload_n 0, 1) := by decide +kernel
theorem dK_174 : decode prog_137_method_15_code 174 = .ok (.invokevirtual 78, 3) := by decide +kernel
theorem dK_177 : decode prog_137_method_15_code 177 = .ok (.lconst 0, 1) := by decide +kernel
theorem dK_178 : decode prog_137_method_15_code 178 = .ok (.lcmp, 1) := by decide +kernel
theorem dK_179 : decode prog_137_method_15_code 179 = .ok (.ifCond .ge 8, 3) := by decide +kernel
theorem dK_182 : decode prog_137_method_15_code 182 = .ok (.aload_n 0, 1) := by decide +kernel
theorem dK_183 : decode prog_137_method_15_code 183 = .ok (.invokevirtual 137, 3) := by decide +kernel
theorem tw_80 {a0 : Array Value} {Z : State} (hw : HW a0 Z) : (Jvm.Cond.methodLink "com/example/meterwise/meterwise/model/WholeNumber" (137 : Nat) ({ cls := "com/example/meterwise/meterwise/model/WholeNumber", name := "negate", desc := "()Lcom/example/meterwise/meterwise/model/WholeNumber;" } : Jvm.MethodName)).before a0 Z = true := hw _ (List.mem_of_getElem? (i := 80) rfl)
theorem dP_0 : decode prog_137_method_19_code 0 = .ok (.lconst 1, 1) := by decide +kernel
theorem dP_1 : decode prog_137_method_19_code 1 = .ok (.lstore_n 1, 1) := by decide +kernel
theorem dP_2 : decode prog_137_method_19_code 2 = .ok (.iconst 0, 1) := by decide +kernel
theorem dP_3 : decode prog_137_method_19_code 3 = .ok (.istore_n 3, 1) := by decide +kernel
theorem dP_4 : decode prog_137_method_19_code 4 = .ok (.iload_n 3, 1) := by decide +kernel
theorem dP_5 : decode prog_137_method_19_code 5 = .ok (.aload_n 0, 1) := by decide +kernel
theorem dP_6 : decode prog_137_method_19_code 6 = .ok (.getfield 26, 3) := by decide +kernel
theorem dP_9 : decode prog_137_method_19_code 9 = .ok (.arraylength, 1) := by decide +kernel
theorem dP_10 : decode prog_137_method_19_code 10 = .ok (.if_icmp .ge 46, 3) := by decide +kernel
theorem dP_13 : decode prog_137_method_19_code 13 = .ok (.aload_n 0, 1) := by decide +kernel
theorem dP_14 : decode prog_137_method_19_code 14 = .ok (.getfield 26, 3) := by decide +kernel
theorem dP_17 : decode prog_137_method_19_code 17 = .ok (.iload_n 3, 1) := by decide +kernel
theorem dP_18 : decode prog_137_method_19_code 18 = .ok (.aload_n 0, 1) := by decide +kernel
theorem dP_19 : decode prog_137_method_19_code 19 = .ok (.getfield 26, 3) := by decide +kernel
theorem dP_22 : decode prog_137_method_19_code 22 = .ok (.iload_n 3, 1) := by decide +kernel
theorem dP_23 : decode prog_137_method_19_code 23 = .ok (.laload, 1) := by decide +kernel
theorem dP_24 : decode prog_137_method_19_code 24 = .ok (.ldc2_w 128, 3) := by decide +kernel
theorem tw_85 {a0 : Array Value} {Z : State} (hw : HW a0 Z) : (Jvm.Cond.constantLong "com/example/meterwise/meterwise/model/WholeNumber" (128 : Nat) (-1 : Int64)).before a0 Z = true := hw _ (List.mem_of_getElem? (i := 85) rfl)
theorem dP_27 : decode prog_137_method_19_code 27 = .ok (.lxor, 1) := by decide +kernel
theorem dP_28 : decode prog_137_method_19_code 28 = .ok (.lload_n 1, 1) := by decide +kernel
theorem dP_29 : decode prog_137_method_19_code 29 = .ok (.ladd, 1) := by decide +kernel
theorem dP_30 : decode prog_137_method_19_code 30 = .ok (.lastore, 1) := by decide +kernel
theorem dP_31 : decode prog_137_method_19_code 31 = .ok (.lload_n 1, 1) := by decide +kernel
theorem dP_32 : decode prog_137_method_19_code 32 = .ok (.aload_n 0, 1) := by decide +kernel
theorem dP_33 : decode prog_137_method_19_code 33 = .ok (.getfield 26, 3) := by decide +kernel
theorem dP_36 : decode prog_137_method_19_code 36 = .ok (.iload_n 3, 1) := by decide +kernel
theorem dP_37 : decode prog_137_method_19_code 37 = .ok (.laload, 1) := by decide +kernel
theorem dP_38 : decode prog_137_method_19_code 38 = .ok (.lconst 0, 1) := by decide +kernel
theorem dP_39 : decode prog_137_method_19_code 39 = .ok (.lcmp, 1) := by decide +kernel
theorem dP_40 : decode prog_137_method_19_code 40 = .ok (.ifCond .ne 7, 3) := by decide +kernel
theorem dP_47 : decode prog_137_method_19_code 47 = .ok (.lconst 0, 1) := by decide +kernel
theorem dP_48 : decode prog_137_method_19_code 48 = .ok (.land, 1) := by decide +kernel
theorem dP_49 : decode prog_137_method_19_code 49 = .ok (.lstore_n 1, 1) := by decide +kernel
theorem dP_50 : decode prog_137_method_19_code 50 = .ok (.iinc 3 1, 3) := by decide +kernel
theorem dP_53 : decode prog_137_method_19_code 53 = .ok (.goto (-49), 3) := by decide +kernel
theorem dP_43 : decode prog_137_method_19_code 43 = .ok (.lconst 1, 1) := by decide +kernel
theorem dP_44 : decode prog_137_method_19_code 44 = .ok (.goto 4, 3) := by decide +kernel
theorem dP_56 : decode prog_137_method_19_code 56 = .ok (.aload_n 0, 1) := by decide +kernel
theorem dP_57 : decode prog_137_method_19_code 57 = .ok (.areturn, 1) := by decide +kernel
def RA45 : Room := { frames := 0, cells := 0, slots := 0, locals := 0 }
def QA45 (Z : State) (o0 : Addr) (o1 : Addr) (o2 : Addr) (k_o1 : ClassId) (k_o2 : ClassId) (h0 : Heap) (v : Option Value) (h : Heap) : Prop := v = some (.ref o0) ∧ Keep h0 h [o0, o1, o2] ∧ Exa Z h o0 kW ∧ Fld Z h o0 kW "words" "[J" (.ref o1) ∧ Fld Z h o0 kW "work" "[J" (.ref o2) ∧ Arv Z h o1 k_o1 .long (2 : Int32) [(.long (-9223372036854775808)), (.long 0)] (.long 0) ∧ Arv Z h o2 k_o2 .long (6 : Int32) [(.long 3), (.long 0), (.long 0), (.long 0), (.long 0), (.long 0)] (.long 0)
theorem efA45 (o0 : Addr) (m : MethodId) : entryFrame m #[(.ref o0)] 4 = mkF m 0 #[.val (.ref o0), .unset, .unset, .unset] [] := by first | (simp [entryFrame, mkF, argsToLocals, Value.category]; done) | rfl
theorem rmA45 (l : Launch) (Z : State) (a0 : Array Value) (hw : HW a0 Z) (ws : List Jvm.Cond) (o0 : Addr) (o1 : Addr) (o2 : Addr) (k_o1 : ClassId) (k_o2 : ClassId) (h0 : Heap) (n0 : Nat) (Z0 : n0 ≤ h0.size) (E_o0 : Exa Z h0 o0 kW) (F_o0_words : Fld Z h0 o0 kW "words" "[J" (.ref o1)) (F_o0_work : Fld Z h0 o0 kW "work" "[J" (.ref o2)) (g_o0 : n0 ≤ o0) (V_o1 : Arv Z h0 o1 k_o1 .long (2 : Int32) [(.long (-9223372036854775808)), (.long (-1))] (.long 0)) (g_o1 : n0 ≤ o1) (V_o2 : Arv Z h0 o2 k_o2 .long (6 : Int32) [(.long 3), (.long 0), (.long 0), (.long 0), (.long 0), (.long 0)] (.long 0)) (g_o2 : n0 ≤ o2) (n_o0_o1 : own_ne o0 o1) (n_o0_o2 : own_ne o0 o2) (n_o1_o2 : own_ne o1 o2) : OMet l Z ws (⟨"com/example/meterwise/meterwise/model/WholeNumber", "negate", "()Lcom/example/meterwise/meterwise/model/WholeNumber;"⟩ : MethodName) prog_137_method_19_code 4 (some (.object "com/example/meterwise/meterwise/model/WholeNumber")) RA45 #[(.ref o0)] h0 n0 (QA45 Z o0 o1 o2 k_o1 k_o2 h0) := by
  refine OMet.of (own := "com/example/meterwise/meterwise/model/WholeNumber") rfl (plainFor_of_name pn_0) (efA45 o0) Z0 ?_
  intro p e s m below meth c T0 Y0 hnm
  refine Gl.lconst Y0 (v := (1 : Int64)) (by decide) dP_0 rfl ?_
  refine Gl.lstoreN Y0 (L' := #[.val (.ref o0), .val (.long 1), .second, .unset]) rfl dP_1 rfl ?_
  refine Gl.iconst Y0 (v := (0 : Int32)) (by decide) dP_2 rfl ?_
  refine Gl.istoreN Y0 (L' := #[.val (.ref o0), .val (.long 1), .second, .val (.int 0)]) rfl dP_3 rfl ?_
  refine Gl.iloadN Y0 rfl dP_4 rfl ?_
  refine Gl.aloadN Y0 rfl rfl dP_5 rfl ?_
  refine Gl.getF Y0 (host := "") (Or.inl (tw_15 hw)) Via.refl F_o0_words dP_6 rfl (fun T6 Y6 => ?_)
  refine Gl.arraylength Y6 V_o1 dP_9 rfl ?_
  refine Gl.icmpge Y6 dP_10 (by decide) rfl rfl (fun c10 => ?_) (fun c10 => ?_)
  · exact absurd c10 (by decide)
  refine Gl.aloadN Y6 rfl rfl dP_13 rfl ?_
  refine Gl.getF Y6 (host := "") (Or.inl (tw_15 hw)) Via.refl F_o0_words dP_14 rfl (fun T14 Y14 => ?_)
  refine Gl.iloadN Y14 rfl dP_17 rfl ?_
  refine Gl.aloadN Y14 rfl rfl dP_18 rfl ?_
  refine Gl.getF Y14 (host := "") (Or.inl (tw_15 hw)) Via.refl F_o0_words dP_19 rfl (fun T19 Y19 => ?_)
  refine Gl.iloadN Y19 rfl dP_22 rfl ?_
  refine Gl.laload Y19 V_o1 ⟨by decide, by decide⟩ (v := (.long (-9223372036854775808))) rfl dP_23 rfl ?_
  refine Gl.ldcJ Y19 (tw_85 hw) dP_24 rfl ?_
  refine Gl.lxor Y19 (r := (9223372036854775807 : Int64)) (by decide) dP_27 rfl ?_
  refine Gl.lloadN Y19 rfl dP_28 rfl ?_
  refine Gl.ladd Y19 (r := (-9223372036854775808 : Int64)) (by decide) dP_29 rfl ?_
  refine Gl.lastore Y19 V_o1 (v := (.long (-9223372036854775808))) rfl ⟨by decide, by decide⟩ (ix := 0) rfl (Nat.le_of_ble_eq_true rfl) g_o1 dP_30 rfl (fun T30 h30 Y30 W30 A30 => ?_)
  have A30 : Arv Z h30 o1 k_o1 .long (2 : Int32) [(.long (-9223372036854775808)), (.long (-1))] (.long 0) := A30
  have K30 : Keep h0 h30 [o0, o1, o2] := (Keep.refl h0 [o0, o1, o2]).wr W30 (Or.inl (List.mem_of_getElem? (i := 1) rfl))
  show Gl p e below _ (T30.setTop (mkF m 31 _ []))
  refine Gl.lloadN Y30 rfl dP_31 rfl ?_
  refine Gl.aloadN Y30 rfl rfl dP_32 rfl ?_
  have f1 := (Fld.other W30 F_o0_words (Or.inl n_o0_o1))
  refine Gl.getF Y30 (host := "") (Or.inl (tw_15 hw)) Via.refl f1 dP_33 rfl (fun T33 Y33 => ?_)
  refine Gl.iloadN Y33 rfl dP_36 rfl ?_
  refine Gl.laload Y33 A30 ⟨by decide, by decide⟩ (v := (.long (-9223372036854775808))) rfl dP_37 rfl ?_
  refine Gl.lconst Y33 (v := (0 : Int64)) (by decide) dP_38 rfl ?_
  refine Gl.lcmpne Y33 dP_39 rfl dP_40 (by decide) rfl rfl (fun c40 => ?_) (fun c40 => ?_)
  rotate_left
  · exact absurd c40 (by decide)
  refine Gl.lconst Y33 (v := (0 : Int64)) (by decide) dP_47 rfl ?_
  refine Gl.land Y33 (r := (0 : Int64)) (by decide) dP_48 rfl ?_
  refine Gl.lstoreN Y33 (L' := #[.val (.ref o0), .val (.long 0), .second, .val (.int 0)]) rfl dP_49 rfl ?_
  refine Gl.iinc Y33 rfl (r := (1 : Int32)) (by decide) (L' := #[.val (.ref o0), .val (.long 0), .second, .val (.int 1)]) rfl dP_50 rfl ?_
  refine Gl.goto Y33 dP_53 (by decide) rfl ?_
  refine Gl.iloadN Y33 rfl dP_4 rfl ?_
  refine Gl.aloadN Y33 rfl rfl dP_5 rfl ?_
  refine Gl.getF Y33 (host := "") (Or.inl (tw_15 hw)) Via.refl f1 dP_6 rfl (fun T6_2 Y6_2 => ?_)
  refine Gl.arraylength Y6_2 A30 dP_9 rfl ?_
  refine Gl.icmpge Y6_2 dP_10 (by decide) rfl rfl (fun c10_2 => ?_) (fun c10_2 => ?_)
  · exact absurd c10_2 (by decide)
  refine Gl.aloadN Y6_2 rfl rfl dP_13 rfl ?_
  refine Gl.getF Y6_2 (host := "") (Or.inl (tw_15 hw)) Via.refl f1 dP_14 rfl (fun T14_2 Y14_2 => ?_)
  refine Gl.iloadN Y14_2 rfl dP_17 rfl ?_
  refine Gl.aloadN Y14_2 rfl rfl dP_18 rfl ?_
  refine Gl.getF Y14_2 (host := "") (Or.inl (tw_15 hw)) Via.refl f1 dP_19 rfl (fun T19_2 Y19_2 => ?_)
  refine Gl.iloadN Y19_2 rfl dP_22 rfl ?_
  refine Gl.laload Y19_2 A30 ⟨by decide, by decide⟩ (v := (.long (-1))) rfl dP_23 rfl ?_
  refine Gl.ldcJ Y19_2 (tw_85 hw) dP_24 rfl ?_
  refine Gl.lxor Y19_2 (r := (0 : Int64)) (by decide) dP_27 rfl ?_
  refine Gl.lloadN Y19_2 rfl dP_28 rfl ?_
  refine Gl.ladd Y19_2 (r := (0 : Int64)) (by decide) dP_29 rfl ?_
  refine Gl.lastore Y19_2 A30 (v := (.long 0)) rfl ⟨by decide, by decide⟩ (ix := 1) rfl (Nat.le_of_ble_eq_true rfl) g_o1 dP_30 rfl (fun T30_2 h30_2 Y30_2 W30_2 A30_2 => ?_)
  have A30_2 : Arv Z h30_2 o1 k_o1 .long (2 : Int32) [(.long (-9223372036854775808)), (.long 0)] (.long 0) := A30_2
  have K30_2 : Keep h0 h30_2 [o0, o1, o2] := K30.wr W30_2 (Or.inl (List.mem_of_getElem? (i := 1) rfl))
  show Gl p e below _ (T30_2.setTop (mkF m 31 _ []))
  refine Gl.lloadN Y30_2 rfl dP_31 rfl ?_
  refine Gl.aloadN Y30_2 rfl rfl dP_32 rfl ?_
  have f2 := (Fld.other W30_2 f1 (Or.inl n_o0_o1))
  refine Gl.getF Y30_2 (host := "") (Or.inl (tw_15 hw)) Via.refl f2 dP_33 rfl (fun T33_2 Y33_2 => ?_)
  refine Gl.iloadN Y33_2 rfl dP_36 rfl ?_
  refine Gl.laload Y33_2 A30_2 ⟨by decide, by decide⟩ (v := (.long 0)) rfl dP_37 rfl ?_
  refine Gl.lconst Y33_2 (v := (0 : Int64)) (by decide) dP_38 rfl ?_
  refine Gl.lcmpne Y33_2 dP_39 rfl dP_40 (by decide) rfl rfl (fun c40_2 => ?_) (fun c40_2 => ?_)
  · exact absurd c40_2 (by decide)
  refine Gl.lconst Y33_2 (v := (1 : Int64)) (by decide) dP_43 rfl ?_
  refine Gl.goto Y33_2 dP_44 (by decide) rfl ?_
  refine Gl.land Y33_2 (r := (0 : Int64)) (by decide) dP_48 rfl ?_
  refine Gl.lstoreN Y33_2 (L' := #[.val (.ref o0), .val (.long 0), .second, .val (.int 1)]) rfl dP_49 rfl ?_
  refine Gl.iinc Y33_2 rfl (r := (2 : Int32)) (by decide) (L' := #[.val (.ref o0), .val (.long 0), .second, .val (.int 2)]) rfl dP_50 rfl ?_
  refine Gl.goto Y33_2 dP_53 (by decide) rfl ?_
  refine Gl.iloadN Y33_2 rfl dP_4 rfl ?_
  refine Gl.aloadN Y33_2 rfl rfl dP_5 rfl ?_
  refine Gl.getF Y33_2 (host := "") (Or.inl (tw_15 hw)) Via.refl f2 dP_6 rfl (fun T6_3 Y6_3 => ?_)
  refine Gl.arraylength Y6_3 A30_2 dP_9 rfl ?_
  refine Gl.icmpge Y6_3 dP_10 (by decide) rfl rfl (fun c10_3 => ?_) (fun c10_3 => ?_)
  rotate_left
  · exact absurd c10_3 (by decide)
  refine Gl.aloadN Y6_3 rfl rfl dP_56 rfl ?_
  have f3 := (Exa.wr W30_2 (Exa.wr W30 E_o0))
  have f4 := (Fld.other W30_2 (Fld.other W30 F_o0_work (Or.inl n_o0_o1)) (Or.inl n_o0_o1))
  have f5 := ((V_o2.other W30 (Ne.symm n_o1_o2)).other W30_2 (Ne.symm n_o1_o2))
  exact Gl.retA Y6_3 (by decide) (by decide) rfl rfl dP_57 ⟨rfl, K30_2, f3, f2, f4, A30_2, f5⟩
theorem tw_84 {a0 : Array Value} {Z : State} (hw : HW a0 Z) : (Jvm.Cond.code ({ cls := "com/example/meterwise/meterwise/model/WholeNumber", name := "negate", desc := "()Lcom/example/meterwise/meterwise/model/WholeNumber;" } : Jvm.MethodName) prog_137_method_19_code (4 : Nat) (Option.some (Jvm.ClassFile.FieldType.object "com/example/meterwise/meterwise/model/WholeNumber"))).before a0 Z = true := hw _ (List.mem_of_getElem? (i := 84) rfl)
theorem tw_81 {a0 : Array Value} {Z : State} (hw : HW a0 Z) : (Jvm.Cond.declares ({ cls := "com/example/meterwise/meterwise/model/WholeNumber", name := "negate", desc := "()Lcom/example/meterwise/meterwise/model/WholeNumber;" } : Jvm.MethodName)).before a0 Z = true := hw _ (List.mem_of_getElem? (i := 81) rfl)
theorem tw_83 {a0 : Array Value} {Z : State} (hw : HW a0 Z) : (Jvm.Cond.selects "com/example/meterwise/meterwise/model/WholeNumber" ({ cls := "com/example/meterwise/meterwise/model/WholeNumber", name := "negate", desc := "()Lcom/example/meterwise/meterwise/model/WholeNumber;" } : Jvm.MethodName) ({ cls := "com/example/meterwise/meterwise/model/WholeNumber", name := "negate", desc := "()Lcom/example/meterwise/meterwise/model/WholeNumber;" } : Jvm.MethodName)).before a0 Z = true := hw _ (List.mem_of_getElem? (i := 83) rfl)
theorem tw_82 {a0 : Array Value} {Z : State} (hw : HW a0 Z) : (Jvm.Cond.instanceMethod ({ cls := "com/example/meterwise/meterwise/model/WholeNumber", name := "negate", desc := "()Lcom/example/meterwise/meterwise/model/WholeNumber;" } : Jvm.MethodName)).before a0 Z = true := hw _ (List.mem_of_getElem? (i := 82) rfl)
theorem dK_186 : decode prog_137_method_15_code 186 = .ok (.pop, 1) := by decide +kernel
theorem dK_187 : decode prog_137_method_15_code 187 = .ok (.iload 4, 2) := by decide +kernel
theorem dK_189 : decode prog_137_method_15_code 189 = .ok (.iconst 1, 1) := by decide +kernel
theorem dK_190 : decode prog_137_method_15_code 190 = .ok (.if_icmp .ne 13, 3) := by decide +kernel
theorem dK_193 : decode prog_137_method_15_code 193 = .ok (.aload_n 0, 1) := by decide +kernel
theorem dK_194 : decode prog_137_method_15_code 194 = .ok (.aload_n 2, 1) := by decide +kernel
theorem dK_195 : decode prog_137_method_15_code 195 = .ok (.iconst 0, 1) := by decide +kernel
theorem dK_196 : decode prog_137_method_15_code 196 = .ok (.laload, 1) := by decide +kernel
theorem dK_197 : decode prog_137_method_15_code 197 = .ok (.invokevirtual 140, 3) := by decide +kernel
theorem tw_86 {a0 : Array Value} {Z : State} (hw : HW a0 Z) : (Jvm.Cond.methodLink "com/example/meterwise/meterwise/model/WholeNumber" (140 : Nat) ({ cls := "com/example/meterwise/meterwise/model/WholeNumber", name := "multiplyMagnitude", desc := "(J)Z" } : Jvm.MethodName)).before a0 Z = true := hw _ (List.mem_of_getElem? (i := 86) rfl)
theorem dQ_0 : decode prog_137_method_18_code 0 = .ok (.lconst 0, 1) := by decide +kernel
theorem dQ_1 : decode prog_137_method_18_code 1 = .ok (.lstore_n 3, 1) := by decide +kernel
theorem dQ_2 : decode prog_137_method_18_code 2 = .ok (.iconst 0, 1) := by decide +kernel
theorem dQ_3 : decode prog_137_method_18_code 3 = .ok (.istore 5, 2) := by decide +kernel
theorem dQ_5 : decode prog_137_method_18_code 5 = .ok (.iload 5, 2) := by decide +kernel
theorem dQ_7 : decode prog_137_method_18_code 7 = .ok (.aload_n 0, 1) := by decide +kernel
theorem dQ_8 : decode prog_137_method_18_code 8 = .ok (.getfield 26, 3) := by decide +kernel
theorem dQ_11 : decode prog_137_method_18_code 11 = .ok (.arraylength, 1) := by decide +kernel
theorem dQ_12 : decode prog_137_method_18_code 12 = .ok (.if_icmp .ge 71, 3) := by decide +kernel
theorem dQ_15 : decode prog_137_method_18_code 15 = .ok (.aload_n 0, 1) := by decide +kernel
theorem dQ_16 : decode prog_137_method_18_code 16 = .ok (.getfield 26, 3) := by decide +kernel
theorem dQ_19 : decode prog_137_method_18_code 19 = .ok (.iload 5, 2) := by decide +kernel
theorem dQ_21 : decode prog_137_method_18_code 21 = .ok (.laload, 1) := by decide +kernel
theorem dQ_22 : decode prog_137_method_18_code 22 = .ok (.lload_n 1, 1) := by decide +kernel
theorem dQ_23 : decode prog_137_method_18_code 23 = .ok (.lmul, 1) := by decide +kernel
theorem dQ_24 : decode prog_137_method_18_code 24 = .ok (.lstore 6, 2) := by decide +kernel
theorem dQ_26 : decode prog_137_method_18_code 26 = .ok (.aload_n 0, 1) := by decide +kernel
theorem dQ_27 : decode prog_137_method_18_code 27 = .ok (.getfield 26, 3) := by decide +kernel
theorem dQ_30 : decode prog_137_method_18_code 30 = .ok (.iload 5, 2) := by decide +kernel
theorem dQ_32 : decode prog_137_method_18_code 32 = .ok (.laload, 1) := by decide +kernel
theorem dQ_33 : decode prog_137_method_18_code 33 = .ok (.lload_n 1, 1) := by decide +kernel
theorem dQ_34 : decode prog_137_method_18_code 34 = .ok (.invokestatic 148, 3) := by decide +kernel
theorem tw_90 {a0 : Array Value} {Z : State} (hw : HW a0 Z) : (Jvm.Cond.methodLink "com/example/meterwise/meterwise/model/WholeNumber" (148 : Nat) ({ cls := "com/example/meterwise/meterwise/model/WholeNumber", name := "unsignedMultiplyHigh", desc := "(JJ)J" } : Jvm.MethodName)).before a0 Z = true := hw _ (List.mem_of_getElem? (i := 90) rfl)
theorem dR_0 : decode prog_137_method_34_code 0 = .ok (.lload_n 0, 1) := by decide +kernel
theorem dR_1 : decode prog_137_method_34_code 1 = .ok (.lload_n 2, 1) := by decide +kernel
theorem dR_2 : decode prog_137_method_34_code 2 = .ok (.invokestatic 226, 3) := by decide +kernel
theorem tw_93 {a0 : Array Value} {Z : State} (hw : HW a0 Z) : (Jvm.Cond.methodLink "com/example/meterwise/meterwise/model/WholeNumber" (226 : Nat) ({ cls := "java/lang/Math", name := "multiplyHigh", desc := "(JJ)J" } : Jvm.MethodName)).before a0 Z = true := hw _ (List.mem_of_getElem? (i := 93) rfl)
theorem dS_0 : decode jdk_29_method_45_code 0 = .ok (.lload_n 0, 1) := by decide +kernel
theorem dS_1 : decode jdk_29_method_45_code 1 = .ok (.bipush 32, 2) := by decide +kernel
theorem dS_3 : decode jdk_29_method_45_code 3 = .ok (.lshr, 1) := by decide +kernel
theorem dS_4 : decode jdk_29_method_45_code 4 = .ok (.lstore 4, 2) := by decide +kernel
theorem dS_6 : decode jdk_29_method_45_code 6 = .ok (.lload_n 0, 1) := by decide +kernel
theorem dS_7 : decode jdk_29_method_45_code 7 = .ok (.ldc2_w 138, 3) := by decide +kernel
theorem tw_97 {a0 : Array Value} {Z : State} (hw : HW a0 Z) : (Jvm.Cond.constantLong "java/lang/Math" (138 : Nat) (4294967295 : Int64)).before a0 Z = true := hw _ (List.mem_of_getElem? (i := 97) rfl)
theorem dS_10 : decode jdk_29_method_45_code 10 = .ok (.land, 1) := by decide +kernel
theorem dS_11 : decode jdk_29_method_45_code 11 = .ok (.lstore 6, 2) := by decide +kernel
theorem dS_13 : decode jdk_29_method_45_code 13 = .ok (.lload_n 2, 1) := by decide +kernel
theorem dS_14 : decode jdk_29_method_45_code 14 = .ok (.bipush 32, 2) := by decide +kernel
theorem dS_16 : decode jdk_29_method_45_code 16 = .ok (.lshr, 1) := by decide +kernel
theorem dS_17 : decode jdk_29_method_45_code 17 = .ok (.lstore 8, 2) := by decide +kernel
theorem dS_19 : decode jdk_29_method_45_code 19 = .ok (.lload_n 2, 1) := by decide +kernel
theorem dS_20 : decode jdk_29_method_45_code 20 = .ok (.ldc2_w 138, 3) := by decide +kernel
theorem dS_23 : decode jdk_29_method_45_code 23 = .ok (.land, 1) := by decide +kernel
theorem dS_24 : decode jdk_29_method_45_code 24 = .ok (.lstore 10, 2) := by decide +kernel
theorem dS_26 : decode jdk_29_method_45_code 26 = .ok (.lload 6, 2) := by decide +kernel
theorem dS_28 : decode jdk_29_method_45_code 28 = .ok (.lload 10, 2) := by decide +kernel
theorem dS_30 : decode jdk_29_method_45_code 30 = .ok (.lmul, 1) := by decide +kernel
theorem dS_31 : decode jdk_29_method_45_code 31 = .ok (.lstore 12, 2) := by decide +kernel
theorem dS_33 : decode jdk_29_method_45_code 33 = .ok (.lload 4, 2) := by decide +kernel
theorem dS_35 : decode jdk_29_method_45_code 35 = .ok (.lload 10, 2) := by decide +kernel
theorem dS_37 : decode jdk_29_method_45_code 37 = .ok (.lmul, 1) := by decide +kernel
theorem dS_38 : decode jdk_29_method_45_code 38 = .ok (.lload 12, 2) := by decide +kernel
theorem dS_40 : decode jdk_29_method_45_code 40 = .ok (.bipush 32, 2) := by decide +kernel
theorem dS_42 : decode jdk_29_method_45_code 42 = .ok (.lushr, 1) := by decide +kernel
theorem dS_43 : decode jdk_29_method_45_code 43 = .ok (.ladd, 1) := by decide +kernel
theorem dS_44 : decode jdk_29_method_45_code 44 = .ok (.lstore 14, 2) := by decide +kernel
theorem dS_46 : decode jdk_29_method_45_code 46 = .ok (.lload 14, 2) := by decide +kernel
theorem dS_48 : decode jdk_29_method_45_code 48 = .ok (.ldc2_w 138, 3) := by decide +kernel
theorem dS_51 : decode jdk_29_method_45_code 51 = .ok (.land, 1) := by decide +kernel
theorem dS_52 : decode jdk_29_method_45_code 52 = .ok (.lstore 16, 2) := by decide +kernel
theorem dS_54 : decode jdk_29_method_45_code 54 = .ok (.lload 14, 2) := by decide +kernel
theorem dS_56 : decode jdk_29_method_45_code 56 = .ok (.bipush 32, 2) := by decide +kernel
theorem dS_58 : decode jdk_29_method_45_code 58 = .ok (.lshr, 1) := by decide +kernel
theorem dS_59 : decode jdk_29_method_45_code 59 = .ok (.lstore 18, 2) := by decide +kernel
theorem dS_61 : decode jdk_29_method_45_code 61 = .ok (.lload 16, 2) := by decide +kernel
theorem dS_63 : decode jdk_29_method_45_code 63 = .ok (.lload 6, 2) := by decide +kernel
theorem dS_65 : decode jdk_29_method_45_code 65 = .ok (.lload 8, 2) := by decide +kernel
theorem dS_67 : decode jdk_29_method_45_code 67 = .ok (.lmul, 1) := by decide +kernel
theorem dS_68 : decode jdk_29_method_45_code 68 = .ok (.ladd, 1) := by decide +kernel
theorem dS_69 : decode jdk_29_method_45_code 69 = .ok (.lstore 16, 2) := by decide +kernel
theorem dS_71 : decode jdk_29_method_45_code 71 = .ok (.lload 4, 2) := by decide +kernel
theorem dS_73 : decode jdk_29_method_45_code 73 = .ok (.lload 8, 2) := by decide +kernel
theorem dS_75 : decode jdk_29_method_45_code 75 = .ok (.lmul, 1) := by decide +kernel
theorem dS_76 : decode jdk_29_method_45_code 76 = .ok (.lload 18, 2) := by decide +kernel
theorem dS_78 : decode jdk_29_method_45_code 78 = .ok (.ladd, 1) := by decide +kernel
theorem dS_79 : decode jdk_29_method_45_code 79 = .ok (.lload 16, 2) := by decide +kernel
theorem dS_81 : decode jdk_29_method_45_code 81 = .ok (.bipush 32, 2) := by decide +kernel
theorem dS_83 : decode jdk_29_method_45_code 83 = .ok (.lshr, 1) := by decide +kernel
theorem dS_84 : decode jdk_29_method_45_code 84 = .ok (.ladd, 1) := by decide +kernel
theorem dS_85 : decode jdk_29_method_45_code 85 = .ok (.lreturn, 1) := by decide +kernel
def RA48 : Room := { frames := 0, cells := 0, slots := 0, locals := 0 }
def QA48 (Z : State) (h0 : Heap) (v : Option Value) (h : Heap) : Prop := v = some (.long (-2)) ∧ h0 = h
theorem efA48 (m : MethodId) : entryFrame m #[(.long (-9223372036854775808)), (.long 3)] 20 = mkF m 0 #[.val (.long (-9223372036854775808)), .second, .val (.long 3), .second, .unset, .unset, .unset, .unset, .unset, .unset, .unset, .unset, .unset, .unset, .unset, .unset, .unset, .unset, .unset, .unset] [] := by first | (simp [entryFrame, mkF, argsToLocals, Value.category]; done) | rfl
theorem rmA48 (l : Launch) (Z : State) (a0 : Array Value) (hw : HW a0 Z) (ws : List Jvm.Cond) (h0 : Heap) (n0 : Nat) (Z0 : n0 ≤ h0.size) : OMet l Z ws (⟨"java/lang/Math", "multiplyHigh", "(JJ)J"⟩ : MethodName) jdk_29_method_45_code 20 (some .long) RA48 #[(.long (-9223372036854775808)), (.long 3)] h0 n0 (QA48 Z h0) := by
  refine OMet.of (own := "java/lang/Math") rfl (Jvm.Free.JP.mathPlain rfl (by decide +kernel)) (efA48) Z0 ?_
  intro p e s m below meth c T0 Y0 hnm
  refine Gl.lloadN Y0 rfl dS_0 rfl ?_
  refine Gl.bipush Y0 (v := (32 : Int32)) (by decide) dS_1 rfl ?_
  refine Gl.lshr Y0 (r := (-2147483648 : Int64)) (by decide) dS_3 rfl ?_
  refine Gl.lstore Y0 (L' := #[.val (.long (-9223372036854775808)), .second, .val (.long 3), .second, .val (.long (-2147483648)), .second, .unset, .unset, .unset, .unset, .unset, .unset, .unset, .unset, .unset, .unset, .unset, .unset, .unset, .unset]) rfl dS_4 rfl ?_
  refine Gl.lloadN Y0 rfl dS_6 rfl ?_
  refine Gl.ldcJ Y0 (tw_97 hw) dS_7 rfl ?_
  refine Gl.land Y0 (r := (0 : Int64)) (by decide) dS_10 rfl ?_
  refine Gl.lstore Y0 (L' := #[.val (.long (-9223372036854775808)), .second, .val (.long 3), .second, .val (.long (-2147483648)), .second, .val (.long 0), .second, .unset, .unset, .unset, .unset, .unset, .unset, .unset, .unset, .unset, .unset, .unset, .unset]) rfl dS_11 rfl ?_
  refine Gl.lloadN Y0 rfl dS_13 rfl ?_
  refine Gl.bipush Y0 (v := (32 : Int32)) (by decide) dS_14 rfl ?_
  refine Gl.lshr Y0 (r := (0 : Int64)) (by decide) dS_16 rfl ?_
  refine Gl.lstore Y0 (L' := #[.val (.long (-9223372036854775808)), .second, .val (.long 3), .second, .val (.long (-2147483648)), .second, .val (.long 0), .second, .val (.long 0), .second, .unset, .unset, .unset, .unset, .unset, .unset, .unset, .unset, .unset, .unset]) rfl dS_17 rfl ?_
  refine Gl.lloadN Y0 rfl dS_19 rfl ?_
  refine Gl.ldcJ Y0 (tw_97 hw) dS_20 rfl ?_
  refine Gl.land Y0 (r := (3 : Int64)) (by decide) dS_23 rfl ?_
  refine Gl.lstore Y0 (L' := #[.val (.long (-9223372036854775808)), .second, .val (.long 3), .second, .val (.long (-2147483648)), .second, .val (.long 0), .second, .val (.long 0), .second, .val (.long 3), .second, .unset, .unset, .unset, .unset, .unset, .unset, .unset, .unset]) rfl dS_24 rfl ?_
  refine Gl.lload Y0 rfl dS_26 rfl ?_
  refine Gl.lload Y0 rfl dS_28 rfl ?_
  refine Gl.lmul Y0 (r := (0 : Int64)) (by decide) dS_30 rfl ?_
  refine Gl.lstore Y0 (L' := #[.val (.long (-9223372036854775808)), .second, .val (.long 3), .second, .val (.long (-2147483648)), .second, .val (.long 0), .second, .val (.long 0), .second, .val (.long 3), .second, .val (.long 0), .second, .unset, .unset, .unset, .unset, .unset, .unset]) rfl dS_31 rfl ?_
  refine Gl.lload Y0 rfl dS_33 rfl ?_
  refine Gl.lload Y0 rfl dS_35 rfl ?_
  refine Gl.lmul Y0 (r := (-6442450944 : Int64)) (by decide) dS_37 rfl ?_
  refine Gl.lload Y0 rfl dS_38 rfl ?_
  refine Gl.bipush Y0 (v := (32 : Int32)) (by decide) dS_40 rfl ?_
  refine Gl.lushr Y0 (r := (0 : Int64)) (by decide) dS_42 rfl ?_
  refine Gl.ladd Y0 (r := (-6442450944 : Int64)) (by decide) dS_43 rfl ?_
  refine Gl.lstore Y0 (L' := #[.val (.long (-9223372036854775808)), .second, .val (.long 3), .second, .val (.long (-2147483648)), .second, .val (.long 0), .second, .val (.long 0), .second, .val (.long 3), .second, .val (.long 0), .second, .val (.long (-6442450944)), .second, .unset, .unset, .unset, .unset]) rfl dS_44 rfl ?_
  refine Gl.lload Y0 rfl dS_46 rfl ?_
  refine Gl.ldcJ Y0 (tw_97 hw) dS_48 rfl ?_
  refine Gl.land Y0 (r := (2147483648 : Int64)) (by decide) dS_51 rfl ?_
  refine Gl.lstore Y0 (L' := #[.val (.long (-9223372036854775808)), .second, .val (.long 3), .second, .val (.long (-2147483648)), .second, .val (.long 0), .second, .val (.long 0), .second, .val (.long 3), .second, .val (.long 0), .second, .val (.long (-6442450944)), .second, .val (.long 2147483648), .second, .unset, .unset]) rfl dS_52 rfl ?_
  refine Gl.lload Y0 rfl dS_54 rfl ?_
  refine Gl.bipush Y0 (v := (32 : Int32)) (by decide) dS_56 rfl ?_
  refine Gl.lshr Y0 (r := (-2 : Int64)) (by decide) dS_58 rfl ?_
  refine Gl.lstore Y0 (L' := #[.val (.long (-9223372036854775808)), .second, .val (.long 3), .second, .val (.long (-2147483648)), .second, .val (.long 0), .second, .val (.long 0), .second, .val (.long 3), .second, .val (.long 0), .second, .val (.long (-6442450944)), .second, .val (.long 2147483648), .second, .val (.long (-2)), .second]) rfl dS_59 rfl ?_
  refine Gl.lload Y0 rfl dS_61 rfl ?_
  refine Gl.lload Y0 rfl dS_63 rfl ?_
  refine Gl.lload Y0 rfl dS_65 rfl ?_
  refine Gl.lmul Y0 (r := (0 : Int64)) (by decide) dS_67 rfl ?_
  refine Gl.ladd Y0 (r := (2147483648 : Int64)) (by decide) dS_68 rfl ?_
  refine Gl.lstore Y0 (L' := #[.val (.long (-9223372036854775808)), .second, .val (.long 3), .second, .val (.long (-2147483648)), .second, .val (.long 0), .second, .val (.long 0), .second, .val (.long 3), .second, .val (.long 0), .second, .val (.long (-6442450944)), .second, .val (.long 2147483648), .second, .val (.long (-2)), .second]) rfl dS_69 rfl ?_
  refine Gl.lload Y0 rfl dS_71 rfl ?_
  refine Gl.lload Y0 rfl dS_73 rfl ?_
  refine Gl.lmul Y0 (r := (0 : Int64)) (by decide) dS_75 rfl ?_
  refine Gl.lload Y0 rfl dS_76 rfl ?_
  refine Gl.ladd Y0 (r := (-2 : Int64)) (by decide) dS_78 rfl ?_
  refine Gl.lload Y0 rfl dS_79 rfl ?_
  refine Gl.bipush Y0 (v := (32 : Int32)) (by decide) dS_81 rfl ?_
  refine Gl.lshr Y0 (r := (0 : Int64)) (by decide) dS_83 rfl ?_
  refine Gl.ladd Y0 (r := (-2 : Int64)) (by decide) dS_84 rfl ?_
  exact Gl.retJ Y0 (by decide) (by decide)  dS_85 ⟨rfl, rfl⟩
theorem pd_12 : parseMethodDescriptor "(JJ)J" = some ⟨[.long, .long], some .long⟩ := by decide +kernel
theorem tw_96 {a0 : Array Value} {Z : State} (hw : HW a0 Z) : (Jvm.Cond.code ({ cls := "java/lang/Math", name := "multiplyHigh", desc := "(JJ)J" } : Jvm.MethodName) jdk_29_method_45_code (20 : Nat) (Option.some Jvm.ClassFile.FieldType.long)).before a0 Z = true := hw _ (List.mem_of_getElem? (i := 96) rfl)
theorem tw_95 {a0 : Array Value} {Z : State} (hw : HW a0 Z) : (Jvm.Cond.initialized "java/lang/Math").before a0 Z = true := hw _ (List.mem_of_getElem? (i := 95) rfl)
theorem tw_94 {a0 : Array Value} {Z : State} (hw : HW a0 Z) : (Jvm.Cond.static ({ cls := "java/lang/Math", name := "multiplyHigh", desc := "(JJ)J" } : Jvm.MethodName)).before a0 Z = true := hw _ (List.mem_of_getElem? (i := 94) rfl)
theorem dR_5 : decode prog_137_method_34_code 5 = .ok (.lload_n 0, 1) := by decide +kernel
theorem dR_6 : decode prog_137_method_34_code 6 = .ok (.bipush 63, 2) := by decide +kernel
theorem dR_8 : decode prog_137_method_34_code 8 = .ok (.lshr, 1) := by decide +kernel
theorem dR_9 : decode prog_137_method_34_code 9 = .ok (.lload_n 2, 1) := by decide +kernel
theorem dR_10 : decode prog_137_method_34_code 10 = .ok (.land, 1) := by decide +kernel
theorem dR_11 : decode prog_137_method_34_code 11 = .ok (.ladd, 1) := by decide +kernel
theorem dR_12 : decode prog_137_method_34_code 12 = .ok (.lload_n 2, 1) := by decide +kernel
theorem dR_13 : decode prog_137_method_34_code 13 = .ok (.bipush 63, 2) := by decide +kernel
theorem dR_15 : decode prog_137_method_34_code 15 = .ok (.lshr, 1) := by decide +kernel
theorem dR_16 : decode prog_137_method_34_code 16 = .ok (.lload_n 0, 1) := by decide +kernel
theorem dR_17 : decode prog_137_method_34_code 17 = .ok (.land, 1) := by decide +kernel
theorem dR_18 : decode prog_137_method_34_code 18 = .ok (.ladd, 1) := by decide +kernel
theorem dR_19 : decode prog_137_method_34_code 19 = .ok (.lreturn, 1) := by decide +kernel
def RA47 : Room := { frames := 1, cells := 0, slots := 0, locals := 31 }
def QA47 (Z : State) (h0 : Heap) (v : Option Value) (h : Heap) : Prop := v = some (.long 1) ∧ h0 = h
theorem efA47 (m : MethodId) : entryFrame m #[(.long (-9223372036854775808)), (.long 3)] 4 = mkF m 0 #[.val (.long (-9223372036854775808)), .second, .val (.long 3), .second] [] := by first | (simp [entryFrame, mkF, argsToLocals, Value.category]; done) | rfl
theorem rmA47 (l : Launch) (Z : State) (a0 : Array Value) (hw : HW a0 Z) (ws : List Jvm.Cond) (h0 : Heap) (n0 : Nat) (Z0 : n0 ≤ h0.size) : OMet l Z ws (⟨"com/example/meterwise/meterwise/model/WholeNumber", "unsignedMultiplyHigh", "(JJ)J"⟩ : MethodName) prog_137_method_34_code 4 (some .long) RA47 #[(.long (-9223372036854775808)), (.long 3)] h0 n0 (QA47 Z h0) := by
  refine OMet.of (own := "com/example/meterwise/meterwise/model/WholeNumber") rfl (plainFor_of_name pn_0) (efA47) Z0 ?_
  intro p e s m below meth c T0 Y0 hnm
  refine Gl.lloadN Y0 rfl dR_0 rfl ?_
  refine Gl.lloadN Y0 rfl dR_1 rfl ?_
  refine Gl.callS Y0 (tw_93 hw) (tw_94 hw) (tw_95 hw) (tw_96 hw) (by decide) (rmA48 l Z a0 hw [] h0 n0 Y0.sz) (argsL := [(.long (-9223372036854775808)), (.long 3)]) (rest := []) rfl rfl (lenOf pd_12 rfl) rfl (by decide) (Nat.le_of_ble_eq_true rfl) (by decide) (by decide) dR_2 rfl (fun v2 T2 h2 Y2 q2 => ?_)
  obtain ⟨rfl, rfl⟩ := q2
  show Gl p e below _ (T2.setTop (mkF m 5 _ [(.long (-2))]))
  refine Gl.lloadN Y2 rfl dR_5 rfl ?_
  refine Gl.bipush Y2 (v := (63 : Int32)) (by decide) dR_6 rfl ?_
  refine Gl.lshr Y2 (r := (-1 : Int64)) (by decide) dR_8 rfl ?_
  refine Gl.lloadN Y2 rfl dR_9 rfl ?_
  refine Gl.land Y2 (r := (3 : Int64)) (by decide) dR_10 rfl ?_
  refine Gl.ladd Y2 (r := (1 : Int64)) (by decide) dR_11 rfl ?_
  refine Gl.lloadN Y2 rfl dR_12 rfl ?_
  refine Gl.bipush Y2 (v := (63 : Int32)) (by decide) dR_13 rfl ?_
  refine Gl.lshr Y2 (r := (0 : Int64)) (by decide) dR_15 rfl ?_
  refine Gl.lloadN Y2 rfl dR_16 rfl ?_
  refine Gl.land Y2 (r := (0 : Int64)) (by decide) dR_17 rfl ?_
  refine Gl.ladd Y2 (r := (1 : Int64)) (by decide) dR_18 rfl ?_
  exact Gl.retJ Y2 (by decide) (by decide)  dR_19 ⟨rfl, rfl⟩
theorem tw_92 {a0 : Array Value} {Z : State} (hw : HW a0 Z) : (Jvm.Cond.code ({ cls := "com/example/meterwise/meterwise/model/WholeNumber", name := "unsignedMultiplyHigh", desc := "(JJ)J" } : Jvm.MethodName) prog_137_method_34_code (4 : Nat) (Option.some Jvm.ClassFile.FieldType.long)).before a0 Z = true := hw _ (List.mem_of_getElem? (i := 92) rfl)
theorem tw_91 {a0 : Array Value} {Z : State} (hw : HW a0 Z) : (Jvm.Cond.static ({ cls := "com/example/meterwise/meterwise/model/WholeNumber", name := "unsignedMultiplyHigh", desc := "(JJ)J" } : Jvm.MethodName)).before a0 Z = true := hw _ (List.mem_of_getElem? (i := 91) rfl)
theorem dQ_37 : decode prog_137_method_18_code 37 = .ok (.lstore 8, 2) := by decide +kernel
theorem dQ_39 : decode prog_137_method_18_code 39 = .ok (.lload 6, 2) := by decide +kernel
theorem dQ_41 : decode prog_137_method_18_code 41 = .ok (.lload_n 3, 1) := by decide +kernel
theorem dQ_42 : decode prog_137_method_18_code 42 = .ok (.ladd, 1) := by decide +kernel
theorem dQ_43 : decode prog_137_method_18_code 43 = .ok (.lstore 10, 2) := by decide +kernel
theorem dQ_45 : decode prog_137_method_18_code 45 = .ok (.lload 8, 2) := by decide +kernel
theorem dQ_47 : decode prog_137_method_18_code 47 = .ok (.lload 10, 2) := by decide +kernel
theorem dQ_49 : decode prog_137_method_18_code 49 = .ok (.lload 6, 2) := by decide +kernel
theorem dQ_51 : decode prog_137_method_18_code 51 = .ok (.invokestatic 121, 3) := by decide +kernel
theorem tw_98 {a0 : Array Value} {Z : State} (hw : HW a0 Z) : (Jvm.Cond.methodLink "com/example/meterwise/meterwise/model/WholeNumber" (121 : Nat) ({ cls := "java/lang/Long", name := "compareUnsigned", desc := "(JJ)I" } : Jvm.MethodName)).before a0 Z = true := hw _ (List.mem_of_getElem? (i := 98) rfl)
theorem dT_0 : decode jdk_35_method_43_code 0 = .ok (.lload_n 0, 1) := by decide +kernel
theorem dT_1 : decode jdk_35_method_43_code 1 = .ok (.ldc2_w 168, 3) := by decide +kernel
theorem tw_102 {a0 : Array Value} {Z : State} (hw : HW a0 Z) : (Jvm.Cond.constantLong "java/lang/Long" (168 : Nat) (-9223372036854775808 : Int64)).before a0 Z = true := hw _ (List.mem_of_getElem? (i := 102) rfl)
theorem dT_4 : decode jdk_35_method_43_code 4 = .ok (.ladd, 1) := by decide +kernel
theorem dT_5 : decode jdk_35_method_43_code 5 = .ok (.lload_n 2, 1) := by decide +kernel
theorem dT_6 : decode jdk_35_method_43_code 6 = .ok (.ldc2_w 168, 3) := by decide +kernel
theorem dT_9 : decode jdk_35_method_43_code 9 = .ok (.ladd, 1) := by decide +kernel
theorem dT_10 : decode jdk_35_method_43_code 10 = .ok (.invokestatic 302, 3) := by decide +kernel
theorem tw_103 {a0 : Array Value} {Z : State} (hw : HW a0 Z) : (Jvm.Cond.methodLink "java/lang/Long" (302 : Nat) ({ cls := "java/lang/Long", name := "compare", desc := "(JJ)I" } : Jvm.MethodName)).before a0 Z = true := hw _ (List.mem_of_getElem? (i := 103) rfl)
theorem dU_0 : decode jdk_35_method_42_code 0 = .ok (.lload_n 0, 1) := by decide +kernel
theorem dU_1 : decode jdk_35_method_42_code 1 = .ok (.lload_n 2, 1) := by decide +kernel
theorem dU_2 : decode jdk_35_method_42_code 2 = .ok (.lcmp, 1) := by decide +kernel
theorem dU_3 : decode jdk_35_method_42_code 3 = .ok (.ifCond .ge 7, 3) := by decide +kernel
theorem dU_10 : decode jdk_35_method_42_code 10 = .ok (.lload_n 0, 1) := by decide +kernel
theorem dU_11 : decode jdk_35_method_42_code 11 = .ok (.lload_n 2, 1) := by decide +kernel
theorem dU_12 : decode jdk_35_method_42_code 12 = .ok (.lcmp, 1) := by decide +kernel
theorem dU_13 : decode jdk_35_method_42_code 13 = .ok (.ifCond .ne 7, 3) := by decide +kernel
theorem dU_16 : decode jdk_35_method_42_code 16 = .ok (.iconst 0, 1) := by decide +kernel
theorem dU_17 : decode jdk_35_method_42_code 17 = .ok (.goto 4, 3) := by decide +kernel
theorem dU_21 : decode jdk_35_method_42_code 21 = .ok (.ireturn, 1) := by decide +kernel
def RA50 : Room := { frames := 0, cells := 0, slots := 0, locals := 0 }
def QA50 (Z : State) (h0 : Heap) (v : Option Value) (h : Heap) : Prop := v = some (.int 0) ∧ h0 = h
theorem efA50 (m : MethodId) : entryFrame m #[(.long 0), (.long 0)] 4 = mkF m 0 #[.val (.long 0), .second, .val (.long 0), .second] [] := by first | (simp [entryFrame, mkF, argsToLocals, Value.category]; done) | rfl
theorem pn_2 : plainName "java/lang/Long" = true := by first | (simp [plainName, overriddenIn]; done) | decide +kernel
theorem rmA50 (l : Launch) (Z : State) (a0 : Array Value) (hw : HW a0 Z) (ws : List Jvm.Cond) (h0 : Heap) (n0 : Nat) (Z0 : n0 ≤ h0.size) : OMet l Z ws (⟨"java/lang/Long", "compare", "(JJ)I"⟩ : MethodName) jdk_35_method_42_code 4 (some .int) RA50 #[(.long 0), (.long 0)] h0 n0 (QA50 Z h0) := by
  refine OMet.of (own := "java/lang/Long") rfl (plainFor_of_name pn_2) (efA50) Z0 ?_
  intro p e s m below meth c T0 Y0 hnm
  refine Gl.lloadN Y0 rfl dU_0 rfl ?_
  refine Gl.lloadN Y0 rfl dU_1 rfl ?_
  refine Gl.lcmpge Y0 dU_2 rfl dU_3 (by decide) rfl rfl (fun c3 => ?_) (fun c3 => ?_)
  rotate_left
  · exact absurd c3 (by decide)
  refine Gl.lloadN Y0 rfl dU_10 rfl ?_
  refine Gl.lloadN Y0 rfl dU_11 rfl ?_
  refine Gl.lcmpne Y0 dU_12 rfl dU_13 (by decide) rfl rfl (fun c13 => ?_) (fun c13 => ?_)
  · exact absurd c13 (by decide)
  refine Gl.iconst Y0 (v := (0 : Int32)) (by decide) dU_16 rfl ?_
  refine Gl.goto Y0 dU_17 (by decide) rfl ?_
  exact Gl.retI Y0 (by decide) (by decide)  dU_21 ⟨rfl, rfl⟩
theorem pd_13 : parseMethodDescriptor "(JJ)I" = some ⟨[.long, .long], some .int⟩ := by decide +kernel
theorem tw_105 {a0 : Array Value} {Z : State} (hw : HW a0 Z) : (Jvm.Cond.code ({ cls := "java/lang/Long", name := "compare", desc := "(JJ)I" } : Jvm.MethodName) jdk_35_method_42_code (4 : Nat) (Option.some Jvm.ClassFile.FieldType.int)).before a0 Z = true := hw _ (List.mem_of_getElem? (i := 105) rfl)
theorem tw_100 {a0 : Array Value} {Z : State} (hw : HW a0 Z) : (Jvm.Cond.initialized "java/lang/Long").before a0 Z = true := hw _ (List.mem_of_getElem? (i := 100) rfl)
theorem tw_104 {a0 : Array Value} {Z : State} (hw : HW a0 Z) : (Jvm.Cond.static ({ cls := "java/lang/Long", name := "compare", desc := "(JJ)I" } : Jvm.MethodName)).before a0 Z = true := hw _ (List.mem_of_getElem? (i := 104) rfl)
theorem dT_13 : decode jdk_35_method_43_code 13 = .ok (.ireturn, 1) := by decide +kernel
def RA49 : Room := { frames := 1, cells := 0, slots := 0, locals := 15 }
def QA49 (Z : State) (h0 : Heap) (v : Option Value) (h : Heap) : Prop := v = some (.int 0) ∧ h0 = h
theorem efA49 (m : MethodId) : entryFrame m #[(.long (-9223372036854775808)), (.long (-9223372036854775808))] 4 = mkF m 0 #[.val (.long (-9223372036854775808)), .second, .val (.long (-9223372036854775808)), .second] [] := by first | (simp [entryFrame, mkF, argsToLocals, Value.category]; done) | rfl
theorem rmA49 (l : Launch) (Z : State) (a0 : Array Value) (hw : HW a0 Z) (ws : List Jvm.Cond) (h0 : Heap) (n0 : Nat) (Z0 : n0 ≤ h0.size) : OMet l Z ws (⟨"java/lang/Long", "compareUnsigned", "(JJ)I"⟩ : MethodName) jdk_35_method_43_code 4 (some .int) RA49 #[(.long (-9223372036854775808)), (.long (-9223372036854775808))] h0 n0 (QA49 Z h0) := by
  refine OMet.of (own := "java/lang/Long") rfl (plainFor_of_name pn_2) (efA49) Z0 ?_
  intro p e s m below meth c T0 Y0 hnm
  refine Gl.lloadN Y0 rfl dT_0 rfl ?_
  refine Gl.ldcJ Y0 (tw_102 hw) dT_1 rfl ?_
  refine Gl.ladd Y0 (r := (0 : Int64)) (by decide) dT_4 rfl ?_
  refine Gl.lloadN Y0 rfl dT_5 rfl ?_
  refine Gl.ldcJ Y0 (tw_102 hw) dT_6 rfl ?_
  refine Gl.ladd Y0 (r := (0 : Int64)) (by decide) dT_9 rfl ?_
  refine Gl.callS Y0 (tw_103 hw) (tw_104 hw) (tw_100 hw) (tw_105 hw) (by decide) (rmA50 l Z a0 hw [] h0 n0 Y0.sz) (argsL := [(.long 0), (.long 0)]) (rest := []) rfl rfl (lenOf pd_13 rfl) rfl (by decide) (Nat.le_of_ble_eq_true rfl) (by decide) (by decide) dT_10 rfl (fun v10 T10 h10 Y10 q10 => ?_)
  obtain ⟨rfl, rfl⟩ := q10
  show Gl p e below _ (T10.setTop (mkF m 13 _ [(.int 0)]))
  exact Gl.retI Y10 (by decide) (by decide)  dT_13 ⟨rfl, rfl⟩
theorem tw_101 {a0 : Array Value} {Z : State} (hw : HW a0 Z) : (Jvm.Cond.code ({ cls := "java/lang/Long", name := "compareUnsigned", desc := "(JJ)I" } : Jvm.MethodName) jdk_35_method_43_code (4 : Nat) (Option.some Jvm.ClassFile.FieldType.int)).before a0 Z = true := hw _ (List.mem_of_getElem? (i := 101) rfl)
theorem tw_99 {a0 : Array Value} {Z : State} (hw : HW a0 Z) : (Jvm.Cond.static ({ cls := "java/lang/Long", name := "compareUnsigned", desc := "(JJ)I" } : Jvm.MethodName)).before a0 Z = true := hw _ (List.mem_of_getElem? (i := 99) rfl)
theorem dQ_54 : decode prog_137_method_18_code 54 = .ok (.ifCond .ge 7, 3) := by decide +kernel
theorem dQ_61 : decode prog_137_method_18_code 61 = .ok (.lconst 0, 1) := by decide +kernel
theorem dQ_62 : decode prog_137_method_18_code 62 = .ok (.ladd, 1) := by decide +kernel
theorem dQ_63 : decode prog_137_method_18_code 63 = .ok (.lstore 8, 2) := by decide +kernel
theorem dQ_65 : decode prog_137_method_18_code 65 = .ok (.aload_n 0, 1) := by decide +kernel
theorem dQ_66 : decode prog_137_method_18_code 66 = .ok (.getfield 26, 3) := by decide +kernel
theorem dQ_69 : decode prog_137_method_18_code 69 = .ok (.iload 5, 2) := by decide +kernel
theorem dQ_71 : decode prog_137_method_18_code 71 = .ok (.lload 10, 2) := by decide +kernel
theorem dQ_73 : decode prog_137_method_18_code 73 = .ok (.lastore, 1) := by decide +kernel
theorem dQ_74 : decode prog_137_method_18_code 74 = .ok (.lload 8, 2) := by decide +kernel
theorem dQ_76 : decode prog_137_method_18_code 76 = .ok (.lstore_n 3, 1) := by decide +kernel
theorem dQ_77 : decode prog_137_method_18_code 77 = .ok (.iinc 5 1, 3) := by decide +kernel
theorem dQ_80 : decode prog_137_method_18_code 80 = .ok (.goto (-75), 3) := by decide +kernel
def RA52 : Room := { frames := 0, cells := 0, slots := 0, locals := 0 }
def QA52 (Z : State) (h0 : Heap) (v : Option Value) (h : Heap) : Prop := v = some (.long 0) ∧ h0 = h
theorem efA52 (m : MethodId) : entryFrame m #[(.long 0), (.long 3)] 20 = mkF m 0 #[.val (.long 0), .second, .val (.long 3), .second, .unset, .unset, .unset, .unset, .unset, .unset, .unset, .unset, .unset, .unset, .unset, .unset, .unset, .unset, .unset, .unset] [] := by first | (simp [entryFrame, mkF, argsToLocals, Value.category]; done) | rfl
theorem rmA52 (l : Launch) (Z : State) (a0 : Array Value) (hw : HW a0 Z) (ws : List Jvm.Cond) (h0 : Heap) (n0 : Nat) (Z0 : n0 ≤ h0.size) : OMet l Z ws (⟨"java/lang/Math", "multiplyHigh", "(JJ)J"⟩ : MethodName) jdk_29_method_45_code 20 (some .long) RA52 #[(.long 0), (.long 3)] h0 n0 (QA52 Z h0) := by
  refine OMet.of (own := "java/lang/Math") rfl (Jvm.Free.JP.mathPlain rfl (by decide +kernel)) (efA52) Z0 ?_
  intro p e s m below meth c T0 Y0 hnm
  refine Gl.lloadN Y0 rfl dS_0 rfl ?_
  refine Gl.bipush Y0 (v := (32 : Int32)) (by decide) dS_1 rfl ?_
  refine Gl.lshr Y0 (r := (0 : Int64)) (by decide) dS_3 rfl ?_
  refine Gl.lstore Y0 (L' := #[.val (.long 0), .second, .val (.long 3), .second, .val (.long 0), .second, .unset, .unset, .unset, .unset, .unset, .unset, .unset, .unset, .unset, .unset, .unset, .unset, .unset, .unset]) rfl dS_4 rfl ?_
  refine Gl.lloadN Y0 rfl dS_6 rfl ?_
  refine Gl.ldcJ Y0 (tw_97 hw) dS_7 rfl ?_
  refine Gl.land Y0 (r := (0 : Int64)) (by decide) dS_10 rfl ?_
  refine Gl.lstore Y0 (L' := #[.val (.long 0), .second, .val (.long 3), .second, .val (.long 0), .second, .val (.long 0), .second, .unset, .unset, .unset, .unset, .unset, .unset, .unset, .unset, .unset, .unset, .unset, .unset]) rfl dS_11 rfl ?_
  refine Gl.lloadN Y0 rfl dS_13 rfl ?_
  refine Gl.bipush Y0 (v := (32 : Int32)) (by decide) dS_14 rfl ?_
  refine Gl.lshr Y0 (r := (0 : Int64)) (by decide) dS_16 rfl ?_
  refine Gl.lstore Y0 (L' := #[.val (.long 0), .second, .val (.long 3), .second, .val (.long 0), .second, .val (.long 0), .second, .val (.long 0), .second, .unset, .unset, .unset, .unset, .unset, .unset, .unset, .unset, .unset, .unset]) rfl dS_17 rfl ?_
  refine Gl.lloadN Y0 rfl dS_19 rfl ?_
  refine Gl.ldcJ Y0 (tw_97 hw) dS_20 rfl ?_
  refine Gl.land Y0 (r := (3 : Int64)) (by decide) dS_23 rfl ?_
  refine Gl.lstore Y0 (L' := #[.val (.long 0), .second, .val (.long 3), .second, .val (.long 0), .second, .val (.long 0), .second, .val (.long 0), .second, .val (.long 3), .second, .unset, .unset, .unset, .unset, .unset, .unset, .unset, .unset]) rfl dS_24 rfl ?_
  refine Gl.lload Y0 rfl dS_26 rfl ?_
  refine Gl.lload Y0 rfl dS_28 rfl ?_
  refine Gl.lmul Y0 (r := (0 : Int64)) (by decide) dS_30 rfl ?_
  refine Gl.lstore Y0 (L' := #[.val (.long 0), .second, .val (.long 3), .second, .val (.long 0), .second, .val (.long 0), .second, .val (.long 0), .second, .val (.long 3), .second, .val (.long 0), .second, .unset, .unset, .unset, .unset, .unset, .unset]) rfl dS_31 rfl ?_
  refine Gl.lload Y0 rfl dS_33 rfl ?_
  refine Gl.lload Y0 rfl dS_35 rfl ?_
  refine Gl.lmul Y0 (r := (0 : Int64)) (by decide) dS_37 rfl ?_
  refine Gl.lload Y0 rfl dS_38 rfl ?_
  refine Gl.bipush Y0 (v := (32 : Int32)) (by decide) dS_40 rfl ?_
  refine Gl.lushr Y0 (r := (0 : Int64)) (by decide) dS_42 rfl ?_
  refine Gl.ladd Y0 (r := (0 : Int64)) (by decide) dS_43 rfl ?_
  refine Gl.lstore Y0 (L' := #[.val (.long 0), .second, .val (.long 3), .second, .val (.long 0), .second, .val (.long 0), .second, .val (.long 0), .second, .val (.long 3), .second, .val (.long 0), .second, .val (.long 0), .second, .unset, .unset, .unset, .unset]) rfl dS_44 rfl ?_
  refine Gl.lload Y0 rfl dS_46 rfl ?_
  refine Gl.ldcJ Y0 (tw_97 hw) dS_48 rfl ?_
  refine Gl.land Y0 (r := (0 : Int64)) (by decide) dS_51 rfl ?_
  refine Gl.lstore Y0 (L' := #[.val (.long 0), .second, .val (.long 3), .second, .val (.long 0), .second, .val (.long 0), .second, .val (.long 0), .second, .val (.long 3), .second, .val (.long 0), .second, .val (.long 0), .second, .val (.long 0), .second, .unset, .unset]) rfl dS_52 rfl ?_
  refine Gl.lload Y0 rfl dS_54 rfl ?_
  refine Gl.bipush Y0 (v := (32 : Int32)) (by decide) dS_56 rfl ?_
  refine Gl.lshr Y0 (r := (0 : Int64)) (by decide) dS_58 rfl ?_
  refine Gl.lstore Y0 (L' := #[.val (.long 0), .second, .val (.long 3), .second, .val (.long 0), .second, .val (.long 0), .second, .val (.long 0), .second, .val (.long 3), .second, .val (.long 0), .second, .val (.long 0), .second, .val (.long 0), .second, .val (.long 0), .second]) rfl dS_59 rfl ?_
  refine Gl.lload Y0 rfl dS_61 rfl ?_
  refine Gl.lload Y0 rfl dS_63 rfl ?_
  refine Gl.lload Y0 rfl dS_65 rfl ?_
  refine Gl.lmul Y0 (r := (0 : Int64)) (by decide) dS_67 rfl ?_
  refine Gl.ladd Y0 (r := (0 : Int64)) (by decide) dS_68 rfl ?_
  refine Gl.lstore Y0 (L' := #[.val (.long 0), .second, .val (.long 3), .second, .val (.long 0), .second, .val (.long 0), .second, .val (.long 0), .second, .val (.long 3), .second, .val (.long 0), .second, .val (.long 0), .second, .val (.long 0), .second, .val (.long 0), .second]) rfl dS_69 rfl ?_
  refine Gl.lload Y0 rfl dS_71 rfl ?_
  refine Gl.lload Y0 rfl dS_73 rfl ?_
  refine Gl.lmul Y0 (r := (0 : Int64)) (by decide) dS_75 rfl ?_
  refine Gl.lload Y0 rfl dS_76 rfl ?_
  refine Gl.ladd Y0 (r := (0 : Int64)) (by decide) dS_78 rfl ?_
  refine Gl.lload Y0 rfl dS_79 rfl ?_
  refine Gl.bipush Y0 (v := (32 : Int32)) (by decide) dS_81 rfl ?_
  refine Gl.lshr Y0 (r := (0 : Int64)) (by decide) dS_83 rfl ?_
  refine Gl.ladd Y0 (r := (0 : Int64)) (by decide) dS_84 rfl ?_
  exact Gl.retJ Y0 (by decide) (by decide)  dS_85 ⟨rfl, rfl⟩
def RA51 : Room := { frames := 1, cells := 0, slots := 0, locals := 31 }
def QA51 (Z : State) (h0 : Heap) (v : Option Value) (h : Heap) : Prop := v = some (.long 0) ∧ h0 = h
theorem efA51 (m : MethodId) : entryFrame m #[(.long 0), (.long 3)] 4 = mkF m 0 #[.val (.long 0), .second, .val (.long 3), .second] [] := by first | (simp [entryFrame, mkF, argsToLocals, Value.category]; done) | rfl
theorem rmA51 (l : Launch) (Z : State) (a0 : Array Value) (hw : HW a0 Z) (ws : List Jvm.Cond) (h0 : Heap) (n0 : Nat) (Z0 : n0 ≤ h0.size) : OMet l Z ws (⟨"com/example/meterwise/meterwise/model/WholeNumber", "unsignedMultiplyHigh", "(JJ)J"⟩ : MethodName) prog_137_method_34_code 4 (some .long) RA51 #[(.long 0), (.long 3)] h0 n0 (QA51 Z h0) := by
  refine OMet.of (own := "com/example/meterwise/meterwise/model/WholeNumber") rfl (plainFor_of_name pn_0) (efA51) Z0 ?_
  intro p e s m below meth c T0 Y0 hnm
  refine Gl.lloadN Y0 rfl dR_0 rfl ?_
  refine Gl.lloadN Y0 rfl dR_1 rfl ?_
  refine Gl.callS Y0 (tw_93 hw) (tw_94 hw) (tw_95 hw) (tw_96 hw) (by decide) (rmA52 l Z a0 hw [] h0 n0 Y0.sz) (argsL := [(.long 0), (.long 3)]) (rest := []) rfl rfl (lenOf pd_12 rfl) rfl (by decide) (Nat.le_of_ble_eq_true rfl) (by decide) (by decide) dR_2 rfl (fun v2 T2 h2 Y2 q2 => ?_)
  obtain ⟨rfl, rfl⟩ := q2
  show Gl p e below _ (T2.setTop (mkF m 5 _ [(.long 0)]))
  refine Gl.lloadN Y2 rfl dR_5 rfl ?_
  refine Gl.bipush Y2 (v := (63 : Int32)) (by decide) dR_6 rfl ?_
  refine Gl.lshr Y2 (r := (0 : Int64)) (by decide) dR_8 rfl ?_
  refine Gl.lloadN Y2 rfl dR_9 rfl ?_
  refine Gl.land Y2 (r := (0 : Int64)) (by decide) dR_10 rfl ?_
  refine Gl.ladd Y2 (r := (0 : Int64)) (by decide) dR_11 rfl ?_
  refine Gl.lloadN Y2 rfl dR_12 rfl ?_
  refine Gl.bipush Y2 (v := (63 : Int32)) (by decide) dR_13 rfl ?_
  refine Gl.lshr Y2 (r := (0 : Int64)) (by decide) dR_15 rfl ?_
  refine Gl.lloadN Y2 rfl dR_16 rfl ?_
  refine Gl.land Y2 (r := (0 : Int64)) (by decide) dR_17 rfl ?_
  refine Gl.ladd Y2 (r := (0 : Int64)) (by decide) dR_18 rfl ?_
  exact Gl.retJ Y2 (by decide) (by decide)  dR_19 ⟨rfl, rfl⟩
theorem dU_20 : decode jdk_35_method_42_code 20 = .ok (.iconst 1, 1) := by decide +kernel
def RA54 : Room := { frames := 0, cells := 0, slots := 0, locals := 0 }
def QA54 (Z : State) (h0 : Heap) (v : Option Value) (h : Heap) : Prop := v = some (.int 1) ∧ h0 = h
theorem efA54 (m : MethodId) : entryFrame m #[(.long (-9223372036854775807)), (.long (-9223372036854775808))] 4 = mkF m 0 #[.val (.long (-9223372036854775807)), .second, .val (.long (-9223372036854775808)), .second] [] := by first | (simp [entryFrame, mkF, argsToLocals, Value.category]; done) | rfl
theorem rmA54 (l : Launch) (Z : State) (a0 : Array Value) (hw : HW a0 Z) (ws : List Jvm.Cond) (h0 : Heap) (n0 : Nat) (Z0 : n0 ≤ h0.size) : OMet l Z ws (⟨"java/lang/Long", "compare", "(JJ)I"⟩ : MethodName) jdk_35_method_42_code 4 (some .int) RA54 #[(.long (-9223372036854775807)), (.long (-9223372036854775808))] h0 n0 (QA54 Z h0) := by
  refine OMet.of (own := "java/lang/Long") rfl (plainFor_of_name pn_2) (efA54) Z0 ?_
  intro p e s m below meth c T0 Y0 hnm
  refine Gl.lloadN Y0 rfl dU_0 rfl ?_
  refine Gl.lloadN Y0 rfl dU_1 rfl ?_
  refine Gl.lcmpge Y0 dU_2 rfl dU_3 (by decide) rfl rfl (fun c3 => ?_) (fun c3 => ?_)
  rotate_left
  · exact absurd c3 (by decide)
  refine Gl.lloadN Y0 rfl dU_10 rfl ?_
  refine Gl.lloadN Y0 rfl dU_11 rfl ?_
  refine Gl.lcmpne Y0 dU_12 rfl dU_13 (by decide) rfl rfl (fun c13 => ?_) (fun c13 => ?_)
  rotate_left
  · exact absurd c13 (by decide)
  refine Gl.iconst Y0 (v := (1 : Int32)) (by decide) dU_20 rfl ?_
  exact Gl.retI Y0 (by decide) (by decide)  dU_21 ⟨rfl, rfl⟩
def RA53 : Room := { frames := 1, cells := 0, slots := 0, locals := 15 }
def QA53 (Z : State) (h0 : Heap) (v : Option Value) (h : Heap) : Prop := v = some (.int 1) ∧ h0 = h
theorem efA53 (m : MethodId) : entryFrame m #[(.long 1), (.long 0)] 4 = mkF m 0 #[.val (.long 1), .second, .val (.long 0), .second] [] := by first | (simp [entryFrame, mkF, argsToLocals, Value.category]; done) | rfl
theorem rmA53 (l : Launch) (Z : State) (a0 : Array Value) (hw : HW a0 Z) (ws : List Jvm.Cond) (h0 : Heap) (n0 : Nat) (Z0 : n0 ≤ h0.size) : OMet l Z ws (⟨"java/lang/Long", "compareUnsigned", "(JJ)I"⟩ : MethodName) jdk_35_method_43_code 4 (some .int) RA53 #[(.long 1), (.long 0)] h0 n0 (QA53 Z h0) := by
  refine OMet.of (own := "java/lang/Long") rfl (plainFor_of_name pn_2) (efA53) Z0 ?_
  intro p e s m below meth c T0 Y0 hnm
  refine Gl.lloadN Y0 rfl dT_0 rfl ?_
  refine Gl.ldcJ Y0 (tw_102 hw) dT_1 rfl ?_
  refine Gl.ladd Y0 (r := (-9223372036854775807 : Int64)) (by decide) dT_4 rfl ?_
  refine Gl.lloadN Y0 rfl dT_5 rfl ?_
  refine Gl.ldcJ Y0 (tw_102 hw) dT_6 rfl ?_
  refine Gl.ladd Y0 (r := (-9223372036854775808 : Int64)) (by decide) dT_9 rfl ?_
  refine Gl.callS Y0 (tw_103 hw) (tw_104 hw) (tw_100 hw) (tw_105 hw) (by decide) (rmA54 l Z a0 hw [] h0 n0 Y0.sz) (argsL := [(.long (-9223372036854775807)), (.long (-9223372036854775808))]) (rest := []) rfl rfl (lenOf pd_13 rfl) rfl (by decide) (Nat.le_of_ble_eq_true rfl) (by decide) (by decide) dT_10 rfl (fun v10 T10 h10 Y10 q10 => ?_)
  obtain ⟨rfl, rfl⟩ := q10
  show Gl p e below _ (T10.setTop (mkF m 13 _ [(.int 1)]))
  exact Gl.retI Y10 (by decide) (by decide)  dT_13 ⟨rfl, rfl⟩
theorem dQ_83 : decode prog_137_method_18_code 83 = .ok (.lload_n 3, 1) := by decide +kernel
theorem dQ_84 : decode prog_137_method_18_code 84 = .ok (.lconst 0, 1) := by decide +kernel
theorem dQ_85 : decode prog_137_method_18_code 85 = .ok (.lcmp, 1) := by decide +kernel
theorem dQ_86 : decode prog_137_method_18_code 86 = .ok (.ifCond .ne 16, 3) := by decide +kernel
theorem dQ_89 : decode prog_137_method_18_code 89 = .ok (.aload_n 0, 1) := by decide +kernel
theorem dQ_90 : decode prog_137_method_18_code 90 = .ok (.invokevirtual 78, 3) := by decide +kernel
theorem dQ_93 : decode prog_137_method_18_code 93 = .ok (.lconst 0, 1) := by decide +kernel
theorem dQ_94 : decode prog_137_method_18_code 94 = .ok (.lcmp, 1) := by decide +kernel
theorem dQ_95 : decode prog_137_method_18_code 95 = .ok (.ifCond .lt 7, 3) := by decide +kernel
theorem dQ_98 : decode prog_137_method_18_code 98 = .ok (.iconst 1, 1) := by decide +kernel
theorem dQ_99 : decode prog_137_method_18_code 99 = .ok (.goto 4, 3) := by decide +kernel
theorem dQ_103 : decode prog_137_method_18_code 103 = .ok (.ireturn, 1) := by decide +kernel
def RA46 : Room := { frames := 2, cells := 0, slots := 0, locals := 46 }
def QA46 (Z : State) (o0 : Addr) (o1 : Addr) (o2 : Addr) (k_o1 : ClassId) (k_o2 : ClassId) (h0 : Heap) (v : Option Value) (h : Heap) : Prop := v = some (.int 1) ∧ Keep h0 h [o0, o1, o2] ∧ Exa Z h o0 kW ∧ Fld Z h o0 kW "words" "[J" (.ref o1) ∧ Fld Z h o0 kW "work" "[J" (.ref o2) ∧ Arv Z h o1 k_o1 .long (2 : Int32) [(.long (-9223372036854775808)), (.long 1)] (.long 0) ∧ Arv Z h o2 k_o2 .long (6 : Int32) [(.long 3), (.long 0), (.long 0), (.long 0), (.long 0), (.long 0)] (.long 0)
theorem efA46 (o0 : Addr) (m : MethodId) : entryFrame m #[(.ref o0), (.long 3)] 12 = mkF m 0 #[.val (.ref o0), .val (.long 3), .second, .unset, .unset, .unset, .unset, .unset, .unset, .unset, .unset, .unset] [] := by first | (simp [entryFrame, mkF, argsToLocals, Value.category]; done) | rfl
theorem rmA46 (l : Launch) (Z : State) (a0 : Array Value) (hw : HW a0 Z) (ws : List Jvm.Cond) (o0 : Addr) (o1 : Addr) (o2 : Addr) (k_o1 : ClassId) (k_o2 : ClassId) (h0 : Heap) (n0 : Nat) (Z0 : n0 ≤ h0.size) (E_o0 : Exa Z h0 o0 kW) (F_o0_words : Fld Z h0 o0 kW "words" "[J" (.ref o1)) (F_o0_work : Fld Z h0 o0 kW "work" "[J" (.ref o2)) (g_o0 : n0 ≤ o0) (V_o1 : Arv Z h0 o1 k_o1 .long (2 : Int32) [(.long (-9223372036854775808)), (.long 0)] (.long 0)) (g_o1 : n0 ≤ o1) (V_o2 : Arv Z h0 o2 k_o2 .long (6 : Int32) [(.long 3), (.long 0), (.long 0), (.long 0), (.long 0), (.long 0)] (.long 0)) (g_o2 : n0 ≤ o2) (n_o0_o1 : own_ne o0 o1) (n_o0_o2 : own_ne o0 o2) (n_o1_o2 : own_ne o1 o2) : OMet l Z ws (⟨"com/example/meterwise/meterwise/model/WholeNumber", "multiplyMagnitude", "(J)Z"⟩ : MethodName) prog_137_method_18_code 12 (some .boolean) RA46 #[(.ref o0), (.long 3)] h0 n0 (QA46 Z o0 o1 o2 k_o1 k_o2 h0) := by
  refine OMet.of (own := "com/example/meterwise/meterwise/model/WholeNumber") rfl (plainFor_of_name pn_0) (efA46 o0) Z0 ?_
  intro p e s m below meth c T0 Y0 hnm
  refine Gl.lconst Y0 (v := (0 : Int64)) (by decide) dQ_0 rfl ?_
  refine Gl.lstoreN Y0 (L' := #[.val (.ref o0), .val (.long 3), .second, .val (.long 0), .second, .unset, .unset, .unset, .unset, .unset, .unset, .unset]) rfl dQ_1 rfl ?_
  refine Gl.iconst Y0 (v := (0 : Int32)) (by decide) dQ_2 rfl ?_
  refine Gl.istore Y0 (L' := #[.val (.ref o0), .val (.long 3), .second, .val (.long 0), .second, .val (.int 0), .unset, .unset, .unset, .unset, .unset, .unset]) rfl dQ_3 rfl ?_
  refine Gl.iload Y0 rfl dQ_5 rfl ?_
  refine Gl.aloadN Y0 rfl rfl dQ_7 rfl ?_
  refine Gl.getF Y0 (host := "") (Or.inl (tw_15 hw)) Via.refl F_o0_words dQ_8 rfl (fun T8 Y8 => ?_)
  refine Gl.arraylength Y8 V_o1 dQ_11 rfl ?_
  refine Gl.icmpge Y8 dQ_12 (by decide) rfl rfl (fun c12 => ?_) (fun c12 => ?_)
  · exact absurd c12 (by decide)
  refine Gl.aloadN Y8 rfl rfl dQ_15 rfl ?_
  refine Gl.getF Y8 (host := "") (Or.inl (tw_15 hw)) Via.refl F_o0_words dQ_16 rfl (fun T16 Y16 => ?_)
  refine Gl.iload Y16 rfl dQ_19 rfl ?_
  refine Gl.laload Y16 V_o1 ⟨by decide, by decide⟩ (v := (.long (-9223372036854775808))) rfl dQ_21 rfl ?_
  refine Gl.lloadN Y16 rfl dQ_22 rfl ?_
  refine Gl.lmul Y16 (r := (-9223372036854775808 : Int64)) (by decide) dQ_23 rfl ?_
  refine Gl.lstore Y16 (L' := #[.val (.ref o0), .val (.long 3), .second, .val (.long 0), .second, .val (.int 0), .val (.long (-9223372036854775808)), .second, .unset, .unset, .unset, .unset]) rfl dQ_24 rfl ?_
  refine Gl.aloadN Y16 rfl rfl dQ_26 rfl ?_
  refine Gl.getF Y16 (host := "") (Or.inl (tw_15 hw)) Via.refl F_o0_words dQ_27 rfl (fun T27 Y27 => ?_)
  refine Gl.iload Y27 rfl dQ_30 rfl ?_
  refine Gl.laload Y27 V_o1 ⟨by decide, by decide⟩ (v := (.long (-9223372036854775808))) rfl dQ_32 rfl ?_
  refine Gl.lloadN Y27 rfl dQ_33 rfl ?_
  refine Gl.callS Y27 (tw_90 hw) (tw_91 hw) (tw_3 hw) (tw_92 hw) (by decide) (rmA47 l Z a0 hw [] h0 n0 Y27.sz) (argsL := [(.long (-9223372036854775808)), (.long 3)]) (rest := []) rfl rfl (lenOf pd_12 rfl) rfl (by decide) (Nat.le_of_ble_eq_true rfl) (by decide) (by decide) dQ_34 rfl (fun v34 T34 h34 Y34 q34 => ?_)
  obtain ⟨rfl, rfl⟩ := q34
  show Gl p e below _ (T34.setTop (mkF m 37 _ [(.long 1)]))
  refine Gl.lstore Y34 (L' := #[.val (.ref o0), .val (.long 3), .second, .val (.long 0), .second, .val (.int 0), .val (.long (-9223372036854775808)), .second, .val (.long 1), .second, .unset, .unset]) rfl dQ_37 rfl ?_
  refine Gl.lload Y34 rfl dQ_39 rfl ?_
  refine Gl.lloadN Y34 rfl dQ_41 rfl ?_
  refine Gl.ladd Y34 (r := (-9223372036854775808 : Int64)) (by decide) dQ_42 rfl ?_
  refine Gl.lstore Y34 (L' := #[.val (.ref o0), .val (.long 3), .second, .val (.long 0), .second, .val (.int 0), .val (.long (-9223372036854775808)), .second, .val (.long 1), .second, .val (.long (-9223372036854775808)), .second]) rfl dQ_43 rfl ?_
  refine Gl.lload Y34 rfl dQ_45 rfl ?_
  refine Gl.lload Y34 rfl dQ_47 rfl ?_
  refine Gl.lload Y34 rfl dQ_49 rfl ?_
  refine Gl.callS Y34 (tw_98 hw) (tw_99 hw) (tw_100 hw) (tw_101 hw) (by decide) (rmA49 l Z a0 hw [] h0 n0 Y34.sz) (argsL := [(.long (-9223372036854775808)), (.long (-9223372036854775808))]) (rest := [(.long 1)]) rfl rfl (lenOf pd_13 rfl) rfl (by decide) (Nat.le_of_ble_eq_true rfl) (by decide) (by decide) dQ_51 rfl (fun v51 T51 h51 Y51 q51 => ?_)
  obtain ⟨rfl, rfl⟩ := q51
  show Gl p e below _ (T51.setTop (mkF m 54 _ [(.int 0), (.long 1)]))
  refine Gl.ifge Y51 dQ_54 (by decide) rfl rfl (fun c54 => ?_) (fun c54 => ?_)
  rotate_left
  · exact absurd c54 (by decide)
  refine Gl.lconst Y51 (v := (0 : Int64)) (by decide) dQ_61 rfl ?_
  refine Gl.ladd Y51 (r := (1 : Int64)) (by decide) dQ_62 rfl ?_
  refine Gl.lstore Y51 (L' := #[.val (.ref o0), .val (.long 3), .second, .val (.long 0), .second, .val (.int 0), .val (.long (-9223372036854775808)), .second, .val (.long 1), .second, .val (.long (-9223372036854775808)), .second]) rfl dQ_63 rfl ?_
  refine Gl.aloadN Y51 rfl rfl dQ_65 rfl ?_
  refine Gl.getF Y51 (host := "") (Or.inl (tw_15 hw)) Via.refl F_o0_words dQ_66 rfl (fun T66 Y66 => ?_)
  refine Gl.iload Y66 rfl dQ_69 rfl ?_
  refine Gl.lload Y66 rfl dQ_71 rfl ?_
  refine Gl.lastore Y66 V_o1 (v := (.long (-9223372036854775808))) rfl ⟨by decide, by decide⟩ (ix := 0) rfl (Nat.le_of_ble_eq_true rfl) g_o1 dQ_73 rfl (fun T73 h73 Y73 W73 A73 => ?_)
  have A73 : Arv Z h73 o1 k_o1 .long (2 : Int32) [(.long (-9223372036854775808)), (.long 0)] (.long 0) := A73
  have K73 : Keep h0 h73 [o0, o1, o2] := (Keep.refl h0 [o0, o1, o2]).wr W73 (Or.inl (List.mem_of_getElem? (i := 1) rfl))
  show Gl p e below _ (T73.setTop (mkF m 74 _ []))
  refine Gl.lload Y73 rfl dQ_74 rfl ?_
  refine Gl.lstoreN Y73 (L' := #[.val (.ref o0), .val (.long 3), .second, .val (.long 1), .second, .val (.int 0), .val (.long (-9223372036854775808)), .second, .val (.long 1), .second, .val (.long (-9223372036854775808)), .second]) rfl dQ_76 rfl ?_
  refine Gl.iinc Y73 rfl (r := (1 : Int32)) (by decide) (L' := #[.val (.ref o0), .val (.long 3), .second, .val (.long 1), .second, .val (.int 1), .val (.long (-9223372036854775808)), .second, .val (.long 1), .second, .val (.long (-9223372036854775808)), .second]) rfl dQ_77 rfl ?_
  refine Gl.goto Y73 dQ_80 (by decide) rfl ?_
  refine Gl.iload Y73 rfl dQ_5 rfl ?_
  refine Gl.aloadN Y73 rfl rfl dQ_7 rfl ?_
  have f1 := (Fld.other W73 F_o0_words (Or.inl n_o0_o1))
  refine Gl.getF Y73 (host := "") (Or.inl (tw_15 hw)) Via.refl f1 dQ_8 rfl (fun T8_2 Y8_2 => ?_)
  refine Gl.arraylength Y8_2 A73 dQ_11 rfl ?_
  refine Gl.icmpge Y8_2 dQ_12 (by decide) rfl rfl (fun c12_2 => ?_) (fun c12_2 => ?_)
  · exact absurd c12_2 (by decide)
  refine Gl.aloadN Y8_2 rfl rfl dQ_15 rfl ?_
  refine Gl.getF Y8_2 (host := "") (Or.inl (tw_15 hw)) Via.refl f1 dQ_16 rfl (fun T16_2 Y16_2 => ?_)
  refine Gl.iload Y16_2 rfl dQ_19 rfl ?_
  refine Gl.laload Y16_2 A73 ⟨by decide, by decide⟩ (v := (.long 0)) rfl dQ_21 rfl ?_
  refine Gl.lloadN Y16_2 rfl dQ_22 rfl ?_
  refine Gl.lmul Y16_2 (r := (0 : Int64)) (by decide) dQ_23 rfl ?_
  refine Gl.lstore Y16_2 (L' := #[.val (.ref o0), .val (.long 3), .second, .val (.long 1), .second, .val (.int 1), .val (.long 0), .second, .val (.long 1), .second, .val (.long (-9223372036854775808)), .second]) rfl dQ_24 rfl ?_
  refine Gl.aloadN Y16_2 rfl rfl dQ_26 rfl ?_
  refine Gl.getF Y16_2 (host := "") (Or.inl (tw_15 hw)) Via.refl f1 dQ_27 rfl (fun T27_2 Y27_2 => ?_)
  refine Gl.iload Y27_2 rfl dQ_30 rfl ?_
  refine Gl.laload Y27_2 A73 ⟨by decide, by decide⟩ (v := (.long 0)) rfl dQ_32 rfl ?_
  refine Gl.lloadN Y27_2 rfl dQ_33 rfl ?_
  refine Gl.callS Y27_2 (tw_90 hw) (tw_91 hw) (tw_3 hw) (tw_92 hw) (by decide) (rmA51 l Z a0 hw [] h73 n0 Y27_2.sz) (argsL := [(.long 0), (.long 3)]) (rest := []) rfl rfl (lenOf pd_12 rfl) rfl (by decide) (Nat.le_of_ble_eq_true rfl) (by decide) (by decide) dQ_34 rfl (fun v34_2 T34_2 h34_2 Y34_2 q34_2 => ?_)
  obtain ⟨rfl, rfl⟩ := q34_2
  show Gl p e below _ (T34_2.setTop (mkF m 37 _ [(.long 0)]))
  refine Gl.lstore Y34_2 (L' := #[.val (.ref o0), .val (.long 3), .second, .val (.long 1), .second, .val (.int 1), .val (.long 0), .second, .val (.long 0), .second, .val (.long (-9223372036854775808)), .second]) rfl dQ_37 rfl ?_
  refine Gl.lload Y34_2 rfl dQ_39 rfl ?_
  refine Gl.lloadN Y34_2 rfl dQ_41 rfl ?_
  refine Gl.ladd Y34_2 (r := (1 : Int64)) (by decide) dQ_42 rfl ?_
  refine Gl.lstore Y34_2 (L' := #[.val (.ref o0), .val (.long 3), .second, .val (.long 1), .second, .val (.int 1), .val (.long 0), .second, .val (.long 0), .second, .val (.long 1), .second]) rfl dQ_43 rfl ?_
  refine Gl.lload Y34_2 rfl dQ_45 rfl ?_
  refine Gl.lload Y34_2 rfl dQ_47 rfl ?_
  refine Gl.lload Y34_2 rfl dQ_49 rfl ?_
  refine Gl.callS Y34_2 (tw_98 hw) (tw_99 hw) (tw_100 hw) (tw_101 hw) (by decide) (rmA53 l Z a0 hw [] h73 n0 Y34_2.sz) (argsL := [(.long 1), (.long 0)]) (rest := [(.long 0)]) rfl rfl (lenOf pd_13 rfl) rfl (by decide) (Nat.le_of_ble_eq_true rfl) (by decide) (by decide) dQ_51 rfl (fun v51_2 T51_2 h51_2 Y51_2 q51_2 => ?_)
  obtain ⟨rfl, rfl⟩ := q51_2
  show Gl p e below _ (T51_2.setTop (mkF m 54 _ [(.int 1), (.long 0)]))
  refine Gl.ifge Y51_2 dQ_54 (by decide) rfl rfl (fun c54_2 => ?_) (fun c54_2 => ?_)
  rotate_left
  · exact absurd c54_2 (by decide)
  refine Gl.lconst Y51_2 (v := (0 : Int64)) (by decide) dQ_61 rfl ?_
  refine Gl.ladd Y51_2 (r := (0 : Int64)) (by decide) dQ_62 rfl ?_
  refine Gl.lstore Y51_2 (L' := #[.val (.ref o0), .val (.long 3), .second, .val (.long 1), .second, .val (.int 1), .val (.long 0), .second, .val (.long 0), .second, .val (.long 1), .second]) rfl dQ_63 rfl ?_
  refine Gl.aloadN Y51_2 rfl rfl dQ_65 rfl ?_
  refine Gl.getF Y51_2 (host := "") (Or.inl (tw_15 hw)) Via.refl f1 dQ_66 rfl (fun T66_2 Y66_2 => ?_)
  refine Gl.iload Y66_2 rfl dQ_69 rfl ?_
  refine Gl.lload Y66_2 rfl dQ_71 rfl ?_
  refine Gl.lastore Y66_2 A73 (v := (.long 1)) rfl ⟨by decide, by decide⟩ (ix := 1) rfl (Nat.le_of_ble_eq_true rfl) g_o1 dQ_73 rfl (fun T73_2 h73_2 Y73_2 W73_2 A73_2 => ?_)
  have A73_2 : Arv Z h73_2 o1 k_o1 .long (2 : Int32) [(.long (-9223372036854775808)), (.long 1)] (.long 0) := A73_2
  have K73_2 : Keep h0 h73_2 [o0, o1, o2] := K73.wr W73_2 (Or.inl (List.mem_of_getElem? (i := 1) rfl))
  show Gl p e below _ (T73_2.setTop (mkF m 74 _ []))
  refine Gl.lload Y73_2 rfl dQ_74 rfl ?_
  refine Gl.lstoreN Y73_2 (L' := #[.val (.ref o0), .val (.long 3), .second, .val (.long 0), .second, .val (.int 1), .val (.long 0), .second, .val (.long 0), .second, .val (.long 1), .second]) rfl dQ_76 rfl ?_
  refine Gl.iinc Y73_2 rfl (r := (2 : Int32)) (by decide) (L' := #[.val (.ref o0), .val (.long 3), .second, .val (.long 0), .second, .val (.int 2), .val (.long 0), .second, .val (.long 0), .second, .val (.long 1), .second]) rfl dQ_77 rfl ?_
  refine Gl.goto Y73_2 dQ_80 (by decide) rfl ?_
  refine Gl.iload Y73_2 rfl dQ_5 rfl ?_
  refine Gl.aloadN Y73_2 rfl rfl dQ_7 rfl ?_
  have f2 := (Fld.other W73_2 f1 (Or.inl n_o0_o1))
  refine Gl.getF Y73_2 (host := "") (Or.inl (tw_15 hw)) Via.refl f2 dQ_8 rfl (fun T8_3 Y8_3 => ?_)
  refine Gl.arraylength Y8_3 A73_2 dQ_11 rfl ?_
  refine Gl.icmpge Y8_3 dQ_12 (by decide) rfl rfl (fun c12_3 => ?_) (fun c12_3 => ?_)
  rotate_left
  · exact absurd c12_3 (by decide)
  refine Gl.lloadN Y8_3 rfl dQ_83 rfl ?_
  refine Gl.lconst Y8_3 (v := (0 : Int64)) (by decide) dQ_84 rfl ?_
  refine Gl.lcmpne Y8_3 dQ_85 rfl dQ_86 (by decide) rfl rfl (fun c86 => ?_) (fun c86 => ?_)
  · exact absurd c86 (by decide)
  refine Gl.aloadN Y8_3 rfl rfl dQ_89 rfl ?_
  have f3 := (Exa.wr W73_2 (Exa.wr W73 E_o0))
  refine Gl.callP Y8_3 (tw_41 hw) (tw_42 hw) (tw_43 hw) (tw_2 hw) (tw_3 hw) (tw_44 hw) (by decide) f3 (rm10 l Z a0 hw [] o0 o1 k_o1 (-9223372036854775808 : Int64) (1 : Int64) h73_2 n0 Y8_3.sz f3 f2 A73_2) (a := o0) (argsL := []) (rest := []) rfl rfl (lenOf pd_4 rfl) rfl (by decide) (Nat.le_of_ble_eq_true rfl) (by decide) (by decide) dQ_90 rfl (fun v90 T90 h90 Y90 q90 => ?_)
  obtain ⟨rfl, rfl⟩ := q90
  show Gl p e below _ (T90.setTop (mkF m 93 _ [(.long 1)]))
  refine Gl.lconst Y90 (v := (0 : Int64)) (by decide) dQ_93 rfl ?_
  refine Gl.lcmplt Y90 dQ_94 rfl dQ_95 (by decide) rfl rfl (fun c95 => ?_) (fun c95 => ?_)
  · exact absurd c95 (by decide)
  refine Gl.iconst Y90 (v := (1 : Int32)) (by decide) dQ_98 rfl ?_
  refine Gl.goto Y90 dQ_99 (by decide) rfl ?_
  have f4 := (Fld.other W73_2 (Fld.other W73 F_o0_work (Or.inl n_o0_o1)) (Or.inl n_o0_o1))
  have f5 := ((V_o2.other W73 (Ne.symm n_o1_o2)).other W73_2 (Ne.symm n_o1_o2))
  exact Gl.retZ Y90 (by decide) (by decide) (x' := (1 : Int32)) (by decide) dQ_103 ⟨rfl, K73_2, f3, f2, f4, A73_2, f5⟩
theorem pd_14 : parseMethodDescriptor "(J)Z" = some ⟨[.long], some .boolean⟩ := by decide +kernel
theorem tw_89 {a0 : Array Value} {Z : State} (hw : HW a0 Z) : (Jvm.Cond.code ({ cls := "com/example/meterwise/meterwise/model/WholeNumber", name := "multiplyMagnitude", desc := "(J)Z" } : Jvm.MethodName) prog_137_method_18_code (12 : Nat) (Option.some Jvm.ClassFile.FieldType.boolean)).before a0 Z = true := hw _ (List.mem_of_getElem? (i := 89) rfl)
theorem tw_87 {a0 : Array Value} {Z : State} (hw : HW a0 Z) : (Jvm.Cond.instanceMethod ({ cls := "com/example/meterwise/meterwise/model/WholeNumber", name := "multiplyMagnitude", desc := "(J)Z" } : Jvm.MethodName)).before a0 Z = true := hw _ (List.mem_of_getElem? (i := 87) rfl)
theorem tw_88 {a0 : Array Value} {Z : State} (hw : HW a0 Z) : (Jvm.Cond.privateMethod ({ cls := "com/example/meterwise/meterwise/model/WholeNumber", name := "multiplyMagnitude", desc := "(J)Z" } : Jvm.MethodName)).before a0 Z = true := hw _ (List.mem_of_getElem? (i := 88) rfl)
theorem dK_200 : decode prog_137_method_15_code 200 = .ok (.goto 10, 3) := by decide +kernel
theorem dK_210 : decode prog_137_method_15_code 210 = .ok (.istore 8, 2) := by decide +kernel
theorem dK_212 : decode prog_137_method_15_code 212 = .ok (.iload 8, 2) := by decide +kernel
theorem dK_214 : decode prog_137_method_15_code 214 = .ok (.ifCond .ne 8, 3) := by decide +kernel
theorem dK_222 : decode prog_137_method_15_code 222 = .ok (.iload 7, 2) := by decide +kernel
theorem dK_224 : decode prog_137_method_15_code 224 = .ok (.ifCond .eq 10, 3) := by decide +kernel
theorem dK_227 : decode prog_137_method_15_code 227 = .ok (.aload_n 0, 1) := by decide +kernel
theorem dK_228 : decode prog_137_method_15_code 228 = .ok (.invokevirtual 137, 3) := by decide +kernel
def RA55 : Room := { frames := 0, cells := 0, slots := 0, locals := 0 }
def QA55 (Z : State) (o0 : Addr) (o1 : Addr) (o2 : Addr) (k_o1 : ClassId) (k_o2 : ClassId) (h0 : Heap) (v : Option Value) (h : Heap) : Prop := v = some (.ref o0) ∧ Keep h0 h [o0, o1, o2] ∧ Exa Z h o0 kW ∧ Fld Z h o0 kW "words" "[J" (.ref o1) ∧ Fld Z h o0 kW "work" "[J" (.ref o2) ∧ Arv Z h o1 k_o1 .long (2 : Int32) [(.long (-9223372036854775808)), (.long (-2))] (.long 0) ∧ Arv Z h o2 k_o2 .long (6 : Int32) [(.long 3), (.long 0), (.long 0), (.long 0), (.long 0), (.long 0)] (.long 0)
theorem efA55 (o0 : Addr) (m : MethodId) : entryFrame m #[(.ref o0)] 4 = mkF m 0 #[.val (.ref o0), .unset, .unset, .unset] [] := by first | (simp [entryFrame, mkF, argsToLocals, Value.category]; done) | rfl
theorem rmA55 (l : Launch) (Z : State) (a0 : Array Value) (hw : HW a0 Z) (ws : List Jvm.Cond) (o0 : Addr) (o1 : Addr) (o2 : Addr) (k_o1 : ClassId) (k_o2 : ClassId) (h0 : Heap) (n0 : Nat) (Z0 : n0 ≤ h0.size) (E_o0 : Exa Z h0 o0 kW) (F_o0_words : Fld Z h0 o0 kW "words" "[J" (.ref o1)) (F_o0_work : Fld Z h0 o0 kW "work" "[J" (.ref o2)) (g_o0 : n0 ≤ o0) (V_o1 : Arv Z h0 o1 k_o1 .long (2 : Int32) [(.long (-9223372036854775808)), (.long 1)] (.long 0)) (g_o1 : n0 ≤ o1) (V_o2 : Arv Z h0 o2 k_o2 .long (6 : Int32) [(.long 3), (.long 0), (.long 0), (.long 0), (.long 0), (.long 0)] (.long 0)) (g_o2 : n0 ≤ o2) (n_o0_o1 : own_ne o0 o1) (n_o0_o2 : own_ne o0 o2) (n_o1_o2 : own_ne o1 o2) : OMet l Z ws (⟨"com/example/meterwise/meterwise/model/WholeNumber", "negate", "()Lcom/example/meterwise/meterwise/model/WholeNumber;"⟩ : MethodName) prog_137_method_19_code 4 (some (.object "com/example/meterwise/meterwise/model/WholeNumber")) RA55 #[(.ref o0)] h0 n0 (QA55 Z o0 o1 o2 k_o1 k_o2 h0) := by
  refine OMet.of (own := "com/example/meterwise/meterwise/model/WholeNumber") rfl (plainFor_of_name pn_0) (efA55 o0) Z0 ?_
  intro p e s m below meth c T0 Y0 hnm
  refine Gl.lconst Y0 (v := (1 : Int64)) (by decide) dP_0 rfl ?_
  refine Gl.lstoreN Y0 (L' := #[.val (.ref o0), .val (.long 1), .second, .unset]) rfl dP_1 rfl ?_
  refine Gl.iconst Y0 (v := (0 : Int32)) (by decide) dP_2 rfl ?_
  refine Gl.istoreN Y0 (L' := #[.val (.ref o0), .val (.long 1), .second, .val (.int 0)]) rfl dP_3 rfl ?_
  refine Gl.iloadN Y0 rfl dP_4 rfl ?_
  refine Gl.aloadN Y0 rfl rfl dP_5 rfl ?_
  refine Gl.getF Y0 (host := "") (Or.inl (tw_15 hw)) Via.refl F_o0_words dP_6 rfl (fun T6 Y6 => ?_)
  refine Gl.arraylength Y6 V_o1 dP_9 rfl ?_
  refine Gl.icmpge Y6 dP_10 (by decide) rfl rfl (fun c10 => ?_) (fun c10 => ?_)
  · exact absurd c10 (by decide)
  refine Gl.aloadN Y6 rfl rfl dP_13 rfl ?_
  refine Gl.getF Y6 (host := "") (Or.inl (tw_15 hw)) Via.refl F_o0_words dP_14 rfl (fun T14 Y14 => ?_)
  refine Gl.iloadN Y14 rfl dP_17 rfl ?_
  refine Gl.aloadN Y14 rfl rfl dP_18 rfl ?_
  refine Gl.getF Y14 (host := "") (Or.inl (tw_15 hw)) Via.refl F_o0_words dP_19 rfl (fun T19 Y19 => ?_)
  refine Gl.iloadN Y19 rfl dP_22 rfl ?_
  refine Gl.laload Y19 V_o1 ⟨by decide, by decide⟩ (v := (.long (-9223372036854775808))) rfl dP_23 rfl ?_
  refine Gl.ldcJ Y19 (tw_85 hw) dP_24 rfl ?_
  refine Gl.lxor Y19 (r := (9223372036854775807 : Int64)) (by decide) dP_27 rfl ?_
  refine Gl.lloadN Y19 rfl dP_28 rfl ?_
  refine Gl.ladd Y19 (r := (-9223372036854775808 : Int64)) (by decide) dP_29 rfl ?_
  refine Gl.lastore Y19 V_o1 (v := (.long (-9223372036854775808))) rfl ⟨by decide, by decide⟩ (ix := 0) rfl (Nat.le_of_ble_eq_true rfl) g_o1 dP_30 rfl (fun T30 h30 Y30 W30 A30 => ?_)
  have A30 : Arv Z h30 o1 k_o1 .long (2 : Int32) [(.long (-9223372036854775808)), (.long 1)] (.long 0) := A30
  have K30 : Keep h0 h30 [o0, o1, o2] := (Keep.refl h0 [o0, o1, o2]).wr W30 (Or.inl (List.mem_of_getElem? (i := 1) rfl))
  show Gl p e below _ (T30.setTop (mkF m 31 _ []))
  refine Gl.lloadN Y30 rfl dP_31 rfl ?_
  refine Gl.aloadN Y30 rfl rfl dP_32 rfl ?_
  have f1 := (Fld.other W30 F_o0_words (Or.inl n_o0_o1))
  refine Gl.getF Y30 (host := "") (Or.inl (tw_15 hw)) Via.refl f1 dP_33 rfl (fun T33 Y33 => ?_)
  refine Gl.iloadN Y33 rfl dP_36 rfl ?_
  refine Gl.laload Y33 A30 ⟨by decide, by decide⟩ (v := (.long (-9223372036854775808))) rfl dP_37 rfl ?_
  refine Gl.lconst Y33 (v := (0 : Int64)) (by decide) dP_38 rfl ?_
  refine Gl.lcmpne Y33 dP_39 rfl dP_40 (by decide) rfl rfl (fun c40 => ?_) (fun c40 => ?_)
  rotate_left
  · exact absurd c40 (by decide)
  refine Gl.lconst Y33 (v := (0 : Int64)) (by decide) dP_47 rfl ?_
  refine Gl.land Y33 (r := (0 : Int64)) (by decide) dP_48 rfl ?_
  refine Gl.lstoreN Y33 (L' := #[.val (.ref o0), .val (.long 0), .second, .val (.int 0)]) rfl dP_49 rfl ?_
  refine Gl.iinc Y33 rfl (r := (1 : Int32)) (by decide) (L' := #[.val (.ref o0), .val (.long 0), .second, .val (.int 1)]) rfl dP_50 rfl ?_
  refine Gl.goto Y33 dP_53 (by decide) rfl ?_
  refine Gl.iloadN Y33 rfl dP_4 rfl ?_
  refine Gl.aloadN Y33 rfl rfl dP_5 rfl ?_
  refine Gl.getF Y33 (host := "") (Or.inl (tw_15 hw)) Via.refl f1 dP_6 rfl (fun T6_2 Y6_2 => ?_)
  refine Gl.arraylength Y6_2 A30 dP_9 rfl ?_
  refine Gl.icmpge Y6_2 dP_10 (by decide) rfl rfl (fun c10_2 => ?_) (fun c10_2 => ?_)
  · exact absurd c10_2 (by decide)
  refine Gl.aloadN Y6_2 rfl rfl dP_13 rfl ?_
  refine Gl.getF Y6_2 (host := "") (Or.inl (tw_15 hw)) Via.refl f1 dP_14 rfl (fun T14_2 Y14_2 => ?_)
  refine Gl.iloadN Y14_2 rfl dP_17 rfl ?_
  refine Gl.aloadN Y14_2 rfl rfl dP_18 rfl ?_
  refine Gl.getF Y14_2 (host := "") (Or.inl (tw_15 hw)) Via.refl f1 dP_19 rfl (fun T19_2 Y19_2 => ?_)
  refine Gl.iloadN Y19_2 rfl dP_22 rfl ?_
  refine Gl.laload Y19_2 A30 ⟨by decide, by decide⟩ (v := (.long 1)) rfl dP_23 rfl ?_
  refine Gl.ldcJ Y19_2 (tw_85 hw) dP_24 rfl ?_
  refine Gl.lxor Y19_2 (r := (-2 : Int64)) (by decide) dP_27 rfl ?_
  refine Gl.lloadN Y19_2 rfl dP_28 rfl ?_
  refine Gl.ladd Y19_2 (r := (-2 : Int64)) (by decide) dP_29 rfl ?_
  refine Gl.lastore Y19_2 A30 (v := (.long (-2))) rfl ⟨by decide, by decide⟩ (ix := 1) rfl (Nat.le_of_ble_eq_true rfl) g_o1 dP_30 rfl (fun T30_2 h30_2 Y30_2 W30_2 A30_2 => ?_)
  have A30_2 : Arv Z h30_2 o1 k_o1 .long (2 : Int32) [(.long (-9223372036854775808)), (.long (-2))] (.long 0) := A30_2
  have K30_2 : Keep h0 h30_2 [o0, o1, o2] := K30.wr W30_2 (Or.inl (List.mem_of_getElem? (i := 1) rfl))
  show Gl p e below _ (T30_2.setTop (mkF m 31 _ []))
  refine Gl.lloadN Y30_2 rfl dP_31 rfl ?_
  refine Gl.aloadN Y30_2 rfl rfl dP_32 rfl ?_
  have f2 := (Fld.other W30_2 f1 (Or.inl n_o0_o1))
  refine Gl.getF Y30_2 (host := "") (Or.inl (tw_15 hw)) Via.refl f2 dP_33 rfl (fun T33_2 Y33_2 => ?_)
  refine Gl.iloadN Y33_2 rfl dP_36 rfl ?_
  refine Gl.laload Y33_2 A30_2 ⟨by decide, by decide⟩ (v := (.long (-2))) rfl dP_37 rfl ?_
  refine Gl.lconst Y33_2 (v := (0 : Int64)) (by decide) dP_38 rfl ?_
  refine Gl.lcmpne Y33_2 dP_39 rfl dP_40 (by decide) rfl rfl (fun c40_2 => ?_) (fun c40_2 => ?_)
  rotate_left
  · exact absurd c40_2 (by decide)
  refine Gl.lconst Y33_2 (v := (0 : Int64)) (by decide) dP_47 rfl ?_
  refine Gl.land Y33_2 (r := (0 : Int64)) (by decide) dP_48 rfl ?_
  refine Gl.lstoreN Y33_2 (L' := #[.val (.ref o0), .val (.long 0), .second, .val (.int 1)]) rfl dP_49 rfl ?_
  refine Gl.iinc Y33_2 rfl (r := (2 : Int32)) (by decide) (L' := #[.val (.ref o0), .val (.long 0), .second, .val (.int 2)]) rfl dP_50 rfl ?_
  refine Gl.goto Y33_2 dP_53 (by decide) rfl ?_
  refine Gl.iloadN Y33_2 rfl dP_4 rfl ?_
  refine Gl.aloadN Y33_2 rfl rfl dP_5 rfl ?_
  refine Gl.getF Y33_2 (host := "") (Or.inl (tw_15 hw)) Via.refl f2 dP_6 rfl (fun T6_3 Y6_3 => ?_)
  refine Gl.arraylength Y6_3 A30_2 dP_9 rfl ?_
  refine Gl.icmpge Y6_3 dP_10 (by decide) rfl rfl (fun c10_3 => ?_) (fun c10_3 => ?_)
  rotate_left
  · exact absurd c10_3 (by decide)
  refine Gl.aloadN Y6_3 rfl rfl dP_56 rfl ?_
  have f3 := (Exa.wr W30_2 (Exa.wr W30 E_o0))
  have f4 := (Fld.other W30_2 (Fld.other W30 F_o0_work (Or.inl n_o0_o1)) (Or.inl n_o0_o1))
  have f5 := ((V_o2.other W30 (Ne.symm n_o1_o2)).other W30_2 (Ne.symm n_o1_o2))
  exact Gl.retA Y6_3 (by decide) (by decide) rfl rfl dP_57 ⟨rfl, K30_2, f3, f2, f4, A30_2, f5⟩
theorem dK_231 : decode prog_137_method_15_code 231 = .ok (.goto 4, 3) := by decide +kernel
theorem dK_235 : decode prog_137_method_15_code 235 = .ok (.areturn, 1) := by decide +kernel
def RA40 : Room := { frames := 3, cells := 1, slots := 6, locals := 69 }
def QA40 (Z : State) (o0 : Addr) (o1 : Addr) (o2 : Addr) (o3 : Addr) (k_o2 : ClassId) (k_o3 : ClassId) (h0 : Heap) (v : Option Value) (h : Heap) : Prop := ∃ b1729 : Addr, ∃ ck1729 : ClassId, v = some (.ref o0) ∧ Keep h0 h [o0, o1, o2, o3] ∧ h0.size ≤ b1729 ∧ Exa Z h o0 kW ∧ Exa Z h o1 kW ∧ Fld Z h o0 kW "words" "[J" (.ref o2) ∧ Fld Z h o0 kW "work" "[J" (.ref b1729) ∧ Fld Z h o1 kW "words" "[J" (.ref o3) ∧ Fld Z h o1 kW "work" "[J" .null ∧ Arv Z h b1729 ck1729 .long (6 : Int32) [(.long 3), (.long 0), (.long 0), (.long 0), (.long 0), (.long 0)] (.long 0) ∧ Arv Z h o2 k_o2 .long (2 : Int32) [(.long (-9223372036854775808)), (.long (-2))] (.long 0) ∧ Arv Z h o3 k_o3 .long (2 : Int32) [(.long 3), (.long 0)] (.long 0)
theorem efA40 (o0 : Addr) (o1 : Addr) (m : MethodId) : entryFrame m #[(.ref o0), (.ref o1)] 10 = mkF m 0 #[.val (.ref o0), .val (.ref o1), .unset, .unset, .unset, .unset, .unset, .unset, .unset, .unset] [] := by first | (simp [entryFrame, mkF, argsToLocals, Value.category]; done) | rfl
theorem rmA40 (l : Launch) (Z : State) (a0 : Array Value) (hw : HW a0 Z) (ws : List Jvm.Cond) (o0 : Addr) (o1 : Addr) (o2 : Addr) (o3 : Addr) (k_o2 : ClassId) (k_o3 : ClassId) (h0 : Heap) (n0 : Nat) (Z0 : n0 ≤ h0.size) (E_o0 : Exa Z h0 o0 kW) (F_o0_words : Fld Z h0 o0 kW "words" "[J" (.ref o2)) (F_o0_work : Fld Z h0 o0 kW "work" "[J" .null) (g_o0 : n0 ≤ o0) (E_o1 : Exa Z h0 o1 kW) (F_o1_words : Fld Z h0 o1 kW "words" "[J" (.ref o3)) (F_o1_work : Fld Z h0 o1 kW "work" "[J" .null) (g_o1 : n0 ≤ o1) (V_o2 : Arv Z h0 o2 k_o2 .long (2 : Int32) [(.long (-9223372036854775808)), (.long (-1))] (.long 0)) (g_o2 : n0 ≤ o2) (V_o3 : Arv Z h0 o3 k_o3 .long (2 : Int32) [(.long 3), (.long 0)] (.long 0)) (g_o3 : n0 ≤ o3) (n_o0_o1 : own_ne o0 o1) (n_o0_o2 : own_ne o0 o2) (n_o0_o3 : own_ne o0 o3) (n_o1_o2 : own_ne o1 o2) (n_o1_o3 : own_ne o1 o3) (n_o2_o3 : own_ne o2 o3) : OMet l Z ws (⟨"com/example/meterwise/meterwise/model/WholeNumber", "multiply", "(Lcom/example/meterwise/meterwise/model/WholeNumber;)Lcom/example/meterwise/meterwise/model/WholeNumber;"⟩ : MethodName) prog_137_method_15_code 10 (some (.object "com/example/meterwise/meterwise/model/WholeNumber")) RA40 #[(.ref o0), (.ref o1)] h0 n0 (QA40 Z o0 o1 o2 o3 k_o2 k_o3 h0) := by
  refine OMet.of (own := "com/example/meterwise/meterwise/model/WholeNumber") rfl (plainFor_of_name pn_0) (efA40 o0 o1) Z0 ?_
  intro p e s m below meth c T0 Y0 hnm
  refine Gl.aloadN Y0 rfl rfl dK_0 rfl ?_
  refine Gl.callV Y0 (tw_36 hw) (tw_37 hw) (tw_39 hw) (tw_39 hw) (tw_38 hw) (tw_3 hw) (tw_40 hw) (by decide) E_o0 (rmA41 l Z a0 hw [] o0 o2 k_o2 h0 n0 Y0.sz E_o0 F_o0_words F_o0_work g_o0 V_o2 g_o2 n_o0_o2) (a := o0) (argsL := []) (rest := []) rfl rfl (lenOf pd_5 rfl) rfl (by decide) (Nat.le_of_ble_eq_true rfl) (by decide) (by decide) dK_1 rfl (fun v1 T1 h1 Y1 q1 => ?_)
  obtain ⟨rfl, rfl⟩ := q1
  show Gl p e below _ (T1.setTop (mkF m 4 _ [(.int 0)]))
  refine Gl.ifne Y1 dK_4 (by decide) rfl rfl (fun c4 => ?_) (fun c4 => ?_)
  · exact absurd c4 (by decide)
  refine Gl.aloadN Y1 rfl rfl dK_7 rfl ?_
  refine Gl.callV Y1 (tw_36 hw) (tw_37 hw) (tw_39 hw) (tw_39 hw) (tw_38 hw) (tw_3 hw) (tw_40 hw) (by decide) E_o1 (rmA42 l Z a0 hw [] o1 o3 k_o3 h0 n0 Y1.sz E_o1 F_o1_words F_o1_work g_o1 V_o3 g_o3 n_o1_o3) (a := o1) (argsL := []) (rest := []) rfl rfl (lenOf pd_5 rfl) rfl (by decide) (Nat.le_of_ble_eq_true rfl) (by decide) (by decide) dK_8 rfl (fun v8 T8 h8 Y8 q8 => ?_)
  obtain ⟨rfl, rfl⟩ := q8
  show Gl p e below _ (T8.setTop (mkF m 11 _ [(.int 0)]))
  refine Gl.ifeq Y8 dK_11 (by decide) rfl rfl (fun c11 => ?_) (fun c11 => ?_)
  rotate_left
  · exact absurd c11 (by decide)
  refine Gl.aloadN Y8 rfl rfl dK_19 rfl ?_
  refine Gl.callV Y8 (tw_69 hw) (tw_70 hw) (tw_72 hw) (tw_72 hw) (tw_71 hw) (tw_3 hw) (tw_73 hw) (by decide) E_o0 (rmA43 l Z a0 hw [] o0 o2 k_o2 h0 n0 Y8.sz E_o0 F_o0_words F_o0_work g_o0 V_o2 g_o2 n_o0_o2) (a := o0) (argsL := []) (rest := []) rfl rfl (lenOf pd_10 rfl) rfl (by decide) (Nat.le_of_ble_eq_true rfl) (by decide) (by decide) dK_20 rfl (fun v20 T20 h20 Y20 q20 => ?_)
  obtain ⟨rfl, rfl⟩ := q20
  show Gl p e below _ (T20.setTop (mkF m 23 _ [(.int (-1))]))
  refine Gl.ifne Y20 dK_23 (by decide) rfl rfl (fun c23 => ?_) (fun c23 => ?_)
  rotate_left
  · exact absurd c23 (by decide)
  refine Gl.aloadN Y20 rfl rfl dK_28 rfl ?_
  refine Gl.callP Y20 (tw_74 hw) (tw_75 hw) (tw_76 hw) (tw_2 hw) (tw_3 hw) (tw_77 hw) (by decide) E_o0 (rmA44 l Z a0 hw [] o0 o2 k_o2 h0 n0 Y20.sz E_o0 F_o0_words F_o0_work g_o0 V_o2 g_o2 n_o0_o2) (a := o0) (argsL := []) (rest := []) rfl rfl (lenOf pd_11 rfl) rfl (by decide) (Nat.le_of_ble_eq_true rfl) (by decide) (by decide) dK_29 rfl (fun v29 T29 h29 Y29 q29 => ?_)
  obtain ⟨b1729, ck1729, rfl, K29, f29_0, f29_1, f29_2, f29_3, f29_4, f29_5⟩ := q29
  have Y29_sz : n0 ≤ h0.size := Y20.sz
  have KK29 : Keep h0 h29 [o0, o1, o2, o3] := (Keep.refl h0 [o0, o1, o2, o3]).trans K29 (allS (Or.inl (List.mem_of_getElem? (i := 0) rfl)) (allS (Or.inl (List.mem_of_getElem? (i := 2) rfl)) all0))
  have zb1729 : h0.size ≤ b1729 := Nat.le_trans (Keep.refl h0 [o0, o1, o2, o3]).1 f29_0
  show Gl p e below _ (T29.setTop (mkF m 32 _ [(.ref b1729)]))
  refine Gl.astoreN Y29 rfl (L' := #[.val (.ref o0), .val (.ref o1), .val (.ref b1729), .unset, .unset, .unset, .unset, .unset, .unset, .unset]) rfl dK_32 rfl ?_
  refine Gl.aloadN Y29 rfl rfl dK_33 rfl ?_
  have f1 := (E_o1.keep K29)
  have f2 := (F_o1_words.keep K29 (ninS (Ne.symm n_o0_o1) (ninS n_o1_o2 nin0)))
  have f3 := (V_o3.keep K29 (ninS (Ne.symm n_o0_o3) (ninS (Ne.symm n_o2_o3) nin0)))
  refine Gl.callP Y29 (tw_41 hw) (tw_42 hw) (tw_43 hw) (tw_2 hw) (tw_3 hw) (tw_44 hw) (by decide) f1 (rm10 l Z a0 hw [] o1 o3 k_o3 (3 : Int64) (0 : Int64) h29 n0 Y29.sz f1 f2 f3) (a := o1) (argsL := []) (rest := []) rfl rfl (lenOf pd_4 rfl) rfl (by decide) (Nat.le_of_ble_eq_true rfl) (by decide) (by decide) dK_34 rfl (fun v34 T34 h34 Y34 q34 => ?_)
  obtain ⟨rfl, rfl⟩ := q34
  show Gl p e below _ (T34.setTop (mkF m 37 _ [(.long 0)]))
  refine Gl.lconst Y34 (v := (0 : Int64)) (by decide) dK_37 rfl ?_
  refine Gl.lcmpge Y34 dK_38 rfl dK_39 (by decide) rfl rfl (fun c39 => ?_) (fun c39 => ?_)
  rotate_left
  · exact absurd c39 (by decide)
  refine Gl.iconst Y34 (v := (0 : Int32)) (by decide) dK_46 rfl ?_
  refine Gl.istoreN Y34 (L' := #[.val (.ref o0), .val (.ref o1), .val (.ref b1729), .val (.int 0), .unset, .unset, .unset, .unset, .unset, .unset]) rfl dK_47 rfl ?_
  refine Gl.iconst Y34 (v := (0 : Int32)) (by decide) dK_48 rfl ?_
  refine Gl.istore Y34 (L' := #[.val (.ref o0), .val (.ref o1), .val (.ref b1729), .val (.int 0), .val (.int 0), .unset, .unset, .unset, .unset, .unset]) rfl dK_49 rfl ?_
  refine Gl.lconst Y34 (v := (1 : Int64)) (by decide) dK_51 rfl ?_
  refine Gl.lstore Y34 (L' := #[.val (.ref o0), .val (.ref o1), .val (.ref b1729), .val (.int 0), .val (.int 0), .val (.long 1), .second, .unset, .unset, .unset]) rfl dK_52 rfl ?_
  refine Gl.iconst Y34 (v := (0 : Int32)) (by decide) dK_54 rfl ?_
  refine Gl.istore Y34 (L' := #[.val (.ref o0), .val (.ref o1), .val (.ref b1729), .val (.int 0), .val (.int 0), .val (.long 1), .second, .val (.int 0), .unset, .unset]) rfl dK_55 rfl ?_
  refine Gl.iload Y34 rfl dK_57 rfl ?_
  refine Gl.aloadN Y34 rfl rfl dK_59 rfl ?_
  refine Gl.getF Y34 (host := "") (Or.inl (tw_15 hw)) Via.refl f2 dK_60 rfl (fun T60 Y60 => ?_)
  refine Gl.arraylength Y60 f3 dK_63 rfl ?_
  refine Gl.icmpge Y60 dK_64 (by decide) rfl rfl (fun c64 => ?_) (fun c64 => ?_)
  · exact absurd c64 (by decide)
  refine Gl.aloadN Y60 rfl rfl dK_67 rfl ?_
  refine Gl.getF Y60 (host := "") (Or.inl (tw_15 hw)) Via.refl f2 dK_68 rfl (fun T68 Y68 => ?_)
  refine Gl.iload Y68 rfl dK_71 rfl ?_
  refine Gl.laload Y68 f3 ⟨by decide, by decide⟩ (v := (.long 3)) rfl dK_73 rfl ?_
  refine Gl.lstore Y68 (L' := #[.val (.ref o0), .val (.ref o1), .val (.ref b1729), .val (.int 0), .val (.int 0), .val (.long 1), .second, .val (.int 0), .val (.long 3), .second]) rfl dK_74 rfl ?_
  refine Gl.iloadN Y68 rfl dK_76 rfl ?_
  refine Gl.ifeq Y68 dK_77 (by decide) rfl rfl (fun c77 => ?_) (fun c77 => ?_)
  rotate_left
  · exact absurd c77 (by decide)
  refine Gl.lload Y68 rfl dK_108 rfl ?_
  refine Gl.lconst Y68 (v := (0 : Int64)) (by decide) dK_110 rfl ?_
  refine Gl.lcmpeq Y68 dK_111 rfl dK_112 (by decide) rfl rfl (fun c112 => ?_) (fun c112 => ?_)
  · exact absurd c112 (by decide)
  refine Gl.iload Y68 rfl dK_115 rfl ?_
  refine Gl.iconst Y68 (v := (1 : Int32)) (by decide) dK_117 rfl ?_
  refine Gl.iadd Y68 (r := (1 : Int32)) (by decide) dK_118 rfl ?_
  refine Gl.goto Y68 dK_119 (by decide) rfl ?_
  refine Gl.istore Y68 (L' := #[.val (.ref o0), .val (.ref o1), .val (.ref b1729), .val (.int 0), .val (.int 1), .val (.long 1), .second, .val (.int 0), .val (.long 3), .second]) rfl dK_124 rfl ?_
  refine Gl.iload Y68 rfl dK_126 rfl ?_
  refine Gl.aloadN Y68 rfl rfl dK_128 rfl ?_
  refine Gl.getF Y68 (host := "") (Or.inl (tw_15 hw)) Via.refl f29_2 dK_129 rfl (fun T129 Y129 => ?_)
  refine Gl.arraylength Y129 f29_5 dK_132 rfl ?_
  refine Gl.icmpgt Y129 dK_133 (by decide) rfl rfl (fun c133 => ?_) (fun c133 => ?_)
  · exact absurd c133 (by decide)
  refine Gl.aloadN Y129 rfl rfl dK_136 rfl ?_
  refine Gl.iload Y129 rfl dK_137 rfl ?_
  refine Gl.lload Y129 rfl dK_139 rfl ?_
  refine Gl.lastore Y129 f29_4 (v := (.long 3)) rfl ⟨by decide, by decide⟩ (ix := 0) rfl (Nat.le_of_ble_eq_true rfl) (Nat.le_trans Y29_sz f29_0) dK_141 rfl (fun T141 h141 Y141 W141 A141 => ?_)
  have A141 : Arv Z h141 b1729 ck1729 .long (6 : Int32) [(.long 3), (.long 0), (.long 0), (.long 0), (.long 0), (.long 0)] (.long 0) := A141
  have K141 : Keep h0 h141 [o0, o1, o2, o3] := KK29.wr W141 (Or.inr zb1729)
  show Gl p e below _ (T141.setTop (mkF m 142 _ []))
  refine Gl.iinc Y141 rfl (r := (1 : Int32)) (by decide) (L' := #[.val (.ref o0), .val (.ref o1), .val (.ref b1729), .val (.int 0), .val (.int 1), .val (.long 1), .second, .val (.int 1), .val (.long 3), .second]) rfl dK_142 rfl ?_
  refine Gl.goto Y141 dK_145 (by decide) rfl ?_
  refine Gl.iload Y141 rfl dK_57 rfl ?_
  refine Gl.aloadN Y141 rfl rfl dK_59 rfl ?_
  have f4 := (Fld.other W141 f2 (Or.inl (Nat.ne_of_lt (Nat.lt_of_lt_of_le E_o1.lt f29_0))))
  refine Gl.getF Y141 (host := "") (Or.inl (tw_15 hw)) Via.refl f4 dK_60 rfl (fun T60_2 Y60_2 => ?_)
  have f5 := (f3.other W141 (Nat.ne_of_lt (Nat.lt_of_lt_of_le V_o3.lt f29_0)))
  refine Gl.arraylength Y60_2 f5 dK_63 rfl ?_
  refine Gl.icmpge Y60_2 dK_64 (by decide) rfl rfl (fun c64_2 => ?_) (fun c64_2 => ?_)
  · exact absurd c64_2 (by decide)
  refine Gl.aloadN Y60_2 rfl rfl dK_67 rfl ?_
  refine Gl.getF Y60_2 (host := "") (Or.inl (tw_15 hw)) Via.refl f4 dK_68 rfl (fun T68_2 Y68_2 => ?_)
  refine Gl.iload Y68_2 rfl dK_71 rfl ?_
  refine Gl.laload Y68_2 f5 ⟨by decide, by decide⟩ (v := (.long 0)) rfl dK_73 rfl ?_
  refine Gl.lstore Y68_2 (L' := #[.val (.ref o0), .val (.ref o1), .val (.ref b1729), .val (.int 0), .val (.int 1), .val (.long 1), .second, .val (.int 1), .val (.long 0), .second]) rfl dK_74 rfl ?_
  refine Gl.iloadN Y68_2 rfl dK_76 rfl ?_
  refine Gl.ifeq Y68_2 dK_77 (by decide) rfl rfl (fun c77_2 => ?_) (fun c77_2 => ?_)
  rotate_left
  · exact absurd c77_2 (by decide)
  refine Gl.lload Y68_2 rfl dK_108 rfl ?_
  refine Gl.lconst Y68_2 (v := (0 : Int64)) (by decide) dK_110 rfl ?_
  refine Gl.lcmpeq Y68_2 dK_111 rfl dK_112 (by decide) rfl rfl (fun c112_2 => ?_) (fun c112_2 => ?_)
  rotate_left
  · exact absurd c112_2 (by decide)
  refine Gl.iload Y68_2 rfl dK_122 rfl ?_
  refine Gl.istore Y68_2 (L' := #[.val (.ref o0), .val (.ref o1), .val (.ref b1729), .val (.int 0), .val (.int 1), .val (.long 1), .second, .val (.int 1), .val (.long 0), .second]) rfl dK_124 rfl ?_
  refine Gl.iload Y68_2 rfl dK_126 rfl ?_
  refine Gl.aloadN Y68_2 rfl rfl dK_128 rfl ?_
  have f6 := (Fld.other W141 f29_2 (Or.inl (Nat.ne_of_lt (Nat.lt_of_lt_of_le E_o0.lt f29_0))))
  refine Gl.getF Y68_2 (host := "") (Or.inl (tw_15 hw)) Via.refl f6 dK_129 rfl (fun T129_2 Y129_2 => ?_)
  have f7 := (f29_5.other W141 (Nat.ne_of_lt (Nat.lt_of_lt_of_le V_o2.lt f29_0)))
  refine Gl.arraylength Y129_2 f7 dK_132 rfl ?_
  refine Gl.icmpgt Y129_2 dK_133 (by decide) rfl rfl (fun c133_2 => ?_) (fun c133_2 => ?_)
  · exact absurd c133_2 (by decide)
  refine Gl.aloadN Y129_2 rfl rfl dK_136 rfl ?_
  refine Gl.iload Y129_2 rfl dK_137 rfl ?_
  refine Gl.lload Y129_2 rfl dK_139 rfl ?_
  refine Gl.lastore Y129_2 A141 (v := (.long 0)) rfl ⟨by decide, by decide⟩ (ix := 1) rfl (Nat.le_of_ble_eq_true rfl) (Nat.le_trans Y29_sz f29_0) dK_141 rfl (fun T141_2 h141_2 Y141_2 W141_2 A141_2 => ?_)
  have A141_2 : Arv Z h141_2 b1729 ck1729 .long (6 : Int32) [(.long 3), (.long 0), (.long 0), (.long 0), (.long 0), (.long 0)] (.long 0) := A141_2
  have K141_2 : Keep h0 h141_2 [o0, o1, o2, o3] := K141.wr W141_2 (Or.inr zb1729)
  show Gl p e below _ (T141_2.setTop (mkF m 142 _ []))
  refine Gl.iinc Y141_2 rfl (r := (2 : Int32)) (by decide) (L' := #[.val (.ref o0), .val (.ref o1), .val (.ref b1729), .val (.int 0), .val (.int 1), .val (.long 1), .second, .val (.int 2), .val (.long 0), .second]) rfl dK_142 rfl ?_
  refine Gl.goto Y141_2 dK_145 (by decide) rfl ?_
  refine Gl.iload Y141_2 rfl dK_57 rfl ?_
  refine Gl.aloadN Y141_2 rfl rfl dK_59 rfl ?_
  have f8 := (Fld.other W141_2 f4 (Or.inl (Nat.ne_of_lt (Nat.lt_of_lt_of_le E_o1.lt f29_0))))
  refine Gl.getF Y141_2 (host := "") (Or.inl (tw_15 hw)) Via.refl f8 dK_60 rfl (fun T60_3 Y60_3 => ?_)
  have f9 := (f5.other W141_2 (Nat.ne_of_lt (Nat.lt_of_lt_of_le V_o3.lt f29_0)))
  refine Gl.arraylength Y60_3 f9 dK_63 rfl ?_
  refine Gl.icmpge Y60_3 dK_64 (by decide) rfl rfl (fun c64_3 => ?_) (fun c64_3 => ?_)
  rotate_left
  · exact absurd c64_3 (by decide)
  refine Gl.aloadN Y60_3 rfl rfl dK_148 rfl ?_
  have f10 := (Exa.wr W141_2 (Exa.wr W141 f29_1))
  have f11 := (Fld.other W141_2 f6 (Or.inl (Nat.ne_of_lt (Nat.lt_of_lt_of_le E_o0.lt f29_0))))
  have f12 := (f7.other W141_2 (Nat.ne_of_lt (Nat.lt_of_lt_of_le V_o2.lt f29_0)))
  refine Gl.callP Y60_3 (tw_41 hw) (tw_42 hw) (tw_43 hw) (tw_2 hw) (tw_3 hw) (tw_44 hw) (by decide) f10 (rm10 l Z a0 hw [] o0 o2 k_o2 (-9223372036854775808 : Int64) (-1 : Int64) h141_2 n0 Y60_3.sz f10 f11 f12) (a := o0) (argsL := []) (rest := []) rfl rfl (lenOf pd_4 rfl) rfl (by decide) (Nat.le_of_ble_eq_true rfl) (by decide) (by decide) dK_149 rfl (fun v149 T149 h149 Y149 q149 => ?_)
  obtain ⟨rfl, rfl⟩ := q149
  show Gl p e below _ (T149.setTop (mkF m 152 _ [(.long (-1))]))
  refine Gl.lconst Y149 (v := (0 : Int64)) (by decide) dK_152 rfl ?_
  refine Gl.lcmpge Y149 dK_153 rfl dK_154 (by decide) rfl rfl (fun c154 => ?_) (fun c154 => ?_)
  · exact absurd c154 (by decide)
  refine Gl.iconst Y149 (v := (1 : Int32)) (by decide) dK_157 rfl ?_
  refine Gl.goto Y149 dK_158 (by decide) rfl ?_
  refine Gl.iloadN Y149 rfl dK_162 rfl ?_
  refine Gl.icmpeq Y149 dK_163 (by decide) rfl rfl (fun c163 => ?_) (fun c163 => ?_)
  · exact absurd c163 (by decide)
  refine Gl.iconst Y149 (v := (1 : Int32)) (by decide) dK_166 rfl ?_
  refine Gl.goto Y149 dK_167 (by decide) rfl ?_
  refine Gl.istore Y149 (L' := #[.val (.ref o0), .val (.ref o1), .val (.ref b1729), .val (.int 0), .val (.int 1), .val (.long 1), .second, .val (.int 1), .val (.long 0), .second]) rfl dK_171 rfl ?_
  refine Gl.aloadN Y149 rfl rfl dK_173 rfl ?_
  refine Gl.callP Y149 (tw_41 hw) (tw_42 hw) (tw_43 hw) (tw_2 hw) (tw_3 hw) (tw_44 hw) (by decide) f10 (rm10 l Z a0 hw [] o0 o2 k_o2 (-9223372036854775808 : Int64) (-1 : Int64) h141_2 n0 Y149.sz f10 f11 f12) (a := o0) (argsL := []) (rest := []) rfl rfl (lenOf pd_4 rfl) rfl (by decide) (Nat.le_of_ble_eq_true rfl) (by decide) (by decide) dK_174 rfl (fun v174 T174 h174 Y174 q174 => ?_)
  obtain ⟨rfl, rfl⟩ := q174
  show Gl p e below _ (T174.setTop (mkF m 177 _ [(.long (-1))]))
  refine Gl.lconst Y174 (v := (0 : Int64)) (by decide) dK_177 rfl ?_
  refine Gl.lcmpge Y174 dK_178 rfl dK_179 (by decide) rfl rfl (fun c179 => ?_) (fun c179 => ?_)
  · exact absurd c179 (by decide)
  refine Gl.aloadN Y174 rfl rfl dK_182 rfl ?_
  have f13 := (Fld.other W141_2 (Fld.other W141 f29_3 (Or.inl (Nat.ne_of_lt (Nat.lt_of_lt_of_le E_o0.lt f29_0)))) (Or.inl (Nat.ne_of_lt (Nat.lt_of_lt_of_le E_o0.lt f29_0))))
  refine Gl.callV Y174 (tw_80 hw) (tw_81 hw) (tw_83 hw) (tw_83 hw) (tw_82 hw) (tw_3 hw) (tw_84 hw) (by decide) f10 (rmA45 l Z a0 hw [] o0 o2 b1729 k_o2 ck1729 h141_2 n0 Y174.sz f10 f11 f13 g_o0 f12 g_o2 A141_2 (Nat.le_trans Y29_sz f29_0) n_o0_o2 (Nat.ne_of_lt (Nat.lt_of_lt_of_le E_o0.lt f29_0)) (Nat.ne_of_lt (Nat.lt_of_lt_of_le V_o2.lt f29_0))) (a := o0) (argsL := []) (rest := []) rfl rfl (lenOf pd_7 rfl) rfl (by decide) (Nat.le_of_ble_eq_true rfl) (by decide) (by decide) dK_183 rfl (fun v183 T183 h183 Y183 q183 => ?_)
  obtain ⟨rfl, K183, f183_0, f183_1, f183_2, f183_3, f183_4⟩ := q183
  have KK183 : Keep h0 h183 [o0, o1, o2, o3] := K141_2.trans K183 (allS (Or.inl (List.mem_of_getElem? (i := 0) rfl)) (allS (Or.inl (List.mem_of_getElem? (i := 2) rfl)) (allS (Or.inr zb1729) all0)))
  show Gl p e below _ (T183.setTop (mkF m 186 _ [(.ref o0)]))
  refine Gl.pop Y183 rfl dK_186 rfl ?_
  refine Gl.iload Y183 rfl dK_187 rfl ?_
  refine Gl.iconst Y183 (v := (1 : Int32)) (by decide) dK_189 rfl ?_
  refine Gl.icmpne Y183 dK_190 (by decide) rfl rfl (fun c190 => ?_) (fun c190 => ?_)
  · exact absurd c190 (by decide)
  refine Gl.aloadN Y183 rfl rfl dK_193 rfl ?_
  refine Gl.aloadN Y183 rfl rfl dK_194 rfl ?_
  refine Gl.iconst Y183 (v := (0 : Int32)) (by decide) dK_195 rfl ?_
  refine Gl.laload Y183 f183_4 ⟨by decide, by decide⟩ (v := (.long 3)) rfl dK_196 rfl ?_
  refine Gl.callP Y183 (tw_86 hw) (tw_87 hw) (tw_88 hw) (tw_2 hw) (tw_3 hw) (tw_89 hw) (by decide) f183_0 (rmA46 l Z a0 hw [] o0 o2 b1729 k_o2 ck1729 h183 n0 Y183.sz f183_0 f183_1 f183_2 g_o0 f183_3 g_o2 f183_4 (Nat.le_trans Y29_sz f29_0) n_o0_o2 (Nat.ne_of_lt (Nat.lt_of_lt_of_le E_o0.lt f29_0)) (Nat.ne_of_lt (Nat.lt_of_lt_of_le V_o2.lt f29_0))) (a := o0) (argsL := [(.long 3)]) (rest := []) rfl rfl (lenOf pd_14 rfl) rfl (by decide) (Nat.le_of_ble_eq_true rfl) (by decide) (by decide) dK_197 rfl (fun v197 T197 h197 Y197 q197 => ?_)
  obtain ⟨rfl, K197, f197_0, f197_1, f197_2, f197_3, f197_4⟩ := q197
  have KK197 : Keep h0 h197 [o0, o1, o2, o3] := KK183.trans K197 (allS (Or.inl (List.mem_of_getElem? (i := 0) rfl)) (allS (Or.inl (List.mem_of_getElem? (i := 2) rfl)) (allS (Or.inr zb1729) all0)))
  show Gl p e below _ (T197.setTop (mkF m 200 _ [(.int 1)]))
  refine Gl.goto Y197 dK_200 (by decide) rfl ?_
  refine Gl.istore Y197 (L' := #[.val (.ref o0), .val (.ref o1), .val (.ref b1729), .val (.int 0), .val (.int 1), .val (.long 1), .second, .val (.int 1), .val (.int 1), .unset]) rfl dK_210 rfl ?_
  refine Gl.iload Y197 rfl dK_212 rfl ?_
  refine Gl.ifne Y197 dK_214 (by decide) rfl rfl (fun c214 => ?_) (fun c214 => ?_)
  rotate_left
  · exact absurd c214 (by decide)
  refine Gl.iload Y197 rfl dK_222 rfl ?_
  refine Gl.ifeq Y197 dK_224 (by decide) rfl rfl (fun c224 => ?_) (fun c224 => ?_)
  · exact absurd c224 (by decide)
  refine Gl.aloadN Y197 rfl rfl dK_227 rfl ?_
  refine Gl.callV Y197 (tw_80 hw) (tw_81 hw) (tw_83 hw) (tw_83 hw) (tw_82 hw) (tw_3 hw) (tw_84 hw) (by decide) f197_0 (rmA55 l Z a0 hw [] o0 o2 b1729 k_o2 ck1729 h197 n0 Y197.sz f197_0 f197_1 f197_2 g_o0 f197_3 g_o2 f197_4 (Nat.le_trans Y29_sz f29_0) n_o0_o2 (Nat.ne_of_lt (Nat.lt_of_lt_of_le E_o0.lt f29_0)) (Nat.ne_of_lt (Nat.lt_of_lt_of_le V_o2.lt f29_0))) (a := o0) (argsL := []) (rest := []) rfl rfl (lenOf pd_7 rfl) rfl (by decide) (Nat.le_of_ble_eq_true rfl) (by decide) (by decide) dK_228 rfl (fun v228 T228 h228 Y228 q228 => ?_)
  obtain ⟨rfl, K228, f228_0, f228_1, f228_2, f228_3, f228_4⟩ := q228
  have KK228 : Keep h0 h228 [o0, o1, o2, o3] := KK197.trans K228 (allS (Or.inl (List.mem_of_getElem? (i := 0) rfl)) (allS (Or.inl (List.mem_of_getElem? (i := 2) rfl)) (allS (Or.inr zb1729) all0)))
  show Gl p e below _ (T228.setTop (mkF m 231 _ [(.ref o0)]))
  refine Gl.goto Y228 dK_231 (by decide) rfl ?_
  have f14 := ((((Exa.wr W141_2 (Exa.wr W141 f1)).keep K183).keep K197).keep K228)
  have f15 := (((f8.keep K183 (ninS (Ne.symm n_o0_o1) (ninS n_o1_o2 (ninS (Nat.ne_of_lt (Nat.lt_of_lt_of_le E_o1.lt f29_0)) nin0)))).keep K197 (ninS (Ne.symm n_o0_o1) (ninS n_o1_o2 (ninS (Nat.ne_of_lt (Nat.lt_of_lt_of_le E_o1.lt f29_0)) nin0)))).keep K228 (ninS (Ne.symm n_o0_o1) (ninS n_o1_o2 (ninS (Nat.ne_of_lt (Nat.lt_of_lt_of_le E_o1.lt f29_0)) nin0))))
  have f16 := ((((Fld.other W141_2 (Fld.other W141 (F_o1_work.keep K29 (ninS (Ne.symm n_o0_o1) (ninS n_o1_o2 nin0))) (Or.inl (Nat.ne_of_lt (Nat.lt_of_lt_of_le E_o1.lt f29_0)))) (Or.inl (Nat.ne_of_lt (Nat.lt_of_lt_of_le E_o1.lt f29_0)))).keep K183 (ninS (Ne.symm n_o0_o1) (ninS n_o1_o2 (ninS (Nat.ne_of_lt (Nat.lt_of_lt_of_le E_o1.lt f29_0)) nin0)))).keep K197 (ninS (Ne.symm n_o0_o1) (ninS n_o1_o2 (ninS (Nat.ne_of_lt (Nat.lt_of_lt_of_le E_o1.lt f29_0)) nin0)))).keep K228 (ninS (Ne.symm n_o0_o1) (ninS n_o1_o2 (ninS (Nat.ne_of_lt (Nat.lt_of_lt_of_le E_o1.lt f29_0)) nin0))))
  have f17 := (((f9.keep K183 (ninS (Ne.symm n_o0_o3) (ninS (Ne.symm n_o2_o3) (ninS (Nat.ne_of_lt (Nat.lt_of_lt_of_le V_o3.lt f29_0)) nin0)))).keep K197 (ninS (Ne.symm n_o0_o3) (ninS (Ne.symm n_o2_o3) (ninS (Nat.ne_of_lt (Nat.lt_of_lt_of_le V_o3.lt f29_0)) nin0)))).keep K228 (ninS (Ne.symm n_o0_o3) (ninS (Ne.symm n_o2_o3) (ninS (Nat.ne_of_lt (Nat.lt_of_lt_of_le V_o3.lt f29_0)) nin0))))
  exact Gl.retA Y228 (by decide) (by decide) rfl rfl dK_235 ⟨b1729, ck1729, rfl, KK228, zb1729, f228_0, f14, f228_1, f228_2, f15, f16, f228_4, f228_3, f17⟩
def RA57 : Room := { frames := 1, cells := 0, slots := 0, locals := 12 }
def QA57 (Z : State) (o0 : Addr) (o1 : Addr) (o2 : Addr) (k_o1 : ClassId) (k_o2 : ClassId) (h0 : Heap) (v : Option Value) (h : Heap) : Prop := v = some (.int 0) ∧ h0 = h
theorem efA57 (o0 : Addr) (m : MethodId) : entryFrame m #[(.ref o0)] 1 = mkF m 0 #[.val (.ref o0)] [] := by first | (simp [entryFrame, mkF, argsToLocals, Value.category]; done) | rfl
theorem rmA57 (l : Launch) (Z : State) (a0 : Array Value) (hw : HW a0 Z) (ws : List Jvm.Cond) (o0 : Addr) (o1 : Addr) (o2 : Addr) (k_o1 : ClassId) (k_o2 : ClassId) (h0 : Heap) (n0 : Nat) (Z0 : n0 ≤ h0.size) (E_o0 : Exa Z h0 o0 kW) (F_o0_words : Fld Z h0 o0 kW "words" "[J" (.ref o1)) (F_o0_work : Fld Z h0 o0 kW "work" "[J" (.ref o2)) (g_o0 : n0 ≤ o0) (V_o1 : Arv Z h0 o1 k_o1 .long (2 : Int32) [(.long (-9223372036854775808)), (.long (-2))] (.long 0)) (g_o1 : n0 ≤ o1) (V_o2 : Arv Z h0 o2 k_o2 .long (6 : Int32) [(.long 3), (.long 0), (.long 0), (.long 0), (.long 0), (.long 0)] (.long 0)) (g_o2 : n0 ≤ o2) (n_o0_o1 : own_ne o0 o1) (n_o0_o2 : own_ne o0 o2) (n_o1_o2 : own_ne o1 o2) : OMet l Z ws (⟨"com/example/meterwise/meterwise/model/WholeNumber", "overflowed", "()Z"⟩ : MethodName) prog_137_method_8_code 1 (some .boolean) RA57 #[(.ref o0)] h0 n0 (QA57 Z o0 o1 o2 k_o1 k_o2 h0) := by
  refine OMet.of (own := "com/example/meterwise/meterwise/model/WholeNumber") rfl (plainFor_of_name pn_0) (efA57 o0) Z0 ?_
  intro p e s m below meth c T0 Y0 hnm
  refine Gl.aloadN Y0 rfl rfl dI_0 rfl ?_
  refine Gl.callP Y0 (tw_41 hw) (tw_42 hw) (tw_43 hw) (tw_2 hw) (tw_3 hw) (tw_44 hw) (by decide) E_o0 (rm10 l Z a0 hw [] o0 o1 k_o1 (-9223372036854775808 : Int64) (-2 : Int64) h0 n0 Y0.sz E_o0 F_o0_words V_o1) (a := o0) (argsL := []) (rest := []) rfl rfl (lenOf pd_4 rfl) rfl (by decide) (Nat.le_of_ble_eq_true rfl) (by decide) (by decide) dI_1 rfl (fun v1 T1 h1 Y1 q1 => ?_)
  obtain ⟨rfl, rfl⟩ := q1
  show Gl p e below _ (T1.setTop (mkF m 4 _ [(.long (-2))]))
  refine Gl.ldcJ Y1 (tw_45 hw) dI_4 rfl ?_
  refine Gl.lcmpne Y1 dI_7 rfl dI_8 (by decide) rfl rfl (fun c8 => ?_) (fun c8 => ?_)
  rotate_left
  · exact absurd c8 (by decide)
  refine Gl.iconst Y1 (v := (0 : Int32)) (by decide) dI_22 rfl ?_
  exact Gl.retZ Y1 (by decide) (by decide) (x' := (0 : Int32)) (by decide) dI_23 ⟨rfl, rfl⟩
def RA58 : Room := { frames := 1, cells := 0, slots := 0, locals := 12 }
def QA58 (Z : State) (o0 : Addr) (o1 : Addr) (k_o1 : ClassId) (h0 : Heap) (v : Option Value) (h : Heap) : Prop := v = some (.int 0) ∧ h0 = h
theorem efA58 (o0 : Addr) (m : MethodId) : entryFrame m #[(.ref o0)] 1 = mkF m 0 #[.val (.ref o0)] [] := by first | (simp [entryFrame, mkF, argsToLocals, Value.category]; done) | rfl
theorem rmA58 (l : Launch) (Z : State) (a0 : Array Value) (hw : HW a0 Z) (ws : List Jvm.Cond) (o0 : Addr) (o1 : Addr) (k_o1 : ClassId) (h0 : Heap) (n0 : Nat) (Z0 : n0 ≤ h0.size) (E_o0 : Exa Z h0 o0 kW) (F_o0_words : Fld Z h0 o0 kW "words" "[J" (.ref o1)) (F_o0_work : Fld Z h0 o0 kW "work" "[J" .null) (g_o0 : n0 ≤ o0) (V_o1 : Arv Z h0 o1 k_o1 .long (2 : Int32) [(.long 6148914691236517205), (.long 0)] (.long 0)) (g_o1 : n0 ≤ o1) (n_o0_o1 : own_ne o0 o1) : OMet l Z ws (⟨"com/example/meterwise/meterwise/model/WholeNumber", "overflowed", "()Z"⟩ : MethodName) prog_137_method_8_code 1 (some .boolean) RA58 #[(.ref o0)] h0 n0 (QA58 Z o0 o1 k_o1 h0) := by
  refine OMet.of (own := "com/example/meterwise/meterwise/model/WholeNumber") rfl (plainFor_of_name pn_0) (efA58 o0) Z0 ?_
  intro p e s m below meth c T0 Y0 hnm
  refine Gl.aloadN Y0 rfl rfl dI_0 rfl ?_
  refine Gl.callP Y0 (tw_41 hw) (tw_42 hw) (tw_43 hw) (tw_2 hw) (tw_3 hw) (tw_44 hw) (by decide) E_o0 (rm10 l Z a0 hw [] o0 o1 k_o1 (6148914691236517205 : Int64) (0 : Int64) h0 n0 Y0.sz E_o0 F_o0_words V_o1) (a := o0) (argsL := []) (rest := []) rfl rfl (lenOf pd_4 rfl) rfl (by decide) (Nat.le_of_ble_eq_true rfl) (by decide) (by decide) dI_1 rfl (fun v1 T1 h1 Y1 q1 => ?_)
  obtain ⟨rfl, rfl⟩ := q1
  show Gl p e below _ (T1.setTop (mkF m 4 _ [(.long 0)]))
  refine Gl.ldcJ Y1 (tw_45 hw) dI_4 rfl ?_
  refine Gl.lcmpne Y1 dI_7 rfl dI_8 (by decide) rfl rfl (fun c8 => ?_) (fun c8 => ?_)
  rotate_left
  · exact absurd c8 (by decide)
  refine Gl.iconst Y1 (v := (0 : Int32)) (by decide) dI_22 rfl ?_
  exact Gl.retZ Y1 (by decide) (by decide) (x' := (0 : Int32)) (by decide) dI_23 ⟨rfl, rfl⟩
def RA59 : Room := { frames := 1, cells := 0, slots := 0, locals := 12 }
def QA59 (Z : State) (o0 : Addr) (o1 : Addr) (o2 : Addr) (k_o1 : ClassId) (k_o2 : ClassId) (h0 : Heap) (v : Option Value) (h : Heap) : Prop := v = some (.int (-1)) ∧ h0 = h
theorem efA59 (o0 : Addr) (m : MethodId) : entryFrame m #[(.ref o0)] 3 = mkF m 0 #[.val (.ref o0), .unset, .unset] [] := by first | (simp [entryFrame, mkF, argsToLocals, Value.category]; done) | rfl
theorem rmA59 (l : Launch) (Z : State) (a0 : Array Value) (hw : HW a0 Z) (ws : List Jvm.Cond) (o0 : Addr) (o1 : Addr) (o2 : Addr) (k_o1 : ClassId) (k_o2 : ClassId) (h0 : Heap) (n0 : Nat) (Z0 : n0 ≤ h0.size) (E_o0 : Exa Z h0 o0 kW) (F_o0_words : Fld Z h0 o0 kW "words" "[J" (.ref o1)) (F_o0_work : Fld Z h0 o0 kW "work" "[J" (.ref o2)) (g_o0 : n0 ≤ o0) (V_o1 : Arv Z h0 o1 k_o1 .long (2 : Int32) [(.long (-9223372036854775808)), (.long (-2))] (.long 0)) (g_o1 : n0 ≤ o1) (V_o2 : Arv Z h0 o2 k_o2 .long (6 : Int32) [(.long 3), (.long 0), (.long 0), (.long 0), (.long 0), (.long 0)] (.long 0)) (g_o2 : n0 ≤ o2) (n_o0_o1 : own_ne o0 o1) (n_o0_o2 : own_ne o0 o2) (n_o1_o2 : own_ne o1 o2) : OMet l Z ws (⟨"com/example/meterwise/meterwise/model/WholeNumber", "signum", "()I"⟩ : MethodName) prog_137_method_9_code 3 (some .int) RA59 #[(.ref o0)] h0 n0 (QA59 Z o0 o1 o2 k_o1 k_o2 h0) := by
  refine OMet.of (own := "com/example/meterwise/meterwise/model/WholeNumber") rfl (plainFor_of_name pn_0) (efA59 o0) Z0 ?_
  intro p e s m below meth c T0 Y0 hnm
  refine Gl.aloadN Y0 rfl rfl dN_0 rfl ?_
  refine Gl.callP Y0 (tw_41 hw) (tw_42 hw) (tw_43 hw) (tw_2 hw) (tw_3 hw) (tw_44 hw) (by decide) E_o0 (rm10 l Z a0 hw [] o0 o1 k_o1 (-9223372036854775808 : Int64) (-2 : Int64) h0 n0 Y0.sz E_o0 F_o0_words V_o1) (a := o0) (argsL := []) (rest := []) rfl rfl (lenOf pd_4 rfl) rfl (by decide) (Nat.le_of_ble_eq_true rfl) (by decide) (by decide) dN_1 rfl (fun v1 T1 h1 Y1 q1 => ?_)
  obtain ⟨rfl, rfl⟩ := q1
  show Gl p e below _ (T1.setTop (mkF m 4 _ [(.long (-2))]))
  refine Gl.lstoreN Y1 (L' := #[.val (.ref o0), .val (.long (-2)), .second]) rfl dN_4 rfl ?_
  refine Gl.lloadN Y1 rfl dN_5 rfl ?_
  refine Gl.lconst Y1 (v := (0 : Int64)) (by decide) dN_6 rfl ?_
  refine Gl.lcmpge Y1 dN_7 rfl dN_8 (by decide) rfl rfl (fun c8 => ?_) (fun c8 => ?_)
  · exact absurd c8 (by decide)
  refine Gl.iconst Y1 (v := (-1 : Int32)) (by decide) dN_11 rfl ?_
  exact Gl.retI Y1 (by decide) (by decide)  dN_12 ⟨rfl, rfl⟩
def RA60 : Room := { frames := 0, cells := 0, slots := 0, locals := 0 }
def QA60 (Z : State) (o0 : Addr) (o1 : Addr) (o2 : Addr) (k_o1 : ClassId) (k_o2 : ClassId) (h0 : Heap) (v : Option Value) (h : Heap) : Prop := v = some (.ref o2) ∧ h0 = h
theorem efA60 (o0 : Addr) (m : MethodId) : entryFrame m #[(.ref o0)] 1 = mkF m 0 #[.val (.ref o0)] [] := by first | (simp [entryFrame, mkF, argsToLocals, Value.category]; done) | rfl
theorem rmA60 (l : Launch) (Z : State) (a0 : Array Value) (hw : HW a0 Z) (ws : List Jvm.Cond) (o0 : Addr) (o1 : Addr) (o2 : Addr) (k_o1 : ClassId) (k_o2 : ClassId) (h0 : Heap) (n0 : Nat) (Z0 : n0 ≤ h0.size) (E_o0 : Exa Z h0 o0 kW) (F_o0_words : Fld Z h0 o0 kW "words" "[J" (.ref o1)) (F_o0_work : Fld Z h0 o0 kW "work" "[J" (.ref o2)) (g_o0 : n0 ≤ o0) (V_o1 : Arv Z h0 o1 k_o1 .long (2 : Int32) [(.long (-9223372036854775808)), (.long (-2))] (.long 0)) (g_o1 : n0 ≤ o1) (V_o2 : Arv Z h0 o2 k_o2 .long (6 : Int32) [(.long 3), (.long 0), (.long 0), (.long 0), (.long 0), (.long 0)] (.long 0)) (g_o2 : n0 ≤ o2) (n_o0_o1 : own_ne o0 o1) (n_o0_o2 : own_ne o0 o2) (n_o1_o2 : own_ne o1 o2) : OMet l Z ws (⟨"com/example/meterwise/meterwise/model/WholeNumber", "work", "()[J"⟩ : MethodName) prog_137_method_33_code 1 (some (.array .long)) RA60 #[(.ref o0)] h0 n0 (QA60 Z o0 o1 o2 k_o1 k_o2 h0) := by
  refine OMet.of (own := "com/example/meterwise/meterwise/model/WholeNumber") rfl (plainFor_of_name pn_0) (efA60 o0) Z0 ?_
  intro p e s m below meth c T0 Y0 hnm
  refine Gl.aloadN Y0 rfl rfl dO_0 rfl ?_
  refine Gl.getF Y0 (host := "") (Or.inl (tw_78 hw)) Via.refl F_o0_work dO_1 rfl (fun T1 Y1 => ?_)
  refine Gl.ifnonnullY Y1 dO_4 (by decide) rfl ?_
  refine Gl.aloadN Y1 rfl rfl dO_22 rfl ?_
  refine Gl.getF Y1 (host := "") (Or.inl (tw_78 hw)) Via.refl F_o0_work dO_23 rfl (fun T23 Y23 => ?_)
  exact Gl.retA Y23 (by decide) (by decide) rfl rfl dO_26 ⟨rfl, rfl⟩
def RA61 : Room := { frames := 0, cells := 0, slots := 0, locals := 0 }
def QA61 (Z : State) (o0 : Addr) (o1 : Addr) (o2 : Addr) (k_o1 : ClassId) (k_o2 : ClassId) (h0 : Heap) (v : Option Value) (h : Heap) : Prop := v = some (.ref o0) ∧ Keep h0 h [o0, o1, o2] ∧ Exa Z h o0 kW ∧ Fld Z h o0 kW "words" "[J" (.ref o1) ∧ Fld Z h o0 kW "work" "[J" (.ref o2) ∧ Arv Z h o1 k_o1 .long (2 : Int32) [(.long (-9223372036854775808)), (.long 1)] (.long 0) ∧ Arv Z h o2 k_o2 .long (6 : Int32) [(.long 6148914691236517205), (.long 0), (.long 0), (.long 0), (.long 0), (.long 0)] (.long 0)
theorem efA61 (o0 : Addr) (m : MethodId) : entryFrame m #[(.ref o0)] 4 = mkF m 0 #[.val (.ref o0), .unset, .unset, .unset] [] := by first | (simp [entryFrame, mkF, argsToLocals, Value.category]; done) | rfl
theorem rmA61 (l : Launch) (Z : State) (a0 : Array Value) (hw : HW a0 Z) (ws : List Jvm.Cond) (o0 : Addr) (o1 : Addr) (o2 : Addr) (k_o1 : ClassId) (k_o2 : ClassId) (h0 : Heap) (n0 : Nat) (Z0 : n0 ≤ h0.size) (E_o0 : Exa Z h0 o0 kW) (F_o0_words : Fld Z h0 o0 kW "words" "[J" (.ref o1)) (F_o0_work : Fld Z h0 o0 kW "work" "[J" (.ref o2)) (g_o0 : n0 ≤ o0) (V_o1 : Arv Z h0 o1 k_o1 .long (2 : Int32) [(.long (-9223372036854775808)), (.long (-2))] (.long 0)) (g_o1 : n0 ≤ o1) (V_o2 : Arv Z h0 o2 k_o2 .long (6 : Int32) [(.long 6148914691236517205), (.long 0), (.long 0), (.long 0), (.long 0), (.long 0)] (.long 0)) (g_o2 : n0 ≤ o2) (n_o0_o1 : own_ne o0 o1) (n_o0_o2 : own_ne o0 o2) (n_o1_o2 : own_ne o1 o2) : OMet l Z ws (⟨"com/example/meterwise/meterwise/model/WholeNumber", "negate", "()Lcom/example/meterwise/meterwise/model/WholeNumber;"⟩ : MethodName) prog_137_method_19_code 4 (some (.object "com/example/meterwise/meterwise/model/WholeNumber")) RA61 #[(.ref o0)] h0 n0 (QA61 Z o0 o1 o2 k_o1 k_o2 h0) := by
  refine OMet.of (own := "com/example/meterwise/meterwise/model/WholeNumber") rfl (plainFor_of_name pn_0) (efA61 o0) Z0 ?_
  intro p e s m below meth c T0 Y0 hnm
  refine Gl.lconst Y0 (v := (1 : Int64)) (by decide) dP_0 rfl ?_
  refine Gl.lstoreN Y0 (L' := #[.val (.ref o0), .val (.long 1), .second, .unset]) rfl dP_1 rfl ?_
  refine Gl.iconst Y0 (v := (0 : Int32)) (by decide) dP_2 rfl ?_
  refine Gl.istoreN Y0 (L' := #[.val (.ref o0), .val (.long 1), .second, .val (.int 0)]) rfl dP_3 rfl ?_
  refine Gl.iloadN Y0 rfl dP_4 rfl ?_
  refine Gl.aloadN Y0 rfl rfl dP_5 rfl ?_
  refine Gl.getF Y0 (host := "") (Or.inl (tw_15 hw)) Via.refl F_o0_words dP_6 rfl (fun T6 Y6 => ?_)
  refine Gl.arraylength Y6 V_o1 dP_9 rfl ?_
  refine Gl.icmpge Y6 dP_10 (by decide) rfl rfl (fun c10 => ?_) (fun c10 => ?_)
  · exact absurd c10 (by decide)
  refine Gl.aloadN Y6 rfl rfl dP_13 rfl ?_
  refine Gl.getF Y6 (host := "") (Or.inl (tw_15 hw)) Via.refl F_o0_words dP_14 rfl (fun T14 Y14 => ?_)
  refine Gl.iloadN Y14 rfl dP_17 rfl ?_
  refine Gl.aloadN Y14 rfl rfl dP_18 rfl ?_
  refine Gl.getF Y14 (host := "") (Or.inl (tw_15 hw)) Via.refl F_o0_words dP_19 rfl (fun T19 Y19 => ?_)
  refine Gl.iloadN Y19 rfl dP_22 rfl ?_
  refine Gl.laload Y19 V_o1 ⟨by decide, by decide⟩ (v := (.long (-9223372036854775808))) rfl dP_23 rfl ?_
  refine Gl.ldcJ Y19 (tw_85 hw) dP_24 rfl ?_
  refine Gl.lxor Y19 (r := (9223372036854775807 : Int64)) (by decide) dP_27 rfl ?_
  refine Gl.lloadN Y19 rfl dP_28 rfl ?_
  refine Gl.ladd Y19 (r := (-9223372036854775808 : Int64)) (by decide) dP_29 rfl ?_
  refine Gl.lastore Y19 V_o1 (v := (.long (-9223372036854775808))) rfl ⟨by decide, by decide⟩ (ix := 0) rfl (Nat.le_of_ble_eq_true rfl) g_o1 dP_30 rfl (fun T30 h30 Y30 W30 A30 => ?_)
  have A30 : Arv Z h30 o1 k_o1 .long (2 : Int32) [(.long (-9223372036854775808)), (.long (-2))] (.long 0) := A30
  have K30 : Keep h0 h30 [o0, o1, o2] := (Keep.refl h0 [o0, o1, o2]).wr W30 (Or.inl (List.mem_of_getElem? (i := 1) rfl))
  show Gl p e below _ (T30.setTop (mkF m 31 _ []))
  refine Gl.lloadN Y30 rfl dP_31 rfl ?_
  refine Gl.aloadN Y30 rfl rfl dP_32 rfl ?_
  have f1 := (Fld.other W30 F_o0_words (Or.inl n_o0_o1))
  refine Gl.getF Y30 (host := "") (Or.inl (tw_15 hw)) Via.refl f1 dP_33 rfl (fun T33 Y33 => ?_)
  refine Gl.iloadN Y33 rfl dP_36 rfl ?_
  refine Gl.laload Y33 A30 ⟨by decide, by decide⟩ (v := (.long (-9223372036854775808))) rfl dP_37 rfl ?_
  refine Gl.lconst Y33 (v := (0 : Int64)) (by decide) dP_38 rfl ?_
  refine Gl.lcmpne Y33 dP_39 rfl dP_40 (by decide) rfl rfl (fun c40 => ?_) (fun c40 => ?_)
  rotate_left
  · exact absurd c40 (by decide)
  refine Gl.lconst Y33 (v := (0 : Int64)) (by decide) dP_47 rfl ?_
  refine Gl.land Y33 (r := (0 : Int64)) (by decide) dP_48 rfl ?_
  refine Gl.lstoreN Y33 (L' := #[.val (.ref o0), .val (.long 0), .second, .val (.int 0)]) rfl dP_49 rfl ?_
  refine Gl.iinc Y33 rfl (r := (1 : Int32)) (by decide) (L' := #[.val (.ref o0), .val (.long 0), .second, .val (.int 1)]) rfl dP_50 rfl ?_
  refine Gl.goto Y33 dP_53 (by decide) rfl ?_
  refine Gl.iloadN Y33 rfl dP_4 rfl ?_
  refine Gl.aloadN Y33 rfl rfl dP_5 rfl ?_
  refine Gl.getF Y33 (host := "") (Or.inl (tw_15 hw)) Via.refl f1 dP_6 rfl (fun T6_2 Y6_2 => ?_)
  refine Gl.arraylength Y6_2 A30 dP_9 rfl ?_
  refine Gl.icmpge Y6_2 dP_10 (by decide) rfl rfl (fun c10_2 => ?_) (fun c10_2 => ?_)
  · exact absurd c10_2 (by decide)
  refine Gl.aloadN Y6_2 rfl rfl dP_13 rfl ?_
  refine Gl.getF Y6_2 (host := "") (Or.inl (tw_15 hw)) Via.refl f1 dP_14 rfl (fun T14_2 Y14_2 => ?_)
  refine Gl.iloadN Y14_2 rfl dP_17 rfl ?_
  refine Gl.aloadN Y14_2 rfl rfl dP_18 rfl ?_
  refine Gl.getF Y14_2 (host := "") (Or.inl (tw_15 hw)) Via.refl f1 dP_19 rfl (fun T19_2 Y19_2 => ?_)
  refine Gl.iloadN Y19_2 rfl dP_22 rfl ?_
  refine Gl.laload Y19_2 A30 ⟨by decide, by decide⟩ (v := (.long (-2))) rfl dP_23 rfl ?_
  refine Gl.ldcJ Y19_2 (tw_85 hw) dP_24 rfl ?_
  refine Gl.lxor Y19_2 (r := (1 : Int64)) (by decide) dP_27 rfl ?_
  refine Gl.lloadN Y19_2 rfl dP_28 rfl ?_
  refine Gl.ladd Y19_2 (r := (1 : Int64)) (by decide) dP_29 rfl ?_
  refine Gl.lastore Y19_2 A30 (v := (.long 1)) rfl ⟨by decide, by decide⟩ (ix := 1) rfl (Nat.le_of_ble_eq_true rfl) g_o1 dP_30 rfl (fun T30_2 h30_2 Y30_2 W30_2 A30_2 => ?_)
  have A30_2 : Arv Z h30_2 o1 k_o1 .long (2 : Int32) [(.long (-9223372036854775808)), (.long 1)] (.long 0) := A30_2
  have K30_2 : Keep h0 h30_2 [o0, o1, o2] := K30.wr W30_2 (Or.inl (List.mem_of_getElem? (i := 1) rfl))
  show Gl p e below _ (T30_2.setTop (mkF m 31 _ []))
  refine Gl.lloadN Y30_2 rfl dP_31 rfl ?_
  refine Gl.aloadN Y30_2 rfl rfl dP_32 rfl ?_
  have f2 := (Fld.other W30_2 f1 (Or.inl n_o0_o1))
  refine Gl.getF Y30_2 (host := "") (Or.inl (tw_15 hw)) Via.refl f2 dP_33 rfl (fun T33_2 Y33_2 => ?_)
  refine Gl.iloadN Y33_2 rfl dP_36 rfl ?_
  refine Gl.laload Y33_2 A30_2 ⟨by decide, by decide⟩ (v := (.long 1)) rfl dP_37 rfl ?_
  refine Gl.lconst Y33_2 (v := (0 : Int64)) (by decide) dP_38 rfl ?_
  refine Gl.lcmpne Y33_2 dP_39 rfl dP_40 (by decide) rfl rfl (fun c40_2 => ?_) (fun c40_2 => ?_)
  rotate_left
  · exact absurd c40_2 (by decide)
  refine Gl.lconst Y33_2 (v := (0 : Int64)) (by decide) dP_47 rfl ?_
  refine Gl.land Y33_2 (r := (0 : Int64)) (by decide) dP_48 rfl ?_
  refine Gl.lstoreN Y33_2 (L' := #[.val (.ref o0), .val (.long 0), .second, .val (.int 1)]) rfl dP_49 rfl ?_
  refine Gl.iinc Y33_2 rfl (r := (2 : Int32)) (by decide) (L' := #[.val (.ref o0), .val (.long 0), .second, .val (.int 2)]) rfl dP_50 rfl ?_
  refine Gl.goto Y33_2 dP_53 (by decide) rfl ?_
  refine Gl.iloadN Y33_2 rfl dP_4 rfl ?_
  refine Gl.aloadN Y33_2 rfl rfl dP_5 rfl ?_
  refine Gl.getF Y33_2 (host := "") (Or.inl (tw_15 hw)) Via.refl f2 dP_6 rfl (fun T6_3 Y6_3 => ?_)
  refine Gl.arraylength Y6_3 A30_2 dP_9 rfl ?_
  refine Gl.icmpge Y6_3 dP_10 (by decide) rfl rfl (fun c10_3 => ?_) (fun c10_3 => ?_)
  rotate_left
  · exact absurd c10_3 (by decide)
  refine Gl.aloadN Y6_3 rfl rfl dP_56 rfl ?_
  have f3 := (Exa.wr W30_2 (Exa.wr W30 E_o0))
  have f4 := (Fld.other W30_2 (Fld.other W30 F_o0_work (Or.inl n_o0_o1)) (Or.inl n_o0_o1))
  have f5 := ((V_o2.other W30 (Ne.symm n_o1_o2)).other W30_2 (Ne.symm n_o1_o2))
  exact Gl.retA Y6_3 (by decide) (by decide) rfl rfl dP_57 ⟨rfl, K30_2, f3, f2, f4, A30_2, f5⟩
def RA64 : Room := { frames := 0, cells := 0, slots := 0, locals := 0 }
def QA64 (Z : State) (h0 : Heap) (v : Option Value) (h : Heap) : Prop := v = some (.long (-3074457345618258603)) ∧ h0 = h
theorem efA64 (m : MethodId) : entryFrame m #[(.long (-9223372036854775808)), (.long 6148914691236517205)] 20 = mkF m 0 #[.val (.long (-9223372036854775808)), .second, .val (.long 6148914691236517205), .second, .unset, .unset, .unset, .unset, .unset, .unset, .unset, .unset, .unset, .unset, .unset, .unset, .unset, .unset, .unset, .unset] [] := by first | (simp [entryFrame, mkF, argsToLocals, Value.category]; done) | rfl
theorem rmA64 (l : Launch) (Z : State) (a0 : Array Value) (hw : HW a0 Z) (ws : List Jvm.Cond) (h0 : Heap) (n0 : Nat) (Z0 : n0 ≤ h0.size) : OMet l Z ws (⟨"java/lang/Math", "multiplyHigh", "(JJ)J"⟩ : MethodName) jdk_29_method_45_code 20 (some .long) RA64 #[(.long (-9223372036854775808)), (.long 6148914691236517205)] h0 n0 (QA64 Z h0) := by
  refine OMet.of (own := "java/lang/Math") rfl (Jvm.Free.JP.mathPlain rfl (by decide +kernel)) (efA64) Z0 ?_
  intro p e s m below meth c T0 Y0 hnm
  refine Gl.lloadN Y0 rfl dS_0 rfl ?_
  refine Gl.bipush Y0 (v := (32 : Int32)) (by decide) dS_1 rfl ?_
  refine Gl.lshr Y0 (r := (-2147483648 : Int64)) (by decide) dS_3 rfl ?_
  refine Gl.lstore Y0 (L' := #[.val (.long (-9223372036854775808)), .second, .val (.long 6148914691236517205), .second, .val (.long (-2147483648)), .second, .unset, .unset, .unset, .unset, .unset, .unset, .unset, .unset, .unset, .unset, .unset, .unset, .unset, .unset]) rfl dS_4 rfl ?_
  refine Gl.lloadN Y0 rfl dS_6 rfl ?_
  refine Gl.ldcJ Y0 (tw_97 hw) dS_7 rfl ?_
  refine Gl.land Y0 (r := (0 : Int64)) (by decide) dS_10 rfl ?_
  refine Gl.lstore Y0 (L' := #[.val (.long (-9223372036854775808)), .second, .val (.long 6148914691236517205), .second, .val (.long (-2147483648)), .second, .val (.long 0), .second, .unset, .unset, .unset, .unset, .unset, .unset, .unset, .unset, .unset, .unset, .unset, .unset]) rfl dS_11 rfl ?_
  refine Gl.lloadN Y0 rfl dS_13 rfl ?_
  refine Gl.bipush Y0 (v := (32 : Int32)) (by decide) dS_14 rfl ?_
  refine Gl.lshr Y0 (r := (1431655765 : Int64)) (by decide) dS_16 rfl ?_
  refine Gl.lstore Y0 (L' := #[.val (.long (-9223372036854775808)), .second, .val (.long 6148914691236517205), .second, .val (.long (-2147483648)), .second, .val (.long 0), .second, .val (.long 1431655765), .second, .unset, .unset, .unset, .unset, .unset, .unset, .unset, .unset, .unset, .unset]) rfl dS_17 rfl ?_
  refine Gl.lloadN Y0 rfl dS_19 rfl ?_
  refine Gl.ldcJ Y0 (tw_97 hw) dS_20 rfl ?_
  refine Gl.land Y0 (r := (1431655765 : Int64)) (by decide) dS_23 rfl ?_
  refine Gl.lstore Y0 (L' := #[.val (.long (-9223372036854775808)), .second, .val (.long 6148914691236517205), .second, .val (.long (-2147483648)), .second, .val (.long 0), .second, .val (.long 1431655765), .second, .val (.long 1431655765), .second, .unset, .unset, .unset, .unset, .unset, .unset, .unset, .unset]) rfl dS_24 rfl ?_
  refine Gl.lload Y0 rfl dS_26 rfl ?_
  refine Gl.lload Y0 rfl dS_28 rfl ?_
  refine Gl.lmul Y0 (r := (0 : Int64)) (by decide) dS_30 rfl ?_
  refine Gl.lstore Y0 (L' := #[.val (.long (-9223372036854775808)), .second, .val (.long 6148914691236517205), .second, .val (.long (-2147483648)), .second, .val (.long 0), .second, .val (.long 1431655765), .second, .val (.long 1431655765), .second, .val (.long 0), .second, .unset, .unset, .unset, .unset, .unset, .unset]) rfl dS_31 rfl ?_
  refine Gl.lload Y0 rfl dS_33 rfl ?_
  refine Gl.lload Y0 rfl dS_35 rfl ?_
  refine Gl.lmul Y0 (r := (-3074457344902430720 : Int64)) (by decide) dS_37 rfl ?_
  refine Gl.lload Y0 rfl dS_38 rfl ?_
  refine Gl.bipush Y0 (v := (32 : Int32)) (by decide) dS_40 rfl ?_
  refine Gl.lushr Y0 (r := (0 : Int64)) (by decide) dS_42 rfl ?_
  refine Gl.ladd Y0 (r := (-3074457344902430720 : Int64)) (by decide) dS_43 rfl ?_
  refine Gl.lstore Y0 (L' := #[.val (.long (-9223372036854775808)), .second, .val (.long 6148914691236517205), .second, .val (.long (-2147483648)), .second, .val (.long 0), .second, .val (.long 1431655765), .second, .val (.long 1431655765), .second, .val (.long 0), .second, .val (.long (-3074457344902430720)), .second, .unset, .unset, .unset, .unset]) rfl dS_44 rfl ?_
  refine Gl.lload Y0 rfl dS_46 rfl ?_
  refine Gl.ldcJ Y0 (tw_97 hw) dS_48 rfl ?_
  refine Gl.land Y0 (r := (2147483648 : Int64)) (by decide) dS_51 rfl ?_
  refine Gl.lstore Y0 (L' := #[.val (.long (-9223372036854775808)), .second, .val (.long 6148914691236517205), .second, .val (.long (-2147483648)), .second, .val (.long 0), .second, .val (.long 1431655765), .second, .val (.long 1431655765), .second, .val (.long 0), .second, .val (.long (-3074457344902430720)), .second, .val (.long 2147483648), .second, .unset, .unset]) rfl dS_52 rfl ?_
  refine Gl.lload Y0 rfl dS_54 rfl ?_
  refine Gl.bipush Y0 (v := (32 : Int32)) (by decide) dS_56 rfl ?_
  refine Gl.lshr Y0 (r := (-715827883 : Int64)) (by decide) dS_58 rfl ?_
  refine Gl.lstore Y0 (L' := #[.val (.long (-9223372036854775808)), .second, .val (.long 6148914691236517205), .second, .val (.long (-2147483648)), .second, .val (.long 0), .second, .val (.long 1431655765), .second, .val (.long 1431655765), .second, .val (.long 0), .second, .val (.long (-3074457344902430720)), .second, .val (.long 2147483648), .second, .val (.long (-715827883)), .second]) rfl dS_59 rfl ?_
  refine Gl.lload Y0 rfl dS_61 rfl ?_
  refine Gl.lload Y0 rfl dS_63 rfl ?_
  refine Gl.lload Y0 rfl dS_65 rfl ?_
  refine Gl.lmul Y0 (r := (0 : Int64)) (by decide) dS_67 rfl ?_
  refine Gl.ladd Y0 (r := (2147483648 : Int64)) (by decide) dS_68 rfl ?_
  refine Gl.lstore Y0 (L' := #[.val (.long (-9223372036854775808)), .second, .val (.long 6148914691236517205), .second, .val (.long (-2147483648)), .second, .val (.long 0), .second, .val (.long 1431655765), .second, .val (.long 1431655765), .second, .val (.long 0), .second, .val (.long (-3074457344902430720)), .second, .val (.long 2147483648), .second, .val (.long (-715827883)), .second]) rfl dS_69 rfl ?_
  refine Gl.lload Y0 rfl dS_71 rfl ?_
  refine Gl.lload Y0 rfl dS_73 rfl ?_
  refine Gl.lmul Y0 (r := (-3074457344902430720 : Int64)) (by decide) dS_75 rfl ?_
  refine Gl.lload Y0 rfl dS_76 rfl ?_
  refine Gl.ladd Y0 (r := (-3074457345618258603 : Int64)) (by decide) dS_78 rfl ?_
  refine Gl.lload Y0 rfl dS_79 rfl ?_
  refine Gl.bipush Y0 (v := (32 : Int32)) (by decide) dS_81 rfl ?_
  refine Gl.lshr Y0 (r := (0 : Int64)) (by decide) dS_83 rfl ?_
  refine Gl.ladd Y0 (r := (-3074457345618258603 : Int64)) (by decide) dS_84 rfl ?_
  exact Gl.retJ Y0 (by decide) (by decide)  dS_85 ⟨rfl, rfl⟩
def RA63 : Room := { frames := 1, cells := 0, slots := 0, locals := 31 }
def QA63 (Z : State) (h0 : Heap) (v : Option Value) (h : Heap) : Prop := v = some (.long 3074457345618258602) ∧ h0 = h
theorem efA63 (m : MethodId) : entryFrame m #[(.long (-9223372036854775808)), (.long 6148914691236517205)] 4 = mkF m 0 #[.val (.long (-9223372036854775808)), .second, .val (.long 6148914691236517205), .second] [] := by first | (simp [entryFrame, mkF, argsToLocals, Value.category]; done) | rfl
theorem rmA63 (l : Launch) (Z : State) (a0 : Array Value) (hw : HW a0 Z) (ws : List Jvm.Cond) (h0 : Heap) (n0 : Nat) (Z0 : n0 ≤ h0.size) : OMet l Z ws (⟨"com/example/meterwise/meterwise/model/WholeNumber", "unsignedMultiplyHigh", "(JJ)J"⟩ : MethodName) prog_137_method_34_code 4 (some .long) RA63 #[(.long (-9223372036854775808)), (.long 6148914691236517205)] h0 n0 (QA63 Z h0) := by
  refine OMet.of (own := "com/example/meterwise/meterwise/model/WholeNumber") rfl (plainFor_of_name pn_0) (efA63) Z0 ?_
  intro p e s m below meth c T0 Y0 hnm
  refine Gl.lloadN Y0 rfl dR_0 rfl ?_
  refine Gl.lloadN Y0 rfl dR_1 rfl ?_
  refine Gl.callS Y0 (tw_93 hw) (tw_94 hw) (tw_95 hw) (tw_96 hw) (by decide) (rmA64 l Z a0 hw [] h0 n0 Y0.sz) (argsL := [(.long (-9223372036854775808)), (.long 6148914691236517205)]) (rest := []) rfl rfl (lenOf pd_12 rfl) rfl (by decide) (Nat.le_of_ble_eq_true rfl) (by decide) (by decide) dR_2 rfl (fun v2 T2 h2 Y2 q2 => ?_)
  obtain ⟨rfl, rfl⟩ := q2
  show Gl p e below _ (T2.setTop (mkF m 5 _ [(.long (-3074457345618258603))]))
  refine Gl.lloadN Y2 rfl dR_5 rfl ?_
  refine Gl.bipush Y2 (v := (63 : Int32)) (by decide) dR_6 rfl ?_
  refine Gl.lshr Y2 (r := (-1 : Int64)) (by decide) dR_8 rfl ?_
  refine Gl.lloadN Y2 rfl dR_9 rfl ?_
  refine Gl.land Y2 (r := (6148914691236517205 : Int64)) (by decide) dR_10 rfl ?_
  refine Gl.ladd Y2 (r := (3074457345618258602 : Int64)) (by decide) dR_11 rfl ?_
  refine Gl.lloadN Y2 rfl dR_12 rfl ?_
  refine Gl.bipush Y2 (v := (63 : Int32)) (by decide) dR_13 rfl ?_
  refine Gl.lshr Y2 (r := (0 : Int64)) (by decide) dR_15 rfl ?_
  refine Gl.lloadN Y2 rfl dR_16 rfl ?_
  refine Gl.land Y2 (r := (0 : Int64)) (by decide) dR_17 rfl ?_
  refine Gl.ladd Y2 (r := (3074457345618258602 : Int64)) (by decide) dR_18 rfl ?_
  exact Gl.retJ Y2 (by decide) (by decide)  dR_19 ⟨rfl, rfl⟩
def RA66 : Room := { frames := 0, cells := 0, slots := 0, locals := 0 }
def QA66 (Z : State) (h0 : Heap) (v : Option Value) (h : Heap) : Prop := v = some (.long 0) ∧ h0 = h
theorem efA66 (m : MethodId) : entryFrame m #[(.long 1), (.long 6148914691236517205)] 20 = mkF m 0 #[.val (.long 1), .second, .val (.long 6148914691236517205), .second, .unset, .unset, .unset, .unset, .unset, .unset, .unset, .unset, .unset, .unset, .unset, .unset, .unset, .unset, .unset, .unset] [] := by first | (simp [entryFrame, mkF, argsToLocals, Value.category]; done) | rfl
theorem rmA66 (l : Launch) (Z : State) (a0 : Array Value) (hw : HW a0 Z) (ws : List Jvm.Cond) (h0 : Heap) (n0 : Nat) (Z0 : n0 ≤ h0.size) : OMet l Z ws (⟨"java/lang/Math", "multiplyHigh", "(JJ)J"⟩ : MethodName) jdk_29_method_45_code 20 (some .long) RA66 #[(.long 1), (.long 6148914691236517205)] h0 n0 (QA66 Z h0) := by
  refine OMet.of (own := "java/lang/Math") rfl (Jvm.Free.JP.mathPlain rfl (by decide +kernel)) (efA66) Z0 ?_
  intro p e s m below meth c T0 Y0 hnm
  refine Gl.lloadN Y0 rfl dS_0 rfl ?_
  refine Gl.bipush Y0 (v := (32 : Int32)) (by decide) dS_1 rfl ?_
  refine Gl.lshr Y0 (r := (0 : Int64)) (by decide) dS_3 rfl ?_
  refine Gl.lstore Y0 (L' := #[.val (.long 1), .second, .val (.long 6148914691236517205), .second, .val (.long 0), .second, .unset, .unset, .unset, .unset, .unset, .unset, .unset, .unset, .unset, .unset, .unset, .unset, .unset, .unset]) rfl dS_4 rfl ?_
  refine Gl.lloadN Y0 rfl dS_6 rfl ?_
  refine Gl.ldcJ Y0 (tw_97 hw) dS_7 rfl ?_
  refine Gl.land Y0 (r := (1 : Int64)) (by decide) dS_10 rfl ?_
  refine Gl.lstore Y0 (L' := #[.val (.long 1), .second, .val (.long 6148914691236517205), .second, .val (.long 0), .second, .val (.long 1), .second, .unset, .unset, .unset, .unset, .unset, .unset, .unset, .unset, .unset, .unset, .unset, .unset]) rfl dS_11 rfl ?_
  refine Gl.lloadN Y0 rfl dS_13 rfl ?_
  refine Gl.bipush Y0 (v := (32 : Int32)) (by decide) dS_14 rfl ?_
  refine Gl.lshr Y0 (r := (1431655765 : Int64)) (by decide) dS_16 rfl ?_
  refine Gl.lstore Y0 (L' := #[.val (.long 1), .second, .val (.long 6148914691236517205), .second, .val (.long 0), .second, .val (.long 1), .second, .val (.long 1431655765), .second, .unset, .unset, .unset, .unset, .unset, .unset, .unset, .unset, .unset, .unset]) rfl dS_17 rfl ?_
  refine Gl.lloadN Y0 rfl dS_19 rfl ?_
  refine Gl.ldcJ Y0 (tw_97 hw) dS_20 rfl ?_
  refine Gl.land Y0 (r := (1431655765 : Int64)) (by decide) dS_23 rfl ?_
  refine Gl.lstore Y0 (L' := #[.val (.long 1), .second, .val (.long 6148914691236517205), .second, .val (.long 0), .second, .val (.long 1), .second, .val (.long 1431655765), .second, .val (.long 1431655765), .second, .unset, .unset, .unset, .unset, .unset, .unset, .unset, .unset]) rfl dS_24 rfl ?_
  refine Gl.lload Y0 rfl dS_26 rfl ?_
  refine Gl.lload Y0 rfl dS_28 rfl ?_
  refine Gl.lmul Y0 (r := (1431655765 : Int64)) (by decide) dS_30 rfl ?_
  refine Gl.lstore Y0 (L' := #[.val (.long 1), .second, .val (.long 6148914691236517205), .second, .val (.long 0), .second, .val (.long 1), .second, .val (.long 1431655765), .second, .val (.long 1431655765), .second, .val (.long 1431655765), .second, .unset, .unset, .unset, .unset, .unset, .unset]) rfl dS_31 rfl ?_
  refine Gl.lload Y0 rfl dS_33 rfl ?_
  refine Gl.lload Y0 rfl dS_35 rfl ?_
  refine Gl.lmul Y0 (r := (0 : Int64)) (by decide) dS_37 rfl ?_
  refine Gl.lload Y0 rfl dS_38 rfl ?_
  refine Gl.bipush Y0 (v := (32 : Int32)) (by decide) dS_40 rfl ?_
  refine Gl.lushr Y0 (r := (0 : Int64)) (by decide) dS_42 rfl ?_
  refine Gl.ladd Y0 (r := (0 : Int64)) (by decide) dS_43 rfl ?_
  refine Gl.lstore Y0 (L' := #[.val (.long 1), .second, .val (.long 6148914691236517205), .second, .val (.long 0), .second, .val (.long 1), .second, .val (.long 1431655765), .second, .val (.long 1431655765), .second, .val (.long 1431655765), .second, .val (.long 0), .second, .unset, .unset, .unset, .unset]) rfl dS_44 rfl ?_
  refine Gl.lload Y0 rfl dS_46 rfl ?_
  refine Gl.ldcJ Y0 (tw_97 hw) dS_48 rfl ?_
  refine Gl.land Y0 (r := (0 : Int64)) (by decide) dS_51 rfl ?_
  refine Gl.lstore Y0 (L' := #[.val (.long 1), .second, .val (.long 6148914691236517205), .second, .val (.long 0), .second, .val (.long 1), .second, .val (.long 1431655765), .second, .val (.long 1431655765), .second, .val (.long 1431655765), .second, .val (.long 0), .second, .val (.long 0), .second, .unset, .unset]) rfl dS_52 rfl ?_
  refine Gl.lload Y0 rfl dS_54 rfl ?_
  refine Gl.bipush Y0 (v := (32 : Int32)) (by decide) dS_56 rfl ?_
  refine Gl.lshr Y0 (r := (0 : Int64)) (by decide) dS_58 rfl ?_
  refine Gl.lstore Y0 (L' := #[.val (.long 1), .second, .val (.long 6148914691236517205), .second, .val (.long 0), .second, .val (.long 1), .second, .val (.long 1431655765), .second, .val (.long 1431655765), .second, .val (.long 1431655765), .second, .val (.long 0), .second, .val (.long 0), .second, .val (.long 0), .second]) rfl dS_59 rfl ?_
  refine Gl.lload Y0 rfl dS_61 rfl ?_
  refine Gl.lload Y0 rfl dS_63 rfl ?_
  refine Gl.lload Y0 rfl dS_65 rfl ?_
  refine Gl.lmul Y0 (r := (1431655765 : Int64)) (by decide) dS_67 rfl ?_
  refine Gl.ladd Y0 (r := (1431655765 : Int64)) (by decide) dS_68 rfl ?_
  refine Gl.lstore Y0 (L' := #[.val (.long 1), .second, .val (.long 6148914691236517205), .second, .val (.long 0), .second, .val (.long 1), .second, .val (.long 1431655765), .second, .val (.long 1431655765), .second, .val (.long 1431655765), .second, .val (.long 0), .second, .val (.long 1431655765), .second, .val (.long 0), .second]) rfl dS_69 rfl ?_
  refine Gl.lload Y0 rfl dS_71 rfl ?_
  refine Gl.lload Y0 rfl dS_73 rfl ?_
  refine Gl.lmul Y0 (r := (0 : Int64)) (by decide) dS_75 rfl ?_
  refine Gl.lload Y0 rfl dS_76 rfl ?_
  refine Gl.ladd Y0 (r := (0 : Int64)) (by decide) dS_78 rfl ?_
  refine Gl.lload Y0 rfl dS_79 rfl ?_
  refine Gl.bipush Y0 (v := (32 : Int32)) (by decide) dS_81 rfl ?_
  refine Gl.lshr Y0 (r := (0 : Int64)) (by decide) dS_83 rfl ?_
  refine Gl.ladd Y0 (r := (0 : Int64)) (by decide) dS_84 rfl ?_
  exact Gl.retJ Y0 (by decide) (by decide)  dS_85 ⟨rfl, rfl⟩
def RA65 : Room := { frames := 1, cells := 0, slots := 0, locals := 31 }
def QA65 (Z : State) (h0 : Heap) (v : Option Value) (h : Heap) : Prop := v = some (.long 0) ∧ h0 = h
theorem efA65 (m : MethodId) : entryFrame m #[(.long 1), (.long 6148914691236517205)] 4 = mkF m 0 #[.val (.long 1), .second, .val (.long 6148914691236517205), .second] [] := by first | (simp [entryFrame, mkF, argsToLocals, Value.category]; done) | rfl
theorem rmA65 (l : Launch) (Z : State) (a0 : Array Value) (hw : HW a0 Z) (ws : List Jvm.Cond) (h0 : Heap) (n0 : Nat) (Z0 : n0 ≤ h0.size) : OMet l Z ws (⟨"com/example/meterwise/meterwise/model/WholeNumber", "unsignedMultiplyHigh", "(JJ)J"⟩ : MethodName) prog_137_method_34_code 4 (some .long) RA65 #[(.long 1), (.long 6148914691236517205)] h0 n0 (QA65 Z h0) := by
  refine OMet.of (own := "com/example/meterwise/meterwise/model/WholeNumber") rfl (plainFor_of_name pn_0) (efA65) Z0 ?_
  intro p e s m below meth c T0 Y0 hnm
  refine Gl.lloadN Y0 rfl dR_0 rfl ?_
  refine Gl.lloadN Y0 rfl dR_1 rfl ?_
  refine Gl.callS Y0 (tw_93 hw) (tw_94 hw) (tw_95 hw) (tw_96 hw) (by decide) (rmA66 l Z a0 hw [] h0 n0 Y0.sz) (argsL := [(.long 1), (.long 6148914691236517205)]) (rest := []) rfl rfl (lenOf pd_12 rfl) rfl (by decide) (Nat.le_of_ble_eq_true rfl) (by decide) (by decide) dR_2 rfl (fun v2 T2 h2 Y2 q2 => ?_)
  obtain ⟨rfl, rfl⟩ := q2
  show Gl p e below _ (T2.setTop (mkF m 5 _ [(.long 0)]))
  refine Gl.lloadN Y2 rfl dR_5 rfl ?_
  refine Gl.bipush Y2 (v := (63 : Int32)) (by decide) dR_6 rfl ?_
  refine Gl.lshr Y2 (r := (0 : Int64)) (by decide) dR_8 rfl ?_
  refine Gl.lloadN Y2 rfl dR_9 rfl ?_
  refine Gl.land Y2 (r := (0 : Int64)) (by decide) dR_10 rfl ?_
  refine Gl.ladd Y2 (r := (0 : Int64)) (by decide) dR_11 rfl ?_
  refine Gl.lloadN Y2 rfl dR_12 rfl ?_
  refine Gl.bipush Y2 (v := (63 : Int32)) (by decide) dR_13 rfl ?_
  refine Gl.lshr Y2 (r := (0 : Int64)) (by decide) dR_15 rfl ?_
  refine Gl.lloadN Y2 rfl dR_16 rfl ?_
  refine Gl.land Y2 (r := (0 : Int64)) (by decide) dR_17 rfl ?_
  refine Gl.ladd Y2 (r := (0 : Int64)) (by decide) dR_18 rfl ?_
  exact Gl.retJ Y2 (by decide) (by decide)  dR_19 ⟨rfl, rfl⟩
def RA68 : Room := { frames := 0, cells := 0, slots := 0, locals := 0 }
def QA68 (Z : State) (h0 : Heap) (v : Option Value) (h : Heap) : Prop := v = some (.int 1) ∧ h0 = h
theorem efA68 (m : MethodId) : entryFrame m #[(.long (-1)), (.long (-3074457345618258603))] 4 = mkF m 0 #[.val (.long (-1)), .second, .val (.long (-3074457345618258603)), .second] [] := by first | (simp [entryFrame, mkF, argsToLocals, Value.category]; done) | rfl
theorem rmA68 (l : Launch) (Z : State) (a0 : Array Value) (hw : HW a0 Z) (ws : List Jvm.Cond) (h0 : Heap) (n0 : Nat) (Z0 : n0 ≤ h0.size) : OMet l Z ws (⟨"java/lang/Long", "compare", "(JJ)I"⟩ : MethodName) jdk_35_method_42_code 4 (some .int) RA68 #[(.long (-1)), (.long (-3074457345618258603))] h0 n0 (QA68 Z h0) := by
  refine OMet.of (own := "java/lang/Long") rfl (plainFor_of_name pn_2) (efA68) Z0 ?_
  intro p e s m below meth c T0 Y0 hnm
  refine Gl.lloadN Y0 rfl dU_0 rfl ?_
  refine Gl.lloadN Y0 rfl dU_1 rfl ?_
  refine Gl.lcmpge Y0 dU_2 rfl dU_3 (by decide) rfl rfl (fun c3 => ?_) (fun c3 => ?_)
  rotate_left
  · exact absurd c3 (by decide)
  refine Gl.lloadN Y0 rfl dU_10 rfl ?_
  refine Gl.lloadN Y0 rfl dU_11 rfl ?_
  refine Gl.lcmpne Y0 dU_12 rfl dU_13 (by decide) rfl rfl (fun c13 => ?_) (fun c13 => ?_)
  rotate_left
  · exact absurd c13 (by decide)
  refine Gl.iconst Y0 (v := (1 : Int32)) (by decide) dU_20 rfl ?_
  exact Gl.retI Y0 (by decide) (by decide)  dU_21 ⟨rfl, rfl⟩
def RA67 : Room := { frames := 1, cells := 0, slots := 0, locals := 15 }
def QA67 (Z : State) (h0 : Heap) (v : Option Value) (h : Heap) : Prop := v = some (.int 1) ∧ h0 = h
theorem efA67 (m : MethodId) : entryFrame m #[(.long 9223372036854775807), (.long 6148914691236517205)] 4 = mkF m 0 #[.val (.long 9223372036854775807), .second, .val (.long 6148914691236517205), .second] [] := by first | (simp [entryFrame, mkF, argsToLocals, Value.category]; done) | rfl
theorem rmA67 (l : Launch) (Z : State) (a0 : Array Value) (hw : HW a0 Z) (ws : List Jvm.Cond) (h0 : Heap) (n0 : Nat) (Z0 : n0 ≤ h0.size) : OMet l Z ws (⟨"java/lang/Long", "compareUnsigned", "(JJ)I"⟩ : MethodName) jdk_35_method_43_code 4 (some .int) RA67 #[(.long 9223372036854775807), (.long 6148914691236517205)] h0 n0 (QA67 Z h0) := by
  refine OMet.of (own := "java/lang/Long") rfl (plainFor_of_name pn_2) (efA67) Z0 ?_
  intro p e s m below meth c T0 Y0 hnm
  refine Gl.lloadN Y0 rfl dT_0 rfl ?_
  refine Gl.ldcJ Y0 (tw_102 hw) dT_1 rfl ?_
  refine Gl.ladd Y0 (r := (-1 : Int64)) (by decide) dT_4 rfl ?_
  refine Gl.lloadN Y0 rfl dT_5 rfl ?_
  refine Gl.ldcJ Y0 (tw_102 hw) dT_6 rfl ?_
  refine Gl.ladd Y0 (r := (-3074457345618258603 : Int64)) (by decide) dT_9 rfl ?_
  refine Gl.callS Y0 (tw_103 hw) (tw_104 hw) (tw_100 hw) (tw_105 hw) (by decide) (rmA68 l Z a0 hw [] h0 n0 Y0.sz) (argsL := [(.long (-1)), (.long (-3074457345618258603))]) (rest := []) rfl rfl (lenOf pd_13 rfl) rfl (by decide) (Nat.le_of_ble_eq_true rfl) (by decide) (by decide) dT_10 rfl (fun v10 T10 h10 Y10 q10 => ?_)
  obtain ⟨rfl, rfl⟩ := q10
  show Gl p e below _ (T10.setTop (mkF m 13 _ [(.int 1)]))
  exact Gl.retI Y10 (by decide) (by decide)  dT_13 ⟨rfl, rfl⟩
def RA62 : Room := { frames := 2, cells := 0, slots := 0, locals := 46 }
def QA62 (Z : State) (o0 : Addr) (o1 : Addr) (o2 : Addr) (k_o1 : ClassId) (k_o2 : ClassId) (h0 : Heap) (v : Option Value) (h : Heap) : Prop := v = some (.int 1) ∧ Keep h0 h [o0, o1, o2] ∧ Exa Z h o0 kW ∧ Fld Z h o0 kW "words" "[J" (.ref o1) ∧ Fld Z h o0 kW "work" "[J" (.ref o2) ∧ Arv Z h o1 k_o1 .long (2 : Int32) [(.long (-9223372036854775808)), (.long 9223372036854775807)] (.long 0) ∧ Arv Z h o2 k_o2 .long (6 : Int32) [(.long 6148914691236517205), (.long 0), (.long 0), (.long 0), (.long 0), (.long 0)] (.long 0)
theorem efA62 (o0 : Addr) (m : MethodId) : entryFrame m #[(.ref o0), (.long 6148914691236517205)] 12 = mkF m 0 #[.val (.ref o0), .val (.long 6148914691236517205), .second, .unset, .unset, .unset, .unset, .unset, .unset, .unset, .unset, .unset] [] := by first | (simp [entryFrame, mkF, argsToLocals, Value.category]; done) | rfl
theorem rmA62 (l : Launch) (Z : State) (a0 : Array Value) (hw : HW a0 Z) (ws : List Jvm.Cond) (o0 : Addr) (o1 : Addr) (o2 : Addr) (k_o1 : ClassId) (k_o2 : ClassId) (h0 : Heap) (n0 : Nat) (Z0 : n0 ≤ h0.size) (E_o0 : Exa Z h0 o0 kW) (F_o0_words : Fld Z h0 o0 kW "words" "[J" (.ref o1)) (F_o0_work : Fld Z h0 o0 kW "work" "[J" (.ref o2)) (g_o0 : n0 ≤ o0) (V_o1 : Arv Z h0 o1 k_o1 .long (2 : Int32) [(.long (-9223372036854775808)), (.long 1)] (.long 0)) (g_o1 : n0 ≤ o1) (V_o2 : Arv Z h0 o2 k_o2 .long (6 : Int32) [(.long 6148914691236517205), (.long 0), (.long 0), (.long 0), (.long 0), (.long 0)] (.long 0)) (g_o2 : n0 ≤ o2) (n_o0_o1 : own_ne o0 o1) (n_o0_o2 : own_ne o0 o2) (n_o1_o2 : own_ne o1 o2) : OMet l Z ws (⟨"com/example/meterwise/meterwise/model/WholeNumber", "multiplyMagnitude", "(J)Z"⟩ : MethodName) prog_137_method_18_code 12 (some .boolean) RA62 #[(.ref o0), (.long 6148914691236517205)] h0 n0 (QA62 Z o0 o1 o2 k_o1 k_o2 h0) := by
  refine OMet.of (own := "com/example/meterwise/meterwise/model/WholeNumber") rfl (plainFor_of_name pn_0) (efA62 o0) Z0 ?_
  intro p e s m below meth c T0 Y0 hnm
  refine Gl.lconst Y0 (v := (0 : Int64)) (by decide) dQ_0 rfl ?_
  refine Gl.lstoreN Y0 (L' := #[.val (.ref o0), .val (.long 6148914691236517205), .second, .val (.long 0), .second, .unset, .unset, .unset, .unset, .unset, .unset, .unset]) rfl dQ_1 rfl ?_
  refine Gl.iconst Y0 (v := (0 : Int32)) (by decide) dQ_2 rfl ?_
  refine Gl.istore Y0 (L' := #[.val (.ref o0), .val (.long 6148914691236517205), .second, .val (.long 0), .second, .val (.int 0), .unset, .unset, .unset, .unset, .unset, .unset]) rfl dQ_3 rfl ?_
  refine Gl.iload Y0 rfl dQ_5 rfl ?_
  refine Gl.aloadN Y0 rfl rfl dQ_7 rfl ?_
  refine Gl.getF Y0 (host := "") (Or.inl (tw_15 hw)) Via.refl F_o0_words dQ_8 rfl (fun T8 Y8 => ?_)
  refine Gl.arraylength Y8 V_o1 dQ_11 rfl ?_
  refine Gl.icmpge Y8 dQ_12 (by decide) rfl rfl (fun c12 => ?_) (fun c12 => ?_)
  · exact absurd c12 (by decide)
  refine Gl.aloadN Y8 rfl rfl dQ_15 rfl ?_
  refine Gl.getF Y8 (host := "") (Or.inl (tw_15 hw)) Via.refl F_o0_words dQ_16 rfl (fun T16 Y16 => ?_)
  refine Gl.iload Y16 rfl dQ_19 rfl ?_
  refine Gl.laload Y16 V_o1 ⟨by decide, by decide⟩ (v := (.long (-9223372036854775808))) rfl dQ_21 rfl ?_
  refine Gl.lloadN Y16 rfl dQ_22 rfl ?_
  refine Gl.lmul Y16 (r := (-9223372036854775808 : Int64)) (by decide) dQ_23 rfl ?_
  refine Gl.lstore Y16 (L' := #[.val (.ref o0), .val (.long 6148914691236517205), .second, .val (.long 0), .second, .val (.int 0), .val (.long (-9223372036854775808)), .second, .unset, .unset, .unset, .unset]) rfl dQ_24 rfl ?_
  refine Gl.aloadN Y16 rfl rfl dQ_26 rfl ?_
  refine Gl.getF Y16 (host := "") (Or.inl (tw_15 hw)) Via.refl F_o0_words dQ_27 rfl (fun T27 Y27 => ?_)
  refine Gl.iload Y27 rfl dQ_30 rfl ?_
  refine Gl.laload Y27 V_o1 ⟨by decide, by decide⟩ (v := (.long (-9223372036854775808))) rfl dQ_32 rfl ?_
  refine Gl.lloadN Y27 rfl dQ_33 rfl ?_
  refine Gl.callS Y27 (tw_90 hw) (tw_91 hw) (tw_3 hw) (tw_92 hw) (by decide) (rmA63 l Z a0 hw [] h0 n0 Y27.sz) (argsL := [(.long (-9223372036854775808)), (.long 6148914691236517205)]) (rest := []) rfl rfl (lenOf pd_12 rfl) rfl (by decide) (Nat.le_of_ble_eq_true rfl) (by decide) (by decide) dQ_34 rfl (fun v34 T34 h34 Y34 q34 => ?_)
  obtain ⟨rfl, rfl⟩ := q34
  show Gl p e below _ (T34.setTop (mkF m 37 _ [(.long 3074457345618258602)]))
  refine Gl.lstore Y34 (L' := #[.val (.ref o0), .val (.long 6148914691236517205), .second, .val (.long 0), .second, .val (.int 0), .val (.long (-9223372036854775808)), .second, .val (.long 3074457345618258602), .second, .unset, .unset]) rfl dQ_37 rfl ?_
  refine Gl.lload Y34 rfl dQ_39 rfl ?_
  refine Gl.lloadN Y34 rfl dQ_41 rfl ?_
  refine Gl.ladd Y34 (r := (-9223372036854775808 : Int64)) (by decide) dQ_42 rfl ?_
  refine Gl.lstore Y34 (L' := #[.val (.ref o0), .val (.long 6148914691236517205), .second, .val (.long 0), .second, .val (.int 0), .val (.long (-9223372036854775808)), .second, .val (.long 3074457345618258602), .second, .val (.long (-9223372036854775808)), .second]) rfl dQ_43 rfl ?_
  refine Gl.lload Y34 rfl dQ_45 rfl ?_
  refine Gl.lload Y34 rfl dQ_47 rfl ?_
  refine Gl.lload Y34 rfl dQ_49 rfl ?_
  refine Gl.callS Y34 (tw_98 hw) (tw_99 hw) (tw_100 hw) (tw_101 hw) (by decide) (rmA49 l Z a0 hw [] h0 n0 Y34.sz) (argsL := [(.long (-9223372036854775808)), (.long (-9223372036854775808))]) (rest := [(.long 3074457345618258602)]) rfl rfl (lenOf pd_13 rfl) rfl (by decide) (Nat.le_of_ble_eq_true rfl) (by decide) (by decide) dQ_51 rfl (fun v51 T51 h51 Y51 q51 => ?_)
  obtain ⟨rfl, rfl⟩ := q51
  show Gl p e below _ (T51.setTop (mkF m 54 _ [(.int 0), (.long 3074457345618258602)]))
  refine Gl.ifge Y51 dQ_54 (by decide) rfl rfl (fun c54 => ?_) (fun c54 => ?_)
  rotate_left
  · exact absurd c54 (by decide)
  refine Gl.lconst Y51 (v := (0 : Int64)) (by decide) dQ_61 rfl ?_
  refine Gl.ladd Y51 (r := (3074457345618258602 : Int64)) (by decide) dQ_62 rfl ?_
  refine Gl.lstore Y51 (L' := #[.val (.ref o0), .val (.long 6148914691236517205), .second, .val (.long 0), .second, .val (.int 0), .val (.long (-9223372036854775808)), .second, .val (.long 3074457345618258602), .second, .val (.long (-9223372036854775808)), .second]) rfl dQ_63 rfl ?_
  refine Gl.aloadN Y51 rfl rfl dQ_65 rfl ?_
  refine Gl.getF Y51 (host := "") (Or.inl (tw_15 hw)) Via.refl F_o0_words dQ_66 rfl (fun T66 Y66 => ?_)
  refine Gl.iload Y66 rfl dQ_69 rfl ?_
  refine Gl.lload Y66 rfl dQ_71 rfl ?_
  refine Gl.lastore Y66 V_o1 (v := (.long (-9223372036854775808))) rfl ⟨by decide, by decide⟩ (ix := 0) rfl (Nat.le_of_ble_eq_true rfl) g_o1 dQ_73 rfl (fun T73 h73 Y73 W73 A73 => ?_)
  have A73 : Arv Z h73 o1 k_o1 .long (2 : Int32) [(.long (-9223372036854775808)), (.long 1)] (.long 0) := A73
  have K73 : Keep h0 h73 [o0, o1, o2] := (Keep.refl h0 [o0, o1, o2]).wr W73 (Or.inl (List.mem_of_getElem? (i := 1) rfl))
  show Gl p e below _ (T73.setTop (mkF m 74 _ []))
  refine Gl.lload Y73 rfl dQ_74 rfl ?_
  refine Gl.lstoreN Y73 (L' := #[.val (.ref o0), .val (.long 6148914691236517205), .second, .val (.long 3074457345618258602), .second, .val (.int 0), .val (.long (-9223372036854775808)), .second, .val (.long 3074457345618258602), .second, .val (.long (-9223372036854775808)), .second]) rfl dQ_76 rfl ?_
  refine Gl.iinc Y73 rfl (r := (1 : Int32)) (by decide) (L' := #[.val (.ref o0), .val (.long 6148914691236517205), .second, .val (.long 3074457345618258602), .second, .val (.int 1), .val (.long (-9223372036854775808)), .second, .val (.long 3074457345618258602), .second, .val (.long (-9223372036854775808)), .second]) rfl dQ_77 rfl ?_
  refine Gl.goto Y73 dQ_80 (by decide) rfl ?_
  refine Gl.iload Y73 rfl dQ_5 rfl ?_
  refine Gl.aloadN Y73 rfl rfl dQ_7 rfl ?_
  have f1 := (Fld.other W73 F_o0_words (Or.inl n_o0_o1))
  refine Gl.getF Y73 (host := "") (Or.inl (tw_15 hw)) Via.refl f1 dQ_8 rfl (fun T8_2 Y8_2 => ?_)
  refine Gl.arraylength Y8_2 A73 dQ_11 rfl ?_
  refine Gl.icmpge Y8_2 dQ_12 (by decide) rfl rfl (fun c12_2 => ?_) (fun c12_2 => ?_)
  · exact absurd c12_2 (by decide)
  refine Gl.aloadN Y8_2 rfl rfl dQ_15 rfl ?_
  refine Gl.getF Y8_2 (host := "") (Or.inl (tw_15 hw)) Via.refl f1 dQ_16 rfl (fun T16_2 Y16_2 => ?_)
  refine Gl.iload Y16_2 rfl dQ_19 rfl ?_
  refine Gl.laload Y16_2 A73 ⟨by decide, by decide⟩ (v := (.long 1)) rfl dQ_21 rfl ?_
  refine Gl.lloadN Y16_2 rfl dQ_22 rfl ?_
  refine Gl.lmul Y16_2 (r := (6148914691236517205 : Int64)) (by decide) dQ_23 rfl ?_
  refine Gl.lstore Y16_2 (L' := #[.val (.ref o0), .val (.long 6148914691236517205), .second, .val (.long 3074457345618258602), .second, .val (.int 1), .val (.long 6148914691236517205), .second, .val (.long 3074457345618258602), .second, .val (.long (-9223372036854775808)), .second]) rfl dQ_24 rfl ?_
  refine Gl.aloadN Y16_2 rfl rfl dQ_26 rfl ?_
  refine Gl.getF Y16_2 (host := "") (Or.inl (tw_15 hw)) Via.refl f1 dQ_27 rfl (fun T27_2 Y27_2 => ?_)
  refine Gl.iload Y27_2 rfl dQ_30 rfl ?_
  refine Gl.laload Y27_2 A73 ⟨by decide, by decide⟩ (v := (.long 1)) rfl dQ_32 rfl ?_
  refine Gl.lloadN Y27_2 rfl dQ_33 rfl ?_
  refine Gl.callS Y27_2 (tw_90 hw) (tw_91 hw) (tw_3 hw) (tw_92 hw) (by decide) (rmA65 l Z a0 hw [] h73 n0 Y27_2.sz) (argsL := [(.long 1), (.long 6148914691236517205)]) (rest := []) rfl rfl (lenOf pd_12 rfl) rfl (by decide) (Nat.le_of_ble_eq_true rfl) (by decide) (by decide) dQ_34 rfl (fun v34_2 T34_2 h34_2 Y34_2 q34_2 => ?_)
  obtain ⟨rfl, rfl⟩ := q34_2
  show Gl p e below _ (T34_2.setTop (mkF m 37 _ [(.long 0)]))
  refine Gl.lstore Y34_2 (L' := #[.val (.ref o0), .val (.long 6148914691236517205), .second, .val (.long 3074457345618258602), .second, .val (.int 1), .val (.long 6148914691236517205), .second, .val (.long 0), .second, .val (.long (-9223372036854775808)), .second]) rfl dQ_37 rfl ?_
  refine Gl.lload Y34_2 rfl dQ_39 rfl ?_
  refine Gl.lloadN Y34_2 rfl dQ_41 rfl ?_
  refine Gl.ladd Y34_2 (r := (9223372036854775807 : Int64)) (by decide) dQ_42 rfl ?_
  refine Gl.lstore Y34_2 (L' := #[.val (.ref o0), .val (.long 6148914691236517205), .second, .val (.long 3074457345618258602), .second, .val (.int 1), .val (.long 6148914691236517205), .second, .val (.long 0), .second, .val (.long 9223372036854775807), .second]) rfl dQ_43 rfl ?_
  refine Gl.lload Y34_2 rfl dQ_45 rfl ?_
  refine Gl.lload Y34_2 rfl dQ_47 rfl ?_
  refine Gl.lload Y34_2 rfl dQ_49 rfl ?_
  refine Gl.callS Y34_2 (tw_98 hw) (tw_99 hw) (tw_100 hw) (tw_101 hw) (by decide) (rmA67 l Z a0 hw [] h73 n0 Y34_2.sz) (argsL := [(.long 9223372036854775807), (.long 6148914691236517205)]) (rest := [(.long 0)]) rfl rfl (lenOf pd_13 rfl) rfl (by decide) (Nat.le_of_ble_eq_true rfl) (by decide) (by decide) dQ_51 rfl (fun v51_2 T51_2 h51_2 Y51_2 q51_2 => ?_)
  obtain ⟨rfl, rfl⟩ := q51_2
  show Gl p e below _ (T51_2.setTop (mkF m 54 _ [(.int 1), (.long 0)]))
  refine Gl.ifge Y51_2 dQ_54 (by decide) rfl rfl (fun c54_2 => ?_) (fun c54_2 => ?_)
  rotate_left
  · exact absurd c54_2 (by decide)
  refine Gl.lconst Y51_2 (v := (0 : Int64)) (by decide) dQ_61 rfl ?_
  refine Gl.ladd Y51_2 (r := (0 : Int64)) (by decide) dQ_62 rfl ?_
  refine Gl.lstore Y51_2 (L' := #[.val (.ref o0), .val (.long 6148914691236517205), .second, .val (.long 3074457345618258602), .second, .val (.int 1), .val (.long 6148914691236517205), .second, .val (.long 0), .second, .val (.long 9223372036854775807), .second]) rfl dQ_63 rfl ?_
  refine Gl.aloadN Y51_2 rfl rfl dQ_65 rfl ?_
  refine Gl.getF Y51_2 (host := "") (Or.inl (tw_15 hw)) Via.refl f1 dQ_66 rfl (fun T66_2 Y66_2 => ?_)
  refine Gl.iload Y66_2 rfl dQ_69 rfl ?_
  refine Gl.lload Y66_2 rfl dQ_71 rfl ?_
  refine Gl.lastore Y66_2 A73 (v := (.long 9223372036854775807)) rfl ⟨by decide, by decide⟩ (ix := 1) rfl (Nat.le_of_ble_eq_true rfl) g_o1 dQ_73 rfl (fun T73_2 h73_2 Y73_2 W73_2 A73_2 => ?_)
  have A73_2 : Arv Z h73_2 o1 k_o1 .long (2 : Int32) [(.long (-9223372036854775808)), (.long 9223372036854775807)] (.long 0) := A73_2
  have K73_2 : Keep h0 h73_2 [o0, o1, o2] := K73.wr W73_2 (Or.inl (List.mem_of_getElem? (i := 1) rfl))
  show Gl p e below _ (T73_2.setTop (mkF m 74 _ []))
  refine Gl.lload Y73_2 rfl dQ_74 rfl ?_
  refine Gl.lstoreN Y73_2 (L' := #[.val (.ref o0), .val (.long 6148914691236517205), .second, .val (.long 0), .second, .val (.int 1), .val (.long 6148914691236517205), .second, .val (.long 0), .second, .val (.long 9223372036854775807), .second]) rfl dQ_76 rfl ?_
  refine Gl.iinc Y73_2 rfl (r := (2 : Int32)) (by decide) (L' := #[.val (.ref o0), .val (.long 6148914691236517205), .second, .val (.long 0), .second, .val (.int 2), .val (.long 6148914691236517205), .second, .val (.long 0), .second, .val (.long 9223372036854775807), .second]) rfl dQ_77 rfl ?_
  refine Gl.goto Y73_2 dQ_80 (by decide) rfl ?_
  refine Gl.iload Y73_2 rfl dQ_5 rfl ?_
  refine Gl.aloadN Y73_2 rfl rfl dQ_7 rfl ?_
  have f2 := (Fld.other W73_2 f1 (Or.inl n_o0_o1))
  refine Gl.getF Y73_2 (host := "") (Or.inl (tw_15 hw)) Via.refl f2 dQ_8 rfl (fun T8_3 Y8_3 => ?_)
  refine Gl.arraylength Y8_3 A73_2 dQ_11 rfl ?_
  refine Gl.icmpge Y8_3 dQ_12 (by decide) rfl rfl (fun c12_3 => ?_) (fun c12_3 => ?_)
  rotate_left
  · exact absurd c12_3 (by decide)
  refine Gl.lloadN Y8_3 rfl dQ_83 rfl ?_
  refine Gl.lconst Y8_3 (v := (0 : Int64)) (by decide) dQ_84 rfl ?_
  refine Gl.lcmpne Y8_3 dQ_85 rfl dQ_86 (by decide) rfl rfl (fun c86 => ?_) (fun c86 => ?_)
  · exact absurd c86 (by decide)
  refine Gl.aloadN Y8_3 rfl rfl dQ_89 rfl ?_
  have f3 := (Exa.wr W73_2 (Exa.wr W73 E_o0))
  refine Gl.callP Y8_3 (tw_41 hw) (tw_42 hw) (tw_43 hw) (tw_2 hw) (tw_3 hw) (tw_44 hw) (by decide) f3 (rm10 l Z a0 hw [] o0 o1 k_o1 (-9223372036854775808 : Int64) (9223372036854775807 : Int64) h73_2 n0 Y8_3.sz f3 f2 A73_2) (a := o0) (argsL := []) (rest := []) rfl rfl (lenOf pd_4 rfl) rfl (by decide) (Nat.le_of_ble_eq_true rfl) (by decide) (by decide) dQ_90 rfl (fun v90 T90 h90 Y90 q90 => ?_)
  obtain ⟨rfl, rfl⟩ := q90
  show Gl p e below _ (T90.setTop (mkF m 93 _ [(.long 9223372036854775807)]))
  refine Gl.lconst Y90 (v := (0 : Int64)) (by decide) dQ_93 rfl ?_
  refine Gl.lcmplt Y90 dQ_94 rfl dQ_95 (by decide) rfl rfl (fun c95 => ?_) (fun c95 => ?_)
  · exact absurd c95 (by decide)
  refine Gl.iconst Y90 (v := (1 : Int32)) (by decide) dQ_98 rfl ?_
  refine Gl.goto Y90 dQ_99 (by decide) rfl ?_
  have f4 := (Fld.other W73_2 (Fld.other W73 F_o0_work (Or.inl n_o0_o1)) (Or.inl n_o0_o1))
  have f5 := ((V_o2.other W73 (Ne.symm n_o1_o2)).other W73_2 (Ne.symm n_o1_o2))
  exact Gl.retZ Y90 (by decide) (by decide) (x' := (1 : Int32)) (by decide) dQ_103 ⟨rfl, K73_2, f3, f2, f4, A73_2, f5⟩
def RA69 : Room := { frames := 0, cells := 0, slots := 0, locals := 0 }
def QA69 (Z : State) (o0 : Addr) (o1 : Addr) (o2 : Addr) (k_o1 : ClassId) (k_o2 : ClassId) (h0 : Heap) (v : Option Value) (h : Heap) : Prop := v = some (.ref o0) ∧ Keep h0 h [o0, o1, o2] ∧ Exa Z h o0 kW ∧ Fld Z h o0 kW "words" "[J" (.ref o1) ∧ Fld Z h o0 kW "work" "[J" (.ref o2) ∧ Arv Z h o1 k_o1 .long (2 : Int32) [(.long (-9223372036854775808)), (.long (-9223372036854775808))] (.long 0) ∧ Arv Z h o2 k_o2 .long (6 : Int32) [(.long 6148914691236517205), (.long 0), (.long 0), (.long 0), (.long 0), (.long 0)] (.long 0)
theorem efA69 (o0 : Addr) (m : MethodId) : entryFrame m #[(.ref o0)] 4 = mkF m 0 #[.val (.ref o0), .unset, .unset, .unset] [] := by first | (simp [entryFrame, mkF, argsToLocals, Value.category]; done) | rfl
theorem rmA69 (l : Launch) (Z : State) (a0 : Array Value) (hw : HW a0 Z) (ws : List Jvm.Cond) (o0 : Addr) (o1 : Addr) (o2 : Addr) (k_o1 : ClassId) (k_o2 : ClassId) (h0 : Heap) (n0 : Nat) (Z0 : n0 ≤ h0.size) (E_o0 : Exa Z h0 o0 kW) (F_o0_words : Fld Z h0 o0 kW "words" "[J" (.ref o1)) (F_o0_work : Fld Z h0 o0 kW "work" "[J" (.ref o2)) (g_o0 : n0 ≤ o0) (V_o1 : Arv Z h0 o1 k_o1 .long (2 : Int32) [(.long (-9223372036854775808)), (.long 9223372036854775807)] (.long 0)) (g_o1 : n0 ≤ o1) (V_o2 : Arv Z h0 o2 k_o2 .long (6 : Int32) [(.long 6148914691236517205), (.long 0), (.long 0), (.long 0), (.long 0), (.long 0)] (.long 0)) (g_o2 : n0 ≤ o2) (n_o0_o1 : own_ne o0 o1) (n_o0_o2 : own_ne o0 o2) (n_o1_o2 : own_ne o1 o2) : OMet l Z ws (⟨"com/example/meterwise/meterwise/model/WholeNumber", "negate", "()Lcom/example/meterwise/meterwise/model/WholeNumber;"⟩ : MethodName) prog_137_method_19_code 4 (some (.object "com/example/meterwise/meterwise/model/WholeNumber")) RA69 #[(.ref o0)] h0 n0 (QA69 Z o0 o1 o2 k_o1 k_o2 h0) := by
  refine OMet.of (own := "com/example/meterwise/meterwise/model/WholeNumber") rfl (plainFor_of_name pn_0) (efA69 o0) Z0 ?_
  intro p e s m below meth c T0 Y0 hnm
  refine Gl.lconst Y0 (v := (1 : Int64)) (by decide) dP_0 rfl ?_
  refine Gl.lstoreN Y0 (L' := #[.val (.ref o0), .val (.long 1), .second, .unset]) rfl dP_1 rfl ?_
  refine Gl.iconst Y0 (v := (0 : Int32)) (by decide) dP_2 rfl ?_
  refine Gl.istoreN Y0 (L' := #[.val (.ref o0), .val (.long 1), .second, .val (.int 0)]) rfl dP_3 rfl ?_
  refine Gl.iloadN Y0 rfl dP_4 rfl ?_
  refine Gl.aloadN Y0 rfl rfl dP_5 rfl ?_
  refine Gl.getF Y0 (host := "") (Or.inl (tw_15 hw)) Via.refl F_o0_words dP_6 rfl (fun T6 Y6 => ?_)
  refine Gl.arraylength Y6 V_o1 dP_9 rfl ?_
  refine Gl.icmpge Y6 dP_10 (by decide) rfl rfl (fun c10 => ?_) (fun c10 => ?_)
  · exact absurd c10 (by decide)
  refine Gl.aloadN Y6 rfl rfl dP_13 rfl ?_
  refine Gl.getF Y6 (host := "") (Or.inl (tw_15 hw)) Via.refl F_o0_words dP_14 rfl (fun T14 Y14 => ?_)
  refine Gl.iloadN Y14 rfl dP_17 rfl ?_
  refine Gl.aloadN Y14 rfl rfl dP_18 rfl ?_
  refine Gl.getF Y14 (host := "") (Or.inl (tw_15 hw)) Via.refl F_o0_words dP_19 rfl (fun T19 Y19 => ?_)
  refine Gl.iloadN Y19 rfl dP_22 rfl ?_
  refine Gl.laload Y19 V_o1 ⟨by decide, by decide⟩ (v := (.long (-9223372036854775808))) rfl dP_23 rfl ?_
  refine Gl.ldcJ Y19 (tw_85 hw) dP_24 rfl ?_
  refine Gl.lxor Y19 (r := (9223372036854775807 : Int64)) (by decide) dP_27 rfl ?_
  refine Gl.lloadN Y19 rfl dP_28 rfl ?_
  refine Gl.ladd Y19 (r := (-9223372036854775808 : Int64)) (by decide) dP_29 rfl ?_
  refine Gl.lastore Y19 V_o1 (v := (.long (-9223372036854775808))) rfl ⟨by decide, by decide⟩ (ix := 0) rfl (Nat.le_of_ble_eq_true rfl) g_o1 dP_30 rfl (fun T30 h30 Y30 W30 A30 => ?_)
  have A30 : Arv Z h30 o1 k_o1 .long (2 : Int32) [(.long (-9223372036854775808)), (.long 9223372036854775807)] (.long 0) := A30
  have K30 : Keep h0 h30 [o0, o1, o2] := (Keep.refl h0 [o0, o1, o2]).wr W30 (Or.inl (List.mem_of_getElem? (i := 1) rfl))
  show Gl p e below _ (T30.setTop (mkF m 31 _ []))
  refine Gl.lloadN Y30 rfl dP_31 rfl ?_
  refine Gl.aloadN Y30 rfl rfl dP_32 rfl ?_
  have f1 := (Fld.other W30 F_o0_words (Or.inl n_o0_o1))
  refine Gl.getF Y30 (host := "") (Or.inl (tw_15 hw)) Via.refl f1 dP_33 rfl (fun T33 Y33 => ?_)
  refine Gl.iloadN Y33 rfl dP_36 rfl ?_
  refine Gl.laload Y33 A30 ⟨by decide, by decide⟩ (v := (.long (-9223372036854775808))) rfl dP_37 rfl ?_
  refine Gl.lconst Y33 (v := (0 : Int64)) (by decide) dP_38 rfl ?_
  refine Gl.lcmpne Y33 dP_39 rfl dP_40 (by decide) rfl rfl (fun c40 => ?_) (fun c40 => ?_)
  rotate_left
  · exact absurd c40 (by decide)
  refine Gl.lconst Y33 (v := (0 : Int64)) (by decide) dP_47 rfl ?_
  refine Gl.land Y33 (r := (0 : Int64)) (by decide) dP_48 rfl ?_
  refine Gl.lstoreN Y33 (L' := #[.val (.ref o0), .val (.long 0), .second, .val (.int 0)]) rfl dP_49 rfl ?_
  refine Gl.iinc Y33 rfl (r := (1 : Int32)) (by decide) (L' := #[.val (.ref o0), .val (.long 0), .second, .val (.int 1)]) rfl dP_50 rfl ?_
  refine Gl.goto Y33 dP_53 (by decide) rfl ?_
  refine Gl.iloadN Y33 rfl dP_4 rfl ?_
  refine Gl.aloadN Y33 rfl rfl dP_5 rfl ?_
  refine Gl.getF Y33 (host := "") (Or.inl (tw_15 hw)) Via.refl f1 dP_6 rfl (fun T6_2 Y6_2 => ?_)
  refine Gl.arraylength Y6_2 A30 dP_9 rfl ?_
  refine Gl.icmpge Y6_2 dP_10 (by decide) rfl rfl (fun c10_2 => ?_) (fun c10_2 => ?_)
  · exact absurd c10_2 (by decide)
  refine Gl.aloadN Y6_2 rfl rfl dP_13 rfl ?_
  refine Gl.getF Y6_2 (host := "") (Or.inl (tw_15 hw)) Via.refl f1 dP_14 rfl (fun T14_2 Y14_2 => ?_)
  refine Gl.iloadN Y14_2 rfl dP_17 rfl ?_
  refine Gl.aloadN Y14_2 rfl rfl dP_18 rfl ?_
  refine Gl.getF Y14_2 (host := "") (Or.inl (tw_15 hw)) Via.refl f1 dP_19 rfl (fun T19_2 Y19_2 => ?_)
  refine Gl.iloadN Y19_2 rfl dP_22 rfl ?_
  refine Gl.laload Y19_2 A30 ⟨by decide, by decide⟩ (v := (.long 9223372036854775807)) rfl dP_23 rfl ?_
  refine Gl.ldcJ Y19_2 (tw_85 hw) dP_24 rfl ?_
  refine Gl.lxor Y19_2 (r := (-9223372036854775808 : Int64)) (by decide) dP_27 rfl ?_
  refine Gl.lloadN Y19_2 rfl dP_28 rfl ?_
  refine Gl.ladd Y19_2 (r := (-9223372036854775808 : Int64)) (by decide) dP_29 rfl ?_
  refine Gl.lastore Y19_2 A30 (v := (.long (-9223372036854775808))) rfl ⟨by decide, by decide⟩ (ix := 1) rfl (Nat.le_of_ble_eq_true rfl) g_o1 dP_30 rfl (fun T30_2 h30_2 Y30_2 W30_2 A30_2 => ?_)
  have A30_2 : Arv Z h30_2 o1 k_o1 .long (2 : Int32) [(.long (-9223372036854775808)), (.long (-9223372036854775808))] (.long 0) := A30_2
  have K30_2 : Keep h0 h30_2 [o0, o1, o2] := K30.wr W30_2 (Or.inl (List.mem_of_getElem? (i := 1) rfl))
  show Gl p e below _ (T30_2.setTop (mkF m 31 _ []))
  refine Gl.lloadN Y30_2 rfl dP_31 rfl ?_
  refine Gl.aloadN Y30_2 rfl rfl dP_32 rfl ?_
  have f2 := (Fld.other W30_2 f1 (Or.inl n_o0_o1))
  refine Gl.getF Y30_2 (host := "") (Or.inl (tw_15 hw)) Via.refl f2 dP_33 rfl (fun T33_2 Y33_2 => ?_)
  refine Gl.iloadN Y33_2 rfl dP_36 rfl ?_
  refine Gl.laload Y33_2 A30_2 ⟨by decide, by decide⟩ (v := (.long (-9223372036854775808))) rfl dP_37 rfl ?_
  refine Gl.lconst Y33_2 (v := (0 : Int64)) (by decide) dP_38 rfl ?_
  refine Gl.lcmpne Y33_2 dP_39 rfl dP_40 (by decide) rfl rfl (fun c40_2 => ?_) (fun c40_2 => ?_)
  rotate_left
  · exact absurd c40_2 (by decide)
  refine Gl.lconst Y33_2 (v := (0 : Int64)) (by decide) dP_47 rfl ?_
  refine Gl.land Y33_2 (r := (0 : Int64)) (by decide) dP_48 rfl ?_
  refine Gl.lstoreN Y33_2 (L' := #[.val (.ref o0), .val (.long 0), .second, .val (.int 1)]) rfl dP_49 rfl ?_
  refine Gl.iinc Y33_2 rfl (r := (2 : Int32)) (by decide) (L' := #[.val (.ref o0), .val (.long 0), .second, .val (.int 2)]) rfl dP_50 rfl ?_
  refine Gl.goto Y33_2 dP_53 (by decide) rfl ?_
  refine Gl.iloadN Y33_2 rfl dP_4 rfl ?_
  refine Gl.aloadN Y33_2 rfl rfl dP_5 rfl ?_
  refine Gl.getF Y33_2 (host := "") (Or.inl (tw_15 hw)) Via.refl f2 dP_6 rfl (fun T6_3 Y6_3 => ?_)
  refine Gl.arraylength Y6_3 A30_2 dP_9 rfl ?_
  refine Gl.icmpge Y6_3 dP_10 (by decide) rfl rfl (fun c10_3 => ?_) (fun c10_3 => ?_)
  rotate_left
  · exact absurd c10_3 (by decide)
  refine Gl.aloadN Y6_3 rfl rfl dP_56 rfl ?_
  have f3 := (Exa.wr W30_2 (Exa.wr W30 E_o0))
  have f4 := (Fld.other W30_2 (Fld.other W30 F_o0_work (Or.inl n_o0_o1)) (Or.inl n_o0_o1))
  have f5 := ((V_o2.other W30 (Ne.symm n_o1_o2)).other W30_2 (Ne.symm n_o1_o2))
  exact Gl.retA Y6_3 (by decide) (by decide) rfl rfl dP_57 ⟨rfl, K30_2, f3, f2, f4, A30_2, f5⟩
def RA56 : Room := { frames := 3, cells := 0, slots := 0, locals := 69 }
def QA56 (Z : State) (o0 : Addr) (o1 : Addr) (o2 : Addr) (o3 : Addr) (o4 : Addr) (k_o2 : ClassId) (k_o3 : ClassId) (k_o4 : ClassId) (h0 : Heap) (v : Option Value) (h : Heap) : Prop := v = some (.ref o0) ∧ Keep h0 h [o0, o1, o2, o3, o4] ∧ Exa Z h o0 kW ∧ Exa Z h o1 kW ∧ Fld Z h o0 kW "words" "[J" (.ref o2) ∧ Fld Z h o0 kW "work" "[J" (.ref o3) ∧ Fld Z h o1 kW "words" "[J" (.ref o4) ∧ Fld Z h o1 kW "work" "[J" .null ∧ Arv Z h o2 k_o2 .long (2 : Int32) [(.long (-9223372036854775808)), (.long (-9223372036854775808))] (.long 0) ∧ Arv Z h o3 k_o3 .long (6 : Int32) [(.long 6148914691236517205), (.long 0), (.long 0), (.long 0), (.long 0), (.long 0)] (.long 0) ∧ Arv Z h o4 k_o4 .long (2 : Int32) [(.long 6148914691236517205), (.long 0)] (.long 0)
theorem efA56 (o0 : Addr) (o1 : Addr) (m : MethodId) : entryFrame m #[(.ref o0), (.ref o1)] 10 = mkF m 0 #[.val (.ref o0), .val (.ref o1), .unset, .unset, .unset, .unset, .unset, .unset, .unset, .unset] [] := by first | (simp [entryFrame, mkF, argsToLocals, Value.category]; done) | rfl
theorem rmA56 (l : Launch) (Z : State) (a0 : Array Value) (hw : HW a0 Z) (ws : List Jvm.Cond) (o0 : Addr) (o1 : Addr) (o2 : Addr) (o3 : Addr) (o4 : Addr) (k_o2 : ClassId) (k_o3 : ClassId) (k_o4 : ClassId) (h0 : Heap) (n0 : Nat) (Z0 : n0 ≤ h0.size) (E_o0 : Exa Z h0 o0 kW) (F_o0_words : Fld Z h0 o0 kW "words" "[J" (.ref o2)) (F_o0_work : Fld Z h0 o0 kW "work" "[J" (.ref o3)) (g_o0 : n0 ≤ o0) (E_o1 : Exa Z h0 o1 kW) (F_o1_words : Fld Z h0 o1 kW "words" "[J" (.ref o4)) (F_o1_work : Fld Z h0 o1 kW "work" "[J" .null) (g_o1 : n0 ≤ o1) (V_o2 : Arv Z h0 o2 k_o2 .long (2 : Int32) [(.long (-9223372036854775808)), (.long (-2))] (.long 0)) (g_o2 : n0 ≤ o2) (V_o3 : Arv Z h0 o3 k_o3 .long (6 : Int32) [(.long 3), (.long 0), (.long 0), (.long 0), (.long 0), (.long 0)] (.long 0)) (g_o3 : n0 ≤ o3) (V_o4 : Arv Z h0 o4 k_o4 .long (2 : Int32) [(.long 6148914691236517205), (.long 0)] (.long 0)) (g_o4 : n0 ≤ o4) (n_o0_o1 : own_ne o0 o1) (n_o0_o2 : own_ne o0 o2) (n_o0_o3 : own_ne o0 o3) (n_o0_o4 : own_ne o0 o4) (n_o1_o2 : own_ne o1 o2) (n_o1_o3 : own_ne o1 o3) (n_o1_o4 : own_ne o1 o4) (n_o2_o3 : own_ne o2 o3) (n_o2_o4 : own_ne o2 o4) (n_o3_o4 : own_ne o3 o4) : OMet l Z ws (⟨"com/example/meterwise/meterwise/model/WholeNumber", "multiply", "(Lcom/example/meterwise/meterwise/model/WholeNumber;)Lcom/example/meterwise/meterwise/model/WholeNumber;"⟩ : MethodName) prog_137_method_15_code 10 (some (.object "com/example/meterwise/meterwise/model/WholeNumber")) RA56 #[(.ref o0), (.ref o1)] h0 n0 (QA56 Z o0 o1 o2 o3 o4 k_o2 k_o3 k_o4 h0) := by
  refine OMet.of (own := "com/example/meterwise/meterwise/model/WholeNumber") rfl (plainFor_of_name pn_0) (efA56 o0 o1) Z0 ?_
  intro p e s m below meth c T0 Y0 hnm
  refine Gl.aloadN Y0 rfl rfl dK_0 rfl ?_
  refine Gl.callV Y0 (tw_36 hw) (tw_37 hw) (tw_39 hw) (tw_39 hw) (tw_38 hw) (tw_3 hw) (tw_40 hw) (by decide) E_o0 (rmA57 l Z a0 hw [] o0 o2 o3 k_o2 k_o3 h0 n0 Y0.sz E_o0 F_o0_words F_o0_work g_o0 V_o2 g_o2 V_o3 g_o3 n_o0_o2 n_o0_o3 n_o2_o3) (a := o0) (argsL := []) (rest := []) rfl rfl (lenOf pd_5 rfl) rfl (by decide) (Nat.le_of_ble_eq_true rfl) (by decide) (by decide) dK_1 rfl (fun v1 T1 h1 Y1 q1 => ?_)
  obtain ⟨rfl, rfl⟩ := q1
  show Gl p e below _ (T1.setTop (mkF m 4 _ [(.int 0)]))
  refine Gl.ifne Y1 dK_4 (by decide) rfl rfl (fun c4 => ?_) (fun c4 => ?_)
  · exact absurd c4 (by decide)
  refine Gl.aloadN Y1 rfl rfl dK_7 rfl ?_
  refine Gl.callV Y1 (tw_36 hw) (tw_37 hw) (tw_39 hw) (tw_39 hw) (tw_38 hw) (tw_3 hw) (tw_40 hw) (by decide) E_o1 (rmA58 l Z a0 hw [] o1 o4 k_o4 h0 n0 Y1.sz E_o1 F_o1_words F_o1_work g_o1 V_o4 g_o4 n_o1_o4) (a := o1) (argsL := []) (rest := []) rfl rfl (lenOf pd_5 rfl) rfl (by decide) (Nat.le_of_ble_eq_true rfl) (by decide) (by decide) dK_8 rfl (fun v8 T8 h8 Y8 q8 => ?_)
  obtain ⟨rfl, rfl⟩ := q8
  show Gl p e below _ (T8.setTop (mkF m 11 _ [(.int 0)]))
  refine Gl.ifeq Y8 dK_11 (by decide) rfl rfl (fun c11 => ?_) (fun c11 => ?_)
  rotate_left
  · exact absurd c11 (by decide)
  refine Gl.aloadN Y8 rfl rfl dK_19 rfl ?_
  refine Gl.callV Y8 (tw_69 hw) (tw_70 hw) (tw_72 hw) (tw_72 hw) (tw_71 hw) (tw_3 hw) (tw_73 hw) (by decide) E_o0 (rmA59 l Z a0 hw [] o0 o2 o3 k_o2 k_o3 h0 n0 Y8.sz E_o0 F_o0_words F_o0_work g_o0 V_o2 g_o2 V_o3 g_o3 n_o0_o2 n_o0_o3 n_o2_o3) (a := o0) (argsL := []) (rest := []) rfl rfl (lenOf pd_10 rfl) rfl (by decide) (Nat.le_of_ble_eq_true rfl) (by decide) (by decide) dK_20 rfl (fun v20 T20 h20 Y20 q20 => ?_)
  obtain ⟨rfl, rfl⟩ := q20
  show Gl p e below _ (T20.setTop (mkF m 23 _ [(.int (-1))]))
  refine Gl.ifne Y20 dK_23 (by decide) rfl rfl (fun c23 => ?_) (fun c23 => ?_)
  rotate_left
  · exact absurd c23 (by decide)
  refine Gl.aloadN Y20 rfl rfl dK_28 rfl ?_
  refine Gl.callP Y20 (tw_74 hw) (tw_75 hw) (tw_76 hw) (tw_2 hw) (tw_3 hw) (tw_77 hw) (by decide) E_o0 (rmA60 l Z a0 hw [] o0 o2 o3 k_o2 k_o3 h0 n0 Y20.sz E_o0 F_o0_words F_o0_work g_o0 V_o2 g_o2 V_o3 g_o3 n_o0_o2 n_o0_o3 n_o2_o3) (a := o0) (argsL := []) (rest := []) rfl rfl (lenOf pd_11 rfl) rfl (by decide) (Nat.le_of_ble_eq_true rfl) (by decide) (by decide) dK_29 rfl (fun v29 T29 h29 Y29 q29 => ?_)
  obtain ⟨rfl, rfl⟩ := q29
  show Gl p e below _ (T29.setTop (mkF m 32 _ [(.ref o3)]))
  refine Gl.astoreN Y29 rfl (L' := #[.val (.ref o0), .val (.ref o1), .val (.ref o3), .unset, .unset, .unset, .unset, .unset, .unset, .unset]) rfl dK_32 rfl ?_
  refine Gl.aloadN Y29 rfl rfl dK_33 rfl ?_
  refine Gl.callP Y29 (tw_41 hw) (tw_42 hw) (tw_43 hw) (tw_2 hw) (tw_3 hw) (tw_44 hw) (by decide) E_o1 (rm10 l Z a0 hw [] o1 o4 k_o4 (6148914691236517205 : Int64) (0 : Int64) h0 n0 Y29.sz E_o1 F_o1_words V_o4) (a := o1) (argsL := []) (rest := []) rfl rfl (lenOf pd_4 rfl) rfl (by decide) (Nat.le_of_ble_eq_true rfl) (by decide) (by decide) dK_34 rfl (fun v34 T34 h34 Y34 q34 => ?_)
  obtain ⟨rfl, rfl⟩ := q34
  show Gl p e below _ (T34.setTop (mkF m 37 _ [(.long 0)]))
  refine Gl.lconst Y34 (v := (0 : Int64)) (by decide) dK_37 rfl ?_
  refine Gl.lcmpge Y34 dK_38 rfl dK_39 (by decide) rfl rfl (fun c39 => ?_) (fun c39 => ?_)
  rotate_left
  · exact absurd c39 (by decide)
  refine Gl.iconst Y34 (v := (0 : Int32)) (by decide) dK_46 rfl ?_
  refine Gl.istoreN Y34 (L' := #[.val (.ref o0), .val (.ref o1), .val (.ref o3), .val (.int 0), .unset, .unset, .unset, .unset, .unset, .unset]) rfl dK_47 rfl ?_
  refine Gl.iconst Y34 (v := (0 : Int32)) (by decide) dK_48 rfl ?_
  refine Gl.istore Y34 (L' := #[.val (.ref o0), .val (.ref o1), .val (.ref o3), .val (.int 0), .val (.int 0), .unset, .unset, .unset, .unset, .unset]) rfl dK_49 rfl ?_
  refine Gl.lconst Y34 (v := (1 : Int64)) (by decide) dK_51 rfl ?_
  refine Gl.lstore Y34 (L' := #[.val (.ref o0), .val (.ref o1), .val (.ref o3), .val (.int 0), .val (.int 0), .val (.long 1), .second, .unset, .unset, .unset]) rfl dK_52 rfl ?_
  refine Gl.iconst Y34 (v := (0 : Int32)) (by decide) dK_54 rfl ?_
  refine Gl.istore Y34 (L' := #[.val (.ref o0), .val (.ref o1), .val (.ref o3), .val (.int 0), .val (.int 0), .val (.long 1), .second, .val (.int 0), .unset, .unset]) rfl dK_55 rfl ?_
  refine Gl.iload Y34 rfl dK_57 rfl ?_
  refine Gl.aloadN Y34 rfl rfl dK_59 rfl ?_
  refine Gl.getF Y34 (host := "") (Or.inl (tw_15 hw)) Via.refl F_o1_words dK_60 rfl (fun T60 Y60 => ?_)
  refine Gl.arraylength Y60 V_o4 dK_63 rfl ?_
  refine Gl.icmpge Y60 dK_64 (by decide) rfl rfl (fun c64 => ?_) (fun c64 => ?_)
  · exact absurd c64 (by decide)
  refine Gl.aloadN Y60 rfl rfl dK_67 rfl ?_
  refine Gl.getF Y60 (host := "") (Or.inl (tw_15 hw)) Via.refl F_o1_words dK_68 rfl (fun T68 Y68 => ?_)
  refine Gl.iload Y68 rfl dK_71 rfl ?_
  refine Gl.laload Y68 V_o4 ⟨by decide, by decide⟩ (v := (.long 6148914691236517205)) rfl dK_73 rfl ?_
  refine Gl.lstore Y68 (L' := #[.val (.ref o0), .val (.ref o1), .val (.ref o3), .val (.int 0), .val (.int 0), .val (.long 1), .second, .val (.int 0), .val (.long 6148914691236517205), .second]) rfl dK_74 rfl ?_
  refine Gl.iloadN Y68 rfl dK_76 rfl ?_
  refine Gl.ifeq Y68 dK_77 (by decide) rfl rfl (fun c77 => ?_) (fun c77 => ?_)
  rotate_left
  · exact absurd c77 (by decide)
  refine Gl.lload Y68 rfl dK_108 rfl ?_
  refine Gl.lconst Y68 (v := (0 : Int64)) (by decide) dK_110 rfl ?_
  refine Gl.lcmpeq Y68 dK_111 rfl dK_112 (by decide) rfl rfl (fun c112 => ?_) (fun c112 => ?_)
  · exact absurd c112 (by decide)
  refine Gl.iload Y68 rfl dK_115 rfl ?_
  refine Gl.iconst Y68 (v := (1 : Int32)) (by decide) dK_117 rfl ?_
  refine Gl.iadd Y68 (r := (1 : Int32)) (by decide) dK_118 rfl ?_
  refine Gl.goto Y68 dK_119 (by decide) rfl ?_
  refine Gl.istore Y68 (L' := #[.val (.ref o0), .val (.ref o1), .val (.ref o3), .val (.int 0), .val (.int 1), .val (.long 1), .second, .val (.int 0), .val (.long 6148914691236517205), .second]) rfl dK_124 rfl ?_
  refine Gl.iload Y68 rfl dK_126 rfl ?_
  refine Gl.aloadN Y68 rfl rfl dK_128 rfl ?_
  refine Gl.getF Y68 (host := "") (Or.inl (tw_15 hw)) Via.refl F_o0_words dK_129 rfl (fun T129 Y129 => ?_)
  refine Gl.arraylength Y129 V_o2 dK_132 rfl ?_
  refine Gl.icmpgt Y129 dK_133 (by decide) rfl rfl (fun c133 => ?_) (fun c133 => ?_)
  · exact absurd c133 (by decide)
  refine Gl.aloadN Y129 rfl rfl dK_136 rfl ?_
  refine Gl.iload Y129 rfl dK_137 rfl ?_
  refine Gl.lload Y129 rfl dK_139 rfl ?_
  refine Gl.lastore Y129 V_o3 (v := (.long 6148914691236517205)) rfl ⟨by decide, by decide⟩ (ix := 0) rfl (Nat.le_of_ble_eq_true rfl) g_o3 dK_141 rfl (fun T141 h141 Y141 W141 A141 => ?_)
  have A141 : Arv Z h141 o3 k_o3 .long (6 : Int32) [(.long 6148914691236517205), (.long 0), (.long 0), (.long 0), (.long 0), (.long 0)] (.long 0) := A141
  have K141 : Keep h0 h141 [o0, o1, o2, o3, o4] := (Keep.refl h0 [o0, o1, o2, o3, o4]).wr W141 (Or.inl (List.mem_of_getElem? (i := 3) rfl))
  show Gl p e below _ (T141.setTop (mkF m 142 _ []))
  refine Gl.iinc Y141 rfl (r := (1 : Int32)) (by decide) (L' := #[.val (.ref o0), .val (.ref o1), .val (.ref o3), .val (.int 0), .val (.int 1), .val (.long 1), .second, .val (.int 1), .val (.long 6148914691236517205), .second]) rfl dK_142 rfl ?_
  refine Gl.goto Y141 dK_145 (by decide) rfl ?_
  refine Gl.iload Y141 rfl dK_57 rfl ?_
  refine Gl.aloadN Y141 rfl rfl dK_59 rfl ?_
  have f1 := (Fld.other W141 F_o1_words (Or.inl n_o1_o3))
  refine Gl.getF Y141 (host := "") (Or.inl (tw_15 hw)) Via.refl f1 dK_60 rfl (fun T60_2 Y60_2 => ?_)
  have f2 := (V_o4.other W141 (Ne.symm n_o3_o4))
  refine Gl.arraylength Y60_2 f2 dK_63 rfl ?_
  refine Gl.icmpge Y60_2 dK_64 (by decide) rfl rfl (fun c64_2 => ?_) (fun c64_2 => ?_)
  · exact absurd c64_2 (by decide)
  refine Gl.aloadN Y60_2 rfl rfl dK_67 rfl ?_
  refine Gl.getF Y60_2 (host := "") (Or.inl (tw_15 hw)) Via.refl f1 dK_68 rfl (fun T68_2 Y68_2 => ?_)
  refine Gl.iload Y68_2 rfl dK_71 rfl ?_
  refine Gl.laload Y68_2 f2 ⟨by decide, by decide⟩ (v := (.long 0)) rfl dK_73 rfl ?_
  refine Gl.lstore Y68_2 (L' := #[.val (.ref o0), .val (.ref o1), .val (.ref o3), .val (.int 0), .val (.int 1), .val (.long 1), .second, .val (.int 1), .val (.long 0), .second]) rfl dK_74 rfl ?_
  refine Gl.iloadN Y68_2 rfl dK_76 rfl ?_
  refine Gl.ifeq Y68_2 dK_77 (by decide) rfl rfl (fun c77_2 => ?_) (fun c77_2 => ?_)
  rotate_left
  · exact absurd c77_2 (by decide)
  refine Gl.lload Y68_2 rfl dK_108 rfl ?_
  refine Gl.lconst Y68_2 (v := (0 : Int64)) (by decide) dK_110 rfl ?_
  refine Gl.lcmpeq Y68_2 dK_111 rfl dK_112 (by decide) rfl rfl (fun c112_2 => ?_) (fun c112_2 => ?_)
  rotate_left
  · exact absurd c112_2 (by decide)
  refine Gl.iload Y68_2 rfl dK_122 rfl ?_
  refine Gl.istore Y68_2 (L' := #[.val (.ref o0), .val (.ref o1), .val (.ref o3), .val (.int 0), .val (.int 1), .val (.long 1), .second, .val (.int 1), .val (.long 0), .second]) rfl dK_124 rfl ?_
  refine Gl.iload Y68_2 rfl dK_126 rfl ?_
  refine Gl.aloadN Y68_2 rfl rfl dK_128 rfl ?_
  have f3 := (Fld.other W141 F_o0_words (Or.inl n_o0_o3))
  refine Gl.getF Y68_2 (host := "") (Or.inl (tw_15 hw)) Via.refl f3 dK_129 rfl (fun T129_2 Y129_2 => ?_)
  have f4 := (V_o2.other W141 n_o2_o3)
  refine Gl.arraylength Y129_2 f4 dK_132 rfl ?_
  refine Gl.icmpgt Y129_2 dK_133 (by decide) rfl rfl (fun c133_2 => ?_) (fun c133_2 => ?_)
  · exact absurd c133_2 (by decide)
  refine Gl.aloadN Y129_2 rfl rfl dK_136 rfl ?_
  refine Gl.iload Y129_2 rfl dK_137 rfl ?_
  refine Gl.lload Y129_2 rfl dK_139 rfl ?_
  refine Gl.lastore Y129_2 A141 (v := (.long 0)) rfl ⟨by decide, by decide⟩ (ix := 1) rfl (Nat.le_of_ble_eq_true rfl) g_o3 dK_141 rfl (fun T141_2 h141_2 Y141_2 W141_2 A141_2 => ?_)
  have A141_2 : Arv Z h141_2 o3 k_o3 .long (6 : Int32) [(.long 6148914691236517205), (.long 0), (.long 0), (.long 0), (.long 0), (.long 0)] (.long 0) := A141_2
  have K141_2 : Keep h0 h141_2 [o0, o1, o2, o3, o4] := K141.wr W141_2 (Or.inl (List.mem_of_getElem? (i := 3) rfl))
  show Gl p e below _ (T141_2.setTop (mkF m 142 _ []))
  refine Gl.iinc Y141_2 rfl (r := (2 : Int32)) (by decide) (L' := #[.val (.ref o0), .val (.ref o1), .val (.ref o3), .val (.int 0), .val (.int 1), .val (.long 1), .second, .val (.int 2), .val (.long 0), .second]) rfl dK_142 rfl ?_
  refine Gl.goto Y141_2 dK_145 (by decide) rfl ?_
  refine Gl.iload Y141_2 rfl dK_57 rfl ?_
  refine Gl.aloadN Y141_2 rfl rfl dK_59 rfl ?_
  have f5 := (Fld.other W141_2 f1 (Or.inl n_o1_o3))
  refine Gl.getF Y141_2 (host := "") (Or.inl (tw_15 hw)) Via.refl f5 dK_60 rfl (fun T60_3 Y60_3 => ?_)
  have f6 := (f2.other W141_2 (Ne.symm n_o3_o4))
  refine Gl.arraylength Y60_3 f6 dK_63 rfl ?_
  refine Gl.icmpge Y60_3 dK_64 (by decide) rfl rfl (fun c64_3 => ?_) (fun c64_3 => ?_)
  rotate_left
  · exact absurd c64_3 (by decide)
  refine Gl.aloadN Y60_3 rfl rfl dK_148 rfl ?_
  have f7 := (Exa.wr W141_2 (Exa.wr W141 E_o0))
  have f8 := (Fld.other W141_2 f3 (Or.inl n_o0_o3))
  have f9 := (f4.other W141_2 n_o2_o3)
  refine Gl.callP Y60_3 (tw_41 hw) (tw_42 hw) (tw_43 hw) (tw_2 hw) (tw_3 hw) (tw_44 hw) (by decide) f7 (rm10 l Z a0 hw [] o0 o2 k_o2 (-9223372036854775808 : Int64) (-2 : Int64) h141_2 n0 Y60_3.sz f7 f8 f9) (a := o0) (argsL := []) (rest := []) rfl rfl (lenOf pd_4 rfl) rfl (by decide) (Nat.le_of_ble_eq_true rfl) (by decide) (by decide) dK_149 rfl (fun v149 T149 h149 Y149 q149 => ?_)
  obtain ⟨rfl, rfl⟩ := q149
  show Gl p e below _ (T149.setTop (mkF m 152 _ [(.long (-2))]))
  refine Gl.lconst Y149 (v := (0 : Int64)) (by decide) dK_152 rfl ?_
  refine Gl.lcmpge Y149 dK_153 rfl dK_154 (by decide) rfl rfl (fun c154 => ?_) (fun c154 => ?_)
  · exact absurd c154 (by decide)
  refine Gl.iconst Y149 (v := (1 : Int32)) (by decide) dK_157 rfl ?_
  refine Gl.goto Y149 dK_158 (by decide) rfl ?_
  refine Gl.iloadN Y149 rfl dK_162 rfl ?_
  refine Gl.icmpeq Y149 dK_163 (by decide) rfl rfl (fun c163 => ?_) (fun c163 => ?_)
  · exact absurd c163 (by decide)
  refine Gl.iconst Y149 (v := (1 : Int32)) (by decide) dK_166 rfl ?_
  refine Gl.goto Y149 dK_167 (by decide) rfl ?_
  refine Gl.istore Y149 (L' := #[.val (.ref o0), .val (.ref o1), .val (.ref o3), .val (.int 0), .val (.int 1), .val (.long 1), .second, .val (.int 1), .val (.long 0), .second]) rfl dK_171 rfl ?_
  refine Gl.aloadN Y149 rfl rfl dK_173 rfl ?_
  refine Gl.callP Y149 (tw_41 hw) (tw_42 hw) (tw_43 hw) (tw_2 hw) (tw_3 hw) (tw_44 hw) (by decide) f7 (rm10 l Z a0 hw [] o0 o2 k_o2 (-9223372036854775808 : Int64) (-2 : Int64) h141_2 n0 Y149.sz f7 f8 f9) (a := o0) (argsL := []) (rest := []) rfl rfl (lenOf pd_4 rfl) rfl (by decide) (Nat.le_of_ble_eq_true rfl) (by decide) (by decide) dK_174 rfl (fun v174 T174 h174 Y174 q174 => ?_)
  obtain ⟨rfl, rfl⟩ := q174
  show Gl p e below _ (T174.setTop (mkF m 177 _ [(.long (-2))]))
  refine Gl.lconst Y174 (v := (0 : Int64)) (by decide) dK_177 rfl ?_
  refine Gl.lcmpge Y174 dK_178 rfl dK_179 (by decide) rfl rfl (fun c179 => ?_) (fun c179 => ?_)
  · exact absurd c179 (by decide)
  refine Gl.aloadN Y174 rfl rfl dK_182 rfl ?_
  have f10 := (Fld.other W141_2 (Fld.other W141 F_o0_work (Or.inl n_o0_o3)) (Or.inl n_o0_o3))
  refine Gl.callV Y174 (tw_80 hw) (tw_81 hw) (tw_83 hw) (tw_83 hw) (tw_82 hw) (tw_3 hw) (tw_84 hw) (by decide) f7 (rmA61 l Z a0 hw [] o0 o2 o3 k_o2 k_o3 h141_2 n0 Y174.sz f7 f8 f10 g_o0 f9 g_o2 A141_2 g_o3 n_o0_o2 n_o0_o3 n_o2_o3) (a := o0) (argsL := []) (rest := []) rfl rfl (lenOf pd_7 rfl) rfl (by decide) (Nat.le_of_ble_eq_true rfl) (by decide) (by decide) dK_183 rfl (fun v183 T183 h183 Y183 q183 => ?_)
  obtain ⟨rfl, K183, f183_0, f183_1, f183_2, f183_3, f183_4⟩ := q183
  have KK183 : Keep h0 h183 [o0, o1, o2, o3, o4] := K141_2.trans K183 (allS (Or.inl (List.mem_of_getElem? (i := 0) rfl)) (allS (Or.inl (List.mem_of_getElem? (i := 2) rfl)) (allS (Or.inl (List.mem_of_getElem? (i := 3) rfl)) all0)))
  show Gl p e below _ (T183.setTop (mkF m 186 _ [(.ref o0)]))
  refine Gl.pop Y183 rfl dK_186 rfl ?_
  refine Gl.iload Y183 rfl dK_187 rfl ?_
  refine Gl.iconst Y183 (v := (1 : Int32)) (by decide) dK_189 rfl ?_
  refine Gl.icmpne Y183 dK_190 (by decide) rfl rfl (fun c190 => ?_) (fun c190 => ?_)
  · exact absurd c190 (by decide)
  refine Gl.aloadN Y183 rfl rfl dK_193 rfl ?_
  refine Gl.aloadN Y183 rfl rfl dK_194 rfl ?_
  refine Gl.iconst Y183 (v := (0 : Int32)) (by decide) dK_195 rfl ?_
  refine Gl.laload Y183 f183_4 ⟨by decide, by decide⟩ (v := (.long 6148914691236517205)) rfl dK_196 rfl ?_
  refine Gl.callP Y183 (tw_86 hw) (tw_87 hw) (tw_88 hw) (tw_2 hw) (tw_3 hw) (tw_89 hw) (by decide) f183_0 (rmA62 l Z a0 hw [] o0 o2 o3 k_o2 k_o3 h183 n0 Y183.sz f183_0 f183_1 f183_2 g_o0 f183_3 g_o2 f183_4 g_o3 n_o0_o2 n_o0_o3 n_o2_o3) (a := o0) (argsL := [(.long 6148914691236517205)]) (rest := []) rfl rfl (lenOf pd_14 rfl) rfl (by decide) (Nat.le_of_ble_eq_true rfl) (by decide) (by decide) dK_197 rfl (fun v197 T197 h197 Y197 q197 => ?_)
  obtain ⟨rfl, K197, f197_0, f197_1, f197_2, f197_3, f197_4⟩ := q197
  have KK197 : Keep h0 h197 [o0, o1, o2, o3, o4] := KK183.trans K197 (allS (Or.inl (List.mem_of_getElem? (i := 0) rfl)) (allS (Or.inl (List.mem_of_getElem? (i := 2) rfl)) (allS (Or.inl (List.mem_of_getElem? (i := 3) rfl)) all0)))
  show Gl p e below _ (T197.setTop (mkF m 200 _ [(.int 1)]))
  refine Gl.goto Y197 dK_200 (by decide) rfl ?_
  refine Gl.istore Y197 (L' := #[.val (.ref o0), .val (.ref o1), .val (.ref o3), .val (.int 0), .val (.int 1), .val (.long 1), .second, .val (.int 1), .val (.int 1), .unset]) rfl dK_210 rfl ?_
  refine Gl.iload Y197 rfl dK_212 rfl ?_
  refine Gl.ifne Y197 dK_214 (by decide) rfl rfl (fun c214 => ?_) (fun c214 => ?_)
  rotate_left
  · exact absurd c214 (by decide)
  refine Gl.iload Y197 rfl dK_222 rfl ?_
  refine Gl.ifeq Y197 dK_224 (by decide) rfl rfl (fun c224 => ?_) (fun c224 => ?_)
  · exact absurd c224 (by decide)
  refine Gl.aloadN Y197 rfl rfl dK_227 rfl ?_
  refine Gl.callV Y197 (tw_80 hw) (tw_81 hw) (tw_83 hw) (tw_83 hw) (tw_82 hw) (tw_3 hw) (tw_84 hw) (by decide) f197_0 (rmA69 l Z a0 hw [] o0 o2 o3 k_o2 k_o3 h197 n0 Y197.sz f197_0 f197_1 f197_2 g_o0 f197_3 g_o2 f197_4 g_o3 n_o0_o2 n_o0_o3 n_o2_o3) (a := o0) (argsL := []) (rest := []) rfl rfl (lenOf pd_7 rfl) rfl (by decide) (Nat.le_of_ble_eq_true rfl) (by decide) (by decide) dK_228 rfl (fun v228 T228 h228 Y228 q228 => ?_)
  obtain ⟨rfl, K228, f228_0, f228_1, f228_2, f228_3, f228_4⟩ := q228
  have KK228 : Keep h0 h228 [o0, o1, o2, o3, o4] := KK197.trans K228 (allS (Or.inl (List.mem_of_getElem? (i := 0) rfl)) (allS (Or.inl (List.mem_of_getElem? (i := 2) rfl)) (allS (Or.inl (List.mem_of_getElem? (i := 3) rfl)) all0)))
  show Gl p e below _ (T228.setTop (mkF m 231 _ [(.ref o0)]))
  refine Gl.goto Y228 dK_231 (by decide) rfl ?_
  have f11 := ((((Exa.wr W141_2 (Exa.wr W141 E_o1)).keep K183).keep K197).keep K228)
  have f12 := (((f5.keep K183 (ninS (Ne.symm n_o0_o1) (ninS n_o1_o2 (ninS n_o1_o3 nin0)))).keep K197 (ninS (Ne.symm n_o0_o1) (ninS n_o1_o2 (ninS n_o1_o3 nin0)))).keep K228 (ninS (Ne.symm n_o0_o1) (ninS n_o1_o2 (ninS n_o1_o3 nin0))))
  have f13 := ((((Fld.other W141_2 (Fld.other W141 F_o1_work (Or.inl n_o1_o3)) (Or.inl n_o1_o3)).keep K183 (ninS (Ne.symm n_o0_o1) (ninS n_o1_o2 (ninS n_o1_o3 nin0)))).keep K197 (ninS (Ne.symm n_o0_o1) (ninS n_o1_o2 (ninS n_o1_o3 nin0)))).keep K228 (ninS (Ne.symm n_o0_o1) (ninS n_o1_o2 (ninS n_o1_o3 nin0))))
  have f14 := (((f6.keep K183 (ninS (Ne.symm n_o0_o4) (ninS (Ne.symm n_o2_o4) (ninS (Ne.symm n_o3_o4) nin0)))).keep K197 (ninS (Ne.symm n_o0_o4) (ninS (Ne.symm n_o2_o4) (ninS (Ne.symm n_o3_o4) nin0)))).keep K228 (ninS (Ne.symm n_o0_o4) (ninS (Ne.symm n_o2_o4) (ninS (Ne.symm n_o3_o4) nin0))))
  exact Gl.retA Y228 (by decide) (by decide) rfl rfl dK_235 ⟨rfl, KK228, f228_0, f11, f228_1, f228_2, f12, f13, f228_3, f228_4, f14⟩
theorem dJ_24 : decode prog_137_method_10_code 24 = .ok (.iconst 0, 1) := by decide +kernel
theorem dJ_25 : decode prog_137_method_10_code 25 = .ok (.ireturn, 1) := by decide +kernel
def RA73 : Room := { frames := 0, cells := 0, slots := 0, locals := 0 }
def QA73 (Z : State) (o0 : Addr) (o1 : Addr) (o2 : Addr) (k_o1 : ClassId) (k_o2 : ClassId) (h0 : Heap) (v : Option Value) (h : Heap) : Prop := v = some (.int 0) ∧ h0 = h
theorem efA73 (o0 : Addr) (m : MethodId) : entryFrame m #[(.ref o0)] 2 = mkF m 0 #[.val (.ref o0), .unset] [] := by first | (simp [entryFrame, mkF, argsToLocals, Value.category]; done) | rfl
theorem rmA73 (l : Launch) (Z : State) (a0 : Array Value) (hw : HW a0 Z) (ws : List Jvm.Cond) (o0 : Addr) (o1 : Addr) (o2 : Addr) (k_o1 : ClassId) (k_o2 : ClassId) (h0 : Heap) (n0 : Nat) (Z0 : n0 ≤ h0.size) (E_o0 : Exa Z h0 o0 kW) (F_o0_words : Fld Z h0 o0 kW "words" "[J" (.ref o1)) (F_o0_work : Fld Z h0 o0 kW "work" "[J" (.ref o2)) (g_o0 : n0 ≤ o0) (V_o1 : Arv Z h0 o1 k_o1 .long (2 : Int32) [(.long (-9223372036854775808)), (.long (-9223372036854775808))] (.long 0)) (g_o1 : n0 ≤ o1) (V_o2 : Arv Z h0 o2 k_o2 .long (6 : Int32) [(.long 6148914691236517205), (.long 0), (.long 0), (.long 0), (.long 0), (.long 0)] (.long 0)) (g_o2 : n0 ≤ o2) (n_o0_o1 : own_ne o0 o1) (n_o0_o2 : own_ne o0 o2) (n_o1_o2 : own_ne o1 o2) : OMet l Z ws (⟨"com/example/meterwise/meterwise/model/WholeNumber", "zeroBelowTop", "()Z"⟩ : MethodName) prog_137_method_10_code 2 (some .boolean) RA73 #[(.ref o0)] h0 n0 (QA73 Z o0 o1 o2 k_o1 k_o2 h0) := by
  refine OMet.of (own := "com/example/meterwise/meterwise/model/WholeNumber") rfl (plainFor_of_name pn_0) (efA73 o0) Z0 ?_
  intro p e s m below meth c T0 Y0 hnm
  refine Gl.iconst Y0 (v := (0 : Int32)) (by decide) dJ_0 rfl ?_
  refine Gl.istoreN Y0 (L' := #[.val (.ref o0), .val (.int 0)]) rfl dJ_1 rfl ?_
  refine Gl.iloadN Y0 rfl dJ_2 rfl ?_
  refine Gl.aloadN Y0 rfl rfl dJ_3 rfl ?_
  refine Gl.getF Y0 (host := "") (Or.inl (tw_15 hw)) Via.refl F_o0_words dJ_4 rfl (fun T4 Y4 => ?_)
  refine Gl.arraylength Y4 V_o1 dJ_7 rfl ?_
  refine Gl.iconst Y4 (v := (1 : Int32)) (by decide) dJ_8 rfl ?_
  refine Gl.isub Y4 (r := (1 : Int32)) (by decide) dJ_9 rfl ?_
  refine Gl.icmpge Y4 dJ_10 (by decide) rfl rfl (fun c10 => ?_) (fun c10 => ?_)
  · exact absurd c10 (by decide)
  refine Gl.aloadN Y4 rfl rfl dJ_13 rfl ?_
  refine Gl.getF Y4 (host := "") (Or.inl (tw_15 hw)) Via.refl F_o0_words dJ_14 rfl (fun T14 Y14 => ?_)
  refine Gl.iloadN Y14 rfl dJ_17 rfl ?_
  refine Gl.laload Y14 V_o1 ⟨by decide, by decide⟩ (v := (.long (-9223372036854775808))) rfl dJ_18 rfl ?_
  refine Gl.lconst Y14 (v := (0 : Int64)) (by decide) dJ_19 rfl ?_
  refine Gl.lcmpeq Y14 dJ_20 rfl dJ_21 (by decide) rfl rfl (fun c21 => ?_) (fun c21 => ?_)
  · exact absurd c21 (by decide)
  refine Gl.iconst Y14 (v := (0 : Int32)) (by decide) dJ_24 rfl ?_
  exact Gl.retZ Y14 (by decide) (by decide) (x' := (0 : Int32)) (by decide) dJ_25 ⟨rfl, rfl⟩
def RA72 : Room := { frames := 1, cells := 0, slots := 0, locals := 13 }
def QA72 (Z : State) (o0 : Addr) (o1 : Addr) (o2 : Addr) (k_o1 : ClassId) (k_o2 : ClassId) (h0 : Heap) (v : Option Value) (h : Heap) : Prop := v = some (.int 0) ∧ h0 = h
theorem efA72 (o0 : Addr) (m : MethodId) : entryFrame m #[(.ref o0)] 1 = mkF m 0 #[.val (.ref o0)] [] := by first | (simp [entryFrame, mkF, argsToLocals, Value.category]; done) | rfl
theorem rmA72 (l : Launch) (Z : State) (a0 : Array Value) (hw : HW a0 Z) (ws : List Jvm.Cond) (o0 : Addr) (o1 : Addr) (o2 : Addr) (k_o1 : ClassId) (k_o2 : ClassId) (h0 : Heap) (n0 : Nat) (Z0 : n0 ≤ h0.size) (E_o0 : Exa Z h0 o0 kW) (F_o0_words : Fld Z h0 o0 kW "words" "[J" (.ref o1)) (F_o0_work : Fld Z h0 o0 kW "work" "[J" (.ref o2)) (g_o0 : n0 ≤ o0) (V_o1 : Arv Z h0 o1 k_o1 .long (2 : Int32) [(.long (-9223372036854775808)), (.long (-9223372036854775808))] (.long 0)) (g_o1 : n0 ≤ o1) (V_o2 : Arv Z h0 o2 k_o2 .long (6 : Int32) [(.long 6148914691236517205), (.long 0), (.long 0), (.long 0), (.long 0), (.long 0)] (.long 0)) (g_o2 : n0 ≤ o2) (n_o0_o1 : own_ne o0 o1) (n_o0_o2 : own_ne o0 o2) (n_o1_o2 : own_ne o1 o2) : OMet l Z ws (⟨"com/example/meterwise/meterwise/model/WholeNumber", "overflowed", "()Z"⟩ : MethodName) prog_137_method_8_code 1 (some .boolean) RA72 #[(.ref o0)] h0 n0 (QA72 Z o0 o1 o2 k_o1 k_o2 h0) := by
  refine OMet.of (own := "com/example/meterwise/meterwise/model/WholeNumber") rfl (plainFor_of_name pn_0) (efA72 o0) Z0 ?_
  intro p e s m below meth c T0 Y0 hnm
  refine Gl.aloadN Y0 rfl rfl dI_0 rfl ?_
  refine Gl.callP Y0 (tw_41 hw) (tw_42 hw) (tw_43 hw) (tw_2 hw) (tw_3 hw) (tw_44 hw) (by decide) E_o0 (rm10 l Z a0 hw [] o0 o1 k_o1 (-9223372036854775808 : Int64) (-9223372036854775808 : Int64) h0 n0 Y0.sz E_o0 F_o0_words V_o1) (a := o0) (argsL := []) (rest := []) rfl rfl (lenOf pd_4 rfl) rfl (by decide) (Nat.le_of_ble_eq_true rfl) (by decide) (by decide) dI_1 rfl (fun v1 T1 h1 Y1 q1 => ?_)
  obtain ⟨rfl, rfl⟩ := q1
  show Gl p e below _ (T1.setTop (mkF m 4 _ [(.long (-9223372036854775808))]))
  refine Gl.ldcJ Y1 (tw_45 hw) dI_4 rfl ?_
  refine Gl.lcmpne Y1 dI_7 rfl dI_8 (by decide) rfl rfl (fun c8 => ?_) (fun c8 => ?_)
  · exact absurd c8 (by decide)
  refine Gl.aloadN Y1 rfl rfl dI_11 rfl ?_
  refine Gl.callP Y1 (tw_46 hw) (tw_47 hw) (tw_48 hw) (tw_2 hw) (tw_3 hw) (tw_49 hw) (by decide) E_o0 (rmA73 l Z a0 hw [] o0 o1 o2 k_o1 k_o2 h0 n0 Y1.sz E_o0 F_o0_words F_o0_work g_o0 V_o1 g_o1 V_o2 g_o2 n_o0_o1 n_o0_o2 n_o1_o2) (a := o0) (argsL := []) (rest := []) rfl rfl (lenOf pd_5 rfl) rfl (by decide) (Nat.le_of_ble_eq_true rfl) (by decide) (by decide) dI_12 rfl (fun v12 T12 h12 Y12 q12 => ?_)
  obtain ⟨rfl, rfl⟩ := q12
  show Gl p e below _ (T12.setTop (mkF m 15 _ [(.int 0)]))
  refine Gl.ifeq Y12 dI_15 (by decide) rfl rfl (fun c15 => ?_) (fun c15 => ?_)
  rotate_left
  · exact absurd c15 (by decide)
  refine Gl.iconst Y12 (v := (0 : Int32)) (by decide) dI_22 rfl ?_
  exact Gl.retZ Y12 (by decide) (by decide) (x' := (0 : Int32)) (by decide) dI_23 ⟨rfl, rfl⟩
theorem dM_7 : decode prog_137_method_14_code 7 = .ok (.aload_n 1, 1) := by decide +kernel
theorem dM_8 : decode prog_137_method_14_code 8 = .ok (.invokevirtual 70, 3) := by decide +kernel
theorem dM_11 : decode prog_137_method_14_code 11 = .ok (.ifCond .eq 8, 3) := by decide +kernel
theorem dM_19 : decode prog_137_method_14_code 19 = .ok (.aload_n 1, 1) := by decide +kernel
theorem dM_20 : decode prog_137_method_14_code 20 = .ok (.getfield 26, 3) := by decide +kernel
theorem dM_23 : decode prog_137_method_14_code 23 = .ok (.astore_n 3, 1) := by decide +kernel
theorem dM_24 : decode prog_137_method_14_code 24 = .ok (.aload_n 0, 1) := by decide +kernel
theorem dM_25 : decode prog_137_method_14_code 25 = .ok (.getfield 26, 3) := by decide +kernel
theorem dM_28 : decode prog_137_method_14_code 28 = .ok (.arraylength, 1) := by decide +kernel
theorem dM_29 : decode prog_137_method_14_code 29 = .ok (.aload_n 3, 1) := by decide +kernel
theorem dM_30 : decode prog_137_method_14_code 30 = .ok (.arraylength, 1) := by decide +kernel
theorem dM_31 : decode prog_137_method_14_code 31 = .ok (.invokestatic 36, 3) := by decide +kernel
theorem tw_106 {a0 : Array Value} {Z : State} (hw : HW a0 Z) : (Jvm.Cond.methodLink "com/example/meterwise/meterwise/model/WholeNumber" (36 : Nat) ({ cls := "java/lang/Math", name := "max", desc := "(II)I" } : Jvm.MethodName)).before a0 Z = true := hw _ (List.mem_of_getElem? (i := 106) rfl)
theorem pd_15 : parseMethodDescriptor "(II)I" = some ⟨[.int, .int], some .int⟩ := by decide +kernel
theorem tw_108 {a0 : Array Value} {Z : State} (hw : HW a0 Z) : (Jvm.Cond.code ({ cls := "java/lang/Math", name := "max", desc := "(II)I" } : Jvm.MethodName) jdk_29_method_65_code (2 : Nat) (Option.some Jvm.ClassFile.FieldType.int)).before a0 Z = true := hw _ (List.mem_of_getElem? (i := 108) rfl)
theorem tw_107 {a0 : Array Value} {Z : State} (hw : HW a0 Z) : (Jvm.Cond.static ({ cls := "java/lang/Math", name := "max", desc := "(II)I" } : Jvm.MethodName)).before a0 Z = true := hw _ (List.mem_of_getElem? (i := 107) rfl)
theorem dM_34 : decode prog_137_method_14_code 34 = .ok (.istore 4, 2) := by decide +kernel
theorem dM_36 : decode prog_137_method_14_code 36 = .ok (.aload_n 0, 1) := by decide +kernel
theorem dM_37 : decode prog_137_method_14_code 37 = .ok (.invokevirtual 78, 3) := by decide +kernel
theorem dM_40 : decode prog_137_method_14_code 40 = .ok (.bipush 63, 2) := by decide +kernel
theorem dM_42 : decode prog_137_method_14_code 42 = .ok (.lshr, 1) := by decide +kernel
theorem dM_43 : decode prog_137_method_14_code 43 = .ok (.lstore 5, 2) := by decide +kernel
theorem dM_45 : decode prog_137_method_14_code 45 = .ok (.aload_n 3, 1) := by decide +kernel
theorem dM_46 : decode prog_137_method_14_code 46 = .ok (.aload_n 3, 1) := by decide +kernel
theorem dM_47 : decode prog_137_method_14_code 47 = .ok (.arraylength, 1) := by decide +kernel
theorem dM_48 : decode prog_137_method_14_code 48 = .ok (.iconst 1, 1) := by decide +kernel
theorem dM_49 : decode prog_137_method_14_code 49 = .ok (.isub, 1) := by decide +kernel
theorem dM_50 : decode prog_137_method_14_code 50 = .ok (.laload, 1) := by decide +kernel
theorem dM_51 : decode prog_137_method_14_code 51 = .ok (.bipush 63, 2) := by decide +kernel
theorem dM_53 : decode prog_137_method_14_code 53 = .ok (.lshr, 1) := by decide +kernel
theorem dM_54 : decode prog_137_method_14_code 54 = .ok (.lstore 7, 2) := by decide +kernel
theorem dM_56 : decode prog_137_method_14_code 56 = .ok (.iload_n 2, 1) := by decide +kernel
theorem dM_57 : decode prog_137_method_14_code 57 = .ok (.ifCond .eq 9, 3) := by decide +kernel
theorem dM_66 : decode prog_137_method_14_code 66 = .ok (.lconst 0, 1) := by decide +kernel
theorem dM_67 : decode prog_137_method_14_code 67 = .ok (.lstore 9, 2) := by decide +kernel
theorem dM_69 : decode prog_137_method_14_code 69 = .ok (.iload_n 2, 1) := by decide +kernel
theorem dM_70 : decode prog_137_method_14_code 70 = .ok (.ifCond .eq 7, 3) := by decide +kernel
theorem dM_77 : decode prog_137_method_14_code 77 = .ok (.lconst 0, 1) := by decide +kernel
theorem dM_78 : decode prog_137_method_14_code 78 = .ok (.lstore 11, 2) := by decide +kernel
theorem dM_80 : decode prog_137_method_14_code 80 = .ok (.lconst 0, 1) := by decide +kernel
theorem dM_81 : decode prog_137_method_14_code 81 = .ok (.lstore 13, 2) := by decide +kernel
theorem dM_83 : decode prog_137_method_14_code 83 = .ok (.lconst 0, 1) := by decide +kernel
theorem dM_84 : decode prog_137_method_14_code 84 = .ok (.lstore 15, 2) := by decide +kernel
theorem dM_86 : decode prog_137_method_14_code 86 = .ok (.lconst 0, 1) := by decide +kernel
theorem dM_87 : decode prog_137_method_14_code 87 = .ok (.lstore 17, 2) := by decide +kernel
theorem dM_89 : decode prog_137_method_14_code 89 = .ok (.iconst 1, 1) := by decide +kernel
theorem dM_90 : decode prog_137_method_14_code 90 = .ok (.istore 19, 2) := by decide +kernel
theorem dM_92 : decode prog_137_method_14_code 92 = .ok (.iconst 0, 1) := by decide +kernel
theorem dM_93 : decode prog_137_method_14_code 93 = .ok (.istore 20, 2) := by decide +kernel
theorem dM_95 : decode prog_137_method_14_code 95 = .ok (.iload 20, 2) := by decide +kernel
theorem dM_97 : decode prog_137_method_14_code 97 = .ok (.iload 4, 2) := by decide +kernel
theorem dM_99 : decode prog_137_method_14_code 99 = .ok (.if_icmp .ge 132, 3) := by decide +kernel
theorem dM_102 : decode prog_137_method_14_code 102 = .ok (.iload 20, 2) := by decide +kernel
theorem dM_104 : decode prog_137_method_14_code 104 = .ok (.aload_n 0, 1) := by decide +kernel
theorem dM_105 : decode prog_137_method_14_code 105 = .ok (.getfield 26, 3) := by decide +kernel
theorem dM_108 : decode prog_137_method_14_code 108 = .ok (.arraylength, 1) := by decide +kernel
theorem dM_109 : decode prog_137_method_14_code 109 = .ok (.if_icmp .ge 13, 3) := by decide +kernel
theorem dM_112 : decode prog_137_method_14_code 112 = .ok (.aload_n 0, 1) := by decide +kernel
theorem dM_113 : decode prog_137_method_14_code 113 = .ok (.getfield 26, 3) := by decide +kernel
theorem dM_116 : decode prog_137_method_14_code 116 = .ok (.iload 20, 2) := by decide +kernel
theorem dM_118 : decode prog_137_method_14_code 118 = .ok (.laload, 1) := by decide +kernel
theorem dM_119 : decode prog_137_method_14_code 119 = .ok (.goto 5, 3) := by decide +kernel
theorem dM_124 : decode prog_137_method_14_code 124 = .ok (.lstore 13, 2) := by decide +kernel
theorem dM_126 : decode prog_137_method_14_code 126 = .ok (.iload 20, 2) := by decide +kernel
theorem dM_128 : decode prog_137_method_14_code 128 = .ok (.aload_n 3, 1) := by decide +kernel
theorem dM_129 : decode prog_137_method_14_code 129 = .ok (.arraylength, 1) := by decide +kernel
theorem dM_130 : decode prog_137_method_14_code 130 = .ok (.if_icmp .ge 10, 3) := by decide +kernel
theorem dM_133 : decode prog_137_method_14_code 133 = .ok (.aload_n 3, 1) := by decide +kernel
theorem dM_134 : decode prog_137_method_14_code 134 = .ok (.iload 20, 2) := by decide +kernel
theorem dM_136 : decode prog_137_method_14_code 136 = .ok (.laload, 1) := by decide +kernel
theorem dM_137 : decode prog_137_method_14_code 137 = .ok (.goto 5, 3) := by decide +kernel
theorem dM_142 : decode prog_137_method_14_code 142 = .ok (.lload 9, 2) := by decide +kernel
theorem dM_144 : decode prog_137_method_14_code 144 = .ok (.lxor, 1) := by decide +kernel
theorem dM_145 : decode prog_137_method_14_code 145 = .ok (.lstore 15, 2) := by decide +kernel
theorem dM_147 : decode prog_137_method_14_code 147 = .ok (.lload 13, 2) := by decide +kernel
theorem dM_149 : decode prog_137_method_14_code 149 = .ok (.lload 15, 2) := by decide +kernel
theorem dM_151 : decode prog_137_method_14_code 151 = .ok (.ladd, 1) := by decide +kernel
theorem dM_152 : decode prog_137_method_14_code 152 = .ok (.lload 11, 2) := by decide +kernel
theorem dM_154 : decode prog_137_method_14_code 154 = .ok (.ladd, 1) := by decide +kernel
theorem dM_155 : decode prog_137_method_14_code 155 = .ok (.lstore 17, 2) := by decide +kernel
theorem dM_157 : decode prog_137_method_14_code 157 = .ok (.lload 13, 2) := by decide +kernel
theorem dM_159 : decode prog_137_method_14_code 159 = .ok (.lload 15, 2) := by decide +kernel
theorem dM_161 : decode prog_137_method_14_code 161 = .ok (.land, 1) := by decide +kernel
theorem dM_162 : decode prog_137_method_14_code 162 = .ok (.lload 13, 2) := by decide +kernel
theorem dM_164 : decode prog_137_method_14_code 164 = .ok (.lload 15, 2) := by decide +kernel
theorem dM_166 : decode prog_137_method_14_code 166 = .ok (.lor, 1) := by decide +kernel
theorem dM_167 : decode prog_137_method_14_code 167 = .ok (.lload 17, 2) := by decide +kernel
theorem dM_169 : decode prog_137_method_14_code 169 = .ok (.ldc2_w 128, 3) := by decide +kernel
theorem dM_172 : decode prog_137_method_14_code 172 = .ok (.lxor, 1) := by decide +kernel
theorem dM_173 : decode prog_137_method_14_code 173 = .ok (.land, 1) := by decide +kernel
theorem dM_174 : decode prog_137_method_14_code 174 = .ok (.lor, 1) := by decide +kernel
theorem dM_175 : decode prog_137_method_14_code 175 = .ok (.bipush 63, 2) := by decide +kernel
theorem dM_177 : decode prog_137_method_14_code 177 = .ok (.lushr, 1) := by decide +kernel
theorem dM_178 : decode prog_137_method_14_code 178 = .ok (.lstore 11, 2) := by decide +kernel
theorem dM_180 : decode prog_137_method_14_code 180 = .ok (.iload 20, 2) := by decide +kernel
theorem dM_182 : decode prog_137_method_14_code 182 = .ok (.aload_n 0, 1) := by decide +kernel
theorem dM_183 : decode prog_137_method_14_code 183 = .ok (.getfield 26, 3) := by decide +kernel
theorem dM_186 : decode prog_137_method_14_code 186 = .ok (.arraylength, 1) := by decide +kernel
theorem dM_187 : decode prog_137_method_14_code 187 = .ok (.if_icmp .ge 15, 3) := by decide +kernel
theorem dM_190 : decode prog_137_method_14_code 190 = .ok (.aload_n 0, 1) := by decide +kernel
theorem dM_191 : decode prog_137_method_14_code 191 = .ok (.getfield 26, 3) := by decide +kernel
theorem dM_194 : decode prog_137_method_14_code 194 = .ok (.iload 20, 2) := by decide +kernel
theorem dM_196 : decode prog_137_method_14_code 196 = .ok (.lload 17, 2) := by decide +kernel
theorem dM_198 : decode prog_137_method_14_code 198 = .ok (.lastore, 1) := by decide +kernel
theorem dM_199 : decode prog_137_method_14_code 199 = .ok (.goto 26, 3) := by decide +kernel
theorem dM_225 : decode prog_137_method_14_code 225 = .ok (.iinc 20 1, 3) := by decide +kernel
theorem dM_228 : decode prog_137_method_14_code 228 = .ok (.goto (-133), 3) := by decide +kernel
theorem dM_231 : decode prog_137_method_14_code 231 = .ok (.iload 19, 2) := by decide +kernel
theorem dM_233 : decode prog_137_method_14_code 233 = .ok (.ifCond .eq 23, 3) := by decide +kernel
theorem dM_236 : decode prog_137_method_14_code 236 = .ok (.lload 13, 2) := by decide +kernel
theorem dM_238 : decode prog_137_method_14_code 238 = .ok (.lload 17, 2) := by decide +kernel
theorem dM_240 : decode prog_137_method_14_code 240 = .ok (.lxor, 1) := by decide +kernel
theorem dM_241 : decode prog_137_method_14_code 241 = .ok (.lload 15, 2) := by decide +kernel
theorem dM_243 : decode prog_137_method_14_code 243 = .ok (.lload 17, 2) := by decide +kernel
theorem dM_245 : decode prog_137_method_14_code 245 = .ok (.lxor, 1) := by decide +kernel
theorem dM_246 : decode prog_137_method_14_code 246 = .ok (.land, 1) := by decide +kernel
theorem dM_247 : decode prog_137_method_14_code 247 = .ok (.lconst 0, 1) := by decide +kernel
theorem dM_248 : decode prog_137_method_14_code 248 = .ok (.lcmp, 1) := by decide +kernel
theorem dM_249 : decode prog_137_method_14_code 249 = .ok (.ifCond .lt 7, 3) := by decide +kernel
theorem dM_252 : decode prog_137_method_14_code 252 = .ok (.aload_n 0, 1) := by decide +kernel
theorem dM_253 : decode prog_137_method_14_code 253 = .ok (.goto 7, 3) := by decide +kernel
theorem dM_260 : decode prog_137_method_14_code 260 = .ok (.areturn, 1) := by decide +kernel
def RA75 : Room := { frames := 2, cells := 0, slots := 0, locals := 25 }
def QA75 (Z : State) (o0 : Addr) (o1 : Addr) (o2 : Addr) (o3 : Addr) (o4 : Addr) (k_o2 : ClassId) (k_o3 : ClassId) (k_o4 : ClassId) (p0 : Int64) (d0 : Int64) (d1 : Int64) (d2 : Int64) (d3 : Int64) (d4 : Int64) (d5 : Int64) (d6 : Int64) (d7 : Int64) (h0 : Heap) (v : Option Value) (h : Heap) : Prop := v = some (.ref o0) ∧ Keep h0 h [o0, o1, o2, o3, o4] ∧ Exa Z h o0 kW ∧ Exa Z h o1 kW ∧ Fld Z h o0 kW "words" "[J" (.ref o2) ∧ Fld Z h o0 kW "work" "[J" (.ref o3) ∧ Fld Z h o1 kW "words" "[J" (.ref o4) ∧ Fld Z h o1 kW "work" "[J" .null ∧ Arv Z h o2 k_o2 .long (2 : Int32) [(.long d2), (.long (-9223372036854775808))] (.long 0) ∧ Arv Z h o3 k_o3 .long (6 : Int32) [(.long 6148914691236517205), (.long 0), (.long 0), (.long 0), (.long 0), (.long 0)] (.long 0) ∧ Arv Z h o4 k_o4 .long (2 : Int32) [(.long p0), (.long (-1))] (.long 0)
theorem efA75 (o0 : Addr) (o1 : Addr) (m : MethodId) : entryFrame m #[(.ref o0), (.ref o1), (.int 0)] 21 = mkF m 0 #[.val (.ref o0), .val (.ref o1), .val (.int 0), .unset, .unset, .unset, .unset, .unset, .unset, .unset, .unset, .unset, .unset, .unset, .unset, .unset, .unset, .unset, .unset, .unset, .unset] [] := by first | (simp [entryFrame, mkF, argsToLocals, Value.category]; done) | rfl
theorem rmA75 (l : Launch) (Z : State) (a0 : Array Value) (hw : HW a0 Z) (ws : List Jvm.Cond) (o0 : Addr) (o1 : Addr) (o2 : Addr) (o3 : Addr) (o4 : Addr) (k_o2 : ClassId) (k_o3 : ClassId) (k_o4 : ClassId) (p0 : Int64) (d0 : Int64) (d1 : Int64) (d2 : Int64) (d3 : Int64) (d4 : Int64) (d5 : Int64) (d6 : Int64) (d7 : Int64) (h0 : Heap) (n0 : Nat) (Z0 : n0 ≤ h0.size) (E_o0 : Exa Z h0 o0 kW) (F_o0_words : Fld Z h0 o0 kW "words" "[J" (.ref o2)) (F_o0_work : Fld Z h0 o0 kW "work" "[J" (.ref o3)) (g_o0 : n0 ≤ o0) (E_o1 : Exa Z h0 o1 kW) (F_o1_words : Fld Z h0 o1 kW "words" "[J" (.ref o4)) (F_o1_work : Fld Z h0 o1 kW "work" "[J" .null) (g_o1 : n0 ≤ o1) (V_o2 : Arv Z h0 o2 k_o2 .long (2 : Int32) [(.long (-9223372036854775808)), (.long (-9223372036854775808))] (.long 0)) (g_o2 : n0 ≤ o2) (V_o3 : Arv Z h0 o3 k_o3 .long (6 : Int32) [(.long 6148914691236517205), (.long 0), (.long 0), (.long 0), (.long 0), (.long 0)] (.long 0)) (g_o3 : n0 ≤ o3) (V_o4 : Arv Z h0 o4 k_o4 .long (2 : Int32) [(.long p0), (.long (-1))] (.long 0)) (g_o4 : n0 ≤ o4) (n_o0_o1 : own_ne o0 o1) (n_o0_o2 : own_ne o0 o2) (n_o0_o3 : own_ne o0 o3) (n_o0_o4 : own_ne o0 o4) (n_o1_o2 : own_ne o1 o2) (n_o1_o3 : own_ne o1 o3) (n_o1_o4 : own_ne o1 o4) (n_o2_o3 : own_ne o2 o3) (n_o2_o4 : own_ne o2 o4) (n_o3_o4 : own_ne o3 o4) (hd0 : p0 ^^^ (0 : Int64) = d0) (hd1 : (-9223372036854775808 : Int64) + d0 = d1) (hd2 : d1 + (0 : Int64) = d2) (hd3 : (-9223372036854775808 : Int64) &&& d0 = d3) (hd4 : (-9223372036854775808 : Int64) ||| d0 = d4) (hd5 : d2 ^^^ (-1 : Int64) = d5) (hd6 : d4 &&& d5 = d6) (hd7 : d3 ||| d6 = d7) (hd8 : (d7.toUInt64 >>> ((63 : Int32) &&& 0x3f).toInt64.toUInt64).toInt64 = (1 : Int64)) : OMet l Z ws (⟨"com/example/meterwise/meterwise/model/WholeNumber", "add", "(Lcom/example/meterwise/meterwise/model/WholeNumber;Z)Lcom/example/meterwise/meterwise/model/WholeNumber;"⟩ : MethodName) prog_137_method_14_code 21 (some (.object "com/example/meterwise/meterwise/model/WholeNumber")) RA75 #[(.ref o0), (.ref o1), (.int 0)] h0 n0 (QA75 Z o0 o1 o2 o3 o4 k_o2 k_o3 k_o4 p0 d0 d1 d2 d3 d4 d5 d6 d7 h0) := by
  refine OMet.of (own := "com/example/meterwise/meterwise/model/WholeNumber") rfl (plainFor_of_name pn_0) (efA75 o0 o1) Z0 ?_
  intro p e s m below meth c T0 Y0 hnm
  refine Gl.aloadN Y0 rfl rfl dM_0 rfl ?_
  refine Gl.callV Y0 (tw_36 hw) (tw_37 hw) (tw_39 hw) (tw_39 hw) (tw_38 hw) (tw_3 hw) (tw_40 hw) (by decide) E_o0 (rmA72 l Z a0 hw [] o0 o2 o3 k_o2 k_o3 h0 n0 Y0.sz E_o0 F_o0_words F_o0_work g_o0 V_o2 g_o2 V_o3 g_o3 n_o0_o2 n_o0_o3 n_o2_o3) (a := o0) (argsL := []) (rest := []) rfl rfl (lenOf pd_5 rfl) rfl (by decide) (Nat.le_of_ble_eq_true rfl) (by decide) (by decide) dM_1 rfl (fun v1 T1 h1 Y1 q1 => ?_)
  obtain ⟨rfl, rfl⟩ := q1
  show Gl p e below _ (T1.setTop (mkF m 4 _ [(.int 0)]))
  refine Gl.ifne Y1 dM_4 (by decide) rfl rfl (fun c4 => ?_) (fun c4 => ?_)
  · exact absurd c4 (by decide)
  refine Gl.aloadN Y1 rfl rfl dM_7 rfl ?_
  refine Gl.callV Y1 (tw_36 hw) (tw_37 hw) (tw_39 hw) (tw_39 hw) (tw_38 hw) (tw_3 hw) (tw_40 hw) (by decide) E_o1 (rmA36 l Z a0 hw [] o1 o4 k_o4 p0 h0 n0 Y1.sz E_o1 F_o1_words F_o1_work g_o1 V_o4 g_o4 n_o1_o4) (a := o1) (argsL := []) (rest := []) rfl rfl (lenOf pd_5 rfl) rfl (by decide) (Nat.le_of_ble_eq_true rfl) (by decide) (by decide) dM_8 rfl (fun v8 T8 h8 Y8 q8 => ?_)
  obtain ⟨rfl, rfl⟩ := q8
  show Gl p e below _ (T8.setTop (mkF m 11 _ [(.int 0)]))
  refine Gl.ifeq Y8 dM_11 (by decide) rfl rfl (fun c11 => ?_) (fun c11 => ?_)
  rotate_left
  · exact absurd c11 (by decide)
  refine Gl.aloadN Y8 rfl rfl dM_19 rfl ?_
  refine Gl.getF Y8 (host := "") (Or.inl (tw_15 hw)) Via.refl F_o1_words dM_20 rfl (fun T20 Y20 => ?_)
  refine Gl.astoreN Y20 rfl (L' := #[.val (.ref o0), .val (.ref o1), .val (.int 0), .val (.ref o4), .unset, .unset, .unset, .unset, .unset, .unset, .unset, .unset, .unset, .unset, .unset, .unset, .unset, .unset, .unset, .unset, .unset]) rfl dM_23 rfl ?_
  refine Gl.aloadN Y20 rfl rfl dM_24 rfl ?_
  refine Gl.getF Y20 (host := "") (Or.inl (tw_15 hw)) Via.refl F_o0_words dM_25 rfl (fun T25 Y25 => ?_)
  refine Gl.arraylength Y25 V_o2 dM_28 rfl ?_
  refine Gl.aloadN Y25 rfl rfl dM_29 rfl ?_
  refine Gl.arraylength Y25 V_o4 dM_30 rfl ?_
  refine Gl.callS Y25 (tw_106 hw) (tw_107 hw) (tw_95 hw) (tw_108 hw) (by decide) (rm16 l Z a0 hw [] h0 n0 Y25.sz) (argsL := [(.int 2), (.int 2)]) (rest := []) rfl rfl (lenOf pd_15 rfl) rfl (by decide) (Nat.le_of_ble_eq_true rfl) (by decide) (by decide) dM_31 rfl (fun v31 T31 h31 Y31 q31 => ?_)
  obtain ⟨rfl, rfl⟩ := q31
  show Gl p e below _ (T31.setTop (mkF m 34 _ [(.int 2)]))
  refine Gl.istore Y31 (L' := #[.val (.ref o0), .val (.ref o1), .val (.int 0), .val (.ref o4), .val (.int 2), .unset, .unset, .unset, .unset, .unset, .unset, .unset, .unset, .unset, .unset, .unset, .unset, .unset, .unset, .unset, .unset]) rfl dM_34 rfl ?_
  refine Gl.aloadN Y31 rfl rfl dM_36 rfl ?_
  refine Gl.callP Y31 (tw_41 hw) (tw_42 hw) (tw_43 hw) (tw_2 hw) (tw_3 hw) (tw_44 hw) (by decide) E_o0 (rm10 l Z a0 hw [] o0 o2 k_o2 (-9223372036854775808 : Int64) (-9223372036854775808 : Int64) h0 n0 Y31.sz E_o0 F_o0_words V_o2) (a := o0) (argsL := []) (rest := []) rfl rfl (lenOf pd_4 rfl) rfl (by decide) (Nat.le_of_ble_eq_true rfl) (by decide) (by decide) dM_37 rfl (fun v37 T37 h37 Y37 q37 => ?_)
  obtain ⟨rfl, rfl⟩ := q37
  show Gl p e below _ (T37.setTop (mkF m 40 _ [(.long (-9223372036854775808))]))
  refine Gl.bipush Y37 (v := (63 : Int32)) (by decide) dM_40 rfl ?_
  refine Gl.lshr Y37 (r := (-1 : Int64)) (by decide) dM_42 rfl ?_
  refine Gl.lstore Y37 (L' := #[.val (.ref o0), .val (.ref o1), .val (.int 0), .val (.ref o4), .val (.int 2), .val (.long (-1)), .second, .unset, .unset, .unset, .unset, .unset, .unset, .unset, .unset, .unset, .unset, .unset, .unset, .unset, .unset]) rfl dM_43 rfl ?_
  refine Gl.aloadN Y37 rfl rfl dM_45 rfl ?_
  refine Gl.aloadN Y37 rfl rfl dM_46 rfl ?_
  refine Gl.arraylength Y37 V_o4 dM_47 rfl ?_
  refine Gl.iconst Y37 (v := (1 : Int32)) (by decide) dM_48 rfl ?_
  refine Gl.isub Y37 (r := (1 : Int32)) (by decide) dM_49 rfl ?_
  refine Gl.laload Y37 V_o4 ⟨by decide, by decide⟩ (v := (.long (-1))) rfl dM_50 rfl ?_
  refine Gl.bipush Y37 (v := (63 : Int32)) (by decide) dM_51 rfl ?_
  refine Gl.lshr Y37 (r := (-1 : Int64)) (by decide) dM_53 rfl ?_
  refine Gl.lstore Y37 (L' := #[.val (.ref o0), .val (.ref o1), .val (.int 0), .val (.ref o4), .val (.int 2), .val (.long (-1)), .second, .val (.long (-1)), .second, .unset, .unset, .unset, .unset, .unset, .unset, .unset, .unset, .unset, .unset, .unset, .unset]) rfl dM_54 rfl ?_
  refine Gl.iloadN Y37 rfl dM_56 rfl ?_
  refine Gl.ifeq Y37 dM_57 (by decide) rfl rfl (fun c57 => ?_) (fun c57 => ?_)
  rotate_left
  · exact absurd c57 (by decide)
  refine Gl.lconst Y37 (v := (0 : Int64)) (by decide) dM_66 rfl ?_
  refine Gl.lstore Y37 (L' := #[.val (.ref o0), .val (.ref o1), .val (.int 0), .val (.ref o4), .val (.int 2), .val (.long (-1)), .second, .val (.long (-1)), .second, .val (.long 0), .second, .unset, .unset, .unset, .unset, .unset, .unset, .unset, .unset, .unset, .unset]) rfl dM_67 rfl ?_
  refine Gl.iloadN Y37 rfl dM_69 rfl ?_
  refine Gl.ifeq Y37 dM_70 (by decide) rfl rfl (fun c70 => ?_) (fun c70 => ?_)
  rotate_left
  · exact absurd c70 (by decide)
  refine Gl.lconst Y37 (v := (0 : Int64)) (by decide) dM_77 rfl ?_
  refine Gl.lstore Y37 (L' := #[.val (.ref o0), .val (.ref o1), .val (.int 0), .val (.ref o4), .val (.int 2), .val (.long (-1)), .second, .val (.long (-1)), .second, .val (.long 0), .second, .val (.long 0), .second, .unset, .unset, .unset, .unset, .unset, .unset, .unset, .unset]) rfl dM_78 rfl ?_
  refine Gl.lconst Y37 (v := (0 : Int64)) (by decide) dM_80 rfl ?_
  refine Gl.lstore Y37 (L' := #[.val (.ref o0), .val (.ref o1), .val (.int 0), .val (.ref o4), .val (.int 2), .val (.long (-1)), .second, .val (.long (-1)), .second, .val (.long 0), .second, .val (.long 0), .second, .val (.long 0), .second, .unset, .unset, .unset, .unset, .unset, .unset]) rfl dM_81 rfl ?_
  refine Gl.lconst Y37 (v := (0 : Int64)) (by decide) dM_83 rfl ?_
  refine Gl.lstore Y37 (L' := #[.val (.ref o0), .val (.ref o1), .val (.int 0), .val (.ref o4), .val (.int 2), .val (.long (-1)), .second, .val (.long (-1)), .second, .val (.long 0), .second, .val (.long 0), .second, .val (.long 0), .second, .val (.long 0), .second, .unset, .unset, .unset, .unset]) rfl dM_84 rfl ?_
  refine Gl.lconst Y37 (v := (0 : Int64)) (by decide) dM_86 rfl ?_
  refine Gl.lstore Y37 (L' := #[.val (.ref o0), .val (.ref o1), .val (.int 0), .val (.ref o4), .val (.int 2), .val (.long (-1)), .second, .val (.long (-1)), .second, .val (.long 0), .second, .val (.long 0), .second, .val (.long 0), .second, .val (.long 0), .second, .val (.long 0), .second, .unset, .unset]) rfl dM_87 rfl ?_
  refine Gl.iconst Y37 (v := (1 : Int32)) (by decide) dM_89 rfl ?_
  refine Gl.istore Y37 (L' := #[.val (.ref o0), .val (.ref o1), .val (.int 0), .val (.ref o4), .val (.int 2), .val (.long (-1)), .second, .val (.long (-1)), .second, .val (.long 0), .second, .val (.long 0), .second, .val (.long 0), .second, .val (.long 0), .second, .val (.long 0), .second, .val (.int 1), .unset]) rfl dM_90 rfl ?_
  refine Gl.iconst Y37 (v := (0 : Int32)) (by decide) dM_92 rfl ?_
  refine Gl.istore Y37 (L' := #[.val (.ref o0), .val (.ref o1), .val (.int 0), .val (.ref o4), .val (.int 2), .val (.long (-1)), .second, .val (.long (-1)), .second, .val (.long 0), .second, .val (.long 0), .second, .val (.long 0), .second, .val (.long 0), .second, .val (.long 0), .second, .val (.int 1), .val (.int 0)]) rfl dM_93 rfl ?_
  refine Gl.iload Y37 rfl dM_95 rfl ?_
  refine Gl.iload Y37 rfl dM_97 rfl ?_
  refine Gl.icmpge Y37 dM_99 (by decide) rfl rfl (fun c99 => ?_) (fun c99 => ?_)
  · exact absurd c99 (by decide)
  refine Gl.iload Y37 rfl dM_102 rfl ?_
  refine Gl.aloadN Y37 rfl rfl dM_104 rfl ?_
  refine Gl.getF Y37 (host := "") (Or.inl (tw_15 hw)) Via.refl F_o0_words dM_105 rfl (fun T105 Y105 => ?_)
  refine Gl.arraylength Y105 V_o2 dM_108 rfl ?_
  refine Gl.icmpge Y105 dM_109 (by decide) rfl rfl (fun c109 => ?_) (fun c109 => ?_)
  · exact absurd c109 (by decide)
  refine Gl.aloadN Y105 rfl rfl dM_112 rfl ?_
  refine Gl.getF Y105 (host := "") (Or.inl (tw_15 hw)) Via.refl F_o0_words dM_113 rfl (fun T113 Y113 => ?_)
  refine Gl.iload Y113 rfl dM_116 rfl ?_
  refine Gl.laload Y113 V_o2 ⟨by decide, by decide⟩ (v := (.long (-9223372036854775808))) rfl dM_118 rfl ?_
  refine Gl.goto Y113 dM_119 (by decide) rfl ?_
  refine Gl.lstore Y113 (L' := #[.val (.ref o0), .val (.ref o1), .val (.int 0), .val (.ref o4), .val (.int 2), .val (.long (-1)), .second, .val (.long (-1)), .second, .val (.long 0), .second, .val (.long 0), .second, .val (.long (-9223372036854775808)), .second, .val (.long 0), .second, .val (.long 0), .second, .val (.int 1), .val (.int 0)]) rfl dM_124 rfl ?_
  refine Gl.iload Y113 rfl dM_126 rfl ?_
  refine Gl.aloadN Y113 rfl rfl dM_128 rfl ?_
  refine Gl.arraylength Y113 V_o4 dM_129 rfl ?_
  refine Gl.icmpge Y113 dM_130 (by decide) rfl rfl (fun c130 => ?_) (fun c130 => ?_)
  · exact absurd c130 (by decide)
  refine Gl.aloadN Y113 rfl rfl dM_133 rfl ?_
  refine Gl.iload Y113 rfl dM_134 rfl ?_
  refine Gl.laload Y113 V_o4 ⟨by decide, by decide⟩ (v := (.long p0)) rfl dM_136 rfl ?_
  refine Gl.goto Y113 dM_137 (by decide) rfl ?_
  refine Gl.lload Y113 rfl dM_142 rfl ?_
  refine Gl.lxor Y113 hd0 dM_144 rfl ?_
  refine Gl.lstore Y113 (L' := #[.val (.ref o0), .val (.ref o1), .val (.int 0), .val (.ref o4), .val (.int 2), .val (.long (-1)), .second, .val (.long (-1)), .second, .val (.long 0), .second, .val (.long 0), .second, .val (.long (-9223372036854775808)), .second, .val (.long d0), .second, .val (.long 0), .second, .val (.int 1), .val (.int 0)]) rfl dM_145 rfl ?_
  refine Gl.lload Y113 rfl dM_147 rfl ?_
  refine Gl.lload Y113 rfl dM_149 rfl ?_
  refine Gl.ladd Y113 hd1 dM_151 rfl ?_
  refine Gl.lload Y113 rfl dM_152 rfl ?_
  refine Gl.ladd Y113 hd2 dM_154 rfl ?_
  refine Gl.lstore Y113 (L' := #[.val (.ref o0), .val (.ref o1), .val (.int 0), .val (.ref o4), .val (.int 2), .val (.long (-1)), .second, .val (.long (-1)), .second, .val (.long 0), .second, .val (.long 0), .second, .val (.long (-9223372036854775808)), .second, .val (.long d0), .second, .val (.long d2), .second, .val (.int 1), .val (.int 0)]) rfl dM_155 rfl ?_
  refine Gl.lload Y113 rfl dM_157 rfl ?_
  refine Gl.lload Y113 rfl dM_159 rfl ?_
  refine Gl.land Y113 hd3 dM_161 rfl ?_
  refine Gl.lload Y113 rfl dM_162 rfl ?_
  refine Gl.lload Y113 rfl dM_164 rfl ?_
  refine Gl.lor Y113 hd4 dM_166 rfl ?_
  refine Gl.lload Y113 rfl dM_167 rfl ?_
  refine Gl.ldcJ Y113 (tw_85 hw) dM_169 rfl ?_
  refine Gl.lxor Y113 hd5 dM_172 rfl ?_
  refine Gl.land Y113 hd6 dM_173 rfl ?_
  refine Gl.lor Y113 hd7 dM_174 rfl ?_
  refine Gl.bipush Y113 (v := (63 : Int32)) (by decide) dM_175 rfl ?_
  refine Gl.lushr Y113 (r := (1 : Int64)) hd8 dM_177 rfl ?_
  refine Gl.lstore Y113 (L' := #[.val (.ref o0), .val (.ref o1), .val (.int 0), .val (.ref o4), .val (.int 2), .val (.long (-1)), .second, .val (.long (-1)), .second, .val (.long 0), .second, .val (.long 1), .second, .val (.long (-9223372036854775808)), .second, .val (.long d0), .second, .val (.long d2), .second, .val (.int 1), .val (.int 0)]) rfl dM_178 rfl ?_
  refine Gl.iload Y113 rfl dM_180 rfl ?_
  refine Gl.aloadN Y113 rfl rfl dM_182 rfl ?_
  refine Gl.getF Y113 (host := "") (Or.inl (tw_15 hw)) Via.refl F_o0_words dM_183 rfl (fun T183 Y183 => ?_)
  refine Gl.arraylength Y183 V_o2 dM_186 rfl ?_
  refine Gl.icmpge Y183 dM_187 (by decide) rfl rfl (fun c187 => ?_) (fun c187 => ?_)
  · exact absurd c187 (by decide)
  refine Gl.aloadN Y183 rfl rfl dM_190 rfl ?_
  refine Gl.getF Y183 (host := "") (Or.inl (tw_15 hw)) Via.refl F_o0_words dM_191 rfl (fun T191 Y191 => ?_)
  refine Gl.iload Y191 rfl dM_194 rfl ?_
  refine Gl.lload Y191 rfl dM_196 rfl ?_
  refine Gl.lastore Y191 V_o2 (v := (.long d2)) rfl ⟨by decide, by decide⟩ (ix := 0) rfl (Nat.le_of_ble_eq_true rfl) g_o2 dM_198 rfl (fun T198 h198 Y198 W198 A198 => ?_)
  have A198 : Arv Z h198 o2 k_o2 .long (2 : Int32) [(.long d2), (.long (-9223372036854775808))] (.long 0) := A198
  have K198 : Keep h0 h198 [o0, o1, o2, o3, o4] := (Keep.refl h0 [o0, o1, o2, o3, o4]).wr W198 (Or.inl (List.mem_of_getElem? (i := 2) rfl))
  show Gl p e below _ (T198.setTop (mkF m 199 _ []))
  refine Gl.goto Y198 dM_199 (by decide) rfl ?_
  refine Gl.iinc Y198 rfl (r := (1 : Int32)) (by decide) (L' := #[.val (.ref o0), .val (.ref o1), .val (.int 0), .val (.ref o4), .val (.int 2), .val (.long (-1)), .second, .val (.long (-1)), .second, .val (.long 0), .second, .val (.long 1), .second, .val (.long (-9223372036854775808)), .second, .val (.long d0), .second, .val (.long d2), .second, .val (.int 1), .val (.int 1)]) rfl dM_225 rfl ?_
  refine Gl.goto Y198 dM_228 (by decide) rfl ?_
  refine Gl.iload Y198 rfl dM_95 rfl ?_
  refine Gl.iload Y198 rfl dM_97 rfl ?_
  refine Gl.icmpge Y198 dM_99 (by decide) rfl rfl (fun c99_2 => ?_) (fun c99_2 => ?_)
  · exact absurd c99_2 (by decide)
  refine Gl.iload Y198 rfl dM_102 rfl ?_
  refine Gl.aloadN Y198 rfl rfl dM_104 rfl ?_
  have f1 := (Fld.other W198 F_o0_words (Or.inl n_o0_o2))
  refine Gl.getF Y198 (host := "") (Or.inl (tw_15 hw)) Via.refl f1 dM_105 rfl (fun T105_2 Y105_2 => ?_)
  refine Gl.arraylength Y105_2 A198 dM_108 rfl ?_
  refine Gl.icmpge Y105_2 dM_109 (by decide) rfl rfl (fun c109_2 => ?_) (fun c109_2 => ?_)
  · exact absurd c109_2 (by decide)
  refine Gl.aloadN Y105_2 rfl rfl dM_112 rfl ?_
  refine Gl.getF Y105_2 (host := "") (Or.inl (tw_15 hw)) Via.refl f1 dM_113 rfl (fun T113_2 Y113_2 => ?_)
  refine Gl.iload Y113_2 rfl dM_116 rfl ?_
  refine Gl.laload Y113_2 A198 ⟨by decide, by decide⟩ (v := (.long (-9223372036854775808))) rfl dM_118 rfl ?_
  refine Gl.goto Y113_2 dM_119 (by decide) rfl ?_
  refine Gl.lstore Y113_2 (L' := #[.val (.ref o0), .val (.ref o1), .val (.int 0), .val (.ref o4), .val (.int 2), .val (.long (-1)), .second, .val (.long (-1)), .second, .val (.long 0), .second, .val (.long 1), .second, .val (.long (-9223372036854775808)), .second, .val (.long d0), .second, .val (.long d2), .second, .val (.int 1), .val (.int 1)]) rfl dM_124 rfl ?_
  refine Gl.iload Y113_2 rfl dM_126 rfl ?_
  refine Gl.aloadN Y113_2 rfl rfl dM_128 rfl ?_
  have f2 := (V_o4.other W198 (Ne.symm n_o2_o4))
  refine Gl.arraylength Y113_2 f2 dM_129 rfl ?_
  refine Gl.icmpge Y113_2 dM_130 (by decide) rfl rfl (fun c130_2 => ?_) (fun c130_2 => ?_)
  · exact absurd c130_2 (by decide)
  refine Gl.aloadN Y113_2 rfl rfl dM_133 rfl ?_
  refine Gl.iload Y113_2 rfl dM_134 rfl ?_
  refine Gl.laload Y113_2 f2 ⟨by decide, by decide⟩ (v := (.long (-1))) rfl dM_136 rfl ?_
  refine Gl.goto Y113_2 dM_137 (by decide) rfl ?_
  refine Gl.lload Y113_2 rfl dM_142 rfl ?_
  refine Gl.lxor Y113_2 (r := (-1 : Int64)) (by decide) dM_144 rfl ?_
  refine Gl.lstore Y113_2 (L' := #[.val (.ref o0), .val (.ref o1), .val (.int 0), .val (.ref o4), .val (.int 2), .val (.long (-1)), .second, .val (.long (-1)), .second, .val (.long 0), .second, .val (.long 1), .second, .val (.long (-9223372036854775808)), .second, .val (.long (-1)), .second, .val (.long d2), .second, .val (.int 1), .val (.int 1)]) rfl dM_145 rfl ?_
  refine Gl.lload Y113_2 rfl dM_147 rfl ?_
  refine Gl.lload Y113_2 rfl dM_149 rfl ?_
  refine Gl.ladd Y113_2 (r := (9223372036854775807 : Int64)) (by decide) dM_151 rfl ?_
  refine Gl.lload Y113_2 rfl dM_152 rfl ?_
  refine Gl.ladd Y113_2 (r := (-9223372036854775808 : Int64)) (by decide) dM_154 rfl ?_
  refine Gl.lstore Y113_2 (L' := #[.val (.ref o0), .val (.ref o1), .val (.int 0), .val (.ref o4), .val (.int 2), .val (.long (-1)), .second, .val (.long (-1)), .second, .val (.long 0), .second, .val (.long 1), .second, .val (.long (-9223372036854775808)), .second, .val (.long (-1)), .second, .val (.long (-9223372036854775808)), .second, .val (.int 1), .val (.int 1)]) rfl dM_155 rfl ?_
  refine Gl.lload Y113_2 rfl dM_157 rfl ?_
  refine Gl.lload Y113_2 rfl dM_159 rfl ?_
  refine Gl.land Y113_2 (r := (-9223372036854775808 : Int64)) (by decide) dM_161 rfl ?_
  refine Gl.lload Y113_2 rfl dM_162 rfl ?_
  refine Gl.lload Y113_2 rfl dM_164 rfl ?_
  refine Gl.lor Y113_2 (r := (-1 : Int64)) (by decide) dM_166 rfl ?_
  refine Gl.lload Y113_2 rfl dM_167 rfl ?_
  refine Gl.ldcJ Y113_2 (tw_85 hw) dM_169 rfl ?_
  refine Gl.lxor Y113_2 (r := (9223372036854775807 : Int64)) (by decide) dM_172 rfl ?_
  refine Gl.land Y113_2 (r := (9223372036854775807 : Int64)) (by decide) dM_173 rfl ?_
  refine Gl.lor Y113_2 (r := (-1 : Int64)) (by decide) dM_174 rfl ?_
  refine Gl.bipush Y113_2 (v := (63 : Int32)) (by decide) dM_175 rfl ?_
  refine Gl.lushr Y113_2 (r := (1 : Int64)) (by decide) dM_177 rfl ?_
  refine Gl.lstore Y113_2 (L' := #[.val (.ref o0), .val (.ref o1), .val (.int 0), .val (.ref o4), .val (.int 2), .val (.long (-1)), .second, .val (.long (-1)), .second, .val (.long 0), .second, .val (.long 1), .second, .val (.long (-9223372036854775808)), .second, .val (.long (-1)), .second, .val (.long (-9223372036854775808)), .second, .val (.int 1), .val (.int 1)]) rfl dM_178 rfl ?_
  refine Gl.iload Y113_2 rfl dM_180 rfl ?_
  refine Gl.aloadN Y113_2 rfl rfl dM_182 rfl ?_
  refine Gl.getF Y113_2 (host := "") (Or.inl (tw_15 hw)) Via.refl f1 dM_183 rfl (fun T183_2 Y183_2 => ?_)
  refine Gl.arraylength Y183_2 A198 dM_186 rfl ?_
  refine Gl.icmpge Y183_2 dM_187 (by decide) rfl rfl (fun c187_2 => ?_) (fun c187_2 => ?_)
  · exact absurd c187_2 (by decide)
  refine Gl.aloadN Y183_2 rfl rfl dM_190 rfl ?_
  refine Gl.getF Y183_2 (host := "") (Or.inl (tw_15 hw)) Via.refl f1 dM_191 rfl (fun T191_2 Y191_2 => ?_)
  refine Gl.iload Y191_2 rfl dM_194 rfl ?_
  refine Gl.lload Y191_2 rfl dM_196 rfl ?_
  refine Gl.lastore Y191_2 A198 (v := (.long (-9223372036854775808))) rfl ⟨by decide, by decide⟩ (ix := 1) rfl (Nat.le_of_ble_eq_true rfl) g_o2 dM_198 rfl (fun T198_2 h198_2 Y198_2 W198_2 A198_2 => ?_)
  have A198_2 : Arv Z h198_2 o2 k_o2 .long (2 : Int32) [(.long d2), (.long (-9223372036854775808))] (.long 0) := A198_2
  have K198_2 : Keep h0 h198_2 [o0, o1, o2, o3, o4] := K198.wr W198_2 (Or.inl (List.mem_of_getElem? (i := 2) rfl))
  show Gl p e below _ (T198_2.setTop (mkF m 199 _ []))
  refine Gl.goto Y198_2 dM_199 (by decide) rfl ?_
  refine Gl.iinc Y198_2 rfl (r := (2 : Int32)) (by decide) (L' := #[.val (.ref o0), .val (.ref o1), .val (.int 0), .val (.ref o4), .val (.int 2), .val (.long (-1)), .second, .val (.long (-1)), .second, .val (.long 0), .second, .val (.long 1), .second, .val (.long (-9223372036854775808)), .second, .val (.long (-1)), .second, .val (.long (-9223372036854775808)), .second, .val (.int 1), .val (.int 2)]) rfl dM_225 rfl ?_
  refine Gl.goto Y198_2 dM_228 (by decide) rfl ?_
  refine Gl.iload Y198_2 rfl dM_95 rfl ?_
  refine Gl.iload Y198_2 rfl dM_97 rfl ?_
  refine Gl.icmpge Y198_2 dM_99 (by decide) rfl rfl (fun c99_3 => ?_) (fun c99_3 => ?_)
  rotate_left
  · exact absurd c99_3 (by decide)
  refine Gl.iload Y198_2 rfl dM_231 rfl ?_
  refine Gl.ifeq Y198_2 dM_233 (by decide) rfl rfl (fun c233 => ?_) (fun c233 => ?_)
  · exact absurd c233 (by decide)
  refine Gl.lload Y198_2 rfl dM_236 rfl ?_
  refine Gl.lload Y198_2 rfl dM_238 rfl ?_
  refine Gl.lxor Y198_2 (r := (0 : Int64)) (by decide) dM_240 rfl ?_
  refine Gl.lload Y198_2 rfl dM_241 rfl ?_
  refine Gl.lload Y198_2 rfl dM_243 rfl ?_
  refine Gl.lxor Y198_2 (r := (9223372036854775807 : Int64)) (by decide) dM_245 rfl ?_
  refine Gl.land Y198_2 (r := (0 : Int64)) (by decide) dM_246 rfl ?_
  refine Gl.lconst Y198_2 (v := (0 : Int64)) (by decide) dM_247 rfl ?_
  refine Gl.lcmplt Y198_2 dM_248 rfl dM_249 (by decide) rfl rfl (fun c249 => ?_) (fun c249 => ?_)
  · exact absurd c249 (by decide)
  refine Gl.aloadN Y198_2 rfl rfl dM_252 rfl ?_
  refine Gl.goto Y198_2 dM_253 (by decide) rfl ?_
  have f3 := (Exa.wr W198_2 (Exa.wr W198 E_o0))
  have f4 := (Exa.wr W198_2 (Exa.wr W198 E_o1))
  have f5 := (Fld.other W198_2 f1 (Or.inl n_o0_o2))
  have f6 := (Fld.other W198_2 (Fld.other W198 F_o0_work (Or.inl n_o0_o2)) (Or.inl n_o0_o2))
  have f7 := (Fld.other W198_2 (Fld.other W198 F_o1_words (Or.inl n_o1_o2)) (Or.inl n_o1_o2))
  have f8 := (Fld.other W198_2 (Fld.other W198 F_o1_work (Or.inl n_o1_o2)) (Or.inl n_o1_o2))
  have f9 := ((V_o3.other W198 (Ne.symm n_o2_o3)).other W198_2 (Ne.symm n_o2_o3))
  have f10 := (f2.other W198_2 (Ne.symm n_o2_o4))
  exact Gl.retA Y198_2 (by decide) (by decide) rfl rfl dM_260 ⟨rfl, K198_2, f3, f4, f5, f6, f7, f8, A198_2, f9, f10⟩
def RA74 : Room := { frames := 3, cells := 0, slots := 0, locals := 57 }
def QA74 (Z : State) (o0 : Addr) (o1 : Addr) (o2 : Addr) (o3 : Addr) (o4 : Addr) (k_o2 : ClassId) (k_o3 : ClassId) (k_o4 : ClassId) (p0 : Int64) (d0 : Int64) (d1 : Int64) (d2 : Int64) (d3 : Int64) (d4 : Int64) (d5 : Int64) (d6 : Int64) (d7 : Int64) (h0 : Heap) (v : Option Value) (h : Heap) : Prop := v = some (.ref o0) ∧ Keep h0 h [o0, o1, o2, o3, o4] ∧ Exa Z h o0 kW ∧ Exa Z h o1 kW ∧ Fld Z h o0 kW "words" "[J" (.ref o2) ∧ Fld Z h o0 kW "work" "[J" (.ref o3) ∧ Fld Z h o1 kW "words" "[J" (.ref o4) ∧ Fld Z h o1 kW "work" "[J" .null ∧ Arv Z h o2 k_o2 .long (2 : Int32) [(.long d2), (.long (-9223372036854775808))] (.long 0) ∧ Arv Z h o3 k_o3 .long (6 : Int32) [(.long 6148914691236517205), (.long 0), (.long 0), (.long 0), (.long 0), (.long 0)] (.long 0) ∧ Arv Z h o4 k_o4 .long (2 : Int32) [(.long p0), (.long (-1))] (.long 0)
theorem efA74 (o0 : Addr) (o1 : Addr) (m : MethodId) : entryFrame m #[(.ref o0), (.ref o1)] 2 = mkF m 0 #[.val (.ref o0), .val (.ref o1)] [] := by first | (simp [entryFrame, mkF, argsToLocals, Value.category]; done) | rfl
theorem rmA74 (l : Launch) (Z : State) (a0 : Array Value) (hw : HW a0 Z) (ws : List Jvm.Cond) (o0 : Addr) (o1 : Addr) (o2 : Addr) (o3 : Addr) (o4 : Addr) (k_o2 : ClassId) (k_o3 : ClassId) (k_o4 : ClassId) (p0 : Int64) (d0 : Int64) (d1 : Int64) (d2 : Int64) (d3 : Int64) (d4 : Int64) (d5 : Int64) (d6 : Int64) (d7 : Int64) (h0 : Heap) (n0 : Nat) (Z0 : n0 ≤ h0.size) (E_o0 : Exa Z h0 o0 kW) (F_o0_words : Fld Z h0 o0 kW "words" "[J" (.ref o2)) (F_o0_work : Fld Z h0 o0 kW "work" "[J" (.ref o3)) (g_o0 : n0 ≤ o0) (E_o1 : Exa Z h0 o1 kW) (F_o1_words : Fld Z h0 o1 kW "words" "[J" (.ref o4)) (F_o1_work : Fld Z h0 o1 kW "work" "[J" .null) (g_o1 : n0 ≤ o1) (V_o2 : Arv Z h0 o2 k_o2 .long (2 : Int32) [(.long (-9223372036854775808)), (.long (-9223372036854775808))] (.long 0)) (g_o2 : n0 ≤ o2) (V_o3 : Arv Z h0 o3 k_o3 .long (6 : Int32) [(.long 6148914691236517205), (.long 0), (.long 0), (.long 0), (.long 0), (.long 0)] (.long 0)) (g_o3 : n0 ≤ o3) (V_o4 : Arv Z h0 o4 k_o4 .long (2 : Int32) [(.long p0), (.long (-1))] (.long 0)) (g_o4 : n0 ≤ o4) (n_o0_o1 : own_ne o0 o1) (n_o0_o2 : own_ne o0 o2) (n_o0_o3 : own_ne o0 o3) (n_o0_o4 : own_ne o0 o4) (n_o1_o2 : own_ne o1 o2) (n_o1_o3 : own_ne o1 o3) (n_o1_o4 : own_ne o1 o4) (n_o2_o3 : own_ne o2 o3) (n_o2_o4 : own_ne o2 o4) (n_o3_o4 : own_ne o3 o4) (hd0 : p0 ^^^ (0 : Int64) = d0) (hd1 : (-9223372036854775808 : Int64) + d0 = d1) (hd2 : d1 + (0 : Int64) = d2) (hd3 : (-9223372036854775808 : Int64) &&& d0 = d3) (hd4 : (-9223372036854775808 : Int64) ||| d0 = d4) (hd5 : d2 ^^^ (-1 : Int64) = d5) (hd6 : d4 &&& d5 = d6) (hd7 : d3 ||| d6 = d7) (hd8 : (d7.toUInt64 >>> ((63 : Int32) &&& 0x3f).toInt64.toUInt64).toInt64 = (1 : Int64)) : OMet l Z ws (⟨"com/example/meterwise/meterwise/model/WholeNumber", "add", "(Lcom/example/meterwise/meterwise/model/WholeNumber;)Lcom/example/meterwise/meterwise/model/WholeNumber;"⟩ : MethodName) prog_137_method_12_code 2 (some (.object "com/example/meterwise/meterwise/model/WholeNumber")) RA74 #[(.ref o0), (.ref o1)] h0 n0 (QA74 Z o0 o1 o2 o3 o4 k_o2 k_o3 k_o4 p0 d0 d1 d2 d3 d4 d5 d6 d7 h0) := by
  refine OMet.of (own := "com/example/meterwise/meterwise/model/WholeNumber") rfl (plainFor_of_name pn_0) (efA74 o0 o1) Z0 ?_
  intro p e s m below meth c T0 Y0 hnm
  refine Gl.aloadN Y0 rfl rfl dL_0 rfl ?_
  refine Gl.aloadN Y0 rfl rfl dL_1 rfl ?_
  refine Gl.iconst Y0 (v := (0 : Int32)) (by decide) dL_2 rfl ?_
  refine Gl.callP Y0 (tw_64 hw) (tw_65 hw) (tw_66 hw) (tw_2 hw) (tw_3 hw) (tw_67 hw) (by decide) E_o0 (rmA75 l Z a0 hw [] o0 o1 o2 o3 o4 k_o2 k_o3 k_o4 p0 d0 d1 d2 d3 d4 d5 d6 d7 h0 n0 Y0.sz E_o0 F_o0_words F_o0_work g_o0 E_o1 F_o1_words F_o1_work g_o1 V_o2 g_o2 V_o3 g_o3 V_o4 g_o4 n_o0_o1 n_o0_o2 n_o0_o3 n_o0_o4 n_o1_o2 n_o1_o3 n_o1_o4 n_o2_o3 n_o2_o4 n_o3_o4 hd0 hd1 hd2 hd3 hd4 hd5 hd6 hd7 hd8) (a := o0) (argsL := [(.ref o1), (.int 0)]) (rest := []) rfl rfl (lenOf pd_9 rfl) rfl (by decide) (Nat.le_of_ble_eq_true rfl) (by decide) (by decide) dL_3 rfl (fun v3 T3 h3 Y3 q3 => ?_)
  obtain ⟨rfl, K3, f3_0, f3_1, f3_2, f3_3, f3_4, f3_5, f3_6, f3_7, f3_8⟩ := q3
  have KK3 : Keep h0 h3 [o0, o1, o2, o3, o4] := (Keep.refl h0 [o0, o1, o2, o3, o4]).trans K3 (allS (Or.inl (List.mem_of_getElem? (i := 0) rfl)) (allS (Or.inl (List.mem_of_getElem? (i := 1) rfl)) (allS (Or.inl (List.mem_of_getElem? (i := 2) rfl)) (allS (Or.inl (List.mem_of_getElem? (i := 3) rfl)) (allS (Or.inl (List.mem_of_getElem? (i := 4) rfl)) all0)))))
  show Gl p e below _ (T3.setTop (mkF m 6 _ [(.ref o0)]))
  exact Gl.retA Y3 (by decide) (by decide) rfl rfl dL_6 ⟨rfl, KK3, f3_0, f3_1, f3_2, f3_3, f3_4, f3_5, f3_6, f3_7, f3_8⟩
def RA79 : Room := { frames := 0, cells := 0, slots := 0, locals := 0 }
def QA79 (Z : State) (o0 : Addr) (o1 : Addr) (o2 : Addr) (k_o1 : ClassId) (p0 : Int64) (k_o2 : ClassId) (h0 : Heap) (v : Option Value) (h : Heap) : Prop := v = some (.int 0) ∧ h0 = h
theorem efA79 (o0 : Addr) (m : MethodId) : entryFrame m #[(.ref o0)] 2 = mkF m 0 #[.val (.ref o0), .unset] [] := by first | (simp [entryFrame, mkF, argsToLocals, Value.category]; done) | rfl
theorem rmA79 (l : Launch) (Z : State) (a0 : Array Value) (hw : HW a0 Z) (ws : List Jvm.Cond) (o0 : Addr) (o1 : Addr) (o2 : Addr) (k_o1 : ClassId) (p0 : Int64) (k_o2 : ClassId) (h0 : Heap) (n0 : Nat) (Z0 : n0 ≤ h0.size) (E_o0 : Exa Z h0 o0 kW) (F_o0_words : Fld Z h0 o0 kW "words" "[J" (.ref o1)) (F_o0_work : Fld Z h0 o0 kW "work" "[J" (.ref o2)) (g_o0 : n0 ≤ o0) (V_o1 : Arv Z h0 o1 k_o1 .long (2 : Int32) [(.long p0), (.long (-9223372036854775808))] (.long 0)) (g_o1 : n0 ≤ o1) (V_o2 : Arv Z h0 o2 k_o2 .long (6 : Int32) [(.long 6148914691236517205), (.long 0), (.long 0), (.long 0), (.long 0), (.long 0)] (.long 0)) (g_o2 : n0 ≤ o2) (n_o0_o1 : own_ne o0 o1) (n_o0_o2 : own_ne o0 o2) (n_o1_o2 : own_ne o1 o2) (hA0 : ¬ (p0 = (0 : Int64))) : OMet l Z ws (⟨"com/example/meterwise/meterwise/model/WholeNumber", "zeroBelowTop", "()Z"⟩ : MethodName) prog_137_method_10_code 2 (some .boolean) RA79 #[(.ref o0)] h0 n0 (QA79 Z o0 o1 o2 k_o1 p0 k_o2 h0) := by
  refine OMet.of (own := "com/example/meterwise/meterwise/model/WholeNumber") rfl (plainFor_of_name pn_0) (efA79 o0) Z0 ?_
  intro p e s m below meth c T0 Y0 hnm
  refine Gl.iconst Y0 (v := (0 : Int32)) (by decide) dJ_0 rfl ?_
  refine Gl.istoreN Y0 (L' := #[.val (.ref o0), .val (.int 0)]) rfl dJ_1 rfl ?_
  refine Gl.iloadN Y0 rfl dJ_2 rfl ?_
  refine Gl.aloadN Y0 rfl rfl dJ_3 rfl ?_
  refine Gl.getF Y0 (host := "") (Or.inl (tw_15 hw)) Via.refl F_o0_words dJ_4 rfl (fun T4 Y4 => ?_)
  refine Gl.arraylength Y4 V_o1 dJ_7 rfl ?_
  refine Gl.iconst Y4 (v := (1 : Int32)) (by decide) dJ_8 rfl ?_
  refine Gl.isub Y4 (r := (1 : Int32)) (by decide) dJ_9 rfl ?_
  refine Gl.icmpge Y4 dJ_10 (by decide) rfl rfl (fun c10 => ?_) (fun c10 => ?_)
  · exact absurd c10 (by decide)
  refine Gl.aloadN Y4 rfl rfl dJ_13 rfl ?_
  refine Gl.getF Y4 (host := "") (Or.inl (tw_15 hw)) Via.refl F_o0_words dJ_14 rfl (fun T14 Y14 => ?_)
  refine Gl.iloadN Y14 rfl dJ_17 rfl ?_
  refine Gl.laload Y14 V_o1 ⟨by decide, by decide⟩ (v := (.long p0)) rfl dJ_18 rfl ?_
  refine Gl.lconst Y14 (v := (0 : Int64)) (by decide) dJ_19 rfl ?_
  refine Gl.lcmpeq Y14 dJ_20 rfl dJ_21 (by decide) rfl rfl (fun c21 => ?_) (fun c21 => ?_)
  · exact absurd c21 hA0
  refine Gl.iconst Y14 (v := (0 : Int32)) (by decide) dJ_24 rfl ?_
  exact Gl.retZ Y14 (by decide) (by decide) (x' := (0 : Int32)) (by decide) dJ_25 ⟨rfl, rfl⟩
def RA78 : Room := { frames := 1, cells := 0, slots := 0, locals := 13 }
def QA78 (Z : State) (o0 : Addr) (o1 : Addr) (o2 : Addr) (k_o1 : ClassId) (p0 : Int64) (k_o2 : ClassId) (h0 : Heap) (v : Option Value) (h : Heap) : Prop := v = some (.int 0) ∧ h0 = h
theorem efA78 (o0 : Addr) (m : MethodId) : entryFrame m #[(.ref o0)] 1 = mkF m 0 #[.val (.ref o0)] [] := by first | (simp [entryFrame, mkF, argsToLocals, Value.category]; done) | rfl
theorem rmA78 (l : Launch) (Z : State) (a0 : Array Value) (hw : HW a0 Z) (ws : List Jvm.Cond) (o0 : Addr) (o1 : Addr) (o2 : Addr) (k_o1 : ClassId) (p0 : Int64) (k_o2 : ClassId) (h0 : Heap) (n0 : Nat) (Z0 : n0 ≤ h0.size) (E_o0 : Exa Z h0 o0 kW) (F_o0_words : Fld Z h0 o0 kW "words" "[J" (.ref o1)) (F_o0_work : Fld Z h0 o0 kW "work" "[J" (.ref o2)) (g_o0 : n0 ≤ o0) (V_o1 : Arv Z h0 o1 k_o1 .long (2 : Int32) [(.long p0), (.long (-9223372036854775808))] (.long 0)) (g_o1 : n0 ≤ o1) (V_o2 : Arv Z h0 o2 k_o2 .long (6 : Int32) [(.long 6148914691236517205), (.long 0), (.long 0), (.long 0), (.long 0), (.long 0)] (.long 0)) (g_o2 : n0 ≤ o2) (n_o0_o1 : own_ne o0 o1) (n_o0_o2 : own_ne o0 o2) (n_o1_o2 : own_ne o1 o2) (hA0 : ¬ (p0 = (0 : Int64))) : OMet l Z ws (⟨"com/example/meterwise/meterwise/model/WholeNumber", "overflowed", "()Z"⟩ : MethodName) prog_137_method_8_code 1 (some .boolean) RA78 #[(.ref o0)] h0 n0 (QA78 Z o0 o1 o2 k_o1 p0 k_o2 h0) := by
  refine OMet.of (own := "com/example/meterwise/meterwise/model/WholeNumber") rfl (plainFor_of_name pn_0) (efA78 o0) Z0 ?_
  intro p e s m below meth c T0 Y0 hnm
  refine Gl.aloadN Y0 rfl rfl dI_0 rfl ?_
  refine Gl.callP Y0 (tw_41 hw) (tw_42 hw) (tw_43 hw) (tw_2 hw) (tw_3 hw) (tw_44 hw) (by decide) E_o0 (rm10 l Z a0 hw [] o0 o1 k_o1 p0 (-9223372036854775808 : Int64) h0 n0 Y0.sz E_o0 F_o0_words V_o1) (a := o0) (argsL := []) (rest := []) rfl rfl (lenOf pd_4 rfl) rfl (by decide) (Nat.le_of_ble_eq_true rfl) (by decide) (by decide) dI_1 rfl (fun v1 T1 h1 Y1 q1 => ?_)
  obtain ⟨rfl, rfl⟩ := q1
  show Gl p e below _ (T1.setTop (mkF m 4 _ [(.long (-9223372036854775808))]))
  refine Gl.ldcJ Y1 (tw_45 hw) dI_4 rfl ?_
  refine Gl.lcmpne Y1 dI_7 rfl dI_8 (by decide) rfl rfl (fun c8 => ?_) (fun c8 => ?_)
  · exact absurd c8 (by decide)
  refine Gl.aloadN Y1 rfl rfl dI_11 rfl ?_
  refine Gl.callP Y1 (tw_46 hw) (tw_47 hw) (tw_48 hw) (tw_2 hw) (tw_3 hw) (tw_49 hw) (by decide) E_o0 (rmA79 l Z a0 hw [] o0 o1 o2 k_o1 p0 k_o2 h0 n0 Y1.sz E_o0 F_o0_words F_o0_work g_o0 V_o1 g_o1 V_o2 g_o2 n_o0_o1 n_o0_o2 n_o1_o2 hA0) (a := o0) (argsL := []) (rest := []) rfl rfl (lenOf pd_5 rfl) rfl (by decide) (Nat.le_of_ble_eq_true rfl) (by decide) (by decide) dI_12 rfl (fun v12 T12 h12 Y12 q12 => ?_)
  obtain ⟨rfl, rfl⟩ := q12
  show Gl p e below _ (T12.setTop (mkF m 15 _ [(.int 0)]))
  refine Gl.ifeq Y12 dI_15 (by decide) rfl rfl (fun c15 => ?_) (fun c15 => ?_)
  rotate_left
  · exact absurd c15 (by decide)
  refine Gl.iconst Y12 (v := (0 : Int32)) (by decide) dI_22 rfl ?_
  exact Gl.retZ Y12 (by decide) (by decide) (x' := (0 : Int32)) (by decide) dI_23 ⟨rfl, rfl⟩
def RA83 : Room := { frames := 0, cells := 0, slots := 0, locals := 0 }
def QA83 (Z : State) (o0 : Addr) (o1 : Addr) (o2 : Addr) (k_o1 : ClassId) (p0 : Int64) (k_o2 : ClassId) (h0 : Heap) (v : Option Value) (h : Heap) : Prop := v = some (.int 1) ∧ h0 = h
theorem efA83 (o0 : Addr) (m : MethodId) : entryFrame m #[(.ref o0)] 2 = mkF m 0 #[.val (.ref o0), .unset] [] := by first | (simp [entryFrame, mkF, argsToLocals, Value.category]; done) | rfl
theorem rmA83 (l : Launch) (Z : State) (a0 : Array Value) (hw : HW a0 Z) (ws : List Jvm.Cond) (o0 : Addr) (o1 : Addr) (o2 : Addr) (k_o1 : ClassId) (p0 : Int64) (k_o2 : ClassId) (h0 : Heap) (n0 : Nat) (Z0 : n0 ≤ h0.size) (E_o0 : Exa Z h0 o0 kW) (F_o0_words : Fld Z h0 o0 kW "words" "[J" (.ref o1)) (F_o0_work : Fld Z h0 o0 kW "work" "[J" (.ref o2)) (g_o0 : n0 ≤ o0) (V_o1 : Arv Z h0 o1 k_o1 .long (2 : Int32) [(.long p0), (.long (-9223372036854775808))] (.long 0)) (g_o1 : n0 ≤ o1) (V_o2 : Arv Z h0 o2 k_o2 .long (6 : Int32) [(.long 6148914691236517205), (.long 0), (.long 0), (.long 0), (.long 0), (.long 0)] (.long 0)) (g_o2 : n0 ≤ o2) (n_o0_o1 : own_ne o0 o1) (n_o0_o2 : own_ne o0 o2) (n_o1_o2 : own_ne o1 o2) (hA0 : p0 = (0 : Int64)) : OMet l Z ws (⟨"com/example/meterwise/meterwise/model/WholeNumber", "zeroBelowTop", "()Z"⟩ : MethodName) prog_137_method_10_code 2 (some .boolean) RA83 #[(.ref o0)] h0 n0 (QA83 Z o0 o1 o2 k_o1 p0 k_o2 h0) := by
  refine OMet.of (own := "com/example/meterwise/meterwise/model/WholeNumber") rfl (plainFor_of_name pn_0) (efA83 o0) Z0 ?_
  intro p e s m below meth c T0 Y0 hnm
  refine Gl.iconst Y0 (v := (0 : Int32)) (by decide) dJ_0 rfl ?_
  refine Gl.istoreN Y0 (L' := #[.val (.ref o0), .val (.int 0)]) rfl dJ_1 rfl ?_
  refine Gl.iloadN Y0 rfl dJ_2 rfl ?_
  refine Gl.aloadN Y0 rfl rfl dJ_3 rfl ?_
  refine Gl.getF Y0 (host := "") (Or.inl (tw_15 hw)) Via.refl F_o0_words dJ_4 rfl (fun T4 Y4 => ?_)
  refine Gl.arraylength Y4 V_o1 dJ_7 rfl ?_
  refine Gl.iconst Y4 (v := (1 : Int32)) (by decide) dJ_8 rfl ?_
  refine Gl.isub Y4 (r := (1 : Int32)) (by decide) dJ_9 rfl ?_
  refine Gl.icmpge Y4 dJ_10 (by decide) rfl rfl (fun c10 => ?_) (fun c10 => ?_)
  · exact absurd c10 (by decide)
  refine Gl.aloadN Y4 rfl rfl dJ_13 rfl ?_
  refine Gl.getF Y4 (host := "") (Or.inl (tw_15 hw)) Via.refl F_o0_words dJ_14 rfl (fun T14 Y14 => ?_)
  refine Gl.iloadN Y14 rfl dJ_17 rfl ?_
  refine Gl.laload Y14 V_o1 ⟨by decide, by decide⟩ (v := (.long p0)) rfl dJ_18 rfl ?_
  refine Gl.lconst Y14 (v := (0 : Int64)) (by decide) dJ_19 rfl ?_
  refine Gl.lcmpeq Y14 dJ_20 rfl dJ_21 (by decide) rfl rfl (fun c21 => ?_) (fun c21 => ?_)
  rotate_left
  · exact absurd hA0 c21
  refine Gl.iinc Y14 rfl (r := (1 : Int32)) (by decide) (L' := #[.val (.ref o0), .val (.int 1)]) rfl dJ_26 rfl ?_
  refine Gl.goto Y14 dJ_29 (by decide) rfl ?_
  refine Gl.iloadN Y14 rfl dJ_2 rfl ?_
  refine Gl.aloadN Y14 rfl rfl dJ_3 rfl ?_
  refine Gl.getF Y14 (host := "") (Or.inl (tw_15 hw)) Via.refl F_o0_words dJ_4 rfl (fun T4_2 Y4_2 => ?_)
  refine Gl.arraylength Y4_2 V_o1 dJ_7 rfl ?_
  refine Gl.iconst Y4_2 (v := (1 : Int32)) (by decide) dJ_8 rfl ?_
  refine Gl.isub Y4_2 (r := (1 : Int32)) (by decide) dJ_9 rfl ?_
  refine Gl.icmpge Y4_2 dJ_10 (by decide) rfl rfl (fun c10_2 => ?_) (fun c10_2 => ?_)
  rotate_left
  · exact absurd c10_2 (by decide)
  refine Gl.iconst Y4_2 (v := (1 : Int32)) (by decide) dJ_32 rfl ?_
  exact Gl.retZ Y4_2 (by decide) (by decide) (x' := (1 : Int32)) (by decide) dJ_33 ⟨rfl, rfl⟩
def RA82 : Room := { frames := 1, cells := 0, slots := 0, locals := 13 }
def QA82 (Z : State) (o0 : Addr) (o1 : Addr) (o2 : Addr) (k_o1 : ClassId) (p0 : Int64) (k_o2 : ClassId) (h0 : Heap) (v : Option Value) (h : Heap) : Prop := v = some (.int 1) ∧ h0 = h
theorem efA82 (o0 : Addr) (m : MethodId) : entryFrame m #[(.ref o0)] 1 = mkF m 0 #[.val (.ref o0)] [] := by first | (simp [entryFrame, mkF, argsToLocals, Value.category]; done) | rfl
theorem rmA82 (l : Launch) (Z : State) (a0 : Array Value) (hw : HW a0 Z) (ws : List Jvm.Cond) (o0 : Addr) (o1 : Addr) (o2 : Addr) (k_o1 : ClassId) (p0 : Int64) (k_o2 : ClassId) (h0 : Heap) (n0 : Nat) (Z0 : n0 ≤ h0.size) (E_o0 : Exa Z h0 o0 kW) (F_o0_words : Fld Z h0 o0 kW "words" "[J" (.ref o1)) (F_o0_work : Fld Z h0 o0 kW "work" "[J" (.ref o2)) (g_o0 : n0 ≤ o0) (V_o1 : Arv Z h0 o1 k_o1 .long (2 : Int32) [(.long p0), (.long (-9223372036854775808))] (.long 0)) (g_o1 : n0 ≤ o1) (V_o2 : Arv Z h0 o2 k_o2 .long (6 : Int32) [(.long 6148914691236517205), (.long 0), (.long 0), (.long 0), (.long 0), (.long 0)] (.long 0)) (g_o2 : n0 ≤ o2) (n_o0_o1 : own_ne o0 o1) (n_o0_o2 : own_ne o0 o2) (n_o1_o2 : own_ne o1 o2) (hA0 : p0 = (0 : Int64)) : OMet l Z ws (⟨"com/example/meterwise/meterwise/model/WholeNumber", "overflowed", "()Z"⟩ : MethodName) prog_137_method_8_code 1 (some .boolean) RA82 #[(.ref o0)] h0 n0 (QA82 Z o0 o1 o2 k_o1 p0 k_o2 h0) := by
  refine OMet.of (own := "com/example/meterwise/meterwise/model/WholeNumber") rfl (plainFor_of_name pn_0) (efA82 o0) Z0 ?_
  intro p e s m below meth c T0 Y0 hnm
  refine Gl.aloadN Y0 rfl rfl dI_0 rfl ?_
  refine Gl.callP Y0 (tw_41 hw) (tw_42 hw) (tw_43 hw) (tw_2 hw) (tw_3 hw) (tw_44 hw) (by decide) E_o0 (rm10 l Z a0 hw [] o0 o1 k_o1 p0 (-9223372036854775808 : Int64) h0 n0 Y0.sz E_o0 F_o0_words V_o1) (a := o0) (argsL := []) (rest := []) rfl rfl (lenOf pd_4 rfl) rfl (by decide) (Nat.le_of_ble_eq_true rfl) (by decide) (by decide) dI_1 rfl (fun v1 T1 h1 Y1 q1 => ?_)
  obtain ⟨rfl, rfl⟩ := q1
  show Gl p e below _ (T1.setTop (mkF m 4 _ [(.long (-9223372036854775808))]))
  refine Gl.ldcJ Y1 (tw_45 hw) dI_4 rfl ?_
  refine Gl.lcmpne Y1 dI_7 rfl dI_8 (by decide) rfl rfl (fun c8 => ?_) (fun c8 => ?_)
  · exact absurd c8 (by decide)
  refine Gl.aloadN Y1 rfl rfl dI_11 rfl ?_
  refine Gl.callP Y1 (tw_46 hw) (tw_47 hw) (tw_48 hw) (tw_2 hw) (tw_3 hw) (tw_49 hw) (by decide) E_o0 (rmA83 l Z a0 hw [] o0 o1 o2 k_o1 p0 k_o2 h0 n0 Y1.sz E_o0 F_o0_words F_o0_work g_o0 V_o1 g_o1 V_o2 g_o2 n_o0_o1 n_o0_o2 n_o1_o2 hA0) (a := o0) (argsL := []) (rest := []) rfl rfl (lenOf pd_5 rfl) rfl (by decide) (Nat.le_of_ble_eq_true rfl) (by decide) (by decide) dI_12 rfl (fun v12 T12 h12 Y12 q12 => ?_)
  obtain ⟨rfl, rfl⟩ := q12
  show Gl p e below _ (T12.setTop (mkF m 15 _ [(.int 1)]))
  refine Gl.ifeq Y12 dI_15 (by decide) rfl rfl (fun c15 => ?_) (fun c15 => ?_)
  · exact absurd c15 (by decide)
  refine Gl.iconst Y12 (v := (1 : Int32)) (by decide) dI_18 rfl ?_
  refine Gl.goto Y12 dI_19 (by decide) rfl ?_
  exact Gl.retZ Y12 (by decide) (by decide) (x' := (1 : Int32)) (by decide) dI_23 ⟨rfl, rfl⟩
def RA87 : Room := { frames := 2, cells := 0, slots := 0, locals := 25 }
def QA87 (Z : State) (o0 : Addr) (o1 : Addr) (o2 : Addr) (o3 : Addr) (o4 : Addr) (k_o2 : ClassId) (k_o3 : ClassId) (k_o4 : ClassId) (p0 : Int64) (d0 : Int64) (d1 : Int64) (d2 : Int64) (d3 : Int64) (d4 : Int64) (d5 : Int64) (d6 : Int64) (d7 : Int64) (h0 : Heap) (v : Option Value) (h : Heap) : Prop := v = some (.ref o0) ∧ Keep h0 h [o0, o1, o2, o3, o4] ∧ Exa Z h o0 kW ∧ Exa Z h o1 kW ∧ Fld Z h o0 kW "words" "[J" (.ref o2) ∧ Fld Z h o0 kW "work" "[J" (.ref o3) ∧ Fld Z h o1 kW "words" "[J" (.ref o4) ∧ Fld Z h o1 kW "work" "[J" .null ∧ Arv Z h o2 k_o2 .long (2 : Int32) [(.long d2), (.long (-9223372036854775808))] (.long 0) ∧ Arv Z h o3 k_o3 .long (6 : Int32) [(.long 6148914691236517205), (.long 0), (.long 0), (.long 0), (.long 0), (.long 0)] (.long 0) ∧ Arv Z h o4 k_o4 .long (2 : Int32) [(.long p0), (.long 0)] (.long 0)
theorem efA87 (o0 : Addr) (o1 : Addr) (m : MethodId) : entryFrame m #[(.ref o0), (.ref o1), (.int 0)] 21 = mkF m 0 #[.val (.ref o0), .val (.ref o1), .val (.int 0), .unset, .unset, .unset, .unset, .unset, .unset, .unset, .unset, .unset, .unset, .unset, .unset, .unset, .unset, .unset, .unset, .unset, .unset] [] := by first | (simp [entryFrame, mkF, argsToLocals, Value.category]; done) | rfl
theorem rmA87 (l : Launch) (Z : State) (a0 : Array Value) (hw : HW a0 Z) (ws : List Jvm.Cond) (o0 : Addr) (o1 : Addr) (o2 : Addr) (o3 : Addr) (o4 : Addr) (k_o2 : ClassId) (k_o3 : ClassId) (k_o4 : ClassId) (p0 : Int64) (d0 : Int64) (d1 : Int64) (d2 : Int64) (d3 : Int64) (d4 : Int64) (d5 : Int64) (d6 : Int64) (d7 : Int64) (h0 : Heap) (n0 : Nat) (Z0 : n0 ≤ h0.size) (E_o0 : Exa Z h0 o0 kW) (F_o0_words : Fld Z h0 o0 kW "words" "[J" (.ref o2)) (F_o0_work : Fld Z h0 o0 kW "work" "[J" (.ref o3)) (g_o0 : n0 ≤ o0) (E_o1 : Exa Z h0 o1 kW) (F_o1_words : Fld Z h0 o1 kW "words" "[J" (.ref o4)) (F_o1_work : Fld Z h0 o1 kW "work" "[J" .null) (g_o1 : n0 ≤ o1) (V_o2 : Arv Z h0 o2 k_o2 .long (2 : Int32) [(.long (-9223372036854775808)), (.long (-9223372036854775808))] (.long 0)) (g_o2 : n0 ≤ o2) (V_o3 : Arv Z h0 o3 k_o3 .long (6 : Int32) [(.long 6148914691236517205), (.long 0), (.long 0), (.long 0), (.long 0), (.long 0)] (.long 0)) (g_o3 : n0 ≤ o3) (V_o4 : Arv Z h0 o4 k_o4 .long (2 : Int32) [(.long p0), (.long 0)] (.long 0)) (g_o4 : n0 ≤ o4) (n_o0_o1 : own_ne o0 o1) (n_o0_o2 : own_ne o0 o2) (n_o0_o3 : own_ne o0 o3) (n_o0_o4 : own_ne o0 o4) (n_o1_o2 : own_ne o1 o2) (n_o1_o3 : own_ne o1 o3) (n_o1_o4 : own_ne o1 o4) (n_o2_o3 : own_ne o2 o3) (n_o2_o4 : own_ne o2 o4) (n_o3_o4 : own_ne o3 o4) (hd0 : p0 ^^^ (0 : Int64) = d0) (hd1 : (-9223372036854775808 : Int64) + d0 = d1) (hd2 : d1 + (0 : Int64) = d2) (hd3 : (-9223372036854775808 : Int64) &&& d0 = d3) (hd4 : (-9223372036854775808 : Int64) ||| d0 = d4) (hd5 : d2 ^^^ (-1 : Int64) = d5) (hd6 : d4 &&& d5 = d6) (hd7 : d3 ||| d6 = d7) (hd8 : (d7.toUInt64 >>> ((63 : Int32) &&& 0x3f).toInt64.toUInt64).toInt64 = (0 : Int64)) : OMet l Z ws (⟨"com/example/meterwise/meterwise/model/WholeNumber", "add", "(Lcom/example/meterwise/meterwise/model/WholeNumber;Z)Lcom/example/meterwise/meterwise/model/WholeNumber;"⟩ : MethodName) prog_137_method_14_code 21 (some (.object "com/example/meterwise/meterwise/model/WholeNumber")) RA87 #[(.ref o0), (.ref o1), (.int 0)] h0 n0 (QA87 Z o0 o1 o2 o3 o4 k_o2 k_o3 k_o4 p0 d0 d1 d2 d3 d4 d5 d6 d7 h0) := by
  refine OMet.of (own := "com/example/meterwise/meterwise/model/WholeNumber") rfl (plainFor_of_name pn_0) (efA87 o0 o1) Z0 ?_
  intro p e s m below meth c T0 Y0 hnm
  refine Gl.aloadN Y0 rfl rfl dM_0 rfl ?_
  refine Gl.callV Y0 (tw_36 hw) (tw_37 hw) (tw_39 hw) (tw_39 hw) (tw_38 hw) (tw_3 hw) (tw_40 hw) (by decide) E_o0 (rmA72 l Z a0 hw [] o0 o2 o3 k_o2 k_o3 h0 n0 Y0.sz E_o0 F_o0_words F_o0_work g_o0 V_o2 g_o2 V_o3 g_o3 n_o0_o2 n_o0_o3 n_o2_o3) (a := o0) (argsL := []) (rest := []) rfl rfl (lenOf pd_5 rfl) rfl (by decide) (Nat.le_of_ble_eq_true rfl) (by decide) (by decide) dM_1 rfl (fun v1 T1 h1 Y1 q1 => ?_)
  obtain ⟨rfl, rfl⟩ := q1
  show Gl p e below _ (T1.setTop (mkF m 4 _ [(.int 0)]))
  refine Gl.ifne Y1 dM_4 (by decide) rfl rfl (fun c4 => ?_) (fun c4 => ?_)
  · exact absurd c4 (by decide)
  refine Gl.aloadN Y1 rfl rfl dM_7 rfl ?_
  refine Gl.callV Y1 (tw_36 hw) (tw_37 hw) (tw_39 hw) (tw_39 hw) (tw_38 hw) (tw_3 hw) (tw_40 hw) (by decide) E_o1 (rmA37 l Z a0 hw [] o1 o4 k_o4 p0 h0 n0 Y1.sz E_o1 F_o1_words F_o1_work g_o1 V_o4 g_o4 n_o1_o4) (a := o1) (argsL := []) (rest := []) rfl rfl (lenOf pd_5 rfl) rfl (by decide) (Nat.le_of_ble_eq_true rfl) (by decide) (by decide) dM_8 rfl (fun v8 T8 h8 Y8 q8 => ?_)
  obtain ⟨rfl, rfl⟩ := q8
  show Gl p e below _ (T8.setTop (mkF m 11 _ [(.int 0)]))
  refine Gl.ifeq Y8 dM_11 (by decide) rfl rfl (fun c11 => ?_) (fun c11 => ?_)
  rotate_left
  · exact absurd c11 (by decide)
  refine Gl.aloadN Y8 rfl rfl dM_19 rfl ?_
  refine Gl.getF Y8 (host := "") (Or.inl (tw_15 hw)) Via.refl F_o1_words dM_20 rfl (fun T20 Y20 => ?_)
  refine Gl.astoreN Y20 rfl (L' := #[.val (.ref o0), .val (.ref o1), .val (.int 0), .val (.ref o4), .unset, .unset, .unset, .unset, .unset, .unset, .unset, .unset, .unset, .unset, .unset, .unset, .unset, .unset, .unset, .unset, .unset]) rfl dM_23 rfl ?_
  refine Gl.aloadN Y20 rfl rfl dM_24 rfl ?_
  refine Gl.getF Y20 (host := "") (Or.inl (tw_15 hw)) Via.refl F_o0_words dM_25 rfl (fun T25 Y25 => ?_)
  refine Gl.arraylength Y25 V_o2 dM_28 rfl ?_
  refine Gl.aloadN Y25 rfl rfl dM_29 rfl ?_
  refine Gl.arraylength Y25 V_o4 dM_30 rfl ?_
  refine Gl.callS Y25 (tw_106 hw) (tw_107 hw) (tw_95 hw) (tw_108 hw) (by decide) (rm16 l Z a0 hw [] h0 n0 Y25.sz) (argsL := [(.int 2), (.int 2)]) (rest := []) rfl rfl (lenOf pd_15 rfl) rfl (by decide) (Nat.le_of_ble_eq_true rfl) (by decide) (by decide) dM_31 rfl (fun v31 T31 h31 Y31 q31 => ?_)
  obtain ⟨rfl, rfl⟩ := q31
  show Gl p e below _ (T31.setTop (mkF m 34 _ [(.int 2)]))
  refine Gl.istore Y31 (L' := #[.val (.ref o0), .val (.ref o1), .val (.int 0), .val (.ref o4), .val (.int 2), .unset, .unset, .unset, .unset, .unset, .unset, .unset, .unset, .unset, .unset, .unset, .unset, .unset, .unset, .unset, .unset]) rfl dM_34 rfl ?_
  refine Gl.aloadN Y31 rfl rfl dM_36 rfl ?_
  refine Gl.callP Y31 (tw_41 hw) (tw_42 hw) (tw_43 hw) (tw_2 hw) (tw_3 hw) (tw_44 hw) (by decide) E_o0 (rm10 l Z a0 hw [] o0 o2 k_o2 (-9223372036854775808 : Int64) (-9223372036854775808 : Int64) h0 n0 Y31.sz E_o0 F_o0_words V_o2) (a := o0) (argsL := []) (rest := []) rfl rfl (lenOf pd_4 rfl) rfl (by decide) (Nat.le_of_ble_eq_true rfl) (by decide) (by decide) dM_37 rfl (fun v37 T37 h37 Y37 q37 => ?_)
  obtain ⟨rfl, rfl⟩ := q37
  show Gl p e below _ (T37.setTop (mkF m 40 _ [(.long (-9223372036854775808))]))
  refine Gl.bipush Y37 (v := (63 : Int32)) (by decide) dM_40 rfl ?_
  refine Gl.lshr Y37 (r := (-1 : Int64)) (by decide) dM_42 rfl ?_
  refine Gl.lstore Y37 (L' := #[.val (.ref o0), .val (.ref o1), .val (.int 0), .val (.ref o4), .val (.int 2), .val (.long (-1)), .second, .unset, .unset, .unset, .unset, .unset, .unset, .unset, .unset, .unset, .unset, .unset, .unset, .unset, .unset]) rfl dM_43 rfl ?_
  refine Gl.aloadN Y37 rfl rfl dM_45 rfl ?_
  refine Gl.aloadN Y37 rfl rfl dM_46 rfl ?_
  refine Gl.arraylength Y37 V_o4 dM_47 rfl ?_
  refine Gl.iconst Y37 (v := (1 : Int32)) (by decide) dM_48 rfl ?_
  refine Gl.isub Y37 (r := (1 : Int32)) (by decide) dM_49 rfl ?_
  refine Gl.laload Y37 V_o4 ⟨by decide, by decide⟩ (v := (.long 0)) rfl dM_50 rfl ?_
  refine Gl.bipush Y37 (v := (63 : Int32)) (by decide) dM_51 rfl ?_
  refine Gl.lshr Y37 (r := (0 : Int64)) (by decide) dM_53 rfl ?_
  refine Gl.lstore Y37 (L' := #[.val (.ref o0), .val (.ref o1), .val (.int 0), .val (.ref o4), .val (.int 2), .val (.long (-1)), .second, .val (.long 0), .second, .unset, .unset, .unset, .unset, .unset, .unset, .unset, .unset, .unset, .unset, .unset, .unset]) rfl dM_54 rfl ?_
  refine Gl.iloadN Y37 rfl dM_56 rfl ?_
  refine Gl.ifeq Y37 dM_57 (by decide) rfl rfl (fun c57 => ?_) (fun c57 => ?_)
  rotate_left
  · exact absurd c57 (by decide)
  refine Gl.lconst Y37 (v := (0 : Int64)) (by decide) dM_66 rfl ?_
  refine Gl.lstore Y37 (L' := #[.val (.ref o0), .val (.ref o1), .val (.int 0), .val (.ref o4), .val (.int 2), .val (.long (-1)), .second, .val (.long 0), .second, .val (.long 0), .second, .unset, .unset, .unset, .unset, .unset, .unset, .unset, .unset, .unset, .unset]) rfl dM_67 rfl ?_
  refine Gl.iloadN Y37 rfl dM_69 rfl ?_
  refine Gl.ifeq Y37 dM_70 (by decide) rfl rfl (fun c70 => ?_) (fun c70 => ?_)
  rotate_left
  · exact absurd c70 (by decide)
  refine Gl.lconst Y37 (v := (0 : Int64)) (by decide) dM_77 rfl ?_
  refine Gl.lstore Y37 (L' := #[.val (.ref o0), .val (.ref o1), .val (.int 0), .val (.ref o4), .val (.int 2), .val (.long (-1)), .second, .val (.long 0), .second, .val (.long 0), .second, .val (.long 0), .second, .unset, .unset, .unset, .unset, .unset, .unset, .unset, .unset]) rfl dM_78 rfl ?_
  refine Gl.lconst Y37 (v := (0 : Int64)) (by decide) dM_80 rfl ?_
  refine Gl.lstore Y37 (L' := #[.val (.ref o0), .val (.ref o1), .val (.int 0), .val (.ref o4), .val (.int 2), .val (.long (-1)), .second, .val (.long 0), .second, .val (.long 0), .second, .val (.long 0), .second, .val (.long 0), .second, .unset, .unset, .unset, .unset, .unset, .unset]) rfl dM_81 rfl ?_
  refine Gl.lconst Y37 (v := (0 : Int64)) (by decide) dM_83 rfl ?_
  refine Gl.lstore Y37 (L' := #[.val (.ref o0), .val (.ref o1), .val (.int 0), .val (.ref o4), .val (.int 2), .val (.long (-1)), .second, .val (.long 0), .second, .val (.long 0), .second, .val (.long 0), .second, .val (.long 0), .second, .val (.long 0), .second, .unset, .unset, .unset, .unset]) rfl dM_84 rfl ?_
  refine Gl.lconst Y37 (v := (0 : Int64)) (by decide) dM_86 rfl ?_
  refine Gl.lstore Y37 (L' := #[.val (.ref o0), .val (.ref o1), .val (.int 0), .val (.ref o4), .val (.int 2), .val (.long (-1)), .second, .val (.long 0), .second, .val (.long 0), .second, .val (.long 0), .second, .val (.long 0), .second, .val (.long 0), .second, .val (.long 0), .second, .unset, .unset]) rfl dM_87 rfl ?_
  refine Gl.iconst Y37 (v := (1 : Int32)) (by decide) dM_89 rfl ?_
  refine Gl.istore Y37 (L' := #[.val (.ref o0), .val (.ref o1), .val (.int 0), .val (.ref o4), .val (.int 2), .val (.long (-1)), .second, .val (.long 0), .second, .val (.long 0), .second, .val (.long 0), .second, .val (.long 0), .second, .val (.long 0), .second, .val (.long 0), .second, .val (.int 1), .unset]) rfl dM_90 rfl ?_
  refine Gl.iconst Y37 (v := (0 : Int32)) (by decide) dM_92 rfl ?_
  refine Gl.istore Y37 (L' := #[.val (.ref o0), .val (.ref o1), .val (.int 0), .val (.ref o4), .val (.int 2), .val (.long (-1)), .second, .val (.long 0), .second, .val (.long 0), .second, .val (.long 0), .second, .val (.long 0), .second, .val (.long 0), .second, .val (.long 0), .second, .val (.int 1), .val (.int 0)]) rfl dM_93 rfl ?_
  refine Gl.iload Y37 rfl dM_95 rfl ?_
  refine Gl.iload Y37 rfl dM_97 rfl ?_
  refine Gl.icmpge Y37 dM_99 (by decide) rfl rfl (fun c99 => ?_) (fun c99 => ?_)
  · exact absurd c99 (by decide)
  refine Gl.iload Y37 rfl dM_102 rfl ?_
  refine Gl.aloadN Y37 rfl rfl dM_104 rfl ?_
  refine Gl.getF Y37 (host := "") (Or.inl (tw_15 hw)) Via.refl F_o0_words dM_105 rfl (fun T105 Y105 => ?_)
  refine Gl.arraylength Y105 V_o2 dM_108 rfl ?_
  refine Gl.icmpge Y105 dM_109 (by decide) rfl rfl (fun c109 => ?_) (fun c109 => ?_)
  · exact absurd c109 (by decide)
  refine Gl.aloadN Y105 rfl rfl dM_112 rfl ?_
  refine Gl.getF Y105 (host := "") (Or.inl (tw_15 hw)) Via.refl F_o0_words dM_113 rfl (fun T113 Y113 => ?_)
  refine Gl.iload Y113 rfl dM_116 rfl ?_
  refine Gl.laload Y113 V_o2 ⟨by decide, by decide⟩ (v := (.long (-9223372036854775808))) rfl dM_118 rfl ?_
  refine Gl.goto Y113 dM_119 (by decide) rfl ?_
  refine Gl.lstore Y113 (L' := #[.val (.ref o0), .val (.ref o1), .val (.int 0), .val (.ref o4), .val (.int 2), .val (.long (-1)), .second, .val (.long 0), .second, .val (.long 0), .second, .val (.long 0), .second, .val (.long (-9223372036854775808)), .second, .val (.long 0), .second, .val (.long 0), .second, .val (.int 1), .val (.int 0)]) rfl dM_124 rfl ?_
  refine Gl.iload Y113 rfl dM_126 rfl ?_
  refine Gl.aloadN Y113 rfl rfl dM_128 rfl ?_
  refine Gl.arraylength Y113 V_o4 dM_129 rfl ?_
  refine Gl.icmpge Y113 dM_130 (by decide) rfl rfl (fun c130 => ?_) (fun c130 => ?_)
  · exact absurd c130 (by decide)
  refine Gl.aloadN Y113 rfl rfl dM_133 rfl ?_
  refine Gl.iload Y113 rfl dM_134 rfl ?_
  refine Gl.laload Y113 V_o4 ⟨by decide, by decide⟩ (v := (.long p0)) rfl dM_136 rfl ?_
  refine Gl.goto Y113 dM_137 (by decide) rfl ?_
  refine Gl.lload Y113 rfl dM_142 rfl ?_
  refine Gl.lxor Y113 hd0 dM_144 rfl ?_
  refine Gl.lstore Y113 (L' := #[.val (.ref o0), .val (.ref o1), .val (.int 0), .val (.ref o4), .val (.int 2), .val (.long (-1)), .second, .val (.long 0), .second, .val (.long 0), .second, .val (.long 0), .second, .val (.long (-9223372036854775808)), .second, .val (.long d0), .second, .val (.long 0), .second, .val (.int 1), .val (.int 0)]) rfl dM_145 rfl ?_
  refine Gl.lload Y113 rfl dM_147 rfl ?_
  refine Gl.lload Y113 rfl dM_149 rfl ?_
  refine Gl.ladd Y113 hd1 dM_151 rfl ?_
  refine Gl.lload Y113 rfl dM_152 rfl ?_
  refine Gl.ladd Y113 hd2 dM_154 rfl ?_
  refine Gl.lstore Y113 (L' := #[.val (.ref o0), .val (.ref o1), .val (.int 0), .val (.ref o4), .val (.int 2), .val (.long (-1)), .second, .val (.long 0), .second, .val (.long 0), .second, .val (.long 0), .second, .val (.long (-9223372036854775808)), .second, .val (.long d0), .second, .val (.long d2), .second, .val (.int 1), .val (.int 0)]) rfl dM_155 rfl ?_
  refine Gl.lload Y113 rfl dM_157 rfl ?_
  refine Gl.lload Y113 rfl dM_159 rfl ?_
  refine Gl.land Y113 hd3 dM_161 rfl ?_
  refine Gl.lload Y113 rfl dM_162 rfl ?_
  refine Gl.lload Y113 rfl dM_164 rfl ?_
  refine Gl.lor Y113 hd4 dM_166 rfl ?_
  refine Gl.lload Y113 rfl dM_167 rfl ?_
  refine Gl.ldcJ Y113 (tw_85 hw) dM_169 rfl ?_
  refine Gl.lxor Y113 hd5 dM_172 rfl ?_
  refine Gl.land Y113 hd6 dM_173 rfl ?_
  refine Gl.lor Y113 hd7 dM_174 rfl ?_
  refine Gl.bipush Y113 (v := (63 : Int32)) (by decide) dM_175 rfl ?_
  refine Gl.lushr Y113 (r := (0 : Int64)) hd8 dM_177 rfl ?_
  refine Gl.lstore Y113 (L' := #[.val (.ref o0), .val (.ref o1), .val (.int 0), .val (.ref o4), .val (.int 2), .val (.long (-1)), .second, .val (.long 0), .second, .val (.long 0), .second, .val (.long 0), .second, .val (.long (-9223372036854775808)), .second, .val (.long d0), .second, .val (.long d2), .second, .val (.int 1), .val (.int 0)]) rfl dM_178 rfl ?_
  refine Gl.iload Y113 rfl dM_180 rfl ?_
  refine Gl.aloadN Y113 rfl rfl dM_182 rfl ?_
  refine Gl.getF Y113 (host := "") (Or.inl (tw_15 hw)) Via.refl F_o0_words dM_183 rfl (fun T183 Y183 => ?_)
  refine Gl.arraylength Y183 V_o2 dM_186 rfl ?_
  refine Gl.icmpge Y183 dM_187 (by decide) rfl rfl (fun c187 => ?_) (fun c187 => ?_)
  · exact absurd c187 (by decide)
  refine Gl.aloadN Y183 rfl rfl dM_190 rfl ?_
  refine Gl.getF Y183 (host := "") (Or.inl (tw_15 hw)) Via.refl F_o0_words dM_191 rfl (fun T191 Y191 => ?_)
  refine Gl.iload Y191 rfl dM_194 rfl ?_
  refine Gl.lload Y191 rfl dM_196 rfl ?_
  refine Gl.lastore Y191 V_o2 (v := (.long d2)) rfl ⟨by decide, by decide⟩ (ix := 0) rfl (Nat.le_of_ble_eq_true rfl) g_o2 dM_198 rfl (fun T198 h198 Y198 W198 A198 => ?_)
  have A198 : Arv Z h198 o2 k_o2 .long (2 : Int32) [(.long d2), (.long (-9223372036854775808))] (.long 0) := A198
  have K198 : Keep h0 h198 [o0, o1, o2, o3, o4] := (Keep.refl h0 [o0, o1, o2, o3, o4]).wr W198 (Or.inl (List.mem_of_getElem? (i := 2) rfl))
  show Gl p e below _ (T198.setTop (mkF m 199 _ []))
  refine Gl.goto Y198 dM_199 (by decide) rfl ?_
  refine Gl.iinc Y198 rfl (r := (1 : Int32)) (by decide) (L' := #[.val (.ref o0), .val (.ref o1), .val (.int 0), .val (.ref o4), .val (.int 2), .val (.long (-1)), .second, .val (.long 0), .second, .val (.long 0), .second, .val (.long 0), .second, .val (.long (-9223372036854775808)), .second, .val (.long d0), .second, .val (.long d2), .second, .val (.int 1), .val (.int 1)]) rfl dM_225 rfl ?_
  refine Gl.goto Y198 dM_228 (by decide) rfl ?_
  refine Gl.iload Y198 rfl dM_95 rfl ?_
  refine Gl.iload Y198 rfl dM_97 rfl ?_
  refine Gl.icmpge Y198 dM_99 (by decide) rfl rfl (fun c99_2 => ?_) (fun c99_2 => ?_)
  · exact absurd c99_2 (by decide)
  refine Gl.iload Y198 rfl dM_102 rfl ?_
  refine Gl.aloadN Y198 rfl rfl dM_104 rfl ?_
  have f1 := (Fld.other W198 F_o0_words (Or.inl n_o0_o2))
  refine Gl.getF Y198 (host := "") (Or.inl (tw_15 hw)) Via.refl f1 dM_105 rfl (fun T105_2 Y105_2 => ?_)
  refine Gl.arraylength Y105_2 A198 dM_108 rfl ?_
  refine Gl.icmpge Y105_2 dM_109 (by decide) rfl rfl (fun c109_2 => ?_) (fun c109_2 => ?_)
  · exact absurd c109_2 (by decide)
  refine Gl.aloadN Y105_2 rfl rfl dM_112 rfl ?_
  refine Gl.getF Y105_2 (host := "") (Or.inl (tw_15 hw)) Via.refl f1 dM_113 rfl (fun T113_2 Y113_2 => ?_)
  refine Gl.iload Y113_2 rfl dM_116 rfl ?_
  refine Gl.laload Y113_2 A198 ⟨by decide, by decide⟩ (v := (.long (-9223372036854775808))) rfl dM_118 rfl ?_
  refine Gl.goto Y113_2 dM_119 (by decide) rfl ?_
  refine Gl.lstore Y113_2 (L' := #[.val (.ref o0), .val (.ref o1), .val (.int 0), .val (.ref o4), .val (.int 2), .val (.long (-1)), .second, .val (.long 0), .second, .val (.long 0), .second, .val (.long 0), .second, .val (.long (-9223372036854775808)), .second, .val (.long d0), .second, .val (.long d2), .second, .val (.int 1), .val (.int 1)]) rfl dM_124 rfl ?_
  refine Gl.iload Y113_2 rfl dM_126 rfl ?_
  refine Gl.aloadN Y113_2 rfl rfl dM_128 rfl ?_
  have f2 := (V_o4.other W198 (Ne.symm n_o2_o4))
  refine Gl.arraylength Y113_2 f2 dM_129 rfl ?_
  refine Gl.icmpge Y113_2 dM_130 (by decide) rfl rfl (fun c130_2 => ?_) (fun c130_2 => ?_)
  · exact absurd c130_2 (by decide)
  refine Gl.aloadN Y113_2 rfl rfl dM_133 rfl ?_
  refine Gl.iload Y113_2 rfl dM_134 rfl ?_
  refine Gl.laload Y113_2 f2 ⟨by decide, by decide⟩ (v := (.long 0)) rfl dM_136 rfl ?_
  refine Gl.goto Y113_2 dM_137 (by decide) rfl ?_
  refine Gl.lload Y113_2 rfl dM_142 rfl ?_
  refine Gl.lxor Y113_2 (r := (0 : Int64)) (by decide) dM_144 rfl ?_
  refine Gl.lstore Y113_2 (L' := #[.val (.ref o0), .val (.ref o1), .val (.int 0), .val (.ref o4), .val (.int 2), .val (.long (-1)), .second, .val (.long 0), .second, .val (.long 0), .second, .val (.long 0), .second, .val (.long (-9223372036854775808)), .second, .val (.long 0), .second, .val (.long d2), .second, .val (.int 1), .val (.int 1)]) rfl dM_145 rfl ?_
  refine Gl.lload Y113_2 rfl dM_147 rfl ?_
  refine Gl.lload Y113_2 rfl dM_149 rfl ?_
  refine Gl.ladd Y113_2 (r := (-9223372036854775808 : Int64)) (by decide) dM_151 rfl ?_
  refine Gl.lload Y113_2 rfl dM_152 rfl ?_
  refine Gl.ladd Y113_2 (r := (-9223372036854775808 : Int64)) (by decide) dM_154 rfl ?_
  refine Gl.lstore Y113_2 (L' := #[.val (.ref o0), .val (.ref o1), .val (.int 0), .val (.ref o4), .val (.int 2), .val (.long (-1)), .second, .val (.long 0), .second, .val (.long 0), .second, .val (.long 0), .second, .val (.long (-9223372036854775808)), .second, .val (.long 0), .second, .val (.long (-9223372036854775808)), .second, .val (.int 1), .val (.int 1)]) rfl dM_155 rfl ?_
  refine Gl.lload Y113_2 rfl dM_157 rfl ?_
  refine Gl.lload Y113_2 rfl dM_159 rfl ?_
  refine Gl.land Y113_2 (r := (0 : Int64)) (by decide) dM_161 rfl ?_
  refine Gl.lload Y113_2 rfl dM_162 rfl ?_
  refine Gl.lload Y113_2 rfl dM_164 rfl ?_
  refine Gl.lor Y113_2 (r := (-9223372036854775808 : Int64)) (by decide) dM_166 rfl ?_
  refine Gl.lload Y113_2 rfl dM_167 rfl ?_
  refine Gl.ldcJ Y113_2 (tw_85 hw) dM_169 rfl ?_
  refine Gl.lxor Y113_2 (r := (9223372036854775807 : Int64)) (by decide) dM_172 rfl ?_
  refine Gl.land Y113_2 (r := (0 : Int64)) (by decide) dM_173 rfl ?_
  refine Gl.lor Y113_2 (r := (0 : Int64)) (by decide) dM_174 rfl ?_
  refine Gl.bipush Y113_2 (v := (63 : Int32)) (by decide) dM_175 rfl ?_
  refine Gl.lushr Y113_2 (r := (0 : Int64)) (by decide) dM_177 rfl ?_
  refine Gl.lstore Y113_2 (L' := #[.val (.ref o0), .val (.ref o1), .val (.int 0), .val (.ref o4), .val (.int 2), .val (.long (-1)), .second, .val (.long 0), .second, .val (.long 0), .second, .val (.long 0), .second, .val (.long (-9223372036854775808)), .second, .val (.long 0), .second, .val (.long (-9223372036854775808)), .second, .val (.int 1), .val (.int 1)]) rfl dM_178 rfl ?_
  refine Gl.iload Y113_2 rfl dM_180 rfl ?_
  refine Gl.aloadN Y113_2 rfl rfl dM_182 rfl ?_
  refine Gl.getF Y113_2 (host := "") (Or.inl (tw_15 hw)) Via.refl f1 dM_183 rfl (fun T183_2 Y183_2 => ?_)
  refine Gl.arraylength Y183_2 A198 dM_186 rfl ?_
  refine Gl.icmpge Y183_2 dM_187 (by decide) rfl rfl (fun c187_2 => ?_) (fun c187_2 => ?_)
  · exact absurd c187_2 (by decide)
  refine Gl.aloadN Y183_2 rfl rfl dM_190 rfl ?_
  refine Gl.getF Y183_2 (host := "") (Or.inl (tw_15 hw)) Via.refl f1 dM_191 rfl (fun T191_2 Y191_2 => ?_)
  refine Gl.iload Y191_2 rfl dM_194 rfl ?_
  refine Gl.lload Y191_2 rfl dM_196 rfl ?_
  refine Gl.lastore Y191_2 A198 (v := (.long (-9223372036854775808))) rfl ⟨by decide, by decide⟩ (ix := 1) rfl (Nat.le_of_ble_eq_true rfl) g_o2 dM_198 rfl (fun T198_2 h198_2 Y198_2 W198_2 A198_2 => ?_)
  have A198_2 : Arv Z h198_2 o2 k_o2 .long (2 : Int32) [(.long d2), (.long (-9223372036854775808))] (.long 0) := A198_2
  have K198_2 : Keep h0 h198_2 [o0, o1, o2, o3, o4] := K198.wr W198_2 (Or.inl (List.mem_of_getElem? (i := 2) rfl))
  show Gl p e below _ (T198_2.setTop (mkF m 199 _ []))
  refine Gl.goto Y198_2 dM_199 (by decide) rfl ?_
  refine Gl.iinc Y198_2 rfl (r := (2 : Int32)) (by decide) (L' := #[.val (.ref o0), .val (.ref o1), .val (.int 0), .val (.ref o4), .val (.int 2), .val (.long (-1)), .second, .val (.long 0), .second, .val (.long 0), .second, .val (.long 0), .second, .val (.long (-9223372036854775808)), .second, .val (.long 0), .second, .val (.long (-9223372036854775808)), .second, .val (.int 1), .val (.int 2)]) rfl dM_225 rfl ?_
  refine Gl.goto Y198_2 dM_228 (by decide) rfl ?_
  refine Gl.iload Y198_2 rfl dM_95 rfl ?_
  refine Gl.iload Y198_2 rfl dM_97 rfl ?_
  refine Gl.icmpge Y198_2 dM_99 (by decide) rfl rfl (fun c99_3 => ?_) (fun c99_3 => ?_)
  rotate_left
  · exact absurd c99_3 (by decide)
  refine Gl.iload Y198_2 rfl dM_231 rfl ?_
  refine Gl.ifeq Y198_2 dM_233 (by decide) rfl rfl (fun c233 => ?_) (fun c233 => ?_)
  · exact absurd c233 (by decide)
  refine Gl.lload Y198_2 rfl dM_236 rfl ?_
  refine Gl.lload Y198_2 rfl dM_238 rfl ?_
  refine Gl.lxor Y198_2 (r := (0 : Int64)) (by decide) dM_240 rfl ?_
  refine Gl.lload Y198_2 rfl dM_241 rfl ?_
  refine Gl.lload Y198_2 rfl dM_243 rfl ?_
  refine Gl.lxor Y198_2 (r := (-9223372036854775808 : Int64)) (by decide) dM_245 rfl ?_
  refine Gl.land Y198_2 (r := (0 : Int64)) (by decide) dM_246 rfl ?_
  refine Gl.lconst Y198_2 (v := (0 : Int64)) (by decide) dM_247 rfl ?_
  refine Gl.lcmplt Y198_2 dM_248 rfl dM_249 (by decide) rfl rfl (fun c249 => ?_) (fun c249 => ?_)
  · exact absurd c249 (by decide)
  refine Gl.aloadN Y198_2 rfl rfl dM_252 rfl ?_
  refine Gl.goto Y198_2 dM_253 (by decide) rfl ?_
  have f3 := (Exa.wr W198_2 (Exa.wr W198 E_o0))
  have f4 := (Exa.wr W198_2 (Exa.wr W198 E_o1))
  have f5 := (Fld.other W198_2 f1 (Or.inl n_o0_o2))
  have f6 := (Fld.other W198_2 (Fld.other W198 F_o0_work (Or.inl n_o0_o2)) (Or.inl n_o0_o2))
  have f7 := (Fld.other W198_2 (Fld.other W198 F_o1_words (Or.inl n_o1_o2)) (Or.inl n_o1_o2))
  have f8 := (Fld.other W198_2 (Fld.other W198 F_o1_work (Or.inl n_o1_o2)) (Or.inl n_o1_o2))
  have f9 := ((V_o3.other W198 (Ne.symm n_o2_o3)).other W198_2 (Ne.symm n_o2_o3))
  have f10 := (f2.other W198_2 (Ne.symm n_o2_o4))
  exact Gl.retA Y198_2 (by decide) (by decide) rfl rfl dM_260 ⟨rfl, K198_2, f3, f4, f5, f6, f7, f8, A198_2, f9, f10⟩
def RA86 : Room := { frames := 3, cells := 0, slots := 0, locals := 57 }
def QA86 (Z : State) (o0 : Addr) (o1 : Addr) (o2 : Addr) (o3 : Addr) (o4 : Addr) (k_o2 : ClassId) (k_o3 : ClassId) (k_o4 : ClassId) (p0 : Int64) (d0 : Int64) (d1 : Int64) (d2 : Int64) (d3 : Int64) (d4 : Int64) (d5 : Int64) (d6 : Int64) (d7 : Int64) (h0 : Heap) (v : Option Value) (h : Heap) : Prop := v = some (.ref o0) ∧ Keep h0 h [o0, o1, o2, o3, o4] ∧ Exa Z h o0 kW ∧ Exa Z h o1 kW ∧ Fld Z h o0 kW "words" "[J" (.ref o2) ∧ Fld Z h o0 kW "work" "[J" (.ref o3) ∧ Fld Z h o1 kW "words" "[J" (.ref o4) ∧ Fld Z h o1 kW "work" "[J" .null ∧ Arv Z h o2 k_o2 .long (2 : Int32) [(.long d2), (.long (-9223372036854775808))] (.long 0) ∧ Arv Z h o3 k_o3 .long (6 : Int32) [(.long 6148914691236517205), (.long 0), (.long 0), (.long 0), (.long 0), (.long 0)] (.long 0) ∧ Arv Z h o4 k_o4 .long (2 : Int32) [(.long p0), (.long 0)] (.long 0)
theorem efA86 (o0 : Addr) (o1 : Addr) (m : MethodId) : entryFrame m #[(.ref o0), (.ref o1)] 2 = mkF m 0 #[.val (.ref o0), .val (.ref o1)] [] := by first | (simp [entryFrame, mkF, argsToLocals, Value.category]; done) | rfl
theorem rmA86 (l : Launch) (Z : State) (a0 : Array Value) (hw : HW a0 Z) (ws : List Jvm.Cond) (o0 : Addr) (o1 : Addr) (o2 : Addr) (o3 : Addr) (o4 : Addr) (k_o2 : ClassId) (k_o3 : ClassId) (k_o4 : ClassId) (p0 : Int64) (d0 : Int64) (d1 : Int64) (d2 : Int64) (d3 : Int64) (d4 : Int64) (d5 : Int64) (d6 : Int64) (d7 : Int64) (h0 : Heap) (n0 : Nat) (Z0 : n0 ≤ h0.size) (E_o0 : Exa Z h0 o0 kW) (F_o0_words : Fld Z h0 o0 kW "words" "[J" (.ref o2)) (F_o0_work : Fld Z h0 o0 kW "work" "[J" (.ref o3)) (g_o0 : n0 ≤ o0) (E_o1 : Exa Z h0 o1 kW) (F_o1_words : Fld Z h0 o1 kW "words" "[J" (.ref o4)) (F_o1_work : Fld Z h0 o1 kW "work" "[J" .null) (g_o1 : n0 ≤ o1) (V_o2 : Arv Z h0 o2 k_o2 .long (2 : Int32) [(.long (-9223372036854775808)), (.long (-9223372036854775808))] (.long 0)) (g_o2 : n0 ≤ o2) (V_o3 : Arv Z h0 o3 k_o3 .long (6 : Int32) [(.long 6148914691236517205), (.long 0), (.long 0), (.long 0), (.long 0), (.long 0)] (.long 0)) (g_o3 : n0 ≤ o3) (V_o4 : Arv Z h0 o4 k_o4 .long (2 : Int32) [(.long p0), (.long 0)] (.long 0)) (g_o4 : n0 ≤ o4) (n_o0_o1 : own_ne o0 o1) (n_o0_o2 : own_ne o0 o2) (n_o0_o3 : own_ne o0 o3) (n_o0_o4 : own_ne o0 o4) (n_o1_o2 : own_ne o1 o2) (n_o1_o3 : own_ne o1 o3) (n_o1_o4 : own_ne o1 o4) (n_o2_o3 : own_ne o2 o3) (n_o2_o4 : own_ne o2 o4) (n_o3_o4 : own_ne o3 o4) (hd0 : p0 ^^^ (0 : Int64) = d0) (hd1 : (-9223372036854775808 : Int64) + d0 = d1) (hd2 : d1 + (0 : Int64) = d2) (hd3 : (-9223372036854775808 : Int64) &&& d0 = d3) (hd4 : (-9223372036854775808 : Int64) ||| d0 = d4) (hd5 : d2 ^^^ (-1 : Int64) = d5) (hd6 : d4 &&& d5 = d6) (hd7 : d3 ||| d6 = d7) (hd8 : (d7.toUInt64 >>> ((63 : Int32) &&& 0x3f).toInt64.toUInt64).toInt64 = (0 : Int64)) : OMet l Z ws (⟨"com/example/meterwise/meterwise/model/WholeNumber", "add", "(Lcom/example/meterwise/meterwise/model/WholeNumber;)Lcom/example/meterwise/meterwise/model/WholeNumber;"⟩ : MethodName) prog_137_method_12_code 2 (some (.object "com/example/meterwise/meterwise/model/WholeNumber")) RA86 #[(.ref o0), (.ref o1)] h0 n0 (QA86 Z o0 o1 o2 o3 o4 k_o2 k_o3 k_o4 p0 d0 d1 d2 d3 d4 d5 d6 d7 h0) := by
  refine OMet.of (own := "com/example/meterwise/meterwise/model/WholeNumber") rfl (plainFor_of_name pn_0) (efA86 o0 o1) Z0 ?_
  intro p e s m below meth c T0 Y0 hnm
  refine Gl.aloadN Y0 rfl rfl dL_0 rfl ?_
  refine Gl.aloadN Y0 rfl rfl dL_1 rfl ?_
  refine Gl.iconst Y0 (v := (0 : Int32)) (by decide) dL_2 rfl ?_
  refine Gl.callP Y0 (tw_64 hw) (tw_65 hw) (tw_66 hw) (tw_2 hw) (tw_3 hw) (tw_67 hw) (by decide) E_o0 (rmA87 l Z a0 hw [] o0 o1 o2 o3 o4 k_o2 k_o3 k_o4 p0 d0 d1 d2 d3 d4 d5 d6 d7 h0 n0 Y0.sz E_o0 F_o0_words F_o0_work g_o0 E_o1 F_o1_words F_o1_work g_o1 V_o2 g_o2 V_o3 g_o3 V_o4 g_o4 n_o0_o1 n_o0_o2 n_o0_o3 n_o0_o4 n_o1_o2 n_o1_o3 n_o1_o4 n_o2_o3 n_o2_o4 n_o3_o4 hd0 hd1 hd2 hd3 hd4 hd5 hd6 hd7 hd8) (a := o0) (argsL := [(.ref o1), (.int 0)]) (rest := []) rfl rfl (lenOf pd_9 rfl) rfl (by decide) (Nat.le_of_ble_eq_true rfl) (by decide) (by decide) dL_3 rfl (fun v3 T3 h3 Y3 q3 => ?_)
  obtain ⟨rfl, K3, f3_0, f3_1, f3_2, f3_3, f3_4, f3_5, f3_6, f3_7, f3_8⟩ := q3
  have KK3 : Keep h0 h3 [o0, o1, o2, o3, o4] := (Keep.refl h0 [o0, o1, o2, o3, o4]).trans K3 (allS (Or.inl (List.mem_of_getElem? (i := 0) rfl)) (allS (Or.inl (List.mem_of_getElem? (i := 1) rfl)) (allS (Or.inl (List.mem_of_getElem? (i := 2) rfl)) (allS (Or.inl (List.mem_of_getElem? (i := 3) rfl)) (allS (Or.inl (List.mem_of_getElem? (i := 4) rfl)) all0)))))
  show Gl p e below _ (T3.setTop (mkF m 6 _ [(.ref o0)]))
  exact Gl.retA Y3 (by decide) (by decide) rfl rfl dL_6 ⟨rfl, KK3, f3_0, f3_1, f3_2, f3_3, f3_4, f3_5, f3_6, f3_7, f3_8⟩
def RA88 : Room := { frames := 1, cells := 0, slots := 0, locals := 12 }
def QA88 (Z : State) (o0 : Addr) (o1 : Addr) (k_o1 : ClassId) (h0 : Heap) (v : Option Value) (h : Heap) : Prop := v = some (.int 0) ∧ h0 = h
theorem efA88 (o0 : Addr) (m : MethodId) : entryFrame m #[(.ref o0)] 1 = mkF m 0 #[.val (.ref o0)] [] := by first | (simp [entryFrame, mkF, argsToLocals, Value.category]; done) | rfl
theorem rmA88 (l : Launch) (Z : State) (a0 : Array Value) (hw : HW a0 Z) (ws : List Jvm.Cond) (o0 : Addr) (o1 : Addr) (k_o1 : ClassId) (h0 : Heap) (n0 : Nat) (Z0 : n0 ≤ h0.size) (E_o0 : Exa Z h0 o0 kW) (F_o0_words : Fld Z h0 o0 kW "words" "[J" (.ref o1)) (F_o0_work : Fld Z h0 o0 kW "work" "[J" .null) (g_o0 : n0 ≤ o0) (V_o1 : Arv Z h0 o1 k_o1 .long (3 : Int32) [(.long 0), (.long 0), (.long 0)] (.long 0)) (g_o1 : n0 ≤ o1) (n_o0_o1 : own_ne o0 o1) : OMet l Z ws (⟨"com/example/meterwise/meterwise/model/WholeNumber", "overflowed", "()Z"⟩ : MethodName) prog_137_method_8_code 1 (some .boolean) RA88 #[(.ref o0)] h0 n0 (QA88 Z o0 o1 k_o1 h0) := by
  refine OMet.of (own := "com/example/meterwise/meterwise/model/WholeNumber") rfl (plainFor_of_name pn_0) (efA88 o0) Z0 ?_
  intro p e s m below meth c T0 Y0 hnm
  refine Gl.aloadN Y0 rfl rfl dI_0 rfl ?_
  refine Gl.callP Y0 (tw_41 hw) (tw_42 hw) (tw_43 hw) (tw_2 hw) (tw_3 hw) (tw_44 hw) (by decide) E_o0 (rm17 l Z a0 hw [] o0 o1 k_o1 (0 : Int64) (0 : Int64) (0 : Int64) h0 n0 Y0.sz E_o0 F_o0_words V_o1) (a := o0) (argsL := []) (rest := []) rfl rfl (lenOf pd_4 rfl) rfl (by decide) (Nat.le_of_ble_eq_true rfl) (by decide) (by decide) dI_1 rfl (fun v1 T1 h1 Y1 q1 => ?_)
  obtain ⟨rfl, rfl⟩ := q1
  show Gl p e below _ (T1.setTop (mkF m 4 _ [(.long 0)]))
  refine Gl.ldcJ Y1 (tw_45 hw) dI_4 rfl ?_
  refine Gl.lcmpne Y1 dI_7 rfl dI_8 (by decide) rfl rfl (fun c8 => ?_) (fun c8 => ?_)
  rotate_left
  · exact absurd c8 (by decide)
  refine Gl.iconst Y1 (v := (0 : Int32)) (by decide) dI_22 rfl ?_
  exact Gl.retZ Y1 (by decide) (by decide) (x' := (0 : Int32)) (by decide) dI_23 ⟨rfl, rfl⟩
def RA89 : Room := { frames := 1, cells := 0, slots := 0, locals := 12 }
def QA89 (Z : State) (o0 : Addr) (o1 : Addr) (k_o1 : ClassId) (p0 : Int64) (h0 : Heap) (v : Option Value) (h : Heap) : Prop := v = some (.int 0) ∧ h0 = h
theorem efA89 (o0 : Addr) (m : MethodId) : entryFrame m #[(.ref o0)] 1 = mkF m 0 #[.val (.ref o0)] [] := by first | (simp [entryFrame, mkF, argsToLocals, Value.category]; done) | rfl
theorem rmA89 (l : Launch) (Z : State) (a0 : Array Value) (hw : HW a0 Z) (ws : List Jvm.Cond) (o0 : Addr) (o1 : Addr) (k_o1 : ClassId) (p0 : Int64) (h0 : Heap) (n0 : Nat) (Z0 : n0 ≤ h0.size) (E_o0 : Exa Z h0 o0 kW) (F_o0_words : Fld Z h0 o0 kW "words" "[J" (.ref o1)) (F_o0_work : Fld Z h0 o0 kW "work" "[J" .null) (g_o0 : n0 ≤ o0) (V_o1 : Arv Z h0 o1 k_o1 .long (3 : Int32) [(.long p0), (.long (-1)), (.long (-1))] (.long 0)) (g_o1 : n0 ≤ o1) (n_o0_o1 : own_ne o0 o1) : OMet l Z ws (⟨"com/example/meterwise/meterwise/model/WholeNumber", "overflowed", "()Z"⟩ : MethodName) prog_137_method_8_code 1 (some .boolean) RA89 #[(.ref o0)] h0 n0 (QA89 Z o0 o1 k_o1 p0 h0) := by
  refine OMet.of (own := "com/example/meterwise/meterwise/model/WholeNumber") rfl (plainFor_of_name pn_0) (efA89 o0) Z0 ?_
  intro p e s m below meth c T0 Y0 hnm
  refine Gl.aloadN Y0 rfl rfl dI_0 rfl ?_
  refine Gl.callP Y0 (tw_41 hw) (tw_42 hw) (tw_43 hw) (tw_2 hw) (tw_3 hw) (tw_44 hw) (by decide) E_o0 (rm17 l Z a0 hw [] o0 o1 k_o1 p0 (-1 : Int64) (-1 : Int64) h0 n0 Y0.sz E_o0 F_o0_words V_o1) (a := o0) (argsL := []) (rest := []) rfl rfl (lenOf pd_4 rfl) rfl (by decide) (Nat.le_of_ble_eq_true rfl) (by decide) (by decide) dI_1 rfl (fun v1 T1 h1 Y1 q1 => ?_)
  obtain ⟨rfl, rfl⟩ := q1
  show Gl p e below _ (T1.setTop (mkF m 4 _ [(.long (-1))]))
  refine Gl.ldcJ Y1 (tw_45 hw) dI_4 rfl ?_
  refine Gl.lcmpne Y1 dI_7 rfl dI_8 (by decide) rfl rfl (fun c8 => ?_) (fun c8 => ?_)
  rotate_left
  · exact absurd c8 (by decide)
  refine Gl.iconst Y1 (v := (0 : Int32)) (by decide) dI_22 rfl ?_
  exact Gl.retZ Y1 (by decide) (by decide) (x' := (0 : Int32)) (by decide) dI_23 ⟨rfl, rfl⟩
def RA90 : Room := { frames := 1, cells := 0, slots := 0, locals := 12 }
def QA90 (Z : State) (o0 : Addr) (o1 : Addr) (k_o1 : ClassId) (p0 : Int64) (h0 : Heap) (v : Option Value) (h : Heap) : Prop := v = some (.int 0) ∧ h0 = h
theorem efA90 (o0 : Addr) (m : MethodId) : entryFrame m #[(.ref o0)] 1 = mkF m 0 #[.val (.ref o0)] [] := by first | (simp [entryFrame, mkF, argsToLocals, Value.category]; done) | rfl
theorem rmA90 (l : Launch) (Z : State) (a0 : Array Value) (hw : HW a0 Z) (ws : List Jvm.Cond) (o0 : Addr) (o1 : Addr) (k_o1 : ClassId) (p0 : Int64) (h0 : Heap) (n0 : Nat) (Z0 : n0 ≤ h0.size) (E_o0 : Exa Z h0 o0 kW) (F_o0_words : Fld Z h0 o0 kW "words" "[J" (.ref o1)) (F_o0_work : Fld Z h0 o0 kW "work" "[J" .null) (g_o0 : n0 ≤ o0) (V_o1 : Arv Z h0 o1 k_o1 .long (3 : Int32) [(.long p0), (.long 0), (.long 0)] (.long 0)) (g_o1 : n0 ≤ o1) (n_o0_o1 : own_ne o0 o1) : OMet l Z ws (⟨"com/example/meterwise/meterwise/model/WholeNumber", "overflowed", "()Z"⟩ : MethodName) prog_137_method_8_code 1 (some .boolean) RA90 #[(.ref o0)] h0 n0 (QA90 Z o0 o1 k_o1 p0 h0) := by
  refine OMet.of (own := "com/example/meterwise/meterwise/model/WholeNumber") rfl (plainFor_of_name pn_0) (efA90 o0) Z0 ?_
  intro p e s m below meth c T0 Y0 hnm
  refine Gl.aloadN Y0 rfl rfl dI_0 rfl ?_
  refine Gl.callP Y0 (tw_41 hw) (tw_42 hw) (tw_43 hw) (tw_2 hw) (tw_3 hw) (tw_44 hw) (by decide) E_o0 (rm17 l Z a0 hw [] o0 o1 k_o1 p0 (0 : Int64) (0 : Int64) h0 n0 Y0.sz E_o0 F_o0_words V_o1) (a := o0) (argsL := []) (rest := []) rfl rfl (lenOf pd_4 rfl) rfl (by decide) (Nat.le_of_ble_eq_true rfl) (by decide) (by decide) dI_1 rfl (fun v1 T1 h1 Y1 q1 => ?_)
  obtain ⟨rfl, rfl⟩ := q1
  show Gl p e below _ (T1.setTop (mkF m 4 _ [(.long 0)]))
  refine Gl.ldcJ Y1 (tw_45 hw) dI_4 rfl ?_
  refine Gl.lcmpne Y1 dI_7 rfl dI_8 (by decide) rfl rfl (fun c8 => ?_) (fun c8 => ?_)
  rotate_left
  · exact absurd c8 (by decide)
  refine Gl.iconst Y1 (v := (0 : Int32)) (by decide) dI_22 rfl ?_
  exact Gl.retZ Y1 (by decide) (by decide) (x' := (0 : Int32)) (by decide) dI_23 ⟨rfl, rfl⟩
def RA92 : Room := { frames := 0, cells := 0, slots := 0, locals := 0 }
def QA92 (Z : State) (o0 : Addr) (o1 : Addr) (k_o1 : ClassId) (h0 : Heap) (v : Option Value) (h : Heap) : Prop := v = some (.int 1) ∧ h0 = h
theorem efA92 (o0 : Addr) (m : MethodId) : entryFrame m #[(.ref o0)] 2 = mkF m 0 #[.val (.ref o0), .unset] [] := by first | (simp [entryFrame, mkF, argsToLocals, Value.category]; done) | rfl
theorem rmA92 (l : Launch) (Z : State) (a0 : Array Value) (hw : HW a0 Z) (ws : List Jvm.Cond) (o0 : Addr) (o1 : Addr) (k_o1 : ClassId) (h0 : Heap) (n0 : Nat) (Z0 : n0 ≤ h0.size) (E_o0 : Exa Z h0 o0 kW) (F_o0_words : Fld Z h0 o0 kW "words" "[J" (.ref o1)) (F_o0_work : Fld Z h0 o0 kW "work" "[J" .null) (g_o0 : n0 ≤ o0) (V_o1 : Arv Z h0 o1 k_o1 .long (3 : Int32) [(.long 0), (.long 0), (.long (-9223372036854775808))] (.long 0)) (g_o1 : n0 ≤ o1) (n_o0_o1 : own_ne o0 o1) : OMet l Z ws (⟨"com/example/meterwise/meterwise/model/WholeNumber", "zeroBelowTop", "()Z"⟩ : MethodName) prog_137_method_10_code 2 (some .boolean) RA92 #[(.ref o0)] h0 n0 (QA92 Z o0 o1 k_o1 h0) := by
  refine OMet.of (own := "com/example/meterwise/meterwise/model/WholeNumber") rfl (plainFor_of_name pn_0) (efA92 o0) Z0 ?_
  intro p e s m below meth c T0 Y0 hnm
  refine Gl.iconst Y0 (v := (0 : Int32)) (by decide) dJ_0 rfl ?_
  refine Gl.istoreN Y0 (L' := #[.val (.ref o0), .val (.int 0)]) rfl dJ_1 rfl ?_
  refine Gl.iloadN Y0 rfl dJ_2 rfl ?_
  refine Gl.aloadN Y0 rfl rfl dJ_3 rfl ?_
  refine Gl.getF Y0 (host := "") (Or.inl (tw_15 hw)) Via.refl F_o0_words dJ_4 rfl (fun T4 Y4 => ?_)
  refine Gl.arraylength Y4 V_o1 dJ_7 rfl ?_
  refine Gl.iconst Y4 (v := (1 : Int32)) (by decide) dJ_8 rfl ?_
  refine Gl.isub Y4 (r := (2 : Int32)) (by decide) dJ_9 rfl ?_
  refine Gl.icmpge Y4 dJ_10 (by decide) rfl rfl (fun c10 => ?_) (fun c10 => ?_)
  · exact absurd c10 (by decide)
  refine Gl.aloadN Y4 rfl rfl dJ_13 rfl ?_
  refine Gl.getF Y4 (host := "") (Or.inl (tw_15 hw)) Via.refl F_o0_words dJ_14 rfl (fun T14 Y14 => ?_)
  refine Gl.iloadN Y14 rfl dJ_17 rfl ?_
  refine Gl.laload Y14 V_o1 ⟨by decide, by decide⟩ (v := (.long 0)) rfl dJ_18 rfl ?_
  refine Gl.lconst Y14 (v := (0 : Int64)) (by decide) dJ_19 rfl ?_
  refine Gl.lcmpeq Y14 dJ_20 rfl dJ_21 (by decide) rfl rfl (fun c21 => ?_) (fun c21 => ?_)
  rotate_left
  · exact absurd c21 (by decide)
  refine Gl.iinc Y14 rfl (r := (1 : Int32)) (by decide) (L' := #[.val (.ref o0), .val (.int 1)]) rfl dJ_26 rfl ?_
  refine Gl.goto Y14 dJ_29 (by decide) rfl ?_
  refine Gl.iloadN Y14 rfl dJ_2 rfl ?_
  refine Gl.aloadN Y14 rfl rfl dJ_3 rfl ?_
  refine Gl.getF Y14 (host := "") (Or.inl (tw_15 hw)) Via.refl F_o0_words dJ_4 rfl (fun T4_2 Y4_2 => ?_)
  refine Gl.arraylength Y4_2 V_o1 dJ_7 rfl ?_
  refine Gl.iconst Y4_2 (v := (1 : Int32)) (by decide) dJ_8 rfl ?_
  refine Gl.isub Y4_2 (r := (2 : Int32)) (by decide) dJ_9 rfl ?_
  refine Gl.icmpge Y4_2 dJ_10 (by decide) rfl rfl (fun c10_2 => ?_) (fun c10_2 => ?_)
  · exact absurd c10_2 (by decide)
  refine Gl.aloadN Y4_2 rfl rfl dJ_13 rfl ?_
  refine Gl.getF Y4_2 (host := "") (Or.inl (tw_15 hw)) Via.refl F_o0_words dJ_14 rfl (fun T14_2 Y14_2 => ?_)
  refine Gl.iloadN Y14_2 rfl dJ_17 rfl ?_
  refine Gl.laload Y14_2 V_o1 ⟨by decide, by decide⟩ (v := (.long 0)) rfl dJ_18 rfl ?_
  refine Gl.lconst Y14_2 (v := (0 : Int64)) (by decide) dJ_19 rfl ?_
  refine Gl.lcmpeq Y14_2 dJ_20 rfl dJ_21 (by decide) rfl rfl (fun c21_2 => ?_) (fun c21_2 => ?_)
  rotate_left
  · exact absurd c21_2 (by decide)
  refine Gl.iinc Y14_2 rfl (r := (2 : Int32)) (by decide) (L' := #[.val (.ref o0), .val (.int 2)]) rfl dJ_26 rfl ?_
  refine Gl.goto Y14_2 dJ_29 (by decide) rfl ?_
  refine Gl.iloadN Y14_2 rfl dJ_2 rfl ?_
  refine Gl.aloadN Y14_2 rfl rfl dJ_3 rfl ?_
  refine Gl.getF Y14_2 (host := "") (Or.inl (tw_15 hw)) Via.refl F_o0_words dJ_4 rfl (fun T4_3 Y4_3 => ?_)
  refine Gl.arraylength Y4_3 V_o1 dJ_7 rfl ?_
  refine Gl.iconst Y4_3 (v := (1 : Int32)) (by decide) dJ_8 rfl ?_
  refine Gl.isub Y4_3 (r := (2 : Int32)) (by decide) dJ_9 rfl ?_
  refine Gl.icmpge Y4_3 dJ_10 (by decide) rfl rfl (fun c10_3 => ?_) (fun c10_3 => ?_)
  rotate_left
  · exact absurd c10_3 (by decide)
  refine Gl.iconst Y4_3 (v := (1 : Int32)) (by decide) dJ_32 rfl ?_
  exact Gl.retZ Y4_3 (by decide) (by decide) (x' := (1 : Int32)) (by decide) dJ_33 ⟨rfl, rfl⟩
def RA91 : Room := { frames := 1, cells := 0, slots := 0, locals := 13 }
def QA91 (Z : State) (o0 : Addr) (o1 : Addr) (k_o1 : ClassId) (h0 : Heap) (v : Option Value) (h : Heap) : Prop := v = some (.int 1) ∧ h0 = h
theorem efA91 (o0 : Addr) (m : MethodId) : entryFrame m #[(.ref o0)] 1 = mkF m 0 #[.val (.ref o0)] [] := by first | (simp [entryFrame, mkF, argsToLocals, Value.category]; done) | rfl
theorem rmA91 (l : Launch) (Z : State) (a0 : Array Value) (hw : HW a0 Z) (ws : List Jvm.Cond) (o0 : Addr) (o1 : Addr) (k_o1 : ClassId) (h0 : Heap) (n0 : Nat) (Z0 : n0 ≤ h0.size) (E_o0 : Exa Z h0 o0 kW) (F_o0_words : Fld Z h0 o0 kW "words" "[J" (.ref o1)) (F_o0_work : Fld Z h0 o0 kW "work" "[J" .null) (g_o0 : n0 ≤ o0) (V_o1 : Arv Z h0 o1 k_o1 .long (3 : Int32) [(.long 0), (.long 0), (.long (-9223372036854775808))] (.long 0)) (g_o1 : n0 ≤ o1) (n_o0_o1 : own_ne o0 o1) : OMet l Z ws (⟨"com/example/meterwise/meterwise/model/WholeNumber", "overflowed", "()Z"⟩ : MethodName) prog_137_method_8_code 1 (some .boolean) RA91 #[(.ref o0)] h0 n0 (QA91 Z o0 o1 k_o1 h0) := by
  refine OMet.of (own := "com/example/meterwise/meterwise/model/WholeNumber") rfl (plainFor_of_name pn_0) (efA91 o0) Z0 ?_
  intro p e s m below meth c T0 Y0 hnm
  refine Gl.aloadN Y0 rfl rfl dI_0 rfl ?_
  refine Gl.callP Y0 (tw_41 hw) (tw_42 hw) (tw_43 hw) (tw_2 hw) (tw_3 hw) (tw_44 hw) (by decide) E_o0 (rm17 l Z a0 hw [] o0 o1 k_o1 (0 : Int64) (0 : Int64) (-9223372036854775808 : Int64) h0 n0 Y0.sz E_o0 F_o0_words V_o1) (a := o0) (argsL := []) (rest := []) rfl rfl (lenOf pd_4 rfl) rfl (by decide) (Nat.le_of_ble_eq_true rfl) (by decide) (by decide) dI_1 rfl (fun v1 T1 h1 Y1 q1 => ?_)
  obtain ⟨rfl, rfl⟩ := q1
  show Gl p e below _ (T1.setTop (mkF m 4 _ [(.long (-9223372036854775808))]))
  refine Gl.ldcJ Y1 (tw_45 hw) dI_4 rfl ?_
  refine Gl.lcmpne Y1 dI_7 rfl dI_8 (by decide) rfl rfl (fun c8 => ?_) (fun c8 => ?_)
  · exact absurd c8 (by decide)
  refine Gl.aloadN Y1 rfl rfl dI_11 rfl ?_
  refine Gl.callP Y1 (tw_46 hw) (tw_47 hw) (tw_48 hw) (tw_2 hw) (tw_3 hw) (tw_49 hw) (by decide) E_o0 (rmA92 l Z a0 hw [] o0 o1 k_o1 h0 n0 Y1.sz E_o0 F_o0_words F_o0_work g_o0 V_o1 g_o1 n_o0_o1) (a := o0) (argsL := []) (rest := []) rfl rfl (lenOf pd_5 rfl) rfl (by decide) (Nat.le_of_ble_eq_true rfl) (by decide) (by decide) dI_12 rfl (fun v12 T12 h12 Y12 q12 => ?_)
  obtain ⟨rfl, rfl⟩ := q12
  show Gl p e below _ (T12.setTop (mkF m 15 _ [(.int 1)]))
  refine Gl.ifeq Y12 dI_15 (by decide) rfl rfl (fun c15 => ?_) (fun c15 => ?_)
  · exact absurd c15 (by decide)
  refine Gl.iconst Y12 (v := (1 : Int32)) (by decide) dI_18 rfl ?_
  refine Gl.goto Y12 dI_19 (by decide) rfl ?_
  exact Gl.retZ Y12 (by decide) (by decide) (x' := (1 : Int32)) (by decide) dI_23 ⟨rfl, rfl⟩
def RA94 : Room := { frames := 1, cells := 0, slots := 0, locals := 12 }
def QA94 (Z : State) (o0 : Addr) (o1 : Addr) (k_o1 : ClassId) (h0 : Heap) (v : Option Value) (h : Heap) : Prop := v = some (.int 0) ∧ h0 = h
theorem efA94 (o0 : Addr) (m : MethodId) : entryFrame m #[(.ref o0)] 1 = mkF m 0 #[.val (.ref o0)] [] := by first | (simp [entryFrame, mkF, argsToLocals, Value.category]; done) | rfl
theorem rmA94 (l : Launch) (Z : State) (a0 : Array Value) (hw : HW a0 Z) (ws : List Jvm.Cond) (o0 : Addr) (o1 : Addr) (k_o1 : ClassId) (h0 : Heap) (n0 : Nat) (Z0 : n0 ≤ h0.size) (E_o0 : Exa Z h0 o0 kW) (F_o0_words : Fld Z h0 o0 kW "words" "[J" (.ref o1)) (F_o0_work : Fld Z h0 o0 kW "work" "[J" .null) (g_o0 : n0 ≤ o0) (V_o1 : Arv Z h0 o1 k_o1 .long (3 : Int32) [(.long (-9223372036854775808)), (.long (-1)), (.long (-1))] (.long 0)) (g_o1 : n0 ≤ o1) (n_o0_o1 : own_ne o0 o1) : OMet l Z ws (⟨"com/example/meterwise/meterwise/model/WholeNumber", "overflowed", "()Z"⟩ : MethodName) prog_137_method_8_code 1 (some .boolean) RA94 #[(.ref o0)] h0 n0 (QA94 Z o0 o1 k_o1 h0) := by
  refine OMet.of (own := "com/example/meterwise/meterwise/model/WholeNumber") rfl (plainFor_of_name pn_0) (efA94 o0) Z0 ?_
  intro p e s m below meth c T0 Y0 hnm
  refine Gl.aloadN Y0 rfl rfl dI_0 rfl ?_
  refine Gl.callP Y0 (tw_41 hw) (tw_42 hw) (tw_43 hw) (tw_2 hw) (tw_3 hw) (tw_44 hw) (by decide) E_o0 (rm17 l Z a0 hw [] o0 o1 k_o1 (-9223372036854775808 : Int64) (-1 : Int64) (-1 : Int64) h0 n0 Y0.sz E_o0 F_o0_words V_o1) (a := o0) (argsL := []) (rest := []) rfl rfl (lenOf pd_4 rfl) rfl (by decide) (Nat.le_of_ble_eq_true rfl) (by decide) (by decide) dI_1 rfl (fun v1 T1 h1 Y1 q1 => ?_)
  obtain ⟨rfl, rfl⟩ := q1
  show Gl p e below _ (T1.setTop (mkF m 4 _ [(.long (-1))]))
  refine Gl.ldcJ Y1 (tw_45 hw) dI_4 rfl ?_
  refine Gl.lcmpne Y1 dI_7 rfl dI_8 (by decide) rfl rfl (fun c8 => ?_) (fun c8 => ?_)
  rotate_left
  · exact absurd c8 (by decide)
  refine Gl.iconst Y1 (v := (0 : Int32)) (by decide) dI_22 rfl ?_
  exact Gl.retZ Y1 (by decide) (by decide) (x' := (0 : Int32)) (by decide) dI_23 ⟨rfl, rfl⟩
def RA95 : Room := { frames := 1, cells := 0, slots := 0, locals := 12 }
def QA95 (Z : State) (o0 : Addr) (o1 : Addr) (k_o1 : ClassId) (h0 : Heap) (v : Option Value) (h : Heap) : Prop := v = some (.int 0) ∧ h0 = h
theorem efA95 (o0 : Addr) (m : MethodId) : entryFrame m #[(.ref o0)] 1 = mkF m 0 #[.val (.ref o0)] [] := by first | (simp [entryFrame, mkF, argsToLocals, Value.category]; done) | rfl
theorem rmA95 (l : Launch) (Z : State) (a0 : Array Value) (hw : HW a0 Z) (ws : List Jvm.Cond) (o0 : Addr) (o1 : Addr) (k_o1 : ClassId) (h0 : Heap) (n0 : Nat) (Z0 : n0 ≤ h0.size) (E_o0 : Exa Z h0 o0 kW) (F_o0_words : Fld Z h0 o0 kW "words" "[J" (.ref o1)) (F_o0_work : Fld Z h0 o0 kW "work" "[J" .null) (g_o0 : n0 ≤ o0) (V_o1 : Arv Z h0 o1 k_o1 .long (3 : Int32) [(.long 3), (.long 0), (.long 0)] (.long 0)) (g_o1 : n0 ≤ o1) (n_o0_o1 : own_ne o0 o1) : OMet l Z ws (⟨"com/example/meterwise/meterwise/model/WholeNumber", "overflowed", "()Z"⟩ : MethodName) prog_137_method_8_code 1 (some .boolean) RA95 #[(.ref o0)] h0 n0 (QA95 Z o0 o1 k_o1 h0) := by
  refine OMet.of (own := "com/example/meterwise/meterwise/model/WholeNumber") rfl (plainFor_of_name pn_0) (efA95 o0) Z0 ?_
  intro p e s m below meth c T0 Y0 hnm
  refine Gl.aloadN Y0 rfl rfl dI_0 rfl ?_
  refine Gl.callP Y0 (tw_41 hw) (tw_42 hw) (tw_43 hw) (tw_2 hw) (tw_3 hw) (tw_44 hw) (by decide) E_o0 (rm17 l Z a0 hw [] o0 o1 k_o1 (3 : Int64) (0 : Int64) (0 : Int64) h0 n0 Y0.sz E_o0 F_o0_words V_o1) (a := o0) (argsL := []) (rest := []) rfl rfl (lenOf pd_4 rfl) rfl (by decide) (Nat.le_of_ble_eq_true rfl) (by decide) (by decide) dI_1 rfl (fun v1 T1 h1 Y1 q1 => ?_)
  obtain ⟨rfl, rfl⟩ := q1
  show Gl p e below _ (T1.setTop (mkF m 4 _ [(.long 0)]))
  refine Gl.ldcJ Y1 (tw_45 hw) dI_4 rfl ?_
  refine Gl.lcmpne Y1 dI_7 rfl dI_8 (by decide) rfl rfl (fun c8 => ?_) (fun c8 => ?_)
  rotate_left
  · exact absurd c8 (by decide)
  refine Gl.iconst Y1 (v := (0 : Int32)) (by decide) dI_22 rfl ?_
  exact Gl.retZ Y1 (by decide) (by decide) (x' := (0 : Int32)) (by decide) dI_23 ⟨rfl, rfl⟩
def RA96 : Room := { frames := 1, cells := 0, slots := 0, locals := 12 }
def QA96 (Z : State) (o0 : Addr) (o1 : Addr) (k_o1 : ClassId) (h0 : Heap) (v : Option Value) (h : Heap) : Prop := v = some (.int (-1)) ∧ h0 = h
theorem efA96 (o0 : Addr) (m : MethodId) : entryFrame m #[(.ref o0)] 3 = mkF m 0 #[.val (.ref o0), .unset, .unset] [] := by first | (simp [entryFrame, mkF, argsToLocals, Value.category]; done) | rfl
theorem rmA96 (l : Launch) (Z : State) (a0 : Array Value) (hw : HW a0 Z) (ws : List Jvm.Cond) (o0 : Addr) (o1 : Addr) (k_o1 : ClassId) (h0 : Heap) (n0 : Nat) (Z0 : n0 ≤ h0.size) (E_o0 : Exa Z h0 o0 kW) (F_o0_words : Fld Z h0 o0 kW "words" "[J" (.ref o1)) (F_o0_work : Fld Z h0 o0 kW "work" "[J" .null) (g_o0 : n0 ≤ o0) (V_o1 : Arv Z h0 o1 k_o1 .long (3 : Int32) [(.long (-9223372036854775808)), (.long (-1)), (.long (-1))] (.long 0)) (g_o1 : n0 ≤ o1) (n_o0_o1 : own_ne o0 o1) : OMet l Z ws (⟨"com/example/meterwise/meterwise/model/WholeNumber", "signum", "()I"⟩ : MethodName) prog_137_method_9_code 3 (some .int) RA96 #[(.ref o0)] h0 n0 (QA96 Z o0 o1 k_o1 h0) := by
  refine OMet.of (own := "com/example/meterwise/meterwise/model/WholeNumber") rfl (plainFor_of_name pn_0) (efA96 o0) Z0 ?_
  intro p e s m below meth c T0 Y0 hnm
  refine Gl.aloadN Y0 rfl rfl dN_0 rfl ?_
  refine Gl.callP Y0 (tw_41 hw) (tw_42 hw) (tw_43 hw) (tw_2 hw) (tw_3 hw) (tw_44 hw) (by decide) E_o0 (rm17 l Z a0 hw [] o0 o1 k_o1 (-9223372036854775808 : Int64) (-1 : Int64) (-1 : Int64) h0 n0 Y0.sz E_o0 F_o0_words V_o1) (a := o0) (argsL := []) (rest := []) rfl rfl (lenOf pd_4 rfl) rfl (by decide) (Nat.le_of_ble_eq_true rfl) (by decide) (by decide) dN_1 rfl (fun v1 T1 h1 Y1 q1 => ?_)
  obtain ⟨rfl, rfl⟩ := q1
  show Gl p e below _ (T1.setTop (mkF m 4 _ [(.long (-1))]))
  refine Gl.lstoreN Y1 (L' := #[.val (.ref o0), .val (.long (-1)), .second]) rfl dN_4 rfl ?_
  refine Gl.lloadN Y1 rfl dN_5 rfl ?_
  refine Gl.lconst Y1 (v := (0 : Int64)) (by decide) dN_6 rfl ?_
  refine Gl.lcmpge Y1 dN_7 rfl dN_8 (by decide) rfl rfl (fun c8 => ?_) (fun c8 => ?_)
  · exact absurd c8 (by decide)
  refine Gl.iconst Y1 (v := (-1 : Int32)) (by decide) dN_11 rfl ?_
  exact Gl.retI Y1 (by decide) (by decide)  dN_12 ⟨rfl, rfl⟩
def RA97 : Room := { frames := 0, cells := 1, slots := 8, locals := 0 }
def QA97 (Z : State) (o0 : Addr) (o1 : Addr) (k_o1 : ClassId) (h0 : Heap) (v : Option Value) (h : Heap) : Prop := ∃ b17 : Addr, ∃ ck17 : ClassId, v = some (.ref b17) ∧ Keep h0 h [o0, o1] ∧ h0.size ≤ b17 ∧ Exa Z h o0 kW ∧ Fld Z h o0 kW "words" "[J" (.ref o1) ∧ Fld Z h o0 kW "work" "[J" (.ref b17) ∧ Arv Z h b17 ck17 .long (8 : Int32) [(.long 0), (.long 0), (.long 0), (.long 0), (.long 0), (.long 0), (.long 0), (.long 0)] (.long 0) ∧ Arv Z h o1 k_o1 .long (3 : Int32) [(.long (-9223372036854775808)), (.long (-1)), (.long (-1))] (.long 0)
theorem efA97 (o0 : Addr) (m : MethodId) : entryFrame m #[(.ref o0)] 1 = mkF m 0 #[.val (.ref o0)] [] := by first | (simp [entryFrame, mkF, argsToLocals, Value.category]; done) | rfl
theorem rmA97 (l : Launch) (Z : State) (a0 : Array Value) (hw : HW a0 Z) (ws : List Jvm.Cond) (o0 : Addr) (o1 : Addr) (k_o1 : ClassId) (h0 : Heap) (n0 : Nat) (Z0 : n0 ≤ h0.size) (E_o0 : Exa Z h0 o0 kW) (F_o0_words : Fld Z h0 o0 kW "words" "[J" (.ref o1)) (F_o0_work : Fld Z h0 o0 kW "work" "[J" .null) (g_o0 : n0 ≤ o0) (V_o1 : Arv Z h0 o1 k_o1 .long (3 : Int32) [(.long (-9223372036854775808)), (.long (-1)), (.long (-1))] (.long 0)) (g_o1 : n0 ≤ o1) (n_o0_o1 : own_ne o0 o1) : OMet l Z ws (⟨"com/example/meterwise/meterwise/model/WholeNumber", "work", "()[J"⟩ : MethodName) prog_137_method_33_code 1 (some (.array .long)) RA97 #[(.ref o0)] h0 n0 (QA97 Z o0 o1 k_o1 h0) := by
  refine OMet.of (own := "com/example/meterwise/meterwise/model/WholeNumber") rfl (plainFor_of_name pn_0) (efA97 o0) Z0 ?_
  intro p e s m below meth c T0 Y0 hnm
  refine Gl.aloadN Y0 rfl rfl dO_0 rfl ?_
  refine Gl.getF Y0 (host := "") (Or.inl (tw_78 hw)) Via.refl F_o0_work dO_1 rfl (fun T1 Y1 => ?_)
  refine Gl.ifnonnullN Y1 dO_4 rfl ?_
  refine Gl.aloadN Y1 rfl rfl dO_7 rfl ?_
  refine Gl.iconst Y1 (v := (2 : Int32)) (by decide) dO_8 rfl ?_
  refine Gl.aloadN Y1 rfl rfl dO_9 rfl ?_
  refine Gl.getF Y1 (host := "") (Or.inl (tw_15 hw)) Via.refl F_o0_words dO_10 rfl (fun T10 Y10 => ?_)
  refine Gl.arraylength Y10 V_o1 dO_13 rfl ?_
  refine Gl.iconst Y10 (v := (1 : Int32)) (by decide) dO_14 rfl ?_
  refine Gl.iadd Y10 (r := (4 : Int32)) (by decide) dO_15 rfl ?_
  refine Gl.imul Y10 (r := (8 : Int32)) (by decide) dO_16 rfl ?_
  refine Gl.newP Y10 8 (ty := .long) rfl (tw_14 hw) (by decide) (by decide) (Nat.le_of_ble_eq_true rfl) (Nat.le_of_ble_eq_true rfl) (Nat.le_of_ble_eq_true rfl) dO_17 rfl (fun T17 h17 b17 ck17 Y17 E17 g17 sb17 V17 => ?_)
  have V17 : Arv Z h17 b17 ck17 .long (8 : Int32) [(.long 0), (.long 0), (.long 0), (.long 0), (.long 0), (.long 0), (.long 0), (.long 0)] (.long 0) := V17.pad (pad_rep [] (.long 0) 8)
  have zb17 : h0.size ≤ b17 := Nat.le_trans (Keep.refl h0 [o0, o1]).1 (Nat.le_of_eq g17.symm)
  have K17 : Keep h0 h17 [o0, o1] := (Keep.refl h0 [o0, o1]).ext E17
  show Gl p e below _ (T17.setTop (mkF m 19 _ [(.ref b17), (.ref o0)]))
  have f1 := (Fld.ext E17 F_o0_work)
  have f2 := (Exa.ext E17 E_o0)
  refine Gl.putF Y17 (host := "") (Or.inl (tw_78 hw)) Via.refl f1 f2 (Or.inl (tw_79 hw)) (tw_2 hw) g_o0 (ty := (.array .long)) (by decide) rfl rfl dO_19 rfl (fun T19 h19 Y19 W19 => ?_)
  have f3 : Fld Z h19 o0 kW "work" "[J" (.ref b17) := Fld.same W19 f1
  have K19 : Keep h0 h19 [o0, o1] := K17.wr W19 (Or.inl (List.mem_of_getElem? (i := 0) rfl))
  refine Gl.aloadN Y19 rfl rfl dO_22 rfl ?_
  refine Gl.getF Y19 (host := "") (Or.inl (tw_78 hw)) Via.refl f3 dO_23 rfl (fun T23 Y23 => ?_)
  have f4 := (Exa.wr W19 f2)
  have f5 := (Fld.other W19 (Fld.ext E17 F_o0_words) (Or.inr (slot_ne (Or.inr (tw_16 hw)) (Or.inl (tw_79 hw)) (by decide) (t := (.array .long)) (t' := (.array .long)) (by decide) (by decide))))
  have f6 := (V17.other W19 (Ne.symm (Nat.ne_of_lt (Nat.lt_of_lt_of_eq E_o0.lt g17.symm))))
  have f7 := ((V_o1.ext E17).other W19 (Ne.symm n_o0_o1))
  exact Gl.retA Y23 (by decide) (by decide) rfl rfl dO_26 ⟨b17, ck17, rfl, K19, zb17, f4, f5, f3, f6, f7⟩
def RA98 : Room := { frames := 0, cells := 0, slots := 0, locals := 0 }
def QA98 (Z : State) (o0 : Addr) (o1 : Addr) (o2 : Addr) (k_o1 : ClassId) (k_o2 : ClassId) (h0 : Heap) (v : Option Value) (h : Heap) : Prop := v = some (.ref o0) ∧ Keep h0 h [o0, o1, o2] ∧ Exa Z h o0 kW ∧ Fld Z h o0 kW "words" "[J" (.ref o1) ∧ Fld Z h o0 kW "work" "[J" (.ref o2) ∧ Arv Z h o1 k_o1 .long (3 : Int32) [(.long (-9223372036854775808)), (.long 0), (.long 0)] (.long 0) ∧ Arv Z h o2 k_o2 .long (8 : Int32) [(.long 3), (.long 0), (.long 0), (.long 0), (.long 0), (.long 0), (.long 0), (.long 0)] (.long 0)
theorem efA98 (o0 : Addr) (m : MethodId) : entryFrame m #[(.ref o0)] 4 = mkF m 0 #[.val (.ref o0), .unset, .unset, .unset] [] := by first | (simp [entryFrame, mkF, argsToLocals, Value.category]; done) | rfl
theorem rmA98 (l : Launch) (Z : State) (a0 : Array Value) (hw : HW a0 Z) (ws : List Jvm.Cond) (o0 : Addr) (o1 : Addr) (o2 : Addr) (k_o1 : ClassId) (k_o2 : ClassId) (h0 : Heap) (n0 : Nat) (Z0 : n0 ≤ h0.size) (E_o0 : Exa Z h0 o0 kW) (F_o0_words : Fld Z h0 o0 kW "words" "[J" (.ref o1)) (F_o0_work : Fld Z h0 o0 kW "work" "[J" (.ref o2)) (g_o0 : n0 ≤ o0) (V_o1 : Arv Z h0 o1 k_o1 .long (3 : Int32) [(.long (-9223372036854775808)), (.long (-1)), (.long (-1))] (.long 0)) (g_o1 : n0 ≤ o1) (V_o2 : Arv Z h0 o2 k_o2 .long (8 : Int32) [(.long 3), (.long 0), (.long 0), (.long 0), (.long 0), (.long 0), (.long 0), (.long 0)] (.long 0)) (g_o2 : n0 ≤ o2) (n_o0_o1 : own_ne o0 o1) (n_o0_o2 : own_ne o0 o2) (n_o1_o2 : own_ne o1 o2) : OMet l Z ws (⟨"com/example/meterwise/meterwise/model/WholeNumber", "negate", "()Lcom/example/meterwise/meterwise/model/WholeNumber;"⟩ : MethodName) prog_137_method_19_code 4 (some (.object "com/example/meterwise/meterwise/model/WholeNumber")) RA98 #[(.ref o0)] h0 n0 (QA98 Z o0 o1 o2 k_o1 k_o2 h0) := by
  refine OMet.of (own := "com/example/meterwise/meterwise/model/WholeNumber") rfl (plainFor_of_name pn_0) (efA98 o0) Z0 ?_
  intro p e s m below meth c T0 Y0 hnm
  refine Gl.lconst Y0 (v := (1 : Int64)) (by decide) dP_0 rfl ?_
  refine Gl.lstoreN Y0 (L' := #[.val (.ref o0), .val (.long 1), .second, .unset]) rfl dP_1 rfl ?_
  refine Gl.iconst Y0 (v := (0 : Int32)) (by decide) dP_2 rfl ?_
  refine Gl.istoreN Y0 (L' := #[.val (.ref o0), .val (.long 1), .second, .val (.int 0)]) rfl dP_3 rfl ?_
  refine Gl.iloadN Y0 rfl dP_4 rfl ?_
  refine Gl.aloadN Y0 rfl rfl dP_5 rfl ?_
  refine Gl.getF Y0 (host := "") (Or.inl (tw_15 hw)) Via.refl F_o0_words dP_6 rfl (fun T6 Y6 => ?_)
  refine Gl.arraylength Y6 V_o1 dP_9 rfl ?_
  refine Gl.icmpge Y6 dP_10 (by decide) rfl rfl (fun c10 => ?_) (fun c10 => ?_)
  · exact absurd c10 (by decide)
  refine Gl.aloadN Y6 rfl rfl dP_13 rfl ?_
  refine Gl.getF Y6 (host := "") (Or.inl (tw_15 hw)) Via.refl F_o0_words dP_14 rfl (fun T14 Y14 => ?_)
  refine Gl.iloadN Y14 rfl dP_17 rfl ?_
  refine Gl.aloadN Y14 rfl rfl dP_18 rfl ?_
  refine Gl.getF Y14 (host := "") (Or.inl (tw_15 hw)) Via.refl F_o0_words dP_19 rfl (fun T19 Y19 => ?_)
  refine Gl.iloadN Y19 rfl dP_22 rfl ?_
  refine Gl.laload Y19 V_o1 ⟨by decide, by decide⟩ (v := (.long (-9223372036854775808))) rfl dP_23 rfl ?_
  refine Gl.ldcJ Y19 (tw_85 hw) dP_24 rfl ?_
  refine Gl.lxor Y19 (r := (9223372036854775807 : Int64)) (by decide) dP_27 rfl ?_
  refine Gl.lloadN Y19 rfl dP_28 rfl ?_
  refine Gl.ladd Y19 (r := (-9223372036854775808 : Int64)) (by decide) dP_29 rfl ?_
  refine Gl.lastore Y19 V_o1 (v := (.long (-9223372036854775808))) rfl ⟨by decide, by decide⟩ (ix := 0) rfl (Nat.le_of_ble_eq_true rfl) g_o1 dP_30 rfl (fun T30 h30 Y30 W30 A30 => ?_)
  have A30 : Arv Z h30 o1 k_o1 .long (3 : Int32) [(.long (-9223372036854775808)), (.long (-1)), (.long (-1))] (.long 0) := A30
  have K30 : Keep h0 h30 [o0, o1, o2] := (Keep.refl h0 [o0, o1, o2]).wr W30 (Or.inl (List.mem_of_getElem? (i := 1) rfl))
  show Gl p e below _ (T30.setTop (mkF m 31 _ []))
  refine Gl.lloadN Y30 rfl dP_31 rfl ?_
  refine Gl.aloadN Y30 rfl rfl dP_32 rfl ?_
  have f1 := (Fld.other W30 F_o0_words (Or.inl n_o0_o1))
  refine Gl.getF Y30 (host := "") (Or.inl (tw_15 hw)) Via.refl f1 dP_33 rfl (fun T33 Y33 => ?_)
  refine Gl.iloadN Y33 rfl dP_36 rfl ?_
  refine Gl.laload Y33 A30 ⟨by decide, by decide⟩ (v := (.long (-9223372036854775808))) rfl dP_37 rfl ?_
  refine Gl.lconst Y33 (v := (0 : Int64)) (by decide) dP_38 rfl ?_
  refine Gl.lcmpne Y33 dP_39 rfl dP_40 (by decide) rfl rfl (fun c40 => ?_) (fun c40 => ?_)
  rotate_left
  · exact absurd c40 (by decide)
  refine Gl.lconst Y33 (v := (0 : Int64)) (by decide) dP_47 rfl ?_
  refine Gl.land Y33 (r := (0 : Int64)) (by decide) dP_48 rfl ?_
  refine Gl.lstoreN Y33 (L' := #[.val (.ref o0), .val (.long 0), .second, .val (.int 0)]) rfl dP_49 rfl ?_
  refine Gl.iinc Y33 rfl (r := (1 : Int32)) (by decide) (L' := #[.val (.ref o0), .val (.long 0), .second, .val (.int 1)]) rfl dP_50 rfl ?_
  refine Gl.goto Y33 dP_53 (by decide) rfl ?_
  refine Gl.iloadN Y33 rfl dP_4 rfl ?_
  refine Gl.aloadN Y33 rfl rfl dP_5 rfl ?_
  refine Gl.getF Y33 (host := "") (Or.inl (tw_15 hw)) Via.refl f1 dP_6 rfl (fun T6_2 Y6_2 => ?_)
  refine Gl.arraylength Y6_2 A30 dP_9 rfl ?_
  refine Gl.icmpge Y6_2 dP_10 (by decide) rfl rfl (fun c10_2 => ?_) (fun c10_2 => ?_)
  · exact absurd c10_2 (by decide)
  refine Gl.aloadN Y6_2 rfl rfl dP_13 rfl ?_
  refine Gl.getF Y6_2 (host := "") (Or.inl (tw_15 hw)) Via.refl f1 dP_14 rfl (fun T14_2 Y14_2 => ?_)
  refine Gl.iloadN Y14_2 rfl dP_17 rfl ?_
  refine Gl.aloadN Y14_2 rfl rfl dP_18 rfl ?_
  refine Gl.getF Y14_2 (host := "") (Or.inl (tw_15 hw)) Via.refl f1 dP_19 rfl (fun T19_2 Y19_2 => ?_)
  refine Gl.iloadN Y19_2 rfl dP_22 rfl ?_
  refine Gl.laload Y19_2 A30 ⟨by decide, by decide⟩ (v := (.long (-1))) rfl dP_23 rfl ?_
  refine Gl.ldcJ Y19_2 (tw_85 hw) dP_24 rfl ?_
  refine Gl.lxor Y19_2 (r := (0 : Int64)) (by decide) dP_27 rfl ?_
  refine Gl.lloadN Y19_2 rfl dP_28 rfl ?_
  refine Gl.ladd Y19_2 (r := (0 : Int64)) (by decide) dP_29 rfl ?_
  refine Gl.lastore Y19_2 A30 (v := (.long 0)) rfl ⟨by decide, by decide⟩ (ix := 1) rfl (Nat.le_of_ble_eq_true rfl) g_o1 dP_30 rfl (fun T30_2 h30_2 Y30_2 W30_2 A30_2 => ?_)
  have A30_2 : Arv Z h30_2 o1 k_o1 .long (3 : Int32) [(.long (-9223372036854775808)), (.long 0), (.long (-1))] (.long 0) := A30_2
  have K30_2 : Keep h0 h30_2 [o0, o1, o2] := K30.wr W30_2 (Or.inl (List.mem_of_getElem? (i := 1) rfl))
  show Gl p e below _ (T30_2.setTop (mkF m 31 _ []))
  refine Gl.lloadN Y30_2 rfl dP_31 rfl ?_
  refine Gl.aloadN Y30_2 rfl rfl dP_32 rfl ?_
  have f2 := (Fld.other W30_2 f1 (Or.inl n_o0_o1))
  refine Gl.getF Y30_2 (host := "") (Or.inl (tw_15 hw)) Via.refl f2 dP_33 rfl (fun T33_2 Y33_2 => ?_)
  refine Gl.iloadN Y33_2 rfl dP_36 rfl ?_
  refine Gl.laload Y33_2 A30_2 ⟨by decide, by decide⟩ (v := (.long 0)) rfl dP_37 rfl ?_
  refine Gl.lconst Y33_2 (v := (0 : Int64)) (by decide) dP_38 rfl ?_
  refine Gl.lcmpne Y33_2 dP_39 rfl dP_40 (by decide) rfl rfl (fun c40_2 => ?_) (fun c40_2 => ?_)
  · exact absurd c40_2 (by decide)
  refine Gl.lconst Y33_2 (v := (1 : Int64)) (by decide) dP_43 rfl ?_
  refine Gl.goto Y33_2 dP_44 (by decide) rfl ?_
  refine Gl.land Y33_2 (r := (0 : Int64)) (by decide) dP_48 rfl ?_
  refine Gl.lstoreN Y33_2 (L' := #[.val (.ref o0), .val (.long 0), .second, .val (.int 1)]) rfl dP_49 rfl ?_
  refine Gl.iinc Y33_2 rfl (r := (2 : Int32)) (by decide) (L' := #[.val (.ref o0), .val (.long 0), .second, .val (.int 2)]) rfl dP_50 rfl ?_
  refine Gl.goto Y33_2 dP_53 (by decide) rfl ?_
  refine Gl.iloadN Y33_2 rfl dP_4 rfl ?_
  refine Gl.aloadN Y33_2 rfl rfl dP_5 rfl ?_
  refine Gl.getF Y33_2 (host := "") (Or.inl (tw_15 hw)) Via.refl f2 dP_6 rfl (fun T6_3 Y6_3 => ?_)
  refine Gl.arraylength Y6_3 A30_2 dP_9 rfl ?_
  refine Gl.icmpge Y6_3 dP_10 (by decide) rfl rfl (fun c10_3 => ?_) (fun c10_3 => ?_)
  · exact absurd c10_3 (by decide)
  refine Gl.aloadN Y6_3 rfl rfl dP_13 rfl ?_
  refine Gl.getF Y6_3 (host := "") (Or.inl (tw_15 hw)) Via.refl f2 dP_14 rfl (fun T14_3 Y14_3 => ?_)
  refine Gl.iloadN Y14_3 rfl dP_17 rfl ?_
  refine Gl.aloadN Y14_3 rfl rfl dP_18 rfl ?_
  refine Gl.getF Y14_3 (host := "") (Or.inl (tw_15 hw)) Via.refl f2 dP_19 rfl (fun T19_3 Y19_3 => ?_)
  refine Gl.iloadN Y19_3 rfl dP_22 rfl ?_
  refine Gl.laload Y19_3 A30_2 ⟨by decide, by decide⟩ (v := (.long (-1))) rfl dP_23 rfl ?_
  refine Gl.ldcJ Y19_3 (tw_85 hw) dP_24 rfl ?_
  refine Gl.lxor Y19_3 (r := (0 : Int64)) (by decide) dP_27 rfl ?_
  refine Gl.lloadN Y19_3 rfl dP_28 rfl ?_
  refine Gl.ladd Y19_3 (r := (0 : Int64)) (by decide) dP_29 rfl ?_
  refine Gl.lastore Y19_3 A30_2 (v := (.long 0)) rfl ⟨by decide, by decide⟩ (ix := 2) rfl (Nat.le_of_ble_eq_true rfl) g_o1 dP_30 rfl (fun T30_3 h30_3 Y30_3 W30_3 A30_3 => ?_)
  have A30_3 : Arv Z h30_3 o1 k_o1 .long (3 : Int32) [(.long (-9223372036854775808)), (.long 0), (.long 0)] (.long 0) := A30_3
  have K30_3 : Keep h0 h30_3 [o0, o1, o2] := K30_2.wr W30_3 (Or.inl (List.mem_of_getElem? (i := 1) rfl))
  show Gl p e below _ (T30_3.setTop (mkF m 31 _ []))
  refine Gl.lloadN Y30_3 rfl dP_31 rfl ?_
  refine Gl.aloadN Y30_3 rfl rfl dP_32 rfl ?_
  have f3 := (Fld.other W30_3 f2 (Or.inl n_o0_o1))
  refine Gl.getF Y30_3 (host := "") (Or.inl (tw_15 hw)) Via.refl f3 dP_33 rfl (fun T33_3 Y33_3 => ?_)
  refine Gl.iloadN Y33_3 rfl dP_36 rfl ?_
  refine Gl.laload Y33_3 A30_3 ⟨by decide, by decide⟩ (v := (.long 0)) rfl dP_37 rfl ?_
  refine Gl.lconst Y33_3 (v := (0 : Int64)) (by decide) dP_38 rfl ?_
  refine Gl.lcmpne Y33_3 dP_39 rfl dP_40 (by decide) rfl rfl (fun c40_3 => ?_) (fun c40_3 => ?_)
  · exact absurd c40_3 (by decide)
  refine Gl.lconst Y33_3 (v := (1 : Int64)) (by decide) dP_43 rfl ?_
  refine Gl.goto Y33_3 dP_44 (by decide) rfl ?_
  refine Gl.land Y33_3 (r := (0 : Int64)) (by decide) dP_48 rfl ?_
  refine Gl.lstoreN Y33_3 (L' := #[.val (.ref o0), .val (.long 0), .second, .val (.int 2)]) rfl dP_49 rfl ?_
  refine Gl.iinc Y33_3 rfl (r := (3 : Int32)) (by decide) (L' := #[.val (.ref o0), .val (.long 0), .second, .val (.int 3)]) rfl dP_50 rfl ?_
  refine Gl.goto Y33_3 dP_53 (by decide) rfl ?_
  refine Gl.iloadN Y33_3 rfl dP_4 rfl ?_
  refine Gl.aloadN Y33_3 rfl rfl dP_5 rfl ?_
  refine Gl.getF Y33_3 (host := "") (Or.inl (tw_15 hw)) Via.refl f3 dP_6 rfl (fun T6_4 Y6_4 => ?_)
  refine Gl.arraylength Y6_4 A30_3 dP_9 rfl ?_
  refine Gl.icmpge Y6_4 dP_10 (by decide) rfl rfl (fun c10_4 => ?_) (fun c10_4 => ?_)
  rotate_left
  · exact absurd c10_4 (by decide)
  refine Gl.aloadN Y6_4 rfl rfl dP_56 rfl ?_
  have f4 := (Exa.wr W30_3 (Exa.wr W30_2 (Exa.wr W30 E_o0)))
  have f5 := (Fld.other W30_3 (Fld.other W30_2 (Fld.other W30 F_o0_work (Or.inl n_o0_o1)) (Or.inl n_o0_o1)) (Or.inl n_o0_o1))
  have f6 := (((V_o2.other W30 (Ne.symm n_o1_o2)).other W30_2 (Ne.symm n_o1_o2)).other W30_3 (Ne.symm n_o1_o2))
  exact Gl.retA Y6_4 (by decide) (by decide) rfl rfl dP_57 ⟨rfl, K30_3, f4, f3, f5, A30_3, f6⟩
def RA101 : Room := { frames := 0, cells := 0, slots := 0, locals := 0 }
def QA101 (Z : State) (h0 : Heap) (v : Option Value) (h : Heap) : Prop := v = some (.int 0) ∧ h0 = h
theorem efA101 (m : MethodId) : entryFrame m #[(.long (-9223372036854775808)), (.long (-9223372036854775808))] 4 = mkF m 0 #[.val (.long (-9223372036854775808)), .second, .val (.long (-9223372036854775808)), .second] [] := by first | (simp [entryFrame, mkF, argsToLocals, Value.category]; done) | rfl
theorem rmA101 (l : Launch) (Z : State) (a0 : Array Value) (hw : HW a0 Z) (ws : List Jvm.Cond) (h0 : Heap) (n0 : Nat) (Z0 : n0 ≤ h0.size) : OMet l Z ws (⟨"java/lang/Long", "compare", "(JJ)I"⟩ : MethodName) jdk_35_method_42_code 4 (some .int) RA101 #[(.long (-9223372036854775808)), (.long (-9223372036854775808))] h0 n0 (QA101 Z h0) := by
  refine OMet.of (own := "java/lang/Long") rfl (plainFor_of_name pn_2) (efA101) Z0 ?_
  intro p e s m below meth c T0 Y0 hnm
  refine Gl.lloadN Y0 rfl dU_0 rfl ?_
  refine Gl.lloadN Y0 rfl dU_1 rfl ?_
  refine Gl.lcmpge Y0 dU_2 rfl dU_3 (by decide) rfl rfl (fun c3 => ?_) (fun c3 => ?_)
  rotate_left
  · exact absurd c3 (by decide)
  refine Gl.lloadN Y0 rfl dU_10 rfl ?_
  refine Gl.lloadN Y0 rfl dU_11 rfl ?_
  refine Gl.lcmpne Y0 dU_12 rfl dU_13 (by decide) rfl rfl (fun c13 => ?_) (fun c13 => ?_)
  · exact absurd c13 (by decide)
  refine Gl.iconst Y0 (v := (0 : Int32)) (by decide) dU_16 rfl ?_
  refine Gl.goto Y0 dU_17 (by decide) rfl ?_
  exact Gl.retI Y0 (by decide) (by decide)  dU_21 ⟨rfl, rfl⟩
def RA100 : Room := { frames := 1, cells := 0, slots := 0, locals := 15 }
def QA100 (Z : State) (h0 : Heap) (v : Option Value) (h : Heap) : Prop := v = some (.int 0) ∧ h0 = h
theorem efA100 (m : MethodId) : entryFrame m #[(.long 0), (.long 0)] 4 = mkF m 0 #[.val (.long 0), .second, .val (.long 0), .second] [] := by first | (simp [entryFrame, mkF, argsToLocals, Value.category]; done) | rfl
theorem rmA100 (l : Launch) (Z : State) (a0 : Array Value) (hw : HW a0 Z) (ws : List Jvm.Cond) (h0 : Heap) (n0 : Nat) (Z0 : n0 ≤ h0.size) : OMet l Z ws (⟨"java/lang/Long", "compareUnsigned", "(JJ)I"⟩ : MethodName) jdk_35_method_43_code 4 (some .int) RA100 #[(.long 0), (.long 0)] h0 n0 (QA100 Z h0) := by
  refine OMet.of (own := "java/lang/Long") rfl (plainFor_of_name pn_2) (efA100) Z0 ?_
  intro p e s m below meth c T0 Y0 hnm
  refine Gl.lloadN Y0 rfl dT_0 rfl ?_
  refine Gl.ldcJ Y0 (tw_102 hw) dT_1 rfl ?_
  refine Gl.ladd Y0 (r := (-9223372036854775808 : Int64)) (by decide) dT_4 rfl ?_
  refine Gl.lloadN Y0 rfl dT_5 rfl ?_
  refine Gl.ldcJ Y0 (tw_102 hw) dT_6 rfl ?_
  refine Gl.ladd Y0 (r := (-9223372036854775808 : Int64)) (by decide) dT_9 rfl ?_
  refine Gl.callS Y0 (tw_103 hw) (tw_104 hw) (tw_100 hw) (tw_105 hw) (by decide) (rmA101 l Z a0 hw [] h0 n0 Y0.sz) (argsL := [(.long (-9223372036854775808)), (.long (-9223372036854775808))]) (rest := []) rfl rfl (lenOf pd_13 rfl) rfl (by decide) (Nat.le_of_ble_eq_true rfl) (by decide) (by decide) dT_10 rfl (fun v10 T10 h10 Y10 q10 => ?_)
  obtain ⟨rfl, rfl⟩ := q10
  show Gl p e below _ (T10.setTop (mkF m 13 _ [(.int 0)]))
  exact Gl.retI Y10 (by decide) (by decide)  dT_13 ⟨rfl, rfl⟩
def RA99 : Room := { frames := 2, cells := 0, slots := 0, locals := 46 }
def QA99 (Z : State) (o0 : Addr) (o1 : Addr) (o2 : Addr) (k_o1 : ClassId) (k_o2 : ClassId) (h0 : Heap) (v : Option Value) (h : Heap) : Prop := v = some (.int 1) ∧ Keep h0 h [o0, o1, o2] ∧ Exa Z h o0 kW ∧ Fld Z h o0 kW "words" "[J" (.ref o1) ∧ Fld Z h o0 kW "work" "[J" (.ref o2) ∧ Arv Z h o1 k_o1 .long (3 : Int32) [(.long (-9223372036854775808)), (.long 1), (.long 0)] (.long 0) ∧ Arv Z h o2 k_o2 .long (8 : Int32) [(.long 3), (.long 0), (.long 0), (.long 0), (.long 0), (.long 0), (.long 0), (.long 0)] (.long 0)
theorem efA99 (o0 : Addr) (m : MethodId) : entryFrame m #[(.ref o0), (.long 3)] 12 = mkF m 0 #[.val (.ref o0), .val (.long 3), .second, .unset, .unset, .unset, .unset, .unset, .unset, .unset, .unset, .unset] [] := by first | (simp [entryFrame, mkF, argsToLocals, Value.category]; done) | rfl
theorem rmA99 (l : Launch) (Z : State) (a0 : Array Value) (hw : HW a0 Z) (ws : List Jvm.Cond) (o0 : Addr) (o1 : Addr) (o2 : Addr) (k_o1 : ClassId) (k_o2 : ClassId) (h0 : Heap) (n0 : Nat) (Z0 : n0 ≤ h0.size) (E_o0 : Exa Z h0 o0 kW) (F_o0_words : Fld Z h0 o0 kW "words" "[J" (.ref o1)) (F_o0_work : Fld Z h0 o0 kW "work" "[J" (.ref o2)) (g_o0 : n0 ≤ o0) (V_o1 : Arv Z h0 o1 k_o1 .long (3 : Int32) [(.long (-9223372036854775808)), (.long 0), (.long 0)] (.long 0)) (g_o1 : n0 ≤ o1) (V_o2 : Arv Z h0 o2 k_o2 .long (8 : Int32) [(.long 3), (.long 0), (.long 0), (.long 0), (.long 0), (.long 0), (.long 0), (.long 0)] (.long 0)) (g_o2 : n0 ≤ o2) (n_o0_o1 : own_ne o0 o1) (n_o0_o2 : own_ne o0 o2) (n_o1_o2 : own_ne o1 o2) : OMet l Z ws (⟨"com/example/meterwise/meterwise/model/WholeNumber", "multiplyMagnitude", "(J)Z"⟩ : MethodName) prog_137_method_18_code 12 (some .boolean) RA99 #[(.ref o0), (.long 3)] h0 n0 (QA99 Z o0 o1 o2 k_o1 k_o2 h0) := by
  refine OMet.of (own := "com/example/meterwise/meterwise/model/WholeNumber") rfl (plainFor_of_name pn_0) (efA99 o0) Z0 ?_
  intro p e s m below meth c T0 Y0 hnm
  refine Gl.lconst Y0 (v := (0 : Int64)) (by decide) dQ_0 rfl ?_
  refine Gl.lstoreN Y0 (L' := #[.val (.ref o0), .val (.long 3), .second, .val (.long 0), .second, .unset, .unset, .unset, .unset, .unset, .unset, .unset]) rfl dQ_1 rfl ?_
  refine Gl.iconst Y0 (v := (0 : Int32)) (by decide) dQ_2 rfl ?_
  refine Gl.istore Y0 (L' := #[.val (.ref o0), .val (.long 3), .second, .val (.long 0), .second, .val (.int 0), .unset, .unset, .unset, .unset, .unset, .unset]) rfl dQ_3 rfl ?_
  refine Gl.iload Y0 rfl dQ_5 rfl ?_
  refine Gl.aloadN Y0 rfl rfl dQ_7 rfl ?_
  refine Gl.getF Y0 (host := "") (Or.inl (tw_15 hw)) Via.refl F_o0_words dQ_8 rfl (fun T8 Y8 => ?_)
  refine Gl.arraylength Y8 V_o1 dQ_11 rfl ?_
  refine Gl.icmpge Y8 dQ_12 (by decide) rfl rfl (fun c12 => ?_) (fun c12 => ?_)
  · exact absurd c12 (by decide)
  refine Gl.aloadN Y8 rfl rfl dQ_15 rfl ?_
  refine Gl.getF Y8 (host := "") (Or.inl (tw_15 hw)) Via.refl F_o0_words dQ_16 rfl (fun T16 Y16 => ?_)
  refine Gl.iload Y16 rfl dQ_19 rfl ?_
  refine Gl.laload Y16 V_o1 ⟨by decide, by decide⟩ (v := (.long (-9223372036854775808))) rfl dQ_21 rfl ?_
  refine Gl.lloadN Y16 rfl dQ_22 rfl ?_
  refine Gl.lmul Y16 (r := (-9223372036854775808 : Int64)) (by decide) dQ_23 rfl ?_
  refine Gl.lstore Y16 (L' := #[.val (.ref o0), .val (.long 3), .second, .val (.long 0), .second, .val (.int 0), .val (.long (-9223372036854775808)), .second, .unset, .unset, .unset, .unset]) rfl dQ_24 rfl ?_
  refine Gl.aloadN Y16 rfl rfl dQ_26 rfl ?_
  refine Gl.getF Y16 (host := "") (Or.inl (tw_15 hw)) Via.refl F_o0_words dQ_27 rfl (fun T27 Y27 => ?_)
  refine Gl.iload Y27 rfl dQ_30 rfl ?_
  refine Gl.laload Y27 V_o1 ⟨by decide, by decide⟩ (v := (.long (-9223372036854775808))) rfl dQ_32 rfl ?_
  refine Gl.lloadN Y27 rfl dQ_33 rfl ?_
  refine Gl.callS Y27 (tw_90 hw) (tw_91 hw) (tw_3 hw) (tw_92 hw) (by decide) (rmA47 l Z a0 hw [] h0 n0 Y27.sz) (argsL := [(.long (-9223372036854775808)), (.long 3)]) (rest := []) rfl rfl (lenOf pd_12 rfl) rfl (by decide) (Nat.le_of_ble_eq_true rfl) (by decide) (by decide) dQ_34 rfl (fun v34 T34 h34 Y34 q34 => ?_)
  obtain ⟨rfl, rfl⟩ := q34
  show Gl p e below _ (T34.setTop (mkF m 37 _ [(.long 1)]))
  refine Gl.lstore Y34 (L' := #[.val (.ref o0), .val (.long 3), .second, .val (.long 0), .second, .val (.int 0), .val (.long (-9223372036854775808)), .second, .val (.long 1), .second, .unset, .unset]) rfl dQ_37 rfl ?_
  refine Gl.lload Y34 rfl dQ_39 rfl ?_
  refine Gl.lloadN Y34 rfl dQ_41 rfl ?_
  refine Gl.ladd Y34 (r := (-9223372036854775808 : Int64)) (by decide) dQ_42 rfl ?_
  refine Gl.lstore Y34 (L' := #[.val (.ref o0), .val (.long 3), .second, .val (.long 0), .second, .val (.int 0), .val (.long (-9223372036854775808)), .second, .val (.long 1), .second, .val (.long (-9223372036854775808)), .second]) rfl dQ_43 rfl ?_
  refine Gl.lload Y34 rfl dQ_45 rfl ?_
  refine Gl.lload Y34 rfl dQ_47 rfl ?_
  refine Gl.lload Y34 rfl dQ_49 rfl ?_
  refine Gl.callS Y34 (tw_98 hw) (tw_99 hw) (tw_100 hw) (tw_101 hw) (by decide) (rmA49 l Z a0 hw [] h0 n0 Y34.sz) (argsL := [(.long (-9223372036854775808)), (.long (-9223372036854775808))]) (rest := [(.long 1)]) rfl rfl (lenOf pd_13 rfl) rfl (by decide) (Nat.le_of_ble_eq_true rfl) (by decide) (by decide) dQ_51 rfl (fun v51 T51 h51 Y51 q51 => ?_)
  obtain ⟨rfl, rfl⟩ := q51
  show Gl p e below _ (T51.setTop (mkF m 54 _ [(.int 0), (.long 1)]))
  refine Gl.ifge Y51 dQ_54 (by decide) rfl rfl (fun c54 => ?_) (fun c54 => ?_)
  rotate_left
  · exact absurd c54 (by decide)
  refine Gl.lconst Y51 (v := (0 : Int64)) (by decide) dQ_61 rfl ?_
  refine Gl.ladd Y51 (r := (1 : Int64)) (by decide) dQ_62 rfl ?_
  refine Gl.lstore Y51 (L' := #[.val (.ref o0), .val (.long 3), .second, .val (.long 0), .second, .val (.int 0), .val (.long (-9223372036854775808)), .second, .val (.long 1), .second, .val (.long (-9223372036854775808)), .second]) rfl dQ_63 rfl ?_
  refine Gl.aloadN Y51 rfl rfl dQ_65 rfl ?_
  refine Gl.getF Y51 (host := "") (Or.inl (tw_15 hw)) Via.refl F_o0_words dQ_66 rfl (fun T66 Y66 => ?_)
  refine Gl.iload Y66 rfl dQ_69 rfl ?_
  refine Gl.lload Y66 rfl dQ_71 rfl ?_
  refine Gl.lastore Y66 V_o1 (v := (.long (-9223372036854775808))) rfl ⟨by decide, by decide⟩ (ix := 0) rfl (Nat.le_of_ble_eq_true rfl) g_o1 dQ_73 rfl (fun T73 h73 Y73 W73 A73 => ?_)
  have A73 : Arv Z h73 o1 k_o1 .long (3 : Int32) [(.long (-9223372036854775808)), (.long 0), (.long 0)] (.long 0) := A73
  have K73 : Keep h0 h73 [o0, o1, o2] := (Keep.refl h0 [o0, o1, o2]).wr W73 (Or.inl (List.mem_of_getElem? (i := 1) rfl))
  show Gl p e below _ (T73.setTop (mkF m 74 _ []))
  refine Gl.lload Y73 rfl dQ_74 rfl ?_
  refine Gl.lstoreN Y73 (L' := #[.val (.ref o0), .val (.long 3), .second, .val (.long 1), .second, .val (.int 0), .val (.long (-9223372036854775808)), .second, .val (.long 1), .second, .val (.long (-9223372036854775808)), .second]) rfl dQ_76 rfl ?_
  refine Gl.iinc Y73 rfl (r := (1 : Int32)) (by decide) (L' := #[.val (.ref o0), .val (.long 3), .second, .val (.long 1), .second, .val (.int 1), .val (.long (-9223372036854775808)), .second, .val (.long 1), .second, .val (.long (-9223372036854775808)), .second]) rfl dQ_77 rfl ?_
  refine Gl.goto Y73 dQ_80 (by decide) rfl ?_
  refine Gl.iload Y73 rfl dQ_5 rfl ?_
  refine Gl.aloadN Y73 rfl rfl dQ_7 rfl ?_
  have f1 := (Fld.other W73 F_o0_words (Or.inl n_o0_o1))
  refine Gl.getF Y73 (host := "") (Or.inl (tw_15 hw)) Via.refl f1 dQ_8 rfl (fun T8_2 Y8_2 => ?_)
  refine Gl.arraylength Y8_2 A73 dQ_11 rfl ?_
  refine Gl.icmpge Y8_2 dQ_12 (by decide) rfl rfl (fun c12_2 => ?_) (fun c12_2 => ?_)
  · exact absurd c12_2 (by decide)
  refine Gl.aloadN Y8_2 rfl rfl dQ_15 rfl ?_
  refine Gl.getF Y8_2 (host := "") (Or.inl (tw_15 hw)) Via.refl f1 dQ_16 rfl (fun T16_2 Y16_2 => ?_)
  refine Gl.iload Y16_2 rfl dQ_19 rfl ?_
  refine Gl.laload Y16_2 A73 ⟨by decide, by decide⟩ (v := (.long 0)) rfl dQ_21 rfl ?_
  refine Gl.lloadN Y16_2 rfl dQ_22 rfl ?_
  refine Gl.lmul Y16_2 (r := (0 : Int64)) (by decide) dQ_23 rfl ?_
  refine Gl.lstore Y16_2 (L' := #[.val (.ref o0), .val (.long 3), .second, .val (.long 1), .second, .val (.int 1), .val (.long 0), .second, .val (.long 1), .second, .val (.long (-9223372036854775808)), .second]) rfl dQ_24 rfl ?_
  refine Gl.aloadN Y16_2 rfl rfl dQ_26 rfl ?_
  refine Gl.getF Y16_2 (host := "") (Or.inl (tw_15 hw)) Via.refl f1 dQ_27 rfl (fun T27_2 Y27_2 => ?_)
  refine Gl.iload Y27_2 rfl dQ_30 rfl ?_
  refine Gl.laload Y27_2 A73 ⟨by decide, by decide⟩ (v := (.long 0)) rfl dQ_32 rfl ?_
  refine Gl.lloadN Y27_2 rfl dQ_33 rfl ?_
  refine Gl.callS Y27_2 (tw_90 hw) (tw_91 hw) (tw_3 hw) (tw_92 hw) (by decide) (rmA51 l Z a0 hw [] h73 n0 Y27_2.sz) (argsL := [(.long 0), (.long 3)]) (rest := []) rfl rfl (lenOf pd_12 rfl) rfl (by decide) (Nat.le_of_ble_eq_true rfl) (by decide) (by decide) dQ_34 rfl (fun v34_2 T34_2 h34_2 Y34_2 q34_2 => ?_)
  obtain ⟨rfl, rfl⟩ := q34_2
  show Gl p e below _ (T34_2.setTop (mkF m 37 _ [(.long 0)]))
  refine Gl.lstore Y34_2 (L' := #[.val (.ref o0), .val (.long 3), .second, .val (.long 1), .second, .val (.int 1), .val (.long 0), .second, .val (.long 0), .second, .val (.long (-9223372036854775808)), .second]) rfl dQ_37 rfl ?_
  refine Gl.lload Y34_2 rfl dQ_39 rfl ?_
  refine Gl.lloadN Y34_2 rfl dQ_41 rfl ?_
  refine Gl.ladd Y34_2 (r := (1 : Int64)) (by decide) dQ_42 rfl ?_
  refine Gl.lstore Y34_2 (L' := #[.val (.ref o0), .val (.long 3), .second, .val (.long 1), .second, .val (.int 1), .val (.long 0), .second, .val (.long 0), .second, .val (.long 1), .second]) rfl dQ_43 rfl ?_
  refine Gl.lload Y34_2 rfl dQ_45 rfl ?_
  refine Gl.lload Y34_2 rfl dQ_47 rfl ?_
  refine Gl.lload Y34_2 rfl dQ_49 rfl ?_
  refine Gl.callS Y34_2 (tw_98 hw) (tw_99 hw) (tw_100 hw) (tw_101 hw) (by decide) (rmA53 l Z a0 hw [] h73 n0 Y34_2.sz) (argsL := [(.long 1), (.long 0)]) (rest := [(.long 0)]) rfl rfl (lenOf pd_13 rfl) rfl (by decide) (Nat.le_of_ble_eq_true rfl) (by decide) (by decide) dQ_51 rfl (fun v51_2 T51_2 h51_2 Y51_2 q51_2 => ?_)
  obtain ⟨rfl, rfl⟩ := q51_2
  show Gl p e below _ (T51_2.setTop (mkF m 54 _ [(.int 1), (.long 0)]))
  refine Gl.ifge Y51_2 dQ_54 (by decide) rfl rfl (fun c54_2 => ?_) (fun c54_2 => ?_)
  rotate_left
  · exact absurd c54_2 (by decide)
  refine Gl.lconst Y51_2 (v := (0 : Int64)) (by decide) dQ_61 rfl ?_
  refine Gl.ladd Y51_2 (r := (0 : Int64)) (by decide) dQ_62 rfl ?_
  refine Gl.lstore Y51_2 (L' := #[.val (.ref o0), .val (.long 3), .second, .val (.long 1), .second, .val (.int 1), .val (.long 0), .second, .val (.long 0), .second, .val (.long 1), .second]) rfl dQ_63 rfl ?_
  refine Gl.aloadN Y51_2 rfl rfl dQ_65 rfl ?_
  refine Gl.getF Y51_2 (host := "") (Or.inl (tw_15 hw)) Via.refl f1 dQ_66 rfl (fun T66_2 Y66_2 => ?_)
  refine Gl.iload Y66_2 rfl dQ_69 rfl ?_
  refine Gl.lload Y66_2 rfl dQ_71 rfl ?_
  refine Gl.lastore Y66_2 A73 (v := (.long 1)) rfl ⟨by decide, by decide⟩ (ix := 1) rfl (Nat.le_of_ble_eq_true rfl) g_o1 dQ_73 rfl (fun T73_2 h73_2 Y73_2 W73_2 A73_2 => ?_)
  have A73_2 : Arv Z h73_2 o1 k_o1 .long (3 : Int32) [(.long (-9223372036854775808)), (.long 1), (.long 0)] (.long 0) := A73_2
  have K73_2 : Keep h0 h73_2 [o0, o1, o2] := K73.wr W73_2 (Or.inl (List.mem_of_getElem? (i := 1) rfl))
  show Gl p e below _ (T73_2.setTop (mkF m 74 _ []))
  refine Gl.lload Y73_2 rfl dQ_74 rfl ?_
  refine Gl.lstoreN Y73_2 (L' := #[.val (.ref o0), .val (.long 3), .second, .val (.long 0), .second, .val (.int 1), .val (.long 0), .second, .val (.long 0), .second, .val (.long 1), .second]) rfl dQ_76 rfl ?_
  refine Gl.iinc Y73_2 rfl (r := (2 : Int32)) (by decide) (L' := #[.val (.ref o0), .val (.long 3), .second, .val (.long 0), .second, .val (.int 2), .val (.long 0), .second, .val (.long 0), .second, .val (.long 1), .second]) rfl dQ_77 rfl ?_
  refine Gl.goto Y73_2 dQ_80 (by decide) rfl ?_
  refine Gl.iload Y73_2 rfl dQ_5 rfl ?_
  refine Gl.aloadN Y73_2 rfl rfl dQ_7 rfl ?_
  have f2 := (Fld.other W73_2 f1 (Or.inl n_o0_o1))
  refine Gl.getF Y73_2 (host := "") (Or.inl (tw_15 hw)) Via.refl f2 dQ_8 rfl (fun T8_3 Y8_3 => ?_)
  refine Gl.arraylength Y8_3 A73_2 dQ_11 rfl ?_
  refine Gl.icmpge Y8_3 dQ_12 (by decide) rfl rfl (fun c12_3 => ?_) (fun c12_3 => ?_)
  · exact absurd c12_3 (by decide)
  refine Gl.aloadN Y8_3 rfl rfl dQ_15 rfl ?_
  refine Gl.getF Y8_3 (host := "") (Or.inl (tw_15 hw)) Via.refl f2 dQ_16 rfl (fun T16_3 Y16_3 => ?_)
  refine Gl.iload Y16_3 rfl dQ_19 rfl ?_
  refine Gl.laload Y16_3 A73_2 ⟨by decide, by decide⟩ (v := (.long 0)) rfl dQ_21 rfl ?_
  refine Gl.lloadN Y16_3 rfl dQ_22 rfl ?_
  refine Gl.lmul Y16_3 (r := (0 : Int64)) (by decide) dQ_23 rfl ?_
  refine Gl.lstore Y16_3 (L' := #[.val (.ref o0), .val (.long 3), .second, .val (.long 0), .second, .val (.int 2), .val (.long 0), .second, .val (.long 0), .second, .val (.long 1), .second]) rfl dQ_24 rfl ?_
  refine Gl.aloadN Y16_3 rfl rfl dQ_26 rfl ?_
  refine Gl.getF Y16_3 (host := "") (Or.inl (tw_15 hw)) Via.refl f2 dQ_27 rfl (fun T27_3 Y27_3 => ?_)
  refine Gl.iload Y27_3 rfl dQ_30 rfl ?_
  refine Gl.laload Y27_3 A73_2 ⟨by decide, by decide⟩ (v := (.long 0)) rfl dQ_32 rfl ?_
  refine Gl.lloadN Y27_3 rfl dQ_33 rfl ?_
  refine Gl.callS Y27_3 (tw_90 hw) (tw_91 hw) (tw_3 hw) (tw_92 hw) (by decide) (rmA51 l Z a0 hw [] h73_2 n0 Y27_3.sz) (argsL := [(.long 0), (.long 3)]) (rest := []) rfl rfl (lenOf pd_12 rfl) rfl (by decide) (Nat.le_of_ble_eq_true rfl) (by decide) (by decide) dQ_34 rfl (fun v34_3 T34_3 h34_3 Y34_3 q34_3 => ?_)
  obtain ⟨rfl, rfl⟩ := q34_3
  show Gl p e below _ (T34_3.setTop (mkF m 37 _ [(.long 0)]))
  refine Gl.lstore Y34_3 (L' := #[.val (.ref o0), .val (.long 3), .second, .val (.long 0), .second, .val (.int 2), .val (.long 0), .second, .val (.long 0), .second, .val (.long 1), .second]) rfl dQ_37 rfl ?_
  refine Gl.lload Y34_3 rfl dQ_39 rfl ?_
  refine Gl.lloadN Y34_3 rfl dQ_41 rfl ?_
  refine Gl.ladd Y34_3 (r := (0 : Int64)) (by decide) dQ_42 rfl ?_
  refine Gl.lstore Y34_3 (L' := #[.val (.ref o0), .val (.long 3), .second, .val (.long 0), .second, .val (.int 2), .val (.long 0), .second, .val (.long 0), .second, .val (.long 0), .second]) rfl dQ_43 rfl ?_
  refine Gl.lload Y34_3 rfl dQ_45 rfl ?_
  refine Gl.lload Y34_3 rfl dQ_47 rfl ?_
  refine Gl.lload Y34_3 rfl dQ_49 rfl ?_
  refine Gl.callS Y34_3 (tw_98 hw) (tw_99 hw) (tw_100 hw) (tw_101 hw) (by decide) (rmA100 l Z a0 hw [] h73_2 n0 Y34_3.sz) (argsL := [(.long 0), (.long 0)]) (rest := [(.long 0)]) rfl rfl (lenOf pd_13 rfl) rfl (by decide) (Nat.le_of_ble_eq_true rfl) (by decide) (by decide) dQ_51 rfl (fun v51_3 T51_3 h51_3 Y51_3 q51_3 => ?_)
  obtain ⟨rfl, rfl⟩ := q51_3
  show Gl p e below _ (T51_3.setTop (mkF m 54 _ [(.int 0), (.long 0)]))
  refine Gl.ifge Y51_3 dQ_54 (by decide) rfl rfl (fun c54_3 => ?_) (fun c54_3 => ?_)
  rotate_left
  · exact absurd c54_3 (by decide)
  refine Gl.lconst Y51_3 (v := (0 : Int64)) (by decide) dQ_61 rfl ?_
  refine Gl.ladd Y51_3 (r := (0 : Int64)) (by decide) dQ_62 rfl ?_
  refine Gl.lstore Y51_3 (L' := #[.val (.ref o0), .val (.long 3), .second, .val (.long 0), .second, .val (.int 2), .val (.long 0), .second, .val (.long 0), .second, .val (.long 0), .second]) rfl dQ_63 rfl ?_
  refine Gl.aloadN Y51_3 rfl rfl dQ_65 rfl ?_
  refine Gl.getF Y51_3 (host := "") (Or.inl (tw_15 hw)) Via.refl f2 dQ_66 rfl (fun T66_3 Y66_3 => ?_)
  refine Gl.iload Y66_3 rfl dQ_69 rfl ?_
  refine Gl.lload Y66_3 rfl dQ_71 rfl ?_
  refine Gl.lastore Y66_3 A73_2 (v := (.long 0)) rfl ⟨by decide, by decide⟩ (ix := 2) rfl (Nat.le_of_ble_eq_true rfl) g_o1 dQ_73 rfl (fun T73_3 h73_3 Y73_3 W73_3 A73_3 => ?_)
  have A73_3 : Arv Z h73_3 o1 k_o1 .long (3 : Int32) [(.long (-9223372036854775808)), (.long 1), (.long 0)] (.long 0) := A73_3
  have K73_3 : Keep h0 h73_3 [o0, o1, o2] := K73_2.wr W73_3 (Or.inl (List.mem_of_getElem? (i := 1) rfl))
  show Gl p e below _ (T73_3.setTop (mkF m 74 _ []))
  refine Gl.lload Y73_3 rfl dQ_74 rfl ?_
  refine Gl.lstoreN Y73_3 (L' := #[.val (.ref o0), .val (.long 3), .second, .val (.long 0), .second, .val (.int 2), .val (.long 0), .second, .val (.long 0), .second, .val (.long 0), .second]) rfl dQ_76 rfl ?_
  refine Gl.iinc Y73_3 rfl (r := (3 : Int32)) (by decide) (L' := #[.val (.ref o0), .val (.long 3), .second, .val (.long 0), .second, .val (.int 3), .val (.long 0), .second, .val (.long 0), .second, .val (.long 0), .second]) rfl dQ_77 rfl ?_
  refine Gl.goto Y73_3 dQ_80 (by decide) rfl ?_
  refine Gl.iload Y73_3 rfl dQ_5 rfl ?_
  refine Gl.aloadN Y73_3 rfl rfl dQ_7 rfl ?_
  have f3 := (Fld.other W73_3 f2 (Or.inl n_o0_o1))
  refine Gl.getF Y73_3 (host := "") (Or.inl (tw_15 hw)) Via.refl f3 dQ_8 rfl (fun T8_4 Y8_4 => ?_)
  refine Gl.arraylength Y8_4 A73_3 dQ_11 rfl ?_
  refine Gl.icmpge Y8_4 dQ_12 (by decide) rfl rfl (fun c12_4 => ?_) (fun c12_4 => ?_)
  rotate_left
  · exact absurd c12_4 (by decide)
  refine Gl.lloadN Y8_4 rfl dQ_83 rfl ?_
  refine Gl.lconst Y8_4 (v := (0 : Int64)) (by decide) dQ_84 rfl ?_
  refine Gl.lcmpne Y8_4 dQ_85 rfl dQ_86 (by decide) rfl rfl (fun c86 => ?_) (fun c86 => ?_)
  · exact absurd c86 (by decide)
  refine Gl.aloadN Y8_4 rfl rfl dQ_89 rfl ?_
  have f4 := (Exa.wr W73_3 (Exa.wr W73_2 (Exa.wr W73 E_o0)))
  refine Gl.callP Y8_4 (tw_41 hw) (tw_42 hw) (tw_43 hw) (tw_2 hw) (tw_3 hw) (tw_44 hw) (by decide) f4 (rm17 l Z a0 hw [] o0 o1 k_o1 (-9223372036854775808 : Int64) (1 : Int64) (0 : Int64) h73_3 n0 Y8_4.sz f4 f3 A73_3) (a := o0) (argsL := []) (rest := []) rfl rfl (lenOf pd_4 rfl) rfl (by decide) (Nat.le_of_ble_eq_true rfl) (by decide) (by decide) dQ_90 rfl (fun v90 T90 h90 Y90 q90 => ?_)
  obtain ⟨rfl, rfl⟩ := q90
  show Gl p e below _ (T90.setTop (mkF m 93 _ [(.long 0)]))
  refine Gl.lconst Y90 (v := (0 : Int64)) (by decide) dQ_93 rfl ?_
  refine Gl.lcmplt Y90 dQ_94 rfl dQ_95 (by decide) rfl rfl (fun c95 => ?_) (fun c95 => ?_)
  · exact absurd c95 (by decide)
  refine Gl.iconst Y90 (v := (1 : Int32)) (by decide) dQ_98 rfl ?_
  refine Gl.goto Y90 dQ_99 (by decide) rfl ?_
  have f5 := (Fld.other W73_3 (Fld.other W73_2 (Fld.other W73 F_o0_work (Or.inl n_o0_o1)) (Or.inl n_o0_o1)) (Or.inl n_o0_o1))
  have f6 := (((V_o2.other W73 (Ne.symm n_o1_o2)).other W73_2 (Ne.symm n_o1_o2)).other W73_3 (Ne.symm n_o1_o2))
  exact Gl.retZ Y90 (by decide) (by decide) (x' := (1 : Int32)) (by decide) dQ_103 ⟨rfl, K73_3, f4, f3, f5, A73_3, f6⟩
def RA102 : Room := { frames := 0, cells := 0, slots := 0, locals := 0 }
def QA102 (Z : State) (o0 : Addr) (o1 : Addr) (o2 : Addr) (k_o1 : ClassId) (k_o2 : ClassId) (h0 : Heap) (v : Option Value) (h : Heap) : Prop := v = some (.ref o0) ∧ Keep h0 h [o0, o1, o2] ∧ Exa Z h o0 kW ∧ Fld Z h o0 kW "words" "[J" (.ref o1) ∧ Fld Z h o0 kW "work" "[J" (.ref o2) ∧ Arv Z h o1 k_o1 .long (3 : Int32) [(.long (-9223372036854775808)), (.long (-2)), (.long (-1))] (.long 0) ∧ Arv Z h o2 k_o2 .long (8 : Int32) [(.long 3), (.long 0), (.long 0), (.long 0), (.long 0), (.long 0), (.long 0), (.long 0)] (.long 0)
theorem efA102 (o0 : Addr) (m : MethodId) : entryFrame m #[(.ref o0)] 4 = mkF m 0 #[.val (.ref o0), .unset, .unset, .unset] [] := by first | (simp [entryFrame, mkF, argsToLocals, Value.category]; done) | rfl
theorem rmA102 (l : Launch) (Z : State) (a0 : Array Value) (hw : HW a0 Z) (ws : List Jvm.Cond) (o0 : Addr) (o1 : Addr) (o2 : Addr) (k_o1 : ClassId) (k_o2 : ClassId) (h0 : Heap) (n0 : Nat) (Z0 : n0 ≤ h0.size) (E_o0 : Exa Z h0 o0 kW) (F_o0_words : Fld Z h0 o0 kW "words" "[J" (.ref o1)) (F_o0_work : Fld Z h0 o0 kW "work" "[J" (.ref o2)) (g_o0 : n0 ≤ o0) (V_o1 : Arv Z h0 o1 k_o1 .long (3 : Int32) [(.long (-9223372036854775808)), (.long 1), (.long 0)] (.long 0)) (g_o1 : n0 ≤ o1) (V_o2 : Arv Z h0 o2 k_o2 .long (8 : Int32) [(.long 3), (.long 0), (.long 0), (.long 0), (.long 0), (.long 0), (.long 0), (.long 0)] (.long 0)) (g_o2 : n0 ≤ o2) (n_o0_o1 : own_ne o0 o1) (n_o0_o2 : own_ne o0 o2) (n_o1_o2 : own_ne o1 o2) : OMet l Z ws (⟨"com/example/meterwise/meterwise/model/WholeNumber", "negate", "()Lcom/example/meterwise/meterwise/model/WholeNumber;"⟩ : MethodName) prog_137_method_19_code 4 (some (.object "com/example/meterwise/meterwise/model/WholeNumber")) RA102 #[(.ref o0)] h0 n0 (QA102 Z o0 o1 o2 k_o1 k_o2 h0) := by
  refine OMet.of (own := "com/example/meterwise/meterwise/model/WholeNumber") rfl (plainFor_of_name pn_0) (efA102 o0) Z0 ?_
  intro p e s m below meth c T0 Y0 hnm
  refine Gl.lconst Y0 (v := (1 : Int64)) (by decide) dP_0 rfl ?_
  refine Gl.lstoreN Y0 (L' := #[.val (.ref o0), .val (.long 1), .second, .unset]) rfl dP_1 rfl ?_
  refine Gl.iconst Y0 (v := (0 : Int32)) (by decide) dP_2 rfl ?_
  refine Gl.istoreN Y0 (L' := #[.val (.ref o0), .val (.long 1), .second, .val (.int 0)]) rfl dP_3 rfl ?_
  refine Gl.iloadN Y0 rfl dP_4 rfl ?_
  refine Gl.aloadN Y0 rfl rfl dP_5 rfl ?_
  refine Gl.getF Y0 (host := "") (Or.inl (tw_15 hw)) Via.refl F_o0_words dP_6 rfl (fun T6 Y6 => ?_)
  refine Gl.arraylength Y6 V_o1 dP_9 rfl ?_
  refine Gl.icmpge Y6 dP_10 (by decide) rfl rfl (fun c10 => ?_) (fun c10 => ?_)
  · exact absurd c10 (by decide)
  refine Gl.aloadN Y6 rfl rfl dP_13 rfl ?_
  refine Gl.getF Y6 (host := "") (Or.inl (tw_15 hw)) Via.refl F_o0_words dP_14 rfl (fun T14 Y14 => ?_)
  refine Gl.iloadN Y14 rfl dP_17 rfl ?_
  refine Gl.aloadN Y14 rfl rfl dP_18 rfl ?_
  refine Gl.getF Y14 (host := "") (Or.inl (tw_15 hw)) Via.refl F_o0_words dP_19 rfl (fun T19 Y19 => ?_)
  refine Gl.iloadN Y19 rfl dP_22 rfl ?_
  refine Gl.laload Y19 V_o1 ⟨by decide, by decide⟩ (v := (.long (-9223372036854775808))) rfl dP_23 rfl ?_
  refine Gl.ldcJ Y19 (tw_85 hw) dP_24 rfl ?_
  refine Gl.lxor Y19 (r := (9223372036854775807 : Int64)) (by decide) dP_27 rfl ?_
  refine Gl.lloadN Y19 rfl dP_28 rfl ?_
  refine Gl.ladd Y19 (r := (-9223372036854775808 : Int64)) (by decide) dP_29 rfl ?_
  refine Gl.lastore Y19 V_o1 (v := (.long (-9223372036854775808))) rfl ⟨by decide, by decide⟩ (ix := 0) rfl (Nat.le_of_ble_eq_true rfl) g_o1 dP_30 rfl (fun T30 h30 Y30 W30 A30 => ?_)
  have A30 : Arv Z h30 o1 k_o1 .long (3 : Int32) [(.long (-9223372036854775808)), (.long 1), (.long 0)] (.long 0) := A30
  have K30 : Keep h0 h30 [o0, o1, o2] := (Keep.refl h0 [o0, o1, o2]).wr W30 (Or.inl (List.mem_of_getElem? (i := 1) rfl))
  show Gl p e below _ (T30.setTop (mkF m 31 _ []))
  refine Gl.lloadN Y30 rfl dP_31 rfl ?_
  refine Gl.aloadN Y30 rfl rfl dP_32 rfl ?_
  have f1 := (Fld.other W30 F_o0_words (Or.inl n_o0_o1))
  refine Gl.getF Y30 (host := "") (Or.inl (tw_15 hw)) Via.refl f1 dP_33 rfl (fun T33 Y33 => ?_)
  refine Gl.iloadN Y33 rfl dP_36 rfl ?_
  refine Gl.laload Y33 A30 ⟨by decide, by decide⟩ (v := (.long (-9223372036854775808))) rfl dP_37 rfl ?_
  refine Gl.lconst Y33 (v := (0 : Int64)) (by decide) dP_38 rfl ?_
  refine Gl.lcmpne Y33 dP_39 rfl dP_40 (by decide) rfl rfl (fun c40 => ?_) (fun c40 => ?_)
  rotate_left
  · exact absurd c40 (by decide)
  refine Gl.lconst Y33 (v := (0 : Int64)) (by decide) dP_47 rfl ?_
  refine Gl.land Y33 (r := (0 : Int64)) (by decide) dP_48 rfl ?_
  refine Gl.lstoreN Y33 (L' := #[.val (.ref o0), .val (.long 0), .second, .val (.int 0)]) rfl dP_49 rfl ?_
  refine Gl.iinc Y33 rfl (r := (1 : Int32)) (by decide) (L' := #[.val (.ref o0), .val (.long 0), .second, .val (.int 1)]) rfl dP_50 rfl ?_
  refine Gl.goto Y33 dP_53 (by decide) rfl ?_
  refine Gl.iloadN Y33 rfl dP_4 rfl ?_
  refine Gl.aloadN Y33 rfl rfl dP_5 rfl ?_
  refine Gl.getF Y33 (host := "") (Or.inl (tw_15 hw)) Via.refl f1 dP_6 rfl (fun T6_2 Y6_2 => ?_)
  refine Gl.arraylength Y6_2 A30 dP_9 rfl ?_
  refine Gl.icmpge Y6_2 dP_10 (by decide) rfl rfl (fun c10_2 => ?_) (fun c10_2 => ?_)
  · exact absurd c10_2 (by decide)
  refine Gl.aloadN Y6_2 rfl rfl dP_13 rfl ?_
  refine Gl.getF Y6_2 (host := "") (Or.inl (tw_15 hw)) Via.refl f1 dP_14 rfl (fun T14_2 Y14_2 => ?_)
  refine Gl.iloadN Y14_2 rfl dP_17 rfl ?_
  refine Gl.aloadN Y14_2 rfl rfl dP_18 rfl ?_
  refine Gl.getF Y14_2 (host := "") (Or.inl (tw_15 hw)) Via.refl f1 dP_19 rfl (fun T19_2 Y19_2 => ?_)
  refine Gl.iloadN Y19_2 rfl dP_22 rfl ?_
  refine Gl.laload Y19_2 A30 ⟨by decide, by decide⟩ (v := (.long 1)) rfl dP_23 rfl ?_
  refine Gl.ldcJ Y19_2 (tw_85 hw) dP_24 rfl ?_
  refine Gl.lxor Y19_2 (r := (-2 : Int64)) (by decide) dP_27 rfl ?_
  refine Gl.lloadN Y19_2 rfl dP_28 rfl ?_
  refine Gl.ladd Y19_2 (r := (-2 : Int64)) (by decide) dP_29 rfl ?_
  refine Gl.lastore Y19_2 A30 (v := (.long (-2))) rfl ⟨by decide, by decide⟩ (ix := 1) rfl (Nat.le_of_ble_eq_true rfl) g_o1 dP_30 rfl (fun T30_2 h30_2 Y30_2 W30_2 A30_2 => ?_)
  have A30_2 : Arv Z h30_2 o1 k_o1 .long (3 : Int32) [(.long (-9223372036854775808)), (.long (-2)), (.long 0)] (.long 0) := A30_2
  have K30_2 : Keep h0 h30_2 [o0, o1, o2] := K30.wr W30_2 (Or.inl (List.mem_of_getElem? (i := 1) rfl))
  show Gl p e below _ (T30_2.setTop (mkF m 31 _ []))
  refine Gl.lloadN Y30_2 rfl dP_31 rfl ?_
  refine Gl.aloadN Y30_2 rfl rfl dP_32 rfl ?_
  have f2 := (Fld.other W30_2 f1 (Or.inl n_o0_o1))
  refine Gl.getF Y30_2 (host := "") (Or.inl (tw_15 hw)) Via.refl f2 dP_33 rfl (fun T33_2 Y33_2 => ?_)
  refine Gl.iloadN Y33_2 rfl dP_36 rfl ?_
  refine Gl.laload Y33_2 A30_2 ⟨by decide, by decide⟩ (v := (.long (-2))) rfl dP_37 rfl ?_
  refine Gl.lconst Y33_2 (v := (0 : Int64)) (by decide) dP_38 rfl ?_
  refine Gl.lcmpne Y33_2 dP_39 rfl dP_40 (by decide) rfl rfl (fun c40_2 => ?_) (fun c40_2 => ?_)
  rotate_left
  · exact absurd c40_2 (by decide)
  refine Gl.lconst Y33_2 (v := (0 : Int64)) (by decide) dP_47 rfl ?_
  refine Gl.land Y33_2 (r := (0 : Int64)) (by decide) dP_48 rfl ?_
  refine Gl.lstoreN Y33_2 (L' := #[.val (.ref o0), .val (.long 0), .second, .val (.int 1)]) rfl dP_49 rfl ?_
  refine Gl.iinc Y33_2 rfl (r := (2 : Int32)) (by decide) (L' := #[.val (.ref o0), .val (.long 0), .second, .val (.int 2)]) rfl dP_50 rfl ?_
  refine Gl.goto Y33_2 dP_53 (by decide) rfl ?_
  refine Gl.iloadN Y33_2 rfl dP_4 rfl ?_
  refine Gl.aloadN Y33_2 rfl rfl dP_5 rfl ?_
  refine Gl.getF Y33_2 (host := "") (Or.inl (tw_15 hw)) Via.refl f2 dP_6 rfl (fun T6_3 Y6_3 => ?_)
  refine Gl.arraylength Y6_3 A30_2 dP_9 rfl ?_
  refine Gl.icmpge Y6_3 dP_10 (by decide) rfl rfl (fun c10_3 => ?_) (fun c10_3 => ?_)
  · exact absurd c10_3 (by decide)
  refine Gl.aloadN Y6_3 rfl rfl dP_13 rfl ?_
  refine Gl.getF Y6_3 (host := "") (Or.inl (tw_15 hw)) Via.refl f2 dP_14 rfl (fun T14_3 Y14_3 => ?_)
  refine Gl.iloadN Y14_3 rfl dP_17 rfl ?_
  refine Gl.aloadN Y14_3 rfl rfl dP_18 rfl ?_
  refine Gl.getF Y14_3 (host := "") (Or.inl (tw_15 hw)) Via.refl f2 dP_19 rfl (fun T19_3 Y19_3 => ?_)
  refine Gl.iloadN Y19_3 rfl dP_22 rfl ?_
  refine Gl.laload Y19_3 A30_2 ⟨by decide, by decide⟩ (v := (.long 0)) rfl dP_23 rfl ?_
  refine Gl.ldcJ Y19_3 (tw_85 hw) dP_24 rfl ?_
  refine Gl.lxor Y19_3 (r := (-1 : Int64)) (by decide) dP_27 rfl ?_
  refine Gl.lloadN Y19_3 rfl dP_28 rfl ?_
  refine Gl.ladd Y19_3 (r := (-1 : Int64)) (by decide) dP_29 rfl ?_
  refine Gl.lastore Y19_3 A30_2 (v := (.long (-1))) rfl ⟨by decide, by decide⟩ (ix := 2) rfl (Nat.le_of_ble_eq_true rfl) g_o1 dP_30 rfl (fun T30_3 h30_3 Y30_3 W30_3 A30_3 => ?_)
  have A30_3 : Arv Z h30_3 o1 k_o1 .long (3 : Int32) [(.long (-9223372036854775808)), (.long (-2)), (.long (-1))] (.long 0) := A30_3
  have K30_3 : Keep h0 h30_3 [o0, o1, o2] := K30_2.wr W30_3 (Or.inl (List.mem_of_getElem? (i := 1) rfl))
  show Gl p e below _ (T30_3.setTop (mkF m 31 _ []))
  refine Gl.lloadN Y30_3 rfl dP_31 rfl ?_
  refine Gl.aloadN Y30_3 rfl rfl dP_32 rfl ?_
  have f3 := (Fld.other W30_3 f2 (Or.inl n_o0_o1))
  refine Gl.getF Y30_3 (host := "") (Or.inl (tw_15 hw)) Via.refl f3 dP_33 rfl (fun T33_3 Y33_3 => ?_)
  refine Gl.iloadN Y33_3 rfl dP_36 rfl ?_
  refine Gl.laload Y33_3 A30_3 ⟨by decide, by decide⟩ (v := (.long (-1))) rfl dP_37 rfl ?_
  refine Gl.lconst Y33_3 (v := (0 : Int64)) (by decide) dP_38 rfl ?_
  refine Gl.lcmpne Y33_3 dP_39 rfl dP_40 (by decide) rfl rfl (fun c40_3 => ?_) (fun c40_3 => ?_)
  rotate_left
  · exact absurd c40_3 (by decide)
  refine Gl.lconst Y33_3 (v := (0 : Int64)) (by decide) dP_47 rfl ?_
  refine Gl.land Y33_3 (r := (0 : Int64)) (by decide) dP_48 rfl ?_
  refine Gl.lstoreN Y33_3 (L' := #[.val (.ref o0), .val (.long 0), .second, .val (.int 2)]) rfl dP_49 rfl ?_
  refine Gl.iinc Y33_3 rfl (r := (3 : Int32)) (by decide) (L' := #[.val (.ref o0), .val (.long 0), .second, .val (.int 3)]) rfl dP_50 rfl ?_
  refine Gl.goto Y33_3 dP_53 (by decide) rfl ?_
  refine Gl.iloadN Y33_3 rfl dP_4 rfl ?_
  refine Gl.aloadN Y33_3 rfl rfl dP_5 rfl ?_
  refine Gl.getF Y33_3 (host := "") (Or.inl (tw_15 hw)) Via.refl f3 dP_6 rfl (fun T6_4 Y6_4 => ?_)
  refine Gl.arraylength Y6_4 A30_3 dP_9 rfl ?_
  refine Gl.icmpge Y6_4 dP_10 (by decide) rfl rfl (fun c10_4 => ?_) (fun c10_4 => ?_)
  rotate_left
  · exact absurd c10_4 (by decide)
  refine Gl.aloadN Y6_4 rfl rfl dP_56 rfl ?_
  have f4 := (Exa.wr W30_3 (Exa.wr W30_2 (Exa.wr W30 E_o0)))
  have f5 := (Fld.other W30_3 (Fld.other W30_2 (Fld.other W30 F_o0_work (Or.inl n_o0_o1)) (Or.inl n_o0_o1)) (Or.inl n_o0_o1))
  have f6 := (((V_o2.other W30 (Ne.symm n_o1_o2)).other W30_2 (Ne.symm n_o1_o2)).other W30_3 (Ne.symm n_o1_o2))
  exact Gl.retA Y6_4 (by decide) (by decide) rfl rfl dP_57 ⟨rfl, K30_3, f4, f3, f5, A30_3, f6⟩
def RA93 : Room := { frames := 3, cells := 1, slots := 8, locals := 69 }
def QA93 (Z : State) (o0 : Addr) (o1 : Addr) (o2 : Addr) (o3 : Addr) (k_o2 : ClassId) (k_o3 : ClassId) (h0 : Heap) (v : Option Value) (h : Heap) : Prop := ∃ b1729 : Addr, ∃ ck1729 : ClassId, v = some (.ref o0) ∧ Keep h0 h [o0, o1, o2, o3] ∧ h0.size ≤ b1729 ∧ Exa Z h o0 kW ∧ Exa Z h o1 kW ∧ Fld Z h o0 kW "words" "[J" (.ref o2) ∧ Fld Z h o0 kW "work" "[J" (.ref b1729) ∧ Fld Z h o1 kW "words" "[J" (.ref o3) ∧ Fld Z h o1 kW "work" "[J" .null ∧ Arv Z h b1729 ck1729 .long (8 : Int32) [(.long 3), (.long 0), (.long 0), (.long 0), (.long 0), (.long 0), (.long 0), (.long 0)] (.long 0) ∧ Arv Z h o2 k_o2 .long (3 : Int32) [(.long (-9223372036854775808)), (.long (-2)), (.long (-1))] (.long 0) ∧ Arv Z h o3 k_o3 .long (3 : Int32) [(.long 3), (.long 0), (.long 0)] (.long 0)
theorem efA93 (o0 : Addr) (o1 : Addr) (m : MethodId) : entryFrame m #[(.ref o0), (.ref o1)] 10 = mkF m 0 #[.val (.ref o0), .val (.ref o1), .unset, .unset, .unset, .unset, .unset, .unset, .unset, .unset] [] := by first | (simp [entryFrame, mkF, argsToLocals, Value.category]; done) | rfl
theorem rmA93 (l : Launch) (Z : State) (a0 : Array Value) (hw : HW a0 Z) (ws : List Jvm.Cond) (o0 : Addr) (o1 : Addr) (o2 : Addr) (o3 : Addr) (k_o2 : ClassId) (k_o3 : ClassId) (h0 : Heap) (n0 : Nat) (Z0 : n0 ≤ h0.size) (E_o0 : Exa Z h0 o0 kW) (F_o0_words : Fld Z h0 o0 kW "words" "[J" (.ref o2)) (F_o0_work : Fld Z h0 o0 kW "work" "[J" .null) (g_o0 : n0 ≤ o0) (E_o1 : Exa Z h0 o1 kW) (F_o1_words : Fld Z h0 o1 kW "words" "[J" (.ref o3)) (F_o1_work : Fld Z h0 o1 kW "work" "[J" .null) (g_o1 : n0 ≤ o1) (V_o2 : Arv Z h0 o2 k_o2 .long (3 : Int32) [(.long (-9223372036854775808)), (.long (-1)), (.long (-1))] (.long 0)) (g_o2 : n0 ≤ o2) (V_o3 : Arv Z h0 o3 k_o3 .long (3 : Int32) [(.long 3), (.long 0), (.long 0)] (.long 0)) (g_o3 : n0 ≤ o3) (n_o0_o1 : own_ne o0 o1) (n_o0_o2 : own_ne o0 o2) (n_o0_o3 : own_ne o0 o3) (n_o1_o2 : own_ne o1 o2) (n_o1_o3 : own_ne o1 o3) (n_o2_o3 : own_ne o2 o3) : OMet l Z ws (⟨"com/example/meterwise/meterwise/model/WholeNumber", "multiply", "(Lcom/example/meterwise/meterwise/model/WholeNumber;)Lcom/example/meterwise/meterwise/model/WholeNumber;"⟩ : MethodName) prog_137_method_15_code 10 (some (.object "com/example/meterwise/meterwise/model/WholeNumber")) RA93 #[(.ref o0), (.ref o1)] h0 n0 (QA93 Z o0 o1 o2 o3 k_o2 k_o3 h0) := by
  refine OMet.of (own := "com/example/meterwise/meterwise/model/WholeNumber") rfl (plainFor_of_name pn_0) (efA93 o0 o1) Z0 ?_
  intro p e s m below meth c T0 Y0 hnm
  refine Gl.aloadN Y0 rfl rfl dK_0 rfl ?_
  refine Gl.callV Y0 (tw_36 hw) (tw_37 hw) (tw_39 hw) (tw_39 hw) (tw_38 hw) (tw_3 hw) (tw_40 hw) (by decide) E_o0 (rmA94 l Z a0 hw [] o0 o2 k_o2 h0 n0 Y0.sz E_o0 F_o0_words F_o0_work g_o0 V_o2 g_o2 n_o0_o2) (a := o0) (argsL := []) (rest := []) rfl rfl (lenOf pd_5 rfl) rfl (by decide) (Nat.le_of_ble_eq_true rfl) (by decide) (by decide) dK_1 rfl (fun v1 T1 h1 Y1 q1 => ?_)
  obtain ⟨rfl, rfl⟩ := q1
  show Gl p e below _ (T1.setTop (mkF m 4 _ [(.int 0)]))
  refine Gl.ifne Y1 dK_4 (by decide) rfl rfl (fun c4 => ?_) (fun c4 => ?_)
  · exact absurd c4 (by decide)
  refine Gl.aloadN Y1 rfl rfl dK_7 rfl ?_
  refine Gl.callV Y1 (tw_36 hw) (tw_37 hw) (tw_39 hw) (tw_39 hw) (tw_38 hw) (tw_3 hw) (tw_40 hw) (by decide) E_o1 (rmA95 l Z a0 hw [] o1 o3 k_o3 h0 n0 Y1.sz E_o1 F_o1_words F_o1_work g_o1 V_o3 g_o3 n_o1_o3) (a := o1) (argsL := []) (rest := []) rfl rfl (lenOf pd_5 rfl) rfl (by decide) (Nat.le_of_ble_eq_true rfl) (by decide) (by decide) dK_8 rfl (fun v8 T8 h8 Y8 q8 => ?_)
  obtain ⟨rfl, rfl⟩ := q8
  show Gl p e below _ (T8.setTop (mkF m 11 _ [(.int 0)]))
  refine Gl.ifeq Y8 dK_11 (by decide) rfl rfl (fun c11 => ?_) (fun c11 => ?_)
  rotate_left
  · exact absurd c11 (by decide)
  refine Gl.aloadN Y8 rfl rfl dK_19 rfl ?_
  refine Gl.callV Y8 (tw_69 hw) (tw_70 hw) (tw_72 hw) (tw_72 hw) (tw_71 hw) (tw_3 hw) (tw_73 hw) (by decide) E_o0 (rmA96 l Z a0 hw [] o0 o2 k_o2 h0 n0 Y8.sz E_o0 F_o0_words F_o0_work g_o0 V_o2 g_o2 n_o0_o2) (a := o0) (argsL := []) (rest := []) rfl rfl (lenOf pd_10 rfl) rfl (by decide) (Nat.le_of_ble_eq_true rfl) (by decide) (by decide) dK_20 rfl (fun v20 T20 h20 Y20 q20 => ?_)
  obtain ⟨rfl, rfl⟩ := q20
  show Gl p e below _ (T20.setTop (mkF m 23 _ [(.int (-1))]))
  refine Gl.ifne Y20 dK_23 (by decide) rfl rfl (fun c23 => ?_) (fun c23 => ?_)
  rotate_left
  · exact absurd c23 (by decide)
  refine Gl.aloadN Y20 rfl rfl dK_28 rfl ?_
  refine Gl.callP Y20 (tw_74 hw) (tw_75 hw) (tw_76 hw) (tw_2 hw) (tw_3 hw) (tw_77 hw) (by decide) E_o0 (rmA97 l Z a0 hw [] o0 o2 k_o2 h0 n0 Y20.sz E_o0 F_o0_words F_o0_work g_o0 V_o2 g_o2 n_o0_o2) (a := o0) (argsL := []) (rest := []) rfl rfl (lenOf pd_11 rfl) rfl (by decide) (Nat.le_of_ble_eq_true rfl) (by decide) (by decide) dK_29 rfl (fun v29 T29 h29 Y29 q29 => ?_)
  obtain ⟨b1729, ck1729, rfl, K29, f29_0, f29_1, f29_2, f29_3, f29_4, f29_5⟩ := q29
  have Y29_sz : n0 ≤ h0.size := Y20.sz
  have KK29 : Keep h0 h29 [o0, o1, o2, o3] := (Keep.refl h0 [o0, o1, o2, o3]).trans K29 (allS (Or.inl (List.mem_of_getElem? (i := 0) rfl)) (allS (Or.inl (List.mem_of_getElem? (i := 2) rfl)) all0))
  have zb1729 : h0.size ≤ b1729 := Nat.le_trans (Keep.refl h0 [o0, o1, o2, o3]).1 f29_0
  show Gl p e below _ (T29.setTop (mkF m 32 _ [(.ref b1729)]))
  refine Gl.astoreN Y29 rfl (L' := #[.val (.ref o0), .val (.ref o1), .val (.ref b1729), .unset, .unset, .unset, .unset, .unset, .unset, .unset]) rfl dK_32 rfl ?_
  refine Gl.aloadN Y29 rfl rfl dK_33 rfl ?_
  have f1 := (E_o1.keep K29)
  have f2 := (F_o1_words.keep K29 (ninS (Ne.symm n_o0_o1) (ninS n_o1_o2 nin0)))
  have f3 := (V_o3.keep K29 (ninS (Ne.symm n_o0_o3) (ninS (Ne.symm n_o2_o3) nin0)))
  refine Gl.callP Y29 (tw_41 hw) (tw_42 hw) (tw_43 hw) (tw_2 hw) (tw_3 hw) (tw_44 hw) (by decide) f1 (rm17 l Z a0 hw [] o1 o3 k_o3 (3 : Int64) (0 : Int64) (0 : Int64) h29 n0 Y29.sz f1 f2 f3) (a := o1) (argsL := []) (rest := []) rfl rfl (lenOf pd_4 rfl) rfl (by decide) (Nat.le_of_ble_eq_true rfl) (by decide) (by decide) dK_34 rfl (fun v34 T34 h34 Y34 q34 => ?_)
  obtain ⟨rfl, rfl⟩ := q34
  show Gl p e below _ (T34.setTop (mkF m 37 _ [(.long 0)]))
  refine Gl.lconst Y34 (v := (0 : Int64)) (by decide) dK_37 rfl ?_
  refine Gl.lcmpge Y34 dK_38 rfl dK_39 (by decide) rfl rfl (fun c39 => ?_) (fun c39 => ?_)
  rotate_left
  · exact absurd c39 (by decide)
  refine Gl.iconst Y34 (v := (0 : Int32)) (by decide) dK_46 rfl ?_
  refine Gl.istoreN Y34 (L' := #[.val (.ref o0), .val (.ref o1), .val (.ref b1729), .val (.int 0), .unset, .unset, .unset, .unset, .unset, .unset]) rfl dK_47 rfl ?_
  refine Gl.iconst Y34 (v := (0 : Int32)) (by decide) dK_48 rfl ?_
  refine Gl.istore Y34 (L' := #[.val (.ref o0), .val (.ref o1), .val (.ref b1729), .val (.int 0), .val (.int 0), .unset, .unset, .unset, .unset, .unset]) rfl dK_49 rfl ?_
  refine Gl.lconst Y34 (v := (1 : Int64)) (by decide) dK_51 rfl ?_
  refine Gl.lstore Y34 (L' := #[.val (.ref o0), .val (.ref o1), .val (.ref b1729), .val (.int 0), .val (.int 0), .val (.long 1), .second, .unset, .unset, .unset]) rfl dK_52 rfl ?_
  refine Gl.iconst Y34 (v := (0 : Int32)) (by decide) dK_54 rfl ?_
  refine Gl.istore Y34 (L' := #[.val (.ref o0), .val (.ref o1), .val (.ref b1729), .val (.int 0), .val (.int 0), .val (.long 1), .second, .val (.int 0), .unset, .unset]) rfl dK_55 rfl ?_
  refine Gl.iload Y34 rfl dK_57 rfl ?_
  refine Gl.aloadN Y34 rfl rfl dK_59 rfl ?_
  refine Gl.getF Y34 (host := "") (Or.inl (tw_15 hw)) Via.refl f2 dK_60 rfl (fun T60 Y60 => ?_)
  refine Gl.arraylength Y60 f3 dK_63 rfl ?_
  refine Gl.icmpge Y60 dK_64 (by decide) rfl rfl (fun c64 => ?_) (fun c64 => ?_)
  · exact absurd c64 (by decide)
  refine Gl.aloadN Y60 rfl rfl dK_67 rfl ?_
  refine Gl.getF Y60 (host := "") (Or.inl (tw_15 hw)) Via.refl f2 dK_68 rfl (fun T68 Y68 => ?_)
  refine Gl.iload Y68 rfl dK_71 rfl ?_
  refine Gl.laload Y68 f3 ⟨by decide, by decide⟩ (v := (.long 3)) rfl dK_73 rfl ?_
  refine Gl.lstore Y68 (L' := #[.val (.ref o0), .val (.ref o1), .val (.ref b1729), .val (.int 0), .val (.int 0), .val (.long 1), .second, .val (.int 0), .val (.long 3), .second]) rfl dK_74 rfl ?_
  refine Gl.iloadN Y68 rfl dK_76 rfl ?_
  refine Gl.ifeq Y68 dK_77 (by decide) rfl rfl (fun c77 => ?_) (fun c77 => ?_)
  rotate_left
  · exact absurd c77 (by decide)
  refine Gl.lload Y68 rfl dK_108 rfl ?_
  refine Gl.lconst Y68 (v := (0 : Int64)) (by decide) dK_110 rfl ?_
  refine Gl.lcmpeq Y68 dK_111 rfl dK_112 (by decide) rfl rfl (fun c112 => ?_) (fun c112 => ?_)
  · exact absurd c112 (by decide)
  refine Gl.iload Y68 rfl dK_115 rfl ?_
  refine Gl.iconst Y68 (v := (1 : Int32)) (by decide) dK_117 rfl ?_
  refine Gl.iadd Y68 (r := (1 : Int32)) (by decide) dK_118 rfl ?_
  refine Gl.goto Y68 dK_119 (by decide) rfl ?_
  refine Gl.istore Y68 (L' := #[.val (.ref o0), .val (.ref o1), .val (.ref b1729), .val (.int 0), .val (.int 1), .val (.long 1), .second, .val (.int 0), .val (.long 3), .second]) rfl dK_124 rfl ?_
  refine Gl.iload Y68 rfl dK_126 rfl ?_
  refine Gl.aloadN Y68 rfl rfl dK_128 rfl ?_
  refine Gl.getF Y68 (host := "") (Or.inl (tw_15 hw)) Via.refl f29_2 dK_129 rfl (fun T129 Y129 => ?_)
  refine Gl.arraylength Y129 f29_5 dK_132 rfl ?_
  refine Gl.icmpgt Y129 dK_133 (by decide) rfl rfl (fun c133 => ?_) (fun c133 => ?_)
  · exact absurd c133 (by decide)
  refine Gl.aloadN Y129 rfl rfl dK_136 rfl ?_
  refine Gl.iload Y129 rfl dK_137 rfl ?_
  refine Gl.lload Y129 rfl dK_139 rfl ?_
  refine Gl.lastore Y129 f29_4 (v := (.long 3)) rfl ⟨by decide, by decide⟩ (ix := 0) rfl (Nat.le_of_ble_eq_true rfl) (Nat.le_trans Y29_sz f29_0) dK_141 rfl (fun T141 h141 Y141 W141 A141 => ?_)
  have A141 : Arv Z h141 b1729 ck1729 .long (8 : Int32) [(.long 3), (.long 0), (.long 0), (.long 0), (.long 0), (.long 0), (.long 0), (.long 0)] (.long 0) := A141
  have K141 : Keep h0 h141 [o0, o1, o2, o3] := KK29.wr W141 (Or.inr zb1729)
  show Gl p e below _ (T141.setTop (mkF m 142 _ []))
  refine Gl.iinc Y141 rfl (r := (1 : Int32)) (by decide) (L' := #[.val (.ref o0), .val (.ref o1), .val (.ref b1729), .val (.int 0), .val (.int 1), .val (.long 1), .second, .val (.int 1), .val (.long 3), .second]) rfl dK_142 rfl ?_
  refine Gl.goto Y141 dK_145 (by decide) rfl ?_
  refine Gl.iload Y141 rfl dK_57 rfl ?_
  refine Gl.aloadN Y141 rfl rfl dK_59 rfl ?_
  have f4 := (Fld.other W141 f2 (Or.inl (Nat.ne_of_lt (Nat.lt_of_lt_of_le E_o1.lt f29_0))))
  refine Gl.getF Y141 (host := "") (Or.inl (tw_15 hw)) Via.refl f4 dK_60 rfl (fun T60_2 Y60_2 => ?_)
  have f5 := (f3.other W141 (Nat.ne_of_lt (Nat.lt_of_lt_of_le V_o3.lt f29_0)))
  refine Gl.arraylength Y60_2 f5 dK_63 rfl ?_
  refine Gl.icmpge Y60_2 dK_64 (by decide) rfl rfl (fun c64_2 => ?_) (fun c64_2 => ?_)
  · exact absurd c64_2 (by decide)
  refine Gl.aloadN Y60_2 rfl rfl dK_67 rfl ?_
  refine Gl.getF Y60_2 (host := "") (Or.inl (tw_15 hw)) Via.refl f4 dK_68 rfl (fun T68_2 Y68_2 => ?_)
  refine Gl.iload Y68_2 rfl dK_71 rfl ?_
  refine Gl.laload Y68_2 f5 ⟨by decide, by decide⟩ (v := (.long 0)) rfl dK_73 rfl ?_
  refine Gl.lstore Y68_2 (L' := #[.val (.ref o0), .val (.ref o1), .val (.ref b1729), .val (.int 0), .val (.int 1), .val (.long 1), .second, .val (.int 1), .val (.long 0), .second]) rfl dK_74 rfl ?_
  refine Gl.iloadN Y68_2 rfl dK_76 rfl ?_
  refine Gl.ifeq Y68_2 dK_77 (by decide) rfl rfl (fun c77_2 => ?_) (fun c77_2 => ?_)
  rotate_left
  · exact absurd c77_2 (by decide)
  refine Gl.lload Y68_2 rfl dK_108 rfl ?_
  refine Gl.lconst Y68_2 (v := (0 : Int64)) (by decide) dK_110 rfl ?_
  refine Gl.lcmpeq Y68_2 dK_111 rfl dK_112 (by decide) rfl rfl (fun c112_2 => ?_) (fun c112_2 => ?_)
  rotate_left
  · exact absurd c112_2 (by decide)
  refine Gl.iload Y68_2 rfl dK_122 rfl ?_
  refine Gl.istore Y68_2 (L' := #[.val (.ref o0), .val (.ref o1), .val (.ref b1729), .val (.int 0), .val (.int 1), .val (.long 1), .second, .val (.int 1), .val (.long 0), .second]) rfl dK_124 rfl ?_
  refine Gl.iload Y68_2 rfl dK_126 rfl ?_
  refine Gl.aloadN Y68_2 rfl rfl dK_128 rfl ?_
  have f6 := (Fld.other W141 f29_2 (Or.inl (Nat.ne_of_lt (Nat.lt_of_lt_of_le E_o0.lt f29_0))))
  refine Gl.getF Y68_2 (host := "") (Or.inl (tw_15 hw)) Via.refl f6 dK_129 rfl (fun T129_2 Y129_2 => ?_)
  have f7 := (f29_5.other W141 (Nat.ne_of_lt (Nat.lt_of_lt_of_le V_o2.lt f29_0)))
  refine Gl.arraylength Y129_2 f7 dK_132 rfl ?_
  refine Gl.icmpgt Y129_2 dK_133 (by decide) rfl rfl (fun c133_2 => ?_) (fun c133_2 => ?_)
  · exact absurd c133_2 (by decide)
  refine Gl.aloadN Y129_2 rfl rfl dK_136 rfl ?_
  refine Gl.iload Y129_2 rfl dK_137 rfl ?_
  refine Gl.lload Y129_2 rfl dK_139 rfl ?_
  refine Gl.lastore Y129_2 A141 (v := (.long 0)) rfl ⟨by decide, by decide⟩ (ix := 1) rfl (Nat.le_of_ble_eq_true rfl) (Nat.le_trans Y29_sz f29_0) dK_141 rfl (fun T141_2 h141_2 Y141_2 W141_2 A141_2 => ?_)
  have A141_2 : Arv Z h141_2 b1729 ck1729 .long (8 : Int32) [(.long 3), (.long 0), (.long 0), (.long 0), (.long 0), (.long 0), (.long 0), (.long 0)] (.long 0) := A141_2
  have K141_2 : Keep h0 h141_2 [o0, o1, o2, o3] := K141.wr W141_2 (Or.inr zb1729)
  show Gl p e below _ (T141_2.setTop (mkF m 142 _ []))
  refine Gl.iinc Y141_2 rfl (r := (2 : Int32)) (by decide) (L' := #[.val (.ref o0), .val (.ref o1), .val (.ref b1729), .val (.int 0), .val (.int 1), .val (.long 1), .second, .val (.int 2), .val (.long 0), .second]) rfl dK_142 rfl ?_
  refine Gl.goto Y141_2 dK_145 (by decide) rfl ?_
  refine Gl.iload Y141_2 rfl dK_57 rfl ?_
  refine Gl.aloadN Y141_2 rfl rfl dK_59 rfl ?_
  have f8 := (Fld.other W141_2 f4 (Or.inl (Nat.ne_of_lt (Nat.lt_of_lt_of_le E_o1.lt f29_0))))
  refine Gl.getF Y141_2 (host := "") (Or.inl (tw_15 hw)) Via.refl f8 dK_60 rfl (fun T60_3 Y60_3 => ?_)
  have f9 := (f5.other W141_2 (Nat.ne_of_lt (Nat.lt_of_lt_of_le V_o3.lt f29_0)))
  refine Gl.arraylength Y60_3 f9 dK_63 rfl ?_
  refine Gl.icmpge Y60_3 dK_64 (by decide) rfl rfl (fun c64_3 => ?_) (fun c64_3 => ?_)
  · exact absurd c64_3 (by decide)
  refine Gl.aloadN Y60_3 rfl rfl dK_67 rfl ?_
  refine Gl.getF Y60_3 (host := "") (Or.inl (tw_15 hw)) Via.refl f8 dK_68 rfl (fun T68_3 Y68_3 => ?_)
  refine Gl.iload Y68_3 rfl dK_71 rfl ?_
  refine Gl.laload Y68_3 f9 ⟨by decide, by decide⟩ (v := (.long 0)) rfl dK_73 rfl ?_
  refine Gl.lstore Y68_3 (L' := #[.val (.ref o0), .val (.ref o1), .val (.ref b1729), .val (.int 0), .val (.int 1), .val (.long 1), .second, .val (.int 2), .val (.long 0), .second]) rfl dK_74 rfl ?_
  refine Gl.iloadN Y68_3 rfl dK_76 rfl ?_
  refine Gl.ifeq Y68_3 dK_77 (by decide) rfl rfl (fun c77_3 => ?_) (fun c77_3 => ?_)
  rotate_left
  · exact absurd c77_3 (by decide)
  refine Gl.lload Y68_3 rfl dK_108 rfl ?_
  refine Gl.lconst Y68_3 (v := (0 : Int64)) (by decide) dK_110 rfl ?_
  refine Gl.lcmpeq Y68_3 dK_111 rfl dK_112 (by decide) rfl rfl (fun c112_3 => ?_) (fun c112_3 => ?_)
  rotate_left
  · exact absurd c112_3 (by decide)
  refine Gl.iload Y68_3 rfl dK_122 rfl ?_
  refine Gl.istore Y68_3 (L' := #[.val (.ref o0), .val (.ref o1), .val (.ref b1729), .val (.int 0), .val (.int 1), .val (.long 1), .second, .val (.int 2), .val (.long 0), .second]) rfl dK_124 rfl ?_
  refine Gl.iload Y68_3 rfl dK_126 rfl ?_
  refine Gl.aloadN Y68_3 rfl rfl dK_128 rfl ?_
  have f10 := (Fld.other W141_2 f6 (Or.inl (Nat.ne_of_lt (Nat.lt_of_lt_of_le E_o0.lt f29_0))))
  refine Gl.getF Y68_3 (host := "") (Or.inl (tw_15 hw)) Via.refl f10 dK_129 rfl (fun T129_3 Y129_3 => ?_)
  have f11 := (f7.other W141_2 (Nat.ne_of_lt (Nat.lt_of_lt_of_le V_o2.lt f29_0)))
  refine Gl.arraylength Y129_3 f11 dK_132 rfl ?_
  refine Gl.icmpgt Y129_3 dK_133 (by decide) rfl rfl (fun c133_3 => ?_) (fun c133_3 => ?_)
  · exact absurd c133_3 (by decide)
  refine Gl.aloadN Y129_3 rfl rfl dK_136 rfl ?_
  refine Gl.iload Y129_3 rfl dK_137 rfl ?_
  refine Gl.lload Y129_3 rfl dK_139 rfl ?_
  refine Gl.lastore Y129_3 A141_2 (v := (.long 0)) rfl ⟨by decide, by decide⟩ (ix := 2) rfl (Nat.le_of_ble_eq_true rfl) (Nat.le_trans Y29_sz f29_0) dK_141 rfl (fun T141_3 h141_3 Y141_3 W141_3 A141_3 => ?_)
  have A141_3 : Arv Z h141_3 b1729 ck1729 .long (8 : Int32) [(.long 3), (.long 0), (.long 0), (.long 0), (.long 0), (.long 0), (.long 0), (.long 0)] (.long 0) := A141_3
  have K141_3 : Keep h0 h141_3 [o0, o1, o2, o3] := K141_2.wr W141_3 (Or.inr zb1729)
  show Gl p e below _ (T141_3.setTop (mkF m 142 _ []))
  refine Gl.iinc Y141_3 rfl (r := (3 : Int32)) (by decide) (L' := #[.val (.ref o0), .val (.ref o1), .val (.ref b1729), .val (.int 0), .val (.int 1), .val (.long 1), .second, .val (.int 3), .val (.long 0), .second]) rfl dK_142 rfl ?_
  refine Gl.goto Y141_3 dK_145 (by decide) rfl ?_
  refine Gl.iload Y141_3 rfl dK_57 rfl ?_
  refine Gl.aloadN Y141_3 rfl rfl dK_59 rfl ?_
  have f12 := (Fld.other W141_3 f8 (Or.inl (Nat.ne_of_lt (Nat.lt_of_lt_of_le E_o1.lt f29_0))))
  refine Gl.getF Y141_3 (host := "") (Or.inl (tw_15 hw)) Via.refl f12 dK_60 rfl (fun T60_4 Y60_4 => ?_)
  have f13 := (f9.other W141_3 (Nat.ne_of_lt (Nat.lt_of_lt_of_le V_o3.lt f29_0)))
  refine Gl.arraylength Y60_4 f13 dK_63 rfl ?_
  refine Gl.icmpge Y60_4 dK_64 (by decide) rfl rfl (fun c64_4 => ?_) (fun c64_4 => ?_)
  rotate_left
  · exact absurd c64_4 (by decide)
  refine Gl.aloadN Y60_4 rfl rfl dK_148 rfl ?_
  have f14 := (Exa.wr W141_3 (Exa.wr W141_2 (Exa.wr W141 f29_1)))
  have f15 := (Fld.other W141_3 f10 (Or.inl (Nat.ne_of_lt (Nat.lt_of_lt_of_le E_o0.lt f29_0))))
  have f16 := (f11.other W141_3 (Nat.ne_of_lt (Nat.lt_of_lt_of_le V_o2.lt f29_0)))
  refine Gl.callP Y60_4 (tw_41 hw) (tw_42 hw) (tw_43 hw) (tw_2 hw) (tw_3 hw) (tw_44 hw) (by decide) f14 (rm17 l Z a0 hw [] o0 o2 k_o2 (-9223372036854775808 : Int64) (-1 : Int64) (-1 : Int64) h141_3 n0 Y60_4.sz f14 f15 f16) (a := o0) (argsL := []) (rest := []) rfl rfl (lenOf pd_4 rfl) rfl (by decide) (Nat.le_of_ble_eq_true rfl) (by decide) (by decide) dK_149 rfl (fun v149 T149 h149 Y149 q149 => ?_)
  obtain ⟨rfl, rfl⟩ := q149
  show Gl p e below _ (T149.setTop (mkF m 152 _ [(.long (-1))]))
  refine Gl.lconst Y149 (v := (0 : Int64)) (by decide) dK_152 rfl ?_
  refine Gl.lcmpge Y149 dK_153 rfl dK_154 (by decide) rfl rfl (fun c154 => ?_) (fun c154 => ?_)
  · exact absurd c154 (by decide)
  refine Gl.iconst Y149 (v := (1 : Int32)) (by decide) dK_157 rfl ?_
  refine Gl.goto Y149 dK_158 (by decide) rfl ?_
  refine Gl.iloadN Y149 rfl dK_162 rfl ?_
  refine Gl.icmpeq Y149 dK_163 (by decide) rfl rfl (fun c163 => ?_) (fun c163 => ?_)
  · exact absurd c163 (by decide)
  refine Gl.iconst Y149 (v := (1 : Int32)) (by decide) dK_166 rfl ?_
  refine Gl.goto Y149 dK_167 (by decide) rfl ?_
  refine Gl.istore Y149 (L' := #[.val (.ref o0), .val (.ref o1), .val (.ref b1729), .val (.int 0), .val (.int 1), .val (.long 1), .second, .val (.int 1), .val (.long 0), .second]) rfl dK_171 rfl ?_
  refine Gl.aloadN Y149 rfl rfl dK_173 rfl ?_
  refine Gl.callP Y149 (tw_41 hw) (tw_42 hw) (tw_43 hw) (tw_2 hw) (tw_3 hw) (tw_44 hw) (by decide) f14 (rm17 l Z a0 hw [] o0 o2 k_o2 (-9223372036854775808 : Int64) (-1 : Int64) (-1 : Int64) h141_3 n0 Y149.sz f14 f15 f16) (a := o0) (argsL := []) (rest := []) rfl rfl (lenOf pd_4 rfl) rfl (by decide) (Nat.le_of_ble_eq_true rfl) (by decide) (by decide) dK_174 rfl (fun v174 T174 h174 Y174 q174 => ?_)
  obtain ⟨rfl, rfl⟩ := q174
  show Gl p e below _ (T174.setTop (mkF m 177 _ [(.long (-1))]))
  refine Gl.lconst Y174 (v := (0 : Int64)) (by decide) dK_177 rfl ?_
  refine Gl.lcmpge Y174 dK_178 rfl dK_179 (by decide) rfl rfl (fun c179 => ?_) (fun c179 => ?_)
  · exact absurd c179 (by decide)
  refine Gl.aloadN Y174 rfl rfl dK_182 rfl ?_
  have f17 := (Fld.other W141_3 (Fld.other W141_2 (Fld.other W141 f29_3 (Or.inl (Nat.ne_of_lt (Nat.lt_of_lt_of_le E_o0.lt f29_0)))) (Or.inl (Nat.ne_of_lt (Nat.lt_of_lt_of_le E_o0.lt f29_0)))) (Or.inl (Nat.ne_of_lt (Nat.lt_of_lt_of_le E_o0.lt f29_0))))
  refine Gl.callV Y174 (tw_80 hw) (tw_81 hw) (tw_83 hw) (tw_83 hw) (tw_82 hw) (tw_3 hw) (tw_84 hw) (by decide) f14 (rmA98 l Z a0 hw [] o0 o2 b1729 k_o2 ck1729 h141_3 n0 Y174.sz f14 f15 f17 g_o0 f16 g_o2 A141_3 (Nat.le_trans Y29_sz f29_0) n_o0_o2 (Nat.ne_of_lt (Nat.lt_of_lt_of_le E_o0.lt f29_0)) (Nat.ne_of_lt (Nat.lt_of_lt_of_le V_o2.lt f29_0))) (a := o0) (argsL := []) (rest := []) rfl rfl (lenOf pd_7 rfl) rfl (by decide) (Nat.le_of_ble_eq_true rfl) (by decide) (by decide) dK_183 rfl (fun v183 T183 h183 Y183 q183 => ?_)
  obtain ⟨rfl, K183, f183_0, f183_1, f183_2, f183_3, f183_4⟩ := q183
  have KK183 : Keep h0 h183 [o0, o1, o2, o3] := K141_3.trans K183 (allS (Or.inl (List.mem_of_getElem? (i := 0) rfl)) (allS (Or.inl (List.mem_of_getElem? (i := 2) rfl)) (allS (Or.inr zb1729) all0)))
  show Gl p e below _ (T183.setTop (mkF m 186 _ [(.ref o0)]))
  refine Gl.pop Y183 rfl dK_186 rfl ?_
  refine Gl.iload Y183 rfl dK_187 rfl ?_
  refine Gl.iconst Y183 (v := (1 : Int32)) (by decide) dK_189 rfl ?_
  refine Gl.icmpne Y183 dK_190 (by decide) rfl rfl (fun c190 => ?_) (fun c190 => ?_)
  · exact absurd c190 (by decide)
  refine Gl.aloadN Y183 rfl rfl dK_193 rfl ?_
  refine Gl.aloadN Y183 rfl rfl dK_194 rfl ?_
  refine Gl.iconst Y183 (v := (0 : Int32)) (by decide) dK_195 rfl ?_
  refine Gl.laload Y183 f183_4 ⟨by decide, by decide⟩ (v := (.long 3)) rfl dK_196 rfl ?_
  refine Gl.callP Y183 (tw_86 hw) (tw_87 hw) (tw_88 hw) (tw_2 hw) (tw_3 hw) (tw_89 hw) (by decide) f183_0 (rmA99 l Z a0 hw [] o0 o2 b1729 k_o2 ck1729 h183 n0 Y183.sz f183_0 f183_1 f183_2 g_o0 f183_3 g_o2 f183_4 (Nat.le_trans Y29_sz f29_0) n_o0_o2 (Nat.ne_of_lt (Nat.lt_of_lt_of_le E_o0.lt f29_0)) (Nat.ne_of_lt (Nat.lt_of_lt_of_le V_o2.lt f29_0))) (a := o0) (argsL := [(.long 3)]) (rest := []) rfl rfl (lenOf pd_14 rfl) rfl (by decide) (Nat.le_of_ble_eq_true rfl) (by decide) (by decide) dK_197 rfl (fun v197 T197 h197 Y197 q197 => ?_)
  obtain ⟨rfl, K197, f197_0, f197_1, f197_2, f197_3, f197_4⟩ := q197
  have KK197 : Keep h0 h197 [o0, o1, o2, o3] := KK183.trans K197 (allS (Or.inl (List.mem_of_getElem? (i := 0) rfl)) (allS (Or.inl (List.mem_of_getElem? (i := 2) rfl)) (allS (Or.inr zb1729) all0)))
  show Gl p e below _ (T197.setTop (mkF m 200 _ [(.int 1)]))
  refine Gl.goto Y197 dK_200 (by decide) rfl ?_
  refine Gl.istore Y197 (L' := #[.val (.ref o0), .val (.ref o1), .val (.ref b1729), .val (.int 0), .val (.int 1), .val (.long 1), .second, .val (.int 1), .val (.int 1), .unset]) rfl dK_210 rfl ?_
  refine Gl.iload Y197 rfl dK_212 rfl ?_
  refine Gl.ifne Y197 dK_214 (by decide) rfl rfl (fun c214 => ?_) (fun c214 => ?_)
  rotate_left
  · exact absurd c214 (by decide)
  refine Gl.iload Y197 rfl dK_222 rfl ?_
  refine Gl.ifeq Y197 dK_224 (by decide) rfl rfl (fun c224 => ?_) (fun c224 => ?_)
  · exact absurd c224 (by decide)
  refine Gl.aloadN Y197 rfl rfl dK_227 rfl ?_
  refine Gl.callV Y197 (tw_80 hw) (tw_81 hw) (tw_83 hw) (tw_83 hw) (tw_82 hw) (tw_3 hw) (tw_84 hw) (by decide) f197_0 (rmA102 l Z a0 hw [] o0 o2 b1729 k_o2 ck1729 h197 n0 Y197.sz f197_0 f197_1 f197_2 g_o0 f197_3 g_o2 f197_4 (Nat.le_trans Y29_sz f29_0) n_o0_o2 (Nat.ne_of_lt (Nat.lt_of_lt_of_le E_o0.lt f29_0)) (Nat.ne_of_lt (Nat.lt_of_lt_of_le V_o2.lt f29_0))) (a := o0) (argsL := []) (rest := []) rfl rfl (lenOf pd_7 rfl) rfl (by decide) (Nat.le_of_ble_eq_true rfl) (by decide) (by decide) dK_228 rfl (fun v228 T228 h228 Y228 q228 => ?_)
  obtain ⟨rfl, K228, f228_0, f228_1, f228_2, f228_3, f228_4⟩ := q228
  have KK228 : Keep h0 h228 [o0, o1, o2, o3] := KK197.trans K228 (allS (Or.inl (List.mem_of_getElem? (i := 0) rfl)) (allS (Or.inl (List.mem_of_getElem? (i := 2) rfl)) (allS (Or.inr zb1729) all0)))
  show Gl p e below _ (T228.setTop (mkF m 231 _ [(.ref o0)]))
  refine Gl.goto Y228 dK_231 (by decide) rfl ?_
  have f18 := ((((Exa.wr W141_3 (Exa.wr W141_2 (Exa.wr W141 f1))).keep K183).keep K197).keep K228)
  have f19 := (((f12.keep K183 (ninS (Ne.symm n_o0_o1) (ninS n_o1_o2 (ninS (Nat.ne_of_lt (Nat.lt_of_lt_of_le E_o1.lt f29_0)) nin0)))).keep K197 (ninS (Ne.symm n_o0_o1) (ninS n_o1_o2 (ninS (Nat.ne_of_lt (Nat.lt_of_lt_of_le E_o1.lt f29_0)) nin0)))).keep K228 (ninS (Ne.symm n_o0_o1) (ninS n_o1_o2 (ninS (Nat.ne_of_lt (Nat.lt_of_lt_of_le E_o1.lt f29_0)) nin0))))
  have f20 := ((((Fld.other W141_3 (Fld.other W141_2 (Fld.other W141 (F_o1_work.keep K29 (ninS (Ne.symm n_o0_o1) (ninS n_o1_o2 nin0))) (Or.inl (Nat.ne_of_lt (Nat.lt_of_lt_of_le E_o1.lt f29_0)))) (Or.inl (Nat.ne_of_lt (Nat.lt_of_lt_of_le E_o1.lt f29_0)))) (Or.inl (Nat.ne_of_lt (Nat.lt_of_lt_of_le E_o1.lt f29_0)))).keep K183 (ninS (Ne.symm n_o0_o1) (ninS n_o1_o2 (ninS (Nat.ne_of_lt (Nat.lt_of_lt_of_le E_o1.lt f29_0)) nin0)))).keep K197 (ninS (Ne.symm n_o0_o1) (ninS n_o1_o2 (ninS (Nat.ne_of_lt (Nat.lt_of_lt_of_le E_o1.lt f29_0)) nin0)))).keep K228 (ninS (Ne.symm n_o0_o1) (ninS n_o1_o2 (ninS (Nat.ne_of_lt (Nat.lt_of_lt_of_le E_o1.lt f29_0)) nin0))))
  have f21 := (((f13.keep K183 (ninS (Ne.symm n_o0_o3) (ninS (Ne.symm n_o2_o3) (ninS (Nat.ne_of_lt (Nat.lt_of_lt_of_le V_o3.lt f29_0)) nin0)))).keep K197 (ninS (Ne.symm n_o0_o3) (ninS (Ne.symm n_o2_o3) (ninS (Nat.ne_of_lt (Nat.lt_of_lt_of_le V_o3.lt f29_0)) nin0)))).keep K228 (ninS (Ne.symm n_o0_o3) (ninS (Ne.symm n_o2_o3) (ninS (Nat.ne_of_lt (Nat.lt_of_lt_of_le V_o3.lt f29_0)) nin0))))
  exact Gl.retA Y228 (by decide) (by decide) rfl rfl dK_235 ⟨b1729, ck1729, rfl, KK228, zb1729, f228_0, f18, f228_1, f228_2, f19, f20, f228_4, f228_3, f21⟩
def RA104 : Room := { frames := 1, cells := 0, slots := 0, locals := 12 }
def QA104 (Z : State) (o0 : Addr) (o1 : Addr) (o2 : Addr) (k_o1 : ClassId) (k_o2 : ClassId) (h0 : Heap) (v : Option Value) (h : Heap) : Prop := v = some (.int 0) ∧ h0 = h
theorem efA104 (o0 : Addr) (m : MethodId) : entryFrame m #[(.ref o0)] 1 = mkF m 0 #[.val (.ref o0)] [] := by first | (simp [entryFrame, mkF, argsToLocals, Value.category]; done) | rfl
theorem rmA104 (l : Launch) (Z : State) (a0 : Array Value) (hw : HW a0 Z) (ws : List Jvm.Cond) (o0 : Addr) (o1 : Addr) (o2 : Addr) (k_o1 : ClassId) (k_o2 : ClassId) (h0 : Heap) (n0 : Nat) (Z0 : n0 ≤ h0.size) (E_o0 : Exa Z h0 o0 kW) (F_o0_words : Fld Z h0 o0 kW "words" "[J" (.ref o1)) (F_o0_work : Fld Z h0 o0 kW "work" "[J" (.ref o2)) (g_o0 : n0 ≤ o0) (V_o1 : Arv Z h0 o1 k_o1 .long (3 : Int32) [(.long (-9223372036854775808)), (.long (-2)), (.long (-1))] (.long 0)) (g_o1 : n0 ≤ o1) (V_o2 : Arv Z h0 o2 k_o2 .long (8 : Int32) [(.long 3), (.long 0), (.long 0), (.long 0), (.long 0), (.long 0), (.long 0), (.long 0)] (.long 0)) (g_o2 : n0 ≤ o2) (n_o0_o1 : own_ne o0 o1) (n_o0_o2 : own_ne o0 o2) (n_o1_o2 : own_ne o1 o2) : OMet l Z ws (⟨"com/example/meterwise/meterwise/model/WholeNumber", "overflowed", "()Z"⟩ : MethodName) prog_137_method_8_code 1 (some .boolean) RA104 #[(.ref o0)] h0 n0 (QA104 Z o0 o1 o2 k_o1 k_o2 h0) := by
  refine OMet.of (own := "com/example/meterwise/meterwise/model/WholeNumber") rfl (plainFor_of_name pn_0) (efA104 o0) Z0 ?_
  intro p e s m below meth c T0 Y0 hnm
  refine Gl.aloadN Y0 rfl rfl dI_0 rfl ?_
  refine Gl.callP Y0 (tw_41 hw) (tw_42 hw) (tw_43 hw) (tw_2 hw) (tw_3 hw) (tw_44 hw) (by decide) E_o0 (rm17 l Z a0 hw [] o0 o1 k_o1 (-9223372036854775808 : Int64) (-2 : Int64) (-1 : Int64) h0 n0 Y0.sz E_o0 F_o0_words V_o1) (a := o0) (argsL := []) (rest := []) rfl rfl (lenOf pd_4 rfl) rfl (by decide) (Nat.le_of_ble_eq_true rfl) (by decide) (by decide) dI_1 rfl (fun v1 T1 h1 Y1 q1 => ?_)
  obtain ⟨rfl, rfl⟩ := q1
  show Gl p e below _ (T1.setTop (mkF m 4 _ [(.long (-1))]))
  refine Gl.ldcJ Y1 (tw_45 hw) dI_4 rfl ?_
  refine Gl.lcmpne Y1 dI_7 rfl dI_8 (by decide) rfl rfl (fun c8 => ?_) (fun c8 => ?_)
  rotate_left
  · exact absurd c8 (by decide)
  refine Gl.iconst Y1 (v := (0 : Int32)) (by decide) dI_22 rfl ?_
  exact Gl.retZ Y1 (by decide) (by decide) (x' := (0 : Int32)) (by decide) dI_23 ⟨rfl, rfl⟩
def RA105 : Room := { frames := 1, cells := 0, slots := 0, locals := 12 }
def QA105 (Z : State) (o0 : Addr) (o1 : Addr) (k_o1 : ClassId) (h0 : Heap) (v : Option Value) (h : Heap) : Prop := v = some (.int 0) ∧ h0 = h
theorem efA105 (o0 : Addr) (m : MethodId) : entryFrame m #[(.ref o0)] 1 = mkF m 0 #[.val (.ref o0)] [] := by first | (simp [entryFrame, mkF, argsToLocals, Value.category]; done) | rfl
theorem rmA105 (l : Launch) (Z : State) (a0 : Array Value) (hw : HW a0 Z) (ws : List Jvm.Cond) (o0 : Addr) (o1 : Addr) (k_o1 : ClassId) (h0 : Heap) (n0 : Nat) (Z0 : n0 ≤ h0.size) (E_o0 : Exa Z h0 o0 kW) (F_o0_words : Fld Z h0 o0 kW "words" "[J" (.ref o1)) (F_o0_work : Fld Z h0 o0 kW "work" "[J" .null) (g_o0 : n0 ≤ o0) (V_o1 : Arv Z h0 o1 k_o1 .long (3 : Int32) [(.long 6148914691236517205), (.long 0), (.long 0)] (.long 0)) (g_o1 : n0 ≤ o1) (n_o0_o1 : own_ne o0 o1) : OMet l Z ws (⟨"com/example/meterwise/meterwise/model/WholeNumber", "overflowed", "()Z"⟩ : MethodName) prog_137_method_8_code 1 (some .boolean) RA105 #[(.ref o0)] h0 n0 (QA105 Z o0 o1 k_o1 h0) := by
  refine OMet.of (own := "com/example/meterwise/meterwise/model/WholeNumber") rfl (plainFor_of_name pn_0) (efA105 o0) Z0 ?_
  intro p e s m below meth c T0 Y0 hnm
  refine Gl.aloadN Y0 rfl rfl dI_0 rfl ?_
  refine Gl.callP Y0 (tw_41 hw) (tw_42 hw) (tw_43 hw) (tw_2 hw) (tw_3 hw) (tw_44 hw) (by decide) E_o0 (rm17 l Z a0 hw [] o0 o1 k_o1 (6148914691236517205 : Int64) (0 : Int64) (0 : Int64) h0 n0 Y0.sz E_o0 F_o0_words V_o1) (a := o0) (argsL := []) (rest := []) rfl rfl (lenOf pd_4 rfl) rfl (by decide) (Nat.le_of_ble_eq_true rfl) (by decide) (by decide) dI_1 rfl (fun v1 T1 h1 Y1 q1 => ?_)
  obtain ⟨rfl, rfl⟩ := q1
  show Gl p e below _ (T1.setTop (mkF m 4 _ [(.long 0)]))
  refine Gl.ldcJ Y1 (tw_45 hw) dI_4 rfl ?_
  refine Gl.lcmpne Y1 dI_7 rfl dI_8 (by decide) rfl rfl (fun c8 => ?_) (fun c8 => ?_)
  rotate_left
  · exact absurd c8 (by decide)
  refine Gl.iconst Y1 (v := (0 : Int32)) (by decide) dI_22 rfl ?_
  exact Gl.retZ Y1 (by decide) (by decide) (x' := (0 : Int32)) (by decide) dI_23 ⟨rfl, rfl⟩
def RA106 : Room := { frames := 1, cells := 0, slots := 0, locals := 12 }
def QA106 (Z : State) (o0 : Addr) (o1 : Addr) (o2 : Addr) (k_o1 : ClassId) (k_o2 : ClassId) (h0 : Heap) (v : Option Value) (h : Heap) : Prop := v = some (.int (-1)) ∧ h0 = h
theorem efA106 (o0 : Addr) (m : MethodId) : entryFrame m #[(.ref o0)] 3 = mkF m 0 #[.val (.ref o0), .unset, .unset] [] := by first | (simp [entryFrame, mkF, argsToLocals, Value.category]; done) | rfl
theorem rmA106 (l : Launch) (Z : State) (a0 : Array Value) (hw : HW a0 Z) (ws : List Jvm.Cond) (o0 : Addr) (o1 : Addr) (o2 : Addr) (k_o1 : ClassId) (k_o2 : ClassId) (h0 : Heap) (n0 : Nat) (Z0 : n0 ≤ h0.size) (E_o0 : Exa Z h0 o0 kW) (F_o0_words : Fld Z h0 o0 kW "words" "[J" (.ref o1)) (F_o0_work : Fld Z h0 o0 kW "work" "[J" (.ref o2)) (g_o0 : n0 ≤ o0) (V_o1 : Arv Z h0 o1 k_o1 .long (3 : Int32) [(.long (-9223372036854775808)), (.long (-2)), (.long (-1))] (.long 0)) (g_o1 : n0 ≤ o1) (V_o2 : Arv Z h0 o2 k_o2 .long (8 : Int32) [(.long 3), (.long 0), (.long 0), (.long 0), (.long 0), (.long 0), (.long 0), (.long 0)] (.long 0)) (g_o2 : n0 ≤ o2) (n_o0_o1 : own_ne o0 o1) (n_o0_o2 : own_ne o0 o2) (n_o1_o2 : own_ne o1 o2) : OMet l Z ws (⟨"com/example/meterwise/meterwise/model/WholeNumber", "signum", "()I"⟩ : MethodName) prog_137_method_9_code 3 (some .int) RA106 #[(.ref o0)] h0 n0 (QA106 Z o0 o1 o2 k_o1 k_o2 h0) := by
  refine OMet.of (own := "com/example/meterwise/meterwise/model/WholeNumber") rfl (plainFor_of_name pn_0) (efA106 o0) Z0 ?_
  intro p e s m below meth c T0 Y0 hnm
  refine Gl.aloadN Y0 rfl rfl dN_0 rfl ?_
  refine Gl.callP Y0 (tw_41 hw) (tw_42 hw) (tw_43 hw) (tw_2 hw) (tw_3 hw) (tw_44 hw) (by decide) E_o0 (rm17 l Z a0 hw [] o0 o1 k_o1 (-9223372036854775808 : Int64) (-2 : Int64) (-1 : Int64) h0 n0 Y0.sz E_o0 F_o0_words V_o1) (a := o0) (argsL := []) (rest := []) rfl rfl (lenOf pd_4 rfl) rfl (by decide) (Nat.le_of_ble_eq_true rfl) (by decide) (by decide) dN_1 rfl (fun v1 T1 h1 Y1 q1 => ?_)
  obtain ⟨rfl, rfl⟩ := q1
  show Gl p e below _ (T1.setTop (mkF m 4 _ [(.long (-1))]))
  refine Gl.lstoreN Y1 (L' := #[.val (.ref o0), .val (.long (-1)), .second]) rfl dN_4 rfl ?_
  refine Gl.lloadN Y1 rfl dN_5 rfl ?_
  refine Gl.lconst Y1 (v := (0 : Int64)) (by decide) dN_6 rfl ?_
  refine Gl.lcmpge Y1 dN_7 rfl dN_8 (by decide) rfl rfl (fun c8 => ?_) (fun c8 => ?_)
  · exact absurd c8 (by decide)
  refine Gl.iconst Y1 (v := (-1 : Int32)) (by decide) dN_11 rfl ?_
  exact Gl.retI Y1 (by decide) (by decide)  dN_12 ⟨rfl, rfl⟩
def RA107 : Room := { frames := 0, cells := 0, slots := 0, locals := 0 }
def QA107 (Z : State) (o0 : Addr) (o1 : Addr) (o2 : Addr) (k_o1 : ClassId) (k_o2 : ClassId) (h0 : Heap) (v : Option Value) (h : Heap) : Prop := v = some (.ref o2) ∧ h0 = h
theorem efA107 (o0 : Addr) (m : MethodId) : entryFrame m #[(.ref o0)] 1 = mkF m 0 #[.val (.ref o0)] [] := by first | (simp [entryFrame, mkF, argsToLocals, Value.category]; done) | rfl
theorem rmA107 (l : Launch) (Z : State) (a0 : Array Value) (hw : HW a0 Z) (ws : List Jvm.Cond) (o0 : Addr) (o1 : Addr) (o2 : Addr) (k_o1 : ClassId) (k_o2 : ClassId) (h0 : Heap) (n0 : Nat) (Z0 : n0 ≤ h0.size) (E_o0 : Exa Z h0 o0 kW) (F_o0_words : Fld Z h0 o0 kW "words" "[J" (.ref o1)) (F_o0_work : Fld Z h0 o0 kW "work" "[J" (.ref o2)) (g_o0 : n0 ≤ o0) (V_o1 : Arv Z h0 o1 k_o1 .long (3 : Int32) [(.long (-9223372036854775808)), (.long (-2)), (.long (-1))] (.long 0)) (g_o1 : n0 ≤ o1) (V_o2 : Arv Z h0 o2 k_o2 .long (8 : Int32) [(.long 3), (.long 0), (.long 0), (.long 0), (.long 0), (.long 0), (.long 0), (.long 0)] (.long 0)) (g_o2 : n0 ≤ o2) (n_o0_o1 : own_ne o0 o1) (n_o0_o2 : own_ne o0 o2) (n_o1_o2 : own_ne o1 o2) : OMet l Z ws (⟨"com/example/meterwise/meterwise/model/WholeNumber", "work", "()[J"⟩ : MethodName) prog_137_method_33_code 1 (some (.array .long)) RA107 #[(.ref o0)] h0 n0 (QA107 Z o0 o1 o2 k_o1 k_o2 h0) := by
  refine OMet.of (own := "com/example/meterwise/meterwise/model/WholeNumber") rfl (plainFor_of_name pn_0) (efA107 o0) Z0 ?_
  intro p e s m below meth c T0 Y0 hnm
  refine Gl.aloadN Y0 rfl rfl dO_0 rfl ?_
  refine Gl.getF Y0 (host := "") (Or.inl (tw_78 hw)) Via.refl F_o0_work dO_1 rfl (fun T1 Y1 => ?_)
  refine Gl.ifnonnullY Y1 dO_4 (by decide) rfl ?_
  refine Gl.aloadN Y1 rfl rfl dO_22 rfl ?_
  refine Gl.getF Y1 (host := "") (Or.inl (tw_78 hw)) Via.refl F_o0_work dO_23 rfl (fun T23 Y23 => ?_)
  exact Gl.retA Y23 (by decide) (by decide) rfl rfl dO_26 ⟨rfl, rfl⟩
def RA108 : Room := { frames := 0, cells := 0, slots := 0, locals := 0 }
def QA108 (Z : State) (o0 : Addr) (o1 : Addr) (o2 : Addr) (k_o1 : ClassId) (k_o2 : ClassId) (h0 : Heap) (v : Option Value) (h : Heap) : Prop := v = some (.ref o0) ∧ Keep h0 h [o0, o1, o2] ∧ Exa Z h o0 kW ∧ Fld Z h o0 kW "words" "[J" (.ref o1) ∧ Fld Z h o0 kW "work" "[J" (.ref o2) ∧ Arv Z h o1 k_o1 .long (3 : Int32) [(.long (-9223372036854775808)), (.long 1), (.long 0)] (.long 0) ∧ Arv Z h o2 k_o2 .long (8 : Int32) [(.long 6148914691236517205), (.long 0), (.long 0), (.long 0), (.long 0), (.long 0), (.long 0), (.long 0)] (.long 0)
theorem efA108 (o0 : Addr) (m : MethodId) : entryFrame m #[(.ref o0)] 4 = mkF m 0 #[.val (.ref o0), .unset, .unset, .unset] [] := by first | (simp [entryFrame, mkF, argsToLocals, Value.category]; done) | rfl
theorem rmA108 (l : Launch) (Z : State) (a0 : Array Value) (hw : HW a0 Z) (ws : List Jvm.Cond) (o0 : Addr) (o1 : Addr) (o2 : Addr) (k_o1 : ClassId) (k_o2 : ClassId) (h0 : Heap) (n0 : Nat) (Z0 : n0 ≤ h0.size) (E_o0 : Exa Z h0 o0 kW) (F_o0_words : Fld Z h0 o0 kW "words" "[J" (.ref o1)) (F_o0_work : Fld Z h0 o0 kW "work" "[J" (.ref o2)) (g_o0 : n0 ≤ o0) (V_o1 : Arv Z h0 o1 k_o1 .long (3 : Int32) [(.long (-9223372036854775808)), (.long (-2)), (.long (-1))] (.long 0)) (g_o1 : n0 ≤ o1) (V_o2 : Arv Z h0 o2 k_o2 .long (8 : Int32) [(.long 6148914691236517205), (.long 0), (.long 0), (.long 0), (.long 0), (.long 0), (.long 0), (.long 0)] (.long 0)) (g_o2 : n0 ≤ o2) (n_o0_o1 : own_ne o0 o1) (n_o0_o2 : own_ne o0 o2) (n_o1_o2 : own_ne o1 o2) : OMet l Z ws (⟨"com/example/meterwise/meterwise/model/WholeNumber", "negate", "()Lcom/example/meterwise/meterwise/model/WholeNumber;"⟩ : MethodName) prog_137_method_19_code 4 (some (.object "com/example/meterwise/meterwise/model/WholeNumber")) RA108 #[(.ref o0)] h0 n0 (QA108 Z o0 o1 o2 k_o1 k_o2 h0) := by
  refine OMet.of (own := "com/example/meterwise/meterwise/model/WholeNumber") rfl (plainFor_of_name pn_0) (efA108 o0) Z0 ?_
  intro p e s m below meth c T0 Y0 hnm
  refine Gl.lconst Y0 (v := (1 : Int64)) (by decide) dP_0 rfl ?_
  refine Gl.lstoreN Y0 (L' := #[.val (.ref o0), .val (.long 1), .second, .unset]) rfl dP_1 rfl ?_
  refine Gl.iconst Y0 (v := (0 : Int32)) (by decide) dP_2 rfl ?_
  refine Gl.istoreN Y0 (L' := #[.val (.ref o0), .val (.long 1), .second, .val (.int 0)]) rfl dP_3 rfl ?_
  refine Gl.iloadN Y0 rfl dP_4 rfl ?_
  refine Gl.aloadN Y0 rfl rfl dP_5 rfl ?_
  refine Gl.getF Y0 (host := "") (Or.inl (tw_15 hw)) Via.refl F_o0_words dP_6 rfl (fun T6 Y6 => ?_)
  refine Gl.arraylength Y6 V_o1 dP_9 rfl ?_
  refine Gl.icmpge Y6 dP_10 (by decide) rfl rfl (fun c10 => ?_) (fun c10 => ?_)
  · exact absurd c10 (by decide)
  refine Gl.aloadN Y6 rfl rfl dP_13 rfl ?_
  refine Gl.getF Y6 (host := "") (Or.inl (tw_15 hw)) Via.refl F_o0_words dP_14 rfl (fun T14 Y14 => ?_)
  refine Gl.iloadN Y14 rfl dP_17 rfl ?_
  refine Gl.aloadN Y14 rfl rfl dP_18 rfl ?_
  refine Gl.getF Y14 (host := "") (Or.inl (tw_15 hw)) Via.refl F_o0_words dP_19 rfl (fun T19 Y19 => ?_)
  refine Gl.iloadN Y19 rfl dP_22 rfl ?_
  refine Gl.laload Y19 V_o1 ⟨by decide, by decide⟩ (v := (.long (-9223372036854775808))) rfl dP_23 rfl ?_
  refine Gl.ldcJ Y19 (tw_85 hw) dP_24 rfl ?_
  refine Gl.lxor Y19 (r := (9223372036854775807 : Int64)) (by decide) dP_27 rfl ?_
  refine Gl.lloadN Y19 rfl dP_28 rfl ?_
  refine Gl.ladd Y19 (r := (-9223372036854775808 : Int64)) (by decide) dP_29 rfl ?_
  refine Gl.lastore Y19 V_o1 (v := (.long (-9223372036854775808))) rfl ⟨by decide, by decide⟩ (ix := 0) rfl (Nat.le_of_ble_eq_true rfl) g_o1 dP_30 rfl (fun T30 h30 Y30 W30 A30 => ?_)
  have A30 : Arv Z h30 o1 k_o1 .long (3 : Int32) [(.long (-9223372036854775808)), (.long (-2)), (.long (-1))] (.long 0) := A30
  have K30 : Keep h0 h30 [o0, o1, o2] := (Keep.refl h0 [o0, o1, o2]).wr W30 (Or.inl (List.mem_of_getElem? (i := 1) rfl))
  show Gl p e below _ (T30.setTop (mkF m 31 _ []))
  refine Gl.lloadN Y30 rfl dP_31 rfl ?_
  refine Gl.aloadN Y30 rfl rfl dP_32 rfl ?_
  have f1 := (Fld.other W30 F_o0_words (Or.inl n_o0_o1))
  refine Gl.getF Y30 (host := "") (Or.inl (tw_15 hw)) Via.refl f1 dP_33 rfl (fun T33 Y33 => ?_)
  refine Gl.iloadN Y33 rfl dP_36 rfl ?_
  refine Gl.laload Y33 A30 ⟨by decide, by decide⟩ (v := (.long (-9223372036854775808))) rfl dP_37 rfl ?_
  refine Gl.lconst Y33 (v := (0 : Int64)) (by decide) dP_38 rfl ?_
  refine Gl.lcmpne Y33 dP_39 rfl dP_40 (by decide) rfl rfl (fun c40 => ?_) (fun c40 => ?_)
  rotate_left
  · exact absurd c40 (by decide)
  refine Gl.lconst Y33 (v := (0 : Int64)) (by decide) dP_47 rfl ?_
  refine Gl.land Y33 (r := (0 : Int64)) (by decide) dP_48 rfl ?_
  refine Gl.lstoreN Y33 (L' := #[.val (.ref o0), .val (.long 0), .second, .val (.int 0)]) rfl dP_49 rfl ?_
  refine Gl.iinc Y33 rfl (r := (1 : Int32)) (by decide) (L' := #[.val (.ref o0), .val (.long 0), .second, .val (.int 1)]) rfl dP_50 rfl ?_
  refine Gl.goto Y33 dP_53 (by decide) rfl ?_
  refine Gl.iloadN Y33 rfl dP_4 rfl ?_
  refine Gl.aloadN Y33 rfl rfl dP_5 rfl ?_
  refine Gl.getF Y33 (host := "") (Or.inl (tw_15 hw)) Via.refl f1 dP_6 rfl (fun T6_2 Y6_2 => ?_)
  refine Gl.arraylength Y6_2 A30 dP_9 rfl ?_
  refine Gl.icmpge Y6_2 dP_10 (by decide) rfl rfl (fun c10_2 => ?_) (fun c10_2 => ?_)
  · exact absurd c10_2 (by decide)
  refine Gl.aloadN Y6_2 rfl rfl dP_13 rfl ?_
  refine Gl.getF Y6_2 (host := "") (Or.inl (tw_15 hw)) Via.refl f1 dP_14 rfl (fun T14_2 Y14_2 => ?_)
  refine Gl.iloadN Y14_2 rfl dP_17 rfl ?_
  refine Gl.aloadN Y14_2 rfl rfl dP_18 rfl ?_
  refine Gl.getF Y14_2 (host := "") (Or.inl (tw_15 hw)) Via.refl f1 dP_19 rfl (fun T19_2 Y19_2 => ?_)
  refine Gl.iloadN Y19_2 rfl dP_22 rfl ?_
  refine Gl.laload Y19_2 A30 ⟨by decide, by decide⟩ (v := (.long (-2))) rfl dP_23 rfl ?_
  refine Gl.ldcJ Y19_2 (tw_85 hw) dP_24 rfl ?_
  refine Gl.lxor Y19_2 (r := (1 : Int64)) (by decide) dP_27 rfl ?_
  refine Gl.lloadN Y19_2 rfl dP_28 rfl ?_
  refine Gl.ladd Y19_2 (r := (1 : Int64)) (by decide) dP_29 rfl ?_
  refine Gl.lastore Y19_2 A30 (v := (.long 1)) rfl ⟨by decide, by decide⟩ (ix := 1) rfl (Nat.le_of_ble_eq_true rfl) g_o1 dP_30 rfl (fun T30_2 h30_2 Y30_2 W30_2 A30_2 => ?_)
  have A30_2 : Arv Z h30_2 o1 k_o1 .long (3 : Int32) [(.long (-9223372036854775808)), (.long 1), (.long (-1))] (.long 0) := A30_2
  have K30_2 : Keep h0 h30_2 [o0, o1, o2] := K30.wr W30_2 (Or.inl (List.mem_of_getElem? (i := 1) rfl))
  show Gl p e below _ (T30_2.setTop (mkF m 31 _ []))
  refine Gl.lloadN Y30_2 rfl dP_31 rfl ?_
  refine Gl.aloadN Y30_2 rfl rfl dP_32 rfl ?_
  have f2 := (Fld.other W30_2 f1 (Or.inl n_o0_o1))
  refine Gl.getF Y30_2 (host := "") (Or.inl (tw_15 hw)) Via.refl f2 dP_33 rfl (fun T33_2 Y33_2 => ?_)
  refine Gl.iloadN Y33_2 rfl dP_36 rfl ?_
  refine Gl.laload Y33_2 A30_2 ⟨by decide, by decide⟩ (v := (.long 1)) rfl dP_37 rfl ?_
  refine Gl.lconst Y33_2 (v := (0 : Int64)) (by decide) dP_38 rfl ?_
  refine Gl.lcmpne Y33_2 dP_39 rfl dP_40 (by decide) rfl rfl (fun c40_2 => ?_) (fun c40_2 => ?_)
  rotate_left
  · exact absurd c40_2 (by decide)
  refine Gl.lconst Y33_2 (v := (0 : Int64)) (by decide) dP_47 rfl ?_
  refine Gl.land Y33_2 (r := (0 : Int64)) (by decide) dP_48 rfl ?_
  refine Gl.lstoreN Y33_2 (L' := #[.val (.ref o0), .val (.long 0), .second, .val (.int 1)]) rfl dP_49 rfl ?_
  refine Gl.iinc Y33_2 rfl (r := (2 : Int32)) (by decide) (L' := #[.val (.ref o0), .val (.long 0), .second, .val (.int 2)]) rfl dP_50 rfl ?_
  refine Gl.goto Y33_2 dP_53 (by decide) rfl ?_
  refine Gl.iloadN Y33_2 rfl dP_4 rfl ?_
  refine Gl.aloadN Y33_2 rfl rfl dP_5 rfl ?_
  refine Gl.getF Y33_2 (host := "") (Or.inl (tw_15 hw)) Via.refl f2 dP_6 rfl (fun T6_3 Y6_3 => ?_)
  refine Gl.arraylength Y6_3 A30_2 dP_9 rfl ?_
  refine Gl.icmpge Y6_3 dP_10 (by decide) rfl rfl (fun c10_3 => ?_) (fun c10_3 => ?_)
  · exact absurd c10_3 (by decide)
  refine Gl.aloadN Y6_3 rfl rfl dP_13 rfl ?_
  refine Gl.getF Y6_3 (host := "") (Or.inl (tw_15 hw)) Via.refl f2 dP_14 rfl (fun T14_3 Y14_3 => ?_)
  refine Gl.iloadN Y14_3 rfl dP_17 rfl ?_
  refine Gl.aloadN Y14_3 rfl rfl dP_18 rfl ?_
  refine Gl.getF Y14_3 (host := "") (Or.inl (tw_15 hw)) Via.refl f2 dP_19 rfl (fun T19_3 Y19_3 => ?_)
  refine Gl.iloadN Y19_3 rfl dP_22 rfl ?_
  refine Gl.laload Y19_3 A30_2 ⟨by decide, by decide⟩ (v := (.long (-1))) rfl dP_23 rfl ?_
  refine Gl.ldcJ Y19_3 (tw_85 hw) dP_24 rfl ?_
  refine Gl.lxor Y19_3 (r := (0 : Int64)) (by decide) dP_27 rfl ?_
  refine Gl.lloadN Y19_3 rfl dP_28 rfl ?_
  refine Gl.ladd Y19_3 (r := (0 : Int64)) (by decide) dP_29 rfl ?_
  refine Gl.lastore Y19_3 A30_2 (v := (.long 0)) rfl ⟨by decide, by decide⟩ (ix := 2) rfl (Nat.le_of_ble_eq_true rfl) g_o1 dP_30 rfl (fun T30_3 h30_3 Y30_3 W30_3 A30_3 => ?_)
  have A30_3 : Arv Z h30_3 o1 k_o1 .long (3 : Int32) [(.long (-9223372036854775808)), (.long 1), (.long 0)] (.long 0) := A30_3
  have K30_3 : Keep h0 h30_3 [o0, o1, o2] := K30_2.wr W30_3 (Or.inl (List.mem_of_getElem? (i := 1) rfl))
  show Gl p e below _ (T30_3.setTop (mkF m 31 _ []))
  refine Gl.lloadN Y30_3 rfl dP_31 rfl ?_
  refine Gl.aloadN Y30_3 rfl rfl dP_32 rfl ?_
  have f3 := (Fld.other W30_3 f2 (Or.inl n_o0_o1))
  refine Gl.getF Y30_3 (host := "") (Or.inl (tw_15 hw)) Via.refl f3 dP_33 rfl (fun T33_3 Y33_3 => ?_)
  refine Gl.iloadN Y33_3 rfl dP_36 rfl ?_
  refine Gl.laload Y33_3 A30_3 ⟨by decide, by decide⟩ (v := (.long 0)) rfl dP_37 rfl ?_
  refine Gl.lconst Y33_3 (v := (0 : Int64)) (by decide) dP_38 rfl ?_
  refine Gl.lcmpne Y33_3 dP_39 rfl dP_40 (by decide) rfl rfl (fun c40_3 => ?_) (fun c40_3 => ?_)
  · exact absurd c40_3 (by decide)
  refine Gl.lconst Y33_3 (v := (1 : Int64)) (by decide) dP_43 rfl ?_
  refine Gl.goto Y33_3 dP_44 (by decide) rfl ?_
  refine Gl.land Y33_3 (r := (0 : Int64)) (by decide) dP_48 rfl ?_
  refine Gl.lstoreN Y33_3 (L' := #[.val (.ref o0), .val (.long 0), .second, .val (.int 2)]) rfl dP_49 rfl ?_
  refine Gl.iinc Y33_3 rfl (r := (3 : Int32)) (by decide) (L' := #[.val (.ref o0), .val (.long 0), .second, .val (.int 3)]) rfl dP_50 rfl ?_
  refine Gl.goto Y33_3 dP_53 (by decide) rfl ?_
  refine Gl.iloadN Y33_3 rfl dP_4 rfl ?_
  refine Gl.aloadN Y33_3 rfl rfl dP_5 rfl ?_
  refine Gl.getF Y33_3 (host := "") (Or.inl (tw_15 hw)) Via.refl f3 dP_6 rfl (fun T6_4 Y6_4 => ?_)
  refine Gl.arraylength Y6_4 A30_3 dP_9 rfl ?_
  refine Gl.icmpge Y6_4 dP_10 (by decide) rfl rfl (fun c10_4 => ?_) (fun c10_4 => ?_)
  rotate_left
  · exact absurd c10_4 (by decide)
  refine Gl.aloadN Y6_4 rfl rfl dP_56 rfl ?_
  have f4 := (Exa.wr W30_3 (Exa.wr W30_2 (Exa.wr W30 E_o0)))
  have f5 := (Fld.other W30_3 (Fld.other W30_2 (Fld.other W30 F_o0_work (Or.inl n_o0_o1)) (Or.inl n_o0_o1)) (Or.inl n_o0_o1))
  have f6 := (((V_o2.other W30 (Ne.symm n_o1_o2)).other W30_2 (Ne.symm n_o1_o2)).other W30_3 (Ne.symm n_o1_o2))
  exact Gl.retA Y6_4 (by decide) (by decide) rfl rfl dP_57 ⟨rfl, K30_3, f4, f3, f5, A30_3, f6⟩
def RA111 : Room := { frames := 0, cells := 0, slots := 0, locals := 0 }
def QA111 (Z : State) (h0 : Heap) (v : Option Value) (h : Heap) : Prop := v = some (.long 0) ∧ h0 = h
theorem efA111 (m : MethodId) : entryFrame m #[(.long 0), (.long 6148914691236517205)] 20 = mkF m 0 #[.val (.long 0), .second, .val (.long 6148914691236517205), .second, .unset, .unset, .unset, .unset, .unset, .unset, .unset, .unset, .unset, .unset, .unset, .unset, .unset, .unset, .unset, .unset] [] := by first | (simp [entryFrame, mkF, argsToLocals, Value.category]; done) | rfl
theorem rmA111 (l : Launch) (Z : State) (a0 : Array Value) (hw : HW a0 Z) (ws : List Jvm.Cond) (h0 : Heap) (n0 : Nat) (Z0 : n0 ≤ h0.size) : OMet l Z ws (⟨"java/lang/Math", "multiplyHigh", "(JJ)J"⟩ : MethodName) jdk_29_method_45_code 20 (some .long) RA111 #[(.long 0), (.long 6148914691236517205)] h0 n0 (QA111 Z h0) := by
  refine OMet.of (own := "java/lang/Math") rfl (Jvm.Free.JP.mathPlain rfl (by decide +kernel)) (efA111) Z0 ?_
  intro p e s m below meth c T0 Y0 hnm
  refine Gl.lloadN Y0 rfl dS_0 rfl ?_
  refine Gl.bipush Y0 (v := (32 : Int32)) (by decide) dS_1 rfl ?_
  refine Gl.lshr Y0 (r := (0 : Int64)) (by decide) dS_3 rfl ?_
  refine Gl.lstore Y0 (L' := #[.val (.long 0), .second, .val (.long 6148914691236517205), .second, .val (.long 0), .second, .unset, .unset, .unset, .unset, .unset, .unset, .unset, .unset, .unset, .unset, .unset, .unset, .unset, .unset]) rfl dS_4 rfl ?_
  refine Gl.lloadN Y0 rfl dS_6 rfl ?_
  refine Gl.ldcJ Y0 (tw_97 hw) dS_7 rfl ?_
  refine Gl.land Y0 (r := (0 : Int64)) (by decide) dS_10 rfl ?_
  refine Gl.lstore Y0 (L' := #[.val (.long 0), .second, .val (.long 6148914691236517205), .second, .val (.long 0), .second, .val (.long 0), .second, .unset, .unset, .unset, .unset, .unset, .unset, .unset, .unset, .unset, .unset, .unset, .unset]) rfl dS_11 rfl ?_
  refine Gl.lloadN Y0 rfl dS_13 rfl ?_
  refine Gl.bipush Y0 (v := (32 : Int32)) (by decide) dS_14 rfl ?_
  refine Gl.lshr Y0 (r := (1431655765 : Int64)) (by decide) dS_16 rfl ?_
  refine Gl.lstore Y0 (L' := #[.val (.long 0), .second, .val (.long 6148914691236517205), .second, .val (.long 0), .second, .val (.long 0), .second, .val (.long 1431655765), .second, .unset, .unset, .unset, .unset, .unset, .unset, .unset, .unset, .unset, .unset]) rfl dS_17 rfl ?_
  refine Gl.lloadN Y0 rfl dS_19 rfl ?_
  refine Gl.ldcJ Y0 (tw_97 hw) dS_20 rfl ?_
  refine Gl.land Y0 (r := (1431655765 : Int64)) (by decide) dS_23 rfl ?_
  refine Gl.lstore Y0 (L' := #[.val (.long 0), .second, .val (.long 6148914691236517205), .second, .val (.long 0), .second, .val (.long 0), .second, .val (.long 1431655765), .second, .val (.long 1431655765), .second, .unset, .unset, .unset, .unset, .unset, .unset, .unset, .unset]) rfl dS_24 rfl ?_
  refine Gl.lload Y0 rfl dS_26 rfl ?_
  refine Gl.lload Y0 rfl dS_28 rfl ?_
  refine Gl.lmul Y0 (r := (0 : Int64)) (by decide) dS_30 rfl ?_
  refine Gl.lstore Y0 (L' := #[.val (.long 0), .second, .val (.long 6148914691236517205), .second, .val (.long 0), .second, .val (.long 0), .second, .val (.long 1431655765), .second, .val (.long 1431655765), .second, .val (.long 0), .second, .unset, .unset, .unset, .unset, .unset, .unset]) rfl dS_31 rfl ?_
  refine Gl.lload Y0 rfl dS_33 rfl ?_
  refine Gl.lload Y0 rfl dS_35 rfl ?_
  refine Gl.lmul Y0 (r := (0 : Int64)) (by decide) dS_37 rfl ?_
  refine Gl.lload Y0 rfl dS_38 rfl ?_
  refine Gl.bipush Y0 (v := (32 : Int32)) (by decide) dS_40 rfl ?_
  refine Gl.lushr Y0 (r := (0 : Int64)) (by decide) dS_42 rfl ?_
  refine Gl.ladd Y0 (r := (0 : Int64)) (by decide) dS_43 rfl ?_
  refine Gl.lstore Y0 (L' := #[.val (.long 0), .second, .val (.long 6148914691236517205), .second, .val (.long 0), .second, .val (.long 0), .second, .val (.long 1431655765), .second, .val (.long 1431655765), .second, .val (.long 0), .second, .val (.long 0), .second, .unset, .unset, .unset, .unset]) rfl dS_44 rfl ?_
  refine Gl.lload Y0 rfl dS_46 rfl ?_
  refine Gl.ldcJ Y0 (tw_97 hw) dS_48 rfl ?_
  refine Gl.land Y0 (r := (0 : Int64)) (by decide) dS_51 rfl ?_
  refine Gl.lstore Y0 (L' := #[.val (.long 0), .second, .val (.long 6148914691236517205), .second, .val (.long 0), .second, .val (.long 0), .second, .val (.long 1431655765), .second, .val (.long 1431655765), .second, .val (.long 0), .second, .val (.long 0), .second, .val (.long 0), .second, .unset, .unset]) rfl dS_52 rfl ?_
  refine Gl.lload Y0 rfl dS_54 rfl ?_
  refine Gl.bipush Y0 (v := (32 : Int32)) (by decide) dS_56 rfl ?_
  refine Gl.lshr Y0 (r := (0 : Int64)) (by decide) dS_58 rfl ?_
  refine Gl.lstore Y0 (L' := #[.val (.long 0), .second, .val (.long 6148914691236517205), .second, .val (.long 0), .second, .val (.long 0), .second, .val (.long 1431655765), .second, .val (.long 1431655765), .second, .val (.long 0), .second, .val (.long 0), .second, .val (.long 0), .second, .val (.long 0), .second]) rfl dS_59 rfl ?_
  refine Gl.lload Y0 rfl dS_61 rfl ?_
  refine Gl.lload Y0 rfl dS_63 rfl ?_
  refine Gl.lload Y0 rfl dS_65 rfl ?_
  refine Gl.lmul Y0 (r := (0 : Int64)) (by decide) dS_67 rfl ?_
  refine Gl.ladd Y0 (r := (0 : Int64)) (by decide) dS_68 rfl ?_
  refine Gl.lstore Y0 (L' := #[.val (.long 0), .second, .val (.long 6148914691236517205), .second, .val (.long 0), .second, .val (.long 0), .second, .val (.long 1431655765), .second, .val (.long 1431655765), .second, .val (.long 0), .second, .val (.long 0), .second, .val (.long 0), .second, .val (.long 0), .second]) rfl dS_69 rfl ?_
  refine Gl.lload Y0 rfl dS_71 rfl ?_
  refine Gl.lload Y0 rfl dS_73 rfl ?_
  refine Gl.lmul Y0 (r := (0 : Int64)) (by decide) dS_75 rfl ?_
  refine Gl.lload Y0 rfl dS_76 rfl ?_
  refine Gl.ladd Y0 (r := (0 : Int64)) (by decide) dS_78 rfl ?_
  refine Gl.lload Y0 rfl dS_79 rfl ?_
  refine Gl.bipush Y0 (v := (32 : Int32)) (by decide) dS_81 rfl ?_
  refine Gl.lshr Y0 (r := (0 : Int64)) (by decide) dS_83 rfl ?_
  refine Gl.ladd Y0 (r := (0 : Int64)) (by decide) dS_84 rfl ?_
  exact Gl.retJ Y0 (by decide) (by decide)  dS_85 ⟨rfl, rfl⟩
def RA110 : Room := { frames := 1, cells := 0, slots := 0, locals := 31 }
def QA110 (Z : State) (h0 : Heap) (v : Option Value) (h : Heap) : Prop := v = some (.long 0) ∧ h0 = h
theorem efA110 (m : MethodId) : entryFrame m #[(.long 0), (.long 6148914691236517205)] 4 = mkF m 0 #[.val (.long 0), .second, .val (.long 6148914691236517205), .second] [] := by first | (simp [entryFrame, mkF, argsToLocals, Value.category]; done) | rfl
theorem rmA110 (l : Launch) (Z : State) (a0 : Array Value) (hw : HW a0 Z) (ws : List Jvm.Cond) (h0 : Heap) (n0 : Nat) (Z0 : n0 ≤ h0.size) : OMet l Z ws (⟨"com/example/meterwise/meterwise/model/WholeNumber", "unsignedMultiplyHigh", "(JJ)J"⟩ : MethodName) prog_137_method_34_code 4 (some .long) RA110 #[(.long 0), (.long 6148914691236517205)] h0 n0 (QA110 Z h0) := by
  refine OMet.of (own := "com/example/meterwise/meterwise/model/WholeNumber") rfl (plainFor_of_name pn_0) (efA110) Z0 ?_
  intro p e s m below meth c T0 Y0 hnm
  refine Gl.lloadN Y0 rfl dR_0 rfl ?_
  refine Gl.lloadN Y0 rfl dR_1 rfl ?_
  refine Gl.callS Y0 (tw_93 hw) (tw_94 hw) (tw_95 hw) (tw_96 hw) (by decide) (rmA111 l Z a0 hw [] h0 n0 Y0.sz) (argsL := [(.long 0), (.long 6148914691236517205)]) (rest := []) rfl rfl (lenOf pd_12 rfl) rfl (by decide) (Nat.le_of_ble_eq_true rfl) (by decide) (by decide) dR_2 rfl (fun v2 T2 h2 Y2 q2 => ?_)
  obtain ⟨rfl, rfl⟩ := q2
  show Gl p e below _ (T2.setTop (mkF m 5 _ [(.long 0)]))
  refine Gl.lloadN Y2 rfl dR_5 rfl ?_
  refine Gl.bipush Y2 (v := (63 : Int32)) (by decide) dR_6 rfl ?_
  refine Gl.lshr Y2 (r := (0 : Int64)) (by decide) dR_8 rfl ?_
  refine Gl.lloadN Y2 rfl dR_9 rfl ?_
  refine Gl.land Y2 (r := (0 : Int64)) (by decide) dR_10 rfl ?_
  refine Gl.ladd Y2 (r := (0 : Int64)) (by decide) dR_11 rfl ?_
  refine Gl.lloadN Y2 rfl dR_12 rfl ?_
  refine Gl.bipush Y2 (v := (63 : Int32)) (by decide) dR_13 rfl ?_
  refine Gl.lshr Y2 (r := (0 : Int64)) (by decide) dR_15 rfl ?_
  refine Gl.lloadN Y2 rfl dR_16 rfl ?_
  refine Gl.land Y2 (r := (0 : Int64)) (by decide) dR_17 rfl ?_
  refine Gl.ladd Y2 (r := (0 : Int64)) (by decide) dR_18 rfl ?_
  exact Gl.retJ Y2 (by decide) (by decide)  dR_19 ⟨rfl, rfl⟩
def RA109 : Room := { frames := 2, cells := 0, slots := 0, locals := 46 }
def QA109 (Z : State) (o0 : Addr) (o1 : Addr) (o2 : Addr) (k_o1 : ClassId) (k_o2 : ClassId) (h0 : Heap) (v : Option Value) (h : Heap) : Prop := v = some (.int 1) ∧ Keep h0 h [o0, o1, o2] ∧ Exa Z h o0 kW ∧ Fld Z h o0 kW "words" "[J" (.ref o1) ∧ Fld Z h o0 kW "work" "[J" (.ref o2) ∧ Arv Z h o1 k_o1 .long (3 : Int32) [(.long (-9223372036854775808)), (.long 9223372036854775807), (.long 0)] (.long 0) ∧ Arv Z h o2 k_o2 .long (8 : Int32) [(.long 6148914691236517205), (.long 0), (.long 0), (.long 0), (.long 0), (.long 0), (.long 0), (.long 0)] (.long 0)
theorem efA109 (o0 : Addr) (m : MethodId) : entryFrame m #[(.ref o0), (.long 6148914691236517205)] 12 = mkF m 0 #[.val (.ref o0), .val (.long 6148914691236517205), .second, .unset, .unset, .unset, .unset, .unset, .unset, .unset, .unset, .unset] [] := by first | (simp [entryFrame, mkF, argsToLocals, Value.category]; done) | rfl
theorem rmA109 (l : Launch) (Z : State) (a0 : Array Value) (hw : HW a0 Z) (ws : List Jvm.Cond) (o0 : Addr) (o1 : Addr) (o2 : Addr) (k_o1 : ClassId) (k_o2 : ClassId) (h0 : Heap) (n0 : Nat) (Z0 : n0 ≤ h0.size) (E_o0 : Exa Z h0 o0 kW) (F_o0_words : Fld Z h0 o0 kW "words" "[J" (.ref o1)) (F_o0_work : Fld Z h0 o0 kW "work" "[J" (.ref o2)) (g_o0 : n0 ≤ o0) (V_o1 : Arv Z h0 o1 k_o1 .long (3 : Int32) [(.long (-9223372036854775808)), (.long 1), (.long 0)] (.long 0)) (g_o1 : n0 ≤ o1) (V_o2 : Arv Z h0 o2 k_o2 .long (8 : Int32) [(.long 6148914691236517205), (.long 0), (.long 0), (.long 0), (.long 0), (.long 0), (.long 0), (.long 0)] (.long 0)) (g_o2 : n0 ≤ o2) (n_o0_o1 : own_ne o0 o1) (n_o0_o2 : own_ne o0 o2) (n_o1_o2 : own_ne o1 o2) : OMet l Z ws (⟨"com/example/meterwise/meterwise/model/WholeNumber", "multiplyMagnitude", "(J)Z"⟩ : MethodName) prog_137_method_18_code 12 (some .boolean) RA109 #[(.ref o0), (.long 6148914691236517205)] h0 n0 (QA109 Z o0 o1 o2 k_o1 k_o2 h0) := by
  refine OMet.of (own := "com/example/meterwise/meterwise/model/WholeNumber") rfl (plainFor_of_name pn_0) (efA109 o0) Z0 ?_
  intro p e s m below meth c T0 Y0 hnm
  refine Gl.lconst Y0 (v := (0 : Int64)) (by decide) dQ_0 rfl ?_
  refine Gl.lstoreN Y0 (L' := #[.val (.ref o0), .val (.long 6148914691236517205), .second, .val (.long 0), .second, .unset, .unset, .unset, .unset, .unset, .unset, .unset]) rfl dQ_1 rfl ?_
  refine Gl.iconst Y0 (v := (0 : Int32)) (by decide) dQ_2 rfl ?_
  refine Gl.istore Y0 (L' := #[.val (.ref o0), .val (.long 6148914691236517205), .second, .val (.long 0), .second, .val (.int 0), .unset, .unset, .unset, .unset, .unset, .unset]) rfl dQ_3 rfl ?_
  refine Gl.iload Y0 rfl dQ_5 rfl ?_
  refine Gl.aloadN Y0 rfl rfl dQ_7 rfl ?_
  refine Gl.getF Y0 (host := "") (Or.inl (tw_15 hw)) Via.refl F_o0_words dQ_8 rfl (fun T8 Y8 => ?_)
  refine Gl.arraylength Y8 V_o1 dQ_11 rfl ?_
  refine Gl.icmpge Y8 dQ_12 (by decide) rfl rfl (fun c12 => ?_) (fun c12 => ?_)
  · exact absurd c12 (by decide)
  refine Gl.aloadN Y8 rfl rfl dQ_15 rfl ?_
  refine Gl.getF Y8 (host := "") (Or.inl (tw_15 hw)) Via.refl F_o0_words dQ_16 rfl (fun T16 Y16 => ?_)
  refine Gl.iload Y16 rfl dQ_19 rfl ?_
  refine Gl.laload Y16 V_o1 ⟨by decide, by decide⟩ (v := (.long (-9223372036854775808))) rfl dQ_21 rfl ?_
  refine Gl.lloadN Y16 rfl dQ_22 rfl ?_
  refine Gl.lmul Y16 (r := (-9223372036854775808 : Int64)) (by decide) dQ_23 rfl ?_
  refine Gl.lstore Y16 (L' := #[.val (.ref o0), .val (.long 6148914691236517205), .second, .val (.long 0), .second, .val (.int 0), .val (.long (-9223372036854775808)), .second, .unset, .unset, .unset, .unset]) rfl dQ_24 rfl ?_
  refine Gl.aloadN Y16 rfl rfl dQ_26 rfl ?_
  refine Gl.getF Y16 (host := "") (Or.inl (tw_15 hw)) Via.refl F_o0_words dQ_27 rfl (fun T27 Y27 => ?_)
  refine Gl.iload Y27 rfl dQ_30 rfl ?_
  refine Gl.laload Y27 V_o1 ⟨by decide, by decide⟩ (v := (.long (-9223372036854775808))) rfl dQ_32 rfl ?_
  refine Gl.lloadN Y27 rfl dQ_33 rfl ?_
  refine Gl.callS Y27 (tw_90 hw) (tw_91 hw) (tw_3 hw) (tw_92 hw) (by decide) (rmA63 l Z a0 hw [] h0 n0 Y27.sz) (argsL := [(.long (-9223372036854775808)), (.long 6148914691236517205)]) (rest := []) rfl rfl (lenOf pd_12 rfl) rfl (by decide) (Nat.le_of_ble_eq_true rfl) (by decide) (by decide) dQ_34 rfl (fun v34 T34 h34 Y34 q34 => ?_)
  obtain ⟨rfl, rfl⟩ := q34
  show Gl p e below _ (T34.setTop (mkF m 37 _ [(.long 3074457345618258602)]))
  refine Gl.lstore Y34 (L' := #[.val (.ref o0), .val (.long 6148914691236517205), .second, .val (.long 0), .second, .val (.int 0), .val (.long (-9223372036854775808)), .second, .val (.long 3074457345618258602), .second, .unset, .unset]) rfl dQ_37 rfl ?_
  refine Gl.lload Y34 rfl dQ_39 rfl ?_
  refine Gl.lloadN Y34 rfl dQ_41 rfl ?_
  refine Gl.ladd Y34 (r := (-9223372036854775808 : Int64)) (by decide) dQ_42 rfl ?_
  refine Gl.lstore Y34 (L' := #[.val (.ref o0), .val (.long 6148914691236517205), .second, .val (.long 0), .second, .val (.int 0), .val (.long (-9223372036854775808)), .second, .val (.long 3074457345618258602), .second, .val (.long (-9223372036854775808)), .second]) rfl dQ_43 rfl ?_
  refine Gl.lload Y34 rfl dQ_45 rfl ?_
  refine Gl.lload Y34 rfl dQ_47 rfl ?_
  refine Gl.lload Y34 rfl dQ_49 rfl ?_
  refine Gl.callS Y34 (tw_98 hw) (tw_99 hw) (tw_100 hw) (tw_101 hw) (by decide) (rmA49 l Z a0 hw [] h0 n0 Y34.sz) (argsL := [(.long (-9223372036854775808)), (.long (-9223372036854775808))]) (rest := [(.long 3074457345618258602)]) rfl rfl (lenOf pd_13 rfl) rfl (by decide) (Nat.le_of_ble_eq_true rfl) (by decide) (by decide) dQ_51 rfl (fun v51 T51 h51 Y51 q51 => ?_)
  obtain ⟨rfl, rfl⟩ := q51
  show Gl p e below _ (T51.setTop (mkF m 54 _ [(.int 0), (.long 3074457345618258602)]))
  refine Gl.ifge Y51 dQ_54 (by decide) rfl rfl (fun c54 => ?_) (fun c54 => ?_)
  rotate_left
  · exact absurd c54 (by decide)
  refine Gl.lconst Y51 (v := (0 : Int64)) (by decide) dQ_61 rfl ?_
  refine Gl.ladd Y51 (r := (3074457345618258602 : Int64)) (by decide) dQ_62 rfl ?_
  refine Gl.lstore Y51 (L' := #[.val (.ref o0), .val (.long 6148914691236517205), .second, .val (.long 0), .second, .val (.int 0), .val (.long (-9223372036854775808)), .second, .val (.long 3074457345618258602), .second, .val (.long (-9223372036854775808)), .second]) rfl dQ_63 rfl ?_
  refine Gl.aloadN Y51 rfl rfl dQ_65 rfl ?_
  refine Gl.getF Y51 (host := "") (Or.inl (tw_15 hw)) Via.refl F_o0_words dQ_66 rfl (fun T66 Y66 => ?_)
  refine Gl.iload Y66 rfl dQ_69 rfl ?_
  refine Gl.lload Y66 rfl dQ_71 rfl ?_
  refine Gl.lastore Y66 V_o1 (v := (.long (-9223372036854775808))) rfl ⟨by decide, by decide⟩ (ix := 0) rfl (Nat.le_of_ble_eq_true rfl) g_o1 dQ_73 rfl (fun T73 h73 Y73 W73 A73 => ?_)
  have A73 : Arv Z h73 o1 k_o1 .long (3 : Int32) [(.long (-9223372036854775808)), (.long 1), (.long 0)] (.long 0) := A73
  have K73 : Keep h0 h73 [o0, o1, o2] := (Keep.refl h0 [o0, o1, o2]).wr W73 (Or.inl (List.mem_of_getElem? (i := 1) rfl))
  show Gl p e below _ (T73.setTop (mkF m 74 _ []))
  refine Gl.lload Y73 rfl dQ_74 rfl ?_
  refine Gl.lstoreN Y73 (L' := #[.val (.ref o0), .val (.long 6148914691236517205), .second, .val (.long 3074457345618258602), .second, .val (.int 0), .val (.long (-9223372036854775808)), .second, .val (.long 3074457345618258602), .second, .val (.long (-9223372036854775808)), .second]) rfl dQ_76 rfl ?_
  refine Gl.iinc Y73 rfl (r := (1 : Int32)) (by decide) (L' := #[.val (.ref o0), .val (.long 6148914691236517205), .second, .val (.long 3074457345618258602), .second, .val (.int 1), .val (.long (-9223372036854775808)), .second, .val (.long 3074457345618258602), .second, .val (.long (-9223372036854775808)), .second]) rfl dQ_77 rfl ?_
  refine Gl.goto Y73 dQ_80 (by decide) rfl ?_
  refine Gl.iload Y73 rfl dQ_5 rfl ?_
  refine Gl.aloadN Y73 rfl rfl dQ_7 rfl ?_
  have f1 := (Fld.other W73 F_o0_words (Or.inl n_o0_o1))
  refine Gl.getF Y73 (host := "") (Or.inl (tw_15 hw)) Via.refl f1 dQ_8 rfl (fun T8_2 Y8_2 => ?_)
  refine Gl.arraylength Y8_2 A73 dQ_11 rfl ?_
  refine Gl.icmpge Y8_2 dQ_12 (by decide) rfl rfl (fun c12_2 => ?_) (fun c12_2 => ?_)
  · exact absurd c12_2 (by decide)
  refine Gl.aloadN Y8_2 rfl rfl dQ_15 rfl ?_
  refine Gl.getF Y8_2 (host := "") (Or.inl (tw_15 hw)) Via.refl f1 dQ_16 rfl (fun T16_2 Y16_2 => ?_)
  refine Gl.iload Y16_2 rfl dQ_19 rfl ?_
  refine Gl.laload Y16_2 A73 ⟨by decide, by decide⟩ (v := (.long 1)) rfl dQ_21 rfl ?_
  refine Gl.lloadN Y16_2 rfl dQ_22 rfl ?_
  refine Gl.lmul Y16_2 (r := (6148914691236517205 : Int64)) (by decide) dQ_23 rfl ?_
  refine Gl.lstore Y16_2 (L' := #[.val (.ref o0), .val (.long 6148914691236517205), .second, .val (.long 3074457345618258602), .second, .val (.int 1), .val (.long 6148914691236517205), .second, .val (.long 3074457345618258602), .second, .val (.long (-9223372036854775808)), .second]) rfl dQ_24 rfl ?_
  refine Gl.aloadN Y16_2 rfl rfl dQ_26 rfl ?_
  refine Gl.getF Y16_2 (host := "") (Or.inl (tw_15 hw)) Via.refl f1 dQ_27 rfl (fun T27_2 Y27_2 => ?_)
  refine Gl.iload Y27_2 rfl dQ_30 rfl ?_
  refine Gl.laload Y27_2 A73 ⟨by decide, by decide⟩ (v := (.long 1)) rfl dQ_32 rfl ?_
  refine Gl.lloadN Y27_2 rfl dQ_33 rfl ?_
  refine Gl.callS Y27_2 (tw_90 hw) (tw_91 hw) (tw_3 hw) (tw_92 hw) (by decide) (rmA65 l Z a0 hw [] h73 n0 Y27_2.sz) (argsL := [(.long 1), (.long 6148914691236517205)]) (rest := []) rfl rfl (lenOf pd_12 rfl) rfl (by decide) (Nat.le_of_ble_eq_true rfl) (by decide) (by decide) dQ_34 rfl (fun v34_2 T34_2 h34_2 Y34_2 q34_2 => ?_)
  obtain ⟨rfl, rfl⟩ := q34_2
  show Gl p e below _ (T34_2.setTop (mkF m 37 _ [(.long 0)]))
  refine Gl.lstore Y34_2 (L' := #[.val (.ref o0), .val (.long 6148914691236517205), .second, .val (.long 3074457345618258602), .second, .val (.int 1), .val (.long 6148914691236517205), .second, .val (.long 0), .second, .val (.long (-9223372036854775808)), .second]) rfl dQ_37 rfl ?_
  refine Gl.lload Y34_2 rfl dQ_39 rfl ?_
  refine Gl.lloadN Y34_2 rfl dQ_41 rfl ?_
  refine Gl.ladd Y34_2 (r := (9223372036854775807 : Int64)) (by decide) dQ_42 rfl ?_
  refine Gl.lstore Y34_2 (L' := #[.val (.ref o0), .val (.long 6148914691236517205), .second, .val (.long 3074457345618258602), .second, .val (.int 1), .val (.long 6148914691236517205), .second, .val (.long 0), .second, .val (.long 9223372036854775807), .second]) rfl dQ_43 rfl ?_
  refine Gl.lload Y34_2 rfl dQ_45 rfl ?_
  refine Gl.lload Y34_2 rfl dQ_47 rfl ?_
  refine Gl.lload Y34_2 rfl dQ_49 rfl ?_
  refine Gl.callS Y34_2 (tw_98 hw) (tw_99 hw) (tw_100 hw) (tw_101 hw) (by decide) (rmA67 l Z a0 hw [] h73 n0 Y34_2.sz) (argsL := [(.long 9223372036854775807), (.long 6148914691236517205)]) (rest := [(.long 0)]) rfl rfl (lenOf pd_13 rfl) rfl (by decide) (Nat.le_of_ble_eq_true rfl) (by decide) (by decide) dQ_51 rfl (fun v51_2 T51_2 h51_2 Y51_2 q51_2 => ?_)
  obtain ⟨rfl, rfl⟩ := q51_2
  show Gl p e below _ (T51_2.setTop (mkF m 54 _ [(.int 1), (.long 0)]))
  refine Gl.ifge Y51_2 dQ_54 (by decide) rfl rfl (fun c54_2 => ?_) (fun c54_2 => ?_)
  rotate_left
  · exact absurd c54_2 (by decide)
  refine Gl.lconst Y51_2 (v := (0 : Int64)) (by decide) dQ_61 rfl ?_
  refine Gl.ladd Y51_2 (r := (0 : Int64)) (by decide) dQ_62 rfl ?_
  refine Gl.lstore Y51_2 (L' := #[.val (.ref o0), .val (.long 6148914691236517205), .second, .val (.long 3074457345618258602), .second, .val (.int 1), .val (.long 6148914691236517205), .second, .val (.long 0), .second, .val (.long 9223372036854775807), .second]) rfl dQ_63 rfl ?_
  refine Gl.aloadN Y51_2 rfl rfl dQ_65 rfl ?_
  refine Gl.getF Y51_2 (host := "") (Or.inl (tw_15 hw)) Via.refl f1 dQ_66 rfl (fun T66_2 Y66_2 => ?_)
  refine Gl.iload Y66_2 rfl dQ_69 rfl ?_
  refine Gl.lload Y66_2 rfl dQ_71 rfl ?_
  refine Gl.lastore Y66_2 A73 (v := (.long 9223372036854775807)) rfl ⟨by decide, by decide⟩ (ix := 1) rfl (Nat.le_of_ble_eq_true rfl) g_o1 dQ_73 rfl (fun T73_2 h73_2 Y73_2 W73_2 A73_2 => ?_)
  have A73_2 : Arv Z h73_2 o1 k_o1 .long (3 : Int32) [(.long (-9223372036854775808)), (.long 9223372036854775807), (.long 0)] (.long 0) := A73_2
  have K73_2 : Keep h0 h73_2 [o0, o1, o2] := K73.wr W73_2 (Or.inl (List.mem_of_getElem? (i := 1) rfl))
  show Gl p e below _ (T73_2.setTop (mkF m 74 _ []))
  refine Gl.lload Y73_2 rfl dQ_74 rfl ?_
  refine Gl.lstoreN Y73_2 (L' := #[.val (.ref o0), .val (.long 6148914691236517205), .second, .val (.long 0), .second, .val (.int 1), .val (.long 6148914691236517205), .second, .val (.long 0), .second, .val (.long 9223372036854775807), .second]) rfl dQ_76 rfl ?_
  refine Gl.iinc Y73_2 rfl (r := (2 : Int32)) (by decide) (L' := #[.val (.ref o0), .val (.long 6148914691236517205), .second, .val (.long 0), .second, .val (.int 2), .val (.long 6148914691236517205), .second, .val (.long 0), .second, .val (.long 9223372036854775807), .second]) rfl dQ_77 rfl ?_
  refine Gl.goto Y73_2 dQ_80 (by decide) rfl ?_
  refine Gl.iload Y73_2 rfl dQ_5 rfl ?_
  refine Gl.aloadN Y73_2 rfl rfl dQ_7 rfl ?_
  have f2 := (Fld.other W73_2 f1 (Or.inl n_o0_o1))
  refine Gl.getF Y73_2 (host := "") (Or.inl (tw_15 hw)) Via.refl f2 dQ_8 rfl (fun T8_3 Y8_3 => ?_)
  refine Gl.arraylength Y8_3 A73_2 dQ_11 rfl ?_
  refine Gl.icmpge Y8_3 dQ_12 (by decide) rfl rfl (fun c12_3 => ?_) (fun c12_3 => ?_)
  · exact absurd c12_3 (by decide)
  refine Gl.aloadN Y8_3 rfl rfl dQ_15 rfl ?_
  refine Gl.getF Y8_3 (host := "") (Or.inl (tw_15 hw)) Via.refl f2 dQ_16 rfl (fun T16_3 Y16_3 => ?_)
  refine Gl.iload Y16_3 rfl dQ_19 rfl ?_
  refine Gl.laload Y16_3 A73_2 ⟨by decide, by decide⟩ (v := (.long 0)) rfl dQ_21 rfl ?_
  refine Gl.lloadN Y16_3 rfl dQ_22 rfl ?_
  refine Gl.lmul Y16_3 (r := (0 : Int64)) (by decide) dQ_23 rfl ?_
  refine Gl.lstore Y16_3 (L' := #[.val (.ref o0), .val (.long 6148914691236517205), .second, .val (.long 0), .second, .val (.int 2), .val (.long 0), .second, .val (.long 0), .second, .val (.long 9223372036854775807), .second]) rfl dQ_24 rfl ?_
  refine Gl.aloadN Y16_3 rfl rfl dQ_26 rfl ?_
  refine Gl.getF Y16_3 (host := "") (Or.inl (tw_15 hw)) Via.refl f2 dQ_27 rfl (fun T27_3 Y27_3 => ?_)
  refine Gl.iload Y27_3 rfl dQ_30 rfl ?_
  refine Gl.laload Y27_3 A73_2 ⟨by decide, by decide⟩ (v := (.long 0)) rfl dQ_32 rfl ?_
  refine Gl.lloadN Y27_3 rfl dQ_33 rfl ?_
  refine Gl.callS Y27_3 (tw_90 hw) (tw_91 hw) (tw_3 hw) (tw_92 hw) (by decide) (rmA110 l Z a0 hw [] h73_2 n0 Y27_3.sz) (argsL := [(.long 0), (.long 6148914691236517205)]) (rest := []) rfl rfl (lenOf pd_12 rfl) rfl (by decide) (Nat.le_of_ble_eq_true rfl) (by decide) (by decide) dQ_34 rfl (fun v34_3 T34_3 h34_3 Y34_3 q34_3 => ?_)
  obtain ⟨rfl, rfl⟩ := q34_3
  show Gl p e below _ (T34_3.setTop (mkF m 37 _ [(.long 0)]))
  refine Gl.lstore Y34_3 (L' := #[.val (.ref o0), .val (.long 6148914691236517205), .second, .val (.long 0), .second, .val (.int 2), .val (.long 0), .second, .val (.long 0), .second, .val (.long 9223372036854775807), .second]) rfl dQ_37 rfl ?_
  refine Gl.lload Y34_3 rfl dQ_39 rfl ?_
  refine Gl.lloadN Y34_3 rfl dQ_41 rfl ?_
  refine Gl.ladd Y34_3 (r := (0 : Int64)) (by decide) dQ_42 rfl ?_
  refine Gl.lstore Y34_3 (L' := #[.val (.ref o0), .val (.long 6148914691236517205), .second, .val (.long 0), .second, .val (.int 2), .val (.long 0), .second, .val (.long 0), .second, .val (.long 0), .second]) rfl dQ_43 rfl ?_
  refine Gl.lload Y34_3 rfl dQ_45 rfl ?_
  refine Gl.lload Y34_3 rfl dQ_47 rfl ?_
  refine Gl.lload Y34_3 rfl dQ_49 rfl ?_
  refine Gl.callS Y34_3 (tw_98 hw) (tw_99 hw) (tw_100 hw) (tw_101 hw) (by decide) (rmA100 l Z a0 hw [] h73_2 n0 Y34_3.sz) (argsL := [(.long 0), (.long 0)]) (rest := [(.long 0)]) rfl rfl (lenOf pd_13 rfl) rfl (by decide) (Nat.le_of_ble_eq_true rfl) (by decide) (by decide) dQ_51 rfl (fun v51_3 T51_3 h51_3 Y51_3 q51_3 => ?_)
  obtain ⟨rfl, rfl⟩ := q51_3
  show Gl p e below _ (T51_3.setTop (mkF m 54 _ [(.int 0), (.long 0)]))
  refine Gl.ifge Y51_3 dQ_54 (by decide) rfl rfl (fun c54_3 => ?_) (fun c54_3 => ?_)
  rotate_left
  · exact absurd c54_3 (by decide)
  refine Gl.lconst Y51_3 (v := (0 : Int64)) (by decide) dQ_61 rfl ?_
  refine Gl.ladd Y51_3 (r := (0 : Int64)) (by decide) dQ_62 rfl ?_
  refine Gl.lstore Y51_3 (L' := #[.val (.ref o0), .val (.long 6148914691236517205), .second, .val (.long 0), .second, .val (.int 2), .val (.long 0), .second, .val (.long 0), .second, .val (.long 0), .second]) rfl dQ_63 rfl ?_
  refine Gl.aloadN Y51_3 rfl rfl dQ_65 rfl ?_
  refine Gl.getF Y51_3 (host := "") (Or.inl (tw_15 hw)) Via.refl f2 dQ_66 rfl (fun T66_3 Y66_3 => ?_)
  refine Gl.iload Y66_3 rfl dQ_69 rfl ?_
  refine Gl.lload Y66_3 rfl dQ_71 rfl ?_
  refine Gl.lastore Y66_3 A73_2 (v := (.long 0)) rfl ⟨by decide, by decide⟩ (ix := 2) rfl (Nat.le_of_ble_eq_true rfl) g_o1 dQ_73 rfl (fun T73_3 h73_3 Y73_3 W73_3 A73_3 => ?_)
  have A73_3 : Arv Z h73_3 o1 k_o1 .long (3 : Int32) [(.long (-9223372036854775808)), (.long 9223372036854775807), (.long 0)] (.long 0) := A73_3
  have K73_3 : Keep h0 h73_3 [o0, o1, o2] := K73_2.wr W73_3 (Or.inl (List.mem_of_getElem? (i := 1) rfl))
  show Gl p e below _ (T73_3.setTop (mkF m 74 _ []))
  refine Gl.lload Y73_3 rfl dQ_74 rfl ?_
  refine Gl.lstoreN Y73_3 (L' := #[.val (.ref o0), .val (.long 6148914691236517205), .second, .val (.long 0), .second, .val (.int 2), .val (.long 0), .second, .val (.long 0), .second, .val (.long 0), .second]) rfl dQ_76 rfl ?_
  refine Gl.iinc Y73_3 rfl (r := (3 : Int32)) (by decide) (L' := #[.val (.ref o0), .val (.long 6148914691236517205), .second, .val (.long 0), .second, .val (.int 3), .val (.long 0), .second, .val (.long 0), .second, .val (.long 0), .second]) rfl dQ_77 rfl ?_
  refine Gl.goto Y73_3 dQ_80 (by decide) rfl ?_
  refine Gl.iload Y73_3 rfl dQ_5 rfl ?_
  refine Gl.aloadN Y73_3 rfl rfl dQ_7 rfl ?_
  have f3 := (Fld.other W73_3 f2 (Or.inl n_o0_o1))
  refine Gl.getF Y73_3 (host := "") (Or.inl (tw_15 hw)) Via.refl f3 dQ_8 rfl (fun T8_4 Y8_4 => ?_)
  refine Gl.arraylength Y8_4 A73_3 dQ_11 rfl ?_
  refine Gl.icmpge Y8_4 dQ_12 (by decide) rfl rfl (fun c12_4 => ?_) (fun c12_4 => ?_)
  rotate_left
  · exact absurd c12_4 (by decide)
  refine Gl.lloadN Y8_4 rfl dQ_83 rfl ?_
  refine Gl.lconst Y8_4 (v := (0 : Int64)) (by decide) dQ_84 rfl ?_
  refine Gl.lcmpne Y8_4 dQ_85 rfl dQ_86 (by decide) rfl rfl (fun c86 => ?_) (fun c86 => ?_)
  · exact absurd c86 (by decide)
  refine Gl.aloadN Y8_4 rfl rfl dQ_89 rfl ?_
  have f4 := (Exa.wr W73_3 (Exa.wr W73_2 (Exa.wr W73 E_o0)))
  refine Gl.callP Y8_4 (tw_41 hw) (tw_42 hw) (tw_43 hw) (tw_2 hw) (tw_3 hw) (tw_44 hw) (by decide) f4 (rm17 l Z a0 hw [] o0 o1 k_o1 (-9223372036854775808 : Int64) (9223372036854775807 : Int64) (0 : Int64) h73_3 n0 Y8_4.sz f4 f3 A73_3) (a := o0) (argsL := []) (rest := []) rfl rfl (lenOf pd_4 rfl) rfl (by decide) (Nat.le_of_ble_eq_true rfl) (by decide) (by decide) dQ_90 rfl (fun v90 T90 h90 Y90 q90 => ?_)
  obtain ⟨rfl, rfl⟩ := q90
  show Gl p e below _ (T90.setTop (mkF m 93 _ [(.long 0)]))
  refine Gl.lconst Y90 (v := (0 : Int64)) (by decide) dQ_93 rfl ?_
  refine Gl.lcmplt Y90 dQ_94 rfl dQ_95 (by decide) rfl rfl (fun c95 => ?_) (fun c95 => ?_)
  · exact absurd c95 (by decide)
  refine Gl.iconst Y90 (v := (1 : Int32)) (by decide) dQ_98 rfl ?_
  refine Gl.goto Y90 dQ_99 (by decide) rfl ?_
  have f5 := (Fld.other W73_3 (Fld.other W73_2 (Fld.other W73 F_o0_work (Or.inl n_o0_o1)) (Or.inl n_o0_o1)) (Or.inl n_o0_o1))
  have f6 := (((V_o2.other W73 (Ne.symm n_o1_o2)).other W73_2 (Ne.symm n_o1_o2)).other W73_3 (Ne.symm n_o1_o2))
  exact Gl.retZ Y90 (by decide) (by decide) (x' := (1 : Int32)) (by decide) dQ_103 ⟨rfl, K73_3, f4, f3, f5, A73_3, f6⟩
def RA112 : Room := { frames := 0, cells := 0, slots := 0, locals := 0 }
def QA112 (Z : State) (o0 : Addr) (o1 : Addr) (o2 : Addr) (k_o1 : ClassId) (k_o2 : ClassId) (h0 : Heap) (v : Option Value) (h : Heap) : Prop := v = some (.ref o0) ∧ Keep h0 h [o0, o1, o2] ∧ Exa Z h o0 kW ∧ Fld Z h o0 kW "words" "[J" (.ref o1) ∧ Fld Z h o0 kW "work" "[J" (.ref o2) ∧ Arv Z h o1 k_o1 .long (3 : Int32) [(.long (-9223372036854775808)), (.long (-9223372036854775808)), (.long (-1))] (.long 0) ∧ Arv Z h o2 k_o2 .long (8 : Int32) [(.long 6148914691236517205), (.long 0), (.long 0), (.long 0), (.long 0), (.long 0), (.long 0), (.long 0)] (.long 0)
theorem efA112 (o0 : Addr) (m : MethodId) : entryFrame m #[(.ref o0)] 4 = mkF m 0 #[.val (.ref o0), .unset, .unset, .unset] [] := by first | (simp [entryFrame, mkF, argsToLocals, Value.category]; done) | rfl
theorem rmA112 (l : Launch) (Z : State) (a0 : Array Value) (hw : HW a0 Z) (ws : List Jvm.Cond) (o0 : Addr) (o1 : Addr) (o2 : Addr) (k_o1 : ClassId) (k_o2 : ClassId) (h0 : Heap) (n0 : Nat) (Z0 : n0 ≤ h0.size) (E_o0 : Exa Z h0 o0 kW) (F_o0_words : Fld Z h0 o0 kW "words" "[J" (.ref o1)) (F_o0_work : Fld Z h0 o0 kW "work" "[J" (.ref o2)) (g_o0 : n0 ≤ o0) (V_o1 : Arv Z h0 o1 k_o1 .long (3 : Int32) [(.long (-9223372036854775808)), (.long 9223372036854775807), (.long 0)] (.long 0)) (g_o1 : n0 ≤ o1) (V_o2 : Arv Z h0 o2 k_o2 .long (8 : Int32) [(.long 6148914691236517205), (.long 0), (.long 0), (.long 0), (.long 0), (.long 0), (.long 0), (.long 0)] (.long 0)) (g_o2 : n0 ≤ o2) (n_o0_o1 : own_ne o0 o1) (n_o0_o2 : own_ne o0 o2) (n_o1_o2 : own_ne o1 o2) : OMet l Z ws (⟨"com/example/meterwise/meterwise/model/WholeNumber", "negate", "()Lcom/example/meterwise/meterwise/model/WholeNumber;"⟩ : MethodName) prog_137_method_19_code 4 (some (.object "com/example/meterwise/meterwise/model/WholeNumber")) RA112 #[(.ref o0)] h0 n0 (QA112 Z o0 o1 o2 k_o1 k_o2 h0) := by
  refine OMet.of (own := "com/example/meterwise/meterwise/model/WholeNumber") rfl (plainFor_of_name pn_0) (efA112 o0) Z0 ?_
  intro p e s m below meth c T0 Y0 hnm
  refine Gl.lconst Y0 (v := (1 : Int64)) (by decide) dP_0 rfl ?_
  refine Gl.lstoreN Y0 (L' := #[.val (.ref o0), .val (.long 1), .second, .unset]) rfl dP_1 rfl ?_
  refine Gl.iconst Y0 (v := (0 : Int32)) (by decide) dP_2 rfl ?_
  refine Gl.istoreN Y0 (L' := #[.val (.ref o0), .val (.long 1), .second, .val (.int 0)]) rfl dP_3 rfl ?_
  refine Gl.iloadN Y0 rfl dP_4 rfl ?_
  refine Gl.aloadN Y0 rfl rfl dP_5 rfl ?_
  refine Gl.getF Y0 (host := "") (Or.inl (tw_15 hw)) Via.refl F_o0_words dP_6 rfl (fun T6 Y6 => ?_)
  refine Gl.arraylength Y6 V_o1 dP_9 rfl ?_
  refine Gl.icmpge Y6 dP_10 (by decide) rfl rfl (fun c10 => ?_) (fun c10 => ?_)
  · exact absurd c10 (by decide)
  refine Gl.aloadN Y6 rfl rfl dP_13 rfl ?_
  refine Gl.getF Y6 (host := "") (Or.inl (tw_15 hw)) Via.refl F_o0_words dP_14 rfl (fun T14 Y14 => ?_)
  refine Gl.iloadN Y14 rfl dP_17 rfl ?_
  refine Gl.aloadN Y14 rfl rfl dP_18 rfl ?_
  refine Gl.getF Y14 (host := "") (Or.inl (tw_15 hw)) Via.refl F_o0_words dP_19 rfl (fun T19 Y19 => ?_)
  refine Gl.iloadN Y19 rfl dP_22 rfl ?_
  refine Gl.laload Y19 V_o1 ⟨by decide, by decide⟩ (v := (.long (-9223372036854775808))) rfl dP_23 rfl ?_
  refine Gl.ldcJ Y19 (tw_85 hw) dP_24 rfl ?_
  refine Gl.lxor Y19 (r := (9223372036854775807 : Int64)) (by decide) dP_27 rfl ?_
  refine Gl.lloadN Y19 rfl dP_28 rfl ?_
  refine Gl.ladd Y19 (r := (-9223372036854775808 : Int64)) (by decide) dP_29 rfl ?_
  refine Gl.lastore Y19 V_o1 (v := (.long (-9223372036854775808))) rfl ⟨by decide, by decide⟩ (ix := 0) rfl (Nat.le_of_ble_eq_true rfl) g_o1 dP_30 rfl (fun T30 h30 Y30 W30 A30 => ?_)
  have A30 : Arv Z h30 o1 k_o1 .long (3 : Int32) [(.long (-9223372036854775808)), (.long 9223372036854775807), (.long 0)] (.long 0) := A30
  have K30 : Keep h0 h30 [o0, o1, o2] := (Keep.refl h0 [o0, o1, o2]).wr W30 (Or.inl (List.mem_of_getElem? (i := 1) rfl))
  show Gl p e below _ (T30.setTop (mkF m 31 _ []))
  refine Gl.lloadN Y30 rfl dP_31 rfl ?_
  refine Gl.aloadN Y30 rfl rfl dP_32 rfl ?_
  have f1 := (Fld.other W30 F_o0_words (Or.inl n_o0_o1))
  refine Gl.getF Y30 (host := "") (Or.inl (tw_15 hw)) Via.refl f1 dP_33 rfl (fun T33 Y33 => ?_)
  refine Gl.iloadN Y33 rfl dP_36 rfl ?_
  refine Gl.laload Y33 A30 ⟨by decide, by decide⟩ (v := (.long (-9223372036854775808))) rfl dP_37 rfl ?_
  refine Gl.lconst Y33 (v := (0 : Int64)) (by decide) dP_38 rfl ?_
  refine Gl.lcmpne Y33 dP_39 rfl dP_40 (by decide) rfl rfl (fun c40 => ?_) (fun c40 => ?_)
  rotate_left
  · exact absurd c40 (by decide)
  refine Gl.lconst Y33 (v := (0 : Int64)) (by decide) dP_47 rfl ?_
  refine Gl.land Y33 (r := (0 : Int64)) (by decide) dP_48 rfl ?_
  refine Gl.lstoreN Y33 (L' := #[.val (.ref o0), .val (.long 0), .second, .val (.int 0)]) rfl dP_49 rfl ?_
  refine Gl.iinc Y33 rfl (r := (1 : Int32)) (by decide) (L' := #[.val (.ref o0), .val (.long 0), .second, .val (.int 1)]) rfl dP_50 rfl ?_
  refine Gl.goto Y33 dP_53 (by decide) rfl ?_
  refine Gl.iloadN Y33 rfl dP_4 rfl ?_
  refine Gl.aloadN Y33 rfl rfl dP_5 rfl ?_
  refine Gl.getF Y33 (host := "") (Or.inl (tw_15 hw)) Via.refl f1 dP_6 rfl (fun T6_2 Y6_2 => ?_)
  refine Gl.arraylength Y6_2 A30 dP_9 rfl ?_
  refine Gl.icmpge Y6_2 dP_10 (by decide) rfl rfl (fun c10_2 => ?_) (fun c10_2 => ?_)
  · exact absurd c10_2 (by decide)
  refine Gl.aloadN Y6_2 rfl rfl dP_13 rfl ?_
  refine Gl.getF Y6_2 (host := "") (Or.inl (tw_15 hw)) Via.refl f1 dP_14 rfl (fun T14_2 Y14_2 => ?_)
  refine Gl.iloadN Y14_2 rfl dP_17 rfl ?_
  refine Gl.aloadN Y14_2 rfl rfl dP_18 rfl ?_
  refine Gl.getF Y14_2 (host := "") (Or.inl (tw_15 hw)) Via.refl f1 dP_19 rfl (fun T19_2 Y19_2 => ?_)
  refine Gl.iloadN Y19_2 rfl dP_22 rfl ?_
  refine Gl.laload Y19_2 A30 ⟨by decide, by decide⟩ (v := (.long 9223372036854775807)) rfl dP_23 rfl ?_
  refine Gl.ldcJ Y19_2 (tw_85 hw) dP_24 rfl ?_
  refine Gl.lxor Y19_2 (r := (-9223372036854775808 : Int64)) (by decide) dP_27 rfl ?_
  refine Gl.lloadN Y19_2 rfl dP_28 rfl ?_
  refine Gl.ladd Y19_2 (r := (-9223372036854775808 : Int64)) (by decide) dP_29 rfl ?_
  refine Gl.lastore Y19_2 A30 (v := (.long (-9223372036854775808))) rfl ⟨by decide, by decide⟩ (ix := 1) rfl (Nat.le_of_ble_eq_true rfl) g_o1 dP_30 rfl (fun T30_2 h30_2 Y30_2 W30_2 A30_2 => ?_)
  have A30_2 : Arv Z h30_2 o1 k_o1 .long (3 : Int32) [(.long (-9223372036854775808)), (.long (-9223372036854775808)), (.long 0)] (.long 0) := A30_2
  have K30_2 : Keep h0 h30_2 [o0, o1, o2] := K30.wr W30_2 (Or.inl (List.mem_of_getElem? (i := 1) rfl))
  show Gl p e below _ (T30_2.setTop (mkF m 31 _ []))
  refine Gl.lloadN Y30_2 rfl dP_31 rfl ?_
  refine Gl.aloadN Y30_2 rfl rfl dP_32 rfl ?_
  have f2 := (Fld.other W30_2 f1 (Or.inl n_o0_o1))
  refine Gl.getF Y30_2 (host := "") (Or.inl (tw_15 hw)) Via.refl f2 dP_33 rfl (fun T33_2 Y33_2 => ?_)
  refine Gl.iloadN Y33_2 rfl dP_36 rfl ?_
  refine Gl.laload Y33_2 A30_2 ⟨by decide, by decide⟩ (v := (.long (-9223372036854775808))) rfl dP_37 rfl ?_
  refine Gl.lconst Y33_2 (v := (0 : Int64)) (by decide) dP_38 rfl ?_
  refine Gl.lcmpne Y33_2 dP_39 rfl dP_40 (by decide) rfl rfl (fun c40_2 => ?_) (fun c40_2 => ?_)
  rotate_left
  · exact absurd c40_2 (by decide)
  refine Gl.lconst Y33_2 (v := (0 : Int64)) (by decide) dP_47 rfl ?_
  refine Gl.land Y33_2 (r := (0 : Int64)) (by decide) dP_48 rfl ?_
  refine Gl.lstoreN Y33_2 (L' := #[.val (.ref o0), .val (.long 0), .second, .val (.int 1)]) rfl dP_49 rfl ?_
  refine Gl.iinc Y33_2 rfl (r := (2 : Int32)) (by decide) (L' := #[.val (.ref o0), .val (.long 0), .second, .val (.int 2)]) rfl dP_50 rfl ?_
  refine Gl.goto Y33_2 dP_53 (by decide) rfl ?_
  refine Gl.iloadN Y33_2 rfl dP_4 rfl ?_
  refine Gl.aloadN Y33_2 rfl rfl dP_5 rfl ?_
  refine Gl.getF Y33_2 (host := "") (Or.inl (tw_15 hw)) Via.refl f2 dP_6 rfl (fun T6_3 Y6_3 => ?_)
  refine Gl.arraylength Y6_3 A30_2 dP_9 rfl ?_
  refine Gl.icmpge Y6_3 dP_10 (by decide) rfl rfl (fun c10_3 => ?_) (fun c10_3 => ?_)
  · exact absurd c10_3 (by decide)
  refine Gl.aloadN Y6_3 rfl rfl dP_13 rfl ?_
  refine Gl.getF Y6_3 (host := "") (Or.inl (tw_15 hw)) Via.refl f2 dP_14 rfl (fun T14_3 Y14_3 => ?_)
  refine Gl.iloadN Y14_3 rfl dP_17 rfl ?_
  refine Gl.aloadN Y14_3 rfl rfl dP_18 rfl ?_
  refine Gl.getF Y14_3 (host := "") (Or.inl (tw_15 hw)) Via.refl f2 dP_19 rfl (fun T19_3 Y19_3 => ?_)
  refine Gl.iloadN Y19_3 rfl dP_22 rfl ?_
  refine Gl.laload Y19_3 A30_2 ⟨by decide, by decide⟩ (v := (.long 0)) rfl dP_23 rfl ?_
  refine Gl.ldcJ Y19_3 (tw_85 hw) dP_24 rfl ?_
  refine Gl.lxor Y19_3 (r := (-1 : Int64)) (by decide) dP_27 rfl ?_
  refine Gl.lloadN Y19_3 rfl dP_28 rfl ?_
  refine Gl.ladd Y19_3 (r := (-1 : Int64)) (by decide) dP_29 rfl ?_
  refine Gl.lastore Y19_3 A30_2 (v := (.long (-1))) rfl ⟨by decide, by decide⟩ (ix := 2) rfl (Nat.le_of_ble_eq_true rfl) g_o1 dP_30 rfl (fun T30_3 h30_3 Y30_3 W30_3 A30_3 => ?_)
  have A30_3 : Arv Z h30_3 o1 k_o1 .long (3 : Int32) [(.long (-9223372036854775808)), (.long (-9223372036854775808)), (.long (-1))] (.long 0) := A30_3
  have K30_3 : Keep h0 h30_3 [o0, o1, o2] := K30_2.wr W30_3 (Or.inl (List.mem_of_getElem? (i := 1) rfl))
  show Gl p e below _ (T30_3.setTop (mkF m 31 _ []))
  refine Gl.lloadN Y30_3 rfl dP_31 rfl ?_
  refine Gl.aloadN Y30_3 rfl rfl dP_32 rfl ?_
  have f3 := (Fld.other W30_3 f2 (Or.inl n_o0_o1))
  refine Gl.getF Y30_3 (host := "") (Or.inl (tw_15 hw)) Via.refl f3 dP_33 rfl (fun T33_3 Y33_3 => ?_)
  refine Gl.iloadN Y33_3 rfl dP_36 rfl ?_
  refine Gl.laload Y33_3 A30_3 ⟨by decide, by decide⟩ (v := (.long (-1))) rfl dP_37 rfl ?_
  refine Gl.lconst Y33_3 (v := (0 : Int64)) (by decide) dP_38 rfl ?_
  refine Gl.lcmpne Y33_3 dP_39 rfl dP_40 (by decide) rfl rfl (fun c40_3 => ?_) (fun c40_3 => ?_)
  rotate_left
  · exact absurd c40_3 (by decide)
  refine Gl.lconst Y33_3 (v := (0 : Int64)) (by decide) dP_47 rfl ?_
  refine Gl.land Y33_3 (r := (0 : Int64)) (by decide) dP_48 rfl ?_
  refine Gl.lstoreN Y33_3 (L' := #[.val (.ref o0), .val (.long 0), .second, .val (.int 2)]) rfl dP_49 rfl ?_
  refine Gl.iinc Y33_3 rfl (r := (3 : Int32)) (by decide) (L' := #[.val (.ref o0), .val (.long 0), .second, .val (.int 3)]) rfl dP_50 rfl ?_
  refine Gl.goto Y33_3 dP_53 (by decide) rfl ?_
  refine Gl.iloadN Y33_3 rfl dP_4 rfl ?_
  refine Gl.aloadN Y33_3 rfl rfl dP_5 rfl ?_
  refine Gl.getF Y33_3 (host := "") (Or.inl (tw_15 hw)) Via.refl f3 dP_6 rfl (fun T6_4 Y6_4 => ?_)
  refine Gl.arraylength Y6_4 A30_3 dP_9 rfl ?_
  refine Gl.icmpge Y6_4 dP_10 (by decide) rfl rfl (fun c10_4 => ?_) (fun c10_4 => ?_)
  rotate_left
  · exact absurd c10_4 (by decide)
  refine Gl.aloadN Y6_4 rfl rfl dP_56 rfl ?_
  have f4 := (Exa.wr W30_3 (Exa.wr W30_2 (Exa.wr W30 E_o0)))
  have f5 := (Fld.other W30_3 (Fld.other W30_2 (Fld.other W30 F_o0_work (Or.inl n_o0_o1)) (Or.inl n_o0_o1)) (Or.inl n_o0_o1))
  have f6 := (((V_o2.other W30 (Ne.symm n_o1_o2)).other W30_2 (Ne.symm n_o1_o2)).other W30_3 (Ne.symm n_o1_o2))
  exact Gl.retA Y6_4 (by decide) (by decide) rfl rfl dP_57 ⟨rfl, K30_3, f4, f3, f5, A30_3, f6⟩
def RA103 : Room := { frames := 3, cells := 0, slots := 0, locals := 69 }
def QA103 (Z : State) (o0 : Addr) (o1 : Addr) (o2 : Addr) (o3 : Addr) (o4 : Addr) (k_o2 : ClassId) (k_o3 : ClassId) (k_o4 : ClassId) (h0 : Heap) (v : Option Value) (h : Heap) : Prop := v = some (.ref o0) ∧ Keep h0 h [o0, o1, o2, o3, o4] ∧ Exa Z h o0 kW ∧ Exa Z h o1 kW ∧ Fld Z h o0 kW "words" "[J" (.ref o2) ∧ Fld Z h o0 kW "work" "[J" (.ref o3) ∧ Fld Z h o1 kW "words" "[J" (.ref o4) ∧ Fld Z h o1 kW "work" "[J" .null ∧ Arv Z h o2 k_o2 .long (3 : Int32) [(.long (-9223372036854775808)), (.long (-9223372036854775808)), (.long (-1))] (.long 0) ∧ Arv Z h o3 k_o3 .long (8 : Int32) [(.long 6148914691236517205), (.long 0), (.long 0), (.long 0), (.long 0), (.long 0), (.long 0), (.long 0)] (.long 0) ∧ Arv Z h o4 k_o4 .long (3 : Int32) [(.long 6148914691236517205), (.long 0), (.long 0)] (.long 0)
theorem efA103 (o0 : Addr) (o1 : Addr) (m : MethodId) : entryFrame m #[(.ref o0), (.ref o1)] 10 = mkF m 0 #[.val (.ref o0), .val (.ref o1), .unset, .unset, .unset, .unset, .unset, .unset, .unset, .unset] [] := by first | (simp [entryFrame, mkF, argsToLocals, Value.category]; done) | rfl
theorem rmA103 (l : Launch) (Z : State) (a0 : Array Value) (hw : HW a0 Z) (ws : List Jvm.Cond) (o0 : Addr) (o1 : Addr) (o2 : Addr) (o3 : Addr) (o4 : Addr) (k_o2 : ClassId) (k_o3 : ClassId) (k_o4 : ClassId) (h0 : Heap) (n0 : Nat) (Z0 : n0 ≤ h0.size) (E_o0 : Exa Z h0 o0 kW) (F_o0_words : Fld Z h0 o0 kW "words" "[J" (.ref o2)) (F_o0_work : Fld Z h0 o0 kW "work" "[J" (.ref o3)) (g_o0 : n0 ≤ o0) (E_o1 : Exa Z h0 o1 kW) (F_o1_words : Fld Z h0 o1 kW "words" "[J" (.ref o4)) (F_o1_work : Fld Z h0 o1 kW "work" "[J" .null) (g_o1 : n0 ≤ o1) (V_o2 : Arv Z h0 o2 k_o2 .long (3 : Int32) [(.long (-9223372036854775808)), (.long (-2)), (.long (-1))] (.long 0)) (g_o2 : n0 ≤ o2) (V_o3 : Arv Z h0 o3 k_o3 .long (8 : Int32) [(.long 3), (.long 0), (.long 0), (.long 0), (.long 0), (.long 0), (.long 0), (.long 0)] (.long 0)) (g_o3 : n0 ≤ o3) (V_o4 : Arv Z h0 o4 k_o4 .long (3 : Int32) [(.long 6148914691236517205), (.long 0), (.long 0)] (.long 0)) (g_o4 : n0 ≤ o4) (n_o0_o1 : own_ne o0 o1) (n_o0_o2 : own_ne o0 o2) (n_o0_o3 : own_ne o0 o3) (n_o0_o4 : own_ne o0 o4) (n_o1_o2 : own_ne o1 o2) (n_o1_o3 : own_ne o1 o3) (n_o1_o4 : own_ne o1 o4) (n_o2_o3 : own_ne o2 o3) (n_o2_o4 : own_ne o2 o4) (n_o3_o4 : own_ne o3 o4) : OMet l Z ws (⟨"com/example/meterwise/meterwise/model/WholeNumber", "multiply", "(Lcom/example/meterwise/meterwise/model/WholeNumber;)Lcom/example/meterwise/meterwise/model/WholeNumber;"⟩ : MethodName) prog_137_method_15_code 10 (some (.object "com/example/meterwise/meterwise/model/WholeNumber")) RA103 #[(.ref o0), (.ref o1)] h0 n0 (QA103 Z o0 o1 o2 o3 o4 k_o2 k_o3 k_o4 h0) := by
  refine OMet.of (own := "com/example/meterwise/meterwise/model/WholeNumber") rfl (plainFor_of_name pn_0) (efA103 o0 o1) Z0 ?_
  intro p e s m below meth c T0 Y0 hnm
  refine Gl.aloadN Y0 rfl rfl dK_0 rfl ?_
  refine Gl.callV Y0 (tw_36 hw) (tw_37 hw) (tw_39 hw) (tw_39 hw) (tw_38 hw) (tw_3 hw) (tw_40 hw) (by decide) E_o0 (rmA104 l Z a0 hw [] o0 o2 o3 k_o2 k_o3 h0 n0 Y0.sz E_o0 F_o0_words F_o0_work g_o0 V_o2 g_o2 V_o3 g_o3 n_o0_o2 n_o0_o3 n_o2_o3) (a := o0) (argsL := []) (rest := []) rfl rfl (lenOf pd_5 rfl) rfl (by decide) (Nat.le_of_ble_eq_true rfl) (by decide) (by decide) dK_1 rfl (fun v1 T1 h1 Y1 q1 => ?_)
  obtain ⟨rfl, rfl⟩ := q1
  show Gl p e below _ (T1.setTop (mkF m 4 _ [(.int 0)]))
  refine Gl.ifne Y1 dK_4 (by decide) rfl rfl (fun c4 => ?_) (fun c4 => ?_)
  · exact absurd c4 (by decide)
  refine Gl.aloadN Y1 rfl rfl dK_7 rfl ?_
  refine Gl.callV Y1 (tw_36 hw) (tw_37 hw) (tw_39 hw) (tw_39 hw) (tw_38 hw) (tw_3 hw) (tw_40 hw) (by decide) E_o1 (rmA105 l Z a0 hw [] o1 o4 k_o4 h0 n0 Y1.sz E_o1 F_o1_words F_o1_work g_o1 V_o4 g_o4 n_o1_o4) (a := o1) (argsL := []) (rest := []) rfl rfl (lenOf pd_5 rfl) rfl (by decide) (Nat.le_of_ble_eq_true rfl) (by decide) (by decide) dK_8 rfl (fun v8 T8 h8 Y8 q8 => ?_)
  obtain ⟨rfl, rfl⟩ := q8
  show Gl p e below _ (T8.setTop (mkF m 11 _ [(.int 0)]))
  refine Gl.ifeq Y8 dK_11 (by decide) rfl rfl (fun c11 => ?_) (fun c11 => ?_)
  rotate_left
  · exact absurd c11 (by decide)
  refine Gl.aloadN Y8 rfl rfl dK_19 rfl ?_
  refine Gl.callV Y8 (tw_69 hw) (tw_70 hw) (tw_72 hw) (tw_72 hw) (tw_71 hw) (tw_3 hw) (tw_73 hw) (by decide) E_o0 (rmA106 l Z a0 hw [] o0 o2 o3 k_o2 k_o3 h0 n0 Y8.sz E_o0 F_o0_words F_o0_work g_o0 V_o2 g_o2 V_o3 g_o3 n_o0_o2 n_o0_o3 n_o2_o3) (a := o0) (argsL := []) (rest := []) rfl rfl (lenOf pd_10 rfl) rfl (by decide) (Nat.le_of_ble_eq_true rfl) (by decide) (by decide) dK_20 rfl (fun v20 T20 h20 Y20 q20 => ?_)
  obtain ⟨rfl, rfl⟩ := q20
  show Gl p e below _ (T20.setTop (mkF m 23 _ [(.int (-1))]))
  refine Gl.ifne Y20 dK_23 (by decide) rfl rfl (fun c23 => ?_) (fun c23 => ?_)
  rotate_left
  · exact absurd c23 (by decide)
  refine Gl.aloadN Y20 rfl rfl dK_28 rfl ?_
  refine Gl.callP Y20 (tw_74 hw) (tw_75 hw) (tw_76 hw) (tw_2 hw) (tw_3 hw) (tw_77 hw) (by decide) E_o0 (rmA107 l Z a0 hw [] o0 o2 o3 k_o2 k_o3 h0 n0 Y20.sz E_o0 F_o0_words F_o0_work g_o0 V_o2 g_o2 V_o3 g_o3 n_o0_o2 n_o0_o3 n_o2_o3) (a := o0) (argsL := []) (rest := []) rfl rfl (lenOf pd_11 rfl) rfl (by decide) (Nat.le_of_ble_eq_true rfl) (by decide) (by decide) dK_29 rfl (fun v29 T29 h29 Y29 q29 => ?_)
  obtain ⟨rfl, rfl⟩ := q29
  show Gl p e below _ (T29.setTop (mkF m 32 _ [(.ref o3)]))
  refine Gl.astoreN Y29 rfl (L' := #[.val (.ref o0), .val (.ref o1), .val (.ref o3), .unset, .unset, .unset, .unset, .unset, .unset, .unset]) rfl dK_32 rfl ?_
  refine Gl.aloadN Y29 rfl rfl dK_33 rfl ?_
  refine Gl.callP Y29 (tw_41 hw) (tw_42 hw) (tw_43 hw) (tw_2 hw) (tw_3 hw) (tw_44 hw) (by decide) E_o1 (rm17 l Z a0 hw [] o1 o4 k_o4 (6148914691236517205 : Int64) (0 : Int64) (0 : Int64) h0 n0 Y29.sz E_o1 F_o1_words V_o4) (a := o1) (argsL := []) (rest := []) rfl rfl (lenOf pd_4 rfl) rfl (by decide) (Nat.le_of_ble_eq_true rfl) (by decide) (by decide) dK_34 rfl (fun v34 T34 h34 Y34 q34 => ?_)
  obtain ⟨rfl, rfl⟩ := q34
  show Gl p e below _ (T34.setTop (mkF m 37 _ [(.long 0)]))
  refine Gl.lconst Y34 (v := (0 : Int64)) (by decide) dK_37 rfl ?_
  refine Gl.lcmpge Y34 dK_38 rfl dK_39 (by decide) rfl rfl (fun c39 => ?_) (fun c39 => ?_)
  rotate_left
  · exact absurd c39 (by decide)
  refine Gl.iconst Y34 (v := (0 : Int32)) (by decide) dK_46 rfl ?_
  refine Gl.istoreN Y34 (L' := #[.val (.ref o0), .val (.ref o1), .val (.ref o3), .val (.int 0), .unset, .unset, .unset, .unset, .unset, .unset]) rfl dK_47 rfl ?_
  refine Gl.iconst Y34 (v := (0 : Int32)) (by decide) dK_48 rfl ?_
  refine Gl.istore Y34 (L' := #[.val (.ref o0), .val (.ref o1), .val (.ref o3), .val (.int 0), .val (.int 0), .unset, .unset, .unset, .unset, .unset]) rfl dK_49 rfl ?_
  refine Gl.lconst Y34 (v := (1 : Int64)) (by decide) dK_51 rfl ?_
  refine Gl.lstore Y34 (L' := #[.val (.ref o0), .val (.ref o1), .val (.ref o3), .val (.int 0), .val (.int 0), .val (.long 1), .second, .unset, .unset, .unset]) rfl dK_52 rfl ?_
  refine Gl.iconst Y34 (v := (0 : Int32)) (by decide) dK_54 rfl ?_
  refine Gl.istore Y34 (L' := #[.val (.ref o0), .val (.ref o1), .val (.ref o3), .val (.int 0), .val (.int 0), .val (.long 1), .second, .val (.int 0), .unset, .unset]) rfl dK_55 rfl ?_
  refine Gl.iload Y34 rfl dK_57 rfl ?_
  refine Gl.aloadN Y34 rfl rfl dK_59 rfl ?_
  refine Gl.getF Y34 (host := "") (Or.inl (tw_15 hw)) Via.refl F_o1_words dK_60 rfl (fun T60 Y60 => ?_)
  refine Gl.arraylength Y60 V_o4 dK_63 rfl ?_
  refine Gl.icmpge Y60 dK_64 (by decide) rfl rfl (fun c64 => ?_) (fun c64 => ?_)
  · exact absurd c64 (by decide)
  refine Gl.aloadN Y60 rfl rfl dK_67 rfl ?_
  refine Gl.getF Y60 (host := "") (Or.inl (tw_15 hw)) Via.refl F_o1_words dK_68 rfl (fun T68 Y68 => ?_)
  refine Gl.iload Y68 rfl dK_71 rfl ?_
  refine Gl.laload Y68 V_o4 ⟨by decide, by decide⟩ (v := (.long 6148914691236517205)) rfl dK_73 rfl ?_
  refine Gl.lstore Y68 (L' := #[.val (.ref o0), .val (.ref o1), .val (.ref o3), .val (.int 0), .val (.int 0), .val (.long 1), .second, .val (.int 0), .val (.long 6148914691236517205), .second]) rfl dK_74 rfl ?_
  refine Gl.iloadN Y68 rfl dK_76 rfl ?_
  refine Gl.ifeq Y68 dK_77 (by decide) rfl rfl (fun c77 => ?_) (fun c77 => ?_)
  rotate_left
  · exact absurd c77 (by decide)
  refine Gl.lload Y68 rfl dK_108 rfl ?_
  refine Gl.lconst Y68 (v := (0 : Int64)) (by decide) dK_110 rfl ?_
  refine Gl.lcmpeq Y68 dK_111 rfl dK_112 (by decide) rfl rfl (fun c112 => ?_) (fun c112 => ?_)
  · exact absurd c112 (by decide)
  refine Gl.iload Y68 rfl dK_115 rfl ?_
  refine Gl.iconst Y68 (v := (1 : Int32)) (by decide) dK_117 rfl ?_
  refine Gl.iadd Y68 (r := (1 : Int32)) (by decide) dK_118 rfl ?_
  refine Gl.goto Y68 dK_119 (by decide) rfl ?_
  refine Gl.istore Y68 (L' := #[.val (.ref o0), .val (.ref o1), .val (.ref o3), .val (.int 0), .val (.int 1), .val (.long 1), .second, .val (.int 0), .val (.long 6148914691236517205), .second]) rfl dK_124 rfl ?_
  refine Gl.iload Y68 rfl dK_126 rfl ?_
  refine Gl.aloadN Y68 rfl rfl dK_128 rfl ?_
  refine Gl.getF Y68 (host := "") (Or.inl (tw_15 hw)) Via.refl F_o0_words dK_129 rfl (fun T129 Y129 => ?_)
  refine Gl.arraylength Y129 V_o2 dK_132 rfl ?_
  refine Gl.icmpgt Y129 dK_133 (by decide) rfl rfl (fun c133 => ?_) (fun c133 => ?_)
  · exact absurd c133 (by decide)
  refine Gl.aloadN Y129 rfl rfl dK_136 rfl ?_
  refine Gl.iload Y129 rfl dK_137 rfl ?_
  refine Gl.lload Y129 rfl dK_139 rfl ?_
  refine Gl.lastore Y129 V_o3 (v := (.long 6148914691236517205)) rfl ⟨by decide, by decide⟩ (ix := 0) rfl (Nat.le_of_ble_eq_true rfl) g_o3 dK_141 rfl (fun T141 h141 Y141 W141 A141 => ?_)
  have A141 : Arv Z h141 o3 k_o3 .long (8 : Int32) [(.long 6148914691236517205), (.long 0), (.long 0), (.long 0), (.long 0), (.long 0), (.long 0), (.long 0)] (.long 0) := A141
  have K141 : Keep h0 h141 [o0, o1, o2, o3, o4] := (Keep.refl h0 [o0, o1, o2, o3, o4]).wr W141 (Or.inl (List.mem_of_getElem? (i := 3) rfl))
  show Gl p e below _ (T141.setTop (mkF m 142 _ []))
  refine Gl.iinc Y141 rfl (r := (1 : Int32)) (by decide) (L' := #[.val (.ref o0), .val (.ref o1), .val (.ref o3), .val (.int 0), .val (.int 1), .val (.long 1), .second, .val (.int 1), .val (.long 6148914691236517205), .second]) rfl dK_142 rfl ?_
  refine Gl.goto Y141 dK_145 (by decide) rfl ?_
  refine Gl.iload Y141 rfl dK_57 rfl ?_
  refine Gl.aloadN Y141 rfl rfl dK_59 rfl ?_
  have f1 := (Fld.other W141 F_o1_words (Or.inl n_o1_o3))
  refine Gl.getF Y141 (host := "") (Or.inl (tw_15 hw)) Via.refl f1 dK_60 rfl (fun T60_2 Y60_2 => ?_)
  have f2 := (V_o4.other W141 (Ne.symm n_o3_o4))
  refine Gl.arraylength Y60_2 f2 dK_63 rfl ?_
  refine Gl.icmpge Y60_2 dK_64 (by decide) rfl rfl (fun c64_2 => ?_) (fun c64_2 => ?_)
  · exact absurd c64_2 (by decide)
  refine Gl.aloadN Y60_2 rfl rfl dK_67 rfl ?_
  refine Gl.getF Y60_2 (host := "") (Or.inl (tw_15 hw)) Via.refl f1 dK_68 rfl (fun T68_2 Y68_2 => ?_)
  refine Gl.iload Y68_2 rfl dK_71 rfl ?_
  refine Gl.laload Y68_2 f2 ⟨by decide, by decide⟩ (v := (.long 0)) rfl dK_73 rfl ?_
  refine Gl.lstore Y68_2 (L' := #[.val (.ref o0), .val (.ref o1), .val (.ref o3), .val (.int 0), .val (.int 1), .val (.long 1), .second, .val (.int 1), .val (.long 0), .second]) rfl dK_74 rfl ?_
  refine Gl.iloadN Y68_2 rfl dK_76 rfl ?_
  refine Gl.ifeq Y68_2 dK_77 (by decide) rfl rfl (fun c77_2 => ?_) (fun c77_2 => ?_)
  rotate_left
  · exact absurd c77_2 (by decide)
  refine Gl.lload Y68_2 rfl dK_108 rfl ?_
  refine Gl.lconst Y68_2 (v := (0 : Int64)) (by decide) dK_110 rfl ?_
  refine Gl.lcmpeq Y68_2 dK_111 rfl dK_112 (by decide) rfl rfl (fun c112_2 => ?_) (fun c112_2 => ?_)
  rotate_left
  · exact absurd c112_2 (by decide)
  refine Gl.iload Y68_2 rfl dK_122 rfl ?_
  refine Gl.istore Y68_2 (L' := #[.val (.ref o0), .val (.ref o1), .val (.ref o3), .val (.int 0), .val (.int 1), .val (.long 1), .second, .val (.int 1), .val (.long 0), .second]) rfl dK_124 rfl ?_
  refine Gl.iload Y68_2 rfl dK_126 rfl ?_
  refine Gl.aloadN Y68_2 rfl rfl dK_128 rfl ?_
  have f3 := (Fld.other W141 F_o0_words (Or.inl n_o0_o3))
  refine Gl.getF Y68_2 (host := "") (Or.inl (tw_15 hw)) Via.refl f3 dK_129 rfl (fun T129_2 Y129_2 => ?_)
  have f4 := (V_o2.other W141 n_o2_o3)
  refine Gl.arraylength Y129_2 f4 dK_132 rfl ?_
  refine Gl.icmpgt Y129_2 dK_133 (by decide) rfl rfl (fun c133_2 => ?_) (fun c133_2 => ?_)
  · exact absurd c133_2 (by decide)
  refine Gl.aloadN Y129_2 rfl rfl dK_136 rfl ?_
  refine Gl.iload Y129_2 rfl dK_137 rfl ?_
  refine Gl.lload Y129_2 rfl dK_139 rfl ?_
  refine Gl.lastore Y129_2 A141 (v := (.long 0)) rfl ⟨by decide, by decide⟩ (ix := 1) rfl (Nat.le_of_ble_eq_true rfl) g_o3 dK_141 rfl (fun T141_2 h141_2 Y141_2 W141_2 A141_2 => ?_)
  have A141_2 : Arv Z h141_2 o3 k_o3 .long (8 : Int32) [(.long 6148914691236517205), (.long 0), (.long 0), (.long 0), (.long 0), (.long 0), (.long 0), (.long 0)] (.long 0) := A141_2
  have K141_2 : Keep h0 h141_2 [o0, o1, o2, o3, o4] := K141.wr W141_2 (Or.inl (List.mem_of_getElem? (i := 3) rfl))
  show Gl p e below _ (T141_2.setTop (mkF m 142 _ []))
  refine Gl.iinc Y141_2 rfl (r := (2 : Int32)) (by decide) (L' := #[.val (.ref o0), .val (.ref o1), .val (.ref o3), .val (.int 0), .val (.int 1), .val (.long 1), .second, .val (.int 2), .val (.long 0), .second]) rfl dK_142 rfl ?_
  refine Gl.goto Y141_2 dK_145 (by decide) rfl ?_
  refine Gl.iload Y141_2 rfl dK_57 rfl ?_
  refine Gl.aloadN Y141_2 rfl rfl dK_59 rfl ?_
  have f5 := (Fld.other W141_2 f1 (Or.inl n_o1_o3))
  refine Gl.getF Y141_2 (host := "") (Or.inl (tw_15 hw)) Via.refl f5 dK_60 rfl (fun T60_3 Y60_3 => ?_)
  have f6 := (f2.other W141_2 (Ne.symm n_o3_o4))
  refine Gl.arraylength Y60_3 f6 dK_63 rfl ?_
  refine Gl.icmpge Y60_3 dK_64 (by decide) rfl rfl (fun c64_3 => ?_) (fun c64_3 => ?_)
  · exact absurd c64_3 (by decide)
  refine Gl.aloadN Y60_3 rfl rfl dK_67 rfl ?_
  refine Gl.getF Y60_3 (host := "") (Or.inl (tw_15 hw)) Via.refl f5 dK_68 rfl (fun T68_3 Y68_3 => ?_)
  refine Gl.iload Y68_3 rfl dK_71 rfl ?_
  refine Gl.laload Y68_3 f6 ⟨by decide, by decide⟩ (v := (.long 0)) rfl dK_73 rfl ?_
  refine Gl.lstore Y68_3 (L' := #[.val (.ref o0), .val (.ref o1), .val (.ref o3), .val (.int 0), .val (.int 1), .val (.long 1), .second, .val (.int 2), .val (.long 0), .second]) rfl dK_74 rfl ?_
  refine Gl.iloadN Y68_3 rfl dK_76 rfl ?_
  refine Gl.ifeq Y68_3 dK_77 (by decide) rfl rfl (fun c77_3 => ?_) (fun c77_3 => ?_)
  rotate_left
  · exact absurd c77_3 (by decide)
  refine Gl.lload Y68_3 rfl dK_108 rfl ?_
  refine Gl.lconst Y68_3 (v := (0 : Int64)) (by decide) dK_110 rfl ?_
  refine Gl.lcmpeq Y68_3 dK_111 rfl dK_112 (by decide) rfl rfl (fun c112_3 => ?_) (fun c112_3 => ?_)
  rotate_left
  · exact absurd c112_3 (by decide)
  refine Gl.iload Y68_3 rfl dK_122 rfl ?_
  refine Gl.istore Y68_3 (L' := #[.val (.ref o0), .val (.ref o1), .val (.ref o3), .val (.int 0), .val (.int 1), .val (.long 1), .second, .val (.int 2), .val (.long 0), .second]) rfl dK_124 rfl ?_
  refine Gl.iload Y68_3 rfl dK_126 rfl ?_
  refine Gl.aloadN Y68_3 rfl rfl dK_128 rfl ?_
  have f7 := (Fld.other W141_2 f3 (Or.inl n_o0_o3))
  refine Gl.getF Y68_3 (host := "") (Or.inl (tw_15 hw)) Via.refl f7 dK_129 rfl (fun T129_3 Y129_3 => ?_)
  have f8 := (f4.other W141_2 n_o2_o3)
  refine Gl.arraylength Y129_3 f8 dK_132 rfl ?_
  refine Gl.icmpgt Y129_3 dK_133 (by decide) rfl rfl (fun c133_3 => ?_) (fun c133_3 => ?_)
  · exact absurd c133_3 (by decide)
  refine Gl.aloadN Y129_3 rfl rfl dK_136 rfl ?_
  refine Gl.iload Y129_3 rfl dK_137 rfl ?_
  refine Gl.lload Y129_3 rfl dK_139 rfl ?_
  refine Gl.lastore Y129_3 A141_2 (v := (.long 0)) rfl ⟨by decide, by decide⟩ (ix := 2) rfl (Nat.le_of_ble_eq_true rfl) g_o3 dK_141 rfl (fun T141_3 h141_3 Y141_3 W141_3 A141_3 => ?_)
  have A141_3 : Arv Z h141_3 o3 k_o3 .long (8 : Int32) [(.long 6148914691236517205), (.long 0), (.long 0), (.long 0), (.long 0), (.long 0), (.long 0), (.long 0)] (.long 0) := A141_3
  have K141_3 : Keep h0 h141_3 [o0, o1, o2, o3, o4] := K141_2.wr W141_3 (Or.inl (List.mem_of_getElem? (i := 3) rfl))
  show Gl p e below _ (T141_3.setTop (mkF m 142 _ []))
  refine Gl.iinc Y141_3 rfl (r := (3 : Int32)) (by decide) (L' := #[.val (.ref o0), .val (.ref o1), .val (.ref o3), .val (.int 0), .val (.int 1), .val (.long 1), .second, .val (.int 3), .val (.long 0), .second]) rfl dK_142 rfl ?_
  refine Gl.goto Y141_3 dK_145 (by decide) rfl ?_
  refine Gl.iload Y141_3 rfl dK_57 rfl ?_
  refine Gl.aloadN Y141_3 rfl rfl dK_59 rfl ?_
  have f9 := (Fld.other W141_3 f5 (Or.inl n_o1_o3))
  refine Gl.getF Y141_3 (host := "") (Or.inl (tw_15 hw)) Via.refl f9 dK_60 rfl (fun T60_4 Y60_4 => ?_)
  have f10 := (f6.other W141_3 (Ne.symm n_o3_o4))
  refine Gl.arraylength Y60_4 f10 dK_63 rfl ?_
  refine Gl.icmpge Y60_4 dK_64 (by decide) rfl rfl (fun c64_4 => ?_) (fun c64_4 => ?_)
  rotate_left
  · exact absurd c64_4 (by decide)
  refine Gl.aloadN Y60_4 rfl rfl dK_148 rfl ?_
  have f11 := (Exa.wr W141_3 (Exa.wr W141_2 (Exa.wr W141 E_o0)))
  have f12 := (Fld.other W141_3 f7 (Or.inl n_o0_o3))
  have f13 := (f8.other W141_3 n_o2_o3)
  refine Gl.callP Y60_4 (tw_41 hw) (tw_42 hw) (tw_43 hw) (tw_2 hw) (tw_3 hw) (tw_44 hw) (by decide) f11 (rm17 l Z a0 hw [] o0 o2 k_o2 (-9223372036854775808 : Int64) (-2 : Int64) (-1 : Int64) h141_3 n0 Y60_4.sz f11 f12 f13) (a := o0) (argsL := []) (rest := []) rfl rfl (lenOf pd_4 rfl) rfl (by decide) (Nat.le_of_ble_eq_true rfl) (by decide) (by decide) dK_149 rfl (fun v149 T149 h149 Y149 q149 => ?_)
  obtain ⟨rfl, rfl⟩ := q149
  show Gl p e below _ (T149.setTop (mkF m 152 _ [(.long (-1))]))
  refine Gl.lconst Y149 (v := (0 : Int64)) (by decide) dK_152 rfl ?_
  refine Gl.lcmpge Y149 dK_153 rfl dK_154 (by decide) rfl rfl (fun c154 => ?_) (fun c154 => ?_)
  · exact absurd c154 (by decide)
  refine Gl.iconst Y149 (v := (1 : Int32)) (by decide) dK_157 rfl ?_
  refine Gl.goto Y149 dK_158 (by decide) rfl ?_
  refine Gl.iloadN Y149 rfl dK_162 rfl ?_
  refine Gl.icmpeq Y149 dK_163 (by decide) rfl rfl (fun c163 => ?_) (fun c163 => ?_)
  · exact absurd c163 (by decide)
  refine Gl.iconst Y149 (v := (1 : Int32)) (by decide) dK_166 rfl ?_
  refine Gl.goto Y149 dK_167 (by decide) rfl ?_
  refine Gl.istore Y149 (L' := #[.val (.ref o0), .val (.ref o1), .val (.ref o3), .val (.int 0), .val (.int 1), .val (.long 1), .second, .val (.int 1), .val (.long 0), .second]) rfl dK_171 rfl ?_
  refine Gl.aloadN Y149 rfl rfl dK_173 rfl ?_
  refine Gl.callP Y149 (tw_41 hw) (tw_42 hw) (tw_43 hw) (tw_2 hw) (tw_3 hw) (tw_44 hw) (by decide) f11 (rm17 l Z a0 hw [] o0 o2 k_o2 (-9223372036854775808 : Int64) (-2 : Int64) (-1 : Int64) h141_3 n0 Y149.sz f11 f12 f13) (a := o0) (argsL := []) (rest := []) rfl rfl (lenOf pd_4 rfl) rfl (by decide) (Nat.le_of_ble_eq_true rfl) (by decide) (by decide) dK_174 rfl (fun v174 T174 h174 Y174 q174 => ?_)
  obtain ⟨rfl, rfl⟩ := q174
  show Gl p e below _ (T174.setTop (mkF m 177 _ [(.long (-1))]))
  refine Gl.lconst Y174 (v := (0 : Int64)) (by decide) dK_177 rfl ?_
  refine Gl.lcmpge Y174 dK_178 rfl dK_179 (by decide) rfl rfl (fun c179 => ?_) (fun c179 => ?_)
  · exact absurd c179 (by decide)
  refine Gl.aloadN Y174 rfl rfl dK_182 rfl ?_
  have f14 := (Fld.other W141_3 (Fld.other W141_2 (Fld.other W141 F_o0_work (Or.inl n_o0_o3)) (Or.inl n_o0_o3)) (Or.inl n_o0_o3))
  refine Gl.callV Y174 (tw_80 hw) (tw_81 hw) (tw_83 hw) (tw_83 hw) (tw_82 hw) (tw_3 hw) (tw_84 hw) (by decide) f11 (rmA108 l Z a0 hw [] o0 o2 o3 k_o2 k_o3 h141_3 n0 Y174.sz f11 f12 f14 g_o0 f13 g_o2 A141_3 g_o3 n_o0_o2 n_o0_o3 n_o2_o3) (a := o0) (argsL := []) (rest := []) rfl rfl (lenOf pd_7 rfl) rfl (by decide) (Nat.le_of_ble_eq_true rfl) (by decide) (by decide) dK_183 rfl (fun v183 T183 h183 Y183 q183 => ?_)
  obtain ⟨rfl, K183, f183_0, f183_1, f183_2, f183_3, f183_4⟩ := q183
  have KK183 : Keep h0 h183 [o0, o1, o2, o3, o4] := K141_3.trans K183 (allS (Or.inl (List.mem_of_getElem? (i := 0) rfl)) (allS (Or.inl (List.mem_of_getElem? (i := 2) rfl)) (allS (Or.inl (List.mem_of_getElem? (i := 3) rfl)) all0)))
  show Gl p e below _ (T183.setTop (mkF m 186 _ [(.ref o0)]))
  refine Gl.pop Y183 rfl dK_186 rfl ?_
  refine Gl.iload Y183 rfl dK_187 rfl ?_
  refine Gl.iconst Y183 (v := (1 : Int32)) (by decide) dK_189 rfl ?_
  refine Gl.icmpne Y183 dK_190 (by decide) rfl rfl (fun c190 => ?_) (fun c190 => ?_)
  · exact absurd c190 (by decide)
  refine Gl.aloadN Y183 rfl rfl dK_193 rfl ?_
  refine Gl.aloadN Y183 rfl rfl dK_194 rfl ?_
  refine Gl.iconst Y183 (v := (0 : Int32)) (by decide) dK_195 rfl ?_
  refine Gl.laload Y183 f183_4 ⟨by decide, by decide⟩ (v := (.long 6148914691236517205)) rfl dK_196 rfl ?_
  refine Gl.callP Y183 (tw_86 hw) (tw_87 hw) (tw_88 hw) (tw_2 hw) (tw_3 hw) (tw_89 hw) (by decide) f183_0 (rmA109 l Z a0 hw [] o0 o2 o3 k_o2 k_o3 h183 n0 Y183.sz f183_0 f183_1 f183_2 g_o0 f183_3 g_o2 f183_4 g_o3 n_o0_o2 n_o0_o3 n_o2_o3) (a := o0) (argsL := [(.long 6148914691236517205)]) (rest := []) rfl rfl (lenOf pd_14 rfl) rfl (by decide) (Nat.le_of_ble_eq_true rfl) (by decide) (by decide) dK_197 rfl (fun v197 T197 h197 Y197 q197 => ?_)
  obtain ⟨rfl, K197, f197_0, f197_1, f197_2, f197_3, f197_4⟩ := q197
  have KK197 : Keep h0 h197 [o0, o1, o2, o3, o4] := KK183.trans K197 (allS (Or.inl (List.mem_of_getElem? (i := 0) rfl)) (allS (Or.inl (List.mem_of_getElem? (i := 2) rfl)) (allS (Or.inl (List.mem_of_getElem? (i := 3) rfl)) all0)))
  show Gl p e below _ (T197.setTop (mkF m 200 _ [(.int 1)]))
  refine Gl.goto Y197 dK_200 (by decide) rfl ?_
  refine Gl.istore Y197 (L' := #[.val (.ref o0), .val (.ref o1), .val (.ref o3), .val (.int 0), .val (.int 1), .val (.long 1), .second, .val (.int 1), .val (.int 1), .unset]) rfl dK_210 rfl ?_
  refine Gl.iload Y197 rfl dK_212 rfl ?_
  refine Gl.ifne Y197 dK_214 (by decide) rfl rfl (fun c214 => ?_) (fun c214 => ?_)
  rotate_left
  · exact absurd c214 (by decide)
  refine Gl.iload Y197 rfl dK_222 rfl ?_
  refine Gl.ifeq Y197 dK_224 (by decide) rfl rfl (fun c224 => ?_) (fun c224 => ?_)
  · exact absurd c224 (by decide)
  refine Gl.aloadN Y197 rfl rfl dK_227 rfl ?_
  refine Gl.callV Y197 (tw_80 hw) (tw_81 hw) (tw_83 hw) (tw_83 hw) (tw_82 hw) (tw_3 hw) (tw_84 hw) (by decide) f197_0 (rmA112 l Z a0 hw [] o0 o2 o3 k_o2 k_o3 h197 n0 Y197.sz f197_0 f197_1 f197_2 g_o0 f197_3 g_o2 f197_4 g_o3 n_o0_o2 n_o0_o3 n_o2_o3) (a := o0) (argsL := []) (rest := []) rfl rfl (lenOf pd_7 rfl) rfl (by decide) (Nat.le_of_ble_eq_true rfl) (by decide) (by decide) dK_228 rfl (fun v228 T228 h228 Y228 q228 => ?_)
  obtain ⟨rfl, K228, f228_0, f228_1, f228_2, f228_3, f228_4⟩ := q228
  have KK228 : Keep h0 h228 [o0, o1, o2, o3, o4] := KK197.trans K228 (allS (Or.inl (List.mem_of_getElem? (i := 0) rfl)) (allS (Or.inl (List.mem_of_getElem? (i := 2) rfl)) (allS (Or.inl (List.mem_of_getElem? (i := 3) rfl)) all0)))
  show Gl p e below _ (T228.setTop (mkF m 231 _ [(.ref o0)]))
  refine Gl.goto Y228 dK_231 (by decide) rfl ?_
  have f15 := ((((Exa.wr W141_3 (Exa.wr W141_2 (Exa.wr W141 E_o1))).keep K183).keep K197).keep K228)
  have f16 := (((f9.keep K183 (ninS (Ne.symm n_o0_o1) (ninS n_o1_o2 (ninS n_o1_o3 nin0)))).keep K197 (ninS (Ne.symm n_o0_o1) (ninS n_o1_o2 (ninS n_o1_o3 nin0)))).keep K228 (ninS (Ne.symm n_o0_o1) (ninS n_o1_o2 (ninS n_o1_o3 nin0))))
  have f17 := ((((Fld.other W141_3 (Fld.other W141_2 (Fld.other W141 F_o1_work (Or.inl n_o1_o3)) (Or.inl n_o1_o3)) (Or.inl n_o1_o3)).keep K183 (ninS (Ne.symm n_o0_o1) (ninS n_o1_o2 (ninS n_o1_o3 nin0)))).keep K197 (ninS (Ne.symm n_o0_o1) (ninS n_o1_o2 (ninS n_o1_o3 nin0)))).keep K228 (ninS (Ne.symm n_o0_o1) (ninS n_o1_o2 (ninS n_o1_o3 nin0))))
  have f18 := (((f10.keep K183 (ninS (Ne.symm n_o0_o4) (ninS (Ne.symm n_o2_o4) (ninS (Ne.symm n_o3_o4) nin0)))).keep K197 (ninS (Ne.symm n_o0_o4) (ninS (Ne.symm n_o2_o4) (ninS (Ne.symm n_o3_o4) nin0)))).keep K228 (ninS (Ne.symm n_o0_o4) (ninS (Ne.symm n_o2_o4) (ninS (Ne.symm n_o3_o4) nin0))))
  exact Gl.retA Y228 (by decide) (by decide) rfl rfl dK_235 ⟨rfl, KK228, f228_0, f15, f228_1, f228_2, f16, f17, f228_3, f228_4, f18⟩
def RA115 : Room := { frames := 1, cells := 0, slots := 0, locals := 12 }
def QA115 (Z : State) (o0 : Addr) (o1 : Addr) (o2 : Addr) (k_o1 : ClassId) (k_o2 : ClassId) (h0 : Heap) (v : Option Value) (h : Heap) : Prop := v = some (.int 0) ∧ h0 = h
theorem efA115 (o0 : Addr) (m : MethodId) : entryFrame m #[(.ref o0)] 1 = mkF m 0 #[.val (.ref o0)] [] := by first | (simp [entryFrame, mkF, argsToLocals, Value.category]; done) | rfl
theorem rmA115 (l : Launch) (Z : State) (a0 : Array Value) (hw : HW a0 Z) (ws : List Jvm.Cond) (o0 : Addr) (o1 : Addr) (o2 : Addr) (k_o1 : ClassId) (k_o2 : ClassId) (h0 : Heap) (n0 : Nat) (Z0 : n0 ≤ h0.size) (E_o0 : Exa Z h0 o0 kW) (F_o0_words : Fld Z h0 o0 kW "words" "[J" (.ref o1)) (F_o0_work : Fld Z h0 o0 kW "work" "[J" (.ref o2)) (g_o0 : n0 ≤ o0) (V_o1 : Arv Z h0 o1 k_o1 .long (3 : Int32) [(.long (-9223372036854775808)), (.long (-9223372036854775808)), (.long (-1))] (.long 0)) (g_o1 : n0 ≤ o1) (V_o2 : Arv Z h0 o2 k_o2 .long (8 : Int32) [(.long 6148914691236517205), (.long 0), (.long 0), (.long 0), (.long 0), (.long 0), (.long 0), (.long 0)] (.long 0)) (g_o2 : n0 ≤ o2) (n_o0_o1 : own_ne o0 o1) (n_o0_o2 : own_ne o0 o2) (n_o1_o2 : own_ne o1 o2) : OMet l Z ws (⟨"com/example/meterwise/meterwise/model/WholeNumber", "overflowed", "()Z"⟩ : MethodName) prog_137_method_8_code 1 (some .boolean) RA115 #[(.ref o0)] h0 n0 (QA115 Z o0 o1 o2 k_o1 k_o2 h0) := by
  refine OMet.of (own := "com/example/meterwise/meterwise/model/WholeNumber") rfl (plainFor_of_name pn_0) (efA115 o0) Z0 ?_
  intro p e s m below meth c T0 Y0 hnm
  refine Gl.aloadN Y0 rfl rfl dI_0 rfl ?_
  refine Gl.callP Y0 (tw_41 hw) (tw_42 hw) (tw_43 hw) (tw_2 hw) (tw_3 hw) (tw_44 hw) (by decide) E_o0 (rm17 l Z a0 hw [] o0 o1 k_o1 (-9223372036854775808 : Int64) (-9223372036854775808 : Int64) (-1 : Int64) h0 n0 Y0.sz E_o0 F_o0_words V_o1) (a := o0) (argsL := []) (rest := []) rfl rfl (lenOf pd_4 rfl) rfl (by decide) (Nat.le_of_ble_eq_true rfl) (by decide) (by decide) dI_1 rfl (fun v1 T1 h1 Y1 q1 => ?_)
  obtain ⟨rfl, rfl⟩ := q1
  show Gl p e below _ (T1.setTop (mkF m 4 _ [(.long (-1))]))
  refine Gl.ldcJ Y1 (tw_45 hw) dI_4 rfl ?_
  refine Gl.lcmpne Y1 dI_7 rfl dI_8 (by decide) rfl rfl (fun c8 => ?_) (fun c8 => ?_)
  rotate_left
  · exact absurd c8 (by decide)
  refine Gl.iconst Y1 (v := (0 : Int32)) (by decide) dI_22 rfl ?_
  exact Gl.retZ Y1 (by decide) (by decide) (x' := (0 : Int32)) (by decide) dI_23 ⟨rfl, rfl⟩
def RA117 : Room := { frames := 2, cells := 0, slots := 0, locals := 24 }
def QA117 (Z : State) (o0 : Addr) (o1 : Addr) (o2 : Addr) (o3 : Addr) (o4 : Addr) (k_o2 : ClassId) (k_o3 : ClassId) (k_o4 : ClassId) (p0 : Int64) (d0 : Int64) (d1 : Int64) (d2 : Int64) (d3 : Int64) (d4 : Int64) (d5 : Int64) (d6 : Int64) (d7 : Int64) (h0 : Heap) (v : Option Value) (h : Heap) : Prop := v = some (.ref o0) ∧ Keep h0 h [o0, o1, o2, o3, o4] ∧ Exa Z h o0 kW ∧ Exa Z h o1 kW ∧ Fld Z h o0 kW "words" "[J" (.ref o2) ∧ Fld Z h o0 kW "work" "[J" (.ref o3) ∧ Fld Z h o1 kW "words" "[J" (.ref o4) ∧ Fld Z h o1 kW "work" "[J" .null ∧ Arv Z h o2 k_o2 .long (3 : Int32) [(.long d2), (.long (-9223372036854775808)), (.long (-1))] (.long 0) ∧ Arv Z h o3 k_o3 .long (8 : Int32) [(.long 6148914691236517205), (.long 0), (.long 0), (.long 0), (.long 0), (.long 0), (.long 0), (.long 0)] (.long 0) ∧ Arv Z h o4 k_o4 .long (3 : Int32) [(.long p0), (.long (-1)), (.long (-1))] (.long 0)
theorem efA117 (o0 : Addr) (o1 : Addr) (m : MethodId) : entryFrame m #[(.ref o0), (.ref o1), (.int 0)] 21 = mkF m 0 #[.val (.ref o0), .val (.ref o1), .val (.int 0), .unset, .unset, .unset, .unset, .unset, .unset, .unset, .unset, .unset, .unset, .unset, .unset, .unset, .unset, .unset, .unset, .unset, .unset] [] := by first | (simp [entryFrame, mkF, argsToLocals, Value.category]; done) | rfl
theorem rmA117 (l : Launch) (Z : State) (a0 : Array Value) (hw : HW a0 Z) (ws : List Jvm.Cond) (o0 : Addr) (o1 : Addr) (o2 : Addr) (o3 : Addr) (o4 : Addr) (k_o2 : ClassId) (k_o3 : ClassId) (k_o4 : ClassId) (p0 : Int64) (d0 : Int64) (d1 : Int64) (d2 : Int64) (d3 : Int64) (d4 : Int64) (d5 : Int64) (d6 : Int64) (d7 : Int64) (h0 : Heap) (n0 : Nat) (Z0 : n0 ≤ h0.size) (E_o0 : Exa Z h0 o0 kW) (F_o0_words : Fld Z h0 o0 kW "words" "[J" (.ref o2)) (F_o0_work : Fld Z h0 o0 kW "work" "[J" (.ref o3)) (g_o0 : n0 ≤ o0) (E_o1 : Exa Z h0 o1 kW) (F_o1_words : Fld Z h0 o1 kW "words" "[J" (.ref o4)) (F_o1_work : Fld Z h0 o1 kW "work" "[J" .null) (g_o1 : n0 ≤ o1) (V_o2 : Arv Z h0 o2 k_o2 .long (3 : Int32) [(.long (-9223372036854775808)), (.long (-9223372036854775808)), (.long (-1))] (.long 0)) (g_o2 : n0 ≤ o2) (V_o3 : Arv Z h0 o3 k_o3 .long (8 : Int32) [(.long 6148914691236517205), (.long 0), (.long 0), (.long 0), (.long 0), (.long 0), (.long 0), (.long 0)] (.long 0)) (g_o3 : n0 ≤ o3) (V_o4 : Arv Z h0 o4 k_o4 .long (3 : Int32) [(.long p0), (.long (-1)), (.long (-1))] (.long 0)) (g_o4 : n0 ≤ o4) (n_o0_o1 : own_ne o0 o1) (n_o0_o2 : own_ne o0 o2) (n_o0_o3 : own_ne o0 o3) (n_o0_o4 : own_ne o0 o4) (n_o1_o2 : own_ne o1 o2) (n_o1_o3 : own_ne o1 o3) (n_o1_o4 : own_ne o1 o4) (n_o2_o3 : own_ne o2 o3) (n_o2_o4 : own_ne o2 o4) (n_o3_o4 : own_ne o3 o4) (hd0 : p0 ^^^ (0 : Int64) = d0) (hd1 : (-9223372036854775808 : Int64) + d0 = d1) (hd2 : d1 + (0 : Int64) = d2) (hd3 : (-9223372036854775808 : Int64) &&& d0 = d3) (hd4 : (-9223372036854775808 : Int64) ||| d0 = d4) (hd5 : d2 ^^^ (-1 : Int64) = d5) (hd6 : d4 &&& d5 = d6) (hd7 : d3 ||| d6 = d7) (hd8 : (d7.toUInt64 >>> ((63 : Int32) &&& 0x3f).toInt64.toUInt64).toInt64 = (1 : Int64)) : OMet l Z ws (⟨"com/example/meterwise/meterwise/model/WholeNumber", "add", "(Lcom/example/meterwise/meterwise/model/WholeNumber;Z)Lcom/example/meterwise/meterwise/model/WholeNumber;"⟩ : MethodName) prog_137_method_14_code 21 (some (.object "com/example/meterwise/meterwise/model/WholeNumber")) RA117 #[(.ref o0), (.ref o1), (.int 0)] h0 n0 (QA117 Z o0 o1 o2 o3 o4 k_o2 k_o3 k_o4 p0 d0 d1 d2 d3 d4 d5 d6 d7 h0) := by
  refine OMet.of (own := "com/example/meterwise/meterwise/model/WholeNumber") rfl (plainFor_of_name pn_0) (efA117 o0 o1) Z0 ?_
  intro p e s m below meth c T0 Y0 hnm
  refine Gl.aloadN Y0 rfl rfl dM_0 rfl ?_
  refine Gl.callV Y0 (tw_36 hw) (tw_37 hw) (tw_39 hw) (tw_39 hw) (tw_38 hw) (tw_3 hw) (tw_40 hw) (by decide) E_o0 (rmA115 l Z a0 hw [] o0 o2 o3 k_o2 k_o3 h0 n0 Y0.sz E_o0 F_o0_words F_o0_work g_o0 V_o2 g_o2 V_o3 g_o3 n_o0_o2 n_o0_o3 n_o2_o3) (a := o0) (argsL := []) (rest := []) rfl rfl (lenOf pd_5 rfl) rfl (by decide) (Nat.le_of_ble_eq_true rfl) (by decide) (by decide) dM_1 rfl (fun v1 T1 h1 Y1 q1 => ?_)
  obtain ⟨rfl, rfl⟩ := q1
  show Gl p e below _ (T1.setTop (mkF m 4 _ [(.int 0)]))
  refine Gl.ifne Y1 dM_4 (by decide) rfl rfl (fun c4 => ?_) (fun c4 => ?_)
  · exact absurd c4 (by decide)
  refine Gl.aloadN Y1 rfl rfl dM_7 rfl ?_
  refine Gl.callV Y1 (tw_36 hw) (tw_37 hw) (tw_39 hw) (tw_39 hw) (tw_38 hw) (tw_3 hw) (tw_40 hw) (by decide) E_o1 (rmA89 l Z a0 hw [] o1 o4 k_o4 p0 h0 n0 Y1.sz E_o1 F_o1_words F_o1_work g_o1 V_o4 g_o4 n_o1_o4) (a := o1) (argsL := []) (rest := []) rfl rfl (lenOf pd_5 rfl) rfl (by decide) (Nat.le_of_ble_eq_true rfl) (by decide) (by decide) dM_8 rfl (fun v8 T8 h8 Y8 q8 => ?_)
  obtain ⟨rfl, rfl⟩ := q8
  show Gl p e below _ (T8.setTop (mkF m 11 _ [(.int 0)]))
  refine Gl.ifeq Y8 dM_11 (by decide) rfl rfl (fun c11 => ?_) (fun c11 => ?_)
  rotate_left
  · exact absurd c11 (by decide)
  refine Gl.aloadN Y8 rfl rfl dM_19 rfl ?_
  refine Gl.getF Y8 (host := "") (Or.inl (tw_15 hw)) Via.refl F_o1_words dM_20 rfl (fun T20 Y20 => ?_)
  refine Gl.astoreN Y20 rfl (L' := #[.val (.ref o0), .val (.ref o1), .val (.int 0), .val (.ref o4), .unset, .unset, .unset, .unset, .unset, .unset, .unset, .unset, .unset, .unset, .unset, .unset, .unset, .unset, .unset, .unset, .unset]) rfl dM_23 rfl ?_
  refine Gl.aloadN Y20 rfl rfl dM_24 rfl ?_
  refine Gl.getF Y20 (host := "") (Or.inl (tw_15 hw)) Via.refl F_o0_words dM_25 rfl (fun T25 Y25 => ?_)
  refine Gl.arraylength Y25 V_o2 dM_28 rfl ?_
  refine Gl.aloadN Y25 rfl rfl dM_29 rfl ?_
  refine Gl.arraylength Y25 V_o4 dM_30 rfl ?_
  refine Gl.callS Y25 (tw_106 hw) (tw_107 hw) (tw_95 hw) (tw_108 hw) (by decide) (rm23 l Z a0 hw [] h0 n0 Y25.sz) (argsL := [(.int 3), (.int 3)]) (rest := []) rfl rfl (lenOf pd_15 rfl) rfl (by decide) (Nat.le_of_ble_eq_true rfl) (by decide) (by decide) dM_31 rfl (fun v31 T31 h31 Y31 q31 => ?_)
  obtain ⟨rfl, rfl⟩ := q31
  show Gl p e below _ (T31.setTop (mkF m 34 _ [(.int 3)]))
  refine Gl.istore Y31 (L' := #[.val (.ref o0), .val (.ref o1), .val (.int 0), .val (.ref o4), .val (.int 3), .unset, .unset, .unset, .unset, .unset, .unset, .unset, .unset, .unset, .unset, .unset, .unset, .unset, .unset, .unset, .unset]) rfl dM_34 rfl ?_
  refine Gl.aloadN Y31 rfl rfl dM_36 rfl ?_
  refine Gl.callP Y31 (tw_41 hw) (tw_42 hw) (tw_43 hw) (tw_2 hw) (tw_3 hw) (tw_44 hw) (by decide) E_o0 (rm17 l Z a0 hw [] o0 o2 k_o2 (-9223372036854775808 : Int64) (-9223372036854775808 : Int64) (-1 : Int64) h0 n0 Y31.sz E_o0 F_o0_words V_o2) (a := o0) (argsL := []) (rest := []) rfl rfl (lenOf pd_4 rfl) rfl (by decide) (Nat.le_of_ble_eq_true rfl) (by decide) (by decide) dM_37 rfl (fun v37 T37 h37 Y37 q37 => ?_)
  obtain ⟨rfl, rfl⟩ := q37
  show Gl p e below _ (T37.setTop (mkF m 40 _ [(.long (-1))]))
  refine Gl.bipush Y37 (v := (63 : Int32)) (by decide) dM_40 rfl ?_
  refine Gl.lshr Y37 (r := (-1 : Int64)) (by decide) dM_42 rfl ?_
  refine Gl.lstore Y37 (L' := #[.val (.ref o0), .val (.ref o1), .val (.int 0), .val (.ref o4), .val (.int 3), .val (.long (-1)), .second, .unset, .unset, .unset, .unset, .unset, .unset, .unset, .unset, .unset, .unset, .unset, .unset, .unset, .unset]) rfl dM_43 rfl ?_
  refine Gl.aloadN Y37 rfl rfl dM_45 rfl ?_
  refine Gl.aloadN Y37 rfl rfl dM_46 rfl ?_
  refine Gl.arraylength Y37 V_o4 dM_47 rfl ?_
  refine Gl.iconst Y37 (v := (1 : Int32)) (by decide) dM_48 rfl ?_
  refine Gl.isub Y37 (r := (2 : Int32)) (by decide) dM_49 rfl ?_
  refine Gl.laload Y37 V_o4 ⟨by decide, by decide⟩ (v := (.long (-1))) rfl dM_50 rfl ?_
  refine Gl.bipush Y37 (v := (63 : Int32)) (by decide) dM_51 rfl ?_
  refine Gl.lshr Y37 (r := (-1 : Int64)) (by decide) dM_53 rfl ?_
  refine Gl.lstore Y37 (L' := #[.val (.ref o0), .val (.ref o1), .val (.int 0), .val (.ref o4), .val (.int 3), .val (.long (-1)), .second, .val (.long (-1)), .second, .unset, .unset, .unset, .unset, .unset, .unset, .unset, .unset, .unset, .unset, .unset, .unset]) rfl dM_54 rfl ?_
  refine Gl.iloadN Y37 rfl dM_56 rfl ?_
  refine Gl.ifeq Y37 dM_57 (by decide) rfl rfl (fun c57 => ?_) (fun c57 => ?_)
  rotate_left
  · exact absurd c57 (by decide)
  refine Gl.lconst Y37 (v := (0 : Int64)) (by decide) dM_66 rfl ?_
  refine Gl.lstore Y37 (L' := #[.val (.ref o0), .val (.ref o1), .val (.int 0), .val (.ref o4), .val (.int 3), .val (.long (-1)), .second, .val (.long (-1)), .second, .val (.long 0), .second, .unset, .unset, .unset, .unset, .unset, .unset, .unset, .unset, .unset, .unset]) rfl dM_67 rfl ?_
  refine Gl.iloadN Y37 rfl dM_69 rfl ?_
  refine Gl.ifeq Y37 dM_70 (by decide) rfl rfl (fun c70 => ?_) (fun c70 => ?_)
  rotate_left
  · exact absurd c70 (by decide)
  refine Gl.lconst Y37 (v := (0 : Int64)) (by decide) dM_77 rfl ?_
  refine Gl.lstore Y37 (L' := #[.val (.ref o0), .val (.ref o1), .val (.int 0), .val (.ref o4), .val (.int 3), .val (.long (-1)), .second, .val (.long (-1)), .second, .val (.long 0), .second, .val (.long 0), .second, .unset, .unset, .unset, .unset, .unset, .unset, .unset, .unset]) rfl dM_78 rfl ?_
  refine Gl.lconst Y37 (v := (0 : Int64)) (by decide) dM_80 rfl ?_
  refine Gl.lstore Y37 (L' := #[.val (.ref o0), .val (.ref o1), .val (.int 0), .val (.ref o4), .val (.int 3), .val (.long (-1)), .second, .val (.long (-1)), .second, .val (.long 0), .second, .val (.long 0), .second, .val (.long 0), .second, .unset, .unset, .unset, .unset, .unset, .unset]) rfl dM_81 rfl ?_
  refine Gl.lconst Y37 (v := (0 : Int64)) (by decide) dM_83 rfl ?_
  refine Gl.lstore Y37 (L' := #[.val (.ref o0), .val (.ref o1), .val (.int 0), .val (.ref o4), .val (.int 3), .val (.long (-1)), .second, .val (.long (-1)), .second, .val (.long 0), .second, .val (.long 0), .second, .val (.long 0), .second, .val (.long 0), .second, .unset, .unset, .unset, .unset]) rfl dM_84 rfl ?_
  refine Gl.lconst Y37 (v := (0 : Int64)) (by decide) dM_86 rfl ?_
  refine Gl.lstore Y37 (L' := #[.val (.ref o0), .val (.ref o1), .val (.int 0), .val (.ref o4), .val (.int 3), .val (.long (-1)), .second, .val (.long (-1)), .second, .val (.long 0), .second, .val (.long 0), .second, .val (.long 0), .second, .val (.long 0), .second, .val (.long 0), .second, .unset, .unset]) rfl dM_87 rfl ?_
  refine Gl.iconst Y37 (v := (1 : Int32)) (by decide) dM_89 rfl ?_
  refine Gl.istore Y37 (L' := #[.val (.ref o0), .val (.ref o1), .val (.int 0), .val (.ref o4), .val (.int 3), .val (.long (-1)), .second, .val (.long (-1)), .second, .val (.long 0), .second, .val (.long 0), .second, .val (.long 0), .second, .val (.long 0), .second, .val (.long 0), .second, .val (.int 1), .unset]) rfl dM_90 rfl ?_
  refine Gl.iconst Y37 (v := (0 : Int32)) (by decide) dM_92 rfl ?_
  refine Gl.istore Y37 (L' := #[.val (.ref o0), .val (.ref o1), .val (.int 0), .val (.ref o4), .val (.int 3), .val (.long (-1)), .second, .val (.long (-1)), .second, .val (.long 0), .second, .val (.long 0), .second, .val (.long 0), .second, .val (.long 0), .second, .val (.long 0), .second, .val (.int 1), .val (.int 0)]) rfl dM_93 rfl ?_
  refine Gl.iload Y37 rfl dM_95 rfl ?_
  refine Gl.iload Y37 rfl dM_97 rfl ?_
  refine Gl.icmpge Y37 dM_99 (by decide) rfl rfl (fun c99 => ?_) (fun c99 => ?_)
  · exact absurd c99 (by decide)
  refine Gl.iload Y37 rfl dM_102 rfl ?_
  refine Gl.aloadN Y37 rfl rfl dM_104 rfl ?_
  refine Gl.getF Y37 (host := "") (Or.inl (tw_15 hw)) Via.refl F_o0_words dM_105 rfl (fun T105 Y105 => ?_)
  refine Gl.arraylength Y105 V_o2 dM_108 rfl ?_
  refine Gl.icmpge Y105 dM_109 (by decide) rfl rfl (fun c109 => ?_) (fun c109 => ?_)
  · exact absurd c109 (by decide)
  refine Gl.aloadN Y105 rfl rfl dM_112 rfl ?_
  refine Gl.getF Y105 (host := "") (Or.inl (tw_15 hw)) Via.refl F_o0_words dM_113 rfl (fun T113 Y113 => ?_)
  refine Gl.iload Y113 rfl dM_116 rfl ?_
  refine Gl.laload Y113 V_o2 ⟨by decide, by decide⟩ (v := (.long (-9223372036854775808))) rfl dM_118 rfl ?_
  refine Gl.goto Y113 dM_119 (by decide) rfl ?_
  refine Gl.lstore Y113 (L' := #[.val (.ref o0), .val (.ref o1), .val (.int 0), .val (.ref o4), .val (.int 3), .val (.long (-1)), .second, .val (.long (-1)), .second, .val (.long 0), .second, .val (.long 0), .second, .val (.long (-9223372036854775808)), .second, .val (.long 0), .second, .val (.long 0), .second, .val (.int 1), .val (.int 0)]) rfl dM_124 rfl ?_
  refine Gl.iload Y113 rfl dM_126 rfl ?_
  refine Gl.aloadN Y113 rfl rfl dM_128 rfl ?_
  refine Gl.arraylength Y113 V_o4 dM_129 rfl ?_
  refine Gl.icmpge Y113 dM_130 (by decide) rfl rfl (fun c130 => ?_) (fun c130 => ?_)
  · exact absurd c130 (by decide)
  refine Gl.aloadN Y113 rfl rfl dM_133 rfl ?_
  refine Gl.iload Y113 rfl dM_134 rfl ?_
  refine Gl.laload Y113 V_o4 ⟨by decide, by decide⟩ (v := (.long p0)) rfl dM_136 rfl ?_
  refine Gl.goto Y113 dM_137 (by decide) rfl ?_
  refine Gl.lload Y113 rfl dM_142 rfl ?_
  refine Gl.lxor Y113 hd0 dM_144 rfl ?_
  refine Gl.lstore Y113 (L' := #[.val (.ref o0), .val (.ref o1), .val (.int 0), .val (.ref o4), .val (.int 3), .val (.long (-1)), .second, .val (.long (-1)), .second, .val (.long 0), .second, .val (.long 0), .second, .val (.long (-9223372036854775808)), .second, .val (.long d0), .second, .val (.long 0), .second, .val (.int 1), .val (.int 0)]) rfl dM_145 rfl ?_
  refine Gl.lload Y113 rfl dM_147 rfl ?_
  refine Gl.lload Y113 rfl dM_149 rfl ?_
  refine Gl.ladd Y113 hd1 dM_151 rfl ?_
  refine Gl.lload Y113 rfl dM_152 rfl ?_
  refine Gl.ladd Y113 hd2 dM_154 rfl ?_
  refine Gl.lstore Y113 (L' := #[.val (.ref o0), .val (.ref o1), .val (.int 0), .val (.ref o4), .val (.int 3), .val (.long (-1)), .second, .val (.long (-1)), .second, .val (.long 0), .second, .val (.long 0), .second, .val (.long (-9223372036854775808)), .second, .val (.long d0), .second, .val (.long d2), .second, .val (.int 1), .val (.int 0)]) rfl dM_155 rfl ?_
  refine Gl.lload Y113 rfl dM_157 rfl ?_
  refine Gl.lload Y113 rfl dM_159 rfl ?_
  refine Gl.land Y113 hd3 dM_161 rfl ?_
  refine Gl.lload Y113 rfl dM_162 rfl ?_
  refine Gl.lload Y113 rfl dM_164 rfl ?_
  refine Gl.lor Y113 hd4 dM_166 rfl ?_
  refine Gl.lload Y113 rfl dM_167 rfl ?_
  refine Gl.ldcJ Y113 (tw_85 hw) dM_169 rfl ?_
  refine Gl.lxor Y113 hd5 dM_172 rfl ?_
  refine Gl.land Y113 hd6 dM_173 rfl ?_
  refine Gl.lor Y113 hd7 dM_174 rfl ?_
  refine Gl.bipush Y113 (v := (63 : Int32)) (by decide) dM_175 rfl ?_
  refine Gl.lushr Y113 (r := (1 : Int64)) hd8 dM_177 rfl ?_
  refine Gl.lstore Y113 (L' := #[.val (.ref o0), .val (.ref o1), .val (.int 0), .val (.ref o4), .val (.int 3), .val (.long (-1)), .second, .val (.long (-1)), .second, .val (.long 0), .second, .val (.long 1), .second, .val (.long (-9223372036854775808)), .second, .val (.long d0), .second, .val (.long d2), .second, .val (.int 1), .val (.int 0)]) rfl dM_178 rfl ?_
  refine Gl.iload Y113 rfl dM_180 rfl ?_
  refine Gl.aloadN Y113 rfl rfl dM_182 rfl ?_
  refine Gl.getF Y113 (host := "") (Or.inl (tw_15 hw)) Via.refl F_o0_words dM_183 rfl (fun T183 Y183 => ?_)
  refine Gl.arraylength Y183 V_o2 dM_186 rfl ?_
  refine Gl.icmpge Y183 dM_187 (by decide) rfl rfl (fun c187 => ?_) (fun c187 => ?_)
  · exact absurd c187 (by decide)
  refine Gl.aloadN Y183 rfl rfl dM_190 rfl ?_
  refine Gl.getF Y183 (host := "") (Or.inl (tw_15 hw)) Via.refl F_o0_words dM_191 rfl (fun T191 Y191 => ?_)
  refine Gl.iload Y191 rfl dM_194 rfl ?_
  refine Gl.lload Y191 rfl dM_196 rfl ?_
  refine Gl.lastore Y191 V_o2 (v := (.long d2)) rfl ⟨by decide, by decide⟩ (ix := 0) rfl (Nat.le_of_ble_eq_true rfl) g_o2 dM_198 rfl (fun T198 h198 Y198 W198 A198 => ?_)
  have A198 : Arv Z h198 o2 k_o2 .long (3 : Int32) [(.long d2), (.long (-9223372036854775808)), (.long (-1))] (.long 0) := A198
  have K198 : Keep h0 h198 [o0, o1, o2, o3, o4] := (Keep.refl h0 [o0, o1, o2, o3, o4]).wr W198 (Or.inl (List.mem_of_getElem? (i := 2) rfl))
  show Gl p e below _ (T198.setTop (mkF m 199 _ []))
  refine Gl.goto Y198 dM_199 (by decide) rfl ?_
  refine Gl.iinc Y198 rfl (r := (1 : Int32)) (by decide) (L' := #[.val (.ref o0), .val (.ref o1), .val (.int 0), .val (.ref o4), .val (.int 3), .val (.long (-1)), .second, .val (.long (-1)), .second, .val (.long 0), .second, .val (.long 1), .second, .val (.long (-9223372036854775808)), .second, .val (.long d0), .second, .val (.long d2), .second, .val (.int 1), .val (.int 1)]) rfl dM_225 rfl ?_
  refine Gl.goto Y198 dM_228 (by decide) rfl ?_
  refine Gl.iload Y198 rfl dM_95 rfl ?_
  refine Gl.iload Y198 rfl dM_97 rfl ?_
  refine Gl.icmpge Y198 dM_99 (by decide) rfl rfl (fun c99_2 => ?_) (fun c99_2 => ?_)
  · exact absurd c99_2 (by decide)
  refine Gl.iload Y198 rfl dM_102 rfl ?_
  refine Gl.aloadN Y198 rfl rfl dM_104 rfl ?_
  have f1 := (Fld.other W198 F_o0_words (Or.inl n_o0_o2))
  refine Gl.getF Y198 (host := "") (Or.inl (tw_15 hw)) Via.refl f1 dM_105 rfl (fun T105_2 Y105_2 => ?_)
  refine Gl.arraylength Y105_2 A198 dM_108 rfl ?_
  refine Gl.icmpge Y105_2 dM_109 (by decide) rfl rfl (fun c109_2 => ?_) (fun c109_2 => ?_)
  · exact absurd c109_2 (by decide)
  refine Gl.aloadN Y105_2 rfl rfl dM_112 rfl ?_
  refine Gl.getF Y105_2 (host := "") (Or.inl (tw_15 hw)) Via.refl f1 dM_113 rfl (fun T113_2 Y113_2 => ?_)
  refine Gl.iload Y113_2 rfl dM_116 rfl ?_
  refine Gl.laload Y113_2 A198 ⟨by decide, by decide⟩ (v := (.long (-9223372036854775808))) rfl dM_118 rfl ?_
  refine Gl.goto Y113_2 dM_119 (by decide) rfl ?_
  refine Gl.lstore Y113_2 (L' := #[.val (.ref o0), .val (.ref o1), .val (.int 0), .val (.ref o4), .val (.int 3), .val (.long (-1)), .second, .val (.long (-1)), .second, .val (.long 0), .second, .val (.long 1), .second, .val (.long (-9223372036854775808)), .second, .val (.long d0), .second, .val (.long d2), .second, .val (.int 1), .val (.int 1)]) rfl dM_124 rfl ?_
  refine Gl.iload Y113_2 rfl dM_126 rfl ?_
  refine Gl.aloadN Y113_2 rfl rfl dM_128 rfl ?_
  have f2 := (V_o4.other W198 (Ne.symm n_o2_o4))
  refine Gl.arraylength Y113_2 f2 dM_129 rfl ?_
  refine Gl.icmpge Y113_2 dM_130 (by decide) rfl rfl (fun c130_2 => ?_) (fun c130_2 => ?_)
  · exact absurd c130_2 (by decide)
  refine Gl.aloadN Y113_2 rfl rfl dM_133 rfl ?_
  refine Gl.iload Y113_2 rfl dM_134 rfl ?_
  refine Gl.laload Y113_2 f2 ⟨by decide, by decide⟩ (v := (.long (-1))) rfl dM_136 rfl ?_
  refine Gl.goto Y113_2 dM_137 (by decide) rfl ?_
  refine Gl.lload Y113_2 rfl dM_142 rfl ?_
  refine Gl.lxor Y113_2 (r := (-1 : Int64)) (by decide) dM_144 rfl ?_
  refine Gl.lstore Y113_2 (L' := #[.val (.ref o0), .val (.ref o1), .val (.int 0), .val (.ref o4), .val (.int 3), .val (.long (-1)), .second, .val (.long (-1)), .second, .val (.long 0), .second, .val (.long 1), .second, .val (.long (-9223372036854775808)), .second, .val (.long (-1)), .second, .val (.long d2), .second, .val (.int 1), .val (.int 1)]) rfl dM_145 rfl ?_
  refine Gl.lload Y113_2 rfl dM_147 rfl ?_
  refine Gl.lload Y113_2 rfl dM_149 rfl ?_
  refine Gl.ladd Y113_2 (r := (9223372036854775807 : Int64)) (by decide) dM_151 rfl ?_
  refine Gl.lload Y113_2 rfl dM_152 rfl ?_
  refine Gl.ladd Y113_2 (r := (-9223372036854775808 : Int64)) (by decide) dM_154 rfl ?_
  refine Gl.lstore Y113_2 (L' := #[.val (.ref o0), .val (.ref o1), .val (.int 0), .val (.ref o4), .val (.int 3), .val (.long (-1)), .second, .val (.long (-1)), .second, .val (.long 0), .second, .val (.long 1), .second, .val (.long (-9223372036854775808)), .second, .val (.long (-1)), .second, .val (.long (-9223372036854775808)), .second, .val (.int 1), .val (.int 1)]) rfl dM_155 rfl ?_
  refine Gl.lload Y113_2 rfl dM_157 rfl ?_
  refine Gl.lload Y113_2 rfl dM_159 rfl ?_
  refine Gl.land Y113_2 (r := (-9223372036854775808 : Int64)) (by decide) dM_161 rfl ?_
  refine Gl.lload Y113_2 rfl dM_162 rfl ?_
  refine Gl.lload Y113_2 rfl dM_164 rfl ?_
  refine Gl.lor Y113_2 (r := (-1 : Int64)) (by decide) dM_166 rfl ?_
  refine Gl.lload Y113_2 rfl dM_167 rfl ?_
  refine Gl.ldcJ Y113_2 (tw_85 hw) dM_169 rfl ?_
  refine Gl.lxor Y113_2 (r := (9223372036854775807 : Int64)) (by decide) dM_172 rfl ?_
  refine Gl.land Y113_2 (r := (9223372036854775807 : Int64)) (by decide) dM_173 rfl ?_
  refine Gl.lor Y113_2 (r := (-1 : Int64)) (by decide) dM_174 rfl ?_
  refine Gl.bipush Y113_2 (v := (63 : Int32)) (by decide) dM_175 rfl ?_
  refine Gl.lushr Y113_2 (r := (1 : Int64)) (by decide) dM_177 rfl ?_
  refine Gl.lstore Y113_2 (L' := #[.val (.ref o0), .val (.ref o1), .val (.int 0), .val (.ref o4), .val (.int 3), .val (.long (-1)), .second, .val (.long (-1)), .second, .val (.long 0), .second, .val (.long 1), .second, .val (.long (-9223372036854775808)), .second, .val (.long (-1)), .second, .val (.long (-9223372036854775808)), .second, .val (.int 1), .val (.int 1)]) rfl dM_178 rfl ?_
  refine Gl.iload Y113_2 rfl dM_180 rfl ?_
  refine Gl.aloadN Y113_2 rfl rfl dM_182 rfl ?_
  refine Gl.getF Y113_2 (host := "") (Or.inl (tw_15 hw)) Via.refl f1 dM_183 rfl (fun T183_2 Y183_2 => ?_)
  refine Gl.arraylength Y183_2 A198 dM_186 rfl ?_
  refine Gl.icmpge Y183_2 dM_187 (by decide) rfl rfl (fun c187_2 => ?_) (fun c187_2 => ?_)
  · exact absurd c187_2 (by decide)
  refine Gl.aloadN Y183_2 rfl rfl dM_190 rfl ?_
  refine Gl.getF Y183_2 (host := "") (Or.inl (tw_15 hw)) Via.refl f1 dM_191 rfl (fun T191_2 Y191_2 => ?_)
  refine Gl.iload Y191_2 rfl dM_194 rfl ?_
  refine Gl.lload Y191_2 rfl dM_196 rfl ?_
  refine Gl.lastore Y191_2 A198 (v := (.long (-9223372036854775808))) rfl ⟨by decide, by decide⟩ (ix := 1) rfl (Nat.le_of_ble_eq_true rfl) g_o2 dM_198 rfl (fun T198_2 h198_2 Y198_2 W198_2 A198_2 => ?_)
  have A198_2 : Arv Z h198_2 o2 k_o2 .long (3 : Int32) [(.long d2), (.long (-9223372036854775808)), (.long (-1))] (.long 0) := A198_2
  have K198_2 : Keep h0 h198_2 [o0, o1, o2, o3, o4] := K198.wr W198_2 (Or.inl (List.mem_of_getElem? (i := 2) rfl))
  show Gl p e below _ (T198_2.setTop (mkF m 199 _ []))
  refine Gl.goto Y198_2 dM_199 (by decide) rfl ?_
  refine Gl.iinc Y198_2 rfl (r := (2 : Int32)) (by decide) (L' := #[.val (.ref o0), .val (.ref o1), .val (.int 0), .val (.ref o4), .val (.int 3), .val (.long (-1)), .second, .val (.long (-1)), .second, .val (.long 0), .second, .val (.long 1), .second, .val (.long (-9223372036854775808)), .second, .val (.long (-1)), .second, .val (.long (-9223372036854775808)), .second, .val (.int 1), .val (.int 2)]) rfl dM_225 rfl ?_
  refine Gl.goto Y198_2 dM_228 (by decide) rfl ?_
  refine Gl.iload Y198_2 rfl dM_95 rfl ?_
  refine Gl.iload Y198_2 rfl dM_97 rfl ?_
  refine Gl.icmpge Y198_2 dM_99 (by decide) rfl rfl (fun c99_3 => ?_) (fun c99_3 => ?_)
  · exact absurd c99_3 (by decide)
  refine Gl.iload Y198_2 rfl dM_102 rfl ?_
  refine Gl.aloadN Y198_2 rfl rfl dM_104 rfl ?_
  have f3 := (Fld.other W198_2 f1 (Or.inl n_o0_o2))
  refine Gl.getF Y198_2 (host := "") (Or.inl (tw_15 hw)) Via.refl f3 dM_105 rfl (fun T105_3 Y105_3 => ?_)
  refine Gl.arraylength Y105_3 A198_2 dM_108 rfl ?_
  refine Gl.icmpge Y105_3 dM_109 (by decide) rfl rfl (fun c109_3 => ?_) (fun c109_3 => ?_)
  · exact absurd c109_3 (by decide)
  refine Gl.aloadN Y105_3 rfl rfl dM_112 rfl ?_
  refine Gl.getF Y105_3 (host := "") (Or.inl (tw_15 hw)) Via.refl f3 dM_113 rfl (fun T113_3 Y113_3 => ?_)
  refine Gl.iload Y113_3 rfl dM_116 rfl ?_
  refine Gl.laload Y113_3 A198_2 ⟨by decide, by decide⟩ (v := (.long (-1))) rfl dM_118 rfl ?_
  refine Gl.goto Y113_3 dM_119 (by decide) rfl ?_
  refine Gl.lstore Y113_3 (L' := #[.val (.ref o0), .val (.ref o1), .val (.int 0), .val (.ref o4), .val (.int 3), .val (.long (-1)), .second, .val (.long (-1)), .second, .val (.long 0), .second, .val (.long 1), .second, .val (.long (-1)), .second, .val (.long (-1)), .second, .val (.long (-9223372036854775808)), .second, .val (.int 1), .val (.int 2)]) rfl dM_124 rfl ?_
  refine Gl.iload Y113_3 rfl dM_126 rfl ?_
  refine Gl.aloadN Y113_3 rfl rfl dM_128 rfl ?_
  have f4 := (f2.other W198_2 (Ne.symm n_o2_o4))
  refine Gl.arraylength Y113_3 f4 dM_129 rfl ?_
  refine Gl.icmpge Y113_3 dM_130 (by decide) rfl rfl (fun c130_3 => ?_) (fun c130_3 => ?_)
  · exact absurd c130_3 (by decide)
  refine Gl.aloadN Y113_3 rfl rfl dM_133 rfl ?_
  refine Gl.iload Y113_3 rfl dM_134 rfl ?_
  refine Gl.laload Y113_3 f4 ⟨by decide, by decide⟩ (v := (.long (-1))) rfl dM_136 rfl ?_
  refine Gl.goto Y113_3 dM_137 (by decide) rfl ?_
  refine Gl.lload Y113_3 rfl dM_142 rfl ?_
  refine Gl.lxor Y113_3 (r := (-1 : Int64)) (by decide) dM_144 rfl ?_
  refine Gl.lstore Y113_3 (L' := #[.val (.ref o0), .val (.ref o1), .val (.int 0), .val (.ref o4), .val (.int 3), .val (.long (-1)), .second, .val (.long (-1)), .second, .val (.long 0), .second, .val (.long 1), .second, .val (.long (-1)), .second, .val (.long (-1)), .second, .val (.long (-9223372036854775808)), .second, .val (.int 1), .val (.int 2)]) rfl dM_145 rfl ?_
  refine Gl.lload Y113_3 rfl dM_147 rfl ?_
  refine Gl.lload Y113_3 rfl dM_149 rfl ?_
  refine Gl.ladd Y113_3 (r := (-2 : Int64)) (by decide) dM_151 rfl ?_
  refine Gl.lload Y113_3 rfl dM_152 rfl ?_
  refine Gl.ladd Y113_3 (r := (-1 : Int64)) (by decide) dM_154 rfl ?_
  refine Gl.lstore Y113_3 (L' := #[.val (.ref o0), .val (.ref o1), .val (.int 0), .val (.ref o4), .val (.int 3), .val (.long (-1)), .second, .val (.long (-1)), .second, .val (.long 0), .second, .val (.long 1), .second, .val (.long (-1)), .second, .val (.long (-1)), .second, .val (.long (-1)), .second, .val (.int 1), .val (.int 2)]) rfl dM_155 rfl ?_
  refine Gl.lload Y113_3 rfl dM_157 rfl ?_
  refine Gl.lload Y113_3 rfl dM_159 rfl ?_
  refine Gl.land Y113_3 (r := (-1 : Int64)) (by decide) dM_161 rfl ?_
  refine Gl.lload Y113_3 rfl dM_162 rfl ?_
  refine Gl.lload Y113_3 rfl dM_164 rfl ?_
  refine Gl.lor Y113_3 (r := (-1 : Int64)) (by decide) dM_166 rfl ?_
  refine Gl.lload Y113_3 rfl dM_167 rfl ?_
  refine Gl.ldcJ Y113_3 (tw_85 hw) dM_169 rfl ?_
  refine Gl.lxor Y113_3 (r := (0 : Int64)) (by decide) dM_172 rfl ?_
  refine Gl.land Y113_3 (r := (0 : Int64)) (by decide) dM_173 rfl ?_
  refine Gl.lor Y113_3 (r := (-1 : Int64)) (by decide) dM_174 rfl ?_
  refine Gl.bipush Y113_3 (v := (63 : Int32)) (by decide) dM_175 rfl ?_
  refine Gl.lushr Y113_3 (r := (1 : Int64)) (by decide) dM_177 rfl ?_
  refine Gl.lstore Y113_3 (L' := #[.val (.ref o0), .val (.ref o1), .val (.int 0), .val (.ref o4), .val (.int 3), .val (.long (-1)), .second, .val (.long (-1)), .second, .val (.long 0), .second, .val (.long 1), .second, .val (.long (-1)), .second, .val (.long (-1)), .second, .val (.long (-1)), .second, .val (.int 1), .val (.int 2)]) rfl dM_178 rfl ?_
  refine Gl.iload Y113_3 rfl dM_180 rfl ?_
  refine Gl.aloadN Y113_3 rfl rfl dM_182 rfl ?_
  refine Gl.getF Y113_3 (host := "") (Or.inl (tw_15 hw)) Via.refl f3 dM_183 rfl (fun T183_3 Y183_3 => ?_)
  refine Gl.arraylength Y183_3 A198_2 dM_186 rfl ?_
  refine Gl.icmpge Y183_3 dM_187 (by decide) rfl rfl (fun c187_3 => ?_) (fun c187_3 => ?_)
  · exact absurd c187_3 (by decide)
  refine Gl.aloadN Y183_3 rfl rfl dM_190 rfl ?_
  refine Gl.getF Y183_3 (host := "") (Or.inl (tw_15 hw)) Via.refl f3 dM_191 rfl (fun T191_3 Y191_3 => ?_)
  refine Gl.iload Y191_3 rfl dM_194 rfl ?_
  refine Gl.lload Y191_3 rfl dM_196 rfl ?_
  refine Gl.lastore Y191_3 A198_2 (v := (.long (-1))) rfl ⟨by decide, by decide⟩ (ix := 2) rfl (Nat.le_of_ble_eq_true rfl) g_o2 dM_198 rfl (fun T198_3 h198_3 Y198_3 W198_3 A198_3 => ?_)
  have A198_3 : Arv Z h198_3 o2 k_o2 .long (3 : Int32) [(.long d2), (.long (-9223372036854775808)), (.long (-1))] (.long 0) := A198_3
  have K198_3 : Keep h0 h198_3 [o0, o1, o2, o3, o4] := K198_2.wr W198_3 (Or.inl (List.mem_of_getElem? (i := 2) rfl))
  show Gl p e below _ (T198_3.setTop (mkF m 199 _ []))
  refine Gl.goto Y198_3 dM_199 (by decide) rfl ?_
  refine Gl.iinc Y198_3 rfl (r := (3 : Int32)) (by decide) (L' := #[.val (.ref o0), .val (.ref o1), .val (.int 0), .val (.ref o4), .val (.int 3), .val (.long (-1)), .second, .val (.long (-1)), .second, .val (.long 0), .second, .val (.long 1), .second, .val (.long (-1)), .second, .val (.long (-1)), .second, .val (.long (-1)), .second, .val (.int 1), .val (.int 3)]) rfl dM_225 rfl ?_
  refine Gl.goto Y198_3 dM_228 (by decide) rfl ?_
  refine Gl.iload Y198_3 rfl dM_95 rfl ?_
  refine Gl.iload Y198_3 rfl dM_97 rfl ?_
  refine Gl.icmpge Y198_3 dM_99 (by decide) rfl rfl (fun c99_4 => ?_) (fun c99_4 => ?_)
  rotate_left
  · exact absurd c99_4 (by decide)
  refine Gl.iload Y198_3 rfl dM_231 rfl ?_
  refine Gl.ifeq Y198_3 dM_233 (by decide) rfl rfl (fun c233 => ?_) (fun c233 => ?_)
  · exact absurd c233 (by decide)
  refine Gl.lload Y198_3 rfl dM_236 rfl ?_
  refine Gl.lload Y198_3 rfl dM_238 rfl ?_
  refine Gl.lxor Y198_3 (r := (0 : Int64)) (by decide) dM_240 rfl ?_
  refine Gl.lload Y198_3 rfl dM_241 rfl ?_
  refine Gl.lload Y198_3 rfl dM_243 rfl ?_
  refine Gl.lxor Y198_3 (r := (0 : Int64)) (by decide) dM_245 rfl ?_
  refine Gl.land Y198_3 (r := (0 : Int64)) (by decide) dM_246 rfl ?_
  refine Gl.lconst Y198_3 (v := (0 : Int64)) (by decide) dM_247 rfl ?_
  refine Gl.lcmplt Y198_3 dM_248 rfl dM_249 (by decide) rfl rfl (fun c249 => ?_) (fun c249 => ?_)
  · exact absurd c249 (by decide)
  refine Gl.aloadN Y198_3 rfl rfl dM_252 rfl ?_
  refine Gl.goto Y198_3 dM_253 (by decide) rfl ?_
  have f5 := (Exa.wr W198_3 (Exa.wr W198_2 (Exa.wr W198 E_o0)))
  have f6 := (Exa.wr W198_3 (Exa.wr W198_2 (Exa.wr W198 E_o1)))
  have f7 := (Fld.other W198_3 f3 (Or.inl n_o0_o2))
  have f8 := (Fld.other W198_3 (Fld.other W198_2 (Fld.other W198 F_o0_work (Or.inl n_o0_o2)) (Or.inl n_o0_o2)) (Or.inl n_o0_o2))
  have f9 := (Fld.other W198_3 (Fld.other W198_2 (Fld.other W198 F_o1_words (Or.inl n_o1_o2)) (Or.inl n_o1_o2)) (Or.inl n_o1_o2))
  have f10 := (Fld.other W198_3 (Fld.other W198_2 (Fld.other W198 F_o1_work (Or.inl n_o1_o2)) (Or.inl n_o1_o2)) (Or.inl n_o1_o2))
  have f11 := (((V_o3.other W198 (Ne.symm n_o2_o3)).other W198_2 (Ne.symm n_o2_o3)).other W198_3 (Ne.symm n_o2_o3))
  have f12 := (f4.other W198_3 (Ne.symm n_o2_o4))
  exact Gl.retA Y198_3 (by decide) (by decide) rfl rfl dM_260 ⟨rfl, K198_3, f5, f6, f7, f8, f9, f10, A198_3, f11, f12⟩
def RA116 : Room := { frames := 3, cells := 0, slots := 0, locals := 56 }
def QA116 (Z : State) (o0 : Addr) (o1 : Addr) (o2 : Addr) (o3 : Addr) (o4 : Addr) (k_o2 : ClassId) (k_o3 : ClassId) (k_o4 : ClassId) (p0 : Int64) (d0 : Int64) (d1 : Int64) (d2 : Int64) (d3 : Int64) (d4 : Int64) (d5 : Int64) (d6 : Int64) (d7 : Int64) (h0 : Heap) (v : Option Value) (h : Heap) : Prop := v = some (.ref o0) ∧ Keep h0 h [o0, o1, o2, o3, o4] ∧ Exa Z h o0 kW ∧ Exa Z h o1 kW ∧ Fld Z h o0 kW "words" "[J" (.ref o2) ∧ Fld Z h o0 kW "work" "[J" (.ref o3) ∧ Fld Z h o1 kW "words" "[J" (.ref o4) ∧ Fld Z h o1 kW "work" "[J" .null ∧ Arv Z h o2 k_o2 .long (3 : Int32) [(.long d2), (.long (-9223372036854775808)), (.long (-1))] (.long 0) ∧ Arv Z h o3 k_o3 .long (8 : Int32) [(.long 6148914691236517205), (.long 0), (.long 0), (.long 0), (.long 0), (.long 0), (.long 0), (.long 0)] (.long 0) ∧ Arv Z h o4 k_o4 .long (3 : Int32) [(.long p0), (.long (-1)), (.long (-1))] (.long 0)
theorem efA116 (o0 : Addr) (o1 : Addr) (m : MethodId) : entryFrame m #[(.ref o0), (.ref o1)] 2 = mkF m 0 #[.val (.ref o0), .val (.ref o1)] [] := by first | (simp [entryFrame, mkF, argsToLocals, Value.category]; done) | rfl
theorem rmA116 (l : Launch) (Z : State) (a0 : Array Value) (hw : HW a0 Z) (ws : List Jvm.Cond) (o0 : Addr) (o1 : Addr) (o2 : Addr) (o3 : Addr) (o4 : Addr) (k_o2 : ClassId) (k_o3 : ClassId) (k_o4 : ClassId) (p0 : Int64) (d0 : Int64) (d1 : Int64) (d2 : Int64) (d3 : Int64) (d4 : Int64) (d5 : Int64) (d6 : Int64) (d7 : Int64) (h0 : Heap) (n0 : Nat) (Z0 : n0 ≤ h0.size) (E_o0 : Exa Z h0 o0 kW) (F_o0_words : Fld Z h0 o0 kW "words" "[J" (.ref o2)) (F_o0_work : Fld Z h0 o0 kW "work" "[J" (.ref o3)) (g_o0 : n0 ≤ o0) (E_o1 : Exa Z h0 o1 kW) (F_o1_words : Fld Z h0 o1 kW "words" "[J" (.ref o4)) (F_o1_work : Fld Z h0 o1 kW "work" "[J" .null) (g_o1 : n0 ≤ o1) (V_o2 : Arv Z h0 o2 k_o2 .long (3 : Int32) [(.long (-9223372036854775808)), (.long (-9223372036854775808)), (.long (-1))] (.long 0)) (g_o2 : n0 ≤ o2) (V_o3 : Arv Z h0 o3 k_o3 .long (8 : Int32) [(.long 6148914691236517205), (.long 0), (.long 0), (.long 0), (.long 0), (.long 0), (.long 0), (.long 0)] (.long 0)) (g_o3 : n0 ≤ o3) (V_o4 : Arv Z h0 o4 k_o4 .long (3 : Int32) [(.long p0), (.long (-1)), (.long (-1))] (.long 0)) (g_o4 : n0 ≤ o4) (n_o0_o1 : own_ne o0 o1) (n_o0_o2 : own_ne o0 o2) (n_o0_o3 : own_ne o0 o3) (n_o0_o4 : own_ne o0 o4) (n_o1_o2 : own_ne o1 o2) (n_o1_o3 : own_ne o1 o3) (n_o1_o4 : own_ne o1 o4) (n_o2_o3 : own_ne o2 o3) (n_o2_o4 : own_ne o2 o4) (n_o3_o4 : own_ne o3 o4) (hd0 : p0 ^^^ (0 : Int64) = d0) (hd1 : (-9223372036854775808 : Int64) + d0 = d1) (hd2 : d1 + (0 : Int64) = d2) (hd3 : (-9223372036854775808 : Int64) &&& d0 = d3) (hd4 : (-9223372036854775808 : Int64) ||| d0 = d4) (hd5 : d2 ^^^ (-1 : Int64) = d5) (hd6 : d4 &&& d5 = d6) (hd7 : d3 ||| d6 = d7) (hd8 : (d7.toUInt64 >>> ((63 : Int32) &&& 0x3f).toInt64.toUInt64).toInt64 = (1 : Int64)) : OMet l Z ws (⟨"com/example/meterwise/meterwise/model/WholeNumber", "add", "(Lcom/example/meterwise/meterwise/model/WholeNumber;)Lcom/example/meterwise/meterwise/model/WholeNumber;"⟩ : MethodName) prog_137_method_12_code 2 (some (.object "com/example/meterwise/meterwise/model/WholeNumber")) RA116 #[(.ref o0), (.ref o1)] h0 n0 (QA116 Z o0 o1 o2 o3 o4 k_o2 k_o3 k_o4 p0 d0 d1 d2 d3 d4 d5 d6 d7 h0) := by
  refine OMet.of (own := "com/example/meterwise/meterwise/model/WholeNumber") rfl (plainFor_of_name pn_0) (efA116 o0 o1) Z0 ?_
  intro p e s m below meth c T0 Y0 hnm
  refine Gl.aloadN Y0 rfl rfl dL_0 rfl ?_
  refine Gl.aloadN Y0 rfl rfl dL_1 rfl ?_
  refine Gl.iconst Y0 (v := (0 : Int32)) (by decide) dL_2 rfl ?_
  refine Gl.callP Y0 (tw_64 hw) (tw_65 hw) (tw_66 hw) (tw_2 hw) (tw_3 hw) (tw_67 hw) (by decide) E_o0 (rmA117 l Z a0 hw [] o0 o1 o2 o3 o4 k_o2 k_o3 k_o4 p0 d0 d1 d2 d3 d4 d5 d6 d7 h0 n0 Y0.sz E_o0 F_o0_words F_o0_work g_o0 E_o1 F_o1_words F_o1_work g_o1 V_o2 g_o2 V_o3 g_o3 V_o4 g_o4 n_o0_o1 n_o0_o2 n_o0_o3 n_o0_o4 n_o1_o2 n_o1_o3 n_o1_o4 n_o2_o3 n_o2_o4 n_o3_o4 hd0 hd1 hd2 hd3 hd4 hd5 hd6 hd7 hd8) (a := o0) (argsL := [(.ref o1), (.int 0)]) (rest := []) rfl rfl (lenOf pd_9 rfl) rfl (by decide) (Nat.le_of_ble_eq_true rfl) (by decide) (by decide) dL_3 rfl (fun v3 T3 h3 Y3 q3 => ?_)
  obtain ⟨rfl, K3, f3_0, f3_1, f3_2, f3_3, f3_4, f3_5, f3_6, f3_7, f3_8⟩ := q3
  have KK3 : Keep h0 h3 [o0, o1, o2, o3, o4] := (Keep.refl h0 [o0, o1, o2, o3, o4]).trans K3 (allS (Or.inl (List.mem_of_getElem? (i := 0) rfl)) (allS (Or.inl (List.mem_of_getElem? (i := 1) rfl)) (allS (Or.inl (List.mem_of_getElem? (i := 2) rfl)) (allS (Or.inl (List.mem_of_getElem? (i := 3) rfl)) (allS (Or.inl (List.mem_of_getElem? (i := 4) rfl)) all0)))))
  show Gl p e below _ (T3.setTop (mkF m 6 _ [(.ref o0)]))
  exact Gl.retA Y3 (by decide) (by decide) rfl rfl dL_6 ⟨rfl, KK3, f3_0, f3_1, f3_2, f3_3, f3_4, f3_5, f3_6, f3_7, f3_8⟩
def RA118 : Room := { frames := 1, cells := 0, slots := 0, locals := 12 }
def QA118 (Z : State) (o0 : Addr) (o1 : Addr) (o2 : Addr) (k_o1 : ClassId) (p0 : Int64) (k_o2 : ClassId) (h0 : Heap) (v : Option Value) (h : Heap) : Prop := v = some (.int 0) ∧ h0 = h
theorem efA118 (o0 : Addr) (m : MethodId) : entryFrame m #[(.ref o0)] 1 = mkF m 0 #[.val (.ref o0)] [] := by first | (simp [entryFrame, mkF, argsToLocals, Value.category]; done) | rfl
theorem rmA118 (l : Launch) (Z : State) (a0 : Array Value) (hw : HW a0 Z) (ws : List Jvm.Cond) (o0 : Addr) (o1 : Addr) (o2 : Addr) (k_o1 : ClassId) (p0 : Int64) (k_o2 : ClassId) (h0 : Heap) (n0 : Nat) (Z0 : n0 ≤ h0.size) (E_o0 : Exa Z h0 o0 kW) (F_o0_words : Fld Z h0 o0 kW "words" "[J" (.ref o1)) (F_o0_work : Fld Z h0 o0 kW "work" "[J" (.ref o2)) (g_o0 : n0 ≤ o0) (V_o1 : Arv Z h0 o1 k_o1 .long (3 : Int32) [(.long p0), (.long (-9223372036854775808)), (.long (-1))] (.long 0)) (g_o1 : n0 ≤ o1) (V_o2 : Arv Z h0 o2 k_o2 .long (8 : Int32) [(.long 6148914691236517205), (.long 0), (.long 0), (.long 0), (.long 0), (.long 0), (.long 0), (.long 0)] (.long 0)) (g_o2 : n0 ≤ o2) (n_o0_o1 : own_ne o0 o1) (n_o0_o2 : own_ne o0 o2) (n_o1_o2 : own_ne o1 o2) : OMet l Z ws (⟨"com/example/meterwise/meterwise/model/WholeNumber", "overflowed", "()Z"⟩ : MethodName) prog_137_method_8_code 1 (some .boolean) RA118 #[(.ref o0)] h0 n0 (QA118 Z o0 o1 o2 k_o1 p0 k_o2 h0) := by
  refine OMet.of (own := "com/example/meterwise/meterwise/model/WholeNumber") rfl (plainFor_of_name pn_0) (efA118 o0) Z0 ?_
  intro p e s m below meth c T0 Y0 hnm
  refine Gl.aloadN Y0 rfl rfl dI_0 rfl ?_
  refine Gl.callP Y0 (tw_41 hw) (tw_42 hw) (tw_43 hw) (tw_2 hw) (tw_3 hw) (tw_44 hw) (by decide) E_o0 (rm17 l Z a0 hw [] o0 o1 k_o1 p0 (-9223372036854775808 : Int64) (-1 : Int64) h0 n0 Y0.sz E_o0 F_o0_words V_o1) (a := o0) (argsL := []) (rest := []) rfl rfl (lenOf pd_4 rfl) rfl (by decide) (Nat.le_of_ble_eq_true rfl) (by decide) (by decide) dI_1 rfl (fun v1 T1 h1 Y1 q1 => ?_)
  obtain ⟨rfl, rfl⟩ := q1
  show Gl p e below _ (T1.setTop (mkF m 4 _ [(.long (-1))]))
  refine Gl.ldcJ Y1 (tw_45 hw) dI_4 rfl ?_
  refine Gl.lcmpne Y1 dI_7 rfl dI_8 (by decide) rfl rfl (fun c8 => ?_) (fun c8 => ?_)
  rotate_left
  · exact absurd c8 (by decide)
  refine Gl.iconst Y1 (v := (0 : Int32)) (by decide) dI_22 rfl ?_
  exact Gl.retZ Y1 (by decide) (by decide) (x' := (0 : Int32)) (by decide) dI_23 ⟨rfl, rfl⟩
def RA122 : Room := { frames := 2, cells := 0, slots := 0, locals := 24 }
def QA122 (Z : State) (o0 : Addr) (o1 : Addr) (o2 : Addr) (o3 : Addr) (o4 : Addr) (k_o2 : ClassId) (k_o3 : ClassId) (k_o4 : ClassId) (p0 : Int64) (d0 : Int64) (d1 : Int64) (d2 : Int64) (d3 : Int64) (d4 : Int64) (d5 : Int64) (d6 : Int64) (d7 : Int64) (h0 : Heap) (v : Option Value) (h : Heap) : Prop := v = some (.ref o0) ∧ Keep h0 h [o0, o1, o2, o3, o4] ∧ Exa Z h o0 kW ∧ Exa Z h o1 kW ∧ Fld Z h o0 kW "words" "[J" (.ref o2) ∧ Fld Z h o0 kW "work" "[J" (.ref o3) ∧ Fld Z h o1 kW "words" "[J" (.ref o4) ∧ Fld Z h o1 kW "work" "[J" .null ∧ Arv Z h o2 k_o2 .long (3 : Int32) [(.long d2), (.long (-9223372036854775808)), (.long (-1))] (.long 0) ∧ Arv Z h o3 k_o3 .long (8 : Int32) [(.long 6148914691236517205), (.long 0), (.long 0), (.long 0), (.long 0), (.long 0), (.long 0), (.long 0)] (.long 0) ∧ Arv Z h o4 k_o4 .long (3 : Int32) [(.long p0), (.long 0), (.long 0)] (.long 0)
theorem efA122 (o0 : Addr) (o1 : Addr) (m : MethodId) : entryFrame m #[(.ref o0), (.ref o1), (.int 0)] 21 = mkF m 0 #[.val (.ref o0), .val (.ref o1), .val (.int 0), .unset, .unset, .unset, .unset, .unset, .unset, .unset, .unset, .unset, .unset, .unset, .unset, .unset, .unset, .unset, .unset, .unset, .unset] [] := by first | (simp [entryFrame, mkF, argsToLocals, Value.category]; done) | rfl
theorem rmA122 (l : Launch) (Z : State) (a0 : Array Value) (hw : HW a0 Z) (ws : List Jvm.Cond) (o0 : Addr) (o1 : Addr) (o2 : Addr) (o3 : Addr) (o4 : Addr) (k_o2 : ClassId) (k_o3 : ClassId) (k_o4 : ClassId) (p0 : Int64) (d0 : Int64) (d1 : Int64) (d2 : Int64) (d3 : Int64) (d4 : Int64) (d5 : Int64) (d6 : Int64) (d7 : Int64) (h0 : Heap) (n0 : Nat) (Z0 : n0 ≤ h0.size) (E_o0 : Exa Z h0 o0 kW) (F_o0_words : Fld Z h0 o0 kW "words" "[J" (.ref o2)) (F_o0_work : Fld Z h0 o0 kW "work" "[J" (.ref o3)) (g_o0 : n0 ≤ o0) (E_o1 : Exa Z h0 o1 kW) (F_o1_words : Fld Z h0 o1 kW "words" "[J" (.ref o4)) (F_o1_work : Fld Z h0 o1 kW "work" "[J" .null) (g_o1 : n0 ≤ o1) (V_o2 : Arv Z h0 o2 k_o2 .long (3 : Int32) [(.long (-9223372036854775808)), (.long (-9223372036854775808)), (.long (-1))] (.long 0)) (g_o2 : n0 ≤ o2) (V_o3 : Arv Z h0 o3 k_o3 .long (8 : Int32) [(.long 6148914691236517205), (.long 0), (.long 0), (.long 0), (.long 0), (.long 0), (.long 0), (.long 0)] (.long 0)) (g_o3 : n0 ≤ o3) (V_o4 : Arv Z h0 o4 k_o4 .long (3 : Int32) [(.long p0), (.long 0), (.long 0)] (.long 0)) (g_o4 : n0 ≤ o4) (n_o0_o1 : own_ne o0 o1) (n_o0_o2 : own_ne o0 o2) (n_o0_o3 : own_ne o0 o3) (n_o0_o4 : own_ne o0 o4) (n_o1_o2 : own_ne o1 o2) (n_o1_o3 : own_ne o1 o3) (n_o1_o4 : own_ne o1 o4) (n_o2_o3 : own_ne o2 o3) (n_o2_o4 : own_ne o2 o4) (n_o3_o4 : own_ne o3 o4) (hd0 : p0 ^^^ (0 : Int64) = d0) (hd1 : (-9223372036854775808 : Int64) + d0 = d1) (hd2 : d1 + (0 : Int64) = d2) (hd3 : (-9223372036854775808 : Int64) &&& d0 = d3) (hd4 : (-9223372036854775808 : Int64) ||| d0 = d4) (hd5 : d2 ^^^ (-1 : Int64) = d5) (hd6 : d4 &&& d5 = d6) (hd7 : d3 ||| d6 = d7) (hd8 : (d7.toUInt64 >>> ((63 : Int32) &&& 0x3f).toInt64.toUInt64).toInt64 = (0 : Int64)) : OMet l Z ws (⟨"com/example/meterwise/meterwise/model/WholeNumber", "add", "(Lcom/example/meterwise/meterwise/model/WholeNumber;Z)Lcom/example/meterwise/meterwise/model/WholeNumber;"⟩ : MethodName) prog_137_method_14_code 21 (some (.object "com/example/meterwise/meterwise/model/WholeNumber")) RA122 #[(.ref o0), (.ref o1), (.int 0)] h0 n0 (QA122 Z o0 o1 o2 o3 o4 k_o2 k_o3 k_o4 p0 d0 d1 d2 d3 d4 d5 d6 d7 h0) := by
  refine OMet.of (own := "com/example/meterwise/meterwise/model/WholeNumber") rfl (plainFor_of_name pn_0) (efA122 o0 o1) Z0 ?_
  intro p e s m below meth c T0 Y0 hnm
  refine Gl.aloadN Y0 rfl rfl dM_0 rfl ?_
  refine Gl.callV Y0 (tw_36 hw) (tw_37 hw) (tw_39 hw) (tw_39 hw) (tw_38 hw) (tw_3 hw) (tw_40 hw) (by decide) E_o0 (rmA115 l Z a0 hw [] o0 o2 o3 k_o2 k_o3 h0 n0 Y0.sz E_o0 F_o0_words F_o0_work g_o0 V_o2 g_o2 V_o3 g_o3 n_o0_o2 n_o0_o3 n_o2_o3) (a := o0) (argsL := []) (rest := []) rfl rfl (lenOf pd_5 rfl) rfl (by decide) (Nat.le_of_ble_eq_true rfl) (by decide) (by decide) dM_1 rfl (fun v1 T1 h1 Y1 q1 => ?_)
  obtain ⟨rfl, rfl⟩ := q1
  show Gl p e below _ (T1.setTop (mkF m 4 _ [(.int 0)]))
  refine Gl.ifne Y1 dM_4 (by decide) rfl rfl (fun c4 => ?_) (fun c4 => ?_)
  · exact absurd c4 (by decide)
  refine Gl.aloadN Y1 rfl rfl dM_7 rfl ?_
  refine Gl.callV Y1 (tw_36 hw) (tw_37 hw) (tw_39 hw) (tw_39 hw) (tw_38 hw) (tw_3 hw) (tw_40 hw) (by decide) E_o1 (rmA90 l Z a0 hw [] o1 o4 k_o4 p0 h0 n0 Y1.sz E_o1 F_o1_words F_o1_work g_o1 V_o4 g_o4 n_o1_o4) (a := o1) (argsL := []) (rest := []) rfl rfl (lenOf pd_5 rfl) rfl (by decide) (Nat.le_of_ble_eq_true rfl) (by decide) (by decide) dM_8 rfl (fun v8 T8 h8 Y8 q8 => ?_)
  obtain ⟨rfl, rfl⟩ := q8
  show Gl p e below _ (T8.setTop (mkF m 11 _ [(.int 0)]))
  refine Gl.ifeq Y8 dM_11 (by decide) rfl rfl (fun c11 => ?_) (fun c11 => ?_)
  rotate_left
  · exact absurd c11 (by decide)
  refine Gl.aloadN Y8 rfl rfl dM_19 rfl ?_
  refine Gl.getF Y8 (host := "") (Or.inl (tw_15 hw)) Via.refl F_o1_words dM_20 rfl (fun T20 Y20 => ?_)
  refine Gl.astoreN Y20 rfl (L' := #[.val (.ref o0), .val (.ref o1), .val (.int 0), .val (.ref o4), .unset, .unset, .unset, .unset, .unset, .unset, .unset, .unset, .unset, .unset, .unset, .unset, .unset, .unset, .unset, .unset, .unset]) rfl dM_23 rfl ?_
  refine Gl.aloadN Y20 rfl rfl dM_24 rfl ?_
  refine Gl.getF Y20 (host := "") (Or.inl (tw_15 hw)) Via.refl F_o0_words dM_25 rfl (fun T25 Y25 => ?_)
  refine Gl.arraylength Y25 V_o2 dM_28 rfl ?_
  refine Gl.aloadN Y25 rfl rfl dM_29 rfl ?_
  refine Gl.arraylength Y25 V_o4 dM_30 rfl ?_
  refine Gl.callS Y25 (tw_106 hw) (tw_107 hw) (tw_95 hw) (tw_108 hw) (by decide) (rm23 l Z a0 hw [] h0 n0 Y25.sz) (argsL := [(.int 3), (.int 3)]) (rest := []) rfl rfl (lenOf pd_15 rfl) rfl (by decide) (Nat.le_of_ble_eq_true rfl) (by decide) (by decide) dM_31 rfl (fun v31 T31 h31 Y31 q31 => ?_)
  obtain ⟨rfl, rfl⟩ := q31
  show Gl p e below _ (T31.setTop (mkF m 34 _ [(.int 3)]))
  refine Gl.istore Y31 (L' := #[.val (.ref o0), .val (.ref o1), .val (.int 0), .val (.ref o4), .val (.int 3), .unset, .unset, .unset, .unset, .unset, .unset, .unset, .unset, .unset, .unset, .unset, .unset, .unset, .unset, .unset, .unset]) rfl dM_34 rfl ?_
  refine Gl.aloadN Y31 rfl rfl dM_36 rfl ?_
  refine Gl.callP Y31 (tw_41 hw) (tw_42 hw) (tw_43 hw) (tw_2 hw) (tw_3 hw) (tw_44 hw) (by decide) E_o0 (rm17 l Z a0 hw [] o0 o2 k_o2 (-9223372036854775808 : Int64) (-9223372036854775808 : Int64) (-1 : Int64) h0 n0 Y31.sz E_o0 F_o0_words V_o2) (a := o0) (argsL := []) (rest := []) rfl rfl (lenOf pd_4 rfl) rfl (by decide) (Nat.le_of_ble_eq_true rfl) (by decide) (by decide) dM_37 rfl (fun v37 T37 h37 Y37 q37 => ?_)
  obtain ⟨rfl, rfl⟩ := q37
  show Gl p e below _ (T37.setTop (mkF m 40 _ [(.long (-1))]))
  refine Gl.bipush Y37 (v := (63 : Int32)) (by decide) dM_40 rfl ?_
  refine Gl.lshr Y37 (r := (-1 : Int64)) (by decide) dM_42 rfl ?_
  refine Gl.lstore Y37 (L' := #[.val (.ref o0), .val (.ref o1), .val (.int 0), .val (.ref o4), .val (.int 3), .val (.long (-1)), .second, .unset, .unset, .unset, .unset, .unset, .unset, .unset, .unset, .unset, .unset, .unset, .unset, .unset, .unset]) rfl dM_43 rfl ?_
  refine Gl.aloadN Y37 rfl rfl dM_45 rfl ?_
  refine Gl.aloadN Y37 rfl rfl dM_46 rfl ?_
  refine Gl.arraylength Y37 V_o4 dM_47 rfl ?_
  refine Gl.iconst Y37 (v := (1 : Int32)) (by decide) dM_48 rfl ?_
  refine Gl.isub Y37 (r := (2 : Int32)) (by decide) dM_49 rfl ?_
  refine Gl.laload Y37 V_o4 ⟨by decide, by decide⟩ (v := (.long 0)) rfl dM_50 rfl ?_
  refine Gl.bipush Y37 (v := (63 : Int32)) (by decide) dM_51 rfl ?_
  refine Gl.lshr Y37 (r := (0 : Int64)) (by decide) dM_53 rfl ?_
  refine Gl.lstore Y37 (L' := #[.val (.ref o0), .val (.ref o1), .val (.int 0), .val (.ref o4), .val (.int 3), .val (.long (-1)), .second, .val (.long 0), .second, .unset, .unset, .unset, .unset, .unset, .unset, .unset, .unset, .unset, .unset, .unset, .unset]) rfl dM_54 rfl ?_
  refine Gl.iloadN Y37 rfl dM_56 rfl ?_
  refine Gl.ifeq Y37 dM_57 (by decide) rfl rfl (fun c57 => ?_) (fun c57 => ?_)
  rotate_left
  · exact absurd c57 (by decide)
  refine Gl.lconst Y37 (v := (0 : Int64)) (by decide) dM_66 rfl ?_
  refine Gl.lstore Y37 (L' := #[.val (.ref o0), .val (.ref o1), .val (.int 0), .val (.ref o4), .val (.int 3), .val (.long (-1)), .second, .val (.long 0), .second, .val (.long 0), .second, .unset, .unset, .unset, .unset, .unset, .unset, .unset, .unset, .unset, .unset]) rfl dM_67 rfl ?_
  refine Gl.iloadN Y37 rfl dM_69 rfl ?_
  refine Gl.ifeq Y37 dM_70 (by decide) rfl rfl (fun c70 => ?_) (fun c70 => ?_)
  rotate_left
  · exact absurd c70 (by decide)
  refine Gl.lconst Y37 (v := (0 : Int64)) (by decide) dM_77 rfl ?_
  refine Gl.lstore Y37 (L' := #[.val (.ref o0), .val (.ref o1), .val (.int 0), .val (.ref o4), .val (.int 3), .val (.long (-1)), .second, .val (.long 0), .second, .val (.long 0), .second, .val (.long 0), .second, .unset, .unset, .unset, .unset, .unset, .unset, .unset, .unset]) rfl dM_78 rfl ?_
  refine Gl.lconst Y37 (v := (0 : Int64)) (by decide) dM_80 rfl ?_
  refine Gl.lstore Y37 (L' := #[.val (.ref o0), .val (.ref o1), .val (.int 0), .val (.ref o4), .val (.int 3), .val (.long (-1)), .second, .val (.long 0), .second, .val (.long 0), .second, .val (.long 0), .second, .val (.long 0), .second, .unset, .unset, .unset, .unset, .unset, .unset]) rfl dM_81 rfl ?_
  refine Gl.lconst Y37 (v := (0 : Int64)) (by decide) dM_83 rfl ?_
  refine Gl.lstore Y37 (L' := #[.val (.ref o0), .val (.ref o1), .val (.int 0), .val (.ref o4), .val (.int 3), .val (.long (-1)), .second, .val (.long 0), .second, .val (.long 0), .second, .val (.long 0), .second, .val (.long 0), .second, .val (.long 0), .second, .unset, .unset, .unset, .unset]) rfl dM_84 rfl ?_
  refine Gl.lconst Y37 (v := (0 : Int64)) (by decide) dM_86 rfl ?_
  refine Gl.lstore Y37 (L' := #[.val (.ref o0), .val (.ref o1), .val (.int 0), .val (.ref o4), .val (.int 3), .val (.long (-1)), .second, .val (.long 0), .second, .val (.long 0), .second, .val (.long 0), .second, .val (.long 0), .second, .val (.long 0), .second, .val (.long 0), .second, .unset, .unset]) rfl dM_87 rfl ?_
  refine Gl.iconst Y37 (v := (1 : Int32)) (by decide) dM_89 rfl ?_
  refine Gl.istore Y37 (L' := #[.val (.ref o0), .val (.ref o1), .val (.int 0), .val (.ref o4), .val (.int 3), .val (.long (-1)), .second, .val (.long 0), .second, .val (.long 0), .second, .val (.long 0), .second, .val (.long 0), .second, .val (.long 0), .second, .val (.long 0), .second, .val (.int 1), .unset]) rfl dM_90 rfl ?_
  refine Gl.iconst Y37 (v := (0 : Int32)) (by decide) dM_92 rfl ?_
  refine Gl.istore Y37 (L' := #[.val (.ref o0), .val (.ref o1), .val (.int 0), .val (.ref o4), .val (.int 3), .val (.long (-1)), .second, .val (.long 0), .second, .val (.long 0), .second, .val (.long 0), .second, .val (.long 0), .second, .val (.long 0), .second, .val (.long 0), .second, .val (.int 1), .val (.int 0)]) rfl dM_93 rfl ?_
  refine Gl.iload Y37 rfl dM_95 rfl ?_
  refine Gl.iload Y37 rfl dM_97 rfl ?_
  refine Gl.icmpge Y37 dM_99 (by decide) rfl rfl (fun c99 => ?_) (fun c99 => ?_)
  · exact absurd c99 (by decide)
  refine Gl.iload Y37 rfl dM_102 rfl ?_
  refine Gl.aloadN Y37 rfl rfl dM_104 rfl ?_
  refine Gl.getF Y37 (host := "") (Or.inl (tw_15 hw)) Via.refl F_o0_words dM_105 rfl (fun T105 Y105 => ?_)
  refine Gl.arraylength Y105 V_o2 dM_108 rfl ?_
  refine Gl.icmpge Y105 dM_109 (by decide) rfl rfl (fun c109 => ?_) (fun c109 => ?_)
  · exact absurd c109 (by decide)
  refine Gl.aloadN Y105 rfl rfl dM_112 rfl ?_
  refine Gl.getF Y105 (host := "") (Or.inl (tw_15 hw)) Via.refl F_o0_words dM_113 rfl (fun T113 Y113 => ?_)
  refine Gl.iload Y113 rfl dM_116 rfl ?_
  refine Gl.laload Y113 V_o2 ⟨by decide, by decide⟩ (v := (.long (-9223372036854775808))) rfl dM_118 rfl ?_
  refine Gl.goto Y113 dM_119 (by decide) rfl ?_
  refine Gl.lstore Y113 (L' := #[.val (.ref o0), .val (.ref o1), .val (.int 0), .val (.ref o4), .val (.int 3), .val (.long (-1)), .second, .val (.long 0), .second, .val (.long 0), .second, .val (.long 0), .second, .val (.long (-9223372036854775808)), .second, .val (.long 0), .second, .val (.long 0), .second, .val (.int 1), .val (.int 0)]) rfl dM_124 rfl ?_
  refine Gl.iload Y113 rfl dM_126 rfl ?_
  refine Gl.aloadN Y113 rfl rfl dM_128 rfl ?_
  refine Gl.arraylength Y113 V_o4 dM_129 rfl ?_
  refine Gl.icmpge Y113 dM_130 (by decide) rfl rfl (fun c130 => ?_) (fun c130 => ?_)
  · exact absurd c130 (by decide)
  refine Gl.aloadN Y113 rfl rfl dM_133 rfl ?_
  refine Gl.iload Y113 rfl dM_134 rfl ?_
  refine Gl.laload Y113 V_o4 ⟨by decide, by decide⟩ (v := (.long p0)) rfl dM_136 rfl ?_
  refine Gl.goto Y113 dM_137 (by decide) rfl ?_
  refine Gl.lload Y113 rfl dM_142 rfl ?_
  refine Gl.lxor Y113 hd0 dM_144 rfl ?_
  refine Gl.lstore Y113 (L' := #[.val (.ref o0), .val (.ref o1), .val (.int 0), .val (.ref o4), .val (.int 3), .val (.long (-1)), .second, .val (.long 0), .second, .val (.long 0), .second, .val (.long 0), .second, .val (.long (-9223372036854775808)), .second, .val (.long d0), .second, .val (.long 0), .second, .val (.int 1), .val (.int 0)]) rfl dM_145 rfl ?_
  refine Gl.lload Y113 rfl dM_147 rfl ?_
  refine Gl.lload Y113 rfl dM_149 rfl ?_
  refine Gl.ladd Y113 hd1 dM_151 rfl ?_
  refine Gl.lload Y113 rfl dM_152 rfl ?_
  refine Gl.ladd Y113 hd2 dM_154 rfl ?_
  refine Gl.lstore Y113 (L' := #[.val (.ref o0), .val (.ref o1), .val (.int 0), .val (.ref o4), .val (.int 3), .val (.long (-1)), .second, .val (.long 0), .second, .val (.long 0), .second, .val (.long 0), .second, .val (.long (-9223372036854775808)), .second, .val (.long d0), .second, .val (.long d2), .second, .val (.int 1), .val (.int 0)]) rfl dM_155 rfl ?_
  refine Gl.lload Y113 rfl dM_157 rfl ?_
  refine Gl.lload Y113 rfl dM_159 rfl ?_
  refine Gl.land Y113 hd3 dM_161 rfl ?_
  refine Gl.lload Y113 rfl dM_162 rfl ?_
  refine Gl.lload Y113 rfl dM_164 rfl ?_
  refine Gl.lor Y113 hd4 dM_166 rfl ?_
  refine Gl.lload Y113 rfl dM_167 rfl ?_
  refine Gl.ldcJ Y113 (tw_85 hw) dM_169 rfl ?_
  refine Gl.lxor Y113 hd5 dM_172 rfl ?_
  refine Gl.land Y113 hd6 dM_173 rfl ?_
  refine Gl.lor Y113 hd7 dM_174 rfl ?_
  refine Gl.bipush Y113 (v := (63 : Int32)) (by decide) dM_175 rfl ?_
  refine Gl.lushr Y113 (r := (0 : Int64)) hd8 dM_177 rfl ?_
  refine Gl.lstore Y113 (L' := #[.val (.ref o0), .val (.ref o1), .val (.int 0), .val (.ref o4), .val (.int 3), .val (.long (-1)), .second, .val (.long 0), .second, .val (.long 0), .second, .val (.long 0), .second, .val (.long (-9223372036854775808)), .second, .val (.long d0), .second, .val (.long d2), .second, .val (.int 1), .val (.int 0)]) rfl dM_178 rfl ?_
  refine Gl.iload Y113 rfl dM_180 rfl ?_
  refine Gl.aloadN Y113 rfl rfl dM_182 rfl ?_
  refine Gl.getF Y113 (host := "") (Or.inl (tw_15 hw)) Via.refl F_o0_words dM_183 rfl (fun T183 Y183 => ?_)
  refine Gl.arraylength Y183 V_o2 dM_186 rfl ?_
  refine Gl.icmpge Y183 dM_187 (by decide) rfl rfl (fun c187 => ?_) (fun c187 => ?_)
  · exact absurd c187 (by decide)
  refine Gl.aloadN Y183 rfl rfl dM_190 rfl ?_
  refine Gl.getF Y183 (host := "") (Or.inl (tw_15 hw)) Via.refl F_o0_words dM_191 rfl (fun T191 Y191 => ?_)
  refine Gl.iload Y191 rfl dM_194 rfl ?_
  refine Gl.lload Y191 rfl dM_196 rfl ?_
  refine Gl.lastore Y191 V_o2 (v := (.long d2)) rfl ⟨by decide, by decide⟩ (ix := 0) rfl (Nat.le_of_ble_eq_true rfl) g_o2 dM_198 rfl (fun T198 h198 Y198 W198 A198 => ?_)
  have A198 : Arv Z h198 o2 k_o2 .long (3 : Int32) [(.long d2), (.long (-9223372036854775808)), (.long (-1))] (.long 0) := A198
  have K198 : Keep h0 h198 [o0, o1, o2, o3, o4] := (Keep.refl h0 [o0, o1, o2, o3, o4]).wr W198 (Or.inl (List.mem_of_getElem? (i := 2) rfl))
  show Gl p e below _ (T198.setTop (mkF m 199 _ []))
  refine Gl.goto Y198 dM_199 (by decide) rfl ?_
  refine Gl.iinc Y198 rfl (r := (1 : Int32)) (by decide) (L' := #[.val (.ref o0), .val (.ref o1), .val (.int 0), .val (.ref o4), .val (.int 3), .val (.long (-1)), .second, .val (.long 0), .second, .val (.long 0), .second, .val (.long 0), .second, .val (.long (-9223372036854775808)), .second, .val (.long d0), .second, .val (.long d2), .second, .val (.int 1), .val (.int 1)]) rfl dM_225 rfl ?_
  refine Gl.goto Y198 dM_228 (by decide) rfl ?_
  refine Gl.iload Y198 rfl dM_95 rfl ?_
  refine Gl.iload Y198 rfl dM_97 rfl ?_
  refine Gl.icmpge Y198 dM_99 (by decide) rfl rfl (fun c99_2 => ?_) (fun c99_2 => ?_)
  · exact absurd c99_2 (by decide)
  refine Gl.iload Y198 rfl dM_102 rfl ?_
  refine Gl.aloadN Y198 rfl rfl dM_104 rfl ?_
  have f1 := (Fld.other W198 F_o0_words (Or.inl n_o0_o2))
  refine Gl.getF Y198 (host := "") (Or.inl (tw_15 hw)) Via.refl f1 dM_105 rfl (fun T105_2 Y105_2 => ?_)
  refine Gl.arraylength Y105_2 A198 dM_108 rfl ?_
  refine Gl.icmpge Y105_2 dM_109 (by decide) rfl rfl (fun c109_2 => ?_) (fun c109_2 => ?_)
  · exact absurd c109_2 (by decide)
  refine Gl.aloadN Y105_2 rfl rfl dM_112 rfl ?_
  refine Gl.getF Y105_2 (host := "") (Or.inl (tw_15 hw)) Via.refl f1 dM_113 rfl (fun T113_2 Y113_2 => ?_)
  refine Gl.iload Y113_2 rfl dM_116 rfl ?_
  refine Gl.laload Y113_2 A198 ⟨by decide, by decide⟩ (v := (.long (-9223372036854775808))) rfl dM_118 rfl ?_
  refine Gl.goto Y113_2 dM_119 (by decide) rfl ?_
  refine Gl.lstore Y113_2 (L' := #[.val (.ref o0), .val (.ref o1), .val (.int 0), .val (.ref o4), .val (.int 3), .val (.long (-1)), .second, .val (.long 0), .second, .val (.long 0), .second, .val (.long 0), .second, .val (.long (-9223372036854775808)), .second, .val (.long d0), .second, .val (.long d2), .second, .val (.int 1), .val (.int 1)]) rfl dM_124 rfl ?_
  refine Gl.iload Y113_2 rfl dM_126 rfl ?_
  refine Gl.aloadN Y113_2 rfl rfl dM_128 rfl ?_
  have f2 := (V_o4.other W198 (Ne.symm n_o2_o4))
  refine Gl.arraylength Y113_2 f2 dM_129 rfl ?_
  refine Gl.icmpge Y113_2 dM_130 (by decide) rfl rfl (fun c130_2 => ?_) (fun c130_2 => ?_)
  · exact absurd c130_2 (by decide)
  refine Gl.aloadN Y113_2 rfl rfl dM_133 rfl ?_
  refine Gl.iload Y113_2 rfl dM_134 rfl ?_
  refine Gl.laload Y113_2 f2 ⟨by decide, by decide⟩ (v := (.long 0)) rfl dM_136 rfl ?_
  refine Gl.goto Y113_2 dM_137 (by decide) rfl ?_
  refine Gl.lload Y113_2 rfl dM_142 rfl ?_
  refine Gl.lxor Y113_2 (r := (0 : Int64)) (by decide) dM_144 rfl ?_
  refine Gl.lstore Y113_2 (L' := #[.val (.ref o0), .val (.ref o1), .val (.int 0), .val (.ref o4), .val (.int 3), .val (.long (-1)), .second, .val (.long 0), .second, .val (.long 0), .second, .val (.long 0), .second, .val (.long (-9223372036854775808)), .second, .val (.long 0), .second, .val (.long d2), .second, .val (.int 1), .val (.int 1)]) rfl dM_145 rfl ?_
  refine Gl.lload Y113_2 rfl dM_147 rfl ?_
  refine Gl.lload Y113_2 rfl dM_149 rfl ?_
  refine Gl.ladd Y113_2 (r := (-9223372036854775808 : Int64)) (by decide) dM_151 rfl ?_
  refine Gl.lload Y113_2 rfl dM_152 rfl ?_
  refine Gl.ladd Y113_2 (r := (-9223372036854775808 : Int64)) (by decide) dM_154 rfl ?_
  refine Gl.lstore Y113_2 (L' := #[.val (.ref o0), .val (.ref o1), .val (.int 0), .val (.ref o4), .val (.int 3), .val (.long (-1)), .second, .val (.long 0), .second, .val (.long 0), .second, .val (.long 0), .second, .val (.long (-9223372036854775808)), .second, .val (.long 0), .second, .val (.long (-9223372036854775808)), .second, .val (.int 1), .val (.int 1)]) rfl dM_155 rfl ?_
  refine Gl.lload Y113_2 rfl dM_157 rfl ?_
  refine Gl.lload Y113_2 rfl dM_159 rfl ?_
  refine Gl.land Y113_2 (r := (0 : Int64)) (by decide) dM_161 rfl ?_
  refine Gl.lload Y113_2 rfl dM_162 rfl ?_
  refine Gl.lload Y113_2 rfl dM_164 rfl ?_
  refine Gl.lor Y113_2 (r := (-9223372036854775808 : Int64)) (by decide) dM_166 rfl ?_
  refine Gl.lload Y113_2 rfl dM_167 rfl ?_
  refine Gl.ldcJ Y113_2 (tw_85 hw) dM_169 rfl ?_
  refine Gl.lxor Y113_2 (r := (9223372036854775807 : Int64)) (by decide) dM_172 rfl ?_
  refine Gl.land Y113_2 (r := (0 : Int64)) (by decide) dM_173 rfl ?_
  refine Gl.lor Y113_2 (r := (0 : Int64)) (by decide) dM_174 rfl ?_
  refine Gl.bipush Y113_2 (v := (63 : Int32)) (by decide) dM_175 rfl ?_
  refine Gl.lushr Y113_2 (r := (0 : Int64)) (by decide) dM_177 rfl ?_
  refine Gl.lstore Y113_2 (L' := #[.val (.ref o0), .val (.ref o1), .val (.int 0), .val (.ref o4), .val (.int 3), .val (.long (-1)), .second, .val (.long 0), .second, .val (.long 0), .second, .val (.long 0), .second, .val (.long (-9223372036854775808)), .second, .val (.long 0), .second, .val (.long (-9223372036854775808)), .second, .val (.int 1), .val (.int 1)]) rfl dM_178 rfl ?_
  refine Gl.iload Y113_2 rfl dM_180 rfl ?_
  refine Gl.aloadN Y113_2 rfl rfl dM_182 rfl ?_
  refine Gl.getF Y113_2 (host := "") (Or.inl (tw_15 hw)) Via.refl f1 dM_183 rfl (fun T183_2 Y183_2 => ?_)
  refine Gl.arraylength Y183_2 A198 dM_186 rfl ?_
  refine Gl.icmpge Y183_2 dM_187 (by decide) rfl rfl (fun c187_2 => ?_) (fun c187_2 => ?_)
  · exact absurd c187_2 (by decide)
  refine Gl.aloadN Y183_2 rfl rfl dM_190 rfl ?_
  refine Gl.getF Y183_2 (host := "") (Or.inl (tw_15 hw)) Via.refl f1 dM_191 rfl (fun T191_2 Y191_2 => ?_)
  refine Gl.iload Y191_2 rfl dM_194 rfl ?_
  refine Gl.lload Y191_2 rfl dM_196 rfl ?_
  refine Gl.lastore Y191_2 A198 (v := (.long (-9223372036854775808))) rfl ⟨by decide, by decide⟩ (ix := 1) rfl (Nat.le_of_ble_eq_true rfl) g_o2 dM_198 rfl (fun T198_2 h198_2 Y198_2 W198_2 A198_2 => ?_)
  have A198_2 : Arv Z h198_2 o2 k_o2 .long (3 : Int32) [(.long d2), (.long (-9223372036854775808)), (.long (-1))] (.long 0) := A198_2
  have K198_2 : Keep h0 h198_2 [o0, o1, o2, o3, o4] := K198.wr W198_2 (Or.inl (List.mem_of_getElem? (i := 2) rfl))
  show Gl p e below _ (T198_2.setTop (mkF m 199 _ []))
  refine Gl.goto Y198_2 dM_199 (by decide) rfl ?_
  refine Gl.iinc Y198_2 rfl (r := (2 : Int32)) (by decide) (L' := #[.val (.ref o0), .val (.ref o1), .val (.int 0), .val (.ref o4), .val (.int 3), .val (.long (-1)), .second, .val (.long 0), .second, .val (.long 0), .second, .val (.long 0), .second, .val (.long (-9223372036854775808)), .second, .val (.long 0), .second, .val (.long (-9223372036854775808)), .second, .val (.int 1), .val (.int 2)]) rfl dM_225 rfl ?_
  refine Gl.goto Y198_2 dM_228 (by decide) rfl ?_
  refine Gl.iload Y198_2 rfl dM_95 rfl ?_
  refine Gl.iload Y198_2 rfl dM_97 rfl ?_
  refine Gl.icmpge Y198_2 dM_99 (by decide) rfl rfl (fun c99_3 => ?_) (fun c99_3 => ?_)
  · exact absurd c99_3 (by decide)
  refine Gl.iload Y198_2 rfl dM_102 rfl ?_
  refine Gl.aloadN Y198_2 rfl rfl dM_104 rfl ?_
  have f3 := (Fld.other W198_2 f1 (Or.inl n_o0_o2))
  refine Gl.getF Y198_2 (host := "") (Or.inl (tw_15 hw)) Via.refl f3 dM_105 rfl (fun T105_3 Y105_3 => ?_)
  refine Gl.arraylength Y105_3 A198_2 dM_108 rfl ?_
  refine Gl.icmpge Y105_3 dM_109 (by decide) rfl rfl (fun c109_3 => ?_) (fun c109_3 => ?_)
  · exact absurd c109_3 (by decide)
  refine Gl.aloadN Y105_3 rfl rfl dM_112 rfl ?_
  refine Gl.getF Y105_3 (host := "") (Or.inl (tw_15 hw)) Via.refl f3 dM_113 rfl (fun T113_3 Y113_3 => ?_)
  refine Gl.iload Y113_3 rfl dM_116 rfl ?_
  refine Gl.laload Y113_3 A198_2 ⟨by decide, by decide⟩ (v := (.long (-1))) rfl dM_118 rfl ?_
  refine Gl.goto Y113_3 dM_119 (by decide) rfl ?_
  refine Gl.lstore Y113_3 (L' := #[.val (.ref o0), .val (.ref o1), .val (.int 0), .val (.ref o4), .val (.int 3), .val (.long (-1)), .second, .val (.long 0), .second, .val (.long 0), .second, .val (.long 0), .second, .val (.long (-1)), .second, .val (.long 0), .second, .val (.long (-9223372036854775808)), .second, .val (.int 1), .val (.int 2)]) rfl dM_124 rfl ?_
  refine Gl.iload Y113_3 rfl dM_126 rfl ?_
  refine Gl.aloadN Y113_3 rfl rfl dM_128 rfl ?_
  have f4 := (f2.other W198_2 (Ne.symm n_o2_o4))
  refine Gl.arraylength Y113_3 f4 dM_129 rfl ?_
  refine Gl.icmpge Y113_3 dM_130 (by decide) rfl rfl (fun c130_3 => ?_) (fun c130_3 => ?_)
  · exact absurd c130_3 (by decide)
  refine Gl.aloadN Y113_3 rfl rfl dM_133 rfl ?_
  refine Gl.iload Y113_3 rfl dM_134 rfl ?_
  refine Gl.laload Y113_3 f4 ⟨by decide, by decide⟩ (v := (.long 0)) rfl dM_136 rfl ?_
  refine Gl.goto Y113_3 dM_137 (by decide) rfl ?_
  refine Gl.lload Y113_3 rfl dM_142 rfl ?_
  refine Gl.lxor Y113_3 (r := (0 : Int64)) (by decide) dM_144 rfl ?_
  refine Gl.lstore Y113_3 (L' := #[.val (.ref o0), .val (.ref o1), .val (.int 0), .val (.ref o4), .val (.int 3), .val (.long (-1)), .second, .val (.long 0), .second, .val (.long 0), .second, .val (.long 0), .second, .val (.long (-1)), .second, .val (.long 0), .second, .val (.long (-9223372036854775808)), .second, .val (.int 1), .val (.int 2)]) rfl dM_145 rfl ?_
  refine Gl.lload Y113_3 rfl dM_147 rfl ?_
  refine Gl.lload Y113_3 rfl dM_149 rfl ?_
  refine Gl.ladd Y113_3 (r := (-1 : Int64)) (by decide) dM_151 rfl ?_
  refine Gl.lload Y113_3 rfl dM_152 rfl ?_
  refine Gl.ladd Y113_3 (r := (-1 : Int64)) (by decide) dM_154 rfl ?_
  refine Gl.lstore Y113_3 (L' := #[.val (.ref o0), .val (.ref o1), .val (.int 0), .val (.ref o4), .val (.int 3), .val (.long (-1)), .second, .val (.long 0), .second, .val (.long 0), .second, .val (.long 0), .second, .val (.long (-1)), .second, .val (.long 0), .second, .val (.long (-1)), .second, .val (.int 1), .val (.int 2)]) rfl dM_155 rfl ?_
  refine Gl.lload Y113_3 rfl dM_157 rfl ?_
  refine Gl.lload Y113_3 rfl dM_159 rfl ?_
  refine Gl.land Y113_3 (r := (0 : Int64)) (by decide) dM_161 rfl ?_
  refine Gl.lload Y113_3 rfl dM_162 rfl ?_
  refine Gl.lload Y113_3 rfl dM_164 rfl ?_
  refine Gl.lor Y113_3 (r := (-1 : Int64)) (by decide) dM_166 rfl ?_
  refine Gl.lload Y113_3 rfl dM_167 rfl ?_
  refine Gl.ldcJ Y113_3 (tw_85 hw) dM_169 rfl ?_
  refine Gl.lxor Y113_3 (r := (0 : Int64)) (by decide) dM_172 rfl ?_
  refine Gl.land Y113_3 (r := (0 : Int64)) (by decide) dM_173 rfl ?_
  refine Gl.lor Y113_3 (r := (0 : Int64)) (by decide) dM_174 rfl ?_
  refine Gl.bipush Y113_3 (v := (63 : Int32)) (by decide) dM_175 rfl ?_
  refine Gl.lushr Y113_3 (r := (0 : Int64)) (by decide) dM_177 rfl ?_
  refine Gl.lstore Y113_3 (L' := #[.val (.ref o0), .val (.ref o1), .val (.int 0), .val (.ref o4), .val (.int 3), .val (.long (-1)), .second, .val (.long 0), .second, .val (.long 0), .second, .val (.long 0), .second, .val (.long (-1)), .second, .val (.long 0), .second, .val (.long (-1)), .second, .val (.int 1), .val (.int 2)]) rfl dM_178 rfl ?_
  refine Gl.iload Y113_3 rfl dM_180 rfl ?_
  refine Gl.aloadN Y113_3 rfl rfl dM_182 rfl ?_
  refine Gl.getF Y113_3 (host := "") (Or.inl (tw_15 hw)) Via.refl f3 dM_183 rfl (fun T183_3 Y183_3 => ?_)
  refine Gl.arraylength Y183_3 A198_2 dM_186 rfl ?_
  refine Gl.icmpge Y183_3 dM_187 (by decide) rfl rfl (fun c187_3 => ?_) (fun c187_3 => ?_)
  · exact absurd c187_3 (by decide)
  refine Gl.aloadN Y183_3 rfl rfl dM_190 rfl ?_
  refine Gl.getF Y183_3 (host := "") (Or.inl (tw_15 hw)) Via.refl f3 dM_191 rfl (fun T191_3 Y191_3 => ?_)
  refine Gl.iload Y191_3 rfl dM_194 rfl ?_
  refine Gl.lload Y191_3 rfl dM_196 rfl ?_
  refine Gl.lastore Y191_3 A198_2 (v := (.long (-1))) rfl ⟨by decide, by decide⟩ (ix := 2) rfl (Nat.le_of_ble_eq_true rfl) g_o2 dM_198 rfl (fun T198_3 h198_3 Y198_3 W198_3 A198_3 => ?_)
  have A198_3 : Arv Z h198_3 o2 k_o2 .long (3 : Int32) [(.long d2), (.long (-9223372036854775808)), (.long (-1))] (.long 0) := A198_3
  have K198_3 : Keep h0 h198_3 [o0, o1, o2, o3, o4] := K198_2.wr W198_3 (Or.inl (List.mem_of_getElem? (i := 2) rfl))
  show Gl p e below _ (T198_3.setTop (mkF m 199 _ []))
  refine Gl.goto Y198_3 dM_199 (by decide) rfl ?_
  refine Gl.iinc Y198_3 rfl (r := (3 : Int32)) (by decide) (L' := #[.val (.ref o0), .val (.ref o1), .val (.int 0), .val (.ref o4), .val (.int 3), .val (.long (-1)), .second, .val (.long 0), .second, .val (.long 0), .second, .val (.long 0), .second, .val (.long (-1)), .second, .val (.long 0), .second, .val (.long (-1)), .second, .val (.int 1), .val (.int 3)]) rfl dM_225 rfl ?_
  refine Gl.goto Y198_3 dM_228 (by decide) rfl ?_
  refine Gl.iload Y198_3 rfl dM_95 rfl ?_
  refine Gl.iload Y198_3 rfl dM_97 rfl ?_
  refine Gl.icmpge Y198_3 dM_99 (by decide) rfl rfl (fun c99_4 => ?_) (fun c99_4 => ?_)
  rotate_left
  · exact absurd c99_4 (by decide)
  refine Gl.iload Y198_3 rfl dM_231 rfl ?_
  refine Gl.ifeq Y198_3 dM_233 (by decide) rfl rfl (fun c233 => ?_) (fun c233 => ?_)
  · exact absurd c233 (by decide)
  refine Gl.lload Y198_3 rfl dM_236 rfl ?_
  refine Gl.lload Y198_3 rfl dM_238 rfl ?_
  refine Gl.lxor Y198_3 (r := (0 : Int64)) (by decide) dM_240 rfl ?_
  refine Gl.lload Y198_3 rfl dM_241 rfl ?_
  refine Gl.lload Y198_3 rfl dM_243 rfl ?_
  refine Gl.lxor Y198_3 (r := (-1 : Int64)) (by decide) dM_245 rfl ?_
  refine Gl.land Y198_3 (r := (0 : Int64)) (by decide) dM_246 rfl ?_
  refine Gl.lconst Y198_3 (v := (0 : Int64)) (by decide) dM_247 rfl ?_
  refine Gl.lcmplt Y198_3 dM_248 rfl dM_249 (by decide) rfl rfl (fun c249 => ?_) (fun c249 => ?_)
  · exact absurd c249 (by decide)
  refine Gl.aloadN Y198_3 rfl rfl dM_252 rfl ?_
  refine Gl.goto Y198_3 dM_253 (by decide) rfl ?_
  have f5 := (Exa.wr W198_3 (Exa.wr W198_2 (Exa.wr W198 E_o0)))
  have f6 := (Exa.wr W198_3 (Exa.wr W198_2 (Exa.wr W198 E_o1)))
  have f7 := (Fld.other W198_3 f3 (Or.inl n_o0_o2))
  have f8 := (Fld.other W198_3 (Fld.other W198_2 (Fld.other W198 F_o0_work (Or.inl n_o0_o2)) (Or.inl n_o0_o2)) (Or.inl n_o0_o2))
  have f9 := (Fld.other W198_3 (Fld.other W198_2 (Fld.other W198 F_o1_words (Or.inl n_o1_o2)) (Or.inl n_o1_o2)) (Or.inl n_o1_o2))
  have f10 := (Fld.other W198_3 (Fld.other W198_2 (Fld.other W198 F_o1_work (Or.inl n_o1_o2)) (Or.inl n_o1_o2)) (Or.inl n_o1_o2))
  have f11 := (((V_o3.other W198 (Ne.symm n_o2_o3)).other W198_2 (Ne.symm n_o2_o3)).other W198_3 (Ne.symm n_o2_o3))
  have f12 := (f4.other W198_3 (Ne.symm n_o2_o4))
  exact Gl.retA Y198_3 (by decide) (by decide) rfl rfl dM_260 ⟨rfl, K198_3, f5, f6, f7, f8, f9, f10, A198_3, f11, f12⟩
def RA121 : Room := { frames := 3, cells := 0, slots := 0, locals := 56 }
def QA121 (Z : State) (o0 : Addr) (o1 : Addr) (o2 : Addr) (o3 : Addr) (o4 : Addr) (k_o2 : ClassId) (k_o3 : ClassId) (k_o4 : ClassId) (p0 : Int64) (d0 : Int64) (d1 : Int64) (d2 : Int64) (d3 : Int64) (d4 : Int64) (d5 : Int64) (d6 : Int64) (d7 : Int64) (h0 : Heap) (v : Option Value) (h : Heap) : Prop := v = some (.ref o0) ∧ Keep h0 h [o0, o1, o2, o3, o4] ∧ Exa Z h o0 kW ∧ Exa Z h o1 kW ∧ Fld Z h o0 kW "words" "[J" (.ref o2) ∧ Fld Z h o0 kW "work" "[J" (.ref o3) ∧ Fld Z h o1 kW "words" "[J" (.ref o4) ∧ Fld Z h o1 kW "work" "[J" .null ∧ Arv Z h o2 k_o2 .long (3 : Int32) [(.long d2), (.long (-9223372036854775808)), (.long (-1))] (.long 0) ∧ Arv Z h o3 k_o3 .long (8 : Int32) [(.long 6148914691236517205), (.long 0), (.long 0), (.long 0), (.long 0), (.long 0), (.long 0), (.long 0)] (.long 0) ∧ Arv Z h o4 k_o4 .long (3 : Int32) [(.long p0), (.long 0), (.long 0)] (.long 0)
theorem efA121 (o0 : Addr) (o1 : Addr) (m : MethodId) : entryFrame m #[(.ref o0), (.ref o1)] 2 = mkF m 0 #[.val (.ref o0), .val (.ref o1)] [] := by first | (simp [entryFrame, mkF, argsToLocals, Value.category]; done) | rfl
theorem rmA121 (l : Launch) (Z : State) (a0 : Array Value) (hw : HW a0 Z) (ws : List Jvm.Cond) (o0 : Addr) (o1 : Addr) (o2 : Addr) (o3 : Addr) (o4 : Addr) (k_o2 : ClassId) (k_o3 : ClassId) (k_o4 : ClassId) (p0 : Int64) (d0 : Int64) (d1 : Int64) (d2 : Int64) (d3 : Int64) (d4 : Int64) (d5 : Int64) (d6 : Int64) (d7 : Int64) (h0 : Heap) (n0 : Nat) (Z0 : n0 ≤ h0.size) (E_o0 : Exa Z h0 o0 kW) (F_o0_words : Fld Z h0 o0 kW "words" "[J" (.ref o2)) (F_o0_work : Fld Z h0 o0 kW "work" "[J" (.ref o3)) (g_o0 : n0 ≤ o0) (E_o1 : Exa Z h0 o1 kW) (F_o1_words : Fld Z h0 o1 kW "words" "[J" (.ref o4)) (F_o1_work : Fld Z h0 o1 kW "work" "[J" .null) (g_o1 : n0 ≤ o1) (V_o2 : Arv Z h0 o2 k_o2 .long (3 : Int32) [(.long (-9223372036854775808)), (.long (-9223372036854775808)), (.long (-1))] (.long 0)) (g_o2 : n0 ≤ o2) (V_o3 : Arv Z h0 o3 k_o3 .long (8 : Int32) [(.long 6148914691236517205), (.long 0), (.long 0), (.long 0), (.long 0), (.long 0), (.long 0), (.long 0)] (.long 0)) (g_o3 : n0 ≤ o3) (V_o4 : Arv Z h0 o4 k_o4 .long (3 : Int32) [(.long p0), (.long 0), (.long 0)] (.long 0)) (g_o4 : n0 ≤ o4) (n_o0_o1 : own_ne o0 o1) (n_o0_o2 : own_ne o0 o2) (n_o0_o3 : own_ne o0 o3) (n_o0_o4 : own_ne o0 o4) (n_o1_o2 : own_ne o1 o2) (n_o1_o3 : own_ne o1 o3) (n_o1_o4 : own_ne o1 o4) (n_o2_o3 : own_ne o2 o3) (n_o2_o4 : own_ne o2 o4) (n_o3_o4 : own_ne o3 o4) (hd0 : p0 ^^^ (0 : Int64) = d0) (hd1 : (-9223372036854775808 : Int64) + d0 = d1) (hd2 : d1 + (0 : Int64) = d2) (hd3 : (-9223372036854775808 : Int64) &&& d0 = d3) (hd4 : (-9223372036854775808 : Int64) ||| d0 = d4) (hd5 : d2 ^^^ (-1 : Int64) = d5) (hd6 : d4 &&& d5 = d6) (hd7 : d3 ||| d6 = d7) (hd8 : (d7.toUInt64 >>> ((63 : Int32) &&& 0x3f).toInt64.toUInt64).toInt64 = (0 : Int64)) : OMet l Z ws (⟨"com/example/meterwise/meterwise/model/WholeNumber", "add", "(Lcom/example/meterwise/meterwise/model/WholeNumber;)Lcom/example/meterwise/meterwise/model/WholeNumber;"⟩ : MethodName) prog_137_method_12_code 2 (some (.object "com/example/meterwise/meterwise/model/WholeNumber")) RA121 #[(.ref o0), (.ref o1)] h0 n0 (QA121 Z o0 o1 o2 o3 o4 k_o2 k_o3 k_o4 p0 d0 d1 d2 d3 d4 d5 d6 d7 h0) := by
  refine OMet.of (own := "com/example/meterwise/meterwise/model/WholeNumber") rfl (plainFor_of_name pn_0) (efA121 o0 o1) Z0 ?_
  intro p e s m below meth c T0 Y0 hnm
  refine Gl.aloadN Y0 rfl rfl dL_0 rfl ?_
  refine Gl.aloadN Y0 rfl rfl dL_1 rfl ?_
  refine Gl.iconst Y0 (v := (0 : Int32)) (by decide) dL_2 rfl ?_
  refine Gl.callP Y0 (tw_64 hw) (tw_65 hw) (tw_66 hw) (tw_2 hw) (tw_3 hw) (tw_67 hw) (by decide) E_o0 (rmA122 l Z a0 hw [] o0 o1 o2 o3 o4 k_o2 k_o3 k_o4 p0 d0 d1 d2 d3 d4 d5 d6 d7 h0 n0 Y0.sz E_o0 F_o0_words F_o0_work g_o0 E_o1 F_o1_words F_o1_work g_o1 V_o2 g_o2 V_o3 g_o3 V_o4 g_o4 n_o0_o1 n_o0_o2 n_o0_o3 n_o0_o4 n_o1_o2 n_o1_o3 n_o1_o4 n_o2_o3 n_o2_o4 n_o3_o4 hd0 hd1 hd2 hd3 hd4 hd5 hd6 hd7 hd8) (a := o0) (argsL := [(.ref o1), (.int 0)]) (rest := []) rfl rfl (lenOf pd_9 rfl) rfl (by decide) (Nat.le_of_ble_eq_true rfl) (by decide) (by decide) dL_3 rfl (fun v3 T3 h3 Y3 q3 => ?_)
  obtain ⟨rfl, K3, f3_0, f3_1, f3_2, f3_3, f3_4, f3_5, f3_6, f3_7, f3_8⟩ := q3
  have KK3 : Keep h0 h3 [o0, o1, o2, o3, o4] := (Keep.refl h0 [o0, o1, o2, o3, o4]).trans K3 (allS (Or.inl (List.mem_of_getElem? (i := 0) rfl)) (allS (Or.inl (List.mem_of_getElem? (i := 1) rfl)) (allS (Or.inl (List.mem_of_getElem? (i := 2) rfl)) (allS (Or.inl (List.mem_of_getElem? (i := 3) rfl)) (allS (Or.inl (List.mem_of_getElem? (i := 4) rfl)) all0)))))
  show Gl p e below _ (T3.setTop (mkF m 6 _ [(.ref o0)]))
  exact Gl.retA Y3 (by decide) (by decide) rfl rfl dL_6 ⟨rfl, KK3, f3_0, f3_1, f3_2, f3_3, f3_4, f3_5, f3_6, f3_7, f3_8⟩
def QL (Z : State) (dd : Int32) (mo : Int32) (vv : Int64) (h0 : Heap) (v : Option Value) (h : Heap) : Prop := v = some (.int 1)
theorem efL (dd : Int32) (mo : Int32) (vv : Int64) (m : MethodId) : entryFrame m #[(.int dd), (.int mo), (.long vv)] maxLocals = mkF m 0 #[.val (.int dd), .val (.int mo), .val (.long vv), .second, .unset, .unset, .unset, .unset, .unset, .unset] [] := by first | (simp [entryFrame, mkF, argsToLocals, Value.category, maxLocals]; done) | rfl
theorem pn_3 : plainName "com/example/meterwise/meterwise/model/WholeNumberOverflowedPinLaw" = true := by first | (simp [plainName, overriddenIn]; done) | decide +kernel
theorem rmL (l : Launch) (Z : State) (a0 : Array Value) (hw : HW a0 Z) (ws : List Jvm.Cond) (dd : Int32) (mo : Int32) (vv : Int64) (h0 : Heap) (n0 : Nat) (Z0 : n0 ≤ h0.size) : OMet l Z ws x code maxLocals ret room_1 #[(.int dd), (.int mo), (.long vv)] h0 n0 (QL Z dd mo vv h0) := by
  refine OMet.of (own := "com/example/meterwise/meterwise/model/WholeNumberOverflowedPinLaw") rfl (plainFor_of_name pn_3) (efL dd mo vv) Z0 ?_
  intro p e s m below meth c T0 Y0 hnm
  have ndd := rng32 dd
  have nmo := rng32 mo
  have nvv := rng64 vv
  refine Gl.iconst Y0 (v := (1 : Int32)) (by decide) at_0 rfl ?_
  refine Gl.iloadN Y0 rfl at_1 rfl ?_
  refine Gl.ldcI Y0 (tw_0 hw) at_2 rfl ?_
  obtain ⟨v4, hv4⟩ : ∃ z : Int32, dd &&& (2147483647 : Int32) = z := ⟨_, rfl⟩
  have iv4 : v4.toInt = dd.toInt % 2147483648 := by have q := c_mask dd (2147483647 : Int32) 31 (by decide) (by decide); rw [hv4] at q; exact q
  refine Gl.iand Y0 hv4 at_4 rfl ?_
  refine Gl.bipush Y0 (v := (57 : Int32)) (by decide) at_5 rfl ?_
  obtain ⟨v7, hv7⟩ : ∃ z : Int32, v4 % (57 : Int32) = z := ⟨_, rfl⟩
  have iv7 : v7.toInt = v4.toInt % 57 := by have q := (c_irem v4 (57 : Int32) 57 (by decide)).1 (by omega); rw [hv7] at q; exact q
  refine Gl.irem Y0 (by decide) hv7 at_7 rfl ?_
  obtain ⟨v8, hv8⟩ : ∃ z : Int32, (1 : Int32) + v7 = z := ⟨_, rfl⟩
  have iv8 : v8.toInt = 1 + v7.toInt := by
    have q : (v8.toInt - (1 + v7.toInt)) % 4294967296 = 0 := by have q := c_iadd (1 : Int32) v7; rw [hv8] at q; exact q
    have r := rng32 v8
    omega
  refine Gl.iadd Y0 hv8 at_8 rfl ?_
  refine Gl.istore Y0 (L' := #[.val (.int dd), .val (.int mo), .val (.long vv), .second, .val (.int v8), .unset, .unset, .unset, .unset, .unset]) rfl at_9 rfl ?_
  by_cases dg18 : v8 < (19 : Int32)
  · have jg18 : v8.toInt < 19 := Int32.lt_iff_toInt_lt.mp dg18
    refine Gl.iload Y0 rfl at_11 rfl ?_
    refine Gl.bipush Y0 (v := (18 : Int32)) (by decide) at_13 rfl ?_
    refine Gl.icmpgt Y0 at_15 (by decide) rfl rfl (fun c15 => ?_) (fun c15 => ?_)
    · exfalso; have j15 : 18 < v8.toInt := Int32.lt_iff_toInt_lt.mp c15; omega
    have j15 : ¬ (18 < v8.toInt) := fun q => c15 (Int32.lt_iff_toInt_lt.mpr q)
    refine Gl.iconst Y0 (v := (1 : Int32)) (by decide) at_18 rfl ?_
    refine Gl.goto Y0 at_19 (by decide) rfl ?_
    refine Gl.istore Y0 (L' := #[.val (.int dd), .val (.int mo), .val (.long vv), .second, .val (.int v8), .val (.int 1), .unset, .unset, .unset, .unset]) rfl at_34 rfl ?_
    refine Gl.newO Y0 (tw_1 hw) (tw_2 hw) (tw_3 hw) (by decide) (by decide) at_36 rfl (fun T36 h36 b36 Y36 E36 g36 sb36 X36 D36 => ?_)
    have f1 : Fld Z h36 b36 kW "words" "[J" .null := D36 (Or.inr (tw_16 hw)) (ty := (.array .long)) (by decide)
    have f2 : Fld Z h36 b36 kW "work" "[J" .null := D36 (Or.inl (tw_79 hw)) (ty := (.array .long)) (by decide)
    show Gl p e below _ (T36.setTop (mkF m 39 _ [(.ref b36)]))
    refine Gl.dup Y36 rfl at_39 rfl ?_
    refine Gl.iload Y36 rfl at_40 rfl ?_
    refine Gl.callN Y36 rfl (tw_4 hw) (tw_5 hw) (tw_3 hw) (tw_6 hw) (by decide) (rm0 l Z a0 hw [] b36 v8 h36 n0 Y36.sz X36 f1 f2 sb36 (by first | assumption | decide | omega | (simp; done)) (by first | assumption | decide | omega | (simp; done))) (a := b36) (argsL := [(.int v8)]) (rest := [(.ref b36)]) rfl rfl (lenOf pd_3 rfl) rfl (by decide) (Nat.le_of_ble_eq_true rfl) (by decide) (by decide) at_42 rfl (fun v42 T42 h42 Y42 q42 => ?_)
    obtain ⟨wa42, ck42, rfl, K42, f42_0, f42_1, f42_2, f42_3, f42_4⟩ := q42
    have Y42_sz : n0 ≤ h36.size := Y36.sz
    show Gl p e below _ (T42.setTop (mkF m 45 _ [(.ref b36)]))
    refine Gl.astore Y42 rfl (L' := #[.val (.int dd), .val (.int mo), .val (.long vv), .second, .val (.int v8), .val (.int 1), .val (.ref b36), .unset, .unset, .unset]) rfl at_45 rfl ?_
    refine Gl.newO Y42 (tw_1 hw) (tw_2 hw) (tw_3 hw) (by decide) (by decide) at_47 rfl (fun T47 h47 b47 Y47 E47 g47 sb47 X47 D47 => ?_)
    have f3 : Fld Z h47 b47 kW "words" "[J" .null := D47 (Or.inr (tw_16 hw)) (ty := (.array .long)) (by decide)
    have f4 : Fld Z h47 b47 kW "work" "[J" .null := D47 (Or.inl (tw_79 hw)) (ty := (.array .long)) (by decide)
    show Gl p e below _ (T47.setTop (mkF m 50 _ [(.ref b47)]))
    refine Gl.dup Y47 rfl at_50 rfl ?_
    refine Gl.iload Y47 rfl at_51 rfl ?_
    refine Gl.callN Y47 rfl (tw_4 hw) (tw_5 hw) (tw_3 hw) (tw_6 hw) (by decide) (rm0 l Z a0 hw [] b47 v8 h47 n0 Y47.sz X47 f3 f4 sb47 (by first | assumption | decide | omega | (simp; done)) (by first | assumption | decide | omega | (simp; done))) (a := b47) (argsL := [(.int v8)]) (rest := [(.ref b47)]) rfl rfl (lenOf pd_3 rfl) rfl (by decide) (Nat.le_of_ble_eq_true rfl) (by decide) (by decide) at_53 rfl (fun v53 T53 h53 Y53 q53 => ?_)
    obtain ⟨wa53, ck53, rfl, K53, f53_0, f53_1, f53_2, f53_3, f53_4⟩ := q53
    have f5 := (Exa.ext E47 f42_1)
    have f6 := (f42_4.ext E47)
    have Y53_sz : n0 ≤ h47.size := Y47.sz
    show Gl p e below _ (T53.setTop (mkF m 56 _ [(.ref b47)]))
    refine Gl.astore Y53 rfl (L' := #[.val (.int dd), .val (.int mo), .val (.long vv), .second, .val (.int v8), .val (.int 1), .val (.ref b36), .val (.ref b47), .unset, .unset]) rfl at_56 rfl ?_
    refine Gl.iloadN Y53 rfl at_58 rfl ?_
    refine Gl.iconst Y53 (v := (3 : Int32)) (by decide) at_59 rfl ?_
    obtain ⟨v60, hv60⟩ : ∃ z : Int32, mo &&& (3 : Int32) = z := ⟨_, rfl⟩
    have iv60 : v60.toInt = mo.toInt % 4 := by have q := c_mask mo (3 : Int32) 2 (by decide) (by decide); rw [hv60] at q; exact q
    refine Gl.iand Y53 hv60 at_60 rfl ?_
    refine Gl.istore Y53 (L' := #[.val (.int dd), .val (.int mo), .val (.long vv), .second, .val (.int v8), .val (.int 1), .val (.ref b36), .val (.ref b47), .val (.int v60), .unset]) rfl at_61 rfl ?_
    have cs_v60 : v60 = (0 : Int32) ∨ v60 = (1 : Int32) ∨ v60 = (2 : Int32) ∨ v60 = (3 : Int32) := own_k3 hv60
    rcases cs_v60 with rfl | rfl | rfl | rfl
    · refine Gl.iload Y53 rfl at_63 rfl ?_
      refine Gl.iconst Y53 (v := (3 : Int32)) (by decide) at_65 rfl ?_
      refine Gl.icmpne Y53 at_66 (by decide) rfl rfl (fun c66 => ?_) (fun c66 => ?_)
      rotate_left
      · exact absurd c66 (by decide)
      refine Gl.iload Y53 rfl at_157 rfl ?_
      refine Gl.ifne Y53 at_159 (by decide) rfl rfl (fun c159 => ?_) (fun c159 => ?_)
      · exact absurd c159 (by decide)
      refine Gl.iconst Y53 (v := (0 : Int32)) (by decide) at_162 rfl ?_
      refine Gl.istore Y53 (L' := #[.val (.int dd), .val (.int mo), .val (.long vv), .second, .val (.int v8), .val (.int 1), .val (.ref b36), .val (.ref b47), .val (.int 0), .val (.int 0)]) rfl at_163 rfl ?_
      refine Gl.goto Y53 at_165 (by decide) rfl ?_
      refine Gl.aload Y53 rfl rfl at_214 rfl ?_
      have f7 := (f5.keep K53)
      have f8 := ((Fld.ext E47 f42_2).keep K53 (ninS (Nat.ne_of_lt (Nat.lt_of_lt_of_eq f42_1.lt g47.symm)) nin0))
      have f9 := ((Fld.ext E47 f42_3).keep K53 (ninS (Nat.ne_of_lt (Nat.lt_of_lt_of_eq f42_1.lt g47.symm)) nin0))
      have f10 := (f6.keep K53 (ninS (Nat.ne_of_lt (Nat.lt_of_lt_of_eq f42_4.lt g47.symm)) nin0))
      refine Gl.callV Y53 (tw_68 hw) (tw_37 hw) (tw_39 hw) (tw_39 hw) (tw_38 hw) (tw_3 hw) (tw_40 hw) (by decide) f7 (rmA25 l Z a0 hw [] b36 wa42 ck42 h53 n0 Y53.sz f7 f8 f9 sb36 f10 (Nat.le_trans Y42_sz f42_0) (Nat.ne_of_lt (Nat.lt_of_lt_of_le X36.lt f42_0))) (a := b36) (argsL := []) (rest := []) rfl rfl (lenOf pd_5 rfl) rfl (by decide) (Nat.le_of_ble_eq_true rfl) (by decide) (by decide) at_216 rfl (fun v216 T216 h216 Y216 q216 => ?_)
      obtain ⟨rfl, rfl⟩ := q216
      show Gl p e below _ (T216.setTop (mkF m 219 _ [(.int 0)]))
      refine Gl.iload Y216 rfl at_219 rfl ?_
      refine Gl.icmpne Y216 at_221 (by decide) rfl rfl (fun c221 => ?_) (fun c221 => ?_)
      · exact absurd c221 (by decide)
      refine Gl.iconst Y216 (v := (1 : Int32)) (by decide) at_224 rfl ?_
      refine Gl.goto Y216 at_225 (by decide) rfl ?_
      exact Gl.retZ Y216 (by decide) (by decide) (x' := (1 : Int32)) (by decide) at_229 rfl
    · refine Gl.iload Y53 rfl at_63 rfl ?_
      refine Gl.iconst Y53 (v := (3 : Int32)) (by decide) at_65 rfl ?_
      refine Gl.icmpne Y53 at_66 (by decide) rfl rfl (fun c66 => ?_) (fun c66 => ?_)
      rotate_left
      · exact absurd c66 (by decide)
      refine Gl.iload Y53 rfl at_157 rfl ?_
      refine Gl.ifne Y53 at_159 (by decide) rfl rfl (fun c159 => ?_) (fun c159 => ?_)
      rotate_left
      · exact absurd c159 (by decide)
      by_cases sg_vv : vv < (0 : Int64)
      · have jg_vv : vv.toInt < 0 := Int64.lt_iff_toInt_lt.mp sg_vv
        have hsv := own_sn sg_vv
        refine Gl.aload Y53 rfl rfl at_168 rfl ?_
        refine Gl.lloadN Y53 rfl at_170 rfl ?_
        have f11 := (f5.keep K53)
        have f12 := ((Fld.ext E47 f42_2).keep K53 (ninS (Nat.ne_of_lt (Nat.lt_of_lt_of_eq f42_1.lt g47.symm)) nin0))
        have f13 := (f6.keep K53 (ninS (Nat.ne_of_lt (Nat.lt_of_lt_of_eq f42_4.lt g47.symm)) nin0))
        refine Gl.callV Y53 (tw_18 hw) (tw_19 hw) (tw_21 hw) (tw_21 hw) (tw_20 hw) (tw_3 hw) (tw_22 hw) (by decide) f11 (rm7 l Z a0 hw [] b36 wa42 ck42 (0 : Int64) vv (-1 : Int64) h53 n0 Y53.sz f11 f12 f13 (Nat.le_trans Y42_sz f42_0) (Nat.ne_of_lt (Nat.lt_of_lt_of_le X36.lt f42_0)) (by first | exact hsv | decide)) (a := b36) (argsL := [(.long vv)]) (rest := []) rfl rfl (lenOf pd_6 rfl) rfl (by decide) (Nat.le_of_ble_eq_true rfl) (by decide) (by decide) at_171 rfl (fun v171 T171 h171 Y171 q171 => ?_)
        obtain ⟨rfl, K171, f171_0⟩ := q171
        show Gl p e below _ (T171.setTop (mkF m 174 _ [(.ref b36)]))
        refine Gl.pop Y171 rfl at_174 rfl ?_
        refine Gl.iload Y171 rfl at_175 rfl ?_
        refine Gl.iconst Y171 (v := (2 : Int32)) (by decide) at_177 rfl ?_
        refine Gl.icmpne Y171 at_178 (by decide) rfl rfl (fun c178 => ?_) (fun c178 => ?_)
        rotate_left
        · exact absurd c178 (by decide)
        refine Gl.iload Y171 rfl at_193 rfl ?_
        refine Gl.iconst Y171 (v := (1 : Int32)) (by decide) at_195 rfl ?_
        refine Gl.icmpne Y171 at_196 (by decide) rfl rfl (fun c196 => ?_) (fun c196 => ?_)
        · exact absurd c196 (by decide)
        refine Gl.lloadN Y171 rfl at_199 rfl ?_
        refine Gl.ldcJ Y171 (tw_17 hw) at_200 rfl ?_
        refine Gl.lcmpne Y171 at_203 rfl at_204 (by decide) rfl rfl (fun c204 => ?_) (fun c204 => ?_)
        · have j204 : ¬ (vv.toInt = (-9223372036854775808)) := fun q => c204 (Int64.toInt_inj.mp q)
          refine Gl.iconst Y171 (v := (0 : Int32)) (by decide) at_211 rfl ?_
          refine Gl.istore Y171 (L' := #[.val (.int dd), .val (.int mo), .val (.long vv), .second, .val (.int v8), .val (.int 1), .val (.ref b36), .val (.ref b47), .val (.int 1), .val (.int 0)]) rfl at_212 rfl ?_
          refine Gl.aload Y171 rfl rfl at_214 rfl ?_
          have f14 := (f11.keep K171)
          have f15 := (f12.keep K171 (ninS (Nat.ne_of_lt (Nat.lt_of_lt_of_le X36.lt f42_0)) nin0))
          have f16 := (((Fld.ext E47 f42_3).keep K53 (ninS (Nat.ne_of_lt (Nat.lt_of_lt_of_eq f42_1.lt g47.symm)) nin0)).keep K171 (ninS (Nat.ne_of_lt (Nat.lt_of_lt_of_le X36.lt f42_0)) nin0))
          refine Gl.callV Y171 (tw_68 hw) (tw_37 hw) (tw_39 hw) (tw_39 hw) (tw_38 hw) (tw_3 hw) (tw_40 hw) (by decide) f14 (rmA26 l Z a0 hw [] b36 wa42 ck42 vv h171 n0 Y171.sz f14 f15 f16 sb36 f171_0 (Nat.le_trans Y42_sz f42_0) (Nat.ne_of_lt (Nat.lt_of_lt_of_le X36.lt f42_0)) c204) (a := b36) (argsL := []) (rest := []) rfl rfl (lenOf pd_5 rfl) rfl (by decide) (Nat.le_of_ble_eq_true rfl) (by decide) (by decide) at_216 rfl (fun v216 T216 h216 Y216 q216 => ?_)
          obtain ⟨rfl, rfl⟩ := q216
          show Gl p e below _ (T216.setTop (mkF m 219 _ [(.int 0)]))
          refine Gl.iload Y216 rfl at_219 rfl ?_
          refine Gl.icmpne Y216 at_221 (by decide) rfl rfl (fun c221 => ?_) (fun c221 => ?_)
          · exact absurd c221 (by decide)
          refine Gl.iconst Y216 (v := (1 : Int32)) (by decide) at_224 rfl ?_
          refine Gl.goto Y216 at_225 (by decide) rfl ?_
          exact Gl.retZ Y216 (by decide) (by decide) (x' := (1 : Int32)) (by decide) at_229 rfl
        · have j204 : vv.toInt = (-9223372036854775808) := congrArg Int64.toInt c204
          refine Gl.iconst Y171 (v := (1 : Int32)) (by decide) at_207 rfl ?_
          refine Gl.goto Y171 at_208 (by decide) rfl ?_
          refine Gl.istore Y171 (L' := #[.val (.int dd), .val (.int mo), .val (.long vv), .second, .val (.int v8), .val (.int 1), .val (.ref b36), .val (.ref b47), .val (.int 1), .val (.int 1)]) rfl at_212 rfl ?_
          refine Gl.aload Y171 rfl rfl at_214 rfl ?_
          have f17 := (f11.keep K171)
          have f18 := (f12.keep K171 (ninS (Nat.ne_of_lt (Nat.lt_of_lt_of_le X36.lt f42_0)) nin0))
          have f19 := (((Fld.ext E47 f42_3).keep K53 (ninS (Nat.ne_of_lt (Nat.lt_of_lt_of_eq f42_1.lt g47.symm)) nin0)).keep K171 (ninS (Nat.ne_of_lt (Nat.lt_of_lt_of_le X36.lt f42_0)) nin0))
          refine Gl.callV Y171 (tw_68 hw) (tw_37 hw) (tw_39 hw) (tw_39 hw) (tw_38 hw) (tw_3 hw) (tw_40 hw) (by decide) f17 (rmA27 l Z a0 hw [] b36 wa42 ck42 vv h171 n0 Y171.sz f17 f18 f19 sb36 f171_0 (Nat.le_trans Y42_sz f42_0) (Nat.ne_of_lt (Nat.lt_of_lt_of_le X36.lt f42_0)) c204) (a := b36) (argsL := []) (rest := []) rfl rfl (lenOf pd_5 rfl) rfl (by decide) (Nat.le_of_ble_eq_true rfl) (by decide) (by decide) at_216 rfl (fun v216 T216 h216 Y216 q216 => ?_)
          obtain ⟨rfl, rfl⟩ := q216
          show Gl p e below _ (T216.setTop (mkF m 219 _ [(.int 1)]))
          refine Gl.iload Y216 rfl at_219 rfl ?_
          refine Gl.icmpne Y216 at_221 (by decide) rfl rfl (fun c221 => ?_) (fun c221 => ?_)
          · exact absurd c221 (by decide)
          refine Gl.iconst Y216 (v := (1 : Int32)) (by decide) at_224 rfl ?_
          refine Gl.goto Y216 at_225 (by decide) rfl ?_
          exact Gl.retZ Y216 (by decide) (by decide) (x' := (1 : Int32)) (by decide) at_229 rfl
      · have jg_vv : ¬ (vv.toInt < 0) := fun q => sg_vv (Int64.lt_iff_toInt_lt.mpr q)
        have hsv := own_sp sg_vv
        refine Gl.aload Y53 rfl rfl at_168 rfl ?_
        refine Gl.lloadN Y53 rfl at_170 rfl ?_
        have f20 := (f5.keep K53)
        have f21 := ((Fld.ext E47 f42_2).keep K53 (ninS (Nat.ne_of_lt (Nat.lt_of_lt_of_eq f42_1.lt g47.symm)) nin0))
        have f22 := (f6.keep K53 (ninS (Nat.ne_of_lt (Nat.lt_of_lt_of_eq f42_4.lt g47.symm)) nin0))
        refine Gl.callV Y53 (tw_18 hw) (tw_19 hw) (tw_21 hw) (tw_21 hw) (tw_20 hw) (tw_3 hw) (tw_22 hw) (by decide) f20 (rm7 l Z a0 hw [] b36 wa42 ck42 (0 : Int64) vv (0 : Int64) h53 n0 Y53.sz f20 f21 f22 (Nat.le_trans Y42_sz f42_0) (Nat.ne_of_lt (Nat.lt_of_lt_of_le X36.lt f42_0)) (by first | exact hsv | decide)) (a := b36) (argsL := [(.long vv)]) (rest := []) rfl rfl (lenOf pd_6 rfl) rfl (by decide) (Nat.le_of_ble_eq_true rfl) (by decide) (by decide) at_171 rfl (fun v171 T171 h171 Y171 q171 => ?_)
        obtain ⟨rfl, K171, f171_0⟩ := q171
        show Gl p e below _ (T171.setTop (mkF m 174 _ [(.ref b36)]))
        refine Gl.pop Y171 rfl at_174 rfl ?_
        refine Gl.iload Y171 rfl at_175 rfl ?_
        refine Gl.iconst Y171 (v := (2 : Int32)) (by decide) at_177 rfl ?_
        refine Gl.icmpne Y171 at_178 (by decide) rfl rfl (fun c178 => ?_) (fun c178 => ?_)
        rotate_left
        · exact absurd c178 (by decide)
        refine Gl.iload Y171 rfl at_193 rfl ?_
        refine Gl.iconst Y171 (v := (1 : Int32)) (by decide) at_195 rfl ?_
        refine Gl.icmpne Y171 at_196 (by decide) rfl rfl (fun c196 => ?_) (fun c196 => ?_)
        · exact absurd c196 (by decide)
        refine Gl.lloadN Y171 rfl at_199 rfl ?_
        refine Gl.ldcJ Y171 (tw_17 hw) at_200 rfl ?_
        refine Gl.lcmpne Y171 at_203 rfl at_204 (by decide) rfl rfl (fun c204 => ?_) (fun c204 => ?_)
        rotate_left
        · exfalso; have j204 : vv.toInt = (-9223372036854775808) := congrArg Int64.toInt c204; omega
        have j204 : ¬ (vv.toInt = (-9223372036854775808)) := fun q => c204 (Int64.toInt_inj.mp q)
        refine Gl.iconst Y171 (v := (0 : Int32)) (by decide) at_211 rfl ?_
        refine Gl.istore Y171 (L' := #[.val (.int dd), .val (.int mo), .val (.long vv), .second, .val (.int v8), .val (.int 1), .val (.ref b36), .val (.ref b47), .val (.int 1), .val (.int 0)]) rfl at_212 rfl ?_
        refine Gl.aload Y171 rfl rfl at_214 rfl ?_
        have f23 := (f20.keep K171)
        have f24 := (f21.keep K171 (ninS (Nat.ne_of_lt (Nat.lt_of_lt_of_le X36.lt f42_0)) nin0))
        have f25 := (((Fld.ext E47 f42_3).keep K53 (ninS (Nat.ne_of_lt (Nat.lt_of_lt_of_eq f42_1.lt g47.symm)) nin0)).keep K171 (ninS (Nat.ne_of_lt (Nat.lt_of_lt_of_le X36.lt f42_0)) nin0))
        refine Gl.callV Y171 (tw_68 hw) (tw_37 hw) (tw_39 hw) (tw_39 hw) (tw_38 hw) (tw_3 hw) (tw_40 hw) (by decide) f23 (rmA26 l Z a0 hw [] b36 wa42 ck42 vv h171 n0 Y171.sz f23 f24 f25 sb36 f171_0 (Nat.le_trans Y42_sz f42_0) (Nat.ne_of_lt (Nat.lt_of_lt_of_le X36.lt f42_0)) c204) (a := b36) (argsL := []) (rest := []) rfl rfl (lenOf pd_5 rfl) rfl (by decide) (Nat.le_of_ble_eq_true rfl) (by decide) (by decide) at_216 rfl (fun v216 T216 h216 Y216 q216 => ?_)
        obtain ⟨rfl, rfl⟩ := q216
        show Gl p e below _ (T216.setTop (mkF m 219 _ [(.int 0)]))
        refine Gl.iload Y216 rfl at_219 rfl ?_
        refine Gl.icmpne Y216 at_221 (by decide) rfl rfl (fun c221 => ?_) (fun c221 => ?_)
        · exact absurd c221 (by decide)
        refine Gl.iconst Y216 (v := (1 : Int32)) (by decide) at_224 rfl ?_
        refine Gl.goto Y216 at_225 (by decide) rfl ?_
        exact Gl.retZ Y216 (by decide) (by decide) (x' := (1 : Int32)) (by decide) at_229 rfl
    · refine Gl.iload Y53 rfl at_63 rfl ?_
      refine Gl.iconst Y53 (v := (3 : Int32)) (by decide) at_65 rfl ?_
      refine Gl.icmpne Y53 at_66 (by decide) rfl rfl (fun c66 => ?_) (fun c66 => ?_)
      rotate_left
      · exact absurd c66 (by decide)
      refine Gl.iload Y53 rfl at_157 rfl ?_
      refine Gl.ifne Y53 at_159 (by decide) rfl rfl (fun c159 => ?_) (fun c159 => ?_)
      rotate_left
      · exact absurd c159 (by decide)
      by_cases sg_vv : vv < (0 : Int64)
      · have jg_vv : vv.toInt < 0 := Int64.lt_iff_toInt_lt.mp sg_vv
        have hsv := own_sn sg_vv
        refine Gl.aload Y53 rfl rfl at_168 rfl ?_
        refine Gl.lloadN Y53 rfl at_170 rfl ?_
        have f26 := (f5.keep K53)
        have f27 := ((Fld.ext E47 f42_2).keep K53 (ninS (Nat.ne_of_lt (Nat.lt_of_lt_of_eq f42_1.lt g47.symm)) nin0))
        have f28 := (f6.keep K53 (ninS (Nat.ne_of_lt (Nat.lt_of_lt_of_eq f42_4.lt g47.symm)) nin0))
        refine Gl.callV Y53 (tw_18 hw) (tw_19 hw) (tw_21 hw) (tw_21 hw) (tw_20 hw) (tw_3 hw) (tw_22 hw) (by decide) f26 (rm7 l Z a0 hw [] b36 wa42 ck42 (0 : Int64) vv (-1 : Int64) h53 n0 Y53.sz f26 f27 f28 (Nat.le_trans Y42_sz f42_0) (Nat.ne_of_lt (Nat.lt_of_lt_of_le X36.lt f42_0)) (by first | exact hsv | decide)) (a := b36) (argsL := [(.long vv)]) (rest := []) rfl rfl (lenOf pd_6 rfl) rfl (by decide) (Nat.le_of_ble_eq_true rfl) (by decide) (by decide) at_171 rfl (fun v171 T171 h171 Y171 q171 => ?_)
        obtain ⟨rfl, K171, f171_0⟩ := q171
        show Gl p e below _ (T171.setTop (mkF m 174 _ [(.ref b36)]))
        refine Gl.pop Y171 rfl at_174 rfl ?_
        refine Gl.iload Y171 rfl at_175 rfl ?_
        refine Gl.iconst Y171 (v := (2 : Int32)) (by decide) at_177 rfl ?_
        refine Gl.icmpne Y171 at_178 (by decide) rfl rfl (fun c178 => ?_) (fun c178 => ?_)
        · exact absurd c178 (by decide)
        refine Gl.aload Y171 rfl rfl at_181 rfl ?_
        have f29 := (f26.keep K171)
        have f30 := (f27.keep K171 (ninS (Nat.ne_of_lt (Nat.lt_of_lt_of_le X36.lt f42_0)) nin0))
        refine Gl.callV Y171 (tw_109 hw) (tw_51 hw) (tw_53 hw) (tw_53 hw) (tw_52 hw) (tw_3 hw) (tw_54 hw) (by decide) f29 (rm8 l Z a0 hw [] b36 wa42 ck42 vv h171 n0 Y171.sz f29 f30 f171_0 (Nat.le_trans Y42_sz f42_0) (Nat.ne_of_lt (Nat.lt_of_lt_of_le X36.lt f42_0))) (a := b36) (argsL := []) (rest := []) rfl rfl (lenOf pd_7 rfl) rfl (by decide) (Nat.le_of_ble_eq_true rfl) (by decide) (by decide) at_183 rfl (fun v183 T183 h183 Y183 q183 => ?_)
        obtain ⟨rfl, K183, f183_0⟩ := q183
        show Gl p e below _ (T183.setTop (mkF m 186 _ [(.ref b36)]))
        refine Gl.pop Y183 rfl at_186 rfl ?_
        refine Gl.iconst Y183 (v := (1 : Int32)) (by decide) at_187 rfl ?_
        refine Gl.istore Y183 (L' := #[.val (.int dd), .val (.int mo), .val (.long vv), .second, .val (.int v8), .val (.int 1), .val (.ref b36), .val (.ref b47), .val (.int 2), .val (.int 1)]) rfl at_188 rfl ?_
        refine Gl.goto Y183 at_190 (by decide) rfl ?_
        refine Gl.aload Y183 rfl rfl at_214 rfl ?_
        have f31 := (f29.keep K183)
        have f32 := (f30.keep K183 (ninS (Nat.ne_of_lt (Nat.lt_of_lt_of_le X36.lt f42_0)) nin0))
        have f33 := ((((Fld.ext E47 f42_3).keep K53 (ninS (Nat.ne_of_lt (Nat.lt_of_lt_of_eq f42_1.lt g47.symm)) nin0)).keep K171 (ninS (Nat.ne_of_lt (Nat.lt_of_lt_of_le X36.lt f42_0)) nin0)).keep K183 (ninS (Nat.ne_of_lt (Nat.lt_of_lt_of_le X36.lt f42_0)) nin0))
        refine Gl.callV Y183 (tw_68 hw) (tw_37 hw) (tw_39 hw) (tw_39 hw) (tw_38 hw) (tw_3 hw) (tw_40 hw) (by decide) f31 (rmA29 l Z a0 hw [] b36 wa42 ck42 h183 n0 Y183.sz f31 f32 f33 sb36 f183_0 (Nat.le_trans Y42_sz f42_0) (Nat.ne_of_lt (Nat.lt_of_lt_of_le X36.lt f42_0))) (a := b36) (argsL := []) (rest := []) rfl rfl (lenOf pd_5 rfl) rfl (by decide) (Nat.le_of_ble_eq_true rfl) (by decide) (by decide) at_216 rfl (fun v216 T216 h216 Y216 q216 => ?_)
        obtain ⟨rfl, rfl⟩ := q216
        show Gl p e below _ (T216.setTop (mkF m 219 _ [(.int 1)]))
        refine Gl.iload Y216 rfl at_219 rfl ?_
        refine Gl.icmpne Y216 at_221 (by decide) rfl rfl (fun c221 => ?_) (fun c221 => ?_)
        · exact absurd c221 (by decide)
        refine Gl.iconst Y216 (v := (1 : Int32)) (by decide) at_224 rfl ?_
        refine Gl.goto Y216 at_225 (by decide) rfl ?_
        exact Gl.retZ Y216 (by decide) (by decide) (x' := (1 : Int32)) (by decide) at_229 rfl
      · have jg_vv : ¬ (vv.toInt < 0) := fun q => sg_vv (Int64.lt_iff_toInt_lt.mpr q)
        have hsv := own_sp sg_vv
        refine Gl.aload Y53 rfl rfl at_168 rfl ?_
        refine Gl.lloadN Y53 rfl at_170 rfl ?_
        have f34 := (f5.keep K53)
        have f35 := ((Fld.ext E47 f42_2).keep K53 (ninS (Nat.ne_of_lt (Nat.lt_of_lt_of_eq f42_1.lt g47.symm)) nin0))
        have f36 := (f6.keep K53 (ninS (Nat.ne_of_lt (Nat.lt_of_lt_of_eq f42_4.lt g47.symm)) nin0))
        refine Gl.callV Y53 (tw_18 hw) (tw_19 hw) (tw_21 hw) (tw_21 hw) (tw_20 hw) (tw_3 hw) (tw_22 hw) (by decide) f34 (rm7 l Z a0 hw [] b36 wa42 ck42 (0 : Int64) vv (0 : Int64) h53 n0 Y53.sz f34 f35 f36 (Nat.le_trans Y42_sz f42_0) (Nat.ne_of_lt (Nat.lt_of_lt_of_le X36.lt f42_0)) (by first | exact hsv | decide)) (a := b36) (argsL := [(.long vv)]) (rest := []) rfl rfl (lenOf pd_6 rfl) rfl (by decide) (Nat.le_of_ble_eq_true rfl) (by decide) (by decide) at_171 rfl (fun v171 T171 h171 Y171 q171 => ?_)
        obtain ⟨rfl, K171, f171_0⟩ := q171
        show Gl p e below _ (T171.setTop (mkF m 174 _ [(.ref b36)]))
        refine Gl.pop Y171 rfl at_174 rfl ?_
        refine Gl.iload Y171 rfl at_175 rfl ?_
        refine Gl.iconst Y171 (v := (2 : Int32)) (by decide) at_177 rfl ?_
        refine Gl.icmpne Y171 at_178 (by decide) rfl rfl (fun c178 => ?_) (fun c178 => ?_)
        · exact absurd c178 (by decide)
        refine Gl.aload Y171 rfl rfl at_181 rfl ?_
        have f37 := (f34.keep K171)
        have f38 := (f35.keep K171 (ninS (Nat.ne_of_lt (Nat.lt_of_lt_of_le X36.lt f42_0)) nin0))
        refine Gl.callV Y171 (tw_109 hw) (tw_51 hw) (tw_53 hw) (tw_53 hw) (tw_52 hw) (tw_3 hw) (tw_54 hw) (by decide) f37 (rm8 l Z a0 hw [] b36 wa42 ck42 vv h171 n0 Y171.sz f37 f38 f171_0 (Nat.le_trans Y42_sz f42_0) (Nat.ne_of_lt (Nat.lt_of_lt_of_le X36.lt f42_0))) (a := b36) (argsL := []) (rest := []) rfl rfl (lenOf pd_7 rfl) rfl (by decide) (Nat.le_of_ble_eq_true rfl) (by decide) (by decide) at_183 rfl (fun v183 T183 h183 Y183 q183 => ?_)
        obtain ⟨rfl, K183, f183_0⟩ := q183
        show Gl p e below _ (T183.setTop (mkF m 186 _ [(.ref b36)]))
        refine Gl.pop Y183 rfl at_186 rfl ?_
        refine Gl.iconst Y183 (v := (1 : Int32)) (by decide) at_187 rfl ?_
        refine Gl.istore Y183 (L' := #[.val (.int dd), .val (.int mo), .val (.long vv), .second, .val (.int v8), .val (.int 1), .val (.ref b36), .val (.ref b47), .val (.int 2), .val (.int 1)]) rfl at_188 rfl ?_
        refine Gl.goto Y183 at_190 (by decide) rfl ?_
        refine Gl.aload Y183 rfl rfl at_214 rfl ?_
        have f39 := (f37.keep K183)
        have f40 := (f38.keep K183 (ninS (Nat.ne_of_lt (Nat.lt_of_lt_of_le X36.lt f42_0)) nin0))
        have f41 := ((((Fld.ext E47 f42_3).keep K53 (ninS (Nat.ne_of_lt (Nat.lt_of_lt_of_eq f42_1.lt g47.symm)) nin0)).keep K171 (ninS (Nat.ne_of_lt (Nat.lt_of_lt_of_le X36.lt f42_0)) nin0)).keep K183 (ninS (Nat.ne_of_lt (Nat.lt_of_lt_of_le X36.lt f42_0)) nin0))
        refine Gl.callV Y183 (tw_68 hw) (tw_37 hw) (tw_39 hw) (tw_39 hw) (tw_38 hw) (tw_3 hw) (tw_40 hw) (by decide) f39 (rmA29 l Z a0 hw [] b36 wa42 ck42 h183 n0 Y183.sz f39 f40 f41 sb36 f183_0 (Nat.le_trans Y42_sz f42_0) (Nat.ne_of_lt (Nat.lt_of_lt_of_le X36.lt f42_0))) (a := b36) (argsL := []) (rest := []) rfl rfl (lenOf pd_5 rfl) rfl (by decide) (Nat.le_of_ble_eq_true rfl) (by decide) (by decide) at_216 rfl (fun v216 T216 h216 Y216 q216 => ?_)
        obtain ⟨rfl, rfl⟩ := q216
        show Gl p e below _ (T216.setTop (mkF m 219 _ [(.int 1)]))
        refine Gl.iload Y216 rfl at_219 rfl ?_
        refine Gl.icmpne Y216 at_221 (by decide) rfl rfl (fun c221 => ?_) (fun c221 => ?_)
        · exact absurd c221 (by decide)
        refine Gl.iconst Y216 (v := (1 : Int32)) (by decide) at_224 rfl ?_
        refine Gl.goto Y216 at_225 (by decide) rfl ?_
        exact Gl.retZ Y216 (by decide) (by decide) (x' := (1 : Int32)) (by decide) at_229 rfl
    · refine Gl.iload Y53 rfl at_63 rfl ?_
      refine Gl.iconst Y53 (v := (3 : Int32)) (by decide) at_65 rfl ?_
      refine Gl.icmpne Y53 at_66 (by decide) rfl rfl (fun c66 => ?_) (fun c66 => ?_)
      · exact absurd c66 (by decide)
      refine Gl.aload Y53 rfl rfl at_69 rfl ?_
      refine Gl.ldcJ Y53 (tw_17 hw) at_71 rfl ?_
      have f42 := (f5.keep K53)
      have f43 := ((Fld.ext E47 f42_2).keep K53 (ninS (Nat.ne_of_lt (Nat.lt_of_lt_of_eq f42_1.lt g47.symm)) nin0))
      have f44 := (f6.keep K53 (ninS (Nat.ne_of_lt (Nat.lt_of_lt_of_eq f42_4.lt g47.symm)) nin0))
      refine Gl.callV Y53 (tw_18 hw) (tw_19 hw) (tw_21 hw) (tw_21 hw) (tw_20 hw) (tw_3 hw) (tw_22 hw) (by decide) f42 (rm7 l Z a0 hw [] b36 wa42 ck42 (0 : Int64) (-9223372036854775808 : Int64) (-1 : Int64) h53 n0 Y53.sz f42 f43 f44 (Nat.le_trans Y42_sz f42_0) (Nat.ne_of_lt (Nat.lt_of_lt_of_le X36.lt f42_0)) (by first | exact hsv | decide)) (a := b36) (argsL := [(.long (-9223372036854775808))]) (rest := []) rfl rfl (lenOf pd_6 rfl) rfl (by decide) (Nat.le_of_ble_eq_true rfl) (by decide) (by decide) at_74 rfl (fun v74 T74 h74 Y74 q74 => ?_)
      obtain ⟨rfl, K74, f74_0⟩ := q74
      show Gl p e below _ (T74.setTop (mkF m 77 _ [(.ref b36)]))
      refine Gl.pop Y74 rfl at_77 rfl ?_
      refine Gl.aload Y74 rfl rfl at_78 rfl ?_
      refine Gl.ldcJ Y74 (tw_30 hw) at_80 rfl ?_
      have f45 := (f53_1.keep K74)
      have f46 := (f53_2.keep K74 (ninS (Ne.symm (Nat.ne_of_lt (Nat.lt_of_lt_of_eq f42_4.lt g47.symm))) nin0))
      have f47 := (f53_4.keep K74 (ninS (Ne.symm (Nat.ne_of_lt (Nat.lt_of_lt_of_le f6.lt f53_0))) nin0))
      refine Gl.callV Y74 (tw_18 hw) (tw_19 hw) (tw_21 hw) (tw_21 hw) (tw_20 hw) (tw_3 hw) (tw_22 hw) (by decide) f45 (rm7 l Z a0 hw [] b47 wa53 ck53 (0 : Int64) (3 : Int64) (0 : Int64) h74 n0 Y74.sz f45 f46 f47 (Nat.le_trans Y53_sz f53_0) (Nat.ne_of_lt (Nat.lt_of_lt_of_le X47.lt f53_0)) (by first | exact hsv | decide)) (a := b47) (argsL := [(.long 3)]) (rest := []) rfl rfl (lenOf pd_6 rfl) rfl (by decide) (Nat.le_of_ble_eq_true rfl) (by decide) (by decide) at_83 rfl (fun v83 T83 h83 Y83 q83 => ?_)
      obtain ⟨rfl, K83, f83_0⟩ := q83
      show Gl p e below _ (T83.setTop (mkF m 86 _ [(.ref b47)]))
      refine Gl.pop Y83 rfl at_86 rfl ?_
      refine Gl.aload Y83 rfl rfl at_87 rfl ?_
      refine Gl.aload Y83 rfl rfl at_89 rfl ?_
      have f48 := ((f42.keep K74).keep K83)
      have f49 := ((f43.keep K74 (ninS (Nat.ne_of_lt (Nat.lt_of_lt_of_le X36.lt f42_0)) nin0)).keep K83 (ninS (Nat.ne_of_lt (Nat.lt_of_lt_of_le f5.lt f53_0)) nin0))
      have f50 := ((((Fld.ext E47 f42_3).keep K53 (ninS (Nat.ne_of_lt (Nat.lt_of_lt_of_eq f42_1.lt g47.symm)) nin0)).keep K74 (ninS (Nat.ne_of_lt (Nat.lt_of_lt_of_le X36.lt f42_0)) nin0)).keep K83 (ninS (Nat.ne_of_lt (Nat.lt_of_lt_of_le f5.lt f53_0)) nin0))
      have f51 := (f45.keep K83)
      have f52 := (f46.keep K83 (ninS (Nat.ne_of_lt (Nat.lt_of_lt_of_le X47.lt f53_0)) nin0))
      have f53 := ((f53_3.keep K74 (ninS (Ne.symm (Nat.ne_of_lt (Nat.lt_of_lt_of_eq f42_4.lt g47.symm))) nin0)).keep K83 (ninS (Nat.ne_of_lt (Nat.lt_of_lt_of_le X47.lt f53_0)) nin0))
      have f54 := (f74_0.keep K83 (ninS (Nat.ne_of_lt (Nat.lt_of_lt_of_le f6.lt f53_0)) nin0))
      refine Gl.callV Y83 (tw_31 hw) (tw_32 hw) (tw_34 hw) (tw_34 hw) (tw_33 hw) (tw_3 hw) (tw_35 hw) (by decide) f48 (rmA31 l Z a0 hw [] b36 b47 wa42 wa53 ck42 ck53 h83 n0 Y83.sz f48 f49 f50 sb36 f51 f52 f53 sb47 f54 (Nat.le_trans Y42_sz f42_0) f83_0 (Nat.le_trans Y53_sz f53_0) (Nat.ne_of_lt (Nat.lt_of_lt_of_eq f42_1.lt g47.symm)) (Nat.ne_of_lt (Nat.lt_of_lt_of_le X36.lt f42_0)) (Nat.ne_of_lt (Nat.lt_of_lt_of_le f5.lt f53_0)) (Ne.symm (Nat.ne_of_lt (Nat.lt_of_lt_of_eq f42_4.lt g47.symm))) (Nat.ne_of_lt (Nat.lt_of_lt_of_le X47.lt f53_0)) (Nat.ne_of_lt (Nat.lt_of_lt_of_le f6.lt f53_0))) (a := b36) (argsL := [(.ref b47)]) (rest := []) rfl rfl (lenOf pd_8 rfl) rfl (by decide) (Nat.le_of_ble_eq_true rfl) (by decide) (by decide) at_91 rfl (fun v91 T91 h91 Y91 q91 => ?_)
      obtain ⟨rfl, K91, f91_0, f91_1, f91_2, f91_3, f91_4, f91_5, f91_6, f91_7⟩ := q91
      show Gl p e below _ (T91.setTop (mkF m 94 _ [(.ref b36)]))
      refine Gl.pop Y91 rfl at_94 rfl ?_
      refine Gl.aload Y91 rfl rfl at_95 rfl ?_
      refine Gl.ldcJ Y91 (tw_58 hw) at_97 rfl ?_
      refine Gl.callV Y91 (tw_18 hw) (tw_19 hw) (tw_21 hw) (tw_21 hw) (tw_20 hw) (tw_3 hw) (tw_22 hw) (by decide) f91_1 (rm7 l Z a0 hw [] b47 wa53 ck53 (3 : Int64) (6148914691236517205 : Int64) (0 : Int64) h91 n0 Y91.sz f91_1 f91_4 f91_7 (Nat.le_trans Y53_sz f53_0) (Nat.ne_of_lt (Nat.lt_of_lt_of_le X47.lt f53_0)) (by first | exact hsv | decide)) (a := b47) (argsL := [(.long 6148914691236517205)]) (rest := []) rfl rfl (lenOf pd_6 rfl) rfl (by decide) (Nat.le_of_ble_eq_true rfl) (by decide) (by decide) at_100 rfl (fun v100 T100 h100 Y100 q100 => ?_)
      obtain ⟨rfl, K100, f100_0⟩ := q100
      show Gl p e below _ (T100.setTop (mkF m 103 _ [(.ref b47)]))
      refine Gl.pop Y100 rfl at_103 rfl ?_
      refine Gl.aload Y100 rfl rfl at_104 rfl ?_
      refine Gl.aload Y100 rfl rfl at_106 rfl ?_
      have f55 := (f91_0.keep K100)
      have f56 := (f91_2.keep K100 (ninS (Nat.ne_of_lt (Nat.lt_of_lt_of_le f5.lt f53_0)) nin0))
      have f57 := (f91_3.keep K100 (ninS (Nat.ne_of_lt (Nat.lt_of_lt_of_le f5.lt f53_0)) nin0))
      have f58 := (f91_1.keep K100)
      have f59 := (f91_4.keep K100 (ninS (Nat.ne_of_lt (Nat.lt_of_lt_of_le X47.lt f53_0)) nin0))
      have f60 := (f91_5.keep K100 (ninS (Nat.ne_of_lt (Nat.lt_of_lt_of_le X47.lt f53_0)) nin0))
      have f61 := (f91_6.keep K100 (ninS (Nat.ne_of_lt (Nat.lt_of_lt_of_le f6.lt f53_0)) nin0))
      refine Gl.callV Y100 (tw_31 hw) (tw_32 hw) (tw_34 hw) (tw_34 hw) (tw_33 hw) (tw_3 hw) (tw_35 hw) (by decide) f55 (rmA32 l Z a0 hw [] b36 b47 wa42 wa53 ck42 ck53 h100 n0 Y100.sz f55 f56 f57 sb36 f58 f59 f60 sb47 f61 (Nat.le_trans Y42_sz f42_0) f100_0 (Nat.le_trans Y53_sz f53_0) (Nat.ne_of_lt (Nat.lt_of_lt_of_eq f42_1.lt g47.symm)) (Nat.ne_of_lt (Nat.lt_of_lt_of_le X36.lt f42_0)) (Nat.ne_of_lt (Nat.lt_of_lt_of_le f5.lt f53_0)) (Ne.symm (Nat.ne_of_lt (Nat.lt_of_lt_of_eq f42_4.lt g47.symm))) (Nat.ne_of_lt (Nat.lt_of_lt_of_le X47.lt f53_0)) (Nat.ne_of_lt (Nat.lt_of_lt_of_le f6.lt f53_0))) (a := b36) (argsL := [(.ref b47)]) (rest := []) rfl rfl (lenOf pd_8 rfl) rfl (by decide) (Nat.le_of_ble_eq_true rfl) (by decide) (by decide) at_108 rfl (fun v108 T108 h108 Y108 q108 => ?_)
      obtain ⟨rfl, K108, f108_0, f108_1, f108_2, f108_3, f108_4, f108_5, f108_6, f108_7⟩ := q108
      show Gl p e below _ (T108.setTop (mkF m 111 _ [(.ref b36)]))
      refine Gl.pop Y108 rfl at_111 rfl ?_
      by_cases sg_vv : vv < (0 : Int64)
      · have jg_vv : vv.toInt < 0 := Int64.lt_iff_toInt_lt.mp sg_vv
        have hsv := own_sn sg_vv
        refine Gl.aload Y108 rfl rfl at_112 rfl ?_
        refine Gl.lloadN Y108 rfl at_114 rfl ?_
        refine Gl.callV Y108 (tw_18 hw) (tw_19 hw) (tw_21 hw) (tw_21 hw) (tw_20 hw) (tw_3 hw) (tw_22 hw) (by decide) f108_1 (rm7 l Z a0 hw [] b47 wa53 ck53 (6148914691236517205 : Int64) vv (-1 : Int64) h108 n0 Y108.sz f108_1 f108_4 f108_7 (Nat.le_trans Y53_sz f53_0) (Nat.ne_of_lt (Nat.lt_of_lt_of_le X47.lt f53_0)) (by first | exact hsv | decide)) (a := b47) (argsL := [(.long vv)]) (rest := []) rfl rfl (lenOf pd_6 rfl) rfl (by decide) (Nat.le_of_ble_eq_true rfl) (by decide) (by decide) at_115 rfl (fun v115 T115 h115 Y115 q115 => ?_)
        obtain ⟨rfl, K115, f115_0⟩ := q115
        show Gl p e below _ (T115.setTop (mkF m 118 _ [(.ref b47)]))
        refine Gl.pop Y115 rfl at_118 rfl ?_
        refine Gl.aload Y115 rfl rfl at_119 rfl ?_
        refine Gl.aload Y115 rfl rfl at_121 rfl ?_
        have f62 := (f108_0.keep K115)
        have f63 := (f108_2.keep K115 (ninS (Nat.ne_of_lt (Nat.lt_of_lt_of_le f5.lt f53_0)) nin0))
        have f64 := (f108_3.keep K115 (ninS (Nat.ne_of_lt (Nat.lt_of_lt_of_le f5.lt f53_0)) nin0))
        have f65 := (f108_1.keep K115)
        have f66 := (f108_4.keep K115 (ninS (Nat.ne_of_lt (Nat.lt_of_lt_of_le X47.lt f53_0)) nin0))
        have f67 := (f108_5.keep K115 (ninS (Nat.ne_of_lt (Nat.lt_of_lt_of_le X47.lt f53_0)) nin0))
        have f68 := (f108_6.keep K115 (ninS (Nat.ne_of_lt (Nat.lt_of_lt_of_le f6.lt f53_0)) nin0))
        refine Gl.callV Y115 (tw_59 hw) (tw_60 hw) (tw_62 hw) (tw_62 hw) (tw_61 hw) (tw_3 hw) (tw_63 hw) (by decide) f62 (rmA33 l Z a0 hw [] b36 b47 wa42 wa53 ck42 ck53 vv h115 n0 Y115.sz f62 f63 f64 sb36 f65 f66 f67 sb47 f68 (Nat.le_trans Y42_sz f42_0) f115_0 (Nat.le_trans Y53_sz f53_0) (Nat.ne_of_lt (Nat.lt_of_lt_of_eq f42_1.lt g47.symm)) (Nat.ne_of_lt (Nat.lt_of_lt_of_le X36.lt f42_0)) (Nat.ne_of_lt (Nat.lt_of_lt_of_le f5.lt f53_0)) (Ne.symm (Nat.ne_of_lt (Nat.lt_of_lt_of_eq f42_4.lt g47.symm))) (Nat.ne_of_lt (Nat.lt_of_lt_of_le X47.lt f53_0)) (Nat.ne_of_lt (Nat.lt_of_lt_of_le f6.lt f53_0))) (a := b36) (argsL := [(.ref b47)]) (rest := []) rfl rfl (lenOf pd_8 rfl) rfl (by decide) (Nat.le_of_ble_eq_true rfl) (by decide) (by decide) at_123 rfl (fun v123 T123 h123 Y123 q123 => ?_)
        obtain ⟨rfl, K123, f123_0, f123_1, f123_2, f123_3, f123_4, f123_5, f123_6, f123_7⟩ := q123
        show Gl p e below _ (T123.setTop (mkF m 126 _ [(.ref b36)]))
        refine Gl.pop Y123 rfl at_126 rfl ?_
        refine Gl.iload Y123 rfl at_127 rfl ?_
        refine Gl.iconst Y123 (v := (1 : Int32)) (by decide) at_129 rfl ?_
        refine Gl.icmpeq Y123 at_130 (by decide) rfl rfl (fun c130 => ?_) (fun c130 => ?_)
        rotate_left
        · exact absurd c130 (by decide)
        refine Gl.iconst Y123 (v := (1 : Int32)) (by decide) at_147 rfl ?_
        refine Gl.goto Y123 at_148 (by decide) rfl ?_
        refine Gl.istore Y123 (L' := #[.val (.int dd), .val (.int mo), .val (.long vv), .second, .val (.int v8), .val (.int 1), .val (.ref b36), .val (.ref b47), .val (.int 3), .val (.int 1)]) rfl at_152 rfl ?_
        refine Gl.goto Y123 at_154 (by decide) rfl ?_
        refine Gl.aload Y123 rfl rfl at_214 rfl ?_
        refine Gl.callV Y123 (tw_68 hw) (tw_37 hw) (tw_39 hw) (tw_39 hw) (tw_38 hw) (tw_3 hw) (tw_40 hw) (by decide) f123_0 (rmA29 l Z a0 hw [] b36 wa42 ck42 h123 n0 Y123.sz f123_0 f123_2 f123_3 sb36 f123_6 (Nat.le_trans Y42_sz f42_0) (Nat.ne_of_lt (Nat.lt_of_lt_of_le X36.lt f42_0))) (a := b36) (argsL := []) (rest := []) rfl rfl (lenOf pd_5 rfl) rfl (by decide) (Nat.le_of_ble_eq_true rfl) (by decide) (by decide) at_216 rfl (fun v216 T216 h216 Y216 q216 => ?_)
        obtain ⟨rfl, rfl⟩ := q216
        show Gl p e below _ (T216.setTop (mkF m 219 _ [(.int 1)]))
        refine Gl.iload Y216 rfl at_219 rfl ?_
        refine Gl.icmpne Y216 at_221 (by decide) rfl rfl (fun c221 => ?_) (fun c221 => ?_)
        · exact absurd c221 (by decide)
        refine Gl.iconst Y216 (v := (1 : Int32)) (by decide) at_224 rfl ?_
        refine Gl.goto Y216 at_225 (by decide) rfl ?_
        exact Gl.retZ Y216 (by decide) (by decide) (x' := (1 : Int32)) (by decide) at_229 rfl
      · have jg_vv : ¬ (vv.toInt < 0) := fun q => sg_vv (Int64.lt_iff_toInt_lt.mpr q)
        have hsv := own_sp sg_vv
        refine Gl.aload Y108 rfl rfl at_112 rfl ?_
        refine Gl.lloadN Y108 rfl at_114 rfl ?_
        refine Gl.callV Y108 (tw_18 hw) (tw_19 hw) (tw_21 hw) (tw_21 hw) (tw_20 hw) (tw_3 hw) (tw_22 hw) (by decide) f108_1 (rm7 l Z a0 hw [] b47 wa53 ck53 (6148914691236517205 : Int64) vv (0 : Int64) h108 n0 Y108.sz f108_1 f108_4 f108_7 (Nat.le_trans Y53_sz f53_0) (Nat.ne_of_lt (Nat.lt_of_lt_of_le X47.lt f53_0)) (by first | exact hsv | decide)) (a := b47) (argsL := [(.long vv)]) (rest := []) rfl rfl (lenOf pd_6 rfl) rfl (by decide) (Nat.le_of_ble_eq_true rfl) (by decide) (by decide) at_115 rfl (fun v115 T115 h115 Y115 q115 => ?_)
        obtain ⟨rfl, K115, f115_0⟩ := q115
        show Gl p e below _ (T115.setTop (mkF m 118 _ [(.ref b47)]))
        refine Gl.pop Y115 rfl at_118 rfl ?_
        refine Gl.aload Y115 rfl rfl at_119 rfl ?_
        refine Gl.aload Y115 rfl rfl at_121 rfl ?_
        have f69 := (f108_0.keep K115)
        have f70 := (f108_2.keep K115 (ninS (Nat.ne_of_lt (Nat.lt_of_lt_of_le f5.lt f53_0)) nin0))
        have f71 := (f108_3.keep K115 (ninS (Nat.ne_of_lt (Nat.lt_of_lt_of_le f5.lt f53_0)) nin0))
        have f72 := (f108_1.keep K115)
        have f73 := (f108_4.keep K115 (ninS (Nat.ne_of_lt (Nat.lt_of_lt_of_le X47.lt f53_0)) nin0))
        have f74 := (f108_5.keep K115 (ninS (Nat.ne_of_lt (Nat.lt_of_lt_of_le X47.lt f53_0)) nin0))
        have f75 := (f108_6.keep K115 (ninS (Nat.ne_of_lt (Nat.lt_of_lt_of_le f6.lt f53_0)) nin0))
        refine Gl.callV Y115 (tw_59 hw) (tw_60 hw) (tw_62 hw) (tw_62 hw) (tw_61 hw) (tw_3 hw) (tw_63 hw) (by decide) f69 (rmA33 l Z a0 hw [] b36 b47 wa42 wa53 ck42 ck53 vv h115 n0 Y115.sz f69 f70 f71 sb36 f72 f73 f74 sb47 f75 (Nat.le_trans Y42_sz f42_0) f115_0 (Nat.le_trans Y53_sz f53_0) (Nat.ne_of_lt (Nat.lt_of_lt_of_eq f42_1.lt g47.symm)) (Nat.ne_of_lt (Nat.lt_of_lt_of_le X36.lt f42_0)) (Nat.ne_of_lt (Nat.lt_of_lt_of_le f5.lt f53_0)) (Ne.symm (Nat.ne_of_lt (Nat.lt_of_lt_of_eq f42_4.lt g47.symm))) (Nat.ne_of_lt (Nat.lt_of_lt_of_le X47.lt f53_0)) (Nat.ne_of_lt (Nat.lt_of_lt_of_le f6.lt f53_0))) (a := b36) (argsL := [(.ref b47)]) (rest := []) rfl rfl (lenOf pd_8 rfl) rfl (by decide) (Nat.le_of_ble_eq_true rfl) (by decide) (by decide) at_123 rfl (fun v123 T123 h123 Y123 q123 => ?_)
        obtain ⟨rfl, K123, f123_0, f123_1, f123_2, f123_3, f123_4, f123_5, f123_6, f123_7⟩ := q123
        show Gl p e below _ (T123.setTop (mkF m 126 _ [(.ref b36)]))
        refine Gl.pop Y123 rfl at_126 rfl ?_
        refine Gl.iload Y123 rfl at_127 rfl ?_
        refine Gl.iconst Y123 (v := (1 : Int32)) (by decide) at_129 rfl ?_
        refine Gl.icmpeq Y123 at_130 (by decide) rfl rfl (fun c130 => ?_) (fun c130 => ?_)
        rotate_left
        · exact absurd c130 (by decide)
        refine Gl.iconst Y123 (v := (1 : Int32)) (by decide) at_147 rfl ?_
        refine Gl.goto Y123 at_148 (by decide) rfl ?_
        refine Gl.istore Y123 (L' := #[.val (.int dd), .val (.int mo), .val (.long vv), .second, .val (.int v8), .val (.int 1), .val (.ref b36), .val (.ref b47), .val (.int 3), .val (.int 1)]) rfl at_152 rfl ?_
        refine Gl.goto Y123 at_154 (by decide) rfl ?_
        refine Gl.aload Y123 rfl rfl at_214 rfl ?_
        refine Gl.callV Y123 (tw_68 hw) (tw_37 hw) (tw_39 hw) (tw_39 hw) (tw_38 hw) (tw_3 hw) (tw_40 hw) (by decide) f123_0 (rmA29 l Z a0 hw [] b36 wa42 ck42 h123 n0 Y123.sz f123_0 f123_2 f123_3 sb36 f123_6 (Nat.le_trans Y42_sz f42_0) (Nat.ne_of_lt (Nat.lt_of_lt_of_le X36.lt f42_0))) (a := b36) (argsL := []) (rest := []) rfl rfl (lenOf pd_5 rfl) rfl (by decide) (Nat.le_of_ble_eq_true rfl) (by decide) (by decide) at_216 rfl (fun v216 T216 h216 Y216 q216 => ?_)
        obtain ⟨rfl, rfl⟩ := q216
        show Gl p e below _ (T216.setTop (mkF m 219 _ [(.int 1)]))
        refine Gl.iload Y216 rfl at_219 rfl ?_
        refine Gl.icmpne Y216 at_221 (by decide) rfl rfl (fun c221 => ?_) (fun c221 => ?_)
        · exact absurd c221 (by decide)
        refine Gl.iconst Y216 (v := (1 : Int32)) (by decide) at_224 rfl ?_
        refine Gl.goto Y216 at_225 (by decide) rfl ?_
        exact Gl.retZ Y216 (by decide) (by decide) (x' := (1 : Int32)) (by decide) at_229 rfl
  · have jg18 : ¬ (v8.toInt < 19) := fun q => dg18 (Int32.lt_iff_toInt_lt.mpr q)
    by_cases dg38 : v8 < (39 : Int32)
    · have jg38 : v8.toInt < 39 := Int32.lt_iff_toInt_lt.mp dg38
      refine Gl.iload Y0 rfl at_11 rfl ?_
      refine Gl.bipush Y0 (v := (18 : Int32)) (by decide) at_13 rfl ?_
      refine Gl.icmpgt Y0 at_15 (by decide) rfl rfl (fun c15 => ?_) (fun c15 => ?_)
      rotate_left
      · exfalso; have j15 : ¬ (18 < v8.toInt) := fun q => c15 (Int32.lt_iff_toInt_lt.mpr q); omega
      have j15 : 18 < v8.toInt := Int32.lt_iff_toInt_lt.mp c15
      refine Gl.iload Y0 rfl at_22 rfl ?_
      refine Gl.bipush Y0 (v := (38 : Int32)) (by decide) at_24 rfl ?_
      refine Gl.icmpgt Y0 at_26 (by decide) rfl rfl (fun c26 => ?_) (fun c26 => ?_)
      · exfalso; have j26 : 38 < v8.toInt := Int32.lt_iff_toInt_lt.mp c26; omega
      have j26 : ¬ (38 < v8.toInt) := fun q => c26 (Int32.lt_iff_toInt_lt.mpr q)
      refine Gl.iconst Y0 (v := (2 : Int32)) (by decide) at_29 rfl ?_
      refine Gl.goto Y0 at_30 (by decide) rfl ?_
      refine Gl.istore Y0 (L' := #[.val (.int dd), .val (.int mo), .val (.long vv), .second, .val (.int v8), .val (.int 2), .unset, .unset, .unset, .unset]) rfl at_34 rfl ?_
      refine Gl.newO Y0 (tw_1 hw) (tw_2 hw) (tw_3 hw) (by decide) (by decide) at_36 rfl (fun T36 h36 b36 Y36 E36 g36 sb36 X36 D36 => ?_)
      have f76 : Fld Z h36 b36 kW "words" "[J" .null := D36 (Or.inr (tw_16 hw)) (ty := (.array .long)) (by decide)
      have f77 : Fld Z h36 b36 kW "work" "[J" .null := D36 (Or.inl (tw_79 hw)) (ty := (.array .long)) (by decide)
      show Gl p e below _ (T36.setTop (mkF m 39 _ [(.ref b36)]))
      refine Gl.dup Y36 rfl at_39 rfl ?_
      refine Gl.iload Y36 rfl at_40 rfl ?_
      refine Gl.callN Y36 rfl (tw_4 hw) (tw_5 hw) (tw_3 hw) (tw_6 hw) (by decide) (rm1 l Z a0 hw [] b36 v8 h36 n0 Y36.sz X36 f76 f77 sb36 (by first | assumption | decide | omega | (simp; done)) (by first | assumption | decide | omega | (simp; done))) (a := b36) (argsL := [(.int v8)]) (rest := [(.ref b36)]) rfl rfl (lenOf pd_3 rfl) rfl (by decide) (Nat.le_of_ble_eq_true rfl) (by decide) (by decide) at_42 rfl (fun v42 T42 h42 Y42 q42 => ?_)
      obtain ⟨wa42, ck42, rfl, K42, f42_0, f42_1, f42_2, f42_3, f42_4⟩ := q42
      have Y42_sz : n0 ≤ h36.size := Y36.sz
      show Gl p e below _ (T42.setTop (mkF m 45 _ [(.ref b36)]))
      refine Gl.astore Y42 rfl (L' := #[.val (.int dd), .val (.int mo), .val (.long vv), .second, .val (.int v8), .val (.int 2), .val (.ref b36), .unset, .unset, .unset]) rfl at_45 rfl ?_
      refine Gl.newO Y42 (tw_1 hw) (tw_2 hw) (tw_3 hw) (by decide) (by decide) at_47 rfl (fun T47 h47 b47 Y47 E47 g47 sb47 X47 D47 => ?_)
      have f78 : Fld Z h47 b47 kW "words" "[J" .null := D47 (Or.inr (tw_16 hw)) (ty := (.array .long)) (by decide)
      have f79 : Fld Z h47 b47 kW "work" "[J" .null := D47 (Or.inl (tw_79 hw)) (ty := (.array .long)) (by decide)
      show Gl p e below _ (T47.setTop (mkF m 50 _ [(.ref b47)]))
      refine Gl.dup Y47 rfl at_50 rfl ?_
      refine Gl.iload Y47 rfl at_51 rfl ?_
      refine Gl.callN Y47 rfl (tw_4 hw) (tw_5 hw) (tw_3 hw) (tw_6 hw) (by decide) (rm1 l Z a0 hw [] b47 v8 h47 n0 Y47.sz X47 f78 f79 sb47 (by first | assumption | decide | omega | (simp; done)) (by first | assumption | decide | omega | (simp; done))) (a := b47) (argsL := [(.int v8)]) (rest := [(.ref b47)]) rfl rfl (lenOf pd_3 rfl) rfl (by decide) (Nat.le_of_ble_eq_true rfl) (by decide) (by decide) at_53 rfl (fun v53 T53 h53 Y53 q53 => ?_)
      obtain ⟨wa53, ck53, rfl, K53, f53_0, f53_1, f53_2, f53_3, f53_4⟩ := q53
      have f80 := (Exa.ext E47 f42_1)
      have f81 := (f42_4.ext E47)
      have Y53_sz : n0 ≤ h47.size := Y47.sz
      show Gl p e below _ (T53.setTop (mkF m 56 _ [(.ref b47)]))
      refine Gl.astore Y53 rfl (L' := #[.val (.int dd), .val (.int mo), .val (.long vv), .second, .val (.int v8), .val (.int 2), .val (.ref b36), .val (.ref b47), .unset, .unset]) rfl at_56 rfl ?_
      refine Gl.iloadN Y53 rfl at_58 rfl ?_
      refine Gl.iconst Y53 (v := (3 : Int32)) (by decide) at_59 rfl ?_
      obtain ⟨v60, hv60⟩ : ∃ z : Int32, mo &&& (3 : Int32) = z := ⟨_, rfl⟩
      have iv60 : v60.toInt = mo.toInt % 4 := by have q := c_mask mo (3 : Int32) 2 (by decide) (by decide); rw [hv60] at q; exact q
      refine Gl.iand Y53 hv60 at_60 rfl ?_
      refine Gl.istore Y53 (L' := #[.val (.int dd), .val (.int mo), .val (.long vv), .second, .val (.int v8), .val (.int 2), .val (.ref b36), .val (.ref b47), .val (.int v60), .unset]) rfl at_61 rfl ?_
      have cs_v60 : v60 = (0 : Int32) ∨ v60 = (1 : Int32) ∨ v60 = (2 : Int32) ∨ v60 = (3 : Int32) := own_k3 hv60
      rcases cs_v60 with rfl | rfl | rfl | rfl
      · refine Gl.iload Y53 rfl at_63 rfl ?_
        refine Gl.iconst Y53 (v := (3 : Int32)) (by decide) at_65 rfl ?_
        refine Gl.icmpne Y53 at_66 (by decide) rfl rfl (fun c66 => ?_) (fun c66 => ?_)
        rotate_left
        · exact absurd c66 (by decide)
        refine Gl.iload Y53 rfl at_157 rfl ?_
        refine Gl.ifne Y53 at_159 (by decide) rfl rfl (fun c159 => ?_) (fun c159 => ?_)
        · exact absurd c159 (by decide)
        refine Gl.iconst Y53 (v := (0 : Int32)) (by decide) at_162 rfl ?_
        refine Gl.istore Y53 (L' := #[.val (.int dd), .val (.int mo), .val (.long vv), .second, .val (.int v8), .val (.int 2), .val (.ref b36), .val (.ref b47), .val (.int 0), .val (.int 0)]) rfl at_163 rfl ?_
        refine Gl.goto Y53 at_165 (by decide) rfl ?_
        refine Gl.aload Y53 rfl rfl at_214 rfl ?_
        have f82 := (f80.keep K53)
        have f83 := ((Fld.ext E47 f42_2).keep K53 (ninS (Nat.ne_of_lt (Nat.lt_of_lt_of_eq f42_1.lt g47.symm)) nin0))
        have f84 := ((Fld.ext E47 f42_3).keep K53 (ninS (Nat.ne_of_lt (Nat.lt_of_lt_of_eq f42_1.lt g47.symm)) nin0))
        have f85 := (f81.keep K53 (ninS (Nat.ne_of_lt (Nat.lt_of_lt_of_eq f42_4.lt g47.symm)) nin0))
        refine Gl.callV Y53 (tw_68 hw) (tw_37 hw) (tw_39 hw) (tw_39 hw) (tw_38 hw) (tw_3 hw) (tw_40 hw) (by decide) f82 (rmA35 l Z a0 hw [] b36 wa42 ck42 h53 n0 Y53.sz f82 f83 f84 sb36 f85 (Nat.le_trans Y42_sz f42_0) (Nat.ne_of_lt (Nat.lt_of_lt_of_le X36.lt f42_0))) (a := b36) (argsL := []) (rest := []) rfl rfl (lenOf pd_5 rfl) rfl (by decide) (Nat.le_of_ble_eq_true rfl) (by decide) (by decide) at_216 rfl (fun v216 T216 h216 Y216 q216 => ?_)
        obtain ⟨rfl, rfl⟩ := q216
        show Gl p e below _ (T216.setTop (mkF m 219 _ [(.int 0)]))
        refine Gl.iload Y216 rfl at_219 rfl ?_
        refine Gl.icmpne Y216 at_221 (by decide) rfl rfl (fun c221 => ?_) (fun c221 => ?_)
        · exact absurd c221 (by decide)
        refine Gl.iconst Y216 (v := (1 : Int32)) (by decide) at_224 rfl ?_
        refine Gl.goto Y216 at_225 (by decide) rfl ?_
        exact Gl.retZ Y216 (by decide) (by decide) (x' := (1 : Int32)) (by decide) at_229 rfl
      · refine Gl.iload Y53 rfl at_63 rfl ?_
        refine Gl.iconst Y53 (v := (3 : Int32)) (by decide) at_65 rfl ?_
        refine Gl.icmpne Y53 at_66 (by decide) rfl rfl (fun c66 => ?_) (fun c66 => ?_)
        rotate_left
        · exact absurd c66 (by decide)
        refine Gl.iload Y53 rfl at_157 rfl ?_
        refine Gl.ifne Y53 at_159 (by decide) rfl rfl (fun c159 => ?_) (fun c159 => ?_)
        rotate_left
        · exact absurd c159 (by decide)
        by_cases sg_vv : vv < (0 : Int64)
        · have jg_vv : vv.toInt < 0 := Int64.lt_iff_toInt_lt.mp sg_vv
          have hsv := own_sn sg_vv
          refine Gl.aload Y53 rfl rfl at_168 rfl ?_
          refine Gl.lloadN Y53 rfl at_170 rfl ?_
          have f86 := (f80.keep K53)
          have f87 := ((Fld.ext E47 f42_2).keep K53 (ninS (Nat.ne_of_lt (Nat.lt_of_lt_of_eq f42_1.lt g47.symm)) nin0))
          have f88 := (f81.keep K53 (ninS (Nat.ne_of_lt (Nat.lt_of_lt_of_eq f42_4.lt g47.symm)) nin0))
          refine Gl.callV Y53 (tw_18 hw) (tw_19 hw) (tw_21 hw) (tw_21 hw) (tw_20 hw) (tw_3 hw) (tw_22 hw) (by decide) f86 (rm14 l Z a0 hw [] b36 wa42 ck42 (0 : Int64) (0 : Int64) vv (-1 : Int64) h53 n0 Y53.sz f86 f87 f88 (Nat.le_trans Y42_sz f42_0) (Nat.ne_of_lt (Nat.lt_of_lt_of_le X36.lt f42_0)) (by first | exact hsv | decide)) (a := b36) (argsL := [(.long vv)]) (rest := []) rfl rfl (lenOf pd_6 rfl) rfl (by decide) (Nat.le_of_ble_eq_true rfl) (by decide) (by decide) at_171 rfl (fun v171 T171 h171 Y171 q171 => ?_)
          obtain ⟨rfl, K171, f171_0⟩ := q171
          show Gl p e below _ (T171.setTop (mkF m 174 _ [(.ref b36)]))
          refine Gl.pop Y171 rfl at_174 rfl ?_
          refine Gl.iload Y171 rfl at_175 rfl ?_
          refine Gl.iconst Y171 (v := (2 : Int32)) (by decide) at_177 rfl ?_
          refine Gl.icmpne Y171 at_178 (by decide) rfl rfl (fun c178 => ?_) (fun c178 => ?_)
          rotate_left
          · exact absurd c178 (by decide)
          refine Gl.iload Y171 rfl at_193 rfl ?_
          refine Gl.iconst Y171 (v := (1 : Int32)) (by decide) at_195 rfl ?_
          refine Gl.icmpne Y171 at_196 (by decide) rfl rfl (fun c196 => ?_) (fun c196 => ?_)
          rotate_left
          · exact absurd c196 (by decide)
          refine Gl.iconst Y171 (v := (0 : Int32)) (by decide) at_211 rfl ?_
          refine Gl.istore Y171 (L' := #[.val (.int dd), .val (.int mo), .val (.long vv), .second, .val (.int v8), .val (.int 2), .val (.ref b36), .val (.ref b47), .val (.int 1), .val (.int 0)]) rfl at_212 rfl ?_
          refine Gl.aload Y171 rfl rfl at_214 rfl ?_
          have f89 := (f86.keep K171)
          have f90 := (f87.keep K171 (ninS (Nat.ne_of_lt (Nat.lt_of_lt_of_le X36.lt f42_0)) nin0))
          have f91 := (((Fld.ext E47 f42_3).keep K53 (ninS (Nat.ne_of_lt (Nat.lt_of_lt_of_eq f42_1.lt g47.symm)) nin0)).keep K171 (ninS (Nat.ne_of_lt (Nat.lt_of_lt_of_le X36.lt f42_0)) nin0))
          refine Gl.callV Y171 (tw_68 hw) (tw_37 hw) (tw_39 hw) (tw_39 hw) (tw_38 hw) (tw_3 hw) (tw_40 hw) (by decide) f89 (rmA36 l Z a0 hw [] b36 wa42 ck42 vv h171 n0 Y171.sz f89 f90 f91 sb36 f171_0 (Nat.le_trans Y42_sz f42_0) (Nat.ne_of_lt (Nat.lt_of_lt_of_le X36.lt f42_0))) (a := b36) (argsL := []) (rest := []) rfl rfl (lenOf pd_5 rfl) rfl (by decide) (Nat.le_of_ble_eq_true rfl) (by decide) (by decide) at_216 rfl (fun v216 T216 h216 Y216 q216 => ?_)
          obtain ⟨rfl, rfl⟩ := q216
          show Gl p e below _ (T216.setTop (mkF m 219 _ [(.int 0)]))
          refine Gl.iload Y216 rfl at_219 rfl ?_
          refine Gl.icmpne Y216 at_221 (by decide) rfl rfl (fun c221 => ?_) (fun c221 => ?_)
          · exact absurd c221 (by decide)
          refine Gl.iconst Y216 (v := (1 : Int32)) (by decide) at_224 rfl ?_
          refine Gl.goto Y216 at_225 (by decide) rfl ?_
          exact Gl.retZ Y216 (by decide) (by decide) (x' := (1 : Int32)) (by decide) at_229 rfl
        · have jg_vv : ¬ (vv.toInt < 0) := fun q => sg_vv (Int64.lt_iff_toInt_lt.mpr q)
          have hsv := own_sp sg_vv
          refine Gl.aload Y53 rfl rfl at_168 rfl ?_
          refine Gl.lloadN Y53 rfl at_170 rfl ?_
          have f92 := (f80.keep K53)
          have f93 := ((Fld.ext E47 f42_2).keep K53 (ninS (Nat.ne_of_lt (Nat.lt_of_lt_of_eq f42_1.lt g47.symm)) nin0))
          have f94 := (f81.keep K53 (ninS (Nat.ne_of_lt (Nat.lt_of_lt_of_eq f42_4.lt g47.symm)) nin0))
          refine Gl.callV Y53 (tw_18 hw) (tw_19 hw) (tw_21 hw) (tw_21 hw) (tw_20 hw) (tw_3 hw) (tw_22 hw) (by decide) f92 (rm14 l Z a0 hw [] b36 wa42 ck42 (0 : Int64) (0 : Int64) vv (0 : Int64) h53 n0 Y53.sz f92 f93 f94 (Nat.le_trans Y42_sz f42_0) (Nat.ne_of_lt (Nat.lt_of_lt_of_le X36.lt f42_0)) (by first | exact hsv | decide)) (a := b36) (argsL := [(.long vv)]) (rest := []) rfl rfl (lenOf pd_6 rfl) rfl (by decide) (Nat.le_of_ble_eq_true rfl) (by decide) (by decide) at_171 rfl (fun v171 T171 h171 Y171 q171 => ?_)
          obtain ⟨rfl, K171, f171_0⟩ := q171
          show Gl p e below _ (T171.setTop (mkF m 174 _ [(.ref b36)]))
          refine Gl.pop Y171 rfl at_174 rfl ?_
          refine Gl.iload Y171 rfl at_175 rfl ?_
          refine Gl.iconst Y171 (v := (2 : Int32)) (by decide) at_177 rfl ?_
          refine Gl.icmpne Y171 at_178 (by decide) rfl rfl (fun c178 => ?_) (fun c178 => ?_)
          rotate_left
          · exact absurd c178 (by decide)
          refine Gl.iload Y171 rfl at_193 rfl ?_
          refine Gl.iconst Y171 (v := (1 : Int32)) (by decide) at_195 rfl ?_
          refine Gl.icmpne Y171 at_196 (by decide) rfl rfl (fun c196 => ?_) (fun c196 => ?_)
          rotate_left
          · exact absurd c196 (by decide)
          refine Gl.iconst Y171 (v := (0 : Int32)) (by decide) at_211 rfl ?_
          refine Gl.istore Y171 (L' := #[.val (.int dd), .val (.int mo), .val (.long vv), .second, .val (.int v8), .val (.int 2), .val (.ref b36), .val (.ref b47), .val (.int 1), .val (.int 0)]) rfl at_212 rfl ?_
          refine Gl.aload Y171 rfl rfl at_214 rfl ?_
          have f95 := (f92.keep K171)
          have f96 := (f93.keep K171 (ninS (Nat.ne_of_lt (Nat.lt_of_lt_of_le X36.lt f42_0)) nin0))
          have f97 := (((Fld.ext E47 f42_3).keep K53 (ninS (Nat.ne_of_lt (Nat.lt_of_lt_of_eq f42_1.lt g47.symm)) nin0)).keep K171 (ninS (Nat.ne_of_lt (Nat.lt_of_lt_of_le X36.lt f42_0)) nin0))
          refine Gl.callV Y171 (tw_68 hw) (tw_37 hw) (tw_39 hw) (tw_39 hw) (tw_38 hw) (tw_3 hw) (tw_40 hw) (by decide) f95 (rmA37 l Z a0 hw [] b36 wa42 ck42 vv h171 n0 Y171.sz f95 f96 f97 sb36 f171_0 (Nat.le_trans Y42_sz f42_0) (Nat.ne_of_lt (Nat.lt_of_lt_of_le X36.lt f42_0))) (a := b36) (argsL := []) (rest := []) rfl rfl (lenOf pd_5 rfl) rfl (by decide) (Nat.le_of_ble_eq_true rfl) (by decide) (by decide) at_216 rfl (fun v216 T216 h216 Y216 q216 => ?_)
          obtain ⟨rfl, rfl⟩ := q216
          show Gl p e below _ (T216.setTop (mkF m 219 _ [(.int 0)]))
          refine Gl.iload Y216 rfl at_219 rfl ?_
          refine Gl.icmpne Y216 at_221 (by decide) rfl rfl (fun c221 => ?_) (fun c221 => ?_)
          · exact absurd c221 (by decide)
          refine Gl.iconst Y216 (v := (1 : Int32)) (by decide) at_224 rfl ?_
          refine Gl.goto Y216 at_225 (by decide) rfl ?_
          exact Gl.retZ Y216 (by decide) (by decide) (x' := (1 : Int32)) (by decide) at_229 rfl
      · refine Gl.iload Y53 rfl at_63 rfl ?_
        refine Gl.iconst Y53 (v := (3 : Int32)) (by decide) at_65 rfl ?_
        refine Gl.icmpne Y53 at_66 (by decide) rfl rfl (fun c66 => ?_) (fun c66 => ?_)
        rotate_left
        · exact absurd c66 (by decide)
        refine Gl.iload Y53 rfl at_157 rfl ?_
        refine Gl.ifne Y53 at_159 (by decide) rfl rfl (fun c159 => ?_) (fun c159 => ?_)
        rotate_left
        · exact absurd c159 (by decide)
        by_cases sg_vv : vv < (0 : Int64)
        · have jg_vv : vv.toInt < 0 := Int64.lt_iff_toInt_lt.mp sg_vv
          have hsv := own_sn sg_vv
          refine Gl.aload Y53 rfl rfl at_168 rfl ?_
          refine Gl.lloadN Y53 rfl at_170 rfl ?_
          have f98 := (f80.keep K53)
          have f99 := ((Fld.ext E47 f42_2).keep K53 (ninS (Nat.ne_of_lt (Nat.lt_of_lt_of_eq f42_1.lt g47.symm)) nin0))
          have f100 := (f81.keep K53 (ninS (Nat.ne_of_lt (Nat.lt_of_lt_of_eq f42_4.lt g47.symm)) nin0))
          refine Gl.callV Y53 (tw_18 hw) (tw_19 hw) (tw_21 hw) (tw_21 hw) (tw_20 hw) (tw_3 hw) (tw_22 hw) (by decide) f98 (rm14 l Z a0 hw [] b36 wa42 ck42 (0 : Int64) (0 : Int64) vv (-1 : Int64) h53 n0 Y53.sz f98 f99 f100 (Nat.le_trans Y42_sz f42_0) (Nat.ne_of_lt (Nat.lt_of_lt_of_le X36.lt f42_0)) (by first | exact hsv | decide)) (a := b36) (argsL := [(.long vv)]) (rest := []) rfl rfl (lenOf pd_6 rfl) rfl (by decide) (Nat.le_of_ble_eq_true rfl) (by decide) (by decide) at_171 rfl (fun v171 T171 h171 Y171 q171 => ?_)
          obtain ⟨rfl, K171, f171_0⟩ := q171
          show Gl p e below _ (T171.setTop (mkF m 174 _ [(.ref b36)]))
          refine Gl.pop Y171 rfl at_174 rfl ?_
          refine Gl.iload Y171 rfl at_175 rfl ?_
          refine Gl.iconst Y171 (v := (2 : Int32)) (by decide) at_177 rfl ?_
          refine Gl.icmpne Y171 at_178 (by decide) rfl rfl (fun c178 => ?_) (fun c178 => ?_)
          · exact absurd c178 (by decide)
          refine Gl.aload Y171 rfl rfl at_181 rfl ?_
          have f101 := (f98.keep K171)
          have f102 := (f99.keep K171 (ninS (Nat.ne_of_lt (Nat.lt_of_lt_of_le X36.lt f42_0)) nin0))
          refine Gl.callV Y171 (tw_109 hw) (tw_51 hw) (tw_53 hw) (tw_53 hw) (tw_52 hw) (tw_3 hw) (tw_54 hw) (by decide) f101 (rm15 l Z a0 hw [] b36 wa42 ck42 vv (-1 : Int64) h171 n0 Y171.sz f101 f102 f171_0 (Nat.le_trans Y42_sz f42_0) (Nat.ne_of_lt (Nat.lt_of_lt_of_le X36.lt f42_0))) (a := b36) (argsL := []) (rest := []) rfl rfl (lenOf pd_7 rfl) rfl (by decide) (Nat.le_of_ble_eq_true rfl) (by decide) (by decide) at_183 rfl (fun v183 T183 h183 Y183 q183 => ?_)
          obtain ⟨rfl, K183, f183_0⟩ := q183
          show Gl p e below _ (T183.setTop (mkF m 186 _ [(.ref b36)]))
          refine Gl.pop Y183 rfl at_186 rfl ?_
          refine Gl.iconst Y183 (v := (1 : Int32)) (by decide) at_187 rfl ?_
          refine Gl.istore Y183 (L' := #[.val (.int dd), .val (.int mo), .val (.long vv), .second, .val (.int v8), .val (.int 2), .val (.ref b36), .val (.ref b47), .val (.int 2), .val (.int 1)]) rfl at_188 rfl ?_
          refine Gl.goto Y183 at_190 (by decide) rfl ?_
          refine Gl.aload Y183 rfl rfl at_214 rfl ?_
          have f103 := (f101.keep K183)
          have f104 := (f102.keep K183 (ninS (Nat.ne_of_lt (Nat.lt_of_lt_of_le X36.lt f42_0)) nin0))
          have f105 := ((((Fld.ext E47 f42_3).keep K53 (ninS (Nat.ne_of_lt (Nat.lt_of_lt_of_eq f42_1.lt g47.symm)) nin0)).keep K171 (ninS (Nat.ne_of_lt (Nat.lt_of_lt_of_le X36.lt f42_0)) nin0)).keep K183 (ninS (Nat.ne_of_lt (Nat.lt_of_lt_of_le X36.lt f42_0)) nin0))
          refine Gl.callV Y183 (tw_68 hw) (tw_37 hw) (tw_39 hw) (tw_39 hw) (tw_38 hw) (tw_3 hw) (tw_40 hw) (by decide) f103 (rmA38 l Z a0 hw [] b36 wa42 ck42 h183 n0 Y183.sz f103 f104 f105 sb36 f183_0 (Nat.le_trans Y42_sz f42_0) (Nat.ne_of_lt (Nat.lt_of_lt_of_le X36.lt f42_0))) (a := b36) (argsL := []) (rest := []) rfl rfl (lenOf pd_5 rfl) rfl (by decide) (Nat.le_of_ble_eq_true rfl) (by decide) (by decide) at_216 rfl (fun v216 T216 h216 Y216 q216 => ?_)
          obtain ⟨rfl, rfl⟩ := q216
          show Gl p e below _ (T216.setTop (mkF m 219 _ [(.int 1)]))
          refine Gl.iload Y216 rfl at_219 rfl ?_
          refine Gl.icmpne Y216 at_221 (by decide) rfl rfl (fun c221 => ?_) (fun c221 => ?_)
          · exact absurd c221 (by decide)
          refine Gl.iconst Y216 (v := (1 : Int32)) (by decide) at_224 rfl ?_
          refine Gl.goto Y216 at_225 (by decide) rfl ?_
          exact Gl.retZ Y216 (by decide) (by decide) (x' := (1 : Int32)) (by decide) at_229 rfl
        · have jg_vv : ¬ (vv.toInt < 0) := fun q => sg_vv (Int64.lt_iff_toInt_lt.mpr q)
          have hsv := own_sp sg_vv
          refine Gl.aload Y53 rfl rfl at_168 rfl ?_
          refine Gl.lloadN Y53 rfl at_170 rfl ?_
          have f106 := (f80.keep K53)
          have f107 := ((Fld.ext E47 f42_2).keep K53 (ninS (Nat.ne_of_lt (Nat.lt_of_lt_of_eq f42_1.lt g47.symm)) nin0))
          have f108 := (f81.keep K53 (ninS (Nat.ne_of_lt (Nat.lt_of_lt_of_eq f42_4.lt g47.symm)) nin0))
          refine Gl.callV Y53 (tw_18 hw) (tw_19 hw) (tw_21 hw) (tw_21 hw) (tw_20 hw) (tw_3 hw) (tw_22 hw) (by decide) f106 (rm14 l Z a0 hw [] b36 wa42 ck42 (0 : Int64) (0 : Int64) vv (0 : Int64) h53 n0 Y53.sz f106 f107 f108 (Nat.le_trans Y42_sz f42_0) (Nat.ne_of_lt (Nat.lt_of_lt_of_le X36.lt f42_0)) (by first | exact hsv | decide)) (a := b36) (argsL := [(.long vv)]) (rest := []) rfl rfl (lenOf pd_6 rfl) rfl (by decide) (Nat.le_of_ble_eq_true rfl) (by decide) (by decide) at_171 rfl (fun v171 T171 h171 Y171 q171 => ?_)
          obtain ⟨rfl, K171, f171_0⟩ := q171
          show Gl p e below _ (T171.setTop (mkF m 174 _ [(.ref b36)]))
          refine Gl.pop Y171 rfl at_174 rfl ?_
          refine Gl.iload Y171 rfl at_175 rfl ?_
          refine Gl.iconst Y171 (v := (2 : Int32)) (by decide) at_177 rfl ?_
          refine Gl.icmpne Y171 at_178 (by decide) rfl rfl (fun c178 => ?_) (fun c178 => ?_)
          · exact absurd c178 (by decide)
          refine Gl.aload Y171 rfl rfl at_181 rfl ?_
          have f109 := (f106.keep K171)
          have f110 := (f107.keep K171 (ninS (Nat.ne_of_lt (Nat.lt_of_lt_of_le X36.lt f42_0)) nin0))
          refine Gl.callV Y171 (tw_109 hw) (tw_51 hw) (tw_53 hw) (tw_53 hw) (tw_52 hw) (tw_3 hw) (tw_54 hw) (by decide) f109 (rm15 l Z a0 hw [] b36 wa42 ck42 vv (0 : Int64) h171 n0 Y171.sz f109 f110 f171_0 (Nat.le_trans Y42_sz f42_0) (Nat.ne_of_lt (Nat.lt_of_lt_of_le X36.lt f42_0))) (a := b36) (argsL := []) (rest := []) rfl rfl (lenOf pd_7 rfl) rfl (by decide) (Nat.le_of_ble_eq_true rfl) (by decide) (by decide) at_183 rfl (fun v183 T183 h183 Y183 q183 => ?_)
          obtain ⟨rfl, K183, f183_0⟩ := q183
          show Gl p e below _ (T183.setTop (mkF m 186 _ [(.ref b36)]))
          refine Gl.pop Y183 rfl at_186 rfl ?_
          refine Gl.iconst Y183 (v := (1 : Int32)) (by decide) at_187 rfl ?_
          refine Gl.istore Y183 (L' := #[.val (.int dd), .val (.int mo), .val (.long vv), .second, .val (.int v8), .val (.int 2), .val (.ref b36), .val (.ref b47), .val (.int 2), .val (.int 1)]) rfl at_188 rfl ?_
          refine Gl.goto Y183 at_190 (by decide) rfl ?_
          refine Gl.aload Y183 rfl rfl at_214 rfl ?_
          have f111 := (f109.keep K183)
          have f112 := (f110.keep K183 (ninS (Nat.ne_of_lt (Nat.lt_of_lt_of_le X36.lt f42_0)) nin0))
          have f113 := ((((Fld.ext E47 f42_3).keep K53 (ninS (Nat.ne_of_lt (Nat.lt_of_lt_of_eq f42_1.lt g47.symm)) nin0)).keep K171 (ninS (Nat.ne_of_lt (Nat.lt_of_lt_of_le X36.lt f42_0)) nin0)).keep K183 (ninS (Nat.ne_of_lt (Nat.lt_of_lt_of_le X36.lt f42_0)) nin0))
          refine Gl.callV Y183 (tw_68 hw) (tw_37 hw) (tw_39 hw) (tw_39 hw) (tw_38 hw) (tw_3 hw) (tw_40 hw) (by decide) f111 (rmA38 l Z a0 hw [] b36 wa42 ck42 h183 n0 Y183.sz f111 f112 f113 sb36 f183_0 (Nat.le_trans Y42_sz f42_0) (Nat.ne_of_lt (Nat.lt_of_lt_of_le X36.lt f42_0))) (a := b36) (argsL := []) (rest := []) rfl rfl (lenOf pd_5 rfl) rfl (by decide) (Nat.le_of_ble_eq_true rfl) (by decide) (by decide) at_216 rfl (fun v216 T216 h216 Y216 q216 => ?_)
          obtain ⟨rfl, rfl⟩ := q216
          show Gl p e below _ (T216.setTop (mkF m 219 _ [(.int 1)]))
          refine Gl.iload Y216 rfl at_219 rfl ?_
          refine Gl.icmpne Y216 at_221 (by decide) rfl rfl (fun c221 => ?_) (fun c221 => ?_)
          · exact absurd c221 (by decide)
          refine Gl.iconst Y216 (v := (1 : Int32)) (by decide) at_224 rfl ?_
          refine Gl.goto Y216 at_225 (by decide) rfl ?_
          exact Gl.retZ Y216 (by decide) (by decide) (x' := (1 : Int32)) (by decide) at_229 rfl
      · refine Gl.iload Y53 rfl at_63 rfl ?_
        refine Gl.iconst Y53 (v := (3 : Int32)) (by decide) at_65 rfl ?_
        refine Gl.icmpne Y53 at_66 (by decide) rfl rfl (fun c66 => ?_) (fun c66 => ?_)
        · exact absurd c66 (by decide)
        refine Gl.aload Y53 rfl rfl at_69 rfl ?_
        refine Gl.ldcJ Y53 (tw_17 hw) at_71 rfl ?_
        have f114 := (f80.keep K53)
        have f115 := ((Fld.ext E47 f42_2).keep K53 (ninS (Nat.ne_of_lt (Nat.lt_of_lt_of_eq f42_1.lt g47.symm)) nin0))
        have f116 := (f81.keep K53 (ninS (Nat.ne_of_lt (Nat.lt_of_lt_of_eq f42_4.lt g47.symm)) nin0))
        refine Gl.callV Y53 (tw_18 hw) (tw_19 hw) (tw_21 hw) (tw_21 hw) (tw_20 hw) (tw_3 hw) (tw_22 hw) (by decide) f114 (rm14 l Z a0 hw [] b36 wa42 ck42 (0 : Int64) (0 : Int64) (-9223372036854775808 : Int64) (-1 : Int64) h53 n0 Y53.sz f114 f115 f116 (Nat.le_trans Y42_sz f42_0) (Nat.ne_of_lt (Nat.lt_of_lt_of_le X36.lt f42_0)) (by first | exact hsv | decide)) (a := b36) (argsL := [(.long (-9223372036854775808))]) (rest := []) rfl rfl (lenOf pd_6 rfl) rfl (by decide) (Nat.le_of_ble_eq_true rfl) (by decide) (by decide) at_74 rfl (fun v74 T74 h74 Y74 q74 => ?_)
        obtain ⟨rfl, K74, f74_0⟩ := q74
        show Gl p e below _ (T74.setTop (mkF m 77 _ [(.ref b36)]))
        refine Gl.pop Y74 rfl at_77 rfl ?_
        refine Gl.aload Y74 rfl rfl at_78 rfl ?_
        refine Gl.ldcJ Y74 (tw_30 hw) at_80 rfl ?_
        have f117 := (f53_1.keep K74)
        have f118 := (f53_2.keep K74 (ninS (Ne.symm (Nat.ne_of_lt (Nat.lt_of_lt_of_eq f42_4.lt g47.symm))) nin0))
        have f119 := (f53_4.keep K74 (ninS (Ne.symm (Nat.ne_of_lt (Nat.lt_of_lt_of_le f81.lt f53_0))) nin0))
        refine Gl.callV Y74 (tw_18 hw) (tw_19 hw) (tw_21 hw) (tw_21 hw) (tw_20 hw) (tw_3 hw) (tw_22 hw) (by decide) f117 (rm14 l Z a0 hw [] b47 wa53 ck53 (0 : Int64) (0 : Int64) (3 : Int64) (0 : Int64) h74 n0 Y74.sz f117 f118 f119 (Nat.le_trans Y53_sz f53_0) (Nat.ne_of_lt (Nat.lt_of_lt_of_le X47.lt f53_0)) (by first | exact hsv | decide)) (a := b47) (argsL := [(.long 3)]) (rest := []) rfl rfl (lenOf pd_6 rfl) rfl (by decide) (Nat.le_of_ble_eq_true rfl) (by decide) (by decide) at_83 rfl (fun v83 T83 h83 Y83 q83 => ?_)
        obtain ⟨rfl, K83, f83_0⟩ := q83
        show Gl p e below _ (T83.setTop (mkF m 86 _ [(.ref b47)]))
        refine Gl.pop Y83 rfl at_86 rfl ?_
        refine Gl.aload Y83 rfl rfl at_87 rfl ?_
        refine Gl.aload Y83 rfl rfl at_89 rfl ?_
        have f120 := ((f114.keep K74).keep K83)
        have f121 := ((f115.keep K74 (ninS (Nat.ne_of_lt (Nat.lt_of_lt_of_le X36.lt f42_0)) nin0)).keep K83 (ninS (Nat.ne_of_lt (Nat.lt_of_lt_of_le f80.lt f53_0)) nin0))
        have f122 := ((((Fld.ext E47 f42_3).keep K53 (ninS (Nat.ne_of_lt (Nat.lt_of_lt_of_eq f42_1.lt g47.symm)) nin0)).keep K74 (ninS (Nat.ne_of_lt (Nat.lt_of_lt_of_le X36.lt f42_0)) nin0)).keep K83 (ninS (Nat.ne_of_lt (Nat.lt_of_lt_of_le f80.lt f53_0)) nin0))
        have f123 := (f117.keep K83)
        have f124 := (f118.keep K83 (ninS (Nat.ne_of_lt (Nat.lt_of_lt_of_le X47.lt f53_0)) nin0))
        have f125 := ((f53_3.keep K74 (ninS (Ne.symm (Nat.ne_of_lt (Nat.lt_of_lt_of_eq f42_4.lt g47.symm))) nin0)).keep K83 (ninS (Nat.ne_of_lt (Nat.lt_of_lt_of_le X47.lt f53_0)) nin0))
        have f126 := (f74_0.keep K83 (ninS (Nat.ne_of_lt (Nat.lt_of_lt_of_le f81.lt f53_0)) nin0))
        refine Gl.callV Y83 (tw_31 hw) (tw_32 hw) (tw_34 hw) (tw_34 hw) (tw_33 hw) (tw_3 hw) (tw_35 hw) (by decide) f120 (rmA40 l Z a0 hw [] b36 b47 wa42 wa53 ck42 ck53 h83 n0 Y83.sz f120 f121 f122 sb36 f123 f124 f125 sb47 f126 (Nat.le_trans Y42_sz f42_0) f83_0 (Nat.le_trans Y53_sz f53_0) (Nat.ne_of_lt (Nat.lt_of_lt_of_eq f42_1.lt g47.symm)) (Nat.ne_of_lt (Nat.lt_of_lt_of_le X36.lt f42_0)) (Nat.ne_of_lt (Nat.lt_of_lt_of_le f80.lt f53_0)) (Ne.symm (Nat.ne_of_lt (Nat.lt_of_lt_of_eq f42_4.lt g47.symm))) (Nat.ne_of_lt (Nat.lt_of_lt_of_le X47.lt f53_0)) (Nat.ne_of_lt (Nat.lt_of_lt_of_le f81.lt f53_0))) (a := b36) (argsL := [(.ref b47)]) (rest := []) rfl rfl (lenOf pd_8 rfl) rfl (by decide) (Nat.le_of_ble_eq_true rfl) (by decide) (by decide) at_91 rfl (fun v91 T91 h91 Y91 q91 => ?_)
        obtain ⟨b172991, ck172991, rfl, K91, f91_0, f91_1, f91_2, f91_3, f91_4, f91_5, f91_6, f91_7, f91_8, f91_9⟩ := q91
        have Y91_sz : n0 ≤ h83.size := Y83.sz
        show Gl p e below _ (T91.setTop (mkF m 94 _ [(.ref b36)]))
        refine Gl.pop Y91 rfl at_94 rfl ?_
        refine Gl.aload Y91 rfl rfl at_95 rfl ?_
        refine Gl.ldcJ Y91 (tw_58 hw) at_97 rfl ?_
        refine Gl.callV Y91 (tw_18 hw) (tw_19 hw) (tw_21 hw) (tw_21 hw) (tw_20 hw) (tw_3 hw) (tw_22 hw) (by decide) f91_2 (rm14 l Z a0 hw [] b47 wa53 ck53 (3 : Int64) (0 : Int64) (6148914691236517205 : Int64) (0 : Int64) h91 n0 Y91.sz f91_2 f91_5 f91_9 (Nat.le_trans Y53_sz f53_0) (Nat.ne_of_lt (Nat.lt_of_lt_of_le X47.lt f53_0)) (by first | exact hsv | decide)) (a := b47) (argsL := [(.long 6148914691236517205)]) (rest := []) rfl rfl (lenOf pd_6 rfl) rfl (by decide) (Nat.le_of_ble_eq_true rfl) (by decide) (by decide) at_100 rfl (fun v100 T100 h100 Y100 q100 => ?_)
        obtain ⟨rfl, K100, f100_0⟩ := q100
        show Gl p e below _ (T100.setTop (mkF m 103 _ [(.ref b47)]))
        refine Gl.pop Y100 rfl at_103 rfl ?_
        refine Gl.aload Y100 rfl rfl at_104 rfl ?_
        refine Gl.aload Y100 rfl rfl at_106 rfl ?_
        have f127 := (f91_1.keep K100)
        have f128 := (f91_3.keep K100 (ninS (Nat.ne_of_lt (Nat.lt_of_lt_of_le f80.lt f53_0)) nin0))
        have f129 := (f91_4.keep K100 (ninS (Nat.ne_of_lt (Nat.lt_of_lt_of_le f80.lt f53_0)) nin0))
        have f130 := (f91_2.keep K100)
        have f131 := (f91_5.keep K100 (ninS (Nat.ne_of_lt (Nat.lt_of_lt_of_le X47.lt f53_0)) nin0))
        have f132 := (f91_6.keep K100 (ninS (Nat.ne_of_lt (Nat.lt_of_lt_of_le X47.lt f53_0)) nin0))
        have f133 := (f91_8.keep K100 (ninS (Nat.ne_of_lt (Nat.lt_of_lt_of_le f81.lt f53_0)) nin0))
        have f134 := (f91_7.keep K100 (ninS (Ne.symm (Nat.ne_of_lt (Nat.lt_of_lt_of_le f83_0.lt f91_0))) nin0))
        refine Gl.callV Y100 (tw_31 hw) (tw_32 hw) (tw_34 hw) (tw_34 hw) (tw_33 hw) (tw_3 hw) (tw_35 hw) (by decide) f127 (rmA56 l Z a0 hw [] b36 b47 wa42 b172991 wa53 ck42 ck172991 ck53 h100 n0 Y100.sz f127 f128 f129 sb36 f130 f131 f132 sb47 f133 (Nat.le_trans Y42_sz f42_0) f134 (Nat.le_trans Y91_sz f91_0) f100_0 (Nat.le_trans Y53_sz f53_0) (Nat.ne_of_lt (Nat.lt_of_lt_of_eq f42_1.lt g47.symm)) (Nat.ne_of_lt (Nat.lt_of_lt_of_le X36.lt f42_0)) (Nat.ne_of_lt (Nat.lt_of_lt_of_le f120.lt f91_0)) (Nat.ne_of_lt (Nat.lt_of_lt_of_le f80.lt f53_0)) (Ne.symm (Nat.ne_of_lt (Nat.lt_of_lt_of_eq f42_4.lt g47.symm))) (Nat.ne_of_lt (Nat.lt_of_lt_of_le f123.lt f91_0)) (Nat.ne_of_lt (Nat.lt_of_lt_of_le X47.lt f53_0)) (Nat.ne_of_lt (Nat.lt_of_lt_of_le f126.lt f91_0)) (Nat.ne_of_lt (Nat.lt_of_lt_of_le f81.lt f53_0)) (Ne.symm (Nat.ne_of_lt (Nat.lt_of_lt_of_le f83_0.lt f91_0)))) (a := b36) (argsL := [(.ref b47)]) (rest := []) rfl rfl (lenOf pd_8 rfl) rfl (by decide) (Nat.le_of_ble_eq_true rfl) (by decide) (by decide) at_108 rfl (fun v108 T108 h108 Y108 q108 => ?_)
        obtain ⟨rfl, K108, f108_0, f108_1, f108_2, f108_3, f108_4, f108_5, f108_6, f108_7, f108_8⟩ := q108
        show Gl p e below _ (T108.setTop (mkF m 111 _ [(.ref b36)]))
        refine Gl.pop Y108 rfl at_111 rfl ?_
        by_cases sg_vv : vv < (0 : Int64)
        · have jg_vv : vv.toInt < 0 := Int64.lt_iff_toInt_lt.mp sg_vv
          have hsv := own_sn sg_vv
          refine Gl.aload Y108 rfl rfl at_112 rfl ?_
          refine Gl.lloadN Y108 rfl at_114 rfl ?_
          refine Gl.callV Y108 (tw_18 hw) (tw_19 hw) (tw_21 hw) (tw_21 hw) (tw_20 hw) (tw_3 hw) (tw_22 hw) (by decide) f108_1 (rm14 l Z a0 hw [] b47 wa53 ck53 (6148914691236517205 : Int64) (0 : Int64) vv (-1 : Int64) h108 n0 Y108.sz f108_1 f108_4 f108_8 (Nat.le_trans Y53_sz f53_0) (Nat.ne_of_lt (Nat.lt_of_lt_of_le X47.lt f53_0)) (by first | exact hsv | decide)) (a := b47) (argsL := [(.long vv)]) (rest := []) rfl rfl (lenOf pd_6 rfl) rfl (by decide) (Nat.le_of_ble_eq_true rfl) (by decide) (by decide) at_115 rfl (fun v115 T115 h115 Y115 q115 => ?_)
          obtain ⟨rfl, K115, f115_0⟩ := q115
          show Gl p e below _ (T115.setTop (mkF m 118 _ [(.ref b47)]))
          refine Gl.pop Y115 rfl at_118 rfl ?_
          refine Gl.aload Y115 rfl rfl at_119 rfl ?_
          refine Gl.aload Y115 rfl rfl at_121 rfl ?_
          obtain ⟨v123s, hv123s⟩ : ∃ z : Int64, vv ^^^ (0 : Int64) = z := ⟨_, rfl⟩
          have iv123s : v123s.toInt = vv.toInt := by rw [← hv123s, Int64.xor_zero]
          obtain ⟨v123s_2, hv123s_2⟩ : ∃ z : Int64, (-9223372036854775808 : Int64) &&& v123s = z := ⟨_, rfl⟩
          have sv123s_2 := c_andSL (-9223372036854775808 : Int64) v123s
          rw [hv123s_2] at sv123s_2
          have nv123s_2 := rng64 v123s_2
          try simp only [Int64.reduceToInt] at sv123s_2
          obtain ⟨v123s_3, hv123s_3⟩ : ∃ z : Int64, (-9223372036854775808 : Int64) ||| v123s = z := ⟨_, rfl⟩
          have sv123s_3 := c_orSL (-9223372036854775808 : Int64) v123s
          rw [hv123s_3] at sv123s_3
          have nv123s_3 := rng64 v123s_3
          try simp only [Int64.reduceToInt] at sv123s_3
          obtain ⟨v123s_4, hv123s_4⟩ : ∃ z : Int64, (-9223372036854775808 : Int64) + v123s = z := ⟨_, rfl⟩
          have mv123s_4 : (v123s_4.toInt - ((-9223372036854775808) + v123s.toInt)) % 18446744073709551616 = 0 := by have q := c_ladd (-9223372036854775808 : Int64) v123s; rw [hv123s_4] at q; exact q
          have nv123s_4 := rng64 v123s_4
          obtain ⟨v123s_5, hv123s_5⟩ : ∃ z : Int64, v123s_4 + (0 : Int64) = z := ⟨_, rfl⟩
          have iv123s_5 : v123s_5.toInt = v123s_4.toInt + 0 := by
            have q : (v123s_5.toInt - (v123s_4.toInt + 0)) % 18446744073709551616 = 0 := by have q := c_ladd v123s_4 (0 : Int64); rw [hv123s_5] at q; exact q
            have r := rng64 v123s_5
            omega
          obtain ⟨v123s_6, hv123s_6⟩ : ∃ z : Int64, v123s_5 ^^^ (-1 : Int64) = z := ⟨_, rfl⟩
          have iv123s_6 : v123s_6.toInt = -v123s_5.toInt - 1 := by rw [← hv123s_6]; exact own_not64 v123s_5
          obtain ⟨v123s_7, hv123s_7⟩ : ∃ z : Int64, v123s_3 &&& v123s_6 = z := ⟨_, rfl⟩
          have sv123s_7 := c_andSL v123s_3 v123s_6
          rw [hv123s_7] at sv123s_7
          have nv123s_7 := rng64 v123s_7
          obtain ⟨v123s_8, hv123s_8⟩ : ∃ z : Int64, v123s_2 ||| v123s_7 = z := ⟨_, rfl⟩
          have sv123s_8 := c_orSL v123s_2 v123s_7
          rw [hv123s_8] at sv123s_8
          have nv123s_8 := rng64 v123s_8
          obtain ⟨v123s_9, hv123s_9⟩ : ∃ z : Int64, (v123s_8.toUInt64 >>> ((63 : Int32) &&& 0x3f).toInt64.toUInt64).toInt64 = z := ⟨_, rfl⟩
          have iv123s_9 : v123s_9.toInt = (v123s_8.toInt % 18446744073709551616) / 9223372036854775808 := by have q := c_lushr v123s_8 (63 : Int32) 63 (by decide) (by decide); rw [hv123s_9] at q; exact q
          obtain rfl : v123s_9 = (1 : Int64) := Int64.toInt_inj.mp (by simp only [Int64.reduceToInt]; omega)
          have f135 := (f108_0.keep K115)
          have f136 := (f108_2.keep K115 (ninS (Nat.ne_of_lt (Nat.lt_of_lt_of_le f80.lt f53_0)) nin0))
          have f137 := (f108_3.keep K115 (ninS (Nat.ne_of_lt (Nat.lt_of_lt_of_le f80.lt f53_0)) nin0))
          have f138 := (f108_1.keep K115)
          have f139 := (f108_4.keep K115 (ninS (Nat.ne_of_lt (Nat.lt_of_lt_of_le X47.lt f53_0)) nin0))
          have f140 := (f108_5.keep K115 (ninS (Nat.ne_of_lt (Nat.lt_of_lt_of_le X47.lt f53_0)) nin0))
          have f141 := (f108_6.keep K115 (ninS (Nat.ne_of_lt (Nat.lt_of_lt_of_le f81.lt f53_0)) nin0))
          have f142 := (f108_7.keep K115 (ninS (Ne.symm (Nat.ne_of_lt (Nat.lt_of_lt_of_le f83_0.lt f91_0))) nin0))
          refine Gl.callV Y115 (tw_59 hw) (tw_60 hw) (tw_62 hw) (tw_62 hw) (tw_61 hw) (tw_3 hw) (tw_63 hw) (by decide) f135 (rmA74 l Z a0 hw [] b36 b47 wa42 b172991 wa53 ck42 ck172991 ck53 vv v123s v123s_4 v123s_5 v123s_2 v123s_3 v123s_6 v123s_7 v123s_8 h115 n0 Y115.sz f135 f136 f137 sb36 f138 f139 f140 sb47 f141 (Nat.le_trans Y42_sz f42_0) f142 (Nat.le_trans Y91_sz f91_0) f115_0 (Nat.le_trans Y53_sz f53_0) (Nat.ne_of_lt (Nat.lt_of_lt_of_eq f42_1.lt g47.symm)) (Nat.ne_of_lt (Nat.lt_of_lt_of_le X36.lt f42_0)) (Nat.ne_of_lt (Nat.lt_of_lt_of_le f120.lt f91_0)) (Nat.ne_of_lt (Nat.lt_of_lt_of_le f80.lt f53_0)) (Ne.symm (Nat.ne_of_lt (Nat.lt_of_lt_of_eq f42_4.lt g47.symm))) (Nat.ne_of_lt (Nat.lt_of_lt_of_le f123.lt f91_0)) (Nat.ne_of_lt (Nat.lt_of_lt_of_le X47.lt f53_0)) (Nat.ne_of_lt (Nat.lt_of_lt_of_le f126.lt f91_0)) (Nat.ne_of_lt (Nat.lt_of_lt_of_le f81.lt f53_0)) (Ne.symm (Nat.ne_of_lt (Nat.lt_of_lt_of_le f83_0.lt f91_0))) hv123s hv123s_4 hv123s_5 hv123s_2 hv123s_3 hv123s_6 hv123s_7 hv123s_8 hv123s_9) (a := b36) (argsL := [(.ref b47)]) (rest := []) rfl rfl (lenOf pd_8 rfl) rfl (by decide) (Nat.le_of_ble_eq_true rfl) (by decide) (by decide) at_123 rfl (fun v123 T123 h123 Y123 q123 => ?_)
          obtain ⟨rfl, K123, f123_0, f123_1, f123_2, f123_3, f123_4, f123_5, f123_6, f123_7, f123_8⟩ := q123
          show Gl p e below _ (T123.setTop (mkF m 126 _ [(.ref b36)]))
          refine Gl.pop Y123 rfl at_126 rfl ?_
          refine Gl.iload Y123 rfl at_127 rfl ?_
          refine Gl.iconst Y123 (v := (1 : Int32)) (by decide) at_129 rfl ?_
          refine Gl.icmpeq Y123 at_130 (by decide) rfl rfl (fun c130 => ?_) (fun c130 => ?_)
          · exact absurd c130 (by decide)
          refine Gl.iload Y123 rfl at_133 rfl ?_
          refine Gl.iconst Y123 (v := (2 : Int32)) (by decide) at_135 rfl ?_
          refine Gl.icmpne Y123 at_136 (by decide) rfl rfl (fun c136 => ?_) (fun c136 => ?_)
          · exact absurd c136 (by decide)
          refine Gl.lloadN Y123 rfl at_139 rfl ?_
          refine Gl.ldcJ Y123 (tw_17 hw) at_140 rfl ?_
          refine Gl.lcmpne Y123 at_143 rfl at_144 (by decide) rfl rfl (fun c144 => ?_) (fun c144 => ?_)
          · have j144 : ¬ (vv.toInt = (-9223372036854775808)) := fun q => c144 (Int64.toInt_inj.mp q)
            refine Gl.iconst Y123 (v := (0 : Int32)) (by decide) at_151 rfl ?_
            refine Gl.istore Y123 (L' := #[.val (.int dd), .val (.int mo), .val (.long vv), .second, .val (.int v8), .val (.int 2), .val (.ref b36), .val (.ref b47), .val (.int 3), .val (.int 0)]) rfl at_152 rfl ?_
            refine Gl.goto Y123 at_154 (by decide) rfl ?_
            refine Gl.aload Y123 rfl rfl at_214 rfl ?_
            by_cases y216 : v123s_5 = (0 : Int64)
            · have j216 : v123s_5.toInt = 0 := congrArg Int64.toInt y216
              exfalso; omega
            · have j216 : ¬ (v123s_5.toInt = 0) := fun q => y216 (Int64.toInt_inj.mp q)
              refine Gl.callV Y123 (tw_68 hw) (tw_37 hw) (tw_39 hw) (tw_39 hw) (tw_38 hw) (tw_3 hw) (tw_40 hw) (by decide) f123_0 (rmA78 l Z a0 hw [] b36 wa42 b172991 ck42 v123s_5 ck172991 h123 n0 Y123.sz f123_0 f123_2 f123_3 sb36 f123_6 (Nat.le_trans Y42_sz f42_0) f123_7 (Nat.le_trans Y91_sz f91_0) (Nat.ne_of_lt (Nat.lt_of_lt_of_le X36.lt f42_0)) (Nat.ne_of_lt (Nat.lt_of_lt_of_le f120.lt f91_0)) (Nat.ne_of_lt (Nat.lt_of_lt_of_le f126.lt f91_0)) y216) (a := b36) (argsL := []) (rest := []) rfl rfl (lenOf pd_5 rfl) rfl (by decide) (Nat.le_of_ble_eq_true rfl) (by decide) (by decide) at_216 rfl (fun v216 T216 h216 Y216 q216 => ?_)
              obtain ⟨rfl, rfl⟩ := q216
              show Gl p e below _ (T216.setTop (mkF m 219 _ [(.int 0)]))
              refine Gl.iload Y216 rfl at_219 rfl ?_
              refine Gl.icmpne Y216 at_221 (by decide) rfl rfl (fun c221 => ?_) (fun c221 => ?_)
              · exact absurd c221 (by decide)
              refine Gl.iconst Y216 (v := (1 : Int32)) (by decide) at_224 rfl ?_
              refine Gl.goto Y216 at_225 (by decide) rfl ?_
              exact Gl.retZ Y216 (by decide) (by decide) (x' := (1 : Int32)) (by decide) at_229 rfl
          · have j144 : vv.toInt = (-9223372036854775808) := congrArg Int64.toInt c144
            refine Gl.iconst Y123 (v := (1 : Int32)) (by decide) at_147 rfl ?_
            refine Gl.goto Y123 at_148 (by decide) rfl ?_
            refine Gl.istore Y123 (L' := #[.val (.int dd), .val (.int mo), .val (.long vv), .second, .val (.int v8), .val (.int 2), .val (.ref b36), .val (.ref b47), .val (.int 3), .val (.int 1)]) rfl at_152 rfl ?_
            refine Gl.goto Y123 at_154 (by decide) rfl ?_
            refine Gl.aload Y123 rfl rfl at_214 rfl ?_
            by_cases y216 : v123s_5 = (0 : Int64)
            · have j216 : v123s_5.toInt = 0 := congrArg Int64.toInt y216
              refine Gl.callV Y123 (tw_68 hw) (tw_37 hw) (tw_39 hw) (tw_39 hw) (tw_38 hw) (tw_3 hw) (tw_40 hw) (by decide) f123_0 (rmA82 l Z a0 hw [] b36 wa42 b172991 ck42 v123s_5 ck172991 h123 n0 Y123.sz f123_0 f123_2 f123_3 sb36 f123_6 (Nat.le_trans Y42_sz f42_0) f123_7 (Nat.le_trans Y91_sz f91_0) (Nat.ne_of_lt (Nat.lt_of_lt_of_le X36.lt f42_0)) (Nat.ne_of_lt (Nat.lt_of_lt_of_le f120.lt f91_0)) (Nat.ne_of_lt (Nat.lt_of_lt_of_le f126.lt f91_0)) y216) (a := b36) (argsL := []) (rest := []) rfl rfl (lenOf pd_5 rfl) rfl (by decide) (Nat.le_of_ble_eq_true rfl) (by decide) (by decide) at_216 rfl (fun v216 T216 h216 Y216 q216 => ?_)
              obtain ⟨rfl, rfl⟩ := q216
              show Gl p e below _ (T216.setTop (mkF m 219 _ [(.int 1)]))
              refine Gl.iload Y216 rfl at_219 rfl ?_
              refine Gl.icmpne Y216 at_221 (by decide) rfl rfl (fun c221 => ?_) (fun c221 => ?_)
              · exact absurd c221 (by decide)
              refine Gl.iconst Y216 (v := (1 : Int32)) (by decide) at_224 rfl ?_
              refine Gl.goto Y216 at_225 (by decide) rfl ?_
              exact Gl.retZ Y216 (by decide) (by decide) (x' := (1 : Int32)) (by decide) at_229 rfl
            · have j216 : ¬ (v123s_5.toInt = 0) := fun q => y216 (Int64.toInt_inj.mp q)
              exfalso; omega
        · have jg_vv : ¬ (vv.toInt < 0) := fun q => sg_vv (Int64.lt_iff_toInt_lt.mpr q)
          have hsv := own_sp sg_vv
          refine Gl.aload Y108 rfl rfl at_112 rfl ?_
          refine Gl.lloadN Y108 rfl at_114 rfl ?_
          refine Gl.callV Y108 (tw_18 hw) (tw_19 hw) (tw_21 hw) (tw_21 hw) (tw_20 hw) (tw_3 hw) (tw_22 hw) (by decide) f108_1 (rm14 l Z a0 hw [] b47 wa53 ck53 (6148914691236517205 : Int64) (0 : Int64) vv (0 : Int64) h108 n0 Y108.sz f108_1 f108_4 f108_8 (Nat.le_trans Y53_sz f53_0) (Nat.ne_of_lt (Nat.lt_of_lt_of_le X47.lt f53_0)) (by first | exact hsv | decide)) (a := b47) (argsL := [(.long vv)]) (rest := []) rfl rfl (lenOf pd_6 rfl) rfl (by decide) (Nat.le_of_ble_eq_true rfl) (by decide) (by decide) at_115 rfl (fun v115 T115 h115 Y115 q115 => ?_)
          obtain ⟨rfl, K115, f115_0⟩ := q115
          show Gl p e below _ (T115.setTop (mkF m 118 _ [(.ref b47)]))
          refine Gl.pop Y115 rfl at_118 rfl ?_
          refine Gl.aload Y115 rfl rfl at_119 rfl ?_
          refine Gl.aload Y115 rfl rfl at_121 rfl ?_
          obtain ⟨v123s, hv123s⟩ : ∃ z : Int64, vv ^^^ (0 : Int64) = z := ⟨_, rfl⟩
          have iv123s : v123s.toInt = vv.toInt := by rw [← hv123s, Int64.xor_zero]
          obtain ⟨v123s_2, hv123s_2⟩ : ∃ z : Int64, (-9223372036854775808 : Int64) &&& v123s = z := ⟨_, rfl⟩
          have sv123s_2 := c_andSL (-9223372036854775808 : Int64) v123s
          rw [hv123s_2] at sv123s_2
          have nv123s_2 := rng64 v123s_2
          try simp only [Int64.reduceToInt] at sv123s_2
          obtain ⟨v123s_3, hv123s_3⟩ : ∃ z : Int64, (-9223372036854775808 : Int64) ||| v123s = z := ⟨_, rfl⟩
          have sv123s_3 := c_orSL (-9223372036854775808 : Int64) v123s
          rw [hv123s_3] at sv123s_3
          have nv123s_3 := rng64 v123s_3
          try simp only [Int64.reduceToInt] at sv123s_3
          obtain ⟨v123s_4, hv123s_4⟩ : ∃ z : Int64, (-9223372036854775808 : Int64) + v123s = z := ⟨_, rfl⟩
          have iv123s_4 : v123s_4.toInt = (-9223372036854775808) + v123s.toInt := by
            have q : (v123s_4.toInt - ((-9223372036854775808) + v123s.toInt)) % 18446744073709551616 = 0 := by have q := c_ladd (-9223372036854775808 : Int64) v123s; rw [hv123s_4] at q; exact q
            have r := rng64 v123s_4
            omega
          obtain ⟨v123s_5, hv123s_5⟩ : ∃ z : Int64, v123s_4 + (0 : Int64) = z := ⟨_, rfl⟩
          have iv123s_5 : v123s_5.toInt = v123s_4.toInt + 0 := by
            have q : (v123s_5.toInt - (v123s_4.toInt + 0)) % 18446744073709551616 = 0 := by have q := c_ladd v123s_4 (0 : Int64); rw [hv123s_5] at q; exact q
            have r := rng64 v123s_5
            omega
          obtain ⟨v123s_6, hv123s_6⟩ : ∃ z : Int64, v123s_5 ^^^ (-1 : Int64) = z := ⟨_, rfl⟩
          have iv123s_6 : v123s_6.toInt = -v123s_5.toInt - 1 := by rw [← hv123s_6]; exact own_not64 v123s_5
          obtain ⟨v123s_7, hv123s_7⟩ : ∃ z : Int64, v123s_3 &&& v123s_6 = z := ⟨_, rfl⟩
          have sv123s_7 := c_andSL v123s_3 v123s_6
          rw [hv123s_7] at sv123s_7
          have nv123s_7 := rng64 v123s_7
          obtain ⟨v123s_8, hv123s_8⟩ : ∃ z : Int64, v123s_2 ||| v123s_7 = z := ⟨_, rfl⟩
          have sv123s_8 := c_orSL v123s_2 v123s_7
          rw [hv123s_8] at sv123s_8
          have nv123s_8 := rng64 v123s_8
          obtain ⟨v123s_9, hv123s_9⟩ : ∃ z : Int64, (v123s_8.toUInt64 >>> ((63 : Int32) &&& 0x3f).toInt64.toUInt64).toInt64 = z := ⟨_, rfl⟩
          have iv123s_9 : v123s_9.toInt = (v123s_8.toInt % 18446744073709551616) / 9223372036854775808 := by have q := c_lushr v123s_8 (63 : Int32) 63 (by decide) (by decide); rw [hv123s_9] at q; exact q
          obtain rfl : v123s_9 = (0 : Int64) := Int64.toInt_inj.mp (by simp only [Int64.reduceToInt]; omega)
          have f143 := (f108_0.keep K115)
          have f144 := (f108_2.keep K115 (ninS (Nat.ne_of_lt (Nat.lt_of_lt_of_le f80.lt f53_0)) nin0))
          have f145 := (f108_3.keep K115 (ninS (Nat.ne_of_lt (Nat.lt_of_lt_of_le f80.lt f53_0)) nin0))
          have f146 := (f108_1.keep K115)
          have f147 := (f108_4.keep K115 (ninS (Nat.ne_of_lt (Nat.lt_of_lt_of_le X47.lt f53_0)) nin0))
          have f148 := (f108_5.keep K115 (ninS (Nat.ne_of_lt (Nat.lt_of_lt_of_le X47.lt f53_0)) nin0))
          have f149 := (f108_6.keep K115 (ninS (Nat.ne_of_lt (Nat.lt_of_lt_of_le f81.lt f53_0)) nin0))
          have f150 := (f108_7.keep K115 (ninS (Ne.symm (Nat.ne_of_lt (Nat.lt_of_lt_of_le f83_0.lt f91_0))) nin0))
          refine Gl.callV Y115 (tw_59 hw) (tw_60 hw) (tw_62 hw) (tw_62 hw) (tw_61 hw) (tw_3 hw) (tw_63 hw) (by decide) f143 (rmA86 l Z a0 hw [] b36 b47 wa42 b172991 wa53 ck42 ck172991 ck53 vv v123s v123s_4 v123s_5 v123s_2 v123s_3 v123s_6 v123s_7 v123s_8 h115 n0 Y115.sz f143 f144 f145 sb36 f146 f147 f148 sb47 f149 (Nat.le_trans Y42_sz f42_0) f150 (Nat.le_trans Y91_sz f91_0) f115_0 (Nat.le_trans Y53_sz f53_0) (Nat.ne_of_lt (Nat.lt_of_lt_of_eq f42_1.lt g47.symm)) (Nat.ne_of_lt (Nat.lt_of_lt_of_le X36.lt f42_0)) (Nat.ne_of_lt (Nat.lt_of_lt_of_le f120.lt f91_0)) (Nat.ne_of_lt (Nat.lt_of_lt_of_le f80.lt f53_0)) (Ne.symm (Nat.ne_of_lt (Nat.lt_of_lt_of_eq f42_4.lt g47.symm))) (Nat.ne_of_lt (Nat.lt_of_lt_of_le f123.lt f91_0)) (Nat.ne_of_lt (Nat.lt_of_lt_of_le X47.lt f53_0)) (Nat.ne_of_lt (Nat.lt_of_lt_of_le f126.lt f91_0)) (Nat.ne_of_lt (Nat.lt_of_lt_of_le f81.lt f53_0)) (Ne.symm (Nat.ne_of_lt (Nat.lt_of_lt_of_le f83_0.lt f91_0))) hv123s hv123s_4 hv123s_5 hv123s_2 hv123s_3 hv123s_6 hv123s_7 hv123s_8 hv123s_9) (a := b36) (argsL := [(.ref b47)]) (rest := []) rfl rfl (lenOf pd_8 rfl) rfl (by decide) (Nat.le_of_ble_eq_true rfl) (by decide) (by decide) at_123 rfl (fun v123 T123 h123 Y123 q123 => ?_)
          obtain ⟨rfl, K123, f123_0, f123_1, f123_2, f123_3, f123_4, f123_5, f123_6, f123_7, f123_8⟩ := q123
          show Gl p e below _ (T123.setTop (mkF m 126 _ [(.ref b36)]))
          refine Gl.pop Y123 rfl at_126 rfl ?_
          refine Gl.iload Y123 rfl at_127 rfl ?_
          refine Gl.iconst Y123 (v := (1 : Int32)) (by decide) at_129 rfl ?_
          refine Gl.icmpeq Y123 at_130 (by decide) rfl rfl (fun c130 => ?_) (fun c130 => ?_)
          · exact absurd c130 (by decide)
          refine Gl.iload Y123 rfl at_133 rfl ?_
          refine Gl.iconst Y123 (v := (2 : Int32)) (by decide) at_135 rfl ?_
          refine Gl.icmpne Y123 at_136 (by decide) rfl rfl (fun c136 => ?_) (fun c136 => ?_)
          · exact absurd c136 (by decide)
          refine Gl.lloadN Y123 rfl at_139 rfl ?_
          refine Gl.ldcJ Y123 (tw_17 hw) at_140 rfl ?_
          refine Gl.lcmpne Y123 at_143 rfl at_144 (by decide) rfl rfl (fun c144 => ?_) (fun c144 => ?_)
          rotate_left
          · exfalso; have j144 : vv.toInt = (-9223372036854775808) := congrArg Int64.toInt c144; omega
          have j144 : ¬ (vv.toInt = (-9223372036854775808)) := fun q => c144 (Int64.toInt_inj.mp q)
          refine Gl.iconst Y123 (v := (0 : Int32)) (by decide) at_151 rfl ?_
          refine Gl.istore Y123 (L' := #[.val (.int dd), .val (.int mo), .val (.long vv), .second, .val (.int v8), .val (.int 2), .val (.ref b36), .val (.ref b47), .val (.int 3), .val (.int 0)]) rfl at_152 rfl ?_
          refine Gl.goto Y123 at_154 (by decide) rfl ?_
          refine Gl.aload Y123 rfl rfl at_214 rfl ?_
          refine Gl.callV Y123 (tw_68 hw) (tw_37 hw) (tw_39 hw) (tw_39 hw) (tw_38 hw) (tw_3 hw) (tw_40 hw) (by decide) f123_0 (rmA78 l Z a0 hw [] b36 wa42 b172991 ck42 v123s_5 ck172991 h123 n0 Y123.sz f123_0 f123_2 f123_3 sb36 f123_6 (Nat.le_trans Y42_sz f42_0) f123_7 (Nat.le_trans Y91_sz f91_0) (Nat.ne_of_lt (Nat.lt_of_lt_of_le X36.lt f42_0)) (Nat.ne_of_lt (Nat.lt_of_lt_of_le f120.lt f91_0)) (Nat.ne_of_lt (Nat.lt_of_lt_of_le f126.lt f91_0)) (fun q => absurd (congrArg Int64.toInt q) (by first | omega | (simp only [Int64.reduceToInt]; omega)))) (a := b36) (argsL := []) (rest := []) rfl rfl (lenOf pd_5 rfl) rfl (by decide) (Nat.le_of_ble_eq_true rfl) (by decide) (by decide) at_216 rfl (fun v216 T216 h216 Y216 q216 => ?_)
          obtain ⟨rfl, rfl⟩ := q216
          show Gl p e below _ (T216.setTop (mkF m 219 _ [(.int 0)]))
          refine Gl.iload Y216 rfl at_219 rfl ?_
          refine Gl.icmpne Y216 at_221 (by decide) rfl rfl (fun c221 => ?_) (fun c221 => ?_)
          · exact absurd c221 (by decide)
          refine Gl.iconst Y216 (v := (1 : Int32)) (by decide) at_224 rfl ?_
          refine Gl.goto Y216 at_225 (by decide) rfl ?_
          exact Gl.retZ Y216 (by decide) (by decide) (x' := (1 : Int32)) (by decide) at_229 rfl
    · have jg38 : ¬ (v8.toInt < 39) := fun q => dg38 (Int32.lt_iff_toInt_lt.mpr q)
      refine Gl.iload Y0 rfl at_11 rfl ?_
      refine Gl.bipush Y0 (v := (18 : Int32)) (by decide) at_13 rfl ?_
      refine Gl.icmpgt Y0 at_15 (by decide) rfl rfl (fun c15 => ?_) (fun c15 => ?_)
      rotate_left
      · exfalso; have j15 : ¬ (18 < v8.toInt) := fun q => c15 (Int32.lt_iff_toInt_lt.mpr q); omega
      have j15 : 18 < v8.toInt := Int32.lt_iff_toInt_lt.mp c15
      refine Gl.iload Y0 rfl at_22 rfl ?_
      refine Gl.bipush Y0 (v := (38 : Int32)) (by decide) at_24 rfl ?_
      refine Gl.icmpgt Y0 at_26 (by decide) rfl rfl (fun c26 => ?_) (fun c26 => ?_)
      rotate_left
      · exfalso; have j26 : ¬ (38 < v8.toInt) := fun q => c26 (Int32.lt_iff_toInt_lt.mpr q); omega
      have j26 : 38 < v8.toInt := Int32.lt_iff_toInt_lt.mp c26
      refine Gl.iconst Y0 (v := (3 : Int32)) (by decide) at_33 rfl ?_
      refine Gl.istore Y0 (L' := #[.val (.int dd), .val (.int mo), .val (.long vv), .second, .val (.int v8), .val (.int 3), .unset, .unset, .unset, .unset]) rfl at_34 rfl ?_
      refine Gl.newO Y0 (tw_1 hw) (tw_2 hw) (tw_3 hw) (by decide) (by decide) at_36 rfl (fun T36 h36 b36 Y36 E36 g36 sb36 X36 D36 => ?_)
      have f151 : Fld Z h36 b36 kW "words" "[J" .null := D36 (Or.inr (tw_16 hw)) (ty := (.array .long)) (by decide)
      have f152 : Fld Z h36 b36 kW "work" "[J" .null := D36 (Or.inl (tw_79 hw)) (ty := (.array .long)) (by decide)
      show Gl p e below _ (T36.setTop (mkF m 39 _ [(.ref b36)]))
      refine Gl.dup Y36 rfl at_39 rfl ?_
      refine Gl.iload Y36 rfl at_40 rfl ?_
      refine Gl.callN Y36 rfl (tw_4 hw) (tw_5 hw) (tw_3 hw) (tw_6 hw) (by decide) (rm2 l Z a0 hw [] b36 v8 h36 n0 Y36.sz X36 f151 f152 sb36 (by first | assumption | decide | omega | (simp; done)) (by first | assumption | decide | omega | (simp; done))) (a := b36) (argsL := [(.int v8)]) (rest := [(.ref b36)]) rfl rfl (lenOf pd_3 rfl) rfl (by decide) (Nat.le_of_ble_eq_true rfl) (by decide) (by decide) at_42 rfl (fun v42 T42 h42 Y42 q42 => ?_)
      obtain ⟨wa42, ck42, rfl, K42, f42_0, f42_1, f42_2, f42_3, f42_4⟩ := q42
      have Y42_sz : n0 ≤ h36.size := Y36.sz
      show Gl p e below _ (T42.setTop (mkF m 45 _ [(.ref b36)]))
      refine Gl.astore Y42 rfl (L' := #[.val (.int dd), .val (.int mo), .val (.long vv), .second, .val (.int v8), .val (.int 3), .val (.ref b36), .unset, .unset, .unset]) rfl at_45 rfl ?_
      refine Gl.newO Y42 (tw_1 hw) (tw_2 hw) (tw_3 hw) (by decide) (by decide) at_47 rfl (fun T47 h47 b47 Y47 E47 g47 sb47 X47 D47 => ?_)
      have f153 : Fld Z h47 b47 kW "words" "[J" .null := D47 (Or.inr (tw_16 hw)) (ty := (.array .long)) (by decide)
      have f154 : Fld Z h47 b47 kW "work" "[J" .null := D47 (Or.inl (tw_79 hw)) (ty := (.array .long)) (by decide)
      show Gl p e below _ (T47.setTop (mkF m 50 _ [(.ref b47)]))
      refine Gl.dup Y47 rfl at_50 rfl ?_
      refine Gl.iload Y47 rfl at_51 rfl ?_
      refine Gl.callN Y47 rfl (tw_4 hw) (tw_5 hw) (tw_3 hw) (tw_6 hw) (by decide) (rm2 l Z a0 hw [] b47 v8 h47 n0 Y47.sz X47 f153 f154 sb47 (by first | assumption | decide | omega | (simp; done)) (by first | assumption | decide | omega | (simp; done))) (a := b47) (argsL := [(.int v8)]) (rest := [(.ref b47)]) rfl rfl (lenOf pd_3 rfl) rfl (by decide) (Nat.le_of_ble_eq_true rfl) (by decide) (by decide) at_53 rfl (fun v53 T53 h53 Y53 q53 => ?_)
      obtain ⟨wa53, ck53, rfl, K53, f53_0, f53_1, f53_2, f53_3, f53_4⟩ := q53
      have f155 := (Exa.ext E47 f42_1)
      have f156 := (f42_4.ext E47)
      have Y53_sz : n0 ≤ h47.size := Y47.sz
      show Gl p e below _ (T53.setTop (mkF m 56 _ [(.ref b47)]))
      refine Gl.astore Y53 rfl (L' := #[.val (.int dd), .val (.int mo), .val (.long vv), .second, .val (.int v8), .val (.int 3), .val (.ref b36), .val (.ref b47), .unset, .unset]) rfl at_56 rfl ?_
      refine Gl.iloadN Y53 rfl at_58 rfl ?_
      refine Gl.iconst Y53 (v := (3 : Int32)) (by decide) at_59 rfl ?_
      obtain ⟨v60, hv60⟩ : ∃ z : Int32, mo &&& (3 : Int32) = z := ⟨_, rfl⟩
      have iv60 : v60.toInt = mo.toInt % 4 := by have q := c_mask mo (3 : Int32) 2 (by decide) (by decide); rw [hv60] at q; exact q
      refine Gl.iand Y53 hv60 at_60 rfl ?_
      refine Gl.istore Y53 (L' := #[.val (.int dd), .val (.int mo), .val (.long vv), .second, .val (.int v8), .val (.int 3), .val (.ref b36), .val (.ref b47), .val (.int v60), .unset]) rfl at_61 rfl ?_
      have cs_v60 : v60 = (0 : Int32) ∨ v60 = (1 : Int32) ∨ v60 = (2 : Int32) ∨ v60 = (3 : Int32) := own_k3 hv60
      rcases cs_v60 with rfl | rfl | rfl | rfl
      · refine Gl.iload Y53 rfl at_63 rfl ?_
        refine Gl.iconst Y53 (v := (3 : Int32)) (by decide) at_65 rfl ?_
        refine Gl.icmpne Y53 at_66 (by decide) rfl rfl (fun c66 => ?_) (fun c66 => ?_)
        rotate_left
        · exact absurd c66 (by decide)
        refine Gl.iload Y53 rfl at_157 rfl ?_
        refine Gl.ifne Y53 at_159 (by decide) rfl rfl (fun c159 => ?_) (fun c159 => ?_)
        · exact absurd c159 (by decide)
        refine Gl.iconst Y53 (v := (0 : Int32)) (by decide) at_162 rfl ?_
        refine Gl.istore Y53 (L' := #[.val (.int dd), .val (.int mo), .val (.long vv), .second, .val (.int v8), .val (.int 3), .val (.ref b36), .val (.ref b47), .val (.int 0), .val (.int 0)]) rfl at_163 rfl ?_
        refine Gl.goto Y53 at_165 (by decide) rfl ?_
        refine Gl.aload Y53 rfl rfl at_214 rfl ?_
        have f157 := (f155.keep K53)
        have f158 := ((Fld.ext E47 f42_2).keep K53 (ninS (Nat.ne_of_lt (Nat.lt_of_lt_of_eq f42_1.lt g47.symm)) nin0))
        have f159 := ((Fld.ext E47 f42_3).keep K53 (ninS (Nat.ne_of_lt (Nat.lt_of_lt_of_eq f42_1.lt g47.symm)) nin0))
        have f160 := (f156.keep K53 (ninS (Nat.ne_of_lt (Nat.lt_of_lt_of_eq f42_4.lt g47.symm)) nin0))
        refine Gl.callV Y53 (tw_68 hw) (tw_37 hw) (tw_39 hw) (tw_39 hw) (tw_38 hw) (tw_3 hw) (tw_40 hw) (by decide) f157 (rmA88 l Z a0 hw [] b36 wa42 ck42 h53 n0 Y53.sz f157 f158 f159 sb36 f160 (Nat.le_trans Y42_sz f42_0) (Nat.ne_of_lt (Nat.lt_of_lt_of_le X36.lt f42_0))) (a := b36) (argsL := []) (rest := []) rfl rfl (lenOf pd_5 rfl) rfl (by decide) (Nat.le_of_ble_eq_true rfl) (by decide) (by decide) at_216 rfl (fun v216 T216 h216 Y216 q216 => ?_)
        obtain ⟨rfl, rfl⟩ := q216
        show Gl p e below _ (T216.setTop (mkF m 219 _ [(.int 0)]))
        refine Gl.iload Y216 rfl at_219 rfl ?_
        refine Gl.icmpne Y216 at_221 (by decide) rfl rfl (fun c221 => ?_) (fun c221 => ?_)
        · exact absurd c221 (by decide)
        refine Gl.iconst Y216 (v := (1 : Int32)) (by decide) at_224 rfl ?_
        refine Gl.goto Y216 at_225 (by decide) rfl ?_
        exact Gl.retZ Y216 (by decide) (by decide) (x' := (1 : Int32)) (by decide) at_229 rfl
      · refine Gl.iload Y53 rfl at_63 rfl ?_
        refine Gl.iconst Y53 (v := (3 : Int32)) (by decide) at_65 rfl ?_
        refine Gl.icmpne Y53 at_66 (by decide) rfl rfl (fun c66 => ?_) (fun c66 => ?_)
        rotate_left
        · exact absurd c66 (by decide)
        refine Gl.iload Y53 rfl at_157 rfl ?_
        refine Gl.ifne Y53 at_159 (by decide) rfl rfl (fun c159 => ?_) (fun c159 => ?_)
        rotate_left
        · exact absurd c159 (by decide)
        by_cases sg_vv : vv < (0 : Int64)
        · have jg_vv : vv.toInt < 0 := Int64.lt_iff_toInt_lt.mp sg_vv
          have hsv := own_sn sg_vv
          refine Gl.aload Y53 rfl rfl at_168 rfl ?_
          refine Gl.lloadN Y53 rfl at_170 rfl ?_
          have f161 := (f155.keep K53)
          have f162 := ((Fld.ext E47 f42_2).keep K53 (ninS (Nat.ne_of_lt (Nat.lt_of_lt_of_eq f42_1.lt g47.symm)) nin0))
          have f163 := (f156.keep K53 (ninS (Nat.ne_of_lt (Nat.lt_of_lt_of_eq f42_4.lt g47.symm)) nin0))
          refine Gl.callV Y53 (tw_18 hw) (tw_19 hw) (tw_21 hw) (tw_21 hw) (tw_20 hw) (tw_3 hw) (tw_22 hw) (by decide) f161 (rm21 l Z a0 hw [] b36 wa42 ck42 (0 : Int64) (0 : Int64) (0 : Int64) vv (-1 : Int64) h53 n0 Y53.sz f161 f162 f163 (Nat.le_trans Y42_sz f42_0) (Nat.ne_of_lt (Nat.lt_of_lt_of_le X36.lt f42_0)) (by first | exact hsv | decide)) (a := b36) (argsL := [(.long vv)]) (rest := []) rfl rfl (lenOf pd_6 rfl) rfl (by decide) (Nat.le_of_ble_eq_true rfl) (by decide) (by decide) at_171 rfl (fun v171 T171 h171 Y171 q171 => ?_)
          obtain ⟨rfl, K171, f171_0⟩ := q171
          show Gl p e below _ (T171.setTop (mkF m 174 _ [(.ref b36)]))
          refine Gl.pop Y171 rfl at_174 rfl ?_
          refine Gl.iload Y171 rfl at_175 rfl ?_
          refine Gl.iconst Y171 (v := (2 : Int32)) (by decide) at_177 rfl ?_
          refine Gl.icmpne Y171 at_178 (by decide) rfl rfl (fun c178 => ?_) (fun c178 => ?_)
          rotate_left
          · exact absurd c178 (by decide)
          refine Gl.iload Y171 rfl at_193 rfl ?_
          refine Gl.iconst Y171 (v := (1 : Int32)) (by decide) at_195 rfl ?_
          refine Gl.icmpne Y171 at_196 (by decide) rfl rfl (fun c196 => ?_) (fun c196 => ?_)
          rotate_left
          · exact absurd c196 (by decide)
          refine Gl.iconst Y171 (v := (0 : Int32)) (by decide) at_211 rfl ?_
          refine Gl.istore Y171 (L' := #[.val (.int dd), .val (.int mo), .val (.long vv), .second, .val (.int v8), .val (.int 3), .val (.ref b36), .val (.ref b47), .val (.int 1), .val (.int 0)]) rfl at_212 rfl ?_
          refine Gl.aload Y171 rfl rfl at_214 rfl ?_
          have f164 := (f161.keep K171)
          have f165 := (f162.keep K171 (ninS (Nat.ne_of_lt (Nat.lt_of_lt_of_le X36.lt f42_0)) nin0))
          have f166 := (((Fld.ext E47 f42_3).keep K53 (ninS (Nat.ne_of_lt (Nat.lt_of_lt_of_eq f42_1.lt g47.symm)) nin0)).keep K171 (ninS (Nat.ne_of_lt (Nat.lt_of_lt_of_le X36.lt f42_0)) nin0))
          refine Gl.callV Y171 (tw_68 hw) (tw_37 hw) (tw_39 hw) (tw_39 hw) (tw_38 hw) (tw_3 hw) (tw_40 hw) (by decide) f164 (rmA89 l Z a0 hw [] b36 wa42 ck42 vv h171 n0 Y171.sz f164 f165 f166 sb36 f171_0 (Nat.le_trans Y42_sz f42_0) (Nat.ne_of_lt (Nat.lt_of_lt_of_le X36.lt f42_0))) (a := b36) (argsL := []) (rest := []) rfl rfl (lenOf pd_5 rfl) rfl (by decide) (Nat.le_of_ble_eq_true rfl) (by decide) (by decide) at_216 rfl (fun v216 T216 h216 Y216 q216 => ?_)
          obtain ⟨rfl, rfl⟩ := q216
          show Gl p e below _ (T216.setTop (mkF m 219 _ [(.int 0)]))
          refine Gl.iload Y216 rfl at_219 rfl ?_
          refine Gl.icmpne Y216 at_221 (by decide) rfl rfl (fun c221 => ?_) (fun c221 => ?_)
          · exact absurd c221 (by decide)
          refine Gl.iconst Y216 (v := (1 : Int32)) (by decide) at_224 rfl ?_
          refine Gl.goto Y216 at_225 (by decide) rfl ?_
          exact Gl.retZ Y216 (by decide) (by decide) (x' := (1 : Int32)) (by decide) at_229 rfl
        · have jg_vv : ¬ (vv.toInt < 0) := fun q => sg_vv (Int64.lt_iff_toInt_lt.mpr q)
          have hsv := own_sp sg_vv
          refine Gl.aload Y53 rfl rfl at_168 rfl ?_
          refine Gl.lloadN Y53 rfl at_170 rfl ?_
          have f167 := (f155.keep K53)
          have f168 := ((Fld.ext E47 f42_2).keep K53 (ninS (Nat.ne_of_lt (Nat.lt_of_lt_of_eq f42_1.lt g47.symm)) nin0))
          have f169 := (f156.keep K53 (ninS (Nat.ne_of_lt (Nat.lt_of_lt_of_eq f42_4.lt g47.symm)) nin0))
          refine Gl.callV Y53 (tw_18 hw) (tw_19 hw) (tw_21 hw) (tw_21 hw) (tw_20 hw) (tw_3 hw) (tw_22 hw) (by decide) f167 (rm21 l Z a0 hw [] b36 wa42 ck42 (0 : Int64) (0 : Int64) (0 : Int64) vv (0 : Int64) h53 n0 Y53.sz f167 f168 f169 (Nat.le_trans Y42_sz f42_0) (Nat.ne_of_lt (Nat.lt_of_lt_of_le X36.lt f42_0)) (by first | exact hsv | decide)) (a := b36) (argsL := [(.long vv)]) (rest := []) rfl rfl (lenOf pd_6 rfl) rfl (by decide) (Nat.le_of_ble_eq_true rfl) (by decide) (by decide) at_171 rfl (fun v171 T171 h171 Y171 q171 => ?_)
          obtain ⟨rfl, K171, f171_0⟩ := q171
          show Gl p e below _ (T171.setTop (mkF m 174 _ [(.ref b36)]))
          refine Gl.pop Y171 rfl at_174 rfl ?_
          refine Gl.iload Y171 rfl at_175 rfl ?_
          refine Gl.iconst Y171 (v := (2 : Int32)) (by decide) at_177 rfl ?_
          refine Gl.icmpne Y171 at_178 (by decide) rfl rfl (fun c178 => ?_) (fun c178 => ?_)
          rotate_left
          · exact absurd c178 (by decide)
          refine Gl.iload Y171 rfl at_193 rfl ?_
          refine Gl.iconst Y171 (v := (1 : Int32)) (by decide) at_195 rfl ?_
          refine Gl.icmpne Y171 at_196 (by decide) rfl rfl (fun c196 => ?_) (fun c196 => ?_)
          rotate_left
          · exact absurd c196 (by decide)
          refine Gl.iconst Y171 (v := (0 : Int32)) (by decide) at_211 rfl ?_
          refine Gl.istore Y171 (L' := #[.val (.int dd), .val (.int mo), .val (.long vv), .second, .val (.int v8), .val (.int 3), .val (.ref b36), .val (.ref b47), .val (.int 1), .val (.int 0)]) rfl at_212 rfl ?_
          refine Gl.aload Y171 rfl rfl at_214 rfl ?_
          have f170 := (f167.keep K171)
          have f171 := (f168.keep K171 (ninS (Nat.ne_of_lt (Nat.lt_of_lt_of_le X36.lt f42_0)) nin0))
          have f172 := (((Fld.ext E47 f42_3).keep K53 (ninS (Nat.ne_of_lt (Nat.lt_of_lt_of_eq f42_1.lt g47.symm)) nin0)).keep K171 (ninS (Nat.ne_of_lt (Nat.lt_of_lt_of_le X36.lt f42_0)) nin0))
          refine Gl.callV Y171 (tw_68 hw) (tw_37 hw) (tw_39 hw) (tw_39 hw) (tw_38 hw) (tw_3 hw) (tw_40 hw) (by decide) f170 (rmA90 l Z a0 hw [] b36 wa42 ck42 vv h171 n0 Y171.sz f170 f171 f172 sb36 f171_0 (Nat.le_trans Y42_sz f42_0) (Nat.ne_of_lt (Nat.lt_of_lt_of_le X36.lt f42_0))) (a := b36) (argsL := []) (rest := []) rfl rfl (lenOf pd_5 rfl) rfl (by decide) (Nat.le_of_ble_eq_true rfl) (by decide) (by decide) at_216 rfl (fun v216 T216 h216 Y216 q216 => ?_)
          obtain ⟨rfl, rfl⟩ := q216
          show Gl p e below _ (T216.setTop (mkF m 219 _ [(.int 0)]))
          refine Gl.iload Y216 rfl at_219 rfl ?_
          refine Gl.icmpne Y216 at_221 (by decide) rfl rfl (fun c221 => ?_) (fun c221 => ?_)
          · exact absurd c221 (by decide)
          refine Gl.iconst Y216 (v := (1 : Int32)) (by decide) at_224 rfl ?_
          refine Gl.goto Y216 at_225 (by decide) rfl ?_
          exact Gl.retZ Y216 (by decide) (by decide) (x' := (1 : Int32)) (by decide) at_229 rfl
      · refine Gl.iload Y53 rfl at_63 rfl ?_
        refine Gl.iconst Y53 (v := (3 : Int32)) (by decide) at_65 rfl ?_
        refine Gl.icmpne Y53 at_66 (by decide) rfl rfl (fun c66 => ?_) (fun c66 => ?_)
        rotate_left
        · exact absurd c66 (by decide)
        refine Gl.iload Y53 rfl at_157 rfl ?_
        refine Gl.ifne Y53 at_159 (by decide) rfl rfl (fun c159 => ?_) (fun c159 => ?_)
        rotate_left
        · exact absurd c159 (by decide)
        by_cases sg_vv : vv < (0 : Int64)
        · have jg_vv : vv.toInt < 0 := Int64.lt_iff_toInt_lt.mp sg_vv
          have hsv := own_sn sg_vv
          refine Gl.aload Y53 rfl rfl at_168 rfl ?_
          refine Gl.lloadN Y53 rfl at_170 rfl ?_
          have f173 := (f155.keep K53)
          have f174 := ((Fld.ext E47 f42_2).keep K53 (ninS (Nat.ne_of_lt (Nat.lt_of_lt_of_eq f42_1.lt g47.symm)) nin0))
          have f175 := (f156.keep K53 (ninS (Nat.ne_of_lt (Nat.lt_of_lt_of_eq f42_4.lt g47.symm)) nin0))
          refine Gl.callV Y53 (tw_18 hw) (tw_19 hw) (tw_21 hw) (tw_21 hw) (tw_20 hw) (tw_3 hw) (tw_22 hw) (by decide) f173 (rm21 l Z a0 hw [] b36 wa42 ck42 (0 : Int64) (0 : Int64) (0 : Int64) vv (-1 : Int64) h53 n0 Y53.sz f173 f174 f175 (Nat.le_trans Y42_sz f42_0) (Nat.ne_of_lt (Nat.lt_of_lt_of_le X36.lt f42_0)) (by first | exact hsv | decide)) (a := b36) (argsL := [(.long vv)]) (rest := []) rfl rfl (lenOf pd_6 rfl) rfl (by decide) (Nat.le_of_ble_eq_true rfl) (by decide) (by decide) at_171 rfl (fun v171 T171 h171 Y171 q171 => ?_)
          obtain ⟨rfl, K171, f171_0⟩ := q171
          show Gl p e below _ (T171.setTop (mkF m 174 _ [(.ref b36)]))
          refine Gl.pop Y171 rfl at_174 rfl ?_
          refine Gl.iload Y171 rfl at_175 rfl ?_
          refine Gl.iconst Y171 (v := (2 : Int32)) (by decide) at_177 rfl ?_
          refine Gl.icmpne Y171 at_178 (by decide) rfl rfl (fun c178 => ?_) (fun c178 => ?_)
          · exact absurd c178 (by decide)
          refine Gl.aload Y171 rfl rfl at_181 rfl ?_
          have f176 := (f173.keep K171)
          have f177 := (f174.keep K171 (ninS (Nat.ne_of_lt (Nat.lt_of_lt_of_le X36.lt f42_0)) nin0))
          refine Gl.callV Y171 (tw_109 hw) (tw_51 hw) (tw_53 hw) (tw_53 hw) (tw_52 hw) (tw_3 hw) (tw_54 hw) (by decide) f176 (rm22 l Z a0 hw [] b36 wa42 ck42 vv (-1 : Int64) (-1 : Int64) h171 n0 Y171.sz f176 f177 f171_0 (Nat.le_trans Y42_sz f42_0) (Nat.ne_of_lt (Nat.lt_of_lt_of_le X36.lt f42_0))) (a := b36) (argsL := []) (rest := []) rfl rfl (lenOf pd_7 rfl) rfl (by decide) (Nat.le_of_ble_eq_true rfl) (by decide) (by decide) at_183 rfl (fun v183 T183 h183 Y183 q183 => ?_)
          obtain ⟨rfl, K183, f183_0⟩ := q183
          show Gl p e below _ (T183.setTop (mkF m 186 _ [(.ref b36)]))
          refine Gl.pop Y183 rfl at_186 rfl ?_
          refine Gl.iconst Y183 (v := (1 : Int32)) (by decide) at_187 rfl ?_
          refine Gl.istore Y183 (L' := #[.val (.int dd), .val (.int mo), .val (.long vv), .second, .val (.int v8), .val (.int 3), .val (.ref b36), .val (.ref b47), .val (.int 2), .val (.int 1)]) rfl at_188 rfl ?_
          refine Gl.goto Y183 at_190 (by decide) rfl ?_
          refine Gl.aload Y183 rfl rfl at_214 rfl ?_
          have f178 := (f176.keep K183)
          have f179 := (f177.keep K183 (ninS (Nat.ne_of_lt (Nat.lt_of_lt_of_le X36.lt f42_0)) nin0))
          have f180 := ((((Fld.ext E47 f42_3).keep K53 (ninS (Nat.ne_of_lt (Nat.lt_of_lt_of_eq f42_1.lt g47.symm)) nin0)).keep K171 (ninS (Nat.ne_of_lt (Nat.lt_of_lt_of_le X36.lt f42_0)) nin0)).keep K183 (ninS (Nat.ne_of_lt (Nat.lt_of_lt_of_le X36.lt f42_0)) nin0))
          refine Gl.callV Y183 (tw_68 hw) (tw_37 hw) (tw_39 hw) (tw_39 hw) (tw_38 hw) (tw_3 hw) (tw_40 hw) (by decide) f178 (rmA91 l Z a0 hw [] b36 wa42 ck42 h183 n0 Y183.sz f178 f179 f180 sb36 f183_0 (Nat.le_trans Y42_sz f42_0) (Nat.ne_of_lt (Nat.lt_of_lt_of_le X36.lt f42_0))) (a := b36) (argsL := []) (rest := []) rfl rfl (lenOf pd_5 rfl) rfl (by decide) (Nat.le_of_ble_eq_true rfl) (by decide) (by decide) at_216 rfl (fun v216 T216 h216 Y216 q216 => ?_)
          obtain ⟨rfl, rfl⟩ := q216
          show Gl p e below _ (T216.setTop (mkF m 219 _ [(.int 1)]))
          refine Gl.iload Y216 rfl at_219 rfl ?_
          refine Gl.icmpne Y216 at_221 (by decide) rfl rfl (fun c221 => ?_) (fun c221 => ?_)
          · exact absurd c221 (by decide)
          refine Gl.iconst Y216 (v := (1 : Int32)) (by decide) at_224 rfl ?_
          refine Gl.goto Y216 at_225 (by decide) rfl ?_
          exact Gl.retZ Y216 (by decide) (by decide) (x' := (1 : Int32)) (by decide) at_229 rfl
        · have jg_vv : ¬ (vv.toInt < 0) := fun q => sg_vv (Int64.lt_iff_toInt_lt.mpr q)
          have hsv := own_sp sg_vv
          refine Gl.aload Y53 rfl rfl at_168 rfl ?_
          refine Gl.lloadN Y53 rfl at_170 rfl ?_
          have f181 := (f155.keep K53)
          have f182 := ((Fld.ext E47 f42_2).keep K53 (ninS (Nat.ne_of_lt (Nat.lt_of_lt_of_eq f42_1.lt g47.symm)) nin0))
          have f183 := (f156.keep K53 (ninS (Nat.ne_of_lt (Nat.lt_of_lt_of_eq f42_4.lt g47.symm)) nin0))
          refine Gl.callV Y53 (tw_18 hw) (tw_19 hw) (tw_21 hw) (tw_21 hw) (tw_20 hw) (tw_3 hw) (tw_22 hw) (by decide) f181 (rm21 l Z a0 hw [] b36 wa42 ck42 (0 : Int64) (0 : Int64) (0 : Int64) vv (0 : Int64) h53 n0 Y53.sz f181 f182 f183 (Nat.le_trans Y42_sz f42_0) (Nat.ne_of_lt (Nat.lt_of_lt_of_le X36.lt f42_0)) (by first | exact hsv | decide)) (a := b36) (argsL := [(.long vv)]) (rest := []) rfl rfl (lenOf pd_6 rfl) rfl (by decide) (Nat.le_of_ble_eq_true rfl) (by decide) (by decide) at_171 rfl (fun v171 T171 h171 Y171 q171 => ?_)
          obtain ⟨rfl, K171, f171_0⟩ := q171
          show Gl p e below _ (T171.setTop (mkF m 174 _ [(.ref b36)]))
          refine Gl.pop Y171 rfl at_174 rfl ?_
          refine Gl.iload Y171 rfl at_175 rfl ?_
          refine Gl.iconst Y171 (v := (2 : Int32)) (by decide) at_177 rfl ?_
          refine Gl.icmpne Y171 at_178 (by decide) rfl rfl (fun c178 => ?_) (fun c178 => ?_)
          · exact absurd c178 (by decide)
          refine Gl.aload Y171 rfl rfl at_181 rfl ?_
          have f184 := (f181.keep K171)
          have f185 := (f182.keep K171 (ninS (Nat.ne_of_lt (Nat.lt_of_lt_of_le X36.lt f42_0)) nin0))
          refine Gl.callV Y171 (tw_109 hw) (tw_51 hw) (tw_53 hw) (tw_53 hw) (tw_52 hw) (tw_3 hw) (tw_54 hw) (by decide) f184 (rm22 l Z a0 hw [] b36 wa42 ck42 vv (0 : Int64) (0 : Int64) h171 n0 Y171.sz f184 f185 f171_0 (Nat.le_trans Y42_sz f42_0) (Nat.ne_of_lt (Nat.lt_of_lt_of_le X36.lt f42_0))) (a := b36) (argsL := []) (rest := []) rfl rfl (lenOf pd_7 rfl) rfl (by decide) (Nat.le_of_ble_eq_true rfl) (by decide) (by decide) at_183 rfl (fun v183 T183 h183 Y183 q183 => ?_)
          obtain ⟨rfl, K183, f183_0⟩ := q183
          show Gl p e below _ (T183.setTop (mkF m 186 _ [(.ref b36)]))
          refine Gl.pop Y183 rfl at_186 rfl ?_
          refine Gl.iconst Y183 (v := (1 : Int32)) (by decide) at_187 rfl ?_
          refine Gl.istore Y183 (L' := #[.val (.int dd), .val (.int mo), .val (.long vv), .second, .val (.int v8), .val (.int 3), .val (.ref b36), .val (.ref b47), .val (.int 2), .val (.int 1)]) rfl at_188 rfl ?_
          refine Gl.goto Y183 at_190 (by decide) rfl ?_
          refine Gl.aload Y183 rfl rfl at_214 rfl ?_
          have f186 := (f184.keep K183)
          have f187 := (f185.keep K183 (ninS (Nat.ne_of_lt (Nat.lt_of_lt_of_le X36.lt f42_0)) nin0))
          have f188 := ((((Fld.ext E47 f42_3).keep K53 (ninS (Nat.ne_of_lt (Nat.lt_of_lt_of_eq f42_1.lt g47.symm)) nin0)).keep K171 (ninS (Nat.ne_of_lt (Nat.lt_of_lt_of_le X36.lt f42_0)) nin0)).keep K183 (ninS (Nat.ne_of_lt (Nat.lt_of_lt_of_le X36.lt f42_0)) nin0))
          refine Gl.callV Y183 (tw_68 hw) (tw_37 hw) (tw_39 hw) (tw_39 hw) (tw_38 hw) (tw_3 hw) (tw_40 hw) (by decide) f186 (rmA91 l Z a0 hw [] b36 wa42 ck42 h183 n0 Y183.sz f186 f187 f188 sb36 f183_0 (Nat.le_trans Y42_sz f42_0) (Nat.ne_of_lt (Nat.lt_of_lt_of_le X36.lt f42_0))) (a := b36) (argsL := []) (rest := []) rfl rfl (lenOf pd_5 rfl) rfl (by decide) (Nat.le_of_ble_eq_true rfl) (by decide) (by decide) at_216 rfl (fun v216 T216 h216 Y216 q216 => ?_)
          obtain ⟨rfl, rfl⟩ := q216
          show Gl p e below _ (T216.setTop (mkF m 219 _ [(.int 1)]))
          refine Gl.iload Y216 rfl at_219 rfl ?_
          refine Gl.icmpne Y216 at_221 (by decide) rfl rfl (fun c221 => ?_) (fun c221 => ?_)
          · exact absurd c221 (by decide)
          refine Gl.iconst Y216 (v := (1 : Int32)) (by decide) at_224 rfl ?_
          refine Gl.goto Y216 at_225 (by decide) rfl ?_
          exact Gl.retZ Y216 (by decide) (by decide) (x' := (1 : Int32)) (by decide) at_229 rfl
      · refine Gl.iload Y53 rfl at_63 rfl ?_
        refine Gl.iconst Y53 (v := (3 : Int32)) (by decide) at_65 rfl ?_
        refine Gl.icmpne Y53 at_66 (by decide) rfl rfl (fun c66 => ?_) (fun c66 => ?_)
        · exact absurd c66 (by decide)
        refine Gl.aload Y53 rfl rfl at_69 rfl ?_
        refine Gl.ldcJ Y53 (tw_17 hw) at_71 rfl ?_
        have f189 := (f155.keep K53)
        have f190 := ((Fld.ext E47 f42_2).keep K53 (ninS (Nat.ne_of_lt (Nat.lt_of_lt_of_eq f42_1.lt g47.symm)) nin0))
        have f191 := (f156.keep K53 (ninS (Nat.ne_of_lt (Nat.lt_of_lt_of_eq f42_4.lt g47.symm)) nin0))
        refine Gl.callV Y53 (tw_18 hw) (tw_19 hw) (tw_21 hw) (tw_21 hw) (tw_20 hw) (tw_3 hw) (tw_22 hw) (by decide) f189 (rm21 l Z a0 hw [] b36 wa42 ck42 (0 : Int64) (0 : Int64) (0 : Int64) (-9223372036854775808 : Int64) (-1 : Int64) h53 n0 Y53.sz f189 f190 f191 (Nat.le_trans Y42_sz f42_0) (Nat.ne_of_lt (Nat.lt_of_lt_of_le X36.lt f42_0)) (by first | exact hsv | decide)) (a := b36) (argsL := [(.long (-9223372036854775808))]) (rest := []) rfl rfl (lenOf pd_6 rfl) rfl (by decide) (Nat.le_of_ble_eq_true rfl) (by decide) (by decide) at_74 rfl (fun v74 T74 h74 Y74 q74 => ?_)
        obtain ⟨rfl, K74, f74_0⟩ := q74
        show Gl p e below _ (T74.setTop (mkF m 77 _ [(.ref b36)]))
        refine Gl.pop Y74 rfl at_77 rfl ?_
        refine Gl.aload Y74 rfl rfl at_78 rfl ?_
        refine Gl.ldcJ Y74 (tw_30 hw) at_80 rfl ?_
        have f192 := (f53_1.keep K74)
        have f193 := (f53_2.keep K74 (ninS (Ne.symm (Nat.ne_of_lt (Nat.lt_of_lt_of_eq f42_4.lt g47.symm))) nin0))
        have f194 := (f53_4.keep K74 (ninS (Ne.symm (Nat.ne_of_lt (Nat.lt_of_lt_of_le f156.lt f53_0))) nin0))
        refine Gl.callV Y74 (tw_18 hw) (tw_19 hw) (tw_21 hw) (tw_21 hw) (tw_20 hw) (tw_3 hw) (tw_22 hw) (by decide) f192 (rm21 l Z a0 hw [] b47 wa53 ck53 (0 : Int64) (0 : Int64) (0 : Int64) (3 : Int64) (0 : Int64) h74 n0 Y74.sz f192 f193 f194 (Nat.le_trans Y53_sz f53_0) (Nat.ne_of_lt (Nat.lt_of_lt_of_le X47.lt f53_0)) (by first | exact hsv | decide)) (a := b47) (argsL := [(.long 3)]) (rest := []) rfl rfl (lenOf pd_6 rfl) rfl (by decide) (Nat.le_of_ble_eq_true rfl) (by decide) (by decide) at_83 rfl (fun v83 T83 h83 Y83 q83 => ?_)
        obtain ⟨rfl, K83, f83_0⟩ := q83
        show Gl p e below _ (T83.setTop (mkF m 86 _ [(.ref b47)]))
        refine Gl.pop Y83 rfl at_86 rfl ?_
        refine Gl.aload Y83 rfl rfl at_87 rfl ?_
        refine Gl.aload Y83 rfl rfl at_89 rfl ?_
        have f195 := ((f189.keep K74).keep K83)
        have f196 := ((f190.keep K74 (ninS (Nat.ne_of_lt (Nat.lt_of_lt_of_le X36.lt f42_0)) nin0)).keep K83 (ninS (Nat.ne_of_lt (Nat.lt_of_lt_of_le f155.lt f53_0)) nin0))
        have f197 := ((((Fld.ext E47 f42_3).keep K53 (ninS (Nat.ne_of_lt (Nat.lt_of_lt_of_eq f42_1.lt g47.symm)) nin0)).keep K74 (ninS (Nat.ne_of_lt (Nat.lt_of_lt_of_le X36.lt f42_0)) nin0)).keep K83 (ninS (Nat.ne_of_lt (Nat.lt_of_lt_of_le f155.lt f53_0)) nin0))
        have f198 := (f192.keep K83)
        have f199 := (f193.keep K83 (ninS (Nat.ne_of_lt (Nat.lt_of_lt_of_le X47.lt f53_0)) nin0))
        have f200 := ((f53_3.keep K74 (ninS (Ne.symm (Nat.ne_of_lt (Nat.lt_of_lt_of_eq f42_4.lt g47.symm))) nin0)).keep K83 (ninS (Nat.ne_of_lt (Nat.lt_of_lt_of_le X47.lt f53_0)) nin0))
        have f201 := (f74_0.keep K83 (ninS (Nat.ne_of_lt (Nat.lt_of_lt_of_le f156.lt f53_0)) nin0))
        refine Gl.callV Y83 (tw_31 hw) (tw_32 hw) (tw_34 hw) (tw_34 hw) (tw_33 hw) (tw_3 hw) (tw_35 hw) (by decide) f195 (rmA93 l Z a0 hw [] b36 b47 wa42 wa53 ck42 ck53 h83 n0 Y83.sz f195 f196 f197 sb36 f198 f199 f200 sb47 f201 (Nat.le_trans Y42_sz f42_0) f83_0 (Nat.le_trans Y53_sz f53_0) (Nat.ne_of_lt (Nat.lt_of_lt_of_eq f42_1.lt g47.symm)) (Nat.ne_of_lt (Nat.lt_of_lt_of_le X36.lt f42_0)) (Nat.ne_of_lt (Nat.lt_of_lt_of_le f155.lt f53_0)) (Ne.symm (Nat.ne_of_lt (Nat.lt_of_lt_of_eq f42_4.lt g47.symm))) (Nat.ne_of_lt (Nat.lt_of_lt_of_le X47.lt f53_0)) (Nat.ne_of_lt (Nat.lt_of_lt_of_le f156.lt f53_0))) (a := b36) (argsL := [(.ref b47)]) (rest := []) rfl rfl (lenOf pd_8 rfl) rfl (by decide) (Nat.le_of_ble_eq_true rfl) (by decide) (by decide) at_91 rfl (fun v91 T91 h91 Y91 q91 => ?_)
        obtain ⟨b172991, ck172991, rfl, K91, f91_0, f91_1, f91_2, f91_3, f91_4, f91_5, f91_6, f91_7, f91_8, f91_9⟩ := q91
        have Y91_sz : n0 ≤ h83.size := Y83.sz
        show Gl p e below _ (T91.setTop (mkF m 94 _ [(.ref b36)]))
        refine Gl.pop Y91 rfl at_94 rfl ?_
        refine Gl.aload Y91 rfl rfl at_95 rfl ?_
        refine Gl.ldcJ Y91 (tw_58 hw) at_97 rfl ?_
        refine Gl.callV Y91 (tw_18 hw) (tw_19 hw) (tw_21 hw) (tw_21 hw) (tw_20 hw) (tw_3 hw) (tw_22 hw) (by decide) f91_2 (rm21 l Z a0 hw [] b47 wa53 ck53 (3 : Int64) (0 : Int64) (0 : Int64) (6148914691236517205 : Int64) (0 : Int64) h91 n0 Y91.sz f91_2 f91_5 f91_9 (Nat.le_trans Y53_sz f53_0) (Nat.ne_of_lt (Nat.lt_of_lt_of_le X47.lt f53_0)) (by first | exact hsv | decide)) (a := b47) (argsL := [(.long 6148914691236517205)]) (rest := []) rfl rfl (lenOf pd_6 rfl) rfl (by decide) (Nat.le_of_ble_eq_true rfl) (by decide) (by decide) at_100 rfl (fun v100 T100 h100 Y100 q100 => ?_)
        obtain ⟨rfl, K100, f100_0⟩ := q100
        show Gl p e below _ (T100.setTop (mkF m 103 _ [(.ref b47)]))
        refine Gl.pop Y100 rfl at_103 rfl ?_
        refine Gl.aload Y100 rfl rfl at_104 rfl ?_
        refine Gl.aload Y100 rfl rfl at_106 rfl ?_
        have f202 := (f91_1.keep K100)
        have f203 := (f91_3.keep K100 (ninS (Nat.ne_of_lt (Nat.lt_of_lt_of_le f155.lt f53_0)) nin0))
        have f204 := (f91_4.keep K100 (ninS (Nat.ne_of_lt (Nat.lt_of_lt_of_le f155.lt f53_0)) nin0))
        have f205 := (f91_2.keep K100)
        have f206 := (f91_5.keep K100 (ninS (Nat.ne_of_lt (Nat.lt_of_lt_of_le X47.lt f53_0)) nin0))
        have f207 := (f91_6.keep K100 (ninS (Nat.ne_of_lt (Nat.lt_of_lt_of_le X47.lt f53_0)) nin0))
        have f208 := (f91_8.keep K100 (ninS (Nat.ne_of_lt (Nat.lt_of_lt_of_le f156.lt f53_0)) nin0))
        have f209 := (f91_7.keep K100 (ninS (Ne.symm (Nat.ne_of_lt (Nat.lt_of_lt_of_le f83_0.lt f91_0))) nin0))
        refine Gl.callV Y100 (tw_31 hw) (tw_32 hw) (tw_34 hw) (tw_34 hw) (tw_33 hw) (tw_3 hw) (tw_35 hw) (by decide) f202 (rmA103 l Z a0 hw [] b36 b47 wa42 b172991 wa53 ck42 ck172991 ck53 h100 n0 Y100.sz f202 f203 f204 sb36 f205 f206 f207 sb47 f208 (Nat.le_trans Y42_sz f42_0) f209 (Nat.le_trans Y91_sz f91_0) f100_0 (Nat.le_trans Y53_sz f53_0) (Nat.ne_of_lt (Nat.lt_of_lt_of_eq f42_1.lt g47.symm)) (Nat.ne_of_lt (Nat.lt_of_lt_of_le X36.lt f42_0)) (Nat.ne_of_lt (Nat.lt_of_lt_of_le f195.lt f91_0)) (Nat.ne_of_lt (Nat.lt_of_lt_of_le f155.lt f53_0)) (Ne.symm (Nat.ne_of_lt (Nat.lt_of_lt_of_eq f42_4.lt g47.symm))) (Nat.ne_of_lt (Nat.lt_of_lt_of_le f198.lt f91_0)) (Nat.ne_of_lt (Nat.lt_of_lt_of_le X47.lt f53_0)) (Nat.ne_of_lt (Nat.lt_of_lt_of_le f201.lt f91_0)) (Nat.ne_of_lt (Nat.lt_of_lt_of_le f156.lt f53_0)) (Ne.symm (Nat.ne_of_lt (Nat.lt_of_lt_of_le f83_0.lt f91_0)))) (a := b36) (argsL := [(.ref b47)]) (rest := []) rfl rfl (lenOf pd_8 rfl) rfl (by decide) (Nat.le_of_ble_eq_true rfl) (by decide) (by decide) at_108 rfl (fun v108 T108 h108 Y108 q108 => ?_)
        obtain ⟨rfl, K108, f108_0, f108_1, f108_2, f108_3, f108_4, f108_5, f108_6, f108_7, f108_8⟩ := q108
        show Gl p e below _ (T108.setTop (mkF m 111 _ [(.ref b36)]))
        refine Gl.pop Y108 rfl at_111 rfl ?_
        by_cases sg_vv : vv < (0 : Int64)
        · have jg_vv : vv.toInt < 0 := Int64.lt_iff_toInt_lt.mp sg_vv
          have hsv := own_sn sg_vv
          refine Gl.aload Y108 rfl rfl at_112 rfl ?_
          refine Gl.lloadN Y108 rfl at_114 rfl ?_
          refine Gl.callV Y108 (tw_18 hw) (tw_19 hw) (tw_21 hw) (tw_21 hw) (tw_20 hw) (tw_3 hw) (tw_22 hw) (by decide) f108_1 (rm21 l Z a0 hw [] b47 wa53 ck53 (6148914691236517205 : Int64) (0 : Int64) (0 : Int64) vv (-1 : Int64) h108 n0 Y108.sz f108_1 f108_4 f108_8 (Nat.le_trans Y53_sz f53_0) (Nat.ne_of_lt (Nat.lt_of_lt_of_le X47.lt f53_0)) (by first | exact hsv | decide)) (a := b47) (argsL := [(.long vv)]) (rest := []) rfl rfl (lenOf pd_6 rfl) rfl (by decide) (Nat.le_of_ble_eq_true rfl) (by decide) (by decide) at_115 rfl (fun v115 T115 h115 Y115 q115 => ?_)
          obtain ⟨rfl, K115, f115_0⟩ := q115
          show Gl p e below _ (T115.setTop (mkF m 118 _ [(.ref b47)]))
          refine Gl.pop Y115 rfl at_118 rfl ?_
          refine Gl.aload Y115 rfl rfl at_119 rfl ?_
          refine Gl.aload Y115 rfl rfl at_121 rfl ?_
          obtain ⟨v123s, hv123s⟩ : ∃ z : Int64, vv ^^^ (0 : Int64) = z := ⟨_, rfl⟩
          have iv123s : v123s.toInt = vv.toInt := by rw [← hv123s, Int64.xor_zero]
          obtain ⟨v123s_2, hv123s_2⟩ : ∃ z : Int64, (-9223372036854775808 : Int64) &&& v123s = z := ⟨_, rfl⟩
          have sv123s_2 := c_andSL (-9223372036854775808 : Int64) v123s
          rw [hv123s_2] at sv123s_2
          have nv123s_2 := rng64 v123s_2
          try simp only [Int64.reduceToInt] at sv123s_2
          obtain ⟨v123s_3, hv123s_3⟩ : ∃ z : Int64, (-9223372036854775808 : Int64) ||| v123s = z := ⟨_, rfl⟩
          have sv123s_3 := c_orSL (-9223372036854775808 : Int64) v123s
          rw [hv123s_3] at sv123s_3
          have nv123s_3 := rng64 v123s_3
          try simp only [Int64.reduceToInt] at sv123s_3
          obtain ⟨v123s_4, hv123s_4⟩ : ∃ z : Int64, (-9223372036854775808 : Int64) + v123s = z := ⟨_, rfl⟩
          have mv123s_4 : (v123s_4.toInt - ((-9223372036854775808) + v123s.toInt)) % 18446744073709551616 = 0 := by have q := c_ladd (-9223372036854775808 : Int64) v123s; rw [hv123s_4] at q; exact q
          have nv123s_4 := rng64 v123s_4
          obtain ⟨v123s_5, hv123s_5⟩ : ∃ z : Int64, v123s_4 + (0 : Int64) = z := ⟨_, rfl⟩
          have iv123s_5 : v123s_5.toInt = v123s_4.toInt + 0 := by
            have q : (v123s_5.toInt - (v123s_4.toInt + 0)) % 18446744073709551616 = 0 := by have q := c_ladd v123s_4 (0 : Int64); rw [hv123s_5] at q; exact q
            have r := rng64 v123s_5
            omega
          obtain ⟨v123s_6, hv123s_6⟩ : ∃ z : Int64, v123s_5 ^^^ (-1 : Int64) = z := ⟨_, rfl⟩
          have iv123s_6 : v123s_6.toInt = -v123s_5.toInt - 1 := by rw [← hv123s_6]; exact own_not64 v123s_5
          obtain ⟨v123s_7, hv123s_7⟩ : ∃ z : Int64, v123s_3 &&& v123s_6 = z := ⟨_, rfl⟩
          have sv123s_7 := c_andSL v123s_3 v123s_6
          rw [hv123s_7] at sv123s_7
          have nv123s_7 := rng64 v123s_7
          obtain ⟨v123s_8, hv123s_8⟩ : ∃ z : Int64, v123s_2 ||| v123s_7 = z := ⟨_, rfl⟩
          have sv123s_8 := c_orSL v123s_2 v123s_7
          rw [hv123s_8] at sv123s_8
          have nv123s_8 := rng64 v123s_8
          obtain ⟨v123s_9, hv123s_9⟩ : ∃ z : Int64, (v123s_8.toUInt64 >>> ((63 : Int32) &&& 0x3f).toInt64.toUInt64).toInt64 = z := ⟨_, rfl⟩
          have iv123s_9 : v123s_9.toInt = (v123s_8.toInt % 18446744073709551616) / 9223372036854775808 := by have q := c_lushr v123s_8 (63 : Int32) 63 (by decide) (by decide); rw [hv123s_9] at q; exact q
          obtain rfl : v123s_9 = (1 : Int64) := Int64.toInt_inj.mp (by simp only [Int64.reduceToInt]; omega)
          have f210 := (f108_0.keep K115)
          have f211 := (f108_2.keep K115 (ninS (Nat.ne_of_lt (Nat.lt_of_lt_of_le f155.lt f53_0)) nin0))
          have f212 := (f108_3.keep K115 (ninS (Nat.ne_of_lt (Nat.lt_of_lt_of_le f155.lt f53_0)) nin0))
          have f213 := (f108_1.keep K115)
          have f214 := (f108_4.keep K115 (ninS (Nat.ne_of_lt (Nat.lt_of_lt_of_le X47.lt f53_0)) nin0))
          have f215 := (f108_5.keep K115 (ninS (Nat.ne_of_lt (Nat.lt_of_lt_of_le X47.lt f53_0)) nin0))
          have f216 := (f108_6.keep K115 (ninS (Nat.ne_of_lt (Nat.lt_of_lt_of_le f156.lt f53_0)) nin0))
          have f217 := (f108_7.keep K115 (ninS (Ne.symm (Nat.ne_of_lt (Nat.lt_of_lt_of_le f83_0.lt f91_0))) nin0))
          refine Gl.callV Y115 (tw_59 hw) (tw_60 hw) (tw_62 hw) (tw_62 hw) (tw_61 hw) (tw_3 hw) (tw_63 hw) (by decide) f210 (rmA116 l Z a0 hw [] b36 b47 wa42 b172991 wa53 ck42 ck172991 ck53 vv v123s v123s_4 v123s_5 v123s_2 v123s_3 v123s_6 v123s_7 v123s_8 h115 n0 Y115.sz f210 f211 f212 sb36 f213 f214 f215 sb47 f216 (Nat.le_trans Y42_sz f42_0) f217 (Nat.le_trans Y91_sz f91_0) f115_0 (Nat.le_trans Y53_sz f53_0) (Nat.ne_of_lt (Nat.lt_of_lt_of_eq f42_1.lt g47.symm)) (Nat.ne_of_lt (Nat.lt_of_lt_of_le X36.lt f42_0)) (Nat.ne_of_lt (Nat.lt_of_lt_of_le f195.lt f91_0)) (Nat.ne_of_lt (Nat.lt_of_lt_of_le f155.lt f53_0)) (Ne.symm (Nat.ne_of_lt (Nat.lt_of_lt_of_eq f42_4.lt g47.symm))) (Nat.ne_of_lt (Nat.lt_of_lt_of_le f198.lt f91_0)) (Nat.ne_of_lt (Nat.lt_of_lt_of_le X47.lt f53_0)) (Nat.ne_of_lt (Nat.lt_of_lt_of_le f201.lt f91_0)) (Nat.ne_of_lt (Nat.lt_of_lt_of_le f156.lt f53_0)) (Ne.symm (Nat.ne_of_lt (Nat.lt_of_lt_of_le f83_0.lt f91_0))) hv123s hv123s_4 hv123s_5 hv123s_2 hv123s_3 hv123s_6 hv123s_7 hv123s_8 hv123s_9) (a := b36) (argsL := [(.ref b47)]) (rest := []) rfl rfl (lenOf pd_8 rfl) rfl (by decide) (Nat.le_of_ble_eq_true rfl) (by decide) (by decide) at_123 rfl (fun v123 T123 h123 Y123 q123 => ?_)
          obtain ⟨rfl, K123, f123_0, f123_1, f123_2, f123_3, f123_4, f123_5, f123_6, f123_7, f123_8⟩ := q123
          show Gl p e below _ (T123.setTop (mkF m 126 _ [(.ref b36)]))
          refine Gl.pop Y123 rfl at_126 rfl ?_
          refine Gl.iload Y123 rfl at_127 rfl ?_
          refine Gl.iconst Y123 (v := (1 : Int32)) (by decide) at_129 rfl ?_
          refine Gl.icmpeq Y123 at_130 (by decide) rfl rfl (fun c130 => ?_) (fun c130 => ?_)
          · exact absurd c130 (by decide)
          refine Gl.iload Y123 rfl at_133 rfl ?_
          refine Gl.iconst Y123 (v := (2 : Int32)) (by decide) at_135 rfl ?_
          refine Gl.icmpne Y123 at_136 (by decide) rfl rfl (fun c136 => ?_) (fun c136 => ?_)
          rotate_left
          · exact absurd c136 (by decide)
          refine Gl.iconst Y123 (v := (0 : Int32)) (by decide) at_151 rfl ?_
          refine Gl.istore Y123 (L' := #[.val (.int dd), .val (.int mo), .val (.long vv), .second, .val (.int v8), .val (.int 3), .val (.ref b36), .val (.ref b47), .val (.int 3), .val (.int 0)]) rfl at_152 rfl ?_
          refine Gl.goto Y123 at_154 (by decide) rfl ?_
          refine Gl.aload Y123 rfl rfl at_214 rfl ?_
          refine Gl.callV Y123 (tw_68 hw) (tw_37 hw) (tw_39 hw) (tw_39 hw) (tw_38 hw) (tw_3 hw) (tw_40 hw) (by decide) f123_0 (rmA118 l Z a0 hw [] b36 wa42 b172991 ck42 v123s_5 ck172991 h123 n0 Y123.sz f123_0 f123_2 f123_3 sb36 f123_6 (Nat.le_trans Y42_sz f42_0) f123_7 (Nat.le_trans Y91_sz f91_0) (Nat.ne_of_lt (Nat.lt_of_lt_of_le X36.lt f42_0)) (Nat.ne_of_lt (Nat.lt_of_lt_of_le f195.lt f91_0)) (Nat.ne_of_lt (Nat.lt_of_lt_of_le f201.lt f91_0))) (a := b36) (argsL := []) (rest := []) rfl rfl (lenOf pd_5 rfl) rfl (by decide) (Nat.le_of_ble_eq_true rfl) (by decide) (by decide) at_216 rfl (fun v216 T216 h216 Y216 q216 => ?_)
          obtain ⟨rfl, rfl⟩ := q216
          show Gl p e below _ (T216.setTop (mkF m 219 _ [(.int 0)]))
          refine Gl.iload Y216 rfl at_219 rfl ?_
          refine Gl.icmpne Y216 at_221 (by decide) rfl rfl (fun c221 => ?_) (fun c221 => ?_)
          · exact absurd c221 (by decide)
          refine Gl.iconst Y216 (v := (1 : Int32)) (by decide) at_224 rfl ?_
          refine Gl.goto Y216 at_225 (by decide) rfl ?_
          exact Gl.retZ Y216 (by decide) (by decide) (x' := (1 : Int32)) (by decide) at_229 rfl
        · have jg_vv : ¬ (vv.toInt < 0) := fun q => sg_vv (Int64.lt_iff_toInt_lt.mpr q)
          have hsv := own_sp sg_vv
          refine Gl.aload Y108 rfl rfl at_112 rfl ?_
          refine Gl.lloadN Y108 rfl at_114 rfl ?_
          refine Gl.callV Y108 (tw_18 hw) (tw_19 hw) (tw_21 hw) (tw_21 hw) (tw_20 hw) (tw_3 hw) (tw_22 hw) (by decide) f108_1 (rm21 l Z a0 hw [] b47 wa53 ck53 (6148914691236517205 : Int64) (0 : Int64) (0 : Int64) vv (0 : Int64) h108 n0 Y108.sz f108_1 f108_4 f108_8 (Nat.le_trans Y53_sz f53_0) (Nat.ne_of_lt (Nat.lt_of_lt_of_le X47.lt f53_0)) (by first | exact hsv | decide)) (a := b47) (argsL := [(.long vv)]) (rest := []) rfl rfl (lenOf pd_6 rfl) rfl (by decide) (Nat.le_of_ble_eq_true rfl) (by decide) (by decide) at_115 rfl (fun v115 T115 h115 Y115 q115 => ?_)
          obtain ⟨rfl, K115, f115_0⟩ := q115
          show Gl p e below _ (T115.setTop (mkF m 118 _ [(.ref b47)]))
          refine Gl.pop Y115 rfl at_118 rfl ?_
          refine Gl.aload Y115 rfl rfl at_119 rfl ?_
          refine Gl.aload Y115 rfl rfl at_121 rfl ?_
          obtain ⟨v123s, hv123s⟩ : ∃ z : Int64, vv ^^^ (0 : Int64) = z := ⟨_, rfl⟩
          have iv123s : v123s.toInt = vv.toInt := by rw [← hv123s, Int64.xor_zero]
          obtain ⟨v123s_2, hv123s_2⟩ : ∃ z : Int64, (-9223372036854775808 : Int64) &&& v123s = z := ⟨_, rfl⟩
          have sv123s_2 := c_andSL (-9223372036854775808 : Int64) v123s
          rw [hv123s_2] at sv123s_2
          have nv123s_2 := rng64 v123s_2
          try simp only [Int64.reduceToInt] at sv123s_2
          obtain ⟨v123s_3, hv123s_3⟩ : ∃ z : Int64, (-9223372036854775808 : Int64) ||| v123s = z := ⟨_, rfl⟩
          have sv123s_3 := c_orSL (-9223372036854775808 : Int64) v123s
          rw [hv123s_3] at sv123s_3
          have nv123s_3 := rng64 v123s_3
          try simp only [Int64.reduceToInt] at sv123s_3
          obtain ⟨v123s_4, hv123s_4⟩ : ∃ z : Int64, (-9223372036854775808 : Int64) + v123s = z := ⟨_, rfl⟩
          have iv123s_4 : v123s_4.toInt = (-9223372036854775808) + v123s.toInt := by
            have q : (v123s_4.toInt - ((-9223372036854775808) + v123s.toInt)) % 18446744073709551616 = 0 := by have q := c_ladd (-9223372036854775808 : Int64) v123s; rw [hv123s_4] at q; exact q
            have r := rng64 v123s_4
            omega
          obtain ⟨v123s_5, hv123s_5⟩ : ∃ z : Int64, v123s_4 + (0 : Int64) = z := ⟨_, rfl⟩
          have iv123s_5 : v123s_5.toInt = v123s_4.toInt + 0 := by
            have q : (v123s_5.toInt - (v123s_4.toInt + 0)) % 18446744073709551616 = 0 := by have q := c_ladd v123s_4 (0 : Int64); rw [hv123s_5] at q; exact q
            have r := rng64 v123s_5
            omega
          obtain ⟨v123s_6, hv123s_6⟩ : ∃ z : Int64, v123s_5 ^^^ (-1 : Int64) = z := ⟨_, rfl⟩
          have iv123s_6 : v123s_6.toInt = -v123s_5.toInt - 1 := by rw [← hv123s_6]; exact own_not64 v123s_5
          obtain ⟨v123s_7, hv123s_7⟩ : ∃ z : Int64, v123s_3 &&& v123s_6 = z := ⟨_, rfl⟩
          have sv123s_7 := c_andSL v123s_3 v123s_6
          rw [hv123s_7] at sv123s_7
          have nv123s_7 := rng64 v123s_7
          obtain ⟨v123s_8, hv123s_8⟩ : ∃ z : Int64, v123s_2 ||| v123s_7 = z := ⟨_, rfl⟩
          have sv123s_8 := c_orSL v123s_2 v123s_7
          rw [hv123s_8] at sv123s_8
          have nv123s_8 := rng64 v123s_8
          obtain ⟨v123s_9, hv123s_9⟩ : ∃ z : Int64, (v123s_8.toUInt64 >>> ((63 : Int32) &&& 0x3f).toInt64.toUInt64).toInt64 = z := ⟨_, rfl⟩
          have iv123s_9 : v123s_9.toInt = (v123s_8.toInt % 18446744073709551616) / 9223372036854775808 := by have q := c_lushr v123s_8 (63 : Int32) 63 (by decide) (by decide); rw [hv123s_9] at q; exact q
          obtain rfl : v123s_9 = (0 : Int64) := Int64.toInt_inj.mp (by simp only [Int64.reduceToInt]; omega)
          have f218 := (f108_0.keep K115)
          have f219 := (f108_2.keep K115 (ninS (Nat.ne_of_lt (Nat.lt_of_lt_of_le f155.lt f53_0)) nin0))
          have f220 := (f108_3.keep K115 (ninS (Nat.ne_of_lt (Nat.lt_of_lt_of_le f155.lt f53_0)) nin0))
          have f221 := (f108_1.keep K115)
          have f222 := (f108_4.keep K115 (ninS (Nat.ne_of_lt (Nat.lt_of_lt_of_le X47.lt f53_0)) nin0))
          have f223 := (f108_5.keep K115 (ninS (Nat.ne_of_lt (Nat.lt_of_lt_of_le X47.lt f53_0)) nin0))
          have f224 := (f108_6.keep K115 (ninS (Nat.ne_of_lt (Nat.lt_of_lt_of_le f156.lt f53_0)) nin0))
          have f225 := (f108_7.keep K115 (ninS (Ne.symm (Nat.ne_of_lt (Nat.lt_of_lt_of_le f83_0.lt f91_0))) nin0))
          refine Gl.callV Y115 (tw_59 hw) (tw_60 hw) (tw_62 hw) (tw_62 hw) (tw_61 hw) (tw_3 hw) (tw_63 hw) (by decide) f218 (rmA121 l Z a0 hw [] b36 b47 wa42 b172991 wa53 ck42 ck172991 ck53 vv v123s v123s_4 v123s_5 v123s_2 v123s_3 v123s_6 v123s_7 v123s_8 h115 n0 Y115.sz f218 f219 f220 sb36 f221 f222 f223 sb47 f224 (Nat.le_trans Y42_sz f42_0) f225 (Nat.le_trans Y91_sz f91_0) f115_0 (Nat.le_trans Y53_sz f53_0) (Nat.ne_of_lt (Nat.lt_of_lt_of_eq f42_1.lt g47.symm)) (Nat.ne_of_lt (Nat.lt_of_lt_of_le X36.lt f42_0)) (Nat.ne_of_lt (Nat.lt_of_lt_of_le f195.lt f91_0)) (Nat.ne_of_lt (Nat.lt_of_lt_of_le f155.lt f53_0)) (Ne.symm (Nat.ne_of_lt (Nat.lt_of_lt_of_eq f42_4.lt g47.symm))) (Nat.ne_of_lt (Nat.lt_of_lt_of_le f198.lt f91_0)) (Nat.ne_of_lt (Nat.lt_of_lt_of_le X47.lt f53_0)) (Nat.ne_of_lt (Nat.lt_of_lt_of_le f201.lt f91_0)) (Nat.ne_of_lt (Nat.lt_of_lt_of_le f156.lt f53_0)) (Ne.symm (Nat.ne_of_lt (Nat.lt_of_lt_of_le f83_0.lt f91_0))) hv123s hv123s_4 hv123s_5 hv123s_2 hv123s_3 hv123s_6 hv123s_7 hv123s_8 hv123s_9) (a := b36) (argsL := [(.ref b47)]) (rest := []) rfl rfl (lenOf pd_8 rfl) rfl (by decide) (Nat.le_of_ble_eq_true rfl) (by decide) (by decide) at_123 rfl (fun v123 T123 h123 Y123 q123 => ?_)
          obtain ⟨rfl, K123, f123_0, f123_1, f123_2, f123_3, f123_4, f123_5, f123_6, f123_7, f123_8⟩ := q123
          show Gl p e below _ (T123.setTop (mkF m 126 _ [(.ref b36)]))
          refine Gl.pop Y123 rfl at_126 rfl ?_
          refine Gl.iload Y123 rfl at_127 rfl ?_
          refine Gl.iconst Y123 (v := (1 : Int32)) (by decide) at_129 rfl ?_
          refine Gl.icmpeq Y123 at_130 (by decide) rfl rfl (fun c130 => ?_) (fun c130 => ?_)
          · exact absurd c130 (by decide)
          refine Gl.iload Y123 rfl at_133 rfl ?_
          refine Gl.iconst Y123 (v := (2 : Int32)) (by decide) at_135 rfl ?_
          refine Gl.icmpne Y123 at_136 (by decide) rfl rfl (fun c136 => ?_) (fun c136 => ?_)
          rotate_left
          · exact absurd c136 (by decide)
          refine Gl.iconst Y123 (v := (0 : Int32)) (by decide) at_151 rfl ?_
          refine Gl.istore Y123 (L' := #[.val (.int dd), .val (.int mo), .val (.long vv), .second, .val (.int v8), .val (.int 3), .val (.ref b36), .val (.ref b47), .val (.int 3), .val (.int 0)]) rfl at_152 rfl ?_
          refine Gl.goto Y123 at_154 (by decide) rfl ?_
          refine Gl.aload Y123 rfl rfl at_214 rfl ?_
          refine Gl.callV Y123 (tw_68 hw) (tw_37 hw) (tw_39 hw) (tw_39 hw) (tw_38 hw) (tw_3 hw) (tw_40 hw) (by decide) f123_0 (rmA118 l Z a0 hw [] b36 wa42 b172991 ck42 v123s_5 ck172991 h123 n0 Y123.sz f123_0 f123_2 f123_3 sb36 f123_6 (Nat.le_trans Y42_sz f42_0) f123_7 (Nat.le_trans Y91_sz f91_0) (Nat.ne_of_lt (Nat.lt_of_lt_of_le X36.lt f42_0)) (Nat.ne_of_lt (Nat.lt_of_lt_of_le f195.lt f91_0)) (Nat.ne_of_lt (Nat.lt_of_lt_of_le f201.lt f91_0))) (a := b36) (argsL := []) (rest := []) rfl rfl (lenOf pd_5 rfl) rfl (by decide) (Nat.le_of_ble_eq_true rfl) (by decide) (by decide) at_216 rfl (fun v216 T216 h216 Y216 q216 => ?_)
          obtain ⟨rfl, rfl⟩ := q216
          show Gl p e below _ (T216.setTop (mkF m 219 _ [(.int 0)]))
          refine Gl.iload Y216 rfl at_219 rfl ?_
          refine Gl.icmpne Y216 at_221 (by decide) rfl rfl (fun c221 => ?_) (fun c221 => ?_)
          · exact absurd c221 (by decide)
          refine Gl.iconst Y216 (v := (1 : Int32)) (by decide) at_224 rfl ?_
          refine Gl.goto Y216 at_225 (by decide) rfl ?_
          exact Gl.retZ Y216 (by decide) (by decide) (x' := (1 : Int32)) (by decide) at_229 rfl
set_option maxRecDepth 65536 in
set_option maxHeartbeats 40000000 in
theorem comes_1 {Post : Tables → Env → Array Value → State → Outcome → State → Prop} (hpost : ∀ tb e args s v u, (limb_1_1.after args s (.returned v) u = true ∧ limb_1_2.after args s (.returned v) u = true ∧ True) → FrameEnd s (.returned v) u (Jvm.fieldLocs frame_1_writes args s ++ Jvm.arrayLocs frame_1_arrays args s ++ Jvm.staticLocs frame_1_statics s) 24 128 → Post tb e args s (.returned v) u) :
    ArmFor flags0 classFile x code maxLocals ret World_1 tables_1 room_1 Calls_1 rest_1 Pre_1 Post := by
  intro l hfl _ _ p e ha hc hk s m args below hf hA hF happ hP
  obtain ⟨hcalls, hrest, hpre⟩ := hP
  obtain ⟨-, -, -, hnamed, -, -, -, hat⟩ := (Spec.applies_iff hf).mp happ
  obtain ⟨hg, hn⟩ := and_e (Cond.before_iff.mp (show (Jvm.Cond.and given_1 narrow_1).before args s = true from hpre))
  obtain ⟨a0, g0⟩ := and_e hg
  obtain ⟨a1, g1⟩ := and_e g0
  obtain ⟨a2, g2⟩ := and_e g1
  obtain ⟨w0, w1, w2, rfl⟩ : ∃ w0 w1 w2 : Value, args = #[w0, w1, w2] := by
    have hs : args.size = 3 := by simpa [Cond.value, given_1] using a0
    obtain ⟨L⟩ := args
    match L, hs with
    | [w0, w1, w2], _ => exact ⟨w0, w1, w2, rfl⟩
  have hw := fun d (hd : d ∈ tables_1) => atoms_spec (ws := Jvm.Cond.code x code maxLocals ret :: tables_1) hat d (List.mem_cons_of_mem _ hd)
  have hfit : Fit s := fun {y c} hc i hi => by
    obtain ⟨ha, rfl⟩ := Array.getElem?_eq_some_iff.mp hc
    have q := List.all_eq_true.mp ((Array.all_eq_true_iff_forall_mem.mp hF) _ (Array.getElem_mem ha)) i (List.mem_range.mpr hi)
    simpa [Array.getElem?_eq_getElem hi] using q
  obtain ⟨i0, e0⟩ := is_v a1
  obtain rfl : w0 = (.int i0) := Option.some.inj e0
  obtain ⟨i1, e1⟩ := is_v a2
  obtain rfl : w1 = (.int i1) := Option.some.inj e1
  obtain ⟨i2, e2⟩ := isL_v g2
  obtain rfl : w2 = (.long i2) := Option.some.inj e2
  obtain ⟨n, o, h1, h2, h3, v, L, rfl, ⟨hv, N⟩, hq⟩ := rmL l s _ hw tables_1 i0 i1 i2 s.heap s.heap.size (Nat.le_refl _) p e ha hc hk s m _ below hf ((Spec.applies_iff_loose hf).mp happ).1 ⟨rfl, State.Warmed39.refl s, rfl⟩ trivial
  obtain rfl : v = some (.int 1) := hv
  refine ⟨n, _, h1, h2, h3, hpost _ _ _ _ _ _ ⟨Cond.after_iff.mpr rfl, Cond.after_iff.mpr (eq_i res_at (Term.int_eval (1)) rfl), trivial⟩ ⟨hq.1, hq.2.1, (hq.2.2.sift fun y hy => Or.inr (N y hy)).mono (by decide) (by decide)⟩⟩
theorem main_1_1 : Claimed_1_1 := comes_1 fun _ _ _ _ _ _ h hF => ⟨h.1, hF⟩
theorem main_1_2 : Claimed_1_2 := comes_1 fun _ _ _ _ _ _ h hF => ⟨h.2.1, hF⟩
end Jvm.Pilot.@@N@@
namespace Jvm.Pilot.@@N@@
open Jvm Jvm.ClassFile Sem Op Lib Jvm.Free Jvm.Stand Jvm.Pilot.@@N@@.Jvm.D
/-! MADE BY PROGRAM (witnessworld.py) out of the Statement's table words and the real class files: 18 classes; the members and pool entries that the words name. The judged class is class 1, her method 1. -/
namespace start1
open Jvm.ClassFile
def u (s : String) : CpInfo := .utf8 (stringToUtf16 s)
/-- a pool by its gaps: so many unusable entries, then the entry; so many at the end -/
def gap : Nat → List CpInfo → List CpInfo
  | 0, r => r
  | n + 1, r => .unusable :: gap n r
def poolList (es : List (Nat × CpInfo)) (last : Nat) : List CpInfo := es.foldr (fun e r => gap e.1 (e.2 :: r)) (gap last [])
def pool (es : List (Nat × CpInfo)) (last : Nat) : Array CpInfo := ⟨poolList es last⟩
def fileOf (pool : Array CpInfo) (this : Nat) (attrs : Array Attribute := #[]) (ms : Array MethodInfo := #[]) (fl : Nat := 33) (sup : Nat := 0) (ifs : Array Nat := #[]) (fds : Array FieldInfo := #[]) : ClassFile where
  minorVersion := 0
  majorVersion := 65
  constantPool := pool
  accessFlags := fl
  thisClass := this
  superClass := sup
  interfaces := ifs
  fields := fds
  methods := ms
  attributes := attrs
def plain (name : String) (sup : Option ClassId) : Class where
  name := name
  kind := .ordinary
  loader := none
  accessFlags := 33
  super := sup
  interfaces := #[]
  cf := none
  fields := #[]
  methods := #[]
  instanceTypes := #[]
  staticTypes := #[]
  resolved := #[]
  callSites := []
  init := .initialized
  statics := none
  mirror := none

def pool0 : Array CpInfo := pool [(5, u "<init>"), (0, u "()V"), (1, .class_ 10), (1, u "java/lang/Object")] 113

def k0c0 : Code := { maxStack := 0, maxLocals := 1, code := object_method_1_code, exceptionTable := #[], attributes := #[] }
def k0m0 : Method := { name := "<init>", desc := "()V", sig := { parameters := [], returnType := none }, accessFlags := 1, code := some k0c0 }
/-- java/lang/Object -/
def k0 : Class := { plain "java/lang/Object" none with
  accessFlags := 33
  interfaces := #[]
  cf := some (fileOf pool0 8 #[] #[{ accessFlags := 1, nameIndex := 5, descriptorIndex := 6, attributes := #[] }] 33 0 #[] #[])
  fields := #[]
  methods := #[k0m0]
  instanceTypes := #[]
  staticTypes := #[]
  resolved := Array.replicate 124 none
  statics := none }

def pool1 : Array CpInfo := pool [(2, .class_ 4), (1, u "java/lang/Object"), (0, u "<init>"), (0, u "()V"), (0, .integer 2147483647), (0, .class_ 9), (0, u "com/example/meterwise/meterwise/model/WholeNumber"), (0, .methodref 8 11), (0, .nameAndType 5 12), (0, u "(I)V"), (2, .long 9223372036854775808), (1, .methodref 8 18), (0, .nameAndType 19 20), (0, u "set"), (0, u "(J)Lcom/example/meterwise/meterwise/model/WholeNumber;"), (0, .long 3), (1, .methodref 8 24), (0, .nameAndType 25 26), (0, u "multiply"), (0, u "(Lcom/example/meterwise/meterwise/model/WholeNumber;)Lcom/example/meterwise/meterwise/model/WholeNumber;"), (0, .long 6148914691236517205), (1, .methodref 8 30), (0, .nameAndType 31 26), (0, u "add"), (0, .methodref 8 33), (0, .nameAndType 34 35), (0, u "overflow"), (0, u "()Lcom/example/meterwise/meterwise/model/WholeNumber;"), (0, .methodref 8 37), (0, .nameAndType 38 39), (0, u "overflowed"), (0, u "()Z"), (0, .class_ 41), (0, u "com/example/meterwise/meterwise/model/WholeNumberOverflowedPinLaw"), (2, u "law"), (0, u "(IIJ)Z")] 3

def k1m0 : Method := { name := "<init>", desc := "()V", sig := { parameters := [], returnType := none }, accessFlags := 1, code := none }
def k1c1 : Code := { maxStack := 4, maxLocals := 10, code := code, exceptionTable := #[], attributes := #[] }
def k1m1 : Method := { name := "law", desc := "(IIJ)Z", sig := { parameters := [.int, .int, .long], returnType := some .boolean }, accessFlags := 9, code := some k1c1 }
/-- com/example/meterwise/meterwise/model/WholeNumberOverflowedPinLaw -/
def k1 : Class := { plain "com/example/meterwise/meterwise/model/WholeNumberOverflowedPinLaw" (some 0) with
  accessFlags := 49
  interfaces := #[]
  cf := some (fileOf pool1 40 #[] #[{ accessFlags := 1, nameIndex := 5, descriptorIndex := 6, attributes := #[] }, { accessFlags := 9, nameIndex := 44, descriptorIndex := 45, attributes := #[] }] 49 2 #[] #[])
  fields := #[]
  methods := #[k1m0, k1m1]
  instanceTypes := #[]
  staticTypes := #[]
  resolved := Array.replicate 49 none
  statics := none }

def pool2 : Array CpInfo := pool [(1, .methodref 2 3), (0, .class_ 4), (0, .nameAndType 5 6), (0, u "java/lang/Object"), (0, u "<init>"), (0, u "()V"), (9, .long 3322), (1, .long 999), (1, .long 1000), (1, .class_ 23), (0, u "java/lang/Long"), (0, .long 64), (1, .fieldref 27 28), (0, .class_ 29), (0, .nameAndType 30 31), (0, u "com/example/meterwise/meterwise/model/WholeNumber"), (0, u "words"), (0, u "[J"), (4, .methodref 37 38), (0, .class_ 39), (0, .nameAndType 40 41), (0, u "java/lang/Math"), (0, u "max"), (0, u "(II)I"), (2, u "(I)V"), (2, u "set"), (6, u "()I"), (3, .methodref 59 60), (0, .class_ 61), (0, .nameAndType 62 63), (0, u "java/util/Arrays"), (0, u "fill"), (0, u "([JIIJ)V"), (6, .methodref 27 71), (0, .nameAndType 72 73), (0, u "overflowed"), (0, u "()Z"), (0, .methodref 27 75), (0, .nameAndType 76 77), (0, u "overflow"), (0, u "()Lcom/example/meterwise/meterwise/model/WholeNumber;"), (0, .methodref 27 79), (0, .nameAndType 80 81), (0, u "top"), (0, u "()J"), (23, .methodref 59 106), (0, .nameAndType 62 107), (0, u "([JJ)V"), (0, .long 9223372036854775808), (1, .methodref 27 111), (0, .nameAndType 112 73), (0, u "zeroBelowTop"), (7, u "(JJ)I"), (0, .methodref 22 122), (0, .nameAndType 123 120), (0, u "compareUnsigned"), (0, .methodref 27 125), (0, .nameAndType 126 127), (0, u "add"), (0, u "(Lcom/example/meterwise/meterwise/model/WholeNumber;Z)Lcom/example/meterwise/meterwise/model/WholeNumber;"), (0, .long 18446744073709551615), (1, .methodref 27 131), (0, .nameAndType 132 54), (0, u "signum"), (0, .methodref 27 134), (0, .nameAndType 135 136), (0, u "work"), (0, u "()[J"), (0, .methodref 27 138), (0, .nameAndType 139 77), (0, u "negate"), (0, .methodref 27 141), (0, .nameAndType 142 143), (0, u "multiplyMagnitude"), (0, u "(J)Z"), (4, .methodref 27 149), (0, .nameAndType 150 151), (0, u "unsignedMultiplyHigh"), (0, u "(JJ)J"), (3, u "POWERS"), (68, .fieldref 27 225), (0, .nameAndType 135 31), (0, .methodref 37 227), (0, .nameAndType 228 151), (0, u "multiplyHigh"), (0, u "LONG_PLACES"), (0, u "I"), (2, u "WORD_PLACES"), (1, u "HALF"), (0, u "J"), (0, u "BILLION"), (4, u "(J)Lcom/example/meterwise/meterwise/model/WholeNumber;"), (0, u "(Lcom/example/meterwise/meterwise/model/WholeNumber;)Lcom/example/meterwise/meterwise/model/WholeNumber;"), (4, u "multiply")] 29

def k2c0 : Code := { maxStack := 5, maxLocals := 4, code := prog_137_method_1_code, exceptionTable := #[], attributes := #[] }
def k2m0 : Method := { name := "<init>", desc := "(I)V", sig := { parameters := [.int], returnType := none }, accessFlags := 1, code := some k2c0 }
def k2c1 : Code := { maxStack := 6, maxLocals := 3, code := prog_137_method_4_code, exceptionTable := #[], attributes := #[] }
def k2m1 : Method := { name := "set", desc := "(J)Lcom/example/meterwise/meterwise/model/WholeNumber;", sig := { parameters := [.long], returnType := some (.object "com/example/meterwise/meterwise/model/WholeNumber") }, accessFlags := 1, code := some k2c1 }
def k2c2 : Code := { maxStack := 4, maxLocals := 1, code := prog_137_method_7_code, exceptionTable := #[], attributes := #[] }
def k2m2 : Method := { name := "overflow", desc := "()Lcom/example/meterwise/meterwise/model/WholeNumber;", sig := { parameters := [], returnType := some (.object "com/example/meterwise/meterwise/model/WholeNumber") }, accessFlags := 1, code := some k2c2 }
def k2c3 : Code := { maxStack := 4, maxLocals := 1, code := prog_137_method_8_code, exceptionTable := #[], attributes := #[] }
def k2m3 : Method := { name := "overflowed", desc := "()Z", sig := { parameters := [], returnType := some .boolean }, accessFlags := 1, code := some k2c3 }
def k2c4 : Code := { maxStack := 4, maxLocals := 3, code := prog_137_method_9_code, exceptionTable := #[], attributes := #[] }
def k2m4 : Method := { name := "signum", desc := "()I", sig := { parameters := [], returnType := some .int }, accessFlags := 1, code := some k2c4 }
def k2c5 : Code := { maxStack := 4, maxLocals := 2, code := prog_137_method_10_code, exceptionTable := #[], attributes := #[] }
def k2m5 : Method := { name := "zeroBelowTop", desc := "()Z", sig := { parameters := [], returnType := some .boolean }, accessFlags := 2, code := some k2c5 }
def k2c6 : Code := { maxStack := 3, maxLocals := 2, code := prog_137_method_12_code, exceptionTable := #[], attributes := #[] }
def k2m6 : Method := { name := "add", desc := "(Lcom/example/meterwise/meterwise/model/WholeNumber;)Lcom/example/meterwise/meterwise/model/WholeNumber;", sig := { parameters := [(.object "com/example/meterwise/meterwise/model/WholeNumber")], returnType := some (.object "com/example/meterwise/meterwise/model/WholeNumber") }, accessFlags := 1, code := some k2c6 }
def k2c7 : Code := { maxStack := 8, maxLocals := 21, code := prog_137_method_14_code, exceptionTable := #[], attributes := #[] }
def k2m7 : Method := { name := "add", desc := "(Lcom/example/meterwise/meterwise/model/WholeNumber;Z)Lcom/example/meterwise/meterwise/model/WholeNumber;", sig := { parameters := [(.object "com/example/meterwise/meterwise/model/WholeNumber"), .boolean], returnType := some (.object "com/example/meterwise/meterwise/model/WholeNumber") }, accessFlags := 2, code := some k2c7 }
def k2c8 : Code := { maxStack := 6, maxLocals := 10, code := prog_137_method_15_code, exceptionTable := #[], attributes := #[] }
def k2m8 : Method := { name := "multiply", desc := "(Lcom/example/meterwise/meterwise/model/WholeNumber;)Lcom/example/meterwise/meterwise/model/WholeNumber;", sig := { parameters := [(.object "com/example/meterwise/meterwise/model/WholeNumber")], returnType := some (.object "com/example/meterwise/meterwise/model/WholeNumber") }, accessFlags := 1, code := some k2c8 }
def k2c9 : Code := { maxStack := 6, maxLocals := 12, code := prog_137_method_18_code, exceptionTable := #[], attributes := #[] }
def k2m9 : Method := { name := "multiplyMagnitude", desc := "(J)Z", sig := { parameters := [.long], returnType := some .boolean }, accessFlags := 2, code := some k2c9 }
def k2c10 : Code := { maxStack := 6, maxLocals := 4, code := prog_137_method_19_code, exceptionTable := #[], attributes := #[] }
def k2m10 : Method := { name := "negate", desc := "()Lcom/example/meterwise/meterwise/model/WholeNumber;", sig := { parameters := [], returnType := some (.object "com/example/meterwise/meterwise/model/WholeNumber") }, accessFlags := 1, code := some k2c10 }
def k2c11 : Code := { maxStack := 3, maxLocals := 1, code := prog_137_method_31_code, exceptionTable := #[], attributes := #[] }
def k2m11 : Method := { name := "top", desc := "()J", sig := { parameters := [], returnType := some .long }, accessFlags := 2, code := some k2c11 }
def k2c12 : Code := { maxStack := 4, maxLocals := 1, code := prog_137_method_33_code, exceptionTable := #[], attributes := #[] }
def k2m12 : Method := { name := "work", desc := "()[J", sig := { parameters := [], returnType := some (.array .long) }, accessFlags := 2, code := some k2c12 }
def k2c13 : Code := { maxStack := 6, maxLocals := 4, code := prog_137_method_34_code, exceptionTable := #[], attributes := #[] }
def k2m13 : Method := { name := "unsignedMultiplyHigh", desc := "(JJ)J", sig := { parameters := [.long, .long], returnType := some .long }, accessFlags := 10, code := some k2c13 }
/-- com/example/meterwise/meterwise/model/WholeNumber -/
def k2 : Class := { plain "com/example/meterwise/meterwise/model/WholeNumber" (some 0) with
  accessFlags := 33
  interfaces := #[]
  cf := some (fileOf pool2 27 #[] #[{ accessFlags := 1, nameIndex := 5, descriptorIndex := 44, attributes := #[] }, { accessFlags := 1, nameIndex := 47, descriptorIndex := 242, attributes := #[] }, { accessFlags := 1, nameIndex := 76, descriptorIndex := 77, attributes := #[] }, { accessFlags := 1, nameIndex := 72, descriptorIndex := 73, attributes := #[] }, { accessFlags := 1, nameIndex := 132, descriptorIndex := 54, attributes := #[] }, { accessFlags := 2, nameIndex := 112, descriptorIndex := 73, attributes := #[] }, { accessFlags := 1, nameIndex := 126, descriptorIndex := 243, attributes := #[] }, { accessFlags := 2, nameIndex := 126, descriptorIndex := 127, attributes := #[] }, { accessFlags := 1, nameIndex := 248, descriptorIndex := 243, attributes := #[] }, { accessFlags := 2, nameIndex := 142, descriptorIndex := 143, attributes := #[] }, { accessFlags := 1, nameIndex := 139, descriptorIndex := 77, attributes := #[] }, { accessFlags := 2, nameIndex := 80, descriptorIndex := 81, attributes := #[] }, { accessFlags := 2, nameIndex := 135, descriptorIndex := 136, attributes := #[] }, { accessFlags := 10, nameIndex := 150, descriptorIndex := 151, attributes := #[] }] 33 2 #[] #[{ accessFlags := 26, nameIndex := 229, descriptorIndex := 230, attributes := #[] }, { accessFlags := 26, nameIndex := 233, descriptorIndex := 230, attributes := #[] }, { accessFlags := 26, nameIndex := 235, descriptorIndex := 236, attributes := #[] }, { accessFlags := 26, nameIndex := 237, descriptorIndex := 236, attributes := #[] }, { accessFlags := 26, nameIndex := 155, descriptorIndex := 31, attributes := #[] }, { accessFlags := 18, nameIndex := 30, descriptorIndex := 31, attributes := #[] }, { accessFlags := 2, nameIndex := 135, descriptorIndex := 31, attributes := #[] }])
  fields := #[{ name := "LONG_PLACES", type := .int, accessFlags := 26, slot := 0, constantValue := 0 }, { name := "WORD_PLACES", type := .int, accessFlags := 26, slot := 1, constantValue := 0 }, { name := "HALF", type := .long, accessFlags := 26, slot := 2, constantValue := 0 }, { name := "BILLION", type := .long, accessFlags := 26, slot := 3, constantValue := 0 }, { name := "POWERS", type := (.array .long), accessFlags := 26, slot := 4, constantValue := 0 }, { name := "words", type := (.array .long), accessFlags := 18, slot := 0, constantValue := 0 }, { name := "work", type := (.array .long), accessFlags := 2, slot := 1, constantValue := 0 }]
  methods := #[k2m0, k2m1, k2m2, k2m3, k2m4, k2m5, k2m6, k2m7, k2m8, k2m9, k2m10, k2m11, k2m12, k2m13]
  instanceTypes := #[(.array .long), (.array .long)]
  staticTypes := #[.int, .int, .long, .long, (.array .long)]
  resolved := Array.replicate 278 none
  statics := none }

def pool3 : Array CpInfo := pool [(2, .class_ 4), (1, u "java/lang/Object"), (0, u "<init>"), (0, u "()V"), (6, .methodref 14 15), (0, .class_ 16), (0, .nameAndType 17 18), (0, u "java/util/Arrays"), (0, u "rangeCheck"), (0, u "(III)V"), (55, .class_ 76), (1, u "java/util/Arrays$NaturalOrder"), (36, .class_ 115), (1, u "java/util/Arrays$LegacyMergeSort"), (1, u "Z"), (257, .class_ 376), (0, u "java/util/Arrays$ArrayList"), (68, u "$assertionsDisabled"), (269, u "MIN_ARRAY_SORT_GRAN"), (0, u "I"), (2, u "INSERTIONSORT_THRESHOLD"), (120, u "fill"), (0, u "([JJ)V"), (2, u "([JIIJ)V"), (130, .class_ 976), (0, u "java/util/Arrays$ArrayItr")] 52

def k3m0 : Method := { name := "<init>", desc := "()V", sig := { parameters := [], returnType := none }, accessFlags := 2, code := none }
def k3c1 : Code := { maxStack := 4, maxLocals := 3, code := jdk_65_method_30_code, exceptionTable := #[], attributes := #[] }
def k3m1 : Method := { name := "rangeCheck", desc := "(III)V", sig := { parameters := [.int, .int, .int], returnType := none }, accessFlags := 8, code := some k3c1 }
def k3c2 : Code := { maxStack := 4, maxLocals := 5, code := jdk_65_method_101_code, exceptionTable := #[], attributes := #[] }
def k3m2 : Method := { name := "fill", desc := "([JJ)V", sig := { parameters := [(.array .long), .long], returnType := none }, accessFlags := 9, code := some k3c2 }
def k3c3 : Code := { maxStack := 4, maxLocals := 6, code := jdk_65_method_102_code, exceptionTable := #[], attributes := #[] }
def k3m3 : Method := { name := "fill", desc := "([JIIJ)V", sig := { parameters := [(.array .long), .int, .int, .long], returnType := none }, accessFlags := 9, code := some k3c3 }
/-- java/util/Arrays -/
def k3 : Class := { plain "java/util/Arrays" (some 0) with
  accessFlags := 49
  interfaces := #[]
  cf := some (fileOf pool3 14 #[.nestMembers #[975, 375, 113, 74]] #[{ accessFlags := 2, nameIndex := 5, descriptorIndex := 6, attributes := #[] }, { accessFlags := 8, nameIndex := 17, descriptorIndex := 18, attributes := #[] }, { accessFlags := 9, nameIndex := 840, descriptorIndex := 841, attributes := #[] }, { accessFlags := 9, nameIndex := 840, descriptorIndex := 844, attributes := #[] }] 49 2 #[] #[{ accessFlags := 26, nameIndex := 715, descriptorIndex := 716, attributes := #[] }, { accessFlags := 26, nameIndex := 719, descriptorIndex := 716, attributes := #[] }, { accessFlags := 4120, nameIndex := 445, descriptorIndex := 117, attributes := #[] }])
  fields := #[{ name := "MIN_ARRAY_SORT_GRAN", type := .int, accessFlags := 26, slot := 0, constantValue := 0 }, { name := "INSERTIONSORT_THRESHOLD", type := .int, accessFlags := 26, slot := 1, constantValue := 0 }, { name := "$assertionsDisabled", type := .boolean, accessFlags := 4120, slot := 2, constantValue := 0 }]
  methods := #[k3m0, k3m1, k3m2, k3m3]
  instanceTypes := #[]
  staticTypes := #[.int, .int, .boolean]
  resolved := Array.replicate 1029 none
  statics := none }

def pool4 : Array CpInfo := pool [(1, .class_ 2), (0, u "java/lang/Math"), (1, .class_ 6), (1, u "java/lang/Object"), (0, u "<init>"), (0, u "()V"), (89, .class_ 100), (1, u "java/lang/Math$RandomNumberGeneratorHolder"), (20, u "(JJ)J"), (16, .long 4294967295), (3, u "multiplyHigh"), (29, u "negativeZeroFloatBits"), (0, u "J"), (2, u "negativeZeroDoubleBits"), (21, u "max"), (46, u "$assertionsDisabled"), (0, u "Z"), (88, u "(II)I"), (2, u "twoToTheDoubleScaleDown"), (0, u "D"), (4, u "twoToTheDoubleScaleUp"), (9, u "E"), (3, u "PI"), (2, u "TAU"), (2, u "DEGREES_TO_RADIANS"), (0, u "RADIANS_TO_DEGREES")] 94

def k4m0 : Method := { name := "<init>", desc := "()V", sig := { parameters := [], returnType := none }, accessFlags := 2, code := none }
def k4c1 : Code := { maxStack := 6, maxLocals := 20, code := jdk_29_method_45_code, exceptionTable := #[], attributes := #[] }
def k4m1 : Method := { name := "multiplyHigh", desc := "(JJ)J", sig := { parameters := [.long, .long], returnType := some .long }, accessFlags := 9, code := some k4c1 }
def k4c2 : Code := { maxStack := 2, maxLocals := 2, code := jdk_29_method_65_code, exceptionTable := #[], attributes := #[] }
def k4m2 : Method := { name := "max", desc := "(II)I", sig := { parameters := [.int, .int], returnType := some .int }, accessFlags := 9, code := some k4c2 }
/-- java/lang/Math -/
def k4 : Class := { plain "java/lang/Math" (some 0) with
  accessFlags := 49
  interfaces := #[]
  cf := some (fileOf pool4 1 #[.nestMembers #[98]] #[{ accessFlags := 2, nameIndex := 7, descriptorIndex := 8, attributes := #[] }, { accessFlags := 9, nameIndex := 142, descriptorIndex := 121, attributes := #[] }, { accessFlags := 9, nameIndex := 198, descriptorIndex := 335, attributes := #[] }] 49 4 #[] #[{ accessFlags := 25, nameIndex := 354, descriptorIndex := 339, attributes := #[] }, { accessFlags := 25, nameIndex := 358, descriptorIndex := 339, attributes := #[] }, { accessFlags := 25, nameIndex := 361, descriptorIndex := 339, attributes := #[] }, { accessFlags := 26, nameIndex := 364, descriptorIndex := 339, attributes := #[] }, { accessFlags := 26, nameIndex := 365, descriptorIndex := 339, attributes := #[] }, { accessFlags := 26, nameIndex := 172, descriptorIndex := 173, attributes := #[] }, { accessFlags := 26, nameIndex := 176, descriptorIndex := 173, attributes := #[] }, { accessFlags := 8, nameIndex := 344, descriptorIndex := 339, attributes := #[] }, { accessFlags := 8, nameIndex := 338, descriptorIndex := 339, attributes := #[] }, { accessFlags := 4120, nameIndex := 245, descriptorIndex := 246, attributes := #[] }])
  fields := #[{ name := "E", type := .double, accessFlags := 25, slot := 0, constantValue := 0 }, { name := "PI", type := .double, accessFlags := 25, slot := 1, constantValue := 0 }, { name := "TAU", type := .double, accessFlags := 25, slot := 2, constantValue := 0 }, { name := "DEGREES_TO_RADIANS", type := .double, accessFlags := 26, slot := 3, constantValue := 0 }, { name := "RADIANS_TO_DEGREES", type := .double, accessFlags := 26, slot := 4, constantValue := 0 }, { name := "negativeZeroFloatBits", type := .long, accessFlags := 26, slot := 5, constantValue := 0 }, { name := "negativeZeroDoubleBits", type := .long, accessFlags := 26, slot := 6, constantValue := 0 }, { name := "twoToTheDoubleScaleUp", type := .double, accessFlags := 8, slot := 7, constantValue := 0 }, { name := "twoToTheDoubleScaleDown", type := .double, accessFlags := 8, slot := 8, constantValue := 0 }, { name := "$assertionsDisabled", type := .boolean, accessFlags := 4120, slot := 9, constantValue := 0 }]
  methods := #[k4m0, k4m1, k4m2]
  instanceTypes := #[]
  staticTypes := #[.double, .double, .double, .double, .double, .long, .long, .double, .double, .boolean]
  resolved := Array.replicate 460 none
  statics := none }

def pool5 : Array CpInfo := pool [(1, .class_ 2), (0, u "java/io/Serializable"), (0, .class_ 4), (0, u "java/lang/Object")] 2

/-- java/io/Serializable -/
def k5 : Class := { plain "java/io/Serializable" (some 0) with
  accessFlags := 1537
  interfaces := #[]
  cf := some (fileOf pool5 1 #[] #[] 1537 3 #[] #[])
  fields := #[]
  methods := #[]
  instanceTypes := #[]
  staticTypes := #[]
  resolved := Array.replicate 7 none
  statics := none }

def pool6 : Array CpInfo := pool [(2, .class_ 4), (1, u "java/lang/Object"), (0, u "<init>"), (0, u "()V"), (1, .class_ 10), (1, u "java/lang/Number"), (2, .class_ 14), (0, u "java/io/Serializable"), (0, u "serialVersionUID"), (0, u "J")] 20

def k6m0 : Method := { name := "<init>", desc := "()V", sig := { parameters := [], returnType := none }, accessFlags := 1, code := none }
/-- java/lang/Number -/
def k6 : Class := { plain "java/lang/Number" (some 0) with
  accessFlags := 1057
  interfaces := #[5]
  cf := some (fileOf pool6 8 #[] #[{ accessFlags := 1, nameIndex := 5, descriptorIndex := 6, attributes := #[] }] 1057 2 #[13] #[{ accessFlags := 26, nameIndex := 15, descriptorIndex := 16, attributes := #[] }])
  fields := #[{ name := "serialVersionUID", type := .long, accessFlags := 26, slot := 0, constantValue := 0 }]
  methods := #[k6m0]
  instanceTypes := #[]
  staticTypes := #[.long]
  resolved := Array.replicate 37 none
  statics := none }

def pool7 : Array CpInfo := pool [(1, .class_ 2), (0, u "java/lang/Comparable"), (0, .class_ 4), (0, u "java/lang/Object")] 7

/-- java/lang/Comparable -/
def k7 : Class := { plain "java/lang/Comparable" (some 0) with
  accessFlags := 1537
  interfaces := #[]
  cf := some (fileOf pool7 1 #[] #[] 1537 3 #[] #[])
  fields := #[]
  methods := #[]
  instanceTypes := #[]
  staticTypes := #[]
  resolved := Array.replicate 12 none
  statics := none }

def pool8 : Array CpInfo := pool [(1, .class_ 2), (0, u "java/lang/constant/Constable"), (0, .class_ 4), (0, u "java/lang/Object")] 6

/-- java/lang/constant/Constable -/
def k8 : Class := { plain "java/lang/constant/Constable" (some 0) with
  accessFlags := 1537
  interfaces := #[]
  cf := some (fileOf pool8 1 #[] #[] 1537 3 #[] #[])
  fields := #[]
  methods := #[]
  instanceTypes := #[]
  staticTypes := #[]
  resolved := Array.replicate 11 none
  statics := none }

def pool9 : Array CpInfo := pool [(1, .class_ 2), (0, u "java/lang/constant/ConstantDesc"), (0, .class_ 4), (0, u "java/lang/Object")] 32

/-- java/lang/constant/ConstantDesc -/
def k9 : Class := { plain "java/lang/constant/ConstantDesc" (some 0) with
  accessFlags := 1537
  interfaces := #[]
  cf := some (fileOf pool9 1 #[] #[] 1537 3 #[] #[])
  fields := #[]
  methods := #[]
  instanceTypes := #[]
  staticTypes := #[]
  resolved := Array.replicate 37 none
  statics := none }

def pool10 : Array CpInfo := pool [(1, .class_ 2), (0, u "java/lang/Long"), (165, .long 9223372036854775808), (66, .class_ 237), (1, u "java/lang/Long$LongCache"), (33, .class_ 272), (0, u "java/lang/Number"), (2, u "value"), (0, u "J"), (25, .methodref 1 303), (0, .nameAndType 304 305), (0, u "compare"), (0, u "(JJ)I"), (55, u "TYPE"), (0, u "Ljava/lang/Class;"), (0, .class_ 364), (0, u "java/lang/Comparable"), (0, .class_ 366), (0, u "java/lang/constant/Constable"), (0, .class_ 368), (0, u "java/lang/constant/ConstantDesc"), (0, u "MIN_VALUE"), (1, u "MAX_VALUE"), (4, u "SIZE"), (0, u "I"), (1, u "BYTES"), (1, u "serialVersionUID"), (87, u "compareUnsigned")] 54

def k10c0 : Code := { maxStack := 4, maxLocals := 4, code := jdk_35_method_42_code, exceptionTable := #[], attributes := #[] }
def k10m0 : Method := { name := "compare", desc := "(JJ)I", sig := { parameters := [.long, .long], returnType := some .int }, accessFlags := 9, code := some k10c0 }
def k10c1 : Code := { maxStack := 6, maxLocals := 4, code := jdk_35_method_43_code, exceptionTable := #[], attributes := #[] }
def k10m1 : Method := { name := "compareUnsigned", desc := "(JJ)I", sig := { parameters := [.long, .long], returnType := some .int }, accessFlags := 9, code := some k10c1 }
/-- java/lang/Long -/
def k10 : Class := { plain "java/lang/Long" (some 6) with
  accessFlags := 49
  interfaces := #[7, 8, 9]
  cf := some (fileOf pool10 1 #[.nestMembers #[235]] #[{ accessFlags := 9, nameIndex := 304, descriptorIndex := 305, attributes := #[] }, { accessFlags := 9, nameIndex := 469, descriptorIndex := 305, attributes := #[] }] 49 271 #[363, 365, 367] #[{ accessFlags := 25, nameIndex := 369, descriptorIndex := 276, attributes := #[] }, { accessFlags := 25, nameIndex := 371, descriptorIndex := 276, attributes := #[] }, { accessFlags := 25, nameIndex := 361, descriptorIndex := 362, attributes := #[] }, { accessFlags := 18, nameIndex := 275, descriptorIndex := 276, attributes := #[] }, { accessFlags := 25, nameIndex := 376, descriptorIndex := 377, attributes := #[] }, { accessFlags := 25, nameIndex := 379, descriptorIndex := 377, attributes := #[] }, { accessFlags := 26, nameIndex := 381, descriptorIndex := 276, attributes := #[] }])
  fields := #[{ name := "MIN_VALUE", type := .long, accessFlags := 25, slot := 0, constantValue := 0 }, { name := "MAX_VALUE", type := .long, accessFlags := 25, slot := 1, constantValue := 0 }, { name := "TYPE", type := (.object "java/lang/Class"), accessFlags := 25, slot := 2, constantValue := 0 }, { name := "value", type := .long, accessFlags := 18, slot := 0, constantValue := 0 }, { name := "SIZE", type := .int, accessFlags := 25, slot := 3, constantValue := 0 }, { name := "BYTES", type := .int, accessFlags := 25, slot := 4, constantValue := 0 }, { name := "serialVersionUID", type := .long, accessFlags := 26, slot := 5, constantValue := 0 }]
  methods := #[k10m0, k10m1]
  instanceTypes := #[.long]
  staticTypes := #[.long, .long, (.object "java/lang/Class"), .int, .int, .long]
  resolved := Array.replicate 524 none
  statics := none }

def pool11 : Array CpInfo := pool [(1, u "java/lang/Cloneable"), (0, .class_ 1), (0, u "java/lang/Object"), (0, .class_ 3)] 3

/-- java/lang/Cloneable -/
def k11 : Class := { plain "java/lang/Cloneable" (some 0) with
  accessFlags := 1537
  interfaces := #[]
  cf := some (fileOf pool11 2 #[] #[] 1537 4 #[] #[])
  fields := #[]
  methods := #[]
  instanceTypes := #[]
  staticTypes := #[]
  resolved := Array.replicate 8 none
  statics := none }

/-- the primitive byte -/
def k12 : Class := { plain "byte" none with kind := .primitive 'B', accessFlags := 0x411 }
/-- [B -/
def k13 : Class := { plain "[B" (some 0) with kind := .array 12 .byte, interfaces := #[11, 5], accessFlags := 1041 }

/-- the primitive int -/
def k14 : Class := { plain "int" none with kind := .primitive 'I', accessFlags := 0x411 }
/-- [I -/
def k15 : Class := { plain "[I" (some 0) with kind := .array 14 .int, interfaces := #[11, 5], accessFlags := 1041 }

/-- the primitive long -/
def k16 : Class := { plain "long" none with kind := .primitive 'J', accessFlags := 0x411 }
/-- [J -/
def k17 : Class := { plain "[J" (some 0) with kind := .array 16 .long, interfaces := #[11, 5], accessFlags := 1041 }

def heap : Heap := #[]
def classes : Array Class := #[k0, k1, k2, k3, k4, k5, k6, k7, k8, k9, k10, k11, k12, k13, k14, k15, k16, k17]
def interned : List (Array UInt16 × Addr) := []
def slotsUsed : Nat := 0
def theMethod : MethodId := ⟨1, 1⟩
def args0 : Array Value := #[.int 7, .int 3, .long 9]
def aboutOver (below : List Frame) : State where
  vm := { classes := classes, interned := interned.toArray }
  heap := heap
  slotsUsed := slotsUsed
  threads := #[{ frames := .invoking theMethod args0 :: below }]
def below0 : List Frame := [.native { method := ⟨0, 0⟩, args := #[] }]
def about1 : State := aboutOver below0
def p0 : Program := .bare "" "" ""
def e0 : Env := launch0.env 0 0 0
theorem w_frames : about1.frames = Frame.invoking theMethod args0 :: below0 := rfl
set_option maxRecDepth 65536 in
theorem w_args : argsFit about1.vm theMethod args0 = true := by decide +kernel
set_option maxRecDepth 65536 in
theorem w_heap : heapFits about1 = true := by decide +kernel
set_option maxRecDepth 65536 in
theorem w_runnable : about1.curStatus? = some .runnable := by decide +kernel
set_option maxRecDepth 65536 in
theorem w_alone : about1.alone = true := by decide +kernel
set_option maxRecDepth 65536 in
theorem w_named : about1.methodNamed? x = some theMethod := by decide +kernel
set_option maxRecDepth 65536 in
theorem w_hears : about1.hears theMethod below0 = true := by decide +kernel
set_option maxRecDepth 65536 in
theorem w_ripe : about1.ripe theMethod args0 below0 = true := by decide +kernel
theorem w_running : about1.status = .running := rfl
set_option maxRecDepth 65536 in
theorem w_room : about1.hasRoom e0.platform room_1 = true :=
  launch0.hasRoom_least _ room_1 (by decide +kernel) (by decide +kernel) (by decide +kernel) (by decide +kernel) (by decide +kernel) (by decide +kernel)
theorem allAtoms_all (ts : List Jvm.Cond) (a : Array Jvm.Value) (st : Jvm.State) : (allAtoms ts).before a st = ts.all (fun c => c.before a st) := by
  induction ts with
  | nil => rfl
  | cons c t ih =>
    show (Jvm.Cond.and c (allAtoms t)).before a st = _
    rw [Jvm.Cond.before_and, ih, List.all_cons]
def words1 : List Jvm.Cond := Jvm.Cond.code x code maxLocals ret :: tables_1
/-- a 'code' word, met by the world's own term for the bytes: nothing is compared byte by byte -/
theorem code_word {y : MethodName} {bytes : ByteArray} {mx : Nat} {rt : Option FieldType} {a : Array Value} {s : State} {m : MethodId} {meth : Method} {c : Code} (h1 : s.methodNamed? y = some m) (h2 : s.vm.method? m = some meth) (h3 : meth.code = some c) (h4 : c.code = bytes)
    (h5 : (c.maxLocals == mx && c.exceptionTable.isEmpty && decide (c.maxStack ≤ mostOperands) && decide (meth.sig.returnType = rt) && !meth.locks && decide (parseMethodDescriptor y.desc = some meth.sig)) = true) : (Jvm.Cond.code y bytes mx rt).before a s = true := by
  simp only [Bool.and_eq_true, beq_iff_eq, Bool.not_eq_true', decide_eq_true_eq] at h5
  obtain ⟨⟨⟨⟨⟨g1, g2⟩, g3⟩, g4⟩, g5⟩, g6⟩ := h5
  simp [Cond.before, Cond.holds, Cond.value, h1, h2, h3, h4, g1, g2, g3, g4, g5, g6]
def isCode : Jvm.Cond → Bool
  | .code _ _ _ _ => true
  | _ => false
theorem all_split {L : List Jvm.Cond} {P : Jvm.Cond → Bool} (h1 : L.all (fun c => isCode c || P c) = true) (h2 : ∀ c ∈ L.filter isCode, P c = true) : L.all P = true := by
  refine List.all_eq_true.mpr fun c hc => ?_
  have h := List.all_eq_true.mp h1 c hc
  rcases Bool.eq_false_or_eq_true (isCode c) with hi | hi
  · exact h2 c (List.mem_filter.mpr ⟨hc, hi⟩)
  · simpa [hi] using h
set_option maxRecDepth 65536 in
theorem w_c0 : (Jvm.Cond.code x code maxLocals ret).before args0 about1 = true := code_word (m := ⟨1, 1⟩) (meth := k1m1) (c := k1c1) (by decide +kernel) rfl rfl rfl (by decide +kernel)
set_option maxRecDepth 65536 in
theorem w_c1 : (Jvm.Cond.code ({ cls := "com/example/meterwise/meterwise/model/WholeNumber", name := "<init>", desc := "(I)V" } : Jvm.MethodName) prog_137_method_1_code (4 : Nat) (Option.none : Option Jvm.ClassFile.FieldType)).before args0 about1 = true := code_word (m := ⟨2, 0⟩) (meth := k2m0) (c := k2c0) (by decide +kernel) rfl rfl rfl (by decide +kernel)
set_option maxRecDepth 65536 in
theorem w_c2 : (Jvm.Cond.code ({ cls := "java/lang/Object", name := "<init>", desc := "()V" } : Jvm.MethodName) object_method_1_code (1 : Nat) (Option.none : Option Jvm.ClassFile.FieldType)).before args0 about1 = true := code_word (m := ⟨0, 0⟩) (meth := k0m0) (c := k0c0) (by decide +kernel) rfl rfl rfl (by decide +kernel)
set_option maxRecDepth 65536 in
theorem w_c3 : (Jvm.Cond.code ({ cls := "com/example/meterwise/meterwise/model/WholeNumber", name := "set", desc := "(J)Lcom/example/meterwise/meterwise/model/WholeNumber;" } : Jvm.MethodName) prog_137_method_4_code (3 : Nat) (Option.some (Jvm.ClassFile.FieldType.object "com/example/meterwise/meterwise/model/WholeNumber"))).before args0 about1 = true := code_word (m := ⟨2, 1⟩) (meth := k2m1) (c := k2c1) (by decide +kernel) rfl rfl rfl (by decide +kernel)
set_option maxRecDepth 65536 in
theorem w_c4 : (Jvm.Cond.code ({ cls := "java/util/Arrays", name := "fill", desc := "([JIIJ)V" } : Jvm.MethodName) jdk_65_method_102_code (6 : Nat) (Option.none : Option Jvm.ClassFile.FieldType)).before args0 about1 = true := code_word (m := ⟨3, 3⟩) (meth := k3m3) (c := k3c3) (by decide +kernel) rfl rfl rfl (by decide +kernel)
set_option maxRecDepth 65536 in
theorem w_c5 : (Jvm.Cond.code ({ cls := "java/util/Arrays", name := "rangeCheck", desc := "(III)V" } : Jvm.MethodName) jdk_65_method_30_code (3 : Nat) (Option.none : Option Jvm.ClassFile.FieldType)).before args0 about1 = true := code_word (m := ⟨3, 1⟩) (meth := k3m1) (c := k3c1) (by decide +kernel) rfl rfl rfl (by decide +kernel)
set_option maxRecDepth 65536 in
theorem w_c6 : (Jvm.Cond.code ({ cls := "com/example/meterwise/meterwise/model/WholeNumber", name := "multiply", desc := "(Lcom/example/meterwise/meterwise/model/WholeNumber;)Lcom/example/meterwise/meterwise/model/WholeNumber;" } : Jvm.MethodName) prog_137_method_15_code (10 : Nat) (Option.some (Jvm.ClassFile.FieldType.object "com/example/meterwise/meterwise/model/WholeNumber"))).before args0 about1 = true := code_word (m := ⟨2, 8⟩) (meth := k2m8) (c := k2c8) (by decide +kernel) rfl rfl rfl (by decide +kernel)
set_option maxRecDepth 65536 in
theorem w_c7 : (Jvm.Cond.code ({ cls := "com/example/meterwise/meterwise/model/WholeNumber", name := "overflowed", desc := "()Z" } : Jvm.MethodName) prog_137_method_8_code (1 : Nat) (Option.some Jvm.ClassFile.FieldType.boolean)).before args0 about1 = true := code_word (m := ⟨2, 3⟩) (meth := k2m3) (c := k2c3) (by decide +kernel) rfl rfl rfl (by decide +kernel)
set_option maxRecDepth 65536 in
theorem w_c8 : (Jvm.Cond.code ({ cls := "com/example/meterwise/meterwise/model/WholeNumber", name := "top", desc := "()J" } : Jvm.MethodName) prog_137_method_31_code (1 : Nat) (Option.some Jvm.ClassFile.FieldType.long)).before args0 about1 = true := code_word (m := ⟨2, 11⟩) (meth := k2m11) (c := k2c11) (by decide +kernel) rfl rfl rfl (by decide +kernel)
set_option maxRecDepth 65536 in
theorem w_c9 : (Jvm.Cond.code ({ cls := "com/example/meterwise/meterwise/model/WholeNumber", name := "zeroBelowTop", desc := "()Z" } : Jvm.MethodName) prog_137_method_10_code (2 : Nat) (Option.some Jvm.ClassFile.FieldType.boolean)).before args0 about1 = true := code_word (m := ⟨2, 5⟩) (meth := k2m5) (c := k2c5) (by decide +kernel) rfl rfl rfl (by decide +kernel)
set_option maxRecDepth 65536 in
theorem w_c10 : (Jvm.Cond.code ({ cls := "com/example/meterwise/meterwise/model/WholeNumber", name := "overflow", desc := "()Lcom/example/meterwise/meterwise/model/WholeNumber;" } : Jvm.MethodName) prog_137_method_7_code (1 : Nat) (Option.some (Jvm.ClassFile.FieldType.object "com/example/meterwise/meterwise/model/WholeNumber"))).before args0 about1 = true := code_word (m := ⟨2, 2⟩) (meth := k2m2) (c := k2c2) (by decide +kernel) rfl rfl rfl (by decide +kernel)
set_option maxRecDepth 65536 in
theorem w_c11 : (Jvm.Cond.code ({ cls := "java/util/Arrays", name := "fill", desc := "([JJ)V" } : Jvm.MethodName) jdk_65_method_101_code (5 : Nat) (Option.none : Option Jvm.ClassFile.FieldType)).before args0 about1 = true := code_word (m := ⟨3, 2⟩) (meth := k3m2) (c := k3c2) (by decide +kernel) rfl rfl rfl (by decide +kernel)
set_option maxRecDepth 65536 in
theorem w_c12 : (Jvm.Cond.code ({ cls := "com/example/meterwise/meterwise/model/WholeNumber", name := "add", desc := "(Lcom/example/meterwise/meterwise/model/WholeNumber;)Lcom/example/meterwise/meterwise/model/WholeNumber;" } : Jvm.MethodName) prog_137_method_12_code (2 : Nat) (Option.some (Jvm.ClassFile.FieldType.object "com/example/meterwise/meterwise/model/WholeNumber"))).before args0 about1 = true := code_word (m := ⟨2, 6⟩) (meth := k2m6) (c := k2c6) (by decide +kernel) rfl rfl rfl (by decide +kernel)
set_option maxRecDepth 65536 in
theorem w_c13 : (Jvm.Cond.code ({ cls := "com/example/meterwise/meterwise/model/WholeNumber", name := "add", desc := "(Lcom/example/meterwise/meterwise/model/WholeNumber;Z)Lcom/example/meterwise/meterwise/model/WholeNumber;" } : Jvm.MethodName) prog_137_method_14_code (21 : Nat) (Option.some (Jvm.ClassFile.FieldType.object "com/example/meterwise/meterwise/model/WholeNumber"))).before args0 about1 = true := code_word (m := ⟨2, 7⟩) (meth := k2m7) (c := k2c7) (by decide +kernel) rfl rfl rfl (by decide +kernel)
set_option maxRecDepth 65536 in
theorem w_c14 : (Jvm.Cond.code ({ cls := "com/example/meterwise/meterwise/model/WholeNumber", name := "signum", desc := "()I" } : Jvm.MethodName) prog_137_method_9_code (3 : Nat) (Option.some Jvm.ClassFile.FieldType.int)).before args0 about1 = true := code_word (m := ⟨2, 4⟩) (meth := k2m4) (c := k2c4) (by decide +kernel) rfl rfl rfl (by decide +kernel)
set_option maxRecDepth 65536 in
theorem w_c15 : (Jvm.Cond.code ({ cls := "com/example/meterwise/meterwise/model/WholeNumber", name := "work", desc := "()[J" } : Jvm.MethodName) prog_137_method_33_code (1 : Nat) (Option.some (Jvm.ClassFile.FieldType.array Jvm.ClassFile.FieldType.long))).before args0 about1 = true := code_word (m := ⟨2, 12⟩) (meth := k2m12) (c := k2c12) (by decide +kernel) rfl rfl rfl (by decide +kernel)
set_option maxRecDepth 65536 in
theorem w_c16 : (Jvm.Cond.code ({ cls := "com/example/meterwise/meterwise/model/WholeNumber", name := "negate", desc := "()Lcom/example/meterwise/meterwise/model/WholeNumber;" } : Jvm.MethodName) prog_137_method_19_code (4 : Nat) (Option.some (Jvm.ClassFile.FieldType.object "com/example/meterwise/meterwise/model/WholeNumber"))).before args0 about1 = true := code_word (m := ⟨2, 10⟩) (meth := k2m10) (c := k2c10) (by decide +kernel) rfl rfl rfl (by decide +kernel)
set_option maxRecDepth 65536 in
theorem w_c17 : (Jvm.Cond.code ({ cls := "com/example/meterwise/meterwise/model/WholeNumber", name := "multiplyMagnitude", desc := "(J)Z" } : Jvm.MethodName) prog_137_method_18_code (12 : Nat) (Option.some Jvm.ClassFile.FieldType.boolean)).before args0 about1 = true := code_word (m := ⟨2, 9⟩) (meth := k2m9) (c := k2c9) (by decide +kernel) rfl rfl rfl (by decide +kernel)
set_option maxRecDepth 65536 in
theorem w_c18 : (Jvm.Cond.code ({ cls := "com/example/meterwise/meterwise/model/WholeNumber", name := "unsignedMultiplyHigh", desc := "(JJ)J" } : Jvm.MethodName) prog_137_method_34_code (4 : Nat) (Option.some Jvm.ClassFile.FieldType.long)).before args0 about1 = true := code_word (m := ⟨2, 13⟩) (meth := k2m13) (c := k2c13) (by decide +kernel) rfl rfl rfl (by decide +kernel)
set_option maxRecDepth 65536 in
theorem w_c19 : (Jvm.Cond.code ({ cls := "java/lang/Math", name := "multiplyHigh", desc := "(JJ)J" } : Jvm.MethodName) jdk_29_method_45_code (20 : Nat) (Option.some Jvm.ClassFile.FieldType.long)).before args0 about1 = true := code_word (m := ⟨4, 1⟩) (meth := k4m1) (c := k4c1) (by decide +kernel) rfl rfl rfl (by decide +kernel)
set_option maxRecDepth 65536 in
theorem w_c20 : (Jvm.Cond.code ({ cls := "java/lang/Long", name := "compareUnsigned", desc := "(JJ)I" } : Jvm.MethodName) jdk_35_method_43_code (4 : Nat) (Option.some Jvm.ClassFile.FieldType.int)).before args0 about1 = true := code_word (m := ⟨10, 1⟩) (meth := k10m1) (c := k10c1) (by decide +kernel) rfl rfl rfl (by decide +kernel)
set_option maxRecDepth 65536 in
theorem w_c21 : (Jvm.Cond.code ({ cls := "java/lang/Long", name := "compare", desc := "(JJ)I" } : Jvm.MethodName) jdk_35_method_42_code (4 : Nat) (Option.some Jvm.ClassFile.FieldType.int)).before args0 about1 = true := code_word (m := ⟨10, 0⟩) (meth := k10m0) (c := k10c0) (by decide +kernel) rfl rfl rfl (by decide +kernel)
set_option maxRecDepth 65536 in
theorem w_c22 : (Jvm.Cond.code ({ cls := "java/lang/Math", name := "max", desc := "(II)I" } : Jvm.MethodName) jdk_29_method_65_code (2 : Nat) (Option.some Jvm.ClassFile.FieldType.int)).before args0 about1 = true := code_word (m := ⟨4, 2⟩) (meth := k4m2) (c := k4c2) (by decide +kernel) rfl rfl rfl (by decide +kernel)
def codes1 : List Jvm.Cond := [Jvm.Cond.code x code maxLocals ret, Jvm.Cond.code ({ cls := "com/example/meterwise/meterwise/model/WholeNumber", name := "<init>", desc := "(I)V" } : Jvm.MethodName) prog_137_method_1_code (4 : Nat) (Option.none : Option Jvm.ClassFile.FieldType), Jvm.Cond.code ({ cls := "java/lang/Object", name := "<init>", desc := "()V" } : Jvm.MethodName) object_method_1_code (1 : Nat) (Option.none : Option Jvm.ClassFile.FieldType), Jvm.Cond.code ({ cls := "com/example/meterwise/meterwise/model/WholeNumber", name := "set", desc := "(J)Lcom/example/meterwise/meterwise/model/WholeNumber;" } : Jvm.MethodName) prog_137_method_4_code (3 : Nat) (Option.some (Jvm.ClassFile.FieldType.object "com/example/meterwise/meterwise/model/WholeNumber")), Jvm.Cond.code ({ cls := "java/util/Arrays", name := "fill", desc := "([JIIJ)V" } : Jvm.MethodName) jdk_65_method_102_code (6 : Nat) (Option.none : Option Jvm.ClassFile.FieldType), Jvm.Cond.code ({ cls := "java/util/Arrays", name := "rangeCheck", desc := "(III)V" } : Jvm.MethodName) jdk_65_method_30_code (3 : Nat) (Option.none : Option Jvm.ClassFile.FieldType), Jvm.Cond.code ({ cls := "com/example/meterwise/meterwise/model/WholeNumber", name := "multiply", desc := "(Lcom/example/meterwise/meterwise/model/WholeNumber;)Lcom/example/meterwise/meterwise/model/WholeNumber;" } : Jvm.MethodName) prog_137_method_15_code (10 : Nat) (Option.some (Jvm.ClassFile.FieldType.object "com/example/meterwise/meterwise/model/WholeNumber")), Jvm.Cond.code ({ cls := "com/example/meterwise/meterwise/model/WholeNumber", name := "overflowed", desc := "()Z" } : Jvm.MethodName) prog_137_method_8_code (1 : Nat) (Option.some Jvm.ClassFile.FieldType.boolean), Jvm.Cond.code ({ cls := "com/example/meterwise/meterwise/model/WholeNumber", name := "top", desc := "()J" } : Jvm.MethodName) prog_137_method_31_code (1 : Nat) (Option.some Jvm.ClassFile.FieldType.long), Jvm.Cond.code ({ cls := "com/example/meterwise/meterwise/model/WholeNumber", name := "zeroBelowTop", desc := "()Z" } : Jvm.MethodName) prog_137_method_10_code (2 : Nat) (Option.some Jvm.ClassFile.FieldType.boolean), Jvm.Cond.code ({ cls := "com/example/meterwise/meterwise/model/WholeNumber", name := "overflow", desc := "()Lcom/example/meterwise/meterwise/model/WholeNumber;" } : Jvm.MethodName) prog_137_method_7_code (1 : Nat) (Option.some (Jvm.ClassFile.FieldType.object "com/example/meterwise/meterwise/model/WholeNumber")), Jvm.Cond.code ({ cls := "java/util/Arrays", name := "fill", desc := "([JJ)V" } : Jvm.MethodName) jdk_65_method_101_code (5 : Nat) (Option.none : Option Jvm.ClassFile.FieldType), Jvm.Cond.code ({ cls := "com/example/meterwise/meterwise/model/WholeNumber", name := "add", desc := "(Lcom/example/meterwise/meterwise/model/WholeNumber;)Lcom/example/meterwise/meterwise/model/WholeNumber;" } : Jvm.MethodName) prog_137_method_12_code (2 : Nat) (Option.some (Jvm.ClassFile.FieldType.object "com/example/meterwise/meterwise/model/WholeNumber")), Jvm.Cond.code ({ cls := "com/example/meterwise/meterwise/model/WholeNumber", name := "add", desc := "(Lcom/example/meterwise/meterwise/model/WholeNumber;Z)Lcom/example/meterwise/meterwise/model/WholeNumber;" } : Jvm.MethodName) prog_137_method_14_code (21 : Nat) (Option.some (Jvm.ClassFile.FieldType.object "com/example/meterwise/meterwise/model/WholeNumber")), Jvm.Cond.code ({ cls := "com/example/meterwise/meterwise/model/WholeNumber", name := "signum", desc := "()I" } : Jvm.MethodName) prog_137_method_9_code (3 : Nat) (Option.some Jvm.ClassFile.FieldType.int), Jvm.Cond.code ({ cls := "com/example/meterwise/meterwise/model/WholeNumber", name := "work", desc := "()[J" } : Jvm.MethodName) prog_137_method_33_code (1 : Nat) (Option.some (Jvm.ClassFile.FieldType.array Jvm.ClassFile.FieldType.long)), Jvm.Cond.code ({ cls := "com/example/meterwise/meterwise/model/WholeNumber", name := "negate", desc := "()Lcom/example/meterwise/meterwise/model/WholeNumber;" } : Jvm.MethodName) prog_137_method_19_code (4 : Nat) (Option.some (Jvm.ClassFile.FieldType.object "com/example/meterwise/meterwise/model/WholeNumber")), Jvm.Cond.code ({ cls := "com/example/meterwise/meterwise/model/WholeNumber", name := "multiplyMagnitude", desc := "(J)Z" } : Jvm.MethodName) prog_137_method_18_code (12 : Nat) (Option.some Jvm.ClassFile.FieldType.boolean), Jvm.Cond.code ({ cls := "com/example/meterwise/meterwise/model/WholeNumber", name := "unsignedMultiplyHigh", desc := "(JJ)J" } : Jvm.MethodName) prog_137_method_34_code (4 : Nat) (Option.some Jvm.ClassFile.FieldType.long), Jvm.Cond.code ({ cls := "java/lang/Math", name := "multiplyHigh", desc := "(JJ)J" } : Jvm.MethodName) jdk_29_method_45_code (20 : Nat) (Option.some Jvm.ClassFile.FieldType.long), Jvm.Cond.code ({ cls := "java/lang/Long", name := "compareUnsigned", desc := "(JJ)I" } : Jvm.MethodName) jdk_35_method_43_code (4 : Nat) (Option.some Jvm.ClassFile.FieldType.int), Jvm.Cond.code ({ cls := "java/lang/Long", name := "compare", desc := "(JJ)I" } : Jvm.MethodName) jdk_35_method_42_code (4 : Nat) (Option.some Jvm.ClassFile.FieldType.int), Jvm.Cond.code ({ cls := "java/lang/Math", name := "max", desc := "(II)I" } : Jvm.MethodName) jdk_29_method_65_code (2 : Nat) (Option.some Jvm.ClassFile.FieldType.int)]
set_option maxRecDepth 65536 in
theorem codes_eq : words1.filter isCode = codes1 := rfl
theorem w_codes : ∀ c ∈ words1.filter isCode, c.before args0 about1 = true := by
  rw [codes_eq]
  intro c hc
  simp only [codes1, List.mem_cons, List.not_mem_nil, or_false] at hc
  rcases hc with rfl | rfl | rfl | rfl | rfl | rfl | rfl | rfl | rfl | rfl | rfl | rfl | rfl | rfl | rfl | rfl | rfl | rfl | rfl | rfl | rfl | rfl | rfl
  · exact w_c0
  · exact w_c1
  · exact w_c2
  · exact w_c3
  · exact w_c4
  · exact w_c5
  · exact w_c6
  · exact w_c7
  · exact w_c8
  · exact w_c9
  · exact w_c10
  · exact w_c11
  · exact w_c12
  · exact w_c13
  · exact w_c14
  · exact w_c15
  · exact w_c16
  · exact w_c17
  · exact w_c18
  · exact w_c19
  · exact w_c20
  · exact w_c21
  · exact w_c22
set_option maxRecDepth 65536 in
theorem w_t1 : (words1.take 24).all (fun c => isCode c || c.before args0 about1) = true := by decide +kernel
set_option maxRecDepth 65536 in
theorem w_t2 : ((words1.drop 24).take 24).all (fun c => isCode c || c.before args0 about1) = true := by decide +kernel
set_option maxRecDepth 65536 in
theorem w_t3 : (((words1.drop 24).drop 24).take 24).all (fun c => isCode c || c.before args0 about1) = true := by decide +kernel
set_option maxRecDepth 65536 in
theorem w_t4 : ((((words1.drop 24).drop 24).drop 24).take 24).all (fun c => isCode c || c.before args0 about1) = true := by decide +kernel
set_option maxRecDepth 65536 in
theorem w_t5 : ((((words1.drop 24).drop 24).drop 24).drop 24).all (fun c => isCode c || c.before args0 about1) = true := by decide +kernel
theorem w_tables : (allAtoms (Jvm.Cond.code x code maxLocals ret :: tables_1)).before args0 about1 = true := by
  rw [allAtoms_all]
  show words1.all (fun c => c.before args0 about1) = true
  refine all_split ?_ w_codes
  rw [← List.take_append_drop 24 words1, List.all_append, w_t1, ← List.take_append_drop 24 (words1.drop 24), List.all_append, w_t2, ← List.take_append_drop 24 ((words1.drop 24).drop 24), List.all_append, w_t3, ← List.take_append_drop 24 (((words1.drop 24).drop 24).drop 24), List.all_append, w_t4, w_t5]
  rfl
set_option maxRecDepth 65536 in
theorem w_case : (Jvm.Cond.and given_1 narrow_1).before args0 about1 = true := by decide +kernel
theorem w_applies : (headSpec (Jvm.Cond.code x code maxLocals ret :: tables_1) room_1).applies x e0.platform about1 = true :=
  (Spec.applies_iff w_frames).mpr ⟨w_running, w_runnable, w_alone, w_named, w_hears, w_ripe, w_room, w_tables⟩
theorem atStart : AtStart classFile x code maxLocals ret World_1 tables_1 room_1 Calls_1 rest_1 Pre_1 launch0 p0 e0 about1 theMethod args0 below0 :=
  ⟨lists_1, trivial, launch0.admits_env _ _ _, launch0.least_env, fairChoices_fair.cas, fairChoices_fair.clock, w_frames, w_args, w_heap, w_applies, trivial, trivial, w_case⟩
end start1
theorem witness_1 : WitnessClaimed_1 := ⟨start1.p0, start1.e0, start1.about1, start1.theMethod, start1.args0, start1.below0, start1.atStart⟩
end Jvm.Pilot.@@N@@
