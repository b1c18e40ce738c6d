import JvmDerived
import JvmDerived.Pilot.@@N@@Statement
import JvmDerived.Pilot.@@N@@Code
set_option linter.unusedVariables false
set_option linter.unusedSimpArgs false
set_option maxRecDepth 65536
set_option maxHeartbeats 40000000
namespace Jvm.OwnWk
open Sem ClassFile Op Lib Jvm.Stand Jvm.Free Jvm.LawKit Jvm.RoadKit
def Sd (Z : State) (own : String) (bs : ByteArray) (mx : Nat) (ret : Option FieldType) (n0 : Nat) (p : Program) (l : Launch) (e : Env) (R : Room) (s : State) (m : MethodId) (args : Array Value) (below : List Frame) (meth : Method) (c : Code) (T : State) (h : Heap) (k n : Nat) : Prop :=
  ∃ locs, Stand p l e R s m args below meth c T locs k n ∧ T.heap = h ∧ Fr n0 locs ∧ n0 ≤ s.heap.size ∧ p.tables.exec = Jvm.exec ∧ Z.Warmed39 s.vm ∧ s.vm.findClass own = some m.cls ∧ c.code = bs ∧ c.maxLocals = mx ∧ meth.sig.returnType = ret ∧ meth.locks = false
def Gl (p : Program) (e : Env) (below : List Frame) (P : Outcome → State → Prop) (A : State) : Prop := ∃ t o, Steps p.tables e below A t ∧ t.status = .running ∧ Ended t below o ∧ P o t
def Pst (s : State) (n0 K N : Nat) (Q : Option Value → Heap → Prop) (o : Outcome) (t : State) : Prop := ∃ v L, o = .returned v ∧ (Q v t.heap ∧ Fr n0 L) ∧ FrameEnd s o t L K N
def OMet (l : Launch) (Z : State) (ws : List Jvm.Cond) (y : MethodName) (bs : ByteArray) (mx : Nat) (ret : Option FieldType) (rm : Room) (as : Array Value) (h : Heap) (n0 : Nat) (Q : Option Value → Heap → Prop) : Prop :=
  MetFree l y (head1 (Jvm.Cond.code y bs mx ret :: ws) rm) (fun a U => a = as ∧ Z.Warmed39 U.vm ∧ U.heap = h) (fun _ _ _ _ _ => True) (fun _ U o U' => ∃ v L, o = .returned v ∧ (Q v U'.heap ∧ Fr n0 L) ∧ FrameEnd U o U' L rm.cells rm.slots)
def own_ne (a b : Addr) : Prop := a ≠ b
section Kit
variable {Z : State} {own : String} {bs : ByteArray} {mx : Nat} {ret : Option FieldType} {n0 : Nat} {p : Program} {l : Launch} {e : Env} {R : Room} {s : State} {m : MethodId} {args : Array Value} {below : List Frame} {meth : Method} {c : Code} {T : State} {h : Heap} {k n : Nat} {P : Outcome → State → Prop} {L : Array Slot} {S : List Value} {pc pc' pcT pcF : Nat} {a0 : Array Value} {t : FieldType}
theorem Gl.of1 {A B : State} (f : ∀ t, Steps p.tables e below B t → Steps p.tables e below A t) (q : Gl p e below P B) : Gl p e below P A := by
  obtain ⟨t, o, h1, h2⟩ := q
  exact ⟨t, o, f t h1, h2⟩
theorem Gl.via {A B : State} (f : Steps p.tables e below A B) (q : Gl p e below P B) : Gl p e below P A := by
  obtain ⟨t, o, h1, h2⟩ := q
  exact ⟨t, o, f.trans h1, h2⟩
theorem OMet.of {ws : List Jvm.Cond} {y : MethodName} {rm : Room} {as : Array Value} {Q : Option Value → Heap → Prop} (ho : y.cls = own) (hpl : plainFor y = true) (hef : ∀ m, entryFrame m as mx = mkF m 0 L []) (hn : n0 ≤ h.size)
    (body : ∀ p e s m below meth c T, Sd Z own bs mx ret n0 p l e rm s m as below meth c T h 0 0 → meth.name = y.name → Gl p e below (Pst s n0 rm.cells rm.slots Q) (T.setTop (mkF m 0 L []))) : OMet l Z ws y bs mx ret rm as h n0 Q := by
  subst ho
  refine MetFree.of_bodySF hpl hisR ?_
  intro p e s m args below meth c s₁ Bd hml0 hP hK
  obtain ⟨rfl, hZ, hh⟩ := hP
  have e0 : s₁.heap = h := by rw [← hh, Bd.state]; rfl
  obtain ⟨t, o, h1, h2, h3, h4⟩ := body p e s m below meth c s₁ ⟨[], Stand.of_body Bd, e0, Fr.nil n0, by rw [hh]; exact hn, Bd.exec, hZ, findClass_of_methodNamed Bd.named, Bd.bytes, hml0, Bd.returns, Bd.notSynchronized⟩ (name_of_methodNamed Bd.named Bd.method).1
  exact ⟨t, o, castTop (hef m) h1, h2, h3, h4⟩

theorem own_grow {T' : State} {locs' : List Loc} {k' n' : Nat} (X : Stand p l e R s m args below meth c T' locs' k' n') : s.heap.size ≤ T'.heap.size := X.same.2.1
theorem own_eqI {args : Array Value} {Z : State} {t : Term} {v : Int32} (q : (Jvm.Cond.eq t (.int v)).value args Z none Z [] = some true) : t.eval args Z none [] Z = some (.int v) := by
  simp only [Cond.value, Term.eval] at q
  cases ht : t.eval args Z none [] Z with
  | none => simp [ht] at q
  | some w => cases w <;> simp [ht] at q ⊢ <;> exact q
theorem own_ite {c A B : Prop} [Decidable c] (h1 : c → A) (h2 : ¬ c → B) : A ∨ B := if q : c then Or.inl (h1 q) else Or.inr (h2 q)
theorem own_cut {A B : Prop} (f : B → A) (b : B) : A := f b
theorem Sd.sz (Y : Sd Z own bs mx ret n0 p l e R s m args below meth c T h k n) : n0 ≤ h.size := by
  obtain ⟨locs, X, eT, N, hn0, hx, hZ, hown, hby, hml, hrt, hlk⟩ := Y
  exact eT ▸ Nat.le_trans hn0 (own_grow X)
theorem own_narB {a v : Int32} (h : a.toInt8.toInt32 = v) : nar .byte v = v := by subst h; simp [nar]
theorem own_narC {a v : Int32} (h : a.toUInt32.toUInt16.toUInt32.toInt32 = v) : nar .char v = v := by subst h; have q := Jvm.Free.XT.narrow_c a; exact Value.int.inj q
theorem own_narS {a v : Int32} (h : a.toInt16.toInt32 = v) : nar .short v = v := by subst h; simp [nar]
theorem own_c3 {v : Int32} (h0 : 0 ≤ v.toInt) (h : v.toInt ≤ 3) : v = 0 ∨ v = 1 ∨ v = 2 ∨ v = 3 := by
  have : v.toInt = 0 ∨ v.toInt = 1 ∨ v.toInt = 2 ∨ v.toInt = 3 := by omega
  rcases this with q | q | q | q <;> simp [← Int32.toInt_inj, q]
theorem own_c4 {v : Int32} (h0 : 0 ≤ v.toInt) (h : v.toInt ≤ 4) : v = 0 ∨ v = 1 ∨ v = 2 ∨ v = 3 ∨ v = 4 := by
  have : v.toInt = 0 ∨ v.toInt = 1 ∨ v.toInt = 2 ∨ v.toInt = 3 ∨ v.toInt = 4 := by omega
  rcases this with q | q | q | q | q <;> simp [← Int32.toInt_inj, q]
theorem own_c5 {v : Int32} (h0 : 0 ≤ v.toInt) (h : v.toInt ≤ 5) : v = 0 ∨ v = 1 ∨ v = 2 ∨ v = 3 ∨ v = 4 ∨ v = 5 := by
  have : v.toInt = 0 ∨ v.toInt = 1 ∨ v.toInt = 2 ∨ v.toInt = 3 ∨ v.toInt = 4 ∨ v.toInt = 5 := by omega
  rcases this with q | q | q | q | q | q <;> simp [← Int32.toInt_inj, q]
theorem own_narR {t : FieldType} {x : Value} (q : x.isRef = true) : narrow t x = x := by rcases ref_cases q with rfl | ⟨z, rfl⟩ <;> cases t <;> rfl
theorem OMet.un {l : Launch} {Z : State} {ws : List Jvm.Cond} {y : MethodName} {bs : ByteArray} {mx : Nat} {ret : Option FieldType} {rm : Room} {as : Array Value} {h : Heap} {n0 : Nat} {Q : Option Value → Heap → Prop} (q : OMet l Z ws y bs mx ret rm as h n0 Q) :
  MetFree l y (head1 (Jvm.Cond.code y bs mx ret :: ws) rm) (fun a U => a = as ∧ Z.Warmed39 U.vm ∧ U.heap = h) (fun _ _ _ _ _ => True) (fun _ U o U' => ∃ v L, o = .returned v ∧ (fun v h' L => Q v h' ∧ Fr n0 L) v U'.heap L ∧ FrameEnd U o U' L rm.cells rm.slots) := q
theorem own_not64 (x : Int64) : (x ^^^ (-1)).toInt = -x.toInt - 1 := by
  have h1 : x ^^^ (-1) = ~~~x := by
    apply Int64.toBitVec_inj.mp
    rw [Int64.toBitVec_xor, Int64.toBitVec_not]
    exact BitVec.xor_allOnes
  rw [h1, Int64.not_eq_neg_sub]
  have q := c_lsub (-x) 1
  have r := c_lneg x
  have n1 := rng64 (-x - 1)
  have n2 := rng64 (-x)
  have n3 := rng64 x
  simp only [Int64.reduceToInt] at q
  omega
theorem own_narZ {x : Int32} (q : x = 0 ∨ x = 1) : nar .boolean x = x := by rcases q with rfl | rfl <;> rfl
theorem own_nZ {x : Int32} (q : x = 0 ∨ x = 1) : narrow .boolean (.int x) = .int x := by rcases q with rfl | rfl <;> rfl
theorem own_fZ {x : Int32} (q : x = 0 ∨ x = 1) : fits .boolean (.int x) = true := by rcases q with rfl | rfl <;> rfl
theorem Gl.iadd (Y : Sd Z own bs mx ret n0 p l e R s m args below meth c T h k n) {x y : Int32} {r : Int32} (hr : x + y = r) (hd : decode bs pc = .ok (.iadd, 1)) (hp : pc + 1 = pc') (q : Gl p e below P (T.setTop (mkF m pc' L (.int r :: S)))) : Gl p e below P (T.setTop (mkF m pc L (.int y :: .int x :: S))) := by
  obtain ⟨locs, X, eT, N, hn0, hx, hZ, hown, hby, hml, hrt, hlk⟩ := Y
  subst hp hr
  exact q.of1 fun t q => XS.iadd X.here hx rfl (hb hby hd) rfl q
theorem Gl.isub (Y : Sd Z own bs mx ret n0 p l e R s m args below meth c T h k n) {x y : Int32} {r : Int32} (hr : x - y = r) (hd : decode bs pc = .ok (.isub, 1)) (hp : pc + 1 = pc') (q : Gl p e below P (T.setTop (mkF m pc' L (.int r :: S)))) : Gl p e below P (T.setTop (mkF m pc L (.int y :: .int x :: S))) := by
  obtain ⟨locs, X, eT, N, hn0, hx, hZ, hown, hby, hml, hrt, hlk⟩ := Y
  subst hp hr
  exact q.of1 fun t q => XS.isub X.here hx rfl (hb hby hd) rfl q
theorem Gl.imul (Y : Sd Z own bs mx ret n0 p l e R s m args below meth c T h k n) {x y : Int32} {r : Int32} (hr : x * y = r) (hd : decode bs pc = .ok (.imul, 1)) (hp : pc + 1 = pc') (q : Gl p e below P (T.setTop (mkF m pc' L (.int r :: S)))) : Gl p e below P (T.setTop (mkF m pc L (.int y :: .int x :: S))) := by
  obtain ⟨locs, X, eT, N, hn0, hx, hZ, hown, hby, hml, hrt, hlk⟩ := Y
  subst hp hr
  exact q.of1 fun t q => XS.imul X.here hx rfl (hb hby hd) rfl q
theorem Gl.iand (Y : Sd Z own bs mx ret n0 p l e R s m args below meth c T h k n) {x y : Int32} {r : Int32} (hr : x &&& y = r) (hd : decode bs pc = .ok (.iand, 1)) (hp : pc + 1 = pc') (q : Gl p e below P (T.setTop (mkF m pc' L (.int r :: S)))) : Gl p e below P (T.setTop (mkF m pc L (.int y :: .int x :: S))) := by
  obtain ⟨locs, X, eT, N, hn0, hx, hZ, hown, hby, hml, hrt, hlk⟩ := Y
  subst hp hr
  exact q.of1 fun t q => XS.iand X.here hx rfl (hb hby hd) rfl q
theorem Gl.ior (Y : Sd Z own bs mx ret n0 p l e R s m args below meth c T h k n) {x y : Int32} {r : Int32} (hr : x ||| y = r) (hd : decode bs pc = .ok (.ior, 1)) (hp : pc + 1 = pc') (q : Gl p e below P (T.setTop (mkF m pc' L (.int r :: S)))) : Gl p e below P (T.setTop (mkF m pc L (.int y :: .int x :: S))) := by
  obtain ⟨locs, X, eT, N, hn0, hx, hZ, hown, hby, hml, hrt, hlk⟩ := Y
  subst hp hr
  exact q.of1 fun t q => XS.ior X.here hx rfl (hb hby hd) rfl q
theorem Gl.ixor (Y : Sd Z own bs mx ret n0 p l e R s m args below meth c T h k n) {x y : Int32} {r : Int32} (hr : x ^^^ y = r) (hd : decode bs pc = .ok (.ixor, 1)) (hp : pc + 1 = pc') (q : Gl p e below P (T.setTop (mkF m pc' L (.int r :: S)))) : Gl p e below P (T.setTop (mkF m pc L (.int y :: .int x :: S))) := by
  obtain ⟨locs, X, eT, N, hn0, hx, hZ, hown, hby, hml, hrt, hlk⟩ := Y
  subst hp hr
  exact q.of1 fun t q => XS.ixor X.here hx rfl (hb hby hd) rfl q
theorem Gl.ishl (Y : Sd Z own bs mx ret n0 p l e R s m args below meth c T h k n) {x y : Int32} {r : Int32} (hr : x <<< (y &&& 31) = r) (hd : decode bs pc = .ok (.ishl, 1)) (hp : pc + 1 = pc') (q : Gl p e below P (T.setTop (mkF m pc' L (.int r :: S)))) : Gl p e below P (T.setTop (mkF m pc L (.int y :: .int x :: S))) := by
  obtain ⟨locs, X, eT, N, hn0, hx, hZ, hown, hby, hml, hrt, hlk⟩ := Y
  subst hp hr
  exact q.of1 fun t q => XS.ishl X.here hx rfl (hb hby hd) rfl q
theorem Gl.ishr (Y : Sd Z own bs mx ret n0 p l e R s m args below meth c T h k n) {x y : Int32} {r : Int32} (hr : x >>> (y &&& 31) = r) (hd : decode bs pc = .ok (.ishr, 1)) (hp : pc + 1 = pc') (q : Gl p e below P (T.setTop (mkF m pc' L (.int r :: S)))) : Gl p e below P (T.setTop (mkF m pc L (.int y :: .int x :: S))) := by
  obtain ⟨locs, X, eT, N, hn0, hx, hZ, hown, hby, hml, hrt, hlk⟩ := Y
  subst hp hr
  exact q.of1 fun t q => XS.ishr X.here hx rfl (hb hby hd) rfl q
theorem Gl.iushr (Y : Sd Z own bs mx ret n0 p l e R s m args below meth c T h k n) {x y : Int32} {r : Int32} (hr : (x.toUInt32 >>> (y &&& 31).toUInt32).toInt32 = r) (hd : decode bs pc = .ok (.iushr, 1)) (hp : pc + 1 = pc') (q : Gl p e below P (T.setTop (mkF m pc' L (.int r :: S)))) : Gl p e below P (T.setTop (mkF m pc L (.int y :: .int x :: S))) := by
  obtain ⟨locs, X, eT, N, hn0, hx, hZ, hown, hby, hml, hrt, hlk⟩ := Y
  subst hp hr
  exact q.of1 fun t q => XS.iushr X.here hx rfl (hb hby hd) rfl q
theorem Gl.ladd (Y : Sd Z own bs mx ret n0 p l e R s m args below meth c T h k n) {x y : Int64} {r : Int64} (hr : x + y = r) (hd : decode bs pc = .ok (.ladd, 1)) (hp : pc + 1 = pc') (q : Gl p e below P (T.setTop (mkF m pc' L (.long r :: S)))) : Gl p e below P (T.setTop (mkF m pc L (.long y :: .long x :: S))) := by
  obtain ⟨locs, X, eT, N, hn0, hx, hZ, hown, hby, hml, hrt, hlk⟩ := Y
  subst hp hr
  exact q.of1 fun t q => XS.ladd X.here hx rfl (hb hby hd) rfl q
theorem Gl.lsub (Y : Sd Z own bs mx ret n0 p l e R s m args below meth c T h k n) {x y : Int64} {r : Int64} (hr : x - y = r) (hd : decode bs pc = .ok (.lsub, 1)) (hp : pc + 1 = pc') (q : Gl p e below P (T.setTop (mkF m pc' L (.long r :: S)))) : Gl p e below P (T.setTop (mkF m pc L (.long y :: .long x :: S))) := by
  obtain ⟨locs, X, eT, N, hn0, hx, hZ, hown, hby, hml, hrt, hlk⟩ := Y
  subst hp hr
  exact q.of1 fun t q => XS.lsub X.here hx rfl (hb hby hd) rfl q
theorem Gl.lmul (Y : Sd Z own bs mx ret n0 p l e R s m args below meth c T h k n) {x y : Int64} {r : Int64} (hr : x * y = r) (hd : decode bs pc = .ok (.lmul, 1)) (hp : pc + 1 = pc') (q : Gl p e below P (T.setTop (mkF m pc' L (.long r :: S)))) : Gl p e below P (T.setTop (mkF m pc L (.long y :: .long x :: S))) := by
  obtain ⟨locs, X, eT, N, hn0, hx, hZ, hown, hby, hml, hrt, hlk⟩ := Y
  subst hp hr
  exact q.of1 fun t q => XS.lmul X.here hx rfl (hb hby hd) rfl q
theorem Gl.land (Y : Sd Z own bs mx ret n0 p l e R s m args below meth c T h k n) {x y : Int64} {r : Int64} (hr : x &&& y = r) (hd : decode bs pc = .ok (.land, 1)) (hp : pc + 1 = pc') (q : Gl p e below P (T.setTop (mkF m pc' L (.long r :: S)))) : Gl p e below P (T.setTop (mkF m pc L (.long y :: .long x :: S))) := by
  obtain ⟨locs, X, eT, N, hn0, hx, hZ, hown, hby, hml, hrt, hlk⟩ := Y
  subst hp hr
  exact q.of1 fun t q => XS.land X.here hx rfl (hb hby hd) rfl q
theorem Gl.lor (Y : Sd Z own bs mx ret n0 p l e R s m args below meth c T h k n) {x y : Int64} {r : Int64} (hr : x ||| y = r) (hd : decode bs pc = .ok (.lor, 1)) (hp : pc + 1 = pc') (q : Gl p e below P (T.setTop (mkF m pc' L (.long r :: S)))) : Gl p e below P (T.setTop (mkF m pc L (.long y :: .long x :: S))) := by
  obtain ⟨locs, X, eT, N, hn0, hx, hZ, hown, hby, hml, hrt, hlk⟩ := Y
  subst hp hr
  exact q.of1 fun t q => XS.lor X.here hx rfl (hb hby hd) rfl q
theorem Gl.lxor (Y : Sd Z own bs mx ret n0 p l e R s m args below meth c T h k n) {x y : Int64} {r : Int64} (hr : x ^^^ y = r) (hd : decode bs pc = .ok (.lxor, 1)) (hp : pc + 1 = pc') (q : Gl p e below P (T.setTop (mkF m pc' L (.long r :: S)))) : Gl p e below P (T.setTop (mkF m pc L (.long y :: .long x :: S))) := by
  obtain ⟨locs, X, eT, N, hn0, hx, hZ, hown, hby, hml, hrt, hlk⟩ := Y
  subst hp hr
  exact q.of1 fun t q => XS.lxor X.here hx rfl (hb hby hd) rfl q
theorem Gl.lshl (Y : Sd Z own bs mx ret n0 p l e R s m args below meth c T h k n) {x : Int64} {y : Int32} {r : Int64} (hr : x <<< (y &&& 0x3f).toInt64 = r) (hd : decode bs pc = .ok (.lshl, 1)) (hp : pc + 1 = pc') (q : Gl p e below P (T.setTop (mkF m pc' L (.long r :: S)))) : Gl p e below P (T.setTop (mkF m pc L (.int y :: .long x :: S))) := by
  obtain ⟨locs, X, eT, N, hn0, hx, hZ, hown, hby, hml, hrt, hlk⟩ := Y
  subst hp hr
  exact q.of1 fun t q => XS.lshl X.here hx rfl (hb hby hd) rfl q
theorem Gl.lshr (Y : Sd Z own bs mx ret n0 p l e R s m args below meth c T h k n) {x : Int64} {y : Int32} {r : Int64} (hr : x >>> (y &&& 0x3f).toInt64 = r) (hd : decode bs pc = .ok (.lshr, 1)) (hp : pc + 1 = pc') (q : Gl p e below P (T.setTop (mkF m pc' L (.long r :: S)))) : Gl p e below P (T.setTop (mkF m pc L (.int y :: .long x :: S))) := by
  obtain ⟨locs, X, eT, N, hn0, hx, hZ, hown, hby, hml, hrt, hlk⟩ := Y
  subst hp hr
  exact q.of1 fun t q => XS.lshr X.here hx rfl (hb hby hd) rfl q
theorem Gl.lushr (Y : Sd Z own bs mx ret n0 p l e R s m args below meth c T h k n) {x : Int64} {y : Int32} {r : Int64} (hr : (x.toUInt64 >>> (y &&& 0x3f).toInt64.toUInt64).toInt64 = r) (hd : decode bs pc = .ok (.lushr, 1)) (hp : pc + 1 = pc') (q : Gl p e below P (T.setTop (mkF m pc' L (.long r :: S)))) : Gl p e below P (T.setTop (mkF m pc L (.int y :: .long x :: S))) := by
  obtain ⟨locs, X, eT, N, hn0, hx, hZ, hown, hby, hml, hrt, hlk⟩ := Y
  subst hp hr
  exact q.of1 fun t q => XS.lushr X.here hx rfl (hb hby hd) rfl q
theorem Gl.idiv (Y : Sd Z own bs mx ret n0 p l e R s m args below meth c T h k n) {x y : Int32} (hy : y ≠ 0) {r : Int32} (hr : x / y = r) (hd : decode bs pc = .ok (.idiv, 1)) (hp : pc + 1 = pc') (q : Gl p e below P (T.setTop (mkF m pc' L (.int r :: S)))) : Gl p e below P (T.setTop (mkF m pc L (.int y :: .int x :: S))) := by
  obtain ⟨locs, X, eT, N, hn0, hx, hZ, hown, hby, hml, hrt, hlk⟩ := Y
  subst hp hr
  exact q.of1 fun t q => XS.idiv X.here hx rfl (hb hby hd) rfl hy q
theorem Gl.irem (Y : Sd Z own bs mx ret n0 p l e R s m args below meth c T h k n) {x y : Int32} (hy : y ≠ 0) {r : Int32} (hr : x % y = r) (hd : decode bs pc = .ok (.irem, 1)) (hp : pc + 1 = pc') (q : Gl p e below P (T.setTop (mkF m pc' L (.int r :: S)))) : Gl p e below P (T.setTop (mkF m pc L (.int y :: .int x :: S))) := by
  obtain ⟨locs, X, eT, N, hn0, hx, hZ, hown, hby, hml, hrt, hlk⟩ := Y
  subst hp hr
  exact q.of1 fun t q => iremM X hx rfl (hb hby hd) rfl hy q
theorem Gl.ldiv (Y : Sd Z own bs mx ret n0 p l e R s m args below meth c T h k n) {x y : Int64} (hy : y ≠ 0) {r : Int64} (hr : x / y = r) (hd : decode bs pc = .ok (.ldiv, 1)) (hp : pc + 1 = pc') (q : Gl p e below P (T.setTop (mkF m pc' L (.long r :: S)))) : Gl p e below P (T.setTop (mkF m pc L (.long y :: .long x :: S))) := by
  obtain ⟨locs, X, eT, N, hn0, hx, hZ, hown, hby, hml, hrt, hlk⟩ := Y
  subst hp hr
  exact q.of1 fun t q => XS.ldiv X.here hx rfl (hb hby hd) rfl hy q
theorem Gl.lrem (Y : Sd Z own bs mx ret n0 p l e R s m args below meth c T h k n) {x y : Int64} (hy : y ≠ 0) {r : Int64} (hr : x % y = r) (hd : decode bs pc = .ok (.lrem, 1)) (hp : pc + 1 = pc') (q : Gl p e below P (T.setTop (mkF m pc' L (.long r :: S)))) : Gl p e below P (T.setTop (mkF m pc L (.long y :: .long x :: S))) := by
  obtain ⟨locs, X, eT, N, hn0, hx, hZ, hown, hby, hml, hrt, hlk⟩ := Y
  subst hp hr
  exact q.of1 fun t q => XS.lrem X.here hx rfl (hb hby hd) rfl hy (by rw [lrem_mod]; exact q)
theorem Gl.ineg (Y : Sd Z own bs mx ret n0 p l e R s m args below meth c T h k n) {x : Int32} {r : Int32} (hr : -x = r) (hd : decode bs pc = .ok (.ineg, 1)) (hp : pc + 1 = pc') (q : Gl p e below P (T.setTop (mkF m pc' L (.int r :: S)))) : Gl p e below P (T.setTop (mkF m pc L (.int x :: S))) := by
  obtain ⟨locs, X, eT, N, hn0, hx, hZ, hown, hby, hml, hrt, hlk⟩ := Y
  subst hp hr
  exact q.of1 fun t q => XS.ineg X.here hx rfl (hb hby hd) rfl q
theorem Gl.lneg (Y : Sd Z own bs mx ret n0 p l e R s m args below meth c T h k n) {x : Int64} {r : Int64} (hr : -x = r) (hd : decode bs pc = .ok (.lneg, 1)) (hp : pc + 1 = pc') (q : Gl p e below P (T.setTop (mkF m pc' L (.long r :: S)))) : Gl p e below P (T.setTop (mkF m pc L (.long x :: S))) := by
  obtain ⟨locs, X, eT, N, hn0, hx, hZ, hown, hby, hml, hrt, hlk⟩ := Y
  subst hp hr
  exact q.of1 fun t q => XS.lneg X.here hx rfl (hb hby hd) rfl q
theorem Gl.i2b (Y : Sd Z own bs mx ret n0 p l e R s m args below meth c T h k n) {x : Int32} {r : Int32} (hr : x.toInt8.toInt32 = r) (hd : decode bs pc = .ok (.i2b, 1)) (hp : pc + 1 = pc') (q : Gl p e below P (T.setTop (mkF m pc' L (.int r :: S)))) : Gl p e below P (T.setTop (mkF m pc L (.int x :: S))) := by
  obtain ⟨locs, X, eT, N, hn0, hx, hZ, hown, hby, hml, hrt, hlk⟩ := Y
  subst hp hr
  exact q.of1 fun t q => XS.i2b X.here hx rfl (hb hby hd) rfl q
theorem Gl.i2c (Y : Sd Z own bs mx ret n0 p l e R s m args below meth c T h k n) {x : Int32} {r : Int32} (hr : x.toUInt32.toUInt16.toUInt32.toInt32 = r) (hd : decode bs pc = .ok (.i2c, 1)) (hp : pc + 1 = pc') (q : Gl p e below P (T.setTop (mkF m pc' L (.int r :: S)))) : Gl p e below P (T.setTop (mkF m pc L (.int x :: S))) := by
  obtain ⟨locs, X, eT, N, hn0, hx, hZ, hown, hby, hml, hrt, hlk⟩ := Y
  subst hp hr
  exact q.of1 fun t q => XS.i2c X.here hx rfl (hb hby hd) rfl q
theorem Gl.i2s (Y : Sd Z own bs mx ret n0 p l e R s m args below meth c T h k n) {x : Int32} {r : Int32} (hr : x.toInt16.toInt32 = r) (hd : decode bs pc = .ok (.i2s, 1)) (hp : pc + 1 = pc') (q : Gl p e below P (T.setTop (mkF m pc' L (.int r :: S)))) : Gl p e below P (T.setTop (mkF m pc L (.int x :: S))) := by
  obtain ⟨locs, X, eT, N, hn0, hx, hZ, hown, hby, hml, hrt, hlk⟩ := Y
  subst hp hr
  exact q.of1 fun t q => XS.i2s X.here hx rfl (hb hby hd) rfl q
theorem Gl.i2l (Y : Sd Z own bs mx ret n0 p l e R s m args below meth c T h k n) {x : Int32} {r : Int64} (hr : x.toInt64 = r) (hd : decode bs pc = .ok (.i2l, 1)) (hp : pc + 1 = pc') (q : Gl p e below P (T.setTop (mkF m pc' L (.long r :: S)))) : Gl p e below P (T.setTop (mkF m pc L (.int x :: S))) := by
  obtain ⟨locs, X, eT, N, hn0, hx, hZ, hown, hby, hml, hrt, hlk⟩ := Y
  subst hp hr
  exact q.of1 fun t q => XS.i2l X.here hx rfl (hb hby hd) rfl q
theorem Gl.l2i (Y : Sd Z own bs mx ret n0 p l e R s m args below meth c T h k n) {x : Int64} {r : Int32} (hr : x.toInt32 = r) (hd : decode bs pc = .ok (.l2i, 1)) (hp : pc + 1 = pc') (q : Gl p e below P (T.setTop (mkF m pc' L (.int r :: S)))) : Gl p e below P (T.setTop (mkF m pc L (.long x :: S))) := by
  obtain ⟨locs, X, eT, N, hn0, hx, hZ, hown, hby, hml, hrt, hlk⟩ := Y
  subst hp hr
  exact q.of1 fun t q => XS.l2i X.here hx rfl (hb hby hd) rfl q
theorem Gl.iconst (Y : Sd Z own bs mx ret n0 p l e R s m args below meth c T h k n) {i : Int} {v : Int32} (hv : Int32.ofInt i = v) (hd : decode bs pc = .ok (.iconst i, 1)) (hp : pc + 1 = pc') (q : Gl p e below P (T.setTop (mkF m pc' L (.int v :: S)))) : Gl p e below P (T.setTop (mkF m pc L S)) := by
  obtain ⟨locs, X, eT, N, hn0, hx, hZ, hown, hby, hml, hrt, hlk⟩ := Y
  subst hp
  exact q.of1 fun t q => XS.iconst X.here hx rfl (hb hby hd) (by rw [hv]; exact q)
theorem Gl.bipush (Y : Sd Z own bs mx ret n0 p l e R s m args below meth c T h k n) {i : Int} {v : Int32} (hv : (Int8.ofInt i).toInt32 = v) (hd : decode bs pc = .ok (.bipush i, 2)) (hp : pc + 2 = pc') (q : Gl p e below P (T.setTop (mkF m pc' L (.int v :: S)))) : Gl p e below P (T.setTop (mkF m pc L S)) := by
  obtain ⟨locs, X, eT, N, hn0, hx, hZ, hown, hby, hml, hrt, hlk⟩ := Y
  subst hp
  exact q.of1 fun t q => XS.bipush X.here hx rfl (hb hby hd) (by rw [hv]; exact q)
theorem Gl.sipush (Y : Sd Z own bs mx ret n0 p l e R s m args below meth c T h k n) {i : Int} {v : Int32} (hv : (Int16.ofInt i).toInt32 = v) (hd : decode bs pc = .ok (.sipush i, 3)) (hp : pc + 3 = pc') (q : Gl p e below P (T.setTop (mkF m pc' L (.int v :: S)))) : Gl p e below P (T.setTop (mkF m pc L S)) := by
  obtain ⟨locs, X, eT, N, hn0, hx, hZ, hown, hby, hml, hrt, hlk⟩ := Y
  subst hp
  exact q.of1 fun t q => XS.sipush X.here hx rfl (hb hby hd) (by rw [hv]; exact q)
theorem Gl.lconst (Y : Sd Z own bs mx ret n0 p l e R s m args below meth c T h k n) {i : Fin 2} {v : Int64} (hv : Int64.ofNat i = v) (hd : decode bs pc = .ok (.lconst i, 1)) (hp : pc + 1 = pc') (q : Gl p e below P (T.setTop (mkF m pc' L (.long v :: S)))) : Gl p e below P (T.setTop (mkF m pc L S)) := by
  obtain ⟨locs, X, eT, N, hn0, hx, hZ, hown, hby, hml, hrt, hlk⟩ := Y
  subst hp
  exact q.of1 fun t q => XS.lconst X.here hx rfl (hb hby hd) (by rw [hv]; exact q)
theorem Gl.aconstNull (Y : Sd Z own bs mx ret n0 p l e R s m args below meth c T h k n)  (hd : decode bs pc = .ok (.aconst_null, 1)) (hp : pc + 1 = pc') (q : Gl p e below P (T.setTop (mkF m pc' L (.null :: S)))) : Gl p e below P (T.setTop (mkF m pc L S)) := by
  obtain ⟨locs, X, eT, N, hn0, hx, hZ, hown, hby, hml, hrt, hlk⟩ := Y
  subst hp
  exact q.of1 fun t q => XS.aconstNull X.here hx rfl (hb hby hd) q
theorem Gl.ldcI (Y : Sd Z own bs mx ret n0 p l e R s m args below meth c T h k n) {i : Nat} {v : Int32} (w : (Jvm.Cond.constant own i v).before a0 Z = true) (hd : decode bs pc = .ok (.ldc i, 2)) (hp : pc + 2 = pc') (q : Gl p e below P (T.setTop (mkF m pc' L (.int v :: S)))) : Gl p e below P (T.setTop (mkF m pc L S)) := by
  obtain ⟨locs, X, eT, N, hn0, hx, hZ, hown, hby, hml, hrt, hlk⟩ := Y
  subst hp
  exact q.of1 fun t q => X.ldcInt hx hown (mvT hZ w) (g := mkF m pc L S) rfl (hb hby hd) t q
theorem Gl.ldcWI (Y : Sd Z own bs mx ret n0 p l e R s m args below meth c T h k n) {i : Nat} {v : Int32} (w : (Jvm.Cond.constant own i v).before a0 Z = true) (hd : decode bs pc = .ok (.ldc_w i, 3)) (hp : pc + 3 = pc') (q : Gl p e below P (T.setTop (mkF m pc' L (.int v :: S)))) : Gl p e below P (T.setTop (mkF m pc L S)) := by
  obtain ⟨locs, X, eT, N, hn0, hx, hZ, hown, hby, hml, hrt, hlk⟩ := Y
  subst hp
  exact q.of1 fun t q => X.ldcWI hx hown (mvT hZ w) (g := mkF m pc L S) rfl (hb hby hd) q
theorem Gl.ldcJ (Y : Sd Z own bs mx ret n0 p l e R s m args below meth c T h k n) {i : Nat} {v : Int64} (w : (Jvm.Cond.constantLong own i v).before a0 Z = true) (hd : decode bs pc = .ok (.ldc2_w i, 3)) (hp : pc + 3 = pc') (q : Gl p e below P (T.setTop (mkF m pc' L (.long v :: S)))) : Gl p e below P (T.setTop (mkF m pc L S)) := by
  obtain ⟨locs, X, eT, N, hn0, hx, hZ, hown, hby, hml, hrt, hlk⟩ := Y
  subst hp
  exact q.of1 fun t q => X.ldc2Long hx hown (mvT hZ w) (g := mkF m pc L S) rfl (hb hby hd) t q
theorem Gl.ldcD (Y : Sd Z own bs mx ret n0 p l e R s m args below meth c T h k n) {i : Nat} {v : UInt64} (w : (Jvm.Cond.constantDouble own i v).before a0 Z = true) (hd : decode bs pc = .ok (.ldc2_w i, 3)) (hp : pc + 3 = pc') (q : Gl p e below P (T.setTop (mkF m pc' L (.double v :: S)))) : Gl p e below P (T.setTop (mkF m pc L S)) := by
  obtain ⟨locs, X, eT, N, hn0, hx, hZ, hown, hby, hml, hrt, hlk⟩ := Y
  subst hp
  exact q.of1 fun t q => X.ldc2DoubleC hx hown (mvT hZ w) (g := mkF m pc L S) rfl (hb hby hd) t q
theorem Gl.iload (Y : Sd Z own bs mx ret n0 p l e R s m args below meth c T h k n) {i : Nat} {v : Int32} (hl : L[i]? = some (.val (.int v))) (hd : decode bs pc = .ok (.iload i, 2)) (hp : pc + 2 = pc') (q : Gl p e below P (T.setTop (mkF m pc' L (.int v :: S)))) : Gl p e below P (T.setTop (mkF m pc L S)) := by
  obtain ⟨locs, X, eT, N, hn0, hx, hZ, hown, hby, hml, hrt, hlk⟩ := Y
  subst hp
  exact q.of1 fun t q => XS.iload X.here hx rfl (hb hby hd) hl q
theorem Gl.iloadN (Y : Sd Z own bs mx ret n0 p l e R s m args below meth c T h k n) {i : Fin 4} {v : Int32} (hl : L[i.val]? = some (.val (.int v))) (hd : decode bs pc = .ok (.iload_n i, 1)) (hp : pc + 1 = pc') (q : Gl p e below P (T.setTop (mkF m pc' L (.int v :: S)))) : Gl p e below P (T.setTop (mkF m pc L S)) := by
  obtain ⟨locs, X, eT, N, hn0, hx, hZ, hown, hby, hml, hrt, hlk⟩ := Y
  subst hp
  exact q.of1 fun t q => XS.iloadN X.here hx rfl (hb hby hd) hl q
theorem Gl.lload (Y : Sd Z own bs mx ret n0 p l e R s m args below meth c T h k n) {i : Nat} {v : Int64} (hl : L[i]? = some (.val (.long v))) (hd : decode bs pc = .ok (.lload i, 2)) (hp : pc + 2 = pc') (q : Gl p e below P (T.setTop (mkF m pc' L (.long v :: S)))) : Gl p e below P (T.setTop (mkF m pc L S)) := by
  obtain ⟨locs, X, eT, N, hn0, hx, hZ, hown, hby, hml, hrt, hlk⟩ := Y
  subst hp
  exact q.of1 fun t q => XS.lload X.here hx rfl (hb hby hd) hl q
theorem Gl.lloadN (Y : Sd Z own bs mx ret n0 p l e R s m args below meth c T h k n) {i : Fin 4} {v : Int64} (hl : L[i.val]? = some (.val (.long v))) (hd : decode bs pc = .ok (.lload_n i, 1)) (hp : pc + 1 = pc') (q : Gl p e below P (T.setTop (mkF m pc' L (.long v :: S)))) : Gl p e below P (T.setTop (mkF m pc L S)) := by
  obtain ⟨locs, X, eT, N, hn0, hx, hZ, hown, hby, hml, hrt, hlk⟩ := Y
  subst hp
  exact q.of1 fun t q => XS.lloadN X.here hx rfl (hb hby hd) hl q
theorem Gl.dload (Y : Sd Z own bs mx ret n0 p l e R s m args below meth c T h k n) {i : Nat} {v : UInt64} (hl : L[i]? = some (.val (.double v))) (hd : decode bs pc = .ok (.dload i, 2)) (hp : pc + 2 = pc') (q : Gl p e below P (T.setTop (mkF m pc' L (.double v :: S)))) : Gl p e below P (T.setTop (mkF m pc L S)) := by
  obtain ⟨locs, X, eT, N, hn0, hx, hZ, hown, hby, hml, hrt, hlk⟩ := Y
  subst hp
  exact q.of1 fun t q => XS.dload X.here hx rfl (hb hby hd) hl q
theorem Gl.dloadN (Y : Sd Z own bs mx ret n0 p l e R s m args below meth c T h k n) {i : Fin 4} {v : UInt64} (hl : L[i.val]? = some (.val (.double v))) (hd : decode bs pc = .ok (.dload_n i, 1)) (hp : pc + 1 = pc') (q : Gl p e below P (T.setTop (mkF m pc' L (.double v :: S)))) : Gl p e below P (T.setTop (mkF m pc L S)) := by
  obtain ⟨locs, X, eT, N, hn0, hx, hZ, hown, hby, hml, hrt, hlk⟩ := Y
  subst hp
  exact q.of1 fun t q => XS.dloadN X.here hx rfl (hb hby hd) hl q
theorem Gl.dconst0 (Y : Sd Z own bs mx ret n0 p l e R s m args below meth c T h k n)  (hd : decode bs pc = .ok (.dconst 0, 1)) (hp : pc + 1 = pc') (q : Gl p e below P (T.setTop (mkF m pc' L (.double FP.dconst0 :: S)))) : Gl p e below P (T.setTop (mkF m pc L S)) := by
  obtain ⟨locs, X, eT, N, hn0, hx, hZ, hown, hby, hml, hrt, hlk⟩ := Y
  subst hp
  exact q.of1 fun t q => XS.dconst0 X.here hx rfl (hb hby hd) rfl q
theorem Gl.dconst1 (Y : Sd Z own bs mx ret n0 p l e R s m args below meth c T h k n)  (hd : decode bs pc = .ok (.dconst 1, 1)) (hp : pc + 1 = pc') (q : Gl p e below P (T.setTop (mkF m pc' L (.double FP.dconst1 :: S)))) : Gl p e below P (T.setTop (mkF m pc L S)) := by
  obtain ⟨locs, X, eT, N, hn0, hx, hZ, hown, hby, hml, hrt, hlk⟩ := Y
  subst hp
  exact q.of1 fun t q => XS.dconst1 X.here hx rfl (hb hby hd) rfl q
theorem Gl.aload (Y : Sd Z own bs mx ret n0 p l e R s m args below meth c T h k n) {i : Nat} {v : Value} (hl : L[i]? = some (.val v)) (hv : v.isRef = true) (hd : decode bs pc = .ok (.aload i, 2)) (hp : pc + 2 = pc') (q : Gl p e below P (T.setTop (mkF m pc' L (v :: S)))) : Gl p e below P (T.setTop (mkF m pc L S)) := by
  obtain ⟨locs, X, eT, N, hn0, hx, hZ, hown, hby, hml, hrt, hlk⟩ := Y
  subst hp
  exact q.of1 fun t q => XS.aload X.here hx rfl (hb hby hd) hl hv q
theorem Gl.aloadN (Y : Sd Z own bs mx ret n0 p l e R s m args below meth c T h k n) {i : Fin 4} {v : Value} (hl : L[i.val]? = some (.val v)) (hv : v.isRef = true) (hd : decode bs pc = .ok (.aload_n i, 1)) (hp : pc + 1 = pc') (q : Gl p e below P (T.setTop (mkF m pc' L (v :: S)))) : Gl p e below P (T.setTop (mkF m pc L S)) := by
  obtain ⟨locs, X, eT, N, hn0, hx, hZ, hown, hby, hml, hrt, hlk⟩ := Y
  subst hp
  exact q.of1 fun t q => XS.aloadN X.here hx rfl (hb hby hd) hl hv q
theorem Gl.istore (Y : Sd Z own bs mx ret n0 p l e R s m args below meth c T h k n) {i : Nat} {v : Int32} {L' : Array Slot} (hl : storeLocals L i (.int v) = some L') (hd : decode bs pc = .ok (.istore i, 2)) (hp : pc + 2 = pc') (q : Gl p e below P (T.setTop (mkF m pc' L' S))) : Gl p e below P (T.setTop (mkF m pc L (.int v :: S))) := by
  obtain ⟨locs, X, eT, N, hn0, hx, hZ, hown, hby, hml, hrt, hlk⟩ := Y
  subst hp
  exact q.of1 fun t q => XS.istore X.here hx rfl (hb hby hd) rfl hl q
theorem Gl.istoreN (Y : Sd Z own bs mx ret n0 p l e R s m args below meth c T h k n) {i : Fin 4} {v : Int32} {L' : Array Slot} (hl : storeLocals L i.val (.int v) = some L') (hd : decode bs pc = .ok (.istore_n i, 1)) (hp : pc + 1 = pc') (q : Gl p e below P (T.setTop (mkF m pc' L' S))) : Gl p e below P (T.setTop (mkF m pc L (.int v :: S))) := by
  obtain ⟨locs, X, eT, N, hn0, hx, hZ, hown, hby, hml, hrt, hlk⟩ := Y
  subst hp
  exact q.of1 fun t q => XS.istoreN X.here hx rfl (hb hby hd) rfl hl q
theorem Gl.lstore (Y : Sd Z own bs mx ret n0 p l e R s m args below meth c T h k n) {i : Nat} {v : Int64} {L' : Array Slot} (hl : storeLocals L i (.long v) = some L') (hd : decode bs pc = .ok (.lstore i, 2)) (hp : pc + 2 = pc') (q : Gl p e below P (T.setTop (mkF m pc' L' S))) : Gl p e below P (T.setTop (mkF m pc L (.long v :: S))) := by
  obtain ⟨locs, X, eT, N, hn0, hx, hZ, hown, hby, hml, hrt, hlk⟩ := Y
  subst hp
  exact q.of1 fun t q => XS.lstore X.here hx rfl (hb hby hd) rfl hl q
theorem Gl.lstoreN (Y : Sd Z own bs mx ret n0 p l e R s m args below meth c T h k n) {i : Fin 4} {v : Int64} {L' : Array Slot} (hl : storeLocals L i.val (.long v) = some L') (hd : decode bs pc = .ok (.lstore_n i, 1)) (hp : pc + 1 = pc') (q : Gl p e below P (T.setTop (mkF m pc' L' S))) : Gl p e below P (T.setTop (mkF m pc L (.long v :: S))) := by
  obtain ⟨locs, X, eT, N, hn0, hx, hZ, hown, hby, hml, hrt, hlk⟩ := Y
  subst hp
  exact q.of1 fun t q => XS.lstoreN X.here hx rfl (hb hby hd) rfl hl q
theorem Gl.astore (Y : Sd Z own bs mx ret n0 p l e R s m args below meth c T h k n) {i : Nat} {v : Value} (hv : v.isRef = true) {L' : Array Slot} (hl : storeLocals L i (v) = some L') (hd : decode bs pc = .ok (.astore i, 2)) (hp : pc + 2 = pc') (q : Gl p e below P (T.setTop (mkF m pc' L' S))) : Gl p e below P (T.setTop (mkF m pc L (v :: S))) := by
  obtain ⟨locs, X, eT, N, hn0, hx, hZ, hown, hby, hml, hrt, hlk⟩ := Y
  subst hp
  exact q.of1 fun t q => XS.astore X.here hx rfl (hb hby hd) rfl hv hl q
theorem Gl.astoreN (Y : Sd Z own bs mx ret n0 p l e R s m args below meth c T h k n) {i : Fin 4} {v : Value} (hv : v.isRef = true) {L' : Array Slot} (hl : storeLocals L i.val (v) = some L') (hd : decode bs pc = .ok (.astore_n i, 1)) (hp : pc + 1 = pc') (q : Gl p e below P (T.setTop (mkF m pc' L' S))) : Gl p e below P (T.setTop (mkF m pc L (v :: S))) := by
  obtain ⟨locs, X, eT, N, hn0, hx, hZ, hown, hby, hml, hrt, hlk⟩ := Y
  subst hp
  exact q.of1 fun t q => XS.astoreN X.here hx rfl (hb hby hd) rfl hv hl q
theorem Gl.iinc (Y : Sd Z own bs mx ret n0 p l e R s m args below meth c T h k n) {i : Nat} {cst : Int} {x r : Int32} {L' : Array Slot} (hl : L[i]? = some (.val (.int x))) (hr : x + Int32.ofInt cst = r) (hl' : storeLocals L i (.int r) = some L') (hd : decode bs pc = .ok (.iinc i cst, 3)) (hp : pc + 3 = pc') (q : Gl p e below P (T.setTop (mkF m pc' L' S))) : Gl p e below P (T.setTop (mkF m pc L S)) := by
  obtain ⟨locs, X, eT, N, hn0, hx, hZ, hown, hby, hml, hrt, hlk⟩ := Y
  subst hp
  exact q.of1 fun t q => XS.iinc X.here hx rfl (hb hby hd) hl (by rw [hr]; exact hl') q
theorem Gl.dup (Y : Sd Z own bs mx ret n0 p l e R s m args below meth c T h k n) {x : Value} (hc : x.category = 1) (hd : decode bs pc = .ok (.dup, 1)) (hp : pc + 1 = pc') (q : Gl p e below P (T.setTop (mkF m pc' L (x :: x :: S)))) : Gl p e below P (T.setTop (mkF m pc L (x :: S))) := by
  obtain ⟨locs, X, eT, N, hn0, hx, hZ, hown, hby, hml, hrt, hlk⟩ := Y
  subst hp
  exact q.of1 fun t q => XS.dup X.here hx rfl (hb hby hd) rfl hc q
theorem Gl.pop (Y : Sd Z own bs mx ret n0 p l e R s m args below meth c T h k n) {x : Value} (hc : x.category = 1) (hd : decode bs pc = .ok (.pop, 1)) (hp : pc + 1 = pc') (q : Gl p e below P (T.setTop (mkF m pc' L S))) : Gl p e below P (T.setTop (mkF m pc L (x :: S))) := by
  obtain ⟨locs, X, eT, N, hn0, hx, hZ, hown, hby, hml, hrt, hlk⟩ := Y
  subst hp
  exact q.of1 fun t q => XS.pop X.here hx rfl (hb hby hd) rfl hc q
theorem Gl.dupX1 (Y : Sd Z own bs mx ret n0 p l e R s m args below meth c T h k n) {x y : Value} (hc : x.category = 1) (hc' : y.category = 1) (hd : decode bs pc = .ok (.dup_x1, 1)) (hp : pc + 1 = pc') (q : Gl p e below P (T.setTop (mkF m pc' L (x :: y :: x :: S)))) : Gl p e below P (T.setTop (mkF m pc L (x :: y :: S))) := by
  obtain ⟨locs, X, eT, N, hn0, hx, hZ, hown, hby, hml, hrt, hlk⟩ := Y
  subst hp
  exact q.of1 fun t q => XS.dupX1 X.here hx rfl (hb hby hd) rfl hc hc' q
theorem Gl.lcmp (Y : Sd Z own bs mx ret n0 p l e R s m args below meth c T h k n) {x y : Int64} {r : Int32} (hr : lcmpW x y = r) (hd : decode bs pc = .ok (.lcmp, 1)) (hp : pc + 1 = pc') (q : Gl p e below P (T.setTop (mkF m pc' L (.int r :: S)))) : Gl p e below P (T.setTop (mkF m pc L (.long y :: .long x :: S))) := by
  obtain ⟨locs, X, eT, N, hn0, hx, hZ, hown, hby, hml, hrt, hlk⟩ := Y
  subst hp hr
  exact q.of1 fun t q => XS.lcmp X.here hx rfl (hb hby hd) rfl q
theorem Gl.arraylength (Y : Sd Z own bs mx ret n0 p l e R s m args below meth c T h k n) {a : Addr} {ck : ClassId} {ty : FieldType} {z : Int32} {vs : List Value} {d : Value} (F : Arv Z h a ck ty z vs d) (hd : decode bs pc = .ok (.arraylength, 1)) (hp : pc + 1 = pc') (q : Gl p e below P (T.setTop (mkF m pc' L (.int z :: S)))) : Gl p e below P (T.setTop (mkF m pc L (.ref a :: S))) := by
  obtain ⟨locs, X, eT, N, hn0, hx, hZ, hown, hby, hml, hrt, hlk⟩ := Y
  subst hp
  exact q.of1 fun t q => by
    obtain ⟨cl, A, -, S1, N1, -⟩ := F
    exact X.arraylength hx (by rw [eT]; exact A.1) (State.isArrayOf_alike hZ.alike A.2.1) (g := mkF m pc L (.ref a :: S)) rfl rfl (hb hby hd) t (by rw [len_of S1 N1]; exact q)
theorem Gl.iaload (Y : Sd Z own bs mx ret n0 p l e R s m args below meth c T h k n) {a : Addr} {ck : ClassId} {z j : Int32} {vs : List Value} {d v : Value} (F : Arv Z h a ck .int z vs d) (hj : ¬ j < 0 ∧ j < z) (hv : vs.getD j.toNatClampNeg d = v) (hd : decode bs pc = .ok (.iaload, 1)) (hp : pc + 1 = pc') (q : Gl p e below P (T.setTop (mkF m pc' L (v :: S)))) : Gl p e below P (T.setTop (mkF m pc L (.int j :: .ref a :: S))) := by
  obtain ⟨locs, X, eT, N, hn0, hx, hZ, hown, hby, hml, hrt, hlk⟩ := Y
  subst hp
  exact q.of1 fun t q => by
    obtain ⟨cl, A, -, S1, N1, H, -⟩ := F
    exact X.iaload hx (by rw [eT]; exact A.1) (State.isArrayOf_alike hZ.alike A.2.1) A.2.2 (inb_of S1 hj) (H.at (inb_of S1 hj) hv) (g := mkF m pc L (.int j :: .ref a :: S)) rfl rfl (hb hby hd) t q
theorem Gl.laload (Y : Sd Z own bs mx ret n0 p l e R s m args below meth c T h k n) {a : Addr} {ck : ClassId} {z j : Int32} {vs : List Value} {d v : Value} (F : Arv Z h a ck .long z vs d) (hj : ¬ j < 0 ∧ j < z) (hv : vs.getD j.toNatClampNeg d = v) (hd : decode bs pc = .ok (.laload, 1)) (hp : pc + 1 = pc') (q : Gl p e below P (T.setTop (mkF m pc' L (v :: S)))) : Gl p e below P (T.setTop (mkF m pc L (.int j :: .ref a :: S))) := by
  obtain ⟨locs, X, eT, N, hn0, hx, hZ, hown, hby, hml, hrt, hlk⟩ := Y
  subst hp
  exact q.of1 fun t q => by
    obtain ⟨cl, A, -, S1, N1, H, -⟩ := F
    exact X.laload hx (by rw [eT]; exact A.1) (State.isArrayOf_alike hZ.alike A.2.1) A.2.2 (inb_of S1 hj) (H.at (inb_of S1 hj) hv) (g := mkF m pc L (.int j :: .ref a :: S)) rfl rfl (hb hby hd) t q
theorem Gl.caload (Y : Sd Z own bs mx ret n0 p l e R s m args below meth c T h k n) {a : Addr} {ck : ClassId} {z j : Int32} {vs : List Value} {d v : Value} (F : Arv Z h a ck .char z vs d) (hj : ¬ j < 0 ∧ j < z) (hv : vs.getD j.toNatClampNeg d = v) (hd : decode bs pc = .ok (.caload, 1)) (hp : pc + 1 = pc') (q : Gl p e below P (T.setTop (mkF m pc' L (v :: S)))) : Gl p e below P (T.setTop (mkF m pc L (.int j :: .ref a :: S))) := by
  obtain ⟨locs, X, eT, N, hn0, hx, hZ, hown, hby, hml, hrt, hlk⟩ := Y
  subst hp
  exact q.of1 fun t q => by
    obtain ⟨cl, A, -, S1, N1, H, -⟩ := F
    exact X.caload hx (by rw [eT]; exact A.1) (State.isArrayOf_alike hZ.alike A.2.1) A.2.2 (inb_of S1 hj) (H.at (inb_of S1 hj) hv) (g := mkF m pc L (.int j :: .ref a :: S)) rfl rfl (hb hby hd) t q
theorem Gl.saload (Y : Sd Z own bs mx ret n0 p l e R s m args below meth c T h k n) {a : Addr} {ck : ClassId} {z j : Int32} {vs : List Value} {d v : Value} (F : Arv Z h a ck .short z vs d) (hj : ¬ j < 0 ∧ j < z) (hv : vs.getD j.toNatClampNeg d = v) (hd : decode bs pc = .ok (.saload, 1)) (hp : pc + 1 = pc') (q : Gl p e below P (T.setTop (mkF m pc' L (v :: S)))) : Gl p e below P (T.setTop (mkF m pc L (.int j :: .ref a :: S))) := by
  obtain ⟨locs, X, eT, N, hn0, hx, hZ, hown, hby, hml, hrt, hlk⟩ := Y
  subst hp
  exact q.of1 fun t q => by
    obtain ⟨cl, A, -, S1, N1, H, -⟩ := F
    exact X.saload hx (by rw [eT]; exact A.1) (State.isArrayOf_alike hZ.alike A.2.1) A.2.2 (inb_of S1 hj) (H.at (inb_of S1 hj) hv) (g := mkF m pc L (.int j :: .ref a :: S)) rfl rfl (hb hby hd) t q
theorem Gl.baload (Y : Sd Z own bs mx ret n0 p l e R s m args below meth c T h k n) {a : Addr} {ck : ClassId} {z j : Int32} {vs : List Value} {d v : Value} (F : Arv Z h a ck .byte z vs d) (hj : ¬ j < 0 ∧ j < z) (hv : vs.getD j.toNatClampNeg d = v) (hd : decode bs pc = .ok (.baload, 1)) (hp : pc + 1 = pc') (q : Gl p e below P (T.setTop (mkF m pc' L (v :: S)))) : Gl p e below P (T.setTop (mkF m pc L (.int j :: .ref a :: S))) := by
  obtain ⟨locs, X, eT, N, hn0, hx, hZ, hown, hby, hml, hrt, hlk⟩ := Y
  subst hp
  exact q.of1 fun t q => by
    obtain ⟨cl, A, -, S1, N1, H, -⟩ := F
    exact X.baloadBytes hx (by rw [eT]; exact A.1) (State.isArrayOf_alike hZ.alike A.2.1) A.2.2 (inb_of S1 hj) (H.at (inb_of S1 hj) hv) (g := mkF m pc L (.int j :: .ref a :: S)) rfl rfl (hb hby hd) t q
theorem Gl.goto (Y : Sd Z own bs mx ret n0 p l e R s m args below meth c T h k n) {o : Int} (hd : decode bs pc = .ok (.goto o, 3)) (ho : 0 ≤ (pc : Int) + o) (hp : ((pc : Int) + o).toNat = pc') (q : Gl p e below P (T.setTop (mkF m pc' L S))) : Gl p e below P (T.setTop (mkF m pc L S)) := by
  obtain ⟨locs, X, eT, N, hn0, hx, hZ, hown, hby, hml, hrt, hlk⟩ := Y
  exact q.of1 fun t q => XS.goto X.here hx rfl rfl (hb hby hd) ho hp q
theorem Gl.ifeq (Y : Sd Z own bs mx ret n0 p l e R s m args below meth c T h k n) {x : Int32} {o : Int} (hd : decode bs pc = .ok (.ifCond .eq o, 3)) (ho : 0 ≤ (pc : Int) + o) (ht : ((pc : Int) + o).toNat = pcT) (hf : pc + 3 = pcF) (q1 : x = 0 → Gl p e below P (T.setTop (mkF m pcT L S))) (q2 : ¬ x = 0 → Gl p e below P (T.setTop (mkF m pcF L S))) : Gl p e below P (T.setTop (mkF m pc L (.int x :: S))) := by
  obtain ⟨locs, X, eT, N, hn0, hx, hZ, hown, hby, hml, hrt, hlk⟩ := Y
  by_cases hq : x = 0
  · exact (q1 hq).of1 fun t q => XS.ifYes X.here hx rfl rfl (hb hby hd) rfl (Jvm.Free.XT.i0_eq_t hq) ho ht q
  · subst hf
    exact (q2 (by first | exact hq | exact Decidable.not_not.mp hq)).of1 fun t q => XS.ifNo X.here hx rfl (hb hby hd) rfl (Jvm.Free.XT.i0_eq_f (by first | exact hq | exact Decidable.not_not.mp hq)) q
theorem Gl.icmpeq (Y : Sd Z own bs mx ret n0 p l e R s m args below meth c T h k n) {x y : Int32} {o : Int} (hd : decode bs pc = .ok (.if_icmp .eq o, 3)) (ho : 0 ≤ (pc : Int) + o) (ht : ((pc : Int) + o).toNat = pcT) (hf : pc + 3 = pcF) (q1 : x = y → Gl p e below P (T.setTop (mkF m pcT L S))) (q2 : ¬ x = y → Gl p e below P (T.setTop (mkF m pcF L S))) : Gl p e below P (T.setTop (mkF m pc L (.int y :: .int x :: S))) := by
  obtain ⟨locs, X, eT, N, hn0, hx, hZ, hown, hby, hml, hrt, hlk⟩ := Y
  by_cases hq : x = y
  · exact (q1 hq).of1 fun t q => XS.icmpYes X.here hx rfl rfl (hb hby hd) rfl (Jvm.Free.XT.ii_eq_t hq) ho ht q
  · subst hf
    exact (q2 (by first | exact hq | exact Decidable.not_not.mp hq)).of1 fun t q => XS.icmpNo X.here hx rfl (hb hby hd) rfl (Jvm.Free.XT.ii_eq_f (by first | exact hq | exact Decidable.not_not.mp hq)) q
theorem Gl.lcmpeq (Y : Sd Z own bs mx ret n0 p l e R s m args below meth c T h k n) {x y : Int64} {pc1 : Nat} {o : Int} (hd0 : decode bs pc = .ok (.lcmp, 1)) (hp1 : pc + 1 = pc1) (hd : decode bs pc1 = .ok (.ifCond .eq o, 3)) (ho : 0 ≤ (pc1 : Int) + o) (ht : ((pc1 : Int) + o).toNat = pcT) (hf : pc1 + 3 = pcF) (q1 : x = y → Gl p e below P (T.setTop (mkF m pcT L S))) (q2 : ¬ x = y → Gl p e below P (T.setTop (mkF m pcF L S))) : Gl p e below P (T.setTop (mkF m pc L (.long y :: .long x :: S))) := by
  refine Gl.lcmp Y rfl hd0 hp1 ?_
  obtain ⟨locs, X, eT, N, hn0, hx, hZ, hown, hby, hml, hrt, hlk⟩ := Y
  by_cases hq : x = y
  · exact (q1 hq).of1 fun t q => XS.ifYes X.here hx rfl rfl (hb hby hd) rfl (Jvm.Free.XT.ll_eq_t hq) ho ht q
  · subst hf
    exact (q2 (by first | exact hq | exact Decidable.not_not.mp hq)).of1 fun t q => XS.ifNo X.here hx rfl (hb hby hd) rfl (Jvm.Free.XT.ll_eq_f (by first | exact hq | exact Decidable.not_not.mp hq)) q
theorem Gl.ifne (Y : Sd Z own bs mx ret n0 p l e R s m args below meth c T h k n) {x : Int32} {o : Int} (hd : decode bs pc = .ok (.ifCond .ne o, 3)) (ho : 0 ≤ (pc : Int) + o) (ht : ((pc : Int) + o).toNat = pcT) (hf : pc + 3 = pcF) (q1 : ¬ x = 0 → Gl p e below P (T.setTop (mkF m pcT L S))) (q2 : x = 0 → Gl p e below P (T.setTop (mkF m pcF L S))) : Gl p e below P (T.setTop (mkF m pc L (.int x :: S))) := by
  obtain ⟨locs, X, eT, N, hn0, hx, hZ, hown, hby, hml, hrt, hlk⟩ := Y
  by_cases hq : ¬ x = 0
  · exact (q1 hq).of1 fun t q => XS.ifYes X.here hx rfl rfl (hb hby hd) rfl (Jvm.Free.XT.i0_ne_t hq) ho ht q
  · subst hf
    exact (q2 (by first | exact hq | exact Decidable.not_not.mp hq)).of1 fun t q => XS.ifNo X.here hx rfl (hb hby hd) rfl (Jvm.Free.XT.i0_ne_f (by first | exact hq | exact Decidable.not_not.mp hq)) q
theorem Gl.icmpne (Y : Sd Z own bs mx ret n0 p l e R s m args below meth c T h k n) {x y : Int32} {o : Int} (hd : decode bs pc = .ok (.if_icmp .ne o, 3)) (ho : 0 ≤ (pc : Int) + o) (ht : ((pc : Int) + o).toNat = pcT) (hf : pc + 3 = pcF) (q1 : ¬ x = y → Gl p e below P (T.setTop (mkF m pcT L S))) (q2 : x = y → Gl p e below P (T.setTop (mkF m pcF L S))) : Gl p e below P (T.setTop (mkF m pc L (.int y :: .int x :: S))) := by
  obtain ⟨locs, X, eT, N, hn0, hx, hZ, hown, hby, hml, hrt, hlk⟩ := Y
  by_cases hq : ¬ x = y
  · exact (q1 hq).of1 fun t q => XS.icmpYes X.here hx rfl rfl (hb hby hd) rfl (Jvm.Free.XT.ii_ne_t hq) ho ht q
  · subst hf
    exact (q2 (by first | exact hq | exact Decidable.not_not.mp hq)).of1 fun t q => XS.icmpNo X.here hx rfl (hb hby hd) rfl (Jvm.Free.XT.ii_ne_f (by first | exact hq | exact Decidable.not_not.mp hq)) q
theorem Gl.lcmpne (Y : Sd Z own bs mx ret n0 p l e R s m args below meth c T h k n) {x y : Int64} {pc1 : Nat} {o : Int} (hd0 : decode bs pc = .ok (.lcmp, 1)) (hp1 : pc + 1 = pc1) (hd : decode bs pc1 = .ok (.ifCond .ne o, 3)) (ho : 0 ≤ (pc1 : Int) + o) (ht : ((pc1 : Int) + o).toNat = pcT) (hf : pc1 + 3 = pcF) (q1 : ¬ x = y → Gl p e below P (T.setTop (mkF m pcT L S))) (q2 : x = y → Gl p e below P (T.setTop (mkF m pcF L S))) : Gl p e below P (T.setTop (mkF m pc L (.long y :: .long x :: S))) := by
  refine Gl.lcmp Y rfl hd0 hp1 ?_
  obtain ⟨locs, X, eT, N, hn0, hx, hZ, hown, hby, hml, hrt, hlk⟩ := Y
  by_cases hq : ¬ x = y
  · exact (q1 hq).of1 fun t q => XS.ifYes X.here hx rfl rfl (hb hby hd) rfl (Jvm.Free.XT.ll_ne_t hq) ho ht q
  · subst hf
    exact (q2 (by first | exact hq | exact Decidable.not_not.mp hq)).of1 fun t q => XS.ifNo X.here hx rfl (hb hby hd) rfl (Jvm.Free.XT.ll_ne_f (by first | exact hq | exact Decidable.not_not.mp hq)) q
theorem Gl.iflt (Y : Sd Z own bs mx ret n0 p l e R s m args below meth c T h k n) {x : Int32} {o : Int} (hd : decode bs pc = .ok (.ifCond .lt o, 3)) (ho : 0 ≤ (pc : Int) + o) (ht : ((pc : Int) + o).toNat = pcT) (hf : pc + 3 = pcF) (q1 : x < 0 → Gl p e below P (T.setTop (mkF m pcT L S))) (q2 : ¬ x < 0 → Gl p e below P (T.setTop (mkF m pcF L S))) : Gl p e below P (T.setTop (mkF m pc L (.int x :: S))) := by
  obtain ⟨locs, X, eT, N, hn0, hx, hZ, hown, hby, hml, hrt, hlk⟩ := Y
  by_cases hq : x < 0
  · exact (q1 hq).of1 fun t q => XS.ifYes X.here hx rfl rfl (hb hby hd) rfl (Jvm.Free.XT.i0_lt_t hq) ho ht q
  · subst hf
    exact (q2 (by first | exact hq | exact Decidable.not_not.mp hq)).of1 fun t q => XS.ifNo X.here hx rfl (hb hby hd) rfl (Jvm.Free.XT.i0_lt_f (by first | exact hq | exact Decidable.not_not.mp hq)) q
theorem Gl.icmplt (Y : Sd Z own bs mx ret n0 p l e R s m args below meth c T h k n) {x y : Int32} {o : Int} (hd : decode bs pc = .ok (.if_icmp .lt o, 3)) (ho : 0 ≤ (pc : Int) + o) (ht : ((pc : Int) + o).toNat = pcT) (hf : pc + 3 = pcF) (q1 : x < y → Gl p e below P (T.setTop (mkF m pcT L S))) (q2 : ¬ x < y → Gl p e below P (T.setTop (mkF m pcF L S))) : Gl p e below P (T.setTop (mkF m pc L (.int y :: .int x :: S))) := by
  obtain ⟨locs, X, eT, N, hn0, hx, hZ, hown, hby, hml, hrt, hlk⟩ := Y
  by_cases hq : x < y
  · exact (q1 hq).of1 fun t q => XS.icmpYes X.here hx rfl rfl (hb hby hd) rfl (Jvm.Free.XT.ii_lt_t hq) ho ht q
  · subst hf
    exact (q2 (by first | exact hq | exact Decidable.not_not.mp hq)).of1 fun t q => XS.icmpNo X.here hx rfl (hb hby hd) rfl (Jvm.Free.XT.ii_lt_f (by first | exact hq | exact Decidable.not_not.mp hq)) q
theorem Gl.lcmplt (Y : Sd Z own bs mx ret n0 p l e R s m args below meth c T h k n) {x y : Int64} {pc1 : Nat} {o : Int} (hd0 : decode bs pc = .ok (.lcmp, 1)) (hp1 : pc + 1 = pc1) (hd : decode bs pc1 = .ok (.ifCond .lt o, 3)) (ho : 0 ≤ (pc1 : Int) + o) (ht : ((pc1 : Int) + o).toNat = pcT) (hf : pc1 + 3 = pcF) (q1 : x < y → Gl p e below P (T.setTop (mkF m pcT L S))) (q2 : ¬ x < y → Gl p e below P (T.setTop (mkF m pcF L S))) : Gl p e below P (T.setTop (mkF m pc L (.long y :: .long x :: S))) := by
  refine Gl.lcmp Y rfl hd0 hp1 ?_
  obtain ⟨locs, X, eT, N, hn0, hx, hZ, hown, hby, hml, hrt, hlk⟩ := Y
  by_cases hq : x < y
  · exact (q1 hq).of1 fun t q => XS.ifYes X.here hx rfl rfl (hb hby hd) rfl (Jvm.Free.XT.ll_lt_t hq) ho ht q
  · subst hf
    exact (q2 (by first | exact hq | exact Decidable.not_not.mp hq)).of1 fun t q => XS.ifNo X.here hx rfl (hb hby hd) rfl (Jvm.Free.XT.ll_lt_f (by first | exact hq | exact Decidable.not_not.mp hq)) q
theorem Gl.ifge (Y : Sd Z own bs mx ret n0 p l e R s m args below meth c T h k n) {x : Int32} {o : Int} (hd : decode bs pc = .ok (.ifCond .ge o, 3)) (ho : 0 ≤ (pc : Int) + o) (ht : ((pc : Int) + o).toNat = pcT) (hf : pc + 3 = pcF) (q1 : ¬ x < 0 → Gl p e below P (T.setTop (mkF m pcT L S))) (q2 : x < 0 → Gl p e below P (T.setTop (mkF m pcF L S))) : Gl p e below P (T.setTop (mkF m pc L (.int x :: S))) := by
  obtain ⟨locs, X, eT, N, hn0, hx, hZ, hown, hby, hml, hrt, hlk⟩ := Y
  by_cases hq : ¬ x < 0
  · exact (q1 hq).of1 fun t q => XS.ifYes X.here hx rfl rfl (hb hby hd) rfl (Jvm.Free.XT.i0_ge_t hq) ho ht q
  · subst hf
    exact (q2 (by first | exact hq | exact Decidable.not_not.mp hq)).of1 fun t q => XS.ifNo X.here hx rfl (hb hby hd) rfl (Jvm.Free.XT.i0_ge_f (by first | exact hq | exact Decidable.not_not.mp hq)) q
theorem Gl.icmpge (Y : Sd Z own bs mx ret n0 p l e R s m args below meth c T h k n) {x y : Int32} {o : Int} (hd : decode bs pc = .ok (.if_icmp .ge o, 3)) (ho : 0 ≤ (pc : Int) + o) (ht : ((pc : Int) + o).toNat = pcT) (hf : pc + 3 = pcF) (q1 : ¬ x < y → Gl p e below P (T.setTop (mkF m pcT L S))) (q2 : x < y → Gl p e below P (T.setTop (mkF m pcF L S))) : Gl p e below P (T.setTop (mkF m pc L (.int y :: .int x :: S))) := by
  obtain ⟨locs, X, eT, N, hn0, hx, hZ, hown, hby, hml, hrt, hlk⟩ := Y
  by_cases hq : ¬ x < y
  · exact (q1 hq).of1 fun t q => XS.icmpYes X.here hx rfl rfl (hb hby hd) rfl (Jvm.Free.XT.ii_ge_t hq) ho ht q
  · subst hf
    exact (q2 (by first | exact hq | exact Decidable.not_not.mp hq)).of1 fun t q => XS.icmpNo X.here hx rfl (hb hby hd) rfl (Jvm.Free.XT.ii_ge_f (by first | exact hq | exact Decidable.not_not.mp hq)) q
theorem Gl.lcmpge (Y : Sd Z own bs mx ret n0 p l e R s m args below meth c T h k n) {x y : Int64} {pc1 : Nat} {o : Int} (hd0 : decode bs pc = .ok (.lcmp, 1)) (hp1 : pc + 1 = pc1) (hd : decode bs pc1 = .ok (.ifCond .ge o, 3)) (ho : 0 ≤ (pc1 : Int) + o) (ht : ((pc1 : Int) + o).toNat = pcT) (hf : pc1 + 3 = pcF) (q1 : ¬ x < y → Gl p e below P (T.setTop (mkF m pcT L S))) (q2 : x < y → Gl p e below P (T.setTop (mkF m pcF L S))) : Gl p e below P (T.setTop (mkF m pc L (.long y :: .long x :: S))) := by
  refine Gl.lcmp Y rfl hd0 hp1 ?_
  obtain ⟨locs, X, eT, N, hn0, hx, hZ, hown, hby, hml, hrt, hlk⟩ := Y
  by_cases hq : ¬ x < y
  · exact (q1 hq).of1 fun t q => XS.ifYes X.here hx rfl rfl (hb hby hd) rfl (Jvm.Free.XT.ll_ge_t hq) ho ht q
  · subst hf
    exact (q2 (by first | exact hq | exact Decidable.not_not.mp hq)).of1 fun t q => XS.ifNo X.here hx rfl (hb hby hd) rfl (Jvm.Free.XT.ll_ge_f (by first | exact hq | exact Decidable.not_not.mp hq)) q
theorem Gl.ifgt (Y : Sd Z own bs mx ret n0 p l e R s m args below meth c T h k n) {x : Int32} {o : Int} (hd : decode bs pc = .ok (.ifCond .gt o, 3)) (ho : 0 ≤ (pc : Int) + o) (ht : ((pc : Int) + o).toNat = pcT) (hf : pc + 3 = pcF) (q1 : 0 < x → Gl p e below P (T.setTop (mkF m pcT L S))) (q2 : ¬ 0 < x → Gl p e below P (T.setTop (mkF m pcF L S))) : Gl p e below P (T.setTop (mkF m pc L (.int x :: S))) := by
  obtain ⟨locs, X, eT, N, hn0, hx, hZ, hown, hby, hml, hrt, hlk⟩ := Y
  by_cases hq : 0 < x
  · exact (q1 hq).of1 fun t q => XS.ifYes X.here hx rfl rfl (hb hby hd) rfl (Jvm.Free.XT.i0_gt_t hq) ho ht q
  · subst hf
    exact (q2 (by first | exact hq | exact Decidable.not_not.mp hq)).of1 fun t q => XS.ifNo X.here hx rfl (hb hby hd) rfl (Jvm.Free.XT.i0_gt_f (by first | exact hq | exact Decidable.not_not.mp hq)) q
theorem Gl.icmpgt (Y : Sd Z own bs mx ret n0 p l e R s m args below meth c T h k n) {x y : Int32} {o : Int} (hd : decode bs pc = .ok (.if_icmp .gt o, 3)) (ho : 0 ≤ (pc : Int) + o) (ht : ((pc : Int) + o).toNat = pcT) (hf : pc + 3 = pcF) (q1 : y < x → Gl p e below P (T.setTop (mkF m pcT L S))) (q2 : ¬ y < x → Gl p e below P (T.setTop (mkF m pcF L S))) : Gl p e below P (T.setTop (mkF m pc L (.int y :: .int x :: S))) := by
  obtain ⟨locs, X, eT, N, hn0, hx, hZ, hown, hby, hml, hrt, hlk⟩ := Y
  by_cases hq : y < x
  · exact (q1 hq).of1 fun t q => XS.icmpYes X.here hx rfl rfl (hb hby hd) rfl (Jvm.Free.XT.ii_gt_t hq) ho ht q
  · subst hf
    exact (q2 (by first | exact hq | exact Decidable.not_not.mp hq)).of1 fun t q => XS.icmpNo X.here hx rfl (hb hby hd) rfl (Jvm.Free.XT.ii_gt_f (by first | exact hq | exact Decidable.not_not.mp hq)) q
theorem Gl.lcmpgt (Y : Sd Z own bs mx ret n0 p l e R s m args below meth c T h k n) {x y : Int64} {pc1 : Nat} {o : Int} (hd0 : decode bs pc = .ok (.lcmp, 1)) (hp1 : pc + 1 = pc1) (hd : decode bs pc1 = .ok (.ifCond .gt o, 3)) (ho : 0 ≤ (pc1 : Int) + o) (ht : ((pc1 : Int) + o).toNat = pcT) (hf : pc1 + 3 = pcF) (q1 : y < x → Gl p e below P (T.setTop (mkF m pcT L S))) (q2 : ¬ y < x → Gl p e below P (T.setTop (mkF m pcF L S))) : Gl p e below P (T.setTop (mkF m pc L (.long y :: .long x :: S))) := by
  refine Gl.lcmp Y rfl hd0 hp1 ?_
  obtain ⟨locs, X, eT, N, hn0, hx, hZ, hown, hby, hml, hrt, hlk⟩ := Y
  by_cases hq : y < x
  · exact (q1 hq).of1 fun t q => XS.ifYes X.here hx rfl rfl (hb hby hd) rfl (Jvm.Free.XT.ll_gt_t hq) ho ht q
  · subst hf
    exact (q2 (by first | exact hq | exact Decidable.not_not.mp hq)).of1 fun t q => XS.ifNo X.here hx rfl (hb hby hd) rfl (Jvm.Free.XT.ll_gt_f (by first | exact hq | exact Decidable.not_not.mp hq)) q
theorem Gl.ifle (Y : Sd Z own bs mx ret n0 p l e R s m args below meth c T h k n) {x : Int32} {o : Int} (hd : decode bs pc = .ok (.ifCond .le o, 3)) (ho : 0 ≤ (pc : Int) + o) (ht : ((pc : Int) + o).toNat = pcT) (hf : pc + 3 = pcF) (q1 : ¬ 0 < x → Gl p e below P (T.setTop (mkF m pcT L S))) (q2 : 0 < x → Gl p e below P (T.setTop (mkF m pcF L S))) : Gl p e below P (T.setTop (mkF m pc L (.int x :: S))) := by
  obtain ⟨locs, X, eT, N, hn0, hx, hZ, hown, hby, hml, hrt, hlk⟩ := Y
  by_cases hq : ¬ 0 < x
  · exact (q1 hq).of1 fun t q => XS.ifYes X.here hx rfl rfl (hb hby hd) rfl (Jvm.Free.XT.i0_le_t hq) ho ht q
  · subst hf
    exact (q2 (by first | exact hq | exact Decidable.not_not.mp hq)).of1 fun t q => XS.ifNo X.here hx rfl (hb hby hd) rfl (Jvm.Free.XT.i0_le_f (by first | exact hq | exact Decidable.not_not.mp hq)) q
theorem Gl.icmple (Y : Sd Z own bs mx ret n0 p l e R s m args below meth c T h k n) {x y : Int32} {o : Int} (hd : decode bs pc = .ok (.if_icmp .le o, 3)) (ho : 0 ≤ (pc : Int) + o) (ht : ((pc : Int) + o).toNat = pcT) (hf : pc + 3 = pcF) (q1 : ¬ y < x → Gl p e below P (T.setTop (mkF m pcT L S))) (q2 : y < x → Gl p e below P (T.setTop (mkF m pcF L S))) : Gl p e below P (T.setTop (mkF m pc L (.int y :: .int x :: S))) := by
  obtain ⟨locs, X, eT, N, hn0, hx, hZ, hown, hby, hml, hrt, hlk⟩ := Y
  by_cases hq : ¬ y < x
  · exact (q1 hq).of1 fun t q => XS.icmpYes X.here hx rfl rfl (hb hby hd) rfl (Jvm.Free.XT.ii_le_t hq) ho ht q
  · subst hf
    exact (q2 (by first | exact hq | exact Decidable.not_not.mp hq)).of1 fun t q => XS.icmpNo X.here hx rfl (hb hby hd) rfl (Jvm.Free.XT.ii_le_f (by first | exact hq | exact Decidable.not_not.mp hq)) q
theorem Gl.lcmple (Y : Sd Z own bs mx ret n0 p l e R s m args below meth c T h k n) {x y : Int64} {pc1 : Nat} {o : Int} (hd0 : decode bs pc = .ok (.lcmp, 1)) (hp1 : pc + 1 = pc1) (hd : decode bs pc1 = .ok (.ifCond .le o, 3)) (ho : 0 ≤ (pc1 : Int) + o) (ht : ((pc1 : Int) + o).toNat = pcT) (hf : pc1 + 3 = pcF) (q1 : ¬ y < x → Gl p e below P (T.setTop (mkF m pcT L S))) (q2 : y < x → Gl p e below P (T.setTop (mkF m pcF L S))) : Gl p e below P (T.setTop (mkF m pc L (.long y :: .long x :: S))) := by
  refine Gl.lcmp Y rfl hd0 hp1 ?_
  obtain ⟨locs, X, eT, N, hn0, hx, hZ, hown, hby, hml, hrt, hlk⟩ := Y
  by_cases hq : ¬ y < x
  · exact (q1 hq).of1 fun t q => XS.ifYes X.here hx rfl rfl (hb hby hd) rfl (Jvm.Free.XT.ll_le_t hq) ho ht q
  · subst hf
    exact (q2 (by first | exact hq | exact Decidable.not_not.mp hq)).of1 fun t q => XS.ifNo X.here hx rfl (hb hby hd) rfl (Jvm.Free.XT.ll_le_f (by first | exact hq | exact Decidable.not_not.mp hq)) q
theorem Gl.ifnullY (Y : Sd Z own bs mx ret n0 p l e R s m args below meth c T h k n)  {o : Int} (hd : decode bs pc = .ok (.ifnull o, 3)) (ho : 0 ≤ (pc : Int) + o) (ht : ((pc : Int) + o).toNat = pcT) (q : Gl p e below P (T.setTop (mkF m pcT L S))) : Gl p e below P (T.setTop (mkF m pc L (.null :: S))) := by
  obtain ⟨locs, X, eT, N, hn0, hx, hZ, hown, hby, hml, hrt, hlk⟩ := Y
  exact q.of1 fun t q => XS.ifnullYes X.here hx rfl rfl (hb hby hd) rfl ho ht q
theorem Gl.ifnullN (Y : Sd Z own bs mx ret n0 p l e R s m args below meth c T h k n) {b : Addr} {o : Int} (hd : decode bs pc = .ok (.ifnull o, 3)) (hf : pc + 3 = pcF) (q : Gl p e below P (T.setTop (mkF m pcF L S))) : Gl p e below P (T.setTop (mkF m pc L (.ref b :: S))) := by
  obtain ⟨locs, X, eT, N, hn0, hx, hZ, hown, hby, hml, hrt, hlk⟩ := Y
  subst hf
  exact q.of1 fun t q => XS.ifnullNo X.here hx rfl (hb hby hd) rfl q
theorem Gl.ifnonnullY (Y : Sd Z own bs mx ret n0 p l e R s m args below meth c T h k n) {b : Addr} {o : Int} (hd : decode bs pc = .ok (.ifnonnull o, 3)) (ho : 0 ≤ (pc : Int) + o) (ht : ((pc : Int) + o).toNat = pcT) (q : Gl p e below P (T.setTop (mkF m pcT L S))) : Gl p e below P (T.setTop (mkF m pc L (.ref b :: S))) := by
  obtain ⟨locs, X, eT, N, hn0, hx, hZ, hown, hby, hml, hrt, hlk⟩ := Y
  exact q.of1 fun t q => XS.ifnonnullYes X.here hx rfl rfl (hb hby hd) rfl ho ht q
theorem Gl.ifnonnullN (Y : Sd Z own bs mx ret n0 p l e R s m args below meth c T h k n)  {o : Int} (hd : decode bs pc = .ok (.ifnonnull o, 3)) (hf : pc + 3 = pcF) (q : Gl p e below P (T.setTop (mkF m pcF L S))) : Gl p e below P (T.setTop (mkF m pc L (.null :: S))) := by
  obtain ⟨locs, X, eT, N, hn0, hx, hZ, hown, hby, hml, hrt, hlk⟩ := Y
  subst hf
  exact q.of1 fun t q => XS.ifnonnullNo X.here hx rfl (hb hby hd) rfl q
theorem Gl.acmpeq (Y : Sd Z own bs mx ret n0 p l e R s m args below meth c T h k n) {x y : Value} {o : Int} (h1 : x.isRef = true) (h2 : y.isRef = true) (hd : decode bs pc = .ok (.if_acmp .eq o, 3)) (ho : 0 ≤ (pc : Int) + o) (ht : ((pc : Int) + o).toNat = pcT) (hf : pc + 3 = pcF) (q1 : x = y → Gl p e below P (T.setTop (mkF m pcT L S))) (q2 : ¬ x = y → Gl p e below P (T.setTop (mkF m pcF L S))) : Gl p e below P (T.setTop (mkF m pc L (y :: x :: S))) := by
  obtain ⟨locs, X, eT, N, hn0, hx, hZ, hown, hby, hml, hrt, hlk⟩ := Y
  subst ht hf
  by_cases hq : x = y
  · exact (q1 hq).of1 fun t q => Jvm.RoadKit.acmp (g := mkF m pc L (y :: x :: S)) X hx rfl h1 h2 (pc0 := pc) (same := true) rfl (hb hby hd) rfl (decide_eq_true hq) ho rfl q
  · exact (q2 hq).of1 fun t q => Jvm.RoadKit.acmp (g := mkF m pc L (y :: x :: S)) X hx rfl h1 h2 (pc0 := pc) (same := false) rfl (hb hby hd) rfl (decide_eq_false hq) ho rfl q
theorem Gl.acmpne (Y : Sd Z own bs mx ret n0 p l e R s m args below meth c T h k n) {x y : Value} {o : Int} (h1 : x.isRef = true) (h2 : y.isRef = true) (hd : decode bs pc = .ok (.if_acmp .ne o, 3)) (ho : 0 ≤ (pc : Int) + o) (ht : ((pc : Int) + o).toNat = pcT) (hf : pc + 3 = pcF) (q1 : ¬ x = y → Gl p e below P (T.setTop (mkF m pcT L S))) (q2 : x = y → Gl p e below P (T.setTop (mkF m pcF L S))) : Gl p e below P (T.setTop (mkF m pc L (y :: x :: S))) := by
  obtain ⟨locs, X, eT, N, hn0, hx, hZ, hown, hby, hml, hrt, hlk⟩ := Y
  subst ht hf
  by_cases hq : x = y
  · exact (q2 hq).of1 fun t q => Jvm.RoadKit.acmp (g := mkF m pc L (y :: x :: S)) X hx rfl h1 h2 (pc0 := pc) (same := true) rfl (hb hby hd) rfl (decide_eq_true hq) ho rfl q
  · exact (q1 hq).of1 fun t q => Jvm.RoadKit.acmp (g := mkF m pc L (y :: x :: S)) X hx rfl h1 h2 (pc0 := pc) (same := false) rfl (hb hby hd) rfl (decide_eq_false hq) ho rfl q
theorem Gl.getF (Y : Sd Z own bs mx ret n0 p l e R s m args below meth c T h k n) {i : Nat} {R0 O f d host : String} {a : Addr} {v : Value} (w : (Jvm.Cond.fieldLink own i R0 f d).before a0 Z = true ∨ (Jvm.Cond.fieldLinkNest own i R0 f d host).before a0 Z = true) (via : Via Z R0 O f d) (F : Fld Z h a O f d v) (hd : decode bs pc = .ok (.getfield i, 3)) (hp : pc + 3 = pc') (q : ∀ T', Sd Z own bs mx ret n0 p l e R s m args below meth c T' h k n → Gl p e below P (T'.setTop (mkF m pc' L (v :: S)))) : Gl p e below P (T.setTop (mkF m pc L (.ref a :: S))) := by
  obtain ⟨locs, X, eT, N, hn0, hx, hZ, hown, hby, hml, hrt, hlk⟩ := Y
  subst hp
  obtain ⟨T', X', e', st⟩ := Jvm.RoadKit.getF X hx hZ hown w via eT F (g := mkF m pc L (.ref a :: S)) rfl rfl (hb hby hd)
  exact (q T' ⟨locs, X', e', N, hn0, hx, hZ, hown, hby, hml, hrt, hlk⟩).of1 st
theorem Gl.getS (Y : Sd Z own bs mx ret n0 p l e R s m args below meth c T h k n) {i : Nat} {R0 O f d host : String} {v : Value} (w : (Jvm.Cond.fieldLink own i R0 f d).before a0 Z = true ∨ (Jvm.Cond.fieldLinkNest own i R0 f d host).before a0 Z = true) (via : Via Z R0 O f d) (F : Sta Z h O f d v) (hd : decode bs pc = .ok (.getstatic i, 3)) (hp : pc + 3 = pc') (q : ∀ T', Sd Z own bs mx ret n0 p l e R s m args below meth c T' h k n → Gl p e below P (T'.setTop (mkF m pc' L (v :: S)))) : Gl p e below P (T.setTop (mkF m pc L S)) := by
  obtain ⟨locs, X, eT, N, hn0, hx, hZ, hown, hby, hml, hrt, hlk⟩ := Y
  subst hp
  obtain ⟨T', X', e', st⟩ := getS2 X hx hZ hown w via eT F (g := mkF m pc L S) rfl (hb hby hd)
  exact (q T' ⟨locs, X', e', N, hn0, hx, hZ, hown, hby, hml, hrt, hlk⟩).of1 st
theorem Gl.putF (Y : Sd Z own bs mx ret n0 p l e R s m args below meth c T h k n) {i kk : Nat} {R0 O f d host C : String} {ty : FieldType} {a : Addr} {v old : Value} (w : (Jvm.Cond.fieldLink own i R0 f d).before a0 Z = true ∨ (Jvm.Cond.fieldLinkNest own i R0 f d host).before a0 Z = true) (via : Via Z R0 O f d) (F : Fld Z h a O f d old) (E : Exa Z h a C) (Lw : (Jvm.Cond.lays C O f d).before a0 Z = true ∨ ((Jvm.Cond.laysFinal C O f d).before a0 Z = true ∧ own = O ∧ meth.name = "<init>")) (wi : (Jvm.Cond.instantiable C kk).before a0 Z = true) (ha : n0 ≤ a) (hty : parseFieldDescriptor d = some ty) (hn : narrow ty v = v) (hf : fits ty v = true) (hd : decode bs pc = .ok (.putfield i, 3)) (hp : pc + 3 = pc') (q : ∀ T' h', Sd Z own bs mx ret n0 p l e R s m args below meth c T' h' k n → Wr h h' a (Jvm.RoadKit.slotOf Z O f d) v → Gl p e below P (T'.setTop (mkF m pc' L S))) : Gl p e below P (T.setTop (mkF m pc L (v :: .ref a :: S))) := by
  obtain ⟨locs, X, eT, N, hn0, hx, hZ, hown, hby, hml, hrt, hlk⟩ := Y
  subst hp
  obtain ⟨T', h', X', e', W, st⟩ := Jvm.RoadKit.putF X hx hZ hown w via eT F E Lw wi hty hn hf (g := mkF m pc L (v :: .ref a :: S)) rfl rfl (hb hby hd)
  exact (q T' h' ⟨_, X', e', Fr.snoc X' N ha, hn0, hx, hZ, hown, hby, hml, hrt, hlk⟩ W).of1 st
theorem Gl.putFN (Y : Sd Z own bs mx ret n0 p l e R s m args below meth c T h k n) {i kk : Nat} {R0 O f d C : String} {ty : FieldType} {a : Addr} {v v' old : Value} (w : (Jvm.Cond.fieldLink own i R0 f d).before a0 Z = true) (via : Via Z R0 O f d) (F : Fld Z h a O f d old) (E : Exa Z h a C) (Lw : (Jvm.Cond.lays C O f d).before a0 Z = true ∨ ((Jvm.Cond.laysFinal C O f d).before a0 Z = true ∧ own = O ∧ meth.name = "<init>")) (wi : (Jvm.Cond.instantiable C kk).before a0 Z = true) (ha : n0 ≤ a) (hty : parseFieldDescriptor d = some ty) (hn : narrow ty v = v') (hf : fits ty v' = true) (hd : decode bs pc = .ok (.putfield i, 3)) (hp : pc + 3 = pc') (q : ∀ T' h', Sd Z own bs mx ret n0 p l e R s m args below meth c T' h' k n → Wr h h' a (Jvm.RoadKit.slotOf Z O f d) v' → Gl p e below P (T'.setTop (mkF m pc' L S))) : Gl p e below P (T.setTop (mkF m pc L (v :: .ref a :: S))) := by
  obtain ⟨locs, X, eT, N, hn0, hx, hZ, hown, hby, hml, hrt, hlk⟩ := Y
  subst hp
  obtain ⟨T', h', X', e', W, st⟩ := Jvm.RoadKit.putFN X hx hZ hown w via eT F E Lw wi hty hn hf (g := mkF m pc L (v :: .ref a :: S)) rfl rfl (hb hby hd)
  exact (q T' h' ⟨_, X', e', Fr.snoc X' N ha, hn0, hx, hZ, hown, hby, hml, hrt, hlk⟩ W).of1 st
theorem Gl.newO (Y : Sd Z own bs mx ret n0 p l e R s m args below meth c T h k n) {i sl : Nat} {C : String} (w : (Jvm.Cond.classLink own i C).before a0 Z = true) (wi : (Jvm.Cond.instantiable C sl).before a0 Z = true) (wz : (Jvm.Cond.initialized C).before a0 Z = true) (hc : k + 1 ≤ R.cells) (hl : n + sl ≤ R.slots) (hd : decode bs pc = .ok (.new i, 3)) (hp : pc + 3 = pc') (q : ∀ T' h' b, Sd Z own bs mx ret n0 p l e R s m args below meth c T' h' (k + 1) (n + sl) → Ext h h' → b = h.size → n0 ≤ b → Exa Z h' b C → (∀ {O nm d : String} {ty : FieldType}, Laid Z a0 C O nm d → parseFieldDescriptor d = some ty → Fld Z h' b O nm d (defaultValue ty)) → Gl p e below P (T'.setTop (mkF m pc' L (.ref b :: S)))) : Gl p e below P (T.setTop (mkF m pc L S)) := by
  obtain ⟨locs, X, eT, N, hn0, hx, hZ, hown, hby, hml, hrt, hlk⟩ := Y
  subst hp
  obtain ⟨T', h', X', e', E, A, D, -, st⟩ := Jvm.RoadKit.newO X hx hZ hown w wi wz eT (g := mkF m pc L S) rfl (hb hby hd) hc hl
  exact (q T' h' h.size ⟨locs, X', e', N, hn0, hx, hZ, hown, hby, hml, hrt, hlk⟩ E rfl (eT ▸ Nat.le_trans hn0 (own_grow X)) A D).of1 st
theorem Gl.newP (Y : Sd Z own bs mx ret n0 p l e R s m args below meth c T h k n) {aty : ArrayType} {ty : FieldType} {z : Int32} (cap : Nat) (hat : newarray.typeOf aty = ty) (w : (Jvm.Cond.arrayClass ty).before a0 Z = true) (hz : ¬ z < 0) (hcap : z.toNatClampNeg ≤ cap) (hcb : cap * 8 ≤ 536870912) (hc : k + 1 ≤ R.cells) (hl : n + cap ≤ R.slots) (hd : decode bs pc = .ok (.newarray aty, 2)) (hp : pc + 2 = pc') (q : ∀ T' h' b ck, Sd Z own bs mx ret n0 p l e R s m args below meth c T' h' (k + 1) (n + cap) → Ext h h' → b = h.size → n0 ≤ b → Arv Z h' b ck ty z [] (defaultValue ty) → Gl p e below P (T'.setTop (mkF m pc' L (.ref b :: S)))) : Gl p e below P (T.setTop (mkF m pc L (.int z :: S))) := by
  obtain ⟨locs, X, eT, N, hn0, hx, hZ, hown, hby, hml, hrt, hlk⟩ := Y
  subst hp hat
  obtain ⟨T', h', ck, X', e', E, A, st⟩ := Jvm.RoadKit.newP X hx hZ w eT (g := mkF m pc L (.int z :: S)) rfl (hb hby hd) rfl hz hcap hcb hc hl
  exact (q T' h' h.size ck ⟨locs, X', e', N, hn0, hx, hZ, hown, hby, hml, hrt, hlk⟩ E rfl (eT ▸ Nat.le_trans hn0 (own_grow X)) (Arv.new A hz)).of1 st
theorem Gl.iastore (Y : Sd Z own bs mx ret n0 p l e R s m args below meth c T h k n) {a : Addr} {ck : ClassId} {z j : Int32} {x : Int32} {vs : List Value} {d v : Value} {ix : Nat} (F : Arv Z h a ck .int z vs d) (hv : .int x = v) (hj : ¬ j < 0 ∧ j < z) (hjx : j.toNatClampNeg = ix) (hlen : ix < vs.length) (ha : n0 ≤ a) (hd : decode bs pc = .ok (.iastore, 1)) (hp : pc + 1 = pc') (q : ∀ T' h', Sd Z own bs mx ret n0 p l e R s m args below meth c T' h' k n → Wr h h' a ix v → Arv Z h' a ck .int z (vs.set ix v) d → Gl p e below P (T'.setTop (mkF m pc' L S))) : Gl p e below P (T.setTop (mkF m pc L (.int x :: .int j :: .ref a :: S))) := by
  obtain ⟨locs, X, eT, N, hn0, hx, hZ, hown, hby, hml, hrt, hlk⟩ := Y
  subst hp hv hjx
  obtain ⟨cl, A, C1, S1, N1, H, Gf⟩ := F
  obtain ⟨T', h', X', e', W, st⟩ := stI X hx hZ eT A (inb_of S1 hj) (g := mkF m pc L (.int x :: .int j :: .ref a :: S)) rfl rfl (hb hby hd)
  exact (q T' h' ⟨_, X', e', Fr.snoc X' N ha, hn0, hx, hZ, hown, hby, hml, hrt, hlk⟩ W (Arv.set A C1 S1 N1 H Gf rfl W _ rfl hlen)).of1 st
theorem Gl.lastore (Y : Sd Z own bs mx ret n0 p l e R s m args below meth c T h k n) {a : Addr} {ck : ClassId} {z j : Int32} {x : Int64} {vs : List Value} {d v : Value} {ix : Nat} (F : Arv Z h a ck .long z vs d) (hv : .long x = v) (hj : ¬ j < 0 ∧ j < z) (hjx : j.toNatClampNeg = ix) (hlen : ix < vs.length) (ha : n0 ≤ a) (hd : decode bs pc = .ok (.lastore, 1)) (hp : pc + 1 = pc') (q : ∀ T' h', Sd Z own bs mx ret n0 p l e R s m args below meth c T' h' k n → Wr h h' a ix v → Arv Z h' a ck .long z (vs.set ix v) d → Gl p e below P (T'.setTop (mkF m pc' L S))) : Gl p e below P (T.setTop (mkF m pc L (.long x :: .int j :: .ref a :: S))) := by
  obtain ⟨locs, X, eT, N, hn0, hx, hZ, hown, hby, hml, hrt, hlk⟩ := Y
  subst hp hv hjx
  obtain ⟨cl, A, C1, S1, N1, H, Gf⟩ := F
  obtain ⟨T', h', X', e', W, st⟩ := stJ X hx hZ eT A (inb_of S1 hj) (g := mkF m pc L (.long x :: .int j :: .ref a :: S)) rfl rfl (hb hby hd)
  exact (q T' h' ⟨_, X', e', Fr.snoc X' N ha, hn0, hx, hZ, hown, hby, hml, hrt, hlk⟩ W (Arv.set A C1 S1 N1 H Gf rfl W _ rfl hlen)).of1 st
theorem Gl.castore (Y : Sd Z own bs mx ret n0 p l e R s m args below meth c T h k n) {a : Addr} {ck : ClassId} {z j : Int32} {x : Int32} {vs : List Value} {d v : Value} {ix : Nat} (F : Arv Z h a ck .char z vs d) (hv : .int (nar .char x) = v) (hj : ¬ j < 0 ∧ j < z) (hjx : j.toNatClampNeg = ix) (hlen : ix < vs.length) (ha : n0 ≤ a) (hd : decode bs pc = .ok (.castore, 1)) (hp : pc + 1 = pc') (q : ∀ T' h', Sd Z own bs mx ret n0 p l e R s m args below meth c T' h' k n → Wr h h' a ix v → Arv Z h' a ck .char z (vs.set ix v) d → Gl p e below P (T'.setTop (mkF m pc' L S))) : Gl p e below P (T.setTop (mkF m pc L (.int x :: .int j :: .ref a :: S))) := by
  obtain ⟨locs, X, eT, N, hn0, hx, hZ, hown, hby, hml, hrt, hlk⟩ := Y
  subst hp hv hjx
  obtain ⟨cl, A, C1, S1, N1, H, Gf⟩ := F
  obtain ⟨T', h', X', e', W, st⟩ := stC X hx hZ eT A (inb_of S1 hj) (g := mkF m pc L (.int x :: .int j :: .ref a :: S)) rfl rfl (hb hby hd)
  exact (q T' h' ⟨_, X', e', Fr.snoc X' N ha, hn0, hx, hZ, hown, hby, hml, hrt, hlk⟩ W (Arv.set A C1 S1 N1 H Gf (fits_nar_char _) W _ rfl hlen)).of1 st
theorem Gl.sastore (Y : Sd Z own bs mx ret n0 p l e R s m args below meth c T h k n) {a : Addr} {ck : ClassId} {z j : Int32} {x : Int32} {vs : List Value} {d v : Value} {ix : Nat} (F : Arv Z h a ck .short z vs d) (hv : .int (nar .short x) = v) (hj : ¬ j < 0 ∧ j < z) (hjx : j.toNatClampNeg = ix) (hlen : ix < vs.length) (ha : n0 ≤ a) (hd : decode bs pc = .ok (.sastore, 1)) (hp : pc + 1 = pc') (q : ∀ T' h', Sd Z own bs mx ret n0 p l e R s m args below meth c T' h' k n → Wr h h' a ix v → Arv Z h' a ck .short z (vs.set ix v) d → Gl p e below P (T'.setTop (mkF m pc' L S))) : Gl p e below P (T.setTop (mkF m pc L (.int x :: .int j :: .ref a :: S))) := by
  obtain ⟨locs, X, eT, N, hn0, hx, hZ, hown, hby, hml, hrt, hlk⟩ := Y
  subst hp hv hjx
  obtain ⟨cl, A, C1, S1, N1, H, Gf⟩ := F
  obtain ⟨T', h', X', e', W, st⟩ := stS X hx hZ eT A (inb_of S1 hj) (g := mkF m pc L (.int x :: .int j :: .ref a :: S)) rfl rfl (hb hby hd)
  exact (q T' h' ⟨_, X', e', Fr.snoc X' N ha, hn0, hx, hZ, hown, hby, hml, hrt, hlk⟩ W (Arv.set A C1 S1 N1 H Gf (fits_nar_short _) W _ rfl hlen)).of1 st
theorem Gl.bastore (Y : Sd Z own bs mx ret n0 p l e R s m args below meth c T h k n) {a : Addr} {ck : ClassId} {z j : Int32} {x : Int32} {vs : List Value} {d v : Value} {ix : Nat} (F : Arv Z h a ck .byte z vs d) (hv : .int (nar .byte x) = v) (hj : ¬ j < 0 ∧ j < z) (hjx : j.toNatClampNeg = ix) (hlen : ix < vs.length) (ha : n0 ≤ a) (hd : decode bs pc = .ok (.bastore, 1)) (hp : pc + 1 = pc') (q : ∀ T' h', Sd Z own bs mx ret n0 p l e R s m args below meth c T' h' k n → Wr h h' a ix v → Arv Z h' a ck .byte z (vs.set ix v) d → Gl p e below P (T'.setTop (mkF m pc' L S))) : Gl p e below P (T.setTop (mkF m pc L (.int x :: .int j :: .ref a :: S))) := by
  obtain ⟨locs, X, eT, N, hn0, hx, hZ, hown, hby, hml, hrt, hlk⟩ := Y
  subst hp hv hjx
  obtain ⟨cl, A, C1, S1, N1, H, Gf⟩ := F
  obtain ⟨T', h', X', e', W, st⟩ := stB X hx hZ eT A (inb_of S1 hj) (g := mkF m pc L (.int x :: .int j :: .ref a :: S)) rfl rfl (hb hby hd)
  exact (q T' h' ⟨_, X', e', Fr.snoc X' N ha, hn0, hx, hZ, hown, hby, hml, hrt, hlk⟩ W (Arv.set A C1 S1 N1 H Gf (fits_nar_byte _) W _ rfl hlen)).of1 st
theorem Gl.initO (Y : Sd Z own bs mx ret n0 p l e R s m args below meth c T h k n) {i : Nat} {a : Addr} (w1 : (Jvm.Cond.methodLink own i Lib.objectInit).before a0 Z = true) (w2 : (Jvm.Cond.instanceMethod Lib.objectInit).before a0 Z = true) (w3 : (Jvm.Cond.code Lib.objectInit ⟨#[0xb1]⟩ 1 none).before a0 Z = true) (hL : L.size = mx) (hf : 1 ≤ R.frames) (hl : (S.map fun v => v.category).sum + 12 ≤ R.locals) (hd : decode bs pc = .ok (.invokespecial i, 3)) (hp : pc + 3 = pc') (q : ∀ T', Sd Z own bs mx ret n0 p l e R s m args below meth c T' h k n → Gl p e below P (T'.setTop (mkF m pc' L S))) : Gl p e below P (T.setTop (mkF m pc L (.ref a :: S))) := by
  obtain ⟨locs, X, eT, N, hn0, hx, hZ, hown, hby, hml, hrt, hlk⟩ := Y
  subst hp
  obtain ⟨T', X', e', st⟩ := Jvm.RoadKit.initO X hx hZ hown w1 w2 w3 eT (g := mkF m pc L (.ref a :: S)) rfl (by rw [hml]; exact hL) rfl (hb hby hd) hf (W := (S.map fun v => v.category).sum) (by show 2 * 0 + _ ≤ _; omega) hl
  exact (q T' ⟨locs, X', e', N, hn0, hx, hZ, hown, hby, hml, hrt, hlk⟩).of1 st
theorem Gl.castY (Y : Sd Z own bs mx ret n0 p l e R s m args below meth c T h k n) {i : Nat} {K : String} {a : Addr} (w : (Jvm.Cond.classLink own i K).before a0 Z = true) (F : Ins Z h a K true) (hd : decode bs pc = .ok (.checkcast i, 3)) (hp : pc + 3 = pc') (q : ∀ T', Sd Z own bs mx ret n0 p l e R s m args below meth c T' h k n → Gl p e below P (T'.setTop (mkF m pc' L (.ref a :: S)))) : Gl p e below P (T.setTop (mkF m pc L (.ref a :: S))) := by
  obtain ⟨locs, X, eT, N, hn0, hx, hZ, hown, hby, hml, hrt, hlk⟩ := Y
  subst hp
  obtain ⟨T', X', e', st⟩ := Jvm.RoadKit.castY X hx hZ hown w eT F (g := mkF m pc L (.ref a :: S)) rfl rfl (hb hby hd)
  exact (q T' ⟨locs, X', e', N, hn0, hx, hZ, hown, hby, hml, hrt, hlk⟩).of1 st
theorem Gl.instY (Y : Sd Z own bs mx ret n0 p l e R s m args below meth c T h k n) {i : Nat} {K : String} {a : Addr} (w : (Jvm.Cond.classLink own i K).before a0 Z = true) (F : Ins Z h a K true) (hd : decode bs pc = .ok (.instanceof i, 3)) (hp : pc + 3 = pc') (q : ∀ T', Sd Z own bs mx ret n0 p l e R s m args below meth c T' h k n → Gl p e below P (T'.setTop (mkF m pc' L (.int 1 :: S)))) : Gl p e below P (T.setTop (mkF m pc L (.ref a :: S))) := by
  obtain ⟨locs, X, eT, N, hn0, hx, hZ, hown, hby, hml, hrt, hlk⟩ := Y
  subst hp
  obtain ⟨T', X', e', st⟩ := Jvm.RoadKit.instY X hx hZ hown w eT F (g := mkF m pc L (.ref a :: S)) rfl rfl (hb hby hd)
  exact (q T' ⟨locs, X', e', N, hn0, hx, hZ, hown, hby, hml, hrt, hlk⟩).of1 st
theorem Gl.instNo (Y : Sd Z own bs mx ret n0 p l e R s m args below meth c T h k n) {i : Nat} {K C : String} {a : Addr} (w : (Jvm.Cond.classLink own i K).before a0 Z = true) (E : Exa Z h a C) (F : ∃ c t, Z.vm.findClass C = some c ∧ Z.vm.findClass K = some t ∧ Z.vm.assignable c t = false) (hd : decode bs pc = .ok (.instanceof i, 3)) (hp : pc + 3 = pc') (q : ∀ T', Sd Z own bs mx ret n0 p l e R s m args below meth c T' h k n → Gl p e below P (T'.setTop (mkF m pc' L (.int 0 :: S)))) : Gl p e below P (T.setTop (mkF m pc L (.ref a :: S))) := by
  obtain ⟨locs, X, eT, N, hn0, hx, hZ, hown, hby, hml, hrt, hlk⟩ := Y
  subst hp
  obtain ⟨T', X', e', st⟩ := Jvm.RoadKit.instNo X hx hZ hown w eT E F (g := mkF m pc L (.ref a :: S)) rfl rfl (hb hby hd)
  exact (q T' ⟨locs, X', e', N, hn0, hx, hZ, hown, hby, hml, hrt, hlk⟩).of1 st
theorem Gl.castNull (Y : Sd Z own bs mx ret n0 p l e R s m args below meth c T h k n) {i : Nat} (hd : decode bs pc = .ok (.checkcast i, 3)) (hp : pc + 3 = pc') (q : Gl p e below P (T.setTop (mkF m pc' L (.null :: S)))) : Gl p e below P (T.setTop (mkF m pc L (.null :: S))) := by
  obtain ⟨locs, X, eT, N, hn0, hx, hZ, hown, hby, hml, hrt, hlk⟩ := Y
  subst hp
  exact q.of1 fun t q => X.checkcastNull hx (g := mkF m pc L (.null :: S)) rfl rfl (hb hby hd) t q
theorem Gl.instNull (Y : Sd Z own bs mx ret n0 p l e R s m args below meth c T h k n) {i : Nat} (hd : decode bs pc = .ok (.instanceof i, 3)) (hp : pc + 3 = pc') (q : Gl p e below P (T.setTop (mkF m pc' L (.int 0 :: S)))) : Gl p e below P (T.setTop (mkF m pc L (.null :: S))) := by
  obtain ⟨locs, X, eT, N, hn0, hx, hZ, hown, hby, hml, hrt, hlk⟩ := Y
  subst hp
  exact q.of1 fun t q => X.instanceofNull hx (g := mkF m pc L (.null :: S)) rfl rfl (hb hby hd) t q
theorem Gl.newR (Y : Sd Z own bs mx ret n0 p l e R s m args below meth c T h k n) {i : Nat} {C : String} {z : Int32} (cap : Nat) (w1 : (Jvm.Cond.classLink own i C).before a0 Z = true) (w2 : (Jvm.Cond.arrayOver (.object C)).before a0 Z = true) (hz : ¬ z < 0) (hcap : z.toNatClampNeg ≤ cap) (hcb : cap * 8 ≤ 536870912) (hc : k + 1 ≤ R.cells) (hl : n + cap ≤ R.slots) (hd : decode bs pc = .ok (.anewarray i, 3)) (hp : pc + 3 = pc') (q : ∀ T' h' b ck, Sd Z own bs mx ret n0 p l e R s m args below meth c T' h' (k + 1) (n + cap) → Ext h h' → b = h.size → n0 ≤ b → Arv Z h' b ck (.object C) z [] .null → Gl p e below P (T'.setTop (mkF m pc' L (.ref b :: S)))) : Gl p e below P (T.setTop (mkF m pc L (.int z :: S))) := by
  obtain ⟨locs, X, eT, N, hn0, hx, hZ, hown, hby, hml, hrt, hlk⟩ := Y
  subst hp
  obtain ⟨T', h', ck, X', e', E, A, -, st⟩ := Jvm.RoadKit.newR X hx hZ hown w1 w2 eT (g := mkF m pc L (.int z :: S)) rfl (hb hby hd) rfl hz hcap hcb hc hl
  exact (q T' h' h.size ck ⟨locs, X', e', N, hn0, hx, hZ, hown, hby, hml, hrt, hlk⟩ E rfl (eT ▸ Nat.le_trans hn0 (own_grow X)) (Arv.new A hz)).of1 st
theorem Gl.callS (Y : Sd Z own bs mx ret n0 p l e R s m args below meth c T h k n) {y : MethodName} {bs2 : ByteArray} {mx2 : Nat} {ret2 : Option FieldType} {rm : Room} {as : Array Value} {Q : Option Value → Heap → Prop} {i : Nat} {argsL rest : List Value} (w1 : (Jvm.Cond.methodLink own i y).before a0 Z = true) (w2 : (Jvm.Cond.static y).before a0 Z = true) (w3 : (Jvm.Cond.initialized y.cls).before a0 Z = true) (w4 : (Jvm.Cond.code y bs2 mx2 ret2).before a0 Z = true) (hy : y.cls ≠ "java/lang/invoke/MethodHandle" ∧ y.cls ≠ "java/lang/invoke/VarHandle") (hM : OMet l Z [] y bs2 mx2 ret2 rm as h n0 Q) (has : argsL.toArray = as) (hS : S = argsL.reverse ++ rest) (hlen : ∀ sig, parseMethodDescriptor y.desc = some sig → argsL.length = sig.parameters.length) (hL : L.size = mx) (hf : rm.frames + 1 ≤ R.frames) (hl : (rest.map fun v => v.category).sum + (mx2 + 11) + rm.locals ≤ R.locals) (hc : k + rm.cells ≤ R.cells) (hs : n + rm.slots ≤ R.slots) (hd : decode bs pc = .ok (.invokestatic i, 3)) (hp : pc + 3 = pc') (q : ∀ v T' h', Sd Z own bs mx ret n0 p l e R s m args below meth c T' h' (k + rm.cells) (n + rm.slots) → Q v h' → Gl p e below P (T'.setTop (mkF m pc' L (v.toList ++ rest)))) : Gl p e below P (T.setTop (mkF m pc L S)) := by
  obtain ⟨locs, X, eT, N, hn0, hx, hZ, hown, hby, hml, hrt, hlk⟩ := Y
  subst hp has hS
  obtain ⟨v, vm₁, ⟨T', L', k', n'⟩, -, X', hB, st⟩ := Jvm.LawKit.callS X hx (y := y) hown (mvT hZ w1) (mvT hZ w2) (mvT hZ w3) (mvT hZ w4) hy (backOf (Q := fun v h' L => Q v h' ∧ Fr n0 L) (W := (rest.map fun v => v.category).sum) (OMet.un hM) hZ w4 w3 hf hl) (g := mkF m pc L (argsL.reverse ++ rest)) rfl (by rw [hml]; exact hL) (argsL := argsL) (rest := rest) hlen rfl (by show 2 * 0 + _ ≤ _; omega) (hb hby hd) (fun _ _ => ⟨rfl, eT, hc, hs⟩)
  obtain ⟨Lc, ⟨hQ, NL⟩, l1, l2, l3⟩ := hB
  dsimp only [Pt.U, Pt.locs, Pt.cells, Pt.slots] at X' l1 l2 l3 st hQ
  subst l1 l2 l3
  exact (q v T' T'.heap ⟨_, X', rfl, Fr.app N NL, hn0, hx, hZ, hown, hby, hml, hrt, hlk⟩ hQ).of1 st
theorem Gl.callN (Y : Sd Z own bs mx ret n0 p l e R s m args below meth c T h k n) {y : MethodName} {bs2 : ByteArray} {mx2 : Nat} {rm : Room} {as : Array Value} {Q : Option Value → Heap → Prop} {i : Nat} {argsL rest : List Value} {a : Addr} (hy1 : y.name = "<init>") (w1 : (Jvm.Cond.methodLink own i y).before a0 Z = true) (w2 : (Jvm.Cond.instanceMethod y).before a0 Z = true) (w3 : (Jvm.Cond.initialized y.cls).before a0 Z = true) (w4 : (Jvm.Cond.code y bs2 mx2 none).before a0 Z = true) (hy : y.cls ≠ "java/lang/invoke/MethodHandle" ∧ y.cls ≠ "java/lang/invoke/VarHandle") (hM : OMet l Z [] y bs2 mx2 none rm as h n0 Q) (has : (.ref a :: argsL).toArray = as) (hS : S = argsL.reverse ++ .ref a :: rest) (hlen : ∀ sig, parseMethodDescriptor y.desc = some sig → argsL.length = sig.parameters.length) (hL : L.size = mx) (hf : rm.frames + 1 ≤ R.frames) (hl : (rest.map fun v => v.category).sum + (mx2 + 11) + rm.locals ≤ R.locals) (hc : k + rm.cells ≤ R.cells) (hs : n + rm.slots ≤ R.slots) (hd : decode bs pc = .ok (.invokespecial i, 3)) (hp : pc + 3 = pc') (q : ∀ v T' h', Sd Z own bs mx ret n0 p l e R s m args below meth c T' h' (k + rm.cells) (n + rm.slots) → Q v h' → Gl p e below P (T'.setTop (mkF m pc' L (v.toList ++ rest)))) : Gl p e below P (T.setTop (mkF m pc L S)) := by
  obtain ⟨locs, X, eT, N, hn0, hx, hZ, hown, hby, hml, hrt, hlk⟩ := Y
  subst hp has hS
  obtain ⟨v, vm₁, ⟨T', L', k', n'⟩, -, X', hB, st⟩ := X.specialBack hx (y := y) hy1 hown (mvT hZ w1) (mvT hZ w2) (mvT hZ w4) hy (backOf (Q := fun v h' L => Q v h' ∧ Fr n0 L) (W := (rest.map fun v => v.category).sum) (OMet.un hM) hZ w4 w3 hf hl) (g := mkF m pc L (argsL.reverse ++ .ref a :: rest)) rfl (by rw [hml]; exact hL) (Steps.refl _) (a := a) (argsL := argsL) (rest := rest) hlen rfl (by show 2 * 0 + _ ≤ _; omega) (hb hby hd) (fun _ _ => ⟨rfl, eT, hc, hs⟩)
  obtain ⟨Lc, ⟨hQ, NL⟩, l1, l2, l3⟩ := hB
  dsimp only [Pt.U, Pt.locs, Pt.cells, Pt.slots] at X' l1 l2 l3 st hQ
  subst l1 l2 l3
  exact Gl.via st (q v T' T'.heap ⟨_, X', rfl, Fr.app N NL, hn0, hx, hZ, hown, hby, hml, hrt, hlk⟩ hQ)
theorem Gl.callV (Y : Sd Z own bs mx ret n0 p l e R s m args below meth c T h k n) {y : MethodName} {bs2 : ByteArray} {mx2 : Nat} {ret2 : Option FieldType} {rm : Room} {as : Array Value} {Q : Option Value → Heap → Prop} {i : Nat} {z : MethodName} {C : String} {argsL rest : List Value} {a : Addr} (w1 : (Jvm.Cond.methodLink own i z).before a0 Z = true) (wd : (Jvm.Cond.declares z).before a0 Z = true) (ws0 : (Jvm.Cond.selects z.cls z z).before a0 Z = true) (ws : (Jvm.Cond.selects C z y).before a0 Z = true) (w2 : (Jvm.Cond.instanceMethod y).before a0 Z = true) (w3 : (Jvm.Cond.initialized y.cls).before a0 Z = true) (w4 : (Jvm.Cond.code y bs2 mx2 ret2).before a0 Z = true) (hy : z.cls ≠ "java/lang/invoke/MethodHandle" ∧ z.cls ≠ "java/lang/invoke/VarHandle") (E : Exa Z h a C) (hM : OMet l Z [] y bs2 mx2 ret2 rm as h n0 Q) (has : (.ref a :: argsL).toArray = as) (hS : S = argsL.reverse ++ .ref a :: rest) (hlen : ∀ sig, parseMethodDescriptor z.desc = some sig → argsL.length = sig.parameters.length) (hL : L.size = mx) (hf : rm.frames + 1 ≤ R.frames) (hl : (rest.map fun v => v.category).sum + (mx2 + 11) + rm.locals ≤ R.locals) (hc : k + rm.cells ≤ R.cells) (hs : n + rm.slots ≤ R.slots) (hd : decode bs pc = .ok (.invokevirtual i, 3)) (hp : pc + 3 = pc') (q : ∀ v T' h', Sd Z own bs mx ret n0 p l e R s m args below meth c T' h' (k + rm.cells) (n + rm.slots) → Q v h' → Gl p e below P (T'.setTop (mkF m pc' L (v.toList ++ rest)))) : Gl p e below P (T.setTop (mkF m pc L S)) := by
  obtain ⟨locs, X, eT, N, hn0, hx, hZ, hown, hby, hml, hrt, hlk⟩ := Y
  subst hp has hS
  obtain ⟨cq, kq, qa, qb, qc⟩ := isOf hZ eT E
  obtain ⟨v, vm₁, ⟨T', L', k', n'⟩, -, X', hB, st⟩ := X.virtualBack hx (y := z) (z := y) hown (mvT hZ w1) (mvT hZ wd) (notFace_of_selects (args := #[]) (mvT hZ ws0)) (mvT hZ ws) (mvT hZ w2) hy (backOf (Q := fun v h' L => Q v h' ∧ Fr n0 L) (W := (rest.map fun v => v.category).sum) (OMet.un hM) hZ w4 w3 hf hl) qa qc (g := mkF m pc L (argsL.reverse ++ .ref a :: rest)) rfl (by rw [hml]; exact hL) (Steps.refl _) (argsL := argsL) (rest := rest) hlen rfl (by show 2 * 0 + _ ≤ _; omega) (hb hby hd) (fun _ _ => ⟨rfl, eT, hc, hs⟩)
  obtain ⟨Lc, ⟨hQ, NL⟩, l1, l2, l3⟩ := hB
  dsimp only [Pt.U, Pt.locs, Pt.cells, Pt.slots] at X' l1 l2 l3 st hQ
  subst l1 l2 l3
  exact Gl.via st (q v T' T'.heap ⟨_, X', rfl, Fr.app N NL, hn0, hx, hZ, hown, hby, hml, hrt, hlk⟩ hQ)
theorem Gl.callP (Y : Sd Z own bs mx ret n0 p l e R s m args below meth c T h k n) {y : MethodName} {bs2 : ByteArray} {mx2 : Nat} {ret2 : Option FieldType} {rm : Room} {as : Array Value} {Q : Option Value → Heap → Prop} {i : Nat} {C : String} {kk : Nat} {argsL rest : List Value} {a : Addr} (w1 : (Jvm.Cond.methodLink own i y).before a0 Z = true) (w2 : (Jvm.Cond.instanceMethod y).before a0 Z = true) (wp : (Jvm.Cond.privateMethod y).before a0 Z = true) (wi : (Jvm.Cond.instantiable y.cls kk).before a0 Z = true) (w3 : (Jvm.Cond.initialized y.cls).before a0 Z = true) (w4 : (Jvm.Cond.code y bs2 mx2 ret2).before a0 Z = true) (hy : y.cls ≠ "java/lang/invoke/MethodHandle" ∧ y.cls ≠ "java/lang/invoke/VarHandle") (E : Exa Z h a C) (hM : OMet l Z [] y bs2 mx2 ret2 rm as h n0 Q) (has : (.ref a :: argsL).toArray = as) (hS : S = argsL.reverse ++ .ref a :: rest) (hlen : ∀ sig, parseMethodDescriptor y.desc = some sig → argsL.length = sig.parameters.length) (hL : L.size = mx) (hf : rm.frames + 1 ≤ R.frames) (hl : (rest.map fun v => v.category).sum + (mx2 + 11) + rm.locals ≤ R.locals) (hc : k + rm.cells ≤ R.cells) (hs : n + rm.slots ≤ R.slots) (hd : decode bs pc = .ok (.invokevirtual i, 3)) (hp : pc + 3 = pc') (q : ∀ v T' h', Sd Z own bs mx ret n0 p l e R s m args below meth c T' h' (k + rm.cells) (n + rm.slots) → Q v h' → Gl p e below P (T'.setTop (mkF m pc' L (v.toList ++ rest)))) : Gl p e below P (T.setTop (mkF m pc L S)) := by
  obtain ⟨locs, X, eT, N, hn0, hx, hZ, hown, hby, hml, hrt, hlk⟩ := Y
  subst hp has hS
  obtain ⟨cq, qa, qb⟩ := E.cell
  have hpr := Cond.privateMethod_at (mvP hZ wp (args := #[]))
  obtain ⟨c1, k1, i1, i2, -, i4, -⟩ := Cond.instantiable_spec (mv (args := args) hZ wi)
  have i5 : k1.isInterface = false := by cases hi : k1.isInterface <;> simp [hi] at i4 ⊢
  have hsel := selects_self_of_private (args := args) i1 i2 i5 hpr (mvT hZ w2) hy
  obtain ⟨v, vm₁, ⟨T', L', k', n'⟩, -, X', hB, st⟩ := X.privateBack hx (y := y) hown (mvT hZ w1) (mvT hZ w2) hsel hpr (mvT hZ w4) hy (backOf (Q := fun v h' L => Q v h' ∧ Fr n0 L) (W := (rest.map fun v => v.category).sum) (OMet.un hM) hZ w4 w3 hf hl) (g := mkF m pc L (argsL.reverse ++ .ref a :: rest)) rfl (by rw [hml]; exact hL) (Steps.refl _) (a := a) (by rw [eT]; exact qa) qb (argsL := argsL) (rest := rest) hlen rfl (by show 2 * 0 + _ ≤ _; omega) (hb hby hd) (fun _ _ => ⟨rfl, eT, hc, hs⟩)
  obtain ⟨Lc, ⟨hQ, NL⟩, l1, l2, l3⟩ := hB
  dsimp only [Pt.U, Pt.locs, Pt.cells, Pt.slots] at X' l1 l2 l3 st hQ
  subst l1 l2 l3
  exact Gl.via st (q v T' T'.heap ⟨_, X', rfl, Fr.app N NL, hn0, hx, hZ, hown, hby, hml, hrt, hlk⟩ hQ)
theorem Gl.callNN (Y : Sd Z own bs mx ret n0 p l e R s m args below meth c T h k n) {y : MethodName} {bs2 : ByteArray} {mx2 : Nat} {rm : Room} {as : Array Value} {Q : Option Value → Heap → Prop} {i : Nat} {argsL rest : List Value} {host : String} {a : Addr} (hy1 : y.name = "<init>") (w1 : (Jvm.Cond.methodLinkNest own i y host).before a0 Z = true) (w2 : (Jvm.Cond.instanceMethod y).before a0 Z = true) (w3 : (Jvm.Cond.initialized y.cls).before a0 Z = true) (w4 : (Jvm.Cond.code y bs2 mx2 none).before a0 Z = true) (hy : y.cls ≠ "java/lang/invoke/MethodHandle" ∧ y.cls ≠ "java/lang/invoke/VarHandle") (hM : OMet l Z [] y bs2 mx2 none rm as h n0 Q) (has : (.ref a :: argsL).toArray = as) (hS : S = argsL.reverse ++ .ref a :: rest) (hlen : ∀ sig, parseMethodDescriptor y.desc = some sig → argsL.length = sig.parameters.length) (hL : L.size = mx) (hf : rm.frames + 1 ≤ R.frames) (hl : (rest.map fun v => v.category).sum + (mx2 + 11) + rm.locals ≤ R.locals) (hc : k + rm.cells ≤ R.cells) (hs : n + rm.slots ≤ R.slots) (hd : decode bs pc = .ok (.invokespecial i, 3)) (hp : pc + 3 = pc') (q : ∀ v T' h', Sd Z own bs mx ret n0 p l e R s m args below meth c T' h' (k + rm.cells) (n + rm.slots) → Q v h' → Gl p e below P (T'.setTop (mkF m pc' L (v.toList ++ rest)))) : Gl p e below P (T.setTop (mkF m pc L S)) := by
  obtain ⟨locs, X, eT, N, hn0, hx, hZ, hown, hby, hml, hrt, hlk⟩ := Y
  subst hp has hS
  obtain ⟨v, vm₁, ⟨T', L', k', n'⟩, -, X', hB, st⟩ := X.specialBackNest hx (y := y) hy1 hown (Cond.methodLinkNest_wide hZ w1 :) (mvT hZ w2) (mvT hZ w4) hy (backOf (Q := fun v h' L => Q v h' ∧ Fr n0 L) (W := (rest.map fun v => v.category).sum) (OMet.un hM) hZ w4 w3 hf hl) (g := mkF m pc L (argsL.reverse ++ .ref a :: rest)) rfl (by rw [hml]; exact hL) (Steps.refl _) (a := a) (argsL := argsL) (rest := rest) hlen rfl (by show 2 * 0 + _ ≤ _; omega) (hb hby hd) (fun _ _ => ⟨rfl, eT, hc, hs⟩)
  obtain ⟨Lc, ⟨hQ, NL⟩, l1, l2, l3⟩ := hB
  dsimp only [Pt.U, Pt.locs, Pt.cells, Pt.slots] at X' l1 l2 l3 st hQ
  subst l1 l2 l3
  exact Gl.via st (q v T' T'.heap ⟨_, X', rfl, Fr.app N NL, hn0, hx, hZ, hown, hby, hml, hrt, hlk⟩ hQ)
theorem Gl.callVU (Y : Sd Z own bs mx ret n0 p l e R s m args below meth c T h k n) {y : MethodName} {bs2 : ByteArray} {mx2 : Nat} {ret2 : Option FieldType} {rm : Room} {as : Array Value} {Q : Option Value → Heap → Prop} {i : Nat} {owner : String} {z : MethodName} {C : String} {argsL rest : List Value} {a : Addr} (w1 : (Jvm.Cond.methodLink own i z).before a0 Z = true) (w0 : (Jvm.Cond.sameMethod z.cls owner z.name z.desc).before a0 Z = true) (wd : (Jvm.Cond.declares ⟨owner, z.name, z.desc⟩).before a0 Z = true) (ws : (Jvm.Cond.selects C z y).before a0 Z = true) (w2 : (Jvm.Cond.instanceMethod y).before a0 Z = true) (w3 : (Jvm.Cond.initialized y.cls).before a0 Z = true) (w4 : (Jvm.Cond.code y bs2 mx2 ret2).before a0 Z = true) (hy : owner ≠ "java/lang/invoke/MethodHandle" ∧ owner ≠ "java/lang/invoke/VarHandle") (E : Exa Z h a C) (hM : OMet l Z [] y bs2 mx2 ret2 rm as h n0 Q) (has : (.ref a :: argsL).toArray = as) (hS : S = argsL.reverse ++ .ref a :: rest) (hlen : ∀ sig, parseMethodDescriptor z.desc = some sig → argsL.length = sig.parameters.length) (hL : L.size = mx) (hf : rm.frames + 1 ≤ R.frames) (hl : (rest.map fun v => v.category).sum + (mx2 + 11) + rm.locals ≤ R.locals) (hc : k + rm.cells ≤ R.cells) (hs : n + rm.slots ≤ R.slots) (hd : decode bs pc = .ok (.invokevirtual i, 3)) (hp : pc + 3 = pc') (q : ∀ v T' h', Sd Z own bs mx ret n0 p l e R s m args below meth c T' h' (k + rm.cells) (n + rm.slots) → Q v h' → Gl p e below P (T'.setTop (mkF m pc' L (v.toList ++ rest)))) : Gl p e below P (T.setTop (mkF m pc L S)) := by
  obtain ⟨locs, X, eT, N, hn0, hx, hZ, hown, hby, hml, hrt, hlk⟩ := Y
  subst hp has hS
  obtain ⟨cq, kq, qa, qb, qc⟩ := isOf hZ eT E
  obtain ⟨v, vm₁, ⟨T', L', k', n'⟩, -, X', hB, st⟩ := X.virtualBackUp hx (x := z) (y := y) hown (mvT hZ w1) (mvT hZ w0) (mvT hZ wd) hy (mvT hZ ws) (mvT hZ w2) (backOf (Q := fun v h' L => Q v h' ∧ Fr n0 L) (W := (rest.map fun v => v.category).sum) (OMet.un hM) hZ w4 w3 hf hl) qa qc (g := mkF m pc L (argsL.reverse ++ .ref a :: rest)) rfl (by rw [hml]; exact hL) (Steps.refl _) (argsL := argsL) (rest := rest) hlen rfl (by show 2 * 0 + _ ≤ _; omega) (hb hby hd) (fun _ _ => ⟨rfl, eT, hc, hs⟩)
  obtain ⟨Lc, ⟨hQ, NL⟩, l1, l2, l3⟩ := hB
  dsimp only [Pt.U, Pt.locs, Pt.cells, Pt.slots] at X' l1 l2 l3 st hQ
  subst l1 l2 l3
  exact Gl.via st (q v T' T'.heap ⟨_, X', rfl, Fr.app N NL, hn0, hx, hZ, hown, hby, hml, hrt, hlk⟩ hQ)
theorem Gl.fin (Y : Sd Z own bs mx ret n0 p l e R s m args below meth c T h k n) {K M : Nat} {Q : Option Value → Heap → Prop} (hk : k ≤ K) (hm : n ≤ M) {g : JFrame} {v : Option Value} (hv : ret = none → v = none) (st : ∀ fs, (∀ (f : JFrame) (acts : List Action), f.method = m → f.locked = none → f.entered = [] → (doReturn e (T.setTop f) acts v).1 = T.setFrames fs) → Steps p.tables e below (T.setTop g) (T.setFrames fs)) (hQ : Q v h) : Gl p e below (Pst s n0 K M Q) (T.setTop g) := by
  obtain ⟨locs, X, eT, N, hn0, hx, hZ, hown, hby, hml, hrt, hlk⟩ := Y
  obtain ⟨fs, hr, hrun, hended, hW, hsame⟩ := X.leave (v := v) (fun q => hv (hrt.symm.trans q)) hlk
  exact ⟨_, _, st fs hr, hrun, hended, v, locs, rfl, ⟨by show Q v T.heap; rw [eT]; exact hQ, N⟩, ⟨_, rfl⟩, hW, hsame.mono hk hm⟩
theorem Gl.retV (Y : Sd Z own bs mx none n0 p l e R s m args below meth c T h k n) {K M : Nat} {Q : Option Value → Heap → Prop} (hk : k ≤ K) (hm : n ≤ M)  (hd : decode bs pc = .ok (.return_, 1)) (hQ : Q none h) : Gl p e below (Pst s n0 K M Q) (T.setTop (mkF m pc L [])) := by
  have Y0 := Y
  obtain ⟨locs, X, eT, N, hn0, hx, hZ, hown, hby, hml, hrt, hlk⟩ := Y
  exact Gl.fin Y0 hk hm (v := none) (fun q => by first | rfl | cases q) (fun fs hr => X.returnOut hx hrt (hb hby hd) hr) hQ
theorem Gl.retI (Y : Sd Z own bs mx (some .int) n0 p l e R s m args below meth c T h k n) {K M : Nat} {Q : Option Value → Heap → Prop} (hk : k ≤ K) (hm : n ≤ M) {x : Int32} (hd : decode bs pc = .ok (.ireturn, 1)) (hQ : Q (some (.int x)) h) : Gl p e below (Pst s n0 K M Q) (T.setTop (mkF m pc L (.int x :: S))) := by
  have Y0 := Y
  obtain ⟨locs, X, eT, N, hn0, hx, hZ, hown, hby, hml, hrt, hlk⟩ := Y
  exact Gl.fin Y0 hk hm (v := (some (.int x))) (fun q => by first | rfl | cases q) (fun fs hr => retOut X hx hrt rfl (Or.inl ⟨rfl, Or.inl rfl, x, rfl⟩) (hb hby hd) hr) hQ
theorem Gl.retJ (Y : Sd Z own bs mx (some .long) n0 p l e R s m args below meth c T h k n) {K M : Nat} {Q : Option Value → Heap → Prop} (hk : k ≤ K) (hm : n ≤ M) {x : Int64} (hd : decode bs pc = .ok (.lreturn, 1)) (hQ : Q (some (.long x)) h) : Gl p e below (Pst s n0 K M Q) (T.setTop (mkF m pc L (.long x :: S))) := by
  have Y0 := Y
  obtain ⟨locs, X, eT, N, hn0, hx, hZ, hown, hby, hml, hrt, hlk⟩ := Y
  exact Gl.fin Y0 hk hm (v := (some (.long x))) (fun q => by first | rfl | cases q) (fun fs hr => retOut X hx hrt rfl (Or.inr (Or.inl ⟨rfl, rfl, x, rfl⟩)) (hb hby hd) hr) hQ
theorem Gl.retA (Y : Sd Z own bs mx (some t) n0 p l e R s m args below meth c T h k n) {K M : Nat} {Q : Option Value → Heap → Prop} (hk : k ≤ K) (hm : n ≤ M) {x : Value} (ht : t.isReference = true) (hxr : x.isRef = true) (hd : decode bs pc = .ok (.areturn, 1)) (hQ : Q (some x) h) : Gl p e below (Pst s n0 K M Q) (T.setTop (mkF m pc L (x :: S))) := by
  have Y0 := Y
  obtain ⟨locs, X, eT, N, hn0, hx, hZ, hown, hby, hml, hrt, hlk⟩ := Y
  exact Gl.fin Y0 hk hm (v := (some x)) (fun q => by first | rfl | cases q) (fun fs hr => retOut X hx hrt (own_narR hxr) (Or.inr (Or.inr (Or.inr (Or.inr ⟨rfl, ht, hxr⟩)))) (hb hby hd) hr) hQ
theorem Gl.retZ (Y : Sd Z own bs mx (some .boolean) n0 p l e R s m args below meth c T h k n) {K M : Nat} {Q : Option Value → Heap → Prop} (hk : k ≤ K) (hm : n ≤ M) {x x' : Int32} (hxn : nar .boolean x = x') (hd : decode bs pc = .ok (.ireturn, 1)) (hQ : Q (some (.int x')) h) : Gl p e below (Pst s n0 K M Q) (T.setTop (mkF m pc L (.int x :: S))) := by
  have Y0 := Y
  obtain ⟨locs, X, eT, N, hn0, hx, hZ, hown, hby, hml, hrt, hlk⟩ := Y
  exact Gl.fin Y0 hk hm (v := (some (.int x'))) (fun q => by first | rfl | cases q) (fun fs hr => retN X hx (t := .boolean) hrt (by simp) (hb hby hd) (by rw [hxn]; exact hr)) hQ
theorem Gl.retB (Y : Sd Z own bs mx (some .byte) n0 p l e R s m args below meth c T h k n) {K M : Nat} {Q : Option Value → Heap → Prop} (hk : k ≤ K) (hm : n ≤ M) {x x' : Int32} (hxn : nar .byte x = x') (hd : decode bs pc = .ok (.ireturn, 1)) (hQ : Q (some (.int x')) h) : Gl p e below (Pst s n0 K M Q) (T.setTop (mkF m pc L (.int x :: S))) := by
  have Y0 := Y
  obtain ⟨locs, X, eT, N, hn0, hx, hZ, hown, hby, hml, hrt, hlk⟩ := Y
  exact Gl.fin Y0 hk hm (v := (some (.int x'))) (fun q => by first | rfl | cases q) (fun fs hr => retN X hx (t := .byte) hrt (by simp) (hb hby hd) (by rw [hxn]; exact hr)) hQ
theorem Gl.retC (Y : Sd Z own bs mx (some .char) n0 p l e R s m args below meth c T h k n) {K M : Nat} {Q : Option Value → Heap → Prop} (hk : k ≤ K) (hm : n ≤ M) {x x' : Int32} (hxn : nar .char x = x') (hd : decode bs pc = .ok (.ireturn, 1)) (hQ : Q (some (.int x')) h) : Gl p e below (Pst s n0 K M Q) (T.setTop (mkF m pc L (.int x :: S))) := by
  have Y0 := Y
  obtain ⟨locs, X, eT, N, hn0, hx, hZ, hown, hby, hml, hrt, hlk⟩ := Y
  exact Gl.fin Y0 hk hm (v := (some (.int x'))) (fun q => by first | rfl | cases q) (fun fs hr => retN X hx (t := .char) hrt (by simp) (hb hby hd) (by rw [hxn]; exact hr)) hQ
theorem Gl.retSh (Y : Sd Z own bs mx (some .short) n0 p l e R s m args below meth c T h k n) {K M : Nat} {Q : Option Value → Heap → Prop} (hk : k ≤ K) (hm : n ≤ M) {x x' : Int32} (hxn : nar .short x = x') (hd : decode bs pc = .ok (.ireturn, 1)) (hQ : Q (some (.int x')) h) : Gl p e below (Pst s n0 K M Q) (T.setTop (mkF m pc L (.int x :: S))) := by
  have Y0 := Y
  obtain ⟨locs, X, eT, N, hn0, hx, hZ, hown, hby, hml, hrt, hlk⟩ := Y
  exact Gl.fin Y0 hk hm (v := (some (.int x'))) (fun q => by first | rfl | cases q) (fun fs hr => retN X hx (t := .short) hrt (by simp) (hb hby hd) (by rw [hxn]; exact hr)) hQ
end Kit
end Jvm.OwnWk

namespace Jvm.OwnWW
open Sem ClassFile Op Lib Jvm.Stand Jvm.Free Jvm.LawKit Jvm.RoadKit
def Sd (Z : State) (own : String) (bs : ByteArray) (mx : Nat) (ret : Option FieldType) (n0 : Nat) (p : Program) (l : Launch) (e : Env) (R : Room) (s : State) (m : MethodId) (args : Array Value) (below : List Frame) (meth : Method) (c : Code) (T : State) (h : Heap) (k n : Nat) : Prop :=
  ∃ locs vm0 k0, Stand p l e R (s.setVm vm0) m args below meth c T locs k n ∧ T.heap = h ∧ Fr n0 locs ∧ n0 ≤ s.heap.size ∧ p.tables.exec = Jvm.exec ∧ Z.Warmed39 (s.setVm vm0).vm ∧ (s.setVm vm0).vm.findClass own = some m.cls ∧ c.code = bs ∧ c.maxLocals = mx ∧ meth.sig.returnType = ret ∧ meth.locks = false ∧ s.Since vm0 k0 ∧ k0 ≤ h.size
abbrev Gl (p : Program) (e : Env) (below : List Frame) (P : Outcome → State → Prop) (A : State) : Prop := Jvm.OwnWk.Gl p e below P A
def Pst (s : State) (n0 K N : Nat) (Q : Option Value → Heap → Prop) (o : Outcome) (t : State) : Prop := ∃ v L, o = .returned v ∧ (Q v t.heap ∧ Fr n0 L) ∧ ReturnedEndW s o t L K N
def OMet (l : Launch) (Z : State) (ws : List Jvm.Cond) (y : MethodName) (bs : ByteArray) (mx : Nat) (ret : Option FieldType) (rm : Room) (as : Array Value) (h : Heap) (n0 : Nat) (Q : Option Value → Heap → Prop) : Prop :=
  MetFree l y (head1 (Jvm.Cond.code y bs mx ret :: ws) rm) (fun a U => a = as ∧ Z.Warmed39 U.vm ∧ U.heap = h) (fun _ _ _ _ _ => True) (fun _ U o U' => ∃ v L, o = .returned v ∧ (Q v U'.heap ∧ Fr n0 L) ∧ ReturnedEndW U o U' L rm.cells rm.slots)
def own_ne (a b : Addr) : Prop := a ≠ b
section Kit
variable {Z : State} {own : String} {bs : ByteArray} {mx : Nat} {ret : Option FieldType} {n0 : Nat} {p : Program} {l : Launch} {e : Env} {R : Room} {s : State} {m : MethodId} {args : Array Value} {below : List Frame} {meth : Method} {c : Code} {T : State} {h : Heap} {k n : Nat} {P : Outcome → State → Prop} {L : Array Slot} {S : List Value} {pc pc' pcT pcF : Nat} {a0 : Array Value} {t : FieldType}
theorem Gl.of1 {A B : State} (f : ∀ t, Steps p.tables e below B t → Steps p.tables e below A t) (q : Gl p e below P B) : Gl p e below P A := by
  obtain ⟨t, o, h1, h2⟩ := q
  exact ⟨t, o, f t h1, h2⟩
theorem Gl.via {A B : State} (f : Steps p.tables e below A B) (q : Gl p e below P B) : Gl p e below P A := by
  obtain ⟨t, o, h1, h2⟩ := q
  exact ⟨t, o, f.trans h1, h2⟩
theorem own_since (s : State) : s.Since s.vm s.heap.size := ⟨State.Warmed39.refl s, fun j q h1 h2 => absurd (Array.getElem?_eq_some_iff.mp h2).1 (Nat.not_lt.mpr h1)⟩
theorem OMet.of {ws : List Jvm.Cond} {y : MethodName} {rm : Room} {as : Array Value} {Q : Option Value → Heap → Prop} (ho : y.cls = own) (hpl : plainFor y = true) (hef : ∀ m, entryFrame m as mx = mkF m 0 L []) (hn : n0 ≤ h.size)
    (body : ∀ p e s m below meth c T, Sd Z own bs mx ret n0 p l e rm s m as below meth c T h 0 0 → meth.name = y.name → Gl p e below (Pst s n0 rm.cells rm.slots Q) (T.setTop (mkF m 0 L []))) : OMet l Z ws y bs mx ret rm as h n0 Q := by
  subst ho
  refine MetFree.of_bodySF hpl hisR ?_
  intro p e s m args below meth c s₁ Bd hml0 hP hK
  obtain ⟨rfl, hZ, hh⟩ := hP
  have e0 : s₁.heap = h := by rw [← hh, Bd.state]; rfl
  obtain ⟨t, o, h1, h2, h3, h4⟩ := body p e s m below meth c s₁ ⟨[], s.vm, s.heap.size, Stand.of_body Bd, e0, Fr.nil n0, by rw [hh]; exact hn, Bd.exec, hZ, findClass_of_methodNamed Bd.named, Bd.bytes, hml0, Bd.returns, Bd.notSynchronized, own_since s, Nat.le_of_eq (by rw [hh])⟩ (name_of_methodNamed Bd.named Bd.method).1
  exact ⟨t, o, castTop (hef m) h1, h2, h3, h4⟩

theorem own_grow {T' : State} {locs' : List Loc} {k' n' : Nat} {vm0 : Vm} (X : Stand p l e R (s.setVm vm0) m args below meth c T' locs' k' n') : s.heap.size ≤ T'.heap.size := X.same.2.1
theorem Sd.sz (Y : Sd Z own bs mx ret n0 p l e R s m args below meth c T h k n) : n0 ≤ h.size := by
  obtain ⟨locs, vm0, k0, X, eT, N, hn0, hx, hZ, hown, hby, hml, hrt, hlk, hSi, hk0⟩ := Y
  exact eT ▸ Nat.le_trans hn0 (own_grow X)
theorem OMet.un {l : Launch} {Z : State} {ws : List Jvm.Cond} {y : MethodName} {bs : ByteArray} {mx : Nat} {ret : Option FieldType} {rm : Room} {as : Array Value} {h : Heap} {n0 : Nat} {Q : Option Value → Heap → Prop} (q : OMet l Z ws y bs mx ret rm as h n0 Q) :
  MetFree l y (head1 (Jvm.Cond.code y bs mx ret :: ws) rm) (fun a U => a = as ∧ Z.Warmed39 U.vm ∧ U.heap = h) (fun _ _ _ _ _ => True) (fun _ U o U' => ∃ v L, o = .returned v ∧ (fun v h' L => Q v h' ∧ Fr n0 L) v U'.heap L ∧ ReturnedEndW U o U' L rm.cells rm.slots) := q
theorem Gl.ishr (Y : Sd Z own bs mx ret n0 p l e R s m args below meth c T h k n) {x y : Int32} {r : Int32} (hr : x >>> (y &&& 31) = r) (hd : decode bs pc = .ok (.ishr, 1)) (hp : pc + 1 = pc') (q : Gl p e below P (T.setTop (mkF m pc' L (.int r :: S)))) : Gl p e below P (T.setTop (mkF m pc L (.int y :: .int x :: S))) := by
  obtain ⟨locs, vm0, k0, X, eT, N, hn0, hx, hZ, hown, hby, hml, hrt, hlk, hSi, hk0⟩ := Y
  subst hp hr
  exact q.of1 fun t q => XS.ishr X.here hx rfl (hb hby hd) rfl q
theorem Gl.iconst (Y : Sd Z own bs mx ret n0 p l e R s m args below meth c T h k n) {i : Int} {v : Int32} (hv : Int32.ofInt i = v) (hd : decode bs pc = .ok (.iconst i, 1)) (hp : pc + 1 = pc') (q : Gl p e below P (T.setTop (mkF m pc' L (.int v :: S)))) : Gl p e below P (T.setTop (mkF m pc L S)) := by
  obtain ⟨locs, vm0, k0, X, eT, N, hn0, hx, hZ, hown, hby, hml, hrt, hlk, hSi, hk0⟩ := Y
  subst hp
  exact q.of1 fun t q => XS.iconst X.here hx rfl (hb hby hd) (by rw [hv]; exact q)
theorem Gl.iload (Y : Sd Z own bs mx ret n0 p l e R s m args below meth c T h k n) {i : Nat} {v : Int32} (hl : L[i]? = some (.val (.int v))) (hd : decode bs pc = .ok (.iload i, 2)) (hp : pc + 2 = pc') (q : Gl p e below P (T.setTop (mkF m pc' L (.int v :: S)))) : Gl p e below P (T.setTop (mkF m pc L S)) := by
  obtain ⟨locs, vm0, k0, X, eT, N, hn0, hx, hZ, hown, hby, hml, hrt, hlk, hSi, hk0⟩ := Y
  subst hp
  exact q.of1 fun t q => XS.iload X.here hx rfl (hb hby hd) hl q
theorem Gl.iloadN (Y : Sd Z own bs mx ret n0 p l e R s m args below meth c T h k n) {i : Fin 4} {v : Int32} (hl : L[i.val]? = some (.val (.int v))) (hd : decode bs pc = .ok (.iload_n i, 1)) (hp : pc + 1 = pc') (q : Gl p e below P (T.setTop (mkF m pc' L (.int v :: S)))) : Gl p e below P (T.setTop (mkF m pc L S)) := by
  obtain ⟨locs, vm0, k0, X, eT, N, hn0, hx, hZ, hown, hby, hml, hrt, hlk, hSi, hk0⟩ := Y
  subst hp
  exact q.of1 fun t q => XS.iloadN X.here hx rfl (hb hby hd) hl q
theorem Gl.aloadN (Y : Sd Z own bs mx ret n0 p l e R s m args below meth c T h k n) {i : Fin 4} {v : Value} (hl : L[i.val]? = some (.val v)) (hv : v.isRef = true) (hd : decode bs pc = .ok (.aload_n i, 1)) (hp : pc + 1 = pc') (q : Gl p e below P (T.setTop (mkF m pc' L (v :: S)))) : Gl p e below P (T.setTop (mkF m pc L S)) := by
  obtain ⟨locs, vm0, k0, X, eT, N, hn0, hx, hZ, hown, hby, hml, hrt, hlk, hSi, hk0⟩ := Y
  subst hp
  exact q.of1 fun t q => XS.aloadN X.here hx rfl (hb hby hd) hl hv q
theorem Gl.istore (Y : Sd Z own bs mx ret n0 p l e R s m args below meth c T h k n) {i : Nat} {v : Int32} {L' : Array Slot} (hl : storeLocals L i (.int v) = some L') (hd : decode bs pc = .ok (.istore i, 2)) (hp : pc + 2 = pc') (q : Gl p e below P (T.setTop (mkF m pc' L' S))) : Gl p e below P (T.setTop (mkF m pc L (.int v :: S))) := by
  obtain ⟨locs, vm0, k0, X, eT, N, hn0, hx, hZ, hown, hby, hml, hrt, hlk, hSi, hk0⟩ := Y
  subst hp
  exact q.of1 fun t q => XS.istore X.here hx rfl (hb hby hd) rfl hl q
theorem Gl.istoreN (Y : Sd Z own bs mx ret n0 p l e R s m args below meth c T h k n) {i : Fin 4} {v : Int32} {L' : Array Slot} (hl : storeLocals L i.val (.int v) = some L') (hd : decode bs pc = .ok (.istore_n i, 1)) (hp : pc + 1 = pc') (q : Gl p e below P (T.setTop (mkF m pc' L' S))) : Gl p e below P (T.setTop (mkF m pc L (.int v :: S))) := by
  obtain ⟨locs, vm0, k0, X, eT, N, hn0, hx, hZ, hown, hby, hml, hrt, hlk, hSi, hk0⟩ := Y
  subst hp
  exact q.of1 fun t q => XS.istoreN X.here hx rfl (hb hby hd) rfl hl q
theorem Gl.arraylength (Y : Sd Z own bs mx ret n0 p l e R s m args below meth c T h k n) {a : Addr} {ck : ClassId} {ty : FieldType} {z : Int32} {vs : List Value} {d : Value} (F : Arv Z h a ck ty z vs d) (hd : decode bs pc = .ok (.arraylength, 1)) (hp : pc + 1 = pc') (q : Gl p e below P (T.setTop (mkF m pc' L (.int z :: S)))) : Gl p e below P (T.setTop (mkF m pc L (.ref a :: S))) := by
  obtain ⟨locs, vm0, k0, X, eT, N, hn0, hx, hZ, hown, hby, hml, hrt, hlk, hSi, hk0⟩ := Y
  subst hp
  exact q.of1 fun t q => by
    obtain ⟨cl, A, -, S1, N1, -⟩ := F
    exact X.arraylength hx (by rw [eT]; exact A.1) (State.isArrayOf_alike hZ.alike A.2.1) (g := mkF m pc L (.ref a :: S)) rfl rfl (hb hby hd) t (by rw [len_of S1 N1]; exact q)
theorem Gl.goto (Y : Sd Z own bs mx ret n0 p l e R s m args below meth c T h k n) {o : Int} (hd : decode bs pc = .ok (.goto o, 3)) (ho : 0 ≤ (pc : Int) + o) (hp : ((pc : Int) + o).toNat = pc') (q : Gl p e below P (T.setTop (mkF m pc' L S))) : Gl p e below P (T.setTop (mkF m pc L S)) := by
  obtain ⟨locs, vm0, k0, X, eT, N, hn0, hx, hZ, hown, hby, hml, hrt, hlk, hSi, hk0⟩ := Y
  exact q.of1 fun t q => XS.goto X.here hx rfl rfl (hb hby hd) ho hp q
theorem Gl.ifeq (Y : Sd Z own bs mx ret n0 p l e R s m args below meth c T h k n) {x : Int32} {o : Int} (hd : decode bs pc = .ok (.ifCond .eq o, 3)) (ho : 0 ≤ (pc : Int) + o) (ht : ((pc : Int) + o).toNat = pcT) (hf : pc + 3 = pcF) (q1 : x = 0 → Gl p e below P (T.setTop (mkF m pcT L S))) (q2 : ¬ x = 0 → Gl p e below P (T.setTop (mkF m pcF L S))) : Gl p e below P (T.setTop (mkF m pc L (.int x :: S))) := by
  obtain ⟨locs, vm0, k0, X, eT, N, hn0, hx, hZ, hown, hby, hml, hrt, hlk, hSi, hk0⟩ := Y
  by_cases hq : x = 0
  · exact (q1 hq).of1 fun t q => XS.ifYes X.here hx rfl rfl (hb hby hd) rfl (Jvm.Free.XT.i0_eq_t hq) ho ht q
  · subst hf
    exact (q2 (by first | exact hq | exact Decidable.not_not.mp hq)).of1 fun t q => XS.ifNo X.here hx rfl (hb hby hd) rfl (Jvm.Free.XT.i0_eq_f (by first | exact hq | exact Decidable.not_not.mp hq)) q
theorem Gl.icmpne (Y : Sd Z own bs mx ret n0 p l e R s m args below meth c T h k n) {x y : Int32} {o : Int} (hd : decode bs pc = .ok (.if_icmp .ne o, 3)) (ho : 0 ≤ (pc : Int) + o) (ht : ((pc : Int) + o).toNat = pcT) (hf : pc + 3 = pcF) (q1 : ¬ x = y → Gl p e below P (T.setTop (mkF m pcT L S))) (q2 : x = y → Gl p e below P (T.setTop (mkF m pcF L S))) : Gl p e below P (T.setTop (mkF m pc L (.int y :: .int x :: S))) := by
  obtain ⟨locs, vm0, k0, X, eT, N, hn0, hx, hZ, hown, hby, hml, hrt, hlk, hSi, hk0⟩ := Y
  by_cases hq : ¬ x = y
  · exact (q1 hq).of1 fun t q => XS.icmpYes X.here hx rfl rfl (hb hby hd) rfl (Jvm.Free.XT.ii_ne_t hq) ho ht q
  · subst hf
    exact (q2 (by first | exact hq | exact Decidable.not_not.mp hq)).of1 fun t q => XS.icmpNo X.here hx rfl (hb hby hd) rfl (Jvm.Free.XT.ii_ne_f (by first | exact hq | exact Decidable.not_not.mp hq)) q
theorem Gl.icmpge (Y : Sd Z own bs mx ret n0 p l e R s m args below meth c T h k n) {x y : Int32} {o : Int} (hd : decode bs pc = .ok (.if_icmp .ge o, 3)) (ho : 0 ≤ (pc : Int) + o) (ht : ((pc : Int) + o).toNat = pcT) (hf : pc + 3 = pcF) (q1 : ¬ x < y → Gl p e below P (T.setTop (mkF m pcT L S))) (q2 : x < y → Gl p e below P (T.setTop (mkF m pcF L S))) : Gl p e below P (T.setTop (mkF m pc L (.int y :: .int x :: S))) := by
  obtain ⟨locs, vm0, k0, X, eT, N, hn0, hx, hZ, hown, hby, hml, hrt, hlk, hSi, hk0⟩ := Y
  by_cases hq : ¬ x < y
  · exact (q1 hq).of1 fun t q => XS.icmpYes X.here hx rfl rfl (hb hby hd) rfl (Jvm.Free.XT.ii_ge_t hq) ho ht q
  · subst hf
    exact (q2 (by first | exact hq | exact Decidable.not_not.mp hq)).of1 fun t q => XS.icmpNo X.here hx rfl (hb hby hd) rfl (Jvm.Free.XT.ii_ge_f (by first | exact hq | exact Decidable.not_not.mp hq)) q
theorem Gl.ifle (Y : Sd Z own bs mx ret n0 p l e R s m args below meth c T h k n) {x : Int32} {o : Int} (hd : decode bs pc = .ok (.ifCond .le o, 3)) (ho : 0 ≤ (pc : Int) + o) (ht : ((pc : Int) + o).toNat = pcT) (hf : pc + 3 = pcF) (q1 : ¬ 0 < x → Gl p e below P (T.setTop (mkF m pcT L S))) (q2 : 0 < x → Gl p e below P (T.setTop (mkF m pcF L S))) : Gl p e below P (T.setTop (mkF m pc L (.int x :: S))) := by
  obtain ⟨locs, vm0, k0, X, eT, N, hn0, hx, hZ, hown, hby, hml, hrt, hlk, hSi, hk0⟩ := Y
  by_cases hq : ¬ 0 < x
  · exact (q1 hq).of1 fun t q => XS.ifYes X.here hx rfl rfl (hb hby hd) rfl (Jvm.Free.XT.i0_le_t hq) ho ht q
  · subst hf
    exact (q2 (by first | exact hq | exact Decidable.not_not.mp hq)).of1 fun t q => XS.ifNo X.here hx rfl (hb hby hd) rfl (Jvm.Free.XT.i0_le_f (by first | exact hq | exact Decidable.not_not.mp hq)) q
theorem Gl.icmple (Y : Sd Z own bs mx ret n0 p l e R s m args below meth c T h k n) {x y : Int32} {o : Int} (hd : decode bs pc = .ok (.if_icmp .le o, 3)) (ho : 0 ≤ (pc : Int) + o) (ht : ((pc : Int) + o).toNat = pcT) (hf : pc + 3 = pcF) (q1 : ¬ y < x → Gl p e below P (T.setTop (mkF m pcT L S))) (q2 : y < x → Gl p e below P (T.setTop (mkF m pcF L S))) : Gl p e below P (T.setTop (mkF m pc L (.int y :: .int x :: S))) := by
  obtain ⟨locs, vm0, k0, X, eT, N, hn0, hx, hZ, hown, hby, hml, hrt, hlk, hSi, hk0⟩ := Y
  by_cases hq : ¬ y < x
  · exact (q1 hq).of1 fun t q => XS.icmpYes X.here hx rfl rfl (hb hby hd) rfl (Jvm.Free.XT.ii_le_t hq) ho ht q
  · subst hf
    exact (q2 (by first | exact hq | exact Decidable.not_not.mp hq)).of1 fun t q => XS.icmpNo X.here hx rfl (hb hby hd) rfl (Jvm.Free.XT.ii_le_f (by first | exact hq | exact Decidable.not_not.mp hq)) q
theorem Gl.getF (Y : Sd Z own bs mx ret n0 p l e R s m args below meth c T h k n) {i : Nat} {R0 O f d host : String} {a : Addr} {v : Value} (w : (Jvm.Cond.fieldLink own i R0 f d).before a0 Z = true ∨ (Jvm.Cond.fieldLinkNest own i R0 f d host).before a0 Z = true) (via : Via Z R0 O f d) (F : Fld Z h a O f d v) (hd : decode bs pc = .ok (.getfield i, 3)) (hp : pc + 3 = pc') (q : ∀ T', Sd Z own bs mx ret n0 p l e R s m args below meth c T' h k n → Gl p e below P (T'.setTop (mkF m pc' L (v :: S)))) : Gl p e below P (T.setTop (mkF m pc L (.ref a :: S))) := by
  obtain ⟨locs, vm0, k0, X, eT, N, hn0, hx, hZ, hown, hby, hml, hrt, hlk, hSi, hk0⟩ := Y
  subst hp
  obtain ⟨T', X', e', st⟩ := Jvm.RoadKit.getF X hx hZ hown w via eT F (g := mkF m pc L (.ref a :: S)) rfl rfl (hb hby hd)
  exact (q T' ⟨locs, vm0, k0, X', e', N, hn0, hx, hZ, hown, hby, hml, hrt, hlk, hSi, hk0⟩).of1 st
theorem Gl.getS (Y : Sd Z own bs mx ret n0 p l e R s m args below meth c T h k n) {i : Nat} {R0 O f d host : String} {v : Value} (w : (Jvm.Cond.fieldLink own i R0 f d).before a0 Z = true ∨ (Jvm.Cond.fieldLinkNest own i R0 f d host).before a0 Z = true) (via : Via Z R0 O f d) (F : Sta Z h O f d v) (hd : decode bs pc = .ok (.getstatic i, 3)) (hp : pc + 3 = pc') (q : ∀ T', Sd Z own bs mx ret n0 p l e R s m args below meth c T' h k n → Gl p e below P (T'.setTop (mkF m pc' L (v :: S)))) : Gl p e below P (T.setTop (mkF m pc L S)) := by
  obtain ⟨locs, vm0, k0, X, eT, N, hn0, hx, hZ, hown, hby, hml, hrt, hlk, hSi, hk0⟩ := Y
  subst hp
  obtain ⟨T', X', e', st⟩ := getS2 X hx hZ hown w via eT F (g := mkF m pc L S) rfl (hb hby hd)
  exact (q T' ⟨locs, vm0, k0, X', e', N, hn0, hx, hZ, hown, hby, hml, hrt, hlk, hSi, hk0⟩).of1 st
theorem Gl.callS (Y : Sd Z own bs mx ret n0 p l e R s m args below meth c T h k n) {y : MethodName} {bs2 : ByteArray} {mx2 : Nat} {ret2 : Option FieldType} {rm : Room} {as : Array Value} {Q : Option Value → Heap → Prop} {i : Nat} {argsL rest : List Value} (w1 : (Jvm.Cond.methodLink own i y).before a0 Z = true) (w2 : (Jvm.Cond.static y).before a0 Z = true) (w3 : (Jvm.Cond.initialized y.cls).before a0 Z = true) (w4 : (Jvm.Cond.code y bs2 mx2 ret2).before a0 Z = true) (hy : y.cls ≠ "java/lang/invoke/MethodHandle" ∧ y.cls ≠ "java/lang/invoke/VarHandle") (hM : OMet l Z [] y bs2 mx2 ret2 rm as h n0 Q) (has : argsL.toArray = as) (hS : S = argsL.reverse ++ rest) (hlen : ∀ sig, parseMethodDescriptor y.desc = some sig → argsL.length = sig.parameters.length) (hL : L.size = mx) (hf : rm.frames + 1 ≤ R.frames) (hl : (rest.map fun v => v.category).sum + (mx2 + 11) + rm.locals ≤ R.locals) (hc : k + rm.cells ≤ R.cells) (hs : n + rm.slots ≤ R.slots) (hd : decode bs pc = .ok (.invokestatic i, 3)) (hp : pc + 3 = pc') (q : ∀ v T' h', Sd Z own bs mx ret n0 p l e R s m args below meth c T' h' (k + rm.cells) (n + rm.slots) → Q v h' → Gl p e below P (T'.setTop (mkF m pc' L (v.toList ++ rest)))) : Gl p e below P (T.setTop (mkF m pc L S)) := by
  obtain ⟨locs, vm0, k0, X, eT, N, hn0, hx, hZ, hown, hby, hml, hrt, hlk, hSi, hk0⟩ := Y
  subst hp has hS
  obtain ⟨v, vm₁, ⟨T', L', k', n'⟩, -, X', hS', hgr, hB, st⟩ := Jvm.RoadKit.callSS X hx (y := y) hown (mvT hZ w1) (mvT hZ w2) (mvT hZ w3) (mvT hZ w4) hy (backOfS (Q := fun v h' L => Q v h' ∧ Fr n0 L) (W := (rest.map fun v => v.category).sum) (OMet.un hM) hZ w4 w3 hf hl) (g := mkF m pc L (argsL.reverse ++ rest)) rfl (by rw [hml]; exact hL) (argsL := argsL) (rest := rest) hlen rfl (by show 2 * 0 + _ ≤ _; omega) (hb hby hd) (fun _ _ => ⟨rfl, eT, hc, hs⟩)
  obtain ⟨Lc, ⟨hQ, NL⟩, l1, l2, l3⟩ := hB
  dsimp only [Pt.U, Pt.locs, Pt.cells, Pt.slots] at X' hS' hgr l1 l2 l3 st hQ
  subst l1 l2 l3
  obtain ⟨X2, hS2, hZ2, ho2⟩ := rebS hSi (by rw [eT]; exact hk0) X' hS' hgr hZ hown
  exact Gl.via st (q v T' T'.heap ⟨_, T'.vm, T'.heap.size, X2, rfl, Fr.app N NL, hn0, hx, hZ2, ho2, hby, hml, hrt, hlk, hS2, Nat.le_refl _⟩ hQ)
theorem Gl.callV (Y : Sd Z own bs mx ret n0 p l e R s m args below meth c T h k n) {y : MethodName} {bs2 : ByteArray} {mx2 : Nat} {ret2 : Option FieldType} {rm : Room} {as : Array Value} {Q : Option Value → Heap → Prop} {i : Nat} {z : MethodName} {C : String} {argsL rest : List Value} {a : Addr} (w1 : (Jvm.Cond.methodLink own i z).before a0 Z = true) (wd : (Jvm.Cond.declares z).before a0 Z = true) (ws0 : (Jvm.Cond.selects z.cls z z).before a0 Z = true) (ws : (Jvm.Cond.selects C z y).before a0 Z = true) (w2 : (Jvm.Cond.instanceMethod y).before a0 Z = true) (w3 : (Jvm.Cond.initialized y.cls).before a0 Z = true) (w4 : (Jvm.Cond.code y bs2 mx2 ret2).before a0 Z = true) (hy : z.cls ≠ "java/lang/invoke/MethodHandle" ∧ z.cls ≠ "java/lang/invoke/VarHandle") (E : Exa Z h a C) (hM : OMet l Z [] y bs2 mx2 ret2 rm as h n0 Q) (has : (.ref a :: argsL).toArray = as) (hS : S = argsL.reverse ++ .ref a :: rest) (hlen : ∀ sig, parseMethodDescriptor z.desc = some sig → argsL.length = sig.parameters.length) (hL : L.size = mx) (hf : rm.frames + 1 ≤ R.frames) (hl : (rest.map fun v => v.category).sum + (mx2 + 11) + rm.locals ≤ R.locals) (hc : k + rm.cells ≤ R.cells) (hs : n + rm.slots ≤ R.slots) (hd : decode bs pc = .ok (.invokevirtual i, 3)) (hp : pc + 3 = pc') (q : ∀ v T' h', Sd Z own bs mx ret n0 p l e R s m args below meth c T' h' (k + rm.cells) (n + rm.slots) → Q v h' → Gl p e below P (T'.setTop (mkF m pc' L (v.toList ++ rest)))) : Gl p e below P (T.setTop (mkF m pc L S)) := by
  obtain ⟨locs, vm0, k0, X, eT, N, hn0, hx, hZ, hown, hby, hml, hrt, hlk, hSi, hk0⟩ := Y
  subst hp has hS
  obtain ⟨cq, kq, qa, qb, qc⟩ := isOf hZ eT E
  obtain ⟨v, vm₁, ⟨T', L', k', n'⟩, -, X', hS', hgr, hB, st⟩ := X.virtualBackS hx (y := z) (z := y) hown (mvT hZ w1) (mvT hZ wd) (notFace_of_selects (args := #[]) (mvT hZ ws0)) (mvT hZ ws) (mvT hZ w2) hy (backOfS (Q := fun v h' L => Q v h' ∧ Fr n0 L) (W := (rest.map fun v => v.category).sum) (OMet.un hM) hZ w4 w3 hf hl) qa qc (g := mkF m pc L (argsL.reverse ++ .ref a :: rest)) rfl (by rw [hml]; exact hL) (Steps.refl _) (argsL := argsL) (rest := rest) hlen rfl (by show 2 * 0 + _ ≤ _; omega) (hb hby hd) (fun _ _ => ⟨rfl, eT, hc, hs⟩)
  obtain ⟨Lc, ⟨hQ, NL⟩, l1, l2, l3⟩ := hB
  dsimp only [Pt.U, Pt.locs, Pt.cells, Pt.slots] at X' hS' hgr l1 l2 l3 st hQ
  subst l1 l2 l3
  obtain ⟨X2, hS2, hZ2, ho2⟩ := rebS hSi (by rw [eT]; exact hk0) X' hS' hgr hZ hown
  exact Gl.via st (q v T' T'.heap ⟨_, T'.vm, T'.heap.size, X2, rfl, Fr.app N NL, hn0, hx, hZ2, ho2, hby, hml, hrt, hlk, hS2, Nat.le_refl _⟩ hQ)
theorem Gl.fin (Y : Sd Z own bs mx ret n0 p l e R s m args below meth c T h k n) {K M : Nat} {Q : Option Value → Heap → Prop} (hk : k ≤ K) (hm : n ≤ M) {g : JFrame} {v : Option Value} (hv : ret = none → v = none) (st : ∀ fs, (∀ (f : JFrame) (acts : List Action), f.method = m → f.locked = none → f.entered = [] → (doReturn e (T.setTop f) acts v).1 = T.setFrames fs) → Steps p.tables e below (T.setTop g) (T.setFrames fs)) (hQ : Q v h) : Gl p e below (Pst s n0 K M Q) (T.setTop g) := by
  obtain ⟨locs, vm0, k0, X, eT, N, hn0, hx, hZ, hown, hby, hml, hrt, hlk, hSi, hk0⟩ := Y
  obtain ⟨fs, hr, hrun, hended, hW⟩ := X.leaveW hSi (by rw [eT]; exact hk0) (v := v) (fun q => hv (hrt.symm.trans q)) hlk
  exact ⟨_, _, st fs hr, hrun, hended, v, locs, rfl, ⟨by show Q v T.heap; rw [eT]; exact hQ, N⟩, hW.1, hW.2.1, hW.2.2.1, hW.2.2.2.mono hk hm⟩
theorem Gl.retV (Y : Sd Z own bs mx none n0 p l e R s m args below meth c T h k n) {K M : Nat} {Q : Option Value → Heap → Prop} (hk : k ≤ K) (hm : n ≤ M)  (hd : decode bs pc = .ok (.return_, 1)) (hQ : Q none h) : Gl p e below (Pst s n0 K M Q) (T.setTop (mkF m pc L [])) := by
  have Y0 := Y
  obtain ⟨locs, vm0, k0, X, eT, N, hn0, hx, hZ, hown, hby, hml, hrt, hlk, hSi, hk0⟩ := Y
  exact Gl.fin Y0 hk hm (v := none) (fun q => by first | rfl | cases q) (fun fs hr => X.returnOut hx hrt (hb hby hd) hr) hQ
theorem Gl.retI (Y : Sd Z own bs mx (some .int) n0 p l e R s m args below meth c T h k n) {K M : Nat} {Q : Option Value → Heap → Prop} (hk : k ≤ K) (hm : n ≤ M) {x : Int32} (hd : decode bs pc = .ok (.ireturn, 1)) (hQ : Q (some (.int x)) h) : Gl p e below (Pst s n0 K M Q) (T.setTop (mkF m pc L (.int x :: S))) := by
  have Y0 := Y
  obtain ⟨locs, vm0, k0, X, eT, N, hn0, hx, hZ, hown, hby, hml, hrt, hlk, hSi, hk0⟩ := Y
  exact Gl.fin Y0 hk hm (v := (some (.int x))) (fun q => by first | rfl | cases q) (fun fs hr => retOut X hx hrt rfl (Or.inl ⟨rfl, Or.inl rfl, x, rfl⟩) (hb hby hd) hr) hQ
theorem Gl.retZ (Y : Sd Z own bs mx (some .boolean) n0 p l e R s m args below meth c T h k n) {K M : Nat} {Q : Option Value → Heap → Prop} (hk : k ≤ K) (hm : n ≤ M) {x x' : Int32} (hxn : nar .boolean x = x') (hd : decode bs pc = .ok (.ireturn, 1)) (hQ : Q (some (.int x')) h) : Gl p e below (Pst s n0 K M Q) (T.setTop (mkF m pc L (.int x :: S))) := by
  have Y0 := Y
  obtain ⟨locs, vm0, k0, X, eT, N, hn0, hx, hZ, hown, hby, hml, hrt, hlk, hSi, hk0⟩ := Y
  exact Gl.fin Y0 hk hm (v := (some (.int x'))) (fun q => by first | rfl | cases q) (fun fs hr => retN X hx (t := .boolean) hrt (by simp) (hb hby hd) (by rw [hxn]; exact hr)) hQ
theorem Gl.retB (Y : Sd Z own bs mx (some .byte) n0 p l e R s m args below meth c T h k n) {K M : Nat} {Q : Option Value → Heap → Prop} (hk : k ≤ K) (hm : n ≤ M) {x x' : Int32} (hxn : nar .byte x = x') (hd : decode bs pc = .ok (.ireturn, 1)) (hQ : Q (some (.int x')) h) : Gl p e below (Pst s n0 K M Q) (T.setTop (mkF m pc L (.int x :: S))) := by
  have Y0 := Y
  obtain ⟨locs, vm0, k0, X, eT, N, hn0, hx, hZ, hown, hby, hml, hrt, hlk, hSi, hk0⟩ := Y
  exact Gl.fin Y0 hk hm (v := (some (.int x'))) (fun q => by first | rfl | cases q) (fun fs hr => retN X hx (t := .byte) hrt (by simp) (hb hby hd) (by rw [hxn]; exact hr)) hQ
def OMetL (l : Launch) (Z : State) (ws : List Jvm.Cond) (y : MethodName) (bs : ByteArray) (mx : Nat) (ret : Option FieldType) (rm : Room) (as : Array Value) (h : Heap) (n0 : Nat) (Q : Option Value → Heap → Prop) : Prop :=
  MetFree l y (head1 (Jvm.Cond.code y bs mx ret :: ws) rm) (fun a U => a = as ∧ Z.Warmed39 U.vm ∧ U.heap = h ∧ U.vm.interned = Z.vm.interned) (fun _ _ _ _ _ => True) (fun _ U o U' => ∃ v L, o = .returned v ∧ (Q v U'.heap ∧ Fr n0 L) ∧ ReturnedEndW U o U' L rm.cells rm.slots)
end Kit
end Jvm.OwnWW


namespace Jvm.OwnMX
open Sem ClassFile Op Lib Jvm.Stand Jvm.Free Jvm.LawKit Jvm.RoadKit
theorem toW {Z : State} {own : String} {bs : ByteArray} {mx : Nat} {ret : Option FieldType} {n0 : Nat} {p : Program} {l : Launch} {e : Env} {R : Room} {s : State} {m : MethodId} {args : Array Value} {below : List Frame} {meth : Method} {c : Code} {T : State} {h : Heap} {k n : Nat} (Y : Jvm.OwnWk.Sd Z own bs mx ret n0 p l e R s m args below meth c T h k n) : Jvm.OwnWW.Sd Z own bs mx ret n0 p l e R s m args below meth c T h k n := by
  obtain ⟨locs, X, eT, N, hn0, hx, hZ, hown, hby, hml, hrt, hlk⟩ := Y
  exact ⟨locs, s.vm, s.heap.size, X, eT, N, hn0, hx, hZ, hown, hby, hml, hrt, hlk, Jvm.OwnWW.own_since s, by rw [← eT]; exact Jvm.OwnWk.own_grow X⟩
def MetX (l : Launch) (Z : State) (ws : List Jvm.Cond) (y : MethodName) (bs : ByteArray) (mx : Nat) (ret : Option FieldType) (rm : Room) (as : Array Value) (h : Heap) (n0 : Nat) (Q : Option Value → Heap → Prop) : Prop :=
  MetFree l y (head1 (Jvm.Cond.code y bs mx ret :: ws) rm) (fun a U => a = as ∧ Z.Warmed39 U.vm ∧ U.heap = h ∧ U.vm.interned = Z.vm.interned) (fun _ _ _ _ _ => True) (fun _ U o U' => ∃ v L, o = .returned v ∧ (Q v U'.heap ∧ Fr n0 L) ∧ ReturnedEndW U o U' L rm.cells rm.slots)
theorem MetX.of {Z : State} {own : String} {bs : ByteArray} {mx : Nat} {ret : Option FieldType} {n0 : Nat} {l : Launch} {h : Heap} {L : Array Slot} {ws : List Jvm.Cond} {y : MethodName} {rm : Room} {as : Array Value} {Q : Option Value → Heap → Prop} (ho : y.cls = own) (hpl : plainFor y = true) (hef : ∀ m, entryFrame m as mx = mkF m 0 L [])
    (body : ∀ p e s m below meth c T, (∀ n1, n1 ≤ h.size → Jvm.OwnWk.Sd Z own bs mx ret n1 p l e rm s m as below meth c T h 0 0) → meth.name = y.name → s.heap = h → s.vm.interned = Z.vm.interned → Jvm.OwnWk.Gl p e below (Jvm.OwnWW.Pst s n0 rm.cells rm.slots Q) (T.setTop (mkF m 0 L []))) : MetX l Z ws y bs mx ret rm as h n0 Q := by
  subst ho
  refine MetFree.of_bodySF hpl hisR ?_
  intro p e s m args below meth c s₁ Bd hml0 hP hK
  obtain ⟨rfl, hZ, hh, hi⟩ := hP
  have e0 : s₁.heap = h := by rw [← hh, Bd.state]; rfl
  obtain ⟨t, o, h1, h2, h3, h4⟩ := body p e s m below meth c s₁ (fun n1 hn1 => ⟨[], Stand.of_body Bd, e0, Fr.nil n1, by rw [hh]; exact hn1, Bd.exec, hZ, findClass_of_methodNamed Bd.named, Bd.bytes, hml0, Bd.returns, Bd.notSynchronized⟩) (name_of_methodNamed Bd.named Bd.method).1 hh hi
  exact ⟨t, o, castTop (hef m) h1, h2, h3, h4⟩
theorem callNX {Z : State} {own : String} {bs : ByteArray} {mx : Nat} {ret : Option FieldType} {n0 : Nat} {p : Program} {l : Launch} {e : Env} {R : Room} {s : State} {m : MethodId} {args : Array Value} {below : List Frame} {meth : Method} {c : Code} {T : State} {h : Heap} {k n : Nat} {P : Outcome → State → Prop} {L : Array Slot} {S : List Value} {pc pc' : Nat} {a0 : Array Value} (Y : Jvm.OwnWk.Sd Z own bs mx ret n0 p l e R s m args below meth c T h k n) (hi : s.vm.interned = Z.vm.interned) {y : MethodName} {bs2 : ByteArray} {mx2 : Nat} {rm : Room} {as : Array Value} {Q : Option Value → Heap → Prop} {i : Nat} {argsL rest : List Value} {a : Addr} (hy1 : y.name = "<init>") (w1 : (Jvm.Cond.methodLink own i y).before a0 Z = true) (w2 : (Jvm.Cond.instanceMethod y).before a0 Z = true) (w3 : (Jvm.Cond.initialized y.cls).before a0 Z = true) (w4 : (Jvm.Cond.code y bs2 mx2 none).before a0 Z = true) (hy : y.cls ≠ "java/lang/invoke/MethodHandle" ∧ y.cls ≠ "java/lang/invoke/VarHandle") (hM : MetX l Z [] y bs2 mx2 none rm as h n0 Q) (has : (.ref a :: argsL).toArray = as) (hS : S = argsL.reverse ++ .ref a :: rest)
    (hlen : ∀ sig, parseMethodDescriptor y.desc = some sig → argsL.length = sig.parameters.length) (hL : L.size = mx) (hf : rm.frames + 1 ≤ R.frames) (hl : (rest.map fun v => v.category).sum + (mx2 + 11) + rm.locals ≤ R.locals) (hc : k + rm.cells ≤ R.cells) (hs : n + rm.slots ≤ R.slots) (hd : decode bs pc = .ok (.invokespecial i, 3)) (hp : pc + 3 = pc') (q : ∀ v T' h', Jvm.OwnWW.Sd Z own bs mx ret n0 p l e R s m args below meth c T' h' (k + rm.cells) (n + rm.slots) → Q v h' → Jvm.OwnWk.Gl p e below P (T'.setTop (mkF m pc' L (v.toList ++ rest)))) : Jvm.OwnWk.Gl p e below P (T.setTop (mkF m pc L S)) := by
  obtain ⟨locs, X, eT, N, hn0, hx, hZ, hown, hby, hml, hrt, hlk⟩ := Y
  subst hp has hS
  have hK : BackS l R p e below s args y 3 (rest.map fun v => v.category).sum (fun A a' => a' = (.ref a :: argsL).toArray ∧ A.U.heap = h ∧ A.cells + rm.cells ≤ R.cells ∧ A.slots + rm.slots ≤ R.slots)
      (fun A _ v B => ∃ L, (Q v B.U.heap ∧ Fr n0 L) ∧ B.locs = A.locs ++ L ∧ B.cells = A.cells + rm.cells ∧ B.slots = A.slots + rm.slots) :=
    BackS.of_freeW (bytes := bs2) (maxL := mx2) (ret := none) (E := fun _ _ o t L k n => k = rm.cells ∧ n = rm.slots ∧ ∃ v, o = .returned v ∧ (Q v t.heap ∧ Fr n0 L)) hM hf hl
      (fun m meth c A a Y hp => have hU : Z.Warmed39 A.U.vm := wtrans hZ Y.warmed
        ⟨by show (Cond.and _ .tt).before a A.U = true; rw [Cond.before_and, mv hU w4]; rfl, mv hU w4, mv hU w3, hp.2.2.1, hp.2.2.2⟩)
      (fun m meth c A a g mk Y hp => ⟨hp.1, wtrans hZ Y.warmed, hp.2.1, Y.warmed.interned_eq.trans hi⟩) (fun _ _ _ _ _ _ _ _ _ => trivial)
      (fun _ _ _ _ ⟨v, L, h1, h2, h3⟩ => ⟨L, _, _, h3, rfl, rfl, v, h1, h2⟩)
      (fun m meth c A a g mk v t L k n Y hp _ _ ⟨e1, e2, v', e3, e4⟩ => by cases e3; subst e1 e2; exact ⟨L, e4, rfl, rfl, rfl⟩)
  obtain ⟨v, vm₁, ⟨T', L', k', n'⟩, -, X', hS', hgr, hB, st⟩ := X.specialBackS hx (y := y) hy1 hown (mvT hZ w1) (mvT hZ w2) (mvT hZ w4) hy hK (g := mkF m pc L (argsL.reverse ++ .ref a :: rest)) rfl (by rw [hml]; exact hL) (Steps.refl _) (a := a) (argsL := argsL) (rest := rest) hlen rfl (by show 2 * 0 + _ ≤ _; omega) (hb hby hd) (fun _ _ => ⟨rfl, eT, hc, hs⟩)
  obtain ⟨Lc, ⟨hQ, NL⟩, l1, l2, l3⟩ := hB
  dsimp only [Pt.U, Pt.locs, Pt.cells, Pt.slots] at X' hS' hgr l1 l2 l3 st hQ
  subst l1 l2 l3
  obtain ⟨X2, hS2, hZ2, ho2⟩ := rebS (s := s) (vm0 := s.vm) (Jvm.OwnWW.own_since s) (Jvm.OwnWk.own_grow X) X' hS' hgr hZ hown
  exact Jvm.OwnWk.Gl.via st (q v T' T'.heap ⟨_, T'.vm, T'.heap.size, X2, rfl, Fr.app N NL, hn0, hx, hZ2, ho2, hby, hml, hrt, hlk, hS2, Nat.le_refl _⟩ hQ)
theorem down {Z : State} {own : String} {bs : ByteArray} {mx : Nat} {ret : Option FieldType} {n0 : Nat} {p : Program} {l : Launch} {e : Env} {R : Room} {s : State} {m : MethodId} {args : Array Value} {below : List Frame} {meth : Method} {c : Code} {T : State} {h : Heap} {k n : Nat} {n1 : Nat} (Y : Jvm.OwnWk.Sd Z own bs mx ret n1 p l e R s m args below meth c T h k n) (hn : n0 ≤ n1) : Jvm.OwnWk.Sd Z own bs mx ret n0 p l e R s m args below meth c T h k n := by
  obtain ⟨locs, X, eT, N, hn0, hx, hZ, hown, hby, hml, hrt, hlk⟩ := Y
  exact ⟨locs, X, eT, fun y hy => Nat.le_trans hn (N y hy), Nat.le_trans hn hn0, hx, hZ, hown, hby, hml, hrt, hlk⟩
theorem toW2 {Z : State} {own : String} {bs : ByteArray} {mx : Nat} {ret : Option FieldType} {n0 : Nat} {p : Program} {l : Launch} {e : Env} {R : Room} {s : State} {m : MethodId} {args : Array Value} {below : List Frame} {meth : Method} {c : Code} {T : State} {h : Heap} {k n : Nat} {vm1 : Vm} {k1 : Nat} (Y : Jvm.OwnWk.Sd Z own bs mx ret n0 p l e R (s.setVm vm1) m args below meth c T h k n) (hS : s.Since vm1 k1) (hk : k1 ≤ h.size) : Jvm.OwnWW.Sd Z own bs mx ret n0 p l e R s m args below meth c T h k n := by
  obtain ⟨locs, X, eT, N, hn0, hx, hZ, hown, hby, hml, hrt, hlk⟩ := Y
  exact ⟨locs, vm1, k1, X, eT, N, hn0, hx, hZ, hown, hby, hml, hrt, hlk, hS, hk⟩
theorem ldcX {Z : State} {own : String} {bs : ByteArray} {mx : Nat} {ret : Option FieldType} {n0 : Nat} {p : Program} {l : Launch} {e : Env} {R : Room} {s : State} {m : MethodId} {args : Array Value} {below : List Frame} {meth : Method} {c : Code} {T : State} {h : Heap} {k n : Nat} {P : Outcome → State → Prop} {L : Array Slot} {S : List Value} {pc pc' : Nat} {a0 : Array Value} (Y : Jvm.OwnWk.Sd Z own bs mx ret n0 p l e R s m args below meth c T h k n) (hh0 : s.heap = h) (hi0 : s.vm.interned = Z.vm.interned) (hnn : h.size = n0) (hkeep : ∀ (b : Addr) (cl : Cell), Z.heap[b]? = some cl → h[b]? = some cl) {i w : Nat} {text : String} {vs : List Value} {z : Int32} (wl : (Jvm.Cond.stringLink own i text).before a0 Z = true) (wS : ∀ a ∈ Bundle.stringAtoms, a.before a0 Z = true) (hheld : Jvm.Lit.constHeld Z own i) (hcw : Jvm.Lit.compactW.before a0 Z = true) (ht : (∀ c ∈ text.toList, c.toNat < 256) ∧ text.toList.map (fun c => Value.int (Jvm.Lit.byteI c.toNat.toUInt16)) = vs) (hz : ¬ z < 0) (hzl : z.toNatClampNeg = vs.length) (hn : 4 * text.toList.length ≤ w) (hbig : w ≤ 536870912) (hc : k + 2 ≤ R.cells) (hl : n + (w + 4) ≤ R.slots) (hd : decode bs pc = .ok (.ldc i, 2)) (hp : pc + 2 = pc')
    (q : ∀ T' h' a b ck vm1 k1, Jvm.OwnWk.Sd Z own bs mx ret n0 p l e R (s.setVm vm1) m args below meth c T' h' (k + 2) (n + (w + 4)) → Ext h h' → s.Since vm1 k1 → k1 ≤ h'.size → Exa Z h' a "java/lang/String" → Fld Z h' a "java/lang/String" "coder" "B" (.int 0) → Fld Z h' a "java/lang/String" "value" "[B" (.ref b) → Arv Z h' b ck .byte z vs (.int 0) → Lit (s.setVm vm1) own i a → Jvm.OwnWk.Gl p e below P (T'.setTop (mkF m pc' L (.ref a :: S)))) : Jvm.OwnWk.Gl p e below P (T.setTop (mkF m pc L S)) := by
  obtain ⟨locs, X, eT, N, hn0, hx, hZ, hown, hby, hml, hrt, hlk⟩ := Y
  subst hp
  have hI : IB Z s.vm [] := ⟨#[], by rw [hi0]; simp, fun q hq => by simp at hq⟩
  obtain ⟨a, T', h', k1, b, ck, X', e', E, s1, s2, s3, s4, f1, f2, f3, f4, -, -, -, LT, st⟩ := Jvm.RoadKit.ldcSVL (s := s) (vm0 := s.vm) X hx hZ hown wl wS eT (Jvm.OwnWW.own_since s) (Nat.le_of_eq (by rw [hh0])) (by rw [hh0, hnn]; exact N) (fun b cl hb => by rw [hh0]; exact hkeep b cl hb) hI (by simp) hheld hcw ht hz hzl (g := mkF m pc L S) rfl (hb hby hd) hn hbig hc hl
  exact (q T' h' a b ck T'.vm k1 ⟨locs, X', e', N, hn0, hx, s3, s4, hby, hml, hrt, hlk⟩ E s1 s2 f1 f2 f3 f4 LT).of1 st
theorem ldcA {Z : State} {own : String} {bs : ByteArray} {mx : Nat} {ret : Option FieldType} {n0 : Nat} {p : Program} {l : Launch} {e : Env} {R : Room} {s : State} {m : MethodId} {args : Array Value} {below : List Frame} {meth : Method} {c : Code} {T : State} {h : Heap} {k n : Nat} {P : Outcome → State → Prop} {L : Array Slot} {S : List Value} {pc pc' : Nat} {a0 : Array Value} {vm1 : Vm} (Y : Jvm.OwnWk.Sd Z own bs mx ret n0 p l e R (s.setVm vm1) m args below meth c T h k n) {i : Nat} {text : String} {a : Addr} (wl : (Jvm.Cond.stringLink own i text).before a0 Z = true) (LT : Lit (s.setVm vm1) own i a) (hd : decode bs pc = .ok (.ldc i, 2)) (hp : pc + 2 = pc') (q : Jvm.OwnWk.Gl p e below P (T.setTop (mkF m pc' L (.ref a :: S)))) : Jvm.OwnWk.Gl p e below P (T.setTop (mkF m pc L S)) := by
  obtain ⟨locs, X, eT, N, hn0, hx, hZ, hown, hby, hml, hrt, hlk⟩ := Y
  subst hp
  exact q.of1 (Jvm.RoadKit.ldcAgain (s := s) (vm0 := vm1) X hx hZ hown wl LT (g := mkF m pc L S) rfl (hb hby hd))
end Jvm.OwnMX


namespace Jvm.Pilot.@@N@@
open Jvm Jvm.ClassFile Sem Op Lib Jvm.Free Jvm.Stand Jvm.LawKit Jvm.RoadKit Bundle Jvm.OwnWk Jvm.OwnMX Jvm.Pilot.@@N@@.Jvm.D
abbrev C16 (c : Int32) : Prop := 0 ≤ c.toInt ∧ c.toInt ≤ 65535



abbrev uC (Z : State) (cs : Int32) : Prop := Sta Z Z.heap "java/lang/String" "COMPACT_STRINGS" "Z" (.int (cs : Int32))
abbrev uF (Z : State) (fm : Value) : Prop := Sta Z Z.heap "jdk/internal/util/Preconditions" "SIOOBE_FORMATTER" "Ljava/util/function/BiFunction;" (fm : Value)
abbrev uT (Z : State) : Prop := Sta Z Z.heap "java/lang/StringUTF16" "LO_BYTE_SHIFT" "I" (.int (8 : Int32))
abbrev uS (Z : State) : Prop := Sta Z Z.heap "java/lang/StringUTF16" "HI_BYTE_SHIFT" "I" (.int (0 : Int32))
abbrev uA (Z : State) : Prop := Sta Z Z.heap "java/lang/StringUTF16" "$assertionsDisabled" "Z" (.int (1 : Int32))
theorem nle {a b : Nat} (h : Nat.ble a b = true) : a ≤ b := Nat.le_of_ble_eq_true h
variable (l : Launch) (Z : State) (a0 : Array Value)
abbrev HW (a0 : Array Value) (Z : State) : Prop := ∀ d ∈ tables_1, d.before a0 Z = true
abbrev bL (c : Int32) : Int32 := c.toInt8.toInt32
abbrev uL (c : Int32) : Int32 := (c >>> ((0 : Int32) &&& 31)).toInt8.toInt32
abbrev uH (c : Int32) : Int32 := (c >>> ((8 : Int32) &&& 31)).toInt8.toInt32
theorem own_s0 (c : Int32) : c >>> ((0 : Int32) &&& 31) = c := by
  have : ((0 : Int32) &&& 31) = 0 := by decide
  rw [this]; simp
theorem own_l0 (c : Int32) : c <<< ((0 : Int32) &&& 31) = c := by
  have : ((0 : Int32) &&& 31) = 0 := by decide
  rw [this]; simp
theorem own_gc (c : Int32) (h : 0 ≤ c.toInt ∧ c.toInt ≤ 65535) : ((((((c >>> ((0 : Int32) &&& 31)).toInt8.toInt32) &&& 255) <<< ((0 : Int32) &&& 31)) ||| ((((c >>> ((8 : Int32) &&& 31)).toInt8.toInt32) &&& 255) <<< ((8 : Int32) &&& 31)))).toUInt32.toUInt16.toUInt32.toInt32 = c := by
  rw [own_s0, own_l0]
  have e8 : ((8 : Int32) &&& 31) = 8 := by decide
  rw [e8]
  apply Int32.toBitVec_inj.mp
  have r8 : ∀ x : Int32, (x >>> (8 : Int32)).toBitVec = x.toBitVec.sshiftRight 8 := fun x => by rw [Int32.toBitVec_shiftRight]; rfl
  have l8 : ∀ x : Int32, (x <<< (8 : Int32)).toBitVec = x.toBitVec <<< 8 := fun x => by rw [Int32.toBitVec_shiftLeft]; rfl
  have i8 : ∀ x : Int32, x.toInt8.toInt32.toBitVec = (x.toBitVec.setWidth 8).signExtend 32 := fun x => by
    show (x.toBitVec.signExtend 8).signExtend 32 = _
    rw [BitVec.signExtend_eq_setWidth_of_le (w := 32) (v := 8) _ (by decide)]
  show ((((c.toInt8.toInt32 &&& (255 : Int32)) ||| (((c >>> (8 : Int32)).toInt8.toInt32 &&& (255 : Int32)) <<< (8 : Int32))).toBitVec.setWidth 16).setWidth 32) = c.toBitVec
  rw [Int32.toBitVec_or, Int32.toBitVec_and, l8, Int32.toBitVec_and, i8, i8, r8]
  have hc : ∀ i, 16 ≤ i → c.toBitVec.getLsbD i = false := by
    intro i hi
    have hn : c.toBitVec.toNat < 2 ^ 16 := by
      have a1 : c.toInt = c.toBitVec.toInt := rfl
      rw [BitVec.toInt_eq_toNat_cond] at a1
      have := c.toBitVec.isLt
      split at a1 <;> omega
    exact Nat.testBit_lt_two_pow (Nat.lt_of_lt_of_le hn (Nat.pow_le_pow_right (by decide) hi))
  have m255 : ∀ i, (Int32.toBitVec 255).getLsbD i = decide (i < 8) := by
    intro i
    show (255#32).getLsbD i = _
    by_cases h8 : i < 8
    · have : ∀ j : Fin 8, (255#32).getLsbD j.val = true := by decide
      simp [this ⟨i, h8⟩, h8]
    · by_cases h32 : i < 32
      · have : ∀ j : Fin 32, ¬ j.val < 8 → (255#32).getLsbD j.val = false := by decide
        simp [this ⟨i, h32⟩ h8, h8]
      · simp [h8, BitVec.getLsbD_of_ge _ _ (Nat.le_of_not_lt h32)]
  apply BitVec.eq_of_getLsbD_eq
  intro i hi
  simp only [BitVec.getLsbD_setWidth, BitVec.getLsbD_or, BitVec.getLsbD_and, BitVec.getLsbD_shiftLeft, BitVec.getLsbD_signExtend, BitVec.getLsbD_sshiftRight, m255]
  by_cases h1 : i < 8
  · have h2 : i < 16 := by omega
    have h3 : i < 32 := by omega
    simp [h1, h2, h3]
  · by_cases h2 : i < 16
    · have h3 : i - 8 < 8 := by omega
      have h4 : i < 32 := by omega
      have h5 : i - 8 < 32 := by omega
      have h6 : 8 + (i - 8) = i := by omega
      simp [h1, h2, h3, h4, h5, h6]
    · rw [hc i (by omega)]
      simp [h1, h2]
theorem own_c16 {a v : Int32} (h : a.toUInt32.toUInt16.toUInt32.toInt32 = v) (ha : 0 ≤ a.toInt ∧ a.toInt ≤ 65535) : v = a := by
  have q := c_i2c a
  rw [h] at q
  apply Int32.toInt_inj.mp
  omega
theorem own_l1 (c : Int32) (h0 : 0 ≤ c.toInt) (h1 : ¬ 255 < c) : ((c.toInt8.toInt32) &&& 255).toUInt32.toUInt16.toUInt32.toInt32 = c := by
  have k : ¬ ((255 : Int32).toInt < c.toInt) := fun q => h1 (Int32.lt_iff_toInt_lt.mpr q)
  have e1 := c_i2b c
  have e2 := c_mask (c.toInt8.toInt32) (255 : Int32) 8 (by decide) (by decide)
  have e3 := c_i2c (c.toInt8.toInt32 &&& 255)
  apply Int32.toInt_inj.mp
  simp only [Int32.reduceToInt] at k
  omega
theorem own_narCr {v : Int32} (h0 : 0 ≤ v.toInt) (h1 : v.toInt ≤ 65535) : nar .char v = v := own_narC (a := v) (Int32.toInt_inj.mp (by have := c_i2c v; omega))
theorem own_ch {a u v : Int32} : True := trivial
theorem dA_0 : decode jdk_52_method_21_code 0 = .ok (.iconst 0, 1) := by decide +kernel
theorem dA_1 : decode jdk_52_method_21_code 1 = .ok (.istore 5, 2) := by decide +kernel
theorem dA_3 : decode jdk_52_method_21_code 3 = .ok (.iload 5, 2) := by decide +kernel
theorem dA_5 : decode jdk_52_method_21_code 5 = .ok (.iload 4, 2) := by decide +kernel
theorem dA_7 : decode jdk_52_method_21_code 7 = .ok (.if_icmp .ge 37, 3) := by decide +kernel
theorem dA_10 : decode jdk_52_method_21_code 10 = .ok (.aload_n 0, 1) := by decide +kernel
theorem dA_11 : decode jdk_52_method_21_code 11 = .ok (.iload_n 1, 1) := by decide +kernel
theorem dA_12 : decode jdk_52_method_21_code 12 = .ok (.caload, 1) := by decide +kernel
theorem dA_13 : decode jdk_52_method_21_code 13 = .ok (.istore 6, 2) := by decide +kernel
theorem dA_15 : decode jdk_52_method_21_code 15 = .ok (.iload 6, 2) := by decide +kernel
theorem dA_17 : decode jdk_52_method_21_code 17 = .ok (.sipush 255, 3) := by decide +kernel
theorem dA_20 : decode jdk_52_method_21_code 20 = .ok (.if_icmp .le 6, 3) := by decide +kernel
theorem dA_23 : decode jdk_52_method_21_code 23 = .ok (.iload 5, 2) := by decide +kernel
theorem dA_25 : decode jdk_52_method_21_code 25 = .ok (.ireturn, 1) := by decide +kernel
def R0 : Room := { frames := 0, cells := 0, slots := 0, locals := 0 }
def Q0 (Z : State) (ca b : Addr) (kc kb : ClassId) (u0 : Int32) (h0 : Heap) (v : Option Value) (h : Heap) : Prop := v = some (.int 0) ∧ Keep h0 h [b] ∧ Arv Z h b kb .byte (1 : Int32) [(.int 0)] (.int 0)
theorem ef0 (ca b : Addr) (m : MethodId) : entryFrame m #[(.ref ca), (.int 0), (.ref b), (.int 0), (.int 1)] 7 = mkF m 0 #[.val (.ref ca), .val (.int 0), .val (.ref b), .val (.int 0), .val (.int 1), .unset, .unset] [] := by first | (simp [entryFrame, mkF, argsToLocals, Value.category]; done) | rfl
theorem pn_0 : plainName "java/lang/StringUTF16" = true := by first | (simp [plainName, overriddenIn]; done) | decide +kernel
theorem rm0 (hw : HW a0 Z) (ca b : Addr) (kc kb : ClassId) (u0 : Int32) (h0 : Heap) (n0 : Nat) (Z0 : n0 ≤ h0.size) (Vc : Arv Z h0 ca kc .char (1 : Int32) [(.int u0)] (.int 0)) (Vb : Arv Z h0 b kb .byte (1 : Int32) [(.int 0)] (.int 0)) (gb : n0 ≤ b) (nbc : own_ne ca b) (m0 : 255 < u0) : OMet l Z [] (⟨"java/lang/StringUTF16", "compress", "([CI[BII)I"⟩ : MethodName) jdk_52_method_21_code 7 (some .int) R0 #[(.ref ca), (.int 0), (.ref b), (.int 0), (.int 1)] h0 n0 (Q0 Z ca b kc kb u0 h0) := by
  refine OMet.of (own := "java/lang/StringUTF16") rfl (plainFor_of_name pn_0) (ef0 ca b) Z0 ?_
  intro p e s m below meth c T0 Y0 hnm
  refine Gl.iconst Y0 (v := (0 : Int32)) (by decide) dA_0 rfl ?_
  refine Gl.istore Y0 (L' := #[.val (.ref ca), .val (.int 0), .val (.ref b), .val (.int 0), .val (.int 1), .val (.int 0), .unset]) rfl dA_1 rfl ?_
  refine Gl.iload Y0 rfl dA_3 rfl ?_
  refine Gl.iload Y0 rfl dA_5 rfl ?_
  refine Gl.icmpge Y0 dA_7 (by decide) rfl rfl (fun c7 => ?_) (fun c7 => ?_)
  · exact absurd c7 (by decide)
  refine Gl.aloadN Y0 rfl rfl dA_10 rfl ?_
  refine Gl.iloadN Y0 rfl dA_11 rfl ?_
  refine Gl.caload Y0 Vc ⟨by decide, by decide⟩ (v := (.int u0)) rfl dA_12 rfl ?_
  refine Gl.istore Y0 (L' := #[.val (.ref ca), .val (.int 0), .val (.ref b), .val (.int 0), .val (.int 1), .val (.int 0), .val (.int u0)]) rfl dA_13 rfl ?_
  refine Gl.iload Y0 rfl dA_15 rfl ?_
  refine Gl.sipush Y0 (v := (255 : Int32)) (by decide) dA_17 rfl ?_
  refine Gl.icmple Y0 dA_20 (by decide) rfl rfl (fun c20 => ?_) (fun c20 => ?_)
  · exact absurd m0 c20
  refine Gl.iload Y0 rfl dA_23 rfl ?_
  exact Gl.retI Y0 (by decide) (by decide)  dA_25 ⟨rfl, (Keep.refl h0 [b]), Vb⟩
theorem dA_26 : decode jdk_52_method_21_code 26 = .ok (.aload_n 2, 1) := by decide +kernel
theorem dA_27 : decode jdk_52_method_21_code 27 = .ok (.iload_n 3, 1) := by decide +kernel
theorem dA_28 : decode jdk_52_method_21_code 28 = .ok (.iload 6, 2) := by decide +kernel
theorem dA_30 : decode jdk_52_method_21_code 30 = .ok (.i2b, 1) := by decide +kernel
theorem dA_31 : decode jdk_52_method_21_code 31 = .ok (.bastore, 1) := by decide +kernel
theorem dA_32 : decode jdk_52_method_21_code 32 = .ok (.iinc 1 1, 3) := by decide +kernel
theorem dA_35 : decode jdk_52_method_21_code 35 = .ok (.iinc 3 1, 3) := by decide +kernel
theorem dA_38 : decode jdk_52_method_21_code 38 = .ok (.iinc 5 1, 3) := by decide +kernel
theorem dA_41 : decode jdk_52_method_21_code 41 = .ok (.goto (-38), 3) := by decide +kernel
theorem dA_44 : decode jdk_52_method_21_code 44 = .ok (.iload 4, 2) := by decide +kernel
theorem dA_46 : decode jdk_52_method_21_code 46 = .ok (.ireturn, 1) := by decide +kernel
def R1 : Room := { frames := 0, cells := 0, slots := 0, locals := 0 }
def Q1 (Z : State) (ca b : Addr) (kc kb : ClassId) (u0 : Int32) (h0 : Heap) (v : Option Value) (h : Heap) : Prop := v = some (.int 1) ∧ Keep h0 h [b] ∧ Arv Z h b kb .byte (1 : Int32) [(.int (bL u0))] (.int 0)
theorem ef1 (ca b : Addr) (m : MethodId) : entryFrame m #[(.ref ca), (.int 0), (.ref b), (.int 0), (.int 1)] 7 = mkF m 0 #[.val (.ref ca), .val (.int 0), .val (.ref b), .val (.int 0), .val (.int 1), .unset, .unset] [] := by first | (simp [entryFrame, mkF, argsToLocals, Value.category]; done) | rfl
theorem rm1 (hw : HW a0 Z) (ca b : Addr) (kc kb : ClassId) (u0 : Int32) (h0 : Heap) (n0 : Nat) (Z0 : n0 ≤ h0.size) (Vc : Arv Z h0 ca kc .char (1 : Int32) [(.int u0)] (.int 0)) (Vb : Arv Z h0 b kb .byte (1 : Int32) [(.int 0)] (.int 0)) (gb : n0 ≤ b) (nbc : own_ne ca b) (l0 : ¬ 255 < u0) : OMet l Z [] (⟨"java/lang/StringUTF16", "compress", "([CI[BII)I"⟩ : MethodName) jdk_52_method_21_code 7 (some .int) R1 #[(.ref ca), (.int 0), (.ref b), (.int 0), (.int 1)] h0 n0 (Q1 Z ca b kc kb u0 h0) := by
  refine OMet.of (own := "java/lang/StringUTF16") rfl (plainFor_of_name pn_0) (ef1 ca b) Z0 ?_
  intro p e s m below meth c T0 Y0 hnm
  refine Gl.iconst Y0 (v := (0 : Int32)) (by decide) dA_0 rfl ?_
  refine Gl.istore Y0 (L' := #[.val (.ref ca), .val (.int 0), .val (.ref b), .val (.int 0), .val (.int 1), .val (.int 0), .unset]) rfl dA_1 rfl ?_
  refine Gl.iload Y0 rfl dA_3 rfl ?_
  refine Gl.iload Y0 rfl dA_5 rfl ?_
  refine Gl.icmpge Y0 dA_7 (by decide) rfl rfl (fun c7 => ?_) (fun c7 => ?_)
  · exact absurd c7 (by decide)
  refine Gl.aloadN Y0 rfl rfl dA_10 rfl ?_
  refine Gl.iloadN Y0 rfl dA_11 rfl ?_
  refine Gl.caload Y0 Vc ⟨by decide, by decide⟩ (v := (.int u0)) rfl dA_12 rfl ?_
  refine Gl.istore Y0 (L' := #[.val (.ref ca), .val (.int 0), .val (.ref b), .val (.int 0), .val (.int 1), .val (.int 0), .val (.int u0)]) rfl dA_13 rfl ?_
  refine Gl.iload Y0 rfl dA_15 rfl ?_
  refine Gl.sipush Y0 (v := (255 : Int32)) (by decide) dA_17 rfl ?_
  refine Gl.icmple Y0 dA_20 (by decide) rfl rfl (fun c20 => ?_) (fun c20 => ?_)
  rotate_left
  · exact absurd c20 l0
  refine Gl.aloadN Y0 rfl rfl dA_26 rfl ?_
  refine Gl.iloadN Y0 rfl dA_27 rfl ?_
  refine Gl.iload Y0 rfl dA_28 rfl ?_
  refine Gl.i2b Y0 rfl dA_30 rfl ?_
  refine Gl.bastore Y0 Vb (v := (.int u0.toInt8.toInt32)) (congrArg Value.int (own_narB rfl)) ⟨by decide, by decide⟩ (ix := 0) rfl (nle rfl) gb dA_31 rfl (fun T31 h31 Y31 W31 A31 => ?_)
  have A31 : Arv Z h31 b kb .byte (1 : Int32) [(.int u0.toInt8.toInt32)] (.int 0) := A31
  have K31 : Keep h0 h31 [b] := (Keep.refl h0 [b]).wr W31 (Or.inl (List.mem_of_getElem? (i := 0) rfl))
  show Gl p e below _ (T31.setTop (mkF m 32 _ []))
  refine Gl.iinc Y31 rfl (r := (1 : Int32)) (by decide) (L' := #[.val (.ref ca), .val (.int 1), .val (.ref b), .val (.int 0), .val (.int 1), .val (.int 0), .val (.int u0)]) rfl dA_32 rfl ?_
  refine Gl.iinc Y31 rfl (r := (1 : Int32)) (by decide) (L' := #[.val (.ref ca), .val (.int 1), .val (.ref b), .val (.int 1), .val (.int 1), .val (.int 0), .val (.int u0)]) rfl dA_35 rfl ?_
  refine Gl.iinc Y31 rfl (r := (1 : Int32)) (by decide) (L' := #[.val (.ref ca), .val (.int 1), .val (.ref b), .val (.int 1), .val (.int 1), .val (.int 1), .val (.int u0)]) rfl dA_38 rfl ?_
  refine Gl.goto Y31 dA_41 (by decide) rfl ?_
  refine Gl.iload Y31 rfl dA_3 rfl ?_
  refine Gl.iload Y31 rfl dA_5 rfl ?_
  refine Gl.icmpge Y31 dA_7 (by decide) rfl rfl (fun c7_2 => ?_) (fun c7_2 => ?_)
  rotate_left
  · exact absurd c7_2 (by decide)
  refine Gl.iload Y31 rfl dA_44 rfl ?_
  exact Gl.retI Y31 (by decide) (by decide)  dA_46 ⟨rfl, K31, A31⟩
def R2 : Room := { frames := 0, cells := 0, slots := 0, locals := 0 }
def Q2 (Z : State) (ca b : Addr) (kc kb : ClassId) (u0 u1 : Int32) (h0 : Heap) (v : Option Value) (h : Heap) : Prop := v = some (.int 0) ∧ Keep h0 h [b] ∧ Arv Z h b kb .byte (2 : Int32) [(.int 0), (.int 0)] (.int 0)
theorem ef2 (ca b : Addr) (m : MethodId) : entryFrame m #[(.ref ca), (.int 0), (.ref b), (.int 0), (.int 2)] 7 = mkF m 0 #[.val (.ref ca), .val (.int 0), .val (.ref b), .val (.int 0), .val (.int 2), .unset, .unset] [] := by first | (simp [entryFrame, mkF, argsToLocals, Value.category]; done) | rfl
theorem rm2 (hw : HW a0 Z) (ca b : Addr) (kc kb : ClassId) (u0 u1 : Int32) (h0 : Heap) (n0 : Nat) (Z0 : n0 ≤ h0.size) (Vc : Arv Z h0 ca kc .char (2 : Int32) [(.int u0), (.int u1)] (.int 0)) (Vb : Arv Z h0 b kb .byte (2 : Int32) [(.int 0), (.int 0)] (.int 0)) (gb : n0 ≤ b) (nbc : own_ne ca b) (m0 : 255 < u0) : OMet l Z [] (⟨"java/lang/StringUTF16", "compress", "([CI[BII)I"⟩ : MethodName) jdk_52_method_21_code 7 (some .int) R2 #[(.ref ca), (.int 0), (.ref b), (.int 0), (.int 2)] h0 n0 (Q2 Z ca b kc kb u0 u1 h0) := by
  refine OMet.of (own := "java/lang/StringUTF16") rfl (plainFor_of_name pn_0) (ef2 ca b) Z0 ?_
  intro p e s m below meth c T0 Y0 hnm
  refine Gl.iconst Y0 (v := (0 : Int32)) (by decide) dA_0 rfl ?_
  refine Gl.istore Y0 (L' := #[.val (.ref ca), .val (.int 0), .val (.ref b), .val (.int 0), .val (.int 2), .val (.int 0), .unset]) rfl dA_1 rfl ?_
  refine Gl.iload Y0 rfl dA_3 rfl ?_
  refine Gl.iload Y0 rfl dA_5 rfl ?_
  refine Gl.icmpge Y0 dA_7 (by decide) rfl rfl (fun c7 => ?_) (fun c7 => ?_)
  · exact absurd c7 (by decide)
  refine Gl.aloadN Y0 rfl rfl dA_10 rfl ?_
  refine Gl.iloadN Y0 rfl dA_11 rfl ?_
  refine Gl.caload Y0 Vc ⟨by decide, by decide⟩ (v := (.int u0)) rfl dA_12 rfl ?_
  refine Gl.istore Y0 (L' := #[.val (.ref ca), .val (.int 0), .val (.ref b), .val (.int 0), .val (.int 2), .val (.int 0), .val (.int u0)]) rfl dA_13 rfl ?_
  refine Gl.iload Y0 rfl dA_15 rfl ?_
  refine Gl.sipush Y0 (v := (255 : Int32)) (by decide) dA_17 rfl ?_
  refine Gl.icmple Y0 dA_20 (by decide) rfl rfl (fun c20 => ?_) (fun c20 => ?_)
  · exact absurd m0 c20
  refine Gl.iload Y0 rfl dA_23 rfl ?_
  exact Gl.retI Y0 (by decide) (by decide)  dA_25 ⟨rfl, (Keep.refl h0 [b]), Vb⟩
def R3 : Room := { frames := 0, cells := 0, slots := 0, locals := 0 }
def Q3 (Z : State) (ca b : Addr) (kc kb : ClassId) (u0 u1 : Int32) (h0 : Heap) (v : Option Value) (h : Heap) : Prop := v = some (.int 1) ∧ Keep h0 h [b] ∧ Arv Z h b kb .byte (2 : Int32) [(.int (bL u0)), (.int 0)] (.int 0)
theorem ef3 (ca b : Addr) (m : MethodId) : entryFrame m #[(.ref ca), (.int 0), (.ref b), (.int 0), (.int 2)] 7 = mkF m 0 #[.val (.ref ca), .val (.int 0), .val (.ref b), .val (.int 0), .val (.int 2), .unset, .unset] [] := by first | (simp [entryFrame, mkF, argsToLocals, Value.category]; done) | rfl
theorem rm3 (hw : HW a0 Z) (ca b : Addr) (kc kb : ClassId) (u0 u1 : Int32) (h0 : Heap) (n0 : Nat) (Z0 : n0 ≤ h0.size) (Vc : Arv Z h0 ca kc .char (2 : Int32) [(.int u0), (.int u1)] (.int 0)) (Vb : Arv Z h0 b kb .byte (2 : Int32) [(.int 0), (.int 0)] (.int 0)) (gb : n0 ≤ b) (nbc : own_ne ca b) (l0 : ¬ 255 < u0) (m1 : 255 < u1) : OMet l Z [] (⟨"java/lang/StringUTF16", "compress", "([CI[BII)I"⟩ : MethodName) jdk_52_method_21_code 7 (some .int) R3 #[(.ref ca), (.int 0), (.ref b), (.int 0), (.int 2)] h0 n0 (Q3 Z ca b kc kb u0 u1 h0) := by
  refine OMet.of (own := "java/lang/StringUTF16") rfl (plainFor_of_name pn_0) (ef3 ca b) Z0 ?_
  intro p e s m below meth c T0 Y0 hnm
  refine Gl.iconst Y0 (v := (0 : Int32)) (by decide) dA_0 rfl ?_
  refine Gl.istore Y0 (L' := #[.val (.ref ca), .val (.int 0), .val (.ref b), .val (.int 0), .val (.int 2), .val (.int 0), .unset]) rfl dA_1 rfl ?_
  refine Gl.iload Y0 rfl dA_3 rfl ?_
  refine Gl.iload Y0 rfl dA_5 rfl ?_
  refine Gl.icmpge Y0 dA_7 (by decide) rfl rfl (fun c7 => ?_) (fun c7 => ?_)
  · exact absurd c7 (by decide)
  refine Gl.aloadN Y0 rfl rfl dA_10 rfl ?_
  refine Gl.iloadN Y0 rfl dA_11 rfl ?_
  refine Gl.caload Y0 Vc ⟨by decide, by decide⟩ (v := (.int u0)) rfl dA_12 rfl ?_
  refine Gl.istore Y0 (L' := #[.val (.ref ca), .val (.int 0), .val (.ref b), .val (.int 0), .val (.int 2), .val (.int 0), .val (.int u0)]) rfl dA_13 rfl ?_
  refine Gl.iload Y0 rfl dA_15 rfl ?_
  refine Gl.sipush Y0 (v := (255 : Int32)) (by decide) dA_17 rfl ?_
  refine Gl.icmple Y0 dA_20 (by decide) rfl rfl (fun c20 => ?_) (fun c20 => ?_)
  rotate_left
  · exact absurd c20 l0
  refine Gl.aloadN Y0 rfl rfl dA_26 rfl ?_
  refine Gl.iloadN Y0 rfl dA_27 rfl ?_
  refine Gl.iload Y0 rfl dA_28 rfl ?_
  refine Gl.i2b Y0 rfl dA_30 rfl ?_
  refine Gl.bastore Y0 Vb (v := (.int u0.toInt8.toInt32)) (congrArg Value.int (own_narB rfl)) ⟨by decide, by decide⟩ (ix := 0) rfl (nle rfl) gb dA_31 rfl (fun T31 h31 Y31 W31 A31 => ?_)
  have A31 : Arv Z h31 b kb .byte (2 : Int32) [(.int u0.toInt8.toInt32), (.int 0)] (.int 0) := A31
  have K31 : Keep h0 h31 [b] := (Keep.refl h0 [b]).wr W31 (Or.inl (List.mem_of_getElem? (i := 0) rfl))
  show Gl p e below _ (T31.setTop (mkF m 32 _ []))
  refine Gl.iinc Y31 rfl (r := (1 : Int32)) (by decide) (L' := #[.val (.ref ca), .val (.int 1), .val (.ref b), .val (.int 0), .val (.int 2), .val (.int 0), .val (.int u0)]) rfl dA_32 rfl ?_
  refine Gl.iinc Y31 rfl (r := (1 : Int32)) (by decide) (L' := #[.val (.ref ca), .val (.int 1), .val (.ref b), .val (.int 1), .val (.int 2), .val (.int 0), .val (.int u0)]) rfl dA_35 rfl ?_
  refine Gl.iinc Y31 rfl (r := (1 : Int32)) (by decide) (L' := #[.val (.ref ca), .val (.int 1), .val (.ref b), .val (.int 1), .val (.int 2), .val (.int 1), .val (.int u0)]) rfl dA_38 rfl ?_
  refine Gl.goto Y31 dA_41 (by decide) rfl ?_
  refine Gl.iload Y31 rfl dA_3 rfl ?_
  refine Gl.iload Y31 rfl dA_5 rfl ?_
  refine Gl.icmpge Y31 dA_7 (by decide) rfl rfl (fun c7_2 => ?_) (fun c7_2 => ?_)
  · exact absurd c7_2 (by decide)
  refine Gl.aloadN Y31 rfl rfl dA_10 rfl ?_
  refine Gl.iloadN Y31 rfl dA_11 rfl ?_
  have f1 := (Vc.other W31 nbc)
  refine Gl.caload Y31 f1 ⟨by decide, by decide⟩ (v := (.int u1)) rfl dA_12 rfl ?_
  refine Gl.istore Y31 (L' := #[.val (.ref ca), .val (.int 1), .val (.ref b), .val (.int 1), .val (.int 2), .val (.int 1), .val (.int u1)]) rfl dA_13 rfl ?_
  refine Gl.iload Y31 rfl dA_15 rfl ?_
  refine Gl.sipush Y31 (v := (255 : Int32)) (by decide) dA_17 rfl ?_
  refine Gl.icmple Y31 dA_20 (by decide) rfl rfl (fun c20_2 => ?_) (fun c20_2 => ?_)
  · exact absurd m1 c20_2
  refine Gl.iload Y31 rfl dA_23 rfl ?_
  exact Gl.retI Y31 (by decide) (by decide)  dA_25 ⟨rfl, K31, A31⟩
def R4 : Room := { frames := 0, cells := 0, slots := 0, locals := 0 }
def Q4 (Z : State) (ca b : Addr) (kc kb : ClassId) (u0 u1 : Int32) (h0 : Heap) (v : Option Value) (h : Heap) : Prop := v = some (.int 2) ∧ Keep h0 h [b] ∧ Arv Z h b kb .byte (2 : Int32) [(.int (bL u0)), (.int (bL u1))] (.int 0)
theorem ef4 (ca b : Addr) (m : MethodId) : entryFrame m #[(.ref ca), (.int 0), (.ref b), (.int 0), (.int 2)] 7 = mkF m 0 #[.val (.ref ca), .val (.int 0), .val (.ref b), .val (.int 0), .val (.int 2), .unset, .unset] [] := by first | (simp [entryFrame, mkF, argsToLocals, Value.category]; done) | rfl
theorem rm4 (hw : HW a0 Z) (ca b : Addr) (kc kb : ClassId) (u0 u1 : Int32) (h0 : Heap) (n0 : Nat) (Z0 : n0 ≤ h0.size) (Vc : Arv Z h0 ca kc .char (2 : Int32) [(.int u0), (.int u1)] (.int 0)) (Vb : Arv Z h0 b kb .byte (2 : Int32) [(.int 0), (.int 0)] (.int 0)) (gb : n0 ≤ b) (nbc : own_ne ca b) (l0 : ¬ 255 < u0) (l1 : ¬ 255 < u1) : OMet l Z [] (⟨"java/lang/StringUTF16", "compress", "([CI[BII)I"⟩ : MethodName) jdk_52_method_21_code 7 (some .int) R4 #[(.ref ca), (.int 0), (.ref b), (.int 0), (.int 2)] h0 n0 (Q4 Z ca b kc kb u0 u1 h0) := by
  refine OMet.of (own := "java/lang/StringUTF16") rfl (plainFor_of_name pn_0) (ef4 ca b) Z0 ?_
  intro p e s m below meth c T0 Y0 hnm
  refine Gl.iconst Y0 (v := (0 : Int32)) (by decide) dA_0 rfl ?_
  refine Gl.istore Y0 (L' := #[.val (.ref ca), .val (.int 0), .val (.ref b), .val (.int 0), .val (.int 2), .val (.int 0), .unset]) rfl dA_1 rfl ?_
  refine Gl.iload Y0 rfl dA_3 rfl ?_
  refine Gl.iload Y0 rfl dA_5 rfl ?_
  refine Gl.icmpge Y0 dA_7 (by decide) rfl rfl (fun c7 => ?_) (fun c7 => ?_)
  · exact absurd c7 (by decide)
  refine Gl.aloadN Y0 rfl rfl dA_10 rfl ?_
  refine Gl.iloadN Y0 rfl dA_11 rfl ?_
  refine Gl.caload Y0 Vc ⟨by decide, by decide⟩ (v := (.int u0)) rfl dA_12 rfl ?_
  refine Gl.istore Y0 (L' := #[.val (.ref ca), .val (.int 0), .val (.ref b), .val (.int 0), .val (.int 2), .val (.int 0), .val (.int u0)]) rfl dA_13 rfl ?_
  refine Gl.iload Y0 rfl dA_15 rfl ?_
  refine Gl.sipush Y0 (v := (255 : Int32)) (by decide) dA_17 rfl ?_
  refine Gl.icmple Y0 dA_20 (by decide) rfl rfl (fun c20 => ?_) (fun c20 => ?_)
  rotate_left
  · exact absurd c20 l0
  refine Gl.aloadN Y0 rfl rfl dA_26 rfl ?_
  refine Gl.iloadN Y0 rfl dA_27 rfl ?_
  refine Gl.iload Y0 rfl dA_28 rfl ?_
  refine Gl.i2b Y0 rfl dA_30 rfl ?_
  refine Gl.bastore Y0 Vb (v := (.int u0.toInt8.toInt32)) (congrArg Value.int (own_narB rfl)) ⟨by decide, by decide⟩ (ix := 0) rfl (nle rfl) gb dA_31 rfl (fun T31 h31 Y31 W31 A31 => ?_)
  have A31 : Arv Z h31 b kb .byte (2 : Int32) [(.int u0.toInt8.toInt32), (.int 0)] (.int 0) := A31
  have K31 : Keep h0 h31 [b] := (Keep.refl h0 [b]).wr W31 (Or.inl (List.mem_of_getElem? (i := 0) rfl))
  show Gl p e below _ (T31.setTop (mkF m 32 _ []))
  refine Gl.iinc Y31 rfl (r := (1 : Int32)) (by decide) (L' := #[.val (.ref ca), .val (.int 1), .val (.ref b), .val (.int 0), .val (.int 2), .val (.int 0), .val (.int u0)]) rfl dA_32 rfl ?_
  refine Gl.iinc Y31 rfl (r := (1 : Int32)) (by decide) (L' := #[.val (.ref ca), .val (.int 1), .val (.ref b), .val (.int 1), .val (.int 2), .val (.int 0), .val (.int u0)]) rfl dA_35 rfl ?_
  refine Gl.iinc Y31 rfl (r := (1 : Int32)) (by decide) (L' := #[.val (.ref ca), .val (.int 1), .val (.ref b), .val (.int 1), .val (.int 2), .val (.int 1), .val (.int u0)]) rfl dA_38 rfl ?_
  refine Gl.goto Y31 dA_41 (by decide) rfl ?_
  refine Gl.iload Y31 rfl dA_3 rfl ?_
  refine Gl.iload Y31 rfl dA_5 rfl ?_
  refine Gl.icmpge Y31 dA_7 (by decide) rfl rfl (fun c7_2 => ?_) (fun c7_2 => ?_)
  · exact absurd c7_2 (by decide)
  refine Gl.aloadN Y31 rfl rfl dA_10 rfl ?_
  refine Gl.iloadN Y31 rfl dA_11 rfl ?_
  have f1 := (Vc.other W31 nbc)
  refine Gl.caload Y31 f1 ⟨by decide, by decide⟩ (v := (.int u1)) rfl dA_12 rfl ?_
  refine Gl.istore Y31 (L' := #[.val (.ref ca), .val (.int 1), .val (.ref b), .val (.int 1), .val (.int 2), .val (.int 1), .val (.int u1)]) rfl dA_13 rfl ?_
  refine Gl.iload Y31 rfl dA_15 rfl ?_
  refine Gl.sipush Y31 (v := (255 : Int32)) (by decide) dA_17 rfl ?_
  refine Gl.icmple Y31 dA_20 (by decide) rfl rfl (fun c20_2 => ?_) (fun c20_2 => ?_)
  rotate_left
  · exact absurd c20_2 l1
  refine Gl.aloadN Y31 rfl rfl dA_26 rfl ?_
  refine Gl.iloadN Y31 rfl dA_27 rfl ?_
  refine Gl.iload Y31 rfl dA_28 rfl ?_
  refine Gl.i2b Y31 rfl dA_30 rfl ?_
  refine Gl.bastore Y31 A31 (v := (.int u1.toInt8.toInt32)) (congrArg Value.int (own_narB rfl)) ⟨by decide, by decide⟩ (ix := 1) rfl (nle rfl) gb dA_31 rfl (fun T31_2 h31_2 Y31_2 W31_2 A31_2 => ?_)
  have A31_2 : Arv Z h31_2 b kb .byte (2 : Int32) [(.int u0.toInt8.toInt32), (.int u1.toInt8.toInt32)] (.int 0) := A31_2
  have K31_2 : Keep h0 h31_2 [b] := K31.wr W31_2 (Or.inl (List.mem_of_getElem? (i := 0) rfl))
  show Gl p e below _ (T31_2.setTop (mkF m 32 _ []))
  refine Gl.iinc Y31_2 rfl (r := (2 : Int32)) (by decide) (L' := #[.val (.ref ca), .val (.int 2), .val (.ref b), .val (.int 1), .val (.int 2), .val (.int 1), .val (.int u1)]) rfl dA_32 rfl ?_
  refine Gl.iinc Y31_2 rfl (r := (2 : Int32)) (by decide) (L' := #[.val (.ref ca), .val (.int 2), .val (.ref b), .val (.int 2), .val (.int 2), .val (.int 1), .val (.int u1)]) rfl dA_35 rfl ?_
  refine Gl.iinc Y31_2 rfl (r := (2 : Int32)) (by decide) (L' := #[.val (.ref ca), .val (.int 2), .val (.ref b), .val (.int 2), .val (.int 2), .val (.int 2), .val (.int u1)]) rfl dA_38 rfl ?_
  refine Gl.goto Y31_2 dA_41 (by decide) rfl ?_
  refine Gl.iload Y31_2 rfl dA_3 rfl ?_
  refine Gl.iload Y31_2 rfl dA_5 rfl ?_
  refine Gl.icmpge Y31_2 dA_7 (by decide) rfl rfl (fun c7_3 => ?_) (fun c7_3 => ?_)
  rotate_left
  · exact absurd c7_3 (by decide)
  refine Gl.iload Y31_2 rfl dA_44 rfl ?_
  exact Gl.retI Y31_2 (by decide) (by decide)  dA_46 ⟨rfl, K31_2, A31_2⟩
def R5 : Room := { frames := 0, cells := 0, slots := 0, locals := 0 }
def Q5 (Z : State) (ca b : Addr) (kc kb : ClassId) (u0 u1 u2 : Int32) (h0 : Heap) (v : Option Value) (h : Heap) : Prop := v = some (.int 0) ∧ Keep h0 h [b] ∧ Arv Z h b kb .byte (3 : Int32) [(.int 0), (.int 0), (.int 0)] (.int 0)
theorem ef5 (ca b : Addr) (m : MethodId) : entryFrame m #[(.ref ca), (.int 0), (.ref b), (.int 0), (.int 3)] 7 = mkF m 0 #[.val (.ref ca), .val (.int 0), .val (.ref b), .val (.int 0), .val (.int 3), .unset, .unset] [] := by first | (simp [entryFrame, mkF, argsToLocals, Value.category]; done) | rfl
theorem rm5 (hw : HW a0 Z) (ca b : Addr) (kc kb : ClassId) (u0 u1 u2 : Int32) (h0 : Heap) (n0 : Nat) (Z0 : n0 ≤ h0.size) (Vc : Arv Z h0 ca kc .char (3 : Int32) [(.int u0), (.int u1), (.int u2)] (.int 0)) (Vb : Arv Z h0 b kb .byte (3 : Int32) [(.int 0), (.int 0), (.int 0)] (.int 0)) (gb : n0 ≤ b) (nbc : own_ne ca b) (m0 : 255 < u0) : OMet l Z [] (⟨"java/lang/StringUTF16", "compress", "([CI[BII)I"⟩ : MethodName) jdk_52_method_21_code 7 (some .int) R5 #[(.ref ca), (.int 0), (.ref b), (.int 0), (.int 3)] h0 n0 (Q5 Z ca b kc kb u0 u1 u2 h0) := by
  refine OMet.of (own := "java/lang/StringUTF16") rfl (plainFor_of_name pn_0) (ef5 ca b) Z0 ?_
  intro p e s m below meth c T0 Y0 hnm
  refine Gl.iconst Y0 (v := (0 : Int32)) (by decide) dA_0 rfl ?_
  refine Gl.istore Y0 (L' := #[.val (.ref ca), .val (.int 0), .val (.ref b), .val (.int 0), .val (.int 3), .val (.int 0), .unset]) rfl dA_1 rfl ?_
  refine Gl.iload Y0 rfl dA_3 rfl ?_
  refine Gl.iload Y0 rfl dA_5 rfl ?_
  refine Gl.icmpge Y0 dA_7 (by decide) rfl rfl (fun c7 => ?_) (fun c7 => ?_)
  · exact absurd c7 (by decide)
  refine Gl.aloadN Y0 rfl rfl dA_10 rfl ?_
  refine Gl.iloadN Y0 rfl dA_11 rfl ?_
  refine Gl.caload Y0 Vc ⟨by decide, by decide⟩ (v := (.int u0)) rfl dA_12 rfl ?_
  refine Gl.istore Y0 (L' := #[.val (.ref ca), .val (.int 0), .val (.ref b), .val (.int 0), .val (.int 3), .val (.int 0), .val (.int u0)]) rfl dA_13 rfl ?_
  refine Gl.iload Y0 rfl dA_15 rfl ?_
  refine Gl.sipush Y0 (v := (255 : Int32)) (by decide) dA_17 rfl ?_
  refine Gl.icmple Y0 dA_20 (by decide) rfl rfl (fun c20 => ?_) (fun c20 => ?_)
  · exact absurd m0 c20
  refine Gl.iload Y0 rfl dA_23 rfl ?_
  exact Gl.retI Y0 (by decide) (by decide)  dA_25 ⟨rfl, (Keep.refl h0 [b]), Vb⟩
def R6 : Room := { frames := 0, cells := 0, slots := 0, locals := 0 }
def Q6 (Z : State) (ca b : Addr) (kc kb : ClassId) (u0 u1 u2 : Int32) (h0 : Heap) (v : Option Value) (h : Heap) : Prop := v = some (.int 1) ∧ Keep h0 h [b] ∧ Arv Z h b kb .byte (3 : Int32) [(.int (bL u0)), (.int 0), (.int 0)] (.int 0)
theorem ef6 (ca b : Addr) (m : MethodId) : entryFrame m #[(.ref ca), (.int 0), (.ref b), (.int 0), (.int 3)] 7 = mkF m 0 #[.val (.ref ca), .val (.int 0), .val (.ref b), .val (.int 0), .val (.int 3), .unset, .unset] [] := by first | (simp [entryFrame, mkF, argsToLocals, Value.category]; done) | rfl
theorem rm6 (hw : HW a0 Z) (ca b : Addr) (kc kb : ClassId) (u0 u1 u2 : Int32) (h0 : Heap) (n0 : Nat) (Z0 : n0 ≤ h0.size) (Vc : Arv Z h0 ca kc .char (3 : Int32) [(.int u0), (.int u1), (.int u2)] (.int 0)) (Vb : Arv Z h0 b kb .byte (3 : Int32) [(.int 0), (.int 0), (.int 0)] (.int 0)) (gb : n0 ≤ b) (nbc : own_ne ca b) (l0 : ¬ 255 < u0) (m1 : 255 < u1) : OMet l Z [] (⟨"java/lang/StringUTF16", "compress", "([CI[BII)I"⟩ : MethodName) jdk_52_method_21_code 7 (some .int) R6 #[(.ref ca), (.int 0), (.ref b), (.int 0), (.int 3)] h0 n0 (Q6 Z ca b kc kb u0 u1 u2 h0) := by
  refine OMet.of (own := "java/lang/StringUTF16") rfl (plainFor_of_name pn_0) (ef6 ca b) Z0 ?_
  intro p e s m below meth c T0 Y0 hnm
  refine Gl.iconst Y0 (v := (0 : Int32)) (by decide) dA_0 rfl ?_
  refine Gl.istore Y0 (L' := #[.val (.ref ca), .val (.int 0), .val (.ref b), .val (.int 0), .val (.int 3), .val (.int 0), .unset]) rfl dA_1 rfl ?_
  refine Gl.iload Y0 rfl dA_3 rfl ?_
  refine Gl.iload Y0 rfl dA_5 rfl ?_
  refine Gl.icmpge Y0 dA_7 (by decide) rfl rfl (fun c7 => ?_) (fun c7 => ?_)
  · exact absurd c7 (by decide)
  refine Gl.aloadN Y0 rfl rfl dA_10 rfl ?_
  refine Gl.iloadN Y0 rfl dA_11 rfl ?_
  refine Gl.caload Y0 Vc ⟨by decide, by decide⟩ (v := (.int u0)) rfl dA_12 rfl ?_
  refine Gl.istore Y0 (L' := #[.val (.ref ca), .val (.int 0), .val (.ref b), .val (.int 0), .val (.int 3), .val (.int 0), .val (.int u0)]) rfl dA_13 rfl ?_
  refine Gl.iload Y0 rfl dA_15 rfl ?_
  refine Gl.sipush Y0 (v := (255 : Int32)) (by decide) dA_17 rfl ?_
  refine Gl.icmple Y0 dA_20 (by decide) rfl rfl (fun c20 => ?_) (fun c20 => ?_)
  rotate_left
  · exact absurd c20 l0
  refine Gl.aloadN Y0 rfl rfl dA_26 rfl ?_
  refine Gl.iloadN Y0 rfl dA_27 rfl ?_
  refine Gl.iload Y0 rfl dA_28 rfl ?_
  refine Gl.i2b Y0 rfl dA_30 rfl ?_
  refine Gl.bastore Y0 Vb (v := (.int u0.toInt8.toInt32)) (congrArg Value.int (own_narB rfl)) ⟨by decide, by decide⟩ (ix := 0) rfl (nle rfl) gb dA_31 rfl (fun T31 h31 Y31 W31 A31 => ?_)
  have A31 : Arv Z h31 b kb .byte (3 : Int32) [(.int u0.toInt8.toInt32), (.int 0), (.int 0)] (.int 0) := A31
  have K31 : Keep h0 h31 [b] := (Keep.refl h0 [b]).wr W31 (Or.inl (List.mem_of_getElem? (i := 0) rfl))
  show Gl p e below _ (T31.setTop (mkF m 32 _ []))
  refine Gl.iinc Y31 rfl (r := (1 : Int32)) (by decide) (L' := #[.val (.ref ca), .val (.int 1), .val (.ref b), .val (.int 0), .val (.int 3), .val (.int 0), .val (.int u0)]) rfl dA_32 rfl ?_
  refine Gl.iinc Y31 rfl (r := (1 : Int32)) (by decide) (L' := #[.val (.ref ca), .val (.int 1), .val (.ref b), .val (.int 1), .val (.int 3), .val (.int 0), .val (.int u0)]) rfl dA_35 rfl ?_
  refine Gl.iinc Y31 rfl (r := (1 : Int32)) (by decide) (L' := #[.val (.ref ca), .val (.int 1), .val (.ref b), .val (.int 1), .val (.int 3), .val (.int 1), .val (.int u0)]) rfl dA_38 rfl ?_
  refine Gl.goto Y31 dA_41 (by decide) rfl ?_
  refine Gl.iload Y31 rfl dA_3 rfl ?_
  refine Gl.iload Y31 rfl dA_5 rfl ?_
  refine Gl.icmpge Y31 dA_7 (by decide) rfl rfl (fun c7_2 => ?_) (fun c7_2 => ?_)
  · exact absurd c7_2 (by decide)
  refine Gl.aloadN Y31 rfl rfl dA_10 rfl ?_
  refine Gl.iloadN Y31 rfl dA_11 rfl ?_
  have f1 := (Vc.other W31 nbc)
  refine Gl.caload Y31 f1 ⟨by decide, by decide⟩ (v := (.int u1)) rfl dA_12 rfl ?_
  refine Gl.istore Y31 (L' := #[.val (.ref ca), .val (.int 1), .val (.ref b), .val (.int 1), .val (.int 3), .val (.int 1), .val (.int u1)]) rfl dA_13 rfl ?_
  refine Gl.iload Y31 rfl dA_15 rfl ?_
  refine Gl.sipush Y31 (v := (255 : Int32)) (by decide) dA_17 rfl ?_
  refine Gl.icmple Y31 dA_20 (by decide) rfl rfl (fun c20_2 => ?_) (fun c20_2 => ?_)
  · exact absurd m1 c20_2
  refine Gl.iload Y31 rfl dA_23 rfl ?_
  exact Gl.retI Y31 (by decide) (by decide)  dA_25 ⟨rfl, K31, A31⟩
def R7 : Room := { frames := 0, cells := 0, slots := 0, locals := 0 }
def Q7 (Z : State) (ca b : Addr) (kc kb : ClassId) (u0 u1 u2 : Int32) (h0 : Heap) (v : Option Value) (h : Heap) : Prop := v = some (.int 2) ∧ Keep h0 h [b] ∧ Arv Z h b kb .byte (3 : Int32) [(.int (bL u0)), (.int (bL u1)), (.int 0)] (.int 0)
theorem ef7 (ca b : Addr) (m : MethodId) : entryFrame m #[(.ref ca), (.int 0), (.ref b), (.int 0), (.int 3)] 7 = mkF m 0 #[.val (.ref ca), .val (.int 0), .val (.ref b), .val (.int 0), .val (.int 3), .unset, .unset] [] := by first | (simp [entryFrame, mkF, argsToLocals, Value.category]; done) | rfl
theorem rm7 (hw : HW a0 Z) (ca b : Addr) (kc kb : ClassId) (u0 u1 u2 : Int32) (h0 : Heap) (n0 : Nat) (Z0 : n0 ≤ h0.size) (Vc : Arv Z h0 ca kc .char (3 : Int32) [(.int u0), (.int u1), (.int u2)] (.int 0)) (Vb : Arv Z h0 b kb .byte (3 : Int32) [(.int 0), (.int 0), (.int 0)] (.int 0)) (gb : n0 ≤ b) (nbc : own_ne ca b) (l0 : ¬ 255 < u0) (l1 : ¬ 255 < u1) (m2 : 255 < u2) : OMet l Z [] (⟨"java/lang/StringUTF16", "compress", "([CI[BII)I"⟩ : MethodName) jdk_52_method_21_code 7 (some .int) R7 #[(.ref ca), (.int 0), (.ref b), (.int 0), (.int 3)] h0 n0 (Q7 Z ca b kc kb u0 u1 u2 h0) := by
  refine OMet.of (own := "java/lang/StringUTF16") rfl (plainFor_of_name pn_0) (ef7 ca b) Z0 ?_
  intro p e s m below meth c T0 Y0 hnm
  refine Gl.iconst Y0 (v := (0 : Int32)) (by decide) dA_0 rfl ?_
  refine Gl.istore Y0 (L' := #[.val (.ref ca), .val (.int 0), .val (.ref b), .val (.int 0), .val (.int 3), .val (.int 0), .unset]) rfl dA_1 rfl ?_
  refine Gl.iload Y0 rfl dA_3 rfl ?_
  refine Gl.iload Y0 rfl dA_5 rfl ?_
  refine Gl.icmpge Y0 dA_7 (by decide) rfl rfl (fun c7 => ?_) (fun c7 => ?_)
  · exact absurd c7 (by decide)
  refine Gl.aloadN Y0 rfl rfl dA_10 rfl ?_
  refine Gl.iloadN Y0 rfl dA_11 rfl ?_
  refine Gl.caload Y0 Vc ⟨by decide, by decide⟩ (v := (.int u0)) rfl dA_12 rfl ?_
  refine Gl.istore Y0 (L' := #[.val (.ref ca), .val (.int 0), .val (.ref b), .val (.int 0), .val (.int 3), .val (.int 0), .val (.int u0)]) rfl dA_13 rfl ?_
  refine Gl.iload Y0 rfl dA_15 rfl ?_
  refine Gl.sipush Y0 (v := (255 : Int32)) (by decide) dA_17 rfl ?_
  refine Gl.icmple Y0 dA_20 (by decide) rfl rfl (fun c20 => ?_) (fun c20 => ?_)
  rotate_left
  · exact absurd c20 l0
  refine Gl.aloadN Y0 rfl rfl dA_26 rfl ?_
  refine Gl.iloadN Y0 rfl dA_27 rfl ?_
  refine Gl.iload Y0 rfl dA_28 rfl ?_
  refine Gl.i2b Y0 rfl dA_30 rfl ?_
  refine Gl.bastore Y0 Vb (v := (.int u0.toInt8.toInt32)) (congrArg Value.int (own_narB rfl)) ⟨by decide, by decide⟩ (ix := 0) rfl (nle rfl) gb dA_31 rfl (fun T31 h31 Y31 W31 A31 => ?_)
  have A31 : Arv Z h31 b kb .byte (3 : Int32) [(.int u0.toInt8.toInt32), (.int 0), (.int 0)] (.int 0) := A31
  have K31 : Keep h0 h31 [b] := (Keep.refl h0 [b]).wr W31 (Or.inl (List.mem_of_getElem? (i := 0) rfl))
  show Gl p e below _ (T31.setTop (mkF m 32 _ []))
  refine Gl.iinc Y31 rfl (r := (1 : Int32)) (by decide) (L' := #[.val (.ref ca), .val (.int 1), .val (.ref b), .val (.int 0), .val (.int 3), .val (.int 0), .val (.int u0)]) rfl dA_32 rfl ?_
  refine Gl.iinc Y31 rfl (r := (1 : Int32)) (by decide) (L' := #[.val (.ref ca), .val (.int 1), .val (.ref b), .val (.int 1), .val (.int 3), .val (.int 0), .val (.int u0)]) rfl dA_35 rfl ?_
  refine Gl.iinc Y31 rfl (r := (1 : Int32)) (by decide) (L' := #[.val (.ref ca), .val (.int 1), .val (.ref b), .val (.int 1), .val (.int 3), .val (.int 1), .val (.int u0)]) rfl dA_38 rfl ?_
  refine Gl.goto Y31 dA_41 (by decide) rfl ?_
  refine Gl.iload Y31 rfl dA_3 rfl ?_
  refine Gl.iload Y31 rfl dA_5 rfl ?_
  refine Gl.icmpge Y31 dA_7 (by decide) rfl rfl (fun c7_2 => ?_) (fun c7_2 => ?_)
  · exact absurd c7_2 (by decide)
  refine Gl.aloadN Y31 rfl rfl dA_10 rfl ?_
  refine Gl.iloadN Y31 rfl dA_11 rfl ?_
  have f1 := (Vc.other W31 nbc)
  refine Gl.caload Y31 f1 ⟨by decide, by decide⟩ (v := (.int u1)) rfl dA_12 rfl ?_
  refine Gl.istore Y31 (L' := #[.val (.ref ca), .val (.int 1), .val (.ref b), .val (.int 1), .val (.int 3), .val (.int 1), .val (.int u1)]) rfl dA_13 rfl ?_
  refine Gl.iload Y31 rfl dA_15 rfl ?_
  refine Gl.sipush Y31 (v := (255 : Int32)) (by decide) dA_17 rfl ?_
  refine Gl.icmple Y31 dA_20 (by decide) rfl rfl (fun c20_2 => ?_) (fun c20_2 => ?_)
  rotate_left
  · exact absurd c20_2 l1
  refine Gl.aloadN Y31 rfl rfl dA_26 rfl ?_
  refine Gl.iloadN Y31 rfl dA_27 rfl ?_
  refine Gl.iload Y31 rfl dA_28 rfl ?_
  refine Gl.i2b Y31 rfl dA_30 rfl ?_
  refine Gl.bastore Y31 A31 (v := (.int u1.toInt8.toInt32)) (congrArg Value.int (own_narB rfl)) ⟨by decide, by decide⟩ (ix := 1) rfl (nle rfl) gb dA_31 rfl (fun T31_2 h31_2 Y31_2 W31_2 A31_2 => ?_)
  have A31_2 : Arv Z h31_2 b kb .byte (3 : Int32) [(.int u0.toInt8.toInt32), (.int u1.toInt8.toInt32), (.int 0)] (.int 0) := A31_2
  have K31_2 : Keep h0 h31_2 [b] := K31.wr W31_2 (Or.inl (List.mem_of_getElem? (i := 0) rfl))
  show Gl p e below _ (T31_2.setTop (mkF m 32 _ []))
  refine Gl.iinc Y31_2 rfl (r := (2 : Int32)) (by decide) (L' := #[.val (.ref ca), .val (.int 2), .val (.ref b), .val (.int 1), .val (.int 3), .val (.int 1), .val (.int u1)]) rfl dA_32 rfl ?_
  refine Gl.iinc Y31_2 rfl (r := (2 : Int32)) (by decide) (L' := #[.val (.ref ca), .val (.int 2), .val (.ref b), .val (.int 2), .val (.int 3), .val (.int 1), .val (.int u1)]) rfl dA_35 rfl ?_
  refine Gl.iinc Y31_2 rfl (r := (2 : Int32)) (by decide) (L' := #[.val (.ref ca), .val (.int 2), .val (.ref b), .val (.int 2), .val (.int 3), .val (.int 2), .val (.int u1)]) rfl dA_38 rfl ?_
  refine Gl.goto Y31_2 dA_41 (by decide) rfl ?_
  refine Gl.iload Y31_2 rfl dA_3 rfl ?_
  refine Gl.iload Y31_2 rfl dA_5 rfl ?_
  refine Gl.icmpge Y31_2 dA_7 (by decide) rfl rfl (fun c7_3 => ?_) (fun c7_3 => ?_)
  · exact absurd c7_3 (by decide)
  refine Gl.aloadN Y31_2 rfl rfl dA_10 rfl ?_
  refine Gl.iloadN Y31_2 rfl dA_11 rfl ?_
  have f2 := (f1.other W31_2 nbc)
  refine Gl.caload Y31_2 f2 ⟨by decide, by decide⟩ (v := (.int u2)) rfl dA_12 rfl ?_
  refine Gl.istore Y31_2 (L' := #[.val (.ref ca), .val (.int 2), .val (.ref b), .val (.int 2), .val (.int 3), .val (.int 2), .val (.int u2)]) rfl dA_13 rfl ?_
  refine Gl.iload Y31_2 rfl dA_15 rfl ?_
  refine Gl.sipush Y31_2 (v := (255 : Int32)) (by decide) dA_17 rfl ?_
  refine Gl.icmple Y31_2 dA_20 (by decide) rfl rfl (fun c20_3 => ?_) (fun c20_3 => ?_)
  · exact absurd m2 c20_3
  refine Gl.iload Y31_2 rfl dA_23 rfl ?_
  exact Gl.retI Y31_2 (by decide) (by decide)  dA_25 ⟨rfl, K31_2, A31_2⟩
def R8 : Room := { frames := 0, cells := 0, slots := 0, locals := 0 }
def Q8 (Z : State) (ca b : Addr) (kc kb : ClassId) (u0 u1 u2 : Int32) (h0 : Heap) (v : Option Value) (h : Heap) : Prop := v = some (.int 3) ∧ Keep h0 h [b] ∧ Arv Z h b kb .byte (3 : Int32) [(.int (bL u0)), (.int (bL u1)), (.int (bL u2))] (.int 0)
theorem ef8 (ca b : Addr) (m : MethodId) : entryFrame m #[(.ref ca), (.int 0), (.ref b), (.int 0), (.int 3)] 7 = mkF m 0 #[.val (.ref ca), .val (.int 0), .val (.ref b), .val (.int 0), .val (.int 3), .unset, .unset] [] := by first | (simp [entryFrame, mkF, argsToLocals, Value.category]; done) | rfl
theorem rm8 (hw : HW a0 Z) (ca b : Addr) (kc kb : ClassId) (u0 u1 u2 : Int32) (h0 : Heap) (n0 : Nat) (Z0 : n0 ≤ h0.size) (Vc : Arv Z h0 ca kc .char (3 : Int32) [(.int u0), (.int u1), (.int u2)] (.int 0)) (Vb : Arv Z h0 b kb .byte (3 : Int32) [(.int 0), (.int 0), (.int 0)] (.int 0)) (gb : n0 ≤ b) (nbc : own_ne ca b) (l0 : ¬ 255 < u0) (l1 : ¬ 255 < u1) (l2 : ¬ 255 < u2) : OMet l Z [] (⟨"java/lang/StringUTF16", "compress", "([CI[BII)I"⟩ : MethodName) jdk_52_method_21_code 7 (some .int) R8 #[(.ref ca), (.int 0), (.ref b), (.int 0), (.int 3)] h0 n0 (Q8 Z ca b kc kb u0 u1 u2 h0) := by
  refine OMet.of (own := "java/lang/StringUTF16") rfl (plainFor_of_name pn_0) (ef8 ca b) Z0 ?_
  intro p e s m below meth c T0 Y0 hnm
  refine Gl.iconst Y0 (v := (0 : Int32)) (by decide) dA_0 rfl ?_
  refine Gl.istore Y0 (L' := #[.val (.ref ca), .val (.int 0), .val (.ref b), .val (.int 0), .val (.int 3), .val (.int 0), .unset]) rfl dA_1 rfl ?_
  refine Gl.iload Y0 rfl dA_3 rfl ?_
  refine Gl.iload Y0 rfl dA_5 rfl ?_
  refine Gl.icmpge Y0 dA_7 (by decide) rfl rfl (fun c7 => ?_) (fun c7 => ?_)
  · exact absurd c7 (by decide)
  refine Gl.aloadN Y0 rfl rfl dA_10 rfl ?_
  refine Gl.iloadN Y0 rfl dA_11 rfl ?_
  refine Gl.caload Y0 Vc ⟨by decide, by decide⟩ (v := (.int u0)) rfl dA_12 rfl ?_
  refine Gl.istore Y0 (L' := #[.val (.ref ca), .val (.int 0), .val (.ref b), .val (.int 0), .val (.int 3), .val (.int 0), .val (.int u0)]) rfl dA_13 rfl ?_
  refine Gl.iload Y0 rfl dA_15 rfl ?_
  refine Gl.sipush Y0 (v := (255 : Int32)) (by decide) dA_17 rfl ?_
  refine Gl.icmple Y0 dA_20 (by decide) rfl rfl (fun c20 => ?_) (fun c20 => ?_)
  rotate_left
  · exact absurd c20 l0
  refine Gl.aloadN Y0 rfl rfl dA_26 rfl ?_
  refine Gl.iloadN Y0 rfl dA_27 rfl ?_
  refine Gl.iload Y0 rfl dA_28 rfl ?_
  refine Gl.i2b Y0 rfl dA_30 rfl ?_
  refine Gl.bastore Y0 Vb (v := (.int u0.toInt8.toInt32)) (congrArg Value.int (own_narB rfl)) ⟨by decide, by decide⟩ (ix := 0) rfl (nle rfl) gb dA_31 rfl (fun T31 h31 Y31 W31 A31 => ?_)
  have A31 : Arv Z h31 b kb .byte (3 : Int32) [(.int u0.toInt8.toInt32), (.int 0), (.int 0)] (.int 0) := A31
  have K31 : Keep h0 h31 [b] := (Keep.refl h0 [b]).wr W31 (Or.inl (List.mem_of_getElem? (i := 0) rfl))
  show Gl p e below _ (T31.setTop (mkF m 32 _ []))
  refine Gl.iinc Y31 rfl (r := (1 : Int32)) (by decide) (L' := #[.val (.ref ca), .val (.int 1), .val (.ref b), .val (.int 0), .val (.int 3), .val (.int 0), .val (.int u0)]) rfl dA_32 rfl ?_
  refine Gl.iinc Y31 rfl (r := (1 : Int32)) (by decide) (L' := #[.val (.ref ca), .val (.int 1), .val (.ref b), .val (.int 1), .val (.int 3), .val (.int 0), .val (.int u0)]) rfl dA_35 rfl ?_
  refine Gl.iinc Y31 rfl (r := (1 : Int32)) (by decide) (L' := #[.val (.ref ca), .val (.int 1), .val (.ref b), .val (.int 1), .val (.int 3), .val (.int 1), .val (.int u0)]) rfl dA_38 rfl ?_
  refine Gl.goto Y31 dA_41 (by decide) rfl ?_
  refine Gl.iload Y31 rfl dA_3 rfl ?_
  refine Gl.iload Y31 rfl dA_5 rfl ?_
  refine Gl.icmpge Y31 dA_7 (by decide) rfl rfl (fun c7_2 => ?_) (fun c7_2 => ?_)
  · exact absurd c7_2 (by decide)
  refine Gl.aloadN Y31 rfl rfl dA_10 rfl ?_
  refine Gl.iloadN Y31 rfl dA_11 rfl ?_
  have f1 := (Vc.other W31 nbc)
  refine Gl.caload Y31 f1 ⟨by decide, by decide⟩ (v := (.int u1)) rfl dA_12 rfl ?_
  refine Gl.istore Y31 (L' := #[.val (.ref ca), .val (.int 1), .val (.ref b), .val (.int 1), .val (.int 3), .val (.int 1), .val (.int u1)]) rfl dA_13 rfl ?_
  refine Gl.iload Y31 rfl dA_15 rfl ?_
  refine Gl.sipush Y31 (v := (255 : Int32)) (by decide) dA_17 rfl ?_
  refine Gl.icmple Y31 dA_20 (by decide) rfl rfl (fun c20_2 => ?_) (fun c20_2 => ?_)
  rotate_left
  · exact absurd c20_2 l1
  refine Gl.aloadN Y31 rfl rfl dA_26 rfl ?_
  refine Gl.iloadN Y31 rfl dA_27 rfl ?_
  refine Gl.iload Y31 rfl dA_28 rfl ?_
  refine Gl.i2b Y31 rfl dA_30 rfl ?_
  refine Gl.bastore Y31 A31 (v := (.int u1.toInt8.toInt32)) (congrArg Value.int (own_narB rfl)) ⟨by decide, by decide⟩ (ix := 1) rfl (nle rfl) gb dA_31 rfl (fun T31_2 h31_2 Y31_2 W31_2 A31_2 => ?_)
  have A31_2 : Arv Z h31_2 b kb .byte (3 : Int32) [(.int u0.toInt8.toInt32), (.int u1.toInt8.toInt32), (.int 0)] (.int 0) := A31_2
  have K31_2 : Keep h0 h31_2 [b] := K31.wr W31_2 (Or.inl (List.mem_of_getElem? (i := 0) rfl))
  show Gl p e below _ (T31_2.setTop (mkF m 32 _ []))
  refine Gl.iinc Y31_2 rfl (r := (2 : Int32)) (by decide) (L' := #[.val (.ref ca), .val (.int 2), .val (.ref b), .val (.int 1), .val (.int 3), .val (.int 1), .val (.int u1)]) rfl dA_32 rfl ?_
  refine Gl.iinc Y31_2 rfl (r := (2 : Int32)) (by decide) (L' := #[.val (.ref ca), .val (.int 2), .val (.ref b), .val (.int 2), .val (.int 3), .val (.int 1), .val (.int u1)]) rfl dA_35 rfl ?_
  refine Gl.iinc Y31_2 rfl (r := (2 : Int32)) (by decide) (L' := #[.val (.ref ca), .val (.int 2), .val (.ref b), .val (.int 2), .val (.int 3), .val (.int 2), .val (.int u1)]) rfl dA_38 rfl ?_
  refine Gl.goto Y31_2 dA_41 (by decide) rfl ?_
  refine Gl.iload Y31_2 rfl dA_3 rfl ?_
  refine Gl.iload Y31_2 rfl dA_5 rfl ?_
  refine Gl.icmpge Y31_2 dA_7 (by decide) rfl rfl (fun c7_3 => ?_) (fun c7_3 => ?_)
  · exact absurd c7_3 (by decide)
  refine Gl.aloadN Y31_2 rfl rfl dA_10 rfl ?_
  refine Gl.iloadN Y31_2 rfl dA_11 rfl ?_
  have f2 := (f1.other W31_2 nbc)
  refine Gl.caload Y31_2 f2 ⟨by decide, by decide⟩ (v := (.int u2)) rfl dA_12 rfl ?_
  refine Gl.istore Y31_2 (L' := #[.val (.ref ca), .val (.int 2), .val (.ref b), .val (.int 2), .val (.int 3), .val (.int 2), .val (.int u2)]) rfl dA_13 rfl ?_
  refine Gl.iload Y31_2 rfl dA_15 rfl ?_
  refine Gl.sipush Y31_2 (v := (255 : Int32)) (by decide) dA_17 rfl ?_
  refine Gl.icmple Y31_2 dA_20 (by decide) rfl rfl (fun c20_3 => ?_) (fun c20_3 => ?_)
  rotate_left
  · exact absurd c20_3 l2
  refine Gl.aloadN Y31_2 rfl rfl dA_26 rfl ?_
  refine Gl.iloadN Y31_2 rfl dA_27 rfl ?_
  refine Gl.iload Y31_2 rfl dA_28 rfl ?_
  refine Gl.i2b Y31_2 rfl dA_30 rfl ?_
  refine Gl.bastore Y31_2 A31_2 (v := (.int u2.toInt8.toInt32)) (congrArg Value.int (own_narB rfl)) ⟨by decide, by decide⟩ (ix := 2) rfl (nle rfl) gb dA_31 rfl (fun T31_3 h31_3 Y31_3 W31_3 A31_3 => ?_)
  have A31_3 : Arv Z h31_3 b kb .byte (3 : Int32) [(.int u0.toInt8.toInt32), (.int u1.toInt8.toInt32), (.int u2.toInt8.toInt32)] (.int 0) := A31_3
  have K31_3 : Keep h0 h31_3 [b] := K31_2.wr W31_3 (Or.inl (List.mem_of_getElem? (i := 0) rfl))
  show Gl p e below _ (T31_3.setTop (mkF m 32 _ []))
  refine Gl.iinc Y31_3 rfl (r := (3 : Int32)) (by decide) (L' := #[.val (.ref ca), .val (.int 3), .val (.ref b), .val (.int 2), .val (.int 3), .val (.int 2), .val (.int u2)]) rfl dA_32 rfl ?_
  refine Gl.iinc Y31_3 rfl (r := (3 : Int32)) (by decide) (L' := #[.val (.ref ca), .val (.int 3), .val (.ref b), .val (.int 3), .val (.int 3), .val (.int 2), .val (.int u2)]) rfl dA_35 rfl ?_
  refine Gl.iinc Y31_3 rfl (r := (3 : Int32)) (by decide) (L' := #[.val (.ref ca), .val (.int 3), .val (.ref b), .val (.int 3), .val (.int 3), .val (.int 3), .val (.int u2)]) rfl dA_38 rfl ?_
  refine Gl.goto Y31_3 dA_41 (by decide) rfl ?_
  refine Gl.iload Y31_3 rfl dA_3 rfl ?_
  refine Gl.iload Y31_3 rfl dA_5 rfl ?_
  refine Gl.icmpge Y31_3 dA_7 (by decide) rfl rfl (fun c7_4 => ?_) (fun c7_4 => ?_)
  rotate_left
  · exact absurd c7_4 (by decide)
  refine Gl.iload Y31_3 rfl dA_44 rfl ?_
  exact Gl.retI Y31_3 (by decide) (by decide)  dA_46 ⟨rfl, K31_3, A31_3⟩
def R9 : Room := { frames := 0, cells := 0, slots := 0, locals := 0 }
def Q9 (Z : State) (ca b : Addr) (kc kb : ClassId) (u0 u1 u2 u3 : Int32) (h0 : Heap) (v : Option Value) (h : Heap) : Prop := v = some (.int 0) ∧ Keep h0 h [b] ∧ Arv Z h b kb .byte (4 : Int32) [(.int 0), (.int 0), (.int 0), (.int 0)] (.int 0)
theorem ef9 (ca b : Addr) (m : MethodId) : entryFrame m #[(.ref ca), (.int 0), (.ref b), (.int 0), (.int 4)] 7 = mkF m 0 #[.val (.ref ca), .val (.int 0), .val (.ref b), .val (.int 0), .val (.int 4), .unset, .unset] [] := by first | (simp [entryFrame, mkF, argsToLocals, Value.category]; done) | rfl
theorem rm9 (hw : HW a0 Z) (ca b : Addr) (kc kb : ClassId) (u0 u1 u2 u3 : Int32) (h0 : Heap) (n0 : Nat) (Z0 : n0 ≤ h0.size) (Vc : Arv Z h0 ca kc .char (4 : Int32) [(.int u0), (.int u1), (.int u2), (.int u3)] (.int 0)) (Vb : Arv Z h0 b kb .byte (4 : Int32) [(.int 0), (.int 0), (.int 0), (.int 0)] (.int 0)) (gb : n0 ≤ b) (nbc : own_ne ca b) (m0 : 255 < u0) : OMet l Z [] (⟨"java/lang/StringUTF16", "compress", "([CI[BII)I"⟩ : MethodName) jdk_52_method_21_code 7 (some .int) R9 #[(.ref ca), (.int 0), (.ref b), (.int 0), (.int 4)] h0 n0 (Q9 Z ca b kc kb u0 u1 u2 u3 h0) := by
  refine OMet.of (own := "java/lang/StringUTF16") rfl (plainFor_of_name pn_0) (ef9 ca b) Z0 ?_
  intro p e s m below meth c T0 Y0 hnm
  refine Gl.iconst Y0 (v := (0 : Int32)) (by decide) dA_0 rfl ?_
  refine Gl.istore Y0 (L' := #[.val (.ref ca), .val (.int 0), .val (.ref b), .val (.int 0), .val (.int 4), .val (.int 0), .unset]) rfl dA_1 rfl ?_
  refine Gl.iload Y0 rfl dA_3 rfl ?_
  refine Gl.iload Y0 rfl dA_5 rfl ?_
  refine Gl.icmpge Y0 dA_7 (by decide) rfl rfl (fun c7 => ?_) (fun c7 => ?_)
  · exact absurd c7 (by decide)
  refine Gl.aloadN Y0 rfl rfl dA_10 rfl ?_
  refine Gl.iloadN Y0 rfl dA_11 rfl ?_
  refine Gl.caload Y0 Vc ⟨by decide, by decide⟩ (v := (.int u0)) rfl dA_12 rfl ?_
  refine Gl.istore Y0 (L' := #[.val (.ref ca), .val (.int 0), .val (.ref b), .val (.int 0), .val (.int 4), .val (.int 0), .val (.int u0)]) rfl dA_13 rfl ?_
  refine Gl.iload Y0 rfl dA_15 rfl ?_
  refine Gl.sipush Y0 (v := (255 : Int32)) (by decide) dA_17 rfl ?_
  refine Gl.icmple Y0 dA_20 (by decide) rfl rfl (fun c20 => ?_) (fun c20 => ?_)
  · exact absurd m0 c20
  refine Gl.iload Y0 rfl dA_23 rfl ?_
  exact Gl.retI Y0 (by decide) (by decide)  dA_25 ⟨rfl, (Keep.refl h0 [b]), Vb⟩
def R10 : Room := { frames := 0, cells := 0, slots := 0, locals := 0 }
def Q10 (Z : State) (ca b : Addr) (kc kb : ClassId) (u0 u1 u2 u3 : Int32) (h0 : Heap) (v : Option Value) (h : Heap) : Prop := v = some (.int 1) ∧ Keep h0 h [b] ∧ Arv Z h b kb .byte (4 : Int32) [(.int (bL u0)), (.int 0), (.int 0), (.int 0)] (.int 0)
theorem ef10 (ca b : Addr) (m : MethodId) : entryFrame m #[(.ref ca), (.int 0), (.ref b), (.int 0), (.int 4)] 7 = mkF m 0 #[.val (.ref ca), .val (.int 0), .val (.ref b), .val (.int 0), .val (.int 4), .unset, .unset] [] := by first | (simp [entryFrame, mkF, argsToLocals, Value.category]; done) | rfl
theorem rm10 (hw : HW a0 Z) (ca b : Addr) (kc kb : ClassId) (u0 u1 u2 u3 : Int32) (h0 : Heap) (n0 : Nat) (Z0 : n0 ≤ h0.size) (Vc : Arv Z h0 ca kc .char (4 : Int32) [(.int u0), (.int u1), (.int u2), (.int u3)] (.int 0)) (Vb : Arv Z h0 b kb .byte (4 : Int32) [(.int 0), (.int 0), (.int 0), (.int 0)] (.int 0)) (gb : n0 ≤ b) (nbc : own_ne ca b) (l0 : ¬ 255 < u0) (m1 : 255 < u1) : OMet l Z [] (⟨"java/lang/StringUTF16", "compress", "([CI[BII)I"⟩ : MethodName) jdk_52_method_21_code 7 (some .int) R10 #[(.ref ca), (.int 0), (.ref b), (.int 0), (.int 4)] h0 n0 (Q10 Z ca b kc kb u0 u1 u2 u3 h0) := by
  refine OMet.of (own := "java/lang/StringUTF16") rfl (plainFor_of_name pn_0) (ef10 ca b) Z0 ?_
  intro p e s m below meth c T0 Y0 hnm
  refine Gl.iconst Y0 (v := (0 : Int32)) (by decide) dA_0 rfl ?_
  refine Gl.istore Y0 (L' := #[.val (.ref ca), .val (.int 0), .val (.ref b), .val (.int 0), .val (.int 4), .val (.int 0), .unset]) rfl dA_1 rfl ?_
  refine Gl.iload Y0 rfl dA_3 rfl ?_
  refine Gl.iload Y0 rfl dA_5 rfl ?_
  refine Gl.icmpge Y0 dA_7 (by decide) rfl rfl (fun c7 => ?_) (fun c7 => ?_)
  · exact absurd c7 (by decide)
  refine Gl.aloadN Y0 rfl rfl dA_10 rfl ?_
  refine Gl.iloadN Y0 rfl dA_11 rfl ?_
  refine Gl.caload Y0 Vc ⟨by decide, by decide⟩ (v := (.int u0)) rfl dA_12 rfl ?_
  refine Gl.istore Y0 (L' := #[.val (.ref ca), .val (.int 0), .val (.ref b), .val (.int 0), .val (.int 4), .val (.int 0), .val (.int u0)]) rfl dA_13 rfl ?_
  refine Gl.iload Y0 rfl dA_15 rfl ?_
  refine Gl.sipush Y0 (v := (255 : Int32)) (by decide) dA_17 rfl ?_
  refine Gl.icmple Y0 dA_20 (by decide) rfl rfl (fun c20 => ?_) (fun c20 => ?_)
  rotate_left
  · exact absurd c20 l0
  refine Gl.aloadN Y0 rfl rfl dA_26 rfl ?_
  refine Gl.iloadN Y0 rfl dA_27 rfl ?_
  refine Gl.iload Y0 rfl dA_28 rfl ?_
  refine Gl.i2b Y0 rfl dA_30 rfl ?_
  refine Gl.bastore Y0 Vb (v := (.int u0.toInt8.toInt32)) (congrArg Value.int (own_narB rfl)) ⟨by decide, by decide⟩ (ix := 0) rfl (nle rfl) gb dA_31 rfl (fun T31 h31 Y31 W31 A31 => ?_)
  have A31 : Arv Z h31 b kb .byte (4 : Int32) [(.int u0.toInt8.toInt32), (.int 0), (.int 0), (.int 0)] (.int 0) := A31
  have K31 : Keep h0 h31 [b] := (Keep.refl h0 [b]).wr W31 (Or.inl (List.mem_of_getElem? (i := 0) rfl))
  show Gl p e below _ (T31.setTop (mkF m 32 _ []))
  refine Gl.iinc Y31 rfl (r := (1 : Int32)) (by decide) (L' := #[.val (.ref ca), .val (.int 1), .val (.ref b), .val (.int 0), .val (.int 4), .val (.int 0), .val (.int u0)]) rfl dA_32 rfl ?_
  refine Gl.iinc Y31 rfl (r := (1 : Int32)) (by decide) (L' := #[.val (.ref ca), .val (.int 1), .val (.ref b), .val (.int 1), .val (.int 4), .val (.int 0), .val (.int u0)]) rfl dA_35 rfl ?_
  refine Gl.iinc Y31 rfl (r := (1 : Int32)) (by decide) (L' := #[.val (.ref ca), .val (.int 1), .val (.ref b), .val (.int 1), .val (.int 4), .val (.int 1), .val (.int u0)]) rfl dA_38 rfl ?_
  refine Gl.goto Y31 dA_41 (by decide) rfl ?_
  refine Gl.iload Y31 rfl dA_3 rfl ?_
  refine Gl.iload Y31 rfl dA_5 rfl ?_
  refine Gl.icmpge Y31 dA_7 (by decide) rfl rfl (fun c7_2 => ?_) (fun c7_2 => ?_)
  · exact absurd c7_2 (by decide)
  refine Gl.aloadN Y31 rfl rfl dA_10 rfl ?_
  refine Gl.iloadN Y31 rfl dA_11 rfl ?_
  have f1 := (Vc.other W31 nbc)
  refine Gl.caload Y31 f1 ⟨by decide, by decide⟩ (v := (.int u1)) rfl dA_12 rfl ?_
  refine Gl.istore Y31 (L' := #[.val (.ref ca), .val (.int 1), .val (.ref b), .val (.int 1), .val (.int 4), .val (.int 1), .val (.int u1)]) rfl dA_13 rfl ?_
  refine Gl.iload Y31 rfl dA_15 rfl ?_
  refine Gl.sipush Y31 (v := (255 : Int32)) (by decide) dA_17 rfl ?_
  refine Gl.icmple Y31 dA_20 (by decide) rfl rfl (fun c20_2 => ?_) (fun c20_2 => ?_)
  · exact absurd m1 c20_2
  refine Gl.iload Y31 rfl dA_23 rfl ?_
  exact Gl.retI Y31 (by decide) (by decide)  dA_25 ⟨rfl, K31, A31⟩
def R11 : Room := { frames := 0, cells := 0, slots := 0, locals := 0 }
def Q11 (Z : State) (ca b : Addr) (kc kb : ClassId) (u0 u1 u2 u3 : Int32) (h0 : Heap) (v : Option Value) (h : Heap) : Prop := v = some (.int 2) ∧ Keep h0 h [b] ∧ Arv Z h b kb .byte (4 : Int32) [(.int (bL u0)), (.int (bL u1)), (.int 0), (.int 0)] (.int 0)
theorem ef11 (ca b : Addr) (m : MethodId) : entryFrame m #[(.ref ca), (.int 0), (.ref b), (.int 0), (.int 4)] 7 = mkF m 0 #[.val (.ref ca), .val (.int 0), .val (.ref b), .val (.int 0), .val (.int 4), .unset, .unset] [] := by first | (simp [entryFrame, mkF, argsToLocals, Value.category]; done) | rfl
theorem rm11 (hw : HW a0 Z) (ca b : Addr) (kc kb : ClassId) (u0 u1 u2 u3 : Int32) (h0 : Heap) (n0 : Nat) (Z0 : n0 ≤ h0.size) (Vc : Arv Z h0 ca kc .char (4 : Int32) [(.int u0), (.int u1), (.int u2), (.int u3)] (.int 0)) (Vb : Arv Z h0 b kb .byte (4 : Int32) [(.int 0), (.int 0), (.int 0), (.int 0)] (.int 0)) (gb : n0 ≤ b) (nbc : own_ne ca b) (l0 : ¬ 255 < u0) (l1 : ¬ 255 < u1) (m2 : 255 < u2) : OMet l Z [] (⟨"java/lang/StringUTF16", "compress", "([CI[BII)I"⟩ : MethodName) jdk_52_method_21_code 7 (some .int) R11 #[(.ref ca), (.int 0), (.ref b), (.int 0), (.int 4)] h0 n0 (Q11 Z ca b kc kb u0 u1 u2 u3 h0) := by
  refine OMet.of (own := "java/lang/StringUTF16") rfl (plainFor_of_name pn_0) (ef11 ca b) Z0 ?_
  intro p e s m below meth c T0 Y0 hnm
  refine Gl.iconst Y0 (v := (0 : Int32)) (by decide) dA_0 rfl ?_
  refine Gl.istore Y0 (L' := #[.val (.ref ca), .val (.int 0), .val (.ref b), .val (.int 0), .val (.int 4), .val (.int 0), .unset]) rfl dA_1 rfl ?_
  refine Gl.iload Y0 rfl dA_3 rfl ?_
  refine Gl.iload Y0 rfl dA_5 rfl ?_
  refine Gl.icmpge Y0 dA_7 (by decide) rfl rfl (fun c7 => ?_) (fun c7 => ?_)
  · exact absurd c7 (by decide)
  refine Gl.aloadN Y0 rfl rfl dA_10 rfl ?_
  refine Gl.iloadN Y0 rfl dA_11 rfl ?_
  refine Gl.caload Y0 Vc ⟨by decide, by decide⟩ (v := (.int u0)) rfl dA_12 rfl ?_
  refine Gl.istore Y0 (L' := #[.val (.ref ca), .val (.int 0), .val (.ref b), .val (.int 0), .val (.int 4), .val (.int 0), .val (.int u0)]) rfl dA_13 rfl ?_
  refine Gl.iload Y0 rfl dA_15 rfl ?_
  refine Gl.sipush Y0 (v := (255 : Int32)) (by decide) dA_17 rfl ?_
  refine Gl.icmple Y0 dA_20 (by decide) rfl rfl (fun c20 => ?_) (fun c20 => ?_)
  rotate_left
  · exact absurd c20 l0
  refine Gl.aloadN Y0 rfl rfl dA_26 rfl ?_
  refine Gl.iloadN Y0 rfl dA_27 rfl ?_
  refine Gl.iload Y0 rfl dA_28 rfl ?_
  refine Gl.i2b Y0 rfl dA_30 rfl ?_
  refine Gl.bastore Y0 Vb (v := (.int u0.toInt8.toInt32)) (congrArg Value.int (own_narB rfl)) ⟨by decide, by decide⟩ (ix := 0) rfl (nle rfl) gb dA_31 rfl (fun T31 h31 Y31 W31 A31 => ?_)
  have A31 : Arv Z h31 b kb .byte (4 : Int32) [(.int u0.toInt8.toInt32), (.int 0), (.int 0), (.int 0)] (.int 0) := A31
  have K31 : Keep h0 h31 [b] := (Keep.refl h0 [b]).wr W31 (Or.inl (List.mem_of_getElem? (i := 0) rfl))
  show Gl p e below _ (T31.setTop (mkF m 32 _ []))
  refine Gl.iinc Y31 rfl (r := (1 : Int32)) (by decide) (L' := #[.val (.ref ca), .val (.int 1), .val (.ref b), .val (.int 0), .val (.int 4), .val (.int 0), .val (.int u0)]) rfl dA_32 rfl ?_
  refine Gl.iinc Y31 rfl (r := (1 : Int32)) (by decide) (L' := #[.val (.ref ca), .val (.int 1), .val (.ref b), .val (.int 1), .val (.int 4), .val (.int 0), .val (.int u0)]) rfl dA_35 rfl ?_
  refine Gl.iinc Y31 rfl (r := (1 : Int32)) (by decide) (L' := #[.val (.ref ca), .val (.int 1), .val (.ref b), .val (.int 1), .val (.int 4), .val (.int 1), .val (.int u0)]) rfl dA_38 rfl ?_
  refine Gl.goto Y31 dA_41 (by decide) rfl ?_
  refine Gl.iload Y31 rfl dA_3 rfl ?_
  refine Gl.iload Y31 rfl dA_5 rfl ?_
  refine Gl.icmpge Y31 dA_7 (by decide) rfl rfl (fun c7_2 => ?_) (fun c7_2 => ?_)
  · exact absurd c7_2 (by decide)
  refine Gl.aloadN Y31 rfl rfl dA_10 rfl ?_
  refine Gl.iloadN Y31 rfl dA_11 rfl ?_
  have f1 := (Vc.other W31 nbc)
  refine Gl.caload Y31 f1 ⟨by decide, by decide⟩ (v := (.int u1)) rfl dA_12 rfl ?_
  refine Gl.istore Y31 (L' := #[.val (.ref ca), .val (.int 1), .val (.ref b), .val (.int 1), .val (.int 4), .val (.int 1), .val (.int u1)]) rfl dA_13 rfl ?_
  refine Gl.iload Y31 rfl dA_15 rfl ?_
  refine Gl.sipush Y31 (v := (255 : Int32)) (by decide) dA_17 rfl ?_
  refine Gl.icmple Y31 dA_20 (by decide) rfl rfl (fun c20_2 => ?_) (fun c20_2 => ?_)
  rotate_left
  · exact absurd c20_2 l1
  refine Gl.aloadN Y31 rfl rfl dA_26 rfl ?_
  refine Gl.iloadN Y31 rfl dA_27 rfl ?_
  refine Gl.iload Y31 rfl dA_28 rfl ?_
  refine Gl.i2b Y31 rfl dA_30 rfl ?_
  refine Gl.bastore Y31 A31 (v := (.int u1.toInt8.toInt32)) (congrArg Value.int (own_narB rfl)) ⟨by decide, by decide⟩ (ix := 1) rfl (nle rfl) gb dA_31 rfl (fun T31_2 h31_2 Y31_2 W31_2 A31_2 => ?_)
  have A31_2 : Arv Z h31_2 b kb .byte (4 : Int32) [(.int u0.toInt8.toInt32), (.int u1.toInt8.toInt32), (.int 0), (.int 0)] (.int 0) := A31_2
  have K31_2 : Keep h0 h31_2 [b] := K31.wr W31_2 (Or.inl (List.mem_of_getElem? (i := 0) rfl))
  show Gl p e below _ (T31_2.setTop (mkF m 32 _ []))
  refine Gl.iinc Y31_2 rfl (r := (2 : Int32)) (by decide) (L' := #[.val (.ref ca), .val (.int 2), .val (.ref b), .val (.int 1), .val (.int 4), .val (.int 1), .val (.int u1)]) rfl dA_32 rfl ?_
  refine Gl.iinc Y31_2 rfl (r := (2 : Int32)) (by decide) (L' := #[.val (.ref ca), .val (.int 2), .val (.ref b), .val (.int 2), .val (.int 4), .val (.int 1), .val (.int u1)]) rfl dA_35 rfl ?_
  refine Gl.iinc Y31_2 rfl (r := (2 : Int32)) (by decide) (L' := #[.val (.ref ca), .val (.int 2), .val (.ref b), .val (.int 2), .val (.int 4), .val (.int 2), .val (.int u1)]) rfl dA_38 rfl ?_
  refine Gl.goto Y31_2 dA_41 (by decide) rfl ?_
  refine Gl.iload Y31_2 rfl dA_3 rfl ?_
  refine Gl.iload Y31_2 rfl dA_5 rfl ?_
  refine Gl.icmpge Y31_2 dA_7 (by decide) rfl rfl (fun c7_3 => ?_) (fun c7_3 => ?_)
  · exact absurd c7_3 (by decide)
  refine Gl.aloadN Y31_2 rfl rfl dA_10 rfl ?_
  refine Gl.iloadN Y31_2 rfl dA_11 rfl ?_
  have f2 := (f1.other W31_2 nbc)
  refine Gl.caload Y31_2 f2 ⟨by decide, by decide⟩ (v := (.int u2)) rfl dA_12 rfl ?_
  refine Gl.istore Y31_2 (L' := #[.val (.ref ca), .val (.int 2), .val (.ref b), .val (.int 2), .val (.int 4), .val (.int 2), .val (.int u2)]) rfl dA_13 rfl ?_
  refine Gl.iload Y31_2 rfl dA_15 rfl ?_
  refine Gl.sipush Y31_2 (v := (255 : Int32)) (by decide) dA_17 rfl ?_
  refine Gl.icmple Y31_2 dA_20 (by decide) rfl rfl (fun c20_3 => ?_) (fun c20_3 => ?_)
  · exact absurd m2 c20_3
  refine Gl.iload Y31_2 rfl dA_23 rfl ?_
  exact Gl.retI Y31_2 (by decide) (by decide)  dA_25 ⟨rfl, K31_2, A31_2⟩
def R12 : Room := { frames := 0, cells := 0, slots := 0, locals := 0 }
def Q12 (Z : State) (ca b : Addr) (kc kb : ClassId) (u0 u1 u2 u3 : Int32) (h0 : Heap) (v : Option Value) (h : Heap) : Prop := v = some (.int 3) ∧ Keep h0 h [b] ∧ Arv Z h b kb .byte (4 : Int32) [(.int (bL u0)), (.int (bL u1)), (.int (bL u2)), (.int 0)] (.int 0)
theorem ef12 (ca b : Addr) (m : MethodId) : entryFrame m #[(.ref ca), (.int 0), (.ref b), (.int 0), (.int 4)] 7 = mkF m 0 #[.val (.ref ca), .val (.int 0), .val (.ref b), .val (.int 0), .val (.int 4), .unset, .unset] [] := by first | (simp [entryFrame, mkF, argsToLocals, Value.category]; done) | rfl
theorem rm12 (hw : HW a0 Z) (ca b : Addr) (kc kb : ClassId) (u0 u1 u2 u3 : Int32) (h0 : Heap) (n0 : Nat) (Z0 : n0 ≤ h0.size) (Vc : Arv Z h0 ca kc .char (4 : Int32) [(.int u0), (.int u1), (.int u2), (.int u3)] (.int 0)) (Vb : Arv Z h0 b kb .byte (4 : Int32) [(.int 0), (.int 0), (.int 0), (.int 0)] (.int 0)) (gb : n0 ≤ b) (nbc : own_ne ca b) (l0 : ¬ 255 < u0) (l1 : ¬ 255 < u1) (l2 : ¬ 255 < u2) (m3 : 255 < u3) : OMet l Z [] (⟨"java/lang/StringUTF16", "compress", "([CI[BII)I"⟩ : MethodName) jdk_52_method_21_code 7 (some .int) R12 #[(.ref ca), (.int 0), (.ref b), (.int 0), (.int 4)] h0 n0 (Q12 Z ca b kc kb u0 u1 u2 u3 h0) := by
  refine OMet.of (own := "java/lang/StringUTF16") rfl (plainFor_of_name pn_0) (ef12 ca b) Z0 ?_
  intro p e s m below meth c T0 Y0 hnm
  refine Gl.iconst Y0 (v := (0 : Int32)) (by decide) dA_0 rfl ?_
  refine Gl.istore Y0 (L' := #[.val (.ref ca), .val (.int 0), .val (.ref b), .val (.int 0), .val (.int 4), .val (.int 0), .unset]) rfl dA_1 rfl ?_
  refine Gl.iload Y0 rfl dA_3 rfl ?_
  refine Gl.iload Y0 rfl dA_5 rfl ?_
  refine Gl.icmpge Y0 dA_7 (by decide) rfl rfl (fun c7 => ?_) (fun c7 => ?_)
  · exact absurd c7 (by decide)
  refine Gl.aloadN Y0 rfl rfl dA_10 rfl ?_
  refine Gl.iloadN Y0 rfl dA_11 rfl ?_
  refine Gl.caload Y0 Vc ⟨by decide, by decide⟩ (v := (.int u0)) rfl dA_12 rfl ?_
  refine Gl.istore Y0 (L' := #[.val (.ref ca), .val (.int 0), .val (.ref b), .val (.int 0), .val (.int 4), .val (.int 0), .val (.int u0)]) rfl dA_13 rfl ?_
  refine Gl.iload Y0 rfl dA_15 rfl ?_
  refine Gl.sipush Y0 (v := (255 : Int32)) (by decide) dA_17 rfl ?_
  refine Gl.icmple Y0 dA_20 (by decide) rfl rfl (fun c20 => ?_) (fun c20 => ?_)
  rotate_left
  · exact absurd c20 l0
  refine Gl.aloadN Y0 rfl rfl dA_26 rfl ?_
  refine Gl.iloadN Y0 rfl dA_27 rfl ?_
  refine Gl.iload Y0 rfl dA_28 rfl ?_
  refine Gl.i2b Y0 rfl dA_30 rfl ?_
  refine Gl.bastore Y0 Vb (v := (.int u0.toInt8.toInt32)) (congrArg Value.int (own_narB rfl)) ⟨by decide, by decide⟩ (ix := 0) rfl (nle rfl) gb dA_31 rfl (fun T31 h31 Y31 W31 A31 => ?_)
  have A31 : Arv Z h31 b kb .byte (4 : Int32) [(.int u0.toInt8.toInt32), (.int 0), (.int 0), (.int 0)] (.int 0) := A31
  have K31 : Keep h0 h31 [b] := (Keep.refl h0 [b]).wr W31 (Or.inl (List.mem_of_getElem? (i := 0) rfl))
  show Gl p e below _ (T31.setTop (mkF m 32 _ []))
  refine Gl.iinc Y31 rfl (r := (1 : Int32)) (by decide) (L' := #[.val (.ref ca), .val (.int 1), .val (.ref b), .val (.int 0), .val (.int 4), .val (.int 0), .val (.int u0)]) rfl dA_32 rfl ?_
  refine Gl.iinc Y31 rfl (r := (1 : Int32)) (by decide) (L' := #[.val (.ref ca), .val (.int 1), .val (.ref b), .val (.int 1), .val (.int 4), .val (.int 0), .val (.int u0)]) rfl dA_35 rfl ?_
  refine Gl.iinc Y31 rfl (r := (1 : Int32)) (by decide) (L' := #[.val (.ref ca), .val (.int 1), .val (.ref b), .val (.int 1), .val (.int 4), .val (.int 1), .val (.int u0)]) rfl dA_38 rfl ?_
  refine Gl.goto Y31 dA_41 (by decide) rfl ?_
  refine Gl.iload Y31 rfl dA_3 rfl ?_
  refine Gl.iload Y31 rfl dA_5 rfl ?_
  refine Gl.icmpge Y31 dA_7 (by decide) rfl rfl (fun c7_2 => ?_) (fun c7_2 => ?_)
  · exact absurd c7_2 (by decide)
  refine Gl.aloadN Y31 rfl rfl dA_10 rfl ?_
  refine Gl.iloadN Y31 rfl dA_11 rfl ?_
  have f1 := (Vc.other W31 nbc)
  refine Gl.caload Y31 f1 ⟨by decide, by decide⟩ (v := (.int u1)) rfl dA_12 rfl ?_
  refine Gl.istore Y31 (L' := #[.val (.ref ca), .val (.int 1), .val (.ref b), .val (.int 1), .val (.int 4), .val (.int 1), .val (.int u1)]) rfl dA_13 rfl ?_
  refine Gl.iload Y31 rfl dA_15 rfl ?_
  refine Gl.sipush Y31 (v := (255 : Int32)) (by decide) dA_17 rfl ?_
  refine Gl.icmple Y31 dA_20 (by decide) rfl rfl (fun c20_2 => ?_) (fun c20_2 => ?_)
  rotate_left
  · exact absurd c20_2 l1
  refine Gl.aloadN Y31 rfl rfl dA_26 rfl ?_
  refine Gl.iloadN Y31 rfl dA_27 rfl ?_
  refine Gl.iload Y31 rfl dA_28 rfl ?_
  refine Gl.i2b Y31 rfl dA_30 rfl ?_
  refine Gl.bastore Y31 A31 (v := (.int u1.toInt8.toInt32)) (congrArg Value.int (own_narB rfl)) ⟨by decide, by decide⟩ (ix := 1) rfl (nle rfl) gb dA_31 rfl (fun T31_2 h31_2 Y31_2 W31_2 A31_2 => ?_)
  have A31_2 : Arv Z h31_2 b kb .byte (4 : Int32) [(.int u0.toInt8.toInt32), (.int u1.toInt8.toInt32), (.int 0), (.int 0)] (.int 0) := A31_2
  have K31_2 : Keep h0 h31_2 [b] := K31.wr W31_2 (Or.inl (List.mem_of_getElem? (i := 0) rfl))
  show Gl p e below _ (T31_2.setTop (mkF m 32 _ []))
  refine Gl.iinc Y31_2 rfl (r := (2 : Int32)) (by decide) (L' := #[.val (.ref ca), .val (.int 2), .val (.ref b), .val (.int 1), .val (.int 4), .val (.int 1), .val (.int u1)]) rfl dA_32 rfl ?_
  refine Gl.iinc Y31_2 rfl (r := (2 : Int32)) (by decide) (L' := #[.val (.ref ca), .val (.int 2), .val (.ref b), .val (.int 2), .val (.int 4), .val (.int 1), .val (.int u1)]) rfl dA_35 rfl ?_
  refine Gl.iinc Y31_2 rfl (r := (2 : Int32)) (by decide) (L' := #[.val (.ref ca), .val (.int 2), .val (.ref b), .val (.int 2), .val (.int 4), .val (.int 2), .val (.int u1)]) rfl dA_38 rfl ?_
  refine Gl.goto Y31_2 dA_41 (by decide) rfl ?_
  refine Gl.iload Y31_2 rfl dA_3 rfl ?_
  refine Gl.iload Y31_2 rfl dA_5 rfl ?_
  refine Gl.icmpge Y31_2 dA_7 (by decide) rfl rfl (fun c7_3 => ?_) (fun c7_3 => ?_)
  · exact absurd c7_3 (by decide)
  refine Gl.aloadN Y31_2 rfl rfl dA_10 rfl ?_
  refine Gl.iloadN Y31_2 rfl dA_11 rfl ?_
  have f2 := (f1.other W31_2 nbc)
  refine Gl.caload Y31_2 f2 ⟨by decide, by decide⟩ (v := (.int u2)) rfl dA_12 rfl ?_
  refine Gl.istore Y31_2 (L' := #[.val (.ref ca), .val (.int 2), .val (.ref b), .val (.int 2), .val (.int 4), .val (.int 2), .val (.int u2)]) rfl dA_13 rfl ?_
  refine Gl.iload Y31_2 rfl dA_15 rfl ?_
  refine Gl.sipush Y31_2 (v := (255 : Int32)) (by decide) dA_17 rfl ?_
  refine Gl.icmple Y31_2 dA_20 (by decide) rfl rfl (fun c20_3 => ?_) (fun c20_3 => ?_)
  rotate_left
  · exact absurd c20_3 l2
  refine Gl.aloadN Y31_2 rfl rfl dA_26 rfl ?_
  refine Gl.iloadN Y31_2 rfl dA_27 rfl ?_
  refine Gl.iload Y31_2 rfl dA_28 rfl ?_
  refine Gl.i2b Y31_2 rfl dA_30 rfl ?_
  refine Gl.bastore Y31_2 A31_2 (v := (.int u2.toInt8.toInt32)) (congrArg Value.int (own_narB rfl)) ⟨by decide, by decide⟩ (ix := 2) rfl (nle rfl) gb dA_31 rfl (fun T31_3 h31_3 Y31_3 W31_3 A31_3 => ?_)
  have A31_3 : Arv Z h31_3 b kb .byte (4 : Int32) [(.int u0.toInt8.toInt32), (.int u1.toInt8.toInt32), (.int u2.toInt8.toInt32), (.int 0)] (.int 0) := A31_3
  have K31_3 : Keep h0 h31_3 [b] := K31_2.wr W31_3 (Or.inl (List.mem_of_getElem? (i := 0) rfl))
  show Gl p e below _ (T31_3.setTop (mkF m 32 _ []))
  refine Gl.iinc Y31_3 rfl (r := (3 : Int32)) (by decide) (L' := #[.val (.ref ca), .val (.int 3), .val (.ref b), .val (.int 2), .val (.int 4), .val (.int 2), .val (.int u2)]) rfl dA_32 rfl ?_
  refine Gl.iinc Y31_3 rfl (r := (3 : Int32)) (by decide) (L' := #[.val (.ref ca), .val (.int 3), .val (.ref b), .val (.int 3), .val (.int 4), .val (.int 2), .val (.int u2)]) rfl dA_35 rfl ?_
  refine Gl.iinc Y31_3 rfl (r := (3 : Int32)) (by decide) (L' := #[.val (.ref ca), .val (.int 3), .val (.ref b), .val (.int 3), .val (.int 4), .val (.int 3), .val (.int u2)]) rfl dA_38 rfl ?_
  refine Gl.goto Y31_3 dA_41 (by decide) rfl ?_
  refine Gl.iload Y31_3 rfl dA_3 rfl ?_
  refine Gl.iload Y31_3 rfl dA_5 rfl ?_
  refine Gl.icmpge Y31_3 dA_7 (by decide) rfl rfl (fun c7_4 => ?_) (fun c7_4 => ?_)
  · exact absurd c7_4 (by decide)
  refine Gl.aloadN Y31_3 rfl rfl dA_10 rfl ?_
  refine Gl.iloadN Y31_3 rfl dA_11 rfl ?_
  have f3 := (f2.other W31_3 nbc)
  refine Gl.caload Y31_3 f3 ⟨by decide, by decide⟩ (v := (.int u3)) rfl dA_12 rfl ?_
  refine Gl.istore Y31_3 (L' := #[.val (.ref ca), .val (.int 3), .val (.ref b), .val (.int 3), .val (.int 4), .val (.int 3), .val (.int u3)]) rfl dA_13 rfl ?_
  refine Gl.iload Y31_3 rfl dA_15 rfl ?_
  refine Gl.sipush Y31_3 (v := (255 : Int32)) (by decide) dA_17 rfl ?_
  refine Gl.icmple Y31_3 dA_20 (by decide) rfl rfl (fun c20_4 => ?_) (fun c20_4 => ?_)
  · exact absurd m3 c20_4
  refine Gl.iload Y31_3 rfl dA_23 rfl ?_
  exact Gl.retI Y31_3 (by decide) (by decide)  dA_25 ⟨rfl, K31_3, A31_3⟩
def R13 : Room := { frames := 0, cells := 0, slots := 0, locals := 0 }
def Q13 (Z : State) (ca b : Addr) (kc kb : ClassId) (u0 u1 u2 u3 : Int32) (h0 : Heap) (v : Option Value) (h : Heap) : Prop := v = some (.int 4) ∧ Keep h0 h [b] ∧ Arv Z h b kb .byte (4 : Int32) [(.int (bL u0)), (.int (bL u1)), (.int (bL u2)), (.int (bL u3))] (.int 0)
theorem ef13 (ca b : Addr) (m : MethodId) : entryFrame m #[(.ref ca), (.int 0), (.ref b), (.int 0), (.int 4)] 7 = mkF m 0 #[.val (.ref ca), .val (.int 0), .val (.ref b), .val (.int 0), .val (.int 4), .unset, .unset] [] := by first | (simp [entryFrame, mkF, argsToLocals, Value.category]; done) | rfl
theorem rm13 (hw : HW a0 Z) (ca b : Addr) (kc kb : ClassId) (u0 u1 u2 u3 : Int32) (h0 : Heap) (n0 : Nat) (Z0 : n0 ≤ h0.size) (Vc : Arv Z h0 ca kc .char (4 : Int32) [(.int u0), (.int u1), (.int u2), (.int u3)] (.int 0)) (Vb : Arv Z h0 b kb .byte (4 : Int32) [(.int 0), (.int 0), (.int 0), (.int 0)] (.int 0)) (gb : n0 ≤ b) (nbc : own_ne ca b) (l0 : ¬ 255 < u0) (l1 : ¬ 255 < u1) (l2 : ¬ 255 < u2) (l3 : ¬ 255 < u3) : OMet l Z [] (⟨"java/lang/StringUTF16", "compress", "([CI[BII)I"⟩ : MethodName) jdk_52_method_21_code 7 (some .int) R13 #[(.ref ca), (.int 0), (.ref b), (.int 0), (.int 4)] h0 n0 (Q13 Z ca b kc kb u0 u1 u2 u3 h0) := by
  refine OMet.of (own := "java/lang/StringUTF16") rfl (plainFor_of_name pn_0) (ef13 ca b) Z0 ?_
  intro p e s m below meth c T0 Y0 hnm
  refine Gl.iconst Y0 (v := (0 : Int32)) (by decide) dA_0 rfl ?_
  refine Gl.istore Y0 (L' := #[.val (.ref ca), .val (.int 0), .val (.ref b), .val (.int 0), .val (.int 4), .val (.int 0), .unset]) rfl dA_1 rfl ?_
  refine Gl.iload Y0 rfl dA_3 rfl ?_
  refine Gl.iload Y0 rfl dA_5 rfl ?_
  refine Gl.icmpge Y0 dA_7 (by decide) rfl rfl (fun c7 => ?_) (fun c7 => ?_)
  · exact absurd c7 (by decide)
  refine Gl.aloadN Y0 rfl rfl dA_10 rfl ?_
  refine Gl.iloadN Y0 rfl dA_11 rfl ?_
  refine Gl.caload Y0 Vc ⟨by decide, by decide⟩ (v := (.int u0)) rfl dA_12 rfl ?_
  refine Gl.istore Y0 (L' := #[.val (.ref ca), .val (.int 0), .val (.ref b), .val (.int 0), .val (.int 4), .val (.int 0), .val (.int u0)]) rfl dA_13 rfl ?_
  refine Gl.iload Y0 rfl dA_15 rfl ?_
  refine Gl.sipush Y0 (v := (255 : Int32)) (by decide) dA_17 rfl ?_
  refine Gl.icmple Y0 dA_20 (by decide) rfl rfl (fun c20 => ?_) (fun c20 => ?_)
  rotate_left
  · exact absurd c20 l0
  refine Gl.aloadN Y0 rfl rfl dA_26 rfl ?_
  refine Gl.iloadN Y0 rfl dA_27 rfl ?_
  refine Gl.iload Y0 rfl dA_28 rfl ?_
  refine Gl.i2b Y0 rfl dA_30 rfl ?_
  refine Gl.bastore Y0 Vb (v := (.int u0.toInt8.toInt32)) (congrArg Value.int (own_narB rfl)) ⟨by decide, by decide⟩ (ix := 0) rfl (nle rfl) gb dA_31 rfl (fun T31 h31 Y31 W31 A31 => ?_)
  have A31 : Arv Z h31 b kb .byte (4 : Int32) [(.int u0.toInt8.toInt32), (.int 0), (.int 0), (.int 0)] (.int 0) := A31
  have K31 : Keep h0 h31 [b] := (Keep.refl h0 [b]).wr W31 (Or.inl (List.mem_of_getElem? (i := 0) rfl))
  show Gl p e below _ (T31.setTop (mkF m 32 _ []))
  refine Gl.iinc Y31 rfl (r := (1 : Int32)) (by decide) (L' := #[.val (.ref ca), .val (.int 1), .val (.ref b), .val (.int 0), .val (.int 4), .val (.int 0), .val (.int u0)]) rfl dA_32 rfl ?_
  refine Gl.iinc Y31 rfl (r := (1 : Int32)) (by decide) (L' := #[.val (.ref ca), .val (.int 1), .val (.ref b), .val (.int 1), .val (.int 4), .val (.int 0), .val (.int u0)]) rfl dA_35 rfl ?_
  refine Gl.iinc Y31 rfl (r := (1 : Int32)) (by decide) (L' := #[.val (.ref ca), .val (.int 1), .val (.ref b), .val (.int 1), .val (.int 4), .val (.int 1), .val (.int u0)]) rfl dA_38 rfl ?_
  refine Gl.goto Y31 dA_41 (by decide) rfl ?_
  refine Gl.iload Y31 rfl dA_3 rfl ?_
  refine Gl.iload Y31 rfl dA_5 rfl ?_
  refine Gl.icmpge Y31 dA_7 (by decide) rfl rfl (fun c7_2 => ?_) (fun c7_2 => ?_)
  · exact absurd c7_2 (by decide)
  refine Gl.aloadN Y31 rfl rfl dA_10 rfl ?_
  refine Gl.iloadN Y31 rfl dA_11 rfl ?_
  have f1 := (Vc.other W31 nbc)
  refine Gl.caload Y31 f1 ⟨by decide, by decide⟩ (v := (.int u1)) rfl dA_12 rfl ?_
  refine Gl.istore Y31 (L' := #[.val (.ref ca), .val (.int 1), .val (.ref b), .val (.int 1), .val (.int 4), .val (.int 1), .val (.int u1)]) rfl dA_13 rfl ?_
  refine Gl.iload Y31 rfl dA_15 rfl ?_
  refine Gl.sipush Y31 (v := (255 : Int32)) (by decide) dA_17 rfl ?_
  refine Gl.icmple Y31 dA_20 (by decide) rfl rfl (fun c20_2 => ?_) (fun c20_2 => ?_)
  rotate_left
  · exact absurd c20_2 l1
  refine Gl.aloadN Y31 rfl rfl dA_26 rfl ?_
  refine Gl.iloadN Y31 rfl dA_27 rfl ?_
  refine Gl.iload Y31 rfl dA_28 rfl ?_
  refine Gl.i2b Y31 rfl dA_30 rfl ?_
  refine Gl.bastore Y31 A31 (v := (.int u1.toInt8.toInt32)) (congrArg Value.int (own_narB rfl)) ⟨by decide, by decide⟩ (ix := 1) rfl (nle rfl) gb dA_31 rfl (fun T31_2 h31_2 Y31_2 W31_2 A31_2 => ?_)
  have A31_2 : Arv Z h31_2 b kb .byte (4 : Int32) [(.int u0.toInt8.toInt32), (.int u1.toInt8.toInt32), (.int 0), (.int 0)] (.int 0) := A31_2
  have K31_2 : Keep h0 h31_2 [b] := K31.wr W31_2 (Or.inl (List.mem_of_getElem? (i := 0) rfl))
  show Gl p e below _ (T31_2.setTop (mkF m 32 _ []))
  refine Gl.iinc Y31_2 rfl (r := (2 : Int32)) (by decide) (L' := #[.val (.ref ca), .val (.int 2), .val (.ref b), .val (.int 1), .val (.int 4), .val (.int 1), .val (.int u1)]) rfl dA_32 rfl ?_
  refine Gl.iinc Y31_2 rfl (r := (2 : Int32)) (by decide) (L' := #[.val (.ref ca), .val (.int 2), .val (.ref b), .val (.int 2), .val (.int 4), .val (.int 1), .val (.int u1)]) rfl dA_35 rfl ?_
  refine Gl.iinc Y31_2 rfl (r := (2 : Int32)) (by decide) (L' := #[.val (.ref ca), .val (.int 2), .val (.ref b), .val (.int 2), .val (.int 4), .val (.int 2), .val (.int u1)]) rfl dA_38 rfl ?_
  refine Gl.goto Y31_2 dA_41 (by decide) rfl ?_
  refine Gl.iload Y31_2 rfl dA_3 rfl ?_
  refine Gl.iload Y31_2 rfl dA_5 rfl ?_
  refine Gl.icmpge Y31_2 dA_7 (by decide) rfl rfl (fun c7_3 => ?_) (fun c7_3 => ?_)
  · exact absurd c7_3 (by decide)
  refine Gl.aloadN Y31_2 rfl rfl dA_10 rfl ?_
  refine Gl.iloadN Y31_2 rfl dA_11 rfl ?_
  have f2 := (f1.other W31_2 nbc)
  refine Gl.caload Y31_2 f2 ⟨by decide, by decide⟩ (v := (.int u2)) rfl dA_12 rfl ?_
  refine Gl.istore Y31_2 (L' := #[.val (.ref ca), .val (.int 2), .val (.ref b), .val (.int 2), .val (.int 4), .val (.int 2), .val (.int u2)]) rfl dA_13 rfl ?_
  refine Gl.iload Y31_2 rfl dA_15 rfl ?_
  refine Gl.sipush Y31_2 (v := (255 : Int32)) (by decide) dA_17 rfl ?_
  refine Gl.icmple Y31_2 dA_20 (by decide) rfl rfl (fun c20_3 => ?_) (fun c20_3 => ?_)
  rotate_left
  · exact absurd c20_3 l2
  refine Gl.aloadN Y31_2 rfl rfl dA_26 rfl ?_
  refine Gl.iloadN Y31_2 rfl dA_27 rfl ?_
  refine Gl.iload Y31_2 rfl dA_28 rfl ?_
  refine Gl.i2b Y31_2 rfl dA_30 rfl ?_
  refine Gl.bastore Y31_2 A31_2 (v := (.int u2.toInt8.toInt32)) (congrArg Value.int (own_narB rfl)) ⟨by decide, by decide⟩ (ix := 2) rfl (nle rfl) gb dA_31 rfl (fun T31_3 h31_3 Y31_3 W31_3 A31_3 => ?_)
  have A31_3 : Arv Z h31_3 b kb .byte (4 : Int32) [(.int u0.toInt8.toInt32), (.int u1.toInt8.toInt32), (.int u2.toInt8.toInt32), (.int 0)] (.int 0) := A31_3
  have K31_3 : Keep h0 h31_3 [b] := K31_2.wr W31_3 (Or.inl (List.mem_of_getElem? (i := 0) rfl))
  show Gl p e below _ (T31_3.setTop (mkF m 32 _ []))
  refine Gl.iinc Y31_3 rfl (r := (3 : Int32)) (by decide) (L' := #[.val (.ref ca), .val (.int 3), .val (.ref b), .val (.int 2), .val (.int 4), .val (.int 2), .val (.int u2)]) rfl dA_32 rfl ?_
  refine Gl.iinc Y31_3 rfl (r := (3 : Int32)) (by decide) (L' := #[.val (.ref ca), .val (.int 3), .val (.ref b), .val (.int 3), .val (.int 4), .val (.int 2), .val (.int u2)]) rfl dA_35 rfl ?_
  refine Gl.iinc Y31_3 rfl (r := (3 : Int32)) (by decide) (L' := #[.val (.ref ca), .val (.int 3), .val (.ref b), .val (.int 3), .val (.int 4), .val (.int 3), .val (.int u2)]) rfl dA_38 rfl ?_
  refine Gl.goto Y31_3 dA_41 (by decide) rfl ?_
  refine Gl.iload Y31_3 rfl dA_3 rfl ?_
  refine Gl.iload Y31_3 rfl dA_5 rfl ?_
  refine Gl.icmpge Y31_3 dA_7 (by decide) rfl rfl (fun c7_4 => ?_) (fun c7_4 => ?_)
  · exact absurd c7_4 (by decide)
  refine Gl.aloadN Y31_3 rfl rfl dA_10 rfl ?_
  refine Gl.iloadN Y31_3 rfl dA_11 rfl ?_
  have f3 := (f2.other W31_3 nbc)
  refine Gl.caload Y31_3 f3 ⟨by decide, by decide⟩ (v := (.int u3)) rfl dA_12 rfl ?_
  refine Gl.istore Y31_3 (L' := #[.val (.ref ca), .val (.int 3), .val (.ref b), .val (.int 3), .val (.int 4), .val (.int 3), .val (.int u3)]) rfl dA_13 rfl ?_
  refine Gl.iload Y31_3 rfl dA_15 rfl ?_
  refine Gl.sipush Y31_3 (v := (255 : Int32)) (by decide) dA_17 rfl ?_
  refine Gl.icmple Y31_3 dA_20 (by decide) rfl rfl (fun c20_4 => ?_) (fun c20_4 => ?_)
  rotate_left
  · exact absurd c20_4 l3
  refine Gl.aloadN Y31_3 rfl rfl dA_26 rfl ?_
  refine Gl.iloadN Y31_3 rfl dA_27 rfl ?_
  refine Gl.iload Y31_3 rfl dA_28 rfl ?_
  refine Gl.i2b Y31_3 rfl dA_30 rfl ?_
  refine Gl.bastore Y31_3 A31_3 (v := (.int u3.toInt8.toInt32)) (congrArg Value.int (own_narB rfl)) ⟨by decide, by decide⟩ (ix := 3) rfl (nle rfl) gb dA_31 rfl (fun T31_4 h31_4 Y31_4 W31_4 A31_4 => ?_)
  have A31_4 : Arv Z h31_4 b kb .byte (4 : Int32) [(.int u0.toInt8.toInt32), (.int u1.toInt8.toInt32), (.int u2.toInt8.toInt32), (.int u3.toInt8.toInt32)] (.int 0) := A31_4
  have K31_4 : Keep h0 h31_4 [b] := K31_3.wr W31_4 (Or.inl (List.mem_of_getElem? (i := 0) rfl))
  show Gl p e below _ (T31_4.setTop (mkF m 32 _ []))
  refine Gl.iinc Y31_4 rfl (r := (4 : Int32)) (by decide) (L' := #[.val (.ref ca), .val (.int 4), .val (.ref b), .val (.int 3), .val (.int 4), .val (.int 3), .val (.int u3)]) rfl dA_32 rfl ?_
  refine Gl.iinc Y31_4 rfl (r := (4 : Int32)) (by decide) (L' := #[.val (.ref ca), .val (.int 4), .val (.ref b), .val (.int 4), .val (.int 4), .val (.int 3), .val (.int u3)]) rfl dA_35 rfl ?_
  refine Gl.iinc Y31_4 rfl (r := (4 : Int32)) (by decide) (L' := #[.val (.ref ca), .val (.int 4), .val (.ref b), .val (.int 4), .val (.int 4), .val (.int 4), .val (.int u3)]) rfl dA_38 rfl ?_
  refine Gl.goto Y31_4 dA_41 (by decide) rfl ?_
  refine Gl.iload Y31_4 rfl dA_3 rfl ?_
  refine Gl.iload Y31_4 rfl dA_5 rfl ?_
  refine Gl.icmpge Y31_4 dA_7 (by decide) rfl rfl (fun c7_5 => ?_) (fun c7_5 => ?_)
  rotate_left
  · exact absurd c7_5 (by decide)
  refine Gl.iload Y31_4 rfl dA_44 rfl ?_
  exact Gl.retI Y31_4 (by decide) (by decide)  dA_46 ⟨rfl, K31_4, A31_4⟩
theorem dB_0 : decode jdk_52_method_3_code 0 = .ok (.iload_n 0, 1) := by decide +kernel
theorem dB_1 : decode jdk_52_method_3_code 1 = .ok (.ifCond .ge 11, 3) := by decide +kernel
theorem dB_12 : decode jdk_52_method_3_code 12 = .ok (.iload_n 0, 1) := by decide +kernel
theorem dB_13 : decode jdk_52_method_3_code 13 = .ok (.ldc 20, 2) := by decide +kernel
theorem tw_83 {a0 : Array Value} {Z : State} (hw : HW a0 Z) : (Jvm.Cond.constant "java/lang/StringUTF16" (20 : Nat) (1073741823 : Int32)).before a0 Z = true := hw _ (List.mem_of_getElem? (i := 83) rfl)
theorem dB_15 : decode jdk_52_method_3_code 15 = .ok (.if_icmp .lt 40, 3) := by decide +kernel
theorem dB_55 : decode jdk_52_method_3_code 55 = .ok (.iload_n 0, 1) := by decide +kernel
theorem dB_56 : decode jdk_52_method_3_code 56 = .ok (.iconst 1, 1) := by decide +kernel
theorem dB_57 : decode jdk_52_method_3_code 57 = .ok (.ishl, 1) := by decide +kernel
theorem dB_58 : decode jdk_52_method_3_code 58 = .ok (.ireturn, 1) := by decide +kernel
def R14 : Room := { frames := 0, cells := 0, slots := 0, locals := 0 }
def Q14 (Z : State) (h0 : Heap) (v : Option Value) (h : Heap) : Prop := v = some (.int 2) ∧ h0 = h
theorem ef14 (m : MethodId) : entryFrame m #[(.int 1)] 1 = mkF m 0 #[.val (.int 1)] [] := by first | (simp [entryFrame, mkF, argsToLocals, Value.category]; done) | rfl
theorem rm14 (hw : HW a0 Z) (h0 : Heap) (n0 : Nat) (Z0 : n0 ≤ h0.size) : OMet l Z [] (⟨"java/lang/StringUTF16", "newBytesLength", "(I)I"⟩ : MethodName) jdk_52_method_3_code 1 (some .int) R14 #[(.int 1)] h0 n0 (Q14 Z h0) := by
  refine OMet.of (own := "java/lang/StringUTF16") rfl (plainFor_of_name pn_0) (ef14) Z0 ?_
  intro p e s m below meth c T0 Y0 hnm
  refine Gl.iloadN Y0 rfl dB_0 rfl ?_
  refine Gl.ifge Y0 dB_1 (by decide) rfl rfl (fun c1 => ?_) (fun c1 => ?_)
  rotate_left
  · exact absurd c1 (by decide)
  refine Gl.iloadN Y0 rfl dB_12 rfl ?_
  refine Gl.ldcI Y0 (tw_83 hw) dB_13 rfl ?_
  refine Gl.icmplt Y0 dB_15 (by decide) rfl rfl (fun c15 => ?_) (fun c15 => ?_)
  rotate_left
  · exact absurd c15 (by decide)
  refine Gl.iloadN Y0 rfl dB_55 rfl ?_
  refine Gl.iconst Y0 (v := (1 : Int32)) (by decide) dB_56 rfl ?_
  refine Gl.ishl Y0 (r := (2 : Int32)) (by decide) dB_57 rfl ?_
  exact Gl.retI Y0 (by decide) (by decide)  dB_58 ⟨rfl, rfl⟩
theorem dC_0 : decode jdk_52_method_2_code 0 = .ok (.iload_n 0, 1) := by decide +kernel
theorem dC_1 : decode jdk_52_method_2_code 1 = .ok (.invokestatic 11, 3) := by decide +kernel
theorem tw_80 {a0 : Array Value} {Z : State} (hw : HW a0 Z) : (Jvm.Cond.methodLink "java/lang/StringUTF16" (11 : Nat) ({ cls := "java/lang/StringUTF16", name := "newBytesLength", desc := "(I)I" } : Jvm.MethodName)).before a0 Z = true := hw _ (List.mem_of_getElem? (i := 80) rfl)
theorem pd_0 : parseMethodDescriptor "(I)I" = some ⟨[.int], some .int⟩ := by decide +kernel
theorem tw_82 {a0 : Array Value} {Z : State} (hw : HW a0 Z) : (Jvm.Cond.code ({ cls := "java/lang/StringUTF16", name := "newBytesLength", desc := "(I)I" } : Jvm.MethodName) jdk_52_method_3_code (1 : Nat) (Option.some Jvm.ClassFile.FieldType.int)).before a0 Z = true := hw _ (List.mem_of_getElem? (i := 82) rfl)
theorem tw_44 {a0 : Array Value} {Z : State} (hw : HW a0 Z) : (Jvm.Cond.initialized "java/lang/StringUTF16").before a0 Z = true := hw _ (List.mem_of_getElem? (i := 44) rfl)
theorem tw_81 {a0 : Array Value} {Z : State} (hw : HW a0 Z) : (Jvm.Cond.static ({ cls := "java/lang/StringUTF16", name := "newBytesLength", desc := "(I)I" } : Jvm.MethodName)).before a0 Z = true := hw _ (List.mem_of_getElem? (i := 81) rfl)
theorem dC_4 : decode jdk_52_method_2_code 4 = .ok (.newarray .byte, 2) := by decide +kernel
theorem tw_20 {a0 : Array Value} {Z : State} (hw : HW a0 Z) : (Jvm.Cond.arrayClass Jvm.ClassFile.FieldType.byte).before a0 Z = true := hw _ (List.mem_of_getElem? (i := 20) rfl)
theorem dC_6 : decode jdk_52_method_2_code 6 = .ok (.areturn, 1) := by decide +kernel
def R15 : Room := { frames := 1, cells := 1, slots := 2, locals := 12 }
def Q15 (Z : State) (h0 : Heap) (v : Option Value) (h : Heap) : Prop := ∃ b : Addr, ∃ kb : ClassId, v = some (.ref b) ∧ Keep h0 h [] ∧ h0.size ≤ b ∧ Arv Z h b kb .byte (2 : Int32) [(.int 0), (.int 0)] (.int 0)
theorem ef15 (m : MethodId) : entryFrame m #[(.int 1)] 1 = mkF m 0 #[.val (.int 1)] [] := by first | (simp [entryFrame, mkF, argsToLocals, Value.category]; done) | rfl
theorem rm15 (hw : HW a0 Z) (h0 : Heap) (n0 : Nat) (Z0 : n0 ≤ h0.size) : OMet l Z [] (⟨"java/lang/StringUTF16", "newBytesFor", "(I)[B"⟩ : MethodName) jdk_52_method_2_code 1 (some (.array .byte)) R15 #[(.int 1)] h0 n0 (Q15 Z h0) := by
  refine OMet.of (own := "java/lang/StringUTF16") rfl (plainFor_of_name pn_0) (ef15) Z0 ?_
  intro p e s m below meth c T0 Y0 hnm
  refine Gl.iloadN Y0 rfl dC_0 rfl ?_
  refine Gl.callS Y0 (tw_80 hw) (tw_81 hw) (tw_44 hw) (tw_82 hw) (by decide) (rm14 l Z a0 hw h0 n0 Y0.sz) (argsL := [(.int 1)]) (rest := []) rfl rfl (lenOf pd_0 rfl) rfl (by decide) (nle rfl) (by decide) (by decide) dC_1 rfl (fun v1 T1 h1 Y1 q1 => ?_)
  obtain ⟨rfl, rfl⟩ := q1
  show Gl p e below _ (T1.setTop (mkF m 4 _ [(.int 2)]))
  refine Gl.newP Y1 2 (ty := .byte) rfl (tw_20 hw) (by decide) (by decide) (nle rfl) (nle rfl) (nle rfl) dC_4 rfl (fun T4 h4 b4 ck4 Y4 E4 g4 sb4 V4 => ?_)
  have V4 : Arv Z h4 b4 ck4 .byte (2 : Int32) [(.int 0), (.int 0)] (.int 0) := V4.pad (pad_rep [] (.int 0) 2)
  have zb4 : h0.size ≤ b4 := Nat.le_trans (Keep.refl h0 []).1 (Nat.le_of_eq g4.symm)
  have K4 : Keep h0 h4 [] := (Keep.refl h0 []).ext E4
  show Gl p e below _ (T4.setTop (mkF m 6 _ [(.ref b4)]))
  exact Gl.retA Y4 (by decide) (by decide) rfl rfl dC_6 ⟨b4, ck4, rfl, K4, zb4, V4⟩
theorem dD_0 : decode jdk_52_method_4_code 0 = .ok (.getstatic 44, 3) := by decide +kernel
theorem tw_87 {a0 : Array Value} {Z : State} (hw : HW a0 Z) : (Jvm.Cond.fieldLink "java/lang/StringUTF16" (44 : Nat) "java/lang/StringUTF16" "$assertionsDisabled" "Z").before a0 Z = true := hw _ (List.mem_of_getElem? (i := 87) rfl)
theorem dD_3 : decode jdk_52_method_4_code 3 = .ok (.ifCond .ne 25, 3) := by decide +kernel
theorem dD_28 : decode jdk_52_method_4_code 28 = .ok (.iload_n 1, 1) := by decide +kernel
theorem dD_29 : decode jdk_52_method_4_code 29 = .ok (.iconst 1, 1) := by decide +kernel
theorem dD_30 : decode jdk_52_method_4_code 30 = .ok (.ishl, 1) := by decide +kernel
theorem dD_31 : decode jdk_52_method_4_code 31 = .ok (.istore_n 1, 1) := by decide +kernel
theorem dD_32 : decode jdk_52_method_4_code 32 = .ok (.aload_n 0, 1) := by decide +kernel
theorem dD_33 : decode jdk_52_method_4_code 33 = .ok (.iload_n 1, 1) := by decide +kernel
theorem dD_34 : decode jdk_52_method_4_code 34 = .ok (.iinc 1 1, 3) := by decide +kernel
theorem dD_37 : decode jdk_52_method_4_code 37 = .ok (.iload_n 2, 1) := by decide +kernel
theorem dD_38 : decode jdk_52_method_4_code 38 = .ok (.getstatic 59, 3) := by decide +kernel
theorem tw_88 {a0 : Array Value} {Z : State} (hw : HW a0 Z) : (Jvm.Cond.fieldLink "java/lang/StringUTF16" (59 : Nat) "java/lang/StringUTF16" "HI_BYTE_SHIFT" "I").before a0 Z = true := hw _ (List.mem_of_getElem? (i := 88) rfl)
theorem dD_41 : decode jdk_52_method_4_code 41 = .ok (.ishr, 1) := by decide +kernel
theorem dD_42 : decode jdk_52_method_4_code 42 = .ok (.i2b, 1) := by decide +kernel
theorem dD_43 : decode jdk_52_method_4_code 43 = .ok (.bastore, 1) := by decide +kernel
theorem dD_44 : decode jdk_52_method_4_code 44 = .ok (.aload_n 0, 1) := by decide +kernel
theorem dD_45 : decode jdk_52_method_4_code 45 = .ok (.iload_n 1, 1) := by decide +kernel
theorem dD_46 : decode jdk_52_method_4_code 46 = .ok (.iload_n 2, 1) := by decide +kernel
theorem dD_47 : decode jdk_52_method_4_code 47 = .ok (.getstatic 63, 3) := by decide +kernel
theorem tw_89 {a0 : Array Value} {Z : State} (hw : HW a0 Z) : (Jvm.Cond.fieldLink "java/lang/StringUTF16" (63 : Nat) "java/lang/StringUTF16" "LO_BYTE_SHIFT" "I").before a0 Z = true := hw _ (List.mem_of_getElem? (i := 89) rfl)
theorem dD_50 : decode jdk_52_method_4_code 50 = .ok (.ishr, 1) := by decide +kernel
theorem dD_51 : decode jdk_52_method_4_code 51 = .ok (.i2b, 1) := by decide +kernel
theorem dD_52 : decode jdk_52_method_4_code 52 = .ok (.bastore, 1) := by decide +kernel
theorem dD_53 : decode jdk_52_method_4_code 53 = .ok (.return_, 1) := by decide +kernel
def R16 : Room := { frames := 0, cells := 0, slots := 0, locals := 0 }
def Q16 (Z : State) (b : Addr) (kb : ClassId) (u0 : Int32) (h0 : Heap) (v : Option Value) (h : Heap) : Prop := v = none ∧ Keep h0 h [b] ∧ Arv Z h b kb .byte (2 : Int32) [(.int (uL u0)), (.int (uH u0))] (.int 0)
theorem ef16 (b : Addr) (u0 : Int32) (m : MethodId) : entryFrame m #[(.ref b), (.int 0), (.int u0)] 3 = mkF m 0 #[.val (.ref b), .val (.int 0), .val (.int u0)] [] := by first | (simp [entryFrame, mkF, argsToLocals, Value.category]; done) | rfl
theorem rm16 (hw : HW a0 Z) (b : Addr) (kb : ClassId) (u0 : Int32) (h0 : Heap) (n0 : Nat) (Z0 : n0 ≤ h0.size) (O : Old Z n0 h0) (SA : uA Z) (SH : uS Z) (SL : uT Z) (Vb : Arv Z h0 b kb .byte (2 : Int32) [(.int 0), (.int 0)] (.int 0)) (gb : n0 ≤ b) : OMet l Z [] (⟨"java/lang/StringUTF16", "putChar", "([BII)V"⟩ : MethodName) jdk_52_method_4_code 3 none R16 #[(.ref b), (.int 0), (.int u0)] h0 n0 (Q16 Z b kb u0 h0) := by
  refine OMet.of (own := "java/lang/StringUTF16") rfl (plainFor_of_name pn_0) (ef16 b u0) Z0 ?_
  intro p e s m below meth c T0 Y0 hnm
  refine Gl.getS Y0 (host := "") (Or.inl (tw_87 hw)) Via.refl (Sta.ext O.2 SA) dD_0 rfl (fun T0_2 Y0_2 => ?_)
  refine Gl.ifne Y0_2 dD_3 (by decide) rfl rfl (fun c3 => ?_) (fun c3 => ?_)
  rotate_left
  · exact absurd c3 (by decide)
  refine Gl.iloadN Y0_2 rfl dD_28 rfl ?_
  refine Gl.iconst Y0_2 (v := (1 : Int32)) (by decide) dD_29 rfl ?_
  refine Gl.ishl Y0_2 (r := (0 : Int32)) (by decide) dD_30 rfl ?_
  refine Gl.istoreN Y0_2 (L' := #[.val (.ref b), .val (.int 0), .val (.int u0)]) rfl dD_31 rfl ?_
  refine Gl.aloadN Y0_2 rfl rfl dD_32 rfl ?_
  refine Gl.iloadN Y0_2 rfl dD_33 rfl ?_
  refine Gl.iinc Y0_2 rfl (r := (1 : Int32)) (by decide) (L' := #[.val (.ref b), .val (.int 1), .val (.int u0)]) rfl dD_34 rfl ?_
  refine Gl.iloadN Y0_2 rfl dD_37 rfl ?_
  refine Gl.getS Y0_2 (host := "") (Or.inl (tw_88 hw)) Via.refl (Sta.ext O.2 SH) dD_38 rfl (fun T38 Y38 => ?_)
  refine Gl.ishr Y38 rfl dD_41 rfl ?_
  refine Gl.i2b Y38 rfl dD_42 rfl ?_
  refine Gl.bastore Y38 Vb (v := (.int ((u0 >>> ((0 : Int32) &&& 31)).toInt8.toInt32))) (congrArg Value.int (own_narB rfl)) ⟨by decide, by decide⟩ (ix := 0) rfl (nle rfl) gb dD_43 rfl (fun T43 h43 Y43 W43 A43 => ?_)
  have A43 : Arv Z h43 b kb .byte (2 : Int32) [(.int ((u0 >>> ((0 : Int32) &&& 31)).toInt8.toInt32)), (.int 0)] (.int 0) := A43
  have K43 : Keep h0 h43 [b] := (Keep.refl h0 [b]).wr W43 (Or.inl (List.mem_of_getElem? (i := 0) rfl))
  show Gl p e below _ (T43.setTop (mkF m 44 _ []))
  refine Gl.aloadN Y43 rfl rfl dD_44 rfl ?_
  refine Gl.iloadN Y43 rfl dD_45 rfl ?_
  refine Gl.iloadN Y43 rfl dD_46 rfl ?_
  have f1 := (O.wr W43 gb)
  refine Gl.getS Y43 (host := "") (Or.inl (tw_89 hw)) Via.refl (Sta.ext f1.2 SL) dD_47 rfl (fun T47 Y47 => ?_)
  refine Gl.ishr Y47 rfl dD_50 rfl ?_
  refine Gl.i2b Y47 rfl dD_51 rfl ?_
  refine Gl.bastore Y47 A43 (v := (.int ((u0 >>> ((8 : Int32) &&& 31)).toInt8.toInt32))) (congrArg Value.int (own_narB rfl)) ⟨by decide, by decide⟩ (ix := 1) rfl (nle rfl) gb dD_52 rfl (fun T52 h52 Y52 W52 A52 => ?_)
  have A52 : Arv Z h52 b kb .byte (2 : Int32) [(.int ((u0 >>> ((0 : Int32) &&& 31)).toInt8.toInt32)), (.int ((u0 >>> ((8 : Int32) &&& 31)).toInt8.toInt32))] (.int 0) := A52
  have K52 : Keep h0 h52 [b] := K43.wr W52 (Or.inl (List.mem_of_getElem? (i := 0) rfl))
  show Gl p e below _ (T52.setTop (mkF m 53 _ []))
  exact Gl.retV Y52 (by decide) (by decide)  dD_53 ⟨rfl, K52, A52⟩
theorem dE_0 : decode jdk_52_method_5_code 0 = .ok (.getstatic 44, 3) := by decide +kernel
theorem dE_3 : decode jdk_52_method_5_code 3 = .ok (.ifCond .ne 25, 3) := by decide +kernel
theorem dE_28 : decode jdk_52_method_5_code 28 = .ok (.iload_n 1, 1) := by decide +kernel
theorem dE_29 : decode jdk_52_method_5_code 29 = .ok (.iconst 1, 1) := by decide +kernel
theorem dE_30 : decode jdk_52_method_5_code 30 = .ok (.ishl, 1) := by decide +kernel
theorem dE_31 : decode jdk_52_method_5_code 31 = .ok (.istore_n 1, 1) := by decide +kernel
theorem dE_32 : decode jdk_52_method_5_code 32 = .ok (.aload_n 0, 1) := by decide +kernel
theorem dE_33 : decode jdk_52_method_5_code 33 = .ok (.iload_n 1, 1) := by decide +kernel
theorem dE_34 : decode jdk_52_method_5_code 34 = .ok (.iinc 1 1, 3) := by decide +kernel
theorem dE_37 : decode jdk_52_method_5_code 37 = .ok (.baload, 1) := by decide +kernel
theorem dE_38 : decode jdk_52_method_5_code 38 = .ok (.sipush 255, 3) := by decide +kernel
theorem dE_41 : decode jdk_52_method_5_code 41 = .ok (.iand, 1) := by decide +kernel
theorem dE_42 : decode jdk_52_method_5_code 42 = .ok (.getstatic 59, 3) := by decide +kernel
theorem dE_45 : decode jdk_52_method_5_code 45 = .ok (.ishl, 1) := by decide +kernel
theorem dE_46 : decode jdk_52_method_5_code 46 = .ok (.aload_n 0, 1) := by decide +kernel
theorem dE_47 : decode jdk_52_method_5_code 47 = .ok (.iload_n 1, 1) := by decide +kernel
theorem dE_48 : decode jdk_52_method_5_code 48 = .ok (.baload, 1) := by decide +kernel
theorem dE_49 : decode jdk_52_method_5_code 49 = .ok (.sipush 255, 3) := by decide +kernel
theorem dE_52 : decode jdk_52_method_5_code 52 = .ok (.iand, 1) := by decide +kernel
theorem dE_53 : decode jdk_52_method_5_code 53 = .ok (.getstatic 63, 3) := by decide +kernel
theorem dE_56 : decode jdk_52_method_5_code 56 = .ok (.ishl, 1) := by decide +kernel
theorem dE_57 : decode jdk_52_method_5_code 57 = .ok (.ior, 1) := by decide +kernel
theorem dE_58 : decode jdk_52_method_5_code 58 = .ok (.i2c, 1) := by decide +kernel
theorem dE_59 : decode jdk_52_method_5_code 59 = .ok (.ireturn, 1) := by decide +kernel
def R17 : Room := { frames := 0, cells := 0, slots := 0, locals := 0 }
def Q17 (Z : State) (b : Addr) (kb : ClassId) (u0 : Int32) (h0 : Heap) (v : Option Value) (h : Heap) : Prop := v = some (.int u0) ∧ h0 = h
theorem ef17 (b : Addr) (m : MethodId) : entryFrame m #[(.ref b), (.int 0)] 2 = mkF m 0 #[.val (.ref b), .val (.int 0)] [] := by first | (simp [entryFrame, mkF, argsToLocals, Value.category]; done) | rfl
theorem rm17 (hw : HW a0 Z) (b : Addr) (kb : ClassId) (u0 : Int32) (h0 : Heap) (n0 : Nat) (Z0 : n0 ≤ h0.size) (O : Old Z n0 h0) (SA : uA Z) (SH : uS Z) (SL : uT Z) (Vb : Arv Z h0 b kb .byte (2 : Int32) [(.int (uL u0)), (.int (uH u0))] (.int 0)) (r_u0 : C16 u0) : OMet l Z [] (⟨"java/lang/StringUTF16", "getChar", "([BI)C"⟩ : MethodName) jdk_52_method_5_code 2 (some .char) R17 #[(.ref b), (.int 0)] h0 n0 (Q17 Z b kb u0 h0) := by
  refine OMet.of (own := "java/lang/StringUTF16") rfl (plainFor_of_name pn_0) (ef17 b) Z0 ?_
  intro p e s m below meth c T0 Y0 hnm
  refine Gl.getS Y0 (host := "") (Or.inl (tw_87 hw)) Via.refl (Sta.ext O.2 SA) dE_0 rfl (fun T0_2 Y0_2 => ?_)
  refine Gl.ifne Y0_2 dE_3 (by decide) rfl rfl (fun c3 => ?_) (fun c3 => ?_)
  rotate_left
  · exact absurd c3 (by decide)
  refine Gl.iloadN Y0_2 rfl dE_28 rfl ?_
  refine Gl.iconst Y0_2 (v := (1 : Int32)) (by decide) dE_29 rfl ?_
  refine Gl.ishl Y0_2 (r := (0 : Int32)) (by decide) dE_30 rfl ?_
  refine Gl.istoreN Y0_2 (L' := #[.val (.ref b), .val (.int 0)]) rfl dE_31 rfl ?_
  refine Gl.aloadN Y0_2 rfl rfl dE_32 rfl ?_
  refine Gl.iloadN Y0_2 rfl dE_33 rfl ?_
  refine Gl.iinc Y0_2 rfl (r := (1 : Int32)) (by decide) (L' := #[.val (.ref b), .val (.int 1)]) rfl dE_34 rfl ?_
  refine Gl.baload Y0_2 Vb ⟨by decide, by decide⟩ (v := (.int (uL u0))) rfl dE_37 rfl ?_
  refine Gl.sipush Y0_2 (v := (255 : Int32)) (by decide) dE_38 rfl ?_
  refine Gl.iand Y0_2 rfl dE_41 rfl ?_
  refine Gl.getS Y0_2 (host := "") (Or.inl (tw_88 hw)) Via.refl (Sta.ext O.2 SH) dE_42 rfl (fun T42 Y42 => ?_)
  refine Gl.ishl Y42 rfl dE_45 rfl ?_
  refine Gl.aloadN Y42 rfl rfl dE_46 rfl ?_
  refine Gl.iloadN Y42 rfl dE_47 rfl ?_
  refine Gl.baload Y42 Vb ⟨by decide, by decide⟩ (v := (.int (uH u0))) rfl dE_48 rfl ?_
  refine Gl.sipush Y42 (v := (255 : Int32)) (by decide) dE_49 rfl ?_
  refine Gl.iand Y42 rfl dE_52 rfl ?_
  refine Gl.getS Y42 (host := "") (Or.inl (tw_89 hw)) Via.refl (Sta.ext O.2 SL) dE_53 rfl (fun T53 Y53 => ?_)
  refine Gl.ishl Y53 rfl dE_56 rfl ?_
  refine Gl.ior Y53 rfl dE_57 rfl ?_
  refine Gl.i2c Y53 rfl dE_58 rfl ?_
  exact Gl.retC Y53 (by decide) (by decide) (x' := u0) ((own_narC rfl).trans (own_gc u0 r_u0)) dE_59 ⟨rfl, rfl⟩
theorem dF_0 : decode jdk_52_method_14_code 0 = .ok (.iload_n 2, 1) := by decide +kernel
theorem dF_1 : decode jdk_52_method_14_code 1 = .ok (.invokestatic 107, 3) := by decide +kernel
theorem tw_77 {a0 : Array Value} {Z : State} (hw : HW a0 Z) : (Jvm.Cond.methodLink "java/lang/StringUTF16" (107 : Nat) ({ cls := "java/lang/StringUTF16", name := "newBytesFor", desc := "(I)[B" } : Jvm.MethodName)).before a0 Z = true := hw _ (List.mem_of_getElem? (i := 77) rfl)
theorem pd_1 : parseMethodDescriptor "(I)[B" = some ⟨[.int], some (.array .byte)⟩ := by decide +kernel
theorem tw_79 {a0 : Array Value} {Z : State} (hw : HW a0 Z) : (Jvm.Cond.code ({ cls := "java/lang/StringUTF16", name := "newBytesFor", desc := "(I)[B" } : Jvm.MethodName) jdk_52_method_2_code (1 : Nat) (Option.some (Jvm.ClassFile.FieldType.array Jvm.ClassFile.FieldType.byte))).before a0 Z = true := hw _ (List.mem_of_getElem? (i := 79) rfl)
theorem tw_78 {a0 : Array Value} {Z : State} (hw : HW a0 Z) : (Jvm.Cond.static ({ cls := "java/lang/StringUTF16", name := "newBytesFor", desc := "(I)[B" } : Jvm.MethodName)).before a0 Z = true := hw _ (List.mem_of_getElem? (i := 78) rfl)
theorem dF_4 : decode jdk_52_method_14_code 4 = .ok (.astore_n 3, 1) := by decide +kernel
theorem dF_5 : decode jdk_52_method_14_code 5 = .ok (.iconst 0, 1) := by decide +kernel
theorem dF_6 : decode jdk_52_method_14_code 6 = .ok (.istore 4, 2) := by decide +kernel
theorem dF_8 : decode jdk_52_method_14_code 8 = .ok (.iload 4, 2) := by decide +kernel
theorem dF_10 : decode jdk_52_method_14_code 10 = .ok (.iload_n 2, 1) := by decide +kernel
theorem dF_11 : decode jdk_52_method_14_code 11 = .ok (.if_icmp .ge 21, 3) := by decide +kernel
theorem dF_14 : decode jdk_52_method_14_code 14 = .ok (.aload_n 3, 1) := by decide +kernel
theorem dF_15 : decode jdk_52_method_14_code 15 = .ok (.iload 4, 2) := by decide +kernel
theorem dF_17 : decode jdk_52_method_14_code 17 = .ok (.aload_n 0, 1) := by decide +kernel
theorem dF_18 : decode jdk_52_method_14_code 18 = .ok (.iload_n 1, 1) := by decide +kernel
theorem dF_19 : decode jdk_52_method_14_code 19 = .ok (.caload, 1) := by decide +kernel
theorem dF_20 : decode jdk_52_method_14_code 20 = .ok (.invokestatic 111, 3) := by decide +kernel
theorem tw_84 {a0 : Array Value} {Z : State} (hw : HW a0 Z) : (Jvm.Cond.methodLink "java/lang/StringUTF16" (111 : Nat) ({ cls := "java/lang/StringUTF16", name := "putChar", desc := "([BII)V" } : Jvm.MethodName)).before a0 Z = true := hw _ (List.mem_of_getElem? (i := 84) rfl)
theorem pd_2 : parseMethodDescriptor "([BII)V" = some ⟨[(.array .byte), .int, .int], none⟩ := by decide +kernel
theorem tw_86 {a0 : Array Value} {Z : State} (hw : HW a0 Z) : (Jvm.Cond.code ({ cls := "java/lang/StringUTF16", name := "putChar", desc := "([BII)V" } : Jvm.MethodName) jdk_52_method_4_code (3 : Nat) (Option.none : Option Jvm.ClassFile.FieldType)).before a0 Z = true := hw _ (List.mem_of_getElem? (i := 86) rfl)
theorem tw_85 {a0 : Array Value} {Z : State} (hw : HW a0 Z) : (Jvm.Cond.static ({ cls := "java/lang/StringUTF16", name := "putChar", desc := "([BII)V" } : Jvm.MethodName)).before a0 Z = true := hw _ (List.mem_of_getElem? (i := 85) rfl)
theorem dF_23 : decode jdk_52_method_14_code 23 = .ok (.iinc 1 1, 3) := by decide +kernel
theorem dF_26 : decode jdk_52_method_14_code 26 = .ok (.iinc 4 1, 3) := by decide +kernel
theorem dF_29 : decode jdk_52_method_14_code 29 = .ok (.goto (-21), 3) := by decide +kernel
theorem dF_32 : decode jdk_52_method_14_code 32 = .ok (.aload_n 3, 1) := by decide +kernel
theorem dF_33 : decode jdk_52_method_14_code 33 = .ok (.areturn, 1) := by decide +kernel
def R18 : Room := { frames := 2, cells := 1, slots := 2, locals := 24 }
def Q18 (Z : State) (ca : Addr) (kc : ClassId) (u0 : Int32) (h0 : Heap) (v : Option Value) (h : Heap) : Prop := ∃ b : Addr, ∃ kb : ClassId, v = some (.ref b) ∧ Keep h0 h [] ∧ h0.size ≤ b ∧ Arv Z h b kb .byte (2 : Int32) [(.int (uL u0)), (.int (uH u0))] (.int 0)
theorem ef18 (ca : Addr) (m : MethodId) : entryFrame m #[(.ref ca), (.int 0), (.int 1)] 5 = mkF m 0 #[.val (.ref ca), .val (.int 0), .val (.int 1), .unset, .unset] [] := by first | (simp [entryFrame, mkF, argsToLocals, Value.category]; done) | rfl
theorem rm18 (hw : HW a0 Z) (ca : Addr) (kc : ClassId) (u0 : Int32) (h0 : Heap) (n0 : Nat) (Z0 : n0 ≤ h0.size) (O : Old Z n0 h0) (SA : uA Z) (SH : uS Z) (SL : uT Z) (Vc : Arv Z h0 ca kc .char (1 : Int32) [(.int u0)] (.int 0)) : OMet l Z [] (⟨"java/lang/StringUTF16", "toBytes", "([CII)[B"⟩ : MethodName) jdk_52_method_14_code 5 (some (.array .byte)) R18 #[(.ref ca), (.int 0), (.int 1)] h0 n0 (Q18 Z ca kc u0 h0) := by
  refine OMet.of (own := "java/lang/StringUTF16") rfl (plainFor_of_name pn_0) (ef18 ca) Z0 ?_
  intro p e s m below meth c T0 Y0 hnm
  refine Gl.iloadN Y0 rfl dF_0 rfl ?_
  refine Gl.callS Y0 (tw_77 hw) (tw_78 hw) (tw_44 hw) (tw_79 hw) (by decide) (rm15 l Z a0 hw h0 n0 Y0.sz) (argsL := [(.int 1)]) (rest := []) rfl rfl (lenOf pd_1 rfl) rfl (by decide) (nle rfl) (by decide) (by decide) dF_1 rfl (fun v1 T1 h1 Y1 q1 => ?_)
  obtain ⟨b1, kb1, rfl, K1, f1_0, f1_1⟩ := q1
  have Y1_sz : n0 ≤ h0.size := Y0.sz
  have KK1 : Keep h0 h1 [] := (Keep.refl h0 []).trans K1 all0
  have zb1 : h0.size ≤ b1 := Nat.le_trans (Keep.refl h0 []).1 f1_0
  show Gl p e below _ (T1.setTop (mkF m 4 _ [(.ref b1)]))
  refine Gl.astoreN Y1 rfl (L' := #[.val (.ref ca), .val (.int 0), .val (.int 1), .val (.ref b1), .unset]) rfl dF_4 rfl ?_
  refine Gl.iconst Y1 (v := (0 : Int32)) (by decide) dF_5 rfl ?_
  refine Gl.istore Y1 (L' := #[.val (.ref ca), .val (.int 0), .val (.int 1), .val (.ref b1), .val (.int 0)]) rfl dF_6 rfl ?_
  refine Gl.iload Y1 rfl dF_8 rfl ?_
  refine Gl.iloadN Y1 rfl dF_10 rfl ?_
  refine Gl.icmpge Y1 dF_11 (by decide) rfl rfl (fun c11 => ?_) (fun c11 => ?_)
  · exact absurd c11 (by decide)
  refine Gl.aloadN Y1 rfl rfl dF_14 rfl ?_
  refine Gl.iload Y1 rfl dF_15 rfl ?_
  refine Gl.aloadN Y1 rfl rfl dF_17 rfl ?_
  refine Gl.iloadN Y1 rfl dF_18 rfl ?_
  have f1 := (Vc.keep K1 nin0)
  refine Gl.caload Y1 f1 ⟨by decide, by decide⟩ (v := (.int u0)) rfl dF_19 rfl ?_
  have f2 := (O.keep K1 all0)
  refine Gl.callS Y1 (tw_84 hw) (tw_85 hw) (tw_44 hw) (tw_86 hw) (by decide) (rm16 l Z a0 hw b1 kb1 u0 h1 n0 Y1.sz f2 SA SH SL f1_1 (Nat.le_trans Y1_sz f1_0)) (argsL := [(.ref b1), (.int 0), (.int u0)]) (rest := []) rfl rfl (lenOf pd_2 rfl) rfl (by decide) (nle rfl) (by decide) (by decide) dF_20 rfl (fun v20 T20 h20 Y20 q20 => ?_)
  obtain ⟨rfl, K20, f20_0⟩ := q20
  have KK20 : Keep h0 h20 [] := KK1.trans K20 (allS (Or.inr zb1) all0)
  show Gl p e below _ (T20.setTop (mkF m 23 _ []))
  refine Gl.iinc Y20 rfl (r := (1 : Int32)) (by decide) (L' := #[.val (.ref ca), .val (.int 1), .val (.int 1), .val (.ref b1), .val (.int 0)]) rfl dF_23 rfl ?_
  refine Gl.iinc Y20 rfl (r := (1 : Int32)) (by decide) (L' := #[.val (.ref ca), .val (.int 1), .val (.int 1), .val (.ref b1), .val (.int 1)]) rfl dF_26 rfl ?_
  refine Gl.goto Y20 dF_29 (by decide) rfl ?_
  refine Gl.iload Y20 rfl dF_8 rfl ?_
  refine Gl.iloadN Y20 rfl dF_10 rfl ?_
  refine Gl.icmpge Y20 dF_11 (by decide) rfl rfl (fun c11_2 => ?_) (fun c11_2 => ?_)
  rotate_left
  · exact absurd c11_2 (by decide)
  refine Gl.aloadN Y20 rfl rfl dF_32 rfl ?_
  exact Gl.retA Y20 (by decide) (by decide) rfl rfl dF_33 ⟨b1, kb1, rfl, KK20, zb1, f20_0⟩
def R19 : Room := { frames := 0, cells := 0, slots := 0, locals := 0 }
def Q19 (Z : State) (h0 : Heap) (v : Option Value) (h : Heap) : Prop := v = some (.int 4) ∧ h0 = h
theorem ef19 (m : MethodId) : entryFrame m #[(.int 2)] 1 = mkF m 0 #[.val (.int 2)] [] := by first | (simp [entryFrame, mkF, argsToLocals, Value.category]; done) | rfl
theorem rm19 (hw : HW a0 Z) (h0 : Heap) (n0 : Nat) (Z0 : n0 ≤ h0.size) : OMet l Z [] (⟨"java/lang/StringUTF16", "newBytesLength", "(I)I"⟩ : MethodName) jdk_52_method_3_code 1 (some .int) R19 #[(.int 2)] h0 n0 (Q19 Z h0) := by
  refine OMet.of (own := "java/lang/StringUTF16") rfl (plainFor_of_name pn_0) (ef19) Z0 ?_
  intro p e s m below meth c T0 Y0 hnm
  refine Gl.iloadN Y0 rfl dB_0 rfl ?_
  refine Gl.ifge Y0 dB_1 (by decide) rfl rfl (fun c1 => ?_) (fun c1 => ?_)
  rotate_left
  · exact absurd c1 (by decide)
  refine Gl.iloadN Y0 rfl dB_12 rfl ?_
  refine Gl.ldcI Y0 (tw_83 hw) dB_13 rfl ?_
  refine Gl.icmplt Y0 dB_15 (by decide) rfl rfl (fun c15 => ?_) (fun c15 => ?_)
  rotate_left
  · exact absurd c15 (by decide)
  refine Gl.iloadN Y0 rfl dB_55 rfl ?_
  refine Gl.iconst Y0 (v := (1 : Int32)) (by decide) dB_56 rfl ?_
  refine Gl.ishl Y0 (r := (4 : Int32)) (by decide) dB_57 rfl ?_
  exact Gl.retI Y0 (by decide) (by decide)  dB_58 ⟨rfl, rfl⟩
def R20 : Room := { frames := 1, cells := 1, slots := 4, locals := 12 }
def Q20 (Z : State) (h0 : Heap) (v : Option Value) (h : Heap) : Prop := ∃ b : Addr, ∃ kb : ClassId, v = some (.ref b) ∧ Keep h0 h [] ∧ h0.size ≤ b ∧ Arv Z h b kb .byte (4 : Int32) [(.int 0), (.int 0), (.int 0), (.int 0)] (.int 0)
theorem ef20 (m : MethodId) : entryFrame m #[(.int 2)] 1 = mkF m 0 #[.val (.int 2)] [] := by first | (simp [entryFrame, mkF, argsToLocals, Value.category]; done) | rfl
theorem rm20 (hw : HW a0 Z) (h0 : Heap) (n0 : Nat) (Z0 : n0 ≤ h0.size) : OMet l Z [] (⟨"java/lang/StringUTF16", "newBytesFor", "(I)[B"⟩ : MethodName) jdk_52_method_2_code 1 (some (.array .byte)) R20 #[(.int 2)] h0 n0 (Q20 Z h0) := by
  refine OMet.of (own := "java/lang/StringUTF16") rfl (plainFor_of_name pn_0) (ef20) Z0 ?_
  intro p e s m below meth c T0 Y0 hnm
  refine Gl.iloadN Y0 rfl dC_0 rfl ?_
  refine Gl.callS Y0 (tw_80 hw) (tw_81 hw) (tw_44 hw) (tw_82 hw) (by decide) (rm19 l Z a0 hw h0 n0 Y0.sz) (argsL := [(.int 2)]) (rest := []) rfl rfl (lenOf pd_0 rfl) rfl (by decide) (nle rfl) (by decide) (by decide) dC_1 rfl (fun v1 T1 h1 Y1 q1 => ?_)
  obtain ⟨rfl, rfl⟩ := q1
  show Gl p e below _ (T1.setTop (mkF m 4 _ [(.int 4)]))
  refine Gl.newP Y1 4 (ty := .byte) rfl (tw_20 hw) (by decide) (by decide) (nle rfl) (nle rfl) (nle rfl) dC_4 rfl (fun T4 h4 b4 ck4 Y4 E4 g4 sb4 V4 => ?_)
  have V4 : Arv Z h4 b4 ck4 .byte (4 : Int32) [(.int 0), (.int 0), (.int 0), (.int 0)] (.int 0) := V4.pad (pad_rep [] (.int 0) 4)
  have zb4 : h0.size ≤ b4 := Nat.le_trans (Keep.refl h0 []).1 (Nat.le_of_eq g4.symm)
  have K4 : Keep h0 h4 [] := (Keep.refl h0 []).ext E4
  show Gl p e below _ (T4.setTop (mkF m 6 _ [(.ref b4)]))
  exact Gl.retA Y4 (by decide) (by decide) rfl rfl dC_6 ⟨b4, ck4, rfl, K4, zb4, V4⟩
def R21 : Room := { frames := 0, cells := 0, slots := 0, locals := 0 }
def Q21 (Z : State) (b : Addr) (kb : ClassId) (u0 u1 : Int32) (h0 : Heap) (v : Option Value) (h : Heap) : Prop := v = none ∧ Keep h0 h [b] ∧ Arv Z h b kb .byte (4 : Int32) [(.int (uL u0)), (.int (uH u0)), (.int 0), (.int 0)] (.int 0)
theorem ef21 (b : Addr) (u0 : Int32) (m : MethodId) : entryFrame m #[(.ref b), (.int 0), (.int u0)] 3 = mkF m 0 #[.val (.ref b), .val (.int 0), .val (.int u0)] [] := by first | (simp [entryFrame, mkF, argsToLocals, Value.category]; done) | rfl
theorem rm21 (hw : HW a0 Z) (b : Addr) (kb : ClassId) (u0 u1 : Int32) (h0 : Heap) (n0 : Nat) (Z0 : n0 ≤ h0.size) (O : Old Z n0 h0) (SA : uA Z) (SH : uS Z) (SL : uT Z) (Vb : Arv Z h0 b kb .byte (4 : Int32) [(.int 0), (.int 0), (.int 0), (.int 0)] (.int 0)) (gb : n0 ≤ b) : OMet l Z [] (⟨"java/lang/StringUTF16", "putChar", "([BII)V"⟩ : MethodName) jdk_52_method_4_code 3 none R21 #[(.ref b), (.int 0), (.int u0)] h0 n0 (Q21 Z b kb u0 u1 h0) := by
  refine OMet.of (own := "java/lang/StringUTF16") rfl (plainFor_of_name pn_0) (ef21 b u0) Z0 ?_
  intro p e s m below meth c T0 Y0 hnm
  refine Gl.getS Y0 (host := "") (Or.inl (tw_87 hw)) Via.refl (Sta.ext O.2 SA) dD_0 rfl (fun T0_2 Y0_2 => ?_)
  refine Gl.ifne Y0_2 dD_3 (by decide) rfl rfl (fun c3 => ?_) (fun c3 => ?_)
  rotate_left
  · exact absurd c3 (by decide)
  refine Gl.iloadN Y0_2 rfl dD_28 rfl ?_
  refine Gl.iconst Y0_2 (v := (1 : Int32)) (by decide) dD_29 rfl ?_
  refine Gl.ishl Y0_2 (r := (0 : Int32)) (by decide) dD_30 rfl ?_
  refine Gl.istoreN Y0_2 (L' := #[.val (.ref b), .val (.int 0), .val (.int u0)]) rfl dD_31 rfl ?_
  refine Gl.aloadN Y0_2 rfl rfl dD_32 rfl ?_
  refine Gl.iloadN Y0_2 rfl dD_33 rfl ?_
  refine Gl.iinc Y0_2 rfl (r := (1 : Int32)) (by decide) (L' := #[.val (.ref b), .val (.int 1), .val (.int u0)]) rfl dD_34 rfl ?_
  refine Gl.iloadN Y0_2 rfl dD_37 rfl ?_
  refine Gl.getS Y0_2 (host := "") (Or.inl (tw_88 hw)) Via.refl (Sta.ext O.2 SH) dD_38 rfl (fun T38 Y38 => ?_)
  refine Gl.ishr Y38 rfl dD_41 rfl ?_
  refine Gl.i2b Y38 rfl dD_42 rfl ?_
  refine Gl.bastore Y38 Vb (v := (.int ((u0 >>> ((0 : Int32) &&& 31)).toInt8.toInt32))) (congrArg Value.int (own_narB rfl)) ⟨by decide, by decide⟩ (ix := 0) rfl (nle rfl) gb dD_43 rfl (fun T43 h43 Y43 W43 A43 => ?_)
  have A43 : Arv Z h43 b kb .byte (4 : Int32) [(.int ((u0 >>> ((0 : Int32) &&& 31)).toInt8.toInt32)), (.int 0), (.int 0), (.int 0)] (.int 0) := A43
  have K43 : Keep h0 h43 [b] := (Keep.refl h0 [b]).wr W43 (Or.inl (List.mem_of_getElem? (i := 0) rfl))
  show Gl p e below _ (T43.setTop (mkF m 44 _ []))
  refine Gl.aloadN Y43 rfl rfl dD_44 rfl ?_
  refine Gl.iloadN Y43 rfl dD_45 rfl ?_
  refine Gl.iloadN Y43 rfl dD_46 rfl ?_
  have f1 := (O.wr W43 gb)
  refine Gl.getS Y43 (host := "") (Or.inl (tw_89 hw)) Via.refl (Sta.ext f1.2 SL) dD_47 rfl (fun T47 Y47 => ?_)
  refine Gl.ishr Y47 rfl dD_50 rfl ?_
  refine Gl.i2b Y47 rfl dD_51 rfl ?_
  refine Gl.bastore Y47 A43 (v := (.int ((u0 >>> ((8 : Int32) &&& 31)).toInt8.toInt32))) (congrArg Value.int (own_narB rfl)) ⟨by decide, by decide⟩ (ix := 1) rfl (nle rfl) gb dD_52 rfl (fun T52 h52 Y52 W52 A52 => ?_)
  have A52 : Arv Z h52 b kb .byte (4 : Int32) [(.int ((u0 >>> ((0 : Int32) &&& 31)).toInt8.toInt32)), (.int ((u0 >>> ((8 : Int32) &&& 31)).toInt8.toInt32)), (.int 0), (.int 0)] (.int 0) := A52
  have K52 : Keep h0 h52 [b] := K43.wr W52 (Or.inl (List.mem_of_getElem? (i := 0) rfl))
  show Gl p e below _ (T52.setTop (mkF m 53 _ []))
  exact Gl.retV Y52 (by decide) (by decide)  dD_53 ⟨rfl, K52, A52⟩
def R22 : Room := { frames := 0, cells := 0, slots := 0, locals := 0 }
def Q22 (Z : State) (b : Addr) (kb : ClassId) (u0 u1 : Int32) (h0 : Heap) (v : Option Value) (h : Heap) : Prop := v = some (.int u0) ∧ h0 = h
theorem ef22 (b : Addr) (m : MethodId) : entryFrame m #[(.ref b), (.int 0)] 2 = mkF m 0 #[.val (.ref b), .val (.int 0)] [] := by first | (simp [entryFrame, mkF, argsToLocals, Value.category]; done) | rfl
theorem rm22 (hw : HW a0 Z) (b : Addr) (kb : ClassId) (u0 u1 : Int32) (h0 : Heap) (n0 : Nat) (Z0 : n0 ≤ h0.size) (O : Old Z n0 h0) (SA : uA Z) (SH : uS Z) (SL : uT Z) (Vb : Arv Z h0 b kb .byte (4 : Int32) [(.int (uL u0)), (.int (uH u0)), (.int (uL u1)), (.int (uH u1))] (.int 0)) (r_u0 : C16 u0) (r_u1 : C16 u1) : OMet l Z [] (⟨"java/lang/StringUTF16", "getChar", "([BI)C"⟩ : MethodName) jdk_52_method_5_code 2 (some .char) R22 #[(.ref b), (.int 0)] h0 n0 (Q22 Z b kb u0 u1 h0) := by
  refine OMet.of (own := "java/lang/StringUTF16") rfl (plainFor_of_name pn_0) (ef22 b) Z0 ?_
  intro p e s m below meth c T0 Y0 hnm
  refine Gl.getS Y0 (host := "") (Or.inl (tw_87 hw)) Via.refl (Sta.ext O.2 SA) dE_0 rfl (fun T0_2 Y0_2 => ?_)
  refine Gl.ifne Y0_2 dE_3 (by decide) rfl rfl (fun c3 => ?_) (fun c3 => ?_)
  rotate_left
  · exact absurd c3 (by decide)
  refine Gl.iloadN Y0_2 rfl dE_28 rfl ?_
  refine Gl.iconst Y0_2 (v := (1 : Int32)) (by decide) dE_29 rfl ?_
  refine Gl.ishl Y0_2 (r := (0 : Int32)) (by decide) dE_30 rfl ?_
  refine Gl.istoreN Y0_2 (L' := #[.val (.ref b), .val (.int 0)]) rfl dE_31 rfl ?_
  refine Gl.aloadN Y0_2 rfl rfl dE_32 rfl ?_
  refine Gl.iloadN Y0_2 rfl dE_33 rfl ?_
  refine Gl.iinc Y0_2 rfl (r := (1 : Int32)) (by decide) (L' := #[.val (.ref b), .val (.int 1)]) rfl dE_34 rfl ?_
  refine Gl.baload Y0_2 Vb ⟨by decide, by decide⟩ (v := (.int (uL u0))) rfl dE_37 rfl ?_
  refine Gl.sipush Y0_2 (v := (255 : Int32)) (by decide) dE_38 rfl ?_
  refine Gl.iand Y0_2 rfl dE_41 rfl ?_
  refine Gl.getS Y0_2 (host := "") (Or.inl (tw_88 hw)) Via.refl (Sta.ext O.2 SH) dE_42 rfl (fun T42 Y42 => ?_)
  refine Gl.ishl Y42 rfl dE_45 rfl ?_
  refine Gl.aloadN Y42 rfl rfl dE_46 rfl ?_
  refine Gl.iloadN Y42 rfl dE_47 rfl ?_
  refine Gl.baload Y42 Vb ⟨by decide, by decide⟩ (v := (.int (uH u0))) rfl dE_48 rfl ?_
  refine Gl.sipush Y42 (v := (255 : Int32)) (by decide) dE_49 rfl ?_
  refine Gl.iand Y42 rfl dE_52 rfl ?_
  refine Gl.getS Y42 (host := "") (Or.inl (tw_89 hw)) Via.refl (Sta.ext O.2 SL) dE_53 rfl (fun T53 Y53 => ?_)
  refine Gl.ishl Y53 rfl dE_56 rfl ?_
  refine Gl.ior Y53 rfl dE_57 rfl ?_
  refine Gl.i2c Y53 rfl dE_58 rfl ?_
  exact Gl.retC Y53 (by decide) (by decide) (x' := u0) ((own_narC rfl).trans (own_gc u0 r_u0)) dE_59 ⟨rfl, rfl⟩
def R23 : Room := { frames := 0, cells := 0, slots := 0, locals := 0 }
def Q23 (Z : State) (b : Addr) (kb : ClassId) (u0 u1 : Int32) (h0 : Heap) (v : Option Value) (h : Heap) : Prop := v = none ∧ Keep h0 h [b] ∧ Arv Z h b kb .byte (4 : Int32) [(.int (uL u0)), (.int (uH u0)), (.int (uL u1)), (.int (uH u1))] (.int 0)
theorem ef23 (b : Addr) (u1 : Int32) (m : MethodId) : entryFrame m #[(.ref b), (.int 1), (.int u1)] 3 = mkF m 0 #[.val (.ref b), .val (.int 1), .val (.int u1)] [] := by first | (simp [entryFrame, mkF, argsToLocals, Value.category]; done) | rfl
theorem rm23 (hw : HW a0 Z) (b : Addr) (kb : ClassId) (u0 u1 : Int32) (h0 : Heap) (n0 : Nat) (Z0 : n0 ≤ h0.size) (O : Old Z n0 h0) (SA : uA Z) (SH : uS Z) (SL : uT Z) (Vb : Arv Z h0 b kb .byte (4 : Int32) [(.int (uL u0)), (.int (uH u0)), (.int 0), (.int 0)] (.int 0)) (gb : n0 ≤ b) : OMet l Z [] (⟨"java/lang/StringUTF16", "putChar", "([BII)V"⟩ : MethodName) jdk_52_method_4_code 3 none R23 #[(.ref b), (.int 1), (.int u1)] h0 n0 (Q23 Z b kb u0 u1 h0) := by
  refine OMet.of (own := "java/lang/StringUTF16") rfl (plainFor_of_name pn_0) (ef23 b u1) Z0 ?_
  intro p e s m below meth c T0 Y0 hnm
  refine Gl.getS Y0 (host := "") (Or.inl (tw_87 hw)) Via.refl (Sta.ext O.2 SA) dD_0 rfl (fun T0_2 Y0_2 => ?_)
  refine Gl.ifne Y0_2 dD_3 (by decide) rfl rfl (fun c3 => ?_) (fun c3 => ?_)
  rotate_left
  · exact absurd c3 (by decide)
  refine Gl.iloadN Y0_2 rfl dD_28 rfl ?_
  refine Gl.iconst Y0_2 (v := (1 : Int32)) (by decide) dD_29 rfl ?_
  refine Gl.ishl Y0_2 (r := (2 : Int32)) (by decide) dD_30 rfl ?_
  refine Gl.istoreN Y0_2 (L' := #[.val (.ref b), .val (.int 2), .val (.int u1)]) rfl dD_31 rfl ?_
  refine Gl.aloadN Y0_2 rfl rfl dD_32 rfl ?_
  refine Gl.iloadN Y0_2 rfl dD_33 rfl ?_
  refine Gl.iinc Y0_2 rfl (r := (3 : Int32)) (by decide) (L' := #[.val (.ref b), .val (.int 3), .val (.int u1)]) rfl dD_34 rfl ?_
  refine Gl.iloadN Y0_2 rfl dD_37 rfl ?_
  refine Gl.getS Y0_2 (host := "") (Or.inl (tw_88 hw)) Via.refl (Sta.ext O.2 SH) dD_38 rfl (fun T38 Y38 => ?_)
  refine Gl.ishr Y38 rfl dD_41 rfl ?_
  refine Gl.i2b Y38 rfl dD_42 rfl ?_
  refine Gl.bastore Y38 Vb (v := (.int ((u1 >>> ((0 : Int32) &&& 31)).toInt8.toInt32))) (congrArg Value.int (own_narB rfl)) ⟨by decide, by decide⟩ (ix := 2) rfl (nle rfl) gb dD_43 rfl (fun T43 h43 Y43 W43 A43 => ?_)
  have A43 : Arv Z h43 b kb .byte (4 : Int32) [(.int (uL u0)), (.int (uH u0)), (.int ((u1 >>> ((0 : Int32) &&& 31)).toInt8.toInt32)), (.int 0)] (.int 0) := A43
  have K43 : Keep h0 h43 [b] := (Keep.refl h0 [b]).wr W43 (Or.inl (List.mem_of_getElem? (i := 0) rfl))
  show Gl p e below _ (T43.setTop (mkF m 44 _ []))
  refine Gl.aloadN Y43 rfl rfl dD_44 rfl ?_
  refine Gl.iloadN Y43 rfl dD_45 rfl ?_
  refine Gl.iloadN Y43 rfl dD_46 rfl ?_
  have f1 := (O.wr W43 gb)
  refine Gl.getS Y43 (host := "") (Or.inl (tw_89 hw)) Via.refl (Sta.ext f1.2 SL) dD_47 rfl (fun T47 Y47 => ?_)
  refine Gl.ishr Y47 rfl dD_50 rfl ?_
  refine Gl.i2b Y47 rfl dD_51 rfl ?_
  refine Gl.bastore Y47 A43 (v := (.int ((u1 >>> ((8 : Int32) &&& 31)).toInt8.toInt32))) (congrArg Value.int (own_narB rfl)) ⟨by decide, by decide⟩ (ix := 3) rfl (nle rfl) gb dD_52 rfl (fun T52 h52 Y52 W52 A52 => ?_)
  have A52 : Arv Z h52 b kb .byte (4 : Int32) [(.int (uL u0)), (.int (uH u0)), (.int ((u1 >>> ((0 : Int32) &&& 31)).toInt8.toInt32)), (.int ((u1 >>> ((8 : Int32) &&& 31)).toInt8.toInt32))] (.int 0) := A52
  have K52 : Keep h0 h52 [b] := K43.wr W52 (Or.inl (List.mem_of_getElem? (i := 0) rfl))
  show Gl p e below _ (T52.setTop (mkF m 53 _ []))
  exact Gl.retV Y52 (by decide) (by decide)  dD_53 ⟨rfl, K52, A52⟩
def R24 : Room := { frames := 0, cells := 0, slots := 0, locals := 0 }
def Q24 (Z : State) (b : Addr) (kb : ClassId) (u0 u1 : Int32) (h0 : Heap) (v : Option Value) (h : Heap) : Prop := v = some (.int u1) ∧ h0 = h
theorem ef24 (b : Addr) (m : MethodId) : entryFrame m #[(.ref b), (.int 1)] 2 = mkF m 0 #[.val (.ref b), .val (.int 1)] [] := by first | (simp [entryFrame, mkF, argsToLocals, Value.category]; done) | rfl
theorem rm24 (hw : HW a0 Z) (b : Addr) (kb : ClassId) (u0 u1 : Int32) (h0 : Heap) (n0 : Nat) (Z0 : n0 ≤ h0.size) (O : Old Z n0 h0) (SA : uA Z) (SH : uS Z) (SL : uT Z) (Vb : Arv Z h0 b kb .byte (4 : Int32) [(.int (uL u0)), (.int (uH u0)), (.int (uL u1)), (.int (uH u1))] (.int 0)) (r_u0 : C16 u0) (r_u1 : C16 u1) : OMet l Z [] (⟨"java/lang/StringUTF16", "getChar", "([BI)C"⟩ : MethodName) jdk_52_method_5_code 2 (some .char) R24 #[(.ref b), (.int 1)] h0 n0 (Q24 Z b kb u0 u1 h0) := by
  refine OMet.of (own := "java/lang/StringUTF16") rfl (plainFor_of_name pn_0) (ef24 b) Z0 ?_
  intro p e s m below meth c T0 Y0 hnm
  refine Gl.getS Y0 (host := "") (Or.inl (tw_87 hw)) Via.refl (Sta.ext O.2 SA) dE_0 rfl (fun T0_2 Y0_2 => ?_)
  refine Gl.ifne Y0_2 dE_3 (by decide) rfl rfl (fun c3 => ?_) (fun c3 => ?_)
  rotate_left
  · exact absurd c3 (by decide)
  refine Gl.iloadN Y0_2 rfl dE_28 rfl ?_
  refine Gl.iconst Y0_2 (v := (1 : Int32)) (by decide) dE_29 rfl ?_
  refine Gl.ishl Y0_2 (r := (2 : Int32)) (by decide) dE_30 rfl ?_
  refine Gl.istoreN Y0_2 (L' := #[.val (.ref b), .val (.int 2)]) rfl dE_31 rfl ?_
  refine Gl.aloadN Y0_2 rfl rfl dE_32 rfl ?_
  refine Gl.iloadN Y0_2 rfl dE_33 rfl ?_
  refine Gl.iinc Y0_2 rfl (r := (3 : Int32)) (by decide) (L' := #[.val (.ref b), .val (.int 3)]) rfl dE_34 rfl ?_
  refine Gl.baload Y0_2 Vb ⟨by decide, by decide⟩ (v := (.int (uL u1))) rfl dE_37 rfl ?_
  refine Gl.sipush Y0_2 (v := (255 : Int32)) (by decide) dE_38 rfl ?_
  refine Gl.iand Y0_2 rfl dE_41 rfl ?_
  refine Gl.getS Y0_2 (host := "") (Or.inl (tw_88 hw)) Via.refl (Sta.ext O.2 SH) dE_42 rfl (fun T42 Y42 => ?_)
  refine Gl.ishl Y42 rfl dE_45 rfl ?_
  refine Gl.aloadN Y42 rfl rfl dE_46 rfl ?_
  refine Gl.iloadN Y42 rfl dE_47 rfl ?_
  refine Gl.baload Y42 Vb ⟨by decide, by decide⟩ (v := (.int (uH u1))) rfl dE_48 rfl ?_
  refine Gl.sipush Y42 (v := (255 : Int32)) (by decide) dE_49 rfl ?_
  refine Gl.iand Y42 rfl dE_52 rfl ?_
  refine Gl.getS Y42 (host := "") (Or.inl (tw_89 hw)) Via.refl (Sta.ext O.2 SL) dE_53 rfl (fun T53 Y53 => ?_)
  refine Gl.ishl Y53 rfl dE_56 rfl ?_
  refine Gl.ior Y53 rfl dE_57 rfl ?_
  refine Gl.i2c Y53 rfl dE_58 rfl ?_
  exact Gl.retC Y53 (by decide) (by decide) (x' := u1) ((own_narC rfl).trans (own_gc u1 r_u1)) dE_59 ⟨rfl, rfl⟩
def R25 : Room := { frames := 2, cells := 1, slots := 4, locals := 24 }
def Q25 (Z : State) (ca : Addr) (kc : ClassId) (u0 u1 : Int32) (h0 : Heap) (v : Option Value) (h : Heap) : Prop := ∃ b : Addr, ∃ kb : ClassId, v = some (.ref b) ∧ Keep h0 h [] ∧ h0.size ≤ b ∧ Arv Z h b kb .byte (4 : Int32) [(.int (uL u0)), (.int (uH u0)), (.int (uL u1)), (.int (uH u1))] (.int 0)
theorem ef25 (ca : Addr) (m : MethodId) : entryFrame m #[(.ref ca), (.int 0), (.int 2)] 5 = mkF m 0 #[.val (.ref ca), .val (.int 0), .val (.int 2), .unset, .unset] [] := by first | (simp [entryFrame, mkF, argsToLocals, Value.category]; done) | rfl
theorem rm25 (hw : HW a0 Z) (ca : Addr) (kc : ClassId) (u0 u1 : Int32) (h0 : Heap) (n0 : Nat) (Z0 : n0 ≤ h0.size) (O : Old Z n0 h0) (SA : uA Z) (SH : uS Z) (SL : uT Z) (Vc : Arv Z h0 ca kc .char (2 : Int32) [(.int u0), (.int u1)] (.int 0)) : OMet l Z [] (⟨"java/lang/StringUTF16", "toBytes", "([CII)[B"⟩ : MethodName) jdk_52_method_14_code 5 (some (.array .byte)) R25 #[(.ref ca), (.int 0), (.int 2)] h0 n0 (Q25 Z ca kc u0 u1 h0) := by
  refine OMet.of (own := "java/lang/StringUTF16") rfl (plainFor_of_name pn_0) (ef25 ca) Z0 ?_
  intro p e s m below meth c T0 Y0 hnm
  refine Gl.iloadN Y0 rfl dF_0 rfl ?_
  refine Gl.callS Y0 (tw_77 hw) (tw_78 hw) (tw_44 hw) (tw_79 hw) (by decide) (rm20 l Z a0 hw h0 n0 Y0.sz) (argsL := [(.int 2)]) (rest := []) rfl rfl (lenOf pd_1 rfl) rfl (by decide) (nle rfl) (by decide) (by decide) dF_1 rfl (fun v1 T1 h1 Y1 q1 => ?_)
  obtain ⟨b1, kb1, rfl, K1, f1_0, f1_1⟩ := q1
  have Y1_sz : n0 ≤ h0.size := Y0.sz
  have KK1 : Keep h0 h1 [] := (Keep.refl h0 []).trans K1 all0
  have zb1 : h0.size ≤ b1 := Nat.le_trans (Keep.refl h0 []).1 f1_0
  show Gl p e below _ (T1.setTop (mkF m 4 _ [(.ref b1)]))
  refine Gl.astoreN Y1 rfl (L' := #[.val (.ref ca), .val (.int 0), .val (.int 2), .val (.ref b1), .unset]) rfl dF_4 rfl ?_
  refine Gl.iconst Y1 (v := (0 : Int32)) (by decide) dF_5 rfl ?_
  refine Gl.istore Y1 (L' := #[.val (.ref ca), .val (.int 0), .val (.int 2), .val (.ref b1), .val (.int 0)]) rfl dF_6 rfl ?_
  refine Gl.iload Y1 rfl dF_8 rfl ?_
  refine Gl.iloadN Y1 rfl dF_10 rfl ?_
  refine Gl.icmpge Y1 dF_11 (by decide) rfl rfl (fun c11 => ?_) (fun c11 => ?_)
  · exact absurd c11 (by decide)
  refine Gl.aloadN Y1 rfl rfl dF_14 rfl ?_
  refine Gl.iload Y1 rfl dF_15 rfl ?_
  refine Gl.aloadN Y1 rfl rfl dF_17 rfl ?_
  refine Gl.iloadN Y1 rfl dF_18 rfl ?_
  have f1 := (Vc.keep K1 nin0)
  refine Gl.caload Y1 f1 ⟨by decide, by decide⟩ (v := (.int u0)) rfl dF_19 rfl ?_
  have f2 := (O.keep K1 all0)
  refine Gl.callS Y1 (tw_84 hw) (tw_85 hw) (tw_44 hw) (tw_86 hw) (by decide) (rm21 l Z a0 hw b1 kb1 u0 u1 h1 n0 Y1.sz f2 SA SH SL f1_1 (Nat.le_trans Y1_sz f1_0)) (argsL := [(.ref b1), (.int 0), (.int u0)]) (rest := []) rfl rfl (lenOf pd_2 rfl) rfl (by decide) (nle rfl) (by decide) (by decide) dF_20 rfl (fun v20 T20 h20 Y20 q20 => ?_)
  obtain ⟨rfl, K20, f20_0⟩ := q20
  have KK20 : Keep h0 h20 [] := KK1.trans K20 (allS (Or.inr zb1) all0)
  show Gl p e below _ (T20.setTop (mkF m 23 _ []))
  refine Gl.iinc Y20 rfl (r := (1 : Int32)) (by decide) (L' := #[.val (.ref ca), .val (.int 1), .val (.int 2), .val (.ref b1), .val (.int 0)]) rfl dF_23 rfl ?_
  refine Gl.iinc Y20 rfl (r := (1 : Int32)) (by decide) (L' := #[.val (.ref ca), .val (.int 1), .val (.int 2), .val (.ref b1), .val (.int 1)]) rfl dF_26 rfl ?_
  refine Gl.goto Y20 dF_29 (by decide) rfl ?_
  refine Gl.iload Y20 rfl dF_8 rfl ?_
  refine Gl.iloadN Y20 rfl dF_10 rfl ?_
  refine Gl.icmpge Y20 dF_11 (by decide) rfl rfl (fun c11_2 => ?_) (fun c11_2 => ?_)
  · exact absurd c11_2 (by decide)
  refine Gl.aloadN Y20 rfl rfl dF_14 rfl ?_
  refine Gl.iload Y20 rfl dF_15 rfl ?_
  refine Gl.aloadN Y20 rfl rfl dF_17 rfl ?_
  refine Gl.iloadN Y20 rfl dF_18 rfl ?_
  have f3 := (f1.keep K20 (ninS (Nat.ne_of_lt (Nat.lt_of_lt_of_le Vc.lt f1_0)) nin0))
  refine Gl.caload Y20 f3 ⟨by decide, by decide⟩ (v := (.int u1)) rfl dF_19 rfl ?_
  have f4 := (f2.keep K20 (allS (Nat.le_trans Y1_sz f1_0) all0))
  refine Gl.callS Y20 (tw_84 hw) (tw_85 hw) (tw_44 hw) (tw_86 hw) (by decide) (rm23 l Z a0 hw b1 kb1 u0 u1 h20 n0 Y20.sz f4 SA SH SL f20_0 (Nat.le_trans Y1_sz f1_0)) (argsL := [(.ref b1), (.int 1), (.int u1)]) (rest := []) rfl rfl (lenOf pd_2 rfl) rfl (by decide) (nle rfl) (by decide) (by decide) dF_20 rfl (fun v20_2 T20_2 h20_2 Y20_2 q20_2 => ?_)
  obtain ⟨rfl, K20_2, f20_2_0⟩ := q20_2
  have KK20_2 : Keep h0 h20_2 [] := KK20.trans K20_2 (allS (Or.inr zb1) all0)
  show Gl p e below _ (T20_2.setTop (mkF m 23 _ []))
  refine Gl.iinc Y20_2 rfl (r := (2 : Int32)) (by decide) (L' := #[.val (.ref ca), .val (.int 2), .val (.int 2), .val (.ref b1), .val (.int 1)]) rfl dF_23 rfl ?_
  refine Gl.iinc Y20_2 rfl (r := (2 : Int32)) (by decide) (L' := #[.val (.ref ca), .val (.int 2), .val (.int 2), .val (.ref b1), .val (.int 2)]) rfl dF_26 rfl ?_
  refine Gl.goto Y20_2 dF_29 (by decide) rfl ?_
  refine Gl.iload Y20_2 rfl dF_8 rfl ?_
  refine Gl.iloadN Y20_2 rfl dF_10 rfl ?_
  refine Gl.icmpge Y20_2 dF_11 (by decide) rfl rfl (fun c11_3 => ?_) (fun c11_3 => ?_)
  rotate_left
  · exact absurd c11_3 (by decide)
  refine Gl.aloadN Y20_2 rfl rfl dF_32 rfl ?_
  exact Gl.retA Y20_2 (by decide) (by decide) rfl rfl dF_33 ⟨b1, kb1, rfl, KK20_2, zb1, f20_2_0⟩
def R26 : Room := { frames := 0, cells := 0, slots := 0, locals := 0 }
def Q26 (Z : State) (h0 : Heap) (v : Option Value) (h : Heap) : Prop := v = some (.int 6) ∧ h0 = h
theorem ef26 (m : MethodId) : entryFrame m #[(.int 3)] 1 = mkF m 0 #[.val (.int 3)] [] := by first | (simp [entryFrame, mkF, argsToLocals, Value.category]; done) | rfl
theorem rm26 (hw : HW a0 Z) (h0 : Heap) (n0 : Nat) (Z0 : n0 ≤ h0.size) : OMet l Z [] (⟨"java/lang/StringUTF16", "newBytesLength", "(I)I"⟩ : MethodName) jdk_52_method_3_code 1 (some .int) R26 #[(.int 3)] h0 n0 (Q26 Z h0) := by
  refine OMet.of (own := "java/lang/StringUTF16") rfl (plainFor_of_name pn_0) (ef26) Z0 ?_
  intro p e s m below meth c T0 Y0 hnm
  refine Gl.iloadN Y0 rfl dB_0 rfl ?_
  refine Gl.ifge Y0 dB_1 (by decide) rfl rfl (fun c1 => ?_) (fun c1 => ?_)
  rotate_left
  · exact absurd c1 (by decide)
  refine Gl.iloadN Y0 rfl dB_12 rfl ?_
  refine Gl.ldcI Y0 (tw_83 hw) dB_13 rfl ?_
  refine Gl.icmplt Y0 dB_15 (by decide) rfl rfl (fun c15 => ?_) (fun c15 => ?_)
  rotate_left
  · exact absurd c15 (by decide)
  refine Gl.iloadN Y0 rfl dB_55 rfl ?_
  refine Gl.iconst Y0 (v := (1 : Int32)) (by decide) dB_56 rfl ?_
  refine Gl.ishl Y0 (r := (6 : Int32)) (by decide) dB_57 rfl ?_
  exact Gl.retI Y0 (by decide) (by decide)  dB_58 ⟨rfl, rfl⟩
def R27 : Room := { frames := 1, cells := 1, slots := 6, locals := 12 }
def Q27 (Z : State) (h0 : Heap) (v : Option Value) (h : Heap) : Prop := ∃ b : Addr, ∃ kb : ClassId, v = some (.ref b) ∧ Keep h0 h [] ∧ h0.size ≤ b ∧ Arv Z h b kb .byte (6 : Int32) [(.int 0), (.int 0), (.int 0), (.int 0), (.int 0), (.int 0)] (.int 0)
theorem ef27 (m : MethodId) : entryFrame m #[(.int 3)] 1 = mkF m 0 #[.val (.int 3)] [] := by first | (simp [entryFrame, mkF, argsToLocals, Value.category]; done) | rfl
theorem rm27 (hw : HW a0 Z) (h0 : Heap) (n0 : Nat) (Z0 : n0 ≤ h0.size) : OMet l Z [] (⟨"java/lang/StringUTF16", "newBytesFor", "(I)[B"⟩ : MethodName) jdk_52_method_2_code 1 (some (.array .byte)) R27 #[(.int 3)] h0 n0 (Q27 Z h0) := by
  refine OMet.of (own := "java/lang/StringUTF16") rfl (plainFor_of_name pn_0) (ef27) Z0 ?_
  intro p e s m below meth c T0 Y0 hnm
  refine Gl.iloadN Y0 rfl dC_0 rfl ?_
  refine Gl.callS Y0 (tw_80 hw) (tw_81 hw) (tw_44 hw) (tw_82 hw) (by decide) (rm26 l Z a0 hw h0 n0 Y0.sz) (argsL := [(.int 3)]) (rest := []) rfl rfl (lenOf pd_0 rfl) rfl (by decide) (nle rfl) (by decide) (by decide) dC_1 rfl (fun v1 T1 h1 Y1 q1 => ?_)
  obtain ⟨rfl, rfl⟩ := q1
  show Gl p e below _ (T1.setTop (mkF m 4 _ [(.int 6)]))
  refine Gl.newP Y1 6 (ty := .byte) rfl (tw_20 hw) (by decide) (by decide) (nle rfl) (nle rfl) (nle rfl) dC_4 rfl (fun T4 h4 b4 ck4 Y4 E4 g4 sb4 V4 => ?_)
  have V4 : Arv Z h4 b4 ck4 .byte (6 : Int32) [(.int 0), (.int 0), (.int 0), (.int 0), (.int 0), (.int 0)] (.int 0) := V4.pad (pad_rep [] (.int 0) 6)
  have zb4 : h0.size ≤ b4 := Nat.le_trans (Keep.refl h0 []).1 (Nat.le_of_eq g4.symm)
  have K4 : Keep h0 h4 [] := (Keep.refl h0 []).ext E4
  show Gl p e below _ (T4.setTop (mkF m 6 _ [(.ref b4)]))
  exact Gl.retA Y4 (by decide) (by decide) rfl rfl dC_6 ⟨b4, ck4, rfl, K4, zb4, V4⟩
def R28 : Room := { frames := 0, cells := 0, slots := 0, locals := 0 }
def Q28 (Z : State) (b : Addr) (kb : ClassId) (u0 u1 u2 : Int32) (h0 : Heap) (v : Option Value) (h : Heap) : Prop := v = none ∧ Keep h0 h [b] ∧ Arv Z h b kb .byte (6 : Int32) [(.int (uL u0)), (.int (uH u0)), (.int 0), (.int 0), (.int 0), (.int 0)] (.int 0)
theorem ef28 (b : Addr) (u0 : Int32) (m : MethodId) : entryFrame m #[(.ref b), (.int 0), (.int u0)] 3 = mkF m 0 #[.val (.ref b), .val (.int 0), .val (.int u0)] [] := by first | (simp [entryFrame, mkF, argsToLocals, Value.category]; done) | rfl
theorem rm28 (hw : HW a0 Z) (b : Addr) (kb : ClassId) (u0 u1 u2 : Int32) (h0 : Heap) (n0 : Nat) (Z0 : n0 ≤ h0.size) (O : Old Z n0 h0) (SA : uA Z) (SH : uS Z) (SL : uT Z) (Vb : Arv Z h0 b kb .byte (6 : Int32) [(.int 0), (.int 0), (.int 0), (.int 0), (.int 0), (.int 0)] (.int 0)) (gb : n0 ≤ b) : OMet l Z [] (⟨"java/lang/StringUTF16", "putChar", "([BII)V"⟩ : MethodName) jdk_52_method_4_code 3 none R28 #[(.ref b), (.int 0), (.int u0)] h0 n0 (Q28 Z b kb u0 u1 u2 h0) := by
  refine OMet.of (own := "java/lang/StringUTF16") rfl (plainFor_of_name pn_0) (ef28 b u0) Z0 ?_
  intro p e s m below meth c T0 Y0 hnm
  refine Gl.getS Y0 (host := "") (Or.inl (tw_87 hw)) Via.refl (Sta.ext O.2 SA) dD_0 rfl (fun T0_2 Y0_2 => ?_)
  refine Gl.ifne Y0_2 dD_3 (by decide) rfl rfl (fun c3 => ?_) (fun c3 => ?_)
  rotate_left
  · exact absurd c3 (by decide)
  refine Gl.iloadN Y0_2 rfl dD_28 rfl ?_
  refine Gl.iconst Y0_2 (v := (1 : Int32)) (by decide) dD_29 rfl ?_
  refine Gl.ishl Y0_2 (r := (0 : Int32)) (by decide) dD_30 rfl ?_
  refine Gl.istoreN Y0_2 (L' := #[.val (.ref b), .val (.int 0), .val (.int u0)]) rfl dD_31 rfl ?_
  refine Gl.aloadN Y0_2 rfl rfl dD_32 rfl ?_
  refine Gl.iloadN Y0_2 rfl dD_33 rfl ?_
  refine Gl.iinc Y0_2 rfl (r := (1 : Int32)) (by decide) (L' := #[.val (.ref b), .val (.int 1), .val (.int u0)]) rfl dD_34 rfl ?_
  refine Gl.iloadN Y0_2 rfl dD_37 rfl ?_
  refine Gl.getS Y0_2 (host := "") (Or.inl (tw_88 hw)) Via.refl (Sta.ext O.2 SH) dD_38 rfl (fun T38 Y38 => ?_)
  refine Gl.ishr Y38 rfl dD_41 rfl ?_
  refine Gl.i2b Y38 rfl dD_42 rfl ?_
  refine Gl.bastore Y38 Vb (v := (.int ((u0 >>> ((0 : Int32) &&& 31)).toInt8.toInt32))) (congrArg Value.int (own_narB rfl)) ⟨by decide, by decide⟩ (ix := 0) rfl (nle rfl) gb dD_43 rfl (fun T43 h43 Y43 W43 A43 => ?_)
  have A43 : Arv Z h43 b kb .byte (6 : Int32) [(.int ((u0 >>> ((0 : Int32) &&& 31)).toInt8.toInt32)), (.int 0), (.int 0), (.int 0), (.int 0), (.int 0)] (.int 0) := A43
  have K43 : Keep h0 h43 [b] := (Keep.refl h0 [b]).wr W43 (Or.inl (List.mem_of_getElem? (i := 0) rfl))
  show Gl p e below _ (T43.setTop (mkF m 44 _ []))
  refine Gl.aloadN Y43 rfl rfl dD_44 rfl ?_
  refine Gl.iloadN Y43 rfl dD_45 rfl ?_
  refine Gl.iloadN Y43 rfl dD_46 rfl ?_
  have f1 := (O.wr W43 gb)
  refine Gl.getS Y43 (host := "") (Or.inl (tw_89 hw)) Via.refl (Sta.ext f1.2 SL) dD_47 rfl (fun T47 Y47 => ?_)
  refine Gl.ishr Y47 rfl dD_50 rfl ?_
  refine Gl.i2b Y47 rfl dD_51 rfl ?_
  refine Gl.bastore Y47 A43 (v := (.int ((u0 >>> ((8 : Int32) &&& 31)).toInt8.toInt32))) (congrArg Value.int (own_narB rfl)) ⟨by decide, by decide⟩ (ix := 1) rfl (nle rfl) gb dD_52 rfl (fun T52 h52 Y52 W52 A52 => ?_)
  have A52 : Arv Z h52 b kb .byte (6 : Int32) [(.int ((u0 >>> ((0 : Int32) &&& 31)).toInt8.toInt32)), (.int ((u0 >>> ((8 : Int32) &&& 31)).toInt8.toInt32)), (.int 0), (.int 0), (.int 0), (.int 0)] (.int 0) := A52
  have K52 : Keep h0 h52 [b] := K43.wr W52 (Or.inl (List.mem_of_getElem? (i := 0) rfl))
  show Gl p e below _ (T52.setTop (mkF m 53 _ []))
  exact Gl.retV Y52 (by decide) (by decide)  dD_53 ⟨rfl, K52, A52⟩
def R29 : Room := { frames := 0, cells := 0, slots := 0, locals := 0 }
def Q29 (Z : State) (b : Addr) (kb : ClassId) (u0 u1 u2 : Int32) (h0 : Heap) (v : Option Value) (h : Heap) : Prop := v = some (.int u0) ∧ h0 = h
theorem ef29 (b : Addr) (m : MethodId) : entryFrame m #[(.ref b), (.int 0)] 2 = mkF m 0 #[.val (.ref b), .val (.int 0)] [] := by first | (simp [entryFrame, mkF, argsToLocals, Value.category]; done) | rfl
theorem rm29 (hw : HW a0 Z) (b : Addr) (kb : ClassId) (u0 u1 u2 : Int32) (h0 : Heap) (n0 : Nat) (Z0 : n0 ≤ h0.size) (O : Old Z n0 h0) (SA : uA Z) (SH : uS Z) (SL : uT Z) (Vb : Arv Z h0 b kb .byte (6 : Int32) [(.int (uL u0)), (.int (uH u0)), (.int (uL u1)), (.int (uH u1)), (.int (uL u2)), (.int (uH u2))] (.int 0)) (r_u0 : C16 u0) (r_u1 : C16 u1) (r_u2 : C16 u2) : OMet l Z [] (⟨"java/lang/StringUTF16", "getChar", "([BI)C"⟩ : MethodName) jdk_52_method_5_code 2 (some .char) R29 #[(.ref b), (.int 0)] h0 n0 (Q29 Z b kb u0 u1 u2 h0) := by
  refine OMet.of (own := "java/lang/StringUTF16") rfl (plainFor_of_name pn_0) (ef29 b) Z0 ?_
  intro p e s m below meth c T0 Y0 hnm
  refine Gl.getS Y0 (host := "") (Or.inl (tw_87 hw)) Via.refl (Sta.ext O.2 SA) dE_0 rfl (fun T0_2 Y0_2 => ?_)
  refine Gl.ifne Y0_2 dE_3 (by decide) rfl rfl (fun c3 => ?_) (fun c3 => ?_)
  rotate_left
  · exact absurd c3 (by decide)
  refine Gl.iloadN Y0_2 rfl dE_28 rfl ?_
  refine Gl.iconst Y0_2 (v := (1 : Int32)) (by decide) dE_29 rfl ?_
  refine Gl.ishl Y0_2 (r := (0 : Int32)) (by decide) dE_30 rfl ?_
  refine Gl.istoreN Y0_2 (L' := #[.val (.ref b), .val (.int 0)]) rfl dE_31 rfl ?_
  refine Gl.aloadN Y0_2 rfl rfl dE_32 rfl ?_
  refine Gl.iloadN Y0_2 rfl dE_33 rfl ?_
  refine Gl.iinc Y0_2 rfl (r := (1 : Int32)) (by decide) (L' := #[.val (.ref b), .val (.int 1)]) rfl dE_34 rfl ?_
  refine Gl.baload Y0_2 Vb ⟨by decide, by decide⟩ (v := (.int (uL u0))) rfl dE_37 rfl ?_
  refine Gl.sipush Y0_2 (v := (255 : Int32)) (by decide) dE_38 rfl ?_
  refine Gl.iand Y0_2 rfl dE_41 rfl ?_
  refine Gl.getS Y0_2 (host := "") (Or.inl (tw_88 hw)) Via.refl (Sta.ext O.2 SH) dE_42 rfl (fun T42 Y42 => ?_)
  refine Gl.ishl Y42 rfl dE_45 rfl ?_
  refine Gl.aloadN Y42 rfl rfl dE_46 rfl ?_
  refine Gl.iloadN Y42 rfl dE_47 rfl ?_
  refine Gl.baload Y42 Vb ⟨by decide, by decide⟩ (v := (.int (uH u0))) rfl dE_48 rfl ?_
  refine Gl.sipush Y42 (v := (255 : Int32)) (by decide) dE_49 rfl ?_
  refine Gl.iand Y42 rfl dE_52 rfl ?_
  refine Gl.getS Y42 (host := "") (Or.inl (tw_89 hw)) Via.refl (Sta.ext O.2 SL) dE_53 rfl (fun T53 Y53 => ?_)
  refine Gl.ishl Y53 rfl dE_56 rfl ?_
  refine Gl.ior Y53 rfl dE_57 rfl ?_
  refine Gl.i2c Y53 rfl dE_58 rfl ?_
  exact Gl.retC Y53 (by decide) (by decide) (x' := u0) ((own_narC rfl).trans (own_gc u0 r_u0)) dE_59 ⟨rfl, rfl⟩
def R30 : Room := { frames := 0, cells := 0, slots := 0, locals := 0 }
def Q30 (Z : State) (b : Addr) (kb : ClassId) (u0 u1 u2 : Int32) (h0 : Heap) (v : Option Value) (h : Heap) : Prop := v = none ∧ Keep h0 h [b] ∧ Arv Z h b kb .byte (6 : Int32) [(.int (uL u0)), (.int (uH u0)), (.int (uL u1)), (.int (uH u1)), (.int 0), (.int 0)] (.int 0)
theorem ef30 (b : Addr) (u1 : Int32) (m : MethodId) : entryFrame m #[(.ref b), (.int 1), (.int u1)] 3 = mkF m 0 #[.val (.ref b), .val (.int 1), .val (.int u1)] [] := by first | (simp [entryFrame, mkF, argsToLocals, Value.category]; done) | rfl
theorem rm30 (hw : HW a0 Z) (b : Addr) (kb : ClassId) (u0 u1 u2 : Int32) (h0 : Heap) (n0 : Nat) (Z0 : n0 ≤ h0.size) (O : Old Z n0 h0) (SA : uA Z) (SH : uS Z) (SL : uT Z) (Vb : Arv Z h0 b kb .byte (6 : Int32) [(.int (uL u0)), (.int (uH u0)), (.int 0), (.int 0), (.int 0), (.int 0)] (.int 0)) (gb : n0 ≤ b) : OMet l Z [] (⟨"java/lang/StringUTF16", "putChar", "([BII)V"⟩ : MethodName) jdk_52_method_4_code 3 none R30 #[(.ref b), (.int 1), (.int u1)] h0 n0 (Q30 Z b kb u0 u1 u2 h0) := by
  refine OMet.of (own := "java/lang/StringUTF16") rfl (plainFor_of_name pn_0) (ef30 b u1) Z0 ?_
  intro p e s m below meth c T0 Y0 hnm
  refine Gl.getS Y0 (host := "") (Or.inl (tw_87 hw)) Via.refl (Sta.ext O.2 SA) dD_0 rfl (fun T0_2 Y0_2 => ?_)
  refine Gl.ifne Y0_2 dD_3 (by decide) rfl rfl (fun c3 => ?_) (fun c3 => ?_)
  rotate_left
  · exact absurd c3 (by decide)
  refine Gl.iloadN Y0_2 rfl dD_28 rfl ?_
  refine Gl.iconst Y0_2 (v := (1 : Int32)) (by decide) dD_29 rfl ?_
  refine Gl.ishl Y0_2 (r := (2 : Int32)) (by decide) dD_30 rfl ?_
  refine Gl.istoreN Y0_2 (L' := #[.val (.ref b), .val (.int 2), .val (.int u1)]) rfl dD_31 rfl ?_
  refine Gl.aloadN Y0_2 rfl rfl dD_32 rfl ?_
  refine Gl.iloadN Y0_2 rfl dD_33 rfl ?_
  refine Gl.iinc Y0_2 rfl (r := (3 : Int32)) (by decide) (L' := #[.val (.ref b), .val (.int 3), .val (.int u1)]) rfl dD_34 rfl ?_
  refine Gl.iloadN Y0_2 rfl dD_37 rfl ?_
  refine Gl.getS Y0_2 (host := "") (Or.inl (tw_88 hw)) Via.refl (Sta.ext O.2 SH) dD_38 rfl (fun T38 Y38 => ?_)
  refine Gl.ishr Y38 rfl dD_41 rfl ?_
  refine Gl.i2b Y38 rfl dD_42 rfl ?_
  refine Gl.bastore Y38 Vb (v := (.int ((u1 >>> ((0 : Int32) &&& 31)).toInt8.toInt32))) (congrArg Value.int (own_narB rfl)) ⟨by decide, by decide⟩ (ix := 2) rfl (nle rfl) gb dD_43 rfl (fun T43 h43 Y43 W43 A43 => ?_)
  have A43 : Arv Z h43 b kb .byte (6 : Int32) [(.int (uL u0)), (.int (uH u0)), (.int ((u1 >>> ((0 : Int32) &&& 31)).toInt8.toInt32)), (.int 0), (.int 0), (.int 0)] (.int 0) := A43
  have K43 : Keep h0 h43 [b] := (Keep.refl h0 [b]).wr W43 (Or.inl (List.mem_of_getElem? (i := 0) rfl))
  show Gl p e below _ (T43.setTop (mkF m 44 _ []))
  refine Gl.aloadN Y43 rfl rfl dD_44 rfl ?_
  refine Gl.iloadN Y43 rfl dD_45 rfl ?_
  refine Gl.iloadN Y43 rfl dD_46 rfl ?_
  have f1 := (O.wr W43 gb)
  refine Gl.getS Y43 (host := "") (Or.inl (tw_89 hw)) Via.refl (Sta.ext f1.2 SL) dD_47 rfl (fun T47 Y47 => ?_)
  refine Gl.ishr Y47 rfl dD_50 rfl ?_
  refine Gl.i2b Y47 rfl dD_51 rfl ?_
  refine Gl.bastore Y47 A43 (v := (.int ((u1 >>> ((8 : Int32) &&& 31)).toInt8.toInt32))) (congrArg Value.int (own_narB rfl)) ⟨by decide, by decide⟩ (ix := 3) rfl (nle rfl) gb dD_52 rfl (fun T52 h52 Y52 W52 A52 => ?_)
  have A52 : Arv Z h52 b kb .byte (6 : Int32) [(.int (uL u0)), (.int (uH u0)), (.int ((u1 >>> ((0 : Int32) &&& 31)).toInt8.toInt32)), (.int ((u1 >>> ((8 : Int32) &&& 31)).toInt8.toInt32)), (.int 0), (.int 0)] (.int 0) := A52
  have K52 : Keep h0 h52 [b] := K43.wr W52 (Or.inl (List.mem_of_getElem? (i := 0) rfl))
  show Gl p e below _ (T52.setTop (mkF m 53 _ []))
  exact Gl.retV Y52 (by decide) (by decide)  dD_53 ⟨rfl, K52, A52⟩
def R31 : Room := { frames := 0, cells := 0, slots := 0, locals := 0 }
def Q31 (Z : State) (b : Addr) (kb : ClassId) (u0 u1 u2 : Int32) (h0 : Heap) (v : Option Value) (h : Heap) : Prop := v = some (.int u1) ∧ h0 = h
theorem ef31 (b : Addr) (m : MethodId) : entryFrame m #[(.ref b), (.int 1)] 2 = mkF m 0 #[.val (.ref b), .val (.int 1)] [] := by first | (simp [entryFrame, mkF, argsToLocals, Value.category]; done) | rfl
theorem rm31 (hw : HW a0 Z) (b : Addr) (kb : ClassId) (u0 u1 u2 : Int32) (h0 : Heap) (n0 : Nat) (Z0 : n0 ≤ h0.size) (O : Old Z n0 h0) (SA : uA Z) (SH : uS Z) (SL : uT Z) (Vb : Arv Z h0 b kb .byte (6 : Int32) [(.int (uL u0)), (.int (uH u0)), (.int (uL u1)), (.int (uH u1)), (.int (uL u2)), (.int (uH u2))] (.int 0)) (r_u0 : C16 u0) (r_u1 : C16 u1) (r_u2 : C16 u2) : OMet l Z [] (⟨"java/lang/StringUTF16", "getChar", "([BI)C"⟩ : MethodName) jdk_52_method_5_code 2 (some .char) R31 #[(.ref b), (.int 1)] h0 n0 (Q31 Z b kb u0 u1 u2 h0) := by
  refine OMet.of (own := "java/lang/StringUTF16") rfl (plainFor_of_name pn_0) (ef31 b) Z0 ?_
  intro p e s m below meth c T0 Y0 hnm
  refine Gl.getS Y0 (host := "") (Or.inl (tw_87 hw)) Via.refl (Sta.ext O.2 SA) dE_0 rfl (fun T0_2 Y0_2 => ?_)
  refine Gl.ifne Y0_2 dE_3 (by decide) rfl rfl (fun c3 => ?_) (fun c3 => ?_)
  rotate_left
  · exact absurd c3 (by decide)
  refine Gl.iloadN Y0_2 rfl dE_28 rfl ?_
  refine Gl.iconst Y0_2 (v := (1 : Int32)) (by decide) dE_29 rfl ?_
  refine Gl.ishl Y0_2 (r := (2 : Int32)) (by decide) dE_30 rfl ?_
  refine Gl.istoreN Y0_2 (L' := #[.val (.ref b), .val (.int 2)]) rfl dE_31 rfl ?_
  refine Gl.aloadN Y0_2 rfl rfl dE_32 rfl ?_
  refine Gl.iloadN Y0_2 rfl dE_33 rfl ?_
  refine Gl.iinc Y0_2 rfl (r := (3 : Int32)) (by decide) (L' := #[.val (.ref b), .val (.int 3)]) rfl dE_34 rfl ?_
  refine Gl.baload Y0_2 Vb ⟨by decide, by decide⟩ (v := (.int (uL u1))) rfl dE_37 rfl ?_
  refine Gl.sipush Y0_2 (v := (255 : Int32)) (by decide) dE_38 rfl ?_
  refine Gl.iand Y0_2 rfl dE_41 rfl ?_
  refine Gl.getS Y0_2 (host := "") (Or.inl (tw_88 hw)) Via.refl (Sta.ext O.2 SH) dE_42 rfl (fun T42 Y42 => ?_)
  refine Gl.ishl Y42 rfl dE_45 rfl ?_
  refine Gl.aloadN Y42 rfl rfl dE_46 rfl ?_
  refine Gl.iloadN Y42 rfl dE_47 rfl ?_
  refine Gl.baload Y42 Vb ⟨by decide, by decide⟩ (v := (.int (uH u1))) rfl dE_48 rfl ?_
  refine Gl.sipush Y42 (v := (255 : Int32)) (by decide) dE_49 rfl ?_
  refine Gl.iand Y42 rfl dE_52 rfl ?_
  refine Gl.getS Y42 (host := "") (Or.inl (tw_89 hw)) Via.refl (Sta.ext O.2 SL) dE_53 rfl (fun T53 Y53 => ?_)
  refine Gl.ishl Y53 rfl dE_56 rfl ?_
  refine Gl.ior Y53 rfl dE_57 rfl ?_
  refine Gl.i2c Y53 rfl dE_58 rfl ?_
  exact Gl.retC Y53 (by decide) (by decide) (x' := u1) ((own_narC rfl).trans (own_gc u1 r_u1)) dE_59 ⟨rfl, rfl⟩
def R32 : Room := { frames := 0, cells := 0, slots := 0, locals := 0 }
def Q32 (Z : State) (b : Addr) (kb : ClassId) (u0 u1 u2 : Int32) (h0 : Heap) (v : Option Value) (h : Heap) : Prop := v = none ∧ Keep h0 h [b] ∧ Arv Z h b kb .byte (6 : Int32) [(.int (uL u0)), (.int (uH u0)), (.int (uL u1)), (.int (uH u1)), (.int (uL u2)), (.int (uH u2))] (.int 0)
theorem ef32 (b : Addr) (u2 : Int32) (m : MethodId) : entryFrame m #[(.ref b), (.int 2), (.int u2)] 3 = mkF m 0 #[.val (.ref b), .val (.int 2), .val (.int u2)] [] := by first | (simp [entryFrame, mkF, argsToLocals, Value.category]; done) | rfl
theorem rm32 (hw : HW a0 Z) (b : Addr) (kb : ClassId) (u0 u1 u2 : Int32) (h0 : Heap) (n0 : Nat) (Z0 : n0 ≤ h0.size) (O : Old Z n0 h0) (SA : uA Z) (SH : uS Z) (SL : uT Z) (Vb : Arv Z h0 b kb .byte (6 : Int32) [(.int (uL u0)), (.int (uH u0)), (.int (uL u1)), (.int (uH u1)), (.int 0), (.int 0)] (.int 0)) (gb : n0 ≤ b) : OMet l Z [] (⟨"java/lang/StringUTF16", "putChar", "([BII)V"⟩ : MethodName) jdk_52_method_4_code 3 none R32 #[(.ref b), (.int 2), (.int u2)] h0 n0 (Q32 Z b kb u0 u1 u2 h0) := by
  refine OMet.of (own := "java/lang/StringUTF16") rfl (plainFor_of_name pn_0) (ef32 b u2) Z0 ?_
  intro p e s m below meth c T0 Y0 hnm
  refine Gl.getS Y0 (host := "") (Or.inl (tw_87 hw)) Via.refl (Sta.ext O.2 SA) dD_0 rfl (fun T0_2 Y0_2 => ?_)
  refine Gl.ifne Y0_2 dD_3 (by decide) rfl rfl (fun c3 => ?_) (fun c3 => ?_)
  rotate_left
  · exact absurd c3 (by decide)
  refine Gl.iloadN Y0_2 rfl dD_28 rfl ?_
  refine Gl.iconst Y0_2 (v := (1 : Int32)) (by decide) dD_29 rfl ?_
  refine Gl.ishl Y0_2 (r := (4 : Int32)) (by decide) dD_30 rfl ?_
  refine Gl.istoreN Y0_2 (L' := #[.val (.ref b), .val (.int 4), .val (.int u2)]) rfl dD_31 rfl ?_
  refine Gl.aloadN Y0_2 rfl rfl dD_32 rfl ?_
  refine Gl.iloadN Y0_2 rfl dD_33 rfl ?_
  refine Gl.iinc Y0_2 rfl (r := (5 : Int32)) (by decide) (L' := #[.val (.ref b), .val (.int 5), .val (.int u2)]) rfl dD_34 rfl ?_
  refine Gl.iloadN Y0_2 rfl dD_37 rfl ?_
  refine Gl.getS Y0_2 (host := "") (Or.inl (tw_88 hw)) Via.refl (Sta.ext O.2 SH) dD_38 rfl (fun T38 Y38 => ?_)
  refine Gl.ishr Y38 rfl dD_41 rfl ?_
  refine Gl.i2b Y38 rfl dD_42 rfl ?_
  refine Gl.bastore Y38 Vb (v := (.int ((u2 >>> ((0 : Int32) &&& 31)).toInt8.toInt32))) (congrArg Value.int (own_narB rfl)) ⟨by decide, by decide⟩ (ix := 4) rfl (nle rfl) gb dD_43 rfl (fun T43 h43 Y43 W43 A43 => ?_)
  have A43 : Arv Z h43 b kb .byte (6 : Int32) [(.int (uL u0)), (.int (uH u0)), (.int (uL u1)), (.int (uH u1)), (.int ((u2 >>> ((0 : Int32) &&& 31)).toInt8.toInt32)), (.int 0)] (.int 0) := A43
  have K43 : Keep h0 h43 [b] := (Keep.refl h0 [b]).wr W43 (Or.inl (List.mem_of_getElem? (i := 0) rfl))
  show Gl p e below _ (T43.setTop (mkF m 44 _ []))
  refine Gl.aloadN Y43 rfl rfl dD_44 rfl ?_
  refine Gl.iloadN Y43 rfl dD_45 rfl ?_
  refine Gl.iloadN Y43 rfl dD_46 rfl ?_
  have f1 := (O.wr W43 gb)
  refine Gl.getS Y43 (host := "") (Or.inl (tw_89 hw)) Via.refl (Sta.ext f1.2 SL) dD_47 rfl (fun T47 Y47 => ?_)
  refine Gl.ishr Y47 rfl dD_50 rfl ?_
  refine Gl.i2b Y47 rfl dD_51 rfl ?_
  refine Gl.bastore Y47 A43 (v := (.int ((u2 >>> ((8 : Int32) &&& 31)).toInt8.toInt32))) (congrArg Value.int (own_narB rfl)) ⟨by decide, by decide⟩ (ix := 5) rfl (nle rfl) gb dD_52 rfl (fun T52 h52 Y52 W52 A52 => ?_)
  have A52 : Arv Z h52 b kb .byte (6 : Int32) [(.int (uL u0)), (.int (uH u0)), (.int (uL u1)), (.int (uH u1)), (.int ((u2 >>> ((0 : Int32) &&& 31)).toInt8.toInt32)), (.int ((u2 >>> ((8 : Int32) &&& 31)).toInt8.toInt32))] (.int 0) := A52
  have K52 : Keep h0 h52 [b] := K43.wr W52 (Or.inl (List.mem_of_getElem? (i := 0) rfl))
  show Gl p e below _ (T52.setTop (mkF m 53 _ []))
  exact Gl.retV Y52 (by decide) (by decide)  dD_53 ⟨rfl, K52, A52⟩
def R33 : Room := { frames := 0, cells := 0, slots := 0, locals := 0 }
def Q33 (Z : State) (b : Addr) (kb : ClassId) (u0 u1 u2 : Int32) (h0 : Heap) (v : Option Value) (h : Heap) : Prop := v = some (.int u2) ∧ h0 = h
theorem ef33 (b : Addr) (m : MethodId) : entryFrame m #[(.ref b), (.int 2)] 2 = mkF m 0 #[.val (.ref b), .val (.int 2)] [] := by first | (simp [entryFrame, mkF, argsToLocals, Value.category]; done) | rfl
theorem rm33 (hw : HW a0 Z) (b : Addr) (kb : ClassId) (u0 u1 u2 : Int32) (h0 : Heap) (n0 : Nat) (Z0 : n0 ≤ h0.size) (O : Old Z n0 h0) (SA : uA Z) (SH : uS Z) (SL : uT Z) (Vb : Arv Z h0 b kb .byte (6 : Int32) [(.int (uL u0)), (.int (uH u0)), (.int (uL u1)), (.int (uH u1)), (.int (uL u2)), (.int (uH u2))] (.int 0)) (r_u0 : C16 u0) (r_u1 : C16 u1) (r_u2 : C16 u2) : OMet l Z [] (⟨"java/lang/StringUTF16", "getChar", "([BI)C"⟩ : MethodName) jdk_52_method_5_code 2 (some .char) R33 #[(.ref b), (.int 2)] h0 n0 (Q33 Z b kb u0 u1 u2 h0) := by
  refine OMet.of (own := "java/lang/StringUTF16") rfl (plainFor_of_name pn_0) (ef33 b) Z0 ?_
  intro p e s m below meth c T0 Y0 hnm
  refine Gl.getS Y0 (host := "") (Or.inl (tw_87 hw)) Via.refl (Sta.ext O.2 SA) dE_0 rfl (fun T0_2 Y0_2 => ?_)
  refine Gl.ifne Y0_2 dE_3 (by decide) rfl rfl (fun c3 => ?_) (fun c3 => ?_)
  rotate_left
  · exact absurd c3 (by decide)
  refine Gl.iloadN Y0_2 rfl dE_28 rfl ?_
  refine Gl.iconst Y0_2 (v := (1 : Int32)) (by decide) dE_29 rfl ?_
  refine Gl.ishl Y0_2 (r := (4 : Int32)) (by decide) dE_30 rfl ?_
  refine Gl.istoreN Y0_2 (L' := #[.val (.ref b), .val (.int 4)]) rfl dE_31 rfl ?_
  refine Gl.aloadN Y0_2 rfl rfl dE_32 rfl ?_
  refine Gl.iloadN Y0_2 rfl dE_33 rfl ?_
  refine Gl.iinc Y0_2 rfl (r := (5 : Int32)) (by decide) (L' := #[.val (.ref b), .val (.int 5)]) rfl dE_34 rfl ?_
  refine Gl.baload Y0_2 Vb ⟨by decide, by decide⟩ (v := (.int (uL u2))) rfl dE_37 rfl ?_
  refine Gl.sipush Y0_2 (v := (255 : Int32)) (by decide) dE_38 rfl ?_
  refine Gl.iand Y0_2 rfl dE_41 rfl ?_
  refine Gl.getS Y0_2 (host := "") (Or.inl (tw_88 hw)) Via.refl (Sta.ext O.2 SH) dE_42 rfl (fun T42 Y42 => ?_)
  refine Gl.ishl Y42 rfl dE_45 rfl ?_
  refine Gl.aloadN Y42 rfl rfl dE_46 rfl ?_
  refine Gl.iloadN Y42 rfl dE_47 rfl ?_
  refine Gl.baload Y42 Vb ⟨by decide, by decide⟩ (v := (.int (uH u2))) rfl dE_48 rfl ?_
  refine Gl.sipush Y42 (v := (255 : Int32)) (by decide) dE_49 rfl ?_
  refine Gl.iand Y42 rfl dE_52 rfl ?_
  refine Gl.getS Y42 (host := "") (Or.inl (tw_89 hw)) Via.refl (Sta.ext O.2 SL) dE_53 rfl (fun T53 Y53 => ?_)
  refine Gl.ishl Y53 rfl dE_56 rfl ?_
  refine Gl.ior Y53 rfl dE_57 rfl ?_
  refine Gl.i2c Y53 rfl dE_58 rfl ?_
  exact Gl.retC Y53 (by decide) (by decide) (x' := u2) ((own_narC rfl).trans (own_gc u2 r_u2)) dE_59 ⟨rfl, rfl⟩
def R34 : Room := { frames := 2, cells := 1, slots := 6, locals := 24 }
def Q34 (Z : State) (ca : Addr) (kc : ClassId) (u0 u1 u2 : Int32) (h0 : Heap) (v : Option Value) (h : Heap) : Prop := ∃ b : Addr, ∃ kb : ClassId, v = some (.ref b) ∧ Keep h0 h [] ∧ h0.size ≤ b ∧ Arv Z h b kb .byte (6 : Int32) [(.int (uL u0)), (.int (uH u0)), (.int (uL u1)), (.int (uH u1)), (.int (uL u2)), (.int (uH u2))] (.int 0)
theorem ef34 (ca : Addr) (m : MethodId) : entryFrame m #[(.ref ca), (.int 0), (.int 3)] 5 = mkF m 0 #[.val (.ref ca), .val (.int 0), .val (.int 3), .unset, .unset] [] := by first | (simp [entryFrame, mkF, argsToLocals, Value.category]; done) | rfl
theorem rm34 (hw : HW a0 Z) (ca : Addr) (kc : ClassId) (u0 u1 u2 : Int32) (h0 : Heap) (n0 : Nat) (Z0 : n0 ≤ h0.size) (O : Old Z n0 h0) (SA : uA Z) (SH : uS Z) (SL : uT Z) (Vc : Arv Z h0 ca kc .char (3 : Int32) [(.int u0), (.int u1), (.int u2)] (.int 0)) : OMet l Z [] (⟨"java/lang/StringUTF16", "toBytes", "([CII)[B"⟩ : MethodName) jdk_52_method_14_code 5 (some (.array .byte)) R34 #[(.ref ca), (.int 0), (.int 3)] h0 n0 (Q34 Z ca kc u0 u1 u2 h0) := by
  refine OMet.of (own := "java/lang/StringUTF16") rfl (plainFor_of_name pn_0) (ef34 ca) Z0 ?_
  intro p e s m below meth c T0 Y0 hnm
  refine Gl.iloadN Y0 rfl dF_0 rfl ?_
  refine Gl.callS Y0 (tw_77 hw) (tw_78 hw) (tw_44 hw) (tw_79 hw) (by decide) (rm27 l Z a0 hw h0 n0 Y0.sz) (argsL := [(.int 3)]) (rest := []) rfl rfl (lenOf pd_1 rfl) rfl (by decide) (nle rfl) (by decide) (by decide) dF_1 rfl (fun v1 T1 h1 Y1 q1 => ?_)
  obtain ⟨b1, kb1, rfl, K1, f1_0, f1_1⟩ := q1
  have Y1_sz : n0 ≤ h0.size := Y0.sz
  have KK1 : Keep h0 h1 [] := (Keep.refl h0 []).trans K1 all0
  have zb1 : h0.size ≤ b1 := Nat.le_trans (Keep.refl h0 []).1 f1_0
  show Gl p e below _ (T1.setTop (mkF m 4 _ [(.ref b1)]))
  refine Gl.astoreN Y1 rfl (L' := #[.val (.ref ca), .val (.int 0), .val (.int 3), .val (.ref b1), .unset]) rfl dF_4 rfl ?_
  refine Gl.iconst Y1 (v := (0 : Int32)) (by decide) dF_5 rfl ?_
  refine Gl.istore Y1 (L' := #[.val (.ref ca), .val (.int 0), .val (.int 3), .val (.ref b1), .val (.int 0)]) rfl dF_6 rfl ?_
  refine Gl.iload Y1 rfl dF_8 rfl ?_
  refine Gl.iloadN Y1 rfl dF_10 rfl ?_
  refine Gl.icmpge Y1 dF_11 (by decide) rfl rfl (fun c11 => ?_) (fun c11 => ?_)
  · exact absurd c11 (by decide)
  refine Gl.aloadN Y1 rfl rfl dF_14 rfl ?_
  refine Gl.iload Y1 rfl dF_15 rfl ?_
  refine Gl.aloadN Y1 rfl rfl dF_17 rfl ?_
  refine Gl.iloadN Y1 rfl dF_18 rfl ?_
  have f1 := (Vc.keep K1 nin0)
  refine Gl.caload Y1 f1 ⟨by decide, by decide⟩ (v := (.int u0)) rfl dF_19 rfl ?_
  have f2 := (O.keep K1 all0)
  refine Gl.callS Y1 (tw_84 hw) (tw_85 hw) (tw_44 hw) (tw_86 hw) (by decide) (rm28 l Z a0 hw b1 kb1 u0 u1 u2 h1 n0 Y1.sz f2 SA SH SL f1_1 (Nat.le_trans Y1_sz f1_0)) (argsL := [(.ref b1), (.int 0), (.int u0)]) (rest := []) rfl rfl (lenOf pd_2 rfl) rfl (by decide) (nle rfl) (by decide) (by decide) dF_20 rfl (fun v20 T20 h20 Y20 q20 => ?_)
  obtain ⟨rfl, K20, f20_0⟩ := q20
  have KK20 : Keep h0 h20 [] := KK1.trans K20 (allS (Or.inr zb1) all0)
  show Gl p e below _ (T20.setTop (mkF m 23 _ []))
  refine Gl.iinc Y20 rfl (r := (1 : Int32)) (by decide) (L' := #[.val (.ref ca), .val (.int 1), .val (.int 3), .val (.ref b1), .val (.int 0)]) rfl dF_23 rfl ?_
  refine Gl.iinc Y20 rfl (r := (1 : Int32)) (by decide) (L' := #[.val (.ref ca), .val (.int 1), .val (.int 3), .val (.ref b1), .val (.int 1)]) rfl dF_26 rfl ?_
  refine Gl.goto Y20 dF_29 (by decide) rfl ?_
  refine Gl.iload Y20 rfl dF_8 rfl ?_
  refine Gl.iloadN Y20 rfl dF_10 rfl ?_
  refine Gl.icmpge Y20 dF_11 (by decide) rfl rfl (fun c11_2 => ?_) (fun c11_2 => ?_)
  · exact absurd c11_2 (by decide)
  refine Gl.aloadN Y20 rfl rfl dF_14 rfl ?_
  refine Gl.iload Y20 rfl dF_15 rfl ?_
  refine Gl.aloadN Y20 rfl rfl dF_17 rfl ?_
  refine Gl.iloadN Y20 rfl dF_18 rfl ?_
  have f3 := (f1.keep K20 (ninS (Nat.ne_of_lt (Nat.lt_of_lt_of_le Vc.lt f1_0)) nin0))
  refine Gl.caload Y20 f3 ⟨by decide, by decide⟩ (v := (.int u1)) rfl dF_19 rfl ?_
  have f4 := (f2.keep K20 (allS (Nat.le_trans Y1_sz f1_0) all0))
  refine Gl.callS Y20 (tw_84 hw) (tw_85 hw) (tw_44 hw) (tw_86 hw) (by decide) (rm30 l Z a0 hw b1 kb1 u0 u1 u2 h20 n0 Y20.sz f4 SA SH SL f20_0 (Nat.le_trans Y1_sz f1_0)) (argsL := [(.ref b1), (.int 1), (.int u1)]) (rest := []) rfl rfl (lenOf pd_2 rfl) rfl (by decide) (nle rfl) (by decide) (by decide) dF_20 rfl (fun v20_2 T20_2 h20_2 Y20_2 q20_2 => ?_)
  obtain ⟨rfl, K20_2, f20_2_0⟩ := q20_2
  have KK20_2 : Keep h0 h20_2 [] := KK20.trans K20_2 (allS (Or.inr zb1) all0)
  show Gl p e below _ (T20_2.setTop (mkF m 23 _ []))
  refine Gl.iinc Y20_2 rfl (r := (2 : Int32)) (by decide) (L' := #[.val (.ref ca), .val (.int 2), .val (.int 3), .val (.ref b1), .val (.int 1)]) rfl dF_23 rfl ?_
  refine Gl.iinc Y20_2 rfl (r := (2 : Int32)) (by decide) (L' := #[.val (.ref ca), .val (.int 2), .val (.int 3), .val (.ref b1), .val (.int 2)]) rfl dF_26 rfl ?_
  refine Gl.goto Y20_2 dF_29 (by decide) rfl ?_
  refine Gl.iload Y20_2 rfl dF_8 rfl ?_
  refine Gl.iloadN Y20_2 rfl dF_10 rfl ?_
  refine Gl.icmpge Y20_2 dF_11 (by decide) rfl rfl (fun c11_3 => ?_) (fun c11_3 => ?_)
  · exact absurd c11_3 (by decide)
  refine Gl.aloadN Y20_2 rfl rfl dF_14 rfl ?_
  refine Gl.iload Y20_2 rfl dF_15 rfl ?_
  refine Gl.aloadN Y20_2 rfl rfl dF_17 rfl ?_
  refine Gl.iloadN Y20_2 rfl dF_18 rfl ?_
  have f5 := (f3.keep K20_2 (ninS (Nat.ne_of_lt (Nat.lt_of_lt_of_le Vc.lt f1_0)) nin0))
  refine Gl.caload Y20_2 f5 ⟨by decide, by decide⟩ (v := (.int u2)) rfl dF_19 rfl ?_
  have f6 := (f4.keep K20_2 (allS (Nat.le_trans Y1_sz f1_0) all0))
  refine Gl.callS Y20_2 (tw_84 hw) (tw_85 hw) (tw_44 hw) (tw_86 hw) (by decide) (rm32 l Z a0 hw b1 kb1 u0 u1 u2 h20_2 n0 Y20_2.sz f6 SA SH SL f20_2_0 (Nat.le_trans Y1_sz f1_0)) (argsL := [(.ref b1), (.int 2), (.int u2)]) (rest := []) rfl rfl (lenOf pd_2 rfl) rfl (by decide) (nle rfl) (by decide) (by decide) dF_20 rfl (fun v20_3 T20_3 h20_3 Y20_3 q20_3 => ?_)
  obtain ⟨rfl, K20_3, f20_3_0⟩ := q20_3
  have KK20_3 : Keep h0 h20_3 [] := KK20_2.trans K20_3 (allS (Or.inr zb1) all0)
  show Gl p e below _ (T20_3.setTop (mkF m 23 _ []))
  refine Gl.iinc Y20_3 rfl (r := (3 : Int32)) (by decide) (L' := #[.val (.ref ca), .val (.int 3), .val (.int 3), .val (.ref b1), .val (.int 2)]) rfl dF_23 rfl ?_
  refine Gl.iinc Y20_3 rfl (r := (3 : Int32)) (by decide) (L' := #[.val (.ref ca), .val (.int 3), .val (.int 3), .val (.ref b1), .val (.int 3)]) rfl dF_26 rfl ?_
  refine Gl.goto Y20_3 dF_29 (by decide) rfl ?_
  refine Gl.iload Y20_3 rfl dF_8 rfl ?_
  refine Gl.iloadN Y20_3 rfl dF_10 rfl ?_
  refine Gl.icmpge Y20_3 dF_11 (by decide) rfl rfl (fun c11_4 => ?_) (fun c11_4 => ?_)
  rotate_left
  · exact absurd c11_4 (by decide)
  refine Gl.aloadN Y20_3 rfl rfl dF_32 rfl ?_
  exact Gl.retA Y20_3 (by decide) (by decide) rfl rfl dF_33 ⟨b1, kb1, rfl, KK20_3, zb1, f20_3_0⟩
def R35 : Room := { frames := 0, cells := 0, slots := 0, locals := 0 }
def Q35 (Z : State) (h0 : Heap) (v : Option Value) (h : Heap) : Prop := v = some (.int 8) ∧ h0 = h
theorem ef35 (m : MethodId) : entryFrame m #[(.int 4)] 1 = mkF m 0 #[.val (.int 4)] [] := by first | (simp [entryFrame, mkF, argsToLocals, Value.category]; done) | rfl
theorem rm35 (hw : HW a0 Z) (h0 : Heap) (n0 : Nat) (Z0 : n0 ≤ h0.size) : OMet l Z [] (⟨"java/lang/StringUTF16", "newBytesLength", "(I)I"⟩ : MethodName) jdk_52_method_3_code 1 (some .int) R35 #[(.int 4)] h0 n0 (Q35 Z h0) := by
  refine OMet.of (own := "java/lang/StringUTF16") rfl (plainFor_of_name pn_0) (ef35) Z0 ?_
  intro p e s m below meth c T0 Y0 hnm
  refine Gl.iloadN Y0 rfl dB_0 rfl ?_
  refine Gl.ifge Y0 dB_1 (by decide) rfl rfl (fun c1 => ?_) (fun c1 => ?_)
  rotate_left
  · exact absurd c1 (by decide)
  refine Gl.iloadN Y0 rfl dB_12 rfl ?_
  refine Gl.ldcI Y0 (tw_83 hw) dB_13 rfl ?_
  refine Gl.icmplt Y0 dB_15 (by decide) rfl rfl (fun c15 => ?_) (fun c15 => ?_)
  rotate_left
  · exact absurd c15 (by decide)
  refine Gl.iloadN Y0 rfl dB_55 rfl ?_
  refine Gl.iconst Y0 (v := (1 : Int32)) (by decide) dB_56 rfl ?_
  refine Gl.ishl Y0 (r := (8 : Int32)) (by decide) dB_57 rfl ?_
  exact Gl.retI Y0 (by decide) (by decide)  dB_58 ⟨rfl, rfl⟩
def R36 : Room := { frames := 1, cells := 1, slots := 8, locals := 12 }
def Q36 (Z : State) (h0 : Heap) (v : Option Value) (h : Heap) : Prop := ∃ b : Addr, ∃ kb : ClassId, v = some (.ref b) ∧ Keep h0 h [] ∧ h0.size ≤ b ∧ Arv Z h b kb .byte (8 : Int32) [(.int 0), (.int 0), (.int 0), (.int 0), (.int 0), (.int 0), (.int 0), (.int 0)] (.int 0)
theorem ef36 (m : MethodId) : entryFrame m #[(.int 4)] 1 = mkF m 0 #[.val (.int 4)] [] := by first | (simp [entryFrame, mkF, argsToLocals, Value.category]; done) | rfl
theorem rm36 (hw : HW a0 Z) (h0 : Heap) (n0 : Nat) (Z0 : n0 ≤ h0.size) : OMet l Z [] (⟨"java/lang/StringUTF16", "newBytesFor", "(I)[B"⟩ : MethodName) jdk_52_method_2_code 1 (some (.array .byte)) R36 #[(.int 4)] h0 n0 (Q36 Z h0) := by
  refine OMet.of (own := "java/lang/StringUTF16") rfl (plainFor_of_name pn_0) (ef36) Z0 ?_
  intro p e s m below meth c T0 Y0 hnm
  refine Gl.iloadN Y0 rfl dC_0 rfl ?_
  refine Gl.callS Y0 (tw_80 hw) (tw_81 hw) (tw_44 hw) (tw_82 hw) (by decide) (rm35 l Z a0 hw h0 n0 Y0.sz) (argsL := [(.int 4)]) (rest := []) rfl rfl (lenOf pd_0 rfl) rfl (by decide) (nle rfl) (by decide) (by decide) dC_1 rfl (fun v1 T1 h1 Y1 q1 => ?_)
  obtain ⟨rfl, rfl⟩ := q1
  show Gl p e below _ (T1.setTop (mkF m 4 _ [(.int 8)]))
  refine Gl.newP Y1 8 (ty := .byte) rfl (tw_20 hw) (by decide) (by decide) (nle rfl) (nle rfl) (nle rfl) dC_4 rfl (fun T4 h4 b4 ck4 Y4 E4 g4 sb4 V4 => ?_)
  have V4 : Arv Z h4 b4 ck4 .byte (8 : Int32) [(.int 0), (.int 0), (.int 0), (.int 0), (.int 0), (.int 0), (.int 0), (.int 0)] (.int 0) := V4.pad (pad_rep [] (.int 0) 8)
  have zb4 : h0.size ≤ b4 := Nat.le_trans (Keep.refl h0 []).1 (Nat.le_of_eq g4.symm)
  have K4 : Keep h0 h4 [] := (Keep.refl h0 []).ext E4
  show Gl p e below _ (T4.setTop (mkF m 6 _ [(.ref b4)]))
  exact Gl.retA Y4 (by decide) (by decide) rfl rfl dC_6 ⟨b4, ck4, rfl, K4, zb4, V4⟩
def R37 : Room := { frames := 0, cells := 0, slots := 0, locals := 0 }
def Q37 (Z : State) (b : Addr) (kb : ClassId) (u0 u1 u2 u3 : Int32) (h0 : Heap) (v : Option Value) (h : Heap) : Prop := v = none ∧ Keep h0 h [b] ∧ Arv Z h b kb .byte (8 : Int32) [(.int (uL u0)), (.int (uH u0)), (.int 0), (.int 0), (.int 0), (.int 0), (.int 0), (.int 0)] (.int 0)
theorem ef37 (b : Addr) (u0 : Int32) (m : MethodId) : entryFrame m #[(.ref b), (.int 0), (.int u0)] 3 = mkF m 0 #[.val (.ref b), .val (.int 0), .val (.int u0)] [] := by first | (simp [entryFrame, mkF, argsToLocals, Value.category]; done) | rfl
theorem rm37 (hw : HW a0 Z) (b : Addr) (kb : ClassId) (u0 u1 u2 u3 : Int32) (h0 : Heap) (n0 : Nat) (Z0 : n0 ≤ h0.size) (O : Old Z n0 h0) (SA : uA Z) (SH : uS Z) (SL : uT Z) (Vb : Arv Z h0 b kb .byte (8 : Int32) [(.int 0), (.int 0), (.int 0), (.int 0), (.int 0), (.int 0), (.int 0), (.int 0)] (.int 0)) (gb : n0 ≤ b) : OMet l Z [] (⟨"java/lang/StringUTF16", "putChar", "([BII)V"⟩ : MethodName) jdk_52_method_4_code 3 none R37 #[(.ref b), (.int 0), (.int u0)] h0 n0 (Q37 Z b kb u0 u1 u2 u3 h0) := by
  refine OMet.of (own := "java/lang/StringUTF16") rfl (plainFor_of_name pn_0) (ef37 b u0) Z0 ?_
  intro p e s m below meth c T0 Y0 hnm
  refine Gl.getS Y0 (host := "") (Or.inl (tw_87 hw)) Via.refl (Sta.ext O.2 SA) dD_0 rfl (fun T0_2 Y0_2 => ?_)
  refine Gl.ifne Y0_2 dD_3 (by decide) rfl rfl (fun c3 => ?_) (fun c3 => ?_)
  rotate_left
  · exact absurd c3 (by decide)
  refine Gl.iloadN Y0_2 rfl dD_28 rfl ?_
  refine Gl.iconst Y0_2 (v := (1 : Int32)) (by decide) dD_29 rfl ?_
  refine Gl.ishl Y0_2 (r := (0 : Int32)) (by decide) dD_30 rfl ?_
  refine Gl.istoreN Y0_2 (L' := #[.val (.ref b), .val (.int 0), .val (.int u0)]) rfl dD_31 rfl ?_
  refine Gl.aloadN Y0_2 rfl rfl dD_32 rfl ?_
  refine Gl.iloadN Y0_2 rfl dD_33 rfl ?_
  refine Gl.iinc Y0_2 rfl (r := (1 : Int32)) (by decide) (L' := #[.val (.ref b), .val (.int 1), .val (.int u0)]) rfl dD_34 rfl ?_
  refine Gl.iloadN Y0_2 rfl dD_37 rfl ?_
  refine Gl.getS Y0_2 (host := "") (Or.inl (tw_88 hw)) Via.refl (Sta.ext O.2 SH) dD_38 rfl (fun T38 Y38 => ?_)
  refine Gl.ishr Y38 rfl dD_41 rfl ?_
  refine Gl.i2b Y38 rfl dD_42 rfl ?_
  refine Gl.bastore Y38 Vb (v := (.int ((u0 >>> ((0 : Int32) &&& 31)).toInt8.toInt32))) (congrArg Value.int (own_narB rfl)) ⟨by decide, by decide⟩ (ix := 0) rfl (nle rfl) gb dD_43 rfl (fun T43 h43 Y43 W43 A43 => ?_)
  have A43 : Arv Z h43 b kb .byte (8 : Int32) [(.int ((u0 >>> ((0 : Int32) &&& 31)).toInt8.toInt32)), (.int 0), (.int 0), (.int 0), (.int 0), (.int 0), (.int 0), (.int 0)] (.int 0) := A43
  have K43 : Keep h0 h43 [b] := (Keep.refl h0 [b]).wr W43 (Or.inl (List.mem_of_getElem? (i := 0) rfl))
  show Gl p e below _ (T43.setTop (mkF m 44 _ []))
  refine Gl.aloadN Y43 rfl rfl dD_44 rfl ?_
  refine Gl.iloadN Y43 rfl dD_45 rfl ?_
  refine Gl.iloadN Y43 rfl dD_46 rfl ?_
  have f1 := (O.wr W43 gb)
  refine Gl.getS Y43 (host := "") (Or.inl (tw_89 hw)) Via.refl (Sta.ext f1.2 SL) dD_47 rfl (fun T47 Y47 => ?_)
  refine Gl.ishr Y47 rfl dD_50 rfl ?_
  refine Gl.i2b Y47 rfl dD_51 rfl ?_
  refine Gl.bastore Y47 A43 (v := (.int ((u0 >>> ((8 : Int32) &&& 31)).toInt8.toInt32))) (congrArg Value.int (own_narB rfl)) ⟨by decide, by decide⟩ (ix := 1) rfl (nle rfl) gb dD_52 rfl (fun T52 h52 Y52 W52 A52 => ?_)
  have A52 : Arv Z h52 b kb .byte (8 : Int32) [(.int ((u0 >>> ((0 : Int32) &&& 31)).toInt8.toInt32)), (.int ((u0 >>> ((8 : Int32) &&& 31)).toInt8.toInt32)), (.int 0), (.int 0), (.int 0), (.int 0), (.int 0), (.int 0)] (.int 0) := A52
  have K52 : Keep h0 h52 [b] := K43.wr W52 (Or.inl (List.mem_of_getElem? (i := 0) rfl))
  show Gl p e below _ (T52.setTop (mkF m 53 _ []))
  exact Gl.retV Y52 (by decide) (by decide)  dD_53 ⟨rfl, K52, A52⟩
def R38 : Room := { frames := 0, cells := 0, slots := 0, locals := 0 }
def Q38 (Z : State) (b : Addr) (kb : ClassId) (u0 u1 u2 u3 : Int32) (h0 : Heap) (v : Option Value) (h : Heap) : Prop := v = some (.int u0) ∧ h0 = h
theorem ef38 (b : Addr) (m : MethodId) : entryFrame m #[(.ref b), (.int 0)] 2 = mkF m 0 #[.val (.ref b), .val (.int 0)] [] := by first | (simp [entryFrame, mkF, argsToLocals, Value.category]; done) | rfl
theorem rm38 (hw : HW a0 Z) (b : Addr) (kb : ClassId) (u0 u1 u2 u3 : Int32) (h0 : Heap) (n0 : Nat) (Z0 : n0 ≤ h0.size) (O : Old Z n0 h0) (SA : uA Z) (SH : uS Z) (SL : uT Z) (Vb : Arv Z h0 b kb .byte (8 : Int32) [(.int (uL u0)), (.int (uH u0)), (.int (uL u1)), (.int (uH u1)), (.int (uL u2)), (.int (uH u2)), (.int (uL u3)), (.int (uH u3))] (.int 0)) (r_u0 : C16 u0) (r_u1 : C16 u1) (r_u2 : C16 u2) (r_u3 : C16 u3) : OMet l Z [] (⟨"java/lang/StringUTF16", "getChar", "([BI)C"⟩ : MethodName) jdk_52_method_5_code 2 (some .char) R38 #[(.ref b), (.int 0)] h0 n0 (Q38 Z b kb u0 u1 u2 u3 h0) := by
  refine OMet.of (own := "java/lang/StringUTF16") rfl (plainFor_of_name pn_0) (ef38 b) Z0 ?_
  intro p e s m below meth c T0 Y0 hnm
  refine Gl.getS Y0 (host := "") (Or.inl (tw_87 hw)) Via.refl (Sta.ext O.2 SA) dE_0 rfl (fun T0_2 Y0_2 => ?_)
  refine Gl.ifne Y0_2 dE_3 (by decide) rfl rfl (fun c3 => ?_) (fun c3 => ?_)
  rotate_left
  · exact absurd c3 (by decide)
  refine Gl.iloadN Y0_2 rfl dE_28 rfl ?_
  refine Gl.iconst Y0_2 (v := (1 : Int32)) (by decide) dE_29 rfl ?_
  refine Gl.ishl Y0_2 (r := (0 : Int32)) (by decide) dE_30 rfl ?_
  refine Gl.istoreN Y0_2 (L' := #[.val (.ref b), .val (.int 0)]) rfl dE_31 rfl ?_
  refine Gl.aloadN Y0_2 rfl rfl dE_32 rfl ?_
  refine Gl.iloadN Y0_2 rfl dE_33 rfl ?_
  refine Gl.iinc Y0_2 rfl (r := (1 : Int32)) (by decide) (L' := #[.val (.ref b), .val (.int 1)]) rfl dE_34 rfl ?_
  refine Gl.baload Y0_2 Vb ⟨by decide, by decide⟩ (v := (.int (uL u0))) rfl dE_37 rfl ?_
  refine Gl.sipush Y0_2 (v := (255 : Int32)) (by decide) dE_38 rfl ?_
  refine Gl.iand Y0_2 rfl dE_41 rfl ?_
  refine Gl.getS Y0_2 (host := "") (Or.inl (tw_88 hw)) Via.refl (Sta.ext O.2 SH) dE_42 rfl (fun T42 Y42 => ?_)
  refine Gl.ishl Y42 rfl dE_45 rfl ?_
  refine Gl.aloadN Y42 rfl rfl dE_46 rfl ?_
  refine Gl.iloadN Y42 rfl dE_47 rfl ?_
  refine Gl.baload Y42 Vb ⟨by decide, by decide⟩ (v := (.int (uH u0))) rfl dE_48 rfl ?_
  refine Gl.sipush Y42 (v := (255 : Int32)) (by decide) dE_49 rfl ?_
  refine Gl.iand Y42 rfl dE_52 rfl ?_
  refine Gl.getS Y42 (host := "") (Or.inl (tw_89 hw)) Via.refl (Sta.ext O.2 SL) dE_53 rfl (fun T53 Y53 => ?_)
  refine Gl.ishl Y53 rfl dE_56 rfl ?_
  refine Gl.ior Y53 rfl dE_57 rfl ?_
  refine Gl.i2c Y53 rfl dE_58 rfl ?_
  exact Gl.retC Y53 (by decide) (by decide) (x' := u0) ((own_narC rfl).trans (own_gc u0 r_u0)) dE_59 ⟨rfl, rfl⟩
def R39 : Room := { frames := 0, cells := 0, slots := 0, locals := 0 }
def Q39 (Z : State) (b : Addr) (kb : ClassId) (u0 u1 u2 u3 : Int32) (h0 : Heap) (v : Option Value) (h : Heap) : Prop := v = none ∧ Keep h0 h [b] ∧ Arv Z h b kb .byte (8 : Int32) [(.int (uL u0)), (.int (uH u0)), (.int (uL u1)), (.int (uH u1)), (.int 0), (.int 0), (.int 0), (.int 0)] (.int 0)
theorem ef39 (b : Addr) (u1 : Int32) (m : MethodId) : entryFrame m #[(.ref b), (.int 1), (.int u1)] 3 = mkF m 0 #[.val (.ref b), .val (.int 1), .val (.int u1)] [] := by first | (simp [entryFrame, mkF, argsToLocals, Value.category]; done) | rfl
theorem rm39 (hw : HW a0 Z) (b : Addr) (kb : ClassId) (u0 u1 u2 u3 : Int32) (h0 : Heap) (n0 : Nat) (Z0 : n0 ≤ h0.size) (O : Old Z n0 h0) (SA : uA Z) (SH : uS Z) (SL : uT Z) (Vb : Arv Z h0 b kb .byte (8 : Int32) [(.int (uL u0)), (.int (uH u0)), (.int 0), (.int 0), (.int 0), (.int 0), (.int 0), (.int 0)] (.int 0)) (gb : n0 ≤ b) : OMet l Z [] (⟨"java/lang/StringUTF16", "putChar", "([BII)V"⟩ : MethodName) jdk_52_method_4_code 3 none R39 #[(.ref b), (.int 1), (.int u1)] h0 n0 (Q39 Z b kb u0 u1 u2 u3 h0) := by
  refine OMet.of (own := "java/lang/StringUTF16") rfl (plainFor_of_name pn_0) (ef39 b u1) Z0 ?_
  intro p e s m below meth c T0 Y0 hnm
  refine Gl.getS Y0 (host := "") (Or.inl (tw_87 hw)) Via.refl (Sta.ext O.2 SA) dD_0 rfl (fun T0_2 Y0_2 => ?_)
  refine Gl.ifne Y0_2 dD_3 (by decide) rfl rfl (fun c3 => ?_) (fun c3 => ?_)
  rotate_left
  · exact absurd c3 (by decide)
  refine Gl.iloadN Y0_2 rfl dD_28 rfl ?_
  refine Gl.iconst Y0_2 (v := (1 : Int32)) (by decide) dD_29 rfl ?_
  refine Gl.ishl Y0_2 (r := (2 : Int32)) (by decide) dD_30 rfl ?_
  refine Gl.istoreN Y0_2 (L' := #[.val (.ref b), .val (.int 2), .val (.int u1)]) rfl dD_31 rfl ?_
  refine Gl.aloadN Y0_2 rfl rfl dD_32 rfl ?_
  refine Gl.iloadN Y0_2 rfl dD_33 rfl ?_
  refine Gl.iinc Y0_2 rfl (r := (3 : Int32)) (by decide) (L' := #[.val (.ref b), .val (.int 3), .val (.int u1)]) rfl dD_34 rfl ?_
  refine Gl.iloadN Y0_2 rfl dD_37 rfl ?_
  refine Gl.getS Y0_2 (host := "") (Or.inl (tw_88 hw)) Via.refl (Sta.ext O.2 SH) dD_38 rfl (fun T38 Y38 => ?_)
  refine Gl.ishr Y38 rfl dD_41 rfl ?_
  refine Gl.i2b Y38 rfl dD_42 rfl ?_
  refine Gl.bastore Y38 Vb (v := (.int ((u1 >>> ((0 : Int32) &&& 31)).toInt8.toInt32))) (congrArg Value.int (own_narB rfl)) ⟨by decide, by decide⟩ (ix := 2) rfl (nle rfl) gb dD_43 rfl (fun T43 h43 Y43 W43 A43 => ?_)
  have A43 : Arv Z h43 b kb .byte (8 : Int32) [(.int (uL u0)), (.int (uH u0)), (.int ((u1 >>> ((0 : Int32) &&& 31)).toInt8.toInt32)), (.int 0), (.int 0), (.int 0), (.int 0), (.int 0)] (.int 0) := A43
  have K43 : Keep h0 h43 [b] := (Keep.refl h0 [b]).wr W43 (Or.inl (List.mem_of_getElem? (i := 0) rfl))
  show Gl p e below _ (T43.setTop (mkF m 44 _ []))
  refine Gl.aloadN Y43 rfl rfl dD_44 rfl ?_
  refine Gl.iloadN Y43 rfl dD_45 rfl ?_
  refine Gl.iloadN Y43 rfl dD_46 rfl ?_
  have f1 := (O.wr W43 gb)
  refine Gl.getS Y43 (host := "") (Or.inl (tw_89 hw)) Via.refl (Sta.ext f1.2 SL) dD_47 rfl (fun T47 Y47 => ?_)
  refine Gl.ishr Y47 rfl dD_50 rfl ?_
  refine Gl.i2b Y47 rfl dD_51 rfl ?_
  refine Gl.bastore Y47 A43 (v := (.int ((u1 >>> ((8 : Int32) &&& 31)).toInt8.toInt32))) (congrArg Value.int (own_narB rfl)) ⟨by decide, by decide⟩ (ix := 3) rfl (nle rfl) gb dD_52 rfl (fun T52 h52 Y52 W52 A52 => ?_)
  have A52 : Arv Z h52 b kb .byte (8 : Int32) [(.int (uL u0)), (.int (uH u0)), (.int ((u1 >>> ((0 : Int32) &&& 31)).toInt8.toInt32)), (.int ((u1 >>> ((8 : Int32) &&& 31)).toInt8.toInt32)), (.int 0), (.int 0), (.int 0), (.int 0)] (.int 0) := A52
  have K52 : Keep h0 h52 [b] := K43.wr W52 (Or.inl (List.mem_of_getElem? (i := 0) rfl))
  show Gl p e below _ (T52.setTop (mkF m 53 _ []))
  exact Gl.retV Y52 (by decide) (by decide)  dD_53 ⟨rfl, K52, A52⟩
def R40 : Room := { frames := 0, cells := 0, slots := 0, locals := 0 }
def Q40 (Z : State) (b : Addr) (kb : ClassId) (u0 u1 u2 u3 : Int32) (h0 : Heap) (v : Option Value) (h : Heap) : Prop := v = some (.int u1) ∧ h0 = h
theorem ef40 (b : Addr) (m : MethodId) : entryFrame m #[(.ref b), (.int 1)] 2 = mkF m 0 #[.val (.ref b), .val (.int 1)] [] := by first | (simp [entryFrame, mkF, argsToLocals, Value.category]; done) | rfl
theorem rm40 (hw : HW a0 Z) (b : Addr) (kb : ClassId) (u0 u1 u2 u3 : Int32) (h0 : Heap) (n0 : Nat) (Z0 : n0 ≤ h0.size) (O : Old Z n0 h0) (SA : uA Z) (SH : uS Z) (SL : uT Z) (Vb : Arv Z h0 b kb .byte (8 : Int32) [(.int (uL u0)), (.int (uH u0)), (.int (uL u1)), (.int (uH u1)), (.int (uL u2)), (.int (uH u2)), (.int (uL u3)), (.int (uH u3))] (.int 0)) (r_u0 : C16 u0) (r_u1 : C16 u1) (r_u2 : C16 u2) (r_u3 : C16 u3) : OMet l Z [] (⟨"java/lang/StringUTF16", "getChar", "([BI)C"⟩ : MethodName) jdk_52_method_5_code 2 (some .char) R40 #[(.ref b), (.int 1)] h0 n0 (Q40 Z b kb u0 u1 u2 u3 h0) := by
  refine OMet.of (own := "java/lang/StringUTF16") rfl (plainFor_of_name pn_0) (ef40 b) Z0 ?_
  intro p e s m below meth c T0 Y0 hnm
  refine Gl.getS Y0 (host := "") (Or.inl (tw_87 hw)) Via.refl (Sta.ext O.2 SA) dE_0 rfl (fun T0_2 Y0_2 => ?_)
  refine Gl.ifne Y0_2 dE_3 (by decide) rfl rfl (fun c3 => ?_) (fun c3 => ?_)
  rotate_left
  · exact absurd c3 (by decide)
  refine Gl.iloadN Y0_2 rfl dE_28 rfl ?_
  refine Gl.iconst Y0_2 (v := (1 : Int32)) (by decide) dE_29 rfl ?_
  refine Gl.ishl Y0_2 (r := (2 : Int32)) (by decide) dE_30 rfl ?_
  refine Gl.istoreN Y0_2 (L' := #[.val (.ref b), .val (.int 2)]) rfl dE_31 rfl ?_
  refine Gl.aloadN Y0_2 rfl rfl dE_32 rfl ?_
  refine Gl.iloadN Y0_2 rfl dE_33 rfl ?_
  refine Gl.iinc Y0_2 rfl (r := (3 : Int32)) (by decide) (L' := #[.val (.ref b), .val (.int 3)]) rfl dE_34 rfl ?_
  refine Gl.baload Y0_2 Vb ⟨by decide, by decide⟩ (v := (.int (uL u1))) rfl dE_37 rfl ?_
  refine Gl.sipush Y0_2 (v := (255 : Int32)) (by decide) dE_38 rfl ?_
  refine Gl.iand Y0_2 rfl dE_41 rfl ?_
  refine Gl.getS Y0_2 (host := "") (Or.inl (tw_88 hw)) Via.refl (Sta.ext O.2 SH) dE_42 rfl (fun T42 Y42 => ?_)
  refine Gl.ishl Y42 rfl dE_45 rfl ?_
  refine Gl.aloadN Y42 rfl rfl dE_46 rfl ?_
  refine Gl.iloadN Y42 rfl dE_47 rfl ?_
  refine Gl.baload Y42 Vb ⟨by decide, by decide⟩ (v := (.int (uH u1))) rfl dE_48 rfl ?_
  refine Gl.sipush Y42 (v := (255 : Int32)) (by decide) dE_49 rfl ?_
  refine Gl.iand Y42 rfl dE_52 rfl ?_
  refine Gl.getS Y42 (host := "") (Or.inl (tw_89 hw)) Via.refl (Sta.ext O.2 SL) dE_53 rfl (fun T53 Y53 => ?_)
  refine Gl.ishl Y53 rfl dE_56 rfl ?_
  refine Gl.ior Y53 rfl dE_57 rfl ?_
  refine Gl.i2c Y53 rfl dE_58 rfl ?_
  exact Gl.retC Y53 (by decide) (by decide) (x' := u1) ((own_narC rfl).trans (own_gc u1 r_u1)) dE_59 ⟨rfl, rfl⟩
def R41 : Room := { frames := 0, cells := 0, slots := 0, locals := 0 }
def Q41 (Z : State) (b : Addr) (kb : ClassId) (u0 u1 u2 u3 : Int32) (h0 : Heap) (v : Option Value) (h : Heap) : Prop := v = none ∧ Keep h0 h [b] ∧ Arv Z h b kb .byte (8 : Int32) [(.int (uL u0)), (.int (uH u0)), (.int (uL u1)), (.int (uH u1)), (.int (uL u2)), (.int (uH u2)), (.int 0), (.int 0)] (.int 0)
theorem ef41 (b : Addr) (u2 : Int32) (m : MethodId) : entryFrame m #[(.ref b), (.int 2), (.int u2)] 3 = mkF m 0 #[.val (.ref b), .val (.int 2), .val (.int u2)] [] := by first | (simp [entryFrame, mkF, argsToLocals, Value.category]; done) | rfl
theorem rm41 (hw : HW a0 Z) (b : Addr) (kb : ClassId) (u0 u1 u2 u3 : Int32) (h0 : Heap) (n0 : Nat) (Z0 : n0 ≤ h0.size) (O : Old Z n0 h0) (SA : uA Z) (SH : uS Z) (SL : uT Z) (Vb : Arv Z h0 b kb .byte (8 : Int32) [(.int (uL u0)), (.int (uH u0)), (.int (uL u1)), (.int (uH u1)), (.int 0), (.int 0), (.int 0), (.int 0)] (.int 0)) (gb : n0 ≤ b) : OMet l Z [] (⟨"java/lang/StringUTF16", "putChar", "([BII)V"⟩ : MethodName) jdk_52_method_4_code 3 none R41 #[(.ref b), (.int 2), (.int u2)] h0 n0 (Q41 Z b kb u0 u1 u2 u3 h0) := by
  refine OMet.of (own := "java/lang/StringUTF16") rfl (plainFor_of_name pn_0) (ef41 b u2) Z0 ?_
  intro p e s m below meth c T0 Y0 hnm
  refine Gl.getS Y0 (host := "") (Or.inl (tw_87 hw)) Via.refl (Sta.ext O.2 SA) dD_0 rfl (fun T0_2 Y0_2 => ?_)
  refine Gl.ifne Y0_2 dD_3 (by decide) rfl rfl (fun c3 => ?_) (fun c3 => ?_)
  rotate_left
  · exact absurd c3 (by decide)
  refine Gl.iloadN Y0_2 rfl dD_28 rfl ?_
  refine Gl.iconst Y0_2 (v := (1 : Int32)) (by decide) dD_29 rfl ?_
  refine Gl.ishl Y0_2 (r := (4 : Int32)) (by decide) dD_30 rfl ?_
  refine Gl.istoreN Y0_2 (L' := #[.val (.ref b), .val (.int 4), .val (.int u2)]) rfl dD_31 rfl ?_
  refine Gl.aloadN Y0_2 rfl rfl dD_32 rfl ?_
  refine Gl.iloadN Y0_2 rfl dD_33 rfl ?_
  refine Gl.iinc Y0_2 rfl (r := (5 : Int32)) (by decide) (L' := #[.val (.ref b), .val (.int 5), .val (.int u2)]) rfl dD_34 rfl ?_
  refine Gl.iloadN Y0_2 rfl dD_37 rfl ?_
  refine Gl.getS Y0_2 (host := "") (Or.inl (tw_88 hw)) Via.refl (Sta.ext O.2 SH) dD_38 rfl (fun T38 Y38 => ?_)
  refine Gl.ishr Y38 rfl dD_41 rfl ?_
  refine Gl.i2b Y38 rfl dD_42 rfl ?_
  refine Gl.bastore Y38 Vb (v := (.int ((u2 >>> ((0 : Int32) &&& 31)).toInt8.toInt32))) (congrArg Value.int (own_narB rfl)) ⟨by decide, by decide⟩ (ix := 4) rfl (nle rfl) gb dD_43 rfl (fun T43 h43 Y43 W43 A43 => ?_)
  have A43 : Arv Z h43 b kb .byte (8 : Int32) [(.int (uL u0)), (.int (uH u0)), (.int (uL u1)), (.int (uH u1)), (.int ((u2 >>> ((0 : Int32) &&& 31)).toInt8.toInt32)), (.int 0), (.int 0), (.int 0)] (.int 0) := A43
  have K43 : Keep h0 h43 [b] := (Keep.refl h0 [b]).wr W43 (Or.inl (List.mem_of_getElem? (i := 0) rfl))
  show Gl p e below _ (T43.setTop (mkF m 44 _ []))
  refine Gl.aloadN Y43 rfl rfl dD_44 rfl ?_
  refine Gl.iloadN Y43 rfl dD_45 rfl ?_
  refine Gl.iloadN Y43 rfl dD_46 rfl ?_
  have f1 := (O.wr W43 gb)
  refine Gl.getS Y43 (host := "") (Or.inl (tw_89 hw)) Via.refl (Sta.ext f1.2 SL) dD_47 rfl (fun T47 Y47 => ?_)
  refine Gl.ishr Y47 rfl dD_50 rfl ?_
  refine Gl.i2b Y47 rfl dD_51 rfl ?_
  refine Gl.bastore Y47 A43 (v := (.int ((u2 >>> ((8 : Int32) &&& 31)).toInt8.toInt32))) (congrArg Value.int (own_narB rfl)) ⟨by decide, by decide⟩ (ix := 5) rfl (nle rfl) gb dD_52 rfl (fun T52 h52 Y52 W52 A52 => ?_)
  have A52 : Arv Z h52 b kb .byte (8 : Int32) [(.int (uL u0)), (.int (uH u0)), (.int (uL u1)), (.int (uH u1)), (.int ((u2 >>> ((0 : Int32) &&& 31)).toInt8.toInt32)), (.int ((u2 >>> ((8 : Int32) &&& 31)).toInt8.toInt32)), (.int 0), (.int 0)] (.int 0) := A52
  have K52 : Keep h0 h52 [b] := K43.wr W52 (Or.inl (List.mem_of_getElem? (i := 0) rfl))
  show Gl p e below _ (T52.setTop (mkF m 53 _ []))
  exact Gl.retV Y52 (by decide) (by decide)  dD_53 ⟨rfl, K52, A52⟩
def R42 : Room := { frames := 0, cells := 0, slots := 0, locals := 0 }
def Q42 (Z : State) (b : Addr) (kb : ClassId) (u0 u1 u2 u3 : Int32) (h0 : Heap) (v : Option Value) (h : Heap) : Prop := v = some (.int u2) ∧ h0 = h
theorem ef42 (b : Addr) (m : MethodId) : entryFrame m #[(.ref b), (.int 2)] 2 = mkF m 0 #[.val (.ref b), .val (.int 2)] [] := by first | (simp [entryFrame, mkF, argsToLocals, Value.category]; done) | rfl
theorem rm42 (hw : HW a0 Z) (b : Addr) (kb : ClassId) (u0 u1 u2 u3 : Int32) (h0 : Heap) (n0 : Nat) (Z0 : n0 ≤ h0.size) (O : Old Z n0 h0) (SA : uA Z) (SH : uS Z) (SL : uT Z) (Vb : Arv Z h0 b kb .byte (8 : Int32) [(.int (uL u0)), (.int (uH u0)), (.int (uL u1)), (.int (uH u1)), (.int (uL u2)), (.int (uH u2)), (.int (uL u3)), (.int (uH u3))] (.int 0)) (r_u0 : C16 u0) (r_u1 : C16 u1) (r_u2 : C16 u2) (r_u3 : C16 u3) : OMet l Z [] (⟨"java/lang/StringUTF16", "getChar", "([BI)C"⟩ : MethodName) jdk_52_method_5_code 2 (some .char) R42 #[(.ref b), (.int 2)] h0 n0 (Q42 Z b kb u0 u1 u2 u3 h0) := by
  refine OMet.of (own := "java/lang/StringUTF16") rfl (plainFor_of_name pn_0) (ef42 b) Z0 ?_
  intro p e s m below meth c T0 Y0 hnm
  refine Gl.getS Y0 (host := "") (Or.inl (tw_87 hw)) Via.refl (Sta.ext O.2 SA) dE_0 rfl (fun T0_2 Y0_2 => ?_)
  refine Gl.ifne Y0_2 dE_3 (by decide) rfl rfl (fun c3 => ?_) (fun c3 => ?_)
  rotate_left
  · exact absurd c3 (by decide)
  refine Gl.iloadN Y0_2 rfl dE_28 rfl ?_
  refine Gl.iconst Y0_2 (v := (1 : Int32)) (by decide) dE_29 rfl ?_
  refine Gl.ishl Y0_2 (r := (4 : Int32)) (by decide) dE_30 rfl ?_
  refine Gl.istoreN Y0_2 (L' := #[.val (.ref b), .val (.int 4)]) rfl dE_31 rfl ?_
  refine Gl.aloadN Y0_2 rfl rfl dE_32 rfl ?_
  refine Gl.iloadN Y0_2 rfl dE_33 rfl ?_
  refine Gl.iinc Y0_2 rfl (r := (5 : Int32)) (by decide) (L' := #[.val (.ref b), .val (.int 5)]) rfl dE_34 rfl ?_
  refine Gl.baload Y0_2 Vb ⟨by decide, by decide⟩ (v := (.int (uL u2))) rfl dE_37 rfl ?_
  refine Gl.sipush Y0_2 (v := (255 : Int32)) (by decide) dE_38 rfl ?_
  refine Gl.iand Y0_2 rfl dE_41 rfl ?_
  refine Gl.getS Y0_2 (host := "") (Or.inl (tw_88 hw)) Via.refl (Sta.ext O.2 SH) dE_42 rfl (fun T42 Y42 => ?_)
  refine Gl.ishl Y42 rfl dE_45 rfl ?_
  refine Gl.aloadN Y42 rfl rfl dE_46 rfl ?_
  refine Gl.iloadN Y42 rfl dE_47 rfl ?_
  refine Gl.baload Y42 Vb ⟨by decide, by decide⟩ (v := (.int (uH u2))) rfl dE_48 rfl ?_
  refine Gl.sipush Y42 (v := (255 : Int32)) (by decide) dE_49 rfl ?_
  refine Gl.iand Y42 rfl dE_52 rfl ?_
  refine Gl.getS Y42 (host := "") (Or.inl (tw_89 hw)) Via.refl (Sta.ext O.2 SL) dE_53 rfl (fun T53 Y53 => ?_)
  refine Gl.ishl Y53 rfl dE_56 rfl ?_
  refine Gl.ior Y53 rfl dE_57 rfl ?_
  refine Gl.i2c Y53 rfl dE_58 rfl ?_
  exact Gl.retC Y53 (by decide) (by decide) (x' := u2) ((own_narC rfl).trans (own_gc u2 r_u2)) dE_59 ⟨rfl, rfl⟩
def R43 : Room := { frames := 0, cells := 0, slots := 0, locals := 0 }
def Q43 (Z : State) (b : Addr) (kb : ClassId) (u0 u1 u2 u3 : Int32) (h0 : Heap) (v : Option Value) (h : Heap) : Prop := v = none ∧ Keep h0 h [b] ∧ Arv Z h b kb .byte (8 : Int32) [(.int (uL u0)), (.int (uH u0)), (.int (uL u1)), (.int (uH u1)), (.int (uL u2)), (.int (uH u2)), (.int (uL u3)), (.int (uH u3))] (.int 0)
theorem ef43 (b : Addr) (u3 : Int32) (m : MethodId) : entryFrame m #[(.ref b), (.int 3), (.int u3)] 3 = mkF m 0 #[.val (.ref b), .val (.int 3), .val (.int u3)] [] := by first | (simp [entryFrame, mkF, argsToLocals, Value.category]; done) | rfl
theorem rm43 (hw : HW a0 Z) (b : Addr) (kb : ClassId) (u0 u1 u2 u3 : Int32) (h0 : Heap) (n0 : Nat) (Z0 : n0 ≤ h0.size) (O : Old Z n0 h0) (SA : uA Z) (SH : uS Z) (SL : uT Z) (Vb : Arv Z h0 b kb .byte (8 : Int32) [(.int (uL u0)), (.int (uH u0)), (.int (uL u1)), (.int (uH u1)), (.int (uL u2)), (.int (uH u2)), (.int 0), (.int 0)] (.int 0)) (gb : n0 ≤ b) : OMet l Z [] (⟨"java/lang/StringUTF16", "putChar", "([BII)V"⟩ : MethodName) jdk_52_method_4_code 3 none R43 #[(.ref b), (.int 3), (.int u3)] h0 n0 (Q43 Z b kb u0 u1 u2 u3 h0) := by
  refine OMet.of (own := "java/lang/StringUTF16") rfl (plainFor_of_name pn_0) (ef43 b u3) Z0 ?_
  intro p e s m below meth c T0 Y0 hnm
  refine Gl.getS Y0 (host := "") (Or.inl (tw_87 hw)) Via.refl (Sta.ext O.2 SA) dD_0 rfl (fun T0_2 Y0_2 => ?_)
  refine Gl.ifne Y0_2 dD_3 (by decide) rfl rfl (fun c3 => ?_) (fun c3 => ?_)
  rotate_left
  · exact absurd c3 (by decide)
  refine Gl.iloadN Y0_2 rfl dD_28 rfl ?_
  refine Gl.iconst Y0_2 (v := (1 : Int32)) (by decide) dD_29 rfl ?_
  refine Gl.ishl Y0_2 (r := (6 : Int32)) (by decide) dD_30 rfl ?_
  refine Gl.istoreN Y0_2 (L' := #[.val (.ref b), .val (.int 6), .val (.int u3)]) rfl dD_31 rfl ?_
  refine Gl.aloadN Y0_2 rfl rfl dD_32 rfl ?_
  refine Gl.iloadN Y0_2 rfl dD_33 rfl ?_
  refine Gl.iinc Y0_2 rfl (r := (7 : Int32)) (by decide) (L' := #[.val (.ref b), .val (.int 7), .val (.int u3)]) rfl dD_34 rfl ?_
  refine Gl.iloadN Y0_2 rfl dD_37 rfl ?_
  refine Gl.getS Y0_2 (host := "") (Or.inl (tw_88 hw)) Via.refl (Sta.ext O.2 SH) dD_38 rfl (fun T38 Y38 => ?_)
  refine Gl.ishr Y38 rfl dD_41 rfl ?_
  refine Gl.i2b Y38 rfl dD_42 rfl ?_
  refine Gl.bastore Y38 Vb (v := (.int ((u3 >>> ((0 : Int32) &&& 31)).toInt8.toInt32))) (congrArg Value.int (own_narB rfl)) ⟨by decide, by decide⟩ (ix := 6) rfl (nle rfl) gb dD_43 rfl (fun T43 h43 Y43 W43 A43 => ?_)
  have A43 : Arv Z h43 b kb .byte (8 : Int32) [(.int (uL u0)), (.int (uH u0)), (.int (uL u1)), (.int (uH u1)), (.int (uL u2)), (.int (uH u2)), (.int ((u3 >>> ((0 : Int32) &&& 31)).toInt8.toInt32)), (.int 0)] (.int 0) := A43
  have K43 : Keep h0 h43 [b] := (Keep.refl h0 [b]).wr W43 (Or.inl (List.mem_of_getElem? (i := 0) rfl))
  show Gl p e below _ (T43.setTop (mkF m 44 _ []))
  refine Gl.aloadN Y43 rfl rfl dD_44 rfl ?_
  refine Gl.iloadN Y43 rfl dD_45 rfl ?_
  refine Gl.iloadN Y43 rfl dD_46 rfl ?_
  have f1 := (O.wr W43 gb)
  refine Gl.getS Y43 (host := "") (Or.inl (tw_89 hw)) Via.refl (Sta.ext f1.2 SL) dD_47 rfl (fun T47 Y47 => ?_)
  refine Gl.ishr Y47 rfl dD_50 rfl ?_
  refine Gl.i2b Y47 rfl dD_51 rfl ?_
  refine Gl.bastore Y47 A43 (v := (.int ((u3 >>> ((8 : Int32) &&& 31)).toInt8.toInt32))) (congrArg Value.int (own_narB rfl)) ⟨by decide, by decide⟩ (ix := 7) rfl (nle rfl) gb dD_52 rfl (fun T52 h52 Y52 W52 A52 => ?_)
  have A52 : Arv Z h52 b kb .byte (8 : Int32) [(.int (uL u0)), (.int (uH u0)), (.int (uL u1)), (.int (uH u1)), (.int (uL u2)), (.int (uH u2)), (.int ((u3 >>> ((0 : Int32) &&& 31)).toInt8.toInt32)), (.int ((u3 >>> ((8 : Int32) &&& 31)).toInt8.toInt32))] (.int 0) := A52
  have K52 : Keep h0 h52 [b] := K43.wr W52 (Or.inl (List.mem_of_getElem? (i := 0) rfl))
  show Gl p e below _ (T52.setTop (mkF m 53 _ []))
  exact Gl.retV Y52 (by decide) (by decide)  dD_53 ⟨rfl, K52, A52⟩
def R44 : Room := { frames := 0, cells := 0, slots := 0, locals := 0 }
def Q44 (Z : State) (b : Addr) (kb : ClassId) (u0 u1 u2 u3 : Int32) (h0 : Heap) (v : Option Value) (h : Heap) : Prop := v = some (.int u3) ∧ h0 = h
theorem ef44 (b : Addr) (m : MethodId) : entryFrame m #[(.ref b), (.int 3)] 2 = mkF m 0 #[.val (.ref b), .val (.int 3)] [] := by first | (simp [entryFrame, mkF, argsToLocals, Value.category]; done) | rfl
theorem rm44 (hw : HW a0 Z) (b : Addr) (kb : ClassId) (u0 u1 u2 u3 : Int32) (h0 : Heap) (n0 : Nat) (Z0 : n0 ≤ h0.size) (O : Old Z n0 h0) (SA : uA Z) (SH : uS Z) (SL : uT Z) (Vb : Arv Z h0 b kb .byte (8 : Int32) [(.int (uL u0)), (.int (uH u0)), (.int (uL u1)), (.int (uH u1)), (.int (uL u2)), (.int (uH u2)), (.int (uL u3)), (.int (uH u3))] (.int 0)) (r_u0 : C16 u0) (r_u1 : C16 u1) (r_u2 : C16 u2) (r_u3 : C16 u3) : OMet l Z [] (⟨"java/lang/StringUTF16", "getChar", "([BI)C"⟩ : MethodName) jdk_52_method_5_code 2 (some .char) R44 #[(.ref b), (.int 3)] h0 n0 (Q44 Z b kb u0 u1 u2 u3 h0) := by
  refine OMet.of (own := "java/lang/StringUTF16") rfl (plainFor_of_name pn_0) (ef44 b) Z0 ?_
  intro p e s m below meth c T0 Y0 hnm
  refine Gl.getS Y0 (host := "") (Or.inl (tw_87 hw)) Via.refl (Sta.ext O.2 SA) dE_0 rfl (fun T0_2 Y0_2 => ?_)
  refine Gl.ifne Y0_2 dE_3 (by decide) rfl rfl (fun c3 => ?_) (fun c3 => ?_)
  rotate_left
  · exact absurd c3 (by decide)
  refine Gl.iloadN Y0_2 rfl dE_28 rfl ?_
  refine Gl.iconst Y0_2 (v := (1 : Int32)) (by decide) dE_29 rfl ?_
  refine Gl.ishl Y0_2 (r := (6 : Int32)) (by decide) dE_30 rfl ?_
  refine Gl.istoreN Y0_2 (L' := #[.val (.ref b), .val (.int 6)]) rfl dE_31 rfl ?_
  refine Gl.aloadN Y0_2 rfl rfl dE_32 rfl ?_
  refine Gl.iloadN Y0_2 rfl dE_33 rfl ?_
  refine Gl.iinc Y0_2 rfl (r := (7 : Int32)) (by decide) (L' := #[.val (.ref b), .val (.int 7)]) rfl dE_34 rfl ?_
  refine Gl.baload Y0_2 Vb ⟨by decide, by decide⟩ (v := (.int (uL u3))) rfl dE_37 rfl ?_
  refine Gl.sipush Y0_2 (v := (255 : Int32)) (by decide) dE_38 rfl ?_
  refine Gl.iand Y0_2 rfl dE_41 rfl ?_
  refine Gl.getS Y0_2 (host := "") (Or.inl (tw_88 hw)) Via.refl (Sta.ext O.2 SH) dE_42 rfl (fun T42 Y42 => ?_)
  refine Gl.ishl Y42 rfl dE_45 rfl ?_
  refine Gl.aloadN Y42 rfl rfl dE_46 rfl ?_
  refine Gl.iloadN Y42 rfl dE_47 rfl ?_
  refine Gl.baload Y42 Vb ⟨by decide, by decide⟩ (v := (.int (uH u3))) rfl dE_48 rfl ?_
  refine Gl.sipush Y42 (v := (255 : Int32)) (by decide) dE_49 rfl ?_
  refine Gl.iand Y42 rfl dE_52 rfl ?_
  refine Gl.getS Y42 (host := "") (Or.inl (tw_89 hw)) Via.refl (Sta.ext O.2 SL) dE_53 rfl (fun T53 Y53 => ?_)
  refine Gl.ishl Y53 rfl dE_56 rfl ?_
  refine Gl.ior Y53 rfl dE_57 rfl ?_
  refine Gl.i2c Y53 rfl dE_58 rfl ?_
  exact Gl.retC Y53 (by decide) (by decide) (x' := u3) ((own_narC rfl).trans (own_gc u3 r_u3)) dE_59 ⟨rfl, rfl⟩
def R45 : Room := { frames := 2, cells := 1, slots := 8, locals := 24 }
def Q45 (Z : State) (ca : Addr) (kc : ClassId) (u0 u1 u2 u3 : Int32) (h0 : Heap) (v : Option Value) (h : Heap) : Prop := ∃ b : Addr, ∃ kb : ClassId, v = some (.ref b) ∧ Keep h0 h [] ∧ h0.size ≤ b ∧ Arv Z h b kb .byte (8 : Int32) [(.int (uL u0)), (.int (uH u0)), (.int (uL u1)), (.int (uH u1)), (.int (uL u2)), (.int (uH u2)), (.int (uL u3)), (.int (uH u3))] (.int 0)
theorem ef45 (ca : Addr) (m : MethodId) : entryFrame m #[(.ref ca), (.int 0), (.int 4)] 5 = mkF m 0 #[.val (.ref ca), .val (.int 0), .val (.int 4), .unset, .unset] [] := by first | (simp [entryFrame, mkF, argsToLocals, Value.category]; done) | rfl
theorem rm45 (hw : HW a0 Z) (ca : Addr) (kc : ClassId) (u0 u1 u2 u3 : Int32) (h0 : Heap) (n0 : Nat) (Z0 : n0 ≤ h0.size) (O : Old Z n0 h0) (SA : uA Z) (SH : uS Z) (SL : uT Z) (Vc : Arv Z h0 ca kc .char (4 : Int32) [(.int u0), (.int u1), (.int u2), (.int u3)] (.int 0)) : OMet l Z [] (⟨"java/lang/StringUTF16", "toBytes", "([CII)[B"⟩ : MethodName) jdk_52_method_14_code 5 (some (.array .byte)) R45 #[(.ref ca), (.int 0), (.int 4)] h0 n0 (Q45 Z ca kc u0 u1 u2 u3 h0) := by
  refine OMet.of (own := "java/lang/StringUTF16") rfl (plainFor_of_name pn_0) (ef45 ca) Z0 ?_
  intro p e s m below meth c T0 Y0 hnm
  refine Gl.iloadN Y0 rfl dF_0 rfl ?_
  refine Gl.callS Y0 (tw_77 hw) (tw_78 hw) (tw_44 hw) (tw_79 hw) (by decide) (rm36 l Z a0 hw h0 n0 Y0.sz) (argsL := [(.int 4)]) (rest := []) rfl rfl (lenOf pd_1 rfl) rfl (by decide) (nle rfl) (by decide) (by decide) dF_1 rfl (fun v1 T1 h1 Y1 q1 => ?_)
  obtain ⟨b1, kb1, rfl, K1, f1_0, f1_1⟩ := q1
  have Y1_sz : n0 ≤ h0.size := Y0.sz
  have KK1 : Keep h0 h1 [] := (Keep.refl h0 []).trans K1 all0
  have zb1 : h0.size ≤ b1 := Nat.le_trans (Keep.refl h0 []).1 f1_0
  show Gl p e below _ (T1.setTop (mkF m 4 _ [(.ref b1)]))
  refine Gl.astoreN Y1 rfl (L' := #[.val (.ref ca), .val (.int 0), .val (.int 4), .val (.ref b1), .unset]) rfl dF_4 rfl ?_
  refine Gl.iconst Y1 (v := (0 : Int32)) (by decide) dF_5 rfl ?_
  refine Gl.istore Y1 (L' := #[.val (.ref ca), .val (.int 0), .val (.int 4), .val (.ref b1), .val (.int 0)]) rfl dF_6 rfl ?_
  refine Gl.iload Y1 rfl dF_8 rfl ?_
  refine Gl.iloadN Y1 rfl dF_10 rfl ?_
  refine Gl.icmpge Y1 dF_11 (by decide) rfl rfl (fun c11 => ?_) (fun c11 => ?_)
  · exact absurd c11 (by decide)
  refine Gl.aloadN Y1 rfl rfl dF_14 rfl ?_
  refine Gl.iload Y1 rfl dF_15 rfl ?_
  refine Gl.aloadN Y1 rfl rfl dF_17 rfl ?_
  refine Gl.iloadN Y1 rfl dF_18 rfl ?_
  have f1 := (Vc.keep K1 nin0)
  refine Gl.caload Y1 f1 ⟨by decide, by decide⟩ (v := (.int u0)) rfl dF_19 rfl ?_
  have f2 := (O.keep K1 all0)
  refine Gl.callS Y1 (tw_84 hw) (tw_85 hw) (tw_44 hw) (tw_86 hw) (by decide) (rm37 l Z a0 hw b1 kb1 u0 u1 u2 u3 h1 n0 Y1.sz f2 SA SH SL f1_1 (Nat.le_trans Y1_sz f1_0)) (argsL := [(.ref b1), (.int 0), (.int u0)]) (rest := []) rfl rfl (lenOf pd_2 rfl) rfl (by decide) (nle rfl) (by decide) (by decide) dF_20 rfl (fun v20 T20 h20 Y20 q20 => ?_)
  obtain ⟨rfl, K20, f20_0⟩ := q20
  have KK20 : Keep h0 h20 [] := KK1.trans K20 (allS (Or.inr zb1) all0)
  show Gl p e below _ (T20.setTop (mkF m 23 _ []))
  refine Gl.iinc Y20 rfl (r := (1 : Int32)) (by decide) (L' := #[.val (.ref ca), .val (.int 1), .val (.int 4), .val (.ref b1), .val (.int 0)]) rfl dF_23 rfl ?_
  refine Gl.iinc Y20 rfl (r := (1 : Int32)) (by decide) (L' := #[.val (.ref ca), .val (.int 1), .val (.int 4), .val (.ref b1), .val (.int 1)]) rfl dF_26 rfl ?_
  refine Gl.goto Y20 dF_29 (by decide) rfl ?_
  refine Gl.iload Y20 rfl dF_8 rfl ?_
  refine Gl.iloadN Y20 rfl dF_10 rfl ?_
  refine Gl.icmpge Y20 dF_11 (by decide) rfl rfl (fun c11_2 => ?_) (fun c11_2 => ?_)
  · exact absurd c11_2 (by decide)
  refine Gl.aloadN Y20 rfl rfl dF_14 rfl ?_
  refine Gl.iload Y20 rfl dF_15 rfl ?_
  refine Gl.aloadN Y20 rfl rfl dF_17 rfl ?_
  refine Gl.iloadN Y20 rfl dF_18 rfl ?_
  have f3 := (f1.keep K20 (ninS (Nat.ne_of_lt (Nat.lt_of_lt_of_le Vc.lt f1_0)) nin0))
  refine Gl.caload Y20 f3 ⟨by decide, by decide⟩ (v := (.int u1)) rfl dF_19 rfl ?_
  have f4 := (f2.keep K20 (allS (Nat.le_trans Y1_sz f1_0) all0))
  refine Gl.callS Y20 (tw_84 hw) (tw_85 hw) (tw_44 hw) (tw_86 hw) (by decide) (rm39 l Z a0 hw b1 kb1 u0 u1 u2 u3 h20 n0 Y20.sz f4 SA SH SL f20_0 (Nat.le_trans Y1_sz f1_0)) (argsL := [(.ref b1), (.int 1), (.int u1)]) (rest := []) rfl rfl (lenOf pd_2 rfl) rfl (by decide) (nle rfl) (by decide) (by decide) dF_20 rfl (fun v20_2 T20_2 h20_2 Y20_2 q20_2 => ?_)
  obtain ⟨rfl, K20_2, f20_2_0⟩ := q20_2
  have KK20_2 : Keep h0 h20_2 [] := KK20.trans K20_2 (allS (Or.inr zb1) all0)
  show Gl p e below _ (T20_2.setTop (mkF m 23 _ []))
  refine Gl.iinc Y20_2 rfl (r := (2 : Int32)) (by decide) (L' := #[.val (.ref ca), .val (.int 2), .val (.int 4), .val (.ref b1), .val (.int 1)]) rfl dF_23 rfl ?_
  refine Gl.iinc Y20_2 rfl (r := (2 : Int32)) (by decide) (L' := #[.val (.ref ca), .val (.int 2), .val (.int 4), .val (.ref b1), .val (.int 2)]) rfl dF_26 rfl ?_
  refine Gl.goto Y20_2 dF_29 (by decide) rfl ?_
  refine Gl.iload Y20_2 rfl dF_8 rfl ?_
  refine Gl.iloadN Y20_2 rfl dF_10 rfl ?_
  refine Gl.icmpge Y20_2 dF_11 (by decide) rfl rfl (fun c11_3 => ?_) (fun c11_3 => ?_)
  · exact absurd c11_3 (by decide)
  refine Gl.aloadN Y20_2 rfl rfl dF_14 rfl ?_
  refine Gl.iload Y20_2 rfl dF_15 rfl ?_
  refine Gl.aloadN Y20_2 rfl rfl dF_17 rfl ?_
  refine Gl.iloadN Y20_2 rfl dF_18 rfl ?_
  have f5 := (f3.keep K20_2 (ninS (Nat.ne_of_lt (Nat.lt_of_lt_of_le Vc.lt f1_0)) nin0))
  refine Gl.caload Y20_2 f5 ⟨by decide, by decide⟩ (v := (.int u2)) rfl dF_19 rfl ?_
  have f6 := (f4.keep K20_2 (allS (Nat.le_trans Y1_sz f1_0) all0))
  refine Gl.callS Y20_2 (tw_84 hw) (tw_85 hw) (tw_44 hw) (tw_86 hw) (by decide) (rm41 l Z a0 hw b1 kb1 u0 u1 u2 u3 h20_2 n0 Y20_2.sz f6 SA SH SL f20_2_0 (Nat.le_trans Y1_sz f1_0)) (argsL := [(.ref b1), (.int 2), (.int u2)]) (rest := []) rfl rfl (lenOf pd_2 rfl) rfl (by decide) (nle rfl) (by decide) (by decide) dF_20 rfl (fun v20_3 T20_3 h20_3 Y20_3 q20_3 => ?_)
  obtain ⟨rfl, K20_3, f20_3_0⟩ := q20_3
  have KK20_3 : Keep h0 h20_3 [] := KK20_2.trans K20_3 (allS (Or.inr zb1) all0)
  show Gl p e below _ (T20_3.setTop (mkF m 23 _ []))
  refine Gl.iinc Y20_3 rfl (r := (3 : Int32)) (by decide) (L' := #[.val (.ref ca), .val (.int 3), .val (.int 4), .val (.ref b1), .val (.int 2)]) rfl dF_23 rfl ?_
  refine Gl.iinc Y20_3 rfl (r := (3 : Int32)) (by decide) (L' := #[.val (.ref ca), .val (.int 3), .val (.int 4), .val (.ref b1), .val (.int 3)]) rfl dF_26 rfl ?_
  refine Gl.goto Y20_3 dF_29 (by decide) rfl ?_
  refine Gl.iload Y20_3 rfl dF_8 rfl ?_
  refine Gl.iloadN Y20_3 rfl dF_10 rfl ?_
  refine Gl.icmpge Y20_3 dF_11 (by decide) rfl rfl (fun c11_4 => ?_) (fun c11_4 => ?_)
  · exact absurd c11_4 (by decide)
  refine Gl.aloadN Y20_3 rfl rfl dF_14 rfl ?_
  refine Gl.iload Y20_3 rfl dF_15 rfl ?_
  refine Gl.aloadN Y20_3 rfl rfl dF_17 rfl ?_
  refine Gl.iloadN Y20_3 rfl dF_18 rfl ?_
  have f7 := (f5.keep K20_3 (ninS (Nat.ne_of_lt (Nat.lt_of_lt_of_le Vc.lt f1_0)) nin0))
  refine Gl.caload Y20_3 f7 ⟨by decide, by decide⟩ (v := (.int u3)) rfl dF_19 rfl ?_
  have f8 := (f6.keep K20_3 (allS (Nat.le_trans Y1_sz f1_0) all0))
  refine Gl.callS Y20_3 (tw_84 hw) (tw_85 hw) (tw_44 hw) (tw_86 hw) (by decide) (rm43 l Z a0 hw b1 kb1 u0 u1 u2 u3 h20_3 n0 Y20_3.sz f8 SA SH SL f20_3_0 (Nat.le_trans Y1_sz f1_0)) (argsL := [(.ref b1), (.int 3), (.int u3)]) (rest := []) rfl rfl (lenOf pd_2 rfl) rfl (by decide) (nle rfl) (by decide) (by decide) dF_20 rfl (fun v20_4 T20_4 h20_4 Y20_4 q20_4 => ?_)
  obtain ⟨rfl, K20_4, f20_4_0⟩ := q20_4
  have KK20_4 : Keep h0 h20_4 [] := KK20_3.trans K20_4 (allS (Or.inr zb1) all0)
  show Gl p e below _ (T20_4.setTop (mkF m 23 _ []))
  refine Gl.iinc Y20_4 rfl (r := (4 : Int32)) (by decide) (L' := #[.val (.ref ca), .val (.int 4), .val (.int 4), .val (.ref b1), .val (.int 3)]) rfl dF_23 rfl ?_
  refine Gl.iinc Y20_4 rfl (r := (4 : Int32)) (by decide) (L' := #[.val (.ref ca), .val (.int 4), .val (.int 4), .val (.ref b1), .val (.int 4)]) rfl dF_26 rfl ?_
  refine Gl.goto Y20_4 dF_29 (by decide) rfl ?_
  refine Gl.iload Y20_4 rfl dF_8 rfl ?_
  refine Gl.iloadN Y20_4 rfl dF_10 rfl ?_
  refine Gl.icmpge Y20_4 dF_11 (by decide) rfl rfl (fun c11_5 => ?_) (fun c11_5 => ?_)
  rotate_left
  · exact absurd c11_5 (by decide)
  refine Gl.aloadN Y20_4 rfl rfl dF_32 rfl ?_
  exact Gl.retA Y20_4 (by decide) (by decide) rfl rfl dF_33 ⟨b1, kb1, rfl, KK20_4, zb1, f20_4_0⟩
theorem dG_0 : decode jdk_52_method_15_code 0 = .ok (.iload_n 1, 1) := by decide +kernel
theorem dG_1 : decode jdk_52_method_15_code 1 = .ok (.aload_n 0, 1) := by decide +kernel
theorem dG_2 : decode jdk_52_method_15_code 2 = .ok (.arraylength, 1) := by decide +kernel
theorem dG_3 : decode jdk_52_method_15_code 3 = .ok (.isub, 1) := by decide +kernel
theorem dG_4 : decode jdk_52_method_15_code 4 = .ok (.bipush 31, 2) := by decide +kernel
theorem dG_6 : decode jdk_52_method_15_code 6 = .ok (.iushr, 1) := by decide +kernel
theorem dG_7 : decode jdk_52_method_15_code 7 = .ok (.i2b, 1) := by decide +kernel
theorem dG_8 : decode jdk_52_method_15_code 8 = .ok (.ireturn, 1) := by decide +kernel
def R46 : Room := { frames := 0, cells := 0, slots := 0, locals := 0 }
def Q46 (Z : State) (b : Addr) (kb : ClassId) (u0 : Int32) (h0 : Heap) (v : Option Value) (h : Heap) : Prop := v = some (.int 0) ∧ h0 = h
theorem ef46 (b : Addr) (m : MethodId) : entryFrame m #[(.ref b), (.int 1)] 2 = mkF m 0 #[.val (.ref b), .val (.int 1)] [] := by first | (simp [entryFrame, mkF, argsToLocals, Value.category]; done) | rfl
theorem rm46 (hw : HW a0 Z) (b : Addr) (kb : ClassId) (u0 : Int32) (h0 : Heap) (n0 : Nat) (Z0 : n0 ≤ h0.size) (Vb : Arv Z h0 b kb .byte (1 : Int32) [(.int (bL u0))] (.int 0)) : OMet l Z [] (⟨"java/lang/StringUTF16", "coderFromArrayLen", "([BI)B"⟩ : MethodName) jdk_52_method_15_code 2 (some .byte) R46 #[(.ref b), (.int 1)] h0 n0 (Q46 Z b kb u0 h0) := by
  refine OMet.of (own := "java/lang/StringUTF16") rfl (plainFor_of_name pn_0) (ef46 b) Z0 ?_
  intro p e s m below meth c T0 Y0 hnm
  refine Gl.iloadN Y0 rfl dG_0 rfl ?_
  refine Gl.aloadN Y0 rfl rfl dG_1 rfl ?_
  refine Gl.arraylength Y0 Vb dG_2 rfl ?_
  refine Gl.isub Y0 (r := (0 : Int32)) (by decide) dG_3 rfl ?_
  refine Gl.bipush Y0 (v := (31 : Int32)) (by decide) dG_4 rfl ?_
  refine Gl.iushr Y0 (r := (0 : Int32)) (by decide) dG_6 rfl ?_
  refine Gl.i2b Y0 (r := (0 : Int32)) (by decide) dG_7 rfl ?_
  exact Gl.retB Y0 (by decide) (by decide) (x' := (0 : Int32)) (by decide) dG_8 ⟨rfl, rfl⟩
def R47 : Room := { frames := 0, cells := 0, slots := 0, locals := 0 }
def Q47 (Z : State) (b : Addr) (kb : ClassId) (u0 : Int32) (h0 : Heap) (v : Option Value) (h : Heap) : Prop := v = some (.int 1) ∧ h0 = h
theorem ef47 (b : Addr) (m : MethodId) : entryFrame m #[(.ref b), (.int 1)] 2 = mkF m 0 #[.val (.ref b), .val (.int 1)] [] := by first | (simp [entryFrame, mkF, argsToLocals, Value.category]; done) | rfl
theorem rm47 (hw : HW a0 Z) (b : Addr) (kb : ClassId) (u0 : Int32) (h0 : Heap) (n0 : Nat) (Z0 : n0 ≤ h0.size) (Vb : Arv Z h0 b kb .byte (2 : Int32) [(.int (uL u0)), (.int (uH u0))] (.int 0)) : OMet l Z [] (⟨"java/lang/StringUTF16", "coderFromArrayLen", "([BI)B"⟩ : MethodName) jdk_52_method_15_code 2 (some .byte) R47 #[(.ref b), (.int 1)] h0 n0 (Q47 Z b kb u0 h0) := by
  refine OMet.of (own := "java/lang/StringUTF16") rfl (plainFor_of_name pn_0) (ef47 b) Z0 ?_
  intro p e s m below meth c T0 Y0 hnm
  refine Gl.iloadN Y0 rfl dG_0 rfl ?_
  refine Gl.aloadN Y0 rfl rfl dG_1 rfl ?_
  refine Gl.arraylength Y0 Vb dG_2 rfl ?_
  refine Gl.isub Y0 (r := (-1 : Int32)) (by decide) dG_3 rfl ?_
  refine Gl.bipush Y0 (v := (31 : Int32)) (by decide) dG_4 rfl ?_
  refine Gl.iushr Y0 (r := (1 : Int32)) (by decide) dG_6 rfl ?_
  refine Gl.i2b Y0 (r := (1 : Int32)) (by decide) dG_7 rfl ?_
  exact Gl.retB Y0 (by decide) (by decide) (x' := (1 : Int32)) (by decide) dG_8 ⟨rfl, rfl⟩
theorem dH_0 : decode jdk_52_method_16_code 0 = .ok (.iload_n 2, 1) := by decide +kernel
theorem dH_1 : decode jdk_52_method_16_code 1 = .ok (.newarray .byte, 2) := by decide +kernel
theorem dH_3 : decode jdk_52_method_16_code 3 = .ok (.astore_n 3, 1) := by decide +kernel
theorem dH_4 : decode jdk_52_method_16_code 4 = .ok (.aload_n 0, 1) := by decide +kernel
theorem dH_5 : decode jdk_52_method_16_code 5 = .ok (.iload_n 1, 1) := by decide +kernel
theorem dH_6 : decode jdk_52_method_16_code 6 = .ok (.aload_n 3, 1) := by decide +kernel
theorem dH_7 : decode jdk_52_method_16_code 7 = .ok (.iconst 0, 1) := by decide +kernel
theorem dH_8 : decode jdk_52_method_16_code 8 = .ok (.iload_n 2, 1) := by decide +kernel
theorem dH_9 : decode jdk_52_method_16_code 9 = .ok (.invokestatic 115, 3) := by decide +kernel
theorem tw_46 {a0 : Array Value} {Z : State} (hw : HW a0 Z) : (Jvm.Cond.methodLink "java/lang/StringUTF16" (115 : Nat) ({ cls := "java/lang/StringUTF16", name := "compress", desc := "([CI[BII)I" } : Jvm.MethodName)).before a0 Z = true := hw _ (List.mem_of_getElem? (i := 46) rfl)
theorem pd_3 : parseMethodDescriptor "([CI[BII)I" = some ⟨[(.array .char), .int, (.array .byte), .int, .int], some .int⟩ := by decide +kernel
theorem tw_48 {a0 : Array Value} {Z : State} (hw : HW a0 Z) : (Jvm.Cond.code ({ cls := "java/lang/StringUTF16", name := "compress", desc := "([CI[BII)I" } : Jvm.MethodName) jdk_52_method_21_code (7 : Nat) (Option.some Jvm.ClassFile.FieldType.int)).before a0 Z = true := hw _ (List.mem_of_getElem? (i := 48) rfl)
theorem tw_47 {a0 : Array Value} {Z : State} (hw : HW a0 Z) : (Jvm.Cond.static ({ cls := "java/lang/StringUTF16", name := "compress", desc := "([CI[BII)I" } : Jvm.MethodName)).before a0 Z = true := hw _ (List.mem_of_getElem? (i := 47) rfl)
theorem dH_12 : decode jdk_52_method_16_code 12 = .ok (.istore 4, 2) := by decide +kernel
theorem dH_14 : decode jdk_52_method_16_code 14 = .ok (.iload 4, 2) := by decide +kernel
theorem dH_16 : decode jdk_52_method_16_code 16 = .ok (.iload_n 2, 1) := by decide +kernel
theorem dH_17 : decode jdk_52_method_16_code 17 = .ok (.if_icmp .eq 40, 3) := by decide +kernel
theorem dH_20 : decode jdk_52_method_16_code 20 = .ok (.aload_n 0, 1) := by decide +kernel
theorem dH_21 : decode jdk_52_method_16_code 21 = .ok (.iload_n 1, 1) := by decide +kernel
theorem dH_22 : decode jdk_52_method_16_code 22 = .ok (.iload_n 2, 1) := by decide +kernel
theorem dH_23 : decode jdk_52_method_16_code 23 = .ok (.invokestatic 119, 3) := by decide +kernel
theorem tw_74 {a0 : Array Value} {Z : State} (hw : HW a0 Z) : (Jvm.Cond.methodLink "java/lang/StringUTF16" (119 : Nat) ({ cls := "java/lang/StringUTF16", name := "toBytes", desc := "([CII)[B" } : Jvm.MethodName)).before a0 Z = true := hw _ (List.mem_of_getElem? (i := 74) rfl)
theorem pd_4 : parseMethodDescriptor "([CII)[B" = some ⟨[(.array .char), .int, .int], some (.array .byte)⟩ := by decide +kernel
theorem tw_76 {a0 : Array Value} {Z : State} (hw : HW a0 Z) : (Jvm.Cond.code ({ cls := "java/lang/StringUTF16", name := "toBytes", desc := "([CII)[B" } : Jvm.MethodName) jdk_52_method_14_code (5 : Nat) (Option.some (Jvm.ClassFile.FieldType.array Jvm.ClassFile.FieldType.byte))).before a0 Z = true := hw _ (List.mem_of_getElem? (i := 76) rfl)
theorem tw_75 {a0 : Array Value} {Z : State} (hw : HW a0 Z) : (Jvm.Cond.static ({ cls := "java/lang/StringUTF16", name := "toBytes", desc := "([CII)[B" } : Jvm.MethodName)).before a0 Z = true := hw _ (List.mem_of_getElem? (i := 75) rfl)
theorem dH_26 : decode jdk_52_method_16_code 26 = .ok (.astore 5, 2) := by decide +kernel
theorem dH_28 : decode jdk_52_method_16_code 28 = .ok (.aload 5, 2) := by decide +kernel
theorem dH_30 : decode jdk_52_method_16_code 30 = .ok (.iload 4, 2) := by decide +kernel
theorem dH_32 : decode jdk_52_method_16_code 32 = .ok (.invokestatic 71, 3) := by decide +kernel
theorem tw_90 {a0 : Array Value} {Z : State} (hw : HW a0 Z) : (Jvm.Cond.methodLink "java/lang/StringUTF16" (71 : Nat) ({ cls := "java/lang/StringUTF16", name := "getChar", desc := "([BI)C" } : Jvm.MethodName)).before a0 Z = true := hw _ (List.mem_of_getElem? (i := 90) rfl)
theorem pd_5 : parseMethodDescriptor "([BI)C" = some ⟨[(.array .byte), .int], some .char⟩ := by decide +kernel
theorem tw_92 {a0 : Array Value} {Z : State} (hw : HW a0 Z) : (Jvm.Cond.code ({ cls := "java/lang/StringUTF16", name := "getChar", desc := "([BI)C" } : Jvm.MethodName) jdk_52_method_5_code (2 : Nat) (Option.some Jvm.ClassFile.FieldType.char)).before a0 Z = true := hw _ (List.mem_of_getElem? (i := 92) rfl)
theorem tw_91 {a0 : Array Value} {Z : State} (hw : HW a0 Z) : (Jvm.Cond.static ({ cls := "java/lang/StringUTF16", name := "getChar", desc := "([BI)C" } : Jvm.MethodName)).before a0 Z = true := hw _ (List.mem_of_getElem? (i := 91) rfl)
theorem dH_35 : decode jdk_52_method_16_code 35 = .ok (.sipush 255, 3) := by decide +kernel
theorem dH_38 : decode jdk_52_method_16_code 38 = .ok (.if_icmp .gt 16, 3) := by decide +kernel
theorem dH_54 : decode jdk_52_method_16_code 54 = .ok (.aload 5, 2) := by decide +kernel
theorem dH_56 : decode jdk_52_method_16_code 56 = .ok (.areturn, 1) := by decide +kernel
def R48 : Room := { frames := 3, cells := 2, slots := 3, locals := 40 }
def Q48 (Z : State) (ca : Addr) (kc : ClassId) (u0 : Int32) (h0 : Heap) (v : Option Value) (h : Heap) : Prop := ∃ b : Addr, ∃ kb : ClassId, v = some (.ref b) ∧ Keep h0 h [] ∧ h0.size ≤ b ∧ Arv Z h b kb .byte (2 : Int32) [(.int (uL u0)), (.int (uH u0))] (.int 0)
theorem ef48 (ca : Addr) (m : MethodId) : entryFrame m #[(.ref ca), (.int 0), (.int 1)] 6 = mkF m 0 #[.val (.ref ca), .val (.int 0), .val (.int 1), .unset, .unset, .unset] [] := by first | (simp [entryFrame, mkF, argsToLocals, Value.category]; done) | rfl
theorem rm48 (hw : HW a0 Z) (ca : Addr) (kc : ClassId) (u0 : Int32) (h0 : Heap) (n0 : Nat) (Z0 : n0 ≤ h0.size) (O : Old Z n0 h0) (SA : uA Z) (SH : uS Z) (SL : uT Z) (Vc : Arv Z h0 ca kc .char (1 : Int32) [(.int u0)] (.int 0)) (m0 : 255 < u0) (r_u0 : C16 u0) : OMet l Z [] (⟨"java/lang/StringUTF16", "compress", "([CII)[B"⟩ : MethodName) jdk_52_method_16_code 6 (some (.array .byte)) R48 #[(.ref ca), (.int 0), (.int 1)] h0 n0 (Q48 Z ca kc u0 h0) := by
  refine OMet.of (own := "java/lang/StringUTF16") rfl (plainFor_of_name pn_0) (ef48 ca) Z0 ?_
  intro p e s m below meth c T0 Y0 hnm
  refine Gl.iloadN Y0 rfl dH_0 rfl ?_
  refine Gl.newP Y0 1 (ty := .byte) rfl (tw_20 hw) (by decide) (by decide) (nle rfl) (nle rfl) (nle rfl) dH_1 rfl (fun T1 h1 b1 ck1 Y1 E1 g1 sb1 V1 => ?_)
  have V1 : Arv Z h1 b1 ck1 .byte (1 : Int32) [(.int 0)] (.int 0) := V1.pad (pad_rep [] (.int 0) 1)
  have zb1 : h0.size ≤ b1 := Nat.le_trans (Keep.refl h0 []).1 (Nat.le_of_eq g1.symm)
  have K1 : Keep h0 h1 [] := (Keep.refl h0 []).ext E1
  show Gl p e below _ (T1.setTop (mkF m 3 _ [(.ref b1)]))
  refine Gl.astoreN Y1 rfl (L' := #[.val (.ref ca), .val (.int 0), .val (.int 1), .val (.ref b1), .unset, .unset]) rfl dH_3 rfl ?_
  refine Gl.aloadN Y1 rfl rfl dH_4 rfl ?_
  refine Gl.iloadN Y1 rfl dH_5 rfl ?_
  refine Gl.aloadN Y1 rfl rfl dH_6 rfl ?_
  refine Gl.iconst Y1 (v := (0 : Int32)) (by decide) dH_7 rfl ?_
  refine Gl.iloadN Y1 rfl dH_8 rfl ?_
  have f1 := (Vc.ext E1)
  refine Gl.callS Y1 (tw_46 hw) (tw_47 hw) (tw_44 hw) (tw_48 hw) (by decide) (rm0 l Z a0 hw ca b1 kc ck1 u0 h1 n0 Y1.sz f1 V1 sb1 (Nat.ne_of_lt (Nat.lt_of_lt_of_eq Vc.lt g1.symm)) (m0)) (argsL := [(.ref ca), (.int 0), (.ref b1), (.int 0), (.int 1)]) (rest := []) rfl rfl (lenOf pd_3 rfl) rfl (by decide) (nle rfl) (by decide) (by decide) dH_9 rfl (fun v9 T9 h9 Y9 q9 => ?_)
  obtain ⟨rfl, K9, f9_0⟩ := q9
  have KK9 : Keep h0 h9 [] := K1.trans K9 (allS (Or.inr zb1) all0)
  show Gl p e below _ (T9.setTop (mkF m 12 _ [(.int 0)]))
  refine Gl.istore Y9 (L' := #[.val (.ref ca), .val (.int 0), .val (.int 1), .val (.ref b1), .val (.int 0), .unset]) rfl dH_12 rfl ?_
  refine Gl.iload Y9 rfl dH_14 rfl ?_
  refine Gl.iloadN Y9 rfl dH_16 rfl ?_
  refine Gl.icmpeq Y9 dH_17 (by decide) rfl rfl (fun c17 => ?_) (fun c17 => ?_)
  · exact absurd c17 (by decide)
  refine Gl.aloadN Y9 rfl rfl dH_20 rfl ?_
  refine Gl.iloadN Y9 rfl dH_21 rfl ?_
  refine Gl.iloadN Y9 rfl dH_22 rfl ?_
  have f2 := ((O.ext E1).keep K9 (allS sb1 all0))
  have f3 := (f1.keep K9 (ninS (Nat.ne_of_lt (Nat.lt_of_lt_of_eq Vc.lt g1.symm)) nin0))
  refine Gl.callS Y9 (tw_74 hw) (tw_75 hw) (tw_44 hw) (tw_76 hw) (by decide) (rm18 l Z a0 hw ca kc u0 h9 n0 Y9.sz f2 SA SH SL f3) (argsL := [(.ref ca), (.int 0), (.int 1)]) (rest := []) rfl rfl (lenOf pd_4 rfl) rfl (by decide) (nle rfl) (by decide) (by decide) dH_23 rfl (fun v23 T23 h23 Y23 q23 => ?_)
  obtain ⟨b23, kb23, rfl, K23, f23_0, f23_1⟩ := q23
  have Y23_sz : n0 ≤ h9.size := Y9.sz
  have KK23 : Keep h0 h23 [] := KK9.trans K23 all0
  have zb23 : h0.size ≤ b23 := Nat.le_trans KK9.1 f23_0
  show Gl p e below _ (T23.setTop (mkF m 26 _ [(.ref b23)]))
  refine Gl.astore Y23 rfl (L' := #[.val (.ref ca), .val (.int 0), .val (.int 1), .val (.ref b1), .val (.int 0), .val (.ref b23)]) rfl dH_26 rfl ?_
  refine Gl.aload Y23 rfl rfl dH_28 rfl ?_
  refine Gl.iload Y23 rfl dH_30 rfl ?_
  have f4 := (f2.keep K23 all0)
  refine Gl.callS Y23 (tw_90 hw) (tw_91 hw) (tw_44 hw) (tw_92 hw) (by decide) (rm17 l Z a0 hw b23 kb23 u0 h23 n0 Y23.sz f4 SA SH SL f23_1 (r_u0)) (argsL := [(.ref b23), (.int 0)]) (rest := []) rfl rfl (lenOf pd_5 rfl) rfl (by decide) (nle rfl) (by decide) (by decide) dH_32 rfl (fun v32 T32 h32 Y32 q32 => ?_)
  obtain ⟨rfl, rfl⟩ := q32
  show Gl p e below _ (T32.setTop (mkF m 35 _ [(.int u0)]))
  refine Gl.sipush Y32 (v := (255 : Int32)) (by decide) dH_35 rfl ?_
  refine Gl.icmpgt Y32 dH_38 (by decide) rfl rfl (fun c38 => ?_) (fun c38 => ?_)
  rotate_left
  · exact absurd m0 c38
  refine Gl.aload Y32 rfl rfl dH_54 rfl ?_
  exact Gl.retA Y32 (by decide) (by decide) rfl rfl dH_56 ⟨b23, kb23, rfl, KK23, zb23, f23_1⟩
theorem dI_0 : decode jdk_42_method_149_code 0 = .ok (.aload_n 0, 1) := by decide +kernel
theorem dI_1 : decode jdk_42_method_149_code 1 = .ok (.invokespecial 1, 3) := by decide +kernel
theorem tw_16 {a0 : Array Value} {Z : State} (hw : HW a0 Z) : (Jvm.Cond.methodLink "java/lang/String" (1 : Nat) ({ cls := "java/lang/Object", name := "<init>", desc := "()V" } : Jvm.MethodName)).before a0 Z = true := hw _ (List.mem_of_getElem? (i := 16) rfl)
theorem tw_17 {a0 : Array Value} {Z : State} (hw : HW a0 Z) : (Jvm.Cond.instanceMethod ({ cls := "java/lang/Object", name := "<init>", desc := "()V" } : Jvm.MethodName)).before a0 Z = true := hw _ (List.mem_of_getElem? (i := 17) rfl)
theorem tw_18 {a0 : Array Value} {Z : State} (hw : HW a0 Z) : (Jvm.Cond.code ({ cls := "java/lang/Object", name := "<init>", desc := "()V" } : Jvm.MethodName) object_method_1_code (1 : Nat) (Option.none : Option Jvm.ClassFile.FieldType)).before a0 Z = true := hw _ (List.mem_of_getElem? (i := 18) rfl)
theorem dI_4 : decode jdk_42_method_149_code 4 = .ok (.iload_n 3, 1) := by decide +kernel
theorem dI_5 : decode jdk_42_method_149_code 5 = .ok (.ifCond .ne 22, 3) := by decide +kernel
theorem dI_27 : decode jdk_42_method_149_code 27 = .ok (.getstatic 38, 3) := by decide +kernel
theorem tw_41 {a0 : Array Value} {Z : State} (hw : HW a0 Z) : (Jvm.Cond.fieldLink "java/lang/String" (38 : Nat) "java/lang/String" "COMPACT_STRINGS" "Z").before a0 Z = true := hw _ (List.mem_of_getElem? (i := 41) rfl)
theorem dI_30 : decode jdk_42_method_149_code 30 = .ok (.ifCond .eq 28, 3) := by decide +kernel
theorem dI_33 : decode jdk_42_method_149_code 33 = .ok (.aload_n 1, 1) := by decide +kernel
theorem dI_34 : decode jdk_42_method_149_code 34 = .ok (.iload_n 2, 1) := by decide +kernel
theorem dI_35 : decode jdk_42_method_149_code 35 = .ok (.iload_n 3, 1) := by decide +kernel
theorem dI_36 : decode jdk_42_method_149_code 36 = .ok (.invokestatic 177, 3) := by decide +kernel
theorem tw_42 {a0 : Array Value} {Z : State} (hw : HW a0 Z) : (Jvm.Cond.methodLink "java/lang/String" (177 : Nat) ({ cls := "java/lang/StringUTF16", name := "compress", desc := "([CII)[B" } : Jvm.MethodName)).before a0 Z = true := hw _ (List.mem_of_getElem? (i := 42) rfl)
theorem tw_45 {a0 : Array Value} {Z : State} (hw : HW a0 Z) : (Jvm.Cond.code ({ cls := "java/lang/StringUTF16", name := "compress", desc := "([CII)[B" } : Jvm.MethodName) jdk_52_method_16_code (6 : Nat) (Option.some (Jvm.ClassFile.FieldType.array Jvm.ClassFile.FieldType.byte))).before a0 Z = true := hw _ (List.mem_of_getElem? (i := 45) rfl)
theorem tw_43 {a0 : Array Value} {Z : State} (hw : HW a0 Z) : (Jvm.Cond.static ({ cls := "java/lang/StringUTF16", name := "compress", desc := "([CII)[B" } : Jvm.MethodName)).before a0 Z = true := hw _ (List.mem_of_getElem? (i := 43) rfl)
theorem dI_39 : decode jdk_42_method_149_code 39 = .ok (.astore 5, 2) := by decide +kernel
theorem dI_41 : decode jdk_42_method_149_code 41 = .ok (.aload_n 0, 1) := by decide +kernel
theorem dI_42 : decode jdk_42_method_149_code 42 = .ok (.aload 5, 2) := by decide +kernel
theorem dI_44 : decode jdk_42_method_149_code 44 = .ok (.iload_n 3, 1) := by decide +kernel
theorem dI_45 : decode jdk_42_method_149_code 45 = .ok (.invokestatic 47, 3) := by decide +kernel
theorem tw_49 {a0 : Array Value} {Z : State} (hw : HW a0 Z) : (Jvm.Cond.methodLink "java/lang/String" (47 : Nat) ({ cls := "java/lang/StringUTF16", name := "coderFromArrayLen", desc := "([BI)B" } : Jvm.MethodName)).before a0 Z = true := hw _ (List.mem_of_getElem? (i := 49) rfl)
theorem pd_6 : parseMethodDescriptor "([BI)B" = some ⟨[(.array .byte), .int], some .byte⟩ := by decide +kernel
theorem tw_51 {a0 : Array Value} {Z : State} (hw : HW a0 Z) : (Jvm.Cond.code ({ cls := "java/lang/StringUTF16", name := "coderFromArrayLen", desc := "([BI)B" } : Jvm.MethodName) jdk_52_method_15_code (2 : Nat) (Option.some Jvm.ClassFile.FieldType.byte)).before a0 Z = true := hw _ (List.mem_of_getElem? (i := 51) rfl)
theorem tw_50 {a0 : Array Value} {Z : State} (hw : HW a0 Z) : (Jvm.Cond.static ({ cls := "java/lang/StringUTF16", name := "coderFromArrayLen", desc := "([BI)B" } : Jvm.MethodName)).before a0 Z = true := hw _ (List.mem_of_getElem? (i := 50) rfl)
theorem dI_48 : decode jdk_42_method_149_code 48 = .ok (.putfield 15, 3) := by decide +kernel
theorem tw_26 {a0 : Array Value} {Z : State} (hw : HW a0 Z) : (Jvm.Cond.fieldLink "java/lang/String" (15 : Nat) "java/lang/String" "coder" "B").before a0 Z = true := hw _ (List.mem_of_getElem? (i := 26) rfl)
theorem tw_22 {a0 : Array Value} {Z : State} (hw : HW a0 Z) : (Jvm.Cond.laysFinal "java/lang/String" "java/lang/String" "coder" "B").before a0 Z = true := hw _ (List.mem_of_getElem? (i := 22) rfl)
theorem tw_7 {a0 : Array Value} {Z : State} (hw : HW a0 Z) : (Jvm.Cond.instantiable "java/lang/String" (4 : Nat)).before a0 Z = true := hw _ (List.mem_of_getElem? (i := 7) rfl)
theorem dI_51 : decode jdk_42_method_149_code 51 = .ok (.aload_n 0, 1) := by decide +kernel
theorem dI_52 : decode jdk_42_method_149_code 52 = .ok (.aload 5, 2) := by decide +kernel
theorem dI_54 : decode jdk_42_method_149_code 54 = .ok (.putfield 9, 3) := by decide +kernel
theorem tw_25 {a0 : Array Value} {Z : State} (hw : HW a0 Z) : (Jvm.Cond.fieldLink "java/lang/String" (9 : Nat) "java/lang/String" "value" "[B").before a0 Z = true := hw _ (List.mem_of_getElem? (i := 25) rfl)
theorem tw_21 {a0 : Array Value} {Z : State} (hw : HW a0 Z) : (Jvm.Cond.laysFinal "java/lang/String" "java/lang/String" "value" "[B").before a0 Z = true := hw _ (List.mem_of_getElem? (i := 21) rfl)
theorem dI_57 : decode jdk_42_method_149_code 57 = .ok (.return_, 1) := by decide +kernel
def R49 : Room := { frames := 4, cells := 2, slots := 3, locals := 57 }
def Q49 (Z : State) (a ca : Addr) (kc : ClassId) (cs u0 : Int32) (h0 : Heap) (v : Option Value) (h : Heap) : Prop := ∃ b : Addr, ∃ kb : ClassId, v = none ∧ Keep h0 h [a] ∧ h0.size ≤ b ∧ Exa Z h a "java/lang/String" ∧ Fld Z h a "java/lang/String" "coder" "B" (.int 1) ∧ Fld Z h a "java/lang/String" "value" "[B" (.ref b) ∧ Arv Z h b kb .byte (2 : Int32) [(.int (uL u0)), (.int (uH u0))] (.int 0)
theorem ef49 (a ca : Addr) (m : MethodId) : entryFrame m #[(.ref a), (.ref ca), (.int 0), (.int 1), .null] 6 = mkF m 0 #[.val (.ref a), .val (.ref ca), .val (.int 0), .val (.int 1), .val .null, .unset] [] := by first | (simp [entryFrame, mkF, argsToLocals, Value.category]; done) | rfl
theorem pn_1 : plainName "java/lang/String" = true := by first | (simp [plainName, overriddenIn]; done) | decide +kernel
theorem rm49 (hw : HW a0 Z) (a ca : Addr) (kc : ClassId) (cs u0 : Int32) (h0 : Heap) (n0 : Nat) (Z0 : n0 ≤ h0.size) (O : Old Z n0 h0) (S : uC Z cs) (hcs : ¬ cs = 0) (SA : uA Z) (SH : uS Z) (SL : uT Z) (E : Exa Z h0 a "java/lang/String") (F1 : Fld Z h0 a "java/lang/String" "value" "[B" .null) (F2 : Fld Z h0 a "java/lang/String" "coder" "B" (.int 0)) (ga : n0 ≤ a) (nca : own_ne ca a) (Vc : Arv Z h0 ca kc .char (1 : Int32) [(.int u0)] (.int 0)) (m0 : 255 < u0) (r_u0 : C16 u0) : OMet l Z [] (⟨"java/lang/String", "<init>", "([CIILjava/lang/Void;)V"⟩ : MethodName) jdk_42_method_149_code 6 none R49 #[(.ref a), (.ref ca), (.int 0), (.int 1), .null] h0 n0 (Q49 Z a ca kc cs u0 h0) := by
  refine OMet.of (own := "java/lang/String") rfl (plainFor_of_name pn_1) (ef49 a ca) Z0 ?_
  intro p e s m below meth c T0 Y0 hnm
  refine Gl.aloadN Y0 rfl rfl dI_0 rfl ?_
  refine Gl.initO Y0 (tw_16 hw) (tw_17 hw) (tw_18 hw) rfl (by decide) (nle rfl) dI_1 rfl (fun T1 Y1 => ?_)
  refine Gl.iloadN Y1 rfl dI_4 rfl ?_
  refine Gl.ifne Y1 dI_5 (by decide) rfl rfl (fun c5 => ?_) (fun c5 => ?_)
  rotate_left
  · exact absurd c5 (by decide)
  refine Gl.getS Y1 (host := "") (Or.inl (tw_41 hw)) Via.refl (Sta.ext O.2 S) dI_27 rfl (fun T27 Y27 => ?_)
  refine Gl.ifeq Y27 dI_30 (by decide) rfl rfl (fun c30 => ?_) (fun c30 => ?_)
  · exact absurd c30 hcs
  refine Gl.aloadN Y27 rfl rfl dI_33 rfl ?_
  refine Gl.iloadN Y27 rfl dI_34 rfl ?_
  refine Gl.iloadN Y27 rfl dI_35 rfl ?_
  refine Gl.callS Y27 (tw_42 hw) (tw_43 hw) (tw_44 hw) (tw_45 hw) (by decide) (rm48 l Z a0 hw ca kc u0 h0 n0 Y27.sz O SA SH SL Vc (m0) (r_u0)) (argsL := [(.ref ca), (.int 0), (.int 1)]) (rest := []) rfl rfl (lenOf pd_4 rfl) rfl (by decide) (nle rfl) (by decide) (by decide) dI_36 rfl (fun v36 T36 h36 Y36 q36 => ?_)
  obtain ⟨b36, kb36, rfl, K36, f36_0, f36_1⟩ := q36
  have Y36_sz : n0 ≤ h0.size := Y27.sz
  have KK36 : Keep h0 h36 [a] := (Keep.refl h0 [a]).trans K36 all0
  have zb36 : h0.size ≤ b36 := Nat.le_trans (Keep.refl h0 [a]).1 f36_0
  show Gl p e below _ (T36.setTop (mkF m 39 _ [(.ref b36)]))
  refine Gl.astore Y36 rfl (L' := #[.val (.ref a), .val (.ref ca), .val (.int 0), .val (.int 1), .val .null, .val (.ref b36)]) rfl dI_39 rfl ?_
  refine Gl.aloadN Y36 rfl rfl dI_41 rfl ?_
  refine Gl.aload Y36 rfl rfl dI_42 rfl ?_
  refine Gl.iloadN Y36 rfl dI_44 rfl ?_
  refine Gl.callS Y36 (tw_49 hw) (tw_50 hw) (tw_44 hw) (tw_51 hw) (by decide) (rm47 l Z a0 hw b36 kb36 u0 h36 n0 Y36.sz f36_1) (argsL := [(.ref b36), (.int 1)]) (rest := [(.ref a)]) rfl rfl (lenOf pd_6 rfl) rfl (by decide) (nle rfl) (by decide) (by decide) dI_45 rfl (fun v45 T45 h45 Y45 q45 => ?_)
  obtain ⟨rfl, rfl⟩ := q45
  show Gl p e below _ (T45.setTop (mkF m 48 _ [(.int 1), (.ref a)]))
  have f1 := (F2.keep K36 nin0)
  have f2 := (E.keep K36)
  refine Gl.putFN Y45 (tw_26 hw) Via.refl f1 f2 (Or.inr ⟨(tw_22 hw), rfl, hnm⟩) (tw_7 hw) ga (ty := .byte) (by decide) (v' := (.int 1)) (by decide) (by decide) dI_48 rfl (fun T48 h48 Y48 W48 => ?_)
  have f3 : Fld Z h48 a "java/lang/String" "coder" "B" (.int 1) := Fld.same W48 f1
  have K48 : Keep h0 h48 [a] := KK36.wr W48 (Or.inl (List.mem_of_getElem? (i := 0) rfl))
  refine Gl.aloadN Y48 rfl rfl dI_51 rfl ?_
  refine Gl.aload Y48 rfl rfl dI_52 rfl ?_
  have f4 := (Fld.other W48 (F1.keep K36 nin0) (Or.inr (slot_ne (Or.inr (tw_21 hw)) (Or.inr (tw_22 hw)) (by decide) (t := (.array .byte)) (t' := .byte) (by decide) (by decide))))
  have f5 := (Exa.wr W48 f2)
  refine Gl.putF Y48 (host := "") (Or.inl (tw_25 hw)) Via.refl f4 f5 (Or.inr ⟨(tw_21 hw), rfl, hnm⟩) (tw_7 hw) ga (ty := (.array .byte)) (by decide) rfl rfl dI_54 rfl (fun T54 h54 Y54 W54 => ?_)
  have f6 : Fld Z h54 a "java/lang/String" "value" "[B" (.ref b36) := Fld.same W54 f4
  have K54 : Keep h0 h54 [a] := K48.wr W54 (Or.inl (List.mem_of_getElem? (i := 0) rfl))
  have f7 := (Exa.wr W54 f5)
  have f8 := (Fld.other W54 f3 (Or.inr (slot_ne (Or.inr (tw_22 hw)) (Or.inr (tw_21 hw)) (by decide) (t := .byte) (t' := (.array .byte)) (by decide) (by decide))))
  have f9 := ((f36_1.other W48 (Ne.symm (Nat.ne_of_lt (Nat.lt_of_lt_of_le E.lt f36_0)))).other W54 (Ne.symm (Nat.ne_of_lt (Nat.lt_of_lt_of_le E.lt f36_0))))
  exact Gl.retV Y54 (by decide) (by decide)  dI_57 ⟨b36, kb36, rfl, K54, zb36, f7, f8, (by first | exact f6 | (subst_vars; exact f6) | (rw [PF]; exact f6)), f9⟩
theorem dJ_0 : decode jdk_42_method_3_code 0 = .ok (.aload_n 0, 1) := by decide +kernel
theorem dJ_1 : decode jdk_42_method_3_code 1 = .ok (.aload_n 1, 1) := by decide +kernel
theorem dJ_2 : decode jdk_42_method_3_code 2 = .ok (.iconst 0, 1) := by decide +kernel
theorem dJ_3 : decode jdk_42_method_3_code 3 = .ok (.aload_n 1, 1) := by decide +kernel
theorem dJ_4 : decode jdk_42_method_3_code 4 = .ok (.arraylength, 1) := by decide +kernel
theorem dJ_5 : decode jdk_42_method_3_code 5 = .ok (.aconst_null, 1) := by decide +kernel
theorem dJ_6 : decode jdk_42_method_3_code 6 = .ok (.invokespecial 27, 3) := by decide +kernel
theorem tw_12 {a0 : Array Value} {Z : State} (hw : HW a0 Z) : (Jvm.Cond.methodLink "java/lang/String" (27 : Nat) ({ cls := "java/lang/String", name := "<init>", desc := "([CIILjava/lang/Void;)V" } : Jvm.MethodName)).before a0 Z = true := hw _ (List.mem_of_getElem? (i := 12) rfl)
theorem pd_7 : parseMethodDescriptor "([CIILjava/lang/Void;)V" = some ⟨[(.array .char), .int, .int, (.object "java/lang/Void")], none⟩ := by decide +kernel
theorem tw_15 {a0 : Array Value} {Z : State} (hw : HW a0 Z) : (Jvm.Cond.code ({ cls := "java/lang/String", name := "<init>", desc := "([CIILjava/lang/Void;)V" } : Jvm.MethodName) jdk_42_method_149_code (6 : Nat) (Option.none : Option Jvm.ClassFile.FieldType)).before a0 Z = true := hw _ (List.mem_of_getElem? (i := 15) rfl)
theorem tw_8 {a0 : Array Value} {Z : State} (hw : HW a0 Z) : (Jvm.Cond.initialized "java/lang/String").before a0 Z = true := hw _ (List.mem_of_getElem? (i := 8) rfl)
theorem tw_13 {a0 : Array Value} {Z : State} (hw : HW a0 Z) : (Jvm.Cond.instanceMethod ({ cls := "java/lang/String", name := "<init>", desc := "([CIILjava/lang/Void;)V" } : Jvm.MethodName)).before a0 Z = true := hw _ (List.mem_of_getElem? (i := 13) rfl)
theorem dJ_9 : decode jdk_42_method_3_code 9 = .ok (.return_, 1) := by decide +kernel
def R50 : Room := { frames := 5, cells := 2, slots := 3, locals := 74 }
def Q50 (Z : State) (a ca : Addr) (kc : ClassId) (cs u0 : Int32) (h0 : Heap) (v : Option Value) (h : Heap) : Prop := ∃ b : Addr, ∃ kb : ClassId, v = none ∧ Keep h0 h [a] ∧ h0.size ≤ b ∧ Exa Z h a "java/lang/String" ∧ Fld Z h a "java/lang/String" "coder" "B" (.int 1) ∧ Fld Z h a "java/lang/String" "value" "[B" (.ref b) ∧ Arv Z h b kb .byte (2 : Int32) [(.int (uL u0)), (.int (uH u0))] (.int 0)
theorem ef50 (a ca : Addr) (m : MethodId) : entryFrame m #[(.ref a), (.ref ca)] 2 = mkF m 0 #[.val (.ref a), .val (.ref ca)] [] := by first | (simp [entryFrame, mkF, argsToLocals, Value.category]; done) | rfl
theorem rm50 (hw : HW a0 Z) (a ca : Addr) (kc : ClassId) (cs u0 : Int32) (h0 : Heap) (n0 : Nat) (Z0 : n0 ≤ h0.size) (O : Old Z n0 h0) (S : uC Z cs) (hcs : ¬ cs = 0) (SA : uA Z) (SH : uS Z) (SL : uT Z) (E : Exa Z h0 a "java/lang/String") (F1 : Fld Z h0 a "java/lang/String" "value" "[B" .null) (F2 : Fld Z h0 a "java/lang/String" "coder" "B" (.int 0)) (ga : n0 ≤ a) (nca : own_ne ca a) (Vc : Arv Z h0 ca kc .char (1 : Int32) [(.int u0)] (.int 0)) (m0 : 255 < u0) (r_u0 : C16 u0) : OMet l Z [] (⟨"java/lang/String", "<init>", "([C)V"⟩ : MethodName) jdk_42_method_3_code 2 none R50 #[(.ref a), (.ref ca)] h0 n0 (Q50 Z a ca kc cs u0 h0) := by
  refine OMet.of (own := "java/lang/String") rfl (plainFor_of_name pn_1) (ef50 a ca) Z0 ?_
  intro p e s m below meth c T0 Y0 hnm
  refine Gl.aloadN Y0 rfl rfl dJ_0 rfl ?_
  refine Gl.aloadN Y0 rfl rfl dJ_1 rfl ?_
  refine Gl.iconst Y0 (v := (0 : Int32)) (by decide) dJ_2 rfl ?_
  refine Gl.aloadN Y0 rfl rfl dJ_3 rfl ?_
  refine Gl.arraylength Y0 Vc dJ_4 rfl ?_
  refine Gl.aconstNull Y0 dJ_5 rfl ?_
  refine Gl.callN Y0 rfl (tw_12 hw) (tw_13 hw) (tw_8 hw) (tw_15 hw) (by decide) (rm49 l Z a0 hw a ca kc cs u0 h0 n0 Y0.sz O S (hcs) SA SH SL E F1 F2 ga nca Vc (m0) (r_u0)) (a := a) (argsL := [(.ref ca), (.int 0), (.int 1), .null]) (rest := []) rfl rfl (lenOf pd_7 rfl) rfl (by decide) (nle rfl) (by decide) (by decide) dJ_6 rfl (fun v6 T6 h6 Y6 q6 => ?_)
  obtain ⟨b6, kb6, rfl, K6, f6_0, f6_1, f6_2, f6_3, f6_4⟩ := q6
  have Y6_sz : n0 ≤ h0.size := Y0.sz
  have KK6 : Keep h0 h6 [a] := (Keep.refl h0 [a]).trans K6 (allS (Or.inl (List.mem_of_getElem? (i := 0) rfl)) all0)
  have zb6 : h0.size ≤ b6 := Nat.le_trans (Keep.refl h0 [a]).1 f6_0
  show Gl p e below _ (T6.setTop (mkF m 9 _ []))
  exact Gl.retV Y6 (by decide) (by decide)  dJ_9 ⟨b6, kb6, rfl, KK6, zb6, f6_1, f6_2, (by first | exact f6_3 | (subst_vars; exact f6_3) | (rw [PF]; exact f6_3)), f6_4⟩
theorem dH_57 : decode jdk_52_method_16_code 57 = .ok (.aload_n 3, 1) := by decide +kernel
theorem dH_58 : decode jdk_52_method_16_code 58 = .ok (.areturn, 1) := by decide +kernel
def R51 : Room := { frames := 1, cells := 1, slots := 1, locals := 18 }
def Q51 (Z : State) (ca : Addr) (kc : ClassId) (u0 : Int32) (h0 : Heap) (v : Option Value) (h : Heap) : Prop := ∃ b : Addr, ∃ kb : ClassId, v = some (.ref b) ∧ Keep h0 h [] ∧ h0.size ≤ b ∧ Arv Z h b kb .byte (1 : Int32) [(.int (bL u0))] (.int 0)
theorem ef51 (ca : Addr) (m : MethodId) : entryFrame m #[(.ref ca), (.int 0), (.int 1)] 6 = mkF m 0 #[.val (.ref ca), .val (.int 0), .val (.int 1), .unset, .unset, .unset] [] := by first | (simp [entryFrame, mkF, argsToLocals, Value.category]; done) | rfl
theorem rm51 (hw : HW a0 Z) (ca : Addr) (kc : ClassId) (u0 : Int32) (h0 : Heap) (n0 : Nat) (Z0 : n0 ≤ h0.size) (O : Old Z n0 h0) (SA : uA Z) (SH : uS Z) (SL : uT Z) (Vc : Arv Z h0 ca kc .char (1 : Int32) [(.int u0)] (.int 0)) (l0 : ¬ 255 < u0) (r_u0 : C16 u0) : OMet l Z [] (⟨"java/lang/StringUTF16", "compress", "([CII)[B"⟩ : MethodName) jdk_52_method_16_code 6 (some (.array .byte)) R51 #[(.ref ca), (.int 0), (.int 1)] h0 n0 (Q51 Z ca kc u0 h0) := by
  refine OMet.of (own := "java/lang/StringUTF16") rfl (plainFor_of_name pn_0) (ef51 ca) Z0 ?_
  intro p e s m below meth c T0 Y0 hnm
  refine Gl.iloadN Y0 rfl dH_0 rfl ?_
  refine Gl.newP Y0 1 (ty := .byte) rfl (tw_20 hw) (by decide) (by decide) (nle rfl) (nle rfl) (nle rfl) dH_1 rfl (fun T1 h1 b1 ck1 Y1 E1 g1 sb1 V1 => ?_)
  have V1 : Arv Z h1 b1 ck1 .byte (1 : Int32) [(.int 0)] (.int 0) := V1.pad (pad_rep [] (.int 0) 1)
  have zb1 : h0.size ≤ b1 := Nat.le_trans (Keep.refl h0 []).1 (Nat.le_of_eq g1.symm)
  have K1 : Keep h0 h1 [] := (Keep.refl h0 []).ext E1
  show Gl p e below _ (T1.setTop (mkF m 3 _ [(.ref b1)]))
  refine Gl.astoreN Y1 rfl (L' := #[.val (.ref ca), .val (.int 0), .val (.int 1), .val (.ref b1), .unset, .unset]) rfl dH_3 rfl ?_
  refine Gl.aloadN Y1 rfl rfl dH_4 rfl ?_
  refine Gl.iloadN Y1 rfl dH_5 rfl ?_
  refine Gl.aloadN Y1 rfl rfl dH_6 rfl ?_
  refine Gl.iconst Y1 (v := (0 : Int32)) (by decide) dH_7 rfl ?_
  refine Gl.iloadN Y1 rfl dH_8 rfl ?_
  have f1 := (Vc.ext E1)
  refine Gl.callS Y1 (tw_46 hw) (tw_47 hw) (tw_44 hw) (tw_48 hw) (by decide) (rm1 l Z a0 hw ca b1 kc ck1 u0 h1 n0 Y1.sz f1 V1 sb1 (Nat.ne_of_lt (Nat.lt_of_lt_of_eq Vc.lt g1.symm)) (l0)) (argsL := [(.ref ca), (.int 0), (.ref b1), (.int 0), (.int 1)]) (rest := []) rfl rfl (lenOf pd_3 rfl) rfl (by decide) (nle rfl) (by decide) (by decide) dH_9 rfl (fun v9 T9 h9 Y9 q9 => ?_)
  obtain ⟨rfl, K9, f9_0⟩ := q9
  have KK9 : Keep h0 h9 [] := K1.trans K9 (allS (Or.inr zb1) all0)
  show Gl p e below _ (T9.setTop (mkF m 12 _ [(.int 1)]))
  refine Gl.istore Y9 (L' := #[.val (.ref ca), .val (.int 0), .val (.int 1), .val (.ref b1), .val (.int 1), .unset]) rfl dH_12 rfl ?_
  refine Gl.iload Y9 rfl dH_14 rfl ?_
  refine Gl.iloadN Y9 rfl dH_16 rfl ?_
  refine Gl.icmpeq Y9 dH_17 (by decide) rfl rfl (fun c17 => ?_) (fun c17 => ?_)
  rotate_left
  · exact absurd c17 (by decide)
  refine Gl.aloadN Y9 rfl rfl dH_57 rfl ?_
  exact Gl.retA Y9 (by decide) (by decide) rfl rfl dH_58 ⟨b1, ck1, rfl, KK9, zb1, f9_0⟩
def R52 : Room := { frames := 2, cells := 1, slots := 1, locals := 35 }
def Q52 (Z : State) (a ca : Addr) (kc : ClassId) (cs u0 : Int32) (h0 : Heap) (v : Option Value) (h : Heap) : Prop := ∃ b : Addr, ∃ kb : ClassId, v = none ∧ Keep h0 h [a] ∧ h0.size ≤ b ∧ Exa Z h a "java/lang/String" ∧ Fld Z h a "java/lang/String" "coder" "B" (.int 0) ∧ Fld Z h a "java/lang/String" "value" "[B" (.ref b) ∧ Arv Z h b kb .byte (1 : Int32) [(.int (bL u0))] (.int 0)
theorem ef52 (a ca : Addr) (m : MethodId) : entryFrame m #[(.ref a), (.ref ca), (.int 0), (.int 1), .null] 6 = mkF m 0 #[.val (.ref a), .val (.ref ca), .val (.int 0), .val (.int 1), .val .null, .unset] [] := by first | (simp [entryFrame, mkF, argsToLocals, Value.category]; done) | rfl
theorem rm52 (hw : HW a0 Z) (a ca : Addr) (kc : ClassId) (cs u0 : Int32) (h0 : Heap) (n0 : Nat) (Z0 : n0 ≤ h0.size) (O : Old Z n0 h0) (S : uC Z cs) (hcs : ¬ cs = 0) (SA : uA Z) (SH : uS Z) (SL : uT Z) (E : Exa Z h0 a "java/lang/String") (F1 : Fld Z h0 a "java/lang/String" "value" "[B" .null) (F2 : Fld Z h0 a "java/lang/String" "coder" "B" (.int 0)) (ga : n0 ≤ a) (nca : own_ne ca a) (Vc : Arv Z h0 ca kc .char (1 : Int32) [(.int u0)] (.int 0)) (l0 : ¬ 255 < u0) (r_u0 : C16 u0) : OMet l Z [] (⟨"java/lang/String", "<init>", "([CIILjava/lang/Void;)V"⟩ : MethodName) jdk_42_method_149_code 6 none R52 #[(.ref a), (.ref ca), (.int 0), (.int 1), .null] h0 n0 (Q52 Z a ca kc cs u0 h0) := by
  refine OMet.of (own := "java/lang/String") rfl (plainFor_of_name pn_1) (ef52 a ca) Z0 ?_
  intro p e s m below meth c T0 Y0 hnm
  refine Gl.aloadN Y0 rfl rfl dI_0 rfl ?_
  refine Gl.initO Y0 (tw_16 hw) (tw_17 hw) (tw_18 hw) rfl (by decide) (nle rfl) dI_1 rfl (fun T1 Y1 => ?_)
  refine Gl.iloadN Y1 rfl dI_4 rfl ?_
  refine Gl.ifne Y1 dI_5 (by decide) rfl rfl (fun c5 => ?_) (fun c5 => ?_)
  rotate_left
  · exact absurd c5 (by decide)
  refine Gl.getS Y1 (host := "") (Or.inl (tw_41 hw)) Via.refl (Sta.ext O.2 S) dI_27 rfl (fun T27 Y27 => ?_)
  refine Gl.ifeq Y27 dI_30 (by decide) rfl rfl (fun c30 => ?_) (fun c30 => ?_)
  · exact absurd c30 hcs
  refine Gl.aloadN Y27 rfl rfl dI_33 rfl ?_
  refine Gl.iloadN Y27 rfl dI_34 rfl ?_
  refine Gl.iloadN Y27 rfl dI_35 rfl ?_
  refine Gl.callS Y27 (tw_42 hw) (tw_43 hw) (tw_44 hw) (tw_45 hw) (by decide) (rm51 l Z a0 hw ca kc u0 h0 n0 Y27.sz O SA SH SL Vc (l0) (r_u0)) (argsL := [(.ref ca), (.int 0), (.int 1)]) (rest := []) rfl rfl (lenOf pd_4 rfl) rfl (by decide) (nle rfl) (by decide) (by decide) dI_36 rfl (fun v36 T36 h36 Y36 q36 => ?_)
  obtain ⟨b36, kb36, rfl, K36, f36_0, f36_1⟩ := q36
  have Y36_sz : n0 ≤ h0.size := Y27.sz
  have KK36 : Keep h0 h36 [a] := (Keep.refl h0 [a]).trans K36 all0
  have zb36 : h0.size ≤ b36 := Nat.le_trans (Keep.refl h0 [a]).1 f36_0
  show Gl p e below _ (T36.setTop (mkF m 39 _ [(.ref b36)]))
  refine Gl.astore Y36 rfl (L' := #[.val (.ref a), .val (.ref ca), .val (.int 0), .val (.int 1), .val .null, .val (.ref b36)]) rfl dI_39 rfl ?_
  refine Gl.aloadN Y36 rfl rfl dI_41 rfl ?_
  refine Gl.aload Y36 rfl rfl dI_42 rfl ?_
  refine Gl.iloadN Y36 rfl dI_44 rfl ?_
  refine Gl.callS Y36 (tw_49 hw) (tw_50 hw) (tw_44 hw) (tw_51 hw) (by decide) (rm46 l Z a0 hw b36 kb36 u0 h36 n0 Y36.sz f36_1) (argsL := [(.ref b36), (.int 1)]) (rest := [(.ref a)]) rfl rfl (lenOf pd_6 rfl) rfl (by decide) (nle rfl) (by decide) (by decide) dI_45 rfl (fun v45 T45 h45 Y45 q45 => ?_)
  obtain ⟨rfl, rfl⟩ := q45
  show Gl p e below _ (T45.setTop (mkF m 48 _ [(.int 0), (.ref a)]))
  have f1 := (F2.keep K36 nin0)
  have f2 := (E.keep K36)
  refine Gl.putFN Y45 (tw_26 hw) Via.refl f1 f2 (Or.inr ⟨(tw_22 hw), rfl, hnm⟩) (tw_7 hw) ga (ty := .byte) (by decide) (v' := (.int 0)) (by decide) (by decide) dI_48 rfl (fun T48 h48 Y48 W48 => ?_)
  have f3 : Fld Z h48 a "java/lang/String" "coder" "B" (.int 0) := Fld.same W48 f1
  have K48 : Keep h0 h48 [a] := KK36.wr W48 (Or.inl (List.mem_of_getElem? (i := 0) rfl))
  refine Gl.aloadN Y48 rfl rfl dI_51 rfl ?_
  refine Gl.aload Y48 rfl rfl dI_52 rfl ?_
  have f4 := (Fld.other W48 (F1.keep K36 nin0) (Or.inr (slot_ne (Or.inr (tw_21 hw)) (Or.inr (tw_22 hw)) (by decide) (t := (.array .byte)) (t' := .byte) (by decide) (by decide))))
  have f5 := (Exa.wr W48 f2)
  refine Gl.putF Y48 (host := "") (Or.inl (tw_25 hw)) Via.refl f4 f5 (Or.inr ⟨(tw_21 hw), rfl, hnm⟩) (tw_7 hw) ga (ty := (.array .byte)) (by decide) rfl rfl dI_54 rfl (fun T54 h54 Y54 W54 => ?_)
  have f6 : Fld Z h54 a "java/lang/String" "value" "[B" (.ref b36) := Fld.same W54 f4
  have K54 : Keep h0 h54 [a] := K48.wr W54 (Or.inl (List.mem_of_getElem? (i := 0) rfl))
  have f7 := (Exa.wr W54 f5)
  have f8 := (Fld.other W54 f3 (Or.inr (slot_ne (Or.inr (tw_22 hw)) (Or.inr (tw_21 hw)) (by decide) (t := .byte) (t' := (.array .byte)) (by decide) (by decide))))
  have f9 := ((f36_1.other W48 (Ne.symm (Nat.ne_of_lt (Nat.lt_of_lt_of_le E.lt f36_0)))).other W54 (Ne.symm (Nat.ne_of_lt (Nat.lt_of_lt_of_le E.lt f36_0))))
  exact Gl.retV Y54 (by decide) (by decide)  dI_57 ⟨b36, kb36, rfl, K54, zb36, f7, f8, (by first | exact f6 | (subst_vars; exact f6) | (rw [PF]; exact f6)), f9⟩
def R53 : Room := { frames := 3, cells := 1, slots := 1, locals := 52 }
def Q53 (Z : State) (a ca : Addr) (kc : ClassId) (cs u0 : Int32) (h0 : Heap) (v : Option Value) (h : Heap) : Prop := ∃ b : Addr, ∃ kb : ClassId, v = none ∧ Keep h0 h [a] ∧ h0.size ≤ b ∧ Exa Z h a "java/lang/String" ∧ Fld Z h a "java/lang/String" "coder" "B" (.int 0) ∧ Fld Z h a "java/lang/String" "value" "[B" (.ref b) ∧ Arv Z h b kb .byte (1 : Int32) [(.int (bL u0))] (.int 0)
theorem ef53 (a ca : Addr) (m : MethodId) : entryFrame m #[(.ref a), (.ref ca)] 2 = mkF m 0 #[.val (.ref a), .val (.ref ca)] [] := by first | (simp [entryFrame, mkF, argsToLocals, Value.category]; done) | rfl
theorem rm53 (hw : HW a0 Z) (a ca : Addr) (kc : ClassId) (cs u0 : Int32) (h0 : Heap) (n0 : Nat) (Z0 : n0 ≤ h0.size) (O : Old Z n0 h0) (S : uC Z cs) (hcs : ¬ cs = 0) (SA : uA Z) (SH : uS Z) (SL : uT Z) (E : Exa Z h0 a "java/lang/String") (F1 : Fld Z h0 a "java/lang/String" "value" "[B" .null) (F2 : Fld Z h0 a "java/lang/String" "coder" "B" (.int 0)) (ga : n0 ≤ a) (nca : own_ne ca a) (Vc : Arv Z h0 ca kc .char (1 : Int32) [(.int u0)] (.int 0)) (l0 : ¬ 255 < u0) (r_u0 : C16 u0) : OMet l Z [] (⟨"java/lang/String", "<init>", "([C)V"⟩ : MethodName) jdk_42_method_3_code 2 none R53 #[(.ref a), (.ref ca)] h0 n0 (Q53 Z a ca kc cs u0 h0) := by
  refine OMet.of (own := "java/lang/String") rfl (plainFor_of_name pn_1) (ef53 a ca) Z0 ?_
  intro p e s m below meth c T0 Y0 hnm
  refine Gl.aloadN Y0 rfl rfl dJ_0 rfl ?_
  refine Gl.aloadN Y0 rfl rfl dJ_1 rfl ?_
  refine Gl.iconst Y0 (v := (0 : Int32)) (by decide) dJ_2 rfl ?_
  refine Gl.aloadN Y0 rfl rfl dJ_3 rfl ?_
  refine Gl.arraylength Y0 Vc dJ_4 rfl ?_
  refine Gl.aconstNull Y0 dJ_5 rfl ?_
  refine Gl.callN Y0 rfl (tw_12 hw) (tw_13 hw) (tw_8 hw) (tw_15 hw) (by decide) (rm52 l Z a0 hw a ca kc cs u0 h0 n0 Y0.sz O S (hcs) SA SH SL E F1 F2 ga nca Vc (l0) (r_u0)) (a := a) (argsL := [(.ref ca), (.int 0), (.int 1), .null]) (rest := []) rfl rfl (lenOf pd_7 rfl) rfl (by decide) (nle rfl) (by decide) (by decide) dJ_6 rfl (fun v6 T6 h6 Y6 q6 => ?_)
  obtain ⟨b6, kb6, rfl, K6, f6_0, f6_1, f6_2, f6_3, f6_4⟩ := q6
  have Y6_sz : n0 ≤ h0.size := Y0.sz
  have KK6 : Keep h0 h6 [a] := (Keep.refl h0 [a]).trans K6 (allS (Or.inl (List.mem_of_getElem? (i := 0) rfl)) all0)
  have zb6 : h0.size ≤ b6 := Nat.le_trans (Keep.refl h0 [a]).1 f6_0
  show Gl p e below _ (T6.setTop (mkF m 9 _ []))
  exact Gl.retV Y6 (by decide) (by decide)  dJ_9 ⟨b6, kb6, rfl, KK6, zb6, f6_1, f6_2, (by first | exact f6_3 | (subst_vars; exact f6_3) | (rw [PF]; exact f6_3)), f6_4⟩
def R54 : Room := { frames := 0, cells := 0, slots := 0, locals := 0 }
def Q54 (Z : State) (b : Addr) (kb : ClassId) (u0 u1 : Int32) (h0 : Heap) (v : Option Value) (h : Heap) : Prop := v = some (.int 0) ∧ h0 = h
theorem ef54 (b : Addr) (m : MethodId) : entryFrame m #[(.ref b), (.int 2)] 2 = mkF m 0 #[.val (.ref b), .val (.int 2)] [] := by first | (simp [entryFrame, mkF, argsToLocals, Value.category]; done) | rfl
theorem rm54 (hw : HW a0 Z) (b : Addr) (kb : ClassId) (u0 u1 : Int32) (h0 : Heap) (n0 : Nat) (Z0 : n0 ≤ h0.size) (Vb : Arv Z h0 b kb .byte (2 : Int32) [(.int (bL u0)), (.int (bL u1))] (.int 0)) : OMet l Z [] (⟨"java/lang/StringUTF16", "coderFromArrayLen", "([BI)B"⟩ : MethodName) jdk_52_method_15_code 2 (some .byte) R54 #[(.ref b), (.int 2)] h0 n0 (Q54 Z b kb u0 u1 h0) := by
  refine OMet.of (own := "java/lang/StringUTF16") rfl (plainFor_of_name pn_0) (ef54 b) Z0 ?_
  intro p e s m below meth c T0 Y0 hnm
  refine Gl.iloadN Y0 rfl dG_0 rfl ?_
  refine Gl.aloadN Y0 rfl rfl dG_1 rfl ?_
  refine Gl.arraylength Y0 Vb dG_2 rfl ?_
  refine Gl.isub Y0 (r := (0 : Int32)) (by decide) dG_3 rfl ?_
  refine Gl.bipush Y0 (v := (31 : Int32)) (by decide) dG_4 rfl ?_
  refine Gl.iushr Y0 (r := (0 : Int32)) (by decide) dG_6 rfl ?_
  refine Gl.i2b Y0 (r := (0 : Int32)) (by decide) dG_7 rfl ?_
  exact Gl.retB Y0 (by decide) (by decide) (x' := (0 : Int32)) (by decide) dG_8 ⟨rfl, rfl⟩
def R55 : Room := { frames := 0, cells := 0, slots := 0, locals := 0 }
def Q55 (Z : State) (b : Addr) (kb : ClassId) (u0 u1 : Int32) (h0 : Heap) (v : Option Value) (h : Heap) : Prop := v = some (.int 1) ∧ h0 = h
theorem ef55 (b : Addr) (m : MethodId) : entryFrame m #[(.ref b), (.int 2)] 2 = mkF m 0 #[.val (.ref b), .val (.int 2)] [] := by first | (simp [entryFrame, mkF, argsToLocals, Value.category]; done) | rfl
theorem rm55 (hw : HW a0 Z) (b : Addr) (kb : ClassId) (u0 u1 : Int32) (h0 : Heap) (n0 : Nat) (Z0 : n0 ≤ h0.size) (Vb : Arv Z h0 b kb .byte (4 : Int32) [(.int (uL u0)), (.int (uH u0)), (.int (uL u1)), (.int (uH u1))] (.int 0)) : OMet l Z [] (⟨"java/lang/StringUTF16", "coderFromArrayLen", "([BI)B"⟩ : MethodName) jdk_52_method_15_code 2 (some .byte) R55 #[(.ref b), (.int 2)] h0 n0 (Q55 Z b kb u0 u1 h0) := by
  refine OMet.of (own := "java/lang/StringUTF16") rfl (plainFor_of_name pn_0) (ef55 b) Z0 ?_
  intro p e s m below meth c T0 Y0 hnm
  refine Gl.iloadN Y0 rfl dG_0 rfl ?_
  refine Gl.aloadN Y0 rfl rfl dG_1 rfl ?_
  refine Gl.arraylength Y0 Vb dG_2 rfl ?_
  refine Gl.isub Y0 (r := (-2 : Int32)) (by decide) dG_3 rfl ?_
  refine Gl.bipush Y0 (v := (31 : Int32)) (by decide) dG_4 rfl ?_
  refine Gl.iushr Y0 (r := (1 : Int32)) (by decide) dG_6 rfl ?_
  refine Gl.i2b Y0 (r := (1 : Int32)) (by decide) dG_7 rfl ?_
  exact Gl.retB Y0 (by decide) (by decide) (x' := (1 : Int32)) (by decide) dG_8 ⟨rfl, rfl⟩
def R56 : Room := { frames := 3, cells := 2, slots := 6, locals := 40 }
def Q56 (Z : State) (ca : Addr) (kc : ClassId) (u0 u1 : Int32) (h0 : Heap) (v : Option Value) (h : Heap) : Prop := ∃ b : Addr, ∃ kb : ClassId, v = some (.ref b) ∧ Keep h0 h [] ∧ h0.size ≤ b ∧ Arv Z h b kb .byte (4 : Int32) [(.int (uL u0)), (.int (uH u0)), (.int (uL u1)), (.int (uH u1))] (.int 0)
theorem ef56 (ca : Addr) (m : MethodId) : entryFrame m #[(.ref ca), (.int 0), (.int 2)] 6 = mkF m 0 #[.val (.ref ca), .val (.int 0), .val (.int 2), .unset, .unset, .unset] [] := by first | (simp [entryFrame, mkF, argsToLocals, Value.category]; done) | rfl
theorem rm56 (hw : HW a0 Z) (ca : Addr) (kc : ClassId) (u0 u1 : Int32) (h0 : Heap) (n0 : Nat) (Z0 : n0 ≤ h0.size) (O : Old Z n0 h0) (SA : uA Z) (SH : uS Z) (SL : uT Z) (Vc : Arv Z h0 ca kc .char (2 : Int32) [(.int u0), (.int u1)] (.int 0)) (m0 : 255 < u0) (r_u0 : C16 u0) (r_u1 : C16 u1) : OMet l Z [] (⟨"java/lang/StringUTF16", "compress", "([CII)[B"⟩ : MethodName) jdk_52_method_16_code 6 (some (.array .byte)) R56 #[(.ref ca), (.int 0), (.int 2)] h0 n0 (Q56 Z ca kc u0 u1 h0) := by
  refine OMet.of (own := "java/lang/StringUTF16") rfl (plainFor_of_name pn_0) (ef56 ca) Z0 ?_
  intro p e s m below meth c T0 Y0 hnm
  refine Gl.iloadN Y0 rfl dH_0 rfl ?_
  refine Gl.newP Y0 2 (ty := .byte) rfl (tw_20 hw) (by decide) (by decide) (nle rfl) (nle rfl) (nle rfl) dH_1 rfl (fun T1 h1 b1 ck1 Y1 E1 g1 sb1 V1 => ?_)
  have V1 : Arv Z h1 b1 ck1 .byte (2 : Int32) [(.int 0), (.int 0)] (.int 0) := V1.pad (pad_rep [] (.int 0) 2)
  have zb1 : h0.size ≤ b1 := Nat.le_trans (Keep.refl h0 []).1 (Nat.le_of_eq g1.symm)
  have K1 : Keep h0 h1 [] := (Keep.refl h0 []).ext E1
  show Gl p e below _ (T1.setTop (mkF m 3 _ [(.ref b1)]))
  refine Gl.astoreN Y1 rfl (L' := #[.val (.ref ca), .val (.int 0), .val (.int 2), .val (.ref b1), .unset, .unset]) rfl dH_3 rfl ?_
  refine Gl.aloadN Y1 rfl rfl dH_4 rfl ?_
  refine Gl.iloadN Y1 rfl dH_5 rfl ?_
  refine Gl.aloadN Y1 rfl rfl dH_6 rfl ?_
  refine Gl.iconst Y1 (v := (0 : Int32)) (by decide) dH_7 rfl ?_
  refine Gl.iloadN Y1 rfl dH_8 rfl ?_
  have f1 := (Vc.ext E1)
  refine Gl.callS Y1 (tw_46 hw) (tw_47 hw) (tw_44 hw) (tw_48 hw) (by decide) (rm2 l Z a0 hw ca b1 kc ck1 u0 u1 h1 n0 Y1.sz f1 V1 sb1 (Nat.ne_of_lt (Nat.lt_of_lt_of_eq Vc.lt g1.symm)) (m0)) (argsL := [(.ref ca), (.int 0), (.ref b1), (.int 0), (.int 2)]) (rest := []) rfl rfl (lenOf pd_3 rfl) rfl (by decide) (nle rfl) (by decide) (by decide) dH_9 rfl (fun v9 T9 h9 Y9 q9 => ?_)
  obtain ⟨rfl, K9, f9_0⟩ := q9
  have KK9 : Keep h0 h9 [] := K1.trans K9 (allS (Or.inr zb1) all0)
  show Gl p e below _ (T9.setTop (mkF m 12 _ [(.int 0)]))
  refine Gl.istore Y9 (L' := #[.val (.ref ca), .val (.int 0), .val (.int 2), .val (.ref b1), .val (.int 0), .unset]) rfl dH_12 rfl ?_
  refine Gl.iload Y9 rfl dH_14 rfl ?_
  refine Gl.iloadN Y9 rfl dH_16 rfl ?_
  refine Gl.icmpeq Y9 dH_17 (by decide) rfl rfl (fun c17 => ?_) (fun c17 => ?_)
  · exact absurd c17 (by decide)
  refine Gl.aloadN Y9 rfl rfl dH_20 rfl ?_
  refine Gl.iloadN Y9 rfl dH_21 rfl ?_
  refine Gl.iloadN Y9 rfl dH_22 rfl ?_
  have f2 := ((O.ext E1).keep K9 (allS sb1 all0))
  have f3 := (f1.keep K9 (ninS (Nat.ne_of_lt (Nat.lt_of_lt_of_eq Vc.lt g1.symm)) nin0))
  refine Gl.callS Y9 (tw_74 hw) (tw_75 hw) (tw_44 hw) (tw_76 hw) (by decide) (rm25 l Z a0 hw ca kc u0 u1 h9 n0 Y9.sz f2 SA SH SL f3) (argsL := [(.ref ca), (.int 0), (.int 2)]) (rest := []) rfl rfl (lenOf pd_4 rfl) rfl (by decide) (nle rfl) (by decide) (by decide) dH_23 rfl (fun v23 T23 h23 Y23 q23 => ?_)
  obtain ⟨b23, kb23, rfl, K23, f23_0, f23_1⟩ := q23
  have Y23_sz : n0 ≤ h9.size := Y9.sz
  have KK23 : Keep h0 h23 [] := KK9.trans K23 all0
  have zb23 : h0.size ≤ b23 := Nat.le_trans KK9.1 f23_0
  show Gl p e below _ (T23.setTop (mkF m 26 _ [(.ref b23)]))
  refine Gl.astore Y23 rfl (L' := #[.val (.ref ca), .val (.int 0), .val (.int 2), .val (.ref b1), .val (.int 0), .val (.ref b23)]) rfl dH_26 rfl ?_
  refine Gl.aload Y23 rfl rfl dH_28 rfl ?_
  refine Gl.iload Y23 rfl dH_30 rfl ?_
  have f4 := (f2.keep K23 all0)
  refine Gl.callS Y23 (tw_90 hw) (tw_91 hw) (tw_44 hw) (tw_92 hw) (by decide) (rm22 l Z a0 hw b23 kb23 u0 u1 h23 n0 Y23.sz f4 SA SH SL f23_1 (r_u0) (r_u1)) (argsL := [(.ref b23), (.int 0)]) (rest := []) rfl rfl (lenOf pd_5 rfl) rfl (by decide) (nle rfl) (by decide) (by decide) dH_32 rfl (fun v32 T32 h32 Y32 q32 => ?_)
  obtain ⟨rfl, rfl⟩ := q32
  show Gl p e below _ (T32.setTop (mkF m 35 _ [(.int u0)]))
  refine Gl.sipush Y32 (v := (255 : Int32)) (by decide) dH_35 rfl ?_
  refine Gl.icmpgt Y32 dH_38 (by decide) rfl rfl (fun c38 => ?_) (fun c38 => ?_)
  rotate_left
  · exact absurd m0 c38
  refine Gl.aload Y32 rfl rfl dH_54 rfl ?_
  exact Gl.retA Y32 (by decide) (by decide) rfl rfl dH_56 ⟨b23, kb23, rfl, KK23, zb23, f23_1⟩
def R57 : Room := { frames := 4, cells := 2, slots := 6, locals := 57 }
def Q57 (Z : State) (a ca : Addr) (kc : ClassId) (cs u0 u1 : Int32) (h0 : Heap) (v : Option Value) (h : Heap) : Prop := ∃ b : Addr, ∃ kb : ClassId, v = none ∧ Keep h0 h [a] ∧ h0.size ≤ b ∧ Exa Z h a "java/lang/String" ∧ Fld Z h a "java/lang/String" "coder" "B" (.int 1) ∧ Fld Z h a "java/lang/String" "value" "[B" (.ref b) ∧ Arv Z h b kb .byte (4 : Int32) [(.int (uL u0)), (.int (uH u0)), (.int (uL u1)), (.int (uH u1))] (.int 0)
theorem ef57 (a ca : Addr) (m : MethodId) : entryFrame m #[(.ref a), (.ref ca), (.int 0), (.int 2), .null] 6 = mkF m 0 #[.val (.ref a), .val (.ref ca), .val (.int 0), .val (.int 2), .val .null, .unset] [] := by first | (simp [entryFrame, mkF, argsToLocals, Value.category]; done) | rfl
theorem rm57 (hw : HW a0 Z) (a ca : Addr) (kc : ClassId) (cs u0 u1 : Int32) (h0 : Heap) (n0 : Nat) (Z0 : n0 ≤ h0.size) (O : Old Z n0 h0) (S : uC Z cs) (hcs : ¬ cs = 0) (SA : uA Z) (SH : uS Z) (SL : uT Z) (E : Exa Z h0 a "java/lang/String") (F1 : Fld Z h0 a "java/lang/String" "value" "[B" .null) (F2 : Fld Z h0 a "java/lang/String" "coder" "B" (.int 0)) (ga : n0 ≤ a) (nca : own_ne ca a) (Vc : Arv Z h0 ca kc .char (2 : Int32) [(.int u0), (.int u1)] (.int 0)) (m0 : 255 < u0) (r_u0 : C16 u0) (r_u1 : C16 u1) : OMet l Z [] (⟨"java/lang/String", "<init>", "([CIILjava/lang/Void;)V"⟩ : MethodName) jdk_42_method_149_code 6 none R57 #[(.ref a), (.ref ca), (.int 0), (.int 2), .null] h0 n0 (Q57 Z a ca kc cs u0 u1 h0) := by
  refine OMet.of (own := "java/lang/String") rfl (plainFor_of_name pn_1) (ef57 a ca) Z0 ?_
  intro p e s m below meth c T0 Y0 hnm
  refine Gl.aloadN Y0 rfl rfl dI_0 rfl ?_
  refine Gl.initO Y0 (tw_16 hw) (tw_17 hw) (tw_18 hw) rfl (by decide) (nle rfl) dI_1 rfl (fun T1 Y1 => ?_)
  refine Gl.iloadN Y1 rfl dI_4 rfl ?_
  refine Gl.ifne Y1 dI_5 (by decide) rfl rfl (fun c5 => ?_) (fun c5 => ?_)
  rotate_left
  · exact absurd c5 (by decide)
  refine Gl.getS Y1 (host := "") (Or.inl (tw_41 hw)) Via.refl (Sta.ext O.2 S) dI_27 rfl (fun T27 Y27 => ?_)
  refine Gl.ifeq Y27 dI_30 (by decide) rfl rfl (fun c30 => ?_) (fun c30 => ?_)
  · exact absurd c30 hcs
  refine Gl.aloadN Y27 rfl rfl dI_33 rfl ?_
  refine Gl.iloadN Y27 rfl dI_34 rfl ?_
  refine Gl.iloadN Y27 rfl dI_35 rfl ?_
  refine Gl.callS Y27 (tw_42 hw) (tw_43 hw) (tw_44 hw) (tw_45 hw) (by decide) (rm56 l Z a0 hw ca kc u0 u1 h0 n0 Y27.sz O SA SH SL Vc (m0) (r_u0) (r_u1)) (argsL := [(.ref ca), (.int 0), (.int 2)]) (rest := []) rfl rfl (lenOf pd_4 rfl) rfl (by decide) (nle rfl) (by decide) (by decide) dI_36 rfl (fun v36 T36 h36 Y36 q36 => ?_)
  obtain ⟨b36, kb36, rfl, K36, f36_0, f36_1⟩ := q36
  have Y36_sz : n0 ≤ h0.size := Y27.sz
  have KK36 : Keep h0 h36 [a] := (Keep.refl h0 [a]).trans K36 all0
  have zb36 : h0.size ≤ b36 := Nat.le_trans (Keep.refl h0 [a]).1 f36_0
  show Gl p e below _ (T36.setTop (mkF m 39 _ [(.ref b36)]))
  refine Gl.astore Y36 rfl (L' := #[.val (.ref a), .val (.ref ca), .val (.int 0), .val (.int 2), .val .null, .val (.ref b36)]) rfl dI_39 rfl ?_
  refine Gl.aloadN Y36 rfl rfl dI_41 rfl ?_
  refine Gl.aload Y36 rfl rfl dI_42 rfl ?_
  refine Gl.iloadN Y36 rfl dI_44 rfl ?_
  refine Gl.callS Y36 (tw_49 hw) (tw_50 hw) (tw_44 hw) (tw_51 hw) (by decide) (rm55 l Z a0 hw b36 kb36 u0 u1 h36 n0 Y36.sz f36_1) (argsL := [(.ref b36), (.int 2)]) (rest := [(.ref a)]) rfl rfl (lenOf pd_6 rfl) rfl (by decide) (nle rfl) (by decide) (by decide) dI_45 rfl (fun v45 T45 h45 Y45 q45 => ?_)
  obtain ⟨rfl, rfl⟩ := q45
  show Gl p e below _ (T45.setTop (mkF m 48 _ [(.int 1), (.ref a)]))
  have f1 := (F2.keep K36 nin0)
  have f2 := (E.keep K36)
  refine Gl.putFN Y45 (tw_26 hw) Via.refl f1 f2 (Or.inr ⟨(tw_22 hw), rfl, hnm⟩) (tw_7 hw) ga (ty := .byte) (by decide) (v' := (.int 1)) (by decide) (by decide) dI_48 rfl (fun T48 h48 Y48 W48 => ?_)
  have f3 : Fld Z h48 a "java/lang/String" "coder" "B" (.int 1) := Fld.same W48 f1
  have K48 : Keep h0 h48 [a] := KK36.wr W48 (Or.inl (List.mem_of_getElem? (i := 0) rfl))
  refine Gl.aloadN Y48 rfl rfl dI_51 rfl ?_
  refine Gl.aload Y48 rfl rfl dI_52 rfl ?_
  have f4 := (Fld.other W48 (F1.keep K36 nin0) (Or.inr (slot_ne (Or.inr (tw_21 hw)) (Or.inr (tw_22 hw)) (by decide) (t := (.array .byte)) (t' := .byte) (by decide) (by decide))))
  have f5 := (Exa.wr W48 f2)
  refine Gl.putF Y48 (host := "") (Or.inl (tw_25 hw)) Via.refl f4 f5 (Or.inr ⟨(tw_21 hw), rfl, hnm⟩) (tw_7 hw) ga (ty := (.array .byte)) (by decide) rfl rfl dI_54 rfl (fun T54 h54 Y54 W54 => ?_)
  have f6 : Fld Z h54 a "java/lang/String" "value" "[B" (.ref b36) := Fld.same W54 f4
  have K54 : Keep h0 h54 [a] := K48.wr W54 (Or.inl (List.mem_of_getElem? (i := 0) rfl))
  have f7 := (Exa.wr W54 f5)
  have f8 := (Fld.other W54 f3 (Or.inr (slot_ne (Or.inr (tw_22 hw)) (Or.inr (tw_21 hw)) (by decide) (t := .byte) (t' := (.array .byte)) (by decide) (by decide))))
  have f9 := ((f36_1.other W48 (Ne.symm (Nat.ne_of_lt (Nat.lt_of_lt_of_le E.lt f36_0)))).other W54 (Ne.symm (Nat.ne_of_lt (Nat.lt_of_lt_of_le E.lt f36_0))))
  exact Gl.retV Y54 (by decide) (by decide)  dI_57 ⟨b36, kb36, rfl, K54, zb36, f7, f8, (by first | exact f6 | (subst_vars; exact f6) | (rw [PF]; exact f6)), f9⟩
def R58 : Room := { frames := 5, cells := 2, slots := 6, locals := 74 }
def Q58 (Z : State) (a ca : Addr) (kc : ClassId) (cs u0 u1 : Int32) (h0 : Heap) (v : Option Value) (h : Heap) : Prop := ∃ b : Addr, ∃ kb : ClassId, v = none ∧ Keep h0 h [a] ∧ h0.size ≤ b ∧ Exa Z h a "java/lang/String" ∧ Fld Z h a "java/lang/String" "coder" "B" (.int 1) ∧ Fld Z h a "java/lang/String" "value" "[B" (.ref b) ∧ Arv Z h b kb .byte (4 : Int32) [(.int (uL u0)), (.int (uH u0)), (.int (uL u1)), (.int (uH u1))] (.int 0)
theorem ef58 (a ca : Addr) (m : MethodId) : entryFrame m #[(.ref a), (.ref ca)] 2 = mkF m 0 #[.val (.ref a), .val (.ref ca)] [] := by first | (simp [entryFrame, mkF, argsToLocals, Value.category]; done) | rfl
theorem rm58 (hw : HW a0 Z) (a ca : Addr) (kc : ClassId) (cs u0 u1 : Int32) (h0 : Heap) (n0 : Nat) (Z0 : n0 ≤ h0.size) (O : Old Z n0 h0) (S : uC Z cs) (hcs : ¬ cs = 0) (SA : uA Z) (SH : uS Z) (SL : uT Z) (E : Exa Z h0 a "java/lang/String") (F1 : Fld Z h0 a "java/lang/String" "value" "[B" .null) (F2 : Fld Z h0 a "java/lang/String" "coder" "B" (.int 0)) (ga : n0 ≤ a) (nca : own_ne ca a) (Vc : Arv Z h0 ca kc .char (2 : Int32) [(.int u0), (.int u1)] (.int 0)) (m0 : 255 < u0) (r_u0 : C16 u0) (r_u1 : C16 u1) : OMet l Z [] (⟨"java/lang/String", "<init>", "([C)V"⟩ : MethodName) jdk_42_method_3_code 2 none R58 #[(.ref a), (.ref ca)] h0 n0 (Q58 Z a ca kc cs u0 u1 h0) := by
  refine OMet.of (own := "java/lang/String") rfl (plainFor_of_name pn_1) (ef58 a ca) Z0 ?_
  intro p e s m below meth c T0 Y0 hnm
  refine Gl.aloadN Y0 rfl rfl dJ_0 rfl ?_
  refine Gl.aloadN Y0 rfl rfl dJ_1 rfl ?_
  refine Gl.iconst Y0 (v := (0 : Int32)) (by decide) dJ_2 rfl ?_
  refine Gl.aloadN Y0 rfl rfl dJ_3 rfl ?_
  refine Gl.arraylength Y0 Vc dJ_4 rfl ?_
  refine Gl.aconstNull Y0 dJ_5 rfl ?_
  refine Gl.callN Y0 rfl (tw_12 hw) (tw_13 hw) (tw_8 hw) (tw_15 hw) (by decide) (rm57 l Z a0 hw a ca kc cs u0 u1 h0 n0 Y0.sz O S (hcs) SA SH SL E F1 F2 ga nca Vc (m0) (r_u0) (r_u1)) (a := a) (argsL := [(.ref ca), (.int 0), (.int 2), .null]) (rest := []) rfl rfl (lenOf pd_7 rfl) rfl (by decide) (nle rfl) (by decide) (by decide) dJ_6 rfl (fun v6 T6 h6 Y6 q6 => ?_)
  obtain ⟨b6, kb6, rfl, K6, f6_0, f6_1, f6_2, f6_3, f6_4⟩ := q6
  have Y6_sz : n0 ≤ h0.size := Y0.sz
  have KK6 : Keep h0 h6 [a] := (Keep.refl h0 [a]).trans K6 (allS (Or.inl (List.mem_of_getElem? (i := 0) rfl)) all0)
  have zb6 : h0.size ≤ b6 := Nat.le_trans (Keep.refl h0 [a]).1 f6_0
  show Gl p e below _ (T6.setTop (mkF m 9 _ []))
  exact Gl.retV Y6 (by decide) (by decide)  dJ_9 ⟨b6, kb6, rfl, KK6, zb6, f6_1, f6_2, (by first | exact f6_3 | (subst_vars; exact f6_3) | (rw [PF]; exact f6_3)), f6_4⟩
def R59 : Room := { frames := 3, cells := 2, slots := 6, locals := 40 }
def Q59 (Z : State) (ca : Addr) (kc : ClassId) (u0 u1 : Int32) (h0 : Heap) (v : Option Value) (h : Heap) : Prop := ∃ b : Addr, ∃ kb : ClassId, v = some (.ref b) ∧ Keep h0 h [] ∧ h0.size ≤ b ∧ Arv Z h b kb .byte (4 : Int32) [(.int (uL u0)), (.int (uH u0)), (.int (uL u1)), (.int (uH u1))] (.int 0)
theorem ef59 (ca : Addr) (m : MethodId) : entryFrame m #[(.ref ca), (.int 0), (.int 2)] 6 = mkF m 0 #[.val (.ref ca), .val (.int 0), .val (.int 2), .unset, .unset, .unset] [] := by first | (simp [entryFrame, mkF, argsToLocals, Value.category]; done) | rfl
theorem rm59 (hw : HW a0 Z) (ca : Addr) (kc : ClassId) (u0 u1 : Int32) (h0 : Heap) (n0 : Nat) (Z0 : n0 ≤ h0.size) (O : Old Z n0 h0) (SA : uA Z) (SH : uS Z) (SL : uT Z) (Vc : Arv Z h0 ca kc .char (2 : Int32) [(.int u0), (.int u1)] (.int 0)) (l0 : ¬ 255 < u0) (m1 : 255 < u1) (r_u0 : C16 u0) (r_u1 : C16 u1) : OMet l Z [] (⟨"java/lang/StringUTF16", "compress", "([CII)[B"⟩ : MethodName) jdk_52_method_16_code 6 (some (.array .byte)) R59 #[(.ref ca), (.int 0), (.int 2)] h0 n0 (Q59 Z ca kc u0 u1 h0) := by
  refine OMet.of (own := "java/lang/StringUTF16") rfl (plainFor_of_name pn_0) (ef59 ca) Z0 ?_
  intro p e s m below meth c T0 Y0 hnm
  refine Gl.iloadN Y0 rfl dH_0 rfl ?_
  refine Gl.newP Y0 2 (ty := .byte) rfl (tw_20 hw) (by decide) (by decide) (nle rfl) (nle rfl) (nle rfl) dH_1 rfl (fun T1 h1 b1 ck1 Y1 E1 g1 sb1 V1 => ?_)
  have V1 : Arv Z h1 b1 ck1 .byte (2 : Int32) [(.int 0), (.int 0)] (.int 0) := V1.pad (pad_rep [] (.int 0) 2)
  have zb1 : h0.size ≤ b1 := Nat.le_trans (Keep.refl h0 []).1 (Nat.le_of_eq g1.symm)
  have K1 : Keep h0 h1 [] := (Keep.refl h0 []).ext E1
  show Gl p e below _ (T1.setTop (mkF m 3 _ [(.ref b1)]))
  refine Gl.astoreN Y1 rfl (L' := #[.val (.ref ca), .val (.int 0), .val (.int 2), .val (.ref b1), .unset, .unset]) rfl dH_3 rfl ?_
  refine Gl.aloadN Y1 rfl rfl dH_4 rfl ?_
  refine Gl.iloadN Y1 rfl dH_5 rfl ?_
  refine Gl.aloadN Y1 rfl rfl dH_6 rfl ?_
  refine Gl.iconst Y1 (v := (0 : Int32)) (by decide) dH_7 rfl ?_
  refine Gl.iloadN Y1 rfl dH_8 rfl ?_
  have f1 := (Vc.ext E1)
  refine Gl.callS Y1 (tw_46 hw) (tw_47 hw) (tw_44 hw) (tw_48 hw) (by decide) (rm3 l Z a0 hw ca b1 kc ck1 u0 u1 h1 n0 Y1.sz f1 V1 sb1 (Nat.ne_of_lt (Nat.lt_of_lt_of_eq Vc.lt g1.symm)) (l0) (m1)) (argsL := [(.ref ca), (.int 0), (.ref b1), (.int 0), (.int 2)]) (rest := []) rfl rfl (lenOf pd_3 rfl) rfl (by decide) (nle rfl) (by decide) (by decide) dH_9 rfl (fun v9 T9 h9 Y9 q9 => ?_)
  obtain ⟨rfl, K9, f9_0⟩ := q9
  have KK9 : Keep h0 h9 [] := K1.trans K9 (allS (Or.inr zb1) all0)
  show Gl p e below _ (T9.setTop (mkF m 12 _ [(.int 1)]))
  refine Gl.istore Y9 (L' := #[.val (.ref ca), .val (.int 0), .val (.int 2), .val (.ref b1), .val (.int 1), .unset]) rfl dH_12 rfl ?_
  refine Gl.iload Y9 rfl dH_14 rfl ?_
  refine Gl.iloadN Y9 rfl dH_16 rfl ?_
  refine Gl.icmpeq Y9 dH_17 (by decide) rfl rfl (fun c17 => ?_) (fun c17 => ?_)
  · exact absurd c17 (by decide)
  refine Gl.aloadN Y9 rfl rfl dH_20 rfl ?_
  refine Gl.iloadN Y9 rfl dH_21 rfl ?_
  refine Gl.iloadN Y9 rfl dH_22 rfl ?_
  have f2 := ((O.ext E1).keep K9 (allS sb1 all0))
  have f3 := (f1.keep K9 (ninS (Nat.ne_of_lt (Nat.lt_of_lt_of_eq Vc.lt g1.symm)) nin0))
  refine Gl.callS Y9 (tw_74 hw) (tw_75 hw) (tw_44 hw) (tw_76 hw) (by decide) (rm25 l Z a0 hw ca kc u0 u1 h9 n0 Y9.sz f2 SA SH SL f3) (argsL := [(.ref ca), (.int 0), (.int 2)]) (rest := []) rfl rfl (lenOf pd_4 rfl) rfl (by decide) (nle rfl) (by decide) (by decide) dH_23 rfl (fun v23 T23 h23 Y23 q23 => ?_)
  obtain ⟨b23, kb23, rfl, K23, f23_0, f23_1⟩ := q23
  have Y23_sz : n0 ≤ h9.size := Y9.sz
  have KK23 : Keep h0 h23 [] := KK9.trans K23 all0
  have zb23 : h0.size ≤ b23 := Nat.le_trans KK9.1 f23_0
  show Gl p e below _ (T23.setTop (mkF m 26 _ [(.ref b23)]))
  refine Gl.astore Y23 rfl (L' := #[.val (.ref ca), .val (.int 0), .val (.int 2), .val (.ref b1), .val (.int 1), .val (.ref b23)]) rfl dH_26 rfl ?_
  refine Gl.aload Y23 rfl rfl dH_28 rfl ?_
  refine Gl.iload Y23 rfl dH_30 rfl ?_
  have f4 := (f2.keep K23 all0)
  refine Gl.callS Y23 (tw_90 hw) (tw_91 hw) (tw_44 hw) (tw_92 hw) (by decide) (rm24 l Z a0 hw b23 kb23 u0 u1 h23 n0 Y23.sz f4 SA SH SL f23_1 (r_u0) (r_u1)) (argsL := [(.ref b23), (.int 1)]) (rest := []) rfl rfl (lenOf pd_5 rfl) rfl (by decide) (nle rfl) (by decide) (by decide) dH_32 rfl (fun v32 T32 h32 Y32 q32 => ?_)
  obtain ⟨rfl, rfl⟩ := q32
  show Gl p e below _ (T32.setTop (mkF m 35 _ [(.int u1)]))
  refine Gl.sipush Y32 (v := (255 : Int32)) (by decide) dH_35 rfl ?_
  refine Gl.icmpgt Y32 dH_38 (by decide) rfl rfl (fun c38 => ?_) (fun c38 => ?_)
  rotate_left
  · exact absurd m1 c38
  refine Gl.aload Y32 rfl rfl dH_54 rfl ?_
  exact Gl.retA Y32 (by decide) (by decide) rfl rfl dH_56 ⟨b23, kb23, rfl, KK23, zb23, f23_1⟩
def R60 : Room := { frames := 4, cells := 2, slots := 6, locals := 57 }
def Q60 (Z : State) (a ca : Addr) (kc : ClassId) (cs u0 u1 : Int32) (h0 : Heap) (v : Option Value) (h : Heap) : Prop := ∃ b : Addr, ∃ kb : ClassId, v = none ∧ Keep h0 h [a] ∧ h0.size ≤ b ∧ Exa Z h a "java/lang/String" ∧ Fld Z h a "java/lang/String" "coder" "B" (.int 1) ∧ Fld Z h a "java/lang/String" "value" "[B" (.ref b) ∧ Arv Z h b kb .byte (4 : Int32) [(.int (uL u0)), (.int (uH u0)), (.int (uL u1)), (.int (uH u1))] (.int 0)
theorem ef60 (a ca : Addr) (m : MethodId) : entryFrame m #[(.ref a), (.ref ca), (.int 0), (.int 2), .null] 6 = mkF m 0 #[.val (.ref a), .val (.ref ca), .val (.int 0), .val (.int 2), .val .null, .unset] [] := by first | (simp [entryFrame, mkF, argsToLocals, Value.category]; done) | rfl
theorem rm60 (hw : HW a0 Z) (a ca : Addr) (kc : ClassId) (cs u0 u1 : Int32) (h0 : Heap) (n0 : Nat) (Z0 : n0 ≤ h0.size) (O : Old Z n0 h0) (S : uC Z cs) (hcs : ¬ cs = 0) (SA : uA Z) (SH : uS Z) (SL : uT Z) (E : Exa Z h0 a "java/lang/String") (F1 : Fld Z h0 a "java/lang/String" "value" "[B" .null) (F2 : Fld Z h0 a "java/lang/String" "coder" "B" (.int 0)) (ga : n0 ≤ a) (nca : own_ne ca a) (Vc : Arv Z h0 ca kc .char (2 : Int32) [(.int u0), (.int u1)] (.int 0)) (l0 : ¬ 255 < u0) (m1 : 255 < u1) (r_u0 : C16 u0) (r_u1 : C16 u1) : OMet l Z [] (⟨"java/lang/String", "<init>", "([CIILjava/lang/Void;)V"⟩ : MethodName) jdk_42_method_149_code 6 none R60 #[(.ref a), (.ref ca), (.int 0), (.int 2), .null] h0 n0 (Q60 Z a ca kc cs u0 u1 h0) := by
  refine OMet.of (own := "java/lang/String") rfl (plainFor_of_name pn_1) (ef60 a ca) Z0 ?_
  intro p e s m below meth c T0 Y0 hnm
  refine Gl.aloadN Y0 rfl rfl dI_0 rfl ?_
  refine Gl.initO Y0 (tw_16 hw) (tw_17 hw) (tw_18 hw) rfl (by decide) (nle rfl) dI_1 rfl (fun T1 Y1 => ?_)
  refine Gl.iloadN Y1 rfl dI_4 rfl ?_
  refine Gl.ifne Y1 dI_5 (by decide) rfl rfl (fun c5 => ?_) (fun c5 => ?_)
  rotate_left
  · exact absurd c5 (by decide)
  refine Gl.getS Y1 (host := "") (Or.inl (tw_41 hw)) Via.refl (Sta.ext O.2 S) dI_27 rfl (fun T27 Y27 => ?_)
  refine Gl.ifeq Y27 dI_30 (by decide) rfl rfl (fun c30 => ?_) (fun c30 => ?_)
  · exact absurd c30 hcs
  refine Gl.aloadN Y27 rfl rfl dI_33 rfl ?_
  refine Gl.iloadN Y27 rfl dI_34 rfl ?_
  refine Gl.iloadN Y27 rfl dI_35 rfl ?_
  refine Gl.callS Y27 (tw_42 hw) (tw_43 hw) (tw_44 hw) (tw_45 hw) (by decide) (rm59 l Z a0 hw ca kc u0 u1 h0 n0 Y27.sz O SA SH SL Vc (l0) (m1) (r_u0) (r_u1)) (argsL := [(.ref ca), (.int 0), (.int 2)]) (rest := []) rfl rfl (lenOf pd_4 rfl) rfl (by decide) (nle rfl) (by decide) (by decide) dI_36 rfl (fun v36 T36 h36 Y36 q36 => ?_)
  obtain ⟨b36, kb36, rfl, K36, f36_0, f36_1⟩ := q36
  have Y36_sz : n0 ≤ h0.size := Y27.sz
  have KK36 : Keep h0 h36 [a] := (Keep.refl h0 [a]).trans K36 all0
  have zb36 : h0.size ≤ b36 := Nat.le_trans (Keep.refl h0 [a]).1 f36_0
  show Gl p e below _ (T36.setTop (mkF m 39 _ [(.ref b36)]))
  refine Gl.astore Y36 rfl (L' := #[.val (.ref a), .val (.ref ca), .val (.int 0), .val (.int 2), .val .null, .val (.ref b36)]) rfl dI_39 rfl ?_
  refine Gl.aloadN Y36 rfl rfl dI_41 rfl ?_
  refine Gl.aload Y36 rfl rfl dI_42 rfl ?_
  refine Gl.iloadN Y36 rfl dI_44 rfl ?_
  refine Gl.callS Y36 (tw_49 hw) (tw_50 hw) (tw_44 hw) (tw_51 hw) (by decide) (rm55 l Z a0 hw b36 kb36 u0 u1 h36 n0 Y36.sz f36_1) (argsL := [(.ref b36), (.int 2)]) (rest := [(.ref a)]) rfl rfl (lenOf pd_6 rfl) rfl (by decide) (nle rfl) (by decide) (by decide) dI_45 rfl (fun v45 T45 h45 Y45 q45 => ?_)
  obtain ⟨rfl, rfl⟩ := q45
  show Gl p e below _ (T45.setTop (mkF m 48 _ [(.int 1), (.ref a)]))
  have f1 := (F2.keep K36 nin0)
  have f2 := (E.keep K36)
  refine Gl.putFN Y45 (tw_26 hw) Via.refl f1 f2 (Or.inr ⟨(tw_22 hw), rfl, hnm⟩) (tw_7 hw) ga (ty := .byte) (by decide) (v' := (.int 1)) (by decide) (by decide) dI_48 rfl (fun T48 h48 Y48 W48 => ?_)
  have f3 : Fld Z h48 a "java/lang/String" "coder" "B" (.int 1) := Fld.same W48 f1
  have K48 : Keep h0 h48 [a] := KK36.wr W48 (Or.inl (List.mem_of_getElem? (i := 0) rfl))
  refine Gl.aloadN Y48 rfl rfl dI_51 rfl ?_
  refine Gl.aload Y48 rfl rfl dI_52 rfl ?_
  have f4 := (Fld.other W48 (F1.keep K36 nin0) (Or.inr (slot_ne (Or.inr (tw_21 hw)) (Or.inr (tw_22 hw)) (by decide) (t := (.array .byte)) (t' := .byte) (by decide) (by decide))))
  have f5 := (Exa.wr W48 f2)
  refine Gl.putF Y48 (host := "") (Or.inl (tw_25 hw)) Via.refl f4 f5 (Or.inr ⟨(tw_21 hw), rfl, hnm⟩) (tw_7 hw) ga (ty := (.array .byte)) (by decide) rfl rfl dI_54 rfl (fun T54 h54 Y54 W54 => ?_)
  have f6 : Fld Z h54 a "java/lang/String" "value" "[B" (.ref b36) := Fld.same W54 f4
  have K54 : Keep h0 h54 [a] := K48.wr W54 (Or.inl (List.mem_of_getElem? (i := 0) rfl))
  have f7 := (Exa.wr W54 f5)
  have f8 := (Fld.other W54 f3 (Or.inr (slot_ne (Or.inr (tw_22 hw)) (Or.inr (tw_21 hw)) (by decide) (t := .byte) (t' := (.array .byte)) (by decide) (by decide))))
  have f9 := ((f36_1.other W48 (Ne.symm (Nat.ne_of_lt (Nat.lt_of_lt_of_le E.lt f36_0)))).other W54 (Ne.symm (Nat.ne_of_lt (Nat.lt_of_lt_of_le E.lt f36_0))))
  exact Gl.retV Y54 (by decide) (by decide)  dI_57 ⟨b36, kb36, rfl, K54, zb36, f7, f8, (by first | exact f6 | (subst_vars; exact f6) | (rw [PF]; exact f6)), f9⟩
def R61 : Room := { frames := 5, cells := 2, slots := 6, locals := 74 }
def Q61 (Z : State) (a ca : Addr) (kc : ClassId) (cs u0 u1 : Int32) (h0 : Heap) (v : Option Value) (h : Heap) : Prop := ∃ b : Addr, ∃ kb : ClassId, v = none ∧ Keep h0 h [a] ∧ h0.size ≤ b ∧ Exa Z h a "java/lang/String" ∧ Fld Z h a "java/lang/String" "coder" "B" (.int 1) ∧ Fld Z h a "java/lang/String" "value" "[B" (.ref b) ∧ Arv Z h b kb .byte (4 : Int32) [(.int (uL u0)), (.int (uH u0)), (.int (uL u1)), (.int (uH u1))] (.int 0)
theorem ef61 (a ca : Addr) (m : MethodId) : entryFrame m #[(.ref a), (.ref ca)] 2 = mkF m 0 #[.val (.ref a), .val (.ref ca)] [] := by first | (simp [entryFrame, mkF, argsToLocals, Value.category]; done) | rfl
theorem rm61 (hw : HW a0 Z) (a ca : Addr) (kc : ClassId) (cs u0 u1 : Int32) (h0 : Heap) (n0 : Nat) (Z0 : n0 ≤ h0.size) (O : Old Z n0 h0) (S : uC Z cs) (hcs : ¬ cs = 0) (SA : uA Z) (SH : uS Z) (SL : uT Z) (E : Exa Z h0 a "java/lang/String") (F1 : Fld Z h0 a "java/lang/String" "value" "[B" .null) (F2 : Fld Z h0 a "java/lang/String" "coder" "B" (.int 0)) (ga : n0 ≤ a) (nca : own_ne ca a) (Vc : Arv Z h0 ca kc .char (2 : Int32) [(.int u0), (.int u1)] (.int 0)) (l0 : ¬ 255 < u0) (m1 : 255 < u1) (r_u0 : C16 u0) (r_u1 : C16 u1) : OMet l Z [] (⟨"java/lang/String", "<init>", "([C)V"⟩ : MethodName) jdk_42_method_3_code 2 none R61 #[(.ref a), (.ref ca)] h0 n0 (Q61 Z a ca kc cs u0 u1 h0) := by
  refine OMet.of (own := "java/lang/String") rfl (plainFor_of_name pn_1) (ef61 a ca) Z0 ?_
  intro p e s m below meth c T0 Y0 hnm
  refine Gl.aloadN Y0 rfl rfl dJ_0 rfl ?_
  refine Gl.aloadN Y0 rfl rfl dJ_1 rfl ?_
  refine Gl.iconst Y0 (v := (0 : Int32)) (by decide) dJ_2 rfl ?_
  refine Gl.aloadN Y0 rfl rfl dJ_3 rfl ?_
  refine Gl.arraylength Y0 Vc dJ_4 rfl ?_
  refine Gl.aconstNull Y0 dJ_5 rfl ?_
  refine Gl.callN Y0 rfl (tw_12 hw) (tw_13 hw) (tw_8 hw) (tw_15 hw) (by decide) (rm60 l Z a0 hw a ca kc cs u0 u1 h0 n0 Y0.sz O S (hcs) SA SH SL E F1 F2 ga nca Vc (l0) (m1) (r_u0) (r_u1)) (a := a) (argsL := [(.ref ca), (.int 0), (.int 2), .null]) (rest := []) rfl rfl (lenOf pd_7 rfl) rfl (by decide) (nle rfl) (by decide) (by decide) dJ_6 rfl (fun v6 T6 h6 Y6 q6 => ?_)
  obtain ⟨b6, kb6, rfl, K6, f6_0, f6_1, f6_2, f6_3, f6_4⟩ := q6
  have Y6_sz : n0 ≤ h0.size := Y0.sz
  have KK6 : Keep h0 h6 [a] := (Keep.refl h0 [a]).trans K6 (allS (Or.inl (List.mem_of_getElem? (i := 0) rfl)) all0)
  have zb6 : h0.size ≤ b6 := Nat.le_trans (Keep.refl h0 [a]).1 f6_0
  show Gl p e below _ (T6.setTop (mkF m 9 _ []))
  exact Gl.retV Y6 (by decide) (by decide)  dJ_9 ⟨b6, kb6, rfl, KK6, zb6, f6_1, f6_2, (by first | exact f6_3 | (subst_vars; exact f6_3) | (rw [PF]; exact f6_3)), f6_4⟩
def R62 : Room := { frames := 1, cells := 1, slots := 2, locals := 18 }
def Q62 (Z : State) (ca : Addr) (kc : ClassId) (u0 u1 : Int32) (h0 : Heap) (v : Option Value) (h : Heap) : Prop := ∃ b : Addr, ∃ kb : ClassId, v = some (.ref b) ∧ Keep h0 h [] ∧ h0.size ≤ b ∧ Arv Z h b kb .byte (2 : Int32) [(.int (bL u0)), (.int (bL u1))] (.int 0)
theorem ef62 (ca : Addr) (m : MethodId) : entryFrame m #[(.ref ca), (.int 0), (.int 2)] 6 = mkF m 0 #[.val (.ref ca), .val (.int 0), .val (.int 2), .unset, .unset, .unset] [] := by first | (simp [entryFrame, mkF, argsToLocals, Value.category]; done) | rfl
theorem rm62 (hw : HW a0 Z) (ca : Addr) (kc : ClassId) (u0 u1 : Int32) (h0 : Heap) (n0 : Nat) (Z0 : n0 ≤ h0.size) (O : Old Z n0 h0) (SA : uA Z) (SH : uS Z) (SL : uT Z) (Vc : Arv Z h0 ca kc .char (2 : Int32) [(.int u0), (.int u1)] (.int 0)) (l0 : ¬ 255 < u0) (l1 : ¬ 255 < u1) (r_u0 : C16 u0) (r_u1 : C16 u1) : OMet l Z [] (⟨"java/lang/StringUTF16", "compress", "([CII)[B"⟩ : MethodName) jdk_52_method_16_code 6 (some (.array .byte)) R62 #[(.ref ca), (.int 0), (.int 2)] h0 n0 (Q62 Z ca kc u0 u1 h0) := by
  refine OMet.of (own := "java/lang/StringUTF16") rfl (plainFor_of_name pn_0) (ef62 ca) Z0 ?_
  intro p e s m below meth c T0 Y0 hnm
  refine Gl.iloadN Y0 rfl dH_0 rfl ?_
  refine Gl.newP Y0 2 (ty := .byte) rfl (tw_20 hw) (by decide) (by decide) (nle rfl) (nle rfl) (nle rfl) dH_1 rfl (fun T1 h1 b1 ck1 Y1 E1 g1 sb1 V1 => ?_)
  have V1 : Arv Z h1 b1 ck1 .byte (2 : Int32) [(.int 0), (.int 0)] (.int 0) := V1.pad (pad_rep [] (.int 0) 2)
  have zb1 : h0.size ≤ b1 := Nat.le_trans (Keep.refl h0 []).1 (Nat.le_of_eq g1.symm)
  have K1 : Keep h0 h1 [] := (Keep.refl h0 []).ext E1
  show Gl p e below _ (T1.setTop (mkF m 3 _ [(.ref b1)]))
  refine Gl.astoreN Y1 rfl (L' := #[.val (.ref ca), .val (.int 0), .val (.int 2), .val (.ref b1), .unset, .unset]) rfl dH_3 rfl ?_
  refine Gl.aloadN Y1 rfl rfl dH_4 rfl ?_
  refine Gl.iloadN Y1 rfl dH_5 rfl ?_
  refine Gl.aloadN Y1 rfl rfl dH_6 rfl ?_
  refine Gl.iconst Y1 (v := (0 : Int32)) (by decide) dH_7 rfl ?_
  refine Gl.iloadN Y1 rfl dH_8 rfl ?_
  have f1 := (Vc.ext E1)
  refine Gl.callS Y1 (tw_46 hw) (tw_47 hw) (tw_44 hw) (tw_48 hw) (by decide) (rm4 l Z a0 hw ca b1 kc ck1 u0 u1 h1 n0 Y1.sz f1 V1 sb1 (Nat.ne_of_lt (Nat.lt_of_lt_of_eq Vc.lt g1.symm)) (l0) (l1)) (argsL := [(.ref ca), (.int 0), (.ref b1), (.int 0), (.int 2)]) (rest := []) rfl rfl (lenOf pd_3 rfl) rfl (by decide) (nle rfl) (by decide) (by decide) dH_9 rfl (fun v9 T9 h9 Y9 q9 => ?_)
  obtain ⟨rfl, K9, f9_0⟩ := q9
  have KK9 : Keep h0 h9 [] := K1.trans K9 (allS (Or.inr zb1) all0)
  show Gl p e below _ (T9.setTop (mkF m 12 _ [(.int 2)]))
  refine Gl.istore Y9 (L' := #[.val (.ref ca), .val (.int 0), .val (.int 2), .val (.ref b1), .val (.int 2), .unset]) rfl dH_12 rfl ?_
  refine Gl.iload Y9 rfl dH_14 rfl ?_
  refine Gl.iloadN Y9 rfl dH_16 rfl ?_
  refine Gl.icmpeq Y9 dH_17 (by decide) rfl rfl (fun c17 => ?_) (fun c17 => ?_)
  rotate_left
  · exact absurd c17 (by decide)
  refine Gl.aloadN Y9 rfl rfl dH_57 rfl ?_
  exact Gl.retA Y9 (by decide) (by decide) rfl rfl dH_58 ⟨b1, ck1, rfl, KK9, zb1, f9_0⟩
def R63 : Room := { frames := 2, cells := 1, slots := 2, locals := 35 }
def Q63 (Z : State) (a ca : Addr) (kc : ClassId) (cs u0 u1 : Int32) (h0 : Heap) (v : Option Value) (h : Heap) : Prop := ∃ b : Addr, ∃ kb : ClassId, v = none ∧ Keep h0 h [a] ∧ h0.size ≤ b ∧ Exa Z h a "java/lang/String" ∧ Fld Z h a "java/lang/String" "coder" "B" (.int 0) ∧ Fld Z h a "java/lang/String" "value" "[B" (.ref b) ∧ Arv Z h b kb .byte (2 : Int32) [(.int (bL u0)), (.int (bL u1))] (.int 0)
theorem ef63 (a ca : Addr) (m : MethodId) : entryFrame m #[(.ref a), (.ref ca), (.int 0), (.int 2), .null] 6 = mkF m 0 #[.val (.ref a), .val (.ref ca), .val (.int 0), .val (.int 2), .val .null, .unset] [] := by first | (simp [entryFrame, mkF, argsToLocals, Value.category]; done) | rfl
theorem rm63 (hw : HW a0 Z) (a ca : Addr) (kc : ClassId) (cs u0 u1 : Int32) (h0 : Heap) (n0 : Nat) (Z0 : n0 ≤ h0.size) (O : Old Z n0 h0) (S : uC Z cs) (hcs : ¬ cs = 0) (SA : uA Z) (SH : uS Z) (SL : uT Z) (E : Exa Z h0 a "java/lang/String") (F1 : Fld Z h0 a "java/lang/String" "value" "[B" .null) (F2 : Fld Z h0 a "java/lang/String" "coder" "B" (.int 0)) (ga : n0 ≤ a) (nca : own_ne ca a) (Vc : Arv Z h0 ca kc .char (2 : Int32) [(.int u0), (.int u1)] (.int 0)) (l0 : ¬ 255 < u0) (l1 : ¬ 255 < u1) (r_u0 : C16 u0) (r_u1 : C16 u1) : OMet l Z [] (⟨"java/lang/String", "<init>", "([CIILjava/lang/Void;)V"⟩ : MethodName) jdk_42_method_149_code 6 none R63 #[(.ref a), (.ref ca), (.int 0), (.int 2), .null] h0 n0 (Q63 Z a ca kc cs u0 u1 h0) := by
  refine OMet.of (own := "java/lang/String") rfl (plainFor_of_name pn_1) (ef63 a ca) Z0 ?_
  intro p e s m below meth c T0 Y0 hnm
  refine Gl.aloadN Y0 rfl rfl dI_0 rfl ?_
  refine Gl.initO Y0 (tw_16 hw) (tw_17 hw) (tw_18 hw) rfl (by decide) (nle rfl) dI_1 rfl (fun T1 Y1 => ?_)
  refine Gl.iloadN Y1 rfl dI_4 rfl ?_
  refine Gl.ifne Y1 dI_5 (by decide) rfl rfl (fun c5 => ?_) (fun c5 => ?_)
  rotate_left
  · exact absurd c5 (by decide)
  refine Gl.getS Y1 (host := "") (Or.inl (tw_41 hw)) Via.refl (Sta.ext O.2 S) dI_27 rfl (fun T27 Y27 => ?_)
  refine Gl.ifeq Y27 dI_30 (by decide) rfl rfl (fun c30 => ?_) (fun c30 => ?_)
  · exact absurd c30 hcs
  refine Gl.aloadN Y27 rfl rfl dI_33 rfl ?_
  refine Gl.iloadN Y27 rfl dI_34 rfl ?_
  refine Gl.iloadN Y27 rfl dI_35 rfl ?_
  refine Gl.callS Y27 (tw_42 hw) (tw_43 hw) (tw_44 hw) (tw_45 hw) (by decide) (rm62 l Z a0 hw ca kc u0 u1 h0 n0 Y27.sz O SA SH SL Vc (l0) (l1) (r_u0) (r_u1)) (argsL := [(.ref ca), (.int 0), (.int 2)]) (rest := []) rfl rfl (lenOf pd_4 rfl) rfl (by decide) (nle rfl) (by decide) (by decide) dI_36 rfl (fun v36 T36 h36 Y36 q36 => ?_)
  obtain ⟨b36, kb36, rfl, K36, f36_0, f36_1⟩ := q36
  have Y36_sz : n0 ≤ h0.size := Y27.sz
  have KK36 : Keep h0 h36 [a] := (Keep.refl h0 [a]).trans K36 all0
  have zb36 : h0.size ≤ b36 := Nat.le_trans (Keep.refl h0 [a]).1 f36_0
  show Gl p e below _ (T36.setTop (mkF m 39 _ [(.ref b36)]))
  refine Gl.astore Y36 rfl (L' := #[.val (.ref a), .val (.ref ca), .val (.int 0), .val (.int 2), .val .null, .val (.ref b36)]) rfl dI_39 rfl ?_
  refine Gl.aloadN Y36 rfl rfl dI_41 rfl ?_
  refine Gl.aload Y36 rfl rfl dI_42 rfl ?_
  refine Gl.iloadN Y36 rfl dI_44 rfl ?_
  refine Gl.callS Y36 (tw_49 hw) (tw_50 hw) (tw_44 hw) (tw_51 hw) (by decide) (rm54 l Z a0 hw b36 kb36 u0 u1 h36 n0 Y36.sz f36_1) (argsL := [(.ref b36), (.int 2)]) (rest := [(.ref a)]) rfl rfl (lenOf pd_6 rfl) rfl (by decide) (nle rfl) (by decide) (by decide) dI_45 rfl (fun v45 T45 h45 Y45 q45 => ?_)
  obtain ⟨rfl, rfl⟩ := q45
  show Gl p e below _ (T45.setTop (mkF m 48 _ [(.int 0), (.ref a)]))
  have f1 := (F2.keep K36 nin0)
  have f2 := (E.keep K36)
  refine Gl.putFN Y45 (tw_26 hw) Via.refl f1 f2 (Or.inr ⟨(tw_22 hw), rfl, hnm⟩) (tw_7 hw) ga (ty := .byte) (by decide) (v' := (.int 0)) (by decide) (by decide) dI_48 rfl (fun T48 h48 Y48 W48 => ?_)
  have f3 : Fld Z h48 a "java/lang/String" "coder" "B" (.int 0) := Fld.same W48 f1
  have K48 : Keep h0 h48 [a] := KK36.wr W48 (Or.inl (List.mem_of_getElem? (i := 0) rfl))
  refine Gl.aloadN Y48 rfl rfl dI_51 rfl ?_
  refine Gl.aload Y48 rfl rfl dI_52 rfl ?_
  have f4 := (Fld.other W48 (F1.keep K36 nin0) (Or.inr (slot_ne (Or.inr (tw_21 hw)) (Or.inr (tw_22 hw)) (by decide) (t := (.array .byte)) (t' := .byte) (by decide) (by decide))))
  have f5 := (Exa.wr W48 f2)
  refine Gl.putF Y48 (host := "") (Or.inl (tw_25 hw)) Via.refl f4 f5 (Or.inr ⟨(tw_21 hw), rfl, hnm⟩) (tw_7 hw) ga (ty := (.array .byte)) (by decide) rfl rfl dI_54 rfl (fun T54 h54 Y54 W54 => ?_)
  have f6 : Fld Z h54 a "java/lang/String" "value" "[B" (.ref b36) := Fld.same W54 f4
  have K54 : Keep h0 h54 [a] := K48.wr W54 (Or.inl (List.mem_of_getElem? (i := 0) rfl))
  have f7 := (Exa.wr W54 f5)
  have f8 := (Fld.other W54 f3 (Or.inr (slot_ne (Or.inr (tw_22 hw)) (Or.inr (tw_21 hw)) (by decide) (t := .byte) (t' := (.array .byte)) (by decide) (by decide))))
  have f9 := ((f36_1.other W48 (Ne.symm (Nat.ne_of_lt (Nat.lt_of_lt_of_le E.lt f36_0)))).other W54 (Ne.symm (Nat.ne_of_lt (Nat.lt_of_lt_of_le E.lt f36_0))))
  exact Gl.retV Y54 (by decide) (by decide)  dI_57 ⟨b36, kb36, rfl, K54, zb36, f7, f8, (by first | exact f6 | (subst_vars; exact f6) | (rw [PF]; exact f6)), f9⟩
def R64 : Room := { frames := 3, cells := 1, slots := 2, locals := 52 }
def Q64 (Z : State) (a ca : Addr) (kc : ClassId) (cs u0 u1 : Int32) (h0 : Heap) (v : Option Value) (h : Heap) : Prop := ∃ b : Addr, ∃ kb : ClassId, v = none ∧ Keep h0 h [a] ∧ h0.size ≤ b ∧ Exa Z h a "java/lang/String" ∧ Fld Z h a "java/lang/String" "coder" "B" (.int 0) ∧ Fld Z h a "java/lang/String" "value" "[B" (.ref b) ∧ Arv Z h b kb .byte (2 : Int32) [(.int (bL u0)), (.int (bL u1))] (.int 0)
theorem ef64 (a ca : Addr) (m : MethodId) : entryFrame m #[(.ref a), (.ref ca)] 2 = mkF m 0 #[.val (.ref a), .val (.ref ca)] [] := by first | (simp [entryFrame, mkF, argsToLocals, Value.category]; done) | rfl
theorem rm64 (hw : HW a0 Z) (a ca : Addr) (kc : ClassId) (cs u0 u1 : Int32) (h0 : Heap) (n0 : Nat) (Z0 : n0 ≤ h0.size) (O : Old Z n0 h0) (S : uC Z cs) (hcs : ¬ cs = 0) (SA : uA Z) (SH : uS Z) (SL : uT Z) (E : Exa Z h0 a "java/lang/String") (F1 : Fld Z h0 a "java/lang/String" "value" "[B" .null) (F2 : Fld Z h0 a "java/lang/String" "coder" "B" (.int 0)) (ga : n0 ≤ a) (nca : own_ne ca a) (Vc : Arv Z h0 ca kc .char (2 : Int32) [(.int u0), (.int u1)] (.int 0)) (l0 : ¬ 255 < u0) (l1 : ¬ 255 < u1) (r_u0 : C16 u0) (r_u1 : C16 u1) : OMet l Z [] (⟨"java/lang/String", "<init>", "([C)V"⟩ : MethodName) jdk_42_method_3_code 2 none R64 #[(.ref a), (.ref ca)] h0 n0 (Q64 Z a ca kc cs u0 u1 h0) := by
  refine OMet.of (own := "java/lang/String") rfl (plainFor_of_name pn_1) (ef64 a ca) Z0 ?_
  intro p e s m below meth c T0 Y0 hnm
  refine Gl.aloadN Y0 rfl rfl dJ_0 rfl ?_
  refine Gl.aloadN Y0 rfl rfl dJ_1 rfl ?_
  refine Gl.iconst Y0 (v := (0 : Int32)) (by decide) dJ_2 rfl ?_
  refine Gl.aloadN Y0 rfl rfl dJ_3 rfl ?_
  refine Gl.arraylength Y0 Vc dJ_4 rfl ?_
  refine Gl.aconstNull Y0 dJ_5 rfl ?_
  refine Gl.callN Y0 rfl (tw_12 hw) (tw_13 hw) (tw_8 hw) (tw_15 hw) (by decide) (rm63 l Z a0 hw a ca kc cs u0 u1 h0 n0 Y0.sz O S (hcs) SA SH SL E F1 F2 ga nca Vc (l0) (l1) (r_u0) (r_u1)) (a := a) (argsL := [(.ref ca), (.int 0), (.int 2), .null]) (rest := []) rfl rfl (lenOf pd_7 rfl) rfl (by decide) (nle rfl) (by decide) (by decide) dJ_6 rfl (fun v6 T6 h6 Y6 q6 => ?_)
  obtain ⟨b6, kb6, rfl, K6, f6_0, f6_1, f6_2, f6_3, f6_4⟩ := q6
  have Y6_sz : n0 ≤ h0.size := Y0.sz
  have KK6 : Keep h0 h6 [a] := (Keep.refl h0 [a]).trans K6 (allS (Or.inl (List.mem_of_getElem? (i := 0) rfl)) all0)
  have zb6 : h0.size ≤ b6 := Nat.le_trans (Keep.refl h0 [a]).1 f6_0
  show Gl p e below _ (T6.setTop (mkF m 9 _ []))
  exact Gl.retV Y6 (by decide) (by decide)  dJ_9 ⟨b6, kb6, rfl, KK6, zb6, f6_1, f6_2, (by first | exact f6_3 | (subst_vars; exact f6_3) | (rw [PF]; exact f6_3)), f6_4⟩
def R65 : Room := { frames := 0, cells := 0, slots := 0, locals := 0 }
def Q65 (Z : State) (b : Addr) (kb : ClassId) (u0 u1 u2 : Int32) (h0 : Heap) (v : Option Value) (h : Heap) : Prop := v = some (.int 0) ∧ h0 = h
theorem ef65 (b : Addr) (m : MethodId) : entryFrame m #[(.ref b), (.int 3)] 2 = mkF m 0 #[.val (.ref b), .val (.int 3)] [] := by first | (simp [entryFrame, mkF, argsToLocals, Value.category]; done) | rfl
theorem rm65 (hw : HW a0 Z) (b : Addr) (kb : ClassId) (u0 u1 u2 : Int32) (h0 : Heap) (n0 : Nat) (Z0 : n0 ≤ h0.size) (Vb : Arv Z h0 b kb .byte (3 : Int32) [(.int (bL u0)), (.int (bL u1)), (.int (bL u2))] (.int 0)) : OMet l Z [] (⟨"java/lang/StringUTF16", "coderFromArrayLen", "([BI)B"⟩ : MethodName) jdk_52_method_15_code 2 (some .byte) R65 #[(.ref b), (.int 3)] h0 n0 (Q65 Z b kb u0 u1 u2 h0) := by
  refine OMet.of (own := "java/lang/StringUTF16") rfl (plainFor_of_name pn_0) (ef65 b) Z0 ?_
  intro p e s m below meth c T0 Y0 hnm
  refine Gl.iloadN Y0 rfl dG_0 rfl ?_
  refine Gl.aloadN Y0 rfl rfl dG_1 rfl ?_
  refine Gl.arraylength Y0 Vb dG_2 rfl ?_
  refine Gl.isub Y0 (r := (0 : Int32)) (by decide) dG_3 rfl ?_
  refine Gl.bipush Y0 (v := (31 : Int32)) (by decide) dG_4 rfl ?_
  refine Gl.iushr Y0 (r := (0 : Int32)) (by decide) dG_6 rfl ?_
  refine Gl.i2b Y0 (r := (0 : Int32)) (by decide) dG_7 rfl ?_
  exact Gl.retB Y0 (by decide) (by decide) (x' := (0 : Int32)) (by decide) dG_8 ⟨rfl, rfl⟩
def R66 : Room := { frames := 0, cells := 0, slots := 0, locals := 0 }
def Q66 (Z : State) (b : Addr) (kb : ClassId) (u0 u1 u2 : Int32) (h0 : Heap) (v : Option Value) (h : Heap) : Prop := v = some (.int 1) ∧ h0 = h
theorem ef66 (b : Addr) (m : MethodId) : entryFrame m #[(.ref b), (.int 3)] 2 = mkF m 0 #[.val (.ref b), .val (.int 3)] [] := by first | (simp [entryFrame, mkF, argsToLocals, Value.category]; done) | rfl
theorem rm66 (hw : HW a0 Z) (b : Addr) (kb : ClassId) (u0 u1 u2 : Int32) (h0 : Heap) (n0 : Nat) (Z0 : n0 ≤ h0.size) (Vb : Arv Z h0 b kb .byte (6 : Int32) [(.int (uL u0)), (.int (uH u0)), (.int (uL u1)), (.int (uH u1)), (.int (uL u2)), (.int (uH u2))] (.int 0)) : OMet l Z [] (⟨"java/lang/StringUTF16", "coderFromArrayLen", "([BI)B"⟩ : MethodName) jdk_52_method_15_code 2 (some .byte) R66 #[(.ref b), (.int 3)] h0 n0 (Q66 Z b kb u0 u1 u2 h0) := by
  refine OMet.of (own := "java/lang/StringUTF16") rfl (plainFor_of_name pn_0) (ef66 b) Z0 ?_
  intro p e s m below meth c T0 Y0 hnm
  refine Gl.iloadN Y0 rfl dG_0 rfl ?_
  refine Gl.aloadN Y0 rfl rfl dG_1 rfl ?_
  refine Gl.arraylength Y0 Vb dG_2 rfl ?_
  refine Gl.isub Y0 (r := (-3 : Int32)) (by decide) dG_3 rfl ?_
  refine Gl.bipush Y0 (v := (31 : Int32)) (by decide) dG_4 rfl ?_
  refine Gl.iushr Y0 (r := (1 : Int32)) (by decide) dG_6 rfl ?_
  refine Gl.i2b Y0 (r := (1 : Int32)) (by decide) dG_7 rfl ?_
  exact Gl.retB Y0 (by decide) (by decide) (x' := (1 : Int32)) (by decide) dG_8 ⟨rfl, rfl⟩
def R67 : Room := { frames := 3, cells := 2, slots := 9, locals := 40 }
def Q67 (Z : State) (ca : Addr) (kc : ClassId) (u0 u1 u2 : Int32) (h0 : Heap) (v : Option Value) (h : Heap) : Prop := ∃ b : Addr, ∃ kb : ClassId, v = some (.ref b) ∧ Keep h0 h [] ∧ h0.size ≤ b ∧ Arv Z h b kb .byte (6 : Int32) [(.int (uL u0)), (.int (uH u0)), (.int (uL u1)), (.int (uH u1)), (.int (uL u2)), (.int (uH u2))] (.int 0)
theorem ef67 (ca : Addr) (m : MethodId) : entryFrame m #[(.ref ca), (.int 0), (.int 3)] 6 = mkF m 0 #[.val (.ref ca), .val (.int 0), .val (.int 3), .unset, .unset, .unset] [] := by first | (simp [entryFrame, mkF, argsToLocals, Value.category]; done) | rfl
theorem rm67 (hw : HW a0 Z) (ca : Addr) (kc : ClassId) (u0 u1 u2 : Int32) (h0 : Heap) (n0 : Nat) (Z0 : n0 ≤ h0.size) (O : Old Z n0 h0) (SA : uA Z) (SH : uS Z) (SL : uT Z) (Vc : Arv Z h0 ca kc .char (3 : Int32) [(.int u0), (.int u1), (.int u2)] (.int 0)) (m0 : 255 < u0) (r_u0 : C16 u0) (r_u1 : C16 u1) (r_u2 : C16 u2) : OMet l Z [] (⟨"java/lang/StringUTF16", "compress", "([CII)[B"⟩ : MethodName) jdk_52_method_16_code 6 (some (.array .byte)) R67 #[(.ref ca), (.int 0), (.int 3)] h0 n0 (Q67 Z ca kc u0 u1 u2 h0) := by
  refine OMet.of (own := "java/lang/StringUTF16") rfl (plainFor_of_name pn_0) (ef67 ca) Z0 ?_
  intro p e s m below meth c T0 Y0 hnm
  refine Gl.iloadN Y0 rfl dH_0 rfl ?_
  refine Gl.newP Y0 3 (ty := .byte) rfl (tw_20 hw) (by decide) (by decide) (nle rfl) (nle rfl) (nle rfl) dH_1 rfl (fun T1 h1 b1 ck1 Y1 E1 g1 sb1 V1 => ?_)
  have V1 : Arv Z h1 b1 ck1 .byte (3 : Int32) [(.int 0), (.int 0), (.int 0)] (.int 0) := V1.pad (pad_rep [] (.int 0) 3)
  have zb1 : h0.size ≤ b1 := Nat.le_trans (Keep.refl h0 []).1 (Nat.le_of_eq g1.symm)
  have K1 : Keep h0 h1 [] := (Keep.refl h0 []).ext E1
  show Gl p e below _ (T1.setTop (mkF m 3 _ [(.ref b1)]))
  refine Gl.astoreN Y1 rfl (L' := #[.val (.ref ca), .val (.int 0), .val (.int 3), .val (.ref b1), .unset, .unset]) rfl dH_3 rfl ?_
  refine Gl.aloadN Y1 rfl rfl dH_4 rfl ?_
  refine Gl.iloadN Y1 rfl dH_5 rfl ?_
  refine Gl.aloadN Y1 rfl rfl dH_6 rfl ?_
  refine Gl.iconst Y1 (v := (0 : Int32)) (by decide) dH_7 rfl ?_
  refine Gl.iloadN Y1 rfl dH_8 rfl ?_
  have f1 := (Vc.ext E1)
  refine Gl.callS Y1 (tw_46 hw) (tw_47 hw) (tw_44 hw) (tw_48 hw) (by decide) (rm5 l Z a0 hw ca b1 kc ck1 u0 u1 u2 h1 n0 Y1.sz f1 V1 sb1 (Nat.ne_of_lt (Nat.lt_of_lt_of_eq Vc.lt g1.symm)) (m0)) (argsL := [(.ref ca), (.int 0), (.ref b1), (.int 0), (.int 3)]) (rest := []) rfl rfl (lenOf pd_3 rfl) rfl (by decide) (nle rfl) (by decide) (by decide) dH_9 rfl (fun v9 T9 h9 Y9 q9 => ?_)
  obtain ⟨rfl, K9, f9_0⟩ := q9
  have KK9 : Keep h0 h9 [] := K1.trans K9 (allS (Or.inr zb1) all0)
  show Gl p e below _ (T9.setTop (mkF m 12 _ [(.int 0)]))
  refine Gl.istore Y9 (L' := #[.val (.ref ca), .val (.int 0), .val (.int 3), .val (.ref b1), .val (.int 0), .unset]) rfl dH_12 rfl ?_
  refine Gl.iload Y9 rfl dH_14 rfl ?_
  refine Gl.iloadN Y9 rfl dH_16 rfl ?_
  refine Gl.icmpeq Y9 dH_17 (by decide) rfl rfl (fun c17 => ?_) (fun c17 => ?_)
  · exact absurd c17 (by decide)
  refine Gl.aloadN Y9 rfl rfl dH_20 rfl ?_
  refine Gl.iloadN Y9 rfl dH_21 rfl ?_
  refine Gl.iloadN Y9 rfl dH_22 rfl ?_
  have f2 := ((O.ext E1).keep K9 (allS sb1 all0))
  have f3 := (f1.keep K9 (ninS (Nat.ne_of_lt (Nat.lt_of_lt_of_eq Vc.lt g1.symm)) nin0))
  refine Gl.callS Y9 (tw_74 hw) (tw_75 hw) (tw_44 hw) (tw_76 hw) (by decide) (rm34 l Z a0 hw ca kc u0 u1 u2 h9 n0 Y9.sz f2 SA SH SL f3) (argsL := [(.ref ca), (.int 0), (.int 3)]) (rest := []) rfl rfl (lenOf pd_4 rfl) rfl (by decide) (nle rfl) (by decide) (by decide) dH_23 rfl (fun v23 T23 h23 Y23 q23 => ?_)
  obtain ⟨b23, kb23, rfl, K23, f23_0, f23_1⟩ := q23
  have Y23_sz : n0 ≤ h9.size := Y9.sz
  have KK23 : Keep h0 h23 [] := KK9.trans K23 all0
  have zb23 : h0.size ≤ b23 := Nat.le_trans KK9.1 f23_0
  show Gl p e below _ (T23.setTop (mkF m 26 _ [(.ref b23)]))
  refine Gl.astore Y23 rfl (L' := #[.val (.ref ca), .val (.int 0), .val (.int 3), .val (.ref b1), .val (.int 0), .val (.ref b23)]) rfl dH_26 rfl ?_
  refine Gl.aload Y23 rfl rfl dH_28 rfl ?_
  refine Gl.iload Y23 rfl dH_30 rfl ?_
  have f4 := (f2.keep K23 all0)
  refine Gl.callS Y23 (tw_90 hw) (tw_91 hw) (tw_44 hw) (tw_92 hw) (by decide) (rm29 l Z a0 hw b23 kb23 u0 u1 u2 h23 n0 Y23.sz f4 SA SH SL f23_1 (r_u0) (r_u1) (r_u2)) (argsL := [(.ref b23), (.int 0)]) (rest := []) rfl rfl (lenOf pd_5 rfl) rfl (by decide) (nle rfl) (by decide) (by decide) dH_32 rfl (fun v32 T32 h32 Y32 q32 => ?_)
  obtain ⟨rfl, rfl⟩ := q32
  show Gl p e below _ (T32.setTop (mkF m 35 _ [(.int u0)]))
  refine Gl.sipush Y32 (v := (255 : Int32)) (by decide) dH_35 rfl ?_
  refine Gl.icmpgt Y32 dH_38 (by decide) rfl rfl (fun c38 => ?_) (fun c38 => ?_)
  rotate_left
  · exact absurd m0 c38
  refine Gl.aload Y32 rfl rfl dH_54 rfl ?_
  exact Gl.retA Y32 (by decide) (by decide) rfl rfl dH_56 ⟨b23, kb23, rfl, KK23, zb23, f23_1⟩
def R68 : Room := { frames := 4, cells := 2, slots := 9, locals := 57 }
def Q68 (Z : State) (a ca : Addr) (kc : ClassId) (cs u0 u1 u2 : Int32) (h0 : Heap) (v : Option Value) (h : Heap) : Prop := ∃ b : Addr, ∃ kb : ClassId, v = none ∧ Keep h0 h [a] ∧ h0.size ≤ b ∧ Exa Z h a "java/lang/String" ∧ Fld Z h a "java/lang/String" "coder" "B" (.int 1) ∧ Fld Z h a "java/lang/String" "value" "[B" (.ref b) ∧ Arv Z h b kb .byte (6 : Int32) [(.int (uL u0)), (.int (uH u0)), (.int (uL u1)), (.int (uH u1)), (.int (uL u2)), (.int (uH u2))] (.int 0)
theorem ef68 (a ca : Addr) (m : MethodId) : entryFrame m #[(.ref a), (.ref ca), (.int 0), (.int 3), .null] 6 = mkF m 0 #[.val (.ref a), .val (.ref ca), .val (.int 0), .val (.int 3), .val .null, .unset] [] := by first | (simp [entryFrame, mkF, argsToLocals, Value.category]; done) | rfl
theorem rm68 (hw : HW a0 Z) (a ca : Addr) (kc : ClassId) (cs u0 u1 u2 : Int32) (h0 : Heap) (n0 : Nat) (Z0 : n0 ≤ h0.size) (O : Old Z n0 h0) (S : uC Z cs) (hcs : ¬ cs = 0) (SA : uA Z) (SH : uS Z) (SL : uT Z) (E : Exa Z h0 a "java/lang/String") (F1 : Fld Z h0 a "java/lang/String" "value" "[B" .null) (F2 : Fld Z h0 a "java/lang/String" "coder" "B" (.int 0)) (ga : n0 ≤ a) (nca : own_ne ca a) (Vc : Arv Z h0 ca kc .char (3 : Int32) [(.int u0), (.int u1), (.int u2)] (.int 0)) (m0 : 255 < u0) (r_u0 : C16 u0) (r_u1 : C16 u1) (r_u2 : C16 u2) : OMet l Z [] (⟨"java/lang/String", "<init>", "([CIILjava/lang/Void;)V"⟩ : MethodName) jdk_42_method_149_code 6 none R68 #[(.ref a), (.ref ca), (.int 0), (.int 3), .null] h0 n0 (Q68 Z a ca kc cs u0 u1 u2 h0) := by
  refine OMet.of (own := "java/lang/String") rfl (plainFor_of_name pn_1) (ef68 a ca) Z0 ?_
  intro p e s m below meth c T0 Y0 hnm
  refine Gl.aloadN Y0 rfl rfl dI_0 rfl ?_
  refine Gl.initO Y0 (tw_16 hw) (tw_17 hw) (tw_18 hw) rfl (by decide) (nle rfl) dI_1 rfl (fun T1 Y1 => ?_)
  refine Gl.iloadN Y1 rfl dI_4 rfl ?_
  refine Gl.ifne Y1 dI_5 (by decide) rfl rfl (fun c5 => ?_) (fun c5 => ?_)
  rotate_left
  · exact absurd c5 (by decide)
  refine Gl.getS Y1 (host := "") (Or.inl (tw_41 hw)) Via.refl (Sta.ext O.2 S) dI_27 rfl (fun T27 Y27 => ?_)
  refine Gl.ifeq Y27 dI_30 (by decide) rfl rfl (fun c30 => ?_) (fun c30 => ?_)
  · exact absurd c30 hcs
  refine Gl.aloadN Y27 rfl rfl dI_33 rfl ?_
  refine Gl.iloadN Y27 rfl dI_34 rfl ?_
  refine Gl.iloadN Y27 rfl dI_35 rfl ?_
  refine Gl.callS Y27 (tw_42 hw) (tw_43 hw) (tw_44 hw) (tw_45 hw) (by decide) (rm67 l Z a0 hw ca kc u0 u1 u2 h0 n0 Y27.sz O SA SH SL Vc (m0) (r_u0) (r_u1) (r_u2)) (argsL := [(.ref ca), (.int 0), (.int 3)]) (rest := []) rfl rfl (lenOf pd_4 rfl) rfl (by decide) (nle rfl) (by decide) (by decide) dI_36 rfl (fun v36 T36 h36 Y36 q36 => ?_)
  obtain ⟨b36, kb36, rfl, K36, f36_0, f36_1⟩ := q36
  have Y36_sz : n0 ≤ h0.size := Y27.sz
  have KK36 : Keep h0 h36 [a] := (Keep.refl h0 [a]).trans K36 all0
  have zb36 : h0.size ≤ b36 := Nat.le_trans (Keep.refl h0 [a]).1 f36_0
  show Gl p e below _ (T36.setTop (mkF m 39 _ [(.ref b36)]))
  refine Gl.astore Y36 rfl (L' := #[.val (.ref a), .val (.ref ca), .val (.int 0), .val (.int 3), .val .null, .val (.ref b36)]) rfl dI_39 rfl ?_
  refine Gl.aloadN Y36 rfl rfl dI_41 rfl ?_
  refine Gl.aload Y36 rfl rfl dI_42 rfl ?_
  refine Gl.iloadN Y36 rfl dI_44 rfl ?_
  refine Gl.callS Y36 (tw_49 hw) (tw_50 hw) (tw_44 hw) (tw_51 hw) (by decide) (rm66 l Z a0 hw b36 kb36 u0 u1 u2 h36 n0 Y36.sz f36_1) (argsL := [(.ref b36), (.int 3)]) (rest := [(.ref a)]) rfl rfl (lenOf pd_6 rfl) rfl (by decide) (nle rfl) (by decide) (by decide) dI_45 rfl (fun v45 T45 h45 Y45 q45 => ?_)
  obtain ⟨rfl, rfl⟩ := q45
  show Gl p e below _ (T45.setTop (mkF m 48 _ [(.int 1), (.ref a)]))
  have f1 := (F2.keep K36 nin0)
  have f2 := (E.keep K36)
  refine Gl.putFN Y45 (tw_26 hw) Via.refl f1 f2 (Or.inr ⟨(tw_22 hw), rfl, hnm⟩) (tw_7 hw) ga (ty := .byte) (by decide) (v' := (.int 1)) (by decide) (by decide) dI_48 rfl (fun T48 h48 Y48 W48 => ?_)
  have f3 : Fld Z h48 a "java/lang/String" "coder" "B" (.int 1) := Fld.same W48 f1
  have K48 : Keep h0 h48 [a] := KK36.wr W48 (Or.inl (List.mem_of_getElem? (i := 0) rfl))
  refine Gl.aloadN Y48 rfl rfl dI_51 rfl ?_
  refine Gl.aload Y48 rfl rfl dI_52 rfl ?_
  have f4 := (Fld.other W48 (F1.keep K36 nin0) (Or.inr (slot_ne (Or.inr (tw_21 hw)) (Or.inr (tw_22 hw)) (by decide) (t := (.array .byte)) (t' := .byte) (by decide) (by decide))))
  have f5 := (Exa.wr W48 f2)
  refine Gl.putF Y48 (host := "") (Or.inl (tw_25 hw)) Via.refl f4 f5 (Or.inr ⟨(tw_21 hw), rfl, hnm⟩) (tw_7 hw) ga (ty := (.array .byte)) (by decide) rfl rfl dI_54 rfl (fun T54 h54 Y54 W54 => ?_)
  have f6 : Fld Z h54 a "java/lang/String" "value" "[B" (.ref b36) := Fld.same W54 f4
  have K54 : Keep h0 h54 [a] := K48.wr W54 (Or.inl (List.mem_of_getElem? (i := 0) rfl))
  have f7 := (Exa.wr W54 f5)
  have f8 := (Fld.other W54 f3 (Or.inr (slot_ne (Or.inr (tw_22 hw)) (Or.inr (tw_21 hw)) (by decide) (t := .byte) (t' := (.array .byte)) (by decide) (by decide))))
  have f9 := ((f36_1.other W48 (Ne.symm (Nat.ne_of_lt (Nat.lt_of_lt_of_le E.lt f36_0)))).other W54 (Ne.symm (Nat.ne_of_lt (Nat.lt_of_lt_of_le E.lt f36_0))))
  exact Gl.retV Y54 (by decide) (by decide)  dI_57 ⟨b36, kb36, rfl, K54, zb36, f7, f8, (by first | exact f6 | (subst_vars; exact f6) | (rw [PF]; exact f6)), f9⟩
def R69 : Room := { frames := 5, cells := 2, slots := 9, locals := 74 }
def Q69 (Z : State) (a ca : Addr) (kc : ClassId) (cs u0 u1 u2 : Int32) (h0 : Heap) (v : Option Value) (h : Heap) : Prop := ∃ b : Addr, ∃ kb : ClassId, v = none ∧ Keep h0 h [a] ∧ h0.size ≤ b ∧ Exa Z h a "java/lang/String" ∧ Fld Z h a "java/lang/String" "coder" "B" (.int 1) ∧ Fld Z h a "java/lang/String" "value" "[B" (.ref b) ∧ Arv Z h b kb .byte (6 : Int32) [(.int (uL u0)), (.int (uH u0)), (.int (uL u1)), (.int (uH u1)), (.int (uL u2)), (.int (uH u2))] (.int 0)
theorem ef69 (a ca : Addr) (m : MethodId) : entryFrame m #[(.ref a), (.ref ca)] 2 = mkF m 0 #[.val (.ref a), .val (.ref ca)] [] := by first | (simp [entryFrame, mkF, argsToLocals, Value.category]; done) | rfl
theorem rm69 (hw : HW a0 Z) (a ca : Addr) (kc : ClassId) (cs u0 u1 u2 : Int32) (h0 : Heap) (n0 : Nat) (Z0 : n0 ≤ h0.size) (O : Old Z n0 h0) (S : uC Z cs) (hcs : ¬ cs = 0) (SA : uA Z) (SH : uS Z) (SL : uT Z) (E : Exa Z h0 a "java/lang/String") (F1 : Fld Z h0 a "java/lang/String" "value" "[B" .null) (F2 : Fld Z h0 a "java/lang/String" "coder" "B" (.int 0)) (ga : n0 ≤ a) (nca : own_ne ca a) (Vc : Arv Z h0 ca kc .char (3 : Int32) [(.int u0), (.int u1), (.int u2)] (.int 0)) (m0 : 255 < u0) (r_u0 : C16 u0) (r_u1 : C16 u1) (r_u2 : C16 u2) : OMet l Z [] (⟨"java/lang/String", "<init>", "([C)V"⟩ : MethodName) jdk_42_method_3_code 2 none R69 #[(.ref a), (.ref ca)] h0 n0 (Q69 Z a ca kc cs u0 u1 u2 h0) := by
  refine OMet.of (own := "java/lang/String") rfl (plainFor_of_name pn_1) (ef69 a ca) Z0 ?_
  intro p e s m below meth c T0 Y0 hnm
  refine Gl.aloadN Y0 rfl rfl dJ_0 rfl ?_
  refine Gl.aloadN Y0 rfl rfl dJ_1 rfl ?_
  refine Gl.iconst Y0 (v := (0 : Int32)) (by decide) dJ_2 rfl ?_
  refine Gl.aloadN Y0 rfl rfl dJ_3 rfl ?_
  refine Gl.arraylength Y0 Vc dJ_4 rfl ?_
  refine Gl.aconstNull Y0 dJ_5 rfl ?_
  refine Gl.callN Y0 rfl (tw_12 hw) (tw_13 hw) (tw_8 hw) (tw_15 hw) (by decide) (rm68 l Z a0 hw a ca kc cs u0 u1 u2 h0 n0 Y0.sz O S (hcs) SA SH SL E F1 F2 ga nca Vc (m0) (r_u0) (r_u1) (r_u2)) (a := a) (argsL := [(.ref ca), (.int 0), (.int 3), .null]) (rest := []) rfl rfl (lenOf pd_7 rfl) rfl (by decide) (nle rfl) (by decide) (by decide) dJ_6 rfl (fun v6 T6 h6 Y6 q6 => ?_)
  obtain ⟨b6, kb6, rfl, K6, f6_0, f6_1, f6_2, f6_3, f6_4⟩ := q6
  have Y6_sz : n0 ≤ h0.size := Y0.sz
  have KK6 : Keep h0 h6 [a] := (Keep.refl h0 [a]).trans K6 (allS (Or.inl (List.mem_of_getElem? (i := 0) rfl)) all0)
  have zb6 : h0.size ≤ b6 := Nat.le_trans (Keep.refl h0 [a]).1 f6_0
  show Gl p e below _ (T6.setTop (mkF m 9 _ []))
  exact Gl.retV Y6 (by decide) (by decide)  dJ_9 ⟨b6, kb6, rfl, KK6, zb6, f6_1, f6_2, (by first | exact f6_3 | (subst_vars; exact f6_3) | (rw [PF]; exact f6_3)), f6_4⟩
def R70 : Room := { frames := 3, cells := 2, slots := 9, locals := 40 }
def Q70 (Z : State) (ca : Addr) (kc : ClassId) (u0 u1 u2 : Int32) (h0 : Heap) (v : Option Value) (h : Heap) : Prop := ∃ b : Addr, ∃ kb : ClassId, v = some (.ref b) ∧ Keep h0 h [] ∧ h0.size ≤ b ∧ Arv Z h b kb .byte (6 : Int32) [(.int (uL u0)), (.int (uH u0)), (.int (uL u1)), (.int (uH u1)), (.int (uL u2)), (.int (uH u2))] (.int 0)
theorem ef70 (ca : Addr) (m : MethodId) : entryFrame m #[(.ref ca), (.int 0), (.int 3)] 6 = mkF m 0 #[.val (.ref ca), .val (.int 0), .val (.int 3), .unset, .unset, .unset] [] := by first | (simp [entryFrame, mkF, argsToLocals, Value.category]; done) | rfl
theorem rm70 (hw : HW a0 Z) (ca : Addr) (kc : ClassId) (u0 u1 u2 : Int32) (h0 : Heap) (n0 : Nat) (Z0 : n0 ≤ h0.size) (O : Old Z n0 h0) (SA : uA Z) (SH : uS Z) (SL : uT Z) (Vc : Arv Z h0 ca kc .char (3 : Int32) [(.int u0), (.int u1), (.int u2)] (.int 0)) (l0 : ¬ 255 < u0) (m1 : 255 < u1) (r_u0 : C16 u0) (r_u1 : C16 u1) (r_u2 : C16 u2) : OMet l Z [] (⟨"java/lang/StringUTF16", "compress", "([CII)[B"⟩ : MethodName) jdk_52_method_16_code 6 (some (.array .byte)) R70 #[(.ref ca), (.int 0), (.int 3)] h0 n0 (Q70 Z ca kc u0 u1 u2 h0) := by
  refine OMet.of (own := "java/lang/StringUTF16") rfl (plainFor_of_name pn_0) (ef70 ca) Z0 ?_
  intro p e s m below meth c T0 Y0 hnm
  refine Gl.iloadN Y0 rfl dH_0 rfl ?_
  refine Gl.newP Y0 3 (ty := .byte) rfl (tw_20 hw) (by decide) (by decide) (nle rfl) (nle rfl) (nle rfl) dH_1 rfl (fun T1 h1 b1 ck1 Y1 E1 g1 sb1 V1 => ?_)
  have V1 : Arv Z h1 b1 ck1 .byte (3 : Int32) [(.int 0), (.int 0), (.int 0)] (.int 0) := V1.pad (pad_rep [] (.int 0) 3)
  have zb1 : h0.size ≤ b1 := Nat.le_trans (Keep.refl h0 []).1 (Nat.le_of_eq g1.symm)
  have K1 : Keep h0 h1 [] := (Keep.refl h0 []).ext E1
  show Gl p e below _ (T1.setTop (mkF m 3 _ [(.ref b1)]))
  refine Gl.astoreN Y1 rfl (L' := #[.val (.ref ca), .val (.int 0), .val (.int 3), .val (.ref b1), .unset, .unset]) rfl dH_3 rfl ?_
  refine Gl.aloadN Y1 rfl rfl dH_4 rfl ?_
  refine Gl.iloadN Y1 rfl dH_5 rfl ?_
  refine Gl.aloadN Y1 rfl rfl dH_6 rfl ?_
  refine Gl.iconst Y1 (v := (0 : Int32)) (by decide) dH_7 rfl ?_
  refine Gl.iloadN Y1 rfl dH_8 rfl ?_
  have f1 := (Vc.ext E1)
  refine Gl.callS Y1 (tw_46 hw) (tw_47 hw) (tw_44 hw) (tw_48 hw) (by decide) (rm6 l Z a0 hw ca b1 kc ck1 u0 u1 u2 h1 n0 Y1.sz f1 V1 sb1 (Nat.ne_of_lt (Nat.lt_of_lt_of_eq Vc.lt g1.symm)) (l0) (m1)) (argsL := [(.ref ca), (.int 0), (.ref b1), (.int 0), (.int 3)]) (rest := []) rfl rfl (lenOf pd_3 rfl) rfl (by decide) (nle rfl) (by decide) (by decide) dH_9 rfl (fun v9 T9 h9 Y9 q9 => ?_)
  obtain ⟨rfl, K9, f9_0⟩ := q9
  have KK9 : Keep h0 h9 [] := K1.trans K9 (allS (Or.inr zb1) all0)
  show Gl p e below _ (T9.setTop (mkF m 12 _ [(.int 1)]))
  refine Gl.istore Y9 (L' := #[.val (.ref ca), .val (.int 0), .val (.int 3), .val (.ref b1), .val (.int 1), .unset]) rfl dH_12 rfl ?_
  refine Gl.iload Y9 rfl dH_14 rfl ?_
  refine Gl.iloadN Y9 rfl dH_16 rfl ?_
  refine Gl.icmpeq Y9 dH_17 (by decide) rfl rfl (fun c17 => ?_) (fun c17 => ?_)
  · exact absurd c17 (by decide)
  refine Gl.aloadN Y9 rfl rfl dH_20 rfl ?_
  refine Gl.iloadN Y9 rfl dH_21 rfl ?_
  refine Gl.iloadN Y9 rfl dH_22 rfl ?_
  have f2 := ((O.ext E1).keep K9 (allS sb1 all0))
  have f3 := (f1.keep K9 (ninS (Nat.ne_of_lt (Nat.lt_of_lt_of_eq Vc.lt g1.symm)) nin0))
  refine Gl.callS Y9 (tw_74 hw) (tw_75 hw) (tw_44 hw) (tw_76 hw) (by decide) (rm34 l Z a0 hw ca kc u0 u1 u2 h9 n0 Y9.sz f2 SA SH SL f3) (argsL := [(.ref ca), (.int 0), (.int 3)]) (rest := []) rfl rfl (lenOf pd_4 rfl) rfl (by decide) (nle rfl) (by decide) (by decide) dH_23 rfl (fun v23 T23 h23 Y23 q23 => ?_)
  obtain ⟨b23, kb23, rfl, K23, f23_0, f23_1⟩ := q23
  have Y23_sz : n0 ≤ h9.size := Y9.sz
  have KK23 : Keep h0 h23 [] := KK9.trans K23 all0
  have zb23 : h0.size ≤ b23 := Nat.le_trans KK9.1 f23_0
  show Gl p e below _ (T23.setTop (mkF m 26 _ [(.ref b23)]))
  refine Gl.astore Y23 rfl (L' := #[.val (.ref ca), .val (.int 0), .val (.int 3), .val (.ref b1), .val (.int 1), .val (.ref b23)]) rfl dH_26 rfl ?_
  refine Gl.aload Y23 rfl rfl dH_28 rfl ?_
  refine Gl.iload Y23 rfl dH_30 rfl ?_
  have f4 := (f2.keep K23 all0)
  refine Gl.callS Y23 (tw_90 hw) (tw_91 hw) (tw_44 hw) (tw_92 hw) (by decide) (rm31 l Z a0 hw b23 kb23 u0 u1 u2 h23 n0 Y23.sz f4 SA SH SL f23_1 (r_u0) (r_u1) (r_u2)) (argsL := [(.ref b23), (.int 1)]) (rest := []) rfl rfl (lenOf pd_5 rfl) rfl (by decide) (nle rfl) (by decide) (by decide) dH_32 rfl (fun v32 T32 h32 Y32 q32 => ?_)
  obtain ⟨rfl, rfl⟩ := q32
  show Gl p e below _ (T32.setTop (mkF m 35 _ [(.int u1)]))
  refine Gl.sipush Y32 (v := (255 : Int32)) (by decide) dH_35 rfl ?_
  refine Gl.icmpgt Y32 dH_38 (by decide) rfl rfl (fun c38 => ?_) (fun c38 => ?_)
  rotate_left
  · exact absurd m1 c38
  refine Gl.aload Y32 rfl rfl dH_54 rfl ?_
  exact Gl.retA Y32 (by decide) (by decide) rfl rfl dH_56 ⟨b23, kb23, rfl, KK23, zb23, f23_1⟩
def R71 : Room := { frames := 4, cells := 2, slots := 9, locals := 57 }
def Q71 (Z : State) (a ca : Addr) (kc : ClassId) (cs u0 u1 u2 : Int32) (h0 : Heap) (v : Option Value) (h : Heap) : Prop := ∃ b : Addr, ∃ kb : ClassId, v = none ∧ Keep h0 h [a] ∧ h0.size ≤ b ∧ Exa Z h a "java/lang/String" ∧ Fld Z h a "java/lang/String" "coder" "B" (.int 1) ∧ Fld Z h a "java/lang/String" "value" "[B" (.ref b) ∧ Arv Z h b kb .byte (6 : Int32) [(.int (uL u0)), (.int (uH u0)), (.int (uL u1)), (.int (uH u1)), (.int (uL u2)), (.int (uH u2))] (.int 0)
theorem ef71 (a ca : Addr) (m : MethodId) : entryFrame m #[(.ref a), (.ref ca), (.int 0), (.int 3), .null] 6 = mkF m 0 #[.val (.ref a), .val (.ref ca), .val (.int 0), .val (.int 3), .val .null, .unset] [] := by first | (simp [entryFrame, mkF, argsToLocals, Value.category]; done) | rfl
theorem rm71 (hw : HW a0 Z) (a ca : Addr) (kc : ClassId) (cs u0 u1 u2 : Int32) (h0 : Heap) (n0 : Nat) (Z0 : n0 ≤ h0.size) (O : Old Z n0 h0) (S : uC Z cs) (hcs : ¬ cs = 0) (SA : uA Z) (SH : uS Z) (SL : uT Z) (E : Exa Z h0 a "java/lang/String") (F1 : Fld Z h0 a "java/lang/String" "value" "[B" .null) (F2 : Fld Z h0 a "java/lang/String" "coder" "B" (.int 0)) (ga : n0 ≤ a) (nca : own_ne ca a) (Vc : Arv Z h0 ca kc .char (3 : Int32) [(.int u0), (.int u1), (.int u2)] (.int 0)) (l0 : ¬ 255 < u0) (m1 : 255 < u1) (r_u0 : C16 u0) (r_u1 : C16 u1) (r_u2 : C16 u2) : OMet l Z [] (⟨"java/lang/String", "<init>", "([CIILjava/lang/Void;)V"⟩ : MethodName) jdk_42_method_149_code 6 none R71 #[(.ref a), (.ref ca), (.int 0), (.int 3), .null] h0 n0 (Q71 Z a ca kc cs u0 u1 u2 h0) := by
  refine OMet.of (own := "java/lang/String") rfl (plainFor_of_name pn_1) (ef71 a ca) Z0 ?_
  intro p e s m below meth c T0 Y0 hnm
  refine Gl.aloadN Y0 rfl rfl dI_0 rfl ?_
  refine Gl.initO Y0 (tw_16 hw) (tw_17 hw) (tw_18 hw) rfl (by decide) (nle rfl) dI_1 rfl (fun T1 Y1 => ?_)
  refine Gl.iloadN Y1 rfl dI_4 rfl ?_
  refine Gl.ifne Y1 dI_5 (by decide) rfl rfl (fun c5 => ?_) (fun c5 => ?_)
  rotate_left
  · exact absurd c5 (by decide)
  refine Gl.getS Y1 (host := "") (Or.inl (tw_41 hw)) Via.refl (Sta.ext O.2 S) dI_27 rfl (fun T27 Y27 => ?_)
  refine Gl.ifeq Y27 dI_30 (by decide) rfl rfl (fun c30 => ?_) (fun c30 => ?_)
  · exact absurd c30 hcs
  refine Gl.aloadN Y27 rfl rfl dI_33 rfl ?_
  refine Gl.iloadN Y27 rfl dI_34 rfl ?_
  refine Gl.iloadN Y27 rfl dI_35 rfl ?_
  refine Gl.callS Y27 (tw_42 hw) (tw_43 hw) (tw_44 hw) (tw_45 hw) (by decide) (rm70 l Z a0 hw ca kc u0 u1 u2 h0 n0 Y27.sz O SA SH SL Vc (l0) (m1) (r_u0) (r_u1) (r_u2)) (argsL := [(.ref ca), (.int 0), (.int 3)]) (rest := []) rfl rfl (lenOf pd_4 rfl) rfl (by decide) (nle rfl) (by decide) (by decide) dI_36 rfl (fun v36 T36 h36 Y36 q36 => ?_)
  obtain ⟨b36, kb36, rfl, K36, f36_0, f36_1⟩ := q36
  have Y36_sz : n0 ≤ h0.size := Y27.sz
  have KK36 : Keep h0 h36 [a] := (Keep.refl h0 [a]).trans K36 all0
  have zb36 : h0.size ≤ b36 := Nat.le_trans (Keep.refl h0 [a]).1 f36_0
  show Gl p e below _ (T36.setTop (mkF m 39 _ [(.ref b36)]))
  refine Gl.astore Y36 rfl (L' := #[.val (.ref a), .val (.ref ca), .val (.int 0), .val (.int 3), .val .null, .val (.ref b36)]) rfl dI_39 rfl ?_
  refine Gl.aloadN Y36 rfl rfl dI_41 rfl ?_
  refine Gl.aload Y36 rfl rfl dI_42 rfl ?_
  refine Gl.iloadN Y36 rfl dI_44 rfl ?_
  refine Gl.callS Y36 (tw_49 hw) (tw_50 hw) (tw_44 hw) (tw_51 hw) (by decide) (rm66 l Z a0 hw b36 kb36 u0 u1 u2 h36 n0 Y36.sz f36_1) (argsL := [(.ref b36), (.int 3)]) (rest := [(.ref a)]) rfl rfl (lenOf pd_6 rfl) rfl (by decide) (nle rfl) (by decide) (by decide) dI_45 rfl (fun v45 T45 h45 Y45 q45 => ?_)
  obtain ⟨rfl, rfl⟩ := q45
  show Gl p e below _ (T45.setTop (mkF m 48 _ [(.int 1), (.ref a)]))
  have f1 := (F2.keep K36 nin0)
  have f2 := (E.keep K36)
  refine Gl.putFN Y45 (tw_26 hw) Via.refl f1 f2 (Or.inr ⟨(tw_22 hw), rfl, hnm⟩) (tw_7 hw) ga (ty := .byte) (by decide) (v' := (.int 1)) (by decide) (by decide) dI_48 rfl (fun T48 h48 Y48 W48 => ?_)
  have f3 : Fld Z h48 a "java/lang/String" "coder" "B" (.int 1) := Fld.same W48 f1
  have K48 : Keep h0 h48 [a] := KK36.wr W48 (Or.inl (List.mem_of_getElem? (i := 0) rfl))
  refine Gl.aloadN Y48 rfl rfl dI_51 rfl ?_
  refine Gl.aload Y48 rfl rfl dI_52 rfl ?_
  have f4 := (Fld.other W48 (F1.keep K36 nin0) (Or.inr (slot_ne (Or.inr (tw_21 hw)) (Or.inr (tw_22 hw)) (by decide) (t := (.array .byte)) (t' := .byte) (by decide) (by decide))))
  have f5 := (Exa.wr W48 f2)
  refine Gl.putF Y48 (host := "") (Or.inl (tw_25 hw)) Via.refl f4 f5 (Or.inr ⟨(tw_21 hw), rfl, hnm⟩) (tw_7 hw) ga (ty := (.array .byte)) (by decide) rfl rfl dI_54 rfl (fun T54 h54 Y54 W54 => ?_)
  have f6 : Fld Z h54 a "java/lang/String" "value" "[B" (.ref b36) := Fld.same W54 f4
  have K54 : Keep h0 h54 [a] := K48.wr W54 (Or.inl (List.mem_of_getElem? (i := 0) rfl))
  have f7 := (Exa.wr W54 f5)
  have f8 := (Fld.other W54 f3 (Or.inr (slot_ne (Or.inr (tw_22 hw)) (Or.inr (tw_21 hw)) (by decide) (t := .byte) (t' := (.array .byte)) (by decide) (by decide))))
  have f9 := ((f36_1.other W48 (Ne.symm (Nat.ne_of_lt (Nat.lt_of_lt_of_le E.lt f36_0)))).other W54 (Ne.symm (Nat.ne_of_lt (Nat.lt_of_lt_of_le E.lt f36_0))))
  exact Gl.retV Y54 (by decide) (by decide)  dI_57 ⟨b36, kb36, rfl, K54, zb36, f7, f8, (by first | exact f6 | (subst_vars; exact f6) | (rw [PF]; exact f6)), f9⟩
def R72 : Room := { frames := 5, cells := 2, slots := 9, locals := 74 }
def Q72 (Z : State) (a ca : Addr) (kc : ClassId) (cs u0 u1 u2 : Int32) (h0 : Heap) (v : Option Value) (h : Heap) : Prop := ∃ b : Addr, ∃ kb : ClassId, v = none ∧ Keep h0 h [a] ∧ h0.size ≤ b ∧ Exa Z h a "java/lang/String" ∧ Fld Z h a "java/lang/String" "coder" "B" (.int 1) ∧ Fld Z h a "java/lang/String" "value" "[B" (.ref b) ∧ Arv Z h b kb .byte (6 : Int32) [(.int (uL u0)), (.int (uH u0)), (.int (uL u1)), (.int (uH u1)), (.int (uL u2)), (.int (uH u2))] (.int 0)
theorem ef72 (a ca : Addr) (m : MethodId) : entryFrame m #[(.ref a), (.ref ca)] 2 = mkF m 0 #[.val (.ref a), .val (.ref ca)] [] := by first | (simp [entryFrame, mkF, argsToLocals, Value.category]; done) | rfl
theorem rm72 (hw : HW a0 Z) (a ca : Addr) (kc : ClassId) (cs u0 u1 u2 : Int32) (h0 : Heap) (n0 : Nat) (Z0 : n0 ≤ h0.size) (O : Old Z n0 h0) (S : uC Z cs) (hcs : ¬ cs = 0) (SA : uA Z) (SH : uS Z) (SL : uT Z) (E : Exa Z h0 a "java/lang/String") (F1 : Fld Z h0 a "java/lang/String" "value" "[B" .null) (F2 : Fld Z h0 a "java/lang/String" "coder" "B" (.int 0)) (ga : n0 ≤ a) (nca : own_ne ca a) (Vc : Arv Z h0 ca kc .char (3 : Int32) [(.int u0), (.int u1), (.int u2)] (.int 0)) (l0 : ¬ 255 < u0) (m1 : 255 < u1) (r_u0 : C16 u0) (r_u1 : C16 u1) (r_u2 : C16 u2) : OMet l Z [] (⟨"java/lang/String", "<init>", "([C)V"⟩ : MethodName) jdk_42_method_3_code 2 none R72 #[(.ref a), (.ref ca)] h0 n0 (Q72 Z a ca kc cs u0 u1 u2 h0) := by
  refine OMet.of (own := "java/lang/String") rfl (plainFor_of_name pn_1) (ef72 a ca) Z0 ?_
  intro p e s m below meth c T0 Y0 hnm
  refine Gl.aloadN Y0 rfl rfl dJ_0 rfl ?_
  refine Gl.aloadN Y0 rfl rfl dJ_1 rfl ?_
  refine Gl.iconst Y0 (v := (0 : Int32)) (by decide) dJ_2 rfl ?_
  refine Gl.aloadN Y0 rfl rfl dJ_3 rfl ?_
  refine Gl.arraylength Y0 Vc dJ_4 rfl ?_
  refine Gl.aconstNull Y0 dJ_5 rfl ?_
  refine Gl.callN Y0 rfl (tw_12 hw) (tw_13 hw) (tw_8 hw) (tw_15 hw) (by decide) (rm71 l Z a0 hw a ca kc cs u0 u1 u2 h0 n0 Y0.sz O S (hcs) SA SH SL E F1 F2 ga nca Vc (l0) (m1) (r_u0) (r_u1) (r_u2)) (a := a) (argsL := [(.ref ca), (.int 0), (.int 3), .null]) (rest := []) rfl rfl (lenOf pd_7 rfl) rfl (by decide) (nle rfl) (by decide) (by decide) dJ_6 rfl (fun v6 T6 h6 Y6 q6 => ?_)
  obtain ⟨b6, kb6, rfl, K6, f6_0, f6_1, f6_2, f6_3, f6_4⟩ := q6
  have Y6_sz : n0 ≤ h0.size := Y0.sz
  have KK6 : Keep h0 h6 [a] := (Keep.refl h0 [a]).trans K6 (allS (Or.inl (List.mem_of_getElem? (i := 0) rfl)) all0)
  have zb6 : h0.size ≤ b6 := Nat.le_trans (Keep.refl h0 [a]).1 f6_0
  show Gl p e below _ (T6.setTop (mkF m 9 _ []))
  exact Gl.retV Y6 (by decide) (by decide)  dJ_9 ⟨b6, kb6, rfl, KK6, zb6, f6_1, f6_2, (by first | exact f6_3 | (subst_vars; exact f6_3) | (rw [PF]; exact f6_3)), f6_4⟩
def R73 : Room := { frames := 3, cells := 2, slots := 9, locals := 40 }
def Q73 (Z : State) (ca : Addr) (kc : ClassId) (u0 u1 u2 : Int32) (h0 : Heap) (v : Option Value) (h : Heap) : Prop := ∃ b : Addr, ∃ kb : ClassId, v = some (.ref b) ∧ Keep h0 h [] ∧ h0.size ≤ b ∧ Arv Z h b kb .byte (6 : Int32) [(.int (uL u0)), (.int (uH u0)), (.int (uL u1)), (.int (uH u1)), (.int (uL u2)), (.int (uH u2))] (.int 0)
theorem ef73 (ca : Addr) (m : MethodId) : entryFrame m #[(.ref ca), (.int 0), (.int 3)] 6 = mkF m 0 #[.val (.ref ca), .val (.int 0), .val (.int 3), .unset, .unset, .unset] [] := by first | (simp [entryFrame, mkF, argsToLocals, Value.category]; done) | rfl
theorem rm73 (hw : HW a0 Z) (ca : Addr) (kc : ClassId) (u0 u1 u2 : Int32) (h0 : Heap) (n0 : Nat) (Z0 : n0 ≤ h0.size) (O : Old Z n0 h0) (SA : uA Z) (SH : uS Z) (SL : uT Z) (Vc : Arv Z h0 ca kc .char (3 : Int32) [(.int u0), (.int u1), (.int u2)] (.int 0)) (l0 : ¬ 255 < u0) (l1 : ¬ 255 < u1) (m2 : 255 < u2) (r_u0 : C16 u0) (r_u1 : C16 u1) (r_u2 : C16 u2) : OMet l Z [] (⟨"java/lang/StringUTF16", "compress", "([CII)[B"⟩ : MethodName) jdk_52_method_16_code 6 (some (.array .byte)) R73 #[(.ref ca), (.int 0), (.int 3)] h0 n0 (Q73 Z ca kc u0 u1 u2 h0) := by
  refine OMet.of (own := "java/lang/StringUTF16") rfl (plainFor_of_name pn_0) (ef73 ca) Z0 ?_
  intro p e s m below meth c T0 Y0 hnm
  refine Gl.iloadN Y0 rfl dH_0 rfl ?_
  refine Gl.newP Y0 3 (ty := .byte) rfl (tw_20 hw) (by decide) (by decide) (nle rfl) (nle rfl) (nle rfl) dH_1 rfl (fun T1 h1 b1 ck1 Y1 E1 g1 sb1 V1 => ?_)
  have V1 : Arv Z h1 b1 ck1 .byte (3 : Int32) [(.int 0), (.int 0), (.int 0)] (.int 0) := V1.pad (pad_rep [] (.int 0) 3)
  have zb1 : h0.size ≤ b1 := Nat.le_trans (Keep.refl h0 []).1 (Nat.le_of_eq g1.symm)
  have K1 : Keep h0 h1 [] := (Keep.refl h0 []).ext E1
  show Gl p e below _ (T1.setTop (mkF m 3 _ [(.ref b1)]))
  refine Gl.astoreN Y1 rfl (L' := #[.val (.ref ca), .val (.int 0), .val (.int 3), .val (.ref b1), .unset, .unset]) rfl dH_3 rfl ?_
  refine Gl.aloadN Y1 rfl rfl dH_4 rfl ?_
  refine Gl.iloadN Y1 rfl dH_5 rfl ?_
  refine Gl.aloadN Y1 rfl rfl dH_6 rfl ?_
  refine Gl.iconst Y1 (v := (0 : Int32)) (by decide) dH_7 rfl ?_
  refine Gl.iloadN Y1 rfl dH_8 rfl ?_
  have f1 := (Vc.ext E1)
  refine Gl.callS Y1 (tw_46 hw) (tw_47 hw) (tw_44 hw) (tw_48 hw) (by decide) (rm7 l Z a0 hw ca b1 kc ck1 u0 u1 u2 h1 n0 Y1.sz f1 V1 sb1 (Nat.ne_of_lt (Nat.lt_of_lt_of_eq Vc.lt g1.symm)) (l0) (l1) (m2)) (argsL := [(.ref ca), (.int 0), (.ref b1), (.int 0), (.int 3)]) (rest := []) rfl rfl (lenOf pd_3 rfl) rfl (by decide) (nle rfl) (by decide) (by decide) dH_9 rfl (fun v9 T9 h9 Y9 q9 => ?_)
  obtain ⟨rfl, K9, f9_0⟩ := q9
  have KK9 : Keep h0 h9 [] := K1.trans K9 (allS (Or.inr zb1) all0)
  show Gl p e below _ (T9.setTop (mkF m 12 _ [(.int 2)]))
  refine Gl.istore Y9 (L' := #[.val (.ref ca), .val (.int 0), .val (.int 3), .val (.ref b1), .val (.int 2), .unset]) rfl dH_12 rfl ?_
  refine Gl.iload Y9 rfl dH_14 rfl ?_
  refine Gl.iloadN Y9 rfl dH_16 rfl ?_
  refine Gl.icmpeq Y9 dH_17 (by decide) rfl rfl (fun c17 => ?_) (fun c17 => ?_)
  · exact absurd c17 (by decide)
  refine Gl.aloadN Y9 rfl rfl dH_20 rfl ?_
  refine Gl.iloadN Y9 rfl dH_21 rfl ?_
  refine Gl.iloadN Y9 rfl dH_22 rfl ?_
  have f2 := ((O.ext E1).keep K9 (allS sb1 all0))
  have f3 := (f1.keep K9 (ninS (Nat.ne_of_lt (Nat.lt_of_lt_of_eq Vc.lt g1.symm)) nin0))
  refine Gl.callS Y9 (tw_74 hw) (tw_75 hw) (tw_44 hw) (tw_76 hw) (by decide) (rm34 l Z a0 hw ca kc u0 u1 u2 h9 n0 Y9.sz f2 SA SH SL f3) (argsL := [(.ref ca), (.int 0), (.int 3)]) (rest := []) rfl rfl (lenOf pd_4 rfl) rfl (by decide) (nle rfl) (by decide) (by decide) dH_23 rfl (fun v23 T23 h23 Y23 q23 => ?_)
  obtain ⟨b23, kb23, rfl, K23, f23_0, f23_1⟩ := q23
  have Y23_sz : n0 ≤ h9.size := Y9.sz
  have KK23 : Keep h0 h23 [] := KK9.trans K23 all0
  have zb23 : h0.size ≤ b23 := Nat.le_trans KK9.1 f23_0
  show Gl p e below _ (T23.setTop (mkF m 26 _ [(.ref b23)]))
  refine Gl.astore Y23 rfl (L' := #[.val (.ref ca), .val (.int 0), .val (.int 3), .val (.ref b1), .val (.int 2), .val (.ref b23)]) rfl dH_26 rfl ?_
  refine Gl.aload Y23 rfl rfl dH_28 rfl ?_
  refine Gl.iload Y23 rfl dH_30 rfl ?_
  have f4 := (f2.keep K23 all0)
  refine Gl.callS Y23 (tw_90 hw) (tw_91 hw) (tw_44 hw) (tw_92 hw) (by decide) (rm33 l Z a0 hw b23 kb23 u0 u1 u2 h23 n0 Y23.sz f4 SA SH SL f23_1 (r_u0) (r_u1) (r_u2)) (argsL := [(.ref b23), (.int 2)]) (rest := []) rfl rfl (lenOf pd_5 rfl) rfl (by decide) (nle rfl) (by decide) (by decide) dH_32 rfl (fun v32 T32 h32 Y32 q32 => ?_)
  obtain ⟨rfl, rfl⟩ := q32
  show Gl p e below _ (T32.setTop (mkF m 35 _ [(.int u2)]))
  refine Gl.sipush Y32 (v := (255 : Int32)) (by decide) dH_35 rfl ?_
  refine Gl.icmpgt Y32 dH_38 (by decide) rfl rfl (fun c38 => ?_) (fun c38 => ?_)
  rotate_left
  · exact absurd m2 c38
  refine Gl.aload Y32 rfl rfl dH_54 rfl ?_
  exact Gl.retA Y32 (by decide) (by decide) rfl rfl dH_56 ⟨b23, kb23, rfl, KK23, zb23, f23_1⟩
def R74 : Room := { frames := 4, cells := 2, slots := 9, locals := 57 }
def Q74 (Z : State) (a ca : Addr) (kc : ClassId) (cs u0 u1 u2 : Int32) (h0 : Heap) (v : Option Value) (h : Heap) : Prop := ∃ b : Addr, ∃ kb : ClassId, v = none ∧ Keep h0 h [a] ∧ h0.size ≤ b ∧ Exa Z h a "java/lang/String" ∧ Fld Z h a "java/lang/String" "coder" "B" (.int 1) ∧ Fld Z h a "java/lang/String" "value" "[B" (.ref b) ∧ Arv Z h b kb .byte (6 : Int32) [(.int (uL u0)), (.int (uH u0)), (.int (uL u1)), (.int (uH u1)), (.int (uL u2)), (.int (uH u2))] (.int 0)
theorem ef74 (a ca : Addr) (m : MethodId) : entryFrame m #[(.ref a), (.ref ca), (.int 0), (.int 3), .null] 6 = mkF m 0 #[.val (.ref a), .val (.ref ca), .val (.int 0), .val (.int 3), .val .null, .unset] [] := by first | (simp [entryFrame, mkF, argsToLocals, Value.category]; done) | rfl
theorem rm74 (hw : HW a0 Z) (a ca : Addr) (kc : ClassId) (cs u0 u1 u2 : Int32) (h0 : Heap) (n0 : Nat) (Z0 : n0 ≤ h0.size) (O : Old Z n0 h0) (S : uC Z cs) (hcs : ¬ cs = 0) (SA : uA Z) (SH : uS Z) (SL : uT Z) (E : Exa Z h0 a "java/lang/String") (F1 : Fld Z h0 a "java/lang/String" "value" "[B" .null) (F2 : Fld Z h0 a "java/lang/String" "coder" "B" (.int 0)) (ga : n0 ≤ a) (nca : own_ne ca a) (Vc : Arv Z h0 ca kc .char (3 : Int32) [(.int u0), (.int u1), (.int u2)] (.int 0)) (l0 : ¬ 255 < u0) (l1 : ¬ 255 < u1) (m2 : 255 < u2) (r_u0 : C16 u0) (r_u1 : C16 u1) (r_u2 : C16 u2) : OMet l Z [] (⟨"java/lang/String", "<init>", "([CIILjava/lang/Void;)V"⟩ : MethodName) jdk_42_method_149_code 6 none R74 #[(.ref a), (.ref ca), (.int 0), (.int 3), .null] h0 n0 (Q74 Z a ca kc cs u0 u1 u2 h0) := by
  refine OMet.of (own := "java/lang/String") rfl (plainFor_of_name pn_1) (ef74 a ca) Z0 ?_
  intro p e s m below meth c T0 Y0 hnm
  refine Gl.aloadN Y0 rfl rfl dI_0 rfl ?_
  refine Gl.initO Y0 (tw_16 hw) (tw_17 hw) (tw_18 hw) rfl (by decide) (nle rfl) dI_1 rfl (fun T1 Y1 => ?_)
  refine Gl.iloadN Y1 rfl dI_4 rfl ?_
  refine Gl.ifne Y1 dI_5 (by decide) rfl rfl (fun c5 => ?_) (fun c5 => ?_)
  rotate_left
  · exact absurd c5 (by decide)
  refine Gl.getS Y1 (host := "") (Or.inl (tw_41 hw)) Via.refl (Sta.ext O.2 S) dI_27 rfl (fun T27 Y27 => ?_)
  refine Gl.ifeq Y27 dI_30 (by decide) rfl rfl (fun c30 => ?_) (fun c30 => ?_)
  · exact absurd c30 hcs
  refine Gl.aloadN Y27 rfl rfl dI_33 rfl ?_
  refine Gl.iloadN Y27 rfl dI_34 rfl ?_
  refine Gl.iloadN Y27 rfl dI_35 rfl ?_
  refine Gl.callS Y27 (tw_42 hw) (tw_43 hw) (tw_44 hw) (tw_45 hw) (by decide) (rm73 l Z a0 hw ca kc u0 u1 u2 h0 n0 Y27.sz O SA SH SL Vc (l0) (l1) (m2) (r_u0) (r_u1) (r_u2)) (argsL := [(.ref ca), (.int 0), (.int 3)]) (rest := []) rfl rfl (lenOf pd_4 rfl) rfl (by decide) (nle rfl) (by decide) (by decide) dI_36 rfl (fun v36 T36 h36 Y36 q36 => ?_)
  obtain ⟨b36, kb36, rfl, K36, f36_0, f36_1⟩ := q36
  have Y36_sz : n0 ≤ h0.size := Y27.sz
  have KK36 : Keep h0 h36 [a] := (Keep.refl h0 [a]).trans K36 all0
  have zb36 : h0.size ≤ b36 := Nat.le_trans (Keep.refl h0 [a]).1 f36_0
  show Gl p e below _ (T36.setTop (mkF m 39 _ [(.ref b36)]))
  refine Gl.astore Y36 rfl (L' := #[.val (.ref a), .val (.ref ca), .val (.int 0), .val (.int 3), .val .null, .val (.ref b36)]) rfl dI_39 rfl ?_
  refine Gl.aloadN Y36 rfl rfl dI_41 rfl ?_
  refine Gl.aload Y36 rfl rfl dI_42 rfl ?_
  refine Gl.iloadN Y36 rfl dI_44 rfl ?_
  refine Gl.callS Y36 (tw_49 hw) (tw_50 hw) (tw_44 hw) (tw_51 hw) (by decide) (rm66 l Z a0 hw b36 kb36 u0 u1 u2 h36 n0 Y36.sz f36_1) (argsL := [(.ref b36), (.int 3)]) (rest := [(.ref a)]) rfl rfl (lenOf pd_6 rfl) rfl (by decide) (nle rfl) (by decide) (by decide) dI_45 rfl (fun v45 T45 h45 Y45 q45 => ?_)
  obtain ⟨rfl, rfl⟩ := q45
  show Gl p e below _ (T45.setTop (mkF m 48 _ [(.int 1), (.ref a)]))
  have f1 := (F2.keep K36 nin0)
  have f2 := (E.keep K36)
  refine Gl.putFN Y45 (tw_26 hw) Via.refl f1 f2 (Or.inr ⟨(tw_22 hw), rfl, hnm⟩) (tw_7 hw) ga (ty := .byte) (by decide) (v' := (.int 1)) (by decide) (by decide) dI_48 rfl (fun T48 h48 Y48 W48 => ?_)
  have f3 : Fld Z h48 a "java/lang/String" "coder" "B" (.int 1) := Fld.same W48 f1
  have K48 : Keep h0 h48 [a] := KK36.wr W48 (Or.inl (List.mem_of_getElem? (i := 0) rfl))
  refine Gl.aloadN Y48 rfl rfl dI_51 rfl ?_
  refine Gl.aload Y48 rfl rfl dI_52 rfl ?_
  have f4 := (Fld.other W48 (F1.keep K36 nin0) (Or.inr (slot_ne (Or.inr (tw_21 hw)) (Or.inr (tw_22 hw)) (by decide) (t := (.array .byte)) (t' := .byte) (by decide) (by decide))))
  have f5 := (Exa.wr W48 f2)
  refine Gl.putF Y48 (host := "") (Or.inl (tw_25 hw)) Via.refl f4 f5 (Or.inr ⟨(tw_21 hw), rfl, hnm⟩) (tw_7 hw) ga (ty := (.array .byte)) (by decide) rfl rfl dI_54 rfl (fun T54 h54 Y54 W54 => ?_)
  have f6 : Fld Z h54 a "java/lang/String" "value" "[B" (.ref b36) := Fld.same W54 f4
  have K54 : Keep h0 h54 [a] := K48.wr W54 (Or.inl (List.mem_of_getElem? (i := 0) rfl))
  have f7 := (Exa.wr W54 f5)
  have f8 := (Fld.other W54 f3 (Or.inr (slot_ne (Or.inr (tw_22 hw)) (Or.inr (tw_21 hw)) (by decide) (t := .byte) (t' := (.array .byte)) (by decide) (by decide))))
  have f9 := ((f36_1.other W48 (Ne.symm (Nat.ne_of_lt (Nat.lt_of_lt_of_le E.lt f36_0)))).other W54 (Ne.symm (Nat.ne_of_lt (Nat.lt_of_lt_of_le E.lt f36_0))))
  exact Gl.retV Y54 (by decide) (by decide)  dI_57 ⟨b36, kb36, rfl, K54, zb36, f7, f8, (by first | exact f6 | (subst_vars; exact f6) | (rw [PF]; exact f6)), f9⟩
def R75 : Room := { frames := 5, cells := 2, slots := 9, locals := 74 }
def Q75 (Z : State) (a ca : Addr) (kc : ClassId) (cs u0 u1 u2 : Int32) (h0 : Heap) (v : Option Value) (h : Heap) : Prop := ∃ b : Addr, ∃ kb : ClassId, v = none ∧ Keep h0 h [a] ∧ h0.size ≤ b ∧ Exa Z h a "java/lang/String" ∧ Fld Z h a "java/lang/String" "coder" "B" (.int 1) ∧ Fld Z h a "java/lang/String" "value" "[B" (.ref b) ∧ Arv Z h b kb .byte (6 : Int32) [(.int (uL u0)), (.int (uH u0)), (.int (uL u1)), (.int (uH u1)), (.int (uL u2)), (.int (uH u2))] (.int 0)
theorem ef75 (a ca : Addr) (m : MethodId) : entryFrame m #[(.ref a), (.ref ca)] 2 = mkF m 0 #[.val (.ref a), .val (.ref ca)] [] := by first | (simp [entryFrame, mkF, argsToLocals, Value.category]; done) | rfl
theorem rm75 (hw : HW a0 Z) (a ca : Addr) (kc : ClassId) (cs u0 u1 u2 : Int32) (h0 : Heap) (n0 : Nat) (Z0 : n0 ≤ h0.size) (O : Old Z n0 h0) (S : uC Z cs) (hcs : ¬ cs = 0) (SA : uA Z) (SH : uS Z) (SL : uT Z) (E : Exa Z h0 a "java/lang/String") (F1 : Fld Z h0 a "java/lang/String" "value" "[B" .null) (F2 : Fld Z h0 a "java/lang/String" "coder" "B" (.int 0)) (ga : n0 ≤ a) (nca : own_ne ca a) (Vc : Arv Z h0 ca kc .char (3 : Int32) [(.int u0), (.int u1), (.int u2)] (.int 0)) (l0 : ¬ 255 < u0) (l1 : ¬ 255 < u1) (m2 : 255 < u2) (r_u0 : C16 u0) (r_u1 : C16 u1) (r_u2 : C16 u2) : OMet l Z [] (⟨"java/lang/String", "<init>", "([C)V"⟩ : MethodName) jdk_42_method_3_code 2 none R75 #[(.ref a), (.ref ca)] h0 n0 (Q75 Z a ca kc cs u0 u1 u2 h0) := by
  refine OMet.of (own := "java/lang/String") rfl (plainFor_of_name pn_1) (ef75 a ca) Z0 ?_
  intro p e s m below meth c T0 Y0 hnm
  refine Gl.aloadN Y0 rfl rfl dJ_0 rfl ?_
  refine Gl.aloadN Y0 rfl rfl dJ_1 rfl ?_
  refine Gl.iconst Y0 (v := (0 : Int32)) (by decide) dJ_2 rfl ?_
  refine Gl.aloadN Y0 rfl rfl dJ_3 rfl ?_
  refine Gl.arraylength Y0 Vc dJ_4 rfl ?_
  refine Gl.aconstNull Y0 dJ_5 rfl ?_
  refine Gl.callN Y0 rfl (tw_12 hw) (tw_13 hw) (tw_8 hw) (tw_15 hw) (by decide) (rm74 l Z a0 hw a ca kc cs u0 u1 u2 h0 n0 Y0.sz O S (hcs) SA SH SL E F1 F2 ga nca Vc (l0) (l1) (m2) (r_u0) (r_u1) (r_u2)) (a := a) (argsL := [(.ref ca), (.int 0), (.int 3), .null]) (rest := []) rfl rfl (lenOf pd_7 rfl) rfl (by decide) (nle rfl) (by decide) (by decide) dJ_6 rfl (fun v6 T6 h6 Y6 q6 => ?_)
  obtain ⟨b6, kb6, rfl, K6, f6_0, f6_1, f6_2, f6_3, f6_4⟩ := q6
  have Y6_sz : n0 ≤ h0.size := Y0.sz
  have KK6 : Keep h0 h6 [a] := (Keep.refl h0 [a]).trans K6 (allS (Or.inl (List.mem_of_getElem? (i := 0) rfl)) all0)
  have zb6 : h0.size ≤ b6 := Nat.le_trans (Keep.refl h0 [a]).1 f6_0
  show Gl p e below _ (T6.setTop (mkF m 9 _ []))
  exact Gl.retV Y6 (by decide) (by decide)  dJ_9 ⟨b6, kb6, rfl, KK6, zb6, f6_1, f6_2, (by first | exact f6_3 | (subst_vars; exact f6_3) | (rw [PF]; exact f6_3)), f6_4⟩
def R76 : Room := { frames := 1, cells := 1, slots := 3, locals := 18 }
def Q76 (Z : State) (ca : Addr) (kc : ClassId) (u0 u1 u2 : Int32) (h0 : Heap) (v : Option Value) (h : Heap) : Prop := ∃ b : Addr, ∃ kb : ClassId, v = some (.ref b) ∧ Keep h0 h [] ∧ h0.size ≤ b ∧ Arv Z h b kb .byte (3 : Int32) [(.int (bL u0)), (.int (bL u1)), (.int (bL u2))] (.int 0)
theorem ef76 (ca : Addr) (m : MethodId) : entryFrame m #[(.ref ca), (.int 0), (.int 3)] 6 = mkF m 0 #[.val (.ref ca), .val (.int 0), .val (.int 3), .unset, .unset, .unset] [] := by first | (simp [entryFrame, mkF, argsToLocals, Value.category]; done) | rfl
theorem rm76 (hw : HW a0 Z) (ca : Addr) (kc : ClassId) (u0 u1 u2 : Int32) (h0 : Heap) (n0 : Nat) (Z0 : n0 ≤ h0.size) (O : Old Z n0 h0) (SA : uA Z) (SH : uS Z) (SL : uT Z) (Vc : Arv Z h0 ca kc .char (3 : Int32) [(.int u0), (.int u1), (.int u2)] (.int 0)) (l0 : ¬ 255 < u0) (l1 : ¬ 255 < u1) (l2 : ¬ 255 < u2) (r_u0 : C16 u0) (r_u1 : C16 u1) (r_u2 : C16 u2) : OMet l Z [] (⟨"java/lang/StringUTF16", "compress", "([CII)[B"⟩ : MethodName) jdk_52_method_16_code 6 (some (.array .byte)) R76 #[(.ref ca), (.int 0), (.int 3)] h0 n0 (Q76 Z ca kc u0 u1 u2 h0) := by
  refine OMet.of (own := "java/lang/StringUTF16") rfl (plainFor_of_name pn_0) (ef76 ca) Z0 ?_
  intro p e s m below meth c T0 Y0 hnm
  refine Gl.iloadN Y0 rfl dH_0 rfl ?_
  refine Gl.newP Y0 3 (ty := .byte) rfl (tw_20 hw) (by decide) (by decide) (nle rfl) (nle rfl) (nle rfl) dH_1 rfl (fun T1 h1 b1 ck1 Y1 E1 g1 sb1 V1 => ?_)
  have V1 : Arv Z h1 b1 ck1 .byte (3 : Int32) [(.int 0), (.int 0), (.int 0)] (.int 0) := V1.pad (pad_rep [] (.int 0) 3)
  have zb1 : h0.size ≤ b1 := Nat.le_trans (Keep.refl h0 []).1 (Nat.le_of_eq g1.symm)
  have K1 : Keep h0 h1 [] := (Keep.refl h0 []).ext E1
  show Gl p e below _ (T1.setTop (mkF m 3 _ [(.ref b1)]))
  refine Gl.astoreN Y1 rfl (L' := #[.val (.ref ca), .val (.int 0), .val (.int 3), .val (.ref b1), .unset, .unset]) rfl dH_3 rfl ?_
  refine Gl.aloadN Y1 rfl rfl dH_4 rfl ?_
  refine Gl.iloadN Y1 rfl dH_5 rfl ?_
  refine Gl.aloadN Y1 rfl rfl dH_6 rfl ?_
  refine Gl.iconst Y1 (v := (0 : Int32)) (by decide) dH_7 rfl ?_
  refine Gl.iloadN Y1 rfl dH_8 rfl ?_
  have f1 := (Vc.ext E1)
  refine Gl.callS Y1 (tw_46 hw) (tw_47 hw) (tw_44 hw) (tw_48 hw) (by decide) (rm8 l Z a0 hw ca b1 kc ck1 u0 u1 u2 h1 n0 Y1.sz f1 V1 sb1 (Nat.ne_of_lt (Nat.lt_of_lt_of_eq Vc.lt g1.symm)) (l0) (l1) (l2)) (argsL := [(.ref ca), (.int 0), (.ref b1), (.int 0), (.int 3)]) (rest := []) rfl rfl (lenOf pd_3 rfl) rfl (by decide) (nle rfl) (by decide) (by decide) dH_9 rfl (fun v9 T9 h9 Y9 q9 => ?_)
  obtain ⟨rfl, K9, f9_0⟩ := q9
  have KK9 : Keep h0 h9 [] := K1.trans K9 (allS (Or.inr zb1) all0)
  show Gl p e below _ (T9.setTop (mkF m 12 _ [(.int 3)]))
  refine Gl.istore Y9 (L' := #[.val (.ref ca), .val (.int 0), .val (.int 3), .val (.ref b1), .val (.int 3), .unset]) rfl dH_12 rfl ?_
  refine Gl.iload Y9 rfl dH_14 rfl ?_
  refine Gl.iloadN Y9 rfl dH_16 rfl ?_
  refine Gl.icmpeq Y9 dH_17 (by decide) rfl rfl (fun c17 => ?_) (fun c17 => ?_)
  rotate_left
  · exact absurd c17 (by decide)
  refine Gl.aloadN Y9 rfl rfl dH_57 rfl ?_
  exact Gl.retA Y9 (by decide) (by decide) rfl rfl dH_58 ⟨b1, ck1, rfl, KK9, zb1, f9_0⟩
def R77 : Room := { frames := 2, cells := 1, slots := 3, locals := 35 }
def Q77 (Z : State) (a ca : Addr) (kc : ClassId) (cs u0 u1 u2 : Int32) (h0 : Heap) (v : Option Value) (h : Heap) : Prop := ∃ b : Addr, ∃ kb : ClassId, v = none ∧ Keep h0 h [a] ∧ h0.size ≤ b ∧ Exa Z h a "java/lang/String" ∧ Fld Z h a "java/lang/String" "coder" "B" (.int 0) ∧ Fld Z h a "java/lang/String" "value" "[B" (.ref b) ∧ Arv Z h b kb .byte (3 : Int32) [(.int (bL u0)), (.int (bL u1)), (.int (bL u2))] (.int 0)
theorem ef77 (a ca : Addr) (m : MethodId) : entryFrame m #[(.ref a), (.ref ca), (.int 0), (.int 3), .null] 6 = mkF m 0 #[.val (.ref a), .val (.ref ca), .val (.int 0), .val (.int 3), .val .null, .unset] [] := by first | (simp [entryFrame, mkF, argsToLocals, Value.category]; done) | rfl
theorem rm77 (hw : HW a0 Z) (a ca : Addr) (kc : ClassId) (cs u0 u1 u2 : Int32) (h0 : Heap) (n0 : Nat) (Z0 : n0 ≤ h0.size) (O : Old Z n0 h0) (S : uC Z cs) (hcs : ¬ cs = 0) (SA : uA Z) (SH : uS Z) (SL : uT Z) (E : Exa Z h0 a "java/lang/String") (F1 : Fld Z h0 a "java/lang/String" "value" "[B" .null) (F2 : Fld Z h0 a "java/lang/String" "coder" "B" (.int 0)) (ga : n0 ≤ a) (nca : own_ne ca a) (Vc : Arv Z h0 ca kc .char (3 : Int32) [(.int u0), (.int u1), (.int u2)] (.int 0)) (l0 : ¬ 255 < u0) (l1 : ¬ 255 < u1) (l2 : ¬ 255 < u2) (r_u0 : C16 u0) (r_u1 : C16 u1) (r_u2 : C16 u2) : OMet l Z [] (⟨"java/lang/String", "<init>", "([CIILjava/lang/Void;)V"⟩ : MethodName) jdk_42_method_149_code 6 none R77 #[(.ref a), (.ref ca), (.int 0), (.int 3), .null] h0 n0 (Q77 Z a ca kc cs u0 u1 u2 h0) := by
  refine OMet.of (own := "java/lang/String") rfl (plainFor_of_name pn_1) (ef77 a ca) Z0 ?_
  intro p e s m below meth c T0 Y0 hnm
  refine Gl.aloadN Y0 rfl rfl dI_0 rfl ?_
  refine Gl.initO Y0 (tw_16 hw) (tw_17 hw) (tw_18 hw) rfl (by decide) (nle rfl) dI_1 rfl (fun T1 Y1 => ?_)
  refine Gl.iloadN Y1 rfl dI_4 rfl ?_
  refine Gl.ifne Y1 dI_5 (by decide) rfl rfl (fun c5 => ?_) (fun c5 => ?_)
  rotate_left
  · exact absurd c5 (by decide)
  refine Gl.getS Y1 (host := "") (Or.inl (tw_41 hw)) Via.refl (Sta.ext O.2 S) dI_27 rfl (fun T27 Y27 => ?_)
  refine Gl.ifeq Y27 dI_30 (by decide) rfl rfl (fun c30 => ?_) (fun c30 => ?_)
  · exact absurd c30 hcs
  refine Gl.aloadN Y27 rfl rfl dI_33 rfl ?_
  refine Gl.iloadN Y27 rfl dI_34 rfl ?_
  refine Gl.iloadN Y27 rfl dI_35 rfl ?_
  refine Gl.callS Y27 (tw_42 hw) (tw_43 hw) (tw_44 hw) (tw_45 hw) (by decide) (rm76 l Z a0 hw ca kc u0 u1 u2 h0 n0 Y27.sz O SA SH SL Vc (l0) (l1) (l2) (r_u0) (r_u1) (r_u2)) (argsL := [(.ref ca), (.int 0), (.int 3)]) (rest := []) rfl rfl (lenOf pd_4 rfl) rfl (by decide) (nle rfl) (by decide) (by decide) dI_36 rfl (fun v36 T36 h36 Y36 q36 => ?_)
  obtain ⟨b36, kb36, rfl, K36, f36_0, f36_1⟩ := q36
  have Y36_sz : n0 ≤ h0.size := Y27.sz
  have KK36 : Keep h0 h36 [a] := (Keep.refl h0 [a]).trans K36 all0
  have zb36 : h0.size ≤ b36 := Nat.le_trans (Keep.refl h0 [a]).1 f36_0
  show Gl p e below _ (T36.setTop (mkF m 39 _ [(.ref b36)]))
  refine Gl.astore Y36 rfl (L' := #[.val (.ref a), .val (.ref ca), .val (.int 0), .val (.int 3), .val .null, .val (.ref b36)]) rfl dI_39 rfl ?_
  refine Gl.aloadN Y36 rfl rfl dI_41 rfl ?_
  refine Gl.aload Y36 rfl rfl dI_42 rfl ?_
  refine Gl.iloadN Y36 rfl dI_44 rfl ?_
  refine Gl.callS Y36 (tw_49 hw) (tw_50 hw) (tw_44 hw) (tw_51 hw) (by decide) (rm65 l Z a0 hw b36 kb36 u0 u1 u2 h36 n0 Y36.sz f36_1) (argsL := [(.ref b36), (.int 3)]) (rest := [(.ref a)]) rfl rfl (lenOf pd_6 rfl) rfl (by decide) (nle rfl) (by decide) (by decide) dI_45 rfl (fun v45 T45 h45 Y45 q45 => ?_)
  obtain ⟨rfl, rfl⟩ := q45
  show Gl p e below _ (T45.setTop (mkF m 48 _ [(.int 0), (.ref a)]))
  have f1 := (F2.keep K36 nin0)
  have f2 := (E.keep K36)
  refine Gl.putFN Y45 (tw_26 hw) Via.refl f1 f2 (Or.inr ⟨(tw_22 hw), rfl, hnm⟩) (tw_7 hw) ga (ty := .byte) (by decide) (v' := (.int 0)) (by decide) (by decide) dI_48 rfl (fun T48 h48 Y48 W48 => ?_)
  have f3 : Fld Z h48 a "java/lang/String" "coder" "B" (.int 0) := Fld.same W48 f1
  have K48 : Keep h0 h48 [a] := KK36.wr W48 (Or.inl (List.mem_of_getElem? (i := 0) rfl))
  refine Gl.aloadN Y48 rfl rfl dI_51 rfl ?_
  refine Gl.aload Y48 rfl rfl dI_52 rfl ?_
  have f4 := (Fld.other W48 (F1.keep K36 nin0) (Or.inr (slot_ne (Or.inr (tw_21 hw)) (Or.inr (tw_22 hw)) (by decide) (t := (.array .byte)) (t' := .byte) (by decide) (by decide))))
  have f5 := (Exa.wr W48 f2)
  refine Gl.putF Y48 (host := "") (Or.inl (tw_25 hw)) Via.refl f4 f5 (Or.inr ⟨(tw_21 hw), rfl, hnm⟩) (tw_7 hw) ga (ty := (.array .byte)) (by decide) rfl rfl dI_54 rfl (fun T54 h54 Y54 W54 => ?_)
  have f6 : Fld Z h54 a "java/lang/String" "value" "[B" (.ref b36) := Fld.same W54 f4
  have K54 : Keep h0 h54 [a] := K48.wr W54 (Or.inl (List.mem_of_getElem? (i := 0) rfl))
  have f7 := (Exa.wr W54 f5)
  have f8 := (Fld.other W54 f3 (Or.inr (slot_ne (Or.inr (tw_22 hw)) (Or.inr (tw_21 hw)) (by decide) (t := .byte) (t' := (.array .byte)) (by decide) (by decide))))
  have f9 := ((f36_1.other W48 (Ne.symm (Nat.ne_of_lt (Nat.lt_of_lt_of_le E.lt f36_0)))).other W54 (Ne.symm (Nat.ne_of_lt (Nat.lt_of_lt_of_le E.lt f36_0))))
  exact Gl.retV Y54 (by decide) (by decide)  dI_57 ⟨b36, kb36, rfl, K54, zb36, f7, f8, (by first | exact f6 | (subst_vars; exact f6) | (rw [PF]; exact f6)), f9⟩
def R78 : Room := { frames := 3, cells := 1, slots := 3, locals := 52 }
def Q78 (Z : State) (a ca : Addr) (kc : ClassId) (cs u0 u1 u2 : Int32) (h0 : Heap) (v : Option Value) (h : Heap) : Prop := ∃ b : Addr, ∃ kb : ClassId, v = none ∧ Keep h0 h [a] ∧ h0.size ≤ b ∧ Exa Z h a "java/lang/String" ∧ Fld Z h a "java/lang/String" "coder" "B" (.int 0) ∧ Fld Z h a "java/lang/String" "value" "[B" (.ref b) ∧ Arv Z h b kb .byte (3 : Int32) [(.int (bL u0)), (.int (bL u1)), (.int (bL u2))] (.int 0)
theorem ef78 (a ca : Addr) (m : MethodId) : entryFrame m #[(.ref a), (.ref ca)] 2 = mkF m 0 #[.val (.ref a), .val (.ref ca)] [] := by first | (simp [entryFrame, mkF, argsToLocals, Value.category]; done) | rfl
theorem rm78 (hw : HW a0 Z) (a ca : Addr) (kc : ClassId) (cs u0 u1 u2 : Int32) (h0 : Heap) (n0 : Nat) (Z0 : n0 ≤ h0.size) (O : Old Z n0 h0) (S : uC Z cs) (hcs : ¬ cs = 0) (SA : uA Z) (SH : uS Z) (SL : uT Z) (E : Exa Z h0 a "java/lang/String") (F1 : Fld Z h0 a "java/lang/String" "value" "[B" .null) (F2 : Fld Z h0 a "java/lang/String" "coder" "B" (.int 0)) (ga : n0 ≤ a) (nca : own_ne ca a) (Vc : Arv Z h0 ca kc .char (3 : Int32) [(.int u0), (.int u1), (.int u2)] (.int 0)) (l0 : ¬ 255 < u0) (l1 : ¬ 255 < u1) (l2 : ¬ 255 < u2) (r_u0 : C16 u0) (r_u1 : C16 u1) (r_u2 : C16 u2) : OMet l Z [] (⟨"java/lang/String", "<init>", "([C)V"⟩ : MethodName) jdk_42_method_3_code 2 none R78 #[(.ref a), (.ref ca)] h0 n0 (Q78 Z a ca kc cs u0 u1 u2 h0) := by
  refine OMet.of (own := "java/lang/String") rfl (plainFor_of_name pn_1) (ef78 a ca) Z0 ?_
  intro p e s m below meth c T0 Y0 hnm
  refine Gl.aloadN Y0 rfl rfl dJ_0 rfl ?_
  refine Gl.aloadN Y0 rfl rfl dJ_1 rfl ?_
  refine Gl.iconst Y0 (v := (0 : Int32)) (by decide) dJ_2 rfl ?_
  refine Gl.aloadN Y0 rfl rfl dJ_3 rfl ?_
  refine Gl.arraylength Y0 Vc dJ_4 rfl ?_
  refine Gl.aconstNull Y0 dJ_5 rfl ?_
  refine Gl.callN Y0 rfl (tw_12 hw) (tw_13 hw) (tw_8 hw) (tw_15 hw) (by decide) (rm77 l Z a0 hw a ca kc cs u0 u1 u2 h0 n0 Y0.sz O S (hcs) SA SH SL E F1 F2 ga nca Vc (l0) (l1) (l2) (r_u0) (r_u1) (r_u2)) (a := a) (argsL := [(.ref ca), (.int 0), (.int 3), .null]) (rest := []) rfl rfl (lenOf pd_7 rfl) rfl (by decide) (nle rfl) (by decide) (by decide) dJ_6 rfl (fun v6 T6 h6 Y6 q6 => ?_)
  obtain ⟨b6, kb6, rfl, K6, f6_0, f6_1, f6_2, f6_3, f6_4⟩ := q6
  have Y6_sz : n0 ≤ h0.size := Y0.sz
  have KK6 : Keep h0 h6 [a] := (Keep.refl h0 [a]).trans K6 (allS (Or.inl (List.mem_of_getElem? (i := 0) rfl)) all0)
  have zb6 : h0.size ≤ b6 := Nat.le_trans (Keep.refl h0 [a]).1 f6_0
  show Gl p e below _ (T6.setTop (mkF m 9 _ []))
  exact Gl.retV Y6 (by decide) (by decide)  dJ_9 ⟨b6, kb6, rfl, KK6, zb6, f6_1, f6_2, (by first | exact f6_3 | (subst_vars; exact f6_3) | (rw [PF]; exact f6_3)), f6_4⟩
def R79 : Room := { frames := 0, cells := 0, slots := 0, locals := 0 }
def Q79 (Z : State) (b : Addr) (kb : ClassId) (u0 u1 u2 u3 : Int32) (h0 : Heap) (v : Option Value) (h : Heap) : Prop := v = some (.int 0) ∧ h0 = h
theorem ef79 (b : Addr) (m : MethodId) : entryFrame m #[(.ref b), (.int 4)] 2 = mkF m 0 #[.val (.ref b), .val (.int 4)] [] := by first | (simp [entryFrame, mkF, argsToLocals, Value.category]; done) | rfl
theorem rm79 (hw : HW a0 Z) (b : Addr) (kb : ClassId) (u0 u1 u2 u3 : Int32) (h0 : Heap) (n0 : Nat) (Z0 : n0 ≤ h0.size) (Vb : Arv Z h0 b kb .byte (4 : Int32) [(.int (bL u0)), (.int (bL u1)), (.int (bL u2)), (.int (bL u3))] (.int 0)) : OMet l Z [] (⟨"java/lang/StringUTF16", "coderFromArrayLen", "([BI)B"⟩ : MethodName) jdk_52_method_15_code 2 (some .byte) R79 #[(.ref b), (.int 4)] h0 n0 (Q79 Z b kb u0 u1 u2 u3 h0) := by
  refine OMet.of (own := "java/lang/StringUTF16") rfl (plainFor_of_name pn_0) (ef79 b) Z0 ?_
  intro p e s m below meth c T0 Y0 hnm
  refine Gl.iloadN Y0 rfl dG_0 rfl ?_
  refine Gl.aloadN Y0 rfl rfl dG_1 rfl ?_
  refine Gl.arraylength Y0 Vb dG_2 rfl ?_
  refine Gl.isub Y0 (r := (0 : Int32)) (by decide) dG_3 rfl ?_
  refine Gl.bipush Y0 (v := (31 : Int32)) (by decide) dG_4 rfl ?_
  refine Gl.iushr Y0 (r := (0 : Int32)) (by decide) dG_6 rfl ?_
  refine Gl.i2b Y0 (r := (0 : Int32)) (by decide) dG_7 rfl ?_
  exact Gl.retB Y0 (by decide) (by decide) (x' := (0 : Int32)) (by decide) dG_8 ⟨rfl, rfl⟩
def R80 : Room := { frames := 0, cells := 0, slots := 0, locals := 0 }
def Q80 (Z : State) (b : Addr) (kb : ClassId) (u0 u1 u2 u3 : Int32) (h0 : Heap) (v : Option Value) (h : Heap) : Prop := v = some (.int 1) ∧ h0 = h
theorem ef80 (b : Addr) (m : MethodId) : entryFrame m #[(.ref b), (.int 4)] 2 = mkF m 0 #[.val (.ref b), .val (.int 4)] [] := by first | (simp [entryFrame, mkF, argsToLocals, Value.category]; done) | rfl
theorem rm80 (hw : HW a0 Z) (b : Addr) (kb : ClassId) (u0 u1 u2 u3 : Int32) (h0 : Heap) (n0 : Nat) (Z0 : n0 ≤ h0.size) (Vb : Arv Z h0 b kb .byte (8 : Int32) [(.int (uL u0)), (.int (uH u0)), (.int (uL u1)), (.int (uH u1)), (.int (uL u2)), (.int (uH u2)), (.int (uL u3)), (.int (uH u3))] (.int 0)) : OMet l Z [] (⟨"java/lang/StringUTF16", "coderFromArrayLen", "([BI)B"⟩ : MethodName) jdk_52_method_15_code 2 (some .byte) R80 #[(.ref b), (.int 4)] h0 n0 (Q80 Z b kb u0 u1 u2 u3 h0) := by
  refine OMet.of (own := "java/lang/StringUTF16") rfl (plainFor_of_name pn_0) (ef80 b) Z0 ?_
  intro p e s m below meth c T0 Y0 hnm
  refine Gl.iloadN Y0 rfl dG_0 rfl ?_
  refine Gl.aloadN Y0 rfl rfl dG_1 rfl ?_
  refine Gl.arraylength Y0 Vb dG_2 rfl ?_
  refine Gl.isub Y0 (r := (-4 : Int32)) (by decide) dG_3 rfl ?_
  refine Gl.bipush Y0 (v := (31 : Int32)) (by decide) dG_4 rfl ?_
  refine Gl.iushr Y0 (r := (1 : Int32)) (by decide) dG_6 rfl ?_
  refine Gl.i2b Y0 (r := (1 : Int32)) (by decide) dG_7 rfl ?_
  exact Gl.retB Y0 (by decide) (by decide) (x' := (1 : Int32)) (by decide) dG_8 ⟨rfl, rfl⟩
def R81 : Room := { frames := 3, cells := 2, slots := 12, locals := 40 }
def Q81 (Z : State) (ca : Addr) (kc : ClassId) (u0 u1 u2 u3 : Int32) (h0 : Heap) (v : Option Value) (h : Heap) : Prop := ∃ b : Addr, ∃ kb : ClassId, v = some (.ref b) ∧ Keep h0 h [] ∧ h0.size ≤ b ∧ Arv Z h b kb .byte (8 : Int32) [(.int (uL u0)), (.int (uH u0)), (.int (uL u1)), (.int (uH u1)), (.int (uL u2)), (.int (uH u2)), (.int (uL u3)), (.int (uH u3))] (.int 0)
theorem ef81 (ca : Addr) (m : MethodId) : entryFrame m #[(.ref ca), (.int 0), (.int 4)] 6 = mkF m 0 #[.val (.ref ca), .val (.int 0), .val (.int 4), .unset, .unset, .unset] [] := by first | (simp [entryFrame, mkF, argsToLocals, Value.category]; done) | rfl
theorem rm81 (hw : HW a0 Z) (ca : Addr) (kc : ClassId) (u0 u1 u2 u3 : Int32) (h0 : Heap) (n0 : Nat) (Z0 : n0 ≤ h0.size) (O : Old Z n0 h0) (SA : uA Z) (SH : uS Z) (SL : uT Z) (Vc : Arv Z h0 ca kc .char (4 : Int32) [(.int u0), (.int u1), (.int u2), (.int u3)] (.int 0)) (m0 : 255 < u0) (r_u0 : C16 u0) (r_u1 : C16 u1) (r_u2 : C16 u2) (r_u3 : C16 u3) : OMet l Z [] (⟨"java/lang/StringUTF16", "compress", "([CII)[B"⟩ : MethodName) jdk_52_method_16_code 6 (some (.array .byte)) R81 #[(.ref ca), (.int 0), (.int 4)] h0 n0 (Q81 Z ca kc u0 u1 u2 u3 h0) := by
  refine OMet.of (own := "java/lang/StringUTF16") rfl (plainFor_of_name pn_0) (ef81 ca) Z0 ?_
  intro p e s m below meth c T0 Y0 hnm
  refine Gl.iloadN Y0 rfl dH_0 rfl ?_
  refine Gl.newP Y0 4 (ty := .byte) rfl (tw_20 hw) (by decide) (by decide) (nle rfl) (nle rfl) (nle rfl) dH_1 rfl (fun T1 h1 b1 ck1 Y1 E1 g1 sb1 V1 => ?_)
  have V1 : Arv Z h1 b1 ck1 .byte (4 : Int32) [(.int 0), (.int 0), (.int 0), (.int 0)] (.int 0) := V1.pad (pad_rep [] (.int 0) 4)
  have zb1 : h0.size ≤ b1 := Nat.le_trans (Keep.refl h0 []).1 (Nat.le_of_eq g1.symm)
  have K1 : Keep h0 h1 [] := (Keep.refl h0 []).ext E1
  show Gl p e below _ (T1.setTop (mkF m 3 _ [(.ref b1)]))
  refine Gl.astoreN Y1 rfl (L' := #[.val (.ref ca), .val (.int 0), .val (.int 4), .val (.ref b1), .unset, .unset]) rfl dH_3 rfl ?_
  refine Gl.aloadN Y1 rfl rfl dH_4 rfl ?_
  refine Gl.iloadN Y1 rfl dH_5 rfl ?_
  refine Gl.aloadN Y1 rfl rfl dH_6 rfl ?_
  refine Gl.iconst Y1 (v := (0 : Int32)) (by decide) dH_7 rfl ?_
  refine Gl.iloadN Y1 rfl dH_8 rfl ?_
  have f1 := (Vc.ext E1)
  refine Gl.callS Y1 (tw_46 hw) (tw_47 hw) (tw_44 hw) (tw_48 hw) (by decide) (rm9 l Z a0 hw ca b1 kc ck1 u0 u1 u2 u3 h1 n0 Y1.sz f1 V1 sb1 (Nat.ne_of_lt (Nat.lt_of_lt_of_eq Vc.lt g1.symm)) (m0)) (argsL := [(.ref ca), (.int 0), (.ref b1), (.int 0), (.int 4)]) (rest := []) rfl rfl (lenOf pd_3 rfl) rfl (by decide) (nle rfl) (by decide) (by decide) dH_9 rfl (fun v9 T9 h9 Y9 q9 => ?_)
  obtain ⟨rfl, K9, f9_0⟩ := q9
  have KK9 : Keep h0 h9 [] := K1.trans K9 (allS (Or.inr zb1) all0)
  show Gl p e below _ (T9.setTop (mkF m 12 _ [(.int 0)]))
  refine Gl.istore Y9 (L' := #[.val (.ref ca), .val (.int 0), .val (.int 4), .val (.ref b1), .val (.int 0), .unset]) rfl dH_12 rfl ?_
  refine Gl.iload Y9 rfl dH_14 rfl ?_
  refine Gl.iloadN Y9 rfl dH_16 rfl ?_
  refine Gl.icmpeq Y9 dH_17 (by decide) rfl rfl (fun c17 => ?_) (fun c17 => ?_)
  · exact absurd c17 (by decide)
  refine Gl.aloadN Y9 rfl rfl dH_20 rfl ?_
  refine Gl.iloadN Y9 rfl dH_21 rfl ?_
  refine Gl.iloadN Y9 rfl dH_22 rfl ?_
  have f2 := ((O.ext E1).keep K9 (allS sb1 all0))
  have f3 := (f1.keep K9 (ninS (Nat.ne_of_lt (Nat.lt_of_lt_of_eq Vc.lt g1.symm)) nin0))
  refine Gl.callS Y9 (tw_74 hw) (tw_75 hw) (tw_44 hw) (tw_76 hw) (by decide) (rm45 l Z a0 hw ca kc u0 u1 u2 u3 h9 n0 Y9.sz f2 SA SH SL f3) (argsL := [(.ref ca), (.int 0), (.int 4)]) (rest := []) rfl rfl (lenOf pd_4 rfl) rfl (by decide) (nle rfl) (by decide) (by decide) dH_23 rfl (fun v23 T23 h23 Y23 q23 => ?_)
  obtain ⟨b23, kb23, rfl, K23, f23_0, f23_1⟩ := q23
  have Y23_sz : n0 ≤ h9.size := Y9.sz
  have KK23 : Keep h0 h23 [] := KK9.trans K23 all0
  have zb23 : h0.size ≤ b23 := Nat.le_trans KK9.1 f23_0
  show Gl p e below _ (T23.setTop (mkF m 26 _ [(.ref b23)]))
  refine Gl.astore Y23 rfl (L' := #[.val (.ref ca), .val (.int 0), .val (.int 4), .val (.ref b1), .val (.int 0), .val (.ref b23)]) rfl dH_26 rfl ?_
  refine Gl.aload Y23 rfl rfl dH_28 rfl ?_
  refine Gl.iload Y23 rfl dH_30 rfl ?_
  have f4 := (f2.keep K23 all0)
  refine Gl.callS Y23 (tw_90 hw) (tw_91 hw) (tw_44 hw) (tw_92 hw) (by decide) (rm38 l Z a0 hw b23 kb23 u0 u1 u2 u3 h23 n0 Y23.sz f4 SA SH SL f23_1 (r_u0) (r_u1) (r_u2) (r_u3)) (argsL := [(.ref b23), (.int 0)]) (rest := []) rfl rfl (lenOf pd_5 rfl) rfl (by decide) (nle rfl) (by decide) (by decide) dH_32 rfl (fun v32 T32 h32 Y32 q32 => ?_)
  obtain ⟨rfl, rfl⟩ := q32
  show Gl p e below _ (T32.setTop (mkF m 35 _ [(.int u0)]))
  refine Gl.sipush Y32 (v := (255 : Int32)) (by decide) dH_35 rfl ?_
  refine Gl.icmpgt Y32 dH_38 (by decide) rfl rfl (fun c38 => ?_) (fun c38 => ?_)
  rotate_left
  · exact absurd m0 c38
  refine Gl.aload Y32 rfl rfl dH_54 rfl ?_
  exact Gl.retA Y32 (by decide) (by decide) rfl rfl dH_56 ⟨b23, kb23, rfl, KK23, zb23, f23_1⟩
def R82 : Room := { frames := 4, cells := 2, slots := 12, locals := 57 }
def Q82 (Z : State) (a ca : Addr) (kc : ClassId) (cs u0 u1 u2 u3 : Int32) (h0 : Heap) (v : Option Value) (h : Heap) : Prop := ∃ b : Addr, ∃ kb : ClassId, v = none ∧ Keep h0 h [a] ∧ h0.size ≤ b ∧ Exa Z h a "java/lang/String" ∧ Fld Z h a "java/lang/String" "coder" "B" (.int 1) ∧ Fld Z h a "java/lang/String" "value" "[B" (.ref b) ∧ Arv Z h b kb .byte (8 : Int32) [(.int (uL u0)), (.int (uH u0)), (.int (uL u1)), (.int (uH u1)), (.int (uL u2)), (.int (uH u2)), (.int (uL u3)), (.int (uH u3))] (.int 0)
theorem ef82 (a ca : Addr) (m : MethodId) : entryFrame m #[(.ref a), (.ref ca), (.int 0), (.int 4), .null] 6 = mkF m 0 #[.val (.ref a), .val (.ref ca), .val (.int 0), .val (.int 4), .val .null, .unset] [] := by first | (simp [entryFrame, mkF, argsToLocals, Value.category]; done) | rfl
theorem rm82 (hw : HW a0 Z) (a ca : Addr) (kc : ClassId) (cs u0 u1 u2 u3 : Int32) (h0 : Heap) (n0 : Nat) (Z0 : n0 ≤ h0.size) (O : Old Z n0 h0) (S : uC Z cs) (hcs : ¬ cs = 0) (SA : uA Z) (SH : uS Z) (SL : uT Z) (E : Exa Z h0 a "java/lang/String") (F1 : Fld Z h0 a "java/lang/String" "value" "[B" .null) (F2 : Fld Z h0 a "java/lang/String" "coder" "B" (.int 0)) (ga : n0 ≤ a) (nca : own_ne ca a) (Vc : Arv Z h0 ca kc .char (4 : Int32) [(.int u0), (.int u1), (.int u2), (.int u3)] (.int 0)) (m0 : 255 < u0) (r_u0 : C16 u0) (r_u1 : C16 u1) (r_u2 : C16 u2) (r_u3 : C16 u3) : OMet l Z [] (⟨"java/lang/String", "<init>", "([CIILjava/lang/Void;)V"⟩ : MethodName) jdk_42_method_149_code 6 none R82 #[(.ref a), (.ref ca), (.int 0), (.int 4), .null] h0 n0 (Q82 Z a ca kc cs u0 u1 u2 u3 h0) := by
  refine OMet.of (own := "java/lang/String") rfl (plainFor_of_name pn_1) (ef82 a ca) Z0 ?_
  intro p e s m below meth c T0 Y0 hnm
  refine Gl.aloadN Y0 rfl rfl dI_0 rfl ?_
  refine Gl.initO Y0 (tw_16 hw) (tw_17 hw) (tw_18 hw) rfl (by decide) (nle rfl) dI_1 rfl (fun T1 Y1 => ?_)
  refine Gl.iloadN Y1 rfl dI_4 rfl ?_
  refine Gl.ifne Y1 dI_5 (by decide) rfl rfl (fun c5 => ?_) (fun c5 => ?_)
  rotate_left
  · exact absurd c5 (by decide)
  refine Gl.getS Y1 (host := "") (Or.inl (tw_41 hw)) Via.refl (Sta.ext O.2 S) dI_27 rfl (fun T27 Y27 => ?_)
  refine Gl.ifeq Y27 dI_30 (by decide) rfl rfl (fun c30 => ?_) (fun c30 => ?_)
  · exact absurd c30 hcs
  refine Gl.aloadN Y27 rfl rfl dI_33 rfl ?_
  refine Gl.iloadN Y27 rfl dI_34 rfl ?_
  refine Gl.iloadN Y27 rfl dI_35 rfl ?_
  refine Gl.callS Y27 (tw_42 hw) (tw_43 hw) (tw_44 hw) (tw_45 hw) (by decide) (rm81 l Z a0 hw ca kc u0 u1 u2 u3 h0 n0 Y27.sz O SA SH SL Vc (m0) (r_u0) (r_u1) (r_u2) (r_u3)) (argsL := [(.ref ca), (.int 0), (.int 4)]) (rest := []) rfl rfl (lenOf pd_4 rfl) rfl (by decide) (nle rfl) (by decide) (by decide) dI_36 rfl (fun v36 T36 h36 Y36 q36 => ?_)
  obtain ⟨b36, kb36, rfl, K36, f36_0, f36_1⟩ := q36
  have Y36_sz : n0 ≤ h0.size := Y27.sz
  have KK36 : Keep h0 h36 [a] := (Keep.refl h0 [a]).trans K36 all0
  have zb36 : h0.size ≤ b36 := Nat.le_trans (Keep.refl h0 [a]).1 f36_0
  show Gl p e below _ (T36.setTop (mkF m 39 _ [(.ref b36)]))
  refine Gl.astore Y36 rfl (L' := #[.val (.ref a), .val (.ref ca), .val (.int 0), .val (.int 4), .val .null, .val (.ref b36)]) rfl dI_39 rfl ?_
  refine Gl.aloadN Y36 rfl rfl dI_41 rfl ?_
  refine Gl.aload Y36 rfl rfl dI_42 rfl ?_
  refine Gl.iloadN Y36 rfl dI_44 rfl ?_
  refine Gl.callS Y36 (tw_49 hw) (tw_50 hw) (tw_44 hw) (tw_51 hw) (by decide) (rm80 l Z a0 hw b36 kb36 u0 u1 u2 u3 h36 n0 Y36.sz f36_1) (argsL := [(.ref b36), (.int 4)]) (rest := [(.ref a)]) rfl rfl (lenOf pd_6 rfl) rfl (by decide) (nle rfl) (by decide) (by decide) dI_45 rfl (fun v45 T45 h45 Y45 q45 => ?_)
  obtain ⟨rfl, rfl⟩ := q45
  show Gl p e below _ (T45.setTop (mkF m 48 _ [(.int 1), (.ref a)]))
  have f1 := (F2.keep K36 nin0)
  have f2 := (E.keep K36)
  refine Gl.putFN Y45 (tw_26 hw) Via.refl f1 f2 (Or.inr ⟨(tw_22 hw), rfl, hnm⟩) (tw_7 hw) ga (ty := .byte) (by decide) (v' := (.int 1)) (by decide) (by decide) dI_48 rfl (fun T48 h48 Y48 W48 => ?_)
  have f3 : Fld Z h48 a "java/lang/String" "coder" "B" (.int 1) := Fld.same W48 f1
  have K48 : Keep h0 h48 [a] := KK36.wr W48 (Or.inl (List.mem_of_getElem? (i := 0) rfl))
  refine Gl.aloadN Y48 rfl rfl dI_51 rfl ?_
  refine Gl.aload Y48 rfl rfl dI_52 rfl ?_
  have f4 := (Fld.other W48 (F1.keep K36 nin0) (Or.inr (slot_ne (Or.inr (tw_21 hw)) (Or.inr (tw_22 hw)) (by decide) (t := (.array .byte)) (t' := .byte) (by decide) (by decide))))
  have f5 := (Exa.wr W48 f2)
  refine Gl.putF Y48 (host := "") (Or.inl (tw_25 hw)) Via.refl f4 f5 (Or.inr ⟨(tw_21 hw), rfl, hnm⟩) (tw_7 hw) ga (ty := (.array .byte)) (by decide) rfl rfl dI_54 rfl (fun T54 h54 Y54 W54 => ?_)
  have f6 : Fld Z h54 a "java/lang/String" "value" "[B" (.ref b36) := Fld.same W54 f4
  have K54 : Keep h0 h54 [a] := K48.wr W54 (Or.inl (List.mem_of_getElem? (i := 0) rfl))
  have f7 := (Exa.wr W54 f5)
  have f8 := (Fld.other W54 f3 (Or.inr (slot_ne (Or.inr (tw_22 hw)) (Or.inr (tw_21 hw)) (by decide) (t := .byte) (t' := (.array .byte)) (by decide) (by decide))))
  have f9 := ((f36_1.other W48 (Ne.symm (Nat.ne_of_lt (Nat.lt_of_lt_of_le E.lt f36_0)))).other W54 (Ne.symm (Nat.ne_of_lt (Nat.lt_of_lt_of_le E.lt f36_0))))
  exact Gl.retV Y54 (by decide) (by decide)  dI_57 ⟨b36, kb36, rfl, K54, zb36, f7, f8, (by first | exact f6 | (subst_vars; exact f6) | (rw [PF]; exact f6)), f9⟩
def R83 : Room := { frames := 5, cells := 2, slots := 12, locals := 74 }
def Q83 (Z : State) (a ca : Addr) (kc : ClassId) (cs u0 u1 u2 u3 : Int32) (h0 : Heap) (v : Option Value) (h : Heap) : Prop := ∃ b : Addr, ∃ kb : ClassId, v = none ∧ Keep h0 h [a] ∧ h0.size ≤ b ∧ Exa Z h a "java/lang/String" ∧ Fld Z h a "java/lang/String" "coder" "B" (.int 1) ∧ Fld Z h a "java/lang/String" "value" "[B" (.ref b) ∧ Arv Z h b kb .byte (8 : Int32) [(.int (uL u0)), (.int (uH u0)), (.int (uL u1)), (.int (uH u1)), (.int (uL u2)), (.int (uH u2)), (.int (uL u3)), (.int (uH u3))] (.int 0)
theorem ef83 (a ca : Addr) (m : MethodId) : entryFrame m #[(.ref a), (.ref ca)] 2 = mkF m 0 #[.val (.ref a), .val (.ref ca)] [] := by first | (simp [entryFrame, mkF, argsToLocals, Value.category]; done) | rfl
theorem rm83 (hw : HW a0 Z) (a ca : Addr) (kc : ClassId) (cs u0 u1 u2 u3 : Int32) (h0 : Heap) (n0 : Nat) (Z0 : n0 ≤ h0.size) (O : Old Z n0 h0) (S : uC Z cs) (hcs : ¬ cs = 0) (SA : uA Z) (SH : uS Z) (SL : uT Z) (E : Exa Z h0 a "java/lang/String") (F1 : Fld Z h0 a "java/lang/String" "value" "[B" .null) (F2 : Fld Z h0 a "java/lang/String" "coder" "B" (.int 0)) (ga : n0 ≤ a) (nca : own_ne ca a) (Vc : Arv Z h0 ca kc .char (4 : Int32) [(.int u0), (.int u1), (.int u2), (.int u3)] (.int 0)) (m0 : 255 < u0) (r_u0 : C16 u0) (r_u1 : C16 u1) (r_u2 : C16 u2) (r_u3 : C16 u3) : OMet l Z [] (⟨"java/lang/String", "<init>", "([C)V"⟩ : MethodName) jdk_42_method_3_code 2 none R83 #[(.ref a), (.ref ca)] h0 n0 (Q83 Z a ca kc cs u0 u1 u2 u3 h0) := by
  refine OMet.of (own := "java/lang/String") rfl (plainFor_of_name pn_1) (ef83 a ca) Z0 ?_
  intro p e s m below meth c T0 Y0 hnm
  refine Gl.aloadN Y0 rfl rfl dJ_0 rfl ?_
  refine Gl.aloadN Y0 rfl rfl dJ_1 rfl ?_
  refine Gl.iconst Y0 (v := (0 : Int32)) (by decide) dJ_2 rfl ?_
  refine Gl.aloadN Y0 rfl rfl dJ_3 rfl ?_
  refine Gl.arraylength Y0 Vc dJ_4 rfl ?_
  refine Gl.aconstNull Y0 dJ_5 rfl ?_
  refine Gl.callN Y0 rfl (tw_12 hw) (tw_13 hw) (tw_8 hw) (tw_15 hw) (by decide) (rm82 l Z a0 hw a ca kc cs u0 u1 u2 u3 h0 n0 Y0.sz O S (hcs) SA SH SL E F1 F2 ga nca Vc (m0) (r_u0) (r_u1) (r_u2) (r_u3)) (a := a) (argsL := [(.ref ca), (.int 0), (.int 4), .null]) (rest := []) rfl rfl (lenOf pd_7 rfl) rfl (by decide) (nle rfl) (by decide) (by decide) dJ_6 rfl (fun v6 T6 h6 Y6 q6 => ?_)
  obtain ⟨b6, kb6, rfl, K6, f6_0, f6_1, f6_2, f6_3, f6_4⟩ := q6
  have Y6_sz : n0 ≤ h0.size := Y0.sz
  have KK6 : Keep h0 h6 [a] := (Keep.refl h0 [a]).trans K6 (allS (Or.inl (List.mem_of_getElem? (i := 0) rfl)) all0)
  have zb6 : h0.size ≤ b6 := Nat.le_trans (Keep.refl h0 [a]).1 f6_0
  show Gl p e below _ (T6.setTop (mkF m 9 _ []))
  exact Gl.retV Y6 (by decide) (by decide)  dJ_9 ⟨b6, kb6, rfl, KK6, zb6, f6_1, f6_2, (by first | exact f6_3 | (subst_vars; exact f6_3) | (rw [PF]; exact f6_3)), f6_4⟩
def R84 : Room := { frames := 3, cells := 2, slots := 12, locals := 40 }
def Q84 (Z : State) (ca : Addr) (kc : ClassId) (u0 u1 u2 u3 : Int32) (h0 : Heap) (v : Option Value) (h : Heap) : Prop := ∃ b : Addr, ∃ kb : ClassId, v = some (.ref b) ∧ Keep h0 h [] ∧ h0.size ≤ b ∧ Arv Z h b kb .byte (8 : Int32) [(.int (uL u0)), (.int (uH u0)), (.int (uL u1)), (.int (uH u1)), (.int (uL u2)), (.int (uH u2)), (.int (uL u3)), (.int (uH u3))] (.int 0)
theorem ef84 (ca : Addr) (m : MethodId) : entryFrame m #[(.ref ca), (.int 0), (.int 4)] 6 = mkF m 0 #[.val (.ref ca), .val (.int 0), .val (.int 4), .unset, .unset, .unset] [] := by first | (simp [entryFrame, mkF, argsToLocals, Value.category]; done) | rfl
theorem rm84 (hw : HW a0 Z) (ca : Addr) (kc : ClassId) (u0 u1 u2 u3 : Int32) (h0 : Heap) (n0 : Nat) (Z0 : n0 ≤ h0.size) (O : Old Z n0 h0) (SA : uA Z) (SH : uS Z) (SL : uT Z) (Vc : Arv Z h0 ca kc .char (4 : Int32) [(.int u0), (.int u1), (.int u2), (.int u3)] (.int 0)) (l0 : ¬ 255 < u0) (m1 : 255 < u1) (r_u0 : C16 u0) (r_u1 : C16 u1) (r_u2 : C16 u2) (r_u3 : C16 u3) : OMet l Z [] (⟨"java/lang/StringUTF16", "compress", "([CII)[B"⟩ : MethodName) jdk_52_method_16_code 6 (some (.array .byte)) R84 #[(.ref ca), (.int 0), (.int 4)] h0 n0 (Q84 Z ca kc u0 u1 u2 u3 h0) := by
  refine OMet.of (own := "java/lang/StringUTF16") rfl (plainFor_of_name pn_0) (ef84 ca) Z0 ?_
  intro p e s m below meth c T0 Y0 hnm
  refine Gl.iloadN Y0 rfl dH_0 rfl ?_
  refine Gl.newP Y0 4 (ty := .byte) rfl (tw_20 hw) (by decide) (by decide) (nle rfl) (nle rfl) (nle rfl) dH_1 rfl (fun T1 h1 b1 ck1 Y1 E1 g1 sb1 V1 => ?_)
  have V1 : Arv Z h1 b1 ck1 .byte (4 : Int32) [(.int 0), (.int 0), (.int 0), (.int 0)] (.int 0) := V1.pad (pad_rep [] (.int 0) 4)
  have zb1 : h0.size ≤ b1 := Nat.le_trans (Keep.refl h0 []).1 (Nat.le_of_eq g1.symm)
  have K1 : Keep h0 h1 [] := (Keep.refl h0 []).ext E1
  show Gl p e below _ (T1.setTop (mkF m 3 _ [(.ref b1)]))
  refine Gl.astoreN Y1 rfl (L' := #[.val (.ref ca), .val (.int 0), .val (.int 4), .val (.ref b1), .unset, .unset]) rfl dH_3 rfl ?_
  refine Gl.aloadN Y1 rfl rfl dH_4 rfl ?_
  refine Gl.iloadN Y1 rfl dH_5 rfl ?_
  refine Gl.aloadN Y1 rfl rfl dH_6 rfl ?_
  refine Gl.iconst Y1 (v := (0 : Int32)) (by decide) dH_7 rfl ?_
  refine Gl.iloadN Y1 rfl dH_8 rfl ?_
  have f1 := (Vc.ext E1)
  refine Gl.callS Y1 (tw_46 hw) (tw_47 hw) (tw_44 hw) (tw_48 hw) (by decide) (rm10 l Z a0 hw ca b1 kc ck1 u0 u1 u2 u3 h1 n0 Y1.sz f1 V1 sb1 (Nat.ne_of_lt (Nat.lt_of_lt_of_eq Vc.lt g1.symm)) (l0) (m1)) (argsL := [(.ref ca), (.int 0), (.ref b1), (.int 0), (.int 4)]) (rest := []) rfl rfl (lenOf pd_3 rfl) rfl (by decide) (nle rfl) (by decide) (by decide) dH_9 rfl (fun v9 T9 h9 Y9 q9 => ?_)
  obtain ⟨rfl, K9, f9_0⟩ := q9
  have KK9 : Keep h0 h9 [] := K1.trans K9 (allS (Or.inr zb1) all0)
  show Gl p e below _ (T9.setTop (mkF m 12 _ [(.int 1)]))
  refine Gl.istore Y9 (L' := #[.val (.ref ca), .val (.int 0), .val (.int 4), .val (.ref b1), .val (.int 1), .unset]) rfl dH_12 rfl ?_
  refine Gl.iload Y9 rfl dH_14 rfl ?_
  refine Gl.iloadN Y9 rfl dH_16 rfl ?_
  refine Gl.icmpeq Y9 dH_17 (by decide) rfl rfl (fun c17 => ?_) (fun c17 => ?_)
  · exact absurd c17 (by decide)
  refine Gl.aloadN Y9 rfl rfl dH_20 rfl ?_
  refine Gl.iloadN Y9 rfl dH_21 rfl ?_
  refine Gl.iloadN Y9 rfl dH_22 rfl ?_
  have f2 := ((O.ext E1).keep K9 (allS sb1 all0))
  have f3 := (f1.keep K9 (ninS (Nat.ne_of_lt (Nat.lt_of_lt_of_eq Vc.lt g1.symm)) nin0))
  refine Gl.callS Y9 (tw_74 hw) (tw_75 hw) (tw_44 hw) (tw_76 hw) (by decide) (rm45 l Z a0 hw ca kc u0 u1 u2 u3 h9 n0 Y9.sz f2 SA SH SL f3) (argsL := [(.ref ca), (.int 0), (.int 4)]) (rest := []) rfl rfl (lenOf pd_4 rfl) rfl (by decide) (nle rfl) (by decide) (by decide) dH_23 rfl (fun v23 T23 h23 Y23 q23 => ?_)
  obtain ⟨b23, kb23, rfl, K23, f23_0, f23_1⟩ := q23
  have Y23_sz : n0 ≤ h9.size := Y9.sz
  have KK23 : Keep h0 h23 [] := KK9.trans K23 all0
  have zb23 : h0.size ≤ b23 := Nat.le_trans KK9.1 f23_0
  show Gl p e below _ (T23.setTop (mkF m 26 _ [(.ref b23)]))
  refine Gl.astore Y23 rfl (L' := #[.val (.ref ca), .val (.int 0), .val (.int 4), .val (.ref b1), .val (.int 1), .val (.ref b23)]) rfl dH_26 rfl ?_
  refine Gl.aload Y23 rfl rfl dH_28 rfl ?_
  refine Gl.iload Y23 rfl dH_30 rfl ?_
  have f4 := (f2.keep K23 all0)
  refine Gl.callS Y23 (tw_90 hw) (tw_91 hw) (tw_44 hw) (tw_92 hw) (by decide) (rm40 l Z a0 hw b23 kb23 u0 u1 u2 u3 h23 n0 Y23.sz f4 SA SH SL f23_1 (r_u0) (r_u1) (r_u2) (r_u3)) (argsL := [(.ref b23), (.int 1)]) (rest := []) rfl rfl (lenOf pd_5 rfl) rfl (by decide) (nle rfl) (by decide) (by decide) dH_32 rfl (fun v32 T32 h32 Y32 q32 => ?_)
  obtain ⟨rfl, rfl⟩ := q32
  show Gl p e below _ (T32.setTop (mkF m 35 _ [(.int u1)]))
  refine Gl.sipush Y32 (v := (255 : Int32)) (by decide) dH_35 rfl ?_
  refine Gl.icmpgt Y32 dH_38 (by decide) rfl rfl (fun c38 => ?_) (fun c38 => ?_)
  rotate_left
  · exact absurd m1 c38
  refine Gl.aload Y32 rfl rfl dH_54 rfl ?_
  exact Gl.retA Y32 (by decide) (by decide) rfl rfl dH_56 ⟨b23, kb23, rfl, KK23, zb23, f23_1⟩
def R85 : Room := { frames := 4, cells := 2, slots := 12, locals := 57 }
def Q85 (Z : State) (a ca : Addr) (kc : ClassId) (cs u0 u1 u2 u3 : Int32) (h0 : Heap) (v : Option Value) (h : Heap) : Prop := ∃ b : Addr, ∃ kb : ClassId, v = none ∧ Keep h0 h [a] ∧ h0.size ≤ b ∧ Exa Z h a "java/lang/String" ∧ Fld Z h a "java/lang/String" "coder" "B" (.int 1) ∧ Fld Z h a "java/lang/String" "value" "[B" (.ref b) ∧ Arv Z h b kb .byte (8 : Int32) [(.int (uL u0)), (.int (uH u0)), (.int (uL u1)), (.int (uH u1)), (.int (uL u2)), (.int (uH u2)), (.int (uL u3)), (.int (uH u3))] (.int 0)
theorem ef85 (a ca : Addr) (m : MethodId) : entryFrame m #[(.ref a), (.ref ca), (.int 0), (.int 4), .null] 6 = mkF m 0 #[.val (.ref a), .val (.ref ca), .val (.int 0), .val (.int 4), .val .null, .unset] [] := by first | (simp [entryFrame, mkF, argsToLocals, Value.category]; done) | rfl
theorem rm85 (hw : HW a0 Z) (a ca : Addr) (kc : ClassId) (cs u0 u1 u2 u3 : Int32) (h0 : Heap) (n0 : Nat) (Z0 : n0 ≤ h0.size) (O : Old Z n0 h0) (S : uC Z cs) (hcs : ¬ cs = 0) (SA : uA Z) (SH : uS Z) (SL : uT Z) (E : Exa Z h0 a "java/lang/String") (F1 : Fld Z h0 a "java/lang/String" "value" "[B" .null) (F2 : Fld Z h0 a "java/lang/String" "coder" "B" (.int 0)) (ga : n0 ≤ a) (nca : own_ne ca a) (Vc : Arv Z h0 ca kc .char (4 : Int32) [(.int u0), (.int u1), (.int u2), (.int u3)] (.int 0)) (l0 : ¬ 255 < u0) (m1 : 255 < u1) (r_u0 : C16 u0) (r_u1 : C16 u1) (r_u2 : C16 u2) (r_u3 : C16 u3) : OMet l Z [] (⟨"java/lang/String", "<init>", "([CIILjava/lang/Void;)V"⟩ : MethodName) jdk_42_method_149_code 6 none R85 #[(.ref a), (.ref ca), (.int 0), (.int 4), .null] h0 n0 (Q85 Z a ca kc cs u0 u1 u2 u3 h0) := by
  refine OMet.of (own := "java/lang/String") rfl (plainFor_of_name pn_1) (ef85 a ca) Z0 ?_
  intro p e s m below meth c T0 Y0 hnm
  refine Gl.aloadN Y0 rfl rfl dI_0 rfl ?_
  refine Gl.initO Y0 (tw_16 hw) (tw_17 hw) (tw_18 hw) rfl (by decide) (nle rfl) dI_1 rfl (fun T1 Y1 => ?_)
  refine Gl.iloadN Y1 rfl dI_4 rfl ?_
  refine Gl.ifne Y1 dI_5 (by decide) rfl rfl (fun c5 => ?_) (fun c5 => ?_)
  rotate_left
  · exact absurd c5 (by decide)
  refine Gl.getS Y1 (host := "") (Or.inl (tw_41 hw)) Via.refl (Sta.ext O.2 S) dI_27 rfl (fun T27 Y27 => ?_)
  refine Gl.ifeq Y27 dI_30 (by decide) rfl rfl (fun c30 => ?_) (fun c30 => ?_)
  · exact absurd c30 hcs
  refine Gl.aloadN Y27 rfl rfl dI_33 rfl ?_
  refine Gl.iloadN Y27 rfl dI_34 rfl ?_
  refine Gl.iloadN Y27 rfl dI_35 rfl ?_
  refine Gl.callS Y27 (tw_42 hw) (tw_43 hw) (tw_44 hw) (tw_45 hw) (by decide) (rm84 l Z a0 hw ca kc u0 u1 u2 u3 h0 n0 Y27.sz O SA SH SL Vc (l0) (m1) (r_u0) (r_u1) (r_u2) (r_u3)) (argsL := [(.ref ca), (.int 0), (.int 4)]) (rest := []) rfl rfl (lenOf pd_4 rfl) rfl (by decide) (nle rfl) (by decide) (by decide) dI_36 rfl (fun v36 T36 h36 Y36 q36 => ?_)
  obtain ⟨b36, kb36, rfl, K36, f36_0, f36_1⟩ := q36
  have Y36_sz : n0 ≤ h0.size := Y27.sz
  have KK36 : Keep h0 h36 [a] := (Keep.refl h0 [a]).trans K36 all0
  have zb36 : h0.size ≤ b36 := Nat.le_trans (Keep.refl h0 [a]).1 f36_0
  show Gl p e below _ (T36.setTop (mkF m 39 _ [(.ref b36)]))
  refine Gl.astore Y36 rfl (L' := #[.val (.ref a), .val (.ref ca), .val (.int 0), .val (.int 4), .val .null, .val (.ref b36)]) rfl dI_39 rfl ?_
  refine Gl.aloadN Y36 rfl rfl dI_41 rfl ?_
  refine Gl.aload Y36 rfl rfl dI_42 rfl ?_
  refine Gl.iloadN Y36 rfl dI_44 rfl ?_
  refine Gl.callS Y36 (tw_49 hw) (tw_50 hw) (tw_44 hw) (tw_51 hw) (by decide) (rm80 l Z a0 hw b36 kb36 u0 u1 u2 u3 h36 n0 Y36.sz f36_1) (argsL := [(.ref b36), (.int 4)]) (rest := [(.ref a)]) rfl rfl (lenOf pd_6 rfl) rfl (by decide) (nle rfl) (by decide) (by decide) dI_45 rfl (fun v45 T45 h45 Y45 q45 => ?_)
  obtain ⟨rfl, rfl⟩ := q45
  show Gl p e below _ (T45.setTop (mkF m 48 _ [(.int 1), (.ref a)]))
  have f1 := (F2.keep K36 nin0)
  have f2 := (E.keep K36)
  refine Gl.putFN Y45 (tw_26 hw) Via.refl f1 f2 (Or.inr ⟨(tw_22 hw), rfl, hnm⟩) (tw_7 hw) ga (ty := .byte) (by decide) (v' := (.int 1)) (by decide) (by decide) dI_48 rfl (fun T48 h48 Y48 W48 => ?_)
  have f3 : Fld Z h48 a "java/lang/String" "coder" "B" (.int 1) := Fld.same W48 f1
  have K48 : Keep h0 h48 [a] := KK36.wr W48 (Or.inl (List.mem_of_getElem? (i := 0) rfl))
  refine Gl.aloadN Y48 rfl rfl dI_51 rfl ?_
  refine Gl.aload Y48 rfl rfl dI_52 rfl ?_
  have f4 := (Fld.other W48 (F1.keep K36 nin0) (Or.inr (slot_ne (Or.inr (tw_21 hw)) (Or.inr (tw_22 hw)) (by decide) (t := (.array .byte)) (t' := .byte) (by decide) (by decide))))
  have f5 := (Exa.wr W48 f2)
  refine Gl.putF Y48 (host := "") (Or.inl (tw_25 hw)) Via.refl f4 f5 (Or.inr ⟨(tw_21 hw), rfl, hnm⟩) (tw_7 hw) ga (ty := (.array .byte)) (by decide) rfl rfl dI_54 rfl (fun T54 h54 Y54 W54 => ?_)
  have f6 : Fld Z h54 a "java/lang/String" "value" "[B" (.ref b36) := Fld.same W54 f4
  have K54 : Keep h0 h54 [a] := K48.wr W54 (Or.inl (List.mem_of_getElem? (i := 0) rfl))
  have f7 := (Exa.wr W54 f5)
  have f8 := (Fld.other W54 f3 (Or.inr (slot_ne (Or.inr (tw_22 hw)) (Or.inr (tw_21 hw)) (by decide) (t := .byte) (t' := (.array .byte)) (by decide) (by decide))))
  have f9 := ((f36_1.other W48 (Ne.symm (Nat.ne_of_lt (Nat.lt_of_lt_of_le E.lt f36_0)))).other W54 (Ne.symm (Nat.ne_of_lt (Nat.lt_of_lt_of_le E.lt f36_0))))
  exact Gl.retV Y54 (by decide) (by decide)  dI_57 ⟨b36, kb36, rfl, K54, zb36, f7, f8, (by first | exact f6 | (subst_vars; exact f6) | (rw [PF]; exact f6)), f9⟩
def R86 : Room := { frames := 5, cells := 2, slots := 12, locals := 74 }
def Q86 (Z : State) (a ca : Addr) (kc : ClassId) (cs u0 u1 u2 u3 : Int32) (h0 : Heap) (v : Option Value) (h : Heap) : Prop := ∃ b : Addr, ∃ kb : ClassId, v = none ∧ Keep h0 h [a] ∧ h0.size ≤ b ∧ Exa Z h a "java/lang/String" ∧ Fld Z h a "java/lang/String" "coder" "B" (.int 1) ∧ Fld Z h a "java/lang/String" "value" "[B" (.ref b) ∧ Arv Z h b kb .byte (8 : Int32) [(.int (uL u0)), (.int (uH u0)), (.int (uL u1)), (.int (uH u1)), (.int (uL u2)), (.int (uH u2)), (.int (uL u3)), (.int (uH u3))] (.int 0)
theorem ef86 (a ca : Addr) (m : MethodId) : entryFrame m #[(.ref a), (.ref ca)] 2 = mkF m 0 #[.val (.ref a), .val (.ref ca)] [] := by first | (simp [entryFrame, mkF, argsToLocals, Value.category]; done) | rfl
theorem rm86 (hw : HW a0 Z) (a ca : Addr) (kc : ClassId) (cs u0 u1 u2 u3 : Int32) (h0 : Heap) (n0 : Nat) (Z0 : n0 ≤ h0.size) (O : Old Z n0 h0) (S : uC Z cs) (hcs : ¬ cs = 0) (SA : uA Z) (SH : uS Z) (SL : uT Z) (E : Exa Z h0 a "java/lang/String") (F1 : Fld Z h0 a "java/lang/String" "value" "[B" .null) (F2 : Fld Z h0 a "java/lang/String" "coder" "B" (.int 0)) (ga : n0 ≤ a) (nca : own_ne ca a) (Vc : Arv Z h0 ca kc .char (4 : Int32) [(.int u0), (.int u1), (.int u2), (.int u3)] (.int 0)) (l0 : ¬ 255 < u0) (m1 : 255 < u1) (r_u0 : C16 u0) (r_u1 : C16 u1) (r_u2 : C16 u2) (r_u3 : C16 u3) : OMet l Z [] (⟨"java/lang/String", "<init>", "([C)V"⟩ : MethodName) jdk_42_method_3_code 2 none R86 #[(.ref a), (.ref ca)] h0 n0 (Q86 Z a ca kc cs u0 u1 u2 u3 h0) := by
  refine OMet.of (own := "java/lang/String") rfl (plainFor_of_name pn_1) (ef86 a ca) Z0 ?_
  intro p e s m below meth c T0 Y0 hnm
  refine Gl.aloadN Y0 rfl rfl dJ_0 rfl ?_
  refine Gl.aloadN Y0 rfl rfl dJ_1 rfl ?_
  refine Gl.iconst Y0 (v := (0 : Int32)) (by decide) dJ_2 rfl ?_
  refine Gl.aloadN Y0 rfl rfl dJ_3 rfl ?_
  refine Gl.arraylength Y0 Vc dJ_4 rfl ?_
  refine Gl.aconstNull Y0 dJ_5 rfl ?_
  refine Gl.callN Y0 rfl (tw_12 hw) (tw_13 hw) (tw_8 hw) (tw_15 hw) (by decide) (rm85 l Z a0 hw a ca kc cs u0 u1 u2 u3 h0 n0 Y0.sz O S (hcs) SA SH SL E F1 F2 ga nca Vc (l0) (m1) (r_u0) (r_u1) (r_u2) (r_u3)) (a := a) (argsL := [(.ref ca), (.int 0), (.int 4), .null]) (rest := []) rfl rfl (lenOf pd_7 rfl) rfl (by decide) (nle rfl) (by decide) (by decide) dJ_6 rfl (fun v6 T6 h6 Y6 q6 => ?_)
  obtain ⟨b6, kb6, rfl, K6, f6_0, f6_1, f6_2, f6_3, f6_4⟩ := q6
  have Y6_sz : n0 ≤ h0.size := Y0.sz
  have KK6 : Keep h0 h6 [a] := (Keep.refl h0 [a]).trans K6 (allS (Or.inl (List.mem_of_getElem? (i := 0) rfl)) all0)
  have zb6 : h0.size ≤ b6 := Nat.le_trans (Keep.refl h0 [a]).1 f6_0
  show Gl p e below _ (T6.setTop (mkF m 9 _ []))
  exact Gl.retV Y6 (by decide) (by decide)  dJ_9 ⟨b6, kb6, rfl, KK6, zb6, f6_1, f6_2, (by first | exact f6_3 | (subst_vars; exact f6_3) | (rw [PF]; exact f6_3)), f6_4⟩
def R87 : Room := { frames := 3, cells := 2, slots := 12, locals := 40 }
def Q87 (Z : State) (ca : Addr) (kc : ClassId) (u0 u1 u2 u3 : Int32) (h0 : Heap) (v : Option Value) (h : Heap) : Prop := ∃ b : Addr, ∃ kb : ClassId, v = some (.ref b) ∧ Keep h0 h [] ∧ h0.size ≤ b ∧ Arv Z h b kb .byte (8 : Int32) [(.int (uL u0)), (.int (uH u0)), (.int (uL u1)), (.int (uH u1)), (.int (uL u2)), (.int (uH u2)), (.int (uL u3)), (.int (uH u3))] (.int 0)
theorem ef87 (ca : Addr) (m : MethodId) : entryFrame m #[(.ref ca), (.int 0), (.int 4)] 6 = mkF m 0 #[.val (.ref ca), .val (.int 0), .val (.int 4), .unset, .unset, .unset] [] := by first | (simp [entryFrame, mkF, argsToLocals, Value.category]; done) | rfl
theorem rm87 (hw : HW a0 Z) (ca : Addr) (kc : ClassId) (u0 u1 u2 u3 : Int32) (h0 : Heap) (n0 : Nat) (Z0 : n0 ≤ h0.size) (O : Old Z n0 h0) (SA : uA Z) (SH : uS Z) (SL : uT Z) (Vc : Arv Z h0 ca kc .char (4 : Int32) [(.int u0), (.int u1), (.int u2), (.int u3)] (.int 0)) (l0 : ¬ 255 < u0) (l1 : ¬ 255 < u1) (m2 : 255 < u2) (r_u0 : C16 u0) (r_u1 : C16 u1) (r_u2 : C16 u2) (r_u3 : C16 u3) : OMet l Z [] (⟨"java/lang/StringUTF16", "compress", "([CII)[B"⟩ : MethodName) jdk_52_method_16_code 6 (some (.array .byte)) R87 #[(.ref ca), (.int 0), (.int 4)] h0 n0 (Q87 Z ca kc u0 u1 u2 u3 h0) := by
  refine OMet.of (own := "java/lang/StringUTF16") rfl (plainFor_of_name pn_0) (ef87 ca) Z0 ?_
  intro p e s m below meth c T0 Y0 hnm
  refine Gl.iloadN Y0 rfl dH_0 rfl ?_
  refine Gl.newP Y0 4 (ty := .byte) rfl (tw_20 hw) (by decide) (by decide) (nle rfl) (nle rfl) (nle rfl) dH_1 rfl (fun T1 h1 b1 ck1 Y1 E1 g1 sb1 V1 => ?_)
  have V1 : Arv Z h1 b1 ck1 .byte (4 : Int32) [(.int 0), (.int 0), (.int 0), (.int 0)] (.int 0) := V1.pad (pad_rep [] (.int 0) 4)
  have zb1 : h0.size ≤ b1 := Nat.le_trans (Keep.refl h0 []).1 (Nat.le_of_eq g1.symm)
  have K1 : Keep h0 h1 [] := (Keep.refl h0 []).ext E1
  show Gl p e below _ (T1.setTop (mkF m 3 _ [(.ref b1)]))
  refine Gl.astoreN Y1 rfl (L' := #[.val (.ref ca), .val (.int 0), .val (.int 4), .val (.ref b1), .unset, .unset]) rfl dH_3 rfl ?_
  refine Gl.aloadN Y1 rfl rfl dH_4 rfl ?_
  refine Gl.iloadN Y1 rfl dH_5 rfl ?_
  refine Gl.aloadN Y1 rfl rfl dH_6 rfl ?_
  refine Gl.iconst Y1 (v := (0 : Int32)) (by decide) dH_7 rfl ?_
  refine Gl.iloadN Y1 rfl dH_8 rfl ?_
  have f1 := (Vc.ext E1)
  refine Gl.callS Y1 (tw_46 hw) (tw_47 hw) (tw_44 hw) (tw_48 hw) (by decide) (rm11 l Z a0 hw ca b1 kc ck1 u0 u1 u2 u3 h1 n0 Y1.sz f1 V1 sb1 (Nat.ne_of_lt (Nat.lt_of_lt_of_eq Vc.lt g1.symm)) (l0) (l1) (m2)) (argsL := [(.ref ca), (.int 0), (.ref b1), (.int 0), (.int 4)]) (rest := []) rfl rfl (lenOf pd_3 rfl) rfl (by decide) (nle rfl) (by decide) (by decide) dH_9 rfl (fun v9 T9 h9 Y9 q9 => ?_)
  obtain ⟨rfl, K9, f9_0⟩ := q9
  have KK9 : Keep h0 h9 [] := K1.trans K9 (allS (Or.inr zb1) all0)
  show Gl p e below _ (T9.setTop (mkF m 12 _ [(.int 2)]))
  refine Gl.istore Y9 (L' := #[.val (.ref ca), .val (.int 0), .val (.int 4), .val (.ref b1), .val (.int 2), .unset]) rfl dH_12 rfl ?_
  refine Gl.iload Y9 rfl dH_14 rfl ?_
  refine Gl.iloadN Y9 rfl dH_16 rfl ?_
  refine Gl.icmpeq Y9 dH_17 (by decide) rfl rfl (fun c17 => ?_) (fun c17 => ?_)
  · exact absurd c17 (by decide)
  refine Gl.aloadN Y9 rfl rfl dH_20 rfl ?_
  refine Gl.iloadN Y9 rfl dH_21 rfl ?_
  refine Gl.iloadN Y9 rfl dH_22 rfl ?_
  have f2 := ((O.ext E1).keep K9 (allS sb1 all0))
  have f3 := (f1.keep K9 (ninS (Nat.ne_of_lt (Nat.lt_of_lt_of_eq Vc.lt g1.symm)) nin0))
  refine Gl.callS Y9 (tw_74 hw) (tw_75 hw) (tw_44 hw) (tw_76 hw) (by decide) (rm45 l Z a0 hw ca kc u0 u1 u2 u3 h9 n0 Y9.sz f2 SA SH SL f3) (argsL := [(.ref ca), (.int 0), (.int 4)]) (rest := []) rfl rfl (lenOf pd_4 rfl) rfl (by decide) (nle rfl) (by decide) (by decide) dH_23 rfl (fun v23 T23 h23 Y23 q23 => ?_)
  obtain ⟨b23, kb23, rfl, K23, f23_0, f23_1⟩ := q23
  have Y23_sz : n0 ≤ h9.size := Y9.sz
  have KK23 : Keep h0 h23 [] := KK9.trans K23 all0
  have zb23 : h0.size ≤ b23 := Nat.le_trans KK9.1 f23_0
  show Gl p e below _ (T23.setTop (mkF m 26 _ [(.ref b23)]))
  refine Gl.astore Y23 rfl (L' := #[.val (.ref ca), .val (.int 0), .val (.int 4), .val (.ref b1), .val (.int 2), .val (.ref b23)]) rfl dH_26 rfl ?_
  refine Gl.aload Y23 rfl rfl dH_28 rfl ?_
  refine Gl.iload Y23 rfl dH_30 rfl ?_
  have f4 := (f2.keep K23 all0)
  refine Gl.callS Y23 (tw_90 hw) (tw_91 hw) (tw_44 hw) (tw_92 hw) (by decide) (rm42 l Z a0 hw b23 kb23 u0 u1 u2 u3 h23 n0 Y23.sz f4 SA SH SL f23_1 (r_u0) (r_u1) (r_u2) (r_u3)) (argsL := [(.ref b23), (.int 2)]) (rest := []) rfl rfl (lenOf pd_5 rfl) rfl (by decide) (nle rfl) (by decide) (by decide) dH_32 rfl (fun v32 T32 h32 Y32 q32 => ?_)
  obtain ⟨rfl, rfl⟩ := q32
  show Gl p e below _ (T32.setTop (mkF m 35 _ [(.int u2)]))
  refine Gl.sipush Y32 (v := (255 : Int32)) (by decide) dH_35 rfl ?_
  refine Gl.icmpgt Y32 dH_38 (by decide) rfl rfl (fun c38 => ?_) (fun c38 => ?_)
  rotate_left
  · exact absurd m2 c38
  refine Gl.aload Y32 rfl rfl dH_54 rfl ?_
  exact Gl.retA Y32 (by decide) (by decide) rfl rfl dH_56 ⟨b23, kb23, rfl, KK23, zb23, f23_1⟩
def R88 : Room := { frames := 4, cells := 2, slots := 12, locals := 57 }
def Q88 (Z : State) (a ca : Addr) (kc : ClassId) (cs u0 u1 u2 u3 : Int32) (h0 : Heap) (v : Option Value) (h : Heap) : Prop := ∃ b : Addr, ∃ kb : ClassId, v = none ∧ Keep h0 h [a] ∧ h0.size ≤ b ∧ Exa Z h a "java/lang/String" ∧ Fld Z h a "java/lang/String" "coder" "B" (.int 1) ∧ Fld Z h a "java/lang/String" "value" "[B" (.ref b) ∧ Arv Z h b kb .byte (8 : Int32) [(.int (uL u0)), (.int (uH u0)), (.int (uL u1)), (.int (uH u1)), (.int (uL u2)), (.int (uH u2)), (.int (uL u3)), (.int (uH u3))] (.int 0)
theorem ef88 (a ca : Addr) (m : MethodId) : entryFrame m #[(.ref a), (.ref ca), (.int 0), (.int 4), .null] 6 = mkF m 0 #[.val (.ref a), .val (.ref ca), .val (.int 0), .val (.int 4), .val .null, .unset] [] := by first | (simp [entryFrame, mkF, argsToLocals, Value.category]; done) | rfl
theorem rm88 (hw : HW a0 Z) (a ca : Addr) (kc : ClassId) (cs u0 u1 u2 u3 : Int32) (h0 : Heap) (n0 : Nat) (Z0 : n0 ≤ h0.size) (O : Old Z n0 h0) (S : uC Z cs) (hcs : ¬ cs = 0) (SA : uA Z) (SH : uS Z) (SL : uT Z) (E : Exa Z h0 a "java/lang/String") (F1 : Fld Z h0 a "java/lang/String" "value" "[B" .null) (F2 : Fld Z h0 a "java/lang/String" "coder" "B" (.int 0)) (ga : n0 ≤ a) (nca : own_ne ca a) (Vc : Arv Z h0 ca kc .char (4 : Int32) [(.int u0), (.int u1), (.int u2), (.int u3)] (.int 0)) (l0 : ¬ 255 < u0) (l1 : ¬ 255 < u1) (m2 : 255 < u2) (r_u0 : C16 u0) (r_u1 : C16 u1) (r_u2 : C16 u2) (r_u3 : C16 u3) : OMet l Z [] (⟨"java/lang/String", "<init>", "([CIILjava/lang/Void;)V"⟩ : MethodName) jdk_42_method_149_code 6 none R88 #[(.ref a), (.ref ca), (.int 0), (.int 4), .null] h0 n0 (Q88 Z a ca kc cs u0 u1 u2 u3 h0) := by
  refine OMet.of (own := "java/lang/String") rfl (plainFor_of_name pn_1) (ef88 a ca) Z0 ?_
  intro p e s m below meth c T0 Y0 hnm
  refine Gl.aloadN Y0 rfl rfl dI_0 rfl ?_
  refine Gl.initO Y0 (tw_16 hw) (tw_17 hw) (tw_18 hw) rfl (by decide) (nle rfl) dI_1 rfl (fun T1 Y1 => ?_)
  refine Gl.iloadN Y1 rfl dI_4 rfl ?_
  refine Gl.ifne Y1 dI_5 (by decide) rfl rfl (fun c5 => ?_) (fun c5 => ?_)
  rotate_left
  · exact absurd c5 (by decide)
  refine Gl.getS Y1 (host := "") (Or.inl (tw_41 hw)) Via.refl (Sta.ext O.2 S) dI_27 rfl (fun T27 Y27 => ?_)
  refine Gl.ifeq Y27 dI_30 (by decide) rfl rfl (fun c30 => ?_) (fun c30 => ?_)
  · exact absurd c30 hcs
  refine Gl.aloadN Y27 rfl rfl dI_33 rfl ?_
  refine Gl.iloadN Y27 rfl dI_34 rfl ?_
  refine Gl.iloadN Y27 rfl dI_35 rfl ?_
  refine Gl.callS Y27 (tw_42 hw) (tw_43 hw) (tw_44 hw) (tw_45 hw) (by decide) (rm87 l Z a0 hw ca kc u0 u1 u2 u3 h0 n0 Y27.sz O SA SH SL Vc (l0) (l1) (m2) (r_u0) (r_u1) (r_u2) (r_u3)) (argsL := [(.ref ca), (.int 0), (.int 4)]) (rest := []) rfl rfl (lenOf pd_4 rfl) rfl (by decide) (nle rfl) (by decide) (by decide) dI_36 rfl (fun v36 T36 h36 Y36 q36 => ?_)
  obtain ⟨b36, kb36, rfl, K36, f36_0, f36_1⟩ := q36
  have Y36_sz : n0 ≤ h0.size := Y27.sz
  have KK36 : Keep h0 h36 [a] := (Keep.refl h0 [a]).trans K36 all0
  have zb36 : h0.size ≤ b36 := Nat.le_trans (Keep.refl h0 [a]).1 f36_0
  show Gl p e below _ (T36.setTop (mkF m 39 _ [(.ref b36)]))
  refine Gl.astore Y36 rfl (L' := #[.val (.ref a), .val (.ref ca), .val (.int 0), .val (.int 4), .val .null, .val (.ref b36)]) rfl dI_39 rfl ?_
  refine Gl.aloadN Y36 rfl rfl dI_41 rfl ?_
  refine Gl.aload Y36 rfl rfl dI_42 rfl ?_
  refine Gl.iloadN Y36 rfl dI_44 rfl ?_
  refine Gl.callS Y36 (tw_49 hw) (tw_50 hw) (tw_44 hw) (tw_51 hw) (by decide) (rm80 l Z a0 hw b36 kb36 u0 u1 u2 u3 h36 n0 Y36.sz f36_1) (argsL := [(.ref b36), (.int 4)]) (rest := [(.ref a)]) rfl rfl (lenOf pd_6 rfl) rfl (by decide) (nle rfl) (by decide) (by decide) dI_45 rfl (fun v45 T45 h45 Y45 q45 => ?_)
  obtain ⟨rfl, rfl⟩ := q45
  show Gl p e below _ (T45.setTop (mkF m 48 _ [(.int 1), (.ref a)]))
  have f1 := (F2.keep K36 nin0)
  have f2 := (E.keep K36)
  refine Gl.putFN Y45 (tw_26 hw) Via.refl f1 f2 (Or.inr ⟨(tw_22 hw), rfl, hnm⟩) (tw_7 hw) ga (ty := .byte) (by decide) (v' := (.int 1)) (by decide) (by decide) dI_48 rfl (fun T48 h48 Y48 W48 => ?_)
  have f3 : Fld Z h48 a "java/lang/String" "coder" "B" (.int 1) := Fld.same W48 f1
  have K48 : Keep h0 h48 [a] := KK36.wr W48 (Or.inl (List.mem_of_getElem? (i := 0) rfl))
  refine Gl.aloadN Y48 rfl rfl dI_51 rfl ?_
  refine Gl.aload Y48 rfl rfl dI_52 rfl ?_
  have f4 := (Fld.other W48 (F1.keep K36 nin0) (Or.inr (slot_ne (Or.inr (tw_21 hw)) (Or.inr (tw_22 hw)) (by decide) (t := (.array .byte)) (t' := .byte) (by decide) (by decide))))
  have f5 := (Exa.wr W48 f2)
  refine Gl.putF Y48 (host := "") (Or.inl (tw_25 hw)) Via.refl f4 f5 (Or.inr ⟨(tw_21 hw), rfl, hnm⟩) (tw_7 hw) ga (ty := (.array .byte)) (by decide) rfl rfl dI_54 rfl (fun T54 h54 Y54 W54 => ?_)
  have f6 : Fld Z h54 a "java/lang/String" "value" "[B" (.ref b36) := Fld.same W54 f4
  have K54 : Keep h0 h54 [a] := K48.wr W54 (Or.inl (List.mem_of_getElem? (i := 0) rfl))
  have f7 := (Exa.wr W54 f5)
  have f8 := (Fld.other W54 f3 (Or.inr (slot_ne (Or.inr (tw_22 hw)) (Or.inr (tw_21 hw)) (by decide) (t := .byte) (t' := (.array .byte)) (by decide) (by decide))))
  have f9 := ((f36_1.other W48 (Ne.symm (Nat.ne_of_lt (Nat.lt_of_lt_of_le E.lt f36_0)))).other W54 (Ne.symm (Nat.ne_of_lt (Nat.lt_of_lt_of_le E.lt f36_0))))
  exact Gl.retV Y54 (by decide) (by decide)  dI_57 ⟨b36, kb36, rfl, K54, zb36, f7, f8, (by first | exact f6 | (subst_vars; exact f6) | (rw [PF]; exact f6)), f9⟩
def R89 : Room := { frames := 5, cells := 2, slots := 12, locals := 74 }
def Q89 (Z : State) (a ca : Addr) (kc : ClassId) (cs u0 u1 u2 u3 : Int32) (h0 : Heap) (v : Option Value) (h : Heap) : Prop := ∃ b : Addr, ∃ kb : ClassId, v = none ∧ Keep h0 h [a] ∧ h0.size ≤ b ∧ Exa Z h a "java/lang/String" ∧ Fld Z h a "java/lang/String" "coder" "B" (.int 1) ∧ Fld Z h a "java/lang/String" "value" "[B" (.ref b) ∧ Arv Z h b kb .byte (8 : Int32) [(.int (uL u0)), (.int (uH u0)), (.int (uL u1)), (.int (uH u1)), (.int (uL u2)), (.int (uH u2)), (.int (uL u3)), (.int (uH u3))] (.int 0)
theorem ef89 (a ca : Addr) (m : MethodId) : entryFrame m #[(.ref a), (.ref ca)] 2 = mkF m 0 #[.val (.ref a), .val (.ref ca)] [] := by first | (simp [entryFrame, mkF, argsToLocals, Value.category]; done) | rfl
theorem rm89 (hw : HW a0 Z) (a ca : Addr) (kc : ClassId) (cs u0 u1 u2 u3 : Int32) (h0 : Heap) (n0 : Nat) (Z0 : n0 ≤ h0.size) (O : Old Z n0 h0) (S : uC Z cs) (hcs : ¬ cs = 0) (SA : uA Z) (SH : uS Z) (SL : uT Z) (E : Exa Z h0 a "java/lang/String") (F1 : Fld Z h0 a "java/lang/String" "value" "[B" .null) (F2 : Fld Z h0 a "java/lang/String" "coder" "B" (.int 0)) (ga : n0 ≤ a) (nca : own_ne ca a) (Vc : Arv Z h0 ca kc .char (4 : Int32) [(.int u0), (.int u1), (.int u2), (.int u3)] (.int 0)) (l0 : ¬ 255 < u0) (l1 : ¬ 255 < u1) (m2 : 255 < u2) (r_u0 : C16 u0) (r_u1 : C16 u1) (r_u2 : C16 u2) (r_u3 : C16 u3) : OMet l Z [] (⟨"java/lang/String", "<init>", "([C)V"⟩ : MethodName) jdk_42_method_3_code 2 none R89 #[(.ref a), (.ref ca)] h0 n0 (Q89 Z a ca kc cs u0 u1 u2 u3 h0) := by
  refine OMet.of (own := "java/lang/String") rfl (plainFor_of_name pn_1) (ef89 a ca) Z0 ?_
  intro p e s m below meth c T0 Y0 hnm
  refine Gl.aloadN Y0 rfl rfl dJ_0 rfl ?_
  refine Gl.aloadN Y0 rfl rfl dJ_1 rfl ?_
  refine Gl.iconst Y0 (v := (0 : Int32)) (by decide) dJ_2 rfl ?_
  refine Gl.aloadN Y0 rfl rfl dJ_3 rfl ?_
  refine Gl.arraylength Y0 Vc dJ_4 rfl ?_
  refine Gl.aconstNull Y0 dJ_5 rfl ?_
  refine Gl.callN Y0 rfl (tw_12 hw) (tw_13 hw) (tw_8 hw) (tw_15 hw) (by decide) (rm88 l Z a0 hw a ca kc cs u0 u1 u2 u3 h0 n0 Y0.sz O S (hcs) SA SH SL E F1 F2 ga nca Vc (l0) (l1) (m2) (r_u0) (r_u1) (r_u2) (r_u3)) (a := a) (argsL := [(.ref ca), (.int 0), (.int 4), .null]) (rest := []) rfl rfl (lenOf pd_7 rfl) rfl (by decide) (nle rfl) (by decide) (by decide) dJ_6 rfl (fun v6 T6 h6 Y6 q6 => ?_)
  obtain ⟨b6, kb6, rfl, K6, f6_0, f6_1, f6_2, f6_3, f6_4⟩ := q6
  have Y6_sz : n0 ≤ h0.size := Y0.sz
  have KK6 : Keep h0 h6 [a] := (Keep.refl h0 [a]).trans K6 (allS (Or.inl (List.mem_of_getElem? (i := 0) rfl)) all0)
  have zb6 : h0.size ≤ b6 := Nat.le_trans (Keep.refl h0 [a]).1 f6_0
  show Gl p e below _ (T6.setTop (mkF m 9 _ []))
  exact Gl.retV Y6 (by decide) (by decide)  dJ_9 ⟨b6, kb6, rfl, KK6, zb6, f6_1, f6_2, (by first | exact f6_3 | (subst_vars; exact f6_3) | (rw [PF]; exact f6_3)), f6_4⟩
def R90 : Room := { frames := 3, cells := 2, slots := 12, locals := 40 }
def Q90 (Z : State) (ca : Addr) (kc : ClassId) (u0 u1 u2 u3 : Int32) (h0 : Heap) (v : Option Value) (h : Heap) : Prop := ∃ b : Addr, ∃ kb : ClassId, v = some (.ref b) ∧ Keep h0 h [] ∧ h0.size ≤ b ∧ Arv Z h b kb .byte (8 : Int32) [(.int (uL u0)), (.int (uH u0)), (.int (uL u1)), (.int (uH u1)), (.int (uL u2)), (.int (uH u2)), (.int (uL u3)), (.int (uH u3))] (.int 0)
theorem ef90 (ca : Addr) (m : MethodId) : entryFrame m #[(.ref ca), (.int 0), (.int 4)] 6 = mkF m 0 #[.val (.ref ca), .val (.int 0), .val (.int 4), .unset, .unset, .unset] [] := by first | (simp [entryFrame, mkF, argsToLocals, Value.category]; done) | rfl
theorem rm90 (hw : HW a0 Z) (ca : Addr) (kc : ClassId) (u0 u1 u2 u3 : Int32) (h0 : Heap) (n0 : Nat) (Z0 : n0 ≤ h0.size) (O : Old Z n0 h0) (SA : uA Z) (SH : uS Z) (SL : uT Z) (Vc : Arv Z h0 ca kc .char (4 : Int32) [(.int u0), (.int u1), (.int u2), (.int u3)] (.int 0)) (l0 : ¬ 255 < u0) (l1 : ¬ 255 < u1) (l2 : ¬ 255 < u2) (m3 : 255 < u3) (r_u0 : C16 u0) (r_u1 : C16 u1) (r_u2 : C16 u2) (r_u3 : C16 u3) : OMet l Z [] (⟨"java/lang/StringUTF16", "compress", "([CII)[B"⟩ : MethodName) jdk_52_method_16_code 6 (some (.array .byte)) R90 #[(.ref ca), (.int 0), (.int 4)] h0 n0 (Q90 Z ca kc u0 u1 u2 u3 h0) := by
  refine OMet.of (own := "java/lang/StringUTF16") rfl (plainFor_of_name pn_0) (ef90 ca) Z0 ?_
  intro p e s m below meth c T0 Y0 hnm
  refine Gl.iloadN Y0 rfl dH_0 rfl ?_
  refine Gl.newP Y0 4 (ty := .byte) rfl (tw_20 hw) (by decide) (by decide) (nle rfl) (nle rfl) (nle rfl) dH_1 rfl (fun T1 h1 b1 ck1 Y1 E1 g1 sb1 V1 => ?_)
  have V1 : Arv Z h1 b1 ck1 .byte (4 : Int32) [(.int 0), (.int 0), (.int 0), (.int 0)] (.int 0) := V1.pad (pad_rep [] (.int 0) 4)
  have zb1 : h0.size ≤ b1 := Nat.le_trans (Keep.refl h0 []).1 (Nat.le_of_eq g1.symm)
  have K1 : Keep h0 h1 [] := (Keep.refl h0 []).ext E1
  show Gl p e below _ (T1.setTop (mkF m 3 _ [(.ref b1)]))
  refine Gl.astoreN Y1 rfl (L' := #[.val (.ref ca), .val (.int 0), .val (.int 4), .val (.ref b1), .unset, .unset]) rfl dH_3 rfl ?_
  refine Gl.aloadN Y1 rfl rfl dH_4 rfl ?_
  refine Gl.iloadN Y1 rfl dH_5 rfl ?_
  refine Gl.aloadN Y1 rfl rfl dH_6 rfl ?_
  refine Gl.iconst Y1 (v := (0 : Int32)) (by decide) dH_7 rfl ?_
  refine Gl.iloadN Y1 rfl dH_8 rfl ?_
  have f1 := (Vc.ext E1)
  refine Gl.callS Y1 (tw_46 hw) (tw_47 hw) (tw_44 hw) (tw_48 hw) (by decide) (rm12 l Z a0 hw ca b1 kc ck1 u0 u1 u2 u3 h1 n0 Y1.sz f1 V1 sb1 (Nat.ne_of_lt (Nat.lt_of_lt_of_eq Vc.lt g1.symm)) (l0) (l1) (l2) (m3)) (argsL := [(.ref ca), (.int 0), (.ref b1), (.int 0), (.int 4)]) (rest := []) rfl rfl (lenOf pd_3 rfl) rfl (by decide) (nle rfl) (by decide) (by decide) dH_9 rfl (fun v9 T9 h9 Y9 q9 => ?_)
  obtain ⟨rfl, K9, f9_0⟩ := q9
  have KK9 : Keep h0 h9 [] := K1.trans K9 (allS (Or.inr zb1) all0)
  show Gl p e below _ (T9.setTop (mkF m 12 _ [(.int 3)]))
  refine Gl.istore Y9 (L' := #[.val (.ref ca), .val (.int 0), .val (.int 4), .val (.ref b1), .val (.int 3), .unset]) rfl dH_12 rfl ?_
  refine Gl.iload Y9 rfl dH_14 rfl ?_
  refine Gl.iloadN Y9 rfl dH_16 rfl ?_
  refine Gl.icmpeq Y9 dH_17 (by decide) rfl rfl (fun c17 => ?_) (fun c17 => ?_)
  · exact absurd c17 (by decide)
  refine Gl.aloadN Y9 rfl rfl dH_20 rfl ?_
  refine Gl.iloadN Y9 rfl dH_21 rfl ?_
  refine Gl.iloadN Y9 rfl dH_22 rfl ?_
  have f2 := ((O.ext E1).keep K9 (allS sb1 all0))
  have f3 := (f1.keep K9 (ninS (Nat.ne_of_lt (Nat.lt_of_lt_of_eq Vc.lt g1.symm)) nin0))
  refine Gl.callS Y9 (tw_74 hw) (tw_75 hw) (tw_44 hw) (tw_76 hw) (by decide) (rm45 l Z a0 hw ca kc u0 u1 u2 u3 h9 n0 Y9.sz f2 SA SH SL f3) (argsL := [(.ref ca), (.int 0), (.int 4)]) (rest := []) rfl rfl (lenOf pd_4 rfl) rfl (by decide) (nle rfl) (by decide) (by decide) dH_23 rfl (fun v23 T23 h23 Y23 q23 => ?_)
  obtain ⟨b23, kb23, rfl, K23, f23_0, f23_1⟩ := q23
  have Y23_sz : n0 ≤ h9.size := Y9.sz
  have KK23 : Keep h0 h23 [] := KK9.trans K23 all0
  have zb23 : h0.size ≤ b23 := Nat.le_trans KK9.1 f23_0
  show Gl p e below _ (T23.setTop (mkF m 26 _ [(.ref b23)]))
  refine Gl.astore Y23 rfl (L' := #[.val (.ref ca), .val (.int 0), .val (.int 4), .val (.ref b1), .val (.int 3), .val (.ref b23)]) rfl dH_26 rfl ?_
  refine Gl.aload Y23 rfl rfl dH_28 rfl ?_
  refine Gl.iload Y23 rfl dH_30 rfl ?_
  have f4 := (f2.keep K23 all0)
  refine Gl.callS Y23 (tw_90 hw) (tw_91 hw) (tw_44 hw) (tw_92 hw) (by decide) (rm44 l Z a0 hw b23 kb23 u0 u1 u2 u3 h23 n0 Y23.sz f4 SA SH SL f23_1 (r_u0) (r_u1) (r_u2) (r_u3)) (argsL := [(.ref b23), (.int 3)]) (rest := []) rfl rfl (lenOf pd_5 rfl) rfl (by decide) (nle rfl) (by decide) (by decide) dH_32 rfl (fun v32 T32 h32 Y32 q32 => ?_)
  obtain ⟨rfl, rfl⟩ := q32
  show Gl p e below _ (T32.setTop (mkF m 35 _ [(.int u3)]))
  refine Gl.sipush Y32 (v := (255 : Int32)) (by decide) dH_35 rfl ?_
  refine Gl.icmpgt Y32 dH_38 (by decide) rfl rfl (fun c38 => ?_) (fun c38 => ?_)
  rotate_left
  · exact absurd m3 c38
  refine Gl.aload Y32 rfl rfl dH_54 rfl ?_
  exact Gl.retA Y32 (by decide) (by decide) rfl rfl dH_56 ⟨b23, kb23, rfl, KK23, zb23, f23_1⟩
def R91 : Room := { frames := 4, cells := 2, slots := 12, locals := 57 }
def Q91 (Z : State) (a ca : Addr) (kc : ClassId) (cs u0 u1 u2 u3 : Int32) (h0 : Heap) (v : Option Value) (h : Heap) : Prop := ∃ b : Addr, ∃ kb : ClassId, v = none ∧ Keep h0 h [a] ∧ h0.size ≤ b ∧ Exa Z h a "java/lang/String" ∧ Fld Z h a "java/lang/String" "coder" "B" (.int 1) ∧ Fld Z h a "java/lang/String" "value" "[B" (.ref b) ∧ Arv Z h b kb .byte (8 : Int32) [(.int (uL u0)), (.int (uH u0)), (.int (uL u1)), (.int (uH u1)), (.int (uL u2)), (.int (uH u2)), (.int (uL u3)), (.int (uH u3))] (.int 0)
theorem ef91 (a ca : Addr) (m : MethodId) : entryFrame m #[(.ref a), (.ref ca), (.int 0), (.int 4), .null] 6 = mkF m 0 #[.val (.ref a), .val (.ref ca), .val (.int 0), .val (.int 4), .val .null, .unset] [] := by first | (simp [entryFrame, mkF, argsToLocals, Value.category]; done) | rfl
theorem rm91 (hw : HW a0 Z) (a ca : Addr) (kc : ClassId) (cs u0 u1 u2 u3 : Int32) (h0 : Heap) (n0 : Nat) (Z0 : n0 ≤ h0.size) (O : Old Z n0 h0) (S : uC Z cs) (hcs : ¬ cs = 0) (SA : uA Z) (SH : uS Z) (SL : uT Z) (E : Exa Z h0 a "java/lang/String") (F1 : Fld Z h0 a "java/lang/String" "value" "[B" .null) (F2 : Fld Z h0 a "java/lang/String" "coder" "B" (.int 0)) (ga : n0 ≤ a) (nca : own_ne ca a) (Vc : Arv Z h0 ca kc .char (4 : Int32) [(.int u0), (.int u1), (.int u2), (.int u3)] (.int 0)) (l0 : ¬ 255 < u0) (l1 : ¬ 255 < u1) (l2 : ¬ 255 < u2) (m3 : 255 < u3) (r_u0 : C16 u0) (r_u1 : C16 u1) (r_u2 : C16 u2) (r_u3 : C16 u3) : OMet l Z [] (⟨"java/lang/String", "<init>", "([CIILjava/lang/Void;)V"⟩ : MethodName) jdk_42_method_149_code 6 none R91 #[(.ref a), (.ref ca), (.int 0), (.int 4), .null] h0 n0 (Q91 Z a ca kc cs u0 u1 u2 u3 h0) := by
  refine OMet.of (own := "java/lang/String") rfl (plainFor_of_name pn_1) (ef91 a ca) Z0 ?_
  intro p e s m below meth c T0 Y0 hnm
  refine Gl.aloadN Y0 rfl rfl dI_0 rfl ?_
  refine Gl.initO Y0 (tw_16 hw) (tw_17 hw) (tw_18 hw) rfl (by decide) (nle rfl) dI_1 rfl (fun T1 Y1 => ?_)
  refine Gl.iloadN Y1 rfl dI_4 rfl ?_
  refine Gl.ifne Y1 dI_5 (by decide) rfl rfl (fun c5 => ?_) (fun c5 => ?_)
  rotate_left
  · exact absurd c5 (by decide)
  refine Gl.getS Y1 (host := "") (Or.inl (tw_41 hw)) Via.refl (Sta.ext O.2 S) dI_27 rfl (fun T27 Y27 => ?_)
  refine Gl.ifeq Y27 dI_30 (by decide) rfl rfl (fun c30 => ?_) (fun c30 => ?_)
  · exact absurd c30 hcs
  refine Gl.aloadN Y27 rfl rfl dI_33 rfl ?_
  refine Gl.iloadN Y27 rfl dI_34 rfl ?_
  refine Gl.iloadN Y27 rfl dI_35 rfl ?_
  refine Gl.callS Y27 (tw_42 hw) (tw_43 hw) (tw_44 hw) (tw_45 hw) (by decide) (rm90 l Z a0 hw ca kc u0 u1 u2 u3 h0 n0 Y27.sz O SA SH SL Vc (l0) (l1) (l2) (m3) (r_u0) (r_u1) (r_u2) (r_u3)) (argsL := [(.ref ca), (.int 0), (.int 4)]) (rest := []) rfl rfl (lenOf pd_4 rfl) rfl (by decide) (nle rfl) (by decide) (by decide) dI_36 rfl (fun v36 T36 h36 Y36 q36 => ?_)
  obtain ⟨b36, kb36, rfl, K36, f36_0, f36_1⟩ := q36
  have Y36_sz : n0 ≤ h0.size := Y27.sz
  have KK36 : Keep h0 h36 [a] := (Keep.refl h0 [a]).trans K36 all0
  have zb36 : h0.size ≤ b36 := Nat.le_trans (Keep.refl h0 [a]).1 f36_0
  show Gl p e below _ (T36.setTop (mkF m 39 _ [(.ref b36)]))
  refine Gl.astore Y36 rfl (L' := #[.val (.ref a), .val (.ref ca), .val (.int 0), .val (.int 4), .val .null, .val (.ref b36)]) rfl dI_39 rfl ?_
  refine Gl.aloadN Y36 rfl rfl dI_41 rfl ?_
  refine Gl.aload Y36 rfl rfl dI_42 rfl ?_
  refine Gl.iloadN Y36 rfl dI_44 rfl ?_
  refine Gl.callS Y36 (tw_49 hw) (tw_50 hw) (tw_44 hw) (tw_51 hw) (by decide) (rm80 l Z a0 hw b36 kb36 u0 u1 u2 u3 h36 n0 Y36.sz f36_1) (argsL := [(.ref b36), (.int 4)]) (rest := [(.ref a)]) rfl rfl (lenOf pd_6 rfl) rfl (by decide) (nle rfl) (by decide) (by decide) dI_45 rfl (fun v45 T45 h45 Y45 q45 => ?_)
  obtain ⟨rfl, rfl⟩ := q45
  show Gl p e below _ (T45.setTop (mkF m 48 _ [(.int 1), (.ref a)]))
  have f1 := (F2.keep K36 nin0)
  have f2 := (E.keep K36)
  refine Gl.putFN Y45 (tw_26 hw) Via.refl f1 f2 (Or.inr ⟨(tw_22 hw), rfl, hnm⟩) (tw_7 hw) ga (ty := .byte) (by decide) (v' := (.int 1)) (by decide) (by decide) dI_48 rfl (fun T48 h48 Y48 W48 => ?_)
  have f3 : Fld Z h48 a "java/lang/String" "coder" "B" (.int 1) := Fld.same W48 f1
  have K48 : Keep h0 h48 [a] := KK36.wr W48 (Or.inl (List.mem_of_getElem? (i := 0) rfl))
  refine Gl.aloadN Y48 rfl rfl dI_51 rfl ?_
  refine Gl.aload Y48 rfl rfl dI_52 rfl ?_
  have f4 := (Fld.other W48 (F1.keep K36 nin0) (Or.inr (slot_ne (Or.inr (tw_21 hw)) (Or.inr (tw_22 hw)) (by decide) (t := (.array .byte)) (t' := .byte) (by decide) (by decide))))
  have f5 := (Exa.wr W48 f2)
  refine Gl.putF Y48 (host := "") (Or.inl (tw_25 hw)) Via.refl f4 f5 (Or.inr ⟨(tw_21 hw), rfl, hnm⟩) (tw_7 hw) ga (ty := (.array .byte)) (by decide) rfl rfl dI_54 rfl (fun T54 h54 Y54 W54 => ?_)
  have f6 : Fld Z h54 a "java/lang/String" "value" "[B" (.ref b36) := Fld.same W54 f4
  have K54 : Keep h0 h54 [a] := K48.wr W54 (Or.inl (List.mem_of_getElem? (i := 0) rfl))
  have f7 := (Exa.wr W54 f5)
  have f8 := (Fld.other W54 f3 (Or.inr (slot_ne (Or.inr (tw_22 hw)) (Or.inr (tw_21 hw)) (by decide) (t := .byte) (t' := (.array .byte)) (by decide) (by decide))))
  have f9 := ((f36_1.other W48 (Ne.symm (Nat.ne_of_lt (Nat.lt_of_lt_of_le E.lt f36_0)))).other W54 (Ne.symm (Nat.ne_of_lt (Nat.lt_of_lt_of_le E.lt f36_0))))
  exact Gl.retV Y54 (by decide) (by decide)  dI_57 ⟨b36, kb36, rfl, K54, zb36, f7, f8, (by first | exact f6 | (subst_vars; exact f6) | (rw [PF]; exact f6)), f9⟩
def R92 : Room := { frames := 5, cells := 2, slots := 12, locals := 74 }
def Q92 (Z : State) (a ca : Addr) (kc : ClassId) (cs u0 u1 u2 u3 : Int32) (h0 : Heap) (v : Option Value) (h : Heap) : Prop := ∃ b : Addr, ∃ kb : ClassId, v = none ∧ Keep h0 h [a] ∧ h0.size ≤ b ∧ Exa Z h a "java/lang/String" ∧ Fld Z h a "java/lang/String" "coder" "B" (.int 1) ∧ Fld Z h a "java/lang/String" "value" "[B" (.ref b) ∧ Arv Z h b kb .byte (8 : Int32) [(.int (uL u0)), (.int (uH u0)), (.int (uL u1)), (.int (uH u1)), (.int (uL u2)), (.int (uH u2)), (.int (uL u3)), (.int (uH u3))] (.int 0)
theorem ef92 (a ca : Addr) (m : MethodId) : entryFrame m #[(.ref a), (.ref ca)] 2 = mkF m 0 #[.val (.ref a), .val (.ref ca)] [] := by first | (simp [entryFrame, mkF, argsToLocals, Value.category]; done) | rfl
theorem rm92 (hw : HW a0 Z) (a ca : Addr) (kc : ClassId) (cs u0 u1 u2 u3 : Int32) (h0 : Heap) (n0 : Nat) (Z0 : n0 ≤ h0.size) (O : Old Z n0 h0) (S : uC Z cs) (hcs : ¬ cs = 0) (SA : uA Z) (SH : uS Z) (SL : uT Z) (E : Exa Z h0 a "java/lang/String") (F1 : Fld Z h0 a "java/lang/String" "value" "[B" .null) (F2 : Fld Z h0 a "java/lang/String" "coder" "B" (.int 0)) (ga : n0 ≤ a) (nca : own_ne ca a) (Vc : Arv Z h0 ca kc .char (4 : Int32) [(.int u0), (.int u1), (.int u2), (.int u3)] (.int 0)) (l0 : ¬ 255 < u0) (l1 : ¬ 255 < u1) (l2 : ¬ 255 < u2) (m3 : 255 < u3) (r_u0 : C16 u0) (r_u1 : C16 u1) (r_u2 : C16 u2) (r_u3 : C16 u3) : OMet l Z [] (⟨"java/lang/String", "<init>", "([C)V"⟩ : MethodName) jdk_42_method_3_code 2 none R92 #[(.ref a), (.ref ca)] h0 n0 (Q92 Z a ca kc cs u0 u1 u2 u3 h0) := by
  refine OMet.of (own := "java/lang/String") rfl (plainFor_of_name pn_1) (ef92 a ca) Z0 ?_
  intro p e s m below meth c T0 Y0 hnm
  refine Gl.aloadN Y0 rfl rfl dJ_0 rfl ?_
  refine Gl.aloadN Y0 rfl rfl dJ_1 rfl ?_
  refine Gl.iconst Y0 (v := (0 : Int32)) (by decide) dJ_2 rfl ?_
  refine Gl.aloadN Y0 rfl rfl dJ_3 rfl ?_
  refine Gl.arraylength Y0 Vc dJ_4 rfl ?_
  refine Gl.aconstNull Y0 dJ_5 rfl ?_
  refine Gl.callN Y0 rfl (tw_12 hw) (tw_13 hw) (tw_8 hw) (tw_15 hw) (by decide) (rm91 l Z a0 hw a ca kc cs u0 u1 u2 u3 h0 n0 Y0.sz O S (hcs) SA SH SL E F1 F2 ga nca Vc (l0) (l1) (l2) (m3) (r_u0) (r_u1) (r_u2) (r_u3)) (a := a) (argsL := [(.ref ca), (.int 0), (.int 4), .null]) (rest := []) rfl rfl (lenOf pd_7 rfl) rfl (by decide) (nle rfl) (by decide) (by decide) dJ_6 rfl (fun v6 T6 h6 Y6 q6 => ?_)
  obtain ⟨b6, kb6, rfl, K6, f6_0, f6_1, f6_2, f6_3, f6_4⟩ := q6
  have Y6_sz : n0 ≤ h0.size := Y0.sz
  have KK6 : Keep h0 h6 [a] := (Keep.refl h0 [a]).trans K6 (allS (Or.inl (List.mem_of_getElem? (i := 0) rfl)) all0)
  have zb6 : h0.size ≤ b6 := Nat.le_trans (Keep.refl h0 [a]).1 f6_0
  show Gl p e below _ (T6.setTop (mkF m 9 _ []))
  exact Gl.retV Y6 (by decide) (by decide)  dJ_9 ⟨b6, kb6, rfl, KK6, zb6, f6_1, f6_2, (by first | exact f6_3 | (subst_vars; exact f6_3) | (rw [PF]; exact f6_3)), f6_4⟩
def R93 : Room := { frames := 1, cells := 1, slots := 4, locals := 18 }
def Q93 (Z : State) (ca : Addr) (kc : ClassId) (u0 u1 u2 u3 : Int32) (h0 : Heap) (v : Option Value) (h : Heap) : Prop := ∃ b : Addr, ∃ kb : ClassId, v = some (.ref b) ∧ Keep h0 h [] ∧ h0.size ≤ b ∧ Arv Z h b kb .byte (4 : Int32) [(.int (bL u0)), (.int (bL u1)), (.int (bL u2)), (.int (bL u3))] (.int 0)
theorem ef93 (ca : Addr) (m : MethodId) : entryFrame m #[(.ref ca), (.int 0), (.int 4)] 6 = mkF m 0 #[.val (.ref ca), .val (.int 0), .val (.int 4), .unset, .unset, .unset] [] := by first | (simp [entryFrame, mkF, argsToLocals, Value.category]; done) | rfl
theorem rm93 (hw : HW a0 Z) (ca : Addr) (kc : ClassId) (u0 u1 u2 u3 : Int32) (h0 : Heap) (n0 : Nat) (Z0 : n0 ≤ h0.size) (O : Old Z n0 h0) (SA : uA Z) (SH : uS Z) (SL : uT Z) (Vc : Arv Z h0 ca kc .char (4 : Int32) [(.int u0), (.int u1), (.int u2), (.int u3)] (.int 0)) (l0 : ¬ 255 < u0) (l1 : ¬ 255 < u1) (l2 : ¬ 255 < u2) (l3 : ¬ 255 < u3) (r_u0 : C16 u0) (r_u1 : C16 u1) (r_u2 : C16 u2) (r_u3 : C16 u3) : OMet l Z [] (⟨"java/lang/StringUTF16", "compress", "([CII)[B"⟩ : MethodName) jdk_52_method_16_code 6 (some (.array .byte)) R93 #[(.ref ca), (.int 0), (.int 4)] h0 n0 (Q93 Z ca kc u0 u1 u2 u3 h0) := by
  refine OMet.of (own := "java/lang/StringUTF16") rfl (plainFor_of_name pn_0) (ef93 ca) Z0 ?_
  intro p e s m below meth c T0 Y0 hnm
  refine Gl.iloadN Y0 rfl dH_0 rfl ?_
  refine Gl.newP Y0 4 (ty := .byte) rfl (tw_20 hw) (by decide) (by decide) (nle rfl) (nle rfl) (nle rfl) dH_1 rfl (fun T1 h1 b1 ck1 Y1 E1 g1 sb1 V1 => ?_)
  have V1 : Arv Z h1 b1 ck1 .byte (4 : Int32) [(.int 0), (.int 0), (.int 0), (.int 0)] (.int 0) := V1.pad (pad_rep [] (.int 0) 4)
  have zb1 : h0.size ≤ b1 := Nat.le_trans (Keep.refl h0 []).1 (Nat.le_of_eq g1.symm)
  have K1 : Keep h0 h1 [] := (Keep.refl h0 []).ext E1
  show Gl p e below _ (T1.setTop (mkF m 3 _ [(.ref b1)]))
  refine Gl.astoreN Y1 rfl (L' := #[.val (.ref ca), .val (.int 0), .val (.int 4), .val (.ref b1), .unset, .unset]) rfl dH_3 rfl ?_
  refine Gl.aloadN Y1 rfl rfl dH_4 rfl ?_
  refine Gl.iloadN Y1 rfl dH_5 rfl ?_
  refine Gl.aloadN Y1 rfl rfl dH_6 rfl ?_
  refine Gl.iconst Y1 (v := (0 : Int32)) (by decide) dH_7 rfl ?_
  refine Gl.iloadN Y1 rfl dH_8 rfl ?_
  have f1 := (Vc.ext E1)
  refine Gl.callS Y1 (tw_46 hw) (tw_47 hw) (tw_44 hw) (tw_48 hw) (by decide) (rm13 l Z a0 hw ca b1 kc ck1 u0 u1 u2 u3 h1 n0 Y1.sz f1 V1 sb1 (Nat.ne_of_lt (Nat.lt_of_lt_of_eq Vc.lt g1.symm)) (l0) (l1) (l2) (l3)) (argsL := [(.ref ca), (.int 0), (.ref b1), (.int 0), (.int 4)]) (rest := []) rfl rfl (lenOf pd_3 rfl) rfl (by decide) (nle rfl) (by decide) (by decide) dH_9 rfl (fun v9 T9 h9 Y9 q9 => ?_)
  obtain ⟨rfl, K9, f9_0⟩ := q9
  have KK9 : Keep h0 h9 [] := K1.trans K9 (allS (Or.inr zb1) all0)
  show Gl p e below _ (T9.setTop (mkF m 12 _ [(.int 4)]))
  refine Gl.istore Y9 (L' := #[.val (.ref ca), .val (.int 0), .val (.int 4), .val (.ref b1), .val (.int 4), .unset]) rfl dH_12 rfl ?_
  refine Gl.iload Y9 rfl dH_14 rfl ?_
  refine Gl.iloadN Y9 rfl dH_16 rfl ?_
  refine Gl.icmpeq Y9 dH_17 (by decide) rfl rfl (fun c17 => ?_) (fun c17 => ?_)
  rotate_left
  · exact absurd c17 (by decide)
  refine Gl.aloadN Y9 rfl rfl dH_57 rfl ?_
  exact Gl.retA Y9 (by decide) (by decide) rfl rfl dH_58 ⟨b1, ck1, rfl, KK9, zb1, f9_0⟩
def R94 : Room := { frames := 2, cells := 1, slots := 4, locals := 35 }
def Q94 (Z : State) (a ca : Addr) (kc : ClassId) (cs u0 u1 u2 u3 : Int32) (h0 : Heap) (v : Option Value) (h : Heap) : Prop := ∃ b : Addr, ∃ kb : ClassId, v = none ∧ Keep h0 h [a] ∧ h0.size ≤ b ∧ Exa Z h a "java/lang/String" ∧ Fld Z h a "java/lang/String" "coder" "B" (.int 0) ∧ Fld Z h a "java/lang/String" "value" "[B" (.ref b) ∧ Arv Z h b kb .byte (4 : Int32) [(.int (bL u0)), (.int (bL u1)), (.int (bL u2)), (.int (bL u3))] (.int 0)
theorem ef94 (a ca : Addr) (m : MethodId) : entryFrame m #[(.ref a), (.ref ca), (.int 0), (.int 4), .null] 6 = mkF m 0 #[.val (.ref a), .val (.ref ca), .val (.int 0), .val (.int 4), .val .null, .unset] [] := by first | (simp [entryFrame, mkF, argsToLocals, Value.category]; done) | rfl
theorem rm94 (hw : HW a0 Z) (a ca : Addr) (kc : ClassId) (cs u0 u1 u2 u3 : Int32) (h0 : Heap) (n0 : Nat) (Z0 : n0 ≤ h0.size) (O : Old Z n0 h0) (S : uC Z cs) (hcs : ¬ cs = 0) (SA : uA Z) (SH : uS Z) (SL : uT Z) (E : Exa Z h0 a "java/lang/String") (F1 : Fld Z h0 a "java/lang/String" "value" "[B" .null) (F2 : Fld Z h0 a "java/lang/String" "coder" "B" (.int 0)) (ga : n0 ≤ a) (nca : own_ne ca a) (Vc : Arv Z h0 ca kc .char (4 : Int32) [(.int u0), (.int u1), (.int u2), (.int u3)] (.int 0)) (l0 : ¬ 255 < u0) (l1 : ¬ 255 < u1) (l2 : ¬ 255 < u2) (l3 : ¬ 255 < u3) (r_u0 : C16 u0) (r_u1 : C16 u1) (r_u2 : C16 u2) (r_u3 : C16 u3) : OMet l Z [] (⟨"java/lang/String", "<init>", "([CIILjava/lang/Void;)V"⟩ : MethodName) jdk_42_method_149_code 6 none R94 #[(.ref a), (.ref ca), (.int 0), (.int 4), .null] h0 n0 (Q94 Z a ca kc cs u0 u1 u2 u3 h0) := by
  refine OMet.of (own := "java/lang/String") rfl (plainFor_of_name pn_1) (ef94 a ca) Z0 ?_
  intro p e s m below meth c T0 Y0 hnm
  refine Gl.aloadN Y0 rfl rfl dI_0 rfl ?_
  refine Gl.initO Y0 (tw_16 hw) (tw_17 hw) (tw_18 hw) rfl (by decide) (nle rfl) dI_1 rfl (fun T1 Y1 => ?_)
  refine Gl.iloadN Y1 rfl dI_4 rfl ?_
  refine Gl.ifne Y1 dI_5 (by decide) rfl rfl (fun c5 => ?_) (fun c5 => ?_)
  rotate_left
  · exact absurd c5 (by decide)
  refine Gl.getS Y1 (host := "") (Or.inl (tw_41 hw)) Via.refl (Sta.ext O.2 S) dI_27 rfl (fun T27 Y27 => ?_)
  refine Gl.ifeq Y27 dI_30 (by decide) rfl rfl (fun c30 => ?_) (fun c30 => ?_)
  · exact absurd c30 hcs
  refine Gl.aloadN Y27 rfl rfl dI_33 rfl ?_
  refine Gl.iloadN Y27 rfl dI_34 rfl ?_
  refine Gl.iloadN Y27 rfl dI_35 rfl ?_
  refine Gl.callS Y27 (tw_42 hw) (tw_43 hw) (tw_44 hw) (tw_45 hw) (by decide) (rm93 l Z a0 hw ca kc u0 u1 u2 u3 h0 n0 Y27.sz O SA SH SL Vc (l0) (l1) (l2) (l3) (r_u0) (r_u1) (r_u2) (r_u3)) (argsL := [(.ref ca), (.int 0), (.int 4)]) (rest := []) rfl rfl (lenOf pd_4 rfl) rfl (by decide) (nle rfl) (by decide) (by decide) dI_36 rfl (fun v36 T36 h36 Y36 q36 => ?_)
  obtain ⟨b36, kb36, rfl, K36, f36_0, f36_1⟩ := q36
  have Y36_sz : n0 ≤ h0.size := Y27.sz
  have KK36 : Keep h0 h36 [a] := (Keep.refl h0 [a]).trans K36 all0
  have zb36 : h0.size ≤ b36 := Nat.le_trans (Keep.refl h0 [a]).1 f36_0
  show Gl p e below _ (T36.setTop (mkF m 39 _ [(.ref b36)]))
  refine Gl.astore Y36 rfl (L' := #[.val (.ref a), .val (.ref ca), .val (.int 0), .val (.int 4), .val .null, .val (.ref b36)]) rfl dI_39 rfl ?_
  refine Gl.aloadN Y36 rfl rfl dI_41 rfl ?_
  refine Gl.aload Y36 rfl rfl dI_42 rfl ?_
  refine Gl.iloadN Y36 rfl dI_44 rfl ?_
  refine Gl.callS Y36 (tw_49 hw) (tw_50 hw) (tw_44 hw) (tw_51 hw) (by decide) (rm79 l Z a0 hw b36 kb36 u0 u1 u2 u3 h36 n0 Y36.sz f36_1) (argsL := [(.ref b36), (.int 4)]) (rest := [(.ref a)]) rfl rfl (lenOf pd_6 rfl) rfl (by decide) (nle rfl) (by decide) (by decide) dI_45 rfl (fun v45 T45 h45 Y45 q45 => ?_)
  obtain ⟨rfl, rfl⟩ := q45
  show Gl p e below _ (T45.setTop (mkF m 48 _ [(.int 0), (.ref a)]))
  have f1 := (F2.keep K36 nin0)
  have f2 := (E.keep K36)
  refine Gl.putFN Y45 (tw_26 hw) Via.refl f1 f2 (Or.inr ⟨(tw_22 hw), rfl, hnm⟩) (tw_7 hw) ga (ty := .byte) (by decide) (v' := (.int 0)) (by decide) (by decide) dI_48 rfl (fun T48 h48 Y48 W48 => ?_)
  have f3 : Fld Z h48 a "java/lang/String" "coder" "B" (.int 0) := Fld.same W48 f1
  have K48 : Keep h0 h48 [a] := KK36.wr W48 (Or.inl (List.mem_of_getElem? (i := 0) rfl))
  refine Gl.aloadN Y48 rfl rfl dI_51 rfl ?_
  refine Gl.aload Y48 rfl rfl dI_52 rfl ?_
  have f4 := (Fld.other W48 (F1.keep K36 nin0) (Or.inr (slot_ne (Or.inr (tw_21 hw)) (Or.inr (tw_22 hw)) (by decide) (t := (.array .byte)) (t' := .byte) (by decide) (by decide))))
  have f5 := (Exa.wr W48 f2)
  refine Gl.putF Y48 (host := "") (Or.inl (tw_25 hw)) Via.refl f4 f5 (Or.inr ⟨(tw_21 hw), rfl, hnm⟩) (tw_7 hw) ga (ty := (.array .byte)) (by decide) rfl rfl dI_54 rfl (fun T54 h54 Y54 W54 => ?_)
  have f6 : Fld Z h54 a "java/lang/String" "value" "[B" (.ref b36) := Fld.same W54 f4
  have K54 : Keep h0 h54 [a] := K48.wr W54 (Or.inl (List.mem_of_getElem? (i := 0) rfl))
  have f7 := (Exa.wr W54 f5)
  have f8 := (Fld.other W54 f3 (Or.inr (slot_ne (Or.inr (tw_22 hw)) (Or.inr (tw_21 hw)) (by decide) (t := .byte) (t' := (.array .byte)) (by decide) (by decide))))
  have f9 := ((f36_1.other W48 (Ne.symm (Nat.ne_of_lt (Nat.lt_of_lt_of_le E.lt f36_0)))).other W54 (Ne.symm (Nat.ne_of_lt (Nat.lt_of_lt_of_le E.lt f36_0))))
  exact Gl.retV Y54 (by decide) (by decide)  dI_57 ⟨b36, kb36, rfl, K54, zb36, f7, f8, (by first | exact f6 | (subst_vars; exact f6) | (rw [PF]; exact f6)), f9⟩
def R95 : Room := { frames := 3, cells := 1, slots := 4, locals := 52 }
def Q95 (Z : State) (a ca : Addr) (kc : ClassId) (cs u0 u1 u2 u3 : Int32) (h0 : Heap) (v : Option Value) (h : Heap) : Prop := ∃ b : Addr, ∃ kb : ClassId, v = none ∧ Keep h0 h [a] ∧ h0.size ≤ b ∧ Exa Z h a "java/lang/String" ∧ Fld Z h a "java/lang/String" "coder" "B" (.int 0) ∧ Fld Z h a "java/lang/String" "value" "[B" (.ref b) ∧ Arv Z h b kb .byte (4 : Int32) [(.int (bL u0)), (.int (bL u1)), (.int (bL u2)), (.int (bL u3))] (.int 0)
theorem ef95 (a ca : Addr) (m : MethodId) : entryFrame m #[(.ref a), (.ref ca)] 2 = mkF m 0 #[.val (.ref a), .val (.ref ca)] [] := by first | (simp [entryFrame, mkF, argsToLocals, Value.category]; done) | rfl
theorem rm95 (hw : HW a0 Z) (a ca : Addr) (kc : ClassId) (cs u0 u1 u2 u3 : Int32) (h0 : Heap) (n0 : Nat) (Z0 : n0 ≤ h0.size) (O : Old Z n0 h0) (S : uC Z cs) (hcs : ¬ cs = 0) (SA : uA Z) (SH : uS Z) (SL : uT Z) (E : Exa Z h0 a "java/lang/String") (F1 : Fld Z h0 a "java/lang/String" "value" "[B" .null) (F2 : Fld Z h0 a "java/lang/String" "coder" "B" (.int 0)) (ga : n0 ≤ a) (nca : own_ne ca a) (Vc : Arv Z h0 ca kc .char (4 : Int32) [(.int u0), (.int u1), (.int u2), (.int u3)] (.int 0)) (l0 : ¬ 255 < u0) (l1 : ¬ 255 < u1) (l2 : ¬ 255 < u2) (l3 : ¬ 255 < u3) (r_u0 : C16 u0) (r_u1 : C16 u1) (r_u2 : C16 u2) (r_u3 : C16 u3) : OMet l Z [] (⟨"java/lang/String", "<init>", "([C)V"⟩ : MethodName) jdk_42_method_3_code 2 none R95 #[(.ref a), (.ref ca)] h0 n0 (Q95 Z a ca kc cs u0 u1 u2 u3 h0) := by
  refine OMet.of (own := "java/lang/String") rfl (plainFor_of_name pn_1) (ef95 a ca) Z0 ?_
  intro p e s m below meth c T0 Y0 hnm
  refine Gl.aloadN Y0 rfl rfl dJ_0 rfl ?_
  refine Gl.aloadN Y0 rfl rfl dJ_1 rfl ?_
  refine Gl.iconst Y0 (v := (0 : Int32)) (by decide) dJ_2 rfl ?_
  refine Gl.aloadN Y0 rfl rfl dJ_3 rfl ?_
  refine Gl.arraylength Y0 Vc dJ_4 rfl ?_
  refine Gl.aconstNull Y0 dJ_5 rfl ?_
  refine Gl.callN Y0 rfl (tw_12 hw) (tw_13 hw) (tw_8 hw) (tw_15 hw) (by decide) (rm94 l Z a0 hw a ca kc cs u0 u1 u2 u3 h0 n0 Y0.sz O S (hcs) SA SH SL E F1 F2 ga nca Vc (l0) (l1) (l2) (l3) (r_u0) (r_u1) (r_u2) (r_u3)) (a := a) (argsL := [(.ref ca), (.int 0), (.int 4), .null]) (rest := []) rfl rfl (lenOf pd_7 rfl) rfl (by decide) (nle rfl) (by decide) (by decide) dJ_6 rfl (fun v6 T6 h6 Y6 q6 => ?_)
  obtain ⟨b6, kb6, rfl, K6, f6_0, f6_1, f6_2, f6_3, f6_4⟩ := q6
  have Y6_sz : n0 ≤ h0.size := Y0.sz
  have KK6 : Keep h0 h6 [a] := (Keep.refl h0 [a]).trans K6 (allS (Or.inl (List.mem_of_getElem? (i := 0) rfl)) all0)
  have zb6 : h0.size ≤ b6 := Nat.le_trans (Keep.refl h0 [a]).1 f6_0
  show Gl p e below _ (T6.setTop (mkF m 9 _ []))
  exact Gl.retV Y6 (by decide) (by decide)  dJ_9 ⟨b6, kb6, rfl, KK6, zb6, f6_1, f6_2, (by first | exact f6_3 | (subst_vars; exact f6_3) | (rw [PF]; exact f6_3)), f6_4⟩
theorem own_rc {v : Value} (h : v.isRef = true) : v.category = 1 := by
  rcases ref_cases h with rfl | ⟨z, rfl⟩ <;> rfl
theorem dK_0 : decode jdk_41_method_11_code 0 = .ok (.iload_n 0, 1) := by decide +kernel
theorem dK_1 : decode jdk_41_method_11_code 1 = .ok (.ifCond .lt 8, 3) := by decide +kernel
theorem dK_4 : decode jdk_41_method_11_code 4 = .ok (.iload_n 0, 1) := by decide +kernel
theorem dK_5 : decode jdk_41_method_11_code 5 = .ok (.iload_n 1, 1) := by decide +kernel
theorem dK_6 : decode jdk_41_method_11_code 6 = .ok (.if_icmp .lt 10, 3) := by decide +kernel
theorem dK_16 : decode jdk_41_method_11_code 16 = .ok (.iload_n 0, 1) := by decide +kernel
theorem dK_17 : decode jdk_41_method_11_code 17 = .ok (.ireturn, 1) := by decide +kernel
def R96 : Room := { frames := 0, cells := 0, slots := 0, locals := 0 }
def Q96 (Z : State) (ix nn : Int32) (fm : Value) (h0 : Heap) (v : Option Value) (h : Heap) : Prop := v = some (.int ix) ∧ h0 = h
theorem ef96 (ix nn : Int32) (fm : Value) (hfm : fm.category = 1) (m : MethodId) : entryFrame m #[(.int ix), (.int nn), fm] 3 = mkF m 0 #[.val (.int ix), .val (.int nn), .val fm] [] := by simp [entryFrame, mkF, argsToLocals, show ∀ i : Int32, (Value.int i).category = 1 from fun _ => rfl, hfm]
theorem pn_2 : plainName "jdk/internal/util/Preconditions" = true := by first | (simp [plainName, overriddenIn]; done) | decide +kernel
theorem rm96 (hw : HW a0 Z) (ix nn : Int32) (fm : Value) (h0 : Heap) (n0 : Nat) (Z0 : n0 ≤ h0.size) (hfm : fm.category = 1) (h_a : ¬ ix < 0) (h_b : ix < nn) : OMet l Z [] (⟨"jdk/internal/util/Preconditions", "checkIndex", "(IILjava/util/function/BiFunction;)I"⟩ : MethodName) jdk_41_method_11_code 3 (some .int) R96 #[(.int ix), (.int nn), fm] h0 n0 (Q96 Z ix nn fm h0) := by
  refine OMet.of (own := "jdk/internal/util/Preconditions") rfl (plainFor_of_name pn_2) (ef96 ix nn fm hfm) Z0 ?_
  intro p e s m below meth c T0 Y0 hnm
  refine Gl.iloadN Y0 rfl dK_0 rfl ?_
  refine Gl.iflt Y0 dK_1 (by decide) rfl rfl (fun c1 => ?_) (fun c1 => ?_)
  · exact absurd c1 h_a
  refine Gl.iloadN Y0 rfl dK_4 rfl ?_
  refine Gl.iloadN Y0 rfl dK_5 rfl ?_
  refine Gl.icmplt Y0 dK_6 (by decide) rfl rfl (fun c6 => ?_) (fun c6 => ?_)
  rotate_left
  · exact absurd h_b c6
  refine Gl.iloadN Y0 rfl dK_16 rfl ?_
  exact Gl.retI Y0 (by decide) (by decide)  dK_17 ⟨rfl, rfl⟩
theorem dL_0 : decode jdk_42_method_155_code 0 = .ok (.iload_n 0, 1) := by decide +kernel
theorem dL_1 : decode jdk_42_method_155_code 1 = .ok (.iload_n 1, 1) := by decide +kernel
theorem dL_2 : decode jdk_42_method_155_code 2 = .ok (.getstatic 1053, 3) := by decide +kernel
theorem tw_69 {a0 : Array Value} {Z : State} (hw : HW a0 Z) : (Jvm.Cond.fieldLink "java/lang/String" (1053 : Nat) "jdk/internal/util/Preconditions" "SIOOBE_FORMATTER" "Ljava/util/function/BiFunction;").before a0 Z = true := hw _ (List.mem_of_getElem? (i := 69) rfl)
theorem dL_5 : decode jdk_42_method_155_code 5 = .ok (.invokestatic 1059, 3) := by decide +kernel
theorem tw_71 {a0 : Array Value} {Z : State} (hw : HW a0 Z) : (Jvm.Cond.methodLink "java/lang/String" (1059 : Nat) ({ cls := "jdk/internal/util/Preconditions", name := "checkIndex", desc := "(IILjava/util/function/BiFunction;)I" } : Jvm.MethodName)).before a0 Z = true := hw _ (List.mem_of_getElem? (i := 71) rfl)
theorem pd_8 : parseMethodDescriptor "(IILjava/util/function/BiFunction;)I" = some ⟨[.int, .int, (.object "java/util/function/BiFunction")], some .int⟩ := by decide +kernel
theorem tw_73 {a0 : Array Value} {Z : State} (hw : HW a0 Z) : (Jvm.Cond.code ({ cls := "jdk/internal/util/Preconditions", name := "checkIndex", desc := "(IILjava/util/function/BiFunction;)I" } : Jvm.MethodName) jdk_41_method_11_code (3 : Nat) (Option.some Jvm.ClassFile.FieldType.int)).before a0 Z = true := hw _ (List.mem_of_getElem? (i := 73) rfl)
theorem tw_70 {a0 : Array Value} {Z : State} (hw : HW a0 Z) : (Jvm.Cond.initialized "jdk/internal/util/Preconditions").before a0 Z = true := hw _ (List.mem_of_getElem? (i := 70) rfl)
theorem tw_72 {a0 : Array Value} {Z : State} (hw : HW a0 Z) : (Jvm.Cond.static ({ cls := "jdk/internal/util/Preconditions", name := "checkIndex", desc := "(IILjava/util/function/BiFunction;)I" } : Jvm.MethodName)).before a0 Z = true := hw _ (List.mem_of_getElem? (i := 72) rfl)
theorem dL_8 : decode jdk_42_method_155_code 8 = .ok (.pop, 1) := by decide +kernel
theorem dL_9 : decode jdk_42_method_155_code 9 = .ok (.return_, 1) := by decide +kernel
def R97 : Room := { frames := 1, cells := 0, slots := 0, locals := 14 }
def Q97 (Z : State) (ix nn : Int32) (fm : Value) (h0 : Heap) (v : Option Value) (h : Heap) : Prop := v = none ∧ h0 = h
theorem ef97 (ix nn : Int32) (m : MethodId) : entryFrame m #[(.int ix), (.int nn)] 2 = mkF m 0 #[.val (.int ix), .val (.int nn)] [] := by first | (simp [entryFrame, mkF, argsToLocals, Value.category]; done) | rfl
theorem rm97 (hw : HW a0 Z) (ix nn : Int32) (fm : Value) (h0 : Heap) (n0 : Nat) (Z0 : n0 ≤ h0.size) (O : Old Z n0 h0) (SF : uF Z fm) (hfm : fm.category = 1) (h_a : ¬ ix < 0) (h_b : ix < nn) : OMet l Z [] (⟨"java/lang/String", "checkIndex", "(II)V"⟩ : MethodName) jdk_42_method_155_code 2 none R97 #[(.int ix), (.int nn)] h0 n0 (Q97 Z ix nn fm h0) := by
  refine OMet.of (own := "java/lang/String") rfl (plainFor_of_name pn_1) (ef97 ix nn) Z0 ?_
  intro p e s m below meth c T0 Y0 hnm
  refine Gl.iloadN Y0 rfl dL_0 rfl ?_
  refine Gl.iloadN Y0 rfl dL_1 rfl ?_
  refine Gl.getS Y0 (host := "") (Or.inl (tw_69 hw)) Via.refl (Sta.ext O.2 SF) dL_2 rfl (fun T2 Y2 => ?_)
  refine Gl.callS Y2 (tw_71 hw) (tw_72 hw) (tw_70 hw) (tw_73 hw) (by decide) (rm96 l Z a0 hw ix nn fm h0 n0 Y2.sz (hfm) (h_a) (h_b)) (argsL := [(.int ix), (.int nn), fm]) (rest := []) rfl rfl (lenOf pd_8 rfl) rfl (by decide) (nle rfl) (by decide) (by decide) dL_5 rfl (fun v5 T5 h5 Y5 q5 => ?_)
  obtain ⟨rfl, rfl⟩ := q5
  show Gl p e below _ (T5.setTop (mkF m 8 _ [(.int ix)]))
  refine Gl.pop Y5 rfl dL_8 rfl ?_
  exact Gl.retV Y5 (by decide) (by decide)  dL_9 ⟨rfl, rfl⟩
theorem dM_0 : decode jdk_52_method_6_code 0 = .ok (.aload_n 0, 1) := by decide +kernel
theorem dM_1 : decode jdk_52_method_6_code 1 = .ok (.arraylength, 1) := by decide +kernel
theorem dM_2 : decode jdk_52_method_6_code 2 = .ok (.iconst 1, 1) := by decide +kernel
theorem dM_3 : decode jdk_52_method_6_code 3 = .ok (.ishr, 1) := by decide +kernel
theorem dM_4 : decode jdk_52_method_6_code 4 = .ok (.ireturn, 1) := by decide +kernel
def R98 : Room := { frames := 0, cells := 0, slots := 0, locals := 0 }
def Q98 (Z : State) (b : Addr) (kb : ClassId) (u0 : Int32) (h0 : Heap) (v : Option Value) (h : Heap) : Prop := v = some (.int 1) ∧ h0 = h
theorem ef98 (b : Addr) (m : MethodId) : entryFrame m #[(.ref b)] 1 = mkF m 0 #[.val (.ref b)] [] := by first | (simp [entryFrame, mkF, argsToLocals, Value.category]; done) | rfl
theorem rm98 (hw : HW a0 Z) (b : Addr) (kb : ClassId) (u0 : Int32) (h0 : Heap) (n0 : Nat) (Z0 : n0 ≤ h0.size) (Vb : Arv Z h0 b kb .byte (2 : Int32) [(.int (uL u0)), (.int (uH u0))] (.int 0)) : OMet l Z [] (⟨"java/lang/StringUTF16", "length", "([B)I"⟩ : MethodName) jdk_52_method_6_code 1 (some .int) R98 #[(.ref b)] h0 n0 (Q98 Z b kb u0 h0) := by
  refine OMet.of (own := "java/lang/StringUTF16") rfl (plainFor_of_name pn_0) (ef98 b) Z0 ?_
  intro p e s m below meth c T0 Y0 hnm
  refine Gl.aloadN Y0 rfl rfl dM_0 rfl ?_
  refine Gl.arraylength Y0 Vb dM_1 rfl ?_
  refine Gl.iconst Y0 (v := (1 : Int32)) (by decide) dM_2 rfl ?_
  refine Gl.ishr Y0 (r := (1 : Int32)) (by decide) dM_3 rfl ?_
  exact Gl.retI Y0 (by decide) (by decide)  dM_4 ⟨rfl, rfl⟩
theorem dN_0 : decode jdk_52_method_91_code 0 = .ok (.iload_n 0, 1) := by decide +kernel
theorem dN_1 : decode jdk_52_method_91_code 1 = .ok (.aload_n 1, 1) := by decide +kernel
theorem dN_2 : decode jdk_52_method_91_code 2 = .ok (.invokestatic 48, 3) := by decide +kernel
theorem tw_99 {a0 : Array Value} {Z : State} (hw : HW a0 Z) : (Jvm.Cond.methodLink "java/lang/StringUTF16" (48 : Nat) ({ cls := "java/lang/StringUTF16", name := "length", desc := "([B)I" } : Jvm.MethodName)).before a0 Z = true := hw _ (List.mem_of_getElem? (i := 99) rfl)
theorem pd_9 : parseMethodDescriptor "([B)I" = some ⟨[(.array .byte)], some .int⟩ := by decide +kernel
theorem tw_101 {a0 : Array Value} {Z : State} (hw : HW a0 Z) : (Jvm.Cond.code ({ cls := "java/lang/StringUTF16", name := "length", desc := "([B)I" } : Jvm.MethodName) jdk_52_method_6_code (1 : Nat) (Option.some Jvm.ClassFile.FieldType.int)).before a0 Z = true := hw _ (List.mem_of_getElem? (i := 101) rfl)
theorem tw_100 {a0 : Array Value} {Z : State} (hw : HW a0 Z) : (Jvm.Cond.static ({ cls := "java/lang/StringUTF16", name := "length", desc := "([B)I" } : Jvm.MethodName)).before a0 Z = true := hw _ (List.mem_of_getElem? (i := 100) rfl)
theorem dN_5 : decode jdk_52_method_91_code 5 = .ok (.invokestatic 414, 3) := by decide +kernel
theorem tw_102 {a0 : Array Value} {Z : State} (hw : HW a0 Z) : (Jvm.Cond.methodLink "java/lang/StringUTF16" (414 : Nat) ({ cls := "java/lang/String", name := "checkIndex", desc := "(II)V" } : Jvm.MethodName)).before a0 Z = true := hw _ (List.mem_of_getElem? (i := 102) rfl)
theorem pd_10 : parseMethodDescriptor "(II)V" = some ⟨[.int, .int], none⟩ := by decide +kernel
theorem tw_68 {a0 : Array Value} {Z : State} (hw : HW a0 Z) : (Jvm.Cond.code ({ cls := "java/lang/String", name := "checkIndex", desc := "(II)V" } : Jvm.MethodName) jdk_42_method_155_code (2 : Nat) (Option.none : Option Jvm.ClassFile.FieldType)).before a0 Z = true := hw _ (List.mem_of_getElem? (i := 68) rfl)
theorem tw_67 {a0 : Array Value} {Z : State} (hw : HW a0 Z) : (Jvm.Cond.static ({ cls := "java/lang/String", name := "checkIndex", desc := "(II)V" } : Jvm.MethodName)).before a0 Z = true := hw _ (List.mem_of_getElem? (i := 67) rfl)
theorem dN_8 : decode jdk_52_method_91_code 8 = .ok (.return_, 1) := by decide +kernel
def R99 : Room := { frames := 2, cells := 0, slots := 0, locals := 27 }
def Q99 (Z : State) (ix : Int32) (fm : Value) (b : Addr) (kb : ClassId) (u0 : Int32) (h0 : Heap) (v : Option Value) (h : Heap) : Prop := v = none ∧ h0 = h
theorem ef99 (ix : Int32) (b : Addr) (m : MethodId) : entryFrame m #[(.int ix), (.ref b)] 2 = mkF m 0 #[.val (.int ix), .val (.ref b)] [] := by first | (simp [entryFrame, mkF, argsToLocals, Value.category]; done) | rfl
theorem rm99 (hw : HW a0 Z) (ix : Int32) (fm : Value) (b : Addr) (kb : ClassId) (u0 : Int32) (h0 : Heap) (n0 : Nat) (Z0 : n0 ≤ h0.size) (O : Old Z n0 h0) (SF : uF Z fm) (hfm : fm.category = 1) (Vb : Arv Z h0 b kb .byte (2 : Int32) [(.int (uL u0)), (.int (uH u0))] (.int 0)) (h_a : ¬ ix < 0) (h_b : ix < 1) : OMet l Z [] (⟨"java/lang/StringUTF16", "checkIndex", "(I[B)V"⟩ : MethodName) jdk_52_method_91_code 2 none R99 #[(.int ix), (.ref b)] h0 n0 (Q99 Z ix fm b kb u0 h0) := by
  refine OMet.of (own := "java/lang/StringUTF16") rfl (plainFor_of_name pn_0) (ef99 ix b) Z0 ?_
  intro p e s m below meth c T0 Y0 hnm
  refine Gl.iloadN Y0 rfl dN_0 rfl ?_
  refine Gl.aloadN Y0 rfl rfl dN_1 rfl ?_
  refine Gl.callS Y0 (tw_99 hw) (tw_100 hw) (tw_44 hw) (tw_101 hw) (by decide) (rm98 l Z a0 hw b kb u0 h0 n0 Y0.sz Vb) (argsL := [(.ref b)]) (rest := [(.int ix)]) rfl rfl (lenOf pd_9 rfl) rfl (by decide) (nle rfl) (by decide) (by decide) dN_2 rfl (fun v2 T2 h2 Y2 q2 => ?_)
  obtain ⟨rfl, rfl⟩ := q2
  show Gl p e below _ (T2.setTop (mkF m 5 _ [(.int 1), (.int ix)]))
  refine Gl.callS Y2 (tw_102 hw) (tw_67 hw) (tw_8 hw) (tw_68 hw) (by decide) (rm97 l Z a0 hw ix (1 : Int32) fm h0 n0 Y2.sz O SF (hfm) (h_a) (h_b)) (argsL := [(.int ix), (.int 1)]) (rest := []) rfl rfl (lenOf pd_10 rfl) rfl (by decide) (nle rfl) (by decide) (by decide) dN_5 rfl (fun v5 T5 h5 Y5 q5 => ?_)
  obtain ⟨rfl, rfl⟩ := q5
  show Gl p e below _ (T5.setTop (mkF m 8 _ []))
  exact Gl.retV Y5 (by decide) (by decide)  dN_8 ⟨rfl, rfl⟩
theorem dO_0 : decode jdk_52_method_83_code 0 = .ok (.iload_n 1, 1) := by decide +kernel
theorem dO_1 : decode jdk_52_method_83_code 1 = .ok (.aload_n 0, 1) := by decide +kernel
theorem dO_2 : decode jdk_52_method_83_code 2 = .ok (.invokestatic 67, 3) := by decide +kernel
theorem tw_96 {a0 : Array Value} {Z : State} (hw : HW a0 Z) : (Jvm.Cond.methodLink "java/lang/StringUTF16" (67 : Nat) ({ cls := "java/lang/StringUTF16", name := "checkIndex", desc := "(I[B)V" } : Jvm.MethodName)).before a0 Z = true := hw _ (List.mem_of_getElem? (i := 96) rfl)
theorem pd_11 : parseMethodDescriptor "(I[B)V" = some ⟨[.int, (.array .byte)], none⟩ := by decide +kernel
theorem tw_98 {a0 : Array Value} {Z : State} (hw : HW a0 Z) : (Jvm.Cond.code ({ cls := "java/lang/StringUTF16", name := "checkIndex", desc := "(I[B)V" } : Jvm.MethodName) jdk_52_method_91_code (2 : Nat) (Option.none : Option Jvm.ClassFile.FieldType)).before a0 Z = true := hw _ (List.mem_of_getElem? (i := 98) rfl)
theorem tw_97 {a0 : Array Value} {Z : State} (hw : HW a0 Z) : (Jvm.Cond.static ({ cls := "java/lang/StringUTF16", name := "checkIndex", desc := "(I[B)V" } : Jvm.MethodName)).before a0 Z = true := hw _ (List.mem_of_getElem? (i := 97) rfl)
theorem dO_5 : decode jdk_52_method_83_code 5 = .ok (.aload_n 0, 1) := by decide +kernel
theorem dO_6 : decode jdk_52_method_83_code 6 = .ok (.iload_n 1, 1) := by decide +kernel
theorem dO_7 : decode jdk_52_method_83_code 7 = .ok (.invokestatic 71, 3) := by decide +kernel
theorem dO_10 : decode jdk_52_method_83_code 10 = .ok (.ireturn, 1) := by decide +kernel
def R100 : Room := { frames := 3, cells := 0, slots := 0, locals := 40 }
def Q100 (Z : State) (fm : Value) (b : Addr) (kb : ClassId) (u0 : Int32) (h0 : Heap) (v : Option Value) (h : Heap) : Prop := v = some (.int u0) ∧ h0 = h
theorem ef100 (b : Addr) (m : MethodId) : entryFrame m #[(.ref b), (.int 0)] 2 = mkF m 0 #[.val (.ref b), .val (.int 0)] [] := by first | (simp [entryFrame, mkF, argsToLocals, Value.category]; done) | rfl
theorem rm100 (hw : HW a0 Z) (fm : Value) (b : Addr) (kb : ClassId) (u0 : Int32) (h0 : Heap) (n0 : Nat) (Z0 : n0 ≤ h0.size) (O : Old Z n0 h0) (SA : uA Z) (SH : uS Z) (SL : uT Z) (SF : uF Z fm) (hfm : fm.category = 1) (Vb : Arv Z h0 b kb .byte (2 : Int32) [(.int (uL u0)), (.int (uH u0))] (.int 0)) (r_u0 : C16 u0) : OMet l Z [] (⟨"java/lang/StringUTF16", "charAt", "([BI)C"⟩ : MethodName) jdk_52_method_83_code 2 (some .char) R100 #[(.ref b), (.int 0)] h0 n0 (Q100 Z fm b kb u0 h0) := by
  refine OMet.of (own := "java/lang/StringUTF16") rfl (plainFor_of_name pn_0) (ef100 b) Z0 ?_
  intro p e s m below meth c T0 Y0 hnm
  refine Gl.iloadN Y0 rfl dO_0 rfl ?_
  refine Gl.aloadN Y0 rfl rfl dO_1 rfl ?_
  refine Gl.callS Y0 (tw_96 hw) (tw_97 hw) (tw_44 hw) (tw_98 hw) (by decide) (rm99 l Z a0 hw (0 : Int32) fm b kb u0 h0 n0 Y0.sz O SF (hfm) Vb (by decide) (by decide)) (argsL := [(.int 0), (.ref b)]) (rest := []) rfl rfl (lenOf pd_11 rfl) rfl (by decide) (nle rfl) (by decide) (by decide) dO_2 rfl (fun v2 T2 h2 Y2 q2 => ?_)
  obtain ⟨rfl, rfl⟩ := q2
  show Gl p e below _ (T2.setTop (mkF m 5 _ []))
  refine Gl.aloadN Y2 rfl rfl dO_5 rfl ?_
  refine Gl.iloadN Y2 rfl dO_6 rfl ?_
  refine Gl.callS Y2 (tw_90 hw) (tw_91 hw) (tw_44 hw) (tw_92 hw) (by decide) (rm17 l Z a0 hw b kb u0 h0 n0 Y2.sz O SA SH SL Vb (r_u0)) (argsL := [(.ref b), (.int 0)]) (rest := []) rfl rfl (lenOf pd_5 rfl) rfl (by decide) (nle rfl) (by decide) (by decide) dO_7 rfl (fun v7 T7 h7 Y7 q7 => ?_)
  obtain ⟨rfl, rfl⟩ := q7
  show Gl p e below _ (T7.setTop (mkF m 10 _ [(.int u0)]))
  exact Gl.retC Y7 (by decide) (by decide) (x' := u0) (own_narCr r_u0.1 r_u0.2) dO_10 ⟨rfl, rfl⟩
theorem dP_0 : decode jdk_43_method_2_code 0 = .ok (.iload_n 1, 1) := by decide +kernel
theorem dP_1 : decode jdk_43_method_2_code 1 = .ok (.aload_n 0, 1) := by decide +kernel
theorem dP_2 : decode jdk_43_method_2_code 2 = .ok (.arraylength, 1) := by decide +kernel
theorem dP_3 : decode jdk_43_method_2_code 3 = .ok (.invokestatic 9, 3) := by decide +kernel
theorem tw_66 {a0 : Array Value} {Z : State} (hw : HW a0 Z) : (Jvm.Cond.methodLink "java/lang/StringLatin1" (9 : Nat) ({ cls := "java/lang/String", name := "checkIndex", desc := "(II)V" } : Jvm.MethodName)).before a0 Z = true := hw _ (List.mem_of_getElem? (i := 66) rfl)
theorem dP_6 : decode jdk_43_method_2_code 6 = .ok (.aload_n 0, 1) := by decide +kernel
theorem dP_7 : decode jdk_43_method_2_code 7 = .ok (.iload_n 1, 1) := by decide +kernel
theorem dP_8 : decode jdk_43_method_2_code 8 = .ok (.baload, 1) := by decide +kernel
theorem dP_9 : decode jdk_43_method_2_code 9 = .ok (.sipush 255, 3) := by decide +kernel
theorem dP_12 : decode jdk_43_method_2_code 12 = .ok (.iand, 1) := by decide +kernel
theorem dP_13 : decode jdk_43_method_2_code 13 = .ok (.i2c, 1) := by decide +kernel
theorem dP_14 : decode jdk_43_method_2_code 14 = .ok (.ireturn, 1) := by decide +kernel
def R101 : Room := { frames := 2, cells := 0, slots := 0, locals := 27 }
def Q101 (Z : State) (fm : Value) (b : Addr) (kb : ClassId) (u0 : Int32) (h0 : Heap) (v : Option Value) (h : Heap) : Prop := v = some (.int u0) ∧ h0 = h
theorem ef101 (b : Addr) (m : MethodId) : entryFrame m #[(.ref b), (.int 0)] 2 = mkF m 0 #[.val (.ref b), .val (.int 0)] [] := by first | (simp [entryFrame, mkF, argsToLocals, Value.category]; done) | rfl
theorem pn_3 : plainName "java/lang/StringLatin1" = true := by first | (simp [plainName, overriddenIn]; done) | decide +kernel
theorem rm101 (hw : HW a0 Z) (fm : Value) (b : Addr) (kb : ClassId) (u0 : Int32) (h0 : Heap) (n0 : Nat) (Z0 : n0 ≤ h0.size) (O : Old Z n0 h0) (SF : uF Z fm) (hfm : fm.category = 1) (Vb : Arv Z h0 b kb .byte (1 : Int32) [(.int (bL u0))] (.int 0)) (r_u0 : C16 u0) (li : ¬ 255 < u0) : OMet l Z [] (⟨"java/lang/StringLatin1", "charAt", "([BI)C"⟩ : MethodName) jdk_43_method_2_code 2 (some .char) R101 #[(.ref b), (.int 0)] h0 n0 (Q101 Z fm b kb u0 h0) := by
  refine OMet.of (own := "java/lang/StringLatin1") rfl (plainFor_of_name pn_3) (ef101 b) Z0 ?_
  intro p e s m below meth c T0 Y0 hnm
  refine Gl.iloadN Y0 rfl dP_0 rfl ?_
  refine Gl.aloadN Y0 rfl rfl dP_1 rfl ?_
  refine Gl.arraylength Y0 Vb dP_2 rfl ?_
  refine Gl.callS Y0 (tw_66 hw) (tw_67 hw) (tw_8 hw) (tw_68 hw) (by decide) (rm97 l Z a0 hw (0 : Int32) (1 : Int32) fm h0 n0 Y0.sz O SF (hfm) (by decide) (by decide)) (argsL := [(.int 0), (.int 1)]) (rest := []) rfl rfl (lenOf pd_10 rfl) rfl (by decide) (nle rfl) (by decide) (by decide) dP_3 rfl (fun v3 T3 h3 Y3 q3 => ?_)
  obtain ⟨rfl, rfl⟩ := q3
  show Gl p e below _ (T3.setTop (mkF m 6 _ []))
  refine Gl.aloadN Y3 rfl rfl dP_6 rfl ?_
  refine Gl.iloadN Y3 rfl dP_7 rfl ?_
  refine Gl.baload Y3 Vb ⟨by decide, by decide⟩ (v := (.int (bL u0))) rfl dP_8 rfl ?_
  refine Gl.sipush Y3 (v := (255 : Int32)) (by decide) dP_9 rfl ?_
  refine Gl.iand Y3 rfl dP_12 rfl ?_
  refine Gl.i2c Y3 rfl dP_13 rfl ?_
  exact Gl.retC Y3 (by decide) (by decide) (x' := u0) ((own_narC rfl).trans (own_l1 u0 r_u0.1 li)) dP_14 ⟨rfl, rfl⟩
def R102 : Room := { frames := 0, cells := 0, slots := 0, locals := 0 }
def Q102 (Z : State) (b : Addr) (kb : ClassId) (u0 u1 : Int32) (h0 : Heap) (v : Option Value) (h : Heap) : Prop := v = some (.int 2) ∧ h0 = h
theorem ef102 (b : Addr) (m : MethodId) : entryFrame m #[(.ref b)] 1 = mkF m 0 #[.val (.ref b)] [] := by first | (simp [entryFrame, mkF, argsToLocals, Value.category]; done) | rfl
theorem rm102 (hw : HW a0 Z) (b : Addr) (kb : ClassId) (u0 u1 : Int32) (h0 : Heap) (n0 : Nat) (Z0 : n0 ≤ h0.size) (Vb : Arv Z h0 b kb .byte (4 : Int32) [(.int (uL u0)), (.int (uH u0)), (.int (uL u1)), (.int (uH u1))] (.int 0)) : OMet l Z [] (⟨"java/lang/StringUTF16", "length", "([B)I"⟩ : MethodName) jdk_52_method_6_code 1 (some .int) R102 #[(.ref b)] h0 n0 (Q102 Z b kb u0 u1 h0) := by
  refine OMet.of (own := "java/lang/StringUTF16") rfl (plainFor_of_name pn_0) (ef102 b) Z0 ?_
  intro p e s m below meth c T0 Y0 hnm
  refine Gl.aloadN Y0 rfl rfl dM_0 rfl ?_
  refine Gl.arraylength Y0 Vb dM_1 rfl ?_
  refine Gl.iconst Y0 (v := (1 : Int32)) (by decide) dM_2 rfl ?_
  refine Gl.ishr Y0 (r := (2 : Int32)) (by decide) dM_3 rfl ?_
  exact Gl.retI Y0 (by decide) (by decide)  dM_4 ⟨rfl, rfl⟩
def R103 : Room := { frames := 2, cells := 0, slots := 0, locals := 27 }
def Q103 (Z : State) (ix : Int32) (fm : Value) (b : Addr) (kb : ClassId) (u0 u1 : Int32) (h0 : Heap) (v : Option Value) (h : Heap) : Prop := v = none ∧ h0 = h
theorem ef103 (ix : Int32) (b : Addr) (m : MethodId) : entryFrame m #[(.int ix), (.ref b)] 2 = mkF m 0 #[.val (.int ix), .val (.ref b)] [] := by first | (simp [entryFrame, mkF, argsToLocals, Value.category]; done) | rfl
theorem rm103 (hw : HW a0 Z) (ix : Int32) (fm : Value) (b : Addr) (kb : ClassId) (u0 u1 : Int32) (h0 : Heap) (n0 : Nat) (Z0 : n0 ≤ h0.size) (O : Old Z n0 h0) (SF : uF Z fm) (hfm : fm.category = 1) (Vb : Arv Z h0 b kb .byte (4 : Int32) [(.int (uL u0)), (.int (uH u0)), (.int (uL u1)), (.int (uH u1))] (.int 0)) (h_a : ¬ ix < 0) (h_b : ix < 2) : OMet l Z [] (⟨"java/lang/StringUTF16", "checkIndex", "(I[B)V"⟩ : MethodName) jdk_52_method_91_code 2 none R103 #[(.int ix), (.ref b)] h0 n0 (Q103 Z ix fm b kb u0 u1 h0) := by
  refine OMet.of (own := "java/lang/StringUTF16") rfl (plainFor_of_name pn_0) (ef103 ix b) Z0 ?_
  intro p e s m below meth c T0 Y0 hnm
  refine Gl.iloadN Y0 rfl dN_0 rfl ?_
  refine Gl.aloadN Y0 rfl rfl dN_1 rfl ?_
  refine Gl.callS Y0 (tw_99 hw) (tw_100 hw) (tw_44 hw) (tw_101 hw) (by decide) (rm102 l Z a0 hw b kb u0 u1 h0 n0 Y0.sz Vb) (argsL := [(.ref b)]) (rest := [(.int ix)]) rfl rfl (lenOf pd_9 rfl) rfl (by decide) (nle rfl) (by decide) (by decide) dN_2 rfl (fun v2 T2 h2 Y2 q2 => ?_)
  obtain ⟨rfl, rfl⟩ := q2
  show Gl p e below _ (T2.setTop (mkF m 5 _ [(.int 2), (.int ix)]))
  refine Gl.callS Y2 (tw_102 hw) (tw_67 hw) (tw_8 hw) (tw_68 hw) (by decide) (rm97 l Z a0 hw ix (2 : Int32) fm h0 n0 Y2.sz O SF (hfm) (h_a) (h_b)) (argsL := [(.int ix), (.int 2)]) (rest := []) rfl rfl (lenOf pd_10 rfl) rfl (by decide) (nle rfl) (by decide) (by decide) dN_5 rfl (fun v5 T5 h5 Y5 q5 => ?_)
  obtain ⟨rfl, rfl⟩ := q5
  show Gl p e below _ (T5.setTop (mkF m 8 _ []))
  exact Gl.retV Y5 (by decide) (by decide)  dN_8 ⟨rfl, rfl⟩
def R104 : Room := { frames := 3, cells := 0, slots := 0, locals := 40 }
def Q104 (Z : State) (fm : Value) (b : Addr) (kb : ClassId) (u0 u1 : Int32) (h0 : Heap) (v : Option Value) (h : Heap) : Prop := v = some (.int u0) ∧ h0 = h
theorem ef104 (b : Addr) (m : MethodId) : entryFrame m #[(.ref b), (.int 0)] 2 = mkF m 0 #[.val (.ref b), .val (.int 0)] [] := by first | (simp [entryFrame, mkF, argsToLocals, Value.category]; done) | rfl
theorem rm104 (hw : HW a0 Z) (fm : Value) (b : Addr) (kb : ClassId) (u0 u1 : Int32) (h0 : Heap) (n0 : Nat) (Z0 : n0 ≤ h0.size) (O : Old Z n0 h0) (SA : uA Z) (SH : uS Z) (SL : uT Z) (SF : uF Z fm) (hfm : fm.category = 1) (Vb : Arv Z h0 b kb .byte (4 : Int32) [(.int (uL u0)), (.int (uH u0)), (.int (uL u1)), (.int (uH u1))] (.int 0)) (r_u0 : C16 u0) (r_u1 : C16 u1) : OMet l Z [] (⟨"java/lang/StringUTF16", "charAt", "([BI)C"⟩ : MethodName) jdk_52_method_83_code 2 (some .char) R104 #[(.ref b), (.int 0)] h0 n0 (Q104 Z fm b kb u0 u1 h0) := by
  refine OMet.of (own := "java/lang/StringUTF16") rfl (plainFor_of_name pn_0) (ef104 b) Z0 ?_
  intro p e s m below meth c T0 Y0 hnm
  refine Gl.iloadN Y0 rfl dO_0 rfl ?_
  refine Gl.aloadN Y0 rfl rfl dO_1 rfl ?_
  refine Gl.callS Y0 (tw_96 hw) (tw_97 hw) (tw_44 hw) (tw_98 hw) (by decide) (rm103 l Z a0 hw (0 : Int32) fm b kb u0 u1 h0 n0 Y0.sz O SF (hfm) Vb (by decide) (by decide)) (argsL := [(.int 0), (.ref b)]) (rest := []) rfl rfl (lenOf pd_11 rfl) rfl (by decide) (nle rfl) (by decide) (by decide) dO_2 rfl (fun v2 T2 h2 Y2 q2 => ?_)
  obtain ⟨rfl, rfl⟩ := q2
  show Gl p e below _ (T2.setTop (mkF m 5 _ []))
  refine Gl.aloadN Y2 rfl rfl dO_5 rfl ?_
  refine Gl.iloadN Y2 rfl dO_6 rfl ?_
  refine Gl.callS Y2 (tw_90 hw) (tw_91 hw) (tw_44 hw) (tw_92 hw) (by decide) (rm22 l Z a0 hw b kb u0 u1 h0 n0 Y2.sz O SA SH SL Vb (r_u0) (r_u1)) (argsL := [(.ref b), (.int 0)]) (rest := []) rfl rfl (lenOf pd_5 rfl) rfl (by decide) (nle rfl) (by decide) (by decide) dO_7 rfl (fun v7 T7 h7 Y7 q7 => ?_)
  obtain ⟨rfl, rfl⟩ := q7
  show Gl p e below _ (T7.setTop (mkF m 10 _ [(.int u0)]))
  exact Gl.retC Y7 (by decide) (by decide) (x' := u0) (own_narCr r_u0.1 r_u0.2) dO_10 ⟨rfl, rfl⟩
def R105 : Room := { frames := 2, cells := 0, slots := 0, locals := 27 }
def Q105 (Z : State) (fm : Value) (b : Addr) (kb : ClassId) (u0 u1 : Int32) (h0 : Heap) (v : Option Value) (h : Heap) : Prop := v = some (.int u0) ∧ h0 = h
theorem ef105 (b : Addr) (m : MethodId) : entryFrame m #[(.ref b), (.int 0)] 2 = mkF m 0 #[.val (.ref b), .val (.int 0)] [] := by first | (simp [entryFrame, mkF, argsToLocals, Value.category]; done) | rfl
theorem rm105 (hw : HW a0 Z) (fm : Value) (b : Addr) (kb : ClassId) (u0 u1 : Int32) (h0 : Heap) (n0 : Nat) (Z0 : n0 ≤ h0.size) (O : Old Z n0 h0) (SF : uF Z fm) (hfm : fm.category = 1) (Vb : Arv Z h0 b kb .byte (2 : Int32) [(.int (bL u0)), (.int (bL u1))] (.int 0)) (r_u0 : C16 u0) (r_u1 : C16 u1) (li : ¬ 255 < u0) : OMet l Z [] (⟨"java/lang/StringLatin1", "charAt", "([BI)C"⟩ : MethodName) jdk_43_method_2_code 2 (some .char) R105 #[(.ref b), (.int 0)] h0 n0 (Q105 Z fm b kb u0 u1 h0) := by
  refine OMet.of (own := "java/lang/StringLatin1") rfl (plainFor_of_name pn_3) (ef105 b) Z0 ?_
  intro p e s m below meth c T0 Y0 hnm
  refine Gl.iloadN Y0 rfl dP_0 rfl ?_
  refine Gl.aloadN Y0 rfl rfl dP_1 rfl ?_
  refine Gl.arraylength Y0 Vb dP_2 rfl ?_
  refine Gl.callS Y0 (tw_66 hw) (tw_67 hw) (tw_8 hw) (tw_68 hw) (by decide) (rm97 l Z a0 hw (0 : Int32) (2 : Int32) fm h0 n0 Y0.sz O SF (hfm) (by decide) (by decide)) (argsL := [(.int 0), (.int 2)]) (rest := []) rfl rfl (lenOf pd_10 rfl) rfl (by decide) (nle rfl) (by decide) (by decide) dP_3 rfl (fun v3 T3 h3 Y3 q3 => ?_)
  obtain ⟨rfl, rfl⟩ := q3
  show Gl p e below _ (T3.setTop (mkF m 6 _ []))
  refine Gl.aloadN Y3 rfl rfl dP_6 rfl ?_
  refine Gl.iloadN Y3 rfl dP_7 rfl ?_
  refine Gl.baload Y3 Vb ⟨by decide, by decide⟩ (v := (.int (bL u0))) rfl dP_8 rfl ?_
  refine Gl.sipush Y3 (v := (255 : Int32)) (by decide) dP_9 rfl ?_
  refine Gl.iand Y3 rfl dP_12 rfl ?_
  refine Gl.i2c Y3 rfl dP_13 rfl ?_
  exact Gl.retC Y3 (by decide) (by decide) (x' := u0) ((own_narC rfl).trans (own_l1 u0 r_u0.1 li)) dP_14 ⟨rfl, rfl⟩
def R106 : Room := { frames := 3, cells := 0, slots := 0, locals := 40 }
def Q106 (Z : State) (fm : Value) (b : Addr) (kb : ClassId) (u0 u1 : Int32) (h0 : Heap) (v : Option Value) (h : Heap) : Prop := v = some (.int u1) ∧ h0 = h
theorem ef106 (b : Addr) (m : MethodId) : entryFrame m #[(.ref b), (.int 1)] 2 = mkF m 0 #[.val (.ref b), .val (.int 1)] [] := by first | (simp [entryFrame, mkF, argsToLocals, Value.category]; done) | rfl
theorem rm106 (hw : HW a0 Z) (fm : Value) (b : Addr) (kb : ClassId) (u0 u1 : Int32) (h0 : Heap) (n0 : Nat) (Z0 : n0 ≤ h0.size) (O : Old Z n0 h0) (SA : uA Z) (SH : uS Z) (SL : uT Z) (SF : uF Z fm) (hfm : fm.category = 1) (Vb : Arv Z h0 b kb .byte (4 : Int32) [(.int (uL u0)), (.int (uH u0)), (.int (uL u1)), (.int (uH u1))] (.int 0)) (r_u0 : C16 u0) (r_u1 : C16 u1) : OMet l Z [] (⟨"java/lang/StringUTF16", "charAt", "([BI)C"⟩ : MethodName) jdk_52_method_83_code 2 (some .char) R106 #[(.ref b), (.int 1)] h0 n0 (Q106 Z fm b kb u0 u1 h0) := by
  refine OMet.of (own := "java/lang/StringUTF16") rfl (plainFor_of_name pn_0) (ef106 b) Z0 ?_
  intro p e s m below meth c T0 Y0 hnm
  refine Gl.iloadN Y0 rfl dO_0 rfl ?_
  refine Gl.aloadN Y0 rfl rfl dO_1 rfl ?_
  refine Gl.callS Y0 (tw_96 hw) (tw_97 hw) (tw_44 hw) (tw_98 hw) (by decide) (rm103 l Z a0 hw (1 : Int32) fm b kb u0 u1 h0 n0 Y0.sz O SF (hfm) Vb (by decide) (by decide)) (argsL := [(.int 1), (.ref b)]) (rest := []) rfl rfl (lenOf pd_11 rfl) rfl (by decide) (nle rfl) (by decide) (by decide) dO_2 rfl (fun v2 T2 h2 Y2 q2 => ?_)
  obtain ⟨rfl, rfl⟩ := q2
  show Gl p e below _ (T2.setTop (mkF m 5 _ []))
  refine Gl.aloadN Y2 rfl rfl dO_5 rfl ?_
  refine Gl.iloadN Y2 rfl dO_6 rfl ?_
  refine Gl.callS Y2 (tw_90 hw) (tw_91 hw) (tw_44 hw) (tw_92 hw) (by decide) (rm24 l Z a0 hw b kb u0 u1 h0 n0 Y2.sz O SA SH SL Vb (r_u0) (r_u1)) (argsL := [(.ref b), (.int 1)]) (rest := []) rfl rfl (lenOf pd_5 rfl) rfl (by decide) (nle rfl) (by decide) (by decide) dO_7 rfl (fun v7 T7 h7 Y7 q7 => ?_)
  obtain ⟨rfl, rfl⟩ := q7
  show Gl p e below _ (T7.setTop (mkF m 10 _ [(.int u1)]))
  exact Gl.retC Y7 (by decide) (by decide) (x' := u1) (own_narCr r_u1.1 r_u1.2) dO_10 ⟨rfl, rfl⟩
def R107 : Room := { frames := 2, cells := 0, slots := 0, locals := 27 }
def Q107 (Z : State) (fm : Value) (b : Addr) (kb : ClassId) (u0 u1 : Int32) (h0 : Heap) (v : Option Value) (h : Heap) : Prop := v = some (.int u1) ∧ h0 = h
theorem ef107 (b : Addr) (m : MethodId) : entryFrame m #[(.ref b), (.int 1)] 2 = mkF m 0 #[.val (.ref b), .val (.int 1)] [] := by first | (simp [entryFrame, mkF, argsToLocals, Value.category]; done) | rfl
theorem rm107 (hw : HW a0 Z) (fm : Value) (b : Addr) (kb : ClassId) (u0 u1 : Int32) (h0 : Heap) (n0 : Nat) (Z0 : n0 ≤ h0.size) (O : Old Z n0 h0) (SF : uF Z fm) (hfm : fm.category = 1) (Vb : Arv Z h0 b kb .byte (2 : Int32) [(.int (bL u0)), (.int (bL u1))] (.int 0)) (r_u0 : C16 u0) (r_u1 : C16 u1) (li : ¬ 255 < u1) : OMet l Z [] (⟨"java/lang/StringLatin1", "charAt", "([BI)C"⟩ : MethodName) jdk_43_method_2_code 2 (some .char) R107 #[(.ref b), (.int 1)] h0 n0 (Q107 Z fm b kb u0 u1 h0) := by
  refine OMet.of (own := "java/lang/StringLatin1") rfl (plainFor_of_name pn_3) (ef107 b) Z0 ?_
  intro p e s m below meth c T0 Y0 hnm
  refine Gl.iloadN Y0 rfl dP_0 rfl ?_
  refine Gl.aloadN Y0 rfl rfl dP_1 rfl ?_
  refine Gl.arraylength Y0 Vb dP_2 rfl ?_
  refine Gl.callS Y0 (tw_66 hw) (tw_67 hw) (tw_8 hw) (tw_68 hw) (by decide) (rm97 l Z a0 hw (1 : Int32) (2 : Int32) fm h0 n0 Y0.sz O SF (hfm) (by decide) (by decide)) (argsL := [(.int 1), (.int 2)]) (rest := []) rfl rfl (lenOf pd_10 rfl) rfl (by decide) (nle rfl) (by decide) (by decide) dP_3 rfl (fun v3 T3 h3 Y3 q3 => ?_)
  obtain ⟨rfl, rfl⟩ := q3
  show Gl p e below _ (T3.setTop (mkF m 6 _ []))
  refine Gl.aloadN Y3 rfl rfl dP_6 rfl ?_
  refine Gl.iloadN Y3 rfl dP_7 rfl ?_
  refine Gl.baload Y3 Vb ⟨by decide, by decide⟩ (v := (.int (bL u1))) rfl dP_8 rfl ?_
  refine Gl.sipush Y3 (v := (255 : Int32)) (by decide) dP_9 rfl ?_
  refine Gl.iand Y3 rfl dP_12 rfl ?_
  refine Gl.i2c Y3 rfl dP_13 rfl ?_
  exact Gl.retC Y3 (by decide) (by decide) (x' := u1) ((own_narC rfl).trans (own_l1 u1 r_u1.1 li)) dP_14 ⟨rfl, rfl⟩
def R108 : Room := { frames := 0, cells := 0, slots := 0, locals := 0 }
def Q108 (Z : State) (b : Addr) (kb : ClassId) (u0 u1 u2 : Int32) (h0 : Heap) (v : Option Value) (h : Heap) : Prop := v = some (.int 3) ∧ h0 = h
theorem ef108 (b : Addr) (m : MethodId) : entryFrame m #[(.ref b)] 1 = mkF m 0 #[.val (.ref b)] [] := by first | (simp [entryFrame, mkF, argsToLocals, Value.category]; done) | rfl
theorem rm108 (hw : HW a0 Z) (b : Addr) (kb : ClassId) (u0 u1 u2 : Int32) (h0 : Heap) (n0 : Nat) (Z0 : n0 ≤ h0.size) (Vb : Arv Z h0 b kb .byte (6 : Int32) [(.int (uL u0)), (.int (uH u0)), (.int (uL u1)), (.int (uH u1)), (.int (uL u2)), (.int (uH u2))] (.int 0)) : OMet l Z [] (⟨"java/lang/StringUTF16", "length", "([B)I"⟩ : MethodName) jdk_52_method_6_code 1 (some .int) R108 #[(.ref b)] h0 n0 (Q108 Z b kb u0 u1 u2 h0) := by
  refine OMet.of (own := "java/lang/StringUTF16") rfl (plainFor_of_name pn_0) (ef108 b) Z0 ?_
  intro p e s m below meth c T0 Y0 hnm
  refine Gl.aloadN Y0 rfl rfl dM_0 rfl ?_
  refine Gl.arraylength Y0 Vb dM_1 rfl ?_
  refine Gl.iconst Y0 (v := (1 : Int32)) (by decide) dM_2 rfl ?_
  refine Gl.ishr Y0 (r := (3 : Int32)) (by decide) dM_3 rfl ?_
  exact Gl.retI Y0 (by decide) (by decide)  dM_4 ⟨rfl, rfl⟩
def R109 : Room := { frames := 2, cells := 0, slots := 0, locals := 27 }
def Q109 (Z : State) (ix : Int32) (fm : Value) (b : Addr) (kb : ClassId) (u0 u1 u2 : Int32) (h0 : Heap) (v : Option Value) (h : Heap) : Prop := v = none ∧ h0 = h
theorem ef109 (ix : Int32) (b : Addr) (m : MethodId) : entryFrame m #[(.int ix), (.ref b)] 2 = mkF m 0 #[.val (.int ix), .val (.ref b)] [] := by first | (simp [entryFrame, mkF, argsToLocals, Value.category]; done) | rfl
theorem rm109 (hw : HW a0 Z) (ix : Int32) (fm : Value) (b : Addr) (kb : ClassId) (u0 u1 u2 : Int32) (h0 : Heap) (n0 : Nat) (Z0 : n0 ≤ h0.size) (O : Old Z n0 h0) (SF : uF Z fm) (hfm : fm.category = 1) (Vb : Arv Z h0 b kb .byte (6 : Int32) [(.int (uL u0)), (.int (uH u0)), (.int (uL u1)), (.int (uH u1)), (.int (uL u2)), (.int (uH u2))] (.int 0)) (h_a : ¬ ix < 0) (h_b : ix < 3) : OMet l Z [] (⟨"java/lang/StringUTF16", "checkIndex", "(I[B)V"⟩ : MethodName) jdk_52_method_91_code 2 none R109 #[(.int ix), (.ref b)] h0 n0 (Q109 Z ix fm b kb u0 u1 u2 h0) := by
  refine OMet.of (own := "java/lang/StringUTF16") rfl (plainFor_of_name pn_0) (ef109 ix b) Z0 ?_
  intro p e s m below meth c T0 Y0 hnm
  refine Gl.iloadN Y0 rfl dN_0 rfl ?_
  refine Gl.aloadN Y0 rfl rfl dN_1 rfl ?_
  refine Gl.callS Y0 (tw_99 hw) (tw_100 hw) (tw_44 hw) (tw_101 hw) (by decide) (rm108 l Z a0 hw b kb u0 u1 u2 h0 n0 Y0.sz Vb) (argsL := [(.ref b)]) (rest := [(.int ix)]) rfl rfl (lenOf pd_9 rfl) rfl (by decide) (nle rfl) (by decide) (by decide) dN_2 rfl (fun v2 T2 h2 Y2 q2 => ?_)
  obtain ⟨rfl, rfl⟩ := q2
  show Gl p e below _ (T2.setTop (mkF m 5 _ [(.int 3), (.int ix)]))
  refine Gl.callS Y2 (tw_102 hw) (tw_67 hw) (tw_8 hw) (tw_68 hw) (by decide) (rm97 l Z a0 hw ix (3 : Int32) fm h0 n0 Y2.sz O SF (hfm) (h_a) (h_b)) (argsL := [(.int ix), (.int 3)]) (rest := []) rfl rfl (lenOf pd_10 rfl) rfl (by decide) (nle rfl) (by decide) (by decide) dN_5 rfl (fun v5 T5 h5 Y5 q5 => ?_)
  obtain ⟨rfl, rfl⟩ := q5
  show Gl p e below _ (T5.setTop (mkF m 8 _ []))
  exact Gl.retV Y5 (by decide) (by decide)  dN_8 ⟨rfl, rfl⟩
def R110 : Room := { frames := 3, cells := 0, slots := 0, locals := 40 }
def Q110 (Z : State) (fm : Value) (b : Addr) (kb : ClassId) (u0 u1 u2 : Int32) (h0 : Heap) (v : Option Value) (h : Heap) : Prop := v = some (.int u0) ∧ h0 = h
theorem ef110 (b : Addr) (m : MethodId) : entryFrame m #[(.ref b), (.int 0)] 2 = mkF m 0 #[.val (.ref b), .val (.int 0)] [] := by first | (simp [entryFrame, mkF, argsToLocals, Value.category]; done) | rfl
theorem rm110 (hw : HW a0 Z) (fm : Value) (b : Addr) (kb : ClassId) (u0 u1 u2 : Int32) (h0 : Heap) (n0 : Nat) (Z0 : n0 ≤ h0.size) (O : Old Z n0 h0) (SA : uA Z) (SH : uS Z) (SL : uT Z) (SF : uF Z fm) (hfm : fm.category = 1) (Vb : Arv Z h0 b kb .byte (6 : Int32) [(.int (uL u0)), (.int (uH u0)), (.int (uL u1)), (.int (uH u1)), (.int (uL u2)), (.int (uH u2))] (.int 0)) (r_u0 : C16 u0) (r_u1 : C16 u1) (r_u2 : C16 u2) : OMet l Z [] (⟨"java/lang/StringUTF16", "charAt", "([BI)C"⟩ : MethodName) jdk_52_method_83_code 2 (some .char) R110 #[(.ref b), (.int 0)] h0 n0 (Q110 Z fm b kb u0 u1 u2 h0) := by
  refine OMet.of (own := "java/lang/StringUTF16") rfl (plainFor_of_name pn_0) (ef110 b) Z0 ?_
  intro p e s m below meth c T0 Y0 hnm
  refine Gl.iloadN Y0 rfl dO_0 rfl ?_
  refine Gl.aloadN Y0 rfl rfl dO_1 rfl ?_
  refine Gl.callS Y0 (tw_96 hw) (tw_97 hw) (tw_44 hw) (tw_98 hw) (by decide) (rm109 l Z a0 hw (0 : Int32) fm b kb u0 u1 u2 h0 n0 Y0.sz O SF (hfm) Vb (by decide) (by decide)) (argsL := [(.int 0), (.ref b)]) (rest := []) rfl rfl (lenOf pd_11 rfl) rfl (by decide) (nle rfl) (by decide) (by decide) dO_2 rfl (fun v2 T2 h2 Y2 q2 => ?_)
  obtain ⟨rfl, rfl⟩ := q2
  show Gl p e below _ (T2.setTop (mkF m 5 _ []))
  refine Gl.aloadN Y2 rfl rfl dO_5 rfl ?_
  refine Gl.iloadN Y2 rfl dO_6 rfl ?_
  refine Gl.callS Y2 (tw_90 hw) (tw_91 hw) (tw_44 hw) (tw_92 hw) (by decide) (rm29 l Z a0 hw b kb u0 u1 u2 h0 n0 Y2.sz O SA SH SL Vb (r_u0) (r_u1) (r_u2)) (argsL := [(.ref b), (.int 0)]) (rest := []) rfl rfl (lenOf pd_5 rfl) rfl (by decide) (nle rfl) (by decide) (by decide) dO_7 rfl (fun v7 T7 h7 Y7 q7 => ?_)
  obtain ⟨rfl, rfl⟩ := q7
  show Gl p e below _ (T7.setTop (mkF m 10 _ [(.int u0)]))
  exact Gl.retC Y7 (by decide) (by decide) (x' := u0) (own_narCr r_u0.1 r_u0.2) dO_10 ⟨rfl, rfl⟩
def R111 : Room := { frames := 2, cells := 0, slots := 0, locals := 27 }
def Q111 (Z : State) (fm : Value) (b : Addr) (kb : ClassId) (u0 u1 u2 : Int32) (h0 : Heap) (v : Option Value) (h : Heap) : Prop := v = some (.int u0) ∧ h0 = h
theorem ef111 (b : Addr) (m : MethodId) : entryFrame m #[(.ref b), (.int 0)] 2 = mkF m 0 #[.val (.ref b), .val (.int 0)] [] := by first | (simp [entryFrame, mkF, argsToLocals, Value.category]; done) | rfl
theorem rm111 (hw : HW a0 Z) (fm : Value) (b : Addr) (kb : ClassId) (u0 u1 u2 : Int32) (h0 : Heap) (n0 : Nat) (Z0 : n0 ≤ h0.size) (O : Old Z n0 h0) (SF : uF Z fm) (hfm : fm.category = 1) (Vb : Arv Z h0 b kb .byte (3 : Int32) [(.int (bL u0)), (.int (bL u1)), (.int (bL u2))] (.int 0)) (r_u0 : C16 u0) (r_u1 : C16 u1) (r_u2 : C16 u2) (li : ¬ 255 < u0) : OMet l Z [] (⟨"java/lang/StringLatin1", "charAt", "([BI)C"⟩ : MethodName) jdk_43_method_2_code 2 (some .char) R111 #[(.ref b), (.int 0)] h0 n0 (Q111 Z fm b kb u0 u1 u2 h0) := by
  refine OMet.of (own := "java/lang/StringLatin1") rfl (plainFor_of_name pn_3) (ef111 b) Z0 ?_
  intro p e s m below meth c T0 Y0 hnm
  refine Gl.iloadN Y0 rfl dP_0 rfl ?_
  refine Gl.aloadN Y0 rfl rfl dP_1 rfl ?_
  refine Gl.arraylength Y0 Vb dP_2 rfl ?_
  refine Gl.callS Y0 (tw_66 hw) (tw_67 hw) (tw_8 hw) (tw_68 hw) (by decide) (rm97 l Z a0 hw (0 : Int32) (3 : Int32) fm h0 n0 Y0.sz O SF (hfm) (by decide) (by decide)) (argsL := [(.int 0), (.int 3)]) (rest := []) rfl rfl (lenOf pd_10 rfl) rfl (by decide) (nle rfl) (by decide) (by decide) dP_3 rfl (fun v3 T3 h3 Y3 q3 => ?_)
  obtain ⟨rfl, rfl⟩ := q3
  show Gl p e below _ (T3.setTop (mkF m 6 _ []))
  refine Gl.aloadN Y3 rfl rfl dP_6 rfl ?_
  refine Gl.iloadN Y3 rfl dP_7 rfl ?_
  refine Gl.baload Y3 Vb ⟨by decide, by decide⟩ (v := (.int (bL u0))) rfl dP_8 rfl ?_
  refine Gl.sipush Y3 (v := (255 : Int32)) (by decide) dP_9 rfl ?_
  refine Gl.iand Y3 rfl dP_12 rfl ?_
  refine Gl.i2c Y3 rfl dP_13 rfl ?_
  exact Gl.retC Y3 (by decide) (by decide) (x' := u0) ((own_narC rfl).trans (own_l1 u0 r_u0.1 li)) dP_14 ⟨rfl, rfl⟩
def R112 : Room := { frames := 3, cells := 0, slots := 0, locals := 40 }
def Q112 (Z : State) (fm : Value) (b : Addr) (kb : ClassId) (u0 u1 u2 : Int32) (h0 : Heap) (v : Option Value) (h : Heap) : Prop := v = some (.int u1) ∧ h0 = h
theorem ef112 (b : Addr) (m : MethodId) : entryFrame m #[(.ref b), (.int 1)] 2 = mkF m 0 #[.val (.ref b), .val (.int 1)] [] := by first | (simp [entryFrame, mkF, argsToLocals, Value.category]; done) | rfl
theorem rm112 (hw : HW a0 Z) (fm : Value) (b : Addr) (kb : ClassId) (u0 u1 u2 : Int32) (h0 : Heap) (n0 : Nat) (Z0 : n0 ≤ h0.size) (O : Old Z n0 h0) (SA : uA Z) (SH : uS Z) (SL : uT Z) (SF : uF Z fm) (hfm : fm.category = 1) (Vb : Arv Z h0 b kb .byte (6 : Int32) [(.int (uL u0)), (.int (uH u0)), (.int (uL u1)), (.int (uH u1)), (.int (uL u2)), (.int (uH u2))] (.int 0)) (r_u0 : C16 u0) (r_u1 : C16 u1) (r_u2 : C16 u2) : OMet l Z [] (⟨"java/lang/StringUTF16", "charAt", "([BI)C"⟩ : MethodName) jdk_52_method_83_code 2 (some .char) R112 #[(.ref b), (.int 1)] h0 n0 (Q112 Z fm b kb u0 u1 u2 h0) := by
  refine OMet.of (own := "java/lang/StringUTF16") rfl (plainFor_of_name pn_0) (ef112 b) Z0 ?_
  intro p e s m below meth c T0 Y0 hnm
  refine Gl.iloadN Y0 rfl dO_0 rfl ?_
  refine Gl.aloadN Y0 rfl rfl dO_1 rfl ?_
  refine Gl.callS Y0 (tw_96 hw) (tw_97 hw) (tw_44 hw) (tw_98 hw) (by decide) (rm109 l Z a0 hw (1 : Int32) fm b kb u0 u1 u2 h0 n0 Y0.sz O SF (hfm) Vb (by decide) (by decide)) (argsL := [(.int 1), (.ref b)]) (rest := []) rfl rfl (lenOf pd_11 rfl) rfl (by decide) (nle rfl) (by decide) (by decide) dO_2 rfl (fun v2 T2 h2 Y2 q2 => ?_)
  obtain ⟨rfl, rfl⟩ := q2
  show Gl p e below _ (T2.setTop (mkF m 5 _ []))
  refine Gl.aloadN Y2 rfl rfl dO_5 rfl ?_
  refine Gl.iloadN Y2 rfl dO_6 rfl ?_
  refine Gl.callS Y2 (tw_90 hw) (tw_91 hw) (tw_44 hw) (tw_92 hw) (by decide) (rm31 l Z a0 hw b kb u0 u1 u2 h0 n0 Y2.sz O SA SH SL Vb (r_u0) (r_u1) (r_u2)) (argsL := [(.ref b), (.int 1)]) (rest := []) rfl rfl (lenOf pd_5 rfl) rfl (by decide) (nle rfl) (by decide) (by decide) dO_7 rfl (fun v7 T7 h7 Y7 q7 => ?_)
  obtain ⟨rfl, rfl⟩ := q7
  show Gl p e below _ (T7.setTop (mkF m 10 _ [(.int u1)]))
  exact Gl.retC Y7 (by decide) (by decide) (x' := u1) (own_narCr r_u1.1 r_u1.2) dO_10 ⟨rfl, rfl⟩
def R113 : Room := { frames := 2, cells := 0, slots := 0, locals := 27 }
def Q113 (Z : State) (fm : Value) (b : Addr) (kb : ClassId) (u0 u1 u2 : Int32) (h0 : Heap) (v : Option Value) (h : Heap) : Prop := v = some (.int u1) ∧ h0 = h
theorem ef113 (b : Addr) (m : MethodId) : entryFrame m #[(.ref b), (.int 1)] 2 = mkF m 0 #[.val (.ref b), .val (.int 1)] [] := by first | (simp [entryFrame, mkF, argsToLocals, Value.category]; done) | rfl
theorem rm113 (hw : HW a0 Z) (fm : Value) (b : Addr) (kb : ClassId) (u0 u1 u2 : Int32) (h0 : Heap) (n0 : Nat) (Z0 : n0 ≤ h0.size) (O : Old Z n0 h0) (SF : uF Z fm) (hfm : fm.category = 1) (Vb : Arv Z h0 b kb .byte (3 : Int32) [(.int (bL u0)), (.int (bL u1)), (.int (bL u2))] (.int 0)) (r_u0 : C16 u0) (r_u1 : C16 u1) (r_u2 : C16 u2) (li : ¬ 255 < u1) : OMet l Z [] (⟨"java/lang/StringLatin1", "charAt", "([BI)C"⟩ : MethodName) jdk_43_method_2_code 2 (some .char) R113 #[(.ref b), (.int 1)] h0 n0 (Q113 Z fm b kb u0 u1 u2 h0) := by
  refine OMet.of (own := "java/lang/StringLatin1") rfl (plainFor_of_name pn_3) (ef113 b) Z0 ?_
  intro p e s m below meth c T0 Y0 hnm
  refine Gl.iloadN Y0 rfl dP_0 rfl ?_
  refine Gl.aloadN Y0 rfl rfl dP_1 rfl ?_
  refine Gl.arraylength Y0 Vb dP_2 rfl ?_
  refine Gl.callS Y0 (tw_66 hw) (tw_67 hw) (tw_8 hw) (tw_68 hw) (by decide) (rm97 l Z a0 hw (1 : Int32) (3 : Int32) fm h0 n0 Y0.sz O SF (hfm) (by decide) (by decide)) (argsL := [(.int 1), (.int 3)]) (rest := []) rfl rfl (lenOf pd_10 rfl) rfl (by decide) (nle rfl) (by decide) (by decide) dP_3 rfl (fun v3 T3 h3 Y3 q3 => ?_)
  obtain ⟨rfl, rfl⟩ := q3
  show Gl p e below _ (T3.setTop (mkF m 6 _ []))
  refine Gl.aloadN Y3 rfl rfl dP_6 rfl ?_
  refine Gl.iloadN Y3 rfl dP_7 rfl ?_
  refine Gl.baload Y3 Vb ⟨by decide, by decide⟩ (v := (.int (bL u1))) rfl dP_8 rfl ?_
  refine Gl.sipush Y3 (v := (255 : Int32)) (by decide) dP_9 rfl ?_
  refine Gl.iand Y3 rfl dP_12 rfl ?_
  refine Gl.i2c Y3 rfl dP_13 rfl ?_
  exact Gl.retC Y3 (by decide) (by decide) (x' := u1) ((own_narC rfl).trans (own_l1 u1 r_u1.1 li)) dP_14 ⟨rfl, rfl⟩
def R114 : Room := { frames := 3, cells := 0, slots := 0, locals := 40 }
def Q114 (Z : State) (fm : Value) (b : Addr) (kb : ClassId) (u0 u1 u2 : Int32) (h0 : Heap) (v : Option Value) (h : Heap) : Prop := v = some (.int u2) ∧ h0 = h
theorem ef114 (b : Addr) (m : MethodId) : entryFrame m #[(.ref b), (.int 2)] 2 = mkF m 0 #[.val (.ref b), .val (.int 2)] [] := by first | (simp [entryFrame, mkF, argsToLocals, Value.category]; done) | rfl
theorem rm114 (hw : HW a0 Z) (fm : Value) (b : Addr) (kb : ClassId) (u0 u1 u2 : Int32) (h0 : Heap) (n0 : Nat) (Z0 : n0 ≤ h0.size) (O : Old Z n0 h0) (SA : uA Z) (SH : uS Z) (SL : uT Z) (SF : uF Z fm) (hfm : fm.category = 1) (Vb : Arv Z h0 b kb .byte (6 : Int32) [(.int (uL u0)), (.int (uH u0)), (.int (uL u1)), (.int (uH u1)), (.int (uL u2)), (.int (uH u2))] (.int 0)) (r_u0 : C16 u0) (r_u1 : C16 u1) (r_u2 : C16 u2) : OMet l Z [] (⟨"java/lang/StringUTF16", "charAt", "([BI)C"⟩ : MethodName) jdk_52_method_83_code 2 (some .char) R114 #[(.ref b), (.int 2)] h0 n0 (Q114 Z fm b kb u0 u1 u2 h0) := by
  refine OMet.of (own := "java/lang/StringUTF16") rfl (plainFor_of_name pn_0) (ef114 b) Z0 ?_
  intro p e s m below meth c T0 Y0 hnm
  refine Gl.iloadN Y0 rfl dO_0 rfl ?_
  refine Gl.aloadN Y0 rfl rfl dO_1 rfl ?_
  refine Gl.callS Y0 (tw_96 hw) (tw_97 hw) (tw_44 hw) (tw_98 hw) (by decide) (rm109 l Z a0 hw (2 : Int32) fm b kb u0 u1 u2 h0 n0 Y0.sz O SF (hfm) Vb (by decide) (by decide)) (argsL := [(.int 2), (.ref b)]) (rest := []) rfl rfl (lenOf pd_11 rfl) rfl (by decide) (nle rfl) (by decide) (by decide) dO_2 rfl (fun v2 T2 h2 Y2 q2 => ?_)
  obtain ⟨rfl, rfl⟩ := q2
  show Gl p e below _ (T2.setTop (mkF m 5 _ []))
  refine Gl.aloadN Y2 rfl rfl dO_5 rfl ?_
  refine Gl.iloadN Y2 rfl dO_6 rfl ?_
  refine Gl.callS Y2 (tw_90 hw) (tw_91 hw) (tw_44 hw) (tw_92 hw) (by decide) (rm33 l Z a0 hw b kb u0 u1 u2 h0 n0 Y2.sz O SA SH SL Vb (r_u0) (r_u1) (r_u2)) (argsL := [(.ref b), (.int 2)]) (rest := []) rfl rfl (lenOf pd_5 rfl) rfl (by decide) (nle rfl) (by decide) (by decide) dO_7 rfl (fun v7 T7 h7 Y7 q7 => ?_)
  obtain ⟨rfl, rfl⟩ := q7
  show Gl p e below _ (T7.setTop (mkF m 10 _ [(.int u2)]))
  exact Gl.retC Y7 (by decide) (by decide) (x' := u2) (own_narCr r_u2.1 r_u2.2) dO_10 ⟨rfl, rfl⟩
def R115 : Room := { frames := 2, cells := 0, slots := 0, locals := 27 }
def Q115 (Z : State) (fm : Value) (b : Addr) (kb : ClassId) (u0 u1 u2 : Int32) (h0 : Heap) (v : Option Value) (h : Heap) : Prop := v = some (.int u2) ∧ h0 = h
theorem ef115 (b : Addr) (m : MethodId) : entryFrame m #[(.ref b), (.int 2)] 2 = mkF m 0 #[.val (.ref b), .val (.int 2)] [] := by first | (simp [entryFrame, mkF, argsToLocals, Value.category]; done) | rfl
theorem rm115 (hw : HW a0 Z) (fm : Value) (b : Addr) (kb : ClassId) (u0 u1 u2 : Int32) (h0 : Heap) (n0 : Nat) (Z0 : n0 ≤ h0.size) (O : Old Z n0 h0) (SF : uF Z fm) (hfm : fm.category = 1) (Vb : Arv Z h0 b kb .byte (3 : Int32) [(.int (bL u0)), (.int (bL u1)), (.int (bL u2))] (.int 0)) (r_u0 : C16 u0) (r_u1 : C16 u1) (r_u2 : C16 u2) (li : ¬ 255 < u2) : OMet l Z [] (⟨"java/lang/StringLatin1", "charAt", "([BI)C"⟩ : MethodName) jdk_43_method_2_code 2 (some .char) R115 #[(.ref b), (.int 2)] h0 n0 (Q115 Z fm b kb u0 u1 u2 h0) := by
  refine OMet.of (own := "java/lang/StringLatin1") rfl (plainFor_of_name pn_3) (ef115 b) Z0 ?_
  intro p e s m below meth c T0 Y0 hnm
  refine Gl.iloadN Y0 rfl dP_0 rfl ?_
  refine Gl.aloadN Y0 rfl rfl dP_1 rfl ?_
  refine Gl.arraylength Y0 Vb dP_2 rfl ?_
  refine Gl.callS Y0 (tw_66 hw) (tw_67 hw) (tw_8 hw) (tw_68 hw) (by decide) (rm97 l Z a0 hw (2 : Int32) (3 : Int32) fm h0 n0 Y0.sz O SF (hfm) (by decide) (by decide)) (argsL := [(.int 2), (.int 3)]) (rest := []) rfl rfl (lenOf pd_10 rfl) rfl (by decide) (nle rfl) (by decide) (by decide) dP_3 rfl (fun v3 T3 h3 Y3 q3 => ?_)
  obtain ⟨rfl, rfl⟩ := q3
  show Gl p e below _ (T3.setTop (mkF m 6 _ []))
  refine Gl.aloadN Y3 rfl rfl dP_6 rfl ?_
  refine Gl.iloadN Y3 rfl dP_7 rfl ?_
  refine Gl.baload Y3 Vb ⟨by decide, by decide⟩ (v := (.int (bL u2))) rfl dP_8 rfl ?_
  refine Gl.sipush Y3 (v := (255 : Int32)) (by decide) dP_9 rfl ?_
  refine Gl.iand Y3 rfl dP_12 rfl ?_
  refine Gl.i2c Y3 rfl dP_13 rfl ?_
  exact Gl.retC Y3 (by decide) (by decide) (x' := u2) ((own_narC rfl).trans (own_l1 u2 r_u2.1 li)) dP_14 ⟨rfl, rfl⟩
def R116 : Room := { frames := 0, cells := 0, slots := 0, locals := 0 }
def Q116 (Z : State) (b : Addr) (kb : ClassId) (u0 u1 u2 u3 : Int32) (h0 : Heap) (v : Option Value) (h : Heap) : Prop := v = some (.int 4) ∧ h0 = h
theorem ef116 (b : Addr) (m : MethodId) : entryFrame m #[(.ref b)] 1 = mkF m 0 #[.val (.ref b)] [] := by first | (simp [entryFrame, mkF, argsToLocals, Value.category]; done) | rfl
theorem rm116 (hw : HW a0 Z) (b : Addr) (kb : ClassId) (u0 u1 u2 u3 : Int32) (h0 : Heap) (n0 : Nat) (Z0 : n0 ≤ h0.size) (Vb : Arv Z h0 b kb .byte (8 : Int32) [(.int (uL u0)), (.int (uH u0)), (.int (uL u1)), (.int (uH u1)), (.int (uL u2)), (.int (uH u2)), (.int (uL u3)), (.int (uH u3))] (.int 0)) : OMet l Z [] (⟨"java/lang/StringUTF16", "length", "([B)I"⟩ : MethodName) jdk_52_method_6_code 1 (some .int) R116 #[(.ref b)] h0 n0 (Q116 Z b kb u0 u1 u2 u3 h0) := by
  refine OMet.of (own := "java/lang/StringUTF16") rfl (plainFor_of_name pn_0) (ef116 b) Z0 ?_
  intro p e s m below meth c T0 Y0 hnm
  refine Gl.aloadN Y0 rfl rfl dM_0 rfl ?_
  refine Gl.arraylength Y0 Vb dM_1 rfl ?_
  refine Gl.iconst Y0 (v := (1 : Int32)) (by decide) dM_2 rfl ?_
  refine Gl.ishr Y0 (r := (4 : Int32)) (by decide) dM_3 rfl ?_
  exact Gl.retI Y0 (by decide) (by decide)  dM_4 ⟨rfl, rfl⟩
def R117 : Room := { frames := 2, cells := 0, slots := 0, locals := 27 }
def Q117 (Z : State) (ix : Int32) (fm : Value) (b : Addr) (kb : ClassId) (u0 u1 u2 u3 : Int32) (h0 : Heap) (v : Option Value) (h : Heap) : Prop := v = none ∧ h0 = h
theorem ef117 (ix : Int32) (b : Addr) (m : MethodId) : entryFrame m #[(.int ix), (.ref b)] 2 = mkF m 0 #[.val (.int ix), .val (.ref b)] [] := by first | (simp [entryFrame, mkF, argsToLocals, Value.category]; done) | rfl
theorem rm117 (hw : HW a0 Z) (ix : Int32) (fm : Value) (b : Addr) (kb : ClassId) (u0 u1 u2 u3 : Int32) (h0 : Heap) (n0 : Nat) (Z0 : n0 ≤ h0.size) (O : Old Z n0 h0) (SF : uF Z fm) (hfm : fm.category = 1) (Vb : Arv Z h0 b kb .byte (8 : Int32) [(.int (uL u0)), (.int (uH u0)), (.int (uL u1)), (.int (uH u1)), (.int (uL u2)), (.int (uH u2)), (.int (uL u3)), (.int (uH u3))] (.int 0)) (h_a : ¬ ix < 0) (h_b : ix < 4) : OMet l Z [] (⟨"java/lang/StringUTF16", "checkIndex", "(I[B)V"⟩ : MethodName) jdk_52_method_91_code 2 none R117 #[(.int ix), (.ref b)] h0 n0 (Q117 Z ix fm b kb u0 u1 u2 u3 h0) := by
  refine OMet.of (own := "java/lang/StringUTF16") rfl (plainFor_of_name pn_0) (ef117 ix b) Z0 ?_
  intro p e s m below meth c T0 Y0 hnm
  refine Gl.iloadN Y0 rfl dN_0 rfl ?_
  refine Gl.aloadN Y0 rfl rfl dN_1 rfl ?_
  refine Gl.callS Y0 (tw_99 hw) (tw_100 hw) (tw_44 hw) (tw_101 hw) (by decide) (rm116 l Z a0 hw b kb u0 u1 u2 u3 h0 n0 Y0.sz Vb) (argsL := [(.ref b)]) (rest := [(.int ix)]) rfl rfl (lenOf pd_9 rfl) rfl (by decide) (nle rfl) (by decide) (by decide) dN_2 rfl (fun v2 T2 h2 Y2 q2 => ?_)
  obtain ⟨rfl, rfl⟩ := q2
  show Gl p e below _ (T2.setTop (mkF m 5 _ [(.int 4), (.int ix)]))
  refine Gl.callS Y2 (tw_102 hw) (tw_67 hw) (tw_8 hw) (tw_68 hw) (by decide) (rm97 l Z a0 hw ix (4 : Int32) fm h0 n0 Y2.sz O SF (hfm) (h_a) (h_b)) (argsL := [(.int ix), (.int 4)]) (rest := []) rfl rfl (lenOf pd_10 rfl) rfl (by decide) (nle rfl) (by decide) (by decide) dN_5 rfl (fun v5 T5 h5 Y5 q5 => ?_)
  obtain ⟨rfl, rfl⟩ := q5
  show Gl p e below _ (T5.setTop (mkF m 8 _ []))
  exact Gl.retV Y5 (by decide) (by decide)  dN_8 ⟨rfl, rfl⟩
def R118 : Room := { frames := 3, cells := 0, slots := 0, locals := 40 }
def Q118 (Z : State) (fm : Value) (b : Addr) (kb : ClassId) (u0 u1 u2 u3 : Int32) (h0 : Heap) (v : Option Value) (h : Heap) : Prop := v = some (.int u0) ∧ h0 = h
theorem ef118 (b : Addr) (m : MethodId) : entryFrame m #[(.ref b), (.int 0)] 2 = mkF m 0 #[.val (.ref b), .val (.int 0)] [] := by first | (simp [entryFrame, mkF, argsToLocals, Value.category]; done) | rfl
theorem rm118 (hw : HW a0 Z) (fm : Value) (b : Addr) (kb : ClassId) (u0 u1 u2 u3 : Int32) (h0 : Heap) (n0 : Nat) (Z0 : n0 ≤ h0.size) (O : Old Z n0 h0) (SA : uA Z) (SH : uS Z) (SL : uT Z) (SF : uF Z fm) (hfm : fm.category = 1) (Vb : Arv Z h0 b kb .byte (8 : Int32) [(.int (uL u0)), (.int (uH u0)), (.int (uL u1)), (.int (uH u1)), (.int (uL u2)), (.int (uH u2)), (.int (uL u3)), (.int (uH u3))] (.int 0)) (r_u0 : C16 u0) (r_u1 : C16 u1) (r_u2 : C16 u2) (r_u3 : C16 u3) : OMet l Z [] (⟨"java/lang/StringUTF16", "charAt", "([BI)C"⟩ : MethodName) jdk_52_method_83_code 2 (some .char) R118 #[(.ref b), (.int 0)] h0 n0 (Q118 Z fm b kb u0 u1 u2 u3 h0) := by
  refine OMet.of (own := "java/lang/StringUTF16") rfl (plainFor_of_name pn_0) (ef118 b) Z0 ?_
  intro p e s m below meth c T0 Y0 hnm
  refine Gl.iloadN Y0 rfl dO_0 rfl ?_
  refine Gl.aloadN Y0 rfl rfl dO_1 rfl ?_
  refine Gl.callS Y0 (tw_96 hw) (tw_97 hw) (tw_44 hw) (tw_98 hw) (by decide) (rm117 l Z a0 hw (0 : Int32) fm b kb u0 u1 u2 u3 h0 n0 Y0.sz O SF (hfm) Vb (by decide) (by decide)) (argsL := [(.int 0), (.ref b)]) (rest := []) rfl rfl (lenOf pd_11 rfl) rfl (by decide) (nle rfl) (by decide) (by decide) dO_2 rfl (fun v2 T2 h2 Y2 q2 => ?_)
  obtain ⟨rfl, rfl⟩ := q2
  show Gl p e below _ (T2.setTop (mkF m 5 _ []))
  refine Gl.aloadN Y2 rfl rfl dO_5 rfl ?_
  refine Gl.iloadN Y2 rfl dO_6 rfl ?_
  refine Gl.callS Y2 (tw_90 hw) (tw_91 hw) (tw_44 hw) (tw_92 hw) (by decide) (rm38 l Z a0 hw b kb u0 u1 u2 u3 h0 n0 Y2.sz O SA SH SL Vb (r_u0) (r_u1) (r_u2) (r_u3)) (argsL := [(.ref b), (.int 0)]) (rest := []) rfl rfl (lenOf pd_5 rfl) rfl (by decide) (nle rfl) (by decide) (by decide) dO_7 rfl (fun v7 T7 h7 Y7 q7 => ?_)
  obtain ⟨rfl, rfl⟩ := q7
  show Gl p e below _ (T7.setTop (mkF m 10 _ [(.int u0)]))
  exact Gl.retC Y7 (by decide) (by decide) (x' := u0) (own_narCr r_u0.1 r_u0.2) dO_10 ⟨rfl, rfl⟩
def R119 : Room := { frames := 2, cells := 0, slots := 0, locals := 27 }
def Q119 (Z : State) (fm : Value) (b : Addr) (kb : ClassId) (u0 u1 u2 u3 : Int32) (h0 : Heap) (v : Option Value) (h : Heap) : Prop := v = some (.int u0) ∧ h0 = h
theorem ef119 (b : Addr) (m : MethodId) : entryFrame m #[(.ref b), (.int 0)] 2 = mkF m 0 #[.val (.ref b), .val (.int 0)] [] := by first | (simp [entryFrame, mkF, argsToLocals, Value.category]; done) | rfl
theorem rm119 (hw : HW a0 Z) (fm : Value) (b : Addr) (kb : ClassId) (u0 u1 u2 u3 : Int32) (h0 : Heap) (n0 : Nat) (Z0 : n0 ≤ h0.size) (O : Old Z n0 h0) (SF : uF Z fm) (hfm : fm.category = 1) (Vb : Arv Z h0 b kb .byte (4 : Int32) [(.int (bL u0)), (.int (bL u1)), (.int (bL u2)), (.int (bL u3))] (.int 0)) (r_u0 : C16 u0) (r_u1 : C16 u1) (r_u2 : C16 u2) (r_u3 : C16 u3) (li : ¬ 255 < u0) : OMet l Z [] (⟨"java/lang/StringLatin1", "charAt", "([BI)C"⟩ : MethodName) jdk_43_method_2_code 2 (some .char) R119 #[(.ref b), (.int 0)] h0 n0 (Q119 Z fm b kb u0 u1 u2 u3 h0) := by
  refine OMet.of (own := "java/lang/StringLatin1") rfl (plainFor_of_name pn_3) (ef119 b) Z0 ?_
  intro p e s m below meth c T0 Y0 hnm
  refine Gl.iloadN Y0 rfl dP_0 rfl ?_
  refine Gl.aloadN Y0 rfl rfl dP_1 rfl ?_
  refine Gl.arraylength Y0 Vb dP_2 rfl ?_
  refine Gl.callS Y0 (tw_66 hw) (tw_67 hw) (tw_8 hw) (tw_68 hw) (by decide) (rm97 l Z a0 hw (0 : Int32) (4 : Int32) fm h0 n0 Y0.sz O SF (hfm) (by decide) (by decide)) (argsL := [(.int 0), (.int 4)]) (rest := []) rfl rfl (lenOf pd_10 rfl) rfl (by decide) (nle rfl) (by decide) (by decide) dP_3 rfl (fun v3 T3 h3 Y3 q3 => ?_)
  obtain ⟨rfl, rfl⟩ := q3
  show Gl p e below _ (T3.setTop (mkF m 6 _ []))
  refine Gl.aloadN Y3 rfl rfl dP_6 rfl ?_
  refine Gl.iloadN Y3 rfl dP_7 rfl ?_
  refine Gl.baload Y3 Vb ⟨by decide, by decide⟩ (v := (.int (bL u0))) rfl dP_8 rfl ?_
  refine Gl.sipush Y3 (v := (255 : Int32)) (by decide) dP_9 rfl ?_
  refine Gl.iand Y3 rfl dP_12 rfl ?_
  refine Gl.i2c Y3 rfl dP_13 rfl ?_
  exact Gl.retC Y3 (by decide) (by decide) (x' := u0) ((own_narC rfl).trans (own_l1 u0 r_u0.1 li)) dP_14 ⟨rfl, rfl⟩
def R120 : Room := { frames := 3, cells := 0, slots := 0, locals := 40 }
def Q120 (Z : State) (fm : Value) (b : Addr) (kb : ClassId) (u0 u1 u2 u3 : Int32) (h0 : Heap) (v : Option Value) (h : Heap) : Prop := v = some (.int u1) ∧ h0 = h
theorem ef120 (b : Addr) (m : MethodId) : entryFrame m #[(.ref b), (.int 1)] 2 = mkF m 0 #[.val (.ref b), .val (.int 1)] [] := by first | (simp [entryFrame, mkF, argsToLocals, Value.category]; done) | rfl
theorem rm120 (hw : HW a0 Z) (fm : Value) (b : Addr) (kb : ClassId) (u0 u1 u2 u3 : Int32) (h0 : Heap) (n0 : Nat) (Z0 : n0 ≤ h0.size) (O : Old Z n0 h0) (SA : uA Z) (SH : uS Z) (SL : uT Z) (SF : uF Z fm) (hfm : fm.category = 1) (Vb : Arv Z h0 b kb .byte (8 : Int32) [(.int (uL u0)), (.int (uH u0)), (.int (uL u1)), (.int (uH u1)), (.int (uL u2)), (.int (uH u2)), (.int (uL u3)), (.int (uH u3))] (.int 0)) (r_u0 : C16 u0) (r_u1 : C16 u1) (r_u2 : C16 u2) (r_u3 : C16 u3) : OMet l Z [] (⟨"java/lang/StringUTF16", "charAt", "([BI)C"⟩ : MethodName) jdk_52_method_83_code 2 (some .char) R120 #[(.ref b), (.int 1)] h0 n0 (Q120 Z fm b kb u0 u1 u2 u3 h0) := by
  refine OMet.of (own := "java/lang/StringUTF16") rfl (plainFor_of_name pn_0) (ef120 b) Z0 ?_
  intro p e s m below meth c T0 Y0 hnm
  refine Gl.iloadN Y0 rfl dO_0 rfl ?_
  refine Gl.aloadN Y0 rfl rfl dO_1 rfl ?_
  refine Gl.callS Y0 (tw_96 hw) (tw_97 hw) (tw_44 hw) (tw_98 hw) (by decide) (rm117 l Z a0 hw (1 : Int32) fm b kb u0 u1 u2 u3 h0 n0 Y0.sz O SF (hfm) Vb (by decide) (by decide)) (argsL := [(.int 1), (.ref b)]) (rest := []) rfl rfl (lenOf pd_11 rfl) rfl (by decide) (nle rfl) (by decide) (by decide) dO_2 rfl (fun v2 T2 h2 Y2 q2 => ?_)
  obtain ⟨rfl, rfl⟩ := q2
  show Gl p e below _ (T2.setTop (mkF m 5 _ []))
  refine Gl.aloadN Y2 rfl rfl dO_5 rfl ?_
  refine Gl.iloadN Y2 rfl dO_6 rfl ?_
  refine Gl.callS Y2 (tw_90 hw) (tw_91 hw) (tw_44 hw) (tw_92 hw) (by decide) (rm40 l Z a0 hw b kb u0 u1 u2 u3 h0 n0 Y2.sz O SA SH SL Vb (r_u0) (r_u1) (r_u2) (r_u3)) (argsL := [(.ref b), (.int 1)]) (rest := []) rfl rfl (lenOf pd_5 rfl) rfl (by decide) (nle rfl) (by decide) (by decide) dO_7 rfl (fun v7 T7 h7 Y7 q7 => ?_)
  obtain ⟨rfl, rfl⟩ := q7
  show Gl p e below _ (T7.setTop (mkF m 10 _ [(.int u1)]))
  exact Gl.retC Y7 (by decide) (by decide) (x' := u1) (own_narCr r_u1.1 r_u1.2) dO_10 ⟨rfl, rfl⟩
def R121 : Room := { frames := 2, cells := 0, slots := 0, locals := 27 }
def Q121 (Z : State) (fm : Value) (b : Addr) (kb : ClassId) (u0 u1 u2 u3 : Int32) (h0 : Heap) (v : Option Value) (h : Heap) : Prop := v = some (.int u1) ∧ h0 = h
theorem ef121 (b : Addr) (m : MethodId) : entryFrame m #[(.ref b), (.int 1)] 2 = mkF m 0 #[.val (.ref b), .val (.int 1)] [] := by first | (simp [entryFrame, mkF, argsToLocals, Value.category]; done) | rfl
theorem rm121 (hw : HW a0 Z) (fm : Value) (b : Addr) (kb : ClassId) (u0 u1 u2 u3 : Int32) (h0 : Heap) (n0 : Nat) (Z0 : n0 ≤ h0.size) (O : Old Z n0 h0) (SF : uF Z fm) (hfm : fm.category = 1) (Vb : Arv Z h0 b kb .byte (4 : Int32) [(.int (bL u0)), (.int (bL u1)), (.int (bL u2)), (.int (bL u3))] (.int 0)) (r_u0 : C16 u0) (r_u1 : C16 u1) (r_u2 : C16 u2) (r_u3 : C16 u3) (li : ¬ 255 < u1) : OMet l Z [] (⟨"java/lang/StringLatin1", "charAt", "([BI)C"⟩ : MethodName) jdk_43_method_2_code 2 (some .char) R121 #[(.ref b), (.int 1)] h0 n0 (Q121 Z fm b kb u0 u1 u2 u3 h0) := by
  refine OMet.of (own := "java/lang/StringLatin1") rfl (plainFor_of_name pn_3) (ef121 b) Z0 ?_
  intro p e s m below meth c T0 Y0 hnm
  refine Gl.iloadN Y0 rfl dP_0 rfl ?_
  refine Gl.aloadN Y0 rfl rfl dP_1 rfl ?_
  refine Gl.arraylength Y0 Vb dP_2 rfl ?_
  refine Gl.callS Y0 (tw_66 hw) (tw_67 hw) (tw_8 hw) (tw_68 hw) (by decide) (rm97 l Z a0 hw (1 : Int32) (4 : Int32) fm h0 n0 Y0.sz O SF (hfm) (by decide) (by decide)) (argsL := [(.int 1), (.int 4)]) (rest := []) rfl rfl (lenOf pd_10 rfl) rfl (by decide) (nle rfl) (by decide) (by decide) dP_3 rfl (fun v3 T3 h3 Y3 q3 => ?_)
  obtain ⟨rfl, rfl⟩ := q3
  show Gl p e below _ (T3.setTop (mkF m 6 _ []))
  refine Gl.aloadN Y3 rfl rfl dP_6 rfl ?_
  refine Gl.iloadN Y3 rfl dP_7 rfl ?_
  refine Gl.baload Y3 Vb ⟨by decide, by decide⟩ (v := (.int (bL u1))) rfl dP_8 rfl ?_
  refine Gl.sipush Y3 (v := (255 : Int32)) (by decide) dP_9 rfl ?_
  refine Gl.iand Y3 rfl dP_12 rfl ?_
  refine Gl.i2c Y3 rfl dP_13 rfl ?_
  exact Gl.retC Y3 (by decide) (by decide) (x' := u1) ((own_narC rfl).trans (own_l1 u1 r_u1.1 li)) dP_14 ⟨rfl, rfl⟩
def R122 : Room := { frames := 3, cells := 0, slots := 0, locals := 40 }
def Q122 (Z : State) (fm : Value) (b : Addr) (kb : ClassId) (u0 u1 u2 u3 : Int32) (h0 : Heap) (v : Option Value) (h : Heap) : Prop := v = some (.int u2) ∧ h0 = h
theorem ef122 (b : Addr) (m : MethodId) : entryFrame m #[(.ref b), (.int 2)] 2 = mkF m 0 #[.val (.ref b), .val (.int 2)] [] := by first | (simp [entryFrame, mkF, argsToLocals, Value.category]; done) | rfl
theorem rm122 (hw : HW a0 Z) (fm : Value) (b : Addr) (kb : ClassId) (u0 u1 u2 u3 : Int32) (h0 : Heap) (n0 : Nat) (Z0 : n0 ≤ h0.size) (O : Old Z n0 h0) (SA : uA Z) (SH : uS Z) (SL : uT Z) (SF : uF Z fm) (hfm : fm.category = 1) (Vb : Arv Z h0 b kb .byte (8 : Int32) [(.int (uL u0)), (.int (uH u0)), (.int (uL u1)), (.int (uH u1)), (.int (uL u2)), (.int (uH u2)), (.int (uL u3)), (.int (uH u3))] (.int 0)) (r_u0 : C16 u0) (r_u1 : C16 u1) (r_u2 : C16 u2) (r_u3 : C16 u3) : OMet l Z [] (⟨"java/lang/StringUTF16", "charAt", "([BI)C"⟩ : MethodName) jdk_52_method_83_code 2 (some .char) R122 #[(.ref b), (.int 2)] h0 n0 (Q122 Z fm b kb u0 u1 u2 u3 h0) := by
  refine OMet.of (own := "java/lang/StringUTF16") rfl (plainFor_of_name pn_0) (ef122 b) Z0 ?_
  intro p e s m below meth c T0 Y0 hnm
  refine Gl.iloadN Y0 rfl dO_0 rfl ?_
  refine Gl.aloadN Y0 rfl rfl dO_1 rfl ?_
  refine Gl.callS Y0 (tw_96 hw) (tw_97 hw) (tw_44 hw) (tw_98 hw) (by decide) (rm117 l Z a0 hw (2 : Int32) fm b kb u0 u1 u2 u3 h0 n0 Y0.sz O SF (hfm) Vb (by decide) (by decide)) (argsL := [(.int 2), (.ref b)]) (rest := []) rfl rfl (lenOf pd_11 rfl) rfl (by decide) (nle rfl) (by decide) (by decide) dO_2 rfl (fun v2 T2 h2 Y2 q2 => ?_)
  obtain ⟨rfl, rfl⟩ := q2
  show Gl p e below _ (T2.setTop (mkF m 5 _ []))
  refine Gl.aloadN Y2 rfl rfl dO_5 rfl ?_
  refine Gl.iloadN Y2 rfl dO_6 rfl ?_
  refine Gl.callS Y2 (tw_90 hw) (tw_91 hw) (tw_44 hw) (tw_92 hw) (by decide) (rm42 l Z a0 hw b kb u0 u1 u2 u3 h0 n0 Y2.sz O SA SH SL Vb (r_u0) (r_u1) (r_u2) (r_u3)) (argsL := [(.ref b), (.int 2)]) (rest := []) rfl rfl (lenOf pd_5 rfl) rfl (by decide) (nle rfl) (by decide) (by decide) dO_7 rfl (fun v7 T7 h7 Y7 q7 => ?_)
  obtain ⟨rfl, rfl⟩ := q7
  show Gl p e below _ (T7.setTop (mkF m 10 _ [(.int u2)]))
  exact Gl.retC Y7 (by decide) (by decide) (x' := u2) (own_narCr r_u2.1 r_u2.2) dO_10 ⟨rfl, rfl⟩
def R123 : Room := { frames := 2, cells := 0, slots := 0, locals := 27 }
def Q123 (Z : State) (fm : Value) (b : Addr) (kb : ClassId) (u0 u1 u2 u3 : Int32) (h0 : Heap) (v : Option Value) (h : Heap) : Prop := v = some (.int u2) ∧ h0 = h
theorem ef123 (b : Addr) (m : MethodId) : entryFrame m #[(.ref b), (.int 2)] 2 = mkF m 0 #[.val (.ref b), .val (.int 2)] [] := by first | (simp [entryFrame, mkF, argsToLocals, Value.category]; done) | rfl
theorem rm123 (hw : HW a0 Z) (fm : Value) (b : Addr) (kb : ClassId) (u0 u1 u2 u3 : Int32) (h0 : Heap) (n0 : Nat) (Z0 : n0 ≤ h0.size) (O : Old Z n0 h0) (SF : uF Z fm) (hfm : fm.category = 1) (Vb : Arv Z h0 b kb .byte (4 : Int32) [(.int (bL u0)), (.int (bL u1)), (.int (bL u2)), (.int (bL u3))] (.int 0)) (r_u0 : C16 u0) (r_u1 : C16 u1) (r_u2 : C16 u2) (r_u3 : C16 u3) (li : ¬ 255 < u2) : OMet l Z [] (⟨"java/lang/StringLatin1", "charAt", "([BI)C"⟩ : MethodName) jdk_43_method_2_code 2 (some .char) R123 #[(.ref b), (.int 2)] h0 n0 (Q123 Z fm b kb u0 u1 u2 u3 h0) := by
  refine OMet.of (own := "java/lang/StringLatin1") rfl (plainFor_of_name pn_3) (ef123 b) Z0 ?_
  intro p e s m below meth c T0 Y0 hnm
  refine Gl.iloadN Y0 rfl dP_0 rfl ?_
  refine Gl.aloadN Y0 rfl rfl dP_1 rfl ?_
  refine Gl.arraylength Y0 Vb dP_2 rfl ?_
  refine Gl.callS Y0 (tw_66 hw) (tw_67 hw) (tw_8 hw) (tw_68 hw) (by decide) (rm97 l Z a0 hw (2 : Int32) (4 : Int32) fm h0 n0 Y0.sz O SF (hfm) (by decide) (by decide)) (argsL := [(.int 2), (.int 4)]) (rest := []) rfl rfl (lenOf pd_10 rfl) rfl (by decide) (nle rfl) (by decide) (by decide) dP_3 rfl (fun v3 T3 h3 Y3 q3 => ?_)
  obtain ⟨rfl, rfl⟩ := q3
  show Gl p e below _ (T3.setTop (mkF m 6 _ []))
  refine Gl.aloadN Y3 rfl rfl dP_6 rfl ?_
  refine Gl.iloadN Y3 rfl dP_7 rfl ?_
  refine Gl.baload Y3 Vb ⟨by decide, by decide⟩ (v := (.int (bL u2))) rfl dP_8 rfl ?_
  refine Gl.sipush Y3 (v := (255 : Int32)) (by decide) dP_9 rfl ?_
  refine Gl.iand Y3 rfl dP_12 rfl ?_
  refine Gl.i2c Y3 rfl dP_13 rfl ?_
  exact Gl.retC Y3 (by decide) (by decide) (x' := u2) ((own_narC rfl).trans (own_l1 u2 r_u2.1 li)) dP_14 ⟨rfl, rfl⟩
def R124 : Room := { frames := 3, cells := 0, slots := 0, locals := 40 }
def Q124 (Z : State) (fm : Value) (b : Addr) (kb : ClassId) (u0 u1 u2 u3 : Int32) (h0 : Heap) (v : Option Value) (h : Heap) : Prop := v = some (.int u3) ∧ h0 = h
theorem ef124 (b : Addr) (m : MethodId) : entryFrame m #[(.ref b), (.int 3)] 2 = mkF m 0 #[.val (.ref b), .val (.int 3)] [] := by first | (simp [entryFrame, mkF, argsToLocals, Value.category]; done) | rfl
theorem rm124 (hw : HW a0 Z) (fm : Value) (b : Addr) (kb : ClassId) (u0 u1 u2 u3 : Int32) (h0 : Heap) (n0 : Nat) (Z0 : n0 ≤ h0.size) (O : Old Z n0 h0) (SA : uA Z) (SH : uS Z) (SL : uT Z) (SF : uF Z fm) (hfm : fm.category = 1) (Vb : Arv Z h0 b kb .byte (8 : Int32) [(.int (uL u0)), (.int (uH u0)), (.int (uL u1)), (.int (uH u1)), (.int (uL u2)), (.int (uH u2)), (.int (uL u3)), (.int (uH u3))] (.int 0)) (r_u0 : C16 u0) (r_u1 : C16 u1) (r_u2 : C16 u2) (r_u3 : C16 u3) : OMet l Z [] (⟨"java/lang/StringUTF16", "charAt", "([BI)C"⟩ : MethodName) jdk_52_method_83_code 2 (some .char) R124 #[(.ref b), (.int 3)] h0 n0 (Q124 Z fm b kb u0 u1 u2 u3 h0) := by
  refine OMet.of (own := "java/lang/StringUTF16") rfl (plainFor_of_name pn_0) (ef124 b) Z0 ?_
  intro p e s m below meth c T0 Y0 hnm
  refine Gl.iloadN Y0 rfl dO_0 rfl ?_
  refine Gl.aloadN Y0 rfl rfl dO_1 rfl ?_
  refine Gl.callS Y0 (tw_96 hw) (tw_97 hw) (tw_44 hw) (tw_98 hw) (by decide) (rm117 l Z a0 hw (3 : Int32) fm b kb u0 u1 u2 u3 h0 n0 Y0.sz O SF (hfm) Vb (by decide) (by decide)) (argsL := [(.int 3), (.ref b)]) (rest := []) rfl rfl (lenOf pd_11 rfl) rfl (by decide) (nle rfl) (by decide) (by decide) dO_2 rfl (fun v2 T2 h2 Y2 q2 => ?_)
  obtain ⟨rfl, rfl⟩ := q2
  show Gl p e below _ (T2.setTop (mkF m 5 _ []))
  refine Gl.aloadN Y2 rfl rfl dO_5 rfl ?_
  refine Gl.iloadN Y2 rfl dO_6 rfl ?_
  refine Gl.callS Y2 (tw_90 hw) (tw_91 hw) (tw_44 hw) (tw_92 hw) (by decide) (rm44 l Z a0 hw b kb u0 u1 u2 u3 h0 n0 Y2.sz O SA SH SL Vb (r_u0) (r_u1) (r_u2) (r_u3)) (argsL := [(.ref b), (.int 3)]) (rest := []) rfl rfl (lenOf pd_5 rfl) rfl (by decide) (nle rfl) (by decide) (by decide) dO_7 rfl (fun v7 T7 h7 Y7 q7 => ?_)
  obtain ⟨rfl, rfl⟩ := q7
  show Gl p e below _ (T7.setTop (mkF m 10 _ [(.int u3)]))
  exact Gl.retC Y7 (by decide) (by decide) (x' := u3) (own_narCr r_u3.1 r_u3.2) dO_10 ⟨rfl, rfl⟩
def R125 : Room := { frames := 2, cells := 0, slots := 0, locals := 27 }
def Q125 (Z : State) (fm : Value) (b : Addr) (kb : ClassId) (u0 u1 u2 u3 : Int32) (h0 : Heap) (v : Option Value) (h : Heap) : Prop := v = some (.int u3) ∧ h0 = h
theorem ef125 (b : Addr) (m : MethodId) : entryFrame m #[(.ref b), (.int 3)] 2 = mkF m 0 #[.val (.ref b), .val (.int 3)] [] := by first | (simp [entryFrame, mkF, argsToLocals, Value.category]; done) | rfl
theorem rm125 (hw : HW a0 Z) (fm : Value) (b : Addr) (kb : ClassId) (u0 u1 u2 u3 : Int32) (h0 : Heap) (n0 : Nat) (Z0 : n0 ≤ h0.size) (O : Old Z n0 h0) (SF : uF Z fm) (hfm : fm.category = 1) (Vb : Arv Z h0 b kb .byte (4 : Int32) [(.int (bL u0)), (.int (bL u1)), (.int (bL u2)), (.int (bL u3))] (.int 0)) (r_u0 : C16 u0) (r_u1 : C16 u1) (r_u2 : C16 u2) (r_u3 : C16 u3) (li : ¬ 255 < u3) : OMet l Z [] (⟨"java/lang/StringLatin1", "charAt", "([BI)C"⟩ : MethodName) jdk_43_method_2_code 2 (some .char) R125 #[(.ref b), (.int 3)] h0 n0 (Q125 Z fm b kb u0 u1 u2 u3 h0) := by
  refine OMet.of (own := "java/lang/StringLatin1") rfl (plainFor_of_name pn_3) (ef125 b) Z0 ?_
  intro p e s m below meth c T0 Y0 hnm
  refine Gl.iloadN Y0 rfl dP_0 rfl ?_
  refine Gl.aloadN Y0 rfl rfl dP_1 rfl ?_
  refine Gl.arraylength Y0 Vb dP_2 rfl ?_
  refine Gl.callS Y0 (tw_66 hw) (tw_67 hw) (tw_8 hw) (tw_68 hw) (by decide) (rm97 l Z a0 hw (3 : Int32) (4 : Int32) fm h0 n0 Y0.sz O SF (hfm) (by decide) (by decide)) (argsL := [(.int 3), (.int 4)]) (rest := []) rfl rfl (lenOf pd_10 rfl) rfl (by decide) (nle rfl) (by decide) (by decide) dP_3 rfl (fun v3 T3 h3 Y3 q3 => ?_)
  obtain ⟨rfl, rfl⟩ := q3
  show Gl p e below _ (T3.setTop (mkF m 6 _ []))
  refine Gl.aloadN Y3 rfl rfl dP_6 rfl ?_
  refine Gl.iloadN Y3 rfl dP_7 rfl ?_
  refine Gl.baload Y3 Vb ⟨by decide, by decide⟩ (v := (.int (bL u3))) rfl dP_8 rfl ?_
  refine Gl.sipush Y3 (v := (255 : Int32)) (by decide) dP_9 rfl ?_
  refine Gl.iand Y3 rfl dP_12 rfl ?_
  refine Gl.i2c Y3 rfl dP_13 rfl ?_
  exact Gl.retC Y3 (by decide) (by decide) (x' := u3) ((own_narC rfl).trans (own_l1 u3 r_u3.1 li)) dP_14 ⟨rfl, rfl⟩
theorem dQ_0 : decode jdk_42_method_152_code 0 = .ok (.getstatic 38, 3) := by decide +kernel
theorem dQ_3 : decode jdk_42_method_152_code 3 = .ok (.ifCond .eq 10, 3) := by decide +kernel
theorem dQ_6 : decode jdk_42_method_152_code 6 = .ok (.aload_n 0, 1) := by decide +kernel
theorem dQ_7 : decode jdk_42_method_152_code 7 = .ok (.getfield 15, 3) := by decide +kernel
theorem dQ_10 : decode jdk_42_method_152_code 10 = .ok (.goto 4, 3) := by decide +kernel
theorem dQ_14 : decode jdk_42_method_152_code 14 = .ok (.ireturn, 1) := by decide +kernel
def R126 : Room := { frames := 0, cells := 0, slots := 0, locals := 0 }
def Q126 (Z : State) (a : Addr) (cs : Int32) (h0 : Heap) (v : Option Value) (h : Heap) : Prop := v = some (.int 0) ∧ h0 = h
theorem ef126 (a : Addr) (m : MethodId) : entryFrame m #[(.ref a)] 1 = mkF m 0 #[.val (.ref a)] [] := by first | (simp [entryFrame, mkF, argsToLocals, Value.category]; done) | rfl
theorem rm126 (hw : HW a0 Z) (a : Addr) (cs : Int32) (h0 : Heap) (n0 : Nat) (Z0 : n0 ≤ h0.size) (O : Old Z n0 h0) (S : uC Z cs) (hcs : ¬ cs = 0) (F2 : Fld Z h0 a "java/lang/String" "coder" "B" (.int 0)) : OMet l Z [] (⟨"java/lang/String", "coder", "()B"⟩ : MethodName) jdk_42_method_152_code 1 (some .byte) R126 #[(.ref a)] h0 n0 (Q126 Z a cs h0) := by
  refine OMet.of (own := "java/lang/String") rfl (plainFor_of_name pn_1) (ef126 a) Z0 ?_
  intro p e s m below meth c T0 Y0 hnm
  refine Gl.getS Y0 (host := "") (Or.inl (tw_41 hw)) Via.refl (Sta.ext O.2 S) dQ_0 rfl (fun T0_2 Y0_2 => ?_)
  refine Gl.ifeq Y0_2 dQ_3 (by decide) rfl rfl (fun c3 => ?_) (fun c3 => ?_)
  · exact absurd c3 hcs
  refine Gl.aloadN Y0_2 rfl rfl dQ_6 rfl ?_
  refine Gl.getF Y0_2 (host := "") (Or.inl (tw_26 hw)) Via.refl F2 dQ_7 rfl (fun T7 Y7 => ?_)
  refine Gl.goto Y7 dQ_10 (by decide) rfl ?_
  exact Gl.retB Y7 (by decide) (by decide) (x' := (0 : Int32)) (by decide) dQ_14 ⟨rfl, rfl⟩
theorem dR_0 : decode jdk_42_method_154_code 0 = .ok (.getstatic 38, 3) := by decide +kernel
theorem dR_3 : decode jdk_42_method_154_code 3 = .ok (.ifCond .eq 14, 3) := by decide +kernel
theorem dR_6 : decode jdk_42_method_154_code 6 = .ok (.aload_n 0, 1) := by decide +kernel
theorem dR_7 : decode jdk_42_method_154_code 7 = .ok (.getfield 15, 3) := by decide +kernel
theorem dR_10 : decode jdk_42_method_154_code 10 = .ok (.ifCond .ne 7, 3) := by decide +kernel
theorem dR_13 : decode jdk_42_method_154_code 13 = .ok (.iconst 1, 1) := by decide +kernel
theorem dR_14 : decode jdk_42_method_154_code 14 = .ok (.goto 4, 3) := by decide +kernel
theorem dR_18 : decode jdk_42_method_154_code 18 = .ok (.ireturn, 1) := by decide +kernel
def R127 : Room := { frames := 0, cells := 0, slots := 0, locals := 0 }
def Q127 (Z : State) (a : Addr) (cs : Int32) (h0 : Heap) (v : Option Value) (h : Heap) : Prop := v = some (.int 1) ∧ h0 = h
theorem ef127 (a : Addr) (m : MethodId) : entryFrame m #[(.ref a)] 1 = mkF m 0 #[.val (.ref a)] [] := by first | (simp [entryFrame, mkF, argsToLocals, Value.category]; done) | rfl
theorem rm127 (hw : HW a0 Z) (a : Addr) (cs : Int32) (h0 : Heap) (n0 : Nat) (Z0 : n0 ≤ h0.size) (O : Old Z n0 h0) (S : uC Z cs) (hcs : ¬ cs = 0) (F2 : Fld Z h0 a "java/lang/String" "coder" "B" (.int 0)) : OMet l Z [] (⟨"java/lang/String", "isLatin1", "()Z"⟩ : MethodName) jdk_42_method_154_code 1 (some .boolean) R127 #[(.ref a)] h0 n0 (Q127 Z a cs h0) := by
  refine OMet.of (own := "java/lang/String") rfl (plainFor_of_name pn_1) (ef127 a) Z0 ?_
  intro p e s m below meth c T0 Y0 hnm
  refine Gl.getS Y0 (host := "") (Or.inl (tw_41 hw)) Via.refl (Sta.ext O.2 S) dR_0 rfl (fun T0_2 Y0_2 => ?_)
  refine Gl.ifeq Y0_2 dR_3 (by decide) rfl rfl (fun c3 => ?_) (fun c3 => ?_)
  · exact absurd c3 hcs
  refine Gl.aloadN Y0_2 rfl rfl dR_6 rfl ?_
  refine Gl.getF Y0_2 (host := "") (Or.inl (tw_26 hw)) Via.refl F2 dR_7 rfl (fun T7 Y7 => ?_)
  refine Gl.ifne Y7 dR_10 (by decide) rfl rfl (fun c10 => ?_) (fun c10 => ?_)
  · exact absurd c10 (by decide)
  refine Gl.iconst Y7 (v := (1 : Int32)) (by decide) dR_13 rfl ?_
  refine Gl.goto Y7 dR_14 (by decide) rfl ?_
  exact Gl.retZ Y7 (by decide) (by decide) (x' := (1 : Int32)) (by decide) dR_18 ⟨rfl, rfl⟩
def R128 : Room := { frames := 0, cells := 0, slots := 0, locals := 0 }
def Q128 (Z : State) (a : Addr) (cs : Int32) (h0 : Heap) (v : Option Value) (h : Heap) : Prop := v = some (.int 1) ∧ h0 = h
theorem ef128 (a : Addr) (m : MethodId) : entryFrame m #[(.ref a)] 1 = mkF m 0 #[.val (.ref a)] [] := by first | (simp [entryFrame, mkF, argsToLocals, Value.category]; done) | rfl
theorem rm128 (hw : HW a0 Z) (a : Addr) (cs : Int32) (h0 : Heap) (n0 : Nat) (Z0 : n0 ≤ h0.size) (O : Old Z n0 h0) (S : uC Z cs) (hcs : ¬ cs = 0) (F2 : Fld Z h0 a "java/lang/String" "coder" "B" (.int 1)) : OMet l Z [] (⟨"java/lang/String", "coder", "()B"⟩ : MethodName) jdk_42_method_152_code 1 (some .byte) R128 #[(.ref a)] h0 n0 (Q128 Z a cs h0) := by
  refine OMet.of (own := "java/lang/String") rfl (plainFor_of_name pn_1) (ef128 a) Z0 ?_
  intro p e s m below meth c T0 Y0 hnm
  refine Gl.getS Y0 (host := "") (Or.inl (tw_41 hw)) Via.refl (Sta.ext O.2 S) dQ_0 rfl (fun T0_2 Y0_2 => ?_)
  refine Gl.ifeq Y0_2 dQ_3 (by decide) rfl rfl (fun c3 => ?_) (fun c3 => ?_)
  · exact absurd c3 hcs
  refine Gl.aloadN Y0_2 rfl rfl dQ_6 rfl ?_
  refine Gl.getF Y0_2 (host := "") (Or.inl (tw_26 hw)) Via.refl F2 dQ_7 rfl (fun T7 Y7 => ?_)
  refine Gl.goto Y7 dQ_10 (by decide) rfl ?_
  exact Gl.retB Y7 (by decide) (by decide) (x' := (1 : Int32)) (by decide) dQ_14 ⟨rfl, rfl⟩
theorem dR_17 : decode jdk_42_method_154_code 17 = .ok (.iconst 0, 1) := by decide +kernel
def R129 : Room := { frames := 0, cells := 0, slots := 0, locals := 0 }
def Q129 (Z : State) (a : Addr) (cs : Int32) (h0 : Heap) (v : Option Value) (h : Heap) : Prop := v = some (.int 0) ∧ h0 = h
theorem ef129 (a : Addr) (m : MethodId) : entryFrame m #[(.ref a)] 1 = mkF m 0 #[.val (.ref a)] [] := by first | (simp [entryFrame, mkF, argsToLocals, Value.category]; done) | rfl
theorem rm129 (hw : HW a0 Z) (a : Addr) (cs : Int32) (h0 : Heap) (n0 : Nat) (Z0 : n0 ≤ h0.size) (O : Old Z n0 h0) (S : uC Z cs) (hcs : ¬ cs = 0) (F2 : Fld Z h0 a "java/lang/String" "coder" "B" (.int 1)) : OMet l Z [] (⟨"java/lang/String", "isLatin1", "()Z"⟩ : MethodName) jdk_42_method_154_code 1 (some .boolean) R129 #[(.ref a)] h0 n0 (Q129 Z a cs h0) := by
  refine OMet.of (own := "java/lang/String") rfl (plainFor_of_name pn_1) (ef129 a) Z0 ?_
  intro p e s m below meth c T0 Y0 hnm
  refine Gl.getS Y0 (host := "") (Or.inl (tw_41 hw)) Via.refl (Sta.ext O.2 S) dR_0 rfl (fun T0_2 Y0_2 => ?_)
  refine Gl.ifeq Y0_2 dR_3 (by decide) rfl rfl (fun c3 => ?_) (fun c3 => ?_)
  · exact absurd c3 hcs
  refine Gl.aloadN Y0_2 rfl rfl dR_6 rfl ?_
  refine Gl.getF Y0_2 (host := "") (Or.inl (tw_26 hw)) Via.refl F2 dR_7 rfl (fun T7 Y7 => ?_)
  refine Gl.ifne Y7 dR_10 (by decide) rfl rfl (fun c10 => ?_) (fun c10 => ?_)
  rotate_left
  · exact absurd c10 (by decide)
  refine Gl.iconst Y7 (v := (0 : Int32)) (by decide) dR_17 rfl ?_
  exact Gl.retZ Y7 (by decide) (by decide) (x' := (0 : Int32)) (by decide) dR_18 ⟨rfl, rfl⟩
theorem dS_0 : decode jdk_42_method_54_code 0 = .ok (.aload_n 0, 1) := by decide +kernel
theorem dS_1 : decode jdk_42_method_54_code 1 = .ok (.getfield 9, 3) := by decide +kernel
theorem dS_4 : decode jdk_42_method_54_code 4 = .ok (.arraylength, 1) := by decide +kernel
theorem dS_5 : decode jdk_42_method_54_code 5 = .ok (.aload_n 0, 1) := by decide +kernel
theorem dS_6 : decode jdk_42_method_54_code 6 = .ok (.invokevirtual 335, 3) := by decide +kernel
theorem tw_36 {a0 : Array Value} {Z : State} (hw : HW a0 Z) : (Jvm.Cond.methodLink "java/lang/String" (335 : Nat) ({ cls := "java/lang/String", name := "coder", desc := "()B" } : Jvm.MethodName)).before a0 Z = true := hw _ (List.mem_of_getElem? (i := 36) rfl)
theorem pd_12 : parseMethodDescriptor "()B" = some ⟨[], some .byte⟩ := by decide +kernel
theorem tw_40 {a0 : Array Value} {Z : State} (hw : HW a0 Z) : (Jvm.Cond.code ({ cls := "java/lang/String", name := "coder", desc := "()B" } : Jvm.MethodName) jdk_42_method_152_code (1 : Nat) (Option.some Jvm.ClassFile.FieldType.byte)).before a0 Z = true := hw _ (List.mem_of_getElem? (i := 40) rfl)
theorem tw_37 {a0 : Array Value} {Z : State} (hw : HW a0 Z) : (Jvm.Cond.declares ({ cls := "java/lang/String", name := "coder", desc := "()B" } : Jvm.MethodName)).before a0 Z = true := hw _ (List.mem_of_getElem? (i := 37) rfl)
theorem tw_39 {a0 : Array Value} {Z : State} (hw : HW a0 Z) : (Jvm.Cond.selects "java/lang/String" ({ cls := "java/lang/String", name := "coder", desc := "()B" } : Jvm.MethodName) ({ cls := "java/lang/String", name := "coder", desc := "()B" } : Jvm.MethodName)).before a0 Z = true := hw _ (List.mem_of_getElem? (i := 39) rfl)
theorem tw_38 {a0 : Array Value} {Z : State} (hw : HW a0 Z) : (Jvm.Cond.instanceMethod ({ cls := "java/lang/String", name := "coder", desc := "()B" } : Jvm.MethodName)).before a0 Z = true := hw _ (List.mem_of_getElem? (i := 38) rfl)
theorem dS_9 : decode jdk_42_method_54_code 9 = .ok (.ishr, 1) := by decide +kernel
theorem dS_10 : decode jdk_42_method_54_code 10 = .ok (.ireturn, 1) := by decide +kernel
def R130 : Room := { frames := 1, cells := 0, slots := 0, locals := 13 }
def Q130 (Z : State) (a b : Addr) (kb : ClassId) (cs u0 : Int32) (h0 : Heap) (v : Option Value) (h : Heap) : Prop := v = some (.int 1) ∧ h0 = h
theorem ef130 (a : Addr) (m : MethodId) : entryFrame m #[(.ref a)] 1 = mkF m 0 #[.val (.ref a)] [] := by first | (simp [entryFrame, mkF, argsToLocals, Value.category]; done) | rfl
theorem rm130 (hw : HW a0 Z) (a b : Addr) (kb : ClassId) (cs u0 : Int32) (h0 : Heap) (n0 : Nat) (Z0 : n0 ≤ h0.size) (O : Old Z n0 h0) (S : uC Z cs) (hcs : ¬ cs = 0) (E : Exa Z h0 a "java/lang/String") (F1 : Fld Z h0 a "java/lang/String" "value" "[B" (.ref b)) (F2 : Fld Z h0 a "java/lang/String" "coder" "B" (.int 0)) (Vb : Arv Z h0 b kb .byte (1 : Int32) [(.int (bL u0))] (.int 0)) : OMet l Z [] (⟨"java/lang/String", "length", "()I"⟩ : MethodName) jdk_42_method_54_code 1 (some .int) R130 #[(.ref a)] h0 n0 (Q130 Z a b kb cs u0 h0) := by
  refine OMet.of (own := "java/lang/String") rfl (plainFor_of_name pn_1) (ef130 a) Z0 ?_
  intro p e s m below meth c T0 Y0 hnm
  refine Gl.aloadN Y0 rfl rfl dS_0 rfl ?_
  refine Gl.getF Y0 (host := "") (Or.inl (tw_25 hw)) Via.refl F1 dS_1 rfl (fun T1 Y1 => ?_)
  refine Gl.arraylength Y1 Vb dS_4 rfl ?_
  refine Gl.aloadN Y1 rfl rfl dS_5 rfl ?_
  refine Gl.callV Y1 (tw_36 hw) (tw_37 hw) (tw_39 hw) (tw_39 hw) (tw_38 hw) (tw_8 hw) (tw_40 hw) (by decide) E (rm126 l Z a0 hw a cs h0 n0 Y1.sz O S (hcs) F2) (a := a) (argsL := []) (rest := [(.int 1)]) rfl rfl (lenOf pd_12 rfl) rfl (by decide) (nle rfl) (by decide) (by decide) dS_6 rfl (fun v6 T6 h6 Y6 q6 => ?_)
  obtain ⟨rfl, rfl⟩ := q6
  show Gl p e below _ (T6.setTop (mkF m 9 _ [(.int 0), (.int 1)]))
  refine Gl.ishr Y6 (r := (1 : Int32)) (by decide) dS_9 rfl ?_
  exact Gl.retI Y6 (by decide) (by decide)  dS_10 ⟨rfl, rfl⟩
theorem dT_0 : decode jdk_42_method_56_code 0 = .ok (.aload_n 0, 1) := by decide +kernel
theorem dT_1 : decode jdk_42_method_56_code 1 = .ok (.invokevirtual 492, 3) := by decide +kernel
theorem tw_57 {a0 : Array Value} {Z : State} (hw : HW a0 Z) : (Jvm.Cond.methodLink "java/lang/String" (492 : Nat) ({ cls := "java/lang/String", name := "isLatin1", desc := "()Z" } : Jvm.MethodName)).before a0 Z = true := hw _ (List.mem_of_getElem? (i := 57) rfl)
theorem pd_13 : parseMethodDescriptor "()Z" = some ⟨[], some .boolean⟩ := by decide +kernel
theorem tw_61 {a0 : Array Value} {Z : State} (hw : HW a0 Z) : (Jvm.Cond.code ({ cls := "java/lang/String", name := "isLatin1", desc := "()Z" } : Jvm.MethodName) jdk_42_method_154_code (1 : Nat) (Option.some Jvm.ClassFile.FieldType.boolean)).before a0 Z = true := hw _ (List.mem_of_getElem? (i := 61) rfl)
theorem tw_58 {a0 : Array Value} {Z : State} (hw : HW a0 Z) : (Jvm.Cond.declares ({ cls := "java/lang/String", name := "isLatin1", desc := "()Z" } : Jvm.MethodName)).before a0 Z = true := hw _ (List.mem_of_getElem? (i := 58) rfl)
theorem tw_60 {a0 : Array Value} {Z : State} (hw : HW a0 Z) : (Jvm.Cond.selects "java/lang/String" ({ cls := "java/lang/String", name := "isLatin1", desc := "()Z" } : Jvm.MethodName) ({ cls := "java/lang/String", name := "isLatin1", desc := "()Z" } : Jvm.MethodName)).before a0 Z = true := hw _ (List.mem_of_getElem? (i := 60) rfl)
theorem tw_59 {a0 : Array Value} {Z : State} (hw : HW a0 Z) : (Jvm.Cond.instanceMethod ({ cls := "java/lang/String", name := "isLatin1", desc := "()Z" } : Jvm.MethodName)).before a0 Z = true := hw _ (List.mem_of_getElem? (i := 59) rfl)
theorem dT_4 : decode jdk_42_method_56_code 4 = .ok (.ifCond .eq 12, 3) := by decide +kernel
theorem dT_7 : decode jdk_42_method_56_code 7 = .ok (.aload_n 0, 1) := by decide +kernel
theorem dT_8 : decode jdk_42_method_56_code 8 = .ok (.getfield 9, 3) := by decide +kernel
theorem dT_11 : decode jdk_42_method_56_code 11 = .ok (.iload_n 1, 1) := by decide +kernel
theorem dT_12 : decode jdk_42_method_56_code 12 = .ok (.invokestatic 495, 3) := by decide +kernel
theorem tw_62 {a0 : Array Value} {Z : State} (hw : HW a0 Z) : (Jvm.Cond.methodLink "java/lang/String" (495 : Nat) ({ cls := "java/lang/StringLatin1", name := "charAt", desc := "([BI)C" } : Jvm.MethodName)).before a0 Z = true := hw _ (List.mem_of_getElem? (i := 62) rfl)
theorem tw_65 {a0 : Array Value} {Z : State} (hw : HW a0 Z) : (Jvm.Cond.code ({ cls := "java/lang/StringLatin1", name := "charAt", desc := "([BI)C" } : Jvm.MethodName) jdk_43_method_2_code (2 : Nat) (Option.some Jvm.ClassFile.FieldType.char)).before a0 Z = true := hw _ (List.mem_of_getElem? (i := 65) rfl)
theorem tw_64 {a0 : Array Value} {Z : State} (hw : HW a0 Z) : (Jvm.Cond.initialized "java/lang/StringLatin1").before a0 Z = true := hw _ (List.mem_of_getElem? (i := 64) rfl)
theorem tw_63 {a0 : Array Value} {Z : State} (hw : HW a0 Z) : (Jvm.Cond.static ({ cls := "java/lang/StringLatin1", name := "charAt", desc := "([BI)C" } : Jvm.MethodName)).before a0 Z = true := hw _ (List.mem_of_getElem? (i := 63) rfl)
theorem dT_15 : decode jdk_42_method_56_code 15 = .ok (.ireturn, 1) := by decide +kernel
def R131 : Room := { frames := 3, cells := 0, slots := 0, locals := 40 }
def Q131 (Z : State) (a b : Addr) (kb : ClassId) (cs u0 : Int32) (fm : Value) (h0 : Heap) (v : Option Value) (h : Heap) : Prop := v = some (.int u0) ∧ h0 = h
theorem ef131 (a : Addr) (m : MethodId) : entryFrame m #[(.ref a), (.int 0)] 2 = mkF m 0 #[.val (.ref a), .val (.int 0)] [] := by first | (simp [entryFrame, mkF, argsToLocals, Value.category]; done) | rfl
theorem rm131 (hw : HW a0 Z) (a b : Addr) (kb : ClassId) (cs u0 : Int32) (fm : Value) (h0 : Heap) (n0 : Nat) (Z0 : n0 ≤ h0.size) (O : Old Z n0 h0) (S : uC Z cs) (hcs : ¬ cs = 0) (E : Exa Z h0 a "java/lang/String") (F1 : Fld Z h0 a "java/lang/String" "value" "[B" (.ref b)) (F2 : Fld Z h0 a "java/lang/String" "coder" "B" (.int 0)) (Vb : Arv Z h0 b kb .byte (1 : Int32) [(.int (bL u0))] (.int 0)) (SF : uF Z fm) (hfm : fm.category = 1) (r_u0 : C16 u0) (li : ¬ 255 < u0) : OMet l Z [] (⟨"java/lang/String", "charAt", "(I)C"⟩ : MethodName) jdk_42_method_56_code 2 (some .char) R131 #[(.ref a), (.int 0)] h0 n0 (Q131 Z a b kb cs u0 fm h0) := by
  refine OMet.of (own := "java/lang/String") rfl (plainFor_of_name pn_1) (ef131 a) Z0 ?_
  intro p e s m below meth c T0 Y0 hnm
  refine Gl.aloadN Y0 rfl rfl dT_0 rfl ?_
  refine Gl.callV Y0 (tw_57 hw) (tw_58 hw) (tw_60 hw) (tw_60 hw) (tw_59 hw) (tw_8 hw) (tw_61 hw) (by decide) E (rm127 l Z a0 hw a cs h0 n0 Y0.sz O S (hcs) F2) (a := a) (argsL := []) (rest := []) rfl rfl (lenOf pd_13 rfl) rfl (by decide) (nle rfl) (by decide) (by decide) dT_1 rfl (fun v1 T1 h1 Y1 q1 => ?_)
  obtain ⟨rfl, rfl⟩ := q1
  show Gl p e below _ (T1.setTop (mkF m 4 _ [(.int 1)]))
  refine Gl.ifeq Y1 dT_4 (by decide) rfl rfl (fun c4 => ?_) (fun c4 => ?_)
  · exact absurd c4 (by decide)
  refine Gl.aloadN Y1 rfl rfl dT_7 rfl ?_
  refine Gl.getF Y1 (host := "") (Or.inl (tw_25 hw)) Via.refl F1 dT_8 rfl (fun T8 Y8 => ?_)
  refine Gl.iloadN Y8 rfl dT_11 rfl ?_
  refine Gl.callS Y8 (tw_62 hw) (tw_63 hw) (tw_64 hw) (tw_65 hw) (by decide) (rm101 l Z a0 hw fm b kb u0 h0 n0 Y8.sz O SF (hfm) Vb (r_u0) (li)) (argsL := [(.ref b), (.int 0)]) (rest := []) rfl rfl (lenOf pd_5 rfl) rfl (by decide) (nle rfl) (by decide) (by decide) dT_12 rfl (fun v12 T12 h12 Y12 q12 => ?_)
  obtain ⟨rfl, rfl⟩ := q12
  show Gl p e below _ (T12.setTop (mkF m 15 _ [(.int u0)]))
  exact Gl.retC Y12 (by decide) (by decide) (x' := u0) (own_narCr r_u0.1 r_u0.2) dT_15 ⟨rfl, rfl⟩
def R132 : Room := { frames := 1, cells := 0, slots := 0, locals := 13 }
def Q132 (Z : State) (a b : Addr) (kb : ClassId) (cs u0 : Int32) (h0 : Heap) (v : Option Value) (h : Heap) : Prop := v = some (.int 1) ∧ h0 = h
theorem ef132 (a : Addr) (m : MethodId) : entryFrame m #[(.ref a)] 1 = mkF m 0 #[.val (.ref a)] [] := by first | (simp [entryFrame, mkF, argsToLocals, Value.category]; done) | rfl
theorem rm132 (hw : HW a0 Z) (a b : Addr) (kb : ClassId) (cs u0 : Int32) (h0 : Heap) (n0 : Nat) (Z0 : n0 ≤ h0.size) (O : Old Z n0 h0) (S : uC Z cs) (hcs : ¬ cs = 0) (E : Exa Z h0 a "java/lang/String") (F1 : Fld Z h0 a "java/lang/String" "value" "[B" (.ref b)) (F2 : Fld Z h0 a "java/lang/String" "coder" "B" (.int 1)) (Vb : Arv Z h0 b kb .byte (2 : Int32) [(.int (uL u0)), (.int (uH u0))] (.int 0)) : OMet l Z [] (⟨"java/lang/String", "length", "()I"⟩ : MethodName) jdk_42_method_54_code 1 (some .int) R132 #[(.ref a)] h0 n0 (Q132 Z a b kb cs u0 h0) := by
  refine OMet.of (own := "java/lang/String") rfl (plainFor_of_name pn_1) (ef132 a) Z0 ?_
  intro p e s m below meth c T0 Y0 hnm
  refine Gl.aloadN Y0 rfl rfl dS_0 rfl ?_
  refine Gl.getF Y0 (host := "") (Or.inl (tw_25 hw)) Via.refl F1 dS_1 rfl (fun T1 Y1 => ?_)
  refine Gl.arraylength Y1 Vb dS_4 rfl ?_
  refine Gl.aloadN Y1 rfl rfl dS_5 rfl ?_
  refine Gl.callV Y1 (tw_36 hw) (tw_37 hw) (tw_39 hw) (tw_39 hw) (tw_38 hw) (tw_8 hw) (tw_40 hw) (by decide) E (rm128 l Z a0 hw a cs h0 n0 Y1.sz O S (hcs) F2) (a := a) (argsL := []) (rest := [(.int 2)]) rfl rfl (lenOf pd_12 rfl) rfl (by decide) (nle rfl) (by decide) (by decide) dS_6 rfl (fun v6 T6 h6 Y6 q6 => ?_)
  obtain ⟨rfl, rfl⟩ := q6
  show Gl p e below _ (T6.setTop (mkF m 9 _ [(.int 1), (.int 2)]))
  refine Gl.ishr Y6 (r := (1 : Int32)) (by decide) dS_9 rfl ?_
  exact Gl.retI Y6 (by decide) (by decide)  dS_10 ⟨rfl, rfl⟩
theorem dT_16 : decode jdk_42_method_56_code 16 = .ok (.aload_n 0, 1) := by decide +kernel
theorem dT_17 : decode jdk_42_method_56_code 17 = .ok (.getfield 9, 3) := by decide +kernel
theorem dT_20 : decode jdk_42_method_56_code 20 = .ok (.iload_n 1, 1) := by decide +kernel
theorem dT_21 : decode jdk_42_method_56_code 21 = .ok (.invokestatic 498, 3) := by decide +kernel
theorem tw_93 {a0 : Array Value} {Z : State} (hw : HW a0 Z) : (Jvm.Cond.methodLink "java/lang/String" (498 : Nat) ({ cls := "java/lang/StringUTF16", name := "charAt", desc := "([BI)C" } : Jvm.MethodName)).before a0 Z = true := hw _ (List.mem_of_getElem? (i := 93) rfl)
theorem tw_95 {a0 : Array Value} {Z : State} (hw : HW a0 Z) : (Jvm.Cond.code ({ cls := "java/lang/StringUTF16", name := "charAt", desc := "([BI)C" } : Jvm.MethodName) jdk_52_method_83_code (2 : Nat) (Option.some Jvm.ClassFile.FieldType.char)).before a0 Z = true := hw _ (List.mem_of_getElem? (i := 95) rfl)
theorem tw_94 {a0 : Array Value} {Z : State} (hw : HW a0 Z) : (Jvm.Cond.static ({ cls := "java/lang/StringUTF16", name := "charAt", desc := "([BI)C" } : Jvm.MethodName)).before a0 Z = true := hw _ (List.mem_of_getElem? (i := 94) rfl)
theorem dT_24 : decode jdk_42_method_56_code 24 = .ok (.ireturn, 1) := by decide +kernel
def R133 : Room := { frames := 4, cells := 0, slots := 0, locals := 53 }
def Q133 (Z : State) (a b : Addr) (kb : ClassId) (cs u0 : Int32) (fm : Value) (h0 : Heap) (v : Option Value) (h : Heap) : Prop := v = some (.int u0) ∧ h0 = h
theorem ef133 (a : Addr) (m : MethodId) : entryFrame m #[(.ref a), (.int 0)] 2 = mkF m 0 #[.val (.ref a), .val (.int 0)] [] := by first | (simp [entryFrame, mkF, argsToLocals, Value.category]; done) | rfl
theorem rm133 (hw : HW a0 Z) (a b : Addr) (kb : ClassId) (cs u0 : Int32) (fm : Value) (h0 : Heap) (n0 : Nat) (Z0 : n0 ≤ h0.size) (O : Old Z n0 h0) (S : uC Z cs) (hcs : ¬ cs = 0) (E : Exa Z h0 a "java/lang/String") (F1 : Fld Z h0 a "java/lang/String" "value" "[B" (.ref b)) (F2 : Fld Z h0 a "java/lang/String" "coder" "B" (.int 1)) (Vb : Arv Z h0 b kb .byte (2 : Int32) [(.int (uL u0)), (.int (uH u0))] (.int 0)) (SA : uA Z) (SH : uS Z) (SL : uT Z) (SF : uF Z fm) (hfm : fm.category = 1) (r_u0 : C16 u0) : OMet l Z [] (⟨"java/lang/String", "charAt", "(I)C"⟩ : MethodName) jdk_42_method_56_code 2 (some .char) R133 #[(.ref a), (.int 0)] h0 n0 (Q133 Z a b kb cs u0 fm h0) := by
  refine OMet.of (own := "java/lang/String") rfl (plainFor_of_name pn_1) (ef133 a) Z0 ?_
  intro p e s m below meth c T0 Y0 hnm
  refine Gl.aloadN Y0 rfl rfl dT_0 rfl ?_
  refine Gl.callV Y0 (tw_57 hw) (tw_58 hw) (tw_60 hw) (tw_60 hw) (tw_59 hw) (tw_8 hw) (tw_61 hw) (by decide) E (rm129 l Z a0 hw a cs h0 n0 Y0.sz O S (hcs) F2) (a := a) (argsL := []) (rest := []) rfl rfl (lenOf pd_13 rfl) rfl (by decide) (nle rfl) (by decide) (by decide) dT_1 rfl (fun v1 T1 h1 Y1 q1 => ?_)
  obtain ⟨rfl, rfl⟩ := q1
  show Gl p e below _ (T1.setTop (mkF m 4 _ [(.int 0)]))
  refine Gl.ifeq Y1 dT_4 (by decide) rfl rfl (fun c4 => ?_) (fun c4 => ?_)
  rotate_left
  · exact absurd c4 (by decide)
  refine Gl.aloadN Y1 rfl rfl dT_16 rfl ?_
  refine Gl.getF Y1 (host := "") (Or.inl (tw_25 hw)) Via.refl F1 dT_17 rfl (fun T17 Y17 => ?_)
  refine Gl.iloadN Y17 rfl dT_20 rfl ?_
  refine Gl.callS Y17 (tw_93 hw) (tw_94 hw) (tw_44 hw) (tw_95 hw) (by decide) (rm100 l Z a0 hw fm b kb u0 h0 n0 Y17.sz O SA SH SL SF (hfm) Vb (r_u0)) (argsL := [(.ref b), (.int 0)]) (rest := []) rfl rfl (lenOf pd_5 rfl) rfl (by decide) (nle rfl) (by decide) (by decide) dT_21 rfl (fun v21 T21 h21 Y21 q21 => ?_)
  obtain ⟨rfl, rfl⟩ := q21
  show Gl p e below _ (T21.setTop (mkF m 24 _ [(.int u0)]))
  exact Gl.retC Y21 (by decide) (by decide) (x' := u0) (own_narCr r_u0.1 r_u0.2) dT_24 ⟨rfl, rfl⟩
theorem dU_0 : decode prog_13_method_8_code 0 = .ok (.iconst 0, 1) := by decide +kernel
theorem dU_1 : decode prog_13_method_8_code 1 = .ok (.istore_n 1, 1) := by decide +kernel
theorem dU_2 : decode prog_13_method_8_code 2 = .ok (.iload_n 1, 1) := by decide +kernel
theorem dU_3 : decode prog_13_method_8_code 3 = .ok (.aload_n 0, 1) := by decide +kernel
theorem dU_4 : decode prog_13_method_8_code 4 = .ok (.invokevirtual 94, 3) := by decide +kernel
theorem tw_31 {a0 : Array Value} {Z : State} (hw : HW a0 Z) : (Jvm.Cond.methodLink "com/example/ref_search/refsearch/matcher/Probes" (94 : Nat) ({ cls := "java/lang/String", name := "length", desc := "()I" } : Jvm.MethodName)).before a0 Z = true := hw _ (List.mem_of_getElem? (i := 31) rfl)
theorem pd_14 : parseMethodDescriptor "()I" = some ⟨[], some .int⟩ := by decide +kernel
theorem tw_35 {a0 : Array Value} {Z : State} (hw : HW a0 Z) : (Jvm.Cond.code ({ cls := "java/lang/String", name := "length", desc := "()I" } : Jvm.MethodName) jdk_42_method_54_code (1 : Nat) (Option.some Jvm.ClassFile.FieldType.int)).before a0 Z = true := hw _ (List.mem_of_getElem? (i := 35) rfl)
theorem tw_32 {a0 : Array Value} {Z : State} (hw : HW a0 Z) : (Jvm.Cond.declares ({ cls := "java/lang/String", name := "length", desc := "()I" } : Jvm.MethodName)).before a0 Z = true := hw _ (List.mem_of_getElem? (i := 32) rfl)
theorem tw_34 {a0 : Array Value} {Z : State} (hw : HW a0 Z) : (Jvm.Cond.selects "java/lang/String" ({ cls := "java/lang/String", name := "length", desc := "()I" } : Jvm.MethodName) ({ cls := "java/lang/String", name := "length", desc := "()I" } : Jvm.MethodName)).before a0 Z = true := hw _ (List.mem_of_getElem? (i := 34) rfl)
theorem tw_33 {a0 : Array Value} {Z : State} (hw : HW a0 Z) : (Jvm.Cond.instanceMethod ({ cls := "java/lang/String", name := "length", desc := "()I" } : Jvm.MethodName)).before a0 Z = true := hw _ (List.mem_of_getElem? (i := 33) rfl)
theorem dU_7 : decode prog_13_method_8_code 7 = .ok (.if_icmp .ge 20, 3) := by decide +kernel
theorem dU_10 : decode prog_13_method_8_code 10 = .ok (.aload_n 0, 1) := by decide +kernel
theorem dU_11 : decode prog_13_method_8_code 11 = .ok (.iload_n 1, 1) := by decide +kernel
theorem dU_12 : decode prog_13_method_8_code 12 = .ok (.invokevirtual 97, 3) := by decide +kernel
theorem tw_52 {a0 : Array Value} {Z : State} (hw : HW a0 Z) : (Jvm.Cond.methodLink "com/example/ref_search/refsearch/matcher/Probes" (97 : Nat) ({ cls := "java/lang/String", name := "charAt", desc := "(I)C" } : Jvm.MethodName)).before a0 Z = true := hw _ (List.mem_of_getElem? (i := 52) rfl)
theorem pd_15 : parseMethodDescriptor "(I)C" = some ⟨[.int], some .char⟩ := by decide +kernel
theorem tw_56 {a0 : Array Value} {Z : State} (hw : HW a0 Z) : (Jvm.Cond.code ({ cls := "java/lang/String", name := "charAt", desc := "(I)C" } : Jvm.MethodName) jdk_42_method_56_code (2 : Nat) (Option.some Jvm.ClassFile.FieldType.char)).before a0 Z = true := hw _ (List.mem_of_getElem? (i := 56) rfl)
theorem tw_53 {a0 : Array Value} {Z : State} (hw : HW a0 Z) : (Jvm.Cond.declares ({ cls := "java/lang/String", name := "charAt", desc := "(I)C" } : Jvm.MethodName)).before a0 Z = true := hw _ (List.mem_of_getElem? (i := 53) rfl)
theorem tw_55 {a0 : Array Value} {Z : State} (hw : HW a0 Z) : (Jvm.Cond.selects "java/lang/String" ({ cls := "java/lang/String", name := "charAt", desc := "(I)C" } : Jvm.MethodName) ({ cls := "java/lang/String", name := "charAt", desc := "(I)C" } : Jvm.MethodName)).before a0 Z = true := hw _ (List.mem_of_getElem? (i := 55) rfl)
theorem tw_54 {a0 : Array Value} {Z : State} (hw : HW a0 Z) : (Jvm.Cond.instanceMethod ({ cls := "java/lang/String", name := "charAt", desc := "(I)C" } : Jvm.MethodName)).before a0 Z = true := hw _ (List.mem_of_getElem? (i := 54) rfl)
theorem dU_15 : decode prog_13_method_8_code 15 = .ok (.sipush 255, 3) := by decide +kernel
theorem dU_18 : decode prog_13_method_8_code 18 = .ok (.if_icmp .gt 9, 3) := by decide +kernel
theorem dU_27 : decode prog_13_method_8_code 27 = .ok (.iload_n 1, 1) := by decide +kernel
theorem dU_28 : decode prog_13_method_8_code 28 = .ok (.aload_n 0, 1) := by decide +kernel
theorem dU_29 : decode prog_13_method_8_code 29 = .ok (.invokevirtual 94, 3) := by decide +kernel
theorem dU_32 : decode prog_13_method_8_code 32 = .ok (.if_icmp .ge 7, 3) := by decide +kernel
theorem dU_35 : decode prog_13_method_8_code 35 = .ok (.iload_n 1, 1) := by decide +kernel
theorem dU_36 : decode prog_13_method_8_code 36 = .ok (.goto 4, 3) := by decide +kernel
theorem dU_40 : decode prog_13_method_8_code 40 = .ok (.ireturn, 1) := by decide +kernel
def R134 : Room := { frames := 5, cells := 0, slots := 0, locals := 66 }
def Q134 (Z : State) (a b : Addr) (kb : ClassId) (cs u0 : Int32) (fm : Value) (h0 : Heap) (v : Option Value) (h : Heap) : Prop := v = some (.int 0) ∧ h0 = h
theorem ef134 (a : Addr) (m : MethodId) : entryFrame m #[(.ref a)] 2 = mkF m 0 #[.val (.ref a), .unset] [] := by first | (simp [entryFrame, mkF, argsToLocals, Value.category]; done) | rfl
theorem pn_4 : plainName "com/example/ref_search/refsearch/matcher/Probes" = true := by first | (simp [plainName, overriddenIn]; done) | decide +kernel
theorem rm134 (hw : HW a0 Z) (a b : Addr) (kb : ClassId) (cs u0 : Int32) (fm : Value) (h0 : Heap) (n0 : Nat) (Z0 : n0 ≤ h0.size) (O : Old Z n0 h0) (S : uC Z cs) (hcs : ¬ cs = 0) (E : Exa Z h0 a "java/lang/String") (F1 : Fld Z h0 a "java/lang/String" "value" "[B" (.ref b)) (F2 : Fld Z h0 a "java/lang/String" "coder" "B" (.int 1)) (Vb : Arv Z h0 b kb .byte (2 : Int32) [(.int (uL u0)), (.int (uH u0))] (.int 0)) (SA : uA Z) (SH : uS Z) (SL : uT Z) (SF : uF Z fm) (hfm : fm.category = 1) (r_u0 : C16 u0) (m0 : 255 < u0) : OMet l Z [] (⟨"com/example/ref_search/refsearch/matcher/Probes", "offsetFromU0100", "(Ljava/lang/String;)I"⟩ : MethodName) prog_13_method_8_code 2 (some .int) R134 #[(.ref a)] h0 n0 (Q134 Z a b kb cs u0 fm h0) := by
  refine OMet.of (own := "com/example/ref_search/refsearch/matcher/Probes") rfl (plainFor_of_name pn_4) (ef134 a) Z0 ?_
  intro p e s m below meth c T0 Y0 hnm
  refine Gl.iconst Y0 (v := (0 : Int32)) (by decide) dU_0 rfl ?_
  refine Gl.istoreN Y0 (L' := #[.val (.ref a), .val (.int 0)]) rfl dU_1 rfl ?_
  refine Gl.iloadN Y0 rfl dU_2 rfl ?_
  refine Gl.aloadN Y0 rfl rfl dU_3 rfl ?_
  refine Gl.callV Y0 (tw_31 hw) (tw_32 hw) (tw_34 hw) (tw_34 hw) (tw_33 hw) (tw_8 hw) (tw_35 hw) (by decide) E (rm132 l Z a0 hw a b kb cs u0 h0 n0 Y0.sz O S (hcs) E F1 F2 Vb) (a := a) (argsL := []) (rest := [(.int 0)]) rfl rfl (lenOf pd_14 rfl) rfl (by decide) (nle rfl) (by decide) (by decide) dU_4 rfl (fun v4 T4 h4 Y4 q4 => ?_)
  obtain ⟨rfl, rfl⟩ := q4
  show Gl p e below _ (T4.setTop (mkF m 7 _ [(.int 1), (.int 0)]))
  refine Gl.icmpge Y4 dU_7 (by decide) rfl rfl (fun c7 => ?_) (fun c7 => ?_)
  · exact absurd c7 (by decide)
  refine Gl.aloadN Y4 rfl rfl dU_10 rfl ?_
  refine Gl.iloadN Y4 rfl dU_11 rfl ?_
  refine Gl.callV Y4 (tw_52 hw) (tw_53 hw) (tw_55 hw) (tw_55 hw) (tw_54 hw) (tw_8 hw) (tw_56 hw) (by decide) E (rm133 l Z a0 hw a b kb cs u0 fm h0 n0 Y4.sz O S (hcs) E F1 F2 Vb SA SH SL SF (hfm) (r_u0)) (a := a) (argsL := [(.int 0)]) (rest := []) rfl rfl (lenOf pd_15 rfl) rfl (by decide) (nle rfl) (by decide) (by decide) dU_12 rfl (fun v12 T12 h12 Y12 q12 => ?_)
  obtain ⟨rfl, rfl⟩ := q12
  show Gl p e below _ (T12.setTop (mkF m 15 _ [(.int u0)]))
  refine Gl.sipush Y12 (v := (255 : Int32)) (by decide) dU_15 rfl ?_
  refine Gl.icmpgt Y12 dU_18 (by decide) rfl rfl (fun c18 => ?_) (fun c18 => ?_)
  rotate_left
  · exact absurd m0 c18
  refine Gl.iloadN Y12 rfl dU_27 rfl ?_
  refine Gl.aloadN Y12 rfl rfl dU_28 rfl ?_
  refine Gl.callV Y12 (tw_31 hw) (tw_32 hw) (tw_34 hw) (tw_34 hw) (tw_33 hw) (tw_8 hw) (tw_35 hw) (by decide) E (rm132 l Z a0 hw a b kb cs u0 h0 n0 Y12.sz O S (hcs) E F1 F2 Vb) (a := a) (argsL := []) (rest := [(.int 0)]) rfl rfl (lenOf pd_14 rfl) rfl (by decide) (nle rfl) (by decide) (by decide) dU_29 rfl (fun v29 T29 h29 Y29 q29 => ?_)
  obtain ⟨rfl, rfl⟩ := q29
  show Gl p e below _ (T29.setTop (mkF m 32 _ [(.int 1), (.int 0)]))
  refine Gl.icmpge Y29 dU_32 (by decide) rfl rfl (fun c32 => ?_) (fun c32 => ?_)
  · exact absurd c32 (by decide)
  refine Gl.iloadN Y29 rfl dU_35 rfl ?_
  refine Gl.goto Y29 dU_36 (by decide) rfl ?_
  exact Gl.retI Y29 (by decide) (by decide)  dU_40 ⟨rfl, rfl⟩
theorem dU_21 : decode prog_13_method_8_code 21 = .ok (.iinc 1 1, 3) := by decide +kernel
theorem dU_24 : decode prog_13_method_8_code 24 = .ok (.goto (-22), 3) := by decide +kernel
theorem dU_39 : decode prog_13_method_8_code 39 = .ok (.iconst (-1), 1) := by decide +kernel
def R135 : Room := { frames := 4, cells := 0, slots := 0, locals := 53 }
def Q135 (Z : State) (a b : Addr) (kb : ClassId) (cs u0 : Int32) (fm : Value) (h0 : Heap) (v : Option Value) (h : Heap) : Prop := v = some (.int (-1)) ∧ h0 = h
theorem ef135 (a : Addr) (m : MethodId) : entryFrame m #[(.ref a)] 2 = mkF m 0 #[.val (.ref a), .unset] [] := by first | (simp [entryFrame, mkF, argsToLocals, Value.category]; done) | rfl
theorem rm135 (hw : HW a0 Z) (a b : Addr) (kb : ClassId) (cs u0 : Int32) (fm : Value) (h0 : Heap) (n0 : Nat) (Z0 : n0 ≤ h0.size) (O : Old Z n0 h0) (S : uC Z cs) (hcs : ¬ cs = 0) (E : Exa Z h0 a "java/lang/String") (F1 : Fld Z h0 a "java/lang/String" "value" "[B" (.ref b)) (F2 : Fld Z h0 a "java/lang/String" "coder" "B" (.int 0)) (Vb : Arv Z h0 b kb .byte (1 : Int32) [(.int (bL u0))] (.int 0)) (SF : uF Z fm) (hfm : fm.category = 1) (r_u0 : C16 u0) (l0 : ¬ 255 < u0) : OMet l Z [] (⟨"com/example/ref_search/refsearch/matcher/Probes", "offsetFromU0100", "(Ljava/lang/String;)I"⟩ : MethodName) prog_13_method_8_code 2 (some .int) R135 #[(.ref a)] h0 n0 (Q135 Z a b kb cs u0 fm h0) := by
  refine OMet.of (own := "com/example/ref_search/refsearch/matcher/Probes") rfl (plainFor_of_name pn_4) (ef135 a) Z0 ?_
  intro p e s m below meth c T0 Y0 hnm
  refine Gl.iconst Y0 (v := (0 : Int32)) (by decide) dU_0 rfl ?_
  refine Gl.istoreN Y0 (L' := #[.val (.ref a), .val (.int 0)]) rfl dU_1 rfl ?_
  refine Gl.iloadN Y0 rfl dU_2 rfl ?_
  refine Gl.aloadN Y0 rfl rfl dU_3 rfl ?_
  refine Gl.callV Y0 (tw_31 hw) (tw_32 hw) (tw_34 hw) (tw_34 hw) (tw_33 hw) (tw_8 hw) (tw_35 hw) (by decide) E (rm130 l Z a0 hw a b kb cs u0 h0 n0 Y0.sz O S (hcs) E F1 F2 Vb) (a := a) (argsL := []) (rest := [(.int 0)]) rfl rfl (lenOf pd_14 rfl) rfl (by decide) (nle rfl) (by decide) (by decide) dU_4 rfl (fun v4 T4 h4 Y4 q4 => ?_)
  obtain ⟨rfl, rfl⟩ := q4
  show Gl p e below _ (T4.setTop (mkF m 7 _ [(.int 1), (.int 0)]))
  refine Gl.icmpge Y4 dU_7 (by decide) rfl rfl (fun c7 => ?_) (fun c7 => ?_)
  · exact absurd c7 (by decide)
  refine Gl.aloadN Y4 rfl rfl dU_10 rfl ?_
  refine Gl.iloadN Y4 rfl dU_11 rfl ?_
  refine Gl.callV Y4 (tw_52 hw) (tw_53 hw) (tw_55 hw) (tw_55 hw) (tw_54 hw) (tw_8 hw) (tw_56 hw) (by decide) E (rm131 l Z a0 hw a b kb cs u0 fm h0 n0 Y4.sz O S (hcs) E F1 F2 Vb SF (hfm) (r_u0) (by first | assumption | decide | omega | (simp; done))) (a := a) (argsL := [(.int 0)]) (rest := []) rfl rfl (lenOf pd_15 rfl) rfl (by decide) (nle rfl) (by decide) (by decide) dU_12 rfl (fun v12 T12 h12 Y12 q12 => ?_)
  obtain ⟨rfl, rfl⟩ := q12
  show Gl p e below _ (T12.setTop (mkF m 15 _ [(.int u0)]))
  refine Gl.sipush Y12 (v := (255 : Int32)) (by decide) dU_15 rfl ?_
  refine Gl.icmpgt Y12 dU_18 (by decide) rfl rfl (fun c18 => ?_) (fun c18 => ?_)
  · exact absurd c18 l0
  refine Gl.iinc Y12 rfl (r := (1 : Int32)) (by decide) (L' := #[.val (.ref a), .val (.int 1)]) rfl dU_21 rfl ?_
  refine Gl.goto Y12 dU_24 (by decide) rfl ?_
  refine Gl.iloadN Y12 rfl dU_2 rfl ?_
  refine Gl.aloadN Y12 rfl rfl dU_3 rfl ?_
  refine Gl.callV Y12 (tw_31 hw) (tw_32 hw) (tw_34 hw) (tw_34 hw) (tw_33 hw) (tw_8 hw) (tw_35 hw) (by decide) E (rm130 l Z a0 hw a b kb cs u0 h0 n0 Y12.sz O S (hcs) E F1 F2 Vb) (a := a) (argsL := []) (rest := [(.int 1)]) rfl rfl (lenOf pd_14 rfl) rfl (by decide) (nle rfl) (by decide) (by decide) dU_4 rfl (fun v4_2 T4_2 h4_2 Y4_2 q4_2 => ?_)
  obtain ⟨rfl, rfl⟩ := q4_2
  show Gl p e below _ (T4_2.setTop (mkF m 7 _ [(.int 1), (.int 1)]))
  refine Gl.icmpge Y4_2 dU_7 (by decide) rfl rfl (fun c7_2 => ?_) (fun c7_2 => ?_)
  rotate_left
  · exact absurd c7_2 (by decide)
  refine Gl.iloadN Y4_2 rfl dU_27 rfl ?_
  refine Gl.aloadN Y4_2 rfl rfl dU_28 rfl ?_
  refine Gl.callV Y4_2 (tw_31 hw) (tw_32 hw) (tw_34 hw) (tw_34 hw) (tw_33 hw) (tw_8 hw) (tw_35 hw) (by decide) E (rm130 l Z a0 hw a b kb cs u0 h0 n0 Y4_2.sz O S (hcs) E F1 F2 Vb) (a := a) (argsL := []) (rest := [(.int 1)]) rfl rfl (lenOf pd_14 rfl) rfl (by decide) (nle rfl) (by decide) (by decide) dU_29 rfl (fun v29 T29 h29 Y29 q29 => ?_)
  obtain ⟨rfl, rfl⟩ := q29
  show Gl p e below _ (T29.setTop (mkF m 32 _ [(.int 1), (.int 1)]))
  refine Gl.icmpge Y29 dU_32 (by decide) rfl rfl (fun c32 => ?_) (fun c32 => ?_)
  rotate_left
  · exact absurd c32 (by decide)
  refine Gl.iconst Y29 (v := (-1 : Int32)) (by decide) dU_39 rfl ?_
  exact Gl.retI Y29 (by decide) (by decide)  dU_40 ⟨rfl, rfl⟩
def R136 : Room := { frames := 1, cells := 0, slots := 0, locals := 13 }
def Q136 (Z : State) (a b : Addr) (kb : ClassId) (cs u0 u1 : Int32) (h0 : Heap) (v : Option Value) (h : Heap) : Prop := v = some (.int 2) ∧ h0 = h
theorem ef136 (a : Addr) (m : MethodId) : entryFrame m #[(.ref a)] 1 = mkF m 0 #[.val (.ref a)] [] := by first | (simp [entryFrame, mkF, argsToLocals, Value.category]; done) | rfl
theorem rm136 (hw : HW a0 Z) (a b : Addr) (kb : ClassId) (cs u0 u1 : Int32) (h0 : Heap) (n0 : Nat) (Z0 : n0 ≤ h0.size) (O : Old Z n0 h0) (S : uC Z cs) (hcs : ¬ cs = 0) (E : Exa Z h0 a "java/lang/String") (F1 : Fld Z h0 a "java/lang/String" "value" "[B" (.ref b)) (F2 : Fld Z h0 a "java/lang/String" "coder" "B" (.int 0)) (Vb : Arv Z h0 b kb .byte (2 : Int32) [(.int (bL u0)), (.int (bL u1))] (.int 0)) : OMet l Z [] (⟨"java/lang/String", "length", "()I"⟩ : MethodName) jdk_42_method_54_code 1 (some .int) R136 #[(.ref a)] h0 n0 (Q136 Z a b kb cs u0 u1 h0) := by
  refine OMet.of (own := "java/lang/String") rfl (plainFor_of_name pn_1) (ef136 a) Z0 ?_
  intro p e s m below meth c T0 Y0 hnm
  refine Gl.aloadN Y0 rfl rfl dS_0 rfl ?_
  refine Gl.getF Y0 (host := "") (Or.inl (tw_25 hw)) Via.refl F1 dS_1 rfl (fun T1 Y1 => ?_)
  refine Gl.arraylength Y1 Vb dS_4 rfl ?_
  refine Gl.aloadN Y1 rfl rfl dS_5 rfl ?_
  refine Gl.callV Y1 (tw_36 hw) (tw_37 hw) (tw_39 hw) (tw_39 hw) (tw_38 hw) (tw_8 hw) (tw_40 hw) (by decide) E (rm126 l Z a0 hw a cs h0 n0 Y1.sz O S (hcs) F2) (a := a) (argsL := []) (rest := [(.int 2)]) rfl rfl (lenOf pd_12 rfl) rfl (by decide) (nle rfl) (by decide) (by decide) dS_6 rfl (fun v6 T6 h6 Y6 q6 => ?_)
  obtain ⟨rfl, rfl⟩ := q6
  show Gl p e below _ (T6.setTop (mkF m 9 _ [(.int 0), (.int 2)]))
  refine Gl.ishr Y6 (r := (2 : Int32)) (by decide) dS_9 rfl ?_
  exact Gl.retI Y6 (by decide) (by decide)  dS_10 ⟨rfl, rfl⟩
def R137 : Room := { frames := 3, cells := 0, slots := 0, locals := 40 }
def Q137 (Z : State) (a b : Addr) (kb : ClassId) (cs u0 u1 : Int32) (fm : Value) (h0 : Heap) (v : Option Value) (h : Heap) : Prop := v = some (.int u0) ∧ h0 = h
theorem ef137 (a : Addr) (m : MethodId) : entryFrame m #[(.ref a), (.int 0)] 2 = mkF m 0 #[.val (.ref a), .val (.int 0)] [] := by first | (simp [entryFrame, mkF, argsToLocals, Value.category]; done) | rfl
theorem rm137 (hw : HW a0 Z) (a b : Addr) (kb : ClassId) (cs u0 u1 : Int32) (fm : Value) (h0 : Heap) (n0 : Nat) (Z0 : n0 ≤ h0.size) (O : Old Z n0 h0) (S : uC Z cs) (hcs : ¬ cs = 0) (E : Exa Z h0 a "java/lang/String") (F1 : Fld Z h0 a "java/lang/String" "value" "[B" (.ref b)) (F2 : Fld Z h0 a "java/lang/String" "coder" "B" (.int 0)) (Vb : Arv Z h0 b kb .byte (2 : Int32) [(.int (bL u0)), (.int (bL u1))] (.int 0)) (SF : uF Z fm) (hfm : fm.category = 1) (r_u0 : C16 u0) (r_u1 : C16 u1) (li : ¬ 255 < u0) : OMet l Z [] (⟨"java/lang/String", "charAt", "(I)C"⟩ : MethodName) jdk_42_method_56_code 2 (some .char) R137 #[(.ref a), (.int 0)] h0 n0 (Q137 Z a b kb cs u0 u1 fm h0) := by
  refine OMet.of (own := "java/lang/String") rfl (plainFor_of_name pn_1) (ef137 a) Z0 ?_
  intro p e s m below meth c T0 Y0 hnm
  refine Gl.aloadN Y0 rfl rfl dT_0 rfl ?_
  refine Gl.callV Y0 (tw_57 hw) (tw_58 hw) (tw_60 hw) (tw_60 hw) (tw_59 hw) (tw_8 hw) (tw_61 hw) (by decide) E (rm127 l Z a0 hw a cs h0 n0 Y0.sz O S (hcs) F2) (a := a) (argsL := []) (rest := []) rfl rfl (lenOf pd_13 rfl) rfl (by decide) (nle rfl) (by decide) (by decide) dT_1 rfl (fun v1 T1 h1 Y1 q1 => ?_)
  obtain ⟨rfl, rfl⟩ := q1
  show Gl p e below _ (T1.setTop (mkF m 4 _ [(.int 1)]))
  refine Gl.ifeq Y1 dT_4 (by decide) rfl rfl (fun c4 => ?_) (fun c4 => ?_)
  · exact absurd c4 (by decide)
  refine Gl.aloadN Y1 rfl rfl dT_7 rfl ?_
  refine Gl.getF Y1 (host := "") (Or.inl (tw_25 hw)) Via.refl F1 dT_8 rfl (fun T8 Y8 => ?_)
  refine Gl.iloadN Y8 rfl dT_11 rfl ?_
  refine Gl.callS Y8 (tw_62 hw) (tw_63 hw) (tw_64 hw) (tw_65 hw) (by decide) (rm105 l Z a0 hw fm b kb u0 u1 h0 n0 Y8.sz O SF (hfm) Vb (r_u0) (r_u1) (li)) (argsL := [(.ref b), (.int 0)]) (rest := []) rfl rfl (lenOf pd_5 rfl) rfl (by decide) (nle rfl) (by decide) (by decide) dT_12 rfl (fun v12 T12 h12 Y12 q12 => ?_)
  obtain ⟨rfl, rfl⟩ := q12
  show Gl p e below _ (T12.setTop (mkF m 15 _ [(.int u0)]))
  exact Gl.retC Y12 (by decide) (by decide) (x' := u0) (own_narCr r_u0.1 r_u0.2) dT_15 ⟨rfl, rfl⟩
def R138 : Room := { frames := 3, cells := 0, slots := 0, locals := 40 }
def Q138 (Z : State) (a b : Addr) (kb : ClassId) (cs u0 u1 : Int32) (fm : Value) (h0 : Heap) (v : Option Value) (h : Heap) : Prop := v = some (.int u1) ∧ h0 = h
theorem ef138 (a : Addr) (m : MethodId) : entryFrame m #[(.ref a), (.int 1)] 2 = mkF m 0 #[.val (.ref a), .val (.int 1)] [] := by first | (simp [entryFrame, mkF, argsToLocals, Value.category]; done) | rfl
theorem rm138 (hw : HW a0 Z) (a b : Addr) (kb : ClassId) (cs u0 u1 : Int32) (fm : Value) (h0 : Heap) (n0 : Nat) (Z0 : n0 ≤ h0.size) (O : Old Z n0 h0) (S : uC Z cs) (hcs : ¬ cs = 0) (E : Exa Z h0 a "java/lang/String") (F1 : Fld Z h0 a "java/lang/String" "value" "[B" (.ref b)) (F2 : Fld Z h0 a "java/lang/String" "coder" "B" (.int 0)) (Vb : Arv Z h0 b kb .byte (2 : Int32) [(.int (bL u0)), (.int (bL u1))] (.int 0)) (SF : uF Z fm) (hfm : fm.category = 1) (r_u0 : C16 u0) (r_u1 : C16 u1) (li : ¬ 255 < u1) : OMet l Z [] (⟨"java/lang/String", "charAt", "(I)C"⟩ : MethodName) jdk_42_method_56_code 2 (some .char) R138 #[(.ref a), (.int 1)] h0 n0 (Q138 Z a b kb cs u0 u1 fm h0) := by
  refine OMet.of (own := "java/lang/String") rfl (plainFor_of_name pn_1) (ef138 a) Z0 ?_
  intro p e s m below meth c T0 Y0 hnm
  refine Gl.aloadN Y0 rfl rfl dT_0 rfl ?_
  refine Gl.callV Y0 (tw_57 hw) (tw_58 hw) (tw_60 hw) (tw_60 hw) (tw_59 hw) (tw_8 hw) (tw_61 hw) (by decide) E (rm127 l Z a0 hw a cs h0 n0 Y0.sz O S (hcs) F2) (a := a) (argsL := []) (rest := []) rfl rfl (lenOf pd_13 rfl) rfl (by decide) (nle rfl) (by decide) (by decide) dT_1 rfl (fun v1 T1 h1 Y1 q1 => ?_)
  obtain ⟨rfl, rfl⟩ := q1
  show Gl p e below _ (T1.setTop (mkF m 4 _ [(.int 1)]))
  refine Gl.ifeq Y1 dT_4 (by decide) rfl rfl (fun c4 => ?_) (fun c4 => ?_)
  · exact absurd c4 (by decide)
  refine Gl.aloadN Y1 rfl rfl dT_7 rfl ?_
  refine Gl.getF Y1 (host := "") (Or.inl (tw_25 hw)) Via.refl F1 dT_8 rfl (fun T8 Y8 => ?_)
  refine Gl.iloadN Y8 rfl dT_11 rfl ?_
  refine Gl.callS Y8 (tw_62 hw) (tw_63 hw) (tw_64 hw) (tw_65 hw) (by decide) (rm107 l Z a0 hw fm b kb u0 u1 h0 n0 Y8.sz O SF (hfm) Vb (r_u0) (r_u1) (li)) (argsL := [(.ref b), (.int 1)]) (rest := []) rfl rfl (lenOf pd_5 rfl) rfl (by decide) (nle rfl) (by decide) (by decide) dT_12 rfl (fun v12 T12 h12 Y12 q12 => ?_)
  obtain ⟨rfl, rfl⟩ := q12
  show Gl p e below _ (T12.setTop (mkF m 15 _ [(.int u1)]))
  exact Gl.retC Y12 (by decide) (by decide) (x' := u1) (own_narCr r_u1.1 r_u1.2) dT_15 ⟨rfl, rfl⟩
def R139 : Room := { frames := 1, cells := 0, slots := 0, locals := 13 }
def Q139 (Z : State) (a b : Addr) (kb : ClassId) (cs u0 u1 : Int32) (h0 : Heap) (v : Option Value) (h : Heap) : Prop := v = some (.int 2) ∧ h0 = h
theorem ef139 (a : Addr) (m : MethodId) : entryFrame m #[(.ref a)] 1 = mkF m 0 #[.val (.ref a)] [] := by first | (simp [entryFrame, mkF, argsToLocals, Value.category]; done) | rfl
theorem rm139 (hw : HW a0 Z) (a b : Addr) (kb : ClassId) (cs u0 u1 : Int32) (h0 : Heap) (n0 : Nat) (Z0 : n0 ≤ h0.size) (O : Old Z n0 h0) (S : uC Z cs) (hcs : ¬ cs = 0) (E : Exa Z h0 a "java/lang/String") (F1 : Fld Z h0 a "java/lang/String" "value" "[B" (.ref b)) (F2 : Fld Z h0 a "java/lang/String" "coder" "B" (.int 1)) (Vb : Arv Z h0 b kb .byte (4 : Int32) [(.int (uL u0)), (.int (uH u0)), (.int (uL u1)), (.int (uH u1))] (.int 0)) : OMet l Z [] (⟨"java/lang/String", "length", "()I"⟩ : MethodName) jdk_42_method_54_code 1 (some .int) R139 #[(.ref a)] h0 n0 (Q139 Z a b kb cs u0 u1 h0) := by
  refine OMet.of (own := "java/lang/String") rfl (plainFor_of_name pn_1) (ef139 a) Z0 ?_
  intro p e s m below meth c T0 Y0 hnm
  refine Gl.aloadN Y0 rfl rfl dS_0 rfl ?_
  refine Gl.getF Y0 (host := "") (Or.inl (tw_25 hw)) Via.refl F1 dS_1 rfl (fun T1 Y1 => ?_)
  refine Gl.arraylength Y1 Vb dS_4 rfl ?_
  refine Gl.aloadN Y1 rfl rfl dS_5 rfl ?_
  refine Gl.callV Y1 (tw_36 hw) (tw_37 hw) (tw_39 hw) (tw_39 hw) (tw_38 hw) (tw_8 hw) (tw_40 hw) (by decide) E (rm128 l Z a0 hw a cs h0 n0 Y1.sz O S (hcs) F2) (a := a) (argsL := []) (rest := [(.int 4)]) rfl rfl (lenOf pd_12 rfl) rfl (by decide) (nle rfl) (by decide) (by decide) dS_6 rfl (fun v6 T6 h6 Y6 q6 => ?_)
  obtain ⟨rfl, rfl⟩ := q6
  show Gl p e below _ (T6.setTop (mkF m 9 _ [(.int 1), (.int 4)]))
  refine Gl.ishr Y6 (r := (2 : Int32)) (by decide) dS_9 rfl ?_
  exact Gl.retI Y6 (by decide) (by decide)  dS_10 ⟨rfl, rfl⟩
def R140 : Room := { frames := 4, cells := 0, slots := 0, locals := 53 }
def Q140 (Z : State) (a b : Addr) (kb : ClassId) (cs u0 u1 : Int32) (fm : Value) (h0 : Heap) (v : Option Value) (h : Heap) : Prop := v = some (.int u0) ∧ h0 = h
theorem ef140 (a : Addr) (m : MethodId) : entryFrame m #[(.ref a), (.int 0)] 2 = mkF m 0 #[.val (.ref a), .val (.int 0)] [] := by first | (simp [entryFrame, mkF, argsToLocals, Value.category]; done) | rfl
theorem rm140 (hw : HW a0 Z) (a b : Addr) (kb : ClassId) (cs u0 u1 : Int32) (fm : Value) (h0 : Heap) (n0 : Nat) (Z0 : n0 ≤ h0.size) (O : Old Z n0 h0) (S : uC Z cs) (hcs : ¬ cs = 0) (E : Exa Z h0 a "java/lang/String") (F1 : Fld Z h0 a "java/lang/String" "value" "[B" (.ref b)) (F2 : Fld Z h0 a "java/lang/String" "coder" "B" (.int 1)) (Vb : Arv Z h0 b kb .byte (4 : Int32) [(.int (uL u0)), (.int (uH u0)), (.int (uL u1)), (.int (uH u1))] (.int 0)) (SA : uA Z) (SH : uS Z) (SL : uT Z) (SF : uF Z fm) (hfm : fm.category = 1) (r_u0 : C16 u0) (r_u1 : C16 u1) : OMet l Z [] (⟨"java/lang/String", "charAt", "(I)C"⟩ : MethodName) jdk_42_method_56_code 2 (some .char) R140 #[(.ref a), (.int 0)] h0 n0 (Q140 Z a b kb cs u0 u1 fm h0) := by
  refine OMet.of (own := "java/lang/String") rfl (plainFor_of_name pn_1) (ef140 a) Z0 ?_
  intro p e s m below meth c T0 Y0 hnm
  refine Gl.aloadN Y0 rfl rfl dT_0 rfl ?_
  refine Gl.callV Y0 (tw_57 hw) (tw_58 hw) (tw_60 hw) (tw_60 hw) (tw_59 hw) (tw_8 hw) (tw_61 hw) (by decide) E (rm129 l Z a0 hw a cs h0 n0 Y0.sz O S (hcs) F2) (a := a) (argsL := []) (rest := []) rfl rfl (lenOf pd_13 rfl) rfl (by decide) (nle rfl) (by decide) (by decide) dT_1 rfl (fun v1 T1 h1 Y1 q1 => ?_)
  obtain ⟨rfl, rfl⟩ := q1
  show Gl p e below _ (T1.setTop (mkF m 4 _ [(.int 0)]))
  refine Gl.ifeq Y1 dT_4 (by decide) rfl rfl (fun c4 => ?_) (fun c4 => ?_)
  rotate_left
  · exact absurd c4 (by decide)
  refine Gl.aloadN Y1 rfl rfl dT_16 rfl ?_
  refine Gl.getF Y1 (host := "") (Or.inl (tw_25 hw)) Via.refl F1 dT_17 rfl (fun T17 Y17 => ?_)
  refine Gl.iloadN Y17 rfl dT_20 rfl ?_
  refine Gl.callS Y17 (tw_93 hw) (tw_94 hw) (tw_44 hw) (tw_95 hw) (by decide) (rm104 l Z a0 hw fm b kb u0 u1 h0 n0 Y17.sz O SA SH SL SF (hfm) Vb (r_u0) (r_u1)) (argsL := [(.ref b), (.int 0)]) (rest := []) rfl rfl (lenOf pd_5 rfl) rfl (by decide) (nle rfl) (by decide) (by decide) dT_21 rfl (fun v21 T21 h21 Y21 q21 => ?_)
  obtain ⟨rfl, rfl⟩ := q21
  show Gl p e below _ (T21.setTop (mkF m 24 _ [(.int u0)]))
  exact Gl.retC Y21 (by decide) (by decide) (x' := u0) (own_narCr r_u0.1 r_u0.2) dT_24 ⟨rfl, rfl⟩
def R141 : Room := { frames := 4, cells := 0, slots := 0, locals := 53 }
def Q141 (Z : State) (a b : Addr) (kb : ClassId) (cs u0 u1 : Int32) (fm : Value) (h0 : Heap) (v : Option Value) (h : Heap) : Prop := v = some (.int u1) ∧ h0 = h
theorem ef141 (a : Addr) (m : MethodId) : entryFrame m #[(.ref a), (.int 1)] 2 = mkF m 0 #[.val (.ref a), .val (.int 1)] [] := by first | (simp [entryFrame, mkF, argsToLocals, Value.category]; done) | rfl
theorem rm141 (hw : HW a0 Z) (a b : Addr) (kb : ClassId) (cs u0 u1 : Int32) (fm : Value) (h0 : Heap) (n0 : Nat) (Z0 : n0 ≤ h0.size) (O : Old Z n0 h0) (S : uC Z cs) (hcs : ¬ cs = 0) (E : Exa Z h0 a "java/lang/String") (F1 : Fld Z h0 a "java/lang/String" "value" "[B" (.ref b)) (F2 : Fld Z h0 a "java/lang/String" "coder" "B" (.int 1)) (Vb : Arv Z h0 b kb .byte (4 : Int32) [(.int (uL u0)), (.int (uH u0)), (.int (uL u1)), (.int (uH u1))] (.int 0)) (SA : uA Z) (SH : uS Z) (SL : uT Z) (SF : uF Z fm) (hfm : fm.category = 1) (r_u0 : C16 u0) (r_u1 : C16 u1) : OMet l Z [] (⟨"java/lang/String", "charAt", "(I)C"⟩ : MethodName) jdk_42_method_56_code 2 (some .char) R141 #[(.ref a), (.int 1)] h0 n0 (Q141 Z a b kb cs u0 u1 fm h0) := by
  refine OMet.of (own := "java/lang/String") rfl (plainFor_of_name pn_1) (ef141 a) Z0 ?_
  intro p e s m below meth c T0 Y0 hnm
  refine Gl.aloadN Y0 rfl rfl dT_0 rfl ?_
  refine Gl.callV Y0 (tw_57 hw) (tw_58 hw) (tw_60 hw) (tw_60 hw) (tw_59 hw) (tw_8 hw) (tw_61 hw) (by decide) E (rm129 l Z a0 hw a cs h0 n0 Y0.sz O S (hcs) F2) (a := a) (argsL := []) (rest := []) rfl rfl (lenOf pd_13 rfl) rfl (by decide) (nle rfl) (by decide) (by decide) dT_1 rfl (fun v1 T1 h1 Y1 q1 => ?_)
  obtain ⟨rfl, rfl⟩ := q1
  show Gl p e below _ (T1.setTop (mkF m 4 _ [(.int 0)]))
  refine Gl.ifeq Y1 dT_4 (by decide) rfl rfl (fun c4 => ?_) (fun c4 => ?_)
  rotate_left
  · exact absurd c4 (by decide)
  refine Gl.aloadN Y1 rfl rfl dT_16 rfl ?_
  refine Gl.getF Y1 (host := "") (Or.inl (tw_25 hw)) Via.refl F1 dT_17 rfl (fun T17 Y17 => ?_)
  refine Gl.iloadN Y17 rfl dT_20 rfl ?_
  refine Gl.callS Y17 (tw_93 hw) (tw_94 hw) (tw_44 hw) (tw_95 hw) (by decide) (rm106 l Z a0 hw fm b kb u0 u1 h0 n0 Y17.sz O SA SH SL SF (hfm) Vb (r_u0) (r_u1)) (argsL := [(.ref b), (.int 1)]) (rest := []) rfl rfl (lenOf pd_5 rfl) rfl (by decide) (nle rfl) (by decide) (by decide) dT_21 rfl (fun v21 T21 h21 Y21 q21 => ?_)
  obtain ⟨rfl, rfl⟩ := q21
  show Gl p e below _ (T21.setTop (mkF m 24 _ [(.int u1)]))
  exact Gl.retC Y21 (by decide) (by decide) (x' := u1) (own_narCr r_u1.1 r_u1.2) dT_24 ⟨rfl, rfl⟩
def R142 : Room := { frames := 5, cells := 0, slots := 0, locals := 66 }
def Q142 (Z : State) (a b : Addr) (kb : ClassId) (cs u0 u1 : Int32) (fm : Value) (h0 : Heap) (v : Option Value) (h : Heap) : Prop := v = some (.int 0) ∧ h0 = h
theorem ef142 (a : Addr) (m : MethodId) : entryFrame m #[(.ref a)] 2 = mkF m 0 #[.val (.ref a), .unset] [] := by first | (simp [entryFrame, mkF, argsToLocals, Value.category]; done) | rfl
theorem rm142 (hw : HW a0 Z) (a b : Addr) (kb : ClassId) (cs u0 u1 : Int32) (fm : Value) (h0 : Heap) (n0 : Nat) (Z0 : n0 ≤ h0.size) (O : Old Z n0 h0) (S : uC Z cs) (hcs : ¬ cs = 0) (E : Exa Z h0 a "java/lang/String") (F1 : Fld Z h0 a "java/lang/String" "value" "[B" (.ref b)) (F2 : Fld Z h0 a "java/lang/String" "coder" "B" (.int 1)) (Vb : Arv Z h0 b kb .byte (4 : Int32) [(.int (uL u0)), (.int (uH u0)), (.int (uL u1)), (.int (uH u1))] (.int 0)) (SA : uA Z) (SH : uS Z) (SL : uT Z) (SF : uF Z fm) (hfm : fm.category = 1) (r_u0 : C16 u0) (r_u1 : C16 u1) (m0 : 255 < u0) : OMet l Z [] (⟨"com/example/ref_search/refsearch/matcher/Probes", "offsetFromU0100", "(Ljava/lang/String;)I"⟩ : MethodName) prog_13_method_8_code 2 (some .int) R142 #[(.ref a)] h0 n0 (Q142 Z a b kb cs u0 u1 fm h0) := by
  refine OMet.of (own := "com/example/ref_search/refsearch/matcher/Probes") rfl (plainFor_of_name pn_4) (ef142 a) Z0 ?_
  intro p e s m below meth c T0 Y0 hnm
  refine Gl.iconst Y0 (v := (0 : Int32)) (by decide) dU_0 rfl ?_
  refine Gl.istoreN Y0 (L' := #[.val (.ref a), .val (.int 0)]) rfl dU_1 rfl ?_
  refine Gl.iloadN Y0 rfl dU_2 rfl ?_
  refine Gl.aloadN Y0 rfl rfl dU_3 rfl ?_
  refine Gl.callV Y0 (tw_31 hw) (tw_32 hw) (tw_34 hw) (tw_34 hw) (tw_33 hw) (tw_8 hw) (tw_35 hw) (by decide) E (rm139 l Z a0 hw a b kb cs u0 u1 h0 n0 Y0.sz O S (hcs) E F1 F2 Vb) (a := a) (argsL := []) (rest := [(.int 0)]) rfl rfl (lenOf pd_14 rfl) rfl (by decide) (nle rfl) (by decide) (by decide) dU_4 rfl (fun v4 T4 h4 Y4 q4 => ?_)
  obtain ⟨rfl, rfl⟩ := q4
  show Gl p e below _ (T4.setTop (mkF m 7 _ [(.int 2), (.int 0)]))
  refine Gl.icmpge Y4 dU_7 (by decide) rfl rfl (fun c7 => ?_) (fun c7 => ?_)
  · exact absurd c7 (by decide)
  refine Gl.aloadN Y4 rfl rfl dU_10 rfl ?_
  refine Gl.iloadN Y4 rfl dU_11 rfl ?_
  refine Gl.callV Y4 (tw_52 hw) (tw_53 hw) (tw_55 hw) (tw_55 hw) (tw_54 hw) (tw_8 hw) (tw_56 hw) (by decide) E (rm140 l Z a0 hw a b kb cs u0 u1 fm h0 n0 Y4.sz O S (hcs) E F1 F2 Vb SA SH SL SF (hfm) (r_u0) (r_u1)) (a := a) (argsL := [(.int 0)]) (rest := []) rfl rfl (lenOf pd_15 rfl) rfl (by decide) (nle rfl) (by decide) (by decide) dU_12 rfl (fun v12 T12 h12 Y12 q12 => ?_)
  obtain ⟨rfl, rfl⟩ := q12
  show Gl p e below _ (T12.setTop (mkF m 15 _ [(.int u0)]))
  refine Gl.sipush Y12 (v := (255 : Int32)) (by decide) dU_15 rfl ?_
  refine Gl.icmpgt Y12 dU_18 (by decide) rfl rfl (fun c18 => ?_) (fun c18 => ?_)
  rotate_left
  · exact absurd m0 c18
  refine Gl.iloadN Y12 rfl dU_27 rfl ?_
  refine Gl.aloadN Y12 rfl rfl dU_28 rfl ?_
  refine Gl.callV Y12 (tw_31 hw) (tw_32 hw) (tw_34 hw) (tw_34 hw) (tw_33 hw) (tw_8 hw) (tw_35 hw) (by decide) E (rm139 l Z a0 hw a b kb cs u0 u1 h0 n0 Y12.sz O S (hcs) E F1 F2 Vb) (a := a) (argsL := []) (rest := [(.int 0)]) rfl rfl (lenOf pd_14 rfl) rfl (by decide) (nle rfl) (by decide) (by decide) dU_29 rfl (fun v29 T29 h29 Y29 q29 => ?_)
  obtain ⟨rfl, rfl⟩ := q29
  show Gl p e below _ (T29.setTop (mkF m 32 _ [(.int 2), (.int 0)]))
  refine Gl.icmpge Y29 dU_32 (by decide) rfl rfl (fun c32 => ?_) (fun c32 => ?_)
  · exact absurd c32 (by decide)
  refine Gl.iloadN Y29 rfl dU_35 rfl ?_
  refine Gl.goto Y29 dU_36 (by decide) rfl ?_
  exact Gl.retI Y29 (by decide) (by decide)  dU_40 ⟨rfl, rfl⟩
def R143 : Room := { frames := 5, cells := 0, slots := 0, locals := 66 }
def Q143 (Z : State) (a b : Addr) (kb : ClassId) (cs u0 u1 : Int32) (fm : Value) (h0 : Heap) (v : Option Value) (h : Heap) : Prop := v = some (.int 1) ∧ h0 = h
theorem ef143 (a : Addr) (m : MethodId) : entryFrame m #[(.ref a)] 2 = mkF m 0 #[.val (.ref a), .unset] [] := by first | (simp [entryFrame, mkF, argsToLocals, Value.category]; done) | rfl
theorem rm143 (hw : HW a0 Z) (a b : Addr) (kb : ClassId) (cs u0 u1 : Int32) (fm : Value) (h0 : Heap) (n0 : Nat) (Z0 : n0 ≤ h0.size) (O : Old Z n0 h0) (S : uC Z cs) (hcs : ¬ cs = 0) (E : Exa Z h0 a "java/lang/String") (F1 : Fld Z h0 a "java/lang/String" "value" "[B" (.ref b)) (F2 : Fld Z h0 a "java/lang/String" "coder" "B" (.int 1)) (Vb : Arv Z h0 b kb .byte (4 : Int32) [(.int (uL u0)), (.int (uH u0)), (.int (uL u1)), (.int (uH u1))] (.int 0)) (SA : uA Z) (SH : uS Z) (SL : uT Z) (SF : uF Z fm) (hfm : fm.category = 1) (r_u0 : C16 u0) (r_u1 : C16 u1) (l0 : ¬ 255 < u0) (m1 : 255 < u1) : OMet l Z [] (⟨"com/example/ref_search/refsearch/matcher/Probes", "offsetFromU0100", "(Ljava/lang/String;)I"⟩ : MethodName) prog_13_method_8_code 2 (some .int) R143 #[(.ref a)] h0 n0 (Q143 Z a b kb cs u0 u1 fm h0) := by
  refine OMet.of (own := "com/example/ref_search/refsearch/matcher/Probes") rfl (plainFor_of_name pn_4) (ef143 a) Z0 ?_
  intro p e s m below meth c T0 Y0 hnm
  refine Gl.iconst Y0 (v := (0 : Int32)) (by decide) dU_0 rfl ?_
  refine Gl.istoreN Y0 (L' := #[.val (.ref a), .val (.int 0)]) rfl dU_1 rfl ?_
  refine Gl.iloadN Y0 rfl dU_2 rfl ?_
  refine Gl.aloadN Y0 rfl rfl dU_3 rfl ?_
  refine Gl.callV Y0 (tw_31 hw) (tw_32 hw) (tw_34 hw) (tw_34 hw) (tw_33 hw) (tw_8 hw) (tw_35 hw) (by decide) E (rm139 l Z a0 hw a b kb cs u0 u1 h0 n0 Y0.sz O S (hcs) E F1 F2 Vb) (a := a) (argsL := []) (rest := [(.int 0)]) rfl rfl (lenOf pd_14 rfl) rfl (by decide) (nle rfl) (by decide) (by decide) dU_4 rfl (fun v4 T4 h4 Y4 q4 => ?_)
  obtain ⟨rfl, rfl⟩ := q4
  show Gl p e below _ (T4.setTop (mkF m 7 _ [(.int 2), (.int 0)]))
  refine Gl.icmpge Y4 dU_7 (by decide) rfl rfl (fun c7 => ?_) (fun c7 => ?_)
  · exact absurd c7 (by decide)
  refine Gl.aloadN Y4 rfl rfl dU_10 rfl ?_
  refine Gl.iloadN Y4 rfl dU_11 rfl ?_
  refine Gl.callV Y4 (tw_52 hw) (tw_53 hw) (tw_55 hw) (tw_55 hw) (tw_54 hw) (tw_8 hw) (tw_56 hw) (by decide) E (rm140 l Z a0 hw a b kb cs u0 u1 fm h0 n0 Y4.sz O S (hcs) E F1 F2 Vb SA SH SL SF (hfm) (r_u0) (r_u1)) (a := a) (argsL := [(.int 0)]) (rest := []) rfl rfl (lenOf pd_15 rfl) rfl (by decide) (nle rfl) (by decide) (by decide) dU_12 rfl (fun v12 T12 h12 Y12 q12 => ?_)
  obtain ⟨rfl, rfl⟩ := q12
  show Gl p e below _ (T12.setTop (mkF m 15 _ [(.int u0)]))
  refine Gl.sipush Y12 (v := (255 : Int32)) (by decide) dU_15 rfl ?_
  refine Gl.icmpgt Y12 dU_18 (by decide) rfl rfl (fun c18 => ?_) (fun c18 => ?_)
  · exact absurd c18 l0
  refine Gl.iinc Y12 rfl (r := (1 : Int32)) (by decide) (L' := #[.val (.ref a), .val (.int 1)]) rfl dU_21 rfl ?_
  refine Gl.goto Y12 dU_24 (by decide) rfl ?_
  refine Gl.iloadN Y12 rfl dU_2 rfl ?_
  refine Gl.aloadN Y12 rfl rfl dU_3 rfl ?_
  refine Gl.callV Y12 (tw_31 hw) (tw_32 hw) (tw_34 hw) (tw_34 hw) (tw_33 hw) (tw_8 hw) (tw_35 hw) (by decide) E (rm139 l Z a0 hw a b kb cs u0 u1 h0 n0 Y12.sz O S (hcs) E F1 F2 Vb) (a := a) (argsL := []) (rest := [(.int 1)]) rfl rfl (lenOf pd_14 rfl) rfl (by decide) (nle rfl) (by decide) (by decide) dU_4 rfl (fun v4_2 T4_2 h4_2 Y4_2 q4_2 => ?_)
  obtain ⟨rfl, rfl⟩ := q4_2
  show Gl p e below _ (T4_2.setTop (mkF m 7 _ [(.int 2), (.int 1)]))
  refine Gl.icmpge Y4_2 dU_7 (by decide) rfl rfl (fun c7_2 => ?_) (fun c7_2 => ?_)
  · exact absurd c7_2 (by decide)
  refine Gl.aloadN Y4_2 rfl rfl dU_10 rfl ?_
  refine Gl.iloadN Y4_2 rfl dU_11 rfl ?_
  refine Gl.callV Y4_2 (tw_52 hw) (tw_53 hw) (tw_55 hw) (tw_55 hw) (tw_54 hw) (tw_8 hw) (tw_56 hw) (by decide) E (rm141 l Z a0 hw a b kb cs u0 u1 fm h0 n0 Y4_2.sz O S (hcs) E F1 F2 Vb SA SH SL SF (hfm) (r_u0) (r_u1)) (a := a) (argsL := [(.int 1)]) (rest := []) rfl rfl (lenOf pd_15 rfl) rfl (by decide) (nle rfl) (by decide) (by decide) dU_12 rfl (fun v12_2 T12_2 h12_2 Y12_2 q12_2 => ?_)
  obtain ⟨rfl, rfl⟩ := q12_2
  show Gl p e below _ (T12_2.setTop (mkF m 15 _ [(.int u1)]))
  refine Gl.sipush Y12_2 (v := (255 : Int32)) (by decide) dU_15 rfl ?_
  refine Gl.icmpgt Y12_2 dU_18 (by decide) rfl rfl (fun c18_2 => ?_) (fun c18_2 => ?_)
  rotate_left
  · exact absurd m1 c18_2
  refine Gl.iloadN Y12_2 rfl dU_27 rfl ?_
  refine Gl.aloadN Y12_2 rfl rfl dU_28 rfl ?_
  refine Gl.callV Y12_2 (tw_31 hw) (tw_32 hw) (tw_34 hw) (tw_34 hw) (tw_33 hw) (tw_8 hw) (tw_35 hw) (by decide) E (rm139 l Z a0 hw a b kb cs u0 u1 h0 n0 Y12_2.sz O S (hcs) E F1 F2 Vb) (a := a) (argsL := []) (rest := [(.int 1)]) rfl rfl (lenOf pd_14 rfl) rfl (by decide) (nle rfl) (by decide) (by decide) dU_29 rfl (fun v29 T29 h29 Y29 q29 => ?_)
  obtain ⟨rfl, rfl⟩ := q29
  show Gl p e below _ (T29.setTop (mkF m 32 _ [(.int 2), (.int 1)]))
  refine Gl.icmpge Y29 dU_32 (by decide) rfl rfl (fun c32 => ?_) (fun c32 => ?_)
  · exact absurd c32 (by decide)
  refine Gl.iloadN Y29 rfl dU_35 rfl ?_
  refine Gl.goto Y29 dU_36 (by decide) rfl ?_
  exact Gl.retI Y29 (by decide) (by decide)  dU_40 ⟨rfl, rfl⟩
def R144 : Room := { frames := 4, cells := 0, slots := 0, locals := 53 }
def Q144 (Z : State) (a b : Addr) (kb : ClassId) (cs u0 u1 : Int32) (fm : Value) (h0 : Heap) (v : Option Value) (h : Heap) : Prop := v = some (.int (-1)) ∧ h0 = h
theorem ef144 (a : Addr) (m : MethodId) : entryFrame m #[(.ref a)] 2 = mkF m 0 #[.val (.ref a), .unset] [] := by first | (simp [entryFrame, mkF, argsToLocals, Value.category]; done) | rfl
theorem rm144 (hw : HW a0 Z) (a b : Addr) (kb : ClassId) (cs u0 u1 : Int32) (fm : Value) (h0 : Heap) (n0 : Nat) (Z0 : n0 ≤ h0.size) (O : Old Z n0 h0) (S : uC Z cs) (hcs : ¬ cs = 0) (E : Exa Z h0 a "java/lang/String") (F1 : Fld Z h0 a "java/lang/String" "value" "[B" (.ref b)) (F2 : Fld Z h0 a "java/lang/String" "coder" "B" (.int 0)) (Vb : Arv Z h0 b kb .byte (2 : Int32) [(.int (bL u0)), (.int (bL u1))] (.int 0)) (SF : uF Z fm) (hfm : fm.category = 1) (r_u0 : C16 u0) (r_u1 : C16 u1) (l0 : ¬ 255 < u0) (l1 : ¬ 255 < u1) : OMet l Z [] (⟨"com/example/ref_search/refsearch/matcher/Probes", "offsetFromU0100", "(Ljava/lang/String;)I"⟩ : MethodName) prog_13_method_8_code 2 (some .int) R144 #[(.ref a)] h0 n0 (Q144 Z a b kb cs u0 u1 fm h0) := by
  refine OMet.of (own := "com/example/ref_search/refsearch/matcher/Probes") rfl (plainFor_of_name pn_4) (ef144 a) Z0 ?_
  intro p e s m below meth c T0 Y0 hnm
  refine Gl.iconst Y0 (v := (0 : Int32)) (by decide) dU_0 rfl ?_
  refine Gl.istoreN Y0 (L' := #[.val (.ref a), .val (.int 0)]) rfl dU_1 rfl ?_
  refine Gl.iloadN Y0 rfl dU_2 rfl ?_
  refine Gl.aloadN Y0 rfl rfl dU_3 rfl ?_
  refine Gl.callV Y0 (tw_31 hw) (tw_32 hw) (tw_34 hw) (tw_34 hw) (tw_33 hw) (tw_8 hw) (tw_35 hw) (by decide) E (rm136 l Z a0 hw a b kb cs u0 u1 h0 n0 Y0.sz O S (hcs) E F1 F2 Vb) (a := a) (argsL := []) (rest := [(.int 0)]) rfl rfl (lenOf pd_14 rfl) rfl (by decide) (nle rfl) (by decide) (by decide) dU_4 rfl (fun v4 T4 h4 Y4 q4 => ?_)
  obtain ⟨rfl, rfl⟩ := q4
  show Gl p e below _ (T4.setTop (mkF m 7 _ [(.int 2), (.int 0)]))
  refine Gl.icmpge Y4 dU_7 (by decide) rfl rfl (fun c7 => ?_) (fun c7 => ?_)
  · exact absurd c7 (by decide)
  refine Gl.aloadN Y4 rfl rfl dU_10 rfl ?_
  refine Gl.iloadN Y4 rfl dU_11 rfl ?_
  refine Gl.callV Y4 (tw_52 hw) (tw_53 hw) (tw_55 hw) (tw_55 hw) (tw_54 hw) (tw_8 hw) (tw_56 hw) (by decide) E (rm137 l Z a0 hw a b kb cs u0 u1 fm h0 n0 Y4.sz O S (hcs) E F1 F2 Vb SF (hfm) (r_u0) (r_u1) (by first | assumption | decide | omega | (simp; done))) (a := a) (argsL := [(.int 0)]) (rest := []) rfl rfl (lenOf pd_15 rfl) rfl (by decide) (nle rfl) (by decide) (by decide) dU_12 rfl (fun v12 T12 h12 Y12 q12 => ?_)
  obtain ⟨rfl, rfl⟩ := q12
  show Gl p e below _ (T12.setTop (mkF m 15 _ [(.int u0)]))
  refine Gl.sipush Y12 (v := (255 : Int32)) (by decide) dU_15 rfl ?_
  refine Gl.icmpgt Y12 dU_18 (by decide) rfl rfl (fun c18 => ?_) (fun c18 => ?_)
  · exact absurd c18 l0
  refine Gl.iinc Y12 rfl (r := (1 : Int32)) (by decide) (L' := #[.val (.ref a), .val (.int 1)]) rfl dU_21 rfl ?_
  refine Gl.goto Y12 dU_24 (by decide) rfl ?_
  refine Gl.iloadN Y12 rfl dU_2 rfl ?_
  refine Gl.aloadN Y12 rfl rfl dU_3 rfl ?_
  refine Gl.callV Y12 (tw_31 hw) (tw_32 hw) (tw_34 hw) (tw_34 hw) (tw_33 hw) (tw_8 hw) (tw_35 hw) (by decide) E (rm136 l Z a0 hw a b kb cs u0 u1 h0 n0 Y12.sz O S (hcs) E F1 F2 Vb) (a := a) (argsL := []) (rest := [(.int 1)]) rfl rfl (lenOf pd_14 rfl) rfl (by decide) (nle rfl) (by decide) (by decide) dU_4 rfl (fun v4_2 T4_2 h4_2 Y4_2 q4_2 => ?_)
  obtain ⟨rfl, rfl⟩ := q4_2
  show Gl p e below _ (T4_2.setTop (mkF m 7 _ [(.int 2), (.int 1)]))
  refine Gl.icmpge Y4_2 dU_7 (by decide) rfl rfl (fun c7_2 => ?_) (fun c7_2 => ?_)
  · exact absurd c7_2 (by decide)
  refine Gl.aloadN Y4_2 rfl rfl dU_10 rfl ?_
  refine Gl.iloadN Y4_2 rfl dU_11 rfl ?_
  refine Gl.callV Y4_2 (tw_52 hw) (tw_53 hw) (tw_55 hw) (tw_55 hw) (tw_54 hw) (tw_8 hw) (tw_56 hw) (by decide) E (rm138 l Z a0 hw a b kb cs u0 u1 fm h0 n0 Y4_2.sz O S (hcs) E F1 F2 Vb SF (hfm) (r_u0) (r_u1) (by first | assumption | decide | omega | (simp; done))) (a := a) (argsL := [(.int 1)]) (rest := []) rfl rfl (lenOf pd_15 rfl) rfl (by decide) (nle rfl) (by decide) (by decide) dU_12 rfl (fun v12_2 T12_2 h12_2 Y12_2 q12_2 => ?_)
  obtain ⟨rfl, rfl⟩ := q12_2
  show Gl p e below _ (T12_2.setTop (mkF m 15 _ [(.int u1)]))
  refine Gl.sipush Y12_2 (v := (255 : Int32)) (by decide) dU_15 rfl ?_
  refine Gl.icmpgt Y12_2 dU_18 (by decide) rfl rfl (fun c18_2 => ?_) (fun c18_2 => ?_)
  · exact absurd c18_2 l1
  refine Gl.iinc Y12_2 rfl (r := (2 : Int32)) (by decide) (L' := #[.val (.ref a), .val (.int 2)]) rfl dU_21 rfl ?_
  refine Gl.goto Y12_2 dU_24 (by decide) rfl ?_
  refine Gl.iloadN Y12_2 rfl dU_2 rfl ?_
  refine Gl.aloadN Y12_2 rfl rfl dU_3 rfl ?_
  refine Gl.callV Y12_2 (tw_31 hw) (tw_32 hw) (tw_34 hw) (tw_34 hw) (tw_33 hw) (tw_8 hw) (tw_35 hw) (by decide) E (rm136 l Z a0 hw a b kb cs u0 u1 h0 n0 Y12_2.sz O S (hcs) E F1 F2 Vb) (a := a) (argsL := []) (rest := [(.int 2)]) rfl rfl (lenOf pd_14 rfl) rfl (by decide) (nle rfl) (by decide) (by decide) dU_4 rfl (fun v4_3 T4_3 h4_3 Y4_3 q4_3 => ?_)
  obtain ⟨rfl, rfl⟩ := q4_3
  show Gl p e below _ (T4_3.setTop (mkF m 7 _ [(.int 2), (.int 2)]))
  refine Gl.icmpge Y4_3 dU_7 (by decide) rfl rfl (fun c7_3 => ?_) (fun c7_3 => ?_)
  rotate_left
  · exact absurd c7_3 (by decide)
  refine Gl.iloadN Y4_3 rfl dU_27 rfl ?_
  refine Gl.aloadN Y4_3 rfl rfl dU_28 rfl ?_
  refine Gl.callV Y4_3 (tw_31 hw) (tw_32 hw) (tw_34 hw) (tw_34 hw) (tw_33 hw) (tw_8 hw) (tw_35 hw) (by decide) E (rm136 l Z a0 hw a b kb cs u0 u1 h0 n0 Y4_3.sz O S (hcs) E F1 F2 Vb) (a := a) (argsL := []) (rest := [(.int 2)]) rfl rfl (lenOf pd_14 rfl) rfl (by decide) (nle rfl) (by decide) (by decide) dU_29 rfl (fun v29 T29 h29 Y29 q29 => ?_)
  obtain ⟨rfl, rfl⟩ := q29
  show Gl p e below _ (T29.setTop (mkF m 32 _ [(.int 2), (.int 2)]))
  refine Gl.icmpge Y29 dU_32 (by decide) rfl rfl (fun c32 => ?_) (fun c32 => ?_)
  rotate_left
  · exact absurd c32 (by decide)
  refine Gl.iconst Y29 (v := (-1 : Int32)) (by decide) dU_39 rfl ?_
  exact Gl.retI Y29 (by decide) (by decide)  dU_40 ⟨rfl, rfl⟩
def R145 : Room := { frames := 1, cells := 0, slots := 0, locals := 13 }
def Q145 (Z : State) (a b : Addr) (kb : ClassId) (cs u0 u1 u2 : Int32) (h0 : Heap) (v : Option Value) (h : Heap) : Prop := v = some (.int 3) ∧ h0 = h
theorem ef145 (a : Addr) (m : MethodId) : entryFrame m #[(.ref a)] 1 = mkF m 0 #[.val (.ref a)] [] := by first | (simp [entryFrame, mkF, argsToLocals, Value.category]; done) | rfl
theorem rm145 (hw : HW a0 Z) (a b : Addr) (kb : ClassId) (cs u0 u1 u2 : Int32) (h0 : Heap) (n0 : Nat) (Z0 : n0 ≤ h0.size) (O : Old Z n0 h0) (S : uC Z cs) (hcs : ¬ cs = 0) (E : Exa Z h0 a "java/lang/String") (F1 : Fld Z h0 a "java/lang/String" "value" "[B" (.ref b)) (F2 : Fld Z h0 a "java/lang/String" "coder" "B" (.int 0)) (Vb : Arv Z h0 b kb .byte (3 : Int32) [(.int (bL u0)), (.int (bL u1)), (.int (bL u2))] (.int 0)) : OMet l Z [] (⟨"java/lang/String", "length", "()I"⟩ : MethodName) jdk_42_method_54_code 1 (some .int) R145 #[(.ref a)] h0 n0 (Q145 Z a b kb cs u0 u1 u2 h0) := by
  refine OMet.of (own := "java/lang/String") rfl (plainFor_of_name pn_1) (ef145 a) Z0 ?_
  intro p e s m below meth c T0 Y0 hnm
  refine Gl.aloadN Y0 rfl rfl dS_0 rfl ?_
  refine Gl.getF Y0 (host := "") (Or.inl (tw_25 hw)) Via.refl F1 dS_1 rfl (fun T1 Y1 => ?_)
  refine Gl.arraylength Y1 Vb dS_4 rfl ?_
  refine Gl.aloadN Y1 rfl rfl dS_5 rfl ?_
  refine Gl.callV Y1 (tw_36 hw) (tw_37 hw) (tw_39 hw) (tw_39 hw) (tw_38 hw) (tw_8 hw) (tw_40 hw) (by decide) E (rm126 l Z a0 hw a cs h0 n0 Y1.sz O S (hcs) F2) (a := a) (argsL := []) (rest := [(.int 3)]) rfl rfl (lenOf pd_12 rfl) rfl (by decide) (nle rfl) (by decide) (by decide) dS_6 rfl (fun v6 T6 h6 Y6 q6 => ?_)
  obtain ⟨rfl, rfl⟩ := q6
  show Gl p e below _ (T6.setTop (mkF m 9 _ [(.int 0), (.int 3)]))
  refine Gl.ishr Y6 (r := (3 : Int32)) (by decide) dS_9 rfl ?_
  exact Gl.retI Y6 (by decide) (by decide)  dS_10 ⟨rfl, rfl⟩
def R146 : Room := { frames := 3, cells := 0, slots := 0, locals := 40 }
def Q146 (Z : State) (a b : Addr) (kb : ClassId) (cs u0 u1 u2 : Int32) (fm : Value) (h0 : Heap) (v : Option Value) (h : Heap) : Prop := v = some (.int u0) ∧ h0 = h
theorem ef146 (a : Addr) (m : MethodId) : entryFrame m #[(.ref a), (.int 0)] 2 = mkF m 0 #[.val (.ref a), .val (.int 0)] [] := by first | (simp [entryFrame, mkF, argsToLocals, Value.category]; done) | rfl
theorem rm146 (hw : HW a0 Z) (a b : Addr) (kb : ClassId) (cs u0 u1 u2 : Int32) (fm : Value) (h0 : Heap) (n0 : Nat) (Z0 : n0 ≤ h0.size) (O : Old Z n0 h0) (S : uC Z cs) (hcs : ¬ cs = 0) (E : Exa Z h0 a "java/lang/String") (F1 : Fld Z h0 a "java/lang/String" "value" "[B" (.ref b)) (F2 : Fld Z h0 a "java/lang/String" "coder" "B" (.int 0)) (Vb : Arv Z h0 b kb .byte (3 : Int32) [(.int (bL u0)), (.int (bL u1)), (.int (bL u2))] (.int 0)) (SF : uF Z fm) (hfm : fm.category = 1) (r_u0 : C16 u0) (r_u1 : C16 u1) (r_u2 : C16 u2) (li : ¬ 255 < u0) : OMet l Z [] (⟨"java/lang/String", "charAt", "(I)C"⟩ : MethodName) jdk_42_method_56_code 2 (some .char) R146 #[(.ref a), (.int 0)] h0 n0 (Q146 Z a b kb cs u0 u1 u2 fm h0) := by
  refine OMet.of (own := "java/lang/String") rfl (plainFor_of_name pn_1) (ef146 a) Z0 ?_
  intro p e s m below meth c T0 Y0 hnm
  refine Gl.aloadN Y0 rfl rfl dT_0 rfl ?_
  refine Gl.callV Y0 (tw_57 hw) (tw_58 hw) (tw_60 hw) (tw_60 hw) (tw_59 hw) (tw_8 hw) (tw_61 hw) (by decide) E (rm127 l Z a0 hw a cs h0 n0 Y0.sz O S (hcs) F2) (a := a) (argsL := []) (rest := []) rfl rfl (lenOf pd_13 rfl) rfl (by decide) (nle rfl) (by decide) (by decide) dT_1 rfl (fun v1 T1 h1 Y1 q1 => ?_)
  obtain ⟨rfl, rfl⟩ := q1
  show Gl p e below _ (T1.setTop (mkF m 4 _ [(.int 1)]))
  refine Gl.ifeq Y1 dT_4 (by decide) rfl rfl (fun c4 => ?_) (fun c4 => ?_)
  · exact absurd c4 (by decide)
  refine Gl.aloadN Y1 rfl rfl dT_7 rfl ?_
  refine Gl.getF Y1 (host := "") (Or.inl (tw_25 hw)) Via.refl F1 dT_8 rfl (fun T8 Y8 => ?_)
  refine Gl.iloadN Y8 rfl dT_11 rfl ?_
  refine Gl.callS Y8 (tw_62 hw) (tw_63 hw) (tw_64 hw) (tw_65 hw) (by decide) (rm111 l Z a0 hw fm b kb u0 u1 u2 h0 n0 Y8.sz O SF (hfm) Vb (r_u0) (r_u1) (r_u2) (li)) (argsL := [(.ref b), (.int 0)]) (rest := []) rfl rfl (lenOf pd_5 rfl) rfl (by decide) (nle rfl) (by decide) (by decide) dT_12 rfl (fun v12 T12 h12 Y12 q12 => ?_)
  obtain ⟨rfl, rfl⟩ := q12
  show Gl p e below _ (T12.setTop (mkF m 15 _ [(.int u0)]))
  exact Gl.retC Y12 (by decide) (by decide) (x' := u0) (own_narCr r_u0.1 r_u0.2) dT_15 ⟨rfl, rfl⟩
def R147 : Room := { frames := 3, cells := 0, slots := 0, locals := 40 }
def Q147 (Z : State) (a b : Addr) (kb : ClassId) (cs u0 u1 u2 : Int32) (fm : Value) (h0 : Heap) (v : Option Value) (h : Heap) : Prop := v = some (.int u1) ∧ h0 = h
theorem ef147 (a : Addr) (m : MethodId) : entryFrame m #[(.ref a), (.int 1)] 2 = mkF m 0 #[.val (.ref a), .val (.int 1)] [] := by first | (simp [entryFrame, mkF, argsToLocals, Value.category]; done) | rfl
theorem rm147 (hw : HW a0 Z) (a b : Addr) (kb : ClassId) (cs u0 u1 u2 : Int32) (fm : Value) (h0 : Heap) (n0 : Nat) (Z0 : n0 ≤ h0.size) (O : Old Z n0 h0) (S : uC Z cs) (hcs : ¬ cs = 0) (E : Exa Z h0 a "java/lang/String") (F1 : Fld Z h0 a "java/lang/String" "value" "[B" (.ref b)) (F2 : Fld Z h0 a "java/lang/String" "coder" "B" (.int 0)) (Vb : Arv Z h0 b kb .byte (3 : Int32) [(.int (bL u0)), (.int (bL u1)), (.int (bL u2))] (.int 0)) (SF : uF Z fm) (hfm : fm.category = 1) (r_u0 : C16 u0) (r_u1 : C16 u1) (r_u2 : C16 u2) (li : ¬ 255 < u1) : OMet l Z [] (⟨"java/lang/String", "charAt", "(I)C"⟩ : MethodName) jdk_42_method_56_code 2 (some .char) R147 #[(.ref a), (.int 1)] h0 n0 (Q147 Z a b kb cs u0 u1 u2 fm h0) := by
  refine OMet.of (own := "java/lang/String") rfl (plainFor_of_name pn_1) (ef147 a) Z0 ?_
  intro p e s m below meth c T0 Y0 hnm
  refine Gl.aloadN Y0 rfl rfl dT_0 rfl ?_
  refine Gl.callV Y0 (tw_57 hw) (tw_58 hw) (tw_60 hw) (tw_60 hw) (tw_59 hw) (tw_8 hw) (tw_61 hw) (by decide) E (rm127 l Z a0 hw a cs h0 n0 Y0.sz O S (hcs) F2) (a := a) (argsL := []) (rest := []) rfl rfl (lenOf pd_13 rfl) rfl (by decide) (nle rfl) (by decide) (by decide) dT_1 rfl (fun v1 T1 h1 Y1 q1 => ?_)
  obtain ⟨rfl, rfl⟩ := q1
  show Gl p e below _ (T1.setTop (mkF m 4 _ [(.int 1)]))
  refine Gl.ifeq Y1 dT_4 (by decide) rfl rfl (fun c4 => ?_) (fun c4 => ?_)
  · exact absurd c4 (by decide)
  refine Gl.aloadN Y1 rfl rfl dT_7 rfl ?_
  refine Gl.getF Y1 (host := "") (Or.inl (tw_25 hw)) Via.refl F1 dT_8 rfl (fun T8 Y8 => ?_)
  refine Gl.iloadN Y8 rfl dT_11 rfl ?_
  refine Gl.callS Y8 (tw_62 hw) (tw_63 hw) (tw_64 hw) (tw_65 hw) (by decide) (rm113 l Z a0 hw fm b kb u0 u1 u2 h0 n0 Y8.sz O SF (hfm) Vb (r_u0) (r_u1) (r_u2) (li)) (argsL := [(.ref b), (.int 1)]) (rest := []) rfl rfl (lenOf pd_5 rfl) rfl (by decide) (nle rfl) (by decide) (by decide) dT_12 rfl (fun v12 T12 h12 Y12 q12 => ?_)
  obtain ⟨rfl, rfl⟩ := q12
  show Gl p e below _ (T12.setTop (mkF m 15 _ [(.int u1)]))
  exact Gl.retC Y12 (by decide) (by decide) (x' := u1) (own_narCr r_u1.1 r_u1.2) dT_15 ⟨rfl, rfl⟩
def R148 : Room := { frames := 3, cells := 0, slots := 0, locals := 40 }
def Q148 (Z : State) (a b : Addr) (kb : ClassId) (cs u0 u1 u2 : Int32) (fm : Value) (h0 : Heap) (v : Option Value) (h : Heap) : Prop := v = some (.int u2) ∧ h0 = h
theorem ef148 (a : Addr) (m : MethodId) : entryFrame m #[(.ref a), (.int 2)] 2 = mkF m 0 #[.val (.ref a), .val (.int 2)] [] := by first | (simp [entryFrame, mkF, argsToLocals, Value.category]; done) | rfl
theorem rm148 (hw : HW a0 Z) (a b : Addr) (kb : ClassId) (cs u0 u1 u2 : Int32) (fm : Value) (h0 : Heap) (n0 : Nat) (Z0 : n0 ≤ h0.size) (O : Old Z n0 h0) (S : uC Z cs) (hcs : ¬ cs = 0) (E : Exa Z h0 a "java/lang/String") (F1 : Fld Z h0 a "java/lang/String" "value" "[B" (.ref b)) (F2 : Fld Z h0 a "java/lang/String" "coder" "B" (.int 0)) (Vb : Arv Z h0 b kb .byte (3 : Int32) [(.int (bL u0)), (.int (bL u1)), (.int (bL u2))] (.int 0)) (SF : uF Z fm) (hfm : fm.category = 1) (r_u0 : C16 u0) (r_u1 : C16 u1) (r_u2 : C16 u2) (li : ¬ 255 < u2) : OMet l Z [] (⟨"java/lang/String", "charAt", "(I)C"⟩ : MethodName) jdk_42_method_56_code 2 (some .char) R148 #[(.ref a), (.int 2)] h0 n0 (Q148 Z a b kb cs u0 u1 u2 fm h0) := by
  refine OMet.of (own := "java/lang/String") rfl (plainFor_of_name pn_1) (ef148 a) Z0 ?_
  intro p e s m below meth c T0 Y0 hnm
  refine Gl.aloadN Y0 rfl rfl dT_0 rfl ?_
  refine Gl.callV Y0 (tw_57 hw) (tw_58 hw) (tw_60 hw) (tw_60 hw) (tw_59 hw) (tw_8 hw) (tw_61 hw) (by decide) E (rm127 l Z a0 hw a cs h0 n0 Y0.sz O S (hcs) F2) (a := a) (argsL := []) (rest := []) rfl rfl (lenOf pd_13 rfl) rfl (by decide) (nle rfl) (by decide) (by decide) dT_1 rfl (fun v1 T1 h1 Y1 q1 => ?_)
  obtain ⟨rfl, rfl⟩ := q1
  show Gl p e below _ (T1.setTop (mkF m 4 _ [(.int 1)]))
  refine Gl.ifeq Y1 dT_4 (by decide) rfl rfl (fun c4 => ?_) (fun c4 => ?_)
  · exact absurd c4 (by decide)
  refine Gl.aloadN Y1 rfl rfl dT_7 rfl ?_
  refine Gl.getF Y1 (host := "") (Or.inl (tw_25 hw)) Via.refl F1 dT_8 rfl (fun T8 Y8 => ?_)
  refine Gl.iloadN Y8 rfl dT_11 rfl ?_
  refine Gl.callS Y8 (tw_62 hw) (tw_63 hw) (tw_64 hw) (tw_65 hw) (by decide) (rm115 l Z a0 hw fm b kb u0 u1 u2 h0 n0 Y8.sz O SF (hfm) Vb (r_u0) (r_u1) (r_u2) (li)) (argsL := [(.ref b), (.int 2)]) (rest := []) rfl rfl (lenOf pd_5 rfl) rfl (by decide) (nle rfl) (by decide) (by decide) dT_12 rfl (fun v12 T12 h12 Y12 q12 => ?_)
  obtain ⟨rfl, rfl⟩ := q12
  show Gl p e below _ (T12.setTop (mkF m 15 _ [(.int u2)]))
  exact Gl.retC Y12 (by decide) (by decide) (x' := u2) (own_narCr r_u2.1 r_u2.2) dT_15 ⟨rfl, rfl⟩
def R149 : Room := { frames := 1, cells := 0, slots := 0, locals := 13 }
def Q149 (Z : State) (a b : Addr) (kb : ClassId) (cs u0 u1 u2 : Int32) (h0 : Heap) (v : Option Value) (h : Heap) : Prop := v = some (.int 3) ∧ h0 = h
theorem ef149 (a : Addr) (m : MethodId) : entryFrame m #[(.ref a)] 1 = mkF m 0 #[.val (.ref a)] [] := by first | (simp [entryFrame, mkF, argsToLocals, Value.category]; done) | rfl
theorem rm149 (hw : HW a0 Z) (a b : Addr) (kb : ClassId) (cs u0 u1 u2 : Int32) (h0 : Heap) (n0 : Nat) (Z0 : n0 ≤ h0.size) (O : Old Z n0 h0) (S : uC Z cs) (hcs : ¬ cs = 0) (E : Exa Z h0 a "java/lang/String") (F1 : Fld Z h0 a "java/lang/String" "value" "[B" (.ref b)) (F2 : Fld Z h0 a "java/lang/String" "coder" "B" (.int 1)) (Vb : Arv Z h0 b kb .byte (6 : Int32) [(.int (uL u0)), (.int (uH u0)), (.int (uL u1)), (.int (uH u1)), (.int (uL u2)), (.int (uH u2))] (.int 0)) : OMet l Z [] (⟨"java/lang/String", "length", "()I"⟩ : MethodName) jdk_42_method_54_code 1 (some .int) R149 #[(.ref a)] h0 n0 (Q149 Z a b kb cs u0 u1 u2 h0) := by
  refine OMet.of (own := "java/lang/String") rfl (plainFor_of_name pn_1) (ef149 a) Z0 ?_
  intro p e s m below meth c T0 Y0 hnm
  refine Gl.aloadN Y0 rfl rfl dS_0 rfl ?_
  refine Gl.getF Y0 (host := "") (Or.inl (tw_25 hw)) Via.refl F1 dS_1 rfl (fun T1 Y1 => ?_)
  refine Gl.arraylength Y1 Vb dS_4 rfl ?_
  refine Gl.aloadN Y1 rfl rfl dS_5 rfl ?_
  refine Gl.callV Y1 (tw_36 hw) (tw_37 hw) (tw_39 hw) (tw_39 hw) (tw_38 hw) (tw_8 hw) (tw_40 hw) (by decide) E (rm128 l Z a0 hw a cs h0 n0 Y1.sz O S (hcs) F2) (a := a) (argsL := []) (rest := [(.int 6)]) rfl rfl (lenOf pd_12 rfl) rfl (by decide) (nle rfl) (by decide) (by decide) dS_6 rfl (fun v6 T6 h6 Y6 q6 => ?_)
  obtain ⟨rfl, rfl⟩ := q6
  show Gl p e below _ (T6.setTop (mkF m 9 _ [(.int 1), (.int 6)]))
  refine Gl.ishr Y6 (r := (3 : Int32)) (by decide) dS_9 rfl ?_
  exact Gl.retI Y6 (by decide) (by decide)  dS_10 ⟨rfl, rfl⟩
def R150 : Room := { frames := 4, cells := 0, slots := 0, locals := 53 }
def Q150 (Z : State) (a b : Addr) (kb : ClassId) (cs u0 u1 u2 : Int32) (fm : Value) (h0 : Heap) (v : Option Value) (h : Heap) : Prop := v = some (.int u0) ∧ h0 = h
theorem ef150 (a : Addr) (m : MethodId) : entryFrame m #[(.ref a), (.int 0)] 2 = mkF m 0 #[.val (.ref a), .val (.int 0)] [] := by first | (simp [entryFrame, mkF, argsToLocals, Value.category]; done) | rfl
theorem rm150 (hw : HW a0 Z) (a b : Addr) (kb : ClassId) (cs u0 u1 u2 : Int32) (fm : Value) (h0 : Heap) (n0 : Nat) (Z0 : n0 ≤ h0.size) (O : Old Z n0 h0) (S : uC Z cs) (hcs : ¬ cs = 0) (E : Exa Z h0 a "java/lang/String") (F1 : Fld Z h0 a "java/lang/String" "value" "[B" (.ref b)) (F2 : Fld Z h0 a "java/lang/String" "coder" "B" (.int 1)) (Vb : Arv Z h0 b kb .byte (6 : Int32) [(.int (uL u0)), (.int (uH u0)), (.int (uL u1)), (.int (uH u1)), (.int (uL u2)), (.int (uH u2))] (.int 0)) (SA : uA Z) (SH : uS Z) (SL : uT Z) (SF : uF Z fm) (hfm : fm.category = 1) (r_u0 : C16 u0) (r_u1 : C16 u1) (r_u2 : C16 u2) : OMet l Z [] (⟨"java/lang/String", "charAt", "(I)C"⟩ : MethodName) jdk_42_method_56_code 2 (some .char) R150 #[(.ref a), (.int 0)] h0 n0 (Q150 Z a b kb cs u0 u1 u2 fm h0) := by
  refine OMet.of (own := "java/lang/String") rfl (plainFor_of_name pn_1) (ef150 a) Z0 ?_
  intro p e s m below meth c T0 Y0 hnm
  refine Gl.aloadN Y0 rfl rfl dT_0 rfl ?_
  refine Gl.callV Y0 (tw_57 hw) (tw_58 hw) (tw_60 hw) (tw_60 hw) (tw_59 hw) (tw_8 hw) (tw_61 hw) (by decide) E (rm129 l Z a0 hw a cs h0 n0 Y0.sz O S (hcs) F2) (a := a) (argsL := []) (rest := []) rfl rfl (lenOf pd_13 rfl) rfl (by decide) (nle rfl) (by decide) (by decide) dT_1 rfl (fun v1 T1 h1 Y1 q1 => ?_)
  obtain ⟨rfl, rfl⟩ := q1
  show Gl p e below _ (T1.setTop (mkF m 4 _ [(.int 0)]))
  refine Gl.ifeq Y1 dT_4 (by decide) rfl rfl (fun c4 => ?_) (fun c4 => ?_)
  rotate_left
  · exact absurd c4 (by decide)
  refine Gl.aloadN Y1 rfl rfl dT_16 rfl ?_
  refine Gl.getF Y1 (host := "") (Or.inl (tw_25 hw)) Via.refl F1 dT_17 rfl (fun T17 Y17 => ?_)
  refine Gl.iloadN Y17 rfl dT_20 rfl ?_
  refine Gl.callS Y17 (tw_93 hw) (tw_94 hw) (tw_44 hw) (tw_95 hw) (by decide) (rm110 l Z a0 hw fm b kb u0 u1 u2 h0 n0 Y17.sz O SA SH SL SF (hfm) Vb (r_u0) (r_u1) (r_u2)) (argsL := [(.ref b), (.int 0)]) (rest := []) rfl rfl (lenOf pd_5 rfl) rfl (by decide) (nle rfl) (by decide) (by decide) dT_21 rfl (fun v21 T21 h21 Y21 q21 => ?_)
  obtain ⟨rfl, rfl⟩ := q21
  show Gl p e below _ (T21.setTop (mkF m 24 _ [(.int u0)]))
  exact Gl.retC Y21 (by decide) (by decide) (x' := u0) (own_narCr r_u0.1 r_u0.2) dT_24 ⟨rfl, rfl⟩
def R151 : Room := { frames := 4, cells := 0, slots := 0, locals := 53 }
def Q151 (Z : State) (a b : Addr) (kb : ClassId) (cs u0 u1 u2 : Int32) (fm : Value) (h0 : Heap) (v : Option Value) (h : Heap) : Prop := v = some (.int u1) ∧ h0 = h
theorem ef151 (a : Addr) (m : MethodId) : entryFrame m #[(.ref a), (.int 1)] 2 = mkF m 0 #[.val (.ref a), .val (.int 1)] [] := by first | (simp [entryFrame, mkF, argsToLocals, Value.category]; done) | rfl
theorem rm151 (hw : HW a0 Z) (a b : Addr) (kb : ClassId) (cs u0 u1 u2 : Int32) (fm : Value) (h0 : Heap) (n0 : Nat) (Z0 : n0 ≤ h0.size) (O : Old Z n0 h0) (S : uC Z cs) (hcs : ¬ cs = 0) (E : Exa Z h0 a "java/lang/String") (F1 : Fld Z h0 a "java/lang/String" "value" "[B" (.ref b)) (F2 : Fld Z h0 a "java/lang/String" "coder" "B" (.int 1)) (Vb : Arv Z h0 b kb .byte (6 : Int32) [(.int (uL u0)), (.int (uH u0)), (.int (uL u1)), (.int (uH u1)), (.int (uL u2)), (.int (uH u2))] (.int 0)) (SA : uA Z) (SH : uS Z) (SL : uT Z) (SF : uF Z fm) (hfm : fm.category = 1) (r_u0 : C16 u0) (r_u1 : C16 u1) (r_u2 : C16 u2) : OMet l Z [] (⟨"java/lang/String", "charAt", "(I)C"⟩ : MethodName) jdk_42_method_56_code 2 (some .char) R151 #[(.ref a), (.int 1)] h0 n0 (Q151 Z a b kb cs u0 u1 u2 fm h0) := by
  refine OMet.of (own := "java/lang/String") rfl (plainFor_of_name pn_1) (ef151 a) Z0 ?_
  intro p e s m below meth c T0 Y0 hnm
  refine Gl.aloadN Y0 rfl rfl dT_0 rfl ?_
  refine Gl.callV Y0 (tw_57 hw) (tw_58 hw) (tw_60 hw) (tw_60 hw) (tw_59 hw) (tw_8 hw) (tw_61 hw) (by decide) E (rm129 l Z a0 hw a cs h0 n0 Y0.sz O S (hcs) F2) (a := a) (argsL := []) (rest := []) rfl rfl (lenOf pd_13 rfl) rfl (by decide) (nle rfl) (by decide) (by decide) dT_1 rfl (fun v1 T1 h1 Y1 q1 => ?_)
  obtain ⟨rfl, rfl⟩ := q1
  show Gl p e below _ (T1.setTop (mkF m 4 _ [(.int 0)]))
  refine Gl.ifeq Y1 dT_4 (by decide) rfl rfl (fun c4 => ?_) (fun c4 => ?_)
  rotate_left
  · exact absurd c4 (by decide)
  refine Gl.aloadN Y1 rfl rfl dT_16 rfl ?_
  refine Gl.getF Y1 (host := "") (Or.inl (tw_25 hw)) Via.refl F1 dT_17 rfl (fun T17 Y17 => ?_)
  refine Gl.iloadN Y17 rfl dT_20 rfl ?_
  refine Gl.callS Y17 (tw_93 hw) (tw_94 hw) (tw_44 hw) (tw_95 hw) (by decide) (rm112 l Z a0 hw fm b kb u0 u1 u2 h0 n0 Y17.sz O SA SH SL SF (hfm) Vb (r_u0) (r_u1) (r_u2)) (argsL := [(.ref b), (.int 1)]) (rest := []) rfl rfl (lenOf pd_5 rfl) rfl (by decide) (nle rfl) (by decide) (by decide) dT_21 rfl (fun v21 T21 h21 Y21 q21 => ?_)
  obtain ⟨rfl, rfl⟩ := q21
  show Gl p e below _ (T21.setTop (mkF m 24 _ [(.int u1)]))
  exact Gl.retC Y21 (by decide) (by decide) (x' := u1) (own_narCr r_u1.1 r_u1.2) dT_24 ⟨rfl, rfl⟩
def R152 : Room := { frames := 4, cells := 0, slots := 0, locals := 53 }
def Q152 (Z : State) (a b : Addr) (kb : ClassId) (cs u0 u1 u2 : Int32) (fm : Value) (h0 : Heap) (v : Option Value) (h : Heap) : Prop := v = some (.int u2) ∧ h0 = h
theorem ef152 (a : Addr) (m : MethodId) : entryFrame m #[(.ref a), (.int 2)] 2 = mkF m 0 #[.val (.ref a), .val (.int 2)] [] := by first | (simp [entryFrame, mkF, argsToLocals, Value.category]; done) | rfl
theorem rm152 (hw : HW a0 Z) (a b : Addr) (kb : ClassId) (cs u0 u1 u2 : Int32) (fm : Value) (h0 : Heap) (n0 : Nat) (Z0 : n0 ≤ h0.size) (O : Old Z n0 h0) (S : uC Z cs) (hcs : ¬ cs = 0) (E : Exa Z h0 a "java/lang/String") (F1 : Fld Z h0 a "java/lang/String" "value" "[B" (.ref b)) (F2 : Fld Z h0 a "java/lang/String" "coder" "B" (.int 1)) (Vb : Arv Z h0 b kb .byte (6 : Int32) [(.int (uL u0)), (.int (uH u0)), (.int (uL u1)), (.int (uH u1)), (.int (uL u2)), (.int (uH u2))] (.int 0)) (SA : uA Z) (SH : uS Z) (SL : uT Z) (SF : uF Z fm) (hfm : fm.category = 1) (r_u0 : C16 u0) (r_u1 : C16 u1) (r_u2 : C16 u2) : OMet l Z [] (⟨"java/lang/String", "charAt", "(I)C"⟩ : MethodName) jdk_42_method_56_code 2 (some .char) R152 #[(.ref a), (.int 2)] h0 n0 (Q152 Z a b kb cs u0 u1 u2 fm h0) := by
  refine OMet.of (own := "java/lang/String") rfl (plainFor_of_name pn_1) (ef152 a) Z0 ?_
  intro p e s m below meth c T0 Y0 hnm
  refine Gl.aloadN Y0 rfl rfl dT_0 rfl ?_
  refine Gl.callV Y0 (tw_57 hw) (tw_58 hw) (tw_60 hw) (tw_60 hw) (tw_59 hw) (tw_8 hw) (tw_61 hw) (by decide) E (rm129 l Z a0 hw a cs h0 n0 Y0.sz O S (hcs) F2) (a := a) (argsL := []) (rest := []) rfl rfl (lenOf pd_13 rfl) rfl (by decide) (nle rfl) (by decide) (by decide) dT_1 rfl (fun v1 T1 h1 Y1 q1 => ?_)
  obtain ⟨rfl, rfl⟩ := q1
  show Gl p e below _ (T1.setTop (mkF m 4 _ [(.int 0)]))
  refine Gl.ifeq Y1 dT_4 (by decide) rfl rfl (fun c4 => ?_) (fun c4 => ?_)
  rotate_left
  · exact absurd c4 (by decide)
  refine Gl.aloadN Y1 rfl rfl dT_16 rfl ?_
  refine Gl.getF Y1 (host := "") (Or.inl (tw_25 hw)) Via.refl F1 dT_17 rfl (fun T17 Y17 => ?_)
  refine Gl.iloadN Y17 rfl dT_20 rfl ?_
  refine Gl.callS Y17 (tw_93 hw) (tw_94 hw) (tw_44 hw) (tw_95 hw) (by decide) (rm114 l Z a0 hw fm b kb u0 u1 u2 h0 n0 Y17.sz O SA SH SL SF (hfm) Vb (r_u0) (r_u1) (r_u2)) (argsL := [(.ref b), (.int 2)]) (rest := []) rfl rfl (lenOf pd_5 rfl) rfl (by decide) (nle rfl) (by decide) (by decide) dT_21 rfl (fun v21 T21 h21 Y21 q21 => ?_)
  obtain ⟨rfl, rfl⟩ := q21
  show Gl p e below _ (T21.setTop (mkF m 24 _ [(.int u2)]))
  exact Gl.retC Y21 (by decide) (by decide) (x' := u2) (own_narCr r_u2.1 r_u2.2) dT_24 ⟨rfl, rfl⟩
def R153 : Room := { frames := 5, cells := 0, slots := 0, locals := 66 }
def Q153 (Z : State) (a b : Addr) (kb : ClassId) (cs u0 u1 u2 : Int32) (fm : Value) (h0 : Heap) (v : Option Value) (h : Heap) : Prop := v = some (.int 0) ∧ h0 = h
theorem ef153 (a : Addr) (m : MethodId) : entryFrame m #[(.ref a)] 2 = mkF m 0 #[.val (.ref a), .unset] [] := by first | (simp [entryFrame, mkF, argsToLocals, Value.category]; done) | rfl
theorem rm153 (hw : HW a0 Z) (a b : Addr) (kb : ClassId) (cs u0 u1 u2 : Int32) (fm : Value) (h0 : Heap) (n0 : Nat) (Z0 : n0 ≤ h0.size) (O : Old Z n0 h0) (S : uC Z cs) (hcs : ¬ cs = 0) (E : Exa Z h0 a "java/lang/String") (F1 : Fld Z h0 a "java/lang/String" "value" "[B" (.ref b)) (F2 : Fld Z h0 a "java/lang/String" "coder" "B" (.int 1)) (Vb : Arv Z h0 b kb .byte (6 : Int32) [(.int (uL u0)), (.int (uH u0)), (.int (uL u1)), (.int (uH u1)), (.int (uL u2)), (.int (uH u2))] (.int 0)) (SA : uA Z) (SH : uS Z) (SL : uT Z) (SF : uF Z fm) (hfm : fm.category = 1) (r_u0 : C16 u0) (r_u1 : C16 u1) (r_u2 : C16 u2) (m0 : 255 < u0) : OMet l Z [] (⟨"com/example/ref_search/refsearch/matcher/Probes", "offsetFromU0100", "(Ljava/lang/String;)I"⟩ : MethodName) prog_13_method_8_code 2 (some .int) R153 #[(.ref a)] h0 n0 (Q153 Z a b kb cs u0 u1 u2 fm h0) := by
  refine OMet.of (own := "com/example/ref_search/refsearch/matcher/Probes") rfl (plainFor_of_name pn_4) (ef153 a) Z0 ?_
  intro p e s m below meth c T0 Y0 hnm
  refine Gl.iconst Y0 (v := (0 : Int32)) (by decide) dU_0 rfl ?_
  refine Gl.istoreN Y0 (L' := #[.val (.ref a), .val (.int 0)]) rfl dU_1 rfl ?_
  refine Gl.iloadN Y0 rfl dU_2 rfl ?_
  refine Gl.aloadN Y0 rfl rfl dU_3 rfl ?_
  refine Gl.callV Y0 (tw_31 hw) (tw_32 hw) (tw_34 hw) (tw_34 hw) (tw_33 hw) (tw_8 hw) (tw_35 hw) (by decide) E (rm149 l Z a0 hw a b kb cs u0 u1 u2 h0 n0 Y0.sz O S (hcs) E F1 F2 Vb) (a := a) (argsL := []) (rest := [(.int 0)]) rfl rfl (lenOf pd_14 rfl) rfl (by decide) (nle rfl) (by decide) (by decide) dU_4 rfl (fun v4 T4 h4 Y4 q4 => ?_)
  obtain ⟨rfl, rfl⟩ := q4
  show Gl p e below _ (T4.setTop (mkF m 7 _ [(.int 3), (.int 0)]))
  refine Gl.icmpge Y4 dU_7 (by decide) rfl rfl (fun c7 => ?_) (fun c7 => ?_)
  · exact absurd c7 (by decide)
  refine Gl.aloadN Y4 rfl rfl dU_10 rfl ?_
  refine Gl.iloadN Y4 rfl dU_11 rfl ?_
  refine Gl.callV Y4 (tw_52 hw) (tw_53 hw) (tw_55 hw) (tw_55 hw) (tw_54 hw) (tw_8 hw) (tw_56 hw) (by decide) E (rm150 l Z a0 hw a b kb cs u0 u1 u2 fm h0 n0 Y4.sz O S (hcs) E F1 F2 Vb SA SH SL SF (hfm) (r_u0) (r_u1) (r_u2)) (a := a) (argsL := [(.int 0)]) (rest := []) rfl rfl (lenOf pd_15 rfl) rfl (by decide) (nle rfl) (by decide) (by decide) dU_12 rfl (fun v12 T12 h12 Y12 q12 => ?_)
  obtain ⟨rfl, rfl⟩ := q12
  show Gl p e below _ (T12.setTop (mkF m 15 _ [(.int u0)]))
  refine Gl.sipush Y12 (v := (255 : Int32)) (by decide) dU_15 rfl ?_
  refine Gl.icmpgt Y12 dU_18 (by decide) rfl rfl (fun c18 => ?_) (fun c18 => ?_)
  rotate_left
  · exact absurd m0 c18
  refine Gl.iloadN Y12 rfl dU_27 rfl ?_
  refine Gl.aloadN Y12 rfl rfl dU_28 rfl ?_
  refine Gl.callV Y12 (tw_31 hw) (tw_32 hw) (tw_34 hw) (tw_34 hw) (tw_33 hw) (tw_8 hw) (tw_35 hw) (by decide) E (rm149 l Z a0 hw a b kb cs u0 u1 u2 h0 n0 Y12.sz O S (hcs) E F1 F2 Vb) (a := a) (argsL := []) (rest := [(.int 0)]) rfl rfl (lenOf pd_14 rfl) rfl (by decide) (nle rfl) (by decide) (by decide) dU_29 rfl (fun v29 T29 h29 Y29 q29 => ?_)
  obtain ⟨rfl, rfl⟩ := q29
  show Gl p e below _ (T29.setTop (mkF m 32 _ [(.int 3), (.int 0)]))
  refine Gl.icmpge Y29 dU_32 (by decide) rfl rfl (fun c32 => ?_) (fun c32 => ?_)
  · exact absurd c32 (by decide)
  refine Gl.iloadN Y29 rfl dU_35 rfl ?_
  refine Gl.goto Y29 dU_36 (by decide) rfl ?_
  exact Gl.retI Y29 (by decide) (by decide)  dU_40 ⟨rfl, rfl⟩
def R154 : Room := { frames := 5, cells := 0, slots := 0, locals := 66 }
def Q154 (Z : State) (a b : Addr) (kb : ClassId) (cs u0 u1 u2 : Int32) (fm : Value) (h0 : Heap) (v : Option Value) (h : Heap) : Prop := v = some (.int 1) ∧ h0 = h
theorem ef154 (a : Addr) (m : MethodId) : entryFrame m #[(.ref a)] 2 = mkF m 0 #[.val (.ref a), .unset] [] := by first | (simp [entryFrame, mkF, argsToLocals, Value.category]; done) | rfl
theorem rm154 (hw : HW a0 Z) (a b : Addr) (kb : ClassId) (cs u0 u1 u2 : Int32) (fm : Value) (h0 : Heap) (n0 : Nat) (Z0 : n0 ≤ h0.size) (O : Old Z n0 h0) (S : uC Z cs) (hcs : ¬ cs = 0) (E : Exa Z h0 a "java/lang/String") (F1 : Fld Z h0 a "java/lang/String" "value" "[B" (.ref b)) (F2 : Fld Z h0 a "java/lang/String" "coder" "B" (.int 1)) (Vb : Arv Z h0 b kb .byte (6 : Int32) [(.int (uL u0)), (.int (uH u0)), (.int (uL u1)), (.int (uH u1)), (.int (uL u2)), (.int (uH u2))] (.int 0)) (SA : uA Z) (SH : uS Z) (SL : uT Z) (SF : uF Z fm) (hfm : fm.category = 1) (r_u0 : C16 u0) (r_u1 : C16 u1) (r_u2 : C16 u2) (l0 : ¬ 255 < u0) (m1 : 255 < u1) : OMet l Z [] (⟨"com/example/ref_search/refsearch/matcher/Probes", "offsetFromU0100", "(Ljava/lang/String;)I"⟩ : MethodName) prog_13_method_8_code 2 (some .int) R154 #[(.ref a)] h0 n0 (Q154 Z a b kb cs u0 u1 u2 fm h0) := by
  refine OMet.of (own := "com/example/ref_search/refsearch/matcher/Probes") rfl (plainFor_of_name pn_4) (ef154 a) Z0 ?_
  intro p e s m below meth c T0 Y0 hnm
  refine Gl.iconst Y0 (v := (0 : Int32)) (by decide) dU_0 rfl ?_
  refine Gl.istoreN Y0 (L' := #[.val (.ref a), .val (.int 0)]) rfl dU_1 rfl ?_
  refine Gl.iloadN Y0 rfl dU_2 rfl ?_
  refine Gl.aloadN Y0 rfl rfl dU_3 rfl ?_
  refine Gl.callV Y0 (tw_31 hw) (tw_32 hw) (tw_34 hw) (tw_34 hw) (tw_33 hw) (tw_8 hw) (tw_35 hw) (by decide) E (rm149 l Z a0 hw a b kb cs u0 u1 u2 h0 n0 Y0.sz O S (hcs) E F1 F2 Vb) (a := a) (argsL := []) (rest := [(.int 0)]) rfl rfl (lenOf pd_14 rfl) rfl (by decide) (nle rfl) (by decide) (by decide) dU_4 rfl (fun v4 T4 h4 Y4 q4 => ?_)
  obtain ⟨rfl, rfl⟩ := q4
  show Gl p e below _ (T4.setTop (mkF m 7 _ [(.int 3), (.int 0)]))
  refine Gl.icmpge Y4 dU_7 (by decide) rfl rfl (fun c7 => ?_) (fun c7 => ?_)
  · exact absurd c7 (by decide)
  refine Gl.aloadN Y4 rfl rfl dU_10 rfl ?_
  refine Gl.iloadN Y4 rfl dU_11 rfl ?_
  refine Gl.callV Y4 (tw_52 hw) (tw_53 hw) (tw_55 hw) (tw_55 hw) (tw_54 hw) (tw_8 hw) (tw_56 hw) (by decide) E (rm150 l Z a0 hw a b kb cs u0 u1 u2 fm h0 n0 Y4.sz O S (hcs) E F1 F2 Vb SA SH SL SF (hfm) (r_u0) (r_u1) (r_u2)) (a := a) (argsL := [(.int 0)]) (rest := []) rfl rfl (lenOf pd_15 rfl) rfl (by decide) (nle rfl) (by decide) (by decide) dU_12 rfl (fun v12 T12 h12 Y12 q12 => ?_)
  obtain ⟨rfl, rfl⟩ := q12
  show Gl p e below _ (T12.setTop (mkF m 15 _ [(.int u0)]))
  refine Gl.sipush Y12 (v := (255 : Int32)) (by decide) dU_15 rfl ?_
  refine Gl.icmpgt Y12 dU_18 (by decide) rfl rfl (fun c18 => ?_) (fun c18 => ?_)
  · exact absurd c18 l0
  refine Gl.iinc Y12 rfl (r := (1 : Int32)) (by decide) (L' := #[.val (.ref a), .val (.int 1)]) rfl dU_21 rfl ?_
  refine Gl.goto Y12 dU_24 (by decide) rfl ?_
  refine Gl.iloadN Y12 rfl dU_2 rfl ?_
  refine Gl.aloadN Y12 rfl rfl dU_3 rfl ?_
  refine Gl.callV Y12 (tw_31 hw) (tw_32 hw) (tw_34 hw) (tw_34 hw) (tw_33 hw) (tw_8 hw) (tw_35 hw) (by decide) E (rm149 l Z a0 hw a b kb cs u0 u1 u2 h0 n0 Y12.sz O S (hcs) E F1 F2 Vb) (a := a) (argsL := []) (rest := [(.int 1)]) rfl rfl (lenOf pd_14 rfl) rfl (by decide) (nle rfl) (by decide) (by decide) dU_4 rfl (fun v4_2 T4_2 h4_2 Y4_2 q4_2 => ?_)
  obtain ⟨rfl, rfl⟩ := q4_2
  show Gl p e below _ (T4_2.setTop (mkF m 7 _ [(.int 3), (.int 1)]))
  refine Gl.icmpge Y4_2 dU_7 (by decide) rfl rfl (fun c7_2 => ?_) (fun c7_2 => ?_)
  · exact absurd c7_2 (by decide)
  refine Gl.aloadN Y4_2 rfl rfl dU_10 rfl ?_
  refine Gl.iloadN Y4_2 rfl dU_11 rfl ?_
  refine Gl.callV Y4_2 (tw_52 hw) (tw_53 hw) (tw_55 hw) (tw_55 hw) (tw_54 hw) (tw_8 hw) (tw_56 hw) (by decide) E (rm151 l Z a0 hw a b kb cs u0 u1 u2 fm h0 n0 Y4_2.sz O S (hcs) E F1 F2 Vb SA SH SL SF (hfm) (r_u0) (r_u1) (r_u2)) (a := a) (argsL := [(.int 1)]) (rest := []) rfl rfl (lenOf pd_15 rfl) rfl (by decide) (nle rfl) (by decide) (by decide) dU_12 rfl (fun v12_2 T12_2 h12_2 Y12_2 q12_2 => ?_)
  obtain ⟨rfl, rfl⟩ := q12_2
  show Gl p e below _ (T12_2.setTop (mkF m 15 _ [(.int u1)]))
  refine Gl.sipush Y12_2 (v := (255 : Int32)) (by decide) dU_15 rfl ?_
  refine Gl.icmpgt Y12_2 dU_18 (by decide) rfl rfl (fun c18_2 => ?_) (fun c18_2 => ?_)
  rotate_left
  · exact absurd m1 c18_2
  refine Gl.iloadN Y12_2 rfl dU_27 rfl ?_
  refine Gl.aloadN Y12_2 rfl rfl dU_28 rfl ?_
  refine Gl.callV Y12_2 (tw_31 hw) (tw_32 hw) (tw_34 hw) (tw_34 hw) (tw_33 hw) (tw_8 hw) (tw_35 hw) (by decide) E (rm149 l Z a0 hw a b kb cs u0 u1 u2 h0 n0 Y12_2.sz O S (hcs) E F1 F2 Vb) (a := a) (argsL := []) (rest := [(.int 1)]) rfl rfl (lenOf pd_14 rfl) rfl (by decide) (nle rfl) (by decide) (by decide) dU_29 rfl (fun v29 T29 h29 Y29 q29 => ?_)
  obtain ⟨rfl, rfl⟩ := q29
  show Gl p e below _ (T29.setTop (mkF m 32 _ [(.int 3), (.int 1)]))
  refine Gl.icmpge Y29 dU_32 (by decide) rfl rfl (fun c32 => ?_) (fun c32 => ?_)
  · exact absurd c32 (by decide)
  refine Gl.iloadN Y29 rfl dU_35 rfl ?_
  refine Gl.goto Y29 dU_36 (by decide) rfl ?_
  exact Gl.retI Y29 (by decide) (by decide)  dU_40 ⟨rfl, rfl⟩
def R155 : Room := { frames := 5, cells := 0, slots := 0, locals := 66 }
def Q155 (Z : State) (a b : Addr) (kb : ClassId) (cs u0 u1 u2 : Int32) (fm : Value) (h0 : Heap) (v : Option Value) (h : Heap) : Prop := v = some (.int 2) ∧ h0 = h
theorem ef155 (a : Addr) (m : MethodId) : entryFrame m #[(.ref a)] 2 = mkF m 0 #[.val (.ref a), .unset] [] := by first | (simp [entryFrame, mkF, argsToLocals, Value.category]; done) | rfl
theorem rm155 (hw : HW a0 Z) (a b : Addr) (kb : ClassId) (cs u0 u1 u2 : Int32) (fm : Value) (h0 : Heap) (n0 : Nat) (Z0 : n0 ≤ h0.size) (O : Old Z n0 h0) (S : uC Z cs) (hcs : ¬ cs = 0) (E : Exa Z h0 a "java/lang/String") (F1 : Fld Z h0 a "java/lang/String" "value" "[B" (.ref b)) (F2 : Fld Z h0 a "java/lang/String" "coder" "B" (.int 1)) (Vb : Arv Z h0 b kb .byte (6 : Int32) [(.int (uL u0)), (.int (uH u0)), (.int (uL u1)), (.int (uH u1)), (.int (uL u2)), (.int (uH u2))] (.int 0)) (SA : uA Z) (SH : uS Z) (SL : uT Z) (SF : uF Z fm) (hfm : fm.category = 1) (r_u0 : C16 u0) (r_u1 : C16 u1) (r_u2 : C16 u2) (l0 : ¬ 255 < u0) (l1 : ¬ 255 < u1) (m2 : 255 < u2) : OMet l Z [] (⟨"com/example/ref_search/refsearch/matcher/Probes", "offsetFromU0100", "(Ljava/lang/String;)I"⟩ : MethodName) prog_13_method_8_code 2 (some .int) R155 #[(.ref a)] h0 n0 (Q155 Z a b kb cs u0 u1 u2 fm h0) := by
  refine OMet.of (own := "com/example/ref_search/refsearch/matcher/Probes") rfl (plainFor_of_name pn_4) (ef155 a) Z0 ?_
  intro p e s m below meth c T0 Y0 hnm
  refine Gl.iconst Y0 (v := (0 : Int32)) (by decide) dU_0 rfl ?_
  refine Gl.istoreN Y0 (L' := #[.val (.ref a), .val (.int 0)]) rfl dU_1 rfl ?_
  refine Gl.iloadN Y0 rfl dU_2 rfl ?_
  refine Gl.aloadN Y0 rfl rfl dU_3 rfl ?_
  refine Gl.callV Y0 (tw_31 hw) (tw_32 hw) (tw_34 hw) (tw_34 hw) (tw_33 hw) (tw_8 hw) (tw_35 hw) (by decide) E (rm149 l Z a0 hw a b kb cs u0 u1 u2 h0 n0 Y0.sz O S (hcs) E F1 F2 Vb) (a := a) (argsL := []) (rest := [(.int 0)]) rfl rfl (lenOf pd_14 rfl) rfl (by decide) (nle rfl) (by decide) (by decide) dU_4 rfl (fun v4 T4 h4 Y4 q4 => ?_)
  obtain ⟨rfl, rfl⟩ := q4
  show Gl p e below _ (T4.setTop (mkF m 7 _ [(.int 3), (.int 0)]))
  refine Gl.icmpge Y4 dU_7 (by decide) rfl rfl (fun c7 => ?_) (fun c7 => ?_)
  · exact absurd c7 (by decide)
  refine Gl.aloadN Y4 rfl rfl dU_10 rfl ?_
  refine Gl.iloadN Y4 rfl dU_11 rfl ?_
  refine Gl.callV Y4 (tw_52 hw) (tw_53 hw) (tw_55 hw) (tw_55 hw) (tw_54 hw) (tw_8 hw) (tw_56 hw) (by decide) E (rm150 l Z a0 hw a b kb cs u0 u1 u2 fm h0 n0 Y4.sz O S (hcs) E F1 F2 Vb SA SH SL SF (hfm) (r_u0) (r_u1) (r_u2)) (a := a) (argsL := [(.int 0)]) (rest := []) rfl rfl (lenOf pd_15 rfl) rfl (by decide) (nle rfl) (by decide) (by decide) dU_12 rfl (fun v12 T12 h12 Y12 q12 => ?_)
  obtain ⟨rfl, rfl⟩ := q12
  show Gl p e below _ (T12.setTop (mkF m 15 _ [(.int u0)]))
  refine Gl.sipush Y12 (v := (255 : Int32)) (by decide) dU_15 rfl ?_
  refine Gl.icmpgt Y12 dU_18 (by decide) rfl rfl (fun c18 => ?_) (fun c18 => ?_)
  · exact absurd c18 l0
  refine Gl.iinc Y12 rfl (r := (1 : Int32)) (by decide) (L' := #[.val (.ref a), .val (.int 1)]) rfl dU_21 rfl ?_
  refine Gl.goto Y12 dU_24 (by decide) rfl ?_
  refine Gl.iloadN Y12 rfl dU_2 rfl ?_
  refine Gl.aloadN Y12 rfl rfl dU_3 rfl ?_
  refine Gl.callV Y12 (tw_31 hw) (tw_32 hw) (tw_34 hw) (tw_34 hw) (tw_33 hw) (tw_8 hw) (tw_35 hw) (by decide) E (rm149 l Z a0 hw a b kb cs u0 u1 u2 h0 n0 Y12.sz O S (hcs) E F1 F2 Vb) (a := a) (argsL := []) (rest := [(.int 1)]) rfl rfl (lenOf pd_14 rfl) rfl (by decide) (nle rfl) (by decide) (by decide) dU_4 rfl (fun v4_2 T4_2 h4_2 Y4_2 q4_2 => ?_)
  obtain ⟨rfl, rfl⟩ := q4_2
  show Gl p e below _ (T4_2.setTop (mkF m 7 _ [(.int 3), (.int 1)]))
  refine Gl.icmpge Y4_2 dU_7 (by decide) rfl rfl (fun c7_2 => ?_) (fun c7_2 => ?_)
  · exact absurd c7_2 (by decide)
  refine Gl.aloadN Y4_2 rfl rfl dU_10 rfl ?_
  refine Gl.iloadN Y4_2 rfl dU_11 rfl ?_
  refine Gl.callV Y4_2 (tw_52 hw) (tw_53 hw) (tw_55 hw) (tw_55 hw) (tw_54 hw) (tw_8 hw) (tw_56 hw) (by decide) E (rm151 l Z a0 hw a b kb cs u0 u1 u2 fm h0 n0 Y4_2.sz O S (hcs) E F1 F2 Vb SA SH SL SF (hfm) (r_u0) (r_u1) (r_u2)) (a := a) (argsL := [(.int 1)]) (rest := []) rfl rfl (lenOf pd_15 rfl) rfl (by decide) (nle rfl) (by decide) (by decide) dU_12 rfl (fun v12_2 T12_2 h12_2 Y12_2 q12_2 => ?_)
  obtain ⟨rfl, rfl⟩ := q12_2
  show Gl p e below _ (T12_2.setTop (mkF m 15 _ [(.int u1)]))
  refine Gl.sipush Y12_2 (v := (255 : Int32)) (by decide) dU_15 rfl ?_
  refine Gl.icmpgt Y12_2 dU_18 (by decide) rfl rfl (fun c18_2 => ?_) (fun c18_2 => ?_)
  · exact absurd c18_2 l1
  refine Gl.iinc Y12_2 rfl (r := (2 : Int32)) (by decide) (L' := #[.val (.ref a), .val (.int 2)]) rfl dU_21 rfl ?_
  refine Gl.goto Y12_2 dU_24 (by decide) rfl ?_
  refine Gl.iloadN Y12_2 rfl dU_2 rfl ?_
  refine Gl.aloadN Y12_2 rfl rfl dU_3 rfl ?_
  refine Gl.callV Y12_2 (tw_31 hw) (tw_32 hw) (tw_34 hw) (tw_34 hw) (tw_33 hw) (tw_8 hw) (tw_35 hw) (by decide) E (rm149 l Z a0 hw a b kb cs u0 u1 u2 h0 n0 Y12_2.sz O S (hcs) E F1 F2 Vb) (a := a) (argsL := []) (rest := [(.int 2)]) rfl rfl (lenOf pd_14 rfl) rfl (by decide) (nle rfl) (by decide) (by decide) dU_4 rfl (fun v4_3 T4_3 h4_3 Y4_3 q4_3 => ?_)
  obtain ⟨rfl, rfl⟩ := q4_3
  show Gl p e below _ (T4_3.setTop (mkF m 7 _ [(.int 3), (.int 2)]))
  refine Gl.icmpge Y4_3 dU_7 (by decide) rfl rfl (fun c7_3 => ?_) (fun c7_3 => ?_)
  · exact absurd c7_3 (by decide)
  refine Gl.aloadN Y4_3 rfl rfl dU_10 rfl ?_
  refine Gl.iloadN Y4_3 rfl dU_11 rfl ?_
  refine Gl.callV Y4_3 (tw_52 hw) (tw_53 hw) (tw_55 hw) (tw_55 hw) (tw_54 hw) (tw_8 hw) (tw_56 hw) (by decide) E (rm152 l Z a0 hw a b kb cs u0 u1 u2 fm h0 n0 Y4_3.sz O S (hcs) E F1 F2 Vb SA SH SL SF (hfm) (r_u0) (r_u1) (r_u2)) (a := a) (argsL := [(.int 2)]) (rest := []) rfl rfl (lenOf pd_15 rfl) rfl (by decide) (nle rfl) (by decide) (by decide) dU_12 rfl (fun v12_3 T12_3 h12_3 Y12_3 q12_3 => ?_)
  obtain ⟨rfl, rfl⟩ := q12_3
  show Gl p e below _ (T12_3.setTop (mkF m 15 _ [(.int u2)]))
  refine Gl.sipush Y12_3 (v := (255 : Int32)) (by decide) dU_15 rfl ?_
  refine Gl.icmpgt Y12_3 dU_18 (by decide) rfl rfl (fun c18_3 => ?_) (fun c18_3 => ?_)
  rotate_left
  · exact absurd m2 c18_3
  refine Gl.iloadN Y12_3 rfl dU_27 rfl ?_
  refine Gl.aloadN Y12_3 rfl rfl dU_28 rfl ?_
  refine Gl.callV Y12_3 (tw_31 hw) (tw_32 hw) (tw_34 hw) (tw_34 hw) (tw_33 hw) (tw_8 hw) (tw_35 hw) (by decide) E (rm149 l Z a0 hw a b kb cs u0 u1 u2 h0 n0 Y12_3.sz O S (hcs) E F1 F2 Vb) (a := a) (argsL := []) (rest := [(.int 2)]) rfl rfl (lenOf pd_14 rfl) rfl (by decide) (nle rfl) (by decide) (by decide) dU_29 rfl (fun v29 T29 h29 Y29 q29 => ?_)
  obtain ⟨rfl, rfl⟩ := q29
  show Gl p e below _ (T29.setTop (mkF m 32 _ [(.int 3), (.int 2)]))
  refine Gl.icmpge Y29 dU_32 (by decide) rfl rfl (fun c32 => ?_) (fun c32 => ?_)
  · exact absurd c32 (by decide)
  refine Gl.iloadN Y29 rfl dU_35 rfl ?_
  refine Gl.goto Y29 dU_36 (by decide) rfl ?_
  exact Gl.retI Y29 (by decide) (by decide)  dU_40 ⟨rfl, rfl⟩
def R156 : Room := { frames := 4, cells := 0, slots := 0, locals := 53 }
def Q156 (Z : State) (a b : Addr) (kb : ClassId) (cs u0 u1 u2 : Int32) (fm : Value) (h0 : Heap) (v : Option Value) (h : Heap) : Prop := v = some (.int (-1)) ∧ h0 = h
theorem ef156 (a : Addr) (m : MethodId) : entryFrame m #[(.ref a)] 2 = mkF m 0 #[.val (.ref a), .unset] [] := by first | (simp [entryFrame, mkF, argsToLocals, Value.category]; done) | rfl
theorem rm156 (hw : HW a0 Z) (a b : Addr) (kb : ClassId) (cs u0 u1 u2 : Int32) (fm : Value) (h0 : Heap) (n0 : Nat) (Z0 : n0 ≤ h0.size) (O : Old Z n0 h0) (S : uC Z cs) (hcs : ¬ cs = 0) (E : Exa Z h0 a "java/lang/String") (F1 : Fld Z h0 a "java/lang/String" "value" "[B" (.ref b)) (F2 : Fld Z h0 a "java/lang/String" "coder" "B" (.int 0)) (Vb : Arv Z h0 b kb .byte (3 : Int32) [(.int (bL u0)), (.int (bL u1)), (.int (bL u2))] (.int 0)) (SF : uF Z fm) (hfm : fm.category = 1) (r_u0 : C16 u0) (r_u1 : C16 u1) (r_u2 : C16 u2) (l0 : ¬ 255 < u0) (l1 : ¬ 255 < u1) (l2 : ¬ 255 < u2) : OMet l Z [] (⟨"com/example/ref_search/refsearch/matcher/Probes", "offsetFromU0100", "(Ljava/lang/String;)I"⟩ : MethodName) prog_13_method_8_code 2 (some .int) R156 #[(.ref a)] h0 n0 (Q156 Z a b kb cs u0 u1 u2 fm h0) := by
  refine OMet.of (own := "com/example/ref_search/refsearch/matcher/Probes") rfl (plainFor_of_name pn_4) (ef156 a) Z0 ?_
  intro p e s m below meth c T0 Y0 hnm
  refine Gl.iconst Y0 (v := (0 : Int32)) (by decide) dU_0 rfl ?_
  refine Gl.istoreN Y0 (L' := #[.val (.ref a), .val (.int 0)]) rfl dU_1 rfl ?_
  refine Gl.iloadN Y0 rfl dU_2 rfl ?_
  refine Gl.aloadN Y0 rfl rfl dU_3 rfl ?_
  refine Gl.callV Y0 (tw_31 hw) (tw_32 hw) (tw_34 hw) (tw_34 hw) (tw_33 hw) (tw_8 hw) (tw_35 hw) (by decide) E (rm145 l Z a0 hw a b kb cs u0 u1 u2 h0 n0 Y0.sz O S (hcs) E F1 F2 Vb) (a := a) (argsL := []) (rest := [(.int 0)]) rfl rfl (lenOf pd_14 rfl) rfl (by decide) (nle rfl) (by decide) (by decide) dU_4 rfl (fun v4 T4 h4 Y4 q4 => ?_)
  obtain ⟨rfl, rfl⟩ := q4
  show Gl p e below _ (T4.setTop (mkF m 7 _ [(.int 3), (.int 0)]))
  refine Gl.icmpge Y4 dU_7 (by decide) rfl rfl (fun c7 => ?_) (fun c7 => ?_)
  · exact absurd c7 (by decide)
  refine Gl.aloadN Y4 rfl rfl dU_10 rfl ?_
  refine Gl.iloadN Y4 rfl dU_11 rfl ?_
  refine Gl.callV Y4 (tw_52 hw) (tw_53 hw) (tw_55 hw) (tw_55 hw) (tw_54 hw) (tw_8 hw) (tw_56 hw) (by decide) E (rm146 l Z a0 hw a b kb cs u0 u1 u2 fm h0 n0 Y4.sz O S (hcs) E F1 F2 Vb SF (hfm) (r_u0) (r_u1) (r_u2) (by first | assumption | decide | omega | (simp; done))) (a := a) (argsL := [(.int 0)]) (rest := []) rfl rfl (lenOf pd_15 rfl) rfl (by decide) (nle rfl) (by decide) (by decide) dU_12 rfl (fun v12 T12 h12 Y12 q12 => ?_)
  obtain ⟨rfl, rfl⟩ := q12
  show Gl p e below _ (T12.setTop (mkF m 15 _ [(.int u0)]))
  refine Gl.sipush Y12 (v := (255 : Int32)) (by decide) dU_15 rfl ?_
  refine Gl.icmpgt Y12 dU_18 (by decide) rfl rfl (fun c18 => ?_) (fun c18 => ?_)
  · exact absurd c18 l0
  refine Gl.iinc Y12 rfl (r := (1 : Int32)) (by decide) (L' := #[.val (.ref a), .val (.int 1)]) rfl dU_21 rfl ?_
  refine Gl.goto Y12 dU_24 (by decide) rfl ?_
  refine Gl.iloadN Y12 rfl dU_2 rfl ?_
  refine Gl.aloadN Y12 rfl rfl dU_3 rfl ?_
  refine Gl.callV Y12 (tw_31 hw) (tw_32 hw) (tw_34 hw) (tw_34 hw) (tw_33 hw) (tw_8 hw) (tw_35 hw) (by decide) E (rm145 l Z a0 hw a b kb cs u0 u1 u2 h0 n0 Y12.sz O S (hcs) E F1 F2 Vb) (a := a) (argsL := []) (rest := [(.int 1)]) rfl rfl (lenOf pd_14 rfl) rfl (by decide) (nle rfl) (by decide) (by decide) dU_4 rfl (fun v4_2 T4_2 h4_2 Y4_2 q4_2 => ?_)
  obtain ⟨rfl, rfl⟩ := q4_2
  show Gl p e below _ (T4_2.setTop (mkF m 7 _ [(.int 3), (.int 1)]))
  refine Gl.icmpge Y4_2 dU_7 (by decide) rfl rfl (fun c7_2 => ?_) (fun c7_2 => ?_)
  · exact absurd c7_2 (by decide)
  refine Gl.aloadN Y4_2 rfl rfl dU_10 rfl ?_
  refine Gl.iloadN Y4_2 rfl dU_11 rfl ?_
  refine Gl.callV Y4_2 (tw_52 hw) (tw_53 hw) (tw_55 hw) (tw_55 hw) (tw_54 hw) (tw_8 hw) (tw_56 hw) (by decide) E (rm147 l Z a0 hw a b kb cs u0 u1 u2 fm h0 n0 Y4_2.sz O S (hcs) E F1 F2 Vb SF (hfm) (r_u0) (r_u1) (r_u2) (by first | assumption | decide | omega | (simp; done))) (a := a) (argsL := [(.int 1)]) (rest := []) rfl rfl (lenOf pd_15 rfl) rfl (by decide) (nle rfl) (by decide) (by decide) dU_12 rfl (fun v12_2 T12_2 h12_2 Y12_2 q12_2 => ?_)
  obtain ⟨rfl, rfl⟩ := q12_2
  show Gl p e below _ (T12_2.setTop (mkF m 15 _ [(.int u1)]))
  refine Gl.sipush Y12_2 (v := (255 : Int32)) (by decide) dU_15 rfl ?_
  refine Gl.icmpgt Y12_2 dU_18 (by decide) rfl rfl (fun c18_2 => ?_) (fun c18_2 => ?_)
  · exact absurd c18_2 l1
  refine Gl.iinc Y12_2 rfl (r := (2 : Int32)) (by decide) (L' := #[.val (.ref a), .val (.int 2)]) rfl dU_21 rfl ?_
  refine Gl.goto Y12_2 dU_24 (by decide) rfl ?_
  refine Gl.iloadN Y12_2 rfl dU_2 rfl ?_
  refine Gl.aloadN Y12_2 rfl rfl dU_3 rfl ?_
  refine Gl.callV Y12_2 (tw_31 hw) (tw_32 hw) (tw_34 hw) (tw_34 hw) (tw_33 hw) (tw_8 hw) (tw_35 hw) (by decide) E (rm145 l Z a0 hw a b kb cs u0 u1 u2 h0 n0 Y12_2.sz O S (hcs) E F1 F2 Vb) (a := a) (argsL := []) (rest := [(.int 2)]) rfl rfl (lenOf pd_14 rfl) rfl (by decide) (nle rfl) (by decide) (by decide) dU_4 rfl (fun v4_3 T4_3 h4_3 Y4_3 q4_3 => ?_)
  obtain ⟨rfl, rfl⟩ := q4_3
  show Gl p e below _ (T4_3.setTop (mkF m 7 _ [(.int 3), (.int 2)]))
  refine Gl.icmpge Y4_3 dU_7 (by decide) rfl rfl (fun c7_3 => ?_) (fun c7_3 => ?_)
  · exact absurd c7_3 (by decide)
  refine Gl.aloadN Y4_3 rfl rfl dU_10 rfl ?_
  refine Gl.iloadN Y4_3 rfl dU_11 rfl ?_
  refine Gl.callV Y4_3 (tw_52 hw) (tw_53 hw) (tw_55 hw) (tw_55 hw) (tw_54 hw) (tw_8 hw) (tw_56 hw) (by decide) E (rm148 l Z a0 hw a b kb cs u0 u1 u2 fm h0 n0 Y4_3.sz O S (hcs) E F1 F2 Vb SF (hfm) (r_u0) (r_u1) (r_u2) (by first | assumption | decide | omega | (simp; done))) (a := a) (argsL := [(.int 2)]) (rest := []) rfl rfl (lenOf pd_15 rfl) rfl (by decide) (nle rfl) (by decide) (by decide) dU_12 rfl (fun v12_3 T12_3 h12_3 Y12_3 q12_3 => ?_)
  obtain ⟨rfl, rfl⟩ := q12_3
  show Gl p e below _ (T12_3.setTop (mkF m 15 _ [(.int u2)]))
  refine Gl.sipush Y12_3 (v := (255 : Int32)) (by decide) dU_15 rfl ?_
  refine Gl.icmpgt Y12_3 dU_18 (by decide) rfl rfl (fun c18_3 => ?_) (fun c18_3 => ?_)
  · exact absurd c18_3 l2
  refine Gl.iinc Y12_3 rfl (r := (3 : Int32)) (by decide) (L' := #[.val (.ref a), .val (.int 3)]) rfl dU_21 rfl ?_
  refine Gl.goto Y12_3 dU_24 (by decide) rfl ?_
  refine Gl.iloadN Y12_3 rfl dU_2 rfl ?_
  refine Gl.aloadN Y12_3 rfl rfl dU_3 rfl ?_
  refine Gl.callV Y12_3 (tw_31 hw) (tw_32 hw) (tw_34 hw) (tw_34 hw) (tw_33 hw) (tw_8 hw) (tw_35 hw) (by decide) E (rm145 l Z a0 hw a b kb cs u0 u1 u2 h0 n0 Y12_3.sz O S (hcs) E F1 F2 Vb) (a := a) (argsL := []) (rest := [(.int 3)]) rfl rfl (lenOf pd_14 rfl) rfl (by decide) (nle rfl) (by decide) (by decide) dU_4 rfl (fun v4_4 T4_4 h4_4 Y4_4 q4_4 => ?_)
  obtain ⟨rfl, rfl⟩ := q4_4
  show Gl p e below _ (T4_4.setTop (mkF m 7 _ [(.int 3), (.int 3)]))
  refine Gl.icmpge Y4_4 dU_7 (by decide) rfl rfl (fun c7_4 => ?_) (fun c7_4 => ?_)
  rotate_left
  · exact absurd c7_4 (by decide)
  refine Gl.iloadN Y4_4 rfl dU_27 rfl ?_
  refine Gl.aloadN Y4_4 rfl rfl dU_28 rfl ?_
  refine Gl.callV Y4_4 (tw_31 hw) (tw_32 hw) (tw_34 hw) (tw_34 hw) (tw_33 hw) (tw_8 hw) (tw_35 hw) (by decide) E (rm145 l Z a0 hw a b kb cs u0 u1 u2 h0 n0 Y4_4.sz O S (hcs) E F1 F2 Vb) (a := a) (argsL := []) (rest := [(.int 3)]) rfl rfl (lenOf pd_14 rfl) rfl (by decide) (nle rfl) (by decide) (by decide) dU_29 rfl (fun v29 T29 h29 Y29 q29 => ?_)
  obtain ⟨rfl, rfl⟩ := q29
  show Gl p e below _ (T29.setTop (mkF m 32 _ [(.int 3), (.int 3)]))
  refine Gl.icmpge Y29 dU_32 (by decide) rfl rfl (fun c32 => ?_) (fun c32 => ?_)
  rotate_left
  · exact absurd c32 (by decide)
  refine Gl.iconst Y29 (v := (-1 : Int32)) (by decide) dU_39 rfl ?_
  exact Gl.retI Y29 (by decide) (by decide)  dU_40 ⟨rfl, rfl⟩
def R157 : Room := { frames := 1, cells := 0, slots := 0, locals := 13 }
def Q157 (Z : State) (a b : Addr) (kb : ClassId) (cs u0 u1 u2 u3 : Int32) (h0 : Heap) (v : Option Value) (h : Heap) : Prop := v = some (.int 4) ∧ h0 = h
theorem ef157 (a : Addr) (m : MethodId) : entryFrame m #[(.ref a)] 1 = mkF m 0 #[.val (.ref a)] [] := by first | (simp [entryFrame, mkF, argsToLocals, Value.category]; done) | rfl
theorem rm157 (hw : HW a0 Z) (a b : Addr) (kb : ClassId) (cs u0 u1 u2 u3 : Int32) (h0 : Heap) (n0 : Nat) (Z0 : n0 ≤ h0.size) (O : Old Z n0 h0) (S : uC Z cs) (hcs : ¬ cs = 0) (E : Exa Z h0 a "java/lang/String") (F1 : Fld Z h0 a "java/lang/String" "value" "[B" (.ref b)) (F2 : Fld Z h0 a "java/lang/String" "coder" "B" (.int 0)) (Vb : Arv Z h0 b kb .byte (4 : Int32) [(.int (bL u0)), (.int (bL u1)), (.int (bL u2)), (.int (bL u3))] (.int 0)) : OMet l Z [] (⟨"java/lang/String", "length", "()I"⟩ : MethodName) jdk_42_method_54_code 1 (some .int) R157 #[(.ref a)] h0 n0 (Q157 Z a b kb cs u0 u1 u2 u3 h0) := by
  refine OMet.of (own := "java/lang/String") rfl (plainFor_of_name pn_1) (ef157 a) Z0 ?_
  intro p e s m below meth c T0 Y0 hnm
  refine Gl.aloadN Y0 rfl rfl dS_0 rfl ?_
  refine Gl.getF Y0 (host := "") (Or.inl (tw_25 hw)) Via.refl F1 dS_1 rfl (fun T1 Y1 => ?_)
  refine Gl.arraylength Y1 Vb dS_4 rfl ?_
  refine Gl.aloadN Y1 rfl rfl dS_5 rfl ?_
  refine Gl.callV Y1 (tw_36 hw) (tw_37 hw) (tw_39 hw) (tw_39 hw) (tw_38 hw) (tw_8 hw) (tw_40 hw) (by decide) E (rm126 l Z a0 hw a cs h0 n0 Y1.sz O S (hcs) F2) (a := a) (argsL := []) (rest := [(.int 4)]) rfl rfl (lenOf pd_12 rfl) rfl (by decide) (nle rfl) (by decide) (by decide) dS_6 rfl (fun v6 T6 h6 Y6 q6 => ?_)
  obtain ⟨rfl, rfl⟩ := q6
  show Gl p e below _ (T6.setTop (mkF m 9 _ [(.int 0), (.int 4)]))
  refine Gl.ishr Y6 (r := (4 : Int32)) (by decide) dS_9 rfl ?_
  exact Gl.retI Y6 (by decide) (by decide)  dS_10 ⟨rfl, rfl⟩
def R158 : Room := { frames := 3, cells := 0, slots := 0, locals := 40 }
def Q158 (Z : State) (a b : Addr) (kb : ClassId) (cs u0 u1 u2 u3 : Int32) (fm : Value) (h0 : Heap) (v : Option Value) (h : Heap) : Prop := v = some (.int u0) ∧ h0 = h
theorem ef158 (a : Addr) (m : MethodId) : entryFrame m #[(.ref a), (.int 0)] 2 = mkF m 0 #[.val (.ref a), .val (.int 0)] [] := by first | (simp [entryFrame, mkF, argsToLocals, Value.category]; done) | rfl
theorem rm158 (hw : HW a0 Z) (a b : Addr) (kb : ClassId) (cs u0 u1 u2 u3 : Int32) (fm : Value) (h0 : Heap) (n0 : Nat) (Z0 : n0 ≤ h0.size) (O : Old Z n0 h0) (S : uC Z cs) (hcs : ¬ cs = 0) (E : Exa Z h0 a "java/lang/String") (F1 : Fld Z h0 a "java/lang/String" "value" "[B" (.ref b)) (F2 : Fld Z h0 a "java/lang/String" "coder" "B" (.int 0)) (Vb : Arv Z h0 b kb .byte (4 : Int32) [(.int (bL u0)), (.int (bL u1)), (.int (bL u2)), (.int (bL u3))] (.int 0)) (SF : uF Z fm) (hfm : fm.category = 1) (r_u0 : C16 u0) (r_u1 : C16 u1) (r_u2 : C16 u2) (r_u3 : C16 u3) (li : ¬ 255 < u0) : OMet l Z [] (⟨"java/lang/String", "charAt", "(I)C"⟩ : MethodName) jdk_42_method_56_code 2 (some .char) R158 #[(.ref a), (.int 0)] h0 n0 (Q158 Z a b kb cs u0 u1 u2 u3 fm h0) := by
  refine OMet.of (own := "java/lang/String") rfl (plainFor_of_name pn_1) (ef158 a) Z0 ?_
  intro p e s m below meth c T0 Y0 hnm
  refine Gl.aloadN Y0 rfl rfl dT_0 rfl ?_
  refine Gl.callV Y0 (tw_57 hw) (tw_58 hw) (tw_60 hw) (tw_60 hw) (tw_59 hw) (tw_8 hw) (tw_61 hw) (by decide) E (rm127 l Z a0 hw a cs h0 n0 Y0.sz O S (hcs) F2) (a := a) (argsL := []) (rest := []) rfl rfl (lenOf pd_13 rfl) rfl (by decide) (nle rfl) (by decide) (by decide) dT_1 rfl (fun v1 T1 h1 Y1 q1 => ?_)
  obtain ⟨rfl, rfl⟩ := q1
  show Gl p e below _ (T1.setTop (mkF m 4 _ [(.int 1)]))
  refine Gl.ifeq Y1 dT_4 (by decide) rfl rfl (fun c4 => ?_) (fun c4 => ?_)
  · exact absurd c4 (by decide)
  refine Gl.aloadN Y1 rfl rfl dT_7 rfl ?_
  refine Gl.getF Y1 (host := "") (Or.inl (tw_25 hw)) Via.refl F1 dT_8 rfl (fun T8 Y8 => ?_)
  refine Gl.iloadN Y8 rfl dT_11 rfl ?_
  refine Gl.callS Y8 (tw_62 hw) (tw_63 hw) (tw_64 hw) (tw_65 hw) (by decide) (rm119 l Z a0 hw fm b kb u0 u1 u2 u3 h0 n0 Y8.sz O SF (hfm) Vb (r_u0) (r_u1) (r_u2) (r_u3) (li)) (argsL := [(.ref b), (.int 0)]) (rest := []) rfl rfl (lenOf pd_5 rfl) rfl (by decide) (nle rfl) (by decide) (by decide) dT_12 rfl (fun v12 T12 h12 Y12 q12 => ?_)
  obtain ⟨rfl, rfl⟩ := q12
  show Gl p e below _ (T12.setTop (mkF m 15 _ [(.int u0)]))
  exact Gl.retC Y12 (by decide) (by decide) (x' := u0) (own_narCr r_u0.1 r_u0.2) dT_15 ⟨rfl, rfl⟩
def R159 : Room := { frames := 3, cells := 0, slots := 0, locals := 40 }
def Q159 (Z : State) (a b : Addr) (kb : ClassId) (cs u0 u1 u2 u3 : Int32) (fm : Value) (h0 : Heap) (v : Option Value) (h : Heap) : Prop := v = some (.int u1) ∧ h0 = h
theorem ef159 (a : Addr) (m : MethodId) : entryFrame m #[(.ref a), (.int 1)] 2 = mkF m 0 #[.val (.ref a), .val (.int 1)] [] := by first | (simp [entryFrame, mkF, argsToLocals, Value.category]; done) | rfl
theorem rm159 (hw : HW a0 Z) (a b : Addr) (kb : ClassId) (cs u0 u1 u2 u3 : Int32) (fm : Value) (h0 : Heap) (n0 : Nat) (Z0 : n0 ≤ h0.size) (O : Old Z n0 h0) (S : uC Z cs) (hcs : ¬ cs = 0) (E : Exa Z h0 a "java/lang/String") (F1 : Fld Z h0 a "java/lang/String" "value" "[B" (.ref b)) (F2 : Fld Z h0 a "java/lang/String" "coder" "B" (.int 0)) (Vb : Arv Z h0 b kb .byte (4 : Int32) [(.int (bL u0)), (.int (bL u1)), (.int (bL u2)), (.int (bL u3))] (.int 0)) (SF : uF Z fm) (hfm : fm.category = 1) (r_u0 : C16 u0) (r_u1 : C16 u1) (r_u2 : C16 u2) (r_u3 : C16 u3) (li : ¬ 255 < u1) : OMet l Z [] (⟨"java/lang/String", "charAt", "(I)C"⟩ : MethodName) jdk_42_method_56_code 2 (some .char) R159 #[(.ref a), (.int 1)] h0 n0 (Q159 Z a b kb cs u0 u1 u2 u3 fm h0) := by
  refine OMet.of (own := "java/lang/String") rfl (plainFor_of_name pn_1) (ef159 a) Z0 ?_
  intro p e s m below meth c T0 Y0 hnm
  refine Gl.aloadN Y0 rfl rfl dT_0 rfl ?_
  refine Gl.callV Y0 (tw_57 hw) (tw_58 hw) (tw_60 hw) (tw_60 hw) (tw_59 hw) (tw_8 hw) (tw_61 hw) (by decide) E (rm127 l Z a0 hw a cs h0 n0 Y0.sz O S (hcs) F2) (a := a) (argsL := []) (rest := []) rfl rfl (lenOf pd_13 rfl) rfl (by decide) (nle rfl) (by decide) (by decide) dT_1 rfl (fun v1 T1 h1 Y1 q1 => ?_)
  obtain ⟨rfl, rfl⟩ := q1
  show Gl p e below _ (T1.setTop (mkF m 4 _ [(.int 1)]))
  refine Gl.ifeq Y1 dT_4 (by decide) rfl rfl (fun c4 => ?_) (fun c4 => ?_)
  · exact absurd c4 (by decide)
  refine Gl.aloadN Y1 rfl rfl dT_7 rfl ?_
  refine Gl.getF Y1 (host := "") (Or.inl (tw_25 hw)) Via.refl F1 dT_8 rfl (fun T8 Y8 => ?_)
  refine Gl.iloadN Y8 rfl dT_11 rfl ?_
  refine Gl.callS Y8 (tw_62 hw) (tw_63 hw) (tw_64 hw) (tw_65 hw) (by decide) (rm121 l Z a0 hw fm b kb u0 u1 u2 u3 h0 n0 Y8.sz O SF (hfm) Vb (r_u0) (r_u1) (r_u2) (r_u3) (li)) (argsL := [(.ref b), (.int 1)]) (rest := []) rfl rfl (lenOf pd_5 rfl) rfl (by decide) (nle rfl) (by decide) (by decide) dT_12 rfl (fun v12 T12 h12 Y12 q12 => ?_)
  obtain ⟨rfl, rfl⟩ := q12
  show Gl p e below _ (T12.setTop (mkF m 15 _ [(.int u1)]))
  exact Gl.retC Y12 (by decide) (by decide) (x' := u1) (own_narCr r_u1.1 r_u1.2) dT_15 ⟨rfl, rfl⟩
def R160 : Room := { frames := 3, cells := 0, slots := 0, locals := 40 }
def Q160 (Z : State) (a b : Addr) (kb : ClassId) (cs u0 u1 u2 u3 : Int32) (fm : Value) (h0 : Heap) (v : Option Value) (h : Heap) : Prop := v = some (.int u2) ∧ h0 = h
theorem ef160 (a : Addr) (m : MethodId) : entryFrame m #[(.ref a), (.int 2)] 2 = mkF m 0 #[.val (.ref a), .val (.int 2)] [] := by first | (simp [entryFrame, mkF, argsToLocals, Value.category]; done) | rfl
theorem rm160 (hw : HW a0 Z) (a b : Addr) (kb : ClassId) (cs u0 u1 u2 u3 : Int32) (fm : Value) (h0 : Heap) (n0 : Nat) (Z0 : n0 ≤ h0.size) (O : Old Z n0 h0) (S : uC Z cs) (hcs : ¬ cs = 0) (E : Exa Z h0 a "java/lang/String") (F1 : Fld Z h0 a "java/lang/String" "value" "[B" (.ref b)) (F2 : Fld Z h0 a "java/lang/String" "coder" "B" (.int 0)) (Vb : Arv Z h0 b kb .byte (4 : Int32) [(.int (bL u0)), (.int (bL u1)), (.int (bL u2)), (.int (bL u3))] (.int 0)) (SF : uF Z fm) (hfm : fm.category = 1) (r_u0 : C16 u0) (r_u1 : C16 u1) (r_u2 : C16 u2) (r_u3 : C16 u3) (li : ¬ 255 < u2) : OMet l Z [] (⟨"java/lang/String", "charAt", "(I)C"⟩ : MethodName) jdk_42_method_56_code 2 (some .char) R160 #[(.ref a), (.int 2)] h0 n0 (Q160 Z a b kb cs u0 u1 u2 u3 fm h0) := by
  refine OMet.of (own := "java/lang/String") rfl (plainFor_of_name pn_1) (ef160 a) Z0 ?_
  intro p e s m below meth c T0 Y0 hnm
  refine Gl.aloadN Y0 rfl rfl dT_0 rfl ?_
  refine Gl.callV Y0 (tw_57 hw) (tw_58 hw) (tw_60 hw) (tw_60 hw) (tw_59 hw) (tw_8 hw) (tw_61 hw) (by decide) E (rm127 l Z a0 hw a cs h0 n0 Y0.sz O S (hcs) F2) (a := a) (argsL := []) (rest := []) rfl rfl (lenOf pd_13 rfl) rfl (by decide) (nle rfl) (by decide) (by decide) dT_1 rfl (fun v1 T1 h1 Y1 q1 => ?_)
  obtain ⟨rfl, rfl⟩ := q1
  show Gl p e below _ (T1.setTop (mkF m 4 _ [(.int 1)]))
  refine Gl.ifeq Y1 dT_4 (by decide) rfl rfl (fun c4 => ?_) (fun c4 => ?_)
  · exact absurd c4 (by decide)
  refine Gl.aloadN Y1 rfl rfl dT_7 rfl ?_
  refine Gl.getF Y1 (host := "") (Or.inl (tw_25 hw)) Via.refl F1 dT_8 rfl (fun T8 Y8 => ?_)
  refine Gl.iloadN Y8 rfl dT_11 rfl ?_
  refine Gl.callS Y8 (tw_62 hw) (tw_63 hw) (tw_64 hw) (tw_65 hw) (by decide) (rm123 l Z a0 hw fm b kb u0 u1 u2 u3 h0 n0 Y8.sz O SF (hfm) Vb (r_u0) (r_u1) (r_u2) (r_u3) (li)) (argsL := [(.ref b), (.int 2)]) (rest := []) rfl rfl (lenOf pd_5 rfl) rfl (by decide) (nle rfl) (by decide) (by decide) dT_12 rfl (fun v12 T12 h12 Y12 q12 => ?_)
  obtain ⟨rfl, rfl⟩ := q12
  show Gl p e below _ (T12.setTop (mkF m 15 _ [(.int u2)]))
  exact Gl.retC Y12 (by decide) (by decide) (x' := u2) (own_narCr r_u2.1 r_u2.2) dT_15 ⟨rfl, rfl⟩
def R161 : Room := { frames := 3, cells := 0, slots := 0, locals := 40 }
def Q161 (Z : State) (a b : Addr) (kb : ClassId) (cs u0 u1 u2 u3 : Int32) (fm : Value) (h0 : Heap) (v : Option Value) (h : Heap) : Prop := v = some (.int u3) ∧ h0 = h
theorem ef161 (a : Addr) (m : MethodId) : entryFrame m #[(.ref a), (.int 3)] 2 = mkF m 0 #[.val (.ref a), .val (.int 3)] [] := by first | (simp [entryFrame, mkF, argsToLocals, Value.category]; done) | rfl
theorem rm161 (hw : HW a0 Z) (a b : Addr) (kb : ClassId) (cs u0 u1 u2 u3 : Int32) (fm : Value) (h0 : Heap) (n0 : Nat) (Z0 : n0 ≤ h0.size) (O : Old Z n0 h0) (S : uC Z cs) (hcs : ¬ cs = 0) (E : Exa Z h0 a "java/lang/String") (F1 : Fld Z h0 a "java/lang/String" "value" "[B" (.ref b)) (F2 : Fld Z h0 a "java/lang/String" "coder" "B" (.int 0)) (Vb : Arv Z h0 b kb .byte (4 : Int32) [(.int (bL u0)), (.int (bL u1)), (.int (bL u2)), (.int (bL u3))] (.int 0)) (SF : uF Z fm) (hfm : fm.category = 1) (r_u0 : C16 u0) (r_u1 : C16 u1) (r_u2 : C16 u2) (r_u3 : C16 u3) (li : ¬ 255 < u3) : OMet l Z [] (⟨"java/lang/String", "charAt", "(I)C"⟩ : MethodName) jdk_42_method_56_code 2 (some .char) R161 #[(.ref a), (.int 3)] h0 n0 (Q161 Z a b kb cs u0 u1 u2 u3 fm h0) := by
  refine OMet.of (own := "java/lang/String") rfl (plainFor_of_name pn_1) (ef161 a) Z0 ?_
  intro p e s m below meth c T0 Y0 hnm
  refine Gl.aloadN Y0 rfl rfl dT_0 rfl ?_
  refine Gl.callV Y0 (tw_57 hw) (tw_58 hw) (tw_60 hw) (tw_60 hw) (tw_59 hw) (tw_8 hw) (tw_61 hw) (by decide) E (rm127 l Z a0 hw a cs h0 n0 Y0.sz O S (hcs) F2) (a := a) (argsL := []) (rest := []) rfl rfl (lenOf pd_13 rfl) rfl (by decide) (nle rfl) (by decide) (by decide) dT_1 rfl (fun v1 T1 h1 Y1 q1 => ?_)
  obtain ⟨rfl, rfl⟩ := q1
  show Gl p e below _ (T1.setTop (mkF m 4 _ [(.int 1)]))
  refine Gl.ifeq Y1 dT_4 (by decide) rfl rfl (fun c4 => ?_) (fun c4 => ?_)
  · exact absurd c4 (by decide)
  refine Gl.aloadN Y1 rfl rfl dT_7 rfl ?_
  refine Gl.getF Y1 (host := "") (Or.inl (tw_25 hw)) Via.refl F1 dT_8 rfl (fun T8 Y8 => ?_)
  refine Gl.iloadN Y8 rfl dT_11 rfl ?_
  refine Gl.callS Y8 (tw_62 hw) (tw_63 hw) (tw_64 hw) (tw_65 hw) (by decide) (rm125 l Z a0 hw fm b kb u0 u1 u2 u3 h0 n0 Y8.sz O SF (hfm) Vb (r_u0) (r_u1) (r_u2) (r_u3) (li)) (argsL := [(.ref b), (.int 3)]) (rest := []) rfl rfl (lenOf pd_5 rfl) rfl (by decide) (nle rfl) (by decide) (by decide) dT_12 rfl (fun v12 T12 h12 Y12 q12 => ?_)
  obtain ⟨rfl, rfl⟩ := q12
  show Gl p e below _ (T12.setTop (mkF m 15 _ [(.int u3)]))
  exact Gl.retC Y12 (by decide) (by decide) (x' := u3) (own_narCr r_u3.1 r_u3.2) dT_15 ⟨rfl, rfl⟩
def R162 : Room := { frames := 1, cells := 0, slots := 0, locals := 13 }
def Q162 (Z : State) (a b : Addr) (kb : ClassId) (cs u0 u1 u2 u3 : Int32) (h0 : Heap) (v : Option Value) (h : Heap) : Prop := v = some (.int 4) ∧ h0 = h
theorem ef162 (a : Addr) (m : MethodId) : entryFrame m #[(.ref a)] 1 = mkF m 0 #[.val (.ref a)] [] := by first | (simp [entryFrame, mkF, argsToLocals, Value.category]; done) | rfl
theorem rm162 (hw : HW a0 Z) (a b : Addr) (kb : ClassId) (cs u0 u1 u2 u3 : Int32) (h0 : Heap) (n0 : Nat) (Z0 : n0 ≤ h0.size) (O : Old Z n0 h0) (S : uC Z cs) (hcs : ¬ cs = 0) (E : Exa Z h0 a "java/lang/String") (F1 : Fld Z h0 a "java/lang/String" "value" "[B" (.ref b)) (F2 : Fld Z h0 a "java/lang/String" "coder" "B" (.int 1)) (Vb : Arv Z h0 b kb .byte (8 : Int32) [(.int (uL u0)), (.int (uH u0)), (.int (uL u1)), (.int (uH u1)), (.int (uL u2)), (.int (uH u2)), (.int (uL u3)), (.int (uH u3))] (.int 0)) : OMet l Z [] (⟨"java/lang/String", "length", "()I"⟩ : MethodName) jdk_42_method_54_code 1 (some .int) R162 #[(.ref a)] h0 n0 (Q162 Z a b kb cs u0 u1 u2 u3 h0) := by
  refine OMet.of (own := "java/lang/String") rfl (plainFor_of_name pn_1) (ef162 a) Z0 ?_
  intro p e s m below meth c T0 Y0 hnm
  refine Gl.aloadN Y0 rfl rfl dS_0 rfl ?_
  refine Gl.getF Y0 (host := "") (Or.inl (tw_25 hw)) Via.refl F1 dS_1 rfl (fun T1 Y1 => ?_)
  refine Gl.arraylength Y1 Vb dS_4 rfl ?_
  refine Gl.aloadN Y1 rfl rfl dS_5 rfl ?_
  refine Gl.callV Y1 (tw_36 hw) (tw_37 hw) (tw_39 hw) (tw_39 hw) (tw_38 hw) (tw_8 hw) (tw_40 hw) (by decide) E (rm128 l Z a0 hw a cs h0 n0 Y1.sz O S (hcs) F2) (a := a) (argsL := []) (rest := [(.int 8)]) rfl rfl (lenOf pd_12 rfl) rfl (by decide) (nle rfl) (by decide) (by decide) dS_6 rfl (fun v6 T6 h6 Y6 q6 => ?_)
  obtain ⟨rfl, rfl⟩ := q6
  show Gl p e below _ (T6.setTop (mkF m 9 _ [(.int 1), (.int 8)]))
  refine Gl.ishr Y6 (r := (4 : Int32)) (by decide) dS_9 rfl ?_
  exact Gl.retI Y6 (by decide) (by decide)  dS_10 ⟨rfl, rfl⟩
def R163 : Room := { frames := 4, cells := 0, slots := 0, locals := 53 }
def Q163 (Z : State) (a b : Addr) (kb : ClassId) (cs u0 u1 u2 u3 : Int32) (fm : Value) (h0 : Heap) (v : Option Value) (h : Heap) : Prop := v = some (.int u0) ∧ h0 = h
theorem ef163 (a : Addr) (m : MethodId) : entryFrame m #[(.ref a), (.int 0)] 2 = mkF m 0 #[.val (.ref a), .val (.int 0)] [] := by first | (simp [entryFrame, mkF, argsToLocals, Value.category]; done) | rfl
theorem rm163 (hw : HW a0 Z) (a b : Addr) (kb : ClassId) (cs u0 u1 u2 u3 : Int32) (fm : Value) (h0 : Heap) (n0 : Nat) (Z0 : n0 ≤ h0.size) (O : Old Z n0 h0) (S : uC Z cs) (hcs : ¬ cs = 0) (E : Exa Z h0 a "java/lang/String") (F1 : Fld Z h0 a "java/lang/String" "value" "[B" (.ref b)) (F2 : Fld Z h0 a "java/lang/String" "coder" "B" (.int 1)) (Vb : Arv Z h0 b kb .byte (8 : Int32) [(.int (uL u0)), (.int (uH u0)), (.int (uL u1)), (.int (uH u1)), (.int (uL u2)), (.int (uH u2)), (.int (uL u3)), (.int (uH u3))] (.int 0)) (SA : uA Z) (SH : uS Z) (SL : uT Z) (SF : uF Z fm) (hfm : fm.category = 1) (r_u0 : C16 u0) (r_u1 : C16 u1) (r_u2 : C16 u2) (r_u3 : C16 u3) : OMet l Z [] (⟨"java/lang/String", "charAt", "(I)C"⟩ : MethodName) jdk_42_method_56_code 2 (some .char) R163 #[(.ref a), (.int 0)] h0 n0 (Q163 Z a b kb cs u0 u1 u2 u3 fm h0) := by
  refine OMet.of (own := "java/lang/String") rfl (plainFor_of_name pn_1) (ef163 a) Z0 ?_
  intro p e s m below meth c T0 Y0 hnm
  refine Gl.aloadN Y0 rfl rfl dT_0 rfl ?_
  refine Gl.callV Y0 (tw_57 hw) (tw_58 hw) (tw_60 hw) (tw_60 hw) (tw_59 hw) (tw_8 hw) (tw_61 hw) (by decide) E (rm129 l Z a0 hw a cs h0 n0 Y0.sz O S (hcs) F2) (a := a) (argsL := []) (rest := []) rfl rfl (lenOf pd_13 rfl) rfl (by decide) (nle rfl) (by decide) (by decide) dT_1 rfl (fun v1 T1 h1 Y1 q1 => ?_)
  obtain ⟨rfl, rfl⟩ := q1
  show Gl p e below _ (T1.setTop (mkF m 4 _ [(.int 0)]))
  refine Gl.ifeq Y1 dT_4 (by decide) rfl rfl (fun c4 => ?_) (fun c4 => ?_)
  rotate_left
  · exact absurd c4 (by decide)
  refine Gl.aloadN Y1 rfl rfl dT_16 rfl ?_
  refine Gl.getF Y1 (host := "") (Or.inl (tw_25 hw)) Via.refl F1 dT_17 rfl (fun T17 Y17 => ?_)
  refine Gl.iloadN Y17 rfl dT_20 rfl ?_
  refine Gl.callS Y17 (tw_93 hw) (tw_94 hw) (tw_44 hw) (tw_95 hw) (by decide) (rm118 l Z a0 hw fm b kb u0 u1 u2 u3 h0 n0 Y17.sz O SA SH SL SF (hfm) Vb (r_u0) (r_u1) (r_u2) (r_u3)) (argsL := [(.ref b), (.int 0)]) (rest := []) rfl rfl (lenOf pd_5 rfl) rfl (by decide) (nle rfl) (by decide) (by decide) dT_21 rfl (fun v21 T21 h21 Y21 q21 => ?_)
  obtain ⟨rfl, rfl⟩ := q21
  show Gl p e below _ (T21.setTop (mkF m 24 _ [(.int u0)]))
  exact Gl.retC Y21 (by decide) (by decide) (x' := u0) (own_narCr r_u0.1 r_u0.2) dT_24 ⟨rfl, rfl⟩
def R164 : Room := { frames := 4, cells := 0, slots := 0, locals := 53 }
def Q164 (Z : State) (a b : Addr) (kb : ClassId) (cs u0 u1 u2 u3 : Int32) (fm : Value) (h0 : Heap) (v : Option Value) (h : Heap) : Prop := v = some (.int u1) ∧ h0 = h
theorem ef164 (a : Addr) (m : MethodId) : entryFrame m #[(.ref a), (.int 1)] 2 = mkF m 0 #[.val (.ref a), .val (.int 1)] [] := by first | (simp [entryFrame, mkF, argsToLocals, Value.category]; done) | rfl
theorem rm164 (hw : HW a0 Z) (a b : Addr) (kb : ClassId) (cs u0 u1 u2 u3 : Int32) (fm : Value) (h0 : Heap) (n0 : Nat) (Z0 : n0 ≤ h0.size) (O : Old Z n0 h0) (S : uC Z cs) (hcs : ¬ cs = 0) (E : Exa Z h0 a "java/lang/String") (F1 : Fld Z h0 a "java/lang/String" "value" "[B" (.ref b)) (F2 : Fld Z h0 a "java/lang/String" "coder" "B" (.int 1)) (Vb : Arv Z h0 b kb .byte (8 : Int32) [(.int (uL u0)), (.int (uH u0)), (.int (uL u1)), (.int (uH u1)), (.int (uL u2)), (.int (uH u2)), (.int (uL u3)), (.int (uH u3))] (.int 0)) (SA : uA Z) (SH : uS Z) (SL : uT Z) (SF : uF Z fm) (hfm : fm.category = 1) (r_u0 : C16 u0) (r_u1 : C16 u1) (r_u2 : C16 u2) (r_u3 : C16 u3) : OMet l Z [] (⟨"java/lang/String", "charAt", "(I)C"⟩ : MethodName) jdk_42_method_56_code 2 (some .char) R164 #[(.ref a), (.int 1)] h0 n0 (Q164 Z a b kb cs u0 u1 u2 u3 fm h0) := by
  refine OMet.of (own := "java/lang/String") rfl (plainFor_of_name pn_1) (ef164 a) Z0 ?_
  intro p e s m below meth c T0 Y0 hnm
  refine Gl.aloadN Y0 rfl rfl dT_0 rfl ?_
  refine Gl.callV Y0 (tw_57 hw) (tw_58 hw) (tw_60 hw) (tw_60 hw) (tw_59 hw) (tw_8 hw) (tw_61 hw) (by decide) E (rm129 l Z a0 hw a cs h0 n0 Y0.sz O S (hcs) F2) (a := a) (argsL := []) (rest := []) rfl rfl (lenOf pd_13 rfl) rfl (by decide) (nle rfl) (by decide) (by decide) dT_1 rfl (fun v1 T1 h1 Y1 q1 => ?_)
  obtain ⟨rfl, rfl⟩ := q1
  show Gl p e below _ (T1.setTop (mkF m 4 _ [(.int 0)]))
  refine Gl.ifeq Y1 dT_4 (by decide) rfl rfl (fun c4 => ?_) (fun c4 => ?_)
  rotate_left
  · exact absurd c4 (by decide)
  refine Gl.aloadN Y1 rfl rfl dT_16 rfl ?_
  refine Gl.getF Y1 (host := "") (Or.inl (tw_25 hw)) Via.refl F1 dT_17 rfl (fun T17 Y17 => ?_)
  refine Gl.iloadN Y17 rfl dT_20 rfl ?_
  refine Gl.callS Y17 (tw_93 hw) (tw_94 hw) (tw_44 hw) (tw_95 hw) (by decide) (rm120 l Z a0 hw fm b kb u0 u1 u2 u3 h0 n0 Y17.sz O SA SH SL SF (hfm) Vb (r_u0) (r_u1) (r_u2) (r_u3)) (argsL := [(.ref b), (.int 1)]) (rest := []) rfl rfl (lenOf pd_5 rfl) rfl (by decide) (nle rfl) (by decide) (by decide) dT_21 rfl (fun v21 T21 h21 Y21 q21 => ?_)
  obtain ⟨rfl, rfl⟩ := q21
  show Gl p e below _ (T21.setTop (mkF m 24 _ [(.int u1)]))
  exact Gl.retC Y21 (by decide) (by decide) (x' := u1) (own_narCr r_u1.1 r_u1.2) dT_24 ⟨rfl, rfl⟩
def R165 : Room := { frames := 4, cells := 0, slots := 0, locals := 53 }
def Q165 (Z : State) (a b : Addr) (kb : ClassId) (cs u0 u1 u2 u3 : Int32) (fm : Value) (h0 : Heap) (v : Option Value) (h : Heap) : Prop := v = some (.int u2) ∧ h0 = h
theorem ef165 (a : Addr) (m : MethodId) : entryFrame m #[(.ref a), (.int 2)] 2 = mkF m 0 #[.val (.ref a), .val (.int 2)] [] := by first | (simp [entryFrame, mkF, argsToLocals, Value.category]; done) | rfl
theorem rm165 (hw : HW a0 Z) (a b : Addr) (kb : ClassId) (cs u0 u1 u2 u3 : Int32) (fm : Value) (h0 : Heap) (n0 : Nat) (Z0 : n0 ≤ h0.size) (O : Old Z n0 h0) (S : uC Z cs) (hcs : ¬ cs = 0) (E : Exa Z h0 a "java/lang/String") (F1 : Fld Z h0 a "java/lang/String" "value" "[B" (.ref b)) (F2 : Fld Z h0 a "java/lang/String" "coder" "B" (.int 1)) (Vb : Arv Z h0 b kb .byte (8 : Int32) [(.int (uL u0)), (.int (uH u0)), (.int (uL u1)), (.int (uH u1)), (.int (uL u2)), (.int (uH u2)), (.int (uL u3)), (.int (uH u3))] (.int 0)) (SA : uA Z) (SH : uS Z) (SL : uT Z) (SF : uF Z fm) (hfm : fm.category = 1) (r_u0 : C16 u0) (r_u1 : C16 u1) (r_u2 : C16 u2) (r_u3 : C16 u3) : OMet l Z [] (⟨"java/lang/String", "charAt", "(I)C"⟩ : MethodName) jdk_42_method_56_code 2 (some .char) R165 #[(.ref a), (.int 2)] h0 n0 (Q165 Z a b kb cs u0 u1 u2 u3 fm h0) := by
  refine OMet.of (own := "java/lang/String") rfl (plainFor_of_name pn_1) (ef165 a) Z0 ?_
  intro p e s m below meth c T0 Y0 hnm
  refine Gl.aloadN Y0 rfl rfl dT_0 rfl ?_
  refine Gl.callV Y0 (tw_57 hw) (tw_58 hw) (tw_60 hw) (tw_60 hw) (tw_59 hw) (tw_8 hw) (tw_61 hw) (by decide) E (rm129 l Z a0 hw a cs h0 n0 Y0.sz O S (hcs) F2) (a := a) (argsL := []) (rest := []) rfl rfl (lenOf pd_13 rfl) rfl (by decide) (nle rfl) (by decide) (by decide) dT_1 rfl (fun v1 T1 h1 Y1 q1 => ?_)
  obtain ⟨rfl, rfl⟩ := q1
  show Gl p e below _ (T1.setTop (mkF m 4 _ [(.int 0)]))
  refine Gl.ifeq Y1 dT_4 (by decide) rfl rfl (fun c4 => ?_) (fun c4 => ?_)
  rotate_left
  · exact absurd c4 (by decide)
  refine Gl.aloadN Y1 rfl rfl dT_16 rfl ?_
  refine Gl.getF Y1 (host := "") (Or.inl (tw_25 hw)) Via.refl F1 dT_17 rfl (fun T17 Y17 => ?_)
  refine Gl.iloadN Y17 rfl dT_20 rfl ?_
  refine Gl.callS Y17 (tw_93 hw) (tw_94 hw) (tw_44 hw) (tw_95 hw) (by decide) (rm122 l Z a0 hw fm b kb u0 u1 u2 u3 h0 n0 Y17.sz O SA SH SL SF (hfm) Vb (r_u0) (r_u1) (r_u2) (r_u3)) (argsL := [(.ref b), (.int 2)]) (rest := []) rfl rfl (lenOf pd_5 rfl) rfl (by decide) (nle rfl) (by decide) (by decide) dT_21 rfl (fun v21 T21 h21 Y21 q21 => ?_)
  obtain ⟨rfl, rfl⟩ := q21
  show Gl p e below _ (T21.setTop (mkF m 24 _ [(.int u2)]))
  exact Gl.retC Y21 (by decide) (by decide) (x' := u2) (own_narCr r_u2.1 r_u2.2) dT_24 ⟨rfl, rfl⟩
def R166 : Room := { frames := 4, cells := 0, slots := 0, locals := 53 }
def Q166 (Z : State) (a b : Addr) (kb : ClassId) (cs u0 u1 u2 u3 : Int32) (fm : Value) (h0 : Heap) (v : Option Value) (h : Heap) : Prop := v = some (.int u3) ∧ h0 = h
theorem ef166 (a : Addr) (m : MethodId) : entryFrame m #[(.ref a), (.int 3)] 2 = mkF m 0 #[.val (.ref a), .val (.int 3)] [] := by first | (simp [entryFrame, mkF, argsToLocals, Value.category]; done) | rfl
theorem rm166 (hw : HW a0 Z) (a b : Addr) (kb : ClassId) (cs u0 u1 u2 u3 : Int32) (fm : Value) (h0 : Heap) (n0 : Nat) (Z0 : n0 ≤ h0.size) (O : Old Z n0 h0) (S : uC Z cs) (hcs : ¬ cs = 0) (E : Exa Z h0 a "java/lang/String") (F1 : Fld Z h0 a "java/lang/String" "value" "[B" (.ref b)) (F2 : Fld Z h0 a "java/lang/String" "coder" "B" (.int 1)) (Vb : Arv Z h0 b kb .byte (8 : Int32) [(.int (uL u0)), (.int (uH u0)), (.int (uL u1)), (.int (uH u1)), (.int (uL u2)), (.int (uH u2)), (.int (uL u3)), (.int (uH u3))] (.int 0)) (SA : uA Z) (SH : uS Z) (SL : uT Z) (SF : uF Z fm) (hfm : fm.category = 1) (r_u0 : C16 u0) (r_u1 : C16 u1) (r_u2 : C16 u2) (r_u3 : C16 u3) : OMet l Z [] (⟨"java/lang/String", "charAt", "(I)C"⟩ : MethodName) jdk_42_method_56_code 2 (some .char) R166 #[(.ref a), (.int 3)] h0 n0 (Q166 Z a b kb cs u0 u1 u2 u3 fm h0) := by
  refine OMet.of (own := "java/lang/String") rfl (plainFor_of_name pn_1) (ef166 a) Z0 ?_
  intro p e s m below meth c T0 Y0 hnm
  refine Gl.aloadN Y0 rfl rfl dT_0 rfl ?_
  refine Gl.callV Y0 (tw_57 hw) (tw_58 hw) (tw_60 hw) (tw_60 hw) (tw_59 hw) (tw_8 hw) (tw_61 hw) (by decide) E (rm129 l Z a0 hw a cs h0 n0 Y0.sz O S (hcs) F2) (a := a) (argsL := []) (rest := []) rfl rfl (lenOf pd_13 rfl) rfl (by decide) (nle rfl) (by decide) (by decide) dT_1 rfl (fun v1 T1 h1 Y1 q1 => ?_)
  obtain ⟨rfl, rfl⟩ := q1
  show Gl p e below _ (T1.setTop (mkF m 4 _ [(.int 0)]))
  refine Gl.ifeq Y1 dT_4 (by decide) rfl rfl (fun c4 => ?_) (fun c4 => ?_)
  rotate_left
  · exact absurd c4 (by decide)
  refine Gl.aloadN Y1 rfl rfl dT_16 rfl ?_
  refine Gl.getF Y1 (host := "") (Or.inl (tw_25 hw)) Via.refl F1 dT_17 rfl (fun T17 Y17 => ?_)
  refine Gl.iloadN Y17 rfl dT_20 rfl ?_
  refine Gl.callS Y17 (tw_93 hw) (tw_94 hw) (tw_44 hw) (tw_95 hw) (by decide) (rm124 l Z a0 hw fm b kb u0 u1 u2 u3 h0 n0 Y17.sz O SA SH SL SF (hfm) Vb (r_u0) (r_u1) (r_u2) (r_u3)) (argsL := [(.ref b), (.int 3)]) (rest := []) rfl rfl (lenOf pd_5 rfl) rfl (by decide) (nle rfl) (by decide) (by decide) dT_21 rfl (fun v21 T21 h21 Y21 q21 => ?_)
  obtain ⟨rfl, rfl⟩ := q21
  show Gl p e below _ (T21.setTop (mkF m 24 _ [(.int u3)]))
  exact Gl.retC Y21 (by decide) (by decide) (x' := u3) (own_narCr r_u3.1 r_u3.2) dT_24 ⟨rfl, rfl⟩
def R167 : Room := { frames := 5, cells := 0, slots := 0, locals := 66 }
def Q167 (Z : State) (a b : Addr) (kb : ClassId) (cs u0 u1 u2 u3 : Int32) (fm : Value) (h0 : Heap) (v : Option Value) (h : Heap) : Prop := v = some (.int 0) ∧ h0 = h
theorem ef167 (a : Addr) (m : MethodId) : entryFrame m #[(.ref a)] 2 = mkF m 0 #[.val (.ref a), .unset] [] := by first | (simp [entryFrame, mkF, argsToLocals, Value.category]; done) | rfl
theorem rm167 (hw : HW a0 Z) (a b : Addr) (kb : ClassId) (cs u0 u1 u2 u3 : Int32) (fm : Value) (h0 : Heap) (n0 : Nat) (Z0 : n0 ≤ h0.size) (O : Old Z n0 h0) (S : uC Z cs) (hcs : ¬ cs = 0) (E : Exa Z h0 a "java/lang/String") (F1 : Fld Z h0 a "java/lang/String" "value" "[B" (.ref b)) (F2 : Fld Z h0 a "java/lang/String" "coder" "B" (.int 1)) (Vb : Arv Z h0 b kb .byte (8 : Int32) [(.int (uL u0)), (.int (uH u0)), (.int (uL u1)), (.int (uH u1)), (.int (uL u2)), (.int (uH u2)), (.int (uL u3)), (.int (uH u3))] (.int 0)) (SA : uA Z) (SH : uS Z) (SL : uT Z) (SF : uF Z fm) (hfm : fm.category = 1) (r_u0 : C16 u0) (r_u1 : C16 u1) (r_u2 : C16 u2) (r_u3 : C16 u3) (m0 : 255 < u0) : OMet l Z [] (⟨"com/example/ref_search/refsearch/matcher/Probes", "offsetFromU0100", "(Ljava/lang/String;)I"⟩ : MethodName) prog_13_method_8_code 2 (some .int) R167 #[(.ref a)] h0 n0 (Q167 Z a b kb cs u0 u1 u2 u3 fm h0) := by
  refine OMet.of (own := "com/example/ref_search/refsearch/matcher/Probes") rfl (plainFor_of_name pn_4) (ef167 a) Z0 ?_
  intro p e s m below meth c T0 Y0 hnm
  refine Gl.iconst Y0 (v := (0 : Int32)) (by decide) dU_0 rfl ?_
  refine Gl.istoreN Y0 (L' := #[.val (.ref a), .val (.int 0)]) rfl dU_1 rfl ?_
  refine Gl.iloadN Y0 rfl dU_2 rfl ?_
  refine Gl.aloadN Y0 rfl rfl dU_3 rfl ?_
  refine Gl.callV Y0 (tw_31 hw) (tw_32 hw) (tw_34 hw) (tw_34 hw) (tw_33 hw) (tw_8 hw) (tw_35 hw) (by decide) E (rm162 l Z a0 hw a b kb cs u0 u1 u2 u3 h0 n0 Y0.sz O S (hcs) E F1 F2 Vb) (a := a) (argsL := []) (rest := [(.int 0)]) rfl rfl (lenOf pd_14 rfl) rfl (by decide) (nle rfl) (by decide) (by decide) dU_4 rfl (fun v4 T4 h4 Y4 q4 => ?_)
  obtain ⟨rfl, rfl⟩ := q4
  show Gl p e below _ (T4.setTop (mkF m 7 _ [(.int 4), (.int 0)]))
  refine Gl.icmpge Y4 dU_7 (by decide) rfl rfl (fun c7 => ?_) (fun c7 => ?_)
  · exact absurd c7 (by decide)
  refine Gl.aloadN Y4 rfl rfl dU_10 rfl ?_
  refine Gl.iloadN Y4 rfl dU_11 rfl ?_
  refine Gl.callV Y4 (tw_52 hw) (tw_53 hw) (tw_55 hw) (tw_55 hw) (tw_54 hw) (tw_8 hw) (tw_56 hw) (by decide) E (rm163 l Z a0 hw a b kb cs u0 u1 u2 u3 fm h0 n0 Y4.sz O S (hcs) E F1 F2 Vb SA SH SL SF (hfm) (r_u0) (r_u1) (r_u2) (r_u3)) (a := a) (argsL := [(.int 0)]) (rest := []) rfl rfl (lenOf pd_15 rfl) rfl (by decide) (nle rfl) (by decide) (by decide) dU_12 rfl (fun v12 T12 h12 Y12 q12 => ?_)
  obtain ⟨rfl, rfl⟩ := q12
  show Gl p e below _ (T12.setTop (mkF m 15 _ [(.int u0)]))
  refine Gl.sipush Y12 (v := (255 : Int32)) (by decide) dU_15 rfl ?_
  refine Gl.icmpgt Y12 dU_18 (by decide) rfl rfl (fun c18 => ?_) (fun c18 => ?_)
  rotate_left
  · exact absurd m0 c18
  refine Gl.iloadN Y12 rfl dU_27 rfl ?_
  refine Gl.aloadN Y12 rfl rfl dU_28 rfl ?_
  refine Gl.callV Y12 (tw_31 hw) (tw_32 hw) (tw_34 hw) (tw_34 hw) (tw_33 hw) (tw_8 hw) (tw_35 hw) (by decide) E (rm162 l Z a0 hw a b kb cs u0 u1 u2 u3 h0 n0 Y12.sz O S (hcs) E F1 F2 Vb) (a := a) (argsL := []) (rest := [(.int 0)]) rfl rfl (lenOf pd_14 rfl) rfl (by decide) (nle rfl) (by decide) (by decide) dU_29 rfl (fun v29 T29 h29 Y29 q29 => ?_)
  obtain ⟨rfl, rfl⟩ := q29
  show Gl p e below _ (T29.setTop (mkF m 32 _ [(.int 4), (.int 0)]))
  refine Gl.icmpge Y29 dU_32 (by decide) rfl rfl (fun c32 => ?_) (fun c32 => ?_)
  · exact absurd c32 (by decide)
  refine Gl.iloadN Y29 rfl dU_35 rfl ?_
  refine Gl.goto Y29 dU_36 (by decide) rfl ?_
  exact Gl.retI Y29 (by decide) (by decide)  dU_40 ⟨rfl, rfl⟩
def R168 : Room := { frames := 5, cells := 0, slots := 0, locals := 66 }
def Q168 (Z : State) (a b : Addr) (kb : ClassId) (cs u0 u1 u2 u3 : Int32) (fm : Value) (h0 : Heap) (v : Option Value) (h : Heap) : Prop := v = some (.int 1) ∧ h0 = h
theorem ef168 (a : Addr) (m : MethodId) : entryFrame m #[(.ref a)] 2 = mkF m 0 #[.val (.ref a), .unset] [] := by first | (simp [entryFrame, mkF, argsToLocals, Value.category]; done) | rfl
theorem rm168 (hw : HW a0 Z) (a b : Addr) (kb : ClassId) (cs u0 u1 u2 u3 : Int32) (fm : Value) (h0 : Heap) (n0 : Nat) (Z0 : n0 ≤ h0.size) (O : Old Z n0 h0) (S : uC Z cs) (hcs : ¬ cs = 0) (E : Exa Z h0 a "java/lang/String") (F1 : Fld Z h0 a "java/lang/String" "value" "[B" (.ref b)) (F2 : Fld Z h0 a "java/lang/String" "coder" "B" (.int 1)) (Vb : Arv Z h0 b kb .byte (8 : Int32) [(.int (uL u0)), (.int (uH u0)), (.int (uL u1)), (.int (uH u1)), (.int (uL u2)), (.int (uH u2)), (.int (uL u3)), (.int (uH u3))] (.int 0)) (SA : uA Z) (SH : uS Z) (SL : uT Z) (SF : uF Z fm) (hfm : fm.category = 1) (r_u0 : C16 u0) (r_u1 : C16 u1) (r_u2 : C16 u2) (r_u3 : C16 u3) (l0 : ¬ 255 < u0) (m1 : 255 < u1) : OMet l Z [] (⟨"com/example/ref_search/refsearch/matcher/Probes", "offsetFromU0100", "(Ljava/lang/String;)I"⟩ : MethodName) prog_13_method_8_code 2 (some .int) R168 #[(.ref a)] h0 n0 (Q168 Z a b kb cs u0 u1 u2 u3 fm h0) := by
  refine OMet.of (own := "com/example/ref_search/refsearch/matcher/Probes") rfl (plainFor_of_name pn_4) (ef168 a) Z0 ?_
  intro p e s m below meth c T0 Y0 hnm
  refine Gl.iconst Y0 (v := (0 : Int32)) (by decide) dU_0 rfl ?_
  refine Gl.istoreN Y0 (L' := #[.val (.ref a), .val (.int 0)]) rfl dU_1 rfl ?_
  refine Gl.iloadN Y0 rfl dU_2 rfl ?_
  refine Gl.aloadN Y0 rfl rfl dU_3 rfl ?_
  refine Gl.callV Y0 (tw_31 hw) (tw_32 hw) (tw_34 hw) (tw_34 hw) (tw_33 hw) (tw_8 hw) (tw_35 hw) (by decide) E (rm162 l Z a0 hw a b kb cs u0 u1 u2 u3 h0 n0 Y0.sz O S (hcs) E F1 F2 Vb) (a := a) (argsL := []) (rest := [(.int 0)]) rfl rfl (lenOf pd_14 rfl) rfl (by decide) (nle rfl) (by decide) (by decide) dU_4 rfl (fun v4 T4 h4 Y4 q4 => ?_)
  obtain ⟨rfl, rfl⟩ := q4
  show Gl p e below _ (T4.setTop (mkF m 7 _ [(.int 4), (.int 0)]))
  refine Gl.icmpge Y4 dU_7 (by decide) rfl rfl (fun c7 => ?_) (fun c7 => ?_)
  · exact absurd c7 (by decide)
  refine Gl.aloadN Y4 rfl rfl dU_10 rfl ?_
  refine Gl.iloadN Y4 rfl dU_11 rfl ?_
  refine Gl.callV Y4 (tw_52 hw) (tw_53 hw) (tw_55 hw) (tw_55 hw) (tw_54 hw) (tw_8 hw) (tw_56 hw) (by decide) E (rm163 l Z a0 hw a b kb cs u0 u1 u2 u3 fm h0 n0 Y4.sz O S (hcs) E F1 F2 Vb SA SH SL SF (hfm) (r_u0) (r_u1) (r_u2) (r_u3)) (a := a) (argsL := [(.int 0)]) (rest := []) rfl rfl (lenOf pd_15 rfl) rfl (by decide) (nle rfl) (by decide) (by decide) dU_12 rfl (fun v12 T12 h12 Y12 q12 => ?_)
  obtain ⟨rfl, rfl⟩ := q12
  show Gl p e below _ (T12.setTop (mkF m 15 _ [(.int u0)]))
  refine Gl.sipush Y12 (v := (255 : Int32)) (by decide) dU_15 rfl ?_
  refine Gl.icmpgt Y12 dU_18 (by decide) rfl rfl (fun c18 => ?_) (fun c18 => ?_)
  · exact absurd c18 l0
  refine Gl.iinc Y12 rfl (r := (1 : Int32)) (by decide) (L' := #[.val (.ref a), .val (.int 1)]) rfl dU_21 rfl ?_
  refine Gl.goto Y12 dU_24 (by decide) rfl ?_
  refine Gl.iloadN Y12 rfl dU_2 rfl ?_
  refine Gl.aloadN Y12 rfl rfl dU_3 rfl ?_
  refine Gl.callV Y12 (tw_31 hw) (tw_32 hw) (tw_34 hw) (tw_34 hw) (tw_33 hw) (tw_8 hw) (tw_35 hw) (by decide) E (rm162 l Z a0 hw a b kb cs u0 u1 u2 u3 h0 n0 Y12.sz O S (hcs) E F1 F2 Vb) (a := a) (argsL := []) (rest := [(.int 1)]) rfl rfl (lenOf pd_14 rfl) rfl (by decide) (nle rfl) (by decide) (by decide) dU_4 rfl (fun v4_2 T4_2 h4_2 Y4_2 q4_2 => ?_)
  obtain ⟨rfl, rfl⟩ := q4_2
  show Gl p e below _ (T4_2.setTop (mkF m 7 _ [(.int 4), (.int 1)]))
  refine Gl.icmpge Y4_2 dU_7 (by decide) rfl rfl (fun c7_2 => ?_) (fun c7_2 => ?_)
  · exact absurd c7_2 (by decide)
  refine Gl.aloadN Y4_2 rfl rfl dU_10 rfl ?_
  refine Gl.iloadN Y4_2 rfl dU_11 rfl ?_
  refine Gl.callV Y4_2 (tw_52 hw) (tw_53 hw) (tw_55 hw) (tw_55 hw) (tw_54 hw) (tw_8 hw) (tw_56 hw) (by decide) E (rm164 l Z a0 hw a b kb cs u0 u1 u2 u3 fm h0 n0 Y4_2.sz O S (hcs) E F1 F2 Vb SA SH SL SF (hfm) (r_u0) (r_u1) (r_u2) (r_u3)) (a := a) (argsL := [(.int 1)]) (rest := []) rfl rfl (lenOf pd_15 rfl) rfl (by decide) (nle rfl) (by decide) (by decide) dU_12 rfl (fun v12_2 T12_2 h12_2 Y12_2 q12_2 => ?_)
  obtain ⟨rfl, rfl⟩ := q12_2
  show Gl p e below _ (T12_2.setTop (mkF m 15 _ [(.int u1)]))
  refine Gl.sipush Y12_2 (v := (255 : Int32)) (by decide) dU_15 rfl ?_
  refine Gl.icmpgt Y12_2 dU_18 (by decide) rfl rfl (fun c18_2 => ?_) (fun c18_2 => ?_)
  rotate_left
  · exact absurd m1 c18_2
  refine Gl.iloadN Y12_2 rfl dU_27 rfl ?_
  refine Gl.aloadN Y12_2 rfl rfl dU_28 rfl ?_
  refine Gl.callV Y12_2 (tw_31 hw) (tw_32 hw) (tw_34 hw) (tw_34 hw) (tw_33 hw) (tw_8 hw) (tw_35 hw) (by decide) E (rm162 l Z a0 hw a b kb cs u0 u1 u2 u3 h0 n0 Y12_2.sz O S (hcs) E F1 F2 Vb) (a := a) (argsL := []) (rest := [(.int 1)]) rfl rfl (lenOf pd_14 rfl) rfl (by decide) (nle rfl) (by decide) (by decide) dU_29 rfl (fun v29 T29 h29 Y29 q29 => ?_)
  obtain ⟨rfl, rfl⟩ := q29
  show Gl p e below _ (T29.setTop (mkF m 32 _ [(.int 4), (.int 1)]))
  refine Gl.icmpge Y29 dU_32 (by decide) rfl rfl (fun c32 => ?_) (fun c32 => ?_)
  · exact absurd c32 (by decide)
  refine Gl.iloadN Y29 rfl dU_35 rfl ?_
  refine Gl.goto Y29 dU_36 (by decide) rfl ?_
  exact Gl.retI Y29 (by decide) (by decide)  dU_40 ⟨rfl, rfl⟩
def R169 : Room := { frames := 5, cells := 0, slots := 0, locals := 66 }
def Q169 (Z : State) (a b : Addr) (kb : ClassId) (cs u0 u1 u2 u3 : Int32) (fm : Value) (h0 : Heap) (v : Option Value) (h : Heap) : Prop := v = some (.int 2) ∧ h0 = h
theorem ef169 (a : Addr) (m : MethodId) : entryFrame m #[(.ref a)] 2 = mkF m 0 #[.val (.ref a), .unset] [] := by first | (simp [entryFrame, mkF, argsToLocals, Value.category]; done) | rfl
theorem rm169 (hw : HW a0 Z) (a b : Addr) (kb : ClassId) (cs u0 u1 u2 u3 : Int32) (fm : Value) (h0 : Heap) (n0 : Nat) (Z0 : n0 ≤ h0.size) (O : Old Z n0 h0) (S : uC Z cs) (hcs : ¬ cs = 0) (E : Exa Z h0 a "java/lang/String") (F1 : Fld Z h0 a "java/lang/String" "value" "[B" (.ref b)) (F2 : Fld Z h0 a "java/lang/String" "coder" "B" (.int 1)) (Vb : Arv Z h0 b kb .byte (8 : Int32) [(.int (uL u0)), (.int (uH u0)), (.int (uL u1)), (.int (uH u1)), (.int (uL u2)), (.int (uH u2)), (.int (uL u3)), (.int (uH u3))] (.int 0)) (SA : uA Z) (SH : uS Z) (SL : uT Z) (SF : uF Z fm) (hfm : fm.category = 1) (r_u0 : C16 u0) (r_u1 : C16 u1) (r_u2 : C16 u2) (r_u3 : C16 u3) (l0 : ¬ 255 < u0) (l1 : ¬ 255 < u1) (m2 : 255 < u2) : OMet l Z [] (⟨"com/example/ref_search/refsearch/matcher/Probes", "offsetFromU0100", "(Ljava/lang/String;)I"⟩ : MethodName) prog_13_method_8_code 2 (some .int) R169 #[(.ref a)] h0 n0 (Q169 Z a b kb cs u0 u1 u2 u3 fm h0) := by
  refine OMet.of (own := "com/example/ref_search/refsearch/matcher/Probes") rfl (plainFor_of_name pn_4) (ef169 a) Z0 ?_
  intro p e s m below meth c T0 Y0 hnm
  refine Gl.iconst Y0 (v := (0 : Int32)) (by decide) dU_0 rfl ?_
  refine Gl.istoreN Y0 (L' := #[.val (.ref a), .val (.int 0)]) rfl dU_1 rfl ?_
  refine Gl.iloadN Y0 rfl dU_2 rfl ?_
  refine Gl.aloadN Y0 rfl rfl dU_3 rfl ?_
  refine Gl.callV Y0 (tw_31 hw) (tw_32 hw) (tw_34 hw) (tw_34 hw) (tw_33 hw) (tw_8 hw) (tw_35 hw) (by decide) E (rm162 l Z a0 hw a b kb cs u0 u1 u2 u3 h0 n0 Y0.sz O S (hcs) E F1 F2 Vb) (a := a) (argsL := []) (rest := [(.int 0)]) rfl rfl (lenOf pd_14 rfl) rfl (by decide) (nle rfl) (by decide) (by decide) dU_4 rfl (fun v4 T4 h4 Y4 q4 => ?_)
  obtain ⟨rfl, rfl⟩ := q4
  show Gl p e below _ (T4.setTop (mkF m 7 _ [(.int 4), (.int 0)]))
  refine Gl.icmpge Y4 dU_7 (by decide) rfl rfl (fun c7 => ?_) (fun c7 => ?_)
  · exact absurd c7 (by decide)
  refine Gl.aloadN Y4 rfl rfl dU_10 rfl ?_
  refine Gl.iloadN Y4 rfl dU_11 rfl ?_
  refine Gl.callV Y4 (tw_52 hw) (tw_53 hw) (tw_55 hw) (tw_55 hw) (tw_54 hw) (tw_8 hw) (tw_56 hw) (by decide) E (rm163 l Z a0 hw a b kb cs u0 u1 u2 u3 fm h0 n0 Y4.sz O S (hcs) E F1 F2 Vb SA SH SL SF (hfm) (r_u0) (r_u1) (r_u2) (r_u3)) (a := a) (argsL := [(.int 0)]) (rest := []) rfl rfl (lenOf pd_15 rfl) rfl (by decide) (nle rfl) (by decide) (by decide) dU_12 rfl (fun v12 T12 h12 Y12 q12 => ?_)
  obtain ⟨rfl, rfl⟩ := q12
  show Gl p e below _ (T12.setTop (mkF m 15 _ [(.int u0)]))
  refine Gl.sipush Y12 (v := (255 : Int32)) (by decide) dU_15 rfl ?_
  refine Gl.icmpgt Y12 dU_18 (by decide) rfl rfl (fun c18 => ?_) (fun c18 => ?_)
  · exact absurd c18 l0
  refine Gl.iinc Y12 rfl (r := (1 : Int32)) (by decide) (L' := #[.val (.ref a), .val (.int 1)]) rfl dU_21 rfl ?_
  refine Gl.goto Y12 dU_24 (by decide) rfl ?_
  refine Gl.iloadN Y12 rfl dU_2 rfl ?_
  refine Gl.aloadN Y12 rfl rfl dU_3 rfl ?_
  refine Gl.callV Y12 (tw_31 hw) (tw_32 hw) (tw_34 hw) (tw_34 hw) (tw_33 hw) (tw_8 hw) (tw_35 hw) (by decide) E (rm162 l Z a0 hw a b kb cs u0 u1 u2 u3 h0 n0 Y12.sz O S (hcs) E F1 F2 Vb) (a := a) (argsL := []) (rest := [(.int 1)]) rfl rfl (lenOf pd_14 rfl) rfl (by decide) (nle rfl) (by decide) (by decide) dU_4 rfl (fun v4_2 T4_2 h4_2 Y4_2 q4_2 => ?_)
  obtain ⟨rfl, rfl⟩ := q4_2
  show Gl p e below _ (T4_2.setTop (mkF m 7 _ [(.int 4), (.int 1)]))
  refine Gl.icmpge Y4_2 dU_7 (by decide) rfl rfl (fun c7_2 => ?_) (fun c7_2 => ?_)
  · exact absurd c7_2 (by decide)
  refine Gl.aloadN Y4_2 rfl rfl dU_10 rfl ?_
  refine Gl.iloadN Y4_2 rfl dU_11 rfl ?_
  refine Gl.callV Y4_2 (tw_52 hw) (tw_53 hw) (tw_55 hw) (tw_55 hw) (tw_54 hw) (tw_8 hw) (tw_56 hw) (by decide) E (rm164 l Z a0 hw a b kb cs u0 u1 u2 u3 fm h0 n0 Y4_2.sz O S (hcs) E F1 F2 Vb SA SH SL SF (hfm) (r_u0) (r_u1) (r_u2) (r_u3)) (a := a) (argsL := [(.int 1)]) (rest := []) rfl rfl (lenOf pd_15 rfl) rfl (by decide) (nle rfl) (by decide) (by decide) dU_12 rfl (fun v12_2 T12_2 h12_2 Y12_2 q12_2 => ?_)
  obtain ⟨rfl, rfl⟩ := q12_2
  show Gl p e below _ (T12_2.setTop (mkF m 15 _ [(.int u1)]))
  refine Gl.sipush Y12_2 (v := (255 : Int32)) (by decide) dU_15 rfl ?_
  refine Gl.icmpgt Y12_2 dU_18 (by decide) rfl rfl (fun c18_2 => ?_) (fun c18_2 => ?_)
  · exact absurd c18_2 l1
  refine Gl.iinc Y12_2 rfl (r := (2 : Int32)) (by decide) (L' := #[.val (.ref a), .val (.int 2)]) rfl dU_21 rfl ?_
  refine Gl.goto Y12_2 dU_24 (by decide) rfl ?_
  refine Gl.iloadN Y12_2 rfl dU_2 rfl ?_
  refine Gl.aloadN Y12_2 rfl rfl dU_3 rfl ?_
  refine Gl.callV Y12_2 (tw_31 hw) (tw_32 hw) (tw_34 hw) (tw_34 hw) (tw_33 hw) (tw_8 hw) (tw_35 hw) (by decide) E (rm162 l Z a0 hw a b kb cs u0 u1 u2 u3 h0 n0 Y12_2.sz O S (hcs) E F1 F2 Vb) (a := a) (argsL := []) (rest := [(.int 2)]) rfl rfl (lenOf pd_14 rfl) rfl (by decide) (nle rfl) (by decide) (by decide) dU_4 rfl (fun v4_3 T4_3 h4_3 Y4_3 q4_3 => ?_)
  obtain ⟨rfl, rfl⟩ := q4_3
  show Gl p e below _ (T4_3.setTop (mkF m 7 _ [(.int 4), (.int 2)]))
  refine Gl.icmpge Y4_3 dU_7 (by decide) rfl rfl (fun c7_3 => ?_) (fun c7_3 => ?_)
  · exact absurd c7_3 (by decide)
  refine Gl.aloadN Y4_3 rfl rfl dU_10 rfl ?_
  refine Gl.iloadN Y4_3 rfl dU_11 rfl ?_
  refine Gl.callV Y4_3 (tw_52 hw) (tw_53 hw) (tw_55 hw) (tw_55 hw) (tw_54 hw) (tw_8 hw) (tw_56 hw) (by decide) E (rm165 l Z a0 hw a b kb cs u0 u1 u2 u3 fm h0 n0 Y4_3.sz O S (hcs) E F1 F2 Vb SA SH SL SF (hfm) (r_u0) (r_u1) (r_u2) (r_u3)) (a := a) (argsL := [(.int 2)]) (rest := []) rfl rfl (lenOf pd_15 rfl) rfl (by decide) (nle rfl) (by decide) (by decide) dU_12 rfl (fun v12_3 T12_3 h12_3 Y12_3 q12_3 => ?_)
  obtain ⟨rfl, rfl⟩ := q12_3
  show Gl p e below _ (T12_3.setTop (mkF m 15 _ [(.int u2)]))
  refine Gl.sipush Y12_3 (v := (255 : Int32)) (by decide) dU_15 rfl ?_
  refine Gl.icmpgt Y12_3 dU_18 (by decide) rfl rfl (fun c18_3 => ?_) (fun c18_3 => ?_)
  rotate_left
  · exact absurd m2 c18_3
  refine Gl.iloadN Y12_3 rfl dU_27 rfl ?_
  refine Gl.aloadN Y12_3 rfl rfl dU_28 rfl ?_
  refine Gl.callV Y12_3 (tw_31 hw) (tw_32 hw) (tw_34 hw) (tw_34 hw) (tw_33 hw) (tw_8 hw) (tw_35 hw) (by decide) E (rm162 l Z a0 hw a b kb cs u0 u1 u2 u3 h0 n0 Y12_3.sz O S (hcs) E F1 F2 Vb) (a := a) (argsL := []) (rest := [(.int 2)]) rfl rfl (lenOf pd_14 rfl) rfl (by decide) (nle rfl) (by decide) (by decide) dU_29 rfl (fun v29 T29 h29 Y29 q29 => ?_)
  obtain ⟨rfl, rfl⟩ := q29
  show Gl p e below _ (T29.setTop (mkF m 32 _ [(.int 4), (.int 2)]))
  refine Gl.icmpge Y29 dU_32 (by decide) rfl rfl (fun c32 => ?_) (fun c32 => ?_)
  · exact absurd c32 (by decide)
  refine Gl.iloadN Y29 rfl dU_35 rfl ?_
  refine Gl.goto Y29 dU_36 (by decide) rfl ?_
  exact Gl.retI Y29 (by decide) (by decide)  dU_40 ⟨rfl, rfl⟩
def R170 : Room := { frames := 5, cells := 0, slots := 0, locals := 66 }
def Q170 (Z : State) (a b : Addr) (kb : ClassId) (cs u0 u1 u2 u3 : Int32) (fm : Value) (h0 : Heap) (v : Option Value) (h : Heap) : Prop := v = some (.int 3) ∧ h0 = h
theorem ef170 (a : Addr) (m : MethodId) : entryFrame m #[(.ref a)] 2 = mkF m 0 #[.val (.ref a), .unset] [] := by first | (simp [entryFrame, mkF, argsToLocals, Value.category]; done) | rfl
theorem rm170 (hw : HW a0 Z) (a b : Addr) (kb : ClassId) (cs u0 u1 u2 u3 : Int32) (fm : Value) (h0 : Heap) (n0 : Nat) (Z0 : n0 ≤ h0.size) (O : Old Z n0 h0) (S : uC Z cs) (hcs : ¬ cs = 0) (E : Exa Z h0 a "java/lang/String") (F1 : Fld Z h0 a "java/lang/String" "value" "[B" (.ref b)) (F2 : Fld Z h0 a "java/lang/String" "coder" "B" (.int 1)) (Vb : Arv Z h0 b kb .byte (8 : Int32) [(.int (uL u0)), (.int (uH u0)), (.int (uL u1)), (.int (uH u1)), (.int (uL u2)), (.int (uH u2)), (.int (uL u3)), (.int (uH u3))] (.int 0)) (SA : uA Z) (SH : uS Z) (SL : uT Z) (SF : uF Z fm) (hfm : fm.category = 1) (r_u0 : C16 u0) (r_u1 : C16 u1) (r_u2 : C16 u2) (r_u3 : C16 u3) (l0 : ¬ 255 < u0) (l1 : ¬ 255 < u1) (l2 : ¬ 255 < u2) (m3 : 255 < u3) : OMet l Z [] (⟨"com/example/ref_search/refsearch/matcher/Probes", "offsetFromU0100", "(Ljava/lang/String;)I"⟩ : MethodName) prog_13_method_8_code 2 (some .int) R170 #[(.ref a)] h0 n0 (Q170 Z a b kb cs u0 u1 u2 u3 fm h0) := by
  refine OMet.of (own := "com/example/ref_search/refsearch/matcher/Probes") rfl (plainFor_of_name pn_4) (ef170 a) Z0 ?_
  intro p e s m below meth c T0 Y0 hnm
  refine Gl.iconst Y0 (v := (0 : Int32)) (by decide) dU_0 rfl ?_
  refine Gl.istoreN Y0 (L' := #[.val (.ref a), .val (.int 0)]) rfl dU_1 rfl ?_
  refine Gl.iloadN Y0 rfl dU_2 rfl ?_
  refine Gl.aloadN Y0 rfl rfl dU_3 rfl ?_
  refine Gl.callV Y0 (tw_31 hw) (tw_32 hw) (tw_34 hw) (tw_34 hw) (tw_33 hw) (tw_8 hw) (tw_35 hw) (by decide) E (rm162 l Z a0 hw a b kb cs u0 u1 u2 u3 h0 n0 Y0.sz O S (hcs) E F1 F2 Vb) (a := a) (argsL := []) (rest := [(.int 0)]) rfl rfl (lenOf pd_14 rfl) rfl (by decide) (nle rfl) (by decide) (by decide) dU_4 rfl (fun v4 T4 h4 Y4 q4 => ?_)
  obtain ⟨rfl, rfl⟩ := q4
  show Gl p e below _ (T4.setTop (mkF m 7 _ [(.int 4), (.int 0)]))
  refine Gl.icmpge Y4 dU_7 (by decide) rfl rfl (fun c7 => ?_) (fun c7 => ?_)
  · exact absurd c7 (by decide)
  refine Gl.aloadN Y4 rfl rfl dU_10 rfl ?_
  refine Gl.iloadN Y4 rfl dU_11 rfl ?_
  refine Gl.callV Y4 (tw_52 hw) (tw_53 hw) (tw_55 hw) (tw_55 hw) (tw_54 hw) (tw_8 hw) (tw_56 hw) (by decide) E (rm163 l Z a0 hw a b kb cs u0 u1 u2 u3 fm h0 n0 Y4.sz O S (hcs) E F1 F2 Vb SA SH SL SF (hfm) (r_u0) (r_u1) (r_u2) (r_u3)) (a := a) (argsL := [(.int 0)]) (rest := []) rfl rfl (lenOf pd_15 rfl) rfl (by decide) (nle rfl) (by decide) (by decide) dU_12 rfl (fun v12 T12 h12 Y12 q12 => ?_)
  obtain ⟨rfl, rfl⟩ := q12
  show Gl p e below _ (T12.setTop (mkF m 15 _ [(.int u0)]))
  refine Gl.sipush Y12 (v := (255 : Int32)) (by decide) dU_15 rfl ?_
  refine Gl.icmpgt Y12 dU_18 (by decide) rfl rfl (fun c18 => ?_) (fun c18 => ?_)
  · exact absurd c18 l0
  refine Gl.iinc Y12 rfl (r := (1 : Int32)) (by decide) (L' := #[.val (.ref a), .val (.int 1)]) rfl dU_21 rfl ?_
  refine Gl.goto Y12 dU_24 (by decide) rfl ?_
  refine Gl.iloadN Y12 rfl dU_2 rfl ?_
  refine Gl.aloadN Y12 rfl rfl dU_3 rfl ?_
  refine Gl.callV Y12 (tw_31 hw) (tw_32 hw) (tw_34 hw) (tw_34 hw) (tw_33 hw) (tw_8 hw) (tw_35 hw) (by decide) E (rm162 l Z a0 hw a b kb cs u0 u1 u2 u3 h0 n0 Y12.sz O S (hcs) E F1 F2 Vb) (a := a) (argsL := []) (rest := [(.int 1)]) rfl rfl (lenOf pd_14 rfl) rfl (by decide) (nle rfl) (by decide) (by decide) dU_4 rfl (fun v4_2 T4_2 h4_2 Y4_2 q4_2 => ?_)
  obtain ⟨rfl, rfl⟩ := q4_2
  show Gl p e below _ (T4_2.setTop (mkF m 7 _ [(.int 4), (.int 1)]))
  refine Gl.icmpge Y4_2 dU_7 (by decide) rfl rfl (fun c7_2 => ?_) (fun c7_2 => ?_)
  · exact absurd c7_2 (by decide)
  refine Gl.aloadN Y4_2 rfl rfl dU_10 rfl ?_
  refine Gl.iloadN Y4_2 rfl dU_11 rfl ?_
  refine Gl.callV Y4_2 (tw_52 hw) (tw_53 hw) (tw_55 hw) (tw_55 hw) (tw_54 hw) (tw_8 hw) (tw_56 hw) (by decide) E (rm164 l Z a0 hw a b kb cs u0 u1 u2 u3 fm h0 n0 Y4_2.sz O S (hcs) E F1 F2 Vb SA SH SL SF (hfm) (r_u0) (r_u1) (r_u2) (r_u3)) (a := a) (argsL := [(.int 1)]) (rest := []) rfl rfl (lenOf pd_15 rfl) rfl (by decide) (nle rfl) (by decide) (by decide) dU_12 rfl (fun v12_2 T12_2 h12_2 Y12_2 q12_2 => ?_)
  obtain ⟨rfl, rfl⟩ := q12_2
  show Gl p e below _ (T12_2.setTop (mkF m 15 _ [(.int u1)]))
  refine Gl.sipush Y12_2 (v := (255 : Int32)) (by decide) dU_15 rfl ?_
  refine Gl.icmpgt Y12_2 dU_18 (by decide) rfl rfl (fun c18_2 => ?_) (fun c18_2 => ?_)
  · exact absurd c18_2 l1
  refine Gl.iinc Y12_2 rfl (r := (2 : Int32)) (by decide) (L' := #[.val (.ref a), .val (.int 2)]) rfl dU_21 rfl ?_
  refine Gl.goto Y12_2 dU_24 (by decide) rfl ?_
  refine Gl.iloadN Y12_2 rfl dU_2 rfl ?_
  refine Gl.aloadN Y12_2 rfl rfl dU_3 rfl ?_
  refine Gl.callV Y12_2 (tw_31 hw) (tw_32 hw) (tw_34 hw) (tw_34 hw) (tw_33 hw) (tw_8 hw) (tw_35 hw) (by decide) E (rm162 l Z a0 hw a b kb cs u0 u1 u2 u3 h0 n0 Y12_2.sz O S (hcs) E F1 F2 Vb) (a := a) (argsL := []) (rest := [(.int 2)]) rfl rfl (lenOf pd_14 rfl) rfl (by decide) (nle rfl) (by decide) (by decide) dU_4 rfl (fun v4_3 T4_3 h4_3 Y4_3 q4_3 => ?_)
  obtain ⟨rfl, rfl⟩ := q4_3
  show Gl p e below _ (T4_3.setTop (mkF m 7 _ [(.int 4), (.int 2)]))
  refine Gl.icmpge Y4_3 dU_7 (by decide) rfl rfl (fun c7_3 => ?_) (fun c7_3 => ?_)
  · exact absurd c7_3 (by decide)
  refine Gl.aloadN Y4_3 rfl rfl dU_10 rfl ?_
  refine Gl.iloadN Y4_3 rfl dU_11 rfl ?_
  refine Gl.callV Y4_3 (tw_52 hw) (tw_53 hw) (tw_55 hw) (tw_55 hw) (tw_54 hw) (tw_8 hw) (tw_56 hw) (by decide) E (rm165 l Z a0 hw a b kb cs u0 u1 u2 u3 fm h0 n0 Y4_3.sz O S (hcs) E F1 F2 Vb SA SH SL SF (hfm) (r_u0) (r_u1) (r_u2) (r_u3)) (a := a) (argsL := [(.int 2)]) (rest := []) rfl rfl (lenOf pd_15 rfl) rfl (by decide) (nle rfl) (by decide) (by decide) dU_12 rfl (fun v12_3 T12_3 h12_3 Y12_3 q12_3 => ?_)
  obtain ⟨rfl, rfl⟩ := q12_3
  show Gl p e below _ (T12_3.setTop (mkF m 15 _ [(.int u2)]))
  refine Gl.sipush Y12_3 (v := (255 : Int32)) (by decide) dU_15 rfl ?_
  refine Gl.icmpgt Y12_3 dU_18 (by decide) rfl rfl (fun c18_3 => ?_) (fun c18_3 => ?_)
  · exact absurd c18_3 l2
  refine Gl.iinc Y12_3 rfl (r := (3 : Int32)) (by decide) (L' := #[.val (.ref a), .val (.int 3)]) rfl dU_21 rfl ?_
  refine Gl.goto Y12_3 dU_24 (by decide) rfl ?_
  refine Gl.iloadN Y12_3 rfl dU_2 rfl ?_
  refine Gl.aloadN Y12_3 rfl rfl dU_3 rfl ?_
  refine Gl.callV Y12_3 (tw_31 hw) (tw_32 hw) (tw_34 hw) (tw_34 hw) (tw_33 hw) (tw_8 hw) (tw_35 hw) (by decide) E (rm162 l Z a0 hw a b kb cs u0 u1 u2 u3 h0 n0 Y12_3.sz O S (hcs) E F1 F2 Vb) (a := a) (argsL := []) (rest := [(.int 3)]) rfl rfl (lenOf pd_14 rfl) rfl (by decide) (nle rfl) (by decide) (by decide) dU_4 rfl (fun v4_4 T4_4 h4_4 Y4_4 q4_4 => ?_)
  obtain ⟨rfl, rfl⟩ := q4_4
  show Gl p e below _ (T4_4.setTop (mkF m 7 _ [(.int 4), (.int 3)]))
  refine Gl.icmpge Y4_4 dU_7 (by decide) rfl rfl (fun c7_4 => ?_) (fun c7_4 => ?_)
  · exact absurd c7_4 (by decide)
  refine Gl.aloadN Y4_4 rfl rfl dU_10 rfl ?_
  refine Gl.iloadN Y4_4 rfl dU_11 rfl ?_
  refine Gl.callV Y4_4 (tw_52 hw) (tw_53 hw) (tw_55 hw) (tw_55 hw) (tw_54 hw) (tw_8 hw) (tw_56 hw) (by decide) E (rm166 l Z a0 hw a b kb cs u0 u1 u2 u3 fm h0 n0 Y4_4.sz O S (hcs) E F1 F2 Vb SA SH SL SF (hfm) (r_u0) (r_u1) (r_u2) (r_u3)) (a := a) (argsL := [(.int 3)]) (rest := []) rfl rfl (lenOf pd_15 rfl) rfl (by decide) (nle rfl) (by decide) (by decide) dU_12 rfl (fun v12_4 T12_4 h12_4 Y12_4 q12_4 => ?_)
  obtain ⟨rfl, rfl⟩ := q12_4
  show Gl p e below _ (T12_4.setTop (mkF m 15 _ [(.int u3)]))
  refine Gl.sipush Y12_4 (v := (255 : Int32)) (by decide) dU_15 rfl ?_
  refine Gl.icmpgt Y12_4 dU_18 (by decide) rfl rfl (fun c18_4 => ?_) (fun c18_4 => ?_)
  rotate_left
  · exact absurd m3 c18_4
  refine Gl.iloadN Y12_4 rfl dU_27 rfl ?_
  refine Gl.aloadN Y12_4 rfl rfl dU_28 rfl ?_
  refine Gl.callV Y12_4 (tw_31 hw) (tw_32 hw) (tw_34 hw) (tw_34 hw) (tw_33 hw) (tw_8 hw) (tw_35 hw) (by decide) E (rm162 l Z a0 hw a b kb cs u0 u1 u2 u3 h0 n0 Y12_4.sz O S (hcs) E F1 F2 Vb) (a := a) (argsL := []) (rest := [(.int 3)]) rfl rfl (lenOf pd_14 rfl) rfl (by decide) (nle rfl) (by decide) (by decide) dU_29 rfl (fun v29 T29 h29 Y29 q29 => ?_)
  obtain ⟨rfl, rfl⟩ := q29
  show Gl p e below _ (T29.setTop (mkF m 32 _ [(.int 4), (.int 3)]))
  refine Gl.icmpge Y29 dU_32 (by decide) rfl rfl (fun c32 => ?_) (fun c32 => ?_)
  · exact absurd c32 (by decide)
  refine Gl.iloadN Y29 rfl dU_35 rfl ?_
  refine Gl.goto Y29 dU_36 (by decide) rfl ?_
  exact Gl.retI Y29 (by decide) (by decide)  dU_40 ⟨rfl, rfl⟩
def R171 : Room := { frames := 4, cells := 0, slots := 0, locals := 53 }
def Q171 (Z : State) (a b : Addr) (kb : ClassId) (cs u0 u1 u2 u3 : Int32) (fm : Value) (h0 : Heap) (v : Option Value) (h : Heap) : Prop := v = some (.int (-1)) ∧ h0 = h
theorem ef171 (a : Addr) (m : MethodId) : entryFrame m #[(.ref a)] 2 = mkF m 0 #[.val (.ref a), .unset] [] := by first | (simp [entryFrame, mkF, argsToLocals, Value.category]; done) | rfl
theorem rm171 (hw : HW a0 Z) (a b : Addr) (kb : ClassId) (cs u0 u1 u2 u3 : Int32) (fm : Value) (h0 : Heap) (n0 : Nat) (Z0 : n0 ≤ h0.size) (O : Old Z n0 h0) (S : uC Z cs) (hcs : ¬ cs = 0) (E : Exa Z h0 a "java/lang/String") (F1 : Fld Z h0 a "java/lang/String" "value" "[B" (.ref b)) (F2 : Fld Z h0 a "java/lang/String" "coder" "B" (.int 0)) (Vb : Arv Z h0 b kb .byte (4 : Int32) [(.int (bL u0)), (.int (bL u1)), (.int (bL u2)), (.int (bL u3))] (.int 0)) (SF : uF Z fm) (hfm : fm.category = 1) (r_u0 : C16 u0) (r_u1 : C16 u1) (r_u2 : C16 u2) (r_u3 : C16 u3) (l0 : ¬ 255 < u0) (l1 : ¬ 255 < u1) (l2 : ¬ 255 < u2) (l3 : ¬ 255 < u3) : OMet l Z [] (⟨"com/example/ref_search/refsearch/matcher/Probes", "offsetFromU0100", "(Ljava/lang/String;)I"⟩ : MethodName) prog_13_method_8_code 2 (some .int) R171 #[(.ref a)] h0 n0 (Q171 Z a b kb cs u0 u1 u2 u3 fm h0) := by
  refine OMet.of (own := "com/example/ref_search/refsearch/matcher/Probes") rfl (plainFor_of_name pn_4) (ef171 a) Z0 ?_
  intro p e s m below meth c T0 Y0 hnm
  refine Gl.iconst Y0 (v := (0 : Int32)) (by decide) dU_0 rfl ?_
  refine Gl.istoreN Y0 (L' := #[.val (.ref a), .val (.int 0)]) rfl dU_1 rfl ?_
  refine Gl.iloadN Y0 rfl dU_2 rfl ?_
  refine Gl.aloadN Y0 rfl rfl dU_3 rfl ?_
  refine Gl.callV Y0 (tw_31 hw) (tw_32 hw) (tw_34 hw) (tw_34 hw) (tw_33 hw) (tw_8 hw) (tw_35 hw) (by decide) E (rm157 l Z a0 hw a b kb cs u0 u1 u2 u3 h0 n0 Y0.sz O S (hcs) E F1 F2 Vb) (a := a) (argsL := []) (rest := [(.int 0)]) rfl rfl (lenOf pd_14 rfl) rfl (by decide) (nle rfl) (by decide) (by decide) dU_4 rfl (fun v4 T4 h4 Y4 q4 => ?_)
  obtain ⟨rfl, rfl⟩ := q4
  show Gl p e below _ (T4.setTop (mkF m 7 _ [(.int 4), (.int 0)]))
  refine Gl.icmpge Y4 dU_7 (by decide) rfl rfl (fun c7 => ?_) (fun c7 => ?_)
  · exact absurd c7 (by decide)
  refine Gl.aloadN Y4 rfl rfl dU_10 rfl ?_
  refine Gl.iloadN Y4 rfl dU_11 rfl ?_
  refine Gl.callV Y4 (tw_52 hw) (tw_53 hw) (tw_55 hw) (tw_55 hw) (tw_54 hw) (tw_8 hw) (tw_56 hw) (by decide) E (rm158 l Z a0 hw a b kb cs u0 u1 u2 u3 fm h0 n0 Y4.sz O S (hcs) E F1 F2 Vb SF (hfm) (r_u0) (r_u1) (r_u2) (r_u3) (by first | assumption | decide | omega | (simp; done))) (a := a) (argsL := [(.int 0)]) (rest := []) rfl rfl (lenOf pd_15 rfl) rfl (by decide) (nle rfl) (by decide) (by decide) dU_12 rfl (fun v12 T12 h12 Y12 q12 => ?_)
  obtain ⟨rfl, rfl⟩ := q12
  show Gl p e below _ (T12.setTop (mkF m 15 _ [(.int u0)]))
  refine Gl.sipush Y12 (v := (255 : Int32)) (by decide) dU_15 rfl ?_
  refine Gl.icmpgt Y12 dU_18 (by decide) rfl rfl (fun c18 => ?_) (fun c18 => ?_)
  · exact absurd c18 l0
  refine Gl.iinc Y12 rfl (r := (1 : Int32)) (by decide) (L' := #[.val (.ref a), .val (.int 1)]) rfl dU_21 rfl ?_
  refine Gl.goto Y12 dU_24 (by decide) rfl ?_
  refine Gl.iloadN Y12 rfl dU_2 rfl ?_
  refine Gl.aloadN Y12 rfl rfl dU_3 rfl ?_
  refine Gl.callV Y12 (tw_31 hw) (tw_32 hw) (tw_34 hw) (tw_34 hw) (tw_33 hw) (tw_8 hw) (tw_35 hw) (by decide) E (rm157 l Z a0 hw a b kb cs u0 u1 u2 u3 h0 n0 Y12.sz O S (hcs) E F1 F2 Vb) (a := a) (argsL := []) (rest := [(.int 1)]) rfl rfl (lenOf pd_14 rfl) rfl (by decide) (nle rfl) (by decide) (by decide) dU_4 rfl (fun v4_2 T4_2 h4_2 Y4_2 q4_2 => ?_)
  obtain ⟨rfl, rfl⟩ := q4_2
  show Gl p e below _ (T4_2.setTop (mkF m 7 _ [(.int 4), (.int 1)]))
  refine Gl.icmpge Y4_2 dU_7 (by decide) rfl rfl (fun c7_2 => ?_) (fun c7_2 => ?_)
  · exact absurd c7_2 (by decide)
  refine Gl.aloadN Y4_2 rfl rfl dU_10 rfl ?_
  refine Gl.iloadN Y4_2 rfl dU_11 rfl ?_
  refine Gl.callV Y4_2 (tw_52 hw) (tw_53 hw) (tw_55 hw) (tw_55 hw) (tw_54 hw) (tw_8 hw) (tw_56 hw) (by decide) E (rm159 l Z a0 hw a b kb cs u0 u1 u2 u3 fm h0 n0 Y4_2.sz O S (hcs) E F1 F2 Vb SF (hfm) (r_u0) (r_u1) (r_u2) (r_u3) (by first | assumption | decide | omega | (simp; done))) (a := a) (argsL := [(.int 1)]) (rest := []) rfl rfl (lenOf pd_15 rfl) rfl (by decide) (nle rfl) (by decide) (by decide) dU_12 rfl (fun v12_2 T12_2 h12_2 Y12_2 q12_2 => ?_)
  obtain ⟨rfl, rfl⟩ := q12_2
  show Gl p e below _ (T12_2.setTop (mkF m 15 _ [(.int u1)]))
  refine Gl.sipush Y12_2 (v := (255 : Int32)) (by decide) dU_15 rfl ?_
  refine Gl.icmpgt Y12_2 dU_18 (by decide) rfl rfl (fun c18_2 => ?_) (fun c18_2 => ?_)
  · exact absurd c18_2 l1
  refine Gl.iinc Y12_2 rfl (r := (2 : Int32)) (by decide) (L' := #[.val (.ref a), .val (.int 2)]) rfl dU_21 rfl ?_
  refine Gl.goto Y12_2 dU_24 (by decide) rfl ?_
  refine Gl.iloadN Y12_2 rfl dU_2 rfl ?_
  refine Gl.aloadN Y12_2 rfl rfl dU_3 rfl ?_
  refine Gl.callV Y12_2 (tw_31 hw) (tw_32 hw) (tw_34 hw) (tw_34 hw) (tw_33 hw) (tw_8 hw) (tw_35 hw) (by decide) E (rm157 l Z a0 hw a b kb cs u0 u1 u2 u3 h0 n0 Y12_2.sz O S (hcs) E F1 F2 Vb) (a := a) (argsL := []) (rest := [(.int 2)]) rfl rfl (lenOf pd_14 rfl) rfl (by decide) (nle rfl) (by decide) (by decide) dU_4 rfl (fun v4_3 T4_3 h4_3 Y4_3 q4_3 => ?_)
  obtain ⟨rfl, rfl⟩ := q4_3
  show Gl p e below _ (T4_3.setTop (mkF m 7 _ [(.int 4), (.int 2)]))
  refine Gl.icmpge Y4_3 dU_7 (by decide) rfl rfl (fun c7_3 => ?_) (fun c7_3 => ?_)
  · exact absurd c7_3 (by decide)
  refine Gl.aloadN Y4_3 rfl rfl dU_10 rfl ?_
  refine Gl.iloadN Y4_3 rfl dU_11 rfl ?_
  refine Gl.callV Y4_3 (tw_52 hw) (tw_53 hw) (tw_55 hw) (tw_55 hw) (tw_54 hw) (tw_8 hw) (tw_56 hw) (by decide) E (rm160 l Z a0 hw a b kb cs u0 u1 u2 u3 fm h0 n0 Y4_3.sz O S (hcs) E F1 F2 Vb SF (hfm) (r_u0) (r_u1) (r_u2) (r_u3) (by first | assumption | decide | omega | (simp; done))) (a := a) (argsL := [(.int 2)]) (rest := []) rfl rfl (lenOf pd_15 rfl) rfl (by decide) (nle rfl) (by decide) (by decide) dU_12 rfl (fun v12_3 T12_3 h12_3 Y12_3 q12_3 => ?_)
  obtain ⟨rfl, rfl⟩ := q12_3
  show Gl p e below _ (T12_3.setTop (mkF m 15 _ [(.int u2)]))
  refine Gl.sipush Y12_3 (v := (255 : Int32)) (by decide) dU_15 rfl ?_
  refine Gl.icmpgt Y12_3 dU_18 (by decide) rfl rfl (fun c18_3 => ?_) (fun c18_3 => ?_)
  · exact absurd c18_3 l2
  refine Gl.iinc Y12_3 rfl (r := (3 : Int32)) (by decide) (L' := #[.val (.ref a), .val (.int 3)]) rfl dU_21 rfl ?_
  refine Gl.goto Y12_3 dU_24 (by decide) rfl ?_
  refine Gl.iloadN Y12_3 rfl dU_2 rfl ?_
  refine Gl.aloadN Y12_3 rfl rfl dU_3 rfl ?_
  refine Gl.callV Y12_3 (tw_31 hw) (tw_32 hw) (tw_34 hw) (tw_34 hw) (tw_33 hw) (tw_8 hw) (tw_35 hw) (by decide) E (rm157 l Z a0 hw a b kb cs u0 u1 u2 u3 h0 n0 Y12_3.sz O S (hcs) E F1 F2 Vb) (a := a) (argsL := []) (rest := [(.int 3)]) rfl rfl (lenOf pd_14 rfl) rfl (by decide) (nle rfl) (by decide) (by decide) dU_4 rfl (fun v4_4 T4_4 h4_4 Y4_4 q4_4 => ?_)
  obtain ⟨rfl, rfl⟩ := q4_4
  show Gl p e below _ (T4_4.setTop (mkF m 7 _ [(.int 4), (.int 3)]))
  refine Gl.icmpge Y4_4 dU_7 (by decide) rfl rfl (fun c7_4 => ?_) (fun c7_4 => ?_)
  · exact absurd c7_4 (by decide)
  refine Gl.aloadN Y4_4 rfl rfl dU_10 rfl ?_
  refine Gl.iloadN Y4_4 rfl dU_11 rfl ?_
  refine Gl.callV Y4_4 (tw_52 hw) (tw_53 hw) (tw_55 hw) (tw_55 hw) (tw_54 hw) (tw_8 hw) (tw_56 hw) (by decide) E (rm161 l Z a0 hw a b kb cs u0 u1 u2 u3 fm h0 n0 Y4_4.sz O S (hcs) E F1 F2 Vb SF (hfm) (r_u0) (r_u1) (r_u2) (r_u3) (by first | assumption | decide | omega | (simp; done))) (a := a) (argsL := [(.int 3)]) (rest := []) rfl rfl (lenOf pd_15 rfl) rfl (by decide) (nle rfl) (by decide) (by decide) dU_12 rfl (fun v12_4 T12_4 h12_4 Y12_4 q12_4 => ?_)
  obtain ⟨rfl, rfl⟩ := q12_4
  show Gl p e below _ (T12_4.setTop (mkF m 15 _ [(.int u3)]))
  refine Gl.sipush Y12_4 (v := (255 : Int32)) (by decide) dU_15 rfl ?_
  refine Gl.icmpgt Y12_4 dU_18 (by decide) rfl rfl (fun c18_4 => ?_) (fun c18_4 => ?_)
  · exact absurd c18_4 l3
  refine Gl.iinc Y12_4 rfl (r := (4 : Int32)) (by decide) (L' := #[.val (.ref a), .val (.int 4)]) rfl dU_21 rfl ?_
  refine Gl.goto Y12_4 dU_24 (by decide) rfl ?_
  refine Gl.iloadN Y12_4 rfl dU_2 rfl ?_
  refine Gl.aloadN Y12_4 rfl rfl dU_3 rfl ?_
  refine Gl.callV Y12_4 (tw_31 hw) (tw_32 hw) (tw_34 hw) (tw_34 hw) (tw_33 hw) (tw_8 hw) (tw_35 hw) (by decide) E (rm157 l Z a0 hw a b kb cs u0 u1 u2 u3 h0 n0 Y12_4.sz O S (hcs) E F1 F2 Vb) (a := a) (argsL := []) (rest := [(.int 4)]) rfl rfl (lenOf pd_14 rfl) rfl (by decide) (nle rfl) (by decide) (by decide) dU_4 rfl (fun v4_5 T4_5 h4_5 Y4_5 q4_5 => ?_)
  obtain ⟨rfl, rfl⟩ := q4_5
  show Gl p e below _ (T4_5.setTop (mkF m 7 _ [(.int 4), (.int 4)]))
  refine Gl.icmpge Y4_5 dU_7 (by decide) rfl rfl (fun c7_5 => ?_) (fun c7_5 => ?_)
  rotate_left
  · exact absurd c7_5 (by decide)
  refine Gl.iloadN Y4_5 rfl dU_27 rfl ?_
  refine Gl.aloadN Y4_5 rfl rfl dU_28 rfl ?_
  refine Gl.callV Y4_5 (tw_31 hw) (tw_32 hw) (tw_34 hw) (tw_34 hw) (tw_33 hw) (tw_8 hw) (tw_35 hw) (by decide) E (rm157 l Z a0 hw a b kb cs u0 u1 u2 u3 h0 n0 Y4_5.sz O S (hcs) E F1 F2 Vb) (a := a) (argsL := []) (rest := [(.int 4)]) rfl rfl (lenOf pd_14 rfl) rfl (by decide) (nle rfl) (by decide) (by decide) dU_29 rfl (fun v29 T29 h29 Y29 q29 => ?_)
  obtain ⟨rfl, rfl⟩ := q29
  show Gl p e below _ (T29.setTop (mkF m 32 _ [(.int 4), (.int 4)]))
  refine Gl.icmpge Y29 dU_32 (by decide) rfl rfl (fun c32 => ?_) (fun c32 => ?_)
  rotate_left
  · exact absurd c32 (by decide)
  refine Gl.iconst Y29 (v := (-1 : Int32)) (by decide) dU_39 rfl ?_
  exact Gl.retI Y29 (by decide) (by decide)  dU_40 ⟨rfl, rfl⟩
theorem dI_8 : decode jdk_42_method_149_code 8 = .ok (.aload_n 0, 1) := by decide +kernel
theorem dI_9 : decode jdk_42_method_149_code 9 = .ok (.ldc 7, 2) := by decide +kernel
theorem tw_19 {a0 : Array Value} {Z : State} (hw : HW a0 Z) : (Jvm.Cond.stringLink "java/lang/String" (7 : Nat) "").before a0 Z = true := hw _ (List.mem_of_getElem? (i := 19) rfl)
theorem tw_23 {a0 : Array Value} {Z : State} (hw : HW a0 Z) : (Jvm.Cond.soleField "java/lang/String" "value").before a0 Z = true := hw _ (List.mem_of_getElem? (i := 23) rfl)
theorem tw_24 {a0 : Array Value} {Z : State} (hw : HW a0 Z) : (Jvm.Cond.soleField "java/lang/String" "coder").before a0 Z = true := hw _ (List.mem_of_getElem? (i := 24) rfl)
theorem own_wS {a0 : Array Value} {Z : State} (hw : HW a0 Z) : ∀ a ∈ Bundle.stringAtoms, a.before a0 Z = true := by
  intro d hd
  simp only [Bundle.stringAtoms, Bundle.sN, List.mem_cons, List.not_mem_nil, or_false] at hd
  rcases hd with rfl | rfl | rfl | rfl | rfl | rfl | rfl
  · exact (tw_8 hw)
  · exact (tw_7 hw)
  · exact (tw_20 hw)
  · exact (tw_21 hw)
  · exact (tw_22 hw)
  · exact (tw_23 hw)
  · exact (tw_24 hw)
theorem dI_11 : decode jdk_42_method_149_code 11 = .ok (.getfield 9, 3) := by decide +kernel
theorem dI_14 : decode jdk_42_method_149_code 14 = .ok (.putfield 9, 3) := by decide +kernel
theorem dI_17 : decode jdk_42_method_149_code 17 = .ok (.aload_n 0, 1) := by decide +kernel
theorem dI_18 : decode jdk_42_method_149_code 18 = .ok (.ldc 7, 2) := by decide +kernel
theorem dI_20 : decode jdk_42_method_149_code 20 = .ok (.getfield 15, 3) := by decide +kernel
theorem dI_23 : decode jdk_42_method_149_code 23 = .ok (.putfield 15, 3) := by decide +kernel
theorem dI_26 : decode jdk_42_method_149_code 26 = .ok (.return_, 1) := by decide +kernel
def R172 : Room := { frames := 1, cells := 2, slots := 4, locals := 12 }
def Q172 (Z : State) (a ca : Addr) (h0 : Heap) (v : Option Value) (h : Heap) : Prop := ∃ b : Addr, ∃ kb : ClassId, v = none ∧ Keep h0 h [a] ∧ Exa Z h a "java/lang/String" ∧ Fld Z h a "java/lang/String" "coder" "B" (.int 0) ∧ Fld Z h a "java/lang/String" "value" "[B" (.ref b) ∧ Arv Z h b kb .byte (0 : Int32) [] (.int 0)
theorem ef172 (a ca : Addr) (m : MethodId) : entryFrame m #[(.ref a), (.ref ca), (.int 0), (.int 0), .null] 6 = mkF m 0 #[.val (.ref a), .val (.ref ca), .val (.int 0), .val (.int 0), .val .null, .unset] [] := by first | (simp [entryFrame, mkF, argsToLocals, Value.category]; done) | rfl
theorem rm172 (hw : HW a0 Z) (a ca : Addr) (h0 : Heap) (n0 : Nat) (Z0 : n0 ≤ h0.size) (O : Old Z n0 h0) (hc7 : Jvm.Lit.constHeld Z "java/lang/String" 7) (hcw : Jvm.Lit.compactW.before a0 Z = true) (E : Exa Z h0 a "java/lang/String") (F1 : Fld Z h0 a "java/lang/String" "value" "[B" .null) (F2 : Fld Z h0 a "java/lang/String" "coder" "B" (.int 0)) (ga : n0 ≤ a) : MetX l Z [] (⟨"java/lang/String", "<init>", "([CIILjava/lang/Void;)V"⟩ : MethodName) jdk_42_method_149_code 6 none R172 #[(.ref a), (.ref ca), (.int 0), (.int 0), .null] h0 n0 (Q172 Z a ca h0) := by
  refine MetX.of (own := "java/lang/String") rfl (plainFor_of_name pn_1) (ef172 a ca) ?_
  intro p e s m below meth c T0 Yn hnm hh0 hi0
  have Y0 := Yn h0.size (Nat.le_refl _)
  refine Gl.aloadN Y0 rfl rfl dI_0 rfl ?_
  refine Gl.initO Y0 (tw_16 hw) (tw_17 hw) (tw_18 hw) rfl (by decide) (nle rfl) dI_1 rfl (fun T1 Y1 => ?_)
  refine Gl.iloadN Y1 rfl dI_4 rfl ?_
  refine Gl.ifne Y1 dI_5 (by decide) rfl rfl (fun c5 => ?_) (fun c5 => ?_)
  · exact absurd c5 (by decide)
  refine Gl.aloadN Y1 rfl rfl dI_8 rfl ?_
  refine ldcX Y1 hh0 hi0 rfl O.2.2 (tw_19 hw) (own_wS hw) hc7 hcw (vs := []) (z := (0 : Int32)) (by decide +kernel) (by decide) (by decide) (w := 0) (by decide +kernel) (by decide) (by decide) (by decide) dI_9 rfl (fun T9 h9 t9 b9 ck9 vm9 kk9 Yx9 E9 hS9 hk9 X9 C9 F9 V9 LT9 => ?_)
  have Y9 := down Yx9 Z0
  have K9 : Keep h0 h9 [a] := (Keep.refl h0 [a]).ext E9
  show Gl p e below _ (T9.setTop (mkF m 11 _ [(.ref t9), (.ref a)]))
  have f1 := (Fld.ext E9 F1)
  have f2 := (Exa.ext E9 E)
  have net : t9 ≠ a := F9.ne f1 (fun q => nomatch q)
  have neb : a ≠ b9 := Exa.neArv f2 V9 (tw_7 hw)
  refine Gl.getF Y9 (host := "") (Or.inl (tw_25 hw)) Via.refl F9 dI_11 rfl (fun T11 Y11 => ?_)
  refine Gl.putF Y11 (host := "") (Or.inl (tw_25 hw)) Via.refl f1 f2 (Or.inr ⟨(tw_21 hw), rfl, hnm⟩) (tw_7 hw) ga (ty := (.array .byte)) (by decide) rfl rfl dI_14 rfl (fun T14 h14 Y14 W14 => ?_)
  have f3 : Fld Z h14 a "java/lang/String" "value" "[B" (.ref b9) := Fld.same W14 f1
  have K14 : Keep h0 h14 [a] := K9.wr W14 (Or.inl (List.mem_of_getElem? (i := 0) rfl))
  refine Gl.aloadN Y14 rfl rfl dI_17 rfl ?_
  refine ldcA Y14 (tw_19 hw) LT9 dI_18 rfl ?_
  have f4 := (Fld.other W14 C9 (Or.inl net))
  refine Gl.getF Y14 (host := "") (Or.inl (tw_26 hw)) Via.refl f4 dI_20 rfl (fun T20 Y20 => ?_)
  have f5 := (Fld.other W14 (Fld.ext E9 F2) (Or.inr (slot_ne (Or.inr (tw_22 hw)) (Or.inr (tw_21 hw)) (by decide) (t := .byte) (t' := (.array .byte)) (by decide) (by decide))))
  have f6 := (Exa.wr W14 f2)
  refine Gl.putFN Y20 (tw_26 hw) Via.refl f5 f6 (Or.inr ⟨(tw_22 hw), rfl, hnm⟩) (tw_7 hw) ga (ty := .byte) (by decide) (v' := (.int 0)) (by decide) (by decide) dI_23 rfl (fun T23 h23 Y23 W23 => ?_)
  have f7 : Fld Z h23 a "java/lang/String" "coder" "B" (.int 0) := Fld.same W23 f5
  have K23 : Keep h0 h23 [a] := K14.wr W23 (Or.inl (List.mem_of_getElem? (i := 0) rfl))
  have f8 := (Exa.wr W23 f6)
  have f9 := (Fld.other W23 f3 (Or.inr (slot_ne (Or.inr (tw_21 hw)) (Or.inr (tw_22 hw)) (by decide) (t := (.array .byte)) (t' := .byte) (by decide) (by decide))))
  have f10 := ((V9.other W14 (Ne.symm neb)).other W23 (Ne.symm neb))
  exact Jvm.OwnWW.Gl.retV (toW2 Y23 hS9 (Nat.le_trans (Nat.le_trans hk9 (Nat.le_of_eq W14.size.symm)) (Nat.le_of_eq W23.size.symm))) (by decide) (by decide)  dI_26 ⟨b9, ck9, rfl, K23, f8, f7, (by first | exact f9 | (subst_vars; exact f9) | (rw [PF]; exact f9)), f10⟩
def R173 : Room := { frames := 2, cells := 2, slots := 4, locals := 29 }
def Q173 (Z : State) (a ca : Addr) (kc : ClassId) (h0 : Heap) (v : Option Value) (h : Heap) : Prop := ∃ b : Addr, ∃ kb : ClassId, v = none ∧ Keep h0 h [a] ∧ Exa Z h a "java/lang/String" ∧ Fld Z h a "java/lang/String" "coder" "B" (.int 0) ∧ Fld Z h a "java/lang/String" "value" "[B" (.ref b) ∧ Arv Z h b kb .byte (0 : Int32) [] (.int 0)
theorem ef173 (a ca : Addr) (m : MethodId) : entryFrame m #[(.ref a), (.ref ca)] 2 = mkF m 0 #[.val (.ref a), .val (.ref ca)] [] := by first | (simp [entryFrame, mkF, argsToLocals, Value.category]; done) | rfl
theorem rm173 (hw : HW a0 Z) (a ca : Addr) (kc : ClassId) (h0 : Heap) (n0 : Nat) (Z0 : n0 ≤ h0.size) (O : Old Z n0 h0) (hc7 : Jvm.Lit.constHeld Z "java/lang/String" 7) (hcw : Jvm.Lit.compactW.before a0 Z = true) (E : Exa Z h0 a "java/lang/String") (F1 : Fld Z h0 a "java/lang/String" "value" "[B" .null) (F2 : Fld Z h0 a "java/lang/String" "coder" "B" (.int 0)) (ga : n0 ≤ a) (Vc : Arv Z h0 ca kc .char (0 : Int32) [] (.int 0)) : MetX l Z [] (⟨"java/lang/String", "<init>", "([C)V"⟩ : MethodName) jdk_42_method_3_code 2 none R173 #[(.ref a), (.ref ca)] h0 n0 (Q173 Z a ca kc h0) := by
  refine MetX.of (own := "java/lang/String") rfl (plainFor_of_name pn_1) (ef173 a ca) ?_
  intro p e s m below meth c T0 Yn hnm hh0 hi0
  have Y0 := Yn n0 Z0
  refine Gl.aloadN Y0 rfl rfl dJ_0 rfl ?_
  refine Gl.aloadN Y0 rfl rfl dJ_1 rfl ?_
  refine Gl.iconst Y0 (v := (0 : Int32)) (by decide) dJ_2 rfl ?_
  refine Gl.aloadN Y0 rfl rfl dJ_3 rfl ?_
  refine Gl.arraylength Y0 Vc dJ_4 rfl ?_
  refine Gl.aconstNull Y0 dJ_5 rfl ?_
  refine callNX Y0 hi0 rfl (tw_12 hw) (tw_13 hw) (tw_8 hw) (tw_15 hw) (by decide) (rm172 l Z a0 hw a ca h0 n0 Y0.sz O (hc7) (hcw) E F1 F2 ga) (a := a) (argsL := [(.ref ca), (.int 0), (.int 0), .null]) (rest := []) rfl rfl (lenOf pd_7 rfl) rfl (by decide) (nle rfl) (by decide) (by decide) dJ_6 rfl (fun v6 T6 h6 Y6 q6 => ?_)
  obtain ⟨b6, kb6, rfl, K6, f6_0, f6_1, f6_2, f6_3⟩ := q6
  have KK6 : Keep h0 h6 [a] := (Keep.refl h0 [a]).trans K6 (allS (Or.inl (List.mem_of_getElem? (i := 0) rfl)) all0)
  show Gl p e below _ (T6.setTop (mkF m 9 _ []))
  exact Jvm.OwnWW.Gl.retV Y6 (by decide) (by decide)  dJ_9 ⟨b6, kb6, rfl, KK6, f6_0, f6_1, (by first | exact f6_2 | (subst_vars; exact f6_2) | (rw [PF]; exact f6_2)), f6_3⟩
def R174 : Room := { frames := 0, cells := 0, slots := 0, locals := 0 }
def Q174 (Z : State) (a : Addr) (cs : Int32) (h0 : Heap) (v : Option Value) (h : Heap) : Prop := v = some (.int 0) ∧ h0 = h
theorem ef174 (a : Addr) (m : MethodId) : entryFrame m #[(.ref a)] 1 = mkF m 0 #[.val (.ref a)] [] := by first | (simp [entryFrame, mkF, argsToLocals, Value.category]; done) | rfl
theorem rm174 (hw : HW a0 Z) (a : Addr) (cs : Int32) (h0 : Heap) (n0 : Nat) (Z0 : n0 ≤ h0.size) (O : Old Z n0 h0) (S : uC Z cs) (hcs : ¬ cs = 0) (F2 : Fld Z h0 a "java/lang/String" "coder" "B" (.int 0)) : Jvm.OwnWW.OMet l Z [] (⟨"java/lang/String", "coder", "()B"⟩ : MethodName) jdk_42_method_152_code 1 (some .byte) R174 #[(.ref a)] h0 n0 (Q174 Z a cs h0) := by
  refine Jvm.OwnWW.OMet.of (own := "java/lang/String") rfl (plainFor_of_name pn_1) (ef174 a) Z0 ?_
  intro p e s m below meth c T0 Y0 hnm
  refine Jvm.OwnWW.Gl.getS Y0 (host := "") (Or.inl (tw_41 hw)) Via.refl (Sta.ext O.2 S) dQ_0 rfl (fun T0_2 Y0_2 => ?_)
  refine Jvm.OwnWW.Gl.ifeq Y0_2 dQ_3 (by decide) rfl rfl (fun c3 => ?_) (fun c3 => ?_)
  · exact absurd c3 hcs
  refine Jvm.OwnWW.Gl.aloadN Y0_2 rfl rfl dQ_6 rfl ?_
  refine Jvm.OwnWW.Gl.getF Y0_2 (host := "") (Or.inl (tw_26 hw)) Via.refl F2 dQ_7 rfl (fun T7 Y7 => ?_)
  refine Jvm.OwnWW.Gl.goto Y7 dQ_10 (by decide) rfl ?_
  exact Jvm.OwnWW.Gl.retB Y7 (by decide) (by decide) (x' := (0 : Int32)) (by decide) dQ_14 ⟨rfl, rfl⟩
def R175 : Room := { frames := 1, cells := 0, slots := 0, locals := 13 }
def Q175 (Z : State) (a b : Addr) (kb : ClassId) (cs : Int32) (h0 : Heap) (v : Option Value) (h : Heap) : Prop := v = some (.int 0) ∧ h0 = h
theorem ef175 (a : Addr) (m : MethodId) : entryFrame m #[(.ref a)] 1 = mkF m 0 #[.val (.ref a)] [] := by first | (simp [entryFrame, mkF, argsToLocals, Value.category]; done) | rfl
theorem rm175 (hw : HW a0 Z) (a b : Addr) (kb : ClassId) (cs : Int32) (h0 : Heap) (n0 : Nat) (Z0 : n0 ≤ h0.size) (O : Old Z n0 h0) (S : uC Z cs) (hcs : ¬ cs = 0) (E : Exa Z h0 a "java/lang/String") (F1 : Fld Z h0 a "java/lang/String" "value" "[B" (.ref b)) (F2 : Fld Z h0 a "java/lang/String" "coder" "B" (.int 0)) (Vb : Arv Z h0 b kb .byte (0 : Int32) [] (.int 0)) : Jvm.OwnWW.OMet l Z [] (⟨"java/lang/String", "length", "()I"⟩ : MethodName) jdk_42_method_54_code 1 (some .int) R175 #[(.ref a)] h0 n0 (Q175 Z a b kb cs h0) := by
  refine Jvm.OwnWW.OMet.of (own := "java/lang/String") rfl (plainFor_of_name pn_1) (ef175 a) Z0 ?_
  intro p e s m below meth c T0 Y0 hnm
  refine Jvm.OwnWW.Gl.aloadN Y0 rfl rfl dS_0 rfl ?_
  refine Jvm.OwnWW.Gl.getF Y0 (host := "") (Or.inl (tw_25 hw)) Via.refl F1 dS_1 rfl (fun T1 Y1 => ?_)
  refine Jvm.OwnWW.Gl.arraylength Y1 Vb dS_4 rfl ?_
  refine Jvm.OwnWW.Gl.aloadN Y1 rfl rfl dS_5 rfl ?_
  refine Jvm.OwnWW.Gl.callV Y1 (tw_36 hw) (tw_37 hw) (tw_39 hw) (tw_39 hw) (tw_38 hw) (tw_8 hw) (tw_40 hw) (by decide) E (rm174 l Z a0 hw a cs h0 n0 Y1.sz O S (hcs) F2) (a := a) (argsL := []) (rest := [(.int 0)]) rfl rfl (lenOf pd_12 rfl) rfl (by decide) (nle rfl) (by decide) (by decide) dS_6 rfl (fun v6 T6 h6 Y6 q6 => ?_)
  obtain ⟨rfl, rfl⟩ := q6
  show Gl p e below _ (T6.setTop (mkF m 9 _ [(.int 0), (.int 0)]))
  refine Jvm.OwnWW.Gl.ishr Y6 (r := (0 : Int32)) (by decide) dS_9 rfl ?_
  exact Jvm.OwnWW.Gl.retI Y6 (by decide) (by decide)  dS_10 ⟨rfl, rfl⟩
def R176 : Room := { frames := 2, cells := 0, slots := 0, locals := 26 }
def Q176 (Z : State) (a b : Addr) (kb : ClassId) (cs : Int32) (h0 : Heap) (v : Option Value) (h : Heap) : Prop := v = some (.int (-1)) ∧ h0 = h
theorem ef176 (a : Addr) (m : MethodId) : entryFrame m #[(.ref a)] 2 = mkF m 0 #[.val (.ref a), .unset] [] := by first | (simp [entryFrame, mkF, argsToLocals, Value.category]; done) | rfl
theorem rm176 (hw : HW a0 Z) (a b : Addr) (kb : ClassId) (cs : Int32) (h0 : Heap) (n0 : Nat) (Z0 : n0 ≤ h0.size) (O : Old Z n0 h0) (S : uC Z cs) (hcs : ¬ cs = 0) (E : Exa Z h0 a "java/lang/String") (F1 : Fld Z h0 a "java/lang/String" "value" "[B" (.ref b)) (F2 : Fld Z h0 a "java/lang/String" "coder" "B" (.int 0)) (Vb : Arv Z h0 b kb .byte (0 : Int32) [] (.int 0)) : Jvm.OwnWW.OMet l Z [] (⟨"com/example/ref_search/refsearch/matcher/Probes", "offsetFromU0100", "(Ljava/lang/String;)I"⟩ : MethodName) prog_13_method_8_code 2 (some .int) R176 #[(.ref a)] h0 n0 (Q176 Z a b kb cs h0) := by
  refine Jvm.OwnWW.OMet.of (own := "com/example/ref_search/refsearch/matcher/Probes") rfl (plainFor_of_name pn_4) (ef176 a) Z0 ?_
  intro p e s m below meth c T0 Y0 hnm
  refine Jvm.OwnWW.Gl.iconst Y0 (v := (0 : Int32)) (by decide) dU_0 rfl ?_
  refine Jvm.OwnWW.Gl.istoreN Y0 (L' := #[.val (.ref a), .val (.int 0)]) rfl dU_1 rfl ?_
  refine Jvm.OwnWW.Gl.iloadN Y0 rfl dU_2 rfl ?_
  refine Jvm.OwnWW.Gl.aloadN Y0 rfl rfl dU_3 rfl ?_
  refine Jvm.OwnWW.Gl.callV Y0 (tw_31 hw) (tw_32 hw) (tw_34 hw) (tw_34 hw) (tw_33 hw) (tw_8 hw) (tw_35 hw) (by decide) E (rm175 l Z a0 hw a b kb cs h0 n0 Y0.sz O S (hcs) E F1 F2 Vb) (a := a) (argsL := []) (rest := [(.int 0)]) rfl rfl (lenOf pd_14 rfl) rfl (by decide) (nle rfl) (by decide) (by decide) dU_4 rfl (fun v4 T4 h4 Y4 q4 => ?_)
  obtain ⟨rfl, rfl⟩ := q4
  show Gl p e below _ (T4.setTop (mkF m 7 _ [(.int 0), (.int 0)]))
  refine Jvm.OwnWW.Gl.icmpge Y4 dU_7 (by decide) rfl rfl (fun c7 => ?_) (fun c7 => ?_)
  rotate_left
  · exact absurd c7 (by decide)
  refine Jvm.OwnWW.Gl.iloadN Y4 rfl dU_27 rfl ?_
  refine Jvm.OwnWW.Gl.aloadN Y4 rfl rfl dU_28 rfl ?_
  refine Jvm.OwnWW.Gl.callV Y4 (tw_31 hw) (tw_32 hw) (tw_34 hw) (tw_34 hw) (tw_33 hw) (tw_8 hw) (tw_35 hw) (by decide) E (rm175 l Z a0 hw a b kb cs h0 n0 Y4.sz O S (hcs) E F1 F2 Vb) (a := a) (argsL := []) (rest := [(.int 0)]) rfl rfl (lenOf pd_14 rfl) rfl (by decide) (nle rfl) (by decide) (by decide) dU_29 rfl (fun v29 T29 h29 Y29 q29 => ?_)
  obtain ⟨rfl, rfl⟩ := q29
  show Gl p e below _ (T29.setTop (mkF m 32 _ [(.int 0), (.int 0)]))
  refine Jvm.OwnWW.Gl.icmpge Y29 dU_32 (by decide) rfl rfl (fun c32 => ?_) (fun c32 => ?_)
  rotate_left
  · exact absurd c32 (by decide)
  refine Jvm.OwnWW.Gl.iconst Y29 (v := (-1 : Int32)) (by decide) dU_39 rfl ?_
  exact Jvm.OwnWW.Gl.retI Y29 (by decide) (by decide)  dU_40 ⟨rfl, rfl⟩
theorem dV_0 : decode method_2_code 0 = .ok (.iload_n 0, 1) := by decide +kernel
theorem dV_1 : decode method_2_code 1 = .ok (.bipush 16, 2) := by decide +kernel
theorem dV_3 : decode method_2_code 3 = .ok (.iushr, 1) := by decide +kernel
theorem dV_4 : decode method_2_code 4 = .ok (.iconst 1, 1) := by decide +kernel
theorem dV_5 : decode method_2_code 5 = .ok (.iand, 1) := by decide +kernel
theorem dV_6 : decode method_2_code 6 = .ok (.ifCond .eq 11, 3) := by decide +kernel
theorem dV_17 : decode method_2_code 17 = .ok (.iload_n 0, 1) := by decide +kernel
theorem dV_18 : decode method_2_code 18 = .ok (.ldc 7, 2) := by decide +kernel
theorem tw_4 {a0 : Array Value} {Z : State} (hw : HW a0 Z) : (Jvm.Cond.constant "com/example/ref_search/refsearch/matcher/ProbesOffsetFromU0100PinLaw" (7 : Nat) (65535 : Int32)).before a0 Z = true := hw _ (List.mem_of_getElem? (i := 4) rfl)
theorem dV_20 : decode method_2_code 20 = .ok (.iand, 1) := by decide +kernel
theorem dV_21 : decode method_2_code 21 = .ok (.ireturn, 1) := by decide +kernel
theorem dV_9 : decode method_2_code 9 = .ok (.iload_n 0, 1) := by decide +kernel
theorem dV_10 : decode method_2_code 10 = .ok (.sipush 255, 3) := by decide +kernel
theorem dV_13 : decode method_2_code 13 = .ok (.iand, 1) := by decide +kernel
theorem dV_14 : decode method_2_code 14 = .ok (.goto 7, 3) := by decide +kernel
def R177 : Room := { frames := 0, cells := 0, slots := 0, locals := 0 }
def Q177 (Z : State) (w : Int32) (h0 : Heap) (v : Option Value) (h : Heap) : Prop := ∃ r : Int32, v = some (.int r) ∧ (0 ≤ r.toInt ∧ r.toInt ≤ 65535) ∧ h0 = h
theorem ef177 (w : Int32) (m : MethodId) : entryFrame m #[(.int w)] 1 = mkF m 0 #[.val (.int w)] [] := by first | (simp [entryFrame, mkF, argsToLocals, Value.category]; done) | rfl
theorem pn_5 : plainName "com/example/ref_search/refsearch/matcher/ProbesOffsetFromU0100PinLaw" = true := by first | (simp [plainName, overriddenIn]; done) | decide +kernel
theorem rm177 (hw : HW a0 Z) (w : Int32) (h0 : Heap) (n0 : Nat) (Z0 : n0 ≤ h0.size) : OMet l Z [] (⟨"com/example/ref_search/refsearch/matcher/ProbesOffsetFromU0100PinLaw", "ch", "(I)I"⟩ : MethodName) method_2_code 1 (some .int) R177 #[(.int w)] h0 n0 (Q177 Z w h0) := by
  refine OMet.of (own := "com/example/ref_search/refsearch/matcher/ProbesOffsetFromU0100PinLaw") rfl (plainFor_of_name pn_5) (ef177 w) Z0 ?_
  intro p e s m below meth c T0 Y0 hnm
  have nw := rng32 w
  refine Gl.iloadN Y0 rfl dV_0 rfl ?_
  refine Gl.bipush Y0 (v := (16 : Int32)) (by decide) dV_1 rfl ?_
  obtain ⟨v3, hv3⟩ : ∃ z : Int32, (w.toUInt32 >>> ((16 : Int32) &&& 31).toUInt32).toInt32 = z := ⟨_, rfl⟩
  have iv3 : v3.toInt = (w.toInt % 4294967296) / 65536 := by have q := c_iushr w (16 : Int32) 16 (by decide) (by decide); rw [hv3] at q; exact q
  refine Gl.iushr Y0 hv3 dV_3 rfl ?_
  refine Gl.iconst Y0 (v := (1 : Int32)) (by decide) dV_4 rfl ?_
  obtain ⟨v5, hv5⟩ : ∃ z : Int32, v3 &&& (1 : Int32) = z := ⟨_, rfl⟩
  have iv5 : v5.toInt = v3.toInt % 2 := by have q := c_mask v3 (1 : Int32) 1 (by decide) (by decide); rw [hv5] at q; exact q
  refine Gl.iand Y0 hv5 dV_5 rfl ?_
  refine Gl.ifeq Y0 dV_6 (by decide) rfl rfl (fun c6 => ?_) (fun c6 => ?_)
  · have j6 : v5.toInt = 0 := congrArg Int32.toInt c6
    refine Gl.iloadN Y0 rfl dV_17 rfl ?_
    refine Gl.ldcI Y0 (tw_4 hw) dV_18 rfl ?_
    obtain ⟨v20, hv20⟩ : ∃ z : Int32, w &&& (65535 : Int32) = z := ⟨_, rfl⟩
    have iv20 : v20.toInt = w.toInt % 65536 := by have q := c_mask w (65535 : Int32) 16 (by decide) (by decide); rw [hv20] at q; exact q
    refine Gl.iand Y0 hv20 dV_20 rfl ?_
    exact Gl.retI Y0 (by decide) (by decide)  dV_21 ⟨v20, rfl, (by omega), rfl⟩
  · have j6 : ¬ (v5.toInt = 0) := fun q => c6 (Int32.toInt_inj.mp q)
    refine Gl.iloadN Y0 rfl dV_9 rfl ?_
    refine Gl.sipush Y0 (v := (255 : Int32)) (by decide) dV_10 rfl ?_
    obtain ⟨v13, hv13⟩ : ∃ z : Int32, w &&& (255 : Int32) = z := ⟨_, rfl⟩
    have iv13 : v13.toInt = w.toInt % 256 := by have q := c_mask w (255 : Int32) 8 (by decide) (by decide); rw [hv13] at q; exact q
    refine Gl.iand Y0 hv13 dV_13 rfl ?_
    refine Gl.goto Y0 dV_14 (by decide) rfl ?_
    exact Gl.retI Y0 (by decide) (by decide)  dV_21 ⟨v13, rfl, (by omega), rfl⟩
theorem own_n5 {a u v : Int32} (h1 : a &&& (7 : Int32) = u) (h2 : u % (5 : Int32) = v) : v = 0 ∨ v = 1 ∨ v = 2 ∨ v = 3 ∨ v = 4 := by
  have q := c_mask a (7 : Int32) 3 (by decide) (by decide)
  rw [h1] at q
  have r := (c_irem u (5 : Int32) 5 (by decide)).1 (by omega)
  rw [h2] at r
  exact own_c4 (by omega) (by omega)
theorem tw_0 {a0 : Array Value} {Z : State} (hw : HW a0 Z) : (Jvm.Cond.methodLink "com/example/ref_search/refsearch/matcher/ProbesOffsetFromU0100PinLaw" (8 : Nat) ({ cls := "com/example/ref_search/refsearch/matcher/ProbesOffsetFromU0100PinLaw", name := "ch", desc := "(I)I" } : Jvm.MethodName)).before a0 Z = true := hw _ (List.mem_of_getElem? (i := 0) rfl)
theorem tw_3 {a0 : Array Value} {Z : State} (hw : HW a0 Z) : (Jvm.Cond.code ({ cls := "com/example/ref_search/refsearch/matcher/ProbesOffsetFromU0100PinLaw", name := "ch", desc := "(I)I" } : Jvm.MethodName) method_2_code (1 : Nat) (Option.some Jvm.ClassFile.FieldType.int)).before a0 Z = true := hw _ (List.mem_of_getElem? (i := 3) rfl)
theorem tw_2 {a0 : Array Value} {Z : State} (hw : HW a0 Z) : (Jvm.Cond.initialized "com/example/ref_search/refsearch/matcher/ProbesOffsetFromU0100PinLaw").before a0 Z = true := hw _ (List.mem_of_getElem? (i := 2) rfl)
theorem tw_1 {a0 : Array Value} {Z : State} (hw : HW a0 Z) : (Jvm.Cond.static ({ cls := "com/example/ref_search/refsearch/matcher/ProbesOffsetFromU0100PinLaw", name := "ch", desc := "(I)I" } : Jvm.MethodName)).before a0 Z = true := hw _ (List.mem_of_getElem? (i := 1) rfl)
theorem tw_5 {a0 : Array Value} {Z : State} (hw : HW a0 Z) : (Jvm.Cond.arrayClass Jvm.ClassFile.FieldType.char).before a0 Z = true := hw _ (List.mem_of_getElem? (i := 5) rfl)
theorem tw_6 {a0 : Array Value} {Z : State} (hw : HW a0 Z) : (Jvm.Cond.classLink "com/example/ref_search/refsearch/matcher/ProbesOffsetFromU0100PinLaw" (14 : Nat) "java/lang/String").before a0 Z = true := hw _ (List.mem_of_getElem? (i := 6) rfl)
theorem tw_9 {a0 : Array Value} {Z : State} (hw : HW a0 Z) : (Jvm.Cond.methodLink "com/example/ref_search/refsearch/matcher/ProbesOffsetFromU0100PinLaw" (16 : Nat) ({ cls := "java/lang/String", name := "<init>", desc := "([C)V" } : Jvm.MethodName)).before a0 Z = true := hw _ (List.mem_of_getElem? (i := 9) rfl)
theorem pd_16 : parseMethodDescriptor "([C)V" = some ⟨[(.array .char)], none⟩ := by decide +kernel
theorem tw_11 {a0 : Array Value} {Z : State} (hw : HW a0 Z) : (Jvm.Cond.code ({ cls := "java/lang/String", name := "<init>", desc := "([C)V" } : Jvm.MethodName) jdk_42_method_3_code (2 : Nat) (Option.none : Option Jvm.ClassFile.FieldType)).before a0 Z = true := hw _ (List.mem_of_getElem? (i := 11) rfl)
theorem tw_10 {a0 : Array Value} {Z : State} (hw : HW a0 Z) : (Jvm.Cond.instanceMethod ({ cls := "java/lang/String", name := "<init>", desc := "([C)V" } : Jvm.MethodName)).before a0 Z = true := hw _ (List.mem_of_getElem? (i := 10) rfl)
theorem tw_27 {a0 : Array Value} {Z : State} (hw : HW a0 Z) : (Jvm.Cond.methodLink "com/example/ref_search/refsearch/matcher/ProbesOffsetFromU0100PinLaw" (19 : Nat) ({ cls := "com/example/ref_search/refsearch/matcher/Probes", name := "offsetFromU0100", desc := "(Ljava/lang/String;)I" } : Jvm.MethodName)).before a0 Z = true := hw _ (List.mem_of_getElem? (i := 27) rfl)
theorem pd_17 : parseMethodDescriptor "(Ljava/lang/String;)I" = some ⟨[(.object "java/lang/String")], some .int⟩ := by decide +kernel
theorem tw_30 {a0 : Array Value} {Z : State} (hw : HW a0 Z) : (Jvm.Cond.code ({ cls := "com/example/ref_search/refsearch/matcher/Probes", name := "offsetFromU0100", desc := "(Ljava/lang/String;)I" } : Jvm.MethodName) prog_13_method_8_code (2 : Nat) (Option.some Jvm.ClassFile.FieldType.int)).before a0 Z = true := hw _ (List.mem_of_getElem? (i := 30) rfl)
theorem tw_29 {a0 : Array Value} {Z : State} (hw : HW a0 Z) : (Jvm.Cond.initialized "com/example/ref_search/refsearch/matcher/Probes").before a0 Z = true := hw _ (List.mem_of_getElem? (i := 29) rfl)
theorem tw_28 {a0 : Array Value} {Z : State} (hw : HW a0 Z) : (Jvm.Cond.static ({ cls := "com/example/ref_search/refsearch/matcher/Probes", name := "offsetFromU0100", desc := "(Ljava/lang/String;)I" } : Jvm.MethodName)).before a0 Z = true := hw _ (List.mem_of_getElem? (i := 28) rfl)
def QL (Z : State) (ln aa bb cc dd cs : Int32) (fm : Value) (h0 : Heap) (v : Option Value) (h : Heap) : Prop := v = some (.int 1)
theorem efL (ln aa bb cc dd : Int32) (m : MethodId) : entryFrame m #[(.int ln), (.int aa), (.int bb), (.int cc), (.int dd)] maxLocals = mkF m 0 #[.val (.int ln), .val (.int aa), .val (.int bb), .val (.int cc), .val (.int dd), .unset, .unset, .unset, .unset, .unset, .unset, .unset, .unset, .unset, .unset, .unset, .unset] [] := by first | (simp [entryFrame, mkF, argsToLocals, Value.category, maxLocals]; done) | rfl
theorem rmL (hw : HW a0 Z) (ws : List Jvm.Cond) (ln aa bb cc dd cs : Int32) (fm : Value) (h0 : Heap) (n0 : Nat) (Z0 : n0 ≤ h0.size) (O : Old Z n0 h0) (S : uC Z cs) (hcs : ¬ cs = 0) (SA : uA Z) (SH : uS Z) (SL : uT Z) (SF : uF Z fm) (hfm : fm.category = 1) (hc7 : Jvm.Lit.constHeld Z "java/lang/String" 7) (hcw : Jvm.Lit.compactW.before a0 Z = true) : MetX l Z ws x code maxLocals ret room_1 #[(.int ln), (.int aa), (.int bb), (.int cc), (.int dd)] h0 n0 (QL Z ln aa bb cc dd cs fm h0) := by
  refine MetX.of (own := "com/example/ref_search/refsearch/matcher/ProbesOffsetFromU0100PinLaw") rfl (plainFor_of_name pn_5) (efL ln aa bb cc dd) ?_
  intro p e s m below meth c T0 Yn hnm hh0 hi0
  have Y0 := Yn n0 Z0
  refine Gl.iloadN Y0 rfl at_0 rfl ?_
  refine Gl.bipush Y0 (v := (7 : Int32)) (by decide) at_1 rfl ?_
  obtain ⟨v3, hv3⟩ : ∃ z : Int32, ln &&& (7 : Int32) = z := ⟨_, rfl⟩
  refine Gl.iand Y0 hv3 at_3 rfl ?_
  refine Gl.iconst Y0 (v := (5 : Int32)) (by decide) at_4 rfl ?_
  obtain ⟨v5, hv5⟩ : ∃ z : Int32, v3 % (5 : Int32) = z := ⟨_, rfl⟩
  refine Gl.irem Y0 (by decide) hv5 at_5 rfl ?_
  refine Gl.istore Y0 (L' := #[.val (.int ln), .val (.int aa), .val (.int bb), .val (.int cc), .val (.int dd), .val (.int v5), .unset, .unset, .unset, .unset, .unset, .unset, .unset, .unset, .unset, .unset, .unset]) rfl at_6 rfl ?_
  refine Gl.iloadN Y0 rfl at_8 rfl ?_
  refine Gl.callS Y0 (tw_0 hw) (tw_1 hw) (tw_2 hw) (tw_3 hw) (by decide) (rm177 l Z a0 hw aa h0 n0 Y0.sz) (argsL := [(.int aa)]) (rest := []) rfl rfl (lenOf pd_0 rfl) rfl (by decide) (nle rfl) (by decide) (by decide) at_9 rfl (fun v9 T9 h9 Y9 q9 => ?_)
  obtain ⟨r9, rfl, p9, rfl⟩ := q9
  show Gl p e below _ (T9.setTop (mkF m 12 _ [(.int r9)]))
  refine Gl.istore Y9 (L' := #[.val (.int ln), .val (.int aa), .val (.int bb), .val (.int cc), .val (.int dd), .val (.int v5), .val (.int r9), .unset, .unset, .unset, .unset, .unset, .unset, .unset, .unset, .unset, .unset]) rfl at_12 rfl ?_
  refine Gl.iloadN Y9 rfl at_14 rfl ?_
  refine Gl.callS Y9 (tw_0 hw) (tw_1 hw) (tw_2 hw) (tw_3 hw) (by decide) (rm177 l Z a0 hw bb h0 n0 Y9.sz) (argsL := [(.int bb)]) (rest := []) rfl rfl (lenOf pd_0 rfl) rfl (by decide) (nle rfl) (by decide) (by decide) at_15 rfl (fun v15 T15 h15 Y15 q15 => ?_)
  obtain ⟨r15, rfl, p15, rfl⟩ := q15
  show Gl p e below _ (T15.setTop (mkF m 18 _ [(.int r15)]))
  refine Gl.istore Y15 (L' := #[.val (.int ln), .val (.int aa), .val (.int bb), .val (.int cc), .val (.int dd), .val (.int v5), .val (.int r9), .val (.int r15), .unset, .unset, .unset, .unset, .unset, .unset, .unset, .unset, .unset]) rfl at_18 rfl ?_
  refine Gl.iloadN Y15 rfl at_20 rfl ?_
  refine Gl.callS Y15 (tw_0 hw) (tw_1 hw) (tw_2 hw) (tw_3 hw) (by decide) (rm177 l Z a0 hw cc h0 n0 Y15.sz) (argsL := [(.int cc)]) (rest := []) rfl rfl (lenOf pd_0 rfl) rfl (by decide) (nle rfl) (by decide) (by decide) at_21 rfl (fun v21 T21 h21 Y21 q21 => ?_)
  obtain ⟨r21, rfl, p21, rfl⟩ := q21
  show Gl p e below _ (T21.setTop (mkF m 24 _ [(.int r21)]))
  refine Gl.istore Y21 (L' := #[.val (.int ln), .val (.int aa), .val (.int bb), .val (.int cc), .val (.int dd), .val (.int v5), .val (.int r9), .val (.int r15), .val (.int r21), .unset, .unset, .unset, .unset, .unset, .unset, .unset, .unset]) rfl at_24 rfl ?_
  refine Gl.iload Y21 rfl at_26 rfl ?_
  refine Gl.callS Y21 (tw_0 hw) (tw_1 hw) (tw_2 hw) (tw_3 hw) (by decide) (rm177 l Z a0 hw dd h0 n0 Y21.sz) (argsL := [(.int dd)]) (rest := []) rfl rfl (lenOf pd_0 rfl) rfl (by decide) (nle rfl) (by decide) (by decide) at_28 rfl (fun v28 T28 h28 Y28 q28 => ?_)
  obtain ⟨r28, rfl, p28, rfl⟩ := q28
  show Gl p e below _ (T28.setTop (mkF m 31 _ [(.int r28)]))
  refine Gl.istore Y28 (L' := #[.val (.int ln), .val (.int aa), .val (.int bb), .val (.int cc), .val (.int dd), .val (.int v5), .val (.int r9), .val (.int r15), .val (.int r21), .val (.int r28), .unset, .unset, .unset, .unset, .unset, .unset, .unset]) rfl at_31 rfl ?_
  refine Gl.iload Y28 rfl at_33 rfl ?_
  obtain ⟨v35, hv35⟩ : ∃ z : Int32, r9.toUInt32.toUInt16.toUInt32.toInt32 = z := ⟨_, rfl⟩
  refine Gl.i2c Y28 hv35 at_35 rfl ?_
  obtain rfl : r9 = v35 := Eq.symm (own_c16 hv35 p9)
  refine Gl.istore Y28 (L' := #[.val (.int ln), .val (.int aa), .val (.int bb), .val (.int cc), .val (.int dd), .val (.int v5), .val (.int r9), .val (.int r15), .val (.int r21), .val (.int r28), .val (.int r9), .unset, .unset, .unset, .unset, .unset, .unset]) rfl at_36 rfl ?_
  refine Gl.iload Y28 rfl at_38 rfl ?_
  obtain ⟨v40, hv40⟩ : ∃ z : Int32, r15.toUInt32.toUInt16.toUInt32.toInt32 = z := ⟨_, rfl⟩
  refine Gl.i2c Y28 hv40 at_40 rfl ?_
  obtain rfl : r15 = v40 := Eq.symm (own_c16 hv40 p15)
  refine Gl.istore Y28 (L' := #[.val (.int ln), .val (.int aa), .val (.int bb), .val (.int cc), .val (.int dd), .val (.int v5), .val (.int r9), .val (.int r15), .val (.int r21), .val (.int r28), .val (.int r9), .val (.int r15), .unset, .unset, .unset, .unset, .unset]) rfl at_41 rfl ?_
  refine Gl.iload Y28 rfl at_43 rfl ?_
  obtain ⟨v45, hv45⟩ : ∃ z : Int32, r21.toUInt32.toUInt16.toUInt32.toInt32 = z := ⟨_, rfl⟩
  refine Gl.i2c Y28 hv45 at_45 rfl ?_
  obtain rfl : r21 = v45 := Eq.symm (own_c16 hv45 p21)
  refine Gl.istore Y28 (L' := #[.val (.int ln), .val (.int aa), .val (.int bb), .val (.int cc), .val (.int dd), .val (.int v5), .val (.int r9), .val (.int r15), .val (.int r21), .val (.int r28), .val (.int r9), .val (.int r15), .val (.int r21), .unset, .unset, .unset, .unset]) rfl at_46 rfl ?_
  refine Gl.iload Y28 rfl at_48 rfl ?_
  obtain ⟨v50, hv50⟩ : ∃ z : Int32, r28.toUInt32.toUInt16.toUInt32.toInt32 = z := ⟨_, rfl⟩
  refine Gl.i2c Y28 hv50 at_50 rfl ?_
  obtain rfl : r28 = v50 := Eq.symm (own_c16 hv50 p28)
  refine Gl.istore Y28 (L' := #[.val (.int ln), .val (.int aa), .val (.int bb), .val (.int cc), .val (.int dd), .val (.int v5), .val (.int r9), .val (.int r15), .val (.int r21), .val (.int r28), .val (.int r9), .val (.int r15), .val (.int r21), .val (.int r28), .unset, .unset, .unset]) rfl at_51 rfl ?_
  have cs_v5 : v5 = (0 : Int32) ∨ v5 = (1 : Int32) ∨ v5 = (2 : Int32) ∨ v5 = (3 : Int32) ∨ v5 = (4 : Int32) := own_n5 hv3 hv5
  rcases cs_v5 with rfl | rfl | rfl | rfl | rfl
  · refine Gl.iload Y28 rfl at_53 rfl ?_
    refine Gl.ifne Y28 at_55 (by decide) rfl rfl (fun c55 => ?_) (fun c55 => ?_)
    · exact absurd c55 (by decide)
    refine Gl.iconst Y28 (v := (0 : Int32)) (by decide) at_58 rfl ?_
    refine Gl.newP Y28 0 (ty := .char) rfl (tw_5 hw) (by decide) (by decide) (nle rfl) (nle rfl) (nle rfl) at_59 rfl (fun T59 h59 b59 ck59 Y59 E59 g59 sb59 V59 => ?_)
    have V59 : Arv Z h59 b59 ck59 .char (0 : Int32) [] (.int 0) := V59.pad (pad_rep [] (.int 0) 0)
    show Gl p e below _ (T59.setTop (mkF m 61 _ [(.ref b59)]))
    refine Gl.astore Y59 rfl (L' := #[.val (.int ln), .val (.int aa), .val (.int bb), .val (.int cc), .val (.int dd), .val (.int 0), .val (.int r9), .val (.int r15), .val (.int r21), .val (.int r28), .val (.int r9), .val (.int r15), .val (.int r21), .val (.int r28), .val (.ref b59), .unset, .unset]) rfl at_61 rfl ?_
    refine Gl.goto Y59 at_63 (by decide) rfl ?_
    refine Gl.newO Y59 (tw_6 hw) (tw_7 hw) (tw_8 hw) (by decide) (by decide) at_163 rfl (fun T163 h163 b163 Y163 E163 g163 sb163 X163 D163 => ?_)
    have f1 : Fld Z h163 b163 "java/lang/String" "value" "[B" .null := D163 (Or.inr (tw_21 hw)) (ty := (.array .byte)) (by decide)
    have f2 : Fld Z h163 b163 "java/lang/String" "coder" "B" (.int 0) := D163 (Or.inr (tw_22 hw)) (ty := .byte) (by decide)
    show Gl p e below _ (T163.setTop (mkF m 166 _ [(.ref b163)]))
    refine Gl.dup Y163 rfl at_166 rfl ?_
    refine Gl.aload Y163 rfl rfl at_167 rfl ?_
    have f3 := ((O.ext E59).ext E163)
    have f4 := (V59.ext E163)
    refine callNX Y163 hi0 rfl (tw_9 hw) (tw_10 hw) (tw_8 hw) (tw_11 hw) (by decide) (rm173 l Z a0 hw b163 b59 ck59 h163 n0 Y163.sz f3 (hc7) (hcw) X163 f1 f2 sb163 f4) (a := b163) (argsL := [(.ref b59)]) (rest := [(.ref b163)]) rfl rfl (lenOf pd_16 rfl) rfl (by decide) (nle rfl) (by decide) (by decide) at_169 rfl (fun v169 T169 h169 Y169 q169 => ?_)
    obtain ⟨b169, kb169, rfl, K169, f169_0, f169_1, f169_2, f169_3⟩ := q169
    show Gl p e below _ (T169.setTop (mkF m 172 _ [(.ref b163)]))
    have f5 := (f3.keep K169 (allS sb163 all0))
    refine Jvm.OwnWW.Gl.callS Y169 (tw_27 hw) (tw_28 hw) (tw_29 hw) (tw_30 hw) (by decide) (rm176 l Z a0 hw b163 b169 kb169 cs h169 n0 Y169.sz f5 S (hcs) f169_0 f169_2 f169_1 f169_3) (argsL := [(.ref b163)]) (rest := []) rfl rfl (lenOf pd_17 rfl) rfl (by decide) (nle rfl) (by decide) (by decide) at_172 rfl (fun v172 T172 h172 Y172 q172 => ?_)
    obtain ⟨rfl, rfl⟩ := q172
    show Gl p e below _ (T172.setTop (mkF m 175 _ [(.int (-1))]))
    refine Jvm.OwnWW.Gl.istore Y172 (L' := #[.val (.int ln), .val (.int aa), .val (.int bb), .val (.int cc), .val (.int dd), .val (.int 0), .val (.int r9), .val (.int r15), .val (.int r21), .val (.int r28), .val (.int r9), .val (.int r15), .val (.int r21), .val (.int r28), .val (.ref b59), .val (.int (-1)), .unset]) rfl at_175 rfl ?_
    refine Jvm.OwnWW.Gl.iconst Y172 (v := (-1 : Int32)) (by decide) at_177 rfl ?_
    refine Jvm.OwnWW.Gl.istore Y172 (L' := #[.val (.int ln), .val (.int aa), .val (.int bb), .val (.int cc), .val (.int dd), .val (.int 0), .val (.int r9), .val (.int r15), .val (.int r21), .val (.int r28), .val (.int r9), .val (.int r15), .val (.int r21), .val (.int r28), .val (.ref b59), .val (.int (-1)), .val (.int (-1))]) rfl at_178 rfl ?_
    refine Jvm.OwnWW.Gl.iload Y172 rfl at_180 rfl ?_
    refine Jvm.OwnWW.Gl.iconst Y172 (v := (3 : Int32)) (by decide) at_182 rfl ?_
    refine Jvm.OwnWW.Gl.icmple Y172 at_183 (by decide) rfl rfl (fun c183 => ?_) (fun c183 => ?_)
    rotate_left
    · exact absurd c183 (by decide)
    refine Jvm.OwnWW.Gl.iload Y172 rfl at_197 rfl ?_
    refine Jvm.OwnWW.Gl.iconst Y172 (v := (2 : Int32)) (by decide) at_199 rfl ?_
    refine Jvm.OwnWW.Gl.icmple Y172 at_200 (by decide) rfl rfl (fun c200 => ?_) (fun c200 => ?_)
    rotate_left
    · exact absurd c200 (by decide)
    refine Jvm.OwnWW.Gl.iload Y172 rfl at_214 rfl ?_
    refine Jvm.OwnWW.Gl.iconst Y172 (v := (1 : Int32)) (by decide) at_216 rfl ?_
    refine Jvm.OwnWW.Gl.icmple Y172 at_217 (by decide) rfl rfl (fun c217 => ?_) (fun c217 => ?_)
    rotate_left
    · exact absurd c217 (by decide)
    refine Jvm.OwnWW.Gl.iload Y172 rfl at_231 rfl ?_
    refine Jvm.OwnWW.Gl.ifle Y172 at_233 (by decide) rfl rfl (fun c233 => ?_) (fun c233 => ?_)
    rotate_left
    · exact absurd c233 (by decide)
    refine Jvm.OwnWW.Gl.iload Y172 rfl at_247 rfl ?_
    refine Jvm.OwnWW.Gl.iload Y172 rfl at_249 rfl ?_
    refine Jvm.OwnWW.Gl.icmpne Y172 at_251 (by decide) rfl rfl (fun c251 => ?_) (fun c251 => ?_)
    · exact absurd c251 (by decide)
    refine Jvm.OwnWW.Gl.iconst Y172 (v := (1 : Int32)) (by decide) at_254 rfl ?_
    refine Jvm.OwnWW.Gl.goto Y172 at_255 (by decide) rfl ?_
    exact Jvm.OwnWW.Gl.retZ Y172 (by decide) (by decide) (x' := (1 : Int32)) (by decide) at_259 rfl
  · by_cases b0 : (255 : Int32) < r9
    · refine Gl.iload Y28 rfl at_53 rfl ?_
      refine Gl.ifne Y28 at_55 (by decide) rfl rfl (fun c55 => ?_) (fun c55 => ?_)
      rotate_left
      · exact absurd c55 (by decide)
      refine Gl.iload Y28 rfl at_66 rfl ?_
      refine Gl.iconst Y28 (v := (1 : Int32)) (by decide) at_68 rfl ?_
      refine Gl.icmpne Y28 at_69 (by decide) rfl rfl (fun c69 => ?_) (fun c69 => ?_)
      · exact absurd c69 (by decide)
      refine Gl.iconst Y28 (v := (1 : Int32)) (by decide) at_72 rfl ?_
      refine Gl.newP Y28 1 (ty := .char) rfl (tw_5 hw) (by decide) (by decide) (nle rfl) (nle rfl) (nle rfl) at_73 rfl (fun T73 h73 b73 ck73 Y73 E73 g73 sb73 V73 => ?_)
      have V73 : Arv Z h73 b73 ck73 .char (1 : Int32) [(.int 0)] (.int 0) := V73.pad (pad_rep [] (.int 0) 1)
      show Gl p e below _ (T73.setTop (mkF m 75 _ [(.ref b73)]))
      refine Gl.dup Y73 rfl at_75 rfl ?_
      refine Gl.iconst Y73 (v := (0 : Int32)) (by decide) at_76 rfl ?_
      refine Gl.iload Y73 rfl at_77 rfl ?_
      refine Gl.castore Y73 V73 (v := (.int r9)) (congrArg Value.int (own_narCr p9.1 p9.2)) ⟨by decide, by decide⟩ (ix := 0) rfl (nle rfl) sb73 at_79 rfl (fun T79 h79 Y79 W79 A79 => ?_)
      have A79 : Arv Z h79 b73 ck73 .char (1 : Int32) [(.int r9)] (.int 0) := A79
      show Gl p e below _ (T79.setTop (mkF m 80 _ [(.ref b73)]))
      refine Gl.astore Y79 rfl (L' := #[.val (.int ln), .val (.int aa), .val (.int bb), .val (.int cc), .val (.int dd), .val (.int 1), .val (.int r9), .val (.int r15), .val (.int r21), .val (.int r28), .val (.int r9), .val (.int r15), .val (.int r21), .val (.int r28), .val (.ref b73), .unset, .unset]) rfl at_80 rfl ?_
      refine Gl.goto Y79 at_82 (by decide) rfl ?_
      refine Gl.newO Y79 (tw_6 hw) (tw_7 hw) (tw_8 hw) (by decide) (by decide) at_163 rfl (fun T163 h163 b163 Y163 E163 g163 sb163 X163 D163 => ?_)
      have f6 : Fld Z h163 b163 "java/lang/String" "value" "[B" .null := D163 (Or.inr (tw_21 hw)) (ty := (.array .byte)) (by decide)
      have f7 : Fld Z h163 b163 "java/lang/String" "coder" "B" (.int 0) := D163 (Or.inr (tw_22 hw)) (ty := .byte) (by decide)
      show Gl p e below _ (T163.setTop (mkF m 166 _ [(.ref b163)]))
      refine Gl.dup Y163 rfl at_166 rfl ?_
      refine Gl.aload Y163 rfl rfl at_167 rfl ?_
      have f8 := (((O.ext E73).wr W79 sb73).ext E163)
      have f9 := (A79.ext E163)
      refine Gl.callN Y163 rfl (tw_9 hw) (tw_10 hw) (tw_8 hw) (tw_11 hw) (by decide) (rm50 l Z a0 hw b163 b73 ck73 cs r9 h163 n0 Y163.sz f8 S (hcs) SA SH SL X163 f6 f7 sb163 (Nat.ne_of_lt (Nat.lt_of_lt_of_eq A79.lt g163.symm)) f9 (b0) (p9)) (a := b163) (argsL := [(.ref b73)]) (rest := [(.ref b163)]) rfl rfl (lenOf pd_16 rfl) rfl (by decide) (nle rfl) (by decide) (by decide) at_169 rfl (fun v169 T169 h169 Y169 q169 => ?_)
      obtain ⟨b169, kb169, rfl, K169, f169_0, f169_1, f169_2, f169_3, f169_4⟩ := q169
      have Y169_sz : n0 ≤ h163.size := Y163.sz
      show Gl p e below _ (T169.setTop (mkF m 172 _ [(.ref b163)]))
      have f10 := (f8.keep K169 (allS sb163 all0))
      refine Gl.callS Y169 (tw_27 hw) (tw_28 hw) (tw_29 hw) (tw_30 hw) (by decide) (rm134 l Z a0 hw b163 b169 kb169 cs r9 fm h169 n0 Y169.sz f10 S (hcs) f169_1 f169_3 f169_2 f169_4 SA SH SL SF (hfm) (p9) (b0)) (argsL := [(.ref b163)]) (rest := []) rfl rfl (lenOf pd_17 rfl) rfl (by decide) (nle rfl) (by decide) (by decide) at_172 rfl (fun v172 T172 h172 Y172 q172 => ?_)
      obtain ⟨rfl, rfl⟩ := q172
      show Gl p e below _ (T172.setTop (mkF m 175 _ [(.int 0)]))
      refine Gl.istore Y172 (L' := #[.val (.int ln), .val (.int aa), .val (.int bb), .val (.int cc), .val (.int dd), .val (.int 1), .val (.int r9), .val (.int r15), .val (.int r21), .val (.int r28), .val (.int r9), .val (.int r15), .val (.int r21), .val (.int r28), .val (.ref b73), .val (.int 0), .unset]) rfl at_175 rfl ?_
      refine Gl.iconst Y172 (v := (-1 : Int32)) (by decide) at_177 rfl ?_
      refine Gl.istore Y172 (L' := #[.val (.int ln), .val (.int aa), .val (.int bb), .val (.int cc), .val (.int dd), .val (.int 1), .val (.int r9), .val (.int r15), .val (.int r21), .val (.int r28), .val (.int r9), .val (.int r15), .val (.int r21), .val (.int r28), .val (.ref b73), .val (.int 0), .val (.int (-1))]) rfl at_178 rfl ?_
      refine Gl.iload Y172 rfl at_180 rfl ?_
      refine Gl.iconst Y172 (v := (3 : Int32)) (by decide) at_182 rfl ?_
      refine Gl.icmple Y172 at_183 (by decide) rfl rfl (fun c183 => ?_) (fun c183 => ?_)
      rotate_left
      · exact absurd c183 (by decide)
      refine Gl.iload Y172 rfl at_197 rfl ?_
      refine Gl.iconst Y172 (v := (2 : Int32)) (by decide) at_199 rfl ?_
      refine Gl.icmple Y172 at_200 (by decide) rfl rfl (fun c200 => ?_) (fun c200 => ?_)
      rotate_left
      · exact absurd c200 (by decide)
      refine Gl.iload Y172 rfl at_214 rfl ?_
      refine Gl.iconst Y172 (v := (1 : Int32)) (by decide) at_216 rfl ?_
      refine Gl.icmple Y172 at_217 (by decide) rfl rfl (fun c217 => ?_) (fun c217 => ?_)
      rotate_left
      · exact absurd c217 (by decide)
      refine Gl.iload Y172 rfl at_231 rfl ?_
      refine Gl.ifle Y172 at_233 (by decide) rfl rfl (fun c233 => ?_) (fun c233 => ?_)
      · exact absurd c233 (by decide)
      refine Gl.iload Y172 rfl at_236 rfl ?_
      refine Gl.sipush Y172 (v := (255 : Int32)) (by decide) at_238 rfl ?_
      refine Gl.icmple Y172 at_241 (by decide) rfl rfl (fun c241 => ?_) (fun c241 => ?_)
      · exact absurd b0 c241
      refine Gl.iconst Y172 (v := (0 : Int32)) (by decide) at_244 rfl ?_
      refine Gl.istore Y172 (L' := #[.val (.int ln), .val (.int aa), .val (.int bb), .val (.int cc), .val (.int dd), .val (.int 1), .val (.int r9), .val (.int r15), .val (.int r21), .val (.int r28), .val (.int r9), .val (.int r15), .val (.int r21), .val (.int r28), .val (.ref b73), .val (.int 0), .val (.int 0)]) rfl at_245 rfl ?_
      refine Gl.iload Y172 rfl at_247 rfl ?_
      refine Gl.iload Y172 rfl at_249 rfl ?_
      refine Gl.icmpne Y172 at_251 (by decide) rfl rfl (fun c251 => ?_) (fun c251 => ?_)
      · exact absurd c251 (by decide)
      refine Gl.iconst Y172 (v := (1 : Int32)) (by decide) at_254 rfl ?_
      refine Gl.goto Y172 at_255 (by decide) rfl ?_
      exact Jvm.OwnWW.Gl.retZ (toW Y172) (by decide) (by decide) (x' := (1 : Int32)) (by decide) at_259 rfl
    · refine Gl.iload Y28 rfl at_53 rfl ?_
      refine Gl.ifne Y28 at_55 (by decide) rfl rfl (fun c55 => ?_) (fun c55 => ?_)
      rotate_left
      · exact absurd c55 (by decide)
      refine Gl.iload Y28 rfl at_66 rfl ?_
      refine Gl.iconst Y28 (v := (1 : Int32)) (by decide) at_68 rfl ?_
      refine Gl.icmpne Y28 at_69 (by decide) rfl rfl (fun c69 => ?_) (fun c69 => ?_)
      · exact absurd c69 (by decide)
      refine Gl.iconst Y28 (v := (1 : Int32)) (by decide) at_72 rfl ?_
      refine Gl.newP Y28 1 (ty := .char) rfl (tw_5 hw) (by decide) (by decide) (nle rfl) (nle rfl) (nle rfl) at_73 rfl (fun T73 h73 b73 ck73 Y73 E73 g73 sb73 V73 => ?_)
      have V73 : Arv Z h73 b73 ck73 .char (1 : Int32) [(.int 0)] (.int 0) := V73.pad (pad_rep [] (.int 0) 1)
      show Gl p e below _ (T73.setTop (mkF m 75 _ [(.ref b73)]))
      refine Gl.dup Y73 rfl at_75 rfl ?_
      refine Gl.iconst Y73 (v := (0 : Int32)) (by decide) at_76 rfl ?_
      refine Gl.iload Y73 rfl at_77 rfl ?_
      refine Gl.castore Y73 V73 (v := (.int r9)) (congrArg Value.int (own_narCr p9.1 p9.2)) ⟨by decide, by decide⟩ (ix := 0) rfl (nle rfl) sb73 at_79 rfl (fun T79 h79 Y79 W79 A79 => ?_)
      have A79 : Arv Z h79 b73 ck73 .char (1 : Int32) [(.int r9)] (.int 0) := A79
      show Gl p e below _ (T79.setTop (mkF m 80 _ [(.ref b73)]))
      refine Gl.astore Y79 rfl (L' := #[.val (.int ln), .val (.int aa), .val (.int bb), .val (.int cc), .val (.int dd), .val (.int 1), .val (.int r9), .val (.int r15), .val (.int r21), .val (.int r28), .val (.int r9), .val (.int r15), .val (.int r21), .val (.int r28), .val (.ref b73), .unset, .unset]) rfl at_80 rfl ?_
      refine Gl.goto Y79 at_82 (by decide) rfl ?_
      refine Gl.newO Y79 (tw_6 hw) (tw_7 hw) (tw_8 hw) (by decide) (by decide) at_163 rfl (fun T163 h163 b163 Y163 E163 g163 sb163 X163 D163 => ?_)
      have f11 : Fld Z h163 b163 "java/lang/String" "value" "[B" .null := D163 (Or.inr (tw_21 hw)) (ty := (.array .byte)) (by decide)
      have f12 : Fld Z h163 b163 "java/lang/String" "coder" "B" (.int 0) := D163 (Or.inr (tw_22 hw)) (ty := .byte) (by decide)
      show Gl p e below _ (T163.setTop (mkF m 166 _ [(.ref b163)]))
      refine Gl.dup Y163 rfl at_166 rfl ?_
      refine Gl.aload Y163 rfl rfl at_167 rfl ?_
      have f13 := (((O.ext E73).wr W79 sb73).ext E163)
      have f14 := (A79.ext E163)
      refine Gl.callN Y163 rfl (tw_9 hw) (tw_10 hw) (tw_8 hw) (tw_11 hw) (by decide) (rm53 l Z a0 hw b163 b73 ck73 cs r9 h163 n0 Y163.sz f13 S (hcs) SA SH SL X163 f11 f12 sb163 (Nat.ne_of_lt (Nat.lt_of_lt_of_eq A79.lt g163.symm)) f14 (b0) (p9)) (a := b163) (argsL := [(.ref b73)]) (rest := [(.ref b163)]) rfl rfl (lenOf pd_16 rfl) rfl (by decide) (nle rfl) (by decide) (by decide) at_169 rfl (fun v169 T169 h169 Y169 q169 => ?_)
      obtain ⟨b169, kb169, rfl, K169, f169_0, f169_1, f169_2, f169_3, f169_4⟩ := q169
      have Y169_sz : n0 ≤ h163.size := Y163.sz
      show Gl p e below _ (T169.setTop (mkF m 172 _ [(.ref b163)]))
      have f15 := (f13.keep K169 (allS sb163 all0))
      refine Gl.callS Y169 (tw_27 hw) (tw_28 hw) (tw_29 hw) (tw_30 hw) (by decide) (rm135 l Z a0 hw b163 b169 kb169 cs r9 fm h169 n0 Y169.sz f15 S (hcs) f169_1 f169_3 f169_2 f169_4 SF (hfm) (p9) (b0)) (argsL := [(.ref b163)]) (rest := []) rfl rfl (lenOf pd_17 rfl) rfl (by decide) (nle rfl) (by decide) (by decide) at_172 rfl (fun v172 T172 h172 Y172 q172 => ?_)
      obtain ⟨rfl, rfl⟩ := q172
      show Gl p e below _ (T172.setTop (mkF m 175 _ [(.int (-1))]))
      refine Gl.istore Y172 (L' := #[.val (.int ln), .val (.int aa), .val (.int bb), .val (.int cc), .val (.int dd), .val (.int 1), .val (.int r9), .val (.int r15), .val (.int r21), .val (.int r28), .val (.int r9), .val (.int r15), .val (.int r21), .val (.int r28), .val (.ref b73), .val (.int (-1)), .unset]) rfl at_175 rfl ?_
      refine Gl.iconst Y172 (v := (-1 : Int32)) (by decide) at_177 rfl ?_
      refine Gl.istore Y172 (L' := #[.val (.int ln), .val (.int aa), .val (.int bb), .val (.int cc), .val (.int dd), .val (.int 1), .val (.int r9), .val (.int r15), .val (.int r21), .val (.int r28), .val (.int r9), .val (.int r15), .val (.int r21), .val (.int r28), .val (.ref b73), .val (.int (-1)), .val (.int (-1))]) rfl at_178 rfl ?_
      refine Gl.iload Y172 rfl at_180 rfl ?_
      refine Gl.iconst Y172 (v := (3 : Int32)) (by decide) at_182 rfl ?_
      refine Gl.icmple Y172 at_183 (by decide) rfl rfl (fun c183 => ?_) (fun c183 => ?_)
      rotate_left
      · exact absurd c183 (by decide)
      refine Gl.iload Y172 rfl at_197 rfl ?_
      refine Gl.iconst Y172 (v := (2 : Int32)) (by decide) at_199 rfl ?_
      refine Gl.icmple Y172 at_200 (by decide) rfl rfl (fun c200 => ?_) (fun c200 => ?_)
      rotate_left
      · exact absurd c200 (by decide)
      refine Gl.iload Y172 rfl at_214 rfl ?_
      refine Gl.iconst Y172 (v := (1 : Int32)) (by decide) at_216 rfl ?_
      refine Gl.icmple Y172 at_217 (by decide) rfl rfl (fun c217 => ?_) (fun c217 => ?_)
      rotate_left
      · exact absurd c217 (by decide)
      refine Gl.iload Y172 rfl at_231 rfl ?_
      refine Gl.ifle Y172 at_233 (by decide) rfl rfl (fun c233 => ?_) (fun c233 => ?_)
      · exact absurd c233 (by decide)
      refine Gl.iload Y172 rfl at_236 rfl ?_
      refine Gl.sipush Y172 (v := (255 : Int32)) (by decide) at_238 rfl ?_
      refine Gl.icmple Y172 at_241 (by decide) rfl rfl (fun c241 => ?_) (fun c241 => ?_)
      rotate_left
      · exact absurd c241 b0
      refine Gl.iload Y172 rfl at_247 rfl ?_
      refine Gl.iload Y172 rfl at_249 rfl ?_
      refine Gl.icmpne Y172 at_251 (by decide) rfl rfl (fun c251 => ?_) (fun c251 => ?_)
      · exact absurd c251 (by decide)
      refine Gl.iconst Y172 (v := (1 : Int32)) (by decide) at_254 rfl ?_
      refine Gl.goto Y172 at_255 (by decide) rfl ?_
      exact Jvm.OwnWW.Gl.retZ (toW Y172) (by decide) (by decide) (x' := (1 : Int32)) (by decide) at_259 rfl
  · by_cases b0 : (255 : Int32) < r9
    · refine Gl.iload Y28 rfl at_53 rfl ?_
      refine Gl.ifne Y28 at_55 (by decide) rfl rfl (fun c55 => ?_) (fun c55 => ?_)
      rotate_left
      · exact absurd c55 (by decide)
      refine Gl.iload Y28 rfl at_66 rfl ?_
      refine Gl.iconst Y28 (v := (1 : Int32)) (by decide) at_68 rfl ?_
      refine Gl.icmpne Y28 at_69 (by decide) rfl rfl (fun c69 => ?_) (fun c69 => ?_)
      rotate_left
      · exact absurd c69 (by decide)
      refine Gl.iload Y28 rfl at_85 rfl ?_
      refine Gl.iconst Y28 (v := (2 : Int32)) (by decide) at_87 rfl ?_
      refine Gl.icmpne Y28 at_88 (by decide) rfl rfl (fun c88 => ?_) (fun c88 => ?_)
      · exact absurd c88 (by decide)
      refine Gl.iconst Y28 (v := (2 : Int32)) (by decide) at_91 rfl ?_
      refine Gl.newP Y28 2 (ty := .char) rfl (tw_5 hw) (by decide) (by decide) (nle rfl) (nle rfl) (nle rfl) at_92 rfl (fun T92 h92 b92 ck92 Y92 E92 g92 sb92 V92 => ?_)
      have V92 : Arv Z h92 b92 ck92 .char (2 : Int32) [(.int 0), (.int 0)] (.int 0) := V92.pad (pad_rep [] (.int 0) 2)
      show Gl p e below _ (T92.setTop (mkF m 94 _ [(.ref b92)]))
      refine Gl.dup Y92 rfl at_94 rfl ?_
      refine Gl.iconst Y92 (v := (0 : Int32)) (by decide) at_95 rfl ?_
      refine Gl.iload Y92 rfl at_96 rfl ?_
      refine Gl.castore Y92 V92 (v := (.int r9)) (congrArg Value.int (own_narCr p9.1 p9.2)) ⟨by decide, by decide⟩ (ix := 0) rfl (nle rfl) sb92 at_98 rfl (fun T98 h98 Y98 W98 A98 => ?_)
      have A98 : Arv Z h98 b92 ck92 .char (2 : Int32) [(.int r9), (.int 0)] (.int 0) := A98
      show Gl p e below _ (T98.setTop (mkF m 99 _ [(.ref b92)]))
      refine Gl.dup Y98 rfl at_99 rfl ?_
      refine Gl.iconst Y98 (v := (1 : Int32)) (by decide) at_100 rfl ?_
      refine Gl.iload Y98 rfl at_101 rfl ?_
      refine Gl.castore Y98 A98 (v := (.int r15)) (congrArg Value.int (own_narCr p15.1 p15.2)) ⟨by decide, by decide⟩ (ix := 1) rfl (nle rfl) sb92 at_103 rfl (fun T103 h103 Y103 W103 A103 => ?_)
      have A103 : Arv Z h103 b92 ck92 .char (2 : Int32) [(.int r9), (.int r15)] (.int 0) := A103
      show Gl p e below _ (T103.setTop (mkF m 104 _ [(.ref b92)]))
      refine Gl.astore Y103 rfl (L' := #[.val (.int ln), .val (.int aa), .val (.int bb), .val (.int cc), .val (.int dd), .val (.int 2), .val (.int r9), .val (.int r15), .val (.int r21), .val (.int r28), .val (.int r9), .val (.int r15), .val (.int r21), .val (.int r28), .val (.ref b92), .unset, .unset]) rfl at_104 rfl ?_
      refine Gl.goto Y103 at_106 (by decide) rfl ?_
      refine Gl.newO Y103 (tw_6 hw) (tw_7 hw) (tw_8 hw) (by decide) (by decide) at_163 rfl (fun T163 h163 b163 Y163 E163 g163 sb163 X163 D163 => ?_)
      have f16 : Fld Z h163 b163 "java/lang/String" "value" "[B" .null := D163 (Or.inr (tw_21 hw)) (ty := (.array .byte)) (by decide)
      have f17 : Fld Z h163 b163 "java/lang/String" "coder" "B" (.int 0) := D163 (Or.inr (tw_22 hw)) (ty := .byte) (by decide)
      show Gl p e below _ (T163.setTop (mkF m 166 _ [(.ref b163)]))
      refine Gl.dup Y163 rfl at_166 rfl ?_
      refine Gl.aload Y163 rfl rfl at_167 rfl ?_
      have f18 := ((((O.ext E92).wr W98 sb92).wr W103 sb92).ext E163)
      have f19 := (A103.ext E163)
      refine Gl.callN Y163 rfl (tw_9 hw) (tw_10 hw) (tw_8 hw) (tw_11 hw) (by decide) (rm58 l Z a0 hw b163 b92 ck92 cs r9 r15 h163 n0 Y163.sz f18 S (hcs) SA SH SL X163 f16 f17 sb163 (Nat.ne_of_lt (Nat.lt_of_lt_of_eq A103.lt g163.symm)) f19 (b0) (p9) (p15)) (a := b163) (argsL := [(.ref b92)]) (rest := [(.ref b163)]) rfl rfl (lenOf pd_16 rfl) rfl (by decide) (nle rfl) (by decide) (by decide) at_169 rfl (fun v169 T169 h169 Y169 q169 => ?_)
      obtain ⟨b169, kb169, rfl, K169, f169_0, f169_1, f169_2, f169_3, f169_4⟩ := q169
      have Y169_sz : n0 ≤ h163.size := Y163.sz
      show Gl p e below _ (T169.setTop (mkF m 172 _ [(.ref b163)]))
      have f20 := (f18.keep K169 (allS sb163 all0))
      refine Gl.callS Y169 (tw_27 hw) (tw_28 hw) (tw_29 hw) (tw_30 hw) (by decide) (rm142 l Z a0 hw b163 b169 kb169 cs r9 r15 fm h169 n0 Y169.sz f20 S (hcs) f169_1 f169_3 f169_2 f169_4 SA SH SL SF (hfm) (p9) (p15) (b0)) (argsL := [(.ref b163)]) (rest := []) rfl rfl (lenOf pd_17 rfl) rfl (by decide) (nle rfl) (by decide) (by decide) at_172 rfl (fun v172 T172 h172 Y172 q172 => ?_)
      obtain ⟨rfl, rfl⟩ := q172
      show Gl p e below _ (T172.setTop (mkF m 175 _ [(.int 0)]))
      refine Gl.istore Y172 (L' := #[.val (.int ln), .val (.int aa), .val (.int bb), .val (.int cc), .val (.int dd), .val (.int 2), .val (.int r9), .val (.int r15), .val (.int r21), .val (.int r28), .val (.int r9), .val (.int r15), .val (.int r21), .val (.int r28), .val (.ref b92), .val (.int 0), .unset]) rfl at_175 rfl ?_
      refine Gl.iconst Y172 (v := (-1 : Int32)) (by decide) at_177 rfl ?_
      refine Gl.istore Y172 (L' := #[.val (.int ln), .val (.int aa), .val (.int bb), .val (.int cc), .val (.int dd), .val (.int 2), .val (.int r9), .val (.int r15), .val (.int r21), .val (.int r28), .val (.int r9), .val (.int r15), .val (.int r21), .val (.int r28), .val (.ref b92), .val (.int 0), .val (.int (-1))]) rfl at_178 rfl ?_
      refine Gl.iload Y172 rfl at_180 rfl ?_
      refine Gl.iconst Y172 (v := (3 : Int32)) (by decide) at_182 rfl ?_
      refine Gl.icmple Y172 at_183 (by decide) rfl rfl (fun c183 => ?_) (fun c183 => ?_)
      rotate_left
      · exact absurd c183 (by decide)
      refine Gl.iload Y172 rfl at_197 rfl ?_
      refine Gl.iconst Y172 (v := (2 : Int32)) (by decide) at_199 rfl ?_
      refine Gl.icmple Y172 at_200 (by decide) rfl rfl (fun c200 => ?_) (fun c200 => ?_)
      rotate_left
      · exact absurd c200 (by decide)
      refine Gl.iload Y172 rfl at_214 rfl ?_
      refine Gl.iconst Y172 (v := (1 : Int32)) (by decide) at_216 rfl ?_
      refine Gl.icmple Y172 at_217 (by decide) rfl rfl (fun c217 => ?_) (fun c217 => ?_)
      · exact absurd c217 (by decide)
      refine Gl.iload Y172 rfl at_220 rfl ?_
      refine Gl.sipush Y172 (v := (255 : Int32)) (by decide) at_222 rfl ?_
      obtain ⟨z225, hz225⟩ : ∃ z : Int32, (if (255 : Int32) < r15 then (1 : Int32) else (-1 : Int32)) = z := ⟨_, rfl⟩
      refine own_cut (B := ∀ T', Sd Z "com/example/ref_search/refsearch/matcher/ProbesOffsetFromU0100PinLaw" code maxLocals (some .boolean) n0 p l e room_1 s m #[(.int ln), (.int aa), (.int bb), (.int cc), (.int dd)] below meth c T' h169 4 12 → Gl p e below (Jvm.OwnWW.Pst s n0 room_1.cells room_1.slots (QL Z ln aa bb cc dd cs fm h0)) (T'.setTop (mkF m 231 #[.val (.int ln), .val (.int aa), .val (.int bb), .val (.int cc), .val (.int dd), .val (.int 2), .val (.int r9), .val (.int r15), .val (.int r21), .val (.int r28), .val (.int r9), .val (.int r15), .val (.int r21), .val (.int r28), .val (.ref b92), .val (.int 0), .val (.int z225)] []))) (fun jk => ?_) (fun T225j Y225j => ?_)
      · refine Gl.icmple Y172 at_225 (by decide) rfl rfl (fun c225 => ?_) (fun c225 => ?_)
        · have ez225 : z225 = (-1 : Int32) := by rw [← hz225]; simp only [c225, ↓reduceIte, if_true, if_false]
          rw [ez225] at jk
          exact jk T172 Y172
        · refine Gl.iconst Y172 (v := (1 : Int32)) (by decide) at_228 rfl ?_
          refine Gl.istore Y172 (L' := #[.val (.int ln), .val (.int aa), .val (.int bb), .val (.int cc), .val (.int dd), .val (.int 2), .val (.int r9), .val (.int r15), .val (.int r21), .val (.int r28), .val (.int r9), .val (.int r15), .val (.int r21), .val (.int r28), .val (.ref b92), .val (.int 0), .val (.int 1)]) rfl at_229 rfl ?_
          have ez225 : z225 = (1 : Int32) := by rw [← hz225]; simp only [c225, ↓reduceIte, if_true, if_false]
          rw [ez225] at jk
          exact jk T172 Y172
      refine Gl.iload Y225j rfl at_231 rfl ?_
      refine Gl.ifle Y225j at_233 (by decide) rfl rfl (fun c233 => ?_) (fun c233 => ?_)
      · exact absurd c233 (by decide)
      refine Gl.iload Y225j rfl at_236 rfl ?_
      refine Gl.sipush Y225j (v := (255 : Int32)) (by decide) at_238 rfl ?_
      refine Gl.icmple Y225j at_241 (by decide) rfl rfl (fun c241 => ?_) (fun c241 => ?_)
      · exact absurd b0 c241
      refine Gl.iconst Y225j (v := (0 : Int32)) (by decide) at_244 rfl ?_
      refine Gl.istore Y225j (L' := #[.val (.int ln), .val (.int aa), .val (.int bb), .val (.int cc), .val (.int dd), .val (.int 2), .val (.int r9), .val (.int r15), .val (.int r21), .val (.int r28), .val (.int r9), .val (.int r15), .val (.int r21), .val (.int r28), .val (.ref b92), .val (.int 0), .val (.int 0)]) rfl at_245 rfl ?_
      refine Gl.iload Y225j rfl at_247 rfl ?_
      refine Gl.iload Y225j rfl at_249 rfl ?_
      refine Gl.icmpne Y225j at_251 (by decide) rfl rfl (fun c251 => ?_) (fun c251 => ?_)
      · exact absurd c251 (by decide)
      refine Gl.iconst Y225j (v := (1 : Int32)) (by decide) at_254 rfl ?_
      refine Gl.goto Y225j at_255 (by decide) rfl ?_
      exact Jvm.OwnWW.Gl.retZ (toW Y225j) (by decide) (by decide) (x' := (1 : Int32)) (by decide) at_259 rfl
    · by_cases b1 : (255 : Int32) < r15
      · refine Gl.iload Y28 rfl at_53 rfl ?_
        refine Gl.ifne Y28 at_55 (by decide) rfl rfl (fun c55 => ?_) (fun c55 => ?_)
        rotate_left
        · exact absurd c55 (by decide)
        refine Gl.iload Y28 rfl at_66 rfl ?_
        refine Gl.iconst Y28 (v := (1 : Int32)) (by decide) at_68 rfl ?_
        refine Gl.icmpne Y28 at_69 (by decide) rfl rfl (fun c69 => ?_) (fun c69 => ?_)
        rotate_left
        · exact absurd c69 (by decide)
        refine Gl.iload Y28 rfl at_85 rfl ?_
        refine Gl.iconst Y28 (v := (2 : Int32)) (by decide) at_87 rfl ?_
        refine Gl.icmpne Y28 at_88 (by decide) rfl rfl (fun c88 => ?_) (fun c88 => ?_)
        · exact absurd c88 (by decide)
        refine Gl.iconst Y28 (v := (2 : Int32)) (by decide) at_91 rfl ?_
        refine Gl.newP Y28 2 (ty := .char) rfl (tw_5 hw) (by decide) (by decide) (nle rfl) (nle rfl) (nle rfl) at_92 rfl (fun T92 h92 b92 ck92 Y92 E92 g92 sb92 V92 => ?_)
        have V92 : Arv Z h92 b92 ck92 .char (2 : Int32) [(.int 0), (.int 0)] (.int 0) := V92.pad (pad_rep [] (.int 0) 2)
        show Gl p e below _ (T92.setTop (mkF m 94 _ [(.ref b92)]))
        refine Gl.dup Y92 rfl at_94 rfl ?_
        refine Gl.iconst Y92 (v := (0 : Int32)) (by decide) at_95 rfl ?_
        refine Gl.iload Y92 rfl at_96 rfl ?_
        refine Gl.castore Y92 V92 (v := (.int r9)) (congrArg Value.int (own_narCr p9.1 p9.2)) ⟨by decide, by decide⟩ (ix := 0) rfl (nle rfl) sb92 at_98 rfl (fun T98 h98 Y98 W98 A98 => ?_)
        have A98 : Arv Z h98 b92 ck92 .char (2 : Int32) [(.int r9), (.int 0)] (.int 0) := A98
        show Gl p e below _ (T98.setTop (mkF m 99 _ [(.ref b92)]))
        refine Gl.dup Y98 rfl at_99 rfl ?_
        refine Gl.iconst Y98 (v := (1 : Int32)) (by decide) at_100 rfl ?_
        refine Gl.iload Y98 rfl at_101 rfl ?_
        refine Gl.castore Y98 A98 (v := (.int r15)) (congrArg Value.int (own_narCr p15.1 p15.2)) ⟨by decide, by decide⟩ (ix := 1) rfl (nle rfl) sb92 at_103 rfl (fun T103 h103 Y103 W103 A103 => ?_)
        have A103 : Arv Z h103 b92 ck92 .char (2 : Int32) [(.int r9), (.int r15)] (.int 0) := A103
        show Gl p e below _ (T103.setTop (mkF m 104 _ [(.ref b92)]))
        refine Gl.astore Y103 rfl (L' := #[.val (.int ln), .val (.int aa), .val (.int bb), .val (.int cc), .val (.int dd), .val (.int 2), .val (.int r9), .val (.int r15), .val (.int r21), .val (.int r28), .val (.int r9), .val (.int r15), .val (.int r21), .val (.int r28), .val (.ref b92), .unset, .unset]) rfl at_104 rfl ?_
        refine Gl.goto Y103 at_106 (by decide) rfl ?_
        refine Gl.newO Y103 (tw_6 hw) (tw_7 hw) (tw_8 hw) (by decide) (by decide) at_163 rfl (fun T163 h163 b163 Y163 E163 g163 sb163 X163 D163 => ?_)
        have f21 : Fld Z h163 b163 "java/lang/String" "value" "[B" .null := D163 (Or.inr (tw_21 hw)) (ty := (.array .byte)) (by decide)
        have f22 : Fld Z h163 b163 "java/lang/String" "coder" "B" (.int 0) := D163 (Or.inr (tw_22 hw)) (ty := .byte) (by decide)
        show Gl p e below _ (T163.setTop (mkF m 166 _ [(.ref b163)]))
        refine Gl.dup Y163 rfl at_166 rfl ?_
        refine Gl.aload Y163 rfl rfl at_167 rfl ?_
        have f23 := ((((O.ext E92).wr W98 sb92).wr W103 sb92).ext E163)
        have f24 := (A103.ext E163)
        refine Gl.callN Y163 rfl (tw_9 hw) (tw_10 hw) (tw_8 hw) (tw_11 hw) (by decide) (rm61 l Z a0 hw b163 b92 ck92 cs r9 r15 h163 n0 Y163.sz f23 S (hcs) SA SH SL X163 f21 f22 sb163 (Nat.ne_of_lt (Nat.lt_of_lt_of_eq A103.lt g163.symm)) f24 (b0) (b1) (p9) (p15)) (a := b163) (argsL := [(.ref b92)]) (rest := [(.ref b163)]) rfl rfl (lenOf pd_16 rfl) rfl (by decide) (nle rfl) (by decide) (by decide) at_169 rfl (fun v169 T169 h169 Y169 q169 => ?_)
        obtain ⟨b169, kb169, rfl, K169, f169_0, f169_1, f169_2, f169_3, f169_4⟩ := q169
        have Y169_sz : n0 ≤ h163.size := Y163.sz
        show Gl p e below _ (T169.setTop (mkF m 172 _ [(.ref b163)]))
        have f25 := (f23.keep K169 (allS sb163 all0))
        refine Gl.callS Y169 (tw_27 hw) (tw_28 hw) (tw_29 hw) (tw_30 hw) (by decide) (rm143 l Z a0 hw b163 b169 kb169 cs r9 r15 fm h169 n0 Y169.sz f25 S (hcs) f169_1 f169_3 f169_2 f169_4 SA SH SL SF (hfm) (p9) (p15) (b0) (b1)) (argsL := [(.ref b163)]) (rest := []) rfl rfl (lenOf pd_17 rfl) rfl (by decide) (nle rfl) (by decide) (by decide) at_172 rfl (fun v172 T172 h172 Y172 q172 => ?_)
        obtain ⟨rfl, rfl⟩ := q172
        show Gl p e below _ (T172.setTop (mkF m 175 _ [(.int 1)]))
        refine Gl.istore Y172 (L' := #[.val (.int ln), .val (.int aa), .val (.int bb), .val (.int cc), .val (.int dd), .val (.int 2), .val (.int r9), .val (.int r15), .val (.int r21), .val (.int r28), .val (.int r9), .val (.int r15), .val (.int r21), .val (.int r28), .val (.ref b92), .val (.int 1), .unset]) rfl at_175 rfl ?_
        refine Gl.iconst Y172 (v := (-1 : Int32)) (by decide) at_177 rfl ?_
        refine Gl.istore Y172 (L' := #[.val (.int ln), .val (.int aa), .val (.int bb), .val (.int cc), .val (.int dd), .val (.int 2), .val (.int r9), .val (.int r15), .val (.int r21), .val (.int r28), .val (.int r9), .val (.int r15), .val (.int r21), .val (.int r28), .val (.ref b92), .val (.int 1), .val (.int (-1))]) rfl at_178 rfl ?_
        refine Gl.iload Y172 rfl at_180 rfl ?_
        refine Gl.iconst Y172 (v := (3 : Int32)) (by decide) at_182 rfl ?_
        refine Gl.icmple Y172 at_183 (by decide) rfl rfl (fun c183 => ?_) (fun c183 => ?_)
        rotate_left
        · exact absurd c183 (by decide)
        refine Gl.iload Y172 rfl at_197 rfl ?_
        refine Gl.iconst Y172 (v := (2 : Int32)) (by decide) at_199 rfl ?_
        refine Gl.icmple Y172 at_200 (by decide) rfl rfl (fun c200 => ?_) (fun c200 => ?_)
        rotate_left
        · exact absurd c200 (by decide)
        refine Gl.iload Y172 rfl at_214 rfl ?_
        refine Gl.iconst Y172 (v := (1 : Int32)) (by decide) at_216 rfl ?_
        refine Gl.icmple Y172 at_217 (by decide) rfl rfl (fun c217 => ?_) (fun c217 => ?_)
        · exact absurd c217 (by decide)
        refine Gl.iload Y172 rfl at_220 rfl ?_
        refine Gl.sipush Y172 (v := (255 : Int32)) (by decide) at_222 rfl ?_
        refine Gl.icmple Y172 at_225 (by decide) rfl rfl (fun c225 => ?_) (fun c225 => ?_)
        · exact absurd b1 c225
        refine Gl.iconst Y172 (v := (1 : Int32)) (by decide) at_228 rfl ?_
        refine Gl.istore Y172 (L' := #[.val (.int ln), .val (.int aa), .val (.int bb), .val (.int cc), .val (.int dd), .val (.int 2), .val (.int r9), .val (.int r15), .val (.int r21), .val (.int r28), .val (.int r9), .val (.int r15), .val (.int r21), .val (.int r28), .val (.ref b92), .val (.int 1), .val (.int 1)]) rfl at_229 rfl ?_
        refine Gl.iload Y172 rfl at_231 rfl ?_
        refine Gl.ifle Y172 at_233 (by decide) rfl rfl (fun c233 => ?_) (fun c233 => ?_)
        · exact absurd c233 (by decide)
        refine Gl.iload Y172 rfl at_236 rfl ?_
        refine Gl.sipush Y172 (v := (255 : Int32)) (by decide) at_238 rfl ?_
        refine Gl.icmple Y172 at_241 (by decide) rfl rfl (fun c241 => ?_) (fun c241 => ?_)
        rotate_left
        · exact absurd c241 b0
        refine Gl.iload Y172 rfl at_247 rfl ?_
        refine Gl.iload Y172 rfl at_249 rfl ?_
        refine Gl.icmpne Y172 at_251 (by decide) rfl rfl (fun c251 => ?_) (fun c251 => ?_)
        · exact absurd c251 (by decide)
        refine Gl.iconst Y172 (v := (1 : Int32)) (by decide) at_254 rfl ?_
        refine Gl.goto Y172 at_255 (by decide) rfl ?_
        exact Jvm.OwnWW.Gl.retZ (toW Y172) (by decide) (by decide) (x' := (1 : Int32)) (by decide) at_259 rfl
      · refine Gl.iload Y28 rfl at_53 rfl ?_
        refine Gl.ifne Y28 at_55 (by decide) rfl rfl (fun c55 => ?_) (fun c55 => ?_)
        rotate_left
        · exact absurd c55 (by decide)
        refine Gl.iload Y28 rfl at_66 rfl ?_
        refine Gl.iconst Y28 (v := (1 : Int32)) (by decide) at_68 rfl ?_
        refine Gl.icmpne Y28 at_69 (by decide) rfl rfl (fun c69 => ?_) (fun c69 => ?_)
        rotate_left
        · exact absurd c69 (by decide)
        refine Gl.iload Y28 rfl at_85 rfl ?_
        refine Gl.iconst Y28 (v := (2 : Int32)) (by decide) at_87 rfl ?_
        refine Gl.icmpne Y28 at_88 (by decide) rfl rfl (fun c88 => ?_) (fun c88 => ?_)
        · exact absurd c88 (by decide)
        refine Gl.iconst Y28 (v := (2 : Int32)) (by decide) at_91 rfl ?_
        refine Gl.newP Y28 2 (ty := .char) rfl (tw_5 hw) (by decide) (by decide) (nle rfl) (nle rfl) (nle rfl) at_92 rfl (fun T92 h92 b92 ck92 Y92 E92 g92 sb92 V92 => ?_)
        have V92 : Arv Z h92 b92 ck92 .char (2 : Int32) [(.int 0), (.int 0)] (.int 0) := V92.pad (pad_rep [] (.int 0) 2)
        show Gl p e below _ (T92.setTop (mkF m 94 _ [(.ref b92)]))
        refine Gl.dup Y92 rfl at_94 rfl ?_
        refine Gl.iconst Y92 (v := (0 : Int32)) (by decide) at_95 rfl ?_
        refine Gl.iload Y92 rfl at_96 rfl ?_
        refine Gl.castore Y92 V92 (v := (.int r9)) (congrArg Value.int (own_narCr p9.1 p9.2)) ⟨by decide, by decide⟩ (ix := 0) rfl (nle rfl) sb92 at_98 rfl (fun T98 h98 Y98 W98 A98 => ?_)
        have A98 : Arv Z h98 b92 ck92 .char (2 : Int32) [(.int r9), (.int 0)] (.int 0) := A98
        show Gl p e below _ (T98.setTop (mkF m 99 _ [(.ref b92)]))
        refine Gl.dup Y98 rfl at_99 rfl ?_
        refine Gl.iconst Y98 (v := (1 : Int32)) (by decide) at_100 rfl ?_
        refine Gl.iload Y98 rfl at_101 rfl ?_
        refine Gl.castore Y98 A98 (v := (.int r15)) (congrArg Value.int (own_narCr p15.1 p15.2)) ⟨by decide, by decide⟩ (ix := 1) rfl (nle rfl) sb92 at_103 rfl (fun T103 h103 Y103 W103 A103 => ?_)
        have A103 : Arv Z h103 b92 ck92 .char (2 : Int32) [(.int r9), (.int r15)] (.int 0) := A103
        show Gl p e below _ (T103.setTop (mkF m 104 _ [(.ref b92)]))
        refine Gl.astore Y103 rfl (L' := #[.val (.int ln), .val (.int aa), .val (.int bb), .val (.int cc), .val (.int dd), .val (.int 2), .val (.int r9), .val (.int r15), .val (.int r21), .val (.int r28), .val (.int r9), .val (.int r15), .val (.int r21), .val (.int r28), .val (.ref b92), .unset, .unset]) rfl at_104 rfl ?_
        refine Gl.goto Y103 at_106 (by decide) rfl ?_
        refine Gl.newO Y103 (tw_6 hw) (tw_7 hw) (tw_8 hw) (by decide) (by decide) at_163 rfl (fun T163 h163 b163 Y163 E163 g163 sb163 X163 D163 => ?_)
        have f26 : Fld Z h163 b163 "java/lang/String" "value" "[B" .null := D163 (Or.inr (tw_21 hw)) (ty := (.array .byte)) (by decide)
        have f27 : Fld Z h163 b163 "java/lang/String" "coder" "B" (.int 0) := D163 (Or.inr (tw_22 hw)) (ty := .byte) (by decide)
        show Gl p e below _ (T163.setTop (mkF m 166 _ [(.ref b163)]))
        refine Gl.dup Y163 rfl at_166 rfl ?_
        refine Gl.aload Y163 rfl rfl at_167 rfl ?_
        have f28 := ((((O.ext E92).wr W98 sb92).wr W103 sb92).ext E163)
        have f29 := (A103.ext E163)
        refine Gl.callN Y163 rfl (tw_9 hw) (tw_10 hw) (tw_8 hw) (tw_11 hw) (by decide) (rm64 l Z a0 hw b163 b92 ck92 cs r9 r15 h163 n0 Y163.sz f28 S (hcs) SA SH SL X163 f26 f27 sb163 (Nat.ne_of_lt (Nat.lt_of_lt_of_eq A103.lt g163.symm)) f29 (b0) (b1) (p9) (p15)) (a := b163) (argsL := [(.ref b92)]) (rest := [(.ref b163)]) rfl rfl (lenOf pd_16 rfl) rfl (by decide) (nle rfl) (by decide) (by decide) at_169 rfl (fun v169 T169 h169 Y169 q169 => ?_)
        obtain ⟨b169, kb169, rfl, K169, f169_0, f169_1, f169_2, f169_3, f169_4⟩ := q169
        have Y169_sz : n0 ≤ h163.size := Y163.sz
        show Gl p e below _ (T169.setTop (mkF m 172 _ [(.ref b163)]))
        have f30 := (f28.keep K169 (allS sb163 all0))
        refine Gl.callS Y169 (tw_27 hw) (tw_28 hw) (tw_29 hw) (tw_30 hw) (by decide) (rm144 l Z a0 hw b163 b169 kb169 cs r9 r15 fm h169 n0 Y169.sz f30 S (hcs) f169_1 f169_3 f169_2 f169_4 SF (hfm) (p9) (p15) (b0) (b1)) (argsL := [(.ref b163)]) (rest := []) rfl rfl (lenOf pd_17 rfl) rfl (by decide) (nle rfl) (by decide) (by decide) at_172 rfl (fun v172 T172 h172 Y172 q172 => ?_)
        obtain ⟨rfl, rfl⟩ := q172
        show Gl p e below _ (T172.setTop (mkF m 175 _ [(.int (-1))]))
        refine Gl.istore Y172 (L' := #[.val (.int ln), .val (.int aa), .val (.int bb), .val (.int cc), .val (.int dd), .val (.int 2), .val (.int r9), .val (.int r15), .val (.int r21), .val (.int r28), .val (.int r9), .val (.int r15), .val (.int r21), .val (.int r28), .val (.ref b92), .val (.int (-1)), .unset]) rfl at_175 rfl ?_
        refine Gl.iconst Y172 (v := (-1 : Int32)) (by decide) at_177 rfl ?_
        refine Gl.istore Y172 (L' := #[.val (.int ln), .val (.int aa), .val (.int bb), .val (.int cc), .val (.int dd), .val (.int 2), .val (.int r9), .val (.int r15), .val (.int r21), .val (.int r28), .val (.int r9), .val (.int r15), .val (.int r21), .val (.int r28), .val (.ref b92), .val (.int (-1)), .val (.int (-1))]) rfl at_178 rfl ?_
        refine Gl.iload Y172 rfl at_180 rfl ?_
        refine Gl.iconst Y172 (v := (3 : Int32)) (by decide) at_182 rfl ?_
        refine Gl.icmple Y172 at_183 (by decide) rfl rfl (fun c183 => ?_) (fun c183 => ?_)
        rotate_left
        · exact absurd c183 (by decide)
        refine Gl.iload Y172 rfl at_197 rfl ?_
        refine Gl.iconst Y172 (v := (2 : Int32)) (by decide) at_199 rfl ?_
        refine Gl.icmple Y172 at_200 (by decide) rfl rfl (fun c200 => ?_) (fun c200 => ?_)
        rotate_left
        · exact absurd c200 (by decide)
        refine Gl.iload Y172 rfl at_214 rfl ?_
        refine Gl.iconst Y172 (v := (1 : Int32)) (by decide) at_216 rfl ?_
        refine Gl.icmple Y172 at_217 (by decide) rfl rfl (fun c217 => ?_) (fun c217 => ?_)
        · exact absurd c217 (by decide)
        refine Gl.iload Y172 rfl at_220 rfl ?_
        refine Gl.sipush Y172 (v := (255 : Int32)) (by decide) at_222 rfl ?_
        refine Gl.icmple Y172 at_225 (by decide) rfl rfl (fun c225 => ?_) (fun c225 => ?_)
        rotate_left
        · exact absurd c225 b1
        refine Gl.iload Y172 rfl at_231 rfl ?_
        refine Gl.ifle Y172 at_233 (by decide) rfl rfl (fun c233 => ?_) (fun c233 => ?_)
        · exact absurd c233 (by decide)
        refine Gl.iload Y172 rfl at_236 rfl ?_
        refine Gl.sipush Y172 (v := (255 : Int32)) (by decide) at_238 rfl ?_
        refine Gl.icmple Y172 at_241 (by decide) rfl rfl (fun c241 => ?_) (fun c241 => ?_)
        rotate_left
        · exact absurd c241 b0
        refine Gl.iload Y172 rfl at_247 rfl ?_
        refine Gl.iload Y172 rfl at_249 rfl ?_
        refine Gl.icmpne Y172 at_251 (by decide) rfl rfl (fun c251 => ?_) (fun c251 => ?_)
        · exact absurd c251 (by decide)
        refine Gl.iconst Y172 (v := (1 : Int32)) (by decide) at_254 rfl ?_
        refine Gl.goto Y172 at_255 (by decide) rfl ?_
        exact Jvm.OwnWW.Gl.retZ (toW Y172) (by decide) (by decide) (x' := (1 : Int32)) (by decide) at_259 rfl
  · by_cases b0 : (255 : Int32) < r9
    · refine Gl.iload Y28 rfl at_53 rfl ?_
      refine Gl.ifne Y28 at_55 (by decide) rfl rfl (fun c55 => ?_) (fun c55 => ?_)
      rotate_left
      · exact absurd c55 (by decide)
      refine Gl.iload Y28 rfl at_66 rfl ?_
      refine Gl.iconst Y28 (v := (1 : Int32)) (by decide) at_68 rfl ?_
      refine Gl.icmpne Y28 at_69 (by decide) rfl rfl (fun c69 => ?_) (fun c69 => ?_)
      rotate_left
      · exact absurd c69 (by decide)
      refine Gl.iload Y28 rfl at_85 rfl ?_
      refine Gl.iconst Y28 (v := (2 : Int32)) (by decide) at_87 rfl ?_
      refine Gl.icmpne Y28 at_88 (by decide) rfl rfl (fun c88 => ?_) (fun c88 => ?_)
      rotate_left
      · exact absurd c88 (by decide)
      refine Gl.iload Y28 rfl at_109 rfl ?_
      refine Gl.iconst Y28 (v := (3 : Int32)) (by decide) at_111 rfl ?_
      refine Gl.icmpne Y28 at_112 (by decide) rfl rfl (fun c112 => ?_) (fun c112 => ?_)
      · exact absurd c112 (by decide)
      refine Gl.iconst Y28 (v := (3 : Int32)) (by decide) at_115 rfl ?_
      refine Gl.newP Y28 3 (ty := .char) rfl (tw_5 hw) (by decide) (by decide) (nle rfl) (nle rfl) (nle rfl) at_116 rfl (fun T116 h116 b116 ck116 Y116 E116 g116 sb116 V116 => ?_)
      have V116 : Arv Z h116 b116 ck116 .char (3 : Int32) [(.int 0), (.int 0), (.int 0)] (.int 0) := V116.pad (pad_rep [] (.int 0) 3)
      show Gl p e below _ (T116.setTop (mkF m 118 _ [(.ref b116)]))
      refine Gl.dup Y116 rfl at_118 rfl ?_
      refine Gl.iconst Y116 (v := (0 : Int32)) (by decide) at_119 rfl ?_
      refine Gl.iload Y116 rfl at_120 rfl ?_
      refine Gl.castore Y116 V116 (v := (.int r9)) (congrArg Value.int (own_narCr p9.1 p9.2)) ⟨by decide, by decide⟩ (ix := 0) rfl (nle rfl) sb116 at_122 rfl (fun T122 h122 Y122 W122 A122 => ?_)
      have A122 : Arv Z h122 b116 ck116 .char (3 : Int32) [(.int r9), (.int 0), (.int 0)] (.int 0) := A122
      show Gl p e below _ (T122.setTop (mkF m 123 _ [(.ref b116)]))
      refine Gl.dup Y122 rfl at_123 rfl ?_
      refine Gl.iconst Y122 (v := (1 : Int32)) (by decide) at_124 rfl ?_
      refine Gl.iload Y122 rfl at_125 rfl ?_
      refine Gl.castore Y122 A122 (v := (.int r15)) (congrArg Value.int (own_narCr p15.1 p15.2)) ⟨by decide, by decide⟩ (ix := 1) rfl (nle rfl) sb116 at_127 rfl (fun T127 h127 Y127 W127 A127 => ?_)
      have A127 : Arv Z h127 b116 ck116 .char (3 : Int32) [(.int r9), (.int r15), (.int 0)] (.int 0) := A127
      show Gl p e below _ (T127.setTop (mkF m 128 _ [(.ref b116)]))
      refine Gl.dup Y127 rfl at_128 rfl ?_
      refine Gl.iconst Y127 (v := (2 : Int32)) (by decide) at_129 rfl ?_
      refine Gl.iload Y127 rfl at_130 rfl ?_
      refine Gl.castore Y127 A127 (v := (.int r21)) (congrArg Value.int (own_narCr p21.1 p21.2)) ⟨by decide, by decide⟩ (ix := 2) rfl (nle rfl) sb116 at_132 rfl (fun T132 h132 Y132 W132 A132 => ?_)
      have A132 : Arv Z h132 b116 ck116 .char (3 : Int32) [(.int r9), (.int r15), (.int r21)] (.int 0) := A132
      show Gl p e below _ (T132.setTop (mkF m 133 _ [(.ref b116)]))
      refine Gl.astore Y132 rfl (L' := #[.val (.int ln), .val (.int aa), .val (.int bb), .val (.int cc), .val (.int dd), .val (.int 3), .val (.int r9), .val (.int r15), .val (.int r21), .val (.int r28), .val (.int r9), .val (.int r15), .val (.int r21), .val (.int r28), .val (.ref b116), .unset, .unset]) rfl at_133 rfl ?_
      refine Gl.goto Y132 at_135 (by decide) rfl ?_
      refine Gl.newO Y132 (tw_6 hw) (tw_7 hw) (tw_8 hw) (by decide) (by decide) at_163 rfl (fun T163 h163 b163 Y163 E163 g163 sb163 X163 D163 => ?_)
      have f31 : Fld Z h163 b163 "java/lang/String" "value" "[B" .null := D163 (Or.inr (tw_21 hw)) (ty := (.array .byte)) (by decide)
      have f32 : Fld Z h163 b163 "java/lang/String" "coder" "B" (.int 0) := D163 (Or.inr (tw_22 hw)) (ty := .byte) (by decide)
      show Gl p e below _ (T163.setTop (mkF m 166 _ [(.ref b163)]))
      refine Gl.dup Y163 rfl at_166 rfl ?_
      refine Gl.aload Y163 rfl rfl at_167 rfl ?_
      have f33 := (((((O.ext E116).wr W122 sb116).wr W127 sb116).wr W132 sb116).ext E163)
      have f34 := (A132.ext E163)
      refine Gl.callN Y163 rfl (tw_9 hw) (tw_10 hw) (tw_8 hw) (tw_11 hw) (by decide) (rm69 l Z a0 hw b163 b116 ck116 cs r9 r15 r21 h163 n0 Y163.sz f33 S (hcs) SA SH SL X163 f31 f32 sb163 (Nat.ne_of_lt (Nat.lt_of_lt_of_eq A132.lt g163.symm)) f34 (b0) (p9) (p15) (p21)) (a := b163) (argsL := [(.ref b116)]) (rest := [(.ref b163)]) rfl rfl (lenOf pd_16 rfl) rfl (by decide) (nle rfl) (by decide) (by decide) at_169 rfl (fun v169 T169 h169 Y169 q169 => ?_)
      obtain ⟨b169, kb169, rfl, K169, f169_0, f169_1, f169_2, f169_3, f169_4⟩ := q169
      have Y169_sz : n0 ≤ h163.size := Y163.sz
      show Gl p e below _ (T169.setTop (mkF m 172 _ [(.ref b163)]))
      have f35 := (f33.keep K169 (allS sb163 all0))
      refine Gl.callS Y169 (tw_27 hw) (tw_28 hw) (tw_29 hw) (tw_30 hw) (by decide) (rm153 l Z a0 hw b163 b169 kb169 cs r9 r15 r21 fm h169 n0 Y169.sz f35 S (hcs) f169_1 f169_3 f169_2 f169_4 SA SH SL SF (hfm) (p9) (p15) (p21) (b0)) (argsL := [(.ref b163)]) (rest := []) rfl rfl (lenOf pd_17 rfl) rfl (by decide) (nle rfl) (by decide) (by decide) at_172 rfl (fun v172 T172 h172 Y172 q172 => ?_)
      obtain ⟨rfl, rfl⟩ := q172
      show Gl p e below _ (T172.setTop (mkF m 175 _ [(.int 0)]))
      refine Gl.istore Y172 (L' := #[.val (.int ln), .val (.int aa), .val (.int bb), .val (.int cc), .val (.int dd), .val (.int 3), .val (.int r9), .val (.int r15), .val (.int r21), .val (.int r28), .val (.int r9), .val (.int r15), .val (.int r21), .val (.int r28), .val (.ref b116), .val (.int 0), .unset]) rfl at_175 rfl ?_
      refine Gl.iconst Y172 (v := (-1 : Int32)) (by decide) at_177 rfl ?_
      refine Gl.istore Y172 (L' := #[.val (.int ln), .val (.int aa), .val (.int bb), .val (.int cc), .val (.int dd), .val (.int 3), .val (.int r9), .val (.int r15), .val (.int r21), .val (.int r28), .val (.int r9), .val (.int r15), .val (.int r21), .val (.int r28), .val (.ref b116), .val (.int 0), .val (.int (-1))]) rfl at_178 rfl ?_
      refine Gl.iload Y172 rfl at_180 rfl ?_
      refine Gl.iconst Y172 (v := (3 : Int32)) (by decide) at_182 rfl ?_
      refine Gl.icmple Y172 at_183 (by decide) rfl rfl (fun c183 => ?_) (fun c183 => ?_)
      rotate_left
      · exact absurd c183 (by decide)
      refine Gl.iload Y172 rfl at_197 rfl ?_
      refine Gl.iconst Y172 (v := (2 : Int32)) (by decide) at_199 rfl ?_
      refine Gl.icmple Y172 at_200 (by decide) rfl rfl (fun c200 => ?_) (fun c200 => ?_)
      · exact absurd c200 (by decide)
      refine Gl.iload Y172 rfl at_203 rfl ?_
      refine Gl.sipush Y172 (v := (255 : Int32)) (by decide) at_205 rfl ?_
      obtain ⟨z208, hz208⟩ : ∃ z : Int32, (if (255 : Int32) < r21 then (2 : Int32) else (-1 : Int32)) = z := ⟨_, rfl⟩
      refine own_cut (B := ∀ T', Sd Z "com/example/ref_search/refsearch/matcher/ProbesOffsetFromU0100PinLaw" code maxLocals (some .boolean) n0 p l e room_1 s m #[(.int ln), (.int aa), (.int bb), (.int cc), (.int dd)] below meth c T' h169 4 16 → Gl p e below (Jvm.OwnWW.Pst s n0 room_1.cells room_1.slots (QL Z ln aa bb cc dd cs fm h0)) (T'.setTop (mkF m 214 #[.val (.int ln), .val (.int aa), .val (.int bb), .val (.int cc), .val (.int dd), .val (.int 3), .val (.int r9), .val (.int r15), .val (.int r21), .val (.int r28), .val (.int r9), .val (.int r15), .val (.int r21), .val (.int r28), .val (.ref b116), .val (.int 0), .val (.int z208)] []))) (fun jk => ?_) (fun T208j Y208j => ?_)
      · refine Gl.icmple Y172 at_208 (by decide) rfl rfl (fun c208 => ?_) (fun c208 => ?_)
        · have ez208 : z208 = (-1 : Int32) := by rw [← hz208]; simp only [c208, ↓reduceIte, if_true, if_false]
          rw [ez208] at jk
          exact jk T172 Y172
        · refine Gl.iconst Y172 (v := (2 : Int32)) (by decide) at_211 rfl ?_
          refine Gl.istore Y172 (L' := #[.val (.int ln), .val (.int aa), .val (.int bb), .val (.int cc), .val (.int dd), .val (.int 3), .val (.int r9), .val (.int r15), .val (.int r21), .val (.int r28), .val (.int r9), .val (.int r15), .val (.int r21), .val (.int r28), .val (.ref b116), .val (.int 0), .val (.int 2)]) rfl at_212 rfl ?_
          have ez208 : z208 = (2 : Int32) := by rw [← hz208]; simp only [c208, ↓reduceIte, if_true, if_false]
          rw [ez208] at jk
          exact jk T172 Y172
      refine Gl.iload Y208j rfl at_214 rfl ?_
      refine Gl.iconst Y208j (v := (1 : Int32)) (by decide) at_216 rfl ?_
      refine Gl.icmple Y208j at_217 (by decide) rfl rfl (fun c217 => ?_) (fun c217 => ?_)
      · exact absurd c217 (by decide)
      refine Gl.iload Y208j rfl at_220 rfl ?_
      refine Gl.sipush Y208j (v := (255 : Int32)) (by decide) at_222 rfl ?_
      obtain ⟨z225, hz225⟩ : ∃ z : Int32, (if (255 : Int32) < r15 then (1 : Int32) else z208) = z := ⟨_, rfl⟩
      refine own_cut (B := ∀ T', Sd Z "com/example/ref_search/refsearch/matcher/ProbesOffsetFromU0100PinLaw" code maxLocals (some .boolean) n0 p l e room_1 s m #[(.int ln), (.int aa), (.int bb), (.int cc), (.int dd)] below meth c T' h169 4 16 → Gl p e below (Jvm.OwnWW.Pst s n0 room_1.cells room_1.slots (QL Z ln aa bb cc dd cs fm h0)) (T'.setTop (mkF m 231 #[.val (.int ln), .val (.int aa), .val (.int bb), .val (.int cc), .val (.int dd), .val (.int 3), .val (.int r9), .val (.int r15), .val (.int r21), .val (.int r28), .val (.int r9), .val (.int r15), .val (.int r21), .val (.int r28), .val (.ref b116), .val (.int 0), .val (.int z225)] []))) (fun jk => ?_) (fun T225j Y225j => ?_)
      · refine Gl.icmple Y208j at_225 (by decide) rfl rfl (fun c225 => ?_) (fun c225 => ?_)
        · have ez225 : z225 = z208 := by rw [← hz225]; simp only [c225, ↓reduceIte, if_true, if_false]
          rw [ez225] at jk
          exact jk T208j Y208j
        · refine Gl.iconst Y208j (v := (1 : Int32)) (by decide) at_228 rfl ?_
          refine Gl.istore Y208j (L' := #[.val (.int ln), .val (.int aa), .val (.int bb), .val (.int cc), .val (.int dd), .val (.int 3), .val (.int r9), .val (.int r15), .val (.int r21), .val (.int r28), .val (.int r9), .val (.int r15), .val (.int r21), .val (.int r28), .val (.ref b116), .val (.int 0), .val (.int 1)]) rfl at_229 rfl ?_
          have ez225 : z225 = (1 : Int32) := by rw [← hz225]; simp only [c225, ↓reduceIte, if_true, if_false]
          rw [ez225] at jk
          exact jk T208j Y208j
      refine Gl.iload Y225j rfl at_231 rfl ?_
      refine Gl.ifle Y225j at_233 (by decide) rfl rfl (fun c233 => ?_) (fun c233 => ?_)
      · exact absurd c233 (by decide)
      refine Gl.iload Y225j rfl at_236 rfl ?_
      refine Gl.sipush Y225j (v := (255 : Int32)) (by decide) at_238 rfl ?_
      refine Gl.icmple Y225j at_241 (by decide) rfl rfl (fun c241 => ?_) (fun c241 => ?_)
      · exact absurd b0 c241
      refine Gl.iconst Y225j (v := (0 : Int32)) (by decide) at_244 rfl ?_
      refine Gl.istore Y225j (L' := #[.val (.int ln), .val (.int aa), .val (.int bb), .val (.int cc), .val (.int dd), .val (.int 3), .val (.int r9), .val (.int r15), .val (.int r21), .val (.int r28), .val (.int r9), .val (.int r15), .val (.int r21), .val (.int r28), .val (.ref b116), .val (.int 0), .val (.int 0)]) rfl at_245 rfl ?_
      refine Gl.iload Y225j rfl at_247 rfl ?_
      refine Gl.iload Y225j rfl at_249 rfl ?_
      refine Gl.icmpne Y225j at_251 (by decide) rfl rfl (fun c251 => ?_) (fun c251 => ?_)
      · exact absurd c251 (by decide)
      refine Gl.iconst Y225j (v := (1 : Int32)) (by decide) at_254 rfl ?_
      refine Gl.goto Y225j at_255 (by decide) rfl ?_
      exact Jvm.OwnWW.Gl.retZ (toW Y225j) (by decide) (by decide) (x' := (1 : Int32)) (by decide) at_259 rfl
    · by_cases b1 : (255 : Int32) < r15
      · refine Gl.iload Y28 rfl at_53 rfl ?_
        refine Gl.ifne Y28 at_55 (by decide) rfl rfl (fun c55 => ?_) (fun c55 => ?_)
        rotate_left
        · exact absurd c55 (by decide)
        refine Gl.iload Y28 rfl at_66 rfl ?_
        refine Gl.iconst Y28 (v := (1 : Int32)) (by decide) at_68 rfl ?_
        refine Gl.icmpne Y28 at_69 (by decide) rfl rfl (fun c69 => ?_) (fun c69 => ?_)
        rotate_left
        · exact absurd c69 (by decide)
        refine Gl.iload Y28 rfl at_85 rfl ?_
        refine Gl.iconst Y28 (v := (2 : Int32)) (by decide) at_87 rfl ?_
        refine Gl.icmpne Y28 at_88 (by decide) rfl rfl (fun c88 => ?_) (fun c88 => ?_)
        rotate_left
        · exact absurd c88 (by decide)
        refine Gl.iload Y28 rfl at_109 rfl ?_
        refine Gl.iconst Y28 (v := (3 : Int32)) (by decide) at_111 rfl ?_
        refine Gl.icmpne Y28 at_112 (by decide) rfl rfl (fun c112 => ?_) (fun c112 => ?_)
        · exact absurd c112 (by decide)
        refine Gl.iconst Y28 (v := (3 : Int32)) (by decide) at_115 rfl ?_
        refine Gl.newP Y28 3 (ty := .char) rfl (tw_5 hw) (by decide) (by decide) (nle rfl) (nle rfl) (nle rfl) at_116 rfl (fun T116 h116 b116 ck116 Y116 E116 g116 sb116 V116 => ?_)
        have V116 : Arv Z h116 b116 ck116 .char (3 : Int32) [(.int 0), (.int 0), (.int 0)] (.int 0) := V116.pad (pad_rep [] (.int 0) 3)
        show Gl p e below _ (T116.setTop (mkF m 118 _ [(.ref b116)]))
        refine Gl.dup Y116 rfl at_118 rfl ?_
        refine Gl.iconst Y116 (v := (0 : Int32)) (by decide) at_119 rfl ?_
        refine Gl.iload Y116 rfl at_120 rfl ?_
        refine Gl.castore Y116 V116 (v := (.int r9)) (congrArg Value.int (own_narCr p9.1 p9.2)) ⟨by decide, by decide⟩ (ix := 0) rfl (nle rfl) sb116 at_122 rfl (fun T122 h122 Y122 W122 A122 => ?_)
        have A122 : Arv Z h122 b116 ck116 .char (3 : Int32) [(.int r9), (.int 0), (.int 0)] (.int 0) := A122
        show Gl p e below _ (T122.setTop (mkF m 123 _ [(.ref b116)]))
        refine Gl.dup Y122 rfl at_123 rfl ?_
        refine Gl.iconst Y122 (v := (1 : Int32)) (by decide) at_124 rfl ?_
        refine Gl.iload Y122 rfl at_125 rfl ?_
        refine Gl.castore Y122 A122 (v := (.int r15)) (congrArg Value.int (own_narCr p15.1 p15.2)) ⟨by decide, by decide⟩ (ix := 1) rfl (nle rfl) sb116 at_127 rfl (fun T127 h127 Y127 W127 A127 => ?_)
        have A127 : Arv Z h127 b116 ck116 .char (3 : Int32) [(.int r9), (.int r15), (.int 0)] (.int 0) := A127
        show Gl p e below _ (T127.setTop (mkF m 128 _ [(.ref b116)]))
        refine Gl.dup Y127 rfl at_128 rfl ?_
        refine Gl.iconst Y127 (v := (2 : Int32)) (by decide) at_129 rfl ?_
        refine Gl.iload Y127 rfl at_130 rfl ?_
        refine Gl.castore Y127 A127 (v := (.int r21)) (congrArg Value.int (own_narCr p21.1 p21.2)) ⟨by decide, by decide⟩ (ix := 2) rfl (nle rfl) sb116 at_132 rfl (fun T132 h132 Y132 W132 A132 => ?_)
        have A132 : Arv Z h132 b116 ck116 .char (3 : Int32) [(.int r9), (.int r15), (.int r21)] (.int 0) := A132
        show Gl p e below _ (T132.setTop (mkF m 133 _ [(.ref b116)]))
        refine Gl.astore Y132 rfl (L' := #[.val (.int ln), .val (.int aa), .val (.int bb), .val (.int cc), .val (.int dd), .val (.int 3), .val (.int r9), .val (.int r15), .val (.int r21), .val (.int r28), .val (.int r9), .val (.int r15), .val (.int r21), .val (.int r28), .val (.ref b116), .unset, .unset]) rfl at_133 rfl ?_
        refine Gl.goto Y132 at_135 (by decide) rfl ?_
        refine Gl.newO Y132 (tw_6 hw) (tw_7 hw) (tw_8 hw) (by decide) (by decide) at_163 rfl (fun T163 h163 b163 Y163 E163 g163 sb163 X163 D163 => ?_)
        have f36 : Fld Z h163 b163 "java/lang/String" "value" "[B" .null := D163 (Or.inr (tw_21 hw)) (ty := (.array .byte)) (by decide)
        have f37 : Fld Z h163 b163 "java/lang/String" "coder" "B" (.int 0) := D163 (Or.inr (tw_22 hw)) (ty := .byte) (by decide)
        show Gl p e below _ (T163.setTop (mkF m 166 _ [(.ref b163)]))
        refine Gl.dup Y163 rfl at_166 rfl ?_
        refine Gl.aload Y163 rfl rfl at_167 rfl ?_
        have f38 := (((((O.ext E116).wr W122 sb116).wr W127 sb116).wr W132 sb116).ext E163)
        have f39 := (A132.ext E163)
        refine Gl.callN Y163 rfl (tw_9 hw) (tw_10 hw) (tw_8 hw) (tw_11 hw) (by decide) (rm72 l Z a0 hw b163 b116 ck116 cs r9 r15 r21 h163 n0 Y163.sz f38 S (hcs) SA SH SL X163 f36 f37 sb163 (Nat.ne_of_lt (Nat.lt_of_lt_of_eq A132.lt g163.symm)) f39 (b0) (b1) (p9) (p15) (p21)) (a := b163) (argsL := [(.ref b116)]) (rest := [(.ref b163)]) rfl rfl (lenOf pd_16 rfl) rfl (by decide) (nle rfl) (by decide) (by decide) at_169 rfl (fun v169 T169 h169 Y169 q169 => ?_)
        obtain ⟨b169, kb169, rfl, K169, f169_0, f169_1, f169_2, f169_3, f169_4⟩ := q169
        have Y169_sz : n0 ≤ h163.size := Y163.sz
        show Gl p e below _ (T169.setTop (mkF m 172 _ [(.ref b163)]))
        have f40 := (f38.keep K169 (allS sb163 all0))
        refine Gl.callS Y169 (tw_27 hw) (tw_28 hw) (tw_29 hw) (tw_30 hw) (by decide) (rm154 l Z a0 hw b163 b169 kb169 cs r9 r15 r21 fm h169 n0 Y169.sz f40 S (hcs) f169_1 f169_3 f169_2 f169_4 SA SH SL SF (hfm) (p9) (p15) (p21) (b0) (b1)) (argsL := [(.ref b163)]) (rest := []) rfl rfl (lenOf pd_17 rfl) rfl (by decide) (nle rfl) (by decide) (by decide) at_172 rfl (fun v172 T172 h172 Y172 q172 => ?_)
        obtain ⟨rfl, rfl⟩ := q172
        show Gl p e below _ (T172.setTop (mkF m 175 _ [(.int 1)]))
        refine Gl.istore Y172 (L' := #[.val (.int ln), .val (.int aa), .val (.int bb), .val (.int cc), .val (.int dd), .val (.int 3), .val (.int r9), .val (.int r15), .val (.int r21), .val (.int r28), .val (.int r9), .val (.int r15), .val (.int r21), .val (.int r28), .val (.ref b116), .val (.int 1), .unset]) rfl at_175 rfl ?_
        refine Gl.iconst Y172 (v := (-1 : Int32)) (by decide) at_177 rfl ?_
        refine Gl.istore Y172 (L' := #[.val (.int ln), .val (.int aa), .val (.int bb), .val (.int cc), .val (.int dd), .val (.int 3), .val (.int r9), .val (.int r15), .val (.int r21), .val (.int r28), .val (.int r9), .val (.int r15), .val (.int r21), .val (.int r28), .val (.ref b116), .val (.int 1), .val (.int (-1))]) rfl at_178 rfl ?_
        refine Gl.iload Y172 rfl at_180 rfl ?_
        refine Gl.iconst Y172 (v := (3 : Int32)) (by decide) at_182 rfl ?_
        refine Gl.icmple Y172 at_183 (by decide) rfl rfl (fun c183 => ?_) (fun c183 => ?_)
        rotate_left
        · exact absurd c183 (by decide)
        refine Gl.iload Y172 rfl at_197 rfl ?_
        refine Gl.iconst Y172 (v := (2 : Int32)) (by decide) at_199 rfl ?_
        refine Gl.icmple Y172 at_200 (by decide) rfl rfl (fun c200 => ?_) (fun c200 => ?_)
        · exact absurd c200 (by decide)
        refine Gl.iload Y172 rfl at_203 rfl ?_
        refine Gl.sipush Y172 (v := (255 : Int32)) (by decide) at_205 rfl ?_
        obtain ⟨z208, hz208⟩ : ∃ z : Int32, (if (255 : Int32) < r21 then (2 : Int32) else (-1 : Int32)) = z := ⟨_, rfl⟩
        refine own_cut (B := ∀ T', Sd Z "com/example/ref_search/refsearch/matcher/ProbesOffsetFromU0100PinLaw" code maxLocals (some .boolean) n0 p l e room_1 s m #[(.int ln), (.int aa), (.int bb), (.int cc), (.int dd)] below meth c T' h169 4 16 → Gl p e below (Jvm.OwnWW.Pst s n0 room_1.cells room_1.slots (QL Z ln aa bb cc dd cs fm h0)) (T'.setTop (mkF m 214 #[.val (.int ln), .val (.int aa), .val (.int bb), .val (.int cc), .val (.int dd), .val (.int 3), .val (.int r9), .val (.int r15), .val (.int r21), .val (.int r28), .val (.int r9), .val (.int r15), .val (.int r21), .val (.int r28), .val (.ref b116), .val (.int 1), .val (.int z208)] []))) (fun jk => ?_) (fun T208j Y208j => ?_)
        · refine Gl.icmple Y172 at_208 (by decide) rfl rfl (fun c208 => ?_) (fun c208 => ?_)
          · have ez208 : z208 = (-1 : Int32) := by rw [← hz208]; simp only [c208, ↓reduceIte, if_true, if_false]
            rw [ez208] at jk
            exact jk T172 Y172
          · refine Gl.iconst Y172 (v := (2 : Int32)) (by decide) at_211 rfl ?_
            refine Gl.istore Y172 (L' := #[.val (.int ln), .val (.int aa), .val (.int bb), .val (.int cc), .val (.int dd), .val (.int 3), .val (.int r9), .val (.int r15), .val (.int r21), .val (.int r28), .val (.int r9), .val (.int r15), .val (.int r21), .val (.int r28), .val (.ref b116), .val (.int 1), .val (.int 2)]) rfl at_212 rfl ?_
            have ez208 : z208 = (2 : Int32) := by rw [← hz208]; simp only [c208, ↓reduceIte, if_true, if_false]
            rw [ez208] at jk
            exact jk T172 Y172
        refine Gl.iload Y208j rfl at_214 rfl ?_
        refine Gl.iconst Y208j (v := (1 : Int32)) (by decide) at_216 rfl ?_
        refine Gl.icmple Y208j at_217 (by decide) rfl rfl (fun c217 => ?_) (fun c217 => ?_)
        · exact absurd c217 (by decide)
        refine Gl.iload Y208j rfl at_220 rfl ?_
        refine Gl.sipush Y208j (v := (255 : Int32)) (by decide) at_222 rfl ?_
        refine Gl.icmple Y208j at_225 (by decide) rfl rfl (fun c225 => ?_) (fun c225 => ?_)
        · exact absurd b1 c225
        refine Gl.iconst Y208j (v := (1 : Int32)) (by decide) at_228 rfl ?_
        refine Gl.istore Y208j (L' := #[.val (.int ln), .val (.int aa), .val (.int bb), .val (.int cc), .val (.int dd), .val (.int 3), .val (.int r9), .val (.int r15), .val (.int r21), .val (.int r28), .val (.int r9), .val (.int r15), .val (.int r21), .val (.int r28), .val (.ref b116), .val (.int 1), .val (.int 1)]) rfl at_229 rfl ?_
        refine Gl.iload Y208j rfl at_231 rfl ?_
        refine Gl.ifle Y208j at_233 (by decide) rfl rfl (fun c233 => ?_) (fun c233 => ?_)
        · exact absurd c233 (by decide)
        refine Gl.iload Y208j rfl at_236 rfl ?_
        refine Gl.sipush Y208j (v := (255 : Int32)) (by decide) at_238 rfl ?_
        refine Gl.icmple Y208j at_241 (by decide) rfl rfl (fun c241 => ?_) (fun c241 => ?_)
        rotate_left
        · exact absurd c241 b0
        refine Gl.iload Y208j rfl at_247 rfl ?_
        refine Gl.iload Y208j rfl at_249 rfl ?_
        refine Gl.icmpne Y208j at_251 (by decide) rfl rfl (fun c251 => ?_) (fun c251 => ?_)
        · exact absurd c251 (by decide)
        refine Gl.iconst Y208j (v := (1 : Int32)) (by decide) at_254 rfl ?_
        refine Gl.goto Y208j at_255 (by decide) rfl ?_
        exact Jvm.OwnWW.Gl.retZ (toW Y208j) (by decide) (by decide) (x' := (1 : Int32)) (by decide) at_259 rfl
      · by_cases b2 : (255 : Int32) < r21
        · refine Gl.iload Y28 rfl at_53 rfl ?_
          refine Gl.ifne Y28 at_55 (by decide) rfl rfl (fun c55 => ?_) (fun c55 => ?_)
          rotate_left
          · exact absurd c55 (by decide)
          refine Gl.iload Y28 rfl at_66 rfl ?_
          refine Gl.iconst Y28 (v := (1 : Int32)) (by decide) at_68 rfl ?_
          refine Gl.icmpne Y28 at_69 (by decide) rfl rfl (fun c69 => ?_) (fun c69 => ?_)
          rotate_left
          · exact absurd c69 (by decide)
          refine Gl.iload Y28 rfl at_85 rfl ?_
          refine Gl.iconst Y28 (v := (2 : Int32)) (by decide) at_87 rfl ?_
          refine Gl.icmpne Y28 at_88 (by decide) rfl rfl (fun c88 => ?_) (fun c88 => ?_)
          rotate_left
          · exact absurd c88 (by decide)
          refine Gl.iload Y28 rfl at_109 rfl ?_
          refine Gl.iconst Y28 (v := (3 : Int32)) (by decide) at_111 rfl ?_
          refine Gl.icmpne Y28 at_112 (by decide) rfl rfl (fun c112 => ?_) (fun c112 => ?_)
          · exact absurd c112 (by decide)
          refine Gl.iconst Y28 (v := (3 : Int32)) (by decide) at_115 rfl ?_
          refine Gl.newP Y28 3 (ty := .char) rfl (tw_5 hw) (by decide) (by decide) (nle rfl) (nle rfl) (nle rfl) at_116 rfl (fun T116 h116 b116 ck116 Y116 E116 g116 sb116 V116 => ?_)
          have V116 : Arv Z h116 b116 ck116 .char (3 : Int32) [(.int 0), (.int 0), (.int 0)] (.int 0) := V116.pad (pad_rep [] (.int 0) 3)
          show Gl p e below _ (T116.setTop (mkF m 118 _ [(.ref b116)]))
          refine Gl.dup Y116 rfl at_118 rfl ?_
          refine Gl.iconst Y116 (v := (0 : Int32)) (by decide) at_119 rfl ?_
          refine Gl.iload Y116 rfl at_120 rfl ?_
          refine Gl.castore Y116 V116 (v := (.int r9)) (congrArg Value.int (own_narCr p9.1 p9.2)) ⟨by decide, by decide⟩ (ix := 0) rfl (nle rfl) sb116 at_122 rfl (fun T122 h122 Y122 W122 A122 => ?_)
          have A122 : Arv Z h122 b116 ck116 .char (3 : Int32) [(.int r9), (.int 0), (.int 0)] (.int 0) := A122
          show Gl p e below _ (T122.setTop (mkF m 123 _ [(.ref b116)]))
          refine Gl.dup Y122 rfl at_123 rfl ?_
          refine Gl.iconst Y122 (v := (1 : Int32)) (by decide) at_124 rfl ?_
          refine Gl.iload Y122 rfl at_125 rfl ?_
          refine Gl.castore Y122 A122 (v := (.int r15)) (congrArg Value.int (own_narCr p15.1 p15.2)) ⟨by decide, by decide⟩ (ix := 1) rfl (nle rfl) sb116 at_127 rfl (fun T127 h127 Y127 W127 A127 => ?_)
          have A127 : Arv Z h127 b116 ck116 .char (3 : Int32) [(.int r9), (.int r15), (.int 0)] (.int 0) := A127
          show Gl p e below _ (T127.setTop (mkF m 128 _ [(.ref b116)]))
          refine Gl.dup Y127 rfl at_128 rfl ?_
          refine Gl.iconst Y127 (v := (2 : Int32)) (by decide) at_129 rfl ?_
          refine Gl.iload Y127 rfl at_130 rfl ?_
          refine Gl.castore Y127 A127 (v := (.int r21)) (congrArg Value.int (own_narCr p21.1 p21.2)) ⟨by decide, by decide⟩ (ix := 2) rfl (nle rfl) sb116 at_132 rfl (fun T132 h132 Y132 W132 A132 => ?_)
          have A132 : Arv Z h132 b116 ck116 .char (3 : Int32) [(.int r9), (.int r15), (.int r21)] (.int 0) := A132
          show Gl p e below _ (T132.setTop (mkF m 133 _ [(.ref b116)]))
          refine Gl.astore Y132 rfl (L' := #[.val (.int ln), .val (.int aa), .val (.int bb), .val (.int cc), .val (.int dd), .val (.int 3), .val (.int r9), .val (.int r15), .val (.int r21), .val (.int r28), .val (.int r9), .val (.int r15), .val (.int r21), .val (.int r28), .val (.ref b116), .unset, .unset]) rfl at_133 rfl ?_
          refine Gl.goto Y132 at_135 (by decide) rfl ?_
          refine Gl.newO Y132 (tw_6 hw) (tw_7 hw) (tw_8 hw) (by decide) (by decide) at_163 rfl (fun T163 h163 b163 Y163 E163 g163 sb163 X163 D163 => ?_)
          have f41 : Fld Z h163 b163 "java/lang/String" "value" "[B" .null := D163 (Or.inr (tw_21 hw)) (ty := (.array .byte)) (by decide)
          have f42 : Fld Z h163 b163 "java/lang/String" "coder" "B" (.int 0) := D163 (Or.inr (tw_22 hw)) (ty := .byte) (by decide)
          show Gl p e below _ (T163.setTop (mkF m 166 _ [(.ref b163)]))
          refine Gl.dup Y163 rfl at_166 rfl ?_
          refine Gl.aload Y163 rfl rfl at_167 rfl ?_
          have f43 := (((((O.ext E116).wr W122 sb116).wr W127 sb116).wr W132 sb116).ext E163)
          have f44 := (A132.ext E163)
          refine Gl.callN Y163 rfl (tw_9 hw) (tw_10 hw) (tw_8 hw) (tw_11 hw) (by decide) (rm75 l Z a0 hw b163 b116 ck116 cs r9 r15 r21 h163 n0 Y163.sz f43 S (hcs) SA SH SL X163 f41 f42 sb163 (Nat.ne_of_lt (Nat.lt_of_lt_of_eq A132.lt g163.symm)) f44 (b0) (b1) (b2) (p9) (p15) (p21)) (a := b163) (argsL := [(.ref b116)]) (rest := [(.ref b163)]) rfl rfl (lenOf pd_16 rfl) rfl (by decide) (nle rfl) (by decide) (by decide) at_169 rfl (fun v169 T169 h169 Y169 q169 => ?_)
          obtain ⟨b169, kb169, rfl, K169, f169_0, f169_1, f169_2, f169_3, f169_4⟩ := q169
          have Y169_sz : n0 ≤ h163.size := Y163.sz
          show Gl p e below _ (T169.setTop (mkF m 172 _ [(.ref b163)]))
          have f45 := (f43.keep K169 (allS sb163 all0))
          refine Gl.callS Y169 (tw_27 hw) (tw_28 hw) (tw_29 hw) (tw_30 hw) (by decide) (rm155 l Z a0 hw b163 b169 kb169 cs r9 r15 r21 fm h169 n0 Y169.sz f45 S (hcs) f169_1 f169_3 f169_2 f169_4 SA SH SL SF (hfm) (p9) (p15) (p21) (b0) (b1) (b2)) (argsL := [(.ref b163)]) (rest := []) rfl rfl (lenOf pd_17 rfl) rfl (by decide) (nle rfl) (by decide) (by decide) at_172 rfl (fun v172 T172 h172 Y172 q172 => ?_)
          obtain ⟨rfl, rfl⟩ := q172
          show Gl p e below _ (T172.setTop (mkF m 175 _ [(.int 2)]))
          refine Gl.istore Y172 (L' := #[.val (.int ln), .val (.int aa), .val (.int bb), .val (.int cc), .val (.int dd), .val (.int 3), .val (.int r9), .val (.int r15), .val (.int r21), .val (.int r28), .val (.int r9), .val (.int r15), .val (.int r21), .val (.int r28), .val (.ref b116), .val (.int 2), .unset]) rfl at_175 rfl ?_
          refine Gl.iconst Y172 (v := (-1 : Int32)) (by decide) at_177 rfl ?_
          refine Gl.istore Y172 (L' := #[.val (.int ln), .val (.int aa), .val (.int bb), .val (.int cc), .val (.int dd), .val (.int 3), .val (.int r9), .val (.int r15), .val (.int r21), .val (.int r28), .val (.int r9), .val (.int r15), .val (.int r21), .val (.int r28), .val (.ref b116), .val (.int 2), .val (.int (-1))]) rfl at_178 rfl ?_
          refine Gl.iload Y172 rfl at_180 rfl ?_
          refine Gl.iconst Y172 (v := (3 : Int32)) (by decide) at_182 rfl ?_
          refine Gl.icmple Y172 at_183 (by decide) rfl rfl (fun c183 => ?_) (fun c183 => ?_)
          rotate_left
          · exact absurd c183 (by decide)
          refine Gl.iload Y172 rfl at_197 rfl ?_
          refine Gl.iconst Y172 (v := (2 : Int32)) (by decide) at_199 rfl ?_
          refine Gl.icmple Y172 at_200 (by decide) rfl rfl (fun c200 => ?_) (fun c200 => ?_)
          · exact absurd c200 (by decide)
          refine Gl.iload Y172 rfl at_203 rfl ?_
          refine Gl.sipush Y172 (v := (255 : Int32)) (by decide) at_205 rfl ?_
          refine Gl.icmple Y172 at_208 (by decide) rfl rfl (fun c208 => ?_) (fun c208 => ?_)
          · exact absurd b2 c208
          refine Gl.iconst Y172 (v := (2 : Int32)) (by decide) at_211 rfl ?_
          refine Gl.istore Y172 (L' := #[.val (.int ln), .val (.int aa), .val (.int bb), .val (.int cc), .val (.int dd), .val (.int 3), .val (.int r9), .val (.int r15), .val (.int r21), .val (.int r28), .val (.int r9), .val (.int r15), .val (.int r21), .val (.int r28), .val (.ref b116), .val (.int 2), .val (.int 2)]) rfl at_212 rfl ?_
          refine Gl.iload Y172 rfl at_214 rfl ?_
          refine Gl.iconst Y172 (v := (1 : Int32)) (by decide) at_216 rfl ?_
          refine Gl.icmple Y172 at_217 (by decide) rfl rfl (fun c217 => ?_) (fun c217 => ?_)
          · exact absurd c217 (by decide)
          refine Gl.iload Y172 rfl at_220 rfl ?_
          refine Gl.sipush Y172 (v := (255 : Int32)) (by decide) at_222 rfl ?_
          refine Gl.icmple Y172 at_225 (by decide) rfl rfl (fun c225 => ?_) (fun c225 => ?_)
          rotate_left
          · exact absurd c225 b1
          refine Gl.iload Y172 rfl at_231 rfl ?_
          refine Gl.ifle Y172 at_233 (by decide) rfl rfl (fun c233 => ?_) (fun c233 => ?_)
          · exact absurd c233 (by decide)
          refine Gl.iload Y172 rfl at_236 rfl ?_
          refine Gl.sipush Y172 (v := (255 : Int32)) (by decide) at_238 rfl ?_
          refine Gl.icmple Y172 at_241 (by decide) rfl rfl (fun c241 => ?_) (fun c241 => ?_)
          rotate_left
          · exact absurd c241 b0
          refine Gl.iload Y172 rfl at_247 rfl ?_
          refine Gl.iload Y172 rfl at_249 rfl ?_
          refine Gl.icmpne Y172 at_251 (by decide) rfl rfl (fun c251 => ?_) (fun c251 => ?_)
          · exact absurd c251 (by decide)
          refine Gl.iconst Y172 (v := (1 : Int32)) (by decide) at_254 rfl ?_
          refine Gl.goto Y172 at_255 (by decide) rfl ?_
          exact Jvm.OwnWW.Gl.retZ (toW Y172) (by decide) (by decide) (x' := (1 : Int32)) (by decide) at_259 rfl
        · refine Gl.iload Y28 rfl at_53 rfl ?_
          refine Gl.ifne Y28 at_55 (by decide) rfl rfl (fun c55 => ?_) (fun c55 => ?_)
          rotate_left
          · exact absurd c55 (by decide)
          refine Gl.iload Y28 rfl at_66 rfl ?_
          refine Gl.iconst Y28 (v := (1 : Int32)) (by decide) at_68 rfl ?_
          refine Gl.icmpne Y28 at_69 (by decide) rfl rfl (fun c69 => ?_) (fun c69 => ?_)
          rotate_left
          · exact absurd c69 (by decide)
          refine Gl.iload Y28 rfl at_85 rfl ?_
          refine Gl.iconst Y28 (v := (2 : Int32)) (by decide) at_87 rfl ?_
          refine Gl.icmpne Y28 at_88 (by decide) rfl rfl (fun c88 => ?_) (fun c88 => ?_)
          rotate_left
          · exact absurd c88 (by decide)
          refine Gl.iload Y28 rfl at_109 rfl ?_
          refine Gl.iconst Y28 (v := (3 : Int32)) (by decide) at_111 rfl ?_
          refine Gl.icmpne Y28 at_112 (by decide) rfl rfl (fun c112 => ?_) (fun c112 => ?_)
          · exact absurd c112 (by decide)
          refine Gl.iconst Y28 (v := (3 : Int32)) (by decide) at_115 rfl ?_
          refine Gl.newP Y28 3 (ty := .char) rfl (tw_5 hw) (by decide) (by decide) (nle rfl) (nle rfl) (nle rfl) at_116 rfl (fun T116 h116 b116 ck116 Y116 E116 g116 sb116 V116 => ?_)
          have V116 : Arv Z h116 b116 ck116 .char (3 : Int32) [(.int 0), (.int 0), (.int 0)] (.int 0) := V116.pad (pad_rep [] (.int 0) 3)
          show Gl p e below _ (T116.setTop (mkF m 118 _ [(.ref b116)]))
          refine Gl.dup Y116 rfl at_118 rfl ?_
          refine Gl.iconst Y116 (v := (0 : Int32)) (by decide) at_119 rfl ?_
          refine Gl.iload Y116 rfl at_120 rfl ?_
          refine Gl.castore Y116 V116 (v := (.int r9)) (congrArg Value.int (own_narCr p9.1 p9.2)) ⟨by decide, by decide⟩ (ix := 0) rfl (nle rfl) sb116 at_122 rfl (fun T122 h122 Y122 W122 A122 => ?_)
          have A122 : Arv Z h122 b116 ck116 .char (3 : Int32) [(.int r9), (.int 0), (.int 0)] (.int 0) := A122
          show Gl p e below _ (T122.setTop (mkF m 123 _ [(.ref b116)]))
          refine Gl.dup Y122 rfl at_123 rfl ?_
          refine Gl.iconst Y122 (v := (1 : Int32)) (by decide) at_124 rfl ?_
          refine Gl.iload Y122 rfl at_125 rfl ?_
          refine Gl.castore Y122 A122 (v := (.int r15)) (congrArg Value.int (own_narCr p15.1 p15.2)) ⟨by decide, by decide⟩ (ix := 1) rfl (nle rfl) sb116 at_127 rfl (fun T127 h127 Y127 W127 A127 => ?_)
          have A127 : Arv Z h127 b116 ck116 .char (3 : Int32) [(.int r9), (.int r15), (.int 0)] (.int 0) := A127
          show Gl p e below _ (T127.setTop (mkF m 128 _ [(.ref b116)]))
          refine Gl.dup Y127 rfl at_128 rfl ?_
          refine Gl.iconst Y127 (v := (2 : Int32)) (by decide) at_129 rfl ?_
          refine Gl.iload Y127 rfl at_130 rfl ?_
          refine Gl.castore Y127 A127 (v := (.int r21)) (congrArg Value.int (own_narCr p21.1 p21.2)) ⟨by decide, by decide⟩ (ix := 2) rfl (nle rfl) sb116 at_132 rfl (fun T132 h132 Y132 W132 A132 => ?_)
          have A132 : Arv Z h132 b116 ck116 .char (3 : Int32) [(.int r9), (.int r15), (.int r21)] (.int 0) := A132
          show Gl p e below _ (T132.setTop (mkF m 133 _ [(.ref b116)]))
          refine Gl.astore Y132 rfl (L' := #[.val (.int ln), .val (.int aa), .val (.int bb), .val (.int cc), .val (.int dd), .val (.int 3), .val (.int r9), .val (.int r15), .val (.int r21), .val (.int r28), .val (.int r9), .val (.int r15), .val (.int r21), .val (.int r28), .val (.ref b116), .unset, .unset]) rfl at_133 rfl ?_
          refine Gl.goto Y132 at_135 (by decide) rfl ?_
          refine Gl.newO Y132 (tw_6 hw) (tw_7 hw) (tw_8 hw) (by decide) (by decide) at_163 rfl (fun T163 h163 b163 Y163 E163 g163 sb163 X163 D163 => ?_)
          have f46 : Fld Z h163 b163 "java/lang/String" "value" "[B" .null := D163 (Or.inr (tw_21 hw)) (ty := (.array .byte)) (by decide)
          have f47 : Fld Z h163 b163 "java/lang/String" "coder" "B" (.int 0) := D163 (Or.inr (tw_22 hw)) (ty := .byte) (by decide)
          show Gl p e below _ (T163.setTop (mkF m 166 _ [(.ref b163)]))
          refine Gl.dup Y163 rfl at_166 rfl ?_
          refine Gl.aload Y163 rfl rfl at_167 rfl ?_
          have f48 := (((((O.ext E116).wr W122 sb116).wr W127 sb116).wr W132 sb116).ext E163)
          have f49 := (A132.ext E163)
          refine Gl.callN Y163 rfl (tw_9 hw) (tw_10 hw) (tw_8 hw) (tw_11 hw) (by decide) (rm78 l Z a0 hw b163 b116 ck116 cs r9 r15 r21 h163 n0 Y163.sz f48 S (hcs) SA SH SL X163 f46 f47 sb163 (Nat.ne_of_lt (Nat.lt_of_lt_of_eq A132.lt g163.symm)) f49 (b0) (b1) (b2) (p9) (p15) (p21)) (a := b163) (argsL := [(.ref b116)]) (rest := [(.ref b163)]) rfl rfl (lenOf pd_16 rfl) rfl (by decide) (nle rfl) (by decide) (by decide) at_169 rfl (fun v169 T169 h169 Y169 q169 => ?_)
          obtain ⟨b169, kb169, rfl, K169, f169_0, f169_1, f169_2, f169_3, f169_4⟩ := q169
          have Y169_sz : n0 ≤ h163.size := Y163.sz
          show Gl p e below _ (T169.setTop (mkF m 172 _ [(.ref b163)]))
          have f50 := (f48.keep K169 (allS sb163 all0))
          refine Gl.callS Y169 (tw_27 hw) (tw_28 hw) (tw_29 hw) (tw_30 hw) (by decide) (rm156 l Z a0 hw b163 b169 kb169 cs r9 r15 r21 fm h169 n0 Y169.sz f50 S (hcs) f169_1 f169_3 f169_2 f169_4 SF (hfm) (p9) (p15) (p21) (b0) (b1) (b2)) (argsL := [(.ref b163)]) (rest := []) rfl rfl (lenOf pd_17 rfl) rfl (by decide) (nle rfl) (by decide) (by decide) at_172 rfl (fun v172 T172 h172 Y172 q172 => ?_)
          obtain ⟨rfl, rfl⟩ := q172
          show Gl p e below _ (T172.setTop (mkF m 175 _ [(.int (-1))]))
          refine Gl.istore Y172 (L' := #[.val (.int ln), .val (.int aa), .val (.int bb), .val (.int cc), .val (.int dd), .val (.int 3), .val (.int r9), .val (.int r15), .val (.int r21), .val (.int r28), .val (.int r9), .val (.int r15), .val (.int r21), .val (.int r28), .val (.ref b116), .val (.int (-1)), .unset]) rfl at_175 rfl ?_
          refine Gl.iconst Y172 (v := (-1 : Int32)) (by decide) at_177 rfl ?_
          refine Gl.istore Y172 (L' := #[.val (.int ln), .val (.int aa), .val (.int bb), .val (.int cc), .val (.int dd), .val (.int 3), .val (.int r9), .val (.int r15), .val (.int r21), .val (.int r28), .val (.int r9), .val (.int r15), .val (.int r21), .val (.int r28), .val (.ref b116), .val (.int (-1)), .val (.int (-1))]) rfl at_178 rfl ?_
          refine Gl.iload Y172 rfl at_180 rfl ?_
          refine Gl.iconst Y172 (v := (3 : Int32)) (by decide) at_182 rfl ?_
          refine Gl.icmple Y172 at_183 (by decide) rfl rfl (fun c183 => ?_) (fun c183 => ?_)
          rotate_left
          · exact absurd c183 (by decide)
          refine Gl.iload Y172 rfl at_197 rfl ?_
          refine Gl.iconst Y172 (v := (2 : Int32)) (by decide) at_199 rfl ?_
          refine Gl.icmple Y172 at_200 (by decide) rfl rfl (fun c200 => ?_) (fun c200 => ?_)
          · exact absurd c200 (by decide)
          refine Gl.iload Y172 rfl at_203 rfl ?_
          refine Gl.sipush Y172 (v := (255 : Int32)) (by decide) at_205 rfl ?_
          refine Gl.icmple Y172 at_208 (by decide) rfl rfl (fun c208 => ?_) (fun c208 => ?_)
          rotate_left
          · exact absurd c208 b2
          refine Gl.iload Y172 rfl at_214 rfl ?_
          refine Gl.iconst Y172 (v := (1 : Int32)) (by decide) at_216 rfl ?_
          refine Gl.icmple Y172 at_217 (by decide) rfl rfl (fun c217 => ?_) (fun c217 => ?_)
          · exact absurd c217 (by decide)
          refine Gl.iload Y172 rfl at_220 rfl ?_
          refine Gl.sipush Y172 (v := (255 : Int32)) (by decide) at_222 rfl ?_
          refine Gl.icmple Y172 at_225 (by decide) rfl rfl (fun c225 => ?_) (fun c225 => ?_)
          rotate_left
          · exact absurd c225 b1
          refine Gl.iload Y172 rfl at_231 rfl ?_
          refine Gl.ifle Y172 at_233 (by decide) rfl rfl (fun c233 => ?_) (fun c233 => ?_)
          · exact absurd c233 (by decide)
          refine Gl.iload Y172 rfl at_236 rfl ?_
          refine Gl.sipush Y172 (v := (255 : Int32)) (by decide) at_238 rfl ?_
          refine Gl.icmple Y172 at_241 (by decide) rfl rfl (fun c241 => ?_) (fun c241 => ?_)
          rotate_left
          · exact absurd c241 b0
          refine Gl.iload Y172 rfl at_247 rfl ?_
          refine Gl.iload Y172 rfl at_249 rfl ?_
          refine Gl.icmpne Y172 at_251 (by decide) rfl rfl (fun c251 => ?_) (fun c251 => ?_)
          · exact absurd c251 (by decide)
          refine Gl.iconst Y172 (v := (1 : Int32)) (by decide) at_254 rfl ?_
          refine Gl.goto Y172 at_255 (by decide) rfl ?_
          exact Jvm.OwnWW.Gl.retZ (toW Y172) (by decide) (by decide) (x' := (1 : Int32)) (by decide) at_259 rfl
  · by_cases b0 : (255 : Int32) < r9
    · refine Gl.iload Y28 rfl at_53 rfl ?_
      refine Gl.ifne Y28 at_55 (by decide) rfl rfl (fun c55 => ?_) (fun c55 => ?_)
      rotate_left
      · exact absurd c55 (by decide)
      refine Gl.iload Y28 rfl at_66 rfl ?_
      refine Gl.iconst Y28 (v := (1 : Int32)) (by decide) at_68 rfl ?_
      refine Gl.icmpne Y28 at_69 (by decide) rfl rfl (fun c69 => ?_) (fun c69 => ?_)
      rotate_left
      · exact absurd c69 (by decide)
      refine Gl.iload Y28 rfl at_85 rfl ?_
      refine Gl.iconst Y28 (v := (2 : Int32)) (by decide) at_87 rfl ?_
      refine Gl.icmpne Y28 at_88 (by decide) rfl rfl (fun c88 => ?_) (fun c88 => ?_)
      rotate_left
      · exact absurd c88 (by decide)
      refine Gl.iload Y28 rfl at_109 rfl ?_
      refine Gl.iconst Y28 (v := (3 : Int32)) (by decide) at_111 rfl ?_
      refine Gl.icmpne Y28 at_112 (by decide) rfl rfl (fun c112 => ?_) (fun c112 => ?_)
      rotate_left
      · exact absurd c112 (by decide)
      refine Gl.iconst Y28 (v := (4 : Int32)) (by decide) at_138 rfl ?_
      refine Gl.newP Y28 4 (ty := .char) rfl (tw_5 hw) (by decide) (by decide) (nle rfl) (nle rfl) (nle rfl) at_139 rfl (fun T139 h139 b139 ck139 Y139 E139 g139 sb139 V139 => ?_)
      have V139 : Arv Z h139 b139 ck139 .char (4 : Int32) [(.int 0), (.int 0), (.int 0), (.int 0)] (.int 0) := V139.pad (pad_rep [] (.int 0) 4)
      show Gl p e below _ (T139.setTop (mkF m 141 _ [(.ref b139)]))
      refine Gl.dup Y139 rfl at_141 rfl ?_
      refine Gl.iconst Y139 (v := (0 : Int32)) (by decide) at_142 rfl ?_
      refine Gl.iload Y139 rfl at_143 rfl ?_
      refine Gl.castore Y139 V139 (v := (.int r9)) (congrArg Value.int (own_narCr p9.1 p9.2)) ⟨by decide, by decide⟩ (ix := 0) rfl (nle rfl) sb139 at_145 rfl (fun T145 h145 Y145 W145 A145 => ?_)
      have A145 : Arv Z h145 b139 ck139 .char (4 : Int32) [(.int r9), (.int 0), (.int 0), (.int 0)] (.int 0) := A145
      show Gl p e below _ (T145.setTop (mkF m 146 _ [(.ref b139)]))
      refine Gl.dup Y145 rfl at_146 rfl ?_
      refine Gl.iconst Y145 (v := (1 : Int32)) (by decide) at_147 rfl ?_
      refine Gl.iload Y145 rfl at_148 rfl ?_
      refine Gl.castore Y145 A145 (v := (.int r15)) (congrArg Value.int (own_narCr p15.1 p15.2)) ⟨by decide, by decide⟩ (ix := 1) rfl (nle rfl) sb139 at_150 rfl (fun T150 h150 Y150 W150 A150 => ?_)
      have A150 : Arv Z h150 b139 ck139 .char (4 : Int32) [(.int r9), (.int r15), (.int 0), (.int 0)] (.int 0) := A150
      show Gl p e below _ (T150.setTop (mkF m 151 _ [(.ref b139)]))
      refine Gl.dup Y150 rfl at_151 rfl ?_
      refine Gl.iconst Y150 (v := (2 : Int32)) (by decide) at_152 rfl ?_
      refine Gl.iload Y150 rfl at_153 rfl ?_
      refine Gl.castore Y150 A150 (v := (.int r21)) (congrArg Value.int (own_narCr p21.1 p21.2)) ⟨by decide, by decide⟩ (ix := 2) rfl (nle rfl) sb139 at_155 rfl (fun T155 h155 Y155 W155 A155 => ?_)
      have A155 : Arv Z h155 b139 ck139 .char (4 : Int32) [(.int r9), (.int r15), (.int r21), (.int 0)] (.int 0) := A155
      show Gl p e below _ (T155.setTop (mkF m 156 _ [(.ref b139)]))
      refine Gl.dup Y155 rfl at_156 rfl ?_
      refine Gl.iconst Y155 (v := (3 : Int32)) (by decide) at_157 rfl ?_
      refine Gl.iload Y155 rfl at_158 rfl ?_
      refine Gl.castore Y155 A155 (v := (.int r28)) (congrArg Value.int (own_narCr p28.1 p28.2)) ⟨by decide, by decide⟩ (ix := 3) rfl (nle rfl) sb139 at_160 rfl (fun T160 h160 Y160 W160 A160 => ?_)
      have A160 : Arv Z h160 b139 ck139 .char (4 : Int32) [(.int r9), (.int r15), (.int r21), (.int r28)] (.int 0) := A160
      show Gl p e below _ (T160.setTop (mkF m 161 _ [(.ref b139)]))
      refine Gl.astore Y160 rfl (L' := #[.val (.int ln), .val (.int aa), .val (.int bb), .val (.int cc), .val (.int dd), .val (.int 4), .val (.int r9), .val (.int r15), .val (.int r21), .val (.int r28), .val (.int r9), .val (.int r15), .val (.int r21), .val (.int r28), .val (.ref b139), .unset, .unset]) rfl at_161 rfl ?_
      refine Gl.newO Y160 (tw_6 hw) (tw_7 hw) (tw_8 hw) (by decide) (by decide) at_163 rfl (fun T163 h163 b163 Y163 E163 g163 sb163 X163 D163 => ?_)
      have f51 : Fld Z h163 b163 "java/lang/String" "value" "[B" .null := D163 (Or.inr (tw_21 hw)) (ty := (.array .byte)) (by decide)
      have f52 : Fld Z h163 b163 "java/lang/String" "coder" "B" (.int 0) := D163 (Or.inr (tw_22 hw)) (ty := .byte) (by decide)
      show Gl p e below _ (T163.setTop (mkF m 166 _ [(.ref b163)]))
      refine Gl.dup Y163 rfl at_166 rfl ?_
      refine Gl.aload Y163 rfl rfl at_167 rfl ?_
      have f53 := ((((((O.ext E139).wr W145 sb139).wr W150 sb139).wr W155 sb139).wr W160 sb139).ext E163)
      have f54 := (A160.ext E163)
      refine Gl.callN Y163 rfl (tw_9 hw) (tw_10 hw) (tw_8 hw) (tw_11 hw) (by decide) (rm83 l Z a0 hw b163 b139 ck139 cs r9 r15 r21 r28 h163 n0 Y163.sz f53 S (hcs) SA SH SL X163 f51 f52 sb163 (Nat.ne_of_lt (Nat.lt_of_lt_of_eq A160.lt g163.symm)) f54 (b0) (p9) (p15) (p21) (p28)) (a := b163) (argsL := [(.ref b139)]) (rest := [(.ref b163)]) rfl rfl (lenOf pd_16 rfl) rfl (by decide) (nle rfl) (by decide) (by decide) at_169 rfl (fun v169 T169 h169 Y169 q169 => ?_)
      obtain ⟨b169, kb169, rfl, K169, f169_0, f169_1, f169_2, f169_3, f169_4⟩ := q169
      have Y169_sz : n0 ≤ h163.size := Y163.sz
      show Gl p e below _ (T169.setTop (mkF m 172 _ [(.ref b163)]))
      have f55 := (f53.keep K169 (allS sb163 all0))
      refine Gl.callS Y169 (tw_27 hw) (tw_28 hw) (tw_29 hw) (tw_30 hw) (by decide) (rm167 l Z a0 hw b163 b169 kb169 cs r9 r15 r21 r28 fm h169 n0 Y169.sz f55 S (hcs) f169_1 f169_3 f169_2 f169_4 SA SH SL SF (hfm) (p9) (p15) (p21) (p28) (b0)) (argsL := [(.ref b163)]) (rest := []) rfl rfl (lenOf pd_17 rfl) rfl (by decide) (nle rfl) (by decide) (by decide) at_172 rfl (fun v172 T172 h172 Y172 q172 => ?_)
      obtain ⟨rfl, rfl⟩ := q172
      show Gl p e below _ (T172.setTop (mkF m 175 _ [(.int 0)]))
      refine Gl.istore Y172 (L' := #[.val (.int ln), .val (.int aa), .val (.int bb), .val (.int cc), .val (.int dd), .val (.int 4), .val (.int r9), .val (.int r15), .val (.int r21), .val (.int r28), .val (.int r9), .val (.int r15), .val (.int r21), .val (.int r28), .val (.ref b139), .val (.int 0), .unset]) rfl at_175 rfl ?_
      refine Gl.iconst Y172 (v := (-1 : Int32)) (by decide) at_177 rfl ?_
      refine Gl.istore Y172 (L' := #[.val (.int ln), .val (.int aa), .val (.int bb), .val (.int cc), .val (.int dd), .val (.int 4), .val (.int r9), .val (.int r15), .val (.int r21), .val (.int r28), .val (.int r9), .val (.int r15), .val (.int r21), .val (.int r28), .val (.ref b139), .val (.int 0), .val (.int (-1))]) rfl at_178 rfl ?_
      refine Gl.iload Y172 rfl at_180 rfl ?_
      refine Gl.iconst Y172 (v := (3 : Int32)) (by decide) at_182 rfl ?_
      refine Gl.icmple Y172 at_183 (by decide) rfl rfl (fun c183 => ?_) (fun c183 => ?_)
      · exact absurd c183 (by decide)
      refine Gl.iload Y172 rfl at_186 rfl ?_
      refine Gl.sipush Y172 (v := (255 : Int32)) (by decide) at_188 rfl ?_
      obtain ⟨z191, hz191⟩ : ∃ z : Int32, (if (255 : Int32) < r28 then (3 : Int32) else (-1 : Int32)) = z := ⟨_, rfl⟩
      refine own_cut (B := ∀ T', Sd Z "com/example/ref_search/refsearch/matcher/ProbesOffsetFromU0100PinLaw" code maxLocals (some .boolean) n0 p l e room_1 s m #[(.int ln), (.int aa), (.int bb), (.int cc), (.int dd)] below meth c T' h169 4 20 → Gl p e below (Jvm.OwnWW.Pst s n0 room_1.cells room_1.slots (QL Z ln aa bb cc dd cs fm h0)) (T'.setTop (mkF m 197 #[.val (.int ln), .val (.int aa), .val (.int bb), .val (.int cc), .val (.int dd), .val (.int 4), .val (.int r9), .val (.int r15), .val (.int r21), .val (.int r28), .val (.int r9), .val (.int r15), .val (.int r21), .val (.int r28), .val (.ref b139), .val (.int 0), .val (.int z191)] []))) (fun jk => ?_) (fun T191j Y191j => ?_)
      · refine Gl.icmple Y172 at_191 (by decide) rfl rfl (fun c191 => ?_) (fun c191 => ?_)
        · have ez191 : z191 = (-1 : Int32) := by rw [← hz191]; simp only [c191, ↓reduceIte, if_true, if_false]
          rw [ez191] at jk
          exact jk T172 Y172
        · refine Gl.iconst Y172 (v := (3 : Int32)) (by decide) at_194 rfl ?_
          refine Gl.istore Y172 (L' := #[.val (.int ln), .val (.int aa), .val (.int bb), .val (.int cc), .val (.int dd), .val (.int 4), .val (.int r9), .val (.int r15), .val (.int r21), .val (.int r28), .val (.int r9), .val (.int r15), .val (.int r21), .val (.int r28), .val (.ref b139), .val (.int 0), .val (.int 3)]) rfl at_195 rfl ?_
          have ez191 : z191 = (3 : Int32) := by rw [← hz191]; simp only [c191, ↓reduceIte, if_true, if_false]
          rw [ez191] at jk
          exact jk T172 Y172
      refine Gl.iload Y191j rfl at_197 rfl ?_
      refine Gl.iconst Y191j (v := (2 : Int32)) (by decide) at_199 rfl ?_
      refine Gl.icmple Y191j at_200 (by decide) rfl rfl (fun c200 => ?_) (fun c200 => ?_)
      · exact absurd c200 (by decide)
      refine Gl.iload Y191j rfl at_203 rfl ?_
      refine Gl.sipush Y191j (v := (255 : Int32)) (by decide) at_205 rfl ?_
      obtain ⟨z208, hz208⟩ : ∃ z : Int32, (if (255 : Int32) < r21 then (2 : Int32) else z191) = z := ⟨_, rfl⟩
      refine own_cut (B := ∀ T', Sd Z "com/example/ref_search/refsearch/matcher/ProbesOffsetFromU0100PinLaw" code maxLocals (some .boolean) n0 p l e room_1 s m #[(.int ln), (.int aa), (.int bb), (.int cc), (.int dd)] below meth c T' h169 4 20 → Gl p e below (Jvm.OwnWW.Pst s n0 room_1.cells room_1.slots (QL Z ln aa bb cc dd cs fm h0)) (T'.setTop (mkF m 214 #[.val (.int ln), .val (.int aa), .val (.int bb), .val (.int cc), .val (.int dd), .val (.int 4), .val (.int r9), .val (.int r15), .val (.int r21), .val (.int r28), .val (.int r9), .val (.int r15), .val (.int r21), .val (.int r28), .val (.ref b139), .val (.int 0), .val (.int z208)] []))) (fun jk => ?_) (fun T208j Y208j => ?_)
      · refine Gl.icmple Y191j at_208 (by decide) rfl rfl (fun c208 => ?_) (fun c208 => ?_)
        · have ez208 : z208 = z191 := by rw [← hz208]; simp only [c208, ↓reduceIte, if_true, if_false]
          rw [ez208] at jk
          exact jk T191j Y191j
        · refine Gl.iconst Y191j (v := (2 : Int32)) (by decide) at_211 rfl ?_
          refine Gl.istore Y191j (L' := #[.val (.int ln), .val (.int aa), .val (.int bb), .val (.int cc), .val (.int dd), .val (.int 4), .val (.int r9), .val (.int r15), .val (.int r21), .val (.int r28), .val (.int r9), .val (.int r15), .val (.int r21), .val (.int r28), .val (.ref b139), .val (.int 0), .val (.int 2)]) rfl at_212 rfl ?_
          have ez208 : z208 = (2 : Int32) := by rw [← hz208]; simp only [c208, ↓reduceIte, if_true, if_false]
          rw [ez208] at jk
          exact jk T191j Y191j
      refine Gl.iload Y208j rfl at_214 rfl ?_
      refine Gl.iconst Y208j (v := (1 : Int32)) (by decide) at_216 rfl ?_
      refine Gl.icmple Y208j at_217 (by decide) rfl rfl (fun c217 => ?_) (fun c217 => ?_)
      · exact absurd c217 (by decide)
      refine Gl.iload Y208j rfl at_220 rfl ?_
      refine Gl.sipush Y208j (v := (255 : Int32)) (by decide) at_222 rfl ?_
      obtain ⟨z225, hz225⟩ : ∃ z : Int32, (if (255 : Int32) < r15 then (1 : Int32) else z208) = z := ⟨_, rfl⟩
      refine own_cut (B := ∀ T', Sd Z "com/example/ref_search/refsearch/matcher/ProbesOffsetFromU0100PinLaw" code maxLocals (some .boolean) n0 p l e room_1 s m #[(.int ln), (.int aa), (.int bb), (.int cc), (.int dd)] below meth c T' h169 4 20 → Gl p e below (Jvm.OwnWW.Pst s n0 room_1.cells room_1.slots (QL Z ln aa bb cc dd cs fm h0)) (T'.setTop (mkF m 231 #[.val (.int ln), .val (.int aa), .val (.int bb), .val (.int cc), .val (.int dd), .val (.int 4), .val (.int r9), .val (.int r15), .val (.int r21), .val (.int r28), .val (.int r9), .val (.int r15), .val (.int r21), .val (.int r28), .val (.ref b139), .val (.int 0), .val (.int z225)] []))) (fun jk => ?_) (fun T225j Y225j => ?_)
      · refine Gl.icmple Y208j at_225 (by decide) rfl rfl (fun c225 => ?_) (fun c225 => ?_)
        · have ez225 : z225 = z208 := by rw [← hz225]; simp only [c225, ↓reduceIte, if_true, if_false]
          rw [ez225] at jk
          exact jk T208j Y208j
        · refine Gl.iconst Y208j (v := (1 : Int32)) (by decide) at_228 rfl ?_
          refine Gl.istore Y208j (L' := #[.val (.int ln), .val (.int aa), .val (.int bb), .val (.int cc), .val (.int dd), .val (.int 4), .val (.int r9), .val (.int r15), .val (.int r21), .val (.int r28), .val (.int r9), .val (.int r15), .val (.int r21), .val (.int r28), .val (.ref b139), .val (.int 0), .val (.int 1)]) rfl at_229 rfl ?_
          have ez225 : z225 = (1 : Int32) := by rw [← hz225]; simp only [c225, ↓reduceIte, if_true, if_false]
          rw [ez225] at jk
          exact jk T208j Y208j
      refine Gl.iload Y225j rfl at_231 rfl ?_
      refine Gl.ifle Y225j at_233 (by decide) rfl rfl (fun c233 => ?_) (fun c233 => ?_)
      · exact absurd c233 (by decide)
      refine Gl.iload Y225j rfl at_236 rfl ?_
      refine Gl.sipush Y225j (v := (255 : Int32)) (by decide) at_238 rfl ?_
      refine Gl.icmple Y225j at_241 (by decide) rfl rfl (fun c241 => ?_) (fun c241 => ?_)
      · exact absurd b0 c241
      refine Gl.iconst Y225j (v := (0 : Int32)) (by decide) at_244 rfl ?_
      refine Gl.istore Y225j (L' := #[.val (.int ln), .val (.int aa), .val (.int bb), .val (.int cc), .val (.int dd), .val (.int 4), .val (.int r9), .val (.int r15), .val (.int r21), .val (.int r28), .val (.int r9), .val (.int r15), .val (.int r21), .val (.int r28), .val (.ref b139), .val (.int 0), .val (.int 0)]) rfl at_245 rfl ?_
      refine Gl.iload Y225j rfl at_247 rfl ?_
      refine Gl.iload Y225j rfl at_249 rfl ?_
      refine Gl.icmpne Y225j at_251 (by decide) rfl rfl (fun c251 => ?_) (fun c251 => ?_)
      · exact absurd c251 (by decide)
      refine Gl.iconst Y225j (v := (1 : Int32)) (by decide) at_254 rfl ?_
      refine Gl.goto Y225j at_255 (by decide) rfl ?_
      exact Jvm.OwnWW.Gl.retZ (toW Y225j) (by decide) (by decide) (x' := (1 : Int32)) (by decide) at_259 rfl
    · by_cases b1 : (255 : Int32) < r15
      · refine Gl.iload Y28 rfl at_53 rfl ?_
        refine Gl.ifne Y28 at_55 (by decide) rfl rfl (fun c55 => ?_) (fun c55 => ?_)
        rotate_left
        · exact absurd c55 (by decide)
        refine Gl.iload Y28 rfl at_66 rfl ?_
        refine Gl.iconst Y28 (v := (1 : Int32)) (by decide) at_68 rfl ?_
        refine Gl.icmpne Y28 at_69 (by decide) rfl rfl (fun c69 => ?_) (fun c69 => ?_)
        rotate_left
        · exact absurd c69 (by decide)
        refine Gl.iload Y28 rfl at_85 rfl ?_
        refine Gl.iconst Y28 (v := (2 : Int32)) (by decide) at_87 rfl ?_
        refine Gl.icmpne Y28 at_88 (by decide) rfl rfl (fun c88 => ?_) (fun c88 => ?_)
        rotate_left
        · exact absurd c88 (by decide)
        refine Gl.iload Y28 rfl at_109 rfl ?_
        refine Gl.iconst Y28 (v := (3 : Int32)) (by decide) at_111 rfl ?_
        refine Gl.icmpne Y28 at_112 (by decide) rfl rfl (fun c112 => ?_) (fun c112 => ?_)
        rotate_left
        · exact absurd c112 (by decide)
        refine Gl.iconst Y28 (v := (4 : Int32)) (by decide) at_138 rfl ?_
        refine Gl.newP Y28 4 (ty := .char) rfl (tw_5 hw) (by decide) (by decide) (nle rfl) (nle rfl) (nle rfl) at_139 rfl (fun T139 h139 b139 ck139 Y139 E139 g139 sb139 V139 => ?_)
        have V139 : Arv Z h139 b139 ck139 .char (4 : Int32) [(.int 0), (.int 0), (.int 0), (.int 0)] (.int 0) := V139.pad (pad_rep [] (.int 0) 4)
        show Gl p e below _ (T139.setTop (mkF m 141 _ [(.ref b139)]))
        refine Gl.dup Y139 rfl at_141 rfl ?_
        refine Gl.iconst Y139 (v := (0 : Int32)) (by decide) at_142 rfl ?_
        refine Gl.iload Y139 rfl at_143 rfl ?_
        refine Gl.castore Y139 V139 (v := (.int r9)) (congrArg Value.int (own_narCr p9.1 p9.2)) ⟨by decide, by decide⟩ (ix := 0) rfl (nle rfl) sb139 at_145 rfl (fun T145 h145 Y145 W145 A145 => ?_)
        have A145 : Arv Z h145 b139 ck139 .char (4 : Int32) [(.int r9), (.int 0), (.int 0), (.int 0)] (.int 0) := A145
        show Gl p e below _ (T145.setTop (mkF m 146 _ [(.ref b139)]))
        refine Gl.dup Y145 rfl at_146 rfl ?_
        refine Gl.iconst Y145 (v := (1 : Int32)) (by decide) at_147 rfl ?_
        refine Gl.iload Y145 rfl at_148 rfl ?_
        refine Gl.castore Y145 A145 (v := (.int r15)) (congrArg Value.int (own_narCr p15.1 p15.2)) ⟨by decide, by decide⟩ (ix := 1) rfl (nle rfl) sb139 at_150 rfl (fun T150 h150 Y150 W150 A150 => ?_)
        have A150 : Arv Z h150 b139 ck139 .char (4 : Int32) [(.int r9), (.int r15), (.int 0), (.int 0)] (.int 0) := A150
        show Gl p e below _ (T150.setTop (mkF m 151 _ [(.ref b139)]))
        refine Gl.dup Y150 rfl at_151 rfl ?_
        refine Gl.iconst Y150 (v := (2 : Int32)) (by decide) at_152 rfl ?_
        refine Gl.iload Y150 rfl at_153 rfl ?_
        refine Gl.castore Y150 A150 (v := (.int r21)) (congrArg Value.int (own_narCr p21.1 p21.2)) ⟨by decide, by decide⟩ (ix := 2) rfl (nle rfl) sb139 at_155 rfl (fun T155 h155 Y155 W155 A155 => ?_)
        have A155 : Arv Z h155 b139 ck139 .char (4 : Int32) [(.int r9), (.int r15), (.int r21), (.int 0)] (.int 0) := A155
        show Gl p e below _ (T155.setTop (mkF m 156 _ [(.ref b139)]))
        refine Gl.dup Y155 rfl at_156 rfl ?_
        refine Gl.iconst Y155 (v := (3 : Int32)) (by decide) at_157 rfl ?_
        refine Gl.iload Y155 rfl at_158 rfl ?_
        refine Gl.castore Y155 A155 (v := (.int r28)) (congrArg Value.int (own_narCr p28.1 p28.2)) ⟨by decide, by decide⟩ (ix := 3) rfl (nle rfl) sb139 at_160 rfl (fun T160 h160 Y160 W160 A160 => ?_)
        have A160 : Arv Z h160 b139 ck139 .char (4 : Int32) [(.int r9), (.int r15), (.int r21), (.int r28)] (.int 0) := A160
        show Gl p e below _ (T160.setTop (mkF m 161 _ [(.ref b139)]))
        refine Gl.astore Y160 rfl (L' := #[.val (.int ln), .val (.int aa), .val (.int bb), .val (.int cc), .val (.int dd), .val (.int 4), .val (.int r9), .val (.int r15), .val (.int r21), .val (.int r28), .val (.int r9), .val (.int r15), .val (.int r21), .val (.int r28), .val (.ref b139), .unset, .unset]) rfl at_161 rfl ?_
        refine Gl.newO Y160 (tw_6 hw) (tw_7 hw) (tw_8 hw) (by decide) (by decide) at_163 rfl (fun T163 h163 b163 Y163 E163 g163 sb163 X163 D163 => ?_)
        have f56 : Fld Z h163 b163 "java/lang/String" "value" "[B" .null := D163 (Or.inr (tw_21 hw)) (ty := (.array .byte)) (by decide)
        have f57 : Fld Z h163 b163 "java/lang/String" "coder" "B" (.int 0) := D163 (Or.inr (tw_22 hw)) (ty := .byte) (by decide)
        show Gl p e below _ (T163.setTop (mkF m 166 _ [(.ref b163)]))
        refine Gl.dup Y163 rfl at_166 rfl ?_
        refine Gl.aload Y163 rfl rfl at_167 rfl ?_
        have f58 := ((((((O.ext E139).wr W145 sb139).wr W150 sb139).wr W155 sb139).wr W160 sb139).ext E163)
        have f59 := (A160.ext E163)
        refine Gl.callN Y163 rfl (tw_9 hw) (tw_10 hw) (tw_8 hw) (tw_11 hw) (by decide) (rm86 l Z a0 hw b163 b139 ck139 cs r9 r15 r21 r28 h163 n0 Y163.sz f58 S (hcs) SA SH SL X163 f56 f57 sb163 (Nat.ne_of_lt (Nat.lt_of_lt_of_eq A160.lt g163.symm)) f59 (b0) (b1) (p9) (p15) (p21) (p28)) (a := b163) (argsL := [(.ref b139)]) (rest := [(.ref b163)]) rfl rfl (lenOf pd_16 rfl) rfl (by decide) (nle rfl) (by decide) (by decide) at_169 rfl (fun v169 T169 h169 Y169 q169 => ?_)
        obtain ⟨b169, kb169, rfl, K169, f169_0, f169_1, f169_2, f169_3, f169_4⟩ := q169
        have Y169_sz : n0 ≤ h163.size := Y163.sz
        show Gl p e below _ (T169.setTop (mkF m 172 _ [(.ref b163)]))
        have f60 := (f58.keep K169 (allS sb163 all0))
        refine Gl.callS Y169 (tw_27 hw) (tw_28 hw) (tw_29 hw) (tw_30 hw) (by decide) (rm168 l Z a0 hw b163 b169 kb169 cs r9 r15 r21 r28 fm h169 n0 Y169.sz f60 S (hcs) f169_1 f169_3 f169_2 f169_4 SA SH SL SF (hfm) (p9) (p15) (p21) (p28) (b0) (b1)) (argsL := [(.ref b163)]) (rest := []) rfl rfl (lenOf pd_17 rfl) rfl (by decide) (nle rfl) (by decide) (by decide) at_172 rfl (fun v172 T172 h172 Y172 q172 => ?_)
        obtain ⟨rfl, rfl⟩ := q172
        show Gl p e below _ (T172.setTop (mkF m 175 _ [(.int 1)]))
        refine Gl.istore Y172 (L' := #[.val (.int ln), .val (.int aa), .val (.int bb), .val (.int cc), .val (.int dd), .val (.int 4), .val (.int r9), .val (.int r15), .val (.int r21), .val (.int r28), .val (.int r9), .val (.int r15), .val (.int r21), .val (.int r28), .val (.ref b139), .val (.int 1), .unset]) rfl at_175 rfl ?_
        refine Gl.iconst Y172 (v := (-1 : Int32)) (by decide) at_177 rfl ?_
        refine Gl.istore Y172 (L' := #[.val (.int ln), .val (.int aa), .val (.int bb), .val (.int cc), .val (.int dd), .val (.int 4), .val (.int r9), .val (.int r15), .val (.int r21), .val (.int r28), .val (.int r9), .val (.int r15), .val (.int r21), .val (.int r28), .val (.ref b139), .val (.int 1), .val (.int (-1))]) rfl at_178 rfl ?_
        refine Gl.iload Y172 rfl at_180 rfl ?_
        refine Gl.iconst Y172 (v := (3 : Int32)) (by decide) at_182 rfl ?_
        refine Gl.icmple Y172 at_183 (by decide) rfl rfl (fun c183 => ?_) (fun c183 => ?_)
        · exact absurd c183 (by decide)
        refine Gl.iload Y172 rfl at_186 rfl ?_
        refine Gl.sipush Y172 (v := (255 : Int32)) (by decide) at_188 rfl ?_
        obtain ⟨z191, hz191⟩ : ∃ z : Int32, (if (255 : Int32) < r28 then (3 : Int32) else (-1 : Int32)) = z := ⟨_, rfl⟩
        refine own_cut (B := ∀ T', Sd Z "com/example/ref_search/refsearch/matcher/ProbesOffsetFromU0100PinLaw" code maxLocals (some .boolean) n0 p l e room_1 s m #[(.int ln), (.int aa), (.int bb), (.int cc), (.int dd)] below meth c T' h169 4 20 → Gl p e below (Jvm.OwnWW.Pst s n0 room_1.cells room_1.slots (QL Z ln aa bb cc dd cs fm h0)) (T'.setTop (mkF m 197 #[.val (.int ln), .val (.int aa), .val (.int bb), .val (.int cc), .val (.int dd), .val (.int 4), .val (.int r9), .val (.int r15), .val (.int r21), .val (.int r28), .val (.int r9), .val (.int r15), .val (.int r21), .val (.int r28), .val (.ref b139), .val (.int 1), .val (.int z191)] []))) (fun jk => ?_) (fun T191j Y191j => ?_)
        · refine Gl.icmple Y172 at_191 (by decide) rfl rfl (fun c191 => ?_) (fun c191 => ?_)
          · have ez191 : z191 = (-1 : Int32) := by rw [← hz191]; simp only [c191, ↓reduceIte, if_true, if_false]
            rw [ez191] at jk
            exact jk T172 Y172
          · refine Gl.iconst Y172 (v := (3 : Int32)) (by decide) at_194 rfl ?_
            refine Gl.istore Y172 (L' := #[.val (.int ln), .val (.int aa), .val (.int bb), .val (.int cc), .val (.int dd), .val (.int 4), .val (.int r9), .val (.int r15), .val (.int r21), .val (.int r28), .val (.int r9), .val (.int r15), .val (.int r21), .val (.int r28), .val (.ref b139), .val (.int 1), .val (.int 3)]) rfl at_195 rfl ?_
            have ez191 : z191 = (3 : Int32) := by rw [← hz191]; simp only [c191, ↓reduceIte, if_true, if_false]
            rw [ez191] at jk
            exact jk T172 Y172
        refine Gl.iload Y191j rfl at_197 rfl ?_
        refine Gl.iconst Y191j (v := (2 : Int32)) (by decide) at_199 rfl ?_
        refine Gl.icmple Y191j at_200 (by decide) rfl rfl (fun c200 => ?_) (fun c200 => ?_)
        · exact absurd c200 (by decide)
        refine Gl.iload Y191j rfl at_203 rfl ?_
        refine Gl.sipush Y191j (v := (255 : Int32)) (by decide) at_205 rfl ?_
        obtain ⟨z208, hz208⟩ : ∃ z : Int32, (if (255 : Int32) < r21 then (2 : Int32) else z191) = z := ⟨_, rfl⟩
        refine own_cut (B := ∀ T', Sd Z "com/example/ref_search/refsearch/matcher/ProbesOffsetFromU0100PinLaw" code maxLocals (some .boolean) n0 p l e room_1 s m #[(.int ln), (.int aa), (.int bb), (.int cc), (.int dd)] below meth c T' h169 4 20 → Gl p e below (Jvm.OwnWW.Pst s n0 room_1.cells room_1.slots (QL Z ln aa bb cc dd cs fm h0)) (T'.setTop (mkF m 214 #[.val (.int ln), .val (.int aa), .val (.int bb), .val (.int cc), .val (.int dd), .val (.int 4), .val (.int r9), .val (.int r15), .val (.int r21), .val (.int r28), .val (.int r9), .val (.int r15), .val (.int r21), .val (.int r28), .val (.ref b139), .val (.int 1), .val (.int z208)] []))) (fun jk => ?_) (fun T208j Y208j => ?_)
        · refine Gl.icmple Y191j at_208 (by decide) rfl rfl (fun c208 => ?_) (fun c208 => ?_)
          · have ez208 : z208 = z191 := by rw [← hz208]; simp only [c208, ↓reduceIte, if_true, if_false]
            rw [ez208] at jk
            exact jk T191j Y191j
          · refine Gl.iconst Y191j (v := (2 : Int32)) (by decide) at_211 rfl ?_
            refine Gl.istore Y191j (L' := #[.val (.int ln), .val (.int aa), .val (.int bb), .val (.int cc), .val (.int dd), .val (.int 4), .val (.int r9), .val (.int r15), .val (.int r21), .val (.int r28), .val (.int r9), .val (.int r15), .val (.int r21), .val (.int r28), .val (.ref b139), .val (.int 1), .val (.int 2)]) rfl at_212 rfl ?_
            have ez208 : z208 = (2 : Int32) := by rw [← hz208]; simp only [c208, ↓reduceIte, if_true, if_false]
            rw [ez208] at jk
            exact jk T191j Y191j
        refine Gl.iload Y208j rfl at_214 rfl ?_
        refine Gl.iconst Y208j (v := (1 : Int32)) (by decide) at_216 rfl ?_
        refine Gl.icmple Y208j at_217 (by decide) rfl rfl (fun c217 => ?_) (fun c217 => ?_)
        · exact absurd c217 (by decide)
        refine Gl.iload Y208j rfl at_220 rfl ?_
        refine Gl.sipush Y208j (v := (255 : Int32)) (by decide) at_222 rfl ?_
        refine Gl.icmple Y208j at_225 (by decide) rfl rfl (fun c225 => ?_) (fun c225 => ?_)
        · exact absurd b1 c225
        refine Gl.iconst Y208j (v := (1 : Int32)) (by decide) at_228 rfl ?_
        refine Gl.istore Y208j (L' := #[.val (.int ln), .val (.int aa), .val (.int bb), .val (.int cc), .val (.int dd), .val (.int 4), .val (.int r9), .val (.int r15), .val (.int r21), .val (.int r28), .val (.int r9), .val (.int r15), .val (.int r21), .val (.int r28), .val (.ref b139), .val (.int 1), .val (.int 1)]) rfl at_229 rfl ?_
        refine Gl.iload Y208j rfl at_231 rfl ?_
        refine Gl.ifle Y208j at_233 (by decide) rfl rfl (fun c233 => ?_) (fun c233 => ?_)
        · exact absurd c233 (by decide)
        refine Gl.iload Y208j rfl at_236 rfl ?_
        refine Gl.sipush Y208j (v := (255 : Int32)) (by decide) at_238 rfl ?_
        refine Gl.icmple Y208j at_241 (by decide) rfl rfl (fun c241 => ?_) (fun c241 => ?_)
        rotate_left
        · exact absurd c241 b0
        refine Gl.iload Y208j rfl at_247 rfl ?_
        refine Gl.iload Y208j rfl at_249 rfl ?_
        refine Gl.icmpne Y208j at_251 (by decide) rfl rfl (fun c251 => ?_) (fun c251 => ?_)
        · exact absurd c251 (by decide)
        refine Gl.iconst Y208j (v := (1 : Int32)) (by decide) at_254 rfl ?_
        refine Gl.goto Y208j at_255 (by decide) rfl ?_
        exact Jvm.OwnWW.Gl.retZ (toW Y208j) (by decide) (by decide) (x' := (1 : Int32)) (by decide) at_259 rfl
      · by_cases b2 : (255 : Int32) < r21
        · refine Gl.iload Y28 rfl at_53 rfl ?_
          refine Gl.ifne Y28 at_55 (by decide) rfl rfl (fun c55 => ?_) (fun c55 => ?_)
          rotate_left
          · exact absurd c55 (by decide)
          refine Gl.iload Y28 rfl at_66 rfl ?_
          refine Gl.iconst Y28 (v := (1 : Int32)) (by decide) at_68 rfl ?_
          refine Gl.icmpne Y28 at_69 (by decide) rfl rfl (fun c69 => ?_) (fun c69 => ?_)
          rotate_left
          · exact absurd c69 (by decide)
          refine Gl.iload Y28 rfl at_85 rfl ?_
          refine Gl.iconst Y28 (v := (2 : Int32)) (by decide) at_87 rfl ?_
          refine Gl.icmpne Y28 at_88 (by decide) rfl rfl (fun c88 => ?_) (fun c88 => ?_)
          rotate_left
          · exact absurd c88 (by decide)
          refine Gl.iload Y28 rfl at_109 rfl ?_
          refine Gl.iconst Y28 (v := (3 : Int32)) (by decide) at_111 rfl ?_
          refine Gl.icmpne Y28 at_112 (by decide) rfl rfl (fun c112 => ?_) (fun c112 => ?_)
          rotate_left
          · exact absurd c112 (by decide)
          refine Gl.iconst Y28 (v := (4 : Int32)) (by decide) at_138 rfl ?_
          refine Gl.newP Y28 4 (ty := .char) rfl (tw_5 hw) (by decide) (by decide) (nle rfl) (nle rfl) (nle rfl) at_139 rfl (fun T139 h139 b139 ck139 Y139 E139 g139 sb139 V139 => ?_)
          have V139 : Arv Z h139 b139 ck139 .char (4 : Int32) [(.int 0), (.int 0), (.int 0), (.int 0)] (.int 0) := V139.pad (pad_rep [] (.int 0) 4)
          show Gl p e below _ (T139.setTop (mkF m 141 _ [(.ref b139)]))
          refine Gl.dup Y139 rfl at_141 rfl ?_
          refine Gl.iconst Y139 (v := (0 : Int32)) (by decide) at_142 rfl ?_
          refine Gl.iload Y139 rfl at_143 rfl ?_
          refine Gl.castore Y139 V139 (v := (.int r9)) (congrArg Value.int (own_narCr p9.1 p9.2)) ⟨by decide, by decide⟩ (ix := 0) rfl (nle rfl) sb139 at_145 rfl (fun T145 h145 Y145 W145 A145 => ?_)
          have A145 : Arv Z h145 b139 ck139 .char (4 : Int32) [(.int r9), (.int 0), (.int 0), (.int 0)] (.int 0) := A145
          show Gl p e below _ (T145.setTop (mkF m 146 _ [(.ref b139)]))
          refine Gl.dup Y145 rfl at_146 rfl ?_
          refine Gl.iconst Y145 (v := (1 : Int32)) (by decide) at_147 rfl ?_
          refine Gl.iload Y145 rfl at_148 rfl ?_
          refine Gl.castore Y145 A145 (v := (.int r15)) (congrArg Value.int (own_narCr p15.1 p15.2)) ⟨by decide, by decide⟩ (ix := 1) rfl (nle rfl) sb139 at_150 rfl (fun T150 h150 Y150 W150 A150 => ?_)
          have A150 : Arv Z h150 b139 ck139 .char (4 : Int32) [(.int r9), (.int r15), (.int 0), (.int 0)] (.int 0) := A150
          show Gl p e below _ (T150.setTop (mkF m 151 _ [(.ref b139)]))
          refine Gl.dup Y150 rfl at_151 rfl ?_
          refine Gl.iconst Y150 (v := (2 : Int32)) (by decide) at_152 rfl ?_
          refine Gl.iload Y150 rfl at_153 rfl ?_
          refine Gl.castore Y150 A150 (v := (.int r21)) (congrArg Value.int (own_narCr p21.1 p21.2)) ⟨by decide, by decide⟩ (ix := 2) rfl (nle rfl) sb139 at_155 rfl (fun T155 h155 Y155 W155 A155 => ?_)
          have A155 : Arv Z h155 b139 ck139 .char (4 : Int32) [(.int r9), (.int r15), (.int r21), (.int 0)] (.int 0) := A155
          show Gl p e below _ (T155.setTop (mkF m 156 _ [(.ref b139)]))
          refine Gl.dup Y155 rfl at_156 rfl ?_
          refine Gl.iconst Y155 (v := (3 : Int32)) (by decide) at_157 rfl ?_
          refine Gl.iload Y155 rfl at_158 rfl ?_
          refine Gl.castore Y155 A155 (v := (.int r28)) (congrArg Value.int (own_narCr p28.1 p28.2)) ⟨by decide, by decide⟩ (ix := 3) rfl (nle rfl) sb139 at_160 rfl (fun T160 h160 Y160 W160 A160 => ?_)
          have A160 : Arv Z h160 b139 ck139 .char (4 : Int32) [(.int r9), (.int r15), (.int r21), (.int r28)] (.int 0) := A160
          show Gl p e below _ (T160.setTop (mkF m 161 _ [(.ref b139)]))
          refine Gl.astore Y160 rfl (L' := #[.val (.int ln), .val (.int aa), .val (.int bb), .val (.int cc), .val (.int dd), .val (.int 4), .val (.int r9), .val (.int r15), .val (.int r21), .val (.int r28), .val (.int r9), .val (.int r15), .val (.int r21), .val (.int r28), .val (.ref b139), .unset, .unset]) rfl at_161 rfl ?_
          refine Gl.newO Y160 (tw_6 hw) (tw_7 hw) (tw_8 hw) (by decide) (by decide) at_163 rfl (fun T163 h163 b163 Y163 E163 g163 sb163 X163 D163 => ?_)
          have f61 : Fld Z h163 b163 "java/lang/String" "value" "[B" .null := D163 (Or.inr (tw_21 hw)) (ty := (.array .byte)) (by decide)
          have f62 : Fld Z h163 b163 "java/lang/String" "coder" "B" (.int 0) := D163 (Or.inr (tw_22 hw)) (ty := .byte) (by decide)
          show Gl p e below _ (T163.setTop (mkF m 166 _ [(.ref b163)]))
          refine Gl.dup Y163 rfl at_166 rfl ?_
          refine Gl.aload Y163 rfl rfl at_167 rfl ?_
          have f63 := ((((((O.ext E139).wr W145 sb139).wr W150 sb139).wr W155 sb139).wr W160 sb139).ext E163)
          have f64 := (A160.ext E163)
          refine Gl.callN Y163 rfl (tw_9 hw) (tw_10 hw) (tw_8 hw) (tw_11 hw) (by decide) (rm89 l Z a0 hw b163 b139 ck139 cs r9 r15 r21 r28 h163 n0 Y163.sz f63 S (hcs) SA SH SL X163 f61 f62 sb163 (Nat.ne_of_lt (Nat.lt_of_lt_of_eq A160.lt g163.symm)) f64 (b0) (b1) (b2) (p9) (p15) (p21) (p28)) (a := b163) (argsL := [(.ref b139)]) (rest := [(.ref b163)]) rfl rfl (lenOf pd_16 rfl) rfl (by decide) (nle rfl) (by decide) (by decide) at_169 rfl (fun v169 T169 h169 Y169 q169 => ?_)
          obtain ⟨b169, kb169, rfl, K169, f169_0, f169_1, f169_2, f169_3, f169_4⟩ := q169
          have Y169_sz : n0 ≤ h163.size := Y163.sz
          show Gl p e below _ (T169.setTop (mkF m 172 _ [(.ref b163)]))
          have f65 := (f63.keep K169 (allS sb163 all0))
          refine Gl.callS Y169 (tw_27 hw) (tw_28 hw) (tw_29 hw) (tw_30 hw) (by decide) (rm169 l Z a0 hw b163 b169 kb169 cs r9 r15 r21 r28 fm h169 n0 Y169.sz f65 S (hcs) f169_1 f169_3 f169_2 f169_4 SA SH SL SF (hfm) (p9) (p15) (p21) (p28) (b0) (b1) (b2)) (argsL := [(.ref b163)]) (rest := []) rfl rfl (lenOf pd_17 rfl) rfl (by decide) (nle rfl) (by decide) (by decide) at_172 rfl (fun v172 T172 h172 Y172 q172 => ?_)
          obtain ⟨rfl, rfl⟩ := q172
          show Gl p e below _ (T172.setTop (mkF m 175 _ [(.int 2)]))
          refine Gl.istore Y172 (L' := #[.val (.int ln), .val (.int aa), .val (.int bb), .val (.int cc), .val (.int dd), .val (.int 4), .val (.int r9), .val (.int r15), .val (.int r21), .val (.int r28), .val (.int r9), .val (.int r15), .val (.int r21), .val (.int r28), .val (.ref b139), .val (.int 2), .unset]) rfl at_175 rfl ?_
          refine Gl.iconst Y172 (v := (-1 : Int32)) (by decide) at_177 rfl ?_
          refine Gl.istore Y172 (L' := #[.val (.int ln), .val (.int aa), .val (.int bb), .val (.int cc), .val (.int dd), .val (.int 4), .val (.int r9), .val (.int r15), .val (.int r21), .val (.int r28), .val (.int r9), .val (.int r15), .val (.int r21), .val (.int r28), .val (.ref b139), .val (.int 2), .val (.int (-1))]) rfl at_178 rfl ?_
          refine Gl.iload Y172 rfl at_180 rfl ?_
          refine Gl.iconst Y172 (v := (3 : Int32)) (by decide) at_182 rfl ?_
          refine Gl.icmple Y172 at_183 (by decide) rfl rfl (fun c183 => ?_) (fun c183 => ?_)
          · exact absurd c183 (by decide)
          refine Gl.iload Y172 rfl at_186 rfl ?_
          refine Gl.sipush Y172 (v := (255 : Int32)) (by decide) at_188 rfl ?_
          obtain ⟨z191, hz191⟩ : ∃ z : Int32, (if (255 : Int32) < r28 then (3 : Int32) else (-1 : Int32)) = z := ⟨_, rfl⟩
          refine own_cut (B := ∀ T', Sd Z "com/example/ref_search/refsearch/matcher/ProbesOffsetFromU0100PinLaw" code maxLocals (some .boolean) n0 p l e room_1 s m #[(.int ln), (.int aa), (.int bb), (.int cc), (.int dd)] below meth c T' h169 4 20 → Gl p e below (Jvm.OwnWW.Pst s n0 room_1.cells room_1.slots (QL Z ln aa bb cc dd cs fm h0)) (T'.setTop (mkF m 197 #[.val (.int ln), .val (.int aa), .val (.int bb), .val (.int cc), .val (.int dd), .val (.int 4), .val (.int r9), .val (.int r15), .val (.int r21), .val (.int r28), .val (.int r9), .val (.int r15), .val (.int r21), .val (.int r28), .val (.ref b139), .val (.int 2), .val (.int z191)] []))) (fun jk => ?_) (fun T191j Y191j => ?_)
          · refine Gl.icmple Y172 at_191 (by decide) rfl rfl (fun c191 => ?_) (fun c191 => ?_)
            · have ez191 : z191 = (-1 : Int32) := by rw [← hz191]; simp only [c191, ↓reduceIte, if_true, if_false]
              rw [ez191] at jk
              exact jk T172 Y172
            · refine Gl.iconst Y172 (v := (3 : Int32)) (by decide) at_194 rfl ?_
              refine Gl.istore Y172 (L' := #[.val (.int ln), .val (.int aa), .val (.int bb), .val (.int cc), .val (.int dd), .val (.int 4), .val (.int r9), .val (.int r15), .val (.int r21), .val (.int r28), .val (.int r9), .val (.int r15), .val (.int r21), .val (.int r28), .val (.ref b139), .val (.int 2), .val (.int 3)]) rfl at_195 rfl ?_
              have ez191 : z191 = (3 : Int32) := by rw [← hz191]; simp only [c191, ↓reduceIte, if_true, if_false]
              rw [ez191] at jk
              exact jk T172 Y172
          refine Gl.iload Y191j rfl at_197 rfl ?_
          refine Gl.iconst Y191j (v := (2 : Int32)) (by decide) at_199 rfl ?_
          refine Gl.icmple Y191j at_200 (by decide) rfl rfl (fun c200 => ?_) (fun c200 => ?_)
          · exact absurd c200 (by decide)
          refine Gl.iload Y191j rfl at_203 rfl ?_
          refine Gl.sipush Y191j (v := (255 : Int32)) (by decide) at_205 rfl ?_
          refine Gl.icmple Y191j at_208 (by decide) rfl rfl (fun c208 => ?_) (fun c208 => ?_)
          · exact absurd b2 c208
          refine Gl.iconst Y191j (v := (2 : Int32)) (by decide) at_211 rfl ?_
          refine Gl.istore Y191j (L' := #[.val (.int ln), .val (.int aa), .val (.int bb), .val (.int cc), .val (.int dd), .val (.int 4), .val (.int r9), .val (.int r15), .val (.int r21), .val (.int r28), .val (.int r9), .val (.int r15), .val (.int r21), .val (.int r28), .val (.ref b139), .val (.int 2), .val (.int 2)]) rfl at_212 rfl ?_
          refine Gl.iload Y191j rfl at_214 rfl ?_
          refine Gl.iconst Y191j (v := (1 : Int32)) (by decide) at_216 rfl ?_
          refine Gl.icmple Y191j at_217 (by decide) rfl rfl (fun c217 => ?_) (fun c217 => ?_)
          · exact absurd c217 (by decide)
          refine Gl.iload Y191j rfl at_220 rfl ?_
          refine Gl.sipush Y191j (v := (255 : Int32)) (by decide) at_222 rfl ?_
          refine Gl.icmple Y191j at_225 (by decide) rfl rfl (fun c225 => ?_) (fun c225 => ?_)
          rotate_left
          · exact absurd c225 b1
          refine Gl.iload Y191j rfl at_231 rfl ?_
          refine Gl.ifle Y191j at_233 (by decide) rfl rfl (fun c233 => ?_) (fun c233 => ?_)
          · exact absurd c233 (by decide)
          refine Gl.iload Y191j rfl at_236 rfl ?_
          refine Gl.sipush Y191j (v := (255 : Int32)) (by decide) at_238 rfl ?_
          refine Gl.icmple Y191j at_241 (by decide) rfl rfl (fun c241 => ?_) (fun c241 => ?_)
          rotate_left
          · exact absurd c241 b0
          refine Gl.iload Y191j rfl at_247 rfl ?_
          refine Gl.iload Y191j rfl at_249 rfl ?_
          refine Gl.icmpne Y191j at_251 (by decide) rfl rfl (fun c251 => ?_) (fun c251 => ?_)
          · exact absurd c251 (by decide)
          refine Gl.iconst Y191j (v := (1 : Int32)) (by decide) at_254 rfl ?_
          refine Gl.goto Y191j at_255 (by decide) rfl ?_
          exact Jvm.OwnWW.Gl.retZ (toW Y191j) (by decide) (by decide) (x' := (1 : Int32)) (by decide) at_259 rfl
        · by_cases b3 : (255 : Int32) < r28
          · refine Gl.iload Y28 rfl at_53 rfl ?_
            refine Gl.ifne Y28 at_55 (by decide) rfl rfl (fun c55 => ?_) (fun c55 => ?_)
            rotate_left
            · exact absurd c55 (by decide)
            refine Gl.iload Y28 rfl at_66 rfl ?_
            refine Gl.iconst Y28 (v := (1 : Int32)) (by decide) at_68 rfl ?_
            refine Gl.icmpne Y28 at_69 (by decide) rfl rfl (fun c69 => ?_) (fun c69 => ?_)
            rotate_left
            · exact absurd c69 (by decide)
            refine Gl.iload Y28 rfl at_85 rfl ?_
            refine Gl.iconst Y28 (v := (2 : Int32)) (by decide) at_87 rfl ?_
            refine Gl.icmpne Y28 at_88 (by decide) rfl rfl (fun c88 => ?_) (fun c88 => ?_)
            rotate_left
            · exact absurd c88 (by decide)
            refine Gl.iload Y28 rfl at_109 rfl ?_
            refine Gl.iconst Y28 (v := (3 : Int32)) (by decide) at_111 rfl ?_
            refine Gl.icmpne Y28 at_112 (by decide) rfl rfl (fun c112 => ?_) (fun c112 => ?_)
            rotate_left
            · exact absurd c112 (by decide)
            refine Gl.iconst Y28 (v := (4 : Int32)) (by decide) at_138 rfl ?_
            refine Gl.newP Y28 4 (ty := .char) rfl (tw_5 hw) (by decide) (by decide) (nle rfl) (nle rfl) (nle rfl) at_139 rfl (fun T139 h139 b139 ck139 Y139 E139 g139 sb139 V139 => ?_)
            have V139 : Arv Z h139 b139 ck139 .char (4 : Int32) [(.int 0), (.int 0), (.int 0), (.int 0)] (.int 0) := V139.pad (pad_rep [] (.int 0) 4)
            show Gl p e below _ (T139.setTop (mkF m 141 _ [(.ref b139)]))
            refine Gl.dup Y139 rfl at_141 rfl ?_
            refine Gl.iconst Y139 (v := (0 : Int32)) (by decide) at_142 rfl ?_
            refine Gl.iload Y139 rfl at_143 rfl ?_
            refine Gl.castore Y139 V139 (v := (.int r9)) (congrArg Value.int (own_narCr p9.1 p9.2)) ⟨by decide, by decide⟩ (ix := 0) rfl (nle rfl) sb139 at_145 rfl (fun T145 h145 Y145 W145 A145 => ?_)
            have A145 : Arv Z h145 b139 ck139 .char (4 : Int32) [(.int r9), (.int 0), (.int 0), (.int 0)] (.int 0) := A145
            show Gl p e below _ (T145.setTop (mkF m 146 _ [(.ref b139)]))
            refine Gl.dup Y145 rfl at_146 rfl ?_
            refine Gl.iconst Y145 (v := (1 : Int32)) (by decide) at_147 rfl ?_
            refine Gl.iload Y145 rfl at_148 rfl ?_
            refine Gl.castore Y145 A145 (v := (.int r15)) (congrArg Value.int (own_narCr p15.1 p15.2)) ⟨by decide, by decide⟩ (ix := 1) rfl (nle rfl) sb139 at_150 rfl (fun T150 h150 Y150 W150 A150 => ?_)
            have A150 : Arv Z h150 b139 ck139 .char (4 : Int32) [(.int r9), (.int r15), (.int 0), (.int 0)] (.int 0) := A150
            show Gl p e below _ (T150.setTop (mkF m 151 _ [(.ref b139)]))
            refine Gl.dup Y150 rfl at_151 rfl ?_
            refine Gl.iconst Y150 (v := (2 : Int32)) (by decide) at_152 rfl ?_
            refine Gl.iload Y150 rfl at_153 rfl ?_
            refine Gl.castore Y150 A150 (v := (.int r21)) (congrArg Value.int (own_narCr p21.1 p21.2)) ⟨by decide, by decide⟩ (ix := 2) rfl (nle rfl) sb139 at_155 rfl (fun T155 h155 Y155 W155 A155 => ?_)
            have A155 : Arv Z h155 b139 ck139 .char (4 : Int32) [(.int r9), (.int r15), (.int r21), (.int 0)] (.int 0) := A155
            show Gl p e below _ (T155.setTop (mkF m 156 _ [(.ref b139)]))
            refine Gl.dup Y155 rfl at_156 rfl ?_
            refine Gl.iconst Y155 (v := (3 : Int32)) (by decide) at_157 rfl ?_
            refine Gl.iload Y155 rfl at_158 rfl ?_
            refine Gl.castore Y155 A155 (v := (.int r28)) (congrArg Value.int (own_narCr p28.1 p28.2)) ⟨by decide, by decide⟩ (ix := 3) rfl (nle rfl) sb139 at_160 rfl (fun T160 h160 Y160 W160 A160 => ?_)
            have A160 : Arv Z h160 b139 ck139 .char (4 : Int32) [(.int r9), (.int r15), (.int r21), (.int r28)] (.int 0) := A160
            show Gl p e below _ (T160.setTop (mkF m 161 _ [(.ref b139)]))
            refine Gl.astore Y160 rfl (L' := #[.val (.int ln), .val (.int aa), .val (.int bb), .val (.int cc), .val (.int dd), .val (.int 4), .val (.int r9), .val (.int r15), .val (.int r21), .val (.int r28), .val (.int r9), .val (.int r15), .val (.int r21), .val (.int r28), .val (.ref b139), .unset, .unset]) rfl at_161 rfl ?_
            refine Gl.newO Y160 (tw_6 hw) (tw_7 hw) (tw_8 hw) (by decide) (by decide) at_163 rfl (fun T163 h163 b163 Y163 E163 g163 sb163 X163 D163 => ?_)
            have f66 : Fld Z h163 b163 "java/lang/String" "value" "[B" .null := D163 (Or.inr (tw_21 hw)) (ty := (.array .byte)) (by decide)
            have f67 : Fld Z h163 b163 "java/lang/String" "coder" "B" (.int 0) := D163 (Or.inr (tw_22 hw)) (ty := .byte) (by decide)
            show Gl p e below _ (T163.setTop (mkF m 166 _ [(.ref b163)]))
            refine Gl.dup Y163 rfl at_166 rfl ?_
            refine Gl.aload Y163 rfl rfl at_167 rfl ?_
            have f68 := ((((((O.ext E139).wr W145 sb139).wr W150 sb139).wr W155 sb139).wr W160 sb139).ext E163)
            have f69 := (A160.ext E163)
            refine Gl.callN Y163 rfl (tw_9 hw) (tw_10 hw) (tw_8 hw) (tw_11 hw) (by decide) (rm92 l Z a0 hw b163 b139 ck139 cs r9 r15 r21 r28 h163 n0 Y163.sz f68 S (hcs) SA SH SL X163 f66 f67 sb163 (Nat.ne_of_lt (Nat.lt_of_lt_of_eq A160.lt g163.symm)) f69 (b0) (b1) (b2) (b3) (p9) (p15) (p21) (p28)) (a := b163) (argsL := [(.ref b139)]) (rest := [(.ref b163)]) rfl rfl (lenOf pd_16 rfl) rfl (by decide) (nle rfl) (by decide) (by decide) at_169 rfl (fun v169 T169 h169 Y169 q169 => ?_)
            obtain ⟨b169, kb169, rfl, K169, f169_0, f169_1, f169_2, f169_3, f169_4⟩ := q169
            have Y169_sz : n0 ≤ h163.size := Y163.sz
            show Gl p e below _ (T169.setTop (mkF m 172 _ [(.ref b163)]))
            have f70 := (f68.keep K169 (allS sb163 all0))
            refine Gl.callS Y169 (tw_27 hw) (tw_28 hw) (tw_29 hw) (tw_30 hw) (by decide) (rm170 l Z a0 hw b163 b169 kb169 cs r9 r15 r21 r28 fm h169 n0 Y169.sz f70 S (hcs) f169_1 f169_3 f169_2 f169_4 SA SH SL SF (hfm) (p9) (p15) (p21) (p28) (b0) (b1) (b2) (b3)) (argsL := [(.ref b163)]) (rest := []) rfl rfl (lenOf pd_17 rfl) rfl (by decide) (nle rfl) (by decide) (by decide) at_172 rfl (fun v172 T172 h172 Y172 q172 => ?_)
            obtain ⟨rfl, rfl⟩ := q172
            show Gl p e below _ (T172.setTop (mkF m 175 _ [(.int 3)]))
            refine Gl.istore Y172 (L' := #[.val (.int ln), .val (.int aa), .val (.int bb), .val (.int cc), .val (.int dd), .val (.int 4), .val (.int r9), .val (.int r15), .val (.int r21), .val (.int r28), .val (.int r9), .val (.int r15), .val (.int r21), .val (.int r28), .val (.ref b139), .val (.int 3), .unset]) rfl at_175 rfl ?_
            refine Gl.iconst Y172 (v := (-1 : Int32)) (by decide) at_177 rfl ?_
            refine Gl.istore Y172 (L' := #[.val (.int ln), .val (.int aa), .val (.int bb), .val (.int cc), .val (.int dd), .val (.int 4), .val (.int r9), .val (.int r15), .val (.int r21), .val (.int r28), .val (.int r9), .val (.int r15), .val (.int r21), .val (.int r28), .val (.ref b139), .val (.int 3), .val (.int (-1))]) rfl at_178 rfl ?_
            refine Gl.iload Y172 rfl at_180 rfl ?_
            refine Gl.iconst Y172 (v := (3 : Int32)) (by decide) at_182 rfl ?_
            refine Gl.icmple Y172 at_183 (by decide) rfl rfl (fun c183 => ?_) (fun c183 => ?_)
            · exact absurd c183 (by decide)
            refine Gl.iload Y172 rfl at_186 rfl ?_
            refine Gl.sipush Y172 (v := (255 : Int32)) (by decide) at_188 rfl ?_
            refine Gl.icmple Y172 at_191 (by decide) rfl rfl (fun c191 => ?_) (fun c191 => ?_)
            · exact absurd b3 c191
            refine Gl.iconst Y172 (v := (3 : Int32)) (by decide) at_194 rfl ?_
            refine Gl.istore Y172 (L' := #[.val (.int ln), .val (.int aa), .val (.int bb), .val (.int cc), .val (.int dd), .val (.int 4), .val (.int r9), .val (.int r15), .val (.int r21), .val (.int r28), .val (.int r9), .val (.int r15), .val (.int r21), .val (.int r28), .val (.ref b139), .val (.int 3), .val (.int 3)]) rfl at_195 rfl ?_
            refine Gl.iload Y172 rfl at_197 rfl ?_
            refine Gl.iconst Y172 (v := (2 : Int32)) (by decide) at_199 rfl ?_
            refine Gl.icmple Y172 at_200 (by decide) rfl rfl (fun c200 => ?_) (fun c200 => ?_)
            · exact absurd c200 (by decide)
            refine Gl.iload Y172 rfl at_203 rfl ?_
            refine Gl.sipush Y172 (v := (255 : Int32)) (by decide) at_205 rfl ?_
            refine Gl.icmple Y172 at_208 (by decide) rfl rfl (fun c208 => ?_) (fun c208 => ?_)
            rotate_left
            · exact absurd c208 b2
            refine Gl.iload Y172 rfl at_214 rfl ?_
            refine Gl.iconst Y172 (v := (1 : Int32)) (by decide) at_216 rfl ?_
            refine Gl.icmple Y172 at_217 (by decide) rfl rfl (fun c217 => ?_) (fun c217 => ?_)
            · exact absurd c217 (by decide)
            refine Gl.iload Y172 rfl at_220 rfl ?_
            refine Gl.sipush Y172 (v := (255 : Int32)) (by decide) at_222 rfl ?_
            refine Gl.icmple Y172 at_225 (by decide) rfl rfl (fun c225 => ?_) (fun c225 => ?_)
            rotate_left
            · exact absurd c225 b1
            refine Gl.iload Y172 rfl at_231 rfl ?_
            refine Gl.ifle Y172 at_233 (by decide) rfl rfl (fun c233 => ?_) (fun c233 => ?_)
            · exact absurd c233 (by decide)
            refine Gl.iload Y172 rfl at_236 rfl ?_
            refine Gl.sipush Y172 (v := (255 : Int32)) (by decide) at_238 rfl ?_
            refine Gl.icmple Y172 at_241 (by decide) rfl rfl (fun c241 => ?_) (fun c241 => ?_)
            rotate_left
            · exact absurd c241 b0
            refine Gl.iload Y172 rfl at_247 rfl ?_
            refine Gl.iload Y172 rfl at_249 rfl ?_
            refine Gl.icmpne Y172 at_251 (by decide) rfl rfl (fun c251 => ?_) (fun c251 => ?_)
            · exact absurd c251 (by decide)
            refine Gl.iconst Y172 (v := (1 : Int32)) (by decide) at_254 rfl ?_
            refine Gl.goto Y172 at_255 (by decide) rfl ?_
            exact Jvm.OwnWW.Gl.retZ (toW Y172) (by decide) (by decide) (x' := (1 : Int32)) (by decide) at_259 rfl
          · refine Gl.iload Y28 rfl at_53 rfl ?_
            refine Gl.ifne Y28 at_55 (by decide) rfl rfl (fun c55 => ?_) (fun c55 => ?_)
            rotate_left
            · exact absurd c55 (by decide)
            refine Gl.iload Y28 rfl at_66 rfl ?_
            refine Gl.iconst Y28 (v := (1 : Int32)) (by decide) at_68 rfl ?_
            refine Gl.icmpne Y28 at_69 (by decide) rfl rfl (fun c69 => ?_) (fun c69 => ?_)
            rotate_left
            · exact absurd c69 (by decide)
            refine Gl.iload Y28 rfl at_85 rfl ?_
            refine Gl.iconst Y28 (v := (2 : Int32)) (by decide) at_87 rfl ?_
            refine Gl.icmpne Y28 at_88 (by decide) rfl rfl (fun c88 => ?_) (fun c88 => ?_)
            rotate_left
            · exact absurd c88 (by decide)
            refine Gl.iload Y28 rfl at_109 rfl ?_
            refine Gl.iconst Y28 (v := (3 : Int32)) (by decide) at_111 rfl ?_
            refine Gl.icmpne Y28 at_112 (by decide) rfl rfl (fun c112 => ?_) (fun c112 => ?_)
            rotate_left
            · exact absurd c112 (by decide)
            refine Gl.iconst Y28 (v := (4 : Int32)) (by decide) at_138 rfl ?_
            refine Gl.newP Y28 4 (ty := .char) rfl (tw_5 hw) (by decide) (by decide) (nle rfl) (nle rfl) (nle rfl) at_139 rfl (fun T139 h139 b139 ck139 Y139 E139 g139 sb139 V139 => ?_)
            have V139 : Arv Z h139 b139 ck139 .char (4 : Int32) [(.int 0), (.int 0), (.int 0), (.int 0)] (.int 0) := V139.pad (pad_rep [] (.int 0) 4)
            show Gl p e below _ (T139.setTop (mkF m 141 _ [(.ref b139)]))
            refine Gl.dup Y139 rfl at_141 rfl ?_
            refine Gl.iconst Y139 (v := (0 : Int32)) (by decide) at_142 rfl ?_
            refine Gl.iload Y139 rfl at_143 rfl ?_
            refine Gl.castore Y139 V139 (v := (.int r9)) (congrArg Value.int (own_narCr p9.1 p9.2)) ⟨by decide, by decide⟩ (ix := 0) rfl (nle rfl) sb139 at_145 rfl (fun T145 h145 Y145 W145 A145 => ?_)
            have A145 : Arv Z h145 b139 ck139 .char (4 : Int32) [(.int r9), (.int 0), (.int 0), (.int 0)] (.int 0) := A145
            show Gl p e below _ (T145.setTop (mkF m 146 _ [(.ref b139)]))
            refine Gl.dup Y145 rfl at_146 rfl ?_
            refine Gl.iconst Y145 (v := (1 : Int32)) (by decide) at_147 rfl ?_
            refine Gl.iload Y145 rfl at_148 rfl ?_
            refine Gl.castore Y145 A145 (v := (.int r15)) (congrArg Value.int (own_narCr p15.1 p15.2)) ⟨by decide, by decide⟩ (ix := 1) rfl (nle rfl) sb139 at_150 rfl (fun T150 h150 Y150 W150 A150 => ?_)
            have A150 : Arv Z h150 b139 ck139 .char (4 : Int32) [(.int r9), (.int r15), (.int 0), (.int 0)] (.int 0) := A150
            show Gl p e below _ (T150.setTop (mkF m 151 _ [(.ref b139)]))
            refine Gl.dup Y150 rfl at_151 rfl ?_
            refine Gl.iconst Y150 (v := (2 : Int32)) (by decide) at_152 rfl ?_
            refine Gl.iload Y150 rfl at_153 rfl ?_
            refine Gl.castore Y150 A150 (v := (.int r21)) (congrArg Value.int (own_narCr p21.1 p21.2)) ⟨by decide, by decide⟩ (ix := 2) rfl (nle rfl) sb139 at_155 rfl (fun T155 h155 Y155 W155 A155 => ?_)
            have A155 : Arv Z h155 b139 ck139 .char (4 : Int32) [(.int r9), (.int r15), (.int r21), (.int 0)] (.int 0) := A155
            show Gl p e below _ (T155.setTop (mkF m 156 _ [(.ref b139)]))
            refine Gl.dup Y155 rfl at_156 rfl ?_
            refine Gl.iconst Y155 (v := (3 : Int32)) (by decide) at_157 rfl ?_
            refine Gl.iload Y155 rfl at_158 rfl ?_
            refine Gl.castore Y155 A155 (v := (.int r28)) (congrArg Value.int (own_narCr p28.1 p28.2)) ⟨by decide, by decide⟩ (ix := 3) rfl (nle rfl) sb139 at_160 rfl (fun T160 h160 Y160 W160 A160 => ?_)
            have A160 : Arv Z h160 b139 ck139 .char (4 : Int32) [(.int r9), (.int r15), (.int r21), (.int r28)] (.int 0) := A160
            show Gl p e below _ (T160.setTop (mkF m 161 _ [(.ref b139)]))
            refine Gl.astore Y160 rfl (L' := #[.val (.int ln), .val (.int aa), .val (.int bb), .val (.int cc), .val (.int dd), .val (.int 4), .val (.int r9), .val (.int r15), .val (.int r21), .val (.int r28), .val (.int r9), .val (.int r15), .val (.int r21), .val (.int r28), .val (.ref b139), .unset, .unset]) rfl at_161 rfl ?_
            refine Gl.newO Y160 (tw_6 hw) (tw_7 hw) (tw_8 hw) (by decide) (by decide) at_163 rfl (fun T163 h163 b163 Y163 E163 g163 sb163 X163 D163 => ?_)
            have f71 : Fld Z h163 b163 "java/lang/String" "value" "[B" .null := D163 (Or.inr (tw_21 hw)) (ty := (.array .byte)) (by decide)
            have f72 : Fld Z h163 b163 "java/lang/String" "coder" "B" (.int 0) := D163 (Or.inr (tw_22 hw)) (ty := .byte) (by decide)
            show Gl p e below _ (T163.setTop (mkF m 166 _ [(.ref b163)]))
            refine Gl.dup Y163 rfl at_166 rfl ?_
            refine Gl.aload Y163 rfl rfl at_167 rfl ?_
            have f73 := ((((((O.ext E139).wr W145 sb139).wr W150 sb139).wr W155 sb139).wr W160 sb139).ext E163)
            have f74 := (A160.ext E163)
            refine Gl.callN Y163 rfl (tw_9 hw) (tw_10 hw) (tw_8 hw) (tw_11 hw) (by decide) (rm95 l Z a0 hw b163 b139 ck139 cs r9 r15 r21 r28 h163 n0 Y163.sz f73 S (hcs) SA SH SL X163 f71 f72 sb163 (Nat.ne_of_lt (Nat.lt_of_lt_of_eq A160.lt g163.symm)) f74 (b0) (b1) (b2) (b3) (p9) (p15) (p21) (p28)) (a := b163) (argsL := [(.ref b139)]) (rest := [(.ref b163)]) rfl rfl (lenOf pd_16 rfl) rfl (by decide) (nle rfl) (by decide) (by decide) at_169 rfl (fun v169 T169 h169 Y169 q169 => ?_)
            obtain ⟨b169, kb169, rfl, K169, f169_0, f169_1, f169_2, f169_3, f169_4⟩ := q169
            have Y169_sz : n0 ≤ h163.size := Y163.sz
            show Gl p e below _ (T169.setTop (mkF m 172 _ [(.ref b163)]))
            have f75 := (f73.keep K169 (allS sb163 all0))
            refine Gl.callS Y169 (tw_27 hw) (tw_28 hw) (tw_29 hw) (tw_30 hw) (by decide) (rm171 l Z a0 hw b163 b169 kb169 cs r9 r15 r21 r28 fm h169 n0 Y169.sz f75 S (hcs) f169_1 f169_3 f169_2 f169_4 SF (hfm) (p9) (p15) (p21) (p28) (b0) (b1) (b2) (b3)) (argsL := [(.ref b163)]) (rest := []) rfl rfl (lenOf pd_17 rfl) rfl (by decide) (nle rfl) (by decide) (by decide) at_172 rfl (fun v172 T172 h172 Y172 q172 => ?_)
            obtain ⟨rfl, rfl⟩ := q172
            show Gl p e below _ (T172.setTop (mkF m 175 _ [(.int (-1))]))
            refine Gl.istore Y172 (L' := #[.val (.int ln), .val (.int aa), .val (.int bb), .val (.int cc), .val (.int dd), .val (.int 4), .val (.int r9), .val (.int r15), .val (.int r21), .val (.int r28), .val (.int r9), .val (.int r15), .val (.int r21), .val (.int r28), .val (.ref b139), .val (.int (-1)), .unset]) rfl at_175 rfl ?_
            refine Gl.iconst Y172 (v := (-1 : Int32)) (by decide) at_177 rfl ?_
            refine Gl.istore Y172 (L' := #[.val (.int ln), .val (.int aa), .val (.int bb), .val (.int cc), .val (.int dd), .val (.int 4), .val (.int r9), .val (.int r15), .val (.int r21), .val (.int r28), .val (.int r9), .val (.int r15), .val (.int r21), .val (.int r28), .val (.ref b139), .val (.int (-1)), .val (.int (-1))]) rfl at_178 rfl ?_
            refine Gl.iload Y172 rfl at_180 rfl ?_
            refine Gl.iconst Y172 (v := (3 : Int32)) (by decide) at_182 rfl ?_
            refine Gl.icmple Y172 at_183 (by decide) rfl rfl (fun c183 => ?_) (fun c183 => ?_)
            · exact absurd c183 (by decide)
            refine Gl.iload Y172 rfl at_186 rfl ?_
            refine Gl.sipush Y172 (v := (255 : Int32)) (by decide) at_188 rfl ?_
            refine Gl.icmple Y172 at_191 (by decide) rfl rfl (fun c191 => ?_) (fun c191 => ?_)
            rotate_left
            · exact absurd c191 b3
            refine Gl.iload Y172 rfl at_197 rfl ?_
            refine Gl.iconst Y172 (v := (2 : Int32)) (by decide) at_199 rfl ?_
            refine Gl.icmple Y172 at_200 (by decide) rfl rfl (fun c200 => ?_) (fun c200 => ?_)
            · exact absurd c200 (by decide)
            refine Gl.iload Y172 rfl at_203 rfl ?_
            refine Gl.sipush Y172 (v := (255 : Int32)) (by decide) at_205 rfl ?_
            refine Gl.icmple Y172 at_208 (by decide) rfl rfl (fun c208 => ?_) (fun c208 => ?_)
            rotate_left
            · exact absurd c208 b2
            refine Gl.iload Y172 rfl at_214 rfl ?_
            refine Gl.iconst Y172 (v := (1 : Int32)) (by decide) at_216 rfl ?_
            refine Gl.icmple Y172 at_217 (by decide) rfl rfl (fun c217 => ?_) (fun c217 => ?_)
            · exact absurd c217 (by decide)
            refine Gl.iload Y172 rfl at_220 rfl ?_
            refine Gl.sipush Y172 (v := (255 : Int32)) (by decide) at_222 rfl ?_
            refine Gl.icmple Y172 at_225 (by decide) rfl rfl (fun c225 => ?_) (fun c225 => ?_)
            rotate_left
            · exact absurd c225 b1
            refine Gl.iload Y172 rfl at_231 rfl ?_
            refine Gl.ifle Y172 at_233 (by decide) rfl rfl (fun c233 => ?_) (fun c233 => ?_)
            · exact absurd c233 (by decide)
            refine Gl.iload Y172 rfl at_236 rfl ?_
            refine Gl.sipush Y172 (v := (255 : Int32)) (by decide) at_238 rfl ?_
            refine Gl.icmple Y172 at_241 (by decide) rfl rfl (fun c241 => ?_) (fun c241 => ?_)
            rotate_left
            · exact absurd c241 b0
            refine Gl.iload Y172 rfl at_247 rfl ?_
            refine Gl.iload Y172 rfl at_249 rfl ?_
            refine Gl.icmpne Y172 at_251 (by decide) rfl rfl (fun c251 => ?_) (fun c251 => ?_)
            · exact absurd c251 (by decide)
            refine Gl.iconst Y172 (v := (1 : Int32)) (by decide) at_254 rfl ?_
            refine Gl.goto Y172 at_255 (by decide) rfl ?_
            exact Jvm.OwnWW.Gl.retZ (toW Y172) (by decide) (by decide) (x' := (1 : Int32)) (by decide) at_259 rfl
set_option maxRecDepth 65536 in
set_option maxHeartbeats 40000000 in
theorem comes_1 {Post : Tables → Env → Array Value → State → Outcome → State → Prop} (hpost : ∀ tb e args s v u, (limb_1_1.after args s (.returned v) u = true ∧ limb_1_2.after args s (.returned v) u = true ∧ True) → ReturnedEndW s (.returned v) u (Jvm.fieldLocs frame_1_writes args s ++ Jvm.arrayLocs frame_1_arrays args s ++ Jvm.staticLocs frame_1_statics s) 24 1152 → Post tb e args s (.returned v) u) :
    ArmFor flags0 classFile x code maxLocals ret World_1 tables_1 room_1 Calls_1 rest_1 Pre_1 Post := by
  intro l hfl _ _ p e ha hc hk s m args below hf hA hF happ hP
  obtain ⟨hcalls, hrest, hpre⟩ := hP
  obtain ⟨-, -, -, hnamed, -, -, -, hat⟩ := (Spec.applies_iff hf).mp happ
  obtain ⟨hg, hn⟩ := and_e (Cond.before_iff.mp (show (Jvm.Cond.and given_1 narrow_1).before args s = true from hpre))
  obtain ⟨a0, g0⟩ := and_e hg
  obtain ⟨a1, g1⟩ := and_e g0
  obtain ⟨a2, g2⟩ := and_e g1
  obtain ⟨a3, g3⟩ := and_e g2
  obtain ⟨a4, g4⟩ := and_e g3
  obtain ⟨w0, w1, w2, w3, w4, rfl⟩ : ∃ w0 w1 w2 w3 w4 : Value, args = #[w0, w1, w2, w3, w4] := by
    have hs : args.size = 5 := by simpa [Cond.value, given_1] using a0
    obtain ⟨L⟩ := args
    match L, hs with
    | [w0, w1, w2, w3, w4], _ => exact ⟨w0, w1, w2, w3, w4, rfl⟩
  have hw := fun d (hd : d ∈ tables_1) => atoms_spec (ws := Jvm.Cond.code x code maxLocals ret :: tables_1) hat d (List.mem_cons_of_mem _ hd)
  have hfit : Fit s := fun {y c} hc i hi => by
    obtain ⟨ha, rfl⟩ := Array.getElem?_eq_some_iff.mp hc
    have q := List.all_eq_true.mp ((Array.all_eq_true_iff_forall_mem.mp hF) _ (Array.getElem_mem ha)) i (List.mem_range.mpr hi)
    simpa [Array.getElem?_eq_getElem hi] using q
  obtain ⟨i0, e0⟩ := is_v a1
  obtain rfl : w0 = (.int i0) := Option.some.inj e0
  obtain ⟨i1, e1⟩ := is_v a2
  obtain rfl : w1 = (.int i1) := Option.some.inj e1
  obtain ⟨i2, e2⟩ := is_v a3
  obtain rfl : w2 = (.int i2) := Option.some.inj e2
  obtain ⟨i3, e3⟩ := is_v a4
  obtain rfl : w3 = (.int i3) := Option.some.inj e3
  obtain ⟨i4, e4⟩ := is_v g4
  obtain rfl : w4 = (.int i4) := Option.some.inj e4
  have hs := (atoms_of jdkStatics_1 (show (jdkStatics_1.foldr Jvm.Cond.and restOwn_1).before _ s = true from hrest)).1
  have j1 := Cond.before_iff.mp (hs _ (List.mem_of_getElem? (i := 1) rfl))
  obtain ⟨cs, v_cs⟩ := is_v j1
  have S_cs := Sta.start v_cs (Or.inl (hs _ (List.mem_of_getElem? (i := 0) rfl)))
  have w_cs := hs _ (List.mem_of_getElem? (i := 2) rfl)
  have n_cs : ¬ cs = 0 := by
    intro q
    subst q
    have w2 := not_v (Cond.before_iff.mp w_cs)
    rw [eq_i v_cs (Term.int_eval 0) rfl] at w2
    simp at w2
  obtain ⟨fm, v_fm, r_fm⟩ := isR_v (Cond.before_iff.mp (hs _ (List.mem_of_getElem? (i := 8) rfl)))
  have S_fm := Sta.start v_fm (Or.inl (hs _ (List.mem_of_getElem? (i := 7) rfl)))
  have S_a := Sta.start (own_eqI (Cond.before_iff.mp (hs _ (List.mem_of_getElem? (i := 12) rfl)))) (Or.inl (hs _ (List.mem_of_getElem? (i := 11) rfl)))
  have S_h := Sta.start (own_eqI (Cond.before_iff.mp (hs _ (List.mem_of_getElem? (i := 15) rfl)))) (Or.inl (hs _ (List.mem_of_getElem? (i := 14) rfl)))
  have S_l := Sta.start (own_eqI (Cond.before_iff.mp (hs _ (List.mem_of_getElem? (i := 18) rfl)))) (Or.inl (hs _ (List.mem_of_getElem? (i := 17) rfl)))
  obtain ⟨n, o, h1, h2, h3, v, L, rfl, ⟨hv, N⟩, hq⟩ := rmL l s _ hw tables_1 i0 i1 i2 i3 i4 cs fm s.heap s.heap.size (Nat.le_refl _) (Old.start s) S_cs n_cs S_a S_h S_l S_fm (own_rc r_fm) (hcalls.1 _ (List.mem_of_getElem? (i := 0) rfl)) w_cs p e ha hc hk s m _ below hf ((Spec.applies_iff_loose hf).mp happ).1 ⟨rfl, State.Warmed39.refl s, rfl, rfl⟩ trivial
  obtain rfl : v = some (.int 1) := hv
  exact ⟨n, _, h1, h2, h3, hpost _ _ _ _ _ _ ⟨Cond.after_iff.mpr rfl, Cond.after_iff.mpr (eq_i res_at (Term.int_eval (1)) rfl), trivial⟩ ⟨hq.1, hq.2.1, hq.2.2.1, (hq.2.2.2.sift fun y hy => Or.inr (N y hy)).mono (by decide) (by decide)⟩⟩
theorem main_1_1 : Claimed_1_1 := comes_1 fun _ _ _ _ _ _ h hF => ⟨h.1, hF⟩
theorem main_1_2 : Claimed_1_2 := comes_1 fun _ _ _ _ _ _ h hF => ⟨h.2.1, hF⟩
end Jvm.Pilot.@@N@@
namespace Jvm.Pilot.@@N@@
open Jvm Jvm.ClassFile Sem Op Lib Jvm.Free Jvm.Stand Jvm.Pilot.@@N@@.Jvm.D
/-! MADE BY PROGRAM (witnessworld.py) out of the Statement's table words and the real class files: 20 classes; the members and pool entries that the words name. The judged class is class 1, her method 2. -/
namespace start1
open Jvm.ClassFile
def u (s : String) : CpInfo := .utf8 (stringToUtf16 s)
/-- a pool by its gaps: so many unusable entries, then the entry; so many at the end -/
def gap : Nat → List CpInfo → List CpInfo
  | 0, r => r
  | n + 1, r => .unusable :: gap n r
def poolList (es : List (Nat × CpInfo)) (last : Nat) : List CpInfo := es.foldr (fun e r => gap e.1 (e.2 :: r)) (gap last [])
def pool (es : List (Nat × CpInfo)) (last : Nat) : Array CpInfo := ⟨poolList es last⟩
def fileOf (pool : Array CpInfo) (this : Nat) (attrs : Array Attribute := #[]) (ms : Array MethodInfo := #[]) (fl : Nat := 33) (sup : Nat := 0) (ifs : Array Nat := #[]) (fds : Array FieldInfo := #[]) : ClassFile where
  minorVersion := 0
  majorVersion := 65
  constantPool := pool
  accessFlags := fl
  thisClass := this
  superClass := sup
  interfaces := ifs
  fields := fds
  methods := ms
  attributes := attrs
def plain (name : String) (sup : Option ClassId) : Class where
  name := name
  kind := .ordinary
  loader := none
  accessFlags := 33
  super := sup
  interfaces := #[]
  cf := none
  fields := #[]
  methods := #[]
  instanceTypes := #[]
  staticTypes := #[]
  resolved := #[]
  callSites := []
  init := .initialized
  statics := none
  mirror := none

def pool0 : Array CpInfo := pool [(5, u "<init>"), (0, u "()V"), (1, .class_ 10), (1, u "java/lang/Object")] 113

def k0c0 : Code := { maxStack := 0, maxLocals := 1, code := object_method_1_code, exceptionTable := #[], attributes := #[] }
def k0m0 : Method := { name := "<init>", desc := "()V", sig := { parameters := [], returnType := none }, accessFlags := 1, code := some k0c0 }
/-- java/lang/Object -/
def k0 : Class := { plain "java/lang/Object" none with
  accessFlags := 33
  interfaces := #[]
  cf := some (fileOf pool0 8 #[] #[{ accessFlags := 1, nameIndex := 5, descriptorIndex := 6, attributes := #[] }] 33 0 #[] #[])
  fields := #[]
  methods := #[k0m0]
  instanceTypes := #[]
  staticTypes := #[]
  resolved := Array.replicate 124 none
  statics := none }

def pool1 : Array CpInfo := pool [(2, .class_ 4), (1, u "java/lang/Object"), (0, u "<init>"), (0, u "()V"), (0, .integer 65535), (0, .methodref 9 10), (0, .class_ 11), (0, .nameAndType 12 13), (0, u "com/example/ref_search/refsearch/matcher/ProbesOffsetFromU0100PinLaw"), (0, u "ch"), (0, u "(I)I"), (0, .class_ 15), (0, u "java/lang/String"), (0, .methodref 14 17), (0, .nameAndType 5 18), (0, u "([C)V"), (0, .methodref 20 21), (0, .class_ 22), (0, .nameAndType 23 24), (0, u "com/example/ref_search/refsearch/matcher/Probes"), (0, u "offsetFromU0100"), (0, u "(Ljava/lang/String;)I"), (3, u "law"), (0, u "(IIIII)Z")] 4

def k1m0 : Method := { name := "<init>", desc := "()V", sig := { parameters := [], returnType := none }, accessFlags := 1, code := none }
def k1c1 : Code := { maxStack := 2, maxLocals := 1, code := method_2_code, exceptionTable := #[], attributes := #[] }
def k1m1 : Method := { name := "ch", desc := "(I)I", sig := { parameters := [.int], returnType := some .int }, accessFlags := 10, code := some k1c1 }
def k1c2 : Code := { maxStack := 4, maxLocals := 17, code := code, exceptionTable := #[], attributes := #[] }
def k1m2 : Method := { name := "law", desc := "(IIIII)Z", sig := { parameters := [.int, .int, .int, .int, .int], returnType := some .boolean }, accessFlags := 9, code := some k1c2 }
/-- com/example/ref_search/refsearch/matcher/ProbesOffsetFromU0100PinLaw -/
def k1 : Class := { plain "com/example/ref_search/refsearch/matcher/ProbesOffsetFromU0100PinLaw" (some 0) with
  accessFlags := 49
  interfaces := #[]
  cf := some (fileOf pool1 9 #[] #[{ accessFlags := 1, nameIndex := 5, descriptorIndex := 6, attributes := #[] }, { accessFlags := 10, nameIndex := 12, descriptorIndex := 13, attributes := #[] }, { accessFlags := 9, nameIndex := 28, descriptorIndex := 29, attributes := #[] }] 49 2 #[] #[])
  fields := #[]
  methods := #[k1m0, k1m1, k1m2]
  instanceTypes := #[]
  staticTypes := #[]
  resolved := Array.replicate 34 none
  statics := none }

def pool2 : Array CpInfo := pool [(1, .class_ 2), (0, u "java/io/Serializable"), (0, .class_ 4), (0, u "java/lang/Object")] 2

/-- java/io/Serializable -/
def k2 : Class := { plain "java/io/Serializable" (some 0) with
  accessFlags := 1537
  interfaces := #[]
  cf := some (fileOf pool2 1 #[] #[] 1537 3 #[] #[])
  fields := #[]
  methods := #[]
  instanceTypes := #[]
  staticTypes := #[]
  resolved := Array.replicate 7 none
  statics := none }

def pool3 : Array CpInfo := pool [(1, .class_ 2), (0, u "java/lang/Comparable"), (0, .class_ 4), (0, u "java/lang/Object")] 7

/-- java/lang/Comparable -/
def k3 : Class := { plain "java/lang/Comparable" (some 0) with
  accessFlags := 1537
  interfaces := #[]
  cf := some (fileOf pool3 1 #[] #[] 1537 3 #[] #[])
  fields := #[]
  methods := #[]
  instanceTypes := #[]
  staticTypes := #[]
  resolved := Array.replicate 12 none
  statics := none }

def pool4 : Array CpInfo := pool [(2, .class_ 4), (1, u "java/lang/CharSequence"), (42, .class_ 48), (0, u "java/lang/CharSequence$1CodePointIterator"), (10, .class_ 60), (0, u "java/lang/CharSequence$1CharIterator"), (5, .class_ 67), (0, u "java/lang/Object")] 63

/-- java/lang/CharSequence -/
def k4 : Class := { plain "java/lang/CharSequence" (some 0) with
  accessFlags := 1537
  interfaces := #[]
  cf := some (fileOf pool4 2 #[.nestMembers #[47, 59]] #[] 1537 66 #[] #[])
  fields := #[]
  methods := #[]
  instanceTypes := #[]
  staticTypes := #[]
  resolved := Array.replicate 131 none
  statics := none }

def pool5 : Array CpInfo := pool [(1, .class_ 2), (0, u "java/lang/constant/Constable"), (0, .class_ 4), (0, u "java/lang/Object")] 6

/-- java/lang/constant/Constable -/
def k5 : Class := { plain "java/lang/constant/Constable" (some 0) with
  accessFlags := 1537
  interfaces := #[]
  cf := some (fileOf pool5 1 #[] #[] 1537 3 #[] #[])
  fields := #[]
  methods := #[]
  instanceTypes := #[]
  staticTypes := #[]
  resolved := Array.replicate 11 none
  statics := none }

def pool6 : Array CpInfo := pool [(1, .class_ 2), (0, u "java/lang/constant/ConstantDesc"), (0, .class_ 4), (0, u "java/lang/Object")] 32

/-- java/lang/constant/ConstantDesc -/
def k6 : Class := { plain "java/lang/constant/ConstantDesc" (some 0) with
  accessFlags := 1537
  interfaces := #[]
  cf := some (fileOf pool6 1 #[] #[] 1537 3 #[] #[])
  fields := #[]
  methods := #[]
  instanceTypes := #[]
  staticTypes := #[]
  resolved := Array.replicate 37 none
  statics := none }

def pool7 : Array CpInfo := pool [(1, .methodref 2 3), (0, .class_ 4), (0, .nameAndType 5 6), (0, u "java/lang/Object"), (0, u "<init>"), (0, u "()V"), (0, .string 8), (0, u ""), (0, .fieldref 10 11), (0, .class_ 12), (0, .nameAndType 13 14), (0, u "java/lang/String"), (0, u "value"), (0, u "[B"), (0, .fieldref 10 16), (0, .nameAndType 17 18), (0, u "coder"), (0, u "B"), (2, u "hash"), (0, u "I"), (2, u "hashIsZero"), (0, u "Z"), (0, .methodref 10 28), (0, .nameAndType 5 29), (0, u "([CIILjava/lang/Void;)V"), (8, .fieldref 10 39), (0, .nameAndType 40 26), (0, u "COMPACT_STRINGS"), (1, .class_ 44), (1, u "java/lang/StringUTF16"), (0, u "compress"), (1, .methodref 42 48), (0, .nameAndType 49 50), (0, u "coderFromArrayLen"), (0, u "([BI)B"), (56, .class_ 109), (1, u "java/lang/StringLatin1"), (32, u "()Z"), (34, .methodref 42 178), (0, .nameAndType 45 179), (0, u "([CII)[B"), (154, u "()I"), (0, .methodref 10 336), (0, .nameAndType 17 337), (0, u "()B"), (25, u "([BI)C"), (27, u "(II)V"), (35, u "(I)C"), (64, .methodref 10 493), (0, .nameAndType 494 142), (0, u "isLatin1"), (0, .methodref 107 496), (0, .nameAndType 497 363), (0, u "charAt"), (0, .methodref 42 496), (2, u "checkIndex"), (5, u "length"), (67, .class_ 576), (0, u "java/lang/CharSequence"), (22, u "CASE_INSENSITIVE_ORDER"), (0, u "Ljava/util/Comparator;"), (409, u "([C)V"), (42, .fieldref 1054 1055), (0, .class_ 1056), (0, .nameAndType 1057 1058), (0, u "jdk/internal/util/Preconditions"), (0, u "SIOOBE_FORMATTER"), (0, u "Ljava/util/function/BiFunction;"), (0, .methodref 1054 1060), (0, .nameAndType 501 1061), (0, u "(IILjava/util/function/BiFunction;)I"), (39, u "serialPersistentFields"), (0, u "[Ljava/io/ObjectStreamField;"), (0, .class_ 1104), (0, u "java/lang/String$CaseInsensitiveComparator"), (1, .class_ 1107), (0, u "java/io/Serializable"), (0, .class_ 1109), (0, u "java/lang/Comparable"), (0, .class_ 1111), (0, u "java/lang/constant/Constable"), (0, .class_ 1113), (0, u "java/lang/constant/ConstantDesc"), (2, u "serialVersionUID"), (0, u "J"), (3, u "REPL"), (0, u "C"), (2, u "LATIN1"), (1, u "UTF16")] 323

def k7m0 : Method := { name := "<init>", desc := "()V", sig := { parameters := [], returnType := none }, accessFlags := 1, code := none }
def k7c1 : Code := { maxStack := 5, maxLocals := 2, code := jdk_42_method_3_code, exceptionTable := #[], attributes := #[] }
def k7m1 : Method := { name := "<init>", desc := "([C)V", sig := { parameters := [(.array .char)], returnType := none }, accessFlags := 1, code := some k7c1 }
def k7c2 : Code := { maxStack := 2, maxLocals := 1, code := jdk_42_method_54_code, exceptionTable := #[], attributes := #[] }
def k7m2 : Method := { name := "length", desc := "()I", sig := { parameters := [], returnType := some .int }, accessFlags := 1, code := some k7c2 }
def k7c3 : Code := { maxStack := 2, maxLocals := 2, code := jdk_42_method_56_code, exceptionTable := #[], attributes := #[] }
def k7m3 : Method := { name := "charAt", desc := "(I)C", sig := { parameters := [.int], returnType := some .char }, accessFlags := 1, code := some k7c3 }
def k7c4 : Code := { maxStack := 4, maxLocals := 6, code := jdk_42_method_149_code, exceptionTable := #[], attributes := #[] }
def k7m4 : Method := { name := "<init>", desc := "([CIILjava/lang/Void;)V", sig := { parameters := [(.array .char), .int, .int, (.object "java/lang/Void")], returnType := none }, accessFlags := 2, code := some k7c4 }
def k7c5 : Code := { maxStack := 1, maxLocals := 1, code := jdk_42_method_152_code, exceptionTable := #[], attributes := #[] }
def k7m5 : Method := { name := "coder", desc := "()B", sig := { parameters := [], returnType := some .byte }, accessFlags := 0, code := some k7c5 }
def k7c6 : Code := { maxStack := 1, maxLocals := 1, code := jdk_42_method_154_code, exceptionTable := #[], attributes := #[] }
def k7m6 : Method := { name := "isLatin1", desc := "()Z", sig := { parameters := [], returnType := some .boolean }, accessFlags := 0, code := some k7c6 }
def k7c7 : Code := { maxStack := 3, maxLocals := 2, code := jdk_42_method_155_code, exceptionTable := #[], attributes := #[] }
def k7m7 : Method := { name := "checkIndex", desc := "(II)V", sig := { parameters := [.int, .int], returnType := none }, accessFlags := 8, code := some k7c7 }
/-- java/lang/String -/
def k7 : Class := { plain "java/lang/String" (some 0) with
  accessFlags := 49
  interfaces := #[2, 3, 4, 5, 6]
  cf := some (fileOf pool7 10 #[.nestMembers #[1103]] #[{ accessFlags := 1, nameIndex := 5, descriptorIndex := 6, attributes := #[] }, { accessFlags := 1, nameIndex := 5, descriptorIndex := 1010, attributes := #[] }, { accessFlags := 1, nameIndex := 507, descriptorIndex := 334, attributes := #[] }, { accessFlags := 1, nameIndex := 497, descriptorIndex := 427, attributes := #[] }, { accessFlags := 2, nameIndex := 5, descriptorIndex := 29, attributes := #[] }, { accessFlags := 0, nameIndex := 17, descriptorIndex := 337, attributes := #[] }, { accessFlags := 0, nameIndex := 494, descriptorIndex := 142, attributes := #[] }, { accessFlags := 8, nameIndex := 501, descriptorIndex := 391, attributes := #[] }] 49 2 #[1106, 1108, 575, 1110, 1112] #[{ accessFlags := 18, nameIndex := 13, descriptorIndex := 14, attributes := #[] }, { accessFlags := 18, nameIndex := 17, descriptorIndex := 18, attributes := #[] }, { accessFlags := 2, nameIndex := 21, descriptorIndex := 22, attributes := #[] }, { accessFlags := 2, nameIndex := 25, descriptorIndex := 26, attributes := #[] }, { accessFlags := 26, nameIndex := 1116, descriptorIndex := 1117, attributes := #[] }, { accessFlags := 24, nameIndex := 40, descriptorIndex := 26, attributes := #[] }, { accessFlags := 26, nameIndex := 1101, descriptorIndex := 1102, attributes := #[] }, { accessFlags := 26, nameIndex := 1121, descriptorIndex := 1122, attributes := #[] }, { accessFlags := 25, nameIndex := 599, descriptorIndex := 600, attributes := #[] }, { accessFlags := 24, nameIndex := 1125, descriptorIndex := 18, attributes := #[] }, { accessFlags := 24, nameIndex := 1127, descriptorIndex := 18, attributes := #[] }])
  fields := #[{ name := "value", type := (.array .byte), accessFlags := 18, slot := 0, constantValue := 0 }, { name := "coder", type := .byte, accessFlags := 18, slot := 1, constantValue := 0 }, { name := "hash", type := .int, accessFlags := 2, slot := 2, constantValue := 0 }, { name := "hashIsZero", type := .boolean, accessFlags := 2, slot := 3, constantValue := 0 }, { name := "serialVersionUID", type := .long, accessFlags := 26, slot := 0, constantValue := 0 }, { name := "COMPACT_STRINGS", type := .boolean, accessFlags := 24, slot := 1, constantValue := 0 }, { name := "serialPersistentFields", type := (.array (.object "java/io/ObjectStreamField")), accessFlags := 26, slot := 2, constantValue := 0 }, { name := "REPL", type := .char, accessFlags := 26, slot := 3, constantValue := 0 }, { name := "CASE_INSENSITIVE_ORDER", type := (.object "java/util/Comparator"), accessFlags := 25, slot := 4, constantValue := 0 }, { name := "LATIN1", type := .byte, accessFlags := 24, slot := 5, constantValue := 0 }, { name := "UTF16", type := .byte, accessFlags := 24, slot := 6, constantValue := 0 }]
  methods := #[k7m0, k7m1, k7m2, k7m3, k7m4, k7m5, k7m6, k7m7]
  instanceTypes := #[(.array .byte), .byte, .int, .boolean]
  staticTypes := #[.long, .boolean, (.array (.object "java/io/ObjectStreamField")), .char, (.object "java/util/Comparator"), .byte, .byte]
  resolved := Array.replicate 1451 none
  statics := some 0 }

def pool8 : Array CpInfo := pool [(1, .class_ 2), (0, u "com/example/ref_search/refsearch/matcher/Probes"), (1, .class_ 6), (1, u "java/lang/Object"), (4, u "pattern"), (0, u "[I"), (2, u "offsets"), (8, u "span"), (0, u "I"), (7, u "leading"), (27, u "RARITY"), (0, u "[B"), (14, .nameAndType 79 80), (1, u "length"), (0, u "()I"), (1, .nameAndType 83 84), (0, u "charAt"), (0, u "(I)C"), (9, .methodref 95 77), (0, .class_ 96), (0, u "java/lang/String"), (0, .methodref 95 82), (25, u "BY_RARITY"), (0, u "[Ljava/lang/String;"), (0, u "MOST"), (2, u "WIDEST"), (1, u "FEWEST_RARE"), (1, u "QUARTERS"), (0, u "RARE_ENOUGH"), (1, u "SHORTLIST"), (1, u "NEIGHBOURLY"), (1, u "RANKED_FIRST"), (11, u "offsetFromU0100"), (0, u "(Ljava/lang/String;)I")] 10

def k8c0 : Code := { maxStack := 2, maxLocals := 2, code := prog_13_method_8_code, exceptionTable := #[], attributes := #[] }
def k8m0 : Method := { name := "offsetFromU0100", desc := "(Ljava/lang/String;)I", sig := { parameters := [(.object "java/lang/String")], returnType := some .int }, accessFlags := 8, code := some k8c0 }
/-- com/example/ref_search/refsearch/matcher/Probes -/
def k8 : Class := { plain "com/example/ref_search/refsearch/matcher/Probes" (some 0) with
  accessFlags := 48
  interfaces := #[]
  cf := some (fileOf pool8 1 #[] #[{ accessFlags := 8, nameIndex := 151, descriptorIndex := 152, attributes := #[] }] 48 4 #[] #[{ accessFlags := 24, nameIndex := 125, descriptorIndex := 25, attributes := #[] }, { accessFlags := 24, nameIndex := 128, descriptorIndex := 25, attributes := #[] }, { accessFlags := 26, nameIndex := 130, descriptorIndex := 25, attributes := #[] }, { accessFlags := 26, nameIndex := 132, descriptorIndex := 25, attributes := #[] }, { accessFlags := 26, nameIndex := 133, descriptorIndex := 25, attributes := #[] }, { accessFlags := 26, nameIndex := 135, descriptorIndex := 25, attributes := #[] }, { accessFlags := 26, nameIndex := 137, descriptorIndex := 25, attributes := #[] }, { accessFlags := 26, nameIndex := 139, descriptorIndex := 25, attributes := #[] }, { accessFlags := 26, nameIndex := 61, descriptorIndex := 62, attributes := #[] }, { accessFlags := 26, nameIndex := 123, descriptorIndex := 124, attributes := #[] }, { accessFlags := 18, nameIndex := 11, descriptorIndex := 12, attributes := #[] }, { accessFlags := 18, nameIndex := 15, descriptorIndex := 12, attributes := #[] }, { accessFlags := 18, nameIndex := 24, descriptorIndex := 25, attributes := #[] }, { accessFlags := 18, nameIndex := 33, descriptorIndex := 25, attributes := #[] }])
  fields := #[{ name := "MOST", type := .int, accessFlags := 24, slot := 0, constantValue := 0 }, { name := "WIDEST", type := .int, accessFlags := 24, slot := 1, constantValue := 0 }, { name := "FEWEST_RARE", type := .int, accessFlags := 26, slot := 2, constantValue := 0 }, { name := "QUARTERS", type := .int, accessFlags := 26, slot := 3, constantValue := 0 }, { name := "RARE_ENOUGH", type := .int, accessFlags := 26, slot := 4, constantValue := 0 }, { name := "SHORTLIST", type := .int, accessFlags := 26, slot := 5, constantValue := 0 }, { name := "NEIGHBOURLY", type := .int, accessFlags := 26, slot := 6, constantValue := 0 }, { name := "RANKED_FIRST", type := .int, accessFlags := 26, slot := 7, constantValue := 0 }, { name := "RARITY", type := (.array .byte), accessFlags := 26, slot := 8, constantValue := 0 }, { name := "BY_RARITY", type := (.array (.object "java/lang/String")), accessFlags := 26, slot := 9, constantValue := 0 }, { name := "pattern", type := (.array .int), accessFlags := 18, slot := 0, constantValue := 0 }, { name := "offsets", type := (.array .int), accessFlags := 18, slot := 1, constantValue := 0 }, { name := "span", type := .int, accessFlags := 18, slot := 2, constantValue := 0 }, { name := "leading", type := .int, accessFlags := 18, slot := 3, constantValue := 0 }]
  methods := #[k8m0]
  instanceTypes := #[(.array .int), (.array .int), .int, .int]
  staticTypes := #[.int, .int, .int, .int, .int, .int, .int, .int, (.array .byte), (.array (.object "java/lang/String"))]
  resolved := Array.replicate 163 none
  statics := none }

def pool9 : Array CpInfo := pool [(3, .class_ 4), (0, u "java/lang/String"), (1, .class_ 8), (1, u "java/lang/Object"), (0, u "<init>"), (0, u "()V"), (0, .methodref 12 13), (0, .class_ 14), (0, .nameAndType 15 16), (0, u "java/lang/StringUTF16"), (0, u "newBytesLength"), (0, u "(I)I"), (3, .integer 1073741823), (23, .fieldref 12 45), (0, .nameAndType 46 47), (0, u "$assertionsDisabled"), (0, u "Z"), (0, .methodref 12 49), (0, .nameAndType 50 51), (0, u "length"), (0, u "([B)I"), (7, .fieldref 12 60), (0, .nameAndType 61 62), (0, u "HI_BYTE_SHIFT"), (0, u "I"), (0, .fieldref 12 64), (0, .nameAndType 65 62), (0, u "LO_BYTE_SHIFT"), (1, .methodref 12 68), (0, .nameAndType 69 70), (0, u "checkIndex"), (0, u "(I[B)V"), (0, .methodref 12 72), (0, .nameAndType 73 74), (0, u "getChar"), (0, u "([BI)C"), (32, .methodref 12 108), (0, .nameAndType 109 110), (0, u "newBytesFor"), (0, u "(I)[B"), (0, .methodref 12 112), (0, .nameAndType 113 114), (0, u "putChar"), (0, u "([BII)V"), (0, .methodref 12 116), (0, .nameAndType 117 118), (0, u "compress"), (0, u "([CI[BII)I"), (0, .methodref 12 120), (0, .nameAndType 121 122), (0, u "toBytes"), (0, u "([CII)[B"), (138, u "coderFromArrayLen"), (0, u "([BI)B"), (106, .class_ 371), (1, u "java/lang/StringUTF16$LinesSpliterator"), (20, u "charAt"), (21, .methodref 3 415), (0, .nameAndType 69 416), (0, u "(II)V"), (13, u "MAX_LENGTH"), (196, .class_ 628), (0, u "java/lang/StringUTF16$CodePointsSpliterator"), (0, .class_ 630), (0, u "java/lang/StringUTF16$CharsSpliterator")] 4

def k9m0 : Method := { name := "<init>", desc := "()V", sig := { parameters := [], returnType := none }, accessFlags := 0, code := none }
def k9c1 : Code := { maxStack := 1, maxLocals := 1, code := jdk_52_method_2_code, exceptionTable := #[], attributes := #[] }
def k9m1 : Method := { name := "newBytesFor", desc := "(I)[B", sig := { parameters := [.int], returnType := some (.array .byte) }, accessFlags := 9, code := some k9c1 }
def k9c2 : Code := { maxStack := 4, maxLocals := 1, code := jdk_52_method_3_code, exceptionTable := #[], attributes := #[] }
def k9m2 : Method := { name := "newBytesLength", desc := "(I)I", sig := { parameters := [.int], returnType := some .int }, accessFlags := 9, code := some k9c2 }
def k9c3 : Code := { maxStack := 4, maxLocals := 3, code := jdk_52_method_4_code, exceptionTable := #[], attributes := #[] }
def k9m3 : Method := { name := "putChar", desc := "([BII)V", sig := { parameters := [(.array .byte), .int, .int], returnType := none }, accessFlags := 8, code := some k9c3 }
def k9c4 : Code := { maxStack := 3, maxLocals := 2, code := jdk_52_method_5_code, exceptionTable := #[], attributes := #[] }
def k9m4 : Method := { name := "getChar", desc := "([BI)C", sig := { parameters := [(.array .byte), .int], returnType := some .char }, accessFlags := 8, code := some k9c4 }
def k9c5 : Code := { maxStack := 2, maxLocals := 1, code := jdk_52_method_6_code, exceptionTable := #[], attributes := #[] }
def k9m5 : Method := { name := "length", desc := "([B)I", sig := { parameters := [(.array .byte)], returnType := some .int }, accessFlags := 9, code := some k9c5 }
def k9c6 : Code := { maxStack := 4, maxLocals := 5, code := jdk_52_method_14_code, exceptionTable := #[], attributes := #[] }
def k9m6 : Method := { name := "toBytes", desc := "([CII)[B", sig := { parameters := [(.array .char), .int, .int], returnType := some (.array .byte) }, accessFlags := 9, code := some k9c6 }
def k9c7 : Code := { maxStack := 2, maxLocals := 2, code := jdk_52_method_15_code, exceptionTable := #[], attributes := #[] }
def k9m7 : Method := { name := "coderFromArrayLen", desc := "([BI)B", sig := { parameters := [(.array .byte), .int], returnType := some .byte }, accessFlags := 8, code := some k9c7 }
def k9c8 : Code := { maxStack := 5, maxLocals := 6, code := jdk_52_method_16_code, exceptionTable := #[], attributes := #[] }
def k9m8 : Method := { name := "compress", desc := "([CII)[B", sig := { parameters := [(.array .char), .int, .int], returnType := some (.array .byte) }, accessFlags := 9, code := some k9c8 }
def k9c9 : Code := { maxStack := 3, maxLocals := 7, code := jdk_52_method_21_code, exceptionTable := #[], attributes := #[] }
def k9m9 : Method := { name := "compress", desc := "([CI[BII)I", sig := { parameters := [(.array .char), .int, (.array .byte), .int, .int], returnType := some .int }, accessFlags := 9, code := some k9c9 }
def k9c10 : Code := { maxStack := 2, maxLocals := 2, code := jdk_52_method_83_code, exceptionTable := #[], attributes := #[] }
def k9m10 : Method := { name := "charAt", desc := "([BI)C", sig := { parameters := [(.array .byte), .int], returnType := some .char }, accessFlags := 9, code := some k9c10 }
def k9c11 : Code := { maxStack := 2, maxLocals := 2, code := jdk_52_method_91_code, exceptionTable := #[], attributes := #[] }
def k9m11 : Method := { name := "checkIndex", desc := "(I[B)V", sig := { parameters := [.int, (.array .byte)], returnType := none }, accessFlags := 9, code := some k9c11 }
/-- java/lang/StringUTF16 -/
def k9 : Class := { plain "java/lang/StringUTF16" (some 0) with
  accessFlags := 48
  interfaces := #[]
  cf := some (fileOf pool9 12 #[.nestMembers #[627, 629, 369]] #[{ accessFlags := 0, nameIndex := 9, descriptorIndex := 10, attributes := #[] }, { accessFlags := 9, nameIndex := 109, descriptorIndex := 110, attributes := #[] }, { accessFlags := 9, nameIndex := 15, descriptorIndex := 16, attributes := #[] }, { accessFlags := 8, nameIndex := 113, descriptorIndex := 114, attributes := #[] }, { accessFlags := 8, nameIndex := 73, descriptorIndex := 74, attributes := #[] }, { accessFlags := 9, nameIndex := 50, descriptorIndex := 51, attributes := #[] }, { accessFlags := 9, nameIndex := 121, descriptorIndex := 122, attributes := #[] }, { accessFlags := 8, nameIndex := 261, descriptorIndex := 262, attributes := #[] }, { accessFlags := 9, nameIndex := 117, descriptorIndex := 122, attributes := #[] }, { accessFlags := 9, nameIndex := 117, descriptorIndex := 118, attributes := #[] }, { accessFlags := 9, nameIndex := 392, descriptorIndex := 74, attributes := #[] }, { accessFlags := 9, nameIndex := 69, descriptorIndex := 70, attributes := #[] }] 48 6 #[] #[{ accessFlags := 26, nameIndex := 61, descriptorIndex := 62, attributes := #[] }, { accessFlags := 26, nameIndex := 65, descriptorIndex := 62, attributes := #[] }, { accessFlags := 24, nameIndex := 430, descriptorIndex := 62, attributes := #[] }, { accessFlags := 4120, nameIndex := 46, descriptorIndex := 47, attributes := #[] }])
  fields := #[{ name := "HI_BYTE_SHIFT", type := .int, accessFlags := 26, slot := 0, constantValue := 0 }, { name := "LO_BYTE_SHIFT", type := .int, accessFlags := 26, slot := 1, constantValue := 0 }, { name := "MAX_LENGTH", type := .int, accessFlags := 24, slot := 2, constantValue := 0 }, { name := "$assertionsDisabled", type := .boolean, accessFlags := 4120, slot := 3, constantValue := 0 }]
  methods := #[k9m0, k9m1, k9m2, k9m3, k9m4, k9m5, k9m6, k9m7, k9m8, k9m9, k9m10, k9m11]
  instanceTypes := #[]
  staticTypes := #[.int, .int, .int, .boolean]
  resolved := Array.replicate 635 none
  statics := some 1 }

def pool10 : Array CpInfo := pool [(1, .class_ 2), (0, u "java/lang/String"), (1, .class_ 6), (1, u "java/lang/Object"), (0, u "<init>"), (0, u "()V"), (0, .methodref 1 10), (0, .nameAndType 11 12), (0, u "checkIndex"), (0, u "(II)V"), (1, .class_ 16), (1, u "java/lang/StringLatin1"), (36, u "([BI)C"), (67, u "$assertionsDisabled"), (0, u "Z"), (98, .class_ 223), (1, u "java/lang/StringLatin1$LinesSpliterator"), (28, u "charAt"), (137, .class_ 391), (0, u "java/lang/StringLatin1$CharsSpliterator")] 3

def k10m0 : Method := { name := "<init>", desc := "()V", sig := { parameters := [], returnType := none }, accessFlags := 0, code := none }
def k10c1 : Code := { maxStack := 2, maxLocals := 2, code := jdk_43_method_2_code, exceptionTable := #[], attributes := #[] }
def k10m1 : Method := { name := "charAt", desc := "([BI)C", sig := { parameters := [(.array .byte), .int], returnType := some .char }, accessFlags := 9, code := some k10c1 }
/-- java/lang/StringLatin1 -/
def k10 : Class := { plain "java/lang/StringLatin1" (some 0) with
  accessFlags := 48
  interfaces := #[]
  cf := some (fileOf pool10 14 #[.nestMembers #[390, 221]] #[{ accessFlags := 0, nameIndex := 7, descriptorIndex := 8, attributes := #[] }, { accessFlags := 9, nameIndex := 252, descriptorIndex := 53, attributes := #[] }] 48 4 #[] #[{ accessFlags := 4120, nameIndex := 121, descriptorIndex := 122, attributes := #[] }])
  fields := #[{ name := "$assertionsDisabled", type := .boolean, accessFlags := 4120, slot := 0, constantValue := 0 }]
  methods := #[k10m0, k10m1]
  instanceTypes := #[]
  staticTypes := #[.boolean]
  resolved := Array.replicate 395 none
  statics := none }

def pool11 : Array CpInfo := pool [(2, .class_ 4), (1, u "java/lang/Object"), (0, u "<init>"), (0, u "()V"), (17, .class_ 26), (1, u "jdk/internal/util/Preconditions"), (6, u "checkIndex"), (21, .class_ 56), (0, u "jdk/internal/util/Preconditions$4"), (57, .class_ 115), (0, u "jdk/internal/util/Preconditions$1"), (7, u "SIOOBE_FORMATTER"), (0, u "Ljava/util/function/BiFunction;"), (0, .class_ 126), (0, u "jdk/internal/util/Preconditions$2"), (3, u "AIOOBE_FORMATTER"), (0, .class_ 132), (0, u "jdk/internal/util/Preconditions$3"), (3, u "IOOBE_FORMATTER"), (41, u "(IILjava/util/function/BiFunction;)I")] 15

def k11m0 : Method := { name := "<init>", desc := "()V", sig := { parameters := [], returnType := none }, accessFlags := 1, code := none }
def k11c1 : Code := { maxStack := 3, maxLocals := 3, code := jdk_41_method_11_code, exceptionTable := #[], attributes := #[] }
def k11m1 : Method := { name := "checkIndex", desc := "(IILjava/util/function/BiFunction;)I", sig := { parameters := [.int, .int, (.object "java/util/function/BiFunction")], returnType := some .int }, accessFlags := 9, code := some k11c1 }
/-- jdk/internal/util/Preconditions -/
def k11 : Class := { plain "jdk/internal/util/Preconditions" (some 0) with
  accessFlags := 33
  interfaces := #[]
  cf := some (fileOf pool11 24 #[.nestMembers #[55, 131, 125, 114]] #[{ accessFlags := 1, nameIndex := 5, descriptorIndex := 6, attributes := #[] }, { accessFlags := 9, nameIndex := 33, descriptorIndex := 178, attributes := #[] }] 33 2 #[] #[{ accessFlags := 25, nameIndex := 123, descriptorIndex := 124, attributes := #[] }, { accessFlags := 25, nameIndex := 130, descriptorIndex := 124, attributes := #[] }, { accessFlags := 25, nameIndex := 136, descriptorIndex := 124, attributes := #[] }])
  fields := #[{ name := "SIOOBE_FORMATTER", type := (.object "java/util/function/BiFunction"), accessFlags := 25, slot := 0, constantValue := 0 }, { name := "AIOOBE_FORMATTER", type := (.object "java/util/function/BiFunction"), accessFlags := 25, slot := 1, constantValue := 0 }, { name := "IOOBE_FORMATTER", type := (.object "java/util/function/BiFunction"), accessFlags := 25, slot := 2, constantValue := 0 }]
  methods := #[k11m0, k11m1]
  instanceTypes := #[]
  staticTypes := #[(.object "java/util/function/BiFunction"), (.object "java/util/function/BiFunction"), (.object "java/util/function/BiFunction")]
  resolved := Array.replicate 194 none
  statics := some 2 }

def pool12 : Array CpInfo := pool [(9, u "<init>"), (6, .class_ 18), (1, u "java/lang/Object"), (0, u "()V"), (1, .class_ 23), (1, u "jdk/internal/util/ArraysSupport"), (0, u "LOG2_ARRAY_LONG_INDEX_SCALE"), (0, u "I"), (2, u "U"), (0, u "Ljdk/internal/misc/Unsafe;"), (8, u "BIG_ENDIAN"), (0, u "Z"), (8, u "LOG2_BYTE_BIT_SIZE"), (4, u "LOG2_ARRAY_INT_INDEX_SCALE"), (54, u "JLA"), (0, u "Ljdk/internal/access/JavaLangAccess;"), (11, u "LOG2_ARRAY_BOOLEAN_INDEX_SCALE"), (9, u "LOG2_ARRAY_BYTE_INDEX_SCALE"), (5, u "LOG2_ARRAY_CHAR_INDEX_SCALE"), (5, u "LOG2_ARRAY_SHORT_INDEX_SCALE"), (18, u "LOG2_ARRAY_FLOAT_INDEX_SCALE"), (24, u "LOG2_ARRAY_DOUBLE_INDEX_SCALE"), (89, u "T_BOOLEAN"), (2, u "T_CHAR"), (1, u "T_FLOAT"), (1, u "T_DOUBLE"), (1, u "T_BYTE"), (1, u "T_SHORT"), (1, u "T_INT"), (1, u "T_LONG"), (1, u "SOFT_MAX_ARRAY_LENGTH")] 83

def k12m0 : Method := { name := "<init>", desc := "()V", sig := { parameters := [], returnType := none }, accessFlags := 2, code := none }
/-- jdk/internal/util/ArraysSupport -/
def k12 : Class := { plain "jdk/internal/util/ArraysSupport" (some 0) with
  accessFlags := 33
  interfaces := #[]
  cf := some (fileOf pool12 21 #[] #[{ accessFlags := 2, nameIndex := 9, descriptorIndex := 19, attributes := #[] }] 33 16 #[] #[{ accessFlags := 24, nameIndex := 28, descriptorIndex := 29, attributes := #[] }, { accessFlags := 26, nameIndex := 38, descriptorIndex := 39, attributes := #[] }, { accessFlags := 25, nameIndex := 121, descriptorIndex := 25, attributes := #[] }, { accessFlags := 25, nameIndex := 131, descriptorIndex := 25, attributes := #[] }, { accessFlags := 25, nameIndex := 137, descriptorIndex := 25, attributes := #[] }, { accessFlags := 25, nameIndex := 143, descriptorIndex := 25, attributes := #[] }, { accessFlags := 25, nameIndex := 53, descriptorIndex := 25, attributes := #[] }, { accessFlags := 25, nameIndex := 24, descriptorIndex := 25, attributes := #[] }, { accessFlags := 25, nameIndex := 162, descriptorIndex := 25, attributes := #[] }, { accessFlags := 25, nameIndex := 187, descriptorIndex := 25, attributes := #[] }, { accessFlags := 26, nameIndex := 48, descriptorIndex := 25, attributes := #[] }, { accessFlags := 25, nameIndex := 277, descriptorIndex := 25, attributes := #[] }, { accessFlags := 25, nameIndex := 280, descriptorIndex := 25, attributes := #[] }, { accessFlags := 25, nameIndex := 282, descriptorIndex := 25, attributes := #[] }, { accessFlags := 25, nameIndex := 284, descriptorIndex := 25, attributes := #[] }, { accessFlags := 25, nameIndex := 286, descriptorIndex := 25, attributes := #[] }, { accessFlags := 25, nameIndex := 288, descriptorIndex := 25, attributes := #[] }, { accessFlags := 25, nameIndex := 290, descriptorIndex := 25, attributes := #[] }, { accessFlags := 25, nameIndex := 292, descriptorIndex := 25, attributes := #[] }, { accessFlags := 26, nameIndex := 108, descriptorIndex := 109, attributes := #[] }, { accessFlags := 25, nameIndex := 294, descriptorIndex := 25, attributes := #[] }])
  fields := #[{ name := "U", type := (.object "jdk/internal/misc/Unsafe"), accessFlags := 24, slot := 0, constantValue := 0 }, { name := "BIG_ENDIAN", type := .boolean, accessFlags := 26, slot := 1, constantValue := 0 }, { name := "LOG2_ARRAY_BOOLEAN_INDEX_SCALE", type := .int, accessFlags := 25, slot := 2, constantValue := 0 }, { name := "LOG2_ARRAY_BYTE_INDEX_SCALE", type := .int, accessFlags := 25, slot := 3, constantValue := 0 }, { name := "LOG2_ARRAY_CHAR_INDEX_SCALE", type := .int, accessFlags := 25, slot := 4, constantValue := 0 }, { name := "LOG2_ARRAY_SHORT_INDEX_SCALE", type := .int, accessFlags := 25, slot := 5, constantValue := 0 }, { name := "LOG2_ARRAY_INT_INDEX_SCALE", type := .int, accessFlags := 25, slot := 6, constantValue := 0 }, { name := "LOG2_ARRAY_LONG_INDEX_SCALE", type := .int, accessFlags := 25, slot := 7, constantValue := 0 }, { name := "LOG2_ARRAY_FLOAT_INDEX_SCALE", type := .int, accessFlags := 25, slot := 8, constantValue := 0 }, { name := "LOG2_ARRAY_DOUBLE_INDEX_SCALE", type := .int, accessFlags := 25, slot := 9, constantValue := 0 }, { name := "LOG2_BYTE_BIT_SIZE", type := .int, accessFlags := 26, slot := 10, constantValue := 0 }, { name := "T_BOOLEAN", type := .int, accessFlags := 25, slot := 11, constantValue := 0 }, { name := "T_CHAR", type := .int, accessFlags := 25, slot := 12, constantValue := 0 }, { name := "T_FLOAT", type := .int, accessFlags := 25, slot := 13, constantValue := 0 }, { name := "T_DOUBLE", type := .int, accessFlags := 25, slot := 14, constantValue := 0 }, { name := "T_BYTE", type := .int, accessFlags := 25, slot := 15, constantValue := 0 }, { name := "T_SHORT", type := .int, accessFlags := 25, slot := 16, constantValue := 0 }, { name := "T_INT", type := .int, accessFlags := 25, slot := 17, constantValue := 0 }, { name := "T_LONG", type := .int, accessFlags := 25, slot := 18, constantValue := 0 }, { name := "JLA", type := (.object "jdk/internal/access/JavaLangAccess"), accessFlags := 26, slot := 19, constantValue := 0 }, { name := "SOFT_MAX_ARRAY_LENGTH", type := .int, accessFlags := 25, slot := 20, constantValue := 0 }]
  methods := #[k12m0]
  instanceTypes := #[]
  staticTypes := #[(.object "jdk/internal/misc/Unsafe"), .boolean, .int, .int, .int, .int, .int, .int, .int, .int, .int, .int, .int, .int, .int, .int, .int, .int, .int, (.object "jdk/internal/access/JavaLangAccess"), .int]
  resolved := Array.replicate 378 none
  statics := none }

def pool13 : Array CpInfo := pool [(1, u "java/lang/Cloneable"), (0, .class_ 1), (0, u "java/lang/Object"), (0, .class_ 3)] 3

/-- java/lang/Cloneable -/
def k13 : Class := { plain "java/lang/Cloneable" (some 0) with
  accessFlags := 1537
  interfaces := #[]
  cf := some (fileOf pool13 2 #[] #[] 1537 4 #[] #[])
  fields := #[]
  methods := #[]
  instanceTypes := #[]
  staticTypes := #[]
  resolved := Array.replicate 8 none
  statics := none }

/-- the primitive byte -/
def k14 : Class := { plain "byte" none with kind := .primitive 'B', accessFlags := 0x411 }
/-- [B -/
def k15 : Class := { plain "[B" (some 0) with kind := .array 14 .byte, interfaces := #[13, 2], accessFlags := 1041 }

/-- the primitive char -/
def k16 : Class := { plain "char" none with kind := .primitive 'C', accessFlags := 0x411 }
/-- [C -/
def k17 : Class := { plain "[C" (some 0) with kind := .array 16 .char, interfaces := #[13, 2], accessFlags := 1041 }

/-- the primitive int -/
def k18 : Class := { plain "int" none with kind := .primitive 'I', accessFlags := 0x411 }
/-- [I -/
def k19 : Class := { plain "[I" (some 0) with kind := .array 18 .int, interfaces := #[13, 2], accessFlags := 1041 }

def heap : Heap := #[{ cls := 7, slots := #[.long 0, .int 1, .null, .int 0, .null, .int 0, .int 0], vm := .statics 7 },
  { cls := 9, slots := #[.int 0, .int 8, .int 0, .int 1], vm := .statics 9 },
  { cls := 11, slots := #[.null, .null, .null], vm := .statics 11 }]
def classes : Array Class := #[k0, k1, k2, k3, k4, k5, k6, k7, k8, k9, k10, k11, k12, k13, k14, k15, k16, k17, k18, k19]
def interned : List (Array UInt16 × Addr) := []
def slotsUsed : Nat := 14
def theMethod : MethodId := ⟨1, 2⟩
def args0 : Array Value := #[.int 7, .int 3, .int 9, .int 4, .int 300]
def aboutOver (below : List Frame) : State where
  vm := { classes := classes, interned := interned.toArray }
  heap := heap
  slotsUsed := slotsUsed
  threads := #[{ frames := .invoking theMethod args0 :: below }]
def below0 : List Frame := [.native { method := ⟨0, 0⟩, args := #[] }]
def about1 : State := aboutOver below0
def p0 : Program := .bare "" "" ""
def e0 : Env := launch0.env 0 0 0
theorem w_frames : about1.frames = Frame.invoking theMethod args0 :: below0 := rfl
set_option maxRecDepth 65536 in
theorem w_args : argsFit about1.vm theMethod args0 = true := by decide +kernel
set_option maxRecDepth 65536 in
theorem w_heap : heapFits about1 = true := by decide +kernel
set_option maxRecDepth 65536 in
theorem w_runnable : about1.curStatus? = some .runnable := by decide +kernel
set_option maxRecDepth 65536 in
theorem w_alone : about1.alone = true := by decide +kernel
set_option maxRecDepth 65536 in
theorem w_named : about1.methodNamed? x = some theMethod := by decide +kernel
set_option maxRecDepth 65536 in
theorem w_hears : about1.hears theMethod below0 = true := by decide +kernel
set_option maxRecDepth 65536 in
theorem w_ripe : about1.ripe theMethod args0 below0 = true := by decide +kernel
theorem w_running : about1.status = .running := rfl
set_option maxRecDepth 65536 in
theorem w_room : about1.hasRoom e0.platform room_1 = true :=
  launch0.hasRoom_least _ room_1 (by decide +kernel) (by decide +kernel) (by decide +kernel) (by decide +kernel) (by decide +kernel) (by decide +kernel)
theorem allAtoms_all (ts : List Jvm.Cond) (a : Array Jvm.Value) (st : Jvm.State) : (allAtoms ts).before a st = ts.all (fun c => c.before a st) := by
  induction ts with
  | nil => rfl
  | cons c t ih =>
    show (Jvm.Cond.and c (allAtoms t)).before a st = _
    rw [Jvm.Cond.before_and, ih, List.all_cons]
def words1 : List Jvm.Cond := Jvm.Cond.code x code maxLocals ret :: tables_1
/-- a 'code' word, met by the world's own term for the bytes: nothing is compared byte by byte -/
theorem code_word {y : MethodName} {bytes : ByteArray} {mx : Nat} {rt : Option FieldType} {a : Array Value} {s : State} {m : MethodId} {meth : Method} {c : Code} (h1 : s.methodNamed? y = some m) (h2 : s.vm.method? m = some meth) (h3 : meth.code = some c) (h4 : c.code = bytes)
    (h5 : (c.maxLocals == mx && c.exceptionTable.isEmpty && decide (c.maxStack ≤ mostOperands) && decide (meth.sig.returnType = rt) && !meth.locks && decide (parseMethodDescriptor y.desc = some meth.sig)) = true) : (Jvm.Cond.code y bytes mx rt).before a s = true := by
  simp only [Bool.and_eq_true, beq_iff_eq, Bool.not_eq_true', decide_eq_true_eq] at h5
  obtain ⟨⟨⟨⟨⟨g1, g2⟩, g3⟩, g4⟩, g5⟩, g6⟩ := h5
  simp [Cond.before, Cond.holds, Cond.value, h1, h2, h3, h4, g1, g2, g3, g4, g5, g6]
def isCode : Jvm.Cond → Bool
  | .code _ _ _ _ => true
  | _ => false
theorem all_split {L : List Jvm.Cond} {P : Jvm.Cond → Bool} (h1 : L.all (fun c => isCode c || P c) = true) (h2 : ∀ c ∈ L.filter isCode, P c = true) : L.all P = true := by
  refine List.all_eq_true.mpr fun c hc => ?_
  have h := List.all_eq_true.mp h1 c hc
  rcases Bool.eq_false_or_eq_true (isCode c) with hi | hi
  · exact h2 c (List.mem_filter.mpr ⟨hc, hi⟩)
  · simpa [hi] using h
set_option maxRecDepth 65536 in
theorem w_c0 : (Jvm.Cond.code x code maxLocals ret).before args0 about1 = true := code_word (m := ⟨1, 2⟩) (meth := k1m2) (c := k1c2) (by decide +kernel) rfl rfl rfl (by decide +kernel)
set_option maxRecDepth 65536 in
theorem w_c1 : (Jvm.Cond.code ({ cls := "com/example/ref_search/refsearch/matcher/ProbesOffsetFromU0100PinLaw", name := "ch", desc := "(I)I" } : Jvm.MethodName) method_2_code (1 : Nat) (Option.some Jvm.ClassFile.FieldType.int)).before args0 about1 = true := code_word (m := ⟨1, 1⟩) (meth := k1m1) (c := k1c1) (by decide +kernel) rfl rfl rfl (by decide +kernel)
set_option maxRecDepth 65536 in
theorem w_c2 : (Jvm.Cond.code ({ cls := "java/lang/String", name := "<init>", desc := "([C)V" } : Jvm.MethodName) jdk_42_method_3_code (2 : Nat) (Option.none : Option Jvm.ClassFile.FieldType)).before args0 about1 = true := code_word (m := ⟨7, 1⟩) (meth := k7m1) (c := k7c1) (by decide +kernel) rfl rfl rfl (by decide +kernel)
set_option maxRecDepth 65536 in
theorem w_c3 : (Jvm.Cond.code ({ cls := "java/lang/String", name := "<init>", desc := "([CIILjava/lang/Void;)V" } : Jvm.MethodName) jdk_42_method_149_code (6 : Nat) (Option.none : Option Jvm.ClassFile.FieldType)).before args0 about1 = true := code_word (m := ⟨7, 4⟩) (meth := k7m4) (c := k7c4) (by decide +kernel) rfl rfl rfl (by decide +kernel)
set_option maxRecDepth 65536 in
theorem w_c4 : (Jvm.Cond.code ({ cls := "java/lang/Object", name := "<init>", desc := "()V" } : Jvm.MethodName) object_method_1_code (1 : Nat) (Option.none : Option Jvm.ClassFile.FieldType)).before args0 about1 = true := code_word (m := ⟨0, 0⟩) (meth := k0m0) (c := k0c0) (by decide +kernel) rfl rfl rfl (by decide +kernel)
set_option maxRecDepth 65536 in
theorem w_c5 : (Jvm.Cond.code ({ cls := "com/example/ref_search/refsearch/matcher/Probes", name := "offsetFromU0100", desc := "(Ljava/lang/String;)I" } : Jvm.MethodName) prog_13_method_8_code (2 : Nat) (Option.some Jvm.ClassFile.FieldType.int)).before args0 about1 = true := code_word (m := ⟨8, 0⟩) (meth := k8m0) (c := k8c0) (by decide +kernel) rfl rfl rfl (by decide +kernel)
set_option maxRecDepth 65536 in
theorem w_c6 : (Jvm.Cond.code ({ cls := "java/lang/String", name := "length", desc := "()I" } : Jvm.MethodName) jdk_42_method_54_code (1 : Nat) (Option.some Jvm.ClassFile.FieldType.int)).before args0 about1 = true := code_word (m := ⟨7, 2⟩) (meth := k7m2) (c := k7c2) (by decide +kernel) rfl rfl rfl (by decide +kernel)
set_option maxRecDepth 65536 in
theorem w_c7 : (Jvm.Cond.code ({ cls := "java/lang/String", name := "coder", desc := "()B" } : Jvm.MethodName) jdk_42_method_152_code (1 : Nat) (Option.some Jvm.ClassFile.FieldType.byte)).before args0 about1 = true := code_word (m := ⟨7, 5⟩) (meth := k7m5) (c := k7c5) (by decide +kernel) rfl rfl rfl (by decide +kernel)
set_option maxRecDepth 65536 in
theorem w_c8 : (Jvm.Cond.code ({ cls := "java/lang/StringUTF16", name := "compress", desc := "([CII)[B" } : Jvm.MethodName) jdk_52_method_16_code (6 : Nat) (Option.some (Jvm.ClassFile.FieldType.array Jvm.ClassFile.FieldType.byte))).before args0 about1 = true := code_word (m := ⟨9, 8⟩) (meth := k9m8) (c := k9c8) (by decide +kernel) rfl rfl rfl (by decide +kernel)
set_option maxRecDepth 65536 in
theorem w_c9 : (Jvm.Cond.code ({ cls := "java/lang/StringUTF16", name := "compress", desc := "([CI[BII)I" } : Jvm.MethodName) jdk_52_method_21_code (7 : Nat) (Option.some Jvm.ClassFile.FieldType.int)).before args0 about1 = true := code_word (m := ⟨9, 9⟩) (meth := k9m9) (c := k9c9) (by decide +kernel) rfl rfl rfl (by decide +kernel)
set_option maxRecDepth 65536 in
theorem w_c10 : (Jvm.Cond.code ({ cls := "java/lang/StringUTF16", name := "coderFromArrayLen", desc := "([BI)B" } : Jvm.MethodName) jdk_52_method_15_code (2 : Nat) (Option.some Jvm.ClassFile.FieldType.byte)).before args0 about1 = true := code_word (m := ⟨9, 7⟩) (meth := k9m7) (c := k9c7) (by decide +kernel) rfl rfl rfl (by decide +kernel)
set_option maxRecDepth 65536 in
theorem w_c11 : (Jvm.Cond.code ({ cls := "java/lang/String", name := "charAt", desc := "(I)C" } : Jvm.MethodName) jdk_42_method_56_code (2 : Nat) (Option.some Jvm.ClassFile.FieldType.char)).before args0 about1 = true := code_word (m := ⟨7, 3⟩) (meth := k7m3) (c := k7c3) (by decide +kernel) rfl rfl rfl (by decide +kernel)
set_option maxRecDepth 65536 in
theorem w_c12 : (Jvm.Cond.code ({ cls := "java/lang/String", name := "isLatin1", desc := "()Z" } : Jvm.MethodName) jdk_42_method_154_code (1 : Nat) (Option.some Jvm.ClassFile.FieldType.boolean)).before args0 about1 = true := code_word (m := ⟨7, 6⟩) (meth := k7m6) (c := k7c6) (by decide +kernel) rfl rfl rfl (by decide +kernel)
set_option maxRecDepth 65536 in
theorem w_c13 : (Jvm.Cond.code ({ cls := "java/lang/StringLatin1", name := "charAt", desc := "([BI)C" } : Jvm.MethodName) jdk_43_method_2_code (2 : Nat) (Option.some Jvm.ClassFile.FieldType.char)).before args0 about1 = true := code_word (m := ⟨10, 1⟩) (meth := k10m1) (c := k10c1) (by decide +kernel) rfl rfl rfl (by decide +kernel)
set_option maxRecDepth 65536 in
theorem w_c14 : (Jvm.Cond.code ({ cls := "java/lang/String", name := "checkIndex", desc := "(II)V" } : Jvm.MethodName) jdk_42_method_155_code (2 : Nat) (Option.none : Option Jvm.ClassFile.FieldType)).before args0 about1 = true := code_word (m := ⟨7, 7⟩) (meth := k7m7) (c := k7c7) (by decide +kernel) rfl rfl rfl (by decide +kernel)
set_option maxRecDepth 65536 in
theorem w_c15 : (Jvm.Cond.code ({ cls := "jdk/internal/util/Preconditions", name := "checkIndex", desc := "(IILjava/util/function/BiFunction;)I" } : Jvm.MethodName) jdk_41_method_11_code (3 : Nat) (Option.some Jvm.ClassFile.FieldType.int)).before args0 about1 = true := code_word (m := ⟨11, 1⟩) (meth := k11m1) (c := k11c1) (by decide +kernel) rfl rfl rfl (by decide +kernel)
set_option maxRecDepth 65536 in
theorem w_c16 : (Jvm.Cond.code ({ cls := "java/lang/StringUTF16", name := "toBytes", desc := "([CII)[B" } : Jvm.MethodName) jdk_52_method_14_code (5 : Nat) (Option.some (Jvm.ClassFile.FieldType.array Jvm.ClassFile.FieldType.byte))).before args0 about1 = true := code_word (m := ⟨9, 6⟩) (meth := k9m6) (c := k9c6) (by decide +kernel) rfl rfl rfl (by decide +kernel)
set_option maxRecDepth 65536 in
theorem w_c17 : (Jvm.Cond.code ({ cls := "java/lang/StringUTF16", name := "newBytesFor", desc := "(I)[B" } : Jvm.MethodName) jdk_52_method_2_code (1 : Nat) (Option.some (Jvm.ClassFile.FieldType.array Jvm.ClassFile.FieldType.byte))).before args0 about1 = true := code_word (m := ⟨9, 1⟩) (meth := k9m1) (c := k9c1) (by decide +kernel) rfl rfl rfl (by decide +kernel)
set_option maxRecDepth 65536 in
theorem w_c18 : (Jvm.Cond.code ({ cls := "java/lang/StringUTF16", name := "newBytesLength", desc := "(I)I" } : Jvm.MethodName) jdk_52_method_3_code (1 : Nat) (Option.some Jvm.ClassFile.FieldType.int)).before args0 about1 = true := code_word (m := ⟨9, 2⟩) (meth := k9m2) (c := k9c2) (by decide +kernel) rfl rfl rfl (by decide +kernel)
set_option maxRecDepth 65536 in
theorem w_c19 : (Jvm.Cond.code ({ cls := "java/lang/StringUTF16", name := "putChar", desc := "([BII)V" } : Jvm.MethodName) jdk_52_method_4_code (3 : Nat) (Option.none : Option Jvm.ClassFile.FieldType)).before args0 about1 = true := code_word (m := ⟨9, 3⟩) (meth := k9m3) (c := k9c3) (by decide +kernel) rfl rfl rfl (by decide +kernel)
set_option maxRecDepth 65536 in
theorem w_c20 : (Jvm.Cond.code ({ cls := "java/lang/StringUTF16", name := "getChar", desc := "([BI)C" } : Jvm.MethodName) jdk_52_method_5_code (2 : Nat) (Option.some Jvm.ClassFile.FieldType.char)).before args0 about1 = true := code_word (m := ⟨9, 4⟩) (meth := k9m4) (c := k9c4) (by decide +kernel) rfl rfl rfl (by decide +kernel)
set_option maxRecDepth 65536 in
theorem w_c21 : (Jvm.Cond.code ({ cls := "java/lang/StringUTF16", name := "charAt", desc := "([BI)C" } : Jvm.MethodName) jdk_52_method_83_code (2 : Nat) (Option.some Jvm.ClassFile.FieldType.char)).before args0 about1 = true := code_word (m := ⟨9, 10⟩) (meth := k9m10) (c := k9c10) (by decide +kernel) rfl rfl rfl (by decide +kernel)
set_option maxRecDepth 65536 in
theorem w_c22 : (Jvm.Cond.code ({ cls := "java/lang/StringUTF16", name := "checkIndex", desc := "(I[B)V" } : Jvm.MethodName) jdk_52_method_91_code (2 : Nat) (Option.none : Option Jvm.ClassFile.FieldType)).before args0 about1 = true := code_word (m := ⟨9, 11⟩) (meth := k9m11) (c := k9c11) (by decide +kernel) rfl rfl rfl (by decide +kernel)
set_option maxRecDepth 65536 in
theorem w_c23 : (Jvm.Cond.code ({ cls := "java/lang/StringUTF16", name := "length", desc := "([B)I" } : Jvm.MethodName) jdk_52_method_6_code (1 : Nat) (Option.some Jvm.ClassFile.FieldType.int)).before args0 about1 = true := code_word (m := ⟨9, 5⟩) (meth := k9m5) (c := k9c5) (by decide +kernel) rfl rfl rfl (by decide +kernel)
def codes1 : List Jvm.Cond := [Jvm.Cond.code x code maxLocals ret, Jvm.Cond.code ({ cls := "com/example/ref_search/refsearch/matcher/ProbesOffsetFromU0100PinLaw", name := "ch", desc := "(I)I" } : Jvm.MethodName) method_2_code (1 : Nat) (Option.some Jvm.ClassFile.FieldType.int), Jvm.Cond.code ({ cls := "java/lang/String", name := "<init>", desc := "([C)V" } : Jvm.MethodName) jdk_42_method_3_code (2 : Nat) (Option.none : Option Jvm.ClassFile.FieldType), Jvm.Cond.code ({ cls := "java/lang/String", name := "<init>", desc := "([CIILjava/lang/Void;)V" } : Jvm.MethodName) jdk_42_method_149_code (6 : Nat) (Option.none : Option Jvm.ClassFile.FieldType), Jvm.Cond.code ({ cls := "java/lang/Object", name := "<init>", desc := "()V" } : Jvm.MethodName) object_method_1_code (1 : Nat) (Option.none : Option Jvm.ClassFile.FieldType), Jvm.Cond.code ({ cls := "com/example/ref_search/refsearch/matcher/Probes", name := "offsetFromU0100", desc := "(Ljava/lang/String;)I" } : Jvm.MethodName) prog_13_method_8_code (2 : Nat) (Option.some Jvm.ClassFile.FieldType.int), Jvm.Cond.code ({ cls := "java/lang/String", name := "length", desc := "()I" } : Jvm.MethodName) jdk_42_method_54_code (1 : Nat) (Option.some Jvm.ClassFile.FieldType.int), Jvm.Cond.code ({ cls := "java/lang/String", name := "coder", desc := "()B" } : Jvm.MethodName) jdk_42_method_152_code (1 : Nat) (Option.some Jvm.ClassFile.FieldType.byte), Jvm.Cond.code ({ cls := "java/lang/StringUTF16", name := "compress", desc := "([CII)[B" } : Jvm.MethodName) jdk_52_method_16_code (6 : Nat) (Option.some (Jvm.ClassFile.FieldType.array Jvm.ClassFile.FieldType.byte)), Jvm.Cond.code ({ cls := "java/lang/StringUTF16", name := "compress", desc := "([CI[BII)I" } : Jvm.MethodName) jdk_52_method_21_code (7 : Nat) (Option.some Jvm.ClassFile.FieldType.int), Jvm.Cond.code ({ cls := "java/lang/StringUTF16", name := "coderFromArrayLen", desc := "([BI)B" } : Jvm.MethodName) jdk_52_method_15_code (2 : Nat) (Option.some Jvm.ClassFile.FieldType.byte), Jvm.Cond.code ({ cls := "java/lang/String", name := "charAt", desc := "(I)C" } : Jvm.MethodName) jdk_42_method_56_code (2 : Nat) (Option.some Jvm.ClassFile.FieldType.char), Jvm.Cond.code ({ cls := "java/lang/String", name := "isLatin1", desc := "()Z" } : Jvm.MethodName) jdk_42_method_154_code (1 : Nat) (Option.some Jvm.ClassFile.FieldType.boolean), Jvm.Cond.code ({ cls := "java/lang/StringLatin1", name := "charAt", desc := "([BI)C" } : Jvm.MethodName) jdk_43_method_2_code (2 : Nat) (Option.some Jvm.ClassFile.FieldType.char), Jvm.Cond.code ({ cls := "java/lang/String", name := "checkIndex", desc := "(II)V" } : Jvm.MethodName) jdk_42_method_155_code (2 : Nat) (Option.none : Option Jvm.ClassFile.FieldType), Jvm.Cond.code ({ cls := "jdk/internal/util/Preconditions", name := "checkIndex", desc := "(IILjava/util/function/BiFunction;)I" } : Jvm.MethodName) jdk_41_method_11_code (3 : Nat) (Option.some Jvm.ClassFile.FieldType.int), Jvm.Cond.code ({ cls := "java/lang/StringUTF16", name := "toBytes", desc := "([CII)[B" } : Jvm.MethodName) jdk_52_method_14_code (5 : Nat) (Option.some (Jvm.ClassFile.FieldType.array Jvm.ClassFile.FieldType.byte)), Jvm.Cond.code ({ cls := "java/lang/StringUTF16", name := "newBytesFor", desc := "(I)[B" } : Jvm.MethodName) jdk_52_method_2_code (1 : Nat) (Option.some (Jvm.ClassFile.FieldType.array Jvm.ClassFile.FieldType.byte)), Jvm.Cond.code ({ cls := "java/lang/StringUTF16", name := "newBytesLength", desc := "(I)I" } : Jvm.MethodName) jdk_52_method_3_code (1 : Nat) (Option.some Jvm.ClassFile.FieldType.int), Jvm.Cond.code ({ cls := "java/lang/StringUTF16", name := "putChar", desc := "([BII)V" } : Jvm.MethodName) jdk_52_method_4_code (3 : Nat) (Option.none : Option Jvm.ClassFile.FieldType), Jvm.Cond.code ({ cls := "java/lang/StringUTF16", name := "getChar", desc := "([BI)C" } : Jvm.MethodName) jdk_52_method_5_code (2 : Nat) (Option.some Jvm.ClassFile.FieldType.char), Jvm.Cond.code ({ cls := "java/lang/StringUTF16", name := "charAt", desc := "([BI)C" } : Jvm.MethodName) jdk_52_method_83_code (2 : Nat) (Option.some Jvm.ClassFile.FieldType.char), Jvm.Cond.code ({ cls := "java/lang/StringUTF16", name := "checkIndex", desc := "(I[B)V" } : Jvm.MethodName) jdk_52_method_91_code (2 : Nat) (Option.none : Option Jvm.ClassFile.FieldType), Jvm.Cond.code ({ cls := "java/lang/StringUTF16", name := "length", desc := "([B)I" } : Jvm.MethodName) jdk_52_method_6_code (1 : Nat) (Option.some Jvm.ClassFile.FieldType.int)]
set_option maxRecDepth 65536 in
theorem codes_eq : words1.filter isCode = codes1 := rfl
theorem w_codes : ∀ c ∈ words1.filter isCode, c.before args0 about1 = true := by
  rw [codes_eq]
  intro c hc
  simp only [codes1, List.mem_cons, List.not_mem_nil, or_false] at hc
  rcases hc with rfl | rfl | rfl | rfl | rfl | rfl | rfl | rfl | rfl | rfl | rfl | rfl | rfl | rfl | rfl | rfl | rfl | rfl | rfl | rfl | rfl | rfl | rfl | rfl
  · exact w_c0
  · exact w_c1
  · exact w_c2
  · exact w_c3
  · exact w_c4
  · exact w_c5
  · exact w_c6
  · exact w_c7
  · exact w_c8
  · exact w_c9
  · exact w_c10
  · exact w_c11
  · exact w_c12
  · exact w_c13
  · exact w_c14
  · exact w_c15
  · exact w_c16
  · exact w_c17
  · exact w_c18
  · exact w_c19
  · exact w_c20
  · exact w_c21
  · exact w_c22
  · exact w_c23
set_option maxRecDepth 65536 in
theorem w_t1 : (words1.take 24).all (fun c => isCode c || c.before args0 about1) = true := by decide +kernel
set_option maxRecDepth 65536 in
theorem w_t2 : ((words1.drop 24).take 24).all (fun c => isCode c || c.before args0 about1) = true := by decide +kernel
set_option maxRecDepth 65536 in
theorem w_t3 : (((words1.drop 24).drop 24).take 24).all (fun c => isCode c || c.before args0 about1) = true := by decide +kernel
set_option maxRecDepth 65536 in
theorem w_t4 : ((((words1.drop 24).drop 24).drop 24).take 24).all (fun c => isCode c || c.before args0 about1) = true := by decide +kernel
set_option maxRecDepth 65536 in
theorem w_t5 : ((((words1.drop 24).drop 24).drop 24).drop 24).all (fun c => isCode c || c.before args0 about1) = true := by decide +kernel
theorem w_tables : (allAtoms (Jvm.Cond.code x code maxLocals ret :: tables_1)).before args0 about1 = true := by
  rw [allAtoms_all]
  show words1.all (fun c => c.before args0 about1) = true
  refine all_split ?_ w_codes
  rw [← List.take_append_drop 24 words1, List.all_append, w_t1, ← List.take_append_drop 24 (words1.drop 24), List.all_append, w_t2, ← List.take_append_drop 24 ((words1.drop 24).drop 24), List.all_append, w_t3, ← List.take_append_drop 24 (((words1.drop 24).drop 24).drop 24), List.all_append, w_t4, w_t5]
  rfl
set_option maxRecDepth 65536 in
theorem w_rest : rest_1_c.before args0 about1 = true := by decide +kernel
set_option maxRecDepth 65536 in
theorem w_case : (Jvm.Cond.and given_1 narrow_1).before args0 about1 = true := by decide +kernel
set_option maxRecDepth 65536 in
theorem w_consts : constsHeld consts_1 about1 := Jvm.Lit.constsHeldB_iff.mp (by decide +kernel)
theorem w_applies : (headSpec (Jvm.Cond.code x code maxLocals ret :: tables_1) room_1).applies x e0.platform about1 = true :=
  (Spec.applies_iff w_frames).mpr ⟨w_running, w_runnable, w_alone, w_named, w_hears, w_ripe, w_room, w_tables⟩
theorem atStart : AtStart classFile x code maxLocals ret World_1 tables_1 room_1 Calls_1 rest_1 Pre_1 launch0 p0 e0 about1 theMethod args0 below0 :=
  ⟨lists_1, trivial, launch0.admits_env _ _ _, launch0.least_env, fairChoices_fair.cas, fairChoices_fair.clock, w_frames, w_args, w_heap, w_applies, ⟨w_consts, trivial⟩, w_rest, w_case⟩
end start1
theorem witness_1 : WitnessClaimed_1 := ⟨start1.p0, start1.e0, start1.about1, start1.theMethod, start1.args0, start1.below0, start1.atStart⟩
end Jvm.Pilot.@@N@@
