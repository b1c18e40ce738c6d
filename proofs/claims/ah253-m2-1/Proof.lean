import JvmDerived
import JvmDerived.Pilot.@@N@@Statement
import JvmDerived.Pilot.@@N@@Code
set_option linter.unusedVariables false
set_option linter.unusedSimpArgs false
set_option maxRecDepth 65536
set_option maxHeartbeats 40000000
namespace Jvm.OwnWk
open Sem ClassFile Op Lib Jvm.Stand Jvm.Free Jvm.LawKit Jvm.RoadKit
def Sd (Z : State) (own : String) (bs : ByteArray) (mx : Nat) (ret : Option FieldType) (n0 : Nat) (p : Program) (l : Launch) (e : Env) (R : Room) (s : State) (m : MethodId) (args : Array Value) (below : List Frame) (meth : Method) (c : Code) (T : State) (h : Heap) (k n : Nat) : Prop :=
  ∃ locs, Stand p l e R s m args below meth c T locs k n ∧ T.heap = h ∧ Fr n0 locs ∧ n0 ≤ s.heap.size ∧ p.tables.exec = Jvm.exec ∧ Z.Warmed39 s.vm ∧ s.vm.findClass own = some m.cls ∧ c.code = bs ∧ c.maxLocals = mx ∧ meth.sig.returnType = ret ∧ meth.locks = false
def Gl (p : Program) (e : Env) (below : List Frame) (P : Outcome → State → Prop) (A : State) : Prop := ∃ t o, Steps p.tables e below A t ∧ t.status = .running ∧ Ended t below o ∧ P o t
def Pst (s : State) (n0 K N : Nat) (Q : Option Value → Heap → Prop) (o : Outcome) (t : State) : Prop := ∃ v L, o = .returned v ∧ (Q v t.heap ∧ Fr n0 L) ∧ FrameEnd s o t L K N
def OMet (l : Launch) (Z : State) (ws : List Jvm.Cond) (y : MethodName) (bs : ByteArray) (mx : Nat) (ret : Option FieldType) (rm : Room) (as : Array Value) (h : Heap) (n0 : Nat) (Q : Option Value → Heap → Prop) : Prop :=
  MetFree l y (head1 (Jvm.Cond.code y bs mx ret :: ws) rm) (fun a U => a = as ∧ Z.Warmed39 U.vm ∧ U.heap = h) (fun _ _ _ _ _ => True) (fun _ U o U' => ∃ v L, o = .returned v ∧ (Q v U'.heap ∧ Fr n0 L) ∧ FrameEnd U o U' L rm.cells rm.slots)
def own_ne (a b : Addr) : Prop := a ≠ b
section Kit
variable {Z : State} {own : String} {bs : ByteArray} {mx : Nat} {ret : Option FieldType} {n0 : Nat} {p : Program} {l : Launch} {e : Env} {R : Room} {s : State} {m : MethodId} {args : Array Value} {below : List Frame} {meth : Method} {c : Code} {T : State} {h : Heap} {k n : Nat} {P : Outcome → State → Prop} {L : Array Slot} {S : List Value} {pc pc' pcT pcF : Nat} {a0 : Array Value} {t : FieldType}
theorem Gl.of1 {A B : State} (f : ∀ t, Steps p.tables e below B t → Steps p.tables e below A t) (q : Gl p e below P B) : Gl p e below P A := by
  obtain ⟨t, o, h1, h2⟩ := q
  exact ⟨t, o, f t h1, h2⟩
theorem Gl.via {A B : State} (f : Steps p.tables e below A B) (q : Gl p e below P B) : Gl p e below P A := by
  obtain ⟨t, o, h1, h2⟩ := q
  exact ⟨t, o, f.trans h1, h2⟩
theorem OMet.of {ws : List Jvm.Cond} {y : MethodName} {rm : Room} {as : Array Value} {Q : Option Value → Heap → Prop} (ho : y.cls = own) (hpl : plainFor y = true) (hef : ∀ m, entryFrame m as mx = mkF m 0 L []) (hn : n0 ≤ h.size)
    (body : ∀ p e s m below meth c T, Sd Z own bs mx ret n0 p l e rm s m as below meth c T h 0 0 → meth.name = y.name → Gl p e below (Pst s n0 rm.cells rm.slots Q) (T.setTop (mkF m 0 L []))) : OMet l Z ws y bs mx ret rm as h n0 Q := by
  subst ho
  refine MetFree.of_bodySF hpl hisR ?_
  intro p e s m args below meth c s₁ Bd hml0 hP hK
  obtain ⟨rfl, hZ, hh⟩ := hP
  have e0 : s₁.heap = h := by rw [← hh, Bd.state]; rfl
  obtain ⟨t, o, h1, h2, h3, h4⟩ := body p e s m below meth c s₁ ⟨[], Stand.of_body Bd, e0, Fr.nil n0, by rw [hh]; exact hn, Bd.exec, hZ, findClass_of_methodNamed Bd.named, Bd.bytes, hml0, Bd.returns, Bd.notSynchronized⟩ (name_of_methodNamed Bd.named Bd.method).1
  exact ⟨t, o, castTop (hef m) h1, h2, h3, h4⟩

theorem own_grow {T' : State} {locs' : List Loc} {k' n' : Nat} (X : Stand p l e R s m args below meth c T' locs' k' n') : s.heap.size ≤ T'.heap.size := X.same.2.1
theorem own_eqI {args : Array Value} {Z : State} {t : Term} {v : Int32} (q : (Jvm.Cond.eq t (.int v)).value args Z none Z [] = some true) : t.eval args Z none [] Z = some (.int v) := by
  simp only [Cond.value, Term.eval] at q
  cases ht : t.eval args Z none [] Z with
  | none => simp [ht] at q
  | some w => cases w <;> simp [ht] at q ⊢ <;> exact q
theorem own_ite {c A B : Prop} [Decidable c] (h1 : c → A) (h2 : ¬ c → B) : A ∨ B := if q : c then Or.inl (h1 q) else Or.inr (h2 q)
theorem own_cut {A B : Prop} (f : B → A) (b : B) : A := f b
theorem Sd.sz (Y : Sd Z own bs mx ret n0 p l e R s m args below meth c T h k n) : n0 ≤ h.size := by
  obtain ⟨locs, X, eT, N, hn0, hx, hZ, hown, hby, hml, hrt, hlk⟩ := Y
  exact eT ▸ Nat.le_trans hn0 (own_grow X)
theorem own_narB {a v : Int32} (h : a.toInt8.toInt32 = v) : nar .byte v = v := by subst h; simp [nar]
theorem own_narC {a v : Int32} (h : a.toUInt32.toUInt16.toUInt32.toInt32 = v) : nar .char v = v := by subst h; have q := Jvm.Free.XT.narrow_c a; exact Value.int.inj q
theorem own_narS {a v : Int32} (h : a.toInt16.toInt32 = v) : nar .short v = v := by subst h; simp [nar]
theorem own_c3 {v : Int32} (h0 : 0 ≤ v.toInt) (h : v.toInt ≤ 3) : v = 0 ∨ v = 1 ∨ v = 2 ∨ v = 3 := by
  have : v.toInt = 0 ∨ v.toInt = 1 ∨ v.toInt = 2 ∨ v.toInt = 3 := by omega
  rcases this with q | q | q | q <;> simp [← Int32.toInt_inj, q]
theorem own_c4 {v : Int32} (h0 : 0 ≤ v.toInt) (h : v.toInt ≤ 4) : v = 0 ∨ v = 1 ∨ v = 2 ∨ v = 3 ∨ v = 4 := by
  have : v.toInt = 0 ∨ v.toInt = 1 ∨ v.toInt = 2 ∨ v.toInt = 3 ∨ v.toInt = 4 := by omega
  rcases this with q | q | q | q | q <;> simp [← Int32.toInt_inj, q]
theorem own_c5 {v : Int32} (h0 : 0 ≤ v.toInt) (h : v.toInt ≤ 5) : v = 0 ∨ v = 1 ∨ v = 2 ∨ v = 3 ∨ v = 4 ∨ v = 5 := by
  have : v.toInt = 0 ∨ v.toInt = 1 ∨ v.toInt = 2 ∨ v.toInt = 3 ∨ v.toInt = 4 ∨ v.toInt = 5 := by omega
  rcases this with q | q | q | q | q | q <;> simp [← Int32.toInt_inj, q]
theorem own_narR {t : FieldType} {x : Value} (q : x.isRef = true) : narrow t x = x := by rcases ref_cases q with rfl | ⟨z, rfl⟩ <;> cases t <;> rfl
theorem OMet.un {l : Launch} {Z : State} {ws : List Jvm.Cond} {y : MethodName} {bs : ByteArray} {mx : Nat} {ret : Option FieldType} {rm : Room} {as : Array Value} {h : Heap} {n0 : Nat} {Q : Option Value → Heap → Prop} (q : OMet l Z ws y bs mx ret rm as h n0 Q) :
  MetFree l y (head1 (Jvm.Cond.code y bs mx ret :: ws) rm) (fun a U => a = as ∧ Z.Warmed39 U.vm ∧ U.heap = h) (fun _ _ _ _ _ => True) (fun _ U o U' => ∃ v L, o = .returned v ∧ (fun v h' L => Q v h' ∧ Fr n0 L) v U'.heap L ∧ FrameEnd U o U' L rm.cells rm.slots) := q
theorem own_not64 (x : Int64) : (x ^^^ (-1)).toInt = -x.toInt - 1 := by
  have h1 : x ^^^ (-1) = ~~~x := by
    apply Int64.toBitVec_inj.mp
    rw [Int64.toBitVec_xor, Int64.toBitVec_not]
    exact BitVec.xor_allOnes
  rw [h1, Int64.not_eq_neg_sub]
  have q := c_lsub (-x) 1
  have r := c_lneg x
  have n1 := rng64 (-x - 1)
  have n2 := rng64 (-x)
  have n3 := rng64 x
  simp only [Int64.reduceToInt] at q
  omega
theorem own_narZ {x : Int32} (q : x = 0 ∨ x = 1) : nar .boolean x = x := by rcases q with rfl | rfl <;> rfl
theorem own_nZ {x : Int32} (q : x = 0 ∨ x = 1) : narrow .boolean (.int x) = .int x := by rcases q with rfl | rfl <;> rfl
theorem own_fZ {x : Int32} (q : x = 0 ∨ x = 1) : fits .boolean (.int x) = true := by rcases q with rfl | rfl <;> rfl
theorem Gl.iadd (Y : Sd Z own bs mx ret n0 p l e R s m args below meth c T h k n) {x y : Int32} {r : Int32} (hr : x + y = r) (hd : decode bs pc = .ok (.iadd, 1)) (hp : pc + 1 = pc') (q : Gl p e below P (T.setTop (mkF m pc' L (.int r :: S)))) : Gl p e below P (T.setTop (mkF m pc L (.int y :: .int x :: S))) := by
  obtain ⟨locs, X, eT, N, hn0, hx, hZ, hown, hby, hml, hrt, hlk⟩ := Y
  subst hp hr
  exact q.of1 fun t q => XS.iadd X.here hx rfl (hb hby hd) rfl q
theorem Gl.isub (Y : Sd Z own bs mx ret n0 p l e R s m args below meth c T h k n) {x y : Int32} {r : Int32} (hr : x - y = r) (hd : decode bs pc = .ok (.isub, 1)) (hp : pc + 1 = pc') (q : Gl p e below P (T.setTop (mkF m pc' L (.int r :: S)))) : Gl p e below P (T.setTop (mkF m pc L (.int y :: .int x :: S))) := by
  obtain ⟨locs, X, eT, N, hn0, hx, hZ, hown, hby, hml, hrt, hlk⟩ := Y
  subst hp hr
  exact q.of1 fun t q => XS.isub X.here hx rfl (hb hby hd) rfl q
theorem Gl.imul (Y : Sd Z own bs mx ret n0 p l e R s m args below meth c T h k n) {x y : Int32} {r : Int32} (hr : x * y = r) (hd : decode bs pc = .ok (.imul, 1)) (hp : pc + 1 = pc') (q : Gl p e below P (T.setTop (mkF m pc' L (.int r :: S)))) : Gl p e below P (T.setTop (mkF m pc L (.int y :: .int x :: S))) := by
  obtain ⟨locs, X, eT, N, hn0, hx, hZ, hown, hby, hml, hrt, hlk⟩ := Y
  subst hp hr
  exact q.of1 fun t q => XS.imul X.here hx rfl (hb hby hd) rfl q
theorem Gl.iand (Y : Sd Z own bs mx ret n0 p l e R s m args below meth c T h k n) {x y : Int32} {r : Int32} (hr : x &&& y = r) (hd : decode bs pc = .ok (.iand, 1)) (hp : pc + 1 = pc') (q : Gl p e below P (T.setTop (mkF m pc' L (.int r :: S)))) : Gl p e below P (T.setTop (mkF m pc L (.int y :: .int x :: S))) := by
  obtain ⟨locs, X, eT, N, hn0, hx, hZ, hown, hby, hml, hrt, hlk⟩ := Y
  subst hp hr
  exact q.of1 fun t q => XS.iand X.here hx rfl (hb hby hd) rfl q
theorem Gl.ior (Y : Sd Z own bs mx ret n0 p l e R s m args below meth c T h k n) {x y : Int32} {r : Int32} (hr : x ||| y = r) (hd : decode bs pc = .ok (.ior, 1)) (hp : pc + 1 = pc') (q : Gl p e below P (T.setTop (mkF m pc' L (.int r :: S)))) : Gl p e below P (T.setTop (mkF m pc L (.int y :: .int x :: S))) := by
  obtain ⟨locs, X, eT, N, hn0, hx, hZ, hown, hby, hml, hrt, hlk⟩ := Y
  subst hp hr
  exact q.of1 fun t q => XS.ior X.here hx rfl (hb hby hd) rfl q
theorem Gl.ixor (Y : Sd Z own bs mx ret n0 p l e R s m args below meth c T h k n) {x y : Int32} {r : Int32} (hr : x ^^^ y = r) (hd : decode bs pc = .ok (.ixor, 1)) (hp : pc + 1 = pc') (q : Gl p e below P (T.setTop (mkF m pc' L (.int r :: S)))) : Gl p e below P (T.setTop (mkF m pc L (.int y :: .int x :: S))) := by
  obtain ⟨locs, X, eT, N, hn0, hx, hZ, hown, hby, hml, hrt, hlk⟩ := Y
  subst hp hr
  exact q.of1 fun t q => XS.ixor X.here hx rfl (hb hby hd) rfl q
theorem Gl.ishl (Y : Sd Z own bs mx ret n0 p l e R s m args below meth c T h k n) {x y : Int32} {r : Int32} (hr : x <<< (y &&& 31) = r) (hd : decode bs pc = .ok (.ishl, 1)) (hp : pc + 1 = pc') (q : Gl p e below P (T.setTop (mkF m pc' L (.int r :: S)))) : Gl p e below P (T.setTop (mkF m pc L (.int y :: .int x :: S))) := by
  obtain ⟨locs, X, eT, N, hn0, hx, hZ, hown, hby, hml, hrt, hlk⟩ := Y
  subst hp hr
  exact q.of1 fun t q => XS.ishl X.here hx rfl (hb hby hd) rfl q
theorem Gl.ishr (Y : Sd Z own bs mx ret n0 p l e R s m args below meth c T h k n) {x y : Int32} {r : Int32} (hr : x >>> (y &&& 31) = r) (hd : decode bs pc = .ok (.ishr, 1)) (hp : pc + 1 = pc') (q : Gl p e below P (T.setTop (mkF m pc' L (.int r :: S)))) : Gl p e below P (T.setTop (mkF m pc L (.int y :: .int x :: S))) := by
  obtain ⟨locs, X, eT, N, hn0, hx, hZ, hown, hby, hml, hrt, hlk⟩ := Y
  subst hp hr
  exact q.of1 fun t q => XS.ishr X.here hx rfl (hb hby hd) rfl q
theorem Gl.iushr (Y : Sd Z own bs mx ret n0 p l e R s m args below meth c T h k n) {x y : Int32} {r : Int32} (hr : (x.toUInt32 >>> (y &&& 31).toUInt32).toInt32 = r) (hd : decode bs pc = .ok (.iushr, 1)) (hp : pc + 1 = pc') (q : Gl p e below P (T.setTop (mkF m pc' L (.int r :: S)))) : Gl p e below P (T.setTop (mkF m pc L (.int y :: .int x :: S))) := by
  obtain ⟨locs, X, eT, N, hn0, hx, hZ, hown, hby, hml, hrt, hlk⟩ := Y
  subst hp hr
  exact q.of1 fun t q => XS.iushr X.here hx rfl (hb hby hd) rfl q
theorem Gl.ladd (Y : Sd Z own bs mx ret n0 p l e R s m args below meth c T h k n) {x y : Int64} {r : Int64} (hr : x + y = r) (hd : decode bs pc = .ok (.ladd, 1)) (hp : pc + 1 = pc') (q : Gl p e below P (T.setTop (mkF m pc' L (.long r :: S)))) : Gl p e below P (T.setTop (mkF m pc L (.long y :: .long x :: S))) := by
  obtain ⟨locs, X, eT, N, hn0, hx, hZ, hown, hby, hml, hrt, hlk⟩ := Y
  subst hp hr
  exact q.of1 fun t q => XS.ladd X.here hx rfl (hb hby hd) rfl q
theorem Gl.lsub (Y : Sd Z own bs mx ret n0 p l e R s m args below meth c T h k n) {x y : Int64} {r : Int64} (hr : x - y = r) (hd : decode bs pc = .ok (.lsub, 1)) (hp : pc + 1 = pc') (q : Gl p e below P (T.setTop (mkF m pc' L (.long r :: S)))) : Gl p e below P (T.setTop (mkF m pc L (.long y :: .long x :: S))) := by
  obtain ⟨locs, X, eT, N, hn0, hx, hZ, hown, hby, hml, hrt, hlk⟩ := Y
  subst hp hr
  exact q.of1 fun t q => XS.lsub X.here hx rfl (hb hby hd) rfl q
theorem Gl.lmul (Y : Sd Z own bs mx ret n0 p l e R s m args below meth c T h k n) {x y : Int64} {r : Int64} (hr : x * y = r) (hd : decode bs pc = .ok (.lmul, 1)) (hp : pc + 1 = pc') (q : Gl p e below P (T.setTop (mkF m pc' L (.long r :: S)))) : Gl p e below P (T.setTop (mkF m pc L (.long y :: .long x :: S))) := by
  obtain ⟨locs, X, eT, N, hn0, hx, hZ, hown, hby, hml, hrt, hlk⟩ := Y
  subst hp hr
  exact q.of1 fun t q => XS.lmul X.here hx rfl (hb hby hd) rfl q
theorem Gl.land (Y : Sd Z own bs mx ret n0 p l e R s m args below meth c T h k n) {x y : Int64} {r : Int64} (hr : x &&& y = r) (hd : decode bs pc = .ok (.land, 1)) (hp : pc + 1 = pc') (q : Gl p e below P (T.setTop (mkF m pc' L (.long r :: S)))) : Gl p e below P (T.setTop (mkF m pc L (.long y :: .long x :: S))) := by
  obtain ⟨locs, X, eT, N, hn0, hx, hZ, hown, hby, hml, hrt, hlk⟩ := Y
  subst hp hr
  exact q.of1 fun t q => XS.land X.here hx rfl (hb hby hd) rfl q
theorem Gl.lor (Y : Sd Z own bs mx ret n0 p l e R s m args below meth c T h k n) {x y : Int64} {r : Int64} (hr : x ||| y = r) (hd : decode bs pc = .ok (.lor, 1)) (hp : pc + 1 = pc') (q : Gl p e below P (T.setTop (mkF m pc' L (.long r :: S)))) : Gl p e below P (T.setTop (mkF m pc L (.long y :: .long x :: S))) := by
  obtain ⟨locs, X, eT, N, hn0, hx, hZ, hown, hby, hml, hrt, hlk⟩ := Y
  subst hp hr
  exact q.of1 fun t q => XS.lor X.here hx rfl (hb hby hd) rfl q
theorem Gl.lxor (Y : Sd Z own bs mx ret n0 p l e R s m args below meth c T h k n) {x y : Int64} {r : Int64} (hr : x ^^^ y = r) (hd : decode bs pc = .ok (.lxor, 1)) (hp : pc + 1 = pc') (q : Gl p e below P (T.setTop (mkF m pc' L (.long r :: S)))) : Gl p e below P (T.setTop (mkF m pc L (.long y :: .long x :: S))) := by
  obtain ⟨locs, X, eT, N, hn0, hx, hZ, hown, hby, hml, hrt, hlk⟩ := Y
  subst hp hr
  exact q.of1 fun t q => XS.lxor X.here hx rfl (hb hby hd) rfl q
theorem Gl.lshl (Y : Sd Z own bs mx ret n0 p l e R s m args below meth c T h k n) {x : Int64} {y : Int32} {r : Int64} (hr : x <<< (y &&& 0x3f).toInt64 = r) (hd : decode bs pc = .ok (.lshl, 1)) (hp : pc + 1 = pc') (q : Gl p e below P (T.setTop (mkF m pc' L (.long r :: S)))) : Gl p e below P (T.setTop (mkF m pc L (.int y :: .long x :: S))) := by
  obtain ⟨locs, X, eT, N, hn0, hx, hZ, hown, hby, hml, hrt, hlk⟩ := Y
  subst hp hr
  exact q.of1 fun t q => XS.lshl X.here hx rfl (hb hby hd) rfl q
theorem Gl.lshr (Y : Sd Z own bs mx ret n0 p l e R s m args below meth c T h k n) {x : Int64} {y : Int32} {r : Int64} (hr : x >>> (y &&& 0x3f).toInt64 = r) (hd : decode bs pc = .ok (.lshr, 1)) (hp : pc + 1 = pc') (q : Gl p e below P (T.setTop (mkF m pc' L (.long r :: S)))) : Gl p e below P (T.setTop (mkF m pc L (.int y :: .long x :: S))) := by
  obtain ⟨locs, X, eT, N, hn0, hx, hZ, hown, hby, hml, hrt, hlk⟩ := Y
  subst hp hr
  exact q.of1 fun t q => XS.lshr X.here hx rfl (hb hby hd) rfl q
theorem Gl.lushr (Y : Sd Z own bs mx ret n0 p l e R s m args below meth c T h k n) {x : Int64} {y : Int32} {r : Int64} (hr : (x.toUInt64 >>> (y &&& 0x3f).toInt64.toUInt64).toInt64 = r) (hd : decode bs pc = .ok (.lushr, 1)) (hp : pc + 1 = pc') (q : Gl p e below P (T.setTop (mkF m pc' L (.long r :: S)))) : Gl p e below P (T.setTop (mkF m pc L (.int y :: .long x :: S))) := by
  obtain ⟨locs, X, eT, N, hn0, hx, hZ, hown, hby, hml, hrt, hlk⟩ := Y
  subst hp hr
  exact q.of1 fun t q => XS.lushr X.here hx rfl (hb hby hd) rfl q
theorem Gl.idiv (Y : Sd Z own bs mx ret n0 p l e R s m args below meth c T h k n) {x y : Int32} (hy : y ≠ 0) {r : Int32} (hr : x / y = r) (hd : decode bs pc = .ok (.idiv, 1)) (hp : pc + 1 = pc') (q : Gl p e below P (T.setTop (mkF m pc' L (.int r :: S)))) : Gl p e below P (T.setTop (mkF m pc L (.int y :: .int x :: S))) := by
  obtain ⟨locs, X, eT, N, hn0, hx, hZ, hown, hby, hml, hrt, hlk⟩ := Y
  subst hp hr
  exact q.of1 fun t q => XS.idiv X.here hx rfl (hb hby hd) rfl hy q
theorem Gl.irem (Y : Sd Z own bs mx ret n0 p l e R s m args below meth c T h k n) {x y : Int32} (hy : y ≠ 0) {r : Int32} (hr : x % y = r) (hd : decode bs pc = .ok (.irem, 1)) (hp : pc + 1 = pc') (q : Gl p e below P (T.setTop (mkF m pc' L (.int r :: S)))) : Gl p e below P (T.setTop (mkF m pc L (.int y :: .int x :: S))) := by
  obtain ⟨locs, X, eT, N, hn0, hx, hZ, hown, hby, hml, hrt, hlk⟩ := Y
  subst hp hr
  exact q.of1 fun t q => iremM X hx rfl (hb hby hd) rfl hy q
theorem Gl.ldiv (Y : Sd Z own bs mx ret n0 p l e R s m args below meth c T h k n) {x y : Int64} (hy : y ≠ 0) {r : Int64} (hr : x / y = r) (hd : decode bs pc = .ok (.ldiv, 1)) (hp : pc + 1 = pc') (q : Gl p e below P (T.setTop (mkF m pc' L (.long r :: S)))) : Gl p e below P (T.setTop (mkF m pc L (.long y :: .long x :: S))) := by
  obtain ⟨locs, X, eT, N, hn0, hx, hZ, hown, hby, hml, hrt, hlk⟩ := Y
  subst hp hr
  exact q.of1 fun t q => XS.ldiv X.here hx rfl (hb hby hd) rfl hy q
theorem Gl.lrem (Y : Sd Z own bs mx ret n0 p l e R s m args below meth c T h k n) {x y : Int64} (hy : y ≠ 0) {r : Int64} (hr : x % y = r) (hd : decode bs pc = .ok (.lrem, 1)) (hp : pc + 1 = pc') (q : Gl p e below P (T.setTop (mkF m pc' L (.long r :: S)))) : Gl p e below P (T.setTop (mkF m pc L (.long y :: .long x :: S))) := by
  obtain ⟨locs, X, eT, N, hn0, hx, hZ, hown, hby, hml, hrt, hlk⟩ := Y
  subst hp hr
  exact q.of1 fun t q => XS.lrem X.here hx rfl (hb hby hd) rfl hy (by rw [lrem_mod]; exact q)
theorem Gl.ineg (Y : Sd Z own bs mx ret n0 p l e R s m args below meth c T h k n) {x : Int32} {r : Int32} (hr : -x = r) (hd : decode bs pc = .ok (.ineg, 1)) (hp : pc + 1 = pc') (q : Gl p e below P (T.setTop (mkF m pc' L (.int r :: S)))) : Gl p e below P (T.setTop (mkF m pc L (.int x :: S))) := by
  obtain ⟨locs, X, eT, N, hn0, hx, hZ, hown, hby, hml, hrt, hlk⟩ := Y
  subst hp hr
  exact q.of1 fun t q => XS.ineg X.here hx rfl (hb hby hd) rfl q
theorem Gl.lneg (Y : Sd Z own bs mx ret n0 p l e R s m args below meth c T h k n) {x : Int64} {r : Int64} (hr : -x = r) (hd : decode bs pc = .ok (.lneg, 1)) (hp : pc + 1 = pc') (q : Gl p e below P (T.setTop (mkF m pc' L (.long r :: S)))) : Gl p e below P (T.setTop (mkF m pc L (.long x :: S))) := by
  obtain ⟨locs, X, eT, N, hn0, hx, hZ, hown, hby, hml, hrt, hlk⟩ := Y
  subst hp hr
  exact q.of1 fun t q => XS.lneg X.here hx rfl (hb hby hd) rfl q
theorem Gl.i2b (Y : Sd Z own bs mx ret n0 p l e R s m args below meth c T h k n) {x : Int32} {r : Int32} (hr : x.toInt8.toInt32 = r) (hd : decode bs pc = .ok (.i2b, 1)) (hp : pc + 1 = pc') (q : Gl p e below P (T.setTop (mkF m pc' L (.int r :: S)))) : Gl p e below P (T.setTop (mkF m pc L (.int x :: S))) := by
  obtain ⟨locs, X, eT, N, hn0, hx, hZ, hown, hby, hml, hrt, hlk⟩ := Y
  subst hp hr
  exact q.of1 fun t q => XS.i2b X.here hx rfl (hb hby hd) rfl q
theorem Gl.i2c (Y : Sd Z own bs mx ret n0 p l e R s m args below meth c T h k n) {x : Int32} {r : Int32} (hr : x.toUInt32.toUInt16.toUInt32.toInt32 = r) (hd : decode bs pc = .ok (.i2c, 1)) (hp : pc + 1 = pc') (q : Gl p e below P (T.setTop (mkF m pc' L (.int r :: S)))) : Gl p e below P (T.setTop (mkF m pc L (.int x :: S))) := by
  obtain ⟨locs, X, eT, N, hn0, hx, hZ, hown, hby, hml, hrt, hlk⟩ := Y
  subst hp hr
  exact q.of1 fun t q => XS.i2c X.here hx rfl (hb hby hd) rfl q
theorem Gl.i2s (Y : Sd Z own bs mx ret n0 p l e R s m args below meth c T h k n) {x : Int32} {r : Int32} (hr : x.toInt16.toInt32 = r) (hd : decode bs pc = .ok (.i2s, 1)) (hp : pc + 1 = pc') (q : Gl p e below P (T.setTop (mkF m pc' L (.int r :: S)))) : Gl p e below P (T.setTop (mkF m pc L (.int x :: S))) := by
  obtain ⟨locs, X, eT, N, hn0, hx, hZ, hown, hby, hml, hrt, hlk⟩ := Y
  subst hp hr
  exact q.of1 fun t q => XS.i2s X.here hx rfl (hb hby hd) rfl q
theorem Gl.i2l (Y : Sd Z own bs mx ret n0 p l e R s m args below meth c T h k n) {x : Int32} {r : Int64} (hr : x.toInt64 = r) (hd : decode bs pc = .ok (.i2l, 1)) (hp : pc + 1 = pc') (q : Gl p e below P (T.setTop (mkF m pc' L (.long r :: S)))) : Gl p e below P (T.setTop (mkF m pc L (.int x :: S))) := by
  obtain ⟨locs, X, eT, N, hn0, hx, hZ, hown, hby, hml, hrt, hlk⟩ := Y
  subst hp hr
  exact q.of1 fun t q => XS.i2l X.here hx rfl (hb hby hd) rfl q
theorem Gl.l2i (Y : Sd Z own bs mx ret n0 p l e R s m args below meth c T h k n) {x : Int64} {r : Int32} (hr : x.toInt32 = r) (hd : decode bs pc = .ok (.l2i, 1)) (hp : pc + 1 = pc') (q : Gl p e below P (T.setTop (mkF m pc' L (.int r :: S)))) : Gl p e below P (T.setTop (mkF m pc L (.long x :: S))) := by
  obtain ⟨locs, X, eT, N, hn0, hx, hZ, hown, hby, hml, hrt, hlk⟩ := Y
  subst hp hr
  exact q.of1 fun t q => XS.l2i X.here hx rfl (hb hby hd) rfl q
theorem Gl.iconst (Y : Sd Z own bs mx ret n0 p l e R s m args below meth c T h k n) {i : Int} {v : Int32} (hv : Int32.ofInt i = v) (hd : decode bs pc = .ok (.iconst i, 1)) (hp : pc + 1 = pc') (q : Gl p e below P (T.setTop (mkF m pc' L (.int v :: S)))) : Gl p e below P (T.setTop (mkF m pc L S)) := by
  obtain ⟨locs, X, eT, N, hn0, hx, hZ, hown, hby, hml, hrt, hlk⟩ := Y
  subst hp
  exact q.of1 fun t q => XS.iconst X.here hx rfl (hb hby hd) (by rw [hv]; exact q)
theorem Gl.bipush (Y : Sd Z own bs mx ret n0 p l e R s m args below meth c T h k n) {i : Int} {v : Int32} (hv : (Int8.ofInt i).toInt32 = v) (hd : decode bs pc = .ok (.bipush i, 2)) (hp : pc + 2 = pc') (q : Gl p e below P (T.setTop (mkF m pc' L (.int v :: S)))) : Gl p e below P (T.setTop (mkF m pc L S)) := by
  obtain ⟨locs, X, eT, N, hn0, hx, hZ, hown, hby, hml, hrt, hlk⟩ := Y
  subst hp
  exact q.of1 fun t q => XS.bipush X.here hx rfl (hb hby hd) (by rw [hv]; exact q)
theorem Gl.sipush (Y : Sd Z own bs mx ret n0 p l e R s m args below meth c T h k n) {i : Int} {v : Int32} (hv : (Int16.ofInt i).toInt32 = v) (hd : decode bs pc = .ok (.sipush i, 3)) (hp : pc + 3 = pc') (q : Gl p e below P (T.setTop (mkF m pc' L (.int v :: S)))) : Gl p e below P (T.setTop (mkF m pc L S)) := by
  obtain ⟨locs, X, eT, N, hn0, hx, hZ, hown, hby, hml, hrt, hlk⟩ := Y
  subst hp
  exact q.of1 fun t q => XS.sipush X.here hx rfl (hb hby hd) (by rw [hv]; exact q)
theorem Gl.lconst (Y : Sd Z own bs mx ret n0 p l e R s m args below meth c T h k n) {i : Fin 2} {v : Int64} (hv : Int64.ofNat i = v) (hd : decode bs pc = .ok (.lconst i, 1)) (hp : pc + 1 = pc') (q : Gl p e below P (T.setTop (mkF m pc' L (.long v :: S)))) : Gl p e below P (T.setTop (mkF m pc L S)) := by
  obtain ⟨locs, X, eT, N, hn0, hx, hZ, hown, hby, hml, hrt, hlk⟩ := Y
  subst hp
  exact q.of1 fun t q => XS.lconst X.here hx rfl (hb hby hd) (by rw [hv]; exact q)
theorem Gl.aconstNull (Y : Sd Z own bs mx ret n0 p l e R s m args below meth c T h k n)  (hd : decode bs pc = .ok (.aconst_null, 1)) (hp : pc + 1 = pc') (q : Gl p e below P (T.setTop (mkF m pc' L (.null :: S)))) : Gl p e below P (T.setTop (mkF m pc L S)) := by
  obtain ⟨locs, X, eT, N, hn0, hx, hZ, hown, hby, hml, hrt, hlk⟩ := Y
  subst hp
  exact q.of1 fun t q => XS.aconstNull X.here hx rfl (hb hby hd) q
theorem Gl.ldcI (Y : Sd Z own bs mx ret n0 p l e R s m args below meth c T h k n) {i : Nat} {v : Int32} (w : (Jvm.Cond.constant own i v).before a0 Z = true) (hd : decode bs pc = .ok (.ldc i, 2)) (hp : pc + 2 = pc') (q : Gl p e below P (T.setTop (mkF m pc' L (.int v :: S)))) : Gl p e below P (T.setTop (mkF m pc L S)) := by
  obtain ⟨locs, X, eT, N, hn0, hx, hZ, hown, hby, hml, hrt, hlk⟩ := Y
  subst hp
  exact q.of1 fun t q => X.ldcInt hx hown (mvT hZ w) (g := mkF m pc L S) rfl (hb hby hd) t q
theorem Gl.ldcWI (Y : Sd Z own bs mx ret n0 p l e R s m args below meth c T h k n) {i : Nat} {v : Int32} (w : (Jvm.Cond.constant own i v).before a0 Z = true) (hd : decode bs pc = .ok (.ldc_w i, 3)) (hp : pc + 3 = pc') (q : Gl p e below P (T.setTop (mkF m pc' L (.int v :: S)))) : Gl p e below P (T.setTop (mkF m pc L S)) := by
  obtain ⟨locs, X, eT, N, hn0, hx, hZ, hown, hby, hml, hrt, hlk⟩ := Y
  subst hp
  exact q.of1 fun t q => X.ldcWI hx hown (mvT hZ w) (g := mkF m pc L S) rfl (hb hby hd) q
theorem Gl.ldcJ (Y : Sd Z own bs mx ret n0 p l e R s m args below meth c T h k n) {i : Nat} {v : Int64} (w : (Jvm.Cond.constantLong own i v).before a0 Z = true) (hd : decode bs pc = .ok (.ldc2_w i, 3)) (hp : pc + 3 = pc') (q : Gl p e below P (T.setTop (mkF m pc' L (.long v :: S)))) : Gl p e below P (T.setTop (mkF m pc L S)) := by
  obtain ⟨locs, X, eT, N, hn0, hx, hZ, hown, hby, hml, hrt, hlk⟩ := Y
  subst hp
  exact q.of1 fun t q => X.ldc2Long hx hown (mvT hZ w) (g := mkF m pc L S) rfl (hb hby hd) t q
theorem Gl.ldcD (Y : Sd Z own bs mx ret n0 p l e R s m args below meth c T h k n) {i : Nat} {v : UInt64} (w : (Jvm.Cond.constantDouble own i v).before a0 Z = true) (hd : decode bs pc = .ok (.ldc2_w i, 3)) (hp : pc + 3 = pc') (q : Gl p e below P (T.setTop (mkF m pc' L (.double v :: S)))) : Gl p e below P (T.setTop (mkF m pc L S)) := by
  obtain ⟨locs, X, eT, N, hn0, hx, hZ, hown, hby, hml, hrt, hlk⟩ := Y
  subst hp
  exact q.of1 fun t q => X.ldc2DoubleC hx hown (mvT hZ w) (g := mkF m pc L S) rfl (hb hby hd) t q
theorem Gl.iload (Y : Sd Z own bs mx ret n0 p l e R s m args below meth c T h k n) {i : Nat} {v : Int32} (hl : L[i]? = some (.val (.int v))) (hd : decode bs pc = .ok (.iload i, 2)) (hp : pc + 2 = pc') (q : Gl p e below P (T.setTop (mkF m pc' L (.int v :: S)))) : Gl p e below P (T.setTop (mkF m pc L S)) := by
  obtain ⟨locs, X, eT, N, hn0, hx, hZ, hown, hby, hml, hrt, hlk⟩ := Y
  subst hp
  exact q.of1 fun t q => XS.iload X.here hx rfl (hb hby hd) hl q
theorem Gl.iloadN (Y : Sd Z own bs mx ret n0 p l e R s m args below meth c T h k n) {i : Fin 4} {v : Int32} (hl : L[i.val]? = some (.val (.int v))) (hd : decode bs pc = .ok (.iload_n i, 1)) (hp : pc + 1 = pc') (q : Gl p e below P (T.setTop (mkF m pc' L (.int v :: S)))) : Gl p e below P (T.setTop (mkF m pc L S)) := by
  obtain ⟨locs, X, eT, N, hn0, hx, hZ, hown, hby, hml, hrt, hlk⟩ := Y
  subst hp
  exact q.of1 fun t q => XS.iloadN X.here hx rfl (hb hby hd) hl q
theorem Gl.lload (Y : Sd Z own bs mx ret n0 p l e R s m args below meth c T h k n) {i : Nat} {v : Int64} (hl : L[i]? = some (.val (.long v))) (hd : decode bs pc = .ok (.lload i, 2)) (hp : pc + 2 = pc') (q : Gl p e below P (T.setTop (mkF m pc' L (.long v :: S)))) : Gl p e below P (T.setTop (mkF m pc L S)) := by
  obtain ⟨locs, X, eT, N, hn0, hx, hZ, hown, hby, hml, hrt, hlk⟩ := Y
  subst hp
  exact q.of1 fun t q => XS.lload X.here hx rfl (hb hby hd) hl q
theorem Gl.lloadN (Y : Sd Z own bs mx ret n0 p l e R s m args below meth c T h k n) {i : Fin 4} {v : Int64} (hl : L[i.val]? = some (.val (.long v))) (hd : decode bs pc = .ok (.lload_n i, 1)) (hp : pc + 1 = pc') (q : Gl p e below P (T.setTop (mkF m pc' L (.long v :: S)))) : Gl p e below P (T.setTop (mkF m pc L S)) := by
  obtain ⟨locs, X, eT, N, hn0, hx, hZ, hown, hby, hml, hrt, hlk⟩ := Y
  subst hp
  exact q.of1 fun t q => XS.lloadN X.here hx rfl (hb hby hd) hl q
theorem Gl.dload (Y : Sd Z own bs mx ret n0 p l e R s m args below meth c T h k n) {i : Nat} {v : UInt64} (hl : L[i]? = some (.val (.double v))) (hd : decode bs pc = .ok (.dload i, 2)) (hp : pc + 2 = pc') (q : Gl p e below P (T.setTop (mkF m pc' L (.double v :: S)))) : Gl p e below P (T.setTop (mkF m pc L S)) := by
  obtain ⟨locs, X, eT, N, hn0, hx, hZ, hown, hby, hml, hrt, hlk⟩ := Y
  subst hp
  exact q.of1 fun t q => XS.dload X.here hx rfl (hb hby hd) hl q
theorem Gl.dloadN (Y : Sd Z own bs mx ret n0 p l e R s m args below meth c T h k n) {i : Fin 4} {v : UInt64} (hl : L[i.val]? = some (.val (.double v))) (hd : decode bs pc = .ok (.dload_n i, 1)) (hp : pc + 1 = pc') (q : Gl p e below P (T.setTop (mkF m pc' L (.double v :: S)))) : Gl p e below P (T.setTop (mkF m pc L S)) := by
  obtain ⟨locs, X, eT, N, hn0, hx, hZ, hown, hby, hml, hrt, hlk⟩ := Y
  subst hp
  exact q.of1 fun t q => XS.dloadN X.here hx rfl (hb hby hd) hl q
theorem Gl.dconst0 (Y : Sd Z own bs mx ret n0 p l e R s m args below meth c T h k n)  (hd : decode bs pc = .ok (.dconst 0, 1)) (hp : pc + 1 = pc') (q : Gl p e below P (T.setTop (mkF m pc' L (.double FP.dconst0 :: S)))) : Gl p e below P (T.setTop (mkF m pc L S)) := by
  obtain ⟨locs, X, eT, N, hn0, hx, hZ, hown, hby, hml, hrt, hlk⟩ := Y
  subst hp
  exact q.of1 fun t q => XS.dconst0 X.here hx rfl (hb hby hd) rfl q
theorem Gl.dconst1 (Y : Sd Z own bs mx ret n0 p l e R s m args below meth c T h k n)  (hd : decode bs pc = .ok (.dconst 1, 1)) (hp : pc + 1 = pc') (q : Gl p e below P (T.setTop (mkF m pc' L (.double FP.dconst1 :: S)))) : Gl p e below P (T.setTop (mkF m pc L S)) := by
  obtain ⟨locs, X, eT, N, hn0, hx, hZ, hown, hby, hml, hrt, hlk⟩ := Y
  subst hp
  exact q.of1 fun t q => XS.dconst1 X.here hx rfl (hb hby hd) rfl q
theorem Gl.aload (Y : Sd Z own bs mx ret n0 p l e R s m args below meth c T h k n) {i : Nat} {v : Value} (hl : L[i]? = some (.val v)) (hv : v.isRef = true) (hd : decode bs pc = .ok (.aload i, 2)) (hp : pc + 2 = pc') (q : Gl p e below P (T.setTop (mkF m pc' L (v :: S)))) : Gl p e below P (T.setTop (mkF m pc L S)) := by
  obtain ⟨locs, X, eT, N, hn0, hx, hZ, hown, hby, hml, hrt, hlk⟩ := Y
  subst hp
  exact q.of1 fun t q => XS.aload X.here hx rfl (hb hby hd) hl hv q
theorem Gl.aloadN (Y : Sd Z own bs mx ret n0 p l e R s m args below meth c T h k n) {i : Fin 4} {v : Value} (hl : L[i.val]? = some (.val v)) (hv : v.isRef = true) (hd : decode bs pc = .ok (.aload_n i, 1)) (hp : pc + 1 = pc') (q : Gl p e below P (T.setTop (mkF m pc' L (v :: S)))) : Gl p e below P (T.setTop (mkF m pc L S)) := by
  obtain ⟨locs, X, eT, N, hn0, hx, hZ, hown, hby, hml, hrt, hlk⟩ := Y
  subst hp
  exact q.of1 fun t q => XS.aloadN X.here hx rfl (hb hby hd) hl hv q
theorem Gl.istore (Y : Sd Z own bs mx ret n0 p l e R s m args below meth c T h k n) {i : Nat} {v : Int32} {L' : Array Slot} (hl : storeLocals L i (.int v) = some L') (hd : decode bs pc = .ok (.istore i, 2)) (hp : pc + 2 = pc') (q : Gl p e below P (T.setTop (mkF m pc' L' S))) : Gl p e below P (T.setTop (mkF m pc L (.int v :: S))) := by
  obtain ⟨locs, X, eT, N, hn0, hx, hZ, hown, hby, hml, hrt, hlk⟩ := Y
  subst hp
  exact q.of1 fun t q => XS.istore X.here hx rfl (hb hby hd) rfl hl q
theorem Gl.istoreN (Y : Sd Z own bs mx ret n0 p l e R s m args below meth c T h k n) {i : Fin 4} {v : Int32} {L' : Array Slot} (hl : storeLocals L i.val (.int v) = some L') (hd : decode bs pc = .ok (.istore_n i, 1)) (hp : pc + 1 = pc') (q : Gl p e below P (T.setTop (mkF m pc' L' S))) : Gl p e below P (T.setTop (mkF m pc L (.int v :: S))) := by
  obtain ⟨locs, X, eT, N, hn0, hx, hZ, hown, hby, hml, hrt, hlk⟩ := Y
  subst hp
  exact q.of1 fun t q => XS.istoreN X.here hx rfl (hb hby hd) rfl hl q
theorem Gl.lstore (Y : Sd Z own bs mx ret n0 p l e R s m args below meth c T h k n) {i : Nat} {v : Int64} {L' : Array Slot} (hl : storeLocals L i (.long v) = some L') (hd : decode bs pc = .ok (.lstore i, 2)) (hp : pc + 2 = pc') (q : Gl p e below P (T.setTop (mkF m pc' L' S))) : Gl p e below P (T.setTop (mkF m pc L (.long v :: S))) := by
  obtain ⟨locs, X, eT, N, hn0, hx, hZ, hown, hby, hml, hrt, hlk⟩ := Y
  subst hp
  exact q.of1 fun t q => XS.lstore X.here hx rfl (hb hby hd) rfl hl q
theorem Gl.lstoreN (Y : Sd Z own bs mx ret n0 p l e R s m args below meth c T h k n) {i : Fin 4} {v : Int64} {L' : Array Slot} (hl : storeLocals L i.val (.long v) = some L') (hd : decode bs pc = .ok (.lstore_n i, 1)) (hp : pc + 1 = pc') (q : Gl p e below P (T.setTop (mkF m pc' L' S))) : Gl p e below P (T.setTop (mkF m pc L (.long v :: S))) := by
  obtain ⟨locs, X, eT, N, hn0, hx, hZ, hown, hby, hml, hrt, hlk⟩ := Y
  subst hp
  exact q.of1 fun t q => XS.lstoreN X.here hx rfl (hb hby hd) rfl hl q
theorem Gl.astore (Y : Sd Z own bs mx ret n0 p l e R s m args below meth c T h k n) {i : Nat} {v : Value} (hv : v.isRef = true) {L' : Array Slot} (hl : storeLocals L i (v) = some L') (hd : decode bs pc = .ok (.astore i, 2)) (hp : pc + 2 = pc') (q : Gl p e below P (T.setTop (mkF m pc' L' S))) : Gl p e below P (T.setTop (mkF m pc L (v :: S))) := by
  obtain ⟨locs, X, eT, N, hn0, hx, hZ, hown, hby, hml, hrt, hlk⟩ := Y
  subst hp
  exact q.of1 fun t q => XS.astore X.here hx rfl (hb hby hd) rfl hv hl q
theorem Gl.astoreN (Y : Sd Z own bs mx ret n0 p l e R s m args below meth c T h k n) {i : Fin 4} {v : Value} (hv : v.isRef = true) {L' : Array Slot} (hl : storeLocals L i.val (v) = some L') (hd : decode bs pc = .ok (.astore_n i, 1)) (hp : pc + 1 = pc') (q : Gl p e below P (T.setTop (mkF m pc' L' S))) : Gl p e below P (T.setTop (mkF m pc L (v :: S))) := by
  obtain ⟨locs, X, eT, N, hn0, hx, hZ, hown, hby, hml, hrt, hlk⟩ := Y
  subst hp
  exact q.of1 fun t q => XS.astoreN X.here hx rfl (hb hby hd) rfl hv hl q
theorem Gl.iinc (Y : Sd Z own bs mx ret n0 p l e R s m args below meth c T h k n) {i : Nat} {cst : Int} {x r : Int32} {L' : Array Slot} (hl : L[i]? = some (.val (.int x))) (hr : x + Int32.ofInt cst = r) (hl' : storeLocals L i (.int r) = some L') (hd : decode bs pc = .ok (.iinc i cst, 3)) (hp : pc + 3 = pc') (q : Gl p e below P (T.setTop (mkF m pc' L' S))) : Gl p e below P (T.setTop (mkF m pc L S)) := by
  obtain ⟨locs, X, eT, N, hn0, hx, hZ, hown, hby, hml, hrt, hlk⟩ := Y
  subst hp
  exact q.of1 fun t q => XS.iinc X.here hx rfl (hb hby hd) hl (by rw [hr]; exact hl') q
theorem Gl.dup (Y : Sd Z own bs mx ret n0 p l e R s m args below meth c T h k n) {x : Value} (hc : x.category = 1) (hd : decode bs pc = .ok (.dup, 1)) (hp : pc + 1 = pc') (q : Gl p e below P (T.setTop (mkF m pc' L (x :: x :: S)))) : Gl p e below P (T.setTop (mkF m pc L (x :: S))) := by
  obtain ⟨locs, X, eT, N, hn0, hx, hZ, hown, hby, hml, hrt, hlk⟩ := Y
  subst hp
  exact q.of1 fun t q => XS.dup X.here hx rfl (hb hby hd) rfl hc q
theorem Gl.pop (Y : Sd Z own bs mx ret n0 p l e R s m args below meth c T h k n) {x : Value} (hc : x.category = 1) (hd : decode bs pc = .ok (.pop, 1)) (hp : pc + 1 = pc') (q : Gl p e below P (T.setTop (mkF m pc' L S))) : Gl p e below P (T.setTop (mkF m pc L (x :: S))) := by
  obtain ⟨locs, X, eT, N, hn0, hx, hZ, hown, hby, hml, hrt, hlk⟩ := Y
  subst hp
  exact q.of1 fun t q => XS.pop X.here hx rfl (hb hby hd) rfl hc q
theorem Gl.dupX1 (Y : Sd Z own bs mx ret n0 p l e R s m args below meth c T h k n) {x y : Value} (hc : x.category = 1) (hc' : y.category = 1) (hd : decode bs pc = .ok (.dup_x1, 1)) (hp : pc + 1 = pc') (q : Gl p e below P (T.setTop (mkF m pc' L (x :: y :: x :: S)))) : Gl p e below P (T.setTop (mkF m pc L (x :: y :: S))) := by
  obtain ⟨locs, X, eT, N, hn0, hx, hZ, hown, hby, hml, hrt, hlk⟩ := Y
  subst hp
  exact q.of1 fun t q => XS.dupX1 X.here hx rfl (hb hby hd) rfl hc hc' q
theorem Gl.lcmp (Y : Sd Z own bs mx ret n0 p l e R s m args below meth c T h k n) {x y : Int64} {r : Int32} (hr : lcmpW x y = r) (hd : decode bs pc = .ok (.lcmp, 1)) (hp : pc + 1 = pc') (q : Gl p e below P (T.setTop (mkF m pc' L (.int r :: S)))) : Gl p e below P (T.setTop (mkF m pc L (.long y :: .long x :: S))) := by
  obtain ⟨locs, X, eT, N, hn0, hx, hZ, hown, hby, hml, hrt, hlk⟩ := Y
  subst hp hr
  exact q.of1 fun t q => XS.lcmp X.here hx rfl (hb hby hd) rfl q
theorem Gl.arraylength (Y : Sd Z own bs mx ret n0 p l e R s m args below meth c T h k n) {a : Addr} {ck : ClassId} {ty : FieldType} {z : Int32} {vs : List Value} {d : Value} (F : Arv Z h a ck ty z vs d) (hd : decode bs pc = .ok (.arraylength, 1)) (hp : pc + 1 = pc') (q : Gl p e below P (T.setTop (mkF m pc' L (.int z :: S)))) : Gl p e below P (T.setTop (mkF m pc L (.ref a :: S))) := by
  obtain ⟨locs, X, eT, N, hn0, hx, hZ, hown, hby, hml, hrt, hlk⟩ := Y
  subst hp
  exact q.of1 fun t q => by
    obtain ⟨cl, A, -, S1, N1, -⟩ := F
    exact X.arraylength hx (by rw [eT]; exact A.1) (State.isArrayOf_alike hZ.alike A.2.1) (g := mkF m pc L (.ref a :: S)) rfl rfl (hb hby hd) t (by rw [len_of S1 N1]; exact q)
theorem Gl.iaload (Y : Sd Z own bs mx ret n0 p l e R s m args below meth c T h k n) {a : Addr} {ck : ClassId} {z j : Int32} {vs : List Value} {d v : Value} (F : Arv Z h a ck .int z vs d) (hj : ¬ j < 0 ∧ j < z) (hv : vs.getD j.toNatClampNeg d = v) (hd : decode bs pc = .ok (.iaload, 1)) (hp : pc + 1 = pc') (q : Gl p e below P (T.setTop (mkF m pc' L (v :: S)))) : Gl p e below P (T.setTop (mkF m pc L (.int j :: .ref a :: S))) := by
  obtain ⟨locs, X, eT, N, hn0, hx, hZ, hown, hby, hml, hrt, hlk⟩ := Y
  subst hp
  exact q.of1 fun t q => by
    obtain ⟨cl, A, -, S1, N1, H, -⟩ := F
    exact X.iaload hx (by rw [eT]; exact A.1) (State.isArrayOf_alike hZ.alike A.2.1) A.2.2 (inb_of S1 hj) (H.at (inb_of S1 hj) hv) (g := mkF m pc L (.int j :: .ref a :: S)) rfl rfl (hb hby hd) t q
theorem Gl.laload (Y : Sd Z own bs mx ret n0 p l e R s m args below meth c T h k n) {a : Addr} {ck : ClassId} {z j : Int32} {vs : List Value} {d v : Value} (F : Arv Z h a ck .long z vs d) (hj : ¬ j < 0 ∧ j < z) (hv : vs.getD j.toNatClampNeg d = v) (hd : decode bs pc = .ok (.laload, 1)) (hp : pc + 1 = pc') (q : Gl p e below P (T.setTop (mkF m pc' L (v :: S)))) : Gl p e below P (T.setTop (mkF m pc L (.int j :: .ref a :: S))) := by
  obtain ⟨locs, X, eT, N, hn0, hx, hZ, hown, hby, hml, hrt, hlk⟩ := Y
  subst hp
  exact q.of1 fun t q => by
    obtain ⟨cl, A, -, S1, N1, H, -⟩ := F
    exact X.laload hx (by rw [eT]; exact A.1) (State.isArrayOf_alike hZ.alike A.2.1) A.2.2 (inb_of S1 hj) (H.at (inb_of S1 hj) hv) (g := mkF m pc L (.int j :: .ref a :: S)) rfl rfl (hb hby hd) t q
theorem Gl.caload (Y : Sd Z own bs mx ret n0 p l e R s m args below meth c T h k n) {a : Addr} {ck : ClassId} {z j : Int32} {vs : List Value} {d v : Value} (F : Arv Z h a ck .char z vs d) (hj : ¬ j < 0 ∧ j < z) (hv : vs.getD j.toNatClampNeg d = v) (hd : decode bs pc = .ok (.caload, 1)) (hp : pc + 1 = pc') (q : Gl p e below P (T.setTop (mkF m pc' L (v :: S)))) : Gl p e below P (T.setTop (mkF m pc L (.int j :: .ref a :: S))) := by
  obtain ⟨locs, X, eT, N, hn0, hx, hZ, hown, hby, hml, hrt, hlk⟩ := Y
  subst hp
  exact q.of1 fun t q => by
    obtain ⟨cl, A, -, S1, N1, H, -⟩ := F
    exact X.caload hx (by rw [eT]; exact A.1) (State.isArrayOf_alike hZ.alike A.2.1) A.2.2 (inb_of S1 hj) (H.at (inb_of S1 hj) hv) (g := mkF m pc L (.int j :: .ref a :: S)) rfl rfl (hb hby hd) t q
theorem Gl.saload (Y : Sd Z own bs mx ret n0 p l e R s m args below meth c T h k n) {a : Addr} {ck : ClassId} {z j : Int32} {vs : List Value} {d v : Value} (F : Arv Z h a ck .short z vs d) (hj : ¬ j < 0 ∧ j < z) (hv : vs.getD j.toNatClampNeg d = v) (hd : decode bs pc = .ok (.saload, 1)) (hp : pc + 1 = pc') (q : Gl p e below P (T.setTop (mkF m pc' L (v :: S)))) : Gl p e below P (T.setTop (mkF m pc L (.int j :: .ref a :: S))) := by
  obtain ⟨locs, X, eT, N, hn0, hx, hZ, hown, hby, hml, hrt, hlk⟩ := Y
  subst hp
  exact q.of1 fun t q => by
    obtain ⟨cl, A, -, S1, N1, H, -⟩ := F
    exact X.saload hx (by rw [eT]; exact A.1) (State.isArrayOf_alike hZ.alike A.2.1) A.2.2 (inb_of S1 hj) (H.at (inb_of S1 hj) hv) (g := mkF m pc L (.int j :: .ref a :: S)) rfl rfl (hb hby hd) t q
theorem Gl.baload (Y : Sd Z own bs mx ret n0 p l e R s m args below meth c T h k n) {a : Addr} {ck : ClassId} {z j : Int32} {vs : List Value} {d v : Value} (F : Arv Z h a ck .byte z vs d) (hj : ¬ j < 0 ∧ j < z) (hv : vs.getD j.toNatClampNeg d = v) (hd : decode bs pc = .ok (.baload, 1)) (hp : pc + 1 = pc') (q : Gl p e below P (T.setTop (mkF m pc' L (v :: S)))) : Gl p e below P (T.setTop (mkF m pc L (.int j :: .ref a :: S))) := by
  obtain ⟨locs, X, eT, N, hn0, hx, hZ, hown, hby, hml, hrt, hlk⟩ := Y
  subst hp
  exact q.of1 fun t q => by
    obtain ⟨cl, A, -, S1, N1, H, -⟩ := F
    exact X.baloadBytes hx (by rw [eT]; exact A.1) (State.isArrayOf_alike hZ.alike A.2.1) A.2.2 (inb_of S1 hj) (H.at (inb_of S1 hj) hv) (g := mkF m pc L (.int j :: .ref a :: S)) rfl rfl (hb hby hd) t q
theorem Gl.goto (Y : Sd Z own bs mx ret n0 p l e R s m args below meth c T h k n) {o : Int} (hd : decode bs pc = .ok (.goto o, 3)) (ho : 0 ≤ (pc : Int) + o) (hp : ((pc : Int) + o).toNat = pc') (q : Gl p e below P (T.setTop (mkF m pc' L S))) : Gl p e below P (T.setTop (mkF m pc L S)) := by
  obtain ⟨locs, X, eT, N, hn0, hx, hZ, hown, hby, hml, hrt, hlk⟩ := Y
  exact q.of1 fun t q => XS.goto X.here hx rfl rfl (hb hby hd) ho hp q
theorem Gl.ifeq (Y : Sd Z own bs mx ret n0 p l e R s m args below meth c T h k n) {x : Int32} {o : Int} (hd : decode bs pc = .ok (.ifCond .eq o, 3)) (ho : 0 ≤ (pc : Int) + o) (ht : ((pc : Int) + o).toNat = pcT) (hf : pc + 3 = pcF) (q1 : x = 0 → Gl p e below P (T.setTop (mkF m pcT L S))) (q2 : ¬ x = 0 → Gl p e below P (T.setTop (mkF m pcF L S))) : Gl p e below P (T.setTop (mkF m pc L (.int x :: S))) := by
  obtain ⟨locs, X, eT, N, hn0, hx, hZ, hown, hby, hml, hrt, hlk⟩ := Y
  by_cases hq : x = 0
  · exact (q1 hq).of1 fun t q => XS.ifYes X.here hx rfl rfl (hb hby hd) rfl (Jvm.Free.XT.i0_eq_t hq) ho ht q
  · subst hf
    exact (q2 (by first | exact hq | exact Decidable.not_not.mp hq)).of1 fun t q => XS.ifNo X.here hx rfl (hb hby hd) rfl (Jvm.Free.XT.i0_eq_f (by first | exact hq | exact Decidable.not_not.mp hq)) q
theorem Gl.icmpeq (Y : Sd Z own bs mx ret n0 p l e R s m args below meth c T h k n) {x y : Int32} {o : Int} (hd : decode bs pc = .ok (.if_icmp .eq o, 3)) (ho : 0 ≤ (pc : Int) + o) (ht : ((pc : Int) + o).toNat = pcT) (hf : pc + 3 = pcF) (q1 : x = y → Gl p e below P (T.setTop (mkF m pcT L S))) (q2 : ¬ x = y → Gl p e below P (T.setTop (mkF m pcF L S))) : Gl p e below P (T.setTop (mkF m pc L (.int y :: .int x :: S))) := by
  obtain ⟨locs, X, eT, N, hn0, hx, hZ, hown, hby, hml, hrt, hlk⟩ := Y
  by_cases hq : x = y
  · exact (q1 hq).of1 fun t q => XS.icmpYes X.here hx rfl rfl (hb hby hd) rfl (Jvm.Free.XT.ii_eq_t hq) ho ht q
  · subst hf
    exact (q2 (by first | exact hq | exact Decidable.not_not.mp hq)).of1 fun t q => XS.icmpNo X.here hx rfl (hb hby hd) rfl (Jvm.Free.XT.ii_eq_f (by first | exact hq | exact Decidable.not_not.mp hq)) q
theorem Gl.lcmpeq (Y : Sd Z own bs mx ret n0 p l e R s m args below meth c T h k n) {x y : Int64} {pc1 : Nat} {o : Int} (hd0 : decode bs pc = .ok (.lcmp, 1)) (hp1 : pc + 1 = pc1) (hd : decode bs pc1 = .ok (.ifCond .eq o, 3)) (ho : 0 ≤ (pc1 : Int) + o) (ht : ((pc1 : Int) + o).toNat = pcT) (hf : pc1 + 3 = pcF) (q1 : x = y → Gl p e below P (T.setTop (mkF m pcT L S))) (q2 : ¬ x = y → Gl p e below P (T.setTop (mkF m pcF L S))) : Gl p e below P (T.setTop (mkF m pc L (.long y :: .long x :: S))) := by
  refine Gl.lcmp Y rfl hd0 hp1 ?_
  obtain ⟨locs, X, eT, N, hn0, hx, hZ, hown, hby, hml, hrt, hlk⟩ := Y
  by_cases hq : x = y
  · exact (q1 hq).of1 fun t q => XS.ifYes X.here hx rfl rfl (hb hby hd) rfl (Jvm.Free.XT.ll_eq_t hq) ho ht q
  · subst hf
    exact (q2 (by first | exact hq | exact Decidable.not_not.mp hq)).of1 fun t q => XS.ifNo X.here hx rfl (hb hby hd) rfl (Jvm.Free.XT.ll_eq_f (by first | exact hq | exact Decidable.not_not.mp hq)) q
theorem Gl.ifne (Y : Sd Z own bs mx ret n0 p l e R s m args below meth c T h k n) {x : Int32} {o : Int} (hd : decode bs pc = .ok (.ifCond .ne o, 3)) (ho : 0 ≤ (pc : Int) + o) (ht : ((pc : Int) + o).toNat = pcT) (hf : pc + 3 = pcF) (q1 : ¬ x = 0 → Gl p e below P (T.setTop (mkF m pcT L S))) (q2 : x = 0 → Gl p e below P (T.setTop (mkF m pcF L S))) : Gl p e below P (T.setTop (mkF m pc L (.int x :: S))) := by
  obtain ⟨locs, X, eT, N, hn0, hx, hZ, hown, hby, hml, hrt, hlk⟩ := Y
  by_cases hq : ¬ x = 0
  · exact (q1 hq).of1 fun t q => XS.ifYes X.here hx rfl rfl (hb hby hd) rfl (Jvm.Free.XT.i0_ne_t hq) ho ht q
  · subst hf
    exact (q2 (by first | exact hq | exact Decidable.not_not.mp hq)).of1 fun t q => XS.ifNo X.here hx rfl (hb hby hd) rfl (Jvm.Free.XT.i0_ne_f (by first | exact hq | exact Decidable.not_not.mp hq)) q
theorem Gl.icmpne (Y : Sd Z own bs mx ret n0 p l e R s m args below meth c T h k n) {x y : Int32} {o : Int} (hd : decode bs pc = .ok (.if_icmp .ne o, 3)) (ho : 0 ≤ (pc : Int) + o) (ht : ((pc : Int) + o).toNat = pcT) (hf : pc + 3 = pcF) (q1 : ¬ x = y → Gl p e below P (T.setTop (mkF m pcT L S))) (q2 : x = y → Gl p e below P (T.setTop (mkF m pcF L S))) : Gl p e below P (T.setTop (mkF m pc L (.int y :: .int x :: S))) := by
  obtain ⟨locs, X, eT, N, hn0, hx, hZ, hown, hby, hml, hrt, hlk⟩ := Y
  by_cases hq : ¬ x = y
  · exact (q1 hq).of1 fun t q => XS.icmpYes X.here hx rfl rfl (hb hby hd) rfl (Jvm.Free.XT.ii_ne_t hq) ho ht q
  · subst hf
    exact (q2 (by first | exact hq | exact Decidable.not_not.mp hq)).of1 fun t q => XS.icmpNo X.here hx rfl (hb hby hd) rfl (Jvm.Free.XT.ii_ne_f (by first | exact hq | exact Decidable.not_not.mp hq)) q
theorem Gl.lcmpne (Y : Sd Z own bs mx ret n0 p l e R s m args below meth c T h k n) {x y : Int64} {pc1 : Nat} {o : Int} (hd0 : decode bs pc = .ok (.lcmp, 1)) (hp1 : pc + 1 = pc1) (hd : decode bs pc1 = .ok (.ifCond .ne o, 3)) (ho : 0 ≤ (pc1 : Int) + o) (ht : ((pc1 : Int) + o).toNat = pcT) (hf : pc1 + 3 = pcF) (q1 : ¬ x = y → Gl p e below P (T.setTop (mkF m pcT L S))) (q2 : x = y → Gl p e below P (T.setTop (mkF m pcF L S))) : Gl p e below P (T.setTop (mkF m pc L (.long y :: .long x :: S))) := by
  refine Gl.lcmp Y rfl hd0 hp1 ?_
  obtain ⟨locs, X, eT, N, hn0, hx, hZ, hown, hby, hml, hrt, hlk⟩ := Y
  by_cases hq : ¬ x = y
  · exact (q1 hq).of1 fun t q => XS.ifYes X.here hx rfl rfl (hb hby hd) rfl (Jvm.Free.XT.ll_ne_t hq) ho ht q
  · subst hf
    exact (q2 (by first | exact hq | exact Decidable.not_not.mp hq)).of1 fun t q => XS.ifNo X.here hx rfl (hb hby hd) rfl (Jvm.Free.XT.ll_ne_f (by first | exact hq | exact Decidable.not_not.mp hq)) q
theorem Gl.iflt (Y : Sd Z own bs mx ret n0 p l e R s m args below meth c T h k n) {x : Int32} {o : Int} (hd : decode bs pc = .ok (.ifCond .lt o, 3)) (ho : 0 ≤ (pc : Int) + o) (ht : ((pc : Int) + o).toNat = pcT) (hf : pc + 3 = pcF) (q1 : x < 0 → Gl p e below P (T.setTop (mkF m pcT L S))) (q2 : ¬ x < 0 → Gl p e below P (T.setTop (mkF m pcF L S))) : Gl p e below P (T.setTop (mkF m pc L (.int x :: S))) := by
  obtain ⟨locs, X, eT, N, hn0, hx, hZ, hown, hby, hml, hrt, hlk⟩ := Y
  by_cases hq : x < 0
  · exact (q1 hq).of1 fun t q => XS.ifYes X.here hx rfl rfl (hb hby hd) rfl (Jvm.Free.XT.i0_lt_t hq) ho ht q
  · subst hf
    exact (q2 (by first | exact hq | exact Decidable.not_not.mp hq)).of1 fun t q => XS.ifNo X.here hx rfl (hb hby hd) rfl (Jvm.Free.XT.i0_lt_f (by first | exact hq | exact Decidable.not_not.mp hq)) q
theorem Gl.icmplt (Y : Sd Z own bs mx ret n0 p l e R s m args below meth c T h k n) {x y : Int32} {o : Int} (hd : decode bs pc = .ok (.if_icmp .lt o, 3)) (ho : 0 ≤ (pc : Int) + o) (ht : ((pc : Int) + o).toNat = pcT) (hf : pc + 3 = pcF) (q1 : x < y → Gl p e below P (T.setTop (mkF m pcT L S))) (q2 : ¬ x < y → Gl p e below P (T.setTop (mkF m pcF L S))) : Gl p e below P (T.setTop (mkF m pc L (.int y :: .int x :: S))) := by
  obtain ⟨locs, X, eT, N, hn0, hx, hZ, hown, hby, hml, hrt, hlk⟩ := Y
  by_cases hq : x < y
  · exact (q1 hq).of1 fun t q => XS.icmpYes X.here hx rfl rfl (hb hby hd) rfl (Jvm.Free.XT.ii_lt_t hq) ho ht q
  · subst hf
    exact (q2 (by first | exact hq | exact Decidable.not_not.mp hq)).of1 fun t q => XS.icmpNo X.here hx rfl (hb hby hd) rfl (Jvm.Free.XT.ii_lt_f (by first | exact hq | exact Decidable.not_not.mp hq)) q
theorem Gl.lcmplt (Y : Sd Z own bs mx ret n0 p l e R s m args below meth c T h k n) {x y : Int64} {pc1 : Nat} {o : Int} (hd0 : decode bs pc = .ok (.lcmp, 1)) (hp1 : pc + 1 = pc1) (hd : decode bs pc1 = .ok (.ifCond .lt o, 3)) (ho : 0 ≤ (pc1 : Int) + o) (ht : ((pc1 : Int) + o).toNat = pcT) (hf : pc1 + 3 = pcF) (q1 : x < y → Gl p e below P (T.setTop (mkF m pcT L S))) (q2 : ¬ x < y → Gl p e below P (T.setTop (mkF m pcF L S))) : Gl p e below P (T.setTop (mkF m pc L (.long y :: .long x :: S))) := by
  refine Gl.lcmp Y rfl hd0 hp1 ?_
  obtain ⟨locs, X, eT, N, hn0, hx, hZ, hown, hby, hml, hrt, hlk⟩ := Y
  by_cases hq : x < y
  · exact (q1 hq).of1 fun t q => XS.ifYes X.here hx rfl rfl (hb hby hd) rfl (Jvm.Free.XT.ll_lt_t hq) ho ht q
  · subst hf
    exact (q2 (by first | exact hq | exact Decidable.not_not.mp hq)).of1 fun t q => XS.ifNo X.here hx rfl (hb hby hd) rfl (Jvm.Free.XT.ll_lt_f (by first | exact hq | exact Decidable.not_not.mp hq)) q
theorem Gl.ifge (Y : Sd Z own bs mx ret n0 p l e R s m args below meth c T h k n) {x : Int32} {o : Int} (hd : decode bs pc = .ok (.ifCond .ge o, 3)) (ho : 0 ≤ (pc : Int) + o) (ht : ((pc : Int) + o).toNat = pcT) (hf : pc + 3 = pcF) (q1 : ¬ x < 0 → Gl p e below P (T.setTop (mkF m pcT L S))) (q2 : x < 0 → Gl p e below P (T.setTop (mkF m pcF L S))) : Gl p e below P (T.setTop (mkF m pc L (.int x :: S))) := by
  obtain ⟨locs, X, eT, N, hn0, hx, hZ, hown, hby, hml, hrt, hlk⟩ := Y
  by_cases hq : ¬ x < 0
  · exact (q1 hq).of1 fun t q => XS.ifYes X.here hx rfl rfl (hb hby hd) rfl (Jvm.Free.XT.i0_ge_t hq) ho ht q
  · subst hf
    exact (q2 (by first | exact hq | exact Decidable.not_not.mp hq)).of1 fun t q => XS.ifNo X.here hx rfl (hb hby hd) rfl (Jvm.Free.XT.i0_ge_f (by first | exact hq | exact Decidable.not_not.mp hq)) q
theorem Gl.icmpge (Y : Sd Z own bs mx ret n0 p l e R s m args below meth c T h k n) {x y : Int32} {o : Int} (hd : decode bs pc = .ok (.if_icmp .ge o, 3)) (ho : 0 ≤ (pc : Int) + o) (ht : ((pc : Int) + o).toNat = pcT) (hf : pc + 3 = pcF) (q1 : ¬ x < y → Gl p e below P (T.setTop (mkF m pcT L S))) (q2 : x < y → Gl p e below P (T.setTop (mkF m pcF L S))) : Gl p e below P (T.setTop (mkF m pc L (.int y :: .int x :: S))) := by
  obtain ⟨locs, X, eT, N, hn0, hx, hZ, hown, hby, hml, hrt, hlk⟩ := Y
  by_cases hq : ¬ x < y
  · exact (q1 hq).of1 fun t q => XS.icmpYes X.here hx rfl rfl (hb hby hd) rfl (Jvm.Free.XT.ii_ge_t hq) ho ht q
  · subst hf
    exact (q2 (by first | exact hq | exact Decidable.not_not.mp hq)).of1 fun t q => XS.icmpNo X.here hx rfl (hb hby hd) rfl (Jvm.Free.XT.ii_ge_f (by first | exact hq | exact Decidable.not_not.mp hq)) q
theorem Gl.lcmpge (Y : Sd Z own bs mx ret n0 p l e R s m args below meth c T h k n) {x y : Int64} {pc1 : Nat} {o : Int} (hd0 : decode bs pc = .ok (.lcmp, 1)) (hp1 : pc + 1 = pc1) (hd : decode bs pc1 = .ok (.ifCond .ge o, 3)) (ho : 0 ≤ (pc1 : Int) + o) (ht : ((pc1 : Int) + o).toNat = pcT) (hf : pc1 + 3 = pcF) (q1 : ¬ x < y → Gl p e below P (T.setTop (mkF m pcT L S))) (q2 : x < y → Gl p e below P (T.setTop (mkF m pcF L S))) : Gl p e below P (T.setTop (mkF m pc L (.long y :: .long x :: S))) := by
  refine Gl.lcmp Y rfl hd0 hp1 ?_
  obtain ⟨locs, X, eT, N, hn0, hx, hZ, hown, hby, hml, hrt, hlk⟩ := Y
  by_cases hq : ¬ x < y
  · exact (q1 hq).of1 fun t q => XS.ifYes X.here hx rfl rfl (hb hby hd) rfl (Jvm.Free.XT.ll_ge_t hq) ho ht q
  · subst hf
    exact (q2 (by first | exact hq | exact Decidable.not_not.mp hq)).of1 fun t q => XS.ifNo X.here hx rfl (hb hby hd) rfl (Jvm.Free.XT.ll_ge_f (by first | exact hq | exact Decidable.not_not.mp hq)) q
theorem Gl.ifgt (Y : Sd Z own bs mx ret n0 p l e R s m args below meth c T h k n) {x : Int32} {o : Int} (hd : decode bs pc = .ok (.ifCond .gt o, 3)) (ho : 0 ≤ (pc : Int) + o) (ht : ((pc : Int) + o).toNat = pcT) (hf : pc + 3 = pcF) (q1 : 0 < x → Gl p e below P (T.setTop (mkF m pcT L S))) (q2 : ¬ 0 < x → Gl p e below P (T.setTop (mkF m pcF L S))) : Gl p e below P (T.setTop (mkF m pc L (.int x :: S))) := by
  obtain ⟨locs, X, eT, N, hn0, hx, hZ, hown, hby, hml, hrt, hlk⟩ := Y
  by_cases hq : 0 < x
  · exact (q1 hq).of1 fun t q => XS.ifYes X.here hx rfl rfl (hb hby hd) rfl (Jvm.Free.XT.i0_gt_t hq) ho ht q
  · subst hf
    exact (q2 (by first | exact hq | exact Decidable.not_not.mp hq)).of1 fun t q => XS.ifNo X.here hx rfl (hb hby hd) rfl (Jvm.Free.XT.i0_gt_f (by first | exact hq | exact Decidable.not_not.mp hq)) q
theorem Gl.icmpgt (Y : Sd Z own bs mx ret n0 p l e R s m args below meth c T h k n) {x y : Int32} {o : Int} (hd : decode bs pc = .ok (.if_icmp .gt o, 3)) (ho : 0 ≤ (pc : Int) + o) (ht : ((pc : Int) + o).toNat = pcT) (hf : pc + 3 = pcF) (q1 : y < x → Gl p e below P (T.setTop (mkF m pcT L S))) (q2 : ¬ y < x → Gl p e below P (T.setTop (mkF m pcF L S))) : Gl p e below P (T.setTop (mkF m pc L (.int y :: .int x :: S))) := by
  obtain ⟨locs, X, eT, N, hn0, hx, hZ, hown, hby, hml, hrt, hlk⟩ := Y
  by_cases hq : y < x
  · exact (q1 hq).of1 fun t q => XS.icmpYes X.here hx rfl rfl (hb hby hd) rfl (Jvm.Free.XT.ii_gt_t hq) ho ht q
  · subst hf
    exact (q2 (by first | exact hq | exact Decidable.not_not.mp hq)).of1 fun t q => XS.icmpNo X.here hx rfl (hb hby hd) rfl (Jvm.Free.XT.ii_gt_f (by first | exact hq | exact Decidable.not_not.mp hq)) q
theorem Gl.lcmpgt (Y : Sd Z own bs mx ret n0 p l e R s m args below meth c T h k n) {x y : Int64} {pc1 : Nat} {o : Int} (hd0 : decode bs pc = .ok (.lcmp, 1)) (hp1 : pc + 1 = pc1) (hd : decode bs pc1 = .ok (.ifCond .gt o, 3)) (ho : 0 ≤ (pc1 : Int) + o) (ht : ((pc1 : Int) + o).toNat = pcT) (hf : pc1 + 3 = pcF) (q1 : y < x → Gl p e below P (T.setTop (mkF m pcT L S))) (q2 : ¬ y < x → Gl p e below P (T.setTop (mkF m pcF L S))) : Gl p e below P (T.setTop (mkF m pc L (.long y :: .long x :: S))) := by
  refine Gl.lcmp Y rfl hd0 hp1 ?_
  obtain ⟨locs, X, eT, N, hn0, hx, hZ, hown, hby, hml, hrt, hlk⟩ := Y
  by_cases hq : y < x
  · exact (q1 hq).of1 fun t q => XS.ifYes X.here hx rfl rfl (hb hby hd) rfl (Jvm.Free.XT.ll_gt_t hq) ho ht q
  · subst hf
    exact (q2 (by first | exact hq | exact Decidable.not_not.mp hq)).of1 fun t q => XS.ifNo X.here hx rfl (hb hby hd) rfl (Jvm.Free.XT.ll_gt_f (by first | exact hq | exact Decidable.not_not.mp hq)) q
theorem Gl.ifle (Y : Sd Z own bs mx ret n0 p l e R s m args below meth c T h k n) {x : Int32} {o : Int} (hd : decode bs pc = .ok (.ifCond .le o, 3)) (ho : 0 ≤ (pc : Int) + o) (ht : ((pc : Int) + o).toNat = pcT) (hf : pc + 3 = pcF) (q1 : ¬ 0 < x → Gl p e below P (T.setTop (mkF m pcT L S))) (q2 : 0 < x → Gl p e below P (T.setTop (mkF m pcF L S))) : Gl p e below P (T.setTop (mkF m pc L (.int x :: S))) := by
  obtain ⟨locs, X, eT, N, hn0, hx, hZ, hown, hby, hml, hrt, hlk⟩ := Y
  by_cases hq : ¬ 0 < x
  · exact (q1 hq).of1 fun t q => XS.ifYes X.here hx rfl rfl (hb hby hd) rfl (Jvm.Free.XT.i0_le_t hq) ho ht q
  · subst hf
    exact (q2 (by first | exact hq | exact Decidable.not_not.mp hq)).of1 fun t q => XS.ifNo X.here hx rfl (hb hby hd) rfl (Jvm.Free.XT.i0_le_f (by first | exact hq | exact Decidable.not_not.mp hq)) q
theorem Gl.icmple (Y : Sd Z own bs mx ret n0 p l e R s m args below meth c T h k n) {x y : Int32} {o : Int} (hd : decode bs pc = .ok (.if_icmp .le o, 3)) (ho : 0 ≤ (pc : Int) + o) (ht : ((pc : Int) + o).toNat = pcT) (hf : pc + 3 = pcF) (q1 : ¬ y < x → Gl p e below P (T.setTop (mkF m pcT L S))) (q2 : y < x → Gl p e below P (T.setTop (mkF m pcF L S))) : Gl p e below P (T.setTop (mkF m pc L (.int y :: .int x :: S))) := by
  obtain ⟨locs, X, eT, N, hn0, hx, hZ, hown, hby, hml, hrt, hlk⟩ := Y
  by_cases hq : ¬ y < x
  · exact (q1 hq).of1 fun t q => XS.icmpYes X.here hx rfl rfl (hb hby hd) rfl (Jvm.Free.XT.ii_le_t hq) ho ht q
  · subst hf
    exact (q2 (by first | exact hq | exact Decidable.not_not.mp hq)).of1 fun t q => XS.icmpNo X.here hx rfl (hb hby hd) rfl (Jvm.Free.XT.ii_le_f (by first | exact hq | exact Decidable.not_not.mp hq)) q
theorem Gl.lcmple (Y : Sd Z own bs mx ret n0 p l e R s m args below meth c T h k n) {x y : Int64} {pc1 : Nat} {o : Int} (hd0 : decode bs pc = .ok (.lcmp, 1)) (hp1 : pc + 1 = pc1) (hd : decode bs pc1 = .ok (.ifCond .le o, 3)) (ho : 0 ≤ (pc1 : Int) + o) (ht : ((pc1 : Int) + o).toNat = pcT) (hf : pc1 + 3 = pcF) (q1 : ¬ y < x → Gl p e below P (T.setTop (mkF m pcT L S))) (q2 : y < x → Gl p e below P (T.setTop (mkF m pcF L S))) : Gl p e below P (T.setTop (mkF m pc L (.long y :: .long x :: S))) := by
  refine Gl.lcmp Y rfl hd0 hp1 ?_
  obtain ⟨locs, X, eT, N, hn0, hx, hZ, hown, hby, hml, hrt, hlk⟩ := Y
  by_cases hq : ¬ y < x
  · exact (q1 hq).of1 fun t q => XS.ifYes X.here hx rfl rfl (hb hby hd) rfl (Jvm.Free.XT.ll_le_t hq) ho ht q
  · subst hf
    exact (q2 (by first | exact hq | exact Decidable.not_not.mp hq)).of1 fun t q => XS.ifNo X.here hx rfl (hb hby hd) rfl (Jvm.Free.XT.ll_le_f (by first | exact hq | exact Decidable.not_not.mp hq)) q
theorem Gl.ifnullY (Y : Sd Z own bs mx ret n0 p l e R s m args below meth c T h k n)  {o : Int} (hd : decode bs pc = .ok (.ifnull o, 3)) (ho : 0 ≤ (pc : Int) + o) (ht : ((pc : Int) + o).toNat = pcT) (q : Gl p e below P (T.setTop (mkF m pcT L S))) : Gl p e below P (T.setTop (mkF m pc L (.null :: S))) := by
  obtain ⟨locs, X, eT, N, hn0, hx, hZ, hown, hby, hml, hrt, hlk⟩ := Y
  exact q.of1 fun t q => XS.ifnullYes X.here hx rfl rfl (hb hby hd) rfl ho ht q
theorem Gl.ifnullN (Y : Sd Z own bs mx ret n0 p l e R s m args below meth c T h k n) {b : Addr} {o : Int} (hd : decode bs pc = .ok (.ifnull o, 3)) (hf : pc + 3 = pcF) (q : Gl p e below P (T.setTop (mkF m pcF L S))) : Gl p e below P (T.setTop (mkF m pc L (.ref b :: S))) := by
  obtain ⟨locs, X, eT, N, hn0, hx, hZ, hown, hby, hml, hrt, hlk⟩ := Y
  subst hf
  exact q.of1 fun t q => XS.ifnullNo X.here hx rfl (hb hby hd) rfl q
theorem Gl.ifnonnullY (Y : Sd Z own bs mx ret n0 p l e R s m args below meth c T h k n) {b : Addr} {o : Int} (hd : decode bs pc = .ok (.ifnonnull o, 3)) (ho : 0 ≤ (pc : Int) + o) (ht : ((pc : Int) + o).toNat = pcT) (q : Gl p e below P (T.setTop (mkF m pcT L S))) : Gl p e below P (T.setTop (mkF m pc L (.ref b :: S))) := by
  obtain ⟨locs, X, eT, N, hn0, hx, hZ, hown, hby, hml, hrt, hlk⟩ := Y
  exact q.of1 fun t q => XS.ifnonnullYes X.here hx rfl rfl (hb hby hd) rfl ho ht q
theorem Gl.ifnonnullN (Y : Sd Z own bs mx ret n0 p l e R s m args below meth c T h k n)  {o : Int} (hd : decode bs pc = .ok (.ifnonnull o, 3)) (hf : pc + 3 = pcF) (q : Gl p e below P (T.setTop (mkF m pcF L S))) : Gl p e below P (T.setTop (mkF m pc L (.null :: S))) := by
  obtain ⟨locs, X, eT, N, hn0, hx, hZ, hown, hby, hml, hrt, hlk⟩ := Y
  subst hf
  exact q.of1 fun t q => XS.ifnonnullNo X.here hx rfl (hb hby hd) rfl q
theorem Gl.acmpeq (Y : Sd Z own bs mx ret n0 p l e R s m args below meth c T h k n) {x y : Value} {o : Int} (h1 : x.isRef = true) (h2 : y.isRef = true) (hd : decode bs pc = .ok (.if_acmp .eq o, 3)) (ho : 0 ≤ (pc : Int) + o) (ht : ((pc : Int) + o).toNat = pcT) (hf : pc + 3 = pcF) (q1 : x = y → Gl p e below P (T.setTop (mkF m pcT L S))) (q2 : ¬ x = y → Gl p e below P (T.setTop (mkF m pcF L S))) : Gl p e below P (T.setTop (mkF m pc L (y :: x :: S))) := by
  obtain ⟨locs, X, eT, N, hn0, hx, hZ, hown, hby, hml, hrt, hlk⟩ := Y
  subst ht hf
  by_cases hq : x = y
  · exact (q1 hq).of1 fun t q => Jvm.RoadKit.acmp (g := mkF m pc L (y :: x :: S)) X hx rfl h1 h2 (pc0 := pc) (same := true) rfl (hb hby hd) rfl (decide_eq_true hq) ho rfl q
  · exact (q2 hq).of1 fun t q => Jvm.RoadKit.acmp (g := mkF m pc L (y :: x :: S)) X hx rfl h1 h2 (pc0 := pc) (same := false) rfl (hb hby hd) rfl (decide_eq_false hq) ho rfl q
theorem Gl.acmpne (Y : Sd Z own bs mx ret n0 p l e R s m args below meth c T h k n) {x y : Value} {o : Int} (h1 : x.isRef = true) (h2 : y.isRef = true) (hd : decode bs pc = .ok (.if_acmp .ne o, 3)) (ho : 0 ≤ (pc : Int) + o) (ht : ((pc : Int) + o).toNat = pcT) (hf : pc + 3 = pcF) (q1 : ¬ x = y → Gl p e below P (T.setTop (mkF m pcT L S))) (q2 : x = y → Gl p e below P (T.setTop (mkF m pcF L S))) : Gl p e below P (T.setTop (mkF m pc L (y :: x :: S))) := by
  obtain ⟨locs, X, eT, N, hn0, hx, hZ, hown, hby, hml, hrt, hlk⟩ := Y
  subst ht hf
  by_cases hq : x = y
  · exact (q2 hq).of1 fun t q => Jvm.RoadKit.acmp (g := mkF m pc L (y :: x :: S)) X hx rfl h1 h2 (pc0 := pc) (same := true) rfl (hb hby hd) rfl (decide_eq_true hq) ho rfl q
  · exact (q1 hq).of1 fun t q => Jvm.RoadKit.acmp (g := mkF m pc L (y :: x :: S)) X hx rfl h1 h2 (pc0 := pc) (same := false) rfl (hb hby hd) rfl (decide_eq_false hq) ho rfl q
theorem Gl.getF (Y : Sd Z own bs mx ret n0 p l e R s m args below meth c T h k n) {i : Nat} {R0 O f d host : String} {a : Addr} {v : Value} (w : (Jvm.Cond.fieldLink own i R0 f d).before a0 Z = true ∨ (Jvm.Cond.fieldLinkNest own i R0 f d host).before a0 Z = true) (via : Via Z R0 O f d) (F : Fld Z h a O f d v) (hd : decode bs pc = .ok (.getfield i, 3)) (hp : pc + 3 = pc') (q : ∀ T', Sd Z own bs mx ret n0 p l e R s m args below meth c T' h k n → Gl p e below P (T'.setTop (mkF m pc' L (v :: S)))) : Gl p e below P (T.setTop (mkF m pc L (.ref a :: S))) := by
  obtain ⟨locs, X, eT, N, hn0, hx, hZ, hown, hby, hml, hrt, hlk⟩ := Y
  subst hp
  obtain ⟨T', X', e', st⟩ := Jvm.RoadKit.getF X hx hZ hown w via eT F (g := mkF m pc L (.ref a :: S)) rfl rfl (hb hby hd)
  exact (q T' ⟨locs, X', e', N, hn0, hx, hZ, hown, hby, hml, hrt, hlk⟩).of1 st
theorem Gl.getS (Y : Sd Z own bs mx ret n0 p l e R s m args below meth c T h k n) {i : Nat} {R0 O f d host : String} {v : Value} (w : (Jvm.Cond.fieldLink own i R0 f d).before a0 Z = true ∨ (Jvm.Cond.fieldLinkNest own i R0 f d host).before a0 Z = true) (via : Via Z R0 O f d) (F : Sta Z h O f d v) (hd : decode bs pc = .ok (.getstatic i, 3)) (hp : pc + 3 = pc') (q : ∀ T', Sd Z own bs mx ret n0 p l e R s m args below meth c T' h k n → Gl p e below P (T'.setTop (mkF m pc' L (v :: S)))) : Gl p e below P (T.setTop (mkF m pc L S)) := by
  obtain ⟨locs, X, eT, N, hn0, hx, hZ, hown, hby, hml, hrt, hlk⟩ := Y
  subst hp
  obtain ⟨T', X', e', st⟩ := getS2 X hx hZ hown w via eT F (g := mkF m pc L S) rfl (hb hby hd)
  exact (q T' ⟨locs, X', e', N, hn0, hx, hZ, hown, hby, hml, hrt, hlk⟩).of1 st
theorem Gl.putF (Y : Sd Z own bs mx ret n0 p l e R s m args below meth c T h k n) {i kk : Nat} {R0 O f d host C : String} {ty : FieldType} {a : Addr} {v old : Value} (w : (Jvm.Cond.fieldLink own i R0 f d).before a0 Z = true ∨ (Jvm.Cond.fieldLinkNest own i R0 f d host).before a0 Z = true) (via : Via Z R0 O f d) (F : Fld Z h a O f d old) (E : Exa Z h a C) (Lw : (Jvm.Cond.lays C O f d).before a0 Z = true ∨ ((Jvm.Cond.laysFinal C O f d).before a0 Z = true ∧ own = O ∧ meth.name = "<init>")) (wi : (Jvm.Cond.instantiable C kk).before a0 Z = true) (ha : n0 ≤ a) (hty : parseFieldDescriptor d = some ty) (hn : narrow ty v = v) (hf : fits ty v = true) (hd : decode bs pc = .ok (.putfield i, 3)) (hp : pc + 3 = pc') (q : ∀ T' h', Sd Z own bs mx ret n0 p l e R s m args below meth c T' h' k n → Wr h h' a (Jvm.RoadKit.slotOf Z O f d) v → Gl p e below P (T'.setTop (mkF m pc' L S))) : Gl p e below P (T.setTop (mkF m pc L (v :: .ref a :: S))) := by
  obtain ⟨locs, X, eT, N, hn0, hx, hZ, hown, hby, hml, hrt, hlk⟩ := Y
  subst hp
  obtain ⟨T', h', X', e', W, st⟩ := Jvm.RoadKit.putF X hx hZ hown w via eT F E Lw wi hty hn hf (g := mkF m pc L (v :: .ref a :: S)) rfl rfl (hb hby hd)
  exact (q T' h' ⟨_, X', e', Fr.snoc X' N ha, hn0, hx, hZ, hown, hby, hml, hrt, hlk⟩ W).of1 st
theorem Gl.putFN (Y : Sd Z own bs mx ret n0 p l e R s m args below meth c T h k n) {i kk : Nat} {R0 O f d C : String} {ty : FieldType} {a : Addr} {v v' old : Value} (w : (Jvm.Cond.fieldLink own i R0 f d).before a0 Z = true) (via : Via Z R0 O f d) (F : Fld Z h a O f d old) (E : Exa Z h a C) (Lw : (Jvm.Cond.lays C O f d).before a0 Z = true ∨ ((Jvm.Cond.laysFinal C O f d).before a0 Z = true ∧ own = O ∧ meth.name = "<init>")) (wi : (Jvm.Cond.instantiable C kk).before a0 Z = true) (ha : n0 ≤ a) (hty : parseFieldDescriptor d = some ty) (hn : narrow ty v = v') (hf : fits ty v' = true) (hd : decode bs pc = .ok (.putfield i, 3)) (hp : pc + 3 = pc') (q : ∀ T' h', Sd Z own bs mx ret n0 p l e R s m args below meth c T' h' k n → Wr h h' a (Jvm.RoadKit.slotOf Z O f d) v' → Gl p e below P (T'.setTop (mkF m pc' L S))) : Gl p e below P (T.setTop (mkF m pc L (v :: .ref a :: S))) := by
  obtain ⟨locs, X, eT, N, hn0, hx, hZ, hown, hby, hml, hrt, hlk⟩ := Y
  subst hp
  obtain ⟨T', h', X', e', W, st⟩ := Jvm.RoadKit.putFN X hx hZ hown w via eT F E Lw wi hty hn hf (g := mkF m pc L (v :: .ref a :: S)) rfl rfl (hb hby hd)
  exact (q T' h' ⟨_, X', e', Fr.snoc X' N ha, hn0, hx, hZ, hown, hby, hml, hrt, hlk⟩ W).of1 st
theorem Gl.newO (Y : Sd Z own bs mx ret n0 p l e R s m args below meth c T h k n) {i sl : Nat} {C : String} (w : (Jvm.Cond.classLink own i C).before a0 Z = true) (wi : (Jvm.Cond.instantiable C sl).before a0 Z = true) (wz : (Jvm.Cond.initialized C).before a0 Z = true) (hc : k + 1 ≤ R.cells) (hl : n + sl ≤ R.slots) (hd : decode bs pc = .ok (.new i, 3)) (hp : pc + 3 = pc') (q : ∀ T' h' b, Sd Z own bs mx ret n0 p l e R s m args below meth c T' h' (k + 1) (n + sl) → Ext h h' → b = h.size → n0 ≤ b → Exa Z h' b C → (∀ {O nm d : String} {ty : FieldType}, Laid Z a0 C O nm d → parseFieldDescriptor d = some ty → Fld Z h' b O nm d (defaultValue ty)) → Gl p e below P (T'.setTop (mkF m pc' L (.ref b :: S)))) : Gl p e below P (T.setTop (mkF m pc L S)) := by
  obtain ⟨locs, X, eT, N, hn0, hx, hZ, hown, hby, hml, hrt, hlk⟩ := Y
  subst hp
  obtain ⟨T', h', X', e', E, A, D, -, st⟩ := Jvm.RoadKit.newO X hx hZ hown w wi wz eT (g := mkF m pc L S) rfl (hb hby hd) hc hl
  exact (q T' h' h.size ⟨locs, X', e', N, hn0, hx, hZ, hown, hby, hml, hrt, hlk⟩ E rfl (eT ▸ Nat.le_trans hn0 (own_grow X)) A D).of1 st
theorem Gl.newP (Y : Sd Z own bs mx ret n0 p l e R s m args below meth c T h k n) {aty : ArrayType} {ty : FieldType} {z : Int32} (cap : Nat) (hat : newarray.typeOf aty = ty) (w : (Jvm.Cond.arrayClass ty).before a0 Z = true) (hz : ¬ z < 0) (hcap : z.toNatClampNeg ≤ cap) (hcb : cap * 8 ≤ 536870912) (hc : k + 1 ≤ R.cells) (hl : n + cap ≤ R.slots) (hd : decode bs pc = .ok (.newarray aty, 2)) (hp : pc + 2 = pc') (q : ∀ T' h' b ck, Sd Z own bs mx ret n0 p l e R s m args below meth c T' h' (k + 1) (n + cap) → Ext h h' → b = h.size → n0 ≤ b → Arv Z h' b ck ty z [] (defaultValue ty) → Gl p e below P (T'.setTop (mkF m pc' L (.ref b :: S)))) : Gl p e below P (T.setTop (mkF m pc L (.int z :: S))) := by
  obtain ⟨locs, X, eT, N, hn0, hx, hZ, hown, hby, hml, hrt, hlk⟩ := Y
  subst hp hat
  obtain ⟨T', h', ck, X', e', E, A, st⟩ := Jvm.RoadKit.newP X hx hZ w eT (g := mkF m pc L (.int z :: S)) rfl (hb hby hd) rfl hz hcap hcb hc hl
  exact (q T' h' h.size ck ⟨locs, X', e', N, hn0, hx, hZ, hown, hby, hml, hrt, hlk⟩ E rfl (eT ▸ Nat.le_trans hn0 (own_grow X)) (Arv.new A hz)).of1 st
theorem Gl.iastore (Y : Sd Z own bs mx ret n0 p l e R s m args below meth c T h k n) {a : Addr} {ck : ClassId} {z j : Int32} {x : Int32} {vs : List Value} {d v : Value} {ix : Nat} (F : Arv Z h a ck .int z vs d) (hv : .int x = v) (hj : ¬ j < 0 ∧ j < z) (hjx : j.toNatClampNeg = ix) (hlen : ix < vs.length) (ha : n0 ≤ a) (hd : decode bs pc = .ok (.iastore, 1)) (hp : pc + 1 = pc') (q : ∀ T' h', Sd Z own bs mx ret n0 p l e R s m args below meth c T' h' k n → Wr h h' a ix v → Arv Z h' a ck .int z (vs.set ix v) d → Gl p e below P (T'.setTop (mkF m pc' L S))) : Gl p e below P (T.setTop (mkF m pc L (.int x :: .int j :: .ref a :: S))) := by
  obtain ⟨locs, X, eT, N, hn0, hx, hZ, hown, hby, hml, hrt, hlk⟩ := Y
  subst hp hv hjx
  obtain ⟨cl, A, C1, S1, N1, H, Gf⟩ := F
  obtain ⟨T', h', X', e', W, st⟩ := stI X hx hZ eT A (inb_of S1 hj) (g := mkF m pc L (.int x :: .int j :: .ref a :: S)) rfl rfl (hb hby hd)
  exact (q T' h' ⟨_, X', e', Fr.snoc X' N ha, hn0, hx, hZ, hown, hby, hml, hrt, hlk⟩ W (Arv.set A C1 S1 N1 H Gf rfl W _ rfl hlen)).of1 st
theorem Gl.lastore (Y : Sd Z own bs mx ret n0 p l e R s m args below meth c T h k n) {a : Addr} {ck : ClassId} {z j : Int32} {x : Int64} {vs : List Value} {d v : Value} {ix : Nat} (F : Arv Z h a ck .long z vs d) (hv : .long x = v) (hj : ¬ j < 0 ∧ j < z) (hjx : j.toNatClampNeg = ix) (hlen : ix < vs.length) (ha : n0 ≤ a) (hd : decode bs pc = .ok (.lastore, 1)) (hp : pc + 1 = pc') (q : ∀ T' h', Sd Z own bs mx ret n0 p l e R s m args below meth c T' h' k n → Wr h h' a ix v → Arv Z h' a ck .long z (vs.set ix v) d → Gl p e below P (T'.setTop (mkF m pc' L S))) : Gl p e below P (T.setTop (mkF m pc L (.long x :: .int j :: .ref a :: S))) := by
  obtain ⟨locs, X, eT, N, hn0, hx, hZ, hown, hby, hml, hrt, hlk⟩ := Y
  subst hp hv hjx
  obtain ⟨cl, A, C1, S1, N1, H, Gf⟩ := F
  obtain ⟨T', h', X', e', W, st⟩ := stJ X hx hZ eT A (inb_of S1 hj) (g := mkF m pc L (.long x :: .int j :: .ref a :: S)) rfl rfl (hb hby hd)
  exact (q T' h' ⟨_, X', e', Fr.snoc X' N ha, hn0, hx, hZ, hown, hby, hml, hrt, hlk⟩ W (Arv.set A C1 S1 N1 H Gf rfl W _ rfl hlen)).of1 st
theorem Gl.castore (Y : Sd Z own bs mx ret n0 p l e R s m args below meth c T h k n) {a : Addr} {ck : ClassId} {z j : Int32} {x : Int32} {vs : List Value} {d v : Value} {ix : Nat} (F : Arv Z h a ck .char z vs d) (hv : .int (nar .char x) = v) (hj : ¬ j < 0 ∧ j < z) (hjx : j.toNatClampNeg = ix) (hlen : ix < vs.length) (ha : n0 ≤ a) (hd : decode bs pc = .ok (.castore, 1)) (hp : pc + 1 = pc') (q : ∀ T' h', Sd Z own bs mx ret n0 p l e R s m args below meth c T' h' k n → Wr h h' a ix v → Arv Z h' a ck .char z (vs.set ix v) d → Gl p e below P (T'.setTop (mkF m pc' L S))) : Gl p e below P (T.setTop (mkF m pc L (.int x :: .int j :: .ref a :: S))) := by
  obtain ⟨locs, X, eT, N, hn0, hx, hZ, hown, hby, hml, hrt, hlk⟩ := Y
  subst hp hv hjx
  obtain ⟨cl, A, C1, S1, N1, H, Gf⟩ := F
  obtain ⟨T', h', X', e', W, st⟩ := stC X hx hZ eT A (inb_of S1 hj) (g := mkF m pc L (.int x :: .int j :: .ref a :: S)) rfl rfl (hb hby hd)
  exact (q T' h' ⟨_, X', e', Fr.snoc X' N ha, hn0, hx, hZ, hown, hby, hml, hrt, hlk⟩ W (Arv.set A C1 S1 N1 H Gf (fits_nar_char _) W _ rfl hlen)).of1 st
theorem Gl.sastore (Y : Sd Z own bs mx ret n0 p l e R s m args below meth c T h k n) {a : Addr} {ck : ClassId} {z j : Int32} {x : Int32} {vs : List Value} {d v : Value} {ix : Nat} (F : Arv Z h a ck .short z vs d) (hv : .int (nar .short x) = v) (hj : ¬ j < 0 ∧ j < z) (hjx : j.toNatClampNeg = ix) (hlen : ix < vs.length) (ha : n0 ≤ a) (hd : decode bs pc = .ok (.sastore, 1)) (hp : pc + 1 = pc') (q : ∀ T' h', Sd Z own bs mx ret n0 p l e R s m args below meth c T' h' k n → Wr h h' a ix v → Arv Z h' a ck .short z (vs.set ix v) d → Gl p e below P (T'.setTop (mkF m pc' L S))) : Gl p e below P (T.setTop (mkF m pc L (.int x :: .int j :: .ref a :: S))) := by
  obtain ⟨locs, X, eT, N, hn0, hx, hZ, hown, hby, hml, hrt, hlk⟩ := Y
  subst hp hv hjx
  obtain ⟨cl, A, C1, S1, N1, H, Gf⟩ := F
  obtain ⟨T', h', X', e', W, st⟩ := stS X hx hZ eT A (inb_of S1 hj) (g := mkF m pc L (.int x :: .int j :: .ref a :: S)) rfl rfl (hb hby hd)
  exact (q T' h' ⟨_, X', e', Fr.snoc X' N ha, hn0, hx, hZ, hown, hby, hml, hrt, hlk⟩ W (Arv.set A C1 S1 N1 H Gf (fits_nar_short _) W _ rfl hlen)).of1 st
theorem Gl.bastore (Y : Sd Z own bs mx ret n0 p l e R s m args below meth c T h k n) {a : Addr} {ck : ClassId} {z j : Int32} {x : Int32} {vs : List Value} {d v : Value} {ix : Nat} (F : Arv Z h a ck .byte z vs d) (hv : .int (nar .byte x) = v) (hj : ¬ j < 0 ∧ j < z) (hjx : j.toNatClampNeg = ix) (hlen : ix < vs.length) (ha : n0 ≤ a) (hd : decode bs pc = .ok (.bastore, 1)) (hp : pc + 1 = pc') (q : ∀ T' h', Sd Z own bs mx ret n0 p l e R s m args below meth c T' h' k n → Wr h h' a ix v → Arv Z h' a ck .byte z (vs.set ix v) d → Gl p e below P (T'.setTop (mkF m pc' L S))) : Gl p e below P (T.setTop (mkF m pc L (.int x :: .int j :: .ref a :: S))) := by
  obtain ⟨locs, X, eT, N, hn0, hx, hZ, hown, hby, hml, hrt, hlk⟩ := Y
  subst hp hv hjx
  obtain ⟨cl, A, C1, S1, N1, H, Gf⟩ := F
  obtain ⟨T', h', X', e', W, st⟩ := stB X hx hZ eT A (inb_of S1 hj) (g := mkF m pc L (.int x :: .int j :: .ref a :: S)) rfl rfl (hb hby hd)
  exact (q T' h' ⟨_, X', e', Fr.snoc X' N ha, hn0, hx, hZ, hown, hby, hml, hrt, hlk⟩ W (Arv.set A C1 S1 N1 H Gf (fits_nar_byte _) W _ rfl hlen)).of1 st
theorem Gl.initO (Y : Sd Z own bs mx ret n0 p l e R s m args below meth c T h k n) {i : Nat} {a : Addr} (w1 : (Jvm.Cond.methodLink own i Lib.objectInit).before a0 Z = true) (w2 : (Jvm.Cond.instanceMethod Lib.objectInit).before a0 Z = true) (w3 : (Jvm.Cond.code Lib.objectInit ⟨#[0xb1]⟩ 1 none).before a0 Z = true) (hL : L.size = mx) (hf : 1 ≤ R.frames) (hl : (S.map fun v => v.category).sum + 12 ≤ R.locals) (hd : decode bs pc = .ok (.invokespecial i, 3)) (hp : pc + 3 = pc') (q : ∀ T', Sd Z own bs mx ret n0 p l e R s m args below meth c T' h k n → Gl p e below P (T'.setTop (mkF m pc' L S))) : Gl p e below P (T.setTop (mkF m pc L (.ref a :: S))) := by
  obtain ⟨locs, X, eT, N, hn0, hx, hZ, hown, hby, hml, hrt, hlk⟩ := Y
  subst hp
  obtain ⟨T', X', e', st⟩ := Jvm.RoadKit.initO X hx hZ hown w1 w2 w3 eT (g := mkF m pc L (.ref a :: S)) rfl (by rw [hml]; exact hL) rfl (hb hby hd) hf (W := (S.map fun v => v.category).sum) (by show 2 * 0 + _ ≤ _; omega) hl
  exact (q T' ⟨locs, X', e', N, hn0, hx, hZ, hown, hby, hml, hrt, hlk⟩).of1 st
theorem Gl.castY (Y : Sd Z own bs mx ret n0 p l e R s m args below meth c T h k n) {i : Nat} {K : String} {a : Addr} (w : (Jvm.Cond.classLink own i K).before a0 Z = true) (F : Ins Z h a K true) (hd : decode bs pc = .ok (.checkcast i, 3)) (hp : pc + 3 = pc') (q : ∀ T', Sd Z own bs mx ret n0 p l e R s m args below meth c T' h k n → Gl p e below P (T'.setTop (mkF m pc' L (.ref a :: S)))) : Gl p e below P (T.setTop (mkF m pc L (.ref a :: S))) := by
  obtain ⟨locs, X, eT, N, hn0, hx, hZ, hown, hby, hml, hrt, hlk⟩ := Y
  subst hp
  obtain ⟨T', X', e', st⟩ := Jvm.RoadKit.castY X hx hZ hown w eT F (g := mkF m pc L (.ref a :: S)) rfl rfl (hb hby hd)
  exact (q T' ⟨locs, X', e', N, hn0, hx, hZ, hown, hby, hml, hrt, hlk⟩).of1 st
theorem Gl.instY (Y : Sd Z own bs mx ret n0 p l e R s m args below meth c T h k n) {i : Nat} {K : String} {a : Addr} (w : (Jvm.Cond.classLink own i K).before a0 Z = true) (F : Ins Z h a K true) (hd : decode bs pc = .ok (.instanceof i, 3)) (hp : pc + 3 = pc') (q : ∀ T', Sd Z own bs mx ret n0 p l e R s m args below meth c T' h k n → Gl p e below P (T'.setTop (mkF m pc' L (.int 1 :: S)))) : Gl p e below P (T.setTop (mkF m pc L (.ref a :: S))) := by
  obtain ⟨locs, X, eT, N, hn0, hx, hZ, hown, hby, hml, hrt, hlk⟩ := Y
  subst hp
  obtain ⟨T', X', e', st⟩ := Jvm.RoadKit.instY X hx hZ hown w eT F (g := mkF m pc L (.ref a :: S)) rfl rfl (hb hby hd)
  exact (q T' ⟨locs, X', e', N, hn0, hx, hZ, hown, hby, hml, hrt, hlk⟩).of1 st
theorem Gl.instNo (Y : Sd Z own bs mx ret n0 p l e R s m args below meth c T h k n) {i : Nat} {K C : String} {a : Addr} (w : (Jvm.Cond.classLink own i K).before a0 Z = true) (E : Exa Z h a C) (F : ∃ c t, Z.vm.findClass C = some c ∧ Z.vm.findClass K = some t ∧ Z.vm.assignable c t = false) (hd : decode bs pc = .ok (.instanceof i, 3)) (hp : pc + 3 = pc') (q : ∀ T', Sd Z own bs mx ret n0 p l e R s m args below meth c T' h k n → Gl p e below P (T'.setTop (mkF m pc' L (.int 0 :: S)))) : Gl p e below P (T.setTop (mkF m pc L (.ref a :: S))) := by
  obtain ⟨locs, X, eT, N, hn0, hx, hZ, hown, hby, hml, hrt, hlk⟩ := Y
  subst hp
  obtain ⟨T', X', e', st⟩ := Jvm.RoadKit.instNo X hx hZ hown w eT E F (g := mkF m pc L (.ref a :: S)) rfl rfl (hb hby hd)
  exact (q T' ⟨locs, X', e', N, hn0, hx, hZ, hown, hby, hml, hrt, hlk⟩).of1 st
theorem Gl.castNull (Y : Sd Z own bs mx ret n0 p l e R s m args below meth c T h k n) {i : Nat} (hd : decode bs pc = .ok (.checkcast i, 3)) (hp : pc + 3 = pc') (q : Gl p e below P (T.setTop (mkF m pc' L (.null :: S)))) : Gl p e below P (T.setTop (mkF m pc L (.null :: S))) := by
  obtain ⟨locs, X, eT, N, hn0, hx, hZ, hown, hby, hml, hrt, hlk⟩ := Y
  subst hp
  exact q.of1 fun t q => X.checkcastNull hx (g := mkF m pc L (.null :: S)) rfl rfl (hb hby hd) t q
theorem Gl.instNull (Y : Sd Z own bs mx ret n0 p l e R s m args below meth c T h k n) {i : Nat} (hd : decode bs pc = .ok (.instanceof i, 3)) (hp : pc + 3 = pc') (q : Gl p e below P (T.setTop (mkF m pc' L (.int 0 :: S)))) : Gl p e below P (T.setTop (mkF m pc L (.null :: S))) := by
  obtain ⟨locs, X, eT, N, hn0, hx, hZ, hown, hby, hml, hrt, hlk⟩ := Y
  subst hp
  exact q.of1 fun t q => X.instanceofNull hx (g := mkF m pc L (.null :: S)) rfl rfl (hb hby hd) t q
theorem Gl.newR (Y : Sd Z own bs mx ret n0 p l e R s m args below meth c T h k n) {i : Nat} {C : String} {z : Int32} (cap : Nat) (w1 : (Jvm.Cond.classLink own i C).before a0 Z = true) (w2 : (Jvm.Cond.arrayOver (.object C)).before a0 Z = true) (hz : ¬ z < 0) (hcap : z.toNatClampNeg ≤ cap) (hcb : cap * 8 ≤ 536870912) (hc : k + 1 ≤ R.cells) (hl : n + cap ≤ R.slots) (hd : decode bs pc = .ok (.anewarray i, 3)) (hp : pc + 3 = pc') (q : ∀ T' h' b ck, Sd Z own bs mx ret n0 p l e R s m args below meth c T' h' (k + 1) (n + cap) → Ext h h' → b = h.size → n0 ≤ b → Arv Z h' b ck (.object C) z [] .null → Gl p e below P (T'.setTop (mkF m pc' L (.ref b :: S)))) : Gl p e below P (T.setTop (mkF m pc L (.int z :: S))) := by
  obtain ⟨locs, X, eT, N, hn0, hx, hZ, hown, hby, hml, hrt, hlk⟩ := Y
  subst hp
  obtain ⟨T', h', ck, X', e', E, A, -, st⟩ := Jvm.RoadKit.newR X hx hZ hown w1 w2 eT (g := mkF m pc L (.int z :: S)) rfl (hb hby hd) rfl hz hcap hcb hc hl
  exact (q T' h' h.size ck ⟨locs, X', e', N, hn0, hx, hZ, hown, hby, hml, hrt, hlk⟩ E rfl (eT ▸ Nat.le_trans hn0 (own_grow X)) (Arv.new A hz)).of1 st
theorem Gl.callS (Y : Sd Z own bs mx ret n0 p l e R s m args below meth c T h k n) {y : MethodName} {bs2 : ByteArray} {mx2 : Nat} {ret2 : Option FieldType} {rm : Room} {as : Array Value} {Q : Option Value → Heap → Prop} {i : Nat} {argsL rest : List Value} (w1 : (Jvm.Cond.methodLink own i y).before a0 Z = true) (w2 : (Jvm.Cond.static y).before a0 Z = true) (w3 : (Jvm.Cond.initialized y.cls).before a0 Z = true) (w4 : (Jvm.Cond.code y bs2 mx2 ret2).before a0 Z = true) (hy : y.cls ≠ "java/lang/invoke/MethodHandle" ∧ y.cls ≠ "java/lang/invoke/VarHandle") (hM : OMet l Z [] y bs2 mx2 ret2 rm as h n0 Q) (has : argsL.toArray = as) (hS : S = argsL.reverse ++ rest) (hlen : ∀ sig, parseMethodDescriptor y.desc = some sig → argsL.length = sig.parameters.length) (hL : L.size = mx) (hf : rm.frames + 1 ≤ R.frames) (hl : (rest.map fun v => v.category).sum + (mx2 + 11) + rm.locals ≤ R.locals) (hc : k + rm.cells ≤ R.cells) (hs : n + rm.slots ≤ R.slots) (hd : decode bs pc = .ok (.invokestatic i, 3)) (hp : pc + 3 = pc') (q : ∀ v T' h', Sd Z own bs mx ret n0 p l e R s m args below meth c T' h' (k + rm.cells) (n + rm.slots) → Q v h' → Gl p e below P (T'.setTop (mkF m pc' L (v.toList ++ rest)))) : Gl p e below P (T.setTop (mkF m pc L S)) := by
  obtain ⟨locs, X, eT, N, hn0, hx, hZ, hown, hby, hml, hrt, hlk⟩ := Y
  subst hp has hS
  obtain ⟨v, vm₁, ⟨T', L', k', n'⟩, -, X', hB, st⟩ := Jvm.LawKit.callS X hx (y := y) hown (mvT hZ w1) (mvT hZ w2) (mvT hZ w3) (mvT hZ w4) hy (backOf (Q := fun v h' L => Q v h' ∧ Fr n0 L) (W := (rest.map fun v => v.category).sum) (OMet.un hM) hZ w4 w3 hf hl) (g := mkF m pc L (argsL.reverse ++ rest)) rfl (by rw [hml]; exact hL) (argsL := argsL) (rest := rest) hlen rfl (by show 2 * 0 + _ ≤ _; omega) (hb hby hd) (fun _ _ => ⟨rfl, eT, hc, hs⟩)
  obtain ⟨Lc, ⟨hQ, NL⟩, l1, l2, l3⟩ := hB
  dsimp only [Pt.U, Pt.locs, Pt.cells, Pt.slots] at X' l1 l2 l3 st hQ
  subst l1 l2 l3
  exact (q v T' T'.heap ⟨_, X', rfl, Fr.app N NL, hn0, hx, hZ, hown, hby, hml, hrt, hlk⟩ hQ).of1 st
theorem Gl.callN (Y : Sd Z own bs mx ret n0 p l e R s m args below meth c T h k n) {y : MethodName} {bs2 : ByteArray} {mx2 : Nat} {rm : Room} {as : Array Value} {Q : Option Value → Heap → Prop} {i : Nat} {argsL rest : List Value} {a : Addr} (hy1 : y.name = "<init>") (w1 : (Jvm.Cond.methodLink own i y).before a0 Z = true) (w2 : (Jvm.Cond.instanceMethod y).before a0 Z = true) (w3 : (Jvm.Cond.initialized y.cls).before a0 Z = true) (w4 : (Jvm.Cond.code y bs2 mx2 none).before a0 Z = true) (hy : y.cls ≠ "java/lang/invoke/MethodHandle" ∧ y.cls ≠ "java/lang/invoke/VarHandle") (hM : OMet l Z [] y bs2 mx2 none rm as h n0 Q) (has : (.ref a :: argsL).toArray = as) (hS : S = argsL.reverse ++ .ref a :: rest) (hlen : ∀ sig, parseMethodDescriptor y.desc = some sig → argsL.length = sig.parameters.length) (hL : L.size = mx) (hf : rm.frames + 1 ≤ R.frames) (hl : (rest.map fun v => v.category).sum + (mx2 + 11) + rm.locals ≤ R.locals) (hc : k + rm.cells ≤ R.cells) (hs : n + rm.slots ≤ R.slots) (hd : decode bs pc = .ok (.invokespecial i, 3)) (hp : pc + 3 = pc') (q : ∀ v T' h', Sd Z own bs mx ret n0 p l e R s m args below meth c T' h' (k + rm.cells) (n + rm.slots) → Q v h' → Gl p e below P (T'.setTop (mkF m pc' L (v.toList ++ rest)))) : Gl p e below P (T.setTop (mkF m pc L S)) := by
  obtain ⟨locs, X, eT, N, hn0, hx, hZ, hown, hby, hml, hrt, hlk⟩ := Y
  subst hp has hS
  obtain ⟨v, vm₁, ⟨T', L', k', n'⟩, -, X', hB, st⟩ := X.specialBack hx (y := y) hy1 hown (mvT hZ w1) (mvT hZ w2) (mvT hZ w4) hy (backOf (Q := fun v h' L => Q v h' ∧ Fr n0 L) (W := (rest.map fun v => v.category).sum) (OMet.un hM) hZ w4 w3 hf hl) (g := mkF m pc L (argsL.reverse ++ .ref a :: rest)) rfl (by rw [hml]; exact hL) (Steps.refl _) (a := a) (argsL := argsL) (rest := rest) hlen rfl (by show 2 * 0 + _ ≤ _; omega) (hb hby hd) (fun _ _ => ⟨rfl, eT, hc, hs⟩)
  obtain ⟨Lc, ⟨hQ, NL⟩, l1, l2, l3⟩ := hB
  dsimp only [Pt.U, Pt.locs, Pt.cells, Pt.slots] at X' l1 l2 l3 st hQ
  subst l1 l2 l3
  exact Gl.via st (q v T' T'.heap ⟨_, X', rfl, Fr.app N NL, hn0, hx, hZ, hown, hby, hml, hrt, hlk⟩ hQ)
theorem Gl.callV (Y : Sd Z own bs mx ret n0 p l e R s m args below meth c T h k n) {y : MethodName} {bs2 : ByteArray} {mx2 : Nat} {ret2 : Option FieldType} {rm : Room} {as : Array Value} {Q : Option Value → Heap → Prop} {i : Nat} {z : MethodName} {C : String} {argsL rest : List Value} {a : Addr} (w1 : (Jvm.Cond.methodLink own i z).before a0 Z = true) (wd : (Jvm.Cond.declares z).before a0 Z = true) (ws0 : (Jvm.Cond.selects z.cls z z).before a0 Z = true) (ws : (Jvm.Cond.selects C z y).before a0 Z = true) (w2 : (Jvm.Cond.instanceMethod y).before a0 Z = true) (w3 : (Jvm.Cond.initialized y.cls).before a0 Z = true) (w4 : (Jvm.Cond.code y bs2 mx2 ret2).before a0 Z = true) (hy : z.cls ≠ "java/lang/invoke/MethodHandle" ∧ z.cls ≠ "java/lang/invoke/VarHandle") (E : Exa Z h a C) (hM : OMet l Z [] y bs2 mx2 ret2 rm as h n0 Q) (has : (.ref a :: argsL).toArray = as) (hS : S = argsL.reverse ++ .ref a :: rest) (hlen : ∀ sig, parseMethodDescriptor z.desc = some sig → argsL.length = sig.parameters.length) (hL : L.size = mx) (hf : rm.frames + 1 ≤ R.frames) (hl : (rest.map fun v => v.category).sum + (mx2 + 11) + rm.locals ≤ R.locals) (hc : k + rm.cells ≤ R.cells) (hs : n + rm.slots ≤ R.slots) (hd : decode bs pc = .ok (.invokevirtual i, 3)) (hp : pc + 3 = pc') (q : ∀ v T' h', Sd Z own bs mx ret n0 p l e R s m args below meth c T' h' (k + rm.cells) (n + rm.slots) → Q v h' → Gl p e below P (T'.setTop (mkF m pc' L (v.toList ++ rest)))) : Gl p e below P (T.setTop (mkF m pc L S)) := by
  obtain ⟨locs, X, eT, N, hn0, hx, hZ, hown, hby, hml, hrt, hlk⟩ := Y
  subst hp has hS
  obtain ⟨cq, kq, qa, qb, qc⟩ := isOf hZ eT E
  obtain ⟨v, vm₁, ⟨T', L', k', n'⟩, -, X', hB, st⟩ := X.virtualBack hx (y := z) (z := y) hown (mvT hZ w1) (mvT hZ wd) (notFace_of_selects (args := #[]) (mvT hZ ws0)) (mvT hZ ws) (mvT hZ w2) hy (backOf (Q := fun v h' L => Q v h' ∧ Fr n0 L) (W := (rest.map fun v => v.category).sum) (OMet.un hM) hZ w4 w3 hf hl) qa qc (g := mkF m pc L (argsL.reverse ++ .ref a :: rest)) rfl (by rw [hml]; exact hL) (Steps.refl _) (argsL := argsL) (rest := rest) hlen rfl (by show 2 * 0 + _ ≤ _; omega) (hb hby hd) (fun _ _ => ⟨rfl, eT, hc, hs⟩)
  obtain ⟨Lc, ⟨hQ, NL⟩, l1, l2, l3⟩ := hB
  dsimp only [Pt.U, Pt.locs, Pt.cells, Pt.slots] at X' l1 l2 l3 st hQ
  subst l1 l2 l3
  exact Gl.via st (q v T' T'.heap ⟨_, X', rfl, Fr.app N NL, hn0, hx, hZ, hown, hby, hml, hrt, hlk⟩ hQ)
theorem Gl.callP (Y : Sd Z own bs mx ret n0 p l e R s m args below meth c T h k n) {y : MethodName} {bs2 : ByteArray} {mx2 : Nat} {ret2 : Option FieldType} {rm : Room} {as : Array Value} {Q : Option Value → Heap → Prop} {i : Nat} {C : String} {kk : Nat} {argsL rest : List Value} {a : Addr} (w1 : (Jvm.Cond.methodLink own i y).before a0 Z = true) (w2 : (Jvm.Cond.instanceMethod y).before a0 Z = true) (wp : (Jvm.Cond.privateMethod y).before a0 Z = true) (wi : (Jvm.Cond.instantiable y.cls kk).before a0 Z = true) (w3 : (Jvm.Cond.initialized y.cls).before a0 Z = true) (w4 : (Jvm.Cond.code y bs2 mx2 ret2).before a0 Z = true) (hy : y.cls ≠ "java/lang/invoke/MethodHandle" ∧ y.cls ≠ "java/lang/invoke/VarHandle") (E : Exa Z h a C) (hM : OMet l Z [] y bs2 mx2 ret2 rm as h n0 Q) (has : (.ref a :: argsL).toArray = as) (hS : S = argsL.reverse ++ .ref a :: rest) (hlen : ∀ sig, parseMethodDescriptor y.desc = some sig → argsL.length = sig.parameters.length) (hL : L.size = mx) (hf : rm.frames + 1 ≤ R.frames) (hl : (rest.map fun v => v.category).sum + (mx2 + 11) + rm.locals ≤ R.locals) (hc : k + rm.cells ≤ R.cells) (hs : n + rm.slots ≤ R.slots) (hd : decode bs pc = .ok (.invokevirtual i, 3)) (hp : pc + 3 = pc') (q : ∀ v T' h', Sd Z own bs mx ret n0 p l e R s m args below meth c T' h' (k + rm.cells) (n + rm.slots) → Q v h' → Gl p e below P (T'.setTop (mkF m pc' L (v.toList ++ rest)))) : Gl p e below P (T.setTop (mkF m pc L S)) := by
  obtain ⟨locs, X, eT, N, hn0, hx, hZ, hown, hby, hml, hrt, hlk⟩ := Y
  subst hp has hS
  obtain ⟨cq, qa, qb⟩ := E.cell
  have hpr := Cond.privateMethod_at (mvP hZ wp (args := #[]))
  obtain ⟨c1, k1, i1, i2, -, i4, -⟩ := Cond.instantiable_spec (mv (args := args) hZ wi)
  have i5 : k1.isInterface = false := by cases hi : k1.isInterface <;> simp [hi] at i4 ⊢
  have hsel := selects_self_of_private (args := args) i1 i2 i5 hpr (mvT hZ w2) hy
  obtain ⟨v, vm₁, ⟨T', L', k', n'⟩, -, X', hB, st⟩ := X.privateBack hx (y := y) hown (mvT hZ w1) (mvT hZ w2) hsel hpr (mvT hZ w4) hy (backOf (Q := fun v h' L => Q v h' ∧ Fr n0 L) (W := (rest.map fun v => v.category).sum) (OMet.un hM) hZ w4 w3 hf hl) (g := mkF m pc L (argsL.reverse ++ .ref a :: rest)) rfl (by rw [hml]; exact hL) (Steps.refl _) (a := a) (by rw [eT]; exact qa) qb (argsL := argsL) (rest := rest) hlen rfl (by show 2 * 0 + _ ≤ _; omega) (hb hby hd) (fun _ _ => ⟨rfl, eT, hc, hs⟩)
  obtain ⟨Lc, ⟨hQ, NL⟩, l1, l2, l3⟩ := hB
  dsimp only [Pt.U, Pt.locs, Pt.cells, Pt.slots] at X' l1 l2 l3 st hQ
  subst l1 l2 l3
  exact Gl.via st (q v T' T'.heap ⟨_, X', rfl, Fr.app N NL, hn0, hx, hZ, hown, hby, hml, hrt, hlk⟩ hQ)
theorem Gl.callNN (Y : Sd Z own bs mx ret n0 p l e R s m args below meth c T h k n) {y : MethodName} {bs2 : ByteArray} {mx2 : Nat} {rm : Room} {as : Array Value} {Q : Option Value → Heap → Prop} {i : Nat} {argsL rest : List Value} {host : String} {a : Addr} (hy1 : y.name = "<init>") (w1 : (Jvm.Cond.methodLinkNest own i y host).before a0 Z = true) (w2 : (Jvm.Cond.instanceMethod y).before a0 Z = true) (w3 : (Jvm.Cond.initialized y.cls).before a0 Z = true) (w4 : (Jvm.Cond.code y bs2 mx2 none).before a0 Z = true) (hy : y.cls ≠ "java/lang/invoke/MethodHandle" ∧ y.cls ≠ "java/lang/invoke/VarHandle") (hM : OMet l Z [] y bs2 mx2 none rm as h n0 Q) (has : (.ref a :: argsL).toArray = as) (hS : S = argsL.reverse ++ .ref a :: rest) (hlen : ∀ sig, parseMethodDescriptor y.desc = some sig → argsL.length = sig.parameters.length) (hL : L.size = mx) (hf : rm.frames + 1 ≤ R.frames) (hl : (rest.map fun v => v.category).sum + (mx2 + 11) + rm.locals ≤ R.locals) (hc : k + rm.cells ≤ R.cells) (hs : n + rm.slots ≤ R.slots) (hd : decode bs pc = .ok (.invokespecial i, 3)) (hp : pc + 3 = pc') (q : ∀ v T' h', Sd Z own bs mx ret n0 p l e R s m args below meth c T' h' (k + rm.cells) (n + rm.slots) → Q v h' → Gl p e below P (T'.setTop (mkF m pc' L (v.toList ++ rest)))) : Gl p e below P (T.setTop (mkF m pc L S)) := by
  obtain ⟨locs, X, eT, N, hn0, hx, hZ, hown, hby, hml, hrt, hlk⟩ := Y
  subst hp has hS
  obtain ⟨v, vm₁, ⟨T', L', k', n'⟩, -, X', hB, st⟩ := X.specialBackNest hx (y := y) hy1 hown (Cond.methodLinkNest_wide hZ w1 :) (mvT hZ w2) (mvT hZ w4) hy (backOf (Q := fun v h' L => Q v h' ∧ Fr n0 L) (W := (rest.map fun v => v.category).sum) (OMet.un hM) hZ w4 w3 hf hl) (g := mkF m pc L (argsL.reverse ++ .ref a :: rest)) rfl (by rw [hml]; exact hL) (Steps.refl _) (a := a) (argsL := argsL) (rest := rest) hlen rfl (by show 2 * 0 + _ ≤ _; omega) (hb hby hd) (fun _ _ => ⟨rfl, eT, hc, hs⟩)
  obtain ⟨Lc, ⟨hQ, NL⟩, l1, l2, l3⟩ := hB
  dsimp only [Pt.U, Pt.locs, Pt.cells, Pt.slots] at X' l1 l2 l3 st hQ
  subst l1 l2 l3
  exact Gl.via st (q v T' T'.heap ⟨_, X', rfl, Fr.app N NL, hn0, hx, hZ, hown, hby, hml, hrt, hlk⟩ hQ)
theorem Gl.callVU (Y : Sd Z own bs mx ret n0 p l e R s m args below meth c T h k n) {y : MethodName} {bs2 : ByteArray} {mx2 : Nat} {ret2 : Option FieldType} {rm : Room} {as : Array Value} {Q : Option Value → Heap → Prop} {i : Nat} {owner : String} {z : MethodName} {C : String} {argsL rest : List Value} {a : Addr} (w1 : (Jvm.Cond.methodLink own i z).before a0 Z = true) (w0 : (Jvm.Cond.sameMethod z.cls owner z.name z.desc).before a0 Z = true) (wd : (Jvm.Cond.declares ⟨owner, z.name, z.desc⟩).before a0 Z = true) (ws : (Jvm.Cond.selects C z y).before a0 Z = true) (w2 : (Jvm.Cond.instanceMethod y).before a0 Z = true) (w3 : (Jvm.Cond.initialized y.cls).before a0 Z = true) (w4 : (Jvm.Cond.code y bs2 mx2 ret2).before a0 Z = true) (hy : owner ≠ "java/lang/invoke/MethodHandle" ∧ owner ≠ "java/lang/invoke/VarHandle") (E : Exa Z h a C) (hM : OMet l Z [] y bs2 mx2 ret2 rm as h n0 Q) (has : (.ref a :: argsL).toArray = as) (hS : S = argsL.reverse ++ .ref a :: rest) (hlen : ∀ sig, parseMethodDescriptor z.desc = some sig → argsL.length = sig.parameters.length) (hL : L.size = mx) (hf : rm.frames + 1 ≤ R.frames) (hl : (rest.map fun v => v.category).sum + (mx2 + 11) + rm.locals ≤ R.locals) (hc : k + rm.cells ≤ R.cells) (hs : n + rm.slots ≤ R.slots) (hd : decode bs pc = .ok (.invokevirtual i, 3)) (hp : pc + 3 = pc') (q : ∀ v T' h', Sd Z own bs mx ret n0 p l e R s m args below meth c T' h' (k + rm.cells) (n + rm.slots) → Q v h' → Gl p e below P (T'.setTop (mkF m pc' L (v.toList ++ rest)))) : Gl p e below P (T.setTop (mkF m pc L S)) := by
  obtain ⟨locs, X, eT, N, hn0, hx, hZ, hown, hby, hml, hrt, hlk⟩ := Y
  subst hp has hS
  obtain ⟨cq, kq, qa, qb, qc⟩ := isOf hZ eT E
  obtain ⟨v, vm₁, ⟨T', L', k', n'⟩, -, X', hB, st⟩ := X.virtualBackUp hx (x := z) (y := y) hown (mvT hZ w1) (mvT hZ w0) (mvT hZ wd) hy (mvT hZ ws) (mvT hZ w2) (backOf (Q := fun v h' L => Q v h' ∧ Fr n0 L) (W := (rest.map fun v => v.category).sum) (OMet.un hM) hZ w4 w3 hf hl) qa qc (g := mkF m pc L (argsL.reverse ++ .ref a :: rest)) rfl (by rw [hml]; exact hL) (Steps.refl _) (argsL := argsL) (rest := rest) hlen rfl (by show 2 * 0 + _ ≤ _; omega) (hb hby hd) (fun _ _ => ⟨rfl, eT, hc, hs⟩)
  obtain ⟨Lc, ⟨hQ, NL⟩, l1, l2, l3⟩ := hB
  dsimp only [Pt.U, Pt.locs, Pt.cells, Pt.slots] at X' l1 l2 l3 st hQ
  subst l1 l2 l3
  exact Gl.via st (q v T' T'.heap ⟨_, X', rfl, Fr.app N NL, hn0, hx, hZ, hown, hby, hml, hrt, hlk⟩ hQ)
theorem Gl.fin (Y : Sd Z own bs mx ret n0 p l e R s m args below meth c T h k n) {K M : Nat} {Q : Option Value → Heap → Prop} (hk : k ≤ K) (hm : n ≤ M) {g : JFrame} {v : Option Value} (hv : ret = none → v = none) (st : ∀ fs, (∀ (f : JFrame) (acts : List Action), f.method = m → f.locked = none → f.entered = [] → (doReturn e (T.setTop f) acts v).1 = T.setFrames fs) → Steps p.tables e below (T.setTop g) (T.setFrames fs)) (hQ : Q v h) : Gl p e below (Pst s n0 K M Q) (T.setTop g) := by
  obtain ⟨locs, X, eT, N, hn0, hx, hZ, hown, hby, hml, hrt, hlk⟩ := Y
  obtain ⟨fs, hr, hrun, hended, hW, hsame⟩ := X.leave (v := v) (fun q => hv (hrt.symm.trans q)) hlk
  exact ⟨_, _, st fs hr, hrun, hended, v, locs, rfl, ⟨by show Q v T.heap; rw [eT]; exact hQ, N⟩, ⟨_, rfl⟩, hW, hsame.mono hk hm⟩
theorem Gl.retV (Y : Sd Z own bs mx none n0 p l e R s m args below meth c T h k n) {K M : Nat} {Q : Option Value → Heap → Prop} (hk : k ≤ K) (hm : n ≤ M)  (hd : decode bs pc = .ok (.return_, 1)) (hQ : Q none h) : Gl p e below (Pst s n0 K M Q) (T.setTop (mkF m pc L [])) := by
  have Y0 := Y
  obtain ⟨locs, X, eT, N, hn0, hx, hZ, hown, hby, hml, hrt, hlk⟩ := Y
  exact Gl.fin Y0 hk hm (v := none) (fun q => by first | rfl | cases q) (fun fs hr => X.returnOut hx hrt (hb hby hd) hr) hQ
theorem Gl.retI (Y : Sd Z own bs mx (some .int) n0 p l e R s m args below meth c T h k n) {K M : Nat} {Q : Option Value → Heap → Prop} (hk : k ≤ K) (hm : n ≤ M) {x : Int32} (hd : decode bs pc = .ok (.ireturn, 1)) (hQ : Q (some (.int x)) h) : Gl p e below (Pst s n0 K M Q) (T.setTop (mkF m pc L (.int x :: S))) := by
  have Y0 := Y
  obtain ⟨locs, X, eT, N, hn0, hx, hZ, hown, hby, hml, hrt, hlk⟩ := Y
  exact Gl.fin Y0 hk hm (v := (some (.int x))) (fun q => by first | rfl | cases q) (fun fs hr => retOut X hx hrt rfl (Or.inl ⟨rfl, Or.inl rfl, x, rfl⟩) (hb hby hd) hr) hQ
theorem Gl.retJ (Y : Sd Z own bs mx (some .long) n0 p l e R s m args below meth c T h k n) {K M : Nat} {Q : Option Value → Heap → Prop} (hk : k ≤ K) (hm : n ≤ M) {x : Int64} (hd : decode bs pc = .ok (.lreturn, 1)) (hQ : Q (some (.long x)) h) : Gl p e below (Pst s n0 K M Q) (T.setTop (mkF m pc L (.long x :: S))) := by
  have Y0 := Y
  obtain ⟨locs, X, eT, N, hn0, hx, hZ, hown, hby, hml, hrt, hlk⟩ := Y
  exact Gl.fin Y0 hk hm (v := (some (.long x))) (fun q => by first | rfl | cases q) (fun fs hr => retOut X hx hrt rfl (Or.inr (Or.inl ⟨rfl, rfl, x, rfl⟩)) (hb hby hd) hr) hQ
theorem Gl.retA (Y : Sd Z own bs mx (some t) n0 p l e R s m args below meth c T h k n) {K M : Nat} {Q : Option Value → Heap → Prop} (hk : k ≤ K) (hm : n ≤ M) {x : Value} (ht : t.isReference = true) (hxr : x.isRef = true) (hd : decode bs pc = .ok (.areturn, 1)) (hQ : Q (some x) h) : Gl p e below (Pst s n0 K M Q) (T.setTop (mkF m pc L (x :: S))) := by
  have Y0 := Y
  obtain ⟨locs, X, eT, N, hn0, hx, hZ, hown, hby, hml, hrt, hlk⟩ := Y
  exact Gl.fin Y0 hk hm (v := (some x)) (fun q => by first | rfl | cases q) (fun fs hr => retOut X hx hrt (own_narR hxr) (Or.inr (Or.inr (Or.inr (Or.inr ⟨rfl, ht, hxr⟩)))) (hb hby hd) hr) hQ
theorem Gl.retZ (Y : Sd Z own bs mx (some .boolean) n0 p l e R s m args below meth c T h k n) {K M : Nat} {Q : Option Value → Heap → Prop} (hk : k ≤ K) (hm : n ≤ M) {x x' : Int32} (hxn : nar .boolean x = x') (hd : decode bs pc = .ok (.ireturn, 1)) (hQ : Q (some (.int x')) h) : Gl p e below (Pst s n0 K M Q) (T.setTop (mkF m pc L (.int x :: S))) := by
  have Y0 := Y
  obtain ⟨locs, X, eT, N, hn0, hx, hZ, hown, hby, hml, hrt, hlk⟩ := Y
  exact Gl.fin Y0 hk hm (v := (some (.int x'))) (fun q => by first | rfl | cases q) (fun fs hr => retN X hx (t := .boolean) hrt (by simp) (hb hby hd) (by rw [hxn]; exact hr)) hQ
theorem Gl.retB (Y : Sd Z own bs mx (some .byte) n0 p l e R s m args below meth c T h k n) {K M : Nat} {Q : Option Value → Heap → Prop} (hk : k ≤ K) (hm : n ≤ M) {x x' : Int32} (hxn : nar .byte x = x') (hd : decode bs pc = .ok (.ireturn, 1)) (hQ : Q (some (.int x')) h) : Gl p e below (Pst s n0 K M Q) (T.setTop (mkF m pc L (.int x :: S))) := by
  have Y0 := Y
  obtain ⟨locs, X, eT, N, hn0, hx, hZ, hown, hby, hml, hrt, hlk⟩ := Y
  exact Gl.fin Y0 hk hm (v := (some (.int x'))) (fun q => by first | rfl | cases q) (fun fs hr => retN X hx (t := .byte) hrt (by simp) (hb hby hd) (by rw [hxn]; exact hr)) hQ
theorem Gl.retC (Y : Sd Z own bs mx (some .char) n0 p l e R s m args below meth c T h k n) {K M : Nat} {Q : Option Value → Heap → Prop} (hk : k ≤ K) (hm : n ≤ M) {x x' : Int32} (hxn : nar .char x = x') (hd : decode bs pc = .ok (.ireturn, 1)) (hQ : Q (some (.int x')) h) : Gl p e below (Pst s n0 K M Q) (T.setTop (mkF m pc L (.int x :: S))) := by
  have Y0 := Y
  obtain ⟨locs, X, eT, N, hn0, hx, hZ, hown, hby, hml, hrt, hlk⟩ := Y
  exact Gl.fin Y0 hk hm (v := (some (.int x'))) (fun q => by first | rfl | cases q) (fun fs hr => retN X hx (t := .char) hrt (by simp) (hb hby hd) (by rw [hxn]; exact hr)) hQ
theorem Gl.retSh (Y : Sd Z own bs mx (some .short) n0 p l e R s m args below meth c T h k n) {K M : Nat} {Q : Option Value → Heap → Prop} (hk : k ≤ K) (hm : n ≤ M) {x x' : Int32} (hxn : nar .short x = x') (hd : decode bs pc = .ok (.ireturn, 1)) (hQ : Q (some (.int x')) h) : Gl p e below (Pst s n0 K M Q) (T.setTop (mkF m pc L (.int x :: S))) := by
  have Y0 := Y
  obtain ⟨locs, X, eT, N, hn0, hx, hZ, hown, hby, hml, hrt, hlk⟩ := Y
  exact Gl.fin Y0 hk hm (v := (some (.int x'))) (fun q => by first | rfl | cases q) (fun fs hr => retN X hx (t := .short) hrt (by simp) (hb hby hd) (by rw [hxn]; exact hr)) hQ
end Kit
end Jvm.OwnWk

namespace Jvm.OwnWk
open Sem ClassFile Op Lib Jvm.Stand Jvm.Free Jvm.LawKit Jvm.RoadKit
theorem own_plain {vm : Vm} {flags : Nat} {c t d : ClassId} {ck dk : Class} (h : plainAccess vm flags c ck t d dk = true) : vm.Plain flags c ck t d dk := by
  simp only [plainAccess, Bool.or_eq_true, Bool.and_eq_true, beq_iff_eq, Bool.not_eq_true'] at h
  unfold Vm.Plain
  rcases h with ((h | h) | h) | h
  · exact Or.inl h
  · exact Or.inr (Or.inl h)
  · exact Or.inr (Or.inr (Or.inl h))
  · refine Or.inr (Or.inr (Or.inr ⟨h.1.1.1, h.1.1.2, h.1.2, ?_⟩))
    rcases h.2 with (q | q) | q
    · exact Or.inl q
    · exact Or.inr (Or.inl q)
    · exact Or.inr (Or.inr q)
theorem own_linkFF {args : Array Value} {s : State} {cls : String} {x : MethodName} {index d c : Nat} {ck ok : Class} {meth : Method} {mf : MethodId}
    (hd : s.vm.findClass cls = some d) (hc : s.vm.findClass x.cls = some c) (hck : s.vm.classes[c]? = some ck) (hvi : ck.isInterface = true) (hnone : ck.findMethod x.name x.desc = none)
    (hf : s.methodFound? x.cls x.name x.desc = some mf) (hok : s.vm.classes[mf.cls]? = some ok) (hm : ok.methods[mf.idx]? = some meth) (hx : x.cls ≠ "java/lang/invoke/MethodHandle" ∧ x.cls ≠ "java/lang/invoke/VarHandle") (hcl0 : x.name ≠ "clone")
    (h : (Cond.methodLink cls index x).before args s = true) (pl : Platform) (hpl : pl.magicAccessors = ({} : Platform).magicAccessors) : ∃ ci, s.vm.MethodLinksFF pl d index ci c mf ∧ s.rightAt d index (.method mf) = true := by
  have hpoly : ∀ y, signaturePolymorphic ck y = false := by
    intro y
    obtain ⟨k0, e0, n0⟩ := Vm.findClass_spec hc
    obtain rfl := Option.some.inj (hck.symm.trans e0)
    simp [signaturePolymorphic, n0, hx.1, hx.2]
  have hmm : s.vm.method? mf = some meth := by simp [Vm.method?, hok, hm]
  simp only [Cond.before, Cond.holds, Cond.value, hd, hc, hf] at h
  rcases hme : s.memberEntry? cls index with _ | ⟨ci, via⟩
  · simp [hme] at h
  rcases hln : s.classLinks cls ci x.cls with _ | linked
  · simp [hme, hln] at h
  rcases hdk : s.vm.classes[d]? with _ | dk
  · simp [hme, hln, hdk] at h
  simp only [hme, hln, hdk, hck, hok, hmm, Option.bind_eq_bind, Option.bind_some, Option.pure_def, beq_iff_eq, Option.some.injEq, Bool.and_eq_true, Bool.or_eq_true, Option.isNone_iff_eq_none] at h
  obtain ⟨⟨⟨⟨⟨⟨⟨hl1, hnm⟩, hop⟩, hv⟩, -⟩, -⟩, hlo⟩, hac⟩ := h
  have hP : s.vm.Plain meth.accessFlags mf.cls ok c d dk := by
    rcases hac with q | q
    · exact own_plain q
    · exact absurd q.1.2 hcl0
  obtain ⟨cr, hcr, hlinks⟩ := State.classLinks_spec hd (by rw [hln, hl1]) pl hpl
  obtain rfl := Option.some.inj (hc.symm.trans hcr)
  obtain ⟨cp, hcp, hnames⟩ := State.names_spec hnm
  obtain ⟨dk1, cf, hdk1, hcf, hpool⟩ := State.poolOf?_spec hd hcp
  obtain rfl := Option.some.inj (hdk.symm.trans hdk1)
  subst hpool
  have hvt : via = true := by rw [← hv]; exact hvi
  subst hvt
  obtain ⟨ci1, nt, hent, hnt, hcn⟩ := namesOf?_method hnames
  have hI : ci1 = ci ∧ cf.constantPool[index]? = some (.interfaceMethodref ci nt) := by
    rcases hent with q | q
    · simp only [State.memberEntry?, hcp, Option.bind_eq_bind, Option.bind_some, q] at hme
      simp at hme
    · simp only [State.memberEntry?, hcp, Option.bind_eq_bind, Option.bind_some, q] at hme
      simp only [Option.some.injEq, Prod.mk.injEq] at hme
      obtain ⟨e1, -⟩ := hme
      subst e1
      exact ⟨rfl, q⟩
  obtain ⟨rfl, hI2⟩ := hI
  have hne : ci1 ≠ index := by
    intro e
    rw [e] at hcn
    simp [ConstantPool.className?, hI2] at hcn
  have hdl : dk.loader = none := by
    obtain ⟨dk2, -, -, -, q1, -, q2, -⟩ := hlinks.here
    obtain rfl := Option.some.inj (hdk.symm.trans q1)
    exact q2
  refine ⟨ci1, ⟨dk, cf, nt, x.name, x.desc, ck, ok, meth, hdk, hcf, hI2, hnt, hlinks, hne, hck, hvi, hpoly, hnone, State.faceFind_of_found hc hck hvi hpoly hnone hf, hok, hm, hdl.trans hlo.symm, hP, State.openOr_spec hd hdk hop⟩, ?_⟩
  simp [State.rightAt, hdk, hcf, hnames, hf]
theorem Gl.callI {Z : State} {own : String} {bs : ByteArray} {mx : Nat} {ret : Option FieldType} {n0 : Nat} {p : Program} {l : Launch} {e : Env} {R : Room} {s : State} {m : MethodId} {args : Array Value} {below : List Frame} {meth : Method} {c : Code} {T : State} {h : Heap} {k n : Nat} {P : Outcome → State → Prop} {L : Array Slot} {S : List Value} {pc pc' : Nat} {a0 : Array Value}
    (Y : Sd Z own bs mx ret n0 p l e R s m args below meth c T h k n) {y : MethodName} {bs2 : ByteArray} {mx2 : Nat} {ret2 : Option FieldType} {rm : Room} {as : Array Value} {Q : Option Value → Heap → Prop} {i cnt : Nat} {xi : MethodName} {C J : String} {argsL rest : List Value} {a : Addr}
    (w1 : (Jvm.Cond.methodLink own i xi).before a0 Z = true) (wd : (Jvm.Cond.declares ⟨J, xi.name, xi.desc⟩).before a0 Z = true) (wf : (Jvm.Cond.interfaceMethod xi.cls J xi.name xi.desc).before a0 Z = true) (ws : (Jvm.Cond.selects C xi y).before a0 Z = true) (w2 : (Jvm.Cond.instanceMethod y).before a0 Z = true) (wp : (Jvm.Cond.publicMethod y).before a0 Z = true) (wu : (Jvm.Cond.unhidden C xi.name xi.desc).before a0 Z = true) (wc : (Jvm.Cond.castable C xi.cls).before a0 Z = true) (w3 : (Jvm.Cond.initialized y.cls).before a0 Z = true) (w4 : (Jvm.Cond.code y bs2 mx2 ret2).before a0 Z = true)
    (hxo : xi.cls ≠ J) (hx0 : xi.cls ≠ "java/lang/invoke/MethodHandle" ∧ xi.cls ≠ "java/lang/invoke/VarHandle") (hnc : xi.name ≠ "clone") (E : Exa Z h a C) (hM : OMet l Z [] y bs2 mx2 ret2 rm as h n0 Q) (has : (.ref a :: argsL).toArray = as) (hS : S = argsL.reverse ++ .ref a :: rest)
    (hlen : ∀ sig, parseMethodDescriptor xi.desc = some sig → argsL.length = sig.parameters.length) (hL : L.size = mx) (hf : rm.frames + 1 ≤ R.frames) (hl : (rest.map fun v => v.category).sum + (mx2 + 11) + rm.locals ≤ R.locals) (hc : k + rm.cells ≤ R.cells) (hs : n + rm.slots ≤ R.slots)
    (hd : decode bs pc = .ok (.invokeinterface i cnt, 5)) (hp : pc + 5 = pc') (q : ∀ v T' h', Sd Z own bs mx ret n0 p l e R s m args below meth c T' h' (k + rm.cells) (n + rm.slots) → Q v h' → Gl p e below P (T'.setTop (mkF m pc' L (v.toList ++ rest)))) : Gl p e below P (T.setTop (mkF m pc L S)) := by
  obtain ⟨locs, X, eT, N, hn0, hx, hZ, hown, hby, hml, hrt, hlk⟩ := Y
  subst hp has hS
  have hlink := mvT (args := args) hZ w1
  obtain ⟨r0, r, hn, hrm, hstR, hsigR⟩ := Cond.declares_spec (mvT (args := args) hZ wd)
  obtain ⟨cL, kZ, r1, hcZ, hkZ, hiZ, hfZ, hnZ⟩ := Cond.interfaceMethod_spec wf
  have hcL : s.vm.findClass xi.cls = some cL := by rw [hZ.alike.findClass]; exact hcZ
  obtain ⟨kL, hkL, hkE⟩ := hZ.alike.2.2 _ _ hkZ
  have hiL : kL.isInterface = true := by rw [hkE]; exact hiZ
  have hfd : s.methodFound? xi.cls xi.name xi.desc = some r1 := (State.methodFound?_setVm (s := Z) hZ.alike xi.cls xi.name xi.desc).trans hfZ
  have hn1 : s.methodNamed? ⟨J, xi.name, xi.desc⟩ = some r1 := (State.methodNamed?_setVm (s := Z) hZ.alike ⟨J, xi.name, xi.desc⟩).trans hnZ
  obtain rfl := Option.some.inj (hn.symm.trans hn1)
  obtain ⟨hnR, hdR⟩ := name_of_methodNamed hn hrm
  obtain ⟨ok, hok, hokn⟩ := className_of_methodNamed hn
  have hmO : ok.methods[r0.idx]? = some r := by simpa [Vm.method?, hok] using hrm
  obtain ⟨kL2, hkL2, hnL⟩ := Vm.findClass_spec hcL
  obtain rfl := Option.some.inj (hkL.symm.trans hkL2)
  have hnone : kL.findMethod xi.name xi.desc = none := by
    rcases hj : kL.findMethod xi.name xi.desc with _ | j
    · rfl
    · exfalso
      have hsm : (kL.methods[j]?).isSome := by
        obtain ⟨hlt, -, -⟩ := Array.findIdx?_eq_some_iff_getElem.mp hj
        simp [hlt]
      have h2 := State.methodFound?_declared hcL hkL (fun z => by simp [signaturePolymorphic, hnL, hx0.1, hx0.2]) hj hsm
      have e1 : r0 = ⟨cL, j⟩ := Option.some.inj (hfd.symm.trans h2)
      rw [e1] at hok
      obtain rfl := Option.some.inj (hkL.symm.trans hok)
      exact hxo (hnL.symm.trans hokn)
  have hpl : e.platform.magicAccessors = ({} : Platform).magicAccessors := by rw [X.admits.platform]
  obtain ⟨ci, hl1, hrt1⟩ := own_linkFF hown hcL hkL hiL hnone hfd hok hmO hx0 hnc hlink e.platform hpl
  have hE : s.MethodEntryUp e T.vm m.cls i cL r0 ci := State.methodEntryFF X.warmed hl1 hrt1
  -- the receiver and what is selected
  obtain ⟨cq, kq, qa, qb, qc⟩ := isOf hZ eT E
  obtain ⟨cell, hcell, hcls, hst⟩ := qc
  obtain ⟨mk, mm, hnamed, hmm, -, hab⟩ := Cond.instanceMethod_spec (mvT (args := args) hZ w2)
  obtain ⟨c2, r2, m2, q1, q2, q3, q4, -⟩ := Cond.selects_spec (mvT (args := args) hZ ws)
  obtain rfl := Option.some.inj (qa.symm.trans q1)
  obtain rfl := Option.some.inj (hfd.symm.trans q2)
  obtain rfl := Option.some.inj (hnamed.symm.trans q3)
  have hsel : selectMethod e.platform s.vm cell.cls r0 = .method mk := by rw [Launch.admits_selectMethod X.admits, hcls]; exact q4
  have hpub := Cond.publicMethod_spec hnamed hmm (mvT (args := args) hZ wp)
  have hway : ((cell.cls :: s.vm.superclasses cell.cls).any fun k => (declaredIn s.vm r.name r.desc k).any fun (_, z) => z.isPrivate || z.isStatic) = false := by
    rw [hnR, hdR, hcls]; exact Cond.unhidden_spec qa (mvT (args := args) hZ wu)
  obtain ⟨c3, t3, v1, v2, v3⟩ := Cond.castable_spec (mvT (args := args) hZ wc)
  obtain rfl := Option.some.inj (qa.symm.trans v1)
  obtain rfl := Option.some.inj (hcL.symm.trans v2)
  have A := hE.warmed.alike
  obtain ⟨dk, cfile, nt, _, _, ck, _, _, hdk, hcf, hcp, -, -, -, hck, hvia, -⟩ := hl1.here
  obtain ⟨dk2, hdk2, hres⟩ := hE.classReady
  obtain ⟨dk3, hdk3, hed⟩ := A.2.2 _ _ hdk
  obtain rfl := Option.some.inj (hdk2.symm.trans hdk3)
  obtain ⟨ck2, hck2, hec⟩ := A.2.2 _ _ hck
  obtain ⟨kc2, hkc2, -⟩ := A.2.2 _ _ qb
  have X1 := X.noted hE.warmed
  have step : ∀ target, (∀ acts, Steps p.tables e below (doInvoke e ((T.setVm (T.vm.calledUp m.cls ci i cL r0)).setTop (mkF m pc L rest)) acts mk (.ref a :: argsL).toArray).1 target) → Steps p.tables e below (T.setTop (mkF m pc L (argsL.reverse ++ .ref a :: rest))) target := by
    intro target go
    have hdg : decode c.code (mkF m pc L (argsL.reverse ++ .ref a :: rest)).pc = .ok (.invokeinterface i cnt, 5) := hb hby hd
    jvm_step X.here [hx, hdg, invokeinterface.wp_coldFace (e := e) (s := T) (s₀ := s) (f := mkF m pc L (argsL.reverse ++ .ref a :: rest)) (count := cnt) X.here.top X.warmed hE hdk hcf (Or.inr hcp) hck hvia,
      invokeinterface.wp_ready (e := e) (s := T.setVm (T.vm.calledUp m.cls ci i cL r0)) (f := mkF m pc L (argsL.reverse ++ .ref a :: rest)) (count := cnt) (r := r) (meth := mm) (m := mk) (args := argsL) (rest := rest) (cell := cell) (kcell := kc2) (ck := dk2) (nk := ck2) (cf := cfile) (ci := ci) (nt := nt) (named := cL)
        X.here.top hE.ready ((A.method? r0).trans hrm) hstR (hlen _ hsigR) rfl hcell (fun z hz => by rw [hz] at hst; cases hst) (by rw [hcls]; exact hkc2) hdk2 (by rw [hed]; exact hcf) hcp hres hck2 (by rw [hec]; exact hvia)
        ((A.assignable cell.cls cL).trans (by rw [hcls]; exact v3)) ((A.selectMethod e.platform cell.cls r0).trans hsel) ((A.method? mk).trans hmm)
        (Or.inr (Or.inr (by simp only [show (T.setVm (T.vm.calledUp m.cls ci i cL r0)).vm = T.vm.calledUp m.cls ci i cL r0 from rfl, A.superclasses, A.declaredIn]; exact hway))) (Or.inl hpub) hab]
    exact go
  have hK := backOf (Q := fun v h' L => Q v h' ∧ Fr n0 L) (p := p) (e := e) (below := below) (args := args) (len := 5) (W := (rest.map fun v => v.category).sum) (R := R) (OMet.un hM) hZ w4 w3 hf hl
  obtain ⟨v, ⟨T', L', k', n'⟩, X', hB, st⟩ := hK m meth c ⟨T.setVm (T.vm.calledUp m.cls ci i cL r0), locs, k, n⟩ (mkF m pc L rest) (.invokeinterface i cnt) mk (.ref a :: argsL).toArray X1 rfl (by rw [hml]; exact hL) (hb hby hd) (by show 2 * 0 + (rest.map fun v => v.category).sum ≤ (rest.map fun v => v.category).sum; omega) (X1.named hnamed) ⟨rfl, eT, hc, hs⟩
  obtain ⟨Lc, ⟨hQ, NL⟩, l1, l2, l3⟩ := hB
  dsimp only [Pt.U, Pt.locs, Pt.cells, Pt.slots] at X' l1 l2 l3 st hQ
  subst l1 l2 l3
  exact Gl.via ((step _ fun acts => by rw [doInvoke_state]; exact Steps.refl _).trans st) (q v T' T'.heap ⟨_, X', rfl, Fr.app N NL, hn0, hx, hZ, hown, hby, hml, hrt, hlk⟩ hQ)
end Jvm.OwnWk

namespace Jvm.Pilot.@@N@@
open Jvm Jvm.ClassFile Sem Op Lib Jvm.Free Jvm.Stand Jvm.LawKit Jvm.RoadKit Bundle Jvm.OwnWk Jvm.Pilot.@@N@@.Jvm.D
abbrev HW (a0 : Array Value) (Z : State) : Prop := ∀ d ∈ tables_1, d.before a0 Z = true
theorem dA_0 : decode jdk_22_method_1_code 0 = .ok (.aload_n 0, 1) := by decide +kernel
theorem dA_1 : decode jdk_22_method_1_code 1 = .ok (.invokespecial 1, 3) := by decide +kernel
theorem tw_21 {a0 : Array Value} {Z : State} (hw : HW a0 Z) : (Jvm.Cond.methodLink "java/util/AbstractCollection" (1 : Nat) ({ cls := "java/lang/Object", name := "<init>", desc := "()V" } : Jvm.MethodName)).before a0 Z = true := hw _ (List.mem_of_getElem? (i := 21) rfl)
theorem tw_7 {a0 : Array Value} {Z : State} (hw : HW a0 Z) : (Jvm.Cond.instanceMethod ({ cls := "java/lang/Object", name := "<init>", desc := "()V" } : Jvm.MethodName)).before a0 Z = true := hw _ (List.mem_of_getElem? (i := 7) rfl)
theorem tw_8 {a0 : Array Value} {Z : State} (hw : HW a0 Z) : (Jvm.Cond.code ({ cls := "java/lang/Object", name := "<init>", desc := "()V" } : Jvm.MethodName) object_method_1_code (1 : Nat) (Option.none : Option Jvm.ClassFile.FieldType)).before a0 Z = true := hw _ (List.mem_of_getElem? (i := 8) rfl)
theorem dA_4 : decode jdk_22_method_1_code 4 = .ok (.return_, 1) := by decide +kernel
def R0 : Room := { frames := 1, cells := 0, slots := 0, locals := 12 }
def Q0 (Z : State) (a : Addr) (h0 : Heap) (v : Option Value) (h : Heap) : Prop := v = none ∧ h0 = h
theorem ef0 (a : Addr) (m : MethodId) : entryFrame m #[(.ref a)] 1 = mkF m 0 #[.val (.ref a)] [] := by first | (simp [entryFrame, mkF, argsToLocals, Value.category]; done) | rfl
theorem pn_0 : plainName "java/util/AbstractCollection" = true := by first | (simp [plainName, overriddenIn]; done) | decide +kernel
theorem rm0 (l : Launch) (Z : State) (a0 : Array Value) (hw : HW a0 Z) (ws : List Jvm.Cond) (a : Addr) (h0 : Heap) (n0 : Nat) (Z0 : n0 ≤ h0.size) : OMet l Z ws (⟨"java/util/AbstractCollection", "<init>", "()V"⟩ : MethodName) jdk_22_method_1_code 1 none R0 #[(.ref a)] h0 n0 (Q0 Z a h0) := by
  refine OMet.of (own := "java/util/AbstractCollection") rfl (plainFor_of_name pn_0) (ef0 a) Z0 ?_
  intro p e s m below meth c T0 Y0 hnm
  refine Gl.aloadN Y0 rfl rfl dA_0 rfl ?_
  refine Gl.initO Y0 (tw_21 hw) (tw_7 hw) (tw_8 hw) rfl (by decide) (Nat.le_of_ble_eq_true rfl) dA_1 rfl (fun T1 Y1 => ?_)
  exact Gl.retV Y1 (by decide) (by decide)  dA_4 ⟨rfl, rfl⟩
theorem dB_0 : decode jdk_21_method_3_code 0 = .ok (.aload_n 0, 1) := by decide +kernel
theorem dB_1 : decode jdk_21_method_3_code 1 = .ok (.invokespecial 42, 3) := by decide +kernel
theorem tw_15 {a0 : Array Value} {Z : State} (hw : HW a0 Z) : (Jvm.Cond.methodLink "java/util/ArrayDeque" (42 : Nat) ({ cls := "java/util/AbstractCollection", name := "<init>", desc := "()V" } : Jvm.MethodName)).before a0 Z = true := hw _ (List.mem_of_getElem? (i := 15) rfl)
theorem pd_0 : parseMethodDescriptor "()V" = some ⟨[], none⟩ := by decide +kernel
theorem tw_20 {a0 : Array Value} {Z : State} (hw : HW a0 Z) : (Jvm.Cond.code ({ cls := "java/util/AbstractCollection", name := "<init>", desc := "()V" } : Jvm.MethodName) jdk_22_method_1_code (1 : Nat) (Option.none : Option Jvm.ClassFile.FieldType)).before a0 Z = true := hw _ (List.mem_of_getElem? (i := 20) rfl)
theorem tw_19 {a0 : Array Value} {Z : State} (hw : HW a0 Z) : (Jvm.Cond.initialized "java/util/AbstractCollection").before a0 Z = true := hw _ (List.mem_of_getElem? (i := 19) rfl)
theorem tw_16 {a0 : Array Value} {Z : State} (hw : HW a0 Z) : (Jvm.Cond.instanceMethod ({ cls := "java/util/AbstractCollection", name := "<init>", desc := "()V" } : Jvm.MethodName)).before a0 Z = true := hw _ (List.mem_of_getElem? (i := 16) rfl)
theorem dB_4 : decode jdk_21_method_3_code 4 = .ok (.aload_n 0, 1) := by decide +kernel
theorem dB_5 : decode jdk_21_method_3_code 5 = .ok (.bipush 17, 2) := by decide +kernel
theorem dB_7 : decode jdk_21_method_3_code 7 = .ok (.anewarray 47, 3) := by decide +kernel
theorem tw_22 {a0 : Array Value} {Z : State} (hw : HW a0 Z) : (Jvm.Cond.classLink "java/util/ArrayDeque" (47 : Nat) "java/lang/Object").before a0 Z = true := hw _ (List.mem_of_getElem? (i := 22) rfl)
theorem tw_23 {a0 : Array Value} {Z : State} (hw : HW a0 Z) : (Jvm.Cond.arrayOver (Jvm.ClassFile.FieldType.object "java/lang/Object")).before a0 Z = true := hw _ (List.mem_of_getElem? (i := 23) rfl)
theorem dB_10 : decode jdk_21_method_3_code 10 = .ok (.putfield 3, 3) := by decide +kernel
theorem tw_24 {a0 : Array Value} {Z : State} (hw : HW a0 Z) : (Jvm.Cond.fieldLink "java/util/ArrayDeque" (3 : Nat) "java/util/ArrayDeque" "elements" "[Ljava/lang/Object;").before a0 Z = true := hw _ (List.mem_of_getElem? (i := 24) rfl)
theorem tw_25 {a0 : Array Value} {Z : State} (hw : HW a0 Z) : (Jvm.Cond.lays "java/util/ArrayDeque" "java/util/ArrayDeque" "elements" "[Ljava/lang/Object;").before a0 Z = true := hw _ (List.mem_of_getElem? (i := 25) rfl)
theorem tw_10 {a0 : Array Value} {Z : State} (hw : HW a0 Z) : (Jvm.Cond.instantiable "java/util/ArrayDeque" (3 : Nat)).before a0 Z = true := hw _ (List.mem_of_getElem? (i := 10) rfl)
theorem dB_13 : decode jdk_21_method_3_code 13 = .ok (.return_, 1) := by decide +kernel
theorem tw_55 {a0 : Array Value} {Z : State} (hw : HW a0 Z) : (Jvm.Cond.lays "java/util/ArrayDeque" "java/util/ArrayDeque" "head" "I").before a0 Z = true := hw _ (List.mem_of_getElem? (i := 55) rfl)
theorem tw_57 {a0 : Array Value} {Z : State} (hw : HW a0 Z) : (Jvm.Cond.lays "java/util/ArrayDeque" "java/util/ArrayDeque" "tail" "I").before a0 Z = true := hw _ (List.mem_of_getElem? (i := 57) rfl)
def R1 : Room := { frames := 2, cells := 1, slots := 17, locals := 24 }
def Q1 (Z : State) (a : Addr) (h0 : Heap) (v : Option Value) (h : Heap) : Prop := v = none ∧ Keep h0 h [a] ∧ Exa Z h a "java/util/ArrayDeque" ∧ Fld Z h a "java/util/ArrayDeque" "head" "I" (.int 0) ∧ Fld Z h a "java/util/ArrayDeque" "tail" "I" (.int 0)
theorem ef1 (a : Addr) (m : MethodId) : entryFrame m #[(.ref a)] 1 = mkF m 0 #[.val (.ref a)] [] := by first | (simp [entryFrame, mkF, argsToLocals, Value.category]; done) | rfl
theorem pn_1 : plainName "java/util/ArrayDeque" = true := by first | (simp [plainName, overriddenIn]; done) | decide +kernel
theorem rm1 (l : Launch) (Z : State) (a0 : Array Value) (hw : HW a0 Z) (ws : List Jvm.Cond) (a : Addr) (h0 : Heap) (n0 : Nat) (Z0 : n0 ≤ h0.size) (E : Exa Z h0 a "java/util/ArrayDeque") (F1 : Fld Z h0 a "java/util/ArrayDeque" "elements" "[Ljava/lang/Object;" .null) (F2 : Fld Z h0 a "java/util/ArrayDeque" "head" "I" (.int 0)) (F3 : Fld Z h0 a "java/util/ArrayDeque" "tail" "I" (.int 0)) (ga : n0 ≤ a) : OMet l Z ws (⟨"java/util/ArrayDeque", "<init>", "()V"⟩ : MethodName) jdk_21_method_3_code 1 none R1 #[(.ref a)] h0 n0 (Q1 Z a h0) := by
  refine OMet.of (own := "java/util/ArrayDeque") rfl (plainFor_of_name pn_1) (ef1 a) Z0 ?_
  intro p e s m below meth c T0 Y0 hnm
  refine Gl.aloadN Y0 rfl rfl dB_0 rfl ?_
  refine Gl.callN Y0 rfl (tw_15 hw) (tw_16 hw) (tw_19 hw) (tw_20 hw) (by decide) (rm0 l Z a0 hw [] a h0 n0 Y0.sz) (a := a) (argsL := []) (rest := []) rfl rfl (lenOf pd_0 rfl) rfl (by decide) (Nat.le_of_ble_eq_true rfl) (by decide) (by decide) dB_1 rfl (fun v1 T1 h1 Y1 q1 => ?_)
  obtain ⟨rfl, rfl⟩ := q1
  show Gl p e below _ (T1.setTop (mkF m 4 _ []))
  refine Gl.aloadN Y1 rfl rfl dB_4 rfl ?_
  refine Gl.bipush Y1 (v := (17 : Int32)) (by decide) dB_5 rfl ?_
  refine Gl.newR Y1 17 (tw_22 hw) (tw_23 hw) (by decide) (by decide) (by decide) (by decide) (by decide) dB_7 rfl (fun T7 h7 b7 ck7 Y7 E7 g7 sb7 V7 => ?_)
  have zb7 : h0.size ≤ b7 := Nat.le_trans (Keep.refl h0 [a]).1 (Nat.le_of_eq g7.symm)
  have K7 : Keep h0 h7 [a] := (Keep.refl h0 [a]).ext E7
  show Gl p e below _ (T7.setTop (mkF m 10 _ [(.ref b7), (.ref a)]))
  have f1 := (Fld.ext E7 F1)
  have f2 := (Exa.ext E7 E)
  refine Gl.putF Y7 (host := "") (Or.inl (tw_24 hw)) Via.refl f1 f2 (Or.inl (tw_25 hw)) (tw_10 hw) ga (ty := (.array (.object "java/lang/Object"))) (by decide) rfl rfl dB_10 rfl (fun T10 h10 Y10 W10 => ?_)
  have f3 : Fld Z h10 a "java/util/ArrayDeque" "elements" "[Ljava/lang/Object;" (.ref b7) := Fld.same W10 f1
  have K10 : Keep h0 h10 [a] := K7.wr W10 (Or.inl (List.mem_of_getElem? (i := 0) rfl))
  have f4 := (Exa.wr W10 f2)
  have f5 := (Fld.other W10 (Fld.ext E7 F2) (Or.inr (slot_ne (Or.inl (tw_55 hw)) (Or.inl (tw_25 hw)) (by decide) (t := .int) (t' := (.array (.object "java/lang/Object"))) (by decide) (by decide))))
  have f6 := (Fld.other W10 (Fld.ext E7 F3) (Or.inr (slot_ne (Or.inl (tw_57 hw)) (Or.inl (tw_25 hw)) (by decide) (t := .int) (t' := (.array (.object "java/lang/Object"))) (by decide) (by decide))))
  exact Gl.retV Y10 (by decide) (by decide)  dB_13 ⟨rfl, K10, f4, f5, f6⟩
theorem dC_0 : decode prog_19_method_1_code 0 = .ok (.aload_n 0, 1) := by decide +kernel
theorem dC_1 : decode prog_19_method_1_code 1 = .ok (.invokespecial 1, 3) := by decide +kernel
theorem tw_6 {a0 : Array Value} {Z : State} (hw : HW a0 Z) : (Jvm.Cond.methodLink "com/example/entrole/entrole/model/UndoLog" (1 : Nat) ({ cls := "java/lang/Object", name := "<init>", desc := "()V" } : Jvm.MethodName)).before a0 Z = true := hw _ (List.mem_of_getElem? (i := 6) rfl)
theorem dC_4 : decode prog_19_method_1_code 4 = .ok (.aload_n 0, 1) := by decide +kernel
theorem dC_5 : decode prog_19_method_1_code 5 = .ok (.new 7, 3) := by decide +kernel
theorem tw_9 {a0 : Array Value} {Z : State} (hw : HW a0 Z) : (Jvm.Cond.classLink "com/example/entrole/entrole/model/UndoLog" (7 : Nat) "java/util/ArrayDeque").before a0 Z = true := hw _ (List.mem_of_getElem? (i := 9) rfl)
theorem tw_11 {a0 : Array Value} {Z : State} (hw : HW a0 Z) : (Jvm.Cond.initialized "java/util/ArrayDeque").before a0 Z = true := hw _ (List.mem_of_getElem? (i := 11) rfl)
theorem dC_8 : decode prog_19_method_1_code 8 = .ok (.dup, 1) := by decide +kernel
theorem dC_9 : decode prog_19_method_1_code 9 = .ok (.invokespecial 9, 3) := by decide +kernel
theorem tw_12 {a0 : Array Value} {Z : State} (hw : HW a0 Z) : (Jvm.Cond.methodLink "com/example/entrole/entrole/model/UndoLog" (9 : Nat) ({ cls := "java/util/ArrayDeque", name := "<init>", desc := "()V" } : Jvm.MethodName)).before a0 Z = true := hw _ (List.mem_of_getElem? (i := 12) rfl)
theorem tw_14 {a0 : Array Value} {Z : State} (hw : HW a0 Z) : (Jvm.Cond.code ({ cls := "java/util/ArrayDeque", name := "<init>", desc := "()V" } : Jvm.MethodName) jdk_21_method_3_code (1 : Nat) (Option.none : Option Jvm.ClassFile.FieldType)).before a0 Z = true := hw _ (List.mem_of_getElem? (i := 14) rfl)
theorem tw_13 {a0 : Array Value} {Z : State} (hw : HW a0 Z) : (Jvm.Cond.instanceMethod ({ cls := "java/util/ArrayDeque", name := "<init>", desc := "()V" } : Jvm.MethodName)).before a0 Z = true := hw _ (List.mem_of_getElem? (i := 13) rfl)
theorem dC_12 : decode prog_19_method_1_code 12 = .ok (.putfield 10, 3) := by decide +kernel
theorem tw_26 {a0 : Array Value} {Z : State} (hw : HW a0 Z) : (Jvm.Cond.fieldLink "com/example/entrole/entrole/model/UndoLog" (10 : Nat) "com/example/entrole/entrole/model/UndoLog" "steps" "Ljava/util/Deque;").before a0 Z = true := hw _ (List.mem_of_getElem? (i := 26) rfl)
theorem tw_27 {a0 : Array Value} {Z : State} (hw : HW a0 Z) : (Jvm.Cond.laysFinal "com/example/entrole/entrole/model/UndoLog" "com/example/entrole/entrole/model/UndoLog" "steps" "Ljava/util/Deque;").before a0 Z = true := hw _ (List.mem_of_getElem? (i := 27) rfl)
theorem tw_1 {a0 : Array Value} {Z : State} (hw : HW a0 Z) : (Jvm.Cond.instantiable "com/example/entrole/entrole/model/UndoLog" (2 : Nat)).before a0 Z = true := hw _ (List.mem_of_getElem? (i := 1) rfl)
theorem dC_15 : decode prog_19_method_1_code 15 = .ok (.return_, 1) := by decide +kernel
theorem tw_34 {a0 : Array Value} {Z : State} (hw : HW a0 Z) : (Jvm.Cond.lays "com/example/entrole/entrole/model/UndoLog" "com/example/entrole/entrole/model/UndoLog" "inTrial" "Z").before a0 Z = true := hw _ (List.mem_of_getElem? (i := 34) rfl)
def R2 : Room := { frames := 3, cells := 2, slots := 20, locals := 38 }
def Q2 (Z : State) (a : Addr) (h0 : Heap) (v : Option Value) (h : Heap) : Prop := ∃ d : Addr, v = none ∧ Keep h0 h [a] ∧ h0.size ≤ d ∧ Exa Z h a "com/example/entrole/entrole/model/UndoLog" ∧ Fld Z h a "com/example/entrole/entrole/model/UndoLog" "steps" "Ljava/util/Deque;" (.ref d) ∧ Fld Z h a "com/example/entrole/entrole/model/UndoLog" "inTrial" "Z" (.int 0) ∧ Exa Z h d "java/util/ArrayDeque" ∧ Fld Z h d "java/util/ArrayDeque" "head" "I" (.int 0) ∧ Fld Z h d "java/util/ArrayDeque" "tail" "I" (.int 0)
theorem ef2 (a : Addr) (m : MethodId) : entryFrame m #[(.ref a)] 1 = mkF m 0 #[.val (.ref a)] [] := by first | (simp [entryFrame, mkF, argsToLocals, Value.category]; done) | rfl
theorem pn_2 : plainName "com/example/entrole/entrole/model/UndoLog" = true := by first | (simp [plainName, overriddenIn]; done) | decide +kernel
theorem rm2 (l : Launch) (Z : State) (a0 : Array Value) (hw : HW a0 Z) (ws : List Jvm.Cond) (a : Addr) (h0 : Heap) (n0 : Nat) (Z0 : n0 ≤ h0.size) (E : Exa Z h0 a "com/example/entrole/entrole/model/UndoLog") (F1 : Fld Z h0 a "com/example/entrole/entrole/model/UndoLog" "steps" "Ljava/util/Deque;" .null) (F2 : Fld Z h0 a "com/example/entrole/entrole/model/UndoLog" "inTrial" "Z" (.int 0)) (ga : n0 ≤ a) : OMet l Z ws (⟨"com/example/entrole/entrole/model/UndoLog", "<init>", "()V"⟩ : MethodName) prog_19_method_1_code 1 none R2 #[(.ref a)] h0 n0 (Q2 Z a h0) := by
  refine OMet.of (own := "com/example/entrole/entrole/model/UndoLog") rfl (plainFor_of_name pn_2) (ef2 a) Z0 ?_
  intro p e s m below meth c T0 Y0 hnm
  refine Gl.aloadN Y0 rfl rfl dC_0 rfl ?_
  refine Gl.initO Y0 (tw_6 hw) (tw_7 hw) (tw_8 hw) rfl (by decide) (Nat.le_of_ble_eq_true rfl) dC_1 rfl (fun T1 Y1 => ?_)
  refine Gl.aloadN Y1 rfl rfl dC_4 rfl ?_
  refine Gl.newO Y1 (tw_9 hw) (tw_10 hw) (tw_11 hw) (by decide) (by decide) dC_5 rfl (fun T5 h5 b5 Y5 E5 g5 sb5 X5 D5 => ?_)
  have f1 : Fld Z h5 b5 "java/util/ArrayDeque" "elements" "[Ljava/lang/Object;" .null := D5 (Or.inl (tw_25 hw)) (ty := (.array (.object "java/lang/Object"))) (by decide)
  have f2 : Fld Z h5 b5 "java/util/ArrayDeque" "head" "I" (.int 0) := D5 (Or.inl (tw_55 hw)) (ty := .int) (by decide)
  have f3 : Fld Z h5 b5 "java/util/ArrayDeque" "tail" "I" (.int 0) := D5 (Or.inl (tw_57 hw)) (ty := .int) (by decide)
  have zb5 : h0.size ≤ b5 := Nat.le_trans (Keep.refl h0 [a]).1 (Nat.le_of_eq g5.symm)
  have K5 : Keep h0 h5 [a] := (Keep.refl h0 [a]).ext E5
  show Gl p e below _ (T5.setTop (mkF m 8 _ [(.ref b5), (.ref a)]))
  refine Gl.dup Y5 rfl dC_8 rfl ?_
  refine Gl.callN Y5 rfl (tw_12 hw) (tw_13 hw) (tw_11 hw) (tw_14 hw) (by decide) (rm1 l Z a0 hw [] b5 h5 n0 Y5.sz X5 f1 f2 f3 sb5) (a := b5) (argsL := []) (rest := [(.ref b5), (.ref a)]) rfl rfl (lenOf pd_0 rfl) rfl (by decide) (Nat.le_of_ble_eq_true rfl) (by decide) (by decide) dC_9 rfl (fun v9 T9 h9 Y9 q9 => ?_)
  obtain ⟨rfl, K9, f9_0, f9_1, f9_2⟩ := q9
  have KK9 : Keep h0 h9 [a] := K5.trans K9 (allS (Or.inr zb5) all0)
  show Gl p e below _ (T9.setTop (mkF m 12 _ [(.ref b5), (.ref a)]))
  have f4 := ((Fld.ext E5 F1).keep K9 (ninS (Nat.ne_of_lt (Nat.lt_of_lt_of_eq E.lt g5.symm)) nin0))
  have f5 := ((Exa.ext E5 E).keep K9)
  refine Gl.putF Y9 (host := "") (Or.inl (tw_26 hw)) Via.refl f4 f5 (Or.inr ⟨(tw_27 hw), rfl, hnm⟩) (tw_1 hw) ga (ty := (.object "java/util/Deque")) (by decide) rfl rfl dC_12 rfl (fun T12 h12 Y12 W12 => ?_)
  have f6 : Fld Z h12 a "com/example/entrole/entrole/model/UndoLog" "steps" "Ljava/util/Deque;" (.ref b5) := Fld.same W12 f4
  have K12 : Keep h0 h12 [a] := KK9.wr W12 (Or.inl (List.mem_of_getElem? (i := 0) rfl))
  have f7 := (Exa.wr W12 f5)
  have f8 := (Fld.other W12 ((Fld.ext E5 F2).keep K9 (ninS (Nat.ne_of_lt (Nat.lt_of_lt_of_eq E.lt g5.symm)) nin0)) (Or.inr (slot_ne (Or.inl (tw_34 hw)) (Or.inr (tw_27 hw)) (by decide) (t := .boolean) (t' := (.object "java/util/Deque")) (by decide) (by decide))))
  have f9 := (Exa.wr W12 f9_0)
  have f10 := (Fld.other W12 f9_1 (Or.inl (Ne.symm (Nat.ne_of_lt (Nat.lt_of_lt_of_eq E.lt g5.symm)))))
  have f11 := (Fld.other W12 f9_2 (Or.inl (Ne.symm (Nat.ne_of_lt (Nat.lt_of_lt_of_eq E.lt g5.symm)))))
  exact Gl.retV Y12 (by decide) (by decide)  dC_15 ⟨b5, rfl, K12, zb5, f7, (by first | exact f6 | (subst_vars; exact f6) | (rw [PF]; exact f6)), f8, f9, f10, f11⟩
theorem dD_0 : decode jdk_21_method_38_code 0 = .ok (.aload_n 0, 1) := by decide +kernel
theorem dD_1 : decode jdk_21_method_38_code 1 = .ok (.getfield 24, 3) := by decide +kernel
theorem tw_54 {a0 : Array Value} {Z : State} (hw : HW a0 Z) : (Jvm.Cond.fieldLink "java/util/ArrayDeque" (24 : Nat) "java/util/ArrayDeque" "head" "I").before a0 Z = true := hw _ (List.mem_of_getElem? (i := 54) rfl)
theorem dD_4 : decode jdk_21_method_38_code 4 = .ok (.aload_n 0, 1) := by decide +kernel
theorem dD_5 : decode jdk_21_method_38_code 5 = .ok (.getfield 20, 3) := by decide +kernel
theorem tw_56 {a0 : Array Value} {Z : State} (hw : HW a0 Z) : (Jvm.Cond.fieldLink "java/util/ArrayDeque" (20 : Nat) "java/util/ArrayDeque" "tail" "I").before a0 Z = true := hw _ (List.mem_of_getElem? (i := 56) rfl)
theorem dD_8 : decode jdk_21_method_38_code 8 = .ok (.if_icmp .ne 7, 3) := by decide +kernel
theorem dD_11 : decode jdk_21_method_38_code 11 = .ok (.iconst 1, 1) := by decide +kernel
theorem dD_12 : decode jdk_21_method_38_code 12 = .ok (.goto 4, 3) := by decide +kernel
theorem dD_16 : decode jdk_21_method_38_code 16 = .ok (.ireturn, 1) := by decide +kernel
def R3 : Room := { frames := 0, cells := 0, slots := 0, locals := 0 }
def Q3 (Z : State) (a : Addr) (h0 : Heap) (v : Option Value) (h : Heap) : Prop := v = some (.int 1) ∧ h0 = h
theorem ef3 (a : Addr) (m : MethodId) : entryFrame m #[(.ref a)] 1 = mkF m 0 #[.val (.ref a)] [] := by first | (simp [entryFrame, mkF, argsToLocals, Value.category]; done) | rfl
theorem rm3 (l : Launch) (Z : State) (a0 : Array Value) (hw : HW a0 Z) (ws : List Jvm.Cond) (a : Addr) (h0 : Heap) (n0 : Nat) (Z0 : n0 ≤ h0.size) (F2 : Fld Z h0 a "java/util/ArrayDeque" "head" "I" (.int 0)) (F3 : Fld Z h0 a "java/util/ArrayDeque" "tail" "I" (.int 0)) : OMet l Z ws (⟨"java/util/ArrayDeque", "isEmpty", "()Z"⟩ : MethodName) jdk_21_method_38_code 1 (some .boolean) R3 #[(.ref a)] h0 n0 (Q3 Z a h0) := by
  refine OMet.of (own := "java/util/ArrayDeque") rfl (plainFor_of_name pn_1) (ef3 a) Z0 ?_
  intro p e s m below meth c T0 Y0 hnm
  refine Gl.aloadN Y0 rfl rfl dD_0 rfl ?_
  refine Gl.getF Y0 (host := "") (Or.inl (tw_54 hw)) Via.refl F2 dD_1 rfl (fun T1 Y1 => ?_)
  refine Gl.aloadN Y1 rfl rfl dD_4 rfl ?_
  refine Gl.getF Y1 (host := "") (Or.inl (tw_56 hw)) Via.refl F3 dD_5 rfl (fun T5 Y5 => ?_)
  refine Gl.icmpne Y5 dD_8 (by decide) rfl rfl (fun c8 => ?_) (fun c8 => ?_)
  · exact absurd c8 (by decide)
  refine Gl.iconst Y5 (v := (1 : Int32)) (by decide) dD_11 rfl ?_
  refine Gl.goto Y5 dD_12 (by decide) rfl ?_
  exact Gl.retZ Y5 (by decide) (by decide) (x' := (1 : Int32)) (by decide) dD_16 ⟨rfl, rfl⟩
theorem dE_0 : decode prog_19_method_3_code 0 = .ok (.aload_n 0, 1) := by decide +kernel
theorem dE_1 : decode prog_19_method_3_code 1 = .ok (.getfield 16, 3) := by decide +kernel
theorem tw_33 {a0 : Array Value} {Z : State} (hw : HW a0 Z) : (Jvm.Cond.fieldLink "com/example/entrole/entrole/model/UndoLog" (16 : Nat) "com/example/entrole/entrole/model/UndoLog" "inTrial" "Z").before a0 Z = true := hw _ (List.mem_of_getElem? (i := 33) rfl)
theorem dE_4 : decode prog_19_method_3_code 4 = .ok (.ireturn, 1) := by decide +kernel
def R4 : Room := { frames := 0, cells := 0, slots := 0, locals := 0 }
def Q4 (Z : State) (a : Addr) (d : Addr) (h0 : Heap) (v : Option Value) (h : Heap) : Prop := v = some (.int 0) ∧ h0 = h
theorem ef4 (a : Addr) (m : MethodId) : entryFrame m #[(.ref a)] 1 = mkF m 0 #[.val (.ref a)] [] := by first | (simp [entryFrame, mkF, argsToLocals, Value.category]; done) | rfl
theorem rm4 (l : Launch) (Z : State) (a0 : Array Value) (hw : HW a0 Z) (ws : List Jvm.Cond) (a : Addr) (d : Addr) (h0 : Heap) (n0 : Nat) (Z0 : n0 ≤ h0.size) (E : Exa Z h0 a "com/example/entrole/entrole/model/UndoLog") (F1 : Fld Z h0 a "com/example/entrole/entrole/model/UndoLog" "steps" "Ljava/util/Deque;" (.ref d)) (F2 : Fld Z h0 a "com/example/entrole/entrole/model/UndoLog" "inTrial" "Z" (.int 0)) : OMet l Z ws (⟨"com/example/entrole/entrole/model/UndoLog", "inTrial", "()Z"⟩ : MethodName) prog_19_method_3_code 1 (some .boolean) R4 #[(.ref a)] h0 n0 (Q4 Z a d h0) := by
  refine OMet.of (own := "com/example/entrole/entrole/model/UndoLog") rfl (plainFor_of_name pn_2) (ef4 a) Z0 ?_
  intro p e s m below meth c T0 Y0 hnm
  refine Gl.aloadN Y0 rfl rfl dE_0 rfl ?_
  refine Gl.getF Y0 (host := "") (Or.inl (tw_33 hw)) Via.refl F2 dE_1 rfl (fun T1 Y1 => ?_)
  exact Gl.retZ Y1 (by decide) (by decide) (x' := (0 : Int32)) (by decide) dE_4 ⟨rfl, rfl⟩
theorem dF_0 : decode prog_19_method_2_code 0 = .ok (.aload_n 0, 1) := by decide +kernel
theorem dF_1 : decode prog_19_method_2_code 1 = .ok (.getfield 16, 3) := by decide +kernel
theorem dF_4 : decode prog_19_method_2_code 4 = .ok (.ifCond .eq 13, 3) := by decide +kernel
theorem dF_17 : decode prog_19_method_2_code 17 = .ok (.aload_n 0, 1) := by decide +kernel
theorem dF_18 : decode prog_19_method_2_code 18 = .ok (.iconst 1, 1) := by decide +kernel
theorem dF_19 : decode prog_19_method_2_code 19 = .ok (.putfield 16, 3) := by decide +kernel
theorem dF_22 : decode prog_19_method_2_code 22 = .ok (.return_, 1) := by decide +kernel
def R5 : Room := { frames := 0, cells := 0, slots := 0, locals := 0 }
def Q5 (Z : State) (a : Addr) (d : Addr) (h0 : Heap) (v : Option Value) (h : Heap) : Prop := v = none ∧ Keep h0 h [a] ∧ Exa Z h a "com/example/entrole/entrole/model/UndoLog" ∧ Fld Z h a "com/example/entrole/entrole/model/UndoLog" "steps" "Ljava/util/Deque;" (.ref d) ∧ Fld Z h a "com/example/entrole/entrole/model/UndoLog" "inTrial" "Z" (.int 1)
theorem ef5 (a : Addr) (m : MethodId) : entryFrame m #[(.ref a)] 1 = mkF m 0 #[.val (.ref a)] [] := by first | (simp [entryFrame, mkF, argsToLocals, Value.category]; done) | rfl
theorem rm5 (l : Launch) (Z : State) (a0 : Array Value) (hw : HW a0 Z) (ws : List Jvm.Cond) (a : Addr) (d : Addr) (h0 : Heap) (n0 : Nat) (Z0 : n0 ≤ h0.size) (E : Exa Z h0 a "com/example/entrole/entrole/model/UndoLog") (F1 : Fld Z h0 a "com/example/entrole/entrole/model/UndoLog" "steps" "Ljava/util/Deque;" (.ref d)) (F2 : Fld Z h0 a "com/example/entrole/entrole/model/UndoLog" "inTrial" "Z" (.int 0)) (ga : n0 ≤ a) : OMet l Z ws (⟨"com/example/entrole/entrole/model/UndoLog", "beginTrial", "()V"⟩ : MethodName) prog_19_method_2_code 1 none R5 #[(.ref a)] h0 n0 (Q5 Z a d h0) := by
  refine OMet.of (own := "com/example/entrole/entrole/model/UndoLog") rfl (plainFor_of_name pn_2) (ef5 a) Z0 ?_
  intro p e s m below meth c T0 Y0 hnm
  refine Gl.aloadN Y0 rfl rfl dF_0 rfl ?_
  refine Gl.getF Y0 (host := "") (Or.inl (tw_33 hw)) Via.refl F2 dF_1 rfl (fun T1 Y1 => ?_)
  refine Gl.ifeq Y1 dF_4 (by decide) rfl rfl (fun c4 => ?_) (fun c4 => ?_)
  rotate_left
  · exact absurd c4 (by decide)
  refine Gl.aloadN Y1 rfl rfl dF_17 rfl ?_
  refine Gl.iconst Y1 (v := (1 : Int32)) (by decide) dF_18 rfl ?_
  refine Gl.putFN Y1 (tw_33 hw) Via.refl F2 E (Or.inl (tw_34 hw)) (tw_1 hw) ga (ty := .boolean) (by decide) (v' := (.int 1)) (by decide) (by decide) dF_19 rfl (fun T19 h19 Y19 W19 => ?_)
  have f1 : Fld Z h19 a "com/example/entrole/entrole/model/UndoLog" "inTrial" "Z" (.int 1) := Fld.same W19 F2
  have K19 : Keep h0 h19 [a] := (Keep.refl h0 [a]).wr W19 (Or.inl (List.mem_of_getElem? (i := 0) rfl))
  have f2 := (Exa.wr W19 E)
  have f3 := (Fld.other W19 F1 (Or.inr (slot_ne (Or.inr (tw_27 hw)) (Or.inl (tw_34 hw)) (by decide) (t := (.object "java/util/Deque")) (t' := .boolean) (by decide) (by decide))))
  exact Gl.retV Y19 (by decide) (by decide)  dF_22 ⟨rfl, K19, f2, f3, f1⟩
theorem dG_0 : decode prog_19_method_5_code 0 = .ok (.aload_n 0, 1) := by decide +kernel
theorem dG_1 : decode prog_19_method_5_code 1 = .ok (.iconst 0, 1) := by decide +kernel
theorem dG_2 : decode prog_19_method_5_code 2 = .ok (.putfield 16, 3) := by decide +kernel
theorem dG_5 : decode prog_19_method_5_code 5 = .ok (.aload_n 0, 1) := by decide +kernel
theorem dG_6 : decode prog_19_method_5_code 6 = .ok (.getfield 10, 3) := by decide +kernel
theorem dG_9 : decode prog_19_method_5_code 9 = .ok (.invokeinterface 33 1, 5) := by decide +kernel
theorem tw_45 {a0 : Array Value} {Z : State} (hw : HW a0 Z) : (Jvm.Cond.methodLink "com/example/entrole/entrole/model/UndoLog" (33 : Nat) ({ cls := "java/util/Deque", name := "isEmpty", desc := "()Z" } : Jvm.MethodName)).before a0 Z = true := hw _ (List.mem_of_getElem? (i := 45) rfl)
theorem pd_1 : parseMethodDescriptor "()Z" = some ⟨[], some .boolean⟩ := by decide +kernel
theorem tw_53 {a0 : Array Value} {Z : State} (hw : HW a0 Z) : (Jvm.Cond.code ({ cls := "java/util/ArrayDeque", name := "isEmpty", desc := "()Z" } : Jvm.MethodName) jdk_21_method_38_code (1 : Nat) (Option.some Jvm.ClassFile.FieldType.boolean)).before a0 Z = true := hw _ (List.mem_of_getElem? (i := 53) rfl)
theorem tw_46 {a0 : Array Value} {Z : State} (hw : HW a0 Z) : (Jvm.Cond.declares ({ cls := "java/util/Collection", name := "isEmpty", desc := "()Z" } : Jvm.MethodName)).before a0 Z = true := hw _ (List.mem_of_getElem? (i := 46) rfl)
theorem tw_47 {a0 : Array Value} {Z : State} (hw : HW a0 Z) : (Jvm.Cond.interfaceMethod "java/util/Deque" "java/util/Collection" "isEmpty" "()Z").before a0 Z = true := hw _ (List.mem_of_getElem? (i := 47) rfl)
theorem tw_48 {a0 : Array Value} {Z : State} (hw : HW a0 Z) : (Jvm.Cond.selects "java/util/ArrayDeque" ({ cls := "java/util/Deque", name := "isEmpty", desc := "()Z" } : Jvm.MethodName) ({ cls := "java/util/ArrayDeque", name := "isEmpty", desc := "()Z" } : Jvm.MethodName)).before a0 Z = true := hw _ (List.mem_of_getElem? (i := 48) rfl)
theorem tw_49 {a0 : Array Value} {Z : State} (hw : HW a0 Z) : (Jvm.Cond.instanceMethod ({ cls := "java/util/ArrayDeque", name := "isEmpty", desc := "()Z" } : Jvm.MethodName)).before a0 Z = true := hw _ (List.mem_of_getElem? (i := 49) rfl)
theorem tw_50 {a0 : Array Value} {Z : State} (hw : HW a0 Z) : (Jvm.Cond.publicMethod ({ cls := "java/util/ArrayDeque", name := "isEmpty", desc := "()Z" } : Jvm.MethodName)).before a0 Z = true := hw _ (List.mem_of_getElem? (i := 50) rfl)
theorem tw_51 {a0 : Array Value} {Z : State} (hw : HW a0 Z) : (Jvm.Cond.unhidden "java/util/ArrayDeque" "isEmpty" "()Z").before a0 Z = true := hw _ (List.mem_of_getElem? (i := 51) rfl)
theorem tw_52 {a0 : Array Value} {Z : State} (hw : HW a0 Z) : (Jvm.Cond.castable "java/util/ArrayDeque" "java/util/Deque").before a0 Z = true := hw _ (List.mem_of_getElem? (i := 52) rfl)
theorem dG_14 : decode prog_19_method_5_code 14 = .ok (.ifCond .ne 23, 3) := by decide +kernel
theorem dG_37 : decode prog_19_method_5_code 37 = .ok (.return_, 1) := by decide +kernel
def R6 : Room := { frames := 1, cells := 0, slots := 0, locals := 12 }
def Q6 (Z : State) (a : Addr) (d : Addr) (h0 : Heap) (v : Option Value) (h : Heap) : Prop := v = none ∧ Keep h0 h [a] ∧ Exa Z h a "com/example/entrole/entrole/model/UndoLog" ∧ Fld Z h a "com/example/entrole/entrole/model/UndoLog" "steps" "Ljava/util/Deque;" (.ref d) ∧ Fld Z h a "com/example/entrole/entrole/model/UndoLog" "inTrial" "Z" (.int 0)
theorem ef6 (a : Addr) (m : MethodId) : entryFrame m #[(.ref a)] 1 = mkF m 0 #[.val (.ref a)] [] := by first | (simp [entryFrame, mkF, argsToLocals, Value.category]; done) | rfl
theorem rm6 (l : Launch) (Z : State) (a0 : Array Value) (hw : HW a0 Z) (ws : List Jvm.Cond) (a : Addr) (d : Addr) (h0 : Heap) (n0 : Nat) (Z0 : n0 ≤ h0.size) (E : Exa Z h0 a "com/example/entrole/entrole/model/UndoLog") (F1 : Fld Z h0 a "com/example/entrole/entrole/model/UndoLog" "steps" "Ljava/util/Deque;" (.ref d)) (F2 : Fld Z h0 a "com/example/entrole/entrole/model/UndoLog" "inTrial" "Z" (.int 0)) (ga : n0 ≤ a) (nad : own_ne d a) (E2 : Exa Z h0 d "java/util/ArrayDeque") (G1 : Fld Z h0 d "java/util/ArrayDeque" "head" "I" (.int 0)) (G2 : Fld Z h0 d "java/util/ArrayDeque" "tail" "I" (.int 0)) : OMet l Z ws (⟨"com/example/entrole/entrole/model/UndoLog", "rollBack", "()V"⟩ : MethodName) prog_19_method_5_code 1 none R6 #[(.ref a)] h0 n0 (Q6 Z a d h0) := by
  refine OMet.of (own := "com/example/entrole/entrole/model/UndoLog") rfl (plainFor_of_name pn_2) (ef6 a) Z0 ?_
  intro p e s m below meth c T0 Y0 hnm
  refine Gl.aloadN Y0 rfl rfl dG_0 rfl ?_
  refine Gl.iconst Y0 (v := (0 : Int32)) (by decide) dG_1 rfl ?_
  refine Gl.putFN Y0 (tw_33 hw) Via.refl F2 E (Or.inl (tw_34 hw)) (tw_1 hw) ga (ty := .boolean) (by decide) (v' := (.int 0)) (by decide) (by decide) dG_2 rfl (fun T2 h2 Y2 W2 => ?_)
  have f1 : Fld Z h2 a "com/example/entrole/entrole/model/UndoLog" "inTrial" "Z" (.int 0) := Fld.same W2 F2
  have K2 : Keep h0 h2 [a] := (Keep.refl h0 [a]).wr W2 (Or.inl (List.mem_of_getElem? (i := 0) rfl))
  refine Gl.aloadN Y2 rfl rfl dG_5 rfl ?_
  have f2 := (Fld.other W2 F1 (Or.inr (slot_ne (Or.inr (tw_27 hw)) (Or.inl (tw_34 hw)) (by decide) (t := (.object "java/util/Deque")) (t' := .boolean) (by decide) (by decide))))
  refine Gl.getF Y2 (host := "") (Or.inl (tw_26 hw)) Via.refl f2 dG_6 rfl (fun T6 Y6 => ?_)
  have f3 := (Fld.other W2 G1 (Or.inl nad))
  have f4 := (Fld.other W2 G2 (Or.inl nad))
  have f5 := (Exa.wr W2 E2)
  refine Gl.callI Y6 (tw_45 hw) (tw_46 hw) (tw_47 hw) (tw_48 hw) (tw_49 hw) (tw_50 hw) (tw_51 hw) (tw_52 hw) (tw_11 hw) (tw_53 hw) (by decide) (by decide) (by decide) f5 (rm3 l Z a0 hw [] d h2 n0 Y6.sz f3 f4) (a := d) (argsL := []) (rest := []) rfl rfl (lenOf pd_1 rfl) rfl (by decide) (Nat.le_of_ble_eq_true rfl) (by decide) (by decide) dG_9 rfl (fun v9 T9 h9 Y9 q9 => ?_)
  obtain ⟨rfl, rfl⟩ := q9
  show Gl p e below _ (T9.setTop (mkF m 14 _ [(.int 1)]))
  refine Gl.ifne Y9 dG_14 (by decide) rfl rfl (fun c14 => ?_) (fun c14 => ?_)
  rotate_left
  · exact absurd c14 (by decide)
  have f6 := (Exa.wr W2 E)
  exact Gl.retV Y9 (by decide) (by decide)  dG_37 ⟨rfl, K2, f6, f2, f1⟩
def R7 : Room := { frames := 0, cells := 0, slots := 0, locals := 0 }
def Q7 (Z : State) (a : Addr) (d : Addr) (h0 : Heap) (v : Option Value) (h : Heap) : Prop := v = some (.int 1) ∧ h0 = h
theorem ef7 (a : Addr) (m : MethodId) : entryFrame m #[(.ref a)] 1 = mkF m 0 #[.val (.ref a)] [] := by first | (simp [entryFrame, mkF, argsToLocals, Value.category]; done) | rfl
theorem rm7 (l : Launch) (Z : State) (a0 : Array Value) (hw : HW a0 Z) (ws : List Jvm.Cond) (a : Addr) (d : Addr) (h0 : Heap) (n0 : Nat) (Z0 : n0 ≤ h0.size) (E : Exa Z h0 a "com/example/entrole/entrole/model/UndoLog") (F1 : Fld Z h0 a "com/example/entrole/entrole/model/UndoLog" "steps" "Ljava/util/Deque;" (.ref d)) (F2 : Fld Z h0 a "com/example/entrole/entrole/model/UndoLog" "inTrial" "Z" (.int 1)) : OMet l Z ws (⟨"com/example/entrole/entrole/model/UndoLog", "inTrial", "()Z"⟩ : MethodName) prog_19_method_3_code 1 (some .boolean) R7 #[(.ref a)] h0 n0 (Q7 Z a d h0) := by
  refine OMet.of (own := "com/example/entrole/entrole/model/UndoLog") rfl (plainFor_of_name pn_2) (ef7 a) Z0 ?_
  intro p e s m below meth c T0 Y0 hnm
  refine Gl.aloadN Y0 rfl rfl dE_0 rfl ?_
  refine Gl.getF Y0 (host := "") (Or.inl (tw_33 hw)) Via.refl F2 dE_1 rfl (fun T1 Y1 => ?_)
  exact Gl.retZ Y1 (by decide) (by decide) (x' := (1 : Int32)) (by decide) dE_4 ⟨rfl, rfl⟩
def R8 : Room := { frames := 1, cells := 0, slots := 0, locals := 12 }
def Q8 (Z : State) (a : Addr) (d : Addr) (h0 : Heap) (v : Option Value) (h : Heap) : Prop := v = none ∧ Keep h0 h [a] ∧ Exa Z h a "com/example/entrole/entrole/model/UndoLog" ∧ Fld Z h a "com/example/entrole/entrole/model/UndoLog" "steps" "Ljava/util/Deque;" (.ref d) ∧ Fld Z h a "com/example/entrole/entrole/model/UndoLog" "inTrial" "Z" (.int 0)
theorem ef8 (a : Addr) (m : MethodId) : entryFrame m #[(.ref a)] 1 = mkF m 0 #[.val (.ref a)] [] := by first | (simp [entryFrame, mkF, argsToLocals, Value.category]; done) | rfl
theorem rm8 (l : Launch) (Z : State) (a0 : Array Value) (hw : HW a0 Z) (ws : List Jvm.Cond) (a : Addr) (d : Addr) (h0 : Heap) (n0 : Nat) (Z0 : n0 ≤ h0.size) (E : Exa Z h0 a "com/example/entrole/entrole/model/UndoLog") (F1 : Fld Z h0 a "com/example/entrole/entrole/model/UndoLog" "steps" "Ljava/util/Deque;" (.ref d)) (F2 : Fld Z h0 a "com/example/entrole/entrole/model/UndoLog" "inTrial" "Z" (.int 1)) (ga : n0 ≤ a) (nad : own_ne d a) (E2 : Exa Z h0 d "java/util/ArrayDeque") (G1 : Fld Z h0 d "java/util/ArrayDeque" "head" "I" (.int 0)) (G2 : Fld Z h0 d "java/util/ArrayDeque" "tail" "I" (.int 0)) : OMet l Z ws (⟨"com/example/entrole/entrole/model/UndoLog", "rollBack", "()V"⟩ : MethodName) prog_19_method_5_code 1 none R8 #[(.ref a)] h0 n0 (Q8 Z a d h0) := by
  refine OMet.of (own := "com/example/entrole/entrole/model/UndoLog") rfl (plainFor_of_name pn_2) (ef8 a) Z0 ?_
  intro p e s m below meth c T0 Y0 hnm
  refine Gl.aloadN Y0 rfl rfl dG_0 rfl ?_
  refine Gl.iconst Y0 (v := (0 : Int32)) (by decide) dG_1 rfl ?_
  refine Gl.putFN Y0 (tw_33 hw) Via.refl F2 E (Or.inl (tw_34 hw)) (tw_1 hw) ga (ty := .boolean) (by decide) (v' := (.int 0)) (by decide) (by decide) dG_2 rfl (fun T2 h2 Y2 W2 => ?_)
  have f1 : Fld Z h2 a "com/example/entrole/entrole/model/UndoLog" "inTrial" "Z" (.int 0) := Fld.same W2 F2
  have K2 : Keep h0 h2 [a] := (Keep.refl h0 [a]).wr W2 (Or.inl (List.mem_of_getElem? (i := 0) rfl))
  refine Gl.aloadN Y2 rfl rfl dG_5 rfl ?_
  have f2 := (Fld.other W2 F1 (Or.inr (slot_ne (Or.inr (tw_27 hw)) (Or.inl (tw_34 hw)) (by decide) (t := (.object "java/util/Deque")) (t' := .boolean) (by decide) (by decide))))
  refine Gl.getF Y2 (host := "") (Or.inl (tw_26 hw)) Via.refl f2 dG_6 rfl (fun T6 Y6 => ?_)
  have f3 := (Fld.other W2 G1 (Or.inl nad))
  have f4 := (Fld.other W2 G2 (Or.inl nad))
  have f5 := (Exa.wr W2 E2)
  refine Gl.callI Y6 (tw_45 hw) (tw_46 hw) (tw_47 hw) (tw_48 hw) (tw_49 hw) (tw_50 hw) (tw_51 hw) (tw_52 hw) (tw_11 hw) (tw_53 hw) (by decide) (by decide) (by decide) f5 (rm3 l Z a0 hw [] d h2 n0 Y6.sz f3 f4) (a := d) (argsL := []) (rest := []) rfl rfl (lenOf pd_1 rfl) rfl (by decide) (Nat.le_of_ble_eq_true rfl) (by decide) (by decide) dG_9 rfl (fun v9 T9 h9 Y9 q9 => ?_)
  obtain ⟨rfl, rfl⟩ := q9
  show Gl p e below _ (T9.setTop (mkF m 14 _ [(.int 1)]))
  refine Gl.ifne Y9 dG_14 (by decide) rfl rfl (fun c14 => ?_) (fun c14 => ?_)
  rotate_left
  · exact absurd c14 (by decide)
  have f6 := (Exa.wr W2 E)
  exact Gl.retV Y9 (by decide) (by decide)  dG_37 ⟨rfl, K2, f6, f2, f1⟩
theorem own_k3 {a v : Int32} (h : a &&& (3 : Int32) = v) : v = 0 ∨ v = 1 ∨ v = 2 ∨ v = 3 := by
  have q := c_mask a (3 : Int32) 2 (by decide) (by decide)
  rw [h] at q
  exact own_c3 (by omega) (by omega)
theorem tw_0 {a0 : Array Value} {Z : State} (hw : HW a0 Z) : (Jvm.Cond.classLink "com/example/entrole/entrole/model/UndoLogBeginTrialPinLaw" (7 : Nat) "com/example/entrole/entrole/model/UndoLog").before a0 Z = true := hw _ (List.mem_of_getElem? (i := 0) rfl)
theorem tw_2 {a0 : Array Value} {Z : State} (hw : HW a0 Z) : (Jvm.Cond.initialized "com/example/entrole/entrole/model/UndoLog").before a0 Z = true := hw _ (List.mem_of_getElem? (i := 2) rfl)
theorem tw_3 {a0 : Array Value} {Z : State} (hw : HW a0 Z) : (Jvm.Cond.methodLink "com/example/entrole/entrole/model/UndoLogBeginTrialPinLaw" (9 : Nat) ({ cls := "com/example/entrole/entrole/model/UndoLog", name := "<init>", desc := "()V" } : Jvm.MethodName)).before a0 Z = true := hw _ (List.mem_of_getElem? (i := 3) rfl)
theorem tw_5 {a0 : Array Value} {Z : State} (hw : HW a0 Z) : (Jvm.Cond.code ({ cls := "com/example/entrole/entrole/model/UndoLog", name := "<init>", desc := "()V" } : Jvm.MethodName) prog_19_method_1_code (1 : Nat) (Option.none : Option Jvm.ClassFile.FieldType)).before a0 Z = true := hw _ (List.mem_of_getElem? (i := 5) rfl)
theorem tw_4 {a0 : Array Value} {Z : State} (hw : HW a0 Z) : (Jvm.Cond.instanceMethod ({ cls := "com/example/entrole/entrole/model/UndoLog", name := "<init>", desc := "()V" } : Jvm.MethodName)).before a0 Z = true := hw _ (List.mem_of_getElem? (i := 4) rfl)
theorem tw_28 {a0 : Array Value} {Z : State} (hw : HW a0 Z) : (Jvm.Cond.methodLink "com/example/entrole/entrole/model/UndoLogBeginTrialPinLaw" (10 : Nat) ({ cls := "com/example/entrole/entrole/model/UndoLog", name := "inTrial", desc := "()Z" } : Jvm.MethodName)).before a0 Z = true := hw _ (List.mem_of_getElem? (i := 28) rfl)
theorem tw_32 {a0 : Array Value} {Z : State} (hw : HW a0 Z) : (Jvm.Cond.code ({ cls := "com/example/entrole/entrole/model/UndoLog", name := "inTrial", desc := "()Z" } : Jvm.MethodName) prog_19_method_3_code (1 : Nat) (Option.some Jvm.ClassFile.FieldType.boolean)).before a0 Z = true := hw _ (List.mem_of_getElem? (i := 32) rfl)
theorem tw_29 {a0 : Array Value} {Z : State} (hw : HW a0 Z) : (Jvm.Cond.declares ({ cls := "com/example/entrole/entrole/model/UndoLog", name := "inTrial", desc := "()Z" } : Jvm.MethodName)).before a0 Z = true := hw _ (List.mem_of_getElem? (i := 29) rfl)
theorem tw_31 {a0 : Array Value} {Z : State} (hw : HW a0 Z) : (Jvm.Cond.selects "com/example/entrole/entrole/model/UndoLog" ({ cls := "com/example/entrole/entrole/model/UndoLog", name := "inTrial", desc := "()Z" } : Jvm.MethodName) ({ cls := "com/example/entrole/entrole/model/UndoLog", name := "inTrial", desc := "()Z" } : Jvm.MethodName)).before a0 Z = true := hw _ (List.mem_of_getElem? (i := 31) rfl)
theorem tw_30 {a0 : Array Value} {Z : State} (hw : HW a0 Z) : (Jvm.Cond.instanceMethod ({ cls := "com/example/entrole/entrole/model/UndoLog", name := "inTrial", desc := "()Z" } : Jvm.MethodName)).before a0 Z = true := hw _ (List.mem_of_getElem? (i := 30) rfl)
theorem tw_35 {a0 : Array Value} {Z : State} (hw : HW a0 Z) : (Jvm.Cond.methodLink "com/example/entrole/entrole/model/UndoLogBeginTrialPinLaw" (14 : Nat) ({ cls := "com/example/entrole/entrole/model/UndoLog", name := "beginTrial", desc := "()V" } : Jvm.MethodName)).before a0 Z = true := hw _ (List.mem_of_getElem? (i := 35) rfl)
theorem tw_39 {a0 : Array Value} {Z : State} (hw : HW a0 Z) : (Jvm.Cond.code ({ cls := "com/example/entrole/entrole/model/UndoLog", name := "beginTrial", desc := "()V" } : Jvm.MethodName) prog_19_method_2_code (1 : Nat) (Option.none : Option Jvm.ClassFile.FieldType)).before a0 Z = true := hw _ (List.mem_of_getElem? (i := 39) rfl)
theorem tw_36 {a0 : Array Value} {Z : State} (hw : HW a0 Z) : (Jvm.Cond.declares ({ cls := "com/example/entrole/entrole/model/UndoLog", name := "beginTrial", desc := "()V" } : Jvm.MethodName)).before a0 Z = true := hw _ (List.mem_of_getElem? (i := 36) rfl)
theorem tw_38 {a0 : Array Value} {Z : State} (hw : HW a0 Z) : (Jvm.Cond.selects "com/example/entrole/entrole/model/UndoLog" ({ cls := "com/example/entrole/entrole/model/UndoLog", name := "beginTrial", desc := "()V" } : Jvm.MethodName) ({ cls := "com/example/entrole/entrole/model/UndoLog", name := "beginTrial", desc := "()V" } : Jvm.MethodName)).before a0 Z = true := hw _ (List.mem_of_getElem? (i := 38) rfl)
theorem tw_37 {a0 : Array Value} {Z : State} (hw : HW a0 Z) : (Jvm.Cond.instanceMethod ({ cls := "com/example/entrole/entrole/model/UndoLog", name := "beginTrial", desc := "()V" } : Jvm.MethodName)).before a0 Z = true := hw _ (List.mem_of_getElem? (i := 37) rfl)
theorem tw_40 {a0 : Array Value} {Z : State} (hw : HW a0 Z) : (Jvm.Cond.methodLink "com/example/entrole/entrole/model/UndoLogBeginTrialPinLaw" (17 : Nat) ({ cls := "com/example/entrole/entrole/model/UndoLog", name := "rollBack", desc := "()V" } : Jvm.MethodName)).before a0 Z = true := hw _ (List.mem_of_getElem? (i := 40) rfl)
theorem tw_44 {a0 : Array Value} {Z : State} (hw : HW a0 Z) : (Jvm.Cond.code ({ cls := "com/example/entrole/entrole/model/UndoLog", name := "rollBack", desc := "()V" } : Jvm.MethodName) prog_19_method_5_code (1 : Nat) (Option.none : Option Jvm.ClassFile.FieldType)).before a0 Z = true := hw _ (List.mem_of_getElem? (i := 44) rfl)
theorem tw_41 {a0 : Array Value} {Z : State} (hw : HW a0 Z) : (Jvm.Cond.declares ({ cls := "com/example/entrole/entrole/model/UndoLog", name := "rollBack", desc := "()V" } : Jvm.MethodName)).before a0 Z = true := hw _ (List.mem_of_getElem? (i := 41) rfl)
theorem tw_43 {a0 : Array Value} {Z : State} (hw : HW a0 Z) : (Jvm.Cond.selects "com/example/entrole/entrole/model/UndoLog" ({ cls := "com/example/entrole/entrole/model/UndoLog", name := "rollBack", desc := "()V" } : Jvm.MethodName) ({ cls := "com/example/entrole/entrole/model/UndoLog", name := "rollBack", desc := "()V" } : Jvm.MethodName)).before a0 Z = true := hw _ (List.mem_of_getElem? (i := 43) rfl)
theorem tw_42 {a0 : Array Value} {Z : State} (hw : HW a0 Z) : (Jvm.Cond.instanceMethod ({ cls := "com/example/entrole/entrole/model/UndoLog", name := "rollBack", desc := "()V" } : Jvm.MethodName)).before a0 Z = true := hw _ (List.mem_of_getElem? (i := 42) rfl)
def QL (Z : State) (kk : Int32) (h0 : Heap) (v : Option Value) (h : Heap) : Prop := v = some (.int 1)
theorem efL (kk : Int32) (m : MethodId) : entryFrame m #[(.int kk)] maxLocals = mkF m 0 #[.val (.int kk), .unset, .unset, .unset, .unset, .unset] [] := by first | (simp [entryFrame, mkF, argsToLocals, Value.category, maxLocals]; done) | rfl
theorem pn_3 : plainName "com/example/entrole/entrole/model/UndoLogBeginTrialPinLaw" = true := by first | (simp [plainName, overriddenIn]; done) | decide +kernel
theorem rmL (l : Launch) (Z : State) (a0 : Array Value) (hw : HW a0 Z) (ws : List Jvm.Cond) (kk : Int32) (h0 : Heap) (n0 : Nat) (Z0 : n0 ≤ h0.size) : OMet l Z ws x code maxLocals ret room_1 #[(.int kk)] h0 n0 (QL Z kk h0) := by
  refine OMet.of (own := "com/example/entrole/entrole/model/UndoLogBeginTrialPinLaw") rfl (plainFor_of_name pn_3) (efL kk) Z0 ?_
  intro p e s m below meth c T0 Y0 hnm
  refine Gl.newO Y0 (tw_0 hw) (tw_1 hw) (tw_2 hw) (by decide) (by decide) at_0 rfl (fun T0_2 h0_2 b0_2 Y0_2 E0_2 g0_2 sb0_2 X0_2 D0_2 => ?_)
  have f1 : Fld Z h0_2 b0_2 "com/example/entrole/entrole/model/UndoLog" "steps" "Ljava/util/Deque;" .null := D0_2 (Or.inr (tw_27 hw)) (ty := (.object "java/util/Deque")) (by decide)
  have f2 : Fld Z h0_2 b0_2 "com/example/entrole/entrole/model/UndoLog" "inTrial" "Z" (.int 0) := D0_2 (Or.inl (tw_34 hw)) (ty := .boolean) (by decide)
  show Gl p e below _ (T0_2.setTop (mkF m 3 _ [(.ref b0_2)]))
  refine Gl.dup Y0_2 rfl at_3 rfl ?_
  refine Gl.callN Y0_2 rfl (tw_3 hw) (tw_4 hw) (tw_2 hw) (tw_5 hw) (by decide) (rm2 l Z a0 hw [] b0_2 h0_2 n0 Y0_2.sz X0_2 f1 f2 sb0_2) (a := b0_2) (argsL := []) (rest := [(.ref b0_2)]) rfl rfl (lenOf pd_0 rfl) rfl (by decide) (Nat.le_of_ble_eq_true rfl) (by decide) (by decide) at_4 rfl (fun v4 T4 h4 Y4 q4 => ?_)
  obtain ⟨d4, rfl, K4, f4_0, f4_1, f4_2, f4_3, f4_4, f4_5, f4_6⟩ := q4
  have Y4_sz : n0 ≤ h0_2.size := Y0_2.sz
  show Gl p e below _ (T4.setTop (mkF m 7 _ [(.ref b0_2)]))
  refine Gl.astoreN Y4 rfl (L' := #[.val (.int kk), .val (.ref b0_2), .unset, .unset, .unset, .unset]) rfl at_7 rfl ?_
  refine Gl.iloadN Y4 rfl at_8 rfl ?_
  refine Gl.iconst Y4 (v := (3 : Int32)) (by decide) at_9 rfl ?_
  obtain ⟨v10, hv10⟩ : ∃ z : Int32, kk &&& (3 : Int32) = z := ⟨_, rfl⟩
  refine Gl.iand Y4 hv10 at_10 rfl ?_
  refine Gl.istoreN Y4 (L' := #[.val (.int kk), .val (.ref b0_2), .val (.int v10), .unset, .unset, .unset]) rfl at_11 rfl ?_
  have cs_v10 : v10 = (0 : Int32) ∨ v10 = (1 : Int32) ∨ v10 = (2 : Int32) ∨ v10 = (3 : Int32) := own_k3 hv10
  rcases cs_v10 with rfl | rfl | rfl | rfl
  · refine Gl.aloadN Y4 rfl rfl at_12 rfl ?_
    refine Gl.callV Y4 (tw_28 hw) (tw_29 hw) (tw_31 hw) (tw_31 hw) (tw_30 hw) (tw_2 hw) (tw_32 hw) (by decide) f4_1 (rm4 l Z a0 hw [] b0_2 d4 h4 n0 Y4.sz f4_1 f4_2 f4_3) (a := b0_2) (argsL := []) (rest := []) rfl rfl (lenOf pd_1 rfl) rfl (by decide) (Nat.le_of_ble_eq_true rfl) (by decide) (by decide) at_13 rfl (fun v13 T13 h13 Y13 q13 => ?_)
    obtain ⟨rfl, rfl⟩ := q13
    show Gl p e below _ (T13.setTop (mkF m 16 _ [(.int 0)]))
    refine Gl.ifne Y13 at_16 (by decide) rfl rfl (fun c16 => ?_) (fun c16 => ?_)
    · exact absurd c16 (by decide)
    refine Gl.iconst Y13 (v := (1 : Int32)) (by decide) at_19 rfl ?_
    refine Gl.goto Y13 at_20 (by decide) rfl ?_
    refine Gl.istoreN Y13 (L' := #[.val (.int kk), .val (.ref b0_2), .val (.int 0), .val (.int 1), .unset, .unset]) rfl at_24 rfl ?_
    refine Gl.iloadN Y13 rfl at_25 rfl ?_
    refine Gl.iconst Y13 (v := (1 : Int32)) (by decide) at_26 rfl ?_
    refine Gl.icmplt Y13 at_27 (by decide) rfl rfl (fun c27 => ?_) (fun c27 => ?_)
    rotate_left
    · exact absurd c27 (by decide)
    refine Gl.iloadN Y13 rfl at_72 rfl ?_
    refine Gl.iconst Y13 (v := (2 : Int32)) (by decide) at_73 rfl ?_
    refine Gl.icmplt Y13 at_74 (by decide) rfl rfl (fun c74 => ?_) (fun c74 => ?_)
    rotate_left
    · exact absurd c74 (by decide)
    refine Gl.iloadN Y13 rfl at_98 rfl ?_
    refine Gl.iconst Y13 (v := (3 : Int32)) (by decide) at_99 rfl ?_
    refine Gl.icmplt Y13 at_100 (by decide) rfl rfl (fun c100 => ?_) (fun c100 => ?_)
    rotate_left
    · exact absurd c100 (by decide)
    refine Gl.aloadN Y13 rfl rfl at_111 rfl ?_
    refine Gl.callV Y13 (tw_28 hw) (tw_29 hw) (tw_31 hw) (tw_31 hw) (tw_30 hw) (tw_2 hw) (tw_32 hw) (by decide) f4_1 (rm4 l Z a0 hw [] b0_2 d4 h4 n0 Y13.sz f4_1 f4_2 f4_3) (a := b0_2) (argsL := []) (rest := []) rfl rfl (lenOf pd_1 rfl) rfl (by decide) (Nat.le_of_ble_eq_true rfl) (by decide) (by decide) at_112 rfl (fun v112 T112 h112 Y112 q112 => ?_)
    obtain ⟨rfl, rfl⟩ := q112
    show Gl p e below _ (T112.setTop (mkF m 115 _ [(.int 0)]))
    refine Gl.istore Y112 (L' := #[.val (.int kk), .val (.ref b0_2), .val (.int 0), .val (.int 1), .val (.int 0), .unset]) rfl at_115 rfl ?_
    refine Gl.aloadN Y112 rfl rfl at_117 rfl ?_
    refine Gl.callV Y112 (tw_35 hw) (tw_36 hw) (tw_38 hw) (tw_38 hw) (tw_37 hw) (tw_2 hw) (tw_39 hw) (by decide) f4_1 (rm5 l Z a0 hw [] b0_2 d4 h4 n0 Y112.sz f4_1 f4_2 f4_3 sb0_2) (a := b0_2) (argsL := []) (rest := []) rfl rfl (lenOf pd_0 rfl) rfl (by decide) (Nat.le_of_ble_eq_true rfl) (by decide) (by decide) at_118 rfl (fun v118 T118 h118 Y118 q118 => ?_)
    obtain ⟨rfl, K118, f118_0, f118_1, f118_2⟩ := q118
    show Gl p e below _ (T118.setTop (mkF m 121 _ []))
    refine Gl.aloadN Y118 rfl rfl at_121 rfl ?_
    refine Gl.callV Y118 (tw_28 hw) (tw_29 hw) (tw_31 hw) (tw_31 hw) (tw_30 hw) (tw_2 hw) (tw_32 hw) (by decide) f118_0 (rm7 l Z a0 hw [] b0_2 d4 h118 n0 Y118.sz f118_0 f118_1 f118_2) (a := b0_2) (argsL := []) (rest := []) rfl rfl (lenOf pd_1 rfl) rfl (by decide) (Nat.le_of_ble_eq_true rfl) (by decide) (by decide) at_122 rfl (fun v122 T122 h122 Y122 q122 => ?_)
    obtain ⟨rfl, rfl⟩ := q122
    show Gl p e below _ (T122.setTop (mkF m 125 _ [(.int 1)]))
    refine Gl.istore Y122 (L' := #[.val (.int kk), .val (.ref b0_2), .val (.int 0), .val (.int 1), .val (.int 0), .val (.int 1)]) rfl at_125 rfl ?_
    refine Gl.iloadN Y122 rfl at_127 rfl ?_
    refine Gl.ifeq Y122 at_128 (by decide) rfl rfl (fun c128 => ?_) (fun c128 => ?_)
    · exact absurd c128 (by decide)
    refine Gl.iload Y122 rfl at_131 rfl ?_
    refine Gl.ifne Y122 at_133 (by decide) rfl rfl (fun c133 => ?_) (fun c133 => ?_)
    · exact absurd c133 (by decide)
    refine Gl.iload Y122 rfl at_136 rfl ?_
    refine Gl.ifeq Y122 at_138 (by decide) rfl rfl (fun c138 => ?_) (fun c138 => ?_)
    · exact absurd c138 (by decide)
    refine Gl.iconst Y122 (v := (1 : Int32)) (by decide) at_141 rfl ?_
    refine Gl.goto Y122 at_142 (by decide) rfl ?_
    exact Gl.retZ Y122 (by decide) (by decide) (x' := (1 : Int32)) (by decide) at_146 rfl
  · refine Gl.aloadN Y4 rfl rfl at_12 rfl ?_
    refine Gl.callV Y4 (tw_28 hw) (tw_29 hw) (tw_31 hw) (tw_31 hw) (tw_30 hw) (tw_2 hw) (tw_32 hw) (by decide) f4_1 (rm4 l Z a0 hw [] b0_2 d4 h4 n0 Y4.sz f4_1 f4_2 f4_3) (a := b0_2) (argsL := []) (rest := []) rfl rfl (lenOf pd_1 rfl) rfl (by decide) (Nat.le_of_ble_eq_true rfl) (by decide) (by decide) at_13 rfl (fun v13 T13 h13 Y13 q13 => ?_)
    obtain ⟨rfl, rfl⟩ := q13
    show Gl p e below _ (T13.setTop (mkF m 16 _ [(.int 0)]))
    refine Gl.ifne Y13 at_16 (by decide) rfl rfl (fun c16 => ?_) (fun c16 => ?_)
    · exact absurd c16 (by decide)
    refine Gl.iconst Y13 (v := (1 : Int32)) (by decide) at_19 rfl ?_
    refine Gl.goto Y13 at_20 (by decide) rfl ?_
    refine Gl.istoreN Y13 (L' := #[.val (.int kk), .val (.ref b0_2), .val (.int 1), .val (.int 1), .unset, .unset]) rfl at_24 rfl ?_
    refine Gl.iloadN Y13 rfl at_25 rfl ?_
    refine Gl.iconst Y13 (v := (1 : Int32)) (by decide) at_26 rfl ?_
    refine Gl.icmplt Y13 at_27 (by decide) rfl rfl (fun c27 => ?_) (fun c27 => ?_)
    · exact absurd c27 (by decide)
    refine Gl.aloadN Y13 rfl rfl at_30 rfl ?_
    refine Gl.callV Y13 (tw_35 hw) (tw_36 hw) (tw_38 hw) (tw_38 hw) (tw_37 hw) (tw_2 hw) (tw_39 hw) (by decide) f4_1 (rm5 l Z a0 hw [] b0_2 d4 h4 n0 Y13.sz f4_1 f4_2 f4_3 sb0_2) (a := b0_2) (argsL := []) (rest := []) rfl rfl (lenOf pd_0 rfl) rfl (by decide) (Nat.le_of_ble_eq_true rfl) (by decide) (by decide) at_31 rfl (fun v31 T31 h31 Y31 q31 => ?_)
    obtain ⟨rfl, K31, f31_0, f31_1, f31_2⟩ := q31
    show Gl p e below _ (T31.setTop (mkF m 34 _ []))
    refine Gl.iloadN Y31 rfl at_34 rfl ?_
    refine Gl.ifeq Y31 at_35 (by decide) rfl rfl (fun c35 => ?_) (fun c35 => ?_)
    · exact absurd c35 (by decide)
    refine Gl.aloadN Y31 rfl rfl at_38 rfl ?_
    refine Gl.callV Y31 (tw_28 hw) (tw_29 hw) (tw_31 hw) (tw_31 hw) (tw_30 hw) (tw_2 hw) (tw_32 hw) (by decide) f31_0 (rm7 l Z a0 hw [] b0_2 d4 h31 n0 Y31.sz f31_0 f31_1 f31_2) (a := b0_2) (argsL := []) (rest := []) rfl rfl (lenOf pd_1 rfl) rfl (by decide) (Nat.le_of_ble_eq_true rfl) (by decide) (by decide) at_39 rfl (fun v39 T39 h39 Y39 q39 => ?_)
    obtain ⟨rfl, rfl⟩ := q39
    show Gl p e below _ (T39.setTop (mkF m 42 _ [(.int 1)]))
    refine Gl.ifeq Y39 at_42 (by decide) rfl rfl (fun c42 => ?_) (fun c42 => ?_)
    · exact absurd c42 (by decide)
    refine Gl.iconst Y39 (v := (1 : Int32)) (by decide) at_45 rfl ?_
    refine Gl.goto Y39 at_46 (by decide) rfl ?_
    refine Gl.istoreN Y39 (L' := #[.val (.int kk), .val (.ref b0_2), .val (.int 1), .val (.int 1), .unset, .unset]) rfl at_50 rfl ?_
    refine Gl.aloadN Y39 rfl rfl at_51 rfl ?_
    have f3 := (f4_4.keep K31)
    have f4 := (f4_5.keep K31 (ninS (Ne.symm (Nat.ne_of_lt (Nat.lt_of_lt_of_le X0_2.lt f4_0))) nin0))
    have f5 := (f4_6.keep K31 (ninS (Ne.symm (Nat.ne_of_lt (Nat.lt_of_lt_of_le X0_2.lt f4_0))) nin0))
    refine Gl.callV Y39 (tw_40 hw) (tw_41 hw) (tw_43 hw) (tw_43 hw) (tw_42 hw) (tw_2 hw) (tw_44 hw) (by decide) f31_0 (rm8 l Z a0 hw [] b0_2 d4 h31 n0 Y39.sz f31_0 f31_1 f31_2 sb0_2 (Ne.symm (Nat.ne_of_lt (Nat.lt_of_lt_of_le X0_2.lt f4_0))) f3 f4 f5) (a := b0_2) (argsL := []) (rest := []) rfl rfl (lenOf pd_0 rfl) rfl (by decide) (Nat.le_of_ble_eq_true rfl) (by decide) (by decide) at_52 rfl (fun v52 T52 h52 Y52 q52 => ?_)
    obtain ⟨rfl, K52, f52_0, f52_1, f52_2⟩ := q52
    show Gl p e below _ (T52.setTop (mkF m 55 _ []))
    refine Gl.iloadN Y52 rfl at_55 rfl ?_
    refine Gl.ifeq Y52 at_56 (by decide) rfl rfl (fun c56 => ?_) (fun c56 => ?_)
    · exact absurd c56 (by decide)
    refine Gl.aloadN Y52 rfl rfl at_59 rfl ?_
    refine Gl.callV Y52 (tw_28 hw) (tw_29 hw) (tw_31 hw) (tw_31 hw) (tw_30 hw) (tw_2 hw) (tw_32 hw) (by decide) f52_0 (rm4 l Z a0 hw [] b0_2 d4 h52 n0 Y52.sz f52_0 f52_1 f52_2) (a := b0_2) (argsL := []) (rest := []) rfl rfl (lenOf pd_1 rfl) rfl (by decide) (Nat.le_of_ble_eq_true rfl) (by decide) (by decide) at_60 rfl (fun v60 T60 h60 Y60 q60 => ?_)
    obtain ⟨rfl, rfl⟩ := q60
    show Gl p e below _ (T60.setTop (mkF m 63 _ [(.int 0)]))
    refine Gl.ifne Y60 at_63 (by decide) rfl rfl (fun c63 => ?_) (fun c63 => ?_)
    · exact absurd c63 (by decide)
    refine Gl.iconst Y60 (v := (1 : Int32)) (by decide) at_66 rfl ?_
    refine Gl.goto Y60 at_67 (by decide) rfl ?_
    refine Gl.istoreN Y60 (L' := #[.val (.int kk), .val (.ref b0_2), .val (.int 1), .val (.int 1), .unset, .unset]) rfl at_71 rfl ?_
    refine Gl.iloadN Y60 rfl at_72 rfl ?_
    refine Gl.iconst Y60 (v := (2 : Int32)) (by decide) at_73 rfl ?_
    refine Gl.icmplt Y60 at_74 (by decide) rfl rfl (fun c74 => ?_) (fun c74 => ?_)
    rotate_left
    · exact absurd c74 (by decide)
    refine Gl.iloadN Y60 rfl at_98 rfl ?_
    refine Gl.iconst Y60 (v := (3 : Int32)) (by decide) at_99 rfl ?_
    refine Gl.icmplt Y60 at_100 (by decide) rfl rfl (fun c100 => ?_) (fun c100 => ?_)
    rotate_left
    · exact absurd c100 (by decide)
    refine Gl.aloadN Y60 rfl rfl at_111 rfl ?_
    refine Gl.callV Y60 (tw_28 hw) (tw_29 hw) (tw_31 hw) (tw_31 hw) (tw_30 hw) (tw_2 hw) (tw_32 hw) (by decide) f52_0 (rm4 l Z a0 hw [] b0_2 d4 h52 n0 Y60.sz f52_0 f52_1 f52_2) (a := b0_2) (argsL := []) (rest := []) rfl rfl (lenOf pd_1 rfl) rfl (by decide) (Nat.le_of_ble_eq_true rfl) (by decide) (by decide) at_112 rfl (fun v112 T112 h112 Y112 q112 => ?_)
    obtain ⟨rfl, rfl⟩ := q112
    show Gl p e below _ (T112.setTop (mkF m 115 _ [(.int 0)]))
    refine Gl.istore Y112 (L' := #[.val (.int kk), .val (.ref b0_2), .val (.int 1), .val (.int 1), .val (.int 0), .unset]) rfl at_115 rfl ?_
    refine Gl.aloadN Y112 rfl rfl at_117 rfl ?_
    refine Gl.callV Y112 (tw_35 hw) (tw_36 hw) (tw_38 hw) (tw_38 hw) (tw_37 hw) (tw_2 hw) (tw_39 hw) (by decide) f52_0 (rm5 l Z a0 hw [] b0_2 d4 h52 n0 Y112.sz f52_0 f52_1 f52_2 sb0_2) (a := b0_2) (argsL := []) (rest := []) rfl rfl (lenOf pd_0 rfl) rfl (by decide) (Nat.le_of_ble_eq_true rfl) (by decide) (by decide) at_118 rfl (fun v118 T118 h118 Y118 q118 => ?_)
    obtain ⟨rfl, K118, f118_0, f118_1, f118_2⟩ := q118
    show Gl p e below _ (T118.setTop (mkF m 121 _ []))
    refine Gl.aloadN Y118 rfl rfl at_121 rfl ?_
    refine Gl.callV Y118 (tw_28 hw) (tw_29 hw) (tw_31 hw) (tw_31 hw) (tw_30 hw) (tw_2 hw) (tw_32 hw) (by decide) f118_0 (rm7 l Z a0 hw [] b0_2 d4 h118 n0 Y118.sz f118_0 f118_1 f118_2) (a := b0_2) (argsL := []) (rest := []) rfl rfl (lenOf pd_1 rfl) rfl (by decide) (Nat.le_of_ble_eq_true rfl) (by decide) (by decide) at_122 rfl (fun v122 T122 h122 Y122 q122 => ?_)
    obtain ⟨rfl, rfl⟩ := q122
    show Gl p e below _ (T122.setTop (mkF m 125 _ [(.int 1)]))
    refine Gl.istore Y122 (L' := #[.val (.int kk), .val (.ref b0_2), .val (.int 1), .val (.int 1), .val (.int 0), .val (.int 1)]) rfl at_125 rfl ?_
    refine Gl.iloadN Y122 rfl at_127 rfl ?_
    refine Gl.ifeq Y122 at_128 (by decide) rfl rfl (fun c128 => ?_) (fun c128 => ?_)
    · exact absurd c128 (by decide)
    refine Gl.iload Y122 rfl at_131 rfl ?_
    refine Gl.ifne Y122 at_133 (by decide) rfl rfl (fun c133 => ?_) (fun c133 => ?_)
    · exact absurd c133 (by decide)
    refine Gl.iload Y122 rfl at_136 rfl ?_
    refine Gl.ifeq Y122 at_138 (by decide) rfl rfl (fun c138 => ?_) (fun c138 => ?_)
    · exact absurd c138 (by decide)
    refine Gl.iconst Y122 (v := (1 : Int32)) (by decide) at_141 rfl ?_
    refine Gl.goto Y122 at_142 (by decide) rfl ?_
    exact Gl.retZ Y122 (by decide) (by decide) (x' := (1 : Int32)) (by decide) at_146 rfl
  · refine Gl.aloadN Y4 rfl rfl at_12 rfl ?_
    refine Gl.callV Y4 (tw_28 hw) (tw_29 hw) (tw_31 hw) (tw_31 hw) (tw_30 hw) (tw_2 hw) (tw_32 hw) (by decide) f4_1 (rm4 l Z a0 hw [] b0_2 d4 h4 n0 Y4.sz f4_1 f4_2 f4_3) (a := b0_2) (argsL := []) (rest := []) rfl rfl (lenOf pd_1 rfl) rfl (by decide) (Nat.le_of_ble_eq_true rfl) (by decide) (by decide) at_13 rfl (fun v13 T13 h13 Y13 q13 => ?_)
    obtain ⟨rfl, rfl⟩ := q13
    show Gl p e below _ (T13.setTop (mkF m 16 _ [(.int 0)]))
    refine Gl.ifne Y13 at_16 (by decide) rfl rfl (fun c16 => ?_) (fun c16 => ?_)
    · exact absurd c16 (by decide)
    refine Gl.iconst Y13 (v := (1 : Int32)) (by decide) at_19 rfl ?_
    refine Gl.goto Y13 at_20 (by decide) rfl ?_
    refine Gl.istoreN Y13 (L' := #[.val (.int kk), .val (.ref b0_2), .val (.int 2), .val (.int 1), .unset, .unset]) rfl at_24 rfl ?_
    refine Gl.iloadN Y13 rfl at_25 rfl ?_
    refine Gl.iconst Y13 (v := (1 : Int32)) (by decide) at_26 rfl ?_
    refine Gl.icmplt Y13 at_27 (by decide) rfl rfl (fun c27 => ?_) (fun c27 => ?_)
    · exact absurd c27 (by decide)
    refine Gl.aloadN Y13 rfl rfl at_30 rfl ?_
    refine Gl.callV Y13 (tw_35 hw) (tw_36 hw) (tw_38 hw) (tw_38 hw) (tw_37 hw) (tw_2 hw) (tw_39 hw) (by decide) f4_1 (rm5 l Z a0 hw [] b0_2 d4 h4 n0 Y13.sz f4_1 f4_2 f4_3 sb0_2) (a := b0_2) (argsL := []) (rest := []) rfl rfl (lenOf pd_0 rfl) rfl (by decide) (Nat.le_of_ble_eq_true rfl) (by decide) (by decide) at_31 rfl (fun v31 T31 h31 Y31 q31 => ?_)
    obtain ⟨rfl, K31, f31_0, f31_1, f31_2⟩ := q31
    show Gl p e below _ (T31.setTop (mkF m 34 _ []))
    refine Gl.iloadN Y31 rfl at_34 rfl ?_
    refine Gl.ifeq Y31 at_35 (by decide) rfl rfl (fun c35 => ?_) (fun c35 => ?_)
    · exact absurd c35 (by decide)
    refine Gl.aloadN Y31 rfl rfl at_38 rfl ?_
    refine Gl.callV Y31 (tw_28 hw) (tw_29 hw) (tw_31 hw) (tw_31 hw) (tw_30 hw) (tw_2 hw) (tw_32 hw) (by decide) f31_0 (rm7 l Z a0 hw [] b0_2 d4 h31 n0 Y31.sz f31_0 f31_1 f31_2) (a := b0_2) (argsL := []) (rest := []) rfl rfl (lenOf pd_1 rfl) rfl (by decide) (Nat.le_of_ble_eq_true rfl) (by decide) (by decide) at_39 rfl (fun v39 T39 h39 Y39 q39 => ?_)
    obtain ⟨rfl, rfl⟩ := q39
    show Gl p e below _ (T39.setTop (mkF m 42 _ [(.int 1)]))
    refine Gl.ifeq Y39 at_42 (by decide) rfl rfl (fun c42 => ?_) (fun c42 => ?_)
    · exact absurd c42 (by decide)
    refine Gl.iconst Y39 (v := (1 : Int32)) (by decide) at_45 rfl ?_
    refine Gl.goto Y39 at_46 (by decide) rfl ?_
    refine Gl.istoreN Y39 (L' := #[.val (.int kk), .val (.ref b0_2), .val (.int 2), .val (.int 1), .unset, .unset]) rfl at_50 rfl ?_
    refine Gl.aloadN Y39 rfl rfl at_51 rfl ?_
    have f6 := (f4_4.keep K31)
    have f7 := (f4_5.keep K31 (ninS (Ne.symm (Nat.ne_of_lt (Nat.lt_of_lt_of_le X0_2.lt f4_0))) nin0))
    have f8 := (f4_6.keep K31 (ninS (Ne.symm (Nat.ne_of_lt (Nat.lt_of_lt_of_le X0_2.lt f4_0))) nin0))
    refine Gl.callV Y39 (tw_40 hw) (tw_41 hw) (tw_43 hw) (tw_43 hw) (tw_42 hw) (tw_2 hw) (tw_44 hw) (by decide) f31_0 (rm8 l Z a0 hw [] b0_2 d4 h31 n0 Y39.sz f31_0 f31_1 f31_2 sb0_2 (Ne.symm (Nat.ne_of_lt (Nat.lt_of_lt_of_le X0_2.lt f4_0))) f6 f7 f8) (a := b0_2) (argsL := []) (rest := []) rfl rfl (lenOf pd_0 rfl) rfl (by decide) (Nat.le_of_ble_eq_true rfl) (by decide) (by decide) at_52 rfl (fun v52 T52 h52 Y52 q52 => ?_)
    obtain ⟨rfl, K52, f52_0, f52_1, f52_2⟩ := q52
    show Gl p e below _ (T52.setTop (mkF m 55 _ []))
    refine Gl.iloadN Y52 rfl at_55 rfl ?_
    refine Gl.ifeq Y52 at_56 (by decide) rfl rfl (fun c56 => ?_) (fun c56 => ?_)
    · exact absurd c56 (by decide)
    refine Gl.aloadN Y52 rfl rfl at_59 rfl ?_
    refine Gl.callV Y52 (tw_28 hw) (tw_29 hw) (tw_31 hw) (tw_31 hw) (tw_30 hw) (tw_2 hw) (tw_32 hw) (by decide) f52_0 (rm4 l Z a0 hw [] b0_2 d4 h52 n0 Y52.sz f52_0 f52_1 f52_2) (a := b0_2) (argsL := []) (rest := []) rfl rfl (lenOf pd_1 rfl) rfl (by decide) (Nat.le_of_ble_eq_true rfl) (by decide) (by decide) at_60 rfl (fun v60 T60 h60 Y60 q60 => ?_)
    obtain ⟨rfl, rfl⟩ := q60
    show Gl p e below _ (T60.setTop (mkF m 63 _ [(.int 0)]))
    refine Gl.ifne Y60 at_63 (by decide) rfl rfl (fun c63 => ?_) (fun c63 => ?_)
    · exact absurd c63 (by decide)
    refine Gl.iconst Y60 (v := (1 : Int32)) (by decide) at_66 rfl ?_
    refine Gl.goto Y60 at_67 (by decide) rfl ?_
    refine Gl.istoreN Y60 (L' := #[.val (.int kk), .val (.ref b0_2), .val (.int 2), .val (.int 1), .unset, .unset]) rfl at_71 rfl ?_
    refine Gl.iloadN Y60 rfl at_72 rfl ?_
    refine Gl.iconst Y60 (v := (2 : Int32)) (by decide) at_73 rfl ?_
    refine Gl.icmplt Y60 at_74 (by decide) rfl rfl (fun c74 => ?_) (fun c74 => ?_)
    · exact absurd c74 (by decide)
    refine Gl.aloadN Y60 rfl rfl at_77 rfl ?_
    have f9 := (f6.keep K52)
    have f10 := (f7.keep K52 (ninS (Ne.symm (Nat.ne_of_lt (Nat.lt_of_lt_of_le X0_2.lt f4_0))) nin0))
    have f11 := (f8.keep K52 (ninS (Ne.symm (Nat.ne_of_lt (Nat.lt_of_lt_of_le X0_2.lt f4_0))) nin0))
    refine Gl.callV Y60 (tw_40 hw) (tw_41 hw) (tw_43 hw) (tw_43 hw) (tw_42 hw) (tw_2 hw) (tw_44 hw) (by decide) f52_0 (rm6 l Z a0 hw [] b0_2 d4 h52 n0 Y60.sz f52_0 f52_1 f52_2 sb0_2 (Ne.symm (Nat.ne_of_lt (Nat.lt_of_lt_of_le X0_2.lt f4_0))) f9 f10 f11) (a := b0_2) (argsL := []) (rest := []) rfl rfl (lenOf pd_0 rfl) rfl (by decide) (Nat.le_of_ble_eq_true rfl) (by decide) (by decide) at_78 rfl (fun v78 T78 h78 Y78 q78 => ?_)
    obtain ⟨rfl, K78, f78_0, f78_1, f78_2⟩ := q78
    show Gl p e below _ (T78.setTop (mkF m 81 _ []))
    refine Gl.iloadN Y78 rfl at_81 rfl ?_
    refine Gl.ifeq Y78 at_82 (by decide) rfl rfl (fun c82 => ?_) (fun c82 => ?_)
    · exact absurd c82 (by decide)
    refine Gl.aloadN Y78 rfl rfl at_85 rfl ?_
    refine Gl.callV Y78 (tw_28 hw) (tw_29 hw) (tw_31 hw) (tw_31 hw) (tw_30 hw) (tw_2 hw) (tw_32 hw) (by decide) f78_0 (rm4 l Z a0 hw [] b0_2 d4 h78 n0 Y78.sz f78_0 f78_1 f78_2) (a := b0_2) (argsL := []) (rest := []) rfl rfl (lenOf pd_1 rfl) rfl (by decide) (Nat.le_of_ble_eq_true rfl) (by decide) (by decide) at_86 rfl (fun v86 T86 h86 Y86 q86 => ?_)
    obtain ⟨rfl, rfl⟩ := q86
    show Gl p e below _ (T86.setTop (mkF m 89 _ [(.int 0)]))
    refine Gl.ifne Y86 at_89 (by decide) rfl rfl (fun c89 => ?_) (fun c89 => ?_)
    · exact absurd c89 (by decide)
    refine Gl.iconst Y86 (v := (1 : Int32)) (by decide) at_92 rfl ?_
    refine Gl.goto Y86 at_93 (by decide) rfl ?_
    refine Gl.istoreN Y86 (L' := #[.val (.int kk), .val (.ref b0_2), .val (.int 2), .val (.int 1), .unset, .unset]) rfl at_97 rfl ?_
    refine Gl.iloadN Y86 rfl at_98 rfl ?_
    refine Gl.iconst Y86 (v := (3 : Int32)) (by decide) at_99 rfl ?_
    refine Gl.icmplt Y86 at_100 (by decide) rfl rfl (fun c100 => ?_) (fun c100 => ?_)
    rotate_left
    · exact absurd c100 (by decide)
    refine Gl.aloadN Y86 rfl rfl at_111 rfl ?_
    refine Gl.callV Y86 (tw_28 hw) (tw_29 hw) (tw_31 hw) (tw_31 hw) (tw_30 hw) (tw_2 hw) (tw_32 hw) (by decide) f78_0 (rm4 l Z a0 hw [] b0_2 d4 h78 n0 Y86.sz f78_0 f78_1 f78_2) (a := b0_2) (argsL := []) (rest := []) rfl rfl (lenOf pd_1 rfl) rfl (by decide) (Nat.le_of_ble_eq_true rfl) (by decide) (by decide) at_112 rfl (fun v112 T112 h112 Y112 q112 => ?_)
    obtain ⟨rfl, rfl⟩ := q112
    show Gl p e below _ (T112.setTop (mkF m 115 _ [(.int 0)]))
    refine Gl.istore Y112 (L' := #[.val (.int kk), .val (.ref b0_2), .val (.int 2), .val (.int 1), .val (.int 0), .unset]) rfl at_115 rfl ?_
    refine Gl.aloadN Y112 rfl rfl at_117 rfl ?_
    refine Gl.callV Y112 (tw_35 hw) (tw_36 hw) (tw_38 hw) (tw_38 hw) (tw_37 hw) (tw_2 hw) (tw_39 hw) (by decide) f78_0 (rm5 l Z a0 hw [] b0_2 d4 h78 n0 Y112.sz f78_0 f78_1 f78_2 sb0_2) (a := b0_2) (argsL := []) (rest := []) rfl rfl (lenOf pd_0 rfl) rfl (by decide) (Nat.le_of_ble_eq_true rfl) (by decide) (by decide) at_118 rfl (fun v118 T118 h118 Y118 q118 => ?_)
    obtain ⟨rfl, K118, f118_0, f118_1, f118_2⟩ := q118
    show Gl p e below _ (T118.setTop (mkF m 121 _ []))
    refine Gl.aloadN Y118 rfl rfl at_121 rfl ?_
    refine Gl.callV Y118 (tw_28 hw) (tw_29 hw) (tw_31 hw) (tw_31 hw) (tw_30 hw) (tw_2 hw) (tw_32 hw) (by decide) f118_0 (rm7 l Z a0 hw [] b0_2 d4 h118 n0 Y118.sz f118_0 f118_1 f118_2) (a := b0_2) (argsL := []) (rest := []) rfl rfl (lenOf pd_1 rfl) rfl (by decide) (Nat.le_of_ble_eq_true rfl) (by decide) (by decide) at_122 rfl (fun v122 T122 h122 Y122 q122 => ?_)
    obtain ⟨rfl, rfl⟩ := q122
    show Gl p e below _ (T122.setTop (mkF m 125 _ [(.int 1)]))
    refine Gl.istore Y122 (L' := #[.val (.int kk), .val (.ref b0_2), .val (.int 2), .val (.int 1), .val (.int 0), .val (.int 1)]) rfl at_125 rfl ?_
    refine Gl.iloadN Y122 rfl at_127 rfl ?_
    refine Gl.ifeq Y122 at_128 (by decide) rfl rfl (fun c128 => ?_) (fun c128 => ?_)
    · exact absurd c128 (by decide)
    refine Gl.iload Y122 rfl at_131 rfl ?_
    refine Gl.ifne Y122 at_133 (by decide) rfl rfl (fun c133 => ?_) (fun c133 => ?_)
    · exact absurd c133 (by decide)
    refine Gl.iload Y122 rfl at_136 rfl ?_
    refine Gl.ifeq Y122 at_138 (by decide) rfl rfl (fun c138 => ?_) (fun c138 => ?_)
    · exact absurd c138 (by decide)
    refine Gl.iconst Y122 (v := (1 : Int32)) (by decide) at_141 rfl ?_
    refine Gl.goto Y122 at_142 (by decide) rfl ?_
    exact Gl.retZ Y122 (by decide) (by decide) (x' := (1 : Int32)) (by decide) at_146 rfl
  · refine Gl.aloadN Y4 rfl rfl at_12 rfl ?_
    refine Gl.callV Y4 (tw_28 hw) (tw_29 hw) (tw_31 hw) (tw_31 hw) (tw_30 hw) (tw_2 hw) (tw_32 hw) (by decide) f4_1 (rm4 l Z a0 hw [] b0_2 d4 h4 n0 Y4.sz f4_1 f4_2 f4_3) (a := b0_2) (argsL := []) (rest := []) rfl rfl (lenOf pd_1 rfl) rfl (by decide) (Nat.le_of_ble_eq_true rfl) (by decide) (by decide) at_13 rfl (fun v13 T13 h13 Y13 q13 => ?_)
    obtain ⟨rfl, rfl⟩ := q13
    show Gl p e below _ (T13.setTop (mkF m 16 _ [(.int 0)]))
    refine Gl.ifne Y13 at_16 (by decide) rfl rfl (fun c16 => ?_) (fun c16 => ?_)
    · exact absurd c16 (by decide)
    refine Gl.iconst Y13 (v := (1 : Int32)) (by decide) at_19 rfl ?_
    refine Gl.goto Y13 at_20 (by decide) rfl ?_
    refine Gl.istoreN Y13 (L' := #[.val (.int kk), .val (.ref b0_2), .val (.int 3), .val (.int 1), .unset, .unset]) rfl at_24 rfl ?_
    refine Gl.iloadN Y13 rfl at_25 rfl ?_
    refine Gl.iconst Y13 (v := (1 : Int32)) (by decide) at_26 rfl ?_
    refine Gl.icmplt Y13 at_27 (by decide) rfl rfl (fun c27 => ?_) (fun c27 => ?_)
    · exact absurd c27 (by decide)
    refine Gl.aloadN Y13 rfl rfl at_30 rfl ?_
    refine Gl.callV Y13 (tw_35 hw) (tw_36 hw) (tw_38 hw) (tw_38 hw) (tw_37 hw) (tw_2 hw) (tw_39 hw) (by decide) f4_1 (rm5 l Z a0 hw [] b0_2 d4 h4 n0 Y13.sz f4_1 f4_2 f4_3 sb0_2) (a := b0_2) (argsL := []) (rest := []) rfl rfl (lenOf pd_0 rfl) rfl (by decide) (Nat.le_of_ble_eq_true rfl) (by decide) (by decide) at_31 rfl (fun v31 T31 h31 Y31 q31 => ?_)
    obtain ⟨rfl, K31, f31_0, f31_1, f31_2⟩ := q31
    show Gl p e below _ (T31.setTop (mkF m 34 _ []))
    refine Gl.iloadN Y31 rfl at_34 rfl ?_
    refine Gl.ifeq Y31 at_35 (by decide) rfl rfl (fun c35 => ?_) (fun c35 => ?_)
    · exact absurd c35 (by decide)
    refine Gl.aloadN Y31 rfl rfl at_38 rfl ?_
    refine Gl.callV Y31 (tw_28 hw) (tw_29 hw) (tw_31 hw) (tw_31 hw) (tw_30 hw) (tw_2 hw) (tw_32 hw) (by decide) f31_0 (rm7 l Z a0 hw [] b0_2 d4 h31 n0 Y31.sz f31_0 f31_1 f31_2) (a := b0_2) (argsL := []) (rest := []) rfl rfl (lenOf pd_1 rfl) rfl (by decide) (Nat.le_of_ble_eq_true rfl) (by decide) (by decide) at_39 rfl (fun v39 T39 h39 Y39 q39 => ?_)
    obtain ⟨rfl, rfl⟩ := q39
    show Gl p e below _ (T39.setTop (mkF m 42 _ [(.int 1)]))
    refine Gl.ifeq Y39 at_42 (by decide) rfl rfl (fun c42 => ?_) (fun c42 => ?_)
    · exact absurd c42 (by decide)
    refine Gl.iconst Y39 (v := (1 : Int32)) (by decide) at_45 rfl ?_
    refine Gl.goto Y39 at_46 (by decide) rfl ?_
    refine Gl.istoreN Y39 (L' := #[.val (.int kk), .val (.ref b0_2), .val (.int 3), .val (.int 1), .unset, .unset]) rfl at_50 rfl ?_
    refine Gl.aloadN Y39 rfl rfl at_51 rfl ?_
    have f12 := (f4_4.keep K31)
    have f13 := (f4_5.keep K31 (ninS (Ne.symm (Nat.ne_of_lt (Nat.lt_of_lt_of_le X0_2.lt f4_0))) nin0))
    have f14 := (f4_6.keep K31 (ninS (Ne.symm (Nat.ne_of_lt (Nat.lt_of_lt_of_le X0_2.lt f4_0))) nin0))
    refine Gl.callV Y39 (tw_40 hw) (tw_41 hw) (tw_43 hw) (tw_43 hw) (tw_42 hw) (tw_2 hw) (tw_44 hw) (by decide) f31_0 (rm8 l Z a0 hw [] b0_2 d4 h31 n0 Y39.sz f31_0 f31_1 f31_2 sb0_2 (Ne.symm (Nat.ne_of_lt (Nat.lt_of_lt_of_le X0_2.lt f4_0))) f12 f13 f14) (a := b0_2) (argsL := []) (rest := []) rfl rfl (lenOf pd_0 rfl) rfl (by decide) (Nat.le_of_ble_eq_true rfl) (by decide) (by decide) at_52 rfl (fun v52 T52 h52 Y52 q52 => ?_)
    obtain ⟨rfl, K52, f52_0, f52_1, f52_2⟩ := q52
    show Gl p e below _ (T52.setTop (mkF m 55 _ []))
    refine Gl.iloadN Y52 rfl at_55 rfl ?_
    refine Gl.ifeq Y52 at_56 (by decide) rfl rfl (fun c56 => ?_) (fun c56 => ?_)
    · exact absurd c56 (by decide)
    refine Gl.aloadN Y52 rfl rfl at_59 rfl ?_
    refine Gl.callV Y52 (tw_28 hw) (tw_29 hw) (tw_31 hw) (tw_31 hw) (tw_30 hw) (tw_2 hw) (tw_32 hw) (by decide) f52_0 (rm4 l Z a0 hw [] b0_2 d4 h52 n0 Y52.sz f52_0 f52_1 f52_2) (a := b0_2) (argsL := []) (rest := []) rfl rfl (lenOf pd_1 rfl) rfl (by decide) (Nat.le_of_ble_eq_true rfl) (by decide) (by decide) at_60 rfl (fun v60 T60 h60 Y60 q60 => ?_)
    obtain ⟨rfl, rfl⟩ := q60
    show Gl p e below _ (T60.setTop (mkF m 63 _ [(.int 0)]))
    refine Gl.ifne Y60 at_63 (by decide) rfl rfl (fun c63 => ?_) (fun c63 => ?_)
    · exact absurd c63 (by decide)
    refine Gl.iconst Y60 (v := (1 : Int32)) (by decide) at_66 rfl ?_
    refine Gl.goto Y60 at_67 (by decide) rfl ?_
    refine Gl.istoreN Y60 (L' := #[.val (.int kk), .val (.ref b0_2), .val (.int 3), .val (.int 1), .unset, .unset]) rfl at_71 rfl ?_
    refine Gl.iloadN Y60 rfl at_72 rfl ?_
    refine Gl.iconst Y60 (v := (2 : Int32)) (by decide) at_73 rfl ?_
    refine Gl.icmplt Y60 at_74 (by decide) rfl rfl (fun c74 => ?_) (fun c74 => ?_)
    · exact absurd c74 (by decide)
    refine Gl.aloadN Y60 rfl rfl at_77 rfl ?_
    have f15 := (f12.keep K52)
    have f16 := (f13.keep K52 (ninS (Ne.symm (Nat.ne_of_lt (Nat.lt_of_lt_of_le X0_2.lt f4_0))) nin0))
    have f17 := (f14.keep K52 (ninS (Ne.symm (Nat.ne_of_lt (Nat.lt_of_lt_of_le X0_2.lt f4_0))) nin0))
    refine Gl.callV Y60 (tw_40 hw) (tw_41 hw) (tw_43 hw) (tw_43 hw) (tw_42 hw) (tw_2 hw) (tw_44 hw) (by decide) f52_0 (rm6 l Z a0 hw [] b0_2 d4 h52 n0 Y60.sz f52_0 f52_1 f52_2 sb0_2 (Ne.symm (Nat.ne_of_lt (Nat.lt_of_lt_of_le X0_2.lt f4_0))) f15 f16 f17) (a := b0_2) (argsL := []) (rest := []) rfl rfl (lenOf pd_0 rfl) rfl (by decide) (Nat.le_of_ble_eq_true rfl) (by decide) (by decide) at_78 rfl (fun v78 T78 h78 Y78 q78 => ?_)
    obtain ⟨rfl, K78, f78_0, f78_1, f78_2⟩ := q78
    show Gl p e below _ (T78.setTop (mkF m 81 _ []))
    refine Gl.iloadN Y78 rfl at_81 rfl ?_
    refine Gl.ifeq Y78 at_82 (by decide) rfl rfl (fun c82 => ?_) (fun c82 => ?_)
    · exact absurd c82 (by decide)
    refine Gl.aloadN Y78 rfl rfl at_85 rfl ?_
    refine Gl.callV Y78 (tw_28 hw) (tw_29 hw) (tw_31 hw) (tw_31 hw) (tw_30 hw) (tw_2 hw) (tw_32 hw) (by decide) f78_0 (rm4 l Z a0 hw [] b0_2 d4 h78 n0 Y78.sz f78_0 f78_1 f78_2) (a := b0_2) (argsL := []) (rest := []) rfl rfl (lenOf pd_1 rfl) rfl (by decide) (Nat.le_of_ble_eq_true rfl) (by decide) (by decide) at_86 rfl (fun v86 T86 h86 Y86 q86 => ?_)
    obtain ⟨rfl, rfl⟩ := q86
    show Gl p e below _ (T86.setTop (mkF m 89 _ [(.int 0)]))
    refine Gl.ifne Y86 at_89 (by decide) rfl rfl (fun c89 => ?_) (fun c89 => ?_)
    · exact absurd c89 (by decide)
    refine Gl.iconst Y86 (v := (1 : Int32)) (by decide) at_92 rfl ?_
    refine Gl.goto Y86 at_93 (by decide) rfl ?_
    refine Gl.istoreN Y86 (L' := #[.val (.int kk), .val (.ref b0_2), .val (.int 3), .val (.int 1), .unset, .unset]) rfl at_97 rfl ?_
    refine Gl.iloadN Y86 rfl at_98 rfl ?_
    refine Gl.iconst Y86 (v := (3 : Int32)) (by decide) at_99 rfl ?_
    refine Gl.icmplt Y86 at_100 (by decide) rfl rfl (fun c100 => ?_) (fun c100 => ?_)
    · exact absurd c100 (by decide)
    refine Gl.aloadN Y86 rfl rfl at_103 rfl ?_
    refine Gl.callV Y86 (tw_35 hw) (tw_36 hw) (tw_38 hw) (tw_38 hw) (tw_37 hw) (tw_2 hw) (tw_39 hw) (by decide) f78_0 (rm5 l Z a0 hw [] b0_2 d4 h78 n0 Y86.sz f78_0 f78_1 f78_2 sb0_2) (a := b0_2) (argsL := []) (rest := []) rfl rfl (lenOf pd_0 rfl) rfl (by decide) (Nat.le_of_ble_eq_true rfl) (by decide) (by decide) at_104 rfl (fun v104 T104 h104 Y104 q104 => ?_)
    obtain ⟨rfl, K104, f104_0, f104_1, f104_2⟩ := q104
    show Gl p e below _ (T104.setTop (mkF m 107 _ []))
    refine Gl.aloadN Y104 rfl rfl at_107 rfl ?_
    have f18 := ((f15.keep K78).keep K104)
    have f19 := ((f16.keep K78 (ninS (Ne.symm (Nat.ne_of_lt (Nat.lt_of_lt_of_le X0_2.lt f4_0))) nin0)).keep K104 (ninS (Ne.symm (Nat.ne_of_lt (Nat.lt_of_lt_of_le X0_2.lt f4_0))) nin0))
    have f20 := ((f17.keep K78 (ninS (Ne.symm (Nat.ne_of_lt (Nat.lt_of_lt_of_le X0_2.lt f4_0))) nin0)).keep K104 (ninS (Ne.symm (Nat.ne_of_lt (Nat.lt_of_lt_of_le X0_2.lt f4_0))) nin0))
    refine Gl.callV Y104 (tw_40 hw) (tw_41 hw) (tw_43 hw) (tw_43 hw) (tw_42 hw) (tw_2 hw) (tw_44 hw) (by decide) f104_0 (rm8 l Z a0 hw [] b0_2 d4 h104 n0 Y104.sz f104_0 f104_1 f104_2 sb0_2 (Ne.symm (Nat.ne_of_lt (Nat.lt_of_lt_of_le X0_2.lt f4_0))) f18 f19 f20) (a := b0_2) (argsL := []) (rest := []) rfl rfl (lenOf pd_0 rfl) rfl (by decide) (Nat.le_of_ble_eq_true rfl) (by decide) (by decide) at_108 rfl (fun v108 T108 h108 Y108 q108 => ?_)
    obtain ⟨rfl, K108, f108_0, f108_1, f108_2⟩ := q108
    show Gl p e below _ (T108.setTop (mkF m 111 _ []))
    refine Gl.aloadN Y108 rfl rfl at_111 rfl ?_
    refine Gl.callV Y108 (tw_28 hw) (tw_29 hw) (tw_31 hw) (tw_31 hw) (tw_30 hw) (tw_2 hw) (tw_32 hw) (by decide) f108_0 (rm4 l Z a0 hw [] b0_2 d4 h108 n0 Y108.sz f108_0 f108_1 f108_2) (a := b0_2) (argsL := []) (rest := []) rfl rfl (lenOf pd_1 rfl) rfl (by decide) (Nat.le_of_ble_eq_true rfl) (by decide) (by decide) at_112 rfl (fun v112 T112 h112 Y112 q112 => ?_)
    obtain ⟨rfl, rfl⟩ := q112
    show Gl p e below _ (T112.setTop (mkF m 115 _ [(.int 0)]))
    refine Gl.istore Y112 (L' := #[.val (.int kk), .val (.ref b0_2), .val (.int 3), .val (.int 1), .val (.int 0), .unset]) rfl at_115 rfl ?_
    refine Gl.aloadN Y112 rfl rfl at_117 rfl ?_
    refine Gl.callV Y112 (tw_35 hw) (tw_36 hw) (tw_38 hw) (tw_38 hw) (tw_37 hw) (tw_2 hw) (tw_39 hw) (by decide) f108_0 (rm5 l Z a0 hw [] b0_2 d4 h108 n0 Y112.sz f108_0 f108_1 f108_2 sb0_2) (a := b0_2) (argsL := []) (rest := []) rfl rfl (lenOf pd_0 rfl) rfl (by decide) (Nat.le_of_ble_eq_true rfl) (by decide) (by decide) at_118 rfl (fun v118 T118 h118 Y118 q118 => ?_)
    obtain ⟨rfl, K118, f118_0, f118_1, f118_2⟩ := q118
    show Gl p e below _ (T118.setTop (mkF m 121 _ []))
    refine Gl.aloadN Y118 rfl rfl at_121 rfl ?_
    refine Gl.callV Y118 (tw_28 hw) (tw_29 hw) (tw_31 hw) (tw_31 hw) (tw_30 hw) (tw_2 hw) (tw_32 hw) (by decide) f118_0 (rm7 l Z a0 hw [] b0_2 d4 h118 n0 Y118.sz f118_0 f118_1 f118_2) (a := b0_2) (argsL := []) (rest := []) rfl rfl (lenOf pd_1 rfl) rfl (by decide) (Nat.le_of_ble_eq_true rfl) (by decide) (by decide) at_122 rfl (fun v122 T122 h122 Y122 q122 => ?_)
    obtain ⟨rfl, rfl⟩ := q122
    show Gl p e below _ (T122.setTop (mkF m 125 _ [(.int 1)]))
    refine Gl.istore Y122 (L' := #[.val (.int kk), .val (.ref b0_2), .val (.int 3), .val (.int 1), .val (.int 0), .val (.int 1)]) rfl at_125 rfl ?_
    refine Gl.iloadN Y122 rfl at_127 rfl ?_
    refine Gl.ifeq Y122 at_128 (by decide) rfl rfl (fun c128 => ?_) (fun c128 => ?_)
    · exact absurd c128 (by decide)
    refine Gl.iload Y122 rfl at_131 rfl ?_
    refine Gl.ifne Y122 at_133 (by decide) rfl rfl (fun c133 => ?_) (fun c133 => ?_)
    · exact absurd c133 (by decide)
    refine Gl.iload Y122 rfl at_136 rfl ?_
    refine Gl.ifeq Y122 at_138 (by decide) rfl rfl (fun c138 => ?_) (fun c138 => ?_)
    · exact absurd c138 (by decide)
    refine Gl.iconst Y122 (v := (1 : Int32)) (by decide) at_141 rfl ?_
    refine Gl.goto Y122 at_142 (by decide) rfl ?_
    exact Gl.retZ Y122 (by decide) (by decide) (x' := (1 : Int32)) (by decide) at_146 rfl
set_option maxRecDepth 65536 in
set_option maxHeartbeats 40000000 in
theorem comes_1 {Post : Tables → Env → Array Value → State → Outcome → State → Prop} (hpost : ∀ tb e args s v u, (limb_1_1.after args s (.returned v) u = true ∧ limb_1_2.after args s (.returned v) u = true ∧ True) → FrameEnd s (.returned v) u (Jvm.fieldLocs frame_1_writes args s ++ Jvm.arrayLocs frame_1_arrays args s ++ Jvm.staticLocs frame_1_statics s) 16 128 → Post tb e args s (.returned v) u) :
    ArmFor flags0 classFile x code maxLocals ret World_1 tables_1 room_1 Calls_1 rest_1 Pre_1 Post := by
  intro l hfl _ _ p e ha hc hk s m args below hf hA hF happ hP
  obtain ⟨hcalls, hrest, hpre⟩ := hP
  obtain ⟨-, -, -, hnamed, -, -, -, hat⟩ := (Spec.applies_iff hf).mp happ
  obtain ⟨hg, hn⟩ := and_e (Cond.before_iff.mp (show (Jvm.Cond.and given_1 narrow_1).before args s = true from hpre))
  obtain ⟨a0, g0⟩ := and_e hg
  obtain ⟨w0, rfl⟩ : ∃ w0 : Value, args = #[w0] := by
    have hs : args.size = 1 := by simpa [Cond.value, given_1] using a0
    obtain ⟨L⟩ := args
    match L, hs with
    | [w0], _ => exact ⟨w0, rfl⟩
  have hw := fun d (hd : d ∈ tables_1) => atoms_spec (ws := Jvm.Cond.code x code maxLocals ret :: tables_1) hat d (List.mem_cons_of_mem _ hd)
  have hfit : Fit s := fun {y c} hc i hi => by
    obtain ⟨ha, rfl⟩ := Array.getElem?_eq_some_iff.mp hc
    have q := List.all_eq_true.mp ((Array.all_eq_true_iff_forall_mem.mp hF) _ (Array.getElem_mem ha)) i (List.mem_range.mpr hi)
    simpa [Array.getElem?_eq_getElem hi] using q
  obtain ⟨i0, e0⟩ := is_v g0
  obtain rfl : w0 = (.int i0) := Option.some.inj e0
  obtain ⟨n, o, h1, h2, h3, v, L, rfl, ⟨hv, N⟩, hq⟩ := rmL l s _ hw tables_1 i0 s.heap s.heap.size (Nat.le_refl _) p e ha hc hk s m _ below hf ((Spec.applies_iff_loose hf).mp happ).1 ⟨rfl, State.Warmed39.refl s, rfl⟩ trivial
  obtain rfl : v = some (.int 1) := hv
  refine ⟨n, _, h1, h2, h3, hpost _ _ _ _ _ _ ⟨Cond.after_iff.mpr rfl, Cond.after_iff.mpr (eq_i res_at (Term.int_eval (1)) rfl), trivial⟩ ⟨hq.1, hq.2.1, (hq.2.2.sift fun y hy => Or.inr (N y hy)).mono (by decide) (by decide)⟩⟩
theorem main_1_1 : Claimed_1_1 := comes_1 fun _ _ _ _ _ _ h hF => ⟨h.1, hF⟩
theorem main_1_2 : Claimed_1_2 := comes_1 fun _ _ _ _ _ _ h hF => ⟨h.2.1, hF⟩
end Jvm.Pilot.@@N@@
namespace Jvm.Pilot.@@N@@
open Jvm Jvm.ClassFile Sem Op Lib Jvm.Free Jvm.Stand Jvm.Pilot.@@N@@.Jvm.D
/-! MADE BY PROGRAM (witnessworld.py) out of the Statement's table words and the real class files: 17 classes; the members and pool entries that the words name. The judged class is class 1, her method 1. -/
namespace start1
open Jvm.ClassFile
def u (s : String) : CpInfo := .utf8 (stringToUtf16 s)
/-- a pool by its gaps: so many unusable entries, then the entry; so many at the end -/
def gap : Nat → List CpInfo → List CpInfo
  | 0, r => r
  | n + 1, r => .unusable :: gap n r
def poolList (es : List (Nat × CpInfo)) (last : Nat) : List CpInfo := es.foldr (fun e r => gap e.1 (e.2 :: r)) (gap last [])
def pool (es : List (Nat × CpInfo)) (last : Nat) : Array CpInfo := ⟨poolList es last⟩
def fileOf (pool : Array CpInfo) (this : Nat) (attrs : Array Attribute := #[]) (ms : Array MethodInfo := #[]) (fl : Nat := 33) (sup : Nat := 0) (ifs : Array Nat := #[]) (fds : Array FieldInfo := #[]) : ClassFile where
  minorVersion := 0
  majorVersion := 65
  constantPool := pool
  accessFlags := fl
  thisClass := this
  superClass := sup
  interfaces := ifs
  fields := fds
  methods := ms
  attributes := attrs
def plain (name : String) (sup : Option ClassId) : Class where
  name := name
  kind := .ordinary
  loader := none
  accessFlags := 33
  super := sup
  interfaces := #[]
  cf := none
  fields := #[]
  methods := #[]
  instanceTypes := #[]
  staticTypes := #[]
  resolved := #[]
  callSites := []
  init := .initialized
  statics := none
  mirror := none

def pool0 : Array CpInfo := pool [(5, u "<init>"), (0, u "()V"), (1, .class_ 10), (1, u "java/lang/Object")] 113

def k0c0 : Code := { maxStack := 0, maxLocals := 1, code := object_method_1_code, exceptionTable := #[], attributes := #[] }
def k0m0 : Method := { name := "<init>", desc := "()V", sig := { parameters := [], returnType := none }, accessFlags := 1, code := some k0c0 }
/-- java/lang/Object -/
def k0 : Class := { plain "java/lang/Object" none with
  accessFlags := 33
  interfaces := #[]
  cf := some (fileOf pool0 8 #[] #[{ accessFlags := 1, nameIndex := 5, descriptorIndex := 6, attributes := #[] }] 33 0 #[] #[])
  fields := #[]
  methods := #[k0m0]
  instanceTypes := #[]
  staticTypes := #[]
  resolved := Array.replicate 124 none
  statics := none }

def pool1 : Array CpInfo := pool [(2, .class_ 4), (0, .nameAndType 5 6), (0, u "java/lang/Object"), (0, u "<init>"), (0, u "()V"), (0, .class_ 8), (0, u "com/example/entrole/entrole/model/UndoLog"), (0, .methodref 7 3), (0, .methodref 7 11), (0, .nameAndType 12 13), (0, u "inTrial"), (0, u "()Z"), (0, .methodref 7 15), (0, .nameAndType 16 6), (0, u "beginTrial"), (0, .methodref 7 18), (0, .nameAndType 19 6), (0, u "rollBack"), (0, .class_ 21), (0, u "com/example/entrole/entrole/model/UndoLogBeginTrialPinLaw"), (2, u "law"), (0, u "(I)Z")] 3

def k1m0 : Method := { name := "<init>", desc := "()V", sig := { parameters := [], returnType := none }, accessFlags := 1, code := none }
def k1c1 : Code := { maxStack := 2, maxLocals := 6, code := code, exceptionTable := #[], attributes := #[] }
def k1m1 : Method := { name := "law", desc := "(I)Z", sig := { parameters := [.int], returnType := some .boolean }, accessFlags := 9, code := some k1c1 }
/-- com/example/entrole/entrole/model/UndoLogBeginTrialPinLaw -/
def k1 : Class := { plain "com/example/entrole/entrole/model/UndoLogBeginTrialPinLaw" (some 0) with
  accessFlags := 49
  interfaces := #[]
  cf := some (fileOf pool1 20 #[] #[{ accessFlags := 1, nameIndex := 5, descriptorIndex := 6, attributes := #[] }, { accessFlags := 9, nameIndex := 24, descriptorIndex := 25, attributes := #[] }] 49 2 #[] #[])
  fields := #[]
  methods := #[k1m0, k1m1]
  instanceTypes := #[]
  staticTypes := #[]
  resolved := Array.replicate 29 none
  statics := none }

def pool2 : Array CpInfo := pool [(1, .methodref 2 3), (0, .class_ 4), (0, .nameAndType 5 6), (0, u "java/lang/Object"), (0, u "<init>"), (0, u "()V"), (0, .class_ 8), (0, u "java/util/ArrayDeque"), (0, .methodref 7 3), (0, .fieldref 11 12), (0, .class_ 13), (0, .nameAndType 14 15), (0, u "com/example/entrole/entrole/model/UndoLog"), (0, u "steps"), (0, u "Ljava/util/Deque;"), (0, .fieldref 11 17), (0, .nameAndType 18 19), (0, u "inTrial"), (0, u "Z"), (8, .class_ 30), (1, u "java/util/Deque"), (2, .interfaceMethodref 28 34), (0, .nameAndType 35 36), (0, u "isEmpty"), (0, u "()Z"), (13, u "beginTrial"), (3, u "rollBack")] 2

def k2c0 : Code := { maxStack := 3, maxLocals := 1, code := prog_19_method_1_code, exceptionTable := #[], attributes := #[] }
def k2m0 : Method := { name := "<init>", desc := "()V", sig := { parameters := [], returnType := none }, accessFlags := 1, code := some k2c0 }
def k2c1 : Code := { maxStack := 3, maxLocals := 1, code := prog_19_method_2_code, exceptionTable := #[], attributes := #[] }
def k2m1 : Method := { name := "beginTrial", desc := "()V", sig := { parameters := [], returnType := none }, accessFlags := 1, code := some k2c1 }
def k2c2 : Code := { maxStack := 1, maxLocals := 1, code := prog_19_method_3_code, exceptionTable := #[], attributes := #[] }
def k2m2 : Method := { name := "inTrial", desc := "()Z", sig := { parameters := [], returnType := some .boolean }, accessFlags := 1, code := some k2c2 }
def k2c3 : Code := { maxStack := 2, maxLocals := 1, code := prog_19_method_5_code, exceptionTable := #[], attributes := #[] }
def k2m3 : Method := { name := "rollBack", desc := "()V", sig := { parameters := [], returnType := none }, accessFlags := 1, code := some k2c3 }
/-- com/example/entrole/entrole/model/UndoLog -/
def k2 : Class := { plain "com/example/entrole/entrole/model/UndoLog" (some 0) with
  accessFlags := 33
  interfaces := #[]
  cf := some (fileOf pool2 11 #[] #[{ accessFlags := 1, nameIndex := 5, descriptorIndex := 6, attributes := #[] }, { accessFlags := 1, nameIndex := 50, descriptorIndex := 6, attributes := #[] }, { accessFlags := 1, nameIndex := 18, descriptorIndex := 36, attributes := #[] }, { accessFlags := 1, nameIndex := 54, descriptorIndex := 6, attributes := #[] }] 33 2 #[] #[{ accessFlags := 18, nameIndex := 14, descriptorIndex := 15, attributes := #[] }, { accessFlags := 2, nameIndex := 18, descriptorIndex := 19, attributes := #[] }])
  fields := #[{ name := "steps", type := (.object "java/util/Deque"), accessFlags := 18, slot := 0, constantValue := 0 }, { name := "inTrial", type := .boolean, accessFlags := 2, slot := 1, constantValue := 0 }]
  methods := #[k2m0, k2m1, k2m2, k2m3]
  instanceTypes := #[(.object "java/util/Deque"), .boolean]
  staticTypes := #[]
  resolved := Array.replicate 57 none
  statics := none }

def pool3 : Array CpInfo := pool [(8, .class_ 10), (1, u "java/lang/Iterable"), (24, .class_ 36), (0, u "java/lang/Object")] 25

/-- java/lang/Iterable -/
def k3 : Class := { plain "java/lang/Iterable" (some 0) with
  accessFlags := 1537
  interfaces := #[]
  cf := some (fileOf pool3 8 #[] #[] 1537 35 #[] #[])
  fields := #[]
  methods := #[]
  instanceTypes := #[]
  staticTypes := #[]
  resolved := Array.replicate 62 none
  statics := none }

def pool4 : Array CpInfo := pool [(10, .class_ 12), (1, u "java/util/Collection"), (17, u "()Z"), (29, .class_ 61), (0, u "java/lang/Object"), (0, .class_ 63), (0, u "java/lang/Iterable"), (2, u "isEmpty")] 48

def k4m0 : Method := { name := "isEmpty", desc := "()Z", sig := { parameters := [], returnType := some .boolean }, accessFlags := 1025, code := none }
/-- java/util/Collection -/
def k4 : Class := { plain "java/util/Collection" (some 0) with
  accessFlags := 1537
  interfaces := #[3]
  cf := some (fileOf pool4 10 #[] #[{ accessFlags := 1025, nameIndex := 66, descriptorIndex := 30, attributes := #[] }] 1537 60 #[62] #[])
  fields := #[]
  methods := #[k4m0]
  instanceTypes := #[]
  staticTypes := #[]
  resolved := Array.replicate 115 none
  statics := none }

def pool5 : Array CpInfo := pool [(1, .methodref 2 3), (0, .class_ 4), (0, .nameAndType 5 6), (0, u "java/lang/Object"), (0, u "<init>"), (0, u "()V"), (1, .class_ 10), (1, u "java/util/AbstractCollection"), (66, .class_ 78), (0, u "java/util/Collection")] 81

def k5c0 : Code := { maxStack := 1, maxLocals := 1, code := jdk_22_method_1_code, exceptionTable := #[], attributes := #[] }
def k5m0 : Method := { name := "<init>", desc := "()V", sig := { parameters := [], returnType := none }, accessFlags := 4, code := some k5c0 }
/-- java/util/AbstractCollection -/
def k5 : Class := { plain "java/util/AbstractCollection" (some 0) with
  accessFlags := 1057
  interfaces := #[4]
  cf := some (fileOf pool5 8 #[] #[{ accessFlags := 4, nameIndex := 5, descriptorIndex := 6, attributes := #[] }] 1057 2 #[77] #[])
  fields := #[]
  methods := #[k5m0]
  instanceTypes := #[]
  staticTypes := #[]
  resolved := Array.replicate 160 none
  statics := none }

def pool6 : Array CpInfo := pool [(1, .class_ 2), (0, u "java/util/Queue"), (0, .class_ 4), (0, u "java/lang/Object"), (0, .class_ 6), (0, u "java/util/Collection")] 14

/-- java/util/Queue -/
def k6 : Class := { plain "java/util/Queue" (some 0) with
  accessFlags := 1537
  interfaces := #[4]
  cf := some (fileOf pool6 1 #[] #[] 1537 3 #[5] #[])
  fields := #[]
  methods := #[]
  instanceTypes := #[]
  staticTypes := #[]
  resolved := Array.replicate 21 none
  statics := none }

def pool7 : Array CpInfo := pool [(8, .class_ 10), (1, u "java/util/SequencedCollection"), (15, .class_ 27), (0, u "java/lang/Object"), (0, .class_ 29), (0, u "java/util/Collection")] 27

/-- java/util/SequencedCollection -/
def k7 : Class := { plain "java/util/SequencedCollection" (some 0) with
  accessFlags := 1537
  interfaces := #[4]
  cf := some (fileOf pool7 8 #[] #[] 1537 26 #[28] #[])
  fields := #[]
  methods := #[]
  instanceTypes := #[]
  staticTypes := #[]
  resolved := Array.replicate 57 none
  statics := none }

def pool8 : Array CpInfo := pool [(8, .class_ 10), (1, u "java/util/Deque"), (2, .class_ 14), (0, u "java/lang/Object"), (0, .class_ 16), (0, u "java/util/Queue"), (0, .class_ 18), (0, u "java/util/SequencedCollection")] 51

/-- java/util/Deque -/
def k8 : Class := { plain "java/util/Deque" (some 0) with
  accessFlags := 1537
  interfaces := #[6, 7]
  cf := some (fileOf pool8 8 #[] #[] 1537 13 #[15, 17] #[])
  fields := #[]
  methods := #[]
  instanceTypes := #[]
  staticTypes := #[]
  resolved := Array.replicate 70 none
  statics := none }

def pool9 : Array CpInfo := pool [(1, .class_ 2), (0, u "java/lang/Cloneable"), (0, .class_ 4), (0, u "java/lang/Object")] 2

/-- java/lang/Cloneable -/
def k9 : Class := { plain "java/lang/Cloneable" (some 0) with
  accessFlags := 1537
  interfaces := #[]
  cf := some (fileOf pool9 1 #[] #[] 1537 3 #[] #[])
  fields := #[]
  methods := #[]
  instanceTypes := #[]
  staticTypes := #[]
  resolved := Array.replicate 7 none
  statics := none }

def pool10 : Array CpInfo := pool [(1, .class_ 2), (0, u "java/io/Serializable"), (0, .class_ 4), (0, u "java/lang/Object")] 2

/-- java/io/Serializable -/
def k10 : Class := { plain "java/io/Serializable" (some 0) with
  accessFlags := 1537
  interfaces := #[]
  cf := some (fileOf pool10 1 #[] #[] 1537 3 #[] #[])
  fields := #[]
  methods := #[]
  instanceTypes := #[]
  staticTypes := #[]
  resolved := Array.replicate 7 none
  statics := none }

def pool11 : Array CpInfo := pool [(3, .fieldref 4 5), (0, .class_ 6), (0, .nameAndType 7 8), (0, u "java/util/ArrayDeque"), (0, u "elements"), (0, u "[Ljava/lang/Object;"), (11, .fieldref 4 21), (0, .nameAndType 22 23), (0, u "tail"), (0, u "I"), (0, .fieldref 4 25), (0, .nameAndType 26 23), (0, u "head"), (12, u "<init>"), (2, .methodref 43 44), (0, .class_ 45), (0, .nameAndType 39 46), (0, u "java/util/AbstractCollection"), (0, u "()V"), (0, .class_ 48), (0, u "java/lang/Object"), (82, .class_ 132), (0, u "java/util/ArrayDeque$DeqIterator"), (3, .class_ 137), (0, u "java/util/ArrayDeque$DescendingIterator"), (1, .class_ 140), (0, u "java/util/ArrayDeque$DeqSpliterator"), (137, .class_ 279), (0, u "java/util/Deque"), (0, .class_ 281), (0, u "java/lang/Cloneable"), (0, .class_ 283), (0, u "java/io/Serializable"), (0, u "MAX_ARRAY_SIZE"), (1, u "serialVersionUID"), (0, u "J"), (59, u "isEmpty"), (0, u "()Z")] 89

def k11c0 : Code := { maxStack := 2, maxLocals := 1, code := jdk_21_method_3_code, exceptionTable := #[], attributes := #[] }
def k11m0 : Method := { name := "<init>", desc := "()V", sig := { parameters := [], returnType := none }, accessFlags := 1, code := some k11c0 }
def k11c1 : Code := { maxStack := 2, maxLocals := 1, code := jdk_21_method_38_code, exceptionTable := #[], attributes := #[] }
def k11m1 : Method := { name := "isEmpty", desc := "()Z", sig := { parameters := [], returnType := some .boolean }, accessFlags := 1, code := some k11c1 }
/-- java/util/ArrayDeque -/
def k11 : Class := { plain "java/util/ArrayDeque" (some 5) with
  accessFlags := 33
  interfaces := #[8, 9, 10]
  cf := some (fileOf pool11 4 #[.nestMembers #[139, 136, 131]] #[{ accessFlags := 1, nameIndex := 39, descriptorIndex := 46, attributes := #[] }, { accessFlags := 1, nameIndex := 347, descriptorIndex := 348, attributes := #[] }] 33 43 #[278, 280, 282] #[{ accessFlags := 128, nameIndex := 7, descriptorIndex := 8, attributes := #[] }, { accessFlags := 128, nameIndex := 26, descriptorIndex := 23, attributes := #[] }, { accessFlags := 128, nameIndex := 22, descriptorIndex := 23, attributes := #[] }, { accessFlags := 26, nameIndex := 284, descriptorIndex := 23, attributes := #[] }, { accessFlags := 26, nameIndex := 286, descriptorIndex := 287, attributes := #[] }])
  fields := #[{ name := "elements", type := (.array (.object "java/lang/Object")), accessFlags := 128, slot := 0, constantValue := 0 }, { name := "head", type := .int, accessFlags := 128, slot := 1, constantValue := 0 }, { name := "tail", type := .int, accessFlags := 128, slot := 2, constantValue := 0 }, { name := "MAX_ARRAY_SIZE", type := .int, accessFlags := 26, slot := 0, constantValue := 0 }, { name := "serialVersionUID", type := .long, accessFlags := 26, slot := 1, constantValue := 0 }]
  methods := #[k11m0, k11m1]
  instanceTypes := #[(.array (.object "java/lang/Object")), .int, .int]
  staticTypes := #[.int, .long]
  resolved := Array.replicate 438 none
  statics := none }

/-- the primitive byte -/
def k12 : Class := { plain "byte" none with kind := .primitive 'B', accessFlags := 0x411 }
/-- [B -/
def k13 : Class := { plain "[B" (some 0) with kind := .array 12 .byte, interfaces := #[9, 10], accessFlags := 1041 }

/-- the primitive int -/
def k14 : Class := { plain "int" none with kind := .primitive 'I', accessFlags := 0x411 }
/-- [I -/
def k15 : Class := { plain "[I" (some 0) with kind := .array 14 .int, interfaces := #[9, 10], accessFlags := 1041 }

/-- [Ljava/lang/Object; -/
def k16 : Class := { plain "[Ljava/lang/Object;" (some 0) with kind := .array 0 (.object "java/lang/Object"), interfaces := #[9, 10], accessFlags := 1041 }

def heap : Heap := #[]
def classes : Array Class := #[k0, k1, k2, k3, k4, k5, k6, k7, k8, k9, k10, k11, k12, k13, k14, k15, k16]
def interned : List (Array UInt16 × Addr) := []
def slotsUsed : Nat := 0
def theMethod : MethodId := ⟨1, 1⟩
def args0 : Array Value := #[.int 7]
def aboutOver (below : List Frame) : State where
  vm := { classes := classes, interned := interned.toArray }
  heap := heap
  slotsUsed := slotsUsed
  threads := #[{ frames := .invoking theMethod args0 :: below }]
def below0 : List Frame := [.native { method := ⟨0, 0⟩, args := #[] }]
def about1 : State := aboutOver below0
def p0 : Program := .bare "" "" ""
def e0 : Env := launch0.env 0 0 0
theorem w_frames : about1.frames = Frame.invoking theMethod args0 :: below0 := rfl
set_option maxRecDepth 65536 in
theorem w_args : argsFit about1.vm theMethod args0 = true := by decide +kernel
set_option maxRecDepth 65536 in
theorem w_heap : heapFits about1 = true := by decide +kernel
set_option maxRecDepth 65536 in
theorem w_runnable : about1.curStatus? = some .runnable := by decide +kernel
set_option maxRecDepth 65536 in
theorem w_alone : about1.alone = true := by decide +kernel
set_option maxRecDepth 65536 in
theorem w_named : about1.methodNamed? x = some theMethod := by decide +kernel
set_option maxRecDepth 65536 in
theorem w_hears : about1.hears theMethod below0 = true := by decide +kernel
set_option maxRecDepth 65536 in
theorem w_ripe : about1.ripe theMethod args0 below0 = true := by decide +kernel
theorem w_running : about1.status = .running := rfl
set_option maxRecDepth 65536 in
theorem w_room : about1.hasRoom e0.platform room_1 = true :=
  launch0.hasRoom_least _ room_1 (by decide +kernel) (by decide +kernel) (by decide +kernel) (by decide +kernel) (by decide +kernel) (by decide +kernel)
theorem allAtoms_all (ts : List Jvm.Cond) (a : Array Jvm.Value) (st : Jvm.State) : (allAtoms ts).before a st = ts.all (fun c => c.before a st) := by
  induction ts with
  | nil => rfl
  | cons c t ih =>
    show (Jvm.Cond.and c (allAtoms t)).before a st = _
    rw [Jvm.Cond.before_and, ih, List.all_cons]
def words1 : List Jvm.Cond := Jvm.Cond.code x code maxLocals ret :: tables_1
/-- a 'code' word, met by the world's own term for the bytes: nothing is compared byte by byte -/
theorem code_word {y : MethodName} {bytes : ByteArray} {mx : Nat} {rt : Option FieldType} {a : Array Value} {s : State} {m : MethodId} {meth : Method} {c : Code} (h1 : s.methodNamed? y = some m) (h2 : s.vm.method? m = some meth) (h3 : meth.code = some c) (h4 : c.code = bytes)
    (h5 : (c.maxLocals == mx && c.exceptionTable.isEmpty && decide (c.maxStack ≤ mostOperands) && decide (meth.sig.returnType = rt) && !meth.locks && decide (parseMethodDescriptor y.desc = some meth.sig)) = true) : (Jvm.Cond.code y bytes mx rt).before a s = true := by
  simp only [Bool.and_eq_true, beq_iff_eq, Bool.not_eq_true', decide_eq_true_eq] at h5
  obtain ⟨⟨⟨⟨⟨g1, g2⟩, g3⟩, g4⟩, g5⟩, g6⟩ := h5
  simp [Cond.before, Cond.holds, Cond.value, h1, h2, h3, h4, g1, g2, g3, g4, g5, g6]
def isCode : Jvm.Cond → Bool
  | .code _ _ _ _ => true
  | _ => false
theorem all_split {L : List Jvm.Cond} {P : Jvm.Cond → Bool} (h1 : L.all (fun c => isCode c || P c) = true) (h2 : ∀ c ∈ L.filter isCode, P c = true) : L.all P = true := by
  refine List.all_eq_true.mpr fun c hc => ?_
  have h := List.all_eq_true.mp h1 c hc
  rcases Bool.eq_false_or_eq_true (isCode c) with hi | hi
  · exact h2 c (List.mem_filter.mpr ⟨hc, hi⟩)
  · simpa [hi] using h
set_option maxRecDepth 65536 in
theorem w_c0 : (Jvm.Cond.code x code maxLocals ret).before args0 about1 = true := code_word (m := ⟨1, 1⟩) (meth := k1m1) (c := k1c1) (by decide +kernel) rfl rfl rfl (by decide +kernel)
set_option maxRecDepth 65536 in
theorem w_c1 : (Jvm.Cond.code ({ cls := "com/example/entrole/entrole/model/UndoLog", name := "<init>", desc := "()V" } : Jvm.MethodName) prog_19_method_1_code (1 : Nat) (Option.none : Option Jvm.ClassFile.FieldType)).before args0 about1 = true := code_word (m := ⟨2, 0⟩) (meth := k2m0) (c := k2c0) (by decide +kernel) rfl rfl rfl (by decide +kernel)
set_option maxRecDepth 65536 in
theorem w_c2 : (Jvm.Cond.code ({ cls := "java/lang/Object", name := "<init>", desc := "()V" } : Jvm.MethodName) object_method_1_code (1 : Nat) (Option.none : Option Jvm.ClassFile.FieldType)).before args0 about1 = true := code_word (m := ⟨0, 0⟩) (meth := k0m0) (c := k0c0) (by decide +kernel) rfl rfl rfl (by decide +kernel)
set_option maxRecDepth 65536 in
theorem w_c3 : (Jvm.Cond.code ({ cls := "java/util/ArrayDeque", name := "<init>", desc := "()V" } : Jvm.MethodName) jdk_21_method_3_code (1 : Nat) (Option.none : Option Jvm.ClassFile.FieldType)).before args0 about1 = true := code_word (m := ⟨11, 0⟩) (meth := k11m0) (c := k11c0) (by decide +kernel) rfl rfl rfl (by decide +kernel)
set_option maxRecDepth 65536 in
theorem w_c4 : (Jvm.Cond.code ({ cls := "java/util/AbstractCollection", name := "<init>", desc := "()V" } : Jvm.MethodName) jdk_22_method_1_code (1 : Nat) (Option.none : Option Jvm.ClassFile.FieldType)).before args0 about1 = true := code_word (m := ⟨5, 0⟩) (meth := k5m0) (c := k5c0) (by decide +kernel) rfl rfl rfl (by decide +kernel)
set_option maxRecDepth 65536 in
theorem w_c5 : (Jvm.Cond.code ({ cls := "com/example/entrole/entrole/model/UndoLog", name := "inTrial", desc := "()Z" } : Jvm.MethodName) prog_19_method_3_code (1 : Nat) (Option.some Jvm.ClassFile.FieldType.boolean)).before args0 about1 = true := code_word (m := ⟨2, 2⟩) (meth := k2m2) (c := k2c2) (by decide +kernel) rfl rfl rfl (by decide +kernel)
set_option maxRecDepth 65536 in
theorem w_c6 : (Jvm.Cond.code ({ cls := "com/example/entrole/entrole/model/UndoLog", name := "beginTrial", desc := "()V" } : Jvm.MethodName) prog_19_method_2_code (1 : Nat) (Option.none : Option Jvm.ClassFile.FieldType)).before args0 about1 = true := code_word (m := ⟨2, 1⟩) (meth := k2m1) (c := k2c1) (by decide +kernel) rfl rfl rfl (by decide +kernel)
set_option maxRecDepth 65536 in
theorem w_c7 : (Jvm.Cond.code ({ cls := "com/example/entrole/entrole/model/UndoLog", name := "rollBack", desc := "()V" } : Jvm.MethodName) prog_19_method_5_code (1 : Nat) (Option.none : Option Jvm.ClassFile.FieldType)).before args0 about1 = true := code_word (m := ⟨2, 3⟩) (meth := k2m3) (c := k2c3) (by decide +kernel) rfl rfl rfl (by decide +kernel)
set_option maxRecDepth 65536 in
theorem w_c8 : (Jvm.Cond.code ({ cls := "java/util/ArrayDeque", name := "isEmpty", desc := "()Z" } : Jvm.MethodName) jdk_21_method_38_code (1 : Nat) (Option.some Jvm.ClassFile.FieldType.boolean)).before args0 about1 = true := code_word (m := ⟨11, 1⟩) (meth := k11m1) (c := k11c1) (by decide +kernel) rfl rfl rfl (by decide +kernel)
def codes1 : List Jvm.Cond := [Jvm.Cond.code x code maxLocals ret, Jvm.Cond.code ({ cls := "com/example/entrole/entrole/model/UndoLog", name := "<init>", desc := "()V" } : Jvm.MethodName) prog_19_method_1_code (1 : Nat) (Option.none : Option Jvm.ClassFile.FieldType), Jvm.Cond.code ({ cls := "java/lang/Object", name := "<init>", desc := "()V" } : Jvm.MethodName) object_method_1_code (1 : Nat) (Option.none : Option Jvm.ClassFile.FieldType), Jvm.Cond.code ({ cls := "java/util/ArrayDeque", name := "<init>", desc := "()V" } : Jvm.MethodName) jdk_21_method_3_code (1 : Nat) (Option.none : Option Jvm.ClassFile.FieldType), Jvm.Cond.code ({ cls := "java/util/AbstractCollection", name := "<init>", desc := "()V" } : Jvm.MethodName) jdk_22_method_1_code (1 : Nat) (Option.none : Option Jvm.ClassFile.FieldType), Jvm.Cond.code ({ cls := "com/example/entrole/entrole/model/UndoLog", name := "inTrial", desc := "()Z" } : Jvm.MethodName) prog_19_method_3_code (1 : Nat) (Option.some Jvm.ClassFile.FieldType.boolean), Jvm.Cond.code ({ cls := "com/example/entrole/entrole/model/UndoLog", name := "beginTrial", desc := "()V" } : Jvm.MethodName) prog_19_method_2_code (1 : Nat) (Option.none : Option Jvm.ClassFile.FieldType), Jvm.Cond.code ({ cls := "com/example/entrole/entrole/model/UndoLog", name := "rollBack", desc := "()V" } : Jvm.MethodName) prog_19_method_5_code (1 : Nat) (Option.none : Option Jvm.ClassFile.FieldType), Jvm.Cond.code ({ cls := "java/util/ArrayDeque", name := "isEmpty", desc := "()Z" } : Jvm.MethodName) jdk_21_method_38_code (1 : Nat) (Option.some Jvm.ClassFile.FieldType.boolean)]
set_option maxRecDepth 65536 in
theorem codes_eq : words1.filter isCode = codes1 := rfl
theorem w_codes : ∀ c ∈ words1.filter isCode, c.before args0 about1 = true := by
  rw [codes_eq]
  intro c hc
  simp only [codes1, List.mem_cons, List.not_mem_nil, or_false] at hc
  rcases hc with rfl | rfl | rfl | rfl | rfl | rfl | rfl | rfl | rfl
  · exact w_c0
  · exact w_c1
  · exact w_c2
  · exact w_c3
  · exact w_c4
  · exact w_c5
  · exact w_c6
  · exact w_c7
  · exact w_c8
set_option maxRecDepth 65536 in
theorem w_t1 : (words1.take 24).all (fun c => isCode c || c.before args0 about1) = true := by decide +kernel
set_option maxRecDepth 65536 in
theorem w_t2 : ((words1.drop 24).take 24).all (fun c => isCode c || c.before args0 about1) = true := by decide +kernel
set_option maxRecDepth 65536 in
theorem w_t3 : ((words1.drop 24).drop 24).all (fun c => isCode c || c.before args0 about1) = true := by decide +kernel
theorem w_tables : (allAtoms (Jvm.Cond.code x code maxLocals ret :: tables_1)).before args0 about1 = true := by
  rw [allAtoms_all]
  show words1.all (fun c => c.before args0 about1) = true
  refine all_split ?_ w_codes
  rw [← List.take_append_drop 24 words1, List.all_append, w_t1, ← List.take_append_drop 24 (words1.drop 24), List.all_append, w_t2, w_t3]
  rfl
set_option maxRecDepth 65536 in
theorem w_case : (Jvm.Cond.and given_1 narrow_1).before args0 about1 = true := by decide +kernel
theorem w_applies : (headSpec (Jvm.Cond.code x code maxLocals ret :: tables_1) room_1).applies x e0.platform about1 = true :=
  (Spec.applies_iff w_frames).mpr ⟨w_running, w_runnable, w_alone, w_named, w_hears, w_ripe, w_room, w_tables⟩
theorem atStart : AtStart classFile x code maxLocals ret World_1 tables_1 room_1 Calls_1 rest_1 Pre_1 launch0 p0 e0 about1 theMethod args0 below0 :=
  ⟨lists_1, trivial, launch0.admits_env _ _ _, launch0.least_env, fairChoices_fair.cas, fairChoices_fair.clock, w_frames, w_args, w_heap, w_applies, trivial, trivial, w_case⟩
end start1
theorem witness_1 : WitnessClaimed_1 := ⟨start1.p0, start1.e0, start1.about1, start1.theMethod, start1.args0, start1.below0, start1.atStart⟩
end Jvm.Pilot.@@N@@
