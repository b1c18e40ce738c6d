import JvmDerived
import JvmDerived.Pilot.@@N@@Statement
import JvmDerived.Pilot.@@N@@Code
set_option linter.unusedVariables false
set_option linter.unusedSimpArgs false
namespace Jvm.OwnWk
open Sem ClassFile Op Lib Jvm.Stand Jvm.Free Jvm.LawKit Jvm.RoadKit
def Sd (Z : State) (own : String) (bs : ByteArray) (mx : Nat) (ret : Option FieldType) (n0 : Nat) (p : Program) (l : Launch) (e : Env) (R : Room) (s : State) (m : MethodId) (args : Array Value) (below : List Frame) (meth : Method) (c : Code) (T : State) (h : Heap) (k n : Nat) : Prop :=
  ∃ locs, Stand p l e R s m args below meth c T locs k n ∧ T.heap = h ∧ Fr n0 locs ∧ n0 ≤ s.heap.size ∧ p.tables.exec = Jvm.exec ∧ Z.Warmed39 s.vm ∧ s.vm.findClass own = some m.cls ∧ c.code = bs ∧ c.maxLocals = mx ∧ meth.sig.returnType = ret ∧ meth.locks = false
def Gl (p : Program) (e : Env) (below : List Frame) (P : Outcome → State → Prop) (A : State) : Prop := ∃ t o, Steps p.tables e below A t ∧ t.status = .running ∧ Ended t below o ∧ P o t
def Pst (s : State) (n0 K N : Nat) (Q : Option Value → Heap → Prop) (o : Outcome) (t : State) : Prop := ∃ v L, o = .returned v ∧ (Q v t.heap ∧ Fr n0 L) ∧ FrameEnd s o t L K N
def OMet (l : Launch) (Z : State) (ws : List Jvm.Cond) (y : MethodName) (bs : ByteArray) (mx : Nat) (ret : Option FieldType) (rm : Room) (as : Array Value) (h : Heap) (n0 : Nat) (Q : Option Value → Heap → Prop) : Prop :=
  MetFree l y (head1 (Jvm.Cond.code y bs mx ret :: ws) rm) (fun a U => a = as ∧ Z.Warmed39 U.vm ∧ U.heap = h) (fun _ _ _ _ _ => True) (fun _ U o U' => ∃ v L, o = .returned v ∧ (Q v U'.heap ∧ Fr n0 L) ∧ FrameEnd U o U' L rm.cells rm.slots)
section Kit
variable {Z : State} {own : String} {bs : ByteArray} {mx : Nat} {ret : Option FieldType} {n0 : Nat} {p : Program} {l : Launch} {e : Env} {R : Room} {s : State} {m : MethodId} {args : Array Value} {below : List Frame} {meth : Method} {c : Code} {T : State} {h : Heap} {k n : Nat} {P : Outcome → State → Prop} {L : Array Slot} {S : List Value} {pc pc' pcT pcF : Nat} {a0 : Array Value} {t : FieldType}
theorem Gl.of1 {A B : State} (f : ∀ t, Steps p.tables e below B t → Steps p.tables e below A t) (q : Gl p e below P B) : Gl p e below P A := by
  obtain ⟨t, o, h1, h2⟩ := q
  exact ⟨t, o, f t h1, h2⟩
theorem Gl.via {A B : State} (f : Steps p.tables e below A B) (q : Gl p e below P B) : Gl p e below P A := by
  obtain ⟨t, o, h1, h2⟩ := q
  exact ⟨t, o, f.trans h1, h2⟩
theorem OMet.of {ws : List Jvm.Cond} {y : MethodName} {rm : Room} {as : Array Value} {Q : Option Value → Heap → Prop} (hpl : plainFor y = true) (hef : ∀ m, entryFrame m as mx = mkF m 0 L []) (hn : n0 ≤ h.size)
    (body : ∀ p e s m below meth c T, Sd Z y.cls bs mx ret n0 p l e rm s m as below meth c T h 0 0 → meth.name = y.name → Gl p e below (Pst s n0 rm.cells rm.slots Q) (T.setTop (mkF m 0 L []))) : OMet l Z ws y bs mx ret rm as h n0 Q := by
  refine MetFree.of_bodySF hpl hisR ?_
  intro p e s m args below meth c s₁ Bd hml0 hP hK
  obtain ⟨rfl, hZ, hh⟩ := hP
  have e0 : s₁.heap = h := by rw [← hh, Bd.state]; rfl
  obtain ⟨t, o, h1, h2, h3, h4⟩ := body p e s m below meth c s₁ ⟨[], Stand.of_body Bd, e0, Fr.nil n0, by rw [hh]; exact hn, Bd.exec, hZ, findClass_of_methodNamed Bd.named, Bd.bytes, hml0, Bd.returns, Bd.notSynchronized⟩ (name_of_methodNamed Bd.named Bd.method).1
  exact ⟨t, o, castTop (hef m) h1, h2, h3, h4⟩

theorem own_grow {T' : State} {locs' : List Loc} {k' n' : Nat} (X : Stand p l e R s m args below meth c T' locs' k' n') : s.heap.size ≤ T'.heap.size := X.same.2.1
theorem own_eqI {args : Array Value} {Z : State} {t : Term} {v : Int32} (q : (Jvm.Cond.eq t (.int v)).value args Z none Z [] = some true) : t.eval args Z none [] Z = some (.int v) := by
  simp only [Cond.value, Term.eval] at q
  cases ht : t.eval args Z none [] Z with
  | none => simp [ht] at q
  | some w => cases w <;> simp [ht] at q ⊢ <;> exact q
theorem own_ite {c A B : Prop} [Decidable c] (h1 : c → A) (h2 : ¬ c → B) : A ∨ B := if q : c then Or.inl (h1 q) else Or.inr (h2 q)
theorem own_cut {A B : Prop} (f : B → A) (b : B) : A := f b
theorem Sd.sz (Y : Sd Z own bs mx ret n0 p l e R s m args below meth c T h k n) : n0 ≤ h.size := by
  obtain ⟨locs, X, eT, N, hn0, hx, hZ, hown, hby, hml, hrt, hlk⟩ := Y
  exact eT ▸ Nat.le_trans hn0 (own_grow X)
theorem own_narB {a v : Int32} (h : a.toInt8.toInt32 = v) : nar .byte v = v := by subst h; simp [nar]
theorem own_narC {a v : Int32} (h : a.toUInt32.toUInt16.toUInt32.toInt32 = v) : nar .char v = v := by subst h; have q := Jvm.Free.XT.narrow_c a; exact Value.int.inj q
theorem own_narS {a v : Int32} (h : a.toInt16.toInt32 = v) : nar .short v = v := by subst h; simp [nar]
theorem own_c3 {v : Int32} (h0 : 0 ≤ v.toInt) (h : v.toInt ≤ 3) : v = 0 ∨ v = 1 ∨ v = 2 ∨ v = 3 := by
  have : v.toInt = 0 ∨ v.toInt = 1 ∨ v.toInt = 2 ∨ v.toInt = 3 := by omega
  rcases this with q | q | q | q <;> simp [← Int32.toInt_inj, q]
theorem own_c4 {v : Int32} (h0 : 0 ≤ v.toInt) (h : v.toInt ≤ 4) : v = 0 ∨ v = 1 ∨ v = 2 ∨ v = 3 ∨ v = 4 := by
  have : v.toInt = 0 ∨ v.toInt = 1 ∨ v.toInt = 2 ∨ v.toInt = 3 ∨ v.toInt = 4 := by omega
  rcases this with q | q | q | q | q <;> simp [← Int32.toInt_inj, q]
theorem own_c5 {v : Int32} (h0 : 0 ≤ v.toInt) (h : v.toInt ≤ 5) : v = 0 ∨ v = 1 ∨ v = 2 ∨ v = 3 ∨ v = 4 ∨ v = 5 := by
  have : v.toInt = 0 ∨ v.toInt = 1 ∨ v.toInt = 2 ∨ v.toInt = 3 ∨ v.toInt = 4 ∨ v.toInt = 5 := by omega
  rcases this with q | q | q | q | q | q <;> simp [← Int32.toInt_inj, q]
theorem own_narR {t : FieldType} {x : Value} (q : x.isRef = true) : narrow t x = x := by rcases ref_cases q with rfl | ⟨z, rfl⟩ <;> cases t <;> rfl
theorem OMet.un {l : Launch} {Z : State} {ws : List Jvm.Cond} {y : MethodName} {bs : ByteArray} {mx : Nat} {ret : Option FieldType} {rm : Room} {as : Array Value} {h : Heap} {n0 : Nat} {Q : Option Value → Heap → Prop} (q : OMet l Z ws y bs mx ret rm as h n0 Q) :
  MetFree l y (head1 (Jvm.Cond.code y bs mx ret :: ws) rm) (fun a U => a = as ∧ Z.Warmed39 U.vm ∧ U.heap = h) (fun _ _ _ _ _ => True) (fun _ U o U' => ∃ v L, o = .returned v ∧ (fun v h' L => Q v h' ∧ Fr n0 L) v U'.heap L ∧ FrameEnd U o U' L rm.cells rm.slots) := q
theorem own_not64 (x : Int64) : (x ^^^ (-1)).toInt = -x.toInt - 1 := by
  have h1 : x ^^^ (-1) = ~~~x := by
    apply Int64.toBitVec_inj.mp
    rw [Int64.toBitVec_xor, Int64.toBitVec_not]
    exact BitVec.xor_allOnes
  rw [h1, Int64.not_eq_neg_sub]
  have q := c_lsub (-x) 1
  have r := c_lneg x
  have n1 := rng64 (-x - 1)
  have n2 := rng64 (-x)
  have n3 := rng64 x
  simp only [Int64.reduceToInt] at q
  omega
theorem own_narZ {x : Int32} (q : x = 0 ∨ x = 1) : nar .boolean x = x := by rcases q with rfl | rfl <;> rfl
theorem own_nZ {x : Int32} (q : x = 0 ∨ x = 1) : narrow .boolean (.int x) = .int x := by rcases q with rfl | rfl <;> rfl
theorem own_fZ {x : Int32} (q : x = 0 ∨ x = 1) : fits .boolean (.int x) = true := by rcases q with rfl | rfl <;> rfl
theorem Gl.iadd (Y : Sd Z own bs mx ret n0 p l e R s m args below meth c T h k n) {x y : Int32} {r : Int32} (hr : x + y = r) (hd : decode bs pc = .ok (.iadd, 1)) (hp : pc + 1 = pc') (q : Gl p e below P (T.setTop (mkF m pc' L (.int r :: S)))) : Gl p e below P (T.setTop (mkF m pc L (.int y :: .int x :: S))) := by
  obtain ⟨locs, X, eT, N, hn0, hx, hZ, hown, hby, hml, hrt, hlk⟩ := Y
  subst hp hr
  exact q.of1 fun t q => XS.iadd X.here hx rfl (hb hby hd) rfl q
theorem Gl.isub (Y : Sd Z own bs mx ret n0 p l e R s m args below meth c T h k n) {x y : Int32} {r : Int32} (hr : x - y = r) (hd : decode bs pc = .ok (.isub, 1)) (hp : pc + 1 = pc') (q : Gl p e below P (T.setTop (mkF m pc' L (.int r :: S)))) : Gl p e below P (T.setTop (mkF m pc L (.int y :: .int x :: S))) := by
  obtain ⟨locs, X, eT, N, hn0, hx, hZ, hown, hby, hml, hrt, hlk⟩ := Y
  subst hp hr
  exact q.of1 fun t q => XS.isub X.here hx rfl (hb hby hd) rfl q
theorem Gl.imul (Y : Sd Z own bs mx ret n0 p l e R s m args below meth c T h k n) {x y : Int32} {r : Int32} (hr : x * y = r) (hd : decode bs pc = .ok (.imul, 1)) (hp : pc + 1 = pc') (q : Gl p e below P (T.setTop (mkF m pc' L (.int r :: S)))) : Gl p e below P (T.setTop (mkF m pc L (.int y :: .int x :: S))) := by
  obtain ⟨locs, X, eT, N, hn0, hx, hZ, hown, hby, hml, hrt, hlk⟩ := Y
  subst hp hr
  exact q.of1 fun t q => XS.imul X.here hx rfl (hb hby hd) rfl q
theorem Gl.iand (Y : Sd Z own bs mx ret n0 p l e R s m args below meth c T h k n) {x y : Int32} {r : Int32} (hr : x &&& y = r) (hd : decode bs pc = .ok (.iand, 1)) (hp : pc + 1 = pc') (q : Gl p e below P (T.setTop (mkF m pc' L (.int r :: S)))) : Gl p e below P (T.setTop (mkF m pc L (.int y :: .int x :: S))) := by
  obtain ⟨locs, X, eT, N, hn0, hx, hZ, hown, hby, hml, hrt, hlk⟩ := Y
  subst hp hr
  exact q.of1 fun t q => XS.iand X.here hx rfl (hb hby hd) rfl q
theorem Gl.ior (Y : Sd Z own bs mx ret n0 p l e R s m args below meth c T h k n) {x y : Int32} {r : Int32} (hr : x ||| y = r) (hd : decode bs pc = .ok (.ior, 1)) (hp : pc + 1 = pc') (q : Gl p e below P (T.setTop (mkF m pc' L (.int r :: S)))) : Gl p e below P (T.setTop (mkF m pc L (.int y :: .int x :: S))) := by
  obtain ⟨locs, X, eT, N, hn0, hx, hZ, hown, hby, hml, hrt, hlk⟩ := Y
  subst hp hr
  exact q.of1 fun t q => XS.ior X.here hx rfl (hb hby hd) rfl q
theorem Gl.ixor (Y : Sd Z own bs mx ret n0 p l e R s m args below meth c T h k n) {x y : Int32} {r : Int32} (hr : x ^^^ y = r) (hd : decode bs pc = .ok (.ixor, 1)) (hp : pc + 1 = pc') (q : Gl p e below P (T.setTop (mkF m pc' L (.int r :: S)))) : Gl p e below P (T.setTop (mkF m pc L (.int y :: .int x :: S))) := by
  obtain ⟨locs, X, eT, N, hn0, hx, hZ, hown, hby, hml, hrt, hlk⟩ := Y
  subst hp hr
  exact q.of1 fun t q => XS.ixor X.here hx rfl (hb hby hd) rfl q
theorem Gl.ishl (Y : Sd Z own bs mx ret n0 p l e R s m args below meth c T h k n) {x y : Int32} {r : Int32} (hr : x <<< (y &&& 31) = r) (hd : decode bs pc = .ok (.ishl, 1)) (hp : pc + 1 = pc') (q : Gl p e below P (T.setTop (mkF m pc' L (.int r :: S)))) : Gl p e below P (T.setTop (mkF m pc L (.int y :: .int x :: S))) := by
  obtain ⟨locs, X, eT, N, hn0, hx, hZ, hown, hby, hml, hrt, hlk⟩ := Y
  subst hp hr
  exact q.of1 fun t q => XS.ishl X.here hx rfl (hb hby hd) rfl q
theorem Gl.ishr (Y : Sd Z own bs mx ret n0 p l e R s m args below meth c T h k n) {x y : Int32} {r : Int32} (hr : x >>> (y &&& 31) = r) (hd : decode bs pc = .ok (.ishr, 1)) (hp : pc + 1 = pc') (q : Gl p e below P (T.setTop (mkF m pc' L (.int r :: S)))) : Gl p e below P (T.setTop (mkF m pc L (.int y :: .int x :: S))) := by
  obtain ⟨locs, X, eT, N, hn0, hx, hZ, hown, hby, hml, hrt, hlk⟩ := Y
  subst hp hr
  exact q.of1 fun t q => XS.ishr X.here hx rfl (hb hby hd) rfl q
theorem Gl.iushr (Y : Sd Z own bs mx ret n0 p l e R s m args below meth c T h k n) {x y : Int32} {r : Int32} (hr : (x.toUInt32 >>> (y &&& 31).toUInt32).toInt32 = r) (hd : decode bs pc = .ok (.iushr, 1)) (hp : pc + 1 = pc') (q : Gl p e below P (T.setTop (mkF m pc' L (.int r :: S)))) : Gl p e below P (T.setTop (mkF m pc L (.int y :: .int x :: S))) := by
  obtain ⟨locs, X, eT, N, hn0, hx, hZ, hown, hby, hml, hrt, hlk⟩ := Y
  subst hp hr
  exact q.of1 fun t q => XS.iushr X.here hx rfl (hb hby hd) rfl q
theorem Gl.ladd (Y : Sd Z own bs mx ret n0 p l e R s m args below meth c T h k n) {x y : Int64} {r : Int64} (hr : x + y = r) (hd : decode bs pc = .ok (.ladd, 1)) (hp : pc + 1 = pc') (q : Gl p e below P (T.setTop (mkF m pc' L (.long r :: S)))) : Gl p e below P (T.setTop (mkF m pc L (.long y :: .long x :: S))) := by
  obtain ⟨locs, X, eT, N, hn0, hx, hZ, hown, hby, hml, hrt, hlk⟩ := Y
  subst hp hr
  exact q.of1 fun t q => XS.ladd X.here hx rfl (hb hby hd) rfl q
theorem Gl.lsub (Y : Sd Z own bs mx ret n0 p l e R s m args below meth c T h k n) {x y : Int64} {r : Int64} (hr : x - y = r) (hd : decode bs pc = .ok (.lsub, 1)) (hp : pc + 1 = pc') (q : Gl p e below P (T.setTop (mkF m pc' L (.long r :: S)))) : Gl p e below P (T.setTop (mkF m pc L (.long y :: .long x :: S))) := by
  obtain ⟨locs, X, eT, N, hn0, hx, hZ, hown, hby, hml, hrt, hlk⟩ := Y
  subst hp hr
  exact q.of1 fun t q => XS.lsub X.here hx rfl (hb hby hd) rfl q
theorem Gl.lmul (Y : Sd Z own bs mx ret n0 p l e R s m args below meth c T h k n) {x y : Int64} {r : Int64} (hr : x * y = r) (hd : decode bs pc = .ok (.lmul, 1)) (hp : pc + 1 = pc') (q : Gl p e below P (T.setTop (mkF m pc' L (.long r :: S)))) : Gl p e below P (T.setTop (mkF m pc L (.long y :: .long x :: S))) := by
  obtain ⟨locs, X, eT, N, hn0, hx, hZ, hown, hby, hml, hrt, hlk⟩ := Y
  subst hp hr
  exact q.of1 fun t q => XS.lmul X.here hx rfl (hb hby hd) rfl q
theorem Gl.land (Y : Sd Z own bs mx ret n0 p l e R s m args below meth c T h k n) {x y : Int64} {r : Int64} (hr : x &&& y = r) (hd : decode bs pc = .ok (.land, 1)) (hp : pc + 1 = pc') (q : Gl p e below P (T.setTop (mkF m pc' L (.long r :: S)))) : Gl p e below P (T.setTop (mkF m pc L (.long y :: .long x :: S))) := by
  obtain ⟨locs, X, eT, N, hn0, hx, hZ, hown, hby, hml, hrt, hlk⟩ := Y
  subst hp hr
  exact q.of1 fun t q => XS.land X.here hx rfl (hb hby hd) rfl q
theorem Gl.lor (Y : Sd Z own bs mx ret n0 p l e R s m args below meth c T h k n) {x y : Int64} {r : Int64} (hr : x ||| y = r) (hd : decode bs pc = .ok (.lor, 1)) (hp : pc + 1 = pc') (q : Gl p e below P (T.setTop (mkF m pc' L (.long r :: S)))) : Gl p e below P (T.setTop (mkF m pc L (.long y :: .long x :: S))) := by
  obtain ⟨locs, X, eT, N, hn0, hx, hZ, hown, hby, hml, hrt, hlk⟩ := Y
  subst hp hr
  exact q.of1 fun t q => XS.lor X.here hx rfl (hb hby hd) rfl q
theorem Gl.lxor (Y : Sd Z own bs mx ret n0 p l e R s m args below meth c T h k n) {x y : Int64} {r : Int64} (hr : x ^^^ y = r) (hd : decode bs pc = .ok (.lxor, 1)) (hp : pc + 1 = pc') (q : Gl p e below P (T.setTop (mkF m pc' L (.long r :: S)))) : Gl p e below P (T.setTop (mkF m pc L (.long y :: .long x :: S))) := by
  obtain ⟨locs, X, eT, N, hn0, hx, hZ, hown, hby, hml, hrt, hlk⟩ := Y
  subst hp hr
  exact q.of1 fun t q => XS.lxor X.here hx rfl (hb hby hd) rfl q
theorem Gl.lshl (Y : Sd Z own bs mx ret n0 p l e R s m args below meth c T h k n) {x : Int64} {y : Int32} {r : Int64} (hr : x <<< (y &&& 0x3f).toInt64 = r) (hd : decode bs pc = .ok (.lshl, 1)) (hp : pc + 1 = pc') (q : Gl p e below P (T.setTop (mkF m pc' L (.long r :: S)))) : Gl p e below P (T.setTop (mkF m pc L (.int y :: .long x :: S))) := by
  obtain ⟨locs, X, eT, N, hn0, hx, hZ, hown, hby, hml, hrt, hlk⟩ := Y
  subst hp hr
  exact q.of1 fun t q => XS.lshl X.here hx rfl (hb hby hd) rfl q
theorem Gl.lshr (Y : Sd Z own bs mx ret n0 p l e R s m args below meth c T h k n) {x : Int64} {y : Int32} {r : Int64} (hr : x >>> (y &&& 0x3f).toInt64 = r) (hd : decode bs pc = .ok (.lshr, 1)) (hp : pc + 1 = pc') (q : Gl p e below P (T.setTop (mkF m pc' L (.long r :: S)))) : Gl p e below P (T.setTop (mkF m pc L (.int y :: .long x :: S))) := by
  obtain ⟨locs, X, eT, N, hn0, hx, hZ, hown, hby, hml, hrt, hlk⟩ := Y
  subst hp hr
  exact q.of1 fun t q => XS.lshr X.here hx rfl (hb hby hd) rfl q
theorem Gl.lushr (Y : Sd Z own bs mx ret n0 p l e R s m args below meth c T h k n) {x : Int64} {y : Int32} {r : Int64} (hr : (x.toUInt64 >>> (y &&& 0x3f).toInt64.toUInt64).toInt64 = r) (hd : decode bs pc = .ok (.lushr, 1)) (hp : pc + 1 = pc') (q : Gl p e below P (T.setTop (mkF m pc' L (.long r :: S)))) : Gl p e below P (T.setTop (mkF m pc L (.int y :: .long x :: S))) := by
  obtain ⟨locs, X, eT, N, hn0, hx, hZ, hown, hby, hml, hrt, hlk⟩ := Y
  subst hp hr
  exact q.of1 fun t q => XS.lushr X.here hx rfl (hb hby hd) rfl q
theorem Gl.idiv (Y : Sd Z own bs mx ret n0 p l e R s m args below meth c T h k n) {x y : Int32} (hy : y ≠ 0) {r : Int32} (hr : x / y = r) (hd : decode bs pc = .ok (.idiv, 1)) (hp : pc + 1 = pc') (q : Gl p e below P (T.setTop (mkF m pc' L (.int r :: S)))) : Gl p e below P (T.setTop (mkF m pc L (.int y :: .int x :: S))) := by
  obtain ⟨locs, X, eT, N, hn0, hx, hZ, hown, hby, hml, hrt, hlk⟩ := Y
  subst hp hr
  exact q.of1 fun t q => XS.idiv X.here hx rfl (hb hby hd) rfl hy q
theorem Gl.irem (Y : Sd Z own bs mx ret n0 p l e R s m args below meth c T h k n) {x y : Int32} (hy : y ≠ 0) {r : Int32} (hr : x % y = r) (hd : decode bs pc = .ok (.irem, 1)) (hp : pc + 1 = pc') (q : Gl p e below P (T.setTop (mkF m pc' L (.int r :: S)))) : Gl p e below P (T.setTop (mkF m pc L (.int y :: .int x :: S))) := by
  obtain ⟨locs, X, eT, N, hn0, hx, hZ, hown, hby, hml, hrt, hlk⟩ := Y
  subst hp hr
  exact q.of1 fun t q => iremM X hx rfl (hb hby hd) rfl hy q
theorem Gl.ldiv (Y : Sd Z own bs mx ret n0 p l e R s m args below meth c T h k n) {x y : Int64} (hy : y ≠ 0) {r : Int64} (hr : x / y = r) (hd : decode bs pc = .ok (.ldiv, 1)) (hp : pc + 1 = pc') (q : Gl p e below P (T.setTop (mkF m pc' L (.long r :: S)))) : Gl p e below P (T.setTop (mkF m pc L (.long y :: .long x :: S))) := by
  obtain ⟨locs, X, eT, N, hn0, hx, hZ, hown, hby, hml, hrt, hlk⟩ := Y
  subst hp hr
  exact q.of1 fun t q => XS.ldiv X.here hx rfl (hb hby hd) rfl hy q
theorem Gl.lrem (Y : Sd Z own bs mx ret n0 p l e R s m args below meth c T h k n) {x y : Int64} (hy : y ≠ 0) {r : Int64} (hr : x % y = r) (hd : decode bs pc = .ok (.lrem, 1)) (hp : pc + 1 = pc') (q : Gl p e below P (T.setTop (mkF m pc' L (.long r :: S)))) : Gl p e below P (T.setTop (mkF m pc L (.long y :: .long x :: S))) := by
  obtain ⟨locs, X, eT, N, hn0, hx, hZ, hown, hby, hml, hrt, hlk⟩ := Y
  subst hp hr
  exact q.of1 fun t q => XS.lrem X.here hx rfl (hb hby hd) rfl hy (by rw [lrem_mod]; exact q)
theorem Gl.ineg (Y : Sd Z own bs mx ret n0 p l e R s m args below meth c T h k n) {x : Int32} {r : Int32} (hr : -x = r) (hd : decode bs pc = .ok (.ineg, 1)) (hp : pc + 1 = pc') (q : Gl p e below P (T.setTop (mkF m pc' L (.int r :: S)))) : Gl p e below P (T.setTop (mkF m pc L (.int x :: S))) := by
  obtain ⟨locs, X, eT, N, hn0, hx, hZ, hown, hby, hml, hrt, hlk⟩ := Y
  subst hp hr
  exact q.of1 fun t q => XS.ineg X.here hx rfl (hb hby hd) rfl q
theorem Gl.lneg (Y : Sd Z own bs mx ret n0 p l e R s m args below meth c T h k n) {x : Int64} {r : Int64} (hr : -x = r) (hd : decode bs pc = .ok (.lneg, 1)) (hp : pc + 1 = pc') (q : Gl p e below P (T.setTop (mkF m pc' L (.long r :: S)))) : Gl p e below P (T.setTop (mkF m pc L (.long x :: S))) := by
  obtain ⟨locs, X, eT, N, hn0, hx, hZ, hown, hby, hml, hrt, hlk⟩ := Y
  subst hp hr
  exact q.of1 fun t q => XS.lneg X.here hx rfl (hb hby hd) rfl q
theorem Gl.i2b (Y : Sd Z own bs mx ret n0 p l e R s m args below meth c T h k n) {x : Int32} {r : Int32} (hr : x.toInt8.toInt32 = r) (hd : decode bs pc = .ok (.i2b, 1)) (hp : pc + 1 = pc') (q : Gl p e below P (T.setTop (mkF m pc' L (.int r :: S)))) : Gl p e below P (T.setTop (mkF m pc L (.int x :: S))) := by
  obtain ⟨locs, X, eT, N, hn0, hx, hZ, hown, hby, hml, hrt, hlk⟩ := Y
  subst hp hr
  exact q.of1 fun t q => XS.i2b X.here hx rfl (hb hby hd) rfl q
theorem Gl.i2c (Y : Sd Z own bs mx ret n0 p l e R s m args below meth c T h k n) {x : Int32} {r : Int32} (hr : x.toUInt32.toUInt16.toUInt32.toInt32 = r) (hd : decode bs pc = .ok (.i2c, 1)) (hp : pc + 1 = pc') (q : Gl p e below P (T.setTop (mkF m pc' L (.int r :: S)))) : Gl p e below P (T.setTop (mkF m pc L (.int x :: S))) := by
  obtain ⟨locs, X, eT, N, hn0, hx, hZ, hown, hby, hml, hrt, hlk⟩ := Y
  subst hp hr
  exact q.of1 fun t q => XS.i2c X.here hx rfl (hb hby hd) rfl q
theorem Gl.i2s (Y : Sd Z own bs mx ret n0 p l e R s m args below meth c T h k n) {x : Int32} {r : Int32} (hr : x.toInt16.toInt32 = r) (hd : decode bs pc = .ok (.i2s, 1)) (hp : pc + 1 = pc') (q : Gl p e below P (T.setTop (mkF m pc' L (.int r :: S)))) : Gl p e below P (T.setTop (mkF m pc L (.int x :: S))) := by
  obtain ⟨locs, X, eT, N, hn0, hx, hZ, hown, hby, hml, hrt, hlk⟩ := Y
  subst hp hr
  exact q.of1 fun t q => XS.i2s X.here hx rfl (hb hby hd) rfl q
theorem Gl.i2l (Y : Sd Z own bs mx ret n0 p l e R s m args below meth c T h k n) {x : Int32} {r : Int64} (hr : x.toInt64 = r) (hd : decode bs pc = .ok (.i2l, 1)) (hp : pc + 1 = pc') (q : Gl p e below P (T.setTop (mkF m pc' L (.long r :: S)))) : Gl p e below P (T.setTop (mkF m pc L (.int x :: S))) := by
  obtain ⟨locs, X, eT, N, hn0, hx, hZ, hown, hby, hml, hrt, hlk⟩ := Y
  subst hp hr
  exact q.of1 fun t q => XS.i2l X.here hx rfl (hb hby hd) rfl q
theorem Gl.l2i (Y : Sd Z own bs mx ret n0 p l e R s m args below meth c T h k n) {x : Int64} {r : Int32} (hr : x.toInt32 = r) (hd : decode bs pc = .ok (.l2i, 1)) (hp : pc + 1 = pc') (q : Gl p e below P (T.setTop (mkF m pc' L (.int r :: S)))) : Gl p e below P (T.setTop (mkF m pc L (.long x :: S))) := by
  obtain ⟨locs, X, eT, N, hn0, hx, hZ, hown, hby, hml, hrt, hlk⟩ := Y
  subst hp hr
  exact q.of1 fun t q => XS.l2i X.here hx rfl (hb hby hd) rfl q
theorem Gl.iconst (Y : Sd Z own bs mx ret n0 p l e R s m args below meth c T h k n) {i : Int} {v : Int32} (hv : Int32.ofInt i = v) (hd : decode bs pc = .ok (.iconst i, 1)) (hp : pc + 1 = pc') (q : Gl p e below P (T.setTop (mkF m pc' L (.int v :: S)))) : Gl p e below P (T.setTop (mkF m pc L S)) := by
  obtain ⟨locs, X, eT, N, hn0, hx, hZ, hown, hby, hml, hrt, hlk⟩ := Y
  subst hp
  exact q.of1 fun t q => XS.iconst X.here hx rfl (hb hby hd) (by rw [hv]; exact q)
theorem Gl.bipush (Y : Sd Z own bs mx ret n0 p l e R s m args below meth c T h k n) {i : Int} {v : Int32} (hv : (Int8.ofInt i).toInt32 = v) (hd : decode bs pc = .ok (.bipush i, 2)) (hp : pc + 2 = pc') (q : Gl p e below P (T.setTop (mkF m pc' L (.int v :: S)))) : Gl p e below P (T.setTop (mkF m pc L S)) := by
  obtain ⟨locs, X, eT, N, hn0, hx, hZ, hown, hby, hml, hrt, hlk⟩ := Y
  subst hp
  exact q.of1 fun t q => XS.bipush X.here hx rfl (hb hby hd) (by rw [hv]; exact q)
theorem Gl.sipush (Y : Sd Z own bs mx ret n0 p l e R s m args below meth c T h k n) {i : Int} {v : Int32} (hv : (Int16.ofInt i).toInt32 = v) (hd : decode bs pc = .ok (.sipush i, 3)) (hp : pc + 3 = pc') (q : Gl p e below P (T.setTop (mkF m pc' L (.int v :: S)))) : Gl p e below P (T.setTop (mkF m pc L S)) := by
  obtain ⟨locs, X, eT, N, hn0, hx, hZ, hown, hby, hml, hrt, hlk⟩ := Y
  subst hp
  exact q.of1 fun t q => XS.sipush X.here hx rfl (hb hby hd) (by rw [hv]; exact q)
theorem Gl.lconst (Y : Sd Z own bs mx ret n0 p l e R s m args below meth c T h k n) {i : Fin 2} {v : Int64} (hv : Int64.ofNat i = v) (hd : decode bs pc = .ok (.lconst i, 1)) (hp : pc + 1 = pc') (q : Gl p e below P (T.setTop (mkF m pc' L (.long v :: S)))) : Gl p e below P (T.setTop (mkF m pc L S)) := by
  obtain ⟨locs, X, eT, N, hn0, hx, hZ, hown, hby, hml, hrt, hlk⟩ := Y
  subst hp
  exact q.of1 fun t q => XS.lconst X.here hx rfl (hb hby hd) (by rw [hv]; exact q)
theorem Gl.aconstNull (Y : Sd Z own bs mx ret n0 p l e R s m args below meth c T h k n)  (hd : decode bs pc = .ok (.aconst_null, 1)) (hp : pc + 1 = pc') (q : Gl p e below P (T.setTop (mkF m pc' L (.null :: S)))) : Gl p e below P (T.setTop (mkF m pc L S)) := by
  obtain ⟨locs, X, eT, N, hn0, hx, hZ, hown, hby, hml, hrt, hlk⟩ := Y
  subst hp
  exact q.of1 fun t q => XS.aconstNull X.here hx rfl (hb hby hd) q
theorem Gl.ldcI (Y : Sd Z own bs mx ret n0 p l e R s m args below meth c T h k n) {i : Nat} {v : Int32} (w : (Jvm.Cond.constant own i v).before a0 Z = true) (hd : decode bs pc = .ok (.ldc i, 2)) (hp : pc + 2 = pc') (q : Gl p e below P (T.setTop (mkF m pc' L (.int v :: S)))) : Gl p e below P (T.setTop (mkF m pc L S)) := by
  obtain ⟨locs, X, eT, N, hn0, hx, hZ, hown, hby, hml, hrt, hlk⟩ := Y
  subst hp
  exact q.of1 fun t q => X.ldcInt hx hown (mvT hZ w) (g := mkF m pc L S) rfl (hb hby hd) t q
theorem Gl.ldcWI (Y : Sd Z own bs mx ret n0 p l e R s m args below meth c T h k n) {i : Nat} {v : Int32} (w : (Jvm.Cond.constant own i v).before a0 Z = true) (hd : decode bs pc = .ok (.ldc_w i, 3)) (hp : pc + 3 = pc') (q : Gl p e below P (T.setTop (mkF m pc' L (.int v :: S)))) : Gl p e below P (T.setTop (mkF m pc L S)) := by
  obtain ⟨locs, X, eT, N, hn0, hx, hZ, hown, hby, hml, hrt, hlk⟩ := Y
  subst hp
  exact q.of1 fun t q => X.ldcWI hx hown (mvT hZ w) (g := mkF m pc L S) rfl (hb hby hd) q
theorem Gl.ldcJ (Y : Sd Z own bs mx ret n0 p l e R s m args below meth c T h k n) {i : Nat} {v : Int64} (w : (Jvm.Cond.constantLong own i v).before a0 Z = true) (hd : decode bs pc = .ok (.ldc2_w i, 3)) (hp : pc + 3 = pc') (q : Gl p e below P (T.setTop (mkF m pc' L (.long v :: S)))) : Gl p e below P (T.setTop (mkF m pc L S)) := by
  obtain ⟨locs, X, eT, N, hn0, hx, hZ, hown, hby, hml, hrt, hlk⟩ := Y
  subst hp
  exact q.of1 fun t q => X.ldc2Long hx hown (mvT hZ w) (g := mkF m pc L S) rfl (hb hby hd) t q
theorem Gl.ldcD (Y : Sd Z own bs mx ret n0 p l e R s m args below meth c T h k n) {i : Nat} {v : UInt64} (w : (Jvm.Cond.constantDouble own i v).before a0 Z = true) (hd : decode bs pc = .ok (.ldc2_w i, 3)) (hp : pc + 3 = pc') (q : Gl p e below P (T.setTop (mkF m pc' L (.double v :: S)))) : Gl p e below P (T.setTop (mkF m pc L S)) := by
  obtain ⟨locs, X, eT, N, hn0, hx, hZ, hown, hby, hml, hrt, hlk⟩ := Y
  subst hp
  exact q.of1 fun t q => X.ldc2DoubleC hx hown (mvT hZ w) (g := mkF m pc L S) rfl (hb hby hd) t q
theorem Gl.iload (Y : Sd Z own bs mx ret n0 p l e R s m args below meth c T h k n) {i : Nat} {v : Int32} (hl : L[i]? = some (.val (.int v))) (hd : decode bs pc = .ok (.iload i, 2)) (hp : pc + 2 = pc') (q : Gl p e below P (T.setTop (mkF m pc' L (.int v :: S)))) : Gl p e below P (T.setTop (mkF m pc L S)) := by
  obtain ⟨locs, X, eT, N, hn0, hx, hZ, hown, hby, hml, hrt, hlk⟩ := Y
  subst hp
  exact q.of1 fun t q => XS.iload X.here hx rfl (hb hby hd) hl q
theorem Gl.iloadN (Y : Sd Z own bs mx ret n0 p l e R s m args below meth c T h k n) {i : Fin 4} {v : Int32} (hl : L[i.val]? = some (.val (.int v))) (hd : decode bs pc = .ok (.iload_n i, 1)) (hp : pc + 1 = pc') (q : Gl p e below P (T.setTop (mkF m pc' L (.int v :: S)))) : Gl p e below P (T.setTop (mkF m pc L S)) := by
  obtain ⟨locs, X, eT, N, hn0, hx, hZ, hown, hby, hml, hrt, hlk⟩ := Y
  subst hp
  exact q.of1 fun t q => XS.iloadN X.here hx rfl (hb hby hd) hl q
theorem Gl.lload (Y : Sd Z own bs mx ret n0 p l e R s m args below meth c T h k n) {i : Nat} {v : Int64} (hl : L[i]? = some (.val (.long v))) (hd : decode bs pc = .ok (.lload i, 2)) (hp : pc + 2 = pc') (q : Gl p e below P (T.setTop (mkF m pc' L (.long v :: S)))) : Gl p e below P (T.setTop (mkF m pc L S)) := by
  obtain ⟨locs, X, eT, N, hn0, hx, hZ, hown, hby, hml, hrt, hlk⟩ := Y
  subst hp
  exact q.of1 fun t q => XS.lload X.here hx rfl (hb hby hd) hl q
theorem Gl.lloadN (Y : Sd Z own bs mx ret n0 p l e R s m args below meth c T h k n) {i : Fin 4} {v : Int64} (hl : L[i.val]? = some (.val (.long v))) (hd : decode bs pc = .ok (.lload_n i, 1)) (hp : pc + 1 = pc') (q : Gl p e below P (T.setTop (mkF m pc' L (.long v :: S)))) : Gl p e below P (T.setTop (mkF m pc L S)) := by
  obtain ⟨locs, X, eT, N, hn0, hx, hZ, hown, hby, hml, hrt, hlk⟩ := Y
  subst hp
  exact q.of1 fun t q => XS.lloadN X.here hx rfl (hb hby hd) hl q
theorem Gl.dload (Y : Sd Z own bs mx ret n0 p l e R s m args below meth c T h k n) {i : Nat} {v : UInt64} (hl : L[i]? = some (.val (.double v))) (hd : decode bs pc = .ok (.dload i, 2)) (hp : pc + 2 = pc') (q : Gl p e below P (T.setTop (mkF m pc' L (.double v :: S)))) : Gl p e below P (T.setTop (mkF m pc L S)) := by
  obtain ⟨locs, X, eT, N, hn0, hx, hZ, hown, hby, hml, hrt, hlk⟩ := Y
  subst hp
  exact q.of1 fun t q => XS.dload X.here hx rfl (hb hby hd) hl q
theorem Gl.dloadN (Y : Sd Z own bs mx ret n0 p l e R s m args below meth c T h k n) {i : Fin 4} {v : UInt64} (hl : L[i.val]? = some (.val (.double v))) (hd : decode bs pc = .ok (.dload_n i, 1)) (hp : pc + 1 = pc') (q : Gl p e below P (T.setTop (mkF m pc' L (.double v :: S)))) : Gl p e below P (T.setTop (mkF m pc L S)) := by
  obtain ⟨locs, X, eT, N, hn0, hx, hZ, hown, hby, hml, hrt, hlk⟩ := Y
  subst hp
  exact q.of1 fun t q => XS.dloadN X.here hx rfl (hb hby hd) hl q
theorem Gl.dconst0 (Y : Sd Z own bs mx ret n0 p l e R s m args below meth c T h k n)  (hd : decode bs pc = .ok (.dconst 0, 1)) (hp : pc + 1 = pc') (q : Gl p e below P (T.setTop (mkF m pc' L (.double FP.dconst0 :: S)))) : Gl p e below P (T.setTop (mkF m pc L S)) := by
  obtain ⟨locs, X, eT, N, hn0, hx, hZ, hown, hby, hml, hrt, hlk⟩ := Y
  subst hp
  exact q.of1 fun t q => XS.dconst0 X.here hx rfl (hb hby hd) rfl q
theorem Gl.dconst1 (Y : Sd Z own bs mx ret n0 p l e R s m args below meth c T h k n)  (hd : decode bs pc = .ok (.dconst 1, 1)) (hp : pc + 1 = pc') (q : Gl p e below P (T.setTop (mkF m pc' L (.double FP.dconst1 :: S)))) : Gl p e below P (T.setTop (mkF m pc L S)) := by
  obtain ⟨locs, X, eT, N, hn0, hx, hZ, hown, hby, hml, hrt, hlk⟩ := Y
  subst hp
  exact q.of1 fun t q => XS.dconst1 X.here hx rfl (hb hby hd) rfl q
theorem Gl.aload (Y : Sd Z own bs mx ret n0 p l e R s m args below meth c T h k n) {i : Nat} {v : Value} (hl : L[i]? = some (.val v)) (hv : v.isRef = true) (hd : decode bs pc = .ok (.aload i, 2)) (hp : pc + 2 = pc') (q : Gl p e below P (T.setTop (mkF m pc' L (v :: S)))) : Gl p e below P (T.setTop (mkF m pc L S)) := by
  obtain ⟨locs, X, eT, N, hn0, hx, hZ, hown, hby, hml, hrt, hlk⟩ := Y
  subst hp
  exact q.of1 fun t q => XS.aload X.here hx rfl (hb hby hd) hl hv q
theorem Gl.aloadN (Y : Sd Z own bs mx ret n0 p l e R s m args below meth c T h k n) {i : Fin 4} {v : Value} (hl : L[i.val]? = some (.val v)) (hv : v.isRef = true) (hd : decode bs pc = .ok (.aload_n i, 1)) (hp : pc + 1 = pc') (q : Gl p e below P (T.setTop (mkF m pc' L (v :: S)))) : Gl p e below P (T.setTop (mkF m pc L S)) := by
  obtain ⟨locs, X, eT, N, hn0, hx, hZ, hown, hby, hml, hrt, hlk⟩ := Y
  subst hp
  exact q.of1 fun t q => XS.aloadN X.here hx rfl (hb hby hd) hl hv q
theorem Gl.istore (Y : Sd Z own bs mx ret n0 p l e R s m args below meth c T h k n) {i : Nat} {v : Int32} {L' : Array Slot} (hl : storeLocals L i (.int v) = some L') (hd : decode bs pc = .ok (.istore i, 2)) (hp : pc + 2 = pc') (q : Gl p e below P (T.setTop (mkF m pc' L' S))) : Gl p e below P (T.setTop (mkF m pc L (.int v :: S))) := by
  obtain ⟨locs, X, eT, N, hn0, hx, hZ, hown, hby, hml, hrt, hlk⟩ := Y
  subst hp
  exact q.of1 fun t q => XS.istore X.here hx rfl (hb hby hd) rfl hl q
theorem Gl.istoreN (Y : Sd Z own bs mx ret n0 p l e R s m args below meth c T h k n) {i : Fin 4} {v : Int32} {L' : Array Slot} (hl : storeLocals L i.val (.int v) = some L') (hd : decode bs pc = .ok (.istore_n i, 1)) (hp : pc + 1 = pc') (q : Gl p e below P (T.setTop (mkF m pc' L' S))) : Gl p e below P (T.setTop (mkF m pc L (.int v :: S))) := by
  obtain ⟨locs, X, eT, N, hn0, hx, hZ, hown, hby, hml, hrt, hlk⟩ := Y
  subst hp
  exact q.of1 fun t q => XS.istoreN X.here hx rfl (hb hby hd) rfl hl q
theorem Gl.lstore (Y : Sd Z own bs mx ret n0 p l e R s m args below meth c T h k n) {i : Nat} {v : Int64} {L' : Array Slot} (hl : storeLocals L i (.long v) = some L') (hd : decode bs pc = .ok (.lstore i, 2)) (hp : pc + 2 = pc') (q : Gl p e below P (T.setTop (mkF m pc' L' S))) : Gl p e below P (T.setTop (mkF m pc L (.long v :: S))) := by
  obtain ⟨locs, X, eT, N, hn0, hx, hZ, hown, hby, hml, hrt, hlk⟩ := Y
  subst hp
  exact q.of1 fun t q => XS.lstore X.here hx rfl (hb hby hd) rfl hl q
theorem Gl.lstoreN (Y : Sd Z own bs mx ret n0 p l e R s m args below meth c T h k n) {i : Fin 4} {v : Int64} {L' : Array Slot} (hl : storeLocals L i.val (.long v) = some L') (hd : decode bs pc = .ok (.lstore_n i, 1)) (hp : pc + 1 = pc') (q : Gl p e below P (T.setTop (mkF m pc' L' S))) : Gl p e below P (T.setTop (mkF m pc L (.long v :: S))) := by
  obtain ⟨locs, X, eT, N, hn0, hx, hZ, hown, hby, hml, hrt, hlk⟩ := Y
  subst hp
  exact q.of1 fun t q => XS.lstoreN X.here hx rfl (hb hby hd) rfl hl q
theorem Gl.astore (Y : Sd Z own bs mx ret n0 p l e R s m args below meth c T h k n) {i : Nat} {v : Value} (hv : v.isRef = true) {L' : Array Slot} (hl : storeLocals L i (v) = some L') (hd : decode bs pc = .ok (.astore i, 2)) (hp : pc + 2 = pc') (q : Gl p e below P (T.setTop (mkF m pc' L' S))) : Gl p e below P (T.setTop (mkF m pc L (v :: S))) := by
  obtain ⟨locs, X, eT, N, hn0, hx, hZ, hown, hby, hml, hrt, hlk⟩ := Y
  subst hp
  exact q.of1 fun t q => XS.astore X.here hx rfl (hb hby hd) rfl hv hl q
theorem Gl.astoreN (Y : Sd Z own bs mx ret n0 p l e R s m args below meth c T h k n) {i : Fin 4} {v : Value} (hv : v.isRef = true) {L' : Array Slot} (hl : storeLocals L i.val (v) = some L') (hd : decode bs pc = .ok (.astore_n i, 1)) (hp : pc + 1 = pc') (q : Gl p e below P (T.setTop (mkF m pc' L' S))) : Gl p e below P (T.setTop (mkF m pc L (v :: S))) := by
  obtain ⟨locs, X, eT, N, hn0, hx, hZ, hown, hby, hml, hrt, hlk⟩ := Y
  subst hp
  exact q.of1 fun t q => XS.astoreN X.here hx rfl (hb hby hd) rfl hv hl q
theorem Gl.iinc (Y : Sd Z own bs mx ret n0 p l e R s m args below meth c T h k n) {i : Nat} {cst : Int} {x r : Int32} {L' : Array Slot} (hl : L[i]? = some (.val (.int x))) (hr : x + Int32.ofInt cst = r) (hl' : storeLocals L i (.int r) = some L') (hd : decode bs pc = .ok (.iinc i cst, 3)) (hp : pc + 3 = pc') (q : Gl p e below P (T.setTop (mkF m pc' L' S))) : Gl p e below P (T.setTop (mkF m pc L S)) := by
  obtain ⟨locs, X, eT, N, hn0, hx, hZ, hown, hby, hml, hrt, hlk⟩ := Y
  subst hp
  exact q.of1 fun t q => XS.iinc X.here hx rfl (hb hby hd) hl (by rw [hr]; exact hl') q
theorem Gl.dup (Y : Sd Z own bs mx ret n0 p l e R s m args below meth c T h k n) {x : Value} (hc : x.category = 1) (hd : decode bs pc = .ok (.dup, 1)) (hp : pc + 1 = pc') (q : Gl p e below P (T.setTop (mkF m pc' L (x :: x :: S)))) : Gl p e below P (T.setTop (mkF m pc L (x :: S))) := by
  obtain ⟨locs, X, eT, N, hn0, hx, hZ, hown, hby, hml, hrt, hlk⟩ := Y
  subst hp
  exact q.of1 fun t q => XS.dup X.here hx rfl (hb hby hd) rfl hc q
theorem Gl.pop (Y : Sd Z own bs mx ret n0 p l e R s m args below meth c T h k n) {x : Value} (hc : x.category = 1) (hd : decode bs pc = .ok (.pop, 1)) (hp : pc + 1 = pc') (q : Gl p e below P (T.setTop (mkF m pc' L S))) : Gl p e below P (T.setTop (mkF m pc L (x :: S))) := by
  obtain ⟨locs, X, eT, N, hn0, hx, hZ, hown, hby, hml, hrt, hlk⟩ := Y
  subst hp
  exact q.of1 fun t q => XS.pop X.here hx rfl (hb hby hd) rfl hc q
theorem Gl.dupX1 (Y : Sd Z own bs mx ret n0 p l e R s m args below meth c T h k n) {x y : Value} (hc : x.category = 1) (hc' : y.category = 1) (hd : decode bs pc = .ok (.dup_x1, 1)) (hp : pc + 1 = pc') (q : Gl p e below P (T.setTop (mkF m pc' L (x :: y :: x :: S)))) : Gl p e below P (T.setTop (mkF m pc L (x :: y :: S))) := by
  obtain ⟨locs, X, eT, N, hn0, hx, hZ, hown, hby, hml, hrt, hlk⟩ := Y
  subst hp
  exact q.of1 fun t q => XS.dupX1 X.here hx rfl (hb hby hd) rfl hc hc' q
theorem Gl.lcmp (Y : Sd Z own bs mx ret n0 p l e R s m args below meth c T h k n) {x y : Int64} {r : Int32} (hr : lcmpW x y = r) (hd : decode bs pc = .ok (.lcmp, 1)) (hp : pc + 1 = pc') (q : Gl p e below P (T.setTop (mkF m pc' L (.int r :: S)))) : Gl p e below P (T.setTop (mkF m pc L (.long y :: .long x :: S))) := by
  obtain ⟨locs, X, eT, N, hn0, hx, hZ, hown, hby, hml, hrt, hlk⟩ := Y
  subst hp hr
  exact q.of1 fun t q => XS.lcmp X.here hx rfl (hb hby hd) rfl q
theorem Gl.arraylength (Y : Sd Z own bs mx ret n0 p l e R s m args below meth c T h k n) {a : Addr} {ck : ClassId} {ty : FieldType} {z : Int32} {vs : List Value} {d : Value} (F : Arv Z h a ck ty z vs d) (hd : decode bs pc = .ok (.arraylength, 1)) (hp : pc + 1 = pc') (q : Gl p e below P (T.setTop (mkF m pc' L (.int z :: S)))) : Gl p e below P (T.setTop (mkF m pc L (.ref a :: S))) := by
  obtain ⟨locs, X, eT, N, hn0, hx, hZ, hown, hby, hml, hrt, hlk⟩ := Y
  subst hp
  exact q.of1 fun t q => by
    obtain ⟨cl, A, -, S1, N1, -⟩ := F
    exact X.arraylength hx (by rw [eT]; exact A.1) (State.isArrayOf_alike hZ.alike A.2.1) (g := mkF m pc L (.ref a :: S)) rfl rfl (hb hby hd) t (by rw [len_of S1 N1]; exact q)
theorem Gl.iaload (Y : Sd Z own bs mx ret n0 p l e R s m args below meth c T h k n) {a : Addr} {ck : ClassId} {z j : Int32} {vs : List Value} {d v : Value} (F : Arv Z h a ck .int z vs d) (hj : ¬ j < 0 ∧ j < z) (hv : vs.getD j.toNatClampNeg d = v) (hd : decode bs pc = .ok (.iaload, 1)) (hp : pc + 1 = pc') (q : Gl p e below P (T.setTop (mkF m pc' L (v :: S)))) : Gl p e below P (T.setTop (mkF m pc L (.int j :: .ref a :: S))) := by
  obtain ⟨locs, X, eT, N, hn0, hx, hZ, hown, hby, hml, hrt, hlk⟩ := Y
  subst hp
  exact q.of1 fun t q => by
    obtain ⟨cl, A, -, S1, N1, H, -⟩ := F
    exact X.iaload hx (by rw [eT]; exact A.1) (State.isArrayOf_alike hZ.alike A.2.1) A.2.2 (inb_of S1 hj) (H.at (inb_of S1 hj) hv) (g := mkF m pc L (.int j :: .ref a :: S)) rfl rfl (hb hby hd) t q
theorem Gl.laload (Y : Sd Z own bs mx ret n0 p l e R s m args below meth c T h k n) {a : Addr} {ck : ClassId} {z j : Int32} {vs : List Value} {d v : Value} (F : Arv Z h a ck .long z vs d) (hj : ¬ j < 0 ∧ j < z) (hv : vs.getD j.toNatClampNeg d = v) (hd : decode bs pc = .ok (.laload, 1)) (hp : pc + 1 = pc') (q : Gl p e below P (T.setTop (mkF m pc' L (v :: S)))) : Gl p e below P (T.setTop (mkF m pc L (.int j :: .ref a :: S))) := by
  obtain ⟨locs, X, eT, N, hn0, hx, hZ, hown, hby, hml, hrt, hlk⟩ := Y
  subst hp
  exact q.of1 fun t q => by
    obtain ⟨cl, A, -, S1, N1, H, -⟩ := F
    exact X.laload hx (by rw [eT]; exact A.1) (State.isArrayOf_alike hZ.alike A.2.1) A.2.2 (inb_of S1 hj) (H.at (inb_of S1 hj) hv) (g := mkF m pc L (.int j :: .ref a :: S)) rfl rfl (hb hby hd) t q
theorem Gl.caload (Y : Sd Z own bs mx ret n0 p l e R s m args below meth c T h k n) {a : Addr} {ck : ClassId} {z j : Int32} {vs : List Value} {d v : Value} (F : Arv Z h a ck .char z vs d) (hj : ¬ j < 0 ∧ j < z) (hv : vs.getD j.toNatClampNeg d = v) (hd : decode bs pc = .ok (.caload, 1)) (hp : pc + 1 = pc') (q : Gl p e below P (T.setTop (mkF m pc' L (v :: S)))) : Gl p e below P (T.setTop (mkF m pc L (.int j :: .ref a :: S))) := by
  obtain ⟨locs, X, eT, N, hn0, hx, hZ, hown, hby, hml, hrt, hlk⟩ := Y
  subst hp
  exact q.of1 fun t q => by
    obtain ⟨cl, A, -, S1, N1, H, -⟩ := F
    exact X.caload hx (by rw [eT]; exact A.1) (State.isArrayOf_alike hZ.alike A.2.1) A.2.2 (inb_of S1 hj) (H.at (inb_of S1 hj) hv) (g := mkF m pc L (.int j :: .ref a :: S)) rfl rfl (hb hby hd) t q
theorem Gl.saload (Y : Sd Z own bs mx ret n0 p l e R s m args below meth c T h k n) {a : Addr} {ck : ClassId} {z j : Int32} {vs : List Value} {d v : Value} (F : Arv Z h a ck .short z vs d) (hj : ¬ j < 0 ∧ j < z) (hv : vs.getD j.toNatClampNeg d = v) (hd : decode bs pc = .ok (.saload, 1)) (hp : pc + 1 = pc') (q : Gl p e below P (T.setTop (mkF m pc' L (v :: S)))) : Gl p e below P (T.setTop (mkF m pc L (.int j :: .ref a :: S))) := by
  obtain ⟨locs, X, eT, N, hn0, hx, hZ, hown, hby, hml, hrt, hlk⟩ := Y
  subst hp
  exact q.of1 fun t q => by
    obtain ⟨cl, A, -, S1, N1, H, -⟩ := F
    exact X.saload hx (by rw [eT]; exact A.1) (State.isArrayOf_alike hZ.alike A.2.1) A.2.2 (inb_of S1 hj) (H.at (inb_of S1 hj) hv) (g := mkF m pc L (.int j :: .ref a :: S)) rfl rfl (hb hby hd) t q
theorem Gl.baload (Y : Sd Z own bs mx ret n0 p l e R s m args below meth c T h k n) {a : Addr} {ck : ClassId} {z j : Int32} {vs : List Value} {d v : Value} (F : Arv Z h a ck .byte z vs d) (hj : ¬ j < 0 ∧ j < z) (hv : vs.getD j.toNatClampNeg d = v) (hd : decode bs pc = .ok (.baload, 1)) (hp : pc + 1 = pc') (q : Gl p e below P (T.setTop (mkF m pc' L (v :: S)))) : Gl p e below P (T.setTop (mkF m pc L (.int j :: .ref a :: S))) := by
  obtain ⟨locs, X, eT, N, hn0, hx, hZ, hown, hby, hml, hrt, hlk⟩ := Y
  subst hp
  exact q.of1 fun t q => by
    obtain ⟨cl, A, -, S1, N1, H, -⟩ := F
    exact X.baloadBytes hx (by rw [eT]; exact A.1) (State.isArrayOf_alike hZ.alike A.2.1) A.2.2 (inb_of S1 hj) (H.at (inb_of S1 hj) hv) (g := mkF m pc L (.int j :: .ref a :: S)) rfl rfl (hb hby hd) t q
theorem Gl.goto (Y : Sd Z own bs mx ret n0 p l e R s m args below meth c T h k n) {o : Int} (hd : decode bs pc = .ok (.goto o, 3)) (ho : 0 ≤ (pc : Int) + o) (hp : ((pc : Int) + o).toNat = pc') (q : Gl p e below P (T.setTop (mkF m pc' L S))) : Gl p e below P (T.setTop (mkF m pc L S)) := by
  obtain ⟨locs, X, eT, N, hn0, hx, hZ, hown, hby, hml, hrt, hlk⟩ := Y
  exact q.of1 fun t q => XS.goto X.here hx rfl rfl (hb hby hd) ho hp q
theorem Gl.ifeq (Y : Sd Z own bs mx ret n0 p l e R s m args below meth c T h k n) {x : Int32} {o : Int} (hd : decode bs pc = .ok (.ifCond .eq o, 3)) (ho : 0 ≤ (pc : Int) + o) (ht : ((pc : Int) + o).toNat = pcT) (hf : pc + 3 = pcF) (q1 : x = 0 → Gl p e below P (T.setTop (mkF m pcT L S))) (q2 : ¬ x = 0 → Gl p e below P (T.setTop (mkF m pcF L S))) : Gl p e below P (T.setTop (mkF m pc L (.int x :: S))) := by
  obtain ⟨locs, X, eT, N, hn0, hx, hZ, hown, hby, hml, hrt, hlk⟩ := Y
  by_cases hq : x = 0
  · exact (q1 hq).of1 fun t q => XS.ifYes X.here hx rfl rfl (hb hby hd) rfl (Jvm.Free.XT.i0_eq_t hq) ho ht q
  · subst hf
    exact (q2 (by first | exact hq | exact Decidable.not_not.mp hq)).of1 fun t q => XS.ifNo X.here hx rfl (hb hby hd) rfl (Jvm.Free.XT.i0_eq_f (by first | exact hq | exact Decidable.not_not.mp hq)) q
theorem Gl.icmpeq (Y : Sd Z own bs mx ret n0 p l e R s m args below meth c T h k n) {x y : Int32} {o : Int} (hd : decode bs pc = .ok (.if_icmp .eq o, 3)) (ho : 0 ≤ (pc : Int) + o) (ht : ((pc : Int) + o).toNat = pcT) (hf : pc + 3 = pcF) (q1 : x = y → Gl p e below P (T.setTop (mkF m pcT L S))) (q2 : ¬ x = y → Gl p e below P (T.setTop (mkF m pcF L S))) : Gl p e below P (T.setTop (mkF m pc L (.int y :: .int x :: S))) := by
  obtain ⟨locs, X, eT, N, hn0, hx, hZ, hown, hby, hml, hrt, hlk⟩ := Y
  by_cases hq : x = y
  · exact (q1 hq).of1 fun t q => XS.icmpYes X.here hx rfl rfl (hb hby hd) rfl (Jvm.Free.XT.ii_eq_t hq) ho ht q
  · subst hf
    exact (q2 (by first | exact hq | exact Decidable.not_not.mp hq)).of1 fun t q => XS.icmpNo X.here hx rfl (hb hby hd) rfl (Jvm.Free.XT.ii_eq_f (by first | exact hq | exact Decidable.not_not.mp hq)) q
theorem Gl.lcmpeq (Y : Sd Z own bs mx ret n0 p l e R s m args below meth c T h k n) {x y : Int64} {pc1 : Nat} {o : Int} (hd0 : decode bs pc = .ok (.lcmp, 1)) (hp1 : pc + 1 = pc1) (hd : decode bs pc1 = .ok (.ifCond .eq o, 3)) (ho : 0 ≤ (pc1 : Int) + o) (ht : ((pc1 : Int) + o).toNat = pcT) (hf : pc1 + 3 = pcF) (q1 : x = y → Gl p e below P (T.setTop (mkF m pcT L S))) (q2 : ¬ x = y → Gl p e below P (T.setTop (mkF m pcF L S))) : Gl p e below P (T.setTop (mkF m pc L (.long y :: .long x :: S))) := by
  refine Gl.lcmp Y rfl hd0 hp1 ?_
  obtain ⟨locs, X, eT, N, hn0, hx, hZ, hown, hby, hml, hrt, hlk⟩ := Y
  by_cases hq : x = y
  · exact (q1 hq).of1 fun t q => XS.ifYes X.here hx rfl rfl (hb hby hd) rfl (Jvm.Free.XT.ll_eq_t hq) ho ht q
  · subst hf
    exact (q2 (by first | exact hq | exact Decidable.not_not.mp hq)).of1 fun t q => XS.ifNo X.here hx rfl (hb hby hd) rfl (Jvm.Free.XT.ll_eq_f (by first | exact hq | exact Decidable.not_not.mp hq)) q
theorem Gl.ifne (Y : Sd Z own bs mx ret n0 p l e R s m args below meth c T h k n) {x : Int32} {o : Int} (hd : decode bs pc = .ok (.ifCond .ne o, 3)) (ho : 0 ≤ (pc : Int) + o) (ht : ((pc : Int) + o).toNat = pcT) (hf : pc + 3 = pcF) (q1 : ¬ x = 0 → Gl p e below P (T.setTop (mkF m pcT L S))) (q2 : x = 0 → Gl p e below P (T.setTop (mkF m pcF L S))) : Gl p e below P (T.setTop (mkF m pc L (.int x :: S))) := by
  obtain ⟨locs, X, eT, N, hn0, hx, hZ, hown, hby, hml, hrt, hlk⟩ := Y
  by_cases hq : ¬ x = 0
  · exact (q1 hq).of1 fun t q => XS.ifYes X.here hx rfl rfl (hb hby hd) rfl (Jvm.Free.XT.i0_ne_t hq) ho ht q
  · subst hf
    exact (q2 (by first | exact hq | exact Decidable.not_not.mp hq)).of1 fun t q => XS.ifNo X.here hx rfl (hb hby hd) rfl (Jvm.Free.XT.i0_ne_f (by first | exact hq | exact Decidable.not_not.mp hq)) q
theorem Gl.icmpne (Y : Sd Z own bs mx ret n0 p l e R s m args below meth c T h k n) {x y : Int32} {o : Int} (hd : decode bs pc = .ok (.if_icmp .ne o, 3)) (ho : 0 ≤ (pc : Int) + o) (ht : ((pc : Int) + o).toNat = pcT) (hf : pc + 3 = pcF) (q1 : ¬ x = y → Gl p e below P (T.setTop (mkF m pcT L S))) (q2 : x = y → Gl p e below P (T.setTop (mkF m pcF L S))) : Gl p e below P (T.setTop (mkF m pc L (.int y :: .int x :: S))) := by
  obtain ⟨locs, X, eT, N, hn0, hx, hZ, hown, hby, hml, hrt, hlk⟩ := Y
  by_cases hq : ¬ x = y
  · exact (q1 hq).of1 fun t q => XS.icmpYes X.here hx rfl rfl (hb hby hd) rfl (Jvm.Free.XT.ii_ne_t hq) ho ht q
  · subst hf
    exact (q2 (by first | exact hq | exact Decidable.not_not.mp hq)).of1 fun t q => XS.icmpNo X.here hx rfl (hb hby hd) rfl (Jvm.Free.XT.ii_ne_f (by first | exact hq | exact Decidable.not_not.mp hq)) q
theorem Gl.lcmpne (Y : Sd Z own bs mx ret n0 p l e R s m args below meth c T h k n) {x y : Int64} {pc1 : Nat} {o : Int} (hd0 : decode bs pc = .ok (.lcmp, 1)) (hp1 : pc + 1 = pc1) (hd : decode bs pc1 = .ok (.ifCond .ne o, 3)) (ho : 0 ≤ (pc1 : Int) + o) (ht : ((pc1 : Int) + o).toNat = pcT) (hf : pc1 + 3 = pcF) (q1 : ¬ x = y → Gl p e below P (T.setTop (mkF m pcT L S))) (q2 : x = y → Gl p e below P (T.setTop (mkF m pcF L S))) : Gl p e below P (T.setTop (mkF m pc L (.long y :: .long x :: S))) := by
  refine Gl.lcmp Y rfl hd0 hp1 ?_
  obtain ⟨locs, X, eT, N, hn0, hx, hZ, hown, hby, hml, hrt, hlk⟩ := Y
  by_cases hq : ¬ x = y
  · exact (q1 hq).of1 fun t q => XS.ifYes X.here hx rfl rfl (hb hby hd) rfl (Jvm.Free.XT.ll_ne_t hq) ho ht q
  · subst hf
    exact (q2 (by first | exact hq | exact Decidable.not_not.mp hq)).of1 fun t q => XS.ifNo X.here hx rfl (hb hby hd) rfl (Jvm.Free.XT.ll_ne_f (by first | exact hq | exact Decidable.not_not.mp hq)) q
theorem Gl.iflt (Y : Sd Z own bs mx ret n0 p l e R s m args below meth c T h k n) {x : Int32} {o : Int} (hd : decode bs pc = .ok (.ifCond .lt o, 3)) (ho : 0 ≤ (pc : Int) + o) (ht : ((pc : Int) + o).toNat = pcT) (hf : pc + 3 = pcF) (q1 : x < 0 → Gl p e below P (T.setTop (mkF m pcT L S))) (q2 : ¬ x < 0 → Gl p e below P (T.setTop (mkF m pcF L S))) : Gl p e below P (T.setTop (mkF m pc L (.int x :: S))) := by
  obtain ⟨locs, X, eT, N, hn0, hx, hZ, hown, hby, hml, hrt, hlk⟩ := Y
  by_cases hq : x < 0
  · exact (q1 hq).of1 fun t q => XS.ifYes X.here hx rfl rfl (hb hby hd) rfl (Jvm.Free.XT.i0_lt_t hq) ho ht q
  · subst hf
    exact (q2 (by first | exact hq | exact Decidable.not_not.mp hq)).of1 fun t q => XS.ifNo X.here hx rfl (hb hby hd) rfl (Jvm.Free.XT.i0_lt_f (by first | exact hq | exact Decidable.not_not.mp hq)) q
theorem Gl.icmplt (Y : Sd Z own bs mx ret n0 p l e R s m args below meth c T h k n) {x y : Int32} {o : Int} (hd : decode bs pc = .ok (.if_icmp .lt o, 3)) (ho : 0 ≤ (pc : Int) + o) (ht : ((pc : Int) + o).toNat = pcT) (hf : pc + 3 = pcF) (q1 : x < y → Gl p e below P (T.setTop (mkF m pcT L S))) (q2 : ¬ x < y → Gl p e below P (T.setTop (mkF m pcF L S))) : Gl p e below P (T.setTop (mkF m pc L (.int y :: .int x :: S))) := by
  obtain ⟨locs, X, eT, N, hn0, hx, hZ, hown, hby, hml, hrt, hlk⟩ := Y
  by_cases hq : x < y
  · exact (q1 hq).of1 fun t q => XS.icmpYes X.here hx rfl rfl (hb hby hd) rfl (Jvm.Free.XT.ii_lt_t hq) ho ht q
  · subst hf
    exact (q2 (by first | exact hq | exact Decidable.not_not.mp hq)).of1 fun t q => XS.icmpNo X.here hx rfl (hb hby hd) rfl (Jvm.Free.XT.ii_lt_f (by first | exact hq | exact Decidable.not_not.mp hq)) q
theorem Gl.lcmplt (Y : Sd Z own bs mx ret n0 p l e R s m args below meth c T h k n) {x y : Int64} {pc1 : Nat} {o : Int} (hd0 : decode bs pc = .ok (.lcmp, 1)) (hp1 : pc + 1 = pc1) (hd : decode bs pc1 = .ok (.ifCond .lt o, 3)) (ho : 0 ≤ (pc1 : Int) + o) (ht : ((pc1 : Int) + o).toNat = pcT) (hf : pc1 + 3 = pcF) (q1 : x < y → Gl p e below P (T.setTop (mkF m pcT L S))) (q2 : ¬ x < y → Gl p e below P (T.setTop (mkF m pcF L S))) : Gl p e below P (T.setTop (mkF m pc L (.long y :: .long x :: S))) := by
  refine Gl.lcmp Y rfl hd0 hp1 ?_
  obtain ⟨locs, X, eT, N, hn0, hx, hZ, hown, hby, hml, hrt, hlk⟩ := Y
  by_cases hq : x < y
  · exact (q1 hq).of1 fun t q => XS.ifYes X.here hx rfl rfl (hb hby hd) rfl (Jvm.Free.XT.ll_lt_t hq) ho ht q
  · subst hf
    exact (q2 (by first | exact hq | exact Decidable.not_not.mp hq)).of1 fun t q => XS.ifNo X.here hx rfl (hb hby hd) rfl (Jvm.Free.XT.ll_lt_f (by first | exact hq | exact Decidable.not_not.mp hq)) q
theorem Gl.ifge (Y : Sd Z own bs mx ret n0 p l e R s m args below meth c T h k n) {x : Int32} {o : Int} (hd : decode bs pc = .ok (.ifCond .ge o, 3)) (ho : 0 ≤ (pc : Int) + o) (ht : ((pc : Int) + o).toNat = pcT) (hf : pc + 3 = pcF) (q1 : ¬ x < 0 → Gl p e below P (T.setTop (mkF m pcT L S))) (q2 : x < 0 → Gl p e below P (T.setTop (mkF m pcF L S))) : Gl p e below P (T.setTop (mkF m pc L (.int x :: S))) := by
  obtain ⟨locs, X, eT, N, hn0, hx, hZ, hown, hby, hml, hrt, hlk⟩ := Y
  by_cases hq : ¬ x < 0
  · exact (q1 hq).of1 fun t q => XS.ifYes X.here hx rfl rfl (hb hby hd) rfl (Jvm.Free.XT.i0_ge_t hq) ho ht q
  · subst hf
    exact (q2 (by first | exact hq | exact Decidable.not_not.mp hq)).of1 fun t q => XS.ifNo X.here hx rfl (hb hby hd) rfl (Jvm.Free.XT.i0_ge_f (by first | exact hq | exact Decidable.not_not.mp hq)) q
theorem Gl.icmpge (Y : Sd Z own bs mx ret n0 p l e R s m args below meth c T h k n) {x y : Int32} {o : Int} (hd : decode bs pc = .ok (.if_icmp .ge o, 3)) (ho : 0 ≤ (pc : Int) + o) (ht : ((pc : Int) + o).toNat = pcT) (hf : pc + 3 = pcF) (q1 : ¬ x < y → Gl p e below P (T.setTop (mkF m pcT L S))) (q2 : x < y → Gl p e below P (T.setTop (mkF m pcF L S))) : Gl p e below P (T.setTop (mkF m pc L (.int y :: .int x :: S))) := by
  obtain ⟨locs, X, eT, N, hn0, hx, hZ, hown, hby, hml, hrt, hlk⟩ := Y
  by_cases hq : ¬ x < y
  · exact (q1 hq).of1 fun t q => XS.icmpYes X.here hx rfl rfl (hb hby hd) rfl (Jvm.Free.XT.ii_ge_t hq) ho ht q
  · subst hf
    exact (q2 (by first | exact hq | exact Decidable.not_not.mp hq)).of1 fun t q => XS.icmpNo X.here hx rfl (hb hby hd) rfl (Jvm.Free.XT.ii_ge_f (by first | exact hq | exact Decidable.not_not.mp hq)) q
theorem Gl.lcmpge (Y : Sd Z own bs mx ret n0 p l e R s m args below meth c T h k n) {x y : Int64} {pc1 : Nat} {o : Int} (hd0 : decode bs pc = .ok (.lcmp, 1)) (hp1 : pc + 1 = pc1) (hd : decode bs pc1 = .ok (.ifCond .ge o, 3)) (ho : 0 ≤ (pc1 : Int) + o) (ht : ((pc1 : Int) + o).toNat = pcT) (hf : pc1 + 3 = pcF) (q1 : ¬ x < y → Gl p e below P (T.setTop (mkF m pcT L S))) (q2 : x < y → Gl p e below P (T.setTop (mkF m pcF L S))) : Gl p e below P (T.setTop (mkF m pc L (.long y :: .long x :: S))) := by
  refine Gl.lcmp Y rfl hd0 hp1 ?_
  obtain ⟨locs, X, eT, N, hn0, hx, hZ, hown, hby, hml, hrt, hlk⟩ := Y
  by_cases hq : ¬ x < y
  · exact (q1 hq).of1 fun t q => XS.ifYes X.here hx rfl rfl (hb hby hd) rfl (Jvm.Free.XT.ll_ge_t hq) ho ht q
  · subst hf
    exact (q2 (by first | exact hq | exact Decidable.not_not.mp hq)).of1 fun t q => XS.ifNo X.here hx rfl (hb hby hd) rfl (Jvm.Free.XT.ll_ge_f (by first | exact hq | exact Decidable.not_not.mp hq)) q
theorem Gl.ifgt (Y : Sd Z own bs mx ret n0 p l e R s m args below meth c T h k n) {x : Int32} {o : Int} (hd : decode bs pc = .ok (.ifCond .gt o, 3)) (ho : 0 ≤ (pc : Int) + o) (ht : ((pc : Int) + o).toNat = pcT) (hf : pc + 3 = pcF) (q1 : 0 < x → Gl p e below P (T.setTop (mkF m pcT L S))) (q2 : ¬ 0 < x → Gl p e below P (T.setTop (mkF m pcF L S))) : Gl p e below P (T.setTop (mkF m pc L (.int x :: S))) := by
  obtain ⟨locs, X, eT, N, hn0, hx, hZ, hown, hby, hml, hrt, hlk⟩ := Y
  by_cases hq : 0 < x
  · exact (q1 hq).of1 fun t q => XS.ifYes X.here hx rfl rfl (hb hby hd) rfl (Jvm.Free.XT.i0_gt_t hq) ho ht q
  · subst hf
    exact (q2 (by first | exact hq | exact Decidable.not_not.mp hq)).of1 fun t q => XS.ifNo X.here hx rfl (hb hby hd) rfl (Jvm.Free.XT.i0_gt_f (by first | exact hq | exact Decidable.not_not.mp hq)) q
theorem Gl.icmpgt (Y : Sd Z own bs mx ret n0 p l e R s m args below meth c T h k n) {x y : Int32} {o : Int} (hd : decode bs pc = .ok (.if_icmp .gt o, 3)) (ho : 0 ≤ (pc : Int) + o) (ht : ((pc : Int) + o).toNat = pcT) (hf : pc + 3 = pcF) (q1 : y < x → Gl p e below P (T.setTop (mkF m pcT L S))) (q2 : ¬ y < x → Gl p e below P (T.setTop (mkF m pcF L S))) : Gl p e below P (T.setTop (mkF m pc L (.int y :: .int x :: S))) := by
  obtain ⟨locs, X, eT, N, hn0, hx, hZ, hown, hby, hml, hrt, hlk⟩ := Y
  by_cases hq : y < x
  · exact (q1 hq).of1 fun t q => XS.icmpYes X.here hx rfl rfl (hb hby hd) rfl (Jvm.Free.XT.ii_gt_t hq) ho ht q
  · subst hf
    exact (q2 (by first | exact hq | exact Decidable.not_not.mp hq)).of1 fun t q => XS.icmpNo X.here hx rfl (hb hby hd) rfl (Jvm.Free.XT.ii_gt_f (by first | exact hq | exact Decidable.not_not.mp hq)) q
theorem Gl.lcmpgt (Y : Sd Z own bs mx ret n0 p l e R s m args below meth c T h k n) {x y : Int64} {pc1 : Nat} {o : Int} (hd0 : decode bs pc = .ok (.lcmp, 1)) (hp1 : pc + 1 = pc1) (hd : decode bs pc1 = .ok (.ifCond .gt o, 3)) (ho : 0 ≤ (pc1 : Int) + o) (ht : ((pc1 : Int) + o).toNat = pcT) (hf : pc1 + 3 = pcF) (q1 : y < x → Gl p e below P (T.setTop (mkF m pcT L S))) (q2 : ¬ y < x → Gl p e below P (T.setTop (mkF m pcF L S))) : Gl p e below P (T.setTop (mkF m pc L (.long y :: .long x :: S))) := by
  refine Gl.lcmp Y rfl hd0 hp1 ?_
  obtain ⟨locs, X, eT, N, hn0, hx, hZ, hown, hby, hml, hrt, hlk⟩ := Y
  by_cases hq : y < x
  · exact (q1 hq).of1 fun t q => XS.ifYes X.here hx rfl rfl (hb hby hd) rfl (Jvm.Free.XT.ll_gt_t hq) ho ht q
  · subst hf
    exact (q2 (by first | exact hq | exact Decidable.not_not.mp hq)).of1 fun t q => XS.ifNo X.here hx rfl (hb hby hd) rfl (Jvm.Free.XT.ll_gt_f (by first | exact hq | exact Decidable.not_not.mp hq)) q
theorem Gl.ifle (Y : Sd Z own bs mx ret n0 p l e R s m args below meth c T h k n) {x : Int32} {o : Int} (hd : decode bs pc = .ok (.ifCond .le o, 3)) (ho : 0 ≤ (pc : Int) + o) (ht : ((pc : Int) + o).toNat = pcT) (hf : pc + 3 = pcF) (q1 : ¬ 0 < x → Gl p e below P (T.setTop (mkF m pcT L S))) (q2 : 0 < x → Gl p e below P (T.setTop (mkF m pcF L S))) : Gl p e below P (T.setTop (mkF m pc L (.int x :: S))) := by
  obtain ⟨locs, X, eT, N, hn0, hx, hZ, hown, hby, hml, hrt, hlk⟩ := Y
  by_cases hq : ¬ 0 < x
  · exact (q1 hq).of1 fun t q => XS.ifYes X.here hx rfl rfl (hb hby hd) rfl (Jvm.Free.XT.i0_le_t hq) ho ht q
  · subst hf
    exact (q2 (by first | exact hq | exact Decidable.not_not.mp hq)).of1 fun t q => XS.ifNo X.here hx rfl (hb hby hd) rfl (Jvm.Free.XT.i0_le_f (by first | exact hq | exact Decidable.not_not.mp hq)) q
theorem Gl.icmple (Y : Sd Z own bs mx ret n0 p l e R s m args below meth c T h k n) {x y : Int32} {o : Int} (hd : decode bs pc = .ok (.if_icmp .le o, 3)) (ho : 0 ≤ (pc : Int) + o) (ht : ((pc : Int) + o).toNat = pcT) (hf : pc + 3 = pcF) (q1 : ¬ y < x → Gl p e below P (T.setTop (mkF m pcT L S))) (q2 : y < x → Gl p e below P (T.setTop (mkF m pcF L S))) : Gl p e below P (T.setTop (mkF m pc L (.int y :: .int x :: S))) := by
  obtain ⟨locs, X, eT, N, hn0, hx, hZ, hown, hby, hml, hrt, hlk⟩ := Y
  by_cases hq : ¬ y < x
  · exact (q1 hq).of1 fun t q => XS.icmpYes X.here hx rfl rfl (hb hby hd) rfl (Jvm.Free.XT.ii_le_t hq) ho ht q
  · subst hf
    exact (q2 (by first | exact hq | exact Decidable.not_not.mp hq)).of1 fun t q => XS.icmpNo X.here hx rfl (hb hby hd) rfl (Jvm.Free.XT.ii_le_f (by first | exact hq | exact Decidable.not_not.mp hq)) q
theorem Gl.lcmple (Y : Sd Z own bs mx ret n0 p l e R s m args below meth c T h k n) {x y : Int64} {pc1 : Nat} {o : Int} (hd0 : decode bs pc = .ok (.lcmp, 1)) (hp1 : pc + 1 = pc1) (hd : decode bs pc1 = .ok (.ifCond .le o, 3)) (ho : 0 ≤ (pc1 : Int) + o) (ht : ((pc1 : Int) + o).toNat = pcT) (hf : pc1 + 3 = pcF) (q1 : ¬ y < x → Gl p e below P (T.setTop (mkF m pcT L S))) (q2 : y < x → Gl p e below P (T.setTop (mkF m pcF L S))) : Gl p e below P (T.setTop (mkF m pc L (.long y :: .long x :: S))) := by
  refine Gl.lcmp Y rfl hd0 hp1 ?_
  obtain ⟨locs, X, eT, N, hn0, hx, hZ, hown, hby, hml, hrt, hlk⟩ := Y
  by_cases hq : ¬ y < x
  · exact (q1 hq).of1 fun t q => XS.ifYes X.here hx rfl rfl (hb hby hd) rfl (Jvm.Free.XT.ll_le_t hq) ho ht q
  · subst hf
    exact (q2 (by first | exact hq | exact Decidable.not_not.mp hq)).of1 fun t q => XS.ifNo X.here hx rfl (hb hby hd) rfl (Jvm.Free.XT.ll_le_f (by first | exact hq | exact Decidable.not_not.mp hq)) q
theorem Gl.ifnullY (Y : Sd Z own bs mx ret n0 p l e R s m args below meth c T h k n)  {o : Int} (hd : decode bs pc = .ok (.ifnull o, 3)) (ho : 0 ≤ (pc : Int) + o) (ht : ((pc : Int) + o).toNat = pcT) (q : Gl p e below P (T.setTop (mkF m pcT L S))) : Gl p e below P (T.setTop (mkF m pc L (.null :: S))) := by
  obtain ⟨locs, X, eT, N, hn0, hx, hZ, hown, hby, hml, hrt, hlk⟩ := Y
  exact q.of1 fun t q => XS.ifnullYes X.here hx rfl rfl (hb hby hd) rfl ho ht q
theorem Gl.ifnullN (Y : Sd Z own bs mx ret n0 p l e R s m args below meth c T h k n) {b : Addr} {o : Int} (hd : decode bs pc = .ok (.ifnull o, 3)) (hf : pc + 3 = pcF) (q : Gl p e below P (T.setTop (mkF m pcF L S))) : Gl p e below P (T.setTop (mkF m pc L (.ref b :: S))) := by
  obtain ⟨locs, X, eT, N, hn0, hx, hZ, hown, hby, hml, hrt, hlk⟩ := Y
  subst hf
  exact q.of1 fun t q => XS.ifnullNo X.here hx rfl (hb hby hd) rfl q
theorem Gl.ifnonnullY (Y : Sd Z own bs mx ret n0 p l e R s m args below meth c T h k n) {b : Addr} {o : Int} (hd : decode bs pc = .ok (.ifnonnull o, 3)) (ho : 0 ≤ (pc : Int) + o) (ht : ((pc : Int) + o).toNat = pcT) (q : Gl p e below P (T.setTop (mkF m pcT L S))) : Gl p e below P (T.setTop (mkF m pc L (.ref b :: S))) := by
  obtain ⟨locs, X, eT, N, hn0, hx, hZ, hown, hby, hml, hrt, hlk⟩ := Y
  exact q.of1 fun t q => XS.ifnonnullYes X.here hx rfl rfl (hb hby hd) rfl ho ht q
theorem Gl.ifnonnullN (Y : Sd Z own bs mx ret n0 p l e R s m args below meth c T h k n)  {o : Int} (hd : decode bs pc = .ok (.ifnonnull o, 3)) (hf : pc + 3 = pcF) (q : Gl p e below P (T.setTop (mkF m pcF L S))) : Gl p e below P (T.setTop (mkF m pc L (.null :: S))) := by
  obtain ⟨locs, X, eT, N, hn0, hx, hZ, hown, hby, hml, hrt, hlk⟩ := Y
  subst hf
  exact q.of1 fun t q => XS.ifnonnullNo X.here hx rfl (hb hby hd) rfl q
theorem Gl.acmpeq (Y : Sd Z own bs mx ret n0 p l e R s m args below meth c T h k n) {x y : Value} {o : Int} (h1 : x.isRef = true) (h2 : y.isRef = true) (hd : decode bs pc = .ok (.if_acmp .eq o, 3)) (ho : 0 ≤ (pc : Int) + o) (ht : ((pc : Int) + o).toNat = pcT) (hf : pc + 3 = pcF) (q1 : x = y → Gl p e below P (T.setTop (mkF m pcT L S))) (q2 : ¬ x = y → Gl p e below P (T.setTop (mkF m pcF L S))) : Gl p e below P (T.setTop (mkF m pc L (y :: x :: S))) := by
  obtain ⟨locs, X, eT, N, hn0, hx, hZ, hown, hby, hml, hrt, hlk⟩ := Y
  subst ht hf
  by_cases hq : x = y
  · exact (q1 hq).of1 fun t q => Jvm.RoadKit.acmp (g := mkF m pc L (y :: x :: S)) X hx rfl h1 h2 (pc0 := pc) (same := true) rfl (hb hby hd) rfl (decide_eq_true hq) ho rfl q
  · exact (q2 hq).of1 fun t q => Jvm.RoadKit.acmp (g := mkF m pc L (y :: x :: S)) X hx rfl h1 h2 (pc0 := pc) (same := false) rfl (hb hby hd) rfl (decide_eq_false hq) ho rfl q
theorem Gl.acmpne (Y : Sd Z own bs mx ret n0 p l e R s m args below meth c T h k n) {x y : Value} {o : Int} (h1 : x.isRef = true) (h2 : y.isRef = true) (hd : decode bs pc = .ok (.if_acmp .ne o, 3)) (ho : 0 ≤ (pc : Int) + o) (ht : ((pc : Int) + o).toNat = pcT) (hf : pc + 3 = pcF) (q1 : ¬ x = y → Gl p e below P (T.setTop (mkF m pcT L S))) (q2 : x = y → Gl p e below P (T.setTop (mkF m pcF L S))) : Gl p e below P (T.setTop (mkF m pc L (y :: x :: S))) := by
  obtain ⟨locs, X, eT, N, hn0, hx, hZ, hown, hby, hml, hrt, hlk⟩ := Y
  subst ht hf
  by_cases hq : x = y
  · exact (q2 hq).of1 fun t q => Jvm.RoadKit.acmp (g := mkF m pc L (y :: x :: S)) X hx rfl h1 h2 (pc0 := pc) (same := true) rfl (hb hby hd) rfl (decide_eq_true hq) ho rfl q
  · exact (q1 hq).of1 fun t q => Jvm.RoadKit.acmp (g := mkF m pc L (y :: x :: S)) X hx rfl h1 h2 (pc0 := pc) (same := false) rfl (hb hby hd) rfl (decide_eq_false hq) ho rfl q
theorem Gl.getF (Y : Sd Z own bs mx ret n0 p l e R s m args below meth c T h k n) {i : Nat} {R0 O f d host : String} {a : Addr} {v : Value} (w : (Jvm.Cond.fieldLink own i R0 f d).before a0 Z = true ∨ (Jvm.Cond.fieldLinkNest own i R0 f d host).before a0 Z = true) (via : Via Z R0 O f d) (F : Fld Z h a O f d v) (hd : decode bs pc = .ok (.getfield i, 3)) (hp : pc + 3 = pc') (q : ∀ T', Sd Z own bs mx ret n0 p l e R s m args below meth c T' h k n → Gl p e below P (T'.setTop (mkF m pc' L (v :: S)))) : Gl p e below P (T.setTop (mkF m pc L (.ref a :: S))) := by
  obtain ⟨locs, X, eT, N, hn0, hx, hZ, hown, hby, hml, hrt, hlk⟩ := Y
  subst hp
  obtain ⟨T', X', e', st⟩ := Jvm.RoadKit.getF X hx hZ hown w via eT F (g := mkF m pc L (.ref a :: S)) rfl rfl (hb hby hd)
  exact (q T' ⟨locs, X', e', N, hn0, hx, hZ, hown, hby, hml, hrt, hlk⟩).of1 st
theorem Gl.getS (Y : Sd Z own bs mx ret n0 p l e R s m args below meth c T h k n) {i : Nat} {R0 O f d host : String} {v : Value} (w : (Jvm.Cond.fieldLink own i R0 f d).before a0 Z = true ∨ (Jvm.Cond.fieldLinkNest own i R0 f d host).before a0 Z = true) (via : Via Z R0 O f d) (F : Sta Z h O f d v) (hd : decode bs pc = .ok (.getstatic i, 3)) (hp : pc + 3 = pc') (q : ∀ T', Sd Z own bs mx ret n0 p l e R s m args below meth c T' h k n → Gl p e below P (T'.setTop (mkF m pc' L (v :: S)))) : Gl p e below P (T.setTop (mkF m pc L S)) := by
  obtain ⟨locs, X, eT, N, hn0, hx, hZ, hown, hby, hml, hrt, hlk⟩ := Y
  subst hp
  obtain ⟨T', X', e', st⟩ := getS2 X hx hZ hown w via eT F (g := mkF m pc L S) rfl (hb hby hd)
  exact (q T' ⟨locs, X', e', N, hn0, hx, hZ, hown, hby, hml, hrt, hlk⟩).of1 st
theorem Gl.putF (Y : Sd Z own bs mx ret n0 p l e R s m args below meth c T h k n) {i kk : Nat} {R0 O f d host C : String} {ty : FieldType} {a : Addr} {v old : Value} (w : (Jvm.Cond.fieldLink own i R0 f d).before a0 Z = true ∨ (Jvm.Cond.fieldLinkNest own i R0 f d host).before a0 Z = true) (via : Via Z R0 O f d) (F : Fld Z h a O f d old) (E : Exa Z h a C) (Lw : (Jvm.Cond.lays C O f d).before a0 Z = true ∨ ((Jvm.Cond.laysFinal C O f d).before a0 Z = true ∧ own = O ∧ meth.name = "<init>")) (wi : (Jvm.Cond.instantiable C kk).before a0 Z = true) (ha : n0 ≤ a) (hty : parseFieldDescriptor d = some ty) (hn : narrow ty v = v) (hf : fits ty v = true) (hd : decode bs pc = .ok (.putfield i, 3)) (hp : pc + 3 = pc') (q : ∀ T' h', Sd Z own bs mx ret n0 p l e R s m args below meth c T' h' k n → Wr h h' a (Jvm.RoadKit.slotOf Z O f d) v → Gl p e below P (T'.setTop (mkF m pc' L S))) : Gl p e below P (T.setTop (mkF m pc L (v :: .ref a :: S))) := by
  obtain ⟨locs, X, eT, N, hn0, hx, hZ, hown, hby, hml, hrt, hlk⟩ := Y
  subst hp
  obtain ⟨T', h', X', e', W, st⟩ := Jvm.RoadKit.putF X hx hZ hown w via eT F E Lw wi hty hn hf (g := mkF m pc L (v :: .ref a :: S)) rfl rfl (hb hby hd)
  exact (q T' h' ⟨_, X', e', Fr.snoc X' N ha, hn0, hx, hZ, hown, hby, hml, hrt, hlk⟩ W).of1 st
theorem Gl.putFN (Y : Sd Z own bs mx ret n0 p l e R s m args below meth c T h k n) {i kk : Nat} {R0 O f d C : String} {ty : FieldType} {a : Addr} {v v' old : Value} (w : (Jvm.Cond.fieldLink own i R0 f d).before a0 Z = true) (via : Via Z R0 O f d) (F : Fld Z h a O f d old) (E : Exa Z h a C) (Lw : (Jvm.Cond.lays C O f d).before a0 Z = true ∨ ((Jvm.Cond.laysFinal C O f d).before a0 Z = true ∧ own = O ∧ meth.name = "<init>")) (wi : (Jvm.Cond.instantiable C kk).before a0 Z = true) (ha : n0 ≤ a) (hty : parseFieldDescriptor d = some ty) (hn : narrow ty v = v') (hf : fits ty v' = true) (hd : decode bs pc = .ok (.putfield i, 3)) (hp : pc + 3 = pc') (q : ∀ T' h', Sd Z own bs mx ret n0 p l e R s m args below meth c T' h' k n → Wr h h' a (Jvm.RoadKit.slotOf Z O f d) v' → Gl p e below P (T'.setTop (mkF m pc' L S))) : Gl p e below P (T.setTop (mkF m pc L (v :: .ref a :: S))) := by
  obtain ⟨locs, X, eT, N, hn0, hx, hZ, hown, hby, hml, hrt, hlk⟩ := Y
  subst hp
  obtain ⟨T', h', X', e', W, st⟩ := Jvm.RoadKit.putFN X hx hZ hown w via eT F E Lw wi hty hn hf (g := mkF m pc L (v :: .ref a :: S)) rfl rfl (hb hby hd)
  exact (q T' h' ⟨_, X', e', Fr.snoc X' N ha, hn0, hx, hZ, hown, hby, hml, hrt, hlk⟩ W).of1 st
theorem Gl.newO (Y : Sd Z own bs mx ret n0 p l e R s m args below meth c T h k n) {i sl : Nat} {C : String} (w : (Jvm.Cond.classLink own i C).before a0 Z = true) (wi : (Jvm.Cond.instantiable C sl).before a0 Z = true) (wz : (Jvm.Cond.initialized C).before a0 Z = true) (hc : k + 1 ≤ R.cells) (hl : n + sl ≤ R.slots) (hd : decode bs pc = .ok (.new i, 3)) (hp : pc + 3 = pc') (q : ∀ T' h' b, Sd Z own bs mx ret n0 p l e R s m args below meth c T' h' (k + 1) (n + sl) → Ext h h' → b = h.size → n0 ≤ b → Exa Z h' b C → (∀ {O nm d : String} {ty : FieldType}, Laid Z a0 C O nm d → parseFieldDescriptor d = some ty → Fld Z h' b O nm d (defaultValue ty)) → Gl p e below P (T'.setTop (mkF m pc' L (.ref b :: S)))) : Gl p e below P (T.setTop (mkF m pc L S)) := by
  obtain ⟨locs, X, eT, N, hn0, hx, hZ, hown, hby, hml, hrt, hlk⟩ := Y
  subst hp
  obtain ⟨T', h', X', e', E, A, D, -, st⟩ := Jvm.RoadKit.newO X hx hZ hown w wi wz eT (g := mkF m pc L S) rfl (hb hby hd) hc hl
  exact (q T' h' h.size ⟨locs, X', e', N, hn0, hx, hZ, hown, hby, hml, hrt, hlk⟩ E rfl (eT ▸ Nat.le_trans hn0 (own_grow X)) A D).of1 st
theorem Gl.newP (Y : Sd Z own bs mx ret n0 p l e R s m args below meth c T h k n) {aty : ArrayType} {ty : FieldType} {z : Int32} (cap : Nat) (hat : newarray.typeOf aty = ty) (w : (Jvm.Cond.arrayClass ty).before a0 Z = true) (hz : ¬ z < 0) (hcap : z.toNatClampNeg ≤ cap) (hcb : cap * 8 ≤ 536870912) (hc : k + 1 ≤ R.cells) (hl : n + cap ≤ R.slots) (hd : decode bs pc = .ok (.newarray aty, 2)) (hp : pc + 2 = pc') (q : ∀ T' h' b ck, Sd Z own bs mx ret n0 p l e R s m args below meth c T' h' (k + 1) (n + cap) → Ext h h' → b = h.size → n0 ≤ b → Arv Z h' b ck ty z [] (defaultValue ty) → Gl p e below P (T'.setTop (mkF m pc' L (.ref b :: S)))) : Gl p e below P (T.setTop (mkF m pc L (.int z :: S))) := by
  obtain ⟨locs, X, eT, N, hn0, hx, hZ, hown, hby, hml, hrt, hlk⟩ := Y
  subst hp hat
  obtain ⟨T', h', ck, X', e', E, A, st⟩ := Jvm.RoadKit.newP X hx hZ w eT (g := mkF m pc L (.int z :: S)) rfl (hb hby hd) rfl hz hcap hcb hc hl
  exact (q T' h' h.size ck ⟨locs, X', e', N, hn0, hx, hZ, hown, hby, hml, hrt, hlk⟩ E rfl (eT ▸ Nat.le_trans hn0 (own_grow X)) (Arv.new A hz)).of1 st
theorem Gl.iastore (Y : Sd Z own bs mx ret n0 p l e R s m args below meth c T h k n) {a : Addr} {ck : ClassId} {z j : Int32} {x : Int32} {vs : List Value} {d v : Value} {ix : Nat} (F : Arv Z h a ck .int z vs d) (hv : .int x = v) (hj : ¬ j < 0 ∧ j < z) (hjx : j.toNatClampNeg = ix) (hlen : ix < vs.length) (ha : n0 ≤ a) (hd : decode bs pc = .ok (.iastore, 1)) (hp : pc + 1 = pc') (q : ∀ T' h', Sd Z own bs mx ret n0 p l e R s m args below meth c T' h' k n → Wr h h' a ix v → Arv Z h' a ck .int z (vs.set ix v) d → Gl p e below P (T'.setTop (mkF m pc' L S))) : Gl p e below P (T.setTop (mkF m pc L (.int x :: .int j :: .ref a :: S))) := by
  obtain ⟨locs, X, eT, N, hn0, hx, hZ, hown, hby, hml, hrt, hlk⟩ := Y
  subst hp hv hjx
  obtain ⟨cl, A, C1, S1, N1, H, Gf⟩ := F
  obtain ⟨T', h', X', e', W, st⟩ := stI X hx hZ eT A (inb_of S1 hj) (g := mkF m pc L (.int x :: .int j :: .ref a :: S)) rfl rfl (hb hby hd)
  exact (q T' h' ⟨_, X', e', Fr.snoc X' N ha, hn0, hx, hZ, hown, hby, hml, hrt, hlk⟩ W (Arv.set A C1 S1 N1 H Gf rfl W _ rfl hlen)).of1 st
theorem Gl.lastore (Y : Sd Z own bs mx ret n0 p l e R s m args below meth c T h k n) {a : Addr} {ck : ClassId} {z j : Int32} {x : Int64} {vs : List Value} {d v : Value} {ix : Nat} (F : Arv Z h a ck .long z vs d) (hv : .long x = v) (hj : ¬ j < 0 ∧ j < z) (hjx : j.toNatClampNeg = ix) (hlen : ix < vs.length) (ha : n0 ≤ a) (hd : decode bs pc = .ok (.lastore, 1)) (hp : pc + 1 = pc') (q : ∀ T' h', Sd Z own bs mx ret n0 p l e R s m args below meth c T' h' k n → Wr h h' a ix v → Arv Z h' a ck .long z (vs.set ix v) d → Gl p e below P (T'.setTop (mkF m pc' L S))) : Gl p e below P (T.setTop (mkF m pc L (.long x :: .int j :: .ref a :: S))) := by
  obtain ⟨locs, X, eT, N, hn0, hx, hZ, hown, hby, hml, hrt, hlk⟩ := Y
  subst hp hv hjx
  obtain ⟨cl, A, C1, S1, N1, H, Gf⟩ := F
  obtain ⟨T', h', X', e', W, st⟩ := stJ X hx hZ eT A (inb_of S1 hj) (g := mkF m pc L (.long x :: .int j :: .ref a :: S)) rfl rfl (hb hby hd)
  exact (q T' h' ⟨_, X', e', Fr.snoc X' N ha, hn0, hx, hZ, hown, hby, hml, hrt, hlk⟩ W (Arv.set A C1 S1 N1 H Gf rfl W _ rfl hlen)).of1 st
theorem Gl.castore (Y : Sd Z own bs mx ret n0 p l e R s m args below meth c T h k n) {a : Addr} {ck : ClassId} {z j : Int32} {x : Int32} {vs : List Value} {d v : Value} {ix : Nat} (F : Arv Z h a ck .char z vs d) (hv : .int (nar .char x) = v) (hj : ¬ j < 0 ∧ j < z) (hjx : j.toNatClampNeg = ix) (hlen : ix < vs.length) (ha : n0 ≤ a) (hd : decode bs pc = .ok (.castore, 1)) (hp : pc + 1 = pc') (q : ∀ T' h', Sd Z own bs mx ret n0 p l e R s m args below meth c T' h' k n → Wr h h' a ix v → Arv Z h' a ck .char z (vs.set ix v) d → Gl p e below P (T'.setTop (mkF m pc' L S))) : Gl p e below P (T.setTop (mkF m pc L (.int x :: .int j :: .ref a :: S))) := by
  obtain ⟨locs, X, eT, N, hn0, hx, hZ, hown, hby, hml, hrt, hlk⟩ := Y
  subst hp hv hjx
  obtain ⟨cl, A, C1, S1, N1, H, Gf⟩ := F
  obtain ⟨T', h', X', e', W, st⟩ := stC X hx hZ eT A (inb_of S1 hj) (g := mkF m pc L (.int x :: .int j :: .ref a :: S)) rfl rfl (hb hby hd)
  exact (q T' h' ⟨_, X', e', Fr.snoc X' N ha, hn0, hx, hZ, hown, hby, hml, hrt, hlk⟩ W (Arv.set A C1 S1 N1 H Gf (fits_nar_char _) W _ rfl hlen)).of1 st
theorem Gl.sastore (Y : Sd Z own bs mx ret n0 p l e R s m args below meth c T h k n) {a : Addr} {ck : ClassId} {z j : Int32} {x : Int32} {vs : List Value} {d v : Value} {ix : Nat} (F : Arv Z h a ck .short z vs d) (hv : .int (nar .short x) = v) (hj : ¬ j < 0 ∧ j < z) (hjx : j.toNatClampNeg = ix) (hlen : ix < vs.length) (ha : n0 ≤ a) (hd : decode bs pc = .ok (.sastore, 1)) (hp : pc + 1 = pc') (q : ∀ T' h', Sd Z own bs mx ret n0 p l e R s m args below meth c T' h' k n → Wr h h' a ix v → Arv Z h' a ck .short z (vs.set ix v) d → Gl p e below P (T'.setTop (mkF m pc' L S))) : Gl p e below P (T.setTop (mkF m pc L (.int x :: .int j :: .ref a :: S))) := by
  obtain ⟨locs, X, eT, N, hn0, hx, hZ, hown, hby, hml, hrt, hlk⟩ := Y
  subst hp hv hjx
  obtain ⟨cl, A, C1, S1, N1, H, Gf⟩ := F
  obtain ⟨T', h', X', e', W, st⟩ := stS X hx hZ eT A (inb_of S1 hj) (g := mkF m pc L (.int x :: .int j :: .ref a :: S)) rfl rfl (hb hby hd)
  exact (q T' h' ⟨_, X', e', Fr.snoc X' N ha, hn0, hx, hZ, hown, hby, hml, hrt, hlk⟩ W (Arv.set A C1 S1 N1 H Gf (fits_nar_short _) W _ rfl hlen)).of1 st
theorem Gl.bastore (Y : Sd Z own bs mx ret n0 p l e R s m args below meth c T h k n) {a : Addr} {ck : ClassId} {z j : Int32} {x : Int32} {vs : List Value} {d v : Value} {ix : Nat} (F : Arv Z h a ck .byte z vs d) (hv : .int (nar .byte x) = v) (hj : ¬ j < 0 ∧ j < z) (hjx : j.toNatClampNeg = ix) (hlen : ix < vs.length) (ha : n0 ≤ a) (hd : decode bs pc = .ok (.bastore, 1)) (hp : pc + 1 = pc') (q : ∀ T' h', Sd Z own bs mx ret n0 p l e R s m args below meth c T' h' k n → Wr h h' a ix v → Arv Z h' a ck .byte z (vs.set ix v) d → Gl p e below P (T'.setTop (mkF m pc' L S))) : Gl p e below P (T.setTop (mkF m pc L (.int x :: .int j :: .ref a :: S))) := by
  obtain ⟨locs, X, eT, N, hn0, hx, hZ, hown, hby, hml, hrt, hlk⟩ := Y
  subst hp hv hjx
  obtain ⟨cl, A, C1, S1, N1, H, Gf⟩ := F
  obtain ⟨T', h', X', e', W, st⟩ := stB X hx hZ eT A (inb_of S1 hj) (g := mkF m pc L (.int x :: .int j :: .ref a :: S)) rfl rfl (hb hby hd)
  exact (q T' h' ⟨_, X', e', Fr.snoc X' N ha, hn0, hx, hZ, hown, hby, hml, hrt, hlk⟩ W (Arv.set A C1 S1 N1 H Gf (fits_nar_byte _) W _ rfl hlen)).of1 st
theorem Gl.initO (Y : Sd Z own bs mx ret n0 p l e R s m args below meth c T h k n) {i : Nat} {a : Addr} (w1 : (Jvm.Cond.methodLink own i Lib.objectInit).before a0 Z = true) (w2 : (Jvm.Cond.instanceMethod Lib.objectInit).before a0 Z = true) (w3 : (Jvm.Cond.code Lib.objectInit ⟨#[0xb1]⟩ 1 none).before a0 Z = true) (hL : L.size = mx) (hf : 1 ≤ R.frames) (hl : (S.map fun v => v.category).sum + 12 ≤ R.locals) (hd : decode bs pc = .ok (.invokespecial i, 3)) (hp : pc + 3 = pc') (q : ∀ T', Sd Z own bs mx ret n0 p l e R s m args below meth c T' h k n → Gl p e below P (T'.setTop (mkF m pc' L S))) : Gl p e below P (T.setTop (mkF m pc L (.ref a :: S))) := by
  obtain ⟨locs, X, eT, N, hn0, hx, hZ, hown, hby, hml, hrt, hlk⟩ := Y
  subst hp
  obtain ⟨T', X', e', st⟩ := Jvm.RoadKit.initO X hx hZ hown w1 w2 w3 eT (g := mkF m pc L (.ref a :: S)) rfl (by rw [hml]; exact hL) rfl (hb hby hd) hf (W := (S.map fun v => v.category).sum) (by show 2 * 0 + _ ≤ _; omega) hl
  exact (q T' ⟨locs, X', e', N, hn0, hx, hZ, hown, hby, hml, hrt, hlk⟩).of1 st
theorem Gl.castY (Y : Sd Z own bs mx ret n0 p l e R s m args below meth c T h k n) {i : Nat} {K : String} {a : Addr} (w : (Jvm.Cond.classLink own i K).before a0 Z = true) (F : Ins Z h a K true) (hd : decode bs pc = .ok (.checkcast i, 3)) (hp : pc + 3 = pc') (q : ∀ T', Sd Z own bs mx ret n0 p l e R s m args below meth c T' h k n → Gl p e below P (T'.setTop (mkF m pc' L (.ref a :: S)))) : Gl p e below P (T.setTop (mkF m pc L (.ref a :: S))) := by
  obtain ⟨locs, X, eT, N, hn0, hx, hZ, hown, hby, hml, hrt, hlk⟩ := Y
  subst hp
  obtain ⟨T', X', e', st⟩ := Jvm.RoadKit.castY X hx hZ hown w eT F (g := mkF m pc L (.ref a :: S)) rfl rfl (hb hby hd)
  exact (q T' ⟨locs, X', e', N, hn0, hx, hZ, hown, hby, hml, hrt, hlk⟩).of1 st
theorem Gl.instY (Y : Sd Z own bs mx ret n0 p l e R s m args below meth c T h k n) {i : Nat} {K : String} {a : Addr} (w : (Jvm.Cond.classLink own i K).before a0 Z = true) (F : Ins Z h a K true) (hd : decode bs pc = .ok (.instanceof i, 3)) (hp : pc + 3 = pc') (q : ∀ T', Sd Z own bs mx ret n0 p l e R s m args below meth c T' h k n → Gl p e below P (T'.setTop (mkF m pc' L (.int 1 :: S)))) : Gl p e below P (T.setTop (mkF m pc L (.ref a :: S))) := by
  obtain ⟨locs, X, eT, N, hn0, hx, hZ, hown, hby, hml, hrt, hlk⟩ := Y
  subst hp
  obtain ⟨T', X', e', st⟩ := Jvm.RoadKit.instY X hx hZ hown w eT F (g := mkF m pc L (.ref a :: S)) rfl rfl (hb hby hd)
  exact (q T' ⟨locs, X', e', N, hn0, hx, hZ, hown, hby, hml, hrt, hlk⟩).of1 st
theorem Gl.instNo (Y : Sd Z own bs mx ret n0 p l e R s m args below meth c T h k n) {i : Nat} {K C : String} {a : Addr} (w : (Jvm.Cond.classLink own i K).before a0 Z = true) (E : Exa Z h a C) (F : ∃ c t, Z.vm.findClass C = some c ∧ Z.vm.findClass K = some t ∧ Z.vm.assignable c t = false) (hd : decode bs pc = .ok (.instanceof i, 3)) (hp : pc + 3 = pc') (q : ∀ T', Sd Z own bs mx ret n0 p l e R s m args below meth c T' h k n → Gl p e below P (T'.setTop (mkF m pc' L (.int 0 :: S)))) : Gl p e below P (T.setTop (mkF m pc L (.ref a :: S))) := by
  obtain ⟨locs, X, eT, N, hn0, hx, hZ, hown, hby, hml, hrt, hlk⟩ := Y
  subst hp
  obtain ⟨T', X', e', st⟩ := Jvm.RoadKit.instNo X hx hZ hown w eT E F (g := mkF m pc L (.ref a :: S)) rfl rfl (hb hby hd)
  exact (q T' ⟨locs, X', e', N, hn0, hx, hZ, hown, hby, hml, hrt, hlk⟩).of1 st
theorem Gl.castNull (Y : Sd Z own bs mx ret n0 p l e R s m args below meth c T h k n) {i : Nat} (hd : decode bs pc = .ok (.checkcast i, 3)) (hp : pc + 3 = pc') (q : Gl p e below P (T.setTop (mkF m pc' L (.null :: S)))) : Gl p e below P (T.setTop (mkF m pc L (.null :: S))) := by
  obtain ⟨locs, X, eT, N, hn0, hx, hZ, hown, hby, hml, hrt, hlk⟩ := Y
  subst hp
  exact q.of1 fun t q => X.checkcastNull hx (g := mkF m pc L (.null :: S)) rfl rfl (hb hby hd) t q
theorem Gl.instNull (Y : Sd Z own bs mx ret n0 p l e R s m args below meth c T h k n) {i : Nat} (hd : decode bs pc = .ok (.instanceof i, 3)) (hp : pc + 3 = pc') (q : Gl p e below P (T.setTop (mkF m pc' L (.int 0 :: S)))) : Gl p e below P (T.setTop (mkF m pc L (.null :: S))) := by
  obtain ⟨locs, X, eT, N, hn0, hx, hZ, hown, hby, hml, hrt, hlk⟩ := Y
  subst hp
  exact q.of1 fun t q => X.instanceofNull hx (g := mkF m pc L (.null :: S)) rfl rfl (hb hby hd) t q
theorem Gl.newR (Y : Sd Z own bs mx ret n0 p l e R s m args below meth c T h k n) {i : Nat} {C : String} {z : Int32} (cap : Nat) (w1 : (Jvm.Cond.classLink own i C).before a0 Z = true) (w2 : (Jvm.Cond.arrayOver (.object C)).before a0 Z = true) (hz : ¬ z < 0) (hcap : z.toNatClampNeg ≤ cap) (hcb : cap * 8 ≤ 536870912) (hc : k + 1 ≤ R.cells) (hl : n + cap ≤ R.slots) (hd : decode bs pc = .ok (.anewarray i, 3)) (hp : pc + 3 = pc') (q : ∀ T' h' b ck, Sd Z own bs mx ret n0 p l e R s m args below meth c T' h' (k + 1) (n + cap) → Ext h h' → b = h.size → n0 ≤ b → Arv Z h' b ck (.object C) z [] .null → Gl p e below P (T'.setTop (mkF m pc' L (.ref b :: S)))) : Gl p e below P (T.setTop (mkF m pc L (.int z :: S))) := by
  obtain ⟨locs, X, eT, N, hn0, hx, hZ, hown, hby, hml, hrt, hlk⟩ := Y
  subst hp
  obtain ⟨T', h', ck, X', e', E, A, -, st⟩ := Jvm.RoadKit.newR X hx hZ hown w1 w2 eT (g := mkF m pc L (.int z :: S)) rfl (hb hby hd) rfl hz hcap hcb hc hl
  exact (q T' h' h.size ck ⟨locs, X', e', N, hn0, hx, hZ, hown, hby, hml, hrt, hlk⟩ E rfl (eT ▸ Nat.le_trans hn0 (own_grow X)) (Arv.new A hz)).of1 st
theorem Gl.callS (Y : Sd Z own bs mx ret n0 p l e R s m args below meth c T h k n) {y : MethodName} {bs2 : ByteArray} {mx2 : Nat} {ret2 : Option FieldType} {rm : Room} {as : Array Value} {Q : Option Value → Heap → Prop} {i : Nat} {argsL rest : List Value} (w1 : (Jvm.Cond.methodLink own i y).before a0 Z = true) (w2 : (Jvm.Cond.static y).before a0 Z = true) (w3 : (Jvm.Cond.initialized y.cls).before a0 Z = true) (w4 : (Jvm.Cond.code y bs2 mx2 ret2).before a0 Z = true) (hy : y.cls ≠ "java/lang/invoke/MethodHandle" ∧ y.cls ≠ "java/lang/invoke/VarHandle") (hM : OMet l Z [] y bs2 mx2 ret2 rm as h n0 Q) (has : argsL.toArray = as) (hS : S = argsL.reverse ++ rest) (hlen : ∀ sig, parseMethodDescriptor y.desc = some sig → argsL.length = sig.parameters.length) (hL : L.size = mx) (hf : rm.frames + 1 ≤ R.frames) (hl : (rest.map fun v => v.category).sum + (mx2 + 11) + rm.locals ≤ R.locals) (hc : k + rm.cells ≤ R.cells) (hs : n + rm.slots ≤ R.slots) (hd : decode bs pc = .ok (.invokestatic i, 3)) (hp : pc + 3 = pc') (q : ∀ v T' h', Sd Z own bs mx ret n0 p l e R s m args below meth c T' h' (k + rm.cells) (n + rm.slots) → Q v h' → Gl p e below P (T'.setTop (mkF m pc' L (v.toList ++ rest)))) : Gl p e below P (T.setTop (mkF m pc L S)) := by
  obtain ⟨locs, X, eT, N, hn0, hx, hZ, hown, hby, hml, hrt, hlk⟩ := Y
  subst hp has hS
  obtain ⟨v, vm₁, ⟨T', L', k', n'⟩, -, X', hB, st⟩ := Jvm.LawKit.callS X hx (y := y) hown (mvT hZ w1) (mvT hZ w2) (mvT hZ w3) (mvT hZ w4) hy (backOf (Q := fun v h' L => Q v h' ∧ Fr n0 L) (W := (rest.map fun v => v.category).sum) (OMet.un hM) hZ w4 w3 hf hl) (g := mkF m pc L (argsL.reverse ++ rest)) rfl (by rw [hml]; exact hL) (argsL := argsL) (rest := rest) hlen rfl (by show 2 * 0 + _ ≤ _; omega) (hb hby hd) (fun _ _ => ⟨rfl, eT, hc, hs⟩)
  obtain ⟨Lc, ⟨hQ, NL⟩, l1, l2, l3⟩ := hB
  dsimp only [Pt.U, Pt.locs, Pt.cells, Pt.slots] at X' l1 l2 l3 st hQ
  subst l1 l2 l3
  exact (q v T' T'.heap ⟨_, X', rfl, Fr.app N NL, hn0, hx, hZ, hown, hby, hml, hrt, hlk⟩ hQ).of1 st
theorem Gl.callN (Y : Sd Z own bs mx ret n0 p l e R s m args below meth c T h k n) {y : MethodName} {bs2 : ByteArray} {mx2 : Nat} {rm : Room} {as : Array Value} {Q : Option Value → Heap → Prop} {i : Nat} {argsL rest : List Value} {a : Addr} (hy1 : y.name = "<init>") (w1 : (Jvm.Cond.methodLink own i y).before a0 Z = true) (w2 : (Jvm.Cond.instanceMethod y).before a0 Z = true) (w3 : (Jvm.Cond.initialized y.cls).before a0 Z = true) (w4 : (Jvm.Cond.code y bs2 mx2 none).before a0 Z = true) (hy : y.cls ≠ "java/lang/invoke/MethodHandle" ∧ y.cls ≠ "java/lang/invoke/VarHandle") (hM : OMet l Z [] y bs2 mx2 none rm as h n0 Q) (has : (.ref a :: argsL).toArray = as) (hS : S = argsL.reverse ++ .ref a :: rest) (hlen : ∀ sig, parseMethodDescriptor y.desc = some sig → argsL.length = sig.parameters.length) (hL : L.size = mx) (hf : rm.frames + 1 ≤ R.frames) (hl : (rest.map fun v => v.category).sum + (mx2 + 11) + rm.locals ≤ R.locals) (hc : k + rm.cells ≤ R.cells) (hs : n + rm.slots ≤ R.slots) (hd : decode bs pc = .ok (.invokespecial i, 3)) (hp : pc + 3 = pc') (q : ∀ v T' h', Sd Z own bs mx ret n0 p l e R s m args below meth c T' h' (k + rm.cells) (n + rm.slots) → Q v h' → Gl p e below P (T'.setTop (mkF m pc' L (v.toList ++ rest)))) : Gl p e below P (T.setTop (mkF m pc L S)) := by
  obtain ⟨locs, X, eT, N, hn0, hx, hZ, hown, hby, hml, hrt, hlk⟩ := Y
  subst hp has hS
  obtain ⟨v, vm₁, ⟨T', L', k', n'⟩, -, X', hB, st⟩ := X.specialBack hx (y := y) hy1 hown (mvT hZ w1) (mvT hZ w2) (mvT hZ w4) hy (backOf (Q := fun v h' L => Q v h' ∧ Fr n0 L) (W := (rest.map fun v => v.category).sum) (OMet.un hM) hZ w4 w3 hf hl) (g := mkF m pc L (argsL.reverse ++ .ref a :: rest)) rfl (by rw [hml]; exact hL) (Steps.refl _) (a := a) (argsL := argsL) (rest := rest) hlen rfl (by show 2 * 0 + _ ≤ _; omega) (hb hby hd) (fun _ _ => ⟨rfl, eT, hc, hs⟩)
  obtain ⟨Lc, ⟨hQ, NL⟩, l1, l2, l3⟩ := hB
  dsimp only [Pt.U, Pt.locs, Pt.cells, Pt.slots] at X' l1 l2 l3 st hQ
  subst l1 l2 l3
  exact Gl.via st (q v T' T'.heap ⟨_, X', rfl, Fr.app N NL, hn0, hx, hZ, hown, hby, hml, hrt, hlk⟩ hQ)
theorem Gl.callV (Y : Sd Z own bs mx ret n0 p l e R s m args below meth c T h k n) {y : MethodName} {bs2 : ByteArray} {mx2 : Nat} {ret2 : Option FieldType} {rm : Room} {as : Array Value} {Q : Option Value → Heap → Prop} {i : Nat} {z : MethodName} {C : String} {argsL rest : List Value} {a : Addr} (w1 : (Jvm.Cond.methodLink own i z).before a0 Z = true) (wd : (Jvm.Cond.declares z).before a0 Z = true) (ws0 : (Jvm.Cond.selects z.cls z z).before a0 Z = true) (ws : (Jvm.Cond.selects C z y).before a0 Z = true) (w2 : (Jvm.Cond.instanceMethod y).before a0 Z = true) (w3 : (Jvm.Cond.initialized y.cls).before a0 Z = true) (w4 : (Jvm.Cond.code y bs2 mx2 ret2).before a0 Z = true) (hy : z.cls ≠ "java/lang/invoke/MethodHandle" ∧ z.cls ≠ "java/lang/invoke/VarHandle") (E : Exa Z h a C) (hM : OMet l Z [] y bs2 mx2 ret2 rm as h n0 Q) (has : (.ref a :: argsL).toArray = as) (hS : S = argsL.reverse ++ .ref a :: rest) (hlen : ∀ sig, parseMethodDescriptor z.desc = some sig → argsL.length = sig.parameters.length) (hL : L.size = mx) (hf : rm.frames + 1 ≤ R.frames) (hl : (rest.map fun v => v.category).sum + (mx2 + 11) + rm.locals ≤ R.locals) (hc : k + rm.cells ≤ R.cells) (hs : n + rm.slots ≤ R.slots) (hd : decode bs pc = .ok (.invokevirtual i, 3)) (hp : pc + 3 = pc') (q : ∀ v T' h', Sd Z own bs mx ret n0 p l e R s m args below meth c T' h' (k + rm.cells) (n + rm.slots) → Q v h' → Gl p e below P (T'.setTop (mkF m pc' L (v.toList ++ rest)))) : Gl p e below P (T.setTop (mkF m pc L S)) := by
  obtain ⟨locs, X, eT, N, hn0, hx, hZ, hown, hby, hml, hrt, hlk⟩ := Y
  subst hp has hS
  obtain ⟨cq, kq, qa, qb, qc⟩ := isOf hZ eT E
  obtain ⟨v, vm₁, ⟨T', L', k', n'⟩, -, X', hB, st⟩ := X.virtualBack hx (y := z) (z := y) hown (mvT hZ w1) (mvT hZ wd) (notFace_of_selects (args := #[]) (mvT hZ ws0)) (mvT hZ ws) (mvT hZ w2) hy (backOf (Q := fun v h' L => Q v h' ∧ Fr n0 L) (W := (rest.map fun v => v.category).sum) (OMet.un hM) hZ w4 w3 hf hl) qa qc (g := mkF m pc L (argsL.reverse ++ .ref a :: rest)) rfl (by rw [hml]; exact hL) (Steps.refl _) (argsL := argsL) (rest := rest) hlen rfl (by show 2 * 0 + _ ≤ _; omega) (hb hby hd) (fun _ _ => ⟨rfl, eT, hc, hs⟩)
  obtain ⟨Lc, ⟨hQ, NL⟩, l1, l2, l3⟩ := hB
  dsimp only [Pt.U, Pt.locs, Pt.cells, Pt.slots] at X' l1 l2 l3 st hQ
  subst l1 l2 l3
  exact Gl.via st (q v T' T'.heap ⟨_, X', rfl, Fr.app N NL, hn0, hx, hZ, hown, hby, hml, hrt, hlk⟩ hQ)
theorem Gl.callP (Y : Sd Z own bs mx ret n0 p l e R s m args below meth c T h k n) {y : MethodName} {bs2 : ByteArray} {mx2 : Nat} {ret2 : Option FieldType} {rm : Room} {as : Array Value} {Q : Option Value → Heap → Prop} {i : Nat} {C : String} {kk : Nat} {argsL rest : List Value} {a : Addr} (w1 : (Jvm.Cond.methodLink own i y).before a0 Z = true) (w2 : (Jvm.Cond.instanceMethod y).before a0 Z = true) (wp : (Jvm.Cond.privateMethod y).before a0 Z = true) (wi : (Jvm.Cond.instantiable y.cls kk).before a0 Z = true) (w3 : (Jvm.Cond.initialized y.cls).before a0 Z = true) (w4 : (Jvm.Cond.code y bs2 mx2 ret2).before a0 Z = true) (hy : y.cls ≠ "java/lang/invoke/MethodHandle" ∧ y.cls ≠ "java/lang/invoke/VarHandle") (E : Exa Z h a C) (hM : OMet l Z [] y bs2 mx2 ret2 rm as h n0 Q) (has : (.ref a :: argsL).toArray = as) (hS : S = argsL.reverse ++ .ref a :: rest) (hlen : ∀ sig, parseMethodDescriptor y.desc = some sig → argsL.length = sig.parameters.length) (hL : L.size = mx) (hf : rm.frames + 1 ≤ R.frames) (hl : (rest.map fun v => v.category).sum + (mx2 + 11) + rm.locals ≤ R.locals) (hc : k + rm.cells ≤ R.cells) (hs : n + rm.slots ≤ R.slots) (hd : decode bs pc = .ok (.invokevirtual i, 3)) (hp : pc + 3 = pc') (q : ∀ v T' h', Sd Z own bs mx ret n0 p l e R s m args below meth c T' h' (k + rm.cells) (n + rm.slots) → Q v h' → Gl p e below P (T'.setTop (mkF m pc' L (v.toList ++ rest)))) : Gl p e below P (T.setTop (mkF m pc L S)) := by
  obtain ⟨locs, X, eT, N, hn0, hx, hZ, hown, hby, hml, hrt, hlk⟩ := Y
  subst hp has hS
  obtain ⟨cq, qa, qb⟩ := E.cell
  have hpr := Cond.privateMethod_at (mvP hZ wp (args := #[]))
  obtain ⟨c1, k1, i1, i2, -, i4, -⟩ := Cond.instantiable_spec (mv (args := args) hZ wi)
  have i5 : k1.isInterface = false := by cases hi : k1.isInterface <;> simp [hi] at i4 ⊢
  have hsel := selects_self_of_private (args := args) i1 i2 i5 hpr (mvT hZ w2) hy
  obtain ⟨v, vm₁, ⟨T', L', k', n'⟩, -, X', hB, st⟩ := X.privateBack hx (y := y) hown (mvT hZ w1) (mvT hZ w2) hsel hpr (mvT hZ w4) hy (backOf (Q := fun v h' L => Q v h' ∧ Fr n0 L) (W := (rest.map fun v => v.category).sum) (OMet.un hM) hZ w4 w3 hf hl) (g := mkF m pc L (argsL.reverse ++ .ref a :: rest)) rfl (by rw [hml]; exact hL) (Steps.refl _) (a := a) (by rw [eT]; exact qa) qb (argsL := argsL) (rest := rest) hlen rfl (by show 2 * 0 + _ ≤ _; omega) (hb hby hd) (fun _ _ => ⟨rfl, eT, hc, hs⟩)
  obtain ⟨Lc, ⟨hQ, NL⟩, l1, l2, l3⟩ := hB
  dsimp only [Pt.U, Pt.locs, Pt.cells, Pt.slots] at X' l1 l2 l3 st hQ
  subst l1 l2 l3
  exact Gl.via st (q v T' T'.heap ⟨_, X', rfl, Fr.app N NL, hn0, hx, hZ, hown, hby, hml, hrt, hlk⟩ hQ)
theorem Gl.callNN (Y : Sd Z own bs mx ret n0 p l e R s m args below meth c T h k n) {y : MethodName} {bs2 : ByteArray} {mx2 : Nat} {rm : Room} {as : Array Value} {Q : Option Value → Heap → Prop} {i : Nat} {argsL rest : List Value} {host : String} {a : Addr} (hy1 : y.name = "<init>") (w1 : (Jvm.Cond.methodLinkNest own i y host).before a0 Z = true) (w2 : (Jvm.Cond.instanceMethod y).before a0 Z = true) (w3 : (Jvm.Cond.initialized y.cls).before a0 Z = true) (w4 : (Jvm.Cond.code y bs2 mx2 none).before a0 Z = true) (hy : y.cls ≠ "java/lang/invoke/MethodHandle" ∧ y.cls ≠ "java/lang/invoke/VarHandle") (hM : OMet l Z [] y bs2 mx2 none rm as h n0 Q) (has : (.ref a :: argsL).toArray = as) (hS : S = argsL.reverse ++ .ref a :: rest) (hlen : ∀ sig, parseMethodDescriptor y.desc = some sig → argsL.length = sig.parameters.length) (hL : L.size = mx) (hf : rm.frames + 1 ≤ R.frames) (hl : (rest.map fun v => v.category).sum + (mx2 + 11) + rm.locals ≤ R.locals) (hc : k + rm.cells ≤ R.cells) (hs : n + rm.slots ≤ R.slots) (hd : decode bs pc = .ok (.invokespecial i, 3)) (hp : pc + 3 = pc') (q : ∀ v T' h', Sd Z own bs mx ret n0 p l e R s m args below meth c T' h' (k + rm.cells) (n + rm.slots) → Q v h' → Gl p e below P (T'.setTop (mkF m pc' L (v.toList ++ rest)))) : Gl p e below P (T.setTop (mkF m pc L S)) := by
  obtain ⟨locs, X, eT, N, hn0, hx, hZ, hown, hby, hml, hrt, hlk⟩ := Y
  subst hp has hS
  obtain ⟨v, vm₁, ⟨T', L', k', n'⟩, -, X', hB, st⟩ := X.specialBackNest hx (y := y) hy1 hown (Cond.methodLinkNest_wide hZ w1 :) (mvT hZ w2) (mvT hZ w4) hy (backOf (Q := fun v h' L => Q v h' ∧ Fr n0 L) (W := (rest.map fun v => v.category).sum) (OMet.un hM) hZ w4 w3 hf hl) (g := mkF m pc L (argsL.reverse ++ .ref a :: rest)) rfl (by rw [hml]; exact hL) (Steps.refl _) (a := a) (argsL := argsL) (rest := rest) hlen rfl (by show 2 * 0 + _ ≤ _; omega) (hb hby hd) (fun _ _ => ⟨rfl, eT, hc, hs⟩)
  obtain ⟨Lc, ⟨hQ, NL⟩, l1, l2, l3⟩ := hB
  dsimp only [Pt.U, Pt.locs, Pt.cells, Pt.slots] at X' l1 l2 l3 st hQ
  subst l1 l2 l3
  exact Gl.via st (q v T' T'.heap ⟨_, X', rfl, Fr.app N NL, hn0, hx, hZ, hown, hby, hml, hrt, hlk⟩ hQ)
theorem Gl.callVU (Y : Sd Z own bs mx ret n0 p l e R s m args below meth c T h k n) {y : MethodName} {bs2 : ByteArray} {mx2 : Nat} {ret2 : Option FieldType} {rm : Room} {as : Array Value} {Q : Option Value → Heap → Prop} {i : Nat} {owner : String} {z : MethodName} {C : String} {argsL rest : List Value} {a : Addr} (w1 : (Jvm.Cond.methodLink own i z).before a0 Z = true) (w0 : (Jvm.Cond.sameMethod z.cls owner z.name z.desc).before a0 Z = true) (wd : (Jvm.Cond.declares ⟨owner, z.name, z.desc⟩).before a0 Z = true) (ws : (Jvm.Cond.selects C z y).before a0 Z = true) (w2 : (Jvm.Cond.instanceMethod y).before a0 Z = true) (w3 : (Jvm.Cond.initialized y.cls).before a0 Z = true) (w4 : (Jvm.Cond.code y bs2 mx2 ret2).before a0 Z = true) (hy : owner ≠ "java/lang/invoke/MethodHandle" ∧ owner ≠ "java/lang/invoke/VarHandle") (E : Exa Z h a C) (hM : OMet l Z [] y bs2 mx2 ret2 rm as h n0 Q) (has : (.ref a :: argsL).toArray = as) (hS : S = argsL.reverse ++ .ref a :: rest) (hlen : ∀ sig, parseMethodDescriptor z.desc = some sig → argsL.length = sig.parameters.length) (hL : L.size = mx) (hf : rm.frames + 1 ≤ R.frames) (hl : (rest.map fun v => v.category).sum + (mx2 + 11) + rm.locals ≤ R.locals) (hc : k + rm.cells ≤ R.cells) (hs : n + rm.slots ≤ R.slots) (hd : decode bs pc = .ok (.invokevirtual i, 3)) (hp : pc + 3 = pc') (q : ∀ v T' h', Sd Z own bs mx ret n0 p l e R s m args below meth c T' h' (k + rm.cells) (n + rm.slots) → Q v h' → Gl p e below P (T'.setTop (mkF m pc' L (v.toList ++ rest)))) : Gl p e below P (T.setTop (mkF m pc L S)) := by
  obtain ⟨locs, X, eT, N, hn0, hx, hZ, hown, hby, hml, hrt, hlk⟩ := Y
  subst hp has hS
  obtain ⟨cq, kq, qa, qb, qc⟩ := isOf hZ eT E
  obtain ⟨v, vm₁, ⟨T', L', k', n'⟩, -, X', hB, st⟩ := X.virtualBackUp hx (x := z) (y := y) hown (mvT hZ w1) (mvT hZ w0) (mvT hZ wd) hy (mvT hZ ws) (mvT hZ w2) (backOf (Q := fun v h' L => Q v h' ∧ Fr n0 L) (W := (rest.map fun v => v.category).sum) (OMet.un hM) hZ w4 w3 hf hl) qa qc (g := mkF m pc L (argsL.reverse ++ .ref a :: rest)) rfl (by rw [hml]; exact hL) (Steps.refl _) (argsL := argsL) (rest := rest) hlen rfl (by show 2 * 0 + _ ≤ _; omega) (hb hby hd) (fun _ _ => ⟨rfl, eT, hc, hs⟩)
  obtain ⟨Lc, ⟨hQ, NL⟩, l1, l2, l3⟩ := hB
  dsimp only [Pt.U, Pt.locs, Pt.cells, Pt.slots] at X' l1 l2 l3 st hQ
  subst l1 l2 l3
  exact Gl.via st (q v T' T'.heap ⟨_, X', rfl, Fr.app N NL, hn0, hx, hZ, hown, hby, hml, hrt, hlk⟩ hQ)
theorem Gl.fin (Y : Sd Z own bs mx ret n0 p l e R s m args below meth c T h k n) {K M : Nat} {Q : Option Value → Heap → Prop} (hk : k ≤ K) (hm : n ≤ M) {g : JFrame} {v : Option Value} (hv : ret = none → v = none) (st : ∀ fs, (∀ (f : JFrame) (acts : List Action), f.method = m → f.locked = none → f.entered = [] → (doReturn e (T.setTop f) acts v).1 = T.setFrames fs) → Steps p.tables e below (T.setTop g) (T.setFrames fs)) (hQ : Q v h) : Gl p e below (Pst s n0 K M Q) (T.setTop g) := by
  obtain ⟨locs, X, eT, N, hn0, hx, hZ, hown, hby, hml, hrt, hlk⟩ := Y
  obtain ⟨fs, hr, hrun, hended, hW, hsame⟩ := X.leave (v := v) (fun q => hv (hrt.symm.trans q)) hlk
  exact ⟨_, _, st fs hr, hrun, hended, v, locs, rfl, ⟨by show Q v T.heap; rw [eT]; exact hQ, N⟩, ⟨_, rfl⟩, hW, hsame.mono hk hm⟩
theorem Gl.retV (Y : Sd Z own bs mx none n0 p l e R s m args below meth c T h k n) {K M : Nat} {Q : Option Value → Heap → Prop} (hk : k ≤ K) (hm : n ≤ M)  (hd : decode bs pc = .ok (.return_, 1)) (hQ : Q none h) : Gl p e below (Pst s n0 K M Q) (T.setTop (mkF m pc L [])) := by
  have Y0 := Y
  obtain ⟨locs, X, eT, N, hn0, hx, hZ, hown, hby, hml, hrt, hlk⟩ := Y
  exact Gl.fin Y0 hk hm (v := none) (fun q => by first | rfl | cases q) (fun fs hr => X.returnOut hx hrt (hb hby hd) hr) hQ
theorem Gl.retI (Y : Sd Z own bs mx (some .int) n0 p l e R s m args below meth c T h k n) {K M : Nat} {Q : Option Value → Heap → Prop} (hk : k ≤ K) (hm : n ≤ M) {x : Int32} (hd : decode bs pc = .ok (.ireturn, 1)) (hQ : Q (some (.int x)) h) : Gl p e below (Pst s n0 K M Q) (T.setTop (mkF m pc L (.int x :: S))) := by
  have Y0 := Y
  obtain ⟨locs, X, eT, N, hn0, hx, hZ, hown, hby, hml, hrt, hlk⟩ := Y
  exact Gl.fin Y0 hk hm (v := (some (.int x))) (fun q => by first | rfl | cases q) (fun fs hr => retOut X hx hrt rfl (Or.inl ⟨rfl, Or.inl rfl, x, rfl⟩) (hb hby hd) hr) hQ
theorem Gl.retJ (Y : Sd Z own bs mx (some .long) n0 p l e R s m args below meth c T h k n) {K M : Nat} {Q : Option Value → Heap → Prop} (hk : k ≤ K) (hm : n ≤ M) {x : Int64} (hd : decode bs pc = .ok (.lreturn, 1)) (hQ : Q (some (.long x)) h) : Gl p e below (Pst s n0 K M Q) (T.setTop (mkF m pc L (.long x :: S))) := by
  have Y0 := Y
  obtain ⟨locs, X, eT, N, hn0, hx, hZ, hown, hby, hml, hrt, hlk⟩ := Y
  exact Gl.fin Y0 hk hm (v := (some (.long x))) (fun q => by first | rfl | cases q) (fun fs hr => retOut X hx hrt rfl (Or.inr (Or.inl ⟨rfl, rfl, x, rfl⟩)) (hb hby hd) hr) hQ
theorem Gl.retA (Y : Sd Z own bs mx (some t) n0 p l e R s m args below meth c T h k n) {K M : Nat} {Q : Option Value → Heap → Prop} (hk : k ≤ K) (hm : n ≤ M) {x : Value} (ht : t.isReference = true) (hxr : x.isRef = true) (hd : decode bs pc = .ok (.areturn, 1)) (hQ : Q (some x) h) : Gl p e below (Pst s n0 K M Q) (T.setTop (mkF m pc L (x :: S))) := by
  have Y0 := Y
  obtain ⟨locs, X, eT, N, hn0, hx, hZ, hown, hby, hml, hrt, hlk⟩ := Y
  exact Gl.fin Y0 hk hm (v := (some x)) (fun q => by first | rfl | cases q) (fun fs hr => retOut X hx hrt (own_narR hxr) (Or.inr (Or.inr (Or.inr (Or.inr ⟨rfl, ht, hxr⟩)))) (hb hby hd) hr) hQ
theorem Gl.retZ (Y : Sd Z own bs mx (some .boolean) n0 p l e R s m args below meth c T h k n) {K M : Nat} {Q : Option Value → Heap → Prop} (hk : k ≤ K) (hm : n ≤ M) {x x' : Int32} (hxn : nar .boolean x = x') (hd : decode bs pc = .ok (.ireturn, 1)) (hQ : Q (some (.int x')) h) : Gl p e below (Pst s n0 K M Q) (T.setTop (mkF m pc L (.int x :: S))) := by
  have Y0 := Y
  obtain ⟨locs, X, eT, N, hn0, hx, hZ, hown, hby, hml, hrt, hlk⟩ := Y
  exact Gl.fin Y0 hk hm (v := (some (.int x'))) (fun q => by first | rfl | cases q) (fun fs hr => retN X hx (t := .boolean) hrt (by simp) (hb hby hd) (by rw [hxn]; exact hr)) hQ
theorem Gl.retB (Y : Sd Z own bs mx (some .byte) n0 p l e R s m args below meth c T h k n) {K M : Nat} {Q : Option Value → Heap → Prop} (hk : k ≤ K) (hm : n ≤ M) {x x' : Int32} (hxn : nar .byte x = x') (hd : decode bs pc = .ok (.ireturn, 1)) (hQ : Q (some (.int x')) h) : Gl p e below (Pst s n0 K M Q) (T.setTop (mkF m pc L (.int x :: S))) := by
  have Y0 := Y
  obtain ⟨locs, X, eT, N, hn0, hx, hZ, hown, hby, hml, hrt, hlk⟩ := Y
  exact Gl.fin Y0 hk hm (v := (some (.int x'))) (fun q => by first | rfl | cases q) (fun fs hr => retN X hx (t := .byte) hrt (by simp) (hb hby hd) (by rw [hxn]; exact hr)) hQ
theorem Gl.retC (Y : Sd Z own bs mx (some .char) n0 p l e R s m args below meth c T h k n) {K M : Nat} {Q : Option Value → Heap → Prop} (hk : k ≤ K) (hm : n ≤ M) {x x' : Int32} (hxn : nar .char x = x') (hd : decode bs pc = .ok (.ireturn, 1)) (hQ : Q (some (.int x')) h) : Gl p e below (Pst s n0 K M Q) (T.setTop (mkF m pc L (.int x :: S))) := by
  have Y0 := Y
  obtain ⟨locs, X, eT, N, hn0, hx, hZ, hown, hby, hml, hrt, hlk⟩ := Y
  exact Gl.fin Y0 hk hm (v := (some (.int x'))) (fun q => by first | rfl | cases q) (fun fs hr => retN X hx (t := .char) hrt (by simp) (hb hby hd) (by rw [hxn]; exact hr)) hQ
theorem Gl.retSh (Y : Sd Z own bs mx (some .short) n0 p l e R s m args below meth c T h k n) {K M : Nat} {Q : Option Value → Heap → Prop} (hk : k ≤ K) (hm : n ≤ M) {x x' : Int32} (hxn : nar .short x = x') (hd : decode bs pc = .ok (.ireturn, 1)) (hQ : Q (some (.int x')) h) : Gl p e below (Pst s n0 K M Q) (T.setTop (mkF m pc L (.int x :: S))) := by
  have Y0 := Y
  obtain ⟨locs, X, eT, N, hn0, hx, hZ, hown, hby, hml, hrt, hlk⟩ := Y
  exact Gl.fin Y0 hk hm (v := (some (.int x'))) (fun q => by first | rfl | cases q) (fun fs hr => retN X hx (t := .short) hrt (by simp) (hb hby hd) (by rw [hxn]; exact hr)) hQ
end Kit
end Jvm.OwnWk

namespace Jvm.Pilot.@@N@@
open Jvm Jvm.ClassFile Sem Op Lib Jvm.Free Jvm.Stand Jvm.LawKit Jvm.RoadKit Bundle Jvm.OwnWk Jvm.Pilot.@@N@@.Jvm.D
theorem d_prog_2_method_1_0 : decode prog_2_method_1_code 0 = .ok (.aload_n 0, 1) := by decide +kernel
theorem d_prog_2_method_1_1 : decode prog_2_method_1_code 1 = .ok (.invokespecial 1, 3) := by decide +kernel
theorem tw_7 {a0 : Array Value} {Z : State} (hw : ∀ d ∈ tables_1, d.before a0 Z = true) : (Jvm.Cond.methodLink "com/example/impatiens/impatiens/MatchBudget" (1 : Nat) ({ cls := "java/lang/Object", name := "<init>", desc := "()V" } : Jvm.MethodName)).before a0 Z = true := hw _ (List.mem_of_getElem? (i := 7) rfl)
theorem tw_8 {a0 : Array Value} {Z : State} (hw : ∀ d ∈ tables_1, d.before a0 Z = true) : (Jvm.Cond.instanceMethod ({ cls := "java/lang/Object", name := "<init>", desc := "()V" } : Jvm.MethodName)).before a0 Z = true := hw _ (List.mem_of_getElem? (i := 8) rfl)
theorem tw_9 {a0 : Array Value} {Z : State} (hw : ∀ d ∈ tables_1, d.before a0 Z = true) : (Jvm.Cond.code ({ cls := "java/lang/Object", name := "<init>", desc := "()V" } : Jvm.MethodName) object_method_1_code (1 : Nat) (Option.none : Option Jvm.ClassFile.FieldType)).before a0 Z = true := hw _ (List.mem_of_getElem? (i := 9) rfl)
theorem d_prog_2_method_1_4 : decode prog_2_method_1_code 4 = .ok (.aload_n 0, 1) := by decide +kernel
theorem d_prog_2_method_1_5 : decode prog_2_method_1_code 5 = .ok (.lload_n 1, 1) := by decide +kernel
theorem d_prog_2_method_1_6 : decode prog_2_method_1_code 6 = .ok (.putfield 7, 3) := by decide +kernel
theorem tw_10 {a0 : Array Value} {Z : State} (hw : ∀ d ∈ tables_1, d.before a0 Z = true) : (Jvm.Cond.fieldLink "com/example/impatiens/impatiens/MatchBudget" (7 : Nat) "com/example/impatiens/impatiens/MatchBudget" "left" "J").before a0 Z = true := hw _ (List.mem_of_getElem? (i := 10) rfl)
theorem tw_11 {a0 : Array Value} {Z : State} (hw : ∀ d ∈ tables_1, d.before a0 Z = true) : (Jvm.Cond.lays "com/example/impatiens/impatiens/MatchBudget" "com/example/impatiens/impatiens/MatchBudget" "left" "J").before a0 Z = true := hw _ (List.mem_of_getElem? (i := 11) rfl)
theorem tw_2 {a0 : Array Value} {Z : State} (hw : ∀ d ∈ tables_1, d.before a0 Z = true) : (Jvm.Cond.instantiable "com/example/impatiens/impatiens/MatchBudget" (2 : Nat)).before a0 Z = true := hw _ (List.mem_of_getElem? (i := 2) rfl)
theorem d_prog_2_method_1_9 : decode prog_2_method_1_code 9 = .ok (.return_, 1) := by decide +kernel
theorem tw_18 {a0 : Array Value} {Z : State} (hw : ∀ d ∈ tables_1, d.before a0 Z = true) : (Jvm.Cond.lays "com/example/impatiens/impatiens/MatchBudget" "com/example/impatiens/impatiens/MatchBudget" "spent" "Z").before a0 Z = true := hw _ (List.mem_of_getElem? (i := 18) rfl)
def R0 : Room := { frames := 1, cells := 0, slots := 0, locals := 12 }
def Q0 (Z : State) (a : Addr) (b : Int64) (h0 : Heap) (v : Option Value) (h : Heap) : Prop := v = none ∧ Keep h0 h [a] ∧ Exa Z h a "com/example/impatiens/impatiens/MatchBudget" ∧ Fld Z h a "com/example/impatiens/impatiens/MatchBudget" "left" "J" (.long b) ∧ Fld Z h a "com/example/impatiens/impatiens/MatchBudget" "spent" "Z" (.int (0 : Int32))
theorem ef0 (a : Addr) (b : Int64) (m : MethodId) : entryFrame m #[(.ref a), (.long b)] 3 = mkF m 0 #[.val (.ref a), .val (.long b), .second] [] := by first | (simp [entryFrame, mkF, argsToLocals, Value.category]; done) | rfl
theorem pn_0 : plainName "com/example/impatiens/impatiens/MatchBudget" = true := by first | (simp [plainName, overriddenIn]; done) | decide +kernel
set_option maxRecDepth 65536 in
set_option maxHeartbeats 40000000 in
theorem rm0 (l : Launch) (Z : State) (a0 : Array Value) (hw : ∀ d ∈ tables_1, d.before a0 Z = true) (ws : List Jvm.Cond) (a : Addr) (b : Int64) (h0 : Heap) (n0 : Nat) (Z0 : n0 ≤ h0.size) (E : Exa Z h0 a "com/example/impatiens/impatiens/MatchBudget") (F1 : Fld Z h0 a "com/example/impatiens/impatiens/MatchBudget" "left" "J" (.long (0 : Int64))) (F2 : Fld Z h0 a "com/example/impatiens/impatiens/MatchBudget" "spent" "Z" (.int (0 : Int32))) (ga : n0 ≤ a) : OMet l Z ws (⟨"com/example/impatiens/impatiens/MatchBudget", "<init>", "(J)V"⟩ : MethodName) prog_2_method_1_code 3 none R0 #[(.ref a), (.long b)] h0 n0 (Q0 Z a b h0) := by
  refine OMet.of (plainFor_of_name pn_0) (ef0 a b) Z0 ?_
  intro p e s m below meth c T0 Y0 hnm
  have Y0 : Sd Z "com/example/impatiens/impatiens/MatchBudget" prog_2_method_1_code 3 none n0 p l e R0 s m #[(.ref a), (.long b)] below meth c T0 h0 0 0 := Y0
  refine Gl.aloadN Y0 rfl rfl d_prog_2_method_1_0 rfl ?_
  refine Gl.initO Y0 (tw_7 hw) (tw_8 hw) (tw_9 hw) rfl (by decide) (Nat.le_of_ble_eq_true rfl) d_prog_2_method_1_1 rfl (fun T1 Y1 => ?_)
  refine Gl.aloadN Y1 rfl rfl d_prog_2_method_1_4 rfl ?_
  refine Gl.lloadN Y1 rfl d_prog_2_method_1_5 rfl ?_
  refine Gl.putF Y1 (host := "") (Or.inl (tw_10 hw)) Via.refl F1 E (Or.inl (tw_11 hw)) (tw_2 hw) ga (ty := .long) (by decide) rfl rfl d_prog_2_method_1_6 rfl (fun T6 h6 Y6 W6 => ?_)
  have f1 : Fld Z h6 a "com/example/impatiens/impatiens/MatchBudget" "left" "J" (.long b) := Fld.same W6 F1
  have K6 : Keep h0 h6 [a] := (Keep.refl h0 [a]).wr W6 (Or.inl (List.mem_of_getElem? (i := 0) rfl))
  have f2 : Exa Z h6 a "com/example/impatiens/impatiens/MatchBudget" := (Exa.wr W6 E)
  have f3 : Fld Z h6 a "com/example/impatiens/impatiens/MatchBudget" "spent" "Z" (.int (0 : Int32)) := (Fld.other W6 F2 (Or.inr (slot_ne (Or.inl (tw_18 hw)) (Or.inl (tw_11 hw)) (by decide) (t := .boolean) (t' := .long) (by decide) (by decide))))
  exact Gl.retV Y6 (by decide) (by decide)  d_prog_2_method_1_9 ⟨rfl, K6, f2, f1, f3⟩
theorem d_prog_2_method_3_0 : decode prog_2_method_3_code 0 = .ok (.aload_n 0, 1) := by decide +kernel
theorem d_prog_2_method_3_1 : decode prog_2_method_3_code 1 = .ok (.aload_n 0, 1) := by decide +kernel
theorem d_prog_2_method_3_2 : decode prog_2_method_3_code 2 = .ok (.getfield 20, 3) := by decide +kernel
theorem tw_17 {a0 : Array Value} {Z : State} (hw : ∀ d ∈ tables_1, d.before a0 Z = true) : (Jvm.Cond.fieldLink "com/example/impatiens/impatiens/MatchBudget" (20 : Nat) "com/example/impatiens/impatiens/MatchBudget" "spent" "Z").before a0 Z = true := hw _ (List.mem_of_getElem? (i := 17) rfl)
theorem d_prog_2_method_3_5 : decode prog_2_method_3_code 5 = .ok (.ifCond .ne 12, 3) := by decide +kernel
theorem d_prog_2_method_3_17 : decode prog_2_method_3_code 17 = .ok (.iconst 1, 1) := by decide +kernel
theorem d_prog_2_method_3_18 : decode prog_2_method_3_code 18 = .ok (.goto 4, 3) := by decide +kernel
theorem d_prog_2_method_3_8 : decode prog_2_method_3_code 8 = .ok (.lload_n 1, 1) := by decide +kernel
theorem d_prog_2_method_3_9 : decode prog_2_method_3_code 9 = .ok (.aload_n 0, 1) := by decide +kernel
theorem d_prog_2_method_3_10 : decode prog_2_method_3_code 10 = .ok (.getfield 7, 3) := by decide +kernel
theorem d_prog_2_method_3_13 : decode prog_2_method_3_code 13 = .ok (.lcmp, 1) := by decide +kernel
theorem d_prog_2_method_3_14 : decode prog_2_method_3_code 14 = .ok (.ifCond .le 7, 3) := by decide +kernel
theorem d_prog_2_method_3_21 : decode prog_2_method_3_code 21 = .ok (.iconst 0, 1) := by decide +kernel
theorem d_prog_2_method_3_22 : decode prog_2_method_3_code 22 = .ok (.putfield 20, 3) := by decide +kernel
theorem d_prog_2_method_3_25 : decode prog_2_method_3_code 25 = .ok (.aload_n 0, 1) := by decide +kernel
theorem d_prog_2_method_3_26 : decode prog_2_method_3_code 26 = .ok (.getfield 20, 3) := by decide +kernel
theorem d_prog_2_method_3_29 : decode prog_2_method_3_code 29 = .ok (.ifCond .ne 13, 3) := by decide +kernel
theorem d_prog_2_method_3_42 : decode prog_2_method_3_code 42 = .ok (.aload_n 0, 1) := by decide +kernel
theorem d_prog_2_method_3_43 : decode prog_2_method_3_code 43 = .ok (.getfield 20, 3) := by decide +kernel
theorem d_prog_2_method_3_46 : decode prog_2_method_3_code 46 = .ok (.ifCond .ne 7, 3) := by decide +kernel
theorem d_prog_2_method_3_53 : decode prog_2_method_3_code 53 = .ok (.iconst 0, 1) := by decide +kernel
theorem d_prog_2_method_3_54 : decode prog_2_method_3_code 54 = .ok (.ireturn, 1) := by decide +kernel
theorem d_prog_2_method_3_32 : decode prog_2_method_3_code 32 = .ok (.aload_n 0, 1) := by decide +kernel
theorem d_prog_2_method_3_33 : decode prog_2_method_3_code 33 = .ok (.dup, 1) := by decide +kernel
theorem d_prog_2_method_3_34 : decode prog_2_method_3_code 34 = .ok (.getfield 7, 3) := by decide +kernel
theorem d_prog_2_method_3_37 : decode prog_2_method_3_code 37 = .ok (.lload_n 1, 1) := by decide +kernel
theorem d_prog_2_method_3_38 : decode prog_2_method_3_code 38 = .ok (.lsub, 1) := by decide +kernel
theorem d_prog_2_method_3_39 : decode prog_2_method_3_code 39 = .ok (.putfield 7, 3) := by decide +kernel
theorem d_prog_2_method_3_49 : decode prog_2_method_3_code 49 = .ok (.iconst 1, 1) := by decide +kernel
theorem d_prog_2_method_3_50 : decode prog_2_method_3_code 50 = .ok (.goto 4, 3) := by decide +kernel
def R1 : Room := { frames := 0, cells := 0, slots := 0, locals := 0 }
def Q1 (Z : State) (a : Addr) (st : Int64) (lf : Int64) (sp : Int32) (h0 : Heap) (v : Option Value) (h : Heap) : Prop := ∃ sq : Int32, ∃ lq : Int64, ∃ r : Int32, v = some (.int r) ∧ (((sp.toInt = 0 ∧ ¬ lf.toInt < st.toInt ∧ r.toInt = 1 ∧ sq.toInt = 0 ∧ lq.toInt = lf.toInt - st.toInt) ∨ ((¬ sp.toInt = 0 ∨ lf.toInt < st.toInt) ∧ r.toInt = 0 ∧ sq.toInt = 1 ∧ lq.toInt = lf.toInt)) ∧ (sq = 0 ∨ sq = 1) ∧ (r = 0 ∨ r = 1)) ∧ Keep h0 h [a] ∧ Exa Z h a "com/example/impatiens/impatiens/MatchBudget" ∧ Fld Z h a "com/example/impatiens/impatiens/MatchBudget" "left" "J" (.long lq) ∧ Fld Z h a "com/example/impatiens/impatiens/MatchBudget" "spent" "Z" (.int sq)
theorem ef1 (a : Addr) (st : Int64) (m : MethodId) : entryFrame m #[(.ref a), (.long st)] 3 = mkF m 0 #[.val (.ref a), .val (.long st), .second] [] := by first | (simp [entryFrame, mkF, argsToLocals, Value.category]; done) | rfl
set_option maxRecDepth 65536 in
set_option maxHeartbeats 40000000 in
theorem rm1 (l : Launch) (Z : State) (a0 : Array Value) (hw : ∀ d ∈ tables_1, d.before a0 Z = true) (ws : List Jvm.Cond) (a : Addr) (st : Int64) (lf : Int64) (sp : Int32) (h0 : Heap) (n0 : Nat) (Z0 : n0 ≤ h0.size) (E : Exa Z h0 a "com/example/impatiens/impatiens/MatchBudget") (F1 : Fld Z h0 a "com/example/impatiens/impatiens/MatchBudget" "left" "J" (.long lf)) (F2 : Fld Z h0 a "com/example/impatiens/impatiens/MatchBudget" "spent" "Z" (.int sp)) (ga : n0 ≤ a) (h1 : 0 ≤ st.toInt) (h2 : 0 ≤ lf.toInt) : OMet l Z ws (⟨"com/example/impatiens/impatiens/MatchBudget", "spend", "(J)Z"⟩ : MethodName) prog_2_method_3_code 3 (some .boolean) R1 #[(.ref a), (.long st)] h0 n0 (Q1 Z a st lf sp h0) := by
  refine OMet.of (plainFor_of_name pn_0) (ef1 a st) Z0 ?_
  intro p e s m below meth c T0 Y0 hnm
  have Y0 : Sd Z "com/example/impatiens/impatiens/MatchBudget" prog_2_method_3_code 3 (some .boolean) n0 p l e R1 s m #[(.ref a), (.long st)] below meth c T0 h0 0 0 := Y0
  have nst := rng64 st
  refine Gl.aloadN Y0 rfl rfl d_prog_2_method_3_0 rfl ?_
  refine Gl.aloadN Y0 rfl rfl d_prog_2_method_3_1 rfl ?_
  refine Gl.getF Y0 (host := "") (Or.inl (tw_17 hw)) Via.refl F2 d_prog_2_method_3_2 rfl (fun T2 Y2 => ?_)
  obtain ⟨z5, hz5⟩ : ∃ z : Int32, (if sp = (0 : Int32) then (if lf < st then (1 : Int32) else (0 : Int32)) else (1 : Int32)) = z := ⟨_, rfl⟩
  have iz5 : (sp.toInt = 0 ∧ ((lf.toInt < st.toInt ∧ (z5.toInt = 1)) ∨ (¬ (lf.toInt < st.toInt) ∧ (z5.toInt = 0)))) ∨ (¬ (sp.toInt = 0) ∧ (z5.toInt = 1)) := own_ite (c := sp = (0 : Int32)) (fun q0 => ⟨congrArg Int32.toInt q0, own_ite (c := lf < st) (fun q1 => ⟨Int64.lt_iff_toInt_lt.mp q1, congrArg Int32.toInt (show z5 = (1 : Int32) from by rw [← hz5]; simp only [q0, q1, ↓reduceIte, if_true, if_false, ite_self])⟩) (fun q1 => ⟨fun q => q1 (Int64.lt_iff_toInt_lt.mpr q), congrArg Int32.toInt (show z5 = (0 : Int32) from by rw [← hz5]; simp only [q0, q1, ↓reduceIte, if_true, if_false, ite_self])⟩)⟩) (fun q0 => ⟨fun q => q0 (Int32.toInt_inj.mp q), congrArg Int32.toInt (show z5 = (1 : Int32) from by rw [← hz5]; simp only [q0, ↓reduceIte, if_true, if_false, ite_self])⟩)
  have bz5 : z5 = 0 ∨ z5 = 1 := by rw [← hz5]; (repeat' split) <;> first | (simp; done) | assumption
  refine own_cut (B := ∀ T', Sd Z "com/example/impatiens/impatiens/MatchBudget" prog_2_method_3_code 3 (some .boolean) n0 p l e R1 s m #[(.ref a), (.long st)] below meth c T' h0 0 0 → Gl p e below (Pst s n0 R1.cells R1.slots (Q1 Z a st lf sp h0)) (T'.setTop (mkF m 22 #[.val (.ref a), .val (.long st), .second] [(.int z5), (.ref a)]))) (fun jk => ?_) (fun T5j Y5j => ?_)
  · refine Gl.ifne Y2 d_prog_2_method_3_5 (by decide) rfl rfl (fun c5 => ?_) (fun c5 => ?_)
    · have j5 : ¬ (sp.toInt = 0) := fun q => c5 (Int32.toInt_inj.mp q)
      refine Gl.iconst Y2 (v := (1 : Int32)) (by decide) d_prog_2_method_3_17 rfl ?_
      refine Gl.goto Y2 d_prog_2_method_3_18 (by decide) rfl ?_
      have ez5 : z5 = (1 : Int32) := by rw [← hz5]; simp only [c5, ↓reduceIte, if_true, if_false]
      rw [ez5] at jk
      exact jk T2 Y2
    · have j5 : sp.toInt = 0 := congrArg Int32.toInt c5
      refine Gl.lloadN Y2 rfl d_prog_2_method_3_8 rfl ?_
      refine Gl.aloadN Y2 rfl rfl d_prog_2_method_3_9 rfl ?_
      refine Gl.getF Y2 (host := "") (Or.inl (tw_10 hw)) Via.refl F1 d_prog_2_method_3_10 rfl (fun T10 Y10 => ?_)
      refine Gl.lcmple Y10 d_prog_2_method_3_13 rfl d_prog_2_method_3_14 (by decide) rfl rfl (fun c14 => ?_) (fun c14 => ?_)
      · have j14 : ¬ (lf.toInt < st.toInt) := fun q => c14 (Int64.lt_iff_toInt_lt.mpr q)
        refine Gl.iconst Y10 (v := (0 : Int32)) (by decide) d_prog_2_method_3_21 rfl ?_
        have ez5 : z5 = (0 : Int32) := by rw [← hz5]; simp only [c5, c14, ↓reduceIte, if_true, if_false]
        rw [ez5] at jk
        exact jk T10 Y10
      · have j14 : lf.toInt < st.toInt := Int64.lt_iff_toInt_lt.mp c14
        refine Gl.iconst Y10 (v := (1 : Int32)) (by decide) d_prog_2_method_3_17 rfl ?_
        refine Gl.goto Y10 d_prog_2_method_3_18 (by decide) rfl ?_
        have ez5 : z5 = (1 : Int32) := by rw [← hz5]; simp only [c5, c14, ↓reduceIte, if_true, if_false]
        rw [ez5] at jk
        exact jk T10 Y10
  refine Gl.putFN Y5j (tw_17 hw) Via.refl F2 E (Or.inl (tw_18 hw)) (tw_2 hw) ga (ty := .boolean) (by decide) (v' := (.int z5)) (own_nZ bz5) (own_fZ bz5) d_prog_2_method_3_22 rfl (fun T22 h22 Y22 W22 => ?_)
  have f1 : Fld Z h22 a "com/example/impatiens/impatiens/MatchBudget" "spent" "Z" (.int z5) := Fld.same W22 F2
  have K22 : Keep h0 h22 [a] := (Keep.refl h0 [a]).wr W22 (Or.inl (List.mem_of_getElem? (i := 0) rfl))
  refine Gl.aloadN Y22 rfl rfl d_prog_2_method_3_25 rfl ?_
  refine Gl.getF Y22 (host := "") (Or.inl (tw_17 hw)) Via.refl f1 d_prog_2_method_3_26 rfl (fun T26 Y26 => ?_)
  refine Gl.ifne Y26 d_prog_2_method_3_29 (by decide) rfl rfl (fun c29 => ?_) (fun c29 => ?_)
  · have j29 : ¬ (z5.toInt = 0) := fun q => c29 (Int32.toInt_inj.mp q)
    refine Gl.aloadN Y26 rfl rfl d_prog_2_method_3_42 rfl ?_
    refine Gl.getF Y26 (host := "") (Or.inl (tw_17 hw)) Via.refl f1 d_prog_2_method_3_43 rfl (fun T43 Y43 => ?_)
    refine Gl.ifne Y43 d_prog_2_method_3_46 (by decide) rfl rfl (fun c46 => ?_) (fun c46 => ?_)
    rotate_left
    · exact absurd c46 c29
    have j46 : ¬ (z5.toInt = 0) := fun q => c46 (Int32.toInt_inj.mp q)
    refine Gl.iconst Y43 (v := (0 : Int32)) (by decide) d_prog_2_method_3_53 rfl ?_
    have nl := rng64 lf
    have nt := rng64 st
    have f2 : Exa Z h22 a "com/example/impatiens/impatiens/MatchBudget" := (Exa.wr W22 E)
    have f3 : Fld Z h22 a "com/example/impatiens/impatiens/MatchBudget" "left" "J" (.long lf) := (Fld.other W22 F1 (Or.inr (slot_ne (Or.inl (tw_11 hw)) (Or.inl (tw_18 hw)) (by decide) (t := .long) (t' := .boolean) (by decide) (by decide))))
    exact Gl.retZ Y43 (by decide) (by decide) (x' := (0 : Int32)) (by decide) d_prog_2_method_3_54 ⟨z5, lf, (0 : Int32), rfl, ⟨(by have q0 : (0 : Int32).toInt = 0 := rfl; have q1 : (1 : Int32).toInt = 1 := rfl; omega), bz5, (by decide)⟩, K22, f2, (by first | exact f3 | (subst_vars; exact f3) | (rw [PF]; exact f3)), (by first | exact f1 | (subst_vars; exact f1) | (rw [PF]; exact f1))⟩
  · have j29 : z5.toInt = 0 := congrArg Int32.toInt c29
    refine Gl.aloadN Y26 rfl rfl d_prog_2_method_3_32 rfl ?_
    refine Gl.dup Y26 rfl d_prog_2_method_3_33 rfl ?_
    have f4 : Fld Z h22 a "com/example/impatiens/impatiens/MatchBudget" "left" "J" (.long lf) := (Fld.other W22 F1 (Or.inr (slot_ne (Or.inl (tw_11 hw)) (Or.inl (tw_18 hw)) (by decide) (t := .long) (t' := .boolean) (by decide) (by decide))))
    refine Gl.getF Y26 (host := "") (Or.inl (tw_10 hw)) Via.refl f4 d_prog_2_method_3_34 rfl (fun T34 Y34 => ?_)
    refine Gl.lloadN Y34 rfl d_prog_2_method_3_37 rfl ?_
    obtain ⟨v38, hv38⟩ : ∃ z : Int64, lf - st = z := ⟨_, rfl⟩
    have mv38 : (v38.toInt - (lf.toInt - st.toInt)) % 18446744073709551616 = 0 := by have q := c_lsub lf st; rw [hv38] at q; exact q
    have nv38 := rng64 v38
    refine Gl.lsub Y34 hv38 d_prog_2_method_3_38 rfl ?_
    have f5 : Exa Z h22 a "com/example/impatiens/impatiens/MatchBudget" := (Exa.wr W22 E)
    refine Gl.putF Y34 (host := "") (Or.inl (tw_10 hw)) Via.refl f4 f5 (Or.inl (tw_11 hw)) (tw_2 hw) ga (ty := .long) (by decide) rfl rfl d_prog_2_method_3_39 rfl (fun T39 h39 Y39 W39 => ?_)
    have f6 : Fld Z h39 a "com/example/impatiens/impatiens/MatchBudget" "left" "J" (.long v38) := Fld.same W39 f4
    have K39 : Keep h0 h39 [a] := K22.wr W39 (Or.inl (List.mem_of_getElem? (i := 0) rfl))
    refine Gl.aloadN Y39 rfl rfl d_prog_2_method_3_42 rfl ?_
    have f7 : Fld Z h39 a "com/example/impatiens/impatiens/MatchBudget" "spent" "Z" (.int z5) := (Fld.other W39 f1 (Or.inr (slot_ne (Or.inl (tw_18 hw)) (Or.inl (tw_11 hw)) (by decide) (t := .boolean) (t' := .long) (by decide) (by decide))))
    refine Gl.getF Y39 (host := "") (Or.inl (tw_17 hw)) Via.refl f7 d_prog_2_method_3_43 rfl (fun T43 Y43 => ?_)
    refine Gl.ifne Y43 d_prog_2_method_3_46 (by decide) rfl rfl (fun c46 => ?_) (fun c46 => ?_)
    · exact absurd c29 c46
    have j46 : z5.toInt = 0 := congrArg Int32.toInt c46
    refine Gl.iconst Y43 (v := (1 : Int32)) (by decide) d_prog_2_method_3_49 rfl ?_
    refine Gl.goto Y43 d_prog_2_method_3_50 (by decide) rfl ?_
    have nl := rng64 lf
    have nt := rng64 st
    have f8 : Exa Z h39 a "com/example/impatiens/impatiens/MatchBudget" := (Exa.wr W39 f5)
    exact Gl.retZ Y43 (by decide) (by decide) (x' := (1 : Int32)) (by decide) d_prog_2_method_3_54 ⟨z5, v38, (1 : Int32), rfl, ⟨(by have q0 : (0 : Int32).toInt = 0 := rfl; have q1 : (1 : Int32).toInt = 1 := rfl; omega), bz5, (by decide)⟩, K39, f8, (by first | exact f6 | (subst_vars; exact f6) | (rw [PF]; exact f6)), (by first | exact f7 | (subst_vars; exact f7) | (rw [PF]; exact f7))⟩
theorem d_prog_2_method_4_0 : decode prog_2_method_4_code 0 = .ok (.aload_n 0, 1) := by decide +kernel
theorem d_prog_2_method_4_1 : decode prog_2_method_4_code 1 = .ok (.getfield 20, 3) := by decide +kernel
theorem d_prog_2_method_4_4 : decode prog_2_method_4_code 4 = .ok (.ireturn, 1) := by decide +kernel
def R2 : Room := { frames := 0, cells := 0, slots := 0, locals := 0 }
def Q2 (Z : State) (a : Addr) (sp : Int32) (h0 : Heap) (v : Option Value) (h : Heap) : Prop := ∃ r : Int32, v = some (.int r) ∧ (r.toInt = sp.toInt ∧ (r = 0 ∨ r = 1)) ∧ h0 = h
theorem ef2 (a : Addr) (m : MethodId) : entryFrame m #[(.ref a)] 1 = mkF m 0 #[.val (.ref a)] [] := by first | (simp [entryFrame, mkF, argsToLocals, Value.category]; done) | rfl
set_option maxRecDepth 65536 in
set_option maxHeartbeats 40000000 in
theorem rm2 (l : Launch) (Z : State) (a0 : Array Value) (hw : ∀ d ∈ tables_1, d.before a0 Z = true) (ws : List Jvm.Cond) (a : Addr) (sp : Int32) (h0 : Heap) (n0 : Nat) (Z0 : n0 ≤ h0.size) (F2 : Fld Z h0 a "com/example/impatiens/impatiens/MatchBudget" "spent" "Z" (.int sp)) (hb : sp = 0 ∨ sp = 1) : OMet l Z ws (⟨"com/example/impatiens/impatiens/MatchBudget", "isSpent", "()Z"⟩ : MethodName) prog_2_method_4_code 1 (some .boolean) R2 #[(.ref a)] h0 n0 (Q2 Z a sp h0) := by
  refine OMet.of (plainFor_of_name pn_0) (ef2 a) Z0 ?_
  intro p e s m below meth c T0 Y0 hnm
  have Y0 : Sd Z "com/example/impatiens/impatiens/MatchBudget" prog_2_method_4_code 1 (some .boolean) n0 p l e R2 s m #[(.ref a)] below meth c T0 h0 0 0 := Y0
  refine Gl.aloadN Y0 rfl rfl d_prog_2_method_4_0 rfl ?_
  refine Gl.getF Y0 (host := "") (Or.inl (tw_17 hw)) Via.refl F2 d_prog_2_method_4_1 rfl (fun T1 Y1 => ?_)
  exact Gl.retZ Y1 (by decide) (by decide) (x' := sp) (own_narZ hb) d_prog_2_method_4_4 ⟨sp, rfl, ⟨rfl, hb⟩, rfl⟩
theorem tw_24 {a0 : Array Value} {Z : State} (hw : ∀ d ∈ tables_1, d.before a0 Z = true) : (Jvm.Cond.constantLong "com/example/impatiens/impatiens/MatchBudgetSpendPinLaw" (9 : Nat) (2305843009213693951 : Int64)).before a0 Z = true := hw _ (List.mem_of_getElem? (i := 24) rfl)
theorem tw_25 {a0 : Array Value} {Z : State} (hw : ∀ d ∈ tables_1, d.before a0 Z = true) : (Jvm.Cond.constantLong "com/example/impatiens/impatiens/MatchBudgetSpendPinLaw" (13 : Nat) (9223372036854775807 : Int64)).before a0 Z = true := hw _ (List.mem_of_getElem? (i := 25) rfl)
theorem tw_1 {a0 : Array Value} {Z : State} (hw : ∀ d ∈ tables_1, d.before a0 Z = true) : (Jvm.Cond.classLink "com/example/impatiens/impatiens/MatchBudgetSpendPinLaw" (15 : Nat) "com/example/impatiens/impatiens/MatchBudget").before a0 Z = true := hw _ (List.mem_of_getElem? (i := 1) rfl)
theorem tw_3 {a0 : Array Value} {Z : State} (hw : ∀ d ∈ tables_1, d.before a0 Z = true) : (Jvm.Cond.initialized "com/example/impatiens/impatiens/MatchBudget").before a0 Z = true := hw _ (List.mem_of_getElem? (i := 3) rfl)
theorem tw_4 {a0 : Array Value} {Z : State} (hw : ∀ d ∈ tables_1, d.before a0 Z = true) : (Jvm.Cond.methodLink "com/example/impatiens/impatiens/MatchBudgetSpendPinLaw" (17 : Nat) ({ cls := "com/example/impatiens/impatiens/MatchBudget", name := "<init>", desc := "(J)V" } : Jvm.MethodName)).before a0 Z = true := hw _ (List.mem_of_getElem? (i := 4) rfl)
theorem pd_0 : parseMethodDescriptor "(J)V" = some ⟨[.long], none⟩ := by decide +kernel
theorem tw_6 {a0 : Array Value} {Z : State} (hw : ∀ d ∈ tables_1, d.before a0 Z = true) : (Jvm.Cond.code ({ cls := "com/example/impatiens/impatiens/MatchBudget", name := "<init>", desc := "(J)V" } : Jvm.MethodName) prog_2_method_1_code (3 : Nat) (Option.none : Option Jvm.ClassFile.FieldType)).before a0 Z = true := hw _ (List.mem_of_getElem? (i := 6) rfl)
theorem tw_5 {a0 : Array Value} {Z : State} (hw : ∀ d ∈ tables_1, d.before a0 Z = true) : (Jvm.Cond.instanceMethod ({ cls := "com/example/impatiens/impatiens/MatchBudget", name := "<init>", desc := "(J)V" } : Jvm.MethodName)).before a0 Z = true := hw _ (List.mem_of_getElem? (i := 5) rfl)
theorem tw_12 {a0 : Array Value} {Z : State} (hw : ∀ d ∈ tables_1, d.before a0 Z = true) : (Jvm.Cond.methodLink "com/example/impatiens/impatiens/MatchBudgetSpendPinLaw" (20 : Nat) ({ cls := "com/example/impatiens/impatiens/MatchBudget", name := "spend", desc := "(J)Z" } : Jvm.MethodName)).before a0 Z = true := hw _ (List.mem_of_getElem? (i := 12) rfl)
theorem pd_1 : parseMethodDescriptor "(J)Z" = some ⟨[.long], some .boolean⟩ := by decide +kernel
theorem tw_16 {a0 : Array Value} {Z : State} (hw : ∀ d ∈ tables_1, d.before a0 Z = true) : (Jvm.Cond.code ({ cls := "com/example/impatiens/impatiens/MatchBudget", name := "spend", desc := "(J)Z" } : Jvm.MethodName) prog_2_method_3_code (3 : Nat) (Option.some Jvm.ClassFile.FieldType.boolean)).before a0 Z = true := hw _ (List.mem_of_getElem? (i := 16) rfl)
theorem tw_13 {a0 : Array Value} {Z : State} (hw : ∀ d ∈ tables_1, d.before a0 Z = true) : (Jvm.Cond.declares ({ cls := "com/example/impatiens/impatiens/MatchBudget", name := "spend", desc := "(J)Z" } : Jvm.MethodName)).before a0 Z = true := hw _ (List.mem_of_getElem? (i := 13) rfl)
theorem tw_15 {a0 : Array Value} {Z : State} (hw : ∀ d ∈ tables_1, d.before a0 Z = true) : (Jvm.Cond.selects "com/example/impatiens/impatiens/MatchBudget" ({ cls := "com/example/impatiens/impatiens/MatchBudget", name := "spend", desc := "(J)Z" } : Jvm.MethodName) ({ cls := "com/example/impatiens/impatiens/MatchBudget", name := "spend", desc := "(J)Z" } : Jvm.MethodName)).before a0 Z = true := hw _ (List.mem_of_getElem? (i := 15) rfl)
theorem tw_14 {a0 : Array Value} {Z : State} (hw : ∀ d ∈ tables_1, d.before a0 Z = true) : (Jvm.Cond.instanceMethod ({ cls := "com/example/impatiens/impatiens/MatchBudget", name := "spend", desc := "(J)Z" } : Jvm.MethodName)).before a0 Z = true := hw _ (List.mem_of_getElem? (i := 14) rfl)
theorem tw_19 {a0 : Array Value} {Z : State} (hw : ∀ d ∈ tables_1, d.before a0 Z = true) : (Jvm.Cond.methodLink "com/example/impatiens/impatiens/MatchBudgetSpendPinLaw" (24 : Nat) ({ cls := "com/example/impatiens/impatiens/MatchBudget", name := "isSpent", desc := "()Z" } : Jvm.MethodName)).before a0 Z = true := hw _ (List.mem_of_getElem? (i := 19) rfl)
theorem pd_2 : parseMethodDescriptor "()Z" = some ⟨[], some .boolean⟩ := by decide +kernel
theorem tw_23 {a0 : Array Value} {Z : State} (hw : ∀ d ∈ tables_1, d.before a0 Z = true) : (Jvm.Cond.code ({ cls := "com/example/impatiens/impatiens/MatchBudget", name := "isSpent", desc := "()Z" } : Jvm.MethodName) prog_2_method_4_code (1 : Nat) (Option.some Jvm.ClassFile.FieldType.boolean)).before a0 Z = true := hw _ (List.mem_of_getElem? (i := 23) rfl)
theorem tw_20 {a0 : Array Value} {Z : State} (hw : ∀ d ∈ tables_1, d.before a0 Z = true) : (Jvm.Cond.declares ({ cls := "com/example/impatiens/impatiens/MatchBudget", name := "isSpent", desc := "()Z" } : Jvm.MethodName)).before a0 Z = true := hw _ (List.mem_of_getElem? (i := 20) rfl)
theorem tw_22 {a0 : Array Value} {Z : State} (hw : ∀ d ∈ tables_1, d.before a0 Z = true) : (Jvm.Cond.selects "com/example/impatiens/impatiens/MatchBudget" ({ cls := "com/example/impatiens/impatiens/MatchBudget", name := "isSpent", desc := "()Z" } : Jvm.MethodName) ({ cls := "com/example/impatiens/impatiens/MatchBudget", name := "isSpent", desc := "()Z" } : Jvm.MethodName)).before a0 Z = true := hw _ (List.mem_of_getElem? (i := 22) rfl)
theorem tw_21 {a0 : Array Value} {Z : State} (hw : ∀ d ∈ tables_1, d.before a0 Z = true) : (Jvm.Cond.instanceMethod ({ cls := "com/example/impatiens/impatiens/MatchBudget", name := "isSpent", desc := "()Z" } : Jvm.MethodName)).before a0 Z = true := hw _ (List.mem_of_getElem? (i := 21) rfl)
theorem tw_0 {a0 : Array Value} {Z : State} (hw : ∀ d ∈ tables_1, d.before a0 Z = true) : (Jvm.Cond.constantLong "com/example/impatiens/impatiens/MatchBudgetSpendPinLaw" (7 : Nat) (15 : Int64)).before a0 Z = true := hw _ (List.mem_of_getElem? (i := 0) rfl)
def QL (Z : State) (ni : Int64) (s1 : Int64) (s2 : Int64) (s3 : Int64) (md : Int32) (h0 : Heap) (v : Option Value) (h : Heap) : Prop := v = some (.int 1)
theorem efL (ni : Int64) (s1 : Int64) (s2 : Int64) (s3 : Int64) (md : Int32) (m : MethodId) : entryFrame m #[(.long ni), (.long s1), (.long s2), (.long s3), (.int md)] maxLocals = mkF m 0 #[.val (.long ni), .second, .val (.long s1), .second, .val (.long s2), .second, .val (.long s3), .second, .val (.int md), .unset, .unset, .unset, .unset, .unset, .unset, .unset, .unset, .unset, .unset, .unset, .unset, .unset, .unset, .unset, .unset, .unset, .unset, .unset, .unset, .unset, .unset, .unset, .unset, .unset, .unset] [] := by first | (simp [entryFrame, mkF, argsToLocals, Value.category, maxLocals]; done) | rfl
theorem pn_1 : plainName "com/example/impatiens/impatiens/MatchBudgetSpendPinLaw" = true := by first | (simp [plainName, overriddenIn]; done) | decide +kernel
set_option maxRecDepth 65536 in
set_option maxHeartbeats 40000000 in
theorem rmL (l : Launch) (Z : State) (a0 : Array Value) (hw : ∀ d ∈ tables_1, d.before a0 Z = true) (ws : List Jvm.Cond) (ni : Int64) (s1 : Int64) (s2 : Int64) (s3 : Int64) (md : Int32) (h0 : Heap) (n0 : Nat) (Z0 : n0 ≤ h0.size) : OMet l Z ws x code maxLocals ret room_1 #[(.long ni), (.long s1), (.long s2), (.long s3), (.int md)] h0 n0 (QL Z ni s1 s2 s3 md h0) := by
  refine OMet.of (plainFor_of_name pn_1) (efL ni s1 s2 s3 md) Z0 ?_
  intro p e s m below meth c T0 Y0 hnm
  have Y0 : Sd Z "com/example/impatiens/impatiens/MatchBudgetSpendPinLaw" code maxLocals (some .boolean) n0 p l e room_1 s m #[(.long ni), (.long s1), (.long s2), (.long s3), (.int md)] below meth c T0 h0 0 0 := Y0
  have nni := rng64 ni
  have ns1 := rng64 s1
  have ns2 := rng64 s2
  have ns3 := rng64 s3
  have nmd := rng32 md
  refine Gl.iload Y0 rfl at_0 rfl ?_
  refine Gl.iconst Y0 (v := (1 : Int32)) (by decide) at_2 rfl ?_
  obtain ⟨v3, hv3⟩ : ∃ z : Int32, md &&& (1 : Int32) = z := ⟨_, rfl⟩
  have iv3 : v3.toInt = md.toInt % 2 := by have q := c_mask md (1 : Int32) 1 (by decide) (by decide); rw [hv3] at q; exact q
  refine Gl.iand Y0 hv3 at_3 rfl ?_
  obtain ⟨z4, hz4⟩ : ∃ z : Int32, (if v3 = (0 : Int32) then (0 : Int32) else (1 : Int32)) = z := ⟨_, rfl⟩
  have iz4 : (v3.toInt = 0 ∧ (z4.toInt = 0)) ∨ (¬ (v3.toInt = 0) ∧ (z4.toInt = 1)) := own_ite (c := v3 = (0 : Int32)) (fun q0 => ⟨congrArg Int32.toInt q0, congrArg Int32.toInt (show z4 = (0 : Int32) from by rw [← hz4]; simp only [q0, ↓reduceIte, if_true, if_false, ite_self])⟩) (fun q0 => ⟨fun q => q0 (Int32.toInt_inj.mp q), congrArg Int32.toInt (show z4 = (1 : Int32) from by rw [← hz4]; simp only [q0, ↓reduceIte, if_true, if_false, ite_self])⟩)
  have bz4 : z4 = 0 ∨ z4 = 1 := by rw [← hz4]; (repeat' split) <;> first | (simp; done) | assumption
  refine own_cut (B := ∀ T', Sd Z "com/example/impatiens/impatiens/MatchBudgetSpendPinLaw" code maxLocals (some .boolean) n0 p l e room_1 s m #[(.long ni), (.long s1), (.long s2), (.long s3), (.int md)] below meth c T' h0 0 0 → Gl p e below (Pst s n0 room_1.cells room_1.slots (QL Z ni s1 s2 s3 md h0)) (T'.setTop (mkF m 12 #[.val (.long ni), .second, .val (.long s1), .second, .val (.long s2), .second, .val (.long s3), .second, .val (.int md), .unset, .unset, .unset, .unset, .unset, .unset, .unset, .unset, .unset, .unset, .unset, .unset, .unset, .unset, .unset, .unset, .unset, .unset, .unset, .unset, .unset, .unset, .unset, .unset, .unset, .unset] [(.int z4)]))) (fun jk => ?_) (fun T4j Y4j => ?_)
  · refine Gl.ifeq Y0 at_4 (by decide) rfl rfl (fun c4 => ?_) (fun c4 => ?_)
    · have j4 : v3.toInt = 0 := congrArg Int32.toInt c4
      refine Gl.iconst Y0 (v := (0 : Int32)) (by decide) at_11 rfl ?_
      have ez4 : z4 = (0 : Int32) := by rw [← hz4]; simp only [c4, ↓reduceIte, if_true, if_false]
      rw [ez4] at jk
      exact jk T0 Y0
    · have j4 : ¬ (v3.toInt = 0) := fun q => c4 (Int32.toInt_inj.mp q)
      refine Gl.iconst Y0 (v := (1 : Int32)) (by decide) at_7 rfl ?_
      refine Gl.goto Y0 at_8 (by decide) rfl ?_
      have ez4 : z4 = (1 : Int32) := by rw [← hz4]; simp only [c4, ↓reduceIte, if_true, if_false]
      rw [ez4] at jk
      exact jk T0 Y0
  refine Gl.istore Y4j (L' := #[.val (.long ni), .second, .val (.long s1), .second, .val (.long s2), .second, .val (.long s3), .second, .val (.int md), .val (.int z4), .unset, .unset, .unset, .unset, .unset, .unset, .unset, .unset, .unset, .unset, .unset, .unset, .unset, .unset, .unset, .unset, .unset, .unset, .unset, .unset, .unset, .unset, .unset, .unset, .unset]) rfl at_12 rfl ?_
  refine Gl.iload Y4j rfl at_14 rfl ?_
  refine Gl.ifeq Y4j at_16 (by decide) rfl rfl (fun c16 => ?_) (fun c16 => ?_)
  · have j16 : z4.toInt = 0 := congrArg Int32.toInt c16
    refine Gl.ldcJ Y4j (tw_24 hw) at_25 rfl ?_
    refine Gl.lstore Y4j (L' := #[.val (.long ni), .second, .val (.long s1), .second, .val (.long s2), .second, .val (.long s3), .second, .val (.int md), .val (.int z4), .val (.long (2305843009213693951 : Int64)), .second, .unset, .unset, .unset, .unset, .unset, .unset, .unset, .unset, .unset, .unset, .unset, .unset, .unset, .unset, .unset, .unset, .unset, .unset, .unset, .unset, .unset, .unset, .unset]) rfl at_28 rfl ?_
    refine Gl.iload Y4j rfl at_30 rfl ?_
    refine Gl.ifeq Y4j at_32 (by decide) rfl rfl (fun c32 => ?_) (fun c32 => ?_)
    rotate_left
    · exact absurd c16 c32
    have j32 : z4.toInt = 0 := congrArg Int32.toInt c32
    refine Gl.lloadN Y4j rfl at_43 rfl ?_
    refine Gl.ldcJ Y4j (tw_25 hw) at_44 rfl ?_
    obtain ⟨v47, hv47⟩ : ∃ z : Int64, ni &&& (9223372036854775807 : Int64) = z := ⟨_, rfl⟩
    have iv47 : v47.toInt = ni.toInt % 9223372036854775808 := by have q := c_maskL ni (9223372036854775807 : Int64) 63 (by decide) (by decide); rw [hv47] at q; exact q
    refine Gl.land Y4j hv47 at_47 rfl ?_
    refine Gl.lstore Y4j (L' := #[.val (.long ni), .second, .val (.long s1), .second, .val (.long s2), .second, .val (.long s3), .second, .val (.int md), .val (.int z4), .val (.long (2305843009213693951 : Int64)), .second, .val (.long v47), .second, .unset, .unset, .unset, .unset, .unset, .unset, .unset, .unset, .unset, .unset, .unset, .unset, .unset, .unset, .unset, .unset, .unset, .unset, .unset, .unset, .unset]) rfl at_48 rfl ?_
    refine Gl.lloadN Y4j rfl at_50 rfl ?_
    refine Gl.lload Y4j rfl at_51 rfl ?_
    obtain ⟨v53, hv53⟩ : ∃ z : Int64, s1 &&& (2305843009213693951 : Int64) = z := ⟨_, rfl⟩
    have iv53 : v53.toInt = s1.toInt % 2305843009213693952 := by have q := c_maskL s1 (2305843009213693951 : Int64) 61 (by decide) (by decide); rw [hv53] at q; exact q
    refine Gl.land Y4j hv53 at_53 rfl ?_
    refine Gl.lstore Y4j (L' := #[.val (.long ni), .second, .val (.long s1), .second, .val (.long s2), .second, .val (.long s3), .second, .val (.int md), .val (.int z4), .val (.long (2305843009213693951 : Int64)), .second, .val (.long v47), .second, .val (.long v53), .second, .unset, .unset, .unset, .unset, .unset, .unset, .unset, .unset, .unset, .unset, .unset, .unset, .unset, .unset, .unset, .unset, .unset, .unset, .unset]) rfl at_54 rfl ?_
    refine Gl.lload Y4j rfl at_56 rfl ?_
    refine Gl.lload Y4j rfl at_58 rfl ?_
    obtain ⟨v60, hv60⟩ : ∃ z : Int64, s2 &&& (2305843009213693951 : Int64) = z := ⟨_, rfl⟩
    have iv60 : v60.toInt = s2.toInt % 2305843009213693952 := by have q := c_maskL s2 (2305843009213693951 : Int64) 61 (by decide) (by decide); rw [hv60] at q; exact q
    refine Gl.land Y4j hv60 at_60 rfl ?_
    refine Gl.lstore Y4j (L' := #[.val (.long ni), .second, .val (.long s1), .second, .val (.long s2), .second, .val (.long s3), .second, .val (.int md), .val (.int z4), .val (.long (2305843009213693951 : Int64)), .second, .val (.long v47), .second, .val (.long v53), .second, .val (.long v60), .second, .unset, .unset, .unset, .unset, .unset, .unset, .unset, .unset, .unset, .unset, .unset, .unset, .unset, .unset, .unset, .unset, .unset]) rfl at_61 rfl ?_
    refine Gl.lload Y4j rfl at_63 rfl ?_
    refine Gl.lload Y4j rfl at_65 rfl ?_
    obtain ⟨v67, hv67⟩ : ∃ z : Int64, s3 &&& (2305843009213693951 : Int64) = z := ⟨_, rfl⟩
    have iv67 : v67.toInt = s3.toInt % 2305843009213693952 := by have q := c_maskL s3 (2305843009213693951 : Int64) 61 (by decide) (by decide); rw [hv67] at q; exact q
    refine Gl.land Y4j hv67 at_67 rfl ?_
    refine Gl.lstore Y4j (L' := #[.val (.long ni), .second, .val (.long s1), .second, .val (.long s2), .second, .val (.long s3), .second, .val (.int md), .val (.int z4), .val (.long (2305843009213693951 : Int64)), .second, .val (.long v47), .second, .val (.long v53), .second, .val (.long v60), .second, .val (.long v67), .second, .unset, .unset, .unset, .unset, .unset, .unset, .unset, .unset, .unset, .unset, .unset, .unset, .unset, .unset, .unset]) rfl at_68 rfl ?_
    refine Gl.newO Y4j (tw_1 hw) (tw_2 hw) (tw_3 hw) (by decide) (by decide) at_70 rfl (fun T70 h70 b70 Y70 E70 g70 sb70 X70 D70 => ?_)
    have f1 : Fld Z h70 b70 "com/example/impatiens/impatiens/MatchBudget" "left" "J" (.long (0 : Int64)) := D70 (Or.inl (tw_11 hw)) (ty := .long) (by decide)
    have f2 : Fld Z h70 b70 "com/example/impatiens/impatiens/MatchBudget" "spent" "Z" (.int (0 : Int32)) := D70 (Or.inl (tw_18 hw)) (ty := .boolean) (by decide)
    show Gl p e below _ (T70.setTop (mkF m 73 #[.val (.long ni), .second, .val (.long s1), .second, .val (.long s2), .second, .val (.long s3), .second, .val (.int md), .val (.int z4), .val (.long (2305843009213693951 : Int64)), .second, .val (.long v47), .second, .val (.long v53), .second, .val (.long v60), .second, .val (.long v67), .second, .unset, .unset, .unset, .unset, .unset, .unset, .unset, .unset, .unset, .unset, .unset, .unset, .unset, .unset, .unset] [(.ref b70)]))
    refine Gl.dup Y70 rfl at_73 rfl ?_
    refine Gl.lload Y70 rfl at_74 rfl ?_
    refine Gl.callN Y70 rfl (tw_4 hw) (tw_5 hw) (tw_3 hw) (tw_6 hw) (by decide) (rm0 l Z a0 hw [] b70 v47 h70 n0 Y70.sz X70 f1 f2 sb70) (a := b70) (argsL := [(.long v47)]) (rest := [(.ref b70)]) rfl rfl (lenOf pd_0 rfl) rfl (by decide) (Nat.le_of_ble_eq_true rfl) (by decide) (by decide) at_76 rfl (fun v76 T76 h76 Y76 q76 => ?_)
    obtain ⟨rfl, K76, f76_0, f76_1, f76_2⟩ := q76
    show Gl p e below _ (T76.setTop (mkF m 79 #[.val (.long ni), .second, .val (.long s1), .second, .val (.long s2), .second, .val (.long s3), .second, .val (.int md), .val (.int z4), .val (.long (2305843009213693951 : Int64)), .second, .val (.long v47), .second, .val (.long v53), .second, .val (.long v60), .second, .val (.long v67), .second, .unset, .unset, .unset, .unset, .unset, .unset, .unset, .unset, .unset, .unset, .unset, .unset, .unset, .unset, .unset] [(.ref b70)]))
    refine Gl.astore Y76 rfl (L' := #[.val (.long ni), .second, .val (.long s1), .second, .val (.long s2), .second, .val (.long s3), .second, .val (.int md), .val (.int z4), .val (.long (2305843009213693951 : Int64)), .second, .val (.long v47), .second, .val (.long v53), .second, .val (.long v60), .second, .val (.long v67), .second, .val (.ref b70), .unset, .unset, .unset, .unset, .unset, .unset, .unset, .unset, .unset, .unset, .unset, .unset, .unset, .unset]) rfl at_79 rfl ?_
    refine Gl.aload Y76 rfl rfl at_81 rfl ?_
    refine Gl.lload Y76 rfl at_83 rfl ?_
    refine Gl.callV Y76 (tw_12 hw) (tw_13 hw) (tw_15 hw) (tw_15 hw) (tw_14 hw) (tw_3 hw) (tw_16 hw) (by decide) f76_0 (rm1 l Z a0 hw [] b70 v53 v47 (0 : Int32) h76 n0 Y76.sz f76_0 f76_1 f76_2 sb70 (by first | assumption | decide | omega | (simp; done)) (by first | assumption | decide | omega | (simp; done))) (a := b70) (argsL := [(.long v53)]) (rest := []) rfl rfl (lenOf pd_1 rfl) rfl (by decide) (Nat.le_of_ble_eq_true rfl) (by decide) (by decide) at_85 rfl (fun v85 T85 h85 Y85 q85 => ?_)
    obtain ⟨sq85, lq85, r85, rfl, p85, K85, f85_0, f85_1, f85_2⟩ := q85
    have kc3 : (0 : Int32).toInt = 0 := by decide
    have br85 : r85 = 0 ∨ r85 = 1 := p85.2.2
    show Gl p e below _ (T85.setTop (mkF m 88 #[.val (.long ni), .second, .val (.long s1), .second, .val (.long s2), .second, .val (.long s3), .second, .val (.int md), .val (.int z4), .val (.long (2305843009213693951 : Int64)), .second, .val (.long v47), .second, .val (.long v53), .second, .val (.long v60), .second, .val (.long v67), .second, .val (.ref b70), .unset, .unset, .unset, .unset, .unset, .unset, .unset, .unset, .unset, .unset, .unset, .unset, .unset, .unset] [(.int r85)]))
    refine Gl.istore Y85 (L' := #[.val (.long ni), .second, .val (.long s1), .second, .val (.long s2), .second, .val (.long s3), .second, .val (.int md), .val (.int z4), .val (.long (2305843009213693951 : Int64)), .second, .val (.long v47), .second, .val (.long v53), .second, .val (.long v60), .second, .val (.long v67), .second, .val (.ref b70), .val (.int r85), .unset, .unset, .unset, .unset, .unset, .unset, .unset, .unset, .unset, .unset, .unset, .unset, .unset]) rfl at_88 rfl ?_
    refine Gl.aload Y85 rfl rfl at_90 rfl ?_
    refine Gl.callV Y85 (tw_19 hw) (tw_20 hw) (tw_22 hw) (tw_22 hw) (tw_21 hw) (tw_3 hw) (tw_23 hw) (by decide) f85_0 (rm2 l Z a0 hw [] b70 sq85 h85 n0 Y85.sz f85_2 (p85.2.1)) (a := b70) (argsL := []) (rest := []) rfl rfl (lenOf pd_2 rfl) rfl (by decide) (Nat.le_of_ble_eq_true rfl) (by decide) (by decide) at_92 rfl (fun v92 T92 h92 Y92 q92 => ?_)
    obtain ⟨r92, rfl, p92, rfl⟩ := q92
    have br92 : r92 = 0 ∨ r92 = 1 := p92.2
    show Gl p e below _ (T92.setTop (mkF m 95 #[.val (.long ni), .second, .val (.long s1), .second, .val (.long s2), .second, .val (.long s3), .second, .val (.int md), .val (.int z4), .val (.long (2305843009213693951 : Int64)), .second, .val (.long v47), .second, .val (.long v53), .second, .val (.long v60), .second, .val (.long v67), .second, .val (.ref b70), .val (.int r85), .unset, .unset, .unset, .unset, .unset, .unset, .unset, .unset, .unset, .unset, .unset, .unset, .unset] [(.int r92)]))
    refine Gl.istore Y92 (L' := #[.val (.long ni), .second, .val (.long s1), .second, .val (.long s2), .second, .val (.long s3), .second, .val (.int md), .val (.int z4), .val (.long (2305843009213693951 : Int64)), .second, .val (.long v47), .second, .val (.long v53), .second, .val (.long v60), .second, .val (.long v67), .second, .val (.ref b70), .val (.int r85), .val (.int r92), .unset, .unset, .unset, .unset, .unset, .unset, .unset, .unset, .unset, .unset, .unset, .unset]) rfl at_95 rfl ?_
    refine Gl.aload Y92 rfl rfl at_97 rfl ?_
    refine Gl.lload Y92 rfl at_99 rfl ?_
    refine Gl.callV Y92 (tw_12 hw) (tw_13 hw) (tw_15 hw) (tw_15 hw) (tw_14 hw) (tw_3 hw) (tw_16 hw) (by decide) f85_0 (rm1 l Z a0 hw [] b70 v60 lq85 sq85 h85 n0 Y92.sz f85_0 f85_1 f85_2 sb70 (by first | assumption | decide | omega | (simp; done)) (by first | assumption | decide | omega | (simp; done))) (a := b70) (argsL := [(.long v60)]) (rest := []) rfl rfl (lenOf pd_1 rfl) rfl (by decide) (Nat.le_of_ble_eq_true rfl) (by decide) (by decide) at_101 rfl (fun v101 T101 h101 Y101 q101 => ?_)
    obtain ⟨sq101, lq101, r101, rfl, p101, K101, f101_0, f101_1, f101_2⟩ := q101
    have br101 : r101 = 0 ∨ r101 = 1 := p101.2.2
    show Gl p e below _ (T101.setTop (mkF m 104 #[.val (.long ni), .second, .val (.long s1), .second, .val (.long s2), .second, .val (.long s3), .second, .val (.int md), .val (.int z4), .val (.long (2305843009213693951 : Int64)), .second, .val (.long v47), .second, .val (.long v53), .second, .val (.long v60), .second, .val (.long v67), .second, .val (.ref b70), .val (.int r85), .val (.int r92), .unset, .unset, .unset, .unset, .unset, .unset, .unset, .unset, .unset, .unset, .unset, .unset] [(.int r101)]))
    refine Gl.istore Y101 (L' := #[.val (.long ni), .second, .val (.long s1), .second, .val (.long s2), .second, .val (.long s3), .second, .val (.int md), .val (.int z4), .val (.long (2305843009213693951 : Int64)), .second, .val (.long v47), .second, .val (.long v53), .second, .val (.long v60), .second, .val (.long v67), .second, .val (.ref b70), .val (.int r85), .val (.int r92), .val (.int r101), .unset, .unset, .unset, .unset, .unset, .unset, .unset, .unset, .unset, .unset, .unset]) rfl at_104 rfl ?_
    refine Gl.aload Y101 rfl rfl at_106 rfl ?_
    refine Gl.callV Y101 (tw_19 hw) (tw_20 hw) (tw_22 hw) (tw_22 hw) (tw_21 hw) (tw_3 hw) (tw_23 hw) (by decide) f101_0 (rm2 l Z a0 hw [] b70 sq101 h101 n0 Y101.sz f101_2 (p101.2.1)) (a := b70) (argsL := []) (rest := []) rfl rfl (lenOf pd_2 rfl) rfl (by decide) (Nat.le_of_ble_eq_true rfl) (by decide) (by decide) at_108 rfl (fun v108 T108 h108 Y108 q108 => ?_)
    obtain ⟨r108, rfl, p108, rfl⟩ := q108
    have br108 : r108 = 0 ∨ r108 = 1 := p108.2
    show Gl p e below _ (T108.setTop (mkF m 111 #[.val (.long ni), .second, .val (.long s1), .second, .val (.long s2), .second, .val (.long s3), .second, .val (.int md), .val (.int z4), .val (.long (2305843009213693951 : Int64)), .second, .val (.long v47), .second, .val (.long v53), .second, .val (.long v60), .second, .val (.long v67), .second, .val (.ref b70), .val (.int r85), .val (.int r92), .val (.int r101), .unset, .unset, .unset, .unset, .unset, .unset, .unset, .unset, .unset, .unset, .unset] [(.int r108)]))
    refine Gl.istore Y108 (L' := #[.val (.long ni), .second, .val (.long s1), .second, .val (.long s2), .second, .val (.long s3), .second, .val (.int md), .val (.int z4), .val (.long (2305843009213693951 : Int64)), .second, .val (.long v47), .second, .val (.long v53), .second, .val (.long v60), .second, .val (.long v67), .second, .val (.ref b70), .val (.int r85), .val (.int r92), .val (.int r101), .val (.int r108), .unset, .unset, .unset, .unset, .unset, .unset, .unset, .unset, .unset, .unset]) rfl at_111 rfl ?_
    refine Gl.aload Y108 rfl rfl at_113 rfl ?_
    refine Gl.lload Y108 rfl at_115 rfl ?_
    refine Gl.callV Y108 (tw_12 hw) (tw_13 hw) (tw_15 hw) (tw_15 hw) (tw_14 hw) (tw_3 hw) (tw_16 hw) (by decide) f101_0 (rm1 l Z a0 hw [] b70 v67 lq101 sq101 h101 n0 Y108.sz f101_0 f101_1 f101_2 sb70 (by first | assumption | decide | omega | (simp; done)) (by first | assumption | decide | omega | (simp; done))) (a := b70) (argsL := [(.long v67)]) (rest := []) rfl rfl (lenOf pd_1 rfl) rfl (by decide) (Nat.le_of_ble_eq_true rfl) (by decide) (by decide) at_117 rfl (fun v117 T117 h117 Y117 q117 => ?_)
    obtain ⟨sq117, lq117, r117, rfl, p117, K117, f117_0, f117_1, f117_2⟩ := q117
    have br117 : r117 = 0 ∨ r117 = 1 := p117.2.2
    show Gl p e below _ (T117.setTop (mkF m 120 #[.val (.long ni), .second, .val (.long s1), .second, .val (.long s2), .second, .val (.long s3), .second, .val (.int md), .val (.int z4), .val (.long (2305843009213693951 : Int64)), .second, .val (.long v47), .second, .val (.long v53), .second, .val (.long v60), .second, .val (.long v67), .second, .val (.ref b70), .val (.int r85), .val (.int r92), .val (.int r101), .val (.int r108), .unset, .unset, .unset, .unset, .unset, .unset, .unset, .unset, .unset, .unset] [(.int r117)]))
    refine Gl.istore Y117 (L' := #[.val (.long ni), .second, .val (.long s1), .second, .val (.long s2), .second, .val (.long s3), .second, .val (.int md), .val (.int z4), .val (.long (2305843009213693951 : Int64)), .second, .val (.long v47), .second, .val (.long v53), .second, .val (.long v60), .second, .val (.long v67), .second, .val (.ref b70), .val (.int r85), .val (.int r92), .val (.int r101), .val (.int r108), .val (.int r117), .unset, .unset, .unset, .unset, .unset, .unset, .unset, .unset, .unset]) rfl at_120 rfl ?_
    refine Gl.aload Y117 rfl rfl at_122 rfl ?_
    refine Gl.callV Y117 (tw_19 hw) (tw_20 hw) (tw_22 hw) (tw_22 hw) (tw_21 hw) (tw_3 hw) (tw_23 hw) (by decide) f117_0 (rm2 l Z a0 hw [] b70 sq117 h117 n0 Y117.sz f117_2 (p117.2.1)) (a := b70) (argsL := []) (rest := []) rfl rfl (lenOf pd_2 rfl) rfl (by decide) (Nat.le_of_ble_eq_true rfl) (by decide) (by decide) at_124 rfl (fun v124 T124 h124 Y124 q124 => ?_)
    obtain ⟨r124, rfl, p124, rfl⟩ := q124
    have br124 : r124 = 0 ∨ r124 = 1 := p124.2
    show Gl p e below _ (T124.setTop (mkF m 127 #[.val (.long ni), .second, .val (.long s1), .second, .val (.long s2), .second, .val (.long s3), .second, .val (.int md), .val (.int z4), .val (.long (2305843009213693951 : Int64)), .second, .val (.long v47), .second, .val (.long v53), .second, .val (.long v60), .second, .val (.long v67), .second, .val (.ref b70), .val (.int r85), .val (.int r92), .val (.int r101), .val (.int r108), .val (.int r117), .unset, .unset, .unset, .unset, .unset, .unset, .unset, .unset, .unset] [(.int r124)]))
    refine Gl.istore Y124 (L' := #[.val (.long ni), .second, .val (.long s1), .second, .val (.long s2), .second, .val (.long s3), .second, .val (.int md), .val (.int z4), .val (.long (2305843009213693951 : Int64)), .second, .val (.long v47), .second, .val (.long v53), .second, .val (.long v60), .second, .val (.long v67), .second, .val (.ref b70), .val (.int r85), .val (.int r92), .val (.int r101), .val (.int r108), .val (.int r117), .val (.int r124), .unset, .unset, .unset, .unset, .unset, .unset, .unset, .unset]) rfl at_127 rfl ?_
    refine Gl.lload Y124 rfl at_129 rfl ?_
    refine Gl.lload Y124 rfl at_131 rfl ?_
    obtain ⟨z133, hz133⟩ : ∃ z : Int32, (if v47 < v53 then (0 : Int32) else (1 : Int32)) = z := ⟨_, rfl⟩
    have iz133 : (v47.toInt < v53.toInt ∧ (z133.toInt = 0)) ∨ (¬ (v47.toInt < v53.toInt) ∧ (z133.toInt = 1)) := own_ite (c := v47 < v53) (fun q2 => ⟨Int64.lt_iff_toInt_lt.mp q2, congrArg Int32.toInt (show z133 = (0 : Int32) from by rw [← hz133]; simp only [q2, ↓reduceIte, if_true, if_false, ite_self])⟩) (fun q2 => ⟨fun q => q2 (Int64.lt_iff_toInt_lt.mpr q), congrArg Int32.toInt (show z133 = (1 : Int32) from by rw [← hz133]; simp only [q2, ↓reduceIte, if_true, if_false, ite_self])⟩)
    have bz133 : z133 = 0 ∨ z133 = 1 := by rw [← hz133]; (repeat' split) <;> first | (simp; done) | assumption
    refine own_cut (B := ∀ T', Sd Z "com/example/impatiens/impatiens/MatchBudgetSpendPinLaw" code maxLocals (some .boolean) n0 p l e room_1 s m #[(.long ni), (.long s1), (.long s2), (.long s3), (.int md)] below meth c T' h117 1 2 → Gl p e below (Pst s n0 room_1.cells room_1.slots (QL Z ni s1 s2 s3 md h0)) (T'.setTop (mkF m 142 #[.val (.long ni), .second, .val (.long s1), .second, .val (.long s2), .second, .val (.long s3), .second, .val (.int md), .val (.int z4), .val (.long (2305843009213693951 : Int64)), .second, .val (.long v47), .second, .val (.long v53), .second, .val (.long v60), .second, .val (.long v67), .second, .val (.ref b70), .val (.int r85), .val (.int r92), .val (.int r101), .val (.int r108), .val (.int r117), .val (.int r124), .unset, .unset, .unset, .unset, .unset, .unset, .unset, .unset] [(.int z133)]))) (fun jk => ?_) (fun T133j Y133j => ?_)
    · refine Gl.lcmpgt Y124 at_133 rfl at_134 (by decide) rfl rfl (fun c134 => ?_) (fun c134 => ?_)
      · have j134 : v47.toInt < v53.toInt := Int64.lt_iff_toInt_lt.mp c134
        refine Gl.iconst Y124 (v := (0 : Int32)) (by decide) at_141 rfl ?_
        have ez133 : z133 = (0 : Int32) := by rw [← hz133]; simp only [c134, ↓reduceIte, if_true, if_false]
        rw [ez133] at jk
        exact jk T124 Y124
      · have j134 : ¬ (v47.toInt < v53.toInt) := fun q => c134 (Int64.lt_iff_toInt_lt.mpr q)
        refine Gl.iconst Y124 (v := (1 : Int32)) (by decide) at_137 rfl ?_
        refine Gl.goto Y124 at_138 (by decide) rfl ?_
        have ez133 : z133 = (1 : Int32) := by rw [← hz133]; simp only [c134, ↓reduceIte, if_true, if_false]
        rw [ez133] at jk
        exact jk T124 Y124
    refine Gl.istore Y133j (L' := #[.val (.long ni), .second, .val (.long s1), .second, .val (.long s2), .second, .val (.long s3), .second, .val (.int md), .val (.int z4), .val (.long (2305843009213693951 : Int64)), .second, .val (.long v47), .second, .val (.long v53), .second, .val (.long v60), .second, .val (.long v67), .second, .val (.ref b70), .val (.int r85), .val (.int r92), .val (.int r101), .val (.int r108), .val (.int r117), .val (.int r124), .val (.int z133), .unset, .unset, .unset, .unset, .unset, .unset, .unset]) rfl at_142 rfl ?_
    refine Gl.iload Y133j rfl at_144 rfl ?_
    obtain ⟨v153, hv153⟩ : ∃ z : Int64, v53 + v60 = z := ⟨_, rfl⟩
    have iv153 : v153.toInt = v53.toInt + v60.toInt := by
      have q : (v153.toInt - (v53.toInt + v60.toInt)) % 18446744073709551616 = 0 := by have q := c_ladd v53 v60; rw [hv153] at q; exact q
      have r := rng64 v153
      omega
    obtain ⟨z146, hz146⟩ : ∃ z : Int32, (if z133 = (0 : Int32) then (0 : Int32) else (if v47 < v153 then (0 : Int32) else (1 : Int32))) = z := ⟨_, rfl⟩
    have iz146 : (z133.toInt = 0 ∧ (z146.toInt = 0)) ∨ (¬ (z133.toInt = 0) ∧ ((v47.toInt < v153.toInt ∧ (z146.toInt = 0)) ∨ (¬ (v47.toInt < v153.toInt) ∧ (z146.toInt = 1)))) := own_ite (c := z133 = (0 : Int32)) (fun q2 => ⟨congrArg Int32.toInt q2, congrArg Int32.toInt (show z146 = (0 : Int32) from by rw [← hz146]; simp only [q2, ↓reduceIte, if_true, if_false, ite_self])⟩) (fun q2 => ⟨fun q => q2 (Int32.toInt_inj.mp q), own_ite (c := v47 < v153) (fun q3 => ⟨Int64.lt_iff_toInt_lt.mp q3, congrArg Int32.toInt (show z146 = (0 : Int32) from by rw [← hz146]; simp only [q2, q3, ↓reduceIte, if_true, if_false, ite_self])⟩) (fun q3 => ⟨fun q => q3 (Int64.lt_iff_toInt_lt.mpr q), congrArg Int32.toInt (show z146 = (1 : Int32) from by rw [← hz146]; simp only [q2, q3, ↓reduceIte, if_true, if_false, ite_self])⟩)⟩)
    have bz146 : z146 = 0 ∨ z146 = 1 := by rw [← hz146]; (repeat' split) <;> first | (simp; done) | assumption
    refine own_cut (B := ∀ T', Sd Z "com/example/impatiens/impatiens/MatchBudgetSpendPinLaw" code maxLocals (some .boolean) n0 p l e room_1 s m #[(.long ni), (.long s1), (.long s2), (.long s3), (.int md)] below meth c T' h117 1 2 → Gl p e below (Pst s n0 room_1.cells room_1.slots (QL Z ni s1 s2 s3 md h0)) (T'.setTop (mkF m 165 #[.val (.long ni), .second, .val (.long s1), .second, .val (.long s2), .second, .val (.long s3), .second, .val (.int md), .val (.int z4), .val (.long (2305843009213693951 : Int64)), .second, .val (.long v47), .second, .val (.long v53), .second, .val (.long v60), .second, .val (.long v67), .second, .val (.ref b70), .val (.int r85), .val (.int r92), .val (.int r101), .val (.int r108), .val (.int r117), .val (.int r124), .val (.int z133), .unset, .unset, .unset, .unset, .unset, .unset, .unset] [(.int z146)]))) (fun jk => ?_) (fun T146j Y146j => ?_)
    · refine Gl.ifeq Y133j at_146 (by decide) rfl rfl (fun c146 => ?_) (fun c146 => ?_)
      · have j146 : z133.toInt = 0 := congrArg Int32.toInt c146
        refine Gl.iconst Y133j (v := (0 : Int32)) (by decide) at_164 rfl ?_
        have ez146 : z146 = (0 : Int32) := by rw [← hz146]; simp only [c146, ↓reduceIte, if_true, if_false]
        rw [ez146] at jk
        exact jk T133j Y133j
      · have j146 : ¬ (z133.toInt = 0) := fun q => c146 (Int32.toInt_inj.mp q)
        refine Gl.lload Y133j rfl at_149 rfl ?_
        refine Gl.lload Y133j rfl at_151 rfl ?_
        refine Gl.ladd Y133j hv153 at_153 rfl ?_
        refine Gl.lload Y133j rfl at_154 rfl ?_
        refine Gl.lcmpgt Y133j at_156 rfl at_157 (by decide) rfl rfl (fun c157 => ?_) (fun c157 => ?_)
        · have j157 : v47.toInt < v153.toInt := Int64.lt_iff_toInt_lt.mp c157
          refine Gl.iconst Y133j (v := (0 : Int32)) (by decide) at_164 rfl ?_
          have ez146 : z146 = (0 : Int32) := by rw [← hz146]; simp only [c146, c157, ↓reduceIte, if_true, if_false]
          rw [ez146] at jk
          exact jk T133j Y133j
        · have j157 : ¬ (v47.toInt < v153.toInt) := fun q => c157 (Int64.lt_iff_toInt_lt.mpr q)
          refine Gl.iconst Y133j (v := (1 : Int32)) (by decide) at_160 rfl ?_
          refine Gl.goto Y133j at_161 (by decide) rfl ?_
          have ez146 : z146 = (1 : Int32) := by rw [← hz146]; simp only [c146, c157, ↓reduceIte, if_true, if_false]
          rw [ez146] at jk
          exact jk T133j Y133j
    refine Gl.istore Y146j (L' := #[.val (.long ni), .second, .val (.long s1), .second, .val (.long s2), .second, .val (.long s3), .second, .val (.int md), .val (.int z4), .val (.long (2305843009213693951 : Int64)), .second, .val (.long v47), .second, .val (.long v53), .second, .val (.long v60), .second, .val (.long v67), .second, .val (.ref b70), .val (.int r85), .val (.int r92), .val (.int r101), .val (.int r108), .val (.int r117), .val (.int r124), .val (.int z133), .val (.int z146), .unset, .unset, .unset, .unset, .unset, .unset]) rfl at_165 rfl ?_
    refine Gl.iload Y146j rfl at_167 rfl ?_
    obtain ⟨v176, hv176⟩ : ∃ z : Int64, v53 + v60 = z := ⟨_, rfl⟩
    have iv176 : v176.toInt = v53.toInt + v60.toInt := by
      have q : (v176.toInt - (v53.toInt + v60.toInt)) % 18446744073709551616 = 0 := by have q := c_ladd v53 v60; rw [hv176] at q; exact q
      have r := rng64 v176
      omega
    obtain ⟨v179, hv179⟩ : ∃ z : Int64, v176 + v67 = z := ⟨_, rfl⟩
    have iv179 : v179.toInt = v176.toInt + v67.toInt := by
      have q : (v179.toInt - (v176.toInt + v67.toInt)) % 18446744073709551616 = 0 := by have q := c_ladd v176 v67; rw [hv179] at q; exact q
      have r := rng64 v179
      omega
    obtain ⟨z169, hz169⟩ : ∃ z : Int32, (if z146 = (0 : Int32) then (0 : Int32) else (if v47 < v179 then (0 : Int32) else (1 : Int32))) = z := ⟨_, rfl⟩
    have iz169 : (z146.toInt = 0 ∧ (z169.toInt = 0)) ∨ (¬ (z146.toInt = 0) ∧ ((v47.toInt < v179.toInt ∧ (z169.toInt = 0)) ∨ (¬ (v47.toInt < v179.toInt) ∧ (z169.toInt = 1)))) := own_ite (c := z146 = (0 : Int32)) (fun q2 => ⟨congrArg Int32.toInt q2, congrArg Int32.toInt (show z169 = (0 : Int32) from by rw [← hz169]; simp only [q2, ↓reduceIte, if_true, if_false, ite_self])⟩) (fun q2 => ⟨fun q => q2 (Int32.toInt_inj.mp q), own_ite (c := v47 < v179) (fun q3 => ⟨Int64.lt_iff_toInt_lt.mp q3, congrArg Int32.toInt (show z169 = (0 : Int32) from by rw [← hz169]; simp only [q2, q3, ↓reduceIte, if_true, if_false, ite_self])⟩) (fun q3 => ⟨fun q => q3 (Int64.lt_iff_toInt_lt.mpr q), congrArg Int32.toInt (show z169 = (1 : Int32) from by rw [← hz169]; simp only [q2, q3, ↓reduceIte, if_true, if_false, ite_self])⟩)⟩)
    have bz169 : z169 = 0 ∨ z169 = 1 := by rw [← hz169]; (repeat' split) <;> first | (simp; done) | assumption
    refine own_cut (B := ∀ T', Sd Z "com/example/impatiens/impatiens/MatchBudgetSpendPinLaw" code maxLocals (some .boolean) n0 p l e room_1 s m #[(.long ni), (.long s1), (.long s2), (.long s3), (.int md)] below meth c T' h117 1 2 → Gl p e below (Pst s n0 room_1.cells room_1.slots (QL Z ni s1 s2 s3 md h0)) (T'.setTop (mkF m 191 #[.val (.long ni), .second, .val (.long s1), .second, .val (.long s2), .second, .val (.long s3), .second, .val (.int md), .val (.int z4), .val (.long (2305843009213693951 : Int64)), .second, .val (.long v47), .second, .val (.long v53), .second, .val (.long v60), .second, .val (.long v67), .second, .val (.ref b70), .val (.int r85), .val (.int r92), .val (.int r101), .val (.int r108), .val (.int r117), .val (.int r124), .val (.int z133), .val (.int z146), .unset, .unset, .unset, .unset, .unset, .unset] [(.int z169)]))) (fun jk => ?_) (fun T169j Y169j => ?_)
    · refine Gl.ifeq Y146j at_169 (by decide) rfl rfl (fun c169 => ?_) (fun c169 => ?_)
      · have j169 : z146.toInt = 0 := congrArg Int32.toInt c169
        refine Gl.iconst Y146j (v := (0 : Int32)) (by decide) at_190 rfl ?_
        have ez169 : z169 = (0 : Int32) := by rw [← hz169]; simp only [c169, ↓reduceIte, if_true, if_false]
        rw [ez169] at jk
        exact jk T146j Y146j
      · have j169 : ¬ (z146.toInt = 0) := fun q => c169 (Int32.toInt_inj.mp q)
        refine Gl.lload Y146j rfl at_172 rfl ?_
        refine Gl.lload Y146j rfl at_174 rfl ?_
        refine Gl.ladd Y146j hv176 at_176 rfl ?_
        refine Gl.lload Y146j rfl at_177 rfl ?_
        refine Gl.ladd Y146j hv179 at_179 rfl ?_
        refine Gl.lload Y146j rfl at_180 rfl ?_
        refine Gl.lcmpgt Y146j at_182 rfl at_183 (by decide) rfl rfl (fun c183 => ?_) (fun c183 => ?_)
        · have j183 : v47.toInt < v179.toInt := Int64.lt_iff_toInt_lt.mp c183
          refine Gl.iconst Y146j (v := (0 : Int32)) (by decide) at_190 rfl ?_
          have ez169 : z169 = (0 : Int32) := by rw [← hz169]; simp only [c169, c183, ↓reduceIte, if_true, if_false]
          rw [ez169] at jk
          exact jk T146j Y146j
        · have j183 : ¬ (v47.toInt < v179.toInt) := fun q => c183 (Int64.lt_iff_toInt_lt.mpr q)
          refine Gl.iconst Y146j (v := (1 : Int32)) (by decide) at_186 rfl ?_
          refine Gl.goto Y146j at_187 (by decide) rfl ?_
          have ez169 : z169 = (1 : Int32) := by rw [← hz169]; simp only [c169, c183, ↓reduceIte, if_true, if_false]
          rw [ez169] at jk
          exact jk T146j Y146j
    refine Gl.istore Y169j (L' := #[.val (.long ni), .second, .val (.long s1), .second, .val (.long s2), .second, .val (.long s3), .second, .val (.int md), .val (.int z4), .val (.long (2305843009213693951 : Int64)), .second, .val (.long v47), .second, .val (.long v53), .second, .val (.long v60), .second, .val (.long v67), .second, .val (.ref b70), .val (.int r85), .val (.int r92), .val (.int r101), .val (.int r108), .val (.int r117), .val (.int r124), .val (.int z133), .val (.int z146), .val (.int z169), .unset, .unset, .unset, .unset, .unset]) rfl at_191 rfl ?_
    refine Gl.iload Y169j rfl at_193 rfl ?_
    refine Gl.ifeq Y169j at_195 (by decide) rfl rfl (fun c195 => ?_) (fun c195 => ?_)
    · have j195 : z169.toInt = 0 := congrArg Int32.toInt c195
      refine Gl.lconst Y169j (v := (0 : Int64)) (by decide) at_212 rfl ?_
      refine Gl.lstore Y169j (L' := #[.val (.long ni), .second, .val (.long s1), .second, .val (.long s2), .second, .val (.long s3), .second, .val (.int md), .val (.int z4), .val (.long (2305843009213693951 : Int64)), .second, .val (.long v47), .second, .val (.long v53), .second, .val (.long v60), .second, .val (.long v67), .second, .val (.ref b70), .val (.int r85), .val (.int r92), .val (.int r101), .val (.int r108), .val (.int r117), .val (.int r124), .val (.int z133), .val (.int z146), .val (.int z169), .val (.long (0 : Int64)), .second, .unset, .unset, .unset]) rfl at_213 rfl ?_
      refine Gl.aload Y169j rfl rfl at_215 rfl ?_
      refine Gl.lload Y169j rfl at_217 rfl ?_
      refine Gl.callV Y169j (tw_12 hw) (tw_13 hw) (tw_15 hw) (tw_15 hw) (tw_14 hw) (tw_3 hw) (tw_16 hw) (by decide) f117_0 (rm1 l Z a0 hw [] b70 (0 : Int64) lq117 sq117 h117 n0 Y169j.sz f117_0 f117_1 f117_2 sb70 (by first | assumption | decide | omega | (simp; done)) (by first | assumption | decide | omega | (simp; done))) (a := b70) (argsL := [(.long (0 : Int64))]) (rest := []) rfl rfl (lenOf pd_1 rfl) rfl (by decide) (Nat.le_of_ble_eq_true rfl) (by decide) (by decide) at_219 rfl (fun v219 T219 h219 Y219 q219 => ?_)
      obtain ⟨sq219, lq219, r219, rfl, p219, K219, f219_0, f219_1, f219_2⟩ := q219
      have kc4 : (0 : Int64).toInt = 0 := by decide
      have br219 : r219 = 0 ∨ r219 = 1 := p219.2.2
      show Gl p e below _ (T219.setTop (mkF m 222 #[.val (.long ni), .second, .val (.long s1), .second, .val (.long s2), .second, .val (.long s3), .second, .val (.int md), .val (.int z4), .val (.long (2305843009213693951 : Int64)), .second, .val (.long v47), .second, .val (.long v53), .second, .val (.long v60), .second, .val (.long v67), .second, .val (.ref b70), .val (.int r85), .val (.int r92), .val (.int r101), .val (.int r108), .val (.int r117), .val (.int r124), .val (.int z133), .val (.int z146), .val (.int z169), .val (.long (0 : Int64)), .second, .unset, .unset, .unset] [(.int r219)]))
      refine Gl.istore Y219 (L' := #[.val (.long ni), .second, .val (.long s1), .second, .val (.long s2), .second, .val (.long s3), .second, .val (.int md), .val (.int z4), .val (.long (2305843009213693951 : Int64)), .second, .val (.long v47), .second, .val (.long v53), .second, .val (.long v60), .second, .val (.long v67), .second, .val (.ref b70), .val (.int r85), .val (.int r92), .val (.int r101), .val (.int r108), .val (.int r117), .val (.int r124), .val (.int z133), .val (.int z146), .val (.int z169), .val (.long (0 : Int64)), .second, .val (.int r219), .unset, .unset]) rfl at_222 rfl ?_
      refine Gl.aload Y219 rfl rfl at_224 rfl ?_
      refine Gl.lconst Y219 (v := (1 : Int64)) (by decide) at_226 rfl ?_
      refine Gl.callV Y219 (tw_12 hw) (tw_13 hw) (tw_15 hw) (tw_15 hw) (tw_14 hw) (tw_3 hw) (tw_16 hw) (by decide) f219_0 (rm1 l Z a0 hw [] b70 (1 : Int64) lq219 sq219 h219 n0 Y219.sz f219_0 f219_1 f219_2 sb70 (by first | assumption | decide | omega | (simp; done)) (by first | assumption | decide | omega | (simp; done))) (a := b70) (argsL := [(.long (1 : Int64))]) (rest := []) rfl rfl (lenOf pd_1 rfl) rfl (by decide) (Nat.le_of_ble_eq_true rfl) (by decide) (by decide) at_227 rfl (fun v227 T227 h227 Y227 q227 => ?_)
      obtain ⟨sq227, lq227, r227, rfl, p227, K227, f227_0, f227_1, f227_2⟩ := q227
      have kc5 : (1 : Int64).toInt = 1 := by decide
      have br227 : r227 = 0 ∨ r227 = 1 := p227.2.2
      show Gl p e below _ (T227.setTop (mkF m 230 #[.val (.long ni), .second, .val (.long s1), .second, .val (.long s2), .second, .val (.long s3), .second, .val (.int md), .val (.int z4), .val (.long (2305843009213693951 : Int64)), .second, .val (.long v47), .second, .val (.long v53), .second, .val (.long v60), .second, .val (.long v67), .second, .val (.ref b70), .val (.int r85), .val (.int r92), .val (.int r101), .val (.int r108), .val (.int r117), .val (.int r124), .val (.int z133), .val (.int z146), .val (.int z169), .val (.long (0 : Int64)), .second, .val (.int r219), .unset, .unset] [(.int r227)]))
      refine Gl.istore Y227 (L' := #[.val (.long ni), .second, .val (.long s1), .second, .val (.long s2), .second, .val (.long s3), .second, .val (.int md), .val (.int z4), .val (.long (2305843009213693951 : Int64)), .second, .val (.long v47), .second, .val (.long v53), .second, .val (.long v60), .second, .val (.long v67), .second, .val (.ref b70), .val (.int r85), .val (.int r92), .val (.int r101), .val (.int r108), .val (.int r117), .val (.int r124), .val (.int z133), .val (.int z146), .val (.int z169), .val (.long (0 : Int64)), .second, .val (.int r219), .val (.int r227), .unset]) rfl at_230 rfl ?_
      refine Gl.aload Y227 rfl rfl at_232 rfl ?_
      refine Gl.callV Y227 (tw_19 hw) (tw_20 hw) (tw_22 hw) (tw_22 hw) (tw_21 hw) (tw_3 hw) (tw_23 hw) (by decide) f227_0 (rm2 l Z a0 hw [] b70 sq227 h227 n0 Y227.sz f227_2 (p227.2.1)) (a := b70) (argsL := []) (rest := []) rfl rfl (lenOf pd_2 rfl) rfl (by decide) (Nat.le_of_ble_eq_true rfl) (by decide) (by decide) at_234 rfl (fun v234 T234 h234 Y234 q234 => ?_)
      obtain ⟨r234, rfl, p234, rfl⟩ := q234
      have br234 : r234 = 0 ∨ r234 = 1 := p234.2
      show Gl p e below _ (T234.setTop (mkF m 237 #[.val (.long ni), .second, .val (.long s1), .second, .val (.long s2), .second, .val (.long s3), .second, .val (.int md), .val (.int z4), .val (.long (2305843009213693951 : Int64)), .second, .val (.long v47), .second, .val (.long v53), .second, .val (.long v60), .second, .val (.long v67), .second, .val (.ref b70), .val (.int r85), .val (.int r92), .val (.int r101), .val (.int r108), .val (.int r117), .val (.int r124), .val (.int z133), .val (.int z146), .val (.int z169), .val (.long (0 : Int64)), .second, .val (.int r219), .val (.int r227), .unset] [(.int r234)]))
      refine Gl.istore Y234 (L' := #[.val (.long ni), .second, .val (.long s1), .second, .val (.long s2), .second, .val (.long s3), .second, .val (.int md), .val (.int z4), .val (.long (2305843009213693951 : Int64)), .second, .val (.long v47), .second, .val (.long v53), .second, .val (.long v60), .second, .val (.long v67), .second, .val (.ref b70), .val (.int r85), .val (.int r92), .val (.int r101), .val (.int r108), .val (.int r117), .val (.int r124), .val (.int z133), .val (.int z146), .val (.int z169), .val (.long (0 : Int64)), .second, .val (.int r219), .val (.int r227), .val (.int r234)]) rfl at_237 rfl ?_
      refine Gl.iload Y234 rfl at_239 rfl ?_
      refine Gl.iload Y234 rfl at_241 rfl ?_
      refine Gl.icmpne Y234 at_243 (by decide) rfl rfl (fun c243 => ?_) (fun c243 => ?_)
      · exfalso; have j243 : ¬ (r85.toInt = z133.toInt) := fun q => c243 (Int32.toInt_inj.mp q); omega
      have j243 : r85.toInt = z133.toInt := congrArg Int32.toInt c243
      refine Gl.iload Y234 rfl at_246 rfl ?_
      refine Gl.iload Y234 rfl at_248 rfl ?_
      obtain ⟨z250, hz250⟩ : ∃ z : Int32, (if z133 = (0 : Int32) then (1 : Int32) else (0 : Int32)) = z := ⟨_, rfl⟩
      have iz250 : (z133.toInt = 0 ∧ (z250.toInt = 1)) ∨ (¬ (z133.toInt = 0) ∧ (z250.toInt = 0)) := own_ite (c := z133 = (0 : Int32)) (fun q4 => ⟨congrArg Int32.toInt q4, congrArg Int32.toInt (show z250 = (1 : Int32) from by rw [← hz250]; simp only [q4, ↓reduceIte, if_true, if_false, ite_self])⟩) (fun q4 => ⟨fun q => q4 (Int32.toInt_inj.mp q), congrArg Int32.toInt (show z250 = (0 : Int32) from by rw [← hz250]; simp only [q4, ↓reduceIte, if_true, if_false, ite_self])⟩)
      have bz250 : z250 = 0 ∨ z250 = 1 := by rw [← hz250]; (repeat' split) <;> first | (simp; done) | assumption
      refine own_cut (B := ∀ T', Sd Z "com/example/impatiens/impatiens/MatchBudgetSpendPinLaw" code maxLocals (some .boolean) n0 p l e room_1 s m #[(.long ni), (.long s1), (.long s2), (.long s3), (.int md)] below meth c T' h227 1 2 → Gl p e below (Pst s n0 room_1.cells room_1.slots (QL Z ni s1 s2 s3 md h0)) (T'.setTop (mkF m 258 #[.val (.long ni), .second, .val (.long s1), .second, .val (.long s2), .second, .val (.long s3), .second, .val (.int md), .val (.int z4), .val (.long (2305843009213693951 : Int64)), .second, .val (.long v47), .second, .val (.long v53), .second, .val (.long v60), .second, .val (.long v67), .second, .val (.ref b70), .val (.int r85), .val (.int r92), .val (.int r101), .val (.int r108), .val (.int r117), .val (.int r124), .val (.int z133), .val (.int z146), .val (.int z169), .val (.long (0 : Int64)), .second, .val (.int r219), .val (.int r227), .val (.int r234)] [(.int z250), (.int r92)]))) (fun jk => ?_) (fun T250j Y250j => ?_)
      · refine Gl.ifne Y234 at_250 (by decide) rfl rfl (fun c250 => ?_) (fun c250 => ?_)
        · have j250 : ¬ (z133.toInt = 0) := fun q => c250 (Int32.toInt_inj.mp q)
          refine Gl.iconst Y234 (v := (0 : Int32)) (by decide) at_257 rfl ?_
          have ez250 : z250 = (0 : Int32) := by rw [← hz250]; simp only [c250, ↓reduceIte, if_true, if_false]
          rw [ez250] at jk
          exact jk T234 Y234
        · have j250 : z133.toInt = 0 := congrArg Int32.toInt c250
          refine Gl.iconst Y234 (v := (1 : Int32)) (by decide) at_253 rfl ?_
          refine Gl.goto Y234 at_254 (by decide) rfl ?_
          have ez250 : z250 = (1 : Int32) := by rw [← hz250]; simp only [c250, ↓reduceIte, if_true, if_false]
          rw [ez250] at jk
          exact jk T234 Y234
      refine Gl.icmpne Y250j at_258 (by decide) rfl rfl (fun c258 => ?_) (fun c258 => ?_)
      · exfalso; have j258 : ¬ (r92.toInt = z250.toInt) := fun q => c258 (Int32.toInt_inj.mp q); omega
      have j258 : r92.toInt = z250.toInt := congrArg Int32.toInt c258
      refine Gl.iload Y250j rfl at_261 rfl ?_
      refine Gl.iload Y250j rfl at_263 rfl ?_
      refine Gl.icmpne Y250j at_265 (by decide) rfl rfl (fun c265 => ?_) (fun c265 => ?_)
      · exfalso; have j265 : ¬ (r101.toInt = z146.toInt) := fun q => c265 (Int32.toInt_inj.mp q); omega
      have j265 : r101.toInt = z146.toInt := congrArg Int32.toInt c265
      refine Gl.iload Y250j rfl at_268 rfl ?_
      refine Gl.iload Y250j rfl at_270 rfl ?_
      obtain ⟨z272, hz272⟩ : ∃ z : Int32, (if z146 = (0 : Int32) then (1 : Int32) else (0 : Int32)) = z := ⟨_, rfl⟩
      have iz272 : (z146.toInt = 0 ∧ (z272.toInt = 1)) ∨ (¬ (z146.toInt = 0) ∧ (z272.toInt = 0)) := own_ite (c := z146 = (0 : Int32)) (fun q6 => ⟨congrArg Int32.toInt q6, congrArg Int32.toInt (show z272 = (1 : Int32) from by rw [← hz272]; simp only [q6, ↓reduceIte, if_true, if_false, ite_self])⟩) (fun q6 => ⟨fun q => q6 (Int32.toInt_inj.mp q), congrArg Int32.toInt (show z272 = (0 : Int32) from by rw [← hz272]; simp only [q6, ↓reduceIte, if_true, if_false, ite_self])⟩)
      have bz272 : z272 = 0 ∨ z272 = 1 := by rw [← hz272]; (repeat' split) <;> first | (simp; done) | assumption
      refine own_cut (B := ∀ T', Sd Z "com/example/impatiens/impatiens/MatchBudgetSpendPinLaw" code maxLocals (some .boolean) n0 p l e room_1 s m #[(.long ni), (.long s1), (.long s2), (.long s3), (.int md)] below meth c T' h227 1 2 → Gl p e below (Pst s n0 room_1.cells room_1.slots (QL Z ni s1 s2 s3 md h0)) (T'.setTop (mkF m 280 #[.val (.long ni), .second, .val (.long s1), .second, .val (.long s2), .second, .val (.long s3), .second, .val (.int md), .val (.int z4), .val (.long (2305843009213693951 : Int64)), .second, .val (.long v47), .second, .val (.long v53), .second, .val (.long v60), .second, .val (.long v67), .second, .val (.ref b70), .val (.int r85), .val (.int r92), .val (.int r101), .val (.int r108), .val (.int r117), .val (.int r124), .val (.int z133), .val (.int z146), .val (.int z169), .val (.long (0 : Int64)), .second, .val (.int r219), .val (.int r227), .val (.int r234)] [(.int z272), (.int r108)]))) (fun jk => ?_) (fun T272j Y272j => ?_)
      · refine Gl.ifne Y250j at_272 (by decide) rfl rfl (fun c272 => ?_) (fun c272 => ?_)
        · have j272 : ¬ (z146.toInt = 0) := fun q => c272 (Int32.toInt_inj.mp q)
          refine Gl.iconst Y250j (v := (0 : Int32)) (by decide) at_279 rfl ?_
          have ez272 : z272 = (0 : Int32) := by rw [← hz272]; simp only [c272, ↓reduceIte, if_true, if_false]
          rw [ez272] at jk
          exact jk T250j Y250j
        · have j272 : z146.toInt = 0 := congrArg Int32.toInt c272
          refine Gl.iconst Y250j (v := (1 : Int32)) (by decide) at_275 rfl ?_
          refine Gl.goto Y250j at_276 (by decide) rfl ?_
          have ez272 : z272 = (1 : Int32) := by rw [← hz272]; simp only [c272, ↓reduceIte, if_true, if_false]
          rw [ez272] at jk
          exact jk T250j Y250j
      refine Gl.icmpne Y272j at_280 (by decide) rfl rfl (fun c280 => ?_) (fun c280 => ?_)
      · exfalso; have j280 : ¬ (r108.toInt = z272.toInt) := fun q => c280 (Int32.toInt_inj.mp q); omega
      have j280 : r108.toInt = z272.toInt := congrArg Int32.toInt c280
      refine Gl.iload Y272j rfl at_283 rfl ?_
      refine Gl.iload Y272j rfl at_285 rfl ?_
      refine Gl.icmpne Y272j at_287 (by decide) rfl rfl (fun c287 => ?_) (fun c287 => ?_)
      · exfalso; have j287 : ¬ (r117.toInt = z169.toInt) := fun q => c287 (Int32.toInt_inj.mp q); omega
      have j287 : r117.toInt = z169.toInt := congrArg Int32.toInt c287
      refine Gl.iload Y272j rfl at_290 rfl ?_
      refine Gl.iload Y272j rfl at_292 rfl ?_
      refine Gl.ifne Y272j at_294 (by decide) rfl rfl (fun c294 => ?_) (fun c294 => ?_)
      · exact absurd c195 c294
      have j294 : z169.toInt = 0 := congrArg Int32.toInt c294
      refine Gl.iconst Y272j (v := (1 : Int32)) (by decide) at_297 rfl ?_
      refine Gl.goto Y272j at_298 (by decide) rfl ?_
      refine Gl.icmpne Y272j at_302 (by decide) rfl rfl (fun c302 => ?_) (fun c302 => ?_)
      · exfalso; have j302 : ¬ (r124.toInt = 1) := fun q => c302 (Int32.toInt_inj.mp q); omega
      have j302 : r124.toInt = 1 := congrArg Int32.toInt c302
      refine Gl.iload Y272j rfl at_305 rfl ?_
      refine Gl.iload Y272j rfl at_307 rfl ?_
      refine Gl.icmpne Y272j at_309 (by decide) rfl rfl (fun c309 => ?_) (fun c309 => ?_)
      · exfalso; have j309 : ¬ (r219.toInt = z169.toInt) := fun q => c309 (Int32.toInt_inj.mp q); omega
      have j309 : r219.toInt = z169.toInt := congrArg Int32.toInt c309
      refine Gl.iload Y272j rfl at_312 rfl ?_
      refine Gl.ifne Y272j at_314 (by decide) rfl rfl (fun c314 => ?_) (fun c314 => ?_)
      · exfalso; have j314 : ¬ (r227.toInt = 0) := fun q => c314 (Int32.toInt_inj.mp q); omega
      have j314 : r227.toInt = 0 := congrArg Int32.toInt c314
      refine Gl.iload Y272j rfl at_317 rfl ?_
      refine Gl.ifeq Y272j at_319 (by decide) rfl rfl (fun c319 => ?_) (fun c319 => ?_)
      · exfalso; have j319 : r234.toInt = 0 := congrArg Int32.toInt c319; omega
      have j319 : ¬ (r234.toInt = 0) := fun q => c319 (Int32.toInt_inj.mp q)
      refine Gl.iconst Y272j (v := (1 : Int32)) (by decide) at_322 rfl ?_
      refine Gl.goto Y272j at_323 (by decide) rfl ?_
      exact Gl.retZ Y272j (by decide) (by decide) (x' := (1 : Int32)) (by decide) at_327 rfl
    · have j195 : ¬ (z169.toInt = 0) := fun q => c195 (Int32.toInt_inj.mp q)
      refine Gl.lload Y169j rfl at_198 rfl ?_
      refine Gl.lload Y169j rfl at_200 rfl ?_
      refine Gl.lload Y169j rfl at_202 rfl ?_
      obtain ⟨v204, hv204⟩ : ∃ z : Int64, v53 + v60 = z := ⟨_, rfl⟩
      have iv204 : v204.toInt = v53.toInt + v60.toInt := by
        have q : (v204.toInt - (v53.toInt + v60.toInt)) % 18446744073709551616 = 0 := by have q := c_ladd v53 v60; rw [hv204] at q; exact q
        have r := rng64 v204
        omega
      refine Gl.ladd Y169j hv204 at_204 rfl ?_
      refine Gl.lload Y169j rfl at_205 rfl ?_
      obtain ⟨v207, hv207⟩ : ∃ z : Int64, v204 + v67 = z := ⟨_, rfl⟩
      have iv207 : v207.toInt = v204.toInt + v67.toInt := by
        have q : (v207.toInt - (v204.toInt + v67.toInt)) % 18446744073709551616 = 0 := by have q := c_ladd v204 v67; rw [hv207] at q; exact q
        have r := rng64 v207
        omega
      refine Gl.ladd Y169j hv207 at_207 rfl ?_
      obtain ⟨v208, hv208⟩ : ∃ z : Int64, v47 - v207 = z := ⟨_, rfl⟩
      have iv208 : v208.toInt = v47.toInt - v207.toInt := by
        have q : (v208.toInt - (v47.toInt - v207.toInt)) % 18446744073709551616 = 0 := by have q := c_lsub v47 v207; rw [hv208] at q; exact q
        have r := rng64 v208
        omega
      refine Gl.lsub Y169j hv208 at_208 rfl ?_
      refine Gl.goto Y169j at_209 (by decide) rfl ?_
      refine Gl.lstore Y169j (L' := #[.val (.long ni), .second, .val (.long s1), .second, .val (.long s2), .second, .val (.long s3), .second, .val (.int md), .val (.int z4), .val (.long (2305843009213693951 : Int64)), .second, .val (.long v47), .second, .val (.long v53), .second, .val (.long v60), .second, .val (.long v67), .second, .val (.ref b70), .val (.int r85), .val (.int r92), .val (.int r101), .val (.int r108), .val (.int r117), .val (.int r124), .val (.int z133), .val (.int z146), .val (.int z169), .val (.long v208), .second, .unset, .unset, .unset]) rfl at_213 rfl ?_
      refine Gl.aload Y169j rfl rfl at_215 rfl ?_
      refine Gl.lload Y169j rfl at_217 rfl ?_
      refine Gl.callV Y169j (tw_12 hw) (tw_13 hw) (tw_15 hw) (tw_15 hw) (tw_14 hw) (tw_3 hw) (tw_16 hw) (by decide) f117_0 (rm1 l Z a0 hw [] b70 v208 lq117 sq117 h117 n0 Y169j.sz f117_0 f117_1 f117_2 sb70 (by first | assumption | decide | omega | (simp; done)) (by first | assumption | decide | omega | (simp; done))) (a := b70) (argsL := [(.long v208)]) (rest := []) rfl rfl (lenOf pd_1 rfl) rfl (by decide) (Nat.le_of_ble_eq_true rfl) (by decide) (by decide) at_219 rfl (fun v219 T219 h219 Y219 q219 => ?_)
      obtain ⟨sq219, lq219, r219, rfl, p219, K219, f219_0, f219_1, f219_2⟩ := q219
      have br219 : r219 = 0 ∨ r219 = 1 := p219.2.2
      show Gl p e below _ (T219.setTop (mkF m 222 #[.val (.long ni), .second, .val (.long s1), .second, .val (.long s2), .second, .val (.long s3), .second, .val (.int md), .val (.int z4), .val (.long (2305843009213693951 : Int64)), .second, .val (.long v47), .second, .val (.long v53), .second, .val (.long v60), .second, .val (.long v67), .second, .val (.ref b70), .val (.int r85), .val (.int r92), .val (.int r101), .val (.int r108), .val (.int r117), .val (.int r124), .val (.int z133), .val (.int z146), .val (.int z169), .val (.long v208), .second, .unset, .unset, .unset] [(.int r219)]))
      refine Gl.istore Y219 (L' := #[.val (.long ni), .second, .val (.long s1), .second, .val (.long s2), .second, .val (.long s3), .second, .val (.int md), .val (.int z4), .val (.long (2305843009213693951 : Int64)), .second, .val (.long v47), .second, .val (.long v53), .second, .val (.long v60), .second, .val (.long v67), .second, .val (.ref b70), .val (.int r85), .val (.int r92), .val (.int r101), .val (.int r108), .val (.int r117), .val (.int r124), .val (.int z133), .val (.int z146), .val (.int z169), .val (.long v208), .second, .val (.int r219), .unset, .unset]) rfl at_222 rfl ?_
      refine Gl.aload Y219 rfl rfl at_224 rfl ?_
      refine Gl.lconst Y219 (v := (1 : Int64)) (by decide) at_226 rfl ?_
      refine Gl.callV Y219 (tw_12 hw) (tw_13 hw) (tw_15 hw) (tw_15 hw) (tw_14 hw) (tw_3 hw) (tw_16 hw) (by decide) f219_0 (rm1 l Z a0 hw [] b70 (1 : Int64) lq219 sq219 h219 n0 Y219.sz f219_0 f219_1 f219_2 sb70 (by first | assumption | decide | omega | (simp; done)) (by first | assumption | decide | omega | (simp; done))) (a := b70) (argsL := [(.long (1 : Int64))]) (rest := []) rfl rfl (lenOf pd_1 rfl) rfl (by decide) (Nat.le_of_ble_eq_true rfl) (by decide) (by decide) at_227 rfl (fun v227 T227 h227 Y227 q227 => ?_)
      obtain ⟨sq227, lq227, r227, rfl, p227, K227, f227_0, f227_1, f227_2⟩ := q227
      have kc6 : (1 : Int64).toInt = 1 := by decide
      have br227 : r227 = 0 ∨ r227 = 1 := p227.2.2
      show Gl p e below _ (T227.setTop (mkF m 230 #[.val (.long ni), .second, .val (.long s1), .second, .val (.long s2), .second, .val (.long s3), .second, .val (.int md), .val (.int z4), .val (.long (2305843009213693951 : Int64)), .second, .val (.long v47), .second, .val (.long v53), .second, .val (.long v60), .second, .val (.long v67), .second, .val (.ref b70), .val (.int r85), .val (.int r92), .val (.int r101), .val (.int r108), .val (.int r117), .val (.int r124), .val (.int z133), .val (.int z146), .val (.int z169), .val (.long v208), .second, .val (.int r219), .unset, .unset] [(.int r227)]))
      refine Gl.istore Y227 (L' := #[.val (.long ni), .second, .val (.long s1), .second, .val (.long s2), .second, .val (.long s3), .second, .val (.int md), .val (.int z4), .val (.long (2305843009213693951 : Int64)), .second, .val (.long v47), .second, .val (.long v53), .second, .val (.long v60), .second, .val (.long v67), .second, .val (.ref b70), .val (.int r85), .val (.int r92), .val (.int r101), .val (.int r108), .val (.int r117), .val (.int r124), .val (.int z133), .val (.int z146), .val (.int z169), .val (.long v208), .second, .val (.int r219), .val (.int r227), .unset]) rfl at_230 rfl ?_
      refine Gl.aload Y227 rfl rfl at_232 rfl ?_
      refine Gl.callV Y227 (tw_19 hw) (tw_20 hw) (tw_22 hw) (tw_22 hw) (tw_21 hw) (tw_3 hw) (tw_23 hw) (by decide) f227_0 (rm2 l Z a0 hw [] b70 sq227 h227 n0 Y227.sz f227_2 (p227.2.1)) (a := b70) (argsL := []) (rest := []) rfl rfl (lenOf pd_2 rfl) rfl (by decide) (Nat.le_of_ble_eq_true rfl) (by decide) (by decide) at_234 rfl (fun v234 T234 h234 Y234 q234 => ?_)
      obtain ⟨r234, rfl, p234, rfl⟩ := q234
      have br234 : r234 = 0 ∨ r234 = 1 := p234.2
      show Gl p e below _ (T234.setTop (mkF m 237 #[.val (.long ni), .second, .val (.long s1), .second, .val (.long s2), .second, .val (.long s3), .second, .val (.int md), .val (.int z4), .val (.long (2305843009213693951 : Int64)), .second, .val (.long v47), .second, .val (.long v53), .second, .val (.long v60), .second, .val (.long v67), .second, .val (.ref b70), .val (.int r85), .val (.int r92), .val (.int r101), .val (.int r108), .val (.int r117), .val (.int r124), .val (.int z133), .val (.int z146), .val (.int z169), .val (.long v208), .second, .val (.int r219), .val (.int r227), .unset] [(.int r234)]))
      refine Gl.istore Y234 (L' := #[.val (.long ni), .second, .val (.long s1), .second, .val (.long s2), .second, .val (.long s3), .second, .val (.int md), .val (.int z4), .val (.long (2305843009213693951 : Int64)), .second, .val (.long v47), .second, .val (.long v53), .second, .val (.long v60), .second, .val (.long v67), .second, .val (.ref b70), .val (.int r85), .val (.int r92), .val (.int r101), .val (.int r108), .val (.int r117), .val (.int r124), .val (.int z133), .val (.int z146), .val (.int z169), .val (.long v208), .second, .val (.int r219), .val (.int r227), .val (.int r234)]) rfl at_237 rfl ?_
      refine Gl.iload Y234 rfl at_239 rfl ?_
      refine Gl.iload Y234 rfl at_241 rfl ?_
      refine Gl.icmpne Y234 at_243 (by decide) rfl rfl (fun c243 => ?_) (fun c243 => ?_)
      · exfalso; have j243 : ¬ (r85.toInt = z133.toInt) := fun q => c243 (Int32.toInt_inj.mp q); omega
      have j243 : r85.toInt = z133.toInt := congrArg Int32.toInt c243
      refine Gl.iload Y234 rfl at_246 rfl ?_
      refine Gl.iload Y234 rfl at_248 rfl ?_
      obtain ⟨z250, hz250⟩ : ∃ z : Int32, (if z133 = (0 : Int32) then (1 : Int32) else (0 : Int32)) = z := ⟨_, rfl⟩
      have iz250 : (z133.toInt = 0 ∧ (z250.toInt = 1)) ∨ (¬ (z133.toInt = 0) ∧ (z250.toInt = 0)) := own_ite (c := z133 = (0 : Int32)) (fun q4 => ⟨congrArg Int32.toInt q4, congrArg Int32.toInt (show z250 = (1 : Int32) from by rw [← hz250]; simp only [q4, ↓reduceIte, if_true, if_false, ite_self])⟩) (fun q4 => ⟨fun q => q4 (Int32.toInt_inj.mp q), congrArg Int32.toInt (show z250 = (0 : Int32) from by rw [← hz250]; simp only [q4, ↓reduceIte, if_true, if_false, ite_self])⟩)
      have bz250 : z250 = 0 ∨ z250 = 1 := by rw [← hz250]; (repeat' split) <;> first | (simp; done) | assumption
      refine own_cut (B := ∀ T', Sd Z "com/example/impatiens/impatiens/MatchBudgetSpendPinLaw" code maxLocals (some .boolean) n0 p l e room_1 s m #[(.long ni), (.long s1), (.long s2), (.long s3), (.int md)] below meth c T' h227 1 2 → Gl p e below (Pst s n0 room_1.cells room_1.slots (QL Z ni s1 s2 s3 md h0)) (T'.setTop (mkF m 258 #[.val (.long ni), .second, .val (.long s1), .second, .val (.long s2), .second, .val (.long s3), .second, .val (.int md), .val (.int z4), .val (.long (2305843009213693951 : Int64)), .second, .val (.long v47), .second, .val (.long v53), .second, .val (.long v60), .second, .val (.long v67), .second, .val (.ref b70), .val (.int r85), .val (.int r92), .val (.int r101), .val (.int r108), .val (.int r117), .val (.int r124), .val (.int z133), .val (.int z146), .val (.int z169), .val (.long v208), .second, .val (.int r219), .val (.int r227), .val (.int r234)] [(.int z250), (.int r92)]))) (fun jk => ?_) (fun T250j Y250j => ?_)
      · refine Gl.ifne Y234 at_250 (by decide) rfl rfl (fun c250 => ?_) (fun c250 => ?_)
        · have j250 : ¬ (z133.toInt = 0) := fun q => c250 (Int32.toInt_inj.mp q)
          refine Gl.iconst Y234 (v := (0 : Int32)) (by decide) at_257 rfl ?_
          have ez250 : z250 = (0 : Int32) := by rw [← hz250]; simp only [c250, ↓reduceIte, if_true, if_false]
          rw [ez250] at jk
          exact jk T234 Y234
        · have j250 : z133.toInt = 0 := congrArg Int32.toInt c250
          refine Gl.iconst Y234 (v := (1 : Int32)) (by decide) at_253 rfl ?_
          refine Gl.goto Y234 at_254 (by decide) rfl ?_
          have ez250 : z250 = (1 : Int32) := by rw [← hz250]; simp only [c250, ↓reduceIte, if_true, if_false]
          rw [ez250] at jk
          exact jk T234 Y234
      refine Gl.icmpne Y250j at_258 (by decide) rfl rfl (fun c258 => ?_) (fun c258 => ?_)
      · exfalso; have j258 : ¬ (r92.toInt = z250.toInt) := fun q => c258 (Int32.toInt_inj.mp q); omega
      have j258 : r92.toInt = z250.toInt := congrArg Int32.toInt c258
      refine Gl.iload Y250j rfl at_261 rfl ?_
      refine Gl.iload Y250j rfl at_263 rfl ?_
      refine Gl.icmpne Y250j at_265 (by decide) rfl rfl (fun c265 => ?_) (fun c265 => ?_)
      · exfalso; have j265 : ¬ (r101.toInt = z146.toInt) := fun q => c265 (Int32.toInt_inj.mp q); omega
      have j265 : r101.toInt = z146.toInt := congrArg Int32.toInt c265
      refine Gl.iload Y250j rfl at_268 rfl ?_
      refine Gl.iload Y250j rfl at_270 rfl ?_
      obtain ⟨z272, hz272⟩ : ∃ z : Int32, (if z146 = (0 : Int32) then (1 : Int32) else (0 : Int32)) = z := ⟨_, rfl⟩
      have iz272 : (z146.toInt = 0 ∧ (z272.toInt = 1)) ∨ (¬ (z146.toInt = 0) ∧ (z272.toInt = 0)) := own_ite (c := z146 = (0 : Int32)) (fun q6 => ⟨congrArg Int32.toInt q6, congrArg Int32.toInt (show z272 = (1 : Int32) from by rw [← hz272]; simp only [q6, ↓reduceIte, if_true, if_false, ite_self])⟩) (fun q6 => ⟨fun q => q6 (Int32.toInt_inj.mp q), congrArg Int32.toInt (show z272 = (0 : Int32) from by rw [← hz272]; simp only [q6, ↓reduceIte, if_true, if_false, ite_self])⟩)
      have bz272 : z272 = 0 ∨ z272 = 1 := by rw [← hz272]; (repeat' split) <;> first | (simp; done) | assumption
      refine own_cut (B := ∀ T', Sd Z "com/example/impatiens/impatiens/MatchBudgetSpendPinLaw" code maxLocals (some .boolean) n0 p l e room_1 s m #[(.long ni), (.long s1), (.long s2), (.long s3), (.int md)] below meth c T' h227 1 2 → Gl p e below (Pst s n0 room_1.cells room_1.slots (QL Z ni s1 s2 s3 md h0)) (T'.setTop (mkF m 280 #[.val (.long ni), .second, .val (.long s1), .second, .val (.long s2), .second, .val (.long s3), .second, .val (.int md), .val (.int z4), .val (.long (2305843009213693951 : Int64)), .second, .val (.long v47), .second, .val (.long v53), .second, .val (.long v60), .second, .val (.long v67), .second, .val (.ref b70), .val (.int r85), .val (.int r92), .val (.int r101), .val (.int r108), .val (.int r117), .val (.int r124), .val (.int z133), .val (.int z146), .val (.int z169), .val (.long v208), .second, .val (.int r219), .val (.int r227), .val (.int r234)] [(.int z272), (.int r108)]))) (fun jk => ?_) (fun T272j Y272j => ?_)
      · refine Gl.ifne Y250j at_272 (by decide) rfl rfl (fun c272 => ?_) (fun c272 => ?_)
        · have j272 : ¬ (z146.toInt = 0) := fun q => c272 (Int32.toInt_inj.mp q)
          refine Gl.iconst Y250j (v := (0 : Int32)) (by decide) at_279 rfl ?_
          have ez272 : z272 = (0 : Int32) := by rw [← hz272]; simp only [c272, ↓reduceIte, if_true, if_false]
          rw [ez272] at jk
          exact jk T250j Y250j
        · have j272 : z146.toInt = 0 := congrArg Int32.toInt c272
          refine Gl.iconst Y250j (v := (1 : Int32)) (by decide) at_275 rfl ?_
          refine Gl.goto Y250j at_276 (by decide) rfl ?_
          have ez272 : z272 = (1 : Int32) := by rw [← hz272]; simp only [c272, ↓reduceIte, if_true, if_false]
          rw [ez272] at jk
          exact jk T250j Y250j
      refine Gl.icmpne Y272j at_280 (by decide) rfl rfl (fun c280 => ?_) (fun c280 => ?_)
      · exfalso; have j280 : ¬ (r108.toInt = z272.toInt) := fun q => c280 (Int32.toInt_inj.mp q); omega
      have j280 : r108.toInt = z272.toInt := congrArg Int32.toInt c280
      refine Gl.iload Y272j rfl at_283 rfl ?_
      refine Gl.iload Y272j rfl at_285 rfl ?_
      refine Gl.icmpne Y272j at_287 (by decide) rfl rfl (fun c287 => ?_) (fun c287 => ?_)
      · exfalso; have j287 : ¬ (r117.toInt = z169.toInt) := fun q => c287 (Int32.toInt_inj.mp q); omega
      have j287 : r117.toInt = z169.toInt := congrArg Int32.toInt c287
      refine Gl.iload Y272j rfl at_290 rfl ?_
      refine Gl.iload Y272j rfl at_292 rfl ?_
      refine Gl.ifne Y272j at_294 (by decide) rfl rfl (fun c294 => ?_) (fun c294 => ?_)
      rotate_left
      · exact absurd c294 c195
      have j294 : ¬ (z169.toInt = 0) := fun q => c294 (Int32.toInt_inj.mp q)
      refine Gl.iconst Y272j (v := (0 : Int32)) (by decide) at_301 rfl ?_
      refine Gl.icmpne Y272j at_302 (by decide) rfl rfl (fun c302 => ?_) (fun c302 => ?_)
      · exfalso; have j302 : ¬ (r124.toInt = 0) := fun q => c302 (Int32.toInt_inj.mp q); omega
      have j302 : r124.toInt = 0 := congrArg Int32.toInt c302
      refine Gl.iload Y272j rfl at_305 rfl ?_
      refine Gl.iload Y272j rfl at_307 rfl ?_
      refine Gl.icmpne Y272j at_309 (by decide) rfl rfl (fun c309 => ?_) (fun c309 => ?_)
      · exfalso; have j309 : ¬ (r219.toInt = z169.toInt) := fun q => c309 (Int32.toInt_inj.mp q); omega
      have j309 : r219.toInt = z169.toInt := congrArg Int32.toInt c309
      refine Gl.iload Y272j rfl at_312 rfl ?_
      refine Gl.ifne Y272j at_314 (by decide) rfl rfl (fun c314 => ?_) (fun c314 => ?_)
      · exfalso; have j314 : ¬ (r227.toInt = 0) := fun q => c314 (Int32.toInt_inj.mp q); omega
      have j314 : r227.toInt = 0 := congrArg Int32.toInt c314
      refine Gl.iload Y272j rfl at_317 rfl ?_
      refine Gl.ifeq Y272j at_319 (by decide) rfl rfl (fun c319 => ?_) (fun c319 => ?_)
      · exfalso; have j319 : r234.toInt = 0 := congrArg Int32.toInt c319; omega
      have j319 : ¬ (r234.toInt = 0) := fun q => c319 (Int32.toInt_inj.mp q)
      refine Gl.iconst Y272j (v := (1 : Int32)) (by decide) at_322 rfl ?_
      refine Gl.goto Y272j at_323 (by decide) rfl ?_
      exact Gl.retZ Y272j (by decide) (by decide) (x' := (1 : Int32)) (by decide) at_327 rfl
  · have j16 : ¬ (z4.toInt = 0) := fun q => c16 (Int32.toInt_inj.mp q)
    refine Gl.ldcJ Y4j (tw_0 hw) at_19 rfl ?_
    refine Gl.goto Y4j at_22 (by decide) rfl ?_
    refine Gl.lstore Y4j (L' := #[.val (.long ni), .second, .val (.long s1), .second, .val (.long s2), .second, .val (.long s3), .second, .val (.int md), .val (.int z4), .val (.long (15 : Int64)), .second, .unset, .unset, .unset, .unset, .unset, .unset, .unset, .unset, .unset, .unset, .unset, .unset, .unset, .unset, .unset, .unset, .unset, .unset, .unset, .unset, .unset, .unset, .unset]) rfl at_28 rfl ?_
    refine Gl.iload Y4j rfl at_30 rfl ?_
    refine Gl.ifeq Y4j at_32 (by decide) rfl rfl (fun c32 => ?_) (fun c32 => ?_)
    · exact absurd c32 c16
    have j32 : ¬ (z4.toInt = 0) := fun q => c32 (Int32.toInt_inj.mp q)
    refine Gl.lloadN Y4j rfl at_35 rfl ?_
    refine Gl.ldcJ Y4j (tw_0 hw) at_36 rfl ?_
    obtain ⟨v39, hv39⟩ : ∃ z : Int64, ni &&& (15 : Int64) = z := ⟨_, rfl⟩
    have iv39 : v39.toInt = ni.toInt % 16 := by have q := c_maskL ni (15 : Int64) 4 (by decide) (by decide); rw [hv39] at q; exact q
    refine Gl.land Y4j hv39 at_39 rfl ?_
    refine Gl.goto Y4j at_40 (by decide) rfl ?_
    refine Gl.lstore Y4j (L' := #[.val (.long ni), .second, .val (.long s1), .second, .val (.long s2), .second, .val (.long s3), .second, .val (.int md), .val (.int z4), .val (.long (15 : Int64)), .second, .val (.long v39), .second, .unset, .unset, .unset, .unset, .unset, .unset, .unset, .unset, .unset, .unset, .unset, .unset, .unset, .unset, .unset, .unset, .unset, .unset, .unset, .unset, .unset]) rfl at_48 rfl ?_
    refine Gl.lloadN Y4j rfl at_50 rfl ?_
    refine Gl.lload Y4j rfl at_51 rfl ?_
    obtain ⟨v53, hv53⟩ : ∃ z : Int64, s1 &&& (15 : Int64) = z := ⟨_, rfl⟩
    have iv53 : v53.toInt = s1.toInt % 16 := by have q := c_maskL s1 (15 : Int64) 4 (by decide) (by decide); rw [hv53] at q; exact q
    refine Gl.land Y4j hv53 at_53 rfl ?_
    refine Gl.lstore Y4j (L' := #[.val (.long ni), .second, .val (.long s1), .second, .val (.long s2), .second, .val (.long s3), .second, .val (.int md), .val (.int z4), .val (.long (15 : Int64)), .second, .val (.long v39), .second, .val (.long v53), .second, .unset, .unset, .unset, .unset, .unset, .unset, .unset, .unset, .unset, .unset, .unset, .unset, .unset, .unset, .unset, .unset, .unset, .unset, .unset]) rfl at_54 rfl ?_
    refine Gl.lload Y4j rfl at_56 rfl ?_
    refine Gl.lload Y4j rfl at_58 rfl ?_
    obtain ⟨v60, hv60⟩ : ∃ z : Int64, s2 &&& (15 : Int64) = z := ⟨_, rfl⟩
    have iv60 : v60.toInt = s2.toInt % 16 := by have q := c_maskL s2 (15 : Int64) 4 (by decide) (by decide); rw [hv60] at q; exact q
    refine Gl.land Y4j hv60 at_60 rfl ?_
    refine Gl.lstore Y4j (L' := #[.val (.long ni), .second, .val (.long s1), .second, .val (.long s2), .second, .val (.long s3), .second, .val (.int md), .val (.int z4), .val (.long (15 : Int64)), .second, .val (.long v39), .second, .val (.long v53), .second, .val (.long v60), .second, .unset, .unset, .unset, .unset, .unset, .unset, .unset, .unset, .unset, .unset, .unset, .unset, .unset, .unset, .unset, .unset, .unset]) rfl at_61 rfl ?_
    refine Gl.lload Y4j rfl at_63 rfl ?_
    refine Gl.lload Y4j rfl at_65 rfl ?_
    obtain ⟨v67, hv67⟩ : ∃ z : Int64, s3 &&& (15 : Int64) = z := ⟨_, rfl⟩
    have iv67 : v67.toInt = s3.toInt % 16 := by have q := c_maskL s3 (15 : Int64) 4 (by decide) (by decide); rw [hv67] at q; exact q
    refine Gl.land Y4j hv67 at_67 rfl ?_
    refine Gl.lstore Y4j (L' := #[.val (.long ni), .second, .val (.long s1), .second, .val (.long s2), .second, .val (.long s3), .second, .val (.int md), .val (.int z4), .val (.long (15 : Int64)), .second, .val (.long v39), .second, .val (.long v53), .second, .val (.long v60), .second, .val (.long v67), .second, .unset, .unset, .unset, .unset, .unset, .unset, .unset, .unset, .unset, .unset, .unset, .unset, .unset, .unset, .unset]) rfl at_68 rfl ?_
    refine Gl.newO Y4j (tw_1 hw) (tw_2 hw) (tw_3 hw) (by decide) (by decide) at_70 rfl (fun T70 h70 b70 Y70 E70 g70 sb70 X70 D70 => ?_)
    have f7 : Fld Z h70 b70 "com/example/impatiens/impatiens/MatchBudget" "left" "J" (.long (0 : Int64)) := D70 (Or.inl (tw_11 hw)) (ty := .long) (by decide)
    have f8 : Fld Z h70 b70 "com/example/impatiens/impatiens/MatchBudget" "spent" "Z" (.int (0 : Int32)) := D70 (Or.inl (tw_18 hw)) (ty := .boolean) (by decide)
    show Gl p e below _ (T70.setTop (mkF m 73 #[.val (.long ni), .second, .val (.long s1), .second, .val (.long s2), .second, .val (.long s3), .second, .val (.int md), .val (.int z4), .val (.long (15 : Int64)), .second, .val (.long v39), .second, .val (.long v53), .second, .val (.long v60), .second, .val (.long v67), .second, .unset, .unset, .unset, .unset, .unset, .unset, .unset, .unset, .unset, .unset, .unset, .unset, .unset, .unset, .unset] [(.ref b70)]))
    refine Gl.dup Y70 rfl at_73 rfl ?_
    refine Gl.lload Y70 rfl at_74 rfl ?_
    refine Gl.callN Y70 rfl (tw_4 hw) (tw_5 hw) (tw_3 hw) (tw_6 hw) (by decide) (rm0 l Z a0 hw [] b70 v39 h70 n0 Y70.sz X70 f7 f8 sb70) (a := b70) (argsL := [(.long v39)]) (rest := [(.ref b70)]) rfl rfl (lenOf pd_0 rfl) rfl (by decide) (Nat.le_of_ble_eq_true rfl) (by decide) (by decide) at_76 rfl (fun v76 T76 h76 Y76 q76 => ?_)
    obtain ⟨rfl, K76, f76_0, f76_1, f76_2⟩ := q76
    show Gl p e below _ (T76.setTop (mkF m 79 #[.val (.long ni), .second, .val (.long s1), .second, .val (.long s2), .second, .val (.long s3), .second, .val (.int md), .val (.int z4), .val (.long (15 : Int64)), .second, .val (.long v39), .second, .val (.long v53), .second, .val (.long v60), .second, .val (.long v67), .second, .unset, .unset, .unset, .unset, .unset, .unset, .unset, .unset, .unset, .unset, .unset, .unset, .unset, .unset, .unset] [(.ref b70)]))
    refine Gl.astore Y76 rfl (L' := #[.val (.long ni), .second, .val (.long s1), .second, .val (.long s2), .second, .val (.long s3), .second, .val (.int md), .val (.int z4), .val (.long (15 : Int64)), .second, .val (.long v39), .second, .val (.long v53), .second, .val (.long v60), .second, .val (.long v67), .second, .val (.ref b70), .unset, .unset, .unset, .unset, .unset, .unset, .unset, .unset, .unset, .unset, .unset, .unset, .unset, .unset]) rfl at_79 rfl ?_
    refine Gl.aload Y76 rfl rfl at_81 rfl ?_
    refine Gl.lload Y76 rfl at_83 rfl ?_
    refine Gl.callV Y76 (tw_12 hw) (tw_13 hw) (tw_15 hw) (tw_15 hw) (tw_14 hw) (tw_3 hw) (tw_16 hw) (by decide) f76_0 (rm1 l Z a0 hw [] b70 v53 v39 (0 : Int32) h76 n0 Y76.sz f76_0 f76_1 f76_2 sb70 (by first | assumption | decide | omega | (simp; done)) (by first | assumption | decide | omega | (simp; done))) (a := b70) (argsL := [(.long v53)]) (rest := []) rfl rfl (lenOf pd_1 rfl) rfl (by decide) (Nat.le_of_ble_eq_true rfl) (by decide) (by decide) at_85 rfl (fun v85 T85 h85 Y85 q85 => ?_)
    obtain ⟨sq85, lq85, r85, rfl, p85, K85, f85_0, f85_1, f85_2⟩ := q85
    have kc9 : (0 : Int32).toInt = 0 := by decide
    have br85 : r85 = 0 ∨ r85 = 1 := p85.2.2
    show Gl p e below _ (T85.setTop (mkF m 88 #[.val (.long ni), .second, .val (.long s1), .second, .val (.long s2), .second, .val (.long s3), .second, .val (.int md), .val (.int z4), .val (.long (15 : Int64)), .second, .val (.long v39), .second, .val (.long v53), .second, .val (.long v60), .second, .val (.long v67), .second, .val (.ref b70), .unset, .unset, .unset, .unset, .unset, .unset, .unset, .unset, .unset, .unset, .unset, .unset, .unset, .unset] [(.int r85)]))
    refine Gl.istore Y85 (L' := #[.val (.long ni), .second, .val (.long s1), .second, .val (.long s2), .second, .val (.long s3), .second, .val (.int md), .val (.int z4), .val (.long (15 : Int64)), .second, .val (.long v39), .second, .val (.long v53), .second, .val (.long v60), .second, .val (.long v67), .second, .val (.ref b70), .val (.int r85), .unset, .unset, .unset, .unset, .unset, .unset, .unset, .unset, .unset, .unset, .unset, .unset, .unset]) rfl at_88 rfl ?_
    refine Gl.aload Y85 rfl rfl at_90 rfl ?_
    refine Gl.callV Y85 (tw_19 hw) (tw_20 hw) (tw_22 hw) (tw_22 hw) (tw_21 hw) (tw_3 hw) (tw_23 hw) (by decide) f85_0 (rm2 l Z a0 hw [] b70 sq85 h85 n0 Y85.sz f85_2 (p85.2.1)) (a := b70) (argsL := []) (rest := []) rfl rfl (lenOf pd_2 rfl) rfl (by decide) (Nat.le_of_ble_eq_true rfl) (by decide) (by decide) at_92 rfl (fun v92 T92 h92 Y92 q92 => ?_)
    obtain ⟨r92, rfl, p92, rfl⟩ := q92
    have br92 : r92 = 0 ∨ r92 = 1 := p92.2
    show Gl p e below _ (T92.setTop (mkF m 95 #[.val (.long ni), .second, .val (.long s1), .second, .val (.long s2), .second, .val (.long s3), .second, .val (.int md), .val (.int z4), .val (.long (15 : Int64)), .second, .val (.long v39), .second, .val (.long v53), .second, .val (.long v60), .second, .val (.long v67), .second, .val (.ref b70), .val (.int r85), .unset, .unset, .unset, .unset, .unset, .unset, .unset, .unset, .unset, .unset, .unset, .unset, .unset] [(.int r92)]))
    refine Gl.istore Y92 (L' := #[.val (.long ni), .second, .val (.long s1), .second, .val (.long s2), .second, .val (.long s3), .second, .val (.int md), .val (.int z4), .val (.long (15 : Int64)), .second, .val (.long v39), .second, .val (.long v53), .second, .val (.long v60), .second, .val (.long v67), .second, .val (.ref b70), .val (.int r85), .val (.int r92), .unset, .unset, .unset, .unset, .unset, .unset, .unset, .unset, .unset, .unset, .unset, .unset]) rfl at_95 rfl ?_
    refine Gl.aload Y92 rfl rfl at_97 rfl ?_
    refine Gl.lload Y92 rfl at_99 rfl ?_
    refine Gl.callV Y92 (tw_12 hw) (tw_13 hw) (tw_15 hw) (tw_15 hw) (tw_14 hw) (tw_3 hw) (tw_16 hw) (by decide) f85_0 (rm1 l Z a0 hw [] b70 v60 lq85 sq85 h85 n0 Y92.sz f85_0 f85_1 f85_2 sb70 (by first | assumption | decide | omega | (simp; done)) (by first | assumption | decide | omega | (simp; done))) (a := b70) (argsL := [(.long v60)]) (rest := []) rfl rfl (lenOf pd_1 rfl) rfl (by decide) (Nat.le_of_ble_eq_true rfl) (by decide) (by decide) at_101 rfl (fun v101 T101 h101 Y101 q101 => ?_)
    obtain ⟨sq101, lq101, r101, rfl, p101, K101, f101_0, f101_1, f101_2⟩ := q101
    have br101 : r101 = 0 ∨ r101 = 1 := p101.2.2
    show Gl p e below _ (T101.setTop (mkF m 104 #[.val (.long ni), .second, .val (.long s1), .second, .val (.long s2), .second, .val (.long s3), .second, .val (.int md), .val (.int z4), .val (.long (15 : Int64)), .second, .val (.long v39), .second, .val (.long v53), .second, .val (.long v60), .second, .val (.long v67), .second, .val (.ref b70), .val (.int r85), .val (.int r92), .unset, .unset, .unset, .unset, .unset, .unset, .unset, .unset, .unset, .unset, .unset, .unset] [(.int r101)]))
    refine Gl.istore Y101 (L' := #[.val (.long ni), .second, .val (.long s1), .second, .val (.long s2), .second, .val (.long s3), .second, .val (.int md), .val (.int z4), .val (.long (15 : Int64)), .second, .val (.long v39), .second, .val (.long v53), .second, .val (.long v60), .second, .val (.long v67), .second, .val (.ref b70), .val (.int r85), .val (.int r92), .val (.int r101), .unset, .unset, .unset, .unset, .unset, .unset, .unset, .unset, .unset, .unset, .unset]) rfl at_104 rfl ?_
    refine Gl.aload Y101 rfl rfl at_106 rfl ?_
    refine Gl.callV Y101 (tw_19 hw) (tw_20 hw) (tw_22 hw) (tw_22 hw) (tw_21 hw) (tw_3 hw) (tw_23 hw) (by decide) f101_0 (rm2 l Z a0 hw [] b70 sq101 h101 n0 Y101.sz f101_2 (p101.2.1)) (a := b70) (argsL := []) (rest := []) rfl rfl (lenOf pd_2 rfl) rfl (by decide) (Nat.le_of_ble_eq_true rfl) (by decide) (by decide) at_108 rfl (fun v108 T108 h108 Y108 q108 => ?_)
    obtain ⟨r108, rfl, p108, rfl⟩ := q108
    have br108 : r108 = 0 ∨ r108 = 1 := p108.2
    show Gl p e below _ (T108.setTop (mkF m 111 #[.val (.long ni), .second, .val (.long s1), .second, .val (.long s2), .second, .val (.long s3), .second, .val (.int md), .val (.int z4), .val (.long (15 : Int64)), .second, .val (.long v39), .second, .val (.long v53), .second, .val (.long v60), .second, .val (.long v67), .second, .val (.ref b70), .val (.int r85), .val (.int r92), .val (.int r101), .unset, .unset, .unset, .unset, .unset, .unset, .unset, .unset, .unset, .unset, .unset] [(.int r108)]))
    refine Gl.istore Y108 (L' := #[.val (.long ni), .second, .val (.long s1), .second, .val (.long s2), .second, .val (.long s3), .second, .val (.int md), .val (.int z4), .val (.long (15 : Int64)), .second, .val (.long v39), .second, .val (.long v53), .second, .val (.long v60), .second, .val (.long v67), .second, .val (.ref b70), .val (.int r85), .val (.int r92), .val (.int r101), .val (.int r108), .unset, .unset, .unset, .unset, .unset, .unset, .unset, .unset, .unset, .unset]) rfl at_111 rfl ?_
    refine Gl.aload Y108 rfl rfl at_113 rfl ?_
    refine Gl.lload Y108 rfl at_115 rfl ?_
    refine Gl.callV Y108 (tw_12 hw) (tw_13 hw) (tw_15 hw) (tw_15 hw) (tw_14 hw) (tw_3 hw) (tw_16 hw) (by decide) f101_0 (rm1 l Z a0 hw [] b70 v67 lq101 sq101 h101 n0 Y108.sz f101_0 f101_1 f101_2 sb70 (by first | assumption | decide | omega | (simp; done)) (by first | assumption | decide | omega | (simp; done))) (a := b70) (argsL := [(.long v67)]) (rest := []) rfl rfl (lenOf pd_1 rfl) rfl (by decide) (Nat.le_of_ble_eq_true rfl) (by decide) (by decide) at_117 rfl (fun v117 T117 h117 Y117 q117 => ?_)
    obtain ⟨sq117, lq117, r117, rfl, p117, K117, f117_0, f117_1, f117_2⟩ := q117
    have br117 : r117 = 0 ∨ r117 = 1 := p117.2.2
    show Gl p e below _ (T117.setTop (mkF m 120 #[.val (.long ni), .second, .val (.long s1), .second, .val (.long s2), .second, .val (.long s3), .second, .val (.int md), .val (.int z4), .val (.long (15 : Int64)), .second, .val (.long v39), .second, .val (.long v53), .second, .val (.long v60), .second, .val (.long v67), .second, .val (.ref b70), .val (.int r85), .val (.int r92), .val (.int r101), .val (.int r108), .unset, .unset, .unset, .unset, .unset, .unset, .unset, .unset, .unset, .unset] [(.int r117)]))
    refine Gl.istore Y117 (L' := #[.val (.long ni), .second, .val (.long s1), .second, .val (.long s2), .second, .val (.long s3), .second, .val (.int md), .val (.int z4), .val (.long (15 : Int64)), .second, .val (.long v39), .second, .val (.long v53), .second, .val (.long v60), .second, .val (.long v67), .second, .val (.ref b70), .val (.int r85), .val (.int r92), .val (.int r101), .val (.int r108), .val (.int r117), .unset, .unset, .unset, .unset, .unset, .unset, .unset, .unset, .unset]) rfl at_120 rfl ?_
    refine Gl.aload Y117 rfl rfl at_122 rfl ?_
    refine Gl.callV Y117 (tw_19 hw) (tw_20 hw) (tw_22 hw) (tw_22 hw) (tw_21 hw) (tw_3 hw) (tw_23 hw) (by decide) f117_0 (rm2 l Z a0 hw [] b70 sq117 h117 n0 Y117.sz f117_2 (p117.2.1)) (a := b70) (argsL := []) (rest := []) rfl rfl (lenOf pd_2 rfl) rfl (by decide) (Nat.le_of_ble_eq_true rfl) (by decide) (by decide) at_124 rfl (fun v124 T124 h124 Y124 q124 => ?_)
    obtain ⟨r124, rfl, p124, rfl⟩ := q124
    have br124 : r124 = 0 ∨ r124 = 1 := p124.2
    show Gl p e below _ (T124.setTop (mkF m 127 #[.val (.long ni), .second, .val (.long s1), .second, .val (.long s2), .second, .val (.long s3), .second, .val (.int md), .val (.int z4), .val (.long (15 : Int64)), .second, .val (.long v39), .second, .val (.long v53), .second, .val (.long v60), .second, .val (.long v67), .second, .val (.ref b70), .val (.int r85), .val (.int r92), .val (.int r101), .val (.int r108), .val (.int r117), .unset, .unset, .unset, .unset, .unset, .unset, .unset, .unset, .unset] [(.int r124)]))
    refine Gl.istore Y124 (L' := #[.val (.long ni), .second, .val (.long s1), .second, .val (.long s2), .second, .val (.long s3), .second, .val (.int md), .val (.int z4), .val (.long (15 : Int64)), .second, .val (.long v39), .second, .val (.long v53), .second, .val (.long v60), .second, .val (.long v67), .second, .val (.ref b70), .val (.int r85), .val (.int r92), .val (.int r101), .val (.int r108), .val (.int r117), .val (.int r124), .unset, .unset, .unset, .unset, .unset, .unset, .unset, .unset]) rfl at_127 rfl ?_
    refine Gl.lload Y124 rfl at_129 rfl ?_
    refine Gl.lload Y124 rfl at_131 rfl ?_
    obtain ⟨z133, hz133⟩ : ∃ z : Int32, (if v39 < v53 then (0 : Int32) else (1 : Int32)) = z := ⟨_, rfl⟩
    have iz133 : (v39.toInt < v53.toInt ∧ (z133.toInt = 0)) ∨ (¬ (v39.toInt < v53.toInt) ∧ (z133.toInt = 1)) := own_ite (c := v39 < v53) (fun q2 => ⟨Int64.lt_iff_toInt_lt.mp q2, congrArg Int32.toInt (show z133 = (0 : Int32) from by rw [← hz133]; simp only [q2, ↓reduceIte, if_true, if_false, ite_self])⟩) (fun q2 => ⟨fun q => q2 (Int64.lt_iff_toInt_lt.mpr q), congrArg Int32.toInt (show z133 = (1 : Int32) from by rw [← hz133]; simp only [q2, ↓reduceIte, if_true, if_false, ite_self])⟩)
    have bz133 : z133 = 0 ∨ z133 = 1 := by rw [← hz133]; (repeat' split) <;> first | (simp; done) | assumption
    refine own_cut (B := ∀ T', Sd Z "com/example/impatiens/impatiens/MatchBudgetSpendPinLaw" code maxLocals (some .boolean) n0 p l e room_1 s m #[(.long ni), (.long s1), (.long s2), (.long s3), (.int md)] below meth c T' h117 1 2 → Gl p e below (Pst s n0 room_1.cells room_1.slots (QL Z ni s1 s2 s3 md h0)) (T'.setTop (mkF m 142 #[.val (.long ni), .second, .val (.long s1), .second, .val (.long s2), .second, .val (.long s3), .second, .val (.int md), .val (.int z4), .val (.long (15 : Int64)), .second, .val (.long v39), .second, .val (.long v53), .second, .val (.long v60), .second, .val (.long v67), .second, .val (.ref b70), .val (.int r85), .val (.int r92), .val (.int r101), .val (.int r108), .val (.int r117), .val (.int r124), .unset, .unset, .unset, .unset, .unset, .unset, .unset, .unset] [(.int z133)]))) (fun jk => ?_) (fun T133j Y133j => ?_)
    · refine Gl.lcmpgt Y124 at_133 rfl at_134 (by decide) rfl rfl (fun c134 => ?_) (fun c134 => ?_)
      · have j134 : v39.toInt < v53.toInt := Int64.lt_iff_toInt_lt.mp c134
        refine Gl.iconst Y124 (v := (0 : Int32)) (by decide) at_141 rfl ?_
        have ez133 : z133 = (0 : Int32) := by rw [← hz133]; simp only [c134, ↓reduceIte, if_true, if_false]
        rw [ez133] at jk
        exact jk T124 Y124
      · have j134 : ¬ (v39.toInt < v53.toInt) := fun q => c134 (Int64.lt_iff_toInt_lt.mpr q)
        refine Gl.iconst Y124 (v := (1 : Int32)) (by decide) at_137 rfl ?_
        refine Gl.goto Y124 at_138 (by decide) rfl ?_
        have ez133 : z133 = (1 : Int32) := by rw [← hz133]; simp only [c134, ↓reduceIte, if_true, if_false]
        rw [ez133] at jk
        exact jk T124 Y124
    refine Gl.istore Y133j (L' := #[.val (.long ni), .second, .val (.long s1), .second, .val (.long s2), .second, .val (.long s3), .second, .val (.int md), .val (.int z4), .val (.long (15 : Int64)), .second, .val (.long v39), .second, .val (.long v53), .second, .val (.long v60), .second, .val (.long v67), .second, .val (.ref b70), .val (.int r85), .val (.int r92), .val (.int r101), .val (.int r108), .val (.int r117), .val (.int r124), .val (.int z133), .unset, .unset, .unset, .unset, .unset, .unset, .unset]) rfl at_142 rfl ?_
    refine Gl.iload Y133j rfl at_144 rfl ?_
    obtain ⟨v153, hv153⟩ : ∃ z : Int64, v53 + v60 = z := ⟨_, rfl⟩
    have iv153 : v153.toInt = v53.toInt + v60.toInt := by
      have q : (v153.toInt - (v53.toInt + v60.toInt)) % 18446744073709551616 = 0 := by have q := c_ladd v53 v60; rw [hv153] at q; exact q
      have r := rng64 v153
      omega
    obtain ⟨z146, hz146⟩ : ∃ z : Int32, (if z133 = (0 : Int32) then (0 : Int32) else (if v39 < v153 then (0 : Int32) else (1 : Int32))) = z := ⟨_, rfl⟩
    have iz146 : (z133.toInt = 0 ∧ (z146.toInt = 0)) ∨ (¬ (z133.toInt = 0) ∧ ((v39.toInt < v153.toInt ∧ (z146.toInt = 0)) ∨ (¬ (v39.toInt < v153.toInt) ∧ (z146.toInt = 1)))) := own_ite (c := z133 = (0 : Int32)) (fun q2 => ⟨congrArg Int32.toInt q2, congrArg Int32.toInt (show z146 = (0 : Int32) from by rw [← hz146]; simp only [q2, ↓reduceIte, if_true, if_false, ite_self])⟩) (fun q2 => ⟨fun q => q2 (Int32.toInt_inj.mp q), own_ite (c := v39 < v153) (fun q3 => ⟨Int64.lt_iff_toInt_lt.mp q3, congrArg Int32.toInt (show z146 = (0 : Int32) from by rw [← hz146]; simp only [q2, q3, ↓reduceIte, if_true, if_false, ite_self])⟩) (fun q3 => ⟨fun q => q3 (Int64.lt_iff_toInt_lt.mpr q), congrArg Int32.toInt (show z146 = (1 : Int32) from by rw [← hz146]; simp only [q2, q3, ↓reduceIte, if_true, if_false, ite_self])⟩)⟩)
    have bz146 : z146 = 0 ∨ z146 = 1 := by rw [← hz146]; (repeat' split) <;> first | (simp; done) | assumption
    refine own_cut (B := ∀ T', Sd Z "com/example/impatiens/impatiens/MatchBudgetSpendPinLaw" code maxLocals (some .boolean) n0 p l e room_1 s m #[(.long ni), (.long s1), (.long s2), (.long s3), (.int md)] below meth c T' h117 1 2 → Gl p e below (Pst s n0 room_1.cells room_1.slots (QL Z ni s1 s2 s3 md h0)) (T'.setTop (mkF m 165 #[.val (.long ni), .second, .val (.long s1), .second, .val (.long s2), .second, .val (.long s3), .second, .val (.int md), .val (.int z4), .val (.long (15 : Int64)), .second, .val (.long v39), .second, .val (.long v53), .second, .val (.long v60), .second, .val (.long v67), .second, .val (.ref b70), .val (.int r85), .val (.int r92), .val (.int r101), .val (.int r108), .val (.int r117), .val (.int r124), .val (.int z133), .unset, .unset, .unset, .unset, .unset, .unset, .unset] [(.int z146)]))) (fun jk => ?_) (fun T146j Y146j => ?_)
    · refine Gl.ifeq Y133j at_146 (by decide) rfl rfl (fun c146 => ?_) (fun c146 => ?_)
      · have j146 : z133.toInt = 0 := congrArg Int32.toInt c146
        refine Gl.iconst Y133j (v := (0 : Int32)) (by decide) at_164 rfl ?_
        have ez146 : z146 = (0 : Int32) := by rw [← hz146]; simp only [c146, ↓reduceIte, if_true, if_false]
        rw [ez146] at jk
        exact jk T133j Y133j
      · have j146 : ¬ (z133.toInt = 0) := fun q => c146 (Int32.toInt_inj.mp q)
        refine Gl.lload Y133j rfl at_149 rfl ?_
        refine Gl.lload Y133j rfl at_151 rfl ?_
        refine Gl.ladd Y133j hv153 at_153 rfl ?_
        refine Gl.lload Y133j rfl at_154 rfl ?_
        refine Gl.lcmpgt Y133j at_156 rfl at_157 (by decide) rfl rfl (fun c157 => ?_) (fun c157 => ?_)
        · have j157 : v39.toInt < v153.toInt := Int64.lt_iff_toInt_lt.mp c157
          refine Gl.iconst Y133j (v := (0 : Int32)) (by decide) at_164 rfl ?_
          have ez146 : z146 = (0 : Int32) := by rw [← hz146]; simp only [c146, c157, ↓reduceIte, if_true, if_false]
          rw [ez146] at jk
          exact jk T133j Y133j
        · have j157 : ¬ (v39.toInt < v153.toInt) := fun q => c157 (Int64.lt_iff_toInt_lt.mpr q)
          refine Gl.iconst Y133j (v := (1 : Int32)) (by decide) at_160 rfl ?_
          refine Gl.goto Y133j at_161 (by decide) rfl ?_
          have ez146 : z146 = (1 : Int32) := by rw [← hz146]; simp only [c146, c157, ↓reduceIte, if_true, if_false]
          rw [ez146] at jk
          exact jk T133j Y133j
    refine Gl.istore Y146j (L' := #[.val (.long ni), .second, .val (.long s1), .second, .val (.long s2), .second, .val (.long s3), .second, .val (.int md), .val (.int z4), .val (.long (15 : Int64)), .second, .val (.long v39), .second, .val (.long v53), .second, .val (.long v60), .second, .val (.long v67), .second, .val (.ref b70), .val (.int r85), .val (.int r92), .val (.int r101), .val (.int r108), .val (.int r117), .val (.int r124), .val (.int z133), .val (.int z146), .unset, .unset, .unset, .unset, .unset, .unset]) rfl at_165 rfl ?_
    refine Gl.iload Y146j rfl at_167 rfl ?_
    obtain ⟨v176, hv176⟩ : ∃ z : Int64, v53 + v60 = z := ⟨_, rfl⟩
    have iv176 : v176.toInt = v53.toInt + v60.toInt := by
      have q : (v176.toInt - (v53.toInt + v60.toInt)) % 18446744073709551616 = 0 := by have q := c_ladd v53 v60; rw [hv176] at q; exact q
      have r := rng64 v176
      omega
    obtain ⟨v179, hv179⟩ : ∃ z : Int64, v176 + v67 = z := ⟨_, rfl⟩
    have iv179 : v179.toInt = v176.toInt + v67.toInt := by
      have q : (v179.toInt - (v176.toInt + v67.toInt)) % 18446744073709551616 = 0 := by have q := c_ladd v176 v67; rw [hv179] at q; exact q
      have r := rng64 v179
      omega
    obtain ⟨z169, hz169⟩ : ∃ z : Int32, (if z146 = (0 : Int32) then (0 : Int32) else (if v39 < v179 then (0 : Int32) else (1 : Int32))) = z := ⟨_, rfl⟩
    have iz169 : (z146.toInt = 0 ∧ (z169.toInt = 0)) ∨ (¬ (z146.toInt = 0) ∧ ((v39.toInt < v179.toInt ∧ (z169.toInt = 0)) ∨ (¬ (v39.toInt < v179.toInt) ∧ (z169.toInt = 1)))) := own_ite (c := z146 = (0 : Int32)) (fun q2 => ⟨congrArg Int32.toInt q2, congrArg Int32.toInt (show z169 = (0 : Int32) from by rw [← hz169]; simp only [q2, ↓reduceIte, if_true, if_false, ite_self])⟩) (fun q2 => ⟨fun q => q2 (Int32.toInt_inj.mp q), own_ite (c := v39 < v179) (fun q3 => ⟨Int64.lt_iff_toInt_lt.mp q3, congrArg Int32.toInt (show z169 = (0 : Int32) from by rw [← hz169]; simp only [q2, q3, ↓reduceIte, if_true, if_false, ite_self])⟩) (fun q3 => ⟨fun q => q3 (Int64.lt_iff_toInt_lt.mpr q), congrArg Int32.toInt (show z169 = (1 : Int32) from by rw [← hz169]; simp only [q2, q3, ↓reduceIte, if_true, if_false, ite_self])⟩)⟩)
    have bz169 : z169 = 0 ∨ z169 = 1 := by rw [← hz169]; (repeat' split) <;> first | (simp; done) | assumption
    refine own_cut (B := ∀ T', Sd Z "com/example/impatiens/impatiens/MatchBudgetSpendPinLaw" code maxLocals (some .boolean) n0 p l e room_1 s m #[(.long ni), (.long s1), (.long s2), (.long s3), (.int md)] below meth c T' h117 1 2 → Gl p e below (Pst s n0 room_1.cells room_1.slots (QL Z ni s1 s2 s3 md h0)) (T'.setTop (mkF m 191 #[.val (.long ni), .second, .val (.long s1), .second, .val (.long s2), .second, .val (.long s3), .second, .val (.int md), .val (.int z4), .val (.long (15 : Int64)), .second, .val (.long v39), .second, .val (.long v53), .second, .val (.long v60), .second, .val (.long v67), .second, .val (.ref b70), .val (.int r85), .val (.int r92), .val (.int r101), .val (.int r108), .val (.int r117), .val (.int r124), .val (.int z133), .val (.int z146), .unset, .unset, .unset, .unset, .unset, .unset] [(.int z169)]))) (fun jk => ?_) (fun T169j Y169j => ?_)
    · refine Gl.ifeq Y146j at_169 (by decide) rfl rfl (fun c169 => ?_) (fun c169 => ?_)
      · have j169 : z146.toInt = 0 := congrArg Int32.toInt c169
        refine Gl.iconst Y146j (v := (0 : Int32)) (by decide) at_190 rfl ?_
        have ez169 : z169 = (0 : Int32) := by rw [← hz169]; simp only [c169, ↓reduceIte, if_true, if_false]
        rw [ez169] at jk
        exact jk T146j Y146j
      · have j169 : ¬ (z146.toInt = 0) := fun q => c169 (Int32.toInt_inj.mp q)
        refine Gl.lload Y146j rfl at_172 rfl ?_
        refine Gl.lload Y146j rfl at_174 rfl ?_
        refine Gl.ladd Y146j hv176 at_176 rfl ?_
        refine Gl.lload Y146j rfl at_177 rfl ?_
        refine Gl.ladd Y146j hv179 at_179 rfl ?_
        refine Gl.lload Y146j rfl at_180 rfl ?_
        refine Gl.lcmpgt Y146j at_182 rfl at_183 (by decide) rfl rfl (fun c183 => ?_) (fun c183 => ?_)
        · have j183 : v39.toInt < v179.toInt := Int64.lt_iff_toInt_lt.mp c183
          refine Gl.iconst Y146j (v := (0 : Int32)) (by decide) at_190 rfl ?_
          have ez169 : z169 = (0 : Int32) := by rw [← hz169]; simp only [c169, c183, ↓reduceIte, if_true, if_false]
          rw [ez169] at jk
          exact jk T146j Y146j
        · have j183 : ¬ (v39.toInt < v179.toInt) := fun q => c183 (Int64.lt_iff_toInt_lt.mpr q)
          refine Gl.iconst Y146j (v := (1 : Int32)) (by decide) at_186 rfl ?_
          refine Gl.goto Y146j at_187 (by decide) rfl ?_
          have ez169 : z169 = (1 : Int32) := by rw [← hz169]; simp only [c169, c183, ↓reduceIte, if_true, if_false]
          rw [ez169] at jk
          exact jk T146j Y146j
    refine Gl.istore Y169j (L' := #[.val (.long ni), .second, .val (.long s1), .second, .val (.long s2), .second, .val (.long s3), .second, .val (.int md), .val (.int z4), .val (.long (15 : Int64)), .second, .val (.long v39), .second, .val (.long v53), .second, .val (.long v60), .second, .val (.long v67), .second, .val (.ref b70), .val (.int r85), .val (.int r92), .val (.int r101), .val (.int r108), .val (.int r117), .val (.int r124), .val (.int z133), .val (.int z146), .val (.int z169), .unset, .unset, .unset, .unset, .unset]) rfl at_191 rfl ?_
    refine Gl.iload Y169j rfl at_193 rfl ?_
    refine Gl.ifeq Y169j at_195 (by decide) rfl rfl (fun c195 => ?_) (fun c195 => ?_)
    · have j195 : z169.toInt = 0 := congrArg Int32.toInt c195
      refine Gl.lconst Y169j (v := (0 : Int64)) (by decide) at_212 rfl ?_
      refine Gl.lstore Y169j (L' := #[.val (.long ni), .second, .val (.long s1), .second, .val (.long s2), .second, .val (.long s3), .second, .val (.int md), .val (.int z4), .val (.long (15 : Int64)), .second, .val (.long v39), .second, .val (.long v53), .second, .val (.long v60), .second, .val (.long v67), .second, .val (.ref b70), .val (.int r85), .val (.int r92), .val (.int r101), .val (.int r108), .val (.int r117), .val (.int r124), .val (.int z133), .val (.int z146), .val (.int z169), .val (.long (0 : Int64)), .second, .unset, .unset, .unset]) rfl at_213 rfl ?_
      refine Gl.aload Y169j rfl rfl at_215 rfl ?_
      refine Gl.lload Y169j rfl at_217 rfl ?_
      refine Gl.callV Y169j (tw_12 hw) (tw_13 hw) (tw_15 hw) (tw_15 hw) (tw_14 hw) (tw_3 hw) (tw_16 hw) (by decide) f117_0 (rm1 l Z a0 hw [] b70 (0 : Int64) lq117 sq117 h117 n0 Y169j.sz f117_0 f117_1 f117_2 sb70 (by first | assumption | decide | omega | (simp; done)) (by first | assumption | decide | omega | (simp; done))) (a := b70) (argsL := [(.long (0 : Int64))]) (rest := []) rfl rfl (lenOf pd_1 rfl) rfl (by decide) (Nat.le_of_ble_eq_true rfl) (by decide) (by decide) at_219 rfl (fun v219 T219 h219 Y219 q219 => ?_)
      obtain ⟨sq219, lq219, r219, rfl, p219, K219, f219_0, f219_1, f219_2⟩ := q219
      have kc10 : (0 : Int64).toInt = 0 := by decide
      have br219 : r219 = 0 ∨ r219 = 1 := p219.2.2
      show Gl p e below _ (T219.setTop (mkF m 222 #[.val (.long ni), .second, .val (.long s1), .second, .val (.long s2), .second, .val (.long s3), .second, .val (.int md), .val (.int z4), .val (.long (15 : Int64)), .second, .val (.long v39), .second, .val (.long v53), .second, .val (.long v60), .second, .val (.long v67), .second, .val (.ref b70), .val (.int r85), .val (.int r92), .val (.int r101), .val (.int r108), .val (.int r117), .val (.int r124), .val (.int z133), .val (.int z146), .val (.int z169), .val (.long (0 : Int64)), .second, .unset, .unset, .unset] [(.int r219)]))
      refine Gl.istore Y219 (L' := #[.val (.long ni), .second, .val (.long s1), .second, .val (.long s2), .second, .val (.long s3), .second, .val (.int md), .val (.int z4), .val (.long (15 : Int64)), .second, .val (.long v39), .second, .val (.long v53), .second, .val (.long v60), .second, .val (.long v67), .second, .val (.ref b70), .val (.int r85), .val (.int r92), .val (.int r101), .val (.int r108), .val (.int r117), .val (.int r124), .val (.int z133), .val (.int z146), .val (.int z169), .val (.long (0 : Int64)), .second, .val (.int r219), .unset, .unset]) rfl at_222 rfl ?_
      refine Gl.aload Y219 rfl rfl at_224 rfl ?_
      refine Gl.lconst Y219 (v := (1 : Int64)) (by decide) at_226 rfl ?_
      refine Gl.callV Y219 (tw_12 hw) (tw_13 hw) (tw_15 hw) (tw_15 hw) (tw_14 hw) (tw_3 hw) (tw_16 hw) (by decide) f219_0 (rm1 l Z a0 hw [] b70 (1 : Int64) lq219 sq219 h219 n0 Y219.sz f219_0 f219_1 f219_2 sb70 (by first | assumption | decide | omega | (simp; done)) (by first | assumption | decide | omega | (simp; done))) (a := b70) (argsL := [(.long (1 : Int64))]) (rest := []) rfl rfl (lenOf pd_1 rfl) rfl (by decide) (Nat.le_of_ble_eq_true rfl) (by decide) (by decide) at_227 rfl (fun v227 T227 h227 Y227 q227 => ?_)
      obtain ⟨sq227, lq227, r227, rfl, p227, K227, f227_0, f227_1, f227_2⟩ := q227
      have kc11 : (1 : Int64).toInt = 1 := by decide
      have br227 : r227 = 0 ∨ r227 = 1 := p227.2.2
      show Gl p e below _ (T227.setTop (mkF m 230 #[.val (.long ni), .second, .val (.long s1), .second, .val (.long s2), .second, .val (.long s3), .second, .val (.int md), .val (.int z4), .val (.long (15 : Int64)), .second, .val (.long v39), .second, .val (.long v53), .second, .val (.long v60), .second, .val (.long v67), .second, .val (.ref b70), .val (.int r85), .val (.int r92), .val (.int r101), .val (.int r108), .val (.int r117), .val (.int r124), .val (.int z133), .val (.int z146), .val (.int z169), .val (.long (0 : Int64)), .second, .val (.int r219), .unset, .unset] [(.int r227)]))
      refine Gl.istore Y227 (L' := #[.val (.long ni), .second, .val (.long s1), .second, .val (.long s2), .second, .val (.long s3), .second, .val (.int md), .val (.int z4), .val (.long (15 : Int64)), .second, .val (.long v39), .second, .val (.long v53), .second, .val (.long v60), .second, .val (.long v67), .second, .val (.ref b70), .val (.int r85), .val (.int r92), .val (.int r101), .val (.int r108), .val (.int r117), .val (.int r124), .val (.int z133), .val (.int z146), .val (.int z169), .val (.long (0 : Int64)), .second, .val (.int r219), .val (.int r227), .unset]) rfl at_230 rfl ?_
      refine Gl.aload Y227 rfl rfl at_232 rfl ?_
      refine Gl.callV Y227 (tw_19 hw) (tw_20 hw) (tw_22 hw) (tw_22 hw) (tw_21 hw) (tw_3 hw) (tw_23 hw) (by decide) f227_0 (rm2 l Z a0 hw [] b70 sq227 h227 n0 Y227.sz f227_2 (p227.2.1)) (a := b70) (argsL := []) (rest := []) rfl rfl (lenOf pd_2 rfl) rfl (by decide) (Nat.le_of_ble_eq_true rfl) (by decide) (by decide) at_234 rfl (fun v234 T234 h234 Y234 q234 => ?_)
      obtain ⟨r234, rfl, p234, rfl⟩ := q234
      have br234 : r234 = 0 ∨ r234 = 1 := p234.2
      show Gl p e below _ (T234.setTop (mkF m 237 #[.val (.long ni), .second, .val (.long s1), .second, .val (.long s2), .second, .val (.long s3), .second, .val (.int md), .val (.int z4), .val (.long (15 : Int64)), .second, .val (.long v39), .second, .val (.long v53), .second, .val (.long v60), .second, .val (.long v67), .second, .val (.ref b70), .val (.int r85), .val (.int r92), .val (.int r101), .val (.int r108), .val (.int r117), .val (.int r124), .val (.int z133), .val (.int z146), .val (.int z169), .val (.long (0 : Int64)), .second, .val (.int r219), .val (.int r227), .unset] [(.int r234)]))
      refine Gl.istore Y234 (L' := #[.val (.long ni), .second, .val (.long s1), .second, .val (.long s2), .second, .val (.long s3), .second, .val (.int md), .val (.int z4), .val (.long (15 : Int64)), .second, .val (.long v39), .second, .val (.long v53), .second, .val (.long v60), .second, .val (.long v67), .second, .val (.ref b70), .val (.int r85), .val (.int r92), .val (.int r101), .val (.int r108), .val (.int r117), .val (.int r124), .val (.int z133), .val (.int z146), .val (.int z169), .val (.long (0 : Int64)), .second, .val (.int r219), .val (.int r227), .val (.int r234)]) rfl at_237 rfl ?_
      refine Gl.iload Y234 rfl at_239 rfl ?_
      refine Gl.iload Y234 rfl at_241 rfl ?_
      refine Gl.icmpne Y234 at_243 (by decide) rfl rfl (fun c243 => ?_) (fun c243 => ?_)
      · exfalso; have j243 : ¬ (r85.toInt = z133.toInt) := fun q => c243 (Int32.toInt_inj.mp q); omega
      have j243 : r85.toInt = z133.toInt := congrArg Int32.toInt c243
      refine Gl.iload Y234 rfl at_246 rfl ?_
      refine Gl.iload Y234 rfl at_248 rfl ?_
      obtain ⟨z250, hz250⟩ : ∃ z : Int32, (if z133 = (0 : Int32) then (1 : Int32) else (0 : Int32)) = z := ⟨_, rfl⟩
      have iz250 : (z133.toInt = 0 ∧ (z250.toInt = 1)) ∨ (¬ (z133.toInt = 0) ∧ (z250.toInt = 0)) := own_ite (c := z133 = (0 : Int32)) (fun q4 => ⟨congrArg Int32.toInt q4, congrArg Int32.toInt (show z250 = (1 : Int32) from by rw [← hz250]; simp only [q4, ↓reduceIte, if_true, if_false, ite_self])⟩) (fun q4 => ⟨fun q => q4 (Int32.toInt_inj.mp q), congrArg Int32.toInt (show z250 = (0 : Int32) from by rw [← hz250]; simp only [q4, ↓reduceIte, if_true, if_false, ite_self])⟩)
      have bz250 : z250 = 0 ∨ z250 = 1 := by rw [← hz250]; (repeat' split) <;> first | (simp; done) | assumption
      refine own_cut (B := ∀ T', Sd Z "com/example/impatiens/impatiens/MatchBudgetSpendPinLaw" code maxLocals (some .boolean) n0 p l e room_1 s m #[(.long ni), (.long s1), (.long s2), (.long s3), (.int md)] below meth c T' h227 1 2 → Gl p e below (Pst s n0 room_1.cells room_1.slots (QL Z ni s1 s2 s3 md h0)) (T'.setTop (mkF m 258 #[.val (.long ni), .second, .val (.long s1), .second, .val (.long s2), .second, .val (.long s3), .second, .val (.int md), .val (.int z4), .val (.long (15 : Int64)), .second, .val (.long v39), .second, .val (.long v53), .second, .val (.long v60), .second, .val (.long v67), .second, .val (.ref b70), .val (.int r85), .val (.int r92), .val (.int r101), .val (.int r108), .val (.int r117), .val (.int r124), .val (.int z133), .val (.int z146), .val (.int z169), .val (.long (0 : Int64)), .second, .val (.int r219), .val (.int r227), .val (.int r234)] [(.int z250), (.int r92)]))) (fun jk => ?_) (fun T250j Y250j => ?_)
      · refine Gl.ifne Y234 at_250 (by decide) rfl rfl (fun c250 => ?_) (fun c250 => ?_)
        · have j250 : ¬ (z133.toInt = 0) := fun q => c250 (Int32.toInt_inj.mp q)
          refine Gl.iconst Y234 (v := (0 : Int32)) (by decide) at_257 rfl ?_
          have ez250 : z250 = (0 : Int32) := by rw [← hz250]; simp only [c250, ↓reduceIte, if_true, if_false]
          rw [ez250] at jk
          exact jk T234 Y234
        · have j250 : z133.toInt = 0 := congrArg Int32.toInt c250
          refine Gl.iconst Y234 (v := (1 : Int32)) (by decide) at_253 rfl ?_
          refine Gl.goto Y234 at_254 (by decide) rfl ?_
          have ez250 : z250 = (1 : Int32) := by rw [← hz250]; simp only [c250, ↓reduceIte, if_true, if_false]
          rw [ez250] at jk
          exact jk T234 Y234
      refine Gl.icmpne Y250j at_258 (by decide) rfl rfl (fun c258 => ?_) (fun c258 => ?_)
      · exfalso; have j258 : ¬ (r92.toInt = z250.toInt) := fun q => c258 (Int32.toInt_inj.mp q); omega
      have j258 : r92.toInt = z250.toInt := congrArg Int32.toInt c258
      refine Gl.iload Y250j rfl at_261 rfl ?_
      refine Gl.iload Y250j rfl at_263 rfl ?_
      refine Gl.icmpne Y250j at_265 (by decide) rfl rfl (fun c265 => ?_) (fun c265 => ?_)
      · exfalso; have j265 : ¬ (r101.toInt = z146.toInt) := fun q => c265 (Int32.toInt_inj.mp q); omega
      have j265 : r101.toInt = z146.toInt := congrArg Int32.toInt c265
      refine Gl.iload Y250j rfl at_268 rfl ?_
      refine Gl.iload Y250j rfl at_270 rfl ?_
      obtain ⟨z272, hz272⟩ : ∃ z : Int32, (if z146 = (0 : Int32) then (1 : Int32) else (0 : Int32)) = z := ⟨_, rfl⟩
      have iz272 : (z146.toInt = 0 ∧ (z272.toInt = 1)) ∨ (¬ (z146.toInt = 0) ∧ (z272.toInt = 0)) := own_ite (c := z146 = (0 : Int32)) (fun q6 => ⟨congrArg Int32.toInt q6, congrArg Int32.toInt (show z272 = (1 : Int32) from by rw [← hz272]; simp only [q6, ↓reduceIte, if_true, if_false, ite_self])⟩) (fun q6 => ⟨fun q => q6 (Int32.toInt_inj.mp q), congrArg Int32.toInt (show z272 = (0 : Int32) from by rw [← hz272]; simp only [q6, ↓reduceIte, if_true, if_false, ite_self])⟩)
      have bz272 : z272 = 0 ∨ z272 = 1 := by rw [← hz272]; (repeat' split) <;> first | (simp; done) | assumption
      refine own_cut (B := ∀ T', Sd Z "com/example/impatiens/impatiens/MatchBudgetSpendPinLaw" code maxLocals (some .boolean) n0 p l e room_1 s m #[(.long ni), (.long s1), (.long s2), (.long s3), (.int md)] below meth c T' h227 1 2 → Gl p e below (Pst s n0 room_1.cells room_1.slots (QL Z ni s1 s2 s3 md h0)) (T'.setTop (mkF m 280 #[.val (.long ni), .second, .val (.long s1), .second, .val (.long s2), .second, .val (.long s3), .second, .val (.int md), .val (.int z4), .val (.long (15 : Int64)), .second, .val (.long v39), .second, .val (.long v53), .second, .val (.long v60), .second, .val (.long v67), .second, .val (.ref b70), .val (.int r85), .val (.int r92), .val (.int r101), .val (.int r108), .val (.int r117), .val (.int r124), .val (.int z133), .val (.int z146), .val (.int z169), .val (.long (0 : Int64)), .second, .val (.int r219), .val (.int r227), .val (.int r234)] [(.int z272), (.int r108)]))) (fun jk => ?_) (fun T272j Y272j => ?_)
      · refine Gl.ifne Y250j at_272 (by decide) rfl rfl (fun c272 => ?_) (fun c272 => ?_)
        · have j272 : ¬ (z146.toInt = 0) := fun q => c272 (Int32.toInt_inj.mp q)
          refine Gl.iconst Y250j (v := (0 : Int32)) (by decide) at_279 rfl ?_
          have ez272 : z272 = (0 : Int32) := by rw [← hz272]; simp only [c272, ↓reduceIte, if_true, if_false]
          rw [ez272] at jk
          exact jk T250j Y250j
        · have j272 : z146.toInt = 0 := congrArg Int32.toInt c272
          refine Gl.iconst Y250j (v := (1 : Int32)) (by decide) at_275 rfl ?_
          refine Gl.goto Y250j at_276 (by decide) rfl ?_
          have ez272 : z272 = (1 : Int32) := by rw [← hz272]; simp only [c272, ↓reduceIte, if_true, if_false]
          rw [ez272] at jk
          exact jk T250j Y250j
      refine Gl.icmpne Y272j at_280 (by decide) rfl rfl (fun c280 => ?_) (fun c280 => ?_)
      · exfalso; have j280 : ¬ (r108.toInt = z272.toInt) := fun q => c280 (Int32.toInt_inj.mp q); omega
      have j280 : r108.toInt = z272.toInt := congrArg Int32.toInt c280
      refine Gl.iload Y272j rfl at_283 rfl ?_
      refine Gl.iload Y272j rfl at_285 rfl ?_
      refine Gl.icmpne Y272j at_287 (by decide) rfl rfl (fun c287 => ?_) (fun c287 => ?_)
      · exfalso; have j287 : ¬ (r117.toInt = z169.toInt) := fun q => c287 (Int32.toInt_inj.mp q); omega
      have j287 : r117.toInt = z169.toInt := congrArg Int32.toInt c287
      refine Gl.iload Y272j rfl at_290 rfl ?_
      refine Gl.iload Y272j rfl at_292 rfl ?_
      refine Gl.ifne Y272j at_294 (by decide) rfl rfl (fun c294 => ?_) (fun c294 => ?_)
      · exact absurd c195 c294
      have j294 : z169.toInt = 0 := congrArg Int32.toInt c294
      refine Gl.iconst Y272j (v := (1 : Int32)) (by decide) at_297 rfl ?_
      refine Gl.goto Y272j at_298 (by decide) rfl ?_
      refine Gl.icmpne Y272j at_302 (by decide) rfl rfl (fun c302 => ?_) (fun c302 => ?_)
      · exfalso; have j302 : ¬ (r124.toInt = 1) := fun q => c302 (Int32.toInt_inj.mp q); omega
      have j302 : r124.toInt = 1 := congrArg Int32.toInt c302
      refine Gl.iload Y272j rfl at_305 rfl ?_
      refine Gl.iload Y272j rfl at_307 rfl ?_
      refine Gl.icmpne Y272j at_309 (by decide) rfl rfl (fun c309 => ?_) (fun c309 => ?_)
      · exfalso; have j309 : ¬ (r219.toInt = z169.toInt) := fun q => c309 (Int32.toInt_inj.mp q); omega
      have j309 : r219.toInt = z169.toInt := congrArg Int32.toInt c309
      refine Gl.iload Y272j rfl at_312 rfl ?_
      refine Gl.ifne Y272j at_314 (by decide) rfl rfl (fun c314 => ?_) (fun c314 => ?_)
      · exfalso; have j314 : ¬ (r227.toInt = 0) := fun q => c314 (Int32.toInt_inj.mp q); omega
      have j314 : r227.toInt = 0 := congrArg Int32.toInt c314
      refine Gl.iload Y272j rfl at_317 rfl ?_
      refine Gl.ifeq Y272j at_319 (by decide) rfl rfl (fun c319 => ?_) (fun c319 => ?_)
      · exfalso; have j319 : r234.toInt = 0 := congrArg Int32.toInt c319; omega
      have j319 : ¬ (r234.toInt = 0) := fun q => c319 (Int32.toInt_inj.mp q)
      refine Gl.iconst Y272j (v := (1 : Int32)) (by decide) at_322 rfl ?_
      refine Gl.goto Y272j at_323 (by decide) rfl ?_
      exact Gl.retZ Y272j (by decide) (by decide) (x' := (1 : Int32)) (by decide) at_327 rfl
    · have j195 : ¬ (z169.toInt = 0) := fun q => c195 (Int32.toInt_inj.mp q)
      refine Gl.lload Y169j rfl at_198 rfl ?_
      refine Gl.lload Y169j rfl at_200 rfl ?_
      refine Gl.lload Y169j rfl at_202 rfl ?_
      obtain ⟨v204, hv204⟩ : ∃ z : Int64, v53 + v60 = z := ⟨_, rfl⟩
      have iv204 : v204.toInt = v53.toInt + v60.toInt := by
        have q : (v204.toInt - (v53.toInt + v60.toInt)) % 18446744073709551616 = 0 := by have q := c_ladd v53 v60; rw [hv204] at q; exact q
        have r := rng64 v204
        omega
      refine Gl.ladd Y169j hv204 at_204 rfl ?_
      refine Gl.lload Y169j rfl at_205 rfl ?_
      obtain ⟨v207, hv207⟩ : ∃ z : Int64, v204 + v67 = z := ⟨_, rfl⟩
      have iv207 : v207.toInt = v204.toInt + v67.toInt := by
        have q : (v207.toInt - (v204.toInt + v67.toInt)) % 18446744073709551616 = 0 := by have q := c_ladd v204 v67; rw [hv207] at q; exact q
        have r := rng64 v207
        omega
      refine Gl.ladd Y169j hv207 at_207 rfl ?_
      obtain ⟨v208, hv208⟩ : ∃ z : Int64, v39 - v207 = z := ⟨_, rfl⟩
      have iv208 : v208.toInt = v39.toInt - v207.toInt := by
        have q : (v208.toInt - (v39.toInt - v207.toInt)) % 18446744073709551616 = 0 := by have q := c_lsub v39 v207; rw [hv208] at q; exact q
        have r := rng64 v208
        omega
      refine Gl.lsub Y169j hv208 at_208 rfl ?_
      refine Gl.goto Y169j at_209 (by decide) rfl ?_
      refine Gl.lstore Y169j (L' := #[.val (.long ni), .second, .val (.long s1), .second, .val (.long s2), .second, .val (.long s3), .second, .val (.int md), .val (.int z4), .val (.long (15 : Int64)), .second, .val (.long v39), .second, .val (.long v53), .second, .val (.long v60), .second, .val (.long v67), .second, .val (.ref b70), .val (.int r85), .val (.int r92), .val (.int r101), .val (.int r108), .val (.int r117), .val (.int r124), .val (.int z133), .val (.int z146), .val (.int z169), .val (.long v208), .second, .unset, .unset, .unset]) rfl at_213 rfl ?_
      refine Gl.aload Y169j rfl rfl at_215 rfl ?_
      refine Gl.lload Y169j rfl at_217 rfl ?_
      refine Gl.callV Y169j (tw_12 hw) (tw_13 hw) (tw_15 hw) (tw_15 hw) (tw_14 hw) (tw_3 hw) (tw_16 hw) (by decide) f117_0 (rm1 l Z a0 hw [] b70 v208 lq117 sq117 h117 n0 Y169j.sz f117_0 f117_1 f117_2 sb70 (by first | assumption | decide | omega | (simp; done)) (by first | assumption | decide | omega | (simp; done))) (a := b70) (argsL := [(.long v208)]) (rest := []) rfl rfl (lenOf pd_1 rfl) rfl (by decide) (Nat.le_of_ble_eq_true rfl) (by decide) (by decide) at_219 rfl (fun v219 T219 h219 Y219 q219 => ?_)
      obtain ⟨sq219, lq219, r219, rfl, p219, K219, f219_0, f219_1, f219_2⟩ := q219
      have br219 : r219 = 0 ∨ r219 = 1 := p219.2.2
      show Gl p e below _ (T219.setTop (mkF m 222 #[.val (.long ni), .second, .val (.long s1), .second, .val (.long s2), .second, .val (.long s3), .second, .val (.int md), .val (.int z4), .val (.long (15 : Int64)), .second, .val (.long v39), .second, .val (.long v53), .second, .val (.long v60), .second, .val (.long v67), .second, .val (.ref b70), .val (.int r85), .val (.int r92), .val (.int r101), .val (.int r108), .val (.int r117), .val (.int r124), .val (.int z133), .val (.int z146), .val (.int z169), .val (.long v208), .second, .unset, .unset, .unset] [(.int r219)]))
      refine Gl.istore Y219 (L' := #[.val (.long ni), .second, .val (.long s1), .second, .val (.long s2), .second, .val (.long s3), .second, .val (.int md), .val (.int z4), .val (.long (15 : Int64)), .second, .val (.long v39), .second, .val (.long v53), .second, .val (.long v60), .second, .val (.long v67), .second, .val (.ref b70), .val (.int r85), .val (.int r92), .val (.int r101), .val (.int r108), .val (.int r117), .val (.int r124), .val (.int z133), .val (.int z146), .val (.int z169), .val (.long v208), .second, .val (.int r219), .unset, .unset]) rfl at_222 rfl ?_
      refine Gl.aload Y219 rfl rfl at_224 rfl ?_
      refine Gl.lconst Y219 (v := (1 : Int64)) (by decide) at_226 rfl ?_
      refine Gl.callV Y219 (tw_12 hw) (tw_13 hw) (tw_15 hw) (tw_15 hw) (tw_14 hw) (tw_3 hw) (tw_16 hw) (by decide) f219_0 (rm1 l Z a0 hw [] b70 (1 : Int64) lq219 sq219 h219 n0 Y219.sz f219_0 f219_1 f219_2 sb70 (by first | assumption | decide | omega | (simp; done)) (by first | assumption | decide | omega | (simp; done))) (a := b70) (argsL := [(.long (1 : Int64))]) (rest := []) rfl rfl (lenOf pd_1 rfl) rfl (by decide) (Nat.le_of_ble_eq_true rfl) (by decide) (by decide) at_227 rfl (fun v227 T227 h227 Y227 q227 => ?_)
      obtain ⟨sq227, lq227, r227, rfl, p227, K227, f227_0, f227_1, f227_2⟩ := q227
      have kc12 : (1 : Int64).toInt = 1 := by decide
      have br227 : r227 = 0 ∨ r227 = 1 := p227.2.2
      show Gl p e below _ (T227.setTop (mkF m 230 #[.val (.long ni), .second, .val (.long s1), .second, .val (.long s2), .second, .val (.long s3), .second, .val (.int md), .val (.int z4), .val (.long (15 : Int64)), .second, .val (.long v39), .second, .val (.long v53), .second, .val (.long v60), .second, .val (.long v67), .second, .val (.ref b70), .val (.int r85), .val (.int r92), .val (.int r101), .val (.int r108), .val (.int r117), .val (.int r124), .val (.int z133), .val (.int z146), .val (.int z169), .val (.long v208), .second, .val (.int r219), .unset, .unset] [(.int r227)]))
      refine Gl.istore Y227 (L' := #[.val (.long ni), .second, .val (.long s1), .second, .val (.long s2), .second, .val (.long s3), .second, .val (.int md), .val (.int z4), .val (.long (15 : Int64)), .second, .val (.long v39), .second, .val (.long v53), .second, .val (.long v60), .second, .val (.long v67), .second, .val (.ref b70), .val (.int r85), .val (.int r92), .val (.int r101), .val (.int r108), .val (.int r117), .val (.int r124), .val (.int z133), .val (.int z146), .val (.int z169), .val (.long v208), .second, .val (.int r219), .val (.int r227), .unset]) rfl at_230 rfl ?_
      refine Gl.aload Y227 rfl rfl at_232 rfl ?_
      refine Gl.callV Y227 (tw_19 hw) (tw_20 hw) (tw_22 hw) (tw_22 hw) (tw_21 hw) (tw_3 hw) (tw_23 hw) (by decide) f227_0 (rm2 l Z a0 hw [] b70 sq227 h227 n0 Y227.sz f227_2 (p227.2.1)) (a := b70) (argsL := []) (rest := []) rfl rfl (lenOf pd_2 rfl) rfl (by decide) (Nat.le_of_ble_eq_true rfl) (by decide) (by decide) at_234 rfl (fun v234 T234 h234 Y234 q234 => ?_)
      obtain ⟨r234, rfl, p234, rfl⟩ := q234
      have br234 : r234 = 0 ∨ r234 = 1 := p234.2
      show Gl p e below _ (T234.setTop (mkF m 237 #[.val (.long ni), .second, .val (.long s1), .second, .val (.long s2), .second, .val (.long s3), .second, .val (.int md), .val (.int z4), .val (.long (15 : Int64)), .second, .val (.long v39), .second, .val (.long v53), .second, .val (.long v60), .second, .val (.long v67), .second, .val (.ref b70), .val (.int r85), .val (.int r92), .val (.int r101), .val (.int r108), .val (.int r117), .val (.int r124), .val (.int z133), .val (.int z146), .val (.int z169), .val (.long v208), .second, .val (.int r219), .val (.int r227), .unset] [(.int r234)]))
      refine Gl.istore Y234 (L' := #[.val (.long ni), .second, .val (.long s1), .second, .val (.long s2), .second, .val (.long s3), .second, .val (.int md), .val (.int z4), .val (.long (15 : Int64)), .second, .val (.long v39), .second, .val (.long v53), .second, .val (.long v60), .second, .val (.long v67), .second, .val (.ref b70), .val (.int r85), .val (.int r92), .val (.int r101), .val (.int r108), .val (.int r117), .val (.int r124), .val (.int z133), .val (.int z146), .val (.int z169), .val (.long v208), .second, .val (.int r219), .val (.int r227), .val (.int r234)]) rfl at_237 rfl ?_
      refine Gl.iload Y234 rfl at_239 rfl ?_
      refine Gl.iload Y234 rfl at_241 rfl ?_
      refine Gl.icmpne Y234 at_243 (by decide) rfl rfl (fun c243 => ?_) (fun c243 => ?_)
      · exfalso; have j243 : ¬ (r85.toInt = z133.toInt) := fun q => c243 (Int32.toInt_inj.mp q); omega
      have j243 : r85.toInt = z133.toInt := congrArg Int32.toInt c243
      refine Gl.iload Y234 rfl at_246 rfl ?_
      refine Gl.iload Y234 rfl at_248 rfl ?_
      obtain ⟨z250, hz250⟩ : ∃ z : Int32, (if z133 = (0 : Int32) then (1 : Int32) else (0 : Int32)) = z := ⟨_, rfl⟩
      have iz250 : (z133.toInt = 0 ∧ (z250.toInt = 1)) ∨ (¬ (z133.toInt = 0) ∧ (z250.toInt = 0)) := own_ite (c := z133 = (0 : Int32)) (fun q4 => ⟨congrArg Int32.toInt q4, congrArg Int32.toInt (show z250 = (1 : Int32) from by rw [← hz250]; simp only [q4, ↓reduceIte, if_true, if_false, ite_self])⟩) (fun q4 => ⟨fun q => q4 (Int32.toInt_inj.mp q), congrArg Int32.toInt (show z250 = (0 : Int32) from by rw [← hz250]; simp only [q4, ↓reduceIte, if_true, if_false, ite_self])⟩)
      have bz250 : z250 = 0 ∨ z250 = 1 := by rw [← hz250]; (repeat' split) <;> first | (simp; done) | assumption
      refine own_cut (B := ∀ T', Sd Z "com/example/impatiens/impatiens/MatchBudgetSpendPinLaw" code maxLocals (some .boolean) n0 p l e room_1 s m #[(.long ni), (.long s1), (.long s2), (.long s3), (.int md)] below meth c T' h227 1 2 → Gl p e below (Pst s n0 room_1.cells room_1.slots (QL Z ni s1 s2 s3 md h0)) (T'.setTop (mkF m 258 #[.val (.long ni), .second, .val (.long s1), .second, .val (.long s2), .second, .val (.long s3), .second, .val (.int md), .val (.int z4), .val (.long (15 : Int64)), .second, .val (.long v39), .second, .val (.long v53), .second, .val (.long v60), .second, .val (.long v67), .second, .val (.ref b70), .val (.int r85), .val (.int r92), .val (.int r101), .val (.int r108), .val (.int r117), .val (.int r124), .val (.int z133), .val (.int z146), .val (.int z169), .val (.long v208), .second, .val (.int r219), .val (.int r227), .val (.int r234)] [(.int z250), (.int r92)]))) (fun jk => ?_) (fun T250j Y250j => ?_)
      · refine Gl.ifne Y234 at_250 (by decide) rfl rfl (fun c250 => ?_) (fun c250 => ?_)
        · have j250 : ¬ (z133.toInt = 0) := fun q => c250 (Int32.toInt_inj.mp q)
          refine Gl.iconst Y234 (v := (0 : Int32)) (by decide) at_257 rfl ?_
          have ez250 : z250 = (0 : Int32) := by rw [← hz250]; simp only [c250, ↓reduceIte, if_true, if_false]
          rw [ez250] at jk
          exact jk T234 Y234
        · have j250 : z133.toInt = 0 := congrArg Int32.toInt c250
          refine Gl.iconst Y234 (v := (1 : Int32)) (by decide) at_253 rfl ?_
          refine Gl.goto Y234 at_254 (by decide) rfl ?_
          have ez250 : z250 = (1 : Int32) := by rw [← hz250]; simp only [c250, ↓reduceIte, if_true, if_false]
          rw [ez250] at jk
          exact jk T234 Y234
      refine Gl.icmpne Y250j at_258 (by decide) rfl rfl (fun c258 => ?_) (fun c258 => ?_)
      · exfalso; have j258 : ¬ (r92.toInt = z250.toInt) := fun q => c258 (Int32.toInt_inj.mp q); omega
      have j258 : r92.toInt = z250.toInt := congrArg Int32.toInt c258
      refine Gl.iload Y250j rfl at_261 rfl ?_
      refine Gl.iload Y250j rfl at_263 rfl ?_
      refine Gl.icmpne Y250j at_265 (by decide) rfl rfl (fun c265 => ?_) (fun c265 => ?_)
      · exfalso; have j265 : ¬ (r101.toInt = z146.toInt) := fun q => c265 (Int32.toInt_inj.mp q); omega
      have j265 : r101.toInt = z146.toInt := congrArg Int32.toInt c265
      refine Gl.iload Y250j rfl at_268 rfl ?_
      refine Gl.iload Y250j rfl at_270 rfl ?_
      obtain ⟨z272, hz272⟩ : ∃ z : Int32, (if z146 = (0 : Int32) then (1 : Int32) else (0 : Int32)) = z := ⟨_, rfl⟩
      have iz272 : (z146.toInt = 0 ∧ (z272.toInt = 1)) ∨ (¬ (z146.toInt = 0) ∧ (z272.toInt = 0)) := own_ite (c := z146 = (0 : Int32)) (fun q6 => ⟨congrArg Int32.toInt q6, congrArg Int32.toInt (show z272 = (1 : Int32) from by rw [← hz272]; simp only [q6, ↓reduceIte, if_true, if_false, ite_self])⟩) (fun q6 => ⟨fun q => q6 (Int32.toInt_inj.mp q), congrArg Int32.toInt (show z272 = (0 : Int32) from by rw [← hz272]; simp only [q6, ↓reduceIte, if_true, if_false, ite_self])⟩)
      have bz272 : z272 = 0 ∨ z272 = 1 := by rw [← hz272]; (repeat' split) <;> first | (simp; done) | assumption
      refine own_cut (B := ∀ T', Sd Z "com/example/impatiens/impatiens/MatchBudgetSpendPinLaw" code maxLocals (some .boolean) n0 p l e room_1 s m #[(.long ni), (.long s1), (.long s2), (.long s3), (.int md)] below meth c T' h227 1 2 → Gl p e below (Pst s n0 room_1.cells room_1.slots (QL Z ni s1 s2 s3 md h0)) (T'.setTop (mkF m 280 #[.val (.long ni), .second, .val (.long s1), .second, .val (.long s2), .second, .val (.long s3), .second, .val (.int md), .val (.int z4), .val (.long (15 : Int64)), .second, .val (.long v39), .second, .val (.long v53), .second, .val (.long v60), .second, .val (.long v67), .second, .val (.ref b70), .val (.int r85), .val (.int r92), .val (.int r101), .val (.int r108), .val (.int r117), .val (.int r124), .val (.int z133), .val (.int z146), .val (.int z169), .val (.long v208), .second, .val (.int r219), .val (.int r227), .val (.int r234)] [(.int z272), (.int r108)]))) (fun jk => ?_) (fun T272j Y272j => ?_)
      · refine Gl.ifne Y250j at_272 (by decide) rfl rfl (fun c272 => ?_) (fun c272 => ?_)
        · have j272 : ¬ (z146.toInt = 0) := fun q => c272 (Int32.toInt_inj.mp q)
          refine Gl.iconst Y250j (v := (0 : Int32)) (by decide) at_279 rfl ?_
          have ez272 : z272 = (0 : Int32) := by rw [← hz272]; simp only [c272, ↓reduceIte, if_true, if_false]
          rw [ez272] at jk
          exact jk T250j Y250j
        · have j272 : z146.toInt = 0 := congrArg Int32.toInt c272
          refine Gl.iconst Y250j (v := (1 : Int32)) (by decide) at_275 rfl ?_
          refine Gl.goto Y250j at_276 (by decide) rfl ?_
          have ez272 : z272 = (1 : Int32) := by rw [← hz272]; simp only [c272, ↓reduceIte, if_true, if_false]
          rw [ez272] at jk
          exact jk T250j Y250j
      refine Gl.icmpne Y272j at_280 (by decide) rfl rfl (fun c280 => ?_) (fun c280 => ?_)
      · exfalso; have j280 : ¬ (r108.toInt = z272.toInt) := fun q => c280 (Int32.toInt_inj.mp q); omega
      have j280 : r108.toInt = z272.toInt := congrArg Int32.toInt c280
      refine Gl.iload Y272j rfl at_283 rfl ?_
      refine Gl.iload Y272j rfl at_285 rfl ?_
      refine Gl.icmpne Y272j at_287 (by decide) rfl rfl (fun c287 => ?_) (fun c287 => ?_)
      · exfalso; have j287 : ¬ (r117.toInt = z169.toInt) := fun q => c287 (Int32.toInt_inj.mp q); omega
      have j287 : r117.toInt = z169.toInt := congrArg Int32.toInt c287
      refine Gl.iload Y272j rfl at_290 rfl ?_
      refine Gl.iload Y272j rfl at_292 rfl ?_
      refine Gl.ifne Y272j at_294 (by decide) rfl rfl (fun c294 => ?_) (fun c294 => ?_)
      rotate_left
      · exact absurd c294 c195
      have j294 : ¬ (z169.toInt = 0) := fun q => c294 (Int32.toInt_inj.mp q)
      refine Gl.iconst Y272j (v := (0 : Int32)) (by decide) at_301 rfl ?_
      refine Gl.icmpne Y272j at_302 (by decide) rfl rfl (fun c302 => ?_) (fun c302 => ?_)
      · exfalso; have j302 : ¬ (r124.toInt = 0) := fun q => c302 (Int32.toInt_inj.mp q); omega
      have j302 : r124.toInt = 0 := congrArg Int32.toInt c302
      refine Gl.iload Y272j rfl at_305 rfl ?_
      refine Gl.iload Y272j rfl at_307 rfl ?_
      refine Gl.icmpne Y272j at_309 (by decide) rfl rfl (fun c309 => ?_) (fun c309 => ?_)
      · exfalso; have j309 : ¬ (r219.toInt = z169.toInt) := fun q => c309 (Int32.toInt_inj.mp q); omega
      have j309 : r219.toInt = z169.toInt := congrArg Int32.toInt c309
      refine Gl.iload Y272j rfl at_312 rfl ?_
      refine Gl.ifne Y272j at_314 (by decide) rfl rfl (fun c314 => ?_) (fun c314 => ?_)
      · exfalso; have j314 : ¬ (r227.toInt = 0) := fun q => c314 (Int32.toInt_inj.mp q); omega
      have j314 : r227.toInt = 0 := congrArg Int32.toInt c314
      refine Gl.iload Y272j rfl at_317 rfl ?_
      refine Gl.ifeq Y272j at_319 (by decide) rfl rfl (fun c319 => ?_) (fun c319 => ?_)
      · exfalso; have j319 : r234.toInt = 0 := congrArg Int32.toInt c319; omega
      have j319 : ¬ (r234.toInt = 0) := fun q => c319 (Int32.toInt_inj.mp q)
      refine Gl.iconst Y272j (v := (1 : Int32)) (by decide) at_322 rfl ?_
      refine Gl.goto Y272j at_323 (by decide) rfl ?_
      exact Gl.retZ Y272j (by decide) (by decide) (x' := (1 : Int32)) (by decide) at_327 rfl
set_option maxRecDepth 65536 in
set_option maxHeartbeats 40000000 in
theorem comes_1 {Post : Tables → Env → Array Value → State → Outcome → State → Prop} (hpost : ∀ tb e args s v u, (limb_1_1.after args s (.returned v) u = true ∧ limb_1_2.after args s (.returned v) u = true ∧ True) → FrameEnd s (.returned v) u (Jvm.fieldLocs frame_1_writes args s ++ Jvm.arrayLocs frame_1_arrays args s ++ Jvm.staticLocs frame_1_statics s) 16 128 → Post tb e args s (.returned v) u) :
    ArmFor flags0 classFile x code maxLocals ret World_1 tables_1 room_1 Calls_1 rest_1 Pre_1 Post := by
  intro l hfl _ _ p e ha hc hk s m args below hf hA hF happ hP
  obtain ⟨hcalls, hrest, hpre⟩ := hP
  obtain ⟨-, -, -, hnamed, -, -, -, hat⟩ := (Spec.applies_iff hf).mp happ
  obtain ⟨hg, hn⟩ := and_e (Cond.before_iff.mp (show (Jvm.Cond.and given_1 narrow_1).before args s = true from hpre))
  obtain ⟨a0, g0⟩ := and_e hg
  obtain ⟨a1, g1⟩ := and_e g0
  obtain ⟨a2, g2⟩ := and_e g1
  obtain ⟨a3, g3⟩ := and_e g2
  obtain ⟨a4, g4⟩ := and_e g3
  obtain ⟨w0, w1, w2, w3, w4, rfl⟩ : ∃ w0 w1 w2 w3 w4 : Value, args = #[w0, w1, w2, w3, w4] := by
    have hs : args.size = 5 := by simpa [Cond.value, given_1] using a0
    obtain ⟨L⟩ := args
    match L, hs with
    | [w0, w1, w2, w3, w4], _ => exact ⟨w0, w1, w2, w3, w4, rfl⟩
  have hw := fun d (hd : d ∈ tables_1) => atoms_spec (ws := Jvm.Cond.code x code maxLocals ret :: tables_1) hat d (List.mem_cons_of_mem _ hd)
  have hfit : Fit s := fun {y c} hc i hi => by
    obtain ⟨ha, rfl⟩ := Array.getElem?_eq_some_iff.mp hc
    have q := List.all_eq_true.mp ((Array.all_eq_true_iff_forall_mem.mp hF) _ (Array.getElem_mem ha)) i (List.mem_range.mpr hi)
    simpa [Array.getElem?_eq_getElem hi] using q
  obtain ⟨i0, e0⟩ := isL_v a1
  obtain rfl : w0 = (.long i0) := Option.some.inj e0
  obtain ⟨i1, e1⟩ := isL_v a2
  obtain rfl : w1 = (.long i1) := Option.some.inj e1
  obtain ⟨i2, e2⟩ := isL_v a3
  obtain rfl : w2 = (.long i2) := Option.some.inj e2
  obtain ⟨i3, e3⟩ := isL_v a4
  obtain rfl : w3 = (.long i3) := Option.some.inj e3
  obtain ⟨i4, e4⟩ := is_v g4
  obtain rfl : w4 = (.int i4) := Option.some.inj e4
  obtain ⟨n, o, h1, h2, h3, v, L, rfl, ⟨hv, N⟩, hq⟩ := rmL l s _ hw tables_1 i0 i1 i2 i3 i4 s.heap s.heap.size (Nat.le_refl _) p e ha hc hk s m _ below hf ((Spec.applies_iff_loose hf).mp happ).1 ⟨rfl, State.Warmed39.refl s, rfl⟩ trivial
  obtain rfl : v = some (.int 1) := hv
  refine ⟨n, _, h1, h2, h3, hpost _ _ _ _ _ _ ⟨Cond.after_iff.mpr rfl, Cond.after_iff.mpr (eq_i res_at (Term.int_eval (1)) rfl), trivial⟩ ⟨hq.1, hq.2.1, (hq.2.2.sift fun y hy => Or.inr (N y hy)).mono (by decide) (by decide)⟩⟩
theorem main_1_1 : Claimed_1_1 := comes_1 fun _ _ _ _ _ _ h hF => ⟨h.1, hF⟩
theorem main_1_2 : Claimed_1_2 := comes_1 fun _ _ _ _ _ _ h hF => ⟨h.2.1, hF⟩
end Jvm.Pilot.@@N@@
namespace Jvm.Pilot.@@N@@
open Jvm Jvm.ClassFile Sem Op Lib Jvm.Free Jvm.Stand Jvm.Pilot.@@N@@.Jvm.D
/-! MADE BY PROGRAM (witnessworld.py) out of the Statement's table words and the real class files: 9 classes; the members and pool entries that the words name. The judged class is class 1, her method 1. -/
namespace start1
open Jvm.ClassFile
def u (s : String) : CpInfo := .utf8 (stringToUtf16 s)
/-- a pool by its gaps: so many unusable entries, then the entry; so many at the end -/
def gap : Nat → List CpInfo → List CpInfo
  | 0, r => r
  | n + 1, r => .unusable :: gap n r
def poolList (es : List (Nat × CpInfo)) (last : Nat) : List CpInfo := es.foldr (fun e r => gap e.1 (e.2 :: r)) (gap last [])
def pool (es : List (Nat × CpInfo)) (last : Nat) : Array CpInfo := ⟨poolList es last⟩
def fileOf (pool : Array CpInfo) (this : Nat) (attrs : Array Attribute := #[]) (ms : Array MethodInfo := #[]) (fl : Nat := 33) (sup : Nat := 0) (ifs : Array Nat := #[]) (fds : Array FieldInfo := #[]) : ClassFile where
  minorVersion := 0
  majorVersion := 65
  constantPool := pool
  accessFlags := fl
  thisClass := this
  superClass := sup
  interfaces := ifs
  fields := fds
  methods := ms
  attributes := attrs
def plain (name : String) (sup : Option ClassId) : Class where
  name := name
  kind := .ordinary
  loader := none
  accessFlags := 33
  super := sup
  interfaces := #[]
  cf := none
  fields := #[]
  methods := #[]
  instanceTypes := #[]
  staticTypes := #[]
  resolved := #[]
  callSites := []
  init := .initialized
  statics := none
  mirror := none

def pool0 : Array CpInfo := pool [(5, u "<init>"), (0, u "()V"), (1, .class_ 10), (1, u "java/lang/Object")] 113

def k0c0 : Code := { maxStack := 0, maxLocals := 1, code := object_method_1_code, exceptionTable := #[], attributes := #[] }
def k0m0 : Method := { name := "<init>", desc := "()V", sig := { parameters := [], returnType := none }, accessFlags := 1, code := some k0c0 }
/-- java/lang/Object -/
def k0 : Class := { plain "java/lang/Object" none with
  accessFlags := 33
  interfaces := #[]
  cf := some (fileOf pool0 8 #[] #[{ accessFlags := 1, nameIndex := 5, descriptorIndex := 6, attributes := #[] }] 33 0 #[] #[])
  fields := #[]
  methods := #[k0m0]
  instanceTypes := #[]
  staticTypes := #[]
  resolved := Array.replicate 124 none
  statics := none }

def pool1 : Array CpInfo := pool [(2, .class_ 4), (1, u "java/lang/Object"), (0, u "<init>"), (0, u "()V"), (0, .long 15), (1, .long 2305843009213693951), (3, .long 9223372036854775807), (1, .class_ 16), (0, u "com/example/impatiens/impatiens/MatchBudget"), (0, .methodref 15 18), (0, .nameAndType 5 19), (0, u "(J)V"), (0, .methodref 15 21), (0, .nameAndType 22 23), (0, u "spend"), (0, u "(J)Z"), (0, .methodref 15 25), (0, .nameAndType 26 27), (0, u "isSpent"), (0, u "()Z"), (0, .class_ 29), (0, u "com/example/impatiens/impatiens/MatchBudgetSpendPinLaw"), (2, u "law"), (0, u "(JJJJI)Z")] 3

def k1m0 : Method := { name := "<init>", desc := "()V", sig := { parameters := [], returnType := none }, accessFlags := 1, code := none }
def k1c1 : Code := { maxStack := 6, maxLocals := 35, code := code, exceptionTable := #[], attributes := #[] }
def k1m1 : Method := { name := "law", desc := "(JJJJI)Z", sig := { parameters := [.long, .long, .long, .long, .int], returnType := some .boolean }, accessFlags := 9, code := some k1c1 }
/-- com/example/impatiens/impatiens/MatchBudgetSpendPinLaw -/
def k1 : Class := { plain "com/example/impatiens/impatiens/MatchBudgetSpendPinLaw" (some 0) with
  accessFlags := 49
  interfaces := #[]
  cf := some (fileOf pool1 28 #[] #[{ accessFlags := 1, nameIndex := 5, descriptorIndex := 6, attributes := #[] }, { accessFlags := 9, nameIndex := 32, descriptorIndex := 33, attributes := #[] }] 49 2 #[] #[])
  fields := #[]
  methods := #[k1m0, k1m1]
  instanceTypes := #[]
  staticTypes := #[]
  resolved := Array.replicate 37 none
  statics := none }

def pool2 : Array CpInfo := pool [(1, .methodref 2 3), (0, .class_ 4), (0, .nameAndType 5 6), (0, u "java/lang/Object"), (0, u "<init>"), (0, u "()V"), (0, .fieldref 8 9), (0, .class_ 10), (0, .nameAndType 11 12), (0, u "com/example/impatiens/impatiens/MatchBudget"), (0, u "left"), (0, u "J"), (6, u "(J)V"), (0, .fieldref 8 21), (0, .nameAndType 22 23), (0, u "spent"), (0, u "Z"), (4, u "spend"), (0, u "(J)Z"), (1, u "isSpent"), (0, u "()Z")] 2

def k2c0 : Code := { maxStack := 3, maxLocals := 3, code := prog_2_method_1_code, exceptionTable := #[], attributes := #[] }
def k2m0 : Method := { name := "<init>", desc := "(J)V", sig := { parameters := [.long], returnType := none }, accessFlags := 0, code := some k2c0 }
def k2c1 : Code := { maxStack := 5, maxLocals := 3, code := prog_2_method_3_code, exceptionTable := #[], attributes := #[] }
def k2m1 : Method := { name := "spend", desc := "(J)Z", sig := { parameters := [.long], returnType := some .boolean }, accessFlags := 0, code := some k2c1 }
def k2c2 : Code := { maxStack := 1, maxLocals := 1, code := prog_2_method_4_code, exceptionTable := #[], attributes := #[] }
def k2m2 : Method := { name := "isSpent", desc := "()Z", sig := { parameters := [], returnType := some .boolean }, accessFlags := 0, code := some k2c2 }
/-- com/example/impatiens/impatiens/MatchBudget -/
def k2 : Class := { plain "com/example/impatiens/impatiens/MatchBudget" (some 0) with
  accessFlags := 48
  interfaces := #[]
  cf := some (fileOf pool2 8 #[] #[{ accessFlags := 0, nameIndex := 5, descriptorIndex := 19, attributes := #[] }, { accessFlags := 0, nameIndex := 28, descriptorIndex := 29, attributes := #[] }, { accessFlags := 0, nameIndex := 31, descriptorIndex := 32, attributes := #[] }] 48 2 #[] #[{ accessFlags := 2, nameIndex := 11, descriptorIndex := 12, attributes := #[] }, { accessFlags := 2, nameIndex := 22, descriptorIndex := 23, attributes := #[] }])
  fields := #[{ name := "left", type := .long, accessFlags := 2, slot := 0, constantValue := 0 }, { name := "spent", type := .boolean, accessFlags := 2, slot := 1, constantValue := 0 }]
  methods := #[k2m0, k2m1, k2m2]
  instanceTypes := #[.long, .boolean]
  staticTypes := #[]
  resolved := Array.replicate 35 none
  statics := none }

def pool3 : Array CpInfo := pool [(1, u "java/lang/Cloneable"), (0, .class_ 1), (0, u "java/lang/Object"), (0, .class_ 3)] 3

/-- java/lang/Cloneable -/
def k3 : Class := { plain "java/lang/Cloneable" (some 0) with
  accessFlags := 1537
  interfaces := #[]
  cf := some (fileOf pool3 2 #[] #[] 1537 4 #[] #[])
  fields := #[]
  methods := #[]
  instanceTypes := #[]
  staticTypes := #[]
  resolved := Array.replicate 8 none
  statics := none }

def pool4 : Array CpInfo := pool [(1, u "java/io/Serializable"), (0, .class_ 1), (0, u "java/lang/Object"), (0, .class_ 3)] 3

/-- java/io/Serializable -/
def k4 : Class := { plain "java/io/Serializable" (some 0) with
  accessFlags := 1537
  interfaces := #[]
  cf := some (fileOf pool4 2 #[] #[] 1537 4 #[] #[])
  fields := #[]
  methods := #[]
  instanceTypes := #[]
  staticTypes := #[]
  resolved := Array.replicate 8 none
  statics := none }

/-- the primitive byte -/
def k5 : Class := { plain "byte" none with kind := .primitive 'B', accessFlags := 0x411 }
/-- [B -/
def k6 : Class := { plain "[B" (some 0) with kind := .array 5 .byte, interfaces := #[3, 4], accessFlags := 1041 }

/-- the primitive int -/
def k7 : Class := { plain "int" none with kind := .primitive 'I', accessFlags := 0x411 }
/-- [I -/
def k8 : Class := { plain "[I" (some 0) with kind := .array 7 .int, interfaces := #[3, 4], accessFlags := 1041 }

def heap : Heap := #[]
def classes : Array Class := #[k0, k1, k2, k3, k4, k5, k6, k7, k8]
def interned : List (Array UInt16 × Addr) := []
def slotsUsed : Nat := 0
def theMethod : MethodId := ⟨1, 1⟩
def args0 : Array Value := #[.long 7, .long 3, .long 3, .long 3, .int 3]
def aboutOver (below : List Frame) : State where
  vm := { classes := classes, interned := interned.toArray }
  heap := heap
  slotsUsed := slotsUsed
  threads := #[{ frames := .invoking theMethod args0 :: below }]
def below0 : List Frame := [.native { method := ⟨0, 0⟩, args := #[] }]
def about1 : State := aboutOver below0
def p0 : Program := .bare "" "" ""
def e0 : Env := launch0.env 0 0 0
theorem w_frames : about1.frames = Frame.invoking theMethod args0 :: below0 := rfl
set_option maxRecDepth 65536 in
theorem w_args : argsFit about1.vm theMethod args0 = true := by decide +kernel
set_option maxRecDepth 65536 in
theorem w_heap : heapFits about1 = true := by decide +kernel
set_option maxRecDepth 65536 in
theorem w_runnable : about1.curStatus? = some .runnable := by decide +kernel
set_option maxRecDepth 65536 in
theorem w_alone : about1.alone = true := by decide +kernel
set_option maxRecDepth 65536 in
theorem w_named : about1.methodNamed? x = some theMethod := by decide +kernel
set_option maxRecDepth 65536 in
theorem w_hears : about1.hears theMethod below0 = true := by decide +kernel
set_option maxRecDepth 65536 in
theorem w_ripe : about1.ripe theMethod args0 below0 = true := by decide +kernel
theorem w_running : about1.status = .running := rfl
set_option maxRecDepth 65536 in
theorem w_room : about1.hasRoom e0.platform room_1 = true :=
  launch0.hasRoom_least _ room_1 (by decide +kernel) (by decide +kernel) (by decide +kernel) (by decide +kernel) (by decide +kernel) (by decide +kernel)
theorem allAtoms_all (ts : List Jvm.Cond) (a : Array Jvm.Value) (st : Jvm.State) : (allAtoms ts).before a st = ts.all (fun c => c.before a st) := by
  induction ts with
  | nil => rfl
  | cons c t ih =>
    show (Jvm.Cond.and c (allAtoms t)).before a st = _
    rw [Jvm.Cond.before_and, ih, List.all_cons]
def words1 : List Jvm.Cond := Jvm.Cond.code x code maxLocals ret :: tables_1
/-- a 'code' word, met by the world's own term for the bytes: nothing is compared byte by byte -/
theorem code_word {y : MethodName} {bytes : ByteArray} {mx : Nat} {rt : Option FieldType} {a : Array Value} {s : State} {m : MethodId} {meth : Method} {c : Code} (h1 : s.methodNamed? y = some m) (h2 : s.vm.method? m = some meth) (h3 : meth.code = some c) (h4 : c.code = bytes)
    (h5 : (c.maxLocals == mx && c.exceptionTable.isEmpty && decide (c.maxStack ≤ mostOperands) && decide (meth.sig.returnType = rt) && !meth.locks && decide (parseMethodDescriptor y.desc = some meth.sig)) = true) : (Jvm.Cond.code y bytes mx rt).before a s = true := by
  simp only [Bool.and_eq_true, beq_iff_eq, Bool.not_eq_true', decide_eq_true_eq] at h5
  obtain ⟨⟨⟨⟨⟨g1, g2⟩, g3⟩, g4⟩, g5⟩, g6⟩ := h5
  simp [Cond.before, Cond.holds, Cond.value, h1, h2, h3, h4, g1, g2, g3, g4, g5, g6]
def isCode : Jvm.Cond → Bool
  | .code _ _ _ _ => true
  | _ => false
theorem all_split {L : List Jvm.Cond} {P : Jvm.Cond → Bool} (h1 : L.all (fun c => isCode c || P c) = true) (h2 : ∀ c ∈ L.filter isCode, P c = true) : L.all P = true := by
  refine List.all_eq_true.mpr fun c hc => ?_
  have h := List.all_eq_true.mp h1 c hc
  rcases Bool.eq_false_or_eq_true (isCode c) with hi | hi
  · exact h2 c (List.mem_filter.mpr ⟨hc, hi⟩)
  · simpa [hi] using h
set_option maxRecDepth 65536 in
theorem w_c0 : (Jvm.Cond.code x code maxLocals ret).before args0 about1 = true := code_word (m := ⟨1, 1⟩) (meth := k1m1) (c := k1c1) (by decide +kernel) rfl rfl rfl (by decide +kernel)
set_option maxRecDepth 65536 in
theorem w_c1 : (Jvm.Cond.code ({ cls := "com/example/impatiens/impatiens/MatchBudget", name := "<init>", desc := "(J)V" } : Jvm.MethodName) prog_2_method_1_code (3 : Nat) (Option.none : Option Jvm.ClassFile.FieldType)).before args0 about1 = true := code_word (m := ⟨2, 0⟩) (meth := k2m0) (c := k2c0) (by decide +kernel) rfl rfl rfl (by decide +kernel)
set_option maxRecDepth 65536 in
theorem w_c2 : (Jvm.Cond.code ({ cls := "java/lang/Object", name := "<init>", desc := "()V" } : Jvm.MethodName) object_method_1_code (1 : Nat) (Option.none : Option Jvm.ClassFile.FieldType)).before args0 about1 = true := code_word (m := ⟨0, 0⟩) (meth := k0m0) (c := k0c0) (by decide +kernel) rfl rfl rfl (by decide +kernel)
set_option maxRecDepth 65536 in
theorem w_c3 : (Jvm.Cond.code ({ cls := "com/example/impatiens/impatiens/MatchBudget", name := "spend", desc := "(J)Z" } : Jvm.MethodName) prog_2_method_3_code (3 : Nat) (Option.some Jvm.ClassFile.FieldType.boolean)).before args0 about1 = true := code_word (m := ⟨2, 1⟩) (meth := k2m1) (c := k2c1) (by decide +kernel) rfl rfl rfl (by decide +kernel)
set_option maxRecDepth 65536 in
theorem w_c4 : (Jvm.Cond.code ({ cls := "com/example/impatiens/impatiens/MatchBudget", name := "isSpent", desc := "()Z" } : Jvm.MethodName) prog_2_method_4_code (1 : Nat) (Option.some Jvm.ClassFile.FieldType.boolean)).before args0 about1 = true := code_word (m := ⟨2, 2⟩) (meth := k2m2) (c := k2c2) (by decide +kernel) rfl rfl rfl (by decide +kernel)
def codes1 : List Jvm.Cond := [Jvm.Cond.code x code maxLocals ret, Jvm.Cond.code ({ cls := "com/example/impatiens/impatiens/MatchBudget", name := "<init>", desc := "(J)V" } : Jvm.MethodName) prog_2_method_1_code (3 : Nat) (Option.none : Option Jvm.ClassFile.FieldType), Jvm.Cond.code ({ cls := "java/lang/Object", name := "<init>", desc := "()V" } : Jvm.MethodName) object_method_1_code (1 : Nat) (Option.none : Option Jvm.ClassFile.FieldType), Jvm.Cond.code ({ cls := "com/example/impatiens/impatiens/MatchBudget", name := "spend", desc := "(J)Z" } : Jvm.MethodName) prog_2_method_3_code (3 : Nat) (Option.some Jvm.ClassFile.FieldType.boolean), Jvm.Cond.code ({ cls := "com/example/impatiens/impatiens/MatchBudget", name := "isSpent", desc := "()Z" } : Jvm.MethodName) prog_2_method_4_code (1 : Nat) (Option.some Jvm.ClassFile.FieldType.boolean)]
set_option maxRecDepth 65536 in
theorem codes_eq : words1.filter isCode = codes1 := rfl
theorem w_codes : ∀ c ∈ words1.filter isCode, c.before args0 about1 = true := by
  rw [codes_eq]
  intro c hc
  simp only [codes1, List.mem_cons, List.not_mem_nil, or_false] at hc
  rcases hc with rfl | rfl | rfl | rfl | rfl
  · exact w_c0
  · exact w_c1
  · exact w_c2
  · exact w_c3
  · exact w_c4
set_option maxRecDepth 65536 in
theorem w_t1 : (words1.take 24).all (fun c => isCode c || c.before args0 about1) = true := by decide +kernel
set_option maxRecDepth 65536 in
theorem w_t2 : (words1.drop 24).all (fun c => isCode c || c.before args0 about1) = true := by decide +kernel
theorem w_tables : (allAtoms (Jvm.Cond.code x code maxLocals ret :: tables_1)).before args0 about1 = true := by
  rw [allAtoms_all]
  show words1.all (fun c => c.before args0 about1) = true
  refine all_split ?_ w_codes
  rw [← List.take_append_drop 24 words1, List.all_append, w_t1, w_t2]
  rfl
set_option maxRecDepth 65536 in
theorem w_case : (Jvm.Cond.and given_1 narrow_1).before args0 about1 = true := by decide +kernel
theorem w_applies : (headSpec (Jvm.Cond.code x code maxLocals ret :: tables_1) room_1).applies x e0.platform about1 = true :=
  (Spec.applies_iff w_frames).mpr ⟨w_running, w_runnable, w_alone, w_named, w_hears, w_ripe, w_room, w_tables⟩
theorem atStart : AtStart classFile x code maxLocals ret World_1 tables_1 room_1 Calls_1 rest_1 Pre_1 launch0 p0 e0 about1 theMethod args0 below0 :=
  ⟨lists_1, trivial, launch0.admits_env _ _ _, launch0.least_env, fairChoices_fair.cas, fairChoices_fair.clock, w_frames, w_args, w_heap, w_applies, trivial, trivial, w_case⟩
end start1
theorem witness_1 : WitnessClaimed_1 := ⟨start1.p0, start1.e0, start1.about1, start1.theMethod, start1.args0, start1.below0, start1.atStart⟩
end Jvm.Pilot.@@N@@
