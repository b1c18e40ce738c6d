import JvmDerived
import JvmDerived.Pilot.@@N@@Statement
import JvmDerived.Pilot.@@N@@Code
set_option linter.unusedVariables false
set_option linter.unusedSimpArgs false
namespace Jvm.OwnWk
open Sem ClassFile Op Lib Jvm.Stand Jvm.Free Jvm.LawKit Jvm.RoadKit
def Sd (Z : State) (own : String) (bs : ByteArray) (mx : Nat) (ret : Option FieldType) (n0 : Nat) (p : Program) (l : Launch) (e : Env) (R : Room) (s : State) (m : MethodId) (args : Array Value) (below : List Frame) (meth : Method) (c : Code) (T : State) (h : Heap) (k n : Nat) : Prop :=
  ∃ locs, Stand p l e R s m args below meth c T locs k n ∧ T.heap = h ∧ Fr n0 locs ∧ n0 ≤ s.heap.size ∧ p.tables.exec = Jvm.exec ∧ Z.Warmed39 s.vm ∧ s.vm.findClass own = some m.cls ∧ c.code = bs ∧ c.maxLocals = mx ∧ meth.sig.returnType = ret ∧ meth.locks = false
def Gl (p : Program) (e : Env) (below : List Frame) (P : Outcome → State → Prop) (A : State) : Prop := ∃ t o, Steps p.tables e below A t ∧ t.status = .running ∧ Ended t below o ∧ P o t
def Pst (s : State) (n0 K N : Nat) (Q : Option Value → Heap → Prop) (o : Outcome) (t : State) : Prop := ∃ v L, o = .returned v ∧ (Q v t.heap ∧ Fr n0 L) ∧ FrameEnd s o t L K N
def OMet (l : Launch) (Z : State) (ws : List Jvm.Cond) (y : MethodName) (bs : ByteArray) (mx : Nat) (ret : Option FieldType) (rm : Room) (as : Array Value) (h : Heap) (n0 : Nat) (Q : Option Value → Heap → Prop) : Prop :=
  MetFree l y (head1 (Jvm.Cond.code y bs mx ret :: ws) rm) (fun a U => a = as ∧ Z.Warmed39 U.vm ∧ U.heap = h) (fun _ _ _ _ _ => True) (fun _ U o U' => ∃ v L, o = .returned v ∧ (Q v U'.heap ∧ Fr n0 L) ∧ FrameEnd U o U' L rm.cells rm.slots)
section Kit
variable {Z : State} {own : String} {bs : ByteArray} {mx : Nat} {ret : Option FieldType} {n0 : Nat} {p : Program} {l : Launch} {e : Env} {R : Room} {s : State} {m : MethodId} {args : Array Value} {below : List Frame} {meth : Method} {c : Code} {T : State} {h : Heap} {k n : Nat} {P : Outcome → State → Prop} {L : Array Slot} {S : List Value} {pc pc' pcT pcF : Nat} {a0 : Array Value} {t : FieldType}
theorem Gl.of1 {A B : State} (f : ∀ t, Steps p.tables e below B t → Steps p.tables e below A t) (q : Gl p e below P B) : Gl p e below P A := by
  obtain ⟨t, o, h1, h2⟩ := q
  exact ⟨t, o, f t h1, h2⟩
theorem Gl.via {A B : State} (f : Steps p.tables e below A B) (q : Gl p e below P B) : Gl p e below P A := by
  obtain ⟨t, o, h1, h2⟩ := q
  exact ⟨t, o, f.trans h1, h2⟩
theorem OMet.of {ws : List Jvm.Cond} {y : MethodName} {rm : Room} {as : Array Value} {Q : Option Value → Heap → Prop} (hpl : plainFor y = true) (hef : ∀ m, entryFrame m as mx = mkF m 0 L []) (hn : n0 ≤ h.size)
    (body : ∀ p e s m below meth c T, Sd Z y.cls bs mx ret n0 p l e rm s m as below meth c T h 0 0 → meth.name = y.name → Gl p e below (Pst s n0 rm.cells rm.slots Q) (T.setTop (mkF m 0 L []))) : OMet l Z ws y bs mx ret rm as h n0 Q := by
  refine MetFree.of_bodySF hpl hisR ?_
  intro p e s m args below meth c s₁ Bd hml0 hP hK
  obtain ⟨rfl, hZ, hh⟩ := hP
  have e0 : s₁.heap = h := by rw [← hh, Bd.state]; rfl
  obtain ⟨t, o, h1, h2, h3, h4⟩ := body p e s m below meth c s₁ ⟨[], Stand.of_body Bd, e0, Fr.nil n0, by rw [hh]; exact hn, Bd.exec, hZ, findClass_of_methodNamed Bd.named, Bd.bytes, hml0, Bd.returns, Bd.notSynchronized⟩ (name_of_methodNamed Bd.named Bd.method).1
  exact ⟨t, o, castTop (hef m) h1, h2, h3, h4⟩

theorem own_grow {T' : State} {locs' : List Loc} {k' n' : Nat} (X : Stand p l e R s m args below meth c T' locs' k' n') : s.heap.size ≤ T'.heap.size := X.same.2.1
theorem own_eqI {args : Array Value} {Z : State} {t : Term} {v : Int32} (q : (Jvm.Cond.eq t (.int v)).value args Z none Z [] = some true) : t.eval args Z none [] Z = some (.int v) := by
  simp only [Cond.value, Term.eval] at q
  cases ht : t.eval args Z none [] Z with
  | none => simp [ht] at q
  | some w => cases w <;> simp [ht] at q ⊢ <;> exact q
theorem own_ite {c A B : Prop} [Decidable c] (h1 : c → A) (h2 : ¬ c → B) : A ∨ B := if q : c then Or.inl (h1 q) else Or.inr (h2 q)
theorem own_cut {A B : Prop} (f : B → A) (b : B) : A := f b
theorem Sd.sz (Y : Sd Z own bs mx ret n0 p l e R s m args below meth c T h k n) : n0 ≤ h.size := by
  obtain ⟨locs, X, eT, N, hn0, hx, hZ, hown, hby, hml, hrt, hlk⟩ := Y
  exact eT ▸ Nat.le_trans hn0 (own_grow X)
theorem own_narB {a v : Int32} (h : a.toInt8.toInt32 = v) : nar .byte v = v := by subst h; simp [nar]
theorem own_narC {a v : Int32} (h : a.toUInt32.toUInt16.toUInt32.toInt32 = v) : nar .char v = v := by subst h; have q := Jvm.Free.XT.narrow_c a; exact Value.int.inj q
theorem own_narS {a v : Int32} (h : a.toInt16.toInt32 = v) : nar .short v = v := by subst h; simp [nar]
theorem own_c3 {v : Int32} (h0 : 0 ≤ v.toInt) (h : v.toInt ≤ 3) : v = 0 ∨ v = 1 ∨ v = 2 ∨ v = 3 := by
  have : v.toInt = 0 ∨ v.toInt = 1 ∨ v.toInt = 2 ∨ v.toInt = 3 := by omega
  rcases this with q | q | q | q <;> simp [← Int32.toInt_inj, q]
theorem own_c4 {v : Int32} (h0 : 0 ≤ v.toInt) (h : v.toInt ≤ 4) : v = 0 ∨ v = 1 ∨ v = 2 ∨ v = 3 ∨ v = 4 := by
  have : v.toInt = 0 ∨ v.toInt = 1 ∨ v.toInt = 2 ∨ v.toInt = 3 ∨ v.toInt = 4 := by omega
  rcases this with q | q | q | q | q <;> simp [← Int32.toInt_inj, q]
theorem own_c5 {v : Int32} (h0 : 0 ≤ v.toInt) (h : v.toInt ≤ 5) : v = 0 ∨ v = 1 ∨ v = 2 ∨ v = 3 ∨ v = 4 ∨ v = 5 := by
  have : v.toInt = 0 ∨ v.toInt = 1 ∨ v.toInt = 2 ∨ v.toInt = 3 ∨ v.toInt = 4 ∨ v.toInt = 5 := by omega
  rcases this with q | q | q | q | q | q <;> simp [← Int32.toInt_inj, q]
theorem own_narR {t : FieldType} {x : Value} (q : x.isRef = true) : narrow t x = x := by rcases ref_cases q with rfl | ⟨z, rfl⟩ <;> cases t <;> rfl
theorem OMet.un {l : Launch} {Z : State} {ws : List Jvm.Cond} {y : MethodName} {bs : ByteArray} {mx : Nat} {ret : Option FieldType} {rm : Room} {as : Array Value} {h : Heap} {n0 : Nat} {Q : Option Value → Heap → Prop} (q : OMet l Z ws y bs mx ret rm as h n0 Q) :
  MetFree l y (head1 (Jvm.Cond.code y bs mx ret :: ws) rm) (fun a U => a = as ∧ Z.Warmed39 U.vm ∧ U.heap = h) (fun _ _ _ _ _ => True) (fun _ U o U' => ∃ v L, o = .returned v ∧ (fun v h' L => Q v h' ∧ Fr n0 L) v U'.heap L ∧ FrameEnd U o U' L rm.cells rm.slots) := q
theorem own_not64 (x : Int64) : (x ^^^ (-1)).toInt = -x.toInt - 1 := by
  have h1 : x ^^^ (-1) = ~~~x := by
    apply Int64.toBitVec_inj.mp
    rw [Int64.toBitVec_xor, Int64.toBitVec_not]
    exact BitVec.xor_allOnes
  rw [h1, Int64.not_eq_neg_sub]
  have q := c_lsub (-x) 1
  have r := c_lneg x
  have n1 := rng64 (-x - 1)
  have n2 := rng64 (-x)
  have n3 := rng64 x
  simp only [Int64.reduceToInt] at q
  omega
theorem own_narZ {x : Int32} (q : x = 0 ∨ x = 1) : nar .boolean x = x := by rcases q with rfl | rfl <;> rfl
theorem own_nZ {x : Int32} (q : x = 0 ∨ x = 1) : narrow .boolean (.int x) = .int x := by rcases q with rfl | rfl <;> rfl
theorem own_fZ {x : Int32} (q : x = 0 ∨ x = 1) : fits .boolean (.int x) = true := by rcases q with rfl | rfl <;> rfl
theorem Gl.iadd (Y : Sd Z own bs mx ret n0 p l e R s m args below meth c T h k n) {x y : Int32} {r : Int32} (hr : x + y = r) (hd : decode bs pc = .ok (.iadd, 1)) (hp : pc + 1 = pc') (q : Gl p e below P (T.setTop (mkF m pc' L (.int r :: S)))) : Gl p e below P (T.setTop (mkF m pc L (.int y :: .int x :: S))) := by
  obtain ⟨locs, X, eT, N, hn0, hx, hZ, hown, hby, hml, hrt, hlk⟩ := Y
  subst hp hr
  exact q.of1 fun t q => XS.iadd X.here hx rfl (hb hby hd) rfl q
theorem Gl.isub (Y : Sd Z own bs mx ret n0 p l e R s m args below meth c T h k n) {x y : Int32} {r : Int32} (hr : x - y = r) (hd : decode bs pc = .ok (.isub, 1)) (hp : pc + 1 = pc') (q : Gl p e below P (T.setTop (mkF m pc' L (.int r :: S)))) : Gl p e below P (T.setTop (mkF m pc L (.int y :: .int x :: S))) := by
  obtain ⟨locs, X, eT, N, hn0, hx, hZ, hown, hby, hml, hrt, hlk⟩ := Y
  subst hp hr
  exact q.of1 fun t q => XS.isub X.here hx rfl (hb hby hd) rfl q
theorem Gl.imul (Y : Sd Z own bs mx ret n0 p l e R s m args below meth c T h k n) {x y : Int32} {r : Int32} (hr : x * y = r) (hd : decode bs pc = .ok (.imul, 1)) (hp : pc + 1 = pc') (q : Gl p e below P (T.setTop (mkF m pc' L (.int r :: S)))) : Gl p e below P (T.setTop (mkF m pc L (.int y :: .int x :: S))) := by
  obtain ⟨locs, X, eT, N, hn0, hx, hZ, hown, hby, hml, hrt, hlk⟩ := Y
  subst hp hr
  exact q.of1 fun t q => XS.imul X.here hx rfl (hb hby hd) rfl q
theorem Gl.iand (Y : Sd Z own bs mx ret n0 p l e R s m args below meth c T h k n) {x y : Int32} {r : Int32} (hr : x &&& y = r) (hd : decode bs pc = .ok (.iand, 1)) (hp : pc + 1 = pc') (q : Gl p e below P (T.setTop (mkF m pc' L (.int r :: S)))) : Gl p e below P (T.setTop (mkF m pc L (.int y :: .int x :: S))) := by
  obtain ⟨locs, X, eT, N, hn0, hx, hZ, hown, hby, hml, hrt, hlk⟩ := Y
  subst hp hr
  exact q.of1 fun t q => XS.iand X.here hx rfl (hb hby hd) rfl q
theorem Gl.ior (Y : Sd Z own bs mx ret n0 p l e R s m args below meth c T h k n) {x y : Int32} {r : Int32} (hr : x ||| y = r) (hd : decode bs pc = .ok (.ior, 1)) (hp : pc + 1 = pc') (q : Gl p e below P (T.setTop (mkF m pc' L (.int r :: S)))) : Gl p e below P (T.setTop (mkF m pc L (.int y :: .int x :: S))) := by
  obtain ⟨locs, X, eT, N, hn0, hx, hZ, hown, hby, hml, hrt, hlk⟩ := Y
  subst hp hr
  exact q.of1 fun t q => XS.ior X.here hx rfl (hb hby hd) rfl q
theorem Gl.ixor (Y : Sd Z own bs mx ret n0 p l e R s m args below meth c T h k n) {x y : Int32} {r : Int32} (hr : x ^^^ y = r) (hd : decode bs pc = .ok (.ixor, 1)) (hp : pc + 1 = pc') (q : Gl p e below P (T.setTop (mkF m pc' L (.int r :: S)))) : Gl p e below P (T.setTop (mkF m pc L (.int y :: .int x :: S))) := by
  obtain ⟨locs, X, eT, N, hn0, hx, hZ, hown, hby, hml, hrt, hlk⟩ := Y
  subst hp hr
  exact q.of1 fun t q => XS.ixor X.here hx rfl (hb hby hd) rfl q
theorem Gl.ishl (Y : Sd Z own bs mx ret n0 p l e R s m args below meth c T h k n) {x y : Int32} {r : Int32} (hr : x <<< (y &&& 31) = r) (hd : decode bs pc = .ok (.ishl, 1)) (hp : pc + 1 = pc') (q : Gl p e below P (T.setTop (mkF m pc' L (.int r :: S)))) : Gl p e below P (T.setTop (mkF m pc L (.int y :: .int x :: S))) := by
  obtain ⟨locs, X, eT, N, hn0, hx, hZ, hown, hby, hml, hrt, hlk⟩ := Y
  subst hp hr
  exact q.of1 fun t q => XS.ishl X.here hx rfl (hb hby hd) rfl q
theorem Gl.ishr (Y : Sd Z own bs mx ret n0 p l e R s m args below meth c T h k n) {x y : Int32} {r : Int32} (hr : x >>> (y &&& 31) = r) (hd : decode bs pc = .ok (.ishr, 1)) (hp : pc + 1 = pc') (q : Gl p e below P (T.setTop (mkF m pc' L (.int r :: S)))) : Gl p e below P (T.setTop (mkF m pc L (.int y :: .int x :: S))) := by
  obtain ⟨locs, X, eT, N, hn0, hx, hZ, hown, hby, hml, hrt, hlk⟩ := Y
  subst hp hr
  exact q.of1 fun t q => XS.ishr X.here hx rfl (hb hby hd) rfl q
theorem Gl.iushr (Y : Sd Z own bs mx ret n0 p l e R s m args below meth c T h k n) {x y : Int32} {r : Int32} (hr : (x.toUInt32 >>> (y &&& 31).toUInt32).toInt32 = r) (hd : decode bs pc = .ok (.iushr, 1)) (hp : pc + 1 = pc') (q : Gl p e below P (T.setTop (mkF m pc' L (.int r :: S)))) : Gl p e below P (T.setTop (mkF m pc L (.int y :: .int x :: S))) := by
  obtain ⟨locs, X, eT, N, hn0, hx, hZ, hown, hby, hml, hrt, hlk⟩ := Y
  subst hp hr
  exact q.of1 fun t q => XS.iushr X.here hx rfl (hb hby hd) rfl q
theorem Gl.ladd (Y : Sd Z own bs mx ret n0 p l e R s m args below meth c T h k n) {x y : Int64} {r : Int64} (hr : x + y = r) (hd : decode bs pc = .ok (.ladd, 1)) (hp : pc + 1 = pc') (q : Gl p e below P (T.setTop (mkF m pc' L (.long r :: S)))) : Gl p e below P (T.setTop (mkF m pc L (.long y :: .long x :: S))) := by
  obtain ⟨locs, X, eT, N, hn0, hx, hZ, hown, hby, hml, hrt, hlk⟩ := Y
  subst hp hr
  exact q.of1 fun t q => XS.ladd X.here hx rfl (hb hby hd) rfl q
theorem Gl.lsub (Y : Sd Z own bs mx ret n0 p l e R s m args below meth c T h k n) {x y : Int64} {r : Int64} (hr : x - y = r) (hd : decode bs pc = .ok (.lsub, 1)) (hp : pc + 1 = pc') (q : Gl p e below P (T.setTop (mkF m pc' L (.long r :: S)))) : Gl p e below P (T.setTop (mkF m pc L (.long y :: .long x :: S))) := by
  obtain ⟨locs, X, eT, N, hn0, hx, hZ, hown, hby, hml, hrt, hlk⟩ := Y
  subst hp hr
  exact q.of1 fun t q => XS.lsub X.here hx rfl (hb hby hd) rfl q
theorem Gl.lmul (Y : Sd Z own bs mx ret n0 p l e R s m args below meth c T h k n) {x y : Int64} {r : Int64} (hr : x * y = r) (hd : decode bs pc = .ok (.lmul, 1)) (hp : pc + 1 = pc') (q : Gl p e below P (T.setTop (mkF m pc' L (.long r :: S)))) : Gl p e below P (T.setTop (mkF m pc L (.long y :: .long x :: S))) := by
  obtain ⟨locs, X, eT, N, hn0, hx, hZ, hown, hby, hml, hrt, hlk⟩ := Y
  subst hp hr
  exact q.of1 fun t q => XS.lmul X.here hx rfl (hb hby hd) rfl q
theorem Gl.land (Y : Sd Z own bs mx ret n0 p l e R s m args below meth c T h k n) {x y : Int64} {r : Int64} (hr : x &&& y = r) (hd : decode bs pc = .ok (.land, 1)) (hp : pc + 1 = pc') (q : Gl p e below P (T.setTop (mkF m pc' L (.long r :: S)))) : Gl p e below P (T.setTop (mkF m pc L (.long y :: .long x :: S))) := by
  obtain ⟨locs, X, eT, N, hn0, hx, hZ, hown, hby, hml, hrt, hlk⟩ := Y
  subst hp hr
  exact q.of1 fun t q => XS.land X.here hx rfl (hb hby hd) rfl q
theorem Gl.lor (Y : Sd Z own bs mx ret n0 p l e R s m args below meth c T h k n) {x y : Int64} {r : Int64} (hr : x ||| y = r) (hd : decode bs pc = .ok (.lor, 1)) (hp : pc + 1 = pc') (q : Gl p e below P (T.setTop (mkF m pc' L (.long r :: S)))) : Gl p e below P (T.setTop (mkF m pc L (.long y :: .long x :: S))) := by
  obtain ⟨locs, X, eT, N, hn0, hx, hZ, hown, hby, hml, hrt, hlk⟩ := Y
  subst hp hr
  exact q.of1 fun t q => XS.lor X.here hx rfl (hb hby hd) rfl q
theorem Gl.lxor (Y : Sd Z own bs mx ret n0 p l e R s m args below meth c T h k n) {x y : Int64} {r : Int64} (hr : x ^^^ y = r) (hd : decode bs pc = .ok (.lxor, 1)) (hp : pc + 1 = pc') (q : Gl p e below P (T.setTop (mkF m pc' L (.long r :: S)))) : Gl p e below P (T.setTop (mkF m pc L (.long y :: .long x :: S))) := by
  obtain ⟨locs, X, eT, N, hn0, hx, hZ, hown, hby, hml, hrt, hlk⟩ := Y
  subst hp hr
  exact q.of1 fun t q => XS.lxor X.here hx rfl (hb hby hd) rfl q
theorem Gl.lshl (Y : Sd Z own bs mx ret n0 p l e R s m args below meth c T h k n) {x : Int64} {y : Int32} {r : Int64} (hr : x <<< (y &&& 0x3f).toInt64 = r) (hd : decode bs pc = .ok (.lshl, 1)) (hp : pc + 1 = pc') (q : Gl p e below P (T.setTop (mkF m pc' L (.long r :: S)))) : Gl p e below P (T.setTop (mkF m pc L (.int y :: .long x :: S))) := by
  obtain ⟨locs, X, eT, N, hn0, hx, hZ, hown, hby, hml, hrt, hlk⟩ := Y
  subst hp hr
  exact q.of1 fun t q => XS.lshl X.here hx rfl (hb hby hd) rfl q
theorem Gl.lshr (Y : Sd Z own bs mx ret n0 p l e R s m args below meth c T h k n) {x : Int64} {y : Int32} {r : Int64} (hr : x >>> (y &&& 0x3f).toInt64 = r) (hd : decode bs pc = .ok (.lshr, 1)) (hp : pc + 1 = pc') (q : Gl p e below P (T.setTop (mkF m pc' L (.long r :: S)))) : Gl p e below P (T.setTop (mkF m pc L (.int y :: .long x :: S))) := by
  obtain ⟨locs, X, eT, N, hn0, hx, hZ, hown, hby, hml, hrt, hlk⟩ := Y
  subst hp hr
  exact q.of1 fun t q => XS.lshr X.here hx rfl (hb hby hd) rfl q
theorem Gl.lushr (Y : Sd Z own bs mx ret n0 p l e R s m args below meth c T h k n) {x : Int64} {y : Int32} {r : Int64} (hr : (x.toUInt64 >>> (y &&& 0x3f).toInt64.toUInt64).toInt64 = r) (hd : decode bs pc = .ok (.lushr, 1)) (hp : pc + 1 = pc') (q : Gl p e below P (T.setTop (mkF m pc' L (.long r :: S)))) : Gl p e below P (T.setTop (mkF m pc L (.int y :: .long x :: S))) := by
  obtain ⟨locs, X, eT, N, hn0, hx, hZ, hown, hby, hml, hrt, hlk⟩ := Y
  subst hp hr
  exact q.of1 fun t q => XS.lushr X.here hx rfl (hb hby hd) rfl q
theorem Gl.idiv (Y : Sd Z own bs mx ret n0 p l e R s m args below meth c T h k n) {x y : Int32} (hy : y ≠ 0) {r : Int32} (hr : x / y = r) (hd : decode bs pc = .ok (.idiv, 1)) (hp : pc + 1 = pc') (q : Gl p e below P (T.setTop (mkF m pc' L (.int r :: S)))) : Gl p e below P (T.setTop (mkF m pc L (.int y :: .int x :: S))) := by
  obtain ⟨locs, X, eT, N, hn0, hx, hZ, hown, hby, hml, hrt, hlk⟩ := Y
  subst hp hr
  exact q.of1 fun t q => XS.idiv X.here hx rfl (hb hby hd) rfl hy q
theorem Gl.irem (Y : Sd Z own bs mx ret n0 p l e R s m args below meth c T h k n) {x y : Int32} (hy : y ≠ 0) {r : Int32} (hr : x % y = r) (hd : decode bs pc = .ok (.irem, 1)) (hp : pc + 1 = pc') (q : Gl p e below P (T.setTop (mkF m pc' L (.int r :: S)))) : Gl p e below P (T.setTop (mkF m pc L (.int y :: .int x :: S))) := by
  obtain ⟨locs, X, eT, N, hn0, hx, hZ, hown, hby, hml, hrt, hlk⟩ := Y
  subst hp hr
  exact q.of1 fun t q => iremM X hx rfl (hb hby hd) rfl hy q
theorem Gl.ldiv (Y : Sd Z own bs mx ret n0 p l e R s m args below meth c T h k n) {x y : Int64} (hy : y ≠ 0) {r : Int64} (hr : x / y = r) (hd : decode bs pc = .ok (.ldiv, 1)) (hp : pc + 1 = pc') (q : Gl p e below P (T.setTop (mkF m pc' L (.long r :: S)))) : Gl p e below P (T.setTop (mkF m pc L (.long y :: .long x :: S))) := by
  obtain ⟨locs, X, eT, N, hn0, hx, hZ, hown, hby, hml, hrt, hlk⟩ := Y
  subst hp hr
  exact q.of1 fun t q => XS.ldiv X.here hx rfl (hb hby hd) rfl hy q
theorem Gl.lrem (Y : Sd Z own bs mx ret n0 p l e R s m args below meth c T h k n) {x y : Int64} (hy : y ≠ 0) {r : Int64} (hr : x % y = r) (hd : decode bs pc = .ok (.lrem, 1)) (hp : pc + 1 = pc') (q : Gl p e below P (T.setTop (mkF m pc' L (.long r :: S)))) : Gl p e below P (T.setTop (mkF m pc L (.long y :: .long x :: S))) := by
  obtain ⟨locs, X, eT, N, hn0, hx, hZ, hown, hby, hml, hrt, hlk⟩ := Y
  subst hp hr
  exact q.of1 fun t q => XS.lrem X.here hx rfl (hb hby hd) rfl hy (by rw [lrem_mod]; exact q)
theorem Gl.ineg (Y : Sd Z own bs mx ret n0 p l e R s m args below meth c T h k n) {x : Int32} {r : Int32} (hr : -x = r) (hd : decode bs pc = .ok (.ineg, 1)) (hp : pc + 1 = pc') (q : Gl p e below P (T.setTop (mkF m pc' L (.int r :: S)))) : Gl p e below P (T.setTop (mkF m pc L (.int x :: S))) := by
  obtain ⟨locs, X, eT, N, hn0, hx, hZ, hown, hby, hml, hrt, hlk⟩ := Y
  subst hp hr
  exact q.of1 fun t q => XS.ineg X.here hx rfl (hb hby hd) rfl q
theorem Gl.lneg (Y : Sd Z own bs mx ret n0 p l e R s m args below meth c T h k n) {x : Int64} {r : Int64} (hr : -x = r) (hd : decode bs pc = .ok (.lneg, 1)) (hp : pc + 1 = pc') (q : Gl p e below P (T.setTop (mkF m pc' L (.long r :: S)))) : Gl p e below P (T.setTop (mkF m pc L (.long x :: S))) := by
  obtain ⟨locs, X, eT, N, hn0, hx, hZ, hown, hby, hml, hrt, hlk⟩ := Y
  subst hp hr
  exact q.of1 fun t q => XS.lneg X.here hx rfl (hb hby hd) rfl q
theorem Gl.i2b (Y : Sd Z own bs mx ret n0 p l e R s m args below meth c T h k n) {x : Int32} {r : Int32} (hr : x.toInt8.toInt32 = r) (hd : decode bs pc = .ok (.i2b, 1)) (hp : pc + 1 = pc') (q : Gl p e below P (T.setTop (mkF m pc' L (.int r :: S)))) : Gl p e below P (T.setTop (mkF m pc L (.int x :: S))) := by
  obtain ⟨locs, X, eT, N, hn0, hx, hZ, hown, hby, hml, hrt, hlk⟩ := Y
  subst hp hr
  exact q.of1 fun t q => XS.i2b X.here hx rfl (hb hby hd) rfl q
theorem Gl.i2c (Y : Sd Z own bs mx ret n0 p l e R s m args below meth c T h k n) {x : Int32} {r : Int32} (hr : x.toUInt32.toUInt16.toUInt32.toInt32 = r) (hd : decode bs pc = .ok (.i2c, 1)) (hp : pc + 1 = pc') (q : Gl p e below P (T.setTop (mkF m pc' L (.int r :: S)))) : Gl p e below P (T.setTop (mkF m pc L (.int x :: S))) := by
  obtain ⟨locs, X, eT, N, hn0, hx, hZ, hown, hby, hml, hrt, hlk⟩ := Y
  subst hp hr
  exact q.of1 fun t q => XS.i2c X.here hx rfl (hb hby hd) rfl q
theorem Gl.i2s (Y : Sd Z own bs mx ret n0 p l e R s m args below meth c T h k n) {x : Int32} {r : Int32} (hr : x.toInt16.toInt32 = r) (hd : decode bs pc = .ok (.i2s, 1)) (hp : pc + 1 = pc') (q : Gl p e below P (T.setTop (mkF m pc' L (.int r :: S)))) : Gl p e below P (T.setTop (mkF m pc L (.int x :: S))) := by
  obtain ⟨locs, X, eT, N, hn0, hx, hZ, hown, hby, hml, hrt, hlk⟩ := Y
  subst hp hr
  exact q.of1 fun t q => XS.i2s X.here hx rfl (hb hby hd) rfl q
theorem Gl.i2l (Y : Sd Z own bs mx ret n0 p l e R s m args below meth c T h k n) {x : Int32} {r : Int64} (hr : x.toInt64 = r) (hd : decode bs pc = .ok (.i2l, 1)) (hp : pc + 1 = pc') (q : Gl p e below P (T.setTop (mkF m pc' L (.long r :: S)))) : Gl p e below P (T.setTop (mkF m pc L (.int x :: S))) := by
  obtain ⟨locs, X, eT, N, hn0, hx, hZ, hown, hby, hml, hrt, hlk⟩ := Y
  subst hp hr
  exact q.of1 fun t q => XS.i2l X.here hx rfl (hb hby hd) rfl q
theorem Gl.l2i (Y : Sd Z own bs mx ret n0 p l e R s m args below meth c T h k n) {x : Int64} {r : Int32} (hr : x.toInt32 = r) (hd : decode bs pc = .ok (.l2i, 1)) (hp : pc + 1 = pc') (q : Gl p e below P (T.setTop (mkF m pc' L (.int r :: S)))) : Gl p e below P (T.setTop (mkF m pc L (.long x :: S))) := by
  obtain ⟨locs, X, eT, N, hn0, hx, hZ, hown, hby, hml, hrt, hlk⟩ := Y
  subst hp hr
  exact q.of1 fun t q => XS.l2i X.here hx rfl (hb hby hd) rfl q
theorem Gl.iconst (Y : Sd Z own bs mx ret n0 p l e R s m args below meth c T h k n) {i : Int} {v : Int32} (hv : Int32.ofInt i = v) (hd : decode bs pc = .ok (.iconst i, 1)) (hp : pc + 1 = pc') (q : Gl p e below P (T.setTop (mkF m pc' L (.int v :: S)))) : Gl p e below P (T.setTop (mkF m pc L S)) := by
  obtain ⟨locs, X, eT, N, hn0, hx, hZ, hown, hby, hml, hrt, hlk⟩ := Y
  subst hp
  exact q.of1 fun t q => XS.iconst X.here hx rfl (hb hby hd) (by rw [hv]; exact q)
theorem Gl.bipush (Y : Sd Z own bs mx ret n0 p l e R s m args below meth c T h k n) {i : Int} {v : Int32} (hv : (Int8.ofInt i).toInt32 = v) (hd : decode bs pc = .ok (.bipush i, 2)) (hp : pc + 2 = pc') (q : Gl p e below P (T.setTop (mkF m pc' L (.int v :: S)))) : Gl p e below P (T.setTop (mkF m pc L S)) := by
  obtain ⟨locs, X, eT, N, hn0, hx, hZ, hown, hby, hml, hrt, hlk⟩ := Y
  subst hp
  exact q.of1 fun t q => XS.bipush X.here hx rfl (hb hby hd) (by rw [hv]; exact q)
theorem Gl.sipush (Y : Sd Z own bs mx ret n0 p l e R s m args below meth c T h k n) {i : Int} {v : Int32} (hv : (Int16.ofInt i).toInt32 = v) (hd : decode bs pc = .ok (.sipush i, 3)) (hp : pc + 3 = pc') (q : Gl p e below P (T.setTop (mkF m pc' L (.int v :: S)))) : Gl p e below P (T.setTop (mkF m pc L S)) := by
  obtain ⟨locs, X, eT, N, hn0, hx, hZ, hown, hby, hml, hrt, hlk⟩ := Y
  subst hp
  exact q.of1 fun t q => XS.sipush X.here hx rfl (hb hby hd) (by rw [hv]; exact q)
theorem Gl.lconst (Y : Sd Z own bs mx ret n0 p l e R s m args below meth c T h k n) {i : Fin 2} {v : Int64} (hv : Int64.ofNat i = v) (hd : decode bs pc = .ok (.lconst i, 1)) (hp : pc + 1 = pc') (q : Gl p e below P (T.setTop (mkF m pc' L (.long v :: S)))) : Gl p e below P (T.setTop (mkF m pc L S)) := by
  obtain ⟨locs, X, eT, N, hn0, hx, hZ, hown, hby, hml, hrt, hlk⟩ := Y
  subst hp
  exact q.of1 fun t q => XS.lconst X.here hx rfl (hb hby hd) (by rw [hv]; exact q)
theorem Gl.aconstNull (Y : Sd Z own bs mx ret n0 p l e R s m args below meth c T h k n)  (hd : decode bs pc = .ok (.aconst_null, 1)) (hp : pc + 1 = pc') (q : Gl p e below P (T.setTop (mkF m pc' L (.null :: S)))) : Gl p e below P (T.setTop (mkF m pc L S)) := by
  obtain ⟨locs, X, eT, N, hn0, hx, hZ, hown, hby, hml, hrt, hlk⟩ := Y
  subst hp
  exact q.of1 fun t q => XS.aconstNull X.here hx rfl (hb hby hd) q
theorem Gl.ldcI (Y : Sd Z own bs mx ret n0 p l e R s m args below meth c T h k n) {i : Nat} {v : Int32} (w : (Jvm.Cond.constant own i v).before a0 Z = true) (hd : decode bs pc = .ok (.ldc i, 2)) (hp : pc + 2 = pc') (q : Gl p e below P (T.setTop (mkF m pc' L (.int v :: S)))) : Gl p e below P (T.setTop (mkF m pc L S)) := by
  obtain ⟨locs, X, eT, N, hn0, hx, hZ, hown, hby, hml, hrt, hlk⟩ := Y
  subst hp
  exact q.of1 fun t q => X.ldcInt hx hown (mvT hZ w) (g := mkF m pc L S) rfl (hb hby hd) t q
theorem Gl.ldcWI (Y : Sd Z own bs mx ret n0 p l e R s m args below meth c T h k n) {i : Nat} {v : Int32} (w : (Jvm.Cond.constant own i v).before a0 Z = true) (hd : decode bs pc = .ok (.ldc_w i, 3)) (hp : pc + 3 = pc') (q : Gl p e below P (T.setTop (mkF m pc' L (.int v :: S)))) : Gl p e below P (T.setTop (mkF m pc L S)) := by
  obtain ⟨locs, X, eT, N, hn0, hx, hZ, hown, hby, hml, hrt, hlk⟩ := Y
  subst hp
  exact q.of1 fun t q => X.ldcWI hx hown (mvT hZ w) (g := mkF m pc L S) rfl (hb hby hd) q
theorem Gl.ldcJ (Y : Sd Z own bs mx ret n0 p l e R s m args below meth c T h k n) {i : Nat} {v : Int64} (w : (Jvm.Cond.constantLong own i v).before a0 Z = true) (hd : decode bs pc = .ok (.ldc2_w i, 3)) (hp : pc + 3 = pc') (q : Gl p e below P (T.setTop (mkF m pc' L (.long v :: S)))) : Gl p e below P (T.setTop (mkF m pc L S)) := by
  obtain ⟨locs, X, eT, N, hn0, hx, hZ, hown, hby, hml, hrt, hlk⟩ := Y
  subst hp
  exact q.of1 fun t q => X.ldc2Long hx hown (mvT hZ w) (g := mkF m pc L S) rfl (hb hby hd) t q
theorem Gl.ldcD (Y : Sd Z own bs mx ret n0 p l e R s m args below meth c T h k n) {i : Nat} {v : UInt64} (w : (Jvm.Cond.constantDouble own i v).before a0 Z = true) (hd : decode bs pc = .ok (.ldc2_w i, 3)) (hp : pc + 3 = pc') (q : Gl p e below P (T.setTop (mkF m pc' L (.double v :: S)))) : Gl p e below P (T.setTop (mkF m pc L S)) := by
  obtain ⟨locs, X, eT, N, hn0, hx, hZ, hown, hby, hml, hrt, hlk⟩ := Y
  subst hp
  exact q.of1 fun t q => X.ldc2DoubleC hx hown (mvT hZ w) (g := mkF m pc L S) rfl (hb hby hd) t q
theorem Gl.iload (Y : Sd Z own bs mx ret n0 p l e R s m args below meth c T h k n) {i : Nat} {v : Int32} (hl : L[i]? = some (.val (.int v))) (hd : decode bs pc = .ok (.iload i, 2)) (hp : pc + 2 = pc') (q : Gl p e below P (T.setTop (mkF m pc' L (.int v :: S)))) : Gl p e below P (T.setTop (mkF m pc L S)) := by
  obtain ⟨locs, X, eT, N, hn0, hx, hZ, hown, hby, hml, hrt, hlk⟩ := Y
  subst hp
  exact q.of1 fun t q => XS.iload X.here hx rfl (hb hby hd) hl q
theorem Gl.iloadN (Y : Sd Z own bs mx ret n0 p l e R s m args below meth c T h k n) {i : Fin 4} {v : Int32} (hl : L[i.val]? = some (.val (.int v))) (hd : decode bs pc = .ok (.iload_n i, 1)) (hp : pc + 1 = pc') (q : Gl p e below P (T.setTop (mkF m pc' L (.int v :: S)))) : Gl p e below P (T.setTop (mkF m pc L S)) := by
  obtain ⟨locs, X, eT, N, hn0, hx, hZ, hown, hby, hml, hrt, hlk⟩ := Y
  subst hp
  exact q.of1 fun t q => XS.iloadN X.here hx rfl (hb hby hd) hl q
theorem Gl.lload (Y : Sd Z own bs mx ret n0 p l e R s m args below meth c T h k n) {i : Nat} {v : Int64} (hl : L[i]? = some (.val (.long v))) (hd : decode bs pc = .ok (.lload i, 2)) (hp : pc + 2 = pc') (q : Gl p e below P (T.setTop (mkF m pc' L (.long v :: S)))) : Gl p e below P (T.setTop (mkF m pc L S)) := by
  obtain ⟨locs, X, eT, N, hn0, hx, hZ, hown, hby, hml, hrt, hlk⟩ := Y
  subst hp
  exact q.of1 fun t q => XS.lload X.here hx rfl (hb hby hd) hl q
theorem Gl.lloadN (Y : Sd Z own bs mx ret n0 p l e R s m args below meth c T h k n) {i : Fin 4} {v : Int64} (hl : L[i.val]? = some (.val (.long v))) (hd : decode bs pc = .ok (.lload_n i, 1)) (hp : pc + 1 = pc') (q : Gl p e below P (T.setTop (mkF m pc' L (.long v :: S)))) : Gl p e below P (T.setTop (mkF m pc L S)) := by
  obtain ⟨locs, X, eT, N, hn0, hx, hZ, hown, hby, hml, hrt, hlk⟩ := Y
  subst hp
  exact q.of1 fun t q => XS.lloadN X.here hx rfl (hb hby hd) hl q
theorem Gl.dload (Y : Sd Z own bs mx ret n0 p l e R s m args below meth c T h k n) {i : Nat} {v : UInt64} (hl : L[i]? = some (.val (.double v))) (hd : decode bs pc = .ok (.dload i, 2)) (hp : pc + 2 = pc') (q : Gl p e below P (T.setTop (mkF m pc' L (.double v :: S)))) : Gl p e below P (T.setTop (mkF m pc L S)) := by
  obtain ⟨locs, X, eT, N, hn0, hx, hZ, hown, hby, hml, hrt, hlk⟩ := Y
  subst hp
  exact q.of1 fun t q => XS.dload X.here hx rfl (hb hby hd) hl q
theorem Gl.dloadN (Y : Sd Z own bs mx ret n0 p l e R s m args below meth c T h k n) {i : Fin 4} {v : UInt64} (hl : L[i.val]? = some (.val (.double v))) (hd : decode bs pc = .ok (.dload_n i, 1)) (hp : pc + 1 = pc') (q : Gl p e below P (T.setTop (mkF m pc' L (.double v :: S)))) : Gl p e below P (T.setTop (mkF m pc L S)) := by
  obtain ⟨locs, X, eT, N, hn0, hx, hZ, hown, hby, hml, hrt, hlk⟩ := Y
  subst hp
  exact q.of1 fun t q => XS.dloadN X.here hx rfl (hb hby hd) hl q
theorem Gl.dconst0 (Y : Sd Z own bs mx ret n0 p l e R s m args below meth c T h k n)  (hd : decode bs pc = .ok (.dconst 0, 1)) (hp : pc + 1 = pc') (q : Gl p e below P (T.setTop (mkF m pc' L (.double FP.dconst0 :: S)))) : Gl p e below P (T.setTop (mkF m pc L S)) := by
  obtain ⟨locs, X, eT, N, hn0, hx, hZ, hown, hby, hml, hrt, hlk⟩ := Y
  subst hp
  exact q.of1 fun t q => XS.dconst0 X.here hx rfl (hb hby hd) rfl q
theorem Gl.dconst1 (Y : Sd Z own bs mx ret n0 p l e R s m args below meth c T h k n)  (hd : decode bs pc = .ok (.dconst 1, 1)) (hp : pc + 1 = pc') (q : Gl p e below P (T.setTop (mkF m pc' L (.double FP.dconst1 :: S)))) : Gl p e below P (T.setTop (mkF m pc L S)) := by
  obtain ⟨locs, X, eT, N, hn0, hx, hZ, hown, hby, hml, hrt, hlk⟩ := Y
  subst hp
  exact q.of1 fun t q => XS.dconst1 X.here hx rfl (hb hby hd) rfl q
theorem Gl.aload (Y : Sd Z own bs mx ret n0 p l e R s m args below meth c T h k n) {i : Nat} {v : Value} (hl : L[i]? = some (.val v)) (hv : v.isRef = true) (hd : decode bs pc = .ok (.aload i, 2)) (hp : pc + 2 = pc') (q : Gl p e below P (T.setTop (mkF m pc' L (v :: S)))) : Gl p e below P (T.setTop (mkF m pc L S)) := by
  obtain ⟨locs, X, eT, N, hn0, hx, hZ, hown, hby, hml, hrt, hlk⟩ := Y
  subst hp
  exact q.of1 fun t q => XS.aload X.here hx rfl (hb hby hd) hl hv q
theorem Gl.aloadN (Y : Sd Z own bs mx ret n0 p l e R s m args below meth c T h k n) {i : Fin 4} {v : Value} (hl : L[i.val]? = some (.val v)) (hv : v.isRef = true) (hd : decode bs pc = .ok (.aload_n i, 1)) (hp : pc + 1 = pc') (q : Gl p e below P (T.setTop (mkF m pc' L (v :: S)))) : Gl p e below P (T.setTop (mkF m pc L S)) := by
  obtain ⟨locs, X, eT, N, hn0, hx, hZ, hown, hby, hml, hrt, hlk⟩ := Y
  subst hp
  exact q.of1 fun t q => XS.aloadN X.here hx rfl (hb hby hd) hl hv q
theorem Gl.istore (Y : Sd Z own bs mx ret n0 p l e R s m args below meth c T h k n) {i : Nat} {v : Int32} {L' : Array Slot} (hl : storeLocals L i (.int v) = some L') (hd : decode bs pc = .ok (.istore i, 2)) (hp : pc + 2 = pc') (q : Gl p e below P (T.setTop (mkF m pc' L' S))) : Gl p e below P (T.setTop (mkF m pc L (.int v :: S))) := by
  obtain ⟨locs, X, eT, N, hn0, hx, hZ, hown, hby, hml, hrt, hlk⟩ := Y
  subst hp
  exact q.of1 fun t q => XS.istore X.here hx rfl (hb hby hd) rfl hl q
theorem Gl.istoreN (Y : Sd Z own bs mx ret n0 p l e R s m args below meth c T h k n) {i : Fin 4} {v : Int32} {L' : Array Slot} (hl : storeLocals L i.val (.int v) = some L') (hd : decode bs pc = .ok (.istore_n i, 1)) (hp : pc + 1 = pc') (q : Gl p e below P (T.setTop (mkF m pc' L' S))) : Gl p e below P (T.setTop (mkF m pc L (.int v :: S))) := by
  obtain ⟨locs, X, eT, N, hn0, hx, hZ, hown, hby, hml, hrt, hlk⟩ := Y
  subst hp
  exact q.of1 fun t q => XS.istoreN X.here hx rfl (hb hby hd) rfl hl q
theorem Gl.lstore (Y : Sd Z own bs mx ret n0 p l e R s m args below meth c T h k n) {i : Nat} {v : Int64} {L' : Array Slot} (hl : storeLocals L i (.long v) = some L') (hd : decode bs pc = .ok (.lstore i, 2)) (hp : pc + 2 = pc') (q : Gl p e below P (T.setTop (mkF m pc' L' S))) : Gl p e below P (T.setTop (mkF m pc L (.long v :: S))) := by
  obtain ⟨locs, X, eT, N, hn0, hx, hZ, hown, hby, hml, hrt, hlk⟩ := Y
  subst hp
  exact q.of1 fun t q => XS.lstore X.here hx rfl (hb hby hd) rfl hl q
theorem Gl.lstoreN (Y : Sd Z own bs mx ret n0 p l e R s m args below meth c T h k n) {i : Fin 4} {v : Int64} {L' : Array Slot} (hl : storeLocals L i.val (.long v) = some L') (hd : decode bs pc = .ok (.lstore_n i, 1)) (hp : pc + 1 = pc') (q : Gl p e below P (T.setTop (mkF m pc' L' S))) : Gl p e below P (T.setTop (mkF m pc L (.long v :: S))) := by
  obtain ⟨locs, X, eT, N, hn0, hx, hZ, hown, hby, hml, hrt, hlk⟩ := Y
  subst hp
  exact q.of1 fun t q => XS.lstoreN X.here hx rfl (hb hby hd) rfl hl q
theorem Gl.astore (Y : Sd Z own bs mx ret n0 p l e R s m args below meth c T h k n) {i : Nat} {v : Value} (hv : v.isRef = true) {L' : Array Slot} (hl : storeLocals L i (v) = some L') (hd : decode bs pc = .ok (.astore i, 2)) (hp : pc + 2 = pc') (q : Gl p e below P (T.setTop (mkF m pc' L' S))) : Gl p e below P (T.setTop (mkF m pc L (v :: S))) := by
  obtain ⟨locs, X, eT, N, hn0, hx, hZ, hown, hby, hml, hrt, hlk⟩ := Y
  subst hp
  exact q.of1 fun t q => XS.astore X.here hx rfl (hb hby hd) rfl hv hl q
theorem Gl.astoreN (Y : Sd Z own bs mx ret n0 p l e R s m args below meth c T h k n) {i : Fin 4} {v : Value} (hv : v.isRef = true) {L' : Array Slot} (hl : storeLocals L i.val (v) = some L') (hd : decode bs pc = .ok (.astore_n i, 1)) (hp : pc + 1 = pc') (q : Gl p e below P (T.setTop (mkF m pc' L' S))) : Gl p e below P (T.setTop (mkF m pc L (v :: S))) := by
  obtain ⟨locs, X, eT, N, hn0, hx, hZ, hown, hby, hml, hrt, hlk⟩ := Y
  subst hp
  exact q.of1 fun t q => XS.astoreN X.here hx rfl (hb hby hd) rfl hv hl q
theorem Gl.iinc (Y : Sd Z own bs mx ret n0 p l e R s m args below meth c T h k n) {i : Nat} {cst : Int} {x r : Int32} {L' : Array Slot} (hl : L[i]? = some (.val (.int x))) (hr : x + Int32.ofInt cst = r) (hl' : storeLocals L i (.int r) = some L') (hd : decode bs pc = .ok (.iinc i cst, 3)) (hp : pc + 3 = pc') (q : Gl p e below P (T.setTop (mkF m pc' L' S))) : Gl p e below P (T.setTop (mkF m pc L S)) := by
  obtain ⟨locs, X, eT, N, hn0, hx, hZ, hown, hby, hml, hrt, hlk⟩ := Y
  subst hp
  exact q.of1 fun t q => XS.iinc X.here hx rfl (hb hby hd) hl (by rw [hr]; exact hl') q
theorem Gl.dup (Y : Sd Z own bs mx ret n0 p l e R s m args below meth c T h k n) {x : Value} (hc : x.category = 1) (hd : decode bs pc = .ok (.dup, 1)) (hp : pc + 1 = pc') (q : Gl p e below P (T.setTop (mkF m pc' L (x :: x :: S)))) : Gl p e below P (T.setTop (mkF m pc L (x :: S))) := by
  obtain ⟨locs, X, eT, N, hn0, hx, hZ, hown, hby, hml, hrt, hlk⟩ := Y
  subst hp
  exact q.of1 fun t q => XS.dup X.here hx rfl (hb hby hd) rfl hc q
theorem Gl.pop (Y : Sd Z own bs mx ret n0 p l e R s m args below meth c T h k n) {x : Value} (hc : x.category = 1) (hd : decode bs pc = .ok (.pop, 1)) (hp : pc + 1 = pc') (q : Gl p e below P (T.setTop (mkF m pc' L S))) : Gl p e below P (T.setTop (mkF m pc L (x :: S))) := by
  obtain ⟨locs, X, eT, N, hn0, hx, hZ, hown, hby, hml, hrt, hlk⟩ := Y
  subst hp
  exact q.of1 fun t q => XS.pop X.here hx rfl (hb hby hd) rfl hc q
theorem Gl.dupX1 (Y : Sd Z own bs mx ret n0 p l e R s m args below meth c T h k n) {x y : Value} (hc : x.category = 1) (hc' : y.category = 1) (hd : decode bs pc = .ok (.dup_x1, 1)) (hp : pc + 1 = pc') (q : Gl p e below P (T.setTop (mkF m pc' L (x :: y :: x :: S)))) : Gl p e below P (T.setTop (mkF m pc L (x :: y :: S))) := by
  obtain ⟨locs, X, eT, N, hn0, hx, hZ, hown, hby, hml, hrt, hlk⟩ := Y
  subst hp
  exact q.of1 fun t q => XS.dupX1 X.here hx rfl (hb hby hd) rfl hc hc' q
theorem Gl.lcmp (Y : Sd Z own bs mx ret n0 p l e R s m args below meth c T h k n) {x y : Int64} {r : Int32} (hr : lcmpW x y = r) (hd : decode bs pc = .ok (.lcmp, 1)) (hp : pc + 1 = pc') (q : Gl p e below P (T.setTop (mkF m pc' L (.int r :: S)))) : Gl p e below P (T.setTop (mkF m pc L (.long y :: .long x :: S))) := by
  obtain ⟨locs, X, eT, N, hn0, hx, hZ, hown, hby, hml, hrt, hlk⟩ := Y
  subst hp hr
  exact q.of1 fun t q => XS.lcmp X.here hx rfl (hb hby hd) rfl q
theorem Gl.arraylength (Y : Sd Z own bs mx ret n0 p l e R s m args below meth c T h k n) {a : Addr} {ck : ClassId} {ty : FieldType} {z : Int32} {vs : List Value} {d : Value} (F : Arv Z h a ck ty z vs d) (hd : decode bs pc = .ok (.arraylength, 1)) (hp : pc + 1 = pc') (q : Gl p e below P (T.setTop (mkF m pc' L (.int z :: S)))) : Gl p e below P (T.setTop (mkF m pc L (.ref a :: S))) := by
  obtain ⟨locs, X, eT, N, hn0, hx, hZ, hown, hby, hml, hrt, hlk⟩ := Y
  subst hp
  exact q.of1 fun t q => by
    obtain ⟨cl, A, -, S1, N1, -⟩ := F
    exact X.arraylength hx (by rw [eT]; exact A.1) (State.isArrayOf_alike hZ.alike A.2.1) (g := mkF m pc L (.ref a :: S)) rfl rfl (hb hby hd) t (by rw [len_of S1 N1]; exact q)
theorem Gl.iaload (Y : Sd Z own bs mx ret n0 p l e R s m args below meth c T h k n) {a : Addr} {ck : ClassId} {z j : Int32} {vs : List Value} {d v : Value} (F : Arv Z h a ck .int z vs d) (hj : ¬ j < 0 ∧ j < z) (hv : vs.getD j.toNatClampNeg d = v) (hd : decode bs pc = .ok (.iaload, 1)) (hp : pc + 1 = pc') (q : Gl p e below P (T.setTop (mkF m pc' L (v :: S)))) : Gl p e below P (T.setTop (mkF m pc L (.int j :: .ref a :: S))) := by
  obtain ⟨locs, X, eT, N, hn0, hx, hZ, hown, hby, hml, hrt, hlk⟩ := Y
  subst hp
  exact q.of1 fun t q => by
    obtain ⟨cl, A, -, S1, N1, H, -⟩ := F
    exact X.iaload hx (by rw [eT]; exact A.1) (State.isArrayOf_alike hZ.alike A.2.1) A.2.2 (inb_of S1 hj) (H.at (inb_of S1 hj) hv) (g := mkF m pc L (.int j :: .ref a :: S)) rfl rfl (hb hby hd) t q
theorem Gl.laload (Y : Sd Z own bs mx ret n0 p l e R s m args below meth c T h k n) {a : Addr} {ck : ClassId} {z j : Int32} {vs : List Value} {d v : Value} (F : Arv Z h a ck .long z vs d) (hj : ¬ j < 0 ∧ j < z) (hv : vs.getD j.toNatClampNeg d = v) (hd : decode bs pc = .ok (.laload, 1)) (hp : pc + 1 = pc') (q : Gl p e below P (T.setTop (mkF m pc' L (v :: S)))) : Gl p e below P (T.setTop (mkF m pc L (.int j :: .ref a :: S))) := by
  obtain ⟨locs, X, eT, N, hn0, hx, hZ, hown, hby, hml, hrt, hlk⟩ := Y
  subst hp
  exact q.of1 fun t q => by
    obtain ⟨cl, A, -, S1, N1, H, -⟩ := F
    exact X.laload hx (by rw [eT]; exact A.1) (State.isArrayOf_alike hZ.alike A.2.1) A.2.2 (inb_of S1 hj) (H.at (inb_of S1 hj) hv) (g := mkF m pc L (.int j :: .ref a :: S)) rfl rfl (hb hby hd) t q
theorem Gl.caload (Y : Sd Z own bs mx ret n0 p l e R s m args below meth c T h k n) {a : Addr} {ck : ClassId} {z j : Int32} {vs : List Value} {d v : Value} (F : Arv Z h a ck .char z vs d) (hj : ¬ j < 0 ∧ j < z) (hv : vs.getD j.toNatClampNeg d = v) (hd : decode bs pc = .ok (.caload, 1)) (hp : pc + 1 = pc') (q : Gl p e below P (T.setTop (mkF m pc' L (v :: S)))) : Gl p e below P (T.setTop (mkF m pc L (.int j :: .ref a :: S))) := by
  obtain ⟨locs, X, eT, N, hn0, hx, hZ, hown, hby, hml, hrt, hlk⟩ := Y
  subst hp
  exact q.of1 fun t q => by
    obtain ⟨cl, A, -, S1, N1, H, -⟩ := F
    exact X.caload hx (by rw [eT]; exact A.1) (State.isArrayOf_alike hZ.alike A.2.1) A.2.2 (inb_of S1 hj) (H.at (inb_of S1 hj) hv) (g := mkF m pc L (.int j :: .ref a :: S)) rfl rfl (hb hby hd) t q
theorem Gl.saload (Y : Sd Z own bs mx ret n0 p l e R s m args below meth c T h k n) {a : Addr} {ck : ClassId} {z j : Int32} {vs : List Value} {d v : Value} (F : Arv Z h a ck .short z vs d) (hj : ¬ j < 0 ∧ j < z) (hv : vs.getD j.toNatClampNeg d = v) (hd : decode bs pc = .ok (.saload, 1)) (hp : pc + 1 = pc') (q : Gl p e below P (T.setTop (mkF m pc' L (v :: S)))) : Gl p e below P (T.setTop (mkF m pc L (.int j :: .ref a :: S))) := by
  obtain ⟨locs, X, eT, N, hn0, hx, hZ, hown, hby, hml, hrt, hlk⟩ := Y
  subst hp
  exact q.of1 fun t q => by
    obtain ⟨cl, A, -, S1, N1, H, -⟩ := F
    exact X.saload hx (by rw [eT]; exact A.1) (State.isArrayOf_alike hZ.alike A.2.1) A.2.2 (inb_of S1 hj) (H.at (inb_of S1 hj) hv) (g := mkF m pc L (.int j :: .ref a :: S)) rfl rfl (hb hby hd) t q
theorem Gl.baload (Y : Sd Z own bs mx ret n0 p l e R s m args below meth c T h k n) {a : Addr} {ck : ClassId} {z j : Int32} {vs : List Value} {d v : Value} (F : Arv Z h a ck .byte z vs d) (hj : ¬ j < 0 ∧ j < z) (hv : vs.getD j.toNatClampNeg d = v) (hd : decode bs pc = .ok (.baload, 1)) (hp : pc + 1 = pc') (q : Gl p e below P (T.setTop (mkF m pc' L (v :: S)))) : Gl p e below P (T.setTop (mkF m pc L (.int j :: .ref a :: S))) := by
  obtain ⟨locs, X, eT, N, hn0, hx, hZ, hown, hby, hml, hrt, hlk⟩ := Y
  subst hp
  exact q.of1 fun t q => by
    obtain ⟨cl, A, -, S1, N1, H, -⟩ := F
    exact X.baloadBytes hx (by rw [eT]; exact A.1) (State.isArrayOf_alike hZ.alike A.2.1) A.2.2 (inb_of S1 hj) (H.at (inb_of S1 hj) hv) (g := mkF m pc L (.int j :: .ref a :: S)) rfl rfl (hb hby hd) t q
theorem Gl.goto (Y : Sd Z own bs mx ret n0 p l e R s m args below meth c T h k n) {o : Int} (hd : decode bs pc = .ok (.goto o, 3)) (ho : 0 ≤ (pc : Int) + o) (hp : ((pc : Int) + o).toNat = pc') (q : Gl p e below P (T.setTop (mkF m pc' L S))) : Gl p e below P (T.setTop (mkF m pc L S)) := by
  obtain ⟨locs, X, eT, N, hn0, hx, hZ, hown, hby, hml, hrt, hlk⟩ := Y
  exact q.of1 fun t q => XS.goto X.here hx rfl rfl (hb hby hd) ho hp q
theorem Gl.ifeq (Y : Sd Z own bs mx ret n0 p l e R s m args below meth c T h k n) {x : Int32} {o : Int} (hd : decode bs pc = .ok (.ifCond .eq o, 3)) (ho : 0 ≤ (pc : Int) + o) (ht : ((pc : Int) + o).toNat = pcT) (hf : pc + 3 = pcF) (q1 : x = 0 → Gl p e below P (T.setTop (mkF m pcT L S))) (q2 : ¬ x = 0 → Gl p e below P (T.setTop (mkF m pcF L S))) : Gl p e below P (T.setTop (mkF m pc L (.int x :: S))) := by
  obtain ⟨locs, X, eT, N, hn0, hx, hZ, hown, hby, hml, hrt, hlk⟩ := Y
  by_cases hq : x = 0
  · exact (q1 hq).of1 fun t q => XS.ifYes X.here hx rfl rfl (hb hby hd) rfl (Jvm.Free.XT.i0_eq_t hq) ho ht q
  · subst hf
    exact (q2 (by first | exact hq | exact Decidable.not_not.mp hq)).of1 fun t q => XS.ifNo X.here hx rfl (hb hby hd) rfl (Jvm.Free.XT.i0_eq_f (by first | exact hq | exact Decidable.not_not.mp hq)) q
theorem Gl.icmpeq (Y : Sd Z own bs mx ret n0 p l e R s m args below meth c T h k n) {x y : Int32} {o : Int} (hd : decode bs pc = .ok (.if_icmp .eq o, 3)) (ho : 0 ≤ (pc : Int) + o) (ht : ((pc : Int) + o).toNat = pcT) (hf : pc + 3 = pcF) (q1 : x = y → Gl p e below P (T.setTop (mkF m pcT L S))) (q2 : ¬ x = y → Gl p e below P (T.setTop (mkF m pcF L S))) : Gl p e below P (T.setTop (mkF m pc L (.int y :: .int x :: S))) := by
  obtain ⟨locs, X, eT, N, hn0, hx, hZ, hown, hby, hml, hrt, hlk⟩ := Y
  by_cases hq : x = y
  · exact (q1 hq).of1 fun t q => XS.icmpYes X.here hx rfl rfl (hb hby hd) rfl (Jvm.Free.XT.ii_eq_t hq) ho ht q
  · subst hf
    exact (q2 (by first | exact hq | exact Decidable.not_not.mp hq)).of1 fun t q => XS.icmpNo X.here hx rfl (hb hby hd) rfl (Jvm.Free.XT.ii_eq_f (by first | exact hq | exact Decidable.not_not.mp hq)) q
theorem Gl.lcmpeq (Y : Sd Z own bs mx ret n0 p l e R s m args below meth c T h k n) {x y : Int64} {pc1 : Nat} {o : Int} (hd0 : decode bs pc = .ok (.lcmp, 1)) (hp1 : pc + 1 = pc1) (hd : decode bs pc1 = .ok (.ifCond .eq o, 3)) (ho : 0 ≤ (pc1 : Int) + o) (ht : ((pc1 : Int) + o).toNat = pcT) (hf : pc1 + 3 = pcF) (q1 : x = y → Gl p e below P (T.setTop (mkF m pcT L S))) (q2 : ¬ x = y → Gl p e below P (T.setTop (mkF m pcF L S))) : Gl p e below P (T.setTop (mkF m pc L (.long y :: .long x :: S))) := by
  refine Gl.lcmp Y rfl hd0 hp1 ?_
  obtain ⟨locs, X, eT, N, hn0, hx, hZ, hown, hby, hml, hrt, hlk⟩ := Y
  by_cases hq : x = y
  · exact (q1 hq).of1 fun t q => XS.ifYes X.here hx rfl rfl (hb hby hd) rfl (Jvm.Free.XT.ll_eq_t hq) ho ht q
  · subst hf
    exact (q2 (by first | exact hq | exact Decidable.not_not.mp hq)).of1 fun t q => XS.ifNo X.here hx rfl (hb hby hd) rfl (Jvm.Free.XT.ll_eq_f (by first | exact hq | exact Decidable.not_not.mp hq)) q
theorem Gl.ifne (Y : Sd Z own bs mx ret n0 p l e R s m args below meth c T h k n) {x : Int32} {o : Int} (hd : decode bs pc = .ok (.ifCond .ne o, 3)) (ho : 0 ≤ (pc : Int) + o) (ht : ((pc : Int) + o).toNat = pcT) (hf : pc + 3 = pcF) (q1 : ¬ x = 0 → Gl p e below P (T.setTop (mkF m pcT L S))) (q2 : x = 0 → Gl p e below P (T.setTop (mkF m pcF L S))) : Gl p e below P (T.setTop (mkF m pc L (.int x :: S))) := by
  obtain ⟨locs, X, eT, N, hn0, hx, hZ, hown, hby, hml, hrt, hlk⟩ := Y
  by_cases hq : ¬ x = 0
  · exact (q1 hq).of1 fun t q => XS.ifYes X.here hx rfl rfl (hb hby hd) rfl (Jvm.Free.XT.i0_ne_t hq) ho ht q
  · subst hf
    exact (q2 (by first | exact hq | exact Decidable.not_not.mp hq)).of1 fun t q => XS.ifNo X.here hx rfl (hb hby hd) rfl (Jvm.Free.XT.i0_ne_f (by first | exact hq | exact Decidable.not_not.mp hq)) q
theorem Gl.icmpne (Y : Sd Z own bs mx ret n0 p l e R s m args below meth c T h k n) {x y : Int32} {o : Int} (hd : decode bs pc = .ok (.if_icmp .ne o, 3)) (ho : 0 ≤ (pc : Int) + o) (ht : ((pc : Int) + o).toNat = pcT) (hf : pc + 3 = pcF) (q1 : ¬ x = y → Gl p e below P (T.setTop (mkF m pcT L S))) (q2 : x = y → Gl p e below P (T.setTop (mkF m pcF L S))) : Gl p e below P (T.setTop (mkF m pc L (.int y :: .int x :: S))) := by
  obtain ⟨locs, X, eT, N, hn0, hx, hZ, hown, hby, hml, hrt, hlk⟩ := Y
  by_cases hq : ¬ x = y
  · exact (q1 hq).of1 fun t q => XS.icmpYes X.here hx rfl rfl (hb hby hd) rfl (Jvm.Free.XT.ii_ne_t hq) ho ht q
  · subst hf
    exact (q2 (by first | exact hq | exact Decidable.not_not.mp hq)).of1 fun t q => XS.icmpNo X.here hx rfl (hb hby hd) rfl (Jvm.Free.XT.ii_ne_f (by first | exact hq | exact Decidable.not_not.mp hq)) q
theorem Gl.lcmpne (Y : Sd Z own bs mx ret n0 p l e R s m args below meth c T h k n) {x y : Int64} {pc1 : Nat} {o : Int} (hd0 : decode bs pc = .ok (.lcmp, 1)) (hp1 : pc + 1 = pc1) (hd : decode bs pc1 = .ok (.ifCond .ne o, 3)) (ho : 0 ≤ (pc1 : Int) + o) (ht : ((pc1 : Int) + o).toNat = pcT) (hf : pc1 + 3 = pcF) (q1 : ¬ x = y → Gl p e below P (T.setTop (mkF m pcT L S))) (q2 : x = y → Gl p e below P (T.setTop (mkF m pcF L S))) : Gl p e below P (T.setTop (mkF m pc L (.long y :: .long x :: S))) := by
  refine Gl.lcmp Y rfl hd0 hp1 ?_
  obtain ⟨locs, X, eT, N, hn0, hx, hZ, hown, hby, hml, hrt, hlk⟩ := Y
  by_cases hq : ¬ x = y
  · exact (q1 hq).of1 fun t q => XS.ifYes X.here hx rfl rfl (hb hby hd) rfl (Jvm.Free.XT.ll_ne_t hq) ho ht q
  · subst hf
    exact (q2 (by first | exact hq | exact Decidable.not_not.mp hq)).of1 fun t q => XS.ifNo X.here hx rfl (hb hby hd) rfl (Jvm.Free.XT.ll_ne_f (by first | exact hq | exact Decidable.not_not.mp hq)) q
theorem Gl.iflt (Y : Sd Z own bs mx ret n0 p l e R s m args below meth c T h k n) {x : Int32} {o : Int} (hd : decode bs pc = .ok (.ifCond .lt o, 3)) (ho : 0 ≤ (pc : Int) + o) (ht : ((pc : Int) + o).toNat = pcT) (hf : pc + 3 = pcF) (q1 : x < 0 → Gl p e below P (T.setTop (mkF m pcT L S))) (q2 : ¬ x < 0 → Gl p e below P (T.setTop (mkF m pcF L S))) : Gl p e below P (T.setTop (mkF m pc L (.int x :: S))) := by
  obtain ⟨locs, X, eT, N, hn0, hx, hZ, hown, hby, hml, hrt, hlk⟩ := Y
  by_cases hq : x < 0
  · exact (q1 hq).of1 fun t q => XS.ifYes X.here hx rfl rfl (hb hby hd) rfl (Jvm.Free.XT.i0_lt_t hq) ho ht q
  · subst hf
    exact (q2 (by first | exact hq | exact Decidable.not_not.mp hq)).of1 fun t q => XS.ifNo X.here hx rfl (hb hby hd) rfl (Jvm.Free.XT.i0_lt_f (by first | exact hq | exact Decidable.not_not.mp hq)) q
theorem Gl.icmplt (Y : Sd Z own bs mx ret n0 p l e R s m args below meth c T h k n) {x y : Int32} {o : Int} (hd : decode bs pc = .ok (.if_icmp .lt o, 3)) (ho : 0 ≤ (pc : Int) + o) (ht : ((pc : Int) + o).toNat = pcT) (hf : pc + 3 = pcF) (q1 : x < y → Gl p e below P (T.setTop (mkF m pcT L S))) (q2 : ¬ x < y → Gl p e below P (T.setTop (mkF m pcF L S))) : Gl p e below P (T.setTop (mkF m pc L (.int y :: .int x :: S))) := by
  obtain ⟨locs, X, eT, N, hn0, hx, hZ, hown, hby, hml, hrt, hlk⟩ := Y
  by_cases hq : x < y
  · exact (q1 hq).of1 fun t q => XS.icmpYes X.here hx rfl rfl (hb hby hd) rfl (Jvm.Free.XT.ii_lt_t hq) ho ht q
  · subst hf
    exact (q2 (by first | exact hq | exact Decidable.not_not.mp hq)).of1 fun t q => XS.icmpNo X.here hx rfl (hb hby hd) rfl (Jvm.Free.XT.ii_lt_f (by first | exact hq | exact Decidable.not_not.mp hq)) q
theorem Gl.lcmplt (Y : Sd Z own bs mx ret n0 p l e R s m args below meth c T h k n) {x y : Int64} {pc1 : Nat} {o : Int} (hd0 : decode bs pc = .ok (.lcmp, 1)) (hp1 : pc + 1 = pc1) (hd : decode bs pc1 = .ok (.ifCond .lt o, 3)) (ho : 0 ≤ (pc1 : Int) + o) (ht : ((pc1 : Int) + o).toNat = pcT) (hf : pc1 + 3 = pcF) (q1 : x < y → Gl p e below P (T.setTop (mkF m pcT L S))) (q2 : ¬ x < y → Gl p e below P (T.setTop (mkF m pcF L S))) : Gl p e below P (T.setTop (mkF m pc L (.long y :: .long x :: S))) := by
  refine Gl.lcmp Y rfl hd0 hp1 ?_
  obtain ⟨locs, X, eT, N, hn0, hx, hZ, hown, hby, hml, hrt, hlk⟩ := Y
  by_cases hq : x < y
  · exact (q1 hq).of1 fun t q => XS.ifYes X.here hx rfl rfl (hb hby hd) rfl (Jvm.Free.XT.ll_lt_t hq) ho ht q
  · subst hf
    exact (q2 (by first | exact hq | exact Decidable.not_not.mp hq)).of1 fun t q => XS.ifNo X.here hx rfl (hb hby hd) rfl (Jvm.Free.XT.ll_lt_f (by first | exact hq | exact Decidable.not_not.mp hq)) q
theorem Gl.ifge (Y : Sd Z own bs mx ret n0 p l e R s m args below meth c T h k n) {x : Int32} {o : Int} (hd : decode bs pc = .ok (.ifCond .ge o, 3)) (ho : 0 ≤ (pc : Int) + o) (ht : ((pc : Int) + o).toNat = pcT) (hf : pc + 3 = pcF) (q1 : ¬ x < 0 → Gl p e below P (T.setTop (mkF m pcT L S))) (q2 : x < 0 → Gl p e below P (T.setTop (mkF m pcF L S))) : Gl p e below P (T.setTop (mkF m pc L (.int x :: S))) := by
  obtain ⟨locs, X, eT, N, hn0, hx, hZ, hown, hby, hml, hrt, hlk⟩ := Y
  by_cases hq : ¬ x < 0
  · exact (q1 hq).of1 fun t q => XS.ifYes X.here hx rfl rfl (hb hby hd) rfl (Jvm.Free.XT.i0_ge_t hq) ho ht q
  · subst hf
    exact (q2 (by first | exact hq | exact Decidable.not_not.mp hq)).of1 fun t q => XS.ifNo X.here hx rfl (hb hby hd) rfl (Jvm.Free.XT.i0_ge_f (by first | exact hq | exact Decidable.not_not.mp hq)) q
theorem Gl.icmpge (Y : Sd Z own bs mx ret n0 p l e R s m args below meth c T h k n) {x y : Int32} {o : Int} (hd : decode bs pc = .ok (.if_icmp .ge o, 3)) (ho : 0 ≤ (pc : Int) + o) (ht : ((pc : Int) + o).toNat = pcT) (hf : pc + 3 = pcF) (q1 : ¬ x < y → Gl p e below P (T.setTop (mkF m pcT L S))) (q2 : x < y → Gl p e below P (T.setTop (mkF m pcF L S))) : Gl p e below P (T.setTop (mkF m pc L (.int y :: .int x :: S))) := by
  obtain ⟨locs, X, eT, N, hn0, hx, hZ, hown, hby, hml, hrt, hlk⟩ := Y
  by_cases hq : ¬ x < y
  · exact (q1 hq).of1 fun t q => XS.icmpYes X.here hx rfl rfl (hb hby hd) rfl (Jvm.Free.XT.ii_ge_t hq) ho ht q
  · subst hf
    exact (q2 (by first | exact hq | exact Decidable.not_not.mp hq)).of1 fun t q => XS.icmpNo X.here hx rfl (hb hby hd) rfl (Jvm.Free.XT.ii_ge_f (by first | exact hq | exact Decidable.not_not.mp hq)) q
theorem Gl.lcmpge (Y : Sd Z own bs mx ret n0 p l e R s m args below meth c T h k n) {x y : Int64} {pc1 : Nat} {o : Int} (hd0 : decode bs pc = .ok (.lcmp, 1)) (hp1 : pc + 1 = pc1) (hd : decode bs pc1 = .ok (.ifCond .ge o, 3)) (ho : 0 ≤ (pc1 : Int) + o) (ht : ((pc1 : Int) + o).toNat = pcT) (hf : pc1 + 3 = pcF) (q1 : ¬ x < y → Gl p e below P (T.setTop (mkF m pcT L S))) (q2 : x < y → Gl p e below P (T.setTop (mkF m pcF L S))) : Gl p e below P (T.setTop (mkF m pc L (.long y :: .long x :: S))) := by
  refine Gl.lcmp Y rfl hd0 hp1 ?_
  obtain ⟨locs, X, eT, N, hn0, hx, hZ, hown, hby, hml, hrt, hlk⟩ := Y
  by_cases hq : ¬ x < y
  · exact (q1 hq).of1 fun t q => XS.ifYes X.here hx rfl rfl (hb hby hd) rfl (Jvm.Free.XT.ll_ge_t hq) ho ht q
  · subst hf
    exact (q2 (by first | exact hq | exact Decidable.not_not.mp hq)).of1 fun t q => XS.ifNo X.here hx rfl (hb hby hd) rfl (Jvm.Free.XT.ll_ge_f (by first | exact hq | exact Decidable.not_not.mp hq)) q
theorem Gl.ifgt (Y : Sd Z own bs mx ret n0 p l e R s m args below meth c T h k n) {x : Int32} {o : Int} (hd : decode bs pc = .ok (.ifCond .gt o, 3)) (ho : 0 ≤ (pc : Int) + o) (ht : ((pc : Int) + o).toNat = pcT) (hf : pc + 3 = pcF) (q1 : 0 < x → Gl p e below P (T.setTop (mkF m pcT L S))) (q2 : ¬ 0 < x → Gl p e below P (T.setTop (mkF m pcF L S))) : Gl p e below P (T.setTop (mkF m pc L (.int x :: S))) := by
  obtain ⟨locs, X, eT, N, hn0, hx, hZ, hown, hby, hml, hrt, hlk⟩ := Y
  by_cases hq : 0 < x
  · exact (q1 hq).of1 fun t q => XS.ifYes X.here hx rfl rfl (hb hby hd) rfl (Jvm.Free.XT.i0_gt_t hq) ho ht q
  · subst hf
    exact (q2 (by first | exact hq | exact Decidable.not_not.mp hq)).of1 fun t q => XS.ifNo X.here hx rfl (hb hby hd) rfl (Jvm.Free.XT.i0_gt_f (by first | exact hq | exact Decidable.not_not.mp hq)) q
theorem Gl.icmpgt (Y : Sd Z own bs mx ret n0 p l e R s m args below meth c T h k n) {x y : Int32} {o : Int} (hd : decode bs pc = .ok (.if_icmp .gt o, 3)) (ho : 0 ≤ (pc : Int) + o) (ht : ((pc : Int) + o).toNat = pcT) (hf : pc + 3 = pcF) (q1 : y < x → Gl p e below P (T.setTop (mkF m pcT L S))) (q2 : ¬ y < x → Gl p e below P (T.setTop (mkF m pcF L S))) : Gl p e below P (T.setTop (mkF m pc L (.int y :: .int x :: S))) := by
  obtain ⟨locs, X, eT, N, hn0, hx, hZ, hown, hby, hml, hrt, hlk⟩ := Y
  by_cases hq : y < x
  · exact (q1 hq).of1 fun t q => XS.icmpYes X.here hx rfl rfl (hb hby hd) rfl (Jvm.Free.XT.ii_gt_t hq) ho ht q
  · subst hf
    exact (q2 (by first | exact hq | exact Decidable.not_not.mp hq)).of1 fun t q => XS.icmpNo X.here hx rfl (hb hby hd) rfl (Jvm.Free.XT.ii_gt_f (by first | exact hq | exact Decidable.not_not.mp hq)) q
theorem Gl.lcmpgt (Y : Sd Z own bs mx ret n0 p l e R s m args below meth c T h k n) {x y : Int64} {pc1 : Nat} {o : Int} (hd0 : decode bs pc = .ok (.lcmp, 1)) (hp1 : pc + 1 = pc1) (hd : decode bs pc1 = .ok (.ifCond .gt o, 3)) (ho : 0 ≤ (pc1 : Int) + o) (ht : ((pc1 : Int) + o).toNat = pcT) (hf : pc1 + 3 = pcF) (q1 : y < x → Gl p e below P (T.setTop (mkF m pcT L S))) (q2 : ¬ y < x → Gl p e below P (T.setTop (mkF m pcF L S))) : Gl p e below P (T.setTop (mkF m pc L (.long y :: .long x :: S))) := by
  refine Gl.lcmp Y rfl hd0 hp1 ?_
  obtain ⟨locs, X, eT, N, hn0, hx, hZ, hown, hby, hml, hrt, hlk⟩ := Y
  by_cases hq : y < x
  · exact (q1 hq).of1 fun t q => XS.ifYes X.here hx rfl rfl (hb hby hd) rfl (Jvm.Free.XT.ll_gt_t hq) ho ht q
  · subst hf
    exact (q2 (by first | exact hq | exact Decidable.not_not.mp hq)).of1 fun t q => XS.ifNo X.here hx rfl (hb hby hd) rfl (Jvm.Free.XT.ll_gt_f (by first | exact hq | exact Decidable.not_not.mp hq)) q
theorem Gl.ifle (Y : Sd Z own bs mx ret n0 p l e R s m args below meth c T h k n) {x : Int32} {o : Int} (hd : decode bs pc = .ok (.ifCond .le o, 3)) (ho : 0 ≤ (pc : Int) + o) (ht : ((pc : Int) + o).toNat = pcT) (hf : pc + 3 = pcF) (q1 : ¬ 0 < x → Gl p e below P (T.setTop (mkF m pcT L S))) (q2 : 0 < x → Gl p e below P (T.setTop (mkF m pcF L S))) : Gl p e below P (T.setTop (mkF m pc L (.int x :: S))) := by
  obtain ⟨locs, X, eT, N, hn0, hx, hZ, hown, hby, hml, hrt, hlk⟩ := Y
  by_cases hq : ¬ 0 < x
  · exact (q1 hq).of1 fun t q => XS.ifYes X.here hx rfl rfl (hb hby hd) rfl (Jvm.Free.XT.i0_le_t hq) ho ht q
  · subst hf
    exact (q2 (by first | exact hq | exact Decidable.not_not.mp hq)).of1 fun t q => XS.ifNo X.here hx rfl (hb hby hd) rfl (Jvm.Free.XT.i0_le_f (by first | exact hq | exact Decidable.not_not.mp hq)) q
theorem Gl.icmple (Y : Sd Z own bs mx ret n0 p l e R s m args below meth c T h k n) {x y : Int32} {o : Int} (hd : decode bs pc = .ok (.if_icmp .le o, 3)) (ho : 0 ≤ (pc : Int) + o) (ht : ((pc : Int) + o).toNat = pcT) (hf : pc + 3 = pcF) (q1 : ¬ y < x → Gl p e below P (T.setTop (mkF m pcT L S))) (q2 : y < x → Gl p e below P (T.setTop (mkF m pcF L S))) : Gl p e below P (T.setTop (mkF m pc L (.int y :: .int x :: S))) := by
  obtain ⟨locs, X, eT, N, hn0, hx, hZ, hown, hby, hml, hrt, hlk⟩ := Y
  by_cases hq : ¬ y < x
  · exact (q1 hq).of1 fun t q => XS.icmpYes X.here hx rfl rfl (hb hby hd) rfl (Jvm.Free.XT.ii_le_t hq) ho ht q
  · subst hf
    exact (q2 (by first | exact hq | exact Decidable.not_not.mp hq)).of1 fun t q => XS.icmpNo X.here hx rfl (hb hby hd) rfl (Jvm.Free.XT.ii_le_f (by first | exact hq | exact Decidable.not_not.mp hq)) q
theorem Gl.lcmple (Y : Sd Z own bs mx ret n0 p l e R s m args below meth c T h k n) {x y : Int64} {pc1 : Nat} {o : Int} (hd0 : decode bs pc = .ok (.lcmp, 1)) (hp1 : pc + 1 = pc1) (hd : decode bs pc1 = .ok (.ifCond .le o, 3)) (ho : 0 ≤ (pc1 : Int) + o) (ht : ((pc1 : Int) + o).toNat = pcT) (hf : pc1 + 3 = pcF) (q1 : ¬ y < x → Gl p e below P (T.setTop (mkF m pcT L S))) (q2 : y < x → Gl p e below P (T.setTop (mkF m pcF L S))) : Gl p e below P (T.setTop (mkF m pc L (.long y :: .long x :: S))) := by
  refine Gl.lcmp Y rfl hd0 hp1 ?_
  obtain ⟨locs, X, eT, N, hn0, hx, hZ, hown, hby, hml, hrt, hlk⟩ := Y
  by_cases hq : ¬ y < x
  · exact (q1 hq).of1 fun t q => XS.ifYes X.here hx rfl rfl (hb hby hd) rfl (Jvm.Free.XT.ll_le_t hq) ho ht q
  · subst hf
    exact (q2 (by first | exact hq | exact Decidable.not_not.mp hq)).of1 fun t q => XS.ifNo X.here hx rfl (hb hby hd) rfl (Jvm.Free.XT.ll_le_f (by first | exact hq | exact Decidable.not_not.mp hq)) q
theorem Gl.ifnullY (Y : Sd Z own bs mx ret n0 p l e R s m args below meth c T h k n)  {o : Int} (hd : decode bs pc = .ok (.ifnull o, 3)) (ho : 0 ≤ (pc : Int) + o) (ht : ((pc : Int) + o).toNat = pcT) (q : Gl p e below P (T.setTop (mkF m pcT L S))) : Gl p e below P (T.setTop (mkF m pc L (.null :: S))) := by
  obtain ⟨locs, X, eT, N, hn0, hx, hZ, hown, hby, hml, hrt, hlk⟩ := Y
  exact q.of1 fun t q => XS.ifnullYes X.here hx rfl rfl (hb hby hd) rfl ho ht q
theorem Gl.ifnullN (Y : Sd Z own bs mx ret n0 p l e R s m args below meth c T h k n) {b : Addr} {o : Int} (hd : decode bs pc = .ok (.ifnull o, 3)) (hf : pc + 3 = pcF) (q : Gl p e below P (T.setTop (mkF m pcF L S))) : Gl p e below P (T.setTop (mkF m pc L (.ref b :: S))) := by
  obtain ⟨locs, X, eT, N, hn0, hx, hZ, hown, hby, hml, hrt, hlk⟩ := Y
  subst hf
  exact q.of1 fun t q => XS.ifnullNo X.here hx rfl (hb hby hd) rfl q
theorem Gl.ifnonnullY (Y : Sd Z own bs mx ret n0 p l e R s m args below meth c T h k n) {b : Addr} {o : Int} (hd : decode bs pc = .ok (.ifnonnull o, 3)) (ho : 0 ≤ (pc : Int) + o) (ht : ((pc : Int) + o).toNat = pcT) (q : Gl p e below P (T.setTop (mkF m pcT L S))) : Gl p e below P (T.setTop (mkF m pc L (.ref b :: S))) := by
  obtain ⟨locs, X, eT, N, hn0, hx, hZ, hown, hby, hml, hrt, hlk⟩ := Y
  exact q.of1 fun t q => XS.ifnonnullYes X.here hx rfl rfl (hb hby hd) rfl ho ht q
theorem Gl.ifnonnullN (Y : Sd Z own bs mx ret n0 p l e R s m args below meth c T h k n)  {o : Int} (hd : decode bs pc = .ok (.ifnonnull o, 3)) (hf : pc + 3 = pcF) (q : Gl p e below P (T.setTop (mkF m pcF L S))) : Gl p e below P (T.setTop (mkF m pc L (.null :: S))) := by
  obtain ⟨locs, X, eT, N, hn0, hx, hZ, hown, hby, hml, hrt, hlk⟩ := Y
  subst hf
  exact q.of1 fun t q => XS.ifnonnullNo X.here hx rfl (hb hby hd) rfl q
theorem Gl.acmpeq (Y : Sd Z own bs mx ret n0 p l e R s m args below meth c T h k n) {x y : Value} {o : Int} (h1 : x.isRef = true) (h2 : y.isRef = true) (hd : decode bs pc = .ok (.if_acmp .eq o, 3)) (ho : 0 ≤ (pc : Int) + o) (ht : ((pc : Int) + o).toNat = pcT) (hf : pc + 3 = pcF) (q1 : x = y → Gl p e below P (T.setTop (mkF m pcT L S))) (q2 : ¬ x = y → Gl p e below P (T.setTop (mkF m pcF L S))) : Gl p e below P (T.setTop (mkF m pc L (y :: x :: S))) := by
  obtain ⟨locs, X, eT, N, hn0, hx, hZ, hown, hby, hml, hrt, hlk⟩ := Y
  subst ht hf
  by_cases hq : x = y
  · exact (q1 hq).of1 fun t q => Jvm.RoadKit.acmp (g := mkF m pc L (y :: x :: S)) X hx rfl h1 h2 (pc0 := pc) (same := true) rfl (hb hby hd) rfl (decide_eq_true hq) ho rfl q
  · exact (q2 hq).of1 fun t q => Jvm.RoadKit.acmp (g := mkF m pc L (y :: x :: S)) X hx rfl h1 h2 (pc0 := pc) (same := false) rfl (hb hby hd) rfl (decide_eq_false hq) ho rfl q
theorem Gl.acmpne (Y : Sd Z own bs mx ret n0 p l e R s m args below meth c T h k n) {x y : Value} {o : Int} (h1 : x.isRef = true) (h2 : y.isRef = true) (hd : decode bs pc = .ok (.if_acmp .ne o, 3)) (ho : 0 ≤ (pc : Int) + o) (ht : ((pc : Int) + o).toNat = pcT) (hf : pc + 3 = pcF) (q1 : ¬ x = y → Gl p e below P (T.setTop (mkF m pcT L S))) (q2 : x = y → Gl p e below P (T.setTop (mkF m pcF L S))) : Gl p e below P (T.setTop (mkF m pc L (y :: x :: S))) := by
  obtain ⟨locs, X, eT, N, hn0, hx, hZ, hown, hby, hml, hrt, hlk⟩ := Y
  subst ht hf
  by_cases hq : x = y
  · exact (q2 hq).of1 fun t q => Jvm.RoadKit.acmp (g := mkF m pc L (y :: x :: S)) X hx rfl h1 h2 (pc0 := pc) (same := true) rfl (hb hby hd) rfl (decide_eq_true hq) ho rfl q
  · exact (q1 hq).of1 fun t q => Jvm.RoadKit.acmp (g := mkF m pc L (y :: x :: S)) X hx rfl h1 h2 (pc0 := pc) (same := false) rfl (hb hby hd) rfl (decide_eq_false hq) ho rfl q
theorem Gl.getF (Y : Sd Z own bs mx ret n0 p l e R s m args below meth c T h k n) {i : Nat} {R0 O f d host : String} {a : Addr} {v : Value} (w : (Jvm.Cond.fieldLink own i R0 f d).before a0 Z = true ∨ (Jvm.Cond.fieldLinkNest own i R0 f d host).before a0 Z = true) (via : Via Z R0 O f d) (F : Fld Z h a O f d v) (hd : decode bs pc = .ok (.getfield i, 3)) (hp : pc + 3 = pc') (q : ∀ T', Sd Z own bs mx ret n0 p l e R s m args below meth c T' h k n → Gl p e below P (T'.setTop (mkF m pc' L (v :: S)))) : Gl p e below P (T.setTop (mkF m pc L (.ref a :: S))) := by
  obtain ⟨locs, X, eT, N, hn0, hx, hZ, hown, hby, hml, hrt, hlk⟩ := Y
  subst hp
  obtain ⟨T', X', e', st⟩ := Jvm.RoadKit.getF X hx hZ hown w via eT F (g := mkF m pc L (.ref a :: S)) rfl rfl (hb hby hd)
  exact (q T' ⟨locs, X', e', N, hn0, hx, hZ, hown, hby, hml, hrt, hlk⟩).of1 st
theorem Gl.getS (Y : Sd Z own bs mx ret n0 p l e R s m args below meth c T h k n) {i : Nat} {R0 O f d host : String} {v : Value} (w : (Jvm.Cond.fieldLink own i R0 f d).before a0 Z = true ∨ (Jvm.Cond.fieldLinkNest own i R0 f d host).before a0 Z = true) (via : Via Z R0 O f d) (F : Sta Z h O f d v) (hd : decode bs pc = .ok (.getstatic i, 3)) (hp : pc + 3 = pc') (q : ∀ T', Sd Z own bs mx ret n0 p l e R s m args below meth c T' h k n → Gl p e below P (T'.setTop (mkF m pc' L (v :: S)))) : Gl p e below P (T.setTop (mkF m pc L S)) := by
  obtain ⟨locs, X, eT, N, hn0, hx, hZ, hown, hby, hml, hrt, hlk⟩ := Y
  subst hp
  obtain ⟨T', X', e', st⟩ := getS2 X hx hZ hown w via eT F (g := mkF m pc L S) rfl (hb hby hd)
  exact (q T' ⟨locs, X', e', N, hn0, hx, hZ, hown, hby, hml, hrt, hlk⟩).of1 st
theorem Gl.putF (Y : Sd Z own bs mx ret n0 p l e R s m args below meth c T h k n) {i kk : Nat} {R0 O f d host C : String} {ty : FieldType} {a : Addr} {v old : Value} (w : (Jvm.Cond.fieldLink own i R0 f d).before a0 Z = true ∨ (Jvm.Cond.fieldLinkNest own i R0 f d host).before a0 Z = true) (via : Via Z R0 O f d) (F : Fld Z h a O f d old) (E : Exa Z h a C) (Lw : (Jvm.Cond.lays C O f d).before a0 Z = true ∨ ((Jvm.Cond.laysFinal C O f d).before a0 Z = true ∧ own = O ∧ meth.name = "<init>")) (wi : (Jvm.Cond.instantiable C kk).before a0 Z = true) (ha : n0 ≤ a) (hty : parseFieldDescriptor d = some ty) (hn : narrow ty v = v) (hf : fits ty v = true) (hd : decode bs pc = .ok (.putfield i, 3)) (hp : pc + 3 = pc') (q : ∀ T' h', Sd Z own bs mx ret n0 p l e R s m args below meth c T' h' k n → Wr h h' a (Jvm.RoadKit.slotOf Z O f d) v → Gl p e below P (T'.setTop (mkF m pc' L S))) : Gl p e below P (T.setTop (mkF m pc L (v :: .ref a :: S))) := by
  obtain ⟨locs, X, eT, N, hn0, hx, hZ, hown, hby, hml, hrt, hlk⟩ := Y
  subst hp
  obtain ⟨T', h', X', e', W, st⟩ := Jvm.RoadKit.putF X hx hZ hown w via eT F E Lw wi hty hn hf (g := mkF m pc L (v :: .ref a :: S)) rfl rfl (hb hby hd)
  exact (q T' h' ⟨_, X', e', Fr.snoc X' N ha, hn0, hx, hZ, hown, hby, hml, hrt, hlk⟩ W).of1 st
theorem Gl.putFN (Y : Sd Z own bs mx ret n0 p l e R s m args below meth c T h k n) {i kk : Nat} {R0 O f d C : String} {ty : FieldType} {a : Addr} {v v' old : Value} (w : (Jvm.Cond.fieldLink own i R0 f d).before a0 Z = true) (via : Via Z R0 O f d) (F : Fld Z h a O f d old) (E : Exa Z h a C) (Lw : (Jvm.Cond.lays C O f d).before a0 Z = true ∨ ((Jvm.Cond.laysFinal C O f d).before a0 Z = true ∧ own = O ∧ meth.name = "<init>")) (wi : (Jvm.Cond.instantiable C kk).before a0 Z = true) (ha : n0 ≤ a) (hty : parseFieldDescriptor d = some ty) (hn : narrow ty v = v') (hf : fits ty v' = true) (hd : decode bs pc = .ok (.putfield i, 3)) (hp : pc + 3 = pc') (q : ∀ T' h', Sd Z own bs mx ret n0 p l e R s m args below meth c T' h' k n → Wr h h' a (Jvm.RoadKit.slotOf Z O f d) v' → Gl p e below P (T'.setTop (mkF m pc' L S))) : Gl p e below P (T.setTop (mkF m pc L (v :: .ref a :: S))) := by
  obtain ⟨locs, X, eT, N, hn0, hx, hZ, hown, hby, hml, hrt, hlk⟩ := Y
  subst hp
  obtain ⟨T', h', X', e', W, st⟩ := Jvm.RoadKit.putFN X hx hZ hown w via eT F E Lw wi hty hn hf (g := mkF m pc L (v :: .ref a :: S)) rfl rfl (hb hby hd)
  exact (q T' h' ⟨_, X', e', Fr.snoc X' N ha, hn0, hx, hZ, hown, hby, hml, hrt, hlk⟩ W).of1 st
theorem Gl.newO (Y : Sd Z own bs mx ret n0 p l e R s m args below meth c T h k n) {i sl : Nat} {C : String} (w : (Jvm.Cond.classLink own i C).before a0 Z = true) (wi : (Jvm.Cond.instantiable C sl).before a0 Z = true) (wz : (Jvm.Cond.initialized C).before a0 Z = true) (hc : k + 1 ≤ R.cells) (hl : n + sl ≤ R.slots) (hd : decode bs pc = .ok (.new i, 3)) (hp : pc + 3 = pc') (q : ∀ T' h' b, Sd Z own bs mx ret n0 p l e R s m args below meth c T' h' (k + 1) (n + sl) → Ext h h' → b = h.size → n0 ≤ b → Exa Z h' b C → (∀ {O nm d : String} {ty : FieldType}, Laid Z a0 C O nm d → parseFieldDescriptor d = some ty → Fld Z h' b O nm d (defaultValue ty)) → Gl p e below P (T'.setTop (mkF m pc' L (.ref b :: S)))) : Gl p e below P (T.setTop (mkF m pc L S)) := by
  obtain ⟨locs, X, eT, N, hn0, hx, hZ, hown, hby, hml, hrt, hlk⟩ := Y
  subst hp
  obtain ⟨T', h', X', e', E, A, D, -, st⟩ := Jvm.RoadKit.newO X hx hZ hown w wi wz eT (g := mkF m pc L S) rfl (hb hby hd) hc hl
  exact (q T' h' h.size ⟨locs, X', e', N, hn0, hx, hZ, hown, hby, hml, hrt, hlk⟩ E rfl (eT ▸ Nat.le_trans hn0 (own_grow X)) A D).of1 st
theorem Gl.newP (Y : Sd Z own bs mx ret n0 p l e R s m args below meth c T h k n) {aty : ArrayType} {ty : FieldType} {z : Int32} (cap : Nat) (hat : newarray.typeOf aty = ty) (w : (Jvm.Cond.arrayClass ty).before a0 Z = true) (hz : ¬ z < 0) (hcap : z.toNatClampNeg ≤ cap) (hcb : cap * 8 ≤ 536870912) (hc : k + 1 ≤ R.cells) (hl : n + cap ≤ R.slots) (hd : decode bs pc = .ok (.newarray aty, 2)) (hp : pc + 2 = pc') (q : ∀ T' h' b ck, Sd Z own bs mx ret n0 p l e R s m args below meth c T' h' (k + 1) (n + cap) → Ext h h' → b = h.size → n0 ≤ b → Arv Z h' b ck ty z [] (defaultValue ty) → Gl p e below P (T'.setTop (mkF m pc' L (.ref b :: S)))) : Gl p e below P (T.setTop (mkF m pc L (.int z :: S))) := by
  obtain ⟨locs, X, eT, N, hn0, hx, hZ, hown, hby, hml, hrt, hlk⟩ := Y
  subst hp hat
  obtain ⟨T', h', ck, X', e', E, A, st⟩ := Jvm.RoadKit.newP X hx hZ w eT (g := mkF m pc L (.int z :: S)) rfl (hb hby hd) rfl hz hcap hcb hc hl
  exact (q T' h' h.size ck ⟨locs, X', e', N, hn0, hx, hZ, hown, hby, hml, hrt, hlk⟩ E rfl (eT ▸ Nat.le_trans hn0 (own_grow X)) (Arv.new A hz)).of1 st
theorem Gl.iastore (Y : Sd Z own bs mx ret n0 p l e R s m args below meth c T h k n) {a : Addr} {ck : ClassId} {z j : Int32} {x : Int32} {vs : List Value} {d v : Value} {ix : Nat} (F : Arv Z h a ck .int z vs d) (hv : .int x = v) (hj : ¬ j < 0 ∧ j < z) (hjx : j.toNatClampNeg = ix) (hlen : ix < vs.length) (ha : n0 ≤ a) (hd : decode bs pc = .ok (.iastore, 1)) (hp : pc + 1 = pc') (q : ∀ T' h', Sd Z own bs mx ret n0 p l e R s m args below meth c T' h' k n → Wr h h' a ix v → Arv Z h' a ck .int z (vs.set ix v) d → Gl p e below P (T'.setTop (mkF m pc' L S))) : Gl p e below P (T.setTop (mkF m pc L (.int x :: .int j :: .ref a :: S))) := by
  obtain ⟨locs, X, eT, N, hn0, hx, hZ, hown, hby, hml, hrt, hlk⟩ := Y
  subst hp hv hjx
  obtain ⟨cl, A, C1, S1, N1, H, Gf⟩ := F
  obtain ⟨T', h', X', e', W, st⟩ := stI X hx hZ eT A (inb_of S1 hj) (g := mkF m pc L (.int x :: .int j :: .ref a :: S)) rfl rfl (hb hby hd)
  exact (q T' h' ⟨_, X', e', Fr.snoc X' N ha, hn0, hx, hZ, hown, hby, hml, hrt, hlk⟩ W (Arv.set A C1 S1 N1 H Gf rfl W _ rfl hlen)).of1 st
theorem Gl.lastore (Y : Sd Z own bs mx ret n0 p l e R s m args below meth c T h k n) {a : Addr} {ck : ClassId} {z j : Int32} {x : Int64} {vs : List Value} {d v : Value} {ix : Nat} (F : Arv Z h a ck .long z vs d) (hv : .long x = v) (hj : ¬ j < 0 ∧ j < z) (hjx : j.toNatClampNeg = ix) (hlen : ix < vs.length) (ha : n0 ≤ a) (hd : decode bs pc = .ok (.lastore, 1)) (hp : pc + 1 = pc') (q : ∀ T' h', Sd Z own bs mx ret n0 p l e R s m args below meth c T' h' k n → Wr h h' a ix v → Arv Z h' a ck .long z (vs.set ix v) d → Gl p e below P (T'.setTop (mkF m pc' L S))) : Gl p e below P (T.setTop (mkF m pc L (.long x :: .int j :: .ref a :: S))) := by
  obtain ⟨locs, X, eT, N, hn0, hx, hZ, hown, hby, hml, hrt, hlk⟩ := Y
  subst hp hv hjx
  obtain ⟨cl, A, C1, S1, N1, H, Gf⟩ := F
  obtain ⟨T', h', X', e', W, st⟩ := stJ X hx hZ eT A (inb_of S1 hj) (g := mkF m pc L (.long x :: .int j :: .ref a :: S)) rfl rfl (hb hby hd)
  exact (q T' h' ⟨_, X', e', Fr.snoc X' N ha, hn0, hx, hZ, hown, hby, hml, hrt, hlk⟩ W (Arv.set A C1 S1 N1 H Gf rfl W _ rfl hlen)).of1 st
theorem Gl.castore (Y : Sd Z own bs mx ret n0 p l e R s m args below meth c T h k n) {a : Addr} {ck : ClassId} {z j : Int32} {x : Int32} {vs : List Value} {d v : Value} {ix : Nat} (F : Arv Z h a ck .char z vs d) (hv : .int (nar .char x) = v) (hj : ¬ j < 0 ∧ j < z) (hjx : j.toNatClampNeg = ix) (hlen : ix < vs.length) (ha : n0 ≤ a) (hd : decode bs pc = .ok (.castore, 1)) (hp : pc + 1 = pc') (q : ∀ T' h', Sd Z own bs mx ret n0 p l e R s m args below meth c T' h' k n → Wr h h' a ix v → Arv Z h' a ck .char z (vs.set ix v) d → Gl p e below P (T'.setTop (mkF m pc' L S))) : Gl p e below P (T.setTop (mkF m pc L (.int x :: .int j :: .ref a :: S))) := by
  obtain ⟨locs, X, eT, N, hn0, hx, hZ, hown, hby, hml, hrt, hlk⟩ := Y
  subst hp hv hjx
  obtain ⟨cl, A, C1, S1, N1, H, Gf⟩ := F
  obtain ⟨T', h', X', e', W, st⟩ := stC X hx hZ eT A (inb_of S1 hj) (g := mkF m pc L (.int x :: .int j :: .ref a :: S)) rfl rfl (hb hby hd)
  exact (q T' h' ⟨_, X', e', Fr.snoc X' N ha, hn0, hx, hZ, hown, hby, hml, hrt, hlk⟩ W (Arv.set A C1 S1 N1 H Gf (fits_nar_char _) W _ rfl hlen)).of1 st
theorem Gl.sastore (Y : Sd Z own bs mx ret n0 p l e R s m args below meth c T h k n) {a : Addr} {ck : ClassId} {z j : Int32} {x : Int32} {vs : List Value} {d v : Value} {ix : Nat} (F : Arv Z h a ck .short z vs d) (hv : .int (nar .short x) = v) (hj : ¬ j < 0 ∧ j < z) (hjx : j.toNatClampNeg = ix) (hlen : ix < vs.length) (ha : n0 ≤ a) (hd : decode bs pc = .ok (.sastore, 1)) (hp : pc + 1 = pc') (q : ∀ T' h', Sd Z own bs mx ret n0 p l e R s m args below meth c T' h' k n → Wr h h' a ix v → Arv Z h' a ck .short z (vs.set ix v) d → Gl p e below P (T'.setTop (mkF m pc' L S))) : Gl p e below P (T.setTop (mkF m pc L (.int x :: .int j :: .ref a :: S))) := by
  obtain ⟨locs, X, eT, N, hn0, hx, hZ, hown, hby, hml, hrt, hlk⟩ := Y
  subst hp hv hjx
  obtain ⟨cl, A, C1, S1, N1, H, Gf⟩ := F
  obtain ⟨T', h', X', e', W, st⟩ := stS X hx hZ eT A (inb_of S1 hj) (g := mkF m pc L (.int x :: .int j :: .ref a :: S)) rfl rfl (hb hby hd)
  exact (q T' h' ⟨_, X', e', Fr.snoc X' N ha, hn0, hx, hZ, hown, hby, hml, hrt, hlk⟩ W (Arv.set A C1 S1 N1 H Gf (fits_nar_short _) W _ rfl hlen)).of1 st
theorem Gl.bastore (Y : Sd Z own bs mx ret n0 p l e R s m args below meth c T h k n) {a : Addr} {ck : ClassId} {z j : Int32} {x : Int32} {vs : List Value} {d v : Value} {ix : Nat} (F : Arv Z h a ck .byte z vs d) (hv : .int (nar .byte x) = v) (hj : ¬ j < 0 ∧ j < z) (hjx : j.toNatClampNeg = ix) (hlen : ix < vs.length) (ha : n0 ≤ a) (hd : decode bs pc = .ok (.bastore, 1)) (hp : pc + 1 = pc') (q : ∀ T' h', Sd Z own bs mx ret n0 p l e R s m args below meth c T' h' k n → Wr h h' a ix v → Arv Z h' a ck .byte z (vs.set ix v) d → Gl p e below P (T'.setTop (mkF m pc' L S))) : Gl p e below P (T.setTop (mkF m pc L (.int x :: .int j :: .ref a :: S))) := by
  obtain ⟨locs, X, eT, N, hn0, hx, hZ, hown, hby, hml, hrt, hlk⟩ := Y
  subst hp hv hjx
  obtain ⟨cl, A, C1, S1, N1, H, Gf⟩ := F
  obtain ⟨T', h', X', e', W, st⟩ := stB X hx hZ eT A (inb_of S1 hj) (g := mkF m pc L (.int x :: .int j :: .ref a :: S)) rfl rfl (hb hby hd)
  exact (q T' h' ⟨_, X', e', Fr.snoc X' N ha, hn0, hx, hZ, hown, hby, hml, hrt, hlk⟩ W (Arv.set A C1 S1 N1 H Gf (fits_nar_byte _) W _ rfl hlen)).of1 st
theorem Gl.initO (Y : Sd Z own bs mx ret n0 p l e R s m args below meth c T h k n) {i : Nat} {a : Addr} (w1 : (Jvm.Cond.methodLink own i Lib.objectInit).before a0 Z = true) (w2 : (Jvm.Cond.instanceMethod Lib.objectInit).before a0 Z = true) (w3 : (Jvm.Cond.code Lib.objectInit ⟨#[0xb1]⟩ 1 none).before a0 Z = true) (hL : L.size = mx) (hf : 1 ≤ R.frames) (hl : (S.map fun v => v.category).sum + 12 ≤ R.locals) (hd : decode bs pc = .ok (.invokespecial i, 3)) (hp : pc + 3 = pc') (q : ∀ T', Sd Z own bs mx ret n0 p l e R s m args below meth c T' h k n → Gl p e below P (T'.setTop (mkF m pc' L S))) : Gl p e below P (T.setTop (mkF m pc L (.ref a :: S))) := by
  obtain ⟨locs, X, eT, N, hn0, hx, hZ, hown, hby, hml, hrt, hlk⟩ := Y
  subst hp
  obtain ⟨T', X', e', st⟩ := Jvm.RoadKit.initO X hx hZ hown w1 w2 w3 eT (g := mkF m pc L (.ref a :: S)) rfl (by rw [hml]; exact hL) rfl (hb hby hd) hf (W := (S.map fun v => v.category).sum) (by show 2 * 0 + _ ≤ _; omega) hl
  exact (q T' ⟨locs, X', e', N, hn0, hx, hZ, hown, hby, hml, hrt, hlk⟩).of1 st
theorem Gl.castY (Y : Sd Z own bs mx ret n0 p l e R s m args below meth c T h k n) {i : Nat} {K : String} {a : Addr} (w : (Jvm.Cond.classLink own i K).before a0 Z = true) (F : Ins Z h a K true) (hd : decode bs pc = .ok (.checkcast i, 3)) (hp : pc + 3 = pc') (q : ∀ T', Sd Z own bs mx ret n0 p l e R s m args below meth c T' h k n → Gl p e below P (T'.setTop (mkF m pc' L (.ref a :: S)))) : Gl p e below P (T.setTop (mkF m pc L (.ref a :: S))) := by
  obtain ⟨locs, X, eT, N, hn0, hx, hZ, hown, hby, hml, hrt, hlk⟩ := Y
  subst hp
  obtain ⟨T', X', e', st⟩ := Jvm.RoadKit.castY X hx hZ hown w eT F (g := mkF m pc L (.ref a :: S)) rfl rfl (hb hby hd)
  exact (q T' ⟨locs, X', e', N, hn0, hx, hZ, hown, hby, hml, hrt, hlk⟩).of1 st
theorem Gl.instY (Y : Sd Z own bs mx ret n0 p l e R s m args below meth c T h k n) {i : Nat} {K : String} {a : Addr} (w : (Jvm.Cond.classLink own i K).before a0 Z = true) (F : Ins Z h a K true) (hd : decode bs pc = .ok (.instanceof i, 3)) (hp : pc + 3 = pc') (q : ∀ T', Sd Z own bs mx ret n0 p l e R s m args below meth c T' h k n → Gl p e below P (T'.setTop (mkF m pc' L (.int 1 :: S)))) : Gl p e below P (T.setTop (mkF m pc L (.ref a :: S))) := by
  obtain ⟨locs, X, eT, N, hn0, hx, hZ, hown, hby, hml, hrt, hlk⟩ := Y
  subst hp
  obtain ⟨T', X', e', st⟩ := Jvm.RoadKit.instY X hx hZ hown w eT F (g := mkF m pc L (.ref a :: S)) rfl rfl (hb hby hd)
  exact (q T' ⟨locs, X', e', N, hn0, hx, hZ, hown, hby, hml, hrt, hlk⟩).of1 st
theorem Gl.instNo (Y : Sd Z own bs mx ret n0 p l e R s m args below meth c T h k n) {i : Nat} {K C : String} {a : Addr} (w : (Jvm.Cond.classLink own i K).before a0 Z = true) (E : Exa Z h a C) (F : ∃ c t, Z.vm.findClass C = some c ∧ Z.vm.findClass K = some t ∧ Z.vm.assignable c t = false) (hd : decode bs pc = .ok (.instanceof i, 3)) (hp : pc + 3 = pc') (q : ∀ T', Sd Z own bs mx ret n0 p l e R s m args below meth c T' h k n → Gl p e below P (T'.setTop (mkF m pc' L (.int 0 :: S)))) : Gl p e below P (T.setTop (mkF m pc L (.ref a :: S))) := by
  obtain ⟨locs, X, eT, N, hn0, hx, hZ, hown, hby, hml, hrt, hlk⟩ := Y
  subst hp
  obtain ⟨T', X', e', st⟩ := Jvm.RoadKit.instNo X hx hZ hown w eT E F (g := mkF m pc L (.ref a :: S)) rfl rfl (hb hby hd)
  exact (q T' ⟨locs, X', e', N, hn0, hx, hZ, hown, hby, hml, hrt, hlk⟩).of1 st
theorem Gl.castNull (Y : Sd Z own bs mx ret n0 p l e R s m args below meth c T h k n) {i : Nat} (hd : decode bs pc = .ok (.checkcast i, 3)) (hp : pc + 3 = pc') (q : Gl p e below P (T.setTop (mkF m pc' L (.null :: S)))) : Gl p e below P (T.setTop (mkF m pc L (.null :: S))) := by
  obtain ⟨locs, X, eT, N, hn0, hx, hZ, hown, hby, hml, hrt, hlk⟩ := Y
  subst hp
  exact q.of1 fun t q => X.checkcastNull hx (g := mkF m pc L (.null :: S)) rfl rfl (hb hby hd) t q
theorem Gl.instNull (Y : Sd Z own bs mx ret n0 p l e R s m args below meth c T h k n) {i : Nat} (hd : decode bs pc = .ok (.instanceof i, 3)) (hp : pc + 3 = pc') (q : Gl p e below P (T.setTop (mkF m pc' L (.int 0 :: S)))) : Gl p e below P (T.setTop (mkF m pc L (.null :: S))) := by
  obtain ⟨locs, X, eT, N, hn0, hx, hZ, hown, hby, hml, hrt, hlk⟩ := Y
  subst hp
  exact q.of1 fun t q => X.instanceofNull hx (g := mkF m pc L (.null :: S)) rfl rfl (hb hby hd) t q
theorem Gl.newR (Y : Sd Z own bs mx ret n0 p l e R s m args below meth c T h k n) {i : Nat} {C : String} {z : Int32} (cap : Nat) (w1 : (Jvm.Cond.classLink own i C).before a0 Z = true) (w2 : (Jvm.Cond.arrayOver (.object C)).before a0 Z = true) (hz : ¬ z < 0) (hcap : z.toNatClampNeg ≤ cap) (hcb : cap * 8 ≤ 536870912) (hc : k + 1 ≤ R.cells) (hl : n + cap ≤ R.slots) (hd : decode bs pc = .ok (.anewarray i, 3)) (hp : pc + 3 = pc') (q : ∀ T' h' b ck, Sd Z own bs mx ret n0 p l e R s m args below meth c T' h' (k + 1) (n + cap) → Ext h h' → b = h.size → n0 ≤ b → Arv Z h' b ck (.object C) z [] .null → Gl p e below P (T'.setTop (mkF m pc' L (.ref b :: S)))) : Gl p e below P (T.setTop (mkF m pc L (.int z :: S))) := by
  obtain ⟨locs, X, eT, N, hn0, hx, hZ, hown, hby, hml, hrt, hlk⟩ := Y
  subst hp
  obtain ⟨T', h', ck, X', e', E, A, -, st⟩ := Jvm.RoadKit.newR X hx hZ hown w1 w2 eT (g := mkF m pc L (.int z :: S)) rfl (hb hby hd) rfl hz hcap hcb hc hl
  exact (q T' h' h.size ck ⟨locs, X', e', N, hn0, hx, hZ, hown, hby, hml, hrt, hlk⟩ E rfl (eT ▸ Nat.le_trans hn0 (own_grow X)) (Arv.new A hz)).of1 st
theorem Gl.callS (Y : Sd Z own bs mx ret n0 p l e R s m args below meth c T h k n) {y : MethodName} {bs2 : ByteArray} {mx2 : Nat} {ret2 : Option FieldType} {rm : Room} {as : Array Value} {Q : Option Value → Heap → Prop} {i : Nat} {argsL rest : List Value} (w1 : (Jvm.Cond.methodLink own i y).before a0 Z = true) (w2 : (Jvm.Cond.static y).before a0 Z = true) (w3 : (Jvm.Cond.initialized y.cls).before a0 Z = true) (w4 : (Jvm.Cond.code y bs2 mx2 ret2).before a0 Z = true) (hy : y.cls ≠ "java/lang/invoke/MethodHandle" ∧ y.cls ≠ "java/lang/invoke/VarHandle") (hM : OMet l Z [] y bs2 mx2 ret2 rm as h n0 Q) (has : argsL.toArray = as) (hS : S = argsL.reverse ++ rest) (hlen : ∀ sig, parseMethodDescriptor y.desc = some sig → argsL.length = sig.parameters.length) (hL : L.size = mx) (hf : rm.frames + 1 ≤ R.frames) (hl : (rest.map fun v => v.category).sum + (mx2 + 11) + rm.locals ≤ R.locals) (hc : k + rm.cells ≤ R.cells) (hs : n + rm.slots ≤ R.slots) (hd : decode bs pc = .ok (.invokestatic i, 3)) (hp : pc + 3 = pc') (q : ∀ v T' h', Sd Z own bs mx ret n0 p l e R s m args below meth c T' h' (k + rm.cells) (n + rm.slots) → Q v h' → Gl p e below P (T'.setTop (mkF m pc' L (v.toList ++ rest)))) : Gl p e below P (T.setTop (mkF m pc L S)) := by
  obtain ⟨locs, X, eT, N, hn0, hx, hZ, hown, hby, hml, hrt, hlk⟩ := Y
  subst hp has hS
  obtain ⟨v, vm₁, ⟨T', L', k', n'⟩, -, X', hB, st⟩ := Jvm.LawKit.callS X hx (y := y) hown (mvT hZ w1) (mvT hZ w2) (mvT hZ w3) (mvT hZ w4) hy (backOf (Q := fun v h' L => Q v h' ∧ Fr n0 L) (W := (rest.map fun v => v.category).sum) (OMet.un hM) hZ w4 w3 hf hl) (g := mkF m pc L (argsL.reverse ++ rest)) rfl (by rw [hml]; exact hL) (argsL := argsL) (rest := rest) hlen rfl (by show 2 * 0 + _ ≤ _; omega) (hb hby hd) (fun _ _ => ⟨rfl, eT, hc, hs⟩)
  obtain ⟨Lc, ⟨hQ, NL⟩, l1, l2, l3⟩ := hB
  dsimp only [Pt.U, Pt.locs, Pt.cells, Pt.slots] at X' l1 l2 l3 st hQ
  subst l1 l2 l3
  exact (q v T' T'.heap ⟨_, X', rfl, Fr.app N NL, hn0, hx, hZ, hown, hby, hml, hrt, hlk⟩ hQ).of1 st
theorem Gl.callN (Y : Sd Z own bs mx ret n0 p l e R s m args below meth c T h k n) {y : MethodName} {bs2 : ByteArray} {mx2 : Nat} {rm : Room} {as : Array Value} {Q : Option Value → Heap → Prop} {i : Nat} {argsL rest : List Value} {a : Addr} (hy1 : y.name = "<init>") (w1 : (Jvm.Cond.methodLink own i y).before a0 Z = true) (w2 : (Jvm.Cond.instanceMethod y).before a0 Z = true) (w3 : (Jvm.Cond.initialized y.cls).before a0 Z = true) (w4 : (Jvm.Cond.code y bs2 mx2 none).before a0 Z = true) (hy : y.cls ≠ "java/lang/invoke/MethodHandle" ∧ y.cls ≠ "java/lang/invoke/VarHandle") (hM : OMet l Z [] y bs2 mx2 none rm as h n0 Q) (has : (.ref a :: argsL).toArray = as) (hS : S = argsL.reverse ++ .ref a :: rest) (hlen : ∀ sig, parseMethodDescriptor y.desc = some sig → argsL.length = sig.parameters.length) (hL : L.size = mx) (hf : rm.frames + 1 ≤ R.frames) (hl : (rest.map fun v => v.category).sum + (mx2 + 11) + rm.locals ≤ R.locals) (hc : k + rm.cells ≤ R.cells) (hs : n + rm.slots ≤ R.slots) (hd : decode bs pc = .ok (.invokespecial i, 3)) (hp : pc + 3 = pc') (q : ∀ v T' h', Sd Z own bs mx ret n0 p l e R s m args below meth c T' h' (k + rm.cells) (n + rm.slots) → Q v h' → Gl p e below P (T'.setTop (mkF m pc' L (v.toList ++ rest)))) : Gl p e below P (T.setTop (mkF m pc L S)) := by
  obtain ⟨locs, X, eT, N, hn0, hx, hZ, hown, hby, hml, hrt, hlk⟩ := Y
  subst hp has hS
  obtain ⟨v, vm₁, ⟨T', L', k', n'⟩, -, X', hB, st⟩ := X.specialBack hx (y := y) hy1 hown (mvT hZ w1) (mvT hZ w2) (mvT hZ w4) hy (backOf (Q := fun v h' L => Q v h' ∧ Fr n0 L) (W := (rest.map fun v => v.category).sum) (OMet.un hM) hZ w4 w3 hf hl) (g := mkF m pc L (argsL.reverse ++ .ref a :: rest)) rfl (by rw [hml]; exact hL) (Steps.refl _) (a := a) (argsL := argsL) (rest := rest) hlen rfl (by show 2 * 0 + _ ≤ _; omega) (hb hby hd) (fun _ _ => ⟨rfl, eT, hc, hs⟩)
  obtain ⟨Lc, ⟨hQ, NL⟩, l1, l2, l3⟩ := hB
  dsimp only [Pt.U, Pt.locs, Pt.cells, Pt.slots] at X' l1 l2 l3 st hQ
  subst l1 l2 l3
  exact Gl.via st (q v T' T'.heap ⟨_, X', rfl, Fr.app N NL, hn0, hx, hZ, hown, hby, hml, hrt, hlk⟩ hQ)
theorem Gl.callV (Y : Sd Z own bs mx ret n0 p l e R s m args below meth c T h k n) {y : MethodName} {bs2 : ByteArray} {mx2 : Nat} {ret2 : Option FieldType} {rm : Room} {as : Array Value} {Q : Option Value → Heap → Prop} {i : Nat} {z : MethodName} {C : String} {argsL rest : List Value} {a : Addr} (w1 : (Jvm.Cond.methodLink own i z).before a0 Z = true) (wd : (Jvm.Cond.declares z).before a0 Z = true) (ws0 : (Jvm.Cond.selects z.cls z z).before a0 Z = true) (ws : (Jvm.Cond.selects C z y).before a0 Z = true) (w2 : (Jvm.Cond.instanceMethod y).before a0 Z = true) (w3 : (Jvm.Cond.initialized y.cls).before a0 Z = true) (w4 : (Jvm.Cond.code y bs2 mx2 ret2).before a0 Z = true) (hy : z.cls ≠ "java/lang/invoke/MethodHandle" ∧ z.cls ≠ "java/lang/invoke/VarHandle") (E : Exa Z h a C) (hM : OMet l Z [] y bs2 mx2 ret2 rm as h n0 Q) (has : (.ref a :: argsL).toArray = as) (hS : S = argsL.reverse ++ .ref a :: rest) (hlen : ∀ sig, parseMethodDescriptor z.desc = some sig → argsL.length = sig.parameters.length) (hL : L.size = mx) (hf : rm.frames + 1 ≤ R.frames) (hl : (rest.map fun v => v.category).sum + (mx2 + 11) + rm.locals ≤ R.locals) (hc : k + rm.cells ≤ R.cells) (hs : n + rm.slots ≤ R.slots) (hd : decode bs pc = .ok (.invokevirtual i, 3)) (hp : pc + 3 = pc') (q : ∀ v T' h', Sd Z own bs mx ret n0 p l e R s m args below meth c T' h' (k + rm.cells) (n + rm.slots) → Q v h' → Gl p e below P (T'.setTop (mkF m pc' L (v.toList ++ rest)))) : Gl p e below P (T.setTop (mkF m pc L S)) := by
  obtain ⟨locs, X, eT, N, hn0, hx, hZ, hown, hby, hml, hrt, hlk⟩ := Y
  subst hp has hS
  obtain ⟨cq, kq, qa, qb, qc⟩ := isOf hZ eT E
  obtain ⟨v, vm₁, ⟨T', L', k', n'⟩, -, X', hB, st⟩ := X.virtualBack hx (y := z) (z := y) hown (mvT hZ w1) (mvT hZ wd) (notFace_of_selects (args := #[]) (mvT hZ ws0)) (mvT hZ ws) (mvT hZ w2) hy (backOf (Q := fun v h' L => Q v h' ∧ Fr n0 L) (W := (rest.map fun v => v.category).sum) (OMet.un hM) hZ w4 w3 hf hl) qa qc (g := mkF m pc L (argsL.reverse ++ .ref a :: rest)) rfl (by rw [hml]; exact hL) (Steps.refl _) (argsL := argsL) (rest := rest) hlen rfl (by show 2 * 0 + _ ≤ _; omega) (hb hby hd) (fun _ _ => ⟨rfl, eT, hc, hs⟩)
  obtain ⟨Lc, ⟨hQ, NL⟩, l1, l2, l3⟩ := hB
  dsimp only [Pt.U, Pt.locs, Pt.cells, Pt.slots] at X' l1 l2 l3 st hQ
  subst l1 l2 l3
  exact Gl.via st (q v T' T'.heap ⟨_, X', rfl, Fr.app N NL, hn0, hx, hZ, hown, hby, hml, hrt, hlk⟩ hQ)
theorem Gl.callP (Y : Sd Z own bs mx ret n0 p l e R s m args below meth c T h k n) {y : MethodName} {bs2 : ByteArray} {mx2 : Nat} {ret2 : Option FieldType} {rm : Room} {as : Array Value} {Q : Option Value → Heap → Prop} {i : Nat} {C : String} {kk : Nat} {argsL rest : List Value} {a : Addr} (w1 : (Jvm.Cond.methodLink own i y).before a0 Z = true) (w2 : (Jvm.Cond.instanceMethod y).before a0 Z = true) (wp : (Jvm.Cond.privateMethod y).before a0 Z = true) (wi : (Jvm.Cond.instantiable y.cls kk).before a0 Z = true) (w3 : (Jvm.Cond.initialized y.cls).before a0 Z = true) (w4 : (Jvm.Cond.code y bs2 mx2 ret2).before a0 Z = true) (hy : y.cls ≠ "java/lang/invoke/MethodHandle" ∧ y.cls ≠ "java/lang/invoke/VarHandle") (E : Exa Z h a C) (hM : OMet l Z [] y bs2 mx2 ret2 rm as h n0 Q) (has : (.ref a :: argsL).toArray = as) (hS : S = argsL.reverse ++ .ref a :: rest) (hlen : ∀ sig, parseMethodDescriptor y.desc = some sig → argsL.length = sig.parameters.length) (hL : L.size = mx) (hf : rm.frames + 1 ≤ R.frames) (hl : (rest.map fun v => v.category).sum + (mx2 + 11) + rm.locals ≤ R.locals) (hc : k + rm.cells ≤ R.cells) (hs : n + rm.slots ≤ R.slots) (hd : decode bs pc = .ok (.invokevirtual i, 3)) (hp : pc + 3 = pc') (q : ∀ v T' h', Sd Z own bs mx ret n0 p l e R s m args below meth c T' h' (k + rm.cells) (n + rm.slots) → Q v h' → Gl p e below P (T'.setTop (mkF m pc' L (v.toList ++ rest)))) : Gl p e below P (T.setTop (mkF m pc L S)) := by
  obtain ⟨locs, X, eT, N, hn0, hx, hZ, hown, hby, hml, hrt, hlk⟩ := Y
  subst hp has hS
  obtain ⟨cq, qa, qb⟩ := E.cell
  have hpr := Cond.privateMethod_at (mvP hZ wp (args := #[]))
  obtain ⟨c1, k1, i1, i2, -, i4, -⟩ := Cond.instantiable_spec (mv (args := args) hZ wi)
  have i5 : k1.isInterface = false := by cases hi : k1.isInterface <;> simp [hi] at i4 ⊢
  have hsel := selects_self_of_private (args := args) i1 i2 i5 hpr (mvT hZ w2) hy
  obtain ⟨v, vm₁, ⟨T', L', k', n'⟩, -, X', hB, st⟩ := X.privateBack hx (y := y) hown (mvT hZ w1) (mvT hZ w2) hsel hpr (mvT hZ w4) hy (backOf (Q := fun v h' L => Q v h' ∧ Fr n0 L) (W := (rest.map fun v => v.category).sum) (OMet.un hM) hZ w4 w3 hf hl) (g := mkF m pc L (argsL.reverse ++ .ref a :: rest)) rfl (by rw [hml]; exact hL) (Steps.refl _) (a := a) (by rw [eT]; exact qa) qb (argsL := argsL) (rest := rest) hlen rfl (by show 2 * 0 + _ ≤ _; omega) (hb hby hd) (fun _ _ => ⟨rfl, eT, hc, hs⟩)
  obtain ⟨Lc, ⟨hQ, NL⟩, l1, l2, l3⟩ := hB
  dsimp only [Pt.U, Pt.locs, Pt.cells, Pt.slots] at X' l1 l2 l3 st hQ
  subst l1 l2 l3
  exact Gl.via st (q v T' T'.heap ⟨_, X', rfl, Fr.app N NL, hn0, hx, hZ, hown, hby, hml, hrt, hlk⟩ hQ)
theorem Gl.callNN (Y : Sd Z own bs mx ret n0 p l e R s m args below meth c T h k n) {y : MethodName} {bs2 : ByteArray} {mx2 : Nat} {rm : Room} {as : Array Value} {Q : Option Value → Heap → Prop} {i : Nat} {argsL rest : List Value} {host : String} {a : Addr} (hy1 : y.name = "<init>") (w1 : (Jvm.Cond.methodLinkNest own i y host).before a0 Z = true) (w2 : (Jvm.Cond.instanceMethod y).before a0 Z = true) (w3 : (Jvm.Cond.initialized y.cls).before a0 Z = true) (w4 : (Jvm.Cond.code y bs2 mx2 none).before a0 Z = true) (hy : y.cls ≠ "java/lang/invoke/MethodHandle" ∧ y.cls ≠ "java/lang/invoke/VarHandle") (hM : OMet l Z [] y bs2 mx2 none rm as h n0 Q) (has : (.ref a :: argsL).toArray = as) (hS : S = argsL.reverse ++ .ref a :: rest) (hlen : ∀ sig, parseMethodDescriptor y.desc = some sig → argsL.length = sig.parameters.length) (hL : L.size = mx) (hf : rm.frames + 1 ≤ R.frames) (hl : (rest.map fun v => v.category).sum + (mx2 + 11) + rm.locals ≤ R.locals) (hc : k + rm.cells ≤ R.cells) (hs : n + rm.slots ≤ R.slots) (hd : decode bs pc = .ok (.invokespecial i, 3)) (hp : pc + 3 = pc') (q : ∀ v T' h', Sd Z own bs mx ret n0 p l e R s m args below meth c T' h' (k + rm.cells) (n + rm.slots) → Q v h' → Gl p e below P (T'.setTop (mkF m pc' L (v.toList ++ rest)))) : Gl p e below P (T.setTop (mkF m pc L S)) := by
  obtain ⟨locs, X, eT, N, hn0, hx, hZ, hown, hby, hml, hrt, hlk⟩ := Y
  subst hp has hS
  obtain ⟨v, vm₁, ⟨T', L', k', n'⟩, -, X', hB, st⟩ := X.specialBackNest hx (y := y) hy1 hown (Cond.methodLinkNest_wide hZ w1 :) (mvT hZ w2) (mvT hZ w4) hy (backOf (Q := fun v h' L => Q v h' ∧ Fr n0 L) (W := (rest.map fun v => v.category).sum) (OMet.un hM) hZ w4 w3 hf hl) (g := mkF m pc L (argsL.reverse ++ .ref a :: rest)) rfl (by rw [hml]; exact hL) (Steps.refl _) (a := a) (argsL := argsL) (rest := rest) hlen rfl (by show 2 * 0 + _ ≤ _; omega) (hb hby hd) (fun _ _ => ⟨rfl, eT, hc, hs⟩)
  obtain ⟨Lc, ⟨hQ, NL⟩, l1, l2, l3⟩ := hB
  dsimp only [Pt.U, Pt.locs, Pt.cells, Pt.slots] at X' l1 l2 l3 st hQ
  subst l1 l2 l3
  exact Gl.via st (q v T' T'.heap ⟨_, X', rfl, Fr.app N NL, hn0, hx, hZ, hown, hby, hml, hrt, hlk⟩ hQ)
theorem Gl.callVU (Y : Sd Z own bs mx ret n0 p l e R s m args below meth c T h k n) {y : MethodName} {bs2 : ByteArray} {mx2 : Nat} {ret2 : Option FieldType} {rm : Room} {as : Array Value} {Q : Option Value → Heap → Prop} {i : Nat} {owner : String} {z : MethodName} {C : String} {argsL rest : List Value} {a : Addr} (w1 : (Jvm.Cond.methodLink own i z).before a0 Z = true) (w0 : (Jvm.Cond.sameMethod z.cls owner z.name z.desc).before a0 Z = true) (wd : (Jvm.Cond.declares ⟨owner, z.name, z.desc⟩).before a0 Z = true) (ws : (Jvm.Cond.selects C z y).before a0 Z = true) (w2 : (Jvm.Cond.instanceMethod y).before a0 Z = true) (w3 : (Jvm.Cond.initialized y.cls).before a0 Z = true) (w4 : (Jvm.Cond.code y bs2 mx2 ret2).before a0 Z = true) (hy : owner ≠ "java/lang/invoke/MethodHandle" ∧ owner ≠ "java/lang/invoke/VarHandle") (E : Exa Z h a C) (hM : OMet l Z [] y bs2 mx2 ret2 rm as h n0 Q) (has : (.ref a :: argsL).toArray = as) (hS : S = argsL.reverse ++ .ref a :: rest) (hlen : ∀ sig, parseMethodDescriptor z.desc = some sig → argsL.length = sig.parameters.length) (hL : L.size = mx) (hf : rm.frames + 1 ≤ R.frames) (hl : (rest.map fun v => v.category).sum + (mx2 + 11) + rm.locals ≤ R.locals) (hc : k + rm.cells ≤ R.cells) (hs : n + rm.slots ≤ R.slots) (hd : decode bs pc = .ok (.invokevirtual i, 3)) (hp : pc + 3 = pc') (q : ∀ v T' h', Sd Z own bs mx ret n0 p l e R s m args below meth c T' h' (k + rm.cells) (n + rm.slots) → Q v h' → Gl p e below P (T'.setTop (mkF m pc' L (v.toList ++ rest)))) : Gl p e below P (T.setTop (mkF m pc L S)) := by
  obtain ⟨locs, X, eT, N, hn0, hx, hZ, hown, hby, hml, hrt, hlk⟩ := Y
  subst hp has hS
  obtain ⟨cq, kq, qa, qb, qc⟩ := isOf hZ eT E
  obtain ⟨v, vm₁, ⟨T', L', k', n'⟩, -, X', hB, st⟩ := X.virtualBackUp hx (x := z) (y := y) hown (mvT hZ w1) (mvT hZ w0) (mvT hZ wd) hy (mvT hZ ws) (mvT hZ w2) (backOf (Q := fun v h' L => Q v h' ∧ Fr n0 L) (W := (rest.map fun v => v.category).sum) (OMet.un hM) hZ w4 w3 hf hl) qa qc (g := mkF m pc L (argsL.reverse ++ .ref a :: rest)) rfl (by rw [hml]; exact hL) (Steps.refl _) (argsL := argsL) (rest := rest) hlen rfl (by show 2 * 0 + _ ≤ _; omega) (hb hby hd) (fun _ _ => ⟨rfl, eT, hc, hs⟩)
  obtain ⟨Lc, ⟨hQ, NL⟩, l1, l2, l3⟩ := hB
  dsimp only [Pt.U, Pt.locs, Pt.cells, Pt.slots] at X' l1 l2 l3 st hQ
  subst l1 l2 l3
  exact Gl.via st (q v T' T'.heap ⟨_, X', rfl, Fr.app N NL, hn0, hx, hZ, hown, hby, hml, hrt, hlk⟩ hQ)
theorem Gl.fin (Y : Sd Z own bs mx ret n0 p l e R s m args below meth c T h k n) {K M : Nat} {Q : Option Value → Heap → Prop} (hk : k ≤ K) (hm : n ≤ M) {g : JFrame} {v : Option Value} (hv : ret = none → v = none) (st : ∀ fs, (∀ (f : JFrame) (acts : List Action), f.method = m → f.locked = none → f.entered = [] → (doReturn e (T.setTop f) acts v).1 = T.setFrames fs) → Steps p.tables e below (T.setTop g) (T.setFrames fs)) (hQ : Q v h) : Gl p e below (Pst s n0 K M Q) (T.setTop g) := by
  obtain ⟨locs, X, eT, N, hn0, hx, hZ, hown, hby, hml, hrt, hlk⟩ := Y
  obtain ⟨fs, hr, hrun, hended, hW, hsame⟩ := X.leave (v := v) (fun q => hv (hrt.symm.trans q)) hlk
  exact ⟨_, _, st fs hr, hrun, hended, v, locs, rfl, ⟨by show Q v T.heap; rw [eT]; exact hQ, N⟩, ⟨_, rfl⟩, hW, hsame.mono hk hm⟩
theorem Gl.retV (Y : Sd Z own bs mx none n0 p l e R s m args below meth c T h k n) {K M : Nat} {Q : Option Value → Heap → Prop} (hk : k ≤ K) (hm : n ≤ M)  (hd : decode bs pc = .ok (.return_, 1)) (hQ : Q none h) : Gl p e below (Pst s n0 K M Q) (T.setTop (mkF m pc L [])) := by
  have Y0 := Y
  obtain ⟨locs, X, eT, N, hn0, hx, hZ, hown, hby, hml, hrt, hlk⟩ := Y
  exact Gl.fin Y0 hk hm (v := none) (fun q => by first | rfl | cases q) (fun fs hr => X.returnOut hx hrt (hb hby hd) hr) hQ
theorem Gl.retI (Y : Sd Z own bs mx (some .int) n0 p l e R s m args below meth c T h k n) {K M : Nat} {Q : Option Value → Heap → Prop} (hk : k ≤ K) (hm : n ≤ M) {x : Int32} (hd : decode bs pc = .ok (.ireturn, 1)) (hQ : Q (some (.int x)) h) : Gl p e below (Pst s n0 K M Q) (T.setTop (mkF m pc L (.int x :: S))) := by
  have Y0 := Y
  obtain ⟨locs, X, eT, N, hn0, hx, hZ, hown, hby, hml, hrt, hlk⟩ := Y
  exact Gl.fin Y0 hk hm (v := (some (.int x))) (fun q => by first | rfl | cases q) (fun fs hr => retOut X hx hrt rfl (Or.inl ⟨rfl, Or.inl rfl, x, rfl⟩) (hb hby hd) hr) hQ
theorem Gl.retJ (Y : Sd Z own bs mx (some .long) n0 p l e R s m args below meth c T h k n) {K M : Nat} {Q : Option Value → Heap → Prop} (hk : k ≤ K) (hm : n ≤ M) {x : Int64} (hd : decode bs pc = .ok (.lreturn, 1)) (hQ : Q (some (.long x)) h) : Gl p e below (Pst s n0 K M Q) (T.setTop (mkF m pc L (.long x :: S))) := by
  have Y0 := Y
  obtain ⟨locs, X, eT, N, hn0, hx, hZ, hown, hby, hml, hrt, hlk⟩ := Y
  exact Gl.fin Y0 hk hm (v := (some (.long x))) (fun q => by first | rfl | cases q) (fun fs hr => retOut X hx hrt rfl (Or.inr (Or.inl ⟨rfl, rfl, x, rfl⟩)) (hb hby hd) hr) hQ
theorem Gl.retA (Y : Sd Z own bs mx (some t) n0 p l e R s m args below meth c T h k n) {K M : Nat} {Q : Option Value → Heap → Prop} (hk : k ≤ K) (hm : n ≤ M) {x : Value} (ht : t.isReference = true) (hxr : x.isRef = true) (hd : decode bs pc = .ok (.areturn, 1)) (hQ : Q (some x) h) : Gl p e below (Pst s n0 K M Q) (T.setTop (mkF m pc L (x :: S))) := by
  have Y0 := Y
  obtain ⟨locs, X, eT, N, hn0, hx, hZ, hown, hby, hml, hrt, hlk⟩ := Y
  exact Gl.fin Y0 hk hm (v := (some x)) (fun q => by first | rfl | cases q) (fun fs hr => retOut X hx hrt (own_narR hxr) (Or.inr (Or.inr (Or.inr (Or.inr ⟨rfl, ht, hxr⟩)))) (hb hby hd) hr) hQ
theorem Gl.retZ (Y : Sd Z own bs mx (some .boolean) n0 p l e R s m args below meth c T h k n) {K M : Nat} {Q : Option Value → Heap → Prop} (hk : k ≤ K) (hm : n ≤ M) {x x' : Int32} (hxn : nar .boolean x = x') (hd : decode bs pc = .ok (.ireturn, 1)) (hQ : Q (some (.int x')) h) : Gl p e below (Pst s n0 K M Q) (T.setTop (mkF m pc L (.int x :: S))) := by
  have Y0 := Y
  obtain ⟨locs, X, eT, N, hn0, hx, hZ, hown, hby, hml, hrt, hlk⟩ := Y
  exact Gl.fin Y0 hk hm (v := (some (.int x'))) (fun q => by first | rfl | cases q) (fun fs hr => retN X hx (t := .boolean) hrt (by simp) (hb hby hd) (by rw [hxn]; exact hr)) hQ
theorem Gl.retB (Y : Sd Z own bs mx (some .byte) n0 p l e R s m args below meth c T h k n) {K M : Nat} {Q : Option Value → Heap → Prop} (hk : k ≤ K) (hm : n ≤ M) {x x' : Int32} (hxn : nar .byte x = x') (hd : decode bs pc = .ok (.ireturn, 1)) (hQ : Q (some (.int x')) h) : Gl p e below (Pst s n0 K M Q) (T.setTop (mkF m pc L (.int x :: S))) := by
  have Y0 := Y
  obtain ⟨locs, X, eT, N, hn0, hx, hZ, hown, hby, hml, hrt, hlk⟩ := Y
  exact Gl.fin Y0 hk hm (v := (some (.int x'))) (fun q => by first | rfl | cases q) (fun fs hr => retN X hx (t := .byte) hrt (by simp) (hb hby hd) (by rw [hxn]; exact hr)) hQ
theorem Gl.retC (Y : Sd Z own bs mx (some .char) n0 p l e R s m args below meth c T h k n) {K M : Nat} {Q : Option Value → Heap → Prop} (hk : k ≤ K) (hm : n ≤ M) {x x' : Int32} (hxn : nar .char x = x') (hd : decode bs pc = .ok (.ireturn, 1)) (hQ : Q (some (.int x')) h) : Gl p e below (Pst s n0 K M Q) (T.setTop (mkF m pc L (.int x :: S))) := by
  have Y0 := Y
  obtain ⟨locs, X, eT, N, hn0, hx, hZ, hown, hby, hml, hrt, hlk⟩ := Y
  exact Gl.fin Y0 hk hm (v := (some (.int x'))) (fun q => by first | rfl | cases q) (fun fs hr => retN X hx (t := .char) hrt (by simp) (hb hby hd) (by rw [hxn]; exact hr)) hQ
theorem Gl.retSh (Y : Sd Z own bs mx (some .short) n0 p l e R s m args below meth c T h k n) {K M : Nat} {Q : Option Value → Heap → Prop} (hk : k ≤ K) (hm : n ≤ M) {x x' : Int32} (hxn : nar .short x = x') (hd : decode bs pc = .ok (.ireturn, 1)) (hQ : Q (some (.int x')) h) : Gl p e below (Pst s n0 K M Q) (T.setTop (mkF m pc L (.int x :: S))) := by
  have Y0 := Y
  obtain ⟨locs, X, eT, N, hn0, hx, hZ, hown, hby, hml, hrt, hlk⟩ := Y
  exact Gl.fin Y0 hk hm (v := (some (.int x'))) (fun q => by first | rfl | cases q) (fun fs hr => retN X hx (t := .short) hrt (by simp) (hb hby hd) (by rw [hxn]; exact hr)) hQ
end Kit
end Jvm.OwnWk

namespace Jvm.Pilot.@@N@@
open Jvm Jvm.ClassFile Sem Op Lib Jvm.Free Jvm.Stand Jvm.LawKit Jvm.RoadKit Bundle Jvm.OwnWk Jvm.Pilot.@@N@@.Jvm.D
theorem d_method_3_0 : decode method_3_code 0 = .ok (.iload_n 2, 1) := by decide +kernel
theorem d_method_3_1 : decode method_3_code 1 = .ok (.iload_n 1, 1) := by decide +kernel
theorem d_method_3_2 : decode method_3_code 2 = .ok (.if_icmp .gt 14, 3) := by decide +kernel
theorem d_method_3_5 : decode method_3_code 5 = .ok (.iload_n 1, 1) := by decide +kernel
theorem d_method_3_6 : decode method_3_code 6 = .ok (.iload_n 3, 1) := by decide +kernel
theorem d_method_3_7 : decode method_3_code 7 = .ok (.if_icmp .ge 9, 3) := by decide +kernel
theorem d_method_3_16 : decode method_3_code 16 = .ok (.iconst 0, 1) := by decide +kernel
theorem d_method_3_17 : decode method_3_code 17 = .ok (.ireturn, 1) := by decide +kernel
def R0 : Room := { frames := 0, cells := 0, slots := 0, locals := 0 }
def Q0 (Z : State) (w : Int32) (h0 : Heap) (v : Option Value) (h : Heap) : Prop := ∃ r : Int32, v = some (.int r) ∧ (r.toInt = 0) ∧ h0 = h
theorem ef0 (w : Int32) (m : MethodId) : entryFrame m #[(.int w), (.int (0 : Int32)), (.int (0 : Int32)), (.int (0 : Int32))] 4 = mkF m 0 #[.val (.int w), .val (.int (0 : Int32)), .val (.int (0 : Int32)), .val (.int (0 : Int32))] [] := by first | (simp [entryFrame, mkF, argsToLocals, Value.category]; done) | rfl
theorem pn_0 : plainName "com/example/benchwire/benchwire/astm/LinkChecksumPinLaw" = true := by first | (simp [plainName, overriddenIn]; done) | decide +kernel
set_option maxRecDepth 65536 in
set_option maxHeartbeats 40000000 in
theorem rm0 (l : Launch) (Z : State) (a0 : Array Value) (hw : ∀ d ∈ tables_1, d.before a0 Z = true) (ws : List Jvm.Cond) (w : Int32) (h0 : Heap) (n0 : Nat) (Z0 : n0 ≤ h0.size) : OMet l Z ws (⟨"com/example/benchwire/benchwire/astm/LinkChecksumPinLaw", "term", "(IIII)I"⟩ : MethodName) method_3_code 4 (some .int) R0 #[(.int w), (.int (0 : Int32)), (.int (0 : Int32)), (.int (0 : Int32))] h0 n0 (Q0 Z w h0) := by
  refine OMet.of (plainFor_of_name pn_0) (ef0 w) Z0 ?_
  intro p e s m below meth c T0 Y0 hnm
  have Y0 : Sd Z "com/example/benchwire/benchwire/astm/LinkChecksumPinLaw" method_3_code 4 (some .int) n0 p l e R0 s m #[(.int w), (.int (0 : Int32)), (.int (0 : Int32)), (.int (0 : Int32))] below meth c T0 h0 0 0 := Y0
  have nw := rng32 w
  refine Gl.iloadN Y0 rfl d_method_3_0 rfl ?_
  refine Gl.iloadN Y0 rfl d_method_3_1 rfl ?_
  refine Gl.icmpgt Y0 d_method_3_2 (by decide) rfl rfl (fun c2 => ?_) (fun c2 => ?_)
  · exact absurd c2 (by decide)
  refine Gl.iloadN Y0 rfl d_method_3_5 rfl ?_
  refine Gl.iloadN Y0 rfl d_method_3_6 rfl ?_
  refine Gl.icmpge Y0 d_method_3_7 (by decide) rfl rfl (fun c7 => ?_) (fun c7 => ?_)
  rotate_left
  · exact absurd c7 (by decide)
  refine Gl.iconst Y0 (v := (0 : Int32)) (by decide) d_method_3_16 rfl ?_
  exact Gl.retI Y0 (by decide) (by decide)  d_method_3_17 ⟨(0 : Int32), rfl, (by first | omega | rfl), rfl⟩
theorem d_method_3_10 : decode method_3_code 10 = .ok (.iload_n 0, 1) := by decide +kernel
theorem d_method_3_11 : decode method_3_code 11 = .ok (.sipush 255, 3) := by decide +kernel
theorem d_method_3_14 : decode method_3_code 14 = .ok (.iand, 1) := by decide +kernel
theorem d_method_3_15 : decode method_3_code 15 = .ok (.ireturn, 1) := by decide +kernel
def R1 : Room := { frames := 0, cells := 0, slots := 0, locals := 0 }
def Q1 (Z : State) (w : Int32) (h0 : Heap) (v : Option Value) (h : Heap) : Prop := ∃ r : Int32, v = some (.int r) ∧ (r.toInt = w.toInt % 256) ∧ h0 = h
theorem ef1 (w : Int32) (m : MethodId) : entryFrame m #[(.int w), (.int (0 : Int32)), (.int (0 : Int32)), (.int (1 : Int32))] 4 = mkF m 0 #[.val (.int w), .val (.int (0 : Int32)), .val (.int (0 : Int32)), .val (.int (1 : Int32))] [] := by first | (simp [entryFrame, mkF, argsToLocals, Value.category]; done) | rfl
set_option maxRecDepth 65536 in
set_option maxHeartbeats 40000000 in
theorem rm1 (l : Launch) (Z : State) (a0 : Array Value) (hw : ∀ d ∈ tables_1, d.before a0 Z = true) (ws : List Jvm.Cond) (w : Int32) (h0 : Heap) (n0 : Nat) (Z0 : n0 ≤ h0.size) : OMet l Z ws (⟨"com/example/benchwire/benchwire/astm/LinkChecksumPinLaw", "term", "(IIII)I"⟩ : MethodName) method_3_code 4 (some .int) R1 #[(.int w), (.int (0 : Int32)), (.int (0 : Int32)), (.int (1 : Int32))] h0 n0 (Q1 Z w h0) := by
  refine OMet.of (plainFor_of_name pn_0) (ef1 w) Z0 ?_
  intro p e s m below meth c T0 Y0 hnm
  have Y0 : Sd Z "com/example/benchwire/benchwire/astm/LinkChecksumPinLaw" method_3_code 4 (some .int) n0 p l e R1 s m #[(.int w), (.int (0 : Int32)), (.int (0 : Int32)), (.int (1 : Int32))] below meth c T0 h0 0 0 := Y0
  have nw := rng32 w
  refine Gl.iloadN Y0 rfl d_method_3_0 rfl ?_
  refine Gl.iloadN Y0 rfl d_method_3_1 rfl ?_
  refine Gl.icmpgt Y0 d_method_3_2 (by decide) rfl rfl (fun c2 => ?_) (fun c2 => ?_)
  · exact absurd c2 (by decide)
  refine Gl.iloadN Y0 rfl d_method_3_5 rfl ?_
  refine Gl.iloadN Y0 rfl d_method_3_6 rfl ?_
  refine Gl.icmpge Y0 d_method_3_7 (by decide) rfl rfl (fun c7 => ?_) (fun c7 => ?_)
  · exact absurd c7 (by decide)
  refine Gl.iloadN Y0 rfl d_method_3_10 rfl ?_
  refine Gl.sipush Y0 (v := (255 : Int32)) (by decide) d_method_3_11 rfl ?_
  obtain ⟨v14, hv14⟩ : ∃ z : Int32, w &&& (255 : Int32) = z := ⟨_, rfl⟩
  have iv14 : v14.toInt = w.toInt % 256 := by have q := c_mask w (255 : Int32) 8 (by decide) (by decide); rw [hv14] at q; exact q
  refine Gl.iand Y0 hv14 d_method_3_14 rfl ?_
  exact Gl.retI Y0 (by decide) (by decide)  d_method_3_15 ⟨v14, rfl, (by first | omega | rfl), rfl⟩
def R2 : Room := { frames := 0, cells := 0, slots := 0, locals := 0 }
def Q2 (Z : State) (w : Int32) (h0 : Heap) (v : Option Value) (h : Heap) : Prop := ∃ r : Int32, v = some (.int r) ∧ (r.toInt = w.toInt % 256) ∧ h0 = h
theorem ef2 (w : Int32) (m : MethodId) : entryFrame m #[(.int w), (.int (0 : Int32)), (.int (0 : Int32)), (.int (2 : Int32))] 4 = mkF m 0 #[.val (.int w), .val (.int (0 : Int32)), .val (.int (0 : Int32)), .val (.int (2 : Int32))] [] := by first | (simp [entryFrame, mkF, argsToLocals, Value.category]; done) | rfl
set_option maxRecDepth 65536 in
set_option maxHeartbeats 40000000 in
theorem rm2 (l : Launch) (Z : State) (a0 : Array Value) (hw : ∀ d ∈ tables_1, d.before a0 Z = true) (ws : List Jvm.Cond) (w : Int32) (h0 : Heap) (n0 : Nat) (Z0 : n0 ≤ h0.size) : OMet l Z ws (⟨"com/example/benchwire/benchwire/astm/LinkChecksumPinLaw", "term", "(IIII)I"⟩ : MethodName) method_3_code 4 (some .int) R2 #[(.int w), (.int (0 : Int32)), (.int (0 : Int32)), (.int (2 : Int32))] h0 n0 (Q2 Z w h0) := by
  refine OMet.of (plainFor_of_name pn_0) (ef2 w) Z0 ?_
  intro p e s m below meth c T0 Y0 hnm
  have Y0 : Sd Z "com/example/benchwire/benchwire/astm/LinkChecksumPinLaw" method_3_code 4 (some .int) n0 p l e R2 s m #[(.int w), (.int (0 : Int32)), (.int (0 : Int32)), (.int (2 : Int32))] below meth c T0 h0 0 0 := Y0
  have nw := rng32 w
  refine Gl.iloadN Y0 rfl d_method_3_0 rfl ?_
  refine Gl.iloadN Y0 rfl d_method_3_1 rfl ?_
  refine Gl.icmpgt Y0 d_method_3_2 (by decide) rfl rfl (fun c2 => ?_) (fun c2 => ?_)
  · exact absurd c2 (by decide)
  refine Gl.iloadN Y0 rfl d_method_3_5 rfl ?_
  refine Gl.iloadN Y0 rfl d_method_3_6 rfl ?_
  refine Gl.icmpge Y0 d_method_3_7 (by decide) rfl rfl (fun c7 => ?_) (fun c7 => ?_)
  · exact absurd c7 (by decide)
  refine Gl.iloadN Y0 rfl d_method_3_10 rfl ?_
  refine Gl.sipush Y0 (v := (255 : Int32)) (by decide) d_method_3_11 rfl ?_
  obtain ⟨v14, hv14⟩ : ∃ z : Int32, w &&& (255 : Int32) = z := ⟨_, rfl⟩
  have iv14 : v14.toInt = w.toInt % 256 := by have q := c_mask w (255 : Int32) 8 (by decide) (by decide); rw [hv14] at q; exact q
  refine Gl.iand Y0 hv14 d_method_3_14 rfl ?_
  exact Gl.retI Y0 (by decide) (by decide)  d_method_3_15 ⟨v14, rfl, (by first | omega | rfl), rfl⟩
def R3 : Room := { frames := 0, cells := 0, slots := 0, locals := 0 }
def Q3 (Z : State) (w : Int32) (h0 : Heap) (v : Option Value) (h : Heap) : Prop := ∃ r : Int32, v = some (.int r) ∧ (r.toInt = w.toInt % 256) ∧ h0 = h
theorem ef3 (w : Int32) (m : MethodId) : entryFrame m #[(.int w), (.int (0 : Int32)), (.int (0 : Int32)), (.int (3 : Int32))] 4 = mkF m 0 #[.val (.int w), .val (.int (0 : Int32)), .val (.int (0 : Int32)), .val (.int (3 : Int32))] [] := by first | (simp [entryFrame, mkF, argsToLocals, Value.category]; done) | rfl
set_option maxRecDepth 65536 in
set_option maxHeartbeats 40000000 in
theorem rm3 (l : Launch) (Z : State) (a0 : Array Value) (hw : ∀ d ∈ tables_1, d.before a0 Z = true) (ws : List Jvm.Cond) (w : Int32) (h0 : Heap) (n0 : Nat) (Z0 : n0 ≤ h0.size) : OMet l Z ws (⟨"com/example/benchwire/benchwire/astm/LinkChecksumPinLaw", "term", "(IIII)I"⟩ : MethodName) method_3_code 4 (some .int) R3 #[(.int w), (.int (0 : Int32)), (.int (0 : Int32)), (.int (3 : Int32))] h0 n0 (Q3 Z w h0) := by
  refine OMet.of (plainFor_of_name pn_0) (ef3 w) Z0 ?_
  intro p e s m below meth c T0 Y0 hnm
  have Y0 : Sd Z "com/example/benchwire/benchwire/astm/LinkChecksumPinLaw" method_3_code 4 (some .int) n0 p l e R3 s m #[(.int w), (.int (0 : Int32)), (.int (0 : Int32)), (.int (3 : Int32))] below meth c T0 h0 0 0 := Y0
  have nw := rng32 w
  refine Gl.iloadN Y0 rfl d_method_3_0 rfl ?_
  refine Gl.iloadN Y0 rfl d_method_3_1 rfl ?_
  refine Gl.icmpgt Y0 d_method_3_2 (by decide) rfl rfl (fun c2 => ?_) (fun c2 => ?_)
  · exact absurd c2 (by decide)
  refine Gl.iloadN Y0 rfl d_method_3_5 rfl ?_
  refine Gl.iloadN Y0 rfl d_method_3_6 rfl ?_
  refine Gl.icmpge Y0 d_method_3_7 (by decide) rfl rfl (fun c7 => ?_) (fun c7 => ?_)
  · exact absurd c7 (by decide)
  refine Gl.iloadN Y0 rfl d_method_3_10 rfl ?_
  refine Gl.sipush Y0 (v := (255 : Int32)) (by decide) d_method_3_11 rfl ?_
  obtain ⟨v14, hv14⟩ : ∃ z : Int32, w &&& (255 : Int32) = z := ⟨_, rfl⟩
  have iv14 : v14.toInt = w.toInt % 256 := by have q := c_mask w (255 : Int32) 8 (by decide) (by decide); rw [hv14] at q; exact q
  refine Gl.iand Y0 hv14 d_method_3_14 rfl ?_
  exact Gl.retI Y0 (by decide) (by decide)  d_method_3_15 ⟨v14, rfl, (by first | omega | rfl), rfl⟩
def R4 : Room := { frames := 0, cells := 0, slots := 0, locals := 0 }
def Q4 (Z : State) (w : Int32) (h0 : Heap) (v : Option Value) (h : Heap) : Prop := ∃ r : Int32, v = some (.int r) ∧ (r.toInt = w.toInt % 256) ∧ h0 = h
theorem ef4 (w : Int32) (m : MethodId) : entryFrame m #[(.int w), (.int (0 : Int32)), (.int (0 : Int32)), (.int (4 : Int32))] 4 = mkF m 0 #[.val (.int w), .val (.int (0 : Int32)), .val (.int (0 : Int32)), .val (.int (4 : Int32))] [] := by first | (simp [entryFrame, mkF, argsToLocals, Value.category]; done) | rfl
set_option maxRecDepth 65536 in
set_option maxHeartbeats 40000000 in
theorem rm4 (l : Launch) (Z : State) (a0 : Array Value) (hw : ∀ d ∈ tables_1, d.before a0 Z = true) (ws : List Jvm.Cond) (w : Int32) (h0 : Heap) (n0 : Nat) (Z0 : n0 ≤ h0.size) : OMet l Z ws (⟨"com/example/benchwire/benchwire/astm/LinkChecksumPinLaw", "term", "(IIII)I"⟩ : MethodName) method_3_code 4 (some .int) R4 #[(.int w), (.int (0 : Int32)), (.int (0 : Int32)), (.int (4 : Int32))] h0 n0 (Q4 Z w h0) := by
  refine OMet.of (plainFor_of_name pn_0) (ef4 w) Z0 ?_
  intro p e s m below meth c T0 Y0 hnm
  have Y0 : Sd Z "com/example/benchwire/benchwire/astm/LinkChecksumPinLaw" method_3_code 4 (some .int) n0 p l e R4 s m #[(.int w), (.int (0 : Int32)), (.int (0 : Int32)), (.int (4 : Int32))] below meth c T0 h0 0 0 := Y0
  have nw := rng32 w
  refine Gl.iloadN Y0 rfl d_method_3_0 rfl ?_
  refine Gl.iloadN Y0 rfl d_method_3_1 rfl ?_
  refine Gl.icmpgt Y0 d_method_3_2 (by decide) rfl rfl (fun c2 => ?_) (fun c2 => ?_)
  · exact absurd c2 (by decide)
  refine Gl.iloadN Y0 rfl d_method_3_5 rfl ?_
  refine Gl.iloadN Y0 rfl d_method_3_6 rfl ?_
  refine Gl.icmpge Y0 d_method_3_7 (by decide) rfl rfl (fun c7 => ?_) (fun c7 => ?_)
  · exact absurd c7 (by decide)
  refine Gl.iloadN Y0 rfl d_method_3_10 rfl ?_
  refine Gl.sipush Y0 (v := (255 : Int32)) (by decide) d_method_3_11 rfl ?_
  obtain ⟨v14, hv14⟩ : ∃ z : Int32, w &&& (255 : Int32) = z := ⟨_, rfl⟩
  have iv14 : v14.toInt = w.toInt % 256 := by have q := c_mask w (255 : Int32) 8 (by decide) (by decide); rw [hv14] at q; exact q
  refine Gl.iand Y0 hv14 d_method_3_14 rfl ?_
  exact Gl.retI Y0 (by decide) (by decide)  d_method_3_15 ⟨v14, rfl, (by first | omega | rfl), rfl⟩
def R5 : Room := { frames := 0, cells := 0, slots := 0, locals := 0 }
def Q5 (Z : State) (w : Int32) (h0 : Heap) (v : Option Value) (h : Heap) : Prop := ∃ r : Int32, v = some (.int r) ∧ (r.toInt = 0) ∧ h0 = h
theorem ef5 (w : Int32) (m : MethodId) : entryFrame m #[(.int w), (.int (0 : Int32)), (.int (1 : Int32)), (.int (1 : Int32))] 4 = mkF m 0 #[.val (.int w), .val (.int (0 : Int32)), .val (.int (1 : Int32)), .val (.int (1 : Int32))] [] := by first | (simp [entryFrame, mkF, argsToLocals, Value.category]; done) | rfl
set_option maxRecDepth 65536 in
set_option maxHeartbeats 40000000 in
theorem rm5 (l : Launch) (Z : State) (a0 : Array Value) (hw : ∀ d ∈ tables_1, d.before a0 Z = true) (ws : List Jvm.Cond) (w : Int32) (h0 : Heap) (n0 : Nat) (Z0 : n0 ≤ h0.size) : OMet l Z ws (⟨"com/example/benchwire/benchwire/astm/LinkChecksumPinLaw", "term", "(IIII)I"⟩ : MethodName) method_3_code 4 (some .int) R5 #[(.int w), (.int (0 : Int32)), (.int (1 : Int32)), (.int (1 : Int32))] h0 n0 (Q5 Z w h0) := by
  refine OMet.of (plainFor_of_name pn_0) (ef5 w) Z0 ?_
  intro p e s m below meth c T0 Y0 hnm
  have Y0 : Sd Z "com/example/benchwire/benchwire/astm/LinkChecksumPinLaw" method_3_code 4 (some .int) n0 p l e R5 s m #[(.int w), (.int (0 : Int32)), (.int (1 : Int32)), (.int (1 : Int32))] below meth c T0 h0 0 0 := Y0
  have nw := rng32 w
  refine Gl.iloadN Y0 rfl d_method_3_0 rfl ?_
  refine Gl.iloadN Y0 rfl d_method_3_1 rfl ?_
  refine Gl.icmpgt Y0 d_method_3_2 (by decide) rfl rfl (fun c2 => ?_) (fun c2 => ?_)
  rotate_left
  · exact absurd c2 (by decide)
  refine Gl.iconst Y0 (v := (0 : Int32)) (by decide) d_method_3_16 rfl ?_
  exact Gl.retI Y0 (by decide) (by decide)  d_method_3_17 ⟨(0 : Int32), rfl, (by first | omega | rfl), rfl⟩
def R6 : Room := { frames := 0, cells := 0, slots := 0, locals := 0 }
def Q6 (Z : State) (w : Int32) (h0 : Heap) (v : Option Value) (h : Heap) : Prop := ∃ r : Int32, v = some (.int r) ∧ (r.toInt = 0) ∧ h0 = h
theorem ef6 (w : Int32) (m : MethodId) : entryFrame m #[(.int w), (.int (0 : Int32)), (.int (1 : Int32)), (.int (2 : Int32))] 4 = mkF m 0 #[.val (.int w), .val (.int (0 : Int32)), .val (.int (1 : Int32)), .val (.int (2 : Int32))] [] := by first | (simp [entryFrame, mkF, argsToLocals, Value.category]; done) | rfl
set_option maxRecDepth 65536 in
set_option maxHeartbeats 40000000 in
theorem rm6 (l : Launch) (Z : State) (a0 : Array Value) (hw : ∀ d ∈ tables_1, d.before a0 Z = true) (ws : List Jvm.Cond) (w : Int32) (h0 : Heap) (n0 : Nat) (Z0 : n0 ≤ h0.size) : OMet l Z ws (⟨"com/example/benchwire/benchwire/astm/LinkChecksumPinLaw", "term", "(IIII)I"⟩ : MethodName) method_3_code 4 (some .int) R6 #[(.int w), (.int (0 : Int32)), (.int (1 : Int32)), (.int (2 : Int32))] h0 n0 (Q6 Z w h0) := by
  refine OMet.of (plainFor_of_name pn_0) (ef6 w) Z0 ?_
  intro p e s m below meth c T0 Y0 hnm
  have Y0 : Sd Z "com/example/benchwire/benchwire/astm/LinkChecksumPinLaw" method_3_code 4 (some .int) n0 p l e R6 s m #[(.int w), (.int (0 : Int32)), (.int (1 : Int32)), (.int (2 : Int32))] below meth c T0 h0 0 0 := Y0
  have nw := rng32 w
  refine Gl.iloadN Y0 rfl d_method_3_0 rfl ?_
  refine Gl.iloadN Y0 rfl d_method_3_1 rfl ?_
  refine Gl.icmpgt Y0 d_method_3_2 (by decide) rfl rfl (fun c2 => ?_) (fun c2 => ?_)
  rotate_left
  · exact absurd c2 (by decide)
  refine Gl.iconst Y0 (v := (0 : Int32)) (by decide) d_method_3_16 rfl ?_
  exact Gl.retI Y0 (by decide) (by decide)  d_method_3_17 ⟨(0 : Int32), rfl, (by first | omega | rfl), rfl⟩
def R7 : Room := { frames := 0, cells := 0, slots := 0, locals := 0 }
def Q7 (Z : State) (w : Int32) (h0 : Heap) (v : Option Value) (h : Heap) : Prop := ∃ r : Int32, v = some (.int r) ∧ (r.toInt = 0) ∧ h0 = h
theorem ef7 (w : Int32) (m : MethodId) : entryFrame m #[(.int w), (.int (0 : Int32)), (.int (1 : Int32)), (.int (3 : Int32))] 4 = mkF m 0 #[.val (.int w), .val (.int (0 : Int32)), .val (.int (1 : Int32)), .val (.int (3 : Int32))] [] := by first | (simp [entryFrame, mkF, argsToLocals, Value.category]; done) | rfl
set_option maxRecDepth 65536 in
set_option maxHeartbeats 40000000 in
theorem rm7 (l : Launch) (Z : State) (a0 : Array Value) (hw : ∀ d ∈ tables_1, d.before a0 Z = true) (ws : List Jvm.Cond) (w : Int32) (h0 : Heap) (n0 : Nat) (Z0 : n0 ≤ h0.size) : OMet l Z ws (⟨"com/example/benchwire/benchwire/astm/LinkChecksumPinLaw", "term", "(IIII)I"⟩ : MethodName) method_3_code 4 (some .int) R7 #[(.int w), (.int (0 : Int32)), (.int (1 : Int32)), (.int (3 : Int32))] h0 n0 (Q7 Z w h0) := by
  refine OMet.of (plainFor_of_name pn_0) (ef7 w) Z0 ?_
  intro p e s m below meth c T0 Y0 hnm
  have Y0 : Sd Z "com/example/benchwire/benchwire/astm/LinkChecksumPinLaw" method_3_code 4 (some .int) n0 p l e R7 s m #[(.int w), (.int (0 : Int32)), (.int (1 : Int32)), (.int (3 : Int32))] below meth c T0 h0 0 0 := Y0
  have nw := rng32 w
  refine Gl.iloadN Y0 rfl d_method_3_0 rfl ?_
  refine Gl.iloadN Y0 rfl d_method_3_1 rfl ?_
  refine Gl.icmpgt Y0 d_method_3_2 (by decide) rfl rfl (fun c2 => ?_) (fun c2 => ?_)
  rotate_left
  · exact absurd c2 (by decide)
  refine Gl.iconst Y0 (v := (0 : Int32)) (by decide) d_method_3_16 rfl ?_
  exact Gl.retI Y0 (by decide) (by decide)  d_method_3_17 ⟨(0 : Int32), rfl, (by first | omega | rfl), rfl⟩
def R8 : Room := { frames := 0, cells := 0, slots := 0, locals := 0 }
def Q8 (Z : State) (w : Int32) (h0 : Heap) (v : Option Value) (h : Heap) : Prop := ∃ r : Int32, v = some (.int r) ∧ (r.toInt = 0) ∧ h0 = h
theorem ef8 (w : Int32) (m : MethodId) : entryFrame m #[(.int w), (.int (0 : Int32)), (.int (1 : Int32)), (.int (4 : Int32))] 4 = mkF m 0 #[.val (.int w), .val (.int (0 : Int32)), .val (.int (1 : Int32)), .val (.int (4 : Int32))] [] := by first | (simp [entryFrame, mkF, argsToLocals, Value.category]; done) | rfl
set_option maxRecDepth 65536 in
set_option maxHeartbeats 40000000 in
theorem rm8 (l : Launch) (Z : State) (a0 : Array Value) (hw : ∀ d ∈ tables_1, d.before a0 Z = true) (ws : List Jvm.Cond) (w : Int32) (h0 : Heap) (n0 : Nat) (Z0 : n0 ≤ h0.size) : OMet l Z ws (⟨"com/example/benchwire/benchwire/astm/LinkChecksumPinLaw", "term", "(IIII)I"⟩ : MethodName) method_3_code 4 (some .int) R8 #[(.int w), (.int (0 : Int32)), (.int (1 : Int32)), (.int (4 : Int32))] h0 n0 (Q8 Z w h0) := by
  refine OMet.of (plainFor_of_name pn_0) (ef8 w) Z0 ?_
  intro p e s m below meth c T0 Y0 hnm
  have Y0 : Sd Z "com/example/benchwire/benchwire/astm/LinkChecksumPinLaw" method_3_code 4 (some .int) n0 p l e R8 s m #[(.int w), (.int (0 : Int32)), (.int (1 : Int32)), (.int (4 : Int32))] below meth c T0 h0 0 0 := Y0
  have nw := rng32 w
  refine Gl.iloadN Y0 rfl d_method_3_0 rfl ?_
  refine Gl.iloadN Y0 rfl d_method_3_1 rfl ?_
  refine Gl.icmpgt Y0 d_method_3_2 (by decide) rfl rfl (fun c2 => ?_) (fun c2 => ?_)
  rotate_left
  · exact absurd c2 (by decide)
  refine Gl.iconst Y0 (v := (0 : Int32)) (by decide) d_method_3_16 rfl ?_
  exact Gl.retI Y0 (by decide) (by decide)  d_method_3_17 ⟨(0 : Int32), rfl, (by first | omega | rfl), rfl⟩
def R9 : Room := { frames := 0, cells := 0, slots := 0, locals := 0 }
def Q9 (Z : State) (w : Int32) (h0 : Heap) (v : Option Value) (h : Heap) : Prop := ∃ r : Int32, v = some (.int r) ∧ (r.toInt = 0) ∧ h0 = h
theorem ef9 (w : Int32) (m : MethodId) : entryFrame m #[(.int w), (.int (0 : Int32)), (.int (2 : Int32)), (.int (2 : Int32))] 4 = mkF m 0 #[.val (.int w), .val (.int (0 : Int32)), .val (.int (2 : Int32)), .val (.int (2 : Int32))] [] := by first | (simp [entryFrame, mkF, argsToLocals, Value.category]; done) | rfl
set_option maxRecDepth 65536 in
set_option maxHeartbeats 40000000 in
theorem rm9 (l : Launch) (Z : State) (a0 : Array Value) (hw : ∀ d ∈ tables_1, d.before a0 Z = true) (ws : List Jvm.Cond) (w : Int32) (h0 : Heap) (n0 : Nat) (Z0 : n0 ≤ h0.size) : OMet l Z ws (⟨"com/example/benchwire/benchwire/astm/LinkChecksumPinLaw", "term", "(IIII)I"⟩ : MethodName) method_3_code 4 (some .int) R9 #[(.int w), (.int (0 : Int32)), (.int (2 : Int32)), (.int (2 : Int32))] h0 n0 (Q9 Z w h0) := by
  refine OMet.of (plainFor_of_name pn_0) (ef9 w) Z0 ?_
  intro p e s m below meth c T0 Y0 hnm
  have Y0 : Sd Z "com/example/benchwire/benchwire/astm/LinkChecksumPinLaw" method_3_code 4 (some .int) n0 p l e R9 s m #[(.int w), (.int (0 : Int32)), (.int (2 : Int32)), (.int (2 : Int32))] below meth c T0 h0 0 0 := Y0
  have nw := rng32 w
  refine Gl.iloadN Y0 rfl d_method_3_0 rfl ?_
  refine Gl.iloadN Y0 rfl d_method_3_1 rfl ?_
  refine Gl.icmpgt Y0 d_method_3_2 (by decide) rfl rfl (fun c2 => ?_) (fun c2 => ?_)
  rotate_left
  · exact absurd c2 (by decide)
  refine Gl.iconst Y0 (v := (0 : Int32)) (by decide) d_method_3_16 rfl ?_
  exact Gl.retI Y0 (by decide) (by decide)  d_method_3_17 ⟨(0 : Int32), rfl, (by first | omega | rfl), rfl⟩
def R10 : Room := { frames := 0, cells := 0, slots := 0, locals := 0 }
def Q10 (Z : State) (w : Int32) (h0 : Heap) (v : Option Value) (h : Heap) : Prop := ∃ r : Int32, v = some (.int r) ∧ (r.toInt = 0) ∧ h0 = h
theorem ef10 (w : Int32) (m : MethodId) : entryFrame m #[(.int w), (.int (0 : Int32)), (.int (2 : Int32)), (.int (3 : Int32))] 4 = mkF m 0 #[.val (.int w), .val (.int (0 : Int32)), .val (.int (2 : Int32)), .val (.int (3 : Int32))] [] := by first | (simp [entryFrame, mkF, argsToLocals, Value.category]; done) | rfl
set_option maxRecDepth 65536 in
set_option maxHeartbeats 40000000 in
theorem rm10 (l : Launch) (Z : State) (a0 : Array Value) (hw : ∀ d ∈ tables_1, d.before a0 Z = true) (ws : List Jvm.Cond) (w : Int32) (h0 : Heap) (n0 : Nat) (Z0 : n0 ≤ h0.size) : OMet l Z ws (⟨"com/example/benchwire/benchwire/astm/LinkChecksumPinLaw", "term", "(IIII)I"⟩ : MethodName) method_3_code 4 (some .int) R10 #[(.int w), (.int (0 : Int32)), (.int (2 : Int32)), (.int (3 : Int32))] h0 n0 (Q10 Z w h0) := by
  refine OMet.of (plainFor_of_name pn_0) (ef10 w) Z0 ?_
  intro p e s m below meth c T0 Y0 hnm
  have Y0 : Sd Z "com/example/benchwire/benchwire/astm/LinkChecksumPinLaw" method_3_code 4 (some .int) n0 p l e R10 s m #[(.int w), (.int (0 : Int32)), (.int (2 : Int32)), (.int (3 : Int32))] below meth c T0 h0 0 0 := Y0
  have nw := rng32 w
  refine Gl.iloadN Y0 rfl d_method_3_0 rfl ?_
  refine Gl.iloadN Y0 rfl d_method_3_1 rfl ?_
  refine Gl.icmpgt Y0 d_method_3_2 (by decide) rfl rfl (fun c2 => ?_) (fun c2 => ?_)
  rotate_left
  · exact absurd c2 (by decide)
  refine Gl.iconst Y0 (v := (0 : Int32)) (by decide) d_method_3_16 rfl ?_
  exact Gl.retI Y0 (by decide) (by decide)  d_method_3_17 ⟨(0 : Int32), rfl, (by first | omega | rfl), rfl⟩
def R11 : Room := { frames := 0, cells := 0, slots := 0, locals := 0 }
def Q11 (Z : State) (w : Int32) (h0 : Heap) (v : Option Value) (h : Heap) : Prop := ∃ r : Int32, v = some (.int r) ∧ (r.toInt = 0) ∧ h0 = h
theorem ef11 (w : Int32) (m : MethodId) : entryFrame m #[(.int w), (.int (0 : Int32)), (.int (2 : Int32)), (.int (4 : Int32))] 4 = mkF m 0 #[.val (.int w), .val (.int (0 : Int32)), .val (.int (2 : Int32)), .val (.int (4 : Int32))] [] := by first | (simp [entryFrame, mkF, argsToLocals, Value.category]; done) | rfl
set_option maxRecDepth 65536 in
set_option maxHeartbeats 40000000 in
theorem rm11 (l : Launch) (Z : State) (a0 : Array Value) (hw : ∀ d ∈ tables_1, d.before a0 Z = true) (ws : List Jvm.Cond) (w : Int32) (h0 : Heap) (n0 : Nat) (Z0 : n0 ≤ h0.size) : OMet l Z ws (⟨"com/example/benchwire/benchwire/astm/LinkChecksumPinLaw", "term", "(IIII)I"⟩ : MethodName) method_3_code 4 (some .int) R11 #[(.int w), (.int (0 : Int32)), (.int (2 : Int32)), (.int (4 : Int32))] h0 n0 (Q11 Z w h0) := by
  refine OMet.of (plainFor_of_name pn_0) (ef11 w) Z0 ?_
  intro p e s m below meth c T0 Y0 hnm
  have Y0 : Sd Z "com/example/benchwire/benchwire/astm/LinkChecksumPinLaw" method_3_code 4 (some .int) n0 p l e R11 s m #[(.int w), (.int (0 : Int32)), (.int (2 : Int32)), (.int (4 : Int32))] below meth c T0 h0 0 0 := Y0
  have nw := rng32 w
  refine Gl.iloadN Y0 rfl d_method_3_0 rfl ?_
  refine Gl.iloadN Y0 rfl d_method_3_1 rfl ?_
  refine Gl.icmpgt Y0 d_method_3_2 (by decide) rfl rfl (fun c2 => ?_) (fun c2 => ?_)
  rotate_left
  · exact absurd c2 (by decide)
  refine Gl.iconst Y0 (v := (0 : Int32)) (by decide) d_method_3_16 rfl ?_
  exact Gl.retI Y0 (by decide) (by decide)  d_method_3_17 ⟨(0 : Int32), rfl, (by first | omega | rfl), rfl⟩
def R12 : Room := { frames := 0, cells := 0, slots := 0, locals := 0 }
def Q12 (Z : State) (w : Int32) (h0 : Heap) (v : Option Value) (h : Heap) : Prop := ∃ r : Int32, v = some (.int r) ∧ (r.toInt = 0) ∧ h0 = h
theorem ef12 (w : Int32) (m : MethodId) : entryFrame m #[(.int w), (.int (0 : Int32)), (.int (3 : Int32)), (.int (3 : Int32))] 4 = mkF m 0 #[.val (.int w), .val (.int (0 : Int32)), .val (.int (3 : Int32)), .val (.int (3 : Int32))] [] := by first | (simp [entryFrame, mkF, argsToLocals, Value.category]; done) | rfl
set_option maxRecDepth 65536 in
set_option maxHeartbeats 40000000 in
theorem rm12 (l : Launch) (Z : State) (a0 : Array Value) (hw : ∀ d ∈ tables_1, d.before a0 Z = true) (ws : List Jvm.Cond) (w : Int32) (h0 : Heap) (n0 : Nat) (Z0 : n0 ≤ h0.size) : OMet l Z ws (⟨"com/example/benchwire/benchwire/astm/LinkChecksumPinLaw", "term", "(IIII)I"⟩ : MethodName) method_3_code 4 (some .int) R12 #[(.int w), (.int (0 : Int32)), (.int (3 : Int32)), (.int (3 : Int32))] h0 n0 (Q12 Z w h0) := by
  refine OMet.of (plainFor_of_name pn_0) (ef12 w) Z0 ?_
  intro p e s m below meth c T0 Y0 hnm
  have Y0 : Sd Z "com/example/benchwire/benchwire/astm/LinkChecksumPinLaw" method_3_code 4 (some .int) n0 p l e R12 s m #[(.int w), (.int (0 : Int32)), (.int (3 : Int32)), (.int (3 : Int32))] below meth c T0 h0 0 0 := Y0
  have nw := rng32 w
  refine Gl.iloadN Y0 rfl d_method_3_0 rfl ?_
  refine Gl.iloadN Y0 rfl d_method_3_1 rfl ?_
  refine Gl.icmpgt Y0 d_method_3_2 (by decide) rfl rfl (fun c2 => ?_) (fun c2 => ?_)
  rotate_left
  · exact absurd c2 (by decide)
  refine Gl.iconst Y0 (v := (0 : Int32)) (by decide) d_method_3_16 rfl ?_
  exact Gl.retI Y0 (by decide) (by decide)  d_method_3_17 ⟨(0 : Int32), rfl, (by first | omega | rfl), rfl⟩
def R13 : Room := { frames := 0, cells := 0, slots := 0, locals := 0 }
def Q13 (Z : State) (w : Int32) (h0 : Heap) (v : Option Value) (h : Heap) : Prop := ∃ r : Int32, v = some (.int r) ∧ (r.toInt = 0) ∧ h0 = h
theorem ef13 (w : Int32) (m : MethodId) : entryFrame m #[(.int w), (.int (0 : Int32)), (.int (3 : Int32)), (.int (4 : Int32))] 4 = mkF m 0 #[.val (.int w), .val (.int (0 : Int32)), .val (.int (3 : Int32)), .val (.int (4 : Int32))] [] := by first | (simp [entryFrame, mkF, argsToLocals, Value.category]; done) | rfl
set_option maxRecDepth 65536 in
set_option maxHeartbeats 40000000 in
theorem rm13 (l : Launch) (Z : State) (a0 : Array Value) (hw : ∀ d ∈ tables_1, d.before a0 Z = true) (ws : List Jvm.Cond) (w : Int32) (h0 : Heap) (n0 : Nat) (Z0 : n0 ≤ h0.size) : OMet l Z ws (⟨"com/example/benchwire/benchwire/astm/LinkChecksumPinLaw", "term", "(IIII)I"⟩ : MethodName) method_3_code 4 (some .int) R13 #[(.int w), (.int (0 : Int32)), (.int (3 : Int32)), (.int (4 : Int32))] h0 n0 (Q13 Z w h0) := by
  refine OMet.of (plainFor_of_name pn_0) (ef13 w) Z0 ?_
  intro p e s m below meth c T0 Y0 hnm
  have Y0 : Sd Z "com/example/benchwire/benchwire/astm/LinkChecksumPinLaw" method_3_code 4 (some .int) n0 p l e R13 s m #[(.int w), (.int (0 : Int32)), (.int (3 : Int32)), (.int (4 : Int32))] below meth c T0 h0 0 0 := Y0
  have nw := rng32 w
  refine Gl.iloadN Y0 rfl d_method_3_0 rfl ?_
  refine Gl.iloadN Y0 rfl d_method_3_1 rfl ?_
  refine Gl.icmpgt Y0 d_method_3_2 (by decide) rfl rfl (fun c2 => ?_) (fun c2 => ?_)
  rotate_left
  · exact absurd c2 (by decide)
  refine Gl.iconst Y0 (v := (0 : Int32)) (by decide) d_method_3_16 rfl ?_
  exact Gl.retI Y0 (by decide) (by decide)  d_method_3_17 ⟨(0 : Int32), rfl, (by first | omega | rfl), rfl⟩
def R14 : Room := { frames := 0, cells := 0, slots := 0, locals := 0 }
def Q14 (Z : State) (w : Int32) (h0 : Heap) (v : Option Value) (h : Heap) : Prop := ∃ r : Int32, v = some (.int r) ∧ (r.toInt = 0) ∧ h0 = h
theorem ef14 (w : Int32) (m : MethodId) : entryFrame m #[(.int w), (.int (0 : Int32)), (.int (4 : Int32)), (.int (4 : Int32))] 4 = mkF m 0 #[.val (.int w), .val (.int (0 : Int32)), .val (.int (4 : Int32)), .val (.int (4 : Int32))] [] := by first | (simp [entryFrame, mkF, argsToLocals, Value.category]; done) | rfl
set_option maxRecDepth 65536 in
set_option maxHeartbeats 40000000 in
theorem rm14 (l : Launch) (Z : State) (a0 : Array Value) (hw : ∀ d ∈ tables_1, d.before a0 Z = true) (ws : List Jvm.Cond) (w : Int32) (h0 : Heap) (n0 : Nat) (Z0 : n0 ≤ h0.size) : OMet l Z ws (⟨"com/example/benchwire/benchwire/astm/LinkChecksumPinLaw", "term", "(IIII)I"⟩ : MethodName) method_3_code 4 (some .int) R14 #[(.int w), (.int (0 : Int32)), (.int (4 : Int32)), (.int (4 : Int32))] h0 n0 (Q14 Z w h0) := by
  refine OMet.of (plainFor_of_name pn_0) (ef14 w) Z0 ?_
  intro p e s m below meth c T0 Y0 hnm
  have Y0 : Sd Z "com/example/benchwire/benchwire/astm/LinkChecksumPinLaw" method_3_code 4 (some .int) n0 p l e R14 s m #[(.int w), (.int (0 : Int32)), (.int (4 : Int32)), (.int (4 : Int32))] below meth c T0 h0 0 0 := Y0
  have nw := rng32 w
  refine Gl.iloadN Y0 rfl d_method_3_0 rfl ?_
  refine Gl.iloadN Y0 rfl d_method_3_1 rfl ?_
  refine Gl.icmpgt Y0 d_method_3_2 (by decide) rfl rfl (fun c2 => ?_) (fun c2 => ?_)
  rotate_left
  · exact absurd c2 (by decide)
  refine Gl.iconst Y0 (v := (0 : Int32)) (by decide) d_method_3_16 rfl ?_
  exact Gl.retI Y0 (by decide) (by decide)  d_method_3_17 ⟨(0 : Int32), rfl, (by first | omega | rfl), rfl⟩
def R15 : Room := { frames := 0, cells := 0, slots := 0, locals := 0 }
def Q15 (Z : State) (w : Int32) (h0 : Heap) (v : Option Value) (h : Heap) : Prop := ∃ r : Int32, v = some (.int r) ∧ (r.toInt = 0) ∧ h0 = h
theorem ef15 (w : Int32) (m : MethodId) : entryFrame m #[(.int w), (.int (1 : Int32)), (.int (0 : Int32)), (.int (0 : Int32))] 4 = mkF m 0 #[.val (.int w), .val (.int (1 : Int32)), .val (.int (0 : Int32)), .val (.int (0 : Int32))] [] := by first | (simp [entryFrame, mkF, argsToLocals, Value.category]; done) | rfl
set_option maxRecDepth 65536 in
set_option maxHeartbeats 40000000 in
theorem rm15 (l : Launch) (Z : State) (a0 : Array Value) (hw : ∀ d ∈ tables_1, d.before a0 Z = true) (ws : List Jvm.Cond) (w : Int32) (h0 : Heap) (n0 : Nat) (Z0 : n0 ≤ h0.size) : OMet l Z ws (⟨"com/example/benchwire/benchwire/astm/LinkChecksumPinLaw", "term", "(IIII)I"⟩ : MethodName) method_3_code 4 (some .int) R15 #[(.int w), (.int (1 : Int32)), (.int (0 : Int32)), (.int (0 : Int32))] h0 n0 (Q15 Z w h0) := by
  refine OMet.of (plainFor_of_name pn_0) (ef15 w) Z0 ?_
  intro p e s m below meth c T0 Y0 hnm
  have Y0 : Sd Z "com/example/benchwire/benchwire/astm/LinkChecksumPinLaw" method_3_code 4 (some .int) n0 p l e R15 s m #[(.int w), (.int (1 : Int32)), (.int (0 : Int32)), (.int (0 : Int32))] below meth c T0 h0 0 0 := Y0
  have nw := rng32 w
  refine Gl.iloadN Y0 rfl d_method_3_0 rfl ?_
  refine Gl.iloadN Y0 rfl d_method_3_1 rfl ?_
  refine Gl.icmpgt Y0 d_method_3_2 (by decide) rfl rfl (fun c2 => ?_) (fun c2 => ?_)
  · exact absurd c2 (by decide)
  refine Gl.iloadN Y0 rfl d_method_3_5 rfl ?_
  refine Gl.iloadN Y0 rfl d_method_3_6 rfl ?_
  refine Gl.icmpge Y0 d_method_3_7 (by decide) rfl rfl (fun c7 => ?_) (fun c7 => ?_)
  rotate_left
  · exact absurd c7 (by decide)
  refine Gl.iconst Y0 (v := (0 : Int32)) (by decide) d_method_3_16 rfl ?_
  exact Gl.retI Y0 (by decide) (by decide)  d_method_3_17 ⟨(0 : Int32), rfl, (by first | omega | rfl), rfl⟩
def R16 : Room := { frames := 0, cells := 0, slots := 0, locals := 0 }
def Q16 (Z : State) (w : Int32) (h0 : Heap) (v : Option Value) (h : Heap) : Prop := ∃ r : Int32, v = some (.int r) ∧ (r.toInt = 0) ∧ h0 = h
theorem ef16 (w : Int32) (m : MethodId) : entryFrame m #[(.int w), (.int (1 : Int32)), (.int (0 : Int32)), (.int (1 : Int32))] 4 = mkF m 0 #[.val (.int w), .val (.int (1 : Int32)), .val (.int (0 : Int32)), .val (.int (1 : Int32))] [] := by first | (simp [entryFrame, mkF, argsToLocals, Value.category]; done) | rfl
set_option maxRecDepth 65536 in
set_option maxHeartbeats 40000000 in
theorem rm16 (l : Launch) (Z : State) (a0 : Array Value) (hw : ∀ d ∈ tables_1, d.before a0 Z = true) (ws : List Jvm.Cond) (w : Int32) (h0 : Heap) (n0 : Nat) (Z0 : n0 ≤ h0.size) : OMet l Z ws (⟨"com/example/benchwire/benchwire/astm/LinkChecksumPinLaw", "term", "(IIII)I"⟩ : MethodName) method_3_code 4 (some .int) R16 #[(.int w), (.int (1 : Int32)), (.int (0 : Int32)), (.int (1 : Int32))] h0 n0 (Q16 Z w h0) := by
  refine OMet.of (plainFor_of_name pn_0) (ef16 w) Z0 ?_
  intro p e s m below meth c T0 Y0 hnm
  have Y0 : Sd Z "com/example/benchwire/benchwire/astm/LinkChecksumPinLaw" method_3_code 4 (some .int) n0 p l e R16 s m #[(.int w), (.int (1 : Int32)), (.int (0 : Int32)), (.int (1 : Int32))] below meth c T0 h0 0 0 := Y0
  have nw := rng32 w
  refine Gl.iloadN Y0 rfl d_method_3_0 rfl ?_
  refine Gl.iloadN Y0 rfl d_method_3_1 rfl ?_
  refine Gl.icmpgt Y0 d_method_3_2 (by decide) rfl rfl (fun c2 => ?_) (fun c2 => ?_)
  · exact absurd c2 (by decide)
  refine Gl.iloadN Y0 rfl d_method_3_5 rfl ?_
  refine Gl.iloadN Y0 rfl d_method_3_6 rfl ?_
  refine Gl.icmpge Y0 d_method_3_7 (by decide) rfl rfl (fun c7 => ?_) (fun c7 => ?_)
  rotate_left
  · exact absurd c7 (by decide)
  refine Gl.iconst Y0 (v := (0 : Int32)) (by decide) d_method_3_16 rfl ?_
  exact Gl.retI Y0 (by decide) (by decide)  d_method_3_17 ⟨(0 : Int32), rfl, (by first | omega | rfl), rfl⟩
def R17 : Room := { frames := 0, cells := 0, slots := 0, locals := 0 }
def Q17 (Z : State) (w : Int32) (h0 : Heap) (v : Option Value) (h : Heap) : Prop := ∃ r : Int32, v = some (.int r) ∧ (r.toInt = w.toInt % 256) ∧ h0 = h
theorem ef17 (w : Int32) (m : MethodId) : entryFrame m #[(.int w), (.int (1 : Int32)), (.int (0 : Int32)), (.int (2 : Int32))] 4 = mkF m 0 #[.val (.int w), .val (.int (1 : Int32)), .val (.int (0 : Int32)), .val (.int (2 : Int32))] [] := by first | (simp [entryFrame, mkF, argsToLocals, Value.category]; done) | rfl
set_option maxRecDepth 65536 in
set_option maxHeartbeats 40000000 in
theorem rm17 (l : Launch) (Z : State) (a0 : Array Value) (hw : ∀ d ∈ tables_1, d.before a0 Z = true) (ws : List Jvm.Cond) (w : Int32) (h0 : Heap) (n0 : Nat) (Z0 : n0 ≤ h0.size) : OMet l Z ws (⟨"com/example/benchwire/benchwire/astm/LinkChecksumPinLaw", "term", "(IIII)I"⟩ : MethodName) method_3_code 4 (some .int) R17 #[(.int w), (.int (1 : Int32)), (.int (0 : Int32)), (.int (2 : Int32))] h0 n0 (Q17 Z w h0) := by
  refine OMet.of (plainFor_of_name pn_0) (ef17 w) Z0 ?_
  intro p e s m below meth c T0 Y0 hnm
  have Y0 : Sd Z "com/example/benchwire/benchwire/astm/LinkChecksumPinLaw" method_3_code 4 (some .int) n0 p l e R17 s m #[(.int w), (.int (1 : Int32)), (.int (0 : Int32)), (.int (2 : Int32))] below meth c T0 h0 0 0 := Y0
  have nw := rng32 w
  refine Gl.iloadN Y0 rfl d_method_3_0 rfl ?_
  refine Gl.iloadN Y0 rfl d_method_3_1 rfl ?_
  refine Gl.icmpgt Y0 d_method_3_2 (by decide) rfl rfl (fun c2 => ?_) (fun c2 => ?_)
  · exact absurd c2 (by decide)
  refine Gl.iloadN Y0 rfl d_method_3_5 rfl ?_
  refine Gl.iloadN Y0 rfl d_method_3_6 rfl ?_
  refine Gl.icmpge Y0 d_method_3_7 (by decide) rfl rfl (fun c7 => ?_) (fun c7 => ?_)
  · exact absurd c7 (by decide)
  refine Gl.iloadN Y0 rfl d_method_3_10 rfl ?_
  refine Gl.sipush Y0 (v := (255 : Int32)) (by decide) d_method_3_11 rfl ?_
  obtain ⟨v14, hv14⟩ : ∃ z : Int32, w &&& (255 : Int32) = z := ⟨_, rfl⟩
  have iv14 : v14.toInt = w.toInt % 256 := by have q := c_mask w (255 : Int32) 8 (by decide) (by decide); rw [hv14] at q; exact q
  refine Gl.iand Y0 hv14 d_method_3_14 rfl ?_
  exact Gl.retI Y0 (by decide) (by decide)  d_method_3_15 ⟨v14, rfl, (by first | omega | rfl), rfl⟩
def R18 : Room := { frames := 0, cells := 0, slots := 0, locals := 0 }
def Q18 (Z : State) (w : Int32) (h0 : Heap) (v : Option Value) (h : Heap) : Prop := ∃ r : Int32, v = some (.int r) ∧ (r.toInt = w.toInt % 256) ∧ h0 = h
theorem ef18 (w : Int32) (m : MethodId) : entryFrame m #[(.int w), (.int (1 : Int32)), (.int (0 : Int32)), (.int (3 : Int32))] 4 = mkF m 0 #[.val (.int w), .val (.int (1 : Int32)), .val (.int (0 : Int32)), .val (.int (3 : Int32))] [] := by first | (simp [entryFrame, mkF, argsToLocals, Value.category]; done) | rfl
set_option maxRecDepth 65536 in
set_option maxHeartbeats 40000000 in
theorem rm18 (l : Launch) (Z : State) (a0 : Array Value) (hw : ∀ d ∈ tables_1, d.before a0 Z = true) (ws : List Jvm.Cond) (w : Int32) (h0 : Heap) (n0 : Nat) (Z0 : n0 ≤ h0.size) : OMet l Z ws (⟨"com/example/benchwire/benchwire/astm/LinkChecksumPinLaw", "term", "(IIII)I"⟩ : MethodName) method_3_code 4 (some .int) R18 #[(.int w), (.int (1 : Int32)), (.int (0 : Int32)), (.int (3 : Int32))] h0 n0 (Q18 Z w h0) := by
  refine OMet.of (plainFor_of_name pn_0) (ef18 w) Z0 ?_
  intro p e s m below meth c T0 Y0 hnm
  have Y0 : Sd Z "com/example/benchwire/benchwire/astm/LinkChecksumPinLaw" method_3_code 4 (some .int) n0 p l e R18 s m #[(.int w), (.int (1 : Int32)), (.int (0 : Int32)), (.int (3 : Int32))] below meth c T0 h0 0 0 := Y0
  have nw := rng32 w
  refine Gl.iloadN Y0 rfl d_method_3_0 rfl ?_
  refine Gl.iloadN Y0 rfl d_method_3_1 rfl ?_
  refine Gl.icmpgt Y0 d_method_3_2 (by decide) rfl rfl (fun c2 => ?_) (fun c2 => ?_)
  · exact absurd c2 (by decide)
  refine Gl.iloadN Y0 rfl d_method_3_5 rfl ?_
  refine Gl.iloadN Y0 rfl d_method_3_6 rfl ?_
  refine Gl.icmpge Y0 d_method_3_7 (by decide) rfl rfl (fun c7 => ?_) (fun c7 => ?_)
  · exact absurd c7 (by decide)
  refine Gl.iloadN Y0 rfl d_method_3_10 rfl ?_
  refine Gl.sipush Y0 (v := (255 : Int32)) (by decide) d_method_3_11 rfl ?_
  obtain ⟨v14, hv14⟩ : ∃ z : Int32, w &&& (255 : Int32) = z := ⟨_, rfl⟩
  have iv14 : v14.toInt = w.toInt % 256 := by have q := c_mask w (255 : Int32) 8 (by decide) (by decide); rw [hv14] at q; exact q
  refine Gl.iand Y0 hv14 d_method_3_14 rfl ?_
  exact Gl.retI Y0 (by decide) (by decide)  d_method_3_15 ⟨v14, rfl, (by first | omega | rfl), rfl⟩
def R19 : Room := { frames := 0, cells := 0, slots := 0, locals := 0 }
def Q19 (Z : State) (w : Int32) (h0 : Heap) (v : Option Value) (h : Heap) : Prop := ∃ r : Int32, v = some (.int r) ∧ (r.toInt = w.toInt % 256) ∧ h0 = h
theorem ef19 (w : Int32) (m : MethodId) : entryFrame m #[(.int w), (.int (1 : Int32)), (.int (0 : Int32)), (.int (4 : Int32))] 4 = mkF m 0 #[.val (.int w), .val (.int (1 : Int32)), .val (.int (0 : Int32)), .val (.int (4 : Int32))] [] := by first | (simp [entryFrame, mkF, argsToLocals, Value.category]; done) | rfl
set_option maxRecDepth 65536 in
set_option maxHeartbeats 40000000 in
theorem rm19 (l : Launch) (Z : State) (a0 : Array Value) (hw : ∀ d ∈ tables_1, d.before a0 Z = true) (ws : List Jvm.Cond) (w : Int32) (h0 : Heap) (n0 : Nat) (Z0 : n0 ≤ h0.size) : OMet l Z ws (⟨"com/example/benchwire/benchwire/astm/LinkChecksumPinLaw", "term", "(IIII)I"⟩ : MethodName) method_3_code 4 (some .int) R19 #[(.int w), (.int (1 : Int32)), (.int (0 : Int32)), (.int (4 : Int32))] h0 n0 (Q19 Z w h0) := by
  refine OMet.of (plainFor_of_name pn_0) (ef19 w) Z0 ?_
  intro p e s m below meth c T0 Y0 hnm
  have Y0 : Sd Z "com/example/benchwire/benchwire/astm/LinkChecksumPinLaw" method_3_code 4 (some .int) n0 p l e R19 s m #[(.int w), (.int (1 : Int32)), (.int (0 : Int32)), (.int (4 : Int32))] below meth c T0 h0 0 0 := Y0
  have nw := rng32 w
  refine Gl.iloadN Y0 rfl d_method_3_0 rfl ?_
  refine Gl.iloadN Y0 rfl d_method_3_1 rfl ?_
  refine Gl.icmpgt Y0 d_method_3_2 (by decide) rfl rfl (fun c2 => ?_) (fun c2 => ?_)
  · exact absurd c2 (by decide)
  refine Gl.iloadN Y0 rfl d_method_3_5 rfl ?_
  refine Gl.iloadN Y0 rfl d_method_3_6 rfl ?_
  refine Gl.icmpge Y0 d_method_3_7 (by decide) rfl rfl (fun c7 => ?_) (fun c7 => ?_)
  · exact absurd c7 (by decide)
  refine Gl.iloadN Y0 rfl d_method_3_10 rfl ?_
  refine Gl.sipush Y0 (v := (255 : Int32)) (by decide) d_method_3_11 rfl ?_
  obtain ⟨v14, hv14⟩ : ∃ z : Int32, w &&& (255 : Int32) = z := ⟨_, rfl⟩
  have iv14 : v14.toInt = w.toInt % 256 := by have q := c_mask w (255 : Int32) 8 (by decide) (by decide); rw [hv14] at q; exact q
  refine Gl.iand Y0 hv14 d_method_3_14 rfl ?_
  exact Gl.retI Y0 (by decide) (by decide)  d_method_3_15 ⟨v14, rfl, (by first | omega | rfl), rfl⟩
def R20 : Room := { frames := 0, cells := 0, slots := 0, locals := 0 }
def Q20 (Z : State) (w : Int32) (h0 : Heap) (v : Option Value) (h : Heap) : Prop := ∃ r : Int32, v = some (.int r) ∧ (r.toInt = 0) ∧ h0 = h
theorem ef20 (w : Int32) (m : MethodId) : entryFrame m #[(.int w), (.int (1 : Int32)), (.int (1 : Int32)), (.int (1 : Int32))] 4 = mkF m 0 #[.val (.int w), .val (.int (1 : Int32)), .val (.int (1 : Int32)), .val (.int (1 : Int32))] [] := by first | (simp [entryFrame, mkF, argsToLocals, Value.category]; done) | rfl
set_option maxRecDepth 65536 in
set_option maxHeartbeats 40000000 in
theorem rm20 (l : Launch) (Z : State) (a0 : Array Value) (hw : ∀ d ∈ tables_1, d.before a0 Z = true) (ws : List Jvm.Cond) (w : Int32) (h0 : Heap) (n0 : Nat) (Z0 : n0 ≤ h0.size) : OMet l Z ws (⟨"com/example/benchwire/benchwire/astm/LinkChecksumPinLaw", "term", "(IIII)I"⟩ : MethodName) method_3_code 4 (some .int) R20 #[(.int w), (.int (1 : Int32)), (.int (1 : Int32)), (.int (1 : Int32))] h0 n0 (Q20 Z w h0) := by
  refine OMet.of (plainFor_of_name pn_0) (ef20 w) Z0 ?_
  intro p e s m below meth c T0 Y0 hnm
  have Y0 : Sd Z "com/example/benchwire/benchwire/astm/LinkChecksumPinLaw" method_3_code 4 (some .int) n0 p l e R20 s m #[(.int w), (.int (1 : Int32)), (.int (1 : Int32)), (.int (1 : Int32))] below meth c T0 h0 0 0 := Y0
  have nw := rng32 w
  refine Gl.iloadN Y0 rfl d_method_3_0 rfl ?_
  refine Gl.iloadN Y0 rfl d_method_3_1 rfl ?_
  refine Gl.icmpgt Y0 d_method_3_2 (by decide) rfl rfl (fun c2 => ?_) (fun c2 => ?_)
  · exact absurd c2 (by decide)
  refine Gl.iloadN Y0 rfl d_method_3_5 rfl ?_
  refine Gl.iloadN Y0 rfl d_method_3_6 rfl ?_
  refine Gl.icmpge Y0 d_method_3_7 (by decide) rfl rfl (fun c7 => ?_) (fun c7 => ?_)
  rotate_left
  · exact absurd c7 (by decide)
  refine Gl.iconst Y0 (v := (0 : Int32)) (by decide) d_method_3_16 rfl ?_
  exact Gl.retI Y0 (by decide) (by decide)  d_method_3_17 ⟨(0 : Int32), rfl, (by first | omega | rfl), rfl⟩
def R21 : Room := { frames := 0, cells := 0, slots := 0, locals := 0 }
def Q21 (Z : State) (w : Int32) (h0 : Heap) (v : Option Value) (h : Heap) : Prop := ∃ r : Int32, v = some (.int r) ∧ (r.toInt = w.toInt % 256) ∧ h0 = h
theorem ef21 (w : Int32) (m : MethodId) : entryFrame m #[(.int w), (.int (1 : Int32)), (.int (1 : Int32)), (.int (2 : Int32))] 4 = mkF m 0 #[.val (.int w), .val (.int (1 : Int32)), .val (.int (1 : Int32)), .val (.int (2 : Int32))] [] := by first | (simp [entryFrame, mkF, argsToLocals, Value.category]; done) | rfl
set_option maxRecDepth 65536 in
set_option maxHeartbeats 40000000 in
theorem rm21 (l : Launch) (Z : State) (a0 : Array Value) (hw : ∀ d ∈ tables_1, d.before a0 Z = true) (ws : List Jvm.Cond) (w : Int32) (h0 : Heap) (n0 : Nat) (Z0 : n0 ≤ h0.size) : OMet l Z ws (⟨"com/example/benchwire/benchwire/astm/LinkChecksumPinLaw", "term", "(IIII)I"⟩ : MethodName) method_3_code 4 (some .int) R21 #[(.int w), (.int (1 : Int32)), (.int (1 : Int32)), (.int (2 : Int32))] h0 n0 (Q21 Z w h0) := by
  refine OMet.of (plainFor_of_name pn_0) (ef21 w) Z0 ?_
  intro p e s m below meth c T0 Y0 hnm
  have Y0 : Sd Z "com/example/benchwire/benchwire/astm/LinkChecksumPinLaw" method_3_code 4 (some .int) n0 p l e R21 s m #[(.int w), (.int (1 : Int32)), (.int (1 : Int32)), (.int (2 : Int32))] below meth c T0 h0 0 0 := Y0
  have nw := rng32 w
  refine Gl.iloadN Y0 rfl d_method_3_0 rfl ?_
  refine Gl.iloadN Y0 rfl d_method_3_1 rfl ?_
  refine Gl.icmpgt Y0 d_method_3_2 (by decide) rfl rfl (fun c2 => ?_) (fun c2 => ?_)
  · exact absurd c2 (by decide)
  refine Gl.iloadN Y0 rfl d_method_3_5 rfl ?_
  refine Gl.iloadN Y0 rfl d_method_3_6 rfl ?_
  refine Gl.icmpge Y0 d_method_3_7 (by decide) rfl rfl (fun c7 => ?_) (fun c7 => ?_)
  · exact absurd c7 (by decide)
  refine Gl.iloadN Y0 rfl d_method_3_10 rfl ?_
  refine Gl.sipush Y0 (v := (255 : Int32)) (by decide) d_method_3_11 rfl ?_
  obtain ⟨v14, hv14⟩ : ∃ z : Int32, w &&& (255 : Int32) = z := ⟨_, rfl⟩
  have iv14 : v14.toInt = w.toInt % 256 := by have q := c_mask w (255 : Int32) 8 (by decide) (by decide); rw [hv14] at q; exact q
  refine Gl.iand Y0 hv14 d_method_3_14 rfl ?_
  exact Gl.retI Y0 (by decide) (by decide)  d_method_3_15 ⟨v14, rfl, (by first | omega | rfl), rfl⟩
def R22 : Room := { frames := 0, cells := 0, slots := 0, locals := 0 }
def Q22 (Z : State) (w : Int32) (h0 : Heap) (v : Option Value) (h : Heap) : Prop := ∃ r : Int32, v = some (.int r) ∧ (r.toInt = w.toInt % 256) ∧ h0 = h
theorem ef22 (w : Int32) (m : MethodId) : entryFrame m #[(.int w), (.int (1 : Int32)), (.int (1 : Int32)), (.int (3 : Int32))] 4 = mkF m 0 #[.val (.int w), .val (.int (1 : Int32)), .val (.int (1 : Int32)), .val (.int (3 : Int32))] [] := by first | (simp [entryFrame, mkF, argsToLocals, Value.category]; done) | rfl
set_option maxRecDepth 65536 in
set_option maxHeartbeats 40000000 in
theorem rm22 (l : Launch) (Z : State) (a0 : Array Value) (hw : ∀ d ∈ tables_1, d.before a0 Z = true) (ws : List Jvm.Cond) (w : Int32) (h0 : Heap) (n0 : Nat) (Z0 : n0 ≤ h0.size) : OMet l Z ws (⟨"com/example/benchwire/benchwire/astm/LinkChecksumPinLaw", "term", "(IIII)I"⟩ : MethodName) method_3_code 4 (some .int) R22 #[(.int w), (.int (1 : Int32)), (.int (1 : Int32)), (.int (3 : Int32))] h0 n0 (Q22 Z w h0) := by
  refine OMet.of (plainFor_of_name pn_0) (ef22 w) Z0 ?_
  intro p e s m below meth c T0 Y0 hnm
  have Y0 : Sd Z "com/example/benchwire/benchwire/astm/LinkChecksumPinLaw" method_3_code 4 (some .int) n0 p l e R22 s m #[(.int w), (.int (1 : Int32)), (.int (1 : Int32)), (.int (3 : Int32))] below meth c T0 h0 0 0 := Y0
  have nw := rng32 w
  refine Gl.iloadN Y0 rfl d_method_3_0 rfl ?_
  refine Gl.iloadN Y0 rfl d_method_3_1 rfl ?_
  refine Gl.icmpgt Y0 d_method_3_2 (by decide) rfl rfl (fun c2 => ?_) (fun c2 => ?_)
  · exact absurd c2 (by decide)
  refine Gl.iloadN Y0 rfl d_method_3_5 rfl ?_
  refine Gl.iloadN Y0 rfl d_method_3_6 rfl ?_
  refine Gl.icmpge Y0 d_method_3_7 (by decide) rfl rfl (fun c7 => ?_) (fun c7 => ?_)
  · exact absurd c7 (by decide)
  refine Gl.iloadN Y0 rfl d_method_3_10 rfl ?_
  refine Gl.sipush Y0 (v := (255 : Int32)) (by decide) d_method_3_11 rfl ?_
  obtain ⟨v14, hv14⟩ : ∃ z : Int32, w &&& (255 : Int32) = z := ⟨_, rfl⟩
  have iv14 : v14.toInt = w.toInt % 256 := by have q := c_mask w (255 : Int32) 8 (by decide) (by decide); rw [hv14] at q; exact q
  refine Gl.iand Y0 hv14 d_method_3_14 rfl ?_
  exact Gl.retI Y0 (by decide) (by decide)  d_method_3_15 ⟨v14, rfl, (by first | omega | rfl), rfl⟩
def R23 : Room := { frames := 0, cells := 0, slots := 0, locals := 0 }
def Q23 (Z : State) (w : Int32) (h0 : Heap) (v : Option Value) (h : Heap) : Prop := ∃ r : Int32, v = some (.int r) ∧ (r.toInt = w.toInt % 256) ∧ h0 = h
theorem ef23 (w : Int32) (m : MethodId) : entryFrame m #[(.int w), (.int (1 : Int32)), (.int (1 : Int32)), (.int (4 : Int32))] 4 = mkF m 0 #[.val (.int w), .val (.int (1 : Int32)), .val (.int (1 : Int32)), .val (.int (4 : Int32))] [] := by first | (simp [entryFrame, mkF, argsToLocals, Value.category]; done) | rfl
set_option maxRecDepth 65536 in
set_option maxHeartbeats 40000000 in
theorem rm23 (l : Launch) (Z : State) (a0 : Array Value) (hw : ∀ d ∈ tables_1, d.before a0 Z = true) (ws : List Jvm.Cond) (w : Int32) (h0 : Heap) (n0 : Nat) (Z0 : n0 ≤ h0.size) : OMet l Z ws (⟨"com/example/benchwire/benchwire/astm/LinkChecksumPinLaw", "term", "(IIII)I"⟩ : MethodName) method_3_code 4 (some .int) R23 #[(.int w), (.int (1 : Int32)), (.int (1 : Int32)), (.int (4 : Int32))] h0 n0 (Q23 Z w h0) := by
  refine OMet.of (plainFor_of_name pn_0) (ef23 w) Z0 ?_
  intro p e s m below meth c T0 Y0 hnm
  have Y0 : Sd Z "com/example/benchwire/benchwire/astm/LinkChecksumPinLaw" method_3_code 4 (some .int) n0 p l e R23 s m #[(.int w), (.int (1 : Int32)), (.int (1 : Int32)), (.int (4 : Int32))] below meth c T0 h0 0 0 := Y0
  have nw := rng32 w
  refine Gl.iloadN Y0 rfl d_method_3_0 rfl ?_
  refine Gl.iloadN Y0 rfl d_method_3_1 rfl ?_
  refine Gl.icmpgt Y0 d_method_3_2 (by decide) rfl rfl (fun c2 => ?_) (fun c2 => ?_)
  · exact absurd c2 (by decide)
  refine Gl.iloadN Y0 rfl d_method_3_5 rfl ?_
  refine Gl.iloadN Y0 rfl d_method_3_6 rfl ?_
  refine Gl.icmpge Y0 d_method_3_7 (by decide) rfl rfl (fun c7 => ?_) (fun c7 => ?_)
  · exact absurd c7 (by decide)
  refine Gl.iloadN Y0 rfl d_method_3_10 rfl ?_
  refine Gl.sipush Y0 (v := (255 : Int32)) (by decide) d_method_3_11 rfl ?_
  obtain ⟨v14, hv14⟩ : ∃ z : Int32, w &&& (255 : Int32) = z := ⟨_, rfl⟩
  have iv14 : v14.toInt = w.toInt % 256 := by have q := c_mask w (255 : Int32) 8 (by decide) (by decide); rw [hv14] at q; exact q
  refine Gl.iand Y0 hv14 d_method_3_14 rfl ?_
  exact Gl.retI Y0 (by decide) (by decide)  d_method_3_15 ⟨v14, rfl, (by first | omega | rfl), rfl⟩
def R24 : Room := { frames := 0, cells := 0, slots := 0, locals := 0 }
def Q24 (Z : State) (w : Int32) (h0 : Heap) (v : Option Value) (h : Heap) : Prop := ∃ r : Int32, v = some (.int r) ∧ (r.toInt = 0) ∧ h0 = h
theorem ef24 (w : Int32) (m : MethodId) : entryFrame m #[(.int w), (.int (1 : Int32)), (.int (2 : Int32)), (.int (2 : Int32))] 4 = mkF m 0 #[.val (.int w), .val (.int (1 : Int32)), .val (.int (2 : Int32)), .val (.int (2 : Int32))] [] := by first | (simp [entryFrame, mkF, argsToLocals, Value.category]; done) | rfl
set_option maxRecDepth 65536 in
set_option maxHeartbeats 40000000 in
theorem rm24 (l : Launch) (Z : State) (a0 : Array Value) (hw : ∀ d ∈ tables_1, d.before a0 Z = true) (ws : List Jvm.Cond) (w : Int32) (h0 : Heap) (n0 : Nat) (Z0 : n0 ≤ h0.size) : OMet l Z ws (⟨"com/example/benchwire/benchwire/astm/LinkChecksumPinLaw", "term", "(IIII)I"⟩ : MethodName) method_3_code 4 (some .int) R24 #[(.int w), (.int (1 : Int32)), (.int (2 : Int32)), (.int (2 : Int32))] h0 n0 (Q24 Z w h0) := by
  refine OMet.of (plainFor_of_name pn_0) (ef24 w) Z0 ?_
  intro p e s m below meth c T0 Y0 hnm
  have Y0 : Sd Z "com/example/benchwire/benchwire/astm/LinkChecksumPinLaw" method_3_code 4 (some .int) n0 p l e R24 s m #[(.int w), (.int (1 : Int32)), (.int (2 : Int32)), (.int (2 : Int32))] below meth c T0 h0 0 0 := Y0
  have nw := rng32 w
  refine Gl.iloadN Y0 rfl d_method_3_0 rfl ?_
  refine Gl.iloadN Y0 rfl d_method_3_1 rfl ?_
  refine Gl.icmpgt Y0 d_method_3_2 (by decide) rfl rfl (fun c2 => ?_) (fun c2 => ?_)
  rotate_left
  · exact absurd c2 (by decide)
  refine Gl.iconst Y0 (v := (0 : Int32)) (by decide) d_method_3_16 rfl ?_
  exact Gl.retI Y0 (by decide) (by decide)  d_method_3_17 ⟨(0 : Int32), rfl, (by first | omega | rfl), rfl⟩
def R25 : Room := { frames := 0, cells := 0, slots := 0, locals := 0 }
def Q25 (Z : State) (w : Int32) (h0 : Heap) (v : Option Value) (h : Heap) : Prop := ∃ r : Int32, v = some (.int r) ∧ (r.toInt = 0) ∧ h0 = h
theorem ef25 (w : Int32) (m : MethodId) : entryFrame m #[(.int w), (.int (1 : Int32)), (.int (2 : Int32)), (.int (3 : Int32))] 4 = mkF m 0 #[.val (.int w), .val (.int (1 : Int32)), .val (.int (2 : Int32)), .val (.int (3 : Int32))] [] := by first | (simp [entryFrame, mkF, argsToLocals, Value.category]; done) | rfl
set_option maxRecDepth 65536 in
set_option maxHeartbeats 40000000 in
theorem rm25 (l : Launch) (Z : State) (a0 : Array Value) (hw : ∀ d ∈ tables_1, d.before a0 Z = true) (ws : List Jvm.Cond) (w : Int32) (h0 : Heap) (n0 : Nat) (Z0 : n0 ≤ h0.size) : OMet l Z ws (⟨"com/example/benchwire/benchwire/astm/LinkChecksumPinLaw", "term", "(IIII)I"⟩ : MethodName) method_3_code 4 (some .int) R25 #[(.int w), (.int (1 : Int32)), (.int (2 : Int32)), (.int (3 : Int32))] h0 n0 (Q25 Z w h0) := by
  refine OMet.of (plainFor_of_name pn_0) (ef25 w) Z0 ?_
  intro p e s m below meth c T0 Y0 hnm
  have Y0 : Sd Z "com/example/benchwire/benchwire/astm/LinkChecksumPinLaw" method_3_code 4 (some .int) n0 p l e R25 s m #[(.int w), (.int (1 : Int32)), (.int (2 : Int32)), (.int (3 : Int32))] below meth c T0 h0 0 0 := Y0
  have nw := rng32 w
  refine Gl.iloadN Y0 rfl d_method_3_0 rfl ?_
  refine Gl.iloadN Y0 rfl d_method_3_1 rfl ?_
  refine Gl.icmpgt Y0 d_method_3_2 (by decide) rfl rfl (fun c2 => ?_) (fun c2 => ?_)
  rotate_left
  · exact absurd c2 (by decide)
  refine Gl.iconst Y0 (v := (0 : Int32)) (by decide) d_method_3_16 rfl ?_
  exact Gl.retI Y0 (by decide) (by decide)  d_method_3_17 ⟨(0 : Int32), rfl, (by first | omega | rfl), rfl⟩
def R26 : Room := { frames := 0, cells := 0, slots := 0, locals := 0 }
def Q26 (Z : State) (w : Int32) (h0 : Heap) (v : Option Value) (h : Heap) : Prop := ∃ r : Int32, v = some (.int r) ∧ (r.toInt = 0) ∧ h0 = h
theorem ef26 (w : Int32) (m : MethodId) : entryFrame m #[(.int w), (.int (1 : Int32)), (.int (2 : Int32)), (.int (4 : Int32))] 4 = mkF m 0 #[.val (.int w), .val (.int (1 : Int32)), .val (.int (2 : Int32)), .val (.int (4 : Int32))] [] := by first | (simp [entryFrame, mkF, argsToLocals, Value.category]; done) | rfl
set_option maxRecDepth 65536 in
set_option maxHeartbeats 40000000 in
theorem rm26 (l : Launch) (Z : State) (a0 : Array Value) (hw : ∀ d ∈ tables_1, d.before a0 Z = true) (ws : List Jvm.Cond) (w : Int32) (h0 : Heap) (n0 : Nat) (Z0 : n0 ≤ h0.size) : OMet l Z ws (⟨"com/example/benchwire/benchwire/astm/LinkChecksumPinLaw", "term", "(IIII)I"⟩ : MethodName) method_3_code 4 (some .int) R26 #[(.int w), (.int (1 : Int32)), (.int (2 : Int32)), (.int (4 : Int32))] h0 n0 (Q26 Z w h0) := by
  refine OMet.of (plainFor_of_name pn_0) (ef26 w) Z0 ?_
  intro p e s m below meth c T0 Y0 hnm
  have Y0 : Sd Z "com/example/benchwire/benchwire/astm/LinkChecksumPinLaw" method_3_code 4 (some .int) n0 p l e R26 s m #[(.int w), (.int (1 : Int32)), (.int (2 : Int32)), (.int (4 : Int32))] below meth c T0 h0 0 0 := Y0
  have nw := rng32 w
  refine Gl.iloadN Y0 rfl d_method_3_0 rfl ?_
  refine Gl.iloadN Y0 rfl d_method_3_1 rfl ?_
  refine Gl.icmpgt Y0 d_method_3_2 (by decide) rfl rfl (fun c2 => ?_) (fun c2 => ?_)
  rotate_left
  · exact absurd c2 (by decide)
  refine Gl.iconst Y0 (v := (0 : Int32)) (by decide) d_method_3_16 rfl ?_
  exact Gl.retI Y0 (by decide) (by decide)  d_method_3_17 ⟨(0 : Int32), rfl, (by first | omega | rfl), rfl⟩
def R27 : Room := { frames := 0, cells := 0, slots := 0, locals := 0 }
def Q27 (Z : State) (w : Int32) (h0 : Heap) (v : Option Value) (h : Heap) : Prop := ∃ r : Int32, v = some (.int r) ∧ (r.toInt = 0) ∧ h0 = h
theorem ef27 (w : Int32) (m : MethodId) : entryFrame m #[(.int w), (.int (1 : Int32)), (.int (3 : Int32)), (.int (3 : Int32))] 4 = mkF m 0 #[.val (.int w), .val (.int (1 : Int32)), .val (.int (3 : Int32)), .val (.int (3 : Int32))] [] := by first | (simp [entryFrame, mkF, argsToLocals, Value.category]; done) | rfl
set_option maxRecDepth 65536 in
set_option maxHeartbeats 40000000 in
theorem rm27 (l : Launch) (Z : State) (a0 : Array Value) (hw : ∀ d ∈ tables_1, d.before a0 Z = true) (ws : List Jvm.Cond) (w : Int32) (h0 : Heap) (n0 : Nat) (Z0 : n0 ≤ h0.size) : OMet l Z ws (⟨"com/example/benchwire/benchwire/astm/LinkChecksumPinLaw", "term", "(IIII)I"⟩ : MethodName) method_3_code 4 (some .int) R27 #[(.int w), (.int (1 : Int32)), (.int (3 : Int32)), (.int (3 : Int32))] h0 n0 (Q27 Z w h0) := by
  refine OMet.of (plainFor_of_name pn_0) (ef27 w) Z0 ?_
  intro p e s m below meth c T0 Y0 hnm
  have Y0 : Sd Z "com/example/benchwire/benchwire/astm/LinkChecksumPinLaw" method_3_code 4 (some .int) n0 p l e R27 s m #[(.int w), (.int (1 : Int32)), (.int (3 : Int32)), (.int (3 : Int32))] below meth c T0 h0 0 0 := Y0
  have nw := rng32 w
  refine Gl.iloadN Y0 rfl d_method_3_0 rfl ?_
  refine Gl.iloadN Y0 rfl d_method_3_1 rfl ?_
  refine Gl.icmpgt Y0 d_method_3_2 (by decide) rfl rfl (fun c2 => ?_) (fun c2 => ?_)
  rotate_left
  · exact absurd c2 (by decide)
  refine Gl.iconst Y0 (v := (0 : Int32)) (by decide) d_method_3_16 rfl ?_
  exact Gl.retI Y0 (by decide) (by decide)  d_method_3_17 ⟨(0 : Int32), rfl, (by first | omega | rfl), rfl⟩
def R28 : Room := { frames := 0, cells := 0, slots := 0, locals := 0 }
def Q28 (Z : State) (w : Int32) (h0 : Heap) (v : Option Value) (h : Heap) : Prop := ∃ r : Int32, v = some (.int r) ∧ (r.toInt = 0) ∧ h0 = h
theorem ef28 (w : Int32) (m : MethodId) : entryFrame m #[(.int w), (.int (1 : Int32)), (.int (3 : Int32)), (.int (4 : Int32))] 4 = mkF m 0 #[.val (.int w), .val (.int (1 : Int32)), .val (.int (3 : Int32)), .val (.int (4 : Int32))] [] := by first | (simp [entryFrame, mkF, argsToLocals, Value.category]; done) | rfl
set_option maxRecDepth 65536 in
set_option maxHeartbeats 40000000 in
theorem rm28 (l : Launch) (Z : State) (a0 : Array Value) (hw : ∀ d ∈ tables_1, d.before a0 Z = true) (ws : List Jvm.Cond) (w : Int32) (h0 : Heap) (n0 : Nat) (Z0 : n0 ≤ h0.size) : OMet l Z ws (⟨"com/example/benchwire/benchwire/astm/LinkChecksumPinLaw", "term", "(IIII)I"⟩ : MethodName) method_3_code 4 (some .int) R28 #[(.int w), (.int (1 : Int32)), (.int (3 : Int32)), (.int (4 : Int32))] h0 n0 (Q28 Z w h0) := by
  refine OMet.of (plainFor_of_name pn_0) (ef28 w) Z0 ?_
  intro p e s m below meth c T0 Y0 hnm
  have Y0 : Sd Z "com/example/benchwire/benchwire/astm/LinkChecksumPinLaw" method_3_code 4 (some .int) n0 p l e R28 s m #[(.int w), (.int (1 : Int32)), (.int (3 : Int32)), (.int (4 : Int32))] below meth c T0 h0 0 0 := Y0
  have nw := rng32 w
  refine Gl.iloadN Y0 rfl d_method_3_0 rfl ?_
  refine Gl.iloadN Y0 rfl d_method_3_1 rfl ?_
  refine Gl.icmpgt Y0 d_method_3_2 (by decide) rfl rfl (fun c2 => ?_) (fun c2 => ?_)
  rotate_left
  · exact absurd c2 (by decide)
  refine Gl.iconst Y0 (v := (0 : Int32)) (by decide) d_method_3_16 rfl ?_
  exact Gl.retI Y0 (by decide) (by decide)  d_method_3_17 ⟨(0 : Int32), rfl, (by first | omega | rfl), rfl⟩
def R29 : Room := { frames := 0, cells := 0, slots := 0, locals := 0 }
def Q29 (Z : State) (w : Int32) (h0 : Heap) (v : Option Value) (h : Heap) : Prop := ∃ r : Int32, v = some (.int r) ∧ (r.toInt = 0) ∧ h0 = h
theorem ef29 (w : Int32) (m : MethodId) : entryFrame m #[(.int w), (.int (1 : Int32)), (.int (4 : Int32)), (.int (4 : Int32))] 4 = mkF m 0 #[.val (.int w), .val (.int (1 : Int32)), .val (.int (4 : Int32)), .val (.int (4 : Int32))] [] := by first | (simp [entryFrame, mkF, argsToLocals, Value.category]; done) | rfl
set_option maxRecDepth 65536 in
set_option maxHeartbeats 40000000 in
theorem rm29 (l : Launch) (Z : State) (a0 : Array Value) (hw : ∀ d ∈ tables_1, d.before a0 Z = true) (ws : List Jvm.Cond) (w : Int32) (h0 : Heap) (n0 : Nat) (Z0 : n0 ≤ h0.size) : OMet l Z ws (⟨"com/example/benchwire/benchwire/astm/LinkChecksumPinLaw", "term", "(IIII)I"⟩ : MethodName) method_3_code 4 (some .int) R29 #[(.int w), (.int (1 : Int32)), (.int (4 : Int32)), (.int (4 : Int32))] h0 n0 (Q29 Z w h0) := by
  refine OMet.of (plainFor_of_name pn_0) (ef29 w) Z0 ?_
  intro p e s m below meth c T0 Y0 hnm
  have Y0 : Sd Z "com/example/benchwire/benchwire/astm/LinkChecksumPinLaw" method_3_code 4 (some .int) n0 p l e R29 s m #[(.int w), (.int (1 : Int32)), (.int (4 : Int32)), (.int (4 : Int32))] below meth c T0 h0 0 0 := Y0
  have nw := rng32 w
  refine Gl.iloadN Y0 rfl d_method_3_0 rfl ?_
  refine Gl.iloadN Y0 rfl d_method_3_1 rfl ?_
  refine Gl.icmpgt Y0 d_method_3_2 (by decide) rfl rfl (fun c2 => ?_) (fun c2 => ?_)
  rotate_left
  · exact absurd c2 (by decide)
  refine Gl.iconst Y0 (v := (0 : Int32)) (by decide) d_method_3_16 rfl ?_
  exact Gl.retI Y0 (by decide) (by decide)  d_method_3_17 ⟨(0 : Int32), rfl, (by first | omega | rfl), rfl⟩
def R30 : Room := { frames := 0, cells := 0, slots := 0, locals := 0 }
def Q30 (Z : State) (w : Int32) (h0 : Heap) (v : Option Value) (h : Heap) : Prop := ∃ r : Int32, v = some (.int r) ∧ (r.toInt = 0) ∧ h0 = h
theorem ef30 (w : Int32) (m : MethodId) : entryFrame m #[(.int w), (.int (2 : Int32)), (.int (0 : Int32)), (.int (0 : Int32))] 4 = mkF m 0 #[.val (.int w), .val (.int (2 : Int32)), .val (.int (0 : Int32)), .val (.int (0 : Int32))] [] := by first | (simp [entryFrame, mkF, argsToLocals, Value.category]; done) | rfl
set_option maxRecDepth 65536 in
set_option maxHeartbeats 40000000 in
theorem rm30 (l : Launch) (Z : State) (a0 : Array Value) (hw : ∀ d ∈ tables_1, d.before a0 Z = true) (ws : List Jvm.Cond) (w : Int32) (h0 : Heap) (n0 : Nat) (Z0 : n0 ≤ h0.size) : OMet l Z ws (⟨"com/example/benchwire/benchwire/astm/LinkChecksumPinLaw", "term", "(IIII)I"⟩ : MethodName) method_3_code 4 (some .int) R30 #[(.int w), (.int (2 : Int32)), (.int (0 : Int32)), (.int (0 : Int32))] h0 n0 (Q30 Z w h0) := by
  refine OMet.of (plainFor_of_name pn_0) (ef30 w) Z0 ?_
  intro p e s m below meth c T0 Y0 hnm
  have Y0 : Sd Z "com/example/benchwire/benchwire/astm/LinkChecksumPinLaw" method_3_code 4 (some .int) n0 p l e R30 s m #[(.int w), (.int (2 : Int32)), (.int (0 : Int32)), (.int (0 : Int32))] below meth c T0 h0 0 0 := Y0
  have nw := rng32 w
  refine Gl.iloadN Y0 rfl d_method_3_0 rfl ?_
  refine Gl.iloadN Y0 rfl d_method_3_1 rfl ?_
  refine Gl.icmpgt Y0 d_method_3_2 (by decide) rfl rfl (fun c2 => ?_) (fun c2 => ?_)
  · exact absurd c2 (by decide)
  refine Gl.iloadN Y0 rfl d_method_3_5 rfl ?_
  refine Gl.iloadN Y0 rfl d_method_3_6 rfl ?_
  refine Gl.icmpge Y0 d_method_3_7 (by decide) rfl rfl (fun c7 => ?_) (fun c7 => ?_)
  rotate_left
  · exact absurd c7 (by decide)
  refine Gl.iconst Y0 (v := (0 : Int32)) (by decide) d_method_3_16 rfl ?_
  exact Gl.retI Y0 (by decide) (by decide)  d_method_3_17 ⟨(0 : Int32), rfl, (by first | omega | rfl), rfl⟩
def R31 : Room := { frames := 0, cells := 0, slots := 0, locals := 0 }
def Q31 (Z : State) (w : Int32) (h0 : Heap) (v : Option Value) (h : Heap) : Prop := ∃ r : Int32, v = some (.int r) ∧ (r.toInt = 0) ∧ h0 = h
theorem ef31 (w : Int32) (m : MethodId) : entryFrame m #[(.int w), (.int (2 : Int32)), (.int (0 : Int32)), (.int (1 : Int32))] 4 = mkF m 0 #[.val (.int w), .val (.int (2 : Int32)), .val (.int (0 : Int32)), .val (.int (1 : Int32))] [] := by first | (simp [entryFrame, mkF, argsToLocals, Value.category]; done) | rfl
set_option maxRecDepth 65536 in
set_option maxHeartbeats 40000000 in
theorem rm31 (l : Launch) (Z : State) (a0 : Array Value) (hw : ∀ d ∈ tables_1, d.before a0 Z = true) (ws : List Jvm.Cond) (w : Int32) (h0 : Heap) (n0 : Nat) (Z0 : n0 ≤ h0.size) : OMet l Z ws (⟨"com/example/benchwire/benchwire/astm/LinkChecksumPinLaw", "term", "(IIII)I"⟩ : MethodName) method_3_code 4 (some .int) R31 #[(.int w), (.int (2 : Int32)), (.int (0 : Int32)), (.int (1 : Int32))] h0 n0 (Q31 Z w h0) := by
  refine OMet.of (plainFor_of_name pn_0) (ef31 w) Z0 ?_
  intro p e s m below meth c T0 Y0 hnm
  have Y0 : Sd Z "com/example/benchwire/benchwire/astm/LinkChecksumPinLaw" method_3_code 4 (some .int) n0 p l e R31 s m #[(.int w), (.int (2 : Int32)), (.int (0 : Int32)), (.int (1 : Int32))] below meth c T0 h0 0 0 := Y0
  have nw := rng32 w
  refine Gl.iloadN Y0 rfl d_method_3_0 rfl ?_
  refine Gl.iloadN Y0 rfl d_method_3_1 rfl ?_
  refine Gl.icmpgt Y0 d_method_3_2 (by decide) rfl rfl (fun c2 => ?_) (fun c2 => ?_)
  · exact absurd c2 (by decide)
  refine Gl.iloadN Y0 rfl d_method_3_5 rfl ?_
  refine Gl.iloadN Y0 rfl d_method_3_6 rfl ?_
  refine Gl.icmpge Y0 d_method_3_7 (by decide) rfl rfl (fun c7 => ?_) (fun c7 => ?_)
  rotate_left
  · exact absurd c7 (by decide)
  refine Gl.iconst Y0 (v := (0 : Int32)) (by decide) d_method_3_16 rfl ?_
  exact Gl.retI Y0 (by decide) (by decide)  d_method_3_17 ⟨(0 : Int32), rfl, (by first | omega | rfl), rfl⟩
def R32 : Room := { frames := 0, cells := 0, slots := 0, locals := 0 }
def Q32 (Z : State) (w : Int32) (h0 : Heap) (v : Option Value) (h : Heap) : Prop := ∃ r : Int32, v = some (.int r) ∧ (r.toInt = 0) ∧ h0 = h
theorem ef32 (w : Int32) (m : MethodId) : entryFrame m #[(.int w), (.int (2 : Int32)), (.int (0 : Int32)), (.int (2 : Int32))] 4 = mkF m 0 #[.val (.int w), .val (.int (2 : Int32)), .val (.int (0 : Int32)), .val (.int (2 : Int32))] [] := by first | (simp [entryFrame, mkF, argsToLocals, Value.category]; done) | rfl
set_option maxRecDepth 65536 in
set_option maxHeartbeats 40000000 in
theorem rm32 (l : Launch) (Z : State) (a0 : Array Value) (hw : ∀ d ∈ tables_1, d.before a0 Z = true) (ws : List Jvm.Cond) (w : Int32) (h0 : Heap) (n0 : Nat) (Z0 : n0 ≤ h0.size) : OMet l Z ws (⟨"com/example/benchwire/benchwire/astm/LinkChecksumPinLaw", "term", "(IIII)I"⟩ : MethodName) method_3_code 4 (some .int) R32 #[(.int w), (.int (2 : Int32)), (.int (0 : Int32)), (.int (2 : Int32))] h0 n0 (Q32 Z w h0) := by
  refine OMet.of (plainFor_of_name pn_0) (ef32 w) Z0 ?_
  intro p e s m below meth c T0 Y0 hnm
  have Y0 : Sd Z "com/example/benchwire/benchwire/astm/LinkChecksumPinLaw" method_3_code 4 (some .int) n0 p l e R32 s m #[(.int w), (.int (2 : Int32)), (.int (0 : Int32)), (.int (2 : Int32))] below meth c T0 h0 0 0 := Y0
  have nw := rng32 w
  refine Gl.iloadN Y0 rfl d_method_3_0 rfl ?_
  refine Gl.iloadN Y0 rfl d_method_3_1 rfl ?_
  refine Gl.icmpgt Y0 d_method_3_2 (by decide) rfl rfl (fun c2 => ?_) (fun c2 => ?_)
  · exact absurd c2 (by decide)
  refine Gl.iloadN Y0 rfl d_method_3_5 rfl ?_
  refine Gl.iloadN Y0 rfl d_method_3_6 rfl ?_
  refine Gl.icmpge Y0 d_method_3_7 (by decide) rfl rfl (fun c7 => ?_) (fun c7 => ?_)
  rotate_left
  · exact absurd c7 (by decide)
  refine Gl.iconst Y0 (v := (0 : Int32)) (by decide) d_method_3_16 rfl ?_
  exact Gl.retI Y0 (by decide) (by decide)  d_method_3_17 ⟨(0 : Int32), rfl, (by first | omega | rfl), rfl⟩
def R33 : Room := { frames := 0, cells := 0, slots := 0, locals := 0 }
def Q33 (Z : State) (w : Int32) (h0 : Heap) (v : Option Value) (h : Heap) : Prop := ∃ r : Int32, v = some (.int r) ∧ (r.toInt = w.toInt % 256) ∧ h0 = h
theorem ef33 (w : Int32) (m : MethodId) : entryFrame m #[(.int w), (.int (2 : Int32)), (.int (0 : Int32)), (.int (3 : Int32))] 4 = mkF m 0 #[.val (.int w), .val (.int (2 : Int32)), .val (.int (0 : Int32)), .val (.int (3 : Int32))] [] := by first | (simp [entryFrame, mkF, argsToLocals, Value.category]; done) | rfl
set_option maxRecDepth 65536 in
set_option maxHeartbeats 40000000 in
theorem rm33 (l : Launch) (Z : State) (a0 : Array Value) (hw : ∀ d ∈ tables_1, d.before a0 Z = true) (ws : List Jvm.Cond) (w : Int32) (h0 : Heap) (n0 : Nat) (Z0 : n0 ≤ h0.size) : OMet l Z ws (⟨"com/example/benchwire/benchwire/astm/LinkChecksumPinLaw", "term", "(IIII)I"⟩ : MethodName) method_3_code 4 (some .int) R33 #[(.int w), (.int (2 : Int32)), (.int (0 : Int32)), (.int (3 : Int32))] h0 n0 (Q33 Z w h0) := by
  refine OMet.of (plainFor_of_name pn_0) (ef33 w) Z0 ?_
  intro p e s m below meth c T0 Y0 hnm
  have Y0 : Sd Z "com/example/benchwire/benchwire/astm/LinkChecksumPinLaw" method_3_code 4 (some .int) n0 p l e R33 s m #[(.int w), (.int (2 : Int32)), (.int (0 : Int32)), (.int (3 : Int32))] below meth c T0 h0 0 0 := Y0
  have nw := rng32 w
  refine Gl.iloadN Y0 rfl d_method_3_0 rfl ?_
  refine Gl.iloadN Y0 rfl d_method_3_1 rfl ?_
  refine Gl.icmpgt Y0 d_method_3_2 (by decide) rfl rfl (fun c2 => ?_) (fun c2 => ?_)
  · exact absurd c2 (by decide)
  refine Gl.iloadN Y0 rfl d_method_3_5 rfl ?_
  refine Gl.iloadN Y0 rfl d_method_3_6 rfl ?_
  refine Gl.icmpge Y0 d_method_3_7 (by decide) rfl rfl (fun c7 => ?_) (fun c7 => ?_)
  · exact absurd c7 (by decide)
  refine Gl.iloadN Y0 rfl d_method_3_10 rfl ?_
  refine Gl.sipush Y0 (v := (255 : Int32)) (by decide) d_method_3_11 rfl ?_
  obtain ⟨v14, hv14⟩ : ∃ z : Int32, w &&& (255 : Int32) = z := ⟨_, rfl⟩
  have iv14 : v14.toInt = w.toInt % 256 := by have q := c_mask w (255 : Int32) 8 (by decide) (by decide); rw [hv14] at q; exact q
  refine Gl.iand Y0 hv14 d_method_3_14 rfl ?_
  exact Gl.retI Y0 (by decide) (by decide)  d_method_3_15 ⟨v14, rfl, (by first | omega | rfl), rfl⟩
def R34 : Room := { frames := 0, cells := 0, slots := 0, locals := 0 }
def Q34 (Z : State) (w : Int32) (h0 : Heap) (v : Option Value) (h : Heap) : Prop := ∃ r : Int32, v = some (.int r) ∧ (r.toInt = w.toInt % 256) ∧ h0 = h
theorem ef34 (w : Int32) (m : MethodId) : entryFrame m #[(.int w), (.int (2 : Int32)), (.int (0 : Int32)), (.int (4 : Int32))] 4 = mkF m 0 #[.val (.int w), .val (.int (2 : Int32)), .val (.int (0 : Int32)), .val (.int (4 : Int32))] [] := by first | (simp [entryFrame, mkF, argsToLocals, Value.category]; done) | rfl
set_option maxRecDepth 65536 in
set_option maxHeartbeats 40000000 in
theorem rm34 (l : Launch) (Z : State) (a0 : Array Value) (hw : ∀ d ∈ tables_1, d.before a0 Z = true) (ws : List Jvm.Cond) (w : Int32) (h0 : Heap) (n0 : Nat) (Z0 : n0 ≤ h0.size) : OMet l Z ws (⟨"com/example/benchwire/benchwire/astm/LinkChecksumPinLaw", "term", "(IIII)I"⟩ : MethodName) method_3_code 4 (some .int) R34 #[(.int w), (.int (2 : Int32)), (.int (0 : Int32)), (.int (4 : Int32))] h0 n0 (Q34 Z w h0) := by
  refine OMet.of (plainFor_of_name pn_0) (ef34 w) Z0 ?_
  intro p e s m below meth c T0 Y0 hnm
  have Y0 : Sd Z "com/example/benchwire/benchwire/astm/LinkChecksumPinLaw" method_3_code 4 (some .int) n0 p l e R34 s m #[(.int w), (.int (2 : Int32)), (.int (0 : Int32)), (.int (4 : Int32))] below meth c T0 h0 0 0 := Y0
  have nw := rng32 w
  refine Gl.iloadN Y0 rfl d_method_3_0 rfl ?_
  refine Gl.iloadN Y0 rfl d_method_3_1 rfl ?_
  refine Gl.icmpgt Y0 d_method_3_2 (by decide) rfl rfl (fun c2 => ?_) (fun c2 => ?_)
  · exact absurd c2 (by decide)
  refine Gl.iloadN Y0 rfl d_method_3_5 rfl ?_
  refine Gl.iloadN Y0 rfl d_method_3_6 rfl ?_
  refine Gl.icmpge Y0 d_method_3_7 (by decide) rfl rfl (fun c7 => ?_) (fun c7 => ?_)
  · exact absurd c7 (by decide)
  refine Gl.iloadN Y0 rfl d_method_3_10 rfl ?_
  refine Gl.sipush Y0 (v := (255 : Int32)) (by decide) d_method_3_11 rfl ?_
  obtain ⟨v14, hv14⟩ : ∃ z : Int32, w &&& (255 : Int32) = z := ⟨_, rfl⟩
  have iv14 : v14.toInt = w.toInt % 256 := by have q := c_mask w (255 : Int32) 8 (by decide) (by decide); rw [hv14] at q; exact q
  refine Gl.iand Y0 hv14 d_method_3_14 rfl ?_
  exact Gl.retI Y0 (by decide) (by decide)  d_method_3_15 ⟨v14, rfl, (by first | omega | rfl), rfl⟩
def R35 : Room := { frames := 0, cells := 0, slots := 0, locals := 0 }
def Q35 (Z : State) (w : Int32) (h0 : Heap) (v : Option Value) (h : Heap) : Prop := ∃ r : Int32, v = some (.int r) ∧ (r.toInt = 0) ∧ h0 = h
theorem ef35 (w : Int32) (m : MethodId) : entryFrame m #[(.int w), (.int (2 : Int32)), (.int (1 : Int32)), (.int (1 : Int32))] 4 = mkF m 0 #[.val (.int w), .val (.int (2 : Int32)), .val (.int (1 : Int32)), .val (.int (1 : Int32))] [] := by first | (simp [entryFrame, mkF, argsToLocals, Value.category]; done) | rfl
set_option maxRecDepth 65536 in
set_option maxHeartbeats 40000000 in
theorem rm35 (l : Launch) (Z : State) (a0 : Array Value) (hw : ∀ d ∈ tables_1, d.before a0 Z = true) (ws : List Jvm.Cond) (w : Int32) (h0 : Heap) (n0 : Nat) (Z0 : n0 ≤ h0.size) : OMet l Z ws (⟨"com/example/benchwire/benchwire/astm/LinkChecksumPinLaw", "term", "(IIII)I"⟩ : MethodName) method_3_code 4 (some .int) R35 #[(.int w), (.int (2 : Int32)), (.int (1 : Int32)), (.int (1 : Int32))] h0 n0 (Q35 Z w h0) := by
  refine OMet.of (plainFor_of_name pn_0) (ef35 w) Z0 ?_
  intro p e s m below meth c T0 Y0 hnm
  have Y0 : Sd Z "com/example/benchwire/benchwire/astm/LinkChecksumPinLaw" method_3_code 4 (some .int) n0 p l e R35 s m #[(.int w), (.int (2 : Int32)), (.int (1 : Int32)), (.int (1 : Int32))] below meth c T0 h0 0 0 := Y0
  have nw := rng32 w
  refine Gl.iloadN Y0 rfl d_method_3_0 rfl ?_
  refine Gl.iloadN Y0 rfl d_method_3_1 rfl ?_
  refine Gl.icmpgt Y0 d_method_3_2 (by decide) rfl rfl (fun c2 => ?_) (fun c2 => ?_)
  · exact absurd c2 (by decide)
  refine Gl.iloadN Y0 rfl d_method_3_5 rfl ?_
  refine Gl.iloadN Y0 rfl d_method_3_6 rfl ?_
  refine Gl.icmpge Y0 d_method_3_7 (by decide) rfl rfl (fun c7 => ?_) (fun c7 => ?_)
  rotate_left
  · exact absurd c7 (by decide)
  refine Gl.iconst Y0 (v := (0 : Int32)) (by decide) d_method_3_16 rfl ?_
  exact Gl.retI Y0 (by decide) (by decide)  d_method_3_17 ⟨(0 : Int32), rfl, (by first | omega | rfl), rfl⟩
def R36 : Room := { frames := 0, cells := 0, slots := 0, locals := 0 }
def Q36 (Z : State) (w : Int32) (h0 : Heap) (v : Option Value) (h : Heap) : Prop := ∃ r : Int32, v = some (.int r) ∧ (r.toInt = 0) ∧ h0 = h
theorem ef36 (w : Int32) (m : MethodId) : entryFrame m #[(.int w), (.int (2 : Int32)), (.int (1 : Int32)), (.int (2 : Int32))] 4 = mkF m 0 #[.val (.int w), .val (.int (2 : Int32)), .val (.int (1 : Int32)), .val (.int (2 : Int32))] [] := by first | (simp [entryFrame, mkF, argsToLocals, Value.category]; done) | rfl
set_option maxRecDepth 65536 in
set_option maxHeartbeats 40000000 in
theorem rm36 (l : Launch) (Z : State) (a0 : Array Value) (hw : ∀ d ∈ tables_1, d.before a0 Z = true) (ws : List Jvm.Cond) (w : Int32) (h0 : Heap) (n0 : Nat) (Z0 : n0 ≤ h0.size) : OMet l Z ws (⟨"com/example/benchwire/benchwire/astm/LinkChecksumPinLaw", "term", "(IIII)I"⟩ : MethodName) method_3_code 4 (some .int) R36 #[(.int w), (.int (2 : Int32)), (.int (1 : Int32)), (.int (2 : Int32))] h0 n0 (Q36 Z w h0) := by
  refine OMet.of (plainFor_of_name pn_0) (ef36 w) Z0 ?_
  intro p e s m below meth c T0 Y0 hnm
  have Y0 : Sd Z "com/example/benchwire/benchwire/astm/LinkChecksumPinLaw" method_3_code 4 (some .int) n0 p l e R36 s m #[(.int w), (.int (2 : Int32)), (.int (1 : Int32)), (.int (2 : Int32))] below meth c T0 h0 0 0 := Y0
  have nw := rng32 w
  refine Gl.iloadN Y0 rfl d_method_3_0 rfl ?_
  refine Gl.iloadN Y0 rfl d_method_3_1 rfl ?_
  refine Gl.icmpgt Y0 d_method_3_2 (by decide) rfl rfl (fun c2 => ?_) (fun c2 => ?_)
  · exact absurd c2 (by decide)
  refine Gl.iloadN Y0 rfl d_method_3_5 rfl ?_
  refine Gl.iloadN Y0 rfl d_method_3_6 rfl ?_
  refine Gl.icmpge Y0 d_method_3_7 (by decide) rfl rfl (fun c7 => ?_) (fun c7 => ?_)
  rotate_left
  · exact absurd c7 (by decide)
  refine Gl.iconst Y0 (v := (0 : Int32)) (by decide) d_method_3_16 rfl ?_
  exact Gl.retI Y0 (by decide) (by decide)  d_method_3_17 ⟨(0 : Int32), rfl, (by first | omega | rfl), rfl⟩
def R37 : Room := { frames := 0, cells := 0, slots := 0, locals := 0 }
def Q37 (Z : State) (w : Int32) (h0 : Heap) (v : Option Value) (h : Heap) : Prop := ∃ r : Int32, v = some (.int r) ∧ (r.toInt = w.toInt % 256) ∧ h0 = h
theorem ef37 (w : Int32) (m : MethodId) : entryFrame m #[(.int w), (.int (2 : Int32)), (.int (1 : Int32)), (.int (3 : Int32))] 4 = mkF m 0 #[.val (.int w), .val (.int (2 : Int32)), .val (.int (1 : Int32)), .val (.int (3 : Int32))] [] := by first | (simp [entryFrame, mkF, argsToLocals, Value.category]; done) | rfl
set_option maxRecDepth 65536 in
set_option maxHeartbeats 40000000 in
theorem rm37 (l : Launch) (Z : State) (a0 : Array Value) (hw : ∀ d ∈ tables_1, d.before a0 Z = true) (ws : List Jvm.Cond) (w : Int32) (h0 : Heap) (n0 : Nat) (Z0 : n0 ≤ h0.size) : OMet l Z ws (⟨"com/example/benchwire/benchwire/astm/LinkChecksumPinLaw", "term", "(IIII)I"⟩ : MethodName) method_3_code 4 (some .int) R37 #[(.int w), (.int (2 : Int32)), (.int (1 : Int32)), (.int (3 : Int32))] h0 n0 (Q37 Z w h0) := by
  refine OMet.of (plainFor_of_name pn_0) (ef37 w) Z0 ?_
  intro p e s m below meth c T0 Y0 hnm
  have Y0 : Sd Z "com/example/benchwire/benchwire/astm/LinkChecksumPinLaw" method_3_code 4 (some .int) n0 p l e R37 s m #[(.int w), (.int (2 : Int32)), (.int (1 : Int32)), (.int (3 : Int32))] below meth c T0 h0 0 0 := Y0
  have nw := rng32 w
  refine Gl.iloadN Y0 rfl d_method_3_0 rfl ?_
  refine Gl.iloadN Y0 rfl d_method_3_1 rfl ?_
  refine Gl.icmpgt Y0 d_method_3_2 (by decide) rfl rfl (fun c2 => ?_) (fun c2 => ?_)
  · exact absurd c2 (by decide)
  refine Gl.iloadN Y0 rfl d_method_3_5 rfl ?_
  refine Gl.iloadN Y0 rfl d_method_3_6 rfl ?_
  refine Gl.icmpge Y0 d_method_3_7 (by decide) rfl rfl (fun c7 => ?_) (fun c7 => ?_)
  · exact absurd c7 (by decide)
  refine Gl.iloadN Y0 rfl d_method_3_10 rfl ?_
  refine Gl.sipush Y0 (v := (255 : Int32)) (by decide) d_method_3_11 rfl ?_
  obtain ⟨v14, hv14⟩ : ∃ z : Int32, w &&& (255 : Int32) = z := ⟨_, rfl⟩
  have iv14 : v14.toInt = w.toInt % 256 := by have q := c_mask w (255 : Int32) 8 (by decide) (by decide); rw [hv14] at q; exact q
  refine Gl.iand Y0 hv14 d_method_3_14 rfl ?_
  exact Gl.retI Y0 (by decide) (by decide)  d_method_3_15 ⟨v14, rfl, (by first | omega | rfl), rfl⟩
def R38 : Room := { frames := 0, cells := 0, slots := 0, locals := 0 }
def Q38 (Z : State) (w : Int32) (h0 : Heap) (v : Option Value) (h : Heap) : Prop := ∃ r : Int32, v = some (.int r) ∧ (r.toInt = w.toInt % 256) ∧ h0 = h
theorem ef38 (w : Int32) (m : MethodId) : entryFrame m #[(.int w), (.int (2 : Int32)), (.int (1 : Int32)), (.int (4 : Int32))] 4 = mkF m 0 #[.val (.int w), .val (.int (2 : Int32)), .val (.int (1 : Int32)), .val (.int (4 : Int32))] [] := by first | (simp [entryFrame, mkF, argsToLocals, Value.category]; done) | rfl
set_option maxRecDepth 65536 in
set_option maxHeartbeats 40000000 in
theorem rm38 (l : Launch) (Z : State) (a0 : Array Value) (hw : ∀ d ∈ tables_1, d.before a0 Z = true) (ws : List Jvm.Cond) (w : Int32) (h0 : Heap) (n0 : Nat) (Z0 : n0 ≤ h0.size) : OMet l Z ws (⟨"com/example/benchwire/benchwire/astm/LinkChecksumPinLaw", "term", "(IIII)I"⟩ : MethodName) method_3_code 4 (some .int) R38 #[(.int w), (.int (2 : Int32)), (.int (1 : Int32)), (.int (4 : Int32))] h0 n0 (Q38 Z w h0) := by
  refine OMet.of (plainFor_of_name pn_0) (ef38 w) Z0 ?_
  intro p e s m below meth c T0 Y0 hnm
  have Y0 : Sd Z "com/example/benchwire/benchwire/astm/LinkChecksumPinLaw" method_3_code 4 (some .int) n0 p l e R38 s m #[(.int w), (.int (2 : Int32)), (.int (1 : Int32)), (.int (4 : Int32))] below meth c T0 h0 0 0 := Y0
  have nw := rng32 w
  refine Gl.iloadN Y0 rfl d_method_3_0 rfl ?_
  refine Gl.iloadN Y0 rfl d_method_3_1 rfl ?_
  refine Gl.icmpgt Y0 d_method_3_2 (by decide) rfl rfl (fun c2 => ?_) (fun c2 => ?_)
  · exact absurd c2 (by decide)
  refine Gl.iloadN Y0 rfl d_method_3_5 rfl ?_
  refine Gl.iloadN Y0 rfl d_method_3_6 rfl ?_
  refine Gl.icmpge Y0 d_method_3_7 (by decide) rfl rfl (fun c7 => ?_) (fun c7 => ?_)
  · exact absurd c7 (by decide)
  refine Gl.iloadN Y0 rfl d_method_3_10 rfl ?_
  refine Gl.sipush Y0 (v := (255 : Int32)) (by decide) d_method_3_11 rfl ?_
  obtain ⟨v14, hv14⟩ : ∃ z : Int32, w &&& (255 : Int32) = z := ⟨_, rfl⟩
  have iv14 : v14.toInt = w.toInt % 256 := by have q := c_mask w (255 : Int32) 8 (by decide) (by decide); rw [hv14] at q; exact q
  refine Gl.iand Y0 hv14 d_method_3_14 rfl ?_
  exact Gl.retI Y0 (by decide) (by decide)  d_method_3_15 ⟨v14, rfl, (by first | omega | rfl), rfl⟩
def R39 : Room := { frames := 0, cells := 0, slots := 0, locals := 0 }
def Q39 (Z : State) (w : Int32) (h0 : Heap) (v : Option Value) (h : Heap) : Prop := ∃ r : Int32, v = some (.int r) ∧ (r.toInt = 0) ∧ h0 = h
theorem ef39 (w : Int32) (m : MethodId) : entryFrame m #[(.int w), (.int (2 : Int32)), (.int (2 : Int32)), (.int (2 : Int32))] 4 = mkF m 0 #[.val (.int w), .val (.int (2 : Int32)), .val (.int (2 : Int32)), .val (.int (2 : Int32))] [] := by first | (simp [entryFrame, mkF, argsToLocals, Value.category]; done) | rfl
set_option maxRecDepth 65536 in
set_option maxHeartbeats 40000000 in
theorem rm39 (l : Launch) (Z : State) (a0 : Array Value) (hw : ∀ d ∈ tables_1, d.before a0 Z = true) (ws : List Jvm.Cond) (w : Int32) (h0 : Heap) (n0 : Nat) (Z0 : n0 ≤ h0.size) : OMet l Z ws (⟨"com/example/benchwire/benchwire/astm/LinkChecksumPinLaw", "term", "(IIII)I"⟩ : MethodName) method_3_code 4 (some .int) R39 #[(.int w), (.int (2 : Int32)), (.int (2 : Int32)), (.int (2 : Int32))] h0 n0 (Q39 Z w h0) := by
  refine OMet.of (plainFor_of_name pn_0) (ef39 w) Z0 ?_
  intro p e s m below meth c T0 Y0 hnm
  have Y0 : Sd Z "com/example/benchwire/benchwire/astm/LinkChecksumPinLaw" method_3_code 4 (some .int) n0 p l e R39 s m #[(.int w), (.int (2 : Int32)), (.int (2 : Int32)), (.int (2 : Int32))] below meth c T0 h0 0 0 := Y0
  have nw := rng32 w
  refine Gl.iloadN Y0 rfl d_method_3_0 rfl ?_
  refine Gl.iloadN Y0 rfl d_method_3_1 rfl ?_
  refine Gl.icmpgt Y0 d_method_3_2 (by decide) rfl rfl (fun c2 => ?_) (fun c2 => ?_)
  · exact absurd c2 (by decide)
  refine Gl.iloadN Y0 rfl d_method_3_5 rfl ?_
  refine Gl.iloadN Y0 rfl d_method_3_6 rfl ?_
  refine Gl.icmpge Y0 d_method_3_7 (by decide) rfl rfl (fun c7 => ?_) (fun c7 => ?_)
  rotate_left
  · exact absurd c7 (by decide)
  refine Gl.iconst Y0 (v := (0 : Int32)) (by decide) d_method_3_16 rfl ?_
  exact Gl.retI Y0 (by decide) (by decide)  d_method_3_17 ⟨(0 : Int32), rfl, (by first | omega | rfl), rfl⟩
def R40 : Room := { frames := 0, cells := 0, slots := 0, locals := 0 }
def Q40 (Z : State) (w : Int32) (h0 : Heap) (v : Option Value) (h : Heap) : Prop := ∃ r : Int32, v = some (.int r) ∧ (r.toInt = w.toInt % 256) ∧ h0 = h
theorem ef40 (w : Int32) (m : MethodId) : entryFrame m #[(.int w), (.int (2 : Int32)), (.int (2 : Int32)), (.int (3 : Int32))] 4 = mkF m 0 #[.val (.int w), .val (.int (2 : Int32)), .val (.int (2 : Int32)), .val (.int (3 : Int32))] [] := by first | (simp [entryFrame, mkF, argsToLocals, Value.category]; done) | rfl
set_option maxRecDepth 65536 in
set_option maxHeartbeats 40000000 in
theorem rm40 (l : Launch) (Z : State) (a0 : Array Value) (hw : ∀ d ∈ tables_1, d.before a0 Z = true) (ws : List Jvm.Cond) (w : Int32) (h0 : Heap) (n0 : Nat) (Z0 : n0 ≤ h0.size) : OMet l Z ws (⟨"com/example/benchwire/benchwire/astm/LinkChecksumPinLaw", "term", "(IIII)I"⟩ : MethodName) method_3_code 4 (some .int) R40 #[(.int w), (.int (2 : Int32)), (.int (2 : Int32)), (.int (3 : Int32))] h0 n0 (Q40 Z w h0) := by
  refine OMet.of (plainFor_of_name pn_0) (ef40 w) Z0 ?_
  intro p e s m below meth c T0 Y0 hnm
  have Y0 : Sd Z "com/example/benchwire/benchwire/astm/LinkChecksumPinLaw" method_3_code 4 (some .int) n0 p l e R40 s m #[(.int w), (.int (2 : Int32)), (.int (2 : Int32)), (.int (3 : Int32))] below meth c T0 h0 0 0 := Y0
  have nw := rng32 w
  refine Gl.iloadN Y0 rfl d_method_3_0 rfl ?_
  refine Gl.iloadN Y0 rfl d_method_3_1 rfl ?_
  refine Gl.icmpgt Y0 d_method_3_2 (by decide) rfl rfl (fun c2 => ?_) (fun c2 => ?_)
  · exact absurd c2 (by decide)
  refine Gl.iloadN Y0 rfl d_method_3_5 rfl ?_
  refine Gl.iloadN Y0 rfl d_method_3_6 rfl ?_
  refine Gl.icmpge Y0 d_method_3_7 (by decide) rfl rfl (fun c7 => ?_) (fun c7 => ?_)
  · exact absurd c7 (by decide)
  refine Gl.iloadN Y0 rfl d_method_3_10 rfl ?_
  refine Gl.sipush Y0 (v := (255 : Int32)) (by decide) d_method_3_11 rfl ?_
  obtain ⟨v14, hv14⟩ : ∃ z : Int32, w &&& (255 : Int32) = z := ⟨_, rfl⟩
  have iv14 : v14.toInt = w.toInt % 256 := by have q := c_mask w (255 : Int32) 8 (by decide) (by decide); rw [hv14] at q; exact q
  refine Gl.iand Y0 hv14 d_method_3_14 rfl ?_
  exact Gl.retI Y0 (by decide) (by decide)  d_method_3_15 ⟨v14, rfl, (by first | omega | rfl), rfl⟩
def R41 : Room := { frames := 0, cells := 0, slots := 0, locals := 0 }
def Q41 (Z : State) (w : Int32) (h0 : Heap) (v : Option Value) (h : Heap) : Prop := ∃ r : Int32, v = some (.int r) ∧ (r.toInt = w.toInt % 256) ∧ h0 = h
theorem ef41 (w : Int32) (m : MethodId) : entryFrame m #[(.int w), (.int (2 : Int32)), (.int (2 : Int32)), (.int (4 : Int32))] 4 = mkF m 0 #[.val (.int w), .val (.int (2 : Int32)), .val (.int (2 : Int32)), .val (.int (4 : Int32))] [] := by first | (simp [entryFrame, mkF, argsToLocals, Value.category]; done) | rfl
set_option maxRecDepth 65536 in
set_option maxHeartbeats 40000000 in
theorem rm41 (l : Launch) (Z : State) (a0 : Array Value) (hw : ∀ d ∈ tables_1, d.before a0 Z = true) (ws : List Jvm.Cond) (w : Int32) (h0 : Heap) (n0 : Nat) (Z0 : n0 ≤ h0.size) : OMet l Z ws (⟨"com/example/benchwire/benchwire/astm/LinkChecksumPinLaw", "term", "(IIII)I"⟩ : MethodName) method_3_code 4 (some .int) R41 #[(.int w), (.int (2 : Int32)), (.int (2 : Int32)), (.int (4 : Int32))] h0 n0 (Q41 Z w h0) := by
  refine OMet.of (plainFor_of_name pn_0) (ef41 w) Z0 ?_
  intro p e s m below meth c T0 Y0 hnm
  have Y0 : Sd Z "com/example/benchwire/benchwire/astm/LinkChecksumPinLaw" method_3_code 4 (some .int) n0 p l e R41 s m #[(.int w), (.int (2 : Int32)), (.int (2 : Int32)), (.int (4 : Int32))] below meth c T0 h0 0 0 := Y0
  have nw := rng32 w
  refine Gl.iloadN Y0 rfl d_method_3_0 rfl ?_
  refine Gl.iloadN Y0 rfl d_method_3_1 rfl ?_
  refine Gl.icmpgt Y0 d_method_3_2 (by decide) rfl rfl (fun c2 => ?_) (fun c2 => ?_)
  · exact absurd c2 (by decide)
  refine Gl.iloadN Y0 rfl d_method_3_5 rfl ?_
  refine Gl.iloadN Y0 rfl d_method_3_6 rfl ?_
  refine Gl.icmpge Y0 d_method_3_7 (by decide) rfl rfl (fun c7 => ?_) (fun c7 => ?_)
  · exact absurd c7 (by decide)
  refine Gl.iloadN Y0 rfl d_method_3_10 rfl ?_
  refine Gl.sipush Y0 (v := (255 : Int32)) (by decide) d_method_3_11 rfl ?_
  obtain ⟨v14, hv14⟩ : ∃ z : Int32, w &&& (255 : Int32) = z := ⟨_, rfl⟩
  have iv14 : v14.toInt = w.toInt % 256 := by have q := c_mask w (255 : Int32) 8 (by decide) (by decide); rw [hv14] at q; exact q
  refine Gl.iand Y0 hv14 d_method_3_14 rfl ?_
  exact Gl.retI Y0 (by decide) (by decide)  d_method_3_15 ⟨v14, rfl, (by first | omega | rfl), rfl⟩
def R42 : Room := { frames := 0, cells := 0, slots := 0, locals := 0 }
def Q42 (Z : State) (w : Int32) (h0 : Heap) (v : Option Value) (h : Heap) : Prop := ∃ r : Int32, v = some (.int r) ∧ (r.toInt = 0) ∧ h0 = h
theorem ef42 (w : Int32) (m : MethodId) : entryFrame m #[(.int w), (.int (2 : Int32)), (.int (3 : Int32)), (.int (3 : Int32))] 4 = mkF m 0 #[.val (.int w), .val (.int (2 : Int32)), .val (.int (3 : Int32)), .val (.int (3 : Int32))] [] := by first | (simp [entryFrame, mkF, argsToLocals, Value.category]; done) | rfl
set_option maxRecDepth 65536 in
set_option maxHeartbeats 40000000 in
theorem rm42 (l : Launch) (Z : State) (a0 : Array Value) (hw : ∀ d ∈ tables_1, d.before a0 Z = true) (ws : List Jvm.Cond) (w : Int32) (h0 : Heap) (n0 : Nat) (Z0 : n0 ≤ h0.size) : OMet l Z ws (⟨"com/example/benchwire/benchwire/astm/LinkChecksumPinLaw", "term", "(IIII)I"⟩ : MethodName) method_3_code 4 (some .int) R42 #[(.int w), (.int (2 : Int32)), (.int (3 : Int32)), (.int (3 : Int32))] h0 n0 (Q42 Z w h0) := by
  refine OMet.of (plainFor_of_name pn_0) (ef42 w) Z0 ?_
  intro p e s m below meth c T0 Y0 hnm
  have Y0 : Sd Z "com/example/benchwire/benchwire/astm/LinkChecksumPinLaw" method_3_code 4 (some .int) n0 p l e R42 s m #[(.int w), (.int (2 : Int32)), (.int (3 : Int32)), (.int (3 : Int32))] below meth c T0 h0 0 0 := Y0
  have nw := rng32 w
  refine Gl.iloadN Y0 rfl d_method_3_0 rfl ?_
  refine Gl.iloadN Y0 rfl d_method_3_1 rfl ?_
  refine Gl.icmpgt Y0 d_method_3_2 (by decide) rfl rfl (fun c2 => ?_) (fun c2 => ?_)
  rotate_left
  · exact absurd c2 (by decide)
  refine Gl.iconst Y0 (v := (0 : Int32)) (by decide) d_method_3_16 rfl ?_
  exact Gl.retI Y0 (by decide) (by decide)  d_method_3_17 ⟨(0 : Int32), rfl, (by first | omega | rfl), rfl⟩
def R43 : Room := { frames := 0, cells := 0, slots := 0, locals := 0 }
def Q43 (Z : State) (w : Int32) (h0 : Heap) (v : Option Value) (h : Heap) : Prop := ∃ r : Int32, v = some (.int r) ∧ (r.toInt = 0) ∧ h0 = h
theorem ef43 (w : Int32) (m : MethodId) : entryFrame m #[(.int w), (.int (2 : Int32)), (.int (3 : Int32)), (.int (4 : Int32))] 4 = mkF m 0 #[.val (.int w), .val (.int (2 : Int32)), .val (.int (3 : Int32)), .val (.int (4 : Int32))] [] := by first | (simp [entryFrame, mkF, argsToLocals, Value.category]; done) | rfl
set_option maxRecDepth 65536 in
set_option maxHeartbeats 40000000 in
theorem rm43 (l : Launch) (Z : State) (a0 : Array Value) (hw : ∀ d ∈ tables_1, d.before a0 Z = true) (ws : List Jvm.Cond) (w : Int32) (h0 : Heap) (n0 : Nat) (Z0 : n0 ≤ h0.size) : OMet l Z ws (⟨"com/example/benchwire/benchwire/astm/LinkChecksumPinLaw", "term", "(IIII)I"⟩ : MethodName) method_3_code 4 (some .int) R43 #[(.int w), (.int (2 : Int32)), (.int (3 : Int32)), (.int (4 : Int32))] h0 n0 (Q43 Z w h0) := by
  refine OMet.of (plainFor_of_name pn_0) (ef43 w) Z0 ?_
  intro p e s m below meth c T0 Y0 hnm
  have Y0 : Sd Z "com/example/benchwire/benchwire/astm/LinkChecksumPinLaw" method_3_code 4 (some .int) n0 p l e R43 s m #[(.int w), (.int (2 : Int32)), (.int (3 : Int32)), (.int (4 : Int32))] below meth c T0 h0 0 0 := Y0
  have nw := rng32 w
  refine Gl.iloadN Y0 rfl d_method_3_0 rfl ?_
  refine Gl.iloadN Y0 rfl d_method_3_1 rfl ?_
  refine Gl.icmpgt Y0 d_method_3_2 (by decide) rfl rfl (fun c2 => ?_) (fun c2 => ?_)
  rotate_left
  · exact absurd c2 (by decide)
  refine Gl.iconst Y0 (v := (0 : Int32)) (by decide) d_method_3_16 rfl ?_
  exact Gl.retI Y0 (by decide) (by decide)  d_method_3_17 ⟨(0 : Int32), rfl, (by first | omega | rfl), rfl⟩
def R44 : Room := { frames := 0, cells := 0, slots := 0, locals := 0 }
def Q44 (Z : State) (w : Int32) (h0 : Heap) (v : Option Value) (h : Heap) : Prop := ∃ r : Int32, v = some (.int r) ∧ (r.toInt = 0) ∧ h0 = h
theorem ef44 (w : Int32) (m : MethodId) : entryFrame m #[(.int w), (.int (2 : Int32)), (.int (4 : Int32)), (.int (4 : Int32))] 4 = mkF m 0 #[.val (.int w), .val (.int (2 : Int32)), .val (.int (4 : Int32)), .val (.int (4 : Int32))] [] := by first | (simp [entryFrame, mkF, argsToLocals, Value.category]; done) | rfl
set_option maxRecDepth 65536 in
set_option maxHeartbeats 40000000 in
theorem rm44 (l : Launch) (Z : State) (a0 : Array Value) (hw : ∀ d ∈ tables_1, d.before a0 Z = true) (ws : List Jvm.Cond) (w : Int32) (h0 : Heap) (n0 : Nat) (Z0 : n0 ≤ h0.size) : OMet l Z ws (⟨"com/example/benchwire/benchwire/astm/LinkChecksumPinLaw", "term", "(IIII)I"⟩ : MethodName) method_3_code 4 (some .int) R44 #[(.int w), (.int (2 : Int32)), (.int (4 : Int32)), (.int (4 : Int32))] h0 n0 (Q44 Z w h0) := by
  refine OMet.of (plainFor_of_name pn_0) (ef44 w) Z0 ?_
  intro p e s m below meth c T0 Y0 hnm
  have Y0 : Sd Z "com/example/benchwire/benchwire/astm/LinkChecksumPinLaw" method_3_code 4 (some .int) n0 p l e R44 s m #[(.int w), (.int (2 : Int32)), (.int (4 : Int32)), (.int (4 : Int32))] below meth c T0 h0 0 0 := Y0
  have nw := rng32 w
  refine Gl.iloadN Y0 rfl d_method_3_0 rfl ?_
  refine Gl.iloadN Y0 rfl d_method_3_1 rfl ?_
  refine Gl.icmpgt Y0 d_method_3_2 (by decide) rfl rfl (fun c2 => ?_) (fun c2 => ?_)
  rotate_left
  · exact absurd c2 (by decide)
  refine Gl.iconst Y0 (v := (0 : Int32)) (by decide) d_method_3_16 rfl ?_
  exact Gl.retI Y0 (by decide) (by decide)  d_method_3_17 ⟨(0 : Int32), rfl, (by first | omega | rfl), rfl⟩
def R45 : Room := { frames := 0, cells := 0, slots := 0, locals := 0 }
def Q45 (Z : State) (w : Int32) (h0 : Heap) (v : Option Value) (h : Heap) : Prop := ∃ r : Int32, v = some (.int r) ∧ (r.toInt = 0) ∧ h0 = h
theorem ef45 (w : Int32) (m : MethodId) : entryFrame m #[(.int w), (.int (3 : Int32)), (.int (0 : Int32)), (.int (0 : Int32))] 4 = mkF m 0 #[.val (.int w), .val (.int (3 : Int32)), .val (.int (0 : Int32)), .val (.int (0 : Int32))] [] := by first | (simp [entryFrame, mkF, argsToLocals, Value.category]; done) | rfl
set_option maxRecDepth 65536 in
set_option maxHeartbeats 40000000 in
theorem rm45 (l : Launch) (Z : State) (a0 : Array Value) (hw : ∀ d ∈ tables_1, d.before a0 Z = true) (ws : List Jvm.Cond) (w : Int32) (h0 : Heap) (n0 : Nat) (Z0 : n0 ≤ h0.size) : OMet l Z ws (⟨"com/example/benchwire/benchwire/astm/LinkChecksumPinLaw", "term", "(IIII)I"⟩ : MethodName) method_3_code 4 (some .int) R45 #[(.int w), (.int (3 : Int32)), (.int (0 : Int32)), (.int (0 : Int32))] h0 n0 (Q45 Z w h0) := by
  refine OMet.of (plainFor_of_name pn_0) (ef45 w) Z0 ?_
  intro p e s m below meth c T0 Y0 hnm
  have Y0 : Sd Z "com/example/benchwire/benchwire/astm/LinkChecksumPinLaw" method_3_code 4 (some .int) n0 p l e R45 s m #[(.int w), (.int (3 : Int32)), (.int (0 : Int32)), (.int (0 : Int32))] below meth c T0 h0 0 0 := Y0
  have nw := rng32 w
  refine Gl.iloadN Y0 rfl d_method_3_0 rfl ?_
  refine Gl.iloadN Y0 rfl d_method_3_1 rfl ?_
  refine Gl.icmpgt Y0 d_method_3_2 (by decide) rfl rfl (fun c2 => ?_) (fun c2 => ?_)
  · exact absurd c2 (by decide)
  refine Gl.iloadN Y0 rfl d_method_3_5 rfl ?_
  refine Gl.iloadN Y0 rfl d_method_3_6 rfl ?_
  refine Gl.icmpge Y0 d_method_3_7 (by decide) rfl rfl (fun c7 => ?_) (fun c7 => ?_)
  rotate_left
  · exact absurd c7 (by decide)
  refine Gl.iconst Y0 (v := (0 : Int32)) (by decide) d_method_3_16 rfl ?_
  exact Gl.retI Y0 (by decide) (by decide)  d_method_3_17 ⟨(0 : Int32), rfl, (by first | omega | rfl), rfl⟩
def R46 : Room := { frames := 0, cells := 0, slots := 0, locals := 0 }
def Q46 (Z : State) (w : Int32) (h0 : Heap) (v : Option Value) (h : Heap) : Prop := ∃ r : Int32, v = some (.int r) ∧ (r.toInt = 0) ∧ h0 = h
theorem ef46 (w : Int32) (m : MethodId) : entryFrame m #[(.int w), (.int (3 : Int32)), (.int (0 : Int32)), (.int (1 : Int32))] 4 = mkF m 0 #[.val (.int w), .val (.int (3 : Int32)), .val (.int (0 : Int32)), .val (.int (1 : Int32))] [] := by first | (simp [entryFrame, mkF, argsToLocals, Value.category]; done) | rfl
set_option maxRecDepth 65536 in
set_option maxHeartbeats 40000000 in
theorem rm46 (l : Launch) (Z : State) (a0 : Array Value) (hw : ∀ d ∈ tables_1, d.before a0 Z = true) (ws : List Jvm.Cond) (w : Int32) (h0 : Heap) (n0 : Nat) (Z0 : n0 ≤ h0.size) : OMet l Z ws (⟨"com/example/benchwire/benchwire/astm/LinkChecksumPinLaw", "term", "(IIII)I"⟩ : MethodName) method_3_code 4 (some .int) R46 #[(.int w), (.int (3 : Int32)), (.int (0 : Int32)), (.int (1 : Int32))] h0 n0 (Q46 Z w h0) := by
  refine OMet.of (plainFor_of_name pn_0) (ef46 w) Z0 ?_
  intro p e s m below meth c T0 Y0 hnm
  have Y0 : Sd Z "com/example/benchwire/benchwire/astm/LinkChecksumPinLaw" method_3_code 4 (some .int) n0 p l e R46 s m #[(.int w), (.int (3 : Int32)), (.int (0 : Int32)), (.int (1 : Int32))] below meth c T0 h0 0 0 := Y0
  have nw := rng32 w
  refine Gl.iloadN Y0 rfl d_method_3_0 rfl ?_
  refine Gl.iloadN Y0 rfl d_method_3_1 rfl ?_
  refine Gl.icmpgt Y0 d_method_3_2 (by decide) rfl rfl (fun c2 => ?_) (fun c2 => ?_)
  · exact absurd c2 (by decide)
  refine Gl.iloadN Y0 rfl d_method_3_5 rfl ?_
  refine Gl.iloadN Y0 rfl d_method_3_6 rfl ?_
  refine Gl.icmpge Y0 d_method_3_7 (by decide) rfl rfl (fun c7 => ?_) (fun c7 => ?_)
  rotate_left
  · exact absurd c7 (by decide)
  refine Gl.iconst Y0 (v := (0 : Int32)) (by decide) d_method_3_16 rfl ?_
  exact Gl.retI Y0 (by decide) (by decide)  d_method_3_17 ⟨(0 : Int32), rfl, (by first | omega | rfl), rfl⟩
def R47 : Room := { frames := 0, cells := 0, slots := 0, locals := 0 }
def Q47 (Z : State) (w : Int32) (h0 : Heap) (v : Option Value) (h : Heap) : Prop := ∃ r : Int32, v = some (.int r) ∧ (r.toInt = 0) ∧ h0 = h
theorem ef47 (w : Int32) (m : MethodId) : entryFrame m #[(.int w), (.int (3 : Int32)), (.int (0 : Int32)), (.int (2 : Int32))] 4 = mkF m 0 #[.val (.int w), .val (.int (3 : Int32)), .val (.int (0 : Int32)), .val (.int (2 : Int32))] [] := by first | (simp [entryFrame, mkF, argsToLocals, Value.category]; done) | rfl
set_option maxRecDepth 65536 in
set_option maxHeartbeats 40000000 in
theorem rm47 (l : Launch) (Z : State) (a0 : Array Value) (hw : ∀ d ∈ tables_1, d.before a0 Z = true) (ws : List Jvm.Cond) (w : Int32) (h0 : Heap) (n0 : Nat) (Z0 : n0 ≤ h0.size) : OMet l Z ws (⟨"com/example/benchwire/benchwire/astm/LinkChecksumPinLaw", "term", "(IIII)I"⟩ : MethodName) method_3_code 4 (some .int) R47 #[(.int w), (.int (3 : Int32)), (.int (0 : Int32)), (.int (2 : Int32))] h0 n0 (Q47 Z w h0) := by
  refine OMet.of (plainFor_of_name pn_0) (ef47 w) Z0 ?_
  intro p e s m below meth c T0 Y0 hnm
  have Y0 : Sd Z "com/example/benchwire/benchwire/astm/LinkChecksumPinLaw" method_3_code 4 (some .int) n0 p l e R47 s m #[(.int w), (.int (3 : Int32)), (.int (0 : Int32)), (.int (2 : Int32))] below meth c T0 h0 0 0 := Y0
  have nw := rng32 w
  refine Gl.iloadN Y0 rfl d_method_3_0 rfl ?_
  refine Gl.iloadN Y0 rfl d_method_3_1 rfl ?_
  refine Gl.icmpgt Y0 d_method_3_2 (by decide) rfl rfl (fun c2 => ?_) (fun c2 => ?_)
  · exact absurd c2 (by decide)
  refine Gl.iloadN Y0 rfl d_method_3_5 rfl ?_
  refine Gl.iloadN Y0 rfl d_method_3_6 rfl ?_
  refine Gl.icmpge Y0 d_method_3_7 (by decide) rfl rfl (fun c7 => ?_) (fun c7 => ?_)
  rotate_left
  · exact absurd c7 (by decide)
  refine Gl.iconst Y0 (v := (0 : Int32)) (by decide) d_method_3_16 rfl ?_
  exact Gl.retI Y0 (by decide) (by decide)  d_method_3_17 ⟨(0 : Int32), rfl, (by first | omega | rfl), rfl⟩
def R48 : Room := { frames := 0, cells := 0, slots := 0, locals := 0 }
def Q48 (Z : State) (w : Int32) (h0 : Heap) (v : Option Value) (h : Heap) : Prop := ∃ r : Int32, v = some (.int r) ∧ (r.toInt = 0) ∧ h0 = h
theorem ef48 (w : Int32) (m : MethodId) : entryFrame m #[(.int w), (.int (3 : Int32)), (.int (0 : Int32)), (.int (3 : Int32))] 4 = mkF m 0 #[.val (.int w), .val (.int (3 : Int32)), .val (.int (0 : Int32)), .val (.int (3 : Int32))] [] := by first | (simp [entryFrame, mkF, argsToLocals, Value.category]; done) | rfl
set_option maxRecDepth 65536 in
set_option maxHeartbeats 40000000 in
theorem rm48 (l : Launch) (Z : State) (a0 : Array Value) (hw : ∀ d ∈ tables_1, d.before a0 Z = true) (ws : List Jvm.Cond) (w : Int32) (h0 : Heap) (n0 : Nat) (Z0 : n0 ≤ h0.size) : OMet l Z ws (⟨"com/example/benchwire/benchwire/astm/LinkChecksumPinLaw", "term", "(IIII)I"⟩ : MethodName) method_3_code 4 (some .int) R48 #[(.int w), (.int (3 : Int32)), (.int (0 : Int32)), (.int (3 : Int32))] h0 n0 (Q48 Z w h0) := by
  refine OMet.of (plainFor_of_name pn_0) (ef48 w) Z0 ?_
  intro p e s m below meth c T0 Y0 hnm
  have Y0 : Sd Z "com/example/benchwire/benchwire/astm/LinkChecksumPinLaw" method_3_code 4 (some .int) n0 p l e R48 s m #[(.int w), (.int (3 : Int32)), (.int (0 : Int32)), (.int (3 : Int32))] below meth c T0 h0 0 0 := Y0
  have nw := rng32 w
  refine Gl.iloadN Y0 rfl d_method_3_0 rfl ?_
  refine Gl.iloadN Y0 rfl d_method_3_1 rfl ?_
  refine Gl.icmpgt Y0 d_method_3_2 (by decide) rfl rfl (fun c2 => ?_) (fun c2 => ?_)
  · exact absurd c2 (by decide)
  refine Gl.iloadN Y0 rfl d_method_3_5 rfl ?_
  refine Gl.iloadN Y0 rfl d_method_3_6 rfl ?_
  refine Gl.icmpge Y0 d_method_3_7 (by decide) rfl rfl (fun c7 => ?_) (fun c7 => ?_)
  rotate_left
  · exact absurd c7 (by decide)
  refine Gl.iconst Y0 (v := (0 : Int32)) (by decide) d_method_3_16 rfl ?_
  exact Gl.retI Y0 (by decide) (by decide)  d_method_3_17 ⟨(0 : Int32), rfl, (by first | omega | rfl), rfl⟩
def R49 : Room := { frames := 0, cells := 0, slots := 0, locals := 0 }
def Q49 (Z : State) (w : Int32) (h0 : Heap) (v : Option Value) (h : Heap) : Prop := ∃ r : Int32, v = some (.int r) ∧ (r.toInt = w.toInt % 256) ∧ h0 = h
theorem ef49 (w : Int32) (m : MethodId) : entryFrame m #[(.int w), (.int (3 : Int32)), (.int (0 : Int32)), (.int (4 : Int32))] 4 = mkF m 0 #[.val (.int w), .val (.int (3 : Int32)), .val (.int (0 : Int32)), .val (.int (4 : Int32))] [] := by first | (simp [entryFrame, mkF, argsToLocals, Value.category]; done) | rfl
set_option maxRecDepth 65536 in
set_option maxHeartbeats 40000000 in
theorem rm49 (l : Launch) (Z : State) (a0 : Array Value) (hw : ∀ d ∈ tables_1, d.before a0 Z = true) (ws : List Jvm.Cond) (w : Int32) (h0 : Heap) (n0 : Nat) (Z0 : n0 ≤ h0.size) : OMet l Z ws (⟨"com/example/benchwire/benchwire/astm/LinkChecksumPinLaw", "term", "(IIII)I"⟩ : MethodName) method_3_code 4 (some .int) R49 #[(.int w), (.int (3 : Int32)), (.int (0 : Int32)), (.int (4 : Int32))] h0 n0 (Q49 Z w h0) := by
  refine OMet.of (plainFor_of_name pn_0) (ef49 w) Z0 ?_
  intro p e s m below meth c T0 Y0 hnm
  have Y0 : Sd Z "com/example/benchwire/benchwire/astm/LinkChecksumPinLaw" method_3_code 4 (some .int) n0 p l e R49 s m #[(.int w), (.int (3 : Int32)), (.int (0 : Int32)), (.int (4 : Int32))] below meth c T0 h0 0 0 := Y0
  have nw := rng32 w
  refine Gl.iloadN Y0 rfl d_method_3_0 rfl ?_
  refine Gl.iloadN Y0 rfl d_method_3_1 rfl ?_
  refine Gl.icmpgt Y0 d_method_3_2 (by decide) rfl rfl (fun c2 => ?_) (fun c2 => ?_)
  · exact absurd c2 (by decide)
  refine Gl.iloadN Y0 rfl d_method_3_5 rfl ?_
  refine Gl.iloadN Y0 rfl d_method_3_6 rfl ?_
  refine Gl.icmpge Y0 d_method_3_7 (by decide) rfl rfl (fun c7 => ?_) (fun c7 => ?_)
  · exact absurd c7 (by decide)
  refine Gl.iloadN Y0 rfl d_method_3_10 rfl ?_
  refine Gl.sipush Y0 (v := (255 : Int32)) (by decide) d_method_3_11 rfl ?_
  obtain ⟨v14, hv14⟩ : ∃ z : Int32, w &&& (255 : Int32) = z := ⟨_, rfl⟩
  have iv14 : v14.toInt = w.toInt % 256 := by have q := c_mask w (255 : Int32) 8 (by decide) (by decide); rw [hv14] at q; exact q
  refine Gl.iand Y0 hv14 d_method_3_14 rfl ?_
  exact Gl.retI Y0 (by decide) (by decide)  d_method_3_15 ⟨v14, rfl, (by first | omega | rfl), rfl⟩
def R50 : Room := { frames := 0, cells := 0, slots := 0, locals := 0 }
def Q50 (Z : State) (w : Int32) (h0 : Heap) (v : Option Value) (h : Heap) : Prop := ∃ r : Int32, v = some (.int r) ∧ (r.toInt = 0) ∧ h0 = h
theorem ef50 (w : Int32) (m : MethodId) : entryFrame m #[(.int w), (.int (3 : Int32)), (.int (1 : Int32)), (.int (1 : Int32))] 4 = mkF m 0 #[.val (.int w), .val (.int (3 : Int32)), .val (.int (1 : Int32)), .val (.int (1 : Int32))] [] := by first | (simp [entryFrame, mkF, argsToLocals, Value.category]; done) | rfl
set_option maxRecDepth 65536 in
set_option maxHeartbeats 40000000 in
theorem rm50 (l : Launch) (Z : State) (a0 : Array Value) (hw : ∀ d ∈ tables_1, d.before a0 Z = true) (ws : List Jvm.Cond) (w : Int32) (h0 : Heap) (n0 : Nat) (Z0 : n0 ≤ h0.size) : OMet l Z ws (⟨"com/example/benchwire/benchwire/astm/LinkChecksumPinLaw", "term", "(IIII)I"⟩ : MethodName) method_3_code 4 (some .int) R50 #[(.int w), (.int (3 : Int32)), (.int (1 : Int32)), (.int (1 : Int32))] h0 n0 (Q50 Z w h0) := by
  refine OMet.of (plainFor_of_name pn_0) (ef50 w) Z0 ?_
  intro p e s m below meth c T0 Y0 hnm
  have Y0 : Sd Z "com/example/benchwire/benchwire/astm/LinkChecksumPinLaw" method_3_code 4 (some .int) n0 p l e R50 s m #[(.int w), (.int (3 : Int32)), (.int (1 : Int32)), (.int (1 : Int32))] below meth c T0 h0 0 0 := Y0
  have nw := rng32 w
  refine Gl.iloadN Y0 rfl d_method_3_0 rfl ?_
  refine Gl.iloadN Y0 rfl d_method_3_1 rfl ?_
  refine Gl.icmpgt Y0 d_method_3_2 (by decide) rfl rfl (fun c2 => ?_) (fun c2 => ?_)
  · exact absurd c2 (by decide)
  refine Gl.iloadN Y0 rfl d_method_3_5 rfl ?_
  refine Gl.iloadN Y0 rfl d_method_3_6 rfl ?_
  refine Gl.icmpge Y0 d_method_3_7 (by decide) rfl rfl (fun c7 => ?_) (fun c7 => ?_)
  rotate_left
  · exact absurd c7 (by decide)
  refine Gl.iconst Y0 (v := (0 : Int32)) (by decide) d_method_3_16 rfl ?_
  exact Gl.retI Y0 (by decide) (by decide)  d_method_3_17 ⟨(0 : Int32), rfl, (by first | omega | rfl), rfl⟩
def R51 : Room := { frames := 0, cells := 0, slots := 0, locals := 0 }
def Q51 (Z : State) (w : Int32) (h0 : Heap) (v : Option Value) (h : Heap) : Prop := ∃ r : Int32, v = some (.int r) ∧ (r.toInt = 0) ∧ h0 = h
theorem ef51 (w : Int32) (m : MethodId) : entryFrame m #[(.int w), (.int (3 : Int32)), (.int (1 : Int32)), (.int (2 : Int32))] 4 = mkF m 0 #[.val (.int w), .val (.int (3 : Int32)), .val (.int (1 : Int32)), .val (.int (2 : Int32))] [] := by first | (simp [entryFrame, mkF, argsToLocals, Value.category]; done) | rfl
set_option maxRecDepth 65536 in
set_option maxHeartbeats 40000000 in
theorem rm51 (l : Launch) (Z : State) (a0 : Array Value) (hw : ∀ d ∈ tables_1, d.before a0 Z = true) (ws : List Jvm.Cond) (w : Int32) (h0 : Heap) (n0 : Nat) (Z0 : n0 ≤ h0.size) : OMet l Z ws (⟨"com/example/benchwire/benchwire/astm/LinkChecksumPinLaw", "term", "(IIII)I"⟩ : MethodName) method_3_code 4 (some .int) R51 #[(.int w), (.int (3 : Int32)), (.int (1 : Int32)), (.int (2 : Int32))] h0 n0 (Q51 Z w h0) := by
  refine OMet.of (plainFor_of_name pn_0) (ef51 w) Z0 ?_
  intro p e s m below meth c T0 Y0 hnm
  have Y0 : Sd Z "com/example/benchwire/benchwire/astm/LinkChecksumPinLaw" method_3_code 4 (some .int) n0 p l e R51 s m #[(.int w), (.int (3 : Int32)), (.int (1 : Int32)), (.int (2 : Int32))] below meth c T0 h0 0 0 := Y0
  have nw := rng32 w
  refine Gl.iloadN Y0 rfl d_method_3_0 rfl ?_
  refine Gl.iloadN Y0 rfl d_method_3_1 rfl ?_
  refine Gl.icmpgt Y0 d_method_3_2 (by decide) rfl rfl (fun c2 => ?_) (fun c2 => ?_)
  · exact absurd c2 (by decide)
  refine Gl.iloadN Y0 rfl d_method_3_5 rfl ?_
  refine Gl.iloadN Y0 rfl d_method_3_6 rfl ?_
  refine Gl.icmpge Y0 d_method_3_7 (by decide) rfl rfl (fun c7 => ?_) (fun c7 => ?_)
  rotate_left
  · exact absurd c7 (by decide)
  refine Gl.iconst Y0 (v := (0 : Int32)) (by decide) d_method_3_16 rfl ?_
  exact Gl.retI Y0 (by decide) (by decide)  d_method_3_17 ⟨(0 : Int32), rfl, (by first | omega | rfl), rfl⟩
def R52 : Room := { frames := 0, cells := 0, slots := 0, locals := 0 }
def Q52 (Z : State) (w : Int32) (h0 : Heap) (v : Option Value) (h : Heap) : Prop := ∃ r : Int32, v = some (.int r) ∧ (r.toInt = 0) ∧ h0 = h
theorem ef52 (w : Int32) (m : MethodId) : entryFrame m #[(.int w), (.int (3 : Int32)), (.int (1 : Int32)), (.int (3 : Int32))] 4 = mkF m 0 #[.val (.int w), .val (.int (3 : Int32)), .val (.int (1 : Int32)), .val (.int (3 : Int32))] [] := by first | (simp [entryFrame, mkF, argsToLocals, Value.category]; done) | rfl
set_option maxRecDepth 65536 in
set_option maxHeartbeats 40000000 in
theorem rm52 (l : Launch) (Z : State) (a0 : Array Value) (hw : ∀ d ∈ tables_1, d.before a0 Z = true) (ws : List Jvm.Cond) (w : Int32) (h0 : Heap) (n0 : Nat) (Z0 : n0 ≤ h0.size) : OMet l Z ws (⟨"com/example/benchwire/benchwire/astm/LinkChecksumPinLaw", "term", "(IIII)I"⟩ : MethodName) method_3_code 4 (some .int) R52 #[(.int w), (.int (3 : Int32)), (.int (1 : Int32)), (.int (3 : Int32))] h0 n0 (Q52 Z w h0) := by
  refine OMet.of (plainFor_of_name pn_0) (ef52 w) Z0 ?_
  intro p e s m below meth c T0 Y0 hnm
  have Y0 : Sd Z "com/example/benchwire/benchwire/astm/LinkChecksumPinLaw" method_3_code 4 (some .int) n0 p l e R52 s m #[(.int w), (.int (3 : Int32)), (.int (1 : Int32)), (.int (3 : Int32))] below meth c T0 h0 0 0 := Y0
  have nw := rng32 w
  refine Gl.iloadN Y0 rfl d_method_3_0 rfl ?_
  refine Gl.iloadN Y0 rfl d_method_3_1 rfl ?_
  refine Gl.icmpgt Y0 d_method_3_2 (by decide) rfl rfl (fun c2 => ?_) (fun c2 => ?_)
  · exact absurd c2 (by decide)
  refine Gl.iloadN Y0 rfl d_method_3_5 rfl ?_
  refine Gl.iloadN Y0 rfl d_method_3_6 rfl ?_
  refine Gl.icmpge Y0 d_method_3_7 (by decide) rfl rfl (fun c7 => ?_) (fun c7 => ?_)
  rotate_left
  · exact absurd c7 (by decide)
  refine Gl.iconst Y0 (v := (0 : Int32)) (by decide) d_method_3_16 rfl ?_
  exact Gl.retI Y0 (by decide) (by decide)  d_method_3_17 ⟨(0 : Int32), rfl, (by first | omega | rfl), rfl⟩
def R53 : Room := { frames := 0, cells := 0, slots := 0, locals := 0 }
def Q53 (Z : State) (w : Int32) (h0 : Heap) (v : Option Value) (h : Heap) : Prop := ∃ r : Int32, v = some (.int r) ∧ (r.toInt = w.toInt % 256) ∧ h0 = h
theorem ef53 (w : Int32) (m : MethodId) : entryFrame m #[(.int w), (.int (3 : Int32)), (.int (1 : Int32)), (.int (4 : Int32))] 4 = mkF m 0 #[.val (.int w), .val (.int (3 : Int32)), .val (.int (1 : Int32)), .val (.int (4 : Int32))] [] := by first | (simp [entryFrame, mkF, argsToLocals, Value.category]; done) | rfl
set_option maxRecDepth 65536 in
set_option maxHeartbeats 40000000 in
theorem rm53 (l : Launch) (Z : State) (a0 : Array Value) (hw : ∀ d ∈ tables_1, d.before a0 Z = true) (ws : List Jvm.Cond) (w : Int32) (h0 : Heap) (n0 : Nat) (Z0 : n0 ≤ h0.size) : OMet l Z ws (⟨"com/example/benchwire/benchwire/astm/LinkChecksumPinLaw", "term", "(IIII)I"⟩ : MethodName) method_3_code 4 (some .int) R53 #[(.int w), (.int (3 : Int32)), (.int (1 : Int32)), (.int (4 : Int32))] h0 n0 (Q53 Z w h0) := by
  refine OMet.of (plainFor_of_name pn_0) (ef53 w) Z0 ?_
  intro p e s m below meth c T0 Y0 hnm
  have Y0 : Sd Z "com/example/benchwire/benchwire/astm/LinkChecksumPinLaw" method_3_code 4 (some .int) n0 p l e R53 s m #[(.int w), (.int (3 : Int32)), (.int (1 : Int32)), (.int (4 : Int32))] below meth c T0 h0 0 0 := Y0
  have nw := rng32 w
  refine Gl.iloadN Y0 rfl d_method_3_0 rfl ?_
  refine Gl.iloadN Y0 rfl d_method_3_1 rfl ?_
  refine Gl.icmpgt Y0 d_method_3_2 (by decide) rfl rfl (fun c2 => ?_) (fun c2 => ?_)
  · exact absurd c2 (by decide)
  refine Gl.iloadN Y0 rfl d_method_3_5 rfl ?_
  refine Gl.iloadN Y0 rfl d_method_3_6 rfl ?_
  refine Gl.icmpge Y0 d_method_3_7 (by decide) rfl rfl (fun c7 => ?_) (fun c7 => ?_)
  · exact absurd c7 (by decide)
  refine Gl.iloadN Y0 rfl d_method_3_10 rfl ?_
  refine Gl.sipush Y0 (v := (255 : Int32)) (by decide) d_method_3_11 rfl ?_
  obtain ⟨v14, hv14⟩ : ∃ z : Int32, w &&& (255 : Int32) = z := ⟨_, rfl⟩
  have iv14 : v14.toInt = w.toInt % 256 := by have q := c_mask w (255 : Int32) 8 (by decide) (by decide); rw [hv14] at q; exact q
  refine Gl.iand Y0 hv14 d_method_3_14 rfl ?_
  exact Gl.retI Y0 (by decide) (by decide)  d_method_3_15 ⟨v14, rfl, (by first | omega | rfl), rfl⟩
def R54 : Room := { frames := 0, cells := 0, slots := 0, locals := 0 }
def Q54 (Z : State) (w : Int32) (h0 : Heap) (v : Option Value) (h : Heap) : Prop := ∃ r : Int32, v = some (.int r) ∧ (r.toInt = 0) ∧ h0 = h
theorem ef54 (w : Int32) (m : MethodId) : entryFrame m #[(.int w), (.int (3 : Int32)), (.int (2 : Int32)), (.int (2 : Int32))] 4 = mkF m 0 #[.val (.int w), .val (.int (3 : Int32)), .val (.int (2 : Int32)), .val (.int (2 : Int32))] [] := by first | (simp [entryFrame, mkF, argsToLocals, Value.category]; done) | rfl
set_option maxRecDepth 65536 in
set_option maxHeartbeats 40000000 in
theorem rm54 (l : Launch) (Z : State) (a0 : Array Value) (hw : ∀ d ∈ tables_1, d.before a0 Z = true) (ws : List Jvm.Cond) (w : Int32) (h0 : Heap) (n0 : Nat) (Z0 : n0 ≤ h0.size) : OMet l Z ws (⟨"com/example/benchwire/benchwire/astm/LinkChecksumPinLaw", "term", "(IIII)I"⟩ : MethodName) method_3_code 4 (some .int) R54 #[(.int w), (.int (3 : Int32)), (.int (2 : Int32)), (.int (2 : Int32))] h0 n0 (Q54 Z w h0) := by
  refine OMet.of (plainFor_of_name pn_0) (ef54 w) Z0 ?_
  intro p e s m below meth c T0 Y0 hnm
  have Y0 : Sd Z "com/example/benchwire/benchwire/astm/LinkChecksumPinLaw" method_3_code 4 (some .int) n0 p l e R54 s m #[(.int w), (.int (3 : Int32)), (.int (2 : Int32)), (.int (2 : Int32))] below meth c T0 h0 0 0 := Y0
  have nw := rng32 w
  refine Gl.iloadN Y0 rfl d_method_3_0 rfl ?_
  refine Gl.iloadN Y0 rfl d_method_3_1 rfl ?_
  refine Gl.icmpgt Y0 d_method_3_2 (by decide) rfl rfl (fun c2 => ?_) (fun c2 => ?_)
  · exact absurd c2 (by decide)
  refine Gl.iloadN Y0 rfl d_method_3_5 rfl ?_
  refine Gl.iloadN Y0 rfl d_method_3_6 rfl ?_
  refine Gl.icmpge Y0 d_method_3_7 (by decide) rfl rfl (fun c7 => ?_) (fun c7 => ?_)
  rotate_left
  · exact absurd c7 (by decide)
  refine Gl.iconst Y0 (v := (0 : Int32)) (by decide) d_method_3_16 rfl ?_
  exact Gl.retI Y0 (by decide) (by decide)  d_method_3_17 ⟨(0 : Int32), rfl, (by first | omega | rfl), rfl⟩
def R55 : Room := { frames := 0, cells := 0, slots := 0, locals := 0 }
def Q55 (Z : State) (w : Int32) (h0 : Heap) (v : Option Value) (h : Heap) : Prop := ∃ r : Int32, v = some (.int r) ∧ (r.toInt = 0) ∧ h0 = h
theorem ef55 (w : Int32) (m : MethodId) : entryFrame m #[(.int w), (.int (3 : Int32)), (.int (2 : Int32)), (.int (3 : Int32))] 4 = mkF m 0 #[.val (.int w), .val (.int (3 : Int32)), .val (.int (2 : Int32)), .val (.int (3 : Int32))] [] := by first | (simp [entryFrame, mkF, argsToLocals, Value.category]; done) | rfl
set_option maxRecDepth 65536 in
set_option maxHeartbeats 40000000 in
theorem rm55 (l : Launch) (Z : State) (a0 : Array Value) (hw : ∀ d ∈ tables_1, d.before a0 Z = true) (ws : List Jvm.Cond) (w : Int32) (h0 : Heap) (n0 : Nat) (Z0 : n0 ≤ h0.size) : OMet l Z ws (⟨"com/example/benchwire/benchwire/astm/LinkChecksumPinLaw", "term", "(IIII)I"⟩ : MethodName) method_3_code 4 (some .int) R55 #[(.int w), (.int (3 : Int32)), (.int (2 : Int32)), (.int (3 : Int32))] h0 n0 (Q55 Z w h0) := by
  refine OMet.of (plainFor_of_name pn_0) (ef55 w) Z0 ?_
  intro p e s m below meth c T0 Y0 hnm
  have Y0 : Sd Z "com/example/benchwire/benchwire/astm/LinkChecksumPinLaw" method_3_code 4 (some .int) n0 p l e R55 s m #[(.int w), (.int (3 : Int32)), (.int (2 : Int32)), (.int (3 : Int32))] below meth c T0 h0 0 0 := Y0
  have nw := rng32 w
  refine Gl.iloadN Y0 rfl d_method_3_0 rfl ?_
  refine Gl.iloadN Y0 rfl d_method_3_1 rfl ?_
  refine Gl.icmpgt Y0 d_method_3_2 (by decide) rfl rfl (fun c2 => ?_) (fun c2 => ?_)
  · exact absurd c2 (by decide)
  refine Gl.iloadN Y0 rfl d_method_3_5 rfl ?_
  refine Gl.iloadN Y0 rfl d_method_3_6 rfl ?_
  refine Gl.icmpge Y0 d_method_3_7 (by decide) rfl rfl (fun c7 => ?_) (fun c7 => ?_)
  rotate_left
  · exact absurd c7 (by decide)
  refine Gl.iconst Y0 (v := (0 : Int32)) (by decide) d_method_3_16 rfl ?_
  exact Gl.retI Y0 (by decide) (by decide)  d_method_3_17 ⟨(0 : Int32), rfl, (by first | omega | rfl), rfl⟩
def R56 : Room := { frames := 0, cells := 0, slots := 0, locals := 0 }
def Q56 (Z : State) (w : Int32) (h0 : Heap) (v : Option Value) (h : Heap) : Prop := ∃ r : Int32, v = some (.int r) ∧ (r.toInt = w.toInt % 256) ∧ h0 = h
theorem ef56 (w : Int32) (m : MethodId) : entryFrame m #[(.int w), (.int (3 : Int32)), (.int (2 : Int32)), (.int (4 : Int32))] 4 = mkF m 0 #[.val (.int w), .val (.int (3 : Int32)), .val (.int (2 : Int32)), .val (.int (4 : Int32))] [] := by first | (simp [entryFrame, mkF, argsToLocals, Value.category]; done) | rfl
set_option maxRecDepth 65536 in
set_option maxHeartbeats 40000000 in
theorem rm56 (l : Launch) (Z : State) (a0 : Array Value) (hw : ∀ d ∈ tables_1, d.before a0 Z = true) (ws : List Jvm.Cond) (w : Int32) (h0 : Heap) (n0 : Nat) (Z0 : n0 ≤ h0.size) : OMet l Z ws (⟨"com/example/benchwire/benchwire/astm/LinkChecksumPinLaw", "term", "(IIII)I"⟩ : MethodName) method_3_code 4 (some .int) R56 #[(.int w), (.int (3 : Int32)), (.int (2 : Int32)), (.int (4 : Int32))] h0 n0 (Q56 Z w h0) := by
  refine OMet.of (plainFor_of_name pn_0) (ef56 w) Z0 ?_
  intro p e s m below meth c T0 Y0 hnm
  have Y0 : Sd Z "com/example/benchwire/benchwire/astm/LinkChecksumPinLaw" method_3_code 4 (some .int) n0 p l e R56 s m #[(.int w), (.int (3 : Int32)), (.int (2 : Int32)), (.int (4 : Int32))] below meth c T0 h0 0 0 := Y0
  have nw := rng32 w
  refine Gl.iloadN Y0 rfl d_method_3_0 rfl ?_
  refine Gl.iloadN Y0 rfl d_method_3_1 rfl ?_
  refine Gl.icmpgt Y0 d_method_3_2 (by decide) rfl rfl (fun c2 => ?_) (fun c2 => ?_)
  · exact absurd c2 (by decide)
  refine Gl.iloadN Y0 rfl d_method_3_5 rfl ?_
  refine Gl.iloadN Y0 rfl d_method_3_6 rfl ?_
  refine Gl.icmpge Y0 d_method_3_7 (by decide) rfl rfl (fun c7 => ?_) (fun c7 => ?_)
  · exact absurd c7 (by decide)
  refine Gl.iloadN Y0 rfl d_method_3_10 rfl ?_
  refine Gl.sipush Y0 (v := (255 : Int32)) (by decide) d_method_3_11 rfl ?_
  obtain ⟨v14, hv14⟩ : ∃ z : Int32, w &&& (255 : Int32) = z := ⟨_, rfl⟩
  have iv14 : v14.toInt = w.toInt % 256 := by have q := c_mask w (255 : Int32) 8 (by decide) (by decide); rw [hv14] at q; exact q
  refine Gl.iand Y0 hv14 d_method_3_14 rfl ?_
  exact Gl.retI Y0 (by decide) (by decide)  d_method_3_15 ⟨v14, rfl, (by first | omega | rfl), rfl⟩
def R57 : Room := { frames := 0, cells := 0, slots := 0, locals := 0 }
def Q57 (Z : State) (w : Int32) (h0 : Heap) (v : Option Value) (h : Heap) : Prop := ∃ r : Int32, v = some (.int r) ∧ (r.toInt = 0) ∧ h0 = h
theorem ef57 (w : Int32) (m : MethodId) : entryFrame m #[(.int w), (.int (3 : Int32)), (.int (3 : Int32)), (.int (3 : Int32))] 4 = mkF m 0 #[.val (.int w), .val (.int (3 : Int32)), .val (.int (3 : Int32)), .val (.int (3 : Int32))] [] := by first | (simp [entryFrame, mkF, argsToLocals, Value.category]; done) | rfl
set_option maxRecDepth 65536 in
set_option maxHeartbeats 40000000 in
theorem rm57 (l : Launch) (Z : State) (a0 : Array Value) (hw : ∀ d ∈ tables_1, d.before a0 Z = true) (ws : List Jvm.Cond) (w : Int32) (h0 : Heap) (n0 : Nat) (Z0 : n0 ≤ h0.size) : OMet l Z ws (⟨"com/example/benchwire/benchwire/astm/LinkChecksumPinLaw", "term", "(IIII)I"⟩ : MethodName) method_3_code 4 (some .int) R57 #[(.int w), (.int (3 : Int32)), (.int (3 : Int32)), (.int (3 : Int32))] h0 n0 (Q57 Z w h0) := by
  refine OMet.of (plainFor_of_name pn_0) (ef57 w) Z0 ?_
  intro p e s m below meth c T0 Y0 hnm
  have Y0 : Sd Z "com/example/benchwire/benchwire/astm/LinkChecksumPinLaw" method_3_code 4 (some .int) n0 p l e R57 s m #[(.int w), (.int (3 : Int32)), (.int (3 : Int32)), (.int (3 : Int32))] below meth c T0 h0 0 0 := Y0
  have nw := rng32 w
  refine Gl.iloadN Y0 rfl d_method_3_0 rfl ?_
  refine Gl.iloadN Y0 rfl d_method_3_1 rfl ?_
  refine Gl.icmpgt Y0 d_method_3_2 (by decide) rfl rfl (fun c2 => ?_) (fun c2 => ?_)
  · exact absurd c2 (by decide)
  refine Gl.iloadN Y0 rfl d_method_3_5 rfl ?_
  refine Gl.iloadN Y0 rfl d_method_3_6 rfl ?_
  refine Gl.icmpge Y0 d_method_3_7 (by decide) rfl rfl (fun c7 => ?_) (fun c7 => ?_)
  rotate_left
  · exact absurd c7 (by decide)
  refine Gl.iconst Y0 (v := (0 : Int32)) (by decide) d_method_3_16 rfl ?_
  exact Gl.retI Y0 (by decide) (by decide)  d_method_3_17 ⟨(0 : Int32), rfl, (by first | omega | rfl), rfl⟩
def R58 : Room := { frames := 0, cells := 0, slots := 0, locals := 0 }
def Q58 (Z : State) (w : Int32) (h0 : Heap) (v : Option Value) (h : Heap) : Prop := ∃ r : Int32, v = some (.int r) ∧ (r.toInt = w.toInt % 256) ∧ h0 = h
theorem ef58 (w : Int32) (m : MethodId) : entryFrame m #[(.int w), (.int (3 : Int32)), (.int (3 : Int32)), (.int (4 : Int32))] 4 = mkF m 0 #[.val (.int w), .val (.int (3 : Int32)), .val (.int (3 : Int32)), .val (.int (4 : Int32))] [] := by first | (simp [entryFrame, mkF, argsToLocals, Value.category]; done) | rfl
set_option maxRecDepth 65536 in
set_option maxHeartbeats 40000000 in
theorem rm58 (l : Launch) (Z : State) (a0 : Array Value) (hw : ∀ d ∈ tables_1, d.before a0 Z = true) (ws : List Jvm.Cond) (w : Int32) (h0 : Heap) (n0 : Nat) (Z0 : n0 ≤ h0.size) : OMet l Z ws (⟨"com/example/benchwire/benchwire/astm/LinkChecksumPinLaw", "term", "(IIII)I"⟩ : MethodName) method_3_code 4 (some .int) R58 #[(.int w), (.int (3 : Int32)), (.int (3 : Int32)), (.int (4 : Int32))] h0 n0 (Q58 Z w h0) := by
  refine OMet.of (plainFor_of_name pn_0) (ef58 w) Z0 ?_
  intro p e s m below meth c T0 Y0 hnm
  have Y0 : Sd Z "com/example/benchwire/benchwire/astm/LinkChecksumPinLaw" method_3_code 4 (some .int) n0 p l e R58 s m #[(.int w), (.int (3 : Int32)), (.int (3 : Int32)), (.int (4 : Int32))] below meth c T0 h0 0 0 := Y0
  have nw := rng32 w
  refine Gl.iloadN Y0 rfl d_method_3_0 rfl ?_
  refine Gl.iloadN Y0 rfl d_method_3_1 rfl ?_
  refine Gl.icmpgt Y0 d_method_3_2 (by decide) rfl rfl (fun c2 => ?_) (fun c2 => ?_)
  · exact absurd c2 (by decide)
  refine Gl.iloadN Y0 rfl d_method_3_5 rfl ?_
  refine Gl.iloadN Y0 rfl d_method_3_6 rfl ?_
  refine Gl.icmpge Y0 d_method_3_7 (by decide) rfl rfl (fun c7 => ?_) (fun c7 => ?_)
  · exact absurd c7 (by decide)
  refine Gl.iloadN Y0 rfl d_method_3_10 rfl ?_
  refine Gl.sipush Y0 (v := (255 : Int32)) (by decide) d_method_3_11 rfl ?_
  obtain ⟨v14, hv14⟩ : ∃ z : Int32, w &&& (255 : Int32) = z := ⟨_, rfl⟩
  have iv14 : v14.toInt = w.toInt % 256 := by have q := c_mask w (255 : Int32) 8 (by decide) (by decide); rw [hv14] at q; exact q
  refine Gl.iand Y0 hv14 d_method_3_14 rfl ?_
  exact Gl.retI Y0 (by decide) (by decide)  d_method_3_15 ⟨v14, rfl, (by first | omega | rfl), rfl⟩
def R59 : Room := { frames := 0, cells := 0, slots := 0, locals := 0 }
def Q59 (Z : State) (w : Int32) (h0 : Heap) (v : Option Value) (h : Heap) : Prop := ∃ r : Int32, v = some (.int r) ∧ (r.toInt = 0) ∧ h0 = h
theorem ef59 (w : Int32) (m : MethodId) : entryFrame m #[(.int w), (.int (3 : Int32)), (.int (4 : Int32)), (.int (4 : Int32))] 4 = mkF m 0 #[.val (.int w), .val (.int (3 : Int32)), .val (.int (4 : Int32)), .val (.int (4 : Int32))] [] := by first | (simp [entryFrame, mkF, argsToLocals, Value.category]; done) | rfl
set_option maxRecDepth 65536 in
set_option maxHeartbeats 40000000 in
theorem rm59 (l : Launch) (Z : State) (a0 : Array Value) (hw : ∀ d ∈ tables_1, d.before a0 Z = true) (ws : List Jvm.Cond) (w : Int32) (h0 : Heap) (n0 : Nat) (Z0 : n0 ≤ h0.size) : OMet l Z ws (⟨"com/example/benchwire/benchwire/astm/LinkChecksumPinLaw", "term", "(IIII)I"⟩ : MethodName) method_3_code 4 (some .int) R59 #[(.int w), (.int (3 : Int32)), (.int (4 : Int32)), (.int (4 : Int32))] h0 n0 (Q59 Z w h0) := by
  refine OMet.of (plainFor_of_name pn_0) (ef59 w) Z0 ?_
  intro p e s m below meth c T0 Y0 hnm
  have Y0 : Sd Z "com/example/benchwire/benchwire/astm/LinkChecksumPinLaw" method_3_code 4 (some .int) n0 p l e R59 s m #[(.int w), (.int (3 : Int32)), (.int (4 : Int32)), (.int (4 : Int32))] below meth c T0 h0 0 0 := Y0
  have nw := rng32 w
  refine Gl.iloadN Y0 rfl d_method_3_0 rfl ?_
  refine Gl.iloadN Y0 rfl d_method_3_1 rfl ?_
  refine Gl.icmpgt Y0 d_method_3_2 (by decide) rfl rfl (fun c2 => ?_) (fun c2 => ?_)
  rotate_left
  · exact absurd c2 (by decide)
  refine Gl.iconst Y0 (v := (0 : Int32)) (by decide) d_method_3_16 rfl ?_
  exact Gl.retI Y0 (by decide) (by decide)  d_method_3_17 ⟨(0 : Int32), rfl, (by first | omega | rfl), rfl⟩
theorem d_prog_1_method_2_0 : decode prog_1_method_2_code 0 = .ok (.iconst 0, 1) := by decide +kernel
theorem d_prog_1_method_2_1 : decode prog_1_method_2_code 1 = .ok (.istore_n 3, 1) := by decide +kernel
theorem d_prog_1_method_2_2 : decode prog_1_method_2_code 2 = .ok (.iload_n 1, 1) := by decide +kernel
theorem d_prog_1_method_2_3 : decode prog_1_method_2_code 3 = .ok (.istore 4, 2) := by decide +kernel
theorem d_prog_1_method_2_5 : decode prog_1_method_2_code 5 = .ok (.iload 4, 2) := by decide +kernel
theorem d_prog_1_method_2_7 : decode prog_1_method_2_code 7 = .ok (.iload_n 2, 1) := by decide +kernel
theorem d_prog_1_method_2_8 : decode prog_1_method_2_code 8 = .ok (.if_icmp .ge 20, 3) := by decide +kernel
theorem d_prog_1_method_2_28 : decode prog_1_method_2_code 28 = .ok (.iload_n 3, 1) := by decide +kernel
theorem d_prog_1_method_2_29 : decode prog_1_method_2_code 29 = .ok (.sipush 255, 3) := by decide +kernel
theorem d_prog_1_method_2_32 : decode prog_1_method_2_code 32 = .ok (.iand, 1) := by decide +kernel
theorem d_prog_1_method_2_33 : decode prog_1_method_2_code 33 = .ok (.ireturn, 1) := by decide +kernel
def R60 : Room := { frames := 0, cells := 0, slots := 0, locals := 0 }
def Q60 (Z : State) (a : Addr) (ck : ClassId) (w0 : Int32) (w1 : Int32) (w2 : Int32) (w3 : Int32) (h0 : Heap) (v : Option Value) (h : Heap) : Prop := ∃ r : Int32, v = some (.int r) ∧ (r.toInt = (0) % 256) ∧ h0 = h
theorem ef60 (a : Addr) (m : MethodId) : entryFrame m #[(.ref a), (.int (0 : Int32)), (.int (0 : Int32))] 5 = mkF m 0 #[.val (.ref a), .val (.int (0 : Int32)), .val (.int (0 : Int32)), .unset, .unset] [] := by first | (simp [entryFrame, mkF, argsToLocals, Value.category]; done) | rfl
theorem pn_1 : plainName "com/example/benchwire/benchwire/astm/Link" = true := by first | (simp [plainName, overriddenIn]; done) | decide +kernel
set_option maxRecDepth 65536 in
set_option maxHeartbeats 40000000 in
theorem rm60 (l : Launch) (Z : State) (a0 : Array Value) (hw : ∀ d ∈ tables_1, d.before a0 Z = true) (ws : List Jvm.Cond) (a : Addr) (ck : ClassId) (w0 : Int32) (w1 : Int32) (w2 : Int32) (w3 : Int32) (h0 : Heap) (n0 : Nat) (Z0 : n0 ≤ h0.size) (V : Arv Z h0 a ck .byte (4 : Int32) [(.int w0), (.int w1), (.int w2), (.int w3)] (.int (0 : Int32))) : OMet l Z ws (⟨"com/example/benchwire/benchwire/astm/Link", "checksum", "([BII)I"⟩ : MethodName) prog_1_method_2_code 5 (some .int) R60 #[(.ref a), (.int (0 : Int32)), (.int (0 : Int32))] h0 n0 (Q60 Z a ck w0 w1 w2 w3 h0) := by
  refine OMet.of (plainFor_of_name pn_1) (ef60 a) Z0 ?_
  intro p e s m below meth c T0 Y0 hnm
  have Y0 : Sd Z "com/example/benchwire/benchwire/astm/Link" prog_1_method_2_code 5 (some .int) n0 p l e R60 s m #[(.ref a), (.int (0 : Int32)), (.int (0 : Int32))] below meth c T0 h0 0 0 := Y0
  refine Gl.iconst Y0 (v := (0 : Int32)) (by decide) d_prog_1_method_2_0 rfl ?_
  refine Gl.istoreN Y0 (L' := #[.val (.ref a), .val (.int (0 : Int32)), .val (.int (0 : Int32)), .val (.int (0 : Int32)), .unset]) rfl d_prog_1_method_2_1 rfl ?_
  refine Gl.iloadN Y0 rfl d_prog_1_method_2_2 rfl ?_
  refine Gl.istore Y0 (L' := #[.val (.ref a), .val (.int (0 : Int32)), .val (.int (0 : Int32)), .val (.int (0 : Int32)), .val (.int (0 : Int32))]) rfl d_prog_1_method_2_3 rfl ?_
  refine Gl.iload Y0 rfl d_prog_1_method_2_5 rfl ?_
  refine Gl.iloadN Y0 rfl d_prog_1_method_2_7 rfl ?_
  refine Gl.icmpge Y0 d_prog_1_method_2_8 (by decide) rfl rfl (fun c8 => ?_) (fun c8 => ?_)
  rotate_left
  · exact absurd c8 (by decide)
  refine Gl.iloadN Y0 rfl d_prog_1_method_2_28 rfl ?_
  refine Gl.sipush Y0 (v := (255 : Int32)) (by decide) d_prog_1_method_2_29 rfl ?_
  refine Gl.iand Y0 (r := (0 : Int32)) (by decide) d_prog_1_method_2_32 rfl ?_
  exact Gl.retI Y0 (by decide) (by decide)  d_prog_1_method_2_33 ⟨(0 : Int32), rfl, (by first | omega | rfl), rfl⟩
theorem d_prog_1_method_2_11 : decode prog_1_method_2_code 11 = .ok (.iload_n 3, 1) := by decide +kernel
theorem d_prog_1_method_2_12 : decode prog_1_method_2_code 12 = .ok (.aload_n 0, 1) := by decide +kernel
theorem d_prog_1_method_2_13 : decode prog_1_method_2_code 13 = .ok (.iload 4, 2) := by decide +kernel
theorem d_prog_1_method_2_15 : decode prog_1_method_2_code 15 = .ok (.baload, 1) := by decide +kernel
theorem d_prog_1_method_2_16 : decode prog_1_method_2_code 16 = .ok (.sipush 255, 3) := by decide +kernel
theorem d_prog_1_method_2_19 : decode prog_1_method_2_code 19 = .ok (.iand, 1) := by decide +kernel
theorem d_prog_1_method_2_20 : decode prog_1_method_2_code 20 = .ok (.iadd, 1) := by decide +kernel
theorem d_prog_1_method_2_21 : decode prog_1_method_2_code 21 = .ok (.istore_n 3, 1) := by decide +kernel
theorem d_prog_1_method_2_22 : decode prog_1_method_2_code 22 = .ok (.iinc 4 1, 3) := by decide +kernel
theorem d_prog_1_method_2_25 : decode prog_1_method_2_code 25 = .ok (.goto (-20), 3) := by decide +kernel
def R61 : Room := { frames := 0, cells := 0, slots := 0, locals := 0 }
def Q61 (Z : State) (a : Addr) (ck : ClassId) (w0 : Int32) (w1 : Int32) (w2 : Int32) (w3 : Int32) (h0 : Heap) (v : Option Value) (h : Heap) : Prop := ∃ r : Int32, v = some (.int r) ∧ (r.toInt = (w0.toInt % 256) % 256) ∧ h0 = h
theorem ef61 (a : Addr) (m : MethodId) : entryFrame m #[(.ref a), (.int (0 : Int32)), (.int (1 : Int32))] 5 = mkF m 0 #[.val (.ref a), .val (.int (0 : Int32)), .val (.int (1 : Int32)), .unset, .unset] [] := by first | (simp [entryFrame, mkF, argsToLocals, Value.category]; done) | rfl
set_option maxRecDepth 65536 in
set_option maxHeartbeats 40000000 in
theorem rm61 (l : Launch) (Z : State) (a0 : Array Value) (hw : ∀ d ∈ tables_1, d.before a0 Z = true) (ws : List Jvm.Cond) (a : Addr) (ck : ClassId) (w0 : Int32) (w1 : Int32) (w2 : Int32) (w3 : Int32) (h0 : Heap) (n0 : Nat) (Z0 : n0 ≤ h0.size) (V : Arv Z h0 a ck .byte (4 : Int32) [(.int w0), (.int w1), (.int w2), (.int w3)] (.int (0 : Int32))) : OMet l Z ws (⟨"com/example/benchwire/benchwire/astm/Link", "checksum", "([BII)I"⟩ : MethodName) prog_1_method_2_code 5 (some .int) R61 #[(.ref a), (.int (0 : Int32)), (.int (1 : Int32))] h0 n0 (Q61 Z a ck w0 w1 w2 w3 h0) := by
  refine OMet.of (plainFor_of_name pn_1) (ef61 a) Z0 ?_
  intro p e s m below meth c T0 Y0 hnm
  have Y0 : Sd Z "com/example/benchwire/benchwire/astm/Link" prog_1_method_2_code 5 (some .int) n0 p l e R61 s m #[(.ref a), (.int (0 : Int32)), (.int (1 : Int32))] below meth c T0 h0 0 0 := Y0
  refine Gl.iconst Y0 (v := (0 : Int32)) (by decide) d_prog_1_method_2_0 rfl ?_
  refine Gl.istoreN Y0 (L' := #[.val (.ref a), .val (.int (0 : Int32)), .val (.int (1 : Int32)), .val (.int (0 : Int32)), .unset]) rfl d_prog_1_method_2_1 rfl ?_
  refine Gl.iloadN Y0 rfl d_prog_1_method_2_2 rfl ?_
  refine Gl.istore Y0 (L' := #[.val (.ref a), .val (.int (0 : Int32)), .val (.int (1 : Int32)), .val (.int (0 : Int32)), .val (.int (0 : Int32))]) rfl d_prog_1_method_2_3 rfl ?_
  refine Gl.iload Y0 rfl d_prog_1_method_2_5 rfl ?_
  refine Gl.iloadN Y0 rfl d_prog_1_method_2_7 rfl ?_
  refine Gl.icmpge Y0 d_prog_1_method_2_8 (by decide) rfl rfl (fun c8 => ?_) (fun c8 => ?_)
  · exact absurd c8 (by decide)
  refine Gl.iloadN Y0 rfl d_prog_1_method_2_11 rfl ?_
  refine Gl.aloadN Y0 rfl rfl d_prog_1_method_2_12 rfl ?_
  refine Gl.iload Y0 rfl d_prog_1_method_2_13 rfl ?_
  refine Gl.baload Y0 V ⟨by decide, by decide⟩ (v := (.int w0)) rfl d_prog_1_method_2_15 rfl ?_
  refine Gl.sipush Y0 (v := (255 : Int32)) (by decide) d_prog_1_method_2_16 rfl ?_
  obtain ⟨v19, hv19⟩ : ∃ z : Int32, w0 &&& (255 : Int32) = z := ⟨_, rfl⟩
  have iv19 : v19.toInt = w0.toInt % 256 := by have q := c_mask w0 (255 : Int32) 8 (by decide) (by decide); rw [hv19] at q; exact q
  refine Gl.iand Y0 hv19 d_prog_1_method_2_19 rfl ?_
  obtain ⟨v20, hv20⟩ : ∃ z : Int32, (0 : Int32) + v19 = z := ⟨_, rfl⟩
  have iv20 : v20.toInt = 0 + v19.toInt := by
    have q : (v20.toInt - (0 + v19.toInt)) % 4294967296 = 0 := by have q := c_iadd (0 : Int32) v19; rw [hv20] at q; exact q
    have r := rng32 v20
    omega
  refine Gl.iadd Y0 hv20 d_prog_1_method_2_20 rfl ?_
  refine Gl.istoreN Y0 (L' := #[.val (.ref a), .val (.int (0 : Int32)), .val (.int (1 : Int32)), .val (.int v20), .val (.int (0 : Int32))]) rfl d_prog_1_method_2_21 rfl ?_
  refine Gl.iinc Y0 rfl (r := (1 : Int32)) (by decide) (L' := #[.val (.ref a), .val (.int (0 : Int32)), .val (.int (1 : Int32)), .val (.int v20), .val (.int (1 : Int32))]) rfl d_prog_1_method_2_22 rfl ?_
  refine Gl.goto Y0 d_prog_1_method_2_25 (by decide) rfl ?_
  refine Gl.iload Y0 rfl d_prog_1_method_2_5 rfl ?_
  refine Gl.iloadN Y0 rfl d_prog_1_method_2_7 rfl ?_
  refine Gl.icmpge Y0 d_prog_1_method_2_8 (by decide) rfl rfl (fun c8_2 => ?_) (fun c8_2 => ?_)
  rotate_left
  · exact absurd c8_2 (by decide)
  refine Gl.iloadN Y0 rfl d_prog_1_method_2_28 rfl ?_
  refine Gl.sipush Y0 (v := (255 : Int32)) (by decide) d_prog_1_method_2_29 rfl ?_
  obtain ⟨v32, hv32⟩ : ∃ z : Int32, v20 &&& (255 : Int32) = z := ⟨_, rfl⟩
  have iv32 : v32.toInt = v20.toInt % 256 := by have q := c_mask v20 (255 : Int32) 8 (by decide) (by decide); rw [hv32] at q; exact q
  refine Gl.iand Y0 hv32 d_prog_1_method_2_32 rfl ?_
  exact Gl.retI Y0 (by decide) (by decide)  d_prog_1_method_2_33 ⟨v32, rfl, (by first | omega | rfl), rfl⟩
def R62 : Room := { frames := 0, cells := 0, slots := 0, locals := 0 }
def Q62 (Z : State) (a : Addr) (ck : ClassId) (w0 : Int32) (w1 : Int32) (w2 : Int32) (w3 : Int32) (h0 : Heap) (v : Option Value) (h : Heap) : Prop := ∃ r : Int32, v = some (.int r) ∧ (r.toInt = (w0.toInt % 256 + w1.toInt % 256) % 256) ∧ h0 = h
theorem ef62 (a : Addr) (m : MethodId) : entryFrame m #[(.ref a), (.int (0 : Int32)), (.int (2 : Int32))] 5 = mkF m 0 #[.val (.ref a), .val (.int (0 : Int32)), .val (.int (2 : Int32)), .unset, .unset] [] := by first | (simp [entryFrame, mkF, argsToLocals, Value.category]; done) | rfl
set_option maxRecDepth 65536 in
set_option maxHeartbeats 40000000 in
theorem rm62 (l : Launch) (Z : State) (a0 : Array Value) (hw : ∀ d ∈ tables_1, d.before a0 Z = true) (ws : List Jvm.Cond) (a : Addr) (ck : ClassId) (w0 : Int32) (w1 : Int32) (w2 : Int32) (w3 : Int32) (h0 : Heap) (n0 : Nat) (Z0 : n0 ≤ h0.size) (V : Arv Z h0 a ck .byte (4 : Int32) [(.int w0), (.int w1), (.int w2), (.int w3)] (.int (0 : Int32))) : OMet l Z ws (⟨"com/example/benchwire/benchwire/astm/Link", "checksum", "([BII)I"⟩ : MethodName) prog_1_method_2_code 5 (some .int) R62 #[(.ref a), (.int (0 : Int32)), (.int (2 : Int32))] h0 n0 (Q62 Z a ck w0 w1 w2 w3 h0) := by
  refine OMet.of (plainFor_of_name pn_1) (ef62 a) Z0 ?_
  intro p e s m below meth c T0 Y0 hnm
  have Y0 : Sd Z "com/example/benchwire/benchwire/astm/Link" prog_1_method_2_code 5 (some .int) n0 p l e R62 s m #[(.ref a), (.int (0 : Int32)), (.int (2 : Int32))] below meth c T0 h0 0 0 := Y0
  refine Gl.iconst Y0 (v := (0 : Int32)) (by decide) d_prog_1_method_2_0 rfl ?_
  refine Gl.istoreN Y0 (L' := #[.val (.ref a), .val (.int (0 : Int32)), .val (.int (2 : Int32)), .val (.int (0 : Int32)), .unset]) rfl d_prog_1_method_2_1 rfl ?_
  refine Gl.iloadN Y0 rfl d_prog_1_method_2_2 rfl ?_
  refine Gl.istore Y0 (L' := #[.val (.ref a), .val (.int (0 : Int32)), .val (.int (2 : Int32)), .val (.int (0 : Int32)), .val (.int (0 : Int32))]) rfl d_prog_1_method_2_3 rfl ?_
  refine Gl.iload Y0 rfl d_prog_1_method_2_5 rfl ?_
  refine Gl.iloadN Y0 rfl d_prog_1_method_2_7 rfl ?_
  refine Gl.icmpge Y0 d_prog_1_method_2_8 (by decide) rfl rfl (fun c8 => ?_) (fun c8 => ?_)
  · exact absurd c8 (by decide)
  refine Gl.iloadN Y0 rfl d_prog_1_method_2_11 rfl ?_
  refine Gl.aloadN Y0 rfl rfl d_prog_1_method_2_12 rfl ?_
  refine Gl.iload Y0 rfl d_prog_1_method_2_13 rfl ?_
  refine Gl.baload Y0 V ⟨by decide, by decide⟩ (v := (.int w0)) rfl d_prog_1_method_2_15 rfl ?_
  refine Gl.sipush Y0 (v := (255 : Int32)) (by decide) d_prog_1_method_2_16 rfl ?_
  obtain ⟨v19, hv19⟩ : ∃ z : Int32, w0 &&& (255 : Int32) = z := ⟨_, rfl⟩
  have iv19 : v19.toInt = w0.toInt % 256 := by have q := c_mask w0 (255 : Int32) 8 (by decide) (by decide); rw [hv19] at q; exact q
  refine Gl.iand Y0 hv19 d_prog_1_method_2_19 rfl ?_
  obtain ⟨v20, hv20⟩ : ∃ z : Int32, (0 : Int32) + v19 = z := ⟨_, rfl⟩
  have iv20 : v20.toInt = 0 + v19.toInt := by
    have q : (v20.toInt - (0 + v19.toInt)) % 4294967296 = 0 := by have q := c_iadd (0 : Int32) v19; rw [hv20] at q; exact q
    have r := rng32 v20
    omega
  refine Gl.iadd Y0 hv20 d_prog_1_method_2_20 rfl ?_
  refine Gl.istoreN Y0 (L' := #[.val (.ref a), .val (.int (0 : Int32)), .val (.int (2 : Int32)), .val (.int v20), .val (.int (0 : Int32))]) rfl d_prog_1_method_2_21 rfl ?_
  refine Gl.iinc Y0 rfl (r := (1 : Int32)) (by decide) (L' := #[.val (.ref a), .val (.int (0 : Int32)), .val (.int (2 : Int32)), .val (.int v20), .val (.int (1 : Int32))]) rfl d_prog_1_method_2_22 rfl ?_
  refine Gl.goto Y0 d_prog_1_method_2_25 (by decide) rfl ?_
  refine Gl.iload Y0 rfl d_prog_1_method_2_5 rfl ?_
  refine Gl.iloadN Y0 rfl d_prog_1_method_2_7 rfl ?_
  refine Gl.icmpge Y0 d_prog_1_method_2_8 (by decide) rfl rfl (fun c8_2 => ?_) (fun c8_2 => ?_)
  · exact absurd c8_2 (by decide)
  refine Gl.iloadN Y0 rfl d_prog_1_method_2_11 rfl ?_
  refine Gl.aloadN Y0 rfl rfl d_prog_1_method_2_12 rfl ?_
  refine Gl.iload Y0 rfl d_prog_1_method_2_13 rfl ?_
  refine Gl.baload Y0 V ⟨by decide, by decide⟩ (v := (.int w1)) rfl d_prog_1_method_2_15 rfl ?_
  refine Gl.sipush Y0 (v := (255 : Int32)) (by decide) d_prog_1_method_2_16 rfl ?_
  obtain ⟨v19_2, hv19_2⟩ : ∃ z : Int32, w1 &&& (255 : Int32) = z := ⟨_, rfl⟩
  have iv19_2 : v19_2.toInt = w1.toInt % 256 := by have q := c_mask w1 (255 : Int32) 8 (by decide) (by decide); rw [hv19_2] at q; exact q
  refine Gl.iand Y0 hv19_2 d_prog_1_method_2_19 rfl ?_
  obtain ⟨v20_2, hv20_2⟩ : ∃ z : Int32, v20 + v19_2 = z := ⟨_, rfl⟩
  have iv20_2 : v20_2.toInt = v20.toInt + v19_2.toInt := by
    have q : (v20_2.toInt - (v20.toInt + v19_2.toInt)) % 4294967296 = 0 := by have q := c_iadd v20 v19_2; rw [hv20_2] at q; exact q
    have r := rng32 v20_2
    omega
  refine Gl.iadd Y0 hv20_2 d_prog_1_method_2_20 rfl ?_
  refine Gl.istoreN Y0 (L' := #[.val (.ref a), .val (.int (0 : Int32)), .val (.int (2 : Int32)), .val (.int v20_2), .val (.int (1 : Int32))]) rfl d_prog_1_method_2_21 rfl ?_
  refine Gl.iinc Y0 rfl (r := (2 : Int32)) (by decide) (L' := #[.val (.ref a), .val (.int (0 : Int32)), .val (.int (2 : Int32)), .val (.int v20_2), .val (.int (2 : Int32))]) rfl d_prog_1_method_2_22 rfl ?_
  refine Gl.goto Y0 d_prog_1_method_2_25 (by decide) rfl ?_
  refine Gl.iload Y0 rfl d_prog_1_method_2_5 rfl ?_
  refine Gl.iloadN Y0 rfl d_prog_1_method_2_7 rfl ?_
  refine Gl.icmpge Y0 d_prog_1_method_2_8 (by decide) rfl rfl (fun c8_3 => ?_) (fun c8_3 => ?_)
  rotate_left
  · exact absurd c8_3 (by decide)
  refine Gl.iloadN Y0 rfl d_prog_1_method_2_28 rfl ?_
  refine Gl.sipush Y0 (v := (255 : Int32)) (by decide) d_prog_1_method_2_29 rfl ?_
  obtain ⟨v32, hv32⟩ : ∃ z : Int32, v20_2 &&& (255 : Int32) = z := ⟨_, rfl⟩
  have iv32 : v32.toInt = v20_2.toInt % 256 := by have q := c_mask v20_2 (255 : Int32) 8 (by decide) (by decide); rw [hv32] at q; exact q
  refine Gl.iand Y0 hv32 d_prog_1_method_2_32 rfl ?_
  exact Gl.retI Y0 (by decide) (by decide)  d_prog_1_method_2_33 ⟨v32, rfl, (by first | omega | rfl), rfl⟩
def R63 : Room := { frames := 0, cells := 0, slots := 0, locals := 0 }
def Q63 (Z : State) (a : Addr) (ck : ClassId) (w0 : Int32) (w1 : Int32) (w2 : Int32) (w3 : Int32) (h0 : Heap) (v : Option Value) (h : Heap) : Prop := ∃ r : Int32, v = some (.int r) ∧ (r.toInt = (w0.toInt % 256 + w1.toInt % 256 + w2.toInt % 256) % 256) ∧ h0 = h
theorem ef63 (a : Addr) (m : MethodId) : entryFrame m #[(.ref a), (.int (0 : Int32)), (.int (3 : Int32))] 5 = mkF m 0 #[.val (.ref a), .val (.int (0 : Int32)), .val (.int (3 : Int32)), .unset, .unset] [] := by first | (simp [entryFrame, mkF, argsToLocals, Value.category]; done) | rfl
set_option maxRecDepth 65536 in
set_option maxHeartbeats 40000000 in
theorem rm63 (l : Launch) (Z : State) (a0 : Array Value) (hw : ∀ d ∈ tables_1, d.before a0 Z = true) (ws : List Jvm.Cond) (a : Addr) (ck : ClassId) (w0 : Int32) (w1 : Int32) (w2 : Int32) (w3 : Int32) (h0 : Heap) (n0 : Nat) (Z0 : n0 ≤ h0.size) (V : Arv Z h0 a ck .byte (4 : Int32) [(.int w0), (.int w1), (.int w2), (.int w3)] (.int (0 : Int32))) : OMet l Z ws (⟨"com/example/benchwire/benchwire/astm/Link", "checksum", "([BII)I"⟩ : MethodName) prog_1_method_2_code 5 (some .int) R63 #[(.ref a), (.int (0 : Int32)), (.int (3 : Int32))] h0 n0 (Q63 Z a ck w0 w1 w2 w3 h0) := by
  refine OMet.of (plainFor_of_name pn_1) (ef63 a) Z0 ?_
  intro p e s m below meth c T0 Y0 hnm
  have Y0 : Sd Z "com/example/benchwire/benchwire/astm/Link" prog_1_method_2_code 5 (some .int) n0 p l e R63 s m #[(.ref a), (.int (0 : Int32)), (.int (3 : Int32))] below meth c T0 h0 0 0 := Y0
  refine Gl.iconst Y0 (v := (0 : Int32)) (by decide) d_prog_1_method_2_0 rfl ?_
  refine Gl.istoreN Y0 (L' := #[.val (.ref a), .val (.int (0 : Int32)), .val (.int (3 : Int32)), .val (.int (0 : Int32)), .unset]) rfl d_prog_1_method_2_1 rfl ?_
  refine Gl.iloadN Y0 rfl d_prog_1_method_2_2 rfl ?_
  refine Gl.istore Y0 (L' := #[.val (.ref a), .val (.int (0 : Int32)), .val (.int (3 : Int32)), .val (.int (0 : Int32)), .val (.int (0 : Int32))]) rfl d_prog_1_method_2_3 rfl ?_
  refine Gl.iload Y0 rfl d_prog_1_method_2_5 rfl ?_
  refine Gl.iloadN Y0 rfl d_prog_1_method_2_7 rfl ?_
  refine Gl.icmpge Y0 d_prog_1_method_2_8 (by decide) rfl rfl (fun c8 => ?_) (fun c8 => ?_)
  · exact absurd c8 (by decide)
  refine Gl.iloadN Y0 rfl d_prog_1_method_2_11 rfl ?_
  refine Gl.aloadN Y0 rfl rfl d_prog_1_method_2_12 rfl ?_
  refine Gl.iload Y0 rfl d_prog_1_method_2_13 rfl ?_
  refine Gl.baload Y0 V ⟨by decide, by decide⟩ (v := (.int w0)) rfl d_prog_1_method_2_15 rfl ?_
  refine Gl.sipush Y0 (v := (255 : Int32)) (by decide) d_prog_1_method_2_16 rfl ?_
  obtain ⟨v19, hv19⟩ : ∃ z : Int32, w0 &&& (255 : Int32) = z := ⟨_, rfl⟩
  have iv19 : v19.toInt = w0.toInt % 256 := by have q := c_mask w0 (255 : Int32) 8 (by decide) (by decide); rw [hv19] at q; exact q
  refine Gl.iand Y0 hv19 d_prog_1_method_2_19 rfl ?_
  obtain ⟨v20, hv20⟩ : ∃ z : Int32, (0 : Int32) + v19 = z := ⟨_, rfl⟩
  have iv20 : v20.toInt = 0 + v19.toInt := by
    have q : (v20.toInt - (0 + v19.toInt)) % 4294967296 = 0 := by have q := c_iadd (0 : Int32) v19; rw [hv20] at q; exact q
    have r := rng32 v20
    omega
  refine Gl.iadd Y0 hv20 d_prog_1_method_2_20 rfl ?_
  refine Gl.istoreN Y0 (L' := #[.val (.ref a), .val (.int (0 : Int32)), .val (.int (3 : Int32)), .val (.int v20), .val (.int (0 : Int32))]) rfl d_prog_1_method_2_21 rfl ?_
  refine Gl.iinc Y0 rfl (r := (1 : Int32)) (by decide) (L' := #[.val (.ref a), .val (.int (0 : Int32)), .val (.int (3 : Int32)), .val (.int v20), .val (.int (1 : Int32))]) rfl d_prog_1_method_2_22 rfl ?_
  refine Gl.goto Y0 d_prog_1_method_2_25 (by decide) rfl ?_
  refine Gl.iload Y0 rfl d_prog_1_method_2_5 rfl ?_
  refine Gl.iloadN Y0 rfl d_prog_1_method_2_7 rfl ?_
  refine Gl.icmpge Y0 d_prog_1_method_2_8 (by decide) rfl rfl (fun c8_2 => ?_) (fun c8_2 => ?_)
  · exact absurd c8_2 (by decide)
  refine Gl.iloadN Y0 rfl d_prog_1_method_2_11 rfl ?_
  refine Gl.aloadN Y0 rfl rfl d_prog_1_method_2_12 rfl ?_
  refine Gl.iload Y0 rfl d_prog_1_method_2_13 rfl ?_
  refine Gl.baload Y0 V ⟨by decide, by decide⟩ (v := (.int w1)) rfl d_prog_1_method_2_15 rfl ?_
  refine Gl.sipush Y0 (v := (255 : Int32)) (by decide) d_prog_1_method_2_16 rfl ?_
  obtain ⟨v19_2, hv19_2⟩ : ∃ z : Int32, w1 &&& (255 : Int32) = z := ⟨_, rfl⟩
  have iv19_2 : v19_2.toInt = w1.toInt % 256 := by have q := c_mask w1 (255 : Int32) 8 (by decide) (by decide); rw [hv19_2] at q; exact q
  refine Gl.iand Y0 hv19_2 d_prog_1_method_2_19 rfl ?_
  obtain ⟨v20_2, hv20_2⟩ : ∃ z : Int32, v20 + v19_2 = z := ⟨_, rfl⟩
  have iv20_2 : v20_2.toInt = v20.toInt + v19_2.toInt := by
    have q : (v20_2.toInt - (v20.toInt + v19_2.toInt)) % 4294967296 = 0 := by have q := c_iadd v20 v19_2; rw [hv20_2] at q; exact q
    have r := rng32 v20_2
    omega
  refine Gl.iadd Y0 hv20_2 d_prog_1_method_2_20 rfl ?_
  refine Gl.istoreN Y0 (L' := #[.val (.ref a), .val (.int (0 : Int32)), .val (.int (3 : Int32)), .val (.int v20_2), .val (.int (1 : Int32))]) rfl d_prog_1_method_2_21 rfl ?_
  refine Gl.iinc Y0 rfl (r := (2 : Int32)) (by decide) (L' := #[.val (.ref a), .val (.int (0 : Int32)), .val (.int (3 : Int32)), .val (.int v20_2), .val (.int (2 : Int32))]) rfl d_prog_1_method_2_22 rfl ?_
  refine Gl.goto Y0 d_prog_1_method_2_25 (by decide) rfl ?_
  refine Gl.iload Y0 rfl d_prog_1_method_2_5 rfl ?_
  refine Gl.iloadN Y0 rfl d_prog_1_method_2_7 rfl ?_
  refine Gl.icmpge Y0 d_prog_1_method_2_8 (by decide) rfl rfl (fun c8_3 => ?_) (fun c8_3 => ?_)
  · exact absurd c8_3 (by decide)
  refine Gl.iloadN Y0 rfl d_prog_1_method_2_11 rfl ?_
  refine Gl.aloadN Y0 rfl rfl d_prog_1_method_2_12 rfl ?_
  refine Gl.iload Y0 rfl d_prog_1_method_2_13 rfl ?_
  refine Gl.baload Y0 V ⟨by decide, by decide⟩ (v := (.int w2)) rfl d_prog_1_method_2_15 rfl ?_
  refine Gl.sipush Y0 (v := (255 : Int32)) (by decide) d_prog_1_method_2_16 rfl ?_
  obtain ⟨v19_3, hv19_3⟩ : ∃ z : Int32, w2 &&& (255 : Int32) = z := ⟨_, rfl⟩
  have iv19_3 : v19_3.toInt = w2.toInt % 256 := by have q := c_mask w2 (255 : Int32) 8 (by decide) (by decide); rw [hv19_3] at q; exact q
  refine Gl.iand Y0 hv19_3 d_prog_1_method_2_19 rfl ?_
  obtain ⟨v20_3, hv20_3⟩ : ∃ z : Int32, v20_2 + v19_3 = z := ⟨_, rfl⟩
  have iv20_3 : v20_3.toInt = v20_2.toInt + v19_3.toInt := by
    have q : (v20_3.toInt - (v20_2.toInt + v19_3.toInt)) % 4294967296 = 0 := by have q := c_iadd v20_2 v19_3; rw [hv20_3] at q; exact q
    have r := rng32 v20_3
    omega
  refine Gl.iadd Y0 hv20_3 d_prog_1_method_2_20 rfl ?_
  refine Gl.istoreN Y0 (L' := #[.val (.ref a), .val (.int (0 : Int32)), .val (.int (3 : Int32)), .val (.int v20_3), .val (.int (2 : Int32))]) rfl d_prog_1_method_2_21 rfl ?_
  refine Gl.iinc Y0 rfl (r := (3 : Int32)) (by decide) (L' := #[.val (.ref a), .val (.int (0 : Int32)), .val (.int (3 : Int32)), .val (.int v20_3), .val (.int (3 : Int32))]) rfl d_prog_1_method_2_22 rfl ?_
  refine Gl.goto Y0 d_prog_1_method_2_25 (by decide) rfl ?_
  refine Gl.iload Y0 rfl d_prog_1_method_2_5 rfl ?_
  refine Gl.iloadN Y0 rfl d_prog_1_method_2_7 rfl ?_
  refine Gl.icmpge Y0 d_prog_1_method_2_8 (by decide) rfl rfl (fun c8_4 => ?_) (fun c8_4 => ?_)
  rotate_left
  · exact absurd c8_4 (by decide)
  refine Gl.iloadN Y0 rfl d_prog_1_method_2_28 rfl ?_
  refine Gl.sipush Y0 (v := (255 : Int32)) (by decide) d_prog_1_method_2_29 rfl ?_
  obtain ⟨v32, hv32⟩ : ∃ z : Int32, v20_3 &&& (255 : Int32) = z := ⟨_, rfl⟩
  have iv32 : v32.toInt = v20_3.toInt % 256 := by have q := c_mask v20_3 (255 : Int32) 8 (by decide) (by decide); rw [hv32] at q; exact q
  refine Gl.iand Y0 hv32 d_prog_1_method_2_32 rfl ?_
  exact Gl.retI Y0 (by decide) (by decide)  d_prog_1_method_2_33 ⟨v32, rfl, (by first | omega | rfl), rfl⟩
def R64 : Room := { frames := 0, cells := 0, slots := 0, locals := 0 }
def Q64 (Z : State) (a : Addr) (ck : ClassId) (w0 : Int32) (w1 : Int32) (w2 : Int32) (w3 : Int32) (h0 : Heap) (v : Option Value) (h : Heap) : Prop := ∃ r : Int32, v = some (.int r) ∧ (r.toInt = (w0.toInt % 256 + w1.toInt % 256 + w2.toInt % 256 + w3.toInt % 256) % 256) ∧ h0 = h
theorem ef64 (a : Addr) (m : MethodId) : entryFrame m #[(.ref a), (.int (0 : Int32)), (.int (4 : Int32))] 5 = mkF m 0 #[.val (.ref a), .val (.int (0 : Int32)), .val (.int (4 : Int32)), .unset, .unset] [] := by first | (simp [entryFrame, mkF, argsToLocals, Value.category]; done) | rfl
set_option maxRecDepth 65536 in
set_option maxHeartbeats 40000000 in
theorem rm64 (l : Launch) (Z : State) (a0 : Array Value) (hw : ∀ d ∈ tables_1, d.before a0 Z = true) (ws : List Jvm.Cond) (a : Addr) (ck : ClassId) (w0 : Int32) (w1 : Int32) (w2 : Int32) (w3 : Int32) (h0 : Heap) (n0 : Nat) (Z0 : n0 ≤ h0.size) (V : Arv Z h0 a ck .byte (4 : Int32) [(.int w0), (.int w1), (.int w2), (.int w3)] (.int (0 : Int32))) : OMet l Z ws (⟨"com/example/benchwire/benchwire/astm/Link", "checksum", "([BII)I"⟩ : MethodName) prog_1_method_2_code 5 (some .int) R64 #[(.ref a), (.int (0 : Int32)), (.int (4 : Int32))] h0 n0 (Q64 Z a ck w0 w1 w2 w3 h0) := by
  refine OMet.of (plainFor_of_name pn_1) (ef64 a) Z0 ?_
  intro p e s m below meth c T0 Y0 hnm
  have Y0 : Sd Z "com/example/benchwire/benchwire/astm/Link" prog_1_method_2_code 5 (some .int) n0 p l e R64 s m #[(.ref a), (.int (0 : Int32)), (.int (4 : Int32))] below meth c T0 h0 0 0 := Y0
  refine Gl.iconst Y0 (v := (0 : Int32)) (by decide) d_prog_1_method_2_0 rfl ?_
  refine Gl.istoreN Y0 (L' := #[.val (.ref a), .val (.int (0 : Int32)), .val (.int (4 : Int32)), .val (.int (0 : Int32)), .unset]) rfl d_prog_1_method_2_1 rfl ?_
  refine Gl.iloadN Y0 rfl d_prog_1_method_2_2 rfl ?_
  refine Gl.istore Y0 (L' := #[.val (.ref a), .val (.int (0 : Int32)), .val (.int (4 : Int32)), .val (.int (0 : Int32)), .val (.int (0 : Int32))]) rfl d_prog_1_method_2_3 rfl ?_
  refine Gl.iload Y0 rfl d_prog_1_method_2_5 rfl ?_
  refine Gl.iloadN Y0 rfl d_prog_1_method_2_7 rfl ?_
  refine Gl.icmpge Y0 d_prog_1_method_2_8 (by decide) rfl rfl (fun c8 => ?_) (fun c8 => ?_)
  · exact absurd c8 (by decide)
  refine Gl.iloadN Y0 rfl d_prog_1_method_2_11 rfl ?_
  refine Gl.aloadN Y0 rfl rfl d_prog_1_method_2_12 rfl ?_
  refine Gl.iload Y0 rfl d_prog_1_method_2_13 rfl ?_
  refine Gl.baload Y0 V ⟨by decide, by decide⟩ (v := (.int w0)) rfl d_prog_1_method_2_15 rfl ?_
  refine Gl.sipush Y0 (v := (255 : Int32)) (by decide) d_prog_1_method_2_16 rfl ?_
  obtain ⟨v19, hv19⟩ : ∃ z : Int32, w0 &&& (255 : Int32) = z := ⟨_, rfl⟩
  have iv19 : v19.toInt = w0.toInt % 256 := by have q := c_mask w0 (255 : Int32) 8 (by decide) (by decide); rw [hv19] at q; exact q
  refine Gl.iand Y0 hv19 d_prog_1_method_2_19 rfl ?_
  obtain ⟨v20, hv20⟩ : ∃ z : Int32, (0 : Int32) + v19 = z := ⟨_, rfl⟩
  have iv20 : v20.toInt = 0 + v19.toInt := by
    have q : (v20.toInt - (0 + v19.toInt)) % 4294967296 = 0 := by have q := c_iadd (0 : Int32) v19; rw [hv20] at q; exact q
    have r := rng32 v20
    omega
  refine Gl.iadd Y0 hv20 d_prog_1_method_2_20 rfl ?_
  refine Gl.istoreN Y0 (L' := #[.val (.ref a), .val (.int (0 : Int32)), .val (.int (4 : Int32)), .val (.int v20), .val (.int (0 : Int32))]) rfl d_prog_1_method_2_21 rfl ?_
  refine Gl.iinc Y0 rfl (r := (1 : Int32)) (by decide) (L' := #[.val (.ref a), .val (.int (0 : Int32)), .val (.int (4 : Int32)), .val (.int v20), .val (.int (1 : Int32))]) rfl d_prog_1_method_2_22 rfl ?_
  refine Gl.goto Y0 d_prog_1_method_2_25 (by decide) rfl ?_
  refine Gl.iload Y0 rfl d_prog_1_method_2_5 rfl ?_
  refine Gl.iloadN Y0 rfl d_prog_1_method_2_7 rfl ?_
  refine Gl.icmpge Y0 d_prog_1_method_2_8 (by decide) rfl rfl (fun c8_2 => ?_) (fun c8_2 => ?_)
  · exact absurd c8_2 (by decide)
  refine Gl.iloadN Y0 rfl d_prog_1_method_2_11 rfl ?_
  refine Gl.aloadN Y0 rfl rfl d_prog_1_method_2_12 rfl ?_
  refine Gl.iload Y0 rfl d_prog_1_method_2_13 rfl ?_
  refine Gl.baload Y0 V ⟨by decide, by decide⟩ (v := (.int w1)) rfl d_prog_1_method_2_15 rfl ?_
  refine Gl.sipush Y0 (v := (255 : Int32)) (by decide) d_prog_1_method_2_16 rfl ?_
  obtain ⟨v19_2, hv19_2⟩ : ∃ z : Int32, w1 &&& (255 : Int32) = z := ⟨_, rfl⟩
  have iv19_2 : v19_2.toInt = w1.toInt % 256 := by have q := c_mask w1 (255 : Int32) 8 (by decide) (by decide); rw [hv19_2] at q; exact q
  refine Gl.iand Y0 hv19_2 d_prog_1_method_2_19 rfl ?_
  obtain ⟨v20_2, hv20_2⟩ : ∃ z : Int32, v20 + v19_2 = z := ⟨_, rfl⟩
  have iv20_2 : v20_2.toInt = v20.toInt + v19_2.toInt := by
    have q : (v20_2.toInt - (v20.toInt + v19_2.toInt)) % 4294967296 = 0 := by have q := c_iadd v20 v19_2; rw [hv20_2] at q; exact q
    have r := rng32 v20_2
    omega
  refine Gl.iadd Y0 hv20_2 d_prog_1_method_2_20 rfl ?_
  refine Gl.istoreN Y0 (L' := #[.val (.ref a), .val (.int (0 : Int32)), .val (.int (4 : Int32)), .val (.int v20_2), .val (.int (1 : Int32))]) rfl d_prog_1_method_2_21 rfl ?_
  refine Gl.iinc Y0 rfl (r := (2 : Int32)) (by decide) (L' := #[.val (.ref a), .val (.int (0 : Int32)), .val (.int (4 : Int32)), .val (.int v20_2), .val (.int (2 : Int32))]) rfl d_prog_1_method_2_22 rfl ?_
  refine Gl.goto Y0 d_prog_1_method_2_25 (by decide) rfl ?_
  refine Gl.iload Y0 rfl d_prog_1_method_2_5 rfl ?_
  refine Gl.iloadN Y0 rfl d_prog_1_method_2_7 rfl ?_
  refine Gl.icmpge Y0 d_prog_1_method_2_8 (by decide) rfl rfl (fun c8_3 => ?_) (fun c8_3 => ?_)
  · exact absurd c8_3 (by decide)
  refine Gl.iloadN Y0 rfl d_prog_1_method_2_11 rfl ?_
  refine Gl.aloadN Y0 rfl rfl d_prog_1_method_2_12 rfl ?_
  refine Gl.iload Y0 rfl d_prog_1_method_2_13 rfl ?_
  refine Gl.baload Y0 V ⟨by decide, by decide⟩ (v := (.int w2)) rfl d_prog_1_method_2_15 rfl ?_
  refine Gl.sipush Y0 (v := (255 : Int32)) (by decide) d_prog_1_method_2_16 rfl ?_
  obtain ⟨v19_3, hv19_3⟩ : ∃ z : Int32, w2 &&& (255 : Int32) = z := ⟨_, rfl⟩
  have iv19_3 : v19_3.toInt = w2.toInt % 256 := by have q := c_mask w2 (255 : Int32) 8 (by decide) (by decide); rw [hv19_3] at q; exact q
  refine Gl.iand Y0 hv19_3 d_prog_1_method_2_19 rfl ?_
  obtain ⟨v20_3, hv20_3⟩ : ∃ z : Int32, v20_2 + v19_3 = z := ⟨_, rfl⟩
  have iv20_3 : v20_3.toInt = v20_2.toInt + v19_3.toInt := by
    have q : (v20_3.toInt - (v20_2.toInt + v19_3.toInt)) % 4294967296 = 0 := by have q := c_iadd v20_2 v19_3; rw [hv20_3] at q; exact q
    have r := rng32 v20_3
    omega
  refine Gl.iadd Y0 hv20_3 d_prog_1_method_2_20 rfl ?_
  refine Gl.istoreN Y0 (L' := #[.val (.ref a), .val (.int (0 : Int32)), .val (.int (4 : Int32)), .val (.int v20_3), .val (.int (2 : Int32))]) rfl d_prog_1_method_2_21 rfl ?_
  refine Gl.iinc Y0 rfl (r := (3 : Int32)) (by decide) (L' := #[.val (.ref a), .val (.int (0 : Int32)), .val (.int (4 : Int32)), .val (.int v20_3), .val (.int (3 : Int32))]) rfl d_prog_1_method_2_22 rfl ?_
  refine Gl.goto Y0 d_prog_1_method_2_25 (by decide) rfl ?_
  refine Gl.iload Y0 rfl d_prog_1_method_2_5 rfl ?_
  refine Gl.iloadN Y0 rfl d_prog_1_method_2_7 rfl ?_
  refine Gl.icmpge Y0 d_prog_1_method_2_8 (by decide) rfl rfl (fun c8_4 => ?_) (fun c8_4 => ?_)
  · exact absurd c8_4 (by decide)
  refine Gl.iloadN Y0 rfl d_prog_1_method_2_11 rfl ?_
  refine Gl.aloadN Y0 rfl rfl d_prog_1_method_2_12 rfl ?_
  refine Gl.iload Y0 rfl d_prog_1_method_2_13 rfl ?_
  refine Gl.baload Y0 V ⟨by decide, by decide⟩ (v := (.int w3)) rfl d_prog_1_method_2_15 rfl ?_
  refine Gl.sipush Y0 (v := (255 : Int32)) (by decide) d_prog_1_method_2_16 rfl ?_
  obtain ⟨v19_4, hv19_4⟩ : ∃ z : Int32, w3 &&& (255 : Int32) = z := ⟨_, rfl⟩
  have iv19_4 : v19_4.toInt = w3.toInt % 256 := by have q := c_mask w3 (255 : Int32) 8 (by decide) (by decide); rw [hv19_4] at q; exact q
  refine Gl.iand Y0 hv19_4 d_prog_1_method_2_19 rfl ?_
  obtain ⟨v20_4, hv20_4⟩ : ∃ z : Int32, v20_3 + v19_4 = z := ⟨_, rfl⟩
  have iv20_4 : v20_4.toInt = v20_3.toInt + v19_4.toInt := by
    have q : (v20_4.toInt - (v20_3.toInt + v19_4.toInt)) % 4294967296 = 0 := by have q := c_iadd v20_3 v19_4; rw [hv20_4] at q; exact q
    have r := rng32 v20_4
    omega
  refine Gl.iadd Y0 hv20_4 d_prog_1_method_2_20 rfl ?_
  refine Gl.istoreN Y0 (L' := #[.val (.ref a), .val (.int (0 : Int32)), .val (.int (4 : Int32)), .val (.int v20_4), .val (.int (3 : Int32))]) rfl d_prog_1_method_2_21 rfl ?_
  refine Gl.iinc Y0 rfl (r := (4 : Int32)) (by decide) (L' := #[.val (.ref a), .val (.int (0 : Int32)), .val (.int (4 : Int32)), .val (.int v20_4), .val (.int (4 : Int32))]) rfl d_prog_1_method_2_22 rfl ?_
  refine Gl.goto Y0 d_prog_1_method_2_25 (by decide) rfl ?_
  refine Gl.iload Y0 rfl d_prog_1_method_2_5 rfl ?_
  refine Gl.iloadN Y0 rfl d_prog_1_method_2_7 rfl ?_
  refine Gl.icmpge Y0 d_prog_1_method_2_8 (by decide) rfl rfl (fun c8_5 => ?_) (fun c8_5 => ?_)
  rotate_left
  · exact absurd c8_5 (by decide)
  refine Gl.iloadN Y0 rfl d_prog_1_method_2_28 rfl ?_
  refine Gl.sipush Y0 (v := (255 : Int32)) (by decide) d_prog_1_method_2_29 rfl ?_
  obtain ⟨v32, hv32⟩ : ∃ z : Int32, v20_4 &&& (255 : Int32) = z := ⟨_, rfl⟩
  have iv32 : v32.toInt = v20_4.toInt % 256 := by have q := c_mask v20_4 (255 : Int32) 8 (by decide) (by decide); rw [hv32] at q; exact q
  refine Gl.iand Y0 hv32 d_prog_1_method_2_32 rfl ?_
  exact Gl.retI Y0 (by decide) (by decide)  d_prog_1_method_2_33 ⟨v32, rfl, (by first | omega | rfl), rfl⟩
def R65 : Room := { frames := 0, cells := 0, slots := 0, locals := 0 }
def Q65 (Z : State) (a : Addr) (ck : ClassId) (w0 : Int32) (w1 : Int32) (w2 : Int32) (w3 : Int32) (h0 : Heap) (v : Option Value) (h : Heap) : Prop := ∃ r : Int32, v = some (.int r) ∧ (r.toInt = (0) % 256) ∧ h0 = h
theorem ef65 (a : Addr) (m : MethodId) : entryFrame m #[(.ref a), (.int (1 : Int32)), (.int (1 : Int32))] 5 = mkF m 0 #[.val (.ref a), .val (.int (1 : Int32)), .val (.int (1 : Int32)), .unset, .unset] [] := by first | (simp [entryFrame, mkF, argsToLocals, Value.category]; done) | rfl
set_option maxRecDepth 65536 in
set_option maxHeartbeats 40000000 in
theorem rm65 (l : Launch) (Z : State) (a0 : Array Value) (hw : ∀ d ∈ tables_1, d.before a0 Z = true) (ws : List Jvm.Cond) (a : Addr) (ck : ClassId) (w0 : Int32) (w1 : Int32) (w2 : Int32) (w3 : Int32) (h0 : Heap) (n0 : Nat) (Z0 : n0 ≤ h0.size) (V : Arv Z h0 a ck .byte (4 : Int32) [(.int w0), (.int w1), (.int w2), (.int w3)] (.int (0 : Int32))) : OMet l Z ws (⟨"com/example/benchwire/benchwire/astm/Link", "checksum", "([BII)I"⟩ : MethodName) prog_1_method_2_code 5 (some .int) R65 #[(.ref a), (.int (1 : Int32)), (.int (1 : Int32))] h0 n0 (Q65 Z a ck w0 w1 w2 w3 h0) := by
  refine OMet.of (plainFor_of_name pn_1) (ef65 a) Z0 ?_
  intro p e s m below meth c T0 Y0 hnm
  have Y0 : Sd Z "com/example/benchwire/benchwire/astm/Link" prog_1_method_2_code 5 (some .int) n0 p l e R65 s m #[(.ref a), (.int (1 : Int32)), (.int (1 : Int32))] below meth c T0 h0 0 0 := Y0
  refine Gl.iconst Y0 (v := (0 : Int32)) (by decide) d_prog_1_method_2_0 rfl ?_
  refine Gl.istoreN Y0 (L' := #[.val (.ref a), .val (.int (1 : Int32)), .val (.int (1 : Int32)), .val (.int (0 : Int32)), .unset]) rfl d_prog_1_method_2_1 rfl ?_
  refine Gl.iloadN Y0 rfl d_prog_1_method_2_2 rfl ?_
  refine Gl.istore Y0 (L' := #[.val (.ref a), .val (.int (1 : Int32)), .val (.int (1 : Int32)), .val (.int (0 : Int32)), .val (.int (1 : Int32))]) rfl d_prog_1_method_2_3 rfl ?_
  refine Gl.iload Y0 rfl d_prog_1_method_2_5 rfl ?_
  refine Gl.iloadN Y0 rfl d_prog_1_method_2_7 rfl ?_
  refine Gl.icmpge Y0 d_prog_1_method_2_8 (by decide) rfl rfl (fun c8 => ?_) (fun c8 => ?_)
  rotate_left
  · exact absurd c8 (by decide)
  refine Gl.iloadN Y0 rfl d_prog_1_method_2_28 rfl ?_
  refine Gl.sipush Y0 (v := (255 : Int32)) (by decide) d_prog_1_method_2_29 rfl ?_
  refine Gl.iand Y0 (r := (0 : Int32)) (by decide) d_prog_1_method_2_32 rfl ?_
  exact Gl.retI Y0 (by decide) (by decide)  d_prog_1_method_2_33 ⟨(0 : Int32), rfl, (by first | omega | rfl), rfl⟩
def R66 : Room := { frames := 0, cells := 0, slots := 0, locals := 0 }
def Q66 (Z : State) (a : Addr) (ck : ClassId) (w0 : Int32) (w1 : Int32) (w2 : Int32) (w3 : Int32) (h0 : Heap) (v : Option Value) (h : Heap) : Prop := ∃ r : Int32, v = some (.int r) ∧ (r.toInt = (w1.toInt % 256) % 256) ∧ h0 = h
theorem ef66 (a : Addr) (m : MethodId) : entryFrame m #[(.ref a), (.int (1 : Int32)), (.int (2 : Int32))] 5 = mkF m 0 #[.val (.ref a), .val (.int (1 : Int32)), .val (.int (2 : Int32)), .unset, .unset] [] := by first | (simp [entryFrame, mkF, argsToLocals, Value.category]; done) | rfl
set_option maxRecDepth 65536 in
set_option maxHeartbeats 40000000 in
theorem rm66 (l : Launch) (Z : State) (a0 : Array Value) (hw : ∀ d ∈ tables_1, d.before a0 Z = true) (ws : List Jvm.Cond) (a : Addr) (ck : ClassId) (w0 : Int32) (w1 : Int32) (w2 : Int32) (w3 : Int32) (h0 : Heap) (n0 : Nat) (Z0 : n0 ≤ h0.size) (V : Arv Z h0 a ck .byte (4 : Int32) [(.int w0), (.int w1), (.int w2), (.int w3)] (.int (0 : Int32))) : OMet l Z ws (⟨"com/example/benchwire/benchwire/astm/Link", "checksum", "([BII)I"⟩ : MethodName) prog_1_method_2_code 5 (some .int) R66 #[(.ref a), (.int (1 : Int32)), (.int (2 : Int32))] h0 n0 (Q66 Z a ck w0 w1 w2 w3 h0) := by
  refine OMet.of (plainFor_of_name pn_1) (ef66 a) Z0 ?_
  intro p e s m below meth c T0 Y0 hnm
  have Y0 : Sd Z "com/example/benchwire/benchwire/astm/Link" prog_1_method_2_code 5 (some .int) n0 p l e R66 s m #[(.ref a), (.int (1 : Int32)), (.int (2 : Int32))] below meth c T0 h0 0 0 := Y0
  refine Gl.iconst Y0 (v := (0 : Int32)) (by decide) d_prog_1_method_2_0 rfl ?_
  refine Gl.istoreN Y0 (L' := #[.val (.ref a), .val (.int (1 : Int32)), .val (.int (2 : Int32)), .val (.int (0 : Int32)), .unset]) rfl d_prog_1_method_2_1 rfl ?_
  refine Gl.iloadN Y0 rfl d_prog_1_method_2_2 rfl ?_
  refine Gl.istore Y0 (L' := #[.val (.ref a), .val (.int (1 : Int32)), .val (.int (2 : Int32)), .val (.int (0 : Int32)), .val (.int (1 : Int32))]) rfl d_prog_1_method_2_3 rfl ?_
  refine Gl.iload Y0 rfl d_prog_1_method_2_5 rfl ?_
  refine Gl.iloadN Y0 rfl d_prog_1_method_2_7 rfl ?_
  refine Gl.icmpge Y0 d_prog_1_method_2_8 (by decide) rfl rfl (fun c8 => ?_) (fun c8 => ?_)
  · exact absurd c8 (by decide)
  refine Gl.iloadN Y0 rfl d_prog_1_method_2_11 rfl ?_
  refine Gl.aloadN Y0 rfl rfl d_prog_1_method_2_12 rfl ?_
  refine Gl.iload Y0 rfl d_prog_1_method_2_13 rfl ?_
  refine Gl.baload Y0 V ⟨by decide, by decide⟩ (v := (.int w1)) rfl d_prog_1_method_2_15 rfl ?_
  refine Gl.sipush Y0 (v := (255 : Int32)) (by decide) d_prog_1_method_2_16 rfl ?_
  obtain ⟨v19, hv19⟩ : ∃ z : Int32, w1 &&& (255 : Int32) = z := ⟨_, rfl⟩
  have iv19 : v19.toInt = w1.toInt % 256 := by have q := c_mask w1 (255 : Int32) 8 (by decide) (by decide); rw [hv19] at q; exact q
  refine Gl.iand Y0 hv19 d_prog_1_method_2_19 rfl ?_
  obtain ⟨v20, hv20⟩ : ∃ z : Int32, (0 : Int32) + v19 = z := ⟨_, rfl⟩
  have iv20 : v20.toInt = 0 + v19.toInt := by
    have q : (v20.toInt - (0 + v19.toInt)) % 4294967296 = 0 := by have q := c_iadd (0 : Int32) v19; rw [hv20] at q; exact q
    have r := rng32 v20
    omega
  refine Gl.iadd Y0 hv20 d_prog_1_method_2_20 rfl ?_
  refine Gl.istoreN Y0 (L' := #[.val (.ref a), .val (.int (1 : Int32)), .val (.int (2 : Int32)), .val (.int v20), .val (.int (1 : Int32))]) rfl d_prog_1_method_2_21 rfl ?_
  refine Gl.iinc Y0 rfl (r := (2 : Int32)) (by decide) (L' := #[.val (.ref a), .val (.int (1 : Int32)), .val (.int (2 : Int32)), .val (.int v20), .val (.int (2 : Int32))]) rfl d_prog_1_method_2_22 rfl ?_
  refine Gl.goto Y0 d_prog_1_method_2_25 (by decide) rfl ?_
  refine Gl.iload Y0 rfl d_prog_1_method_2_5 rfl ?_
  refine Gl.iloadN Y0 rfl d_prog_1_method_2_7 rfl ?_
  refine Gl.icmpge Y0 d_prog_1_method_2_8 (by decide) rfl rfl (fun c8_2 => ?_) (fun c8_2 => ?_)
  rotate_left
  · exact absurd c8_2 (by decide)
  refine Gl.iloadN Y0 rfl d_prog_1_method_2_28 rfl ?_
  refine Gl.sipush Y0 (v := (255 : Int32)) (by decide) d_prog_1_method_2_29 rfl ?_
  obtain ⟨v32, hv32⟩ : ∃ z : Int32, v20 &&& (255 : Int32) = z := ⟨_, rfl⟩
  have iv32 : v32.toInt = v20.toInt % 256 := by have q := c_mask v20 (255 : Int32) 8 (by decide) (by decide); rw [hv32] at q; exact q
  refine Gl.iand Y0 hv32 d_prog_1_method_2_32 rfl ?_
  exact Gl.retI Y0 (by decide) (by decide)  d_prog_1_method_2_33 ⟨v32, rfl, (by first | omega | rfl), rfl⟩
def R67 : Room := { frames := 0, cells := 0, slots := 0, locals := 0 }
def Q67 (Z : State) (a : Addr) (ck : ClassId) (w0 : Int32) (w1 : Int32) (w2 : Int32) (w3 : Int32) (h0 : Heap) (v : Option Value) (h : Heap) : Prop := ∃ r : Int32, v = some (.int r) ∧ (r.toInt = (w1.toInt % 256 + w2.toInt % 256) % 256) ∧ h0 = h
theorem ef67 (a : Addr) (m : MethodId) : entryFrame m #[(.ref a), (.int (1 : Int32)), (.int (3 : Int32))] 5 = mkF m 0 #[.val (.ref a), .val (.int (1 : Int32)), .val (.int (3 : Int32)), .unset, .unset] [] := by first | (simp [entryFrame, mkF, argsToLocals, Value.category]; done) | rfl
set_option maxRecDepth 65536 in
set_option maxHeartbeats 40000000 in
theorem rm67 (l : Launch) (Z : State) (a0 : Array Value) (hw : ∀ d ∈ tables_1, d.before a0 Z = true) (ws : List Jvm.Cond) (a : Addr) (ck : ClassId) (w0 : Int32) (w1 : Int32) (w2 : Int32) (w3 : Int32) (h0 : Heap) (n0 : Nat) (Z0 : n0 ≤ h0.size) (V : Arv Z h0 a ck .byte (4 : Int32) [(.int w0), (.int w1), (.int w2), (.int w3)] (.int (0 : Int32))) : OMet l Z ws (⟨"com/example/benchwire/benchwire/astm/Link", "checksum", "([BII)I"⟩ : MethodName) prog_1_method_2_code 5 (some .int) R67 #[(.ref a), (.int (1 : Int32)), (.int (3 : Int32))] h0 n0 (Q67 Z a ck w0 w1 w2 w3 h0) := by
  refine OMet.of (plainFor_of_name pn_1) (ef67 a) Z0 ?_
  intro p e s m below meth c T0 Y0 hnm
  have Y0 : Sd Z "com/example/benchwire/benchwire/astm/Link" prog_1_method_2_code 5 (some .int) n0 p l e R67 s m #[(.ref a), (.int (1 : Int32)), (.int (3 : Int32))] below meth c T0 h0 0 0 := Y0
  refine Gl.iconst Y0 (v := (0 : Int32)) (by decide) d_prog_1_method_2_0 rfl ?_
  refine Gl.istoreN Y0 (L' := #[.val (.ref a), .val (.int (1 : Int32)), .val (.int (3 : Int32)), .val (.int (0 : Int32)), .unset]) rfl d_prog_1_method_2_1 rfl ?_
  refine Gl.iloadN Y0 rfl d_prog_1_method_2_2 rfl ?_
  refine Gl.istore Y0 (L' := #[.val (.ref a), .val (.int (1 : Int32)), .val (.int (3 : Int32)), .val (.int (0 : Int32)), .val (.int (1 : Int32))]) rfl d_prog_1_method_2_3 rfl ?_
  refine Gl.iload Y0 rfl d_prog_1_method_2_5 rfl ?_
  refine Gl.iloadN Y0 rfl d_prog_1_method_2_7 rfl ?_
  refine Gl.icmpge Y0 d_prog_1_method_2_8 (by decide) rfl rfl (fun c8 => ?_) (fun c8 => ?_)
  · exact absurd c8 (by decide)
  refine Gl.iloadN Y0 rfl d_prog_1_method_2_11 rfl ?_
  refine Gl.aloadN Y0 rfl rfl d_prog_1_method_2_12 rfl ?_
  refine Gl.iload Y0 rfl d_prog_1_method_2_13 rfl ?_
  refine Gl.baload Y0 V ⟨by decide, by decide⟩ (v := (.int w1)) rfl d_prog_1_method_2_15 rfl ?_
  refine Gl.sipush Y0 (v := (255 : Int32)) (by decide) d_prog_1_method_2_16 rfl ?_
  obtain ⟨v19, hv19⟩ : ∃ z : Int32, w1 &&& (255 : Int32) = z := ⟨_, rfl⟩
  have iv19 : v19.toInt = w1.toInt % 256 := by have q := c_mask w1 (255 : Int32) 8 (by decide) (by decide); rw [hv19] at q; exact q
  refine Gl.iand Y0 hv19 d_prog_1_method_2_19 rfl ?_
  obtain ⟨v20, hv20⟩ : ∃ z : Int32, (0 : Int32) + v19 = z := ⟨_, rfl⟩
  have iv20 : v20.toInt = 0 + v19.toInt := by
    have q : (v20.toInt - (0 + v19.toInt)) % 4294967296 = 0 := by have q := c_iadd (0 : Int32) v19; rw [hv20] at q; exact q
    have r := rng32 v20
    omega
  refine Gl.iadd Y0 hv20 d_prog_1_method_2_20 rfl ?_
  refine Gl.istoreN Y0 (L' := #[.val (.ref a), .val (.int (1 : Int32)), .val (.int (3 : Int32)), .val (.int v20), .val (.int (1 : Int32))]) rfl d_prog_1_method_2_21 rfl ?_
  refine Gl.iinc Y0 rfl (r := (2 : Int32)) (by decide) (L' := #[.val (.ref a), .val (.int (1 : Int32)), .val (.int (3 : Int32)), .val (.int v20), .val (.int (2 : Int32))]) rfl d_prog_1_method_2_22 rfl ?_
  refine Gl.goto Y0 d_prog_1_method_2_25 (by decide) rfl ?_
  refine Gl.iload Y0 rfl d_prog_1_method_2_5 rfl ?_
  refine Gl.iloadN Y0 rfl d_prog_1_method_2_7 rfl ?_
  refine Gl.icmpge Y0 d_prog_1_method_2_8 (by decide) rfl rfl (fun c8_2 => ?_) (fun c8_2 => ?_)
  · exact absurd c8_2 (by decide)
  refine Gl.iloadN Y0 rfl d_prog_1_method_2_11 rfl ?_
  refine Gl.aloadN Y0 rfl rfl d_prog_1_method_2_12 rfl ?_
  refine Gl.iload Y0 rfl d_prog_1_method_2_13 rfl ?_
  refine Gl.baload Y0 V ⟨by decide, by decide⟩ (v := (.int w2)) rfl d_prog_1_method_2_15 rfl ?_
  refine Gl.sipush Y0 (v := (255 : Int32)) (by decide) d_prog_1_method_2_16 rfl ?_
  obtain ⟨v19_2, hv19_2⟩ : ∃ z : Int32, w2 &&& (255 : Int32) = z := ⟨_, rfl⟩
  have iv19_2 : v19_2.toInt = w2.toInt % 256 := by have q := c_mask w2 (255 : Int32) 8 (by decide) (by decide); rw [hv19_2] at q; exact q
  refine Gl.iand Y0 hv19_2 d_prog_1_method_2_19 rfl ?_
  obtain ⟨v20_2, hv20_2⟩ : ∃ z : Int32, v20 + v19_2 = z := ⟨_, rfl⟩
  have iv20_2 : v20_2.toInt = v20.toInt + v19_2.toInt := by
    have q : (v20_2.toInt - (v20.toInt + v19_2.toInt)) % 4294967296 = 0 := by have q := c_iadd v20 v19_2; rw [hv20_2] at q; exact q
    have r := rng32 v20_2
    omega
  refine Gl.iadd Y0 hv20_2 d_prog_1_method_2_20 rfl ?_
  refine Gl.istoreN Y0 (L' := #[.val (.ref a), .val (.int (1 : Int32)), .val (.int (3 : Int32)), .val (.int v20_2), .val (.int (2 : Int32))]) rfl d_prog_1_method_2_21 rfl ?_
  refine Gl.iinc Y0 rfl (r := (3 : Int32)) (by decide) (L' := #[.val (.ref a), .val (.int (1 : Int32)), .val (.int (3 : Int32)), .val (.int v20_2), .val (.int (3 : Int32))]) rfl d_prog_1_method_2_22 rfl ?_
  refine Gl.goto Y0 d_prog_1_method_2_25 (by decide) rfl ?_
  refine Gl.iload Y0 rfl d_prog_1_method_2_5 rfl ?_
  refine Gl.iloadN Y0 rfl d_prog_1_method_2_7 rfl ?_
  refine Gl.icmpge Y0 d_prog_1_method_2_8 (by decide) rfl rfl (fun c8_3 => ?_) (fun c8_3 => ?_)
  rotate_left
  · exact absurd c8_3 (by decide)
  refine Gl.iloadN Y0 rfl d_prog_1_method_2_28 rfl ?_
  refine Gl.sipush Y0 (v := (255 : Int32)) (by decide) d_prog_1_method_2_29 rfl ?_
  obtain ⟨v32, hv32⟩ : ∃ z : Int32, v20_2 &&& (255 : Int32) = z := ⟨_, rfl⟩
  have iv32 : v32.toInt = v20_2.toInt % 256 := by have q := c_mask v20_2 (255 : Int32) 8 (by decide) (by decide); rw [hv32] at q; exact q
  refine Gl.iand Y0 hv32 d_prog_1_method_2_32 rfl ?_
  exact Gl.retI Y0 (by decide) (by decide)  d_prog_1_method_2_33 ⟨v32, rfl, (by first | omega | rfl), rfl⟩
def R68 : Room := { frames := 0, cells := 0, slots := 0, locals := 0 }
def Q68 (Z : State) (a : Addr) (ck : ClassId) (w0 : Int32) (w1 : Int32) (w2 : Int32) (w3 : Int32) (h0 : Heap) (v : Option Value) (h : Heap) : Prop := ∃ r : Int32, v = some (.int r) ∧ (r.toInt = (w1.toInt % 256 + w2.toInt % 256 + w3.toInt % 256) % 256) ∧ h0 = h
theorem ef68 (a : Addr) (m : MethodId) : entryFrame m #[(.ref a), (.int (1 : Int32)), (.int (4 : Int32))] 5 = mkF m 0 #[.val (.ref a), .val (.int (1 : Int32)), .val (.int (4 : Int32)), .unset, .unset] [] := by first | (simp [entryFrame, mkF, argsToLocals, Value.category]; done) | rfl
set_option maxRecDepth 65536 in
set_option maxHeartbeats 40000000 in
theorem rm68 (l : Launch) (Z : State) (a0 : Array Value) (hw : ∀ d ∈ tables_1, d.before a0 Z = true) (ws : List Jvm.Cond) (a : Addr) (ck : ClassId) (w0 : Int32) (w1 : Int32) (w2 : Int32) (w3 : Int32) (h0 : Heap) (n0 : Nat) (Z0 : n0 ≤ h0.size) (V : Arv Z h0 a ck .byte (4 : Int32) [(.int w0), (.int w1), (.int w2), (.int w3)] (.int (0 : Int32))) : OMet l Z ws (⟨"com/example/benchwire/benchwire/astm/Link", "checksum", "([BII)I"⟩ : MethodName) prog_1_method_2_code 5 (some .int) R68 #[(.ref a), (.int (1 : Int32)), (.int (4 : Int32))] h0 n0 (Q68 Z a ck w0 w1 w2 w3 h0) := by
  refine OMet.of (plainFor_of_name pn_1) (ef68 a) Z0 ?_
  intro p e s m below meth c T0 Y0 hnm
  have Y0 : Sd Z "com/example/benchwire/benchwire/astm/Link" prog_1_method_2_code 5 (some .int) n0 p l e R68 s m #[(.ref a), (.int (1 : Int32)), (.int (4 : Int32))] below meth c T0 h0 0 0 := Y0
  refine Gl.iconst Y0 (v := (0 : Int32)) (by decide) d_prog_1_method_2_0 rfl ?_
  refine Gl.istoreN Y0 (L' := #[.val (.ref a), .val (.int (1 : Int32)), .val (.int (4 : Int32)), .val (.int (0 : Int32)), .unset]) rfl d_prog_1_method_2_1 rfl ?_
  refine Gl.iloadN Y0 rfl d_prog_1_method_2_2 rfl ?_
  refine Gl.istore Y0 (L' := #[.val (.ref a), .val (.int (1 : Int32)), .val (.int (4 : Int32)), .val (.int (0 : Int32)), .val (.int (1 : Int32))]) rfl d_prog_1_method_2_3 rfl ?_
  refine Gl.iload Y0 rfl d_prog_1_method_2_5 rfl ?_
  refine Gl.iloadN Y0 rfl d_prog_1_method_2_7 rfl ?_
  refine Gl.icmpge Y0 d_prog_1_method_2_8 (by decide) rfl rfl (fun c8 => ?_) (fun c8 => ?_)
  · exact absurd c8 (by decide)
  refine Gl.iloadN Y0 rfl d_prog_1_method_2_11 rfl ?_
  refine Gl.aloadN Y0 rfl rfl d_prog_1_method_2_12 rfl ?_
  refine Gl.iload Y0 rfl d_prog_1_method_2_13 rfl ?_
  refine Gl.baload Y0 V ⟨by decide, by decide⟩ (v := (.int w1)) rfl d_prog_1_method_2_15 rfl ?_
  refine Gl.sipush Y0 (v := (255 : Int32)) (by decide) d_prog_1_method_2_16 rfl ?_
  obtain ⟨v19, hv19⟩ : ∃ z : Int32, w1 &&& (255 : Int32) = z := ⟨_, rfl⟩
  have iv19 : v19.toInt = w1.toInt % 256 := by have q := c_mask w1 (255 : Int32) 8 (by decide) (by decide); rw [hv19] at q; exact q
  refine Gl.iand Y0 hv19 d_prog_1_method_2_19 rfl ?_
  obtain ⟨v20, hv20⟩ : ∃ z : Int32, (0 : Int32) + v19 = z := ⟨_, rfl⟩
  have iv20 : v20.toInt = 0 + v19.toInt := by
    have q : (v20.toInt - (0 + v19.toInt)) % 4294967296 = 0 := by have q := c_iadd (0 : Int32) v19; rw [hv20] at q; exact q
    have r := rng32 v20
    omega
  refine Gl.iadd Y0 hv20 d_prog_1_method_2_20 rfl ?_
  refine Gl.istoreN Y0 (L' := #[.val (.ref a), .val (.int (1 : Int32)), .val (.int (4 : Int32)), .val (.int v20), .val (.int (1 : Int32))]) rfl d_prog_1_method_2_21 rfl ?_
  refine Gl.iinc Y0 rfl (r := (2 : Int32)) (by decide) (L' := #[.val (.ref a), .val (.int (1 : Int32)), .val (.int (4 : Int32)), .val (.int v20), .val (.int (2 : Int32))]) rfl d_prog_1_method_2_22 rfl ?_
  refine Gl.goto Y0 d_prog_1_method_2_25 (by decide) rfl ?_
  refine Gl.iload Y0 rfl d_prog_1_method_2_5 rfl ?_
  refine Gl.iloadN Y0 rfl d_prog_1_method_2_7 rfl ?_
  refine Gl.icmpge Y0 d_prog_1_method_2_8 (by decide) rfl rfl (fun c8_2 => ?_) (fun c8_2 => ?_)
  · exact absurd c8_2 (by decide)
  refine Gl.iloadN Y0 rfl d_prog_1_method_2_11 rfl ?_
  refine Gl.aloadN Y0 rfl rfl d_prog_1_method_2_12 rfl ?_
  refine Gl.iload Y0 rfl d_prog_1_method_2_13 rfl ?_
  refine Gl.baload Y0 V ⟨by decide, by decide⟩ (v := (.int w2)) rfl d_prog_1_method_2_15 rfl ?_
  refine Gl.sipush Y0 (v := (255 : Int32)) (by decide) d_prog_1_method_2_16 rfl ?_
  obtain ⟨v19_2, hv19_2⟩ : ∃ z : Int32, w2 &&& (255 : Int32) = z := ⟨_, rfl⟩
  have iv19_2 : v19_2.toInt = w2.toInt % 256 := by have q := c_mask w2 (255 : Int32) 8 (by decide) (by decide); rw [hv19_2] at q; exact q
  refine Gl.iand Y0 hv19_2 d_prog_1_method_2_19 rfl ?_
  obtain ⟨v20_2, hv20_2⟩ : ∃ z : Int32, v20 + v19_2 = z := ⟨_, rfl⟩
  have iv20_2 : v20_2.toInt = v20.toInt + v19_2.toInt := by
    have q : (v20_2.toInt - (v20.toInt + v19_2.toInt)) % 4294967296 = 0 := by have q := c_iadd v20 v19_2; rw [hv20_2] at q; exact q
    have r := rng32 v20_2
    omega
  refine Gl.iadd Y0 hv20_2 d_prog_1_method_2_20 rfl ?_
  refine Gl.istoreN Y0 (L' := #[.val (.ref a), .val (.int (1 : Int32)), .val (.int (4 : Int32)), .val (.int v20_2), .val (.int (2 : Int32))]) rfl d_prog_1_method_2_21 rfl ?_
  refine Gl.iinc Y0 rfl (r := (3 : Int32)) (by decide) (L' := #[.val (.ref a), .val (.int (1 : Int32)), .val (.int (4 : Int32)), .val (.int v20_2), .val (.int (3 : Int32))]) rfl d_prog_1_method_2_22 rfl ?_
  refine Gl.goto Y0 d_prog_1_method_2_25 (by decide) rfl ?_
  refine Gl.iload Y0 rfl d_prog_1_method_2_5 rfl ?_
  refine Gl.iloadN Y0 rfl d_prog_1_method_2_7 rfl ?_
  refine Gl.icmpge Y0 d_prog_1_method_2_8 (by decide) rfl rfl (fun c8_3 => ?_) (fun c8_3 => ?_)
  · exact absurd c8_3 (by decide)
  refine Gl.iloadN Y0 rfl d_prog_1_method_2_11 rfl ?_
  refine Gl.aloadN Y0 rfl rfl d_prog_1_method_2_12 rfl ?_
  refine Gl.iload Y0 rfl d_prog_1_method_2_13 rfl ?_
  refine Gl.baload Y0 V ⟨by decide, by decide⟩ (v := (.int w3)) rfl d_prog_1_method_2_15 rfl ?_
  refine Gl.sipush Y0 (v := (255 : Int32)) (by decide) d_prog_1_method_2_16 rfl ?_
  obtain ⟨v19_3, hv19_3⟩ : ∃ z : Int32, w3 &&& (255 : Int32) = z := ⟨_, rfl⟩
  have iv19_3 : v19_3.toInt = w3.toInt % 256 := by have q := c_mask w3 (255 : Int32) 8 (by decide) (by decide); rw [hv19_3] at q; exact q
  refine Gl.iand Y0 hv19_3 d_prog_1_method_2_19 rfl ?_
  obtain ⟨v20_3, hv20_3⟩ : ∃ z : Int32, v20_2 + v19_3 = z := ⟨_, rfl⟩
  have iv20_3 : v20_3.toInt = v20_2.toInt + v19_3.toInt := by
    have q : (v20_3.toInt - (v20_2.toInt + v19_3.toInt)) % 4294967296 = 0 := by have q := c_iadd v20_2 v19_3; rw [hv20_3] at q; exact q
    have r := rng32 v20_3
    omega
  refine Gl.iadd Y0 hv20_3 d_prog_1_method_2_20 rfl ?_
  refine Gl.istoreN Y0 (L' := #[.val (.ref a), .val (.int (1 : Int32)), .val (.int (4 : Int32)), .val (.int v20_3), .val (.int (3 : Int32))]) rfl d_prog_1_method_2_21 rfl ?_
  refine Gl.iinc Y0 rfl (r := (4 : Int32)) (by decide) (L' := #[.val (.ref a), .val (.int (1 : Int32)), .val (.int (4 : Int32)), .val (.int v20_3), .val (.int (4 : Int32))]) rfl d_prog_1_method_2_22 rfl ?_
  refine Gl.goto Y0 d_prog_1_method_2_25 (by decide) rfl ?_
  refine Gl.iload Y0 rfl d_prog_1_method_2_5 rfl ?_
  refine Gl.iloadN Y0 rfl d_prog_1_method_2_7 rfl ?_
  refine Gl.icmpge Y0 d_prog_1_method_2_8 (by decide) rfl rfl (fun c8_4 => ?_) (fun c8_4 => ?_)
  rotate_left
  · exact absurd c8_4 (by decide)
  refine Gl.iloadN Y0 rfl d_prog_1_method_2_28 rfl ?_
  refine Gl.sipush Y0 (v := (255 : Int32)) (by decide) d_prog_1_method_2_29 rfl ?_
  obtain ⟨v32, hv32⟩ : ∃ z : Int32, v20_3 &&& (255 : Int32) = z := ⟨_, rfl⟩
  have iv32 : v32.toInt = v20_3.toInt % 256 := by have q := c_mask v20_3 (255 : Int32) 8 (by decide) (by decide); rw [hv32] at q; exact q
  refine Gl.iand Y0 hv32 d_prog_1_method_2_32 rfl ?_
  exact Gl.retI Y0 (by decide) (by decide)  d_prog_1_method_2_33 ⟨v32, rfl, (by first | omega | rfl), rfl⟩
def R69 : Room := { frames := 0, cells := 0, slots := 0, locals := 0 }
def Q69 (Z : State) (a : Addr) (ck : ClassId) (w0 : Int32) (w1 : Int32) (w2 : Int32) (w3 : Int32) (h0 : Heap) (v : Option Value) (h : Heap) : Prop := ∃ r : Int32, v = some (.int r) ∧ (r.toInt = (0) % 256) ∧ h0 = h
theorem ef69 (a : Addr) (m : MethodId) : entryFrame m #[(.ref a), (.int (2 : Int32)), (.int (2 : Int32))] 5 = mkF m 0 #[.val (.ref a), .val (.int (2 : Int32)), .val (.int (2 : Int32)), .unset, .unset] [] := by first | (simp [entryFrame, mkF, argsToLocals, Value.category]; done) | rfl
set_option maxRecDepth 65536 in
set_option maxHeartbeats 40000000 in
theorem rm69 (l : Launch) (Z : State) (a0 : Array Value) (hw : ∀ d ∈ tables_1, d.before a0 Z = true) (ws : List Jvm.Cond) (a : Addr) (ck : ClassId) (w0 : Int32) (w1 : Int32) (w2 : Int32) (w3 : Int32) (h0 : Heap) (n0 : Nat) (Z0 : n0 ≤ h0.size) (V : Arv Z h0 a ck .byte (4 : Int32) [(.int w0), (.int w1), (.int w2), (.int w3)] (.int (0 : Int32))) : OMet l Z ws (⟨"com/example/benchwire/benchwire/astm/Link", "checksum", "([BII)I"⟩ : MethodName) prog_1_method_2_code 5 (some .int) R69 #[(.ref a), (.int (2 : Int32)), (.int (2 : Int32))] h0 n0 (Q69 Z a ck w0 w1 w2 w3 h0) := by
  refine OMet.of (plainFor_of_name pn_1) (ef69 a) Z0 ?_
  intro p e s m below meth c T0 Y0 hnm
  have Y0 : Sd Z "com/example/benchwire/benchwire/astm/Link" prog_1_method_2_code 5 (some .int) n0 p l e R69 s m #[(.ref a), (.int (2 : Int32)), (.int (2 : Int32))] below meth c T0 h0 0 0 := Y0
  refine Gl.iconst Y0 (v := (0 : Int32)) (by decide) d_prog_1_method_2_0 rfl ?_
  refine Gl.istoreN Y0 (L' := #[.val (.ref a), .val (.int (2 : Int32)), .val (.int (2 : Int32)), .val (.int (0 : Int32)), .unset]) rfl d_prog_1_method_2_1 rfl ?_
  refine Gl.iloadN Y0 rfl d_prog_1_method_2_2 rfl ?_
  refine Gl.istore Y0 (L' := #[.val (.ref a), .val (.int (2 : Int32)), .val (.int (2 : Int32)), .val (.int (0 : Int32)), .val (.int (2 : Int32))]) rfl d_prog_1_method_2_3 rfl ?_
  refine Gl.iload Y0 rfl d_prog_1_method_2_5 rfl ?_
  refine Gl.iloadN Y0 rfl d_prog_1_method_2_7 rfl ?_
  refine Gl.icmpge Y0 d_prog_1_method_2_8 (by decide) rfl rfl (fun c8 => ?_) (fun c8 => ?_)
  rotate_left
  · exact absurd c8 (by decide)
  refine Gl.iloadN Y0 rfl d_prog_1_method_2_28 rfl ?_
  refine Gl.sipush Y0 (v := (255 : Int32)) (by decide) d_prog_1_method_2_29 rfl ?_
  refine Gl.iand Y0 (r := (0 : Int32)) (by decide) d_prog_1_method_2_32 rfl ?_
  exact Gl.retI Y0 (by decide) (by decide)  d_prog_1_method_2_33 ⟨(0 : Int32), rfl, (by first | omega | rfl), rfl⟩
def R70 : Room := { frames := 0, cells := 0, slots := 0, locals := 0 }
def Q70 (Z : State) (a : Addr) (ck : ClassId) (w0 : Int32) (w1 : Int32) (w2 : Int32) (w3 : Int32) (h0 : Heap) (v : Option Value) (h : Heap) : Prop := ∃ r : Int32, v = some (.int r) ∧ (r.toInt = (w2.toInt % 256) % 256) ∧ h0 = h
theorem ef70 (a : Addr) (m : MethodId) : entryFrame m #[(.ref a), (.int (2 : Int32)), (.int (3 : Int32))] 5 = mkF m 0 #[.val (.ref a), .val (.int (2 : Int32)), .val (.int (3 : Int32)), .unset, .unset] [] := by first | (simp [entryFrame, mkF, argsToLocals, Value.category]; done) | rfl
set_option maxRecDepth 65536 in
set_option maxHeartbeats 40000000 in
theorem rm70 (l : Launch) (Z : State) (a0 : Array Value) (hw : ∀ d ∈ tables_1, d.before a0 Z = true) (ws : List Jvm.Cond) (a : Addr) (ck : ClassId) (w0 : Int32) (w1 : Int32) (w2 : Int32) (w3 : Int32) (h0 : Heap) (n0 : Nat) (Z0 : n0 ≤ h0.size) (V : Arv Z h0 a ck .byte (4 : Int32) [(.int w0), (.int w1), (.int w2), (.int w3)] (.int (0 : Int32))) : OMet l Z ws (⟨"com/example/benchwire/benchwire/astm/Link", "checksum", "([BII)I"⟩ : MethodName) prog_1_method_2_code 5 (some .int) R70 #[(.ref a), (.int (2 : Int32)), (.int (3 : Int32))] h0 n0 (Q70 Z a ck w0 w1 w2 w3 h0) := by
  refine OMet.of (plainFor_of_name pn_1) (ef70 a) Z0 ?_
  intro p e s m below meth c T0 Y0 hnm
  have Y0 : Sd Z "com/example/benchwire/benchwire/astm/Link" prog_1_method_2_code 5 (some .int) n0 p l e R70 s m #[(.ref a), (.int (2 : Int32)), (.int (3 : Int32))] below meth c T0 h0 0 0 := Y0
  refine Gl.iconst Y0 (v := (0 : Int32)) (by decide) d_prog_1_method_2_0 rfl ?_
  refine Gl.istoreN Y0 (L' := #[.val (.ref a), .val (.int (2 : Int32)), .val (.int (3 : Int32)), .val (.int (0 : Int32)), .unset]) rfl d_prog_1_method_2_1 rfl ?_
  refine Gl.iloadN Y0 rfl d_prog_1_method_2_2 rfl ?_
  refine Gl.istore Y0 (L' := #[.val (.ref a), .val (.int (2 : Int32)), .val (.int (3 : Int32)), .val (.int (0 : Int32)), .val (.int (2 : Int32))]) rfl d_prog_1_method_2_3 rfl ?_
  refine Gl.iload Y0 rfl d_prog_1_method_2_5 rfl ?_
  refine Gl.iloadN Y0 rfl d_prog_1_method_2_7 rfl ?_
  refine Gl.icmpge Y0 d_prog_1_method_2_8 (by decide) rfl rfl (fun c8 => ?_) (fun c8 => ?_)
  · exact absurd c8 (by decide)
  refine Gl.iloadN Y0 rfl d_prog_1_method_2_11 rfl ?_
  refine Gl.aloadN Y0 rfl rfl d_prog_1_method_2_12 rfl ?_
  refine Gl.iload Y0 rfl d_prog_1_method_2_13 rfl ?_
  refine Gl.baload Y0 V ⟨by decide, by decide⟩ (v := (.int w2)) rfl d_prog_1_method_2_15 rfl ?_
  refine Gl.sipush Y0 (v := (255 : Int32)) (by decide) d_prog_1_method_2_16 rfl ?_
  obtain ⟨v19, hv19⟩ : ∃ z : Int32, w2 &&& (255 : Int32) = z := ⟨_, rfl⟩
  have iv19 : v19.toInt = w2.toInt % 256 := by have q := c_mask w2 (255 : Int32) 8 (by decide) (by decide); rw [hv19] at q; exact q
  refine Gl.iand Y0 hv19 d_prog_1_method_2_19 rfl ?_
  obtain ⟨v20, hv20⟩ : ∃ z : Int32, (0 : Int32) + v19 = z := ⟨_, rfl⟩
  have iv20 : v20.toInt = 0 + v19.toInt := by
    have q : (v20.toInt - (0 + v19.toInt)) % 4294967296 = 0 := by have q := c_iadd (0 : Int32) v19; rw [hv20] at q; exact q
    have r := rng32 v20
    omega
  refine Gl.iadd Y0 hv20 d_prog_1_method_2_20 rfl ?_
  refine Gl.istoreN Y0 (L' := #[.val (.ref a), .val (.int (2 : Int32)), .val (.int (3 : Int32)), .val (.int v20), .val (.int (2 : Int32))]) rfl d_prog_1_method_2_21 rfl ?_
  refine Gl.iinc Y0 rfl (r := (3 : Int32)) (by decide) (L' := #[.val (.ref a), .val (.int (2 : Int32)), .val (.int (3 : Int32)), .val (.int v20), .val (.int (3 : Int32))]) rfl d_prog_1_method_2_22 rfl ?_
  refine Gl.goto Y0 d_prog_1_method_2_25 (by decide) rfl ?_
  refine Gl.iload Y0 rfl d_prog_1_method_2_5 rfl ?_
  refine Gl.iloadN Y0 rfl d_prog_1_method_2_7 rfl ?_
  refine Gl.icmpge Y0 d_prog_1_method_2_8 (by decide) rfl rfl (fun c8_2 => ?_) (fun c8_2 => ?_)
  rotate_left
  · exact absurd c8_2 (by decide)
  refine Gl.iloadN Y0 rfl d_prog_1_method_2_28 rfl ?_
  refine Gl.sipush Y0 (v := (255 : Int32)) (by decide) d_prog_1_method_2_29 rfl ?_
  obtain ⟨v32, hv32⟩ : ∃ z : Int32, v20 &&& (255 : Int32) = z := ⟨_, rfl⟩
  have iv32 : v32.toInt = v20.toInt % 256 := by have q := c_mask v20 (255 : Int32) 8 (by decide) (by decide); rw [hv32] at q; exact q
  refine Gl.iand Y0 hv32 d_prog_1_method_2_32 rfl ?_
  exact Gl.retI Y0 (by decide) (by decide)  d_prog_1_method_2_33 ⟨v32, rfl, (by first | omega | rfl), rfl⟩
def R71 : Room := { frames := 0, cells := 0, slots := 0, locals := 0 }
def Q71 (Z : State) (a : Addr) (ck : ClassId) (w0 : Int32) (w1 : Int32) (w2 : Int32) (w3 : Int32) (h0 : Heap) (v : Option Value) (h : Heap) : Prop := ∃ r : Int32, v = some (.int r) ∧ (r.toInt = (w2.toInt % 256 + w3.toInt % 256) % 256) ∧ h0 = h
theorem ef71 (a : Addr) (m : MethodId) : entryFrame m #[(.ref a), (.int (2 : Int32)), (.int (4 : Int32))] 5 = mkF m 0 #[.val (.ref a), .val (.int (2 : Int32)), .val (.int (4 : Int32)), .unset, .unset] [] := by first | (simp [entryFrame, mkF, argsToLocals, Value.category]; done) | rfl
set_option maxRecDepth 65536 in
set_option maxHeartbeats 40000000 in
theorem rm71 (l : Launch) (Z : State) (a0 : Array Value) (hw : ∀ d ∈ tables_1, d.before a0 Z = true) (ws : List Jvm.Cond) (a : Addr) (ck : ClassId) (w0 : Int32) (w1 : Int32) (w2 : Int32) (w3 : Int32) (h0 : Heap) (n0 : Nat) (Z0 : n0 ≤ h0.size) (V : Arv Z h0 a ck .byte (4 : Int32) [(.int w0), (.int w1), (.int w2), (.int w3)] (.int (0 : Int32))) : OMet l Z ws (⟨"com/example/benchwire/benchwire/astm/Link", "checksum", "([BII)I"⟩ : MethodName) prog_1_method_2_code 5 (some .int) R71 #[(.ref a), (.int (2 : Int32)), (.int (4 : Int32))] h0 n0 (Q71 Z a ck w0 w1 w2 w3 h0) := by
  refine OMet.of (plainFor_of_name pn_1) (ef71 a) Z0 ?_
  intro p e s m below meth c T0 Y0 hnm
  have Y0 : Sd Z "com/example/benchwire/benchwire/astm/Link" prog_1_method_2_code 5 (some .int) n0 p l e R71 s m #[(.ref a), (.int (2 : Int32)), (.int (4 : Int32))] below meth c T0 h0 0 0 := Y0
  refine Gl.iconst Y0 (v := (0 : Int32)) (by decide) d_prog_1_method_2_0 rfl ?_
  refine Gl.istoreN Y0 (L' := #[.val (.ref a), .val (.int (2 : Int32)), .val (.int (4 : Int32)), .val (.int (0 : Int32)), .unset]) rfl d_prog_1_method_2_1 rfl ?_
  refine Gl.iloadN Y0 rfl d_prog_1_method_2_2 rfl ?_
  refine Gl.istore Y0 (L' := #[.val (.ref a), .val (.int (2 : Int32)), .val (.int (4 : Int32)), .val (.int (0 : Int32)), .val (.int (2 : Int32))]) rfl d_prog_1_method_2_3 rfl ?_
  refine Gl.iload Y0 rfl d_prog_1_method_2_5 rfl ?_
  refine Gl.iloadN Y0 rfl d_prog_1_method_2_7 rfl ?_
  refine Gl.icmpge Y0 d_prog_1_method_2_8 (by decide) rfl rfl (fun c8 => ?_) (fun c8 => ?_)
  · exact absurd c8 (by decide)
  refine Gl.iloadN Y0 rfl d_prog_1_method_2_11 rfl ?_
  refine Gl.aloadN Y0 rfl rfl d_prog_1_method_2_12 rfl ?_
  refine Gl.iload Y0 rfl d_prog_1_method_2_13 rfl ?_
  refine Gl.baload Y0 V ⟨by decide, by decide⟩ (v := (.int w2)) rfl d_prog_1_method_2_15 rfl ?_
  refine Gl.sipush Y0 (v := (255 : Int32)) (by decide) d_prog_1_method_2_16 rfl ?_
  obtain ⟨v19, hv19⟩ : ∃ z : Int32, w2 &&& (255 : Int32) = z := ⟨_, rfl⟩
  have iv19 : v19.toInt = w2.toInt % 256 := by have q := c_mask w2 (255 : Int32) 8 (by decide) (by decide); rw [hv19] at q; exact q
  refine Gl.iand Y0 hv19 d_prog_1_method_2_19 rfl ?_
  obtain ⟨v20, hv20⟩ : ∃ z : Int32, (0 : Int32) + v19 = z := ⟨_, rfl⟩
  have iv20 : v20.toInt = 0 + v19.toInt := by
    have q : (v20.toInt - (0 + v19.toInt)) % 4294967296 = 0 := by have q := c_iadd (0 : Int32) v19; rw [hv20] at q; exact q
    have r := rng32 v20
    omega
  refine Gl.iadd Y0 hv20 d_prog_1_method_2_20 rfl ?_
  refine Gl.istoreN Y0 (L' := #[.val (.ref a), .val (.int (2 : Int32)), .val (.int (4 : Int32)), .val (.int v20), .val (.int (2 : Int32))]) rfl d_prog_1_method_2_21 rfl ?_
  refine Gl.iinc Y0 rfl (r := (3 : Int32)) (by decide) (L' := #[.val (.ref a), .val (.int (2 : Int32)), .val (.int (4 : Int32)), .val (.int v20), .val (.int (3 : Int32))]) rfl d_prog_1_method_2_22 rfl ?_
  refine Gl.goto Y0 d_prog_1_method_2_25 (by decide) rfl ?_
  refine Gl.iload Y0 rfl d_prog_1_method_2_5 rfl ?_
  refine Gl.iloadN Y0 rfl d_prog_1_method_2_7 rfl ?_
  refine Gl.icmpge Y0 d_prog_1_method_2_8 (by decide) rfl rfl (fun c8_2 => ?_) (fun c8_2 => ?_)
  · exact absurd c8_2 (by decide)
  refine Gl.iloadN Y0 rfl d_prog_1_method_2_11 rfl ?_
  refine Gl.aloadN Y0 rfl rfl d_prog_1_method_2_12 rfl ?_
  refine Gl.iload Y0 rfl d_prog_1_method_2_13 rfl ?_
  refine Gl.baload Y0 V ⟨by decide, by decide⟩ (v := (.int w3)) rfl d_prog_1_method_2_15 rfl ?_
  refine Gl.sipush Y0 (v := (255 : Int32)) (by decide) d_prog_1_method_2_16 rfl ?_
  obtain ⟨v19_2, hv19_2⟩ : ∃ z : Int32, w3 &&& (255 : Int32) = z := ⟨_, rfl⟩
  have iv19_2 : v19_2.toInt = w3.toInt % 256 := by have q := c_mask w3 (255 : Int32) 8 (by decide) (by decide); rw [hv19_2] at q; exact q
  refine Gl.iand Y0 hv19_2 d_prog_1_method_2_19 rfl ?_
  obtain ⟨v20_2, hv20_2⟩ : ∃ z : Int32, v20 + v19_2 = z := ⟨_, rfl⟩
  have iv20_2 : v20_2.toInt = v20.toInt + v19_2.toInt := by
    have q : (v20_2.toInt - (v20.toInt + v19_2.toInt)) % 4294967296 = 0 := by have q := c_iadd v20 v19_2; rw [hv20_2] at q; exact q
    have r := rng32 v20_2
    omega
  refine Gl.iadd Y0 hv20_2 d_prog_1_method_2_20 rfl ?_
  refine Gl.istoreN Y0 (L' := #[.val (.ref a), .val (.int (2 : Int32)), .val (.int (4 : Int32)), .val (.int v20_2), .val (.int (3 : Int32))]) rfl d_prog_1_method_2_21 rfl ?_
  refine Gl.iinc Y0 rfl (r := (4 : Int32)) (by decide) (L' := #[.val (.ref a), .val (.int (2 : Int32)), .val (.int (4 : Int32)), .val (.int v20_2), .val (.int (4 : Int32))]) rfl d_prog_1_method_2_22 rfl ?_
  refine Gl.goto Y0 d_prog_1_method_2_25 (by decide) rfl ?_
  refine Gl.iload Y0 rfl d_prog_1_method_2_5 rfl ?_
  refine Gl.iloadN Y0 rfl d_prog_1_method_2_7 rfl ?_
  refine Gl.icmpge Y0 d_prog_1_method_2_8 (by decide) rfl rfl (fun c8_3 => ?_) (fun c8_3 => ?_)
  rotate_left
  · exact absurd c8_3 (by decide)
  refine Gl.iloadN Y0 rfl d_prog_1_method_2_28 rfl ?_
  refine Gl.sipush Y0 (v := (255 : Int32)) (by decide) d_prog_1_method_2_29 rfl ?_
  obtain ⟨v32, hv32⟩ : ∃ z : Int32, v20_2 &&& (255 : Int32) = z := ⟨_, rfl⟩
  have iv32 : v32.toInt = v20_2.toInt % 256 := by have q := c_mask v20_2 (255 : Int32) 8 (by decide) (by decide); rw [hv32] at q; exact q
  refine Gl.iand Y0 hv32 d_prog_1_method_2_32 rfl ?_
  exact Gl.retI Y0 (by decide) (by decide)  d_prog_1_method_2_33 ⟨v32, rfl, (by first | omega | rfl), rfl⟩
def R72 : Room := { frames := 0, cells := 0, slots := 0, locals := 0 }
def Q72 (Z : State) (a : Addr) (ck : ClassId) (w0 : Int32) (w1 : Int32) (w2 : Int32) (w3 : Int32) (h0 : Heap) (v : Option Value) (h : Heap) : Prop := ∃ r : Int32, v = some (.int r) ∧ (r.toInt = (0) % 256) ∧ h0 = h
theorem ef72 (a : Addr) (m : MethodId) : entryFrame m #[(.ref a), (.int (3 : Int32)), (.int (3 : Int32))] 5 = mkF m 0 #[.val (.ref a), .val (.int (3 : Int32)), .val (.int (3 : Int32)), .unset, .unset] [] := by first | (simp [entryFrame, mkF, argsToLocals, Value.category]; done) | rfl
set_option maxRecDepth 65536 in
set_option maxHeartbeats 40000000 in
theorem rm72 (l : Launch) (Z : State) (a0 : Array Value) (hw : ∀ d ∈ tables_1, d.before a0 Z = true) (ws : List Jvm.Cond) (a : Addr) (ck : ClassId) (w0 : Int32) (w1 : Int32) (w2 : Int32) (w3 : Int32) (h0 : Heap) (n0 : Nat) (Z0 : n0 ≤ h0.size) (V : Arv Z h0 a ck .byte (4 : Int32) [(.int w0), (.int w1), (.int w2), (.int w3)] (.int (0 : Int32))) : OMet l Z ws (⟨"com/example/benchwire/benchwire/astm/Link", "checksum", "([BII)I"⟩ : MethodName) prog_1_method_2_code 5 (some .int) R72 #[(.ref a), (.int (3 : Int32)), (.int (3 : Int32))] h0 n0 (Q72 Z a ck w0 w1 w2 w3 h0) := by
  refine OMet.of (plainFor_of_name pn_1) (ef72 a) Z0 ?_
  intro p e s m below meth c T0 Y0 hnm
  have Y0 : Sd Z "com/example/benchwire/benchwire/astm/Link" prog_1_method_2_code 5 (some .int) n0 p l e R72 s m #[(.ref a), (.int (3 : Int32)), (.int (3 : Int32))] below meth c T0 h0 0 0 := Y0
  refine Gl.iconst Y0 (v := (0 : Int32)) (by decide) d_prog_1_method_2_0 rfl ?_
  refine Gl.istoreN Y0 (L' := #[.val (.ref a), .val (.int (3 : Int32)), .val (.int (3 : Int32)), .val (.int (0 : Int32)), .unset]) rfl d_prog_1_method_2_1 rfl ?_
  refine Gl.iloadN Y0 rfl d_prog_1_method_2_2 rfl ?_
  refine Gl.istore Y0 (L' := #[.val (.ref a), .val (.int (3 : Int32)), .val (.int (3 : Int32)), .val (.int (0 : Int32)), .val (.int (3 : Int32))]) rfl d_prog_1_method_2_3 rfl ?_
  refine Gl.iload Y0 rfl d_prog_1_method_2_5 rfl ?_
  refine Gl.iloadN Y0 rfl d_prog_1_method_2_7 rfl ?_
  refine Gl.icmpge Y0 d_prog_1_method_2_8 (by decide) rfl rfl (fun c8 => ?_) (fun c8 => ?_)
  rotate_left
  · exact absurd c8 (by decide)
  refine Gl.iloadN Y0 rfl d_prog_1_method_2_28 rfl ?_
  refine Gl.sipush Y0 (v := (255 : Int32)) (by decide) d_prog_1_method_2_29 rfl ?_
  refine Gl.iand Y0 (r := (0 : Int32)) (by decide) d_prog_1_method_2_32 rfl ?_
  exact Gl.retI Y0 (by decide) (by decide)  d_prog_1_method_2_33 ⟨(0 : Int32), rfl, (by first | omega | rfl), rfl⟩
def R73 : Room := { frames := 0, cells := 0, slots := 0, locals := 0 }
def Q73 (Z : State) (a : Addr) (ck : ClassId) (w0 : Int32) (w1 : Int32) (w2 : Int32) (w3 : Int32) (h0 : Heap) (v : Option Value) (h : Heap) : Prop := ∃ r : Int32, v = some (.int r) ∧ (r.toInt = (w3.toInt % 256) % 256) ∧ h0 = h
theorem ef73 (a : Addr) (m : MethodId) : entryFrame m #[(.ref a), (.int (3 : Int32)), (.int (4 : Int32))] 5 = mkF m 0 #[.val (.ref a), .val (.int (3 : Int32)), .val (.int (4 : Int32)), .unset, .unset] [] := by first | (simp [entryFrame, mkF, argsToLocals, Value.category]; done) | rfl
set_option maxRecDepth 65536 in
set_option maxHeartbeats 40000000 in
theorem rm73 (l : Launch) (Z : State) (a0 : Array Value) (hw : ∀ d ∈ tables_1, d.before a0 Z = true) (ws : List Jvm.Cond) (a : Addr) (ck : ClassId) (w0 : Int32) (w1 : Int32) (w2 : Int32) (w3 : Int32) (h0 : Heap) (n0 : Nat) (Z0 : n0 ≤ h0.size) (V : Arv Z h0 a ck .byte (4 : Int32) [(.int w0), (.int w1), (.int w2), (.int w3)] (.int (0 : Int32))) : OMet l Z ws (⟨"com/example/benchwire/benchwire/astm/Link", "checksum", "([BII)I"⟩ : MethodName) prog_1_method_2_code 5 (some .int) R73 #[(.ref a), (.int (3 : Int32)), (.int (4 : Int32))] h0 n0 (Q73 Z a ck w0 w1 w2 w3 h0) := by
  refine OMet.of (plainFor_of_name pn_1) (ef73 a) Z0 ?_
  intro p e s m below meth c T0 Y0 hnm
  have Y0 : Sd Z "com/example/benchwire/benchwire/astm/Link" prog_1_method_2_code 5 (some .int) n0 p l e R73 s m #[(.ref a), (.int (3 : Int32)), (.int (4 : Int32))] below meth c T0 h0 0 0 := Y0
  refine Gl.iconst Y0 (v := (0 : Int32)) (by decide) d_prog_1_method_2_0 rfl ?_
  refine Gl.istoreN Y0 (L' := #[.val (.ref a), .val (.int (3 : Int32)), .val (.int (4 : Int32)), .val (.int (0 : Int32)), .unset]) rfl d_prog_1_method_2_1 rfl ?_
  refine Gl.iloadN Y0 rfl d_prog_1_method_2_2 rfl ?_
  refine Gl.istore Y0 (L' := #[.val (.ref a), .val (.int (3 : Int32)), .val (.int (4 : Int32)), .val (.int (0 : Int32)), .val (.int (3 : Int32))]) rfl d_prog_1_method_2_3 rfl ?_
  refine Gl.iload Y0 rfl d_prog_1_method_2_5 rfl ?_
  refine Gl.iloadN Y0 rfl d_prog_1_method_2_7 rfl ?_
  refine Gl.icmpge Y0 d_prog_1_method_2_8 (by decide) rfl rfl (fun c8 => ?_) (fun c8 => ?_)
  · exact absurd c8 (by decide)
  refine Gl.iloadN Y0 rfl d_prog_1_method_2_11 rfl ?_
  refine Gl.aloadN Y0 rfl rfl d_prog_1_method_2_12 rfl ?_
  refine Gl.iload Y0 rfl d_prog_1_method_2_13 rfl ?_
  refine Gl.baload Y0 V ⟨by decide, by decide⟩ (v := (.int w3)) rfl d_prog_1_method_2_15 rfl ?_
  refine Gl.sipush Y0 (v := (255 : Int32)) (by decide) d_prog_1_method_2_16 rfl ?_
  obtain ⟨v19, hv19⟩ : ∃ z : Int32, w3 &&& (255 : Int32) = z := ⟨_, rfl⟩
  have iv19 : v19.toInt = w3.toInt % 256 := by have q := c_mask w3 (255 : Int32) 8 (by decide) (by decide); rw [hv19] at q; exact q
  refine Gl.iand Y0 hv19 d_prog_1_method_2_19 rfl ?_
  obtain ⟨v20, hv20⟩ : ∃ z : Int32, (0 : Int32) + v19 = z := ⟨_, rfl⟩
  have iv20 : v20.toInt = 0 + v19.toInt := by
    have q : (v20.toInt - (0 + v19.toInt)) % 4294967296 = 0 := by have q := c_iadd (0 : Int32) v19; rw [hv20] at q; exact q
    have r := rng32 v20
    omega
  refine Gl.iadd Y0 hv20 d_prog_1_method_2_20 rfl ?_
  refine Gl.istoreN Y0 (L' := #[.val (.ref a), .val (.int (3 : Int32)), .val (.int (4 : Int32)), .val (.int v20), .val (.int (3 : Int32))]) rfl d_prog_1_method_2_21 rfl ?_
  refine Gl.iinc Y0 rfl (r := (4 : Int32)) (by decide) (L' := #[.val (.ref a), .val (.int (3 : Int32)), .val (.int (4 : Int32)), .val (.int v20), .val (.int (4 : Int32))]) rfl d_prog_1_method_2_22 rfl ?_
  refine Gl.goto Y0 d_prog_1_method_2_25 (by decide) rfl ?_
  refine Gl.iload Y0 rfl d_prog_1_method_2_5 rfl ?_
  refine Gl.iloadN Y0 rfl d_prog_1_method_2_7 rfl ?_
  refine Gl.icmpge Y0 d_prog_1_method_2_8 (by decide) rfl rfl (fun c8_2 => ?_) (fun c8_2 => ?_)
  rotate_left
  · exact absurd c8_2 (by decide)
  refine Gl.iloadN Y0 rfl d_prog_1_method_2_28 rfl ?_
  refine Gl.sipush Y0 (v := (255 : Int32)) (by decide) d_prog_1_method_2_29 rfl ?_
  obtain ⟨v32, hv32⟩ : ∃ z : Int32, v20 &&& (255 : Int32) = z := ⟨_, rfl⟩
  have iv32 : v32.toInt = v20.toInt % 256 := by have q := c_mask v20 (255 : Int32) 8 (by decide) (by decide); rw [hv32] at q; exact q
  refine Gl.iand Y0 hv32 d_prog_1_method_2_32 rfl ?_
  exact Gl.retI Y0 (by decide) (by decide)  d_prog_1_method_2_33 ⟨v32, rfl, (by first | omega | rfl), rfl⟩
def R74 : Room := { frames := 0, cells := 0, slots := 0, locals := 0 }
def Q74 (Z : State) (a : Addr) (ck : ClassId) (w0 : Int32) (w1 : Int32) (w2 : Int32) (w3 : Int32) (h0 : Heap) (v : Option Value) (h : Heap) : Prop := ∃ r : Int32, v = some (.int r) ∧ (r.toInt = (0) % 256) ∧ h0 = h
theorem ef74 (a : Addr) (m : MethodId) : entryFrame m #[(.ref a), (.int (4 : Int32)), (.int (4 : Int32))] 5 = mkF m 0 #[.val (.ref a), .val (.int (4 : Int32)), .val (.int (4 : Int32)), .unset, .unset] [] := by first | (simp [entryFrame, mkF, argsToLocals, Value.category]; done) | rfl
set_option maxRecDepth 65536 in
set_option maxHeartbeats 40000000 in
theorem rm74 (l : Launch) (Z : State) (a0 : Array Value) (hw : ∀ d ∈ tables_1, d.before a0 Z = true) (ws : List Jvm.Cond) (a : Addr) (ck : ClassId) (w0 : Int32) (w1 : Int32) (w2 : Int32) (w3 : Int32) (h0 : Heap) (n0 : Nat) (Z0 : n0 ≤ h0.size) (V : Arv Z h0 a ck .byte (4 : Int32) [(.int w0), (.int w1), (.int w2), (.int w3)] (.int (0 : Int32))) : OMet l Z ws (⟨"com/example/benchwire/benchwire/astm/Link", "checksum", "([BII)I"⟩ : MethodName) prog_1_method_2_code 5 (some .int) R74 #[(.ref a), (.int (4 : Int32)), (.int (4 : Int32))] h0 n0 (Q74 Z a ck w0 w1 w2 w3 h0) := by
  refine OMet.of (plainFor_of_name pn_1) (ef74 a) Z0 ?_
  intro p e s m below meth c T0 Y0 hnm
  have Y0 : Sd Z "com/example/benchwire/benchwire/astm/Link" prog_1_method_2_code 5 (some .int) n0 p l e R74 s m #[(.ref a), (.int (4 : Int32)), (.int (4 : Int32))] below meth c T0 h0 0 0 := Y0
  refine Gl.iconst Y0 (v := (0 : Int32)) (by decide) d_prog_1_method_2_0 rfl ?_
  refine Gl.istoreN Y0 (L' := #[.val (.ref a), .val (.int (4 : Int32)), .val (.int (4 : Int32)), .val (.int (0 : Int32)), .unset]) rfl d_prog_1_method_2_1 rfl ?_
  refine Gl.iloadN Y0 rfl d_prog_1_method_2_2 rfl ?_
  refine Gl.istore Y0 (L' := #[.val (.ref a), .val (.int (4 : Int32)), .val (.int (4 : Int32)), .val (.int (0 : Int32)), .val (.int (4 : Int32))]) rfl d_prog_1_method_2_3 rfl ?_
  refine Gl.iload Y0 rfl d_prog_1_method_2_5 rfl ?_
  refine Gl.iloadN Y0 rfl d_prog_1_method_2_7 rfl ?_
  refine Gl.icmpge Y0 d_prog_1_method_2_8 (by decide) rfl rfl (fun c8 => ?_) (fun c8 => ?_)
  rotate_left
  · exact absurd c8 (by decide)
  refine Gl.iloadN Y0 rfl d_prog_1_method_2_28 rfl ?_
  refine Gl.sipush Y0 (v := (255 : Int32)) (by decide) d_prog_1_method_2_29 rfl ?_
  refine Gl.iand Y0 (r := (0 : Int32)) (by decide) d_prog_1_method_2_32 rfl ?_
  exact Gl.retI Y0 (by decide) (by decide)  d_prog_1_method_2_33 ⟨(0 : Int32), rfl, (by first | omega | rfl), rfl⟩
theorem own_r0 {v : Int32} (h0 : 0 ≤ v.toInt) (h : v.toInt ≤ 4) : v = (0 : Int32) ∨ v = (1 : Int32) ∨ v = (2 : Int32) ∨ v = (3 : Int32) ∨ v = (4 : Int32) := by
  have : v.toInt = 0 ∨ v.toInt = 1 ∨ v.toInt = 2 ∨ v.toInt = 3 ∨ v.toInt = 4 := by omega
  rcases this with q | q | q | q | q <;> simp [← Int32.toInt_inj, q]
theorem own_r1 {v : Int32} (h0 : 1 ≤ v.toInt) (h : v.toInt ≤ 4) : v = (1 : Int32) ∨ v = (2 : Int32) ∨ v = (3 : Int32) ∨ v = (4 : Int32) := by
  have : v.toInt = 1 ∨ v.toInt = 2 ∨ v.toInt = 3 ∨ v.toInt = 4 := by omega
  rcases this with q | q | q | q <;> simp [← Int32.toInt_inj, q]
theorem own_r2 {v : Int32} (h0 : 2 ≤ v.toInt) (h : v.toInt ≤ 4) : v = (2 : Int32) ∨ v = (3 : Int32) ∨ v = (4 : Int32) := by
  have : v.toInt = 2 ∨ v.toInt = 3 ∨ v.toInt = 4 := by omega
  rcases this with q | q | q <;> simp [← Int32.toInt_inj, q]
theorem own_r3 {v : Int32} (h0 : 3 ≤ v.toInt) (h : v.toInt ≤ 4) : v = (3 : Int32) ∨ v = (4 : Int32) := by
  have : v.toInt = 3 ∨ v.toInt = 4 := by omega
  rcases this with q | q <;> simp [← Int32.toInt_inj, q]
theorem own_r4 {v : Int32} (h0 : 4 ≤ v.toInt) (h : v.toInt ≤ 4) : v = (4 : Int32) := by
  have : v.toInt = 4 := by omega
  exact Int32.toInt_inj.mp this
theorem own_b {a v : Int32} (h : a.toInt8.toInt32 = v) : v.toInt % 256 = a.toInt % 256 := by
  have q := c_i2b a
  rw [h] at q
  omega
theorem tw_0 {a0 : Array Value} {Z : State} (hw : ∀ d ∈ tables_1, d.before a0 Z = true) : (Jvm.Cond.arrayClass Jvm.ClassFile.FieldType.byte).before a0 Z = true := hw _ (List.mem_of_getElem? (i := 0) rfl)
theorem tw_1 {a0 : Array Value} {Z : State} (hw : ∀ d ∈ tables_1, d.before a0 Z = true) : (Jvm.Cond.constant "com/example/benchwire/benchwire/astm/LinkChecksumPinLaw" (7 : Nat) (2147483647 : Int32)).before a0 Z = true := hw _ (List.mem_of_getElem? (i := 1) rfl)
theorem tw_2 {a0 : Array Value} {Z : State} (hw : ∀ d ∈ tables_1, d.before a0 Z = true) : (Jvm.Cond.methodLink "com/example/benchwire/benchwire/astm/LinkChecksumPinLaw" (8 : Nat) ({ cls := "com/example/benchwire/benchwire/astm/LinkChecksumPinLaw", name := "term", desc := "(IIII)I" } : Jvm.MethodName)).before a0 Z = true := hw _ (List.mem_of_getElem? (i := 2) rfl)
theorem pd_0 : parseMethodDescriptor "(IIII)I" = some ⟨[.int, .int, .int, .int], some .int⟩ := by decide +kernel
theorem tw_5 {a0 : Array Value} {Z : State} (hw : ∀ d ∈ tables_1, d.before a0 Z = true) : (Jvm.Cond.code ({ cls := "com/example/benchwire/benchwire/astm/LinkChecksumPinLaw", name := "term", desc := "(IIII)I" } : Jvm.MethodName) method_3_code (4 : Nat) (Option.some Jvm.ClassFile.FieldType.int)).before a0 Z = true := hw _ (List.mem_of_getElem? (i := 5) rfl)
theorem tw_4 {a0 : Array Value} {Z : State} (hw : ∀ d ∈ tables_1, d.before a0 Z = true) : (Jvm.Cond.initialized "com/example/benchwire/benchwire/astm/LinkChecksumPinLaw").before a0 Z = true := hw _ (List.mem_of_getElem? (i := 4) rfl)
theorem tw_3 {a0 : Array Value} {Z : State} (hw : ∀ d ∈ tables_1, d.before a0 Z = true) : (Jvm.Cond.static ({ cls := "com/example/benchwire/benchwire/astm/LinkChecksumPinLaw", name := "term", desc := "(IIII)I" } : Jvm.MethodName)).before a0 Z = true := hw _ (List.mem_of_getElem? (i := 3) rfl)
theorem tw_6 {a0 : Array Value} {Z : State} (hw : ∀ d ∈ tables_1, d.before a0 Z = true) : (Jvm.Cond.methodLink "com/example/benchwire/benchwire/astm/LinkChecksumPinLaw" (14 : Nat) ({ cls := "com/example/benchwire/benchwire/astm/Link", name := "checksum", desc := "([BII)I" } : Jvm.MethodName)).before a0 Z = true := hw _ (List.mem_of_getElem? (i := 6) rfl)
theorem pd_1 : parseMethodDescriptor "([BII)I" = some ⟨[(.array .byte), .int, .int], some .int⟩ := by decide +kernel
theorem tw_9 {a0 : Array Value} {Z : State} (hw : ∀ d ∈ tables_1, d.before a0 Z = true) : (Jvm.Cond.code ({ cls := "com/example/benchwire/benchwire/astm/Link", name := "checksum", desc := "([BII)I" } : Jvm.MethodName) prog_1_method_2_code (5 : Nat) (Option.some Jvm.ClassFile.FieldType.int)).before a0 Z = true := hw _ (List.mem_of_getElem? (i := 9) rfl)
theorem tw_8 {a0 : Array Value} {Z : State} (hw : ∀ d ∈ tables_1, d.before a0 Z = true) : (Jvm.Cond.initialized "com/example/benchwire/benchwire/astm/Link").before a0 Z = true := hw _ (List.mem_of_getElem? (i := 8) rfl)
theorem tw_7 {a0 : Array Value} {Z : State} (hw : ∀ d ∈ tables_1, d.before a0 Z = true) : (Jvm.Cond.static ({ cls := "com/example/benchwire/benchwire/astm/Link", name := "checksum", desc := "([BII)I" } : Jvm.MethodName)).before a0 Z = true := hw _ (List.mem_of_getElem? (i := 7) rfl)
def QL (Z : State) (a1 : Int32) (a2 : Int32) (a3 : Int32) (a4 : Int32) (pp : Int32) (qq : Int32) (h0 : Heap) (v : Option Value) (h : Heap) : Prop := v = some (.int 1)
theorem efL (a1 : Int32) (a2 : Int32) (a3 : Int32) (a4 : Int32) (pp : Int32) (qq : Int32) (m : MethodId) : entryFrame m #[(.int a1), (.int a2), (.int a3), (.int a4), (.int pp), (.int qq)] maxLocals = mkF m 0 #[.val (.int a1), .val (.int a2), .val (.int a3), .val (.int a4), .val (.int pp), .val (.int qq), .unset, .unset, .unset, .unset] [] := by first | (simp [entryFrame, mkF, argsToLocals, Value.category, maxLocals]; done) | rfl
set_option maxRecDepth 65536 in
set_option maxHeartbeats 40000000 in
theorem rmL (l : Launch) (Z : State) (a0 : Array Value) (hw : ∀ d ∈ tables_1, d.before a0 Z = true) (ws : List Jvm.Cond) (a1 : Int32) (a2 : Int32) (a3 : Int32) (a4 : Int32) (pp : Int32) (qq : Int32) (h0 : Heap) (n0 : Nat) (Z0 : n0 ≤ h0.size) : OMet l Z ws x code maxLocals ret room_1 #[(.int a1), (.int a2), (.int a3), (.int a4), (.int pp), (.int qq)] h0 n0 (QL Z a1 a2 a3 a4 pp qq h0) := by
  refine OMet.of (plainFor_of_name pn_0) (efL a1 a2 a3 a4 pp qq) Z0 ?_
  intro p e s m below meth c T0 Y0 hnm
  have Y0 : Sd Z "com/example/benchwire/benchwire/astm/LinkChecksumPinLaw" code maxLocals (some .boolean) n0 p l e room_1 s m #[(.int a1), (.int a2), (.int a3), (.int a4), (.int pp), (.int qq)] below meth c T0 h0 0 0 := Y0
  have na1 := rng32 a1
  have na2 := rng32 a2
  have na3 := rng32 a3
  have na4 := rng32 a4
  have npp := rng32 pp
  have nqq := rng32 qq
  refine Gl.iconst Y0 (v := (4 : Int32)) (by decide) at_0 rfl ?_
  refine Gl.newP Y0 4 (ty := .byte) rfl (tw_0 hw) (by decide) (by decide) (Nat.le_of_ble_eq_true rfl) (Nat.le_of_ble_eq_true rfl) (Nat.le_of_ble_eq_true rfl) at_1 rfl (fun T1 h1 b1 ck1 Y1 E1 g1 sb1 V1 => ?_)
  have V1 : Arv Z h1 b1 ck1 .byte (4 : Int32) [(.int (0 : Int32)), (.int (0 : Int32)), (.int (0 : Int32)), (.int (0 : Int32))] (.int (0 : Int32)) := V1.pad (pad_rep [] (.int (0 : Int32)) 4)
  show Gl p e below _ (T1.setTop (mkF m 3 #[.val (.int a1), .val (.int a2), .val (.int a3), .val (.int a4), .val (.int pp), .val (.int qq), .unset, .unset, .unset, .unset] [(.ref b1)]))
  refine Gl.dup Y1 rfl at_3 rfl ?_
  refine Gl.iconst Y1 (v := (0 : Int32)) (by decide) at_4 rfl ?_
  refine Gl.iloadN Y1 rfl at_5 rfl ?_
  obtain ⟨v6, hv6⟩ : ∃ z : Int32, a1.toInt8.toInt32 = z := ⟨_, rfl⟩
  refine Gl.i2b Y1 hv6 at_6 rfl ?_
  refine Gl.bastore Y1 V1 (v := (.int v6)) (congrArg Value.int (own_narB hv6)) ⟨by decide, by decide⟩ (ix := 0) rfl (Nat.le_of_ble_eq_true rfl) sb1 at_7 rfl (fun T7 h7 Y7 W7 A7 => ?_)
  have A7 : Arv Z h7 b1 ck1 .byte (4 : Int32) [(.int v6), (.int (0 : Int32)), (.int (0 : Int32)), (.int (0 : Int32))] (.int (0 : Int32)) := A7
  show Gl p e below _ (T7.setTop (mkF m 8 #[.val (.int a1), .val (.int a2), .val (.int a3), .val (.int a4), .val (.int pp), .val (.int qq), .unset, .unset, .unset, .unset] [(.ref b1)]))
  refine Gl.dup Y7 rfl at_8 rfl ?_
  refine Gl.iconst Y7 (v := (1 : Int32)) (by decide) at_9 rfl ?_
  refine Gl.iloadN Y7 rfl at_10 rfl ?_
  obtain ⟨v11, hv11⟩ : ∃ z : Int32, a2.toInt8.toInt32 = z := ⟨_, rfl⟩
  refine Gl.i2b Y7 hv11 at_11 rfl ?_
  refine Gl.bastore Y7 A7 (v := (.int v11)) (congrArg Value.int (own_narB hv11)) ⟨by decide, by decide⟩ (ix := 1) rfl (Nat.le_of_ble_eq_true rfl) sb1 at_12 rfl (fun T12 h12 Y12 W12 A12 => ?_)
  have A12 : Arv Z h12 b1 ck1 .byte (4 : Int32) [(.int v6), (.int v11), (.int (0 : Int32)), (.int (0 : Int32))] (.int (0 : Int32)) := A12
  show Gl p e below _ (T12.setTop (mkF m 13 #[.val (.int a1), .val (.int a2), .val (.int a3), .val (.int a4), .val (.int pp), .val (.int qq), .unset, .unset, .unset, .unset] [(.ref b1)]))
  refine Gl.dup Y12 rfl at_13 rfl ?_
  refine Gl.iconst Y12 (v := (2 : Int32)) (by decide) at_14 rfl ?_
  refine Gl.iloadN Y12 rfl at_15 rfl ?_
  obtain ⟨v16, hv16⟩ : ∃ z : Int32, a3.toInt8.toInt32 = z := ⟨_, rfl⟩
  refine Gl.i2b Y12 hv16 at_16 rfl ?_
  refine Gl.bastore Y12 A12 (v := (.int v16)) (congrArg Value.int (own_narB hv16)) ⟨by decide, by decide⟩ (ix := 2) rfl (Nat.le_of_ble_eq_true rfl) sb1 at_17 rfl (fun T17 h17 Y17 W17 A17 => ?_)
  have A17 : Arv Z h17 b1 ck1 .byte (4 : Int32) [(.int v6), (.int v11), (.int v16), (.int (0 : Int32))] (.int (0 : Int32)) := A17
  show Gl p e below _ (T17.setTop (mkF m 18 #[.val (.int a1), .val (.int a2), .val (.int a3), .val (.int a4), .val (.int pp), .val (.int qq), .unset, .unset, .unset, .unset] [(.ref b1)]))
  refine Gl.dup Y17 rfl at_18 rfl ?_
  refine Gl.iconst Y17 (v := (3 : Int32)) (by decide) at_19 rfl ?_
  refine Gl.iloadN Y17 rfl at_20 rfl ?_
  obtain ⟨v21, hv21⟩ : ∃ z : Int32, a4.toInt8.toInt32 = z := ⟨_, rfl⟩
  refine Gl.i2b Y17 hv21 at_21 rfl ?_
  refine Gl.bastore Y17 A17 (v := (.int v21)) (congrArg Value.int (own_narB hv21)) ⟨by decide, by decide⟩ (ix := 3) rfl (Nat.le_of_ble_eq_true rfl) sb1 at_22 rfl (fun T22 h22 Y22 W22 A22 => ?_)
  have A22 : Arv Z h22 b1 ck1 .byte (4 : Int32) [(.int v6), (.int v11), (.int v16), (.int v21)] (.int (0 : Int32)) := A22
  show Gl p e below _ (T22.setTop (mkF m 23 #[.val (.int a1), .val (.int a2), .val (.int a3), .val (.int a4), .val (.int pp), .val (.int qq), .unset, .unset, .unset, .unset] [(.ref b1)]))
  refine Gl.astore Y22 rfl (L' := #[.val (.int a1), .val (.int a2), .val (.int a3), .val (.int a4), .val (.int pp), .val (.int qq), .val (.ref b1), .unset, .unset, .unset]) rfl at_23 rfl ?_
  refine Gl.iload Y22 rfl at_25 rfl ?_
  refine Gl.ldcI Y22 (tw_1 hw) at_27 rfl ?_
  obtain ⟨v29, hv29⟩ : ∃ z : Int32, pp &&& (2147483647 : Int32) = z := ⟨_, rfl⟩
  have iv29 : v29.toInt = pp.toInt % 2147483648 := by have q := c_mask pp (2147483647 : Int32) 31 (by decide) (by decide); rw [hv29] at q; exact q
  refine Gl.iand Y22 hv29 at_29 rfl ?_
  refine Gl.iconst Y22 (v := (5 : Int32)) (by decide) at_30 rfl ?_
  obtain ⟨v31, hv31⟩ : ∃ z : Int32, v29 % (5 : Int32) = z := ⟨_, rfl⟩
  have iv31 : v31.toInt = v29.toInt % 5 := by have q := (c_irem v29 (5 : Int32) 5 (by decide)).1 (by omega); rw [hv31] at q; exact q
  refine Gl.irem Y22 (by decide) hv31 at_31 rfl ?_
  refine Gl.istore Y22 (L' := #[.val (.int a1), .val (.int a2), .val (.int a3), .val (.int a4), .val (.int pp), .val (.int qq), .val (.ref b1), .val (.int v31), .unset, .unset]) rfl at_32 rfl ?_
  have cs_v31 : v31 = (0 : Int32) ∨ v31 = (1 : Int32) ∨ v31 = (2 : Int32) ∨ v31 = (3 : Int32) ∨ v31 = (4 : Int32) := own_c4 (by omega) (by omega)
  rcases cs_v31 with rfl | rfl | rfl | rfl | rfl
  · refine Gl.iload Y22 rfl at_34 rfl ?_
    refine Gl.iload Y22 rfl at_36 rfl ?_
    refine Gl.ldcI Y22 (tw_1 hw) at_38 rfl ?_
    obtain ⟨v40, hv40⟩ : ∃ z : Int32, qq &&& (2147483647 : Int32) = z := ⟨_, rfl⟩
    have iv40 : v40.toInt = qq.toInt % 2147483648 := by have q := c_mask qq (2147483647 : Int32) 31 (by decide) (by decide); rw [hv40] at q; exact q
    refine Gl.iand Y22 hv40 at_40 rfl ?_
    refine Gl.iconst Y22 (v := (5 : Int32)) (by decide) at_41 rfl ?_
    refine Gl.iload Y22 rfl at_42 rfl ?_
    refine Gl.isub Y22 (r := (5 : Int32)) (by decide) at_44 rfl ?_
    obtain ⟨v45, hv45⟩ : ∃ z : Int32, v40 % (5 : Int32) = z := ⟨_, rfl⟩
    have iv45 : v45.toInt = v40.toInt % 5 := by have q := (c_irem v40 (5 : Int32) 5 (by decide)).1 (by omega); rw [hv45] at q; exact q
    refine Gl.irem Y22 (by decide) hv45 at_45 rfl ?_
    obtain ⟨v46, hv46⟩ : ∃ z : Int32, (0 : Int32) + v45 = z := ⟨_, rfl⟩
    have iv46 : v46.toInt = 0 + v45.toInt := by
      have q : (v46.toInt - (0 + v45.toInt)) % 4294967296 = 0 := by have q := c_iadd (0 : Int32) v45; rw [hv46] at q; exact q
      have r := rng32 v46
      omega
    refine Gl.iadd Y22 hv46 at_46 rfl ?_
    refine Gl.istore Y22 (L' := #[.val (.int a1), .val (.int a2), .val (.int a3), .val (.int a4), .val (.int pp), .val (.int qq), .val (.ref b1), .val (.int (0 : Int32)), .val (.int v46), .unset]) rfl at_47 rfl ?_
    have bs_v46 : 0 ≤ v46.toInt ∧ v46.toInt ≤ 4 := by omega
    have cs_v46 : v46 = (0 : Int32) ∨ v46 = (1 : Int32) ∨ v46 = (2 : Int32) ∨ v46 = (3 : Int32) ∨ v46 = (4 : Int32) := own_r0 bs_v46.1 bs_v46.2
    rcases cs_v46 with rfl | rfl | rfl | rfl | rfl
    · refine Gl.iloadN Y22 rfl at_49 rfl ?_
      refine Gl.iconst Y22 (v := (0 : Int32)) (by decide) at_50 rfl ?_
      refine Gl.iload Y22 rfl at_51 rfl ?_
      refine Gl.iload Y22 rfl at_53 rfl ?_
      refine Gl.callS Y22 (tw_2 hw) (tw_3 hw) (tw_4 hw) (tw_5 hw) (by decide) (rm0 l Z a0 hw [] a1 h22 n0 Y22.sz) (argsL := [(.int a1), (.int (0 : Int32)), (.int (0 : Int32)), (.int (0 : Int32))]) (rest := []) rfl rfl (lenOf pd_0 rfl) rfl (by decide) (Nat.le_of_ble_eq_true rfl) (by decide) (by decide) at_55 rfl (fun v55 T55 h55 Y55 q55 => ?_)
      obtain ⟨r55, rfl, p55, rfl⟩ := q55
      have kc1 : (0 : Int32).toInt = 0 := by decide
      show Gl p e below _ (T55.setTop (mkF m 58 #[.val (.int a1), .val (.int a2), .val (.int a3), .val (.int a4), .val (.int pp), .val (.int qq), .val (.ref b1), .val (.int (0 : Int32)), .val (.int (0 : Int32)), .unset] [(.int r55)]))
      refine Gl.iloadN Y55 rfl at_58 rfl ?_
      refine Gl.iconst Y55 (v := (1 : Int32)) (by decide) at_59 rfl ?_
      refine Gl.iload Y55 rfl at_60 rfl ?_
      refine Gl.iload Y55 rfl at_62 rfl ?_
      refine Gl.callS Y55 (tw_2 hw) (tw_3 hw) (tw_4 hw) (tw_5 hw) (by decide) (rm15 l Z a0 hw [] a2 h22 n0 Y55.sz) (argsL := [(.int a2), (.int (1 : Int32)), (.int (0 : Int32)), (.int (0 : Int32))]) (rest := [(.int r55)]) rfl rfl (lenOf pd_0 rfl) rfl (by decide) (Nat.le_of_ble_eq_true rfl) (by decide) (by decide) at_64 rfl (fun v64 T64 h64 Y64 q64 => ?_)
      obtain ⟨r64, rfl, p64, rfl⟩ := q64
      have kc2 : (1 : Int32).toInt = 1 := by decide
      show Gl p e below _ (T64.setTop (mkF m 67 #[.val (.int a1), .val (.int a2), .val (.int a3), .val (.int a4), .val (.int pp), .val (.int qq), .val (.ref b1), .val (.int (0 : Int32)), .val (.int (0 : Int32)), .unset] [(.int r64), (.int r55)]))
      obtain ⟨v67, hv67⟩ : ∃ z : Int32, r55 + r64 = z := ⟨_, rfl⟩
      have iv67 : v67.toInt = r55.toInt + r64.toInt := by
        have q : (v67.toInt - (r55.toInt + r64.toInt)) % 4294967296 = 0 := by have q := c_iadd r55 r64; rw [hv67] at q; exact q
        have r := rng32 v67
        omega
      refine Gl.iadd Y64 hv67 at_67 rfl ?_
      refine Gl.iloadN Y64 rfl at_68 rfl ?_
      refine Gl.iconst Y64 (v := (2 : Int32)) (by decide) at_69 rfl ?_
      refine Gl.iload Y64 rfl at_70 rfl ?_
      refine Gl.iload Y64 rfl at_72 rfl ?_
      refine Gl.callS Y64 (tw_2 hw) (tw_3 hw) (tw_4 hw) (tw_5 hw) (by decide) (rm30 l Z a0 hw [] a3 h22 n0 Y64.sz) (argsL := [(.int a3), (.int (2 : Int32)), (.int (0 : Int32)), (.int (0 : Int32))]) (rest := [(.int v67)]) rfl rfl (lenOf pd_0 rfl) rfl (by decide) (Nat.le_of_ble_eq_true rfl) (by decide) (by decide) at_74 rfl (fun v74 T74 h74 Y74 q74 => ?_)
      obtain ⟨r74, rfl, p74, rfl⟩ := q74
      have kc3 : (2 : Int32).toInt = 2 := by decide
      show Gl p e below _ (T74.setTop (mkF m 77 #[.val (.int a1), .val (.int a2), .val (.int a3), .val (.int a4), .val (.int pp), .val (.int qq), .val (.ref b1), .val (.int (0 : Int32)), .val (.int (0 : Int32)), .unset] [(.int r74), (.int v67)]))
      obtain ⟨v77, hv77⟩ : ∃ z : Int32, v67 + r74 = z := ⟨_, rfl⟩
      have iv77 : v77.toInt = v67.toInt + r74.toInt := by
        have q : (v77.toInt - (v67.toInt + r74.toInt)) % 4294967296 = 0 := by have q := c_iadd v67 r74; rw [hv77] at q; exact q
        have r := rng32 v77
        omega
      refine Gl.iadd Y74 hv77 at_77 rfl ?_
      refine Gl.iloadN Y74 rfl at_78 rfl ?_
      refine Gl.iconst Y74 (v := (3 : Int32)) (by decide) at_79 rfl ?_
      refine Gl.iload Y74 rfl at_80 rfl ?_
      refine Gl.iload Y74 rfl at_82 rfl ?_
      refine Gl.callS Y74 (tw_2 hw) (tw_3 hw) (tw_4 hw) (tw_5 hw) (by decide) (rm45 l Z a0 hw [] a4 h22 n0 Y74.sz) (argsL := [(.int a4), (.int (3 : Int32)), (.int (0 : Int32)), (.int (0 : Int32))]) (rest := [(.int v77)]) rfl rfl (lenOf pd_0 rfl) rfl (by decide) (Nat.le_of_ble_eq_true rfl) (by decide) (by decide) at_84 rfl (fun v84 T84 h84 Y84 q84 => ?_)
      obtain ⟨r84, rfl, p84, rfl⟩ := q84
      have kc4 : (3 : Int32).toInt = 3 := by decide
      show Gl p e below _ (T84.setTop (mkF m 87 #[.val (.int a1), .val (.int a2), .val (.int a3), .val (.int a4), .val (.int pp), .val (.int qq), .val (.ref b1), .val (.int (0 : Int32)), .val (.int (0 : Int32)), .unset] [(.int r84), (.int v77)]))
      obtain ⟨v87, hv87⟩ : ∃ z : Int32, v77 + r84 = z := ⟨_, rfl⟩
      have iv87 : v87.toInt = v77.toInt + r84.toInt := by
        have q : (v87.toInt - (v77.toInt + r84.toInt)) % 4294967296 = 0 := by have q := c_iadd v77 r84; rw [hv87] at q; exact q
        have r := rng32 v87
        omega
      refine Gl.iadd Y84 hv87 at_87 rfl ?_
      refine Gl.istore Y84 (L' := #[.val (.int a1), .val (.int a2), .val (.int a3), .val (.int a4), .val (.int pp), .val (.int qq), .val (.ref b1), .val (.int (0 : Int32)), .val (.int (0 : Int32)), .val (.int v87)]) rfl at_88 rfl ?_
      refine Gl.iload Y84 rfl at_90 rfl ?_
      refine Gl.sipush Y84 (v := (256 : Int32)) (by decide) at_92 rfl ?_
      obtain ⟨v95, hv95⟩ : ∃ z : Int32, v87 % (256 : Int32) = z := ⟨_, rfl⟩
      have iv95 : v95.toInt = v87.toInt % 256 := by have q := (c_irem v87 (256 : Int32) 256 (by decide)).1 (by omega); rw [hv95] at q; exact q
      refine Gl.irem Y84 (by decide) hv95 at_95 rfl ?_
      refine Gl.istore Y84 (L' := #[.val (.int a1), .val (.int a2), .val (.int a3), .val (.int a4), .val (.int pp), .val (.int qq), .val (.ref b1), .val (.int (0 : Int32)), .val (.int (0 : Int32)), .val (.int v95)]) rfl at_96 rfl ?_
      refine Gl.aload Y84 rfl rfl at_98 rfl ?_
      refine Gl.iload Y84 rfl at_100 rfl ?_
      refine Gl.iload Y84 rfl at_102 rfl ?_
      refine Gl.callS Y84 (tw_6 hw) (tw_7 hw) (tw_8 hw) (tw_9 hw) (by decide) (rm60 l Z a0 hw [] b1 ck1 v6 v11 v16 v21 h22 n0 Y84.sz A22) (argsL := [(.ref b1), (.int (0 : Int32)), (.int (0 : Int32))]) (rest := []) rfl rfl (lenOf pd_1 rfl) rfl (by decide) (Nat.le_of_ble_eq_true rfl) (by decide) (by decide) at_104 rfl (fun v104 T104 h104 Y104 q104 => ?_)
      obtain ⟨r104, rfl, p104, rfl⟩ := q104
      show Gl p e below _ (T104.setTop (mkF m 107 #[.val (.int a1), .val (.int a2), .val (.int a3), .val (.int a4), .val (.int pp), .val (.int qq), .val (.ref b1), .val (.int (0 : Int32)), .val (.int (0 : Int32)), .val (.int v95)] [(.int r104)]))
      refine Gl.iload Y104 rfl at_107 rfl ?_
      refine Gl.icmpne Y104 at_109 (by decide) rfl rfl (fun c109 => ?_) (fun c109 => ?_)
      · exact absurd (Int32.toInt_inj.mp (by rw [p104, iv95, iv87, iv77, iv67, p55, p64, p74, p84]; first | done | rfl | (simp only [Int.zero_add, Int.add_zero]))) c109
      have j109 : r104.toInt = v95.toInt := congrArg Int32.toInt c109
      refine Gl.iconst Y104 (v := (1 : Int32)) (by decide) at_112 rfl ?_
      refine Gl.goto Y104 at_113 (by decide) rfl ?_
      exact Gl.retZ Y104 (by decide) (by decide) (x' := (1 : Int32)) (by decide) at_117 rfl
    · refine Gl.iloadN Y22 rfl at_49 rfl ?_
      refine Gl.iconst Y22 (v := (0 : Int32)) (by decide) at_50 rfl ?_
      refine Gl.iload Y22 rfl at_51 rfl ?_
      refine Gl.iload Y22 rfl at_53 rfl ?_
      refine Gl.callS Y22 (tw_2 hw) (tw_3 hw) (tw_4 hw) (tw_5 hw) (by decide) (rm1 l Z a0 hw [] a1 h22 n0 Y22.sz) (argsL := [(.int a1), (.int (0 : Int32)), (.int (0 : Int32)), (.int (1 : Int32))]) (rest := []) rfl rfl (lenOf pd_0 rfl) rfl (by decide) (Nat.le_of_ble_eq_true rfl) (by decide) (by decide) at_55 rfl (fun v55 T55 h55 Y55 q55 => ?_)
      obtain ⟨r55, rfl, p55, rfl⟩ := q55
      have kc5 : (0 : Int32).toInt = 0 := by decide
      have kc6 : (1 : Int32).toInt = 1 := by decide
      show Gl p e below _ (T55.setTop (mkF m 58 #[.val (.int a1), .val (.int a2), .val (.int a3), .val (.int a4), .val (.int pp), .val (.int qq), .val (.ref b1), .val (.int (0 : Int32)), .val (.int (1 : Int32)), .unset] [(.int r55)]))
      refine Gl.iloadN Y55 rfl at_58 rfl ?_
      refine Gl.iconst Y55 (v := (1 : Int32)) (by decide) at_59 rfl ?_
      refine Gl.iload Y55 rfl at_60 rfl ?_
      refine Gl.iload Y55 rfl at_62 rfl ?_
      refine Gl.callS Y55 (tw_2 hw) (tw_3 hw) (tw_4 hw) (tw_5 hw) (by decide) (rm16 l Z a0 hw [] a2 h22 n0 Y55.sz) (argsL := [(.int a2), (.int (1 : Int32)), (.int (0 : Int32)), (.int (1 : Int32))]) (rest := [(.int r55)]) rfl rfl (lenOf pd_0 rfl) rfl (by decide) (Nat.le_of_ble_eq_true rfl) (by decide) (by decide) at_64 rfl (fun v64 T64 h64 Y64 q64 => ?_)
      obtain ⟨r64, rfl, p64, rfl⟩ := q64
      show Gl p e below _ (T64.setTop (mkF m 67 #[.val (.int a1), .val (.int a2), .val (.int a3), .val (.int a4), .val (.int pp), .val (.int qq), .val (.ref b1), .val (.int (0 : Int32)), .val (.int (1 : Int32)), .unset] [(.int r64), (.int r55)]))
      obtain ⟨v67, hv67⟩ : ∃ z : Int32, r55 + r64 = z := ⟨_, rfl⟩
      have iv67 : v67.toInt = r55.toInt + r64.toInt := by
        have q : (v67.toInt - (r55.toInt + r64.toInt)) % 4294967296 = 0 := by have q := c_iadd r55 r64; rw [hv67] at q; exact q
        have r := rng32 v67
        omega
      refine Gl.iadd Y64 hv67 at_67 rfl ?_
      refine Gl.iloadN Y64 rfl at_68 rfl ?_
      refine Gl.iconst Y64 (v := (2 : Int32)) (by decide) at_69 rfl ?_
      refine Gl.iload Y64 rfl at_70 rfl ?_
      refine Gl.iload Y64 rfl at_72 rfl ?_
      refine Gl.callS Y64 (tw_2 hw) (tw_3 hw) (tw_4 hw) (tw_5 hw) (by decide) (rm31 l Z a0 hw [] a3 h22 n0 Y64.sz) (argsL := [(.int a3), (.int (2 : Int32)), (.int (0 : Int32)), (.int (1 : Int32))]) (rest := [(.int v67)]) rfl rfl (lenOf pd_0 rfl) rfl (by decide) (Nat.le_of_ble_eq_true rfl) (by decide) (by decide) at_74 rfl (fun v74 T74 h74 Y74 q74 => ?_)
      obtain ⟨r74, rfl, p74, rfl⟩ := q74
      have kc7 : (2 : Int32).toInt = 2 := by decide
      show Gl p e below _ (T74.setTop (mkF m 77 #[.val (.int a1), .val (.int a2), .val (.int a3), .val (.int a4), .val (.int pp), .val (.int qq), .val (.ref b1), .val (.int (0 : Int32)), .val (.int (1 : Int32)), .unset] [(.int r74), (.int v67)]))
      obtain ⟨v77, hv77⟩ : ∃ z : Int32, v67 + r74 = z := ⟨_, rfl⟩
      have iv77 : v77.toInt = v67.toInt + r74.toInt := by
        have q : (v77.toInt - (v67.toInt + r74.toInt)) % 4294967296 = 0 := by have q := c_iadd v67 r74; rw [hv77] at q; exact q
        have r := rng32 v77
        omega
      refine Gl.iadd Y74 hv77 at_77 rfl ?_
      refine Gl.iloadN Y74 rfl at_78 rfl ?_
      refine Gl.iconst Y74 (v := (3 : Int32)) (by decide) at_79 rfl ?_
      refine Gl.iload Y74 rfl at_80 rfl ?_
      refine Gl.iload Y74 rfl at_82 rfl ?_
      refine Gl.callS Y74 (tw_2 hw) (tw_3 hw) (tw_4 hw) (tw_5 hw) (by decide) (rm46 l Z a0 hw [] a4 h22 n0 Y74.sz) (argsL := [(.int a4), (.int (3 : Int32)), (.int (0 : Int32)), (.int (1 : Int32))]) (rest := [(.int v77)]) rfl rfl (lenOf pd_0 rfl) rfl (by decide) (Nat.le_of_ble_eq_true rfl) (by decide) (by decide) at_84 rfl (fun v84 T84 h84 Y84 q84 => ?_)
      obtain ⟨r84, rfl, p84, rfl⟩ := q84
      have kc8 : (3 : Int32).toInt = 3 := by decide
      show Gl p e below _ (T84.setTop (mkF m 87 #[.val (.int a1), .val (.int a2), .val (.int a3), .val (.int a4), .val (.int pp), .val (.int qq), .val (.ref b1), .val (.int (0 : Int32)), .val (.int (1 : Int32)), .unset] [(.int r84), (.int v77)]))
      obtain ⟨v87, hv87⟩ : ∃ z : Int32, v77 + r84 = z := ⟨_, rfl⟩
      have iv87 : v87.toInt = v77.toInt + r84.toInt := by
        have q : (v87.toInt - (v77.toInt + r84.toInt)) % 4294967296 = 0 := by have q := c_iadd v77 r84; rw [hv87] at q; exact q
        have r := rng32 v87
        omega
      refine Gl.iadd Y84 hv87 at_87 rfl ?_
      refine Gl.istore Y84 (L' := #[.val (.int a1), .val (.int a2), .val (.int a3), .val (.int a4), .val (.int pp), .val (.int qq), .val (.ref b1), .val (.int (0 : Int32)), .val (.int (1 : Int32)), .val (.int v87)]) rfl at_88 rfl ?_
      refine Gl.iload Y84 rfl at_90 rfl ?_
      refine Gl.sipush Y84 (v := (256 : Int32)) (by decide) at_92 rfl ?_
      obtain ⟨v95, hv95⟩ : ∃ z : Int32, v87 % (256 : Int32) = z := ⟨_, rfl⟩
      have iv95 : v95.toInt = v87.toInt % 256 := by have q := (c_irem v87 (256 : Int32) 256 (by decide)).1 (by omega); rw [hv95] at q; exact q
      refine Gl.irem Y84 (by decide) hv95 at_95 rfl ?_
      refine Gl.istore Y84 (L' := #[.val (.int a1), .val (.int a2), .val (.int a3), .val (.int a4), .val (.int pp), .val (.int qq), .val (.ref b1), .val (.int (0 : Int32)), .val (.int (1 : Int32)), .val (.int v95)]) rfl at_96 rfl ?_
      refine Gl.aload Y84 rfl rfl at_98 rfl ?_
      refine Gl.iload Y84 rfl at_100 rfl ?_
      refine Gl.iload Y84 rfl at_102 rfl ?_
      refine Gl.callS Y84 (tw_6 hw) (tw_7 hw) (tw_8 hw) (tw_9 hw) (by decide) (rm61 l Z a0 hw [] b1 ck1 v6 v11 v16 v21 h22 n0 Y84.sz A22) (argsL := [(.ref b1), (.int (0 : Int32)), (.int (1 : Int32))]) (rest := []) rfl rfl (lenOf pd_1 rfl) rfl (by decide) (Nat.le_of_ble_eq_true rfl) (by decide) (by decide) at_104 rfl (fun v104 T104 h104 Y104 q104 => ?_)
      obtain ⟨r104, rfl, p104, rfl⟩ := q104
      show Gl p e below _ (T104.setTop (mkF m 107 #[.val (.int a1), .val (.int a2), .val (.int a3), .val (.int a4), .val (.int pp), .val (.int qq), .val (.ref b1), .val (.int (0 : Int32)), .val (.int (1 : Int32)), .val (.int v95)] [(.int r104)]))
      refine Gl.iload Y104 rfl at_107 rfl ?_
      refine Gl.icmpne Y104 at_109 (by decide) rfl rfl (fun c109 => ?_) (fun c109 => ?_)
      · exact absurd (Int32.toInt_inj.mp (by rw [p104, own_b hv6, iv95, iv87, iv77, iv67, p55, p64, p74, p84]; first | done | rfl | (simp only [Int.zero_add, Int.add_zero]))) c109
      have j109 : r104.toInt = v95.toInt := congrArg Int32.toInt c109
      refine Gl.iconst Y104 (v := (1 : Int32)) (by decide) at_112 rfl ?_
      refine Gl.goto Y104 at_113 (by decide) rfl ?_
      exact Gl.retZ Y104 (by decide) (by decide) (x' := (1 : Int32)) (by decide) at_117 rfl
    · refine Gl.iloadN Y22 rfl at_49 rfl ?_
      refine Gl.iconst Y22 (v := (0 : Int32)) (by decide) at_50 rfl ?_
      refine Gl.iload Y22 rfl at_51 rfl ?_
      refine Gl.iload Y22 rfl at_53 rfl ?_
      refine Gl.callS Y22 (tw_2 hw) (tw_3 hw) (tw_4 hw) (tw_5 hw) (by decide) (rm2 l Z a0 hw [] a1 h22 n0 Y22.sz) (argsL := [(.int a1), (.int (0 : Int32)), (.int (0 : Int32)), (.int (2 : Int32))]) (rest := []) rfl rfl (lenOf pd_0 rfl) rfl (by decide) (Nat.le_of_ble_eq_true rfl) (by decide) (by decide) at_55 rfl (fun v55 T55 h55 Y55 q55 => ?_)
      obtain ⟨r55, rfl, p55, rfl⟩ := q55
      have kc9 : (0 : Int32).toInt = 0 := by decide
      have kc10 : (2 : Int32).toInt = 2 := by decide
      show Gl p e below _ (T55.setTop (mkF m 58 #[.val (.int a1), .val (.int a2), .val (.int a3), .val (.int a4), .val (.int pp), .val (.int qq), .val (.ref b1), .val (.int (0 : Int32)), .val (.int (2 : Int32)), .unset] [(.int r55)]))
      refine Gl.iloadN Y55 rfl at_58 rfl ?_
      refine Gl.iconst Y55 (v := (1 : Int32)) (by decide) at_59 rfl ?_
      refine Gl.iload Y55 rfl at_60 rfl ?_
      refine Gl.iload Y55 rfl at_62 rfl ?_
      refine Gl.callS Y55 (tw_2 hw) (tw_3 hw) (tw_4 hw) (tw_5 hw) (by decide) (rm17 l Z a0 hw [] a2 h22 n0 Y55.sz) (argsL := [(.int a2), (.int (1 : Int32)), (.int (0 : Int32)), (.int (2 : Int32))]) (rest := [(.int r55)]) rfl rfl (lenOf pd_0 rfl) rfl (by decide) (Nat.le_of_ble_eq_true rfl) (by decide) (by decide) at_64 rfl (fun v64 T64 h64 Y64 q64 => ?_)
      obtain ⟨r64, rfl, p64, rfl⟩ := q64
      have kc11 : (1 : Int32).toInt = 1 := by decide
      show Gl p e below _ (T64.setTop (mkF m 67 #[.val (.int a1), .val (.int a2), .val (.int a3), .val (.int a4), .val (.int pp), .val (.int qq), .val (.ref b1), .val (.int (0 : Int32)), .val (.int (2 : Int32)), .unset] [(.int r64), (.int r55)]))
      obtain ⟨v67, hv67⟩ : ∃ z : Int32, r55 + r64 = z := ⟨_, rfl⟩
      have iv67 : v67.toInt = r55.toInt + r64.toInt := by
        have q : (v67.toInt - (r55.toInt + r64.toInt)) % 4294967296 = 0 := by have q := c_iadd r55 r64; rw [hv67] at q; exact q
        have r := rng32 v67
        omega
      refine Gl.iadd Y64 hv67 at_67 rfl ?_
      refine Gl.iloadN Y64 rfl at_68 rfl ?_
      refine Gl.iconst Y64 (v := (2 : Int32)) (by decide) at_69 rfl ?_
      refine Gl.iload Y64 rfl at_70 rfl ?_
      refine Gl.iload Y64 rfl at_72 rfl ?_
      refine Gl.callS Y64 (tw_2 hw) (tw_3 hw) (tw_4 hw) (tw_5 hw) (by decide) (rm32 l Z a0 hw [] a3 h22 n0 Y64.sz) (argsL := [(.int a3), (.int (2 : Int32)), (.int (0 : Int32)), (.int (2 : Int32))]) (rest := [(.int v67)]) rfl rfl (lenOf pd_0 rfl) rfl (by decide) (Nat.le_of_ble_eq_true rfl) (by decide) (by decide) at_74 rfl (fun v74 T74 h74 Y74 q74 => ?_)
      obtain ⟨r74, rfl, p74, rfl⟩ := q74
      show Gl p e below _ (T74.setTop (mkF m 77 #[.val (.int a1), .val (.int a2), .val (.int a3), .val (.int a4), .val (.int pp), .val (.int qq), .val (.ref b1), .val (.int (0 : Int32)), .val (.int (2 : Int32)), .unset] [(.int r74), (.int v67)]))
      obtain ⟨v77, hv77⟩ : ∃ z : Int32, v67 + r74 = z := ⟨_, rfl⟩
      have iv77 : v77.toInt = v67.toInt + r74.toInt := by
        have q : (v77.toInt - (v67.toInt + r74.toInt)) % 4294967296 = 0 := by have q := c_iadd v67 r74; rw [hv77] at q; exact q
        have r := rng32 v77
        omega
      refine Gl.iadd Y74 hv77 at_77 rfl ?_
      refine Gl.iloadN Y74 rfl at_78 rfl ?_
      refine Gl.iconst Y74 (v := (3 : Int32)) (by decide) at_79 rfl ?_
      refine Gl.iload Y74 rfl at_80 rfl ?_
      refine Gl.iload Y74 rfl at_82 rfl ?_
      refine Gl.callS Y74 (tw_2 hw) (tw_3 hw) (tw_4 hw) (tw_5 hw) (by decide) (rm47 l Z a0 hw [] a4 h22 n0 Y74.sz) (argsL := [(.int a4), (.int (3 : Int32)), (.int (0 : Int32)), (.int (2 : Int32))]) (rest := [(.int v77)]) rfl rfl (lenOf pd_0 rfl) rfl (by decide) (Nat.le_of_ble_eq_true rfl) (by decide) (by decide) at_84 rfl (fun v84 T84 h84 Y84 q84 => ?_)
      obtain ⟨r84, rfl, p84, rfl⟩ := q84
      have kc12 : (3 : Int32).toInt = 3 := by decide
      show Gl p e below _ (T84.setTop (mkF m 87 #[.val (.int a1), .val (.int a2), .val (.int a3), .val (.int a4), .val (.int pp), .val (.int qq), .val (.ref b1), .val (.int (0 : Int32)), .val (.int (2 : Int32)), .unset] [(.int r84), (.int v77)]))
      obtain ⟨v87, hv87⟩ : ∃ z : Int32, v77 + r84 = z := ⟨_, rfl⟩
      have iv87 : v87.toInt = v77.toInt + r84.toInt := by
        have q : (v87.toInt - (v77.toInt + r84.toInt)) % 4294967296 = 0 := by have q := c_iadd v77 r84; rw [hv87] at q; exact q
        have r := rng32 v87
        omega
      refine Gl.iadd Y84 hv87 at_87 rfl ?_
      refine Gl.istore Y84 (L' := #[.val (.int a1), .val (.int a2), .val (.int a3), .val (.int a4), .val (.int pp), .val (.int qq), .val (.ref b1), .val (.int (0 : Int32)), .val (.int (2 : Int32)), .val (.int v87)]) rfl at_88 rfl ?_
      refine Gl.iload Y84 rfl at_90 rfl ?_
      refine Gl.sipush Y84 (v := (256 : Int32)) (by decide) at_92 rfl ?_
      obtain ⟨v95, hv95⟩ : ∃ z : Int32, v87 % (256 : Int32) = z := ⟨_, rfl⟩
      have iv95 : v95.toInt = v87.toInt % 256 := by have q := (c_irem v87 (256 : Int32) 256 (by decide)).1 (by omega); rw [hv95] at q; exact q
      refine Gl.irem Y84 (by decide) hv95 at_95 rfl ?_
      refine Gl.istore Y84 (L' := #[.val (.int a1), .val (.int a2), .val (.int a3), .val (.int a4), .val (.int pp), .val (.int qq), .val (.ref b1), .val (.int (0 : Int32)), .val (.int (2 : Int32)), .val (.int v95)]) rfl at_96 rfl ?_
      refine Gl.aload Y84 rfl rfl at_98 rfl ?_
      refine Gl.iload Y84 rfl at_100 rfl ?_
      refine Gl.iload Y84 rfl at_102 rfl ?_
      refine Gl.callS Y84 (tw_6 hw) (tw_7 hw) (tw_8 hw) (tw_9 hw) (by decide) (rm62 l Z a0 hw [] b1 ck1 v6 v11 v16 v21 h22 n0 Y84.sz A22) (argsL := [(.ref b1), (.int (0 : Int32)), (.int (2 : Int32))]) (rest := []) rfl rfl (lenOf pd_1 rfl) rfl (by decide) (Nat.le_of_ble_eq_true rfl) (by decide) (by decide) at_104 rfl (fun v104 T104 h104 Y104 q104 => ?_)
      obtain ⟨r104, rfl, p104, rfl⟩ := q104
      show Gl p e below _ (T104.setTop (mkF m 107 #[.val (.int a1), .val (.int a2), .val (.int a3), .val (.int a4), .val (.int pp), .val (.int qq), .val (.ref b1), .val (.int (0 : Int32)), .val (.int (2 : Int32)), .val (.int v95)] [(.int r104)]))
      refine Gl.iload Y104 rfl at_107 rfl ?_
      refine Gl.icmpne Y104 at_109 (by decide) rfl rfl (fun c109 => ?_) (fun c109 => ?_)
      · exact absurd (Int32.toInt_inj.mp (by rw [p104, own_b hv6, own_b hv11, iv95, iv87, iv77, iv67, p55, p64, p74, p84]; first | done | rfl | (simp only [Int.zero_add, Int.add_zero]))) c109
      have j109 : r104.toInt = v95.toInt := congrArg Int32.toInt c109
      refine Gl.iconst Y104 (v := (1 : Int32)) (by decide) at_112 rfl ?_
      refine Gl.goto Y104 at_113 (by decide) rfl ?_
      exact Gl.retZ Y104 (by decide) (by decide) (x' := (1 : Int32)) (by decide) at_117 rfl
    · refine Gl.iloadN Y22 rfl at_49 rfl ?_
      refine Gl.iconst Y22 (v := (0 : Int32)) (by decide) at_50 rfl ?_
      refine Gl.iload Y22 rfl at_51 rfl ?_
      refine Gl.iload Y22 rfl at_53 rfl ?_
      refine Gl.callS Y22 (tw_2 hw) (tw_3 hw) (tw_4 hw) (tw_5 hw) (by decide) (rm3 l Z a0 hw [] a1 h22 n0 Y22.sz) (argsL := [(.int a1), (.int (0 : Int32)), (.int (0 : Int32)), (.int (3 : Int32))]) (rest := []) rfl rfl (lenOf pd_0 rfl) rfl (by decide) (Nat.le_of_ble_eq_true rfl) (by decide) (by decide) at_55 rfl (fun v55 T55 h55 Y55 q55 => ?_)
      obtain ⟨r55, rfl, p55, rfl⟩ := q55
      have kc13 : (0 : Int32).toInt = 0 := by decide
      have kc14 : (3 : Int32).toInt = 3 := by decide
      show Gl p e below _ (T55.setTop (mkF m 58 #[.val (.int a1), .val (.int a2), .val (.int a3), .val (.int a4), .val (.int pp), .val (.int qq), .val (.ref b1), .val (.int (0 : Int32)), .val (.int (3 : Int32)), .unset] [(.int r55)]))
      refine Gl.iloadN Y55 rfl at_58 rfl ?_
      refine Gl.iconst Y55 (v := (1 : Int32)) (by decide) at_59 rfl ?_
      refine Gl.iload Y55 rfl at_60 rfl ?_
      refine Gl.iload Y55 rfl at_62 rfl ?_
      refine Gl.callS Y55 (tw_2 hw) (tw_3 hw) (tw_4 hw) (tw_5 hw) (by decide) (rm18 l Z a0 hw [] a2 h22 n0 Y55.sz) (argsL := [(.int a2), (.int (1 : Int32)), (.int (0 : Int32)), (.int (3 : Int32))]) (rest := [(.int r55)]) rfl rfl (lenOf pd_0 rfl) rfl (by decide) (Nat.le_of_ble_eq_true rfl) (by decide) (by decide) at_64 rfl (fun v64 T64 h64 Y64 q64 => ?_)
      obtain ⟨r64, rfl, p64, rfl⟩ := q64
      have kc15 : (1 : Int32).toInt = 1 := by decide
      show Gl p e below _ (T64.setTop (mkF m 67 #[.val (.int a1), .val (.int a2), .val (.int a3), .val (.int a4), .val (.int pp), .val (.int qq), .val (.ref b1), .val (.int (0 : Int32)), .val (.int (3 : Int32)), .unset] [(.int r64), (.int r55)]))
      obtain ⟨v67, hv67⟩ : ∃ z : Int32, r55 + r64 = z := ⟨_, rfl⟩
      have iv67 : v67.toInt = r55.toInt + r64.toInt := by
        have q : (v67.toInt - (r55.toInt + r64.toInt)) % 4294967296 = 0 := by have q := c_iadd r55 r64; rw [hv67] at q; exact q
        have r := rng32 v67
        omega
      refine Gl.iadd Y64 hv67 at_67 rfl ?_
      refine Gl.iloadN Y64 rfl at_68 rfl ?_
      refine Gl.iconst Y64 (v := (2 : Int32)) (by decide) at_69 rfl ?_
      refine Gl.iload Y64 rfl at_70 rfl ?_
      refine Gl.iload Y64 rfl at_72 rfl ?_
      refine Gl.callS Y64 (tw_2 hw) (tw_3 hw) (tw_4 hw) (tw_5 hw) (by decide) (rm33 l Z a0 hw [] a3 h22 n0 Y64.sz) (argsL := [(.int a3), (.int (2 : Int32)), (.int (0 : Int32)), (.int (3 : Int32))]) (rest := [(.int v67)]) rfl rfl (lenOf pd_0 rfl) rfl (by decide) (Nat.le_of_ble_eq_true rfl) (by decide) (by decide) at_74 rfl (fun v74 T74 h74 Y74 q74 => ?_)
      obtain ⟨r74, rfl, p74, rfl⟩ := q74
      have kc16 : (2 : Int32).toInt = 2 := by decide
      show Gl p e below _ (T74.setTop (mkF m 77 #[.val (.int a1), .val (.int a2), .val (.int a3), .val (.int a4), .val (.int pp), .val (.int qq), .val (.ref b1), .val (.int (0 : Int32)), .val (.int (3 : Int32)), .unset] [(.int r74), (.int v67)]))
      obtain ⟨v77, hv77⟩ : ∃ z : Int32, v67 + r74 = z := ⟨_, rfl⟩
      have iv77 : v77.toInt = v67.toInt + r74.toInt := by
        have q : (v77.toInt - (v67.toInt + r74.toInt)) % 4294967296 = 0 := by have q := c_iadd v67 r74; rw [hv77] at q; exact q
        have r := rng32 v77
        omega
      refine Gl.iadd Y74 hv77 at_77 rfl ?_
      refine Gl.iloadN Y74 rfl at_78 rfl ?_
      refine Gl.iconst Y74 (v := (3 : Int32)) (by decide) at_79 rfl ?_
      refine Gl.iload Y74 rfl at_80 rfl ?_
      refine Gl.iload Y74 rfl at_82 rfl ?_
      refine Gl.callS Y74 (tw_2 hw) (tw_3 hw) (tw_4 hw) (tw_5 hw) (by decide) (rm48 l Z a0 hw [] a4 h22 n0 Y74.sz) (argsL := [(.int a4), (.int (3 : Int32)), (.int (0 : Int32)), (.int (3 : Int32))]) (rest := [(.int v77)]) rfl rfl (lenOf pd_0 rfl) rfl (by decide) (Nat.le_of_ble_eq_true rfl) (by decide) (by decide) at_84 rfl (fun v84 T84 h84 Y84 q84 => ?_)
      obtain ⟨r84, rfl, p84, rfl⟩ := q84
      show Gl p e below _ (T84.setTop (mkF m 87 #[.val (.int a1), .val (.int a2), .val (.int a3), .val (.int a4), .val (.int pp), .val (.int qq), .val (.ref b1), .val (.int (0 : Int32)), .val (.int (3 : Int32)), .unset] [(.int r84), (.int v77)]))
      obtain ⟨v87, hv87⟩ : ∃ z : Int32, v77 + r84 = z := ⟨_, rfl⟩
      have iv87 : v87.toInt = v77.toInt + r84.toInt := by
        have q : (v87.toInt - (v77.toInt + r84.toInt)) % 4294967296 = 0 := by have q := c_iadd v77 r84; rw [hv87] at q; exact q
        have r := rng32 v87
        omega
      refine Gl.iadd Y84 hv87 at_87 rfl ?_
      refine Gl.istore Y84 (L' := #[.val (.int a1), .val (.int a2), .val (.int a3), .val (.int a4), .val (.int pp), .val (.int qq), .val (.ref b1), .val (.int (0 : Int32)), .val (.int (3 : Int32)), .val (.int v87)]) rfl at_88 rfl ?_
      refine Gl.iload Y84 rfl at_90 rfl ?_
      refine Gl.sipush Y84 (v := (256 : Int32)) (by decide) at_92 rfl ?_
      obtain ⟨v95, hv95⟩ : ∃ z : Int32, v87 % (256 : Int32) = z := ⟨_, rfl⟩
      have iv95 : v95.toInt = v87.toInt % 256 := by have q := (c_irem v87 (256 : Int32) 256 (by decide)).1 (by omega); rw [hv95] at q; exact q
      refine Gl.irem Y84 (by decide) hv95 at_95 rfl ?_
      refine Gl.istore Y84 (L' := #[.val (.int a1), .val (.int a2), .val (.int a3), .val (.int a4), .val (.int pp), .val (.int qq), .val (.ref b1), .val (.int (0 : Int32)), .val (.int (3 : Int32)), .val (.int v95)]) rfl at_96 rfl ?_
      refine Gl.aload Y84 rfl rfl at_98 rfl ?_
      refine Gl.iload Y84 rfl at_100 rfl ?_
      refine Gl.iload Y84 rfl at_102 rfl ?_
      refine Gl.callS Y84 (tw_6 hw) (tw_7 hw) (tw_8 hw) (tw_9 hw) (by decide) (rm63 l Z a0 hw [] b1 ck1 v6 v11 v16 v21 h22 n0 Y84.sz A22) (argsL := [(.ref b1), (.int (0 : Int32)), (.int (3 : Int32))]) (rest := []) rfl rfl (lenOf pd_1 rfl) rfl (by decide) (Nat.le_of_ble_eq_true rfl) (by decide) (by decide) at_104 rfl (fun v104 T104 h104 Y104 q104 => ?_)
      obtain ⟨r104, rfl, p104, rfl⟩ := q104
      show Gl p e below _ (T104.setTop (mkF m 107 #[.val (.int a1), .val (.int a2), .val (.int a3), .val (.int a4), .val (.int pp), .val (.int qq), .val (.ref b1), .val (.int (0 : Int32)), .val (.int (3 : Int32)), .val (.int v95)] [(.int r104)]))
      refine Gl.iload Y104 rfl at_107 rfl ?_
      refine Gl.icmpne Y104 at_109 (by decide) rfl rfl (fun c109 => ?_) (fun c109 => ?_)
      · exact absurd (Int32.toInt_inj.mp (by rw [p104, own_b hv6, own_b hv11, own_b hv16, iv95, iv87, iv77, iv67, p55, p64, p74, p84]; first | done | rfl | (simp only [Int.zero_add, Int.add_zero]))) c109
      have j109 : r104.toInt = v95.toInt := congrArg Int32.toInt c109
      refine Gl.iconst Y104 (v := (1 : Int32)) (by decide) at_112 rfl ?_
      refine Gl.goto Y104 at_113 (by decide) rfl ?_
      exact Gl.retZ Y104 (by decide) (by decide) (x' := (1 : Int32)) (by decide) at_117 rfl
    · refine Gl.iloadN Y22 rfl at_49 rfl ?_
      refine Gl.iconst Y22 (v := (0 : Int32)) (by decide) at_50 rfl ?_
      refine Gl.iload Y22 rfl at_51 rfl ?_
      refine Gl.iload Y22 rfl at_53 rfl ?_
      refine Gl.callS Y22 (tw_2 hw) (tw_3 hw) (tw_4 hw) (tw_5 hw) (by decide) (rm4 l Z a0 hw [] a1 h22 n0 Y22.sz) (argsL := [(.int a1), (.int (0 : Int32)), (.int (0 : Int32)), (.int (4 : Int32))]) (rest := []) rfl rfl (lenOf pd_0 rfl) rfl (by decide) (Nat.le_of_ble_eq_true rfl) (by decide) (by decide) at_55 rfl (fun v55 T55 h55 Y55 q55 => ?_)
      obtain ⟨r55, rfl, p55, rfl⟩ := q55
      have kc17 : (0 : Int32).toInt = 0 := by decide
      have kc18 : (4 : Int32).toInt = 4 := by decide
      show Gl p e below _ (T55.setTop (mkF m 58 #[.val (.int a1), .val (.int a2), .val (.int a3), .val (.int a4), .val (.int pp), .val (.int qq), .val (.ref b1), .val (.int (0 : Int32)), .val (.int (4 : Int32)), .unset] [(.int r55)]))
      refine Gl.iloadN Y55 rfl at_58 rfl ?_
      refine Gl.iconst Y55 (v := (1 : Int32)) (by decide) at_59 rfl ?_
      refine Gl.iload Y55 rfl at_60 rfl ?_
      refine Gl.iload Y55 rfl at_62 rfl ?_
      refine Gl.callS Y55 (tw_2 hw) (tw_3 hw) (tw_4 hw) (tw_5 hw) (by decide) (rm19 l Z a0 hw [] a2 h22 n0 Y55.sz) (argsL := [(.int a2), (.int (1 : Int32)), (.int (0 : Int32)), (.int (4 : Int32))]) (rest := [(.int r55)]) rfl rfl (lenOf pd_0 rfl) rfl (by decide) (Nat.le_of_ble_eq_true rfl) (by decide) (by decide) at_64 rfl (fun v64 T64 h64 Y64 q64 => ?_)
      obtain ⟨r64, rfl, p64, rfl⟩ := q64
      have kc19 : (1 : Int32).toInt = 1 := by decide
      show Gl p e below _ (T64.setTop (mkF m 67 #[.val (.int a1), .val (.int a2), .val (.int a3), .val (.int a4), .val (.int pp), .val (.int qq), .val (.ref b1), .val (.int (0 : Int32)), .val (.int (4 : Int32)), .unset] [(.int r64), (.int r55)]))
      obtain ⟨v67, hv67⟩ : ∃ z : Int32, r55 + r64 = z := ⟨_, rfl⟩
      have iv67 : v67.toInt = r55.toInt + r64.toInt := by
        have q : (v67.toInt - (r55.toInt + r64.toInt)) % 4294967296 = 0 := by have q := c_iadd r55 r64; rw [hv67] at q; exact q
        have r := rng32 v67
        omega
      refine Gl.iadd Y64 hv67 at_67 rfl ?_
      refine Gl.iloadN Y64 rfl at_68 rfl ?_
      refine Gl.iconst Y64 (v := (2 : Int32)) (by decide) at_69 rfl ?_
      refine Gl.iload Y64 rfl at_70 rfl ?_
      refine Gl.iload Y64 rfl at_72 rfl ?_
      refine Gl.callS Y64 (tw_2 hw) (tw_3 hw) (tw_4 hw) (tw_5 hw) (by decide) (rm34 l Z a0 hw [] a3 h22 n0 Y64.sz) (argsL := [(.int a3), (.int (2 : Int32)), (.int (0 : Int32)), (.int (4 : Int32))]) (rest := [(.int v67)]) rfl rfl (lenOf pd_0 rfl) rfl (by decide) (Nat.le_of_ble_eq_true rfl) (by decide) (by decide) at_74 rfl (fun v74 T74 h74 Y74 q74 => ?_)
      obtain ⟨r74, rfl, p74, rfl⟩ := q74
      have kc20 : (2 : Int32).toInt = 2 := by decide
      show Gl p e below _ (T74.setTop (mkF m 77 #[.val (.int a1), .val (.int a2), .val (.int a3), .val (.int a4), .val (.int pp), .val (.int qq), .val (.ref b1), .val (.int (0 : Int32)), .val (.int (4 : Int32)), .unset] [(.int r74), (.int v67)]))
      obtain ⟨v77, hv77⟩ : ∃ z : Int32, v67 + r74 = z := ⟨_, rfl⟩
      have iv77 : v77.toInt = v67.toInt + r74.toInt := by
        have q : (v77.toInt - (v67.toInt + r74.toInt)) % 4294967296 = 0 := by have q := c_iadd v67 r74; rw [hv77] at q; exact q
        have r := rng32 v77
        omega
      refine Gl.iadd Y74 hv77 at_77 rfl ?_
      refine Gl.iloadN Y74 rfl at_78 rfl ?_
      refine Gl.iconst Y74 (v := (3 : Int32)) (by decide) at_79 rfl ?_
      refine Gl.iload Y74 rfl at_80 rfl ?_
      refine Gl.iload Y74 rfl at_82 rfl ?_
      refine Gl.callS Y74 (tw_2 hw) (tw_3 hw) (tw_4 hw) (tw_5 hw) (by decide) (rm49 l Z a0 hw [] a4 h22 n0 Y74.sz) (argsL := [(.int a4), (.int (3 : Int32)), (.int (0 : Int32)), (.int (4 : Int32))]) (rest := [(.int v77)]) rfl rfl (lenOf pd_0 rfl) rfl (by decide) (Nat.le_of_ble_eq_true rfl) (by decide) (by decide) at_84 rfl (fun v84 T84 h84 Y84 q84 => ?_)
      obtain ⟨r84, rfl, p84, rfl⟩ := q84
      have kc21 : (3 : Int32).toInt = 3 := by decide
      show Gl p e below _ (T84.setTop (mkF m 87 #[.val (.int a1), .val (.int a2), .val (.int a3), .val (.int a4), .val (.int pp), .val (.int qq), .val (.ref b1), .val (.int (0 : Int32)), .val (.int (4 : Int32)), .unset] [(.int r84), (.int v77)]))
      obtain ⟨v87, hv87⟩ : ∃ z : Int32, v77 + r84 = z := ⟨_, rfl⟩
      have iv87 : v87.toInt = v77.toInt + r84.toInt := by
        have q : (v87.toInt - (v77.toInt + r84.toInt)) % 4294967296 = 0 := by have q := c_iadd v77 r84; rw [hv87] at q; exact q
        have r := rng32 v87
        omega
      refine Gl.iadd Y84 hv87 at_87 rfl ?_
      refine Gl.istore Y84 (L' := #[.val (.int a1), .val (.int a2), .val (.int a3), .val (.int a4), .val (.int pp), .val (.int qq), .val (.ref b1), .val (.int (0 : Int32)), .val (.int (4 : Int32)), .val (.int v87)]) rfl at_88 rfl ?_
      refine Gl.iload Y84 rfl at_90 rfl ?_
      refine Gl.sipush Y84 (v := (256 : Int32)) (by decide) at_92 rfl ?_
      obtain ⟨v95, hv95⟩ : ∃ z : Int32, v87 % (256 : Int32) = z := ⟨_, rfl⟩
      have iv95 : v95.toInt = v87.toInt % 256 := by have q := (c_irem v87 (256 : Int32) 256 (by decide)).1 (by omega); rw [hv95] at q; exact q
      refine Gl.irem Y84 (by decide) hv95 at_95 rfl ?_
      refine Gl.istore Y84 (L' := #[.val (.int a1), .val (.int a2), .val (.int a3), .val (.int a4), .val (.int pp), .val (.int qq), .val (.ref b1), .val (.int (0 : Int32)), .val (.int (4 : Int32)), .val (.int v95)]) rfl at_96 rfl ?_
      refine Gl.aload Y84 rfl rfl at_98 rfl ?_
      refine Gl.iload Y84 rfl at_100 rfl ?_
      refine Gl.iload Y84 rfl at_102 rfl ?_
      refine Gl.callS Y84 (tw_6 hw) (tw_7 hw) (tw_8 hw) (tw_9 hw) (by decide) (rm64 l Z a0 hw [] b1 ck1 v6 v11 v16 v21 h22 n0 Y84.sz A22) (argsL := [(.ref b1), (.int (0 : Int32)), (.int (4 : Int32))]) (rest := []) rfl rfl (lenOf pd_1 rfl) rfl (by decide) (Nat.le_of_ble_eq_true rfl) (by decide) (by decide) at_104 rfl (fun v104 T104 h104 Y104 q104 => ?_)
      obtain ⟨r104, rfl, p104, rfl⟩ := q104
      show Gl p e below _ (T104.setTop (mkF m 107 #[.val (.int a1), .val (.int a2), .val (.int a3), .val (.int a4), .val (.int pp), .val (.int qq), .val (.ref b1), .val (.int (0 : Int32)), .val (.int (4 : Int32)), .val (.int v95)] [(.int r104)]))
      refine Gl.iload Y104 rfl at_107 rfl ?_
      refine Gl.icmpne Y104 at_109 (by decide) rfl rfl (fun c109 => ?_) (fun c109 => ?_)
      · exact absurd (Int32.toInt_inj.mp (by rw [p104, own_b hv6, own_b hv11, own_b hv16, own_b hv21, iv95, iv87, iv77, iv67, p55, p64, p74, p84]; first | done | rfl | (simp only [Int.zero_add, Int.add_zero]))) c109
      have j109 : r104.toInt = v95.toInt := congrArg Int32.toInt c109
      refine Gl.iconst Y104 (v := (1 : Int32)) (by decide) at_112 rfl ?_
      refine Gl.goto Y104 at_113 (by decide) rfl ?_
      exact Gl.retZ Y104 (by decide) (by decide) (x' := (1 : Int32)) (by decide) at_117 rfl
  · refine Gl.iload Y22 rfl at_34 rfl ?_
    refine Gl.iload Y22 rfl at_36 rfl ?_
    refine Gl.ldcI Y22 (tw_1 hw) at_38 rfl ?_
    obtain ⟨v40, hv40⟩ : ∃ z : Int32, qq &&& (2147483647 : Int32) = z := ⟨_, rfl⟩
    have iv40 : v40.toInt = qq.toInt % 2147483648 := by have q := c_mask qq (2147483647 : Int32) 31 (by decide) (by decide); rw [hv40] at q; exact q
    refine Gl.iand Y22 hv40 at_40 rfl ?_
    refine Gl.iconst Y22 (v := (5 : Int32)) (by decide) at_41 rfl ?_
    refine Gl.iload Y22 rfl at_42 rfl ?_
    refine Gl.isub Y22 (r := (4 : Int32)) (by decide) at_44 rfl ?_
    obtain ⟨v45, hv45⟩ : ∃ z : Int32, v40 % (4 : Int32) = z := ⟨_, rfl⟩
    have iv45 : v45.toInt = v40.toInt % 4 := by have q := (c_irem v40 (4 : Int32) 4 (by decide)).1 (by omega); rw [hv45] at q; exact q
    refine Gl.irem Y22 (by decide) hv45 at_45 rfl ?_
    obtain ⟨v46, hv46⟩ : ∃ z : Int32, (1 : Int32) + v45 = z := ⟨_, rfl⟩
    have iv46 : v46.toInt = 1 + v45.toInt := by
      have q : (v46.toInt - (1 + v45.toInt)) % 4294967296 = 0 := by have q := c_iadd (1 : Int32) v45; rw [hv46] at q; exact q
      have r := rng32 v46
      omega
    refine Gl.iadd Y22 hv46 at_46 rfl ?_
    refine Gl.istore Y22 (L' := #[.val (.int a1), .val (.int a2), .val (.int a3), .val (.int a4), .val (.int pp), .val (.int qq), .val (.ref b1), .val (.int (1 : Int32)), .val (.int v46), .unset]) rfl at_47 rfl ?_
    have bs_v46 : 1 ≤ v46.toInt ∧ v46.toInt ≤ 4 := by omega
    have cs_v46 : v46 = (1 : Int32) ∨ v46 = (2 : Int32) ∨ v46 = (3 : Int32) ∨ v46 = (4 : Int32) := own_r1 bs_v46.1 bs_v46.2
    rcases cs_v46 with rfl | rfl | rfl | rfl
    · refine Gl.iloadN Y22 rfl at_49 rfl ?_
      refine Gl.iconst Y22 (v := (0 : Int32)) (by decide) at_50 rfl ?_
      refine Gl.iload Y22 rfl at_51 rfl ?_
      refine Gl.iload Y22 rfl at_53 rfl ?_
      refine Gl.callS Y22 (tw_2 hw) (tw_3 hw) (tw_4 hw) (tw_5 hw) (by decide) (rm5 l Z a0 hw [] a1 h22 n0 Y22.sz) (argsL := [(.int a1), (.int (0 : Int32)), (.int (1 : Int32)), (.int (1 : Int32))]) (rest := []) rfl rfl (lenOf pd_0 rfl) rfl (by decide) (Nat.le_of_ble_eq_true rfl) (by decide) (by decide) at_55 rfl (fun v55 T55 h55 Y55 q55 => ?_)
      obtain ⟨r55, rfl, p55, rfl⟩ := q55
      have kc22 : (0 : Int32).toInt = 0 := by decide
      have kc23 : (1 : Int32).toInt = 1 := by decide
      show Gl p e below _ (T55.setTop (mkF m 58 #[.val (.int a1), .val (.int a2), .val (.int a3), .val (.int a4), .val (.int pp), .val (.int qq), .val (.ref b1), .val (.int (1 : Int32)), .val (.int (1 : Int32)), .unset] [(.int r55)]))
      refine Gl.iloadN Y55 rfl at_58 rfl ?_
      refine Gl.iconst Y55 (v := (1 : Int32)) (by decide) at_59 rfl ?_
      refine Gl.iload Y55 rfl at_60 rfl ?_
      refine Gl.iload Y55 rfl at_62 rfl ?_
      refine Gl.callS Y55 (tw_2 hw) (tw_3 hw) (tw_4 hw) (tw_5 hw) (by decide) (rm20 l Z a0 hw [] a2 h22 n0 Y55.sz) (argsL := [(.int a2), (.int (1 : Int32)), (.int (1 : Int32)), (.int (1 : Int32))]) (rest := [(.int r55)]) rfl rfl (lenOf pd_0 rfl) rfl (by decide) (Nat.le_of_ble_eq_true rfl) (by decide) (by decide) at_64 rfl (fun v64 T64 h64 Y64 q64 => ?_)
      obtain ⟨r64, rfl, p64, rfl⟩ := q64
      show Gl p e below _ (T64.setTop (mkF m 67 #[.val (.int a1), .val (.int a2), .val (.int a3), .val (.int a4), .val (.int pp), .val (.int qq), .val (.ref b1), .val (.int (1 : Int32)), .val (.int (1 : Int32)), .unset] [(.int r64), (.int r55)]))
      obtain ⟨v67, hv67⟩ : ∃ z : Int32, r55 + r64 = z := ⟨_, rfl⟩
      have iv67 : v67.toInt = r55.toInt + r64.toInt := by
        have q : (v67.toInt - (r55.toInt + r64.toInt)) % 4294967296 = 0 := by have q := c_iadd r55 r64; rw [hv67] at q; exact q
        have r := rng32 v67
        omega
      refine Gl.iadd Y64 hv67 at_67 rfl ?_
      refine Gl.iloadN Y64 rfl at_68 rfl ?_
      refine Gl.iconst Y64 (v := (2 : Int32)) (by decide) at_69 rfl ?_
      refine Gl.iload Y64 rfl at_70 rfl ?_
      refine Gl.iload Y64 rfl at_72 rfl ?_
      refine Gl.callS Y64 (tw_2 hw) (tw_3 hw) (tw_4 hw) (tw_5 hw) (by decide) (rm35 l Z a0 hw [] a3 h22 n0 Y64.sz) (argsL := [(.int a3), (.int (2 : Int32)), (.int (1 : Int32)), (.int (1 : Int32))]) (rest := [(.int v67)]) rfl rfl (lenOf pd_0 rfl) rfl (by decide) (Nat.le_of_ble_eq_true rfl) (by decide) (by decide) at_74 rfl (fun v74 T74 h74 Y74 q74 => ?_)
      obtain ⟨r74, rfl, p74, rfl⟩ := q74
      have kc24 : (2 : Int32).toInt = 2 := by decide
      show Gl p e below _ (T74.setTop (mkF m 77 #[.val (.int a1), .val (.int a2), .val (.int a3), .val (.int a4), .val (.int pp), .val (.int qq), .val (.ref b1), .val (.int (1 : Int32)), .val (.int (1 : Int32)), .unset] [(.int r74), (.int v67)]))
      obtain ⟨v77, hv77⟩ : ∃ z : Int32, v67 + r74 = z := ⟨_, rfl⟩
      have iv77 : v77.toInt = v67.toInt + r74.toInt := by
        have q : (v77.toInt - (v67.toInt + r74.toInt)) % 4294967296 = 0 := by have q := c_iadd v67 r74; rw [hv77] at q; exact q
        have r := rng32 v77
        omega
      refine Gl.iadd Y74 hv77 at_77 rfl ?_
      refine Gl.iloadN Y74 rfl at_78 rfl ?_
      refine Gl.iconst Y74 (v := (3 : Int32)) (by decide) at_79 rfl ?_
      refine Gl.iload Y74 rfl at_80 rfl ?_
      refine Gl.iload Y74 rfl at_82 rfl ?_
      refine Gl.callS Y74 (tw_2 hw) (tw_3 hw) (tw_4 hw) (tw_5 hw) (by decide) (rm50 l Z a0 hw [] a4 h22 n0 Y74.sz) (argsL := [(.int a4), (.int (3 : Int32)), (.int (1 : Int32)), (.int (1 : Int32))]) (rest := [(.int v77)]) rfl rfl (lenOf pd_0 rfl) rfl (by decide) (Nat.le_of_ble_eq_true rfl) (by decide) (by decide) at_84 rfl (fun v84 T84 h84 Y84 q84 => ?_)
      obtain ⟨r84, rfl, p84, rfl⟩ := q84
      have kc25 : (3 : Int32).toInt = 3 := by decide
      show Gl p e below _ (T84.setTop (mkF m 87 #[.val (.int a1), .val (.int a2), .val (.int a3), .val (.int a4), .val (.int pp), .val (.int qq), .val (.ref b1), .val (.int (1 : Int32)), .val (.int (1 : Int32)), .unset] [(.int r84), (.int v77)]))
      obtain ⟨v87, hv87⟩ : ∃ z : Int32, v77 + r84 = z := ⟨_, rfl⟩
      have iv87 : v87.toInt = v77.toInt + r84.toInt := by
        have q : (v87.toInt - (v77.toInt + r84.toInt)) % 4294967296 = 0 := by have q := c_iadd v77 r84; rw [hv87] at q; exact q
        have r := rng32 v87
        omega
      refine Gl.iadd Y84 hv87 at_87 rfl ?_
      refine Gl.istore Y84 (L' := #[.val (.int a1), .val (.int a2), .val (.int a3), .val (.int a4), .val (.int pp), .val (.int qq), .val (.ref b1), .val (.int (1 : Int32)), .val (.int (1 : Int32)), .val (.int v87)]) rfl at_88 rfl ?_
      refine Gl.iload Y84 rfl at_90 rfl ?_
      refine Gl.sipush Y84 (v := (256 : Int32)) (by decide) at_92 rfl ?_
      obtain ⟨v95, hv95⟩ : ∃ z : Int32, v87 % (256 : Int32) = z := ⟨_, rfl⟩
      have iv95 : v95.toInt = v87.toInt % 256 := by have q := (c_irem v87 (256 : Int32) 256 (by decide)).1 (by omega); rw [hv95] at q; exact q
      refine Gl.irem Y84 (by decide) hv95 at_95 rfl ?_
      refine Gl.istore Y84 (L' := #[.val (.int a1), .val (.int a2), .val (.int a3), .val (.int a4), .val (.int pp), .val (.int qq), .val (.ref b1), .val (.int (1 : Int32)), .val (.int (1 : Int32)), .val (.int v95)]) rfl at_96 rfl ?_
      refine Gl.aload Y84 rfl rfl at_98 rfl ?_
      refine Gl.iload Y84 rfl at_100 rfl ?_
      refine Gl.iload Y84 rfl at_102 rfl ?_
      refine Gl.callS Y84 (tw_6 hw) (tw_7 hw) (tw_8 hw) (tw_9 hw) (by decide) (rm65 l Z a0 hw [] b1 ck1 v6 v11 v16 v21 h22 n0 Y84.sz A22) (argsL := [(.ref b1), (.int (1 : Int32)), (.int (1 : Int32))]) (rest := []) rfl rfl (lenOf pd_1 rfl) rfl (by decide) (Nat.le_of_ble_eq_true rfl) (by decide) (by decide) at_104 rfl (fun v104 T104 h104 Y104 q104 => ?_)
      obtain ⟨r104, rfl, p104, rfl⟩ := q104
      show Gl p e below _ (T104.setTop (mkF m 107 #[.val (.int a1), .val (.int a2), .val (.int a3), .val (.int a4), .val (.int pp), .val (.int qq), .val (.ref b1), .val (.int (1 : Int32)), .val (.int (1 : Int32)), .val (.int v95)] [(.int r104)]))
      refine Gl.iload Y104 rfl at_107 rfl ?_
      refine Gl.icmpne Y104 at_109 (by decide) rfl rfl (fun c109 => ?_) (fun c109 => ?_)
      · exact absurd (Int32.toInt_inj.mp (by rw [p104, iv95, iv87, iv77, iv67, p55, p64, p74, p84]; first | done | rfl | (simp only [Int.zero_add, Int.add_zero]))) c109
      have j109 : r104.toInt = v95.toInt := congrArg Int32.toInt c109
      refine Gl.iconst Y104 (v := (1 : Int32)) (by decide) at_112 rfl ?_
      refine Gl.goto Y104 at_113 (by decide) rfl ?_
      exact Gl.retZ Y104 (by decide) (by decide) (x' := (1 : Int32)) (by decide) at_117 rfl
    · refine Gl.iloadN Y22 rfl at_49 rfl ?_
      refine Gl.iconst Y22 (v := (0 : Int32)) (by decide) at_50 rfl ?_
      refine Gl.iload Y22 rfl at_51 rfl ?_
      refine Gl.iload Y22 rfl at_53 rfl ?_
      refine Gl.callS Y22 (tw_2 hw) (tw_3 hw) (tw_4 hw) (tw_5 hw) (by decide) (rm6 l Z a0 hw [] a1 h22 n0 Y22.sz) (argsL := [(.int a1), (.int (0 : Int32)), (.int (1 : Int32)), (.int (2 : Int32))]) (rest := []) rfl rfl (lenOf pd_0 rfl) rfl (by decide) (Nat.le_of_ble_eq_true rfl) (by decide) (by decide) at_55 rfl (fun v55 T55 h55 Y55 q55 => ?_)
      obtain ⟨r55, rfl, p55, rfl⟩ := q55
      have kc26 : (0 : Int32).toInt = 0 := by decide
      have kc27 : (1 : Int32).toInt = 1 := by decide
      have kc28 : (2 : Int32).toInt = 2 := by decide
      show Gl p e below _ (T55.setTop (mkF m 58 #[.val (.int a1), .val (.int a2), .val (.int a3), .val (.int a4), .val (.int pp), .val (.int qq), .val (.ref b1), .val (.int (1 : Int32)), .val (.int (2 : Int32)), .unset] [(.int r55)]))
      refine Gl.iloadN Y55 rfl at_58 rfl ?_
      refine Gl.iconst Y55 (v := (1 : Int32)) (by decide) at_59 rfl ?_
      refine Gl.iload Y55 rfl at_60 rfl ?_
      refine Gl.iload Y55 rfl at_62 rfl ?_
      refine Gl.callS Y55 (tw_2 hw) (tw_3 hw) (tw_4 hw) (tw_5 hw) (by decide) (rm21 l Z a0 hw [] a2 h22 n0 Y55.sz) (argsL := [(.int a2), (.int (1 : Int32)), (.int (1 : Int32)), (.int (2 : Int32))]) (rest := [(.int r55)]) rfl rfl (lenOf pd_0 rfl) rfl (by decide) (Nat.le_of_ble_eq_true rfl) (by decide) (by decide) at_64 rfl (fun v64 T64 h64 Y64 q64 => ?_)
      obtain ⟨r64, rfl, p64, rfl⟩ := q64
      show Gl p e below _ (T64.setTop (mkF m 67 #[.val (.int a1), .val (.int a2), .val (.int a3), .val (.int a4), .val (.int pp), .val (.int qq), .val (.ref b1), .val (.int (1 : Int32)), .val (.int (2 : Int32)), .unset] [(.int r64), (.int r55)]))
      obtain ⟨v67, hv67⟩ : ∃ z : Int32, r55 + r64 = z := ⟨_, rfl⟩
      have iv67 : v67.toInt = r55.toInt + r64.toInt := by
        have q : (v67.toInt - (r55.toInt + r64.toInt)) % 4294967296 = 0 := by have q := c_iadd r55 r64; rw [hv67] at q; exact q
        have r := rng32 v67
        omega
      refine Gl.iadd Y64 hv67 at_67 rfl ?_
      refine Gl.iloadN Y64 rfl at_68 rfl ?_
      refine Gl.iconst Y64 (v := (2 : Int32)) (by decide) at_69 rfl ?_
      refine Gl.iload Y64 rfl at_70 rfl ?_
      refine Gl.iload Y64 rfl at_72 rfl ?_
      refine Gl.callS Y64 (tw_2 hw) (tw_3 hw) (tw_4 hw) (tw_5 hw) (by decide) (rm36 l Z a0 hw [] a3 h22 n0 Y64.sz) (argsL := [(.int a3), (.int (2 : Int32)), (.int (1 : Int32)), (.int (2 : Int32))]) (rest := [(.int v67)]) rfl rfl (lenOf pd_0 rfl) rfl (by decide) (Nat.le_of_ble_eq_true rfl) (by decide) (by decide) at_74 rfl (fun v74 T74 h74 Y74 q74 => ?_)
      obtain ⟨r74, rfl, p74, rfl⟩ := q74
      show Gl p e below _ (T74.setTop (mkF m 77 #[.val (.int a1), .val (.int a2), .val (.int a3), .val (.int a4), .val (.int pp), .val (.int qq), .val (.ref b1), .val (.int (1 : Int32)), .val (.int (2 : Int32)), .unset] [(.int r74), (.int v67)]))
      obtain ⟨v77, hv77⟩ : ∃ z : Int32, v67 + r74 = z := ⟨_, rfl⟩
      have iv77 : v77.toInt = v67.toInt + r74.toInt := by
        have q : (v77.toInt - (v67.toInt + r74.toInt)) % 4294967296 = 0 := by have q := c_iadd v67 r74; rw [hv77] at q; exact q
        have r := rng32 v77
        omega
      refine Gl.iadd Y74 hv77 at_77 rfl ?_
      refine Gl.iloadN Y74 rfl at_78 rfl ?_
      refine Gl.iconst Y74 (v := (3 : Int32)) (by decide) at_79 rfl ?_
      refine Gl.iload Y74 rfl at_80 rfl ?_
      refine Gl.iload Y74 rfl at_82 rfl ?_
      refine Gl.callS Y74 (tw_2 hw) (tw_3 hw) (tw_4 hw) (tw_5 hw) (by decide) (rm51 l Z a0 hw [] a4 h22 n0 Y74.sz) (argsL := [(.int a4), (.int (3 : Int32)), (.int (1 : Int32)), (.int (2 : Int32))]) (rest := [(.int v77)]) rfl rfl (lenOf pd_0 rfl) rfl (by decide) (Nat.le_of_ble_eq_true rfl) (by decide) (by decide) at_84 rfl (fun v84 T84 h84 Y84 q84 => ?_)
      obtain ⟨r84, rfl, p84, rfl⟩ := q84
      have kc29 : (3 : Int32).toInt = 3 := by decide
      show Gl p e below _ (T84.setTop (mkF m 87 #[.val (.int a1), .val (.int a2), .val (.int a3), .val (.int a4), .val (.int pp), .val (.int qq), .val (.ref b1), .val (.int (1 : Int32)), .val (.int (2 : Int32)), .unset] [(.int r84), (.int v77)]))
      obtain ⟨v87, hv87⟩ : ∃ z : Int32, v77 + r84 = z := ⟨_, rfl⟩
      have iv87 : v87.toInt = v77.toInt + r84.toInt := by
        have q : (v87.toInt - (v77.toInt + r84.toInt)) % 4294967296 = 0 := by have q := c_iadd v77 r84; rw [hv87] at q; exact q
        have r := rng32 v87
        omega
      refine Gl.iadd Y84 hv87 at_87 rfl ?_
      refine Gl.istore Y84 (L' := #[.val (.int a1), .val (.int a2), .val (.int a3), .val (.int a4), .val (.int pp), .val (.int qq), .val (.ref b1), .val (.int (1 : Int32)), .val (.int (2 : Int32)), .val (.int v87)]) rfl at_88 rfl ?_
      refine Gl.iload Y84 rfl at_90 rfl ?_
      refine Gl.sipush Y84 (v := (256 : Int32)) (by decide) at_92 rfl ?_
      obtain ⟨v95, hv95⟩ : ∃ z : Int32, v87 % (256 : Int32) = z := ⟨_, rfl⟩
      have iv95 : v95.toInt = v87.toInt % 256 := by have q := (c_irem v87 (256 : Int32) 256 (by decide)).1 (by omega); rw [hv95] at q; exact q
      refine Gl.irem Y84 (by decide) hv95 at_95 rfl ?_
      refine Gl.istore Y84 (L' := #[.val (.int a1), .val (.int a2), .val (.int a3), .val (.int a4), .val (.int pp), .val (.int qq), .val (.ref b1), .val (.int (1 : Int32)), .val (.int (2 : Int32)), .val (.int v95)]) rfl at_96 rfl ?_
      refine Gl.aload Y84 rfl rfl at_98 rfl ?_
      refine Gl.iload Y84 rfl at_100 rfl ?_
      refine Gl.iload Y84 rfl at_102 rfl ?_
      refine Gl.callS Y84 (tw_6 hw) (tw_7 hw) (tw_8 hw) (tw_9 hw) (by decide) (rm66 l Z a0 hw [] b1 ck1 v6 v11 v16 v21 h22 n0 Y84.sz A22) (argsL := [(.ref b1), (.int (1 : Int32)), (.int (2 : Int32))]) (rest := []) rfl rfl (lenOf pd_1 rfl) rfl (by decide) (Nat.le_of_ble_eq_true rfl) (by decide) (by decide) at_104 rfl (fun v104 T104 h104 Y104 q104 => ?_)
      obtain ⟨r104, rfl, p104, rfl⟩ := q104
      show Gl p e below _ (T104.setTop (mkF m 107 #[.val (.int a1), .val (.int a2), .val (.int a3), .val (.int a4), .val (.int pp), .val (.int qq), .val (.ref b1), .val (.int (1 : Int32)), .val (.int (2 : Int32)), .val (.int v95)] [(.int r104)]))
      refine Gl.iload Y104 rfl at_107 rfl ?_
      refine Gl.icmpne Y104 at_109 (by decide) rfl rfl (fun c109 => ?_) (fun c109 => ?_)
      · exact absurd (Int32.toInt_inj.mp (by rw [p104, own_b hv11, iv95, iv87, iv77, iv67, p55, p64, p74, p84]; first | done | rfl | (simp only [Int.zero_add, Int.add_zero]))) c109
      have j109 : r104.toInt = v95.toInt := congrArg Int32.toInt c109
      refine Gl.iconst Y104 (v := (1 : Int32)) (by decide) at_112 rfl ?_
      refine Gl.goto Y104 at_113 (by decide) rfl ?_
      exact Gl.retZ Y104 (by decide) (by decide) (x' := (1 : Int32)) (by decide) at_117 rfl
    · refine Gl.iloadN Y22 rfl at_49 rfl ?_
      refine Gl.iconst Y22 (v := (0 : Int32)) (by decide) at_50 rfl ?_
      refine Gl.iload Y22 rfl at_51 rfl ?_
      refine Gl.iload Y22 rfl at_53 rfl ?_
      refine Gl.callS Y22 (tw_2 hw) (tw_3 hw) (tw_4 hw) (tw_5 hw) (by decide) (rm7 l Z a0 hw [] a1 h22 n0 Y22.sz) (argsL := [(.int a1), (.int (0 : Int32)), (.int (1 : Int32)), (.int (3 : Int32))]) (rest := []) rfl rfl (lenOf pd_0 rfl) rfl (by decide) (Nat.le_of_ble_eq_true rfl) (by decide) (by decide) at_55 rfl (fun v55 T55 h55 Y55 q55 => ?_)
      obtain ⟨r55, rfl, p55, rfl⟩ := q55
      have kc30 : (0 : Int32).toInt = 0 := by decide
      have kc31 : (1 : Int32).toInt = 1 := by decide
      have kc32 : (3 : Int32).toInt = 3 := by decide
      show Gl p e below _ (T55.setTop (mkF m 58 #[.val (.int a1), .val (.int a2), .val (.int a3), .val (.int a4), .val (.int pp), .val (.int qq), .val (.ref b1), .val (.int (1 : Int32)), .val (.int (3 : Int32)), .unset] [(.int r55)]))
      refine Gl.iloadN Y55 rfl at_58 rfl ?_
      refine Gl.iconst Y55 (v := (1 : Int32)) (by decide) at_59 rfl ?_
      refine Gl.iload Y55 rfl at_60 rfl ?_
      refine Gl.iload Y55 rfl at_62 rfl ?_
      refine Gl.callS Y55 (tw_2 hw) (tw_3 hw) (tw_4 hw) (tw_5 hw) (by decide) (rm22 l Z a0 hw [] a2 h22 n0 Y55.sz) (argsL := [(.int a2), (.int (1 : Int32)), (.int (1 : Int32)), (.int (3 : Int32))]) (rest := [(.int r55)]) rfl rfl (lenOf pd_0 rfl) rfl (by decide) (Nat.le_of_ble_eq_true rfl) (by decide) (by decide) at_64 rfl (fun v64 T64 h64 Y64 q64 => ?_)
      obtain ⟨r64, rfl, p64, rfl⟩ := q64
      show Gl p e below _ (T64.setTop (mkF m 67 #[.val (.int a1), .val (.int a2), .val (.int a3), .val (.int a4), .val (.int pp), .val (.int qq), .val (.ref b1), .val (.int (1 : Int32)), .val (.int (3 : Int32)), .unset] [(.int r64), (.int r55)]))
      obtain ⟨v67, hv67⟩ : ∃ z : Int32, r55 + r64 = z := ⟨_, rfl⟩
      have iv67 : v67.toInt = r55.toInt + r64.toInt := by
        have q : (v67.toInt - (r55.toInt + r64.toInt)) % 4294967296 = 0 := by have q := c_iadd r55 r64; rw [hv67] at q; exact q
        have r := rng32 v67
        omega
      refine Gl.iadd Y64 hv67 at_67 rfl ?_
      refine Gl.iloadN Y64 rfl at_68 rfl ?_
      refine Gl.iconst Y64 (v := (2 : Int32)) (by decide) at_69 rfl ?_
      refine Gl.iload Y64 rfl at_70 rfl ?_
      refine Gl.iload Y64 rfl at_72 rfl ?_
      refine Gl.callS Y64 (tw_2 hw) (tw_3 hw) (tw_4 hw) (tw_5 hw) (by decide) (rm37 l Z a0 hw [] a3 h22 n0 Y64.sz) (argsL := [(.int a3), (.int (2 : Int32)), (.int (1 : Int32)), (.int (3 : Int32))]) (rest := [(.int v67)]) rfl rfl (lenOf pd_0 rfl) rfl (by decide) (Nat.le_of_ble_eq_true rfl) (by decide) (by decide) at_74 rfl (fun v74 T74 h74 Y74 q74 => ?_)
      obtain ⟨r74, rfl, p74, rfl⟩ := q74
      have kc33 : (2 : Int32).toInt = 2 := by decide
      show Gl p e below _ (T74.setTop (mkF m 77 #[.val (.int a1), .val (.int a2), .val (.int a3), .val (.int a4), .val (.int pp), .val (.int qq), .val (.ref b1), .val (.int (1 : Int32)), .val (.int (3 : Int32)), .unset] [(.int r74), (.int v67)]))
      obtain ⟨v77, hv77⟩ : ∃ z : Int32, v67 + r74 = z := ⟨_, rfl⟩
      have iv77 : v77.toInt = v67.toInt + r74.toInt := by
        have q : (v77.toInt - (v67.toInt + r74.toInt)) % 4294967296 = 0 := by have q := c_iadd v67 r74; rw [hv77] at q; exact q
        have r := rng32 v77
        omega
      refine Gl.iadd Y74 hv77 at_77 rfl ?_
      refine Gl.iloadN Y74 rfl at_78 rfl ?_
      refine Gl.iconst Y74 (v := (3 : Int32)) (by decide) at_79 rfl ?_
      refine Gl.iload Y74 rfl at_80 rfl ?_
      refine Gl.iload Y74 rfl at_82 rfl ?_
      refine Gl.callS Y74 (tw_2 hw) (tw_3 hw) (tw_4 hw) (tw_5 hw) (by decide) (rm52 l Z a0 hw [] a4 h22 n0 Y74.sz) (argsL := [(.int a4), (.int (3 : Int32)), (.int (1 : Int32)), (.int (3 : Int32))]) (rest := [(.int v77)]) rfl rfl (lenOf pd_0 rfl) rfl (by decide) (Nat.le_of_ble_eq_true rfl) (by decide) (by decide) at_84 rfl (fun v84 T84 h84 Y84 q84 => ?_)
      obtain ⟨r84, rfl, p84, rfl⟩ := q84
      show Gl p e below _ (T84.setTop (mkF m 87 #[.val (.int a1), .val (.int a2), .val (.int a3), .val (.int a4), .val (.int pp), .val (.int qq), .val (.ref b1), .val (.int (1 : Int32)), .val (.int (3 : Int32)), .unset] [(.int r84), (.int v77)]))
      obtain ⟨v87, hv87⟩ : ∃ z : Int32, v77 + r84 = z := ⟨_, rfl⟩
      have iv87 : v87.toInt = v77.toInt + r84.toInt := by
        have q : (v87.toInt - (v77.toInt + r84.toInt)) % 4294967296 = 0 := by have q := c_iadd v77 r84; rw [hv87] at q; exact q
        have r := rng32 v87
        omega
      refine Gl.iadd Y84 hv87 at_87 rfl ?_
      refine Gl.istore Y84 (L' := #[.val (.int a1), .val (.int a2), .val (.int a3), .val (.int a4), .val (.int pp), .val (.int qq), .val (.ref b1), .val (.int (1 : Int32)), .val (.int (3 : Int32)), .val (.int v87)]) rfl at_88 rfl ?_
      refine Gl.iload Y84 rfl at_90 rfl ?_
      refine Gl.sipush Y84 (v := (256 : Int32)) (by decide) at_92 rfl ?_
      obtain ⟨v95, hv95⟩ : ∃ z : Int32, v87 % (256 : Int32) = z := ⟨_, rfl⟩
      have iv95 : v95.toInt = v87.toInt % 256 := by have q := (c_irem v87 (256 : Int32) 256 (by decide)).1 (by omega); rw [hv95] at q; exact q
      refine Gl.irem Y84 (by decide) hv95 at_95 rfl ?_
      refine Gl.istore Y84 (L' := #[.val (.int a1), .val (.int a2), .val (.int a3), .val (.int a4), .val (.int pp), .val (.int qq), .val (.ref b1), .val (.int (1 : Int32)), .val (.int (3 : Int32)), .val (.int v95)]) rfl at_96 rfl ?_
      refine Gl.aload Y84 rfl rfl at_98 rfl ?_
      refine Gl.iload Y84 rfl at_100 rfl ?_
      refine Gl.iload Y84 rfl at_102 rfl ?_
      refine Gl.callS Y84 (tw_6 hw) (tw_7 hw) (tw_8 hw) (tw_9 hw) (by decide) (rm67 l Z a0 hw [] b1 ck1 v6 v11 v16 v21 h22 n0 Y84.sz A22) (argsL := [(.ref b1), (.int (1 : Int32)), (.int (3 : Int32))]) (rest := []) rfl rfl (lenOf pd_1 rfl) rfl (by decide) (Nat.le_of_ble_eq_true rfl) (by decide) (by decide) at_104 rfl (fun v104 T104 h104 Y104 q104 => ?_)
      obtain ⟨r104, rfl, p104, rfl⟩ := q104
      show Gl p e below _ (T104.setTop (mkF m 107 #[.val (.int a1), .val (.int a2), .val (.int a3), .val (.int a4), .val (.int pp), .val (.int qq), .val (.ref b1), .val (.int (1 : Int32)), .val (.int (3 : Int32)), .val (.int v95)] [(.int r104)]))
      refine Gl.iload Y104 rfl at_107 rfl ?_
      refine Gl.icmpne Y104 at_109 (by decide) rfl rfl (fun c109 => ?_) (fun c109 => ?_)
      · exact absurd (Int32.toInt_inj.mp (by rw [p104, own_b hv11, own_b hv16, iv95, iv87, iv77, iv67, p55, p64, p74, p84]; first | done | rfl | (simp only [Int.zero_add, Int.add_zero]))) c109
      have j109 : r104.toInt = v95.toInt := congrArg Int32.toInt c109
      refine Gl.iconst Y104 (v := (1 : Int32)) (by decide) at_112 rfl ?_
      refine Gl.goto Y104 at_113 (by decide) rfl ?_
      exact Gl.retZ Y104 (by decide) (by decide) (x' := (1 : Int32)) (by decide) at_117 rfl
    · refine Gl.iloadN Y22 rfl at_49 rfl ?_
      refine Gl.iconst Y22 (v := (0 : Int32)) (by decide) at_50 rfl ?_
      refine Gl.iload Y22 rfl at_51 rfl ?_
      refine Gl.iload Y22 rfl at_53 rfl ?_
      refine Gl.callS Y22 (tw_2 hw) (tw_3 hw) (tw_4 hw) (tw_5 hw) (by decide) (rm8 l Z a0 hw [] a1 h22 n0 Y22.sz) (argsL := [(.int a1), (.int (0 : Int32)), (.int (1 : Int32)), (.int (4 : Int32))]) (rest := []) rfl rfl (lenOf pd_0 rfl) rfl (by decide) (Nat.le_of_ble_eq_true rfl) (by decide) (by decide) at_55 rfl (fun v55 T55 h55 Y55 q55 => ?_)
      obtain ⟨r55, rfl, p55, rfl⟩ := q55
      have kc34 : (0 : Int32).toInt = 0 := by decide
      have kc35 : (1 : Int32).toInt = 1 := by decide
      have kc36 : (4 : Int32).toInt = 4 := by decide
      show Gl p e below _ (T55.setTop (mkF m 58 #[.val (.int a1), .val (.int a2), .val (.int a3), .val (.int a4), .val (.int pp), .val (.int qq), .val (.ref b1), .val (.int (1 : Int32)), .val (.int (4 : Int32)), .unset] [(.int r55)]))
      refine Gl.iloadN Y55 rfl at_58 rfl ?_
      refine Gl.iconst Y55 (v := (1 : Int32)) (by decide) at_59 rfl ?_
      refine Gl.iload Y55 rfl at_60 rfl ?_
      refine Gl.iload Y55 rfl at_62 rfl ?_
      refine Gl.callS Y55 (tw_2 hw) (tw_3 hw) (tw_4 hw) (tw_5 hw) (by decide) (rm23 l Z a0 hw [] a2 h22 n0 Y55.sz) (argsL := [(.int a2), (.int (1 : Int32)), (.int (1 : Int32)), (.int (4 : Int32))]) (rest := [(.int r55)]) rfl rfl (lenOf pd_0 rfl) rfl (by decide) (Nat.le_of_ble_eq_true rfl) (by decide) (by decide) at_64 rfl (fun v64 T64 h64 Y64 q64 => ?_)
      obtain ⟨r64, rfl, p64, rfl⟩ := q64
      show Gl p e below _ (T64.setTop (mkF m 67 #[.val (.int a1), .val (.int a2), .val (.int a3), .val (.int a4), .val (.int pp), .val (.int qq), .val (.ref b1), .val (.int (1 : Int32)), .val (.int (4 : Int32)), .unset] [(.int r64), (.int r55)]))
      obtain ⟨v67, hv67⟩ : ∃ z : Int32, r55 + r64 = z := ⟨_, rfl⟩
      have iv67 : v67.toInt = r55.toInt + r64.toInt := by
        have q : (v67.toInt - (r55.toInt + r64.toInt)) % 4294967296 = 0 := by have q := c_iadd r55 r64; rw [hv67] at q; exact q
        have r := rng32 v67
        omega
      refine Gl.iadd Y64 hv67 at_67 rfl ?_
      refine Gl.iloadN Y64 rfl at_68 rfl ?_
      refine Gl.iconst Y64 (v := (2 : Int32)) (by decide) at_69 rfl ?_
      refine Gl.iload Y64 rfl at_70 rfl ?_
      refine Gl.iload Y64 rfl at_72 rfl ?_
      refine Gl.callS Y64 (tw_2 hw) (tw_3 hw) (tw_4 hw) (tw_5 hw) (by decide) (rm38 l Z a0 hw [] a3 h22 n0 Y64.sz) (argsL := [(.int a3), (.int (2 : Int32)), (.int (1 : Int32)), (.int (4 : Int32))]) (rest := [(.int v67)]) rfl rfl (lenOf pd_0 rfl) rfl (by decide) (Nat.le_of_ble_eq_true rfl) (by decide) (by decide) at_74 rfl (fun v74 T74 h74 Y74 q74 => ?_)
      obtain ⟨r74, rfl, p74, rfl⟩ := q74
      have kc37 : (2 : Int32).toInt = 2 := by decide
      show Gl p e below _ (T74.setTop (mkF m 77 #[.val (.int a1), .val (.int a2), .val (.int a3), .val (.int a4), .val (.int pp), .val (.int qq), .val (.ref b1), .val (.int (1 : Int32)), .val (.int (4 : Int32)), .unset] [(.int r74), (.int v67)]))
      obtain ⟨v77, hv77⟩ : ∃ z : Int32, v67 + r74 = z := ⟨_, rfl⟩
      have iv77 : v77.toInt = v67.toInt + r74.toInt := by
        have q : (v77.toInt - (v67.toInt + r74.toInt)) % 4294967296 = 0 := by have q := c_iadd v67 r74; rw [hv77] at q; exact q
        have r := rng32 v77
        omega
      refine Gl.iadd Y74 hv77 at_77 rfl ?_
      refine Gl.iloadN Y74 rfl at_78 rfl ?_
      refine Gl.iconst Y74 (v := (3 : Int32)) (by decide) at_79 rfl ?_
      refine Gl.iload Y74 rfl at_80 rfl ?_
      refine Gl.iload Y74 rfl at_82 rfl ?_
      refine Gl.callS Y74 (tw_2 hw) (tw_3 hw) (tw_4 hw) (tw_5 hw) (by decide) (rm53 l Z a0 hw [] a4 h22 n0 Y74.sz) (argsL := [(.int a4), (.int (3 : Int32)), (.int (1 : Int32)), (.int (4 : Int32))]) (rest := [(.int v77)]) rfl rfl (lenOf pd_0 rfl) rfl (by decide) (Nat.le_of_ble_eq_true rfl) (by decide) (by decide) at_84 rfl (fun v84 T84 h84 Y84 q84 => ?_)
      obtain ⟨r84, rfl, p84, rfl⟩ := q84
      have kc38 : (3 : Int32).toInt = 3 := by decide
      show Gl p e below _ (T84.setTop (mkF m 87 #[.val (.int a1), .val (.int a2), .val (.int a3), .val (.int a4), .val (.int pp), .val (.int qq), .val (.ref b1), .val (.int (1 : Int32)), .val (.int (4 : Int32)), .unset] [(.int r84), (.int v77)]))
      obtain ⟨v87, hv87⟩ : ∃ z : Int32, v77 + r84 = z := ⟨_, rfl⟩
      have iv87 : v87.toInt = v77.toInt + r84.toInt := by
        have q : (v87.toInt - (v77.toInt + r84.toInt)) % 4294967296 = 0 := by have q := c_iadd v77 r84; rw [hv87] at q; exact q
        have r := rng32 v87
        omega
      refine Gl.iadd Y84 hv87 at_87 rfl ?_
      refine Gl.istore Y84 (L' := #[.val (.int a1), .val (.int a2), .val (.int a3), .val (.int a4), .val (.int pp), .val (.int qq), .val (.ref b1), .val (.int (1 : Int32)), .val (.int (4 : Int32)), .val (.int v87)]) rfl at_88 rfl ?_
      refine Gl.iload Y84 rfl at_90 rfl ?_
      refine Gl.sipush Y84 (v := (256 : Int32)) (by decide) at_92 rfl ?_
      obtain ⟨v95, hv95⟩ : ∃ z : Int32, v87 % (256 : Int32) = z := ⟨_, rfl⟩
      have iv95 : v95.toInt = v87.toInt % 256 := by have q := (c_irem v87 (256 : Int32) 256 (by decide)).1 (by omega); rw [hv95] at q; exact q
      refine Gl.irem Y84 (by decide) hv95 at_95 rfl ?_
      refine Gl.istore Y84 (L' := #[.val (.int a1), .val (.int a2), .val (.int a3), .val (.int a4), .val (.int pp), .val (.int qq), .val (.ref b1), .val (.int (1 : Int32)), .val (.int (4 : Int32)), .val (.int v95)]) rfl at_96 rfl ?_
      refine Gl.aload Y84 rfl rfl at_98 rfl ?_
      refine Gl.iload Y84 rfl at_100 rfl ?_
      refine Gl.iload Y84 rfl at_102 rfl ?_
      refine Gl.callS Y84 (tw_6 hw) (tw_7 hw) (tw_8 hw) (tw_9 hw) (by decide) (rm68 l Z a0 hw [] b1 ck1 v6 v11 v16 v21 h22 n0 Y84.sz A22) (argsL := [(.ref b1), (.int (1 : Int32)), (.int (4 : Int32))]) (rest := []) rfl rfl (lenOf pd_1 rfl) rfl (by decide) (Nat.le_of_ble_eq_true rfl) (by decide) (by decide) at_104 rfl (fun v104 T104 h104 Y104 q104 => ?_)
      obtain ⟨r104, rfl, p104, rfl⟩ := q104
      show Gl p e below _ (T104.setTop (mkF m 107 #[.val (.int a1), .val (.int a2), .val (.int a3), .val (.int a4), .val (.int pp), .val (.int qq), .val (.ref b1), .val (.int (1 : Int32)), .val (.int (4 : Int32)), .val (.int v95)] [(.int r104)]))
      refine Gl.iload Y104 rfl at_107 rfl ?_
      refine Gl.icmpne Y104 at_109 (by decide) rfl rfl (fun c109 => ?_) (fun c109 => ?_)
      · exact absurd (Int32.toInt_inj.mp (by rw [p104, own_b hv11, own_b hv16, own_b hv21, iv95, iv87, iv77, iv67, p55, p64, p74, p84]; first | done | rfl | (simp only [Int.zero_add, Int.add_zero]))) c109
      have j109 : r104.toInt = v95.toInt := congrArg Int32.toInt c109
      refine Gl.iconst Y104 (v := (1 : Int32)) (by decide) at_112 rfl ?_
      refine Gl.goto Y104 at_113 (by decide) rfl ?_
      exact Gl.retZ Y104 (by decide) (by decide) (x' := (1 : Int32)) (by decide) at_117 rfl
  · refine Gl.iload Y22 rfl at_34 rfl ?_
    refine Gl.iload Y22 rfl at_36 rfl ?_
    refine Gl.ldcI Y22 (tw_1 hw) at_38 rfl ?_
    obtain ⟨v40, hv40⟩ : ∃ z : Int32, qq &&& (2147483647 : Int32) = z := ⟨_, rfl⟩
    have iv40 : v40.toInt = qq.toInt % 2147483648 := by have q := c_mask qq (2147483647 : Int32) 31 (by decide) (by decide); rw [hv40] at q; exact q
    refine Gl.iand Y22 hv40 at_40 rfl ?_
    refine Gl.iconst Y22 (v := (5 : Int32)) (by decide) at_41 rfl ?_
    refine Gl.iload Y22 rfl at_42 rfl ?_
    refine Gl.isub Y22 (r := (3 : Int32)) (by decide) at_44 rfl ?_
    obtain ⟨v45, hv45⟩ : ∃ z : Int32, v40 % (3 : Int32) = z := ⟨_, rfl⟩
    have iv45 : v45.toInt = v40.toInt % 3 := by have q := (c_irem v40 (3 : Int32) 3 (by decide)).1 (by omega); rw [hv45] at q; exact q
    refine Gl.irem Y22 (by decide) hv45 at_45 rfl ?_
    obtain ⟨v46, hv46⟩ : ∃ z : Int32, (2 : Int32) + v45 = z := ⟨_, rfl⟩
    have iv46 : v46.toInt = 2 + v45.toInt := by
      have q : (v46.toInt - (2 + v45.toInt)) % 4294967296 = 0 := by have q := c_iadd (2 : Int32) v45; rw [hv46] at q; exact q
      have r := rng32 v46
      omega
    refine Gl.iadd Y22 hv46 at_46 rfl ?_
    refine Gl.istore Y22 (L' := #[.val (.int a1), .val (.int a2), .val (.int a3), .val (.int a4), .val (.int pp), .val (.int qq), .val (.ref b1), .val (.int (2 : Int32)), .val (.int v46), .unset]) rfl at_47 rfl ?_
    have bs_v46 : 2 ≤ v46.toInt ∧ v46.toInt ≤ 4 := by omega
    have cs_v46 : v46 = (2 : Int32) ∨ v46 = (3 : Int32) ∨ v46 = (4 : Int32) := own_r2 bs_v46.1 bs_v46.2
    rcases cs_v46 with rfl | rfl | rfl
    · refine Gl.iloadN Y22 rfl at_49 rfl ?_
      refine Gl.iconst Y22 (v := (0 : Int32)) (by decide) at_50 rfl ?_
      refine Gl.iload Y22 rfl at_51 rfl ?_
      refine Gl.iload Y22 rfl at_53 rfl ?_
      refine Gl.callS Y22 (tw_2 hw) (tw_3 hw) (tw_4 hw) (tw_5 hw) (by decide) (rm9 l Z a0 hw [] a1 h22 n0 Y22.sz) (argsL := [(.int a1), (.int (0 : Int32)), (.int (2 : Int32)), (.int (2 : Int32))]) (rest := []) rfl rfl (lenOf pd_0 rfl) rfl (by decide) (Nat.le_of_ble_eq_true rfl) (by decide) (by decide) at_55 rfl (fun v55 T55 h55 Y55 q55 => ?_)
      obtain ⟨r55, rfl, p55, rfl⟩ := q55
      have kc39 : (0 : Int32).toInt = 0 := by decide
      have kc40 : (2 : Int32).toInt = 2 := by decide
      show Gl p e below _ (T55.setTop (mkF m 58 #[.val (.int a1), .val (.int a2), .val (.int a3), .val (.int a4), .val (.int pp), .val (.int qq), .val (.ref b1), .val (.int (2 : Int32)), .val (.int (2 : Int32)), .unset] [(.int r55)]))
      refine Gl.iloadN Y55 rfl at_58 rfl ?_
      refine Gl.iconst Y55 (v := (1 : Int32)) (by decide) at_59 rfl ?_
      refine Gl.iload Y55 rfl at_60 rfl ?_
      refine Gl.iload Y55 rfl at_62 rfl ?_
      refine Gl.callS Y55 (tw_2 hw) (tw_3 hw) (tw_4 hw) (tw_5 hw) (by decide) (rm24 l Z a0 hw [] a2 h22 n0 Y55.sz) (argsL := [(.int a2), (.int (1 : Int32)), (.int (2 : Int32)), (.int (2 : Int32))]) (rest := [(.int r55)]) rfl rfl (lenOf pd_0 rfl) rfl (by decide) (Nat.le_of_ble_eq_true rfl) (by decide) (by decide) at_64 rfl (fun v64 T64 h64 Y64 q64 => ?_)
      obtain ⟨r64, rfl, p64, rfl⟩ := q64
      have kc41 : (1 : Int32).toInt = 1 := by decide
      show Gl p e below _ (T64.setTop (mkF m 67 #[.val (.int a1), .val (.int a2), .val (.int a3), .val (.int a4), .val (.int pp), .val (.int qq), .val (.ref b1), .val (.int (2 : Int32)), .val (.int (2 : Int32)), .unset] [(.int r64), (.int r55)]))
      obtain ⟨v67, hv67⟩ : ∃ z : Int32, r55 + r64 = z := ⟨_, rfl⟩
      have iv67 : v67.toInt = r55.toInt + r64.toInt := by
        have q : (v67.toInt - (r55.toInt + r64.toInt)) % 4294967296 = 0 := by have q := c_iadd r55 r64; rw [hv67] at q; exact q
        have r := rng32 v67
        omega
      refine Gl.iadd Y64 hv67 at_67 rfl ?_
      refine Gl.iloadN Y64 rfl at_68 rfl ?_
      refine Gl.iconst Y64 (v := (2 : Int32)) (by decide) at_69 rfl ?_
      refine Gl.iload Y64 rfl at_70 rfl ?_
      refine Gl.iload Y64 rfl at_72 rfl ?_
      refine Gl.callS Y64 (tw_2 hw) (tw_3 hw) (tw_4 hw) (tw_5 hw) (by decide) (rm39 l Z a0 hw [] a3 h22 n0 Y64.sz) (argsL := [(.int a3), (.int (2 : Int32)), (.int (2 : Int32)), (.int (2 : Int32))]) (rest := [(.int v67)]) rfl rfl (lenOf pd_0 rfl) rfl (by decide) (Nat.le_of_ble_eq_true rfl) (by decide) (by decide) at_74 rfl (fun v74 T74 h74 Y74 q74 => ?_)
      obtain ⟨r74, rfl, p74, rfl⟩ := q74
      show Gl p e below _ (T74.setTop (mkF m 77 #[.val (.int a1), .val (.int a2), .val (.int a3), .val (.int a4), .val (.int pp), .val (.int qq), .val (.ref b1), .val (.int (2 : Int32)), .val (.int (2 : Int32)), .unset] [(.int r74), (.int v67)]))
      obtain ⟨v77, hv77⟩ : ∃ z : Int32, v67 + r74 = z := ⟨_, rfl⟩
      have iv77 : v77.toInt = v67.toInt + r74.toInt := by
        have q : (v77.toInt - (v67.toInt + r74.toInt)) % 4294967296 = 0 := by have q := c_iadd v67 r74; rw [hv77] at q; exact q
        have r := rng32 v77
        omega
      refine Gl.iadd Y74 hv77 at_77 rfl ?_
      refine Gl.iloadN Y74 rfl at_78 rfl ?_
      refine Gl.iconst Y74 (v := (3 : Int32)) (by decide) at_79 rfl ?_
      refine Gl.iload Y74 rfl at_80 rfl ?_
      refine Gl.iload Y74 rfl at_82 rfl ?_
      refine Gl.callS Y74 (tw_2 hw) (tw_3 hw) (tw_4 hw) (tw_5 hw) (by decide) (rm54 l Z a0 hw [] a4 h22 n0 Y74.sz) (argsL := [(.int a4), (.int (3 : Int32)), (.int (2 : Int32)), (.int (2 : Int32))]) (rest := [(.int v77)]) rfl rfl (lenOf pd_0 rfl) rfl (by decide) (Nat.le_of_ble_eq_true rfl) (by decide) (by decide) at_84 rfl (fun v84 T84 h84 Y84 q84 => ?_)
      obtain ⟨r84, rfl, p84, rfl⟩ := q84
      have kc42 : (3 : Int32).toInt = 3 := by decide
      show Gl p e below _ (T84.setTop (mkF m 87 #[.val (.int a1), .val (.int a2), .val (.int a3), .val (.int a4), .val (.int pp), .val (.int qq), .val (.ref b1), .val (.int (2 : Int32)), .val (.int (2 : Int32)), .unset] [(.int r84), (.int v77)]))
      obtain ⟨v87, hv87⟩ : ∃ z : Int32, v77 + r84 = z := ⟨_, rfl⟩
      have iv87 : v87.toInt = v77.toInt + r84.toInt := by
        have q : (v87.toInt - (v77.toInt + r84.toInt)) % 4294967296 = 0 := by have q := c_iadd v77 r84; rw [hv87] at q; exact q
        have r := rng32 v87
        omega
      refine Gl.iadd Y84 hv87 at_87 rfl ?_
      refine Gl.istore Y84 (L' := #[.val (.int a1), .val (.int a2), .val (.int a3), .val (.int a4), .val (.int pp), .val (.int qq), .val (.ref b1), .val (.int (2 : Int32)), .val (.int (2 : Int32)), .val (.int v87)]) rfl at_88 rfl ?_
      refine Gl.iload Y84 rfl at_90 rfl ?_
      refine Gl.sipush Y84 (v := (256 : Int32)) (by decide) at_92 rfl ?_
      obtain ⟨v95, hv95⟩ : ∃ z : Int32, v87 % (256 : Int32) = z := ⟨_, rfl⟩
      have iv95 : v95.toInt = v87.toInt % 256 := by have q := (c_irem v87 (256 : Int32) 256 (by decide)).1 (by omega); rw [hv95] at q; exact q
      refine Gl.irem Y84 (by decide) hv95 at_95 rfl ?_
      refine Gl.istore Y84 (L' := #[.val (.int a1), .val (.int a2), .val (.int a3), .val (.int a4), .val (.int pp), .val (.int qq), .val (.ref b1), .val (.int (2 : Int32)), .val (.int (2 : Int32)), .val (.int v95)]) rfl at_96 rfl ?_
      refine Gl.aload Y84 rfl rfl at_98 rfl ?_
      refine Gl.iload Y84 rfl at_100 rfl ?_
      refine Gl.iload Y84 rfl at_102 rfl ?_
      refine Gl.callS Y84 (tw_6 hw) (tw_7 hw) (tw_8 hw) (tw_9 hw) (by decide) (rm69 l Z a0 hw [] b1 ck1 v6 v11 v16 v21 h22 n0 Y84.sz A22) (argsL := [(.ref b1), (.int (2 : Int32)), (.int (2 : Int32))]) (rest := []) rfl rfl (lenOf pd_1 rfl) rfl (by decide) (Nat.le_of_ble_eq_true rfl) (by decide) (by decide) at_104 rfl (fun v104 T104 h104 Y104 q104 => ?_)
      obtain ⟨r104, rfl, p104, rfl⟩ := q104
      show Gl p e below _ (T104.setTop (mkF m 107 #[.val (.int a1), .val (.int a2), .val (.int a3), .val (.int a4), .val (.int pp), .val (.int qq), .val (.ref b1), .val (.int (2 : Int32)), .val (.int (2 : Int32)), .val (.int v95)] [(.int r104)]))
      refine Gl.iload Y104 rfl at_107 rfl ?_
      refine Gl.icmpne Y104 at_109 (by decide) rfl rfl (fun c109 => ?_) (fun c109 => ?_)
      · exact absurd (Int32.toInt_inj.mp (by rw [p104, iv95, iv87, iv77, iv67, p55, p64, p74, p84]; first | done | rfl | (simp only [Int.zero_add, Int.add_zero]))) c109
      have j109 : r104.toInt = v95.toInt := congrArg Int32.toInt c109
      refine Gl.iconst Y104 (v := (1 : Int32)) (by decide) at_112 rfl ?_
      refine Gl.goto Y104 at_113 (by decide) rfl ?_
      exact Gl.retZ Y104 (by decide) (by decide) (x' := (1 : Int32)) (by decide) at_117 rfl
    · refine Gl.iloadN Y22 rfl at_49 rfl ?_
      refine Gl.iconst Y22 (v := (0 : Int32)) (by decide) at_50 rfl ?_
      refine Gl.iload Y22 rfl at_51 rfl ?_
      refine Gl.iload Y22 rfl at_53 rfl ?_
      refine Gl.callS Y22 (tw_2 hw) (tw_3 hw) (tw_4 hw) (tw_5 hw) (by decide) (rm10 l Z a0 hw [] a1 h22 n0 Y22.sz) (argsL := [(.int a1), (.int (0 : Int32)), (.int (2 : Int32)), (.int (3 : Int32))]) (rest := []) rfl rfl (lenOf pd_0 rfl) rfl (by decide) (Nat.le_of_ble_eq_true rfl) (by decide) (by decide) at_55 rfl (fun v55 T55 h55 Y55 q55 => ?_)
      obtain ⟨r55, rfl, p55, rfl⟩ := q55
      have kc43 : (0 : Int32).toInt = 0 := by decide
      have kc44 : (2 : Int32).toInt = 2 := by decide
      have kc45 : (3 : Int32).toInt = 3 := by decide
      show Gl p e below _ (T55.setTop (mkF m 58 #[.val (.int a1), .val (.int a2), .val (.int a3), .val (.int a4), .val (.int pp), .val (.int qq), .val (.ref b1), .val (.int (2 : Int32)), .val (.int (3 : Int32)), .unset] [(.int r55)]))
      refine Gl.iloadN Y55 rfl at_58 rfl ?_
      refine Gl.iconst Y55 (v := (1 : Int32)) (by decide) at_59 rfl ?_
      refine Gl.iload Y55 rfl at_60 rfl ?_
      refine Gl.iload Y55 rfl at_62 rfl ?_
      refine Gl.callS Y55 (tw_2 hw) (tw_3 hw) (tw_4 hw) (tw_5 hw) (by decide) (rm25 l Z a0 hw [] a2 h22 n0 Y55.sz) (argsL := [(.int a2), (.int (1 : Int32)), (.int (2 : Int32)), (.int (3 : Int32))]) (rest := [(.int r55)]) rfl rfl (lenOf pd_0 rfl) rfl (by decide) (Nat.le_of_ble_eq_true rfl) (by decide) (by decide) at_64 rfl (fun v64 T64 h64 Y64 q64 => ?_)
      obtain ⟨r64, rfl, p64, rfl⟩ := q64
      have kc46 : (1 : Int32).toInt = 1 := by decide
      show Gl p e below _ (T64.setTop (mkF m 67 #[.val (.int a1), .val (.int a2), .val (.int a3), .val (.int a4), .val (.int pp), .val (.int qq), .val (.ref b1), .val (.int (2 : Int32)), .val (.int (3 : Int32)), .unset] [(.int r64), (.int r55)]))
      obtain ⟨v67, hv67⟩ : ∃ z : Int32, r55 + r64 = z := ⟨_, rfl⟩
      have iv67 : v67.toInt = r55.toInt + r64.toInt := by
        have q : (v67.toInt - (r55.toInt + r64.toInt)) % 4294967296 = 0 := by have q := c_iadd r55 r64; rw [hv67] at q; exact q
        have r := rng32 v67
        omega
      refine Gl.iadd Y64 hv67 at_67 rfl ?_
      refine Gl.iloadN Y64 rfl at_68 rfl ?_
      refine Gl.iconst Y64 (v := (2 : Int32)) (by decide) at_69 rfl ?_
      refine Gl.iload Y64 rfl at_70 rfl ?_
      refine Gl.iload Y64 rfl at_72 rfl ?_
      refine Gl.callS Y64 (tw_2 hw) (tw_3 hw) (tw_4 hw) (tw_5 hw) (by decide) (rm40 l Z a0 hw [] a3 h22 n0 Y64.sz) (argsL := [(.int a3), (.int (2 : Int32)), (.int (2 : Int32)), (.int (3 : Int32))]) (rest := [(.int v67)]) rfl rfl (lenOf pd_0 rfl) rfl (by decide) (Nat.le_of_ble_eq_true rfl) (by decide) (by decide) at_74 rfl (fun v74 T74 h74 Y74 q74 => ?_)
      obtain ⟨r74, rfl, p74, rfl⟩ := q74
      show Gl p e below _ (T74.setTop (mkF m 77 #[.val (.int a1), .val (.int a2), .val (.int a3), .val (.int a4), .val (.int pp), .val (.int qq), .val (.ref b1), .val (.int (2 : Int32)), .val (.int (3 : Int32)), .unset] [(.int r74), (.int v67)]))
      obtain ⟨v77, hv77⟩ : ∃ z : Int32, v67 + r74 = z := ⟨_, rfl⟩
      have iv77 : v77.toInt = v67.toInt + r74.toInt := by
        have q : (v77.toInt - (v67.toInt + r74.toInt)) % 4294967296 = 0 := by have q := c_iadd v67 r74; rw [hv77] at q; exact q
        have r := rng32 v77
        omega
      refine Gl.iadd Y74 hv77 at_77 rfl ?_
      refine Gl.iloadN Y74 rfl at_78 rfl ?_
      refine Gl.iconst Y74 (v := (3 : Int32)) (by decide) at_79 rfl ?_
      refine Gl.iload Y74 rfl at_80 rfl ?_
      refine Gl.iload Y74 rfl at_82 rfl ?_
      refine Gl.callS Y74 (tw_2 hw) (tw_3 hw) (tw_4 hw) (tw_5 hw) (by decide) (rm55 l Z a0 hw [] a4 h22 n0 Y74.sz) (argsL := [(.int a4), (.int (3 : Int32)), (.int (2 : Int32)), (.int (3 : Int32))]) (rest := [(.int v77)]) rfl rfl (lenOf pd_0 rfl) rfl (by decide) (Nat.le_of_ble_eq_true rfl) (by decide) (by decide) at_84 rfl (fun v84 T84 h84 Y84 q84 => ?_)
      obtain ⟨r84, rfl, p84, rfl⟩ := q84
      show Gl p e below _ (T84.setTop (mkF m 87 #[.val (.int a1), .val (.int a2), .val (.int a3), .val (.int a4), .val (.int pp), .val (.int qq), .val (.ref b1), .val (.int (2 : Int32)), .val (.int (3 : Int32)), .unset] [(.int r84), (.int v77)]))
      obtain ⟨v87, hv87⟩ : ∃ z : Int32, v77 + r84 = z := ⟨_, rfl⟩
      have iv87 : v87.toInt = v77.toInt + r84.toInt := by
        have q : (v87.toInt - (v77.toInt + r84.toInt)) % 4294967296 = 0 := by have q := c_iadd v77 r84; rw [hv87] at q; exact q
        have r := rng32 v87
        omega
      refine Gl.iadd Y84 hv87 at_87 rfl ?_
      refine Gl.istore Y84 (L' := #[.val (.int a1), .val (.int a2), .val (.int a3), .val (.int a4), .val (.int pp), .val (.int qq), .val (.ref b1), .val (.int (2 : Int32)), .val (.int (3 : Int32)), .val (.int v87)]) rfl at_88 rfl ?_
      refine Gl.iload Y84 rfl at_90 rfl ?_
      refine Gl.sipush Y84 (v := (256 : Int32)) (by decide) at_92 rfl ?_
      obtain ⟨v95, hv95⟩ : ∃ z : Int32, v87 % (256 : Int32) = z := ⟨_, rfl⟩
      have iv95 : v95.toInt = v87.toInt % 256 := by have q := (c_irem v87 (256 : Int32) 256 (by decide)).1 (by omega); rw [hv95] at q; exact q
      refine Gl.irem Y84 (by decide) hv95 at_95 rfl ?_
      refine Gl.istore Y84 (L' := #[.val (.int a1), .val (.int a2), .val (.int a3), .val (.int a4), .val (.int pp), .val (.int qq), .val (.ref b1), .val (.int (2 : Int32)), .val (.int (3 : Int32)), .val (.int v95)]) rfl at_96 rfl ?_
      refine Gl.aload Y84 rfl rfl at_98 rfl ?_
      refine Gl.iload Y84 rfl at_100 rfl ?_
      refine Gl.iload Y84 rfl at_102 rfl ?_
      refine Gl.callS Y84 (tw_6 hw) (tw_7 hw) (tw_8 hw) (tw_9 hw) (by decide) (rm70 l Z a0 hw [] b1 ck1 v6 v11 v16 v21 h22 n0 Y84.sz A22) (argsL := [(.ref b1), (.int (2 : Int32)), (.int (3 : Int32))]) (rest := []) rfl rfl (lenOf pd_1 rfl) rfl (by decide) (Nat.le_of_ble_eq_true rfl) (by decide) (by decide) at_104 rfl (fun v104 T104 h104 Y104 q104 => ?_)
      obtain ⟨r104, rfl, p104, rfl⟩ := q104
      show Gl p e below _ (T104.setTop (mkF m 107 #[.val (.int a1), .val (.int a2), .val (.int a3), .val (.int a4), .val (.int pp), .val (.int qq), .val (.ref b1), .val (.int (2 : Int32)), .val (.int (3 : Int32)), .val (.int v95)] [(.int r104)]))
      refine Gl.iload Y104 rfl at_107 rfl ?_
      refine Gl.icmpne Y104 at_109 (by decide) rfl rfl (fun c109 => ?_) (fun c109 => ?_)
      · exact absurd (Int32.toInt_inj.mp (by rw [p104, own_b hv16, iv95, iv87, iv77, iv67, p55, p64, p74, p84]; first | done | rfl | (simp only [Int.zero_add, Int.add_zero]))) c109
      have j109 : r104.toInt = v95.toInt := congrArg Int32.toInt c109
      refine Gl.iconst Y104 (v := (1 : Int32)) (by decide) at_112 rfl ?_
      refine Gl.goto Y104 at_113 (by decide) rfl ?_
      exact Gl.retZ Y104 (by decide) (by decide) (x' := (1 : Int32)) (by decide) at_117 rfl
    · refine Gl.iloadN Y22 rfl at_49 rfl ?_
      refine Gl.iconst Y22 (v := (0 : Int32)) (by decide) at_50 rfl ?_
      refine Gl.iload Y22 rfl at_51 rfl ?_
      refine Gl.iload Y22 rfl at_53 rfl ?_
      refine Gl.callS Y22 (tw_2 hw) (tw_3 hw) (tw_4 hw) (tw_5 hw) (by decide) (rm11 l Z a0 hw [] a1 h22 n0 Y22.sz) (argsL := [(.int a1), (.int (0 : Int32)), (.int (2 : Int32)), (.int (4 : Int32))]) (rest := []) rfl rfl (lenOf pd_0 rfl) rfl (by decide) (Nat.le_of_ble_eq_true rfl) (by decide) (by decide) at_55 rfl (fun v55 T55 h55 Y55 q55 => ?_)
      obtain ⟨r55, rfl, p55, rfl⟩ := q55
      have kc47 : (0 : Int32).toInt = 0 := by decide
      have kc48 : (2 : Int32).toInt = 2 := by decide
      have kc49 : (4 : Int32).toInt = 4 := by decide
      show Gl p e below _ (T55.setTop (mkF m 58 #[.val (.int a1), .val (.int a2), .val (.int a3), .val (.int a4), .val (.int pp), .val (.int qq), .val (.ref b1), .val (.int (2 : Int32)), .val (.int (4 : Int32)), .unset] [(.int r55)]))
      refine Gl.iloadN Y55 rfl at_58 rfl ?_
      refine Gl.iconst Y55 (v := (1 : Int32)) (by decide) at_59 rfl ?_
      refine Gl.iload Y55 rfl at_60 rfl ?_
      refine Gl.iload Y55 rfl at_62 rfl ?_
      refine Gl.callS Y55 (tw_2 hw) (tw_3 hw) (tw_4 hw) (tw_5 hw) (by decide) (rm26 l Z a0 hw [] a2 h22 n0 Y55.sz) (argsL := [(.int a2), (.int (1 : Int32)), (.int (2 : Int32)), (.int (4 : Int32))]) (rest := [(.int r55)]) rfl rfl (lenOf pd_0 rfl) rfl (by decide) (Nat.le_of_ble_eq_true rfl) (by decide) (by decide) at_64 rfl (fun v64 T64 h64 Y64 q64 => ?_)
      obtain ⟨r64, rfl, p64, rfl⟩ := q64
      have kc50 : (1 : Int32).toInt = 1 := by decide
      show Gl p e below _ (T64.setTop (mkF m 67 #[.val (.int a1), .val (.int a2), .val (.int a3), .val (.int a4), .val (.int pp), .val (.int qq), .val (.ref b1), .val (.int (2 : Int32)), .val (.int (4 : Int32)), .unset] [(.int r64), (.int r55)]))
      obtain ⟨v67, hv67⟩ : ∃ z : Int32, r55 + r64 = z := ⟨_, rfl⟩
      have iv67 : v67.toInt = r55.toInt + r64.toInt := by
        have q : (v67.toInt - (r55.toInt + r64.toInt)) % 4294967296 = 0 := by have q := c_iadd r55 r64; rw [hv67] at q; exact q
        have r := rng32 v67
        omega
      refine Gl.iadd Y64 hv67 at_67 rfl ?_
      refine Gl.iloadN Y64 rfl at_68 rfl ?_
      refine Gl.iconst Y64 (v := (2 : Int32)) (by decide) at_69 rfl ?_
      refine Gl.iload Y64 rfl at_70 rfl ?_
      refine Gl.iload Y64 rfl at_72 rfl ?_
      refine Gl.callS Y64 (tw_2 hw) (tw_3 hw) (tw_4 hw) (tw_5 hw) (by decide) (rm41 l Z a0 hw [] a3 h22 n0 Y64.sz) (argsL := [(.int a3), (.int (2 : Int32)), (.int (2 : Int32)), (.int (4 : Int32))]) (rest := [(.int v67)]) rfl rfl (lenOf pd_0 rfl) rfl (by decide) (Nat.le_of_ble_eq_true rfl) (by decide) (by decide) at_74 rfl (fun v74 T74 h74 Y74 q74 => ?_)
      obtain ⟨r74, rfl, p74, rfl⟩ := q74
      show Gl p e below _ (T74.setTop (mkF m 77 #[.val (.int a1), .val (.int a2), .val (.int a3), .val (.int a4), .val (.int pp), .val (.int qq), .val (.ref b1), .val (.int (2 : Int32)), .val (.int (4 : Int32)), .unset] [(.int r74), (.int v67)]))
      obtain ⟨v77, hv77⟩ : ∃ z : Int32, v67 + r74 = z := ⟨_, rfl⟩
      have iv77 : v77.toInt = v67.toInt + r74.toInt := by
        have q : (v77.toInt - (v67.toInt + r74.toInt)) % 4294967296 = 0 := by have q := c_iadd v67 r74; rw [hv77] at q; exact q
        have r := rng32 v77
        omega
      refine Gl.iadd Y74 hv77 at_77 rfl ?_
      refine Gl.iloadN Y74 rfl at_78 rfl ?_
      refine Gl.iconst Y74 (v := (3 : Int32)) (by decide) at_79 rfl ?_
      refine Gl.iload Y74 rfl at_80 rfl ?_
      refine Gl.iload Y74 rfl at_82 rfl ?_
      refine Gl.callS Y74 (tw_2 hw) (tw_3 hw) (tw_4 hw) (tw_5 hw) (by decide) (rm56 l Z a0 hw [] a4 h22 n0 Y74.sz) (argsL := [(.int a4), (.int (3 : Int32)), (.int (2 : Int32)), (.int (4 : Int32))]) (rest := [(.int v77)]) rfl rfl (lenOf pd_0 rfl) rfl (by decide) (Nat.le_of_ble_eq_true rfl) (by decide) (by decide) at_84 rfl (fun v84 T84 h84 Y84 q84 => ?_)
      obtain ⟨r84, rfl, p84, rfl⟩ := q84
      have kc51 : (3 : Int32).toInt = 3 := by decide
      show Gl p e below _ (T84.setTop (mkF m 87 #[.val (.int a1), .val (.int a2), .val (.int a3), .val (.int a4), .val (.int pp), .val (.int qq), .val (.ref b1), .val (.int (2 : Int32)), .val (.int (4 : Int32)), .unset] [(.int r84), (.int v77)]))
      obtain ⟨v87, hv87⟩ : ∃ z : Int32, v77 + r84 = z := ⟨_, rfl⟩
      have iv87 : v87.toInt = v77.toInt + r84.toInt := by
        have q : (v87.toInt - (v77.toInt + r84.toInt)) % 4294967296 = 0 := by have q := c_iadd v77 r84; rw [hv87] at q; exact q
        have r := rng32 v87
        omega
      refine Gl.iadd Y84 hv87 at_87 rfl ?_
      refine Gl.istore Y84 (L' := #[.val (.int a1), .val (.int a2), .val (.int a3), .val (.int a4), .val (.int pp), .val (.int qq), .val (.ref b1), .val (.int (2 : Int32)), .val (.int (4 : Int32)), .val (.int v87)]) rfl at_88 rfl ?_
      refine Gl.iload Y84 rfl at_90 rfl ?_
      refine Gl.sipush Y84 (v := (256 : Int32)) (by decide) at_92 rfl ?_
      obtain ⟨v95, hv95⟩ : ∃ z : Int32, v87 % (256 : Int32) = z := ⟨_, rfl⟩
      have iv95 : v95.toInt = v87.toInt % 256 := by have q := (c_irem v87 (256 : Int32) 256 (by decide)).1 (by omega); rw [hv95] at q; exact q
      refine Gl.irem Y84 (by decide) hv95 at_95 rfl ?_
      refine Gl.istore Y84 (L' := #[.val (.int a1), .val (.int a2), .val (.int a3), .val (.int a4), .val (.int pp), .val (.int qq), .val (.ref b1), .val (.int (2 : Int32)), .val (.int (4 : Int32)), .val (.int v95)]) rfl at_96 rfl ?_
      refine Gl.aload Y84 rfl rfl at_98 rfl ?_
      refine Gl.iload Y84 rfl at_100 rfl ?_
      refine Gl.iload Y84 rfl at_102 rfl ?_
      refine Gl.callS Y84 (tw_6 hw) (tw_7 hw) (tw_8 hw) (tw_9 hw) (by decide) (rm71 l Z a0 hw [] b1 ck1 v6 v11 v16 v21 h22 n0 Y84.sz A22) (argsL := [(.ref b1), (.int (2 : Int32)), (.int (4 : Int32))]) (rest := []) rfl rfl (lenOf pd_1 rfl) rfl (by decide) (Nat.le_of_ble_eq_true rfl) (by decide) (by decide) at_104 rfl (fun v104 T104 h104 Y104 q104 => ?_)
      obtain ⟨r104, rfl, p104, rfl⟩ := q104
      show Gl p e below _ (T104.setTop (mkF m 107 #[.val (.int a1), .val (.int a2), .val (.int a3), .val (.int a4), .val (.int pp), .val (.int qq), .val (.ref b1), .val (.int (2 : Int32)), .val (.int (4 : Int32)), .val (.int v95)] [(.int r104)]))
      refine Gl.iload Y104 rfl at_107 rfl ?_
      refine Gl.icmpne Y104 at_109 (by decide) rfl rfl (fun c109 => ?_) (fun c109 => ?_)
      · exact absurd (Int32.toInt_inj.mp (by rw [p104, own_b hv16, own_b hv21, iv95, iv87, iv77, iv67, p55, p64, p74, p84]; first | done | rfl | (simp only [Int.zero_add, Int.add_zero]))) c109
      have j109 : r104.toInt = v95.toInt := congrArg Int32.toInt c109
      refine Gl.iconst Y104 (v := (1 : Int32)) (by decide) at_112 rfl ?_
      refine Gl.goto Y104 at_113 (by decide) rfl ?_
      exact Gl.retZ Y104 (by decide) (by decide) (x' := (1 : Int32)) (by decide) at_117 rfl
  · refine Gl.iload Y22 rfl at_34 rfl ?_
    refine Gl.iload Y22 rfl at_36 rfl ?_
    refine Gl.ldcI Y22 (tw_1 hw) at_38 rfl ?_
    obtain ⟨v40, hv40⟩ : ∃ z : Int32, qq &&& (2147483647 : Int32) = z := ⟨_, rfl⟩
    have iv40 : v40.toInt = qq.toInt % 2147483648 := by have q := c_mask qq (2147483647 : Int32) 31 (by decide) (by decide); rw [hv40] at q; exact q
    refine Gl.iand Y22 hv40 at_40 rfl ?_
    refine Gl.iconst Y22 (v := (5 : Int32)) (by decide) at_41 rfl ?_
    refine Gl.iload Y22 rfl at_42 rfl ?_
    refine Gl.isub Y22 (r := (2 : Int32)) (by decide) at_44 rfl ?_
    obtain ⟨v45, hv45⟩ : ∃ z : Int32, v40 % (2 : Int32) = z := ⟨_, rfl⟩
    have iv45 : v45.toInt = v40.toInt % 2 := by have q := (c_irem v40 (2 : Int32) 2 (by decide)).1 (by omega); rw [hv45] at q; exact q
    refine Gl.irem Y22 (by decide) hv45 at_45 rfl ?_
    obtain ⟨v46, hv46⟩ : ∃ z : Int32, (3 : Int32) + v45 = z := ⟨_, rfl⟩
    have iv46 : v46.toInt = 3 + v45.toInt := by
      have q : (v46.toInt - (3 + v45.toInt)) % 4294967296 = 0 := by have q := c_iadd (3 : Int32) v45; rw [hv46] at q; exact q
      have r := rng32 v46
      omega
    refine Gl.iadd Y22 hv46 at_46 rfl ?_
    refine Gl.istore Y22 (L' := #[.val (.int a1), .val (.int a2), .val (.int a3), .val (.int a4), .val (.int pp), .val (.int qq), .val (.ref b1), .val (.int (3 : Int32)), .val (.int v46), .unset]) rfl at_47 rfl ?_
    have bs_v46 : 3 ≤ v46.toInt ∧ v46.toInt ≤ 4 := by omega
    have cs_v46 : v46 = (3 : Int32) ∨ v46 = (4 : Int32) := own_r3 bs_v46.1 bs_v46.2
    rcases cs_v46 with rfl | rfl
    · refine Gl.iloadN Y22 rfl at_49 rfl ?_
      refine Gl.iconst Y22 (v := (0 : Int32)) (by decide) at_50 rfl ?_
      refine Gl.iload Y22 rfl at_51 rfl ?_
      refine Gl.iload Y22 rfl at_53 rfl ?_
      refine Gl.callS Y22 (tw_2 hw) (tw_3 hw) (tw_4 hw) (tw_5 hw) (by decide) (rm12 l Z a0 hw [] a1 h22 n0 Y22.sz) (argsL := [(.int a1), (.int (0 : Int32)), (.int (3 : Int32)), (.int (3 : Int32))]) (rest := []) rfl rfl (lenOf pd_0 rfl) rfl (by decide) (Nat.le_of_ble_eq_true rfl) (by decide) (by decide) at_55 rfl (fun v55 T55 h55 Y55 q55 => ?_)
      obtain ⟨r55, rfl, p55, rfl⟩ := q55
      have kc52 : (0 : Int32).toInt = 0 := by decide
      have kc53 : (3 : Int32).toInt = 3 := by decide
      show Gl p e below _ (T55.setTop (mkF m 58 #[.val (.int a1), .val (.int a2), .val (.int a3), .val (.int a4), .val (.int pp), .val (.int qq), .val (.ref b1), .val (.int (3 : Int32)), .val (.int (3 : Int32)), .unset] [(.int r55)]))
      refine Gl.iloadN Y55 rfl at_58 rfl ?_
      refine Gl.iconst Y55 (v := (1 : Int32)) (by decide) at_59 rfl ?_
      refine Gl.iload Y55 rfl at_60 rfl ?_
      refine Gl.iload Y55 rfl at_62 rfl ?_
      refine Gl.callS Y55 (tw_2 hw) (tw_3 hw) (tw_4 hw) (tw_5 hw) (by decide) (rm27 l Z a0 hw [] a2 h22 n0 Y55.sz) (argsL := [(.int a2), (.int (1 : Int32)), (.int (3 : Int32)), (.int (3 : Int32))]) (rest := [(.int r55)]) rfl rfl (lenOf pd_0 rfl) rfl (by decide) (Nat.le_of_ble_eq_true rfl) (by decide) (by decide) at_64 rfl (fun v64 T64 h64 Y64 q64 => ?_)
      obtain ⟨r64, rfl, p64, rfl⟩ := q64
      have kc54 : (1 : Int32).toInt = 1 := by decide
      show Gl p e below _ (T64.setTop (mkF m 67 #[.val (.int a1), .val (.int a2), .val (.int a3), .val (.int a4), .val (.int pp), .val (.int qq), .val (.ref b1), .val (.int (3 : Int32)), .val (.int (3 : Int32)), .unset] [(.int r64), (.int r55)]))
      obtain ⟨v67, hv67⟩ : ∃ z : Int32, r55 + r64 = z := ⟨_, rfl⟩
      have iv67 : v67.toInt = r55.toInt + r64.toInt := by
        have q : (v67.toInt - (r55.toInt + r64.toInt)) % 4294967296 = 0 := by have q := c_iadd r55 r64; rw [hv67] at q; exact q
        have r := rng32 v67
        omega
      refine Gl.iadd Y64 hv67 at_67 rfl ?_
      refine Gl.iloadN Y64 rfl at_68 rfl ?_
      refine Gl.iconst Y64 (v := (2 : Int32)) (by decide) at_69 rfl ?_
      refine Gl.iload Y64 rfl at_70 rfl ?_
      refine Gl.iload Y64 rfl at_72 rfl ?_
      refine Gl.callS Y64 (tw_2 hw) (tw_3 hw) (tw_4 hw) (tw_5 hw) (by decide) (rm42 l Z a0 hw [] a3 h22 n0 Y64.sz) (argsL := [(.int a3), (.int (2 : Int32)), (.int (3 : Int32)), (.int (3 : Int32))]) (rest := [(.int v67)]) rfl rfl (lenOf pd_0 rfl) rfl (by decide) (Nat.le_of_ble_eq_true rfl) (by decide) (by decide) at_74 rfl (fun v74 T74 h74 Y74 q74 => ?_)
      obtain ⟨r74, rfl, p74, rfl⟩ := q74
      have kc55 : (2 : Int32).toInt = 2 := by decide
      show Gl p e below _ (T74.setTop (mkF m 77 #[.val (.int a1), .val (.int a2), .val (.int a3), .val (.int a4), .val (.int pp), .val (.int qq), .val (.ref b1), .val (.int (3 : Int32)), .val (.int (3 : Int32)), .unset] [(.int r74), (.int v67)]))
      obtain ⟨v77, hv77⟩ : ∃ z : Int32, v67 + r74 = z := ⟨_, rfl⟩
      have iv77 : v77.toInt = v67.toInt + r74.toInt := by
        have q : (v77.toInt - (v67.toInt + r74.toInt)) % 4294967296 = 0 := by have q := c_iadd v67 r74; rw [hv77] at q; exact q
        have r := rng32 v77
        omega
      refine Gl.iadd Y74 hv77 at_77 rfl ?_
      refine Gl.iloadN Y74 rfl at_78 rfl ?_
      refine Gl.iconst Y74 (v := (3 : Int32)) (by decide) at_79 rfl ?_
      refine Gl.iload Y74 rfl at_80 rfl ?_
      refine Gl.iload Y74 rfl at_82 rfl ?_
      refine Gl.callS Y74 (tw_2 hw) (tw_3 hw) (tw_4 hw) (tw_5 hw) (by decide) (rm57 l Z a0 hw [] a4 h22 n0 Y74.sz) (argsL := [(.int a4), (.int (3 : Int32)), (.int (3 : Int32)), (.int (3 : Int32))]) (rest := [(.int v77)]) rfl rfl (lenOf pd_0 rfl) rfl (by decide) (Nat.le_of_ble_eq_true rfl) (by decide) (by decide) at_84 rfl (fun v84 T84 h84 Y84 q84 => ?_)
      obtain ⟨r84, rfl, p84, rfl⟩ := q84
      show Gl p e below _ (T84.setTop (mkF m 87 #[.val (.int a1), .val (.int a2), .val (.int a3), .val (.int a4), .val (.int pp), .val (.int qq), .val (.ref b1), .val (.int (3 : Int32)), .val (.int (3 : Int32)), .unset] [(.int r84), (.int v77)]))
      obtain ⟨v87, hv87⟩ : ∃ z : Int32, v77 + r84 = z := ⟨_, rfl⟩
      have iv87 : v87.toInt = v77.toInt + r84.toInt := by
        have q : (v87.toInt - (v77.toInt + r84.toInt)) % 4294967296 = 0 := by have q := c_iadd v77 r84; rw [hv87] at q; exact q
        have r := rng32 v87
        omega
      refine Gl.iadd Y84 hv87 at_87 rfl ?_
      refine Gl.istore Y84 (L' := #[.val (.int a1), .val (.int a2), .val (.int a3), .val (.int a4), .val (.int pp), .val (.int qq), .val (.ref b1), .val (.int (3 : Int32)), .val (.int (3 : Int32)), .val (.int v87)]) rfl at_88 rfl ?_
      refine Gl.iload Y84 rfl at_90 rfl ?_
      refine Gl.sipush Y84 (v := (256 : Int32)) (by decide) at_92 rfl ?_
      obtain ⟨v95, hv95⟩ : ∃ z : Int32, v87 % (256 : Int32) = z := ⟨_, rfl⟩
      have iv95 : v95.toInt = v87.toInt % 256 := by have q := (c_irem v87 (256 : Int32) 256 (by decide)).1 (by omega); rw [hv95] at q; exact q
      refine Gl.irem Y84 (by decide) hv95 at_95 rfl ?_
      refine Gl.istore Y84 (L' := #[.val (.int a1), .val (.int a2), .val (.int a3), .val (.int a4), .val (.int pp), .val (.int qq), .val (.ref b1), .val (.int (3 : Int32)), .val (.int (3 : Int32)), .val (.int v95)]) rfl at_96 rfl ?_
      refine Gl.aload Y84 rfl rfl at_98 rfl ?_
      refine Gl.iload Y84 rfl at_100 rfl ?_
      refine Gl.iload Y84 rfl at_102 rfl ?_
      refine Gl.callS Y84 (tw_6 hw) (tw_7 hw) (tw_8 hw) (tw_9 hw) (by decide) (rm72 l Z a0 hw [] b1 ck1 v6 v11 v16 v21 h22 n0 Y84.sz A22) (argsL := [(.ref b1), (.int (3 : Int32)), (.int (3 : Int32))]) (rest := []) rfl rfl (lenOf pd_1 rfl) rfl (by decide) (Nat.le_of_ble_eq_true rfl) (by decide) (by decide) at_104 rfl (fun v104 T104 h104 Y104 q104 => ?_)
      obtain ⟨r104, rfl, p104, rfl⟩ := q104
      show Gl p e below _ (T104.setTop (mkF m 107 #[.val (.int a1), .val (.int a2), .val (.int a3), .val (.int a4), .val (.int pp), .val (.int qq), .val (.ref b1), .val (.int (3 : Int32)), .val (.int (3 : Int32)), .val (.int v95)] [(.int r104)]))
      refine Gl.iload Y104 rfl at_107 rfl ?_
      refine Gl.icmpne Y104 at_109 (by decide) rfl rfl (fun c109 => ?_) (fun c109 => ?_)
      · exact absurd (Int32.toInt_inj.mp (by rw [p104, iv95, iv87, iv77, iv67, p55, p64, p74, p84]; first | done | rfl | (simp only [Int.zero_add, Int.add_zero]))) c109
      have j109 : r104.toInt = v95.toInt := congrArg Int32.toInt c109
      refine Gl.iconst Y104 (v := (1 : Int32)) (by decide) at_112 rfl ?_
      refine Gl.goto Y104 at_113 (by decide) rfl ?_
      exact Gl.retZ Y104 (by decide) (by decide) (x' := (1 : Int32)) (by decide) at_117 rfl
    · refine Gl.iloadN Y22 rfl at_49 rfl ?_
      refine Gl.iconst Y22 (v := (0 : Int32)) (by decide) at_50 rfl ?_
      refine Gl.iload Y22 rfl at_51 rfl ?_
      refine Gl.iload Y22 rfl at_53 rfl ?_
      refine Gl.callS Y22 (tw_2 hw) (tw_3 hw) (tw_4 hw) (tw_5 hw) (by decide) (rm13 l Z a0 hw [] a1 h22 n0 Y22.sz) (argsL := [(.int a1), (.int (0 : Int32)), (.int (3 : Int32)), (.int (4 : Int32))]) (rest := []) rfl rfl (lenOf pd_0 rfl) rfl (by decide) (Nat.le_of_ble_eq_true rfl) (by decide) (by decide) at_55 rfl (fun v55 T55 h55 Y55 q55 => ?_)
      obtain ⟨r55, rfl, p55, rfl⟩ := q55
      have kc56 : (0 : Int32).toInt = 0 := by decide
      have kc57 : (3 : Int32).toInt = 3 := by decide
      have kc58 : (4 : Int32).toInt = 4 := by decide
      show Gl p e below _ (T55.setTop (mkF m 58 #[.val (.int a1), .val (.int a2), .val (.int a3), .val (.int a4), .val (.int pp), .val (.int qq), .val (.ref b1), .val (.int (3 : Int32)), .val (.int (4 : Int32)), .unset] [(.int r55)]))
      refine Gl.iloadN Y55 rfl at_58 rfl ?_
      refine Gl.iconst Y55 (v := (1 : Int32)) (by decide) at_59 rfl ?_
      refine Gl.iload Y55 rfl at_60 rfl ?_
      refine Gl.iload Y55 rfl at_62 rfl ?_
      refine Gl.callS Y55 (tw_2 hw) (tw_3 hw) (tw_4 hw) (tw_5 hw) (by decide) (rm28 l Z a0 hw [] a2 h22 n0 Y55.sz) (argsL := [(.int a2), (.int (1 : Int32)), (.int (3 : Int32)), (.int (4 : Int32))]) (rest := [(.int r55)]) rfl rfl (lenOf pd_0 rfl) rfl (by decide) (Nat.le_of_ble_eq_true rfl) (by decide) (by decide) at_64 rfl (fun v64 T64 h64 Y64 q64 => ?_)
      obtain ⟨r64, rfl, p64, rfl⟩ := q64
      have kc59 : (1 : Int32).toInt = 1 := by decide
      show Gl p e below _ (T64.setTop (mkF m 67 #[.val (.int a1), .val (.int a2), .val (.int a3), .val (.int a4), .val (.int pp), .val (.int qq), .val (.ref b1), .val (.int (3 : Int32)), .val (.int (4 : Int32)), .unset] [(.int r64), (.int r55)]))
      obtain ⟨v67, hv67⟩ : ∃ z : Int32, r55 + r64 = z := ⟨_, rfl⟩
      have iv67 : v67.toInt = r55.toInt + r64.toInt := by
        have q : (v67.toInt - (r55.toInt + r64.toInt)) % 4294967296 = 0 := by have q := c_iadd r55 r64; rw [hv67] at q; exact q
        have r := rng32 v67
        omega
      refine Gl.iadd Y64 hv67 at_67 rfl ?_
      refine Gl.iloadN Y64 rfl at_68 rfl ?_
      refine Gl.iconst Y64 (v := (2 : Int32)) (by decide) at_69 rfl ?_
      refine Gl.iload Y64 rfl at_70 rfl ?_
      refine Gl.iload Y64 rfl at_72 rfl ?_
      refine Gl.callS Y64 (tw_2 hw) (tw_3 hw) (tw_4 hw) (tw_5 hw) (by decide) (rm43 l Z a0 hw [] a3 h22 n0 Y64.sz) (argsL := [(.int a3), (.int (2 : Int32)), (.int (3 : Int32)), (.int (4 : Int32))]) (rest := [(.int v67)]) rfl rfl (lenOf pd_0 rfl) rfl (by decide) (Nat.le_of_ble_eq_true rfl) (by decide) (by decide) at_74 rfl (fun v74 T74 h74 Y74 q74 => ?_)
      obtain ⟨r74, rfl, p74, rfl⟩ := q74
      have kc60 : (2 : Int32).toInt = 2 := by decide
      show Gl p e below _ (T74.setTop (mkF m 77 #[.val (.int a1), .val (.int a2), .val (.int a3), .val (.int a4), .val (.int pp), .val (.int qq), .val (.ref b1), .val (.int (3 : Int32)), .val (.int (4 : Int32)), .unset] [(.int r74), (.int v67)]))
      obtain ⟨v77, hv77⟩ : ∃ z : Int32, v67 + r74 = z := ⟨_, rfl⟩
      have iv77 : v77.toInt = v67.toInt + r74.toInt := by
        have q : (v77.toInt - (v67.toInt + r74.toInt)) % 4294967296 = 0 := by have q := c_iadd v67 r74; rw [hv77] at q; exact q
        have r := rng32 v77
        omega
      refine Gl.iadd Y74 hv77 at_77 rfl ?_
      refine Gl.iloadN Y74 rfl at_78 rfl ?_
      refine Gl.iconst Y74 (v := (3 : Int32)) (by decide) at_79 rfl ?_
      refine Gl.iload Y74 rfl at_80 rfl ?_
      refine Gl.iload Y74 rfl at_82 rfl ?_
      refine Gl.callS Y74 (tw_2 hw) (tw_3 hw) (tw_4 hw) (tw_5 hw) (by decide) (rm58 l Z a0 hw [] a4 h22 n0 Y74.sz) (argsL := [(.int a4), (.int (3 : Int32)), (.int (3 : Int32)), (.int (4 : Int32))]) (rest := [(.int v77)]) rfl rfl (lenOf pd_0 rfl) rfl (by decide) (Nat.le_of_ble_eq_true rfl) (by decide) (by decide) at_84 rfl (fun v84 T84 h84 Y84 q84 => ?_)
      obtain ⟨r84, rfl, p84, rfl⟩ := q84
      show Gl p e below _ (T84.setTop (mkF m 87 #[.val (.int a1), .val (.int a2), .val (.int a3), .val (.int a4), .val (.int pp), .val (.int qq), .val (.ref b1), .val (.int (3 : Int32)), .val (.int (4 : Int32)), .unset] [(.int r84), (.int v77)]))
      obtain ⟨v87, hv87⟩ : ∃ z : Int32, v77 + r84 = z := ⟨_, rfl⟩
      have iv87 : v87.toInt = v77.toInt + r84.toInt := by
        have q : (v87.toInt - (v77.toInt + r84.toInt)) % 4294967296 = 0 := by have q := c_iadd v77 r84; rw [hv87] at q; exact q
        have r := rng32 v87
        omega
      refine Gl.iadd Y84 hv87 at_87 rfl ?_
      refine Gl.istore Y84 (L' := #[.val (.int a1), .val (.int a2), .val (.int a3), .val (.int a4), .val (.int pp), .val (.int qq), .val (.ref b1), .val (.int (3 : Int32)), .val (.int (4 : Int32)), .val (.int v87)]) rfl at_88 rfl ?_
      refine Gl.iload Y84 rfl at_90 rfl ?_
      refine Gl.sipush Y84 (v := (256 : Int32)) (by decide) at_92 rfl ?_
      obtain ⟨v95, hv95⟩ : ∃ z : Int32, v87 % (256 : Int32) = z := ⟨_, rfl⟩
      have iv95 : v95.toInt = v87.toInt % 256 := by have q := (c_irem v87 (256 : Int32) 256 (by decide)).1 (by omega); rw [hv95] at q; exact q
      refine Gl.irem Y84 (by decide) hv95 at_95 rfl ?_
      refine Gl.istore Y84 (L' := #[.val (.int a1), .val (.int a2), .val (.int a3), .val (.int a4), .val (.int pp), .val (.int qq), .val (.ref b1), .val (.int (3 : Int32)), .val (.int (4 : Int32)), .val (.int v95)]) rfl at_96 rfl ?_
      refine Gl.aload Y84 rfl rfl at_98 rfl ?_
      refine Gl.iload Y84 rfl at_100 rfl ?_
      refine Gl.iload Y84 rfl at_102 rfl ?_
      refine Gl.callS Y84 (tw_6 hw) (tw_7 hw) (tw_8 hw) (tw_9 hw) (by decide) (rm73 l Z a0 hw [] b1 ck1 v6 v11 v16 v21 h22 n0 Y84.sz A22) (argsL := [(.ref b1), (.int (3 : Int32)), (.int (4 : Int32))]) (rest := []) rfl rfl (lenOf pd_1 rfl) rfl (by decide) (Nat.le_of_ble_eq_true rfl) (by decide) (by decide) at_104 rfl (fun v104 T104 h104 Y104 q104 => ?_)
      obtain ⟨r104, rfl, p104, rfl⟩ := q104
      show Gl p e below _ (T104.setTop (mkF m 107 #[.val (.int a1), .val (.int a2), .val (.int a3), .val (.int a4), .val (.int pp), .val (.int qq), .val (.ref b1), .val (.int (3 : Int32)), .val (.int (4 : Int32)), .val (.int v95)] [(.int r104)]))
      refine Gl.iload Y104 rfl at_107 rfl ?_
      refine Gl.icmpne Y104 at_109 (by decide) rfl rfl (fun c109 => ?_) (fun c109 => ?_)
      · exact absurd (Int32.toInt_inj.mp (by rw [p104, own_b hv21, iv95, iv87, iv77, iv67, p55, p64, p74, p84]; first | done | rfl | (simp only [Int.zero_add, Int.add_zero]))) c109
      have j109 : r104.toInt = v95.toInt := congrArg Int32.toInt c109
      refine Gl.iconst Y104 (v := (1 : Int32)) (by decide) at_112 rfl ?_
      refine Gl.goto Y104 at_113 (by decide) rfl ?_
      exact Gl.retZ Y104 (by decide) (by decide) (x' := (1 : Int32)) (by decide) at_117 rfl
  · refine Gl.iload Y22 rfl at_34 rfl ?_
    refine Gl.iload Y22 rfl at_36 rfl ?_
    refine Gl.ldcI Y22 (tw_1 hw) at_38 rfl ?_
    obtain ⟨v40, hv40⟩ : ∃ z : Int32, qq &&& (2147483647 : Int32) = z := ⟨_, rfl⟩
    have iv40 : v40.toInt = qq.toInt % 2147483648 := by have q := c_mask qq (2147483647 : Int32) 31 (by decide) (by decide); rw [hv40] at q; exact q
    refine Gl.iand Y22 hv40 at_40 rfl ?_
    refine Gl.iconst Y22 (v := (5 : Int32)) (by decide) at_41 rfl ?_
    refine Gl.iload Y22 rfl at_42 rfl ?_
    refine Gl.isub Y22 (r := (1 : Int32)) (by decide) at_44 rfl ?_
    obtain ⟨v45, hv45⟩ : ∃ z : Int32, v40 % (1 : Int32) = z := ⟨_, rfl⟩
    have iv45 : v45.toInt = v40.toInt % 1 := by have q := (c_irem v40 (1 : Int32) 1 (by decide)).1 (by omega); rw [hv45] at q; exact q
    refine Gl.irem Y22 (by decide) hv45 at_45 rfl ?_
    obtain ⟨v46, hv46⟩ : ∃ z : Int32, (4 : Int32) + v45 = z := ⟨_, rfl⟩
    have iv46 : v46.toInt = 4 + v45.toInt := by
      have q : (v46.toInt - (4 + v45.toInt)) % 4294967296 = 0 := by have q := c_iadd (4 : Int32) v45; rw [hv46] at q; exact q
      have r := rng32 v46
      omega
    refine Gl.iadd Y22 hv46 at_46 rfl ?_
    refine Gl.istore Y22 (L' := #[.val (.int a1), .val (.int a2), .val (.int a3), .val (.int a4), .val (.int pp), .val (.int qq), .val (.ref b1), .val (.int (4 : Int32)), .val (.int v46), .unset]) rfl at_47 rfl ?_
    have bs_v46 : 4 ≤ v46.toInt ∧ v46.toInt ≤ 4 := by omega
    have cs_v46 : v46 = (4 : Int32) := own_r4 bs_v46.1 bs_v46.2
    rcases cs_v46 with rfl
    · refine Gl.iloadN Y22 rfl at_49 rfl ?_
      refine Gl.iconst Y22 (v := (0 : Int32)) (by decide) at_50 rfl ?_
      refine Gl.iload Y22 rfl at_51 rfl ?_
      refine Gl.iload Y22 rfl at_53 rfl ?_
      refine Gl.callS Y22 (tw_2 hw) (tw_3 hw) (tw_4 hw) (tw_5 hw) (by decide) (rm14 l Z a0 hw [] a1 h22 n0 Y22.sz) (argsL := [(.int a1), (.int (0 : Int32)), (.int (4 : Int32)), (.int (4 : Int32))]) (rest := []) rfl rfl (lenOf pd_0 rfl) rfl (by decide) (Nat.le_of_ble_eq_true rfl) (by decide) (by decide) at_55 rfl (fun v55 T55 h55 Y55 q55 => ?_)
      obtain ⟨r55, rfl, p55, rfl⟩ := q55
      have kc61 : (0 : Int32).toInt = 0 := by decide
      have kc62 : (4 : Int32).toInt = 4 := by decide
      show Gl p e below _ (T55.setTop (mkF m 58 #[.val (.int a1), .val (.int a2), .val (.int a3), .val (.int a4), .val (.int pp), .val (.int qq), .val (.ref b1), .val (.int (4 : Int32)), .val (.int (4 : Int32)), .unset] [(.int r55)]))
      refine Gl.iloadN Y55 rfl at_58 rfl ?_
      refine Gl.iconst Y55 (v := (1 : Int32)) (by decide) at_59 rfl ?_
      refine Gl.iload Y55 rfl at_60 rfl ?_
      refine Gl.iload Y55 rfl at_62 rfl ?_
      refine Gl.callS Y55 (tw_2 hw) (tw_3 hw) (tw_4 hw) (tw_5 hw) (by decide) (rm29 l Z a0 hw [] a2 h22 n0 Y55.sz) (argsL := [(.int a2), (.int (1 : Int32)), (.int (4 : Int32)), (.int (4 : Int32))]) (rest := [(.int r55)]) rfl rfl (lenOf pd_0 rfl) rfl (by decide) (Nat.le_of_ble_eq_true rfl) (by decide) (by decide) at_64 rfl (fun v64 T64 h64 Y64 q64 => ?_)
      obtain ⟨r64, rfl, p64, rfl⟩ := q64
      have kc63 : (1 : Int32).toInt = 1 := by decide
      show Gl p e below _ (T64.setTop (mkF m 67 #[.val (.int a1), .val (.int a2), .val (.int a3), .val (.int a4), .val (.int pp), .val (.int qq), .val (.ref b1), .val (.int (4 : Int32)), .val (.int (4 : Int32)), .unset] [(.int r64), (.int r55)]))
      obtain ⟨v67, hv67⟩ : ∃ z : Int32, r55 + r64 = z := ⟨_, rfl⟩
      have iv67 : v67.toInt = r55.toInt + r64.toInt := by
        have q : (v67.toInt - (r55.toInt + r64.toInt)) % 4294967296 = 0 := by have q := c_iadd r55 r64; rw [hv67] at q; exact q
        have r := rng32 v67
        omega
      refine Gl.iadd Y64 hv67 at_67 rfl ?_
      refine Gl.iloadN Y64 rfl at_68 rfl ?_
      refine Gl.iconst Y64 (v := (2 : Int32)) (by decide) at_69 rfl ?_
      refine Gl.iload Y64 rfl at_70 rfl ?_
      refine Gl.iload Y64 rfl at_72 rfl ?_
      refine Gl.callS Y64 (tw_2 hw) (tw_3 hw) (tw_4 hw) (tw_5 hw) (by decide) (rm44 l Z a0 hw [] a3 h22 n0 Y64.sz) (argsL := [(.int a3), (.int (2 : Int32)), (.int (4 : Int32)), (.int (4 : Int32))]) (rest := [(.int v67)]) rfl rfl (lenOf pd_0 rfl) rfl (by decide) (Nat.le_of_ble_eq_true rfl) (by decide) (by decide) at_74 rfl (fun v74 T74 h74 Y74 q74 => ?_)
      obtain ⟨r74, rfl, p74, rfl⟩ := q74
      have kc64 : (2 : Int32).toInt = 2 := by decide
      show Gl p e below _ (T74.setTop (mkF m 77 #[.val (.int a1), .val (.int a2), .val (.int a3), .val (.int a4), .val (.int pp), .val (.int qq), .val (.ref b1), .val (.int (4 : Int32)), .val (.int (4 : Int32)), .unset] [(.int r74), (.int v67)]))
      obtain ⟨v77, hv77⟩ : ∃ z : Int32, v67 + r74 = z := ⟨_, rfl⟩
      have iv77 : v77.toInt = v67.toInt + r74.toInt := by
        have q : (v77.toInt - (v67.toInt + r74.toInt)) % 4294967296 = 0 := by have q := c_iadd v67 r74; rw [hv77] at q; exact q
        have r := rng32 v77
        omega
      refine Gl.iadd Y74 hv77 at_77 rfl ?_
      refine Gl.iloadN Y74 rfl at_78 rfl ?_
      refine Gl.iconst Y74 (v := (3 : Int32)) (by decide) at_79 rfl ?_
      refine Gl.iload Y74 rfl at_80 rfl ?_
      refine Gl.iload Y74 rfl at_82 rfl ?_
      refine Gl.callS Y74 (tw_2 hw) (tw_3 hw) (tw_4 hw) (tw_5 hw) (by decide) (rm59 l Z a0 hw [] a4 h22 n0 Y74.sz) (argsL := [(.int a4), (.int (3 : Int32)), (.int (4 : Int32)), (.int (4 : Int32))]) (rest := [(.int v77)]) rfl rfl (lenOf pd_0 rfl) rfl (by decide) (Nat.le_of_ble_eq_true rfl) (by decide) (by decide) at_84 rfl (fun v84 T84 h84 Y84 q84 => ?_)
      obtain ⟨r84, rfl, p84, rfl⟩ := q84
      have kc65 : (3 : Int32).toInt = 3 := by decide
      show Gl p e below _ (T84.setTop (mkF m 87 #[.val (.int a1), .val (.int a2), .val (.int a3), .val (.int a4), .val (.int pp), .val (.int qq), .val (.ref b1), .val (.int (4 : Int32)), .val (.int (4 : Int32)), .unset] [(.int r84), (.int v77)]))
      obtain ⟨v87, hv87⟩ : ∃ z : Int32, v77 + r84 = z := ⟨_, rfl⟩
      have iv87 : v87.toInt = v77.toInt + r84.toInt := by
        have q : (v87.toInt - (v77.toInt + r84.toInt)) % 4294967296 = 0 := by have q := c_iadd v77 r84; rw [hv87] at q; exact q
        have r := rng32 v87
        omega
      refine Gl.iadd Y84 hv87 at_87 rfl ?_
      refine Gl.istore Y84 (L' := #[.val (.int a1), .val (.int a2), .val (.int a3), .val (.int a4), .val (.int pp), .val (.int qq), .val (.ref b1), .val (.int (4 : Int32)), .val (.int (4 : Int32)), .val (.int v87)]) rfl at_88 rfl ?_
      refine Gl.iload Y84 rfl at_90 rfl ?_
      refine Gl.sipush Y84 (v := (256 : Int32)) (by decide) at_92 rfl ?_
      obtain ⟨v95, hv95⟩ : ∃ z : Int32, v87 % (256 : Int32) = z := ⟨_, rfl⟩
      have iv95 : v95.toInt = v87.toInt % 256 := by have q := (c_irem v87 (256 : Int32) 256 (by decide)).1 (by omega); rw [hv95] at q; exact q
      refine Gl.irem Y84 (by decide) hv95 at_95 rfl ?_
      refine Gl.istore Y84 (L' := #[.val (.int a1), .val (.int a2), .val (.int a3), .val (.int a4), .val (.int pp), .val (.int qq), .val (.ref b1), .val (.int (4 : Int32)), .val (.int (4 : Int32)), .val (.int v95)]) rfl at_96 rfl ?_
      refine Gl.aload Y84 rfl rfl at_98 rfl ?_
      refine Gl.iload Y84 rfl at_100 rfl ?_
      refine Gl.iload Y84 rfl at_102 rfl ?_
      refine Gl.callS Y84 (tw_6 hw) (tw_7 hw) (tw_8 hw) (tw_9 hw) (by decide) (rm74 l Z a0 hw [] b1 ck1 v6 v11 v16 v21 h22 n0 Y84.sz A22) (argsL := [(.ref b1), (.int (4 : Int32)), (.int (4 : Int32))]) (rest := []) rfl rfl (lenOf pd_1 rfl) rfl (by decide) (Nat.le_of_ble_eq_true rfl) (by decide) (by decide) at_104 rfl (fun v104 T104 h104 Y104 q104 => ?_)
      obtain ⟨r104, rfl, p104, rfl⟩ := q104
      show Gl p e below _ (T104.setTop (mkF m 107 #[.val (.int a1), .val (.int a2), .val (.int a3), .val (.int a4), .val (.int pp), .val (.int qq), .val (.ref b1), .val (.int (4 : Int32)), .val (.int (4 : Int32)), .val (.int v95)] [(.int r104)]))
      refine Gl.iload Y104 rfl at_107 rfl ?_
      refine Gl.icmpne Y104 at_109 (by decide) rfl rfl (fun c109 => ?_) (fun c109 => ?_)
      · exact absurd (Int32.toInt_inj.mp (by rw [p104, iv95, iv87, iv77, iv67, p55, p64, p74, p84]; first | done | rfl | (simp only [Int.zero_add, Int.add_zero]))) c109
      have j109 : r104.toInt = v95.toInt := congrArg Int32.toInt c109
      refine Gl.iconst Y104 (v := (1 : Int32)) (by decide) at_112 rfl ?_
      refine Gl.goto Y104 at_113 (by decide) rfl ?_
      exact Gl.retZ Y104 (by decide) (by decide) (x' := (1 : Int32)) (by decide) at_117 rfl
set_option maxRecDepth 65536 in
set_option maxHeartbeats 40000000 in
theorem comes_1 {Post : Tables → Env → Array Value → State → Outcome → State → Prop} (hpost : ∀ tb e args s v u, (limb_1_1.after args s (.returned v) u = true ∧ limb_1_2.after args s (.returned v) u = true ∧ True) → FrameEnd s (.returned v) u (Jvm.fieldLocs frame_1_writes args s ++ Jvm.arrayLocs frame_1_arrays args s ++ Jvm.staticLocs frame_1_statics s) 16 128 → Post tb e args s (.returned v) u) :
    ArmFor flags0 classFile x code maxLocals ret World_1 tables_1 room_1 Calls_1 rest_1 Pre_1 Post := by
  intro l hfl _ _ p e ha hc hk s m args below hf hA hF happ hP
  obtain ⟨hcalls, hrest, hpre⟩ := hP
  obtain ⟨-, -, -, hnamed, -, -, -, hat⟩ := (Spec.applies_iff hf).mp happ
  obtain ⟨hg, hn⟩ := and_e (Cond.before_iff.mp (show (Jvm.Cond.and given_1 narrow_1).before args s = true from hpre))
  obtain ⟨a0, g0⟩ := and_e hg
  obtain ⟨a1, g1⟩ := and_e g0
  obtain ⟨a2, g2⟩ := and_e g1
  obtain ⟨a3, g3⟩ := and_e g2
  obtain ⟨a4, g4⟩ := and_e g3
  obtain ⟨a5, g5⟩ := and_e g4
  obtain ⟨w0, w1, w2, w3, w4, w5, rfl⟩ : ∃ w0 w1 w2 w3 w4 w5 : Value, args = #[w0, w1, w2, w3, w4, w5] := by
    have hs : args.size = 6 := by simpa [Cond.value, given_1] using a0
    obtain ⟨L⟩ := args
    match L, hs with
    | [w0, w1, w2, w3, w4, w5], _ => exact ⟨w0, w1, w2, w3, w4, w5, rfl⟩
  have hw := fun d (hd : d ∈ tables_1) => atoms_spec (ws := Jvm.Cond.code x code maxLocals ret :: tables_1) hat d (List.mem_cons_of_mem _ hd)
  have hfit : Fit s := fun {y c} hc i hi => by
    obtain ⟨ha, rfl⟩ := Array.getElem?_eq_some_iff.mp hc
    have q := List.all_eq_true.mp ((Array.all_eq_true_iff_forall_mem.mp hF) _ (Array.getElem_mem ha)) i (List.mem_range.mpr hi)
    simpa [Array.getElem?_eq_getElem hi] using q
  obtain ⟨i0, e0⟩ := is_v a1
  obtain rfl : w0 = (.int i0) := Option.some.inj e0
  obtain ⟨i1, e1⟩ := is_v a2
  obtain rfl : w1 = (.int i1) := Option.some.inj e1
  obtain ⟨i2, e2⟩ := is_v a3
  obtain rfl : w2 = (.int i2) := Option.some.inj e2
  obtain ⟨i3, e3⟩ := is_v a4
  obtain rfl : w3 = (.int i3) := Option.some.inj e3
  obtain ⟨i4, e4⟩ := is_v a5
  obtain rfl : w4 = (.int i4) := Option.some.inj e4
  obtain ⟨i5, e5⟩ := is_v g5
  obtain rfl : w5 = (.int i5) := Option.some.inj e5
  obtain ⟨n, o, h1, h2, h3, v, L, rfl, ⟨hv, N⟩, hq⟩ := rmL l s _ hw tables_1 i0 i1 i2 i3 i4 i5 s.heap s.heap.size (Nat.le_refl _) p e ha hc hk s m _ below hf ((Spec.applies_iff_loose hf).mp happ).1 ⟨rfl, State.Warmed39.refl s, rfl⟩ trivial
  obtain rfl : v = some (.int 1) := hv
  refine ⟨n, _, h1, h2, h3, hpost _ _ _ _ _ _ ⟨Cond.after_iff.mpr rfl, Cond.after_iff.mpr (eq_i res_at (Term.int_eval (1)) rfl), trivial⟩ ⟨hq.1, hq.2.1, (hq.2.2.sift fun y hy => Or.inr (N y hy)).mono (by decide) (by decide)⟩⟩
theorem main_1_1 : Claimed_1_1 := comes_1 fun _ _ _ _ _ _ h hF => ⟨h.1, hF⟩
theorem main_1_2 : Claimed_1_2 := comes_1 fun _ _ _ _ _ _ h hF => ⟨h.2.1, hF⟩
end Jvm.Pilot.@@N@@
namespace Jvm.Pilot.@@N@@
open Jvm Jvm.ClassFile Sem Op Lib Jvm.Free Jvm.Stand Jvm.Pilot.@@N@@.Jvm.D
/-! MADE BY PROGRAM (witnessworld.py) out of the Statement's table words and the real class files: 9 classes; the members and pool entries that the words name. The judged class is class 1, her method 1. -/
namespace start1
open Jvm.ClassFile
def u (s : String) : CpInfo := .utf8 (stringToUtf16 s)
/-- a pool by its gaps: so many unusable entries, then the entry; so many at the end -/
def gap : Nat → List CpInfo → List CpInfo
  | 0, r => r
  | n + 1, r => .unusable :: gap n r
def poolList (es : List (Nat × CpInfo)) (last : Nat) : List CpInfo := es.foldr (fun e r => gap e.1 (e.2 :: r)) (gap last [])
def pool (es : List (Nat × CpInfo)) (last : Nat) : Array CpInfo := ⟨poolList es last⟩
def fileOf (pool : Array CpInfo) (this : Nat) (attrs : Array Attribute := #[]) (ms : Array MethodInfo := #[]) (fl : Nat := 33) (sup : Nat := 0) (ifs : Array Nat := #[]) (fds : Array FieldInfo := #[]) : ClassFile where
  minorVersion := 0
  majorVersion := 65
  constantPool := pool
  accessFlags := fl
  thisClass := this
  superClass := sup
  interfaces := ifs
  fields := fds
  methods := ms
  attributes := attrs
def plain (name : String) (sup : Option ClassId) : Class where
  name := name
  kind := .ordinary
  loader := none
  accessFlags := 33
  super := sup
  interfaces := #[]
  cf := none
  fields := #[]
  methods := #[]
  instanceTypes := #[]
  staticTypes := #[]
  resolved := #[]
  callSites := []
  init := .initialized
  statics := none
  mirror := none

def pool0 : Array CpInfo := pool [(5, u "<init>"), (0, u "()V"), (1, .class_ 10), (1, u "java/lang/Object")] 113

def k0m0 : Method := { name := "<init>", desc := "()V", sig := { parameters := [], returnType := none }, accessFlags := 1, code := none }
/-- java/lang/Object -/
def k0 : Class := { plain "java/lang/Object" none with
  accessFlags := 33
  interfaces := #[]
  cf := some (fileOf pool0 8 #[] #[{ accessFlags := 1, nameIndex := 5, descriptorIndex := 6, attributes := #[] }] 33 0 #[] #[])
  fields := #[]
  methods := #[k0m0]
  instanceTypes := #[]
  staticTypes := #[]
  resolved := Array.replicate 124 none
  statics := none }

def pool1 : Array CpInfo := pool [(2, .class_ 4), (1, u "java/lang/Object"), (0, u "<init>"), (0, u "()V"), (0, .integer 2147483647), (0, .methodref 9 10), (0, .class_ 11), (0, .nameAndType 12 13), (0, u "com/example/benchwire/benchwire/astm/LinkChecksumPinLaw"), (0, u "term"), (0, u "(IIII)I"), (0, .methodref 15 16), (0, .class_ 17), (0, .nameAndType 18 19), (0, u "com/example/benchwire/benchwire/astm/Link"), (0, u "checksum"), (0, u "([BII)I"), (2, u "law"), (0, u "(IIIIII)Z")] 5

def k1m0 : Method := { name := "<init>", desc := "()V", sig := { parameters := [], returnType := none }, accessFlags := 1, code := none }
def k1c1 : Code := { maxStack := 5, maxLocals := 10, code := code, exceptionTable := #[], attributes := #[] }
def k1m1 : Method := { name := "law", desc := "(IIIIII)Z", sig := { parameters := [.int, .int, .int, .int, .int, .int], returnType := some .boolean }, accessFlags := 9, code := some k1c1 }
def k1c2 : Code := { maxStack := 2, maxLocals := 4, code := method_3_code, exceptionTable := #[], attributes := #[] }
def k1m2 : Method := { name := "term", desc := "(IIII)I", sig := { parameters := [.int, .int, .int, .int], returnType := some .int }, accessFlags := 10, code := some k1c2 }
/-- com/example/benchwire/benchwire/astm/LinkChecksumPinLaw -/
def k1 : Class := { plain "com/example/benchwire/benchwire/astm/LinkChecksumPinLaw" (some 0) with
  accessFlags := 49
  interfaces := #[]
  cf := some (fileOf pool1 9 #[] #[{ accessFlags := 1, nameIndex := 5, descriptorIndex := 6, attributes := #[] }, { accessFlags := 9, nameIndex := 22, descriptorIndex := 23, attributes := #[] }, { accessFlags := 10, nameIndex := 12, descriptorIndex := 13, attributes := #[] }] 49 2 #[] #[])
  fields := #[]
  methods := #[k1m0, k1m1, k1m2]
  instanceTypes := #[]
  staticTypes := #[]
  resolved := Array.replicate 29 none
  statics := none }

def pool2 : Array CpInfo := pool [(2, .class_ 4), (1, u "java/lang/Object"), (0, u "<init>"), (0, u "()V"), (27, .class_ 35), (0, u "com/example/benchwire/benchwire/astm/Link"), (26, u "checksum"), (0, u "([BII)I"), (40, u "STX"), (0, u "I"), (2, u "ETX"), (1, u "EOT"), (1, u "ENQ"), (1, u "ACK"), (1, u "LF"), (1, u "CR"), (1, u "XON"), (1, u "XOFF"), (1, u "NAK"), (1, u "ETB"), (1, u "MAX_TEXT"), (10, .class_ 140), (0, u "com/example/benchwire/benchwire/astm/Link$FlowControl")] 2

def k2m0 : Method := { name := "<init>", desc := "()V", sig := { parameters := [], returnType := none }, accessFlags := 2, code := none }
def k2c1 : Code := { maxStack := 3, maxLocals := 5, code := prog_1_method_2_code, exceptionTable := #[], attributes := #[] }
def k2m1 : Method := { name := "checksum", desc := "([BII)I", sig := { parameters := [(.array .byte), .int, .int], returnType := some .int }, accessFlags := 8, code := some k2c1 }
/-- com/example/benchwire/benchwire/astm/Link -/
def k2 : Class := { plain "com/example/benchwire/benchwire/astm/Link" (some 0) with
  accessFlags := 49
  interfaces := #[]
  cf := some (fileOf pool2 34 #[.nestMembers #[139]] #[{ accessFlags := 2, nameIndex := 5, descriptorIndex := 6, attributes := #[] }, { accessFlags := 8, nameIndex := 62, descriptorIndex := 63, attributes := #[] }] 49 2 #[] #[{ accessFlags := 24, nameIndex := 104, descriptorIndex := 105, attributes := #[] }, { accessFlags := 24, nameIndex := 108, descriptorIndex := 105, attributes := #[] }, { accessFlags := 24, nameIndex := 110, descriptorIndex := 105, attributes := #[] }, { accessFlags := 24, nameIndex := 112, descriptorIndex := 105, attributes := #[] }, { accessFlags := 24, nameIndex := 114, descriptorIndex := 105, attributes := #[] }, { accessFlags := 24, nameIndex := 116, descriptorIndex := 105, attributes := #[] }, { accessFlags := 24, nameIndex := 118, descriptorIndex := 105, attributes := #[] }, { accessFlags := 24, nameIndex := 120, descriptorIndex := 105, attributes := #[] }, { accessFlags := 24, nameIndex := 122, descriptorIndex := 105, attributes := #[] }, { accessFlags := 24, nameIndex := 124, descriptorIndex := 105, attributes := #[] }, { accessFlags := 24, nameIndex := 126, descriptorIndex := 105, attributes := #[] }, { accessFlags := 24, nameIndex := 128, descriptorIndex := 105, attributes := #[] }])
  fields := #[{ name := "STX", type := .int, accessFlags := 24, slot := 0, constantValue := 0 }, { name := "ETX", type := .int, accessFlags := 24, slot := 1, constantValue := 0 }, { name := "EOT", type := .int, accessFlags := 24, slot := 2, constantValue := 0 }, { name := "ENQ", type := .int, accessFlags := 24, slot := 3, constantValue := 0 }, { name := "ACK", type := .int, accessFlags := 24, slot := 4, constantValue := 0 }, { name := "LF", type := .int, accessFlags := 24, slot := 5, constantValue := 0 }, { name := "CR", type := .int, accessFlags := 24, slot := 6, constantValue := 0 }, { name := "XON", type := .int, accessFlags := 24, slot := 7, constantValue := 0 }, { name := "XOFF", type := .int, accessFlags := 24, slot := 8, constantValue := 0 }, { name := "NAK", type := .int, accessFlags := 24, slot := 9, constantValue := 0 }, { name := "ETB", type := .int, accessFlags := 24, slot := 10, constantValue := 0 }, { name := "MAX_TEXT", type := .int, accessFlags := 24, slot := 11, constantValue := 0 }]
  methods := #[k2m0, k2m1]
  instanceTypes := #[]
  staticTypes := #[.int, .int, .int, .int, .int, .int, .int, .int, .int, .int, .int, .int]
  resolved := Array.replicate 143 none
  statics := none }

def pool3 : Array CpInfo := pool [(1, u "java/lang/Cloneable"), (0, .class_ 1), (0, u "java/lang/Object"), (0, .class_ 3)] 3

/-- java/lang/Cloneable -/
def k3 : Class := { plain "java/lang/Cloneable" (some 0) with
  accessFlags := 1537
  interfaces := #[]
  cf := some (fileOf pool3 2 #[] #[] 1537 4 #[] #[])
  fields := #[]
  methods := #[]
  instanceTypes := #[]
  staticTypes := #[]
  resolved := Array.replicate 8 none
  statics := none }

def pool4 : Array CpInfo := pool [(1, u "java/io/Serializable"), (0, .class_ 1), (0, u "java/lang/Object"), (0, .class_ 3)] 3

/-- java/io/Serializable -/
def k4 : Class := { plain "java/io/Serializable" (some 0) with
  accessFlags := 1537
  interfaces := #[]
  cf := some (fileOf pool4 2 #[] #[] 1537 4 #[] #[])
  fields := #[]
  methods := #[]
  instanceTypes := #[]
  staticTypes := #[]
  resolved := Array.replicate 8 none
  statics := none }

/-- the primitive byte -/
def k5 : Class := { plain "byte" none with kind := .primitive 'B', accessFlags := 0x411 }
/-- [B -/
def k6 : Class := { plain "[B" (some 0) with kind := .array 5 .byte, interfaces := #[3, 4], accessFlags := 1041 }

/-- the primitive int -/
def k7 : Class := { plain "int" none with kind := .primitive 'I', accessFlags := 0x411 }
/-- [I -/
def k8 : Class := { plain "[I" (some 0) with kind := .array 7 .int, interfaces := #[3, 4], accessFlags := 1041 }

def heap : Heap := #[]
def classes : Array Class := #[k0, k1, k2, k3, k4, k5, k6, k7, k8]
def interned : List (Array UInt16 × Addr) := []
def slotsUsed : Nat := 0
def theMethod : MethodId := ⟨1, 1⟩
def args0 : Array Value := #[.int 7, .int 3, .int 300, .int 3, .int 3, .int 4]
def aboutOver (below : List Frame) : State where
  vm := { classes := classes, interned := interned.toArray }
  heap := heap
  slotsUsed := slotsUsed
  threads := #[{ frames := .invoking theMethod args0 :: below }]
def below0 : List Frame := [.native { method := ⟨0, 0⟩, args := #[] }]
def about1 : State := aboutOver below0
def p0 : Program := .bare "" "" ""
def e0 : Env := launch0.env 0 0 0
theorem w_frames : about1.frames = Frame.invoking theMethod args0 :: below0 := rfl
set_option maxRecDepth 65536 in
theorem w_args : argsFit about1.vm theMethod args0 = true := by decide +kernel
set_option maxRecDepth 65536 in
theorem w_heap : heapFits about1 = true := by decide +kernel
set_option maxRecDepth 65536 in
theorem w_runnable : about1.curStatus? = some .runnable := by decide +kernel
set_option maxRecDepth 65536 in
theorem w_alone : about1.alone = true := by decide +kernel
set_option maxRecDepth 65536 in
theorem w_named : about1.methodNamed? x = some theMethod := by decide +kernel
set_option maxRecDepth 65536 in
theorem w_hears : about1.hears theMethod below0 = true := by decide +kernel
set_option maxRecDepth 65536 in
theorem w_ripe : about1.ripe theMethod args0 below0 = true := by decide +kernel
theorem w_running : about1.status = .running := rfl
set_option maxRecDepth 65536 in
theorem w_room : about1.hasRoom e0.platform room_1 = true :=
  launch0.hasRoom_least _ room_1 (by decide +kernel) (by decide +kernel) (by decide +kernel) (by decide +kernel) (by decide +kernel) (by decide +kernel)
theorem allAtoms_all (ts : List Jvm.Cond) (a : Array Jvm.Value) (st : Jvm.State) : (allAtoms ts).before a st = ts.all (fun c => c.before a st) := by
  induction ts with
  | nil => rfl
  | cons c t ih =>
    show (Jvm.Cond.and c (allAtoms t)).before a st = _
    rw [Jvm.Cond.before_and, ih, List.all_cons]
def words1 : List Jvm.Cond := Jvm.Cond.code x code maxLocals ret :: tables_1
/-- a 'code' word, met by the world's own term for the bytes: nothing is compared byte by byte -/
theorem code_word {y : MethodName} {bytes : ByteArray} {mx : Nat} {rt : Option FieldType} {a : Array Value} {s : State} {m : MethodId} {meth : Method} {c : Code} (h1 : s.methodNamed? y = some m) (h2 : s.vm.method? m = some meth) (h3 : meth.code = some c) (h4 : c.code = bytes)
    (h5 : (c.maxLocals == mx && c.exceptionTable.isEmpty && decide (c.maxStack ≤ mostOperands) && decide (meth.sig.returnType = rt) && !meth.locks && decide (parseMethodDescriptor y.desc = some meth.sig)) = true) : (Jvm.Cond.code y bytes mx rt).before a s = true := by
  simp only [Bool.and_eq_true, beq_iff_eq, Bool.not_eq_true', decide_eq_true_eq] at h5
  obtain ⟨⟨⟨⟨⟨g1, g2⟩, g3⟩, g4⟩, g5⟩, g6⟩ := h5
  simp [Cond.before, Cond.holds, Cond.value, h1, h2, h3, h4, g1, g2, g3, g4, g5, g6]
def isCode : Jvm.Cond → Bool
  | .code _ _ _ _ => true
  | _ => false
theorem all_split {L : List Jvm.Cond} {P : Jvm.Cond → Bool} (h1 : L.all (fun c => isCode c || P c) = true) (h2 : ∀ c ∈ L.filter isCode, P c = true) : L.all P = true := by
  refine List.all_eq_true.mpr fun c hc => ?_
  have h := List.all_eq_true.mp h1 c hc
  rcases Bool.eq_false_or_eq_true (isCode c) with hi | hi
  · exact h2 c (List.mem_filter.mpr ⟨hc, hi⟩)
  · simpa [hi] using h
set_option maxRecDepth 65536 in
theorem w_c0 : (Jvm.Cond.code x code maxLocals ret).before args0 about1 = true := code_word (m := ⟨1, 1⟩) (meth := k1m1) (c := k1c1) (by decide +kernel) rfl rfl rfl (by decide +kernel)
set_option maxRecDepth 65536 in
theorem w_c1 : (Jvm.Cond.code ({ cls := "com/example/benchwire/benchwire/astm/LinkChecksumPinLaw", name := "term", desc := "(IIII)I" } : Jvm.MethodName) method_3_code (4 : Nat) (Option.some Jvm.ClassFile.FieldType.int)).before args0 about1 = true := code_word (m := ⟨1, 2⟩) (meth := k1m2) (c := k1c2) (by decide +kernel) rfl rfl rfl (by decide +kernel)
set_option maxRecDepth 65536 in
theorem w_c2 : (Jvm.Cond.code ({ cls := "com/example/benchwire/benchwire/astm/Link", name := "checksum", desc := "([BII)I" } : Jvm.MethodName) prog_1_method_2_code (5 : Nat) (Option.some Jvm.ClassFile.FieldType.int)).before args0 about1 = true := code_word (m := ⟨2, 1⟩) (meth := k2m1) (c := k2c1) (by decide +kernel) rfl rfl rfl (by decide +kernel)
def codes1 : List Jvm.Cond := [Jvm.Cond.code x code maxLocals ret, Jvm.Cond.code ({ cls := "com/example/benchwire/benchwire/astm/LinkChecksumPinLaw", name := "term", desc := "(IIII)I" } : Jvm.MethodName) method_3_code (4 : Nat) (Option.some Jvm.ClassFile.FieldType.int), Jvm.Cond.code ({ cls := "com/example/benchwire/benchwire/astm/Link", name := "checksum", desc := "([BII)I" } : Jvm.MethodName) prog_1_method_2_code (5 : Nat) (Option.some Jvm.ClassFile.FieldType.int)]
set_option maxRecDepth 65536 in
theorem codes_eq : words1.filter isCode = codes1 := rfl
theorem w_codes : ∀ c ∈ words1.filter isCode, c.before args0 about1 = true := by
  rw [codes_eq]
  intro c hc
  simp only [codes1, List.mem_cons, List.not_mem_nil, or_false] at hc
  rcases hc with rfl | rfl | rfl
  · exact w_c0
  · exact w_c1
  · exact w_c2
set_option maxRecDepth 65536 in
theorem w_t1 : words1.all (fun c => isCode c || c.before args0 about1) = true := by decide +kernel
theorem w_tables : (allAtoms (Jvm.Cond.code x code maxLocals ret :: tables_1)).before args0 about1 = true := by
  rw [allAtoms_all]
  show words1.all (fun c => c.before args0 about1) = true
  refine all_split ?_ w_codes
  rw [w_t1]
set_option maxRecDepth 65536 in
theorem w_case : (Jvm.Cond.and given_1 narrow_1).before args0 about1 = true := by decide +kernel
theorem w_applies : (headSpec (Jvm.Cond.code x code maxLocals ret :: tables_1) room_1).applies x e0.platform about1 = true :=
  (Spec.applies_iff w_frames).mpr ⟨w_running, w_runnable, w_alone, w_named, w_hears, w_ripe, w_room, w_tables⟩
theorem atStart : AtStart classFile x code maxLocals ret World_1 tables_1 room_1 Calls_1 rest_1 Pre_1 launch0 p0 e0 about1 theMethod args0 below0 :=
  ⟨lists_1, trivial, launch0.admits_env _ _ _, launch0.least_env, fairChoices_fair.cas, fairChoices_fair.clock, w_frames, w_args, w_heap, w_applies, trivial, trivial, w_case⟩
end start1
theorem witness_1 : WitnessClaimed_1 := ⟨start1.p0, start1.e0, start1.about1, start1.theMethod, start1.args0, start1.below0, start1.atStart⟩
end Jvm.Pilot.@@N@@
