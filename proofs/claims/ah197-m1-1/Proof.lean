import JvmDerived
import JvmDerived.Pilot.@@N@@Statement
import JvmDerived.Pilot.@@N@@Code
set_option linter.unusedVariables false
set_option linter.unusedSimpArgs false
namespace Jvm.OwnWk
open Sem ClassFile Op Lib Jvm.Stand Jvm.Free Jvm.LawKit Jvm.RoadKit
def Sd (Z : State) (own : String) (bs : ByteArray) (mx : Nat) (ret : Option FieldType) (n0 : Nat) (p : Program) (l : Launch) (e : Env) (R : Room) (s : State) (m : MethodId) (args : Array Value) (below : List Frame) (meth : Method) (c : Code) (T : State) (h : Heap) (k n : Nat) : Prop :=
  ∃ locs, Stand p l e R s m args below meth c T locs k n ∧ T.heap = h ∧ Fr n0 locs ∧ n0 ≤ s.heap.size ∧ p.tables.exec = Jvm.exec ∧ Z.Warmed39 s.vm ∧ s.vm.findClass own = some m.cls ∧ c.code = bs ∧ c.maxLocals = mx ∧ meth.sig.returnType = ret ∧ meth.locks = false
def Gl (p : Program) (e : Env) (below : List Frame) (P : Outcome → State → Prop) (A : State) : Prop := ∃ t o, Steps p.tables e below A t ∧ t.status = .running ∧ Ended t below o ∧ P o t
def Pst (s : State) (n0 K N : Nat) (Q : Option Value → Heap → Prop) (o : Outcome) (t : State) : Prop := ∃ v L, o = .returned v ∧ (Q v t.heap ∧ Fr n0 L) ∧ FrameEnd s o t L K N
def OMet (l : Launch) (Z : State) (ws : List Jvm.Cond) (y : MethodName) (bs : ByteArray) (mx : Nat) (ret : Option FieldType) (rm : Room) (as : Array Value) (h : Heap) (n0 : Nat) (Q : Option Value → Heap → Prop) : Prop :=
  MetFree l y (head1 (Jvm.Cond.code y bs mx ret :: ws) rm) (fun a U => a = as ∧ Z.Warmed39 U.vm ∧ U.heap = h) (fun _ _ _ _ _ => True) (fun _ U o U' => ∃ v L, o = .returned v ∧ (Q v U'.heap ∧ Fr n0 L) ∧ FrameEnd U o U' L rm.cells rm.slots)
section Kit
variable {Z : State} {own : String} {bs : ByteArray} {mx : Nat} {ret : Option FieldType} {n0 : Nat} {p : Program} {l : Launch} {e : Env} {R : Room} {s : State} {m : MethodId} {args : Array Value} {below : List Frame} {meth : Method} {c : Code} {T : State} {h : Heap} {k n : Nat} {P : Outcome → State → Prop} {L : Array Slot} {S : List Value} {pc pc' pcT pcF : Nat} {a0 : Array Value} {t : FieldType}
theorem Gl.of1 {A B : State} (f : ∀ t, Steps p.tables e below B t → Steps p.tables e below A t) (q : Gl p e below P B) : Gl p e below P A := by
  obtain ⟨t, o, h1, h2⟩ := q
  exact ⟨t, o, f t h1, h2⟩
theorem Gl.via {A B : State} (f : Steps p.tables e below A B) (q : Gl p e below P B) : Gl p e below P A := by
  obtain ⟨t, o, h1, h2⟩ := q
  exact ⟨t, o, f.trans h1, h2⟩
theorem OMet.of {ws : List Jvm.Cond} {y : MethodName} {rm : Room} {as : Array Value} {Q : Option Value → Heap → Prop} (hpl : plainFor y = true) (hef : ∀ m, entryFrame m as mx = mkF m 0 L []) (hn : n0 ≤ h.size)
    (body : ∀ p e s m below meth c T, Sd Z y.cls bs mx ret n0 p l e rm s m as below meth c T h 0 0 → meth.name = y.name → Gl p e below (Pst s n0 rm.cells rm.slots Q) (T.setTop (mkF m 0 L []))) : OMet l Z ws y bs mx ret rm as h n0 Q := by
  refine MetFree.of_bodySF hpl hisR ?_
  intro p e s m args below meth c s₁ Bd hml0 hP hK
  obtain ⟨rfl, hZ, hh⟩ := hP
  have e0 : s₁.heap = h := by rw [← hh, Bd.state]; rfl
  obtain ⟨t, o, h1, h2, h3, h4⟩ := body p e s m below meth c s₁ ⟨[], Stand.of_body Bd, e0, Fr.nil n0, by rw [hh]; exact hn, Bd.exec, hZ, findClass_of_methodNamed Bd.named, Bd.bytes, hml0, Bd.returns, Bd.notSynchronized⟩ (name_of_methodNamed Bd.named Bd.method).1
  exact ⟨t, o, castTop (hef m) h1, h2, h3, h4⟩

theorem own_grow {T' : State} {locs' : List Loc} {k' n' : Nat} (X : Stand p l e R s m args below meth c T' locs' k' n') : s.heap.size ≤ T'.heap.size := X.same.2.1
theorem own_eqI {args : Array Value} {Z : State} {t : Term} {v : Int32} (q : (Jvm.Cond.eq t (.int v)).value args Z none Z [] = some true) : t.eval args Z none [] Z = some (.int v) := by
  simp only [Cond.value, Term.eval] at q
  cases ht : t.eval args Z none [] Z with
  | none => simp [ht] at q
  | some w => cases w <;> simp [ht] at q ⊢ <;> exact q
theorem own_ite {c A B : Prop} [Decidable c] (h1 : c → A) (h2 : ¬ c → B) : A ∨ B := if q : c then Or.inl (h1 q) else Or.inr (h2 q)
theorem own_cut {A B : Prop} (f : B → A) (b : B) : A := f b
theorem Sd.sz (Y : Sd Z own bs mx ret n0 p l e R s m args below meth c T h k n) : n0 ≤ h.size := by
  obtain ⟨locs, X, eT, N, hn0, hx, hZ, hown, hby, hml, hrt, hlk⟩ := Y
  exact eT ▸ Nat.le_trans hn0 (own_grow X)
theorem own_narB {a v : Int32} (h : a.toInt8.toInt32 = v) : nar .byte v = v := by subst h; simp [nar]
theorem own_narC {a v : Int32} (h : a.toUInt32.toUInt16.toUInt32.toInt32 = v) : nar .char v = v := by subst h; have q := Jvm.Free.XT.narrow_c a; exact Value.int.inj q
theorem own_narS {a v : Int32} (h : a.toInt16.toInt32 = v) : nar .short v = v := by subst h; simp [nar]
theorem own_c3 {v : Int32} (h0 : 0 ≤ v.toInt) (h : v.toInt ≤ 3) : v = 0 ∨ v = 1 ∨ v = 2 ∨ v = 3 := by
  have : v.toInt = 0 ∨ v.toInt = 1 ∨ v.toInt = 2 ∨ v.toInt = 3 := by omega
  rcases this with q | q | q | q <;> simp [← Int32.toInt_inj, q]
theorem own_c4 {v : Int32} (h0 : 0 ≤ v.toInt) (h : v.toInt ≤ 4) : v = 0 ∨ v = 1 ∨ v = 2 ∨ v = 3 ∨ v = 4 := by
  have : v.toInt = 0 ∨ v.toInt = 1 ∨ v.toInt = 2 ∨ v.toInt = 3 ∨ v.toInt = 4 := by omega
  rcases this with q | q | q | q | q <;> simp [← Int32.toInt_inj, q]
theorem own_c5 {v : Int32} (h0 : 0 ≤ v.toInt) (h : v.toInt ≤ 5) : v = 0 ∨ v = 1 ∨ v = 2 ∨ v = 3 ∨ v = 4 ∨ v = 5 := by
  have : v.toInt = 0 ∨ v.toInt = 1 ∨ v.toInt = 2 ∨ v.toInt = 3 ∨ v.toInt = 4 ∨ v.toInt = 5 := by omega
  rcases this with q | q | q | q | q | q <;> simp [← Int32.toInt_inj, q]
theorem own_narR {t : FieldType} {x : Value} (q : x.isRef = true) : narrow t x = x := by rcases ref_cases q with rfl | ⟨z, rfl⟩ <;> cases t <;> rfl
theorem OMet.un {l : Launch} {Z : State} {ws : List Jvm.Cond} {y : MethodName} {bs : ByteArray} {mx : Nat} {ret : Option FieldType} {rm : Room} {as : Array Value} {h : Heap} {n0 : Nat} {Q : Option Value → Heap → Prop} (q : OMet l Z ws y bs mx ret rm as h n0 Q) :
  MetFree l y (head1 (Jvm.Cond.code y bs mx ret :: ws) rm) (fun a U => a = as ∧ Z.Warmed39 U.vm ∧ U.heap = h) (fun _ _ _ _ _ => True) (fun _ U o U' => ∃ v L, o = .returned v ∧ (fun v h' L => Q v h' ∧ Fr n0 L) v U'.heap L ∧ FrameEnd U o U' L rm.cells rm.slots) := q
theorem own_not64 (x : Int64) : (x ^^^ (-1)).toInt = -x.toInt - 1 := by
  have h1 : x ^^^ (-1) = ~~~x := by
    apply Int64.toBitVec_inj.mp
    rw [Int64.toBitVec_xor, Int64.toBitVec_not]
    exact BitVec.xor_allOnes
  rw [h1, Int64.not_eq_neg_sub]
  have q := c_lsub (-x) 1
  have r := c_lneg x
  have n1 := rng64 (-x - 1)
  have n2 := rng64 (-x)
  have n3 := rng64 x
  simp only [Int64.reduceToInt] at q
  omega
theorem own_narZ {x : Int32} (q : x = 0 ∨ x = 1) : nar .boolean x = x := by rcases q with rfl | rfl <;> rfl
theorem own_nZ {x : Int32} (q : x = 0 ∨ x = 1) : narrow .boolean (.int x) = .int x := by rcases q with rfl | rfl <;> rfl
theorem own_fZ {x : Int32} (q : x = 0 ∨ x = 1) : fits .boolean (.int x) = true := by rcases q with rfl | rfl <;> rfl
theorem Gl.iadd (Y : Sd Z own bs mx ret n0 p l e R s m args below meth c T h k n) {x y : Int32} {r : Int32} (hr : x + y = r) (hd : decode bs pc = .ok (.iadd, 1)) (hp : pc + 1 = pc') (q : Gl p e below P (T.setTop (mkF m pc' L (.int r :: S)))) : Gl p e below P (T.setTop (mkF m pc L (.int y :: .int x :: S))) := by
  obtain ⟨locs, X, eT, N, hn0, hx, hZ, hown, hby, hml, hrt, hlk⟩ := Y
  subst hp hr
  exact q.of1 fun t q => XS.iadd X.here hx rfl (hb hby hd) rfl q
theorem Gl.isub (Y : Sd Z own bs mx ret n0 p l e R s m args below meth c T h k n) {x y : Int32} {r : Int32} (hr : x - y = r) (hd : decode bs pc = .ok (.isub, 1)) (hp : pc + 1 = pc') (q : Gl p e below P (T.setTop (mkF m pc' L (.int r :: S)))) : Gl p e below P (T.setTop (mkF m pc L (.int y :: .int x :: S))) := by
  obtain ⟨locs, X, eT, N, hn0, hx, hZ, hown, hby, hml, hrt, hlk⟩ := Y
  subst hp hr
  exact q.of1 fun t q => XS.isub X.here hx rfl (hb hby hd) rfl q
theorem Gl.imul (Y : Sd Z own bs mx ret n0 p l e R s m args below meth c T h k n) {x y : Int32} {r : Int32} (hr : x * y = r) (hd : decode bs pc = .ok (.imul, 1)) (hp : pc + 1 = pc') (q : Gl p e below P (T.setTop (mkF m pc' L (.int r :: S)))) : Gl p e below P (T.setTop (mkF m pc L (.int y :: .int x :: S))) := by
  obtain ⟨locs, X, eT, N, hn0, hx, hZ, hown, hby, hml, hrt, hlk⟩ := Y
  subst hp hr
  exact q.of1 fun t q => XS.imul X.here hx rfl (hb hby hd) rfl q
theorem Gl.iand (Y : Sd Z own bs mx ret n0 p l e R s m args below meth c T h k n) {x y : Int32} {r : Int32} (hr : x &&& y = r) (hd : decode bs pc = .ok (.iand, 1)) (hp : pc + 1 = pc') (q : Gl p e below P (T.setTop (mkF m pc' L (.int r :: S)))) : Gl p e below P (T.setTop (mkF m pc L (.int y :: .int x :: S))) := by
  obtain ⟨locs, X, eT, N, hn0, hx, hZ, hown, hby, hml, hrt, hlk⟩ := Y
  subst hp hr
  exact q.of1 fun t q => XS.iand X.here hx rfl (hb hby hd) rfl q
theorem Gl.ior (Y : Sd Z own bs mx ret n0 p l e R s m args below meth c T h k n) {x y : Int32} {r : Int32} (hr : x ||| y = r) (hd : decode bs pc = .ok (.ior, 1)) (hp : pc + 1 = pc') (q : Gl p e below P (T.setTop (mkF m pc' L (.int r :: S)))) : Gl p e below P (T.setTop (mkF m pc L (.int y :: .int x :: S))) := by
  obtain ⟨locs, X, eT, N, hn0, hx, hZ, hown, hby, hml, hrt, hlk⟩ := Y
  subst hp hr
  exact q.of1 fun t q => XS.ior X.here hx rfl (hb hby hd) rfl q
theorem Gl.ixor (Y : Sd Z own bs mx ret n0 p l e R s m args below meth c T h k n) {x y : Int32} {r : Int32} (hr : x ^^^ y = r) (hd : decode bs pc = .ok (.ixor, 1)) (hp : pc + 1 = pc') (q : Gl p e below P (T.setTop (mkF m pc' L (.int r :: S)))) : Gl p e below P (T.setTop (mkF m pc L (.int y :: .int x :: S))) := by
  obtain ⟨locs, X, eT, N, hn0, hx, hZ, hown, hby, hml, hrt, hlk⟩ := Y
  subst hp hr
  exact q.of1 fun t q => XS.ixor X.here hx rfl (hb hby hd) rfl q
theorem Gl.ishl (Y : Sd Z own bs mx ret n0 p l e R s m args below meth c T h k n) {x y : Int32} {r : Int32} (hr : x <<< (y &&& 31) = r) (hd : decode bs pc = .ok (.ishl, 1)) (hp : pc + 1 = pc') (q : Gl p e below P (T.setTop (mkF m pc' L (.int r :: S)))) : Gl p e below P (T.setTop (mkF m pc L (.int y :: .int x :: S))) := by
  obtain ⟨locs, X, eT, N, hn0, hx, hZ, hown, hby, hml, hrt, hlk⟩ := Y
  subst hp hr
  exact q.of1 fun t q => XS.ishl X.here hx rfl (hb hby hd) rfl q
theorem Gl.ishr (Y : Sd Z own bs mx ret n0 p l e R s m args below meth c T h k n) {x y : Int32} {r : Int32} (hr : x >>> (y &&& 31) = r) (hd : decode bs pc = .ok (.ishr, 1)) (hp : pc + 1 = pc') (q : Gl p e below P (T.setTop (mkF m pc' L (.int r :: S)))) : Gl p e below P (T.setTop (mkF m pc L (.int y :: .int x :: S))) := by
  obtain ⟨locs, X, eT, N, hn0, hx, hZ, hown, hby, hml, hrt, hlk⟩ := Y
  subst hp hr
  exact q.of1 fun t q => XS.ishr X.here hx rfl (hb hby hd) rfl q
theorem Gl.iushr (Y : Sd Z own bs mx ret n0 p l e R s m args below meth c T h k n) {x y : Int32} {r : Int32} (hr : (x.toUInt32 >>> (y &&& 31).toUInt32).toInt32 = r) (hd : decode bs pc = .ok (.iushr, 1)) (hp : pc + 1 = pc') (q : Gl p e below P (T.setTop (mkF m pc' L (.int r :: S)))) : Gl p e below P (T.setTop (mkF m pc L (.int y :: .int x :: S))) := by
  obtain ⟨locs, X, eT, N, hn0, hx, hZ, hown, hby, hml, hrt, hlk⟩ := Y
  subst hp hr
  exact q.of1 fun t q => XS.iushr X.here hx rfl (hb hby hd) rfl q
theorem Gl.ladd (Y : Sd Z own bs mx ret n0 p l e R s m args below meth c T h k n) {x y : Int64} {r : Int64} (hr : x + y = r) (hd : decode bs pc = .ok (.ladd, 1)) (hp : pc + 1 = pc') (q : Gl p e below P (T.setTop (mkF m pc' L (.long r :: S)))) : Gl p e below P (T.setTop (mkF m pc L (.long y :: .long x :: S))) := by
  obtain ⟨locs, X, eT, N, hn0, hx, hZ, hown, hby, hml, hrt, hlk⟩ := Y
  subst hp hr
  exact q.of1 fun t q => XS.ladd X.here hx rfl (hb hby hd) rfl q
theorem Gl.lsub (Y : Sd Z own bs mx ret n0 p l e R s m args below meth c T h k n) {x y : Int64} {r : Int64} (hr : x - y = r) (hd : decode bs pc = .ok (.lsub, 1)) (hp : pc + 1 = pc') (q : Gl p e below P (T.setTop (mkF m pc' L (.long r :: S)))) : Gl p e below P (T.setTop (mkF m pc L (.long y :: .long x :: S))) := by
  obtain ⟨locs, X, eT, N, hn0, hx, hZ, hown, hby, hml, hrt, hlk⟩ := Y
  subst hp hr
  exact q.of1 fun t q => XS.lsub X.here hx rfl (hb hby hd) rfl q
theorem Gl.lmul (Y : Sd Z own bs mx ret n0 p l e R s m args below meth c T h k n) {x y : Int64} {r : Int64} (hr : x * y = r) (hd : decode bs pc = .ok (.lmul, 1)) (hp : pc + 1 = pc') (q : Gl p e below P (T.setTop (mkF m pc' L (.long r :: S)))) : Gl p e below P (T.setTop (mkF m pc L (.long y :: .long x :: S))) := by
  obtain ⟨locs, X, eT, N, hn0, hx, hZ, hown, hby, hml, hrt, hlk⟩ := Y
  subst hp hr
  exact q.of1 fun t q => XS.lmul X.here hx rfl (hb hby hd) rfl q
theorem Gl.land (Y : Sd Z own bs mx ret n0 p l e R s m args below meth c T h k n) {x y : Int64} {r : Int64} (hr : x &&& y = r) (hd : decode bs pc = .ok (.land, 1)) (hp : pc + 1 = pc') (q : Gl p e below P (T.setTop (mkF m pc' L (.long r :: S)))) : Gl p e below P (T.setTop (mkF m pc L (.long y :: .long x :: S))) := by
  obtain ⟨locs, X, eT, N, hn0, hx, hZ, hown, hby, hml, hrt, hlk⟩ := Y
  subst hp hr
  exact q.of1 fun t q => XS.land X.here hx rfl (hb hby hd) rfl q
theorem Gl.lor (Y : Sd Z own bs mx ret n0 p l e R s m args below meth c T h k n) {x y : Int64} {r : Int64} (hr : x ||| y = r) (hd : decode bs pc = .ok (.lor, 1)) (hp : pc + 1 = pc') (q : Gl p e below P (T.setTop (mkF m pc' L (.long r :: S)))) : Gl p e below P (T.setTop (mkF m pc L (.long y :: .long x :: S))) := by
  obtain ⟨locs, X, eT, N, hn0, hx, hZ, hown, hby, hml, hrt, hlk⟩ := Y
  subst hp hr
  exact q.of1 fun t q => XS.lor X.here hx rfl (hb hby hd) rfl q
theorem Gl.lxor (Y : Sd Z own bs mx ret n0 p l e R s m args below meth c T h k n) {x y : Int64} {r : Int64} (hr : x ^^^ y = r) (hd : decode bs pc = .ok (.lxor, 1)) (hp : pc + 1 = pc') (q : Gl p e below P (T.setTop (mkF m pc' L (.long r :: S)))) : Gl p e below P (T.setTop (mkF m pc L (.long y :: .long x :: S))) := by
  obtain ⟨locs, X, eT, N, hn0, hx, hZ, hown, hby, hml, hrt, hlk⟩ := Y
  subst hp hr
  exact q.of1 fun t q => XS.lxor X.here hx rfl (hb hby hd) rfl q
theorem Gl.lshl (Y : Sd Z own bs mx ret n0 p l e R s m args below meth c T h k n) {x : Int64} {y : Int32} {r : Int64} (hr : x <<< (y &&& 0x3f).toInt64 = r) (hd : decode bs pc = .ok (.lshl, 1)) (hp : pc + 1 = pc') (q : Gl p e below P (T.setTop (mkF m pc' L (.long r :: S)))) : Gl p e below P (T.setTop (mkF m pc L (.int y :: .long x :: S))) := by
  obtain ⟨locs, X, eT, N, hn0, hx, hZ, hown, hby, hml, hrt, hlk⟩ := Y
  subst hp hr
  exact q.of1 fun t q => XS.lshl X.here hx rfl (hb hby hd) rfl q
theorem Gl.lshr (Y : Sd Z own bs mx ret n0 p l e R s m args below meth c T h k n) {x : Int64} {y : Int32} {r : Int64} (hr : x >>> (y &&& 0x3f).toInt64 = r) (hd : decode bs pc = .ok (.lshr, 1)) (hp : pc + 1 = pc') (q : Gl p e below P (T.setTop (mkF m pc' L (.long r :: S)))) : Gl p e below P (T.setTop (mkF m pc L (.int y :: .long x :: S))) := by
  obtain ⟨locs, X, eT, N, hn0, hx, hZ, hown, hby, hml, hrt, hlk⟩ := Y
  subst hp hr
  exact q.of1 fun t q => XS.lshr X.here hx rfl (hb hby hd) rfl q
theorem Gl.lushr (Y : Sd Z own bs mx ret n0 p l e R s m args below meth c T h k n) {x : Int64} {y : Int32} {r : Int64} (hr : (x.toUInt64 >>> (y &&& 0x3f).toInt64.toUInt64).toInt64 = r) (hd : decode bs pc = .ok (.lushr, 1)) (hp : pc + 1 = pc') (q : Gl p e below P (T.setTop (mkF m pc' L (.long r :: S)))) : Gl p e below P (T.setTop (mkF m pc L (.int y :: .long x :: S))) := by
  obtain ⟨locs, X, eT, N, hn0, hx, hZ, hown, hby, hml, hrt, hlk⟩ := Y
  subst hp hr
  exact q.of1 fun t q => XS.lushr X.here hx rfl (hb hby hd) rfl q
theorem Gl.idiv (Y : Sd Z own bs mx ret n0 p l e R s m args below meth c T h k n) {x y : Int32} (hy : y ≠ 0) {r : Int32} (hr : x / y = r) (hd : decode bs pc = .ok (.idiv, 1)) (hp : pc + 1 = pc') (q : Gl p e below P (T.setTop (mkF m pc' L (.int r :: S)))) : Gl p e below P (T.setTop (mkF m pc L (.int y :: .int x :: S))) := by
  obtain ⟨locs, X, eT, N, hn0, hx, hZ, hown, hby, hml, hrt, hlk⟩ := Y
  subst hp hr
  exact q.of1 fun t q => XS.idiv X.here hx rfl (hb hby hd) rfl hy q
theorem Gl.irem (Y : Sd Z own bs mx ret n0 p l e R s m args below meth c T h k n) {x y : Int32} (hy : y ≠ 0) {r : Int32} (hr : x % y = r) (hd : decode bs pc = .ok (.irem, 1)) (hp : pc + 1 = pc') (q : Gl p e below P (T.setTop (mkF m pc' L (.int r :: S)))) : Gl p e below P (T.setTop (mkF m pc L (.int y :: .int x :: S))) := by
  obtain ⟨locs, X, eT, N, hn0, hx, hZ, hown, hby, hml, hrt, hlk⟩ := Y
  subst hp hr
  exact q.of1 fun t q => iremM X hx rfl (hb hby hd) rfl hy q
theorem Gl.ldiv (Y : Sd Z own bs mx ret n0 p l e R s m args below meth c T h k n) {x y : Int64} (hy : y ≠ 0) {r : Int64} (hr : x / y = r) (hd : decode bs pc = .ok (.ldiv, 1)) (hp : pc + 1 = pc') (q : Gl p e below P (T.setTop (mkF m pc' L (.long r :: S)))) : Gl p e below P (T.setTop (mkF m pc L (.long y :: .long x :: S))) := by
  obtain ⟨locs, X, eT, N, hn0, hx, hZ, hown, hby, hml, hrt, hlk⟩ := Y
  subst hp hr
  exact q.of1 fun t q => XS.ldiv X.here hx rfl (hb hby hd) rfl hy q
theorem Gl.lrem (Y : Sd Z own bs mx ret n0 p l e R s m args below meth c T h k n) {x y : Int64} (hy : y ≠ 0) {r : Int64} (hr : x % y = r) (hd : decode bs pc = .ok (.lrem, 1)) (hp : pc + 1 = pc') (q : Gl p e below P (T.setTop (mkF m pc' L (.long r :: S)))) : Gl p e below P (T.setTop (mkF m pc L (.long y :: .long x :: S))) := by
  obtain ⟨locs, X, eT, N, hn0, hx, hZ, hown, hby, hml, hrt, hlk⟩ := Y
  subst hp hr
  exact q.of1 fun t q => XS.lrem X.here hx rfl (hb hby hd) rfl hy (by rw [lrem_mod]; exact q)
theorem Gl.ineg (Y : Sd Z own bs mx ret n0 p l e R s m args below meth c T h k n) {x : Int32} {r : Int32} (hr : -x = r) (hd : decode bs pc = .ok (.ineg, 1)) (hp : pc + 1 = pc') (q : Gl p e below P (T.setTop (mkF m pc' L (.int r :: S)))) : Gl p e below P (T.setTop (mkF m pc L (.int x :: S))) := by
  obtain ⟨locs, X, eT, N, hn0, hx, hZ, hown, hby, hml, hrt, hlk⟩ := Y
  subst hp hr
  exact q.of1 fun t q => XS.ineg X.here hx rfl (hb hby hd) rfl q
theorem Gl.lneg (Y : Sd Z own bs mx ret n0 p l e R s m args below meth c T h k n) {x : Int64} {r : Int64} (hr : -x = r) (hd : decode bs pc = .ok (.lneg, 1)) (hp : pc + 1 = pc') (q : Gl p e below P (T.setTop (mkF m pc' L (.long r :: S)))) : Gl p e below P (T.setTop (mkF m pc L (.long x :: S))) := by
  obtain ⟨locs, X, eT, N, hn0, hx, hZ, hown, hby, hml, hrt, hlk⟩ := Y
  subst hp hr
  exact q.of1 fun t q => XS.lneg X.here hx rfl (hb hby hd) rfl q
theorem Gl.i2b (Y : Sd Z own bs mx ret n0 p l e R s m args below meth c T h k n) {x : Int32} {r : Int32} (hr : x.toInt8.toInt32 = r) (hd : decode bs pc = .ok (.i2b, 1)) (hp : pc + 1 = pc') (q : Gl p e below P (T.setTop (mkF m pc' L (.int r :: S)))) : Gl p e below P (T.setTop (mkF m pc L (.int x :: S))) := by
  obtain ⟨locs, X, eT, N, hn0, hx, hZ, hown, hby, hml, hrt, hlk⟩ := Y
  subst hp hr
  exact q.of1 fun t q => XS.i2b X.here hx rfl (hb hby hd) rfl q
theorem Gl.i2c (Y : Sd Z own bs mx ret n0 p l e R s m args below meth c T h k n) {x : Int32} {r : Int32} (hr : x.toUInt32.toUInt16.toUInt32.toInt32 = r) (hd : decode bs pc = .ok (.i2c, 1)) (hp : pc + 1 = pc') (q : Gl p e below P (T.setTop (mkF m pc' L (.int r :: S)))) : Gl p e below P (T.setTop (mkF m pc L (.int x :: S))) := by
  obtain ⟨locs, X, eT, N, hn0, hx, hZ, hown, hby, hml, hrt, hlk⟩ := Y
  subst hp hr
  exact q.of1 fun t q => XS.i2c X.here hx rfl (hb hby hd) rfl q
theorem Gl.i2s (Y : Sd Z own bs mx ret n0 p l e R s m args below meth c T h k n) {x : Int32} {r : Int32} (hr : x.toInt16.toInt32 = r) (hd : decode bs pc = .ok (.i2s, 1)) (hp : pc + 1 = pc') (q : Gl p e below P (T.setTop (mkF m pc' L (.int r :: S)))) : Gl p e below P (T.setTop (mkF m pc L (.int x :: S))) := by
  obtain ⟨locs, X, eT, N, hn0, hx, hZ, hown, hby, hml, hrt, hlk⟩ := Y
  subst hp hr
  exact q.of1 fun t q => XS.i2s X.here hx rfl (hb hby hd) rfl q
theorem Gl.i2l (Y : Sd Z own bs mx ret n0 p l e R s m args below meth c T h k n) {x : Int32} {r : Int64} (hr : x.toInt64 = r) (hd : decode bs pc = .ok (.i2l, 1)) (hp : pc + 1 = pc') (q : Gl p e below P (T.setTop (mkF m pc' L (.long r :: S)))) : Gl p e below P (T.setTop (mkF m pc L (.int x :: S))) := by
  obtain ⟨locs, X, eT, N, hn0, hx, hZ, hown, hby, hml, hrt, hlk⟩ := Y
  subst hp hr
  exact q.of1 fun t q => XS.i2l X.here hx rfl (hb hby hd) rfl q
theorem Gl.l2i (Y : Sd Z own bs mx ret n0 p l e R s m args below meth c T h k n) {x : Int64} {r : Int32} (hr : x.toInt32 = r) (hd : decode bs pc = .ok (.l2i, 1)) (hp : pc + 1 = pc') (q : Gl p e below P (T.setTop (mkF m pc' L (.int r :: S)))) : Gl p e below P (T.setTop (mkF m pc L (.long x :: S))) := by
  obtain ⟨locs, X, eT, N, hn0, hx, hZ, hown, hby, hml, hrt, hlk⟩ := Y
  subst hp hr
  exact q.of1 fun t q => XS.l2i X.here hx rfl (hb hby hd) rfl q
theorem Gl.iconst (Y : Sd Z own bs mx ret n0 p l e R s m args below meth c T h k n) {i : Int} {v : Int32} (hv : Int32.ofInt i = v) (hd : decode bs pc = .ok (.iconst i, 1)) (hp : pc + 1 = pc') (q : Gl p e below P (T.setTop (mkF m pc' L (.int v :: S)))) : Gl p e below P (T.setTop (mkF m pc L S)) := by
  obtain ⟨locs, X, eT, N, hn0, hx, hZ, hown, hby, hml, hrt, hlk⟩ := Y
  subst hp
  exact q.of1 fun t q => XS.iconst X.here hx rfl (hb hby hd) (by rw [hv]; exact q)
theorem Gl.bipush (Y : Sd Z own bs mx ret n0 p l e R s m args below meth c T h k n) {i : Int} {v : Int32} (hv : (Int8.ofInt i).toInt32 = v) (hd : decode bs pc = .ok (.bipush i, 2)) (hp : pc + 2 = pc') (q : Gl p e below P (T.setTop (mkF m pc' L (.int v :: S)))) : Gl p e below P (T.setTop (mkF m pc L S)) := by
  obtain ⟨locs, X, eT, N, hn0, hx, hZ, hown, hby, hml, hrt, hlk⟩ := Y
  subst hp
  exact q.of1 fun t q => XS.bipush X.here hx rfl (hb hby hd) (by rw [hv]; exact q)
theorem Gl.sipush (Y : Sd Z own bs mx ret n0 p l e R s m args below meth c T h k n) {i : Int} {v : Int32} (hv : (Int16.ofInt i).toInt32 = v) (hd : decode bs pc = .ok (.sipush i, 3)) (hp : pc + 3 = pc') (q : Gl p e below P (T.setTop (mkF m pc' L (.int v :: S)))) : Gl p e below P (T.setTop (mkF m pc L S)) := by
  obtain ⟨locs, X, eT, N, hn0, hx, hZ, hown, hby, hml, hrt, hlk⟩ := Y
  subst hp
  exact q.of1 fun t q => XS.sipush X.here hx rfl (hb hby hd) (by rw [hv]; exact q)
theorem Gl.lconst (Y : Sd Z own bs mx ret n0 p l e R s m args below meth c T h k n) {i : Fin 2} {v : Int64} (hv : Int64.ofNat i = v) (hd : decode bs pc = .ok (.lconst i, 1)) (hp : pc + 1 = pc') (q : Gl p e below P (T.setTop (mkF m pc' L (.long v :: S)))) : Gl p e below P (T.setTop (mkF m pc L S)) := by
  obtain ⟨locs, X, eT, N, hn0, hx, hZ, hown, hby, hml, hrt, hlk⟩ := Y
  subst hp
  exact q.of1 fun t q => XS.lconst X.here hx rfl (hb hby hd) (by rw [hv]; exact q)
theorem Gl.aconstNull (Y : Sd Z own bs mx ret n0 p l e R s m args below meth c T h k n)  (hd : decode bs pc = .ok (.aconst_null, 1)) (hp : pc + 1 = pc') (q : Gl p e below P (T.setTop (mkF m pc' L (.null :: S)))) : Gl p e below P (T.setTop (mkF m pc L S)) := by
  obtain ⟨locs, X, eT, N, hn0, hx, hZ, hown, hby, hml, hrt, hlk⟩ := Y
  subst hp
  exact q.of1 fun t q => XS.aconstNull X.here hx rfl (hb hby hd) q
theorem Gl.ldcI (Y : Sd Z own bs mx ret n0 p l e R s m args below meth c T h k n) {i : Nat} {v : Int32} (w : (Jvm.Cond.constant own i v).before a0 Z = true) (hd : decode bs pc = .ok (.ldc i, 2)) (hp : pc + 2 = pc') (q : Gl p e below P (T.setTop (mkF m pc' L (.int v :: S)))) : Gl p e below P (T.setTop (mkF m pc L S)) := by
  obtain ⟨locs, X, eT, N, hn0, hx, hZ, hown, hby, hml, hrt, hlk⟩ := Y
  subst hp
  exact q.of1 fun t q => X.ldcInt hx hown (mvT hZ w) (g := mkF m pc L S) rfl (hb hby hd) t q
theorem Gl.ldcWI (Y : Sd Z own bs mx ret n0 p l e R s m args below meth c T h k n) {i : Nat} {v : Int32} (w : (Jvm.Cond.constant own i v).before a0 Z = true) (hd : decode bs pc = .ok (.ldc_w i, 3)) (hp : pc + 3 = pc') (q : Gl p e below P (T.setTop (mkF m pc' L (.int v :: S)))) : Gl p e below P (T.setTop (mkF m pc L S)) := by
  obtain ⟨locs, X, eT, N, hn0, hx, hZ, hown, hby, hml, hrt, hlk⟩ := Y
  subst hp
  exact q.of1 fun t q => X.ldcWI hx hown (mvT hZ w) (g := mkF m pc L S) rfl (hb hby hd) q
theorem Gl.ldcJ (Y : Sd Z own bs mx ret n0 p l e R s m args below meth c T h k n) {i : Nat} {v : Int64} (w : (Jvm.Cond.constantLong own i v).before a0 Z = true) (hd : decode bs pc = .ok (.ldc2_w i, 3)) (hp : pc + 3 = pc') (q : Gl p e below P (T.setTop (mkF m pc' L (.long v :: S)))) : Gl p e below P (T.setTop (mkF m pc L S)) := by
  obtain ⟨locs, X, eT, N, hn0, hx, hZ, hown, hby, hml, hrt, hlk⟩ := Y
  subst hp
  exact q.of1 fun t q => X.ldc2Long hx hown (mvT hZ w) (g := mkF m pc L S) rfl (hb hby hd) t q
theorem Gl.ldcD (Y : Sd Z own bs mx ret n0 p l e R s m args below meth c T h k n) {i : Nat} {v : UInt64} (w : (Jvm.Cond.constantDouble own i v).before a0 Z = true) (hd : decode bs pc = .ok (.ldc2_w i, 3)) (hp : pc + 3 = pc') (q : Gl p e below P (T.setTop (mkF m pc' L (.double v :: S)))) : Gl p e below P (T.setTop (mkF m pc L S)) := by
  obtain ⟨locs, X, eT, N, hn0, hx, hZ, hown, hby, hml, hrt, hlk⟩ := Y
  subst hp
  exact q.of1 fun t q => X.ldc2DoubleC hx hown (mvT hZ w) (g := mkF m pc L S) rfl (hb hby hd) t q
theorem Gl.iload (Y : Sd Z own bs mx ret n0 p l e R s m args below meth c T h k n) {i : Nat} {v : Int32} (hl : L[i]? = some (.val (.int v))) (hd : decode bs pc = .ok (.iload i, 2)) (hp : pc + 2 = pc') (q : Gl p e below P (T.setTop (mkF m pc' L (.int v :: S)))) : Gl p e below P (T.setTop (mkF m pc L S)) := by
  obtain ⟨locs, X, eT, N, hn0, hx, hZ, hown, hby, hml, hrt, hlk⟩ := Y
  subst hp
  exact q.of1 fun t q => XS.iload X.here hx rfl (hb hby hd) hl q
theorem Gl.iloadN (Y : Sd Z own bs mx ret n0 p l e R s m args below meth c T h k n) {i : Fin 4} {v : Int32} (hl : L[i.val]? = some (.val (.int v))) (hd : decode bs pc = .ok (.iload_n i, 1)) (hp : pc + 1 = pc') (q : Gl p e below P (T.setTop (mkF m pc' L (.int v :: S)))) : Gl p e below P (T.setTop (mkF m pc L S)) := by
  obtain ⟨locs, X, eT, N, hn0, hx, hZ, hown, hby, hml, hrt, hlk⟩ := Y
  subst hp
  exact q.of1 fun t q => XS.iloadN X.here hx rfl (hb hby hd) hl q
theorem Gl.lload (Y : Sd Z own bs mx ret n0 p l e R s m args below meth c T h k n) {i : Nat} {v : Int64} (hl : L[i]? = some (.val (.long v))) (hd : decode bs pc = .ok (.lload i, 2)) (hp : pc + 2 = pc') (q : Gl p e below P (T.setTop (mkF m pc' L (.long v :: S)))) : Gl p e below P (T.setTop (mkF m pc L S)) := by
  obtain ⟨locs, X, eT, N, hn0, hx, hZ, hown, hby, hml, hrt, hlk⟩ := Y
  subst hp
  exact q.of1 fun t q => XS.lload X.here hx rfl (hb hby hd) hl q
theorem Gl.lloadN (Y : Sd Z own bs mx ret n0 p l e R s m args below meth c T h k n) {i : Fin 4} {v : Int64} (hl : L[i.val]? = some (.val (.long v))) (hd : decode bs pc = .ok (.lload_n i, 1)) (hp : pc + 1 = pc') (q : Gl p e below P (T.setTop (mkF m pc' L (.long v :: S)))) : Gl p e below P (T.setTop (mkF m pc L S)) := by
  obtain ⟨locs, X, eT, N, hn0, hx, hZ, hown, hby, hml, hrt, hlk⟩ := Y
  subst hp
  exact q.of1 fun t q => XS.lloadN X.here hx rfl (hb hby hd) hl q
theorem Gl.dload (Y : Sd Z own bs mx ret n0 p l e R s m args below meth c T h k n) {i : Nat} {v : UInt64} (hl : L[i]? = some (.val (.double v))) (hd : decode bs pc = .ok (.dload i, 2)) (hp : pc + 2 = pc') (q : Gl p e below P (T.setTop (mkF m pc' L (.double v :: S)))) : Gl p e below P (T.setTop (mkF m pc L S)) := by
  obtain ⟨locs, X, eT, N, hn0, hx, hZ, hown, hby, hml, hrt, hlk⟩ := Y
  subst hp
  exact q.of1 fun t q => XS.dload X.here hx rfl (hb hby hd) hl q
theorem Gl.dloadN (Y : Sd Z own bs mx ret n0 p l e R s m args below meth c T h k n) {i : Fin 4} {v : UInt64} (hl : L[i.val]? = some (.val (.double v))) (hd : decode bs pc = .ok (.dload_n i, 1)) (hp : pc + 1 = pc') (q : Gl p e below P (T.setTop (mkF m pc' L (.double v :: S)))) : Gl p e below P (T.setTop (mkF m pc L S)) := by
  obtain ⟨locs, X, eT, N, hn0, hx, hZ, hown, hby, hml, hrt, hlk⟩ := Y
  subst hp
  exact q.of1 fun t q => XS.dloadN X.here hx rfl (hb hby hd) hl q
theorem Gl.dconst0 (Y : Sd Z own bs mx ret n0 p l e R s m args below meth c T h k n)  (hd : decode bs pc = .ok (.dconst 0, 1)) (hp : pc + 1 = pc') (q : Gl p e below P (T.setTop (mkF m pc' L (.double FP.dconst0 :: S)))) : Gl p e below P (T.setTop (mkF m pc L S)) := by
  obtain ⟨locs, X, eT, N, hn0, hx, hZ, hown, hby, hml, hrt, hlk⟩ := Y
  subst hp
  exact q.of1 fun t q => XS.dconst0 X.here hx rfl (hb hby hd) rfl q
theorem Gl.dconst1 (Y : Sd Z own bs mx ret n0 p l e R s m args below meth c T h k n)  (hd : decode bs pc = .ok (.dconst 1, 1)) (hp : pc + 1 = pc') (q : Gl p e below P (T.setTop (mkF m pc' L (.double FP.dconst1 :: S)))) : Gl p e below P (T.setTop (mkF m pc L S)) := by
  obtain ⟨locs, X, eT, N, hn0, hx, hZ, hown, hby, hml, hrt, hlk⟩ := Y
  subst hp
  exact q.of1 fun t q => XS.dconst1 X.here hx rfl (hb hby hd) rfl q
theorem Gl.aload (Y : Sd Z own bs mx ret n0 p l e R s m args below meth c T h k n) {i : Nat} {v : Value} (hl : L[i]? = some (.val v)) (hv : v.isRef = true) (hd : decode bs pc = .ok (.aload i, 2)) (hp : pc + 2 = pc') (q : Gl p e below P (T.setTop (mkF m pc' L (v :: S)))) : Gl p e below P (T.setTop (mkF m pc L S)) := by
  obtain ⟨locs, X, eT, N, hn0, hx, hZ, hown, hby, hml, hrt, hlk⟩ := Y
  subst hp
  exact q.of1 fun t q => XS.aload X.here hx rfl (hb hby hd) hl hv q
theorem Gl.aloadN (Y : Sd Z own bs mx ret n0 p l e R s m args below meth c T h k n) {i : Fin 4} {v : Value} (hl : L[i.val]? = some (.val v)) (hv : v.isRef = true) (hd : decode bs pc = .ok (.aload_n i, 1)) (hp : pc + 1 = pc') (q : Gl p e below P (T.setTop (mkF m pc' L (v :: S)))) : Gl p e below P (T.setTop (mkF m pc L S)) := by
  obtain ⟨locs, X, eT, N, hn0, hx, hZ, hown, hby, hml, hrt, hlk⟩ := Y
  subst hp
  exact q.of1 fun t q => XS.aloadN X.here hx rfl (hb hby hd) hl hv q
theorem Gl.istore (Y : Sd Z own bs mx ret n0 p l e R s m args below meth c T h k n) {i : Nat} {v : Int32} {L' : Array Slot} (hl : storeLocals L i (.int v) = some L') (hd : decode bs pc = .ok (.istore i, 2)) (hp : pc + 2 = pc') (q : Gl p e below P (T.setTop (mkF m pc' L' S))) : Gl p e below P (T.setTop (mkF m pc L (.int v :: S))) := by
  obtain ⟨locs, X, eT, N, hn0, hx, hZ, hown, hby, hml, hrt, hlk⟩ := Y
  subst hp
  exact q.of1 fun t q => XS.istore X.here hx rfl (hb hby hd) rfl hl q
theorem Gl.istoreN (Y : Sd Z own bs mx ret n0 p l e R s m args below meth c T h k n) {i : Fin 4} {v : Int32} {L' : Array Slot} (hl : storeLocals L i.val (.int v) = some L') (hd : decode bs pc = .ok (.istore_n i, 1)) (hp : pc + 1 = pc') (q : Gl p e below P (T.setTop (mkF m pc' L' S))) : Gl p e below P (T.setTop (mkF m pc L (.int v :: S))) := by
  obtain ⟨locs, X, eT, N, hn0, hx, hZ, hown, hby, hml, hrt, hlk⟩ := Y
  subst hp
  exact q.of1 fun t q => XS.istoreN X.here hx rfl (hb hby hd) rfl hl q
theorem Gl.lstore (Y : Sd Z own bs mx ret n0 p l e R s m args below meth c T h k n) {i : Nat} {v : Int64} {L' : Array Slot} (hl : storeLocals L i (.long v) = some L') (hd : decode bs pc = .ok (.lstore i, 2)) (hp : pc + 2 = pc') (q : Gl p e below P (T.setTop (mkF m pc' L' S))) : Gl p e below P (T.setTop (mkF m pc L (.long v :: S))) := by
  obtain ⟨locs, X, eT, N, hn0, hx, hZ, hown, hby, hml, hrt, hlk⟩ := Y
  subst hp
  exact q.of1 fun t q => XS.lstore X.here hx rfl (hb hby hd) rfl hl q
theorem Gl.lstoreN (Y : Sd Z own bs mx ret n0 p l e R s m args below meth c T h k n) {i : Fin 4} {v : Int64} {L' : Array Slot} (hl : storeLocals L i.val (.long v) = some L') (hd : decode bs pc = .ok (.lstore_n i, 1)) (hp : pc + 1 = pc') (q : Gl p e below P (T.setTop (mkF m pc' L' S))) : Gl p e below P (T.setTop (mkF m pc L (.long v :: S))) := by
  obtain ⟨locs, X, eT, N, hn0, hx, hZ, hown, hby, hml, hrt, hlk⟩ := Y
  subst hp
  exact q.of1 fun t q => XS.lstoreN X.here hx rfl (hb hby hd) rfl hl q
theorem Gl.astore (Y : Sd Z own bs mx ret n0 p l e R s m args below meth c T h k n) {i : Nat} {v : Value} (hv : v.isRef = true) {L' : Array Slot} (hl : storeLocals L i (v) = some L') (hd : decode bs pc = .ok (.astore i, 2)) (hp : pc + 2 = pc') (q : Gl p e below P (T.setTop (mkF m pc' L' S))) : Gl p e below P (T.setTop (mkF m pc L (v :: S))) := by
  obtain ⟨locs, X, eT, N, hn0, hx, hZ, hown, hby, hml, hrt, hlk⟩ := Y
  subst hp
  exact q.of1 fun t q => XS.astore X.here hx rfl (hb hby hd) rfl hv hl q
theorem Gl.astoreN (Y : Sd Z own bs mx ret n0 p l e R s m args below meth c T h k n) {i : Fin 4} {v : Value} (hv : v.isRef = true) {L' : Array Slot} (hl : storeLocals L i.val (v) = some L') (hd : decode bs pc = .ok (.astore_n i, 1)) (hp : pc + 1 = pc') (q : Gl p e below P (T.setTop (mkF m pc' L' S))) : Gl p e below P (T.setTop (mkF m pc L (v :: S))) := by
  obtain ⟨locs, X, eT, N, hn0, hx, hZ, hown, hby, hml, hrt, hlk⟩ := Y
  subst hp
  exact q.of1 fun t q => XS.astoreN X.here hx rfl (hb hby hd) rfl hv hl q
theorem Gl.iinc (Y : Sd Z own bs mx ret n0 p l e R s m args below meth c T h k n) {i : Nat} {cst : Int} {x r : Int32} {L' : Array Slot} (hl : L[i]? = some (.val (.int x))) (hr : x + Int32.ofInt cst = r) (hl' : storeLocals L i (.int r) = some L') (hd : decode bs pc = .ok (.iinc i cst, 3)) (hp : pc + 3 = pc') (q : Gl p e below P (T.setTop (mkF m pc' L' S))) : Gl p e below P (T.setTop (mkF m pc L S)) := by
  obtain ⟨locs, X, eT, N, hn0, hx, hZ, hown, hby, hml, hrt, hlk⟩ := Y
  subst hp
  exact q.of1 fun t q => XS.iinc X.here hx rfl (hb hby hd) hl (by rw [hr]; exact hl') q
theorem Gl.dup (Y : Sd Z own bs mx ret n0 p l e R s m args below meth c T h k n) {x : Value} (hc : x.category = 1) (hd : decode bs pc = .ok (.dup, 1)) (hp : pc + 1 = pc') (q : Gl p e below P (T.setTop (mkF m pc' L (x :: x :: S)))) : Gl p e below P (T.setTop (mkF m pc L (x :: S))) := by
  obtain ⟨locs, X, eT, N, hn0, hx, hZ, hown, hby, hml, hrt, hlk⟩ := Y
  subst hp
  exact q.of1 fun t q => XS.dup X.here hx rfl (hb hby hd) rfl hc q
theorem Gl.pop (Y : Sd Z own bs mx ret n0 p l e R s m args below meth c T h k n) {x : Value} (hc : x.category = 1) (hd : decode bs pc = .ok (.pop, 1)) (hp : pc + 1 = pc') (q : Gl p e below P (T.setTop (mkF m pc' L S))) : Gl p e below P (T.setTop (mkF m pc L (x :: S))) := by
  obtain ⟨locs, X, eT, N, hn0, hx, hZ, hown, hby, hml, hrt, hlk⟩ := Y
  subst hp
  exact q.of1 fun t q => XS.pop X.here hx rfl (hb hby hd) rfl hc q
theorem Gl.dupX1 (Y : Sd Z own bs mx ret n0 p l e R s m args below meth c T h k n) {x y : Value} (hc : x.category = 1) (hc' : y.category = 1) (hd : decode bs pc = .ok (.dup_x1, 1)) (hp : pc + 1 = pc') (q : Gl p e below P (T.setTop (mkF m pc' L (x :: y :: x :: S)))) : Gl p e below P (T.setTop (mkF m pc L (x :: y :: S))) := by
  obtain ⟨locs, X, eT, N, hn0, hx, hZ, hown, hby, hml, hrt, hlk⟩ := Y
  subst hp
  exact q.of1 fun t q => XS.dupX1 X.here hx rfl (hb hby hd) rfl hc hc' q
theorem Gl.lcmp (Y : Sd Z own bs mx ret n0 p l e R s m args below meth c T h k n) {x y : Int64} {r : Int32} (hr : lcmpW x y = r) (hd : decode bs pc = .ok (.lcmp, 1)) (hp : pc + 1 = pc') (q : Gl p e below P (T.setTop (mkF m pc' L (.int r :: S)))) : Gl p e below P (T.setTop (mkF m pc L (.long y :: .long x :: S))) := by
  obtain ⟨locs, X, eT, N, hn0, hx, hZ, hown, hby, hml, hrt, hlk⟩ := Y
  subst hp hr
  exact q.of1 fun t q => XS.lcmp X.here hx rfl (hb hby hd) rfl q
theorem Gl.arraylength (Y : Sd Z own bs mx ret n0 p l e R s m args below meth c T h k n) {a : Addr} {ck : ClassId} {ty : FieldType} {z : Int32} {vs : List Value} {d : Value} (F : Arv Z h a ck ty z vs d) (hd : decode bs pc = .ok (.arraylength, 1)) (hp : pc + 1 = pc') (q : Gl p e below P (T.setTop (mkF m pc' L (.int z :: S)))) : Gl p e below P (T.setTop (mkF m pc L (.ref a :: S))) := by
  obtain ⟨locs, X, eT, N, hn0, hx, hZ, hown, hby, hml, hrt, hlk⟩ := Y
  subst hp
  exact q.of1 fun t q => by
    obtain ⟨cl, A, -, S1, N1, -⟩ := F
    exact X.arraylength hx (by rw [eT]; exact A.1) (State.isArrayOf_alike hZ.alike A.2.1) (g := mkF m pc L (.ref a :: S)) rfl rfl (hb hby hd) t (by rw [len_of S1 N1]; exact q)
theorem Gl.iaload (Y : Sd Z own bs mx ret n0 p l e R s m args below meth c T h k n) {a : Addr} {ck : ClassId} {z j : Int32} {vs : List Value} {d v : Value} (F : Arv Z h a ck .int z vs d) (hj : ¬ j < 0 ∧ j < z) (hv : vs.getD j.toNatClampNeg d = v) (hd : decode bs pc = .ok (.iaload, 1)) (hp : pc + 1 = pc') (q : Gl p e below P (T.setTop (mkF m pc' L (v :: S)))) : Gl p e below P (T.setTop (mkF m pc L (.int j :: .ref a :: S))) := by
  obtain ⟨locs, X, eT, N, hn0, hx, hZ, hown, hby, hml, hrt, hlk⟩ := Y
  subst hp
  exact q.of1 fun t q => by
    obtain ⟨cl, A, -, S1, N1, H, -⟩ := F
    exact X.iaload hx (by rw [eT]; exact A.1) (State.isArrayOf_alike hZ.alike A.2.1) A.2.2 (inb_of S1 hj) (H.at (inb_of S1 hj) hv) (g := mkF m pc L (.int j :: .ref a :: S)) rfl rfl (hb hby hd) t q
theorem Gl.laload (Y : Sd Z own bs mx ret n0 p l e R s m args below meth c T h k n) {a : Addr} {ck : ClassId} {z j : Int32} {vs : List Value} {d v : Value} (F : Arv Z h a ck .long z vs d) (hj : ¬ j < 0 ∧ j < z) (hv : vs.getD j.toNatClampNeg d = v) (hd : decode bs pc = .ok (.laload, 1)) (hp : pc + 1 = pc') (q : Gl p e below P (T.setTop (mkF m pc' L (v :: S)))) : Gl p e below P (T.setTop (mkF m pc L (.int j :: .ref a :: S))) := by
  obtain ⟨locs, X, eT, N, hn0, hx, hZ, hown, hby, hml, hrt, hlk⟩ := Y
  subst hp
  exact q.of1 fun t q => by
    obtain ⟨cl, A, -, S1, N1, H, -⟩ := F
    exact X.laload hx (by rw [eT]; exact A.1) (State.isArrayOf_alike hZ.alike A.2.1) A.2.2 (inb_of S1 hj) (H.at (inb_of S1 hj) hv) (g := mkF m pc L (.int j :: .ref a :: S)) rfl rfl (hb hby hd) t q
theorem Gl.caload (Y : Sd Z own bs mx ret n0 p l e R s m args below meth c T h k n) {a : Addr} {ck : ClassId} {z j : Int32} {vs : List Value} {d v : Value} (F : Arv Z h a ck .char z vs d) (hj : ¬ j < 0 ∧ j < z) (hv : vs.getD j.toNatClampNeg d = v) (hd : decode bs pc = .ok (.caload, 1)) (hp : pc + 1 = pc') (q : Gl p e below P (T.setTop (mkF m pc' L (v :: S)))) : Gl p e below P (T.setTop (mkF m pc L (.int j :: .ref a :: S))) := by
  obtain ⟨locs, X, eT, N, hn0, hx, hZ, hown, hby, hml, hrt, hlk⟩ := Y
  subst hp
  exact q.of1 fun t q => by
    obtain ⟨cl, A, -, S1, N1, H, -⟩ := F
    exact X.caload hx (by rw [eT]; exact A.1) (State.isArrayOf_alike hZ.alike A.2.1) A.2.2 (inb_of S1 hj) (H.at (inb_of S1 hj) hv) (g := mkF m pc L (.int j :: .ref a :: S)) rfl rfl (hb hby hd) t q
theorem Gl.saload (Y : Sd Z own bs mx ret n0 p l e R s m args below meth c T h k n) {a : Addr} {ck : ClassId} {z j : Int32} {vs : List Value} {d v : Value} (F : Arv Z h a ck .short z vs d) (hj : ¬ j < 0 ∧ j < z) (hv : vs.getD j.toNatClampNeg d = v) (hd : decode bs pc = .ok (.saload, 1)) (hp : pc + 1 = pc') (q : Gl p e below P (T.setTop (mkF m pc' L (v :: S)))) : Gl p e below P (T.setTop (mkF m pc L (.int j :: .ref a :: S))) := by
  obtain ⟨locs, X, eT, N, hn0, hx, hZ, hown, hby, hml, hrt, hlk⟩ := Y
  subst hp
  exact q.of1 fun t q => by
    obtain ⟨cl, A, -, S1, N1, H, -⟩ := F
    exact X.saload hx (by rw [eT]; exact A.1) (State.isArrayOf_alike hZ.alike A.2.1) A.2.2 (inb_of S1 hj) (H.at (inb_of S1 hj) hv) (g := mkF m pc L (.int j :: .ref a :: S)) rfl rfl (hb hby hd) t q
theorem Gl.baload (Y : Sd Z own bs mx ret n0 p l e R s m args below meth c T h k n) {a : Addr} {ck : ClassId} {z j : Int32} {vs : List Value} {d v : Value} (F : Arv Z h a ck .byte z vs d) (hj : ¬ j < 0 ∧ j < z) (hv : vs.getD j.toNatClampNeg d = v) (hd : decode bs pc = .ok (.baload, 1)) (hp : pc + 1 = pc') (q : Gl p e below P (T.setTop (mkF m pc' L (v :: S)))) : Gl p e below P (T.setTop (mkF m pc L (.int j :: .ref a :: S))) := by
  obtain ⟨locs, X, eT, N, hn0, hx, hZ, hown, hby, hml, hrt, hlk⟩ := Y
  subst hp
  exact q.of1 fun t q => by
    obtain ⟨cl, A, -, S1, N1, H, -⟩ := F
    exact X.baloadBytes hx (by rw [eT]; exact A.1) (State.isArrayOf_alike hZ.alike A.2.1) A.2.2 (inb_of S1 hj) (H.at (inb_of S1 hj) hv) (g := mkF m pc L (.int j :: .ref a :: S)) rfl rfl (hb hby hd) t q
theorem Gl.goto (Y : Sd Z own bs mx ret n0 p l e R s m args below meth c T h k n) {o : Int} (hd : decode bs pc = .ok (.goto o, 3)) (ho : 0 ≤ (pc : Int) + o) (hp : ((pc : Int) + o).toNat = pc') (q : Gl p e below P (T.setTop (mkF m pc' L S))) : Gl p e below P (T.setTop (mkF m pc L S)) := by
  obtain ⟨locs, X, eT, N, hn0, hx, hZ, hown, hby, hml, hrt, hlk⟩ := Y
  exact q.of1 fun t q => XS.goto X.here hx rfl rfl (hb hby hd) ho hp q
theorem Gl.ifeq (Y : Sd Z own bs mx ret n0 p l e R s m args below meth c T h k n) {x : Int32} {o : Int} (hd : decode bs pc = .ok (.ifCond .eq o, 3)) (ho : 0 ≤ (pc : Int) + o) (ht : ((pc : Int) + o).toNat = pcT) (hf : pc + 3 = pcF) (q1 : x = 0 → Gl p e below P (T.setTop (mkF m pcT L S))) (q2 : ¬ x = 0 → Gl p e below P (T.setTop (mkF m pcF L S))) : Gl p e below P (T.setTop (mkF m pc L (.int x :: S))) := by
  obtain ⟨locs, X, eT, N, hn0, hx, hZ, hown, hby, hml, hrt, hlk⟩ := Y
  by_cases hq : x = 0
  · exact (q1 hq).of1 fun t q => XS.ifYes X.here hx rfl rfl (hb hby hd) rfl (Jvm.Free.XT.i0_eq_t hq) ho ht q
  · subst hf
    exact (q2 (by first | exact hq | exact Decidable.not_not.mp hq)).of1 fun t q => XS.ifNo X.here hx rfl (hb hby hd) rfl (Jvm.Free.XT.i0_eq_f (by first | exact hq | exact Decidable.not_not.mp hq)) q
theorem Gl.icmpeq (Y : Sd Z own bs mx ret n0 p l e R s m args below meth c T h k n) {x y : Int32} {o : Int} (hd : decode bs pc = .ok (.if_icmp .eq o, 3)) (ho : 0 ≤ (pc : Int) + o) (ht : ((pc : Int) + o).toNat = pcT) (hf : pc + 3 = pcF) (q1 : x = y → Gl p e below P (T.setTop (mkF m pcT L S))) (q2 : ¬ x = y → Gl p e below P (T.setTop (mkF m pcF L S))) : Gl p e below P (T.setTop (mkF m pc L (.int y :: .int x :: S))) := by
  obtain ⟨locs, X, eT, N, hn0, hx, hZ, hown, hby, hml, hrt, hlk⟩ := Y
  by_cases hq : x = y
  · exact (q1 hq).of1 fun t q => XS.icmpYes X.here hx rfl rfl (hb hby hd) rfl (Jvm.Free.XT.ii_eq_t hq) ho ht q
  · subst hf
    exact (q2 (by first | exact hq | exact Decidable.not_not.mp hq)).of1 fun t q => XS.icmpNo X.here hx rfl (hb hby hd) rfl (Jvm.Free.XT.ii_eq_f (by first | exact hq | exact Decidable.not_not.mp hq)) q
theorem Gl.lcmpeq (Y : Sd Z own bs mx ret n0 p l e R s m args below meth c T h k n) {x y : Int64} {pc1 : Nat} {o : Int} (hd0 : decode bs pc = .ok (.lcmp, 1)) (hp1 : pc + 1 = pc1) (hd : decode bs pc1 = .ok (.ifCond .eq o, 3)) (ho : 0 ≤ (pc1 : Int) + o) (ht : ((pc1 : Int) + o).toNat = pcT) (hf : pc1 + 3 = pcF) (q1 : x = y → Gl p e below P (T.setTop (mkF m pcT L S))) (q2 : ¬ x = y → Gl p e below P (T.setTop (mkF m pcF L S))) : Gl p e below P (T.setTop (mkF m pc L (.long y :: .long x :: S))) := by
  refine Gl.lcmp Y rfl hd0 hp1 ?_
  obtain ⟨locs, X, eT, N, hn0, hx, hZ, hown, hby, hml, hrt, hlk⟩ := Y
  by_cases hq : x = y
  · exact (q1 hq).of1 fun t q => XS.ifYes X.here hx rfl rfl (hb hby hd) rfl (Jvm.Free.XT.ll_eq_t hq) ho ht q
  · subst hf
    exact (q2 (by first | exact hq | exact Decidable.not_not.mp hq)).of1 fun t q => XS.ifNo X.here hx rfl (hb hby hd) rfl (Jvm.Free.XT.ll_eq_f (by first | exact hq | exact Decidable.not_not.mp hq)) q
theorem Gl.ifne (Y : Sd Z own bs mx ret n0 p l e R s m args below meth c T h k n) {x : Int32} {o : Int} (hd : decode bs pc = .ok (.ifCond .ne o, 3)) (ho : 0 ≤ (pc : Int) + o) (ht : ((pc : Int) + o).toNat = pcT) (hf : pc + 3 = pcF) (q1 : ¬ x = 0 → Gl p e below P (T.setTop (mkF m pcT L S))) (q2 : x = 0 → Gl p e below P (T.setTop (mkF m pcF L S))) : Gl p e below P (T.setTop (mkF m pc L (.int x :: S))) := by
  obtain ⟨locs, X, eT, N, hn0, hx, hZ, hown, hby, hml, hrt, hlk⟩ := Y
  by_cases hq : ¬ x = 0
  · exact (q1 hq).of1 fun t q => XS.ifYes X.here hx rfl rfl (hb hby hd) rfl (Jvm.Free.XT.i0_ne_t hq) ho ht q
  · subst hf
    exact (q2 (by first | exact hq | exact Decidable.not_not.mp hq)).of1 fun t q => XS.ifNo X.here hx rfl (hb hby hd) rfl (Jvm.Free.XT.i0_ne_f (by first | exact hq | exact Decidable.not_not.mp hq)) q
theorem Gl.icmpne (Y : Sd Z own bs mx ret n0 p l e R s m args below meth c T h k n) {x y : Int32} {o : Int} (hd : decode bs pc = .ok (.if_icmp .ne o, 3)) (ho : 0 ≤ (pc : Int) + o) (ht : ((pc : Int) + o).toNat = pcT) (hf : pc + 3 = pcF) (q1 : ¬ x = y → Gl p e below P (T.setTop (mkF m pcT L S))) (q2 : x = y → Gl p e below P (T.setTop (mkF m pcF L S))) : Gl p e below P (T.setTop (mkF m pc L (.int y :: .int x :: S))) := by
  obtain ⟨locs, X, eT, N, hn0, hx, hZ, hown, hby, hml, hrt, hlk⟩ := Y
  by_cases hq : ¬ x = y
  · exact (q1 hq).of1 fun t q => XS.icmpYes X.here hx rfl rfl (hb hby hd) rfl (Jvm.Free.XT.ii_ne_t hq) ho ht q
  · subst hf
    exact (q2 (by first | exact hq | exact Decidable.not_not.mp hq)).of1 fun t q => XS.icmpNo X.here hx rfl (hb hby hd) rfl (Jvm.Free.XT.ii_ne_f (by first | exact hq | exact Decidable.not_not.mp hq)) q
theorem Gl.lcmpne (Y : Sd Z own bs mx ret n0 p l e R s m args below meth c T h k n) {x y : Int64} {pc1 : Nat} {o : Int} (hd0 : decode bs pc = .ok (.lcmp, 1)) (hp1 : pc + 1 = pc1) (hd : decode bs pc1 = .ok (.ifCond .ne o, 3)) (ho : 0 ≤ (pc1 : Int) + o) (ht : ((pc1 : Int) + o).toNat = pcT) (hf : pc1 + 3 = pcF) (q1 : ¬ x = y → Gl p e below P (T.setTop (mkF m pcT L S))) (q2 : x = y → Gl p e below P (T.setTop (mkF m pcF L S))) : Gl p e below P (T.setTop (mkF m pc L (.long y :: .long x :: S))) := by
  refine Gl.lcmp Y rfl hd0 hp1 ?_
  obtain ⟨locs, X, eT, N, hn0, hx, hZ, hown, hby, hml, hrt, hlk⟩ := Y
  by_cases hq : ¬ x = y
  · exact (q1 hq).of1 fun t q => XS.ifYes X.here hx rfl rfl (hb hby hd) rfl (Jvm.Free.XT.ll_ne_t hq) ho ht q
  · subst hf
    exact (q2 (by first | exact hq | exact Decidable.not_not.mp hq)).of1 fun t q => XS.ifNo X.here hx rfl (hb hby hd) rfl (Jvm.Free.XT.ll_ne_f (by first | exact hq | exact Decidable.not_not.mp hq)) q
theorem Gl.iflt (Y : Sd Z own bs mx ret n0 p l e R s m args below meth c T h k n) {x : Int32} {o : Int} (hd : decode bs pc = .ok (.ifCond .lt o, 3)) (ho : 0 ≤ (pc : Int) + o) (ht : ((pc : Int) + o).toNat = pcT) (hf : pc + 3 = pcF) (q1 : x < 0 → Gl p e below P (T.setTop (mkF m pcT L S))) (q2 : ¬ x < 0 → Gl p e below P (T.setTop (mkF m pcF L S))) : Gl p e below P (T.setTop (mkF m pc L (.int x :: S))) := by
  obtain ⟨locs, X, eT, N, hn0, hx, hZ, hown, hby, hml, hrt, hlk⟩ := Y
  by_cases hq : x < 0
  · exact (q1 hq).of1 fun t q => XS.ifYes X.here hx rfl rfl (hb hby hd) rfl (Jvm.Free.XT.i0_lt_t hq) ho ht q
  · subst hf
    exact (q2 (by first | exact hq | exact Decidable.not_not.mp hq)).of1 fun t q => XS.ifNo X.here hx rfl (hb hby hd) rfl (Jvm.Free.XT.i0_lt_f (by first | exact hq | exact Decidable.not_not.mp hq)) q
theorem Gl.icmplt (Y : Sd Z own bs mx ret n0 p l e R s m args below meth c T h k n) {x y : Int32} {o : Int} (hd : decode bs pc = .ok (.if_icmp .lt o, 3)) (ho : 0 ≤ (pc : Int) + o) (ht : ((pc : Int) + o).toNat = pcT) (hf : pc + 3 = pcF) (q1 : x < y → Gl p e below P (T.setTop (mkF m pcT L S))) (q2 : ¬ x < y → Gl p e below P (T.setTop (mkF m pcF L S))) : Gl p e below P (T.setTop (mkF m pc L (.int y :: .int x :: S))) := by
  obtain ⟨locs, X, eT, N, hn0, hx, hZ, hown, hby, hml, hrt, hlk⟩ := Y
  by_cases hq : x < y
  · exact (q1 hq).of1 fun t q => XS.icmpYes X.here hx rfl rfl (hb hby hd) rfl (Jvm.Free.XT.ii_lt_t hq) ho ht q
  · subst hf
    exact (q2 (by first | exact hq | exact Decidable.not_not.mp hq)).of1 fun t q => XS.icmpNo X.here hx rfl (hb hby hd) rfl (Jvm.Free.XT.ii_lt_f (by first | exact hq | exact Decidable.not_not.mp hq)) q
theorem Gl.lcmplt (Y : Sd Z own bs mx ret n0 p l e R s m args below meth c T h k n) {x y : Int64} {pc1 : Nat} {o : Int} (hd0 : decode bs pc = .ok (.lcmp, 1)) (hp1 : pc + 1 = pc1) (hd : decode bs pc1 = .ok (.ifCond .lt o, 3)) (ho : 0 ≤ (pc1 : Int) + o) (ht : ((pc1 : Int) + o).toNat = pcT) (hf : pc1 + 3 = pcF) (q1 : x < y → Gl p e below P (T.setTop (mkF m pcT L S))) (q2 : ¬ x < y → Gl p e below P (T.setTop (mkF m pcF L S))) : Gl p e below P (T.setTop (mkF m pc L (.long y :: .long x :: S))) := by
  refine Gl.lcmp Y rfl hd0 hp1 ?_
  obtain ⟨locs, X, eT, N, hn0, hx, hZ, hown, hby, hml, hrt, hlk⟩ := Y
  by_cases hq : x < y
  · exact (q1 hq).of1 fun t q => XS.ifYes X.here hx rfl rfl (hb hby hd) rfl (Jvm.Free.XT.ll_lt_t hq) ho ht q
  · subst hf
    exact (q2 (by first | exact hq | exact Decidable.not_not.mp hq)).of1 fun t q => XS.ifNo X.here hx rfl (hb hby hd) rfl (Jvm.Free.XT.ll_lt_f (by first | exact hq | exact Decidable.not_not.mp hq)) q
theorem Gl.ifge (Y : Sd Z own bs mx ret n0 p l e R s m args below meth c T h k n) {x : Int32} {o : Int} (hd : decode bs pc = .ok (.ifCond .ge o, 3)) (ho : 0 ≤ (pc : Int) + o) (ht : ((pc : Int) + o).toNat = pcT) (hf : pc + 3 = pcF) (q1 : ¬ x < 0 → Gl p e below P (T.setTop (mkF m pcT L S))) (q2 : x < 0 → Gl p e below P (T.setTop (mkF m pcF L S))) : Gl p e below P (T.setTop (mkF m pc L (.int x :: S))) := by
  obtain ⟨locs, X, eT, N, hn0, hx, hZ, hown, hby, hml, hrt, hlk⟩ := Y
  by_cases hq : ¬ x < 0
  · exact (q1 hq).of1 fun t q => XS.ifYes X.here hx rfl rfl (hb hby hd) rfl (Jvm.Free.XT.i0_ge_t hq) ho ht q
  · subst hf
    exact (q2 (by first | exact hq | exact Decidable.not_not.mp hq)).of1 fun t q => XS.ifNo X.here hx rfl (hb hby hd) rfl (Jvm.Free.XT.i0_ge_f (by first | exact hq | exact Decidable.not_not.mp hq)) q
theorem Gl.icmpge (Y : Sd Z own bs mx ret n0 p l e R s m args below meth c T h k n) {x y : Int32} {o : Int} (hd : decode bs pc = .ok (.if_icmp .ge o, 3)) (ho : 0 ≤ (pc : Int) + o) (ht : ((pc : Int) + o).toNat = pcT) (hf : pc + 3 = pcF) (q1 : ¬ x < y → Gl p e below P (T.setTop (mkF m pcT L S))) (q2 : x < y → Gl p e below P (T.setTop (mkF m pcF L S))) : Gl p e below P (T.setTop (mkF m pc L (.int y :: .int x :: S))) := by
  obtain ⟨locs, X, eT, N, hn0, hx, hZ, hown, hby, hml, hrt, hlk⟩ := Y
  by_cases hq : ¬ x < y
  · exact (q1 hq).of1 fun t q => XS.icmpYes X.here hx rfl rfl (hb hby hd) rfl (Jvm.Free.XT.ii_ge_t hq) ho ht q
  · subst hf
    exact (q2 (by first | exact hq | exact Decidable.not_not.mp hq)).of1 fun t q => XS.icmpNo X.here hx rfl (hb hby hd) rfl (Jvm.Free.XT.ii_ge_f (by first | exact hq | exact Decidable.not_not.mp hq)) q
theorem Gl.lcmpge (Y : Sd Z own bs mx ret n0 p l e R s m args below meth c T h k n) {x y : Int64} {pc1 : Nat} {o : Int} (hd0 : decode bs pc = .ok (.lcmp, 1)) (hp1 : pc + 1 = pc1) (hd : decode bs pc1 = .ok (.ifCond .ge o, 3)) (ho : 0 ≤ (pc1 : Int) + o) (ht : ((pc1 : Int) + o).toNat = pcT) (hf : pc1 + 3 = pcF) (q1 : ¬ x < y → Gl p e below P (T.setTop (mkF m pcT L S))) (q2 : x < y → Gl p e below P (T.setTop (mkF m pcF L S))) : Gl p e below P (T.setTop (mkF m pc L (.long y :: .long x :: S))) := by
  refine Gl.lcmp Y rfl hd0 hp1 ?_
  obtain ⟨locs, X, eT, N, hn0, hx, hZ, hown, hby, hml, hrt, hlk⟩ := Y
  by_cases hq : ¬ x < y
  · exact (q1 hq).of1 fun t q => XS.ifYes X.here hx rfl rfl (hb hby hd) rfl (Jvm.Free.XT.ll_ge_t hq) ho ht q
  · subst hf
    exact (q2 (by first | exact hq | exact Decidable.not_not.mp hq)).of1 fun t q => XS.ifNo X.here hx rfl (hb hby hd) rfl (Jvm.Free.XT.ll_ge_f (by first | exact hq | exact Decidable.not_not.mp hq)) q
theorem Gl.ifgt (Y : Sd Z own bs mx ret n0 p l e R s m args below meth c T h k n) {x : Int32} {o : Int} (hd : decode bs pc = .ok (.ifCond .gt o, 3)) (ho : 0 ≤ (pc : Int) + o) (ht : ((pc : Int) + o).toNat = pcT) (hf : pc + 3 = pcF) (q1 : 0 < x → Gl p e below P (T.setTop (mkF m pcT L S))) (q2 : ¬ 0 < x → Gl p e below P (T.setTop (mkF m pcF L S))) : Gl p e below P (T.setTop (mkF m pc L (.int x :: S))) := by
  obtain ⟨locs, X, eT, N, hn0, hx, hZ, hown, hby, hml, hrt, hlk⟩ := Y
  by_cases hq : 0 < x
  · exact (q1 hq).of1 fun t q => XS.ifYes X.here hx rfl rfl (hb hby hd) rfl (Jvm.Free.XT.i0_gt_t hq) ho ht q
  · subst hf
    exact (q2 (by first | exact hq | exact Decidable.not_not.mp hq)).of1 fun t q => XS.ifNo X.here hx rfl (hb hby hd) rfl (Jvm.Free.XT.i0_gt_f (by first | exact hq | exact Decidable.not_not.mp hq)) q
theorem Gl.icmpgt (Y : Sd Z own bs mx ret n0 p l e R s m args below meth c T h k n) {x y : Int32} {o : Int} (hd : decode bs pc = .ok (.if_icmp .gt o, 3)) (ho : 0 ≤ (pc : Int) + o) (ht : ((pc : Int) + o).toNat = pcT) (hf : pc + 3 = pcF) (q1 : y < x → Gl p e below P (T.setTop (mkF m pcT L S))) (q2 : ¬ y < x → Gl p e below P (T.setTop (mkF m pcF L S))) : Gl p e below P (T.setTop (mkF m pc L (.int y :: .int x :: S))) := by
  obtain ⟨locs, X, eT, N, hn0, hx, hZ, hown, hby, hml, hrt, hlk⟩ := Y
  by_cases hq : y < x
  · exact (q1 hq).of1 fun t q => XS.icmpYes X.here hx rfl rfl (hb hby hd) rfl (Jvm.Free.XT.ii_gt_t hq) ho ht q
  · subst hf
    exact (q2 (by first | exact hq | exact Decidable.not_not.mp hq)).of1 fun t q => XS.icmpNo X.here hx rfl (hb hby hd) rfl (Jvm.Free.XT.ii_gt_f (by first | exact hq | exact Decidable.not_not.mp hq)) q
theorem Gl.lcmpgt (Y : Sd Z own bs mx ret n0 p l e R s m args below meth c T h k n) {x y : Int64} {pc1 : Nat} {o : Int} (hd0 : decode bs pc = .ok (.lcmp, 1)) (hp1 : pc + 1 = pc1) (hd : decode bs pc1 = .ok (.ifCond .gt o, 3)) (ho : 0 ≤ (pc1 : Int) + o) (ht : ((pc1 : Int) + o).toNat = pcT) (hf : pc1 + 3 = pcF) (q1 : y < x → Gl p e below P (T.setTop (mkF m pcT L S))) (q2 : ¬ y < x → Gl p e below P (T.setTop (mkF m pcF L S))) : Gl p e below P (T.setTop (mkF m pc L (.long y :: .long x :: S))) := by
  refine Gl.lcmp Y rfl hd0 hp1 ?_
  obtain ⟨locs, X, eT, N, hn0, hx, hZ, hown, hby, hml, hrt, hlk⟩ := Y
  by_cases hq : y < x
  · exact (q1 hq).of1 fun t q => XS.ifYes X.here hx rfl rfl (hb hby hd) rfl (Jvm.Free.XT.ll_gt_t hq) ho ht q
  · subst hf
    exact (q2 (by first | exact hq | exact Decidable.not_not.mp hq)).of1 fun t q => XS.ifNo X.here hx rfl (hb hby hd) rfl (Jvm.Free.XT.ll_gt_f (by first | exact hq | exact Decidable.not_not.mp hq)) q
theorem Gl.ifle (Y : Sd Z own bs mx ret n0 p l e R s m args below meth c T h k n) {x : Int32} {o : Int} (hd : decode bs pc = .ok (.ifCond .le o, 3)) (ho : 0 ≤ (pc : Int) + o) (ht : ((pc : Int) + o).toNat = pcT) (hf : pc + 3 = pcF) (q1 : ¬ 0 < x → Gl p e below P (T.setTop (mkF m pcT L S))) (q2 : 0 < x → Gl p e below P (T.setTop (mkF m pcF L S))) : Gl p e below P (T.setTop (mkF m pc L (.int x :: S))) := by
  obtain ⟨locs, X, eT, N, hn0, hx, hZ, hown, hby, hml, hrt, hlk⟩ := Y
  by_cases hq : ¬ 0 < x
  · exact (q1 hq).of1 fun t q => XS.ifYes X.here hx rfl rfl (hb hby hd) rfl (Jvm.Free.XT.i0_le_t hq) ho ht q
  · subst hf
    exact (q2 (by first | exact hq | exact Decidable.not_not.mp hq)).of1 fun t q => XS.ifNo X.here hx rfl (hb hby hd) rfl (Jvm.Free.XT.i0_le_f (by first | exact hq | exact Decidable.not_not.mp hq)) q
theorem Gl.icmple (Y : Sd Z own bs mx ret n0 p l e R s m args below meth c T h k n) {x y : Int32} {o : Int} (hd : decode bs pc = .ok (.if_icmp .le o, 3)) (ho : 0 ≤ (pc : Int) + o) (ht : ((pc : Int) + o).toNat = pcT) (hf : pc + 3 = pcF) (q1 : ¬ y < x → Gl p e below P (T.setTop (mkF m pcT L S))) (q2 : y < x → Gl p e below P (T.setTop (mkF m pcF L S))) : Gl p e below P (T.setTop (mkF m pc L (.int y :: .int x :: S))) := by
  obtain ⟨locs, X, eT, N, hn0, hx, hZ, hown, hby, hml, hrt, hlk⟩ := Y
  by_cases hq : ¬ y < x
  · exact (q1 hq).of1 fun t q => XS.icmpYes X.here hx rfl rfl (hb hby hd) rfl (Jvm.Free.XT.ii_le_t hq) ho ht q
  · subst hf
    exact (q2 (by first | exact hq | exact Decidable.not_not.mp hq)).of1 fun t q => XS.icmpNo X.here hx rfl (hb hby hd) rfl (Jvm.Free.XT.ii_le_f (by first | exact hq | exact Decidable.not_not.mp hq)) q
theorem Gl.lcmple (Y : Sd Z own bs mx ret n0 p l e R s m args below meth c T h k n) {x y : Int64} {pc1 : Nat} {o : Int} (hd0 : decode bs pc = .ok (.lcmp, 1)) (hp1 : pc + 1 = pc1) (hd : decode bs pc1 = .ok (.ifCond .le o, 3)) (ho : 0 ≤ (pc1 : Int) + o) (ht : ((pc1 : Int) + o).toNat = pcT) (hf : pc1 + 3 = pcF) (q1 : ¬ y < x → Gl p e below P (T.setTop (mkF m pcT L S))) (q2 : y < x → Gl p e below P (T.setTop (mkF m pcF L S))) : Gl p e below P (T.setTop (mkF m pc L (.long y :: .long x :: S))) := by
  refine Gl.lcmp Y rfl hd0 hp1 ?_
  obtain ⟨locs, X, eT, N, hn0, hx, hZ, hown, hby, hml, hrt, hlk⟩ := Y
  by_cases hq : ¬ y < x
  · exact (q1 hq).of1 fun t q => XS.ifYes X.here hx rfl rfl (hb hby hd) rfl (Jvm.Free.XT.ll_le_t hq) ho ht q
  · subst hf
    exact (q2 (by first | exact hq | exact Decidable.not_not.mp hq)).of1 fun t q => XS.ifNo X.here hx rfl (hb hby hd) rfl (Jvm.Free.XT.ll_le_f (by first | exact hq | exact Decidable.not_not.mp hq)) q
theorem Gl.ifnullY (Y : Sd Z own bs mx ret n0 p l e R s m args below meth c T h k n)  {o : Int} (hd : decode bs pc = .ok (.ifnull o, 3)) (ho : 0 ≤ (pc : Int) + o) (ht : ((pc : Int) + o).toNat = pcT) (q : Gl p e below P (T.setTop (mkF m pcT L S))) : Gl p e below P (T.setTop (mkF m pc L (.null :: S))) := by
  obtain ⟨locs, X, eT, N, hn0, hx, hZ, hown, hby, hml, hrt, hlk⟩ := Y
  exact q.of1 fun t q => XS.ifnullYes X.here hx rfl rfl (hb hby hd) rfl ho ht q
theorem Gl.ifnullN (Y : Sd Z own bs mx ret n0 p l e R s m args below meth c T h k n) {b : Addr} {o : Int} (hd : decode bs pc = .ok (.ifnull o, 3)) (hf : pc + 3 = pcF) (q : Gl p e below P (T.setTop (mkF m pcF L S))) : Gl p e below P (T.setTop (mkF m pc L (.ref b :: S))) := by
  obtain ⟨locs, X, eT, N, hn0, hx, hZ, hown, hby, hml, hrt, hlk⟩ := Y
  subst hf
  exact q.of1 fun t q => XS.ifnullNo X.here hx rfl (hb hby hd) rfl q
theorem Gl.ifnonnullY (Y : Sd Z own bs mx ret n0 p l e R s m args below meth c T h k n) {b : Addr} {o : Int} (hd : decode bs pc = .ok (.ifnonnull o, 3)) (ho : 0 ≤ (pc : Int) + o) (ht : ((pc : Int) + o).toNat = pcT) (q : Gl p e below P (T.setTop (mkF m pcT L S))) : Gl p e below P (T.setTop (mkF m pc L (.ref b :: S))) := by
  obtain ⟨locs, X, eT, N, hn0, hx, hZ, hown, hby, hml, hrt, hlk⟩ := Y
  exact q.of1 fun t q => XS.ifnonnullYes X.here hx rfl rfl (hb hby hd) rfl ho ht q
theorem Gl.ifnonnullN (Y : Sd Z own bs mx ret n0 p l e R s m args below meth c T h k n)  {o : Int} (hd : decode bs pc = .ok (.ifnonnull o, 3)) (hf : pc + 3 = pcF) (q : Gl p e below P (T.setTop (mkF m pcF L S))) : Gl p e below P (T.setTop (mkF m pc L (.null :: S))) := by
  obtain ⟨locs, X, eT, N, hn0, hx, hZ, hown, hby, hml, hrt, hlk⟩ := Y
  subst hf
  exact q.of1 fun t q => XS.ifnonnullNo X.here hx rfl (hb hby hd) rfl q
theorem Gl.acmpeq (Y : Sd Z own bs mx ret n0 p l e R s m args below meth c T h k n) {x y : Value} {o : Int} (h1 : x.isRef = true) (h2 : y.isRef = true) (hd : decode bs pc = .ok (.if_acmp .eq o, 3)) (ho : 0 ≤ (pc : Int) + o) (ht : ((pc : Int) + o).toNat = pcT) (hf : pc + 3 = pcF) (q1 : x = y → Gl p e below P (T.setTop (mkF m pcT L S))) (q2 : ¬ x = y → Gl p e below P (T.setTop (mkF m pcF L S))) : Gl p e below P (T.setTop (mkF m pc L (y :: x :: S))) := by
  obtain ⟨locs, X, eT, N, hn0, hx, hZ, hown, hby, hml, hrt, hlk⟩ := Y
  subst ht hf
  by_cases hq : x = y
  · exact (q1 hq).of1 fun t q => Jvm.RoadKit.acmp (g := mkF m pc L (y :: x :: S)) X hx rfl h1 h2 (pc0 := pc) (same := true) rfl (hb hby hd) rfl (decide_eq_true hq) ho rfl q
  · exact (q2 hq).of1 fun t q => Jvm.RoadKit.acmp (g := mkF m pc L (y :: x :: S)) X hx rfl h1 h2 (pc0 := pc) (same := false) rfl (hb hby hd) rfl (decide_eq_false hq) ho rfl q
theorem Gl.acmpne (Y : Sd Z own bs mx ret n0 p l e R s m args below meth c T h k n) {x y : Value} {o : Int} (h1 : x.isRef = true) (h2 : y.isRef = true) (hd : decode bs pc = .ok (.if_acmp .ne o, 3)) (ho : 0 ≤ (pc : Int) + o) (ht : ((pc : Int) + o).toNat = pcT) (hf : pc + 3 = pcF) (q1 : ¬ x = y → Gl p e below P (T.setTop (mkF m pcT L S))) (q2 : x = y → Gl p e below P (T.setTop (mkF m pcF L S))) : Gl p e below P (T.setTop (mkF m pc L (y :: x :: S))) := by
  obtain ⟨locs, X, eT, N, hn0, hx, hZ, hown, hby, hml, hrt, hlk⟩ := Y
  subst ht hf
  by_cases hq : x = y
  · exact (q2 hq).of1 fun t q => Jvm.RoadKit.acmp (g := mkF m pc L (y :: x :: S)) X hx rfl h1 h2 (pc0 := pc) (same := true) rfl (hb hby hd) rfl (decide_eq_true hq) ho rfl q
  · exact (q1 hq).of1 fun t q => Jvm.RoadKit.acmp (g := mkF m pc L (y :: x :: S)) X hx rfl h1 h2 (pc0 := pc) (same := false) rfl (hb hby hd) rfl (decide_eq_false hq) ho rfl q
theorem Gl.getF (Y : Sd Z own bs mx ret n0 p l e R s m args below meth c T h k n) {i : Nat} {R0 O f d host : String} {a : Addr} {v : Value} (w : (Jvm.Cond.fieldLink own i R0 f d).before a0 Z = true ∨ (Jvm.Cond.fieldLinkNest own i R0 f d host).before a0 Z = true) (via : Via Z R0 O f d) (F : Fld Z h a O f d v) (hd : decode bs pc = .ok (.getfield i, 3)) (hp : pc + 3 = pc') (q : ∀ T', Sd Z own bs mx ret n0 p l e R s m args below meth c T' h k n → Gl p e below P (T'.setTop (mkF m pc' L (v :: S)))) : Gl p e below P (T.setTop (mkF m pc L (.ref a :: S))) := by
  obtain ⟨locs, X, eT, N, hn0, hx, hZ, hown, hby, hml, hrt, hlk⟩ := Y
  subst hp
  obtain ⟨T', X', e', st⟩ := Jvm.RoadKit.getF X hx hZ hown w via eT F (g := mkF m pc L (.ref a :: S)) rfl rfl (hb hby hd)
  exact (q T' ⟨locs, X', e', N, hn0, hx, hZ, hown, hby, hml, hrt, hlk⟩).of1 st
theorem Gl.getS (Y : Sd Z own bs mx ret n0 p l e R s m args below meth c T h k n) {i : Nat} {R0 O f d host : String} {v : Value} (w : (Jvm.Cond.fieldLink own i R0 f d).before a0 Z = true ∨ (Jvm.Cond.fieldLinkNest own i R0 f d host).before a0 Z = true) (via : Via Z R0 O f d) (F : Sta Z h O f d v) (hd : decode bs pc = .ok (.getstatic i, 3)) (hp : pc + 3 = pc') (q : ∀ T', Sd Z own bs mx ret n0 p l e R s m args below meth c T' h k n → Gl p e below P (T'.setTop (mkF m pc' L (v :: S)))) : Gl p e below P (T.setTop (mkF m pc L S)) := by
  obtain ⟨locs, X, eT, N, hn0, hx, hZ, hown, hby, hml, hrt, hlk⟩ := Y
  subst hp
  obtain ⟨T', X', e', st⟩ := getS2 X hx hZ hown w via eT F (g := mkF m pc L S) rfl (hb hby hd)
  exact (q T' ⟨locs, X', e', N, hn0, hx, hZ, hown, hby, hml, hrt, hlk⟩).of1 st
theorem Gl.putF (Y : Sd Z own bs mx ret n0 p l e R s m args below meth c T h k n) {i kk : Nat} {R0 O f d host C : String} {ty : FieldType} {a : Addr} {v old : Value} (w : (Jvm.Cond.fieldLink own i R0 f d).before a0 Z = true ∨ (Jvm.Cond.fieldLinkNest own i R0 f d host).before a0 Z = true) (via : Via Z R0 O f d) (F : Fld Z h a O f d old) (E : Exa Z h a C) (Lw : (Jvm.Cond.lays C O f d).before a0 Z = true ∨ ((Jvm.Cond.laysFinal C O f d).before a0 Z = true ∧ own = O ∧ meth.name = "<init>")) (wi : (Jvm.Cond.instantiable C kk).before a0 Z = true) (ha : n0 ≤ a) (hty : parseFieldDescriptor d = some ty) (hn : narrow ty v = v) (hf : fits ty v = true) (hd : decode bs pc = .ok (.putfield i, 3)) (hp : pc + 3 = pc') (q : ∀ T' h', Sd Z own bs mx ret n0 p l e R s m args below meth c T' h' k n → Wr h h' a (Jvm.RoadKit.slotOf Z O f d) v → Gl p e below P (T'.setTop (mkF m pc' L S))) : Gl p e below P (T.setTop (mkF m pc L (v :: .ref a :: S))) := by
  obtain ⟨locs, X, eT, N, hn0, hx, hZ, hown, hby, hml, hrt, hlk⟩ := Y
  subst hp
  obtain ⟨T', h', X', e', W, st⟩ := Jvm.RoadKit.putF X hx hZ hown w via eT F E Lw wi hty hn hf (g := mkF m pc L (v :: .ref a :: S)) rfl rfl (hb hby hd)
  exact (q T' h' ⟨_, X', e', Fr.snoc X' N ha, hn0, hx, hZ, hown, hby, hml, hrt, hlk⟩ W).of1 st
theorem Gl.putFN (Y : Sd Z own bs mx ret n0 p l e R s m args below meth c T h k n) {i kk : Nat} {R0 O f d C : String} {ty : FieldType} {a : Addr} {v v' old : Value} (w : (Jvm.Cond.fieldLink own i R0 f d).before a0 Z = true) (via : Via Z R0 O f d) (F : Fld Z h a O f d old) (E : Exa Z h a C) (Lw : (Jvm.Cond.lays C O f d).before a0 Z = true ∨ ((Jvm.Cond.laysFinal C O f d).before a0 Z = true ∧ own = O ∧ meth.name = "<init>")) (wi : (Jvm.Cond.instantiable C kk).before a0 Z = true) (ha : n0 ≤ a) (hty : parseFieldDescriptor d = some ty) (hn : narrow ty v = v') (hf : fits ty v' = true) (hd : decode bs pc = .ok (.putfield i, 3)) (hp : pc + 3 = pc') (q : ∀ T' h', Sd Z own bs mx ret n0 p l e R s m args below meth c T' h' k n → Wr h h' a (Jvm.RoadKit.slotOf Z O f d) v' → Gl p e below P (T'.setTop (mkF m pc' L S))) : Gl p e below P (T.setTop (mkF m pc L (v :: .ref a :: S))) := by
  obtain ⟨locs, X, eT, N, hn0, hx, hZ, hown, hby, hml, hrt, hlk⟩ := Y
  subst hp
  obtain ⟨T', h', X', e', W, st⟩ := Jvm.RoadKit.putFN X hx hZ hown w via eT F E Lw wi hty hn hf (g := mkF m pc L (v :: .ref a :: S)) rfl rfl (hb hby hd)
  exact (q T' h' ⟨_, X', e', Fr.snoc X' N ha, hn0, hx, hZ, hown, hby, hml, hrt, hlk⟩ W).of1 st
theorem Gl.newO (Y : Sd Z own bs mx ret n0 p l e R s m args below meth c T h k n) {i sl : Nat} {C : String} (w : (Jvm.Cond.classLink own i C).before a0 Z = true) (wi : (Jvm.Cond.instantiable C sl).before a0 Z = true) (wz : (Jvm.Cond.initialized C).before a0 Z = true) (hc : k + 1 ≤ R.cells) (hl : n + sl ≤ R.slots) (hd : decode bs pc = .ok (.new i, 3)) (hp : pc + 3 = pc') (q : ∀ T' h' b, Sd Z own bs mx ret n0 p l e R s m args below meth c T' h' (k + 1) (n + sl) → Ext h h' → b = h.size → n0 ≤ b → Exa Z h' b C → (∀ {O nm d : String} {ty : FieldType}, Laid Z a0 C O nm d → parseFieldDescriptor d = some ty → Fld Z h' b O nm d (defaultValue ty)) → Gl p e below P (T'.setTop (mkF m pc' L (.ref b :: S)))) : Gl p e below P (T.setTop (mkF m pc L S)) := by
  obtain ⟨locs, X, eT, N, hn0, hx, hZ, hown, hby, hml, hrt, hlk⟩ := Y
  subst hp
  obtain ⟨T', h', X', e', E, A, D, -, st⟩ := Jvm.RoadKit.newO X hx hZ hown w wi wz eT (g := mkF m pc L S) rfl (hb hby hd) hc hl
  exact (q T' h' h.size ⟨locs, X', e', N, hn0, hx, hZ, hown, hby, hml, hrt, hlk⟩ E rfl (eT ▸ Nat.le_trans hn0 (own_grow X)) A D).of1 st
theorem Gl.newP (Y : Sd Z own bs mx ret n0 p l e R s m args below meth c T h k n) {aty : ArrayType} {ty : FieldType} {z : Int32} (cap : Nat) (hat : newarray.typeOf aty = ty) (w : (Jvm.Cond.arrayClass ty).before a0 Z = true) (hz : ¬ z < 0) (hcap : z.toNatClampNeg ≤ cap) (hcb : cap * 8 ≤ 536870912) (hc : k + 1 ≤ R.cells) (hl : n + cap ≤ R.slots) (hd : decode bs pc = .ok (.newarray aty, 2)) (hp : pc + 2 = pc') (q : ∀ T' h' b ck, Sd Z own bs mx ret n0 p l e R s m args below meth c T' h' (k + 1) (n + cap) → Ext h h' → b = h.size → n0 ≤ b → Arv Z h' b ck ty z [] (defaultValue ty) → Gl p e below P (T'.setTop (mkF m pc' L (.ref b :: S)))) : Gl p e below P (T.setTop (mkF m pc L (.int z :: S))) := by
  obtain ⟨locs, X, eT, N, hn0, hx, hZ, hown, hby, hml, hrt, hlk⟩ := Y
  subst hp hat
  obtain ⟨T', h', ck, X', e', E, A, st⟩ := Jvm.RoadKit.newP X hx hZ w eT (g := mkF m pc L (.int z :: S)) rfl (hb hby hd) rfl hz hcap hcb hc hl
  exact (q T' h' h.size ck ⟨locs, X', e', N, hn0, hx, hZ, hown, hby, hml, hrt, hlk⟩ E rfl (eT ▸ Nat.le_trans hn0 (own_grow X)) (Arv.new A hz)).of1 st
theorem Gl.iastore (Y : Sd Z own bs mx ret n0 p l e R s m args below meth c T h k n) {a : Addr} {ck : ClassId} {z j : Int32} {x : Int32} {vs : List Value} {d v : Value} {ix : Nat} (F : Arv Z h a ck .int z vs d) (hv : .int x = v) (hj : ¬ j < 0 ∧ j < z) (hjx : j.toNatClampNeg = ix) (hlen : ix < vs.length) (ha : n0 ≤ a) (hd : decode bs pc = .ok (.iastore, 1)) (hp : pc + 1 = pc') (q : ∀ T' h', Sd Z own bs mx ret n0 p l e R s m args below meth c T' h' k n → Wr h h' a ix v → Arv Z h' a ck .int z (vs.set ix v) d → Gl p e below P (T'.setTop (mkF m pc' L S))) : Gl p e below P (T.setTop (mkF m pc L (.int x :: .int j :: .ref a :: S))) := by
  obtain ⟨locs, X, eT, N, hn0, hx, hZ, hown, hby, hml, hrt, hlk⟩ := Y
  subst hp hv hjx
  obtain ⟨cl, A, C1, S1, N1, H, Gf⟩ := F
  obtain ⟨T', h', X', e', W, st⟩ := stI X hx hZ eT A (inb_of S1 hj) (g := mkF m pc L (.int x :: .int j :: .ref a :: S)) rfl rfl (hb hby hd)
  exact (q T' h' ⟨_, X', e', Fr.snoc X' N ha, hn0, hx, hZ, hown, hby, hml, hrt, hlk⟩ W (Arv.set A C1 S1 N1 H Gf rfl W _ rfl hlen)).of1 st
theorem Gl.lastore (Y : Sd Z own bs mx ret n0 p l e R s m args below meth c T h k n) {a : Addr} {ck : ClassId} {z j : Int32} {x : Int64} {vs : List Value} {d v : Value} {ix : Nat} (F : Arv Z h a ck .long z vs d) (hv : .long x = v) (hj : ¬ j < 0 ∧ j < z) (hjx : j.toNatClampNeg = ix) (hlen : ix < vs.length) (ha : n0 ≤ a) (hd : decode bs pc = .ok (.lastore, 1)) (hp : pc + 1 = pc') (q : ∀ T' h', Sd Z own bs mx ret n0 p l e R s m args below meth c T' h' k n → Wr h h' a ix v → Arv Z h' a ck .long z (vs.set ix v) d → Gl p e below P (T'.setTop (mkF m pc' L S))) : Gl p e below P (T.setTop (mkF m pc L (.long x :: .int j :: .ref a :: S))) := by
  obtain ⟨locs, X, eT, N, hn0, hx, hZ, hown, hby, hml, hrt, hlk⟩ := Y
  subst hp hv hjx
  obtain ⟨cl, A, C1, S1, N1, H, Gf⟩ := F
  obtain ⟨T', h', X', e', W, st⟩ := stJ X hx hZ eT A (inb_of S1 hj) (g := mkF m pc L (.long x :: .int j :: .ref a :: S)) rfl rfl (hb hby hd)
  exact (q T' h' ⟨_, X', e', Fr.snoc X' N ha, hn0, hx, hZ, hown, hby, hml, hrt, hlk⟩ W (Arv.set A C1 S1 N1 H Gf rfl W _ rfl hlen)).of1 st
theorem Gl.castore (Y : Sd Z own bs mx ret n0 p l e R s m args below meth c T h k n) {a : Addr} {ck : ClassId} {z j : Int32} {x : Int32} {vs : List Value} {d v : Value} {ix : Nat} (F : Arv Z h a ck .char z vs d) (hv : .int (nar .char x) = v) (hj : ¬ j < 0 ∧ j < z) (hjx : j.toNatClampNeg = ix) (hlen : ix < vs.length) (ha : n0 ≤ a) (hd : decode bs pc = .ok (.castore, 1)) (hp : pc + 1 = pc') (q : ∀ T' h', Sd Z own bs mx ret n0 p l e R s m args below meth c T' h' k n → Wr h h' a ix v → Arv Z h' a ck .char z (vs.set ix v) d → Gl p e below P (T'.setTop (mkF m pc' L S))) : Gl p e below P (T.setTop (mkF m pc L (.int x :: .int j :: .ref a :: S))) := by
  obtain ⟨locs, X, eT, N, hn0, hx, hZ, hown, hby, hml, hrt, hlk⟩ := Y
  subst hp hv hjx
  obtain ⟨cl, A, C1, S1, N1, H, Gf⟩ := F
  obtain ⟨T', h', X', e', W, st⟩ := stC X hx hZ eT A (inb_of S1 hj) (g := mkF m pc L (.int x :: .int j :: .ref a :: S)) rfl rfl (hb hby hd)
  exact (q T' h' ⟨_, X', e', Fr.snoc X' N ha, hn0, hx, hZ, hown, hby, hml, hrt, hlk⟩ W (Arv.set A C1 S1 N1 H Gf (fits_nar_char _) W _ rfl hlen)).of1 st
theorem Gl.sastore (Y : Sd Z own bs mx ret n0 p l e R s m args below meth c T h k n) {a : Addr} {ck : ClassId} {z j : Int32} {x : Int32} {vs : List Value} {d v : Value} {ix : Nat} (F : Arv Z h a ck .short z vs d) (hv : .int (nar .short x) = v) (hj : ¬ j < 0 ∧ j < z) (hjx : j.toNatClampNeg = ix) (hlen : ix < vs.length) (ha : n0 ≤ a) (hd : decode bs pc = .ok (.sastore, 1)) (hp : pc + 1 = pc') (q : ∀ T' h', Sd Z own bs mx ret n0 p l e R s m args below meth c T' h' k n → Wr h h' a ix v → Arv Z h' a ck .short z (vs.set ix v) d → Gl p e below P (T'.setTop (mkF m pc' L S))) : Gl p e below P (T.setTop (mkF m pc L (.int x :: .int j :: .ref a :: S))) := by
  obtain ⟨locs, X, eT, N, hn0, hx, hZ, hown, hby, hml, hrt, hlk⟩ := Y
  subst hp hv hjx
  obtain ⟨cl, A, C1, S1, N1, H, Gf⟩ := F
  obtain ⟨T', h', X', e', W, st⟩ := stS X hx hZ eT A (inb_of S1 hj) (g := mkF m pc L (.int x :: .int j :: .ref a :: S)) rfl rfl (hb hby hd)
  exact (q T' h' ⟨_, X', e', Fr.snoc X' N ha, hn0, hx, hZ, hown, hby, hml, hrt, hlk⟩ W (Arv.set A C1 S1 N1 H Gf (fits_nar_short _) W _ rfl hlen)).of1 st
theorem Gl.bastore (Y : Sd Z own bs mx ret n0 p l e R s m args below meth c T h k n) {a : Addr} {ck : ClassId} {z j : Int32} {x : Int32} {vs : List Value} {d v : Value} {ix : Nat} (F : Arv Z h a ck .byte z vs d) (hv : .int (nar .byte x) = v) (hj : ¬ j < 0 ∧ j < z) (hjx : j.toNatClampNeg = ix) (hlen : ix < vs.length) (ha : n0 ≤ a) (hd : decode bs pc = .ok (.bastore, 1)) (hp : pc + 1 = pc') (q : ∀ T' h', Sd Z own bs mx ret n0 p l e R s m args below meth c T' h' k n → Wr h h' a ix v → Arv Z h' a ck .byte z (vs.set ix v) d → Gl p e below P (T'.setTop (mkF m pc' L S))) : Gl p e below P (T.setTop (mkF m pc L (.int x :: .int j :: .ref a :: S))) := by
  obtain ⟨locs, X, eT, N, hn0, hx, hZ, hown, hby, hml, hrt, hlk⟩ := Y
  subst hp hv hjx
  obtain ⟨cl, A, C1, S1, N1, H, Gf⟩ := F
  obtain ⟨T', h', X', e', W, st⟩ := stB X hx hZ eT A (inb_of S1 hj) (g := mkF m pc L (.int x :: .int j :: .ref a :: S)) rfl rfl (hb hby hd)
  exact (q T' h' ⟨_, X', e', Fr.snoc X' N ha, hn0, hx, hZ, hown, hby, hml, hrt, hlk⟩ W (Arv.set A C1 S1 N1 H Gf (fits_nar_byte _) W _ rfl hlen)).of1 st
theorem Gl.initO (Y : Sd Z own bs mx ret n0 p l e R s m args below meth c T h k n) {i : Nat} {a : Addr} (w1 : (Jvm.Cond.methodLink own i Lib.objectInit).before a0 Z = true) (w2 : (Jvm.Cond.instanceMethod Lib.objectInit).before a0 Z = true) (w3 : (Jvm.Cond.code Lib.objectInit ⟨#[0xb1]⟩ 1 none).before a0 Z = true) (hL : L.size = mx) (hf : 1 ≤ R.frames) (hl : (S.map fun v => v.category).sum + 12 ≤ R.locals) (hd : decode bs pc = .ok (.invokespecial i, 3)) (hp : pc + 3 = pc') (q : ∀ T', Sd Z own bs mx ret n0 p l e R s m args below meth c T' h k n → Gl p e below P (T'.setTop (mkF m pc' L S))) : Gl p e below P (T.setTop (mkF m pc L (.ref a :: S))) := by
  obtain ⟨locs, X, eT, N, hn0, hx, hZ, hown, hby, hml, hrt, hlk⟩ := Y
  subst hp
  obtain ⟨T', X', e', st⟩ := Jvm.RoadKit.initO X hx hZ hown w1 w2 w3 eT (g := mkF m pc L (.ref a :: S)) rfl (by rw [hml]; exact hL) rfl (hb hby hd) hf (W := (S.map fun v => v.category).sum) (by show 2 * 0 + _ ≤ _; omega) hl
  exact (q T' ⟨locs, X', e', N, hn0, hx, hZ, hown, hby, hml, hrt, hlk⟩).of1 st
theorem Gl.castY (Y : Sd Z own bs mx ret n0 p l e R s m args below meth c T h k n) {i : Nat} {K : String} {a : Addr} (w : (Jvm.Cond.classLink own i K).before a0 Z = true) (F : Ins Z h a K true) (hd : decode bs pc = .ok (.checkcast i, 3)) (hp : pc + 3 = pc') (q : ∀ T', Sd Z own bs mx ret n0 p l e R s m args below meth c T' h k n → Gl p e below P (T'.setTop (mkF m pc' L (.ref a :: S)))) : Gl p e below P (T.setTop (mkF m pc L (.ref a :: S))) := by
  obtain ⟨locs, X, eT, N, hn0, hx, hZ, hown, hby, hml, hrt, hlk⟩ := Y
  subst hp
  obtain ⟨T', X', e', st⟩ := Jvm.RoadKit.castY X hx hZ hown w eT F (g := mkF m pc L (.ref a :: S)) rfl rfl (hb hby hd)
  exact (q T' ⟨locs, X', e', N, hn0, hx, hZ, hown, hby, hml, hrt, hlk⟩).of1 st
theorem Gl.instY (Y : Sd Z own bs mx ret n0 p l e R s m args below meth c T h k n) {i : Nat} {K : String} {a : Addr} (w : (Jvm.Cond.classLink own i K).before a0 Z = true) (F : Ins Z h a K true) (hd : decode bs pc = .ok (.instanceof i, 3)) (hp : pc + 3 = pc') (q : ∀ T', Sd Z own bs mx ret n0 p l e R s m args below meth c T' h k n → Gl p e below P (T'.setTop (mkF m pc' L (.int 1 :: S)))) : Gl p e below P (T.setTop (mkF m pc L (.ref a :: S))) := by
  obtain ⟨locs, X, eT, N, hn0, hx, hZ, hown, hby, hml, hrt, hlk⟩ := Y
  subst hp
  obtain ⟨T', X', e', st⟩ := Jvm.RoadKit.instY X hx hZ hown w eT F (g := mkF m pc L (.ref a :: S)) rfl rfl (hb hby hd)
  exact (q T' ⟨locs, X', e', N, hn0, hx, hZ, hown, hby, hml, hrt, hlk⟩).of1 st
theorem Gl.instNo (Y : Sd Z own bs mx ret n0 p l e R s m args below meth c T h k n) {i : Nat} {K C : String} {a : Addr} (w : (Jvm.Cond.classLink own i K).before a0 Z = true) (E : Exa Z h a C) (F : ∃ c t, Z.vm.findClass C = some c ∧ Z.vm.findClass K = some t ∧ Z.vm.assignable c t = false) (hd : decode bs pc = .ok (.instanceof i, 3)) (hp : pc + 3 = pc') (q : ∀ T', Sd Z own bs mx ret n0 p l e R s m args below meth c T' h k n → Gl p e below P (T'.setTop (mkF m pc' L (.int 0 :: S)))) : Gl p e below P (T.setTop (mkF m pc L (.ref a :: S))) := by
  obtain ⟨locs, X, eT, N, hn0, hx, hZ, hown, hby, hml, hrt, hlk⟩ := Y
  subst hp
  obtain ⟨T', X', e', st⟩ := Jvm.RoadKit.instNo X hx hZ hown w eT E F (g := mkF m pc L (.ref a :: S)) rfl rfl (hb hby hd)
  exact (q T' ⟨locs, X', e', N, hn0, hx, hZ, hown, hby, hml, hrt, hlk⟩).of1 st
theorem Gl.castNull (Y : Sd Z own bs mx ret n0 p l e R s m args below meth c T h k n) {i : Nat} (hd : decode bs pc = .ok (.checkcast i, 3)) (hp : pc + 3 = pc') (q : Gl p e below P (T.setTop (mkF m pc' L (.null :: S)))) : Gl p e below P (T.setTop (mkF m pc L (.null :: S))) := by
  obtain ⟨locs, X, eT, N, hn0, hx, hZ, hown, hby, hml, hrt, hlk⟩ := Y
  subst hp
  exact q.of1 fun t q => X.checkcastNull hx (g := mkF m pc L (.null :: S)) rfl rfl (hb hby hd) t q
theorem Gl.instNull (Y : Sd Z own bs mx ret n0 p l e R s m args below meth c T h k n) {i : Nat} (hd : decode bs pc = .ok (.instanceof i, 3)) (hp : pc + 3 = pc') (q : Gl p e below P (T.setTop (mkF m pc' L (.int 0 :: S)))) : Gl p e below P (T.setTop (mkF m pc L (.null :: S))) := by
  obtain ⟨locs, X, eT, N, hn0, hx, hZ, hown, hby, hml, hrt, hlk⟩ := Y
  subst hp
  exact q.of1 fun t q => X.instanceofNull hx (g := mkF m pc L (.null :: S)) rfl rfl (hb hby hd) t q
theorem Gl.newR (Y : Sd Z own bs mx ret n0 p l e R s m args below meth c T h k n) {i : Nat} {C : String} {z : Int32} (cap : Nat) (w1 : (Jvm.Cond.classLink own i C).before a0 Z = true) (w2 : (Jvm.Cond.arrayOver (.object C)).before a0 Z = true) (hz : ¬ z < 0) (hcap : z.toNatClampNeg ≤ cap) (hcb : cap * 8 ≤ 536870912) (hc : k + 1 ≤ R.cells) (hl : n + cap ≤ R.slots) (hd : decode bs pc = .ok (.anewarray i, 3)) (hp : pc + 3 = pc') (q : ∀ T' h' b ck, Sd Z own bs mx ret n0 p l e R s m args below meth c T' h' (k + 1) (n + cap) → Ext h h' → b = h.size → n0 ≤ b → Arv Z h' b ck (.object C) z [] .null → Gl p e below P (T'.setTop (mkF m pc' L (.ref b :: S)))) : Gl p e below P (T.setTop (mkF m pc L (.int z :: S))) := by
  obtain ⟨locs, X, eT, N, hn0, hx, hZ, hown, hby, hml, hrt, hlk⟩ := Y
  subst hp
  obtain ⟨T', h', ck, X', e', E, A, -, st⟩ := Jvm.RoadKit.newR X hx hZ hown w1 w2 eT (g := mkF m pc L (.int z :: S)) rfl (hb hby hd) rfl hz hcap hcb hc hl
  exact (q T' h' h.size ck ⟨locs, X', e', N, hn0, hx, hZ, hown, hby, hml, hrt, hlk⟩ E rfl (eT ▸ Nat.le_trans hn0 (own_grow X)) (Arv.new A hz)).of1 st
theorem Gl.callS (Y : Sd Z own bs mx ret n0 p l e R s m args below meth c T h k n) {y : MethodName} {bs2 : ByteArray} {mx2 : Nat} {ret2 : Option FieldType} {rm : Room} {as : Array Value} {Q : Option Value → Heap → Prop} {i : Nat} {argsL rest : List Value} (w1 : (Jvm.Cond.methodLink own i y).before a0 Z = true) (w2 : (Jvm.Cond.static y).before a0 Z = true) (w3 : (Jvm.Cond.initialized y.cls).before a0 Z = true) (w4 : (Jvm.Cond.code y bs2 mx2 ret2).before a0 Z = true) (hy : y.cls ≠ "java/lang/invoke/MethodHandle" ∧ y.cls ≠ "java/lang/invoke/VarHandle") (hM : OMet l Z [] y bs2 mx2 ret2 rm as h n0 Q) (has : argsL.toArray = as) (hS : S = argsL.reverse ++ rest) (hlen : ∀ sig, parseMethodDescriptor y.desc = some sig → argsL.length = sig.parameters.length) (hL : L.size = mx) (hf : rm.frames + 1 ≤ R.frames) (hl : (rest.map fun v => v.category).sum + (mx2 + 11) + rm.locals ≤ R.locals) (hc : k + rm.cells ≤ R.cells) (hs : n + rm.slots ≤ R.slots) (hd : decode bs pc = .ok (.invokestatic i, 3)) (hp : pc + 3 = pc') (q : ∀ v T' h', Sd Z own bs mx ret n0 p l e R s m args below meth c T' h' (k + rm.cells) (n + rm.slots) → Q v h' → Gl p e below P (T'.setTop (mkF m pc' L (v.toList ++ rest)))) : Gl p e below P (T.setTop (mkF m pc L S)) := by
  obtain ⟨locs, X, eT, N, hn0, hx, hZ, hown, hby, hml, hrt, hlk⟩ := Y
  subst hp has hS
  obtain ⟨v, vm₁, ⟨T', L', k', n'⟩, -, X', hB, st⟩ := Jvm.LawKit.callS X hx (y := y) hown (mvT hZ w1) (mvT hZ w2) (mvT hZ w3) (mvT hZ w4) hy (backOf (Q := fun v h' L => Q v h' ∧ Fr n0 L) (W := (rest.map fun v => v.category).sum) (OMet.un hM) hZ w4 w3 hf hl) (g := mkF m pc L (argsL.reverse ++ rest)) rfl (by rw [hml]; exact hL) (argsL := argsL) (rest := rest) hlen rfl (by show 2 * 0 + _ ≤ _; omega) (hb hby hd) (fun _ _ => ⟨rfl, eT, hc, hs⟩)
  obtain ⟨Lc, ⟨hQ, NL⟩, l1, l2, l3⟩ := hB
  dsimp only [Pt.U, Pt.locs, Pt.cells, Pt.slots] at X' l1 l2 l3 st hQ
  subst l1 l2 l3
  exact (q v T' T'.heap ⟨_, X', rfl, Fr.app N NL, hn0, hx, hZ, hown, hby, hml, hrt, hlk⟩ hQ).of1 st
theorem Gl.callN (Y : Sd Z own bs mx ret n0 p l e R s m args below meth c T h k n) {y : MethodName} {bs2 : ByteArray} {mx2 : Nat} {rm : Room} {as : Array Value} {Q : Option Value → Heap → Prop} {i : Nat} {argsL rest : List Value} {a : Addr} (hy1 : y.name = "<init>") (w1 : (Jvm.Cond.methodLink own i y).before a0 Z = true) (w2 : (Jvm.Cond.instanceMethod y).before a0 Z = true) (w3 : (Jvm.Cond.initialized y.cls).before a0 Z = true) (w4 : (Jvm.Cond.code y bs2 mx2 none).before a0 Z = true) (hy : y.cls ≠ "java/lang/invoke/MethodHandle" ∧ y.cls ≠ "java/lang/invoke/VarHandle") (hM : OMet l Z [] y bs2 mx2 none rm as h n0 Q) (has : (.ref a :: argsL).toArray = as) (hS : S = argsL.reverse ++ .ref a :: rest) (hlen : ∀ sig, parseMethodDescriptor y.desc = some sig → argsL.length = sig.parameters.length) (hL : L.size = mx) (hf : rm.frames + 1 ≤ R.frames) (hl : (rest.map fun v => v.category).sum + (mx2 + 11) + rm.locals ≤ R.locals) (hc : k + rm.cells ≤ R.cells) (hs : n + rm.slots ≤ R.slots) (hd : decode bs pc = .ok (.invokespecial i, 3)) (hp : pc + 3 = pc') (q : ∀ v T' h', Sd Z own bs mx ret n0 p l e R s m args below meth c T' h' (k + rm.cells) (n + rm.slots) → Q v h' → Gl p e below P (T'.setTop (mkF m pc' L (v.toList ++ rest)))) : Gl p e below P (T.setTop (mkF m pc L S)) := by
  obtain ⟨locs, X, eT, N, hn0, hx, hZ, hown, hby, hml, hrt, hlk⟩ := Y
  subst hp has hS
  obtain ⟨v, vm₁, ⟨T', L', k', n'⟩, -, X', hB, st⟩ := X.specialBack hx (y := y) hy1 hown (mvT hZ w1) (mvT hZ w2) (mvT hZ w4) hy (backOf (Q := fun v h' L => Q v h' ∧ Fr n0 L) (W := (rest.map fun v => v.category).sum) (OMet.un hM) hZ w4 w3 hf hl) (g := mkF m pc L (argsL.reverse ++ .ref a :: rest)) rfl (by rw [hml]; exact hL) (Steps.refl _) (a := a) (argsL := argsL) (rest := rest) hlen rfl (by show 2 * 0 + _ ≤ _; omega) (hb hby hd) (fun _ _ => ⟨rfl, eT, hc, hs⟩)
  obtain ⟨Lc, ⟨hQ, NL⟩, l1, l2, l3⟩ := hB
  dsimp only [Pt.U, Pt.locs, Pt.cells, Pt.slots] at X' l1 l2 l3 st hQ
  subst l1 l2 l3
  exact Gl.via st (q v T' T'.heap ⟨_, X', rfl, Fr.app N NL, hn0, hx, hZ, hown, hby, hml, hrt, hlk⟩ hQ)
theorem Gl.callV (Y : Sd Z own bs mx ret n0 p l e R s m args below meth c T h k n) {y : MethodName} {bs2 : ByteArray} {mx2 : Nat} {ret2 : Option FieldType} {rm : Room} {as : Array Value} {Q : Option Value → Heap → Prop} {i : Nat} {z : MethodName} {C : String} {argsL rest : List Value} {a : Addr} (w1 : (Jvm.Cond.methodLink own i z).before a0 Z = true) (wd : (Jvm.Cond.declares z).before a0 Z = true) (ws0 : (Jvm.Cond.selects z.cls z z).before a0 Z = true) (ws : (Jvm.Cond.selects C z y).before a0 Z = true) (w2 : (Jvm.Cond.instanceMethod y).before a0 Z = true) (w3 : (Jvm.Cond.initialized y.cls).before a0 Z = true) (w4 : (Jvm.Cond.code y bs2 mx2 ret2).before a0 Z = true) (hy : z.cls ≠ "java/lang/invoke/MethodHandle" ∧ z.cls ≠ "java/lang/invoke/VarHandle") (E : Exa Z h a C) (hM : OMet l Z [] y bs2 mx2 ret2 rm as h n0 Q) (has : (.ref a :: argsL).toArray = as) (hS : S = argsL.reverse ++ .ref a :: rest) (hlen : ∀ sig, parseMethodDescriptor z.desc = some sig → argsL.length = sig.parameters.length) (hL : L.size = mx) (hf : rm.frames + 1 ≤ R.frames) (hl : (rest.map fun v => v.category).sum + (mx2 + 11) + rm.locals ≤ R.locals) (hc : k + rm.cells ≤ R.cells) (hs : n + rm.slots ≤ R.slots) (hd : decode bs pc = .ok (.invokevirtual i, 3)) (hp : pc + 3 = pc') (q : ∀ v T' h', Sd Z own bs mx ret n0 p l e R s m args below meth c T' h' (k + rm.cells) (n + rm.slots) → Q v h' → Gl p e below P (T'.setTop (mkF m pc' L (v.toList ++ rest)))) : Gl p e below P (T.setTop (mkF m pc L S)) := by
  obtain ⟨locs, X, eT, N, hn0, hx, hZ, hown, hby, hml, hrt, hlk⟩ := Y
  subst hp has hS
  obtain ⟨cq, kq, qa, qb, qc⟩ := isOf hZ eT E
  obtain ⟨v, vm₁, ⟨T', L', k', n'⟩, -, X', hB, st⟩ := X.virtualBack hx (y := z) (z := y) hown (mvT hZ w1) (mvT hZ wd) (notFace_of_selects (args := #[]) (mvT hZ ws0)) (mvT hZ ws) (mvT hZ w2) hy (backOf (Q := fun v h' L => Q v h' ∧ Fr n0 L) (W := (rest.map fun v => v.category).sum) (OMet.un hM) hZ w4 w3 hf hl) qa qc (g := mkF m pc L (argsL.reverse ++ .ref a :: rest)) rfl (by rw [hml]; exact hL) (Steps.refl _) (argsL := argsL) (rest := rest) hlen rfl (by show 2 * 0 + _ ≤ _; omega) (hb hby hd) (fun _ _ => ⟨rfl, eT, hc, hs⟩)
  obtain ⟨Lc, ⟨hQ, NL⟩, l1, l2, l3⟩ := hB
  dsimp only [Pt.U, Pt.locs, Pt.cells, Pt.slots] at X' l1 l2 l3 st hQ
  subst l1 l2 l3
  exact Gl.via st (q v T' T'.heap ⟨_, X', rfl, Fr.app N NL, hn0, hx, hZ, hown, hby, hml, hrt, hlk⟩ hQ)
theorem Gl.callP (Y : Sd Z own bs mx ret n0 p l e R s m args below meth c T h k n) {y : MethodName} {bs2 : ByteArray} {mx2 : Nat} {ret2 : Option FieldType} {rm : Room} {as : Array Value} {Q : Option Value → Heap → Prop} {i : Nat} {C : String} {kk : Nat} {argsL rest : List Value} {a : Addr} (w1 : (Jvm.Cond.methodLink own i y).before a0 Z = true) (w2 : (Jvm.Cond.instanceMethod y).before a0 Z = true) (wp : (Jvm.Cond.privateMethod y).before a0 Z = true) (wi : (Jvm.Cond.instantiable y.cls kk).before a0 Z = true) (w3 : (Jvm.Cond.initialized y.cls).before a0 Z = true) (w4 : (Jvm.Cond.code y bs2 mx2 ret2).before a0 Z = true) (hy : y.cls ≠ "java/lang/invoke/MethodHandle" ∧ y.cls ≠ "java/lang/invoke/VarHandle") (E : Exa Z h a C) (hM : OMet l Z [] y bs2 mx2 ret2 rm as h n0 Q) (has : (.ref a :: argsL).toArray = as) (hS : S = argsL.reverse ++ .ref a :: rest) (hlen : ∀ sig, parseMethodDescriptor y.desc = some sig → argsL.length = sig.parameters.length) (hL : L.size = mx) (hf : rm.frames + 1 ≤ R.frames) (hl : (rest.map fun v => v.category).sum + (mx2 + 11) + rm.locals ≤ R.locals) (hc : k + rm.cells ≤ R.cells) (hs : n + rm.slots ≤ R.slots) (hd : decode bs pc = .ok (.invokevirtual i, 3)) (hp : pc + 3 = pc') (q : ∀ v T' h', Sd Z own bs mx ret n0 p l e R s m args below meth c T' h' (k + rm.cells) (n + rm.slots) → Q v h' → Gl p e below P (T'.setTop (mkF m pc' L (v.toList ++ rest)))) : Gl p e below P (T.setTop (mkF m pc L S)) := by
  obtain ⟨locs, X, eT, N, hn0, hx, hZ, hown, hby, hml, hrt, hlk⟩ := Y
  subst hp has hS
  obtain ⟨cq, qa, qb⟩ := E.cell
  have hpr := Cond.privateMethod_at (mvP hZ wp (args := #[]))
  obtain ⟨c1, k1, i1, i2, -, i4, -⟩ := Cond.instantiable_spec (mv (args := args) hZ wi)
  have i5 : k1.isInterface = false := by cases hi : k1.isInterface <;> simp [hi] at i4 ⊢
  have hsel := selects_self_of_private (args := args) i1 i2 i5 hpr (mvT hZ w2) hy
  obtain ⟨v, vm₁, ⟨T', L', k', n'⟩, -, X', hB, st⟩ := X.privateBack hx (y := y) hown (mvT hZ w1) (mvT hZ w2) hsel hpr (mvT hZ w4) hy (backOf (Q := fun v h' L => Q v h' ∧ Fr n0 L) (W := (rest.map fun v => v.category).sum) (OMet.un hM) hZ w4 w3 hf hl) (g := mkF m pc L (argsL.reverse ++ .ref a :: rest)) rfl (by rw [hml]; exact hL) (Steps.refl _) (a := a) (by rw [eT]; exact qa) qb (argsL := argsL) (rest := rest) hlen rfl (by show 2 * 0 + _ ≤ _; omega) (hb hby hd) (fun _ _ => ⟨rfl, eT, hc, hs⟩)
  obtain ⟨Lc, ⟨hQ, NL⟩, l1, l2, l3⟩ := hB
  dsimp only [Pt.U, Pt.locs, Pt.cells, Pt.slots] at X' l1 l2 l3 st hQ
  subst l1 l2 l3
  exact Gl.via st (q v T' T'.heap ⟨_, X', rfl, Fr.app N NL, hn0, hx, hZ, hown, hby, hml, hrt, hlk⟩ hQ)
theorem Gl.callNN (Y : Sd Z own bs mx ret n0 p l e R s m args below meth c T h k n) {y : MethodName} {bs2 : ByteArray} {mx2 : Nat} {rm : Room} {as : Array Value} {Q : Option Value → Heap → Prop} {i : Nat} {argsL rest : List Value} {host : String} {a : Addr} (hy1 : y.name = "<init>") (w1 : (Jvm.Cond.methodLinkNest own i y host).before a0 Z = true) (w2 : (Jvm.Cond.instanceMethod y).before a0 Z = true) (w3 : (Jvm.Cond.initialized y.cls).before a0 Z = true) (w4 : (Jvm.Cond.code y bs2 mx2 none).before a0 Z = true) (hy : y.cls ≠ "java/lang/invoke/MethodHandle" ∧ y.cls ≠ "java/lang/invoke/VarHandle") (hM : OMet l Z [] y bs2 mx2 none rm as h n0 Q) (has : (.ref a :: argsL).toArray = as) (hS : S = argsL.reverse ++ .ref a :: rest) (hlen : ∀ sig, parseMethodDescriptor y.desc = some sig → argsL.length = sig.parameters.length) (hL : L.size = mx) (hf : rm.frames + 1 ≤ R.frames) (hl : (rest.map fun v => v.category).sum + (mx2 + 11) + rm.locals ≤ R.locals) (hc : k + rm.cells ≤ R.cells) (hs : n + rm.slots ≤ R.slots) (hd : decode bs pc = .ok (.invokespecial i, 3)) (hp : pc + 3 = pc') (q : ∀ v T' h', Sd Z own bs mx ret n0 p l e R s m args below meth c T' h' (k + rm.cells) (n + rm.slots) → Q v h' → Gl p e below P (T'.setTop (mkF m pc' L (v.toList ++ rest)))) : Gl p e below P (T.setTop (mkF m pc L S)) := by
  obtain ⟨locs, X, eT, N, hn0, hx, hZ, hown, hby, hml, hrt, hlk⟩ := Y
  subst hp has hS
  obtain ⟨v, vm₁, ⟨T', L', k', n'⟩, -, X', hB, st⟩ := X.specialBackNest hx (y := y) hy1 hown (Cond.methodLinkNest_wide hZ w1 :) (mvT hZ w2) (mvT hZ w4) hy (backOf (Q := fun v h' L => Q v h' ∧ Fr n0 L) (W := (rest.map fun v => v.category).sum) (OMet.un hM) hZ w4 w3 hf hl) (g := mkF m pc L (argsL.reverse ++ .ref a :: rest)) rfl (by rw [hml]; exact hL) (Steps.refl _) (a := a) (argsL := argsL) (rest := rest) hlen rfl (by show 2 * 0 + _ ≤ _; omega) (hb hby hd) (fun _ _ => ⟨rfl, eT, hc, hs⟩)
  obtain ⟨Lc, ⟨hQ, NL⟩, l1, l2, l3⟩ := hB
  dsimp only [Pt.U, Pt.locs, Pt.cells, Pt.slots] at X' l1 l2 l3 st hQ
  subst l1 l2 l3
  exact Gl.via st (q v T' T'.heap ⟨_, X', rfl, Fr.app N NL, hn0, hx, hZ, hown, hby, hml, hrt, hlk⟩ hQ)
theorem Gl.callVU (Y : Sd Z own bs mx ret n0 p l e R s m args below meth c T h k n) {y : MethodName} {bs2 : ByteArray} {mx2 : Nat} {ret2 : Option FieldType} {rm : Room} {as : Array Value} {Q : Option Value → Heap → Prop} {i : Nat} {owner : String} {z : MethodName} {C : String} {argsL rest : List Value} {a : Addr} (w1 : (Jvm.Cond.methodLink own i z).before a0 Z = true) (w0 : (Jvm.Cond.sameMethod z.cls owner z.name z.desc).before a0 Z = true) (wd : (Jvm.Cond.declares ⟨owner, z.name, z.desc⟩).before a0 Z = true) (ws : (Jvm.Cond.selects C z y).before a0 Z = true) (w2 : (Jvm.Cond.instanceMethod y).before a0 Z = true) (w3 : (Jvm.Cond.initialized y.cls).before a0 Z = true) (w4 : (Jvm.Cond.code y bs2 mx2 ret2).before a0 Z = true) (hy : owner ≠ "java/lang/invoke/MethodHandle" ∧ owner ≠ "java/lang/invoke/VarHandle") (E : Exa Z h a C) (hM : OMet l Z [] y bs2 mx2 ret2 rm as h n0 Q) (has : (.ref a :: argsL).toArray = as) (hS : S = argsL.reverse ++ .ref a :: rest) (hlen : ∀ sig, parseMethodDescriptor z.desc = some sig → argsL.length = sig.parameters.length) (hL : L.size = mx) (hf : rm.frames + 1 ≤ R.frames) (hl : (rest.map fun v => v.category).sum + (mx2 + 11) + rm.locals ≤ R.locals) (hc : k + rm.cells ≤ R.cells) (hs : n + rm.slots ≤ R.slots) (hd : decode bs pc = .ok (.invokevirtual i, 3)) (hp : pc + 3 = pc') (q : ∀ v T' h', Sd Z own bs mx ret n0 p l e R s m args below meth c T' h' (k + rm.cells) (n + rm.slots) → Q v h' → Gl p e below P (T'.setTop (mkF m pc' L (v.toList ++ rest)))) : Gl p e below P (T.setTop (mkF m pc L S)) := by
  obtain ⟨locs, X, eT, N, hn0, hx, hZ, hown, hby, hml, hrt, hlk⟩ := Y
  subst hp has hS
  obtain ⟨cq, kq, qa, qb, qc⟩ := isOf hZ eT E
  obtain ⟨v, vm₁, ⟨T', L', k', n'⟩, -, X', hB, st⟩ := X.virtualBackUp hx (x := z) (y := y) hown (mvT hZ w1) (mvT hZ w0) (mvT hZ wd) hy (mvT hZ ws) (mvT hZ w2) (backOf (Q := fun v h' L => Q v h' ∧ Fr n0 L) (W := (rest.map fun v => v.category).sum) (OMet.un hM) hZ w4 w3 hf hl) qa qc (g := mkF m pc L (argsL.reverse ++ .ref a :: rest)) rfl (by rw [hml]; exact hL) (Steps.refl _) (argsL := argsL) (rest := rest) hlen rfl (by show 2 * 0 + _ ≤ _; omega) (hb hby hd) (fun _ _ => ⟨rfl, eT, hc, hs⟩)
  obtain ⟨Lc, ⟨hQ, NL⟩, l1, l2, l3⟩ := hB
  dsimp only [Pt.U, Pt.locs, Pt.cells, Pt.slots] at X' l1 l2 l3 st hQ
  subst l1 l2 l3
  exact Gl.via st (q v T' T'.heap ⟨_, X', rfl, Fr.app N NL, hn0, hx, hZ, hown, hby, hml, hrt, hlk⟩ hQ)
theorem Gl.fin (Y : Sd Z own bs mx ret n0 p l e R s m args below meth c T h k n) {K M : Nat} {Q : Option Value → Heap → Prop} (hk : k ≤ K) (hm : n ≤ M) {g : JFrame} {v : Option Value} (hv : ret = none → v = none) (st : ∀ fs, (∀ (f : JFrame) (acts : List Action), f.method = m → f.locked = none → f.entered = [] → (doReturn e (T.setTop f) acts v).1 = T.setFrames fs) → Steps p.tables e below (T.setTop g) (T.setFrames fs)) (hQ : Q v h) : Gl p e below (Pst s n0 K M Q) (T.setTop g) := by
  obtain ⟨locs, X, eT, N, hn0, hx, hZ, hown, hby, hml, hrt, hlk⟩ := Y
  obtain ⟨fs, hr, hrun, hended, hW, hsame⟩ := X.leave (v := v) (fun q => hv (hrt.symm.trans q)) hlk
  exact ⟨_, _, st fs hr, hrun, hended, v, locs, rfl, ⟨by show Q v T.heap; rw [eT]; exact hQ, N⟩, ⟨_, rfl⟩, hW, hsame.mono hk hm⟩
theorem Gl.retV (Y : Sd Z own bs mx none n0 p l e R s m args below meth c T h k n) {K M : Nat} {Q : Option Value → Heap → Prop} (hk : k ≤ K) (hm : n ≤ M)  (hd : decode bs pc = .ok (.return_, 1)) (hQ : Q none h) : Gl p e below (Pst s n0 K M Q) (T.setTop (mkF m pc L [])) := by
  have Y0 := Y
  obtain ⟨locs, X, eT, N, hn0, hx, hZ, hown, hby, hml, hrt, hlk⟩ := Y
  exact Gl.fin Y0 hk hm (v := none) (fun q => by first | rfl | cases q) (fun fs hr => X.returnOut hx hrt (hb hby hd) hr) hQ
theorem Gl.retI (Y : Sd Z own bs mx (some .int) n0 p l e R s m args below meth c T h k n) {K M : Nat} {Q : Option Value → Heap → Prop} (hk : k ≤ K) (hm : n ≤ M) {x : Int32} (hd : decode bs pc = .ok (.ireturn, 1)) (hQ : Q (some (.int x)) h) : Gl p e below (Pst s n0 K M Q) (T.setTop (mkF m pc L (.int x :: S))) := by
  have Y0 := Y
  obtain ⟨locs, X, eT, N, hn0, hx, hZ, hown, hby, hml, hrt, hlk⟩ := Y
  exact Gl.fin Y0 hk hm (v := (some (.int x))) (fun q => by first | rfl | cases q) (fun fs hr => retOut X hx hrt rfl (Or.inl ⟨rfl, Or.inl rfl, x, rfl⟩) (hb hby hd) hr) hQ
theorem Gl.retJ (Y : Sd Z own bs mx (some .long) n0 p l e R s m args below meth c T h k n) {K M : Nat} {Q : Option Value → Heap → Prop} (hk : k ≤ K) (hm : n ≤ M) {x : Int64} (hd : decode bs pc = .ok (.lreturn, 1)) (hQ : Q (some (.long x)) h) : Gl p e below (Pst s n0 K M Q) (T.setTop (mkF m pc L (.long x :: S))) := by
  have Y0 := Y
  obtain ⟨locs, X, eT, N, hn0, hx, hZ, hown, hby, hml, hrt, hlk⟩ := Y
  exact Gl.fin Y0 hk hm (v := (some (.long x))) (fun q => by first | rfl | cases q) (fun fs hr => retOut X hx hrt rfl (Or.inr (Or.inl ⟨rfl, rfl, x, rfl⟩)) (hb hby hd) hr) hQ
theorem Gl.retA (Y : Sd Z own bs mx (some t) n0 p l e R s m args below meth c T h k n) {K M : Nat} {Q : Option Value → Heap → Prop} (hk : k ≤ K) (hm : n ≤ M) {x : Value} (ht : t.isReference = true) (hxr : x.isRef = true) (hd : decode bs pc = .ok (.areturn, 1)) (hQ : Q (some x) h) : Gl p e below (Pst s n0 K M Q) (T.setTop (mkF m pc L (x :: S))) := by
  have Y0 := Y
  obtain ⟨locs, X, eT, N, hn0, hx, hZ, hown, hby, hml, hrt, hlk⟩ := Y
  exact Gl.fin Y0 hk hm (v := (some x)) (fun q => by first | rfl | cases q) (fun fs hr => retOut X hx hrt (own_narR hxr) (Or.inr (Or.inr (Or.inr (Or.inr ⟨rfl, ht, hxr⟩)))) (hb hby hd) hr) hQ
theorem Gl.retZ (Y : Sd Z own bs mx (some .boolean) n0 p l e R s m args below meth c T h k n) {K M : Nat} {Q : Option Value → Heap → Prop} (hk : k ≤ K) (hm : n ≤ M) {x x' : Int32} (hxn : nar .boolean x = x') (hd : decode bs pc = .ok (.ireturn, 1)) (hQ : Q (some (.int x')) h) : Gl p e below (Pst s n0 K M Q) (T.setTop (mkF m pc L (.int x :: S))) := by
  have Y0 := Y
  obtain ⟨locs, X, eT, N, hn0, hx, hZ, hown, hby, hml, hrt, hlk⟩ := Y
  exact Gl.fin Y0 hk hm (v := (some (.int x'))) (fun q => by first | rfl | cases q) (fun fs hr => retN X hx (t := .boolean) hrt (by simp) (hb hby hd) (by rw [hxn]; exact hr)) hQ
theorem Gl.retB (Y : Sd Z own bs mx (some .byte) n0 p l e R s m args below meth c T h k n) {K M : Nat} {Q : Option Value → Heap → Prop} (hk : k ≤ K) (hm : n ≤ M) {x x' : Int32} (hxn : nar .byte x = x') (hd : decode bs pc = .ok (.ireturn, 1)) (hQ : Q (some (.int x')) h) : Gl p e below (Pst s n0 K M Q) (T.setTop (mkF m pc L (.int x :: S))) := by
  have Y0 := Y
  obtain ⟨locs, X, eT, N, hn0, hx, hZ, hown, hby, hml, hrt, hlk⟩ := Y
  exact Gl.fin Y0 hk hm (v := (some (.int x'))) (fun q => by first | rfl | cases q) (fun fs hr => retN X hx (t := .byte) hrt (by simp) (hb hby hd) (by rw [hxn]; exact hr)) hQ
theorem Gl.retC (Y : Sd Z own bs mx (some .char) n0 p l e R s m args below meth c T h k n) {K M : Nat} {Q : Option Value → Heap → Prop} (hk : k ≤ K) (hm : n ≤ M) {x x' : Int32} (hxn : nar .char x = x') (hd : decode bs pc = .ok (.ireturn, 1)) (hQ : Q (some (.int x')) h) : Gl p e below (Pst s n0 K M Q) (T.setTop (mkF m pc L (.int x :: S))) := by
  have Y0 := Y
  obtain ⟨locs, X, eT, N, hn0, hx, hZ, hown, hby, hml, hrt, hlk⟩ := Y
  exact Gl.fin Y0 hk hm (v := (some (.int x'))) (fun q => by first | rfl | cases q) (fun fs hr => retN X hx (t := .char) hrt (by simp) (hb hby hd) (by rw [hxn]; exact hr)) hQ
theorem Gl.retSh (Y : Sd Z own bs mx (some .short) n0 p l e R s m args below meth c T h k n) {K M : Nat} {Q : Option Value → Heap → Prop} (hk : k ≤ K) (hm : n ≤ M) {x x' : Int32} (hxn : nar .short x = x') (hd : decode bs pc = .ok (.ireturn, 1)) (hQ : Q (some (.int x')) h) : Gl p e below (Pst s n0 K M Q) (T.setTop (mkF m pc L (.int x :: S))) := by
  have Y0 := Y
  obtain ⟨locs, X, eT, N, hn0, hx, hZ, hown, hby, hml, hrt, hlk⟩ := Y
  exact Gl.fin Y0 hk hm (v := (some (.int x'))) (fun q => by first | rfl | cases q) (fun fs hr => retN X hx (t := .short) hrt (by simp) (hb hby hd) (by rw [hxn]; exact hr)) hQ
end Kit
end Jvm.OwnWk

namespace Jvm.Pilot.@@N@@
open Jvm Jvm.ClassFile Sem Op Lib Jvm.Free Jvm.Stand Jvm.LawKit Jvm.RoadKit Bundle Jvm.OwnWk Jvm.Pilot.@@N@@.Jvm.D
def own_o (w c : Int64) : Int64 := (w ^^^ (-1)) + c
def own_k (w c : Int64) : Int64 := c &&& (if own_o w c = 0 then 1 else 0)
theorem own_k01 {w c : Int64} (hc : c = 0 ∨ c = 1) : own_k w c = 0 ∨ own_k w c = 1 := by
  unfold own_k
  rcases hc with rfl | rfl <;> split <;> decide
theorem own_k1 {w c : Int64} (hc : c = 0 ∨ c = 1) (h : own_k w c = 1) : w = 0 ∧ c = 1 := by
  rcases hc with rfl | rfl
  · exfalso; revert h; unfold own_k; split <;> decide
  · refine ⟨?_, rfl⟩
    by_cases q : own_o w 1 = 0
    · unfold own_o at q
      have e1 := own_not64 w
      have e2 := c_ladd (w ^^^ (-1)) 1
      have r1 := rng64 w
      have r2 := rng64 ((w ^^^ (-1)) + 1)
      rw [q] at e2
      simp only [Int64.reduceToInt] at e2
      apply Int64.toInt_inj.mp
      simp only [Int64.reduceToInt]
      omega
    · exfalso; revert h; unfold own_k; rw [if_neg q]; decide
theorem own_sum (b c : Int64) (w : Int64) (hb : w ^^^ (-1) = b) {u v : Int64} (hu : (0 : Int64) + b = u) (hv : u + c = v) : v = own_o w c := by
  subst hb hu hv
  unfold own_o
  rw [Int64.zero_add]
theorem own_sgn (v : Int64) : (v.toUInt64 >>> ((63 : Int32) &&& 0x3f).toInt64.toUInt64).toInt64 = if v < 0 then 1 else 0 := by
  have q := c_lushr v (63 : Int32) 63 (by decide) (by decide)
  have r := rng64 v
  apply Int64.toInt_inj.mp
  by_cases h : v < 0
  · rw [if_pos h]
    have := Int64.lt_iff_toInt_lt.mp h
    simp only [Int64.reduceToInt] at *
    omega
  · rw [if_neg h]
    have : ¬ v.toInt < (0 : Int64).toInt := fun z => h (Int64.lt_iff_toInt_lt.mpr z)
    simp only [Int64.reduceToInt] at *
    omega
theorem own_carry (w c : Int64) (hc : c = 0 ∨ c = 1) : (((0 &&& (w ^^^ (-1))) ||| ((0 ||| (w ^^^ (-1))) &&& (own_o w c ^^^ (-1)))).toUInt64 >>> ((63 : Int32) &&& 0x3f).toInt64.toUInt64).toInt64 = own_k w c := by
  rw [own_sgn]
  have z1 : (0 : Int64) &&& (w ^^^ (-1)) = 0 := Int64.zero_and
  have z2 : (0 : Int64) ||| (w ^^^ (-1)) = (w ^^^ (-1)) := Int64.zero_or
  rw [z1, z2, Int64.zero_or]
  have s1 := c_andSL (w ^^^ (-1)) (own_o w c ^^^ (-1))
  have e1 := own_not64 w
  have e2 := own_not64 (own_o w c)
  have e3 := c_ladd (w ^^^ (-1)) c
  have r1 := rng64 w
  have r2 := rng64 (own_o w c)
  rw [show (w ^^^ (-1)) + c = own_o w c from rfl] at e3
  have hlt : ((w ^^^ (-1)) &&& (own_o w c ^^^ (-1))) < 0 ↔ ((w ^^^ (-1)) &&& (own_o w c ^^^ (-1))).toInt < 0 := by
    rw [Int64.lt_iff_toInt_lt]; simp
  have hz : own_o w c = 0 ↔ (own_o w c).toInt = 0 := by
    rw [← Int64.toInt_inj]; simp
  unfold own_k
  rcases hc with rfl | rfl
  · simp only [Int64.reduceToInt] at e3
    have : ¬ ((w ^^^ (-1)) &&& (own_o w 0 ^^^ (-1))) < 0 := by rw [hlt]; omega
    rw [if_neg this, Int64.zero_and]
  · simp only [Int64.reduceToInt] at e3
    by_cases q : own_o w 1 = 0
    · have q' := hz.mp q
      have : ((w ^^^ (-1)) &&& (own_o w 1 ^^^ (-1))) < 0 := by rw [hlt]; omega
      rw [if_pos this, if_pos q]; rfl
    · have q' : ¬ (own_o w 1).toInt = 0 := fun z => q (hz.mpr z)
      have : ¬ ((w ^^^ (-1)) &&& (own_o w 1 ^^^ (-1))) < 0 := by rw [hlt]; omega
      rw [if_neg this, if_neg q]; rfl
theorem own_fit (w c : Int64) (hc : c = 0 ∨ c = 1) (h : ¬ (w = (-9223372036854775808) ∧ c = 1)) : ¬ ((0 ^^^ own_o w c) &&& ((w ^^^ (-1)) ^^^ own_o w c)) < 0 := by
  rw [Int64.zero_xor]
  have s1 := c_andSL (own_o w c) ((w ^^^ (-1)) ^^^ own_o w c)
  have s2 := c_xorSL (w ^^^ (-1)) (own_o w c)
  have e1 := own_not64 w
  have e3 := c_ladd (w ^^^ (-1)) c
  have r1 := rng64 w
  have r2 := rng64 (own_o w c)
  rw [show (w ^^^ (-1)) + c = own_o w c from rfl] at e3
  intro k
  have k' := Int64.lt_iff_toInt_lt.mp k
  rcases hc with rfl | rfl
  · simp only [Int64.reduceToInt] at e3 k'
    omega
  · have hw : ¬ w.toInt = -9223372036854775808 := fun z => h ⟨Int64.toInt_inj.mp (by rw [z]; rfl), rfl⟩
    simp only [Int64.reduceToInt] at e3 k'
    omega
theorem d_prog_137_method_1_0 : decode prog_137_method_1_code 0 = .ok (.aload_n 0, 1) := by decide +kernel
theorem d_prog_137_method_1_1 : decode prog_137_method_1_code 1 = .ok (.invokespecial 1, 3) := by decide +kernel
theorem tw_6 {a0 : Array Value} {Z : State} (hw : ∀ d ∈ tables_1, d.before a0 Z = true) : (Jvm.Cond.methodLink "com/example/meterwise/meterwise/model/WholeNumber" (1 : Nat) ({ cls := "java/lang/Object", name := "<init>", desc := "()V" } : Jvm.MethodName)).before a0 Z = true := hw _ (List.mem_of_getElem? (i := 6) rfl)
theorem tw_7 {a0 : Array Value} {Z : State} (hw : ∀ d ∈ tables_1, d.before a0 Z = true) : (Jvm.Cond.instanceMethod ({ cls := "java/lang/Object", name := "<init>", desc := "()V" } : Jvm.MethodName)).before a0 Z = true := hw _ (List.mem_of_getElem? (i := 7) rfl)
theorem tw_8 {a0 : Array Value} {Z : State} (hw : ∀ d ∈ tables_1, d.before a0 Z = true) : (Jvm.Cond.code ({ cls := "java/lang/Object", name := "<init>", desc := "()V" } : Jvm.MethodName) object_method_1_code (1 : Nat) (Option.none : Option Jvm.ClassFile.FieldType)).before a0 Z = true := hw _ (List.mem_of_getElem? (i := 8) rfl)
theorem d_prog_137_method_1_4 : decode prog_137_method_1_code 4 = .ok (.iload_n 1, 1) := by decide +kernel
theorem d_prog_137_method_1_5 : decode prog_137_method_1_code 5 = .ok (.iconst 1, 1) := by decide +kernel
theorem d_prog_137_method_1_6 : decode prog_137_method_1_code 6 = .ok (.if_icmp .ge 17, 3) := by decide +kernel
theorem d_prog_137_method_1_23 : decode prog_137_method_1_code 23 = .ok (.iload_n 1, 1) := by decide +kernel
theorem d_prog_137_method_1_24 : decode prog_137_method_1_code 24 = .ok (.i2l, 1) := by decide +kernel
theorem d_prog_137_method_1_25 : decode prog_137_method_1_code 25 = .ok (.ldc2_w 16, 3) := by decide +kernel
theorem tw_9 {a0 : Array Value} {Z : State} (hw : ∀ d ∈ tables_1, d.before a0 Z = true) : (Jvm.Cond.constantLong "com/example/meterwise/meterwise/model/WholeNumber" (16 : Nat) (3322 : Int64)).before a0 Z = true := hw _ (List.mem_of_getElem? (i := 9) rfl)
theorem d_prog_137_method_1_28 : decode prog_137_method_1_code 28 = .ok (.lmul, 1) := by decide +kernel
theorem d_prog_137_method_1_29 : decode prog_137_method_1_code 29 = .ok (.ldc2_w 18, 3) := by decide +kernel
theorem tw_10 {a0 : Array Value} {Z : State} (hw : ∀ d ∈ tables_1, d.before a0 Z = true) : (Jvm.Cond.constantLong "com/example/meterwise/meterwise/model/WholeNumber" (18 : Nat) (999 : Int64)).before a0 Z = true := hw _ (List.mem_of_getElem? (i := 10) rfl)
theorem d_prog_137_method_1_32 : decode prog_137_method_1_code 32 = .ok (.ladd, 1) := by decide +kernel
theorem d_prog_137_method_1_33 : decode prog_137_method_1_code 33 = .ok (.ldc2_w 20, 3) := by decide +kernel
theorem tw_11 {a0 : Array Value} {Z : State} (hw : ∀ d ∈ tables_1, d.before a0 Z = true) : (Jvm.Cond.constantLong "com/example/meterwise/meterwise/model/WholeNumber" (20 : Nat) (1000 : Int64)).before a0 Z = true := hw _ (List.mem_of_getElem? (i := 11) rfl)
theorem d_prog_137_method_1_36 : decode prog_137_method_1_code 36 = .ok (.ldiv, 1) := by decide +kernel
theorem d_prog_137_method_1_37 : decode prog_137_method_1_code 37 = .ok (.lconst 1, 1) := by decide +kernel
theorem d_prog_137_method_1_38 : decode prog_137_method_1_code 38 = .ok (.ladd, 1) := by decide +kernel
theorem d_prog_137_method_1_39 : decode prog_137_method_1_code 39 = .ok (.lstore_n 2, 1) := by decide +kernel
theorem d_prog_137_method_1_40 : decode prog_137_method_1_code 40 = .ok (.aload_n 0, 1) := by decide +kernel
theorem d_prog_137_method_1_41 : decode prog_137_method_1_code 41 = .ok (.lload_n 2, 1) := by decide +kernel
theorem d_prog_137_method_1_42 : decode prog_137_method_1_code 42 = .ok (.ldc2_w 24, 3) := by decide +kernel
theorem tw_12 {a0 : Array Value} {Z : State} (hw : ∀ d ∈ tables_1, d.before a0 Z = true) : (Jvm.Cond.constantLong "com/example/meterwise/meterwise/model/WholeNumber" (24 : Nat) (64 : Int64)).before a0 Z = true := hw _ (List.mem_of_getElem? (i := 12) rfl)
theorem d_prog_137_method_1_45 : decode prog_137_method_1_code 45 = .ok (.ladd, 1) := by decide +kernel
theorem d_prog_137_method_1_46 : decode prog_137_method_1_code 46 = .ok (.lconst 1, 1) := by decide +kernel
theorem d_prog_137_method_1_47 : decode prog_137_method_1_code 47 = .ok (.lsub, 1) := by decide +kernel
theorem d_prog_137_method_1_48 : decode prog_137_method_1_code 48 = .ok (.ldc2_w 24, 3) := by decide +kernel
theorem d_prog_137_method_1_51 : decode prog_137_method_1_code 51 = .ok (.ldiv, 1) := by decide +kernel
theorem d_prog_137_method_1_52 : decode prog_137_method_1_code 52 = .ok (.l2i, 1) := by decide +kernel
theorem d_prog_137_method_1_53 : decode prog_137_method_1_code 53 = .ok (.newarray .long, 2) := by decide +kernel
theorem tw_13 {a0 : Array Value} {Z : State} (hw : ∀ d ∈ tables_1, d.before a0 Z = true) : (Jvm.Cond.arrayClass Jvm.ClassFile.FieldType.long).before a0 Z = true := hw _ (List.mem_of_getElem? (i := 13) rfl)
theorem d_prog_137_method_1_55 : decode prog_137_method_1_code 55 = .ok (.putfield 26, 3) := by decide +kernel
theorem tw_14 {a0 : Array Value} {Z : State} (hw : ∀ d ∈ tables_1, d.before a0 Z = true) : (Jvm.Cond.fieldLink "com/example/meterwise/meterwise/model/WholeNumber" (26 : Nat) "com/example/meterwise/meterwise/model/WholeNumber" "words" "[J").before a0 Z = true := hw _ (List.mem_of_getElem? (i := 14) rfl)
theorem tw_15 {a0 : Array Value} {Z : State} (hw : ∀ d ∈ tables_1, d.before a0 Z = true) : (Jvm.Cond.laysFinal "com/example/meterwise/meterwise/model/WholeNumber" "com/example/meterwise/meterwise/model/WholeNumber" "words" "[J").before a0 Z = true := hw _ (List.mem_of_getElem? (i := 15) rfl)
theorem tw_1 {a0 : Array Value} {Z : State} (hw : ∀ d ∈ tables_1, d.before a0 Z = true) : (Jvm.Cond.instantiable "com/example/meterwise/meterwise/model/WholeNumber" (2 : Nat)).before a0 Z = true := hw _ (List.mem_of_getElem? (i := 1) rfl)
theorem d_prog_137_method_1_58 : decode prog_137_method_1_code 58 = .ok (.return_, 1) := by decide +kernel
def R0 : Room := { frames := 1, cells := 1, slots := 1, locals := 12 }
def Q0 (Z : State) (a : Addr) (dg : Int32) (h0 : Heap) (v : Option Value) (h : Heap) : Prop := ∃ wa : Addr, ∃ ck : ClassId, v = none ∧ Keep h0 h [a] ∧ h0.size ≤ wa ∧ Exa Z h a "com/example/meterwise/meterwise/model/WholeNumber" ∧ Fld Z h a "com/example/meterwise/meterwise/model/WholeNumber" "words" "[J" (.ref wa) ∧ Arv Z h wa ck .long (1 : Int32) [(.long (0 : Int64))] (.long (0 : Int64))
theorem ef0 (a : Addr) (dg : Int32) (m : MethodId) : entryFrame m #[(.ref a), (.int dg)] 4 = mkF m 0 #[.val (.ref a), .val (.int dg), .unset, .unset] [] := by first | (simp [entryFrame, mkF, argsToLocals, Value.category]; done) | rfl
theorem pn_0 : plainName "com/example/meterwise/meterwise/model/WholeNumber" = true := by first | (simp [plainName, overriddenIn]; done) | decide +kernel
set_option maxRecDepth 65536 in
set_option maxHeartbeats 40000000 in
theorem rm0 (l : Launch) (Z : State) (a0 : Array Value) (hw : ∀ d ∈ tables_1, d.before a0 Z = true) (ws : List Jvm.Cond) (a : Addr) (dg : Int32) (h0 : Heap) (n0 : Nat) (Z0 : n0 ≤ h0.size) (E : Exa Z h0 a "com/example/meterwise/meterwise/model/WholeNumber") (F_words : Fld Z h0 a "com/example/meterwise/meterwise/model/WholeNumber" "words" "[J" .null) (ga : n0 ≤ a) (h1 : 1 ≤ dg.toInt) (h2 : dg.toInt ≤ 18) : OMet l Z ws (⟨"com/example/meterwise/meterwise/model/WholeNumber", "<init>", "(I)V"⟩ : MethodName) prog_137_method_1_code 4 none R0 #[(.ref a), (.int dg)] h0 n0 (Q0 Z a dg h0) := by
  refine OMet.of (plainFor_of_name pn_0) (ef0 a dg) Z0 ?_
  intro p e s m below meth c T0 Y0 hnm
  have Y0 : Sd Z "com/example/meterwise/meterwise/model/WholeNumber" prog_137_method_1_code 4 none n0 p l e R0 s m #[(.ref a), (.int dg)] below meth c T0 h0 0 0 := Y0
  have ndg := rng32 dg
  refine Gl.aloadN Y0 rfl rfl d_prog_137_method_1_0 rfl ?_
  refine Gl.initO Y0 (tw_6 hw) (tw_7 hw) (tw_8 hw) rfl (by decide) (Nat.le_of_ble_eq_true rfl) d_prog_137_method_1_1 rfl (fun T1 Y1 => ?_)
  refine Gl.iloadN Y1 rfl d_prog_137_method_1_4 rfl ?_
  refine Gl.iconst Y1 (v := (1 : Int32)) (by decide) d_prog_137_method_1_5 rfl ?_
  refine Gl.icmpge Y1 d_prog_137_method_1_6 (by decide) rfl rfl (fun c6 => ?_) (fun c6 => ?_)
  rotate_left
  · exfalso; have j6 : dg.toInt < 1 := Int32.lt_iff_toInt_lt.mp c6; omega
  have j6 : ¬ (dg.toInt < 1) := fun q => c6 (Int32.lt_iff_toInt_lt.mpr q)
  refine Gl.iloadN Y1 rfl d_prog_137_method_1_23 rfl ?_
  obtain ⟨v24, hv24⟩ : ∃ z : Int64, dg.toInt64 = z := ⟨_, rfl⟩
  have iv24 : v24.toInt = dg.toInt := by have q := c_i2l dg; rw [hv24] at q; exact q
  refine Gl.i2l Y1 hv24 d_prog_137_method_1_24 rfl ?_
  refine Gl.ldcJ Y1 (tw_9 hw) d_prog_137_method_1_25 rfl ?_
  obtain ⟨v28, hv28⟩ : ∃ z : Int64, v24 * (3322 : Int64) = z := ⟨_, rfl⟩
  have iv28 : v28.toInt = v24.toInt * 3322 := by
    have q : (v28.toInt - (v24.toInt * 3322)) % 18446744073709551616 = 0 := by have q := c_lmul v24 (3322 : Int64); rw [hv28] at q; exact q
    have r := rng64 v28
    omega
  refine Gl.lmul Y1 hv28 d_prog_137_method_1_28 rfl ?_
  refine Gl.ldcJ Y1 (tw_10 hw) d_prog_137_method_1_29 rfl ?_
  obtain ⟨v32, hv32⟩ : ∃ z : Int64, v28 + (999 : Int64) = z := ⟨_, rfl⟩
  have iv32 : v32.toInt = v28.toInt + 999 := by
    have q : (v32.toInt - (v28.toInt + 999)) % 18446744073709551616 = 0 := by have q := c_ladd v28 (999 : Int64); rw [hv32] at q; exact q
    have r := rng64 v32
    omega
  refine Gl.ladd Y1 hv32 d_prog_137_method_1_32 rfl ?_
  refine Gl.ldcJ Y1 (tw_11 hw) d_prog_137_method_1_33 rfl ?_
  obtain ⟨v36, hv36⟩ : ∃ z : Int64, v32 / (1000 : Int64) = z := ⟨_, rfl⟩
  have iv36 : v36.toInt = v32.toInt / 1000 := by have q := (c_ldiv v32 (1000 : Int64) 1000 (by decide) (by decide)).1 (by omega); rw [hv36] at q; exact q
  refine Gl.ldiv Y1 (by decide) hv36 d_prog_137_method_1_36 rfl ?_
  refine Gl.lconst Y1 (v := (1 : Int64)) (by decide) d_prog_137_method_1_37 rfl ?_
  obtain ⟨v38, hv38⟩ : ∃ z : Int64, v36 + (1 : Int64) = z := ⟨_, rfl⟩
  have iv38 : v38.toInt = v36.toInt + 1 := by
    have q : (v38.toInt - (v36.toInt + 1)) % 18446744073709551616 = 0 := by have q := c_ladd v36 (1 : Int64); rw [hv38] at q; exact q
    have r := rng64 v38
    omega
  refine Gl.ladd Y1 hv38 d_prog_137_method_1_38 rfl ?_
  refine Gl.lstoreN Y1 (L' := #[.val (.ref a), .val (.int dg), .val (.long v38), .second]) rfl d_prog_137_method_1_39 rfl ?_
  refine Gl.aloadN Y1 rfl rfl d_prog_137_method_1_40 rfl ?_
  refine Gl.lloadN Y1 rfl d_prog_137_method_1_41 rfl ?_
  refine Gl.ldcJ Y1 (tw_12 hw) d_prog_137_method_1_42 rfl ?_
  obtain ⟨v45, hv45⟩ : ∃ z : Int64, v38 + (64 : Int64) = z := ⟨_, rfl⟩
  have iv45 : v45.toInt = v38.toInt + 64 := by
    have q : (v45.toInt - (v38.toInt + 64)) % 18446744073709551616 = 0 := by have q := c_ladd v38 (64 : Int64); rw [hv45] at q; exact q
    have r := rng64 v45
    omega
  refine Gl.ladd Y1 hv45 d_prog_137_method_1_45 rfl ?_
  refine Gl.lconst Y1 (v := (1 : Int64)) (by decide) d_prog_137_method_1_46 rfl ?_
  obtain ⟨v47, hv47⟩ : ∃ z : Int64, v45 - (1 : Int64) = z := ⟨_, rfl⟩
  have iv47 : v47.toInt = v45.toInt - 1 := by
    have q : (v47.toInt - (v45.toInt - 1)) % 18446744073709551616 = 0 := by have q := c_lsub v45 (1 : Int64); rw [hv47] at q; exact q
    have r := rng64 v47
    omega
  refine Gl.lsub Y1 hv47 d_prog_137_method_1_47 rfl ?_
  refine Gl.ldcJ Y1 (tw_12 hw) d_prog_137_method_1_48 rfl ?_
  obtain ⟨v51, hv51⟩ : ∃ z : Int64, v47 / (64 : Int64) = z := ⟨_, rfl⟩
  have iv51 : v51.toInt = v47.toInt / 64 := by have q := (c_ldiv v47 (64 : Int64) 64 (by decide) (by decide)).1 (by omega); rw [hv51] at q; exact q
  refine Gl.ldiv Y1 (by decide) hv51 d_prog_137_method_1_51 rfl ?_
  obtain ⟨v52, hv52⟩ : ∃ z : Int32, v51.toInt32 = z := ⟨_, rfl⟩
  have iv52 : v52.toInt = v51.toInt := by
    have q : (v52.toInt - v51.toInt) % 4294967296 = 0 := by have q := c_l2i v51; rw [hv52] at q; exact q
    have r := rng32 v52
    omega
  refine Gl.l2i Y1 hv52 d_prog_137_method_1_52 rfl ?_
  obtain rfl : v52 = (1 : Int32) := Int32.toInt_inj.mp (by simp only [Int32.reduceToInt]; omega)
  refine Gl.newP Y1 1 (ty := .long) rfl (tw_13 hw) (by decide) (by decide) (Nat.le_of_ble_eq_true rfl) (Nat.le_of_ble_eq_true rfl) (Nat.le_of_ble_eq_true rfl) d_prog_137_method_1_53 rfl (fun T53 h53 b53 ck53 Y53 E53 g53 sb53 V53 => ?_)
  have V53 : Arv Z h53 b53 ck53 .long (1 : Int32) [(.long (0 : Int64))] (.long (0 : Int64)) := V53.pad (pad_rep [] (.long (0 : Int64)) 1)
  have zb53 : h0.size ≤ b53 := Nat.le_trans (Keep.refl h0 [a]).1 (Nat.le_of_eq g53.symm)
  have K53 : Keep h0 h53 [a] := (Keep.refl h0 [a]).ext E53
  show Gl p e below _ (T53.setTop (mkF m 55 #[.val (.ref a), .val (.int dg), .val (.long v38), .second] [(.ref b53), (.ref a)]))
  have f1 : Fld Z h53 a "com/example/meterwise/meterwise/model/WholeNumber" "words" "[J" .null := (Fld.ext E53 F_words)
  have f2 : Exa Z h53 a "com/example/meterwise/meterwise/model/WholeNumber" := (Exa.ext E53 E)
  refine Gl.putF Y53 (host := "") (Or.inl (tw_14 hw)) Via.refl f1 f2 (Or.inr ⟨(tw_15 hw), rfl, hnm⟩) (tw_1 hw) ga (ty := (.array .long)) (by decide) rfl rfl d_prog_137_method_1_55 rfl (fun T55 h55 Y55 W55 => ?_)
  have f3 : Fld Z h55 a "com/example/meterwise/meterwise/model/WholeNumber" "words" "[J" (.ref b53) := Fld.same W55 f1
  have K55 : Keep h0 h55 [a] := K53.wr W55 (Or.inl (List.mem_of_getElem? (i := 0) rfl))
  have f4 : Exa Z h55 a "com/example/meterwise/meterwise/model/WholeNumber" := (Exa.wr W55 f2)
  have f5 : Arv Z h55 b53 ck53 .long (1 : Int32) [(.long (0 : Int64))] (.long (0 : Int64)) := (V53.other W55 (Ne.symm (Nat.ne_of_lt (Nat.lt_of_lt_of_eq E.lt g53.symm))))
  exact Gl.retV Y55 (by decide) (by decide)  d_prog_137_method_1_58 ⟨b53, ck53, rfl, K55, zb53, f4, (by first | exact f3 | (subst_vars; exact f3) | (rw [PF]; exact f3)), f5⟩
def R1 : Room := { frames := 1, cells := 1, slots := 2, locals := 12 }
def Q1 (Z : State) (a : Addr) (dg : Int32) (h0 : Heap) (v : Option Value) (h : Heap) : Prop := ∃ wa : Addr, ∃ ck : ClassId, v = none ∧ Keep h0 h [a] ∧ h0.size ≤ wa ∧ Exa Z h a "com/example/meterwise/meterwise/model/WholeNumber" ∧ Fld Z h a "com/example/meterwise/meterwise/model/WholeNumber" "words" "[J" (.ref wa) ∧ Arv Z h wa ck .long (2 : Int32) [(.long (0 : Int64)), (.long (0 : Int64))] (.long (0 : Int64))
theorem ef1 (a : Addr) (dg : Int32) (m : MethodId) : entryFrame m #[(.ref a), (.int dg)] 4 = mkF m 0 #[.val (.ref a), .val (.int dg), .unset, .unset] [] := by first | (simp [entryFrame, mkF, argsToLocals, Value.category]; done) | rfl
set_option maxRecDepth 65536 in
set_option maxHeartbeats 40000000 in
theorem rm1 (l : Launch) (Z : State) (a0 : Array Value) (hw : ∀ d ∈ tables_1, d.before a0 Z = true) (ws : List Jvm.Cond) (a : Addr) (dg : Int32) (h0 : Heap) (n0 : Nat) (Z0 : n0 ≤ h0.size) (E : Exa Z h0 a "com/example/meterwise/meterwise/model/WholeNumber") (F_words : Fld Z h0 a "com/example/meterwise/meterwise/model/WholeNumber" "words" "[J" .null) (ga : n0 ≤ a) (h1 : 19 ≤ dg.toInt) (h2 : dg.toInt ≤ 38) : OMet l Z ws (⟨"com/example/meterwise/meterwise/model/WholeNumber", "<init>", "(I)V"⟩ : MethodName) prog_137_method_1_code 4 none R1 #[(.ref a), (.int dg)] h0 n0 (Q1 Z a dg h0) := by
  refine OMet.of (plainFor_of_name pn_0) (ef1 a dg) Z0 ?_
  intro p e s m below meth c T0 Y0 hnm
  have Y0 : Sd Z "com/example/meterwise/meterwise/model/WholeNumber" prog_137_method_1_code 4 none n0 p l e R1 s m #[(.ref a), (.int dg)] below meth c T0 h0 0 0 := Y0
  have ndg := rng32 dg
  refine Gl.aloadN Y0 rfl rfl d_prog_137_method_1_0 rfl ?_
  refine Gl.initO Y0 (tw_6 hw) (tw_7 hw) (tw_8 hw) rfl (by decide) (Nat.le_of_ble_eq_true rfl) d_prog_137_method_1_1 rfl (fun T1 Y1 => ?_)
  refine Gl.iloadN Y1 rfl d_prog_137_method_1_4 rfl ?_
  refine Gl.iconst Y1 (v := (1 : Int32)) (by decide) d_prog_137_method_1_5 rfl ?_
  refine Gl.icmpge Y1 d_prog_137_method_1_6 (by decide) rfl rfl (fun c6 => ?_) (fun c6 => ?_)
  rotate_left
  · exfalso; have j6 : dg.toInt < 1 := Int32.lt_iff_toInt_lt.mp c6; omega
  have j6 : ¬ (dg.toInt < 1) := fun q => c6 (Int32.lt_iff_toInt_lt.mpr q)
  refine Gl.iloadN Y1 rfl d_prog_137_method_1_23 rfl ?_
  obtain ⟨v24, hv24⟩ : ∃ z : Int64, dg.toInt64 = z := ⟨_, rfl⟩
  have iv24 : v24.toInt = dg.toInt := by have q := c_i2l dg; rw [hv24] at q; exact q
  refine Gl.i2l Y1 hv24 d_prog_137_method_1_24 rfl ?_
  refine Gl.ldcJ Y1 (tw_9 hw) d_prog_137_method_1_25 rfl ?_
  obtain ⟨v28, hv28⟩ : ∃ z : Int64, v24 * (3322 : Int64) = z := ⟨_, rfl⟩
  have iv28 : v28.toInt = v24.toInt * 3322 := by
    have q : (v28.toInt - (v24.toInt * 3322)) % 18446744073709551616 = 0 := by have q := c_lmul v24 (3322 : Int64); rw [hv28] at q; exact q
    have r := rng64 v28
    omega
  refine Gl.lmul Y1 hv28 d_prog_137_method_1_28 rfl ?_
  refine Gl.ldcJ Y1 (tw_10 hw) d_prog_137_method_1_29 rfl ?_
  obtain ⟨v32, hv32⟩ : ∃ z : Int64, v28 + (999 : Int64) = z := ⟨_, rfl⟩
  have iv32 : v32.toInt = v28.toInt + 999 := by
    have q : (v32.toInt - (v28.toInt + 999)) % 18446744073709551616 = 0 := by have q := c_ladd v28 (999 : Int64); rw [hv32] at q; exact q
    have r := rng64 v32
    omega
  refine Gl.ladd Y1 hv32 d_prog_137_method_1_32 rfl ?_
  refine Gl.ldcJ Y1 (tw_11 hw) d_prog_137_method_1_33 rfl ?_
  obtain ⟨v36, hv36⟩ : ∃ z : Int64, v32 / (1000 : Int64) = z := ⟨_, rfl⟩
  have iv36 : v36.toInt = v32.toInt / 1000 := by have q := (c_ldiv v32 (1000 : Int64) 1000 (by decide) (by decide)).1 (by omega); rw [hv36] at q; exact q
  refine Gl.ldiv Y1 (by decide) hv36 d_prog_137_method_1_36 rfl ?_
  refine Gl.lconst Y1 (v := (1 : Int64)) (by decide) d_prog_137_method_1_37 rfl ?_
  obtain ⟨v38, hv38⟩ : ∃ z : Int64, v36 + (1 : Int64) = z := ⟨_, rfl⟩
  have iv38 : v38.toInt = v36.toInt + 1 := by
    have q : (v38.toInt - (v36.toInt + 1)) % 18446744073709551616 = 0 := by have q := c_ladd v36 (1 : Int64); rw [hv38] at q; exact q
    have r := rng64 v38
    omega
  refine Gl.ladd Y1 hv38 d_prog_137_method_1_38 rfl ?_
  refine Gl.lstoreN Y1 (L' := #[.val (.ref a), .val (.int dg), .val (.long v38), .second]) rfl d_prog_137_method_1_39 rfl ?_
  refine Gl.aloadN Y1 rfl rfl d_prog_137_method_1_40 rfl ?_
  refine Gl.lloadN Y1 rfl d_prog_137_method_1_41 rfl ?_
  refine Gl.ldcJ Y1 (tw_12 hw) d_prog_137_method_1_42 rfl ?_
  obtain ⟨v45, hv45⟩ : ∃ z : Int64, v38 + (64 : Int64) = z := ⟨_, rfl⟩
  have iv45 : v45.toInt = v38.toInt + 64 := by
    have q : (v45.toInt - (v38.toInt + 64)) % 18446744073709551616 = 0 := by have q := c_ladd v38 (64 : Int64); rw [hv45] at q; exact q
    have r := rng64 v45
    omega
  refine Gl.ladd Y1 hv45 d_prog_137_method_1_45 rfl ?_
  refine Gl.lconst Y1 (v := (1 : Int64)) (by decide) d_prog_137_method_1_46 rfl ?_
  obtain ⟨v47, hv47⟩ : ∃ z : Int64, v45 - (1 : Int64) = z := ⟨_, rfl⟩
  have iv47 : v47.toInt = v45.toInt - 1 := by
    have q : (v47.toInt - (v45.toInt - 1)) % 18446744073709551616 = 0 := by have q := c_lsub v45 (1 : Int64); rw [hv47] at q; exact q
    have r := rng64 v47
    omega
  refine Gl.lsub Y1 hv47 d_prog_137_method_1_47 rfl ?_
  refine Gl.ldcJ Y1 (tw_12 hw) d_prog_137_method_1_48 rfl ?_
  obtain ⟨v51, hv51⟩ : ∃ z : Int64, v47 / (64 : Int64) = z := ⟨_, rfl⟩
  have iv51 : v51.toInt = v47.toInt / 64 := by have q := (c_ldiv v47 (64 : Int64) 64 (by decide) (by decide)).1 (by omega); rw [hv51] at q; exact q
  refine Gl.ldiv Y1 (by decide) hv51 d_prog_137_method_1_51 rfl ?_
  obtain ⟨v52, hv52⟩ : ∃ z : Int32, v51.toInt32 = z := ⟨_, rfl⟩
  have iv52 : v52.toInt = v51.toInt := by
    have q : (v52.toInt - v51.toInt) % 4294967296 = 0 := by have q := c_l2i v51; rw [hv52] at q; exact q
    have r := rng32 v52
    omega
  refine Gl.l2i Y1 hv52 d_prog_137_method_1_52 rfl ?_
  obtain rfl : v52 = (2 : Int32) := Int32.toInt_inj.mp (by simp only [Int32.reduceToInt]; omega)
  refine Gl.newP Y1 2 (ty := .long) rfl (tw_13 hw) (by decide) (by decide) (Nat.le_of_ble_eq_true rfl) (Nat.le_of_ble_eq_true rfl) (Nat.le_of_ble_eq_true rfl) d_prog_137_method_1_53 rfl (fun T53 h53 b53 ck53 Y53 E53 g53 sb53 V53 => ?_)
  have V53 : Arv Z h53 b53 ck53 .long (2 : Int32) [(.long (0 : Int64)), (.long (0 : Int64))] (.long (0 : Int64)) := V53.pad (pad_rep [] (.long (0 : Int64)) 2)
  have zb53 : h0.size ≤ b53 := Nat.le_trans (Keep.refl h0 [a]).1 (Nat.le_of_eq g53.symm)
  have K53 : Keep h0 h53 [a] := (Keep.refl h0 [a]).ext E53
  show Gl p e below _ (T53.setTop (mkF m 55 #[.val (.ref a), .val (.int dg), .val (.long v38), .second] [(.ref b53), (.ref a)]))
  have f1 : Fld Z h53 a "com/example/meterwise/meterwise/model/WholeNumber" "words" "[J" .null := (Fld.ext E53 F_words)
  have f2 : Exa Z h53 a "com/example/meterwise/meterwise/model/WholeNumber" := (Exa.ext E53 E)
  refine Gl.putF Y53 (host := "") (Or.inl (tw_14 hw)) Via.refl f1 f2 (Or.inr ⟨(tw_15 hw), rfl, hnm⟩) (tw_1 hw) ga (ty := (.array .long)) (by decide) rfl rfl d_prog_137_method_1_55 rfl (fun T55 h55 Y55 W55 => ?_)
  have f3 : Fld Z h55 a "com/example/meterwise/meterwise/model/WholeNumber" "words" "[J" (.ref b53) := Fld.same W55 f1
  have K55 : Keep h0 h55 [a] := K53.wr W55 (Or.inl (List.mem_of_getElem? (i := 0) rfl))
  have f4 : Exa Z h55 a "com/example/meterwise/meterwise/model/WholeNumber" := (Exa.wr W55 f2)
  have f5 : Arv Z h55 b53 ck53 .long (2 : Int32) [(.long (0 : Int64)), (.long (0 : Int64))] (.long (0 : Int64)) := (V53.other W55 (Ne.symm (Nat.ne_of_lt (Nat.lt_of_lt_of_eq E.lt g53.symm))))
  exact Gl.retV Y55 (by decide) (by decide)  d_prog_137_method_1_58 ⟨b53, ck53, rfl, K55, zb53, f4, (by first | exact f3 | (subst_vars; exact f3) | (rw [PF]; exact f3)), f5⟩
def R2 : Room := { frames := 1, cells := 1, slots := 3, locals := 12 }
def Q2 (Z : State) (a : Addr) (dg : Int32) (h0 : Heap) (v : Option Value) (h : Heap) : Prop := ∃ wa : Addr, ∃ ck : ClassId, v = none ∧ Keep h0 h [a] ∧ h0.size ≤ wa ∧ Exa Z h a "com/example/meterwise/meterwise/model/WholeNumber" ∧ Fld Z h a "com/example/meterwise/meterwise/model/WholeNumber" "words" "[J" (.ref wa) ∧ Arv Z h wa ck .long (3 : Int32) [(.long (0 : Int64)), (.long (0 : Int64)), (.long (0 : Int64))] (.long (0 : Int64))
theorem ef2 (a : Addr) (dg : Int32) (m : MethodId) : entryFrame m #[(.ref a), (.int dg)] 4 = mkF m 0 #[.val (.ref a), .val (.int dg), .unset, .unset] [] := by first | (simp [entryFrame, mkF, argsToLocals, Value.category]; done) | rfl
set_option maxRecDepth 65536 in
set_option maxHeartbeats 40000000 in
theorem rm2 (l : Launch) (Z : State) (a0 : Array Value) (hw : ∀ d ∈ tables_1, d.before a0 Z = true) (ws : List Jvm.Cond) (a : Addr) (dg : Int32) (h0 : Heap) (n0 : Nat) (Z0 : n0 ≤ h0.size) (E : Exa Z h0 a "com/example/meterwise/meterwise/model/WholeNumber") (F_words : Fld Z h0 a "com/example/meterwise/meterwise/model/WholeNumber" "words" "[J" .null) (ga : n0 ≤ a) (h1 : 39 ≤ dg.toInt) (h2 : dg.toInt ≤ 57) : OMet l Z ws (⟨"com/example/meterwise/meterwise/model/WholeNumber", "<init>", "(I)V"⟩ : MethodName) prog_137_method_1_code 4 none R2 #[(.ref a), (.int dg)] h0 n0 (Q2 Z a dg h0) := by
  refine OMet.of (plainFor_of_name pn_0) (ef2 a dg) Z0 ?_
  intro p e s m below meth c T0 Y0 hnm
  have Y0 : Sd Z "com/example/meterwise/meterwise/model/WholeNumber" prog_137_method_1_code 4 none n0 p l e R2 s m #[(.ref a), (.int dg)] below meth c T0 h0 0 0 := Y0
  have ndg := rng32 dg
  refine Gl.aloadN Y0 rfl rfl d_prog_137_method_1_0 rfl ?_
  refine Gl.initO Y0 (tw_6 hw) (tw_7 hw) (tw_8 hw) rfl (by decide) (Nat.le_of_ble_eq_true rfl) d_prog_137_method_1_1 rfl (fun T1 Y1 => ?_)
  refine Gl.iloadN Y1 rfl d_prog_137_method_1_4 rfl ?_
  refine Gl.iconst Y1 (v := (1 : Int32)) (by decide) d_prog_137_method_1_5 rfl ?_
  refine Gl.icmpge Y1 d_prog_137_method_1_6 (by decide) rfl rfl (fun c6 => ?_) (fun c6 => ?_)
  rotate_left
  · exfalso; have j6 : dg.toInt < 1 := Int32.lt_iff_toInt_lt.mp c6; omega
  have j6 : ¬ (dg.toInt < 1) := fun q => c6 (Int32.lt_iff_toInt_lt.mpr q)
  refine Gl.iloadN Y1 rfl d_prog_137_method_1_23 rfl ?_
  obtain ⟨v24, hv24⟩ : ∃ z : Int64, dg.toInt64 = z := ⟨_, rfl⟩
  have iv24 : v24.toInt = dg.toInt := by have q := c_i2l dg; rw [hv24] at q; exact q
  refine Gl.i2l Y1 hv24 d_prog_137_method_1_24 rfl ?_
  refine Gl.ldcJ Y1 (tw_9 hw) d_prog_137_method_1_25 rfl ?_
  obtain ⟨v28, hv28⟩ : ∃ z : Int64, v24 * (3322 : Int64) = z := ⟨_, rfl⟩
  have iv28 : v28.toInt = v24.toInt * 3322 := by
    have q : (v28.toInt - (v24.toInt * 3322)) % 18446744073709551616 = 0 := by have q := c_lmul v24 (3322 : Int64); rw [hv28] at q; exact q
    have r := rng64 v28
    omega
  refine Gl.lmul Y1 hv28 d_prog_137_method_1_28 rfl ?_
  refine Gl.ldcJ Y1 (tw_10 hw) d_prog_137_method_1_29 rfl ?_
  obtain ⟨v32, hv32⟩ : ∃ z : Int64, v28 + (999 : Int64) = z := ⟨_, rfl⟩
  have iv32 : v32.toInt = v28.toInt + 999 := by
    have q : (v32.toInt - (v28.toInt + 999)) % 18446744073709551616 = 0 := by have q := c_ladd v28 (999 : Int64); rw [hv32] at q; exact q
    have r := rng64 v32
    omega
  refine Gl.ladd Y1 hv32 d_prog_137_method_1_32 rfl ?_
  refine Gl.ldcJ Y1 (tw_11 hw) d_prog_137_method_1_33 rfl ?_
  obtain ⟨v36, hv36⟩ : ∃ z : Int64, v32 / (1000 : Int64) = z := ⟨_, rfl⟩
  have iv36 : v36.toInt = v32.toInt / 1000 := by have q := (c_ldiv v32 (1000 : Int64) 1000 (by decide) (by decide)).1 (by omega); rw [hv36] at q; exact q
  refine Gl.ldiv Y1 (by decide) hv36 d_prog_137_method_1_36 rfl ?_
  refine Gl.lconst Y1 (v := (1 : Int64)) (by decide) d_prog_137_method_1_37 rfl ?_
  obtain ⟨v38, hv38⟩ : ∃ z : Int64, v36 + (1 : Int64) = z := ⟨_, rfl⟩
  have iv38 : v38.toInt = v36.toInt + 1 := by
    have q : (v38.toInt - (v36.toInt + 1)) % 18446744073709551616 = 0 := by have q := c_ladd v36 (1 : Int64); rw [hv38] at q; exact q
    have r := rng64 v38
    omega
  refine Gl.ladd Y1 hv38 d_prog_137_method_1_38 rfl ?_
  refine Gl.lstoreN Y1 (L' := #[.val (.ref a), .val (.int dg), .val (.long v38), .second]) rfl d_prog_137_method_1_39 rfl ?_
  refine Gl.aloadN Y1 rfl rfl d_prog_137_method_1_40 rfl ?_
  refine Gl.lloadN Y1 rfl d_prog_137_method_1_41 rfl ?_
  refine Gl.ldcJ Y1 (tw_12 hw) d_prog_137_method_1_42 rfl ?_
  obtain ⟨v45, hv45⟩ : ∃ z : Int64, v38 + (64 : Int64) = z := ⟨_, rfl⟩
  have iv45 : v45.toInt = v38.toInt + 64 := by
    have q : (v45.toInt - (v38.toInt + 64)) % 18446744073709551616 = 0 := by have q := c_ladd v38 (64 : Int64); rw [hv45] at q; exact q
    have r := rng64 v45
    omega
  refine Gl.ladd Y1 hv45 d_prog_137_method_1_45 rfl ?_
  refine Gl.lconst Y1 (v := (1 : Int64)) (by decide) d_prog_137_method_1_46 rfl ?_
  obtain ⟨v47, hv47⟩ : ∃ z : Int64, v45 - (1 : Int64) = z := ⟨_, rfl⟩
  have iv47 : v47.toInt = v45.toInt - 1 := by
    have q : (v47.toInt - (v45.toInt - 1)) % 18446744073709551616 = 0 := by have q := c_lsub v45 (1 : Int64); rw [hv47] at q; exact q
    have r := rng64 v47
    omega
  refine Gl.lsub Y1 hv47 d_prog_137_method_1_47 rfl ?_
  refine Gl.ldcJ Y1 (tw_12 hw) d_prog_137_method_1_48 rfl ?_
  obtain ⟨v51, hv51⟩ : ∃ z : Int64, v47 / (64 : Int64) = z := ⟨_, rfl⟩
  have iv51 : v51.toInt = v47.toInt / 64 := by have q := (c_ldiv v47 (64 : Int64) 64 (by decide) (by decide)).1 (by omega); rw [hv51] at q; exact q
  refine Gl.ldiv Y1 (by decide) hv51 d_prog_137_method_1_51 rfl ?_
  obtain ⟨v52, hv52⟩ : ∃ z : Int32, v51.toInt32 = z := ⟨_, rfl⟩
  have iv52 : v52.toInt = v51.toInt := by
    have q : (v52.toInt - v51.toInt) % 4294967296 = 0 := by have q := c_l2i v51; rw [hv52] at q; exact q
    have r := rng32 v52
    omega
  refine Gl.l2i Y1 hv52 d_prog_137_method_1_52 rfl ?_
  obtain rfl : v52 = (3 : Int32) := Int32.toInt_inj.mp (by simp only [Int32.reduceToInt]; omega)
  refine Gl.newP Y1 3 (ty := .long) rfl (tw_13 hw) (by decide) (by decide) (Nat.le_of_ble_eq_true rfl) (Nat.le_of_ble_eq_true rfl) (Nat.le_of_ble_eq_true rfl) d_prog_137_method_1_53 rfl (fun T53 h53 b53 ck53 Y53 E53 g53 sb53 V53 => ?_)
  have V53 : Arv Z h53 b53 ck53 .long (3 : Int32) [(.long (0 : Int64)), (.long (0 : Int64)), (.long (0 : Int64))] (.long (0 : Int64)) := V53.pad (pad_rep [] (.long (0 : Int64)) 3)
  have zb53 : h0.size ≤ b53 := Nat.le_trans (Keep.refl h0 [a]).1 (Nat.le_of_eq g53.symm)
  have K53 : Keep h0 h53 [a] := (Keep.refl h0 [a]).ext E53
  show Gl p e below _ (T53.setTop (mkF m 55 #[.val (.ref a), .val (.int dg), .val (.long v38), .second] [(.ref b53), (.ref a)]))
  have f1 : Fld Z h53 a "com/example/meterwise/meterwise/model/WholeNumber" "words" "[J" .null := (Fld.ext E53 F_words)
  have f2 : Exa Z h53 a "com/example/meterwise/meterwise/model/WholeNumber" := (Exa.ext E53 E)
  refine Gl.putF Y53 (host := "") (Or.inl (tw_14 hw)) Via.refl f1 f2 (Or.inr ⟨(tw_15 hw), rfl, hnm⟩) (tw_1 hw) ga (ty := (.array .long)) (by decide) rfl rfl d_prog_137_method_1_55 rfl (fun T55 h55 Y55 W55 => ?_)
  have f3 : Fld Z h55 a "com/example/meterwise/meterwise/model/WholeNumber" "words" "[J" (.ref b53) := Fld.same W55 f1
  have K55 : Keep h0 h55 [a] := K53.wr W55 (Or.inl (List.mem_of_getElem? (i := 0) rfl))
  have f4 : Exa Z h55 a "com/example/meterwise/meterwise/model/WholeNumber" := (Exa.wr W55 f2)
  have f5 : Arv Z h55 b53 ck53 .long (3 : Int32) [(.long (0 : Int64)), (.long (0 : Int64)), (.long (0 : Int64))] (.long (0 : Int64)) := (V53.other W55 (Ne.symm (Nat.ne_of_lt (Nat.lt_of_lt_of_eq E.lt g53.symm))))
  exact Gl.retV Y55 (by decide) (by decide)  d_prog_137_method_1_58 ⟨b53, ck53, rfl, K55, zb53, f4, (by first | exact f3 | (subst_vars; exact f3) | (rw [PF]; exact f3)), f5⟩
def R3 : Room := { frames := 1, cells := 1, slots := 4, locals := 12 }
def Q3 (Z : State) (a : Addr) (dg : Int32) (h0 : Heap) (v : Option Value) (h : Heap) : Prop := ∃ wa : Addr, ∃ ck : ClassId, v = none ∧ Keep h0 h [a] ∧ h0.size ≤ wa ∧ Exa Z h a "com/example/meterwise/meterwise/model/WholeNumber" ∧ Fld Z h a "com/example/meterwise/meterwise/model/WholeNumber" "words" "[J" (.ref wa) ∧ Arv Z h wa ck .long (4 : Int32) [(.long (0 : Int64)), (.long (0 : Int64)), (.long (0 : Int64)), (.long (0 : Int64))] (.long (0 : Int64))
theorem ef3 (a : Addr) (dg : Int32) (m : MethodId) : entryFrame m #[(.ref a), (.int dg)] 4 = mkF m 0 #[.val (.ref a), .val (.int dg), .unset, .unset] [] := by first | (simp [entryFrame, mkF, argsToLocals, Value.category]; done) | rfl
set_option maxRecDepth 65536 in
set_option maxHeartbeats 40000000 in
theorem rm3 (l : Launch) (Z : State) (a0 : Array Value) (hw : ∀ d ∈ tables_1, d.before a0 Z = true) (ws : List Jvm.Cond) (a : Addr) (dg : Int32) (h0 : Heap) (n0 : Nat) (Z0 : n0 ≤ h0.size) (E : Exa Z h0 a "com/example/meterwise/meterwise/model/WholeNumber") (F_words : Fld Z h0 a "com/example/meterwise/meterwise/model/WholeNumber" "words" "[J" .null) (ga : n0 ≤ a) (h1 : 58 ≤ dg.toInt) (h2 : dg.toInt ≤ 64) : OMet l Z ws (⟨"com/example/meterwise/meterwise/model/WholeNumber", "<init>", "(I)V"⟩ : MethodName) prog_137_method_1_code 4 none R3 #[(.ref a), (.int dg)] h0 n0 (Q3 Z a dg h0) := by
  refine OMet.of (plainFor_of_name pn_0) (ef3 a dg) Z0 ?_
  intro p e s m below meth c T0 Y0 hnm
  have Y0 : Sd Z "com/example/meterwise/meterwise/model/WholeNumber" prog_137_method_1_code 4 none n0 p l e R3 s m #[(.ref a), (.int dg)] below meth c T0 h0 0 0 := Y0
  have ndg := rng32 dg
  refine Gl.aloadN Y0 rfl rfl d_prog_137_method_1_0 rfl ?_
  refine Gl.initO Y0 (tw_6 hw) (tw_7 hw) (tw_8 hw) rfl (by decide) (Nat.le_of_ble_eq_true rfl) d_prog_137_method_1_1 rfl (fun T1 Y1 => ?_)
  refine Gl.iloadN Y1 rfl d_prog_137_method_1_4 rfl ?_
  refine Gl.iconst Y1 (v := (1 : Int32)) (by decide) d_prog_137_method_1_5 rfl ?_
  refine Gl.icmpge Y1 d_prog_137_method_1_6 (by decide) rfl rfl (fun c6 => ?_) (fun c6 => ?_)
  rotate_left
  · exfalso; have j6 : dg.toInt < 1 := Int32.lt_iff_toInt_lt.mp c6; omega
  have j6 : ¬ (dg.toInt < 1) := fun q => c6 (Int32.lt_iff_toInt_lt.mpr q)
  refine Gl.iloadN Y1 rfl d_prog_137_method_1_23 rfl ?_
  obtain ⟨v24, hv24⟩ : ∃ z : Int64, dg.toInt64 = z := ⟨_, rfl⟩
  have iv24 : v24.toInt = dg.toInt := by have q := c_i2l dg; rw [hv24] at q; exact q
  refine Gl.i2l Y1 hv24 d_prog_137_method_1_24 rfl ?_
  refine Gl.ldcJ Y1 (tw_9 hw) d_prog_137_method_1_25 rfl ?_
  obtain ⟨v28, hv28⟩ : ∃ z : Int64, v24 * (3322 : Int64) = z := ⟨_, rfl⟩
  have iv28 : v28.toInt = v24.toInt * 3322 := by
    have q : (v28.toInt - (v24.toInt * 3322)) % 18446744073709551616 = 0 := by have q := c_lmul v24 (3322 : Int64); rw [hv28] at q; exact q
    have r := rng64 v28
    omega
  refine Gl.lmul Y1 hv28 d_prog_137_method_1_28 rfl ?_
  refine Gl.ldcJ Y1 (tw_10 hw) d_prog_137_method_1_29 rfl ?_
  obtain ⟨v32, hv32⟩ : ∃ z : Int64, v28 + (999 : Int64) = z := ⟨_, rfl⟩
  have iv32 : v32.toInt = v28.toInt + 999 := by
    have q : (v32.toInt - (v28.toInt + 999)) % 18446744073709551616 = 0 := by have q := c_ladd v28 (999 : Int64); rw [hv32] at q; exact q
    have r := rng64 v32
    omega
  refine Gl.ladd Y1 hv32 d_prog_137_method_1_32 rfl ?_
  refine Gl.ldcJ Y1 (tw_11 hw) d_prog_137_method_1_33 rfl ?_
  obtain ⟨v36, hv36⟩ : ∃ z : Int64, v32 / (1000 : Int64) = z := ⟨_, rfl⟩
  have iv36 : v36.toInt = v32.toInt / 1000 := by have q := (c_ldiv v32 (1000 : Int64) 1000 (by decide) (by decide)).1 (by omega); rw [hv36] at q; exact q
  refine Gl.ldiv Y1 (by decide) hv36 d_prog_137_method_1_36 rfl ?_
  refine Gl.lconst Y1 (v := (1 : Int64)) (by decide) d_prog_137_method_1_37 rfl ?_
  obtain ⟨v38, hv38⟩ : ∃ z : Int64, v36 + (1 : Int64) = z := ⟨_, rfl⟩
  have iv38 : v38.toInt = v36.toInt + 1 := by
    have q : (v38.toInt - (v36.toInt + 1)) % 18446744073709551616 = 0 := by have q := c_ladd v36 (1 : Int64); rw [hv38] at q; exact q
    have r := rng64 v38
    omega
  refine Gl.ladd Y1 hv38 d_prog_137_method_1_38 rfl ?_
  refine Gl.lstoreN Y1 (L' := #[.val (.ref a), .val (.int dg), .val (.long v38), .second]) rfl d_prog_137_method_1_39 rfl ?_
  refine Gl.aloadN Y1 rfl rfl d_prog_137_method_1_40 rfl ?_
  refine Gl.lloadN Y1 rfl d_prog_137_method_1_41 rfl ?_
  refine Gl.ldcJ Y1 (tw_12 hw) d_prog_137_method_1_42 rfl ?_
  obtain ⟨v45, hv45⟩ : ∃ z : Int64, v38 + (64 : Int64) = z := ⟨_, rfl⟩
  have iv45 : v45.toInt = v38.toInt + 64 := by
    have q : (v45.toInt - (v38.toInt + 64)) % 18446744073709551616 = 0 := by have q := c_ladd v38 (64 : Int64); rw [hv45] at q; exact q
    have r := rng64 v45
    omega
  refine Gl.ladd Y1 hv45 d_prog_137_method_1_45 rfl ?_
  refine Gl.lconst Y1 (v := (1 : Int64)) (by decide) d_prog_137_method_1_46 rfl ?_
  obtain ⟨v47, hv47⟩ : ∃ z : Int64, v45 - (1 : Int64) = z := ⟨_, rfl⟩
  have iv47 : v47.toInt = v45.toInt - 1 := by
    have q : (v47.toInt - (v45.toInt - 1)) % 18446744073709551616 = 0 := by have q := c_lsub v45 (1 : Int64); rw [hv47] at q; exact q
    have r := rng64 v47
    omega
  refine Gl.lsub Y1 hv47 d_prog_137_method_1_47 rfl ?_
  refine Gl.ldcJ Y1 (tw_12 hw) d_prog_137_method_1_48 rfl ?_
  obtain ⟨v51, hv51⟩ : ∃ z : Int64, v47 / (64 : Int64) = z := ⟨_, rfl⟩
  have iv51 : v51.toInt = v47.toInt / 64 := by have q := (c_ldiv v47 (64 : Int64) 64 (by decide) (by decide)).1 (by omega); rw [hv51] at q; exact q
  refine Gl.ldiv Y1 (by decide) hv51 d_prog_137_method_1_51 rfl ?_
  obtain ⟨v52, hv52⟩ : ∃ z : Int32, v51.toInt32 = z := ⟨_, rfl⟩
  have iv52 : v52.toInt = v51.toInt := by
    have q : (v52.toInt - v51.toInt) % 4294967296 = 0 := by have q := c_l2i v51; rw [hv52] at q; exact q
    have r := rng32 v52
    omega
  refine Gl.l2i Y1 hv52 d_prog_137_method_1_52 rfl ?_
  obtain rfl : v52 = (4 : Int32) := Int32.toInt_inj.mp (by simp only [Int32.reduceToInt]; omega)
  refine Gl.newP Y1 4 (ty := .long) rfl (tw_13 hw) (by decide) (by decide) (Nat.le_of_ble_eq_true rfl) (Nat.le_of_ble_eq_true rfl) (Nat.le_of_ble_eq_true rfl) d_prog_137_method_1_53 rfl (fun T53 h53 b53 ck53 Y53 E53 g53 sb53 V53 => ?_)
  have V53 : Arv Z h53 b53 ck53 .long (4 : Int32) [(.long (0 : Int64)), (.long (0 : Int64)), (.long (0 : Int64)), (.long (0 : Int64))] (.long (0 : Int64)) := V53.pad (pad_rep [] (.long (0 : Int64)) 4)
  have zb53 : h0.size ≤ b53 := Nat.le_trans (Keep.refl h0 [a]).1 (Nat.le_of_eq g53.symm)
  have K53 : Keep h0 h53 [a] := (Keep.refl h0 [a]).ext E53
  show Gl p e below _ (T53.setTop (mkF m 55 #[.val (.ref a), .val (.int dg), .val (.long v38), .second] [(.ref b53), (.ref a)]))
  have f1 : Fld Z h53 a "com/example/meterwise/meterwise/model/WholeNumber" "words" "[J" .null := (Fld.ext E53 F_words)
  have f2 : Exa Z h53 a "com/example/meterwise/meterwise/model/WholeNumber" := (Exa.ext E53 E)
  refine Gl.putF Y53 (host := "") (Or.inl (tw_14 hw)) Via.refl f1 f2 (Or.inr ⟨(tw_15 hw), rfl, hnm⟩) (tw_1 hw) ga (ty := (.array .long)) (by decide) rfl rfl d_prog_137_method_1_55 rfl (fun T55 h55 Y55 W55 => ?_)
  have f3 : Fld Z h55 a "com/example/meterwise/meterwise/model/WholeNumber" "words" "[J" (.ref b53) := Fld.same W55 f1
  have K55 : Keep h0 h55 [a] := K53.wr W55 (Or.inl (List.mem_of_getElem? (i := 0) rfl))
  have f4 : Exa Z h55 a "com/example/meterwise/meterwise/model/WholeNumber" := (Exa.wr W55 f2)
  have f5 : Arv Z h55 b53 ck53 .long (4 : Int32) [(.long (0 : Int64)), (.long (0 : Int64)), (.long (0 : Int64)), (.long (0 : Int64))] (.long (0 : Int64)) := (V53.other W55 (Ne.symm (Nat.ne_of_lt (Nat.lt_of_lt_of_eq E.lt g53.symm))))
  exact Gl.retV Y55 (by decide) (by decide)  d_prog_137_method_1_58 ⟨b53, ck53, rfl, K55, zb53, f4, (by first | exact f3 | (subst_vars; exact f3) | (rw [PF]; exact f3)), f5⟩
theorem d_jdk_65_method_30_0 : decode jdk_65_method_30_code 0 = .ok (.iload_n 1, 1) := by decide +kernel
theorem d_jdk_65_method_30_1 : decode jdk_65_method_30_code 1 = .ok (.iload_n 2, 1) := by decide +kernel
theorem d_jdk_65_method_30_2 : decode jdk_65_method_30_code 2 = .ok (.if_icmp .le 44, 3) := by decide +kernel
theorem d_jdk_65_method_30_46 : decode jdk_65_method_30_code 46 = .ok (.iload_n 1, 1) := by decide +kernel
theorem d_jdk_65_method_30_47 : decode jdk_65_method_30_code 47 = .ok (.ifCond .ge 12, 3) := by decide +kernel
theorem d_jdk_65_method_30_59 : decode jdk_65_method_30_code 59 = .ok (.iload_n 2, 1) := by decide +kernel
theorem d_jdk_65_method_30_60 : decode jdk_65_method_30_code 60 = .ok (.iload_n 0, 1) := by decide +kernel
theorem d_jdk_65_method_30_61 : decode jdk_65_method_30_code 61 = .ok (.if_icmp .le 12, 3) := by decide +kernel
theorem d_jdk_65_method_30_73 : decode jdk_65_method_30_code 73 = .ok (.return_, 1) := by decide +kernel
def R4 : Room := { frames := 0, cells := 0, slots := 0, locals := 0 }
def Q4 (Z : State) (h0 : Heap) (v : Option Value) (h : Heap) : Prop := v = none ∧ h0 = h
theorem ef4 (m : MethodId) : entryFrame m #[(.int (1 : Int32)), (.int (1 : Int32)), (.int (1 : Int32))] 3 = mkF m 0 #[.val (.int (1 : Int32)), .val (.int (1 : Int32)), .val (.int (1 : Int32))] [] := by first | (simp [entryFrame, mkF, argsToLocals, Value.category]; done) | rfl
theorem pn_1 : plainName "java/util/Arrays" = true := by first | (simp [plainName, overriddenIn]; done) | decide +kernel
set_option maxRecDepth 65536 in
set_option maxHeartbeats 40000000 in
theorem rm4 (l : Launch) (Z : State) (a0 : Array Value) (hw : ∀ d ∈ tables_1, d.before a0 Z = true) (ws : List Jvm.Cond) (h0 : Heap) (n0 : Nat) (Z0 : n0 ≤ h0.size) : OMet l Z ws (⟨"java/util/Arrays", "rangeCheck", "(III)V"⟩ : MethodName) jdk_65_method_30_code 3 none R4 #[(.int (1 : Int32)), (.int (1 : Int32)), (.int (1 : Int32))] h0 n0 (Q4 Z h0) := by
  refine OMet.of (plainFor_of_name pn_1) (ef4) Z0 ?_
  intro p e s m below meth c T0 Y0 hnm
  have Y0 : Sd Z "java/util/Arrays" jdk_65_method_30_code 3 none n0 p l e R4 s m #[(.int (1 : Int32)), (.int (1 : Int32)), (.int (1 : Int32))] below meth c T0 h0 0 0 := Y0
  refine Gl.iloadN Y0 rfl d_jdk_65_method_30_0 rfl ?_
  refine Gl.iloadN Y0 rfl d_jdk_65_method_30_1 rfl ?_
  refine Gl.icmple Y0 d_jdk_65_method_30_2 (by decide) rfl rfl (fun c2 => ?_) (fun c2 => ?_)
  rotate_left
  · exact absurd c2 (by decide)
  refine Gl.iloadN Y0 rfl d_jdk_65_method_30_46 rfl ?_
  refine Gl.ifge Y0 d_jdk_65_method_30_47 (by decide) rfl rfl (fun c47 => ?_) (fun c47 => ?_)
  rotate_left
  · exact absurd c47 (by decide)
  refine Gl.iloadN Y0 rfl d_jdk_65_method_30_59 rfl ?_
  refine Gl.iloadN Y0 rfl d_jdk_65_method_30_60 rfl ?_
  refine Gl.icmple Y0 d_jdk_65_method_30_61 (by decide) rfl rfl (fun c61 => ?_) (fun c61 => ?_)
  rotate_left
  · exact absurd c61 (by decide)
  exact Gl.retV Y0 (by decide) (by decide)  d_jdk_65_method_30_73 ⟨rfl, rfl⟩
theorem d_jdk_65_method_102_0 : decode jdk_65_method_102_code 0 = .ok (.aload_n 0, 1) := by decide +kernel
theorem d_jdk_65_method_102_1 : decode jdk_65_method_102_code 1 = .ok (.arraylength, 1) := by decide +kernel
theorem d_jdk_65_method_102_2 : decode jdk_65_method_102_code 2 = .ok (.iload_n 1, 1) := by decide +kernel
theorem d_jdk_65_method_102_3 : decode jdk_65_method_102_code 3 = .ok (.iload_n 2, 1) := by decide +kernel
theorem d_jdk_65_method_102_4 : decode jdk_65_method_102_code 4 = .ok (.invokestatic 13, 3) := by decide +kernel
theorem tw_25 {a0 : Array Value} {Z : State} (hw : ∀ d ∈ tables_1, d.before a0 Z = true) : (Jvm.Cond.methodLink "java/util/Arrays" (13 : Nat) ({ cls := "java/util/Arrays", name := "rangeCheck", desc := "(III)V" } : Jvm.MethodName)).before a0 Z = true := hw _ (List.mem_of_getElem? (i := 25) rfl)
theorem pd_0 : parseMethodDescriptor "(III)V" = some ⟨[.int, .int, .int], none⟩ := by decide +kernel
theorem tw_27 {a0 : Array Value} {Z : State} (hw : ∀ d ∈ tables_1, d.before a0 Z = true) : (Jvm.Cond.code ({ cls := "java/util/Arrays", name := "rangeCheck", desc := "(III)V" } : Jvm.MethodName) jdk_65_method_30_code (3 : Nat) (Option.none : Option Jvm.ClassFile.FieldType)).before a0 Z = true := hw _ (List.mem_of_getElem? (i := 27) rfl)
theorem tw_23 {a0 : Array Value} {Z : State} (hw : ∀ d ∈ tables_1, d.before a0 Z = true) : (Jvm.Cond.initialized "java/util/Arrays").before a0 Z = true := hw _ (List.mem_of_getElem? (i := 23) rfl)
theorem tw_26 {a0 : Array Value} {Z : State} (hw : ∀ d ∈ tables_1, d.before a0 Z = true) : (Jvm.Cond.static ({ cls := "java/util/Arrays", name := "rangeCheck", desc := "(III)V" } : Jvm.MethodName)).before a0 Z = true := hw _ (List.mem_of_getElem? (i := 26) rfl)
theorem d_jdk_65_method_102_7 : decode jdk_65_method_102_code 7 = .ok (.iload_n 1, 1) := by decide +kernel
theorem d_jdk_65_method_102_8 : decode jdk_65_method_102_code 8 = .ok (.istore 5, 2) := by decide +kernel
theorem d_jdk_65_method_102_10 : decode jdk_65_method_102_code 10 = .ok (.iload 5, 2) := by decide +kernel
theorem d_jdk_65_method_102_12 : decode jdk_65_method_102_code 12 = .ok (.iload_n 2, 1) := by decide +kernel
theorem d_jdk_65_method_102_13 : decode jdk_65_method_102_code 13 = .ok (.if_icmp .ge 14, 3) := by decide +kernel
theorem d_jdk_65_method_102_27 : decode jdk_65_method_102_code 27 = .ok (.return_, 1) := by decide +kernel
def R5 : Room := { frames := 1, cells := 0, slots := 0, locals := 14 }
def Q5 (Z : State) (a : Addr) (ka : ClassId) (v1 : Int64) (x0 : Int64) (h0 : Heap) (v : Option Value) (h : Heap) : Prop := v = none ∧ Keep h0 h [a] ∧ Arv Z h a ka .long (1 : Int32) [(.long x0)] (.long (0 : Int64))
theorem ef5 (a : Addr) (v1 : Int64) (m : MethodId) : entryFrame m #[(.ref a), (.int (1 : Int32)), (.int (1 : Int32)), (.long v1)] 6 = mkF m 0 #[.val (.ref a), .val (.int (1 : Int32)), .val (.int (1 : Int32)), .val (.long v1), .second, .unset] [] := by first | (simp [entryFrame, mkF, argsToLocals, Value.category]; done) | rfl
set_option maxRecDepth 65536 in
set_option maxHeartbeats 40000000 in
theorem rm5 (l : Launch) (Z : State) (a0 : Array Value) (hw : ∀ d ∈ tables_1, d.before a0 Z = true) (ws : List Jvm.Cond) (a : Addr) (ka : ClassId) (v1 : Int64) (x0 : Int64) (h0 : Heap) (n0 : Nat) (Z0 : n0 ≤ h0.size) (V : Arv Z h0 a ka .long (1 : Int32) [(.long x0)] (.long (0 : Int64))) (ga : n0 ≤ a) : OMet l Z ws (⟨"java/util/Arrays", "fill", "([JIIJ)V"⟩ : MethodName) jdk_65_method_102_code 6 none R5 #[(.ref a), (.int (1 : Int32)), (.int (1 : Int32)), (.long v1)] h0 n0 (Q5 Z a ka v1 x0 h0) := by
  refine OMet.of (plainFor_of_name pn_1) (ef5 a v1) Z0 ?_
  intro p e s m below meth c T0 Y0 hnm
  have Y0 : Sd Z "java/util/Arrays" jdk_65_method_102_code 6 none n0 p l e R5 s m #[(.ref a), (.int (1 : Int32)), (.int (1 : Int32)), (.long v1)] below meth c T0 h0 0 0 := Y0
  refine Gl.aloadN Y0 rfl rfl d_jdk_65_method_102_0 rfl ?_
  refine Gl.arraylength Y0 V d_jdk_65_method_102_1 rfl ?_
  refine Gl.iloadN Y0 rfl d_jdk_65_method_102_2 rfl ?_
  refine Gl.iloadN Y0 rfl d_jdk_65_method_102_3 rfl ?_
  refine Gl.callS Y0 (tw_25 hw) (tw_26 hw) (tw_23 hw) (tw_27 hw) (by decide) (rm4 l Z a0 hw [] h0 n0 Y0.sz) (argsL := [(.int (1 : Int32)), (.int (1 : Int32)), (.int (1 : Int32))]) (rest := []) rfl rfl (lenOf pd_0 rfl) rfl (by decide) (Nat.le_of_ble_eq_true rfl) (by decide) (by decide) d_jdk_65_method_102_4 rfl (fun v4 T4 h4 Y4 q4 => ?_)
  obtain ⟨rfl, rfl⟩ := q4
  show Gl p e below _ (T4.setTop (mkF m 7 #[.val (.ref a), .val (.int (1 : Int32)), .val (.int (1 : Int32)), .val (.long v1), .second, .unset] []))
  refine Gl.iloadN Y4 rfl d_jdk_65_method_102_7 rfl ?_
  refine Gl.istore Y4 (L' := #[.val (.ref a), .val (.int (1 : Int32)), .val (.int (1 : Int32)), .val (.long v1), .second, .val (.int (1 : Int32))]) rfl d_jdk_65_method_102_8 rfl ?_
  refine Gl.iload Y4 rfl d_jdk_65_method_102_10 rfl ?_
  refine Gl.iloadN Y4 rfl d_jdk_65_method_102_12 rfl ?_
  refine Gl.icmpge Y4 d_jdk_65_method_102_13 (by decide) rfl rfl (fun c13 => ?_) (fun c13 => ?_)
  rotate_left
  · exact absurd c13 (by decide)
  exact Gl.retV Y4 (by decide) (by decide)  d_jdk_65_method_102_27 ⟨rfl, (Keep.refl h0 [a]), V⟩
theorem d_jdk_65_method_101_0 : decode jdk_65_method_101_code 0 = .ok (.iconst 0, 1) := by decide +kernel
theorem d_jdk_65_method_101_1 : decode jdk_65_method_101_code 1 = .ok (.istore_n 3, 1) := by decide +kernel
theorem d_jdk_65_method_101_2 : decode jdk_65_method_101_code 2 = .ok (.aload_n 0, 1) := by decide +kernel
theorem d_jdk_65_method_101_3 : decode jdk_65_method_101_code 3 = .ok (.arraylength, 1) := by decide +kernel
theorem d_jdk_65_method_101_4 : decode jdk_65_method_101_code 4 = .ok (.istore 4, 2) := by decide +kernel
theorem d_jdk_65_method_101_6 : decode jdk_65_method_101_code 6 = .ok (.iload_n 3, 1) := by decide +kernel
theorem d_jdk_65_method_101_7 : decode jdk_65_method_101_code 7 = .ok (.iload 4, 2) := by decide +kernel
theorem d_jdk_65_method_101_9 : decode jdk_65_method_101_code 9 = .ok (.if_icmp .ge 13, 3) := by decide +kernel
theorem d_jdk_65_method_101_12 : decode jdk_65_method_101_code 12 = .ok (.aload_n 0, 1) := by decide +kernel
theorem d_jdk_65_method_101_13 : decode jdk_65_method_101_code 13 = .ok (.iload_n 3, 1) := by decide +kernel
theorem d_jdk_65_method_101_14 : decode jdk_65_method_101_code 14 = .ok (.lload_n 1, 1) := by decide +kernel
theorem d_jdk_65_method_101_15 : decode jdk_65_method_101_code 15 = .ok (.lastore, 1) := by decide +kernel
theorem d_jdk_65_method_101_16 : decode jdk_65_method_101_code 16 = .ok (.iinc 3 1, 3) := by decide +kernel
theorem d_jdk_65_method_101_19 : decode jdk_65_method_101_code 19 = .ok (.goto (-13), 3) := by decide +kernel
theorem d_jdk_65_method_101_22 : decode jdk_65_method_101_code 22 = .ok (.return_, 1) := by decide +kernel
def R6 : Room := { frames := 0, cells := 0, slots := 0, locals := 0 }
def Q6 (Z : State) (a : Addr) (ka : ClassId) (x0 : Int64) (h0 : Heap) (v : Option Value) (h : Heap) : Prop := v = none ∧ Keep h0 h [a] ∧ Arv Z h a ka .long (1 : Int32) [(.long (0 : Int64))] (.long (0 : Int64))
theorem ef6 (a : Addr) (m : MethodId) : entryFrame m #[(.ref a), (.long (0 : Int64))] 5 = mkF m 0 #[.val (.ref a), .val (.long (0 : Int64)), .second, .unset, .unset] [] := by first | (simp [entryFrame, mkF, argsToLocals, Value.category]; done) | rfl
set_option maxRecDepth 65536 in
set_option maxHeartbeats 40000000 in
theorem rm6 (l : Launch) (Z : State) (a0 : Array Value) (hw : ∀ d ∈ tables_1, d.before a0 Z = true) (ws : List Jvm.Cond) (a : Addr) (ka : ClassId) (x0 : Int64) (h0 : Heap) (n0 : Nat) (Z0 : n0 ≤ h0.size) (V : Arv Z h0 a ka .long (1 : Int32) [(.long x0)] (.long (0 : Int64))) (ga : n0 ≤ a) : OMet l Z ws (⟨"java/util/Arrays", "fill", "([JJ)V"⟩ : MethodName) jdk_65_method_101_code 5 none R6 #[(.ref a), (.long (0 : Int64))] h0 n0 (Q6 Z a ka x0 h0) := by
  refine OMet.of (plainFor_of_name pn_1) (ef6 a) Z0 ?_
  intro p e s m below meth c T0 Y0 hnm
  have Y0 : Sd Z "java/util/Arrays" jdk_65_method_101_code 5 none n0 p l e R6 s m #[(.ref a), (.long (0 : Int64))] below meth c T0 h0 0 0 := Y0
  refine Gl.iconst Y0 (v := (0 : Int32)) (by decide) d_jdk_65_method_101_0 rfl ?_
  refine Gl.istoreN Y0 (L' := #[.val (.ref a), .val (.long (0 : Int64)), .second, .val (.int (0 : Int32)), .unset]) rfl d_jdk_65_method_101_1 rfl ?_
  refine Gl.aloadN Y0 rfl rfl d_jdk_65_method_101_2 rfl ?_
  refine Gl.arraylength Y0 V d_jdk_65_method_101_3 rfl ?_
  refine Gl.istore Y0 (L' := #[.val (.ref a), .val (.long (0 : Int64)), .second, .val (.int (0 : Int32)), .val (.int (1 : Int32))]) rfl d_jdk_65_method_101_4 rfl ?_
  refine Gl.iloadN Y0 rfl d_jdk_65_method_101_6 rfl ?_
  refine Gl.iload Y0 rfl d_jdk_65_method_101_7 rfl ?_
  refine Gl.icmpge Y0 d_jdk_65_method_101_9 (by decide) rfl rfl (fun c9 => ?_) (fun c9 => ?_)
  · exact absurd c9 (by decide)
  refine Gl.aloadN Y0 rfl rfl d_jdk_65_method_101_12 rfl ?_
  refine Gl.iloadN Y0 rfl d_jdk_65_method_101_13 rfl ?_
  refine Gl.lloadN Y0 rfl d_jdk_65_method_101_14 rfl ?_
  refine Gl.lastore Y0 V (v := (.long (0 : Int64))) rfl ⟨by decide, by decide⟩ (ix := 0) rfl (Nat.le_of_ble_eq_true rfl) ga d_jdk_65_method_101_15 rfl (fun T15 h15 Y15 W15 A15 => ?_)
  have A15 : Arv Z h15 a ka .long (1 : Int32) [(.long (0 : Int64))] (.long (0 : Int64)) := A15
  have K15 : Keep h0 h15 [a] := (Keep.refl h0 [a]).wr W15 (Or.inl (List.mem_of_getElem? (i := 0) rfl))
  show Gl p e below _ (T15.setTop (mkF m 16 #[.val (.ref a), .val (.long (0 : Int64)), .second, .val (.int (0 : Int32)), .val (.int (1 : Int32))] []))
  refine Gl.iinc Y15 rfl (r := (1 : Int32)) (by decide) (L' := #[.val (.ref a), .val (.long (0 : Int64)), .second, .val (.int (1 : Int32)), .val (.int (1 : Int32))]) rfl d_jdk_65_method_101_16 rfl ?_
  refine Gl.goto Y15 d_jdk_65_method_101_19 (by decide) rfl ?_
  refine Gl.iloadN Y15 rfl d_jdk_65_method_101_6 rfl ?_
  refine Gl.iload Y15 rfl d_jdk_65_method_101_7 rfl ?_
  refine Gl.icmpge Y15 d_jdk_65_method_101_9 (by decide) rfl rfl (fun c9_2 => ?_) (fun c9_2 => ?_)
  rotate_left
  · exact absurd c9_2 (by decide)
  exact Gl.retV Y15 (by decide) (by decide)  d_jdk_65_method_101_22 ⟨rfl, K15, A15⟩
theorem d_prog_137_method_31_0 : decode prog_137_method_31_code 0 = .ok (.aload_n 0, 1) := by decide +kernel
theorem d_prog_137_method_31_1 : decode prog_137_method_31_code 1 = .ok (.getfield 26, 3) := by decide +kernel
theorem d_prog_137_method_31_4 : decode prog_137_method_31_code 4 = .ok (.aload_n 0, 1) := by decide +kernel
theorem d_prog_137_method_31_5 : decode prog_137_method_31_code 5 = .ok (.getfield 26, 3) := by decide +kernel
theorem d_prog_137_method_31_8 : decode prog_137_method_31_code 8 = .ok (.arraylength, 1) := by decide +kernel
theorem d_prog_137_method_31_9 : decode prog_137_method_31_code 9 = .ok (.iconst 1, 1) := by decide +kernel
theorem d_prog_137_method_31_10 : decode prog_137_method_31_code 10 = .ok (.isub, 1) := by decide +kernel
theorem d_prog_137_method_31_11 : decode prog_137_method_31_code 11 = .ok (.laload, 1) := by decide +kernel
theorem d_prog_137_method_31_12 : decode prog_137_method_31_code 12 = .ok (.lreturn, 1) := by decide +kernel
def R7 : Room := { frames := 0, cells := 0, slots := 0, locals := 0 }
def Q7 (Z : State) (o : Addr) (wo : Addr) (ko : ClassId) (x0 : Int64) (h0 : Heap) (v : Option Value) (h : Heap) : Prop := v = some (.long x0) ∧ h0 = h
theorem ef7 (o : Addr) (m : MethodId) : entryFrame m #[(.ref o)] 1 = mkF m 0 #[.val (.ref o)] [] := by first | (simp [entryFrame, mkF, argsToLocals, Value.category]; done) | rfl
set_option maxRecDepth 65536 in
set_option maxHeartbeats 40000000 in
theorem rm7 (l : Launch) (Z : State) (a0 : Array Value) (hw : ∀ d ∈ tables_1, d.before a0 Z = true) (ws : List Jvm.Cond) (o : Addr) (wo : Addr) (ko : ClassId) (x0 : Int64) (h0 : Heap) (n0 : Nat) (Z0 : n0 ≤ h0.size) (E_o : Exa Z h0 o "com/example/meterwise/meterwise/model/WholeNumber") (F_o : Fld Z h0 o "com/example/meterwise/meterwise/model/WholeNumber" "words" "[J" (.ref wo)) (V_o : Arv Z h0 wo ko .long (1 : Int32) [(.long x0)] (.long (0 : Int64))) : OMet l Z ws (⟨"com/example/meterwise/meterwise/model/WholeNumber", "top", "()J"⟩ : MethodName) prog_137_method_31_code 1 (some .long) R7 #[(.ref o)] h0 n0 (Q7 Z o wo ko x0 h0) := by
  refine OMet.of (plainFor_of_name pn_0) (ef7 o) Z0 ?_
  intro p e s m below meth c T0 Y0 hnm
  have Y0 : Sd Z "com/example/meterwise/meterwise/model/WholeNumber" prog_137_method_31_code 1 (some .long) n0 p l e R7 s m #[(.ref o)] below meth c T0 h0 0 0 := Y0
  refine Gl.aloadN Y0 rfl rfl d_prog_137_method_31_0 rfl ?_
  refine Gl.getF Y0 (host := "") (Or.inl (tw_14 hw)) Via.refl F_o d_prog_137_method_31_1 rfl (fun T1 Y1 => ?_)
  refine Gl.aloadN Y1 rfl rfl d_prog_137_method_31_4 rfl ?_
  refine Gl.getF Y1 (host := "") (Or.inl (tw_14 hw)) Via.refl F_o d_prog_137_method_31_5 rfl (fun T5 Y5 => ?_)
  refine Gl.arraylength Y5 V_o d_prog_137_method_31_8 rfl ?_
  refine Gl.iconst Y5 (v := (1 : Int32)) (by decide) d_prog_137_method_31_9 rfl ?_
  refine Gl.isub Y5 (r := (0 : Int32)) (by decide) d_prog_137_method_31_10 rfl ?_
  refine Gl.laload Y5 V_o ⟨by decide, by decide⟩ (v := (.long x0)) rfl d_prog_137_method_31_11 rfl ?_
  exact Gl.retJ Y5 (by decide) (by decide)  d_prog_137_method_31_12 ⟨rfl, rfl⟩
theorem d_prog_137_method_7_0 : decode prog_137_method_7_code 0 = .ok (.aload_n 0, 1) := by decide +kernel
theorem d_prog_137_method_7_1 : decode prog_137_method_7_code 1 = .ok (.getfield 26, 3) := by decide +kernel
theorem d_prog_137_method_7_4 : decode prog_137_method_7_code 4 = .ok (.lconst 0, 1) := by decide +kernel
theorem d_prog_137_method_7_5 : decode prog_137_method_7_code 5 = .ok (.invokestatic 105, 3) := by decide +kernel
theorem tw_33 {a0 : Array Value} {Z : State} (hw : ∀ d ∈ tables_1, d.before a0 Z = true) : (Jvm.Cond.methodLink "com/example/meterwise/meterwise/model/WholeNumber" (105 : Nat) ({ cls := "java/util/Arrays", name := "fill", desc := "([JJ)V" } : Jvm.MethodName)).before a0 Z = true := hw _ (List.mem_of_getElem? (i := 33) rfl)
theorem pd_1 : parseMethodDescriptor "([JJ)V" = some ⟨[(.array .long), .long], none⟩ := by decide +kernel
theorem tw_35 {a0 : Array Value} {Z : State} (hw : ∀ d ∈ tables_1, d.before a0 Z = true) : (Jvm.Cond.code ({ cls := "java/util/Arrays", name := "fill", desc := "([JJ)V" } : Jvm.MethodName) jdk_65_method_101_code (5 : Nat) (Option.none : Option Jvm.ClassFile.FieldType)).before a0 Z = true := hw _ (List.mem_of_getElem? (i := 35) rfl)
theorem tw_34 {a0 : Array Value} {Z : State} (hw : ∀ d ∈ tables_1, d.before a0 Z = true) : (Jvm.Cond.static ({ cls := "java/util/Arrays", name := "fill", desc := "([JJ)V" } : Jvm.MethodName)).before a0 Z = true := hw _ (List.mem_of_getElem? (i := 34) rfl)
theorem d_prog_137_method_7_8 : decode prog_137_method_7_code 8 = .ok (.aload_n 0, 1) := by decide +kernel
theorem d_prog_137_method_7_9 : decode prog_137_method_7_code 9 = .ok (.getfield 26, 3) := by decide +kernel
theorem d_prog_137_method_7_12 : decode prog_137_method_7_code 12 = .ok (.aload_n 0, 1) := by decide +kernel
theorem d_prog_137_method_7_13 : decode prog_137_method_7_code 13 = .ok (.getfield 26, 3) := by decide +kernel
theorem d_prog_137_method_7_16 : decode prog_137_method_7_code 16 = .ok (.arraylength, 1) := by decide +kernel
theorem d_prog_137_method_7_17 : decode prog_137_method_7_code 17 = .ok (.iconst 1, 1) := by decide +kernel
theorem d_prog_137_method_7_18 : decode prog_137_method_7_code 18 = .ok (.isub, 1) := by decide +kernel
theorem d_prog_137_method_7_19 : decode prog_137_method_7_code 19 = .ok (.ldc2_w 108, 3) := by decide +kernel
theorem tw_36 {a0 : Array Value} {Z : State} (hw : ∀ d ∈ tables_1, d.before a0 Z = true) : (Jvm.Cond.constantLong "com/example/meterwise/meterwise/model/WholeNumber" (108 : Nat) (-9223372036854775808 : Int64)).before a0 Z = true := hw _ (List.mem_of_getElem? (i := 36) rfl)
theorem d_prog_137_method_7_22 : decode prog_137_method_7_code 22 = .ok (.lastore, 1) := by decide +kernel
theorem d_prog_137_method_7_23 : decode prog_137_method_7_code 23 = .ok (.aload_n 0, 1) := by decide +kernel
theorem d_prog_137_method_7_24 : decode prog_137_method_7_code 24 = .ok (.areturn, 1) := by decide +kernel
def R8 : Room := { frames := 1, cells := 0, slots := 0, locals := 16 }
def Q8 (Z : State) (o : Addr) (wo : Addr) (ko : ClassId) (x0 : Int64) (h0 : Heap) (v : Option Value) (h : Heap) : Prop := v = some (.ref o) ∧ Keep h0 h [wo] ∧ Arv Z h wo ko .long (1 : Int32) [(.long (-9223372036854775808 : Int64))] (.long (0 : Int64))
theorem ef8 (o : Addr) (m : MethodId) : entryFrame m #[(.ref o)] 1 = mkF m 0 #[.val (.ref o)] [] := by first | (simp [entryFrame, mkF, argsToLocals, Value.category]; done) | rfl
set_option maxRecDepth 65536 in
set_option maxHeartbeats 40000000 in
theorem rm8 (l : Launch) (Z : State) (a0 : Array Value) (hw : ∀ d ∈ tables_1, d.before a0 Z = true) (ws : List Jvm.Cond) (o : Addr) (wo : Addr) (ko : ClassId) (x0 : Int64) (h0 : Heap) (n0 : Nat) (Z0 : n0 ≤ h0.size) (E_o : Exa Z h0 o "com/example/meterwise/meterwise/model/WholeNumber") (F_o : Fld Z h0 o "com/example/meterwise/meterwise/model/WholeNumber" "words" "[J" (.ref wo)) (V_o : Arv Z h0 wo ko .long (1 : Int32) [(.long x0)] (.long (0 : Int64))) (g_o : n0 ≤ wo) (nn_o : o ≠ wo) : OMet l Z ws (⟨"com/example/meterwise/meterwise/model/WholeNumber", "overflow", "()Lcom/example/meterwise/meterwise/model/WholeNumber;"⟩ : MethodName) prog_137_method_7_code 1 (some (.object "com/example/meterwise/meterwise/model/WholeNumber")) R8 #[(.ref o)] h0 n0 (Q8 Z o wo ko x0 h0) := by
  refine OMet.of (plainFor_of_name pn_0) (ef8 o) Z0 ?_
  intro p e s m below meth c T0 Y0 hnm
  have Y0 : Sd Z "com/example/meterwise/meterwise/model/WholeNumber" prog_137_method_7_code 1 (some (.object "com/example/meterwise/meterwise/model/WholeNumber")) n0 p l e R8 s m #[(.ref o)] below meth c T0 h0 0 0 := Y0
  refine Gl.aloadN Y0 rfl rfl d_prog_137_method_7_0 rfl ?_
  refine Gl.getF Y0 (host := "") (Or.inl (tw_14 hw)) Via.refl F_o d_prog_137_method_7_1 rfl (fun T1 Y1 => ?_)
  refine Gl.lconst Y1 (v := (0 : Int64)) (by decide) d_prog_137_method_7_4 rfl ?_
  refine Gl.callS Y1 (tw_33 hw) (tw_34 hw) (tw_23 hw) (tw_35 hw) (by decide) (rm6 l Z a0 hw [] wo ko x0 h0 n0 Y1.sz V_o g_o) (argsL := [(.ref wo), (.long (0 : Int64))]) (rest := []) rfl rfl (lenOf pd_1 rfl) rfl (by decide) (Nat.le_of_ble_eq_true rfl) (by decide) (by decide) d_prog_137_method_7_5 rfl (fun v5 T5 h5 Y5 q5 => ?_)
  obtain ⟨rfl, K5, f5_0⟩ := q5
  have KK5 : Keep h0 h5 [wo] := (Keep.refl h0 [wo]).trans K5 (allS (Or.inl (List.mem_of_getElem? (i := 0) rfl)) all0)
  show Gl p e below _ (T5.setTop (mkF m 8 #[.val (.ref o)] []))
  refine Gl.aloadN Y5 rfl rfl d_prog_137_method_7_8 rfl ?_
  have f1 : Fld Z h5 o "com/example/meterwise/meterwise/model/WholeNumber" "words" "[J" (.ref wo) := (F_o.keep K5 (ninS nn_o nin0))
  refine Gl.getF Y5 (host := "") (Or.inl (tw_14 hw)) Via.refl f1 d_prog_137_method_7_9 rfl (fun T9 Y9 => ?_)
  refine Gl.aloadN Y9 rfl rfl d_prog_137_method_7_12 rfl ?_
  refine Gl.getF Y9 (host := "") (Or.inl (tw_14 hw)) Via.refl f1 d_prog_137_method_7_13 rfl (fun T13 Y13 => ?_)
  refine Gl.arraylength Y13 f5_0 d_prog_137_method_7_16 rfl ?_
  refine Gl.iconst Y13 (v := (1 : Int32)) (by decide) d_prog_137_method_7_17 rfl ?_
  refine Gl.isub Y13 (r := (0 : Int32)) (by decide) d_prog_137_method_7_18 rfl ?_
  refine Gl.ldcJ Y13 (tw_36 hw) d_prog_137_method_7_19 rfl ?_
  refine Gl.lastore Y13 f5_0 (v := (.long (-9223372036854775808 : Int64))) rfl ⟨by decide, by decide⟩ (ix := 0) rfl (Nat.le_of_ble_eq_true rfl) g_o d_prog_137_method_7_22 rfl (fun T22 h22 Y22 W22 A22 => ?_)
  have A22 : Arv Z h22 wo ko .long (1 : Int32) [(.long (-9223372036854775808 : Int64))] (.long (0 : Int64)) := A22
  have K22 : Keep h0 h22 [wo] := KK5.wr W22 (Or.inl (List.mem_of_getElem? (i := 0) rfl))
  show Gl p e below _ (T22.setTop (mkF m 23 #[.val (.ref o)] []))
  refine Gl.aloadN Y22 rfl rfl d_prog_137_method_7_23 rfl ?_
  exact Gl.retA Y22 (by decide) (by decide) rfl rfl d_prog_137_method_7_24 ⟨rfl, K22, A22⟩
theorem d_prog_137_method_4_0 : decode prog_137_method_4_code 0 = .ok (.aload_n 0, 1) := by decide +kernel
theorem d_prog_137_method_4_1 : decode prog_137_method_4_code 1 = .ok (.getfield 26, 3) := by decide +kernel
theorem d_prog_137_method_4_4 : decode prog_137_method_4_code 4 = .ok (.iconst 0, 1) := by decide +kernel
theorem d_prog_137_method_4_5 : decode prog_137_method_4_code 5 = .ok (.lload_n 1, 1) := by decide +kernel
theorem d_prog_137_method_4_6 : decode prog_137_method_4_code 6 = .ok (.lastore, 1) := by decide +kernel
theorem d_prog_137_method_4_7 : decode prog_137_method_4_code 7 = .ok (.aload_n 0, 1) := by decide +kernel
theorem d_prog_137_method_4_8 : decode prog_137_method_4_code 8 = .ok (.getfield 26, 3) := by decide +kernel
theorem d_prog_137_method_4_11 : decode prog_137_method_4_code 11 = .ok (.iconst 1, 1) := by decide +kernel
theorem d_prog_137_method_4_12 : decode prog_137_method_4_code 12 = .ok (.aload_n 0, 1) := by decide +kernel
theorem d_prog_137_method_4_13 : decode prog_137_method_4_code 13 = .ok (.getfield 26, 3) := by decide +kernel
theorem d_prog_137_method_4_16 : decode prog_137_method_4_code 16 = .ok (.arraylength, 1) := by decide +kernel
theorem d_prog_137_method_4_17 : decode prog_137_method_4_code 17 = .ok (.lload_n 1, 1) := by decide +kernel
theorem d_prog_137_method_4_18 : decode prog_137_method_4_code 18 = .ok (.bipush 63, 2) := by decide +kernel
theorem d_prog_137_method_4_20 : decode prog_137_method_4_code 20 = .ok (.lshr, 1) := by decide +kernel
theorem d_prog_137_method_4_21 : decode prog_137_method_4_code 21 = .ok (.invokestatic 58, 3) := by decide +kernel
theorem tw_21 {a0 : Array Value} {Z : State} (hw : ∀ d ∈ tables_1, d.before a0 Z = true) : (Jvm.Cond.methodLink "com/example/meterwise/meterwise/model/WholeNumber" (58 : Nat) ({ cls := "java/util/Arrays", name := "fill", desc := "([JIIJ)V" } : Jvm.MethodName)).before a0 Z = true := hw _ (List.mem_of_getElem? (i := 21) rfl)
theorem pd_2 : parseMethodDescriptor "([JIIJ)V" = some ⟨[(.array .long), .int, .int, .long], none⟩ := by decide +kernel
theorem tw_24 {a0 : Array Value} {Z : State} (hw : ∀ d ∈ tables_1, d.before a0 Z = true) : (Jvm.Cond.code ({ cls := "java/util/Arrays", name := "fill", desc := "([JIIJ)V" } : Jvm.MethodName) jdk_65_method_102_code (6 : Nat) (Option.none : Option Jvm.ClassFile.FieldType)).before a0 Z = true := hw _ (List.mem_of_getElem? (i := 24) rfl)
theorem tw_22 {a0 : Array Value} {Z : State} (hw : ∀ d ∈ tables_1, d.before a0 Z = true) : (Jvm.Cond.static ({ cls := "java/util/Arrays", name := "fill", desc := "([JIIJ)V" } : Jvm.MethodName)).before a0 Z = true := hw _ (List.mem_of_getElem? (i := 22) rfl)
theorem d_prog_137_method_4_24 : decode prog_137_method_4_code 24 = .ok (.aload_n 0, 1) := by decide +kernel
theorem d_prog_137_method_4_25 : decode prog_137_method_4_code 25 = .ok (.areturn, 1) := by decide +kernel
def R9 : Room := { frames := 2, cells := 0, slots := 0, locals := 31 }
def Q9 (Z : State) (o : Addr) (wo : Addr) (ko : ClassId) (x0 : Int64) (v1 : Int64) (h0 : Heap) (v : Option Value) (h : Heap) : Prop := v = some (.ref o) ∧ Keep h0 h [wo] ∧ Arv Z h wo ko .long (1 : Int32) [(.long v1)] (.long (0 : Int64))
theorem ef9 (o : Addr) (v1 : Int64) (m : MethodId) : entryFrame m #[(.ref o), (.long v1)] 3 = mkF m 0 #[.val (.ref o), .val (.long v1), .second] [] := by first | (simp [entryFrame, mkF, argsToLocals, Value.category]; done) | rfl
set_option maxRecDepth 65536 in
set_option maxHeartbeats 40000000 in
theorem rm9 (l : Launch) (Z : State) (a0 : Array Value) (hw : ∀ d ∈ tables_1, d.before a0 Z = true) (ws : List Jvm.Cond) (o : Addr) (wo : Addr) (ko : ClassId) (x0 : Int64) (v1 : Int64) (h0 : Heap) (n0 : Nat) (Z0 : n0 ≤ h0.size) (E_o : Exa Z h0 o "com/example/meterwise/meterwise/model/WholeNumber") (F_o : Fld Z h0 o "com/example/meterwise/meterwise/model/WholeNumber" "words" "[J" (.ref wo)) (V_o : Arv Z h0 wo ko .long (1 : Int32) [(.long x0)] (.long (0 : Int64))) (g_o : n0 ≤ wo) (nn_o : o ≠ wo) : OMet l Z ws (⟨"com/example/meterwise/meterwise/model/WholeNumber", "set", "(J)Lcom/example/meterwise/meterwise/model/WholeNumber;"⟩ : MethodName) prog_137_method_4_code 3 (some (.object "com/example/meterwise/meterwise/model/WholeNumber")) R9 #[(.ref o), (.long v1)] h0 n0 (Q9 Z o wo ko x0 v1 h0) := by
  refine OMet.of (plainFor_of_name pn_0) (ef9 o v1) Z0 ?_
  intro p e s m below meth c T0 Y0 hnm
  have Y0 : Sd Z "com/example/meterwise/meterwise/model/WholeNumber" prog_137_method_4_code 3 (some (.object "com/example/meterwise/meterwise/model/WholeNumber")) n0 p l e R9 s m #[(.ref o), (.long v1)] below meth c T0 h0 0 0 := Y0
  refine Gl.aloadN Y0 rfl rfl d_prog_137_method_4_0 rfl ?_
  refine Gl.getF Y0 (host := "") (Or.inl (tw_14 hw)) Via.refl F_o d_prog_137_method_4_1 rfl (fun T1 Y1 => ?_)
  refine Gl.iconst Y1 (v := (0 : Int32)) (by decide) d_prog_137_method_4_4 rfl ?_
  refine Gl.lloadN Y1 rfl d_prog_137_method_4_5 rfl ?_
  refine Gl.lastore Y1 V_o (v := (.long v1)) rfl ⟨by decide, by decide⟩ (ix := 0) rfl (Nat.le_of_ble_eq_true rfl) g_o d_prog_137_method_4_6 rfl (fun T6 h6 Y6 W6 A6 => ?_)
  have A6 : Arv Z h6 wo ko .long (1 : Int32) [(.long v1)] (.long (0 : Int64)) := A6
  have K6 : Keep h0 h6 [wo] := (Keep.refl h0 [wo]).wr W6 (Or.inl (List.mem_of_getElem? (i := 0) rfl))
  show Gl p e below _ (T6.setTop (mkF m 7 #[.val (.ref o), .val (.long v1), .second] []))
  refine Gl.aloadN Y6 rfl rfl d_prog_137_method_4_7 rfl ?_
  have f1 : Fld Z h6 o "com/example/meterwise/meterwise/model/WholeNumber" "words" "[J" (.ref wo) := (Fld.other W6 F_o (Or.inl nn_o))
  refine Gl.getF Y6 (host := "") (Or.inl (tw_14 hw)) Via.refl f1 d_prog_137_method_4_8 rfl (fun T8 Y8 => ?_)
  refine Gl.iconst Y8 (v := (1 : Int32)) (by decide) d_prog_137_method_4_11 rfl ?_
  refine Gl.aloadN Y8 rfl rfl d_prog_137_method_4_12 rfl ?_
  refine Gl.getF Y8 (host := "") (Or.inl (tw_14 hw)) Via.refl f1 d_prog_137_method_4_13 rfl (fun T13 Y13 => ?_)
  refine Gl.arraylength Y13 A6 d_prog_137_method_4_16 rfl ?_
  refine Gl.lloadN Y13 rfl d_prog_137_method_4_17 rfl ?_
  refine Gl.bipush Y13 (v := (63 : Int32)) (by decide) d_prog_137_method_4_18 rfl ?_
  refine Gl.lshr Y13 rfl d_prog_137_method_4_20 rfl ?_
  refine Gl.callS Y13 (tw_21 hw) (tw_22 hw) (tw_23 hw) (tw_24 hw) (by decide) (rm5 l Z a0 hw [] wo ko (v1 >>> ((63 : Int32) &&& 0x3f).toInt64) v1 h6 n0 Y13.sz A6 g_o) (argsL := [(.ref wo), (.int (1 : Int32)), (.int (1 : Int32)), (.long (v1 >>> ((63 : Int32) &&& 0x3f).toInt64))]) (rest := []) rfl rfl (lenOf pd_2 rfl) rfl (by decide) (Nat.le_of_ble_eq_true rfl) (by decide) (by decide) d_prog_137_method_4_21 rfl (fun v21 T21 h21 Y21 q21 => ?_)
  obtain ⟨rfl, K21, f21_0⟩ := q21
  have KK21 : Keep h0 h21 [wo] := K6.trans K21 (allS (Or.inl (List.mem_of_getElem? (i := 0) rfl)) all0)
  show Gl p e below _ (T21.setTop (mkF m 24 #[.val (.ref o), .val (.long v1), .second] []))
  refine Gl.aloadN Y21 rfl rfl d_prog_137_method_4_24 rfl ?_
  exact Gl.retA Y21 (by decide) (by decide) rfl rfl d_prog_137_method_4_25 ⟨rfl, KK21, f21_0⟩
theorem d_prog_137_method_10_0 : decode prog_137_method_10_code 0 = .ok (.iconst 0, 1) := by decide +kernel
theorem d_prog_137_method_10_1 : decode prog_137_method_10_code 1 = .ok (.istore_n 1, 1) := by decide +kernel
theorem d_prog_137_method_10_2 : decode prog_137_method_10_code 2 = .ok (.iload_n 1, 1) := by decide +kernel
theorem d_prog_137_method_10_3 : decode prog_137_method_10_code 3 = .ok (.aload_n 0, 1) := by decide +kernel
theorem d_prog_137_method_10_4 : decode prog_137_method_10_code 4 = .ok (.getfield 26, 3) := by decide +kernel
theorem d_prog_137_method_10_7 : decode prog_137_method_10_code 7 = .ok (.arraylength, 1) := by decide +kernel
theorem d_prog_137_method_10_8 : decode prog_137_method_10_code 8 = .ok (.iconst 1, 1) := by decide +kernel
theorem d_prog_137_method_10_9 : decode prog_137_method_10_code 9 = .ok (.isub, 1) := by decide +kernel
theorem d_prog_137_method_10_10 : decode prog_137_method_10_code 10 = .ok (.if_icmp .ge 22, 3) := by decide +kernel
theorem d_prog_137_method_10_32 : decode prog_137_method_10_code 32 = .ok (.iconst 1, 1) := by decide +kernel
theorem d_prog_137_method_10_33 : decode prog_137_method_10_code 33 = .ok (.ireturn, 1) := by decide +kernel
def R10 : Room := { frames := 0, cells := 0, slots := 0, locals := 0 }
def Q10 (Z : State) (o : Addr) (wo : Addr) (ko : ClassId) (x0 : Int64) (h0 : Heap) (v : Option Value) (h : Heap) : Prop := v = some (.int (1 : Int32)) ∧ h0 = h
theorem ef10 (o : Addr) (m : MethodId) : entryFrame m #[(.ref o)] 2 = mkF m 0 #[.val (.ref o), .unset] [] := by first | (simp [entryFrame, mkF, argsToLocals, Value.category]; done) | rfl
set_option maxRecDepth 65536 in
set_option maxHeartbeats 40000000 in
theorem rm10 (l : Launch) (Z : State) (a0 : Array Value) (hw : ∀ d ∈ tables_1, d.before a0 Z = true) (ws : List Jvm.Cond) (o : Addr) (wo : Addr) (ko : ClassId) (x0 : Int64) (h0 : Heap) (n0 : Nat) (Z0 : n0 ≤ h0.size) (E_o : Exa Z h0 o "com/example/meterwise/meterwise/model/WholeNumber") (F_o : Fld Z h0 o "com/example/meterwise/meterwise/model/WholeNumber" "words" "[J" (.ref wo)) (V_o : Arv Z h0 wo ko .long (1 : Int32) [(.long x0)] (.long (0 : Int64))) : OMet l Z ws (⟨"com/example/meterwise/meterwise/model/WholeNumber", "zeroBelowTop", "()Z"⟩ : MethodName) prog_137_method_10_code 2 (some .boolean) R10 #[(.ref o)] h0 n0 (Q10 Z o wo ko x0 h0) := by
  refine OMet.of (plainFor_of_name pn_0) (ef10 o) Z0 ?_
  intro p e s m below meth c T0 Y0 hnm
  have Y0 : Sd Z "com/example/meterwise/meterwise/model/WholeNumber" prog_137_method_10_code 2 (some .boolean) n0 p l e R10 s m #[(.ref o)] below meth c T0 h0 0 0 := Y0
  refine Gl.iconst Y0 (v := (0 : Int32)) (by decide) d_prog_137_method_10_0 rfl ?_
  refine Gl.istoreN Y0 (L' := #[.val (.ref o), .val (.int (0 : Int32))]) rfl d_prog_137_method_10_1 rfl ?_
  refine Gl.iloadN Y0 rfl d_prog_137_method_10_2 rfl ?_
  refine Gl.aloadN Y0 rfl rfl d_prog_137_method_10_3 rfl ?_
  refine Gl.getF Y0 (host := "") (Or.inl (tw_14 hw)) Via.refl F_o d_prog_137_method_10_4 rfl (fun T4 Y4 => ?_)
  refine Gl.arraylength Y4 V_o d_prog_137_method_10_7 rfl ?_
  refine Gl.iconst Y4 (v := (1 : Int32)) (by decide) d_prog_137_method_10_8 rfl ?_
  refine Gl.isub Y4 (r := (0 : Int32)) (by decide) d_prog_137_method_10_9 rfl ?_
  refine Gl.icmpge Y4 d_prog_137_method_10_10 (by decide) rfl rfl (fun c10 => ?_) (fun c10 => ?_)
  rotate_left
  · exact absurd c10 (by decide)
  refine Gl.iconst Y4 (v := (1 : Int32)) (by decide) d_prog_137_method_10_32 rfl ?_
  exact Gl.retZ Y4 (by decide) (by decide) (x' := (1 : Int32)) (by decide) d_prog_137_method_10_33 ⟨rfl, rfl⟩
theorem d_prog_137_method_8_0 : decode prog_137_method_8_code 0 = .ok (.aload_n 0, 1) := by decide +kernel
theorem d_prog_137_method_8_1 : decode prog_137_method_8_code 1 = .ok (.invokevirtual 78, 3) := by decide +kernel
theorem tw_51 {a0 : Array Value} {Z : State} (hw : ∀ d ∈ tables_1, d.before a0 Z = true) : (Jvm.Cond.methodLink "com/example/meterwise/meterwise/model/WholeNumber" (78 : Nat) ({ cls := "com/example/meterwise/meterwise/model/WholeNumber", name := "top", desc := "()J" } : Jvm.MethodName)).before a0 Z = true := hw _ (List.mem_of_getElem? (i := 51) rfl)
theorem pd_3 : parseMethodDescriptor "()J" = some ⟨[], some .long⟩ := by decide +kernel
theorem tw_54 {a0 : Array Value} {Z : State} (hw : ∀ d ∈ tables_1, d.before a0 Z = true) : (Jvm.Cond.code ({ cls := "com/example/meterwise/meterwise/model/WholeNumber", name := "top", desc := "()J" } : Jvm.MethodName) prog_137_method_31_code (1 : Nat) (Option.some Jvm.ClassFile.FieldType.long)).before a0 Z = true := hw _ (List.mem_of_getElem? (i := 54) rfl)
theorem tw_2 {a0 : Array Value} {Z : State} (hw : ∀ d ∈ tables_1, d.before a0 Z = true) : (Jvm.Cond.initialized "com/example/meterwise/meterwise/model/WholeNumber").before a0 Z = true := hw _ (List.mem_of_getElem? (i := 2) rfl)
theorem tw_52 {a0 : Array Value} {Z : State} (hw : ∀ d ∈ tables_1, d.before a0 Z = true) : (Jvm.Cond.instanceMethod ({ cls := "com/example/meterwise/meterwise/model/WholeNumber", name := "top", desc := "()J" } : Jvm.MethodName)).before a0 Z = true := hw _ (List.mem_of_getElem? (i := 52) rfl)
theorem tw_53 {a0 : Array Value} {Z : State} (hw : ∀ d ∈ tables_1, d.before a0 Z = true) : (Jvm.Cond.privateMethod ({ cls := "com/example/meterwise/meterwise/model/WholeNumber", name := "top", desc := "()J" } : Jvm.MethodName)).before a0 Z = true := hw _ (List.mem_of_getElem? (i := 53) rfl)
theorem d_prog_137_method_8_4 : decode prog_137_method_8_code 4 = .ok (.ldc2_w 108, 3) := by decide +kernel
theorem d_prog_137_method_8_7 : decode prog_137_method_8_code 7 = .ok (.lcmp, 1) := by decide +kernel
theorem d_prog_137_method_8_8 : decode prog_137_method_8_code 8 = .ok (.ifCond .ne 14, 3) := by decide +kernel
theorem d_prog_137_method_8_22 : decode prog_137_method_8_code 22 = .ok (.iconst 0, 1) := by decide +kernel
theorem d_prog_137_method_8_23 : decode prog_137_method_8_code 23 = .ok (.ireturn, 1) := by decide +kernel
theorem d_prog_137_method_8_11 : decode prog_137_method_8_code 11 = .ok (.aload_n 0, 1) := by decide +kernel
theorem d_prog_137_method_8_12 : decode prog_137_method_8_code 12 = .ok (.invokevirtual 110, 3) := by decide +kernel
theorem tw_55 {a0 : Array Value} {Z : State} (hw : ∀ d ∈ tables_1, d.before a0 Z = true) : (Jvm.Cond.methodLink "com/example/meterwise/meterwise/model/WholeNumber" (110 : Nat) ({ cls := "com/example/meterwise/meterwise/model/WholeNumber", name := "zeroBelowTop", desc := "()Z" } : Jvm.MethodName)).before a0 Z = true := hw _ (List.mem_of_getElem? (i := 55) rfl)
theorem pd_4 : parseMethodDescriptor "()Z" = some ⟨[], some .boolean⟩ := by decide +kernel
theorem tw_58 {a0 : Array Value} {Z : State} (hw : ∀ d ∈ tables_1, d.before a0 Z = true) : (Jvm.Cond.code ({ cls := "com/example/meterwise/meterwise/model/WholeNumber", name := "zeroBelowTop", desc := "()Z" } : Jvm.MethodName) prog_137_method_10_code (2 : Nat) (Option.some Jvm.ClassFile.FieldType.boolean)).before a0 Z = true := hw _ (List.mem_of_getElem? (i := 58) rfl)
theorem tw_56 {a0 : Array Value} {Z : State} (hw : ∀ d ∈ tables_1, d.before a0 Z = true) : (Jvm.Cond.instanceMethod ({ cls := "com/example/meterwise/meterwise/model/WholeNumber", name := "zeroBelowTop", desc := "()Z" } : Jvm.MethodName)).before a0 Z = true := hw _ (List.mem_of_getElem? (i := 56) rfl)
theorem tw_57 {a0 : Array Value} {Z : State} (hw : ∀ d ∈ tables_1, d.before a0 Z = true) : (Jvm.Cond.privateMethod ({ cls := "com/example/meterwise/meterwise/model/WholeNumber", name := "zeroBelowTop", desc := "()Z" } : Jvm.MethodName)).before a0 Z = true := hw _ (List.mem_of_getElem? (i := 57) rfl)
theorem d_prog_137_method_8_15 : decode prog_137_method_8_code 15 = .ok (.ifCond .eq 7, 3) := by decide +kernel
theorem d_prog_137_method_8_18 : decode prog_137_method_8_code 18 = .ok (.iconst 1, 1) := by decide +kernel
theorem d_prog_137_method_8_19 : decode prog_137_method_8_code 19 = .ok (.goto 4, 3) := by decide +kernel
def R11 : Room := { frames := 1, cells := 0, slots := 0, locals := 13 }
def Q11 (Z : State) (o : Addr) (wo : Addr) (ko : ClassId) (x0 : Int64) (h0 : Heap) (v : Option Value) (h : Heap) : Prop := ∃ r : Int32, v = some (.int r) ∧ (((x0 = (-9223372036854775808) ∧ True) ∧ r = 1) ∨ (¬ (x0 = (-9223372036854775808) ∧ True) ∧ r = 0)) ∧ h0 = h
theorem ef11 (o : Addr) (m : MethodId) : entryFrame m #[(.ref o)] 1 = mkF m 0 #[.val (.ref o)] [] := by first | (simp [entryFrame, mkF, argsToLocals, Value.category]; done) | rfl
set_option maxRecDepth 65536 in
set_option maxHeartbeats 40000000 in
theorem rm11 (l : Launch) (Z : State) (a0 : Array Value) (hw : ∀ d ∈ tables_1, d.before a0 Z = true) (ws : List Jvm.Cond) (o : Addr) (wo : Addr) (ko : ClassId) (x0 : Int64) (h0 : Heap) (n0 : Nat) (Z0 : n0 ≤ h0.size) (E_o : Exa Z h0 o "com/example/meterwise/meterwise/model/WholeNumber") (F_o : Fld Z h0 o "com/example/meterwise/meterwise/model/WholeNumber" "words" "[J" (.ref wo)) (V_o : Arv Z h0 wo ko .long (1 : Int32) [(.long x0)] (.long (0 : Int64))) : OMet l Z ws (⟨"com/example/meterwise/meterwise/model/WholeNumber", "overflowed", "()Z"⟩ : MethodName) prog_137_method_8_code 1 (some .boolean) R11 #[(.ref o)] h0 n0 (Q11 Z o wo ko x0 h0) := by
  refine OMet.of (plainFor_of_name pn_0) (ef11 o) Z0 ?_
  intro p e s m below meth c T0 Y0 hnm
  have Y0 : Sd Z "com/example/meterwise/meterwise/model/WholeNumber" prog_137_method_8_code 1 (some .boolean) n0 p l e R11 s m #[(.ref o)] below meth c T0 h0 0 0 := Y0
  refine Gl.aloadN Y0 rfl rfl d_prog_137_method_8_0 rfl ?_
  refine Gl.callP Y0 (tw_51 hw) (tw_52 hw) (tw_53 hw) (tw_1 hw) (tw_2 hw) (tw_54 hw) (by decide) E_o (rm7 l Z a0 hw [] o wo ko x0 h0 n0 Y0.sz E_o F_o V_o) (a := o) (argsL := []) (rest := []) rfl rfl (lenOf pd_3 rfl) rfl (by decide) (Nat.le_of_ble_eq_true rfl) (by decide) (by decide) d_prog_137_method_8_1 rfl (fun v1 T1 h1 Y1 q1 => ?_)
  obtain ⟨rfl, rfl⟩ := q1
  show Gl p e below _ (T1.setTop (mkF m 4 #[.val (.ref o)] [(.long x0)]))
  refine Gl.ldcJ Y1 (tw_36 hw) d_prog_137_method_8_4 rfl ?_
  refine Gl.lcmpne Y1 d_prog_137_method_8_7 rfl d_prog_137_method_8_8 (by decide) rfl rfl (fun c8 => ?_) (fun c8 => ?_)
  · refine Gl.iconst Y1 (v := (0 : Int32)) (by decide) d_prog_137_method_8_22 rfl ?_
    exact Gl.retZ Y1 (by decide) (by decide) (x' := (0 : Int32)) (by decide) d_prog_137_method_8_23 ⟨(0 : Int32), rfl, Or.inr ⟨fun q => c8 q.1, rfl⟩, rfl⟩
  · refine Gl.aloadN Y1 rfl rfl d_prog_137_method_8_11 rfl ?_
    refine Gl.callP Y1 (tw_55 hw) (tw_56 hw) (tw_57 hw) (tw_1 hw) (tw_2 hw) (tw_58 hw) (by decide) E_o (rm10 l Z a0 hw [] o wo ko x0 h0 n0 Y1.sz E_o F_o V_o) (a := o) (argsL := []) (rest := []) rfl rfl (lenOf pd_4 rfl) rfl (by decide) (Nat.le_of_ble_eq_true rfl) (by decide) (by decide) d_prog_137_method_8_12 rfl (fun v12 T12 h12 Y12 q12 => ?_)
    obtain ⟨rfl, rfl⟩ := q12
    show Gl p e below _ (T12.setTop (mkF m 15 #[.val (.ref o)] [(.int (1 : Int32))]))
    refine Gl.ifeq Y12 d_prog_137_method_8_15 (by decide) rfl rfl (fun c15 => ?_) (fun c15 => ?_)
    · exact absurd c15 (by decide)
    refine Gl.iconst Y12 (v := (1 : Int32)) (by decide) d_prog_137_method_8_18 rfl ?_
    refine Gl.goto Y12 d_prog_137_method_8_19 (by decide) rfl ?_
    exact Gl.retZ Y12 (by decide) (by decide) (x' := (1 : Int32)) (by decide) d_prog_137_method_8_23 ⟨(1 : Int32), rfl, Or.inl ⟨⟨c8, trivial⟩, rfl⟩, rfl⟩
theorem d_jdk_29_method_65_0 : decode jdk_29_method_65_code 0 = .ok (.iload_n 0, 1) := by decide +kernel
theorem d_jdk_29_method_65_1 : decode jdk_29_method_65_code 1 = .ok (.iload_n 1, 1) := by decide +kernel
theorem d_jdk_29_method_65_2 : decode jdk_29_method_65_code 2 = .ok (.if_icmp .lt 7, 3) := by decide +kernel
theorem d_jdk_29_method_65_5 : decode jdk_29_method_65_code 5 = .ok (.iload_n 0, 1) := by decide +kernel
theorem d_jdk_29_method_65_6 : decode jdk_29_method_65_code 6 = .ok (.goto 4, 3) := by decide +kernel
theorem d_jdk_29_method_65_10 : decode jdk_29_method_65_code 10 = .ok (.ireturn, 1) := by decide +kernel
def R12 : Room := { frames := 0, cells := 0, slots := 0, locals := 0 }
def Q12 (Z : State) (h0 : Heap) (v : Option Value) (h : Heap) : Prop := v = some (.int (1 : Int32)) ∧ h0 = h
theorem ef12 (m : MethodId) : entryFrame m #[(.int (1 : Int32)), (.int (1 : Int32))] 2 = mkF m 0 #[.val (.int (1 : Int32)), .val (.int (1 : Int32))] [] := by first | (simp [entryFrame, mkF, argsToLocals, Value.category]; done) | rfl
set_option maxRecDepth 65536 in
set_option maxHeartbeats 40000000 in
theorem rm12 (l : Launch) (Z : State) (a0 : Array Value) (hw : ∀ d ∈ tables_1, d.before a0 Z = true) (ws : List Jvm.Cond) (h0 : Heap) (n0 : Nat) (Z0 : n0 ≤ h0.size) : OMet l Z ws (⟨"java/lang/Math", "max", "(II)I"⟩ : MethodName) jdk_29_method_65_code 2 (some .int) R12 #[(.int (1 : Int32)), (.int (1 : Int32))] h0 n0 (Q12 Z h0) := by
  refine OMet.of (Jvm.Free.JP.mathPlain rfl (by decide +kernel)) (ef12) Z0 ?_
  intro p e s m below meth c T0 Y0 hnm
  have Y0 : Sd Z "java/lang/Math" jdk_29_method_65_code 2 (some .int) n0 p l e R12 s m #[(.int (1 : Int32)), (.int (1 : Int32))] below meth c T0 h0 0 0 := Y0
  refine Gl.iloadN Y0 rfl d_jdk_29_method_65_0 rfl ?_
  refine Gl.iloadN Y0 rfl d_jdk_29_method_65_1 rfl ?_
  refine Gl.icmplt Y0 d_jdk_29_method_65_2 (by decide) rfl rfl (fun c2 => ?_) (fun c2 => ?_)
  · exact absurd c2 (by decide)
  refine Gl.iloadN Y0 rfl d_jdk_29_method_65_5 rfl ?_
  refine Gl.goto Y0 d_jdk_29_method_65_6 (by decide) rfl ?_
  exact Gl.retI Y0 (by decide) (by decide)  d_jdk_29_method_65_10 ⟨rfl, rfl⟩
def R13 : Room := { frames := 0, cells := 0, slots := 0, locals := 0 }
def Q13 (Z : State) (o : Addr) (wo : Addr) (ko : ClassId) (h0 : Heap) (v : Option Value) (h : Heap) : Prop := v = some (.long (0 : Int64)) ∧ h0 = h
theorem ef13 (o : Addr) (m : MethodId) : entryFrame m #[(.ref o)] 1 = mkF m 0 #[.val (.ref o)] [] := by first | (simp [entryFrame, mkF, argsToLocals, Value.category]; done) | rfl
set_option maxRecDepth 65536 in
set_option maxHeartbeats 40000000 in
theorem rm13 (l : Launch) (Z : State) (a0 : Array Value) (hw : ∀ d ∈ tables_1, d.before a0 Z = true) (ws : List Jvm.Cond) (o : Addr) (wo : Addr) (ko : ClassId) (h0 : Heap) (n0 : Nat) (Z0 : n0 ≤ h0.size) (E_o : Exa Z h0 o "com/example/meterwise/meterwise/model/WholeNumber") (F_o : Fld Z h0 o "com/example/meterwise/meterwise/model/WholeNumber" "words" "[J" (.ref wo)) (V_o : Arv Z h0 wo ko .long (1 : Int32) [(.long (0 : Int64))] (.long (0 : Int64))) : OMet l Z ws (⟨"com/example/meterwise/meterwise/model/WholeNumber", "top", "()J"⟩ : MethodName) prog_137_method_31_code 1 (some .long) R13 #[(.ref o)] h0 n0 (Q13 Z o wo ko h0) := by
  refine OMet.of (plainFor_of_name pn_0) (ef13 o) Z0 ?_
  intro p e s m below meth c T0 Y0 hnm
  have Y0 : Sd Z "com/example/meterwise/meterwise/model/WholeNumber" prog_137_method_31_code 1 (some .long) n0 p l e R13 s m #[(.ref o)] below meth c T0 h0 0 0 := Y0
  refine Gl.aloadN Y0 rfl rfl d_prog_137_method_31_0 rfl ?_
  refine Gl.getF Y0 (host := "") (Or.inl (tw_14 hw)) Via.refl F_o d_prog_137_method_31_1 rfl (fun T1 Y1 => ?_)
  refine Gl.aloadN Y1 rfl rfl d_prog_137_method_31_4 rfl ?_
  refine Gl.getF Y1 (host := "") (Or.inl (tw_14 hw)) Via.refl F_o d_prog_137_method_31_5 rfl (fun T5 Y5 => ?_)
  refine Gl.arraylength Y5 V_o d_prog_137_method_31_8 rfl ?_
  refine Gl.iconst Y5 (v := (1 : Int32)) (by decide) d_prog_137_method_31_9 rfl ?_
  refine Gl.isub Y5 (r := (0 : Int32)) (by decide) d_prog_137_method_31_10 rfl ?_
  refine Gl.laload Y5 V_o ⟨by decide, by decide⟩ (v := (.long (0 : Int64))) rfl d_prog_137_method_31_11 rfl ?_
  exact Gl.retJ Y5 (by decide) (by decide)  d_prog_137_method_31_12 ⟨rfl, rfl⟩
def R14 : Room := { frames := 1, cells := 0, slots := 0, locals := 12 }
def Q14 (Z : State) (o : Addr) (wo : Addr) (ko : ClassId) (h0 : Heap) (v : Option Value) (h : Heap) : Prop := v = some (.int (0 : Int32)) ∧ h0 = h
theorem ef14 (o : Addr) (m : MethodId) : entryFrame m #[(.ref o)] 1 = mkF m 0 #[.val (.ref o)] [] := by first | (simp [entryFrame, mkF, argsToLocals, Value.category]; done) | rfl
set_option maxRecDepth 65536 in
set_option maxHeartbeats 40000000 in
theorem rm14 (l : Launch) (Z : State) (a0 : Array Value) (hw : ∀ d ∈ tables_1, d.before a0 Z = true) (ws : List Jvm.Cond) (o : Addr) (wo : Addr) (ko : ClassId) (h0 : Heap) (n0 : Nat) (Z0 : n0 ≤ h0.size) (E_o : Exa Z h0 o "com/example/meterwise/meterwise/model/WholeNumber") (F_o : Fld Z h0 o "com/example/meterwise/meterwise/model/WholeNumber" "words" "[J" (.ref wo)) (V_o : Arv Z h0 wo ko .long (1 : Int32) [(.long (0 : Int64))] (.long (0 : Int64))) : OMet l Z ws (⟨"com/example/meterwise/meterwise/model/WholeNumber", "overflowed", "()Z"⟩ : MethodName) prog_137_method_8_code 1 (some .boolean) R14 #[(.ref o)] h0 n0 (Q14 Z o wo ko h0) := by
  refine OMet.of (plainFor_of_name pn_0) (ef14 o) Z0 ?_
  intro p e s m below meth c T0 Y0 hnm
  have Y0 : Sd Z "com/example/meterwise/meterwise/model/WholeNumber" prog_137_method_8_code 1 (some .boolean) n0 p l e R14 s m #[(.ref o)] below meth c T0 h0 0 0 := Y0
  refine Gl.aloadN Y0 rfl rfl d_prog_137_method_8_0 rfl ?_
  refine Gl.callP Y0 (tw_51 hw) (tw_52 hw) (tw_53 hw) (tw_1 hw) (tw_2 hw) (tw_54 hw) (by decide) E_o (rm13 l Z a0 hw [] o wo ko h0 n0 Y0.sz E_o F_o V_o) (a := o) (argsL := []) (rest := []) rfl rfl (lenOf pd_3 rfl) rfl (by decide) (Nat.le_of_ble_eq_true rfl) (by decide) (by decide) d_prog_137_method_8_1 rfl (fun v1 T1 h1 Y1 q1 => ?_)
  obtain ⟨rfl, rfl⟩ := q1
  show Gl p e below _ (T1.setTop (mkF m 4 #[.val (.ref o)] [(.long (0 : Int64))]))
  refine Gl.ldcJ Y1 (tw_36 hw) d_prog_137_method_8_4 rfl ?_
  refine Gl.lcmpne Y1 d_prog_137_method_8_7 rfl d_prog_137_method_8_8 (by decide) rfl rfl (fun c8 => ?_) (fun c8 => ?_)
  rotate_left
  · exact absurd c8 (by decide)
  refine Gl.iconst Y1 (v := (0 : Int32)) (by decide) d_prog_137_method_8_22 rfl ?_
  exact Gl.retZ Y1 (by decide) (by decide) (x' := (0 : Int32)) (by decide) d_prog_137_method_8_23 ⟨rfl, rfl⟩
theorem d_prog_137_method_14_0 : decode prog_137_method_14_code 0 = .ok (.aload_n 0, 1) := by decide +kernel
theorem d_prog_137_method_14_1 : decode prog_137_method_14_code 1 = .ok (.invokevirtual 70, 3) := by decide +kernel
theorem tw_46 {a0 : Array Value} {Z : State} (hw : ∀ d ∈ tables_1, d.before a0 Z = true) : (Jvm.Cond.methodLink "com/example/meterwise/meterwise/model/WholeNumber" (70 : Nat) ({ cls := "com/example/meterwise/meterwise/model/WholeNumber", name := "overflowed", desc := "()Z" } : Jvm.MethodName)).before a0 Z = true := hw _ (List.mem_of_getElem? (i := 46) rfl)
theorem tw_50 {a0 : Array Value} {Z : State} (hw : ∀ d ∈ tables_1, d.before a0 Z = true) : (Jvm.Cond.code ({ cls := "com/example/meterwise/meterwise/model/WholeNumber", name := "overflowed", desc := "()Z" } : Jvm.MethodName) prog_137_method_8_code (1 : Nat) (Option.some Jvm.ClassFile.FieldType.boolean)).before a0 Z = true := hw _ (List.mem_of_getElem? (i := 50) rfl)
theorem tw_47 {a0 : Array Value} {Z : State} (hw : ∀ d ∈ tables_1, d.before a0 Z = true) : (Jvm.Cond.declares ({ cls := "com/example/meterwise/meterwise/model/WholeNumber", name := "overflowed", desc := "()Z" } : Jvm.MethodName)).before a0 Z = true := hw _ (List.mem_of_getElem? (i := 47) rfl)
theorem tw_49 {a0 : Array Value} {Z : State} (hw : ∀ d ∈ tables_1, d.before a0 Z = true) : (Jvm.Cond.selects "com/example/meterwise/meterwise/model/WholeNumber" ({ cls := "com/example/meterwise/meterwise/model/WholeNumber", name := "overflowed", desc := "()Z" } : Jvm.MethodName) ({ cls := "com/example/meterwise/meterwise/model/WholeNumber", name := "overflowed", desc := "()Z" } : Jvm.MethodName)).before a0 Z = true := hw _ (List.mem_of_getElem? (i := 49) rfl)
theorem tw_48 {a0 : Array Value} {Z : State} (hw : ∀ d ∈ tables_1, d.before a0 Z = true) : (Jvm.Cond.instanceMethod ({ cls := "com/example/meterwise/meterwise/model/WholeNumber", name := "overflowed", desc := "()Z" } : Jvm.MethodName)).before a0 Z = true := hw _ (List.mem_of_getElem? (i := 48) rfl)
theorem d_prog_137_method_14_4 : decode prog_137_method_14_code 4 = .ok (.ifCond .ne 10, 3) := by decide +kernel
theorem d_prog_137_method_14_14 : decode prog_137_method_14_code 14 = .ok (.aload_n 0, 1) := by decide +kernel
theorem d_prog_137_method_14_15 : decode prog_137_method_14_code 15 = .ok (.invokevirtual 74, 3) := by decide +kernel
theorem tw_59 {a0 : Array Value} {Z : State} (hw : ∀ d ∈ tables_1, d.before a0 Z = true) : (Jvm.Cond.methodLink "com/example/meterwise/meterwise/model/WholeNumber" (74 : Nat) ({ cls := "com/example/meterwise/meterwise/model/WholeNumber", name := "overflow", desc := "()Lcom/example/meterwise/meterwise/model/WholeNumber;" } : Jvm.MethodName)).before a0 Z = true := hw _ (List.mem_of_getElem? (i := 59) rfl)
theorem pd_5 : parseMethodDescriptor "()Lcom/example/meterwise/meterwise/model/WholeNumber;" = some ⟨[], some (.object "com/example/meterwise/meterwise/model/WholeNumber")⟩ := by decide +kernel
theorem tw_32 {a0 : Array Value} {Z : State} (hw : ∀ d ∈ tables_1, d.before a0 Z = true) : (Jvm.Cond.code ({ cls := "com/example/meterwise/meterwise/model/WholeNumber", name := "overflow", desc := "()Lcom/example/meterwise/meterwise/model/WholeNumber;" } : Jvm.MethodName) prog_137_method_7_code (1 : Nat) (Option.some (Jvm.ClassFile.FieldType.object "com/example/meterwise/meterwise/model/WholeNumber"))).before a0 Z = true := hw _ (List.mem_of_getElem? (i := 32) rfl)
theorem tw_29 {a0 : Array Value} {Z : State} (hw : ∀ d ∈ tables_1, d.before a0 Z = true) : (Jvm.Cond.declares ({ cls := "com/example/meterwise/meterwise/model/WholeNumber", name := "overflow", desc := "()Lcom/example/meterwise/meterwise/model/WholeNumber;" } : Jvm.MethodName)).before a0 Z = true := hw _ (List.mem_of_getElem? (i := 29) rfl)
theorem tw_31 {a0 : Array Value} {Z : State} (hw : ∀ d ∈ tables_1, d.before a0 Z = true) : (Jvm.Cond.selects "com/example/meterwise/meterwise/model/WholeNumber" ({ cls := "com/example/meterwise/meterwise/model/WholeNumber", name := "overflow", desc := "()Lcom/example/meterwise/meterwise/model/WholeNumber;" } : Jvm.MethodName) ({ cls := "com/example/meterwise/meterwise/model/WholeNumber", name := "overflow", desc := "()Lcom/example/meterwise/meterwise/model/WholeNumber;" } : Jvm.MethodName)).before a0 Z = true := hw _ (List.mem_of_getElem? (i := 31) rfl)
theorem tw_30 {a0 : Array Value} {Z : State} (hw : ∀ d ∈ tables_1, d.before a0 Z = true) : (Jvm.Cond.instanceMethod ({ cls := "com/example/meterwise/meterwise/model/WholeNumber", name := "overflow", desc := "()Lcom/example/meterwise/meterwise/model/WholeNumber;" } : Jvm.MethodName)).before a0 Z = true := hw _ (List.mem_of_getElem? (i := 30) rfl)
theorem d_prog_137_method_14_18 : decode prog_137_method_14_code 18 = .ok (.areturn, 1) := by decide +kernel
theorem d_prog_137_method_14_7 : decode prog_137_method_14_code 7 = .ok (.aload_n 1, 1) := by decide +kernel
theorem d_prog_137_method_14_8 : decode prog_137_method_14_code 8 = .ok (.invokevirtual 70, 3) := by decide +kernel
theorem d_prog_137_method_14_11 : decode prog_137_method_14_code 11 = .ok (.ifCond .eq 8, 3) := by decide +kernel
theorem d_prog_137_method_14_19 : decode prog_137_method_14_code 19 = .ok (.aload_n 1, 1) := by decide +kernel
theorem d_prog_137_method_14_20 : decode prog_137_method_14_code 20 = .ok (.getfield 26, 3) := by decide +kernel
theorem d_prog_137_method_14_23 : decode prog_137_method_14_code 23 = .ok (.astore_n 3, 1) := by decide +kernel
theorem d_prog_137_method_14_24 : decode prog_137_method_14_code 24 = .ok (.aload_n 0, 1) := by decide +kernel
theorem d_prog_137_method_14_25 : decode prog_137_method_14_code 25 = .ok (.getfield 26, 3) := by decide +kernel
theorem d_prog_137_method_14_28 : decode prog_137_method_14_code 28 = .ok (.arraylength, 1) := by decide +kernel
theorem d_prog_137_method_14_29 : decode prog_137_method_14_code 29 = .ok (.aload_n 3, 1) := by decide +kernel
theorem d_prog_137_method_14_30 : decode prog_137_method_14_code 30 = .ok (.arraylength, 1) := by decide +kernel
theorem d_prog_137_method_14_31 : decode prog_137_method_14_code 31 = .ok (.invokestatic 36, 3) := by decide +kernel
theorem tw_71 {a0 : Array Value} {Z : State} (hw : ∀ d ∈ tables_1, d.before a0 Z = true) : (Jvm.Cond.methodLink "com/example/meterwise/meterwise/model/WholeNumber" (36 : Nat) ({ cls := "java/lang/Math", name := "max", desc := "(II)I" } : Jvm.MethodName)).before a0 Z = true := hw _ (List.mem_of_getElem? (i := 71) rfl)
theorem pd_6 : parseMethodDescriptor "(II)I" = some ⟨[.int, .int], some .int⟩ := by decide +kernel
theorem tw_74 {a0 : Array Value} {Z : State} (hw : ∀ d ∈ tables_1, d.before a0 Z = true) : (Jvm.Cond.code ({ cls := "java/lang/Math", name := "max", desc := "(II)I" } : Jvm.MethodName) jdk_29_method_65_code (2 : Nat) (Option.some Jvm.ClassFile.FieldType.int)).before a0 Z = true := hw _ (List.mem_of_getElem? (i := 74) rfl)
theorem tw_73 {a0 : Array Value} {Z : State} (hw : ∀ d ∈ tables_1, d.before a0 Z = true) : (Jvm.Cond.initialized "java/lang/Math").before a0 Z = true := hw _ (List.mem_of_getElem? (i := 73) rfl)
theorem tw_72 {a0 : Array Value} {Z : State} (hw : ∀ d ∈ tables_1, d.before a0 Z = true) : (Jvm.Cond.static ({ cls := "java/lang/Math", name := "max", desc := "(II)I" } : Jvm.MethodName)).before a0 Z = true := hw _ (List.mem_of_getElem? (i := 72) rfl)
theorem d_prog_137_method_14_34 : decode prog_137_method_14_code 34 = .ok (.istore 4, 2) := by decide +kernel
theorem d_prog_137_method_14_36 : decode prog_137_method_14_code 36 = .ok (.aload_n 0, 1) := by decide +kernel
theorem d_prog_137_method_14_37 : decode prog_137_method_14_code 37 = .ok (.invokevirtual 78, 3) := by decide +kernel
theorem d_prog_137_method_14_40 : decode prog_137_method_14_code 40 = .ok (.bipush 63, 2) := by decide +kernel
theorem d_prog_137_method_14_42 : decode prog_137_method_14_code 42 = .ok (.lshr, 1) := by decide +kernel
theorem d_prog_137_method_14_43 : decode prog_137_method_14_code 43 = .ok (.lstore 5, 2) := by decide +kernel
theorem d_prog_137_method_14_45 : decode prog_137_method_14_code 45 = .ok (.aload_n 3, 1) := by decide +kernel
theorem d_prog_137_method_14_46 : decode prog_137_method_14_code 46 = .ok (.aload_n 3, 1) := by decide +kernel
theorem d_prog_137_method_14_47 : decode prog_137_method_14_code 47 = .ok (.arraylength, 1) := by decide +kernel
theorem d_prog_137_method_14_48 : decode prog_137_method_14_code 48 = .ok (.iconst 1, 1) := by decide +kernel
theorem d_prog_137_method_14_49 : decode prog_137_method_14_code 49 = .ok (.isub, 1) := by decide +kernel
theorem d_prog_137_method_14_50 : decode prog_137_method_14_code 50 = .ok (.laload, 1) := by decide +kernel
theorem d_prog_137_method_14_51 : decode prog_137_method_14_code 51 = .ok (.bipush 63, 2) := by decide +kernel
theorem d_prog_137_method_14_53 : decode prog_137_method_14_code 53 = .ok (.lshr, 1) := by decide +kernel
theorem d_prog_137_method_14_54 : decode prog_137_method_14_code 54 = .ok (.lstore 7, 2) := by decide +kernel
theorem d_prog_137_method_14_56 : decode prog_137_method_14_code 56 = .ok (.iload_n 2, 1) := by decide +kernel
theorem d_prog_137_method_14_57 : decode prog_137_method_14_code 57 = .ok (.ifCond .eq 9, 3) := by decide +kernel
theorem d_prog_137_method_14_66 : decode prog_137_method_14_code 66 = .ok (.lconst 0, 1) := by decide +kernel
theorem d_prog_137_method_14_67 : decode prog_137_method_14_code 67 = .ok (.lstore 9, 2) := by decide +kernel
theorem d_prog_137_method_14_69 : decode prog_137_method_14_code 69 = .ok (.iload_n 2, 1) := by decide +kernel
theorem d_prog_137_method_14_70 : decode prog_137_method_14_code 70 = .ok (.ifCond .eq 7, 3) := by decide +kernel
theorem d_prog_137_method_14_77 : decode prog_137_method_14_code 77 = .ok (.lconst 0, 1) := by decide +kernel
theorem d_prog_137_method_14_78 : decode prog_137_method_14_code 78 = .ok (.lstore 11, 2) := by decide +kernel
theorem d_prog_137_method_14_80 : decode prog_137_method_14_code 80 = .ok (.lconst 0, 1) := by decide +kernel
theorem d_prog_137_method_14_81 : decode prog_137_method_14_code 81 = .ok (.lstore 13, 2) := by decide +kernel
theorem d_prog_137_method_14_83 : decode prog_137_method_14_code 83 = .ok (.lconst 0, 1) := by decide +kernel
theorem d_prog_137_method_14_84 : decode prog_137_method_14_code 84 = .ok (.lstore 15, 2) := by decide +kernel
theorem d_prog_137_method_14_86 : decode prog_137_method_14_code 86 = .ok (.lconst 0, 1) := by decide +kernel
theorem d_prog_137_method_14_87 : decode prog_137_method_14_code 87 = .ok (.lstore 17, 2) := by decide +kernel
theorem d_prog_137_method_14_89 : decode prog_137_method_14_code 89 = .ok (.iconst 1, 1) := by decide +kernel
theorem d_prog_137_method_14_90 : decode prog_137_method_14_code 90 = .ok (.istore 19, 2) := by decide +kernel
theorem d_prog_137_method_14_92 : decode prog_137_method_14_code 92 = .ok (.iconst 0, 1) := by decide +kernel
theorem d_prog_137_method_14_93 : decode prog_137_method_14_code 93 = .ok (.istore 20, 2) := by decide +kernel
theorem d_prog_137_method_14_95 : decode prog_137_method_14_code 95 = .ok (.iload 20, 2) := by decide +kernel
theorem d_prog_137_method_14_97 : decode prog_137_method_14_code 97 = .ok (.iload 4, 2) := by decide +kernel
theorem d_prog_137_method_14_99 : decode prog_137_method_14_code 99 = .ok (.if_icmp .ge 132, 3) := by decide +kernel
theorem d_prog_137_method_14_102 : decode prog_137_method_14_code 102 = .ok (.iload 20, 2) := by decide +kernel
theorem d_prog_137_method_14_104 : decode prog_137_method_14_code 104 = .ok (.aload_n 0, 1) := by decide +kernel
theorem d_prog_137_method_14_105 : decode prog_137_method_14_code 105 = .ok (.getfield 26, 3) := by decide +kernel
theorem d_prog_137_method_14_108 : decode prog_137_method_14_code 108 = .ok (.arraylength, 1) := by decide +kernel
theorem d_prog_137_method_14_109 : decode prog_137_method_14_code 109 = .ok (.if_icmp .ge 13, 3) := by decide +kernel
theorem d_prog_137_method_14_112 : decode prog_137_method_14_code 112 = .ok (.aload_n 0, 1) := by decide +kernel
theorem d_prog_137_method_14_113 : decode prog_137_method_14_code 113 = .ok (.getfield 26, 3) := by decide +kernel
theorem d_prog_137_method_14_116 : decode prog_137_method_14_code 116 = .ok (.iload 20, 2) := by decide +kernel
theorem d_prog_137_method_14_118 : decode prog_137_method_14_code 118 = .ok (.laload, 1) := by decide +kernel
theorem d_prog_137_method_14_119 : decode prog_137_method_14_code 119 = .ok (.goto 5, 3) := by decide +kernel
theorem d_prog_137_method_14_124 : decode prog_137_method_14_code 124 = .ok (.lstore 13, 2) := by decide +kernel
theorem d_prog_137_method_14_126 : decode prog_137_method_14_code 126 = .ok (.iload 20, 2) := by decide +kernel
theorem d_prog_137_method_14_128 : decode prog_137_method_14_code 128 = .ok (.aload_n 3, 1) := by decide +kernel
theorem d_prog_137_method_14_129 : decode prog_137_method_14_code 129 = .ok (.arraylength, 1) := by decide +kernel
theorem d_prog_137_method_14_130 : decode prog_137_method_14_code 130 = .ok (.if_icmp .ge 10, 3) := by decide +kernel
theorem d_prog_137_method_14_133 : decode prog_137_method_14_code 133 = .ok (.aload_n 3, 1) := by decide +kernel
theorem d_prog_137_method_14_134 : decode prog_137_method_14_code 134 = .ok (.iload 20, 2) := by decide +kernel
theorem d_prog_137_method_14_136 : decode prog_137_method_14_code 136 = .ok (.laload, 1) := by decide +kernel
theorem d_prog_137_method_14_137 : decode prog_137_method_14_code 137 = .ok (.goto 5, 3) := by decide +kernel
theorem d_prog_137_method_14_142 : decode prog_137_method_14_code 142 = .ok (.lload 9, 2) := by decide +kernel
theorem d_prog_137_method_14_144 : decode prog_137_method_14_code 144 = .ok (.lxor, 1) := by decide +kernel
theorem d_prog_137_method_14_145 : decode prog_137_method_14_code 145 = .ok (.lstore 15, 2) := by decide +kernel
theorem d_prog_137_method_14_147 : decode prog_137_method_14_code 147 = .ok (.lload 13, 2) := by decide +kernel
theorem d_prog_137_method_14_149 : decode prog_137_method_14_code 149 = .ok (.lload 15, 2) := by decide +kernel
theorem d_prog_137_method_14_151 : decode prog_137_method_14_code 151 = .ok (.ladd, 1) := by decide +kernel
theorem d_prog_137_method_14_152 : decode prog_137_method_14_code 152 = .ok (.lload 11, 2) := by decide +kernel
theorem d_prog_137_method_14_154 : decode prog_137_method_14_code 154 = .ok (.ladd, 1) := by decide +kernel
theorem d_prog_137_method_14_155 : decode prog_137_method_14_code 155 = .ok (.lstore 17, 2) := by decide +kernel
theorem d_prog_137_method_14_157 : decode prog_137_method_14_code 157 = .ok (.lload 13, 2) := by decide +kernel
theorem d_prog_137_method_14_159 : decode prog_137_method_14_code 159 = .ok (.lload 15, 2) := by decide +kernel
theorem d_prog_137_method_14_161 : decode prog_137_method_14_code 161 = .ok (.land, 1) := by decide +kernel
theorem d_prog_137_method_14_162 : decode prog_137_method_14_code 162 = .ok (.lload 13, 2) := by decide +kernel
theorem d_prog_137_method_14_164 : decode prog_137_method_14_code 164 = .ok (.lload 15, 2) := by decide +kernel
theorem d_prog_137_method_14_166 : decode prog_137_method_14_code 166 = .ok (.lor, 1) := by decide +kernel
theorem d_prog_137_method_14_167 : decode prog_137_method_14_code 167 = .ok (.lload 17, 2) := by decide +kernel
theorem d_prog_137_method_14_169 : decode prog_137_method_14_code 169 = .ok (.ldc2_w 128, 3) := by decide +kernel
theorem tw_65 {a0 : Array Value} {Z : State} (hw : ∀ d ∈ tables_1, d.before a0 Z = true) : (Jvm.Cond.constantLong "com/example/meterwise/meterwise/model/WholeNumber" (128 : Nat) (-1 : Int64)).before a0 Z = true := hw _ (List.mem_of_getElem? (i := 65) rfl)
theorem d_prog_137_method_14_172 : decode prog_137_method_14_code 172 = .ok (.lxor, 1) := by decide +kernel
theorem d_prog_137_method_14_173 : decode prog_137_method_14_code 173 = .ok (.land, 1) := by decide +kernel
theorem d_prog_137_method_14_174 : decode prog_137_method_14_code 174 = .ok (.lor, 1) := by decide +kernel
theorem d_prog_137_method_14_175 : decode prog_137_method_14_code 175 = .ok (.bipush 63, 2) := by decide +kernel
theorem d_prog_137_method_14_177 : decode prog_137_method_14_code 177 = .ok (.lushr, 1) := by decide +kernel
theorem d_prog_137_method_14_178 : decode prog_137_method_14_code 178 = .ok (.lstore 11, 2) := by decide +kernel
theorem d_prog_137_method_14_180 : decode prog_137_method_14_code 180 = .ok (.iload 20, 2) := by decide +kernel
theorem d_prog_137_method_14_182 : decode prog_137_method_14_code 182 = .ok (.aload_n 0, 1) := by decide +kernel
theorem d_prog_137_method_14_183 : decode prog_137_method_14_code 183 = .ok (.getfield 26, 3) := by decide +kernel
theorem d_prog_137_method_14_186 : decode prog_137_method_14_code 186 = .ok (.arraylength, 1) := by decide +kernel
theorem d_prog_137_method_14_187 : decode prog_137_method_14_code 187 = .ok (.if_icmp .ge 15, 3) := by decide +kernel
theorem d_prog_137_method_14_190 : decode prog_137_method_14_code 190 = .ok (.aload_n 0, 1) := by decide +kernel
theorem d_prog_137_method_14_191 : decode prog_137_method_14_code 191 = .ok (.getfield 26, 3) := by decide +kernel
theorem d_prog_137_method_14_194 : decode prog_137_method_14_code 194 = .ok (.iload 20, 2) := by decide +kernel
theorem d_prog_137_method_14_196 : decode prog_137_method_14_code 196 = .ok (.lload 17, 2) := by decide +kernel
theorem d_prog_137_method_14_198 : decode prog_137_method_14_code 198 = .ok (.lastore, 1) := by decide +kernel
theorem d_prog_137_method_14_199 : decode prog_137_method_14_code 199 = .ok (.goto 26, 3) := by decide +kernel
theorem d_prog_137_method_14_225 : decode prog_137_method_14_code 225 = .ok (.iinc 20 1, 3) := by decide +kernel
theorem d_prog_137_method_14_228 : decode prog_137_method_14_code 228 = .ok (.goto (-133), 3) := by decide +kernel
theorem d_prog_137_method_14_231 : decode prog_137_method_14_code 231 = .ok (.iload 19, 2) := by decide +kernel
theorem d_prog_137_method_14_233 : decode prog_137_method_14_code 233 = .ok (.ifCond .eq 23, 3) := by decide +kernel
theorem d_prog_137_method_14_236 : decode prog_137_method_14_code 236 = .ok (.lload 13, 2) := by decide +kernel
theorem d_prog_137_method_14_238 : decode prog_137_method_14_code 238 = .ok (.lload 17, 2) := by decide +kernel
theorem d_prog_137_method_14_240 : decode prog_137_method_14_code 240 = .ok (.lxor, 1) := by decide +kernel
theorem d_prog_137_method_14_241 : decode prog_137_method_14_code 241 = .ok (.lload 15, 2) := by decide +kernel
theorem d_prog_137_method_14_243 : decode prog_137_method_14_code 243 = .ok (.lload 17, 2) := by decide +kernel
theorem d_prog_137_method_14_245 : decode prog_137_method_14_code 245 = .ok (.lxor, 1) := by decide +kernel
theorem d_prog_137_method_14_246 : decode prog_137_method_14_code 246 = .ok (.land, 1) := by decide +kernel
theorem d_prog_137_method_14_247 : decode prog_137_method_14_code 247 = .ok (.lconst 0, 1) := by decide +kernel
theorem d_prog_137_method_14_248 : decode prog_137_method_14_code 248 = .ok (.lcmp, 1) := by decide +kernel
theorem d_prog_137_method_14_249 : decode prog_137_method_14_code 249 = .ok (.ifCond .lt 7, 3) := by decide +kernel
theorem d_prog_137_method_14_256 : decode prog_137_method_14_code 256 = .ok (.aload_n 0, 1) := by decide +kernel
theorem d_prog_137_method_14_257 : decode prog_137_method_14_code 257 = .ok (.invokevirtual 74, 3) := by decide +kernel
theorem d_prog_137_method_14_260 : decode prog_137_method_14_code 260 = .ok (.areturn, 1) := by decide +kernel
theorem d_prog_137_method_14_252 : decode prog_137_method_14_code 252 = .ok (.aload_n 0, 1) := by decide +kernel
theorem d_prog_137_method_14_253 : decode prog_137_method_14_code 253 = .ok (.goto 7, 3) := by decide +kernel
def R15 : Room := { frames := 2, cells := 0, slots := 0, locals := 28 }
def Q15 (Z : State) (o : Addr) (wo : Addr) (ko : ClassId) (x0 : Int64) (u : Addr) (wu : Addr) (ku : ClassId) (y0 : Int64) (h0 : Heap) (v : Option Value) (h : Heap) : Prop := ∃ e0 : Int64, v = some (.ref o) ∧ Keep h0 h [wo] ∧ Arv Z h wo ko .long (1 : Int32) [(.long e0)] (.long (0 : Int64))
theorem ef15 (o : Addr) (u : Addr) (m : MethodId) : entryFrame m #[(.ref o), (.ref u), (.int (0 : Int32))] 21 = mkF m 0 #[.val (.ref o), .val (.ref u), .val (.int (0 : Int32)), .unset, .unset, .unset, .unset, .unset, .unset, .unset, .unset, .unset, .unset, .unset, .unset, .unset, .unset, .unset, .unset, .unset, .unset] [] := by first | (simp [entryFrame, mkF, argsToLocals, Value.category]; done) | rfl
set_option maxRecDepth 65536 in
set_option maxHeartbeats 40000000 in
theorem rm15 (l : Launch) (Z : State) (a0 : Array Value) (hw : ∀ d ∈ tables_1, d.before a0 Z = true) (ws : List Jvm.Cond) (o : Addr) (wo : Addr) (ko : ClassId) (x0 : Int64) (u : Addr) (wu : Addr) (ku : ClassId) (y0 : Int64) (h0 : Heap) (n0 : Nat) (Z0 : n0 ≤ h0.size) (E_o : Exa Z h0 o "com/example/meterwise/meterwise/model/WholeNumber") (F_o : Fld Z h0 o "com/example/meterwise/meterwise/model/WholeNumber" "words" "[J" (.ref wo)) (V_o : Arv Z h0 wo ko .long (1 : Int32) [(.long x0)] (.long (0 : Int64))) (g_o : n0 ≤ wo) (nn_o : o ≠ wo) (E_u : Exa Z h0 u "com/example/meterwise/meterwise/model/WholeNumber") (F_u : Fld Z h0 u "com/example/meterwise/meterwise/model/WholeNumber" "words" "[J" (.ref wu)) (V_u : Arv Z h0 wu ku .long (1 : Int32) [(.long y0)] (.long (0 : Int64))) (nw : wo ≠ wu) (np : u ≠ wo) : OMet l Z ws (⟨"com/example/meterwise/meterwise/model/WholeNumber", "add", "(Lcom/example/meterwise/meterwise/model/WholeNumber;Z)Lcom/example/meterwise/meterwise/model/WholeNumber;"⟩ : MethodName) prog_137_method_14_code 21 (some (.object "com/example/meterwise/meterwise/model/WholeNumber")) R15 #[(.ref o), (.ref u), (.int (0 : Int32))] h0 n0 (Q15 Z o wo ko x0 u wu ku y0 h0) := by
  refine OMet.of (plainFor_of_name pn_0) (ef15 o u) Z0 ?_
  intro p e s m below meth c T0 Y0 hnm
  have Y0 : Sd Z "com/example/meterwise/meterwise/model/WholeNumber" prog_137_method_14_code 21 (some (.object "com/example/meterwise/meterwise/model/WholeNumber")) n0 p l e R15 s m #[(.ref o), (.ref u), (.int (0 : Int32))] below meth c T0 h0 0 0 := Y0
  refine Gl.aloadN Y0 rfl rfl d_prog_137_method_14_0 rfl ?_
  refine Gl.callV Y0 (tw_46 hw) (tw_47 hw) (tw_49 hw) (tw_49 hw) (tw_48 hw) (tw_2 hw) (tw_50 hw) (by decide) E_o (rm11 l Z a0 hw [] o wo ko x0 h0 n0 Y0.sz E_o F_o V_o) (a := o) (argsL := []) (rest := []) rfl rfl (lenOf pd_4 rfl) rfl (by decide) (Nat.le_of_ble_eq_true rfl) (by decide) (by decide) d_prog_137_method_14_1 rfl (fun v1 T1 h1 Y1 q1 => ?_)
  obtain ⟨r1, rfl, p1, rfl⟩ := q1
  have br1 : r1 = 0 ∨ r1 = 1 := by rcases p1 with q | q; exact Or.inr q.2; exact Or.inl q.2
  show Gl p e below _ (T1.setTop (mkF m 4 #[.val (.ref o), .val (.ref u), .val (.int (0 : Int32)), .unset, .unset, .unset, .unset, .unset, .unset, .unset, .unset, .unset, .unset, .unset, .unset, .unset, .unset, .unset, .unset, .unset, .unset] [(.int r1)]))
  refine Gl.ifne Y1 d_prog_137_method_14_4 (by decide) rfl rfl (fun c4 => ?_) (fun c4 => ?_)
  · refine Gl.aloadN Y1 rfl rfl d_prog_137_method_14_14 rfl ?_
    refine Gl.callV Y1 (tw_59 hw) (tw_29 hw) (tw_31 hw) (tw_31 hw) (tw_30 hw) (tw_2 hw) (tw_32 hw) (by decide) E_o (rm8 l Z a0 hw [] o wo ko x0 h0 n0 Y1.sz E_o F_o V_o g_o nn_o) (a := o) (argsL := []) (rest := []) rfl rfl (lenOf pd_5 rfl) rfl (by decide) (Nat.le_of_ble_eq_true rfl) (by decide) (by decide) d_prog_137_method_14_15 rfl (fun v15 T15 h15 Y15 q15 => ?_)
    obtain ⟨rfl, K15, f15_0⟩ := q15
    have KK15 : Keep h0 h15 [wo] := (Keep.refl h0 [wo]).trans K15 (allS (Or.inl (List.mem_of_getElem? (i := 0) rfl)) all0)
    show Gl p e below _ (T15.setTop (mkF m 18 #[.val (.ref o), .val (.ref u), .val (.int (0 : Int32)), .unset, .unset, .unset, .unset, .unset, .unset, .unset, .unset, .unset, .unset, .unset, .unset, .unset, .unset, .unset, .unset, .unset, .unset] [(.ref o)]))
    exact Gl.retA Y15 (by decide) (by decide) rfl rfl d_prog_137_method_14_18 ⟨(-9223372036854775808 : Int64), rfl, KK15, f15_0⟩
  · refine Gl.aloadN Y1 rfl rfl d_prog_137_method_14_7 rfl ?_
    refine Gl.callV Y1 (tw_46 hw) (tw_47 hw) (tw_49 hw) (tw_49 hw) (tw_48 hw) (tw_2 hw) (tw_50 hw) (by decide) E_u (rm11 l Z a0 hw [] u wu ku y0 h0 n0 Y1.sz E_u F_u V_u) (a := u) (argsL := []) (rest := []) rfl rfl (lenOf pd_4 rfl) rfl (by decide) (Nat.le_of_ble_eq_true rfl) (by decide) (by decide) d_prog_137_method_14_8 rfl (fun v8 T8 h8 Y8 q8 => ?_)
    obtain ⟨r8, rfl, p8, rfl⟩ := q8
    have br8 : r8 = 0 ∨ r8 = 1 := by rcases p8 with q | q; exact Or.inr q.2; exact Or.inl q.2
    show Gl p e below _ (T8.setTop (mkF m 11 #[.val (.ref o), .val (.ref u), .val (.int (0 : Int32)), .unset, .unset, .unset, .unset, .unset, .unset, .unset, .unset, .unset, .unset, .unset, .unset, .unset, .unset, .unset, .unset, .unset, .unset] [(.int r8)]))
    refine Gl.ifeq Y8 d_prog_137_method_14_11 (by decide) rfl rfl (fun c11 => ?_) (fun c11 => ?_)
    · refine Gl.aloadN Y8 rfl rfl d_prog_137_method_14_19 rfl ?_
      refine Gl.getF Y8 (host := "") (Or.inl (tw_14 hw)) Via.refl F_u d_prog_137_method_14_20 rfl (fun T20 Y20 => ?_)
      refine Gl.astoreN Y20 rfl (L' := #[.val (.ref o), .val (.ref u), .val (.int (0 : Int32)), .val (.ref wu), .unset, .unset, .unset, .unset, .unset, .unset, .unset, .unset, .unset, .unset, .unset, .unset, .unset, .unset, .unset, .unset, .unset]) rfl d_prog_137_method_14_23 rfl ?_
      refine Gl.aloadN Y20 rfl rfl d_prog_137_method_14_24 rfl ?_
      refine Gl.getF Y20 (host := "") (Or.inl (tw_14 hw)) Via.refl F_o d_prog_137_method_14_25 rfl (fun T25 Y25 => ?_)
      refine Gl.arraylength Y25 V_o d_prog_137_method_14_28 rfl ?_
      refine Gl.aloadN Y25 rfl rfl d_prog_137_method_14_29 rfl ?_
      refine Gl.arraylength Y25 V_u d_prog_137_method_14_30 rfl ?_
      refine Gl.callS Y25 (tw_71 hw) (tw_72 hw) (tw_73 hw) (tw_74 hw) (by decide) (rm12 l Z a0 hw [] h0 n0 Y25.sz) (argsL := [(.int (1 : Int32)), (.int (1 : Int32))]) (rest := []) rfl rfl (lenOf pd_6 rfl) rfl (by decide) (Nat.le_of_ble_eq_true rfl) (by decide) (by decide) d_prog_137_method_14_31 rfl (fun v31 T31 h31 Y31 q31 => ?_)
      obtain ⟨rfl, rfl⟩ := q31
      show Gl p e below _ (T31.setTop (mkF m 34 #[.val (.ref o), .val (.ref u), .val (.int (0 : Int32)), .val (.ref wu), .unset, .unset, .unset, .unset, .unset, .unset, .unset, .unset, .unset, .unset, .unset, .unset, .unset, .unset, .unset, .unset, .unset] [(.int (1 : Int32))]))
      refine Gl.istore Y31 (L' := #[.val (.ref o), .val (.ref u), .val (.int (0 : Int32)), .val (.ref wu), .val (.int (1 : Int32)), .unset, .unset, .unset, .unset, .unset, .unset, .unset, .unset, .unset, .unset, .unset, .unset, .unset, .unset, .unset, .unset]) rfl d_prog_137_method_14_34 rfl ?_
      refine Gl.aloadN Y31 rfl rfl d_prog_137_method_14_36 rfl ?_
      refine Gl.callP Y31 (tw_51 hw) (tw_52 hw) (tw_53 hw) (tw_1 hw) (tw_2 hw) (tw_54 hw) (by decide) E_o (rm7 l Z a0 hw [] o wo ko x0 h0 n0 Y31.sz E_o F_o V_o) (a := o) (argsL := []) (rest := []) rfl rfl (lenOf pd_3 rfl) rfl (by decide) (Nat.le_of_ble_eq_true rfl) (by decide) (by decide) d_prog_137_method_14_37 rfl (fun v37 T37 h37 Y37 q37 => ?_)
      obtain ⟨rfl, rfl⟩ := q37
      show Gl p e below _ (T37.setTop (mkF m 40 #[.val (.ref o), .val (.ref u), .val (.int (0 : Int32)), .val (.ref wu), .val (.int (1 : Int32)), .unset, .unset, .unset, .unset, .unset, .unset, .unset, .unset, .unset, .unset, .unset, .unset, .unset, .unset, .unset, .unset] [(.long x0)]))
      refine Gl.bipush Y37 (v := (63 : Int32)) (by decide) d_prog_137_method_14_40 rfl ?_
      obtain ⟨v42, hv42⟩ : ∃ z : Int64, (x0 >>> ((63 : Int32) &&& 0x3f).toInt64) = z := ⟨_, rfl⟩
      refine Gl.lshr Y37 hv42 d_prog_137_method_14_42 rfl ?_
      refine Gl.lstore Y37 (L' := #[.val (.ref o), .val (.ref u), .val (.int (0 : Int32)), .val (.ref wu), .val (.int (1 : Int32)), .val (.long v42), .second, .unset, .unset, .unset, .unset, .unset, .unset, .unset, .unset, .unset, .unset, .unset, .unset, .unset, .unset]) rfl d_prog_137_method_14_43 rfl ?_
      refine Gl.aloadN Y37 rfl rfl d_prog_137_method_14_45 rfl ?_
      refine Gl.aloadN Y37 rfl rfl d_prog_137_method_14_46 rfl ?_
      refine Gl.arraylength Y37 V_u d_prog_137_method_14_47 rfl ?_
      refine Gl.iconst Y37 (v := (1 : Int32)) (by decide) d_prog_137_method_14_48 rfl ?_
      refine Gl.isub Y37 (r := (0 : Int32)) (by decide) d_prog_137_method_14_49 rfl ?_
      refine Gl.laload Y37 V_u ⟨by decide, by decide⟩ (v := (.long y0)) rfl d_prog_137_method_14_50 rfl ?_
      refine Gl.bipush Y37 (v := (63 : Int32)) (by decide) d_prog_137_method_14_51 rfl ?_
      obtain ⟨v53, hv53⟩ : ∃ z : Int64, (y0 >>> ((63 : Int32) &&& 0x3f).toInt64) = z := ⟨_, rfl⟩
      refine Gl.lshr Y37 hv53 d_prog_137_method_14_53 rfl ?_
      refine Gl.lstore Y37 (L' := #[.val (.ref o), .val (.ref u), .val (.int (0 : Int32)), .val (.ref wu), .val (.int (1 : Int32)), .val (.long v42), .second, .val (.long v53), .second, .unset, .unset, .unset, .unset, .unset, .unset, .unset, .unset, .unset, .unset, .unset, .unset]) rfl d_prog_137_method_14_54 rfl ?_
      refine Gl.iloadN Y37 rfl d_prog_137_method_14_56 rfl ?_
      refine Gl.ifeq Y37 d_prog_137_method_14_57 (by decide) rfl rfl (fun c57 => ?_) (fun c57 => ?_)
      rotate_left
      · exact absurd c57 (by decide)
      refine Gl.lconst Y37 (v := (0 : Int64)) (by decide) d_prog_137_method_14_66 rfl ?_
      refine Gl.lstore Y37 (L' := #[.val (.ref o), .val (.ref u), .val (.int (0 : Int32)), .val (.ref wu), .val (.int (1 : Int32)), .val (.long v42), .second, .val (.long v53), .second, .val (.long (0 : Int64)), .second, .unset, .unset, .unset, .unset, .unset, .unset, .unset, .unset, .unset, .unset]) rfl d_prog_137_method_14_67 rfl ?_
      refine Gl.iloadN Y37 rfl d_prog_137_method_14_69 rfl ?_
      refine Gl.ifeq Y37 d_prog_137_method_14_70 (by decide) rfl rfl (fun c70 => ?_) (fun c70 => ?_)
      rotate_left
      · exact absurd c70 (by decide)
      refine Gl.lconst Y37 (v := (0 : Int64)) (by decide) d_prog_137_method_14_77 rfl ?_
      refine Gl.lstore Y37 (L' := #[.val (.ref o), .val (.ref u), .val (.int (0 : Int32)), .val (.ref wu), .val (.int (1 : Int32)), .val (.long v42), .second, .val (.long v53), .second, .val (.long (0 : Int64)), .second, .val (.long (0 : Int64)), .second, .unset, .unset, .unset, .unset, .unset, .unset, .unset, .unset]) rfl d_prog_137_method_14_78 rfl ?_
      refine Gl.lconst Y37 (v := (0 : Int64)) (by decide) d_prog_137_method_14_80 rfl ?_
      refine Gl.lstore Y37 (L' := #[.val (.ref o), .val (.ref u), .val (.int (0 : Int32)), .val (.ref wu), .val (.int (1 : Int32)), .val (.long v42), .second, .val (.long v53), .second, .val (.long (0 : Int64)), .second, .val (.long (0 : Int64)), .second, .val (.long (0 : Int64)), .second, .unset, .unset, .unset, .unset, .unset, .unset]) rfl d_prog_137_method_14_81 rfl ?_
      refine Gl.lconst Y37 (v := (0 : Int64)) (by decide) d_prog_137_method_14_83 rfl ?_
      refine Gl.lstore Y37 (L' := #[.val (.ref o), .val (.ref u), .val (.int (0 : Int32)), .val (.ref wu), .val (.int (1 : Int32)), .val (.long v42), .second, .val (.long v53), .second, .val (.long (0 : Int64)), .second, .val (.long (0 : Int64)), .second, .val (.long (0 : Int64)), .second, .val (.long (0 : Int64)), .second, .unset, .unset, .unset, .unset]) rfl d_prog_137_method_14_84 rfl ?_
      refine Gl.lconst Y37 (v := (0 : Int64)) (by decide) d_prog_137_method_14_86 rfl ?_
      refine Gl.lstore Y37 (L' := #[.val (.ref o), .val (.ref u), .val (.int (0 : Int32)), .val (.ref wu), .val (.int (1 : Int32)), .val (.long v42), .second, .val (.long v53), .second, .val (.long (0 : Int64)), .second, .val (.long (0 : Int64)), .second, .val (.long (0 : Int64)), .second, .val (.long (0 : Int64)), .second, .val (.long (0 : Int64)), .second, .unset, .unset]) rfl d_prog_137_method_14_87 rfl ?_
      refine Gl.iconst Y37 (v := (1 : Int32)) (by decide) d_prog_137_method_14_89 rfl ?_
      refine Gl.istore Y37 (L' := #[.val (.ref o), .val (.ref u), .val (.int (0 : Int32)), .val (.ref wu), .val (.int (1 : Int32)), .val (.long v42), .second, .val (.long v53), .second, .val (.long (0 : Int64)), .second, .val (.long (0 : Int64)), .second, .val (.long (0 : Int64)), .second, .val (.long (0 : Int64)), .second, .val (.long (0 : Int64)), .second, .val (.int (1 : Int32)), .unset]) rfl d_prog_137_method_14_90 rfl ?_
      refine Gl.iconst Y37 (v := (0 : Int32)) (by decide) d_prog_137_method_14_92 rfl ?_
      refine Gl.istore Y37 (L' := #[.val (.ref o), .val (.ref u), .val (.int (0 : Int32)), .val (.ref wu), .val (.int (1 : Int32)), .val (.long v42), .second, .val (.long v53), .second, .val (.long (0 : Int64)), .second, .val (.long (0 : Int64)), .second, .val (.long (0 : Int64)), .second, .val (.long (0 : Int64)), .second, .val (.long (0 : Int64)), .second, .val (.int (1 : Int32)), .val (.int (0 : Int32))]) rfl d_prog_137_method_14_93 rfl ?_
      refine Gl.iload Y37 rfl d_prog_137_method_14_95 rfl ?_
      refine Gl.iload Y37 rfl d_prog_137_method_14_97 rfl ?_
      refine Gl.icmpge Y37 d_prog_137_method_14_99 (by decide) rfl rfl (fun c99 => ?_) (fun c99 => ?_)
      · exact absurd c99 (by decide)
      refine Gl.iload Y37 rfl d_prog_137_method_14_102 rfl ?_
      refine Gl.aloadN Y37 rfl rfl d_prog_137_method_14_104 rfl ?_
      refine Gl.getF Y37 (host := "") (Or.inl (tw_14 hw)) Via.refl F_o d_prog_137_method_14_105 rfl (fun T105 Y105 => ?_)
      refine Gl.arraylength Y105 V_o d_prog_137_method_14_108 rfl ?_
      refine Gl.icmpge Y105 d_prog_137_method_14_109 (by decide) rfl rfl (fun c109 => ?_) (fun c109 => ?_)
      · exact absurd c109 (by decide)
      refine Gl.aloadN Y105 rfl rfl d_prog_137_method_14_112 rfl ?_
      refine Gl.getF Y105 (host := "") (Or.inl (tw_14 hw)) Via.refl F_o d_prog_137_method_14_113 rfl (fun T113 Y113 => ?_)
      refine Gl.iload Y113 rfl d_prog_137_method_14_116 rfl ?_
      refine Gl.laload Y113 V_o ⟨by decide, by decide⟩ (v := (.long x0)) rfl d_prog_137_method_14_118 rfl ?_
      refine Gl.goto Y113 d_prog_137_method_14_119 (by decide) rfl ?_
      refine Gl.lstore Y113 (L' := #[.val (.ref o), .val (.ref u), .val (.int (0 : Int32)), .val (.ref wu), .val (.int (1 : Int32)), .val (.long v42), .second, .val (.long v53), .second, .val (.long (0 : Int64)), .second, .val (.long (0 : Int64)), .second, .val (.long x0), .second, .val (.long (0 : Int64)), .second, .val (.long (0 : Int64)), .second, .val (.int (1 : Int32)), .val (.int (0 : Int32))]) rfl d_prog_137_method_14_124 rfl ?_
      refine Gl.iload Y113 rfl d_prog_137_method_14_126 rfl ?_
      refine Gl.aloadN Y113 rfl rfl d_prog_137_method_14_128 rfl ?_
      refine Gl.arraylength Y113 V_u d_prog_137_method_14_129 rfl ?_
      refine Gl.icmpge Y113 d_prog_137_method_14_130 (by decide) rfl rfl (fun c130 => ?_) (fun c130 => ?_)
      · exact absurd c130 (by decide)
      refine Gl.aloadN Y113 rfl rfl d_prog_137_method_14_133 rfl ?_
      refine Gl.iload Y113 rfl d_prog_137_method_14_134 rfl ?_
      refine Gl.laload Y113 V_u ⟨by decide, by decide⟩ (v := (.long y0)) rfl d_prog_137_method_14_136 rfl ?_
      refine Gl.goto Y113 d_prog_137_method_14_137 (by decide) rfl ?_
      refine Gl.lload Y113 rfl d_prog_137_method_14_142 rfl ?_
      obtain ⟨v144, hv144⟩ : ∃ z : Int64, y0 ^^^ (0 : Int64) = z := ⟨_, rfl⟩
      refine Gl.lxor Y113 hv144 d_prog_137_method_14_144 rfl ?_
      refine Gl.lstore Y113 (L' := #[.val (.ref o), .val (.ref u), .val (.int (0 : Int32)), .val (.ref wu), .val (.int (1 : Int32)), .val (.long v42), .second, .val (.long v53), .second, .val (.long (0 : Int64)), .second, .val (.long (0 : Int64)), .second, .val (.long x0), .second, .val (.long v144), .second, .val (.long (0 : Int64)), .second, .val (.int (1 : Int32)), .val (.int (0 : Int32))]) rfl d_prog_137_method_14_145 rfl ?_
      refine Gl.lload Y113 rfl d_prog_137_method_14_147 rfl ?_
      refine Gl.lload Y113 rfl d_prog_137_method_14_149 rfl ?_
      obtain ⟨v151, hv151⟩ : ∃ z : Int64, x0 + v144 = z := ⟨_, rfl⟩
      refine Gl.ladd Y113 hv151 d_prog_137_method_14_151 rfl ?_
      refine Gl.lload Y113 rfl d_prog_137_method_14_152 rfl ?_
      obtain ⟨v154, hv154⟩ : ∃ z : Int64, v151 + (0 : Int64) = z := ⟨_, rfl⟩
      refine Gl.ladd Y113 hv154 d_prog_137_method_14_154 rfl ?_
      refine Gl.lstore Y113 (L' := #[.val (.ref o), .val (.ref u), .val (.int (0 : Int32)), .val (.ref wu), .val (.int (1 : Int32)), .val (.long v42), .second, .val (.long v53), .second, .val (.long (0 : Int64)), .second, .val (.long (0 : Int64)), .second, .val (.long x0), .second, .val (.long v144), .second, .val (.long v154), .second, .val (.int (1 : Int32)), .val (.int (0 : Int32))]) rfl d_prog_137_method_14_155 rfl ?_
      refine Gl.lload Y113 rfl d_prog_137_method_14_157 rfl ?_
      refine Gl.lload Y113 rfl d_prog_137_method_14_159 rfl ?_
      obtain ⟨v161, hv161⟩ : ∃ z : Int64, x0 &&& v144 = z := ⟨_, rfl⟩
      refine Gl.land Y113 hv161 d_prog_137_method_14_161 rfl ?_
      refine Gl.lload Y113 rfl d_prog_137_method_14_162 rfl ?_
      refine Gl.lload Y113 rfl d_prog_137_method_14_164 rfl ?_
      obtain ⟨v166, hv166⟩ : ∃ z : Int64, x0 ||| v144 = z := ⟨_, rfl⟩
      refine Gl.lor Y113 hv166 d_prog_137_method_14_166 rfl ?_
      refine Gl.lload Y113 rfl d_prog_137_method_14_167 rfl ?_
      refine Gl.ldcJ Y113 (tw_65 hw) d_prog_137_method_14_169 rfl ?_
      obtain ⟨v172, hv172⟩ : ∃ z : Int64, v154 ^^^ (-1 : Int64) = z := ⟨_, rfl⟩
      refine Gl.lxor Y113 hv172 d_prog_137_method_14_172 rfl ?_
      obtain ⟨v173, hv173⟩ : ∃ z : Int64, v166 &&& v172 = z := ⟨_, rfl⟩
      refine Gl.land Y113 hv173 d_prog_137_method_14_173 rfl ?_
      obtain ⟨v174, hv174⟩ : ∃ z : Int64, v161 ||| v173 = z := ⟨_, rfl⟩
      refine Gl.lor Y113 hv174 d_prog_137_method_14_174 rfl ?_
      refine Gl.bipush Y113 (v := (63 : Int32)) (by decide) d_prog_137_method_14_175 rfl ?_
      obtain ⟨v177, hv177⟩ : ∃ z : Int64, (v174.toUInt64 >>> ((63 : Int32) &&& 0x3f).toInt64.toUInt64).toInt64 = z := ⟨_, rfl⟩
      refine Gl.lushr Y113 hv177 d_prog_137_method_14_177 rfl ?_
      refine Gl.lstore Y113 (L' := #[.val (.ref o), .val (.ref u), .val (.int (0 : Int32)), .val (.ref wu), .val (.int (1 : Int32)), .val (.long v42), .second, .val (.long v53), .second, .val (.long (0 : Int64)), .second, .val (.long v177), .second, .val (.long x0), .second, .val (.long v144), .second, .val (.long v154), .second, .val (.int (1 : Int32)), .val (.int (0 : Int32))]) rfl d_prog_137_method_14_178 rfl ?_
      refine Gl.iload Y113 rfl d_prog_137_method_14_180 rfl ?_
      refine Gl.aloadN Y113 rfl rfl d_prog_137_method_14_182 rfl ?_
      refine Gl.getF Y113 (host := "") (Or.inl (tw_14 hw)) Via.refl F_o d_prog_137_method_14_183 rfl (fun T183 Y183 => ?_)
      refine Gl.arraylength Y183 V_o d_prog_137_method_14_186 rfl ?_
      refine Gl.icmpge Y183 d_prog_137_method_14_187 (by decide) rfl rfl (fun c187 => ?_) (fun c187 => ?_)
      · exact absurd c187 (by decide)
      refine Gl.aloadN Y183 rfl rfl d_prog_137_method_14_190 rfl ?_
      refine Gl.getF Y183 (host := "") (Or.inl (tw_14 hw)) Via.refl F_o d_prog_137_method_14_191 rfl (fun T191 Y191 => ?_)
      refine Gl.iload Y191 rfl d_prog_137_method_14_194 rfl ?_
      refine Gl.lload Y191 rfl d_prog_137_method_14_196 rfl ?_
      refine Gl.lastore Y191 V_o (v := (.long v154)) rfl ⟨by decide, by decide⟩ (ix := 0) rfl (Nat.le_of_ble_eq_true rfl) g_o d_prog_137_method_14_198 rfl (fun T198 h198 Y198 W198 A198 => ?_)
      have A198 : Arv Z h198 wo ko .long (1 : Int32) [(.long v154)] (.long (0 : Int64)) := A198
      have K198 : Keep h0 h198 [wo] := (Keep.refl h0 [wo]).wr W198 (Or.inl (List.mem_of_getElem? (i := 0) rfl))
      show Gl p e below _ (T198.setTop (mkF m 199 #[.val (.ref o), .val (.ref u), .val (.int (0 : Int32)), .val (.ref wu), .val (.int (1 : Int32)), .val (.long v42), .second, .val (.long v53), .second, .val (.long (0 : Int64)), .second, .val (.long v177), .second, .val (.long x0), .second, .val (.long v144), .second, .val (.long v154), .second, .val (.int (1 : Int32)), .val (.int (0 : Int32))] []))
      refine Gl.goto Y198 d_prog_137_method_14_199 (by decide) rfl ?_
      refine Gl.iinc Y198 rfl (r := (1 : Int32)) (by decide) (L' := #[.val (.ref o), .val (.ref u), .val (.int (0 : Int32)), .val (.ref wu), .val (.int (1 : Int32)), .val (.long v42), .second, .val (.long v53), .second, .val (.long (0 : Int64)), .second, .val (.long v177), .second, .val (.long x0), .second, .val (.long v144), .second, .val (.long v154), .second, .val (.int (1 : Int32)), .val (.int (1 : Int32))]) rfl d_prog_137_method_14_225 rfl ?_
      refine Gl.goto Y198 d_prog_137_method_14_228 (by decide) rfl ?_
      refine Gl.iload Y198 rfl d_prog_137_method_14_95 rfl ?_
      refine Gl.iload Y198 rfl d_prog_137_method_14_97 rfl ?_
      refine Gl.icmpge Y198 d_prog_137_method_14_99 (by decide) rfl rfl (fun c99_2 => ?_) (fun c99_2 => ?_)
      rotate_left
      · exact absurd c99_2 (by decide)
      refine Gl.iload Y198 rfl d_prog_137_method_14_231 rfl ?_
      refine Gl.ifeq Y198 d_prog_137_method_14_233 (by decide) rfl rfl (fun c233 => ?_) (fun c233 => ?_)
      · exact absurd c233 (by decide)
      refine Gl.lload Y198 rfl d_prog_137_method_14_236 rfl ?_
      refine Gl.lload Y198 rfl d_prog_137_method_14_238 rfl ?_
      obtain ⟨v240, hv240⟩ : ∃ z : Int64, x0 ^^^ v154 = z := ⟨_, rfl⟩
      refine Gl.lxor Y198 hv240 d_prog_137_method_14_240 rfl ?_
      refine Gl.lload Y198 rfl d_prog_137_method_14_241 rfl ?_
      refine Gl.lload Y198 rfl d_prog_137_method_14_243 rfl ?_
      obtain ⟨v245, hv245⟩ : ∃ z : Int64, v144 ^^^ v154 = z := ⟨_, rfl⟩
      refine Gl.lxor Y198 hv245 d_prog_137_method_14_245 rfl ?_
      obtain ⟨v246, hv246⟩ : ∃ z : Int64, v240 &&& v245 = z := ⟨_, rfl⟩
      refine Gl.land Y198 hv246 d_prog_137_method_14_246 rfl ?_
      refine Gl.lconst Y198 (v := (0 : Int64)) (by decide) d_prog_137_method_14_247 rfl ?_
      refine Gl.lcmplt Y198 d_prog_137_method_14_248 rfl d_prog_137_method_14_249 (by decide) rfl rfl (fun c249 => ?_) (fun c249 => ?_)
      · refine Gl.aloadN Y198 rfl rfl d_prog_137_method_14_256 rfl ?_
        have f1 : Exa Z h198 o "com/example/meterwise/meterwise/model/WholeNumber" := (Exa.wr W198 E_o)
        have f2 : Fld Z h198 o "com/example/meterwise/meterwise/model/WholeNumber" "words" "[J" (.ref wo) := (Fld.other W198 F_o (Or.inl nn_o))
        refine Gl.callV Y198 (tw_59 hw) (tw_29 hw) (tw_31 hw) (tw_31 hw) (tw_30 hw) (tw_2 hw) (tw_32 hw) (by decide) f1 (rm8 l Z a0 hw [] o wo ko v154 h198 n0 Y198.sz f1 f2 A198 g_o nn_o) (a := o) (argsL := []) (rest := []) rfl rfl (lenOf pd_5 rfl) rfl (by decide) (Nat.le_of_ble_eq_true rfl) (by decide) (by decide) d_prog_137_method_14_257 rfl (fun v257 T257 h257 Y257 q257 => ?_)
        obtain ⟨rfl, K257, f257_0⟩ := q257
        have KK257 : Keep h0 h257 [wo] := K198.trans K257 (allS (Or.inl (List.mem_of_getElem? (i := 0) rfl)) all0)
        show Gl p e below _ (T257.setTop (mkF m 260 #[.val (.ref o), .val (.ref u), .val (.int (0 : Int32)), .val (.ref wu), .val (.int (1 : Int32)), .val (.long v42), .second, .val (.long v53), .second, .val (.long (0 : Int64)), .second, .val (.long v177), .second, .val (.long x0), .second, .val (.long v144), .second, .val (.long v154), .second, .val (.int (1 : Int32)), .val (.int (1 : Int32))] [(.ref o)]))
        exact Gl.retA Y257 (by decide) (by decide) rfl rfl d_prog_137_method_14_260 ⟨(-9223372036854775808 : Int64), rfl, KK257, f257_0⟩
      · refine Gl.aloadN Y198 rfl rfl d_prog_137_method_14_252 rfl ?_
        refine Gl.goto Y198 d_prog_137_method_14_253 (by decide) rfl ?_
        exact Gl.retA Y198 (by decide) (by decide) rfl rfl d_prog_137_method_14_260 ⟨v154, rfl, K198, A198⟩
    · refine Gl.aloadN Y8 rfl rfl d_prog_137_method_14_14 rfl ?_
      refine Gl.callV Y8 (tw_59 hw) (tw_29 hw) (tw_31 hw) (tw_31 hw) (tw_30 hw) (tw_2 hw) (tw_32 hw) (by decide) E_o (rm8 l Z a0 hw [] o wo ko x0 h0 n0 Y8.sz E_o F_o V_o g_o nn_o) (a := o) (argsL := []) (rest := []) rfl rfl (lenOf pd_5 rfl) rfl (by decide) (Nat.le_of_ble_eq_true rfl) (by decide) (by decide) d_prog_137_method_14_15 rfl (fun v15 T15 h15 Y15 q15 => ?_)
      obtain ⟨rfl, K15, f15_0⟩ := q15
      have KK15 : Keep h0 h15 [wo] := (Keep.refl h0 [wo]).trans K15 (allS (Or.inl (List.mem_of_getElem? (i := 0) rfl)) all0)
      show Gl p e below _ (T15.setTop (mkF m 18 #[.val (.ref o), .val (.ref u), .val (.int (0 : Int32)), .unset, .unset, .unset, .unset, .unset, .unset, .unset, .unset, .unset, .unset, .unset, .unset, .unset, .unset, .unset, .unset, .unset, .unset] [(.ref o)]))
      exact Gl.retA Y15 (by decide) (by decide) rfl rfl d_prog_137_method_14_18 ⟨(-9223372036854775808 : Int64), rfl, KK15, f15_0⟩
theorem d_prog_137_method_12_0 : decode prog_137_method_12_code 0 = .ok (.aload_n 0, 1) := by decide +kernel
theorem d_prog_137_method_12_1 : decode prog_137_method_12_code 1 = .ok (.aload_n 1, 1) := by decide +kernel
theorem d_prog_137_method_12_2 : decode prog_137_method_12_code 2 = .ok (.iconst 0, 1) := by decide +kernel
theorem d_prog_137_method_12_3 : decode prog_137_method_12_code 3 = .ok (.invokevirtual 124, 3) := by decide +kernel
theorem tw_42 {a0 : Array Value} {Z : State} (hw : ∀ d ∈ tables_1, d.before a0 Z = true) : (Jvm.Cond.methodLink "com/example/meterwise/meterwise/model/WholeNumber" (124 : Nat) ({ cls := "com/example/meterwise/meterwise/model/WholeNumber", name := "add", desc := "(Lcom/example/meterwise/meterwise/model/WholeNumber;Z)Lcom/example/meterwise/meterwise/model/WholeNumber;" } : Jvm.MethodName)).before a0 Z = true := hw _ (List.mem_of_getElem? (i := 42) rfl)
theorem pd_7 : parseMethodDescriptor "(Lcom/example/meterwise/meterwise/model/WholeNumber;Z)Lcom/example/meterwise/meterwise/model/WholeNumber;" = some ⟨[(.object "com/example/meterwise/meterwise/model/WholeNumber"), .boolean], some (.object "com/example/meterwise/meterwise/model/WholeNumber")⟩ := by decide +kernel
theorem tw_45 {a0 : Array Value} {Z : State} (hw : ∀ d ∈ tables_1, d.before a0 Z = true) : (Jvm.Cond.code ({ cls := "com/example/meterwise/meterwise/model/WholeNumber", name := "add", desc := "(Lcom/example/meterwise/meterwise/model/WholeNumber;Z)Lcom/example/meterwise/meterwise/model/WholeNumber;" } : Jvm.MethodName) prog_137_method_14_code (21 : Nat) (Option.some (Jvm.ClassFile.FieldType.object "com/example/meterwise/meterwise/model/WholeNumber"))).before a0 Z = true := hw _ (List.mem_of_getElem? (i := 45) rfl)
theorem tw_43 {a0 : Array Value} {Z : State} (hw : ∀ d ∈ tables_1, d.before a0 Z = true) : (Jvm.Cond.instanceMethod ({ cls := "com/example/meterwise/meterwise/model/WholeNumber", name := "add", desc := "(Lcom/example/meterwise/meterwise/model/WholeNumber;Z)Lcom/example/meterwise/meterwise/model/WholeNumber;" } : Jvm.MethodName)).before a0 Z = true := hw _ (List.mem_of_getElem? (i := 43) rfl)
theorem tw_44 {a0 : Array Value} {Z : State} (hw : ∀ d ∈ tables_1, d.before a0 Z = true) : (Jvm.Cond.privateMethod ({ cls := "com/example/meterwise/meterwise/model/WholeNumber", name := "add", desc := "(Lcom/example/meterwise/meterwise/model/WholeNumber;Z)Lcom/example/meterwise/meterwise/model/WholeNumber;" } : Jvm.MethodName)).before a0 Z = true := hw _ (List.mem_of_getElem? (i := 44) rfl)
theorem d_prog_137_method_12_6 : decode prog_137_method_12_code 6 = .ok (.areturn, 1) := by decide +kernel
def R16 : Room := { frames := 3, cells := 0, slots := 0, locals := 60 }
def Q16 (Z : State) (o : Addr) (wo : Addr) (ko : ClassId) (x0 : Int64) (u : Addr) (wu : Addr) (ku : ClassId) (y0 : Int64) (h0 : Heap) (v : Option Value) (h : Heap) : Prop := ∃ e0 : Int64, v = some (.ref o) ∧ Keep h0 h [wo] ∧ Arv Z h wo ko .long (1 : Int32) [(.long e0)] (.long (0 : Int64))
theorem ef16 (o : Addr) (u : Addr) (m : MethodId) : entryFrame m #[(.ref o), (.ref u)] 2 = mkF m 0 #[.val (.ref o), .val (.ref u)] [] := by first | (simp [entryFrame, mkF, argsToLocals, Value.category]; done) | rfl
set_option maxRecDepth 65536 in
set_option maxHeartbeats 40000000 in
theorem rm16 (l : Launch) (Z : State) (a0 : Array Value) (hw : ∀ d ∈ tables_1, d.before a0 Z = true) (ws : List Jvm.Cond) (o : Addr) (wo : Addr) (ko : ClassId) (x0 : Int64) (u : Addr) (wu : Addr) (ku : ClassId) (y0 : Int64) (h0 : Heap) (n0 : Nat) (Z0 : n0 ≤ h0.size) (E_o : Exa Z h0 o "com/example/meterwise/meterwise/model/WholeNumber") (F_o : Fld Z h0 o "com/example/meterwise/meterwise/model/WholeNumber" "words" "[J" (.ref wo)) (V_o : Arv Z h0 wo ko .long (1 : Int32) [(.long x0)] (.long (0 : Int64))) (g_o : n0 ≤ wo) (nn_o : o ≠ wo) (E_u : Exa Z h0 u "com/example/meterwise/meterwise/model/WholeNumber") (F_u : Fld Z h0 u "com/example/meterwise/meterwise/model/WholeNumber" "words" "[J" (.ref wu)) (V_u : Arv Z h0 wu ku .long (1 : Int32) [(.long y0)] (.long (0 : Int64))) (nw : wo ≠ wu) (np : u ≠ wo) : OMet l Z ws (⟨"com/example/meterwise/meterwise/model/WholeNumber", "add", "(Lcom/example/meterwise/meterwise/model/WholeNumber;)Lcom/example/meterwise/meterwise/model/WholeNumber;"⟩ : MethodName) prog_137_method_12_code 2 (some (.object "com/example/meterwise/meterwise/model/WholeNumber")) R16 #[(.ref o), (.ref u)] h0 n0 (Q16 Z o wo ko x0 u wu ku y0 h0) := by
  refine OMet.of (plainFor_of_name pn_0) (ef16 o u) Z0 ?_
  intro p e s m below meth c T0 Y0 hnm
  have Y0 : Sd Z "com/example/meterwise/meterwise/model/WholeNumber" prog_137_method_12_code 2 (some (.object "com/example/meterwise/meterwise/model/WholeNumber")) n0 p l e R16 s m #[(.ref o), (.ref u)] below meth c T0 h0 0 0 := Y0
  refine Gl.aloadN Y0 rfl rfl d_prog_137_method_12_0 rfl ?_
  refine Gl.aloadN Y0 rfl rfl d_prog_137_method_12_1 rfl ?_
  refine Gl.iconst Y0 (v := (0 : Int32)) (by decide) d_prog_137_method_12_2 rfl ?_
  refine Gl.callP Y0 (tw_42 hw) (tw_43 hw) (tw_44 hw) (tw_1 hw) (tw_2 hw) (tw_45 hw) (by decide) E_o (rm15 l Z a0 hw [] o wo ko x0 u wu ku y0 h0 n0 Y0.sz E_o F_o V_o g_o nn_o E_u F_u V_u nw np) (a := o) (argsL := [(.ref u), (.int (0 : Int32))]) (rest := []) rfl rfl (lenOf pd_7 rfl) rfl (by decide) (Nat.le_of_ble_eq_true rfl) (by decide) (by decide) d_prog_137_method_12_3 rfl (fun v3 T3 h3 Y3 q3 => ?_)
  obtain ⟨e03, rfl, K3, f3_0⟩ := q3
  have KK3 : Keep h0 h3 [wo] := (Keep.refl h0 [wo]).trans K3 (allS (Or.inl (List.mem_of_getElem? (i := 0) rfl)) all0)
  show Gl p e below _ (T3.setTop (mkF m 6 #[.val (.ref o), .val (.ref u)] [(.ref o)]))
  exact Gl.retA Y3 (by decide) (by decide) rfl rfl d_prog_137_method_12_6 ⟨e03, rfl, KK3, f3_0⟩
theorem d_prog_137_method_19_0 : decode prog_137_method_19_code 0 = .ok (.lconst 1, 1) := by decide +kernel
theorem d_prog_137_method_19_1 : decode prog_137_method_19_code 1 = .ok (.lstore_n 1, 1) := by decide +kernel
theorem d_prog_137_method_19_2 : decode prog_137_method_19_code 2 = .ok (.iconst 0, 1) := by decide +kernel
theorem d_prog_137_method_19_3 : decode prog_137_method_19_code 3 = .ok (.istore_n 3, 1) := by decide +kernel
theorem d_prog_137_method_19_4 : decode prog_137_method_19_code 4 = .ok (.iload_n 3, 1) := by decide +kernel
theorem d_prog_137_method_19_5 : decode prog_137_method_19_code 5 = .ok (.aload_n 0, 1) := by decide +kernel
theorem d_prog_137_method_19_6 : decode prog_137_method_19_code 6 = .ok (.getfield 26, 3) := by decide +kernel
theorem d_prog_137_method_19_9 : decode prog_137_method_19_code 9 = .ok (.arraylength, 1) := by decide +kernel
theorem d_prog_137_method_19_10 : decode prog_137_method_19_code 10 = .ok (.if_icmp .ge 46, 3) := by decide +kernel
theorem d_prog_137_method_19_13 : decode prog_137_method_19_code 13 = .ok (.aload_n 0, 1) := by decide +kernel
theorem d_prog_137_method_19_14 : decode prog_137_method_19_code 14 = .ok (.getfield 26, 3) := by decide +kernel
theorem d_prog_137_method_19_17 : decode prog_137_method_19_code 17 = .ok (.iload_n 3, 1) := by decide +kernel
theorem d_prog_137_method_19_18 : decode prog_137_method_19_code 18 = .ok (.aload_n 0, 1) := by decide +kernel
theorem d_prog_137_method_19_19 : decode prog_137_method_19_code 19 = .ok (.getfield 26, 3) := by decide +kernel
theorem d_prog_137_method_19_22 : decode prog_137_method_19_code 22 = .ok (.iload_n 3, 1) := by decide +kernel
theorem d_prog_137_method_19_23 : decode prog_137_method_19_code 23 = .ok (.laload, 1) := by decide +kernel
theorem d_prog_137_method_19_24 : decode prog_137_method_19_code 24 = .ok (.ldc2_w 128, 3) := by decide +kernel
theorem d_prog_137_method_19_27 : decode prog_137_method_19_code 27 = .ok (.lxor, 1) := by decide +kernel
theorem d_prog_137_method_19_28 : decode prog_137_method_19_code 28 = .ok (.lload_n 1, 1) := by decide +kernel
theorem d_prog_137_method_19_29 : decode prog_137_method_19_code 29 = .ok (.ladd, 1) := by decide +kernel
theorem d_prog_137_method_19_30 : decode prog_137_method_19_code 30 = .ok (.lastore, 1) := by decide +kernel
theorem d_prog_137_method_19_31 : decode prog_137_method_19_code 31 = .ok (.lload_n 1, 1) := by decide +kernel
theorem d_prog_137_method_19_32 : decode prog_137_method_19_code 32 = .ok (.aload_n 0, 1) := by decide +kernel
theorem d_prog_137_method_19_33 : decode prog_137_method_19_code 33 = .ok (.getfield 26, 3) := by decide +kernel
theorem d_prog_137_method_19_36 : decode prog_137_method_19_code 36 = .ok (.iload_n 3, 1) := by decide +kernel
theorem d_prog_137_method_19_37 : decode prog_137_method_19_code 37 = .ok (.laload, 1) := by decide +kernel
theorem d_prog_137_method_19_38 : decode prog_137_method_19_code 38 = .ok (.lconst 0, 1) := by decide +kernel
theorem d_prog_137_method_19_39 : decode prog_137_method_19_code 39 = .ok (.lcmp, 1) := by decide +kernel
theorem d_prog_137_method_19_40 : decode prog_137_method_19_code 40 = .ok (.ifCond .ne 7, 3) := by decide +kernel
theorem d_prog_137_method_19_47 : decode prog_137_method_19_code 47 = .ok (.lconst 0, 1) := by decide +kernel
theorem d_prog_137_method_19_43 : decode prog_137_method_19_code 43 = .ok (.lconst 1, 1) := by decide +kernel
theorem d_prog_137_method_19_44 : decode prog_137_method_19_code 44 = .ok (.goto 4, 3) := by decide +kernel
theorem d_prog_137_method_19_48 : decode prog_137_method_19_code 48 = .ok (.land, 1) := by decide +kernel
theorem d_prog_137_method_19_49 : decode prog_137_method_19_code 49 = .ok (.lstore_n 1, 1) := by decide +kernel
theorem d_prog_137_method_19_50 : decode prog_137_method_19_code 50 = .ok (.iinc 3 1, 3) := by decide +kernel
theorem d_prog_137_method_19_53 : decode prog_137_method_19_code 53 = .ok (.goto (-49), 3) := by decide +kernel
theorem d_prog_137_method_19_56 : decode prog_137_method_19_code 56 = .ok (.aload_n 0, 1) := by decide +kernel
theorem d_prog_137_method_19_57 : decode prog_137_method_19_code 57 = .ok (.areturn, 1) := by decide +kernel
def R17 : Room := { frames := 0, cells := 0, slots := 0, locals := 0 }
def Q17 (Z : State) (o : Addr) (wo : Addr) (ko : ClassId) (x0 : Int64) (h0 : Heap) (v : Option Value) (h : Heap) : Prop := v = some (.ref o) ∧ Keep h0 h [wo] ∧ Arv Z h wo ko .long (1 : Int32) [(.long (own_o x0 1))] (.long (0 : Int64))
theorem ef17 (o : Addr) (m : MethodId) : entryFrame m #[(.ref o)] 4 = mkF m 0 #[.val (.ref o), .unset, .unset, .unset] [] := by first | (simp [entryFrame, mkF, argsToLocals, Value.category]; done) | rfl
set_option maxRecDepth 65536 in
set_option maxHeartbeats 40000000 in
theorem rm17 (l : Launch) (Z : State) (a0 : Array Value) (hw : ∀ d ∈ tables_1, d.before a0 Z = true) (ws : List Jvm.Cond) (o : Addr) (wo : Addr) (ko : ClassId) (x0 : Int64) (h0 : Heap) (n0 : Nat) (Z0 : n0 ≤ h0.size) (E_o : Exa Z h0 o "com/example/meterwise/meterwise/model/WholeNumber") (F_o : Fld Z h0 o "com/example/meterwise/meterwise/model/WholeNumber" "words" "[J" (.ref wo)) (V_o : Arv Z h0 wo ko .long (1 : Int32) [(.long x0)] (.long (0 : Int64))) (g_o : n0 ≤ wo) (nn_o : o ≠ wo) : OMet l Z ws (⟨"com/example/meterwise/meterwise/model/WholeNumber", "negate", "()Lcom/example/meterwise/meterwise/model/WholeNumber;"⟩ : MethodName) prog_137_method_19_code 4 (some (.object "com/example/meterwise/meterwise/model/WholeNumber")) R17 #[(.ref o)] h0 n0 (Q17 Z o wo ko x0 h0) := by
  refine OMet.of (plainFor_of_name pn_0) (ef17 o) Z0 ?_
  intro p e s m below meth c T0 Y0 hnm
  have Y0 : Sd Z "com/example/meterwise/meterwise/model/WholeNumber" prog_137_method_19_code 4 (some (.object "com/example/meterwise/meterwise/model/WholeNumber")) n0 p l e R17 s m #[(.ref o)] below meth c T0 h0 0 0 := Y0
  refine Gl.lconst Y0 (v := (1 : Int64)) (by decide) d_prog_137_method_19_0 rfl ?_
  refine Gl.lstoreN Y0 (L' := #[.val (.ref o), .val (.long (1 : Int64)), .second, .unset]) rfl d_prog_137_method_19_1 rfl ?_
  refine Gl.iconst Y0 (v := (0 : Int32)) (by decide) d_prog_137_method_19_2 rfl ?_
  refine Gl.istoreN Y0 (L' := #[.val (.ref o), .val (.long (1 : Int64)), .second, .val (.int (0 : Int32))]) rfl d_prog_137_method_19_3 rfl ?_
  refine Gl.iloadN Y0 rfl d_prog_137_method_19_4 rfl ?_
  refine Gl.aloadN Y0 rfl rfl d_prog_137_method_19_5 rfl ?_
  refine Gl.getF Y0 (host := "") (Or.inl (tw_14 hw)) Via.refl F_o d_prog_137_method_19_6 rfl (fun T6 Y6 => ?_)
  refine Gl.arraylength Y6 V_o d_prog_137_method_19_9 rfl ?_
  refine Gl.icmpge Y6 d_prog_137_method_19_10 (by decide) rfl rfl (fun c10 => ?_) (fun c10 => ?_)
  · exact absurd c10 (by decide)
  refine Gl.aloadN Y6 rfl rfl d_prog_137_method_19_13 rfl ?_
  refine Gl.getF Y6 (host := "") (Or.inl (tw_14 hw)) Via.refl F_o d_prog_137_method_19_14 rfl (fun T14 Y14 => ?_)
  refine Gl.iloadN Y14 rfl d_prog_137_method_19_17 rfl ?_
  refine Gl.aloadN Y14 rfl rfl d_prog_137_method_19_18 rfl ?_
  refine Gl.getF Y14 (host := "") (Or.inl (tw_14 hw)) Via.refl F_o d_prog_137_method_19_19 rfl (fun T19 Y19 => ?_)
  refine Gl.iloadN Y19 rfl d_prog_137_method_19_22 rfl ?_
  refine Gl.laload Y19 V_o ⟨by decide, by decide⟩ (v := (.long x0)) rfl d_prog_137_method_19_23 rfl ?_
  refine Gl.ldcJ Y19 (tw_65 hw) d_prog_137_method_19_24 rfl ?_
  refine Gl.lxor Y19 rfl d_prog_137_method_19_27 rfl ?_
  refine Gl.lloadN Y19 rfl d_prog_137_method_19_28 rfl ?_
  refine Gl.ladd Y19 rfl d_prog_137_method_19_29 rfl ?_
  refine Gl.lastore Y19 V_o (v := (.long ((x0 ^^^ (-1 : Int64)) + (1 : Int64)))) rfl ⟨by decide, by decide⟩ (ix := 0) rfl (Nat.le_of_ble_eq_true rfl) g_o d_prog_137_method_19_30 rfl (fun T30 h30 Y30 W30 A30 => ?_)
  have A30 : Arv Z h30 wo ko .long (1 : Int32) [(.long ((x0 ^^^ (-1 : Int64)) + (1 : Int64)))] (.long (0 : Int64)) := A30
  have K30 : Keep h0 h30 [wo] := (Keep.refl h0 [wo]).wr W30 (Or.inl (List.mem_of_getElem? (i := 0) rfl))
  show Gl p e below _ (T30.setTop (mkF m 31 #[.val (.ref o), .val (.long (1 : Int64)), .second, .val (.int (0 : Int32))] []))
  refine Gl.lloadN Y30 rfl d_prog_137_method_19_31 rfl ?_
  refine Gl.aloadN Y30 rfl rfl d_prog_137_method_19_32 rfl ?_
  have f1 : Fld Z h30 o "com/example/meterwise/meterwise/model/WholeNumber" "words" "[J" (.ref wo) := (Fld.other W30 F_o (Or.inl nn_o))
  refine Gl.getF Y30 (host := "") (Or.inl (tw_14 hw)) Via.refl f1 d_prog_137_method_19_33 rfl (fun T33 Y33 => ?_)
  refine Gl.iloadN Y33 rfl d_prog_137_method_19_36 rfl ?_
  refine Gl.laload Y33 A30 ⟨by decide, by decide⟩ (v := (.long ((x0 ^^^ (-1 : Int64)) + (1 : Int64)))) rfl d_prog_137_method_19_37 rfl ?_
  refine Gl.lconst Y33 (v := (0 : Int64)) (by decide) d_prog_137_method_19_38 rfl ?_
  obtain ⟨z39, hz39⟩ : ∃ z : Int64, (if ((x0 ^^^ (-1 : Int64)) + (1 : Int64)) = (0 : Int64) then (1 : Int64) else (0 : Int64)) = z := ⟨_, rfl⟩
  refine own_cut (B := ∀ T', Sd Z "com/example/meterwise/meterwise/model/WholeNumber" prog_137_method_19_code 4 (some (.object "com/example/meterwise/meterwise/model/WholeNumber")) n0 p l e R17 s m #[(.ref o)] below meth c T' h30 0 0 → Gl p e below (Pst s n0 R17.cells R17.slots (Q17 Z o wo ko x0 h0)) (T'.setTop (mkF m 48 #[.val (.ref o), .val (.long (1 : Int64)), .second, .val (.int (0 : Int32))] [(.long z39), (.long (1 : Int64))]))) (fun jk => ?_) (fun T39j Y39j => ?_)
  · refine Gl.lcmpne Y33 d_prog_137_method_19_39 rfl d_prog_137_method_19_40 (by decide) rfl rfl (fun c40 => ?_) (fun c40 => ?_)
    · refine Gl.lconst Y33 (v := (0 : Int64)) (by decide) d_prog_137_method_19_47 rfl ?_
      have ez39 : z39 = (0 : Int64) := by rw [← hz39]; simp only [c40, ↓reduceIte, if_true, if_false]
      rw [ez39] at jk
      exact jk T33 Y33
    · refine Gl.lconst Y33 (v := (1 : Int64)) (by decide) d_prog_137_method_19_43 rfl ?_
      refine Gl.goto Y33 d_prog_137_method_19_44 (by decide) rfl ?_
      have ez39 : z39 = (1 : Int64) := by rw [← hz39]; simp only [c40, ↓reduceIte, if_true, if_false]
      rw [ez39] at jk
      exact jk T33 Y33
  refine Gl.land Y39j rfl d_prog_137_method_19_48 rfl ?_
  refine Gl.lstoreN Y39j (L' := #[.val (.ref o), .val (.long ((1 : Int64) &&& z39)), .second, .val (.int (0 : Int32))]) rfl d_prog_137_method_19_49 rfl ?_
  refine Gl.iinc Y39j rfl (r := (1 : Int32)) (by decide) (L' := #[.val (.ref o), .val (.long ((1 : Int64) &&& z39)), .second, .val (.int (1 : Int32))]) rfl d_prog_137_method_19_50 rfl ?_
  refine Gl.goto Y39j d_prog_137_method_19_53 (by decide) rfl ?_
  refine Gl.iloadN Y39j rfl d_prog_137_method_19_4 rfl ?_
  refine Gl.aloadN Y39j rfl rfl d_prog_137_method_19_5 rfl ?_
  refine Gl.getF Y39j (host := "") (Or.inl (tw_14 hw)) Via.refl f1 d_prog_137_method_19_6 rfl (fun T6_2 Y6_2 => ?_)
  refine Gl.arraylength Y6_2 A30 d_prog_137_method_19_9 rfl ?_
  refine Gl.icmpge Y6_2 d_prog_137_method_19_10 (by decide) rfl rfl (fun c10_2 => ?_) (fun c10_2 => ?_)
  rotate_left
  · exact absurd c10_2 (by decide)
  refine Gl.aloadN Y6_2 rfl rfl d_prog_137_method_19_56 rfl ?_
  subst hz39
  exact Gl.retA Y6_2 (by decide) (by decide) rfl rfl d_prog_137_method_19_57 ⟨rfl, K30, A30⟩
theorem d_prog_137_method_14_60 : decode prog_137_method_14_code 60 = .ok (.ldc2_w 128, 3) := by decide +kernel
theorem d_prog_137_method_14_63 : decode prog_137_method_14_code 63 = .ok (.goto 4, 3) := by decide +kernel
theorem d_prog_137_method_14_73 : decode prog_137_method_14_code 73 = .ok (.lconst 1, 1) := by decide +kernel
theorem d_prog_137_method_14_74 : decode prog_137_method_14_code 74 = .ok (.goto 4, 3) := by decide +kernel
def R18 : Room := { frames := 2, cells := 0, slots := 0, locals := 28 }
def Q18 (Z : State) (o : Addr) (wo : Addr) (ko : ClassId) (u : Addr) (wu : Addr) (ku : ClassId) (x0 : Int64) (h0 : Heap) (v : Option Value) (h : Heap) : Prop := v = some (.ref o) ∧ Keep h0 h [wo] ∧ Arv Z h wo ko .long (1 : Int32) [(.long (own_o x0 1))] (.long (0 : Int64))
theorem ef18 (o : Addr) (u : Addr) (m : MethodId) : entryFrame m #[(.ref o), (.ref u), (.int (1 : Int32))] 21 = mkF m 0 #[.val (.ref o), .val (.ref u), .val (.int (1 : Int32)), .unset, .unset, .unset, .unset, .unset, .unset, .unset, .unset, .unset, .unset, .unset, .unset, .unset, .unset, .unset, .unset, .unset, .unset] [] := by first | (simp [entryFrame, mkF, argsToLocals, Value.category]; done) | rfl
set_option maxRecDepth 65536 in
set_option maxHeartbeats 40000000 in
theorem rm18 (l : Launch) (Z : State) (a0 : Array Value) (hw : ∀ d ∈ tables_1, d.before a0 Z = true) (ws : List Jvm.Cond) (o : Addr) (wo : Addr) (ko : ClassId) (u : Addr) (wu : Addr) (ku : ClassId) (x0 : Int64) (h0 : Heap) (n0 : Nat) (Z0 : n0 ≤ h0.size) (E_o : Exa Z h0 o "com/example/meterwise/meterwise/model/WholeNumber") (F_o : Fld Z h0 o "com/example/meterwise/meterwise/model/WholeNumber" "words" "[J" (.ref wo)) (V_o : Arv Z h0 wo ko .long (1 : Int32) [(.long (0 : Int64))] (.long (0 : Int64))) (g_o : n0 ≤ wo) (nn_o : o ≠ wo) (E_u : Exa Z h0 u "com/example/meterwise/meterwise/model/WholeNumber") (F_u : Fld Z h0 u "com/example/meterwise/meterwise/model/WholeNumber" "words" "[J" (.ref wu)) (V_u : Arv Z h0 wu ku .long (1 : Int32) [(.long x0)] (.long (0 : Int64))) (nw : wo ≠ wu) (np : u ≠ wo) : OMet l Z ws (⟨"com/example/meterwise/meterwise/model/WholeNumber", "add", "(Lcom/example/meterwise/meterwise/model/WholeNumber;Z)Lcom/example/meterwise/meterwise/model/WholeNumber;"⟩ : MethodName) prog_137_method_14_code 21 (some (.object "com/example/meterwise/meterwise/model/WholeNumber")) R18 #[(.ref o), (.ref u), (.int (1 : Int32))] h0 n0 (Q18 Z o wo ko u wu ku x0 h0) := by
  refine OMet.of (plainFor_of_name pn_0) (ef18 o u) Z0 ?_
  intro p e s m below meth c T0 Y0 hnm
  have Y0 : Sd Z "com/example/meterwise/meterwise/model/WholeNumber" prog_137_method_14_code 21 (some (.object "com/example/meterwise/meterwise/model/WholeNumber")) n0 p l e R18 s m #[(.ref o), (.ref u), (.int (1 : Int32))] below meth c T0 h0 0 0 := Y0
  refine Gl.aloadN Y0 rfl rfl d_prog_137_method_14_0 rfl ?_
  refine Gl.callV Y0 (tw_46 hw) (tw_47 hw) (tw_49 hw) (tw_49 hw) (tw_48 hw) (tw_2 hw) (tw_50 hw) (by decide) E_o (rm14 l Z a0 hw [] o wo ko h0 n0 Y0.sz E_o F_o V_o) (a := o) (argsL := []) (rest := []) rfl rfl (lenOf pd_4 rfl) rfl (by decide) (Nat.le_of_ble_eq_true rfl) (by decide) (by decide) d_prog_137_method_14_1 rfl (fun v1 T1 h1 Y1 q1 => ?_)
  obtain ⟨rfl, rfl⟩ := q1
  show Gl p e below _ (T1.setTop (mkF m 4 #[.val (.ref o), .val (.ref u), .val (.int (1 : Int32)), .unset, .unset, .unset, .unset, .unset, .unset, .unset, .unset, .unset, .unset, .unset, .unset, .unset, .unset, .unset, .unset, .unset, .unset] [(.int (0 : Int32))]))
  refine Gl.ifne Y1 d_prog_137_method_14_4 (by decide) rfl rfl (fun c4 => ?_) (fun c4 => ?_)
  · exact absurd c4 (by decide)
  refine Gl.aloadN Y1 rfl rfl d_prog_137_method_14_7 rfl ?_
  refine Gl.callV Y1 (tw_46 hw) (tw_47 hw) (tw_49 hw) (tw_49 hw) (tw_48 hw) (tw_2 hw) (tw_50 hw) (by decide) E_u (rm11 l Z a0 hw [] u wu ku x0 h0 n0 Y1.sz E_u F_u V_u) (a := u) (argsL := []) (rest := []) rfl rfl (lenOf pd_4 rfl) rfl (by decide) (Nat.le_of_ble_eq_true rfl) (by decide) (by decide) d_prog_137_method_14_8 rfl (fun v8 T8 h8 Y8 q8 => ?_)
  obtain ⟨r8, rfl, p8, rfl⟩ := q8
  have br8 : r8 = 0 ∨ r8 = 1 := by rcases p8 with q | q; exact Or.inr q.2; exact Or.inl q.2
  show Gl p e below _ (T8.setTop (mkF m 11 #[.val (.ref o), .val (.ref u), .val (.int (1 : Int32)), .unset, .unset, .unset, .unset, .unset, .unset, .unset, .unset, .unset, .unset, .unset, .unset, .unset, .unset, .unset, .unset, .unset, .unset] [(.int r8)]))
  refine Gl.ifeq Y8 d_prog_137_method_14_11 (by decide) rfl rfl (fun c11 => ?_) (fun c11 => ?_)
  · refine Gl.aloadN Y8 rfl rfl d_prog_137_method_14_19 rfl ?_
    refine Gl.getF Y8 (host := "") (Or.inl (tw_14 hw)) Via.refl F_u d_prog_137_method_14_20 rfl (fun T20 Y20 => ?_)
    refine Gl.astoreN Y20 rfl (L' := #[.val (.ref o), .val (.ref u), .val (.int (1 : Int32)), .val (.ref wu), .unset, .unset, .unset, .unset, .unset, .unset, .unset, .unset, .unset, .unset, .unset, .unset, .unset, .unset, .unset, .unset, .unset]) rfl d_prog_137_method_14_23 rfl ?_
    refine Gl.aloadN Y20 rfl rfl d_prog_137_method_14_24 rfl ?_
    refine Gl.getF Y20 (host := "") (Or.inl (tw_14 hw)) Via.refl F_o d_prog_137_method_14_25 rfl (fun T25 Y25 => ?_)
    refine Gl.arraylength Y25 V_o d_prog_137_method_14_28 rfl ?_
    refine Gl.aloadN Y25 rfl rfl d_prog_137_method_14_29 rfl ?_
    refine Gl.arraylength Y25 V_u d_prog_137_method_14_30 rfl ?_
    refine Gl.callS Y25 (tw_71 hw) (tw_72 hw) (tw_73 hw) (tw_74 hw) (by decide) (rm12 l Z a0 hw [] h0 n0 Y25.sz) (argsL := [(.int (1 : Int32)), (.int (1 : Int32))]) (rest := []) rfl rfl (lenOf pd_6 rfl) rfl (by decide) (Nat.le_of_ble_eq_true rfl) (by decide) (by decide) d_prog_137_method_14_31 rfl (fun v31 T31 h31 Y31 q31 => ?_)
    obtain ⟨rfl, rfl⟩ := q31
    show Gl p e below _ (T31.setTop (mkF m 34 #[.val (.ref o), .val (.ref u), .val (.int (1 : Int32)), .val (.ref wu), .unset, .unset, .unset, .unset, .unset, .unset, .unset, .unset, .unset, .unset, .unset, .unset, .unset, .unset, .unset, .unset, .unset] [(.int (1 : Int32))]))
    refine Gl.istore Y31 (L' := #[.val (.ref o), .val (.ref u), .val (.int (1 : Int32)), .val (.ref wu), .val (.int (1 : Int32)), .unset, .unset, .unset, .unset, .unset, .unset, .unset, .unset, .unset, .unset, .unset, .unset, .unset, .unset, .unset, .unset]) rfl d_prog_137_method_14_34 rfl ?_
    refine Gl.aloadN Y31 rfl rfl d_prog_137_method_14_36 rfl ?_
    refine Gl.callP Y31 (tw_51 hw) (tw_52 hw) (tw_53 hw) (tw_1 hw) (tw_2 hw) (tw_54 hw) (by decide) E_o (rm13 l Z a0 hw [] o wo ko h0 n0 Y31.sz E_o F_o V_o) (a := o) (argsL := []) (rest := []) rfl rfl (lenOf pd_3 rfl) rfl (by decide) (Nat.le_of_ble_eq_true rfl) (by decide) (by decide) d_prog_137_method_14_37 rfl (fun v37 T37 h37 Y37 q37 => ?_)
    obtain ⟨rfl, rfl⟩ := q37
    show Gl p e below _ (T37.setTop (mkF m 40 #[.val (.ref o), .val (.ref u), .val (.int (1 : Int32)), .val (.ref wu), .val (.int (1 : Int32)), .unset, .unset, .unset, .unset, .unset, .unset, .unset, .unset, .unset, .unset, .unset, .unset, .unset, .unset, .unset, .unset] [(.long (0 : Int64))]))
    refine Gl.bipush Y37 (v := (63 : Int32)) (by decide) d_prog_137_method_14_40 rfl ?_
    refine Gl.lshr Y37 (r := (0 : Int64)) (by decide) d_prog_137_method_14_42 rfl ?_
    refine Gl.lstore Y37 (L' := #[.val (.ref o), .val (.ref u), .val (.int (1 : Int32)), .val (.ref wu), .val (.int (1 : Int32)), .val (.long (0 : Int64)), .second, .unset, .unset, .unset, .unset, .unset, .unset, .unset, .unset, .unset, .unset, .unset, .unset, .unset, .unset]) rfl d_prog_137_method_14_43 rfl ?_
    refine Gl.aloadN Y37 rfl rfl d_prog_137_method_14_45 rfl ?_
    refine Gl.aloadN Y37 rfl rfl d_prog_137_method_14_46 rfl ?_
    refine Gl.arraylength Y37 V_u d_prog_137_method_14_47 rfl ?_
    refine Gl.iconst Y37 (v := (1 : Int32)) (by decide) d_prog_137_method_14_48 rfl ?_
    refine Gl.isub Y37 (r := (0 : Int32)) (by decide) d_prog_137_method_14_49 rfl ?_
    refine Gl.laload Y37 V_u ⟨by decide, by decide⟩ (v := (.long x0)) rfl d_prog_137_method_14_50 rfl ?_
    refine Gl.bipush Y37 (v := (63 : Int32)) (by decide) d_prog_137_method_14_51 rfl ?_
    obtain ⟨v53, hv53⟩ : ∃ z : Int64, (x0 >>> ((63 : Int32) &&& 0x3f).toInt64) = z := ⟨_, rfl⟩
    refine Gl.lshr Y37 hv53 d_prog_137_method_14_53 rfl ?_
    refine Gl.lstore Y37 (L' := #[.val (.ref o), .val (.ref u), .val (.int (1 : Int32)), .val (.ref wu), .val (.int (1 : Int32)), .val (.long (0 : Int64)), .second, .val (.long v53), .second, .unset, .unset, .unset, .unset, .unset, .unset, .unset, .unset, .unset, .unset, .unset, .unset]) rfl d_prog_137_method_14_54 rfl ?_
    refine Gl.iloadN Y37 rfl d_prog_137_method_14_56 rfl ?_
    refine Gl.ifeq Y37 d_prog_137_method_14_57 (by decide) rfl rfl (fun c57 => ?_) (fun c57 => ?_)
    · exact absurd c57 (by decide)
    refine Gl.ldcJ Y37 (tw_65 hw) d_prog_137_method_14_60 rfl ?_
    refine Gl.goto Y37 d_prog_137_method_14_63 (by decide) rfl ?_
    refine Gl.lstore Y37 (L' := #[.val (.ref o), .val (.ref u), .val (.int (1 : Int32)), .val (.ref wu), .val (.int (1 : Int32)), .val (.long (0 : Int64)), .second, .val (.long v53), .second, .val (.long (-1 : Int64)), .second, .unset, .unset, .unset, .unset, .unset, .unset, .unset, .unset, .unset, .unset]) rfl d_prog_137_method_14_67 rfl ?_
    refine Gl.iloadN Y37 rfl d_prog_137_method_14_69 rfl ?_
    refine Gl.ifeq Y37 d_prog_137_method_14_70 (by decide) rfl rfl (fun c70 => ?_) (fun c70 => ?_)
    · exact absurd c70 (by decide)
    refine Gl.lconst Y37 (v := (1 : Int64)) (by decide) d_prog_137_method_14_73 rfl ?_
    refine Gl.goto Y37 d_prog_137_method_14_74 (by decide) rfl ?_
    refine Gl.lstore Y37 (L' := #[.val (.ref o), .val (.ref u), .val (.int (1 : Int32)), .val (.ref wu), .val (.int (1 : Int32)), .val (.long (0 : Int64)), .second, .val (.long v53), .second, .val (.long (-1 : Int64)), .second, .val (.long (1 : Int64)), .second, .unset, .unset, .unset, .unset, .unset, .unset, .unset, .unset]) rfl d_prog_137_method_14_78 rfl ?_
    refine Gl.lconst Y37 (v := (0 : Int64)) (by decide) d_prog_137_method_14_80 rfl ?_
    refine Gl.lstore Y37 (L' := #[.val (.ref o), .val (.ref u), .val (.int (1 : Int32)), .val (.ref wu), .val (.int (1 : Int32)), .val (.long (0 : Int64)), .second, .val (.long v53), .second, .val (.long (-1 : Int64)), .second, .val (.long (1 : Int64)), .second, .val (.long (0 : Int64)), .second, .unset, .unset, .unset, .unset, .unset, .unset]) rfl d_prog_137_method_14_81 rfl ?_
    refine Gl.lconst Y37 (v := (0 : Int64)) (by decide) d_prog_137_method_14_83 rfl ?_
    refine Gl.lstore Y37 (L' := #[.val (.ref o), .val (.ref u), .val (.int (1 : Int32)), .val (.ref wu), .val (.int (1 : Int32)), .val (.long (0 : Int64)), .second, .val (.long v53), .second, .val (.long (-1 : Int64)), .second, .val (.long (1 : Int64)), .second, .val (.long (0 : Int64)), .second, .val (.long (0 : Int64)), .second, .unset, .unset, .unset, .unset]) rfl d_prog_137_method_14_84 rfl ?_
    refine Gl.lconst Y37 (v := (0 : Int64)) (by decide) d_prog_137_method_14_86 rfl ?_
    refine Gl.lstore Y37 (L' := #[.val (.ref o), .val (.ref u), .val (.int (1 : Int32)), .val (.ref wu), .val (.int (1 : Int32)), .val (.long (0 : Int64)), .second, .val (.long v53), .second, .val (.long (-1 : Int64)), .second, .val (.long (1 : Int64)), .second, .val (.long (0 : Int64)), .second, .val (.long (0 : Int64)), .second, .val (.long (0 : Int64)), .second, .unset, .unset]) rfl d_prog_137_method_14_87 rfl ?_
    refine Gl.iconst Y37 (v := (1 : Int32)) (by decide) d_prog_137_method_14_89 rfl ?_
    refine Gl.istore Y37 (L' := #[.val (.ref o), .val (.ref u), .val (.int (1 : Int32)), .val (.ref wu), .val (.int (1 : Int32)), .val (.long (0 : Int64)), .second, .val (.long v53), .second, .val (.long (-1 : Int64)), .second, .val (.long (1 : Int64)), .second, .val (.long (0 : Int64)), .second, .val (.long (0 : Int64)), .second, .val (.long (0 : Int64)), .second, .val (.int (1 : Int32)), .unset]) rfl d_prog_137_method_14_90 rfl ?_
    refine Gl.iconst Y37 (v := (0 : Int32)) (by decide) d_prog_137_method_14_92 rfl ?_
    refine Gl.istore Y37 (L' := #[.val (.ref o), .val (.ref u), .val (.int (1 : Int32)), .val (.ref wu), .val (.int (1 : Int32)), .val (.long (0 : Int64)), .second, .val (.long v53), .second, .val (.long (-1 : Int64)), .second, .val (.long (1 : Int64)), .second, .val (.long (0 : Int64)), .second, .val (.long (0 : Int64)), .second, .val (.long (0 : Int64)), .second, .val (.int (1 : Int32)), .val (.int (0 : Int32))]) rfl d_prog_137_method_14_93 rfl ?_
    refine Gl.iload Y37 rfl d_prog_137_method_14_95 rfl ?_
    refine Gl.iload Y37 rfl d_prog_137_method_14_97 rfl ?_
    refine Gl.icmpge Y37 d_prog_137_method_14_99 (by decide) rfl rfl (fun c99 => ?_) (fun c99 => ?_)
    · exact absurd c99 (by decide)
    refine Gl.iload Y37 rfl d_prog_137_method_14_102 rfl ?_
    refine Gl.aloadN Y37 rfl rfl d_prog_137_method_14_104 rfl ?_
    refine Gl.getF Y37 (host := "") (Or.inl (tw_14 hw)) Via.refl F_o d_prog_137_method_14_105 rfl (fun T105 Y105 => ?_)
    refine Gl.arraylength Y105 V_o d_prog_137_method_14_108 rfl ?_
    refine Gl.icmpge Y105 d_prog_137_method_14_109 (by decide) rfl rfl (fun c109 => ?_) (fun c109 => ?_)
    · exact absurd c109 (by decide)
    refine Gl.aloadN Y105 rfl rfl d_prog_137_method_14_112 rfl ?_
    refine Gl.getF Y105 (host := "") (Or.inl (tw_14 hw)) Via.refl F_o d_prog_137_method_14_113 rfl (fun T113 Y113 => ?_)
    refine Gl.iload Y113 rfl d_prog_137_method_14_116 rfl ?_
    refine Gl.laload Y113 V_o ⟨by decide, by decide⟩ (v := (.long (0 : Int64))) rfl d_prog_137_method_14_118 rfl ?_
    refine Gl.goto Y113 d_prog_137_method_14_119 (by decide) rfl ?_
    refine Gl.lstore Y113 (L' := #[.val (.ref o), .val (.ref u), .val (.int (1 : Int32)), .val (.ref wu), .val (.int (1 : Int32)), .val (.long (0 : Int64)), .second, .val (.long v53), .second, .val (.long (-1 : Int64)), .second, .val (.long (1 : Int64)), .second, .val (.long (0 : Int64)), .second, .val (.long (0 : Int64)), .second, .val (.long (0 : Int64)), .second, .val (.int (1 : Int32)), .val (.int (0 : Int32))]) rfl d_prog_137_method_14_124 rfl ?_
    refine Gl.iload Y113 rfl d_prog_137_method_14_126 rfl ?_
    refine Gl.aloadN Y113 rfl rfl d_prog_137_method_14_128 rfl ?_
    refine Gl.arraylength Y113 V_u d_prog_137_method_14_129 rfl ?_
    refine Gl.icmpge Y113 d_prog_137_method_14_130 (by decide) rfl rfl (fun c130 => ?_) (fun c130 => ?_)
    · exact absurd c130 (by decide)
    refine Gl.aloadN Y113 rfl rfl d_prog_137_method_14_133 rfl ?_
    refine Gl.iload Y113 rfl d_prog_137_method_14_134 rfl ?_
    refine Gl.laload Y113 V_u ⟨by decide, by decide⟩ (v := (.long x0)) rfl d_prog_137_method_14_136 rfl ?_
    refine Gl.goto Y113 d_prog_137_method_14_137 (by decide) rfl ?_
    refine Gl.lload Y113 rfl d_prog_137_method_14_142 rfl ?_
    obtain ⟨v144, hv144⟩ : ∃ z : Int64, x0 ^^^ (-1 : Int64) = z := ⟨_, rfl⟩
    refine Gl.lxor Y113 hv144 d_prog_137_method_14_144 rfl ?_
    refine Gl.lstore Y113 (L' := #[.val (.ref o), .val (.ref u), .val (.int (1 : Int32)), .val (.ref wu), .val (.int (1 : Int32)), .val (.long (0 : Int64)), .second, .val (.long v53), .second, .val (.long (-1 : Int64)), .second, .val (.long (1 : Int64)), .second, .val (.long (0 : Int64)), .second, .val (.long v144), .second, .val (.long (0 : Int64)), .second, .val (.int (1 : Int32)), .val (.int (0 : Int32))]) rfl d_prog_137_method_14_145 rfl ?_
    refine Gl.lload Y113 rfl d_prog_137_method_14_147 rfl ?_
    refine Gl.lload Y113 rfl d_prog_137_method_14_149 rfl ?_
    obtain ⟨v151, hv151⟩ : ∃ z : Int64, (0 : Int64) + v144 = z := ⟨_, rfl⟩
    refine Gl.ladd Y113 hv151 d_prog_137_method_14_151 rfl ?_
    refine Gl.lload Y113 rfl d_prog_137_method_14_152 rfl ?_
    obtain ⟨v154, hv154⟩ : ∃ z : Int64, v151 + (1 : Int64) = z := ⟨_, rfl⟩
    refine Gl.ladd Y113 hv154 d_prog_137_method_14_154 rfl ?_
    obtain rfl : v154 = (own_o x0 1) := own_sum v144 1 x0 hv144 hv151 hv154
    refine Gl.lstore Y113 (L' := #[.val (.ref o), .val (.ref u), .val (.int (1 : Int32)), .val (.ref wu), .val (.int (1 : Int32)), .val (.long (0 : Int64)), .second, .val (.long v53), .second, .val (.long (-1 : Int64)), .second, .val (.long (1 : Int64)), .second, .val (.long (0 : Int64)), .second, .val (.long v144), .second, .val (.long (own_o x0 1)), .second, .val (.int (1 : Int32)), .val (.int (0 : Int32))]) rfl d_prog_137_method_14_155 rfl ?_
    refine Gl.lload Y113 rfl d_prog_137_method_14_157 rfl ?_
    refine Gl.lload Y113 rfl d_prog_137_method_14_159 rfl ?_
    obtain ⟨v161, hv161⟩ : ∃ z : Int64, (0 : Int64) &&& v144 = z := ⟨_, rfl⟩
    refine Gl.land Y113 hv161 d_prog_137_method_14_161 rfl ?_
    refine Gl.lload Y113 rfl d_prog_137_method_14_162 rfl ?_
    refine Gl.lload Y113 rfl d_prog_137_method_14_164 rfl ?_
    obtain ⟨v166, hv166⟩ : ∃ z : Int64, (0 : Int64) ||| v144 = z := ⟨_, rfl⟩
    refine Gl.lor Y113 hv166 d_prog_137_method_14_166 rfl ?_
    refine Gl.lload Y113 rfl d_prog_137_method_14_167 rfl ?_
    refine Gl.ldcJ Y113 (tw_65 hw) d_prog_137_method_14_169 rfl ?_
    obtain ⟨v172, hv172⟩ : ∃ z : Int64, (own_o x0 1) ^^^ (-1 : Int64) = z := ⟨_, rfl⟩
    refine Gl.lxor Y113 hv172 d_prog_137_method_14_172 rfl ?_
    obtain ⟨v173, hv173⟩ : ∃ z : Int64, v166 &&& v172 = z := ⟨_, rfl⟩
    refine Gl.land Y113 hv173 d_prog_137_method_14_173 rfl ?_
    obtain ⟨v174, hv174⟩ : ∃ z : Int64, v161 ||| v173 = z := ⟨_, rfl⟩
    refine Gl.lor Y113 hv174 d_prog_137_method_14_174 rfl ?_
    refine Gl.bipush Y113 (v := (63 : Int32)) (by decide) d_prog_137_method_14_175 rfl ?_
    obtain ⟨v177, hv177⟩ : ∃ z : Int64, (v174.toUInt64 >>> ((63 : Int32) &&& 0x3f).toInt64.toUInt64).toInt64 = z := ⟨_, rfl⟩
    refine Gl.lushr Y113 hv177 d_prog_137_method_14_177 rfl ?_
    obtain rfl : v177 = (own_k x0 1) := by rw [← hv177, ← hv174, ← hv173, ← hv172, ← hv166, ← hv161, ← hv144]; exact own_carry x0 1 (Or.inr rfl)
    refine Gl.lstore Y113 (L' := #[.val (.ref o), .val (.ref u), .val (.int (1 : Int32)), .val (.ref wu), .val (.int (1 : Int32)), .val (.long (0 : Int64)), .second, .val (.long v53), .second, .val (.long (-1 : Int64)), .second, .val (.long (own_k x0 1)), .second, .val (.long (0 : Int64)), .second, .val (.long v144), .second, .val (.long (own_o x0 1)), .second, .val (.int (1 : Int32)), .val (.int (0 : Int32))]) rfl d_prog_137_method_14_178 rfl ?_
    refine Gl.iload Y113 rfl d_prog_137_method_14_180 rfl ?_
    refine Gl.aloadN Y113 rfl rfl d_prog_137_method_14_182 rfl ?_
    refine Gl.getF Y113 (host := "") (Or.inl (tw_14 hw)) Via.refl F_o d_prog_137_method_14_183 rfl (fun T183 Y183 => ?_)
    refine Gl.arraylength Y183 V_o d_prog_137_method_14_186 rfl ?_
    refine Gl.icmpge Y183 d_prog_137_method_14_187 (by decide) rfl rfl (fun c187 => ?_) (fun c187 => ?_)
    · exact absurd c187 (by decide)
    refine Gl.aloadN Y183 rfl rfl d_prog_137_method_14_190 rfl ?_
    refine Gl.getF Y183 (host := "") (Or.inl (tw_14 hw)) Via.refl F_o d_prog_137_method_14_191 rfl (fun T191 Y191 => ?_)
    refine Gl.iload Y191 rfl d_prog_137_method_14_194 rfl ?_
    refine Gl.lload Y191 rfl d_prog_137_method_14_196 rfl ?_
    refine Gl.lastore Y191 V_o (v := (.long (own_o x0 1))) rfl ⟨by decide, by decide⟩ (ix := 0) rfl (Nat.le_of_ble_eq_true rfl) g_o d_prog_137_method_14_198 rfl (fun T198 h198 Y198 W198 A198 => ?_)
    have A198 : Arv Z h198 wo ko .long (1 : Int32) [(.long (own_o x0 1))] (.long (0 : Int64)) := A198
    have K198 : Keep h0 h198 [wo] := (Keep.refl h0 [wo]).wr W198 (Or.inl (List.mem_of_getElem? (i := 0) rfl))
    show Gl p e below _ (T198.setTop (mkF m 199 #[.val (.ref o), .val (.ref u), .val (.int (1 : Int32)), .val (.ref wu), .val (.int (1 : Int32)), .val (.long (0 : Int64)), .second, .val (.long v53), .second, .val (.long (-1 : Int64)), .second, .val (.long (own_k x0 1)), .second, .val (.long (0 : Int64)), .second, .val (.long v144), .second, .val (.long (own_o x0 1)), .second, .val (.int (1 : Int32)), .val (.int (0 : Int32))] []))
    refine Gl.goto Y198 d_prog_137_method_14_199 (by decide) rfl ?_
    refine Gl.iinc Y198 rfl (r := (1 : Int32)) (by decide) (L' := #[.val (.ref o), .val (.ref u), .val (.int (1 : Int32)), .val (.ref wu), .val (.int (1 : Int32)), .val (.long (0 : Int64)), .second, .val (.long v53), .second, .val (.long (-1 : Int64)), .second, .val (.long (own_k x0 1)), .second, .val (.long (0 : Int64)), .second, .val (.long v144), .second, .val (.long (own_o x0 1)), .second, .val (.int (1 : Int32)), .val (.int (1 : Int32))]) rfl d_prog_137_method_14_225 rfl ?_
    refine Gl.goto Y198 d_prog_137_method_14_228 (by decide) rfl ?_
    refine Gl.iload Y198 rfl d_prog_137_method_14_95 rfl ?_
    refine Gl.iload Y198 rfl d_prog_137_method_14_97 rfl ?_
    refine Gl.icmpge Y198 d_prog_137_method_14_99 (by decide) rfl rfl (fun c99_2 => ?_) (fun c99_2 => ?_)
    rotate_left
    · exact absurd c99_2 (by decide)
    refine Gl.iload Y198 rfl d_prog_137_method_14_231 rfl ?_
    refine Gl.ifeq Y198 d_prog_137_method_14_233 (by decide) rfl rfl (fun c233 => ?_) (fun c233 => ?_)
    · exact absurd c233 (by decide)
    refine Gl.lload Y198 rfl d_prog_137_method_14_236 rfl ?_
    refine Gl.lload Y198 rfl d_prog_137_method_14_238 rfl ?_
    obtain ⟨v240, hv240⟩ : ∃ z : Int64, (0 : Int64) ^^^ (own_o x0 1) = z := ⟨_, rfl⟩
    refine Gl.lxor Y198 hv240 d_prog_137_method_14_240 rfl ?_
    refine Gl.lload Y198 rfl d_prog_137_method_14_241 rfl ?_
    refine Gl.lload Y198 rfl d_prog_137_method_14_243 rfl ?_
    obtain ⟨v245, hv245⟩ : ∃ z : Int64, v144 ^^^ (own_o x0 1) = z := ⟨_, rfl⟩
    refine Gl.lxor Y198 hv245 d_prog_137_method_14_245 rfl ?_
    obtain ⟨v246, hv246⟩ : ∃ z : Int64, v240 &&& v245 = z := ⟨_, rfl⟩
    refine Gl.land Y198 hv246 d_prog_137_method_14_246 rfl ?_
    refine Gl.lconst Y198 (v := (0 : Int64)) (by decide) d_prog_137_method_14_247 rfl ?_
    refine Gl.lcmplt Y198 d_prog_137_method_14_248 rfl d_prog_137_method_14_249 (by decide) rfl rfl (fun c249 => ?_) (fun c249 => ?_)
    · refine absurd c249 ?_
      rw [← hv246, ← hv245, ← hv240, ← hv144]
      refine own_fit x0 1 (Or.inr rfl) ?_
      intro z
      rcases p8 with w8 | w8
      · exact absurd (c11.symm.trans w8.2) (by decide)
      · exact w8.1 ⟨z.1, trivial⟩
    refine Gl.aloadN Y198 rfl rfl d_prog_137_method_14_252 rfl ?_
    refine Gl.goto Y198 d_prog_137_method_14_253 (by decide) rfl ?_
    exact Gl.retA Y198 (by decide) (by decide) rfl rfl d_prog_137_method_14_260 ⟨rfl, K198, A198⟩
  · refine Gl.aloadN Y8 rfl rfl d_prog_137_method_14_14 rfl ?_
    refine Gl.callV Y8 (tw_59 hw) (tw_29 hw) (tw_31 hw) (tw_31 hw) (tw_30 hw) (tw_2 hw) (tw_32 hw) (by decide) E_o (rm8 l Z a0 hw [] o wo ko (0 : Int64) h0 n0 Y8.sz E_o F_o V_o g_o nn_o) (a := o) (argsL := []) (rest := []) rfl rfl (lenOf pd_5 rfl) rfl (by decide) (Nat.le_of_ble_eq_true rfl) (by decide) (by decide) d_prog_137_method_14_15 rfl (fun v15 T15 h15 Y15 q15 => ?_)
    obtain ⟨rfl, K15, f15_0⟩ := q15
    have KK15 : Keep h0 h15 [wo] := (Keep.refl h0 [wo]).trans K15 (allS (Or.inl (List.mem_of_getElem? (i := 0) rfl)) all0)
    show Gl p e below _ (T15.setTop (mkF m 18 #[.val (.ref o), .val (.ref u), .val (.int (1 : Int32)), .unset, .unset, .unset, .unset, .unset, .unset, .unset, .unset, .unset, .unset, .unset, .unset, .unset, .unset, .unset, .unset, .unset, .unset] [(.ref o)]))
    rcases p8 with w8 | w8
    rotate_left
    · exact absurd w8.2 c11
    obtain ⟨rfl, -⟩ := w8.1
    have f1 : Arv Z h15 wo ko .long (1 : Int32) [(.long (own_o (-9223372036854775808 : Int64) 1))] (.long (0 : Int64)) := f15_0
    exact Gl.retA Y15 (by decide) (by decide) rfl rfl d_prog_137_method_14_18 ⟨rfl, KK15, f1⟩
theorem d_prog_137_method_13_0 : decode prog_137_method_13_code 0 = .ok (.aload_n 0, 1) := by decide +kernel
theorem d_prog_137_method_13_1 : decode prog_137_method_13_code 1 = .ok (.aload_n 1, 1) := by decide +kernel
theorem d_prog_137_method_13_2 : decode prog_137_method_13_code 2 = .ok (.iconst 1, 1) := by decide +kernel
theorem d_prog_137_method_13_3 : decode prog_137_method_13_code 3 = .ok (.invokevirtual 124, 3) := by decide +kernel
theorem d_prog_137_method_13_6 : decode prog_137_method_13_code 6 = .ok (.areturn, 1) := by decide +kernel
def R19 : Room := { frames := 3, cells := 0, slots := 0, locals := 60 }
def Q19 (Z : State) (o : Addr) (wo : Addr) (ko : ClassId) (u : Addr) (wu : Addr) (ku : ClassId) (x0 : Int64) (h0 : Heap) (v : Option Value) (h : Heap) : Prop := v = some (.ref o) ∧ Keep h0 h [wo] ∧ Arv Z h wo ko .long (1 : Int32) [(.long (own_o x0 1))] (.long (0 : Int64))
theorem ef19 (o : Addr) (u : Addr) (m : MethodId) : entryFrame m #[(.ref o), (.ref u)] 2 = mkF m 0 #[.val (.ref o), .val (.ref u)] [] := by first | (simp [entryFrame, mkF, argsToLocals, Value.category]; done) | rfl
set_option maxRecDepth 65536 in
set_option maxHeartbeats 40000000 in
theorem rm19 (l : Launch) (Z : State) (a0 : Array Value) (hw : ∀ d ∈ tables_1, d.before a0 Z = true) (ws : List Jvm.Cond) (o : Addr) (wo : Addr) (ko : ClassId) (u : Addr) (wu : Addr) (ku : ClassId) (x0 : Int64) (h0 : Heap) (n0 : Nat) (Z0 : n0 ≤ h0.size) (E_o : Exa Z h0 o "com/example/meterwise/meterwise/model/WholeNumber") (F_o : Fld Z h0 o "com/example/meterwise/meterwise/model/WholeNumber" "words" "[J" (.ref wo)) (V_o : Arv Z h0 wo ko .long (1 : Int32) [(.long (0 : Int64))] (.long (0 : Int64))) (g_o : n0 ≤ wo) (nn_o : o ≠ wo) (E_u : Exa Z h0 u "com/example/meterwise/meterwise/model/WholeNumber") (F_u : Fld Z h0 u "com/example/meterwise/meterwise/model/WholeNumber" "words" "[J" (.ref wu)) (V_u : Arv Z h0 wu ku .long (1 : Int32) [(.long x0)] (.long (0 : Int64))) (nw : wo ≠ wu) (np : u ≠ wo) : OMet l Z ws (⟨"com/example/meterwise/meterwise/model/WholeNumber", "subtract", "(Lcom/example/meterwise/meterwise/model/WholeNumber;)Lcom/example/meterwise/meterwise/model/WholeNumber;"⟩ : MethodName) prog_137_method_13_code 2 (some (.object "com/example/meterwise/meterwise/model/WholeNumber")) R19 #[(.ref o), (.ref u)] h0 n0 (Q19 Z o wo ko u wu ku x0 h0) := by
  refine OMet.of (plainFor_of_name pn_0) (ef19 o u) Z0 ?_
  intro p e s m below meth c T0 Y0 hnm
  have Y0 : Sd Z "com/example/meterwise/meterwise/model/WholeNumber" prog_137_method_13_code 2 (some (.object "com/example/meterwise/meterwise/model/WholeNumber")) n0 p l e R19 s m #[(.ref o), (.ref u)] below meth c T0 h0 0 0 := Y0
  refine Gl.aloadN Y0 rfl rfl d_prog_137_method_13_0 rfl ?_
  refine Gl.aloadN Y0 rfl rfl d_prog_137_method_13_1 rfl ?_
  refine Gl.iconst Y0 (v := (1 : Int32)) (by decide) d_prog_137_method_13_2 rfl ?_
  refine Gl.callP Y0 (tw_42 hw) (tw_43 hw) (tw_44 hw) (tw_1 hw) (tw_2 hw) (tw_45 hw) (by decide) E_o (rm18 l Z a0 hw [] o wo ko u wu ku x0 h0 n0 Y0.sz E_o F_o V_o g_o nn_o E_u F_u V_u nw np) (a := o) (argsL := [(.ref u), (.int (1 : Int32))]) (rest := []) rfl rfl (lenOf pd_7 rfl) rfl (by decide) (Nat.le_of_ble_eq_true rfl) (by decide) (by decide) d_prog_137_method_13_3 rfl (fun v3 T3 h3 Y3 q3 => ?_)
  obtain ⟨rfl, K3, f3_0⟩ := q3
  have KK3 : Keep h0 h3 [wo] := (Keep.refl h0 [wo]).trans K3 (allS (Or.inl (List.mem_of_getElem? (i := 0) rfl)) all0)
  show Gl p e below _ (T3.setTop (mkF m 6 #[.val (.ref o), .val (.ref u)] [(.ref o)]))
  exact Gl.retA Y3 (by decide) (by decide) rfl rfl d_prog_137_method_13_6 ⟨rfl, KK3, f3_0⟩
theorem d_prog_137_method_32_0 : decode prog_137_method_32_code 0 = .ok (.iload_n 1, 1) := by decide +kernel
theorem d_prog_137_method_32_1 : decode prog_137_method_32_code 1 = .ok (.aload_n 0, 1) := by decide +kernel
theorem d_prog_137_method_32_2 : decode prog_137_method_32_code 2 = .ok (.getfield 26, 3) := by decide +kernel
theorem d_prog_137_method_32_5 : decode prog_137_method_32_code 5 = .ok (.arraylength, 1) := by decide +kernel
theorem d_prog_137_method_32_6 : decode prog_137_method_32_code 6 = .ok (.if_icmp .ge 12, 3) := by decide +kernel
theorem d_prog_137_method_32_9 : decode prog_137_method_32_code 9 = .ok (.aload_n 0, 1) := by decide +kernel
theorem d_prog_137_method_32_10 : decode prog_137_method_32_code 10 = .ok (.getfield 26, 3) := by decide +kernel
theorem d_prog_137_method_32_13 : decode prog_137_method_32_code 13 = .ok (.iload_n 1, 1) := by decide +kernel
theorem d_prog_137_method_32_14 : decode prog_137_method_32_code 14 = .ok (.laload, 1) := by decide +kernel
theorem d_prog_137_method_32_15 : decode prog_137_method_32_code 15 = .ok (.goto 10, 3) := by decide +kernel
theorem d_prog_137_method_32_25 : decode prog_137_method_32_code 25 = .ok (.lreturn, 1) := by decide +kernel
def R20 : Room := { frames := 0, cells := 0, slots := 0, locals := 0 }
def Q20 (Z : State) (o : Addr) (wo : Addr) (ko : ClassId) (x0 : Int64) (h0 : Heap) (v : Option Value) (h : Heap) : Prop := v = some (.long x0) ∧ h0 = h
theorem ef20 (o : Addr) (m : MethodId) : entryFrame m #[(.ref o), (.int (0 : Int32))] 2 = mkF m 0 #[.val (.ref o), .val (.int (0 : Int32))] [] := by first | (simp [entryFrame, mkF, argsToLocals, Value.category]; done) | rfl
set_option maxRecDepth 65536 in
set_option maxHeartbeats 40000000 in
theorem rm20 (l : Launch) (Z : State) (a0 : Array Value) (hw : ∀ d ∈ tables_1, d.before a0 Z = true) (ws : List Jvm.Cond) (o : Addr) (wo : Addr) (ko : ClassId) (x0 : Int64) (h0 : Heap) (n0 : Nat) (Z0 : n0 ≤ h0.size) (E_o : Exa Z h0 o "com/example/meterwise/meterwise/model/WholeNumber") (F_o : Fld Z h0 o "com/example/meterwise/meterwise/model/WholeNumber" "words" "[J" (.ref wo)) (V_o : Arv Z h0 wo ko .long (1 : Int32) [(.long x0)] (.long (0 : Int64))) : OMet l Z ws (⟨"com/example/meterwise/meterwise/model/WholeNumber", "word", "(I)J"⟩ : MethodName) prog_137_method_32_code 2 (some .long) R20 #[(.ref o), (.int (0 : Int32))] h0 n0 (Q20 Z o wo ko x0 h0) := by
  refine OMet.of (plainFor_of_name pn_0) (ef20 o) Z0 ?_
  intro p e s m below meth c T0 Y0 hnm
  have Y0 : Sd Z "com/example/meterwise/meterwise/model/WholeNumber" prog_137_method_32_code 2 (some .long) n0 p l e R20 s m #[(.ref o), (.int (0 : Int32))] below meth c T0 h0 0 0 := Y0
  refine Gl.iloadN Y0 rfl d_prog_137_method_32_0 rfl ?_
  refine Gl.aloadN Y0 rfl rfl d_prog_137_method_32_1 rfl ?_
  refine Gl.getF Y0 (host := "") (Or.inl (tw_14 hw)) Via.refl F_o d_prog_137_method_32_2 rfl (fun T2 Y2 => ?_)
  refine Gl.arraylength Y2 V_o d_prog_137_method_32_5 rfl ?_
  refine Gl.icmpge Y2 d_prog_137_method_32_6 (by decide) rfl rfl (fun c6 => ?_) (fun c6 => ?_)
  · exact absurd c6 (by decide)
  refine Gl.aloadN Y2 rfl rfl d_prog_137_method_32_9 rfl ?_
  refine Gl.getF Y2 (host := "") (Or.inl (tw_14 hw)) Via.refl F_o d_prog_137_method_32_10 rfl (fun T10 Y10 => ?_)
  refine Gl.iloadN Y10 rfl d_prog_137_method_32_13 rfl ?_
  refine Gl.laload Y10 V_o ⟨by decide, by decide⟩ (v := (.long x0)) rfl d_prog_137_method_32_14 rfl ?_
  refine Gl.goto Y10 d_prog_137_method_32_15 (by decide) rfl ?_
  exact Gl.retJ Y10 (by decide) (by decide)  d_prog_137_method_32_25 ⟨rfl, rfl⟩
theorem d_prog_137_method_11_0 : decode prog_137_method_11_code 0 = .ok (.aload_n 0, 1) := by decide +kernel
theorem d_prog_137_method_11_1 : decode prog_137_method_11_code 1 = .ok (.getfield 26, 3) := by decide +kernel
theorem d_prog_137_method_11_4 : decode prog_137_method_11_code 4 = .ok (.arraylength, 1) := by decide +kernel
theorem d_prog_137_method_11_5 : decode prog_137_method_11_code 5 = .ok (.aload_n 1, 1) := by decide +kernel
theorem d_prog_137_method_11_6 : decode prog_137_method_11_code 6 = .ok (.getfield 26, 3) := by decide +kernel
theorem d_prog_137_method_11_9 : decode prog_137_method_11_code 9 = .ok (.arraylength, 1) := by decide +kernel
theorem d_prog_137_method_11_10 : decode prog_137_method_11_code 10 = .ok (.invokestatic 36, 3) := by decide +kernel
theorem d_prog_137_method_11_13 : decode prog_137_method_11_code 13 = .ok (.istore_n 2, 1) := by decide +kernel
theorem d_prog_137_method_11_14 : decode prog_137_method_11_code 14 = .ok (.iload_n 2, 1) := by decide +kernel
theorem d_prog_137_method_11_15 : decode prog_137_method_11_code 15 = .ok (.iconst 1, 1) := by decide +kernel
theorem d_prog_137_method_11_16 : decode prog_137_method_11_code 16 = .ok (.isub, 1) := by decide +kernel
theorem d_prog_137_method_11_17 : decode prog_137_method_11_code 17 = .ok (.istore_n 3, 1) := by decide +kernel
theorem d_prog_137_method_11_18 : decode prog_137_method_11_code 18 = .ok (.iload_n 3, 1) := by decide +kernel
theorem d_prog_137_method_11_19 : decode prog_137_method_11_code 19 = .ok (.ifCond .lt 56, 3) := by decide +kernel
theorem d_prog_137_method_11_22 : decode prog_137_method_11_code 22 = .ok (.aload_n 0, 1) := by decide +kernel
theorem d_prog_137_method_11_23 : decode prog_137_method_11_code 23 = .ok (.iload_n 3, 1) := by decide +kernel
theorem d_prog_137_method_11_24 : decode prog_137_method_11_code 24 = .ok (.invokevirtual 113, 3) := by decide +kernel
theorem tw_75 {a0 : Array Value} {Z : State} (hw : ∀ d ∈ tables_1, d.before a0 Z = true) : (Jvm.Cond.methodLink "com/example/meterwise/meterwise/model/WholeNumber" (113 : Nat) ({ cls := "com/example/meterwise/meterwise/model/WholeNumber", name := "word", desc := "(I)J" } : Jvm.MethodName)).before a0 Z = true := hw _ (List.mem_of_getElem? (i := 75) rfl)
theorem pd_8 : parseMethodDescriptor "(I)J" = some ⟨[.int], some .long⟩ := by decide +kernel
theorem tw_78 {a0 : Array Value} {Z : State} (hw : ∀ d ∈ tables_1, d.before a0 Z = true) : (Jvm.Cond.code ({ cls := "com/example/meterwise/meterwise/model/WholeNumber", name := "word", desc := "(I)J" } : Jvm.MethodName) prog_137_method_32_code (2 : Nat) (Option.some Jvm.ClassFile.FieldType.long)).before a0 Z = true := hw _ (List.mem_of_getElem? (i := 78) rfl)
theorem tw_76 {a0 : Array Value} {Z : State} (hw : ∀ d ∈ tables_1, d.before a0 Z = true) : (Jvm.Cond.instanceMethod ({ cls := "com/example/meterwise/meterwise/model/WholeNumber", name := "word", desc := "(I)J" } : Jvm.MethodName)).before a0 Z = true := hw _ (List.mem_of_getElem? (i := 76) rfl)
theorem tw_77 {a0 : Array Value} {Z : State} (hw : ∀ d ∈ tables_1, d.before a0 Z = true) : (Jvm.Cond.privateMethod ({ cls := "com/example/meterwise/meterwise/model/WholeNumber", name := "word", desc := "(I)J" } : Jvm.MethodName)).before a0 Z = true := hw _ (List.mem_of_getElem? (i := 77) rfl)
theorem d_prog_137_method_11_27 : decode prog_137_method_11_code 27 = .ok (.lstore 4, 2) := by decide +kernel
theorem d_prog_137_method_11_29 : decode prog_137_method_11_code 29 = .ok (.aload_n 1, 1) := by decide +kernel
theorem d_prog_137_method_11_30 : decode prog_137_method_11_code 30 = .ok (.iload_n 3, 1) := by decide +kernel
theorem d_prog_137_method_11_31 : decode prog_137_method_11_code 31 = .ok (.invokevirtual 113, 3) := by decide +kernel
theorem d_prog_137_method_11_34 : decode prog_137_method_11_code 34 = .ok (.lstore 6, 2) := by decide +kernel
theorem d_prog_137_method_11_36 : decode prog_137_method_11_code 36 = .ok (.lload 4, 2) := by decide +kernel
theorem d_prog_137_method_11_38 : decode prog_137_method_11_code 38 = .ok (.lload 6, 2) := by decide +kernel
theorem d_prog_137_method_11_40 : decode prog_137_method_11_code 40 = .ok (.lcmp, 1) := by decide +kernel
theorem d_prog_137_method_11_41 : decode prog_137_method_11_code 41 = .ok (.ifCond .eq 28, 3) := by decide +kernel
theorem d_prog_137_method_11_69 : decode prog_137_method_11_code 69 = .ok (.iinc 3 (-1), 3) := by decide +kernel
theorem d_prog_137_method_11_72 : decode prog_137_method_11_code 72 = .ok (.goto (-54), 3) := by decide +kernel
theorem d_prog_137_method_11_75 : decode prog_137_method_11_code 75 = .ok (.iconst 0, 1) := by decide +kernel
theorem d_prog_137_method_11_76 : decode prog_137_method_11_code 76 = .ok (.ireturn, 1) := by decide +kernel
def R21 : Room := { frames := 1, cells := 0, slots := 0, locals := 13 }
def Q21 (Z : State) (o : Addr) (wo : Addr) (ko : ClassId) (x0 : Int64) (u : Addr) (wu : Addr) (ku : ClassId) (h0 : Heap) (v : Option Value) (h : Heap) : Prop := v = some (.int (0 : Int32)) ∧ h0 = h
theorem ef21 (o : Addr) (u : Addr) (m : MethodId) : entryFrame m #[(.ref o), (.ref u)] 8 = mkF m 0 #[.val (.ref o), .val (.ref u), .unset, .unset, .unset, .unset, .unset, .unset] [] := by first | (simp [entryFrame, mkF, argsToLocals, Value.category]; done) | rfl
set_option maxRecDepth 65536 in
set_option maxHeartbeats 40000000 in
theorem rm21 (l : Launch) (Z : State) (a0 : Array Value) (hw : ∀ d ∈ tables_1, d.before a0 Z = true) (ws : List Jvm.Cond) (o : Addr) (wo : Addr) (ko : ClassId) (x0 : Int64) (u : Addr) (wu : Addr) (ku : ClassId) (h0 : Heap) (n0 : Nat) (Z0 : n0 ≤ h0.size) (E_o : Exa Z h0 o "com/example/meterwise/meterwise/model/WholeNumber") (F_o : Fld Z h0 o "com/example/meterwise/meterwise/model/WholeNumber" "words" "[J" (.ref wo)) (V_o : Arv Z h0 wo ko .long (1 : Int32) [(.long x0)] (.long (0 : Int64))) (E_u : Exa Z h0 u "com/example/meterwise/meterwise/model/WholeNumber") (F_u : Fld Z h0 u "com/example/meterwise/meterwise/model/WholeNumber" "words" "[J" (.ref wu)) (V_u : Arv Z h0 wu ku .long (1 : Int32) [(.long x0)] (.long (0 : Int64))) : OMet l Z ws (⟨"com/example/meterwise/meterwise/model/WholeNumber", "compareTo", "(Lcom/example/meterwise/meterwise/model/WholeNumber;)I"⟩ : MethodName) prog_137_method_11_code 8 (some .int) R21 #[(.ref o), (.ref u)] h0 n0 (Q21 Z o wo ko x0 u wu ku h0) := by
  refine OMet.of (plainFor_of_name pn_0) (ef21 o u) Z0 ?_
  intro p e s m below meth c T0 Y0 hnm
  have Y0 : Sd Z "com/example/meterwise/meterwise/model/WholeNumber" prog_137_method_11_code 8 (some .int) n0 p l e R21 s m #[(.ref o), (.ref u)] below meth c T0 h0 0 0 := Y0
  refine Gl.aloadN Y0 rfl rfl d_prog_137_method_11_0 rfl ?_
  refine Gl.getF Y0 (host := "") (Or.inl (tw_14 hw)) Via.refl F_o d_prog_137_method_11_1 rfl (fun T1 Y1 => ?_)
  refine Gl.arraylength Y1 V_o d_prog_137_method_11_4 rfl ?_
  refine Gl.aloadN Y1 rfl rfl d_prog_137_method_11_5 rfl ?_
  refine Gl.getF Y1 (host := "") (Or.inl (tw_14 hw)) Via.refl F_u d_prog_137_method_11_6 rfl (fun T6 Y6 => ?_)
  refine Gl.arraylength Y6 V_u d_prog_137_method_11_9 rfl ?_
  refine Gl.callS Y6 (tw_71 hw) (tw_72 hw) (tw_73 hw) (tw_74 hw) (by decide) (rm12 l Z a0 hw [] h0 n0 Y6.sz) (argsL := [(.int (1 : Int32)), (.int (1 : Int32))]) (rest := []) rfl rfl (lenOf pd_6 rfl) rfl (by decide) (Nat.le_of_ble_eq_true rfl) (by decide) (by decide) d_prog_137_method_11_10 rfl (fun v10 T10 h10 Y10 q10 => ?_)
  obtain ⟨rfl, rfl⟩ := q10
  show Gl p e below _ (T10.setTop (mkF m 13 #[.val (.ref o), .val (.ref u), .unset, .unset, .unset, .unset, .unset, .unset] [(.int (1 : Int32))]))
  refine Gl.istoreN Y10 (L' := #[.val (.ref o), .val (.ref u), .val (.int (1 : Int32)), .unset, .unset, .unset, .unset, .unset]) rfl d_prog_137_method_11_13 rfl ?_
  refine Gl.iloadN Y10 rfl d_prog_137_method_11_14 rfl ?_
  refine Gl.iconst Y10 (v := (1 : Int32)) (by decide) d_prog_137_method_11_15 rfl ?_
  refine Gl.isub Y10 (r := (0 : Int32)) (by decide) d_prog_137_method_11_16 rfl ?_
  refine Gl.istoreN Y10 (L' := #[.val (.ref o), .val (.ref u), .val (.int (1 : Int32)), .val (.int (0 : Int32)), .unset, .unset, .unset, .unset]) rfl d_prog_137_method_11_17 rfl ?_
  refine Gl.iloadN Y10 rfl d_prog_137_method_11_18 rfl ?_
  refine Gl.iflt Y10 d_prog_137_method_11_19 (by decide) rfl rfl (fun c19 => ?_) (fun c19 => ?_)
  · exact absurd c19 (by decide)
  refine Gl.aloadN Y10 rfl rfl d_prog_137_method_11_22 rfl ?_
  refine Gl.iloadN Y10 rfl d_prog_137_method_11_23 rfl ?_
  refine Gl.callP Y10 (tw_75 hw) (tw_76 hw) (tw_77 hw) (tw_1 hw) (tw_2 hw) (tw_78 hw) (by decide) E_o (rm20 l Z a0 hw [] o wo ko x0 h0 n0 Y10.sz E_o F_o V_o) (a := o) (argsL := [(.int (0 : Int32))]) (rest := []) rfl rfl (lenOf pd_8 rfl) rfl (by decide) (Nat.le_of_ble_eq_true rfl) (by decide) (by decide) d_prog_137_method_11_24 rfl (fun v24 T24 h24 Y24 q24 => ?_)
  obtain ⟨rfl, rfl⟩ := q24
  show Gl p e below _ (T24.setTop (mkF m 27 #[.val (.ref o), .val (.ref u), .val (.int (1 : Int32)), .val (.int (0 : Int32)), .unset, .unset, .unset, .unset] [(.long x0)]))
  refine Gl.lstore Y24 (L' := #[.val (.ref o), .val (.ref u), .val (.int (1 : Int32)), .val (.int (0 : Int32)), .val (.long x0), .second, .unset, .unset]) rfl d_prog_137_method_11_27 rfl ?_
  refine Gl.aloadN Y24 rfl rfl d_prog_137_method_11_29 rfl ?_
  refine Gl.iloadN Y24 rfl d_prog_137_method_11_30 rfl ?_
  refine Gl.callP Y24 (tw_75 hw) (tw_76 hw) (tw_77 hw) (tw_1 hw) (tw_2 hw) (tw_78 hw) (by decide) E_u (rm20 l Z a0 hw [] u wu ku x0 h0 n0 Y24.sz E_u F_u V_u) (a := u) (argsL := [(.int (0 : Int32))]) (rest := []) rfl rfl (lenOf pd_8 rfl) rfl (by decide) (Nat.le_of_ble_eq_true rfl) (by decide) (by decide) d_prog_137_method_11_31 rfl (fun v31 T31 h31 Y31 q31 => ?_)
  obtain ⟨rfl, rfl⟩ := q31
  show Gl p e below _ (T31.setTop (mkF m 34 #[.val (.ref o), .val (.ref u), .val (.int (1 : Int32)), .val (.int (0 : Int32)), .val (.long x0), .second, .unset, .unset] [(.long x0)]))
  refine Gl.lstore Y31 (L' := #[.val (.ref o), .val (.ref u), .val (.int (1 : Int32)), .val (.int (0 : Int32)), .val (.long x0), .second, .val (.long x0), .second]) rfl d_prog_137_method_11_34 rfl ?_
  refine Gl.lload Y31 rfl d_prog_137_method_11_36 rfl ?_
  refine Gl.lload Y31 rfl d_prog_137_method_11_38 rfl ?_
  refine Gl.lcmpeq Y31 d_prog_137_method_11_40 rfl d_prog_137_method_11_41 (by decide) rfl rfl (fun c41 => ?_) (fun c41 => ?_)
  rotate_left
  · exact absurd rfl c41
  refine Gl.iinc Y31 rfl (r := (-1 : Int32)) (by decide) (L' := #[.val (.ref o), .val (.ref u), .val (.int (1 : Int32)), .val (.int (-1 : Int32)), .val (.long x0), .second, .val (.long x0), .second]) rfl d_prog_137_method_11_69 rfl ?_
  refine Gl.goto Y31 d_prog_137_method_11_72 (by decide) rfl ?_
  refine Gl.iloadN Y31 rfl d_prog_137_method_11_18 rfl ?_
  refine Gl.iflt Y31 d_prog_137_method_11_19 (by decide) rfl rfl (fun c19_2 => ?_) (fun c19_2 => ?_)
  rotate_left
  · exact absurd c19_2 (by decide)
  refine Gl.iconst Y31 (v := (0 : Int32)) (by decide) d_prog_137_method_11_75 rfl ?_
  exact Gl.retI Y31 (by decide) (by decide)  d_prog_137_method_11_76 ⟨rfl, rfl⟩
def R22 : Room := { frames := 0, cells := 0, slots := 0, locals := 0 }
def Q22 (Z : State) (h0 : Heap) (v : Option Value) (h : Heap) : Prop := v = none ∧ h0 = h
theorem ef22 (m : MethodId) : entryFrame m #[(.int (2 : Int32)), (.int (1 : Int32)), (.int (2 : Int32))] 3 = mkF m 0 #[.val (.int (2 : Int32)), .val (.int (1 : Int32)), .val (.int (2 : Int32))] [] := by first | (simp [entryFrame, mkF, argsToLocals, Value.category]; done) | rfl
set_option maxRecDepth 65536 in
set_option maxHeartbeats 40000000 in
theorem rm22 (l : Launch) (Z : State) (a0 : Array Value) (hw : ∀ d ∈ tables_1, d.before a0 Z = true) (ws : List Jvm.Cond) (h0 : Heap) (n0 : Nat) (Z0 : n0 ≤ h0.size) : OMet l Z ws (⟨"java/util/Arrays", "rangeCheck", "(III)V"⟩ : MethodName) jdk_65_method_30_code 3 none R22 #[(.int (2 : Int32)), (.int (1 : Int32)), (.int (2 : Int32))] h0 n0 (Q22 Z h0) := by
  refine OMet.of (plainFor_of_name pn_1) (ef22) Z0 ?_
  intro p e s m below meth c T0 Y0 hnm
  have Y0 : Sd Z "java/util/Arrays" jdk_65_method_30_code 3 none n0 p l e R22 s m #[(.int (2 : Int32)), (.int (1 : Int32)), (.int (2 : Int32))] below meth c T0 h0 0 0 := Y0
  refine Gl.iloadN Y0 rfl d_jdk_65_method_30_0 rfl ?_
  refine Gl.iloadN Y0 rfl d_jdk_65_method_30_1 rfl ?_
  refine Gl.icmple Y0 d_jdk_65_method_30_2 (by decide) rfl rfl (fun c2 => ?_) (fun c2 => ?_)
  rotate_left
  · exact absurd c2 (by decide)
  refine Gl.iloadN Y0 rfl d_jdk_65_method_30_46 rfl ?_
  refine Gl.ifge Y0 d_jdk_65_method_30_47 (by decide) rfl rfl (fun c47 => ?_) (fun c47 => ?_)
  rotate_left
  · exact absurd c47 (by decide)
  refine Gl.iloadN Y0 rfl d_jdk_65_method_30_59 rfl ?_
  refine Gl.iloadN Y0 rfl d_jdk_65_method_30_60 rfl ?_
  refine Gl.icmple Y0 d_jdk_65_method_30_61 (by decide) rfl rfl (fun c61 => ?_) (fun c61 => ?_)
  rotate_left
  · exact absurd c61 (by decide)
  exact Gl.retV Y0 (by decide) (by decide)  d_jdk_65_method_30_73 ⟨rfl, rfl⟩
theorem d_jdk_65_method_102_16 : decode jdk_65_method_102_code 16 = .ok (.aload_n 0, 1) := by decide +kernel
theorem d_jdk_65_method_102_17 : decode jdk_65_method_102_code 17 = .ok (.iload 5, 2) := by decide +kernel
theorem d_jdk_65_method_102_19 : decode jdk_65_method_102_code 19 = .ok (.lload_n 3, 1) := by decide +kernel
theorem d_jdk_65_method_102_20 : decode jdk_65_method_102_code 20 = .ok (.lastore, 1) := by decide +kernel
theorem d_jdk_65_method_102_21 : decode jdk_65_method_102_code 21 = .ok (.iinc 5 1, 3) := by decide +kernel
theorem d_jdk_65_method_102_24 : decode jdk_65_method_102_code 24 = .ok (.goto (-14), 3) := by decide +kernel
def R23 : Room := { frames := 1, cells := 0, slots := 0, locals := 14 }
def Q23 (Z : State) (a : Addr) (ka : ClassId) (v1 : Int64) (x0 : Int64) (x1 : Int64) (h0 : Heap) (v : Option Value) (h : Heap) : Prop := v = none ∧ Keep h0 h [a] ∧ Arv Z h a ka .long (2 : Int32) [(.long x0), (.long v1)] (.long (0 : Int64))
theorem ef23 (a : Addr) (v1 : Int64) (m : MethodId) : entryFrame m #[(.ref a), (.int (1 : Int32)), (.int (2 : Int32)), (.long v1)] 6 = mkF m 0 #[.val (.ref a), .val (.int (1 : Int32)), .val (.int (2 : Int32)), .val (.long v1), .second, .unset] [] := by first | (simp [entryFrame, mkF, argsToLocals, Value.category]; done) | rfl
set_option maxRecDepth 65536 in
set_option maxHeartbeats 40000000 in
theorem rm23 (l : Launch) (Z : State) (a0 : Array Value) (hw : ∀ d ∈ tables_1, d.before a0 Z = true) (ws : List Jvm.Cond) (a : Addr) (ka : ClassId) (v1 : Int64) (x0 : Int64) (x1 : Int64) (h0 : Heap) (n0 : Nat) (Z0 : n0 ≤ h0.size) (V : Arv Z h0 a ka .long (2 : Int32) [(.long x0), (.long x1)] (.long (0 : Int64))) (ga : n0 ≤ a) : OMet l Z ws (⟨"java/util/Arrays", "fill", "([JIIJ)V"⟩ : MethodName) jdk_65_method_102_code 6 none R23 #[(.ref a), (.int (1 : Int32)), (.int (2 : Int32)), (.long v1)] h0 n0 (Q23 Z a ka v1 x0 x1 h0) := by
  refine OMet.of (plainFor_of_name pn_1) (ef23 a v1) Z0 ?_
  intro p e s m below meth c T0 Y0 hnm
  have Y0 : Sd Z "java/util/Arrays" jdk_65_method_102_code 6 none n0 p l e R23 s m #[(.ref a), (.int (1 : Int32)), (.int (2 : Int32)), (.long v1)] below meth c T0 h0 0 0 := Y0
  refine Gl.aloadN Y0 rfl rfl d_jdk_65_method_102_0 rfl ?_
  refine Gl.arraylength Y0 V d_jdk_65_method_102_1 rfl ?_
  refine Gl.iloadN Y0 rfl d_jdk_65_method_102_2 rfl ?_
  refine Gl.iloadN Y0 rfl d_jdk_65_method_102_3 rfl ?_
  refine Gl.callS Y0 (tw_25 hw) (tw_26 hw) (tw_23 hw) (tw_27 hw) (by decide) (rm22 l Z a0 hw [] h0 n0 Y0.sz) (argsL := [(.int (2 : Int32)), (.int (1 : Int32)), (.int (2 : Int32))]) (rest := []) rfl rfl (lenOf pd_0 rfl) rfl (by decide) (Nat.le_of_ble_eq_true rfl) (by decide) (by decide) d_jdk_65_method_102_4 rfl (fun v4 T4 h4 Y4 q4 => ?_)
  obtain ⟨rfl, rfl⟩ := q4
  show Gl p e below _ (T4.setTop (mkF m 7 #[.val (.ref a), .val (.int (1 : Int32)), .val (.int (2 : Int32)), .val (.long v1), .second, .unset] []))
  refine Gl.iloadN Y4 rfl d_jdk_65_method_102_7 rfl ?_
  refine Gl.istore Y4 (L' := #[.val (.ref a), .val (.int (1 : Int32)), .val (.int (2 : Int32)), .val (.long v1), .second, .val (.int (1 : Int32))]) rfl d_jdk_65_method_102_8 rfl ?_
  refine Gl.iload Y4 rfl d_jdk_65_method_102_10 rfl ?_
  refine Gl.iloadN Y4 rfl d_jdk_65_method_102_12 rfl ?_
  refine Gl.icmpge Y4 d_jdk_65_method_102_13 (by decide) rfl rfl (fun c13 => ?_) (fun c13 => ?_)
  · exact absurd c13 (by decide)
  refine Gl.aloadN Y4 rfl rfl d_jdk_65_method_102_16 rfl ?_
  refine Gl.iload Y4 rfl d_jdk_65_method_102_17 rfl ?_
  refine Gl.lloadN Y4 rfl d_jdk_65_method_102_19 rfl ?_
  refine Gl.lastore Y4 V (v := (.long v1)) rfl ⟨by decide, by decide⟩ (ix := 1) rfl (Nat.le_of_ble_eq_true rfl) ga d_jdk_65_method_102_20 rfl (fun T20 h20 Y20 W20 A20 => ?_)
  have A20 : Arv Z h20 a ka .long (2 : Int32) [(.long x0), (.long v1)] (.long (0 : Int64)) := A20
  have K20 : Keep h0 h20 [a] := (Keep.refl h0 [a]).wr W20 (Or.inl (List.mem_of_getElem? (i := 0) rfl))
  show Gl p e below _ (T20.setTop (mkF m 21 #[.val (.ref a), .val (.int (1 : Int32)), .val (.int (2 : Int32)), .val (.long v1), .second, .val (.int (1 : Int32))] []))
  refine Gl.iinc Y20 rfl (r := (2 : Int32)) (by decide) (L' := #[.val (.ref a), .val (.int (1 : Int32)), .val (.int (2 : Int32)), .val (.long v1), .second, .val (.int (2 : Int32))]) rfl d_jdk_65_method_102_21 rfl ?_
  refine Gl.goto Y20 d_jdk_65_method_102_24 (by decide) rfl ?_
  refine Gl.iload Y20 rfl d_jdk_65_method_102_10 rfl ?_
  refine Gl.iloadN Y20 rfl d_jdk_65_method_102_12 rfl ?_
  refine Gl.icmpge Y20 d_jdk_65_method_102_13 (by decide) rfl rfl (fun c13_2 => ?_) (fun c13_2 => ?_)
  rotate_left
  · exact absurd c13_2 (by decide)
  exact Gl.retV Y20 (by decide) (by decide)  d_jdk_65_method_102_27 ⟨rfl, K20, A20⟩
def R24 : Room := { frames := 0, cells := 0, slots := 0, locals := 0 }
def Q24 (Z : State) (a : Addr) (ka : ClassId) (x0 : Int64) (x1 : Int64) (h0 : Heap) (v : Option Value) (h : Heap) : Prop := v = none ∧ Keep h0 h [a] ∧ Arv Z h a ka .long (2 : Int32) [(.long (0 : Int64)), (.long (0 : Int64))] (.long (0 : Int64))
theorem ef24 (a : Addr) (m : MethodId) : entryFrame m #[(.ref a), (.long (0 : Int64))] 5 = mkF m 0 #[.val (.ref a), .val (.long (0 : Int64)), .second, .unset, .unset] [] := by first | (simp [entryFrame, mkF, argsToLocals, Value.category]; done) | rfl
set_option maxRecDepth 65536 in
set_option maxHeartbeats 40000000 in
theorem rm24 (l : Launch) (Z : State) (a0 : Array Value) (hw : ∀ d ∈ tables_1, d.before a0 Z = true) (ws : List Jvm.Cond) (a : Addr) (ka : ClassId) (x0 : Int64) (x1 : Int64) (h0 : Heap) (n0 : Nat) (Z0 : n0 ≤ h0.size) (V : Arv Z h0 a ka .long (2 : Int32) [(.long x0), (.long x1)] (.long (0 : Int64))) (ga : n0 ≤ a) : OMet l Z ws (⟨"java/util/Arrays", "fill", "([JJ)V"⟩ : MethodName) jdk_65_method_101_code 5 none R24 #[(.ref a), (.long (0 : Int64))] h0 n0 (Q24 Z a ka x0 x1 h0) := by
  refine OMet.of (plainFor_of_name pn_1) (ef24 a) Z0 ?_
  intro p e s m below meth c T0 Y0 hnm
  have Y0 : Sd Z "java/util/Arrays" jdk_65_method_101_code 5 none n0 p l e R24 s m #[(.ref a), (.long (0 : Int64))] below meth c T0 h0 0 0 := Y0
  refine Gl.iconst Y0 (v := (0 : Int32)) (by decide) d_jdk_65_method_101_0 rfl ?_
  refine Gl.istoreN Y0 (L' := #[.val (.ref a), .val (.long (0 : Int64)), .second, .val (.int (0 : Int32)), .unset]) rfl d_jdk_65_method_101_1 rfl ?_
  refine Gl.aloadN Y0 rfl rfl d_jdk_65_method_101_2 rfl ?_
  refine Gl.arraylength Y0 V d_jdk_65_method_101_3 rfl ?_
  refine Gl.istore Y0 (L' := #[.val (.ref a), .val (.long (0 : Int64)), .second, .val (.int (0 : Int32)), .val (.int (2 : Int32))]) rfl d_jdk_65_method_101_4 rfl ?_
  refine Gl.iloadN Y0 rfl d_jdk_65_method_101_6 rfl ?_
  refine Gl.iload Y0 rfl d_jdk_65_method_101_7 rfl ?_
  refine Gl.icmpge Y0 d_jdk_65_method_101_9 (by decide) rfl rfl (fun c9 => ?_) (fun c9 => ?_)
  · exact absurd c9 (by decide)
  refine Gl.aloadN Y0 rfl rfl d_jdk_65_method_101_12 rfl ?_
  refine Gl.iloadN Y0 rfl d_jdk_65_method_101_13 rfl ?_
  refine Gl.lloadN Y0 rfl d_jdk_65_method_101_14 rfl ?_
  refine Gl.lastore Y0 V (v := (.long (0 : Int64))) rfl ⟨by decide, by decide⟩ (ix := 0) rfl (Nat.le_of_ble_eq_true rfl) ga d_jdk_65_method_101_15 rfl (fun T15 h15 Y15 W15 A15 => ?_)
  have A15 : Arv Z h15 a ka .long (2 : Int32) [(.long (0 : Int64)), (.long x1)] (.long (0 : Int64)) := A15
  have K15 : Keep h0 h15 [a] := (Keep.refl h0 [a]).wr W15 (Or.inl (List.mem_of_getElem? (i := 0) rfl))
  show Gl p e below _ (T15.setTop (mkF m 16 #[.val (.ref a), .val (.long (0 : Int64)), .second, .val (.int (0 : Int32)), .val (.int (2 : Int32))] []))
  refine Gl.iinc Y15 rfl (r := (1 : Int32)) (by decide) (L' := #[.val (.ref a), .val (.long (0 : Int64)), .second, .val (.int (1 : Int32)), .val (.int (2 : Int32))]) rfl d_jdk_65_method_101_16 rfl ?_
  refine Gl.goto Y15 d_jdk_65_method_101_19 (by decide) rfl ?_
  refine Gl.iloadN Y15 rfl d_jdk_65_method_101_6 rfl ?_
  refine Gl.iload Y15 rfl d_jdk_65_method_101_7 rfl ?_
  refine Gl.icmpge Y15 d_jdk_65_method_101_9 (by decide) rfl rfl (fun c9_2 => ?_) (fun c9_2 => ?_)
  · exact absurd c9_2 (by decide)
  refine Gl.aloadN Y15 rfl rfl d_jdk_65_method_101_12 rfl ?_
  refine Gl.iloadN Y15 rfl d_jdk_65_method_101_13 rfl ?_
  refine Gl.lloadN Y15 rfl d_jdk_65_method_101_14 rfl ?_
  refine Gl.lastore Y15 A15 (v := (.long (0 : Int64))) rfl ⟨by decide, by decide⟩ (ix := 1) rfl (Nat.le_of_ble_eq_true rfl) ga d_jdk_65_method_101_15 rfl (fun T15_2 h15_2 Y15_2 W15_2 A15_2 => ?_)
  have A15_2 : Arv Z h15_2 a ka .long (2 : Int32) [(.long (0 : Int64)), (.long (0 : Int64))] (.long (0 : Int64)) := A15_2
  have K15_2 : Keep h0 h15_2 [a] := K15.wr W15_2 (Or.inl (List.mem_of_getElem? (i := 0) rfl))
  show Gl p e below _ (T15_2.setTop (mkF m 16 #[.val (.ref a), .val (.long (0 : Int64)), .second, .val (.int (1 : Int32)), .val (.int (2 : Int32))] []))
  refine Gl.iinc Y15_2 rfl (r := (2 : Int32)) (by decide) (L' := #[.val (.ref a), .val (.long (0 : Int64)), .second, .val (.int (2 : Int32)), .val (.int (2 : Int32))]) rfl d_jdk_65_method_101_16 rfl ?_
  refine Gl.goto Y15_2 d_jdk_65_method_101_19 (by decide) rfl ?_
  refine Gl.iloadN Y15_2 rfl d_jdk_65_method_101_6 rfl ?_
  refine Gl.iload Y15_2 rfl d_jdk_65_method_101_7 rfl ?_
  refine Gl.icmpge Y15_2 d_jdk_65_method_101_9 (by decide) rfl rfl (fun c9_3 => ?_) (fun c9_3 => ?_)
  rotate_left
  · exact absurd c9_3 (by decide)
  exact Gl.retV Y15_2 (by decide) (by decide)  d_jdk_65_method_101_22 ⟨rfl, K15_2, A15_2⟩
def R25 : Room := { frames := 0, cells := 0, slots := 0, locals := 0 }
def Q25 (Z : State) (o : Addr) (wo : Addr) (ko : ClassId) (x0 : Int64) (x1 : Int64) (h0 : Heap) (v : Option Value) (h : Heap) : Prop := v = some (.long x1) ∧ h0 = h
theorem ef25 (o : Addr) (m : MethodId) : entryFrame m #[(.ref o)] 1 = mkF m 0 #[.val (.ref o)] [] := by first | (simp [entryFrame, mkF, argsToLocals, Value.category]; done) | rfl
set_option maxRecDepth 65536 in
set_option maxHeartbeats 40000000 in
theorem rm25 (l : Launch) (Z : State) (a0 : Array Value) (hw : ∀ d ∈ tables_1, d.before a0 Z = true) (ws : List Jvm.Cond) (o : Addr) (wo : Addr) (ko : ClassId) (x0 : Int64) (x1 : Int64) (h0 : Heap) (n0 : Nat) (Z0 : n0 ≤ h0.size) (E_o : Exa Z h0 o "com/example/meterwise/meterwise/model/WholeNumber") (F_o : Fld Z h0 o "com/example/meterwise/meterwise/model/WholeNumber" "words" "[J" (.ref wo)) (V_o : Arv Z h0 wo ko .long (2 : Int32) [(.long x0), (.long x1)] (.long (0 : Int64))) : OMet l Z ws (⟨"com/example/meterwise/meterwise/model/WholeNumber", "top", "()J"⟩ : MethodName) prog_137_method_31_code 1 (some .long) R25 #[(.ref o)] h0 n0 (Q25 Z o wo ko x0 x1 h0) := by
  refine OMet.of (plainFor_of_name pn_0) (ef25 o) Z0 ?_
  intro p e s m below meth c T0 Y0 hnm
  have Y0 : Sd Z "com/example/meterwise/meterwise/model/WholeNumber" prog_137_method_31_code 1 (some .long) n0 p l e R25 s m #[(.ref o)] below meth c T0 h0 0 0 := Y0
  refine Gl.aloadN Y0 rfl rfl d_prog_137_method_31_0 rfl ?_
  refine Gl.getF Y0 (host := "") (Or.inl (tw_14 hw)) Via.refl F_o d_prog_137_method_31_1 rfl (fun T1 Y1 => ?_)
  refine Gl.aloadN Y1 rfl rfl d_prog_137_method_31_4 rfl ?_
  refine Gl.getF Y1 (host := "") (Or.inl (tw_14 hw)) Via.refl F_o d_prog_137_method_31_5 rfl (fun T5 Y5 => ?_)
  refine Gl.arraylength Y5 V_o d_prog_137_method_31_8 rfl ?_
  refine Gl.iconst Y5 (v := (1 : Int32)) (by decide) d_prog_137_method_31_9 rfl ?_
  refine Gl.isub Y5 (r := (1 : Int32)) (by decide) d_prog_137_method_31_10 rfl ?_
  refine Gl.laload Y5 V_o ⟨by decide, by decide⟩ (v := (.long x1)) rfl d_prog_137_method_31_11 rfl ?_
  exact Gl.retJ Y5 (by decide) (by decide)  d_prog_137_method_31_12 ⟨rfl, rfl⟩
def R26 : Room := { frames := 1, cells := 0, slots := 0, locals := 16 }
def Q26 (Z : State) (o : Addr) (wo : Addr) (ko : ClassId) (x0 : Int64) (x1 : Int64) (h0 : Heap) (v : Option Value) (h : Heap) : Prop := v = some (.ref o) ∧ Keep h0 h [wo] ∧ Arv Z h wo ko .long (2 : Int32) [(.long (0 : Int64)), (.long (-9223372036854775808 : Int64))] (.long (0 : Int64))
theorem ef26 (o : Addr) (m : MethodId) : entryFrame m #[(.ref o)] 1 = mkF m 0 #[.val (.ref o)] [] := by first | (simp [entryFrame, mkF, argsToLocals, Value.category]; done) | rfl
set_option maxRecDepth 65536 in
set_option maxHeartbeats 40000000 in
theorem rm26 (l : Launch) (Z : State) (a0 : Array Value) (hw : ∀ d ∈ tables_1, d.before a0 Z = true) (ws : List Jvm.Cond) (o : Addr) (wo : Addr) (ko : ClassId) (x0 : Int64) (x1 : Int64) (h0 : Heap) (n0 : Nat) (Z0 : n0 ≤ h0.size) (E_o : Exa Z h0 o "com/example/meterwise/meterwise/model/WholeNumber") (F_o : Fld Z h0 o "com/example/meterwise/meterwise/model/WholeNumber" "words" "[J" (.ref wo)) (V_o : Arv Z h0 wo ko .long (2 : Int32) [(.long x0), (.long x1)] (.long (0 : Int64))) (g_o : n0 ≤ wo) (nn_o : o ≠ wo) : OMet l Z ws (⟨"com/example/meterwise/meterwise/model/WholeNumber", "overflow", "()Lcom/example/meterwise/meterwise/model/WholeNumber;"⟩ : MethodName) prog_137_method_7_code 1 (some (.object "com/example/meterwise/meterwise/model/WholeNumber")) R26 #[(.ref o)] h0 n0 (Q26 Z o wo ko x0 x1 h0) := by
  refine OMet.of (plainFor_of_name pn_0) (ef26 o) Z0 ?_
  intro p e s m below meth c T0 Y0 hnm
  have Y0 : Sd Z "com/example/meterwise/meterwise/model/WholeNumber" prog_137_method_7_code 1 (some (.object "com/example/meterwise/meterwise/model/WholeNumber")) n0 p l e R26 s m #[(.ref o)] below meth c T0 h0 0 0 := Y0
  refine Gl.aloadN Y0 rfl rfl d_prog_137_method_7_0 rfl ?_
  refine Gl.getF Y0 (host := "") (Or.inl (tw_14 hw)) Via.refl F_o d_prog_137_method_7_1 rfl (fun T1 Y1 => ?_)
  refine Gl.lconst Y1 (v := (0 : Int64)) (by decide) d_prog_137_method_7_4 rfl ?_
  refine Gl.callS Y1 (tw_33 hw) (tw_34 hw) (tw_23 hw) (tw_35 hw) (by decide) (rm24 l Z a0 hw [] wo ko x0 x1 h0 n0 Y1.sz V_o g_o) (argsL := [(.ref wo), (.long (0 : Int64))]) (rest := []) rfl rfl (lenOf pd_1 rfl) rfl (by decide) (Nat.le_of_ble_eq_true rfl) (by decide) (by decide) d_prog_137_method_7_5 rfl (fun v5 T5 h5 Y5 q5 => ?_)
  obtain ⟨rfl, K5, f5_0⟩ := q5
  have KK5 : Keep h0 h5 [wo] := (Keep.refl h0 [wo]).trans K5 (allS (Or.inl (List.mem_of_getElem? (i := 0) rfl)) all0)
  show Gl p e below _ (T5.setTop (mkF m 8 #[.val (.ref o)] []))
  refine Gl.aloadN Y5 rfl rfl d_prog_137_method_7_8 rfl ?_
  have f1 : Fld Z h5 o "com/example/meterwise/meterwise/model/WholeNumber" "words" "[J" (.ref wo) := (F_o.keep K5 (ninS nn_o nin0))
  refine Gl.getF Y5 (host := "") (Or.inl (tw_14 hw)) Via.refl f1 d_prog_137_method_7_9 rfl (fun T9 Y9 => ?_)
  refine Gl.aloadN Y9 rfl rfl d_prog_137_method_7_12 rfl ?_
  refine Gl.getF Y9 (host := "") (Or.inl (tw_14 hw)) Via.refl f1 d_prog_137_method_7_13 rfl (fun T13 Y13 => ?_)
  refine Gl.arraylength Y13 f5_0 d_prog_137_method_7_16 rfl ?_
  refine Gl.iconst Y13 (v := (1 : Int32)) (by decide) d_prog_137_method_7_17 rfl ?_
  refine Gl.isub Y13 (r := (1 : Int32)) (by decide) d_prog_137_method_7_18 rfl ?_
  refine Gl.ldcJ Y13 (tw_36 hw) d_prog_137_method_7_19 rfl ?_
  refine Gl.lastore Y13 f5_0 (v := (.long (-9223372036854775808 : Int64))) rfl ⟨by decide, by decide⟩ (ix := 1) rfl (Nat.le_of_ble_eq_true rfl) g_o d_prog_137_method_7_22 rfl (fun T22 h22 Y22 W22 A22 => ?_)
  have A22 : Arv Z h22 wo ko .long (2 : Int32) [(.long (0 : Int64)), (.long (-9223372036854775808 : Int64))] (.long (0 : Int64)) := A22
  have K22 : Keep h0 h22 [wo] := KK5.wr W22 (Or.inl (List.mem_of_getElem? (i := 0) rfl))
  show Gl p e below _ (T22.setTop (mkF m 23 #[.val (.ref o)] []))
  refine Gl.aloadN Y22 rfl rfl d_prog_137_method_7_23 rfl ?_
  exact Gl.retA Y22 (by decide) (by decide) rfl rfl d_prog_137_method_7_24 ⟨rfl, K22, A22⟩
def R27 : Room := { frames := 2, cells := 0, slots := 0, locals := 31 }
def Q27 (Z : State) (o : Addr) (wo : Addr) (ko : ClassId) (x0 : Int64) (x1 : Int64) (v1 : Int64) (h0 : Heap) (v : Option Value) (h : Heap) : Prop := v = some (.ref o) ∧ Keep h0 h [wo] ∧ Arv Z h wo ko .long (2 : Int32) [(.long v1), (.long (v1 >>> ((63 : Int32) &&& 0x3f).toInt64))] (.long (0 : Int64))
theorem ef27 (o : Addr) (v1 : Int64) (m : MethodId) : entryFrame m #[(.ref o), (.long v1)] 3 = mkF m 0 #[.val (.ref o), .val (.long v1), .second] [] := by first | (simp [entryFrame, mkF, argsToLocals, Value.category]; done) | rfl
set_option maxRecDepth 65536 in
set_option maxHeartbeats 40000000 in
theorem rm27 (l : Launch) (Z : State) (a0 : Array Value) (hw : ∀ d ∈ tables_1, d.before a0 Z = true) (ws : List Jvm.Cond) (o : Addr) (wo : Addr) (ko : ClassId) (x0 : Int64) (x1 : Int64) (v1 : Int64) (h0 : Heap) (n0 : Nat) (Z0 : n0 ≤ h0.size) (E_o : Exa Z h0 o "com/example/meterwise/meterwise/model/WholeNumber") (F_o : Fld Z h0 o "com/example/meterwise/meterwise/model/WholeNumber" "words" "[J" (.ref wo)) (V_o : Arv Z h0 wo ko .long (2 : Int32) [(.long x0), (.long x1)] (.long (0 : Int64))) (g_o : n0 ≤ wo) (nn_o : o ≠ wo) : OMet l Z ws (⟨"com/example/meterwise/meterwise/model/WholeNumber", "set", "(J)Lcom/example/meterwise/meterwise/model/WholeNumber;"⟩ : MethodName) prog_137_method_4_code 3 (some (.object "com/example/meterwise/meterwise/model/WholeNumber")) R27 #[(.ref o), (.long v1)] h0 n0 (Q27 Z o wo ko x0 x1 v1 h0) := by
  refine OMet.of (plainFor_of_name pn_0) (ef27 o v1) Z0 ?_
  intro p e s m below meth c T0 Y0 hnm
  have Y0 : Sd Z "com/example/meterwise/meterwise/model/WholeNumber" prog_137_method_4_code 3 (some (.object "com/example/meterwise/meterwise/model/WholeNumber")) n0 p l e R27 s m #[(.ref o), (.long v1)] below meth c T0 h0 0 0 := Y0
  refine Gl.aloadN Y0 rfl rfl d_prog_137_method_4_0 rfl ?_
  refine Gl.getF Y0 (host := "") (Or.inl (tw_14 hw)) Via.refl F_o d_prog_137_method_4_1 rfl (fun T1 Y1 => ?_)
  refine Gl.iconst Y1 (v := (0 : Int32)) (by decide) d_prog_137_method_4_4 rfl ?_
  refine Gl.lloadN Y1 rfl d_prog_137_method_4_5 rfl ?_
  refine Gl.lastore Y1 V_o (v := (.long v1)) rfl ⟨by decide, by decide⟩ (ix := 0) rfl (Nat.le_of_ble_eq_true rfl) g_o d_prog_137_method_4_6 rfl (fun T6 h6 Y6 W6 A6 => ?_)
  have A6 : Arv Z h6 wo ko .long (2 : Int32) [(.long v1), (.long x1)] (.long (0 : Int64)) := A6
  have K6 : Keep h0 h6 [wo] := (Keep.refl h0 [wo]).wr W6 (Or.inl (List.mem_of_getElem? (i := 0) rfl))
  show Gl p e below _ (T6.setTop (mkF m 7 #[.val (.ref o), .val (.long v1), .second] []))
  refine Gl.aloadN Y6 rfl rfl d_prog_137_method_4_7 rfl ?_
  have f1 : Fld Z h6 o "com/example/meterwise/meterwise/model/WholeNumber" "words" "[J" (.ref wo) := (Fld.other W6 F_o (Or.inl nn_o))
  refine Gl.getF Y6 (host := "") (Or.inl (tw_14 hw)) Via.refl f1 d_prog_137_method_4_8 rfl (fun T8 Y8 => ?_)
  refine Gl.iconst Y8 (v := (1 : Int32)) (by decide) d_prog_137_method_4_11 rfl ?_
  refine Gl.aloadN Y8 rfl rfl d_prog_137_method_4_12 rfl ?_
  refine Gl.getF Y8 (host := "") (Or.inl (tw_14 hw)) Via.refl f1 d_prog_137_method_4_13 rfl (fun T13 Y13 => ?_)
  refine Gl.arraylength Y13 A6 d_prog_137_method_4_16 rfl ?_
  refine Gl.lloadN Y13 rfl d_prog_137_method_4_17 rfl ?_
  refine Gl.bipush Y13 (v := (63 : Int32)) (by decide) d_prog_137_method_4_18 rfl ?_
  refine Gl.lshr Y13 rfl d_prog_137_method_4_20 rfl ?_
  refine Gl.callS Y13 (tw_21 hw) (tw_22 hw) (tw_23 hw) (tw_24 hw) (by decide) (rm23 l Z a0 hw [] wo ko (v1 >>> ((63 : Int32) &&& 0x3f).toInt64) v1 x1 h6 n0 Y13.sz A6 g_o) (argsL := [(.ref wo), (.int (1 : Int32)), (.int (2 : Int32)), (.long (v1 >>> ((63 : Int32) &&& 0x3f).toInt64))]) (rest := []) rfl rfl (lenOf pd_2 rfl) rfl (by decide) (Nat.le_of_ble_eq_true rfl) (by decide) (by decide) d_prog_137_method_4_21 rfl (fun v21 T21 h21 Y21 q21 => ?_)
  obtain ⟨rfl, K21, f21_0⟩ := q21
  have KK21 : Keep h0 h21 [wo] := K6.trans K21 (allS (Or.inl (List.mem_of_getElem? (i := 0) rfl)) all0)
  show Gl p e below _ (T21.setTop (mkF m 24 #[.val (.ref o), .val (.long v1), .second] []))
  refine Gl.aloadN Y21 rfl rfl d_prog_137_method_4_24 rfl ?_
  exact Gl.retA Y21 (by decide) (by decide) rfl rfl d_prog_137_method_4_25 ⟨rfl, KK21, f21_0⟩
theorem d_prog_137_method_10_13 : decode prog_137_method_10_code 13 = .ok (.aload_n 0, 1) := by decide +kernel
theorem d_prog_137_method_10_14 : decode prog_137_method_10_code 14 = .ok (.getfield 26, 3) := by decide +kernel
theorem d_prog_137_method_10_17 : decode prog_137_method_10_code 17 = .ok (.iload_n 1, 1) := by decide +kernel
theorem d_prog_137_method_10_18 : decode prog_137_method_10_code 18 = .ok (.laload, 1) := by decide +kernel
theorem d_prog_137_method_10_19 : decode prog_137_method_10_code 19 = .ok (.lconst 0, 1) := by decide +kernel
theorem d_prog_137_method_10_20 : decode prog_137_method_10_code 20 = .ok (.lcmp, 1) := by decide +kernel
theorem d_prog_137_method_10_21 : decode prog_137_method_10_code 21 = .ok (.ifCond .eq 5, 3) := by decide +kernel
theorem d_prog_137_method_10_26 : decode prog_137_method_10_code 26 = .ok (.iinc 1 1, 3) := by decide +kernel
theorem d_prog_137_method_10_29 : decode prog_137_method_10_code 29 = .ok (.goto (-27), 3) := by decide +kernel
theorem d_prog_137_method_10_24 : decode prog_137_method_10_code 24 = .ok (.iconst 0, 1) := by decide +kernel
theorem d_prog_137_method_10_25 : decode prog_137_method_10_code 25 = .ok (.ireturn, 1) := by decide +kernel
def R28 : Room := { frames := 0, cells := 0, slots := 0, locals := 0 }
def Q28 (Z : State) (o : Addr) (wo : Addr) (ko : ClassId) (x0 : Int64) (x1 : Int64) (h0 : Heap) (v : Option Value) (h : Heap) : Prop := ∃ r : Int32, v = some (.int r) ∧ (((x0 = 0) ∧ r = 1) ∨ (¬ (x0 = 0) ∧ r = 0)) ∧ h0 = h
theorem ef28 (o : Addr) (m : MethodId) : entryFrame m #[(.ref o)] 2 = mkF m 0 #[.val (.ref o), .unset] [] := by first | (simp [entryFrame, mkF, argsToLocals, Value.category]; done) | rfl
set_option maxRecDepth 65536 in
set_option maxHeartbeats 40000000 in
theorem rm28 (l : Launch) (Z : State) (a0 : Array Value) (hw : ∀ d ∈ tables_1, d.before a0 Z = true) (ws : List Jvm.Cond) (o : Addr) (wo : Addr) (ko : ClassId) (x0 : Int64) (x1 : Int64) (h0 : Heap) (n0 : Nat) (Z0 : n0 ≤ h0.size) (E_o : Exa Z h0 o "com/example/meterwise/meterwise/model/WholeNumber") (F_o : Fld Z h0 o "com/example/meterwise/meterwise/model/WholeNumber" "words" "[J" (.ref wo)) (V_o : Arv Z h0 wo ko .long (2 : Int32) [(.long x0), (.long x1)] (.long (0 : Int64))) : OMet l Z ws (⟨"com/example/meterwise/meterwise/model/WholeNumber", "zeroBelowTop", "()Z"⟩ : MethodName) prog_137_method_10_code 2 (some .boolean) R28 #[(.ref o)] h0 n0 (Q28 Z o wo ko x0 x1 h0) := by
  refine OMet.of (plainFor_of_name pn_0) (ef28 o) Z0 ?_
  intro p e s m below meth c T0 Y0 hnm
  have Y0 : Sd Z "com/example/meterwise/meterwise/model/WholeNumber" prog_137_method_10_code 2 (some .boolean) n0 p l e R28 s m #[(.ref o)] below meth c T0 h0 0 0 := Y0
  refine Gl.iconst Y0 (v := (0 : Int32)) (by decide) d_prog_137_method_10_0 rfl ?_
  refine Gl.istoreN Y0 (L' := #[.val (.ref o), .val (.int (0 : Int32))]) rfl d_prog_137_method_10_1 rfl ?_
  refine Gl.iloadN Y0 rfl d_prog_137_method_10_2 rfl ?_
  refine Gl.aloadN Y0 rfl rfl d_prog_137_method_10_3 rfl ?_
  refine Gl.getF Y0 (host := "") (Or.inl (tw_14 hw)) Via.refl F_o d_prog_137_method_10_4 rfl (fun T4 Y4 => ?_)
  refine Gl.arraylength Y4 V_o d_prog_137_method_10_7 rfl ?_
  refine Gl.iconst Y4 (v := (1 : Int32)) (by decide) d_prog_137_method_10_8 rfl ?_
  refine Gl.isub Y4 (r := (1 : Int32)) (by decide) d_prog_137_method_10_9 rfl ?_
  refine Gl.icmpge Y4 d_prog_137_method_10_10 (by decide) rfl rfl (fun c10 => ?_) (fun c10 => ?_)
  · exact absurd c10 (by decide)
  refine Gl.aloadN Y4 rfl rfl d_prog_137_method_10_13 rfl ?_
  refine Gl.getF Y4 (host := "") (Or.inl (tw_14 hw)) Via.refl F_o d_prog_137_method_10_14 rfl (fun T14 Y14 => ?_)
  refine Gl.iloadN Y14 rfl d_prog_137_method_10_17 rfl ?_
  refine Gl.laload Y14 V_o ⟨by decide, by decide⟩ (v := (.long x0)) rfl d_prog_137_method_10_18 rfl ?_
  refine Gl.lconst Y14 (v := (0 : Int64)) (by decide) d_prog_137_method_10_19 rfl ?_
  refine Gl.lcmpeq Y14 d_prog_137_method_10_20 rfl d_prog_137_method_10_21 (by decide) rfl rfl (fun c21 => ?_) (fun c21 => ?_)
  · refine Gl.iinc Y14 rfl (r := (1 : Int32)) (by decide) (L' := #[.val (.ref o), .val (.int (1 : Int32))]) rfl d_prog_137_method_10_26 rfl ?_
    refine Gl.goto Y14 d_prog_137_method_10_29 (by decide) rfl ?_
    refine Gl.iloadN Y14 rfl d_prog_137_method_10_2 rfl ?_
    refine Gl.aloadN Y14 rfl rfl d_prog_137_method_10_3 rfl ?_
    refine Gl.getF Y14 (host := "") (Or.inl (tw_14 hw)) Via.refl F_o d_prog_137_method_10_4 rfl (fun T4_2 Y4_2 => ?_)
    refine Gl.arraylength Y4_2 V_o d_prog_137_method_10_7 rfl ?_
    refine Gl.iconst Y4_2 (v := (1 : Int32)) (by decide) d_prog_137_method_10_8 rfl ?_
    refine Gl.isub Y4_2 (r := (1 : Int32)) (by decide) d_prog_137_method_10_9 rfl ?_
    refine Gl.icmpge Y4_2 d_prog_137_method_10_10 (by decide) rfl rfl (fun c10_2 => ?_) (fun c10_2 => ?_)
    rotate_left
    · exact absurd c10_2 (by decide)
    refine Gl.iconst Y4_2 (v := (1 : Int32)) (by decide) d_prog_137_method_10_32 rfl ?_
    exact Gl.retZ Y4_2 (by decide) (by decide) (x' := (1 : Int32)) (by decide) d_prog_137_method_10_33 ⟨(1 : Int32), rfl, Or.inl ⟨c21, rfl⟩, rfl⟩
  · refine Gl.iconst Y14 (v := (0 : Int32)) (by decide) d_prog_137_method_10_24 rfl ?_
    exact Gl.retZ Y14 (by decide) (by decide) (x' := (0 : Int32)) (by decide) d_prog_137_method_10_25 ⟨(0 : Int32), rfl, Or.inr ⟨fun q => c21 q, rfl⟩, rfl⟩
def R29 : Room := { frames := 1, cells := 0, slots := 0, locals := 13 }
def Q29 (Z : State) (o : Addr) (wo : Addr) (ko : ClassId) (x0 : Int64) (x1 : Int64) (h0 : Heap) (v : Option Value) (h : Heap) : Prop := ∃ r : Int32, v = some (.int r) ∧ (((x1 = (-9223372036854775808) ∧ x0 = 0) ∧ r = 1) ∨ (¬ (x1 = (-9223372036854775808) ∧ x0 = 0) ∧ r = 0)) ∧ h0 = h
theorem ef29 (o : Addr) (m : MethodId) : entryFrame m #[(.ref o)] 1 = mkF m 0 #[.val (.ref o)] [] := by first | (simp [entryFrame, mkF, argsToLocals, Value.category]; done) | rfl
set_option maxRecDepth 65536 in
set_option maxHeartbeats 40000000 in
theorem rm29 (l : Launch) (Z : State) (a0 : Array Value) (hw : ∀ d ∈ tables_1, d.before a0 Z = true) (ws : List Jvm.Cond) (o : Addr) (wo : Addr) (ko : ClassId) (x0 : Int64) (x1 : Int64) (h0 : Heap) (n0 : Nat) (Z0 : n0 ≤ h0.size) (E_o : Exa Z h0 o "com/example/meterwise/meterwise/model/WholeNumber") (F_o : Fld Z h0 o "com/example/meterwise/meterwise/model/WholeNumber" "words" "[J" (.ref wo)) (V_o : Arv Z h0 wo ko .long (2 : Int32) [(.long x0), (.long x1)] (.long (0 : Int64))) : OMet l Z ws (⟨"com/example/meterwise/meterwise/model/WholeNumber", "overflowed", "()Z"⟩ : MethodName) prog_137_method_8_code 1 (some .boolean) R29 #[(.ref o)] h0 n0 (Q29 Z o wo ko x0 x1 h0) := by
  refine OMet.of (plainFor_of_name pn_0) (ef29 o) Z0 ?_
  intro p e s m below meth c T0 Y0 hnm
  have Y0 : Sd Z "com/example/meterwise/meterwise/model/WholeNumber" prog_137_method_8_code 1 (some .boolean) n0 p l e R29 s m #[(.ref o)] below meth c T0 h0 0 0 := Y0
  refine Gl.aloadN Y0 rfl rfl d_prog_137_method_8_0 rfl ?_
  refine Gl.callP Y0 (tw_51 hw) (tw_52 hw) (tw_53 hw) (tw_1 hw) (tw_2 hw) (tw_54 hw) (by decide) E_o (rm25 l Z a0 hw [] o wo ko x0 x1 h0 n0 Y0.sz E_o F_o V_o) (a := o) (argsL := []) (rest := []) rfl rfl (lenOf pd_3 rfl) rfl (by decide) (Nat.le_of_ble_eq_true rfl) (by decide) (by decide) d_prog_137_method_8_1 rfl (fun v1 T1 h1 Y1 q1 => ?_)
  obtain ⟨rfl, rfl⟩ := q1
  show Gl p e below _ (T1.setTop (mkF m 4 #[.val (.ref o)] [(.long x1)]))
  refine Gl.ldcJ Y1 (tw_36 hw) d_prog_137_method_8_4 rfl ?_
  refine Gl.lcmpne Y1 d_prog_137_method_8_7 rfl d_prog_137_method_8_8 (by decide) rfl rfl (fun c8 => ?_) (fun c8 => ?_)
  · refine Gl.iconst Y1 (v := (0 : Int32)) (by decide) d_prog_137_method_8_22 rfl ?_
    exact Gl.retZ Y1 (by decide) (by decide) (x' := (0 : Int32)) (by decide) d_prog_137_method_8_23 ⟨(0 : Int32), rfl, Or.inr ⟨fun q => c8 q.1, rfl⟩, rfl⟩
  · refine Gl.aloadN Y1 rfl rfl d_prog_137_method_8_11 rfl ?_
    refine Gl.callP Y1 (tw_55 hw) (tw_56 hw) (tw_57 hw) (tw_1 hw) (tw_2 hw) (tw_58 hw) (by decide) E_o (rm28 l Z a0 hw [] o wo ko x0 x1 h0 n0 Y1.sz E_o F_o V_o) (a := o) (argsL := []) (rest := []) rfl rfl (lenOf pd_4 rfl) rfl (by decide) (Nat.le_of_ble_eq_true rfl) (by decide) (by decide) d_prog_137_method_8_12 rfl (fun v12 T12 h12 Y12 q12 => ?_)
    obtain ⟨r12, rfl, p12, rfl⟩ := q12
    have br12 : r12 = 0 ∨ r12 = 1 := by rcases p12 with q | q; exact Or.inr q.2; exact Or.inl q.2
    show Gl p e below _ (T12.setTop (mkF m 15 #[.val (.ref o)] [(.int r12)]))
    refine Gl.ifeq Y12 d_prog_137_method_8_15 (by decide) rfl rfl (fun c15 => ?_) (fun c15 => ?_)
    · refine Gl.iconst Y12 (v := (0 : Int32)) (by decide) d_prog_137_method_8_22 rfl ?_
      exact Gl.retZ Y12 (by decide) (by decide) (x' := (0 : Int32)) (by decide) d_prog_137_method_8_23 ⟨(0 : Int32), rfl, Or.inr ⟨fun q => (by rcases p12 with z | z; exact absurd (c15.symm.trans z.2) (by decide); exact z.1 q.2), rfl⟩, rfl⟩
    · refine Gl.iconst Y12 (v := (1 : Int32)) (by decide) d_prog_137_method_8_18 rfl ?_
      refine Gl.goto Y12 d_prog_137_method_8_19 (by decide) rfl ?_
      exact Gl.retZ Y12 (by decide) (by decide) (x' := (1 : Int32)) (by decide) d_prog_137_method_8_23 ⟨(1 : Int32), rfl, Or.inl ⟨⟨c8, (by rcases p12 with z | z; exact z.1; exact absurd z.2 c15)⟩, rfl⟩, rfl⟩
def R30 : Room := { frames := 0, cells := 0, slots := 0, locals := 0 }
def Q30 (Z : State) (h0 : Heap) (v : Option Value) (h : Heap) : Prop := v = some (.int (2 : Int32)) ∧ h0 = h
theorem ef30 (m : MethodId) : entryFrame m #[(.int (2 : Int32)), (.int (2 : Int32))] 2 = mkF m 0 #[.val (.int (2 : Int32)), .val (.int (2 : Int32))] [] := by first | (simp [entryFrame, mkF, argsToLocals, Value.category]; done) | rfl
set_option maxRecDepth 65536 in
set_option maxHeartbeats 40000000 in
theorem rm30 (l : Launch) (Z : State) (a0 : Array Value) (hw : ∀ d ∈ tables_1, d.before a0 Z = true) (ws : List Jvm.Cond) (h0 : Heap) (n0 : Nat) (Z0 : n0 ≤ h0.size) : OMet l Z ws (⟨"java/lang/Math", "max", "(II)I"⟩ : MethodName) jdk_29_method_65_code 2 (some .int) R30 #[(.int (2 : Int32)), (.int (2 : Int32))] h0 n0 (Q30 Z h0) := by
  refine OMet.of (Jvm.Free.JP.mathPlain rfl (by decide +kernel)) (ef30) Z0 ?_
  intro p e s m below meth c T0 Y0 hnm
  have Y0 : Sd Z "java/lang/Math" jdk_29_method_65_code 2 (some .int) n0 p l e R30 s m #[(.int (2 : Int32)), (.int (2 : Int32))] below meth c T0 h0 0 0 := Y0
  refine Gl.iloadN Y0 rfl d_jdk_29_method_65_0 rfl ?_
  refine Gl.iloadN Y0 rfl d_jdk_29_method_65_1 rfl ?_
  refine Gl.icmplt Y0 d_jdk_29_method_65_2 (by decide) rfl rfl (fun c2 => ?_) (fun c2 => ?_)
  · exact absurd c2 (by decide)
  refine Gl.iloadN Y0 rfl d_jdk_29_method_65_5 rfl ?_
  refine Gl.goto Y0 d_jdk_29_method_65_6 (by decide) rfl ?_
  exact Gl.retI Y0 (by decide) (by decide)  d_jdk_29_method_65_10 ⟨rfl, rfl⟩
def R31 : Room := { frames := 0, cells := 0, slots := 0, locals := 0 }
def Q31 (Z : State) (o : Addr) (wo : Addr) (ko : ClassId) (h0 : Heap) (v : Option Value) (h : Heap) : Prop := v = some (.long (0 : Int64)) ∧ h0 = h
theorem ef31 (o : Addr) (m : MethodId) : entryFrame m #[(.ref o)] 1 = mkF m 0 #[.val (.ref o)] [] := by first | (simp [entryFrame, mkF, argsToLocals, Value.category]; done) | rfl
set_option maxRecDepth 65536 in
set_option maxHeartbeats 40000000 in
theorem rm31 (l : Launch) (Z : State) (a0 : Array Value) (hw : ∀ d ∈ tables_1, d.before a0 Z = true) (ws : List Jvm.Cond) (o : Addr) (wo : Addr) (ko : ClassId) (h0 : Heap) (n0 : Nat) (Z0 : n0 ≤ h0.size) (E_o : Exa Z h0 o "com/example/meterwise/meterwise/model/WholeNumber") (F_o : Fld Z h0 o "com/example/meterwise/meterwise/model/WholeNumber" "words" "[J" (.ref wo)) (V_o : Arv Z h0 wo ko .long (2 : Int32) [(.long (0 : Int64)), (.long (0 : Int64))] (.long (0 : Int64))) : OMet l Z ws (⟨"com/example/meterwise/meterwise/model/WholeNumber", "top", "()J"⟩ : MethodName) prog_137_method_31_code 1 (some .long) R31 #[(.ref o)] h0 n0 (Q31 Z o wo ko h0) := by
  refine OMet.of (plainFor_of_name pn_0) (ef31 o) Z0 ?_
  intro p e s m below meth c T0 Y0 hnm
  have Y0 : Sd Z "com/example/meterwise/meterwise/model/WholeNumber" prog_137_method_31_code 1 (some .long) n0 p l e R31 s m #[(.ref o)] below meth c T0 h0 0 0 := Y0
  refine Gl.aloadN Y0 rfl rfl d_prog_137_method_31_0 rfl ?_
  refine Gl.getF Y0 (host := "") (Or.inl (tw_14 hw)) Via.refl F_o d_prog_137_method_31_1 rfl (fun T1 Y1 => ?_)
  refine Gl.aloadN Y1 rfl rfl d_prog_137_method_31_4 rfl ?_
  refine Gl.getF Y1 (host := "") (Or.inl (tw_14 hw)) Via.refl F_o d_prog_137_method_31_5 rfl (fun T5 Y5 => ?_)
  refine Gl.arraylength Y5 V_o d_prog_137_method_31_8 rfl ?_
  refine Gl.iconst Y5 (v := (1 : Int32)) (by decide) d_prog_137_method_31_9 rfl ?_
  refine Gl.isub Y5 (r := (1 : Int32)) (by decide) d_prog_137_method_31_10 rfl ?_
  refine Gl.laload Y5 V_o ⟨by decide, by decide⟩ (v := (.long (0 : Int64))) rfl d_prog_137_method_31_11 rfl ?_
  exact Gl.retJ Y5 (by decide) (by decide)  d_prog_137_method_31_12 ⟨rfl, rfl⟩
def R32 : Room := { frames := 1, cells := 0, slots := 0, locals := 12 }
def Q32 (Z : State) (o : Addr) (wo : Addr) (ko : ClassId) (h0 : Heap) (v : Option Value) (h : Heap) : Prop := v = some (.int (0 : Int32)) ∧ h0 = h
theorem ef32 (o : Addr) (m : MethodId) : entryFrame m #[(.ref o)] 1 = mkF m 0 #[.val (.ref o)] [] := by first | (simp [entryFrame, mkF, argsToLocals, Value.category]; done) | rfl
set_option maxRecDepth 65536 in
set_option maxHeartbeats 40000000 in
theorem rm32 (l : Launch) (Z : State) (a0 : Array Value) (hw : ∀ d ∈ tables_1, d.before a0 Z = true) (ws : List Jvm.Cond) (o : Addr) (wo : Addr) (ko : ClassId) (h0 : Heap) (n0 : Nat) (Z0 : n0 ≤ h0.size) (E_o : Exa Z h0 o "com/example/meterwise/meterwise/model/WholeNumber") (F_o : Fld Z h0 o "com/example/meterwise/meterwise/model/WholeNumber" "words" "[J" (.ref wo)) (V_o : Arv Z h0 wo ko .long (2 : Int32) [(.long (0 : Int64)), (.long (0 : Int64))] (.long (0 : Int64))) : OMet l Z ws (⟨"com/example/meterwise/meterwise/model/WholeNumber", "overflowed", "()Z"⟩ : MethodName) prog_137_method_8_code 1 (some .boolean) R32 #[(.ref o)] h0 n0 (Q32 Z o wo ko h0) := by
  refine OMet.of (plainFor_of_name pn_0) (ef32 o) Z0 ?_
  intro p e s m below meth c T0 Y0 hnm
  have Y0 : Sd Z "com/example/meterwise/meterwise/model/WholeNumber" prog_137_method_8_code 1 (some .boolean) n0 p l e R32 s m #[(.ref o)] below meth c T0 h0 0 0 := Y0
  refine Gl.aloadN Y0 rfl rfl d_prog_137_method_8_0 rfl ?_
  refine Gl.callP Y0 (tw_51 hw) (tw_52 hw) (tw_53 hw) (tw_1 hw) (tw_2 hw) (tw_54 hw) (by decide) E_o (rm31 l Z a0 hw [] o wo ko h0 n0 Y0.sz E_o F_o V_o) (a := o) (argsL := []) (rest := []) rfl rfl (lenOf pd_3 rfl) rfl (by decide) (Nat.le_of_ble_eq_true rfl) (by decide) (by decide) d_prog_137_method_8_1 rfl (fun v1 T1 h1 Y1 q1 => ?_)
  obtain ⟨rfl, rfl⟩ := q1
  show Gl p e below _ (T1.setTop (mkF m 4 #[.val (.ref o)] [(.long (0 : Int64))]))
  refine Gl.ldcJ Y1 (tw_36 hw) d_prog_137_method_8_4 rfl ?_
  refine Gl.lcmpne Y1 d_prog_137_method_8_7 rfl d_prog_137_method_8_8 (by decide) rfl rfl (fun c8 => ?_) (fun c8 => ?_)
  rotate_left
  · exact absurd c8 (by decide)
  refine Gl.iconst Y1 (v := (0 : Int32)) (by decide) d_prog_137_method_8_22 rfl ?_
  exact Gl.retZ Y1 (by decide) (by decide) (x' := (0 : Int32)) (by decide) d_prog_137_method_8_23 ⟨rfl, rfl⟩
def R33 : Room := { frames := 2, cells := 0, slots := 0, locals := 28 }
def Q33 (Z : State) (o : Addr) (wo : Addr) (ko : ClassId) (x0 : Int64) (x1 : Int64) (u : Addr) (wu : Addr) (ku : ClassId) (y0 : Int64) (y1 : Int64) (h0 : Heap) (v : Option Value) (h : Heap) : Prop := ∃ e0 : Int64, ∃ e1 : Int64, v = some (.ref o) ∧ Keep h0 h [wo] ∧ Arv Z h wo ko .long (2 : Int32) [(.long e0), (.long e1)] (.long (0 : Int64))
theorem ef33 (o : Addr) (u : Addr) (m : MethodId) : entryFrame m #[(.ref o), (.ref u), (.int (0 : Int32))] 21 = mkF m 0 #[.val (.ref o), .val (.ref u), .val (.int (0 : Int32)), .unset, .unset, .unset, .unset, .unset, .unset, .unset, .unset, .unset, .unset, .unset, .unset, .unset, .unset, .unset, .unset, .unset, .unset] [] := by first | (simp [entryFrame, mkF, argsToLocals, Value.category]; done) | rfl
set_option maxRecDepth 65536 in
set_option maxHeartbeats 40000000 in
theorem rm33 (l : Launch) (Z : State) (a0 : Array Value) (hw : ∀ d ∈ tables_1, d.before a0 Z = true) (ws : List Jvm.Cond) (o : Addr) (wo : Addr) (ko : ClassId) (x0 : Int64) (x1 : Int64) (u : Addr) (wu : Addr) (ku : ClassId) (y0 : Int64) (y1 : Int64) (h0 : Heap) (n0 : Nat) (Z0 : n0 ≤ h0.size) (E_o : Exa Z h0 o "com/example/meterwise/meterwise/model/WholeNumber") (F_o : Fld Z h0 o "com/example/meterwise/meterwise/model/WholeNumber" "words" "[J" (.ref wo)) (V_o : Arv Z h0 wo ko .long (2 : Int32) [(.long x0), (.long x1)] (.long (0 : Int64))) (g_o : n0 ≤ wo) (nn_o : o ≠ wo) (E_u : Exa Z h0 u "com/example/meterwise/meterwise/model/WholeNumber") (F_u : Fld Z h0 u "com/example/meterwise/meterwise/model/WholeNumber" "words" "[J" (.ref wu)) (V_u : Arv Z h0 wu ku .long (2 : Int32) [(.long y0), (.long y1)] (.long (0 : Int64))) (nw : wo ≠ wu) (np : u ≠ wo) : OMet l Z ws (⟨"com/example/meterwise/meterwise/model/WholeNumber", "add", "(Lcom/example/meterwise/meterwise/model/WholeNumber;Z)Lcom/example/meterwise/meterwise/model/WholeNumber;"⟩ : MethodName) prog_137_method_14_code 21 (some (.object "com/example/meterwise/meterwise/model/WholeNumber")) R33 #[(.ref o), (.ref u), (.int (0 : Int32))] h0 n0 (Q33 Z o wo ko x0 x1 u wu ku y0 y1 h0) := by
  refine OMet.of (plainFor_of_name pn_0) (ef33 o u) Z0 ?_
  intro p e s m below meth c T0 Y0 hnm
  have Y0 : Sd Z "com/example/meterwise/meterwise/model/WholeNumber" prog_137_method_14_code 21 (some (.object "com/example/meterwise/meterwise/model/WholeNumber")) n0 p l e R33 s m #[(.ref o), (.ref u), (.int (0 : Int32))] below meth c T0 h0 0 0 := Y0
  refine Gl.aloadN Y0 rfl rfl d_prog_137_method_14_0 rfl ?_
  refine Gl.callV Y0 (tw_46 hw) (tw_47 hw) (tw_49 hw) (tw_49 hw) (tw_48 hw) (tw_2 hw) (tw_50 hw) (by decide) E_o (rm29 l Z a0 hw [] o wo ko x0 x1 h0 n0 Y0.sz E_o F_o V_o) (a := o) (argsL := []) (rest := []) rfl rfl (lenOf pd_4 rfl) rfl (by decide) (Nat.le_of_ble_eq_true rfl) (by decide) (by decide) d_prog_137_method_14_1 rfl (fun v1 T1 h1 Y1 q1 => ?_)
  obtain ⟨r1, rfl, p1, rfl⟩ := q1
  have br1 : r1 = 0 ∨ r1 = 1 := by rcases p1 with q | q; exact Or.inr q.2; exact Or.inl q.2
  show Gl p e below _ (T1.setTop (mkF m 4 #[.val (.ref o), .val (.ref u), .val (.int (0 : Int32)), .unset, .unset, .unset, .unset, .unset, .unset, .unset, .unset, .unset, .unset, .unset, .unset, .unset, .unset, .unset, .unset, .unset, .unset] [(.int r1)]))
  refine Gl.ifne Y1 d_prog_137_method_14_4 (by decide) rfl rfl (fun c4 => ?_) (fun c4 => ?_)
  · refine Gl.aloadN Y1 rfl rfl d_prog_137_method_14_14 rfl ?_
    refine Gl.callV Y1 (tw_59 hw) (tw_29 hw) (tw_31 hw) (tw_31 hw) (tw_30 hw) (tw_2 hw) (tw_32 hw) (by decide) E_o (rm26 l Z a0 hw [] o wo ko x0 x1 h0 n0 Y1.sz E_o F_o V_o g_o nn_o) (a := o) (argsL := []) (rest := []) rfl rfl (lenOf pd_5 rfl) rfl (by decide) (Nat.le_of_ble_eq_true rfl) (by decide) (by decide) d_prog_137_method_14_15 rfl (fun v15 T15 h15 Y15 q15 => ?_)
    obtain ⟨rfl, K15, f15_0⟩ := q15
    have KK15 : Keep h0 h15 [wo] := (Keep.refl h0 [wo]).trans K15 (allS (Or.inl (List.mem_of_getElem? (i := 0) rfl)) all0)
    show Gl p e below _ (T15.setTop (mkF m 18 #[.val (.ref o), .val (.ref u), .val (.int (0 : Int32)), .unset, .unset, .unset, .unset, .unset, .unset, .unset, .unset, .unset, .unset, .unset, .unset, .unset, .unset, .unset, .unset, .unset, .unset] [(.ref o)]))
    exact Gl.retA Y15 (by decide) (by decide) rfl rfl d_prog_137_method_14_18 ⟨(0 : Int64), (-9223372036854775808 : Int64), rfl, KK15, f15_0⟩
  · refine Gl.aloadN Y1 rfl rfl d_prog_137_method_14_7 rfl ?_
    refine Gl.callV Y1 (tw_46 hw) (tw_47 hw) (tw_49 hw) (tw_49 hw) (tw_48 hw) (tw_2 hw) (tw_50 hw) (by decide) E_u (rm29 l Z a0 hw [] u wu ku y0 y1 h0 n0 Y1.sz E_u F_u V_u) (a := u) (argsL := []) (rest := []) rfl rfl (lenOf pd_4 rfl) rfl (by decide) (Nat.le_of_ble_eq_true rfl) (by decide) (by decide) d_prog_137_method_14_8 rfl (fun v8 T8 h8 Y8 q8 => ?_)
    obtain ⟨r8, rfl, p8, rfl⟩ := q8
    have br8 : r8 = 0 ∨ r8 = 1 := by rcases p8 with q | q; exact Or.inr q.2; exact Or.inl q.2
    show Gl p e below _ (T8.setTop (mkF m 11 #[.val (.ref o), .val (.ref u), .val (.int (0 : Int32)), .unset, .unset, .unset, .unset, .unset, .unset, .unset, .unset, .unset, .unset, .unset, .unset, .unset, .unset, .unset, .unset, .unset, .unset] [(.int r8)]))
    refine Gl.ifeq Y8 d_prog_137_method_14_11 (by decide) rfl rfl (fun c11 => ?_) (fun c11 => ?_)
    · refine Gl.aloadN Y8 rfl rfl d_prog_137_method_14_19 rfl ?_
      refine Gl.getF Y8 (host := "") (Or.inl (tw_14 hw)) Via.refl F_u d_prog_137_method_14_20 rfl (fun T20 Y20 => ?_)
      refine Gl.astoreN Y20 rfl (L' := #[.val (.ref o), .val (.ref u), .val (.int (0 : Int32)), .val (.ref wu), .unset, .unset, .unset, .unset, .unset, .unset, .unset, .unset, .unset, .unset, .unset, .unset, .unset, .unset, .unset, .unset, .unset]) rfl d_prog_137_method_14_23 rfl ?_
      refine Gl.aloadN Y20 rfl rfl d_prog_137_method_14_24 rfl ?_
      refine Gl.getF Y20 (host := "") (Or.inl (tw_14 hw)) Via.refl F_o d_prog_137_method_14_25 rfl (fun T25 Y25 => ?_)
      refine Gl.arraylength Y25 V_o d_prog_137_method_14_28 rfl ?_
      refine Gl.aloadN Y25 rfl rfl d_prog_137_method_14_29 rfl ?_
      refine Gl.arraylength Y25 V_u d_prog_137_method_14_30 rfl ?_
      refine Gl.callS Y25 (tw_71 hw) (tw_72 hw) (tw_73 hw) (tw_74 hw) (by decide) (rm30 l Z a0 hw [] h0 n0 Y25.sz) (argsL := [(.int (2 : Int32)), (.int (2 : Int32))]) (rest := []) rfl rfl (lenOf pd_6 rfl) rfl (by decide) (Nat.le_of_ble_eq_true rfl) (by decide) (by decide) d_prog_137_method_14_31 rfl (fun v31 T31 h31 Y31 q31 => ?_)
      obtain ⟨rfl, rfl⟩ := q31
      show Gl p e below _ (T31.setTop (mkF m 34 #[.val (.ref o), .val (.ref u), .val (.int (0 : Int32)), .val (.ref wu), .unset, .unset, .unset, .unset, .unset, .unset, .unset, .unset, .unset, .unset, .unset, .unset, .unset, .unset, .unset, .unset, .unset] [(.int (2 : Int32))]))
      refine Gl.istore Y31 (L' := #[.val (.ref o), .val (.ref u), .val (.int (0 : Int32)), .val (.ref wu), .val (.int (2 : Int32)), .unset, .unset, .unset, .unset, .unset, .unset, .unset, .unset, .unset, .unset, .unset, .unset, .unset, .unset, .unset, .unset]) rfl d_prog_137_method_14_34 rfl ?_
      refine Gl.aloadN Y31 rfl rfl d_prog_137_method_14_36 rfl ?_
      refine Gl.callP Y31 (tw_51 hw) (tw_52 hw) (tw_53 hw) (tw_1 hw) (tw_2 hw) (tw_54 hw) (by decide) E_o (rm25 l Z a0 hw [] o wo ko x0 x1 h0 n0 Y31.sz E_o F_o V_o) (a := o) (argsL := []) (rest := []) rfl rfl (lenOf pd_3 rfl) rfl (by decide) (Nat.le_of_ble_eq_true rfl) (by decide) (by decide) d_prog_137_method_14_37 rfl (fun v37 T37 h37 Y37 q37 => ?_)
      obtain ⟨rfl, rfl⟩ := q37
      show Gl p e below _ (T37.setTop (mkF m 40 #[.val (.ref o), .val (.ref u), .val (.int (0 : Int32)), .val (.ref wu), .val (.int (2 : Int32)), .unset, .unset, .unset, .unset, .unset, .unset, .unset, .unset, .unset, .unset, .unset, .unset, .unset, .unset, .unset, .unset] [(.long x1)]))
      refine Gl.bipush Y37 (v := (63 : Int32)) (by decide) d_prog_137_method_14_40 rfl ?_
      obtain ⟨v42, hv42⟩ : ∃ z : Int64, (x1 >>> ((63 : Int32) &&& 0x3f).toInt64) = z := ⟨_, rfl⟩
      refine Gl.lshr Y37 hv42 d_prog_137_method_14_42 rfl ?_
      refine Gl.lstore Y37 (L' := #[.val (.ref o), .val (.ref u), .val (.int (0 : Int32)), .val (.ref wu), .val (.int (2 : Int32)), .val (.long v42), .second, .unset, .unset, .unset, .unset, .unset, .unset, .unset, .unset, .unset, .unset, .unset, .unset, .unset, .unset]) rfl d_prog_137_method_14_43 rfl ?_
      refine Gl.aloadN Y37 rfl rfl d_prog_137_method_14_45 rfl ?_
      refine Gl.aloadN Y37 rfl rfl d_prog_137_method_14_46 rfl ?_
      refine Gl.arraylength Y37 V_u d_prog_137_method_14_47 rfl ?_
      refine Gl.iconst Y37 (v := (1 : Int32)) (by decide) d_prog_137_method_14_48 rfl ?_
      refine Gl.isub Y37 (r := (1 : Int32)) (by decide) d_prog_137_method_14_49 rfl ?_
      refine Gl.laload Y37 V_u ⟨by decide, by decide⟩ (v := (.long y1)) rfl d_prog_137_method_14_50 rfl ?_
      refine Gl.bipush Y37 (v := (63 : Int32)) (by decide) d_prog_137_method_14_51 rfl ?_
      obtain ⟨v53, hv53⟩ : ∃ z : Int64, (y1 >>> ((63 : Int32) &&& 0x3f).toInt64) = z := ⟨_, rfl⟩
      refine Gl.lshr Y37 hv53 d_prog_137_method_14_53 rfl ?_
      refine Gl.lstore Y37 (L' := #[.val (.ref o), .val (.ref u), .val (.int (0 : Int32)), .val (.ref wu), .val (.int (2 : Int32)), .val (.long v42), .second, .val (.long v53), .second, .unset, .unset, .unset, .unset, .unset, .unset, .unset, .unset, .unset, .unset, .unset, .unset]) rfl d_prog_137_method_14_54 rfl ?_
      refine Gl.iloadN Y37 rfl d_prog_137_method_14_56 rfl ?_
      refine Gl.ifeq Y37 d_prog_137_method_14_57 (by decide) rfl rfl (fun c57 => ?_) (fun c57 => ?_)
      rotate_left
      · exact absurd c57 (by decide)
      refine Gl.lconst Y37 (v := (0 : Int64)) (by decide) d_prog_137_method_14_66 rfl ?_
      refine Gl.lstore Y37 (L' := #[.val (.ref o), .val (.ref u), .val (.int (0 : Int32)), .val (.ref wu), .val (.int (2 : Int32)), .val (.long v42), .second, .val (.long v53), .second, .val (.long (0 : Int64)), .second, .unset, .unset, .unset, .unset, .unset, .unset, .unset, .unset, .unset, .unset]) rfl d_prog_137_method_14_67 rfl ?_
      refine Gl.iloadN Y37 rfl d_prog_137_method_14_69 rfl ?_
      refine Gl.ifeq Y37 d_prog_137_method_14_70 (by decide) rfl rfl (fun c70 => ?_) (fun c70 => ?_)
      rotate_left
      · exact absurd c70 (by decide)
      refine Gl.lconst Y37 (v := (0 : Int64)) (by decide) d_prog_137_method_14_77 rfl ?_
      refine Gl.lstore Y37 (L' := #[.val (.ref o), .val (.ref u), .val (.int (0 : Int32)), .val (.ref wu), .val (.int (2 : Int32)), .val (.long v42), .second, .val (.long v53), .second, .val (.long (0 : Int64)), .second, .val (.long (0 : Int64)), .second, .unset, .unset, .unset, .unset, .unset, .unset, .unset, .unset]) rfl d_prog_137_method_14_78 rfl ?_
      refine Gl.lconst Y37 (v := (0 : Int64)) (by decide) d_prog_137_method_14_80 rfl ?_
      refine Gl.lstore Y37 (L' := #[.val (.ref o), .val (.ref u), .val (.int (0 : Int32)), .val (.ref wu), .val (.int (2 : Int32)), .val (.long v42), .second, .val (.long v53), .second, .val (.long (0 : Int64)), .second, .val (.long (0 : Int64)), .second, .val (.long (0 : Int64)), .second, .unset, .unset, .unset, .unset, .unset, .unset]) rfl d_prog_137_method_14_81 rfl ?_
      refine Gl.lconst Y37 (v := (0 : Int64)) (by decide) d_prog_137_method_14_83 rfl ?_
      refine Gl.lstore Y37 (L' := #[.val (.ref o), .val (.ref u), .val (.int (0 : Int32)), .val (.ref wu), .val (.int (2 : Int32)), .val (.long v42), .second, .val (.long v53), .second, .val (.long (0 : Int64)), .second, .val (.long (0 : Int64)), .second, .val (.long (0 : Int64)), .second, .val (.long (0 : Int64)), .second, .unset, .unset, .unset, .unset]) rfl d_prog_137_method_14_84 rfl ?_
      refine Gl.lconst Y37 (v := (0 : Int64)) (by decide) d_prog_137_method_14_86 rfl ?_
      refine Gl.lstore Y37 (L' := #[.val (.ref o), .val (.ref u), .val (.int (0 : Int32)), .val (.ref wu), .val (.int (2 : Int32)), .val (.long v42), .second, .val (.long v53), .second, .val (.long (0 : Int64)), .second, .val (.long (0 : Int64)), .second, .val (.long (0 : Int64)), .second, .val (.long (0 : Int64)), .second, .val (.long (0 : Int64)), .second, .unset, .unset]) rfl d_prog_137_method_14_87 rfl ?_
      refine Gl.iconst Y37 (v := (1 : Int32)) (by decide) d_prog_137_method_14_89 rfl ?_
      refine Gl.istore Y37 (L' := #[.val (.ref o), .val (.ref u), .val (.int (0 : Int32)), .val (.ref wu), .val (.int (2 : Int32)), .val (.long v42), .second, .val (.long v53), .second, .val (.long (0 : Int64)), .second, .val (.long (0 : Int64)), .second, .val (.long (0 : Int64)), .second, .val (.long (0 : Int64)), .second, .val (.long (0 : Int64)), .second, .val (.int (1 : Int32)), .unset]) rfl d_prog_137_method_14_90 rfl ?_
      refine Gl.iconst Y37 (v := (0 : Int32)) (by decide) d_prog_137_method_14_92 rfl ?_
      refine Gl.istore Y37 (L' := #[.val (.ref o), .val (.ref u), .val (.int (0 : Int32)), .val (.ref wu), .val (.int (2 : Int32)), .val (.long v42), .second, .val (.long v53), .second, .val (.long (0 : Int64)), .second, .val (.long (0 : Int64)), .second, .val (.long (0 : Int64)), .second, .val (.long (0 : Int64)), .second, .val (.long (0 : Int64)), .second, .val (.int (1 : Int32)), .val (.int (0 : Int32))]) rfl d_prog_137_method_14_93 rfl ?_
      refine Gl.iload Y37 rfl d_prog_137_method_14_95 rfl ?_
      refine Gl.iload Y37 rfl d_prog_137_method_14_97 rfl ?_
      refine Gl.icmpge Y37 d_prog_137_method_14_99 (by decide) rfl rfl (fun c99 => ?_) (fun c99 => ?_)
      · exact absurd c99 (by decide)
      refine Gl.iload Y37 rfl d_prog_137_method_14_102 rfl ?_
      refine Gl.aloadN Y37 rfl rfl d_prog_137_method_14_104 rfl ?_
      refine Gl.getF Y37 (host := "") (Or.inl (tw_14 hw)) Via.refl F_o d_prog_137_method_14_105 rfl (fun T105 Y105 => ?_)
      refine Gl.arraylength Y105 V_o d_prog_137_method_14_108 rfl ?_
      refine Gl.icmpge Y105 d_prog_137_method_14_109 (by decide) rfl rfl (fun c109 => ?_) (fun c109 => ?_)
      · exact absurd c109 (by decide)
      refine Gl.aloadN Y105 rfl rfl d_prog_137_method_14_112 rfl ?_
      refine Gl.getF Y105 (host := "") (Or.inl (tw_14 hw)) Via.refl F_o d_prog_137_method_14_113 rfl (fun T113 Y113 => ?_)
      refine Gl.iload Y113 rfl d_prog_137_method_14_116 rfl ?_
      refine Gl.laload Y113 V_o ⟨by decide, by decide⟩ (v := (.long x0)) rfl d_prog_137_method_14_118 rfl ?_
      refine Gl.goto Y113 d_prog_137_method_14_119 (by decide) rfl ?_
      refine Gl.lstore Y113 (L' := #[.val (.ref o), .val (.ref u), .val (.int (0 : Int32)), .val (.ref wu), .val (.int (2 : Int32)), .val (.long v42), .second, .val (.long v53), .second, .val (.long (0 : Int64)), .second, .val (.long (0 : Int64)), .second, .val (.long x0), .second, .val (.long (0 : Int64)), .second, .val (.long (0 : Int64)), .second, .val (.int (1 : Int32)), .val (.int (0 : Int32))]) rfl d_prog_137_method_14_124 rfl ?_
      refine Gl.iload Y113 rfl d_prog_137_method_14_126 rfl ?_
      refine Gl.aloadN Y113 rfl rfl d_prog_137_method_14_128 rfl ?_
      refine Gl.arraylength Y113 V_u d_prog_137_method_14_129 rfl ?_
      refine Gl.icmpge Y113 d_prog_137_method_14_130 (by decide) rfl rfl (fun c130 => ?_) (fun c130 => ?_)
      · exact absurd c130 (by decide)
      refine Gl.aloadN Y113 rfl rfl d_prog_137_method_14_133 rfl ?_
      refine Gl.iload Y113 rfl d_prog_137_method_14_134 rfl ?_
      refine Gl.laload Y113 V_u ⟨by decide, by decide⟩ (v := (.long y0)) rfl d_prog_137_method_14_136 rfl ?_
      refine Gl.goto Y113 d_prog_137_method_14_137 (by decide) rfl ?_
      refine Gl.lload Y113 rfl d_prog_137_method_14_142 rfl ?_
      obtain ⟨v144, hv144⟩ : ∃ z : Int64, y0 ^^^ (0 : Int64) = z := ⟨_, rfl⟩
      refine Gl.lxor Y113 hv144 d_prog_137_method_14_144 rfl ?_
      refine Gl.lstore Y113 (L' := #[.val (.ref o), .val (.ref u), .val (.int (0 : Int32)), .val (.ref wu), .val (.int (2 : Int32)), .val (.long v42), .second, .val (.long v53), .second, .val (.long (0 : Int64)), .second, .val (.long (0 : Int64)), .second, .val (.long x0), .second, .val (.long v144), .second, .val (.long (0 : Int64)), .second, .val (.int (1 : Int32)), .val (.int (0 : Int32))]) rfl d_prog_137_method_14_145 rfl ?_
      refine Gl.lload Y113 rfl d_prog_137_method_14_147 rfl ?_
      refine Gl.lload Y113 rfl d_prog_137_method_14_149 rfl ?_
      obtain ⟨v151, hv151⟩ : ∃ z : Int64, x0 + v144 = z := ⟨_, rfl⟩
      refine Gl.ladd Y113 hv151 d_prog_137_method_14_151 rfl ?_
      refine Gl.lload Y113 rfl d_prog_137_method_14_152 rfl ?_
      obtain ⟨v154, hv154⟩ : ∃ z : Int64, v151 + (0 : Int64) = z := ⟨_, rfl⟩
      refine Gl.ladd Y113 hv154 d_prog_137_method_14_154 rfl ?_
      refine Gl.lstore Y113 (L' := #[.val (.ref o), .val (.ref u), .val (.int (0 : Int32)), .val (.ref wu), .val (.int (2 : Int32)), .val (.long v42), .second, .val (.long v53), .second, .val (.long (0 : Int64)), .second, .val (.long (0 : Int64)), .second, .val (.long x0), .second, .val (.long v144), .second, .val (.long v154), .second, .val (.int (1 : Int32)), .val (.int (0 : Int32))]) rfl d_prog_137_method_14_155 rfl ?_
      refine Gl.lload Y113 rfl d_prog_137_method_14_157 rfl ?_
      refine Gl.lload Y113 rfl d_prog_137_method_14_159 rfl ?_
      obtain ⟨v161, hv161⟩ : ∃ z : Int64, x0 &&& v144 = z := ⟨_, rfl⟩
      refine Gl.land Y113 hv161 d_prog_137_method_14_161 rfl ?_
      refine Gl.lload Y113 rfl d_prog_137_method_14_162 rfl ?_
      refine Gl.lload Y113 rfl d_prog_137_method_14_164 rfl ?_
      obtain ⟨v166, hv166⟩ : ∃ z : Int64, x0 ||| v144 = z := ⟨_, rfl⟩
      refine Gl.lor Y113 hv166 d_prog_137_method_14_166 rfl ?_
      refine Gl.lload Y113 rfl d_prog_137_method_14_167 rfl ?_
      refine Gl.ldcJ Y113 (tw_65 hw) d_prog_137_method_14_169 rfl ?_
      obtain ⟨v172, hv172⟩ : ∃ z : Int64, v154 ^^^ (-1 : Int64) = z := ⟨_, rfl⟩
      refine Gl.lxor Y113 hv172 d_prog_137_method_14_172 rfl ?_
      obtain ⟨v173, hv173⟩ : ∃ z : Int64, v166 &&& v172 = z := ⟨_, rfl⟩
      refine Gl.land Y113 hv173 d_prog_137_method_14_173 rfl ?_
      obtain ⟨v174, hv174⟩ : ∃ z : Int64, v161 ||| v173 = z := ⟨_, rfl⟩
      refine Gl.lor Y113 hv174 d_prog_137_method_14_174 rfl ?_
      refine Gl.bipush Y113 (v := (63 : Int32)) (by decide) d_prog_137_method_14_175 rfl ?_
      obtain ⟨v177, hv177⟩ : ∃ z : Int64, (v174.toUInt64 >>> ((63 : Int32) &&& 0x3f).toInt64.toUInt64).toInt64 = z := ⟨_, rfl⟩
      refine Gl.lushr Y113 hv177 d_prog_137_method_14_177 rfl ?_
      refine Gl.lstore Y113 (L' := #[.val (.ref o), .val (.ref u), .val (.int (0 : Int32)), .val (.ref wu), .val (.int (2 : Int32)), .val (.long v42), .second, .val (.long v53), .second, .val (.long (0 : Int64)), .second, .val (.long v177), .second, .val (.long x0), .second, .val (.long v144), .second, .val (.long v154), .second, .val (.int (1 : Int32)), .val (.int (0 : Int32))]) rfl d_prog_137_method_14_178 rfl ?_
      refine Gl.iload Y113 rfl d_prog_137_method_14_180 rfl ?_
      refine Gl.aloadN Y113 rfl rfl d_prog_137_method_14_182 rfl ?_
      refine Gl.getF Y113 (host := "") (Or.inl (tw_14 hw)) Via.refl F_o d_prog_137_method_14_183 rfl (fun T183 Y183 => ?_)
      refine Gl.arraylength Y183 V_o d_prog_137_method_14_186 rfl ?_
      refine Gl.icmpge Y183 d_prog_137_method_14_187 (by decide) rfl rfl (fun c187 => ?_) (fun c187 => ?_)
      · exact absurd c187 (by decide)
      refine Gl.aloadN Y183 rfl rfl d_prog_137_method_14_190 rfl ?_
      refine Gl.getF Y183 (host := "") (Or.inl (tw_14 hw)) Via.refl F_o d_prog_137_method_14_191 rfl (fun T191 Y191 => ?_)
      refine Gl.iload Y191 rfl d_prog_137_method_14_194 rfl ?_
      refine Gl.lload Y191 rfl d_prog_137_method_14_196 rfl ?_
      refine Gl.lastore Y191 V_o (v := (.long v154)) rfl ⟨by decide, by decide⟩ (ix := 0) rfl (Nat.le_of_ble_eq_true rfl) g_o d_prog_137_method_14_198 rfl (fun T198 h198 Y198 W198 A198 => ?_)
      have A198 : Arv Z h198 wo ko .long (2 : Int32) [(.long v154), (.long x1)] (.long (0 : Int64)) := A198
      have K198 : Keep h0 h198 [wo] := (Keep.refl h0 [wo]).wr W198 (Or.inl (List.mem_of_getElem? (i := 0) rfl))
      show Gl p e below _ (T198.setTop (mkF m 199 #[.val (.ref o), .val (.ref u), .val (.int (0 : Int32)), .val (.ref wu), .val (.int (2 : Int32)), .val (.long v42), .second, .val (.long v53), .second, .val (.long (0 : Int64)), .second, .val (.long v177), .second, .val (.long x0), .second, .val (.long v144), .second, .val (.long v154), .second, .val (.int (1 : Int32)), .val (.int (0 : Int32))] []))
      refine Gl.goto Y198 d_prog_137_method_14_199 (by decide) rfl ?_
      refine Gl.iinc Y198 rfl (r := (1 : Int32)) (by decide) (L' := #[.val (.ref o), .val (.ref u), .val (.int (0 : Int32)), .val (.ref wu), .val (.int (2 : Int32)), .val (.long v42), .second, .val (.long v53), .second, .val (.long (0 : Int64)), .second, .val (.long v177), .second, .val (.long x0), .second, .val (.long v144), .second, .val (.long v154), .second, .val (.int (1 : Int32)), .val (.int (1 : Int32))]) rfl d_prog_137_method_14_225 rfl ?_
      refine Gl.goto Y198 d_prog_137_method_14_228 (by decide) rfl ?_
      refine Gl.iload Y198 rfl d_prog_137_method_14_95 rfl ?_
      refine Gl.iload Y198 rfl d_prog_137_method_14_97 rfl ?_
      refine Gl.icmpge Y198 d_prog_137_method_14_99 (by decide) rfl rfl (fun c99_2 => ?_) (fun c99_2 => ?_)
      · exact absurd c99_2 (by decide)
      refine Gl.iload Y198 rfl d_prog_137_method_14_102 rfl ?_
      refine Gl.aloadN Y198 rfl rfl d_prog_137_method_14_104 rfl ?_
      have f1 : Fld Z h198 o "com/example/meterwise/meterwise/model/WholeNumber" "words" "[J" (.ref wo) := (Fld.other W198 F_o (Or.inl nn_o))
      refine Gl.getF Y198 (host := "") (Or.inl (tw_14 hw)) Via.refl f1 d_prog_137_method_14_105 rfl (fun T105_2 Y105_2 => ?_)
      refine Gl.arraylength Y105_2 A198 d_prog_137_method_14_108 rfl ?_
      refine Gl.icmpge Y105_2 d_prog_137_method_14_109 (by decide) rfl rfl (fun c109_2 => ?_) (fun c109_2 => ?_)
      · exact absurd c109_2 (by decide)
      refine Gl.aloadN Y105_2 rfl rfl d_prog_137_method_14_112 rfl ?_
      refine Gl.getF Y105_2 (host := "") (Or.inl (tw_14 hw)) Via.refl f1 d_prog_137_method_14_113 rfl (fun T113_2 Y113_2 => ?_)
      refine Gl.iload Y113_2 rfl d_prog_137_method_14_116 rfl ?_
      refine Gl.laload Y113_2 A198 ⟨by decide, by decide⟩ (v := (.long x1)) rfl d_prog_137_method_14_118 rfl ?_
      refine Gl.goto Y113_2 d_prog_137_method_14_119 (by decide) rfl ?_
      refine Gl.lstore Y113_2 (L' := #[.val (.ref o), .val (.ref u), .val (.int (0 : Int32)), .val (.ref wu), .val (.int (2 : Int32)), .val (.long v42), .second, .val (.long v53), .second, .val (.long (0 : Int64)), .second, .val (.long v177), .second, .val (.long x1), .second, .val (.long v144), .second, .val (.long v154), .second, .val (.int (1 : Int32)), .val (.int (1 : Int32))]) rfl d_prog_137_method_14_124 rfl ?_
      refine Gl.iload Y113_2 rfl d_prog_137_method_14_126 rfl ?_
      refine Gl.aloadN Y113_2 rfl rfl d_prog_137_method_14_128 rfl ?_
      have f2 : Arv Z h198 wu ku .long (2 : Int32) [(.long y0), (.long y1)] (.long (0 : Int64)) := (V_u.other W198 (Ne.symm nw))
      refine Gl.arraylength Y113_2 f2 d_prog_137_method_14_129 rfl ?_
      refine Gl.icmpge Y113_2 d_prog_137_method_14_130 (by decide) rfl rfl (fun c130_2 => ?_) (fun c130_2 => ?_)
      · exact absurd c130_2 (by decide)
      refine Gl.aloadN Y113_2 rfl rfl d_prog_137_method_14_133 rfl ?_
      refine Gl.iload Y113_2 rfl d_prog_137_method_14_134 rfl ?_
      refine Gl.laload Y113_2 f2 ⟨by decide, by decide⟩ (v := (.long y1)) rfl d_prog_137_method_14_136 rfl ?_
      refine Gl.goto Y113_2 d_prog_137_method_14_137 (by decide) rfl ?_
      refine Gl.lload Y113_2 rfl d_prog_137_method_14_142 rfl ?_
      obtain ⟨v144_2, hv144_2⟩ : ∃ z : Int64, y1 ^^^ (0 : Int64) = z := ⟨_, rfl⟩
      refine Gl.lxor Y113_2 hv144_2 d_prog_137_method_14_144 rfl ?_
      refine Gl.lstore Y113_2 (L' := #[.val (.ref o), .val (.ref u), .val (.int (0 : Int32)), .val (.ref wu), .val (.int (2 : Int32)), .val (.long v42), .second, .val (.long v53), .second, .val (.long (0 : Int64)), .second, .val (.long v177), .second, .val (.long x1), .second, .val (.long v144_2), .second, .val (.long v154), .second, .val (.int (1 : Int32)), .val (.int (1 : Int32))]) rfl d_prog_137_method_14_145 rfl ?_
      refine Gl.lload Y113_2 rfl d_prog_137_method_14_147 rfl ?_
      refine Gl.lload Y113_2 rfl d_prog_137_method_14_149 rfl ?_
      obtain ⟨v151_2, hv151_2⟩ : ∃ z : Int64, x1 + v144_2 = z := ⟨_, rfl⟩
      refine Gl.ladd Y113_2 hv151_2 d_prog_137_method_14_151 rfl ?_
      refine Gl.lload Y113_2 rfl d_prog_137_method_14_152 rfl ?_
      obtain ⟨v154_2, hv154_2⟩ : ∃ z : Int64, v151_2 + v177 = z := ⟨_, rfl⟩
      refine Gl.ladd Y113_2 hv154_2 d_prog_137_method_14_154 rfl ?_
      refine Gl.lstore Y113_2 (L' := #[.val (.ref o), .val (.ref u), .val (.int (0 : Int32)), .val (.ref wu), .val (.int (2 : Int32)), .val (.long v42), .second, .val (.long v53), .second, .val (.long (0 : Int64)), .second, .val (.long v177), .second, .val (.long x1), .second, .val (.long v144_2), .second, .val (.long v154_2), .second, .val (.int (1 : Int32)), .val (.int (1 : Int32))]) rfl d_prog_137_method_14_155 rfl ?_
      refine Gl.lload Y113_2 rfl d_prog_137_method_14_157 rfl ?_
      refine Gl.lload Y113_2 rfl d_prog_137_method_14_159 rfl ?_
      obtain ⟨v161_2, hv161_2⟩ : ∃ z : Int64, x1 &&& v144_2 = z := ⟨_, rfl⟩
      refine Gl.land Y113_2 hv161_2 d_prog_137_method_14_161 rfl ?_
      refine Gl.lload Y113_2 rfl d_prog_137_method_14_162 rfl ?_
      refine Gl.lload Y113_2 rfl d_prog_137_method_14_164 rfl ?_
      obtain ⟨v166_2, hv166_2⟩ : ∃ z : Int64, x1 ||| v144_2 = z := ⟨_, rfl⟩
      refine Gl.lor Y113_2 hv166_2 d_prog_137_method_14_166 rfl ?_
      refine Gl.lload Y113_2 rfl d_prog_137_method_14_167 rfl ?_
      refine Gl.ldcJ Y113_2 (tw_65 hw) d_prog_137_method_14_169 rfl ?_
      obtain ⟨v172_2, hv172_2⟩ : ∃ z : Int64, v154_2 ^^^ (-1 : Int64) = z := ⟨_, rfl⟩
      refine Gl.lxor Y113_2 hv172_2 d_prog_137_method_14_172 rfl ?_
      obtain ⟨v173_2, hv173_2⟩ : ∃ z : Int64, v166_2 &&& v172_2 = z := ⟨_, rfl⟩
      refine Gl.land Y113_2 hv173_2 d_prog_137_method_14_173 rfl ?_
      obtain ⟨v174_2, hv174_2⟩ : ∃ z : Int64, v161_2 ||| v173_2 = z := ⟨_, rfl⟩
      refine Gl.lor Y113_2 hv174_2 d_prog_137_method_14_174 rfl ?_
      refine Gl.bipush Y113_2 (v := (63 : Int32)) (by decide) d_prog_137_method_14_175 rfl ?_
      obtain ⟨v177_2, hv177_2⟩ : ∃ z : Int64, (v174_2.toUInt64 >>> ((63 : Int32) &&& 0x3f).toInt64.toUInt64).toInt64 = z := ⟨_, rfl⟩
      refine Gl.lushr Y113_2 hv177_2 d_prog_137_method_14_177 rfl ?_
      refine Gl.lstore Y113_2 (L' := #[.val (.ref o), .val (.ref u), .val (.int (0 : Int32)), .val (.ref wu), .val (.int (2 : Int32)), .val (.long v42), .second, .val (.long v53), .second, .val (.long (0 : Int64)), .second, .val (.long v177_2), .second, .val (.long x1), .second, .val (.long v144_2), .second, .val (.long v154_2), .second, .val (.int (1 : Int32)), .val (.int (1 : Int32))]) rfl d_prog_137_method_14_178 rfl ?_
      refine Gl.iload Y113_2 rfl d_prog_137_method_14_180 rfl ?_
      refine Gl.aloadN Y113_2 rfl rfl d_prog_137_method_14_182 rfl ?_
      refine Gl.getF Y113_2 (host := "") (Or.inl (tw_14 hw)) Via.refl f1 d_prog_137_method_14_183 rfl (fun T183_2 Y183_2 => ?_)
      refine Gl.arraylength Y183_2 A198 d_prog_137_method_14_186 rfl ?_
      refine Gl.icmpge Y183_2 d_prog_137_method_14_187 (by decide) rfl rfl (fun c187_2 => ?_) (fun c187_2 => ?_)
      · exact absurd c187_2 (by decide)
      refine Gl.aloadN Y183_2 rfl rfl d_prog_137_method_14_190 rfl ?_
      refine Gl.getF Y183_2 (host := "") (Or.inl (tw_14 hw)) Via.refl f1 d_prog_137_method_14_191 rfl (fun T191_2 Y191_2 => ?_)
      refine Gl.iload Y191_2 rfl d_prog_137_method_14_194 rfl ?_
      refine Gl.lload Y191_2 rfl d_prog_137_method_14_196 rfl ?_
      refine Gl.lastore Y191_2 A198 (v := (.long v154_2)) rfl ⟨by decide, by decide⟩ (ix := 1) rfl (Nat.le_of_ble_eq_true rfl) g_o d_prog_137_method_14_198 rfl (fun T198_2 h198_2 Y198_2 W198_2 A198_2 => ?_)
      have A198_2 : Arv Z h198_2 wo ko .long (2 : Int32) [(.long v154), (.long v154_2)] (.long (0 : Int64)) := A198_2
      have K198_2 : Keep h0 h198_2 [wo] := K198.wr W198_2 (Or.inl (List.mem_of_getElem? (i := 0) rfl))
      show Gl p e below _ (T198_2.setTop (mkF m 199 #[.val (.ref o), .val (.ref u), .val (.int (0 : Int32)), .val (.ref wu), .val (.int (2 : Int32)), .val (.long v42), .second, .val (.long v53), .second, .val (.long (0 : Int64)), .second, .val (.long v177_2), .second, .val (.long x1), .second, .val (.long v144_2), .second, .val (.long v154_2), .second, .val (.int (1 : Int32)), .val (.int (1 : Int32))] []))
      refine Gl.goto Y198_2 d_prog_137_method_14_199 (by decide) rfl ?_
      refine Gl.iinc Y198_2 rfl (r := (2 : Int32)) (by decide) (L' := #[.val (.ref o), .val (.ref u), .val (.int (0 : Int32)), .val (.ref wu), .val (.int (2 : Int32)), .val (.long v42), .second, .val (.long v53), .second, .val (.long (0 : Int64)), .second, .val (.long v177_2), .second, .val (.long x1), .second, .val (.long v144_2), .second, .val (.long v154_2), .second, .val (.int (1 : Int32)), .val (.int (2 : Int32))]) rfl d_prog_137_method_14_225 rfl ?_
      refine Gl.goto Y198_2 d_prog_137_method_14_228 (by decide) rfl ?_
      refine Gl.iload Y198_2 rfl d_prog_137_method_14_95 rfl ?_
      refine Gl.iload Y198_2 rfl d_prog_137_method_14_97 rfl ?_
      refine Gl.icmpge Y198_2 d_prog_137_method_14_99 (by decide) rfl rfl (fun c99_3 => ?_) (fun c99_3 => ?_)
      rotate_left
      · exact absurd c99_3 (by decide)
      refine Gl.iload Y198_2 rfl d_prog_137_method_14_231 rfl ?_
      refine Gl.ifeq Y198_2 d_prog_137_method_14_233 (by decide) rfl rfl (fun c233 => ?_) (fun c233 => ?_)
      · exact absurd c233 (by decide)
      refine Gl.lload Y198_2 rfl d_prog_137_method_14_236 rfl ?_
      refine Gl.lload Y198_2 rfl d_prog_137_method_14_238 rfl ?_
      obtain ⟨v240, hv240⟩ : ∃ z : Int64, x1 ^^^ v154_2 = z := ⟨_, rfl⟩
      refine Gl.lxor Y198_2 hv240 d_prog_137_method_14_240 rfl ?_
      refine Gl.lload Y198_2 rfl d_prog_137_method_14_241 rfl ?_
      refine Gl.lload Y198_2 rfl d_prog_137_method_14_243 rfl ?_
      obtain ⟨v245, hv245⟩ : ∃ z : Int64, v144_2 ^^^ v154_2 = z := ⟨_, rfl⟩
      refine Gl.lxor Y198_2 hv245 d_prog_137_method_14_245 rfl ?_
      obtain ⟨v246, hv246⟩ : ∃ z : Int64, v240 &&& v245 = z := ⟨_, rfl⟩
      refine Gl.land Y198_2 hv246 d_prog_137_method_14_246 rfl ?_
      refine Gl.lconst Y198_2 (v := (0 : Int64)) (by decide) d_prog_137_method_14_247 rfl ?_
      refine Gl.lcmplt Y198_2 d_prog_137_method_14_248 rfl d_prog_137_method_14_249 (by decide) rfl rfl (fun c249 => ?_) (fun c249 => ?_)
      · refine Gl.aloadN Y198_2 rfl rfl d_prog_137_method_14_256 rfl ?_
        have f3 : Exa Z h198_2 o "com/example/meterwise/meterwise/model/WholeNumber" := (Exa.wr W198_2 (Exa.wr W198 E_o))
        have f4 : Fld Z h198_2 o "com/example/meterwise/meterwise/model/WholeNumber" "words" "[J" (.ref wo) := (Fld.other W198_2 f1 (Or.inl nn_o))
        refine Gl.callV Y198_2 (tw_59 hw) (tw_29 hw) (tw_31 hw) (tw_31 hw) (tw_30 hw) (tw_2 hw) (tw_32 hw) (by decide) f3 (rm26 l Z a0 hw [] o wo ko v154 v154_2 h198_2 n0 Y198_2.sz f3 f4 A198_2 g_o nn_o) (a := o) (argsL := []) (rest := []) rfl rfl (lenOf pd_5 rfl) rfl (by decide) (Nat.le_of_ble_eq_true rfl) (by decide) (by decide) d_prog_137_method_14_257 rfl (fun v257 T257 h257 Y257 q257 => ?_)
        obtain ⟨rfl, K257, f257_0⟩ := q257
        have KK257 : Keep h0 h257 [wo] := K198_2.trans K257 (allS (Or.inl (List.mem_of_getElem? (i := 0) rfl)) all0)
        show Gl p e below _ (T257.setTop (mkF m 260 #[.val (.ref o), .val (.ref u), .val (.int (0 : Int32)), .val (.ref wu), .val (.int (2 : Int32)), .val (.long v42), .second, .val (.long v53), .second, .val (.long (0 : Int64)), .second, .val (.long v177_2), .second, .val (.long x1), .second, .val (.long v144_2), .second, .val (.long v154_2), .second, .val (.int (1 : Int32)), .val (.int (2 : Int32))] [(.ref o)]))
        exact Gl.retA Y257 (by decide) (by decide) rfl rfl d_prog_137_method_14_260 ⟨(0 : Int64), (-9223372036854775808 : Int64), rfl, KK257, f257_0⟩
      · refine Gl.aloadN Y198_2 rfl rfl d_prog_137_method_14_252 rfl ?_
        refine Gl.goto Y198_2 d_prog_137_method_14_253 (by decide) rfl ?_
        exact Gl.retA Y198_2 (by decide) (by decide) rfl rfl d_prog_137_method_14_260 ⟨v154, v154_2, rfl, K198_2, A198_2⟩
    · refine Gl.aloadN Y8 rfl rfl d_prog_137_method_14_14 rfl ?_
      refine Gl.callV Y8 (tw_59 hw) (tw_29 hw) (tw_31 hw) (tw_31 hw) (tw_30 hw) (tw_2 hw) (tw_32 hw) (by decide) E_o (rm26 l Z a0 hw [] o wo ko x0 x1 h0 n0 Y8.sz E_o F_o V_o g_o nn_o) (a := o) (argsL := []) (rest := []) rfl rfl (lenOf pd_5 rfl) rfl (by decide) (Nat.le_of_ble_eq_true rfl) (by decide) (by decide) d_prog_137_method_14_15 rfl (fun v15 T15 h15 Y15 q15 => ?_)
      obtain ⟨rfl, K15, f15_0⟩ := q15
      have KK15 : Keep h0 h15 [wo] := (Keep.refl h0 [wo]).trans K15 (allS (Or.inl (List.mem_of_getElem? (i := 0) rfl)) all0)
      show Gl p e below _ (T15.setTop (mkF m 18 #[.val (.ref o), .val (.ref u), .val (.int (0 : Int32)), .unset, .unset, .unset, .unset, .unset, .unset, .unset, .unset, .unset, .unset, .unset, .unset, .unset, .unset, .unset, .unset, .unset, .unset] [(.ref o)]))
      exact Gl.retA Y15 (by decide) (by decide) rfl rfl d_prog_137_method_14_18 ⟨(0 : Int64), (-9223372036854775808 : Int64), rfl, KK15, f15_0⟩
def R34 : Room := { frames := 3, cells := 0, slots := 0, locals := 60 }
def Q34 (Z : State) (o : Addr) (wo : Addr) (ko : ClassId) (x0 : Int64) (x1 : Int64) (u : Addr) (wu : Addr) (ku : ClassId) (y0 : Int64) (y1 : Int64) (h0 : Heap) (v : Option Value) (h : Heap) : Prop := ∃ e0 : Int64, ∃ e1 : Int64, v = some (.ref o) ∧ Keep h0 h [wo] ∧ Arv Z h wo ko .long (2 : Int32) [(.long e0), (.long e1)] (.long (0 : Int64))
theorem ef34 (o : Addr) (u : Addr) (m : MethodId) : entryFrame m #[(.ref o), (.ref u)] 2 = mkF m 0 #[.val (.ref o), .val (.ref u)] [] := by first | (simp [entryFrame, mkF, argsToLocals, Value.category]; done) | rfl
set_option maxRecDepth 65536 in
set_option maxHeartbeats 40000000 in
theorem rm34 (l : Launch) (Z : State) (a0 : Array Value) (hw : ∀ d ∈ tables_1, d.before a0 Z = true) (ws : List Jvm.Cond) (o : Addr) (wo : Addr) (ko : ClassId) (x0 : Int64) (x1 : Int64) (u : Addr) (wu : Addr) (ku : ClassId) (y0 : Int64) (y1 : Int64) (h0 : Heap) (n0 : Nat) (Z0 : n0 ≤ h0.size) (E_o : Exa Z h0 o "com/example/meterwise/meterwise/model/WholeNumber") (F_o : Fld Z h0 o "com/example/meterwise/meterwise/model/WholeNumber" "words" "[J" (.ref wo)) (V_o : Arv Z h0 wo ko .long (2 : Int32) [(.long x0), (.long x1)] (.long (0 : Int64))) (g_o : n0 ≤ wo) (nn_o : o ≠ wo) (E_u : Exa Z h0 u "com/example/meterwise/meterwise/model/WholeNumber") (F_u : Fld Z h0 u "com/example/meterwise/meterwise/model/WholeNumber" "words" "[J" (.ref wu)) (V_u : Arv Z h0 wu ku .long (2 : Int32) [(.long y0), (.long y1)] (.long (0 : Int64))) (nw : wo ≠ wu) (np : u ≠ wo) : OMet l Z ws (⟨"com/example/meterwise/meterwise/model/WholeNumber", "add", "(Lcom/example/meterwise/meterwise/model/WholeNumber;)Lcom/example/meterwise/meterwise/model/WholeNumber;"⟩ : MethodName) prog_137_method_12_code 2 (some (.object "com/example/meterwise/meterwise/model/WholeNumber")) R34 #[(.ref o), (.ref u)] h0 n0 (Q34 Z o wo ko x0 x1 u wu ku y0 y1 h0) := by
  refine OMet.of (plainFor_of_name pn_0) (ef34 o u) Z0 ?_
  intro p e s m below meth c T0 Y0 hnm
  have Y0 : Sd Z "com/example/meterwise/meterwise/model/WholeNumber" prog_137_method_12_code 2 (some (.object "com/example/meterwise/meterwise/model/WholeNumber")) n0 p l e R34 s m #[(.ref o), (.ref u)] below meth c T0 h0 0 0 := Y0
  refine Gl.aloadN Y0 rfl rfl d_prog_137_method_12_0 rfl ?_
  refine Gl.aloadN Y0 rfl rfl d_prog_137_method_12_1 rfl ?_
  refine Gl.iconst Y0 (v := (0 : Int32)) (by decide) d_prog_137_method_12_2 rfl ?_
  refine Gl.callP Y0 (tw_42 hw) (tw_43 hw) (tw_44 hw) (tw_1 hw) (tw_2 hw) (tw_45 hw) (by decide) E_o (rm33 l Z a0 hw [] o wo ko x0 x1 u wu ku y0 y1 h0 n0 Y0.sz E_o F_o V_o g_o nn_o E_u F_u V_u nw np) (a := o) (argsL := [(.ref u), (.int (0 : Int32))]) (rest := []) rfl rfl (lenOf pd_7 rfl) rfl (by decide) (Nat.le_of_ble_eq_true rfl) (by decide) (by decide) d_prog_137_method_12_3 rfl (fun v3 T3 h3 Y3 q3 => ?_)
  obtain ⟨e03, e13, rfl, K3, f3_0⟩ := q3
  have KK3 : Keep h0 h3 [wo] := (Keep.refl h0 [wo]).trans K3 (allS (Or.inl (List.mem_of_getElem? (i := 0) rfl)) all0)
  show Gl p e below _ (T3.setTop (mkF m 6 #[.val (.ref o), .val (.ref u)] [(.ref o)]))
  exact Gl.retA Y3 (by decide) (by decide) rfl rfl d_prog_137_method_12_6 ⟨e03, e13, rfl, KK3, f3_0⟩
def R35 : Room := { frames := 0, cells := 0, slots := 0, locals := 0 }
def Q35 (Z : State) (o : Addr) (wo : Addr) (ko : ClassId) (x0 : Int64) (x1 : Int64) (h0 : Heap) (v : Option Value) (h : Heap) : Prop := v = some (.ref o) ∧ Keep h0 h [wo] ∧ Arv Z h wo ko .long (2 : Int32) [(.long (own_o x0 1)), (.long (own_o x1 (own_k x0 1)))] (.long (0 : Int64))
theorem ef35 (o : Addr) (m : MethodId) : entryFrame m #[(.ref o)] 4 = mkF m 0 #[.val (.ref o), .unset, .unset, .unset] [] := by first | (simp [entryFrame, mkF, argsToLocals, Value.category]; done) | rfl
set_option maxRecDepth 65536 in
set_option maxHeartbeats 40000000 in
theorem rm35 (l : Launch) (Z : State) (a0 : Array Value) (hw : ∀ d ∈ tables_1, d.before a0 Z = true) (ws : List Jvm.Cond) (o : Addr) (wo : Addr) (ko : ClassId) (x0 : Int64) (x1 : Int64) (h0 : Heap) (n0 : Nat) (Z0 : n0 ≤ h0.size) (E_o : Exa Z h0 o "com/example/meterwise/meterwise/model/WholeNumber") (F_o : Fld Z h0 o "com/example/meterwise/meterwise/model/WholeNumber" "words" "[J" (.ref wo)) (V_o : Arv Z h0 wo ko .long (2 : Int32) [(.long x0), (.long x1)] (.long (0 : Int64))) (g_o : n0 ≤ wo) (nn_o : o ≠ wo) : OMet l Z ws (⟨"com/example/meterwise/meterwise/model/WholeNumber", "negate", "()Lcom/example/meterwise/meterwise/model/WholeNumber;"⟩ : MethodName) prog_137_method_19_code 4 (some (.object "com/example/meterwise/meterwise/model/WholeNumber")) R35 #[(.ref o)] h0 n0 (Q35 Z o wo ko x0 x1 h0) := by
  refine OMet.of (plainFor_of_name pn_0) (ef35 o) Z0 ?_
  intro p e s m below meth c T0 Y0 hnm
  have Y0 : Sd Z "com/example/meterwise/meterwise/model/WholeNumber" prog_137_method_19_code 4 (some (.object "com/example/meterwise/meterwise/model/WholeNumber")) n0 p l e R35 s m #[(.ref o)] below meth c T0 h0 0 0 := Y0
  refine Gl.lconst Y0 (v := (1 : Int64)) (by decide) d_prog_137_method_19_0 rfl ?_
  refine Gl.lstoreN Y0 (L' := #[.val (.ref o), .val (.long (1 : Int64)), .second, .unset]) rfl d_prog_137_method_19_1 rfl ?_
  refine Gl.iconst Y0 (v := (0 : Int32)) (by decide) d_prog_137_method_19_2 rfl ?_
  refine Gl.istoreN Y0 (L' := #[.val (.ref o), .val (.long (1 : Int64)), .second, .val (.int (0 : Int32))]) rfl d_prog_137_method_19_3 rfl ?_
  refine Gl.iloadN Y0 rfl d_prog_137_method_19_4 rfl ?_
  refine Gl.aloadN Y0 rfl rfl d_prog_137_method_19_5 rfl ?_
  refine Gl.getF Y0 (host := "") (Or.inl (tw_14 hw)) Via.refl F_o d_prog_137_method_19_6 rfl (fun T6 Y6 => ?_)
  refine Gl.arraylength Y6 V_o d_prog_137_method_19_9 rfl ?_
  refine Gl.icmpge Y6 d_prog_137_method_19_10 (by decide) rfl rfl (fun c10 => ?_) (fun c10 => ?_)
  · exact absurd c10 (by decide)
  refine Gl.aloadN Y6 rfl rfl d_prog_137_method_19_13 rfl ?_
  refine Gl.getF Y6 (host := "") (Or.inl (tw_14 hw)) Via.refl F_o d_prog_137_method_19_14 rfl (fun T14 Y14 => ?_)
  refine Gl.iloadN Y14 rfl d_prog_137_method_19_17 rfl ?_
  refine Gl.aloadN Y14 rfl rfl d_prog_137_method_19_18 rfl ?_
  refine Gl.getF Y14 (host := "") (Or.inl (tw_14 hw)) Via.refl F_o d_prog_137_method_19_19 rfl (fun T19 Y19 => ?_)
  refine Gl.iloadN Y19 rfl d_prog_137_method_19_22 rfl ?_
  refine Gl.laload Y19 V_o ⟨by decide, by decide⟩ (v := (.long x0)) rfl d_prog_137_method_19_23 rfl ?_
  refine Gl.ldcJ Y19 (tw_65 hw) d_prog_137_method_19_24 rfl ?_
  refine Gl.lxor Y19 rfl d_prog_137_method_19_27 rfl ?_
  refine Gl.lloadN Y19 rfl d_prog_137_method_19_28 rfl ?_
  refine Gl.ladd Y19 rfl d_prog_137_method_19_29 rfl ?_
  refine Gl.lastore Y19 V_o (v := (.long ((x0 ^^^ (-1 : Int64)) + (1 : Int64)))) rfl ⟨by decide, by decide⟩ (ix := 0) rfl (Nat.le_of_ble_eq_true rfl) g_o d_prog_137_method_19_30 rfl (fun T30 h30 Y30 W30 A30 => ?_)
  have A30 : Arv Z h30 wo ko .long (2 : Int32) [(.long ((x0 ^^^ (-1 : Int64)) + (1 : Int64))), (.long x1)] (.long (0 : Int64)) := A30
  have K30 : Keep h0 h30 [wo] := (Keep.refl h0 [wo]).wr W30 (Or.inl (List.mem_of_getElem? (i := 0) rfl))
  show Gl p e below _ (T30.setTop (mkF m 31 #[.val (.ref o), .val (.long (1 : Int64)), .second, .val (.int (0 : Int32))] []))
  refine Gl.lloadN Y30 rfl d_prog_137_method_19_31 rfl ?_
  refine Gl.aloadN Y30 rfl rfl d_prog_137_method_19_32 rfl ?_
  have f1 : Fld Z h30 o "com/example/meterwise/meterwise/model/WholeNumber" "words" "[J" (.ref wo) := (Fld.other W30 F_o (Or.inl nn_o))
  refine Gl.getF Y30 (host := "") (Or.inl (tw_14 hw)) Via.refl f1 d_prog_137_method_19_33 rfl (fun T33 Y33 => ?_)
  refine Gl.iloadN Y33 rfl d_prog_137_method_19_36 rfl ?_
  refine Gl.laload Y33 A30 ⟨by decide, by decide⟩ (v := (.long ((x0 ^^^ (-1 : Int64)) + (1 : Int64)))) rfl d_prog_137_method_19_37 rfl ?_
  refine Gl.lconst Y33 (v := (0 : Int64)) (by decide) d_prog_137_method_19_38 rfl ?_
  obtain ⟨z39, hz39⟩ : ∃ z : Int64, (if ((x0 ^^^ (-1 : Int64)) + (1 : Int64)) = (0 : Int64) then (1 : Int64) else (0 : Int64)) = z := ⟨_, rfl⟩
  refine own_cut (B := ∀ T', Sd Z "com/example/meterwise/meterwise/model/WholeNumber" prog_137_method_19_code 4 (some (.object "com/example/meterwise/meterwise/model/WholeNumber")) n0 p l e R35 s m #[(.ref o)] below meth c T' h30 0 0 → Gl p e below (Pst s n0 R35.cells R35.slots (Q35 Z o wo ko x0 x1 h0)) (T'.setTop (mkF m 48 #[.val (.ref o), .val (.long (1 : Int64)), .second, .val (.int (0 : Int32))] [(.long z39), (.long (1 : Int64))]))) (fun jk => ?_) (fun T39j Y39j => ?_)
  · refine Gl.lcmpne Y33 d_prog_137_method_19_39 rfl d_prog_137_method_19_40 (by decide) rfl rfl (fun c40 => ?_) (fun c40 => ?_)
    · refine Gl.lconst Y33 (v := (0 : Int64)) (by decide) d_prog_137_method_19_47 rfl ?_
      have ez39 : z39 = (0 : Int64) := by rw [← hz39]; simp only [c40, ↓reduceIte, if_true, if_false]
      rw [ez39] at jk
      exact jk T33 Y33
    · refine Gl.lconst Y33 (v := (1 : Int64)) (by decide) d_prog_137_method_19_43 rfl ?_
      refine Gl.goto Y33 d_prog_137_method_19_44 (by decide) rfl ?_
      have ez39 : z39 = (1 : Int64) := by rw [← hz39]; simp only [c40, ↓reduceIte, if_true, if_false]
      rw [ez39] at jk
      exact jk T33 Y33
  refine Gl.land Y39j rfl d_prog_137_method_19_48 rfl ?_
  refine Gl.lstoreN Y39j (L' := #[.val (.ref o), .val (.long ((1 : Int64) &&& z39)), .second, .val (.int (0 : Int32))]) rfl d_prog_137_method_19_49 rfl ?_
  refine Gl.iinc Y39j rfl (r := (1 : Int32)) (by decide) (L' := #[.val (.ref o), .val (.long ((1 : Int64) &&& z39)), .second, .val (.int (1 : Int32))]) rfl d_prog_137_method_19_50 rfl ?_
  refine Gl.goto Y39j d_prog_137_method_19_53 (by decide) rfl ?_
  refine Gl.iloadN Y39j rfl d_prog_137_method_19_4 rfl ?_
  refine Gl.aloadN Y39j rfl rfl d_prog_137_method_19_5 rfl ?_
  refine Gl.getF Y39j (host := "") (Or.inl (tw_14 hw)) Via.refl f1 d_prog_137_method_19_6 rfl (fun T6_2 Y6_2 => ?_)
  refine Gl.arraylength Y6_2 A30 d_prog_137_method_19_9 rfl ?_
  refine Gl.icmpge Y6_2 d_prog_137_method_19_10 (by decide) rfl rfl (fun c10_2 => ?_) (fun c10_2 => ?_)
  · exact absurd c10_2 (by decide)
  refine Gl.aloadN Y6_2 rfl rfl d_prog_137_method_19_13 rfl ?_
  refine Gl.getF Y6_2 (host := "") (Or.inl (tw_14 hw)) Via.refl f1 d_prog_137_method_19_14 rfl (fun T14_2 Y14_2 => ?_)
  refine Gl.iloadN Y14_2 rfl d_prog_137_method_19_17 rfl ?_
  refine Gl.aloadN Y14_2 rfl rfl d_prog_137_method_19_18 rfl ?_
  refine Gl.getF Y14_2 (host := "") (Or.inl (tw_14 hw)) Via.refl f1 d_prog_137_method_19_19 rfl (fun T19_2 Y19_2 => ?_)
  refine Gl.iloadN Y19_2 rfl d_prog_137_method_19_22 rfl ?_
  refine Gl.laload Y19_2 A30 ⟨by decide, by decide⟩ (v := (.long x1)) rfl d_prog_137_method_19_23 rfl ?_
  refine Gl.ldcJ Y19_2 (tw_65 hw) d_prog_137_method_19_24 rfl ?_
  refine Gl.lxor Y19_2 rfl d_prog_137_method_19_27 rfl ?_
  refine Gl.lloadN Y19_2 rfl d_prog_137_method_19_28 rfl ?_
  refine Gl.ladd Y19_2 rfl d_prog_137_method_19_29 rfl ?_
  refine Gl.lastore Y19_2 A30 (v := (.long ((x1 ^^^ (-1 : Int64)) + ((1 : Int64) &&& z39)))) rfl ⟨by decide, by decide⟩ (ix := 1) rfl (Nat.le_of_ble_eq_true rfl) g_o d_prog_137_method_19_30 rfl (fun T30_2 h30_2 Y30_2 W30_2 A30_2 => ?_)
  have A30_2 : Arv Z h30_2 wo ko .long (2 : Int32) [(.long ((x0 ^^^ (-1 : Int64)) + (1 : Int64))), (.long ((x1 ^^^ (-1 : Int64)) + ((1 : Int64) &&& z39)))] (.long (0 : Int64)) := A30_2
  have K30_2 : Keep h0 h30_2 [wo] := K30.wr W30_2 (Or.inl (List.mem_of_getElem? (i := 0) rfl))
  show Gl p e below _ (T30_2.setTop (mkF m 31 #[.val (.ref o), .val (.long ((1 : Int64) &&& z39)), .second, .val (.int (1 : Int32))] []))
  refine Gl.lloadN Y30_2 rfl d_prog_137_method_19_31 rfl ?_
  refine Gl.aloadN Y30_2 rfl rfl d_prog_137_method_19_32 rfl ?_
  have f2 : Fld Z h30_2 o "com/example/meterwise/meterwise/model/WholeNumber" "words" "[J" (.ref wo) := (Fld.other W30_2 f1 (Or.inl nn_o))
  refine Gl.getF Y30_2 (host := "") (Or.inl (tw_14 hw)) Via.refl f2 d_prog_137_method_19_33 rfl (fun T33_2 Y33_2 => ?_)
  refine Gl.iloadN Y33_2 rfl d_prog_137_method_19_36 rfl ?_
  refine Gl.laload Y33_2 A30_2 ⟨by decide, by decide⟩ (v := (.long ((x1 ^^^ (-1 : Int64)) + ((1 : Int64) &&& z39)))) rfl d_prog_137_method_19_37 rfl ?_
  refine Gl.lconst Y33_2 (v := (0 : Int64)) (by decide) d_prog_137_method_19_38 rfl ?_
  obtain ⟨z39_2, hz39_2⟩ : ∃ z : Int64, (if ((x1 ^^^ (-1 : Int64)) + ((1 : Int64) &&& z39)) = (0 : Int64) then (1 : Int64) else (0 : Int64)) = z := ⟨_, rfl⟩
  refine own_cut (B := ∀ T', Sd Z "com/example/meterwise/meterwise/model/WholeNumber" prog_137_method_19_code 4 (some (.object "com/example/meterwise/meterwise/model/WholeNumber")) n0 p l e R35 s m #[(.ref o)] below meth c T' h30_2 0 0 → Gl p e below (Pst s n0 R35.cells R35.slots (Q35 Z o wo ko x0 x1 h0)) (T'.setTop (mkF m 48 #[.val (.ref o), .val (.long ((1 : Int64) &&& z39)), .second, .val (.int (1 : Int32))] [(.long z39_2), (.long ((1 : Int64) &&& z39))]))) (fun jk => ?_) (fun T39j_2 Y39j_2 => ?_)
  · refine Gl.lcmpne Y33_2 d_prog_137_method_19_39 rfl d_prog_137_method_19_40 (by decide) rfl rfl (fun c40 => ?_) (fun c40 => ?_)
    · refine Gl.lconst Y33_2 (v := (0 : Int64)) (by decide) d_prog_137_method_19_47 rfl ?_
      have ez39_2 : z39_2 = (0 : Int64) := by rw [← hz39_2]; simp only [c40, ↓reduceIte, if_true, if_false]
      rw [ez39_2] at jk
      exact jk T33_2 Y33_2
    · refine Gl.lconst Y33_2 (v := (1 : Int64)) (by decide) d_prog_137_method_19_43 rfl ?_
      refine Gl.goto Y33_2 d_prog_137_method_19_44 (by decide) rfl ?_
      have ez39_2 : z39_2 = (1 : Int64) := by rw [← hz39_2]; simp only [c40, ↓reduceIte, if_true, if_false]
      rw [ez39_2] at jk
      exact jk T33_2 Y33_2
  refine Gl.land Y39j_2 rfl d_prog_137_method_19_48 rfl ?_
  refine Gl.lstoreN Y39j_2 (L' := #[.val (.ref o), .val (.long (((1 : Int64) &&& z39) &&& z39_2)), .second, .val (.int (1 : Int32))]) rfl d_prog_137_method_19_49 rfl ?_
  refine Gl.iinc Y39j_2 rfl (r := (2 : Int32)) (by decide) (L' := #[.val (.ref o), .val (.long (((1 : Int64) &&& z39) &&& z39_2)), .second, .val (.int (2 : Int32))]) rfl d_prog_137_method_19_50 rfl ?_
  refine Gl.goto Y39j_2 d_prog_137_method_19_53 (by decide) rfl ?_
  refine Gl.iloadN Y39j_2 rfl d_prog_137_method_19_4 rfl ?_
  refine Gl.aloadN Y39j_2 rfl rfl d_prog_137_method_19_5 rfl ?_
  refine Gl.getF Y39j_2 (host := "") (Or.inl (tw_14 hw)) Via.refl f2 d_prog_137_method_19_6 rfl (fun T6_3 Y6_3 => ?_)
  refine Gl.arraylength Y6_3 A30_2 d_prog_137_method_19_9 rfl ?_
  refine Gl.icmpge Y6_3 d_prog_137_method_19_10 (by decide) rfl rfl (fun c10_3 => ?_) (fun c10_3 => ?_)
  rotate_left
  · exact absurd c10_3 (by decide)
  refine Gl.aloadN Y6_3 rfl rfl d_prog_137_method_19_56 rfl ?_
  subst hz39 hz39_2
  exact Gl.retA Y6_3 (by decide) (by decide) rfl rfl d_prog_137_method_19_57 ⟨rfl, K30_2, A30_2⟩
def R36 : Room := { frames := 2, cells := 0, slots := 0, locals := 28 }
def Q36 (Z : State) (o : Addr) (wo : Addr) (ko : ClassId) (u : Addr) (wu : Addr) (ku : ClassId) (x0 : Int64) (x1 : Int64) (h0 : Heap) (v : Option Value) (h : Heap) : Prop := v = some (.ref o) ∧ Keep h0 h [wo] ∧ Arv Z h wo ko .long (2 : Int32) [(.long (own_o x0 1)), (.long (own_o x1 (own_k x0 1)))] (.long (0 : Int64))
theorem ef36 (o : Addr) (u : Addr) (m : MethodId) : entryFrame m #[(.ref o), (.ref u), (.int (1 : Int32))] 21 = mkF m 0 #[.val (.ref o), .val (.ref u), .val (.int (1 : Int32)), .unset, .unset, .unset, .unset, .unset, .unset, .unset, .unset, .unset, .unset, .unset, .unset, .unset, .unset, .unset, .unset, .unset, .unset] [] := by first | (simp [entryFrame, mkF, argsToLocals, Value.category]; done) | rfl
set_option maxRecDepth 65536 in
set_option maxHeartbeats 40000000 in
theorem rm36 (l : Launch) (Z : State) (a0 : Array Value) (hw : ∀ d ∈ tables_1, d.before a0 Z = true) (ws : List Jvm.Cond) (o : Addr) (wo : Addr) (ko : ClassId) (u : Addr) (wu : Addr) (ku : ClassId) (x0 : Int64) (x1 : Int64) (h0 : Heap) (n0 : Nat) (Z0 : n0 ≤ h0.size) (E_o : Exa Z h0 o "com/example/meterwise/meterwise/model/WholeNumber") (F_o : Fld Z h0 o "com/example/meterwise/meterwise/model/WholeNumber" "words" "[J" (.ref wo)) (V_o : Arv Z h0 wo ko .long (2 : Int32) [(.long (0 : Int64)), (.long (0 : Int64))] (.long (0 : Int64))) (g_o : n0 ≤ wo) (nn_o : o ≠ wo) (E_u : Exa Z h0 u "com/example/meterwise/meterwise/model/WholeNumber") (F_u : Fld Z h0 u "com/example/meterwise/meterwise/model/WholeNumber" "words" "[J" (.ref wu)) (V_u : Arv Z h0 wu ku .long (2 : Int32) [(.long x0), (.long x1)] (.long (0 : Int64))) (nw : wo ≠ wu) (np : u ≠ wo) : OMet l Z ws (⟨"com/example/meterwise/meterwise/model/WholeNumber", "add", "(Lcom/example/meterwise/meterwise/model/WholeNumber;Z)Lcom/example/meterwise/meterwise/model/WholeNumber;"⟩ : MethodName) prog_137_method_14_code 21 (some (.object "com/example/meterwise/meterwise/model/WholeNumber")) R36 #[(.ref o), (.ref u), (.int (1 : Int32))] h0 n0 (Q36 Z o wo ko u wu ku x0 x1 h0) := by
  refine OMet.of (plainFor_of_name pn_0) (ef36 o u) Z0 ?_
  intro p e s m below meth c T0 Y0 hnm
  have Y0 : Sd Z "com/example/meterwise/meterwise/model/WholeNumber" prog_137_method_14_code 21 (some (.object "com/example/meterwise/meterwise/model/WholeNumber")) n0 p l e R36 s m #[(.ref o), (.ref u), (.int (1 : Int32))] below meth c T0 h0 0 0 := Y0
  refine Gl.aloadN Y0 rfl rfl d_prog_137_method_14_0 rfl ?_
  refine Gl.callV Y0 (tw_46 hw) (tw_47 hw) (tw_49 hw) (tw_49 hw) (tw_48 hw) (tw_2 hw) (tw_50 hw) (by decide) E_o (rm32 l Z a0 hw [] o wo ko h0 n0 Y0.sz E_o F_o V_o) (a := o) (argsL := []) (rest := []) rfl rfl (lenOf pd_4 rfl) rfl (by decide) (Nat.le_of_ble_eq_true rfl) (by decide) (by decide) d_prog_137_method_14_1 rfl (fun v1 T1 h1 Y1 q1 => ?_)
  obtain ⟨rfl, rfl⟩ := q1
  show Gl p e below _ (T1.setTop (mkF m 4 #[.val (.ref o), .val (.ref u), .val (.int (1 : Int32)), .unset, .unset, .unset, .unset, .unset, .unset, .unset, .unset, .unset, .unset, .unset, .unset, .unset, .unset, .unset, .unset, .unset, .unset] [(.int (0 : Int32))]))
  refine Gl.ifne Y1 d_prog_137_method_14_4 (by decide) rfl rfl (fun c4 => ?_) (fun c4 => ?_)
  · exact absurd c4 (by decide)
  refine Gl.aloadN Y1 rfl rfl d_prog_137_method_14_7 rfl ?_
  refine Gl.callV Y1 (tw_46 hw) (tw_47 hw) (tw_49 hw) (tw_49 hw) (tw_48 hw) (tw_2 hw) (tw_50 hw) (by decide) E_u (rm29 l Z a0 hw [] u wu ku x0 x1 h0 n0 Y1.sz E_u F_u V_u) (a := u) (argsL := []) (rest := []) rfl rfl (lenOf pd_4 rfl) rfl (by decide) (Nat.le_of_ble_eq_true rfl) (by decide) (by decide) d_prog_137_method_14_8 rfl (fun v8 T8 h8 Y8 q8 => ?_)
  obtain ⟨r8, rfl, p8, rfl⟩ := q8
  have br8 : r8 = 0 ∨ r8 = 1 := by rcases p8 with q | q; exact Or.inr q.2; exact Or.inl q.2
  show Gl p e below _ (T8.setTop (mkF m 11 #[.val (.ref o), .val (.ref u), .val (.int (1 : Int32)), .unset, .unset, .unset, .unset, .unset, .unset, .unset, .unset, .unset, .unset, .unset, .unset, .unset, .unset, .unset, .unset, .unset, .unset] [(.int r8)]))
  refine Gl.ifeq Y8 d_prog_137_method_14_11 (by decide) rfl rfl (fun c11 => ?_) (fun c11 => ?_)
  · refine Gl.aloadN Y8 rfl rfl d_prog_137_method_14_19 rfl ?_
    refine Gl.getF Y8 (host := "") (Or.inl (tw_14 hw)) Via.refl F_u d_prog_137_method_14_20 rfl (fun T20 Y20 => ?_)
    refine Gl.astoreN Y20 rfl (L' := #[.val (.ref o), .val (.ref u), .val (.int (1 : Int32)), .val (.ref wu), .unset, .unset, .unset, .unset, .unset, .unset, .unset, .unset, .unset, .unset, .unset, .unset, .unset, .unset, .unset, .unset, .unset]) rfl d_prog_137_method_14_23 rfl ?_
    refine Gl.aloadN Y20 rfl rfl d_prog_137_method_14_24 rfl ?_
    refine Gl.getF Y20 (host := "") (Or.inl (tw_14 hw)) Via.refl F_o d_prog_137_method_14_25 rfl (fun T25 Y25 => ?_)
    refine Gl.arraylength Y25 V_o d_prog_137_method_14_28 rfl ?_
    refine Gl.aloadN Y25 rfl rfl d_prog_137_method_14_29 rfl ?_
    refine Gl.arraylength Y25 V_u d_prog_137_method_14_30 rfl ?_
    refine Gl.callS Y25 (tw_71 hw) (tw_72 hw) (tw_73 hw) (tw_74 hw) (by decide) (rm30 l Z a0 hw [] h0 n0 Y25.sz) (argsL := [(.int (2 : Int32)), (.int (2 : Int32))]) (rest := []) rfl rfl (lenOf pd_6 rfl) rfl (by decide) (Nat.le_of_ble_eq_true rfl) (by decide) (by decide) d_prog_137_method_14_31 rfl (fun v31 T31 h31 Y31 q31 => ?_)
    obtain ⟨rfl, rfl⟩ := q31
    show Gl p e below _ (T31.setTop (mkF m 34 #[.val (.ref o), .val (.ref u), .val (.int (1 : Int32)), .val (.ref wu), .unset, .unset, .unset, .unset, .unset, .unset, .unset, .unset, .unset, .unset, .unset, .unset, .unset, .unset, .unset, .unset, .unset] [(.int (2 : Int32))]))
    refine Gl.istore Y31 (L' := #[.val (.ref o), .val (.ref u), .val (.int (1 : Int32)), .val (.ref wu), .val (.int (2 : Int32)), .unset, .unset, .unset, .unset, .unset, .unset, .unset, .unset, .unset, .unset, .unset, .unset, .unset, .unset, .unset, .unset]) rfl d_prog_137_method_14_34 rfl ?_
    refine Gl.aloadN Y31 rfl rfl d_prog_137_method_14_36 rfl ?_
    refine Gl.callP Y31 (tw_51 hw) (tw_52 hw) (tw_53 hw) (tw_1 hw) (tw_2 hw) (tw_54 hw) (by decide) E_o (rm31 l Z a0 hw [] o wo ko h0 n0 Y31.sz E_o F_o V_o) (a := o) (argsL := []) (rest := []) rfl rfl (lenOf pd_3 rfl) rfl (by decide) (Nat.le_of_ble_eq_true rfl) (by decide) (by decide) d_prog_137_method_14_37 rfl (fun v37 T37 h37 Y37 q37 => ?_)
    obtain ⟨rfl, rfl⟩ := q37
    show Gl p e below _ (T37.setTop (mkF m 40 #[.val (.ref o), .val (.ref u), .val (.int (1 : Int32)), .val (.ref wu), .val (.int (2 : Int32)), .unset, .unset, .unset, .unset, .unset, .unset, .unset, .unset, .unset, .unset, .unset, .unset, .unset, .unset, .unset, .unset] [(.long (0 : Int64))]))
    refine Gl.bipush Y37 (v := (63 : Int32)) (by decide) d_prog_137_method_14_40 rfl ?_
    refine Gl.lshr Y37 (r := (0 : Int64)) (by decide) d_prog_137_method_14_42 rfl ?_
    refine Gl.lstore Y37 (L' := #[.val (.ref o), .val (.ref u), .val (.int (1 : Int32)), .val (.ref wu), .val (.int (2 : Int32)), .val (.long (0 : Int64)), .second, .unset, .unset, .unset, .unset, .unset, .unset, .unset, .unset, .unset, .unset, .unset, .unset, .unset, .unset]) rfl d_prog_137_method_14_43 rfl ?_
    refine Gl.aloadN Y37 rfl rfl d_prog_137_method_14_45 rfl ?_
    refine Gl.aloadN Y37 rfl rfl d_prog_137_method_14_46 rfl ?_
    refine Gl.arraylength Y37 V_u d_prog_137_method_14_47 rfl ?_
    refine Gl.iconst Y37 (v := (1 : Int32)) (by decide) d_prog_137_method_14_48 rfl ?_
    refine Gl.isub Y37 (r := (1 : Int32)) (by decide) d_prog_137_method_14_49 rfl ?_
    refine Gl.laload Y37 V_u ⟨by decide, by decide⟩ (v := (.long x1)) rfl d_prog_137_method_14_50 rfl ?_
    refine Gl.bipush Y37 (v := (63 : Int32)) (by decide) d_prog_137_method_14_51 rfl ?_
    obtain ⟨v53, hv53⟩ : ∃ z : Int64, (x1 >>> ((63 : Int32) &&& 0x3f).toInt64) = z := ⟨_, rfl⟩
    refine Gl.lshr Y37 hv53 d_prog_137_method_14_53 rfl ?_
    refine Gl.lstore Y37 (L' := #[.val (.ref o), .val (.ref u), .val (.int (1 : Int32)), .val (.ref wu), .val (.int (2 : Int32)), .val (.long (0 : Int64)), .second, .val (.long v53), .second, .unset, .unset, .unset, .unset, .unset, .unset, .unset, .unset, .unset, .unset, .unset, .unset]) rfl d_prog_137_method_14_54 rfl ?_
    refine Gl.iloadN Y37 rfl d_prog_137_method_14_56 rfl ?_
    refine Gl.ifeq Y37 d_prog_137_method_14_57 (by decide) rfl rfl (fun c57 => ?_) (fun c57 => ?_)
    · exact absurd c57 (by decide)
    refine Gl.ldcJ Y37 (tw_65 hw) d_prog_137_method_14_60 rfl ?_
    refine Gl.goto Y37 d_prog_137_method_14_63 (by decide) rfl ?_
    refine Gl.lstore Y37 (L' := #[.val (.ref o), .val (.ref u), .val (.int (1 : Int32)), .val (.ref wu), .val (.int (2 : Int32)), .val (.long (0 : Int64)), .second, .val (.long v53), .second, .val (.long (-1 : Int64)), .second, .unset, .unset, .unset, .unset, .unset, .unset, .unset, .unset, .unset, .unset]) rfl d_prog_137_method_14_67 rfl ?_
    refine Gl.iloadN Y37 rfl d_prog_137_method_14_69 rfl ?_
    refine Gl.ifeq Y37 d_prog_137_method_14_70 (by decide) rfl rfl (fun c70 => ?_) (fun c70 => ?_)
    · exact absurd c70 (by decide)
    refine Gl.lconst Y37 (v := (1 : Int64)) (by decide) d_prog_137_method_14_73 rfl ?_
    refine Gl.goto Y37 d_prog_137_method_14_74 (by decide) rfl ?_
    refine Gl.lstore Y37 (L' := #[.val (.ref o), .val (.ref u), .val (.int (1 : Int32)), .val (.ref wu), .val (.int (2 : Int32)), .val (.long (0 : Int64)), .second, .val (.long v53), .second, .val (.long (-1 : Int64)), .second, .val (.long (1 : Int64)), .second, .unset, .unset, .unset, .unset, .unset, .unset, .unset, .unset]) rfl d_prog_137_method_14_78 rfl ?_
    refine Gl.lconst Y37 (v := (0 : Int64)) (by decide) d_prog_137_method_14_80 rfl ?_
    refine Gl.lstore Y37 (L' := #[.val (.ref o), .val (.ref u), .val (.int (1 : Int32)), .val (.ref wu), .val (.int (2 : Int32)), .val (.long (0 : Int64)), .second, .val (.long v53), .second, .val (.long (-1 : Int64)), .second, .val (.long (1 : Int64)), .second, .val (.long (0 : Int64)), .second, .unset, .unset, .unset, .unset, .unset, .unset]) rfl d_prog_137_method_14_81 rfl ?_
    refine Gl.lconst Y37 (v := (0 : Int64)) (by decide) d_prog_137_method_14_83 rfl ?_
    refine Gl.lstore Y37 (L' := #[.val (.ref o), .val (.ref u), .val (.int (1 : Int32)), .val (.ref wu), .val (.int (2 : Int32)), .val (.long (0 : Int64)), .second, .val (.long v53), .second, .val (.long (-1 : Int64)), .second, .val (.long (1 : Int64)), .second, .val (.long (0 : Int64)), .second, .val (.long (0 : Int64)), .second, .unset, .unset, .unset, .unset]) rfl d_prog_137_method_14_84 rfl ?_
    refine Gl.lconst Y37 (v := (0 : Int64)) (by decide) d_prog_137_method_14_86 rfl ?_
    refine Gl.lstore Y37 (L' := #[.val (.ref o), .val (.ref u), .val (.int (1 : Int32)), .val (.ref wu), .val (.int (2 : Int32)), .val (.long (0 : Int64)), .second, .val (.long v53), .second, .val (.long (-1 : Int64)), .second, .val (.long (1 : Int64)), .second, .val (.long (0 : Int64)), .second, .val (.long (0 : Int64)), .second, .val (.long (0 : Int64)), .second, .unset, .unset]) rfl d_prog_137_method_14_87 rfl ?_
    refine Gl.iconst Y37 (v := (1 : Int32)) (by decide) d_prog_137_method_14_89 rfl ?_
    refine Gl.istore Y37 (L' := #[.val (.ref o), .val (.ref u), .val (.int (1 : Int32)), .val (.ref wu), .val (.int (2 : Int32)), .val (.long (0 : Int64)), .second, .val (.long v53), .second, .val (.long (-1 : Int64)), .second, .val (.long (1 : Int64)), .second, .val (.long (0 : Int64)), .second, .val (.long (0 : Int64)), .second, .val (.long (0 : Int64)), .second, .val (.int (1 : Int32)), .unset]) rfl d_prog_137_method_14_90 rfl ?_
    refine Gl.iconst Y37 (v := (0 : Int32)) (by decide) d_prog_137_method_14_92 rfl ?_
    refine Gl.istore Y37 (L' := #[.val (.ref o), .val (.ref u), .val (.int (1 : Int32)), .val (.ref wu), .val (.int (2 : Int32)), .val (.long (0 : Int64)), .second, .val (.long v53), .second, .val (.long (-1 : Int64)), .second, .val (.long (1 : Int64)), .second, .val (.long (0 : Int64)), .second, .val (.long (0 : Int64)), .second, .val (.long (0 : Int64)), .second, .val (.int (1 : Int32)), .val (.int (0 : Int32))]) rfl d_prog_137_method_14_93 rfl ?_
    refine Gl.iload Y37 rfl d_prog_137_method_14_95 rfl ?_
    refine Gl.iload Y37 rfl d_prog_137_method_14_97 rfl ?_
    refine Gl.icmpge Y37 d_prog_137_method_14_99 (by decide) rfl rfl (fun c99 => ?_) (fun c99 => ?_)
    · exact absurd c99 (by decide)
    refine Gl.iload Y37 rfl d_prog_137_method_14_102 rfl ?_
    refine Gl.aloadN Y37 rfl rfl d_prog_137_method_14_104 rfl ?_
    refine Gl.getF Y37 (host := "") (Or.inl (tw_14 hw)) Via.refl F_o d_prog_137_method_14_105 rfl (fun T105 Y105 => ?_)
    refine Gl.arraylength Y105 V_o d_prog_137_method_14_108 rfl ?_
    refine Gl.icmpge Y105 d_prog_137_method_14_109 (by decide) rfl rfl (fun c109 => ?_) (fun c109 => ?_)
    · exact absurd c109 (by decide)
    refine Gl.aloadN Y105 rfl rfl d_prog_137_method_14_112 rfl ?_
    refine Gl.getF Y105 (host := "") (Or.inl (tw_14 hw)) Via.refl F_o d_prog_137_method_14_113 rfl (fun T113 Y113 => ?_)
    refine Gl.iload Y113 rfl d_prog_137_method_14_116 rfl ?_
    refine Gl.laload Y113 V_o ⟨by decide, by decide⟩ (v := (.long (0 : Int64))) rfl d_prog_137_method_14_118 rfl ?_
    refine Gl.goto Y113 d_prog_137_method_14_119 (by decide) rfl ?_
    refine Gl.lstore Y113 (L' := #[.val (.ref o), .val (.ref u), .val (.int (1 : Int32)), .val (.ref wu), .val (.int (2 : Int32)), .val (.long (0 : Int64)), .second, .val (.long v53), .second, .val (.long (-1 : Int64)), .second, .val (.long (1 : Int64)), .second, .val (.long (0 : Int64)), .second, .val (.long (0 : Int64)), .second, .val (.long (0 : Int64)), .second, .val (.int (1 : Int32)), .val (.int (0 : Int32))]) rfl d_prog_137_method_14_124 rfl ?_
    refine Gl.iload Y113 rfl d_prog_137_method_14_126 rfl ?_
    refine Gl.aloadN Y113 rfl rfl d_prog_137_method_14_128 rfl ?_
    refine Gl.arraylength Y113 V_u d_prog_137_method_14_129 rfl ?_
    refine Gl.icmpge Y113 d_prog_137_method_14_130 (by decide) rfl rfl (fun c130 => ?_) (fun c130 => ?_)
    · exact absurd c130 (by decide)
    refine Gl.aloadN Y113 rfl rfl d_prog_137_method_14_133 rfl ?_
    refine Gl.iload Y113 rfl d_prog_137_method_14_134 rfl ?_
    refine Gl.laload Y113 V_u ⟨by decide, by decide⟩ (v := (.long x0)) rfl d_prog_137_method_14_136 rfl ?_
    refine Gl.goto Y113 d_prog_137_method_14_137 (by decide) rfl ?_
    refine Gl.lload Y113 rfl d_prog_137_method_14_142 rfl ?_
    obtain ⟨v144, hv144⟩ : ∃ z : Int64, x0 ^^^ (-1 : Int64) = z := ⟨_, rfl⟩
    refine Gl.lxor Y113 hv144 d_prog_137_method_14_144 rfl ?_
    refine Gl.lstore Y113 (L' := #[.val (.ref o), .val (.ref u), .val (.int (1 : Int32)), .val (.ref wu), .val (.int (2 : Int32)), .val (.long (0 : Int64)), .second, .val (.long v53), .second, .val (.long (-1 : Int64)), .second, .val (.long (1 : Int64)), .second, .val (.long (0 : Int64)), .second, .val (.long v144), .second, .val (.long (0 : Int64)), .second, .val (.int (1 : Int32)), .val (.int (0 : Int32))]) rfl d_prog_137_method_14_145 rfl ?_
    refine Gl.lload Y113 rfl d_prog_137_method_14_147 rfl ?_
    refine Gl.lload Y113 rfl d_prog_137_method_14_149 rfl ?_
    obtain ⟨v151, hv151⟩ : ∃ z : Int64, (0 : Int64) + v144 = z := ⟨_, rfl⟩
    refine Gl.ladd Y113 hv151 d_prog_137_method_14_151 rfl ?_
    refine Gl.lload Y113 rfl d_prog_137_method_14_152 rfl ?_
    obtain ⟨v154, hv154⟩ : ∃ z : Int64, v151 + (1 : Int64) = z := ⟨_, rfl⟩
    refine Gl.ladd Y113 hv154 d_prog_137_method_14_154 rfl ?_
    obtain rfl : v154 = (own_o x0 1) := own_sum v144 1 x0 hv144 hv151 hv154
    refine Gl.lstore Y113 (L' := #[.val (.ref o), .val (.ref u), .val (.int (1 : Int32)), .val (.ref wu), .val (.int (2 : Int32)), .val (.long (0 : Int64)), .second, .val (.long v53), .second, .val (.long (-1 : Int64)), .second, .val (.long (1 : Int64)), .second, .val (.long (0 : Int64)), .second, .val (.long v144), .second, .val (.long (own_o x0 1)), .second, .val (.int (1 : Int32)), .val (.int (0 : Int32))]) rfl d_prog_137_method_14_155 rfl ?_
    refine Gl.lload Y113 rfl d_prog_137_method_14_157 rfl ?_
    refine Gl.lload Y113 rfl d_prog_137_method_14_159 rfl ?_
    obtain ⟨v161, hv161⟩ : ∃ z : Int64, (0 : Int64) &&& v144 = z := ⟨_, rfl⟩
    refine Gl.land Y113 hv161 d_prog_137_method_14_161 rfl ?_
    refine Gl.lload Y113 rfl d_prog_137_method_14_162 rfl ?_
    refine Gl.lload Y113 rfl d_prog_137_method_14_164 rfl ?_
    obtain ⟨v166, hv166⟩ : ∃ z : Int64, (0 : Int64) ||| v144 = z := ⟨_, rfl⟩
    refine Gl.lor Y113 hv166 d_prog_137_method_14_166 rfl ?_
    refine Gl.lload Y113 rfl d_prog_137_method_14_167 rfl ?_
    refine Gl.ldcJ Y113 (tw_65 hw) d_prog_137_method_14_169 rfl ?_
    obtain ⟨v172, hv172⟩ : ∃ z : Int64, (own_o x0 1) ^^^ (-1 : Int64) = z := ⟨_, rfl⟩
    refine Gl.lxor Y113 hv172 d_prog_137_method_14_172 rfl ?_
    obtain ⟨v173, hv173⟩ : ∃ z : Int64, v166 &&& v172 = z := ⟨_, rfl⟩
    refine Gl.land Y113 hv173 d_prog_137_method_14_173 rfl ?_
    obtain ⟨v174, hv174⟩ : ∃ z : Int64, v161 ||| v173 = z := ⟨_, rfl⟩
    refine Gl.lor Y113 hv174 d_prog_137_method_14_174 rfl ?_
    refine Gl.bipush Y113 (v := (63 : Int32)) (by decide) d_prog_137_method_14_175 rfl ?_
    obtain ⟨v177, hv177⟩ : ∃ z : Int64, (v174.toUInt64 >>> ((63 : Int32) &&& 0x3f).toInt64.toUInt64).toInt64 = z := ⟨_, rfl⟩
    refine Gl.lushr Y113 hv177 d_prog_137_method_14_177 rfl ?_
    obtain rfl : v177 = (own_k x0 1) := by rw [← hv177, ← hv174, ← hv173, ← hv172, ← hv166, ← hv161, ← hv144]; exact own_carry x0 1 (Or.inr rfl)
    refine Gl.lstore Y113 (L' := #[.val (.ref o), .val (.ref u), .val (.int (1 : Int32)), .val (.ref wu), .val (.int (2 : Int32)), .val (.long (0 : Int64)), .second, .val (.long v53), .second, .val (.long (-1 : Int64)), .second, .val (.long (own_k x0 1)), .second, .val (.long (0 : Int64)), .second, .val (.long v144), .second, .val (.long (own_o x0 1)), .second, .val (.int (1 : Int32)), .val (.int (0 : Int32))]) rfl d_prog_137_method_14_178 rfl ?_
    refine Gl.iload Y113 rfl d_prog_137_method_14_180 rfl ?_
    refine Gl.aloadN Y113 rfl rfl d_prog_137_method_14_182 rfl ?_
    refine Gl.getF Y113 (host := "") (Or.inl (tw_14 hw)) Via.refl F_o d_prog_137_method_14_183 rfl (fun T183 Y183 => ?_)
    refine Gl.arraylength Y183 V_o d_prog_137_method_14_186 rfl ?_
    refine Gl.icmpge Y183 d_prog_137_method_14_187 (by decide) rfl rfl (fun c187 => ?_) (fun c187 => ?_)
    · exact absurd c187 (by decide)
    refine Gl.aloadN Y183 rfl rfl d_prog_137_method_14_190 rfl ?_
    refine Gl.getF Y183 (host := "") (Or.inl (tw_14 hw)) Via.refl F_o d_prog_137_method_14_191 rfl (fun T191 Y191 => ?_)
    refine Gl.iload Y191 rfl d_prog_137_method_14_194 rfl ?_
    refine Gl.lload Y191 rfl d_prog_137_method_14_196 rfl ?_
    refine Gl.lastore Y191 V_o (v := (.long (own_o x0 1))) rfl ⟨by decide, by decide⟩ (ix := 0) rfl (Nat.le_of_ble_eq_true rfl) g_o d_prog_137_method_14_198 rfl (fun T198 h198 Y198 W198 A198 => ?_)
    have A198 : Arv Z h198 wo ko .long (2 : Int32) [(.long (own_o x0 1)), (.long (0 : Int64))] (.long (0 : Int64)) := A198
    have K198 : Keep h0 h198 [wo] := (Keep.refl h0 [wo]).wr W198 (Or.inl (List.mem_of_getElem? (i := 0) rfl))
    show Gl p e below _ (T198.setTop (mkF m 199 #[.val (.ref o), .val (.ref u), .val (.int (1 : Int32)), .val (.ref wu), .val (.int (2 : Int32)), .val (.long (0 : Int64)), .second, .val (.long v53), .second, .val (.long (-1 : Int64)), .second, .val (.long (own_k x0 1)), .second, .val (.long (0 : Int64)), .second, .val (.long v144), .second, .val (.long (own_o x0 1)), .second, .val (.int (1 : Int32)), .val (.int (0 : Int32))] []))
    refine Gl.goto Y198 d_prog_137_method_14_199 (by decide) rfl ?_
    refine Gl.iinc Y198 rfl (r := (1 : Int32)) (by decide) (L' := #[.val (.ref o), .val (.ref u), .val (.int (1 : Int32)), .val (.ref wu), .val (.int (2 : Int32)), .val (.long (0 : Int64)), .second, .val (.long v53), .second, .val (.long (-1 : Int64)), .second, .val (.long (own_k x0 1)), .second, .val (.long (0 : Int64)), .second, .val (.long v144), .second, .val (.long (own_o x0 1)), .second, .val (.int (1 : Int32)), .val (.int (1 : Int32))]) rfl d_prog_137_method_14_225 rfl ?_
    refine Gl.goto Y198 d_prog_137_method_14_228 (by decide) rfl ?_
    refine Gl.iload Y198 rfl d_prog_137_method_14_95 rfl ?_
    refine Gl.iload Y198 rfl d_prog_137_method_14_97 rfl ?_
    refine Gl.icmpge Y198 d_prog_137_method_14_99 (by decide) rfl rfl (fun c99_2 => ?_) (fun c99_2 => ?_)
    · exact absurd c99_2 (by decide)
    refine Gl.iload Y198 rfl d_prog_137_method_14_102 rfl ?_
    refine Gl.aloadN Y198 rfl rfl d_prog_137_method_14_104 rfl ?_
    have f1 : Fld Z h198 o "com/example/meterwise/meterwise/model/WholeNumber" "words" "[J" (.ref wo) := (Fld.other W198 F_o (Or.inl nn_o))
    refine Gl.getF Y198 (host := "") (Or.inl (tw_14 hw)) Via.refl f1 d_prog_137_method_14_105 rfl (fun T105_2 Y105_2 => ?_)
    refine Gl.arraylength Y105_2 A198 d_prog_137_method_14_108 rfl ?_
    refine Gl.icmpge Y105_2 d_prog_137_method_14_109 (by decide) rfl rfl (fun c109_2 => ?_) (fun c109_2 => ?_)
    · exact absurd c109_2 (by decide)
    refine Gl.aloadN Y105_2 rfl rfl d_prog_137_method_14_112 rfl ?_
    refine Gl.getF Y105_2 (host := "") (Or.inl (tw_14 hw)) Via.refl f1 d_prog_137_method_14_113 rfl (fun T113_2 Y113_2 => ?_)
    refine Gl.iload Y113_2 rfl d_prog_137_method_14_116 rfl ?_
    refine Gl.laload Y113_2 A198 ⟨by decide, by decide⟩ (v := (.long (0 : Int64))) rfl d_prog_137_method_14_118 rfl ?_
    refine Gl.goto Y113_2 d_prog_137_method_14_119 (by decide) rfl ?_
    refine Gl.lstore Y113_2 (L' := #[.val (.ref o), .val (.ref u), .val (.int (1 : Int32)), .val (.ref wu), .val (.int (2 : Int32)), .val (.long (0 : Int64)), .second, .val (.long v53), .second, .val (.long (-1 : Int64)), .second, .val (.long (own_k x0 1)), .second, .val (.long (0 : Int64)), .second, .val (.long v144), .second, .val (.long (own_o x0 1)), .second, .val (.int (1 : Int32)), .val (.int (1 : Int32))]) rfl d_prog_137_method_14_124 rfl ?_
    refine Gl.iload Y113_2 rfl d_prog_137_method_14_126 rfl ?_
    refine Gl.aloadN Y113_2 rfl rfl d_prog_137_method_14_128 rfl ?_
    have f2 : Arv Z h198 wu ku .long (2 : Int32) [(.long x0), (.long x1)] (.long (0 : Int64)) := (V_u.other W198 (Ne.symm nw))
    refine Gl.arraylength Y113_2 f2 d_prog_137_method_14_129 rfl ?_
    refine Gl.icmpge Y113_2 d_prog_137_method_14_130 (by decide) rfl rfl (fun c130_2 => ?_) (fun c130_2 => ?_)
    · exact absurd c130_2 (by decide)
    refine Gl.aloadN Y113_2 rfl rfl d_prog_137_method_14_133 rfl ?_
    refine Gl.iload Y113_2 rfl d_prog_137_method_14_134 rfl ?_
    refine Gl.laload Y113_2 f2 ⟨by decide, by decide⟩ (v := (.long x1)) rfl d_prog_137_method_14_136 rfl ?_
    refine Gl.goto Y113_2 d_prog_137_method_14_137 (by decide) rfl ?_
    refine Gl.lload Y113_2 rfl d_prog_137_method_14_142 rfl ?_
    obtain ⟨v144_2, hv144_2⟩ : ∃ z : Int64, x1 ^^^ (-1 : Int64) = z := ⟨_, rfl⟩
    refine Gl.lxor Y113_2 hv144_2 d_prog_137_method_14_144 rfl ?_
    refine Gl.lstore Y113_2 (L' := #[.val (.ref o), .val (.ref u), .val (.int (1 : Int32)), .val (.ref wu), .val (.int (2 : Int32)), .val (.long (0 : Int64)), .second, .val (.long v53), .second, .val (.long (-1 : Int64)), .second, .val (.long (own_k x0 1)), .second, .val (.long (0 : Int64)), .second, .val (.long v144_2), .second, .val (.long (own_o x0 1)), .second, .val (.int (1 : Int32)), .val (.int (1 : Int32))]) rfl d_prog_137_method_14_145 rfl ?_
    refine Gl.lload Y113_2 rfl d_prog_137_method_14_147 rfl ?_
    refine Gl.lload Y113_2 rfl d_prog_137_method_14_149 rfl ?_
    obtain ⟨v151_2, hv151_2⟩ : ∃ z : Int64, (0 : Int64) + v144_2 = z := ⟨_, rfl⟩
    refine Gl.ladd Y113_2 hv151_2 d_prog_137_method_14_151 rfl ?_
    refine Gl.lload Y113_2 rfl d_prog_137_method_14_152 rfl ?_
    obtain ⟨v154_2, hv154_2⟩ : ∃ z : Int64, v151_2 + (own_k x0 1) = z := ⟨_, rfl⟩
    refine Gl.ladd Y113_2 hv154_2 d_prog_137_method_14_154 rfl ?_
    obtain rfl : v154_2 = (own_o x1 (own_k x0 1)) := own_sum v144_2 (own_k x0 1) x1 hv144_2 hv151_2 hv154_2
    refine Gl.lstore Y113_2 (L' := #[.val (.ref o), .val (.ref u), .val (.int (1 : Int32)), .val (.ref wu), .val (.int (2 : Int32)), .val (.long (0 : Int64)), .second, .val (.long v53), .second, .val (.long (-1 : Int64)), .second, .val (.long (own_k x0 1)), .second, .val (.long (0 : Int64)), .second, .val (.long v144_2), .second, .val (.long (own_o x1 (own_k x0 1))), .second, .val (.int (1 : Int32)), .val (.int (1 : Int32))]) rfl d_prog_137_method_14_155 rfl ?_
    refine Gl.lload Y113_2 rfl d_prog_137_method_14_157 rfl ?_
    refine Gl.lload Y113_2 rfl d_prog_137_method_14_159 rfl ?_
    obtain ⟨v161_2, hv161_2⟩ : ∃ z : Int64, (0 : Int64) &&& v144_2 = z := ⟨_, rfl⟩
    refine Gl.land Y113_2 hv161_2 d_prog_137_method_14_161 rfl ?_
    refine Gl.lload Y113_2 rfl d_prog_137_method_14_162 rfl ?_
    refine Gl.lload Y113_2 rfl d_prog_137_method_14_164 rfl ?_
    obtain ⟨v166_2, hv166_2⟩ : ∃ z : Int64, (0 : Int64) ||| v144_2 = z := ⟨_, rfl⟩
    refine Gl.lor Y113_2 hv166_2 d_prog_137_method_14_166 rfl ?_
    refine Gl.lload Y113_2 rfl d_prog_137_method_14_167 rfl ?_
    refine Gl.ldcJ Y113_2 (tw_65 hw) d_prog_137_method_14_169 rfl ?_
    obtain ⟨v172_2, hv172_2⟩ : ∃ z : Int64, (own_o x1 (own_k x0 1)) ^^^ (-1 : Int64) = z := ⟨_, rfl⟩
    refine Gl.lxor Y113_2 hv172_2 d_prog_137_method_14_172 rfl ?_
    obtain ⟨v173_2, hv173_2⟩ : ∃ z : Int64, v166_2 &&& v172_2 = z := ⟨_, rfl⟩
    refine Gl.land Y113_2 hv173_2 d_prog_137_method_14_173 rfl ?_
    obtain ⟨v174_2, hv174_2⟩ : ∃ z : Int64, v161_2 ||| v173_2 = z := ⟨_, rfl⟩
    refine Gl.lor Y113_2 hv174_2 d_prog_137_method_14_174 rfl ?_
    refine Gl.bipush Y113_2 (v := (63 : Int32)) (by decide) d_prog_137_method_14_175 rfl ?_
    obtain ⟨v177_2, hv177_2⟩ : ∃ z : Int64, (v174_2.toUInt64 >>> ((63 : Int32) &&& 0x3f).toInt64.toUInt64).toInt64 = z := ⟨_, rfl⟩
    refine Gl.lushr Y113_2 hv177_2 d_prog_137_method_14_177 rfl ?_
    obtain rfl : v177_2 = (own_k x1 (own_k x0 1)) := by rw [← hv177_2, ← hv174_2, ← hv173_2, ← hv172_2, ← hv166_2, ← hv161_2, ← hv144_2]; exact own_carry x1 (own_k x0 1) (own_k01 (Or.inr rfl))
    refine Gl.lstore Y113_2 (L' := #[.val (.ref o), .val (.ref u), .val (.int (1 : Int32)), .val (.ref wu), .val (.int (2 : Int32)), .val (.long (0 : Int64)), .second, .val (.long v53), .second, .val (.long (-1 : Int64)), .second, .val (.long (own_k x1 (own_k x0 1))), .second, .val (.long (0 : Int64)), .second, .val (.long v144_2), .second, .val (.long (own_o x1 (own_k x0 1))), .second, .val (.int (1 : Int32)), .val (.int (1 : Int32))]) rfl d_prog_137_method_14_178 rfl ?_
    refine Gl.iload Y113_2 rfl d_prog_137_method_14_180 rfl ?_
    refine Gl.aloadN Y113_2 rfl rfl d_prog_137_method_14_182 rfl ?_
    refine Gl.getF Y113_2 (host := "") (Or.inl (tw_14 hw)) Via.refl f1 d_prog_137_method_14_183 rfl (fun T183_2 Y183_2 => ?_)
    refine Gl.arraylength Y183_2 A198 d_prog_137_method_14_186 rfl ?_
    refine Gl.icmpge Y183_2 d_prog_137_method_14_187 (by decide) rfl rfl (fun c187_2 => ?_) (fun c187_2 => ?_)
    · exact absurd c187_2 (by decide)
    refine Gl.aloadN Y183_2 rfl rfl d_prog_137_method_14_190 rfl ?_
    refine Gl.getF Y183_2 (host := "") (Or.inl (tw_14 hw)) Via.refl f1 d_prog_137_method_14_191 rfl (fun T191_2 Y191_2 => ?_)
    refine Gl.iload Y191_2 rfl d_prog_137_method_14_194 rfl ?_
    refine Gl.lload Y191_2 rfl d_prog_137_method_14_196 rfl ?_
    refine Gl.lastore Y191_2 A198 (v := (.long (own_o x1 (own_k x0 1)))) rfl ⟨by decide, by decide⟩ (ix := 1) rfl (Nat.le_of_ble_eq_true rfl) g_o d_prog_137_method_14_198 rfl (fun T198_2 h198_2 Y198_2 W198_2 A198_2 => ?_)
    have A198_2 : Arv Z h198_2 wo ko .long (2 : Int32) [(.long (own_o x0 1)), (.long (own_o x1 (own_k x0 1)))] (.long (0 : Int64)) := A198_2
    have K198_2 : Keep h0 h198_2 [wo] := K198.wr W198_2 (Or.inl (List.mem_of_getElem? (i := 0) rfl))
    show Gl p e below _ (T198_2.setTop (mkF m 199 #[.val (.ref o), .val (.ref u), .val (.int (1 : Int32)), .val (.ref wu), .val (.int (2 : Int32)), .val (.long (0 : Int64)), .second, .val (.long v53), .second, .val (.long (-1 : Int64)), .second, .val (.long (own_k x1 (own_k x0 1))), .second, .val (.long (0 : Int64)), .second, .val (.long v144_2), .second, .val (.long (own_o x1 (own_k x0 1))), .second, .val (.int (1 : Int32)), .val (.int (1 : Int32))] []))
    refine Gl.goto Y198_2 d_prog_137_method_14_199 (by decide) rfl ?_
    refine Gl.iinc Y198_2 rfl (r := (2 : Int32)) (by decide) (L' := #[.val (.ref o), .val (.ref u), .val (.int (1 : Int32)), .val (.ref wu), .val (.int (2 : Int32)), .val (.long (0 : Int64)), .second, .val (.long v53), .second, .val (.long (-1 : Int64)), .second, .val (.long (own_k x1 (own_k x0 1))), .second, .val (.long (0 : Int64)), .second, .val (.long v144_2), .second, .val (.long (own_o x1 (own_k x0 1))), .second, .val (.int (1 : Int32)), .val (.int (2 : Int32))]) rfl d_prog_137_method_14_225 rfl ?_
    refine Gl.goto Y198_2 d_prog_137_method_14_228 (by decide) rfl ?_
    refine Gl.iload Y198_2 rfl d_prog_137_method_14_95 rfl ?_
    refine Gl.iload Y198_2 rfl d_prog_137_method_14_97 rfl ?_
    refine Gl.icmpge Y198_2 d_prog_137_method_14_99 (by decide) rfl rfl (fun c99_3 => ?_) (fun c99_3 => ?_)
    rotate_left
    · exact absurd c99_3 (by decide)
    refine Gl.iload Y198_2 rfl d_prog_137_method_14_231 rfl ?_
    refine Gl.ifeq Y198_2 d_prog_137_method_14_233 (by decide) rfl rfl (fun c233 => ?_) (fun c233 => ?_)
    · exact absurd c233 (by decide)
    refine Gl.lload Y198_2 rfl d_prog_137_method_14_236 rfl ?_
    refine Gl.lload Y198_2 rfl d_prog_137_method_14_238 rfl ?_
    obtain ⟨v240, hv240⟩ : ∃ z : Int64, (0 : Int64) ^^^ (own_o x1 (own_k x0 1)) = z := ⟨_, rfl⟩
    refine Gl.lxor Y198_2 hv240 d_prog_137_method_14_240 rfl ?_
    refine Gl.lload Y198_2 rfl d_prog_137_method_14_241 rfl ?_
    refine Gl.lload Y198_2 rfl d_prog_137_method_14_243 rfl ?_
    obtain ⟨v245, hv245⟩ : ∃ z : Int64, v144_2 ^^^ (own_o x1 (own_k x0 1)) = z := ⟨_, rfl⟩
    refine Gl.lxor Y198_2 hv245 d_prog_137_method_14_245 rfl ?_
    obtain ⟨v246, hv246⟩ : ∃ z : Int64, v240 &&& v245 = z := ⟨_, rfl⟩
    refine Gl.land Y198_2 hv246 d_prog_137_method_14_246 rfl ?_
    refine Gl.lconst Y198_2 (v := (0 : Int64)) (by decide) d_prog_137_method_14_247 rfl ?_
    refine Gl.lcmplt Y198_2 d_prog_137_method_14_248 rfl d_prog_137_method_14_249 (by decide) rfl rfl (fun c249 => ?_) (fun c249 => ?_)
    · refine absurd c249 ?_
      rw [← hv246, ← hv245, ← hv240, ← hv144_2]
      refine own_fit x1 (own_k x0 1) (own_k01 (Or.inr rfl)) ?_
      intro z
      have q0 := own_k1 (Or.inr rfl) (by exact z.2)
      have zz0 := q0.1
      rcases p8 with w8 | w8
      · exact absurd (c11.symm.trans w8.2) (by decide)
      · exact w8.1 ⟨z.1, zz0⟩
    refine Gl.aloadN Y198_2 rfl rfl d_prog_137_method_14_252 rfl ?_
    refine Gl.goto Y198_2 d_prog_137_method_14_253 (by decide) rfl ?_
    exact Gl.retA Y198_2 (by decide) (by decide) rfl rfl d_prog_137_method_14_260 ⟨rfl, K198_2, A198_2⟩
  · refine Gl.aloadN Y8 rfl rfl d_prog_137_method_14_14 rfl ?_
    refine Gl.callV Y8 (tw_59 hw) (tw_29 hw) (tw_31 hw) (tw_31 hw) (tw_30 hw) (tw_2 hw) (tw_32 hw) (by decide) E_o (rm26 l Z a0 hw [] o wo ko (0 : Int64) (0 : Int64) h0 n0 Y8.sz E_o F_o V_o g_o nn_o) (a := o) (argsL := []) (rest := []) rfl rfl (lenOf pd_5 rfl) rfl (by decide) (Nat.le_of_ble_eq_true rfl) (by decide) (by decide) d_prog_137_method_14_15 rfl (fun v15 T15 h15 Y15 q15 => ?_)
    obtain ⟨rfl, K15, f15_0⟩ := q15
    have KK15 : Keep h0 h15 [wo] := (Keep.refl h0 [wo]).trans K15 (allS (Or.inl (List.mem_of_getElem? (i := 0) rfl)) all0)
    show Gl p e below _ (T15.setTop (mkF m 18 #[.val (.ref o), .val (.ref u), .val (.int (1 : Int32)), .unset, .unset, .unset, .unset, .unset, .unset, .unset, .unset, .unset, .unset, .unset, .unset, .unset, .unset, .unset, .unset, .unset, .unset] [(.ref o)]))
    rcases p8 with w8 | w8
    rotate_left
    · exact absurd w8.2 c11
    obtain ⟨rfl, rfl⟩ := w8.1
    have f3 : Arv Z h15 wo ko .long (2 : Int32) [(.long (own_o (0 : Int64) 1)), (.long (own_o (-9223372036854775808 : Int64) (own_k (0 : Int64) 1)))] (.long (0 : Int64)) := f15_0
    exact Gl.retA Y15 (by decide) (by decide) rfl rfl d_prog_137_method_14_18 ⟨rfl, KK15, f3⟩
def R37 : Room := { frames := 3, cells := 0, slots := 0, locals := 60 }
def Q37 (Z : State) (o : Addr) (wo : Addr) (ko : ClassId) (u : Addr) (wu : Addr) (ku : ClassId) (x0 : Int64) (x1 : Int64) (h0 : Heap) (v : Option Value) (h : Heap) : Prop := v = some (.ref o) ∧ Keep h0 h [wo] ∧ Arv Z h wo ko .long (2 : Int32) [(.long (own_o x0 1)), (.long (own_o x1 (own_k x0 1)))] (.long (0 : Int64))
theorem ef37 (o : Addr) (u : Addr) (m : MethodId) : entryFrame m #[(.ref o), (.ref u)] 2 = mkF m 0 #[.val (.ref o), .val (.ref u)] [] := by first | (simp [entryFrame, mkF, argsToLocals, Value.category]; done) | rfl
set_option maxRecDepth 65536 in
set_option maxHeartbeats 40000000 in
theorem rm37 (l : Launch) (Z : State) (a0 : Array Value) (hw : ∀ d ∈ tables_1, d.before a0 Z = true) (ws : List Jvm.Cond) (o : Addr) (wo : Addr) (ko : ClassId) (u : Addr) (wu : Addr) (ku : ClassId) (x0 : Int64) (x1 : Int64) (h0 : Heap) (n0 : Nat) (Z0 : n0 ≤ h0.size) (E_o : Exa Z h0 o "com/example/meterwise/meterwise/model/WholeNumber") (F_o : Fld Z h0 o "com/example/meterwise/meterwise/model/WholeNumber" "words" "[J" (.ref wo)) (V_o : Arv Z h0 wo ko .long (2 : Int32) [(.long (0 : Int64)), (.long (0 : Int64))] (.long (0 : Int64))) (g_o : n0 ≤ wo) (nn_o : o ≠ wo) (E_u : Exa Z h0 u "com/example/meterwise/meterwise/model/WholeNumber") (F_u : Fld Z h0 u "com/example/meterwise/meterwise/model/WholeNumber" "words" "[J" (.ref wu)) (V_u : Arv Z h0 wu ku .long (2 : Int32) [(.long x0), (.long x1)] (.long (0 : Int64))) (nw : wo ≠ wu) (np : u ≠ wo) : OMet l Z ws (⟨"com/example/meterwise/meterwise/model/WholeNumber", "subtract", "(Lcom/example/meterwise/meterwise/model/WholeNumber;)Lcom/example/meterwise/meterwise/model/WholeNumber;"⟩ : MethodName) prog_137_method_13_code 2 (some (.object "com/example/meterwise/meterwise/model/WholeNumber")) R37 #[(.ref o), (.ref u)] h0 n0 (Q37 Z o wo ko u wu ku x0 x1 h0) := by
  refine OMet.of (plainFor_of_name pn_0) (ef37 o u) Z0 ?_
  intro p e s m below meth c T0 Y0 hnm
  have Y0 : Sd Z "com/example/meterwise/meterwise/model/WholeNumber" prog_137_method_13_code 2 (some (.object "com/example/meterwise/meterwise/model/WholeNumber")) n0 p l e R37 s m #[(.ref o), (.ref u)] below meth c T0 h0 0 0 := Y0
  refine Gl.aloadN Y0 rfl rfl d_prog_137_method_13_0 rfl ?_
  refine Gl.aloadN Y0 rfl rfl d_prog_137_method_13_1 rfl ?_
  refine Gl.iconst Y0 (v := (1 : Int32)) (by decide) d_prog_137_method_13_2 rfl ?_
  refine Gl.callP Y0 (tw_42 hw) (tw_43 hw) (tw_44 hw) (tw_1 hw) (tw_2 hw) (tw_45 hw) (by decide) E_o (rm36 l Z a0 hw [] o wo ko u wu ku x0 x1 h0 n0 Y0.sz E_o F_o V_o g_o nn_o E_u F_u V_u nw np) (a := o) (argsL := [(.ref u), (.int (1 : Int32))]) (rest := []) rfl rfl (lenOf pd_7 rfl) rfl (by decide) (Nat.le_of_ble_eq_true rfl) (by decide) (by decide) d_prog_137_method_13_3 rfl (fun v3 T3 h3 Y3 q3 => ?_)
  obtain ⟨rfl, K3, f3_0⟩ := q3
  have KK3 : Keep h0 h3 [wo] := (Keep.refl h0 [wo]).trans K3 (allS (Or.inl (List.mem_of_getElem? (i := 0) rfl)) all0)
  show Gl p e below _ (T3.setTop (mkF m 6 #[.val (.ref o), .val (.ref u)] [(.ref o)]))
  exact Gl.retA Y3 (by decide) (by decide) rfl rfl d_prog_137_method_13_6 ⟨rfl, KK3, f3_0⟩
def R38 : Room := { frames := 0, cells := 0, slots := 0, locals := 0 }
def Q38 (Z : State) (o : Addr) (wo : Addr) (ko : ClassId) (x0 : Int64) (x1 : Int64) (h0 : Heap) (v : Option Value) (h : Heap) : Prop := v = some (.long x0) ∧ h0 = h
theorem ef38 (o : Addr) (m : MethodId) : entryFrame m #[(.ref o), (.int (0 : Int32))] 2 = mkF m 0 #[.val (.ref o), .val (.int (0 : Int32))] [] := by first | (simp [entryFrame, mkF, argsToLocals, Value.category]; done) | rfl
set_option maxRecDepth 65536 in
set_option maxHeartbeats 40000000 in
theorem rm38 (l : Launch) (Z : State) (a0 : Array Value) (hw : ∀ d ∈ tables_1, d.before a0 Z = true) (ws : List Jvm.Cond) (o : Addr) (wo : Addr) (ko : ClassId) (x0 : Int64) (x1 : Int64) (h0 : Heap) (n0 : Nat) (Z0 : n0 ≤ h0.size) (E_o : Exa Z h0 o "com/example/meterwise/meterwise/model/WholeNumber") (F_o : Fld Z h0 o "com/example/meterwise/meterwise/model/WholeNumber" "words" "[J" (.ref wo)) (V_o : Arv Z h0 wo ko .long (2 : Int32) [(.long x0), (.long x1)] (.long (0 : Int64))) : OMet l Z ws (⟨"com/example/meterwise/meterwise/model/WholeNumber", "word", "(I)J"⟩ : MethodName) prog_137_method_32_code 2 (some .long) R38 #[(.ref o), (.int (0 : Int32))] h0 n0 (Q38 Z o wo ko x0 x1 h0) := by
  refine OMet.of (plainFor_of_name pn_0) (ef38 o) Z0 ?_
  intro p e s m below meth c T0 Y0 hnm
  have Y0 : Sd Z "com/example/meterwise/meterwise/model/WholeNumber" prog_137_method_32_code 2 (some .long) n0 p l e R38 s m #[(.ref o), (.int (0 : Int32))] below meth c T0 h0 0 0 := Y0
  refine Gl.iloadN Y0 rfl d_prog_137_method_32_0 rfl ?_
  refine Gl.aloadN Y0 rfl rfl d_prog_137_method_32_1 rfl ?_
  refine Gl.getF Y0 (host := "") (Or.inl (tw_14 hw)) Via.refl F_o d_prog_137_method_32_2 rfl (fun T2 Y2 => ?_)
  refine Gl.arraylength Y2 V_o d_prog_137_method_32_5 rfl ?_
  refine Gl.icmpge Y2 d_prog_137_method_32_6 (by decide) rfl rfl (fun c6 => ?_) (fun c6 => ?_)
  · exact absurd c6 (by decide)
  refine Gl.aloadN Y2 rfl rfl d_prog_137_method_32_9 rfl ?_
  refine Gl.getF Y2 (host := "") (Or.inl (tw_14 hw)) Via.refl F_o d_prog_137_method_32_10 rfl (fun T10 Y10 => ?_)
  refine Gl.iloadN Y10 rfl d_prog_137_method_32_13 rfl ?_
  refine Gl.laload Y10 V_o ⟨by decide, by decide⟩ (v := (.long x0)) rfl d_prog_137_method_32_14 rfl ?_
  refine Gl.goto Y10 d_prog_137_method_32_15 (by decide) rfl ?_
  exact Gl.retJ Y10 (by decide) (by decide)  d_prog_137_method_32_25 ⟨rfl, rfl⟩
def R39 : Room := { frames := 0, cells := 0, slots := 0, locals := 0 }
def Q39 (Z : State) (o : Addr) (wo : Addr) (ko : ClassId) (x0 : Int64) (x1 : Int64) (h0 : Heap) (v : Option Value) (h : Heap) : Prop := v = some (.long x1) ∧ h0 = h
theorem ef39 (o : Addr) (m : MethodId) : entryFrame m #[(.ref o), (.int (1 : Int32))] 2 = mkF m 0 #[.val (.ref o), .val (.int (1 : Int32))] [] := by first | (simp [entryFrame, mkF, argsToLocals, Value.category]; done) | rfl
set_option maxRecDepth 65536 in
set_option maxHeartbeats 40000000 in
theorem rm39 (l : Launch) (Z : State) (a0 : Array Value) (hw : ∀ d ∈ tables_1, d.before a0 Z = true) (ws : List Jvm.Cond) (o : Addr) (wo : Addr) (ko : ClassId) (x0 : Int64) (x1 : Int64) (h0 : Heap) (n0 : Nat) (Z0 : n0 ≤ h0.size) (E_o : Exa Z h0 o "com/example/meterwise/meterwise/model/WholeNumber") (F_o : Fld Z h0 o "com/example/meterwise/meterwise/model/WholeNumber" "words" "[J" (.ref wo)) (V_o : Arv Z h0 wo ko .long (2 : Int32) [(.long x0), (.long x1)] (.long (0 : Int64))) : OMet l Z ws (⟨"com/example/meterwise/meterwise/model/WholeNumber", "word", "(I)J"⟩ : MethodName) prog_137_method_32_code 2 (some .long) R39 #[(.ref o), (.int (1 : Int32))] h0 n0 (Q39 Z o wo ko x0 x1 h0) := by
  refine OMet.of (plainFor_of_name pn_0) (ef39 o) Z0 ?_
  intro p e s m below meth c T0 Y0 hnm
  have Y0 : Sd Z "com/example/meterwise/meterwise/model/WholeNumber" prog_137_method_32_code 2 (some .long) n0 p l e R39 s m #[(.ref o), (.int (1 : Int32))] below meth c T0 h0 0 0 := Y0
  refine Gl.iloadN Y0 rfl d_prog_137_method_32_0 rfl ?_
  refine Gl.aloadN Y0 rfl rfl d_prog_137_method_32_1 rfl ?_
  refine Gl.getF Y0 (host := "") (Or.inl (tw_14 hw)) Via.refl F_o d_prog_137_method_32_2 rfl (fun T2 Y2 => ?_)
  refine Gl.arraylength Y2 V_o d_prog_137_method_32_5 rfl ?_
  refine Gl.icmpge Y2 d_prog_137_method_32_6 (by decide) rfl rfl (fun c6 => ?_) (fun c6 => ?_)
  · exact absurd c6 (by decide)
  refine Gl.aloadN Y2 rfl rfl d_prog_137_method_32_9 rfl ?_
  refine Gl.getF Y2 (host := "") (Or.inl (tw_14 hw)) Via.refl F_o d_prog_137_method_32_10 rfl (fun T10 Y10 => ?_)
  refine Gl.iloadN Y10 rfl d_prog_137_method_32_13 rfl ?_
  refine Gl.laload Y10 V_o ⟨by decide, by decide⟩ (v := (.long x1)) rfl d_prog_137_method_32_14 rfl ?_
  refine Gl.goto Y10 d_prog_137_method_32_15 (by decide) rfl ?_
  exact Gl.retJ Y10 (by decide) (by decide)  d_prog_137_method_32_25 ⟨rfl, rfl⟩
def R40 : Room := { frames := 1, cells := 0, slots := 0, locals := 13 }
def Q40 (Z : State) (o : Addr) (wo : Addr) (ko : ClassId) (x0 : Int64) (x1 : Int64) (u : Addr) (wu : Addr) (ku : ClassId) (h0 : Heap) (v : Option Value) (h : Heap) : Prop := v = some (.int (0 : Int32)) ∧ h0 = h
theorem ef40 (o : Addr) (u : Addr) (m : MethodId) : entryFrame m #[(.ref o), (.ref u)] 8 = mkF m 0 #[.val (.ref o), .val (.ref u), .unset, .unset, .unset, .unset, .unset, .unset] [] := by first | (simp [entryFrame, mkF, argsToLocals, Value.category]; done) | rfl
set_option maxRecDepth 65536 in
set_option maxHeartbeats 40000000 in
theorem rm40 (l : Launch) (Z : State) (a0 : Array Value) (hw : ∀ d ∈ tables_1, d.before a0 Z = true) (ws : List Jvm.Cond) (o : Addr) (wo : Addr) (ko : ClassId) (x0 : Int64) (x1 : Int64) (u : Addr) (wu : Addr) (ku : ClassId) (h0 : Heap) (n0 : Nat) (Z0 : n0 ≤ h0.size) (E_o : Exa Z h0 o "com/example/meterwise/meterwise/model/WholeNumber") (F_o : Fld Z h0 o "com/example/meterwise/meterwise/model/WholeNumber" "words" "[J" (.ref wo)) (V_o : Arv Z h0 wo ko .long (2 : Int32) [(.long x0), (.long x1)] (.long (0 : Int64))) (E_u : Exa Z h0 u "com/example/meterwise/meterwise/model/WholeNumber") (F_u : Fld Z h0 u "com/example/meterwise/meterwise/model/WholeNumber" "words" "[J" (.ref wu)) (V_u : Arv Z h0 wu ku .long (2 : Int32) [(.long x0), (.long x1)] (.long (0 : Int64))) : OMet l Z ws (⟨"com/example/meterwise/meterwise/model/WholeNumber", "compareTo", "(Lcom/example/meterwise/meterwise/model/WholeNumber;)I"⟩ : MethodName) prog_137_method_11_code 8 (some .int) R40 #[(.ref o), (.ref u)] h0 n0 (Q40 Z o wo ko x0 x1 u wu ku h0) := by
  refine OMet.of (plainFor_of_name pn_0) (ef40 o u) Z0 ?_
  intro p e s m below meth c T0 Y0 hnm
  have Y0 : Sd Z "com/example/meterwise/meterwise/model/WholeNumber" prog_137_method_11_code 8 (some .int) n0 p l e R40 s m #[(.ref o), (.ref u)] below meth c T0 h0 0 0 := Y0
  refine Gl.aloadN Y0 rfl rfl d_prog_137_method_11_0 rfl ?_
  refine Gl.getF Y0 (host := "") (Or.inl (tw_14 hw)) Via.refl F_o d_prog_137_method_11_1 rfl (fun T1 Y1 => ?_)
  refine Gl.arraylength Y1 V_o d_prog_137_method_11_4 rfl ?_
  refine Gl.aloadN Y1 rfl rfl d_prog_137_method_11_5 rfl ?_
  refine Gl.getF Y1 (host := "") (Or.inl (tw_14 hw)) Via.refl F_u d_prog_137_method_11_6 rfl (fun T6 Y6 => ?_)
  refine Gl.arraylength Y6 V_u d_prog_137_method_11_9 rfl ?_
  refine Gl.callS Y6 (tw_71 hw) (tw_72 hw) (tw_73 hw) (tw_74 hw) (by decide) (rm30 l Z a0 hw [] h0 n0 Y6.sz) (argsL := [(.int (2 : Int32)), (.int (2 : Int32))]) (rest := []) rfl rfl (lenOf pd_6 rfl) rfl (by decide) (Nat.le_of_ble_eq_true rfl) (by decide) (by decide) d_prog_137_method_11_10 rfl (fun v10 T10 h10 Y10 q10 => ?_)
  obtain ⟨rfl, rfl⟩ := q10
  show Gl p e below _ (T10.setTop (mkF m 13 #[.val (.ref o), .val (.ref u), .unset, .unset, .unset, .unset, .unset, .unset] [(.int (2 : Int32))]))
  refine Gl.istoreN Y10 (L' := #[.val (.ref o), .val (.ref u), .val (.int (2 : Int32)), .unset, .unset, .unset, .unset, .unset]) rfl d_prog_137_method_11_13 rfl ?_
  refine Gl.iloadN Y10 rfl d_prog_137_method_11_14 rfl ?_
  refine Gl.iconst Y10 (v := (1 : Int32)) (by decide) d_prog_137_method_11_15 rfl ?_
  refine Gl.isub Y10 (r := (1 : Int32)) (by decide) d_prog_137_method_11_16 rfl ?_
  refine Gl.istoreN Y10 (L' := #[.val (.ref o), .val (.ref u), .val (.int (2 : Int32)), .val (.int (1 : Int32)), .unset, .unset, .unset, .unset]) rfl d_prog_137_method_11_17 rfl ?_
  refine Gl.iloadN Y10 rfl d_prog_137_method_11_18 rfl ?_
  refine Gl.iflt Y10 d_prog_137_method_11_19 (by decide) rfl rfl (fun c19 => ?_) (fun c19 => ?_)
  · exact absurd c19 (by decide)
  refine Gl.aloadN Y10 rfl rfl d_prog_137_method_11_22 rfl ?_
  refine Gl.iloadN Y10 rfl d_prog_137_method_11_23 rfl ?_
  refine Gl.callP Y10 (tw_75 hw) (tw_76 hw) (tw_77 hw) (tw_1 hw) (tw_2 hw) (tw_78 hw) (by decide) E_o (rm39 l Z a0 hw [] o wo ko x0 x1 h0 n0 Y10.sz E_o F_o V_o) (a := o) (argsL := [(.int (1 : Int32))]) (rest := []) rfl rfl (lenOf pd_8 rfl) rfl (by decide) (Nat.le_of_ble_eq_true rfl) (by decide) (by decide) d_prog_137_method_11_24 rfl (fun v24 T24 h24 Y24 q24 => ?_)
  obtain ⟨rfl, rfl⟩ := q24
  show Gl p e below _ (T24.setTop (mkF m 27 #[.val (.ref o), .val (.ref u), .val (.int (2 : Int32)), .val (.int (1 : Int32)), .unset, .unset, .unset, .unset] [(.long x1)]))
  refine Gl.lstore Y24 (L' := #[.val (.ref o), .val (.ref u), .val (.int (2 : Int32)), .val (.int (1 : Int32)), .val (.long x1), .second, .unset, .unset]) rfl d_prog_137_method_11_27 rfl ?_
  refine Gl.aloadN Y24 rfl rfl d_prog_137_method_11_29 rfl ?_
  refine Gl.iloadN Y24 rfl d_prog_137_method_11_30 rfl ?_
  refine Gl.callP Y24 (tw_75 hw) (tw_76 hw) (tw_77 hw) (tw_1 hw) (tw_2 hw) (tw_78 hw) (by decide) E_u (rm39 l Z a0 hw [] u wu ku x0 x1 h0 n0 Y24.sz E_u F_u V_u) (a := u) (argsL := [(.int (1 : Int32))]) (rest := []) rfl rfl (lenOf pd_8 rfl) rfl (by decide) (Nat.le_of_ble_eq_true rfl) (by decide) (by decide) d_prog_137_method_11_31 rfl (fun v31 T31 h31 Y31 q31 => ?_)
  obtain ⟨rfl, rfl⟩ := q31
  show Gl p e below _ (T31.setTop (mkF m 34 #[.val (.ref o), .val (.ref u), .val (.int (2 : Int32)), .val (.int (1 : Int32)), .val (.long x1), .second, .unset, .unset] [(.long x1)]))
  refine Gl.lstore Y31 (L' := #[.val (.ref o), .val (.ref u), .val (.int (2 : Int32)), .val (.int (1 : Int32)), .val (.long x1), .second, .val (.long x1), .second]) rfl d_prog_137_method_11_34 rfl ?_
  refine Gl.lload Y31 rfl d_prog_137_method_11_36 rfl ?_
  refine Gl.lload Y31 rfl d_prog_137_method_11_38 rfl ?_
  refine Gl.lcmpeq Y31 d_prog_137_method_11_40 rfl d_prog_137_method_11_41 (by decide) rfl rfl (fun c41 => ?_) (fun c41 => ?_)
  rotate_left
  · exact absurd rfl c41
  refine Gl.iinc Y31 rfl (r := (0 : Int32)) (by decide) (L' := #[.val (.ref o), .val (.ref u), .val (.int (2 : Int32)), .val (.int (0 : Int32)), .val (.long x1), .second, .val (.long x1), .second]) rfl d_prog_137_method_11_69 rfl ?_
  refine Gl.goto Y31 d_prog_137_method_11_72 (by decide) rfl ?_
  refine Gl.iloadN Y31 rfl d_prog_137_method_11_18 rfl ?_
  refine Gl.iflt Y31 d_prog_137_method_11_19 (by decide) rfl rfl (fun c19_2 => ?_) (fun c19_2 => ?_)
  · exact absurd c19_2 (by decide)
  refine Gl.aloadN Y31 rfl rfl d_prog_137_method_11_22 rfl ?_
  refine Gl.iloadN Y31 rfl d_prog_137_method_11_23 rfl ?_
  refine Gl.callP Y31 (tw_75 hw) (tw_76 hw) (tw_77 hw) (tw_1 hw) (tw_2 hw) (tw_78 hw) (by decide) E_o (rm38 l Z a0 hw [] o wo ko x0 x1 h0 n0 Y31.sz E_o F_o V_o) (a := o) (argsL := [(.int (0 : Int32))]) (rest := []) rfl rfl (lenOf pd_8 rfl) rfl (by decide) (Nat.le_of_ble_eq_true rfl) (by decide) (by decide) d_prog_137_method_11_24 rfl (fun v24_2 T24_2 h24_2 Y24_2 q24_2 => ?_)
  obtain ⟨rfl, rfl⟩ := q24_2
  show Gl p e below _ (T24_2.setTop (mkF m 27 #[.val (.ref o), .val (.ref u), .val (.int (2 : Int32)), .val (.int (0 : Int32)), .val (.long x1), .second, .val (.long x1), .second] [(.long x0)]))
  refine Gl.lstore Y24_2 (L' := #[.val (.ref o), .val (.ref u), .val (.int (2 : Int32)), .val (.int (0 : Int32)), .val (.long x0), .second, .val (.long x1), .second]) rfl d_prog_137_method_11_27 rfl ?_
  refine Gl.aloadN Y24_2 rfl rfl d_prog_137_method_11_29 rfl ?_
  refine Gl.iloadN Y24_2 rfl d_prog_137_method_11_30 rfl ?_
  refine Gl.callP Y24_2 (tw_75 hw) (tw_76 hw) (tw_77 hw) (tw_1 hw) (tw_2 hw) (tw_78 hw) (by decide) E_u (rm38 l Z a0 hw [] u wu ku x0 x1 h0 n0 Y24_2.sz E_u F_u V_u) (a := u) (argsL := [(.int (0 : Int32))]) (rest := []) rfl rfl (lenOf pd_8 rfl) rfl (by decide) (Nat.le_of_ble_eq_true rfl) (by decide) (by decide) d_prog_137_method_11_31 rfl (fun v31_2 T31_2 h31_2 Y31_2 q31_2 => ?_)
  obtain ⟨rfl, rfl⟩ := q31_2
  show Gl p e below _ (T31_2.setTop (mkF m 34 #[.val (.ref o), .val (.ref u), .val (.int (2 : Int32)), .val (.int (0 : Int32)), .val (.long x0), .second, .val (.long x1), .second] [(.long x0)]))
  refine Gl.lstore Y31_2 (L' := #[.val (.ref o), .val (.ref u), .val (.int (2 : Int32)), .val (.int (0 : Int32)), .val (.long x0), .second, .val (.long x0), .second]) rfl d_prog_137_method_11_34 rfl ?_
  refine Gl.lload Y31_2 rfl d_prog_137_method_11_36 rfl ?_
  refine Gl.lload Y31_2 rfl d_prog_137_method_11_38 rfl ?_
  refine Gl.lcmpeq Y31_2 d_prog_137_method_11_40 rfl d_prog_137_method_11_41 (by decide) rfl rfl (fun c41_2 => ?_) (fun c41_2 => ?_)
  rotate_left
  · exact absurd rfl c41_2
  refine Gl.iinc Y31_2 rfl (r := (-1 : Int32)) (by decide) (L' := #[.val (.ref o), .val (.ref u), .val (.int (2 : Int32)), .val (.int (-1 : Int32)), .val (.long x0), .second, .val (.long x0), .second]) rfl d_prog_137_method_11_69 rfl ?_
  refine Gl.goto Y31_2 d_prog_137_method_11_72 (by decide) rfl ?_
  refine Gl.iloadN Y31_2 rfl d_prog_137_method_11_18 rfl ?_
  refine Gl.iflt Y31_2 d_prog_137_method_11_19 (by decide) rfl rfl (fun c19_3 => ?_) (fun c19_3 => ?_)
  rotate_left
  · exact absurd c19_3 (by decide)
  refine Gl.iconst Y31_2 (v := (0 : Int32)) (by decide) d_prog_137_method_11_75 rfl ?_
  exact Gl.retI Y31_2 (by decide) (by decide)  d_prog_137_method_11_76 ⟨rfl, rfl⟩
def R41 : Room := { frames := 0, cells := 0, slots := 0, locals := 0 }
def Q41 (Z : State) (h0 : Heap) (v : Option Value) (h : Heap) : Prop := v = none ∧ h0 = h
theorem ef41 (m : MethodId) : entryFrame m #[(.int (3 : Int32)), (.int (1 : Int32)), (.int (3 : Int32))] 3 = mkF m 0 #[.val (.int (3 : Int32)), .val (.int (1 : Int32)), .val (.int (3 : Int32))] [] := by first | (simp [entryFrame, mkF, argsToLocals, Value.category]; done) | rfl
set_option maxRecDepth 65536 in
set_option maxHeartbeats 40000000 in
theorem rm41 (l : Launch) (Z : State) (a0 : Array Value) (hw : ∀ d ∈ tables_1, d.before a0 Z = true) (ws : List Jvm.Cond) (h0 : Heap) (n0 : Nat) (Z0 : n0 ≤ h0.size) : OMet l Z ws (⟨"java/util/Arrays", "rangeCheck", "(III)V"⟩ : MethodName) jdk_65_method_30_code 3 none R41 #[(.int (3 : Int32)), (.int (1 : Int32)), (.int (3 : Int32))] h0 n0 (Q41 Z h0) := by
  refine OMet.of (plainFor_of_name pn_1) (ef41) Z0 ?_
  intro p e s m below meth c T0 Y0 hnm
  have Y0 : Sd Z "java/util/Arrays" jdk_65_method_30_code 3 none n0 p l e R41 s m #[(.int (3 : Int32)), (.int (1 : Int32)), (.int (3 : Int32))] below meth c T0 h0 0 0 := Y0
  refine Gl.iloadN Y0 rfl d_jdk_65_method_30_0 rfl ?_
  refine Gl.iloadN Y0 rfl d_jdk_65_method_30_1 rfl ?_
  refine Gl.icmple Y0 d_jdk_65_method_30_2 (by decide) rfl rfl (fun c2 => ?_) (fun c2 => ?_)
  rotate_left
  · exact absurd c2 (by decide)
  refine Gl.iloadN Y0 rfl d_jdk_65_method_30_46 rfl ?_
  refine Gl.ifge Y0 d_jdk_65_method_30_47 (by decide) rfl rfl (fun c47 => ?_) (fun c47 => ?_)
  rotate_left
  · exact absurd c47 (by decide)
  refine Gl.iloadN Y0 rfl d_jdk_65_method_30_59 rfl ?_
  refine Gl.iloadN Y0 rfl d_jdk_65_method_30_60 rfl ?_
  refine Gl.icmple Y0 d_jdk_65_method_30_61 (by decide) rfl rfl (fun c61 => ?_) (fun c61 => ?_)
  rotate_left
  · exact absurd c61 (by decide)
  exact Gl.retV Y0 (by decide) (by decide)  d_jdk_65_method_30_73 ⟨rfl, rfl⟩
def R42 : Room := { frames := 1, cells := 0, slots := 0, locals := 14 }
def Q42 (Z : State) (a : Addr) (ka : ClassId) (v1 : Int64) (x0 : Int64) (x1 : Int64) (x2 : Int64) (h0 : Heap) (v : Option Value) (h : Heap) : Prop := v = none ∧ Keep h0 h [a] ∧ Arv Z h a ka .long (3 : Int32) [(.long x0), (.long v1), (.long v1)] (.long (0 : Int64))
theorem ef42 (a : Addr) (v1 : Int64) (m : MethodId) : entryFrame m #[(.ref a), (.int (1 : Int32)), (.int (3 : Int32)), (.long v1)] 6 = mkF m 0 #[.val (.ref a), .val (.int (1 : Int32)), .val (.int (3 : Int32)), .val (.long v1), .second, .unset] [] := by first | (simp [entryFrame, mkF, argsToLocals, Value.category]; done) | rfl
set_option maxRecDepth 65536 in
set_option maxHeartbeats 40000000 in
theorem rm42 (l : Launch) (Z : State) (a0 : Array Value) (hw : ∀ d ∈ tables_1, d.before a0 Z = true) (ws : List Jvm.Cond) (a : Addr) (ka : ClassId) (v1 : Int64) (x0 : Int64) (x1 : Int64) (x2 : Int64) (h0 : Heap) (n0 : Nat) (Z0 : n0 ≤ h0.size) (V : Arv Z h0 a ka .long (3 : Int32) [(.long x0), (.long x1), (.long x2)] (.long (0 : Int64))) (ga : n0 ≤ a) : OMet l Z ws (⟨"java/util/Arrays", "fill", "([JIIJ)V"⟩ : MethodName) jdk_65_method_102_code 6 none R42 #[(.ref a), (.int (1 : Int32)), (.int (3 : Int32)), (.long v1)] h0 n0 (Q42 Z a ka v1 x0 x1 x2 h0) := by
  refine OMet.of (plainFor_of_name pn_1) (ef42 a v1) Z0 ?_
  intro p e s m below meth c T0 Y0 hnm
  have Y0 : Sd Z "java/util/Arrays" jdk_65_method_102_code 6 none n0 p l e R42 s m #[(.ref a), (.int (1 : Int32)), (.int (3 : Int32)), (.long v1)] below meth c T0 h0 0 0 := Y0
  refine Gl.aloadN Y0 rfl rfl d_jdk_65_method_102_0 rfl ?_
  refine Gl.arraylength Y0 V d_jdk_65_method_102_1 rfl ?_
  refine Gl.iloadN Y0 rfl d_jdk_65_method_102_2 rfl ?_
  refine Gl.iloadN Y0 rfl d_jdk_65_method_102_3 rfl ?_
  refine Gl.callS Y0 (tw_25 hw) (tw_26 hw) (tw_23 hw) (tw_27 hw) (by decide) (rm41 l Z a0 hw [] h0 n0 Y0.sz) (argsL := [(.int (3 : Int32)), (.int (1 : Int32)), (.int (3 : Int32))]) (rest := []) rfl rfl (lenOf pd_0 rfl) rfl (by decide) (Nat.le_of_ble_eq_true rfl) (by decide) (by decide) d_jdk_65_method_102_4 rfl (fun v4 T4 h4 Y4 q4 => ?_)
  obtain ⟨rfl, rfl⟩ := q4
  show Gl p e below _ (T4.setTop (mkF m 7 #[.val (.ref a), .val (.int (1 : Int32)), .val (.int (3 : Int32)), .val (.long v1), .second, .unset] []))
  refine Gl.iloadN Y4 rfl d_jdk_65_method_102_7 rfl ?_
  refine Gl.istore Y4 (L' := #[.val (.ref a), .val (.int (1 : Int32)), .val (.int (3 : Int32)), .val (.long v1), .second, .val (.int (1 : Int32))]) rfl d_jdk_65_method_102_8 rfl ?_
  refine Gl.iload Y4 rfl d_jdk_65_method_102_10 rfl ?_
  refine Gl.iloadN Y4 rfl d_jdk_65_method_102_12 rfl ?_
  refine Gl.icmpge Y4 d_jdk_65_method_102_13 (by decide) rfl rfl (fun c13 => ?_) (fun c13 => ?_)
  · exact absurd c13 (by decide)
  refine Gl.aloadN Y4 rfl rfl d_jdk_65_method_102_16 rfl ?_
  refine Gl.iload Y4 rfl d_jdk_65_method_102_17 rfl ?_
  refine Gl.lloadN Y4 rfl d_jdk_65_method_102_19 rfl ?_
  refine Gl.lastore Y4 V (v := (.long v1)) rfl ⟨by decide, by decide⟩ (ix := 1) rfl (Nat.le_of_ble_eq_true rfl) ga d_jdk_65_method_102_20 rfl (fun T20 h20 Y20 W20 A20 => ?_)
  have A20 : Arv Z h20 a ka .long (3 : Int32) [(.long x0), (.long v1), (.long x2)] (.long (0 : Int64)) := A20
  have K20 : Keep h0 h20 [a] := (Keep.refl h0 [a]).wr W20 (Or.inl (List.mem_of_getElem? (i := 0) rfl))
  show Gl p e below _ (T20.setTop (mkF m 21 #[.val (.ref a), .val (.int (1 : Int32)), .val (.int (3 : Int32)), .val (.long v1), .second, .val (.int (1 : Int32))] []))
  refine Gl.iinc Y20 rfl (r := (2 : Int32)) (by decide) (L' := #[.val (.ref a), .val (.int (1 : Int32)), .val (.int (3 : Int32)), .val (.long v1), .second, .val (.int (2 : Int32))]) rfl d_jdk_65_method_102_21 rfl ?_
  refine Gl.goto Y20 d_jdk_65_method_102_24 (by decide) rfl ?_
  refine Gl.iload Y20 rfl d_jdk_65_method_102_10 rfl ?_
  refine Gl.iloadN Y20 rfl d_jdk_65_method_102_12 rfl ?_
  refine Gl.icmpge Y20 d_jdk_65_method_102_13 (by decide) rfl rfl (fun c13_2 => ?_) (fun c13_2 => ?_)
  · exact absurd c13_2 (by decide)
  refine Gl.aloadN Y20 rfl rfl d_jdk_65_method_102_16 rfl ?_
  refine Gl.iload Y20 rfl d_jdk_65_method_102_17 rfl ?_
  refine Gl.lloadN Y20 rfl d_jdk_65_method_102_19 rfl ?_
  refine Gl.lastore Y20 A20 (v := (.long v1)) rfl ⟨by decide, by decide⟩ (ix := 2) rfl (Nat.le_of_ble_eq_true rfl) ga d_jdk_65_method_102_20 rfl (fun T20_2 h20_2 Y20_2 W20_2 A20_2 => ?_)
  have A20_2 : Arv Z h20_2 a ka .long (3 : Int32) [(.long x0), (.long v1), (.long v1)] (.long (0 : Int64)) := A20_2
  have K20_2 : Keep h0 h20_2 [a] := K20.wr W20_2 (Or.inl (List.mem_of_getElem? (i := 0) rfl))
  show Gl p e below _ (T20_2.setTop (mkF m 21 #[.val (.ref a), .val (.int (1 : Int32)), .val (.int (3 : Int32)), .val (.long v1), .second, .val (.int (2 : Int32))] []))
  refine Gl.iinc Y20_2 rfl (r := (3 : Int32)) (by decide) (L' := #[.val (.ref a), .val (.int (1 : Int32)), .val (.int (3 : Int32)), .val (.long v1), .second, .val (.int (3 : Int32))]) rfl d_jdk_65_method_102_21 rfl ?_
  refine Gl.goto Y20_2 d_jdk_65_method_102_24 (by decide) rfl ?_
  refine Gl.iload Y20_2 rfl d_jdk_65_method_102_10 rfl ?_
  refine Gl.iloadN Y20_2 rfl d_jdk_65_method_102_12 rfl ?_
  refine Gl.icmpge Y20_2 d_jdk_65_method_102_13 (by decide) rfl rfl (fun c13_3 => ?_) (fun c13_3 => ?_)
  rotate_left
  · exact absurd c13_3 (by decide)
  exact Gl.retV Y20_2 (by decide) (by decide)  d_jdk_65_method_102_27 ⟨rfl, K20_2, A20_2⟩
def R43 : Room := { frames := 0, cells := 0, slots := 0, locals := 0 }
def Q43 (Z : State) (a : Addr) (ka : ClassId) (x0 : Int64) (x1 : Int64) (x2 : Int64) (h0 : Heap) (v : Option Value) (h : Heap) : Prop := v = none ∧ Keep h0 h [a] ∧ Arv Z h a ka .long (3 : Int32) [(.long (0 : Int64)), (.long (0 : Int64)), (.long (0 : Int64))] (.long (0 : Int64))
theorem ef43 (a : Addr) (m : MethodId) : entryFrame m #[(.ref a), (.long (0 : Int64))] 5 = mkF m 0 #[.val (.ref a), .val (.long (0 : Int64)), .second, .unset, .unset] [] := by first | (simp [entryFrame, mkF, argsToLocals, Value.category]; done) | rfl
set_option maxRecDepth 65536 in
set_option maxHeartbeats 40000000 in
theorem rm43 (l : Launch) (Z : State) (a0 : Array Value) (hw : ∀ d ∈ tables_1, d.before a0 Z = true) (ws : List Jvm.Cond) (a : Addr) (ka : ClassId) (x0 : Int64) (x1 : Int64) (x2 : Int64) (h0 : Heap) (n0 : Nat) (Z0 : n0 ≤ h0.size) (V : Arv Z h0 a ka .long (3 : Int32) [(.long x0), (.long x1), (.long x2)] (.long (0 : Int64))) (ga : n0 ≤ a) : OMet l Z ws (⟨"java/util/Arrays", "fill", "([JJ)V"⟩ : MethodName) jdk_65_method_101_code 5 none R43 #[(.ref a), (.long (0 : Int64))] h0 n0 (Q43 Z a ka x0 x1 x2 h0) := by
  refine OMet.of (plainFor_of_name pn_1) (ef43 a) Z0 ?_
  intro p e s m below meth c T0 Y0 hnm
  have Y0 : Sd Z "java/util/Arrays" jdk_65_method_101_code 5 none n0 p l e R43 s m #[(.ref a), (.long (0 : Int64))] below meth c T0 h0 0 0 := Y0
  refine Gl.iconst Y0 (v := (0 : Int32)) (by decide) d_jdk_65_method_101_0 rfl ?_
  refine Gl.istoreN Y0 (L' := #[.val (.ref a), .val (.long (0 : Int64)), .second, .val (.int (0 : Int32)), .unset]) rfl d_jdk_65_method_101_1 rfl ?_
  refine Gl.aloadN Y0 rfl rfl d_jdk_65_method_101_2 rfl ?_
  refine Gl.arraylength Y0 V d_jdk_65_method_101_3 rfl ?_
  refine Gl.istore Y0 (L' := #[.val (.ref a), .val (.long (0 : Int64)), .second, .val (.int (0 : Int32)), .val (.int (3 : Int32))]) rfl d_jdk_65_method_101_4 rfl ?_
  refine Gl.iloadN Y0 rfl d_jdk_65_method_101_6 rfl ?_
  refine Gl.iload Y0 rfl d_jdk_65_method_101_7 rfl ?_
  refine Gl.icmpge Y0 d_jdk_65_method_101_9 (by decide) rfl rfl (fun c9 => ?_) (fun c9 => ?_)
  · exact absurd c9 (by decide)
  refine Gl.aloadN Y0 rfl rfl d_jdk_65_method_101_12 rfl ?_
  refine Gl.iloadN Y0 rfl d_jdk_65_method_101_13 rfl ?_
  refine Gl.lloadN Y0 rfl d_jdk_65_method_101_14 rfl ?_
  refine Gl.lastore Y0 V (v := (.long (0 : Int64))) rfl ⟨by decide, by decide⟩ (ix := 0) rfl (Nat.le_of_ble_eq_true rfl) ga d_jdk_65_method_101_15 rfl (fun T15 h15 Y15 W15 A15 => ?_)
  have A15 : Arv Z h15 a ka .long (3 : Int32) [(.long (0 : Int64)), (.long x1), (.long x2)] (.long (0 : Int64)) := A15
  have K15 : Keep h0 h15 [a] := (Keep.refl h0 [a]).wr W15 (Or.inl (List.mem_of_getElem? (i := 0) rfl))
  show Gl p e below _ (T15.setTop (mkF m 16 #[.val (.ref a), .val (.long (0 : Int64)), .second, .val (.int (0 : Int32)), .val (.int (3 : Int32))] []))
  refine Gl.iinc Y15 rfl (r := (1 : Int32)) (by decide) (L' := #[.val (.ref a), .val (.long (0 : Int64)), .second, .val (.int (1 : Int32)), .val (.int (3 : Int32))]) rfl d_jdk_65_method_101_16 rfl ?_
  refine Gl.goto Y15 d_jdk_65_method_101_19 (by decide) rfl ?_
  refine Gl.iloadN Y15 rfl d_jdk_65_method_101_6 rfl ?_
  refine Gl.iload Y15 rfl d_jdk_65_method_101_7 rfl ?_
  refine Gl.icmpge Y15 d_jdk_65_method_101_9 (by decide) rfl rfl (fun c9_2 => ?_) (fun c9_2 => ?_)
  · exact absurd c9_2 (by decide)
  refine Gl.aloadN Y15 rfl rfl d_jdk_65_method_101_12 rfl ?_
  refine Gl.iloadN Y15 rfl d_jdk_65_method_101_13 rfl ?_
  refine Gl.lloadN Y15 rfl d_jdk_65_method_101_14 rfl ?_
  refine Gl.lastore Y15 A15 (v := (.long (0 : Int64))) rfl ⟨by decide, by decide⟩ (ix := 1) rfl (Nat.le_of_ble_eq_true rfl) ga d_jdk_65_method_101_15 rfl (fun T15_2 h15_2 Y15_2 W15_2 A15_2 => ?_)
  have A15_2 : Arv Z h15_2 a ka .long (3 : Int32) [(.long (0 : Int64)), (.long (0 : Int64)), (.long x2)] (.long (0 : Int64)) := A15_2
  have K15_2 : Keep h0 h15_2 [a] := K15.wr W15_2 (Or.inl (List.mem_of_getElem? (i := 0) rfl))
  show Gl p e below _ (T15_2.setTop (mkF m 16 #[.val (.ref a), .val (.long (0 : Int64)), .second, .val (.int (1 : Int32)), .val (.int (3 : Int32))] []))
  refine Gl.iinc Y15_2 rfl (r := (2 : Int32)) (by decide) (L' := #[.val (.ref a), .val (.long (0 : Int64)), .second, .val (.int (2 : Int32)), .val (.int (3 : Int32))]) rfl d_jdk_65_method_101_16 rfl ?_
  refine Gl.goto Y15_2 d_jdk_65_method_101_19 (by decide) rfl ?_
  refine Gl.iloadN Y15_2 rfl d_jdk_65_method_101_6 rfl ?_
  refine Gl.iload Y15_2 rfl d_jdk_65_method_101_7 rfl ?_
  refine Gl.icmpge Y15_2 d_jdk_65_method_101_9 (by decide) rfl rfl (fun c9_3 => ?_) (fun c9_3 => ?_)
  · exact absurd c9_3 (by decide)
  refine Gl.aloadN Y15_2 rfl rfl d_jdk_65_method_101_12 rfl ?_
  refine Gl.iloadN Y15_2 rfl d_jdk_65_method_101_13 rfl ?_
  refine Gl.lloadN Y15_2 rfl d_jdk_65_method_101_14 rfl ?_
  refine Gl.lastore Y15_2 A15_2 (v := (.long (0 : Int64))) rfl ⟨by decide, by decide⟩ (ix := 2) rfl (Nat.le_of_ble_eq_true rfl) ga d_jdk_65_method_101_15 rfl (fun T15_3 h15_3 Y15_3 W15_3 A15_3 => ?_)
  have A15_3 : Arv Z h15_3 a ka .long (3 : Int32) [(.long (0 : Int64)), (.long (0 : Int64)), (.long (0 : Int64))] (.long (0 : Int64)) := A15_3
  have K15_3 : Keep h0 h15_3 [a] := K15_2.wr W15_3 (Or.inl (List.mem_of_getElem? (i := 0) rfl))
  show Gl p e below _ (T15_3.setTop (mkF m 16 #[.val (.ref a), .val (.long (0 : Int64)), .second, .val (.int (2 : Int32)), .val (.int (3 : Int32))] []))
  refine Gl.iinc Y15_3 rfl (r := (3 : Int32)) (by decide) (L' := #[.val (.ref a), .val (.long (0 : Int64)), .second, .val (.int (3 : Int32)), .val (.int (3 : Int32))]) rfl d_jdk_65_method_101_16 rfl ?_
  refine Gl.goto Y15_3 d_jdk_65_method_101_19 (by decide) rfl ?_
  refine Gl.iloadN Y15_3 rfl d_jdk_65_method_101_6 rfl ?_
  refine Gl.iload Y15_3 rfl d_jdk_65_method_101_7 rfl ?_
  refine Gl.icmpge Y15_3 d_jdk_65_method_101_9 (by decide) rfl rfl (fun c9_4 => ?_) (fun c9_4 => ?_)
  rotate_left
  · exact absurd c9_4 (by decide)
  exact Gl.retV Y15_3 (by decide) (by decide)  d_jdk_65_method_101_22 ⟨rfl, K15_3, A15_3⟩
def R44 : Room := { frames := 0, cells := 0, slots := 0, locals := 0 }
def Q44 (Z : State) (o : Addr) (wo : Addr) (ko : ClassId) (x0 : Int64) (x1 : Int64) (x2 : Int64) (h0 : Heap) (v : Option Value) (h : Heap) : Prop := v = some (.long x2) ∧ h0 = h
theorem ef44 (o : Addr) (m : MethodId) : entryFrame m #[(.ref o)] 1 = mkF m 0 #[.val (.ref o)] [] := by first | (simp [entryFrame, mkF, argsToLocals, Value.category]; done) | rfl
set_option maxRecDepth 65536 in
set_option maxHeartbeats 40000000 in
theorem rm44 (l : Launch) (Z : State) (a0 : Array Value) (hw : ∀ d ∈ tables_1, d.before a0 Z = true) (ws : List Jvm.Cond) (o : Addr) (wo : Addr) (ko : ClassId) (x0 : Int64) (x1 : Int64) (x2 : Int64) (h0 : Heap) (n0 : Nat) (Z0 : n0 ≤ h0.size) (E_o : Exa Z h0 o "com/example/meterwise/meterwise/model/WholeNumber") (F_o : Fld Z h0 o "com/example/meterwise/meterwise/model/WholeNumber" "words" "[J" (.ref wo)) (V_o : Arv Z h0 wo ko .long (3 : Int32) [(.long x0), (.long x1), (.long x2)] (.long (0 : Int64))) : OMet l Z ws (⟨"com/example/meterwise/meterwise/model/WholeNumber", "top", "()J"⟩ : MethodName) prog_137_method_31_code 1 (some .long) R44 #[(.ref o)] h0 n0 (Q44 Z o wo ko x0 x1 x2 h0) := by
  refine OMet.of (plainFor_of_name pn_0) (ef44 o) Z0 ?_
  intro p e s m below meth c T0 Y0 hnm
  have Y0 : Sd Z "com/example/meterwise/meterwise/model/WholeNumber" prog_137_method_31_code 1 (some .long) n0 p l e R44 s m #[(.ref o)] below meth c T0 h0 0 0 := Y0
  refine Gl.aloadN Y0 rfl rfl d_prog_137_method_31_0 rfl ?_
  refine Gl.getF Y0 (host := "") (Or.inl (tw_14 hw)) Via.refl F_o d_prog_137_method_31_1 rfl (fun T1 Y1 => ?_)
  refine Gl.aloadN Y1 rfl rfl d_prog_137_method_31_4 rfl ?_
  refine Gl.getF Y1 (host := "") (Or.inl (tw_14 hw)) Via.refl F_o d_prog_137_method_31_5 rfl (fun T5 Y5 => ?_)
  refine Gl.arraylength Y5 V_o d_prog_137_method_31_8 rfl ?_
  refine Gl.iconst Y5 (v := (1 : Int32)) (by decide) d_prog_137_method_31_9 rfl ?_
  refine Gl.isub Y5 (r := (2 : Int32)) (by decide) d_prog_137_method_31_10 rfl ?_
  refine Gl.laload Y5 V_o ⟨by decide, by decide⟩ (v := (.long x2)) rfl d_prog_137_method_31_11 rfl ?_
  exact Gl.retJ Y5 (by decide) (by decide)  d_prog_137_method_31_12 ⟨rfl, rfl⟩
def R45 : Room := { frames := 1, cells := 0, slots := 0, locals := 16 }
def Q45 (Z : State) (o : Addr) (wo : Addr) (ko : ClassId) (x0 : Int64) (x1 : Int64) (x2 : Int64) (h0 : Heap) (v : Option Value) (h : Heap) : Prop := v = some (.ref o) ∧ Keep h0 h [wo] ∧ Arv Z h wo ko .long (3 : Int32) [(.long (0 : Int64)), (.long (0 : Int64)), (.long (-9223372036854775808 : Int64))] (.long (0 : Int64))
theorem ef45 (o : Addr) (m : MethodId) : entryFrame m #[(.ref o)] 1 = mkF m 0 #[.val (.ref o)] [] := by first | (simp [entryFrame, mkF, argsToLocals, Value.category]; done) | rfl
set_option maxRecDepth 65536 in
set_option maxHeartbeats 40000000 in
theorem rm45 (l : Launch) (Z : State) (a0 : Array Value) (hw : ∀ d ∈ tables_1, d.before a0 Z = true) (ws : List Jvm.Cond) (o : Addr) (wo : Addr) (ko : ClassId) (x0 : Int64) (x1 : Int64) (x2 : Int64) (h0 : Heap) (n0 : Nat) (Z0 : n0 ≤ h0.size) (E_o : Exa Z h0 o "com/example/meterwise/meterwise/model/WholeNumber") (F_o : Fld Z h0 o "com/example/meterwise/meterwise/model/WholeNumber" "words" "[J" (.ref wo)) (V_o : Arv Z h0 wo ko .long (3 : Int32) [(.long x0), (.long x1), (.long x2)] (.long (0 : Int64))) (g_o : n0 ≤ wo) (nn_o : o ≠ wo) : OMet l Z ws (⟨"com/example/meterwise/meterwise/model/WholeNumber", "overflow", "()Lcom/example/meterwise/meterwise/model/WholeNumber;"⟩ : MethodName) prog_137_method_7_code 1 (some (.object "com/example/meterwise/meterwise/model/WholeNumber")) R45 #[(.ref o)] h0 n0 (Q45 Z o wo ko x0 x1 x2 h0) := by
  refine OMet.of (plainFor_of_name pn_0) (ef45 o) Z0 ?_
  intro p e s m below meth c T0 Y0 hnm
  have Y0 : Sd Z "com/example/meterwise/meterwise/model/WholeNumber" prog_137_method_7_code 1 (some (.object "com/example/meterwise/meterwise/model/WholeNumber")) n0 p l e R45 s m #[(.ref o)] below meth c T0 h0 0 0 := Y0
  refine Gl.aloadN Y0 rfl rfl d_prog_137_method_7_0 rfl ?_
  refine Gl.getF Y0 (host := "") (Or.inl (tw_14 hw)) Via.refl F_o d_prog_137_method_7_1 rfl (fun T1 Y1 => ?_)
  refine Gl.lconst Y1 (v := (0 : Int64)) (by decide) d_prog_137_method_7_4 rfl ?_
  refine Gl.callS Y1 (tw_33 hw) (tw_34 hw) (tw_23 hw) (tw_35 hw) (by decide) (rm43 l Z a0 hw [] wo ko x0 x1 x2 h0 n0 Y1.sz V_o g_o) (argsL := [(.ref wo), (.long (0 : Int64))]) (rest := []) rfl rfl (lenOf pd_1 rfl) rfl (by decide) (Nat.le_of_ble_eq_true rfl) (by decide) (by decide) d_prog_137_method_7_5 rfl (fun v5 T5 h5 Y5 q5 => ?_)
  obtain ⟨rfl, K5, f5_0⟩ := q5
  have KK5 : Keep h0 h5 [wo] := (Keep.refl h0 [wo]).trans K5 (allS (Or.inl (List.mem_of_getElem? (i := 0) rfl)) all0)
  show Gl p e below _ (T5.setTop (mkF m 8 #[.val (.ref o)] []))
  refine Gl.aloadN Y5 rfl rfl d_prog_137_method_7_8 rfl ?_
  have f1 : Fld Z h5 o "com/example/meterwise/meterwise/model/WholeNumber" "words" "[J" (.ref wo) := (F_o.keep K5 (ninS nn_o nin0))
  refine Gl.getF Y5 (host := "") (Or.inl (tw_14 hw)) Via.refl f1 d_prog_137_method_7_9 rfl (fun T9 Y9 => ?_)
  refine Gl.aloadN Y9 rfl rfl d_prog_137_method_7_12 rfl ?_
  refine Gl.getF Y9 (host := "") (Or.inl (tw_14 hw)) Via.refl f1 d_prog_137_method_7_13 rfl (fun T13 Y13 => ?_)
  refine Gl.arraylength Y13 f5_0 d_prog_137_method_7_16 rfl ?_
  refine Gl.iconst Y13 (v := (1 : Int32)) (by decide) d_prog_137_method_7_17 rfl ?_
  refine Gl.isub Y13 (r := (2 : Int32)) (by decide) d_prog_137_method_7_18 rfl ?_
  refine Gl.ldcJ Y13 (tw_36 hw) d_prog_137_method_7_19 rfl ?_
  refine Gl.lastore Y13 f5_0 (v := (.long (-9223372036854775808 : Int64))) rfl ⟨by decide, by decide⟩ (ix := 2) rfl (Nat.le_of_ble_eq_true rfl) g_o d_prog_137_method_7_22 rfl (fun T22 h22 Y22 W22 A22 => ?_)
  have A22 : Arv Z h22 wo ko .long (3 : Int32) [(.long (0 : Int64)), (.long (0 : Int64)), (.long (-9223372036854775808 : Int64))] (.long (0 : Int64)) := A22
  have K22 : Keep h0 h22 [wo] := KK5.wr W22 (Or.inl (List.mem_of_getElem? (i := 0) rfl))
  show Gl p e below _ (T22.setTop (mkF m 23 #[.val (.ref o)] []))
  refine Gl.aloadN Y22 rfl rfl d_prog_137_method_7_23 rfl ?_
  exact Gl.retA Y22 (by decide) (by decide) rfl rfl d_prog_137_method_7_24 ⟨rfl, K22, A22⟩
def R46 : Room := { frames := 2, cells := 0, slots := 0, locals := 31 }
def Q46 (Z : State) (o : Addr) (wo : Addr) (ko : ClassId) (x0 : Int64) (x1 : Int64) (x2 : Int64) (v1 : Int64) (h0 : Heap) (v : Option Value) (h : Heap) : Prop := v = some (.ref o) ∧ Keep h0 h [wo] ∧ Arv Z h wo ko .long (3 : Int32) [(.long v1), (.long (v1 >>> ((63 : Int32) &&& 0x3f).toInt64)), (.long (v1 >>> ((63 : Int32) &&& 0x3f).toInt64))] (.long (0 : Int64))
theorem ef46 (o : Addr) (v1 : Int64) (m : MethodId) : entryFrame m #[(.ref o), (.long v1)] 3 = mkF m 0 #[.val (.ref o), .val (.long v1), .second] [] := by first | (simp [entryFrame, mkF, argsToLocals, Value.category]; done) | rfl
set_option maxRecDepth 65536 in
set_option maxHeartbeats 40000000 in
theorem rm46 (l : Launch) (Z : State) (a0 : Array Value) (hw : ∀ d ∈ tables_1, d.before a0 Z = true) (ws : List Jvm.Cond) (o : Addr) (wo : Addr) (ko : ClassId) (x0 : Int64) (x1 : Int64) (x2 : Int64) (v1 : Int64) (h0 : Heap) (n0 : Nat) (Z0 : n0 ≤ h0.size) (E_o : Exa Z h0 o "com/example/meterwise/meterwise/model/WholeNumber") (F_o : Fld Z h0 o "com/example/meterwise/meterwise/model/WholeNumber" "words" "[J" (.ref wo)) (V_o : Arv Z h0 wo ko .long (3 : Int32) [(.long x0), (.long x1), (.long x2)] (.long (0 : Int64))) (g_o : n0 ≤ wo) (nn_o : o ≠ wo) : OMet l Z ws (⟨"com/example/meterwise/meterwise/model/WholeNumber", "set", "(J)Lcom/example/meterwise/meterwise/model/WholeNumber;"⟩ : MethodName) prog_137_method_4_code 3 (some (.object "com/example/meterwise/meterwise/model/WholeNumber")) R46 #[(.ref o), (.long v1)] h0 n0 (Q46 Z o wo ko x0 x1 x2 v1 h0) := by
  refine OMet.of (plainFor_of_name pn_0) (ef46 o v1) Z0 ?_
  intro p e s m below meth c T0 Y0 hnm
  have Y0 : Sd Z "com/example/meterwise/meterwise/model/WholeNumber" prog_137_method_4_code 3 (some (.object "com/example/meterwise/meterwise/model/WholeNumber")) n0 p l e R46 s m #[(.ref o), (.long v1)] below meth c T0 h0 0 0 := Y0
  refine Gl.aloadN Y0 rfl rfl d_prog_137_method_4_0 rfl ?_
  refine Gl.getF Y0 (host := "") (Or.inl (tw_14 hw)) Via.refl F_o d_prog_137_method_4_1 rfl (fun T1 Y1 => ?_)
  refine Gl.iconst Y1 (v := (0 : Int32)) (by decide) d_prog_137_method_4_4 rfl ?_
  refine Gl.lloadN Y1 rfl d_prog_137_method_4_5 rfl ?_
  refine Gl.lastore Y1 V_o (v := (.long v1)) rfl ⟨by decide, by decide⟩ (ix := 0) rfl (Nat.le_of_ble_eq_true rfl) g_o d_prog_137_method_4_6 rfl (fun T6 h6 Y6 W6 A6 => ?_)
  have A6 : Arv Z h6 wo ko .long (3 : Int32) [(.long v1), (.long x1), (.long x2)] (.long (0 : Int64)) := A6
  have K6 : Keep h0 h6 [wo] := (Keep.refl h0 [wo]).wr W6 (Or.inl (List.mem_of_getElem? (i := 0) rfl))
  show Gl p e below _ (T6.setTop (mkF m 7 #[.val (.ref o), .val (.long v1), .second] []))
  refine Gl.aloadN Y6 rfl rfl d_prog_137_method_4_7 rfl ?_
  have f1 : Fld Z h6 o "com/example/meterwise/meterwise/model/WholeNumber" "words" "[J" (.ref wo) := (Fld.other W6 F_o (Or.inl nn_o))
  refine Gl.getF Y6 (host := "") (Or.inl (tw_14 hw)) Via.refl f1 d_prog_137_method_4_8 rfl (fun T8 Y8 => ?_)
  refine Gl.iconst Y8 (v := (1 : Int32)) (by decide) d_prog_137_method_4_11 rfl ?_
  refine Gl.aloadN Y8 rfl rfl d_prog_137_method_4_12 rfl ?_
  refine Gl.getF Y8 (host := "") (Or.inl (tw_14 hw)) Via.refl f1 d_prog_137_method_4_13 rfl (fun T13 Y13 => ?_)
  refine Gl.arraylength Y13 A6 d_prog_137_method_4_16 rfl ?_
  refine Gl.lloadN Y13 rfl d_prog_137_method_4_17 rfl ?_
  refine Gl.bipush Y13 (v := (63 : Int32)) (by decide) d_prog_137_method_4_18 rfl ?_
  refine Gl.lshr Y13 rfl d_prog_137_method_4_20 rfl ?_
  refine Gl.callS Y13 (tw_21 hw) (tw_22 hw) (tw_23 hw) (tw_24 hw) (by decide) (rm42 l Z a0 hw [] wo ko (v1 >>> ((63 : Int32) &&& 0x3f).toInt64) v1 x1 x2 h6 n0 Y13.sz A6 g_o) (argsL := [(.ref wo), (.int (1 : Int32)), (.int (3 : Int32)), (.long (v1 >>> ((63 : Int32) &&& 0x3f).toInt64))]) (rest := []) rfl rfl (lenOf pd_2 rfl) rfl (by decide) (Nat.le_of_ble_eq_true rfl) (by decide) (by decide) d_prog_137_method_4_21 rfl (fun v21 T21 h21 Y21 q21 => ?_)
  obtain ⟨rfl, K21, f21_0⟩ := q21
  have KK21 : Keep h0 h21 [wo] := K6.trans K21 (allS (Or.inl (List.mem_of_getElem? (i := 0) rfl)) all0)
  show Gl p e below _ (T21.setTop (mkF m 24 #[.val (.ref o), .val (.long v1), .second] []))
  refine Gl.aloadN Y21 rfl rfl d_prog_137_method_4_24 rfl ?_
  exact Gl.retA Y21 (by decide) (by decide) rfl rfl d_prog_137_method_4_25 ⟨rfl, KK21, f21_0⟩
def R47 : Room := { frames := 0, cells := 0, slots := 0, locals := 0 }
def Q47 (Z : State) (o : Addr) (wo : Addr) (ko : ClassId) (x0 : Int64) (x1 : Int64) (x2 : Int64) (h0 : Heap) (v : Option Value) (h : Heap) : Prop := ∃ r : Int32, v = some (.int r) ∧ (((x0 = 0 ∧ x1 = 0) ∧ r = 1) ∨ (¬ (x0 = 0 ∧ x1 = 0) ∧ r = 0)) ∧ h0 = h
theorem ef47 (o : Addr) (m : MethodId) : entryFrame m #[(.ref o)] 2 = mkF m 0 #[.val (.ref o), .unset] [] := by first | (simp [entryFrame, mkF, argsToLocals, Value.category]; done) | rfl
set_option maxRecDepth 65536 in
set_option maxHeartbeats 40000000 in
theorem rm47 (l : Launch) (Z : State) (a0 : Array Value) (hw : ∀ d ∈ tables_1, d.before a0 Z = true) (ws : List Jvm.Cond) (o : Addr) (wo : Addr) (ko : ClassId) (x0 : Int64) (x1 : Int64) (x2 : Int64) (h0 : Heap) (n0 : Nat) (Z0 : n0 ≤ h0.size) (E_o : Exa Z h0 o "com/example/meterwise/meterwise/model/WholeNumber") (F_o : Fld Z h0 o "com/example/meterwise/meterwise/model/WholeNumber" "words" "[J" (.ref wo)) (V_o : Arv Z h0 wo ko .long (3 : Int32) [(.long x0), (.long x1), (.long x2)] (.long (0 : Int64))) : OMet l Z ws (⟨"com/example/meterwise/meterwise/model/WholeNumber", "zeroBelowTop", "()Z"⟩ : MethodName) prog_137_method_10_code 2 (some .boolean) R47 #[(.ref o)] h0 n0 (Q47 Z o wo ko x0 x1 x2 h0) := by
  refine OMet.of (plainFor_of_name pn_0) (ef47 o) Z0 ?_
  intro p e s m below meth c T0 Y0 hnm
  have Y0 : Sd Z "com/example/meterwise/meterwise/model/WholeNumber" prog_137_method_10_code 2 (some .boolean) n0 p l e R47 s m #[(.ref o)] below meth c T0 h0 0 0 := Y0
  refine Gl.iconst Y0 (v := (0 : Int32)) (by decide) d_prog_137_method_10_0 rfl ?_
  refine Gl.istoreN Y0 (L' := #[.val (.ref o), .val (.int (0 : Int32))]) rfl d_prog_137_method_10_1 rfl ?_
  refine Gl.iloadN Y0 rfl d_prog_137_method_10_2 rfl ?_
  refine Gl.aloadN Y0 rfl rfl d_prog_137_method_10_3 rfl ?_
  refine Gl.getF Y0 (host := "") (Or.inl (tw_14 hw)) Via.refl F_o d_prog_137_method_10_4 rfl (fun T4 Y4 => ?_)
  refine Gl.arraylength Y4 V_o d_prog_137_method_10_7 rfl ?_
  refine Gl.iconst Y4 (v := (1 : Int32)) (by decide) d_prog_137_method_10_8 rfl ?_
  refine Gl.isub Y4 (r := (2 : Int32)) (by decide) d_prog_137_method_10_9 rfl ?_
  refine Gl.icmpge Y4 d_prog_137_method_10_10 (by decide) rfl rfl (fun c10 => ?_) (fun c10 => ?_)
  · exact absurd c10 (by decide)
  refine Gl.aloadN Y4 rfl rfl d_prog_137_method_10_13 rfl ?_
  refine Gl.getF Y4 (host := "") (Or.inl (tw_14 hw)) Via.refl F_o d_prog_137_method_10_14 rfl (fun T14 Y14 => ?_)
  refine Gl.iloadN Y14 rfl d_prog_137_method_10_17 rfl ?_
  refine Gl.laload Y14 V_o ⟨by decide, by decide⟩ (v := (.long x0)) rfl d_prog_137_method_10_18 rfl ?_
  refine Gl.lconst Y14 (v := (0 : Int64)) (by decide) d_prog_137_method_10_19 rfl ?_
  refine Gl.lcmpeq Y14 d_prog_137_method_10_20 rfl d_prog_137_method_10_21 (by decide) rfl rfl (fun c21 => ?_) (fun c21 => ?_)
  · refine Gl.iinc Y14 rfl (r := (1 : Int32)) (by decide) (L' := #[.val (.ref o), .val (.int (1 : Int32))]) rfl d_prog_137_method_10_26 rfl ?_
    refine Gl.goto Y14 d_prog_137_method_10_29 (by decide) rfl ?_
    refine Gl.iloadN Y14 rfl d_prog_137_method_10_2 rfl ?_
    refine Gl.aloadN Y14 rfl rfl d_prog_137_method_10_3 rfl ?_
    refine Gl.getF Y14 (host := "") (Or.inl (tw_14 hw)) Via.refl F_o d_prog_137_method_10_4 rfl (fun T4_2 Y4_2 => ?_)
    refine Gl.arraylength Y4_2 V_o d_prog_137_method_10_7 rfl ?_
    refine Gl.iconst Y4_2 (v := (1 : Int32)) (by decide) d_prog_137_method_10_8 rfl ?_
    refine Gl.isub Y4_2 (r := (2 : Int32)) (by decide) d_prog_137_method_10_9 rfl ?_
    refine Gl.icmpge Y4_2 d_prog_137_method_10_10 (by decide) rfl rfl (fun c10_2 => ?_) (fun c10_2 => ?_)
    · exact absurd c10_2 (by decide)
    refine Gl.aloadN Y4_2 rfl rfl d_prog_137_method_10_13 rfl ?_
    refine Gl.getF Y4_2 (host := "") (Or.inl (tw_14 hw)) Via.refl F_o d_prog_137_method_10_14 rfl (fun T14_2 Y14_2 => ?_)
    refine Gl.iloadN Y14_2 rfl d_prog_137_method_10_17 rfl ?_
    refine Gl.laload Y14_2 V_o ⟨by decide, by decide⟩ (v := (.long x1)) rfl d_prog_137_method_10_18 rfl ?_
    refine Gl.lconst Y14_2 (v := (0 : Int64)) (by decide) d_prog_137_method_10_19 rfl ?_
    refine Gl.lcmpeq Y14_2 d_prog_137_method_10_20 rfl d_prog_137_method_10_21 (by decide) rfl rfl (fun c21_2 => ?_) (fun c21_2 => ?_)
    · refine Gl.iinc Y14_2 rfl (r := (2 : Int32)) (by decide) (L' := #[.val (.ref o), .val (.int (2 : Int32))]) rfl d_prog_137_method_10_26 rfl ?_
      refine Gl.goto Y14_2 d_prog_137_method_10_29 (by decide) rfl ?_
      refine Gl.iloadN Y14_2 rfl d_prog_137_method_10_2 rfl ?_
      refine Gl.aloadN Y14_2 rfl rfl d_prog_137_method_10_3 rfl ?_
      refine Gl.getF Y14_2 (host := "") (Or.inl (tw_14 hw)) Via.refl F_o d_prog_137_method_10_4 rfl (fun T4_3 Y4_3 => ?_)
      refine Gl.arraylength Y4_3 V_o d_prog_137_method_10_7 rfl ?_
      refine Gl.iconst Y4_3 (v := (1 : Int32)) (by decide) d_prog_137_method_10_8 rfl ?_
      refine Gl.isub Y4_3 (r := (2 : Int32)) (by decide) d_prog_137_method_10_9 rfl ?_
      refine Gl.icmpge Y4_3 d_prog_137_method_10_10 (by decide) rfl rfl (fun c10_3 => ?_) (fun c10_3 => ?_)
      rotate_left
      · exact absurd c10_3 (by decide)
      refine Gl.iconst Y4_3 (v := (1 : Int32)) (by decide) d_prog_137_method_10_32 rfl ?_
      exact Gl.retZ Y4_3 (by decide) (by decide) (x' := (1 : Int32)) (by decide) d_prog_137_method_10_33 ⟨(1 : Int32), rfl, Or.inl ⟨⟨c21, c21_2⟩, rfl⟩, rfl⟩
    · refine Gl.iconst Y14_2 (v := (0 : Int32)) (by decide) d_prog_137_method_10_24 rfl ?_
      exact Gl.retZ Y14_2 (by decide) (by decide) (x' := (0 : Int32)) (by decide) d_prog_137_method_10_25 ⟨(0 : Int32), rfl, Or.inr ⟨fun q => c21_2 q.2, rfl⟩, rfl⟩
  · refine Gl.iconst Y14 (v := (0 : Int32)) (by decide) d_prog_137_method_10_24 rfl ?_
    exact Gl.retZ Y14 (by decide) (by decide) (x' := (0 : Int32)) (by decide) d_prog_137_method_10_25 ⟨(0 : Int32), rfl, Or.inr ⟨fun q => c21 q.1, rfl⟩, rfl⟩
def R48 : Room := { frames := 1, cells := 0, slots := 0, locals := 13 }
def Q48 (Z : State) (o : Addr) (wo : Addr) (ko : ClassId) (x0 : Int64) (x1 : Int64) (x2 : Int64) (h0 : Heap) (v : Option Value) (h : Heap) : Prop := ∃ r : Int32, v = some (.int r) ∧ (((x2 = (-9223372036854775808) ∧ x0 = 0 ∧ x1 = 0) ∧ r = 1) ∨ (¬ (x2 = (-9223372036854775808) ∧ x0 = 0 ∧ x1 = 0) ∧ r = 0)) ∧ h0 = h
theorem ef48 (o : Addr) (m : MethodId) : entryFrame m #[(.ref o)] 1 = mkF m 0 #[.val (.ref o)] [] := by first | (simp [entryFrame, mkF, argsToLocals, Value.category]; done) | rfl
set_option maxRecDepth 65536 in
set_option maxHeartbeats 40000000 in
theorem rm48 (l : Launch) (Z : State) (a0 : Array Value) (hw : ∀ d ∈ tables_1, d.before a0 Z = true) (ws : List Jvm.Cond) (o : Addr) (wo : Addr) (ko : ClassId) (x0 : Int64) (x1 : Int64) (x2 : Int64) (h0 : Heap) (n0 : Nat) (Z0 : n0 ≤ h0.size) (E_o : Exa Z h0 o "com/example/meterwise/meterwise/model/WholeNumber") (F_o : Fld Z h0 o "com/example/meterwise/meterwise/model/WholeNumber" "words" "[J" (.ref wo)) (V_o : Arv Z h0 wo ko .long (3 : Int32) [(.long x0), (.long x1), (.long x2)] (.long (0 : Int64))) : OMet l Z ws (⟨"com/example/meterwise/meterwise/model/WholeNumber", "overflowed", "()Z"⟩ : MethodName) prog_137_method_8_code 1 (some .boolean) R48 #[(.ref o)] h0 n0 (Q48 Z o wo ko x0 x1 x2 h0) := by
  refine OMet.of (plainFor_of_name pn_0) (ef48 o) Z0 ?_
  intro p e s m below meth c T0 Y0 hnm
  have Y0 : Sd Z "com/example/meterwise/meterwise/model/WholeNumber" prog_137_method_8_code 1 (some .boolean) n0 p l e R48 s m #[(.ref o)] below meth c T0 h0 0 0 := Y0
  refine Gl.aloadN Y0 rfl rfl d_prog_137_method_8_0 rfl ?_
  refine Gl.callP Y0 (tw_51 hw) (tw_52 hw) (tw_53 hw) (tw_1 hw) (tw_2 hw) (tw_54 hw) (by decide) E_o (rm44 l Z a0 hw [] o wo ko x0 x1 x2 h0 n0 Y0.sz E_o F_o V_o) (a := o) (argsL := []) (rest := []) rfl rfl (lenOf pd_3 rfl) rfl (by decide) (Nat.le_of_ble_eq_true rfl) (by decide) (by decide) d_prog_137_method_8_1 rfl (fun v1 T1 h1 Y1 q1 => ?_)
  obtain ⟨rfl, rfl⟩ := q1
  show Gl p e below _ (T1.setTop (mkF m 4 #[.val (.ref o)] [(.long x2)]))
  refine Gl.ldcJ Y1 (tw_36 hw) d_prog_137_method_8_4 rfl ?_
  refine Gl.lcmpne Y1 d_prog_137_method_8_7 rfl d_prog_137_method_8_8 (by decide) rfl rfl (fun c8 => ?_) (fun c8 => ?_)
  · refine Gl.iconst Y1 (v := (0 : Int32)) (by decide) d_prog_137_method_8_22 rfl ?_
    exact Gl.retZ Y1 (by decide) (by decide) (x' := (0 : Int32)) (by decide) d_prog_137_method_8_23 ⟨(0 : Int32), rfl, Or.inr ⟨fun q => c8 q.1, rfl⟩, rfl⟩
  · refine Gl.aloadN Y1 rfl rfl d_prog_137_method_8_11 rfl ?_
    refine Gl.callP Y1 (tw_55 hw) (tw_56 hw) (tw_57 hw) (tw_1 hw) (tw_2 hw) (tw_58 hw) (by decide) E_o (rm47 l Z a0 hw [] o wo ko x0 x1 x2 h0 n0 Y1.sz E_o F_o V_o) (a := o) (argsL := []) (rest := []) rfl rfl (lenOf pd_4 rfl) rfl (by decide) (Nat.le_of_ble_eq_true rfl) (by decide) (by decide) d_prog_137_method_8_12 rfl (fun v12 T12 h12 Y12 q12 => ?_)
    obtain ⟨r12, rfl, p12, rfl⟩ := q12
    have br12 : r12 = 0 ∨ r12 = 1 := by rcases p12 with q | q; exact Or.inr q.2; exact Or.inl q.2
    show Gl p e below _ (T12.setTop (mkF m 15 #[.val (.ref o)] [(.int r12)]))
    refine Gl.ifeq Y12 d_prog_137_method_8_15 (by decide) rfl rfl (fun c15 => ?_) (fun c15 => ?_)
    · refine Gl.iconst Y12 (v := (0 : Int32)) (by decide) d_prog_137_method_8_22 rfl ?_
      exact Gl.retZ Y12 (by decide) (by decide) (x' := (0 : Int32)) (by decide) d_prog_137_method_8_23 ⟨(0 : Int32), rfl, Or.inr ⟨fun q => (by rcases p12 with z | z; exact absurd (c15.symm.trans z.2) (by decide); exact z.1 q.2), rfl⟩, rfl⟩
    · refine Gl.iconst Y12 (v := (1 : Int32)) (by decide) d_prog_137_method_8_18 rfl ?_
      refine Gl.goto Y12 d_prog_137_method_8_19 (by decide) rfl ?_
      exact Gl.retZ Y12 (by decide) (by decide) (x' := (1 : Int32)) (by decide) d_prog_137_method_8_23 ⟨(1 : Int32), rfl, Or.inl ⟨⟨c8, (by rcases p12 with z | z; exact z.1; exact absurd z.2 c15)⟩, rfl⟩, rfl⟩
def R49 : Room := { frames := 0, cells := 0, slots := 0, locals := 0 }
def Q49 (Z : State) (h0 : Heap) (v : Option Value) (h : Heap) : Prop := v = some (.int (3 : Int32)) ∧ h0 = h
theorem ef49 (m : MethodId) : entryFrame m #[(.int (3 : Int32)), (.int (3 : Int32))] 2 = mkF m 0 #[.val (.int (3 : Int32)), .val (.int (3 : Int32))] [] := by first | (simp [entryFrame, mkF, argsToLocals, Value.category]; done) | rfl
set_option maxRecDepth 65536 in
set_option maxHeartbeats 40000000 in
theorem rm49 (l : Launch) (Z : State) (a0 : Array Value) (hw : ∀ d ∈ tables_1, d.before a0 Z = true) (ws : List Jvm.Cond) (h0 : Heap) (n0 : Nat) (Z0 : n0 ≤ h0.size) : OMet l Z ws (⟨"java/lang/Math", "max", "(II)I"⟩ : MethodName) jdk_29_method_65_code 2 (some .int) R49 #[(.int (3 : Int32)), (.int (3 : Int32))] h0 n0 (Q49 Z h0) := by
  refine OMet.of (Jvm.Free.JP.mathPlain rfl (by decide +kernel)) (ef49) Z0 ?_
  intro p e s m below meth c T0 Y0 hnm
  have Y0 : Sd Z "java/lang/Math" jdk_29_method_65_code 2 (some .int) n0 p l e R49 s m #[(.int (3 : Int32)), (.int (3 : Int32))] below meth c T0 h0 0 0 := Y0
  refine Gl.iloadN Y0 rfl d_jdk_29_method_65_0 rfl ?_
  refine Gl.iloadN Y0 rfl d_jdk_29_method_65_1 rfl ?_
  refine Gl.icmplt Y0 d_jdk_29_method_65_2 (by decide) rfl rfl (fun c2 => ?_) (fun c2 => ?_)
  · exact absurd c2 (by decide)
  refine Gl.iloadN Y0 rfl d_jdk_29_method_65_5 rfl ?_
  refine Gl.goto Y0 d_jdk_29_method_65_6 (by decide) rfl ?_
  exact Gl.retI Y0 (by decide) (by decide)  d_jdk_29_method_65_10 ⟨rfl, rfl⟩
def R50 : Room := { frames := 0, cells := 0, slots := 0, locals := 0 }
def Q50 (Z : State) (o : Addr) (wo : Addr) (ko : ClassId) (h0 : Heap) (v : Option Value) (h : Heap) : Prop := v = some (.long (0 : Int64)) ∧ h0 = h
theorem ef50 (o : Addr) (m : MethodId) : entryFrame m #[(.ref o)] 1 = mkF m 0 #[.val (.ref o)] [] := by first | (simp [entryFrame, mkF, argsToLocals, Value.category]; done) | rfl
set_option maxRecDepth 65536 in
set_option maxHeartbeats 40000000 in
theorem rm50 (l : Launch) (Z : State) (a0 : Array Value) (hw : ∀ d ∈ tables_1, d.before a0 Z = true) (ws : List Jvm.Cond) (o : Addr) (wo : Addr) (ko : ClassId) (h0 : Heap) (n0 : Nat) (Z0 : n0 ≤ h0.size) (E_o : Exa Z h0 o "com/example/meterwise/meterwise/model/WholeNumber") (F_o : Fld Z h0 o "com/example/meterwise/meterwise/model/WholeNumber" "words" "[J" (.ref wo)) (V_o : Arv Z h0 wo ko .long (3 : Int32) [(.long (0 : Int64)), (.long (0 : Int64)), (.long (0 : Int64))] (.long (0 : Int64))) : OMet l Z ws (⟨"com/example/meterwise/meterwise/model/WholeNumber", "top", "()J"⟩ : MethodName) prog_137_method_31_code 1 (some .long) R50 #[(.ref o)] h0 n0 (Q50 Z o wo ko h0) := by
  refine OMet.of (plainFor_of_name pn_0) (ef50 o) Z0 ?_
  intro p e s m below meth c T0 Y0 hnm
  have Y0 : Sd Z "com/example/meterwise/meterwise/model/WholeNumber" prog_137_method_31_code 1 (some .long) n0 p l e R50 s m #[(.ref o)] below meth c T0 h0 0 0 := Y0
  refine Gl.aloadN Y0 rfl rfl d_prog_137_method_31_0 rfl ?_
  refine Gl.getF Y0 (host := "") (Or.inl (tw_14 hw)) Via.refl F_o d_prog_137_method_31_1 rfl (fun T1 Y1 => ?_)
  refine Gl.aloadN Y1 rfl rfl d_prog_137_method_31_4 rfl ?_
  refine Gl.getF Y1 (host := "") (Or.inl (tw_14 hw)) Via.refl F_o d_prog_137_method_31_5 rfl (fun T5 Y5 => ?_)
  refine Gl.arraylength Y5 V_o d_prog_137_method_31_8 rfl ?_
  refine Gl.iconst Y5 (v := (1 : Int32)) (by decide) d_prog_137_method_31_9 rfl ?_
  refine Gl.isub Y5 (r := (2 : Int32)) (by decide) d_prog_137_method_31_10 rfl ?_
  refine Gl.laload Y5 V_o ⟨by decide, by decide⟩ (v := (.long (0 : Int64))) rfl d_prog_137_method_31_11 rfl ?_
  exact Gl.retJ Y5 (by decide) (by decide)  d_prog_137_method_31_12 ⟨rfl, rfl⟩
def R51 : Room := { frames := 1, cells := 0, slots := 0, locals := 12 }
def Q51 (Z : State) (o : Addr) (wo : Addr) (ko : ClassId) (h0 : Heap) (v : Option Value) (h : Heap) : Prop := v = some (.int (0 : Int32)) ∧ h0 = h
theorem ef51 (o : Addr) (m : MethodId) : entryFrame m #[(.ref o)] 1 = mkF m 0 #[.val (.ref o)] [] := by first | (simp [entryFrame, mkF, argsToLocals, Value.category]; done) | rfl
set_option maxRecDepth 65536 in
set_option maxHeartbeats 40000000 in
theorem rm51 (l : Launch) (Z : State) (a0 : Array Value) (hw : ∀ d ∈ tables_1, d.before a0 Z = true) (ws : List Jvm.Cond) (o : Addr) (wo : Addr) (ko : ClassId) (h0 : Heap) (n0 : Nat) (Z0 : n0 ≤ h0.size) (E_o : Exa Z h0 o "com/example/meterwise/meterwise/model/WholeNumber") (F_o : Fld Z h0 o "com/example/meterwise/meterwise/model/WholeNumber" "words" "[J" (.ref wo)) (V_o : Arv Z h0 wo ko .long (3 : Int32) [(.long (0 : Int64)), (.long (0 : Int64)), (.long (0 : Int64))] (.long (0 : Int64))) : OMet l Z ws (⟨"com/example/meterwise/meterwise/model/WholeNumber", "overflowed", "()Z"⟩ : MethodName) prog_137_method_8_code 1 (some .boolean) R51 #[(.ref o)] h0 n0 (Q51 Z o wo ko h0) := by
  refine OMet.of (plainFor_of_name pn_0) (ef51 o) Z0 ?_
  intro p e s m below meth c T0 Y0 hnm
  have Y0 : Sd Z "com/example/meterwise/meterwise/model/WholeNumber" prog_137_method_8_code 1 (some .boolean) n0 p l e R51 s m #[(.ref o)] below meth c T0 h0 0 0 := Y0
  refine Gl.aloadN Y0 rfl rfl d_prog_137_method_8_0 rfl ?_
  refine Gl.callP Y0 (tw_51 hw) (tw_52 hw) (tw_53 hw) (tw_1 hw) (tw_2 hw) (tw_54 hw) (by decide) E_o (rm50 l Z a0 hw [] o wo ko h0 n0 Y0.sz E_o F_o V_o) (a := o) (argsL := []) (rest := []) rfl rfl (lenOf pd_3 rfl) rfl (by decide) (Nat.le_of_ble_eq_true rfl) (by decide) (by decide) d_prog_137_method_8_1 rfl (fun v1 T1 h1 Y1 q1 => ?_)
  obtain ⟨rfl, rfl⟩ := q1
  show Gl p e below _ (T1.setTop (mkF m 4 #[.val (.ref o)] [(.long (0 : Int64))]))
  refine Gl.ldcJ Y1 (tw_36 hw) d_prog_137_method_8_4 rfl ?_
  refine Gl.lcmpne Y1 d_prog_137_method_8_7 rfl d_prog_137_method_8_8 (by decide) rfl rfl (fun c8 => ?_) (fun c8 => ?_)
  rotate_left
  · exact absurd c8 (by decide)
  refine Gl.iconst Y1 (v := (0 : Int32)) (by decide) d_prog_137_method_8_22 rfl ?_
  exact Gl.retZ Y1 (by decide) (by decide) (x' := (0 : Int32)) (by decide) d_prog_137_method_8_23 ⟨rfl, rfl⟩
def R52 : Room := { frames := 2, cells := 0, slots := 0, locals := 28 }
def Q52 (Z : State) (o : Addr) (wo : Addr) (ko : ClassId) (x0 : Int64) (x1 : Int64) (x2 : Int64) (u : Addr) (wu : Addr) (ku : ClassId) (y0 : Int64) (y1 : Int64) (y2 : Int64) (h0 : Heap) (v : Option Value) (h : Heap) : Prop := ∃ e0 : Int64, ∃ e1 : Int64, ∃ e2 : Int64, v = some (.ref o) ∧ Keep h0 h [wo] ∧ Arv Z h wo ko .long (3 : Int32) [(.long e0), (.long e1), (.long e2)] (.long (0 : Int64))
theorem ef52 (o : Addr) (u : Addr) (m : MethodId) : entryFrame m #[(.ref o), (.ref u), (.int (0 : Int32))] 21 = mkF m 0 #[.val (.ref o), .val (.ref u), .val (.int (0 : Int32)), .unset, .unset, .unset, .unset, .unset, .unset, .unset, .unset, .unset, .unset, .unset, .unset, .unset, .unset, .unset, .unset, .unset, .unset] [] := by first | (simp [entryFrame, mkF, argsToLocals, Value.category]; done) | rfl
set_option maxRecDepth 65536 in
set_option maxHeartbeats 40000000 in
theorem rm52 (l : Launch) (Z : State) (a0 : Array Value) (hw : ∀ d ∈ tables_1, d.before a0 Z = true) (ws : List Jvm.Cond) (o : Addr) (wo : Addr) (ko : ClassId) (x0 : Int64) (x1 : Int64) (x2 : Int64) (u : Addr) (wu : Addr) (ku : ClassId) (y0 : Int64) (y1 : Int64) (y2 : Int64) (h0 : Heap) (n0 : Nat) (Z0 : n0 ≤ h0.size) (E_o : Exa Z h0 o "com/example/meterwise/meterwise/model/WholeNumber") (F_o : Fld Z h0 o "com/example/meterwise/meterwise/model/WholeNumber" "words" "[J" (.ref wo)) (V_o : Arv Z h0 wo ko .long (3 : Int32) [(.long x0), (.long x1), (.long x2)] (.long (0 : Int64))) (g_o : n0 ≤ wo) (nn_o : o ≠ wo) (E_u : Exa Z h0 u "com/example/meterwise/meterwise/model/WholeNumber") (F_u : Fld Z h0 u "com/example/meterwise/meterwise/model/WholeNumber" "words" "[J" (.ref wu)) (V_u : Arv Z h0 wu ku .long (3 : Int32) [(.long y0), (.long y1), (.long y2)] (.long (0 : Int64))) (nw : wo ≠ wu) (np : u ≠ wo) : OMet l Z ws (⟨"com/example/meterwise/meterwise/model/WholeNumber", "add", "(Lcom/example/meterwise/meterwise/model/WholeNumber;Z)Lcom/example/meterwise/meterwise/model/WholeNumber;"⟩ : MethodName) prog_137_method_14_code 21 (some (.object "com/example/meterwise/meterwise/model/WholeNumber")) R52 #[(.ref o), (.ref u), (.int (0 : Int32))] h0 n0 (Q52 Z o wo ko x0 x1 x2 u wu ku y0 y1 y2 h0) := by
  refine OMet.of (plainFor_of_name pn_0) (ef52 o u) Z0 ?_
  intro p e s m below meth c T0 Y0 hnm
  have Y0 : Sd Z "com/example/meterwise/meterwise/model/WholeNumber" prog_137_method_14_code 21 (some (.object "com/example/meterwise/meterwise/model/WholeNumber")) n0 p l e R52 s m #[(.ref o), (.ref u), (.int (0 : Int32))] below meth c T0 h0 0 0 := Y0
  refine Gl.aloadN Y0 rfl rfl d_prog_137_method_14_0 rfl ?_
  refine Gl.callV Y0 (tw_46 hw) (tw_47 hw) (tw_49 hw) (tw_49 hw) (tw_48 hw) (tw_2 hw) (tw_50 hw) (by decide) E_o (rm48 l Z a0 hw [] o wo ko x0 x1 x2 h0 n0 Y0.sz E_o F_o V_o) (a := o) (argsL := []) (rest := []) rfl rfl (lenOf pd_4 rfl) rfl (by decide) (Nat.le_of_ble_eq_true rfl) (by decide) (by decide) d_prog_137_method_14_1 rfl (fun v1 T1 h1 Y1 q1 => ?_)
  obtain ⟨r1, rfl, p1, rfl⟩ := q1
  have br1 : r1 = 0 ∨ r1 = 1 := by rcases p1 with q | q; exact Or.inr q.2; exact Or.inl q.2
  show Gl p e below _ (T1.setTop (mkF m 4 #[.val (.ref o), .val (.ref u), .val (.int (0 : Int32)), .unset, .unset, .unset, .unset, .unset, .unset, .unset, .unset, .unset, .unset, .unset, .unset, .unset, .unset, .unset, .unset, .unset, .unset] [(.int r1)]))
  refine Gl.ifne Y1 d_prog_137_method_14_4 (by decide) rfl rfl (fun c4 => ?_) (fun c4 => ?_)
  · refine Gl.aloadN Y1 rfl rfl d_prog_137_method_14_14 rfl ?_
    refine Gl.callV Y1 (tw_59 hw) (tw_29 hw) (tw_31 hw) (tw_31 hw) (tw_30 hw) (tw_2 hw) (tw_32 hw) (by decide) E_o (rm45 l Z a0 hw [] o wo ko x0 x1 x2 h0 n0 Y1.sz E_o F_o V_o g_o nn_o) (a := o) (argsL := []) (rest := []) rfl rfl (lenOf pd_5 rfl) rfl (by decide) (Nat.le_of_ble_eq_true rfl) (by decide) (by decide) d_prog_137_method_14_15 rfl (fun v15 T15 h15 Y15 q15 => ?_)
    obtain ⟨rfl, K15, f15_0⟩ := q15
    have KK15 : Keep h0 h15 [wo] := (Keep.refl h0 [wo]).trans K15 (allS (Or.inl (List.mem_of_getElem? (i := 0) rfl)) all0)
    show Gl p e below _ (T15.setTop (mkF m 18 #[.val (.ref o), .val (.ref u), .val (.int (0 : Int32)), .unset, .unset, .unset, .unset, .unset, .unset, .unset, .unset, .unset, .unset, .unset, .unset, .unset, .unset, .unset, .unset, .unset, .unset] [(.ref o)]))
    exact Gl.retA Y15 (by decide) (by decide) rfl rfl d_prog_137_method_14_18 ⟨(0 : Int64), (0 : Int64), (-9223372036854775808 : Int64), rfl, KK15, f15_0⟩
  · refine Gl.aloadN Y1 rfl rfl d_prog_137_method_14_7 rfl ?_
    refine Gl.callV Y1 (tw_46 hw) (tw_47 hw) (tw_49 hw) (tw_49 hw) (tw_48 hw) (tw_2 hw) (tw_50 hw) (by decide) E_u (rm48 l Z a0 hw [] u wu ku y0 y1 y2 h0 n0 Y1.sz E_u F_u V_u) (a := u) (argsL := []) (rest := []) rfl rfl (lenOf pd_4 rfl) rfl (by decide) (Nat.le_of_ble_eq_true rfl) (by decide) (by decide) d_prog_137_method_14_8 rfl (fun v8 T8 h8 Y8 q8 => ?_)
    obtain ⟨r8, rfl, p8, rfl⟩ := q8
    have br8 : r8 = 0 ∨ r8 = 1 := by rcases p8 with q | q; exact Or.inr q.2; exact Or.inl q.2
    show Gl p e below _ (T8.setTop (mkF m 11 #[.val (.ref o), .val (.ref u), .val (.int (0 : Int32)), .unset, .unset, .unset, .unset, .unset, .unset, .unset, .unset, .unset, .unset, .unset, .unset, .unset, .unset, .unset, .unset, .unset, .unset] [(.int r8)]))
    refine Gl.ifeq Y8 d_prog_137_method_14_11 (by decide) rfl rfl (fun c11 => ?_) (fun c11 => ?_)
    · refine Gl.aloadN Y8 rfl rfl d_prog_137_method_14_19 rfl ?_
      refine Gl.getF Y8 (host := "") (Or.inl (tw_14 hw)) Via.refl F_u d_prog_137_method_14_20 rfl (fun T20 Y20 => ?_)
      refine Gl.astoreN Y20 rfl (L' := #[.val (.ref o), .val (.ref u), .val (.int (0 : Int32)), .val (.ref wu), .unset, .unset, .unset, .unset, .unset, .unset, .unset, .unset, .unset, .unset, .unset, .unset, .unset, .unset, .unset, .unset, .unset]) rfl d_prog_137_method_14_23 rfl ?_
      refine Gl.aloadN Y20 rfl rfl d_prog_137_method_14_24 rfl ?_
      refine Gl.getF Y20 (host := "") (Or.inl (tw_14 hw)) Via.refl F_o d_prog_137_method_14_25 rfl (fun T25 Y25 => ?_)
      refine Gl.arraylength Y25 V_o d_prog_137_method_14_28 rfl ?_
      refine Gl.aloadN Y25 rfl rfl d_prog_137_method_14_29 rfl ?_
      refine Gl.arraylength Y25 V_u d_prog_137_method_14_30 rfl ?_
      refine Gl.callS Y25 (tw_71 hw) (tw_72 hw) (tw_73 hw) (tw_74 hw) (by decide) (rm49 l Z a0 hw [] h0 n0 Y25.sz) (argsL := [(.int (3 : Int32)), (.int (3 : Int32))]) (rest := []) rfl rfl (lenOf pd_6 rfl) rfl (by decide) (Nat.le_of_ble_eq_true rfl) (by decide) (by decide) d_prog_137_method_14_31 rfl (fun v31 T31 h31 Y31 q31 => ?_)
      obtain ⟨rfl, rfl⟩ := q31
      show Gl p e below _ (T31.setTop (mkF m 34 #[.val (.ref o), .val (.ref u), .val (.int (0 : Int32)), .val (.ref wu), .unset, .unset, .unset, .unset, .unset, .unset, .unset, .unset, .unset, .unset, .unset, .unset, .unset, .unset, .unset, .unset, .unset] [(.int (3 : Int32))]))
      refine Gl.istore Y31 (L' := #[.val (.ref o), .val (.ref u), .val (.int (0 : Int32)), .val (.ref wu), .val (.int (3 : Int32)), .unset, .unset, .unset, .unset, .unset, .unset, .unset, .unset, .unset, .unset, .unset, .unset, .unset, .unset, .unset, .unset]) rfl d_prog_137_method_14_34 rfl ?_
      refine Gl.aloadN Y31 rfl rfl d_prog_137_method_14_36 rfl ?_
      refine Gl.callP Y31 (tw_51 hw) (tw_52 hw) (tw_53 hw) (tw_1 hw) (tw_2 hw) (tw_54 hw) (by decide) E_o (rm44 l Z a0 hw [] o wo ko x0 x1 x2 h0 n0 Y31.sz E_o F_o V_o) (a := o) (argsL := []) (rest := []) rfl rfl (lenOf pd_3 rfl) rfl (by decide) (Nat.le_of_ble_eq_true rfl) (by decide) (by decide) d_prog_137_method_14_37 rfl (fun v37 T37 h37 Y37 q37 => ?_)
      obtain ⟨rfl, rfl⟩ := q37
      show Gl p e below _ (T37.setTop (mkF m 40 #[.val (.ref o), .val (.ref u), .val (.int (0 : Int32)), .val (.ref wu), .val (.int (3 : Int32)), .unset, .unset, .unset, .unset, .unset, .unset, .unset, .unset, .unset, .unset, .unset, .unset, .unset, .unset, .unset, .unset] [(.long x2)]))
      refine Gl.bipush Y37 (v := (63 : Int32)) (by decide) d_prog_137_method_14_40 rfl ?_
      obtain ⟨v42, hv42⟩ : ∃ z : Int64, (x2 >>> ((63 : Int32) &&& 0x3f).toInt64) = z := ⟨_, rfl⟩
      refine Gl.lshr Y37 hv42 d_prog_137_method_14_42 rfl ?_
      refine Gl.lstore Y37 (L' := #[.val (.ref o), .val (.ref u), .val (.int (0 : Int32)), .val (.ref wu), .val (.int (3 : Int32)), .val (.long v42), .second, .unset, .unset, .unset, .unset, .unset, .unset, .unset, .unset, .unset, .unset, .unset, .unset, .unset, .unset]) rfl d_prog_137_method_14_43 rfl ?_
      refine Gl.aloadN Y37 rfl rfl d_prog_137_method_14_45 rfl ?_
      refine Gl.aloadN Y37 rfl rfl d_prog_137_method_14_46 rfl ?_
      refine Gl.arraylength Y37 V_u d_prog_137_method_14_47 rfl ?_
      refine Gl.iconst Y37 (v := (1 : Int32)) (by decide) d_prog_137_method_14_48 rfl ?_
      refine Gl.isub Y37 (r := (2 : Int32)) (by decide) d_prog_137_method_14_49 rfl ?_
      refine Gl.laload Y37 V_u ⟨by decide, by decide⟩ (v := (.long y2)) rfl d_prog_137_method_14_50 rfl ?_
      refine Gl.bipush Y37 (v := (63 : Int32)) (by decide) d_prog_137_method_14_51 rfl ?_
      obtain ⟨v53, hv53⟩ : ∃ z : Int64, (y2 >>> ((63 : Int32) &&& 0x3f).toInt64) = z := ⟨_, rfl⟩
      refine Gl.lshr Y37 hv53 d_prog_137_method_14_53 rfl ?_
      refine Gl.lstore Y37 (L' := #[.val (.ref o), .val (.ref u), .val (.int (0 : Int32)), .val (.ref wu), .val (.int (3 : Int32)), .val (.long v42), .second, .val (.long v53), .second, .unset, .unset, .unset, .unset, .unset, .unset, .unset, .unset, .unset, .unset, .unset, .unset]) rfl d_prog_137_method_14_54 rfl ?_
      refine Gl.iloadN Y37 rfl d_prog_137_method_14_56 rfl ?_
      refine Gl.ifeq Y37 d_prog_137_method_14_57 (by decide) rfl rfl (fun c57 => ?_) (fun c57 => ?_)
      rotate_left
      · exact absurd c57 (by decide)
      refine Gl.lconst Y37 (v := (0 : Int64)) (by decide) d_prog_137_method_14_66 rfl ?_
      refine Gl.lstore Y37 (L' := #[.val (.ref o), .val (.ref u), .val (.int (0 : Int32)), .val (.ref wu), .val (.int (3 : Int32)), .val (.long v42), .second, .val (.long v53), .second, .val (.long (0 : Int64)), .second, .unset, .unset, .unset, .unset, .unset, .unset, .unset, .unset, .unset, .unset]) rfl d_prog_137_method_14_67 rfl ?_
      refine Gl.iloadN Y37 rfl d_prog_137_method_14_69 rfl ?_
      refine Gl.ifeq Y37 d_prog_137_method_14_70 (by decide) rfl rfl (fun c70 => ?_) (fun c70 => ?_)
      rotate_left
      · exact absurd c70 (by decide)
      refine Gl.lconst Y37 (v := (0 : Int64)) (by decide) d_prog_137_method_14_77 rfl ?_
      refine Gl.lstore Y37 (L' := #[.val (.ref o), .val (.ref u), .val (.int (0 : Int32)), .val (.ref wu), .val (.int (3 : Int32)), .val (.long v42), .second, .val (.long v53), .second, .val (.long (0 : Int64)), .second, .val (.long (0 : Int64)), .second, .unset, .unset, .unset, .unset, .unset, .unset, .unset, .unset]) rfl d_prog_137_method_14_78 rfl ?_
      refine Gl.lconst Y37 (v := (0 : Int64)) (by decide) d_prog_137_method_14_80 rfl ?_
      refine Gl.lstore Y37 (L' := #[.val (.ref o), .val (.ref u), .val (.int (0 : Int32)), .val (.ref wu), .val (.int (3 : Int32)), .val (.long v42), .second, .val (.long v53), .second, .val (.long (0 : Int64)), .second, .val (.long (0 : Int64)), .second, .val (.long (0 : Int64)), .second, .unset, .unset, .unset, .unset, .unset, .unset]) rfl d_prog_137_method_14_81 rfl ?_
      refine Gl.lconst Y37 (v := (0 : Int64)) (by decide) d_prog_137_method_14_83 rfl ?_
      refine Gl.lstore Y37 (L' := #[.val (.ref o), .val (.ref u), .val (.int (0 : Int32)), .val (.ref wu), .val (.int (3 : Int32)), .val (.long v42), .second, .val (.long v53), .second, .val (.long (0 : Int64)), .second, .val (.long (0 : Int64)), .second, .val (.long (0 : Int64)), .second, .val (.long (0 : Int64)), .second, .unset, .unset, .unset, .unset]) rfl d_prog_137_method_14_84 rfl ?_
      refine Gl.lconst Y37 (v := (0 : Int64)) (by decide) d_prog_137_method_14_86 rfl ?_
      refine Gl.lstore Y37 (L' := #[.val (.ref o), .val (.ref u), .val (.int (0 : Int32)), .val (.ref wu), .val (.int (3 : Int32)), .val (.long v42), .second, .val (.long v53), .second, .val (.long (0 : Int64)), .second, .val (.long (0 : Int64)), .second, .val (.long (0 : Int64)), .second, .val (.long (0 : Int64)), .second, .val (.long (0 : Int64)), .second, .unset, .unset]) rfl d_prog_137_method_14_87 rfl ?_
      refine Gl.iconst Y37 (v := (1 : Int32)) (by decide) d_prog_137_method_14_89 rfl ?_
      refine Gl.istore Y37 (L' := #[.val (.ref o), .val (.ref u), .val (.int (0 : Int32)), .val (.ref wu), .val (.int (3 : Int32)), .val (.long v42), .second, .val (.long v53), .second, .val (.long (0 : Int64)), .second, .val (.long (0 : Int64)), .second, .val (.long (0 : Int64)), .second, .val (.long (0 : Int64)), .second, .val (.long (0 : Int64)), .second, .val (.int (1 : Int32)), .unset]) rfl d_prog_137_method_14_90 rfl ?_
      refine Gl.iconst Y37 (v := (0 : Int32)) (by decide) d_prog_137_method_14_92 rfl ?_
      refine Gl.istore Y37 (L' := #[.val (.ref o), .val (.ref u), .val (.int (0 : Int32)), .val (.ref wu), .val (.int (3 : Int32)), .val (.long v42), .second, .val (.long v53), .second, .val (.long (0 : Int64)), .second, .val (.long (0 : Int64)), .second, .val (.long (0 : Int64)), .second, .val (.long (0 : Int64)), .second, .val (.long (0 : Int64)), .second, .val (.int (1 : Int32)), .val (.int (0 : Int32))]) rfl d_prog_137_method_14_93 rfl ?_
      refine Gl.iload Y37 rfl d_prog_137_method_14_95 rfl ?_
      refine Gl.iload Y37 rfl d_prog_137_method_14_97 rfl ?_
      refine Gl.icmpge Y37 d_prog_137_method_14_99 (by decide) rfl rfl (fun c99 => ?_) (fun c99 => ?_)
      · exact absurd c99 (by decide)
      refine Gl.iload Y37 rfl d_prog_137_method_14_102 rfl ?_
      refine Gl.aloadN Y37 rfl rfl d_prog_137_method_14_104 rfl ?_
      refine Gl.getF Y37 (host := "") (Or.inl (tw_14 hw)) Via.refl F_o d_prog_137_method_14_105 rfl (fun T105 Y105 => ?_)
      refine Gl.arraylength Y105 V_o d_prog_137_method_14_108 rfl ?_
      refine Gl.icmpge Y105 d_prog_137_method_14_109 (by decide) rfl rfl (fun c109 => ?_) (fun c109 => ?_)
      · exact absurd c109 (by decide)
      refine Gl.aloadN Y105 rfl rfl d_prog_137_method_14_112 rfl ?_
      refine Gl.getF Y105 (host := "") (Or.inl (tw_14 hw)) Via.refl F_o d_prog_137_method_14_113 rfl (fun T113 Y113 => ?_)
      refine Gl.iload Y113 rfl d_prog_137_method_14_116 rfl ?_
      refine Gl.laload Y113 V_o ⟨by decide, by decide⟩ (v := (.long x0)) rfl d_prog_137_method_14_118 rfl ?_
      refine Gl.goto Y113 d_prog_137_method_14_119 (by decide) rfl ?_
      refine Gl.lstore Y113 (L' := #[.val (.ref o), .val (.ref u), .val (.int (0 : Int32)), .val (.ref wu), .val (.int (3 : Int32)), .val (.long v42), .second, .val (.long v53), .second, .val (.long (0 : Int64)), .second, .val (.long (0 : Int64)), .second, .val (.long x0), .second, .val (.long (0 : Int64)), .second, .val (.long (0 : Int64)), .second, .val (.int (1 : Int32)), .val (.int (0 : Int32))]) rfl d_prog_137_method_14_124 rfl ?_
      refine Gl.iload Y113 rfl d_prog_137_method_14_126 rfl ?_
      refine Gl.aloadN Y113 rfl rfl d_prog_137_method_14_128 rfl ?_
      refine Gl.arraylength Y113 V_u d_prog_137_method_14_129 rfl ?_
      refine Gl.icmpge Y113 d_prog_137_method_14_130 (by decide) rfl rfl (fun c130 => ?_) (fun c130 => ?_)
      · exact absurd c130 (by decide)
      refine Gl.aloadN Y113 rfl rfl d_prog_137_method_14_133 rfl ?_
      refine Gl.iload Y113 rfl d_prog_137_method_14_134 rfl ?_
      refine Gl.laload Y113 V_u ⟨by decide, by decide⟩ (v := (.long y0)) rfl d_prog_137_method_14_136 rfl ?_
      refine Gl.goto Y113 d_prog_137_method_14_137 (by decide) rfl ?_
      refine Gl.lload Y113 rfl d_prog_137_method_14_142 rfl ?_
      obtain ⟨v144, hv144⟩ : ∃ z : Int64, y0 ^^^ (0 : Int64) = z := ⟨_, rfl⟩
      refine Gl.lxor Y113 hv144 d_prog_137_method_14_144 rfl ?_
      refine Gl.lstore Y113 (L' := #[.val (.ref o), .val (.ref u), .val (.int (0 : Int32)), .val (.ref wu), .val (.int (3 : Int32)), .val (.long v42), .second, .val (.long v53), .second, .val (.long (0 : Int64)), .second, .val (.long (0 : Int64)), .second, .val (.long x0), .second, .val (.long v144), .second, .val (.long (0 : Int64)), .second, .val (.int (1 : Int32)), .val (.int (0 : Int32))]) rfl d_prog_137_method_14_145 rfl ?_
      refine Gl.lload Y113 rfl d_prog_137_method_14_147 rfl ?_
      refine Gl.lload Y113 rfl d_prog_137_method_14_149 rfl ?_
      obtain ⟨v151, hv151⟩ : ∃ z : Int64, x0 + v144 = z := ⟨_, rfl⟩
      refine Gl.ladd Y113 hv151 d_prog_137_method_14_151 rfl ?_
      refine Gl.lload Y113 rfl d_prog_137_method_14_152 rfl ?_
      obtain ⟨v154, hv154⟩ : ∃ z : Int64, v151 + (0 : Int64) = z := ⟨_, rfl⟩
      refine Gl.ladd Y113 hv154 d_prog_137_method_14_154 rfl ?_
      refine Gl.lstore Y113 (L' := #[.val (.ref o), .val (.ref u), .val (.int (0 : Int32)), .val (.ref wu), .val (.int (3 : Int32)), .val (.long v42), .second, .val (.long v53), .second, .val (.long (0 : Int64)), .second, .val (.long (0 : Int64)), .second, .val (.long x0), .second, .val (.long v144), .second, .val (.long v154), .second, .val (.int (1 : Int32)), .val (.int (0 : Int32))]) rfl d_prog_137_method_14_155 rfl ?_
      refine Gl.lload Y113 rfl d_prog_137_method_14_157 rfl ?_
      refine Gl.lload Y113 rfl d_prog_137_method_14_159 rfl ?_
      obtain ⟨v161, hv161⟩ : ∃ z : Int64, x0 &&& v144 = z := ⟨_, rfl⟩
      refine Gl.land Y113 hv161 d_prog_137_method_14_161 rfl ?_
      refine Gl.lload Y113 rfl d_prog_137_method_14_162 rfl ?_
      refine Gl.lload Y113 rfl d_prog_137_method_14_164 rfl ?_
      obtain ⟨v166, hv166⟩ : ∃ z : Int64, x0 ||| v144 = z := ⟨_, rfl⟩
      refine Gl.lor Y113 hv166 d_prog_137_method_14_166 rfl ?_
      refine Gl.lload Y113 rfl d_prog_137_method_14_167 rfl ?_
      refine Gl.ldcJ Y113 (tw_65 hw) d_prog_137_method_14_169 rfl ?_
      obtain ⟨v172, hv172⟩ : ∃ z : Int64, v154 ^^^ (-1 : Int64) = z := ⟨_, rfl⟩
      refine Gl.lxor Y113 hv172 d_prog_137_method_14_172 rfl ?_
      obtain ⟨v173, hv173⟩ : ∃ z : Int64, v166 &&& v172 = z := ⟨_, rfl⟩
      refine Gl.land Y113 hv173 d_prog_137_method_14_173 rfl ?_
      obtain ⟨v174, hv174⟩ : ∃ z : Int64, v161 ||| v173 = z := ⟨_, rfl⟩
      refine Gl.lor Y113 hv174 d_prog_137_method_14_174 rfl ?_
      refine Gl.bipush Y113 (v := (63 : Int32)) (by decide) d_prog_137_method_14_175 rfl ?_
      obtain ⟨v177, hv177⟩ : ∃ z : Int64, (v174.toUInt64 >>> ((63 : Int32) &&& 0x3f).toInt64.toUInt64).toInt64 = z := ⟨_, rfl⟩
      refine Gl.lushr Y113 hv177 d_prog_137_method_14_177 rfl ?_
      refine Gl.lstore Y113 (L' := #[.val (.ref o), .val (.ref u), .val (.int (0 : Int32)), .val (.ref wu), .val (.int (3 : Int32)), .val (.long v42), .second, .val (.long v53), .second, .val (.long (0 : Int64)), .second, .val (.long v177), .second, .val (.long x0), .second, .val (.long v144), .second, .val (.long v154), .second, .val (.int (1 : Int32)), .val (.int (0 : Int32))]) rfl d_prog_137_method_14_178 rfl ?_
      refine Gl.iload Y113 rfl d_prog_137_method_14_180 rfl ?_
      refine Gl.aloadN Y113 rfl rfl d_prog_137_method_14_182 rfl ?_
      refine Gl.getF Y113 (host := "") (Or.inl (tw_14 hw)) Via.refl F_o d_prog_137_method_14_183 rfl (fun T183 Y183 => ?_)
      refine Gl.arraylength Y183 V_o d_prog_137_method_14_186 rfl ?_
      refine Gl.icmpge Y183 d_prog_137_method_14_187 (by decide) rfl rfl (fun c187 => ?_) (fun c187 => ?_)
      · exact absurd c187 (by decide)
      refine Gl.aloadN Y183 rfl rfl d_prog_137_method_14_190 rfl ?_
      refine Gl.getF Y183 (host := "") (Or.inl (tw_14 hw)) Via.refl F_o d_prog_137_method_14_191 rfl (fun T191 Y191 => ?_)
      refine Gl.iload Y191 rfl d_prog_137_method_14_194 rfl ?_
      refine Gl.lload Y191 rfl d_prog_137_method_14_196 rfl ?_
      refine Gl.lastore Y191 V_o (v := (.long v154)) rfl ⟨by decide, by decide⟩ (ix := 0) rfl (Nat.le_of_ble_eq_true rfl) g_o d_prog_137_method_14_198 rfl (fun T198 h198 Y198 W198 A198 => ?_)
      have A198 : Arv Z h198 wo ko .long (3 : Int32) [(.long v154), (.long x1), (.long x2)] (.long (0 : Int64)) := A198
      have K198 : Keep h0 h198 [wo] := (Keep.refl h0 [wo]).wr W198 (Or.inl (List.mem_of_getElem? (i := 0) rfl))
      show Gl p e below _ (T198.setTop (mkF m 199 #[.val (.ref o), .val (.ref u), .val (.int (0 : Int32)), .val (.ref wu), .val (.int (3 : Int32)), .val (.long v42), .second, .val (.long v53), .second, .val (.long (0 : Int64)), .second, .val (.long v177), .second, .val (.long x0), .second, .val (.long v144), .second, .val (.long v154), .second, .val (.int (1 : Int32)), .val (.int (0 : Int32))] []))
      refine Gl.goto Y198 d_prog_137_method_14_199 (by decide) rfl ?_
      refine Gl.iinc Y198 rfl (r := (1 : Int32)) (by decide) (L' := #[.val (.ref o), .val (.ref u), .val (.int (0 : Int32)), .val (.ref wu), .val (.int (3 : Int32)), .val (.long v42), .second, .val (.long v53), .second, .val (.long (0 : Int64)), .second, .val (.long v177), .second, .val (.long x0), .second, .val (.long v144), .second, .val (.long v154), .second, .val (.int (1 : Int32)), .val (.int (1 : Int32))]) rfl d_prog_137_method_14_225 rfl ?_
      refine Gl.goto Y198 d_prog_137_method_14_228 (by decide) rfl ?_
      refine Gl.iload Y198 rfl d_prog_137_method_14_95 rfl ?_
      refine Gl.iload Y198 rfl d_prog_137_method_14_97 rfl ?_
      refine Gl.icmpge Y198 d_prog_137_method_14_99 (by decide) rfl rfl (fun c99_2 => ?_) (fun c99_2 => ?_)
      · exact absurd c99_2 (by decide)
      refine Gl.iload Y198 rfl d_prog_137_method_14_102 rfl ?_
      refine Gl.aloadN Y198 rfl rfl d_prog_137_method_14_104 rfl ?_
      have f1 : Fld Z h198 o "com/example/meterwise/meterwise/model/WholeNumber" "words" "[J" (.ref wo) := (Fld.other W198 F_o (Or.inl nn_o))
      refine Gl.getF Y198 (host := "") (Or.inl (tw_14 hw)) Via.refl f1 d_prog_137_method_14_105 rfl (fun T105_2 Y105_2 => ?_)
      refine Gl.arraylength Y105_2 A198 d_prog_137_method_14_108 rfl ?_
      refine Gl.icmpge Y105_2 d_prog_137_method_14_109 (by decide) rfl rfl (fun c109_2 => ?_) (fun c109_2 => ?_)
      · exact absurd c109_2 (by decide)
      refine Gl.aloadN Y105_2 rfl rfl d_prog_137_method_14_112 rfl ?_
      refine Gl.getF Y105_2 (host := "") (Or.inl (tw_14 hw)) Via.refl f1 d_prog_137_method_14_113 rfl (fun T113_2 Y113_2 => ?_)
      refine Gl.iload Y113_2 rfl d_prog_137_method_14_116 rfl ?_
      refine Gl.laload Y113_2 A198 ⟨by decide, by decide⟩ (v := (.long x1)) rfl d_prog_137_method_14_118 rfl ?_
      refine Gl.goto Y113_2 d_prog_137_method_14_119 (by decide) rfl ?_
      refine Gl.lstore Y113_2 (L' := #[.val (.ref o), .val (.ref u), .val (.int (0 : Int32)), .val (.ref wu), .val (.int (3 : Int32)), .val (.long v42), .second, .val (.long v53), .second, .val (.long (0 : Int64)), .second, .val (.long v177), .second, .val (.long x1), .second, .val (.long v144), .second, .val (.long v154), .second, .val (.int (1 : Int32)), .val (.int (1 : Int32))]) rfl d_prog_137_method_14_124 rfl ?_
      refine Gl.iload Y113_2 rfl d_prog_137_method_14_126 rfl ?_
      refine Gl.aloadN Y113_2 rfl rfl d_prog_137_method_14_128 rfl ?_
      have f2 : Arv Z h198 wu ku .long (3 : Int32) [(.long y0), (.long y1), (.long y2)] (.long (0 : Int64)) := (V_u.other W198 (Ne.symm nw))
      refine Gl.arraylength Y113_2 f2 d_prog_137_method_14_129 rfl ?_
      refine Gl.icmpge Y113_2 d_prog_137_method_14_130 (by decide) rfl rfl (fun c130_2 => ?_) (fun c130_2 => ?_)
      · exact absurd c130_2 (by decide)
      refine Gl.aloadN Y113_2 rfl rfl d_prog_137_method_14_133 rfl ?_
      refine Gl.iload Y113_2 rfl d_prog_137_method_14_134 rfl ?_
      refine Gl.laload Y113_2 f2 ⟨by decide, by decide⟩ (v := (.long y1)) rfl d_prog_137_method_14_136 rfl ?_
      refine Gl.goto Y113_2 d_prog_137_method_14_137 (by decide) rfl ?_
      refine Gl.lload Y113_2 rfl d_prog_137_method_14_142 rfl ?_
      obtain ⟨v144_2, hv144_2⟩ : ∃ z : Int64, y1 ^^^ (0 : Int64) = z := ⟨_, rfl⟩
      refine Gl.lxor Y113_2 hv144_2 d_prog_137_method_14_144 rfl ?_
      refine Gl.lstore Y113_2 (L' := #[.val (.ref o), .val (.ref u), .val (.int (0 : Int32)), .val (.ref wu), .val (.int (3 : Int32)), .val (.long v42), .second, .val (.long v53), .second, .val (.long (0 : Int64)), .second, .val (.long v177), .second, .val (.long x1), .second, .val (.long v144_2), .second, .val (.long v154), .second, .val (.int (1 : Int32)), .val (.int (1 : Int32))]) rfl d_prog_137_method_14_145 rfl ?_
      refine Gl.lload Y113_2 rfl d_prog_137_method_14_147 rfl ?_
      refine Gl.lload Y113_2 rfl d_prog_137_method_14_149 rfl ?_
      obtain ⟨v151_2, hv151_2⟩ : ∃ z : Int64, x1 + v144_2 = z := ⟨_, rfl⟩
      refine Gl.ladd Y113_2 hv151_2 d_prog_137_method_14_151 rfl ?_
      refine Gl.lload Y113_2 rfl d_prog_137_method_14_152 rfl ?_
      obtain ⟨v154_2, hv154_2⟩ : ∃ z : Int64, v151_2 + v177 = z := ⟨_, rfl⟩
      refine Gl.ladd Y113_2 hv154_2 d_prog_137_method_14_154 rfl ?_
      refine Gl.lstore Y113_2 (L' := #[.val (.ref o), .val (.ref u), .val (.int (0 : Int32)), .val (.ref wu), .val (.int (3 : Int32)), .val (.long v42), .second, .val (.long v53), .second, .val (.long (0 : Int64)), .second, .val (.long v177), .second, .val (.long x1), .second, .val (.long v144_2), .second, .val (.long v154_2), .second, .val (.int (1 : Int32)), .val (.int (1 : Int32))]) rfl d_prog_137_method_14_155 rfl ?_
      refine Gl.lload Y113_2 rfl d_prog_137_method_14_157 rfl ?_
      refine Gl.lload Y113_2 rfl d_prog_137_method_14_159 rfl ?_
      obtain ⟨v161_2, hv161_2⟩ : ∃ z : Int64, x1 &&& v144_2 = z := ⟨_, rfl⟩
      refine Gl.land Y113_2 hv161_2 d_prog_137_method_14_161 rfl ?_
      refine Gl.lload Y113_2 rfl d_prog_137_method_14_162 rfl ?_
      refine Gl.lload Y113_2 rfl d_prog_137_method_14_164 rfl ?_
      obtain ⟨v166_2, hv166_2⟩ : ∃ z : Int64, x1 ||| v144_2 = z := ⟨_, rfl⟩
      refine Gl.lor Y113_2 hv166_2 d_prog_137_method_14_166 rfl ?_
      refine Gl.lload Y113_2 rfl d_prog_137_method_14_167 rfl ?_
      refine Gl.ldcJ Y113_2 (tw_65 hw) d_prog_137_method_14_169 rfl ?_
      obtain ⟨v172_2, hv172_2⟩ : ∃ z : Int64, v154_2 ^^^ (-1 : Int64) = z := ⟨_, rfl⟩
      refine Gl.lxor Y113_2 hv172_2 d_prog_137_method_14_172 rfl ?_
      obtain ⟨v173_2, hv173_2⟩ : ∃ z : Int64, v166_2 &&& v172_2 = z := ⟨_, rfl⟩
      refine Gl.land Y113_2 hv173_2 d_prog_137_method_14_173 rfl ?_
      obtain ⟨v174_2, hv174_2⟩ : ∃ z : Int64, v161_2 ||| v173_2 = z := ⟨_, rfl⟩
      refine Gl.lor Y113_2 hv174_2 d_prog_137_method_14_174 rfl ?_
      refine Gl.bipush Y113_2 (v := (63 : Int32)) (by decide) d_prog_137_method_14_175 rfl ?_
      obtain ⟨v177_2, hv177_2⟩ : ∃ z : Int64, (v174_2.toUInt64 >>> ((63 : Int32) &&& 0x3f).toInt64.toUInt64).toInt64 = z := ⟨_, rfl⟩
      refine Gl.lushr Y113_2 hv177_2 d_prog_137_method_14_177 rfl ?_
      refine Gl.lstore Y113_2 (L' := #[.val (.ref o), .val (.ref u), .val (.int (0 : Int32)), .val (.ref wu), .val (.int (3 : Int32)), .val (.long v42), .second, .val (.long v53), .second, .val (.long (0 : Int64)), .second, .val (.long v177_2), .second, .val (.long x1), .second, .val (.long v144_2), .second, .val (.long v154_2), .second, .val (.int (1 : Int32)), .val (.int (1 : Int32))]) rfl d_prog_137_method_14_178 rfl ?_
      refine Gl.iload Y113_2 rfl d_prog_137_method_14_180 rfl ?_
      refine Gl.aloadN Y113_2 rfl rfl d_prog_137_method_14_182 rfl ?_
      refine Gl.getF Y113_2 (host := "") (Or.inl (tw_14 hw)) Via.refl f1 d_prog_137_method_14_183 rfl (fun T183_2 Y183_2 => ?_)
      refine Gl.arraylength Y183_2 A198 d_prog_137_method_14_186 rfl ?_
      refine Gl.icmpge Y183_2 d_prog_137_method_14_187 (by decide) rfl rfl (fun c187_2 => ?_) (fun c187_2 => ?_)
      · exact absurd c187_2 (by decide)
      refine Gl.aloadN Y183_2 rfl rfl d_prog_137_method_14_190 rfl ?_
      refine Gl.getF Y183_2 (host := "") (Or.inl (tw_14 hw)) Via.refl f1 d_prog_137_method_14_191 rfl (fun T191_2 Y191_2 => ?_)
      refine Gl.iload Y191_2 rfl d_prog_137_method_14_194 rfl ?_
      refine Gl.lload Y191_2 rfl d_prog_137_method_14_196 rfl ?_
      refine Gl.lastore Y191_2 A198 (v := (.long v154_2)) rfl ⟨by decide, by decide⟩ (ix := 1) rfl (Nat.le_of_ble_eq_true rfl) g_o d_prog_137_method_14_198 rfl (fun T198_2 h198_2 Y198_2 W198_2 A198_2 => ?_)
      have A198_2 : Arv Z h198_2 wo ko .long (3 : Int32) [(.long v154), (.long v154_2), (.long x2)] (.long (0 : Int64)) := A198_2
      have K198_2 : Keep h0 h198_2 [wo] := K198.wr W198_2 (Or.inl (List.mem_of_getElem? (i := 0) rfl))
      show Gl p e below _ (T198_2.setTop (mkF m 199 #[.val (.ref o), .val (.ref u), .val (.int (0 : Int32)), .val (.ref wu), .val (.int (3 : Int32)), .val (.long v42), .second, .val (.long v53), .second, .val (.long (0 : Int64)), .second, .val (.long v177_2), .second, .val (.long x1), .second, .val (.long v144_2), .second, .val (.long v154_2), .second, .val (.int (1 : Int32)), .val (.int (1 : Int32))] []))
      refine Gl.goto Y198_2 d_prog_137_method_14_199 (by decide) rfl ?_
      refine Gl.iinc Y198_2 rfl (r := (2 : Int32)) (by decide) (L' := #[.val (.ref o), .val (.ref u), .val (.int (0 : Int32)), .val (.ref wu), .val (.int (3 : Int32)), .val (.long v42), .second, .val (.long v53), .second, .val (.long (0 : Int64)), .second, .val (.long v177_2), .second, .val (.long x1), .second, .val (.long v144_2), .second, .val (.long v154_2), .second, .val (.int (1 : Int32)), .val (.int (2 : Int32))]) rfl d_prog_137_method_14_225 rfl ?_
      refine Gl.goto Y198_2 d_prog_137_method_14_228 (by decide) rfl ?_
      refine Gl.iload Y198_2 rfl d_prog_137_method_14_95 rfl ?_
      refine Gl.iload Y198_2 rfl d_prog_137_method_14_97 rfl ?_
      refine Gl.icmpge Y198_2 d_prog_137_method_14_99 (by decide) rfl rfl (fun c99_3 => ?_) (fun c99_3 => ?_)
      · exact absurd c99_3 (by decide)
      refine Gl.iload Y198_2 rfl d_prog_137_method_14_102 rfl ?_
      refine Gl.aloadN Y198_2 rfl rfl d_prog_137_method_14_104 rfl ?_
      have f3 : Fld Z h198_2 o "com/example/meterwise/meterwise/model/WholeNumber" "words" "[J" (.ref wo) := (Fld.other W198_2 f1 (Or.inl nn_o))
      refine Gl.getF Y198_2 (host := "") (Or.inl (tw_14 hw)) Via.refl f3 d_prog_137_method_14_105 rfl (fun T105_3 Y105_3 => ?_)
      refine Gl.arraylength Y105_3 A198_2 d_prog_137_method_14_108 rfl ?_
      refine Gl.icmpge Y105_3 d_prog_137_method_14_109 (by decide) rfl rfl (fun c109_3 => ?_) (fun c109_3 => ?_)
      · exact absurd c109_3 (by decide)
      refine Gl.aloadN Y105_3 rfl rfl d_prog_137_method_14_112 rfl ?_
      refine Gl.getF Y105_3 (host := "") (Or.inl (tw_14 hw)) Via.refl f3 d_prog_137_method_14_113 rfl (fun T113_3 Y113_3 => ?_)
      refine Gl.iload Y113_3 rfl d_prog_137_method_14_116 rfl ?_
      refine Gl.laload Y113_3 A198_2 ⟨by decide, by decide⟩ (v := (.long x2)) rfl d_prog_137_method_14_118 rfl ?_
      refine Gl.goto Y113_3 d_prog_137_method_14_119 (by decide) rfl ?_
      refine Gl.lstore Y113_3 (L' := #[.val (.ref o), .val (.ref u), .val (.int (0 : Int32)), .val (.ref wu), .val (.int (3 : Int32)), .val (.long v42), .second, .val (.long v53), .second, .val (.long (0 : Int64)), .second, .val (.long v177_2), .second, .val (.long x2), .second, .val (.long v144_2), .second, .val (.long v154_2), .second, .val (.int (1 : Int32)), .val (.int (2 : Int32))]) rfl d_prog_137_method_14_124 rfl ?_
      refine Gl.iload Y113_3 rfl d_prog_137_method_14_126 rfl ?_
      refine Gl.aloadN Y113_3 rfl rfl d_prog_137_method_14_128 rfl ?_
      have f4 : Arv Z h198_2 wu ku .long (3 : Int32) [(.long y0), (.long y1), (.long y2)] (.long (0 : Int64)) := (f2.other W198_2 (Ne.symm nw))
      refine Gl.arraylength Y113_3 f4 d_prog_137_method_14_129 rfl ?_
      refine Gl.icmpge Y113_3 d_prog_137_method_14_130 (by decide) rfl rfl (fun c130_3 => ?_) (fun c130_3 => ?_)
      · exact absurd c130_3 (by decide)
      refine Gl.aloadN Y113_3 rfl rfl d_prog_137_method_14_133 rfl ?_
      refine Gl.iload Y113_3 rfl d_prog_137_method_14_134 rfl ?_
      refine Gl.laload Y113_3 f4 ⟨by decide, by decide⟩ (v := (.long y2)) rfl d_prog_137_method_14_136 rfl ?_
      refine Gl.goto Y113_3 d_prog_137_method_14_137 (by decide) rfl ?_
      refine Gl.lload Y113_3 rfl d_prog_137_method_14_142 rfl ?_
      obtain ⟨v144_3, hv144_3⟩ : ∃ z : Int64, y2 ^^^ (0 : Int64) = z := ⟨_, rfl⟩
      refine Gl.lxor Y113_3 hv144_3 d_prog_137_method_14_144 rfl ?_
      refine Gl.lstore Y113_3 (L' := #[.val (.ref o), .val (.ref u), .val (.int (0 : Int32)), .val (.ref wu), .val (.int (3 : Int32)), .val (.long v42), .second, .val (.long v53), .second, .val (.long (0 : Int64)), .second, .val (.long v177_2), .second, .val (.long x2), .second, .val (.long v144_3), .second, .val (.long v154_2), .second, .val (.int (1 : Int32)), .val (.int (2 : Int32))]) rfl d_prog_137_method_14_145 rfl ?_
      refine Gl.lload Y113_3 rfl d_prog_137_method_14_147 rfl ?_
      refine Gl.lload Y113_3 rfl d_prog_137_method_14_149 rfl ?_
      obtain ⟨v151_3, hv151_3⟩ : ∃ z : Int64, x2 + v144_3 = z := ⟨_, rfl⟩
      refine Gl.ladd Y113_3 hv151_3 d_prog_137_method_14_151 rfl ?_
      refine Gl.lload Y113_3 rfl d_prog_137_method_14_152 rfl ?_
      obtain ⟨v154_3, hv154_3⟩ : ∃ z : Int64, v151_3 + v177_2 = z := ⟨_, rfl⟩
      refine Gl.ladd Y113_3 hv154_3 d_prog_137_method_14_154 rfl ?_
      refine Gl.lstore Y113_3 (L' := #[.val (.ref o), .val (.ref u), .val (.int (0 : Int32)), .val (.ref wu), .val (.int (3 : Int32)), .val (.long v42), .second, .val (.long v53), .second, .val (.long (0 : Int64)), .second, .val (.long v177_2), .second, .val (.long x2), .second, .val (.long v144_3), .second, .val (.long v154_3), .second, .val (.int (1 : Int32)), .val (.int (2 : Int32))]) rfl d_prog_137_method_14_155 rfl ?_
      refine Gl.lload Y113_3 rfl d_prog_137_method_14_157 rfl ?_
      refine Gl.lload Y113_3 rfl d_prog_137_method_14_159 rfl ?_
      obtain ⟨v161_3, hv161_3⟩ : ∃ z : Int64, x2 &&& v144_3 = z := ⟨_, rfl⟩
      refine Gl.land Y113_3 hv161_3 d_prog_137_method_14_161 rfl ?_
      refine Gl.lload Y113_3 rfl d_prog_137_method_14_162 rfl ?_
      refine Gl.lload Y113_3 rfl d_prog_137_method_14_164 rfl ?_
      obtain ⟨v166_3, hv166_3⟩ : ∃ z : Int64, x2 ||| v144_3 = z := ⟨_, rfl⟩
      refine Gl.lor Y113_3 hv166_3 d_prog_137_method_14_166 rfl ?_
      refine Gl.lload Y113_3 rfl d_prog_137_method_14_167 rfl ?_
      refine Gl.ldcJ Y113_3 (tw_65 hw) d_prog_137_method_14_169 rfl ?_
      obtain ⟨v172_3, hv172_3⟩ : ∃ z : Int64, v154_3 ^^^ (-1 : Int64) = z := ⟨_, rfl⟩
      refine Gl.lxor Y113_3 hv172_3 d_prog_137_method_14_172 rfl ?_
      obtain ⟨v173_3, hv173_3⟩ : ∃ z : Int64, v166_3 &&& v172_3 = z := ⟨_, rfl⟩
      refine Gl.land Y113_3 hv173_3 d_prog_137_method_14_173 rfl ?_
      obtain ⟨v174_3, hv174_3⟩ : ∃ z : Int64, v161_3 ||| v173_3 = z := ⟨_, rfl⟩
      refine Gl.lor Y113_3 hv174_3 d_prog_137_method_14_174 rfl ?_
      refine Gl.bipush Y113_3 (v := (63 : Int32)) (by decide) d_prog_137_method_14_175 rfl ?_
      obtain ⟨v177_3, hv177_3⟩ : ∃ z : Int64, (v174_3.toUInt64 >>> ((63 : Int32) &&& 0x3f).toInt64.toUInt64).toInt64 = z := ⟨_, rfl⟩
      refine Gl.lushr Y113_3 hv177_3 d_prog_137_method_14_177 rfl ?_
      refine Gl.lstore Y113_3 (L' := #[.val (.ref o), .val (.ref u), .val (.int (0 : Int32)), .val (.ref wu), .val (.int (3 : Int32)), .val (.long v42), .second, .val (.long v53), .second, .val (.long (0 : Int64)), .second, .val (.long v177_3), .second, .val (.long x2), .second, .val (.long v144_3), .second, .val (.long v154_3), .second, .val (.int (1 : Int32)), .val (.int (2 : Int32))]) rfl d_prog_137_method_14_178 rfl ?_
      refine Gl.iload Y113_3 rfl d_prog_137_method_14_180 rfl ?_
      refine Gl.aloadN Y113_3 rfl rfl d_prog_137_method_14_182 rfl ?_
      refine Gl.getF Y113_3 (host := "") (Or.inl (tw_14 hw)) Via.refl f3 d_prog_137_method_14_183 rfl (fun T183_3 Y183_3 => ?_)
      refine Gl.arraylength Y183_3 A198_2 d_prog_137_method_14_186 rfl ?_
      refine Gl.icmpge Y183_3 d_prog_137_method_14_187 (by decide) rfl rfl (fun c187_3 => ?_) (fun c187_3 => ?_)
      · exact absurd c187_3 (by decide)
      refine Gl.aloadN Y183_3 rfl rfl d_prog_137_method_14_190 rfl ?_
      refine Gl.getF Y183_3 (host := "") (Or.inl (tw_14 hw)) Via.refl f3 d_prog_137_method_14_191 rfl (fun T191_3 Y191_3 => ?_)
      refine Gl.iload Y191_3 rfl d_prog_137_method_14_194 rfl ?_
      refine Gl.lload Y191_3 rfl d_prog_137_method_14_196 rfl ?_
      refine Gl.lastore Y191_3 A198_2 (v := (.long v154_3)) rfl ⟨by decide, by decide⟩ (ix := 2) rfl (Nat.le_of_ble_eq_true rfl) g_o d_prog_137_method_14_198 rfl (fun T198_3 h198_3 Y198_3 W198_3 A198_3 => ?_)
      have A198_3 : Arv Z h198_3 wo ko .long (3 : Int32) [(.long v154), (.long v154_2), (.long v154_3)] (.long (0 : Int64)) := A198_3
      have K198_3 : Keep h0 h198_3 [wo] := K198_2.wr W198_3 (Or.inl (List.mem_of_getElem? (i := 0) rfl))
      show Gl p e below _ (T198_3.setTop (mkF m 199 #[.val (.ref o), .val (.ref u), .val (.int (0 : Int32)), .val (.ref wu), .val (.int (3 : Int32)), .val (.long v42), .second, .val (.long v53), .second, .val (.long (0 : Int64)), .second, .val (.long v177_3), .second, .val (.long x2), .second, .val (.long v144_3), .second, .val (.long v154_3), .second, .val (.int (1 : Int32)), .val (.int (2 : Int32))] []))
      refine Gl.goto Y198_3 d_prog_137_method_14_199 (by decide) rfl ?_
      refine Gl.iinc Y198_3 rfl (r := (3 : Int32)) (by decide) (L' := #[.val (.ref o), .val (.ref u), .val (.int (0 : Int32)), .val (.ref wu), .val (.int (3 : Int32)), .val (.long v42), .second, .val (.long v53), .second, .val (.long (0 : Int64)), .second, .val (.long v177_3), .second, .val (.long x2), .second, .val (.long v144_3), .second, .val (.long v154_3), .second, .val (.int (1 : Int32)), .val (.int (3 : Int32))]) rfl d_prog_137_method_14_225 rfl ?_
      refine Gl.goto Y198_3 d_prog_137_method_14_228 (by decide) rfl ?_
      refine Gl.iload Y198_3 rfl d_prog_137_method_14_95 rfl ?_
      refine Gl.iload Y198_3 rfl d_prog_137_method_14_97 rfl ?_
      refine Gl.icmpge Y198_3 d_prog_137_method_14_99 (by decide) rfl rfl (fun c99_4 => ?_) (fun c99_4 => ?_)
      rotate_left
      · exact absurd c99_4 (by decide)
      refine Gl.iload Y198_3 rfl d_prog_137_method_14_231 rfl ?_
      refine Gl.ifeq Y198_3 d_prog_137_method_14_233 (by decide) rfl rfl (fun c233 => ?_) (fun c233 => ?_)
      · exact absurd c233 (by decide)
      refine Gl.lload Y198_3 rfl d_prog_137_method_14_236 rfl ?_
      refine Gl.lload Y198_3 rfl d_prog_137_method_14_238 rfl ?_
      obtain ⟨v240, hv240⟩ : ∃ z : Int64, x2 ^^^ v154_3 = z := ⟨_, rfl⟩
      refine Gl.lxor Y198_3 hv240 d_prog_137_method_14_240 rfl ?_
      refine Gl.lload Y198_3 rfl d_prog_137_method_14_241 rfl ?_
      refine Gl.lload Y198_3 rfl d_prog_137_method_14_243 rfl ?_
      obtain ⟨v245, hv245⟩ : ∃ z : Int64, v144_3 ^^^ v154_3 = z := ⟨_, rfl⟩
      refine Gl.lxor Y198_3 hv245 d_prog_137_method_14_245 rfl ?_
      obtain ⟨v246, hv246⟩ : ∃ z : Int64, v240 &&& v245 = z := ⟨_, rfl⟩
      refine Gl.land Y198_3 hv246 d_prog_137_method_14_246 rfl ?_
      refine Gl.lconst Y198_3 (v := (0 : Int64)) (by decide) d_prog_137_method_14_247 rfl ?_
      refine Gl.lcmplt Y198_3 d_prog_137_method_14_248 rfl d_prog_137_method_14_249 (by decide) rfl rfl (fun c249 => ?_) (fun c249 => ?_)
      · refine Gl.aloadN Y198_3 rfl rfl d_prog_137_method_14_256 rfl ?_
        have f5 : Exa Z h198_3 o "com/example/meterwise/meterwise/model/WholeNumber" := (Exa.wr W198_3 (Exa.wr W198_2 (Exa.wr W198 E_o)))
        have f6 : Fld Z h198_3 o "com/example/meterwise/meterwise/model/WholeNumber" "words" "[J" (.ref wo) := (Fld.other W198_3 f3 (Or.inl nn_o))
        refine Gl.callV Y198_3 (tw_59 hw) (tw_29 hw) (tw_31 hw) (tw_31 hw) (tw_30 hw) (tw_2 hw) (tw_32 hw) (by decide) f5 (rm45 l Z a0 hw [] o wo ko v154 v154_2 v154_3 h198_3 n0 Y198_3.sz f5 f6 A198_3 g_o nn_o) (a := o) (argsL := []) (rest := []) rfl rfl (lenOf pd_5 rfl) rfl (by decide) (Nat.le_of_ble_eq_true rfl) (by decide) (by decide) d_prog_137_method_14_257 rfl (fun v257 T257 h257 Y257 q257 => ?_)
        obtain ⟨rfl, K257, f257_0⟩ := q257
        have KK257 : Keep h0 h257 [wo] := K198_3.trans K257 (allS (Or.inl (List.mem_of_getElem? (i := 0) rfl)) all0)
        show Gl p e below _ (T257.setTop (mkF m 260 #[.val (.ref o), .val (.ref u), .val (.int (0 : Int32)), .val (.ref wu), .val (.int (3 : Int32)), .val (.long v42), .second, .val (.long v53), .second, .val (.long (0 : Int64)), .second, .val (.long v177_3), .second, .val (.long x2), .second, .val (.long v144_3), .second, .val (.long v154_3), .second, .val (.int (1 : Int32)), .val (.int (3 : Int32))] [(.ref o)]))
        exact Gl.retA Y257 (by decide) (by decide) rfl rfl d_prog_137_method_14_260 ⟨(0 : Int64), (0 : Int64), (-9223372036854775808 : Int64), rfl, KK257, f257_0⟩
      · refine Gl.aloadN Y198_3 rfl rfl d_prog_137_method_14_252 rfl ?_
        refine Gl.goto Y198_3 d_prog_137_method_14_253 (by decide) rfl ?_
        exact Gl.retA Y198_3 (by decide) (by decide) rfl rfl d_prog_137_method_14_260 ⟨v154, v154_2, v154_3, rfl, K198_3, A198_3⟩
    · refine Gl.aloadN Y8 rfl rfl d_prog_137_method_14_14 rfl ?_
      refine Gl.callV Y8 (tw_59 hw) (tw_29 hw) (tw_31 hw) (tw_31 hw) (tw_30 hw) (tw_2 hw) (tw_32 hw) (by decide) E_o (rm45 l Z a0 hw [] o wo ko x0 x1 x2 h0 n0 Y8.sz E_o F_o V_o g_o nn_o) (a := o) (argsL := []) (rest := []) rfl rfl (lenOf pd_5 rfl) rfl (by decide) (Nat.le_of_ble_eq_true rfl) (by decide) (by decide) d_prog_137_method_14_15 rfl (fun v15 T15 h15 Y15 q15 => ?_)
      obtain ⟨rfl, K15, f15_0⟩ := q15
      have KK15 : Keep h0 h15 [wo] := (Keep.refl h0 [wo]).trans K15 (allS (Or.inl (List.mem_of_getElem? (i := 0) rfl)) all0)
      show Gl p e below _ (T15.setTop (mkF m 18 #[.val (.ref o), .val (.ref u), .val (.int (0 : Int32)), .unset, .unset, .unset, .unset, .unset, .unset, .unset, .unset, .unset, .unset, .unset, .unset, .unset, .unset, .unset, .unset, .unset, .unset] [(.ref o)]))
      exact Gl.retA Y15 (by decide) (by decide) rfl rfl d_prog_137_method_14_18 ⟨(0 : Int64), (0 : Int64), (-9223372036854775808 : Int64), rfl, KK15, f15_0⟩
def R53 : Room := { frames := 3, cells := 0, slots := 0, locals := 60 }
def Q53 (Z : State) (o : Addr) (wo : Addr) (ko : ClassId) (x0 : Int64) (x1 : Int64) (x2 : Int64) (u : Addr) (wu : Addr) (ku : ClassId) (y0 : Int64) (y1 : Int64) (y2 : Int64) (h0 : Heap) (v : Option Value) (h : Heap) : Prop := ∃ e0 : Int64, ∃ e1 : Int64, ∃ e2 : Int64, v = some (.ref o) ∧ Keep h0 h [wo] ∧ Arv Z h wo ko .long (3 : Int32) [(.long e0), (.long e1), (.long e2)] (.long (0 : Int64))
theorem ef53 (o : Addr) (u : Addr) (m : MethodId) : entryFrame m #[(.ref o), (.ref u)] 2 = mkF m 0 #[.val (.ref o), .val (.ref u)] [] := by first | (simp [entryFrame, mkF, argsToLocals, Value.category]; done) | rfl
set_option maxRecDepth 65536 in
set_option maxHeartbeats 40000000 in
theorem rm53 (l : Launch) (Z : State) (a0 : Array Value) (hw : ∀ d ∈ tables_1, d.before a0 Z = true) (ws : List Jvm.Cond) (o : Addr) (wo : Addr) (ko : ClassId) (x0 : Int64) (x1 : Int64) (x2 : Int64) (u : Addr) (wu : Addr) (ku : ClassId) (y0 : Int64) (y1 : Int64) (y2 : Int64) (h0 : Heap) (n0 : Nat) (Z0 : n0 ≤ h0.size) (E_o : Exa Z h0 o "com/example/meterwise/meterwise/model/WholeNumber") (F_o : Fld Z h0 o "com/example/meterwise/meterwise/model/WholeNumber" "words" "[J" (.ref wo)) (V_o : Arv Z h0 wo ko .long (3 : Int32) [(.long x0), (.long x1), (.long x2)] (.long (0 : Int64))) (g_o : n0 ≤ wo) (nn_o : o ≠ wo) (E_u : Exa Z h0 u "com/example/meterwise/meterwise/model/WholeNumber") (F_u : Fld Z h0 u "com/example/meterwise/meterwise/model/WholeNumber" "words" "[J" (.ref wu)) (V_u : Arv Z h0 wu ku .long (3 : Int32) [(.long y0), (.long y1), (.long y2)] (.long (0 : Int64))) (nw : wo ≠ wu) (np : u ≠ wo) : OMet l Z ws (⟨"com/example/meterwise/meterwise/model/WholeNumber", "add", "(Lcom/example/meterwise/meterwise/model/WholeNumber;)Lcom/example/meterwise/meterwise/model/WholeNumber;"⟩ : MethodName) prog_137_method_12_code 2 (some (.object "com/example/meterwise/meterwise/model/WholeNumber")) R53 #[(.ref o), (.ref u)] h0 n0 (Q53 Z o wo ko x0 x1 x2 u wu ku y0 y1 y2 h0) := by
  refine OMet.of (plainFor_of_name pn_0) (ef53 o u) Z0 ?_
  intro p e s m below meth c T0 Y0 hnm
  have Y0 : Sd Z "com/example/meterwise/meterwise/model/WholeNumber" prog_137_method_12_code 2 (some (.object "com/example/meterwise/meterwise/model/WholeNumber")) n0 p l e R53 s m #[(.ref o), (.ref u)] below meth c T0 h0 0 0 := Y0
  refine Gl.aloadN Y0 rfl rfl d_prog_137_method_12_0 rfl ?_
  refine Gl.aloadN Y0 rfl rfl d_prog_137_method_12_1 rfl ?_
  refine Gl.iconst Y0 (v := (0 : Int32)) (by decide) d_prog_137_method_12_2 rfl ?_
  refine Gl.callP Y0 (tw_42 hw) (tw_43 hw) (tw_44 hw) (tw_1 hw) (tw_2 hw) (tw_45 hw) (by decide) E_o (rm52 l Z a0 hw [] o wo ko x0 x1 x2 u wu ku y0 y1 y2 h0 n0 Y0.sz E_o F_o V_o g_o nn_o E_u F_u V_u nw np) (a := o) (argsL := [(.ref u), (.int (0 : Int32))]) (rest := []) rfl rfl (lenOf pd_7 rfl) rfl (by decide) (Nat.le_of_ble_eq_true rfl) (by decide) (by decide) d_prog_137_method_12_3 rfl (fun v3 T3 h3 Y3 q3 => ?_)
  obtain ⟨e03, e13, e23, rfl, K3, f3_0⟩ := q3
  have KK3 : Keep h0 h3 [wo] := (Keep.refl h0 [wo]).trans K3 (allS (Or.inl (List.mem_of_getElem? (i := 0) rfl)) all0)
  show Gl p e below _ (T3.setTop (mkF m 6 #[.val (.ref o), .val (.ref u)] [(.ref o)]))
  exact Gl.retA Y3 (by decide) (by decide) rfl rfl d_prog_137_method_12_6 ⟨e03, e13, e23, rfl, KK3, f3_0⟩
def R54 : Room := { frames := 0, cells := 0, slots := 0, locals := 0 }
def Q54 (Z : State) (o : Addr) (wo : Addr) (ko : ClassId) (x0 : Int64) (x1 : Int64) (x2 : Int64) (h0 : Heap) (v : Option Value) (h : Heap) : Prop := v = some (.ref o) ∧ Keep h0 h [wo] ∧ Arv Z h wo ko .long (3 : Int32) [(.long (own_o x0 1)), (.long (own_o x1 (own_k x0 1))), (.long (own_o x2 (own_k x1 (own_k x0 1))))] (.long (0 : Int64))
theorem ef54 (o : Addr) (m : MethodId) : entryFrame m #[(.ref o)] 4 = mkF m 0 #[.val (.ref o), .unset, .unset, .unset] [] := by first | (simp [entryFrame, mkF, argsToLocals, Value.category]; done) | rfl
set_option maxRecDepth 65536 in
set_option maxHeartbeats 40000000 in
theorem rm54 (l : Launch) (Z : State) (a0 : Array Value) (hw : ∀ d ∈ tables_1, d.before a0 Z = true) (ws : List Jvm.Cond) (o : Addr) (wo : Addr) (ko : ClassId) (x0 : Int64) (x1 : Int64) (x2 : Int64) (h0 : Heap) (n0 : Nat) (Z0 : n0 ≤ h0.size) (E_o : Exa Z h0 o "com/example/meterwise/meterwise/model/WholeNumber") (F_o : Fld Z h0 o "com/example/meterwise/meterwise/model/WholeNumber" "words" "[J" (.ref wo)) (V_o : Arv Z h0 wo ko .long (3 : Int32) [(.long x0), (.long x1), (.long x2)] (.long (0 : Int64))) (g_o : n0 ≤ wo) (nn_o : o ≠ wo) : OMet l Z ws (⟨"com/example/meterwise/meterwise/model/WholeNumber", "negate", "()Lcom/example/meterwise/meterwise/model/WholeNumber;"⟩ : MethodName) prog_137_method_19_code 4 (some (.object "com/example/meterwise/meterwise/model/WholeNumber")) R54 #[(.ref o)] h0 n0 (Q54 Z o wo ko x0 x1 x2 h0) := by
  refine OMet.of (plainFor_of_name pn_0) (ef54 o) Z0 ?_
  intro p e s m below meth c T0 Y0 hnm
  have Y0 : Sd Z "com/example/meterwise/meterwise/model/WholeNumber" prog_137_method_19_code 4 (some (.object "com/example/meterwise/meterwise/model/WholeNumber")) n0 p l e R54 s m #[(.ref o)] below meth c T0 h0 0 0 := Y0
  refine Gl.lconst Y0 (v := (1 : Int64)) (by decide) d_prog_137_method_19_0 rfl ?_
  refine Gl.lstoreN Y0 (L' := #[.val (.ref o), .val (.long (1 : Int64)), .second, .unset]) rfl d_prog_137_method_19_1 rfl ?_
  refine Gl.iconst Y0 (v := (0 : Int32)) (by decide) d_prog_137_method_19_2 rfl ?_
  refine Gl.istoreN Y0 (L' := #[.val (.ref o), .val (.long (1 : Int64)), .second, .val (.int (0 : Int32))]) rfl d_prog_137_method_19_3 rfl ?_
  refine Gl.iloadN Y0 rfl d_prog_137_method_19_4 rfl ?_
  refine Gl.aloadN Y0 rfl rfl d_prog_137_method_19_5 rfl ?_
  refine Gl.getF Y0 (host := "") (Or.inl (tw_14 hw)) Via.refl F_o d_prog_137_method_19_6 rfl (fun T6 Y6 => ?_)
  refine Gl.arraylength Y6 V_o d_prog_137_method_19_9 rfl ?_
  refine Gl.icmpge Y6 d_prog_137_method_19_10 (by decide) rfl rfl (fun c10 => ?_) (fun c10 => ?_)
  · exact absurd c10 (by decide)
  refine Gl.aloadN Y6 rfl rfl d_prog_137_method_19_13 rfl ?_
  refine Gl.getF Y6 (host := "") (Or.inl (tw_14 hw)) Via.refl F_o d_prog_137_method_19_14 rfl (fun T14 Y14 => ?_)
  refine Gl.iloadN Y14 rfl d_prog_137_method_19_17 rfl ?_
  refine Gl.aloadN Y14 rfl rfl d_prog_137_method_19_18 rfl ?_
  refine Gl.getF Y14 (host := "") (Or.inl (tw_14 hw)) Via.refl F_o d_prog_137_method_19_19 rfl (fun T19 Y19 => ?_)
  refine Gl.iloadN Y19 rfl d_prog_137_method_19_22 rfl ?_
  refine Gl.laload Y19 V_o ⟨by decide, by decide⟩ (v := (.long x0)) rfl d_prog_137_method_19_23 rfl ?_
  refine Gl.ldcJ Y19 (tw_65 hw) d_prog_137_method_19_24 rfl ?_
  refine Gl.lxor Y19 rfl d_prog_137_method_19_27 rfl ?_
  refine Gl.lloadN Y19 rfl d_prog_137_method_19_28 rfl ?_
  refine Gl.ladd Y19 rfl d_prog_137_method_19_29 rfl ?_
  refine Gl.lastore Y19 V_o (v := (.long ((x0 ^^^ (-1 : Int64)) + (1 : Int64)))) rfl ⟨by decide, by decide⟩ (ix := 0) rfl (Nat.le_of_ble_eq_true rfl) g_o d_prog_137_method_19_30 rfl (fun T30 h30 Y30 W30 A30 => ?_)
  have A30 : Arv Z h30 wo ko .long (3 : Int32) [(.long ((x0 ^^^ (-1 : Int64)) + (1 : Int64))), (.long x1), (.long x2)] (.long (0 : Int64)) := A30
  have K30 : Keep h0 h30 [wo] := (Keep.refl h0 [wo]).wr W30 (Or.inl (List.mem_of_getElem? (i := 0) rfl))
  show Gl p e below _ (T30.setTop (mkF m 31 #[.val (.ref o), .val (.long (1 : Int64)), .second, .val (.int (0 : Int32))] []))
  refine Gl.lloadN Y30 rfl d_prog_137_method_19_31 rfl ?_
  refine Gl.aloadN Y30 rfl rfl d_prog_137_method_19_32 rfl ?_
  have f1 : Fld Z h30 o "com/example/meterwise/meterwise/model/WholeNumber" "words" "[J" (.ref wo) := (Fld.other W30 F_o (Or.inl nn_o))
  refine Gl.getF Y30 (host := "") (Or.inl (tw_14 hw)) Via.refl f1 d_prog_137_method_19_33 rfl (fun T33 Y33 => ?_)
  refine Gl.iloadN Y33 rfl d_prog_137_method_19_36 rfl ?_
  refine Gl.laload Y33 A30 ⟨by decide, by decide⟩ (v := (.long ((x0 ^^^ (-1 : Int64)) + (1 : Int64)))) rfl d_prog_137_method_19_37 rfl ?_
  refine Gl.lconst Y33 (v := (0 : Int64)) (by decide) d_prog_137_method_19_38 rfl ?_
  obtain ⟨z39, hz39⟩ : ∃ z : Int64, (if ((x0 ^^^ (-1 : Int64)) + (1 : Int64)) = (0 : Int64) then (1 : Int64) else (0 : Int64)) = z := ⟨_, rfl⟩
  refine own_cut (B := ∀ T', Sd Z "com/example/meterwise/meterwise/model/WholeNumber" prog_137_method_19_code 4 (some (.object "com/example/meterwise/meterwise/model/WholeNumber")) n0 p l e R54 s m #[(.ref o)] below meth c T' h30 0 0 → Gl p e below (Pst s n0 R54.cells R54.slots (Q54 Z o wo ko x0 x1 x2 h0)) (T'.setTop (mkF m 48 #[.val (.ref o), .val (.long (1 : Int64)), .second, .val (.int (0 : Int32))] [(.long z39), (.long (1 : Int64))]))) (fun jk => ?_) (fun T39j Y39j => ?_)
  · refine Gl.lcmpne Y33 d_prog_137_method_19_39 rfl d_prog_137_method_19_40 (by decide) rfl rfl (fun c40 => ?_) (fun c40 => ?_)
    · refine Gl.lconst Y33 (v := (0 : Int64)) (by decide) d_prog_137_method_19_47 rfl ?_
      have ez39 : z39 = (0 : Int64) := by rw [← hz39]; simp only [c40, ↓reduceIte, if_true, if_false]
      rw [ez39] at jk
      exact jk T33 Y33
    · refine Gl.lconst Y33 (v := (1 : Int64)) (by decide) d_prog_137_method_19_43 rfl ?_
      refine Gl.goto Y33 d_prog_137_method_19_44 (by decide) rfl ?_
      have ez39 : z39 = (1 : Int64) := by rw [← hz39]; simp only [c40, ↓reduceIte, if_true, if_false]
      rw [ez39] at jk
      exact jk T33 Y33
  refine Gl.land Y39j rfl d_prog_137_method_19_48 rfl ?_
  refine Gl.lstoreN Y39j (L' := #[.val (.ref o), .val (.long ((1 : Int64) &&& z39)), .second, .val (.int (0 : Int32))]) rfl d_prog_137_method_19_49 rfl ?_
  refine Gl.iinc Y39j rfl (r := (1 : Int32)) (by decide) (L' := #[.val (.ref o), .val (.long ((1 : Int64) &&& z39)), .second, .val (.int (1 : Int32))]) rfl d_prog_137_method_19_50 rfl ?_
  refine Gl.goto Y39j d_prog_137_method_19_53 (by decide) rfl ?_
  refine Gl.iloadN Y39j rfl d_prog_137_method_19_4 rfl ?_
  refine Gl.aloadN Y39j rfl rfl d_prog_137_method_19_5 rfl ?_
  refine Gl.getF Y39j (host := "") (Or.inl (tw_14 hw)) Via.refl f1 d_prog_137_method_19_6 rfl (fun T6_2 Y6_2 => ?_)
  refine Gl.arraylength Y6_2 A30 d_prog_137_method_19_9 rfl ?_
  refine Gl.icmpge Y6_2 d_prog_137_method_19_10 (by decide) rfl rfl (fun c10_2 => ?_) (fun c10_2 => ?_)
  · exact absurd c10_2 (by decide)
  refine Gl.aloadN Y6_2 rfl rfl d_prog_137_method_19_13 rfl ?_
  refine Gl.getF Y6_2 (host := "") (Or.inl (tw_14 hw)) Via.refl f1 d_prog_137_method_19_14 rfl (fun T14_2 Y14_2 => ?_)
  refine Gl.iloadN Y14_2 rfl d_prog_137_method_19_17 rfl ?_
  refine Gl.aloadN Y14_2 rfl rfl d_prog_137_method_19_18 rfl ?_
  refine Gl.getF Y14_2 (host := "") (Or.inl (tw_14 hw)) Via.refl f1 d_prog_137_method_19_19 rfl (fun T19_2 Y19_2 => ?_)
  refine Gl.iloadN Y19_2 rfl d_prog_137_method_19_22 rfl ?_
  refine Gl.laload Y19_2 A30 ⟨by decide, by decide⟩ (v := (.long x1)) rfl d_prog_137_method_19_23 rfl ?_
  refine Gl.ldcJ Y19_2 (tw_65 hw) d_prog_137_method_19_24 rfl ?_
  refine Gl.lxor Y19_2 rfl d_prog_137_method_19_27 rfl ?_
  refine Gl.lloadN Y19_2 rfl d_prog_137_method_19_28 rfl ?_
  refine Gl.ladd Y19_2 rfl d_prog_137_method_19_29 rfl ?_
  refine Gl.lastore Y19_2 A30 (v := (.long ((x1 ^^^ (-1 : Int64)) + ((1 : Int64) &&& z39)))) rfl ⟨by decide, by decide⟩ (ix := 1) rfl (Nat.le_of_ble_eq_true rfl) g_o d_prog_137_method_19_30 rfl (fun T30_2 h30_2 Y30_2 W30_2 A30_2 => ?_)
  have A30_2 : Arv Z h30_2 wo ko .long (3 : Int32) [(.long ((x0 ^^^ (-1 : Int64)) + (1 : Int64))), (.long ((x1 ^^^ (-1 : Int64)) + ((1 : Int64) &&& z39))), (.long x2)] (.long (0 : Int64)) := A30_2
  have K30_2 : Keep h0 h30_2 [wo] := K30.wr W30_2 (Or.inl (List.mem_of_getElem? (i := 0) rfl))
  show Gl p e below _ (T30_2.setTop (mkF m 31 #[.val (.ref o), .val (.long ((1 : Int64) &&& z39)), .second, .val (.int (1 : Int32))] []))
  refine Gl.lloadN Y30_2 rfl d_prog_137_method_19_31 rfl ?_
  refine Gl.aloadN Y30_2 rfl rfl d_prog_137_method_19_32 rfl ?_
  have f2 : Fld Z h30_2 o "com/example/meterwise/meterwise/model/WholeNumber" "words" "[J" (.ref wo) := (Fld.other W30_2 f1 (Or.inl nn_o))
  refine Gl.getF Y30_2 (host := "") (Or.inl (tw_14 hw)) Via.refl f2 d_prog_137_method_19_33 rfl (fun T33_2 Y33_2 => ?_)
  refine Gl.iloadN Y33_2 rfl d_prog_137_method_19_36 rfl ?_
  refine Gl.laload Y33_2 A30_2 ⟨by decide, by decide⟩ (v := (.long ((x1 ^^^ (-1 : Int64)) + ((1 : Int64) &&& z39)))) rfl d_prog_137_method_19_37 rfl ?_
  refine Gl.lconst Y33_2 (v := (0 : Int64)) (by decide) d_prog_137_method_19_38 rfl ?_
  obtain ⟨z39_2, hz39_2⟩ : ∃ z : Int64, (if ((x1 ^^^ (-1 : Int64)) + ((1 : Int64) &&& z39)) = (0 : Int64) then (1 : Int64) else (0 : Int64)) = z := ⟨_, rfl⟩
  refine own_cut (B := ∀ T', Sd Z "com/example/meterwise/meterwise/model/WholeNumber" prog_137_method_19_code 4 (some (.object "com/example/meterwise/meterwise/model/WholeNumber")) n0 p l e R54 s m #[(.ref o)] below meth c T' h30_2 0 0 → Gl p e below (Pst s n0 R54.cells R54.slots (Q54 Z o wo ko x0 x1 x2 h0)) (T'.setTop (mkF m 48 #[.val (.ref o), .val (.long ((1 : Int64) &&& z39)), .second, .val (.int (1 : Int32))] [(.long z39_2), (.long ((1 : Int64) &&& z39))]))) (fun jk => ?_) (fun T39j_2 Y39j_2 => ?_)
  · refine Gl.lcmpne Y33_2 d_prog_137_method_19_39 rfl d_prog_137_method_19_40 (by decide) rfl rfl (fun c40 => ?_) (fun c40 => ?_)
    · refine Gl.lconst Y33_2 (v := (0 : Int64)) (by decide) d_prog_137_method_19_47 rfl ?_
      have ez39_2 : z39_2 = (0 : Int64) := by rw [← hz39_2]; simp only [c40, ↓reduceIte, if_true, if_false]
      rw [ez39_2] at jk
      exact jk T33_2 Y33_2
    · refine Gl.lconst Y33_2 (v := (1 : Int64)) (by decide) d_prog_137_method_19_43 rfl ?_
      refine Gl.goto Y33_2 d_prog_137_method_19_44 (by decide) rfl ?_
      have ez39_2 : z39_2 = (1 : Int64) := by rw [← hz39_2]; simp only [c40, ↓reduceIte, if_true, if_false]
      rw [ez39_2] at jk
      exact jk T33_2 Y33_2
  refine Gl.land Y39j_2 rfl d_prog_137_method_19_48 rfl ?_
  refine Gl.lstoreN Y39j_2 (L' := #[.val (.ref o), .val (.long (((1 : Int64) &&& z39) &&& z39_2)), .second, .val (.int (1 : Int32))]) rfl d_prog_137_method_19_49 rfl ?_
  refine Gl.iinc Y39j_2 rfl (r := (2 : Int32)) (by decide) (L' := #[.val (.ref o), .val (.long (((1 : Int64) &&& z39) &&& z39_2)), .second, .val (.int (2 : Int32))]) rfl d_prog_137_method_19_50 rfl ?_
  refine Gl.goto Y39j_2 d_prog_137_method_19_53 (by decide) rfl ?_
  refine Gl.iloadN Y39j_2 rfl d_prog_137_method_19_4 rfl ?_
  refine Gl.aloadN Y39j_2 rfl rfl d_prog_137_method_19_5 rfl ?_
  refine Gl.getF Y39j_2 (host := "") (Or.inl (tw_14 hw)) Via.refl f2 d_prog_137_method_19_6 rfl (fun T6_3 Y6_3 => ?_)
  refine Gl.arraylength Y6_3 A30_2 d_prog_137_method_19_9 rfl ?_
  refine Gl.icmpge Y6_3 d_prog_137_method_19_10 (by decide) rfl rfl (fun c10_3 => ?_) (fun c10_3 => ?_)
  · exact absurd c10_3 (by decide)
  refine Gl.aloadN Y6_3 rfl rfl d_prog_137_method_19_13 rfl ?_
  refine Gl.getF Y6_3 (host := "") (Or.inl (tw_14 hw)) Via.refl f2 d_prog_137_method_19_14 rfl (fun T14_3 Y14_3 => ?_)
  refine Gl.iloadN Y14_3 rfl d_prog_137_method_19_17 rfl ?_
  refine Gl.aloadN Y14_3 rfl rfl d_prog_137_method_19_18 rfl ?_
  refine Gl.getF Y14_3 (host := "") (Or.inl (tw_14 hw)) Via.refl f2 d_prog_137_method_19_19 rfl (fun T19_3 Y19_3 => ?_)
  refine Gl.iloadN Y19_3 rfl d_prog_137_method_19_22 rfl ?_
  refine Gl.laload Y19_3 A30_2 ⟨by decide, by decide⟩ (v := (.long x2)) rfl d_prog_137_method_19_23 rfl ?_
  refine Gl.ldcJ Y19_3 (tw_65 hw) d_prog_137_method_19_24 rfl ?_
  refine Gl.lxor Y19_3 rfl d_prog_137_method_19_27 rfl ?_
  refine Gl.lloadN Y19_3 rfl d_prog_137_method_19_28 rfl ?_
  refine Gl.ladd Y19_3 rfl d_prog_137_method_19_29 rfl ?_
  refine Gl.lastore Y19_3 A30_2 (v := (.long ((x2 ^^^ (-1 : Int64)) + (((1 : Int64) &&& z39) &&& z39_2)))) rfl ⟨by decide, by decide⟩ (ix := 2) rfl (Nat.le_of_ble_eq_true rfl) g_o d_prog_137_method_19_30 rfl (fun T30_3 h30_3 Y30_3 W30_3 A30_3 => ?_)
  have A30_3 : Arv Z h30_3 wo ko .long (3 : Int32) [(.long ((x0 ^^^ (-1 : Int64)) + (1 : Int64))), (.long ((x1 ^^^ (-1 : Int64)) + ((1 : Int64) &&& z39))), (.long ((x2 ^^^ (-1 : Int64)) + (((1 : Int64) &&& z39) &&& z39_2)))] (.long (0 : Int64)) := A30_3
  have K30_3 : Keep h0 h30_3 [wo] := K30_2.wr W30_3 (Or.inl (List.mem_of_getElem? (i := 0) rfl))
  show Gl p e below _ (T30_3.setTop (mkF m 31 #[.val (.ref o), .val (.long (((1 : Int64) &&& z39) &&& z39_2)), .second, .val (.int (2 : Int32))] []))
  refine Gl.lloadN Y30_3 rfl d_prog_137_method_19_31 rfl ?_
  refine Gl.aloadN Y30_3 rfl rfl d_prog_137_method_19_32 rfl ?_
  have f3 : Fld Z h30_3 o "com/example/meterwise/meterwise/model/WholeNumber" "words" "[J" (.ref wo) := (Fld.other W30_3 f2 (Or.inl nn_o))
  refine Gl.getF Y30_3 (host := "") (Or.inl (tw_14 hw)) Via.refl f3 d_prog_137_method_19_33 rfl (fun T33_3 Y33_3 => ?_)
  refine Gl.iloadN Y33_3 rfl d_prog_137_method_19_36 rfl ?_
  refine Gl.laload Y33_3 A30_3 ⟨by decide, by decide⟩ (v := (.long ((x2 ^^^ (-1 : Int64)) + (((1 : Int64) &&& z39) &&& z39_2)))) rfl d_prog_137_method_19_37 rfl ?_
  refine Gl.lconst Y33_3 (v := (0 : Int64)) (by decide) d_prog_137_method_19_38 rfl ?_
  obtain ⟨z39_3, hz39_3⟩ : ∃ z : Int64, (if ((x2 ^^^ (-1 : Int64)) + (((1 : Int64) &&& z39) &&& z39_2)) = (0 : Int64) then (1 : Int64) else (0 : Int64)) = z := ⟨_, rfl⟩
  refine own_cut (B := ∀ T', Sd Z "com/example/meterwise/meterwise/model/WholeNumber" prog_137_method_19_code 4 (some (.object "com/example/meterwise/meterwise/model/WholeNumber")) n0 p l e R54 s m #[(.ref o)] below meth c T' h30_3 0 0 → Gl p e below (Pst s n0 R54.cells R54.slots (Q54 Z o wo ko x0 x1 x2 h0)) (T'.setTop (mkF m 48 #[.val (.ref o), .val (.long (((1 : Int64) &&& z39) &&& z39_2)), .second, .val (.int (2 : Int32))] [(.long z39_3), (.long (((1 : Int64) &&& z39) &&& z39_2))]))) (fun jk => ?_) (fun T39j_3 Y39j_3 => ?_)
  · refine Gl.lcmpne Y33_3 d_prog_137_method_19_39 rfl d_prog_137_method_19_40 (by decide) rfl rfl (fun c40 => ?_) (fun c40 => ?_)
    · refine Gl.lconst Y33_3 (v := (0 : Int64)) (by decide) d_prog_137_method_19_47 rfl ?_
      have ez39_3 : z39_3 = (0 : Int64) := by rw [← hz39_3]; simp only [c40, ↓reduceIte, if_true, if_false]
      rw [ez39_3] at jk
      exact jk T33_3 Y33_3
    · refine Gl.lconst Y33_3 (v := (1 : Int64)) (by decide) d_prog_137_method_19_43 rfl ?_
      refine Gl.goto Y33_3 d_prog_137_method_19_44 (by decide) rfl ?_
      have ez39_3 : z39_3 = (1 : Int64) := by rw [← hz39_3]; simp only [c40, ↓reduceIte, if_true, if_false]
      rw [ez39_3] at jk
      exact jk T33_3 Y33_3
  refine Gl.land Y39j_3 rfl d_prog_137_method_19_48 rfl ?_
  refine Gl.lstoreN Y39j_3 (L' := #[.val (.ref o), .val (.long ((((1 : Int64) &&& z39) &&& z39_2) &&& z39_3)), .second, .val (.int (2 : Int32))]) rfl d_prog_137_method_19_49 rfl ?_
  refine Gl.iinc Y39j_3 rfl (r := (3 : Int32)) (by decide) (L' := #[.val (.ref o), .val (.long ((((1 : Int64) &&& z39) &&& z39_2) &&& z39_3)), .second, .val (.int (3 : Int32))]) rfl d_prog_137_method_19_50 rfl ?_
  refine Gl.goto Y39j_3 d_prog_137_method_19_53 (by decide) rfl ?_
  refine Gl.iloadN Y39j_3 rfl d_prog_137_method_19_4 rfl ?_
  refine Gl.aloadN Y39j_3 rfl rfl d_prog_137_method_19_5 rfl ?_
  refine Gl.getF Y39j_3 (host := "") (Or.inl (tw_14 hw)) Via.refl f3 d_prog_137_method_19_6 rfl (fun T6_4 Y6_4 => ?_)
  refine Gl.arraylength Y6_4 A30_3 d_prog_137_method_19_9 rfl ?_
  refine Gl.icmpge Y6_4 d_prog_137_method_19_10 (by decide) rfl rfl (fun c10_4 => ?_) (fun c10_4 => ?_)
  rotate_left
  · exact absurd c10_4 (by decide)
  refine Gl.aloadN Y6_4 rfl rfl d_prog_137_method_19_56 rfl ?_
  subst hz39 hz39_2 hz39_3
  exact Gl.retA Y6_4 (by decide) (by decide) rfl rfl d_prog_137_method_19_57 ⟨rfl, K30_3, A30_3⟩
def R55 : Room := { frames := 2, cells := 0, slots := 0, locals := 28 }
def Q55 (Z : State) (o : Addr) (wo : Addr) (ko : ClassId) (u : Addr) (wu : Addr) (ku : ClassId) (x0 : Int64) (x1 : Int64) (x2 : Int64) (h0 : Heap) (v : Option Value) (h : Heap) : Prop := v = some (.ref o) ∧ Keep h0 h [wo] ∧ Arv Z h wo ko .long (3 : Int32) [(.long (own_o x0 1)), (.long (own_o x1 (own_k x0 1))), (.long (own_o x2 (own_k x1 (own_k x0 1))))] (.long (0 : Int64))
theorem ef55 (o : Addr) (u : Addr) (m : MethodId) : entryFrame m #[(.ref o), (.ref u), (.int (1 : Int32))] 21 = mkF m 0 #[.val (.ref o), .val (.ref u), .val (.int (1 : Int32)), .unset, .unset, .unset, .unset, .unset, .unset, .unset, .unset, .unset, .unset, .unset, .unset, .unset, .unset, .unset, .unset, .unset, .unset] [] := by first | (simp [entryFrame, mkF, argsToLocals, Value.category]; done) | rfl
set_option maxRecDepth 65536 in
set_option maxHeartbeats 40000000 in
theorem rm55 (l : Launch) (Z : State) (a0 : Array Value) (hw : ∀ d ∈ tables_1, d.before a0 Z = true) (ws : List Jvm.Cond) (o : Addr) (wo : Addr) (ko : ClassId) (u : Addr) (wu : Addr) (ku : ClassId) (x0 : Int64) (x1 : Int64) (x2 : Int64) (h0 : Heap) (n0 : Nat) (Z0 : n0 ≤ h0.size) (E_o : Exa Z h0 o "com/example/meterwise/meterwise/model/WholeNumber") (F_o : Fld Z h0 o "com/example/meterwise/meterwise/model/WholeNumber" "words" "[J" (.ref wo)) (V_o : Arv Z h0 wo ko .long (3 : Int32) [(.long (0 : Int64)), (.long (0 : Int64)), (.long (0 : Int64))] (.long (0 : Int64))) (g_o : n0 ≤ wo) (nn_o : o ≠ wo) (E_u : Exa Z h0 u "com/example/meterwise/meterwise/model/WholeNumber") (F_u : Fld Z h0 u "com/example/meterwise/meterwise/model/WholeNumber" "words" "[J" (.ref wu)) (V_u : Arv Z h0 wu ku .long (3 : Int32) [(.long x0), (.long x1), (.long x2)] (.long (0 : Int64))) (nw : wo ≠ wu) (np : u ≠ wo) : OMet l Z ws (⟨"com/example/meterwise/meterwise/model/WholeNumber", "add", "(Lcom/example/meterwise/meterwise/model/WholeNumber;Z)Lcom/example/meterwise/meterwise/model/WholeNumber;"⟩ : MethodName) prog_137_method_14_code 21 (some (.object "com/example/meterwise/meterwise/model/WholeNumber")) R55 #[(.ref o), (.ref u), (.int (1 : Int32))] h0 n0 (Q55 Z o wo ko u wu ku x0 x1 x2 h0) := by
  refine OMet.of (plainFor_of_name pn_0) (ef55 o u) Z0 ?_
  intro p e s m below meth c T0 Y0 hnm
  have Y0 : Sd Z "com/example/meterwise/meterwise/model/WholeNumber" prog_137_method_14_code 21 (some (.object "com/example/meterwise/meterwise/model/WholeNumber")) n0 p l e R55 s m #[(.ref o), (.ref u), (.int (1 : Int32))] below meth c T0 h0 0 0 := Y0
  refine Gl.aloadN Y0 rfl rfl d_prog_137_method_14_0 rfl ?_
  refine Gl.callV Y0 (tw_46 hw) (tw_47 hw) (tw_49 hw) (tw_49 hw) (tw_48 hw) (tw_2 hw) (tw_50 hw) (by decide) E_o (rm51 l Z a0 hw [] o wo ko h0 n0 Y0.sz E_o F_o V_o) (a := o) (argsL := []) (rest := []) rfl rfl (lenOf pd_4 rfl) rfl (by decide) (Nat.le_of_ble_eq_true rfl) (by decide) (by decide) d_prog_137_method_14_1 rfl (fun v1 T1 h1 Y1 q1 => ?_)
  obtain ⟨rfl, rfl⟩ := q1
  show Gl p e below _ (T1.setTop (mkF m 4 #[.val (.ref o), .val (.ref u), .val (.int (1 : Int32)), .unset, .unset, .unset, .unset, .unset, .unset, .unset, .unset, .unset, .unset, .unset, .unset, .unset, .unset, .unset, .unset, .unset, .unset] [(.int (0 : Int32))]))
  refine Gl.ifne Y1 d_prog_137_method_14_4 (by decide) rfl rfl (fun c4 => ?_) (fun c4 => ?_)
  · exact absurd c4 (by decide)
  refine Gl.aloadN Y1 rfl rfl d_prog_137_method_14_7 rfl ?_
  refine Gl.callV Y1 (tw_46 hw) (tw_47 hw) (tw_49 hw) (tw_49 hw) (tw_48 hw) (tw_2 hw) (tw_50 hw) (by decide) E_u (rm48 l Z a0 hw [] u wu ku x0 x1 x2 h0 n0 Y1.sz E_u F_u V_u) (a := u) (argsL := []) (rest := []) rfl rfl (lenOf pd_4 rfl) rfl (by decide) (Nat.le_of_ble_eq_true rfl) (by decide) (by decide) d_prog_137_method_14_8 rfl (fun v8 T8 h8 Y8 q8 => ?_)
  obtain ⟨r8, rfl, p8, rfl⟩ := q8
  have br8 : r8 = 0 ∨ r8 = 1 := by rcases p8 with q | q; exact Or.inr q.2; exact Or.inl q.2
  show Gl p e below _ (T8.setTop (mkF m 11 #[.val (.ref o), .val (.ref u), .val (.int (1 : Int32)), .unset, .unset, .unset, .unset, .unset, .unset, .unset, .unset, .unset, .unset, .unset, .unset, .unset, .unset, .unset, .unset, .unset, .unset] [(.int r8)]))
  refine Gl.ifeq Y8 d_prog_137_method_14_11 (by decide) rfl rfl (fun c11 => ?_) (fun c11 => ?_)
  · refine Gl.aloadN Y8 rfl rfl d_prog_137_method_14_19 rfl ?_
    refine Gl.getF Y8 (host := "") (Or.inl (tw_14 hw)) Via.refl F_u d_prog_137_method_14_20 rfl (fun T20 Y20 => ?_)
    refine Gl.astoreN Y20 rfl (L' := #[.val (.ref o), .val (.ref u), .val (.int (1 : Int32)), .val (.ref wu), .unset, .unset, .unset, .unset, .unset, .unset, .unset, .unset, .unset, .unset, .unset, .unset, .unset, .unset, .unset, .unset, .unset]) rfl d_prog_137_method_14_23 rfl ?_
    refine Gl.aloadN Y20 rfl rfl d_prog_137_method_14_24 rfl ?_
    refine Gl.getF Y20 (host := "") (Or.inl (tw_14 hw)) Via.refl F_o d_prog_137_method_14_25 rfl (fun T25 Y25 => ?_)
    refine Gl.arraylength Y25 V_o d_prog_137_method_14_28 rfl ?_
    refine Gl.aloadN Y25 rfl rfl d_prog_137_method_14_29 rfl ?_
    refine Gl.arraylength Y25 V_u d_prog_137_method_14_30 rfl ?_
    refine Gl.callS Y25 (tw_71 hw) (tw_72 hw) (tw_73 hw) (tw_74 hw) (by decide) (rm49 l Z a0 hw [] h0 n0 Y25.sz) (argsL := [(.int (3 : Int32)), (.int (3 : Int32))]) (rest := []) rfl rfl (lenOf pd_6 rfl) rfl (by decide) (Nat.le_of_ble_eq_true rfl) (by decide) (by decide) d_prog_137_method_14_31 rfl (fun v31 T31 h31 Y31 q31 => ?_)
    obtain ⟨rfl, rfl⟩ := q31
    show Gl p e below _ (T31.setTop (mkF m 34 #[.val (.ref o), .val (.ref u), .val (.int (1 : Int32)), .val (.ref wu), .unset, .unset, .unset, .unset, .unset, .unset, .unset, .unset, .unset, .unset, .unset, .unset, .unset, .unset, .unset, .unset, .unset] [(.int (3 : Int32))]))
    refine Gl.istore Y31 (L' := #[.val (.ref o), .val (.ref u), .val (.int (1 : Int32)), .val (.ref wu), .val (.int (3 : Int32)), .unset, .unset, .unset, .unset, .unset, .unset, .unset, .unset, .unset, .unset, .unset, .unset, .unset, .unset, .unset, .unset]) rfl d_prog_137_method_14_34 rfl ?_
    refine Gl.aloadN Y31 rfl rfl d_prog_137_method_14_36 rfl ?_
    refine Gl.callP Y31 (tw_51 hw) (tw_52 hw) (tw_53 hw) (tw_1 hw) (tw_2 hw) (tw_54 hw) (by decide) E_o (rm50 l Z a0 hw [] o wo ko h0 n0 Y31.sz E_o F_o V_o) (a := o) (argsL := []) (rest := []) rfl rfl (lenOf pd_3 rfl) rfl (by decide) (Nat.le_of_ble_eq_true rfl) (by decide) (by decide) d_prog_137_method_14_37 rfl (fun v37 T37 h37 Y37 q37 => ?_)
    obtain ⟨rfl, rfl⟩ := q37
    show Gl p e below _ (T37.setTop (mkF m 40 #[.val (.ref o), .val (.ref u), .val (.int (1 : Int32)), .val (.ref wu), .val (.int (3 : Int32)), .unset, .unset, .unset, .unset, .unset, .unset, .unset, .unset, .unset, .unset, .unset, .unset, .unset, .unset, .unset, .unset] [(.long (0 : Int64))]))
    refine Gl.bipush Y37 (v := (63 : Int32)) (by decide) d_prog_137_method_14_40 rfl ?_
    refine Gl.lshr Y37 (r := (0 : Int64)) (by decide) d_prog_137_method_14_42 rfl ?_
    refine Gl.lstore Y37 (L' := #[.val (.ref o), .val (.ref u), .val (.int (1 : Int32)), .val (.ref wu), .val (.int (3 : Int32)), .val (.long (0 : Int64)), .second, .unset, .unset, .unset, .unset, .unset, .unset, .unset, .unset, .unset, .unset, .unset, .unset, .unset, .unset]) rfl d_prog_137_method_14_43 rfl ?_
    refine Gl.aloadN Y37 rfl rfl d_prog_137_method_14_45 rfl ?_
    refine Gl.aloadN Y37 rfl rfl d_prog_137_method_14_46 rfl ?_
    refine Gl.arraylength Y37 V_u d_prog_137_method_14_47 rfl ?_
    refine Gl.iconst Y37 (v := (1 : Int32)) (by decide) d_prog_137_method_14_48 rfl ?_
    refine Gl.isub Y37 (r := (2 : Int32)) (by decide) d_prog_137_method_14_49 rfl ?_
    refine Gl.laload Y37 V_u ⟨by decide, by decide⟩ (v := (.long x2)) rfl d_prog_137_method_14_50 rfl ?_
    refine Gl.bipush Y37 (v := (63 : Int32)) (by decide) d_prog_137_method_14_51 rfl ?_
    obtain ⟨v53, hv53⟩ : ∃ z : Int64, (x2 >>> ((63 : Int32) &&& 0x3f).toInt64) = z := ⟨_, rfl⟩
    refine Gl.lshr Y37 hv53 d_prog_137_method_14_53 rfl ?_
    refine Gl.lstore Y37 (L' := #[.val (.ref o), .val (.ref u), .val (.int (1 : Int32)), .val (.ref wu), .val (.int (3 : Int32)), .val (.long (0 : Int64)), .second, .val (.long v53), .second, .unset, .unset, .unset, .unset, .unset, .unset, .unset, .unset, .unset, .unset, .unset, .unset]) rfl d_prog_137_method_14_54 rfl ?_
    refine Gl.iloadN Y37 rfl d_prog_137_method_14_56 rfl ?_
    refine Gl.ifeq Y37 d_prog_137_method_14_57 (by decide) rfl rfl (fun c57 => ?_) (fun c57 => ?_)
    · exact absurd c57 (by decide)
    refine Gl.ldcJ Y37 (tw_65 hw) d_prog_137_method_14_60 rfl ?_
    refine Gl.goto Y37 d_prog_137_method_14_63 (by decide) rfl ?_
    refine Gl.lstore Y37 (L' := #[.val (.ref o), .val (.ref u), .val (.int (1 : Int32)), .val (.ref wu), .val (.int (3 : Int32)), .val (.long (0 : Int64)), .second, .val (.long v53), .second, .val (.long (-1 : Int64)), .second, .unset, .unset, .unset, .unset, .unset, .unset, .unset, .unset, .unset, .unset]) rfl d_prog_137_method_14_67 rfl ?_
    refine Gl.iloadN Y37 rfl d_prog_137_method_14_69 rfl ?_
    refine Gl.ifeq Y37 d_prog_137_method_14_70 (by decide) rfl rfl (fun c70 => ?_) (fun c70 => ?_)
    · exact absurd c70 (by decide)
    refine Gl.lconst Y37 (v := (1 : Int64)) (by decide) d_prog_137_method_14_73 rfl ?_
    refine Gl.goto Y37 d_prog_137_method_14_74 (by decide) rfl ?_
    refine Gl.lstore Y37 (L' := #[.val (.ref o), .val (.ref u), .val (.int (1 : Int32)), .val (.ref wu), .val (.int (3 : Int32)), .val (.long (0 : Int64)), .second, .val (.long v53), .second, .val (.long (-1 : Int64)), .second, .val (.long (1 : Int64)), .second, .unset, .unset, .unset, .unset, .unset, .unset, .unset, .unset]) rfl d_prog_137_method_14_78 rfl ?_
    refine Gl.lconst Y37 (v := (0 : Int64)) (by decide) d_prog_137_method_14_80 rfl ?_
    refine Gl.lstore Y37 (L' := #[.val (.ref o), .val (.ref u), .val (.int (1 : Int32)), .val (.ref wu), .val (.int (3 : Int32)), .val (.long (0 : Int64)), .second, .val (.long v53), .second, .val (.long (-1 : Int64)), .second, .val (.long (1 : Int64)), .second, .val (.long (0 : Int64)), .second, .unset, .unset, .unset, .unset, .unset, .unset]) rfl d_prog_137_method_14_81 rfl ?_
    refine Gl.lconst Y37 (v := (0 : Int64)) (by decide) d_prog_137_method_14_83 rfl ?_
    refine Gl.lstore Y37 (L' := #[.val (.ref o), .val (.ref u), .val (.int (1 : Int32)), .val (.ref wu), .val (.int (3 : Int32)), .val (.long (0 : Int64)), .second, .val (.long v53), .second, .val (.long (-1 : Int64)), .second, .val (.long (1 : Int64)), .second, .val (.long (0 : Int64)), .second, .val (.long (0 : Int64)), .second, .unset, .unset, .unset, .unset]) rfl d_prog_137_method_14_84 rfl ?_
    refine Gl.lconst Y37 (v := (0 : Int64)) (by decide) d_prog_137_method_14_86 rfl ?_
    refine Gl.lstore Y37 (L' := #[.val (.ref o), .val (.ref u), .val (.int (1 : Int32)), .val (.ref wu), .val (.int (3 : Int32)), .val (.long (0 : Int64)), .second, .val (.long v53), .second, .val (.long (-1 : Int64)), .second, .val (.long (1 : Int64)), .second, .val (.long (0 : Int64)), .second, .val (.long (0 : Int64)), .second, .val (.long (0 : Int64)), .second, .unset, .unset]) rfl d_prog_137_method_14_87 rfl ?_
    refine Gl.iconst Y37 (v := (1 : Int32)) (by decide) d_prog_137_method_14_89 rfl ?_
    refine Gl.istore Y37 (L' := #[.val (.ref o), .val (.ref u), .val (.int (1 : Int32)), .val (.ref wu), .val (.int (3 : Int32)), .val (.long (0 : Int64)), .second, .val (.long v53), .second, .val (.long (-1 : Int64)), .second, .val (.long (1 : Int64)), .second, .val (.long (0 : Int64)), .second, .val (.long (0 : Int64)), .second, .val (.long (0 : Int64)), .second, .val (.int (1 : Int32)), .unset]) rfl d_prog_137_method_14_90 rfl ?_
    refine Gl.iconst Y37 (v := (0 : Int32)) (by decide) d_prog_137_method_14_92 rfl ?_
    refine Gl.istore Y37 (L' := #[.val (.ref o), .val (.ref u), .val (.int (1 : Int32)), .val (.ref wu), .val (.int (3 : Int32)), .val (.long (0 : Int64)), .second, .val (.long v53), .second, .val (.long (-1 : Int64)), .second, .val (.long (1 : Int64)), .second, .val (.long (0 : Int64)), .second, .val (.long (0 : Int64)), .second, .val (.long (0 : Int64)), .second, .val (.int (1 : Int32)), .val (.int (0 : Int32))]) rfl d_prog_137_method_14_93 rfl ?_
    refine Gl.iload Y37 rfl d_prog_137_method_14_95 rfl ?_
    refine Gl.iload Y37 rfl d_prog_137_method_14_97 rfl ?_
    refine Gl.icmpge Y37 d_prog_137_method_14_99 (by decide) rfl rfl (fun c99 => ?_) (fun c99 => ?_)
    · exact absurd c99 (by decide)
    refine Gl.iload Y37 rfl d_prog_137_method_14_102 rfl ?_
    refine Gl.aloadN Y37 rfl rfl d_prog_137_method_14_104 rfl ?_
    refine Gl.getF Y37 (host := "") (Or.inl (tw_14 hw)) Via.refl F_o d_prog_137_method_14_105 rfl (fun T105 Y105 => ?_)
    refine Gl.arraylength Y105 V_o d_prog_137_method_14_108 rfl ?_
    refine Gl.icmpge Y105 d_prog_137_method_14_109 (by decide) rfl rfl (fun c109 => ?_) (fun c109 => ?_)
    · exact absurd c109 (by decide)
    refine Gl.aloadN Y105 rfl rfl d_prog_137_method_14_112 rfl ?_
    refine Gl.getF Y105 (host := "") (Or.inl (tw_14 hw)) Via.refl F_o d_prog_137_method_14_113 rfl (fun T113 Y113 => ?_)
    refine Gl.iload Y113 rfl d_prog_137_method_14_116 rfl ?_
    refine Gl.laload Y113 V_o ⟨by decide, by decide⟩ (v := (.long (0 : Int64))) rfl d_prog_137_method_14_118 rfl ?_
    refine Gl.goto Y113 d_prog_137_method_14_119 (by decide) rfl ?_
    refine Gl.lstore Y113 (L' := #[.val (.ref o), .val (.ref u), .val (.int (1 : Int32)), .val (.ref wu), .val (.int (3 : Int32)), .val (.long (0 : Int64)), .second, .val (.long v53), .second, .val (.long (-1 : Int64)), .second, .val (.long (1 : Int64)), .second, .val (.long (0 : Int64)), .second, .val (.long (0 : Int64)), .second, .val (.long (0 : Int64)), .second, .val (.int (1 : Int32)), .val (.int (0 : Int32))]) rfl d_prog_137_method_14_124 rfl ?_
    refine Gl.iload Y113 rfl d_prog_137_method_14_126 rfl ?_
    refine Gl.aloadN Y113 rfl rfl d_prog_137_method_14_128 rfl ?_
    refine Gl.arraylength Y113 V_u d_prog_137_method_14_129 rfl ?_
    refine Gl.icmpge Y113 d_prog_137_method_14_130 (by decide) rfl rfl (fun c130 => ?_) (fun c130 => ?_)
    · exact absurd c130 (by decide)
    refine Gl.aloadN Y113 rfl rfl d_prog_137_method_14_133 rfl ?_
    refine Gl.iload Y113 rfl d_prog_137_method_14_134 rfl ?_
    refine Gl.laload Y113 V_u ⟨by decide, by decide⟩ (v := (.long x0)) rfl d_prog_137_method_14_136 rfl ?_
    refine Gl.goto Y113 d_prog_137_method_14_137 (by decide) rfl ?_
    refine Gl.lload Y113 rfl d_prog_137_method_14_142 rfl ?_
    obtain ⟨v144, hv144⟩ : ∃ z : Int64, x0 ^^^ (-1 : Int64) = z := ⟨_, rfl⟩
    refine Gl.lxor Y113 hv144 d_prog_137_method_14_144 rfl ?_
    refine Gl.lstore Y113 (L' := #[.val (.ref o), .val (.ref u), .val (.int (1 : Int32)), .val (.ref wu), .val (.int (3 : Int32)), .val (.long (0 : Int64)), .second, .val (.long v53), .second, .val (.long (-1 : Int64)), .second, .val (.long (1 : Int64)), .second, .val (.long (0 : Int64)), .second, .val (.long v144), .second, .val (.long (0 : Int64)), .second, .val (.int (1 : Int32)), .val (.int (0 : Int32))]) rfl d_prog_137_method_14_145 rfl ?_
    refine Gl.lload Y113 rfl d_prog_137_method_14_147 rfl ?_
    refine Gl.lload Y113 rfl d_prog_137_method_14_149 rfl ?_
    obtain ⟨v151, hv151⟩ : ∃ z : Int64, (0 : Int64) + v144 = z := ⟨_, rfl⟩
    refine Gl.ladd Y113 hv151 d_prog_137_method_14_151 rfl ?_
    refine Gl.lload Y113 rfl d_prog_137_method_14_152 rfl ?_
    obtain ⟨v154, hv154⟩ : ∃ z : Int64, v151 + (1 : Int64) = z := ⟨_, rfl⟩
    refine Gl.ladd Y113 hv154 d_prog_137_method_14_154 rfl ?_
    obtain rfl : v154 = (own_o x0 1) := own_sum v144 1 x0 hv144 hv151 hv154
    refine Gl.lstore Y113 (L' := #[.val (.ref o), .val (.ref u), .val (.int (1 : Int32)), .val (.ref wu), .val (.int (3 : Int32)), .val (.long (0 : Int64)), .second, .val (.long v53), .second, .val (.long (-1 : Int64)), .second, .val (.long (1 : Int64)), .second, .val (.long (0 : Int64)), .second, .val (.long v144), .second, .val (.long (own_o x0 1)), .second, .val (.int (1 : Int32)), .val (.int (0 : Int32))]) rfl d_prog_137_method_14_155 rfl ?_
    refine Gl.lload Y113 rfl d_prog_137_method_14_157 rfl ?_
    refine Gl.lload Y113 rfl d_prog_137_method_14_159 rfl ?_
    obtain ⟨v161, hv161⟩ : ∃ z : Int64, (0 : Int64) &&& v144 = z := ⟨_, rfl⟩
    refine Gl.land Y113 hv161 d_prog_137_method_14_161 rfl ?_
    refine Gl.lload Y113 rfl d_prog_137_method_14_162 rfl ?_
    refine Gl.lload Y113 rfl d_prog_137_method_14_164 rfl ?_
    obtain ⟨v166, hv166⟩ : ∃ z : Int64, (0 : Int64) ||| v144 = z := ⟨_, rfl⟩
    refine Gl.lor Y113 hv166 d_prog_137_method_14_166 rfl ?_
    refine Gl.lload Y113 rfl d_prog_137_method_14_167 rfl ?_
    refine Gl.ldcJ Y113 (tw_65 hw) d_prog_137_method_14_169 rfl ?_
    obtain ⟨v172, hv172⟩ : ∃ z : Int64, (own_o x0 1) ^^^ (-1 : Int64) = z := ⟨_, rfl⟩
    refine Gl.lxor Y113 hv172 d_prog_137_method_14_172 rfl ?_
    obtain ⟨v173, hv173⟩ : ∃ z : Int64, v166 &&& v172 = z := ⟨_, rfl⟩
    refine Gl.land Y113 hv173 d_prog_137_method_14_173 rfl ?_
    obtain ⟨v174, hv174⟩ : ∃ z : Int64, v161 ||| v173 = z := ⟨_, rfl⟩
    refine Gl.lor Y113 hv174 d_prog_137_method_14_174 rfl ?_
    refine Gl.bipush Y113 (v := (63 : Int32)) (by decide) d_prog_137_method_14_175 rfl ?_
    obtain ⟨v177, hv177⟩ : ∃ z : Int64, (v174.toUInt64 >>> ((63 : Int32) &&& 0x3f).toInt64.toUInt64).toInt64 = z := ⟨_, rfl⟩
    refine Gl.lushr Y113 hv177 d_prog_137_method_14_177 rfl ?_
    obtain rfl : v177 = (own_k x0 1) := by rw [← hv177, ← hv174, ← hv173, ← hv172, ← hv166, ← hv161, ← hv144]; exact own_carry x0 1 (Or.inr rfl)
    refine Gl.lstore Y113 (L' := #[.val (.ref o), .val (.ref u), .val (.int (1 : Int32)), .val (.ref wu), .val (.int (3 : Int32)), .val (.long (0 : Int64)), .second, .val (.long v53), .second, .val (.long (-1 : Int64)), .second, .val (.long (own_k x0 1)), .second, .val (.long (0 : Int64)), .second, .val (.long v144), .second, .val (.long (own_o x0 1)), .second, .val (.int (1 : Int32)), .val (.int (0 : Int32))]) rfl d_prog_137_method_14_178 rfl ?_
    refine Gl.iload Y113 rfl d_prog_137_method_14_180 rfl ?_
    refine Gl.aloadN Y113 rfl rfl d_prog_137_method_14_182 rfl ?_
    refine Gl.getF Y113 (host := "") (Or.inl (tw_14 hw)) Via.refl F_o d_prog_137_method_14_183 rfl (fun T183 Y183 => ?_)
    refine Gl.arraylength Y183 V_o d_prog_137_method_14_186 rfl ?_
    refine Gl.icmpge Y183 d_prog_137_method_14_187 (by decide) rfl rfl (fun c187 => ?_) (fun c187 => ?_)
    · exact absurd c187 (by decide)
    refine Gl.aloadN Y183 rfl rfl d_prog_137_method_14_190 rfl ?_
    refine Gl.getF Y183 (host := "") (Or.inl (tw_14 hw)) Via.refl F_o d_prog_137_method_14_191 rfl (fun T191 Y191 => ?_)
    refine Gl.iload Y191 rfl d_prog_137_method_14_194 rfl ?_
    refine Gl.lload Y191 rfl d_prog_137_method_14_196 rfl ?_
    refine Gl.lastore Y191 V_o (v := (.long (own_o x0 1))) rfl ⟨by decide, by decide⟩ (ix := 0) rfl (Nat.le_of_ble_eq_true rfl) g_o d_prog_137_method_14_198 rfl (fun T198 h198 Y198 W198 A198 => ?_)
    have A198 : Arv Z h198 wo ko .long (3 : Int32) [(.long (own_o x0 1)), (.long (0 : Int64)), (.long (0 : Int64))] (.long (0 : Int64)) := A198
    have K198 : Keep h0 h198 [wo] := (Keep.refl h0 [wo]).wr W198 (Or.inl (List.mem_of_getElem? (i := 0) rfl))
    show Gl p e below _ (T198.setTop (mkF m 199 #[.val (.ref o), .val (.ref u), .val (.int (1 : Int32)), .val (.ref wu), .val (.int (3 : Int32)), .val (.long (0 : Int64)), .second, .val (.long v53), .second, .val (.long (-1 : Int64)), .second, .val (.long (own_k x0 1)), .second, .val (.long (0 : Int64)), .second, .val (.long v144), .second, .val (.long (own_o x0 1)), .second, .val (.int (1 : Int32)), .val (.int (0 : Int32))] []))
    refine Gl.goto Y198 d_prog_137_method_14_199 (by decide) rfl ?_
    refine Gl.iinc Y198 rfl (r := (1 : Int32)) (by decide) (L' := #[.val (.ref o), .val (.ref u), .val (.int (1 : Int32)), .val (.ref wu), .val (.int (3 : Int32)), .val (.long (0 : Int64)), .second, .val (.long v53), .second, .val (.long (-1 : Int64)), .second, .val (.long (own_k x0 1)), .second, .val (.long (0 : Int64)), .second, .val (.long v144), .second, .val (.long (own_o x0 1)), .second, .val (.int (1 : Int32)), .val (.int (1 : Int32))]) rfl d_prog_137_method_14_225 rfl ?_
    refine Gl.goto Y198 d_prog_137_method_14_228 (by decide) rfl ?_
    refine Gl.iload Y198 rfl d_prog_137_method_14_95 rfl ?_
    refine Gl.iload Y198 rfl d_prog_137_method_14_97 rfl ?_
    refine Gl.icmpge Y198 d_prog_137_method_14_99 (by decide) rfl rfl (fun c99_2 => ?_) (fun c99_2 => ?_)
    · exact absurd c99_2 (by decide)
    refine Gl.iload Y198 rfl d_prog_137_method_14_102 rfl ?_
    refine Gl.aloadN Y198 rfl rfl d_prog_137_method_14_104 rfl ?_
    have f1 : Fld Z h198 o "com/example/meterwise/meterwise/model/WholeNumber" "words" "[J" (.ref wo) := (Fld.other W198 F_o (Or.inl nn_o))
    refine Gl.getF Y198 (host := "") (Or.inl (tw_14 hw)) Via.refl f1 d_prog_137_method_14_105 rfl (fun T105_2 Y105_2 => ?_)
    refine Gl.arraylength Y105_2 A198 d_prog_137_method_14_108 rfl ?_
    refine Gl.icmpge Y105_2 d_prog_137_method_14_109 (by decide) rfl rfl (fun c109_2 => ?_) (fun c109_2 => ?_)
    · exact absurd c109_2 (by decide)
    refine Gl.aloadN Y105_2 rfl rfl d_prog_137_method_14_112 rfl ?_
    refine Gl.getF Y105_2 (host := "") (Or.inl (tw_14 hw)) Via.refl f1 d_prog_137_method_14_113 rfl (fun T113_2 Y113_2 => ?_)
    refine Gl.iload Y113_2 rfl d_prog_137_method_14_116 rfl ?_
    refine Gl.laload Y113_2 A198 ⟨by decide, by decide⟩ (v := (.long (0 : Int64))) rfl d_prog_137_method_14_118 rfl ?_
    refine Gl.goto Y113_2 d_prog_137_method_14_119 (by decide) rfl ?_
    refine Gl.lstore Y113_2 (L' := #[.val (.ref o), .val (.ref u), .val (.int (1 : Int32)), .val (.ref wu), .val (.int (3 : Int32)), .val (.long (0 : Int64)), .second, .val (.long v53), .second, .val (.long (-1 : Int64)), .second, .val (.long (own_k x0 1)), .second, .val (.long (0 : Int64)), .second, .val (.long v144), .second, .val (.long (own_o x0 1)), .second, .val (.int (1 : Int32)), .val (.int (1 : Int32))]) rfl d_prog_137_method_14_124 rfl ?_
    refine Gl.iload Y113_2 rfl d_prog_137_method_14_126 rfl ?_
    refine Gl.aloadN Y113_2 rfl rfl d_prog_137_method_14_128 rfl ?_
    have f2 : Arv Z h198 wu ku .long (3 : Int32) [(.long x0), (.long x1), (.long x2)] (.long (0 : Int64)) := (V_u.other W198 (Ne.symm nw))
    refine Gl.arraylength Y113_2 f2 d_prog_137_method_14_129 rfl ?_
    refine Gl.icmpge Y113_2 d_prog_137_method_14_130 (by decide) rfl rfl (fun c130_2 => ?_) (fun c130_2 => ?_)
    · exact absurd c130_2 (by decide)
    refine Gl.aloadN Y113_2 rfl rfl d_prog_137_method_14_133 rfl ?_
    refine Gl.iload Y113_2 rfl d_prog_137_method_14_134 rfl ?_
    refine Gl.laload Y113_2 f2 ⟨by decide, by decide⟩ (v := (.long x1)) rfl d_prog_137_method_14_136 rfl ?_
    refine Gl.goto Y113_2 d_prog_137_method_14_137 (by decide) rfl ?_
    refine Gl.lload Y113_2 rfl d_prog_137_method_14_142 rfl ?_
    obtain ⟨v144_2, hv144_2⟩ : ∃ z : Int64, x1 ^^^ (-1 : Int64) = z := ⟨_, rfl⟩
    refine Gl.lxor Y113_2 hv144_2 d_prog_137_method_14_144 rfl ?_
    refine Gl.lstore Y113_2 (L' := #[.val (.ref o), .val (.ref u), .val (.int (1 : Int32)), .val (.ref wu), .val (.int (3 : Int32)), .val (.long (0 : Int64)), .second, .val (.long v53), .second, .val (.long (-1 : Int64)), .second, .val (.long (own_k x0 1)), .second, .val (.long (0 : Int64)), .second, .val (.long v144_2), .second, .val (.long (own_o x0 1)), .second, .val (.int (1 : Int32)), .val (.int (1 : Int32))]) rfl d_prog_137_method_14_145 rfl ?_
    refine Gl.lload Y113_2 rfl d_prog_137_method_14_147 rfl ?_
    refine Gl.lload Y113_2 rfl d_prog_137_method_14_149 rfl ?_
    obtain ⟨v151_2, hv151_2⟩ : ∃ z : Int64, (0 : Int64) + v144_2 = z := ⟨_, rfl⟩
    refine Gl.ladd Y113_2 hv151_2 d_prog_137_method_14_151 rfl ?_
    refine Gl.lload Y113_2 rfl d_prog_137_method_14_152 rfl ?_
    obtain ⟨v154_2, hv154_2⟩ : ∃ z : Int64, v151_2 + (own_k x0 1) = z := ⟨_, rfl⟩
    refine Gl.ladd Y113_2 hv154_2 d_prog_137_method_14_154 rfl ?_
    obtain rfl : v154_2 = (own_o x1 (own_k x0 1)) := own_sum v144_2 (own_k x0 1) x1 hv144_2 hv151_2 hv154_2
    refine Gl.lstore Y113_2 (L' := #[.val (.ref o), .val (.ref u), .val (.int (1 : Int32)), .val (.ref wu), .val (.int (3 : Int32)), .val (.long (0 : Int64)), .second, .val (.long v53), .second, .val (.long (-1 : Int64)), .second, .val (.long (own_k x0 1)), .second, .val (.long (0 : Int64)), .second, .val (.long v144_2), .second, .val (.long (own_o x1 (own_k x0 1))), .second, .val (.int (1 : Int32)), .val (.int (1 : Int32))]) rfl d_prog_137_method_14_155 rfl ?_
    refine Gl.lload Y113_2 rfl d_prog_137_method_14_157 rfl ?_
    refine Gl.lload Y113_2 rfl d_prog_137_method_14_159 rfl ?_
    obtain ⟨v161_2, hv161_2⟩ : ∃ z : Int64, (0 : Int64) &&& v144_2 = z := ⟨_, rfl⟩
    refine Gl.land Y113_2 hv161_2 d_prog_137_method_14_161 rfl ?_
    refine Gl.lload Y113_2 rfl d_prog_137_method_14_162 rfl ?_
    refine Gl.lload Y113_2 rfl d_prog_137_method_14_164 rfl ?_
    obtain ⟨v166_2, hv166_2⟩ : ∃ z : Int64, (0 : Int64) ||| v144_2 = z := ⟨_, rfl⟩
    refine Gl.lor Y113_2 hv166_2 d_prog_137_method_14_166 rfl ?_
    refine Gl.lload Y113_2 rfl d_prog_137_method_14_167 rfl ?_
    refine Gl.ldcJ Y113_2 (tw_65 hw) d_prog_137_method_14_169 rfl ?_
    obtain ⟨v172_2, hv172_2⟩ : ∃ z : Int64, (own_o x1 (own_k x0 1)) ^^^ (-1 : Int64) = z := ⟨_, rfl⟩
    refine Gl.lxor Y113_2 hv172_2 d_prog_137_method_14_172 rfl ?_
    obtain ⟨v173_2, hv173_2⟩ : ∃ z : Int64, v166_2 &&& v172_2 = z := ⟨_, rfl⟩
    refine Gl.land Y113_2 hv173_2 d_prog_137_method_14_173 rfl ?_
    obtain ⟨v174_2, hv174_2⟩ : ∃ z : Int64, v161_2 ||| v173_2 = z := ⟨_, rfl⟩
    refine Gl.lor Y113_2 hv174_2 d_prog_137_method_14_174 rfl ?_
    refine Gl.bipush Y113_2 (v := (63 : Int32)) (by decide) d_prog_137_method_14_175 rfl ?_
    obtain ⟨v177_2, hv177_2⟩ : ∃ z : Int64, (v174_2.toUInt64 >>> ((63 : Int32) &&& 0x3f).toInt64.toUInt64).toInt64 = z := ⟨_, rfl⟩
    refine Gl.lushr Y113_2 hv177_2 d_prog_137_method_14_177 rfl ?_
    obtain rfl : v177_2 = (own_k x1 (own_k x0 1)) := by rw [← hv177_2, ← hv174_2, ← hv173_2, ← hv172_2, ← hv166_2, ← hv161_2, ← hv144_2]; exact own_carry x1 (own_k x0 1) (own_k01 (Or.inr rfl))
    refine Gl.lstore Y113_2 (L' := #[.val (.ref o), .val (.ref u), .val (.int (1 : Int32)), .val (.ref wu), .val (.int (3 : Int32)), .val (.long (0 : Int64)), .second, .val (.long v53), .second, .val (.long (-1 : Int64)), .second, .val (.long (own_k x1 (own_k x0 1))), .second, .val (.long (0 : Int64)), .second, .val (.long v144_2), .second, .val (.long (own_o x1 (own_k x0 1))), .second, .val (.int (1 : Int32)), .val (.int (1 : Int32))]) rfl d_prog_137_method_14_178 rfl ?_
    refine Gl.iload Y113_2 rfl d_prog_137_method_14_180 rfl ?_
    refine Gl.aloadN Y113_2 rfl rfl d_prog_137_method_14_182 rfl ?_
    refine Gl.getF Y113_2 (host := "") (Or.inl (tw_14 hw)) Via.refl f1 d_prog_137_method_14_183 rfl (fun T183_2 Y183_2 => ?_)
    refine Gl.arraylength Y183_2 A198 d_prog_137_method_14_186 rfl ?_
    refine Gl.icmpge Y183_2 d_prog_137_method_14_187 (by decide) rfl rfl (fun c187_2 => ?_) (fun c187_2 => ?_)
    · exact absurd c187_2 (by decide)
    refine Gl.aloadN Y183_2 rfl rfl d_prog_137_method_14_190 rfl ?_
    refine Gl.getF Y183_2 (host := "") (Or.inl (tw_14 hw)) Via.refl f1 d_prog_137_method_14_191 rfl (fun T191_2 Y191_2 => ?_)
    refine Gl.iload Y191_2 rfl d_prog_137_method_14_194 rfl ?_
    refine Gl.lload Y191_2 rfl d_prog_137_method_14_196 rfl ?_
    refine Gl.lastore Y191_2 A198 (v := (.long (own_o x1 (own_k x0 1)))) rfl ⟨by decide, by decide⟩ (ix := 1) rfl (Nat.le_of_ble_eq_true rfl) g_o d_prog_137_method_14_198 rfl (fun T198_2 h198_2 Y198_2 W198_2 A198_2 => ?_)
    have A198_2 : Arv Z h198_2 wo ko .long (3 : Int32) [(.long (own_o x0 1)), (.long (own_o x1 (own_k x0 1))), (.long (0 : Int64))] (.long (0 : Int64)) := A198_2
    have K198_2 : Keep h0 h198_2 [wo] := K198.wr W198_2 (Or.inl (List.mem_of_getElem? (i := 0) rfl))
    show Gl p e below _ (T198_2.setTop (mkF m 199 #[.val (.ref o), .val (.ref u), .val (.int (1 : Int32)), .val (.ref wu), .val (.int (3 : Int32)), .val (.long (0 : Int64)), .second, .val (.long v53), .second, .val (.long (-1 : Int64)), .second, .val (.long (own_k x1 (own_k x0 1))), .second, .val (.long (0 : Int64)), .second, .val (.long v144_2), .second, .val (.long (own_o x1 (own_k x0 1))), .second, .val (.int (1 : Int32)), .val (.int (1 : Int32))] []))
    refine Gl.goto Y198_2 d_prog_137_method_14_199 (by decide) rfl ?_
    refine Gl.iinc Y198_2 rfl (r := (2 : Int32)) (by decide) (L' := #[.val (.ref o), .val (.ref u), .val (.int (1 : Int32)), .val (.ref wu), .val (.int (3 : Int32)), .val (.long (0 : Int64)), .second, .val (.long v53), .second, .val (.long (-1 : Int64)), .second, .val (.long (own_k x1 (own_k x0 1))), .second, .val (.long (0 : Int64)), .second, .val (.long v144_2), .second, .val (.long (own_o x1 (own_k x0 1))), .second, .val (.int (1 : Int32)), .val (.int (2 : Int32))]) rfl d_prog_137_method_14_225 rfl ?_
    refine Gl.goto Y198_2 d_prog_137_method_14_228 (by decide) rfl ?_
    refine Gl.iload Y198_2 rfl d_prog_137_method_14_95 rfl ?_
    refine Gl.iload Y198_2 rfl d_prog_137_method_14_97 rfl ?_
    refine Gl.icmpge Y198_2 d_prog_137_method_14_99 (by decide) rfl rfl (fun c99_3 => ?_) (fun c99_3 => ?_)
    · exact absurd c99_3 (by decide)
    refine Gl.iload Y198_2 rfl d_prog_137_method_14_102 rfl ?_
    refine Gl.aloadN Y198_2 rfl rfl d_prog_137_method_14_104 rfl ?_
    have f3 : Fld Z h198_2 o "com/example/meterwise/meterwise/model/WholeNumber" "words" "[J" (.ref wo) := (Fld.other W198_2 f1 (Or.inl nn_o))
    refine Gl.getF Y198_2 (host := "") (Or.inl (tw_14 hw)) Via.refl f3 d_prog_137_method_14_105 rfl (fun T105_3 Y105_3 => ?_)
    refine Gl.arraylength Y105_3 A198_2 d_prog_137_method_14_108 rfl ?_
    refine Gl.icmpge Y105_3 d_prog_137_method_14_109 (by decide) rfl rfl (fun c109_3 => ?_) (fun c109_3 => ?_)
    · exact absurd c109_3 (by decide)
    refine Gl.aloadN Y105_3 rfl rfl d_prog_137_method_14_112 rfl ?_
    refine Gl.getF Y105_3 (host := "") (Or.inl (tw_14 hw)) Via.refl f3 d_prog_137_method_14_113 rfl (fun T113_3 Y113_3 => ?_)
    refine Gl.iload Y113_3 rfl d_prog_137_method_14_116 rfl ?_
    refine Gl.laload Y113_3 A198_2 ⟨by decide, by decide⟩ (v := (.long (0 : Int64))) rfl d_prog_137_method_14_118 rfl ?_
    refine Gl.goto Y113_3 d_prog_137_method_14_119 (by decide) rfl ?_
    refine Gl.lstore Y113_3 (L' := #[.val (.ref o), .val (.ref u), .val (.int (1 : Int32)), .val (.ref wu), .val (.int (3 : Int32)), .val (.long (0 : Int64)), .second, .val (.long v53), .second, .val (.long (-1 : Int64)), .second, .val (.long (own_k x1 (own_k x0 1))), .second, .val (.long (0 : Int64)), .second, .val (.long v144_2), .second, .val (.long (own_o x1 (own_k x0 1))), .second, .val (.int (1 : Int32)), .val (.int (2 : Int32))]) rfl d_prog_137_method_14_124 rfl ?_
    refine Gl.iload Y113_3 rfl d_prog_137_method_14_126 rfl ?_
    refine Gl.aloadN Y113_3 rfl rfl d_prog_137_method_14_128 rfl ?_
    have f4 : Arv Z h198_2 wu ku .long (3 : Int32) [(.long x0), (.long x1), (.long x2)] (.long (0 : Int64)) := (f2.other W198_2 (Ne.symm nw))
    refine Gl.arraylength Y113_3 f4 d_prog_137_method_14_129 rfl ?_
    refine Gl.icmpge Y113_3 d_prog_137_method_14_130 (by decide) rfl rfl (fun c130_3 => ?_) (fun c130_3 => ?_)
    · exact absurd c130_3 (by decide)
    refine Gl.aloadN Y113_3 rfl rfl d_prog_137_method_14_133 rfl ?_
    refine Gl.iload Y113_3 rfl d_prog_137_method_14_134 rfl ?_
    refine Gl.laload Y113_3 f4 ⟨by decide, by decide⟩ (v := (.long x2)) rfl d_prog_137_method_14_136 rfl ?_
    refine Gl.goto Y113_3 d_prog_137_method_14_137 (by decide) rfl ?_
    refine Gl.lload Y113_3 rfl d_prog_137_method_14_142 rfl ?_
    obtain ⟨v144_3, hv144_3⟩ : ∃ z : Int64, x2 ^^^ (-1 : Int64) = z := ⟨_, rfl⟩
    refine Gl.lxor Y113_3 hv144_3 d_prog_137_method_14_144 rfl ?_
    refine Gl.lstore Y113_3 (L' := #[.val (.ref o), .val (.ref u), .val (.int (1 : Int32)), .val (.ref wu), .val (.int (3 : Int32)), .val (.long (0 : Int64)), .second, .val (.long v53), .second, .val (.long (-1 : Int64)), .second, .val (.long (own_k x1 (own_k x0 1))), .second, .val (.long (0 : Int64)), .second, .val (.long v144_3), .second, .val (.long (own_o x1 (own_k x0 1))), .second, .val (.int (1 : Int32)), .val (.int (2 : Int32))]) rfl d_prog_137_method_14_145 rfl ?_
    refine Gl.lload Y113_3 rfl d_prog_137_method_14_147 rfl ?_
    refine Gl.lload Y113_3 rfl d_prog_137_method_14_149 rfl ?_
    obtain ⟨v151_3, hv151_3⟩ : ∃ z : Int64, (0 : Int64) + v144_3 = z := ⟨_, rfl⟩
    refine Gl.ladd Y113_3 hv151_3 d_prog_137_method_14_151 rfl ?_
    refine Gl.lload Y113_3 rfl d_prog_137_method_14_152 rfl ?_
    obtain ⟨v154_3, hv154_3⟩ : ∃ z : Int64, v151_3 + (own_k x1 (own_k x0 1)) = z := ⟨_, rfl⟩
    refine Gl.ladd Y113_3 hv154_3 d_prog_137_method_14_154 rfl ?_
    obtain rfl : v154_3 = (own_o x2 (own_k x1 (own_k x0 1))) := own_sum v144_3 (own_k x1 (own_k x0 1)) x2 hv144_3 hv151_3 hv154_3
    refine Gl.lstore Y113_3 (L' := #[.val (.ref o), .val (.ref u), .val (.int (1 : Int32)), .val (.ref wu), .val (.int (3 : Int32)), .val (.long (0 : Int64)), .second, .val (.long v53), .second, .val (.long (-1 : Int64)), .second, .val (.long (own_k x1 (own_k x0 1))), .second, .val (.long (0 : Int64)), .second, .val (.long v144_3), .second, .val (.long (own_o x2 (own_k x1 (own_k x0 1)))), .second, .val (.int (1 : Int32)), .val (.int (2 : Int32))]) rfl d_prog_137_method_14_155 rfl ?_
    refine Gl.lload Y113_3 rfl d_prog_137_method_14_157 rfl ?_
    refine Gl.lload Y113_3 rfl d_prog_137_method_14_159 rfl ?_
    obtain ⟨v161_3, hv161_3⟩ : ∃ z : Int64, (0 : Int64) &&& v144_3 = z := ⟨_, rfl⟩
    refine Gl.land Y113_3 hv161_3 d_prog_137_method_14_161 rfl ?_
    refine Gl.lload Y113_3 rfl d_prog_137_method_14_162 rfl ?_
    refine Gl.lload Y113_3 rfl d_prog_137_method_14_164 rfl ?_
    obtain ⟨v166_3, hv166_3⟩ : ∃ z : Int64, (0 : Int64) ||| v144_3 = z := ⟨_, rfl⟩
    refine Gl.lor Y113_3 hv166_3 d_prog_137_method_14_166 rfl ?_
    refine Gl.lload Y113_3 rfl d_prog_137_method_14_167 rfl ?_
    refine Gl.ldcJ Y113_3 (tw_65 hw) d_prog_137_method_14_169 rfl ?_
    obtain ⟨v172_3, hv172_3⟩ : ∃ z : Int64, (own_o x2 (own_k x1 (own_k x0 1))) ^^^ (-1 : Int64) = z := ⟨_, rfl⟩
    refine Gl.lxor Y113_3 hv172_3 d_prog_137_method_14_172 rfl ?_
    obtain ⟨v173_3, hv173_3⟩ : ∃ z : Int64, v166_3 &&& v172_3 = z := ⟨_, rfl⟩
    refine Gl.land Y113_3 hv173_3 d_prog_137_method_14_173 rfl ?_
    obtain ⟨v174_3, hv174_3⟩ : ∃ z : Int64, v161_3 ||| v173_3 = z := ⟨_, rfl⟩
    refine Gl.lor Y113_3 hv174_3 d_prog_137_method_14_174 rfl ?_
    refine Gl.bipush Y113_3 (v := (63 : Int32)) (by decide) d_prog_137_method_14_175 rfl ?_
    obtain ⟨v177_3, hv177_3⟩ : ∃ z : Int64, (v174_3.toUInt64 >>> ((63 : Int32) &&& 0x3f).toInt64.toUInt64).toInt64 = z := ⟨_, rfl⟩
    refine Gl.lushr Y113_3 hv177_3 d_prog_137_method_14_177 rfl ?_
    obtain rfl : v177_3 = (own_k x2 (own_k x1 (own_k x0 1))) := by rw [← hv177_3, ← hv174_3, ← hv173_3, ← hv172_3, ← hv166_3, ← hv161_3, ← hv144_3]; exact own_carry x2 (own_k x1 (own_k x0 1)) (own_k01 (own_k01 (Or.inr rfl)))
    refine Gl.lstore Y113_3 (L' := #[.val (.ref o), .val (.ref u), .val (.int (1 : Int32)), .val (.ref wu), .val (.int (3 : Int32)), .val (.long (0 : Int64)), .second, .val (.long v53), .second, .val (.long (-1 : Int64)), .second, .val (.long (own_k x2 (own_k x1 (own_k x0 1)))), .second, .val (.long (0 : Int64)), .second, .val (.long v144_3), .second, .val (.long (own_o x2 (own_k x1 (own_k x0 1)))), .second, .val (.int (1 : Int32)), .val (.int (2 : Int32))]) rfl d_prog_137_method_14_178 rfl ?_
    refine Gl.iload Y113_3 rfl d_prog_137_method_14_180 rfl ?_
    refine Gl.aloadN Y113_3 rfl rfl d_prog_137_method_14_182 rfl ?_
    refine Gl.getF Y113_3 (host := "") (Or.inl (tw_14 hw)) Via.refl f3 d_prog_137_method_14_183 rfl (fun T183_3 Y183_3 => ?_)
    refine Gl.arraylength Y183_3 A198_2 d_prog_137_method_14_186 rfl ?_
    refine Gl.icmpge Y183_3 d_prog_137_method_14_187 (by decide) rfl rfl (fun c187_3 => ?_) (fun c187_3 => ?_)
    · exact absurd c187_3 (by decide)
    refine Gl.aloadN Y183_3 rfl rfl d_prog_137_method_14_190 rfl ?_
    refine Gl.getF Y183_3 (host := "") (Or.inl (tw_14 hw)) Via.refl f3 d_prog_137_method_14_191 rfl (fun T191_3 Y191_3 => ?_)
    refine Gl.iload Y191_3 rfl d_prog_137_method_14_194 rfl ?_
    refine Gl.lload Y191_3 rfl d_prog_137_method_14_196 rfl ?_
    refine Gl.lastore Y191_3 A198_2 (v := (.long (own_o x2 (own_k x1 (own_k x0 1))))) rfl ⟨by decide, by decide⟩ (ix := 2) rfl (Nat.le_of_ble_eq_true rfl) g_o d_prog_137_method_14_198 rfl (fun T198_3 h198_3 Y198_3 W198_3 A198_3 => ?_)
    have A198_3 : Arv Z h198_3 wo ko .long (3 : Int32) [(.long (own_o x0 1)), (.long (own_o x1 (own_k x0 1))), (.long (own_o x2 (own_k x1 (own_k x0 1))))] (.long (0 : Int64)) := A198_3
    have K198_3 : Keep h0 h198_3 [wo] := K198_2.wr W198_3 (Or.inl (List.mem_of_getElem? (i := 0) rfl))
    show Gl p e below _ (T198_3.setTop (mkF m 199 #[.val (.ref o), .val (.ref u), .val (.int (1 : Int32)), .val (.ref wu), .val (.int (3 : Int32)), .val (.long (0 : Int64)), .second, .val (.long v53), .second, .val (.long (-1 : Int64)), .second, .val (.long (own_k x2 (own_k x1 (own_k x0 1)))), .second, .val (.long (0 : Int64)), .second, .val (.long v144_3), .second, .val (.long (own_o x2 (own_k x1 (own_k x0 1)))), .second, .val (.int (1 : Int32)), .val (.int (2 : Int32))] []))
    refine Gl.goto Y198_3 d_prog_137_method_14_199 (by decide) rfl ?_
    refine Gl.iinc Y198_3 rfl (r := (3 : Int32)) (by decide) (L' := #[.val (.ref o), .val (.ref u), .val (.int (1 : Int32)), .val (.ref wu), .val (.int (3 : Int32)), .val (.long (0 : Int64)), .second, .val (.long v53), .second, .val (.long (-1 : Int64)), .second, .val (.long (own_k x2 (own_k x1 (own_k x0 1)))), .second, .val (.long (0 : Int64)), .second, .val (.long v144_3), .second, .val (.long (own_o x2 (own_k x1 (own_k x0 1)))), .second, .val (.int (1 : Int32)), .val (.int (3 : Int32))]) rfl d_prog_137_method_14_225 rfl ?_
    refine Gl.goto Y198_3 d_prog_137_method_14_228 (by decide) rfl ?_
    refine Gl.iload Y198_3 rfl d_prog_137_method_14_95 rfl ?_
    refine Gl.iload Y198_3 rfl d_prog_137_method_14_97 rfl ?_
    refine Gl.icmpge Y198_3 d_prog_137_method_14_99 (by decide) rfl rfl (fun c99_4 => ?_) (fun c99_4 => ?_)
    rotate_left
    · exact absurd c99_4 (by decide)
    refine Gl.iload Y198_3 rfl d_prog_137_method_14_231 rfl ?_
    refine Gl.ifeq Y198_3 d_prog_137_method_14_233 (by decide) rfl rfl (fun c233 => ?_) (fun c233 => ?_)
    · exact absurd c233 (by decide)
    refine Gl.lload Y198_3 rfl d_prog_137_method_14_236 rfl ?_
    refine Gl.lload Y198_3 rfl d_prog_137_method_14_238 rfl ?_
    obtain ⟨v240, hv240⟩ : ∃ z : Int64, (0 : Int64) ^^^ (own_o x2 (own_k x1 (own_k x0 1))) = z := ⟨_, rfl⟩
    refine Gl.lxor Y198_3 hv240 d_prog_137_method_14_240 rfl ?_
    refine Gl.lload Y198_3 rfl d_prog_137_method_14_241 rfl ?_
    refine Gl.lload Y198_3 rfl d_prog_137_method_14_243 rfl ?_
    obtain ⟨v245, hv245⟩ : ∃ z : Int64, v144_3 ^^^ (own_o x2 (own_k x1 (own_k x0 1))) = z := ⟨_, rfl⟩
    refine Gl.lxor Y198_3 hv245 d_prog_137_method_14_245 rfl ?_
    obtain ⟨v246, hv246⟩ : ∃ z : Int64, v240 &&& v245 = z := ⟨_, rfl⟩
    refine Gl.land Y198_3 hv246 d_prog_137_method_14_246 rfl ?_
    refine Gl.lconst Y198_3 (v := (0 : Int64)) (by decide) d_prog_137_method_14_247 rfl ?_
    refine Gl.lcmplt Y198_3 d_prog_137_method_14_248 rfl d_prog_137_method_14_249 (by decide) rfl rfl (fun c249 => ?_) (fun c249 => ?_)
    · refine absurd c249 ?_
      rw [← hv246, ← hv245, ← hv240, ← hv144_3]
      refine own_fit x2 (own_k x1 (own_k x0 1)) (own_k01 (own_k01 (Or.inr rfl))) ?_
      intro z
      have q1 := own_k1 (own_k01 (Or.inr rfl)) (by exact z.2)
      have zz1 := q1.1
      have q0 := own_k1 (Or.inr rfl) (by exact q1.2)
      have zz0 := q0.1
      rcases p8 with w8 | w8
      · exact absurd (c11.symm.trans w8.2) (by decide)
      · exact w8.1 ⟨z.1, ⟨zz0, zz1⟩⟩
    refine Gl.aloadN Y198_3 rfl rfl d_prog_137_method_14_252 rfl ?_
    refine Gl.goto Y198_3 d_prog_137_method_14_253 (by decide) rfl ?_
    exact Gl.retA Y198_3 (by decide) (by decide) rfl rfl d_prog_137_method_14_260 ⟨rfl, K198_3, A198_3⟩
  · refine Gl.aloadN Y8 rfl rfl d_prog_137_method_14_14 rfl ?_
    refine Gl.callV Y8 (tw_59 hw) (tw_29 hw) (tw_31 hw) (tw_31 hw) (tw_30 hw) (tw_2 hw) (tw_32 hw) (by decide) E_o (rm45 l Z a0 hw [] o wo ko (0 : Int64) (0 : Int64) (0 : Int64) h0 n0 Y8.sz E_o F_o V_o g_o nn_o) (a := o) (argsL := []) (rest := []) rfl rfl (lenOf pd_5 rfl) rfl (by decide) (Nat.le_of_ble_eq_true rfl) (by decide) (by decide) d_prog_137_method_14_15 rfl (fun v15 T15 h15 Y15 q15 => ?_)
    obtain ⟨rfl, K15, f15_0⟩ := q15
    have KK15 : Keep h0 h15 [wo] := (Keep.refl h0 [wo]).trans K15 (allS (Or.inl (List.mem_of_getElem? (i := 0) rfl)) all0)
    show Gl p e below _ (T15.setTop (mkF m 18 #[.val (.ref o), .val (.ref u), .val (.int (1 : Int32)), .unset, .unset, .unset, .unset, .unset, .unset, .unset, .unset, .unset, .unset, .unset, .unset, .unset, .unset, .unset, .unset, .unset, .unset] [(.ref o)]))
    rcases p8 with w8 | w8
    rotate_left
    · exact absurd w8.2 c11
    obtain ⟨rfl, ⟨rfl, rfl⟩⟩ := w8.1
    have f5 : Arv Z h15 wo ko .long (3 : Int32) [(.long (own_o (0 : Int64) 1)), (.long (own_o (0 : Int64) (own_k (0 : Int64) 1))), (.long (own_o (-9223372036854775808 : Int64) (own_k (0 : Int64) (own_k (0 : Int64) 1))))] (.long (0 : Int64)) := f15_0
    exact Gl.retA Y15 (by decide) (by decide) rfl rfl d_prog_137_method_14_18 ⟨rfl, KK15, f5⟩
def R56 : Room := { frames := 3, cells := 0, slots := 0, locals := 60 }
def Q56 (Z : State) (o : Addr) (wo : Addr) (ko : ClassId) (u : Addr) (wu : Addr) (ku : ClassId) (x0 : Int64) (x1 : Int64) (x2 : Int64) (h0 : Heap) (v : Option Value) (h : Heap) : Prop := v = some (.ref o) ∧ Keep h0 h [wo] ∧ Arv Z h wo ko .long (3 : Int32) [(.long (own_o x0 1)), (.long (own_o x1 (own_k x0 1))), (.long (own_o x2 (own_k x1 (own_k x0 1))))] (.long (0 : Int64))
theorem ef56 (o : Addr) (u : Addr) (m : MethodId) : entryFrame m #[(.ref o), (.ref u)] 2 = mkF m 0 #[.val (.ref o), .val (.ref u)] [] := by first | (simp [entryFrame, mkF, argsToLocals, Value.category]; done) | rfl
set_option maxRecDepth 65536 in
set_option maxHeartbeats 40000000 in
theorem rm56 (l : Launch) (Z : State) (a0 : Array Value) (hw : ∀ d ∈ tables_1, d.before a0 Z = true) (ws : List Jvm.Cond) (o : Addr) (wo : Addr) (ko : ClassId) (u : Addr) (wu : Addr) (ku : ClassId) (x0 : Int64) (x1 : Int64) (x2 : Int64) (h0 : Heap) (n0 : Nat) (Z0 : n0 ≤ h0.size) (E_o : Exa Z h0 o "com/example/meterwise/meterwise/model/WholeNumber") (F_o : Fld Z h0 o "com/example/meterwise/meterwise/model/WholeNumber" "words" "[J" (.ref wo)) (V_o : Arv Z h0 wo ko .long (3 : Int32) [(.long (0 : Int64)), (.long (0 : Int64)), (.long (0 : Int64))] (.long (0 : Int64))) (g_o : n0 ≤ wo) (nn_o : o ≠ wo) (E_u : Exa Z h0 u "com/example/meterwise/meterwise/model/WholeNumber") (F_u : Fld Z h0 u "com/example/meterwise/meterwise/model/WholeNumber" "words" "[J" (.ref wu)) (V_u : Arv Z h0 wu ku .long (3 : Int32) [(.long x0), (.long x1), (.long x2)] (.long (0 : Int64))) (nw : wo ≠ wu) (np : u ≠ wo) : OMet l Z ws (⟨"com/example/meterwise/meterwise/model/WholeNumber", "subtract", "(Lcom/example/meterwise/meterwise/model/WholeNumber;)Lcom/example/meterwise/meterwise/model/WholeNumber;"⟩ : MethodName) prog_137_method_13_code 2 (some (.object "com/example/meterwise/meterwise/model/WholeNumber")) R56 #[(.ref o), (.ref u)] h0 n0 (Q56 Z o wo ko u wu ku x0 x1 x2 h0) := by
  refine OMet.of (plainFor_of_name pn_0) (ef56 o u) Z0 ?_
  intro p e s m below meth c T0 Y0 hnm
  have Y0 : Sd Z "com/example/meterwise/meterwise/model/WholeNumber" prog_137_method_13_code 2 (some (.object "com/example/meterwise/meterwise/model/WholeNumber")) n0 p l e R56 s m #[(.ref o), (.ref u)] below meth c T0 h0 0 0 := Y0
  refine Gl.aloadN Y0 rfl rfl d_prog_137_method_13_0 rfl ?_
  refine Gl.aloadN Y0 rfl rfl d_prog_137_method_13_1 rfl ?_
  refine Gl.iconst Y0 (v := (1 : Int32)) (by decide) d_prog_137_method_13_2 rfl ?_
  refine Gl.callP Y0 (tw_42 hw) (tw_43 hw) (tw_44 hw) (tw_1 hw) (tw_2 hw) (tw_45 hw) (by decide) E_o (rm55 l Z a0 hw [] o wo ko u wu ku x0 x1 x2 h0 n0 Y0.sz E_o F_o V_o g_o nn_o E_u F_u V_u nw np) (a := o) (argsL := [(.ref u), (.int (1 : Int32))]) (rest := []) rfl rfl (lenOf pd_7 rfl) rfl (by decide) (Nat.le_of_ble_eq_true rfl) (by decide) (by decide) d_prog_137_method_13_3 rfl (fun v3 T3 h3 Y3 q3 => ?_)
  obtain ⟨rfl, K3, f3_0⟩ := q3
  have KK3 : Keep h0 h3 [wo] := (Keep.refl h0 [wo]).trans K3 (allS (Or.inl (List.mem_of_getElem? (i := 0) rfl)) all0)
  show Gl p e below _ (T3.setTop (mkF m 6 #[.val (.ref o), .val (.ref u)] [(.ref o)]))
  exact Gl.retA Y3 (by decide) (by decide) rfl rfl d_prog_137_method_13_6 ⟨rfl, KK3, f3_0⟩
def R57 : Room := { frames := 0, cells := 0, slots := 0, locals := 0 }
def Q57 (Z : State) (o : Addr) (wo : Addr) (ko : ClassId) (x0 : Int64) (x1 : Int64) (x2 : Int64) (h0 : Heap) (v : Option Value) (h : Heap) : Prop := v = some (.long x0) ∧ h0 = h
theorem ef57 (o : Addr) (m : MethodId) : entryFrame m #[(.ref o), (.int (0 : Int32))] 2 = mkF m 0 #[.val (.ref o), .val (.int (0 : Int32))] [] := by first | (simp [entryFrame, mkF, argsToLocals, Value.category]; done) | rfl
set_option maxRecDepth 65536 in
set_option maxHeartbeats 40000000 in
theorem rm57 (l : Launch) (Z : State) (a0 : Array Value) (hw : ∀ d ∈ tables_1, d.before a0 Z = true) (ws : List Jvm.Cond) (o : Addr) (wo : Addr) (ko : ClassId) (x0 : Int64) (x1 : Int64) (x2 : Int64) (h0 : Heap) (n0 : Nat) (Z0 : n0 ≤ h0.size) (E_o : Exa Z h0 o "com/example/meterwise/meterwise/model/WholeNumber") (F_o : Fld Z h0 o "com/example/meterwise/meterwise/model/WholeNumber" "words" "[J" (.ref wo)) (V_o : Arv Z h0 wo ko .long (3 : Int32) [(.long x0), (.long x1), (.long x2)] (.long (0 : Int64))) : OMet l Z ws (⟨"com/example/meterwise/meterwise/model/WholeNumber", "word", "(I)J"⟩ : MethodName) prog_137_method_32_code 2 (some .long) R57 #[(.ref o), (.int (0 : Int32))] h0 n0 (Q57 Z o wo ko x0 x1 x2 h0) := by
  refine OMet.of (plainFor_of_name pn_0) (ef57 o) Z0 ?_
  intro p e s m below meth c T0 Y0 hnm
  have Y0 : Sd Z "com/example/meterwise/meterwise/model/WholeNumber" prog_137_method_32_code 2 (some .long) n0 p l e R57 s m #[(.ref o), (.int (0 : Int32))] below meth c T0 h0 0 0 := Y0
  refine Gl.iloadN Y0 rfl d_prog_137_method_32_0 rfl ?_
  refine Gl.aloadN Y0 rfl rfl d_prog_137_method_32_1 rfl ?_
  refine Gl.getF Y0 (host := "") (Or.inl (tw_14 hw)) Via.refl F_o d_prog_137_method_32_2 rfl (fun T2 Y2 => ?_)
  refine Gl.arraylength Y2 V_o d_prog_137_method_32_5 rfl ?_
  refine Gl.icmpge Y2 d_prog_137_method_32_6 (by decide) rfl rfl (fun c6 => ?_) (fun c6 => ?_)
  · exact absurd c6 (by decide)
  refine Gl.aloadN Y2 rfl rfl d_prog_137_method_32_9 rfl ?_
  refine Gl.getF Y2 (host := "") (Or.inl (tw_14 hw)) Via.refl F_o d_prog_137_method_32_10 rfl (fun T10 Y10 => ?_)
  refine Gl.iloadN Y10 rfl d_prog_137_method_32_13 rfl ?_
  refine Gl.laload Y10 V_o ⟨by decide, by decide⟩ (v := (.long x0)) rfl d_prog_137_method_32_14 rfl ?_
  refine Gl.goto Y10 d_prog_137_method_32_15 (by decide) rfl ?_
  exact Gl.retJ Y10 (by decide) (by decide)  d_prog_137_method_32_25 ⟨rfl, rfl⟩
def R58 : Room := { frames := 0, cells := 0, slots := 0, locals := 0 }
def Q58 (Z : State) (o : Addr) (wo : Addr) (ko : ClassId) (x0 : Int64) (x1 : Int64) (x2 : Int64) (h0 : Heap) (v : Option Value) (h : Heap) : Prop := v = some (.long x1) ∧ h0 = h
theorem ef58 (o : Addr) (m : MethodId) : entryFrame m #[(.ref o), (.int (1 : Int32))] 2 = mkF m 0 #[.val (.ref o), .val (.int (1 : Int32))] [] := by first | (simp [entryFrame, mkF, argsToLocals, Value.category]; done) | rfl
set_option maxRecDepth 65536 in
set_option maxHeartbeats 40000000 in
theorem rm58 (l : Launch) (Z : State) (a0 : Array Value) (hw : ∀ d ∈ tables_1, d.before a0 Z = true) (ws : List Jvm.Cond) (o : Addr) (wo : Addr) (ko : ClassId) (x0 : Int64) (x1 : Int64) (x2 : Int64) (h0 : Heap) (n0 : Nat) (Z0 : n0 ≤ h0.size) (E_o : Exa Z h0 o "com/example/meterwise/meterwise/model/WholeNumber") (F_o : Fld Z h0 o "com/example/meterwise/meterwise/model/WholeNumber" "words" "[J" (.ref wo)) (V_o : Arv Z h0 wo ko .long (3 : Int32) [(.long x0), (.long x1), (.long x2)] (.long (0 : Int64))) : OMet l Z ws (⟨"com/example/meterwise/meterwise/model/WholeNumber", "word", "(I)J"⟩ : MethodName) prog_137_method_32_code 2 (some .long) R58 #[(.ref o), (.int (1 : Int32))] h0 n0 (Q58 Z o wo ko x0 x1 x2 h0) := by
  refine OMet.of (plainFor_of_name pn_0) (ef58 o) Z0 ?_
  intro p e s m below meth c T0 Y0 hnm
  have Y0 : Sd Z "com/example/meterwise/meterwise/model/WholeNumber" prog_137_method_32_code 2 (some .long) n0 p l e R58 s m #[(.ref o), (.int (1 : Int32))] below meth c T0 h0 0 0 := Y0
  refine Gl.iloadN Y0 rfl d_prog_137_method_32_0 rfl ?_
  refine Gl.aloadN Y0 rfl rfl d_prog_137_method_32_1 rfl ?_
  refine Gl.getF Y0 (host := "") (Or.inl (tw_14 hw)) Via.refl F_o d_prog_137_method_32_2 rfl (fun T2 Y2 => ?_)
  refine Gl.arraylength Y2 V_o d_prog_137_method_32_5 rfl ?_
  refine Gl.icmpge Y2 d_prog_137_method_32_6 (by decide) rfl rfl (fun c6 => ?_) (fun c6 => ?_)
  · exact absurd c6 (by decide)
  refine Gl.aloadN Y2 rfl rfl d_prog_137_method_32_9 rfl ?_
  refine Gl.getF Y2 (host := "") (Or.inl (tw_14 hw)) Via.refl F_o d_prog_137_method_32_10 rfl (fun T10 Y10 => ?_)
  refine Gl.iloadN Y10 rfl d_prog_137_method_32_13 rfl ?_
  refine Gl.laload Y10 V_o ⟨by decide, by decide⟩ (v := (.long x1)) rfl d_prog_137_method_32_14 rfl ?_
  refine Gl.goto Y10 d_prog_137_method_32_15 (by decide) rfl ?_
  exact Gl.retJ Y10 (by decide) (by decide)  d_prog_137_method_32_25 ⟨rfl, rfl⟩
def R59 : Room := { frames := 0, cells := 0, slots := 0, locals := 0 }
def Q59 (Z : State) (o : Addr) (wo : Addr) (ko : ClassId) (x0 : Int64) (x1 : Int64) (x2 : Int64) (h0 : Heap) (v : Option Value) (h : Heap) : Prop := v = some (.long x2) ∧ h0 = h
theorem ef59 (o : Addr) (m : MethodId) : entryFrame m #[(.ref o), (.int (2 : Int32))] 2 = mkF m 0 #[.val (.ref o), .val (.int (2 : Int32))] [] := by first | (simp [entryFrame, mkF, argsToLocals, Value.category]; done) | rfl
set_option maxRecDepth 65536 in
set_option maxHeartbeats 40000000 in
theorem rm59 (l : Launch) (Z : State) (a0 : Array Value) (hw : ∀ d ∈ tables_1, d.before a0 Z = true) (ws : List Jvm.Cond) (o : Addr) (wo : Addr) (ko : ClassId) (x0 : Int64) (x1 : Int64) (x2 : Int64) (h0 : Heap) (n0 : Nat) (Z0 : n0 ≤ h0.size) (E_o : Exa Z h0 o "com/example/meterwise/meterwise/model/WholeNumber") (F_o : Fld Z h0 o "com/example/meterwise/meterwise/model/WholeNumber" "words" "[J" (.ref wo)) (V_o : Arv Z h0 wo ko .long (3 : Int32) [(.long x0), (.long x1), (.long x2)] (.long (0 : Int64))) : OMet l Z ws (⟨"com/example/meterwise/meterwise/model/WholeNumber", "word", "(I)J"⟩ : MethodName) prog_137_method_32_code 2 (some .long) R59 #[(.ref o), (.int (2 : Int32))] h0 n0 (Q59 Z o wo ko x0 x1 x2 h0) := by
  refine OMet.of (plainFor_of_name pn_0) (ef59 o) Z0 ?_
  intro p e s m below meth c T0 Y0 hnm
  have Y0 : Sd Z "com/example/meterwise/meterwise/model/WholeNumber" prog_137_method_32_code 2 (some .long) n0 p l e R59 s m #[(.ref o), (.int (2 : Int32))] below meth c T0 h0 0 0 := Y0
  refine Gl.iloadN Y0 rfl d_prog_137_method_32_0 rfl ?_
  refine Gl.aloadN Y0 rfl rfl d_prog_137_method_32_1 rfl ?_
  refine Gl.getF Y0 (host := "") (Or.inl (tw_14 hw)) Via.refl F_o d_prog_137_method_32_2 rfl (fun T2 Y2 => ?_)
  refine Gl.arraylength Y2 V_o d_prog_137_method_32_5 rfl ?_
  refine Gl.icmpge Y2 d_prog_137_method_32_6 (by decide) rfl rfl (fun c6 => ?_) (fun c6 => ?_)
  · exact absurd c6 (by decide)
  refine Gl.aloadN Y2 rfl rfl d_prog_137_method_32_9 rfl ?_
  refine Gl.getF Y2 (host := "") (Or.inl (tw_14 hw)) Via.refl F_o d_prog_137_method_32_10 rfl (fun T10 Y10 => ?_)
  refine Gl.iloadN Y10 rfl d_prog_137_method_32_13 rfl ?_
  refine Gl.laload Y10 V_o ⟨by decide, by decide⟩ (v := (.long x2)) rfl d_prog_137_method_32_14 rfl ?_
  refine Gl.goto Y10 d_prog_137_method_32_15 (by decide) rfl ?_
  exact Gl.retJ Y10 (by decide) (by decide)  d_prog_137_method_32_25 ⟨rfl, rfl⟩
def R60 : Room := { frames := 1, cells := 0, slots := 0, locals := 13 }
def Q60 (Z : State) (o : Addr) (wo : Addr) (ko : ClassId) (x0 : Int64) (x1 : Int64) (x2 : Int64) (u : Addr) (wu : Addr) (ku : ClassId) (h0 : Heap) (v : Option Value) (h : Heap) : Prop := v = some (.int (0 : Int32)) ∧ h0 = h
theorem ef60 (o : Addr) (u : Addr) (m : MethodId) : entryFrame m #[(.ref o), (.ref u)] 8 = mkF m 0 #[.val (.ref o), .val (.ref u), .unset, .unset, .unset, .unset, .unset, .unset] [] := by first | (simp [entryFrame, mkF, argsToLocals, Value.category]; done) | rfl
set_option maxRecDepth 65536 in
set_option maxHeartbeats 40000000 in
theorem rm60 (l : Launch) (Z : State) (a0 : Array Value) (hw : ∀ d ∈ tables_1, d.before a0 Z = true) (ws : List Jvm.Cond) (o : Addr) (wo : Addr) (ko : ClassId) (x0 : Int64) (x1 : Int64) (x2 : Int64) (u : Addr) (wu : Addr) (ku : ClassId) (h0 : Heap) (n0 : Nat) (Z0 : n0 ≤ h0.size) (E_o : Exa Z h0 o "com/example/meterwise/meterwise/model/WholeNumber") (F_o : Fld Z h0 o "com/example/meterwise/meterwise/model/WholeNumber" "words" "[J" (.ref wo)) (V_o : Arv Z h0 wo ko .long (3 : Int32) [(.long x0), (.long x1), (.long x2)] (.long (0 : Int64))) (E_u : Exa Z h0 u "com/example/meterwise/meterwise/model/WholeNumber") (F_u : Fld Z h0 u "com/example/meterwise/meterwise/model/WholeNumber" "words" "[J" (.ref wu)) (V_u : Arv Z h0 wu ku .long (3 : Int32) [(.long x0), (.long x1), (.long x2)] (.long (0 : Int64))) : OMet l Z ws (⟨"com/example/meterwise/meterwise/model/WholeNumber", "compareTo", "(Lcom/example/meterwise/meterwise/model/WholeNumber;)I"⟩ : MethodName) prog_137_method_11_code 8 (some .int) R60 #[(.ref o), (.ref u)] h0 n0 (Q60 Z o wo ko x0 x1 x2 u wu ku h0) := by
  refine OMet.of (plainFor_of_name pn_0) (ef60 o u) Z0 ?_
  intro p e s m below meth c T0 Y0 hnm
  have Y0 : Sd Z "com/example/meterwise/meterwise/model/WholeNumber" prog_137_method_11_code 8 (some .int) n0 p l e R60 s m #[(.ref o), (.ref u)] below meth c T0 h0 0 0 := Y0
  refine Gl.aloadN Y0 rfl rfl d_prog_137_method_11_0 rfl ?_
  refine Gl.getF Y0 (host := "") (Or.inl (tw_14 hw)) Via.refl F_o d_prog_137_method_11_1 rfl (fun T1 Y1 => ?_)
  refine Gl.arraylength Y1 V_o d_prog_137_method_11_4 rfl ?_
  refine Gl.aloadN Y1 rfl rfl d_prog_137_method_11_5 rfl ?_
  refine Gl.getF Y1 (host := "") (Or.inl (tw_14 hw)) Via.refl F_u d_prog_137_method_11_6 rfl (fun T6 Y6 => ?_)
  refine Gl.arraylength Y6 V_u d_prog_137_method_11_9 rfl ?_
  refine Gl.callS Y6 (tw_71 hw) (tw_72 hw) (tw_73 hw) (tw_74 hw) (by decide) (rm49 l Z a0 hw [] h0 n0 Y6.sz) (argsL := [(.int (3 : Int32)), (.int (3 : Int32))]) (rest := []) rfl rfl (lenOf pd_6 rfl) rfl (by decide) (Nat.le_of_ble_eq_true rfl) (by decide) (by decide) d_prog_137_method_11_10 rfl (fun v10 T10 h10 Y10 q10 => ?_)
  obtain ⟨rfl, rfl⟩ := q10
  show Gl p e below _ (T10.setTop (mkF m 13 #[.val (.ref o), .val (.ref u), .unset, .unset, .unset, .unset, .unset, .unset] [(.int (3 : Int32))]))
  refine Gl.istoreN Y10 (L' := #[.val (.ref o), .val (.ref u), .val (.int (3 : Int32)), .unset, .unset, .unset, .unset, .unset]) rfl d_prog_137_method_11_13 rfl ?_
  refine Gl.iloadN Y10 rfl d_prog_137_method_11_14 rfl ?_
  refine Gl.iconst Y10 (v := (1 : Int32)) (by decide) d_prog_137_method_11_15 rfl ?_
  refine Gl.isub Y10 (r := (2 : Int32)) (by decide) d_prog_137_method_11_16 rfl ?_
  refine Gl.istoreN Y10 (L' := #[.val (.ref o), .val (.ref u), .val (.int (3 : Int32)), .val (.int (2 : Int32)), .unset, .unset, .unset, .unset]) rfl d_prog_137_method_11_17 rfl ?_
  refine Gl.iloadN Y10 rfl d_prog_137_method_11_18 rfl ?_
  refine Gl.iflt Y10 d_prog_137_method_11_19 (by decide) rfl rfl (fun c19 => ?_) (fun c19 => ?_)
  · exact absurd c19 (by decide)
  refine Gl.aloadN Y10 rfl rfl d_prog_137_method_11_22 rfl ?_
  refine Gl.iloadN Y10 rfl d_prog_137_method_11_23 rfl ?_
  refine Gl.callP Y10 (tw_75 hw) (tw_76 hw) (tw_77 hw) (tw_1 hw) (tw_2 hw) (tw_78 hw) (by decide) E_o (rm59 l Z a0 hw [] o wo ko x0 x1 x2 h0 n0 Y10.sz E_o F_o V_o) (a := o) (argsL := [(.int (2 : Int32))]) (rest := []) rfl rfl (lenOf pd_8 rfl) rfl (by decide) (Nat.le_of_ble_eq_true rfl) (by decide) (by decide) d_prog_137_method_11_24 rfl (fun v24 T24 h24 Y24 q24 => ?_)
  obtain ⟨rfl, rfl⟩ := q24
  show Gl p e below _ (T24.setTop (mkF m 27 #[.val (.ref o), .val (.ref u), .val (.int (3 : Int32)), .val (.int (2 : Int32)), .unset, .unset, .unset, .unset] [(.long x2)]))
  refine Gl.lstore Y24 (L' := #[.val (.ref o), .val (.ref u), .val (.int (3 : Int32)), .val (.int (2 : Int32)), .val (.long x2), .second, .unset, .unset]) rfl d_prog_137_method_11_27 rfl ?_
  refine Gl.aloadN Y24 rfl rfl d_prog_137_method_11_29 rfl ?_
  refine Gl.iloadN Y24 rfl d_prog_137_method_11_30 rfl ?_
  refine Gl.callP Y24 (tw_75 hw) (tw_76 hw) (tw_77 hw) (tw_1 hw) (tw_2 hw) (tw_78 hw) (by decide) E_u (rm59 l Z a0 hw [] u wu ku x0 x1 x2 h0 n0 Y24.sz E_u F_u V_u) (a := u) (argsL := [(.int (2 : Int32))]) (rest := []) rfl rfl (lenOf pd_8 rfl) rfl (by decide) (Nat.le_of_ble_eq_true rfl) (by decide) (by decide) d_prog_137_method_11_31 rfl (fun v31 T31 h31 Y31 q31 => ?_)
  obtain ⟨rfl, rfl⟩ := q31
  show Gl p e below _ (T31.setTop (mkF m 34 #[.val (.ref o), .val (.ref u), .val (.int (3 : Int32)), .val (.int (2 : Int32)), .val (.long x2), .second, .unset, .unset] [(.long x2)]))
  refine Gl.lstore Y31 (L' := #[.val (.ref o), .val (.ref u), .val (.int (3 : Int32)), .val (.int (2 : Int32)), .val (.long x2), .second, .val (.long x2), .second]) rfl d_prog_137_method_11_34 rfl ?_
  refine Gl.lload Y31 rfl d_prog_137_method_11_36 rfl ?_
  refine Gl.lload Y31 rfl d_prog_137_method_11_38 rfl ?_
  refine Gl.lcmpeq Y31 d_prog_137_method_11_40 rfl d_prog_137_method_11_41 (by decide) rfl rfl (fun c41 => ?_) (fun c41 => ?_)
  rotate_left
  · exact absurd rfl c41
  refine Gl.iinc Y31 rfl (r := (1 : Int32)) (by decide) (L' := #[.val (.ref o), .val (.ref u), .val (.int (3 : Int32)), .val (.int (1 : Int32)), .val (.long x2), .second, .val (.long x2), .second]) rfl d_prog_137_method_11_69 rfl ?_
  refine Gl.goto Y31 d_prog_137_method_11_72 (by decide) rfl ?_
  refine Gl.iloadN Y31 rfl d_prog_137_method_11_18 rfl ?_
  refine Gl.iflt Y31 d_prog_137_method_11_19 (by decide) rfl rfl (fun c19_2 => ?_) (fun c19_2 => ?_)
  · exact absurd c19_2 (by decide)
  refine Gl.aloadN Y31 rfl rfl d_prog_137_method_11_22 rfl ?_
  refine Gl.iloadN Y31 rfl d_prog_137_method_11_23 rfl ?_
  refine Gl.callP Y31 (tw_75 hw) (tw_76 hw) (tw_77 hw) (tw_1 hw) (tw_2 hw) (tw_78 hw) (by decide) E_o (rm58 l Z a0 hw [] o wo ko x0 x1 x2 h0 n0 Y31.sz E_o F_o V_o) (a := o) (argsL := [(.int (1 : Int32))]) (rest := []) rfl rfl (lenOf pd_8 rfl) rfl (by decide) (Nat.le_of_ble_eq_true rfl) (by decide) (by decide) d_prog_137_method_11_24 rfl (fun v24_2 T24_2 h24_2 Y24_2 q24_2 => ?_)
  obtain ⟨rfl, rfl⟩ := q24_2
  show Gl p e below _ (T24_2.setTop (mkF m 27 #[.val (.ref o), .val (.ref u), .val (.int (3 : Int32)), .val (.int (1 : Int32)), .val (.long x2), .second, .val (.long x2), .second] [(.long x1)]))
  refine Gl.lstore Y24_2 (L' := #[.val (.ref o), .val (.ref u), .val (.int (3 : Int32)), .val (.int (1 : Int32)), .val (.long x1), .second, .val (.long x2), .second]) rfl d_prog_137_method_11_27 rfl ?_
  refine Gl.aloadN Y24_2 rfl rfl d_prog_137_method_11_29 rfl ?_
  refine Gl.iloadN Y24_2 rfl d_prog_137_method_11_30 rfl ?_
  refine Gl.callP Y24_2 (tw_75 hw) (tw_76 hw) (tw_77 hw) (tw_1 hw) (tw_2 hw) (tw_78 hw) (by decide) E_u (rm58 l Z a0 hw [] u wu ku x0 x1 x2 h0 n0 Y24_2.sz E_u F_u V_u) (a := u) (argsL := [(.int (1 : Int32))]) (rest := []) rfl rfl (lenOf pd_8 rfl) rfl (by decide) (Nat.le_of_ble_eq_true rfl) (by decide) (by decide) d_prog_137_method_11_31 rfl (fun v31_2 T31_2 h31_2 Y31_2 q31_2 => ?_)
  obtain ⟨rfl, rfl⟩ := q31_2
  show Gl p e below _ (T31_2.setTop (mkF m 34 #[.val (.ref o), .val (.ref u), .val (.int (3 : Int32)), .val (.int (1 : Int32)), .val (.long x1), .second, .val (.long x2), .second] [(.long x1)]))
  refine Gl.lstore Y31_2 (L' := #[.val (.ref o), .val (.ref u), .val (.int (3 : Int32)), .val (.int (1 : Int32)), .val (.long x1), .second, .val (.long x1), .second]) rfl d_prog_137_method_11_34 rfl ?_
  refine Gl.lload Y31_2 rfl d_prog_137_method_11_36 rfl ?_
  refine Gl.lload Y31_2 rfl d_prog_137_method_11_38 rfl ?_
  refine Gl.lcmpeq Y31_2 d_prog_137_method_11_40 rfl d_prog_137_method_11_41 (by decide) rfl rfl (fun c41_2 => ?_) (fun c41_2 => ?_)
  rotate_left
  · exact absurd rfl c41_2
  refine Gl.iinc Y31_2 rfl (r := (0 : Int32)) (by decide) (L' := #[.val (.ref o), .val (.ref u), .val (.int (3 : Int32)), .val (.int (0 : Int32)), .val (.long x1), .second, .val (.long x1), .second]) rfl d_prog_137_method_11_69 rfl ?_
  refine Gl.goto Y31_2 d_prog_137_method_11_72 (by decide) rfl ?_
  refine Gl.iloadN Y31_2 rfl d_prog_137_method_11_18 rfl ?_
  refine Gl.iflt Y31_2 d_prog_137_method_11_19 (by decide) rfl rfl (fun c19_3 => ?_) (fun c19_3 => ?_)
  · exact absurd c19_3 (by decide)
  refine Gl.aloadN Y31_2 rfl rfl d_prog_137_method_11_22 rfl ?_
  refine Gl.iloadN Y31_2 rfl d_prog_137_method_11_23 rfl ?_
  refine Gl.callP Y31_2 (tw_75 hw) (tw_76 hw) (tw_77 hw) (tw_1 hw) (tw_2 hw) (tw_78 hw) (by decide) E_o (rm57 l Z a0 hw [] o wo ko x0 x1 x2 h0 n0 Y31_2.sz E_o F_o V_o) (a := o) (argsL := [(.int (0 : Int32))]) (rest := []) rfl rfl (lenOf pd_8 rfl) rfl (by decide) (Nat.le_of_ble_eq_true rfl) (by decide) (by decide) d_prog_137_method_11_24 rfl (fun v24_3 T24_3 h24_3 Y24_3 q24_3 => ?_)
  obtain ⟨rfl, rfl⟩ := q24_3
  show Gl p e below _ (T24_3.setTop (mkF m 27 #[.val (.ref o), .val (.ref u), .val (.int (3 : Int32)), .val (.int (0 : Int32)), .val (.long x1), .second, .val (.long x1), .second] [(.long x0)]))
  refine Gl.lstore Y24_3 (L' := #[.val (.ref o), .val (.ref u), .val (.int (3 : Int32)), .val (.int (0 : Int32)), .val (.long x0), .second, .val (.long x1), .second]) rfl d_prog_137_method_11_27 rfl ?_
  refine Gl.aloadN Y24_3 rfl rfl d_prog_137_method_11_29 rfl ?_
  refine Gl.iloadN Y24_3 rfl d_prog_137_method_11_30 rfl ?_
  refine Gl.callP Y24_3 (tw_75 hw) (tw_76 hw) (tw_77 hw) (tw_1 hw) (tw_2 hw) (tw_78 hw) (by decide) E_u (rm57 l Z a0 hw [] u wu ku x0 x1 x2 h0 n0 Y24_3.sz E_u F_u V_u) (a := u) (argsL := [(.int (0 : Int32))]) (rest := []) rfl rfl (lenOf pd_8 rfl) rfl (by decide) (Nat.le_of_ble_eq_true rfl) (by decide) (by decide) d_prog_137_method_11_31 rfl (fun v31_3 T31_3 h31_3 Y31_3 q31_3 => ?_)
  obtain ⟨rfl, rfl⟩ := q31_3
  show Gl p e below _ (T31_3.setTop (mkF m 34 #[.val (.ref o), .val (.ref u), .val (.int (3 : Int32)), .val (.int (0 : Int32)), .val (.long x0), .second, .val (.long x1), .second] [(.long x0)]))
  refine Gl.lstore Y31_3 (L' := #[.val (.ref o), .val (.ref u), .val (.int (3 : Int32)), .val (.int (0 : Int32)), .val (.long x0), .second, .val (.long x0), .second]) rfl d_prog_137_method_11_34 rfl ?_
  refine Gl.lload Y31_3 rfl d_prog_137_method_11_36 rfl ?_
  refine Gl.lload Y31_3 rfl d_prog_137_method_11_38 rfl ?_
  refine Gl.lcmpeq Y31_3 d_prog_137_method_11_40 rfl d_prog_137_method_11_41 (by decide) rfl rfl (fun c41_3 => ?_) (fun c41_3 => ?_)
  rotate_left
  · exact absurd rfl c41_3
  refine Gl.iinc Y31_3 rfl (r := (-1 : Int32)) (by decide) (L' := #[.val (.ref o), .val (.ref u), .val (.int (3 : Int32)), .val (.int (-1 : Int32)), .val (.long x0), .second, .val (.long x0), .second]) rfl d_prog_137_method_11_69 rfl ?_
  refine Gl.goto Y31_3 d_prog_137_method_11_72 (by decide) rfl ?_
  refine Gl.iloadN Y31_3 rfl d_prog_137_method_11_18 rfl ?_
  refine Gl.iflt Y31_3 d_prog_137_method_11_19 (by decide) rfl rfl (fun c19_4 => ?_) (fun c19_4 => ?_)
  rotate_left
  · exact absurd c19_4 (by decide)
  refine Gl.iconst Y31_3 (v := (0 : Int32)) (by decide) d_prog_137_method_11_75 rfl ?_
  exact Gl.retI Y31_3 (by decide) (by decide)  d_prog_137_method_11_76 ⟨rfl, rfl⟩
def R61 : Room := { frames := 0, cells := 0, slots := 0, locals := 0 }
def Q61 (Z : State) (h0 : Heap) (v : Option Value) (h : Heap) : Prop := v = none ∧ h0 = h
theorem ef61 (m : MethodId) : entryFrame m #[(.int (4 : Int32)), (.int (1 : Int32)), (.int (4 : Int32))] 3 = mkF m 0 #[.val (.int (4 : Int32)), .val (.int (1 : Int32)), .val (.int (4 : Int32))] [] := by first | (simp [entryFrame, mkF, argsToLocals, Value.category]; done) | rfl
set_option maxRecDepth 65536 in
set_option maxHeartbeats 40000000 in
theorem rm61 (l : Launch) (Z : State) (a0 : Array Value) (hw : ∀ d ∈ tables_1, d.before a0 Z = true) (ws : List Jvm.Cond) (h0 : Heap) (n0 : Nat) (Z0 : n0 ≤ h0.size) : OMet l Z ws (⟨"java/util/Arrays", "rangeCheck", "(III)V"⟩ : MethodName) jdk_65_method_30_code 3 none R61 #[(.int (4 : Int32)), (.int (1 : Int32)), (.int (4 : Int32))] h0 n0 (Q61 Z h0) := by
  refine OMet.of (plainFor_of_name pn_1) (ef61) Z0 ?_
  intro p e s m below meth c T0 Y0 hnm
  have Y0 : Sd Z "java/util/Arrays" jdk_65_method_30_code 3 none n0 p l e R61 s m #[(.int (4 : Int32)), (.int (1 : Int32)), (.int (4 : Int32))] below meth c T0 h0 0 0 := Y0
  refine Gl.iloadN Y0 rfl d_jdk_65_method_30_0 rfl ?_
  refine Gl.iloadN Y0 rfl d_jdk_65_method_30_1 rfl ?_
  refine Gl.icmple Y0 d_jdk_65_method_30_2 (by decide) rfl rfl (fun c2 => ?_) (fun c2 => ?_)
  rotate_left
  · exact absurd c2 (by decide)
  refine Gl.iloadN Y0 rfl d_jdk_65_method_30_46 rfl ?_
  refine Gl.ifge Y0 d_jdk_65_method_30_47 (by decide) rfl rfl (fun c47 => ?_) (fun c47 => ?_)
  rotate_left
  · exact absurd c47 (by decide)
  refine Gl.iloadN Y0 rfl d_jdk_65_method_30_59 rfl ?_
  refine Gl.iloadN Y0 rfl d_jdk_65_method_30_60 rfl ?_
  refine Gl.icmple Y0 d_jdk_65_method_30_61 (by decide) rfl rfl (fun c61 => ?_) (fun c61 => ?_)
  rotate_left
  · exact absurd c61 (by decide)
  exact Gl.retV Y0 (by decide) (by decide)  d_jdk_65_method_30_73 ⟨rfl, rfl⟩
def R62 : Room := { frames := 1, cells := 0, slots := 0, locals := 14 }
def Q62 (Z : State) (a : Addr) (ka : ClassId) (v1 : Int64) (x0 : Int64) (x1 : Int64) (x2 : Int64) (x3 : Int64) (h0 : Heap) (v : Option Value) (h : Heap) : Prop := v = none ∧ Keep h0 h [a] ∧ Arv Z h a ka .long (4 : Int32) [(.long x0), (.long v1), (.long v1), (.long v1)] (.long (0 : Int64))
theorem ef62 (a : Addr) (v1 : Int64) (m : MethodId) : entryFrame m #[(.ref a), (.int (1 : Int32)), (.int (4 : Int32)), (.long v1)] 6 = mkF m 0 #[.val (.ref a), .val (.int (1 : Int32)), .val (.int (4 : Int32)), .val (.long v1), .second, .unset] [] := by first | (simp [entryFrame, mkF, argsToLocals, Value.category]; done) | rfl
set_option maxRecDepth 65536 in
set_option maxHeartbeats 40000000 in
theorem rm62 (l : Launch) (Z : State) (a0 : Array Value) (hw : ∀ d ∈ tables_1, d.before a0 Z = true) (ws : List Jvm.Cond) (a : Addr) (ka : ClassId) (v1 : Int64) (x0 : Int64) (x1 : Int64) (x2 : Int64) (x3 : Int64) (h0 : Heap) (n0 : Nat) (Z0 : n0 ≤ h0.size) (V : Arv Z h0 a ka .long (4 : Int32) [(.long x0), (.long x1), (.long x2), (.long x3)] (.long (0 : Int64))) (ga : n0 ≤ a) : OMet l Z ws (⟨"java/util/Arrays", "fill", "([JIIJ)V"⟩ : MethodName) jdk_65_method_102_code 6 none R62 #[(.ref a), (.int (1 : Int32)), (.int (4 : Int32)), (.long v1)] h0 n0 (Q62 Z a ka v1 x0 x1 x2 x3 h0) := by
  refine OMet.of (plainFor_of_name pn_1) (ef62 a v1) Z0 ?_
  intro p e s m below meth c T0 Y0 hnm
  have Y0 : Sd Z "java/util/Arrays" jdk_65_method_102_code 6 none n0 p l e R62 s m #[(.ref a), (.int (1 : Int32)), (.int (4 : Int32)), (.long v1)] below meth c T0 h0 0 0 := Y0
  refine Gl.aloadN Y0 rfl rfl d_jdk_65_method_102_0 rfl ?_
  refine Gl.arraylength Y0 V d_jdk_65_method_102_1 rfl ?_
  refine Gl.iloadN Y0 rfl d_jdk_65_method_102_2 rfl ?_
  refine Gl.iloadN Y0 rfl d_jdk_65_method_102_3 rfl ?_
  refine Gl.callS Y0 (tw_25 hw) (tw_26 hw) (tw_23 hw) (tw_27 hw) (by decide) (rm61 l Z a0 hw [] h0 n0 Y0.sz) (argsL := [(.int (4 : Int32)), (.int (1 : Int32)), (.int (4 : Int32))]) (rest := []) rfl rfl (lenOf pd_0 rfl) rfl (by decide) (Nat.le_of_ble_eq_true rfl) (by decide) (by decide) d_jdk_65_method_102_4 rfl (fun v4 T4 h4 Y4 q4 => ?_)
  obtain ⟨rfl, rfl⟩ := q4
  show Gl p e below _ (T4.setTop (mkF m 7 #[.val (.ref a), .val (.int (1 : Int32)), .val (.int (4 : Int32)), .val (.long v1), .second, .unset] []))
  refine Gl.iloadN Y4 rfl d_jdk_65_method_102_7 rfl ?_
  refine Gl.istore Y4 (L' := #[.val (.ref a), .val (.int (1 : Int32)), .val (.int (4 : Int32)), .val (.long v1), .second, .val (.int (1 : Int32))]) rfl d_jdk_65_method_102_8 rfl ?_
  refine Gl.iload Y4 rfl d_jdk_65_method_102_10 rfl ?_
  refine Gl.iloadN Y4 rfl d_jdk_65_method_102_12 rfl ?_
  refine Gl.icmpge Y4 d_jdk_65_method_102_13 (by decide) rfl rfl (fun c13 => ?_) (fun c13 => ?_)
  · exact absurd c13 (by decide)
  refine Gl.aloadN Y4 rfl rfl d_jdk_65_method_102_16 rfl ?_
  refine Gl.iload Y4 rfl d_jdk_65_method_102_17 rfl ?_
  refine Gl.lloadN Y4 rfl d_jdk_65_method_102_19 rfl ?_
  refine Gl.lastore Y4 V (v := (.long v1)) rfl ⟨by decide, by decide⟩ (ix := 1) rfl (Nat.le_of_ble_eq_true rfl) ga d_jdk_65_method_102_20 rfl (fun T20 h20 Y20 W20 A20 => ?_)
  have A20 : Arv Z h20 a ka .long (4 : Int32) [(.long x0), (.long v1), (.long x2), (.long x3)] (.long (0 : Int64)) := A20
  have K20 : Keep h0 h20 [a] := (Keep.refl h0 [a]).wr W20 (Or.inl (List.mem_of_getElem? (i := 0) rfl))
  show Gl p e below _ (T20.setTop (mkF m 21 #[.val (.ref a), .val (.int (1 : Int32)), .val (.int (4 : Int32)), .val (.long v1), .second, .val (.int (1 : Int32))] []))
  refine Gl.iinc Y20 rfl (r := (2 : Int32)) (by decide) (L' := #[.val (.ref a), .val (.int (1 : Int32)), .val (.int (4 : Int32)), .val (.long v1), .second, .val (.int (2 : Int32))]) rfl d_jdk_65_method_102_21 rfl ?_
  refine Gl.goto Y20 d_jdk_65_method_102_24 (by decide) rfl ?_
  refine Gl.iload Y20 rfl d_jdk_65_method_102_10 rfl ?_
  refine Gl.iloadN Y20 rfl d_jdk_65_method_102_12 rfl ?_
  refine Gl.icmpge Y20 d_jdk_65_method_102_13 (by decide) rfl rfl (fun c13_2 => ?_) (fun c13_2 => ?_)
  · exact absurd c13_2 (by decide)
  refine Gl.aloadN Y20 rfl rfl d_jdk_65_method_102_16 rfl ?_
  refine Gl.iload Y20 rfl d_jdk_65_method_102_17 rfl ?_
  refine Gl.lloadN Y20 rfl d_jdk_65_method_102_19 rfl ?_
  refine Gl.lastore Y20 A20 (v := (.long v1)) rfl ⟨by decide, by decide⟩ (ix := 2) rfl (Nat.le_of_ble_eq_true rfl) ga d_jdk_65_method_102_20 rfl (fun T20_2 h20_2 Y20_2 W20_2 A20_2 => ?_)
  have A20_2 : Arv Z h20_2 a ka .long (4 : Int32) [(.long x0), (.long v1), (.long v1), (.long x3)] (.long (0 : Int64)) := A20_2
  have K20_2 : Keep h0 h20_2 [a] := K20.wr W20_2 (Or.inl (List.mem_of_getElem? (i := 0) rfl))
  show Gl p e below _ (T20_2.setTop (mkF m 21 #[.val (.ref a), .val (.int (1 : Int32)), .val (.int (4 : Int32)), .val (.long v1), .second, .val (.int (2 : Int32))] []))
  refine Gl.iinc Y20_2 rfl (r := (3 : Int32)) (by decide) (L' := #[.val (.ref a), .val (.int (1 : Int32)), .val (.int (4 : Int32)), .val (.long v1), .second, .val (.int (3 : Int32))]) rfl d_jdk_65_method_102_21 rfl ?_
  refine Gl.goto Y20_2 d_jdk_65_method_102_24 (by decide) rfl ?_
  refine Gl.iload Y20_2 rfl d_jdk_65_method_102_10 rfl ?_
  refine Gl.iloadN Y20_2 rfl d_jdk_65_method_102_12 rfl ?_
  refine Gl.icmpge Y20_2 d_jdk_65_method_102_13 (by decide) rfl rfl (fun c13_3 => ?_) (fun c13_3 => ?_)
  · exact absurd c13_3 (by decide)
  refine Gl.aloadN Y20_2 rfl rfl d_jdk_65_method_102_16 rfl ?_
  refine Gl.iload Y20_2 rfl d_jdk_65_method_102_17 rfl ?_
  refine Gl.lloadN Y20_2 rfl d_jdk_65_method_102_19 rfl ?_
  refine Gl.lastore Y20_2 A20_2 (v := (.long v1)) rfl ⟨by decide, by decide⟩ (ix := 3) rfl (Nat.le_of_ble_eq_true rfl) ga d_jdk_65_method_102_20 rfl (fun T20_3 h20_3 Y20_3 W20_3 A20_3 => ?_)
  have A20_3 : Arv Z h20_3 a ka .long (4 : Int32) [(.long x0), (.long v1), (.long v1), (.long v1)] (.long (0 : Int64)) := A20_3
  have K20_3 : Keep h0 h20_3 [a] := K20_2.wr W20_3 (Or.inl (List.mem_of_getElem? (i := 0) rfl))
  show Gl p e below _ (T20_3.setTop (mkF m 21 #[.val (.ref a), .val (.int (1 : Int32)), .val (.int (4 : Int32)), .val (.long v1), .second, .val (.int (3 : Int32))] []))
  refine Gl.iinc Y20_3 rfl (r := (4 : Int32)) (by decide) (L' := #[.val (.ref a), .val (.int (1 : Int32)), .val (.int (4 : Int32)), .val (.long v1), .second, .val (.int (4 : Int32))]) rfl d_jdk_65_method_102_21 rfl ?_
  refine Gl.goto Y20_3 d_jdk_65_method_102_24 (by decide) rfl ?_
  refine Gl.iload Y20_3 rfl d_jdk_65_method_102_10 rfl ?_
  refine Gl.iloadN Y20_3 rfl d_jdk_65_method_102_12 rfl ?_
  refine Gl.icmpge Y20_3 d_jdk_65_method_102_13 (by decide) rfl rfl (fun c13_4 => ?_) (fun c13_4 => ?_)
  rotate_left
  · exact absurd c13_4 (by decide)
  exact Gl.retV Y20_3 (by decide) (by decide)  d_jdk_65_method_102_27 ⟨rfl, K20_3, A20_3⟩
def R63 : Room := { frames := 0, cells := 0, slots := 0, locals := 0 }
def Q63 (Z : State) (a : Addr) (ka : ClassId) (x0 : Int64) (x1 : Int64) (x2 : Int64) (x3 : Int64) (h0 : Heap) (v : Option Value) (h : Heap) : Prop := v = none ∧ Keep h0 h [a] ∧ Arv Z h a ka .long (4 : Int32) [(.long (0 : Int64)), (.long (0 : Int64)), (.long (0 : Int64)), (.long (0 : Int64))] (.long (0 : Int64))
theorem ef63 (a : Addr) (m : MethodId) : entryFrame m #[(.ref a), (.long (0 : Int64))] 5 = mkF m 0 #[.val (.ref a), .val (.long (0 : Int64)), .second, .unset, .unset] [] := by first | (simp [entryFrame, mkF, argsToLocals, Value.category]; done) | rfl
set_option maxRecDepth 65536 in
set_option maxHeartbeats 40000000 in
theorem rm63 (l : Launch) (Z : State) (a0 : Array Value) (hw : ∀ d ∈ tables_1, d.before a0 Z = true) (ws : List Jvm.Cond) (a : Addr) (ka : ClassId) (x0 : Int64) (x1 : Int64) (x2 : Int64) (x3 : Int64) (h0 : Heap) (n0 : Nat) (Z0 : n0 ≤ h0.size) (V : Arv Z h0 a ka .long (4 : Int32) [(.long x0), (.long x1), (.long x2), (.long x3)] (.long (0 : Int64))) (ga : n0 ≤ a) : OMet l Z ws (⟨"java/util/Arrays", "fill", "([JJ)V"⟩ : MethodName) jdk_65_method_101_code 5 none R63 #[(.ref a), (.long (0 : Int64))] h0 n0 (Q63 Z a ka x0 x1 x2 x3 h0) := by
  refine OMet.of (plainFor_of_name pn_1) (ef63 a) Z0 ?_
  intro p e s m below meth c T0 Y0 hnm
  have Y0 : Sd Z "java/util/Arrays" jdk_65_method_101_code 5 none n0 p l e R63 s m #[(.ref a), (.long (0 : Int64))] below meth c T0 h0 0 0 := Y0
  refine Gl.iconst Y0 (v := (0 : Int32)) (by decide) d_jdk_65_method_101_0 rfl ?_
  refine Gl.istoreN Y0 (L' := #[.val (.ref a), .val (.long (0 : Int64)), .second, .val (.int (0 : Int32)), .unset]) rfl d_jdk_65_method_101_1 rfl ?_
  refine Gl.aloadN Y0 rfl rfl d_jdk_65_method_101_2 rfl ?_
  refine Gl.arraylength Y0 V d_jdk_65_method_101_3 rfl ?_
  refine Gl.istore Y0 (L' := #[.val (.ref a), .val (.long (0 : Int64)), .second, .val (.int (0 : Int32)), .val (.int (4 : Int32))]) rfl d_jdk_65_method_101_4 rfl ?_
  refine Gl.iloadN Y0 rfl d_jdk_65_method_101_6 rfl ?_
  refine Gl.iload Y0 rfl d_jdk_65_method_101_7 rfl ?_
  refine Gl.icmpge Y0 d_jdk_65_method_101_9 (by decide) rfl rfl (fun c9 => ?_) (fun c9 => ?_)
  · exact absurd c9 (by decide)
  refine Gl.aloadN Y0 rfl rfl d_jdk_65_method_101_12 rfl ?_
  refine Gl.iloadN Y0 rfl d_jdk_65_method_101_13 rfl ?_
  refine Gl.lloadN Y0 rfl d_jdk_65_method_101_14 rfl ?_
  refine Gl.lastore Y0 V (v := (.long (0 : Int64))) rfl ⟨by decide, by decide⟩ (ix := 0) rfl (Nat.le_of_ble_eq_true rfl) ga d_jdk_65_method_101_15 rfl (fun T15 h15 Y15 W15 A15 => ?_)
  have A15 : Arv Z h15 a ka .long (4 : Int32) [(.long (0 : Int64)), (.long x1), (.long x2), (.long x3)] (.long (0 : Int64)) := A15
  have K15 : Keep h0 h15 [a] := (Keep.refl h0 [a]).wr W15 (Or.inl (List.mem_of_getElem? (i := 0) rfl))
  show Gl p e below _ (T15.setTop (mkF m 16 #[.val (.ref a), .val (.long (0 : Int64)), .second, .val (.int (0 : Int32)), .val (.int (4 : Int32))] []))
  refine Gl.iinc Y15 rfl (r := (1 : Int32)) (by decide) (L' := #[.val (.ref a), .val (.long (0 : Int64)), .second, .val (.int (1 : Int32)), .val (.int (4 : Int32))]) rfl d_jdk_65_method_101_16 rfl ?_
  refine Gl.goto Y15 d_jdk_65_method_101_19 (by decide) rfl ?_
  refine Gl.iloadN Y15 rfl d_jdk_65_method_101_6 rfl ?_
  refine Gl.iload Y15 rfl d_jdk_65_method_101_7 rfl ?_
  refine Gl.icmpge Y15 d_jdk_65_method_101_9 (by decide) rfl rfl (fun c9_2 => ?_) (fun c9_2 => ?_)
  · exact absurd c9_2 (by decide)
  refine Gl.aloadN Y15 rfl rfl d_jdk_65_method_101_12 rfl ?_
  refine Gl.iloadN Y15 rfl d_jdk_65_method_101_13 rfl ?_
  refine Gl.lloadN Y15 rfl d_jdk_65_method_101_14 rfl ?_
  refine Gl.lastore Y15 A15 (v := (.long (0 : Int64))) rfl ⟨by decide, by decide⟩ (ix := 1) rfl (Nat.le_of_ble_eq_true rfl) ga d_jdk_65_method_101_15 rfl (fun T15_2 h15_2 Y15_2 W15_2 A15_2 => ?_)
  have A15_2 : Arv Z h15_2 a ka .long (4 : Int32) [(.long (0 : Int64)), (.long (0 : Int64)), (.long x2), (.long x3)] (.long (0 : Int64)) := A15_2
  have K15_2 : Keep h0 h15_2 [a] := K15.wr W15_2 (Or.inl (List.mem_of_getElem? (i := 0) rfl))
  show Gl p e below _ (T15_2.setTop (mkF m 16 #[.val (.ref a), .val (.long (0 : Int64)), .second, .val (.int (1 : Int32)), .val (.int (4 : Int32))] []))
  refine Gl.iinc Y15_2 rfl (r := (2 : Int32)) (by decide) (L' := #[.val (.ref a), .val (.long (0 : Int64)), .second, .val (.int (2 : Int32)), .val (.int (4 : Int32))]) rfl d_jdk_65_method_101_16 rfl ?_
  refine Gl.goto Y15_2 d_jdk_65_method_101_19 (by decide) rfl ?_
  refine Gl.iloadN Y15_2 rfl d_jdk_65_method_101_6 rfl ?_
  refine Gl.iload Y15_2 rfl d_jdk_65_method_101_7 rfl ?_
  refine Gl.icmpge Y15_2 d_jdk_65_method_101_9 (by decide) rfl rfl (fun c9_3 => ?_) (fun c9_3 => ?_)
  · exact absurd c9_3 (by decide)
  refine Gl.aloadN Y15_2 rfl rfl d_jdk_65_method_101_12 rfl ?_
  refine Gl.iloadN Y15_2 rfl d_jdk_65_method_101_13 rfl ?_
  refine Gl.lloadN Y15_2 rfl d_jdk_65_method_101_14 rfl ?_
  refine Gl.lastore Y15_2 A15_2 (v := (.long (0 : Int64))) rfl ⟨by decide, by decide⟩ (ix := 2) rfl (Nat.le_of_ble_eq_true rfl) ga d_jdk_65_method_101_15 rfl (fun T15_3 h15_3 Y15_3 W15_3 A15_3 => ?_)
  have A15_3 : Arv Z h15_3 a ka .long (4 : Int32) [(.long (0 : Int64)), (.long (0 : Int64)), (.long (0 : Int64)), (.long x3)] (.long (0 : Int64)) := A15_3
  have K15_3 : Keep h0 h15_3 [a] := K15_2.wr W15_3 (Or.inl (List.mem_of_getElem? (i := 0) rfl))
  show Gl p e below _ (T15_3.setTop (mkF m 16 #[.val (.ref a), .val (.long (0 : Int64)), .second, .val (.int (2 : Int32)), .val (.int (4 : Int32))] []))
  refine Gl.iinc Y15_3 rfl (r := (3 : Int32)) (by decide) (L' := #[.val (.ref a), .val (.long (0 : Int64)), .second, .val (.int (3 : Int32)), .val (.int (4 : Int32))]) rfl d_jdk_65_method_101_16 rfl ?_
  refine Gl.goto Y15_3 d_jdk_65_method_101_19 (by decide) rfl ?_
  refine Gl.iloadN Y15_3 rfl d_jdk_65_method_101_6 rfl ?_
  refine Gl.iload Y15_3 rfl d_jdk_65_method_101_7 rfl ?_
  refine Gl.icmpge Y15_3 d_jdk_65_method_101_9 (by decide) rfl rfl (fun c9_4 => ?_) (fun c9_4 => ?_)
  · exact absurd c9_4 (by decide)
  refine Gl.aloadN Y15_3 rfl rfl d_jdk_65_method_101_12 rfl ?_
  refine Gl.iloadN Y15_3 rfl d_jdk_65_method_101_13 rfl ?_
  refine Gl.lloadN Y15_3 rfl d_jdk_65_method_101_14 rfl ?_
  refine Gl.lastore Y15_3 A15_3 (v := (.long (0 : Int64))) rfl ⟨by decide, by decide⟩ (ix := 3) rfl (Nat.le_of_ble_eq_true rfl) ga d_jdk_65_method_101_15 rfl (fun T15_4 h15_4 Y15_4 W15_4 A15_4 => ?_)
  have A15_4 : Arv Z h15_4 a ka .long (4 : Int32) [(.long (0 : Int64)), (.long (0 : Int64)), (.long (0 : Int64)), (.long (0 : Int64))] (.long (0 : Int64)) := A15_4
  have K15_4 : Keep h0 h15_4 [a] := K15_3.wr W15_4 (Or.inl (List.mem_of_getElem? (i := 0) rfl))
  show Gl p e below _ (T15_4.setTop (mkF m 16 #[.val (.ref a), .val (.long (0 : Int64)), .second, .val (.int (3 : Int32)), .val (.int (4 : Int32))] []))
  refine Gl.iinc Y15_4 rfl (r := (4 : Int32)) (by decide) (L' := #[.val (.ref a), .val (.long (0 : Int64)), .second, .val (.int (4 : Int32)), .val (.int (4 : Int32))]) rfl d_jdk_65_method_101_16 rfl ?_
  refine Gl.goto Y15_4 d_jdk_65_method_101_19 (by decide) rfl ?_
  refine Gl.iloadN Y15_4 rfl d_jdk_65_method_101_6 rfl ?_
  refine Gl.iload Y15_4 rfl d_jdk_65_method_101_7 rfl ?_
  refine Gl.icmpge Y15_4 d_jdk_65_method_101_9 (by decide) rfl rfl (fun c9_5 => ?_) (fun c9_5 => ?_)
  rotate_left
  · exact absurd c9_5 (by decide)
  exact Gl.retV Y15_4 (by decide) (by decide)  d_jdk_65_method_101_22 ⟨rfl, K15_4, A15_4⟩
def R64 : Room := { frames := 0, cells := 0, slots := 0, locals := 0 }
def Q64 (Z : State) (o : Addr) (wo : Addr) (ko : ClassId) (x0 : Int64) (x1 : Int64) (x2 : Int64) (x3 : Int64) (h0 : Heap) (v : Option Value) (h : Heap) : Prop := v = some (.long x3) ∧ h0 = h
theorem ef64 (o : Addr) (m : MethodId) : entryFrame m #[(.ref o)] 1 = mkF m 0 #[.val (.ref o)] [] := by first | (simp [entryFrame, mkF, argsToLocals, Value.category]; done) | rfl
set_option maxRecDepth 65536 in
set_option maxHeartbeats 40000000 in
theorem rm64 (l : Launch) (Z : State) (a0 : Array Value) (hw : ∀ d ∈ tables_1, d.before a0 Z = true) (ws : List Jvm.Cond) (o : Addr) (wo : Addr) (ko : ClassId) (x0 : Int64) (x1 : Int64) (x2 : Int64) (x3 : Int64) (h0 : Heap) (n0 : Nat) (Z0 : n0 ≤ h0.size) (E_o : Exa Z h0 o "com/example/meterwise/meterwise/model/WholeNumber") (F_o : Fld Z h0 o "com/example/meterwise/meterwise/model/WholeNumber" "words" "[J" (.ref wo)) (V_o : Arv Z h0 wo ko .long (4 : Int32) [(.long x0), (.long x1), (.long x2), (.long x3)] (.long (0 : Int64))) : OMet l Z ws (⟨"com/example/meterwise/meterwise/model/WholeNumber", "top", "()J"⟩ : MethodName) prog_137_method_31_code 1 (some .long) R64 #[(.ref o)] h0 n0 (Q64 Z o wo ko x0 x1 x2 x3 h0) := by
  refine OMet.of (plainFor_of_name pn_0) (ef64 o) Z0 ?_
  intro p e s m below meth c T0 Y0 hnm
  have Y0 : Sd Z "com/example/meterwise/meterwise/model/WholeNumber" prog_137_method_31_code 1 (some .long) n0 p l e R64 s m #[(.ref o)] below meth c T0 h0 0 0 := Y0
  refine Gl.aloadN Y0 rfl rfl d_prog_137_method_31_0 rfl ?_
  refine Gl.getF Y0 (host := "") (Or.inl (tw_14 hw)) Via.refl F_o d_prog_137_method_31_1 rfl (fun T1 Y1 => ?_)
  refine Gl.aloadN Y1 rfl rfl d_prog_137_method_31_4 rfl ?_
  refine Gl.getF Y1 (host := "") (Or.inl (tw_14 hw)) Via.refl F_o d_prog_137_method_31_5 rfl (fun T5 Y5 => ?_)
  refine Gl.arraylength Y5 V_o d_prog_137_method_31_8 rfl ?_
  refine Gl.iconst Y5 (v := (1 : Int32)) (by decide) d_prog_137_method_31_9 rfl ?_
  refine Gl.isub Y5 (r := (3 : Int32)) (by decide) d_prog_137_method_31_10 rfl ?_
  refine Gl.laload Y5 V_o ⟨by decide, by decide⟩ (v := (.long x3)) rfl d_prog_137_method_31_11 rfl ?_
  exact Gl.retJ Y5 (by decide) (by decide)  d_prog_137_method_31_12 ⟨rfl, rfl⟩
def R65 : Room := { frames := 1, cells := 0, slots := 0, locals := 16 }
def Q65 (Z : State) (o : Addr) (wo : Addr) (ko : ClassId) (x0 : Int64) (x1 : Int64) (x2 : Int64) (x3 : Int64) (h0 : Heap) (v : Option Value) (h : Heap) : Prop := v = some (.ref o) ∧ Keep h0 h [wo] ∧ Arv Z h wo ko .long (4 : Int32) [(.long (0 : Int64)), (.long (0 : Int64)), (.long (0 : Int64)), (.long (-9223372036854775808 : Int64))] (.long (0 : Int64))
theorem ef65 (o : Addr) (m : MethodId) : entryFrame m #[(.ref o)] 1 = mkF m 0 #[.val (.ref o)] [] := by first | (simp [entryFrame, mkF, argsToLocals, Value.category]; done) | rfl
set_option maxRecDepth 65536 in
set_option maxHeartbeats 40000000 in
theorem rm65 (l : Launch) (Z : State) (a0 : Array Value) (hw : ∀ d ∈ tables_1, d.before a0 Z = true) (ws : List Jvm.Cond) (o : Addr) (wo : Addr) (ko : ClassId) (x0 : Int64) (x1 : Int64) (x2 : Int64) (x3 : Int64) (h0 : Heap) (n0 : Nat) (Z0 : n0 ≤ h0.size) (E_o : Exa Z h0 o "com/example/meterwise/meterwise/model/WholeNumber") (F_o : Fld Z h0 o "com/example/meterwise/meterwise/model/WholeNumber" "words" "[J" (.ref wo)) (V_o : Arv Z h0 wo ko .long (4 : Int32) [(.long x0), (.long x1), (.long x2), (.long x3)] (.long (0 : Int64))) (g_o : n0 ≤ wo) (nn_o : o ≠ wo) : OMet l Z ws (⟨"com/example/meterwise/meterwise/model/WholeNumber", "overflow", "()Lcom/example/meterwise/meterwise/model/WholeNumber;"⟩ : MethodName) prog_137_method_7_code 1 (some (.object "com/example/meterwise/meterwise/model/WholeNumber")) R65 #[(.ref o)] h0 n0 (Q65 Z o wo ko x0 x1 x2 x3 h0) := by
  refine OMet.of (plainFor_of_name pn_0) (ef65 o) Z0 ?_
  intro p e s m below meth c T0 Y0 hnm
  have Y0 : Sd Z "com/example/meterwise/meterwise/model/WholeNumber" prog_137_method_7_code 1 (some (.object "com/example/meterwise/meterwise/model/WholeNumber")) n0 p l e R65 s m #[(.ref o)] below meth c T0 h0 0 0 := Y0
  refine Gl.aloadN Y0 rfl rfl d_prog_137_method_7_0 rfl ?_
  refine Gl.getF Y0 (host := "") (Or.inl (tw_14 hw)) Via.refl F_o d_prog_137_method_7_1 rfl (fun T1 Y1 => ?_)
  refine Gl.lconst Y1 (v := (0 : Int64)) (by decide) d_prog_137_method_7_4 rfl ?_
  refine Gl.callS Y1 (tw_33 hw) (tw_34 hw) (tw_23 hw) (tw_35 hw) (by decide) (rm63 l Z a0 hw [] wo ko x0 x1 x2 x3 h0 n0 Y1.sz V_o g_o) (argsL := [(.ref wo), (.long (0 : Int64))]) (rest := []) rfl rfl (lenOf pd_1 rfl) rfl (by decide) (Nat.le_of_ble_eq_true rfl) (by decide) (by decide) d_prog_137_method_7_5 rfl (fun v5 T5 h5 Y5 q5 => ?_)
  obtain ⟨rfl, K5, f5_0⟩ := q5
  have KK5 : Keep h0 h5 [wo] := (Keep.refl h0 [wo]).trans K5 (allS (Or.inl (List.mem_of_getElem? (i := 0) rfl)) all0)
  show Gl p e below _ (T5.setTop (mkF m 8 #[.val (.ref o)] []))
  refine Gl.aloadN Y5 rfl rfl d_prog_137_method_7_8 rfl ?_
  have f1 : Fld Z h5 o "com/example/meterwise/meterwise/model/WholeNumber" "words" "[J" (.ref wo) := (F_o.keep K5 (ninS nn_o nin0))
  refine Gl.getF Y5 (host := "") (Or.inl (tw_14 hw)) Via.refl f1 d_prog_137_method_7_9 rfl (fun T9 Y9 => ?_)
  refine Gl.aloadN Y9 rfl rfl d_prog_137_method_7_12 rfl ?_
  refine Gl.getF Y9 (host := "") (Or.inl (tw_14 hw)) Via.refl f1 d_prog_137_method_7_13 rfl (fun T13 Y13 => ?_)
  refine Gl.arraylength Y13 f5_0 d_prog_137_method_7_16 rfl ?_
  refine Gl.iconst Y13 (v := (1 : Int32)) (by decide) d_prog_137_method_7_17 rfl ?_
  refine Gl.isub Y13 (r := (3 : Int32)) (by decide) d_prog_137_method_7_18 rfl ?_
  refine Gl.ldcJ Y13 (tw_36 hw) d_prog_137_method_7_19 rfl ?_
  refine Gl.lastore Y13 f5_0 (v := (.long (-9223372036854775808 : Int64))) rfl ⟨by decide, by decide⟩ (ix := 3) rfl (Nat.le_of_ble_eq_true rfl) g_o d_prog_137_method_7_22 rfl (fun T22 h22 Y22 W22 A22 => ?_)
  have A22 : Arv Z h22 wo ko .long (4 : Int32) [(.long (0 : Int64)), (.long (0 : Int64)), (.long (0 : Int64)), (.long (-9223372036854775808 : Int64))] (.long (0 : Int64)) := A22
  have K22 : Keep h0 h22 [wo] := KK5.wr W22 (Or.inl (List.mem_of_getElem? (i := 0) rfl))
  show Gl p e below _ (T22.setTop (mkF m 23 #[.val (.ref o)] []))
  refine Gl.aloadN Y22 rfl rfl d_prog_137_method_7_23 rfl ?_
  exact Gl.retA Y22 (by decide) (by decide) rfl rfl d_prog_137_method_7_24 ⟨rfl, K22, A22⟩
def R66 : Room := { frames := 2, cells := 0, slots := 0, locals := 31 }
def Q66 (Z : State) (o : Addr) (wo : Addr) (ko : ClassId) (x0 : Int64) (x1 : Int64) (x2 : Int64) (x3 : Int64) (v1 : Int64) (h0 : Heap) (v : Option Value) (h : Heap) : Prop := v = some (.ref o) ∧ Keep h0 h [wo] ∧ Arv Z h wo ko .long (4 : Int32) [(.long v1), (.long (v1 >>> ((63 : Int32) &&& 0x3f).toInt64)), (.long (v1 >>> ((63 : Int32) &&& 0x3f).toInt64)), (.long (v1 >>> ((63 : Int32) &&& 0x3f).toInt64))] (.long (0 : Int64))
theorem ef66 (o : Addr) (v1 : Int64) (m : MethodId) : entryFrame m #[(.ref o), (.long v1)] 3 = mkF m 0 #[.val (.ref o), .val (.long v1), .second] [] := by first | (simp [entryFrame, mkF, argsToLocals, Value.category]; done) | rfl
set_option maxRecDepth 65536 in
set_option maxHeartbeats 40000000 in
theorem rm66 (l : Launch) (Z : State) (a0 : Array Value) (hw : ∀ d ∈ tables_1, d.before a0 Z = true) (ws : List Jvm.Cond) (o : Addr) (wo : Addr) (ko : ClassId) (x0 : Int64) (x1 : Int64) (x2 : Int64) (x3 : Int64) (v1 : Int64) (h0 : Heap) (n0 : Nat) (Z0 : n0 ≤ h0.size) (E_o : Exa Z h0 o "com/example/meterwise/meterwise/model/WholeNumber") (F_o : Fld Z h0 o "com/example/meterwise/meterwise/model/WholeNumber" "words" "[J" (.ref wo)) (V_o : Arv Z h0 wo ko .long (4 : Int32) [(.long x0), (.long x1), (.long x2), (.long x3)] (.long (0 : Int64))) (g_o : n0 ≤ wo) (nn_o : o ≠ wo) : OMet l Z ws (⟨"com/example/meterwise/meterwise/model/WholeNumber", "set", "(J)Lcom/example/meterwise/meterwise/model/WholeNumber;"⟩ : MethodName) prog_137_method_4_code 3 (some (.object "com/example/meterwise/meterwise/model/WholeNumber")) R66 #[(.ref o), (.long v1)] h0 n0 (Q66 Z o wo ko x0 x1 x2 x3 v1 h0) := by
  refine OMet.of (plainFor_of_name pn_0) (ef66 o v1) Z0 ?_
  intro p e s m below meth c T0 Y0 hnm
  have Y0 : Sd Z "com/example/meterwise/meterwise/model/WholeNumber" prog_137_method_4_code 3 (some (.object "com/example/meterwise/meterwise/model/WholeNumber")) n0 p l e R66 s m #[(.ref o), (.long v1)] below meth c T0 h0 0 0 := Y0
  refine Gl.aloadN Y0 rfl rfl d_prog_137_method_4_0 rfl ?_
  refine Gl.getF Y0 (host := "") (Or.inl (tw_14 hw)) Via.refl F_o d_prog_137_method_4_1 rfl (fun T1 Y1 => ?_)
  refine Gl.iconst Y1 (v := (0 : Int32)) (by decide) d_prog_137_method_4_4 rfl ?_
  refine Gl.lloadN Y1 rfl d_prog_137_method_4_5 rfl ?_
  refine Gl.lastore Y1 V_o (v := (.long v1)) rfl ⟨by decide, by decide⟩ (ix := 0) rfl (Nat.le_of_ble_eq_true rfl) g_o d_prog_137_method_4_6 rfl (fun T6 h6 Y6 W6 A6 => ?_)
  have A6 : Arv Z h6 wo ko .long (4 : Int32) [(.long v1), (.long x1), (.long x2), (.long x3)] (.long (0 : Int64)) := A6
  have K6 : Keep h0 h6 [wo] := (Keep.refl h0 [wo]).wr W6 (Or.inl (List.mem_of_getElem? (i := 0) rfl))
  show Gl p e below _ (T6.setTop (mkF m 7 #[.val (.ref o), .val (.long v1), .second] []))
  refine Gl.aloadN Y6 rfl rfl d_prog_137_method_4_7 rfl ?_
  have f1 : Fld Z h6 o "com/example/meterwise/meterwise/model/WholeNumber" "words" "[J" (.ref wo) := (Fld.other W6 F_o (Or.inl nn_o))
  refine Gl.getF Y6 (host := "") (Or.inl (tw_14 hw)) Via.refl f1 d_prog_137_method_4_8 rfl (fun T8 Y8 => ?_)
  refine Gl.iconst Y8 (v := (1 : Int32)) (by decide) d_prog_137_method_4_11 rfl ?_
  refine Gl.aloadN Y8 rfl rfl d_prog_137_method_4_12 rfl ?_
  refine Gl.getF Y8 (host := "") (Or.inl (tw_14 hw)) Via.refl f1 d_prog_137_method_4_13 rfl (fun T13 Y13 => ?_)
  refine Gl.arraylength Y13 A6 d_prog_137_method_4_16 rfl ?_
  refine Gl.lloadN Y13 rfl d_prog_137_method_4_17 rfl ?_
  refine Gl.bipush Y13 (v := (63 : Int32)) (by decide) d_prog_137_method_4_18 rfl ?_
  refine Gl.lshr Y13 rfl d_prog_137_method_4_20 rfl ?_
  refine Gl.callS Y13 (tw_21 hw) (tw_22 hw) (tw_23 hw) (tw_24 hw) (by decide) (rm62 l Z a0 hw [] wo ko (v1 >>> ((63 : Int32) &&& 0x3f).toInt64) v1 x1 x2 x3 h6 n0 Y13.sz A6 g_o) (argsL := [(.ref wo), (.int (1 : Int32)), (.int (4 : Int32)), (.long (v1 >>> ((63 : Int32) &&& 0x3f).toInt64))]) (rest := []) rfl rfl (lenOf pd_2 rfl) rfl (by decide) (Nat.le_of_ble_eq_true rfl) (by decide) (by decide) d_prog_137_method_4_21 rfl (fun v21 T21 h21 Y21 q21 => ?_)
  obtain ⟨rfl, K21, f21_0⟩ := q21
  have KK21 : Keep h0 h21 [wo] := K6.trans K21 (allS (Or.inl (List.mem_of_getElem? (i := 0) rfl)) all0)
  show Gl p e below _ (T21.setTop (mkF m 24 #[.val (.ref o), .val (.long v1), .second] []))
  refine Gl.aloadN Y21 rfl rfl d_prog_137_method_4_24 rfl ?_
  exact Gl.retA Y21 (by decide) (by decide) rfl rfl d_prog_137_method_4_25 ⟨rfl, KK21, f21_0⟩
def R67 : Room := { frames := 0, cells := 0, slots := 0, locals := 0 }
def Q67 (Z : State) (o : Addr) (wo : Addr) (ko : ClassId) (x0 : Int64) (x1 : Int64) (x2 : Int64) (x3 : Int64) (h0 : Heap) (v : Option Value) (h : Heap) : Prop := ∃ r : Int32, v = some (.int r) ∧ (((x0 = 0 ∧ x1 = 0 ∧ x2 = 0) ∧ r = 1) ∨ (¬ (x0 = 0 ∧ x1 = 0 ∧ x2 = 0) ∧ r = 0)) ∧ h0 = h
theorem ef67 (o : Addr) (m : MethodId) : entryFrame m #[(.ref o)] 2 = mkF m 0 #[.val (.ref o), .unset] [] := by first | (simp [entryFrame, mkF, argsToLocals, Value.category]; done) | rfl
set_option maxRecDepth 65536 in
set_option maxHeartbeats 40000000 in
theorem rm67 (l : Launch) (Z : State) (a0 : Array Value) (hw : ∀ d ∈ tables_1, d.before a0 Z = true) (ws : List Jvm.Cond) (o : Addr) (wo : Addr) (ko : ClassId) (x0 : Int64) (x1 : Int64) (x2 : Int64) (x3 : Int64) (h0 : Heap) (n0 : Nat) (Z0 : n0 ≤ h0.size) (E_o : Exa Z h0 o "com/example/meterwise/meterwise/model/WholeNumber") (F_o : Fld Z h0 o "com/example/meterwise/meterwise/model/WholeNumber" "words" "[J" (.ref wo)) (V_o : Arv Z h0 wo ko .long (4 : Int32) [(.long x0), (.long x1), (.long x2), (.long x3)] (.long (0 : Int64))) : OMet l Z ws (⟨"com/example/meterwise/meterwise/model/WholeNumber", "zeroBelowTop", "()Z"⟩ : MethodName) prog_137_method_10_code 2 (some .boolean) R67 #[(.ref o)] h0 n0 (Q67 Z o wo ko x0 x1 x2 x3 h0) := by
  refine OMet.of (plainFor_of_name pn_0) (ef67 o) Z0 ?_
  intro p e s m below meth c T0 Y0 hnm
  have Y0 : Sd Z "com/example/meterwise/meterwise/model/WholeNumber" prog_137_method_10_code 2 (some .boolean) n0 p l e R67 s m #[(.ref o)] below meth c T0 h0 0 0 := Y0
  refine Gl.iconst Y0 (v := (0 : Int32)) (by decide) d_prog_137_method_10_0 rfl ?_
  refine Gl.istoreN Y0 (L' := #[.val (.ref o), .val (.int (0 : Int32))]) rfl d_prog_137_method_10_1 rfl ?_
  refine Gl.iloadN Y0 rfl d_prog_137_method_10_2 rfl ?_
  refine Gl.aloadN Y0 rfl rfl d_prog_137_method_10_3 rfl ?_
  refine Gl.getF Y0 (host := "") (Or.inl (tw_14 hw)) Via.refl F_o d_prog_137_method_10_4 rfl (fun T4 Y4 => ?_)
  refine Gl.arraylength Y4 V_o d_prog_137_method_10_7 rfl ?_
  refine Gl.iconst Y4 (v := (1 : Int32)) (by decide) d_prog_137_method_10_8 rfl ?_
  refine Gl.isub Y4 (r := (3 : Int32)) (by decide) d_prog_137_method_10_9 rfl ?_
  refine Gl.icmpge Y4 d_prog_137_method_10_10 (by decide) rfl rfl (fun c10 => ?_) (fun c10 => ?_)
  · exact absurd c10 (by decide)
  refine Gl.aloadN Y4 rfl rfl d_prog_137_method_10_13 rfl ?_
  refine Gl.getF Y4 (host := "") (Or.inl (tw_14 hw)) Via.refl F_o d_prog_137_method_10_14 rfl (fun T14 Y14 => ?_)
  refine Gl.iloadN Y14 rfl d_prog_137_method_10_17 rfl ?_
  refine Gl.laload Y14 V_o ⟨by decide, by decide⟩ (v := (.long x0)) rfl d_prog_137_method_10_18 rfl ?_
  refine Gl.lconst Y14 (v := (0 : Int64)) (by decide) d_prog_137_method_10_19 rfl ?_
  refine Gl.lcmpeq Y14 d_prog_137_method_10_20 rfl d_prog_137_method_10_21 (by decide) rfl rfl (fun c21 => ?_) (fun c21 => ?_)
  · refine Gl.iinc Y14 rfl (r := (1 : Int32)) (by decide) (L' := #[.val (.ref o), .val (.int (1 : Int32))]) rfl d_prog_137_method_10_26 rfl ?_
    refine Gl.goto Y14 d_prog_137_method_10_29 (by decide) rfl ?_
    refine Gl.iloadN Y14 rfl d_prog_137_method_10_2 rfl ?_
    refine Gl.aloadN Y14 rfl rfl d_prog_137_method_10_3 rfl ?_
    refine Gl.getF Y14 (host := "") (Or.inl (tw_14 hw)) Via.refl F_o d_prog_137_method_10_4 rfl (fun T4_2 Y4_2 => ?_)
    refine Gl.arraylength Y4_2 V_o d_prog_137_method_10_7 rfl ?_
    refine Gl.iconst Y4_2 (v := (1 : Int32)) (by decide) d_prog_137_method_10_8 rfl ?_
    refine Gl.isub Y4_2 (r := (3 : Int32)) (by decide) d_prog_137_method_10_9 rfl ?_
    refine Gl.icmpge Y4_2 d_prog_137_method_10_10 (by decide) rfl rfl (fun c10_2 => ?_) (fun c10_2 => ?_)
    · exact absurd c10_2 (by decide)
    refine Gl.aloadN Y4_2 rfl rfl d_prog_137_method_10_13 rfl ?_
    refine Gl.getF Y4_2 (host := "") (Or.inl (tw_14 hw)) Via.refl F_o d_prog_137_method_10_14 rfl (fun T14_2 Y14_2 => ?_)
    refine Gl.iloadN Y14_2 rfl d_prog_137_method_10_17 rfl ?_
    refine Gl.laload Y14_2 V_o ⟨by decide, by decide⟩ (v := (.long x1)) rfl d_prog_137_method_10_18 rfl ?_
    refine Gl.lconst Y14_2 (v := (0 : Int64)) (by decide) d_prog_137_method_10_19 rfl ?_
    refine Gl.lcmpeq Y14_2 d_prog_137_method_10_20 rfl d_prog_137_method_10_21 (by decide) rfl rfl (fun c21_2 => ?_) (fun c21_2 => ?_)
    · refine Gl.iinc Y14_2 rfl (r := (2 : Int32)) (by decide) (L' := #[.val (.ref o), .val (.int (2 : Int32))]) rfl d_prog_137_method_10_26 rfl ?_
      refine Gl.goto Y14_2 d_prog_137_method_10_29 (by decide) rfl ?_
      refine Gl.iloadN Y14_2 rfl d_prog_137_method_10_2 rfl ?_
      refine Gl.aloadN Y14_2 rfl rfl d_prog_137_method_10_3 rfl ?_
      refine Gl.getF Y14_2 (host := "") (Or.inl (tw_14 hw)) Via.refl F_o d_prog_137_method_10_4 rfl (fun T4_3 Y4_3 => ?_)
      refine Gl.arraylength Y4_3 V_o d_prog_137_method_10_7 rfl ?_
      refine Gl.iconst Y4_3 (v := (1 : Int32)) (by decide) d_prog_137_method_10_8 rfl ?_
      refine Gl.isub Y4_3 (r := (3 : Int32)) (by decide) d_prog_137_method_10_9 rfl ?_
      refine Gl.icmpge Y4_3 d_prog_137_method_10_10 (by decide) rfl rfl (fun c10_3 => ?_) (fun c10_3 => ?_)
      · exact absurd c10_3 (by decide)
      refine Gl.aloadN Y4_3 rfl rfl d_prog_137_method_10_13 rfl ?_
      refine Gl.getF Y4_3 (host := "") (Or.inl (tw_14 hw)) Via.refl F_o d_prog_137_method_10_14 rfl (fun T14_3 Y14_3 => ?_)
      refine Gl.iloadN Y14_3 rfl d_prog_137_method_10_17 rfl ?_
      refine Gl.laload Y14_3 V_o ⟨by decide, by decide⟩ (v := (.long x2)) rfl d_prog_137_method_10_18 rfl ?_
      refine Gl.lconst Y14_3 (v := (0 : Int64)) (by decide) d_prog_137_method_10_19 rfl ?_
      refine Gl.lcmpeq Y14_3 d_prog_137_method_10_20 rfl d_prog_137_method_10_21 (by decide) rfl rfl (fun c21_3 => ?_) (fun c21_3 => ?_)
      · refine Gl.iinc Y14_3 rfl (r := (3 : Int32)) (by decide) (L' := #[.val (.ref o), .val (.int (3 : Int32))]) rfl d_prog_137_method_10_26 rfl ?_
        refine Gl.goto Y14_3 d_prog_137_method_10_29 (by decide) rfl ?_
        refine Gl.iloadN Y14_3 rfl d_prog_137_method_10_2 rfl ?_
        refine Gl.aloadN Y14_3 rfl rfl d_prog_137_method_10_3 rfl ?_
        refine Gl.getF Y14_3 (host := "") (Or.inl (tw_14 hw)) Via.refl F_o d_prog_137_method_10_4 rfl (fun T4_4 Y4_4 => ?_)
        refine Gl.arraylength Y4_4 V_o d_prog_137_method_10_7 rfl ?_
        refine Gl.iconst Y4_4 (v := (1 : Int32)) (by decide) d_prog_137_method_10_8 rfl ?_
        refine Gl.isub Y4_4 (r := (3 : Int32)) (by decide) d_prog_137_method_10_9 rfl ?_
        refine Gl.icmpge Y4_4 d_prog_137_method_10_10 (by decide) rfl rfl (fun c10_4 => ?_) (fun c10_4 => ?_)
        rotate_left
        · exact absurd c10_4 (by decide)
        refine Gl.iconst Y4_4 (v := (1 : Int32)) (by decide) d_prog_137_method_10_32 rfl ?_
        exact Gl.retZ Y4_4 (by decide) (by decide) (x' := (1 : Int32)) (by decide) d_prog_137_method_10_33 ⟨(1 : Int32), rfl, Or.inl ⟨⟨c21, c21_2, c21_3⟩, rfl⟩, rfl⟩
      · refine Gl.iconst Y14_3 (v := (0 : Int32)) (by decide) d_prog_137_method_10_24 rfl ?_
        exact Gl.retZ Y14_3 (by decide) (by decide) (x' := (0 : Int32)) (by decide) d_prog_137_method_10_25 ⟨(0 : Int32), rfl, Or.inr ⟨fun q => c21_3 q.2.2, rfl⟩, rfl⟩
    · refine Gl.iconst Y14_2 (v := (0 : Int32)) (by decide) d_prog_137_method_10_24 rfl ?_
      exact Gl.retZ Y14_2 (by decide) (by decide) (x' := (0 : Int32)) (by decide) d_prog_137_method_10_25 ⟨(0 : Int32), rfl, Or.inr ⟨fun q => c21_2 q.2.1, rfl⟩, rfl⟩
  · refine Gl.iconst Y14 (v := (0 : Int32)) (by decide) d_prog_137_method_10_24 rfl ?_
    exact Gl.retZ Y14 (by decide) (by decide) (x' := (0 : Int32)) (by decide) d_prog_137_method_10_25 ⟨(0 : Int32), rfl, Or.inr ⟨fun q => c21 q.1, rfl⟩, rfl⟩
def R68 : Room := { frames := 1, cells := 0, slots := 0, locals := 13 }
def Q68 (Z : State) (o : Addr) (wo : Addr) (ko : ClassId) (x0 : Int64) (x1 : Int64) (x2 : Int64) (x3 : Int64) (h0 : Heap) (v : Option Value) (h : Heap) : Prop := ∃ r : Int32, v = some (.int r) ∧ (((x3 = (-9223372036854775808) ∧ x0 = 0 ∧ x1 = 0 ∧ x2 = 0) ∧ r = 1) ∨ (¬ (x3 = (-9223372036854775808) ∧ x0 = 0 ∧ x1 = 0 ∧ x2 = 0) ∧ r = 0)) ∧ h0 = h
theorem ef68 (o : Addr) (m : MethodId) : entryFrame m #[(.ref o)] 1 = mkF m 0 #[.val (.ref o)] [] := by first | (simp [entryFrame, mkF, argsToLocals, Value.category]; done) | rfl
set_option maxRecDepth 65536 in
set_option maxHeartbeats 40000000 in
theorem rm68 (l : Launch) (Z : State) (a0 : Array Value) (hw : ∀ d ∈ tables_1, d.before a0 Z = true) (ws : List Jvm.Cond) (o : Addr) (wo : Addr) (ko : ClassId) (x0 : Int64) (x1 : Int64) (x2 : Int64) (x3 : Int64) (h0 : Heap) (n0 : Nat) (Z0 : n0 ≤ h0.size) (E_o : Exa Z h0 o "com/example/meterwise/meterwise/model/WholeNumber") (F_o : Fld Z h0 o "com/example/meterwise/meterwise/model/WholeNumber" "words" "[J" (.ref wo)) (V_o : Arv Z h0 wo ko .long (4 : Int32) [(.long x0), (.long x1), (.long x2), (.long x3)] (.long (0 : Int64))) : OMet l Z ws (⟨"com/example/meterwise/meterwise/model/WholeNumber", "overflowed", "()Z"⟩ : MethodName) prog_137_method_8_code 1 (some .boolean) R68 #[(.ref o)] h0 n0 (Q68 Z o wo ko x0 x1 x2 x3 h0) := by
  refine OMet.of (plainFor_of_name pn_0) (ef68 o) Z0 ?_
  intro p e s m below meth c T0 Y0 hnm
  have Y0 : Sd Z "com/example/meterwise/meterwise/model/WholeNumber" prog_137_method_8_code 1 (some .boolean) n0 p l e R68 s m #[(.ref o)] below meth c T0 h0 0 0 := Y0
  refine Gl.aloadN Y0 rfl rfl d_prog_137_method_8_0 rfl ?_
  refine Gl.callP Y0 (tw_51 hw) (tw_52 hw) (tw_53 hw) (tw_1 hw) (tw_2 hw) (tw_54 hw) (by decide) E_o (rm64 l Z a0 hw [] o wo ko x0 x1 x2 x3 h0 n0 Y0.sz E_o F_o V_o) (a := o) (argsL := []) (rest := []) rfl rfl (lenOf pd_3 rfl) rfl (by decide) (Nat.le_of_ble_eq_true rfl) (by decide) (by decide) d_prog_137_method_8_1 rfl (fun v1 T1 h1 Y1 q1 => ?_)
  obtain ⟨rfl, rfl⟩ := q1
  show Gl p e below _ (T1.setTop (mkF m 4 #[.val (.ref o)] [(.long x3)]))
  refine Gl.ldcJ Y1 (tw_36 hw) d_prog_137_method_8_4 rfl ?_
  refine Gl.lcmpne Y1 d_prog_137_method_8_7 rfl d_prog_137_method_8_8 (by decide) rfl rfl (fun c8 => ?_) (fun c8 => ?_)
  · refine Gl.iconst Y1 (v := (0 : Int32)) (by decide) d_prog_137_method_8_22 rfl ?_
    exact Gl.retZ Y1 (by decide) (by decide) (x' := (0 : Int32)) (by decide) d_prog_137_method_8_23 ⟨(0 : Int32), rfl, Or.inr ⟨fun q => c8 q.1, rfl⟩, rfl⟩
  · refine Gl.aloadN Y1 rfl rfl d_prog_137_method_8_11 rfl ?_
    refine Gl.callP Y1 (tw_55 hw) (tw_56 hw) (tw_57 hw) (tw_1 hw) (tw_2 hw) (tw_58 hw) (by decide) E_o (rm67 l Z a0 hw [] o wo ko x0 x1 x2 x3 h0 n0 Y1.sz E_o F_o V_o) (a := o) (argsL := []) (rest := []) rfl rfl (lenOf pd_4 rfl) rfl (by decide) (Nat.le_of_ble_eq_true rfl) (by decide) (by decide) d_prog_137_method_8_12 rfl (fun v12 T12 h12 Y12 q12 => ?_)
    obtain ⟨r12, rfl, p12, rfl⟩ := q12
    have br12 : r12 = 0 ∨ r12 = 1 := by rcases p12 with q | q; exact Or.inr q.2; exact Or.inl q.2
    show Gl p e below _ (T12.setTop (mkF m 15 #[.val (.ref o)] [(.int r12)]))
    refine Gl.ifeq Y12 d_prog_137_method_8_15 (by decide) rfl rfl (fun c15 => ?_) (fun c15 => ?_)
    · refine Gl.iconst Y12 (v := (0 : Int32)) (by decide) d_prog_137_method_8_22 rfl ?_
      exact Gl.retZ Y12 (by decide) (by decide) (x' := (0 : Int32)) (by decide) d_prog_137_method_8_23 ⟨(0 : Int32), rfl, Or.inr ⟨fun q => (by rcases p12 with z | z; exact absurd (c15.symm.trans z.2) (by decide); exact z.1 q.2), rfl⟩, rfl⟩
    · refine Gl.iconst Y12 (v := (1 : Int32)) (by decide) d_prog_137_method_8_18 rfl ?_
      refine Gl.goto Y12 d_prog_137_method_8_19 (by decide) rfl ?_
      exact Gl.retZ Y12 (by decide) (by decide) (x' := (1 : Int32)) (by decide) d_prog_137_method_8_23 ⟨(1 : Int32), rfl, Or.inl ⟨⟨c8, (by rcases p12 with z | z; exact z.1; exact absurd z.2 c15)⟩, rfl⟩, rfl⟩
def R69 : Room := { frames := 0, cells := 0, slots := 0, locals := 0 }
def Q69 (Z : State) (h0 : Heap) (v : Option Value) (h : Heap) : Prop := v = some (.int (4 : Int32)) ∧ h0 = h
theorem ef69 (m : MethodId) : entryFrame m #[(.int (4 : Int32)), (.int (4 : Int32))] 2 = mkF m 0 #[.val (.int (4 : Int32)), .val (.int (4 : Int32))] [] := by first | (simp [entryFrame, mkF, argsToLocals, Value.category]; done) | rfl
set_option maxRecDepth 65536 in
set_option maxHeartbeats 40000000 in
theorem rm69 (l : Launch) (Z : State) (a0 : Array Value) (hw : ∀ d ∈ tables_1, d.before a0 Z = true) (ws : List Jvm.Cond) (h0 : Heap) (n0 : Nat) (Z0 : n0 ≤ h0.size) : OMet l Z ws (⟨"java/lang/Math", "max", "(II)I"⟩ : MethodName) jdk_29_method_65_code 2 (some .int) R69 #[(.int (4 : Int32)), (.int (4 : Int32))] h0 n0 (Q69 Z h0) := by
  refine OMet.of (Jvm.Free.JP.mathPlain rfl (by decide +kernel)) (ef69) Z0 ?_
  intro p e s m below meth c T0 Y0 hnm
  have Y0 : Sd Z "java/lang/Math" jdk_29_method_65_code 2 (some .int) n0 p l e R69 s m #[(.int (4 : Int32)), (.int (4 : Int32))] below meth c T0 h0 0 0 := Y0
  refine Gl.iloadN Y0 rfl d_jdk_29_method_65_0 rfl ?_
  refine Gl.iloadN Y0 rfl d_jdk_29_method_65_1 rfl ?_
  refine Gl.icmplt Y0 d_jdk_29_method_65_2 (by decide) rfl rfl (fun c2 => ?_) (fun c2 => ?_)
  · exact absurd c2 (by decide)
  refine Gl.iloadN Y0 rfl d_jdk_29_method_65_5 rfl ?_
  refine Gl.goto Y0 d_jdk_29_method_65_6 (by decide) rfl ?_
  exact Gl.retI Y0 (by decide) (by decide)  d_jdk_29_method_65_10 ⟨rfl, rfl⟩
def R70 : Room := { frames := 0, cells := 0, slots := 0, locals := 0 }
def Q70 (Z : State) (o : Addr) (wo : Addr) (ko : ClassId) (h0 : Heap) (v : Option Value) (h : Heap) : Prop := v = some (.long (0 : Int64)) ∧ h0 = h
theorem ef70 (o : Addr) (m : MethodId) : entryFrame m #[(.ref o)] 1 = mkF m 0 #[.val (.ref o)] [] := by first | (simp [entryFrame, mkF, argsToLocals, Value.category]; done) | rfl
set_option maxRecDepth 65536 in
set_option maxHeartbeats 40000000 in
theorem rm70 (l : Launch) (Z : State) (a0 : Array Value) (hw : ∀ d ∈ tables_1, d.before a0 Z = true) (ws : List Jvm.Cond) (o : Addr) (wo : Addr) (ko : ClassId) (h0 : Heap) (n0 : Nat) (Z0 : n0 ≤ h0.size) (E_o : Exa Z h0 o "com/example/meterwise/meterwise/model/WholeNumber") (F_o : Fld Z h0 o "com/example/meterwise/meterwise/model/WholeNumber" "words" "[J" (.ref wo)) (V_o : Arv Z h0 wo ko .long (4 : Int32) [(.long (0 : Int64)), (.long (0 : Int64)), (.long (0 : Int64)), (.long (0 : Int64))] (.long (0 : Int64))) : OMet l Z ws (⟨"com/example/meterwise/meterwise/model/WholeNumber", "top", "()J"⟩ : MethodName) prog_137_method_31_code 1 (some .long) R70 #[(.ref o)] h0 n0 (Q70 Z o wo ko h0) := by
  refine OMet.of (plainFor_of_name pn_0) (ef70 o) Z0 ?_
  intro p e s m below meth c T0 Y0 hnm
  have Y0 : Sd Z "com/example/meterwise/meterwise/model/WholeNumber" prog_137_method_31_code 1 (some .long) n0 p l e R70 s m #[(.ref o)] below meth c T0 h0 0 0 := Y0
  refine Gl.aloadN Y0 rfl rfl d_prog_137_method_31_0 rfl ?_
  refine Gl.getF Y0 (host := "") (Or.inl (tw_14 hw)) Via.refl F_o d_prog_137_method_31_1 rfl (fun T1 Y1 => ?_)
  refine Gl.aloadN Y1 rfl rfl d_prog_137_method_31_4 rfl ?_
  refine Gl.getF Y1 (host := "") (Or.inl (tw_14 hw)) Via.refl F_o d_prog_137_method_31_5 rfl (fun T5 Y5 => ?_)
  refine Gl.arraylength Y5 V_o d_prog_137_method_31_8 rfl ?_
  refine Gl.iconst Y5 (v := (1 : Int32)) (by decide) d_prog_137_method_31_9 rfl ?_
  refine Gl.isub Y5 (r := (3 : Int32)) (by decide) d_prog_137_method_31_10 rfl ?_
  refine Gl.laload Y5 V_o ⟨by decide, by decide⟩ (v := (.long (0 : Int64))) rfl d_prog_137_method_31_11 rfl ?_
  exact Gl.retJ Y5 (by decide) (by decide)  d_prog_137_method_31_12 ⟨rfl, rfl⟩
def R71 : Room := { frames := 1, cells := 0, slots := 0, locals := 12 }
def Q71 (Z : State) (o : Addr) (wo : Addr) (ko : ClassId) (h0 : Heap) (v : Option Value) (h : Heap) : Prop := v = some (.int (0 : Int32)) ∧ h0 = h
theorem ef71 (o : Addr) (m : MethodId) : entryFrame m #[(.ref o)] 1 = mkF m 0 #[.val (.ref o)] [] := by first | (simp [entryFrame, mkF, argsToLocals, Value.category]; done) | rfl
set_option maxRecDepth 65536 in
set_option maxHeartbeats 40000000 in
theorem rm71 (l : Launch) (Z : State) (a0 : Array Value) (hw : ∀ d ∈ tables_1, d.before a0 Z = true) (ws : List Jvm.Cond) (o : Addr) (wo : Addr) (ko : ClassId) (h0 : Heap) (n0 : Nat) (Z0 : n0 ≤ h0.size) (E_o : Exa Z h0 o "com/example/meterwise/meterwise/model/WholeNumber") (F_o : Fld Z h0 o "com/example/meterwise/meterwise/model/WholeNumber" "words" "[J" (.ref wo)) (V_o : Arv Z h0 wo ko .long (4 : Int32) [(.long (0 : Int64)), (.long (0 : Int64)), (.long (0 : Int64)), (.long (0 : Int64))] (.long (0 : Int64))) : OMet l Z ws (⟨"com/example/meterwise/meterwise/model/WholeNumber", "overflowed", "()Z"⟩ : MethodName) prog_137_method_8_code 1 (some .boolean) R71 #[(.ref o)] h0 n0 (Q71 Z o wo ko h0) := by
  refine OMet.of (plainFor_of_name pn_0) (ef71 o) Z0 ?_
  intro p e s m below meth c T0 Y0 hnm
  have Y0 : Sd Z "com/example/meterwise/meterwise/model/WholeNumber" prog_137_method_8_code 1 (some .boolean) n0 p l e R71 s m #[(.ref o)] below meth c T0 h0 0 0 := Y0
  refine Gl.aloadN Y0 rfl rfl d_prog_137_method_8_0 rfl ?_
  refine Gl.callP Y0 (tw_51 hw) (tw_52 hw) (tw_53 hw) (tw_1 hw) (tw_2 hw) (tw_54 hw) (by decide) E_o (rm70 l Z a0 hw [] o wo ko h0 n0 Y0.sz E_o F_o V_o) (a := o) (argsL := []) (rest := []) rfl rfl (lenOf pd_3 rfl) rfl (by decide) (Nat.le_of_ble_eq_true rfl) (by decide) (by decide) d_prog_137_method_8_1 rfl (fun v1 T1 h1 Y1 q1 => ?_)
  obtain ⟨rfl, rfl⟩ := q1
  show Gl p e below _ (T1.setTop (mkF m 4 #[.val (.ref o)] [(.long (0 : Int64))]))
  refine Gl.ldcJ Y1 (tw_36 hw) d_prog_137_method_8_4 rfl ?_
  refine Gl.lcmpne Y1 d_prog_137_method_8_7 rfl d_prog_137_method_8_8 (by decide) rfl rfl (fun c8 => ?_) (fun c8 => ?_)
  rotate_left
  · exact absurd c8 (by decide)
  refine Gl.iconst Y1 (v := (0 : Int32)) (by decide) d_prog_137_method_8_22 rfl ?_
  exact Gl.retZ Y1 (by decide) (by decide) (x' := (0 : Int32)) (by decide) d_prog_137_method_8_23 ⟨rfl, rfl⟩
def R72 : Room := { frames := 2, cells := 0, slots := 0, locals := 28 }
def Q72 (Z : State) (o : Addr) (wo : Addr) (ko : ClassId) (x0 : Int64) (x1 : Int64) (x2 : Int64) (x3 : Int64) (u : Addr) (wu : Addr) (ku : ClassId) (y0 : Int64) (y1 : Int64) (y2 : Int64) (y3 : Int64) (h0 : Heap) (v : Option Value) (h : Heap) : Prop := ∃ e0 : Int64, ∃ e1 : Int64, ∃ e2 : Int64, ∃ e3 : Int64, v = some (.ref o) ∧ Keep h0 h [wo] ∧ Arv Z h wo ko .long (4 : Int32) [(.long e0), (.long e1), (.long e2), (.long e3)] (.long (0 : Int64))
theorem ef72 (o : Addr) (u : Addr) (m : MethodId) : entryFrame m #[(.ref o), (.ref u), (.int (0 : Int32))] 21 = mkF m 0 #[.val (.ref o), .val (.ref u), .val (.int (0 : Int32)), .unset, .unset, .unset, .unset, .unset, .unset, .unset, .unset, .unset, .unset, .unset, .unset, .unset, .unset, .unset, .unset, .unset, .unset] [] := by first | (simp [entryFrame, mkF, argsToLocals, Value.category]; done) | rfl
set_option maxRecDepth 65536 in
set_option maxHeartbeats 40000000 in
theorem rm72 (l : Launch) (Z : State) (a0 : Array Value) (hw : ∀ d ∈ tables_1, d.before a0 Z = true) (ws : List Jvm.Cond) (o : Addr) (wo : Addr) (ko : ClassId) (x0 : Int64) (x1 : Int64) (x2 : Int64) (x3 : Int64) (u : Addr) (wu : Addr) (ku : ClassId) (y0 : Int64) (y1 : Int64) (y2 : Int64) (y3 : Int64) (h0 : Heap) (n0 : Nat) (Z0 : n0 ≤ h0.size) (E_o : Exa Z h0 o "com/example/meterwise/meterwise/model/WholeNumber") (F_o : Fld Z h0 o "com/example/meterwise/meterwise/model/WholeNumber" "words" "[J" (.ref wo)) (V_o : Arv Z h0 wo ko .long (4 : Int32) [(.long x0), (.long x1), (.long x2), (.long x3)] (.long (0 : Int64))) (g_o : n0 ≤ wo) (nn_o : o ≠ wo) (E_u : Exa Z h0 u "com/example/meterwise/meterwise/model/WholeNumber") (F_u : Fld Z h0 u "com/example/meterwise/meterwise/model/WholeNumber" "words" "[J" (.ref wu)) (V_u : Arv Z h0 wu ku .long (4 : Int32) [(.long y0), (.long y1), (.long y2), (.long y3)] (.long (0 : Int64))) (nw : wo ≠ wu) (np : u ≠ wo) : OMet l Z ws (⟨"com/example/meterwise/meterwise/model/WholeNumber", "add", "(Lcom/example/meterwise/meterwise/model/WholeNumber;Z)Lcom/example/meterwise/meterwise/model/WholeNumber;"⟩ : MethodName) prog_137_method_14_code 21 (some (.object "com/example/meterwise/meterwise/model/WholeNumber")) R72 #[(.ref o), (.ref u), (.int (0 : Int32))] h0 n0 (Q72 Z o wo ko x0 x1 x2 x3 u wu ku y0 y1 y2 y3 h0) := by
  refine OMet.of (plainFor_of_name pn_0) (ef72 o u) Z0 ?_
  intro p e s m below meth c T0 Y0 hnm
  have Y0 : Sd Z "com/example/meterwise/meterwise/model/WholeNumber" prog_137_method_14_code 21 (some (.object "com/example/meterwise/meterwise/model/WholeNumber")) n0 p l e R72 s m #[(.ref o), (.ref u), (.int (0 : Int32))] below meth c T0 h0 0 0 := Y0
  refine Gl.aloadN Y0 rfl rfl d_prog_137_method_14_0 rfl ?_
  refine Gl.callV Y0 (tw_46 hw) (tw_47 hw) (tw_49 hw) (tw_49 hw) (tw_48 hw) (tw_2 hw) (tw_50 hw) (by decide) E_o (rm68 l Z a0 hw [] o wo ko x0 x1 x2 x3 h0 n0 Y0.sz E_o F_o V_o) (a := o) (argsL := []) (rest := []) rfl rfl (lenOf pd_4 rfl) rfl (by decide) (Nat.le_of_ble_eq_true rfl) (by decide) (by decide) d_prog_137_method_14_1 rfl (fun v1 T1 h1 Y1 q1 => ?_)
  obtain ⟨r1, rfl, p1, rfl⟩ := q1
  have br1 : r1 = 0 ∨ r1 = 1 := by rcases p1 with q | q; exact Or.inr q.2; exact Or.inl q.2
  show Gl p e below _ (T1.setTop (mkF m 4 #[.val (.ref o), .val (.ref u), .val (.int (0 : Int32)), .unset, .unset, .unset, .unset, .unset, .unset, .unset, .unset, .unset, .unset, .unset, .unset, .unset, .unset, .unset, .unset, .unset, .unset] [(.int r1)]))
  refine Gl.ifne Y1 d_prog_137_method_14_4 (by decide) rfl rfl (fun c4 => ?_) (fun c4 => ?_)
  · refine Gl.aloadN Y1 rfl rfl d_prog_137_method_14_14 rfl ?_
    refine Gl.callV Y1 (tw_59 hw) (tw_29 hw) (tw_31 hw) (tw_31 hw) (tw_30 hw) (tw_2 hw) (tw_32 hw) (by decide) E_o (rm65 l Z a0 hw [] o wo ko x0 x1 x2 x3 h0 n0 Y1.sz E_o F_o V_o g_o nn_o) (a := o) (argsL := []) (rest := []) rfl rfl (lenOf pd_5 rfl) rfl (by decide) (Nat.le_of_ble_eq_true rfl) (by decide) (by decide) d_prog_137_method_14_15 rfl (fun v15 T15 h15 Y15 q15 => ?_)
    obtain ⟨rfl, K15, f15_0⟩ := q15
    have KK15 : Keep h0 h15 [wo] := (Keep.refl h0 [wo]).trans K15 (allS (Or.inl (List.mem_of_getElem? (i := 0) rfl)) all0)
    show Gl p e below _ (T15.setTop (mkF m 18 #[.val (.ref o), .val (.ref u), .val (.int (0 : Int32)), .unset, .unset, .unset, .unset, .unset, .unset, .unset, .unset, .unset, .unset, .unset, .unset, .unset, .unset, .unset, .unset, .unset, .unset] [(.ref o)]))
    exact Gl.retA Y15 (by decide) (by decide) rfl rfl d_prog_137_method_14_18 ⟨(0 : Int64), (0 : Int64), (0 : Int64), (-9223372036854775808 : Int64), rfl, KK15, f15_0⟩
  · refine Gl.aloadN Y1 rfl rfl d_prog_137_method_14_7 rfl ?_
    refine Gl.callV Y1 (tw_46 hw) (tw_47 hw) (tw_49 hw) (tw_49 hw) (tw_48 hw) (tw_2 hw) (tw_50 hw) (by decide) E_u (rm68 l Z a0 hw [] u wu ku y0 y1 y2 y3 h0 n0 Y1.sz E_u F_u V_u) (a := u) (argsL := []) (rest := []) rfl rfl (lenOf pd_4 rfl) rfl (by decide) (Nat.le_of_ble_eq_true rfl) (by decide) (by decide) d_prog_137_method_14_8 rfl (fun v8 T8 h8 Y8 q8 => ?_)
    obtain ⟨r8, rfl, p8, rfl⟩ := q8
    have br8 : r8 = 0 ∨ r8 = 1 := by rcases p8 with q | q; exact Or.inr q.2; exact Or.inl q.2
    show Gl p e below _ (T8.setTop (mkF m 11 #[.val (.ref o), .val (.ref u), .val (.int (0 : Int32)), .unset, .unset, .unset, .unset, .unset, .unset, .unset, .unset, .unset, .unset, .unset, .unset, .unset, .unset, .unset, .unset, .unset, .unset] [(.int r8)]))
    refine Gl.ifeq Y8 d_prog_137_method_14_11 (by decide) rfl rfl (fun c11 => ?_) (fun c11 => ?_)
    · refine Gl.aloadN Y8 rfl rfl d_prog_137_method_14_19 rfl ?_
      refine Gl.getF Y8 (host := "") (Or.inl (tw_14 hw)) Via.refl F_u d_prog_137_method_14_20 rfl (fun T20 Y20 => ?_)
      refine Gl.astoreN Y20 rfl (L' := #[.val (.ref o), .val (.ref u), .val (.int (0 : Int32)), .val (.ref wu), .unset, .unset, .unset, .unset, .unset, .unset, .unset, .unset, .unset, .unset, .unset, .unset, .unset, .unset, .unset, .unset, .unset]) rfl d_prog_137_method_14_23 rfl ?_
      refine Gl.aloadN Y20 rfl rfl d_prog_137_method_14_24 rfl ?_
      refine Gl.getF Y20 (host := "") (Or.inl (tw_14 hw)) Via.refl F_o d_prog_137_method_14_25 rfl (fun T25 Y25 => ?_)
      refine Gl.arraylength Y25 V_o d_prog_137_method_14_28 rfl ?_
      refine Gl.aloadN Y25 rfl rfl d_prog_137_method_14_29 rfl ?_
      refine Gl.arraylength Y25 V_u d_prog_137_method_14_30 rfl ?_
      refine Gl.callS Y25 (tw_71 hw) (tw_72 hw) (tw_73 hw) (tw_74 hw) (by decide) (rm69 l Z a0 hw [] h0 n0 Y25.sz) (argsL := [(.int (4 : Int32)), (.int (4 : Int32))]) (rest := []) rfl rfl (lenOf pd_6 rfl) rfl (by decide) (Nat.le_of_ble_eq_true rfl) (by decide) (by decide) d_prog_137_method_14_31 rfl (fun v31 T31 h31 Y31 q31 => ?_)
      obtain ⟨rfl, rfl⟩ := q31
      show Gl p e below _ (T31.setTop (mkF m 34 #[.val (.ref o), .val (.ref u), .val (.int (0 : Int32)), .val (.ref wu), .unset, .unset, .unset, .unset, .unset, .unset, .unset, .unset, .unset, .unset, .unset, .unset, .unset, .unset, .unset, .unset, .unset] [(.int (4 : Int32))]))
      refine Gl.istore Y31 (L' := #[.val (.ref o), .val (.ref u), .val (.int (0 : Int32)), .val (.ref wu), .val (.int (4 : Int32)), .unset, .unset, .unset, .unset, .unset, .unset, .unset, .unset, .unset, .unset, .unset, .unset, .unset, .unset, .unset, .unset]) rfl d_prog_137_method_14_34 rfl ?_
      refine Gl.aloadN Y31 rfl rfl d_prog_137_method_14_36 rfl ?_
      refine Gl.callP Y31 (tw_51 hw) (tw_52 hw) (tw_53 hw) (tw_1 hw) (tw_2 hw) (tw_54 hw) (by decide) E_o (rm64 l Z a0 hw [] o wo ko x0 x1 x2 x3 h0 n0 Y31.sz E_o F_o V_o) (a := o) (argsL := []) (rest := []) rfl rfl (lenOf pd_3 rfl) rfl (by decide) (Nat.le_of_ble_eq_true rfl) (by decide) (by decide) d_prog_137_method_14_37 rfl (fun v37 T37 h37 Y37 q37 => ?_)
      obtain ⟨rfl, rfl⟩ := q37
      show Gl p e below _ (T37.setTop (mkF m 40 #[.val (.ref o), .val (.ref u), .val (.int (0 : Int32)), .val (.ref wu), .val (.int (4 : Int32)), .unset, .unset, .unset, .unset, .unset, .unset, .unset, .unset, .unset, .unset, .unset, .unset, .unset, .unset, .unset, .unset] [(.long x3)]))
      refine Gl.bipush Y37 (v := (63 : Int32)) (by decide) d_prog_137_method_14_40 rfl ?_
      obtain ⟨v42, hv42⟩ : ∃ z : Int64, (x3 >>> ((63 : Int32) &&& 0x3f).toInt64) = z := ⟨_, rfl⟩
      refine Gl.lshr Y37 hv42 d_prog_137_method_14_42 rfl ?_
      refine Gl.lstore Y37 (L' := #[.val (.ref o), .val (.ref u), .val (.int (0 : Int32)), .val (.ref wu), .val (.int (4 : Int32)), .val (.long v42), .second, .unset, .unset, .unset, .unset, .unset, .unset, .unset, .unset, .unset, .unset, .unset, .unset, .unset, .unset]) rfl d_prog_137_method_14_43 rfl ?_
      refine Gl.aloadN Y37 rfl rfl d_prog_137_method_14_45 rfl ?_
      refine Gl.aloadN Y37 rfl rfl d_prog_137_method_14_46 rfl ?_
      refine Gl.arraylength Y37 V_u d_prog_137_method_14_47 rfl ?_
      refine Gl.iconst Y37 (v := (1 : Int32)) (by decide) d_prog_137_method_14_48 rfl ?_
      refine Gl.isub Y37 (r := (3 : Int32)) (by decide) d_prog_137_method_14_49 rfl ?_
      refine Gl.laload Y37 V_u ⟨by decide, by decide⟩ (v := (.long y3)) rfl d_prog_137_method_14_50 rfl ?_
      refine Gl.bipush Y37 (v := (63 : Int32)) (by decide) d_prog_137_method_14_51 rfl ?_
      obtain ⟨v53, hv53⟩ : ∃ z : Int64, (y3 >>> ((63 : Int32) &&& 0x3f).toInt64) = z := ⟨_, rfl⟩
      refine Gl.lshr Y37 hv53 d_prog_137_method_14_53 rfl ?_
      refine Gl.lstore Y37 (L' := #[.val (.ref o), .val (.ref u), .val (.int (0 : Int32)), .val (.ref wu), .val (.int (4 : Int32)), .val (.long v42), .second, .val (.long v53), .second, .unset, .unset, .unset, .unset, .unset, .unset, .unset, .unset, .unset, .unset, .unset, .unset]) rfl d_prog_137_method_14_54 rfl ?_
      refine Gl.iloadN Y37 rfl d_prog_137_method_14_56 rfl ?_
      refine Gl.ifeq Y37 d_prog_137_method_14_57 (by decide) rfl rfl (fun c57 => ?_) (fun c57 => ?_)
      rotate_left
      · exact absurd c57 (by decide)
      refine Gl.lconst Y37 (v := (0 : Int64)) (by decide) d_prog_137_method_14_66 rfl ?_
      refine Gl.lstore Y37 (L' := #[.val (.ref o), .val (.ref u), .val (.int (0 : Int32)), .val (.ref wu), .val (.int (4 : Int32)), .val (.long v42), .second, .val (.long v53), .second, .val (.long (0 : Int64)), .second, .unset, .unset, .unset, .unset, .unset, .unset, .unset, .unset, .unset, .unset]) rfl d_prog_137_method_14_67 rfl ?_
      refine Gl.iloadN Y37 rfl d_prog_137_method_14_69 rfl ?_
      refine Gl.ifeq Y37 d_prog_137_method_14_70 (by decide) rfl rfl (fun c70 => ?_) (fun c70 => ?_)
      rotate_left
      · exact absurd c70 (by decide)
      refine Gl.lconst Y37 (v := (0 : Int64)) (by decide) d_prog_137_method_14_77 rfl ?_
      refine Gl.lstore Y37 (L' := #[.val (.ref o), .val (.ref u), .val (.int (0 : Int32)), .val (.ref wu), .val (.int (4 : Int32)), .val (.long v42), .second, .val (.long v53), .second, .val (.long (0 : Int64)), .second, .val (.long (0 : Int64)), .second, .unset, .unset, .unset, .unset, .unset, .unset, .unset, .unset]) rfl d_prog_137_method_14_78 rfl ?_
      refine Gl.lconst Y37 (v := (0 : Int64)) (by decide) d_prog_137_method_14_80 rfl ?_
      refine Gl.lstore Y37 (L' := #[.val (.ref o), .val (.ref u), .val (.int (0 : Int32)), .val (.ref wu), .val (.int (4 : Int32)), .val (.long v42), .second, .val (.long v53), .second, .val (.long (0 : Int64)), .second, .val (.long (0 : Int64)), .second, .val (.long (0 : Int64)), .second, .unset, .unset, .unset, .unset, .unset, .unset]) rfl d_prog_137_method_14_81 rfl ?_
      refine Gl.lconst Y37 (v := (0 : Int64)) (by decide) d_prog_137_method_14_83 rfl ?_
      refine Gl.lstore Y37 (L' := #[.val (.ref o), .val (.ref u), .val (.int (0 : Int32)), .val (.ref wu), .val (.int (4 : Int32)), .val (.long v42), .second, .val (.long v53), .second, .val (.long (0 : Int64)), .second, .val (.long (0 : Int64)), .second, .val (.long (0 : Int64)), .second, .val (.long (0 : Int64)), .second, .unset, .unset, .unset, .unset]) rfl d_prog_137_method_14_84 rfl ?_
      refine Gl.lconst Y37 (v := (0 : Int64)) (by decide) d_prog_137_method_14_86 rfl ?_
      refine Gl.lstore Y37 (L' := #[.val (.ref o), .val (.ref u), .val (.int (0 : Int32)), .val (.ref wu), .val (.int (4 : Int32)), .val (.long v42), .second, .val (.long v53), .second, .val (.long (0 : Int64)), .second, .val (.long (0 : Int64)), .second, .val (.long (0 : Int64)), .second, .val (.long (0 : Int64)), .second, .val (.long (0 : Int64)), .second, .unset, .unset]) rfl d_prog_137_method_14_87 rfl ?_
      refine Gl.iconst Y37 (v := (1 : Int32)) (by decide) d_prog_137_method_14_89 rfl ?_
      refine Gl.istore Y37 (L' := #[.val (.ref o), .val (.ref u), .val (.int (0 : Int32)), .val (.ref wu), .val (.int (4 : Int32)), .val (.long v42), .second, .val (.long v53), .second, .val (.long (0 : Int64)), .second, .val (.long (0 : Int64)), .second, .val (.long (0 : Int64)), .second, .val (.long (0 : Int64)), .second, .val (.long (0 : Int64)), .second, .val (.int (1 : Int32)), .unset]) rfl d_prog_137_method_14_90 rfl ?_
      refine Gl.iconst Y37 (v := (0 : Int32)) (by decide) d_prog_137_method_14_92 rfl ?_
      refine Gl.istore Y37 (L' := #[.val (.ref o), .val (.ref u), .val (.int (0 : Int32)), .val (.ref wu), .val (.int (4 : Int32)), .val (.long v42), .second, .val (.long v53), .second, .val (.long (0 : Int64)), .second, .val (.long (0 : Int64)), .second, .val (.long (0 : Int64)), .second, .val (.long (0 : Int64)), .second, .val (.long (0 : Int64)), .second, .val (.int (1 : Int32)), .val (.int (0 : Int32))]) rfl d_prog_137_method_14_93 rfl ?_
      refine Gl.iload Y37 rfl d_prog_137_method_14_95 rfl ?_
      refine Gl.iload Y37 rfl d_prog_137_method_14_97 rfl ?_
      refine Gl.icmpge Y37 d_prog_137_method_14_99 (by decide) rfl rfl (fun c99 => ?_) (fun c99 => ?_)
      · exact absurd c99 (by decide)
      refine Gl.iload Y37 rfl d_prog_137_method_14_102 rfl ?_
      refine Gl.aloadN Y37 rfl rfl d_prog_137_method_14_104 rfl ?_
      refine Gl.getF Y37 (host := "") (Or.inl (tw_14 hw)) Via.refl F_o d_prog_137_method_14_105 rfl (fun T105 Y105 => ?_)
      refine Gl.arraylength Y105 V_o d_prog_137_method_14_108 rfl ?_
      refine Gl.icmpge Y105 d_prog_137_method_14_109 (by decide) rfl rfl (fun c109 => ?_) (fun c109 => ?_)
      · exact absurd c109 (by decide)
      refine Gl.aloadN Y105 rfl rfl d_prog_137_method_14_112 rfl ?_
      refine Gl.getF Y105 (host := "") (Or.inl (tw_14 hw)) Via.refl F_o d_prog_137_method_14_113 rfl (fun T113 Y113 => ?_)
      refine Gl.iload Y113 rfl d_prog_137_method_14_116 rfl ?_
      refine Gl.laload Y113 V_o ⟨by decide, by decide⟩ (v := (.long x0)) rfl d_prog_137_method_14_118 rfl ?_
      refine Gl.goto Y113 d_prog_137_method_14_119 (by decide) rfl ?_
      refine Gl.lstore Y113 (L' := #[.val (.ref o), .val (.ref u), .val (.int (0 : Int32)), .val (.ref wu), .val (.int (4 : Int32)), .val (.long v42), .second, .val (.long v53), .second, .val (.long (0 : Int64)), .second, .val (.long (0 : Int64)), .second, .val (.long x0), .second, .val (.long (0 : Int64)), .second, .val (.long (0 : Int64)), .second, .val (.int (1 : Int32)), .val (.int (0 : Int32))]) rfl d_prog_137_method_14_124 rfl ?_
      refine Gl.iload Y113 rfl d_prog_137_method_14_126 rfl ?_
      refine Gl.aloadN Y113 rfl rfl d_prog_137_method_14_128 rfl ?_
      refine Gl.arraylength Y113 V_u d_prog_137_method_14_129 rfl ?_
      refine Gl.icmpge Y113 d_prog_137_method_14_130 (by decide) rfl rfl (fun c130 => ?_) (fun c130 => ?_)
      · exact absurd c130 (by decide)
      refine Gl.aloadN Y113 rfl rfl d_prog_137_method_14_133 rfl ?_
      refine Gl.iload Y113 rfl d_prog_137_method_14_134 rfl ?_
      refine Gl.laload Y113 V_u ⟨by decide, by decide⟩ (v := (.long y0)) rfl d_prog_137_method_14_136 rfl ?_
      refine Gl.goto Y113 d_prog_137_method_14_137 (by decide) rfl ?_
      refine Gl.lload Y113 rfl d_prog_137_method_14_142 rfl ?_
      obtain ⟨v144, hv144⟩ : ∃ z : Int64, y0 ^^^ (0 : Int64) = z := ⟨_, rfl⟩
      refine Gl.lxor Y113 hv144 d_prog_137_method_14_144 rfl ?_
      refine Gl.lstore Y113 (L' := #[.val (.ref o), .val (.ref u), .val (.int (0 : Int32)), .val (.ref wu), .val (.int (4 : Int32)), .val (.long v42), .second, .val (.long v53), .second, .val (.long (0 : Int64)), .second, .val (.long (0 : Int64)), .second, .val (.long x0), .second, .val (.long v144), .second, .val (.long (0 : Int64)), .second, .val (.int (1 : Int32)), .val (.int (0 : Int32))]) rfl d_prog_137_method_14_145 rfl ?_
      refine Gl.lload Y113 rfl d_prog_137_method_14_147 rfl ?_
      refine Gl.lload Y113 rfl d_prog_137_method_14_149 rfl ?_
      obtain ⟨v151, hv151⟩ : ∃ z : Int64, x0 + v144 = z := ⟨_, rfl⟩
      refine Gl.ladd Y113 hv151 d_prog_137_method_14_151 rfl ?_
      refine Gl.lload Y113 rfl d_prog_137_method_14_152 rfl ?_
      obtain ⟨v154, hv154⟩ : ∃ z : Int64, v151 + (0 : Int64) = z := ⟨_, rfl⟩
      refine Gl.ladd Y113 hv154 d_prog_137_method_14_154 rfl ?_
      refine Gl.lstore Y113 (L' := #[.val (.ref o), .val (.ref u), .val (.int (0 : Int32)), .val (.ref wu), .val (.int (4 : Int32)), .val (.long v42), .second, .val (.long v53), .second, .val (.long (0 : Int64)), .second, .val (.long (0 : Int64)), .second, .val (.long x0), .second, .val (.long v144), .second, .val (.long v154), .second, .val (.int (1 : Int32)), .val (.int (0 : Int32))]) rfl d_prog_137_method_14_155 rfl ?_
      refine Gl.lload Y113 rfl d_prog_137_method_14_157 rfl ?_
      refine Gl.lload Y113 rfl d_prog_137_method_14_159 rfl ?_
      obtain ⟨v161, hv161⟩ : ∃ z : Int64, x0 &&& v144 = z := ⟨_, rfl⟩
      refine Gl.land Y113 hv161 d_prog_137_method_14_161 rfl ?_
      refine Gl.lload Y113 rfl d_prog_137_method_14_162 rfl ?_
      refine Gl.lload Y113 rfl d_prog_137_method_14_164 rfl ?_
      obtain ⟨v166, hv166⟩ : ∃ z : Int64, x0 ||| v144 = z := ⟨_, rfl⟩
      refine Gl.lor Y113 hv166 d_prog_137_method_14_166 rfl ?_
      refine Gl.lload Y113 rfl d_prog_137_method_14_167 rfl ?_
      refine Gl.ldcJ Y113 (tw_65 hw) d_prog_137_method_14_169 rfl ?_
      obtain ⟨v172, hv172⟩ : ∃ z : Int64, v154 ^^^ (-1 : Int64) = z := ⟨_, rfl⟩
      refine Gl.lxor Y113 hv172 d_prog_137_method_14_172 rfl ?_
      obtain ⟨v173, hv173⟩ : ∃ z : Int64, v166 &&& v172 = z := ⟨_, rfl⟩
      refine Gl.land Y113 hv173 d_prog_137_method_14_173 rfl ?_
      obtain ⟨v174, hv174⟩ : ∃ z : Int64, v161 ||| v173 = z := ⟨_, rfl⟩
      refine Gl.lor Y113 hv174 d_prog_137_method_14_174 rfl ?_
      refine Gl.bipush Y113 (v := (63 : Int32)) (by decide) d_prog_137_method_14_175 rfl ?_
      obtain ⟨v177, hv177⟩ : ∃ z : Int64, (v174.toUInt64 >>> ((63 : Int32) &&& 0x3f).toInt64.toUInt64).toInt64 = z := ⟨_, rfl⟩
      refine Gl.lushr Y113 hv177 d_prog_137_method_14_177 rfl ?_
      refine Gl.lstore Y113 (L' := #[.val (.ref o), .val (.ref u), .val (.int (0 : Int32)), .val (.ref wu), .val (.int (4 : Int32)), .val (.long v42), .second, .val (.long v53), .second, .val (.long (0 : Int64)), .second, .val (.long v177), .second, .val (.long x0), .second, .val (.long v144), .second, .val (.long v154), .second, .val (.int (1 : Int32)), .val (.int (0 : Int32))]) rfl d_prog_137_method_14_178 rfl ?_
      refine Gl.iload Y113 rfl d_prog_137_method_14_180 rfl ?_
      refine Gl.aloadN Y113 rfl rfl d_prog_137_method_14_182 rfl ?_
      refine Gl.getF Y113 (host := "") (Or.inl (tw_14 hw)) Via.refl F_o d_prog_137_method_14_183 rfl (fun T183 Y183 => ?_)
      refine Gl.arraylength Y183 V_o d_prog_137_method_14_186 rfl ?_
      refine Gl.icmpge Y183 d_prog_137_method_14_187 (by decide) rfl rfl (fun c187 => ?_) (fun c187 => ?_)
      · exact absurd c187 (by decide)
      refine Gl.aloadN Y183 rfl rfl d_prog_137_method_14_190 rfl ?_
      refine Gl.getF Y183 (host := "") (Or.inl (tw_14 hw)) Via.refl F_o d_prog_137_method_14_191 rfl (fun T191 Y191 => ?_)
      refine Gl.iload Y191 rfl d_prog_137_method_14_194 rfl ?_
      refine Gl.lload Y191 rfl d_prog_137_method_14_196 rfl ?_
      refine Gl.lastore Y191 V_o (v := (.long v154)) rfl ⟨by decide, by decide⟩ (ix := 0) rfl (Nat.le_of_ble_eq_true rfl) g_o d_prog_137_method_14_198 rfl (fun T198 h198 Y198 W198 A198 => ?_)
      have A198 : Arv Z h198 wo ko .long (4 : Int32) [(.long v154), (.long x1), (.long x2), (.long x3)] (.long (0 : Int64)) := A198
      have K198 : Keep h0 h198 [wo] := (Keep.refl h0 [wo]).wr W198 (Or.inl (List.mem_of_getElem? (i := 0) rfl))
      show Gl p e below _ (T198.setTop (mkF m 199 #[.val (.ref o), .val (.ref u), .val (.int (0 : Int32)), .val (.ref wu), .val (.int (4 : Int32)), .val (.long v42), .second, .val (.long v53), .second, .val (.long (0 : Int64)), .second, .val (.long v177), .second, .val (.long x0), .second, .val (.long v144), .second, .val (.long v154), .second, .val (.int (1 : Int32)), .val (.int (0 : Int32))] []))
      refine Gl.goto Y198 d_prog_137_method_14_199 (by decide) rfl ?_
      refine Gl.iinc Y198 rfl (r := (1 : Int32)) (by decide) (L' := #[.val (.ref o), .val (.ref u), .val (.int (0 : Int32)), .val (.ref wu), .val (.int (4 : Int32)), .val (.long v42), .second, .val (.long v53), .second, .val (.long (0 : Int64)), .second, .val (.long v177), .second, .val (.long x0), .second, .val (.long v144), .second, .val (.long v154), .second, .val (.int (1 : Int32)), .val (.int (1 : Int32))]) rfl d_prog_137_method_14_225 rfl ?_
      refine Gl.goto Y198 d_prog_137_method_14_228 (by decide) rfl ?_
      refine Gl.iload Y198 rfl d_prog_137_method_14_95 rfl ?_
      refine Gl.iload Y198 rfl d_prog_137_method_14_97 rfl ?_
      refine Gl.icmpge Y198 d_prog_137_method_14_99 (by decide) rfl rfl (fun c99_2 => ?_) (fun c99_2 => ?_)
      · exact absurd c99_2 (by decide)
      refine Gl.iload Y198 rfl d_prog_137_method_14_102 rfl ?_
      refine Gl.aloadN Y198 rfl rfl d_prog_137_method_14_104 rfl ?_
      have f1 : Fld Z h198 o "com/example/meterwise/meterwise/model/WholeNumber" "words" "[J" (.ref wo) := (Fld.other W198 F_o (Or.inl nn_o))
      refine Gl.getF Y198 (host := "") (Or.inl (tw_14 hw)) Via.refl f1 d_prog_137_method_14_105 rfl (fun T105_2 Y105_2 => ?_)
      refine Gl.arraylength Y105_2 A198 d_prog_137_method_14_108 rfl ?_
      refine Gl.icmpge Y105_2 d_prog_137_method_14_109 (by decide) rfl rfl (fun c109_2 => ?_) (fun c109_2 => ?_)
      · exact absurd c109_2 (by decide)
      refine Gl.aloadN Y105_2 rfl rfl d_prog_137_method_14_112 rfl ?_
      refine Gl.getF Y105_2 (host := "") (Or.inl (tw_14 hw)) Via.refl f1 d_prog_137_method_14_113 rfl (fun T113_2 Y113_2 => ?_)
      refine Gl.iload Y113_2 rfl d_prog_137_method_14_116 rfl ?_
      refine Gl.laload Y113_2 A198 ⟨by decide, by decide⟩ (v := (.long x1)) rfl d_prog_137_method_14_118 rfl ?_
      refine Gl.goto Y113_2 d_prog_137_method_14_119 (by decide) rfl ?_
      refine Gl.lstore Y113_2 (L' := #[.val (.ref o), .val (.ref u), .val (.int (0 : Int32)), .val (.ref wu), .val (.int (4 : Int32)), .val (.long v42), .second, .val (.long v53), .second, .val (.long (0 : Int64)), .second, .val (.long v177), .second, .val (.long x1), .second, .val (.long v144), .second, .val (.long v154), .second, .val (.int (1 : Int32)), .val (.int (1 : Int32))]) rfl d_prog_137_method_14_124 rfl ?_
      refine Gl.iload Y113_2 rfl d_prog_137_method_14_126 rfl ?_
      refine Gl.aloadN Y113_2 rfl rfl d_prog_137_method_14_128 rfl ?_
      have f2 : Arv Z h198 wu ku .long (4 : Int32) [(.long y0), (.long y1), (.long y2), (.long y3)] (.long (0 : Int64)) := (V_u.other W198 (Ne.symm nw))
      refine Gl.arraylength Y113_2 f2 d_prog_137_method_14_129 rfl ?_
      refine Gl.icmpge Y113_2 d_prog_137_method_14_130 (by decide) rfl rfl (fun c130_2 => ?_) (fun c130_2 => ?_)
      · exact absurd c130_2 (by decide)
      refine Gl.aloadN Y113_2 rfl rfl d_prog_137_method_14_133 rfl ?_
      refine Gl.iload Y113_2 rfl d_prog_137_method_14_134 rfl ?_
      refine Gl.laload Y113_2 f2 ⟨by decide, by decide⟩ (v := (.long y1)) rfl d_prog_137_method_14_136 rfl ?_
      refine Gl.goto Y113_2 d_prog_137_method_14_137 (by decide) rfl ?_
      refine Gl.lload Y113_2 rfl d_prog_137_method_14_142 rfl ?_
      obtain ⟨v144_2, hv144_2⟩ : ∃ z : Int64, y1 ^^^ (0 : Int64) = z := ⟨_, rfl⟩
      refine Gl.lxor Y113_2 hv144_2 d_prog_137_method_14_144 rfl ?_
      refine Gl.lstore Y113_2 (L' := #[.val (.ref o), .val (.ref u), .val (.int (0 : Int32)), .val (.ref wu), .val (.int (4 : Int32)), .val (.long v42), .second, .val (.long v53), .second, .val (.long (0 : Int64)), .second, .val (.long v177), .second, .val (.long x1), .second, .val (.long v144_2), .second, .val (.long v154), .second, .val (.int (1 : Int32)), .val (.int (1 : Int32))]) rfl d_prog_137_method_14_145 rfl ?_
      refine Gl.lload Y113_2 rfl d_prog_137_method_14_147 rfl ?_
      refine Gl.lload Y113_2 rfl d_prog_137_method_14_149 rfl ?_
      obtain ⟨v151_2, hv151_2⟩ : ∃ z : Int64, x1 + v144_2 = z := ⟨_, rfl⟩
      refine Gl.ladd Y113_2 hv151_2 d_prog_137_method_14_151 rfl ?_
      refine Gl.lload Y113_2 rfl d_prog_137_method_14_152 rfl ?_
      obtain ⟨v154_2, hv154_2⟩ : ∃ z : Int64, v151_2 + v177 = z := ⟨_, rfl⟩
      refine Gl.ladd Y113_2 hv154_2 d_prog_137_method_14_154 rfl ?_
      refine Gl.lstore Y113_2 (L' := #[.val (.ref o), .val (.ref u), .val (.int (0 : Int32)), .val (.ref wu), .val (.int (4 : Int32)), .val (.long v42), .second, .val (.long v53), .second, .val (.long (0 : Int64)), .second, .val (.long v177), .second, .val (.long x1), .second, .val (.long v144_2), .second, .val (.long v154_2), .second, .val (.int (1 : Int32)), .val (.int (1 : Int32))]) rfl d_prog_137_method_14_155 rfl ?_
      refine Gl.lload Y113_2 rfl d_prog_137_method_14_157 rfl ?_
      refine Gl.lload Y113_2 rfl d_prog_137_method_14_159 rfl ?_
      obtain ⟨v161_2, hv161_2⟩ : ∃ z : Int64, x1 &&& v144_2 = z := ⟨_, rfl⟩
      refine Gl.land Y113_2 hv161_2 d_prog_137_method_14_161 rfl ?_
      refine Gl.lload Y113_2 rfl d_prog_137_method_14_162 rfl ?_
      refine Gl.lload Y113_2 rfl d_prog_137_method_14_164 rfl ?_
      obtain ⟨v166_2, hv166_2⟩ : ∃ z : Int64, x1 ||| v144_2 = z := ⟨_, rfl⟩
      refine Gl.lor Y113_2 hv166_2 d_prog_137_method_14_166 rfl ?_
      refine Gl.lload Y113_2 rfl d_prog_137_method_14_167 rfl ?_
      refine Gl.ldcJ Y113_2 (tw_65 hw) d_prog_137_method_14_169 rfl ?_
      obtain ⟨v172_2, hv172_2⟩ : ∃ z : Int64, v154_2 ^^^ (-1 : Int64) = z := ⟨_, rfl⟩
      refine Gl.lxor Y113_2 hv172_2 d_prog_137_method_14_172 rfl ?_
      obtain ⟨v173_2, hv173_2⟩ : ∃ z : Int64, v166_2 &&& v172_2 = z := ⟨_, rfl⟩
      refine Gl.land Y113_2 hv173_2 d_prog_137_method_14_173 rfl ?_
      obtain ⟨v174_2, hv174_2⟩ : ∃ z : Int64, v161_2 ||| v173_2 = z := ⟨_, rfl⟩
      refine Gl.lor Y113_2 hv174_2 d_prog_137_method_14_174 rfl ?_
      refine Gl.bipush Y113_2 (v := (63 : Int32)) (by decide) d_prog_137_method_14_175 rfl ?_
      obtain ⟨v177_2, hv177_2⟩ : ∃ z : Int64, (v174_2.toUInt64 >>> ((63 : Int32) &&& 0x3f).toInt64.toUInt64).toInt64 = z := ⟨_, rfl⟩
      refine Gl.lushr Y113_2 hv177_2 d_prog_137_method_14_177 rfl ?_
      refine Gl.lstore Y113_2 (L' := #[.val (.ref o), .val (.ref u), .val (.int (0 : Int32)), .val (.ref wu), .val (.int (4 : Int32)), .val (.long v42), .second, .val (.long v53), .second, .val (.long (0 : Int64)), .second, .val (.long v177_2), .second, .val (.long x1), .second, .val (.long v144_2), .second, .val (.long v154_2), .second, .val (.int (1 : Int32)), .val (.int (1 : Int32))]) rfl d_prog_137_method_14_178 rfl ?_
      refine Gl.iload Y113_2 rfl d_prog_137_method_14_180 rfl ?_
      refine Gl.aloadN Y113_2 rfl rfl d_prog_137_method_14_182 rfl ?_
      refine Gl.getF Y113_2 (host := "") (Or.inl (tw_14 hw)) Via.refl f1 d_prog_137_method_14_183 rfl (fun T183_2 Y183_2 => ?_)
      refine Gl.arraylength Y183_2 A198 d_prog_137_method_14_186 rfl ?_
      refine Gl.icmpge Y183_2 d_prog_137_method_14_187 (by decide) rfl rfl (fun c187_2 => ?_) (fun c187_2 => ?_)
      · exact absurd c187_2 (by decide)
      refine Gl.aloadN Y183_2 rfl rfl d_prog_137_method_14_190 rfl ?_
      refine Gl.getF Y183_2 (host := "") (Or.inl (tw_14 hw)) Via.refl f1 d_prog_137_method_14_191 rfl (fun T191_2 Y191_2 => ?_)
      refine Gl.iload Y191_2 rfl d_prog_137_method_14_194 rfl ?_
      refine Gl.lload Y191_2 rfl d_prog_137_method_14_196 rfl ?_
      refine Gl.lastore Y191_2 A198 (v := (.long v154_2)) rfl ⟨by decide, by decide⟩ (ix := 1) rfl (Nat.le_of_ble_eq_true rfl) g_o d_prog_137_method_14_198 rfl (fun T198_2 h198_2 Y198_2 W198_2 A198_2 => ?_)
      have A198_2 : Arv Z h198_2 wo ko .long (4 : Int32) [(.long v154), (.long v154_2), (.long x2), (.long x3)] (.long (0 : Int64)) := A198_2
      have K198_2 : Keep h0 h198_2 [wo] := K198.wr W198_2 (Or.inl (List.mem_of_getElem? (i := 0) rfl))
      show Gl p e below _ (T198_2.setTop (mkF m 199 #[.val (.ref o), .val (.ref u), .val (.int (0 : Int32)), .val (.ref wu), .val (.int (4 : Int32)), .val (.long v42), .second, .val (.long v53), .second, .val (.long (0 : Int64)), .second, .val (.long v177_2), .second, .val (.long x1), .second, .val (.long v144_2), .second, .val (.long v154_2), .second, .val (.int (1 : Int32)), .val (.int (1 : Int32))] []))
      refine Gl.goto Y198_2 d_prog_137_method_14_199 (by decide) rfl ?_
      refine Gl.iinc Y198_2 rfl (r := (2 : Int32)) (by decide) (L' := #[.val (.ref o), .val (.ref u), .val (.int (0 : Int32)), .val (.ref wu), .val (.int (4 : Int32)), .val (.long v42), .second, .val (.long v53), .second, .val (.long (0 : Int64)), .second, .val (.long v177_2), .second, .val (.long x1), .second, .val (.long v144_2), .second, .val (.long v154_2), .second, .val (.int (1 : Int32)), .val (.int (2 : Int32))]) rfl d_prog_137_method_14_225 rfl ?_
      refine Gl.goto Y198_2 d_prog_137_method_14_228 (by decide) rfl ?_
      refine Gl.iload Y198_2 rfl d_prog_137_method_14_95 rfl ?_
      refine Gl.iload Y198_2 rfl d_prog_137_method_14_97 rfl ?_
      refine Gl.icmpge Y198_2 d_prog_137_method_14_99 (by decide) rfl rfl (fun c99_3 => ?_) (fun c99_3 => ?_)
      · exact absurd c99_3 (by decide)
      refine Gl.iload Y198_2 rfl d_prog_137_method_14_102 rfl ?_
      refine Gl.aloadN Y198_2 rfl rfl d_prog_137_method_14_104 rfl ?_
      have f3 : Fld Z h198_2 o "com/example/meterwise/meterwise/model/WholeNumber" "words" "[J" (.ref wo) := (Fld.other W198_2 f1 (Or.inl nn_o))
      refine Gl.getF Y198_2 (host := "") (Or.inl (tw_14 hw)) Via.refl f3 d_prog_137_method_14_105 rfl (fun T105_3 Y105_3 => ?_)
      refine Gl.arraylength Y105_3 A198_2 d_prog_137_method_14_108 rfl ?_
      refine Gl.icmpge Y105_3 d_prog_137_method_14_109 (by decide) rfl rfl (fun c109_3 => ?_) (fun c109_3 => ?_)
      · exact absurd c109_3 (by decide)
      refine Gl.aloadN Y105_3 rfl rfl d_prog_137_method_14_112 rfl ?_
      refine Gl.getF Y105_3 (host := "") (Or.inl (tw_14 hw)) Via.refl f3 d_prog_137_method_14_113 rfl (fun T113_3 Y113_3 => ?_)
      refine Gl.iload Y113_3 rfl d_prog_137_method_14_116 rfl ?_
      refine Gl.laload Y113_3 A198_2 ⟨by decide, by decide⟩ (v := (.long x2)) rfl d_prog_137_method_14_118 rfl ?_
      refine Gl.goto Y113_3 d_prog_137_method_14_119 (by decide) rfl ?_
      refine Gl.lstore Y113_3 (L' := #[.val (.ref o), .val (.ref u), .val (.int (0 : Int32)), .val (.ref wu), .val (.int (4 : Int32)), .val (.long v42), .second, .val (.long v53), .second, .val (.long (0 : Int64)), .second, .val (.long v177_2), .second, .val (.long x2), .second, .val (.long v144_2), .second, .val (.long v154_2), .second, .val (.int (1 : Int32)), .val (.int (2 : Int32))]) rfl d_prog_137_method_14_124 rfl ?_
      refine Gl.iload Y113_3 rfl d_prog_137_method_14_126 rfl ?_
      refine Gl.aloadN Y113_3 rfl rfl d_prog_137_method_14_128 rfl ?_
      have f4 : Arv Z h198_2 wu ku .long (4 : Int32) [(.long y0), (.long y1), (.long y2), (.long y3)] (.long (0 : Int64)) := (f2.other W198_2 (Ne.symm nw))
      refine Gl.arraylength Y113_3 f4 d_prog_137_method_14_129 rfl ?_
      refine Gl.icmpge Y113_3 d_prog_137_method_14_130 (by decide) rfl rfl (fun c130_3 => ?_) (fun c130_3 => ?_)
      · exact absurd c130_3 (by decide)
      refine Gl.aloadN Y113_3 rfl rfl d_prog_137_method_14_133 rfl ?_
      refine Gl.iload Y113_3 rfl d_prog_137_method_14_134 rfl ?_
      refine Gl.laload Y113_3 f4 ⟨by decide, by decide⟩ (v := (.long y2)) rfl d_prog_137_method_14_136 rfl ?_
      refine Gl.goto Y113_3 d_prog_137_method_14_137 (by decide) rfl ?_
      refine Gl.lload Y113_3 rfl d_prog_137_method_14_142 rfl ?_
      obtain ⟨v144_3, hv144_3⟩ : ∃ z : Int64, y2 ^^^ (0 : Int64) = z := ⟨_, rfl⟩
      refine Gl.lxor Y113_3 hv144_3 d_prog_137_method_14_144 rfl ?_
      refine Gl.lstore Y113_3 (L' := #[.val (.ref o), .val (.ref u), .val (.int (0 : Int32)), .val (.ref wu), .val (.int (4 : Int32)), .val (.long v42), .second, .val (.long v53), .second, .val (.long (0 : Int64)), .second, .val (.long v177_2), .second, .val (.long x2), .second, .val (.long v144_3), .second, .val (.long v154_2), .second, .val (.int (1 : Int32)), .val (.int (2 : Int32))]) rfl d_prog_137_method_14_145 rfl ?_
      refine Gl.lload Y113_3 rfl d_prog_137_method_14_147 rfl ?_
      refine Gl.lload Y113_3 rfl d_prog_137_method_14_149 rfl ?_
      obtain ⟨v151_3, hv151_3⟩ : ∃ z : Int64, x2 + v144_3 = z := ⟨_, rfl⟩
      refine Gl.ladd Y113_3 hv151_3 d_prog_137_method_14_151 rfl ?_
      refine Gl.lload Y113_3 rfl d_prog_137_method_14_152 rfl ?_
      obtain ⟨v154_3, hv154_3⟩ : ∃ z : Int64, v151_3 + v177_2 = z := ⟨_, rfl⟩
      refine Gl.ladd Y113_3 hv154_3 d_prog_137_method_14_154 rfl ?_
      refine Gl.lstore Y113_3 (L' := #[.val (.ref o), .val (.ref u), .val (.int (0 : Int32)), .val (.ref wu), .val (.int (4 : Int32)), .val (.long v42), .second, .val (.long v53), .second, .val (.long (0 : Int64)), .second, .val (.long v177_2), .second, .val (.long x2), .second, .val (.long v144_3), .second, .val (.long v154_3), .second, .val (.int (1 : Int32)), .val (.int (2 : Int32))]) rfl d_prog_137_method_14_155 rfl ?_
      refine Gl.lload Y113_3 rfl d_prog_137_method_14_157 rfl ?_
      refine Gl.lload Y113_3 rfl d_prog_137_method_14_159 rfl ?_
      obtain ⟨v161_3, hv161_3⟩ : ∃ z : Int64, x2 &&& v144_3 = z := ⟨_, rfl⟩
      refine Gl.land Y113_3 hv161_3 d_prog_137_method_14_161 rfl ?_
      refine Gl.lload Y113_3 rfl d_prog_137_method_14_162 rfl ?_
      refine Gl.lload Y113_3 rfl d_prog_137_method_14_164 rfl ?_
      obtain ⟨v166_3, hv166_3⟩ : ∃ z : Int64, x2 ||| v144_3 = z := ⟨_, rfl⟩
      refine Gl.lor Y113_3 hv166_3 d_prog_137_method_14_166 rfl ?_
      refine Gl.lload Y113_3 rfl d_prog_137_method_14_167 rfl ?_
      refine Gl.ldcJ Y113_3 (tw_65 hw) d_prog_137_method_14_169 rfl ?_
      obtain ⟨v172_3, hv172_3⟩ : ∃ z : Int64, v154_3 ^^^ (-1 : Int64) = z := ⟨_, rfl⟩
      refine Gl.lxor Y113_3 hv172_3 d_prog_137_method_14_172 rfl ?_
      obtain ⟨v173_3, hv173_3⟩ : ∃ z : Int64, v166_3 &&& v172_3 = z := ⟨_, rfl⟩
      refine Gl.land Y113_3 hv173_3 d_prog_137_method_14_173 rfl ?_
      obtain ⟨v174_3, hv174_3⟩ : ∃ z : Int64, v161_3 ||| v173_3 = z := ⟨_, rfl⟩
      refine Gl.lor Y113_3 hv174_3 d_prog_137_method_14_174 rfl ?_
      refine Gl.bipush Y113_3 (v := (63 : Int32)) (by decide) d_prog_137_method_14_175 rfl ?_
      obtain ⟨v177_3, hv177_3⟩ : ∃ z : Int64, (v174_3.toUInt64 >>> ((63 : Int32) &&& 0x3f).toInt64.toUInt64).toInt64 = z := ⟨_, rfl⟩
      refine Gl.lushr Y113_3 hv177_3 d_prog_137_method_14_177 rfl ?_
      refine Gl.lstore Y113_3 (L' := #[.val (.ref o), .val (.ref u), .val (.int (0 : Int32)), .val (.ref wu), .val (.int (4 : Int32)), .val (.long v42), .second, .val (.long v53), .second, .val (.long (0 : Int64)), .second, .val (.long v177_3), .second, .val (.long x2), .second, .val (.long v144_3), .second, .val (.long v154_3), .second, .val (.int (1 : Int32)), .val (.int (2 : Int32))]) rfl d_prog_137_method_14_178 rfl ?_
      refine Gl.iload Y113_3 rfl d_prog_137_method_14_180 rfl ?_
      refine Gl.aloadN Y113_3 rfl rfl d_prog_137_method_14_182 rfl ?_
      refine Gl.getF Y113_3 (host := "") (Or.inl (tw_14 hw)) Via.refl f3 d_prog_137_method_14_183 rfl (fun T183_3 Y183_3 => ?_)
      refine Gl.arraylength Y183_3 A198_2 d_prog_137_method_14_186 rfl ?_
      refine Gl.icmpge Y183_3 d_prog_137_method_14_187 (by decide) rfl rfl (fun c187_3 => ?_) (fun c187_3 => ?_)
      · exact absurd c187_3 (by decide)
      refine Gl.aloadN Y183_3 rfl rfl d_prog_137_method_14_190 rfl ?_
      refine Gl.getF Y183_3 (host := "") (Or.inl (tw_14 hw)) Via.refl f3 d_prog_137_method_14_191 rfl (fun T191_3 Y191_3 => ?_)
      refine Gl.iload Y191_3 rfl d_prog_137_method_14_194 rfl ?_
      refine Gl.lload Y191_3 rfl d_prog_137_method_14_196 rfl ?_
      refine Gl.lastore Y191_3 A198_2 (v := (.long v154_3)) rfl ⟨by decide, by decide⟩ (ix := 2) rfl (Nat.le_of_ble_eq_true rfl) g_o d_prog_137_method_14_198 rfl (fun T198_3 h198_3 Y198_3 W198_3 A198_3 => ?_)
      have A198_3 : Arv Z h198_3 wo ko .long (4 : Int32) [(.long v154), (.long v154_2), (.long v154_3), (.long x3)] (.long (0 : Int64)) := A198_3
      have K198_3 : Keep h0 h198_3 [wo] := K198_2.wr W198_3 (Or.inl (List.mem_of_getElem? (i := 0) rfl))
      show Gl p e below _ (T198_3.setTop (mkF m 199 #[.val (.ref o), .val (.ref u), .val (.int (0 : Int32)), .val (.ref wu), .val (.int (4 : Int32)), .val (.long v42), .second, .val (.long v53), .second, .val (.long (0 : Int64)), .second, .val (.long v177_3), .second, .val (.long x2), .second, .val (.long v144_3), .second, .val (.long v154_3), .second, .val (.int (1 : Int32)), .val (.int (2 : Int32))] []))
      refine Gl.goto Y198_3 d_prog_137_method_14_199 (by decide) rfl ?_
      refine Gl.iinc Y198_3 rfl (r := (3 : Int32)) (by decide) (L' := #[.val (.ref o), .val (.ref u), .val (.int (0 : Int32)), .val (.ref wu), .val (.int (4 : Int32)), .val (.long v42), .second, .val (.long v53), .second, .val (.long (0 : Int64)), .second, .val (.long v177_3), .second, .val (.long x2), .second, .val (.long v144_3), .second, .val (.long v154_3), .second, .val (.int (1 : Int32)), .val (.int (3 : Int32))]) rfl d_prog_137_method_14_225 rfl ?_
      refine Gl.goto Y198_3 d_prog_137_method_14_228 (by decide) rfl ?_
      refine Gl.iload Y198_3 rfl d_prog_137_method_14_95 rfl ?_
      refine Gl.iload Y198_3 rfl d_prog_137_method_14_97 rfl ?_
      refine Gl.icmpge Y198_3 d_prog_137_method_14_99 (by decide) rfl rfl (fun c99_4 => ?_) (fun c99_4 => ?_)
      · exact absurd c99_4 (by decide)
      refine Gl.iload Y198_3 rfl d_prog_137_method_14_102 rfl ?_
      refine Gl.aloadN Y198_3 rfl rfl d_prog_137_method_14_104 rfl ?_
      have f5 : Fld Z h198_3 o "com/example/meterwise/meterwise/model/WholeNumber" "words" "[J" (.ref wo) := (Fld.other W198_3 f3 (Or.inl nn_o))
      refine Gl.getF Y198_3 (host := "") (Or.inl (tw_14 hw)) Via.refl f5 d_prog_137_method_14_105 rfl (fun T105_4 Y105_4 => ?_)
      refine Gl.arraylength Y105_4 A198_3 d_prog_137_method_14_108 rfl ?_
      refine Gl.icmpge Y105_4 d_prog_137_method_14_109 (by decide) rfl rfl (fun c109_4 => ?_) (fun c109_4 => ?_)
      · exact absurd c109_4 (by decide)
      refine Gl.aloadN Y105_4 rfl rfl d_prog_137_method_14_112 rfl ?_
      refine Gl.getF Y105_4 (host := "") (Or.inl (tw_14 hw)) Via.refl f5 d_prog_137_method_14_113 rfl (fun T113_4 Y113_4 => ?_)
      refine Gl.iload Y113_4 rfl d_prog_137_method_14_116 rfl ?_
      refine Gl.laload Y113_4 A198_3 ⟨by decide, by decide⟩ (v := (.long x3)) rfl d_prog_137_method_14_118 rfl ?_
      refine Gl.goto Y113_4 d_prog_137_method_14_119 (by decide) rfl ?_
      refine Gl.lstore Y113_4 (L' := #[.val (.ref o), .val (.ref u), .val (.int (0 : Int32)), .val (.ref wu), .val (.int (4 : Int32)), .val (.long v42), .second, .val (.long v53), .second, .val (.long (0 : Int64)), .second, .val (.long v177_3), .second, .val (.long x3), .second, .val (.long v144_3), .second, .val (.long v154_3), .second, .val (.int (1 : Int32)), .val (.int (3 : Int32))]) rfl d_prog_137_method_14_124 rfl ?_
      refine Gl.iload Y113_4 rfl d_prog_137_method_14_126 rfl ?_
      refine Gl.aloadN Y113_4 rfl rfl d_prog_137_method_14_128 rfl ?_
      have f6 : Arv Z h198_3 wu ku .long (4 : Int32) [(.long y0), (.long y1), (.long y2), (.long y3)] (.long (0 : Int64)) := (f4.other W198_3 (Ne.symm nw))
      refine Gl.arraylength Y113_4 f6 d_prog_137_method_14_129 rfl ?_
      refine Gl.icmpge Y113_4 d_prog_137_method_14_130 (by decide) rfl rfl (fun c130_4 => ?_) (fun c130_4 => ?_)
      · exact absurd c130_4 (by decide)
      refine Gl.aloadN Y113_4 rfl rfl d_prog_137_method_14_133 rfl ?_
      refine Gl.iload Y113_4 rfl d_prog_137_method_14_134 rfl ?_
      refine Gl.laload Y113_4 f6 ⟨by decide, by decide⟩ (v := (.long y3)) rfl d_prog_137_method_14_136 rfl ?_
      refine Gl.goto Y113_4 d_prog_137_method_14_137 (by decide) rfl ?_
      refine Gl.lload Y113_4 rfl d_prog_137_method_14_142 rfl ?_
      obtain ⟨v144_4, hv144_4⟩ : ∃ z : Int64, y3 ^^^ (0 : Int64) = z := ⟨_, rfl⟩
      refine Gl.lxor Y113_4 hv144_4 d_prog_137_method_14_144 rfl ?_
      refine Gl.lstore Y113_4 (L' := #[.val (.ref o), .val (.ref u), .val (.int (0 : Int32)), .val (.ref wu), .val (.int (4 : Int32)), .val (.long v42), .second, .val (.long v53), .second, .val (.long (0 : Int64)), .second, .val (.long v177_3), .second, .val (.long x3), .second, .val (.long v144_4), .second, .val (.long v154_3), .second, .val (.int (1 : Int32)), .val (.int (3 : Int32))]) rfl d_prog_137_method_14_145 rfl ?_
      refine Gl.lload Y113_4 rfl d_prog_137_method_14_147 rfl ?_
      refine Gl.lload Y113_4 rfl d_prog_137_method_14_149 rfl ?_
      obtain ⟨v151_4, hv151_4⟩ : ∃ z : Int64, x3 + v144_4 = z := ⟨_, rfl⟩
      refine Gl.ladd Y113_4 hv151_4 d_prog_137_method_14_151 rfl ?_
      refine Gl.lload Y113_4 rfl d_prog_137_method_14_152 rfl ?_
      obtain ⟨v154_4, hv154_4⟩ : ∃ z : Int64, v151_4 + v177_3 = z := ⟨_, rfl⟩
      refine Gl.ladd Y113_4 hv154_4 d_prog_137_method_14_154 rfl ?_
      refine Gl.lstore Y113_4 (L' := #[.val (.ref o), .val (.ref u), .val (.int (0 : Int32)), .val (.ref wu), .val (.int (4 : Int32)), .val (.long v42), .second, .val (.long v53), .second, .val (.long (0 : Int64)), .second, .val (.long v177_3), .second, .val (.long x3), .second, .val (.long v144_4), .second, .val (.long v154_4), .second, .val (.int (1 : Int32)), .val (.int (3 : Int32))]) rfl d_prog_137_method_14_155 rfl ?_
      refine Gl.lload Y113_4 rfl d_prog_137_method_14_157 rfl ?_
      refine Gl.lload Y113_4 rfl d_prog_137_method_14_159 rfl ?_
      obtain ⟨v161_4, hv161_4⟩ : ∃ z : Int64, x3 &&& v144_4 = z := ⟨_, rfl⟩
      refine Gl.land Y113_4 hv161_4 d_prog_137_method_14_161 rfl ?_
      refine Gl.lload Y113_4 rfl d_prog_137_method_14_162 rfl ?_
      refine Gl.lload Y113_4 rfl d_prog_137_method_14_164 rfl ?_
      obtain ⟨v166_4, hv166_4⟩ : ∃ z : Int64, x3 ||| v144_4 = z := ⟨_, rfl⟩
      refine Gl.lor Y113_4 hv166_4 d_prog_137_method_14_166 rfl ?_
      refine Gl.lload Y113_4 rfl d_prog_137_method_14_167 rfl ?_
      refine Gl.ldcJ Y113_4 (tw_65 hw) d_prog_137_method_14_169 rfl ?_
      obtain ⟨v172_4, hv172_4⟩ : ∃ z : Int64, v154_4 ^^^ (-1 : Int64) = z := ⟨_, rfl⟩
      refine Gl.lxor Y113_4 hv172_4 d_prog_137_method_14_172 rfl ?_
      obtain ⟨v173_4, hv173_4⟩ : ∃ z : Int64, v166_4 &&& v172_4 = z := ⟨_, rfl⟩
      refine Gl.land Y113_4 hv173_4 d_prog_137_method_14_173 rfl ?_
      obtain ⟨v174_4, hv174_4⟩ : ∃ z : Int64, v161_4 ||| v173_4 = z := ⟨_, rfl⟩
      refine Gl.lor Y113_4 hv174_4 d_prog_137_method_14_174 rfl ?_
      refine Gl.bipush Y113_4 (v := (63 : Int32)) (by decide) d_prog_137_method_14_175 rfl ?_
      obtain ⟨v177_4, hv177_4⟩ : ∃ z : Int64, (v174_4.toUInt64 >>> ((63 : Int32) &&& 0x3f).toInt64.toUInt64).toInt64 = z := ⟨_, rfl⟩
      refine Gl.lushr Y113_4 hv177_4 d_prog_137_method_14_177 rfl ?_
      refine Gl.lstore Y113_4 (L' := #[.val (.ref o), .val (.ref u), .val (.int (0 : Int32)), .val (.ref wu), .val (.int (4 : Int32)), .val (.long v42), .second, .val (.long v53), .second, .val (.long (0 : Int64)), .second, .val (.long v177_4), .second, .val (.long x3), .second, .val (.long v144_4), .second, .val (.long v154_4), .second, .val (.int (1 : Int32)), .val (.int (3 : Int32))]) rfl d_prog_137_method_14_178 rfl ?_
      refine Gl.iload Y113_4 rfl d_prog_137_method_14_180 rfl ?_
      refine Gl.aloadN Y113_4 rfl rfl d_prog_137_method_14_182 rfl ?_
      refine Gl.getF Y113_4 (host := "") (Or.inl (tw_14 hw)) Via.refl f5 d_prog_137_method_14_183 rfl (fun T183_4 Y183_4 => ?_)
      refine Gl.arraylength Y183_4 A198_3 d_prog_137_method_14_186 rfl ?_
      refine Gl.icmpge Y183_4 d_prog_137_method_14_187 (by decide) rfl rfl (fun c187_4 => ?_) (fun c187_4 => ?_)
      · exact absurd c187_4 (by decide)
      refine Gl.aloadN Y183_4 rfl rfl d_prog_137_method_14_190 rfl ?_
      refine Gl.getF Y183_4 (host := "") (Or.inl (tw_14 hw)) Via.refl f5 d_prog_137_method_14_191 rfl (fun T191_4 Y191_4 => ?_)
      refine Gl.iload Y191_4 rfl d_prog_137_method_14_194 rfl ?_
      refine Gl.lload Y191_4 rfl d_prog_137_method_14_196 rfl ?_
      refine Gl.lastore Y191_4 A198_3 (v := (.long v154_4)) rfl ⟨by decide, by decide⟩ (ix := 3) rfl (Nat.le_of_ble_eq_true rfl) g_o d_prog_137_method_14_198 rfl (fun T198_4 h198_4 Y198_4 W198_4 A198_4 => ?_)
      have A198_4 : Arv Z h198_4 wo ko .long (4 : Int32) [(.long v154), (.long v154_2), (.long v154_3), (.long v154_4)] (.long (0 : Int64)) := A198_4
      have K198_4 : Keep h0 h198_4 [wo] := K198_3.wr W198_4 (Or.inl (List.mem_of_getElem? (i := 0) rfl))
      show Gl p e below _ (T198_4.setTop (mkF m 199 #[.val (.ref o), .val (.ref u), .val (.int (0 : Int32)), .val (.ref wu), .val (.int (4 : Int32)), .val (.long v42), .second, .val (.long v53), .second, .val (.long (0 : Int64)), .second, .val (.long v177_4), .second, .val (.long x3), .second, .val (.long v144_4), .second, .val (.long v154_4), .second, .val (.int (1 : Int32)), .val (.int (3 : Int32))] []))
      refine Gl.goto Y198_4 d_prog_137_method_14_199 (by decide) rfl ?_
      refine Gl.iinc Y198_4 rfl (r := (4 : Int32)) (by decide) (L' := #[.val (.ref o), .val (.ref u), .val (.int (0 : Int32)), .val (.ref wu), .val (.int (4 : Int32)), .val (.long v42), .second, .val (.long v53), .second, .val (.long (0 : Int64)), .second, .val (.long v177_4), .second, .val (.long x3), .second, .val (.long v144_4), .second, .val (.long v154_4), .second, .val (.int (1 : Int32)), .val (.int (4 : Int32))]) rfl d_prog_137_method_14_225 rfl ?_
      refine Gl.goto Y198_4 d_prog_137_method_14_228 (by decide) rfl ?_
      refine Gl.iload Y198_4 rfl d_prog_137_method_14_95 rfl ?_
      refine Gl.iload Y198_4 rfl d_prog_137_method_14_97 rfl ?_
      refine Gl.icmpge Y198_4 d_prog_137_method_14_99 (by decide) rfl rfl (fun c99_5 => ?_) (fun c99_5 => ?_)
      rotate_left
      · exact absurd c99_5 (by decide)
      refine Gl.iload Y198_4 rfl d_prog_137_method_14_231 rfl ?_
      refine Gl.ifeq Y198_4 d_prog_137_method_14_233 (by decide) rfl rfl (fun c233 => ?_) (fun c233 => ?_)
      · exact absurd c233 (by decide)
      refine Gl.lload Y198_4 rfl d_prog_137_method_14_236 rfl ?_
      refine Gl.lload Y198_4 rfl d_prog_137_method_14_238 rfl ?_
      obtain ⟨v240, hv240⟩ : ∃ z : Int64, x3 ^^^ v154_4 = z := ⟨_, rfl⟩
      refine Gl.lxor Y198_4 hv240 d_prog_137_method_14_240 rfl ?_
      refine Gl.lload Y198_4 rfl d_prog_137_method_14_241 rfl ?_
      refine Gl.lload Y198_4 rfl d_prog_137_method_14_243 rfl ?_
      obtain ⟨v245, hv245⟩ : ∃ z : Int64, v144_4 ^^^ v154_4 = z := ⟨_, rfl⟩
      refine Gl.lxor Y198_4 hv245 d_prog_137_method_14_245 rfl ?_
      obtain ⟨v246, hv246⟩ : ∃ z : Int64, v240 &&& v245 = z := ⟨_, rfl⟩
      refine Gl.land Y198_4 hv246 d_prog_137_method_14_246 rfl ?_
      refine Gl.lconst Y198_4 (v := (0 : Int64)) (by decide) d_prog_137_method_14_247 rfl ?_
      refine Gl.lcmplt Y198_4 d_prog_137_method_14_248 rfl d_prog_137_method_14_249 (by decide) rfl rfl (fun c249 => ?_) (fun c249 => ?_)
      · refine Gl.aloadN Y198_4 rfl rfl d_prog_137_method_14_256 rfl ?_
        have f7 : Exa Z h198_4 o "com/example/meterwise/meterwise/model/WholeNumber" := (Exa.wr W198_4 (Exa.wr W198_3 (Exa.wr W198_2 (Exa.wr W198 E_o))))
        have f8 : Fld Z h198_4 o "com/example/meterwise/meterwise/model/WholeNumber" "words" "[J" (.ref wo) := (Fld.other W198_4 f5 (Or.inl nn_o))
        refine Gl.callV Y198_4 (tw_59 hw) (tw_29 hw) (tw_31 hw) (tw_31 hw) (tw_30 hw) (tw_2 hw) (tw_32 hw) (by decide) f7 (rm65 l Z a0 hw [] o wo ko v154 v154_2 v154_3 v154_4 h198_4 n0 Y198_4.sz f7 f8 A198_4 g_o nn_o) (a := o) (argsL := []) (rest := []) rfl rfl (lenOf pd_5 rfl) rfl (by decide) (Nat.le_of_ble_eq_true rfl) (by decide) (by decide) d_prog_137_method_14_257 rfl (fun v257 T257 h257 Y257 q257 => ?_)
        obtain ⟨rfl, K257, f257_0⟩ := q257
        have KK257 : Keep h0 h257 [wo] := K198_4.trans K257 (allS (Or.inl (List.mem_of_getElem? (i := 0) rfl)) all0)
        show Gl p e below _ (T257.setTop (mkF m 260 #[.val (.ref o), .val (.ref u), .val (.int (0 : Int32)), .val (.ref wu), .val (.int (4 : Int32)), .val (.long v42), .second, .val (.long v53), .second, .val (.long (0 : Int64)), .second, .val (.long v177_4), .second, .val (.long x3), .second, .val (.long v144_4), .second, .val (.long v154_4), .second, .val (.int (1 : Int32)), .val (.int (4 : Int32))] [(.ref o)]))
        exact Gl.retA Y257 (by decide) (by decide) rfl rfl d_prog_137_method_14_260 ⟨(0 : Int64), (0 : Int64), (0 : Int64), (-9223372036854775808 : Int64), rfl, KK257, f257_0⟩
      · refine Gl.aloadN Y198_4 rfl rfl d_prog_137_method_14_252 rfl ?_
        refine Gl.goto Y198_4 d_prog_137_method_14_253 (by decide) rfl ?_
        exact Gl.retA Y198_4 (by decide) (by decide) rfl rfl d_prog_137_method_14_260 ⟨v154, v154_2, v154_3, v154_4, rfl, K198_4, A198_4⟩
    · refine Gl.aloadN Y8 rfl rfl d_prog_137_method_14_14 rfl ?_
      refine Gl.callV Y8 (tw_59 hw) (tw_29 hw) (tw_31 hw) (tw_31 hw) (tw_30 hw) (tw_2 hw) (tw_32 hw) (by decide) E_o (rm65 l Z a0 hw [] o wo ko x0 x1 x2 x3 h0 n0 Y8.sz E_o F_o V_o g_o nn_o) (a := o) (argsL := []) (rest := []) rfl rfl (lenOf pd_5 rfl) rfl (by decide) (Nat.le_of_ble_eq_true rfl) (by decide) (by decide) d_prog_137_method_14_15 rfl (fun v15 T15 h15 Y15 q15 => ?_)
      obtain ⟨rfl, K15, f15_0⟩ := q15
      have KK15 : Keep h0 h15 [wo] := (Keep.refl h0 [wo]).trans K15 (allS (Or.inl (List.mem_of_getElem? (i := 0) rfl)) all0)
      show Gl p e below _ (T15.setTop (mkF m 18 #[.val (.ref o), .val (.ref u), .val (.int (0 : Int32)), .unset, .unset, .unset, .unset, .unset, .unset, .unset, .unset, .unset, .unset, .unset, .unset, .unset, .unset, .unset, .unset, .unset, .unset] [(.ref o)]))
      exact Gl.retA Y15 (by decide) (by decide) rfl rfl d_prog_137_method_14_18 ⟨(0 : Int64), (0 : Int64), (0 : Int64), (-9223372036854775808 : Int64), rfl, KK15, f15_0⟩
def R73 : Room := { frames := 3, cells := 0, slots := 0, locals := 60 }
def Q73 (Z : State) (o : Addr) (wo : Addr) (ko : ClassId) (x0 : Int64) (x1 : Int64) (x2 : Int64) (x3 : Int64) (u : Addr) (wu : Addr) (ku : ClassId) (y0 : Int64) (y1 : Int64) (y2 : Int64) (y3 : Int64) (h0 : Heap) (v : Option Value) (h : Heap) : Prop := ∃ e0 : Int64, ∃ e1 : Int64, ∃ e2 : Int64, ∃ e3 : Int64, v = some (.ref o) ∧ Keep h0 h [wo] ∧ Arv Z h wo ko .long (4 : Int32) [(.long e0), (.long e1), (.long e2), (.long e3)] (.long (0 : Int64))
theorem ef73 (o : Addr) (u : Addr) (m : MethodId) : entryFrame m #[(.ref o), (.ref u)] 2 = mkF m 0 #[.val (.ref o), .val (.ref u)] [] := by first | (simp [entryFrame, mkF, argsToLocals, Value.category]; done) | rfl
set_option maxRecDepth 65536 in
set_option maxHeartbeats 40000000 in
theorem rm73 (l : Launch) (Z : State) (a0 : Array Value) (hw : ∀ d ∈ tables_1, d.before a0 Z = true) (ws : List Jvm.Cond) (o : Addr) (wo : Addr) (ko : ClassId) (x0 : Int64) (x1 : Int64) (x2 : Int64) (x3 : Int64) (u : Addr) (wu : Addr) (ku : ClassId) (y0 : Int64) (y1 : Int64) (y2 : Int64) (y3 : Int64) (h0 : Heap) (n0 : Nat) (Z0 : n0 ≤ h0.size) (E_o : Exa Z h0 o "com/example/meterwise/meterwise/model/WholeNumber") (F_o : Fld Z h0 o "com/example/meterwise/meterwise/model/WholeNumber" "words" "[J" (.ref wo)) (V_o : Arv Z h0 wo ko .long (4 : Int32) [(.long x0), (.long x1), (.long x2), (.long x3)] (.long (0 : Int64))) (g_o : n0 ≤ wo) (nn_o : o ≠ wo) (E_u : Exa Z h0 u "com/example/meterwise/meterwise/model/WholeNumber") (F_u : Fld Z h0 u "com/example/meterwise/meterwise/model/WholeNumber" "words" "[J" (.ref wu)) (V_u : Arv Z h0 wu ku .long (4 : Int32) [(.long y0), (.long y1), (.long y2), (.long y3)] (.long (0 : Int64))) (nw : wo ≠ wu) (np : u ≠ wo) : OMet l Z ws (⟨"com/example/meterwise/meterwise/model/WholeNumber", "add", "(Lcom/example/meterwise/meterwise/model/WholeNumber;)Lcom/example/meterwise/meterwise/model/WholeNumber;"⟩ : MethodName) prog_137_method_12_code 2 (some (.object "com/example/meterwise/meterwise/model/WholeNumber")) R73 #[(.ref o), (.ref u)] h0 n0 (Q73 Z o wo ko x0 x1 x2 x3 u wu ku y0 y1 y2 y3 h0) := by
  refine OMet.of (plainFor_of_name pn_0) (ef73 o u) Z0 ?_
  intro p e s m below meth c T0 Y0 hnm
  have Y0 : Sd Z "com/example/meterwise/meterwise/model/WholeNumber" prog_137_method_12_code 2 (some (.object "com/example/meterwise/meterwise/model/WholeNumber")) n0 p l e R73 s m #[(.ref o), (.ref u)] below meth c T0 h0 0 0 := Y0
  refine Gl.aloadN Y0 rfl rfl d_prog_137_method_12_0 rfl ?_
  refine Gl.aloadN Y0 rfl rfl d_prog_137_method_12_1 rfl ?_
  refine Gl.iconst Y0 (v := (0 : Int32)) (by decide) d_prog_137_method_12_2 rfl ?_
  refine Gl.callP Y0 (tw_42 hw) (tw_43 hw) (tw_44 hw) (tw_1 hw) (tw_2 hw) (tw_45 hw) (by decide) E_o (rm72 l Z a0 hw [] o wo ko x0 x1 x2 x3 u wu ku y0 y1 y2 y3 h0 n0 Y0.sz E_o F_o V_o g_o nn_o E_u F_u V_u nw np) (a := o) (argsL := [(.ref u), (.int (0 : Int32))]) (rest := []) rfl rfl (lenOf pd_7 rfl) rfl (by decide) (Nat.le_of_ble_eq_true rfl) (by decide) (by decide) d_prog_137_method_12_3 rfl (fun v3 T3 h3 Y3 q3 => ?_)
  obtain ⟨e03, e13, e23, e33, rfl, K3, f3_0⟩ := q3
  have KK3 : Keep h0 h3 [wo] := (Keep.refl h0 [wo]).trans K3 (allS (Or.inl (List.mem_of_getElem? (i := 0) rfl)) all0)
  show Gl p e below _ (T3.setTop (mkF m 6 #[.val (.ref o), .val (.ref u)] [(.ref o)]))
  exact Gl.retA Y3 (by decide) (by decide) rfl rfl d_prog_137_method_12_6 ⟨e03, e13, e23, e33, rfl, KK3, f3_0⟩
def R74 : Room := { frames := 0, cells := 0, slots := 0, locals := 0 }
def Q74 (Z : State) (o : Addr) (wo : Addr) (ko : ClassId) (x0 : Int64) (x1 : Int64) (x2 : Int64) (x3 : Int64) (h0 : Heap) (v : Option Value) (h : Heap) : Prop := v = some (.ref o) ∧ Keep h0 h [wo] ∧ Arv Z h wo ko .long (4 : Int32) [(.long (own_o x0 1)), (.long (own_o x1 (own_k x0 1))), (.long (own_o x2 (own_k x1 (own_k x0 1)))), (.long (own_o x3 (own_k x2 (own_k x1 (own_k x0 1)))))] (.long (0 : Int64))
theorem ef74 (o : Addr) (m : MethodId) : entryFrame m #[(.ref o)] 4 = mkF m 0 #[.val (.ref o), .unset, .unset, .unset] [] := by first | (simp [entryFrame, mkF, argsToLocals, Value.category]; done) | rfl
set_option maxRecDepth 65536 in
set_option maxHeartbeats 40000000 in
theorem rm74 (l : Launch) (Z : State) (a0 : Array Value) (hw : ∀ d ∈ tables_1, d.before a0 Z = true) (ws : List Jvm.Cond) (o : Addr) (wo : Addr) (ko : ClassId) (x0 : Int64) (x1 : Int64) (x2 : Int64) (x3 : Int64) (h0 : Heap) (n0 : Nat) (Z0 : n0 ≤ h0.size) (E_o : Exa Z h0 o "com/example/meterwise/meterwise/model/WholeNumber") (F_o : Fld Z h0 o "com/example/meterwise/meterwise/model/WholeNumber" "words" "[J" (.ref wo)) (V_o : Arv Z h0 wo ko .long (4 : Int32) [(.long x0), (.long x1), (.long x2), (.long x3)] (.long (0 : Int64))) (g_o : n0 ≤ wo) (nn_o : o ≠ wo) : OMet l Z ws (⟨"com/example/meterwise/meterwise/model/WholeNumber", "negate", "()Lcom/example/meterwise/meterwise/model/WholeNumber;"⟩ : MethodName) prog_137_method_19_code 4 (some (.object "com/example/meterwise/meterwise/model/WholeNumber")) R74 #[(.ref o)] h0 n0 (Q74 Z o wo ko x0 x1 x2 x3 h0) := by
  refine OMet.of (plainFor_of_name pn_0) (ef74 o) Z0 ?_
  intro p e s m below meth c T0 Y0 hnm
  have Y0 : Sd Z "com/example/meterwise/meterwise/model/WholeNumber" prog_137_method_19_code 4 (some (.object "com/example/meterwise/meterwise/model/WholeNumber")) n0 p l e R74 s m #[(.ref o)] below meth c T0 h0 0 0 := Y0
  refine Gl.lconst Y0 (v := (1 : Int64)) (by decide) d_prog_137_method_19_0 rfl ?_
  refine Gl.lstoreN Y0 (L' := #[.val (.ref o), .val (.long (1 : Int64)), .second, .unset]) rfl d_prog_137_method_19_1 rfl ?_
  refine Gl.iconst Y0 (v := (0 : Int32)) (by decide) d_prog_137_method_19_2 rfl ?_
  refine Gl.istoreN Y0 (L' := #[.val (.ref o), .val (.long (1 : Int64)), .second, .val (.int (0 : Int32))]) rfl d_prog_137_method_19_3 rfl ?_
  refine Gl.iloadN Y0 rfl d_prog_137_method_19_4 rfl ?_
  refine Gl.aloadN Y0 rfl rfl d_prog_137_method_19_5 rfl ?_
  refine Gl.getF Y0 (host := "") (Or.inl (tw_14 hw)) Via.refl F_o d_prog_137_method_19_6 rfl (fun T6 Y6 => ?_)
  refine Gl.arraylength Y6 V_o d_prog_137_method_19_9 rfl ?_
  refine Gl.icmpge Y6 d_prog_137_method_19_10 (by decide) rfl rfl (fun c10 => ?_) (fun c10 => ?_)
  · exact absurd c10 (by decide)
  refine Gl.aloadN Y6 rfl rfl d_prog_137_method_19_13 rfl ?_
  refine Gl.getF Y6 (host := "") (Or.inl (tw_14 hw)) Via.refl F_o d_prog_137_method_19_14 rfl (fun T14 Y14 => ?_)
  refine Gl.iloadN Y14 rfl d_prog_137_method_19_17 rfl ?_
  refine Gl.aloadN Y14 rfl rfl d_prog_137_method_19_18 rfl ?_
  refine Gl.getF Y14 (host := "") (Or.inl (tw_14 hw)) Via.refl F_o d_prog_137_method_19_19 rfl (fun T19 Y19 => ?_)
  refine Gl.iloadN Y19 rfl d_prog_137_method_19_22 rfl ?_
  refine Gl.laload Y19 V_o ⟨by decide, by decide⟩ (v := (.long x0)) rfl d_prog_137_method_19_23 rfl ?_
  refine Gl.ldcJ Y19 (tw_65 hw) d_prog_137_method_19_24 rfl ?_
  refine Gl.lxor Y19 rfl d_prog_137_method_19_27 rfl ?_
  refine Gl.lloadN Y19 rfl d_prog_137_method_19_28 rfl ?_
  refine Gl.ladd Y19 rfl d_prog_137_method_19_29 rfl ?_
  refine Gl.lastore Y19 V_o (v := (.long ((x0 ^^^ (-1 : Int64)) + (1 : Int64)))) rfl ⟨by decide, by decide⟩ (ix := 0) rfl (Nat.le_of_ble_eq_true rfl) g_o d_prog_137_method_19_30 rfl (fun T30 h30 Y30 W30 A30 => ?_)
  have A30 : Arv Z h30 wo ko .long (4 : Int32) [(.long ((x0 ^^^ (-1 : Int64)) + (1 : Int64))), (.long x1), (.long x2), (.long x3)] (.long (0 : Int64)) := A30
  have K30 : Keep h0 h30 [wo] := (Keep.refl h0 [wo]).wr W30 (Or.inl (List.mem_of_getElem? (i := 0) rfl))
  show Gl p e below _ (T30.setTop (mkF m 31 #[.val (.ref o), .val (.long (1 : Int64)), .second, .val (.int (0 : Int32))] []))
  refine Gl.lloadN Y30 rfl d_prog_137_method_19_31 rfl ?_
  refine Gl.aloadN Y30 rfl rfl d_prog_137_method_19_32 rfl ?_
  have f1 : Fld Z h30 o "com/example/meterwise/meterwise/model/WholeNumber" "words" "[J" (.ref wo) := (Fld.other W30 F_o (Or.inl nn_o))
  refine Gl.getF Y30 (host := "") (Or.inl (tw_14 hw)) Via.refl f1 d_prog_137_method_19_33 rfl (fun T33 Y33 => ?_)
  refine Gl.iloadN Y33 rfl d_prog_137_method_19_36 rfl ?_
  refine Gl.laload Y33 A30 ⟨by decide, by decide⟩ (v := (.long ((x0 ^^^ (-1 : Int64)) + (1 : Int64)))) rfl d_prog_137_method_19_37 rfl ?_
  refine Gl.lconst Y33 (v := (0 : Int64)) (by decide) d_prog_137_method_19_38 rfl ?_
  obtain ⟨z39, hz39⟩ : ∃ z : Int64, (if ((x0 ^^^ (-1 : Int64)) + (1 : Int64)) = (0 : Int64) then (1 : Int64) else (0 : Int64)) = z := ⟨_, rfl⟩
  refine own_cut (B := ∀ T', Sd Z "com/example/meterwise/meterwise/model/WholeNumber" prog_137_method_19_code 4 (some (.object "com/example/meterwise/meterwise/model/WholeNumber")) n0 p l e R74 s m #[(.ref o)] below meth c T' h30 0 0 → Gl p e below (Pst s n0 R74.cells R74.slots (Q74 Z o wo ko x0 x1 x2 x3 h0)) (T'.setTop (mkF m 48 #[.val (.ref o), .val (.long (1 : Int64)), .second, .val (.int (0 : Int32))] [(.long z39), (.long (1 : Int64))]))) (fun jk => ?_) (fun T39j Y39j => ?_)
  · refine Gl.lcmpne Y33 d_prog_137_method_19_39 rfl d_prog_137_method_19_40 (by decide) rfl rfl (fun c40 => ?_) (fun c40 => ?_)
    · refine Gl.lconst Y33 (v := (0 : Int64)) (by decide) d_prog_137_method_19_47 rfl ?_
      have ez39 : z39 = (0 : Int64) := by rw [← hz39]; simp only [c40, ↓reduceIte, if_true, if_false]
      rw [ez39] at jk
      exact jk T33 Y33
    · refine Gl.lconst Y33 (v := (1 : Int64)) (by decide) d_prog_137_method_19_43 rfl ?_
      refine Gl.goto Y33 d_prog_137_method_19_44 (by decide) rfl ?_
      have ez39 : z39 = (1 : Int64) := by rw [← hz39]; simp only [c40, ↓reduceIte, if_true, if_false]
      rw [ez39] at jk
      exact jk T33 Y33
  refine Gl.land Y39j rfl d_prog_137_method_19_48 rfl ?_
  refine Gl.lstoreN Y39j (L' := #[.val (.ref o), .val (.long ((1 : Int64) &&& z39)), .second, .val (.int (0 : Int32))]) rfl d_prog_137_method_19_49 rfl ?_
  refine Gl.iinc Y39j rfl (r := (1 : Int32)) (by decide) (L' := #[.val (.ref o), .val (.long ((1 : Int64) &&& z39)), .second, .val (.int (1 : Int32))]) rfl d_prog_137_method_19_50 rfl ?_
  refine Gl.goto Y39j d_prog_137_method_19_53 (by decide) rfl ?_
  refine Gl.iloadN Y39j rfl d_prog_137_method_19_4 rfl ?_
  refine Gl.aloadN Y39j rfl rfl d_prog_137_method_19_5 rfl ?_
  refine Gl.getF Y39j (host := "") (Or.inl (tw_14 hw)) Via.refl f1 d_prog_137_method_19_6 rfl (fun T6_2 Y6_2 => ?_)
  refine Gl.arraylength Y6_2 A30 d_prog_137_method_19_9 rfl ?_
  refine Gl.icmpge Y6_2 d_prog_137_method_19_10 (by decide) rfl rfl (fun c10_2 => ?_) (fun c10_2 => ?_)
  · exact absurd c10_2 (by decide)
  refine Gl.aloadN Y6_2 rfl rfl d_prog_137_method_19_13 rfl ?_
  refine Gl.getF Y6_2 (host := "") (Or.inl (tw_14 hw)) Via.refl f1 d_prog_137_method_19_14 rfl (fun T14_2 Y14_2 => ?_)
  refine Gl.iloadN Y14_2 rfl d_prog_137_method_19_17 rfl ?_
  refine Gl.aloadN Y14_2 rfl rfl d_prog_137_method_19_18 rfl ?_
  refine Gl.getF Y14_2 (host := "") (Or.inl (tw_14 hw)) Via.refl f1 d_prog_137_method_19_19 rfl (fun T19_2 Y19_2 => ?_)
  refine Gl.iloadN Y19_2 rfl d_prog_137_method_19_22 rfl ?_
  refine Gl.laload Y19_2 A30 ⟨by decide, by decide⟩ (v := (.long x1)) rfl d_prog_137_method_19_23 rfl ?_
  refine Gl.ldcJ Y19_2 (tw_65 hw) d_prog_137_method_19_24 rfl ?_
  refine Gl.lxor Y19_2 rfl d_prog_137_method_19_27 rfl ?_
  refine Gl.lloadN Y19_2 rfl d_prog_137_method_19_28 rfl ?_
  refine Gl.ladd Y19_2 rfl d_prog_137_method_19_29 rfl ?_
  refine Gl.lastore Y19_2 A30 (v := (.long ((x1 ^^^ (-1 : Int64)) + ((1 : Int64) &&& z39)))) rfl ⟨by decide, by decide⟩ (ix := 1) rfl (Nat.le_of_ble_eq_true rfl) g_o d_prog_137_method_19_30 rfl (fun T30_2 h30_2 Y30_2 W30_2 A30_2 => ?_)
  have A30_2 : Arv Z h30_2 wo ko .long (4 : Int32) [(.long ((x0 ^^^ (-1 : Int64)) + (1 : Int64))), (.long ((x1 ^^^ (-1 : Int64)) + ((1 : Int64) &&& z39))), (.long x2), (.long x3)] (.long (0 : Int64)) := A30_2
  have K30_2 : Keep h0 h30_2 [wo] := K30.wr W30_2 (Or.inl (List.mem_of_getElem? (i := 0) rfl))
  show Gl p e below _ (T30_2.setTop (mkF m 31 #[.val (.ref o), .val (.long ((1 : Int64) &&& z39)), .second, .val (.int (1 : Int32))] []))
  refine Gl.lloadN Y30_2 rfl d_prog_137_method_19_31 rfl ?_
  refine Gl.aloadN Y30_2 rfl rfl d_prog_137_method_19_32 rfl ?_
  have f2 : Fld Z h30_2 o "com/example/meterwise/meterwise/model/WholeNumber" "words" "[J" (.ref wo) := (Fld.other W30_2 f1 (Or.inl nn_o))
  refine Gl.getF Y30_2 (host := "") (Or.inl (tw_14 hw)) Via.refl f2 d_prog_137_method_19_33 rfl (fun T33_2 Y33_2 => ?_)
  refine Gl.iloadN Y33_2 rfl d_prog_137_method_19_36 rfl ?_
  refine Gl.laload Y33_2 A30_2 ⟨by decide, by decide⟩ (v := (.long ((x1 ^^^ (-1 : Int64)) + ((1 : Int64) &&& z39)))) rfl d_prog_137_method_19_37 rfl ?_
  refine Gl.lconst Y33_2 (v := (0 : Int64)) (by decide) d_prog_137_method_19_38 rfl ?_
  obtain ⟨z39_2, hz39_2⟩ : ∃ z : Int64, (if ((x1 ^^^ (-1 : Int64)) + ((1 : Int64) &&& z39)) = (0 : Int64) then (1 : Int64) else (0 : Int64)) = z := ⟨_, rfl⟩
  refine own_cut (B := ∀ T', Sd Z "com/example/meterwise/meterwise/model/WholeNumber" prog_137_method_19_code 4 (some (.object "com/example/meterwise/meterwise/model/WholeNumber")) n0 p l e R74 s m #[(.ref o)] below meth c T' h30_2 0 0 → Gl p e below (Pst s n0 R74.cells R74.slots (Q74 Z o wo ko x0 x1 x2 x3 h0)) (T'.setTop (mkF m 48 #[.val (.ref o), .val (.long ((1 : Int64) &&& z39)), .second, .val (.int (1 : Int32))] [(.long z39_2), (.long ((1 : Int64) &&& z39))]))) (fun jk => ?_) (fun T39j_2 Y39j_2 => ?_)
  · refine Gl.lcmpne Y33_2 d_prog_137_method_19_39 rfl d_prog_137_method_19_40 (by decide) rfl rfl (fun c40 => ?_) (fun c40 => ?_)
    · refine Gl.lconst Y33_2 (v := (0 : Int64)) (by decide) d_prog_137_method_19_47 rfl ?_
      have ez39_2 : z39_2 = (0 : Int64) := by rw [← hz39_2]; simp only [c40, ↓reduceIte, if_true, if_false]
      rw [ez39_2] at jk
      exact jk T33_2 Y33_2
    · refine Gl.lconst Y33_2 (v := (1 : Int64)) (by decide) d_prog_137_method_19_43 rfl ?_
      refine Gl.goto Y33_2 d_prog_137_method_19_44 (by decide) rfl ?_
      have ez39_2 : z39_2 = (1 : Int64) := by rw [← hz39_2]; simp only [c40, ↓reduceIte, if_true, if_false]
      rw [ez39_2] at jk
      exact jk T33_2 Y33_2
  refine Gl.land Y39j_2 rfl d_prog_137_method_19_48 rfl ?_
  refine Gl.lstoreN Y39j_2 (L' := #[.val (.ref o), .val (.long (((1 : Int64) &&& z39) &&& z39_2)), .second, .val (.int (1 : Int32))]) rfl d_prog_137_method_19_49 rfl ?_
  refine Gl.iinc Y39j_2 rfl (r := (2 : Int32)) (by decide) (L' := #[.val (.ref o), .val (.long (((1 : Int64) &&& z39) &&& z39_2)), .second, .val (.int (2 : Int32))]) rfl d_prog_137_method_19_50 rfl ?_
  refine Gl.goto Y39j_2 d_prog_137_method_19_53 (by decide) rfl ?_
  refine Gl.iloadN Y39j_2 rfl d_prog_137_method_19_4 rfl ?_
  refine Gl.aloadN Y39j_2 rfl rfl d_prog_137_method_19_5 rfl ?_
  refine Gl.getF Y39j_2 (host := "") (Or.inl (tw_14 hw)) Via.refl f2 d_prog_137_method_19_6 rfl (fun T6_3 Y6_3 => ?_)
  refine Gl.arraylength Y6_3 A30_2 d_prog_137_method_19_9 rfl ?_
  refine Gl.icmpge Y6_3 d_prog_137_method_19_10 (by decide) rfl rfl (fun c10_3 => ?_) (fun c10_3 => ?_)
  · exact absurd c10_3 (by decide)
  refine Gl.aloadN Y6_3 rfl rfl d_prog_137_method_19_13 rfl ?_
  refine Gl.getF Y6_3 (host := "") (Or.inl (tw_14 hw)) Via.refl f2 d_prog_137_method_19_14 rfl (fun T14_3 Y14_3 => ?_)
  refine Gl.iloadN Y14_3 rfl d_prog_137_method_19_17 rfl ?_
  refine Gl.aloadN Y14_3 rfl rfl d_prog_137_method_19_18 rfl ?_
  refine Gl.getF Y14_3 (host := "") (Or.inl (tw_14 hw)) Via.refl f2 d_prog_137_method_19_19 rfl (fun T19_3 Y19_3 => ?_)
  refine Gl.iloadN Y19_3 rfl d_prog_137_method_19_22 rfl ?_
  refine Gl.laload Y19_3 A30_2 ⟨by decide, by decide⟩ (v := (.long x2)) rfl d_prog_137_method_19_23 rfl ?_
  refine Gl.ldcJ Y19_3 (tw_65 hw) d_prog_137_method_19_24 rfl ?_
  refine Gl.lxor Y19_3 rfl d_prog_137_method_19_27 rfl ?_
  refine Gl.lloadN Y19_3 rfl d_prog_137_method_19_28 rfl ?_
  refine Gl.ladd Y19_3 rfl d_prog_137_method_19_29 rfl ?_
  refine Gl.lastore Y19_3 A30_2 (v := (.long ((x2 ^^^ (-1 : Int64)) + (((1 : Int64) &&& z39) &&& z39_2)))) rfl ⟨by decide, by decide⟩ (ix := 2) rfl (Nat.le_of_ble_eq_true rfl) g_o d_prog_137_method_19_30 rfl (fun T30_3 h30_3 Y30_3 W30_3 A30_3 => ?_)
  have A30_3 : Arv Z h30_3 wo ko .long (4 : Int32) [(.long ((x0 ^^^ (-1 : Int64)) + (1 : Int64))), (.long ((x1 ^^^ (-1 : Int64)) + ((1 : Int64) &&& z39))), (.long ((x2 ^^^ (-1 : Int64)) + (((1 : Int64) &&& z39) &&& z39_2))), (.long x3)] (.long (0 : Int64)) := A30_3
  have K30_3 : Keep h0 h30_3 [wo] := K30_2.wr W30_3 (Or.inl (List.mem_of_getElem? (i := 0) rfl))
  show Gl p e below _ (T30_3.setTop (mkF m 31 #[.val (.ref o), .val (.long (((1 : Int64) &&& z39) &&& z39_2)), .second, .val (.int (2 : Int32))] []))
  refine Gl.lloadN Y30_3 rfl d_prog_137_method_19_31 rfl ?_
  refine Gl.aloadN Y30_3 rfl rfl d_prog_137_method_19_32 rfl ?_
  have f3 : Fld Z h30_3 o "com/example/meterwise/meterwise/model/WholeNumber" "words" "[J" (.ref wo) := (Fld.other W30_3 f2 (Or.inl nn_o))
  refine Gl.getF Y30_3 (host := "") (Or.inl (tw_14 hw)) Via.refl f3 d_prog_137_method_19_33 rfl (fun T33_3 Y33_3 => ?_)
  refine Gl.iloadN Y33_3 rfl d_prog_137_method_19_36 rfl ?_
  refine Gl.laload Y33_3 A30_3 ⟨by decide, by decide⟩ (v := (.long ((x2 ^^^ (-1 : Int64)) + (((1 : Int64) &&& z39) &&& z39_2)))) rfl d_prog_137_method_19_37 rfl ?_
  refine Gl.lconst Y33_3 (v := (0 : Int64)) (by decide) d_prog_137_method_19_38 rfl ?_
  obtain ⟨z39_3, hz39_3⟩ : ∃ z : Int64, (if ((x2 ^^^ (-1 : Int64)) + (((1 : Int64) &&& z39) &&& z39_2)) = (0 : Int64) then (1 : Int64) else (0 : Int64)) = z := ⟨_, rfl⟩
  refine own_cut (B := ∀ T', Sd Z "com/example/meterwise/meterwise/model/WholeNumber" prog_137_method_19_code 4 (some (.object "com/example/meterwise/meterwise/model/WholeNumber")) n0 p l e R74 s m #[(.ref o)] below meth c T' h30_3 0 0 → Gl p e below (Pst s n0 R74.cells R74.slots (Q74 Z o wo ko x0 x1 x2 x3 h0)) (T'.setTop (mkF m 48 #[.val (.ref o), .val (.long (((1 : Int64) &&& z39) &&& z39_2)), .second, .val (.int (2 : Int32))] [(.long z39_3), (.long (((1 : Int64) &&& z39) &&& z39_2))]))) (fun jk => ?_) (fun T39j_3 Y39j_3 => ?_)
  · refine Gl.lcmpne Y33_3 d_prog_137_method_19_39 rfl d_prog_137_method_19_40 (by decide) rfl rfl (fun c40 => ?_) (fun c40 => ?_)
    · refine Gl.lconst Y33_3 (v := (0 : Int64)) (by decide) d_prog_137_method_19_47 rfl ?_
      have ez39_3 : z39_3 = (0 : Int64) := by rw [← hz39_3]; simp only [c40, ↓reduceIte, if_true, if_false]
      rw [ez39_3] at jk
      exact jk T33_3 Y33_3
    · refine Gl.lconst Y33_3 (v := (1 : Int64)) (by decide) d_prog_137_method_19_43 rfl ?_
      refine Gl.goto Y33_3 d_prog_137_method_19_44 (by decide) rfl ?_
      have ez39_3 : z39_3 = (1 : Int64) := by rw [← hz39_3]; simp only [c40, ↓reduceIte, if_true, if_false]
      rw [ez39_3] at jk
      exact jk T33_3 Y33_3
  refine Gl.land Y39j_3 rfl d_prog_137_method_19_48 rfl ?_
  refine Gl.lstoreN Y39j_3 (L' := #[.val (.ref o), .val (.long ((((1 : Int64) &&& z39) &&& z39_2) &&& z39_3)), .second, .val (.int (2 : Int32))]) rfl d_prog_137_method_19_49 rfl ?_
  refine Gl.iinc Y39j_3 rfl (r := (3 : Int32)) (by decide) (L' := #[.val (.ref o), .val (.long ((((1 : Int64) &&& z39) &&& z39_2) &&& z39_3)), .second, .val (.int (3 : Int32))]) rfl d_prog_137_method_19_50 rfl ?_
  refine Gl.goto Y39j_3 d_prog_137_method_19_53 (by decide) rfl ?_
  refine Gl.iloadN Y39j_3 rfl d_prog_137_method_19_4 rfl ?_
  refine Gl.aloadN Y39j_3 rfl rfl d_prog_137_method_19_5 rfl ?_
  refine Gl.getF Y39j_3 (host := "") (Or.inl (tw_14 hw)) Via.refl f3 d_prog_137_method_19_6 rfl (fun T6_4 Y6_4 => ?_)
  refine Gl.arraylength Y6_4 A30_3 d_prog_137_method_19_9 rfl ?_
  refine Gl.icmpge Y6_4 d_prog_137_method_19_10 (by decide) rfl rfl (fun c10_4 => ?_) (fun c10_4 => ?_)
  · exact absurd c10_4 (by decide)
  refine Gl.aloadN Y6_4 rfl rfl d_prog_137_method_19_13 rfl ?_
  refine Gl.getF Y6_4 (host := "") (Or.inl (tw_14 hw)) Via.refl f3 d_prog_137_method_19_14 rfl (fun T14_4 Y14_4 => ?_)
  refine Gl.iloadN Y14_4 rfl d_prog_137_method_19_17 rfl ?_
  refine Gl.aloadN Y14_4 rfl rfl d_prog_137_method_19_18 rfl ?_
  refine Gl.getF Y14_4 (host := "") (Or.inl (tw_14 hw)) Via.refl f3 d_prog_137_method_19_19 rfl (fun T19_4 Y19_4 => ?_)
  refine Gl.iloadN Y19_4 rfl d_prog_137_method_19_22 rfl ?_
  refine Gl.laload Y19_4 A30_3 ⟨by decide, by decide⟩ (v := (.long x3)) rfl d_prog_137_method_19_23 rfl ?_
  refine Gl.ldcJ Y19_4 (tw_65 hw) d_prog_137_method_19_24 rfl ?_
  refine Gl.lxor Y19_4 rfl d_prog_137_method_19_27 rfl ?_
  refine Gl.lloadN Y19_4 rfl d_prog_137_method_19_28 rfl ?_
  refine Gl.ladd Y19_4 rfl d_prog_137_method_19_29 rfl ?_
  refine Gl.lastore Y19_4 A30_3 (v := (.long ((x3 ^^^ (-1 : Int64)) + ((((1 : Int64) &&& z39) &&& z39_2) &&& z39_3)))) rfl ⟨by decide, by decide⟩ (ix := 3) rfl (Nat.le_of_ble_eq_true rfl) g_o d_prog_137_method_19_30 rfl (fun T30_4 h30_4 Y30_4 W30_4 A30_4 => ?_)
  have A30_4 : Arv Z h30_4 wo ko .long (4 : Int32) [(.long ((x0 ^^^ (-1 : Int64)) + (1 : Int64))), (.long ((x1 ^^^ (-1 : Int64)) + ((1 : Int64) &&& z39))), (.long ((x2 ^^^ (-1 : Int64)) + (((1 : Int64) &&& z39) &&& z39_2))), (.long ((x3 ^^^ (-1 : Int64)) + ((((1 : Int64) &&& z39) &&& z39_2) &&& z39_3)))] (.long (0 : Int64)) := A30_4
  have K30_4 : Keep h0 h30_4 [wo] := K30_3.wr W30_4 (Or.inl (List.mem_of_getElem? (i := 0) rfl))
  show Gl p e below _ (T30_4.setTop (mkF m 31 #[.val (.ref o), .val (.long ((((1 : Int64) &&& z39) &&& z39_2) &&& z39_3)), .second, .val (.int (3 : Int32))] []))
  refine Gl.lloadN Y30_4 rfl d_prog_137_method_19_31 rfl ?_
  refine Gl.aloadN Y30_4 rfl rfl d_prog_137_method_19_32 rfl ?_
  have f4 : Fld Z h30_4 o "com/example/meterwise/meterwise/model/WholeNumber" "words" "[J" (.ref wo) := (Fld.other W30_4 f3 (Or.inl nn_o))
  refine Gl.getF Y30_4 (host := "") (Or.inl (tw_14 hw)) Via.refl f4 d_prog_137_method_19_33 rfl (fun T33_4 Y33_4 => ?_)
  refine Gl.iloadN Y33_4 rfl d_prog_137_method_19_36 rfl ?_
  refine Gl.laload Y33_4 A30_4 ⟨by decide, by decide⟩ (v := (.long ((x3 ^^^ (-1 : Int64)) + ((((1 : Int64) &&& z39) &&& z39_2) &&& z39_3)))) rfl d_prog_137_method_19_37 rfl ?_
  refine Gl.lconst Y33_4 (v := (0 : Int64)) (by decide) d_prog_137_method_19_38 rfl ?_
  obtain ⟨z39_4, hz39_4⟩ : ∃ z : Int64, (if ((x3 ^^^ (-1 : Int64)) + ((((1 : Int64) &&& z39) &&& z39_2) &&& z39_3)) = (0 : Int64) then (1 : Int64) else (0 : Int64)) = z := ⟨_, rfl⟩
  refine own_cut (B := ∀ T', Sd Z "com/example/meterwise/meterwise/model/WholeNumber" prog_137_method_19_code 4 (some (.object "com/example/meterwise/meterwise/model/WholeNumber")) n0 p l e R74 s m #[(.ref o)] below meth c T' h30_4 0 0 → Gl p e below (Pst s n0 R74.cells R74.slots (Q74 Z o wo ko x0 x1 x2 x3 h0)) (T'.setTop (mkF m 48 #[.val (.ref o), .val (.long ((((1 : Int64) &&& z39) &&& z39_2) &&& z39_3)), .second, .val (.int (3 : Int32))] [(.long z39_4), (.long ((((1 : Int64) &&& z39) &&& z39_2) &&& z39_3))]))) (fun jk => ?_) (fun T39j_4 Y39j_4 => ?_)
  · refine Gl.lcmpne Y33_4 d_prog_137_method_19_39 rfl d_prog_137_method_19_40 (by decide) rfl rfl (fun c40 => ?_) (fun c40 => ?_)
    · refine Gl.lconst Y33_4 (v := (0 : Int64)) (by decide) d_prog_137_method_19_47 rfl ?_
      have ez39_4 : z39_4 = (0 : Int64) := by rw [← hz39_4]; simp only [c40, ↓reduceIte, if_true, if_false]
      rw [ez39_4] at jk
      exact jk T33_4 Y33_4
    · refine Gl.lconst Y33_4 (v := (1 : Int64)) (by decide) d_prog_137_method_19_43 rfl ?_
      refine Gl.goto Y33_4 d_prog_137_method_19_44 (by decide) rfl ?_
      have ez39_4 : z39_4 = (1 : Int64) := by rw [← hz39_4]; simp only [c40, ↓reduceIte, if_true, if_false]
      rw [ez39_4] at jk
      exact jk T33_4 Y33_4
  refine Gl.land Y39j_4 rfl d_prog_137_method_19_48 rfl ?_
  refine Gl.lstoreN Y39j_4 (L' := #[.val (.ref o), .val (.long (((((1 : Int64) &&& z39) &&& z39_2) &&& z39_3) &&& z39_4)), .second, .val (.int (3 : Int32))]) rfl d_prog_137_method_19_49 rfl ?_
  refine Gl.iinc Y39j_4 rfl (r := (4 : Int32)) (by decide) (L' := #[.val (.ref o), .val (.long (((((1 : Int64) &&& z39) &&& z39_2) &&& z39_3) &&& z39_4)), .second, .val (.int (4 : Int32))]) rfl d_prog_137_method_19_50 rfl ?_
  refine Gl.goto Y39j_4 d_prog_137_method_19_53 (by decide) rfl ?_
  refine Gl.iloadN Y39j_4 rfl d_prog_137_method_19_4 rfl ?_
  refine Gl.aloadN Y39j_4 rfl rfl d_prog_137_method_19_5 rfl ?_
  refine Gl.getF Y39j_4 (host := "") (Or.inl (tw_14 hw)) Via.refl f4 d_prog_137_method_19_6 rfl (fun T6_5 Y6_5 => ?_)
  refine Gl.arraylength Y6_5 A30_4 d_prog_137_method_19_9 rfl ?_
  refine Gl.icmpge Y6_5 d_prog_137_method_19_10 (by decide) rfl rfl (fun c10_5 => ?_) (fun c10_5 => ?_)
  rotate_left
  · exact absurd c10_5 (by decide)
  refine Gl.aloadN Y6_5 rfl rfl d_prog_137_method_19_56 rfl ?_
  subst hz39 hz39_2 hz39_3 hz39_4
  exact Gl.retA Y6_5 (by decide) (by decide) rfl rfl d_prog_137_method_19_57 ⟨rfl, K30_4, A30_4⟩
def R75 : Room := { frames := 2, cells := 0, slots := 0, locals := 28 }
def Q75 (Z : State) (o : Addr) (wo : Addr) (ko : ClassId) (u : Addr) (wu : Addr) (ku : ClassId) (x0 : Int64) (x1 : Int64) (x2 : Int64) (x3 : Int64) (h0 : Heap) (v : Option Value) (h : Heap) : Prop := v = some (.ref o) ∧ Keep h0 h [wo] ∧ Arv Z h wo ko .long (4 : Int32) [(.long (own_o x0 1)), (.long (own_o x1 (own_k x0 1))), (.long (own_o x2 (own_k x1 (own_k x0 1)))), (.long (own_o x3 (own_k x2 (own_k x1 (own_k x0 1)))))] (.long (0 : Int64))
theorem ef75 (o : Addr) (u : Addr) (m : MethodId) : entryFrame m #[(.ref o), (.ref u), (.int (1 : Int32))] 21 = mkF m 0 #[.val (.ref o), .val (.ref u), .val (.int (1 : Int32)), .unset, .unset, .unset, .unset, .unset, .unset, .unset, .unset, .unset, .unset, .unset, .unset, .unset, .unset, .unset, .unset, .unset, .unset] [] := by first | (simp [entryFrame, mkF, argsToLocals, Value.category]; done) | rfl
set_option maxRecDepth 65536 in
set_option maxHeartbeats 40000000 in
theorem rm75 (l : Launch) (Z : State) (a0 : Array Value) (hw : ∀ d ∈ tables_1, d.before a0 Z = true) (ws : List Jvm.Cond) (o : Addr) (wo : Addr) (ko : ClassId) (u : Addr) (wu : Addr) (ku : ClassId) (x0 : Int64) (x1 : Int64) (x2 : Int64) (x3 : Int64) (h0 : Heap) (n0 : Nat) (Z0 : n0 ≤ h0.size) (E_o : Exa Z h0 o "com/example/meterwise/meterwise/model/WholeNumber") (F_o : Fld Z h0 o "com/example/meterwise/meterwise/model/WholeNumber" "words" "[J" (.ref wo)) (V_o : Arv Z h0 wo ko .long (4 : Int32) [(.long (0 : Int64)), (.long (0 : Int64)), (.long (0 : Int64)), (.long (0 : Int64))] (.long (0 : Int64))) (g_o : n0 ≤ wo) (nn_o : o ≠ wo) (E_u : Exa Z h0 u "com/example/meterwise/meterwise/model/WholeNumber") (F_u : Fld Z h0 u "com/example/meterwise/meterwise/model/WholeNumber" "words" "[J" (.ref wu)) (V_u : Arv Z h0 wu ku .long (4 : Int32) [(.long x0), (.long x1), (.long x2), (.long x3)] (.long (0 : Int64))) (nw : wo ≠ wu) (np : u ≠ wo) : OMet l Z ws (⟨"com/example/meterwise/meterwise/model/WholeNumber", "add", "(Lcom/example/meterwise/meterwise/model/WholeNumber;Z)Lcom/example/meterwise/meterwise/model/WholeNumber;"⟩ : MethodName) prog_137_method_14_code 21 (some (.object "com/example/meterwise/meterwise/model/WholeNumber")) R75 #[(.ref o), (.ref u), (.int (1 : Int32))] h0 n0 (Q75 Z o wo ko u wu ku x0 x1 x2 x3 h0) := by
  refine OMet.of (plainFor_of_name pn_0) (ef75 o u) Z0 ?_
  intro p e s m below meth c T0 Y0 hnm
  have Y0 : Sd Z "com/example/meterwise/meterwise/model/WholeNumber" prog_137_method_14_code 21 (some (.object "com/example/meterwise/meterwise/model/WholeNumber")) n0 p l e R75 s m #[(.ref o), (.ref u), (.int (1 : Int32))] below meth c T0 h0 0 0 := Y0
  refine Gl.aloadN Y0 rfl rfl d_prog_137_method_14_0 rfl ?_
  refine Gl.callV Y0 (tw_46 hw) (tw_47 hw) (tw_49 hw) (tw_49 hw) (tw_48 hw) (tw_2 hw) (tw_50 hw) (by decide) E_o (rm71 l Z a0 hw [] o wo ko h0 n0 Y0.sz E_o F_o V_o) (a := o) (argsL := []) (rest := []) rfl rfl (lenOf pd_4 rfl) rfl (by decide) (Nat.le_of_ble_eq_true rfl) (by decide) (by decide) d_prog_137_method_14_1 rfl (fun v1 T1 h1 Y1 q1 => ?_)
  obtain ⟨rfl, rfl⟩ := q1
  show Gl p e below _ (T1.setTop (mkF m 4 #[.val (.ref o), .val (.ref u), .val (.int (1 : Int32)), .unset, .unset, .unset, .unset, .unset, .unset, .unset, .unset, .unset, .unset, .unset, .unset, .unset, .unset, .unset, .unset, .unset, .unset] [(.int (0 : Int32))]))
  refine Gl.ifne Y1 d_prog_137_method_14_4 (by decide) rfl rfl (fun c4 => ?_) (fun c4 => ?_)
  · exact absurd c4 (by decide)
  refine Gl.aloadN Y1 rfl rfl d_prog_137_method_14_7 rfl ?_
  refine Gl.callV Y1 (tw_46 hw) (tw_47 hw) (tw_49 hw) (tw_49 hw) (tw_48 hw) (tw_2 hw) (tw_50 hw) (by decide) E_u (rm68 l Z a0 hw [] u wu ku x0 x1 x2 x3 h0 n0 Y1.sz E_u F_u V_u) (a := u) (argsL := []) (rest := []) rfl rfl (lenOf pd_4 rfl) rfl (by decide) (Nat.le_of_ble_eq_true rfl) (by decide) (by decide) d_prog_137_method_14_8 rfl (fun v8 T8 h8 Y8 q8 => ?_)
  obtain ⟨r8, rfl, p8, rfl⟩ := q8
  have br8 : r8 = 0 ∨ r8 = 1 := by rcases p8 with q | q; exact Or.inr q.2; exact Or.inl q.2
  show Gl p e below _ (T8.setTop (mkF m 11 #[.val (.ref o), .val (.ref u), .val (.int (1 : Int32)), .unset, .unset, .unset, .unset, .unset, .unset, .unset, .unset, .unset, .unset, .unset, .unset, .unset, .unset, .unset, .unset, .unset, .unset] [(.int r8)]))
  refine Gl.ifeq Y8 d_prog_137_method_14_11 (by decide) rfl rfl (fun c11 => ?_) (fun c11 => ?_)
  · refine Gl.aloadN Y8 rfl rfl d_prog_137_method_14_19 rfl ?_
    refine Gl.getF Y8 (host := "") (Or.inl (tw_14 hw)) Via.refl F_u d_prog_137_method_14_20 rfl (fun T20 Y20 => ?_)
    refine Gl.astoreN Y20 rfl (L' := #[.val (.ref o), .val (.ref u), .val (.int (1 : Int32)), .val (.ref wu), .unset, .unset, .unset, .unset, .unset, .unset, .unset, .unset, .unset, .unset, .unset, .unset, .unset, .unset, .unset, .unset, .unset]) rfl d_prog_137_method_14_23 rfl ?_
    refine Gl.aloadN Y20 rfl rfl d_prog_137_method_14_24 rfl ?_
    refine Gl.getF Y20 (host := "") (Or.inl (tw_14 hw)) Via.refl F_o d_prog_137_method_14_25 rfl (fun T25 Y25 => ?_)
    refine Gl.arraylength Y25 V_o d_prog_137_method_14_28 rfl ?_
    refine Gl.aloadN Y25 rfl rfl d_prog_137_method_14_29 rfl ?_
    refine Gl.arraylength Y25 V_u d_prog_137_method_14_30 rfl ?_
    refine Gl.callS Y25 (tw_71 hw) (tw_72 hw) (tw_73 hw) (tw_74 hw) (by decide) (rm69 l Z a0 hw [] h0 n0 Y25.sz) (argsL := [(.int (4 : Int32)), (.int (4 : Int32))]) (rest := []) rfl rfl (lenOf pd_6 rfl) rfl (by decide) (Nat.le_of_ble_eq_true rfl) (by decide) (by decide) d_prog_137_method_14_31 rfl (fun v31 T31 h31 Y31 q31 => ?_)
    obtain ⟨rfl, rfl⟩ := q31
    show Gl p e below _ (T31.setTop (mkF m 34 #[.val (.ref o), .val (.ref u), .val (.int (1 : Int32)), .val (.ref wu), .unset, .unset, .unset, .unset, .unset, .unset, .unset, .unset, .unset, .unset, .unset, .unset, .unset, .unset, .unset, .unset, .unset] [(.int (4 : Int32))]))
    refine Gl.istore Y31 (L' := #[.val (.ref o), .val (.ref u), .val (.int (1 : Int32)), .val (.ref wu), .val (.int (4 : Int32)), .unset, .unset, .unset, .unset, .unset, .unset, .unset, .unset, .unset, .unset, .unset, .unset, .unset, .unset, .unset, .unset]) rfl d_prog_137_method_14_34 rfl ?_
    refine Gl.aloadN Y31 rfl rfl d_prog_137_method_14_36 rfl ?_
    refine Gl.callP Y31 (tw_51 hw) (tw_52 hw) (tw_53 hw) (tw_1 hw) (tw_2 hw) (tw_54 hw) (by decide) E_o (rm70 l Z a0 hw [] o wo ko h0 n0 Y31.sz E_o F_o V_o) (a := o) (argsL := []) (rest := []) rfl rfl (lenOf pd_3 rfl) rfl (by decide) (Nat.le_of_ble_eq_true rfl) (by decide) (by decide) d_prog_137_method_14_37 rfl (fun v37 T37 h37 Y37 q37 => ?_)
    obtain ⟨rfl, rfl⟩ := q37
    show Gl p e below _ (T37.setTop (mkF m 40 #[.val (.ref o), .val (.ref u), .val (.int (1 : Int32)), .val (.ref wu), .val (.int (4 : Int32)), .unset, .unset, .unset, .unset, .unset, .unset, .unset, .unset, .unset, .unset, .unset, .unset, .unset, .unset, .unset, .unset] [(.long (0 : Int64))]))
    refine Gl.bipush Y37 (v := (63 : Int32)) (by decide) d_prog_137_method_14_40 rfl ?_
    refine Gl.lshr Y37 (r := (0 : Int64)) (by decide) d_prog_137_method_14_42 rfl ?_
    refine Gl.lstore Y37 (L' := #[.val (.ref o), .val (.ref u), .val (.int (1 : Int32)), .val (.ref wu), .val (.int (4 : Int32)), .val (.long (0 : Int64)), .second, .unset, .unset, .unset, .unset, .unset, .unset, .unset, .unset, .unset, .unset, .unset, .unset, .unset, .unset]) rfl d_prog_137_method_14_43 rfl ?_
    refine Gl.aloadN Y37 rfl rfl d_prog_137_method_14_45 rfl ?_
    refine Gl.aloadN Y37 rfl rfl d_prog_137_method_14_46 rfl ?_
    refine Gl.arraylength Y37 V_u d_prog_137_method_14_47 rfl ?_
    refine Gl.iconst Y37 (v := (1 : Int32)) (by decide) d_prog_137_method_14_48 rfl ?_
    refine Gl.isub Y37 (r := (3 : Int32)) (by decide) d_prog_137_method_14_49 rfl ?_
    refine Gl.laload Y37 V_u ⟨by decide, by decide⟩ (v := (.long x3)) rfl d_prog_137_method_14_50 rfl ?_
    refine Gl.bipush Y37 (v := (63 : Int32)) (by decide) d_prog_137_method_14_51 rfl ?_
    obtain ⟨v53, hv53⟩ : ∃ z : Int64, (x3 >>> ((63 : Int32) &&& 0x3f).toInt64) = z := ⟨_, rfl⟩
    refine Gl.lshr Y37 hv53 d_prog_137_method_14_53 rfl ?_
    refine Gl.lstore Y37 (L' := #[.val (.ref o), .val (.ref u), .val (.int (1 : Int32)), .val (.ref wu), .val (.int (4 : Int32)), .val (.long (0 : Int64)), .second, .val (.long v53), .second, .unset, .unset, .unset, .unset, .unset, .unset, .unset, .unset, .unset, .unset, .unset, .unset]) rfl d_prog_137_method_14_54 rfl ?_
    refine Gl.iloadN Y37 rfl d_prog_137_method_14_56 rfl ?_
    refine Gl.ifeq Y37 d_prog_137_method_14_57 (by decide) rfl rfl (fun c57 => ?_) (fun c57 => ?_)
    · exact absurd c57 (by decide)
    refine Gl.ldcJ Y37 (tw_65 hw) d_prog_137_method_14_60 rfl ?_
    refine Gl.goto Y37 d_prog_137_method_14_63 (by decide) rfl ?_
    refine Gl.lstore Y37 (L' := #[.val (.ref o), .val (.ref u), .val (.int (1 : Int32)), .val (.ref wu), .val (.int (4 : Int32)), .val (.long (0 : Int64)), .second, .val (.long v53), .second, .val (.long (-1 : Int64)), .second, .unset, .unset, .unset, .unset, .unset, .unset, .unset, .unset, .unset, .unset]) rfl d_prog_137_method_14_67 rfl ?_
    refine Gl.iloadN Y37 rfl d_prog_137_method_14_69 rfl ?_
    refine Gl.ifeq Y37 d_prog_137_method_14_70 (by decide) rfl rfl (fun c70 => ?_) (fun c70 => ?_)
    · exact absurd c70 (by decide)
    refine Gl.lconst Y37 (v := (1 : Int64)) (by decide) d_prog_137_method_14_73 rfl ?_
    refine Gl.goto Y37 d_prog_137_method_14_74 (by decide) rfl ?_
    refine Gl.lstore Y37 (L' := #[.val (.ref o), .val (.ref u), .val (.int (1 : Int32)), .val (.ref wu), .val (.int (4 : Int32)), .val (.long (0 : Int64)), .second, .val (.long v53), .second, .val (.long (-1 : Int64)), .second, .val (.long (1 : Int64)), .second, .unset, .unset, .unset, .unset, .unset, .unset, .unset, .unset]) rfl d_prog_137_method_14_78 rfl ?_
    refine Gl.lconst Y37 (v := (0 : Int64)) (by decide) d_prog_137_method_14_80 rfl ?_
    refine Gl.lstore Y37 (L' := #[.val (.ref o), .val (.ref u), .val (.int (1 : Int32)), .val (.ref wu), .val (.int (4 : Int32)), .val (.long (0 : Int64)), .second, .val (.long v53), .second, .val (.long (-1 : Int64)), .second, .val (.long (1 : Int64)), .second, .val (.long (0 : Int64)), .second, .unset, .unset, .unset, .unset, .unset, .unset]) rfl d_prog_137_method_14_81 rfl ?_
    refine Gl.lconst Y37 (v := (0 : Int64)) (by decide) d_prog_137_method_14_83 rfl ?_
    refine Gl.lstore Y37 (L' := #[.val (.ref o), .val (.ref u), .val (.int (1 : Int32)), .val (.ref wu), .val (.int (4 : Int32)), .val (.long (0 : Int64)), .second, .val (.long v53), .second, .val (.long (-1 : Int64)), .second, .val (.long (1 : Int64)), .second, .val (.long (0 : Int64)), .second, .val (.long (0 : Int64)), .second, .unset, .unset, .unset, .unset]) rfl d_prog_137_method_14_84 rfl ?_
    refine Gl.lconst Y37 (v := (0 : Int64)) (by decide) d_prog_137_method_14_86 rfl ?_
    refine Gl.lstore Y37 (L' := #[.val (.ref o), .val (.ref u), .val (.int (1 : Int32)), .val (.ref wu), .val (.int (4 : Int32)), .val (.long (0 : Int64)), .second, .val (.long v53), .second, .val (.long (-1 : Int64)), .second, .val (.long (1 : Int64)), .second, .val (.long (0 : Int64)), .second, .val (.long (0 : Int64)), .second, .val (.long (0 : Int64)), .second, .unset, .unset]) rfl d_prog_137_method_14_87 rfl ?_
    refine Gl.iconst Y37 (v := (1 : Int32)) (by decide) d_prog_137_method_14_89 rfl ?_
    refine Gl.istore Y37 (L' := #[.val (.ref o), .val (.ref u), .val (.int (1 : Int32)), .val (.ref wu), .val (.int (4 : Int32)), .val (.long (0 : Int64)), .second, .val (.long v53), .second, .val (.long (-1 : Int64)), .second, .val (.long (1 : Int64)), .second, .val (.long (0 : Int64)), .second, .val (.long (0 : Int64)), .second, .val (.long (0 : Int64)), .second, .val (.int (1 : Int32)), .unset]) rfl d_prog_137_method_14_90 rfl ?_
    refine Gl.iconst Y37 (v := (0 : Int32)) (by decide) d_prog_137_method_14_92 rfl ?_
    refine Gl.istore Y37 (L' := #[.val (.ref o), .val (.ref u), .val (.int (1 : Int32)), .val (.ref wu), .val (.int (4 : Int32)), .val (.long (0 : Int64)), .second, .val (.long v53), .second, .val (.long (-1 : Int64)), .second, .val (.long (1 : Int64)), .second, .val (.long (0 : Int64)), .second, .val (.long (0 : Int64)), .second, .val (.long (0 : Int64)), .second, .val (.int (1 : Int32)), .val (.int (0 : Int32))]) rfl d_prog_137_method_14_93 rfl ?_
    refine Gl.iload Y37 rfl d_prog_137_method_14_95 rfl ?_
    refine Gl.iload Y37 rfl d_prog_137_method_14_97 rfl ?_
    refine Gl.icmpge Y37 d_prog_137_method_14_99 (by decide) rfl rfl (fun c99 => ?_) (fun c99 => ?_)
    · exact absurd c99 (by decide)
    refine Gl.iload Y37 rfl d_prog_137_method_14_102 rfl ?_
    refine Gl.aloadN Y37 rfl rfl d_prog_137_method_14_104 rfl ?_
    refine Gl.getF Y37 (host := "") (Or.inl (tw_14 hw)) Via.refl F_o d_prog_137_method_14_105 rfl (fun T105 Y105 => ?_)
    refine Gl.arraylength Y105 V_o d_prog_137_method_14_108 rfl ?_
    refine Gl.icmpge Y105 d_prog_137_method_14_109 (by decide) rfl rfl (fun c109 => ?_) (fun c109 => ?_)
    · exact absurd c109 (by decide)
    refine Gl.aloadN Y105 rfl rfl d_prog_137_method_14_112 rfl ?_
    refine Gl.getF Y105 (host := "") (Or.inl (tw_14 hw)) Via.refl F_o d_prog_137_method_14_113 rfl (fun T113 Y113 => ?_)
    refine Gl.iload Y113 rfl d_prog_137_method_14_116 rfl ?_
    refine Gl.laload Y113 V_o ⟨by decide, by decide⟩ (v := (.long (0 : Int64))) rfl d_prog_137_method_14_118 rfl ?_
    refine Gl.goto Y113 d_prog_137_method_14_119 (by decide) rfl ?_
    refine Gl.lstore Y113 (L' := #[.val (.ref o), .val (.ref u), .val (.int (1 : Int32)), .val (.ref wu), .val (.int (4 : Int32)), .val (.long (0 : Int64)), .second, .val (.long v53), .second, .val (.long (-1 : Int64)), .second, .val (.long (1 : Int64)), .second, .val (.long (0 : Int64)), .second, .val (.long (0 : Int64)), .second, .val (.long (0 : Int64)), .second, .val (.int (1 : Int32)), .val (.int (0 : Int32))]) rfl d_prog_137_method_14_124 rfl ?_
    refine Gl.iload Y113 rfl d_prog_137_method_14_126 rfl ?_
    refine Gl.aloadN Y113 rfl rfl d_prog_137_method_14_128 rfl ?_
    refine Gl.arraylength Y113 V_u d_prog_137_method_14_129 rfl ?_
    refine Gl.icmpge Y113 d_prog_137_method_14_130 (by decide) rfl rfl (fun c130 => ?_) (fun c130 => ?_)
    · exact absurd c130 (by decide)
    refine Gl.aloadN Y113 rfl rfl d_prog_137_method_14_133 rfl ?_
    refine Gl.iload Y113 rfl d_prog_137_method_14_134 rfl ?_
    refine Gl.laload Y113 V_u ⟨by decide, by decide⟩ (v := (.long x0)) rfl d_prog_137_method_14_136 rfl ?_
    refine Gl.goto Y113 d_prog_137_method_14_137 (by decide) rfl ?_
    refine Gl.lload Y113 rfl d_prog_137_method_14_142 rfl ?_
    obtain ⟨v144, hv144⟩ : ∃ z : Int64, x0 ^^^ (-1 : Int64) = z := ⟨_, rfl⟩
    refine Gl.lxor Y113 hv144 d_prog_137_method_14_144 rfl ?_
    refine Gl.lstore Y113 (L' := #[.val (.ref o), .val (.ref u), .val (.int (1 : Int32)), .val (.ref wu), .val (.int (4 : Int32)), .val (.long (0 : Int64)), .second, .val (.long v53), .second, .val (.long (-1 : Int64)), .second, .val (.long (1 : Int64)), .second, .val (.long (0 : Int64)), .second, .val (.long v144), .second, .val (.long (0 : Int64)), .second, .val (.int (1 : Int32)), .val (.int (0 : Int32))]) rfl d_prog_137_method_14_145 rfl ?_
    refine Gl.lload Y113 rfl d_prog_137_method_14_147 rfl ?_
    refine Gl.lload Y113 rfl d_prog_137_method_14_149 rfl ?_
    obtain ⟨v151, hv151⟩ : ∃ z : Int64, (0 : Int64) + v144 = z := ⟨_, rfl⟩
    refine Gl.ladd Y113 hv151 d_prog_137_method_14_151 rfl ?_
    refine Gl.lload Y113 rfl d_prog_137_method_14_152 rfl ?_
    obtain ⟨v154, hv154⟩ : ∃ z : Int64, v151 + (1 : Int64) = z := ⟨_, rfl⟩
    refine Gl.ladd Y113 hv154 d_prog_137_method_14_154 rfl ?_
    obtain rfl : v154 = (own_o x0 1) := own_sum v144 1 x0 hv144 hv151 hv154
    refine Gl.lstore Y113 (L' := #[.val (.ref o), .val (.ref u), .val (.int (1 : Int32)), .val (.ref wu), .val (.int (4 : Int32)), .val (.long (0 : Int64)), .second, .val (.long v53), .second, .val (.long (-1 : Int64)), .second, .val (.long (1 : Int64)), .second, .val (.long (0 : Int64)), .second, .val (.long v144), .second, .val (.long (own_o x0 1)), .second, .val (.int (1 : Int32)), .val (.int (0 : Int32))]) rfl d_prog_137_method_14_155 rfl ?_
    refine Gl.lload Y113 rfl d_prog_137_method_14_157 rfl ?_
    refine Gl.lload Y113 rfl d_prog_137_method_14_159 rfl ?_
    obtain ⟨v161, hv161⟩ : ∃ z : Int64, (0 : Int64) &&& v144 = z := ⟨_, rfl⟩
    refine Gl.land Y113 hv161 d_prog_137_method_14_161 rfl ?_
    refine Gl.lload Y113 rfl d_prog_137_method_14_162 rfl ?_
    refine Gl.lload Y113 rfl d_prog_137_method_14_164 rfl ?_
    obtain ⟨v166, hv166⟩ : ∃ z : Int64, (0 : Int64) ||| v144 = z := ⟨_, rfl⟩
    refine Gl.lor Y113 hv166 d_prog_137_method_14_166 rfl ?_
    refine Gl.lload Y113 rfl d_prog_137_method_14_167 rfl ?_
    refine Gl.ldcJ Y113 (tw_65 hw) d_prog_137_method_14_169 rfl ?_
    obtain ⟨v172, hv172⟩ : ∃ z : Int64, (own_o x0 1) ^^^ (-1 : Int64) = z := ⟨_, rfl⟩
    refine Gl.lxor Y113 hv172 d_prog_137_method_14_172 rfl ?_
    obtain ⟨v173, hv173⟩ : ∃ z : Int64, v166 &&& v172 = z := ⟨_, rfl⟩
    refine Gl.land Y113 hv173 d_prog_137_method_14_173 rfl ?_
    obtain ⟨v174, hv174⟩ : ∃ z : Int64, v161 ||| v173 = z := ⟨_, rfl⟩
    refine Gl.lor Y113 hv174 d_prog_137_method_14_174 rfl ?_
    refine Gl.bipush Y113 (v := (63 : Int32)) (by decide) d_prog_137_method_14_175 rfl ?_
    obtain ⟨v177, hv177⟩ : ∃ z : Int64, (v174.toUInt64 >>> ((63 : Int32) &&& 0x3f).toInt64.toUInt64).toInt64 = z := ⟨_, rfl⟩
    refine Gl.lushr Y113 hv177 d_prog_137_method_14_177 rfl ?_
    obtain rfl : v177 = (own_k x0 1) := by rw [← hv177, ← hv174, ← hv173, ← hv172, ← hv166, ← hv161, ← hv144]; exact own_carry x0 1 (Or.inr rfl)
    refine Gl.lstore Y113 (L' := #[.val (.ref o), .val (.ref u), .val (.int (1 : Int32)), .val (.ref wu), .val (.int (4 : Int32)), .val (.long (0 : Int64)), .second, .val (.long v53), .second, .val (.long (-1 : Int64)), .second, .val (.long (own_k x0 1)), .second, .val (.long (0 : Int64)), .second, .val (.long v144), .second, .val (.long (own_o x0 1)), .second, .val (.int (1 : Int32)), .val (.int (0 : Int32))]) rfl d_prog_137_method_14_178 rfl ?_
    refine Gl.iload Y113 rfl d_prog_137_method_14_180 rfl ?_
    refine Gl.aloadN Y113 rfl rfl d_prog_137_method_14_182 rfl ?_
    refine Gl.getF Y113 (host := "") (Or.inl (tw_14 hw)) Via.refl F_o d_prog_137_method_14_183 rfl (fun T183 Y183 => ?_)
    refine Gl.arraylength Y183 V_o d_prog_137_method_14_186 rfl ?_
    refine Gl.icmpge Y183 d_prog_137_method_14_187 (by decide) rfl rfl (fun c187 => ?_) (fun c187 => ?_)
    · exact absurd c187 (by decide)
    refine Gl.aloadN Y183 rfl rfl d_prog_137_method_14_190 rfl ?_
    refine Gl.getF Y183 (host := "") (Or.inl (tw_14 hw)) Via.refl F_o d_prog_137_method_14_191 rfl (fun T191 Y191 => ?_)
    refine Gl.iload Y191 rfl d_prog_137_method_14_194 rfl ?_
    refine Gl.lload Y191 rfl d_prog_137_method_14_196 rfl ?_
    refine Gl.lastore Y191 V_o (v := (.long (own_o x0 1))) rfl ⟨by decide, by decide⟩ (ix := 0) rfl (Nat.le_of_ble_eq_true rfl) g_o d_prog_137_method_14_198 rfl (fun T198 h198 Y198 W198 A198 => ?_)
    have A198 : Arv Z h198 wo ko .long (4 : Int32) [(.long (own_o x0 1)), (.long (0 : Int64)), (.long (0 : Int64)), (.long (0 : Int64))] (.long (0 : Int64)) := A198
    have K198 : Keep h0 h198 [wo] := (Keep.refl h0 [wo]).wr W198 (Or.inl (List.mem_of_getElem? (i := 0) rfl))
    show Gl p e below _ (T198.setTop (mkF m 199 #[.val (.ref o), .val (.ref u), .val (.int (1 : Int32)), .val (.ref wu), .val (.int (4 : Int32)), .val (.long (0 : Int64)), .second, .val (.long v53), .second, .val (.long (-1 : Int64)), .second, .val (.long (own_k x0 1)), .second, .val (.long (0 : Int64)), .second, .val (.long v144), .second, .val (.long (own_o x0 1)), .second, .val (.int (1 : Int32)), .val (.int (0 : Int32))] []))
    refine Gl.goto Y198 d_prog_137_method_14_199 (by decide) rfl ?_
    refine Gl.iinc Y198 rfl (r := (1 : Int32)) (by decide) (L' := #[.val (.ref o), .val (.ref u), .val (.int (1 : Int32)), .val (.ref wu), .val (.int (4 : Int32)), .val (.long (0 : Int64)), .second, .val (.long v53), .second, .val (.long (-1 : Int64)), .second, .val (.long (own_k x0 1)), .second, .val (.long (0 : Int64)), .second, .val (.long v144), .second, .val (.long (own_o x0 1)), .second, .val (.int (1 : Int32)), .val (.int (1 : Int32))]) rfl d_prog_137_method_14_225 rfl ?_
    refine Gl.goto Y198 d_prog_137_method_14_228 (by decide) rfl ?_
    refine Gl.iload Y198 rfl d_prog_137_method_14_95 rfl ?_
    refine Gl.iload Y198 rfl d_prog_137_method_14_97 rfl ?_
    refine Gl.icmpge Y198 d_prog_137_method_14_99 (by decide) rfl rfl (fun c99_2 => ?_) (fun c99_2 => ?_)
    · exact absurd c99_2 (by decide)
    refine Gl.iload Y198 rfl d_prog_137_method_14_102 rfl ?_
    refine Gl.aloadN Y198 rfl rfl d_prog_137_method_14_104 rfl ?_
    have f1 : Fld Z h198 o "com/example/meterwise/meterwise/model/WholeNumber" "words" "[J" (.ref wo) := (Fld.other W198 F_o (Or.inl nn_o))
    refine Gl.getF Y198 (host := "") (Or.inl (tw_14 hw)) Via.refl f1 d_prog_137_method_14_105 rfl (fun T105_2 Y105_2 => ?_)
    refine Gl.arraylength Y105_2 A198 d_prog_137_method_14_108 rfl ?_
    refine Gl.icmpge Y105_2 d_prog_137_method_14_109 (by decide) rfl rfl (fun c109_2 => ?_) (fun c109_2 => ?_)
    · exact absurd c109_2 (by decide)
    refine Gl.aloadN Y105_2 rfl rfl d_prog_137_method_14_112 rfl ?_
    refine Gl.getF Y105_2 (host := "") (Or.inl (tw_14 hw)) Via.refl f1 d_prog_137_method_14_113 rfl (fun T113_2 Y113_2 => ?_)
    refine Gl.iload Y113_2 rfl d_prog_137_method_14_116 rfl ?_
    refine Gl.laload Y113_2 A198 ⟨by decide, by decide⟩ (v := (.long (0 : Int64))) rfl d_prog_137_method_14_118 rfl ?_
    refine Gl.goto Y113_2 d_prog_137_method_14_119 (by decide) rfl ?_
    refine Gl.lstore Y113_2 (L' := #[.val (.ref o), .val (.ref u), .val (.int (1 : Int32)), .val (.ref wu), .val (.int (4 : Int32)), .val (.long (0 : Int64)), .second, .val (.long v53), .second, .val (.long (-1 : Int64)), .second, .val (.long (own_k x0 1)), .second, .val (.long (0 : Int64)), .second, .val (.long v144), .second, .val (.long (own_o x0 1)), .second, .val (.int (1 : Int32)), .val (.int (1 : Int32))]) rfl d_prog_137_method_14_124 rfl ?_
    refine Gl.iload Y113_2 rfl d_prog_137_method_14_126 rfl ?_
    refine Gl.aloadN Y113_2 rfl rfl d_prog_137_method_14_128 rfl ?_
    have f2 : Arv Z h198 wu ku .long (4 : Int32) [(.long x0), (.long x1), (.long x2), (.long x3)] (.long (0 : Int64)) := (V_u.other W198 (Ne.symm nw))
    refine Gl.arraylength Y113_2 f2 d_prog_137_method_14_129 rfl ?_
    refine Gl.icmpge Y113_2 d_prog_137_method_14_130 (by decide) rfl rfl (fun c130_2 => ?_) (fun c130_2 => ?_)
    · exact absurd c130_2 (by decide)
    refine Gl.aloadN Y113_2 rfl rfl d_prog_137_method_14_133 rfl ?_
    refine Gl.iload Y113_2 rfl d_prog_137_method_14_134 rfl ?_
    refine Gl.laload Y113_2 f2 ⟨by decide, by decide⟩ (v := (.long x1)) rfl d_prog_137_method_14_136 rfl ?_
    refine Gl.goto Y113_2 d_prog_137_method_14_137 (by decide) rfl ?_
    refine Gl.lload Y113_2 rfl d_prog_137_method_14_142 rfl ?_
    obtain ⟨v144_2, hv144_2⟩ : ∃ z : Int64, x1 ^^^ (-1 : Int64) = z := ⟨_, rfl⟩
    refine Gl.lxor Y113_2 hv144_2 d_prog_137_method_14_144 rfl ?_
    refine Gl.lstore Y113_2 (L' := #[.val (.ref o), .val (.ref u), .val (.int (1 : Int32)), .val (.ref wu), .val (.int (4 : Int32)), .val (.long (0 : Int64)), .second, .val (.long v53), .second, .val (.long (-1 : Int64)), .second, .val (.long (own_k x0 1)), .second, .val (.long (0 : Int64)), .second, .val (.long v144_2), .second, .val (.long (own_o x0 1)), .second, .val (.int (1 : Int32)), .val (.int (1 : Int32))]) rfl d_prog_137_method_14_145 rfl ?_
    refine Gl.lload Y113_2 rfl d_prog_137_method_14_147 rfl ?_
    refine Gl.lload Y113_2 rfl d_prog_137_method_14_149 rfl ?_
    obtain ⟨v151_2, hv151_2⟩ : ∃ z : Int64, (0 : Int64) + v144_2 = z := ⟨_, rfl⟩
    refine Gl.ladd Y113_2 hv151_2 d_prog_137_method_14_151 rfl ?_
    refine Gl.lload Y113_2 rfl d_prog_137_method_14_152 rfl ?_
    obtain ⟨v154_2, hv154_2⟩ : ∃ z : Int64, v151_2 + (own_k x0 1) = z := ⟨_, rfl⟩
    refine Gl.ladd Y113_2 hv154_2 d_prog_137_method_14_154 rfl ?_
    obtain rfl : v154_2 = (own_o x1 (own_k x0 1)) := own_sum v144_2 (own_k x0 1) x1 hv144_2 hv151_2 hv154_2
    refine Gl.lstore Y113_2 (L' := #[.val (.ref o), .val (.ref u), .val (.int (1 : Int32)), .val (.ref wu), .val (.int (4 : Int32)), .val (.long (0 : Int64)), .second, .val (.long v53), .second, .val (.long (-1 : Int64)), .second, .val (.long (own_k x0 1)), .second, .val (.long (0 : Int64)), .second, .val (.long v144_2), .second, .val (.long (own_o x1 (own_k x0 1))), .second, .val (.int (1 : Int32)), .val (.int (1 : Int32))]) rfl d_prog_137_method_14_155 rfl ?_
    refine Gl.lload Y113_2 rfl d_prog_137_method_14_157 rfl ?_
    refine Gl.lload Y113_2 rfl d_prog_137_method_14_159 rfl ?_
    obtain ⟨v161_2, hv161_2⟩ : ∃ z : Int64, (0 : Int64) &&& v144_2 = z := ⟨_, rfl⟩
    refine Gl.land Y113_2 hv161_2 d_prog_137_method_14_161 rfl ?_
    refine Gl.lload Y113_2 rfl d_prog_137_method_14_162 rfl ?_
    refine Gl.lload Y113_2 rfl d_prog_137_method_14_164 rfl ?_
    obtain ⟨v166_2, hv166_2⟩ : ∃ z : Int64, (0 : Int64) ||| v144_2 = z := ⟨_, rfl⟩
    refine Gl.lor Y113_2 hv166_2 d_prog_137_method_14_166 rfl ?_
    refine Gl.lload Y113_2 rfl d_prog_137_method_14_167 rfl ?_
    refine Gl.ldcJ Y113_2 (tw_65 hw) d_prog_137_method_14_169 rfl ?_
    obtain ⟨v172_2, hv172_2⟩ : ∃ z : Int64, (own_o x1 (own_k x0 1)) ^^^ (-1 : Int64) = z := ⟨_, rfl⟩
    refine Gl.lxor Y113_2 hv172_2 d_prog_137_method_14_172 rfl ?_
    obtain ⟨v173_2, hv173_2⟩ : ∃ z : Int64, v166_2 &&& v172_2 = z := ⟨_, rfl⟩
    refine Gl.land Y113_2 hv173_2 d_prog_137_method_14_173 rfl ?_
    obtain ⟨v174_2, hv174_2⟩ : ∃ z : Int64, v161_2 ||| v173_2 = z := ⟨_, rfl⟩
    refine Gl.lor Y113_2 hv174_2 d_prog_137_method_14_174 rfl ?_
    refine Gl.bipush Y113_2 (v := (63 : Int32)) (by decide) d_prog_137_method_14_175 rfl ?_
    obtain ⟨v177_2, hv177_2⟩ : ∃ z : Int64, (v174_2.toUInt64 >>> ((63 : Int32) &&& 0x3f).toInt64.toUInt64).toInt64 = z := ⟨_, rfl⟩
    refine Gl.lushr Y113_2 hv177_2 d_prog_137_method_14_177 rfl ?_
    obtain rfl : v177_2 = (own_k x1 (own_k x0 1)) := by rw [← hv177_2, ← hv174_2, ← hv173_2, ← hv172_2, ← hv166_2, ← hv161_2, ← hv144_2]; exact own_carry x1 (own_k x0 1) (own_k01 (Or.inr rfl))
    refine Gl.lstore Y113_2 (L' := #[.val (.ref o), .val (.ref u), .val (.int (1 : Int32)), .val (.ref wu), .val (.int (4 : Int32)), .val (.long (0 : Int64)), .second, .val (.long v53), .second, .val (.long (-1 : Int64)), .second, .val (.long (own_k x1 (own_k x0 1))), .second, .val (.long (0 : Int64)), .second, .val (.long v144_2), .second, .val (.long (own_o x1 (own_k x0 1))), .second, .val (.int (1 : Int32)), .val (.int (1 : Int32))]) rfl d_prog_137_method_14_178 rfl ?_
    refine Gl.iload Y113_2 rfl d_prog_137_method_14_180 rfl ?_
    refine Gl.aloadN Y113_2 rfl rfl d_prog_137_method_14_182 rfl ?_
    refine Gl.getF Y113_2 (host := "") (Or.inl (tw_14 hw)) Via.refl f1 d_prog_137_method_14_183 rfl (fun T183_2 Y183_2 => ?_)
    refine Gl.arraylength Y183_2 A198 d_prog_137_method_14_186 rfl ?_
    refine Gl.icmpge Y183_2 d_prog_137_method_14_187 (by decide) rfl rfl (fun c187_2 => ?_) (fun c187_2 => ?_)
    · exact absurd c187_2 (by decide)
    refine Gl.aloadN Y183_2 rfl rfl d_prog_137_method_14_190 rfl ?_
    refine Gl.getF Y183_2 (host := "") (Or.inl (tw_14 hw)) Via.refl f1 d_prog_137_method_14_191 rfl (fun T191_2 Y191_2 => ?_)
    refine Gl.iload Y191_2 rfl d_prog_137_method_14_194 rfl ?_
    refine Gl.lload Y191_2 rfl d_prog_137_method_14_196 rfl ?_
    refine Gl.lastore Y191_2 A198 (v := (.long (own_o x1 (own_k x0 1)))) rfl ⟨by decide, by decide⟩ (ix := 1) rfl (Nat.le_of_ble_eq_true rfl) g_o d_prog_137_method_14_198 rfl (fun T198_2 h198_2 Y198_2 W198_2 A198_2 => ?_)
    have A198_2 : Arv Z h198_2 wo ko .long (4 : Int32) [(.long (own_o x0 1)), (.long (own_o x1 (own_k x0 1))), (.long (0 : Int64)), (.long (0 : Int64))] (.long (0 : Int64)) := A198_2
    have K198_2 : Keep h0 h198_2 [wo] := K198.wr W198_2 (Or.inl (List.mem_of_getElem? (i := 0) rfl))
    show Gl p e below _ (T198_2.setTop (mkF m 199 #[.val (.ref o), .val (.ref u), .val (.int (1 : Int32)), .val (.ref wu), .val (.int (4 : Int32)), .val (.long (0 : Int64)), .second, .val (.long v53), .second, .val (.long (-1 : Int64)), .second, .val (.long (own_k x1 (own_k x0 1))), .second, .val (.long (0 : Int64)), .second, .val (.long v144_2), .second, .val (.long (own_o x1 (own_k x0 1))), .second, .val (.int (1 : Int32)), .val (.int (1 : Int32))] []))
    refine Gl.goto Y198_2 d_prog_137_method_14_199 (by decide) rfl ?_
    refine Gl.iinc Y198_2 rfl (r := (2 : Int32)) (by decide) (L' := #[.val (.ref o), .val (.ref u), .val (.int (1 : Int32)), .val (.ref wu), .val (.int (4 : Int32)), .val (.long (0 : Int64)), .second, .val (.long v53), .second, .val (.long (-1 : Int64)), .second, .val (.long (own_k x1 (own_k x0 1))), .second, .val (.long (0 : Int64)), .second, .val (.long v144_2), .second, .val (.long (own_o x1 (own_k x0 1))), .second, .val (.int (1 : Int32)), .val (.int (2 : Int32))]) rfl d_prog_137_method_14_225 rfl ?_
    refine Gl.goto Y198_2 d_prog_137_method_14_228 (by decide) rfl ?_
    refine Gl.iload Y198_2 rfl d_prog_137_method_14_95 rfl ?_
    refine Gl.iload Y198_2 rfl d_prog_137_method_14_97 rfl ?_
    refine Gl.icmpge Y198_2 d_prog_137_method_14_99 (by decide) rfl rfl (fun c99_3 => ?_) (fun c99_3 => ?_)
    · exact absurd c99_3 (by decide)
    refine Gl.iload Y198_2 rfl d_prog_137_method_14_102 rfl ?_
    refine Gl.aloadN Y198_2 rfl rfl d_prog_137_method_14_104 rfl ?_
    have f3 : Fld Z h198_2 o "com/example/meterwise/meterwise/model/WholeNumber" "words" "[J" (.ref wo) := (Fld.other W198_2 f1 (Or.inl nn_o))
    refine Gl.getF Y198_2 (host := "") (Or.inl (tw_14 hw)) Via.refl f3 d_prog_137_method_14_105 rfl (fun T105_3 Y105_3 => ?_)
    refine Gl.arraylength Y105_3 A198_2 d_prog_137_method_14_108 rfl ?_
    refine Gl.icmpge Y105_3 d_prog_137_method_14_109 (by decide) rfl rfl (fun c109_3 => ?_) (fun c109_3 => ?_)
    · exact absurd c109_3 (by decide)
    refine Gl.aloadN Y105_3 rfl rfl d_prog_137_method_14_112 rfl ?_
    refine Gl.getF Y105_3 (host := "") (Or.inl (tw_14 hw)) Via.refl f3 d_prog_137_method_14_113 rfl (fun T113_3 Y113_3 => ?_)
    refine Gl.iload Y113_3 rfl d_prog_137_method_14_116 rfl ?_
    refine Gl.laload Y113_3 A198_2 ⟨by decide, by decide⟩ (v := (.long (0 : Int64))) rfl d_prog_137_method_14_118 rfl ?_
    refine Gl.goto Y113_3 d_prog_137_method_14_119 (by decide) rfl ?_
    refine Gl.lstore Y113_3 (L' := #[.val (.ref o), .val (.ref u), .val (.int (1 : Int32)), .val (.ref wu), .val (.int (4 : Int32)), .val (.long (0 : Int64)), .second, .val (.long v53), .second, .val (.long (-1 : Int64)), .second, .val (.long (own_k x1 (own_k x0 1))), .second, .val (.long (0 : Int64)), .second, .val (.long v144_2), .second, .val (.long (own_o x1 (own_k x0 1))), .second, .val (.int (1 : Int32)), .val (.int (2 : Int32))]) rfl d_prog_137_method_14_124 rfl ?_
    refine Gl.iload Y113_3 rfl d_prog_137_method_14_126 rfl ?_
    refine Gl.aloadN Y113_3 rfl rfl d_prog_137_method_14_128 rfl ?_
    have f4 : Arv Z h198_2 wu ku .long (4 : Int32) [(.long x0), (.long x1), (.long x2), (.long x3)] (.long (0 : Int64)) := (f2.other W198_2 (Ne.symm nw))
    refine Gl.arraylength Y113_3 f4 d_prog_137_method_14_129 rfl ?_
    refine Gl.icmpge Y113_3 d_prog_137_method_14_130 (by decide) rfl rfl (fun c130_3 => ?_) (fun c130_3 => ?_)
    · exact absurd c130_3 (by decide)
    refine Gl.aloadN Y113_3 rfl rfl d_prog_137_method_14_133 rfl ?_
    refine Gl.iload Y113_3 rfl d_prog_137_method_14_134 rfl ?_
    refine Gl.laload Y113_3 f4 ⟨by decide, by decide⟩ (v := (.long x2)) rfl d_prog_137_method_14_136 rfl ?_
    refine Gl.goto Y113_3 d_prog_137_method_14_137 (by decide) rfl ?_
    refine Gl.lload Y113_3 rfl d_prog_137_method_14_142 rfl ?_
    obtain ⟨v144_3, hv144_3⟩ : ∃ z : Int64, x2 ^^^ (-1 : Int64) = z := ⟨_, rfl⟩
    refine Gl.lxor Y113_3 hv144_3 d_prog_137_method_14_144 rfl ?_
    refine Gl.lstore Y113_3 (L' := #[.val (.ref o), .val (.ref u), .val (.int (1 : Int32)), .val (.ref wu), .val (.int (4 : Int32)), .val (.long (0 : Int64)), .second, .val (.long v53), .second, .val (.long (-1 : Int64)), .second, .val (.long (own_k x1 (own_k x0 1))), .second, .val (.long (0 : Int64)), .second, .val (.long v144_3), .second, .val (.long (own_o x1 (own_k x0 1))), .second, .val (.int (1 : Int32)), .val (.int (2 : Int32))]) rfl d_prog_137_method_14_145 rfl ?_
    refine Gl.lload Y113_3 rfl d_prog_137_method_14_147 rfl ?_
    refine Gl.lload Y113_3 rfl d_prog_137_method_14_149 rfl ?_
    obtain ⟨v151_3, hv151_3⟩ : ∃ z : Int64, (0 : Int64) + v144_3 = z := ⟨_, rfl⟩
    refine Gl.ladd Y113_3 hv151_3 d_prog_137_method_14_151 rfl ?_
    refine Gl.lload Y113_3 rfl d_prog_137_method_14_152 rfl ?_
    obtain ⟨v154_3, hv154_3⟩ : ∃ z : Int64, v151_3 + (own_k x1 (own_k x0 1)) = z := ⟨_, rfl⟩
    refine Gl.ladd Y113_3 hv154_3 d_prog_137_method_14_154 rfl ?_
    obtain rfl : v154_3 = (own_o x2 (own_k x1 (own_k x0 1))) := own_sum v144_3 (own_k x1 (own_k x0 1)) x2 hv144_3 hv151_3 hv154_3
    refine Gl.lstore Y113_3 (L' := #[.val (.ref o), .val (.ref u), .val (.int (1 : Int32)), .val (.ref wu), .val (.int (4 : Int32)), .val (.long (0 : Int64)), .second, .val (.long v53), .second, .val (.long (-1 : Int64)), .second, .val (.long (own_k x1 (own_k x0 1))), .second, .val (.long (0 : Int64)), .second, .val (.long v144_3), .second, .val (.long (own_o x2 (own_k x1 (own_k x0 1)))), .second, .val (.int (1 : Int32)), .val (.int (2 : Int32))]) rfl d_prog_137_method_14_155 rfl ?_
    refine Gl.lload Y113_3 rfl d_prog_137_method_14_157 rfl ?_
    refine Gl.lload Y113_3 rfl d_prog_137_method_14_159 rfl ?_
    obtain ⟨v161_3, hv161_3⟩ : ∃ z : Int64, (0 : Int64) &&& v144_3 = z := ⟨_, rfl⟩
    refine Gl.land Y113_3 hv161_3 d_prog_137_method_14_161 rfl ?_
    refine Gl.lload Y113_3 rfl d_prog_137_method_14_162 rfl ?_
    refine Gl.lload Y113_3 rfl d_prog_137_method_14_164 rfl ?_
    obtain ⟨v166_3, hv166_3⟩ : ∃ z : Int64, (0 : Int64) ||| v144_3 = z := ⟨_, rfl⟩
    refine Gl.lor Y113_3 hv166_3 d_prog_137_method_14_166 rfl ?_
    refine Gl.lload Y113_3 rfl d_prog_137_method_14_167 rfl ?_
    refine Gl.ldcJ Y113_3 (tw_65 hw) d_prog_137_method_14_169 rfl ?_
    obtain ⟨v172_3, hv172_3⟩ : ∃ z : Int64, (own_o x2 (own_k x1 (own_k x0 1))) ^^^ (-1 : Int64) = z := ⟨_, rfl⟩
    refine Gl.lxor Y113_3 hv172_3 d_prog_137_method_14_172 rfl ?_
    obtain ⟨v173_3, hv173_3⟩ : ∃ z : Int64, v166_3 &&& v172_3 = z := ⟨_, rfl⟩
    refine Gl.land Y113_3 hv173_3 d_prog_137_method_14_173 rfl ?_
    obtain ⟨v174_3, hv174_3⟩ : ∃ z : Int64, v161_3 ||| v173_3 = z := ⟨_, rfl⟩
    refine Gl.lor Y113_3 hv174_3 d_prog_137_method_14_174 rfl ?_
    refine Gl.bipush Y113_3 (v := (63 : Int32)) (by decide) d_prog_137_method_14_175 rfl ?_
    obtain ⟨v177_3, hv177_3⟩ : ∃ z : Int64, (v174_3.toUInt64 >>> ((63 : Int32) &&& 0x3f).toInt64.toUInt64).toInt64 = z := ⟨_, rfl⟩
    refine Gl.lushr Y113_3 hv177_3 d_prog_137_method_14_177 rfl ?_
    obtain rfl : v177_3 = (own_k x2 (own_k x1 (own_k x0 1))) := by rw [← hv177_3, ← hv174_3, ← hv173_3, ← hv172_3, ← hv166_3, ← hv161_3, ← hv144_3]; exact own_carry x2 (own_k x1 (own_k x0 1)) (own_k01 (own_k01 (Or.inr rfl)))
    refine Gl.lstore Y113_3 (L' := #[.val (.ref o), .val (.ref u), .val (.int (1 : Int32)), .val (.ref wu), .val (.int (4 : Int32)), .val (.long (0 : Int64)), .second, .val (.long v53), .second, .val (.long (-1 : Int64)), .second, .val (.long (own_k x2 (own_k x1 (own_k x0 1)))), .second, .val (.long (0 : Int64)), .second, .val (.long v144_3), .second, .val (.long (own_o x2 (own_k x1 (own_k x0 1)))), .second, .val (.int (1 : Int32)), .val (.int (2 : Int32))]) rfl d_prog_137_method_14_178 rfl ?_
    refine Gl.iload Y113_3 rfl d_prog_137_method_14_180 rfl ?_
    refine Gl.aloadN Y113_3 rfl rfl d_prog_137_method_14_182 rfl ?_
    refine Gl.getF Y113_3 (host := "") (Or.inl (tw_14 hw)) Via.refl f3 d_prog_137_method_14_183 rfl (fun T183_3 Y183_3 => ?_)
    refine Gl.arraylength Y183_3 A198_2 d_prog_137_method_14_186 rfl ?_
    refine Gl.icmpge Y183_3 d_prog_137_method_14_187 (by decide) rfl rfl (fun c187_3 => ?_) (fun c187_3 => ?_)
    · exact absurd c187_3 (by decide)
    refine Gl.aloadN Y183_3 rfl rfl d_prog_137_method_14_190 rfl ?_
    refine Gl.getF Y183_3 (host := "") (Or.inl (tw_14 hw)) Via.refl f3 d_prog_137_method_14_191 rfl (fun T191_3 Y191_3 => ?_)
    refine Gl.iload Y191_3 rfl d_prog_137_method_14_194 rfl ?_
    refine Gl.lload Y191_3 rfl d_prog_137_method_14_196 rfl ?_
    refine Gl.lastore Y191_3 A198_2 (v := (.long (own_o x2 (own_k x1 (own_k x0 1))))) rfl ⟨by decide, by decide⟩ (ix := 2) rfl (Nat.le_of_ble_eq_true rfl) g_o d_prog_137_method_14_198 rfl (fun T198_3 h198_3 Y198_3 W198_3 A198_3 => ?_)
    have A198_3 : Arv Z h198_3 wo ko .long (4 : Int32) [(.long (own_o x0 1)), (.long (own_o x1 (own_k x0 1))), (.long (own_o x2 (own_k x1 (own_k x0 1)))), (.long (0 : Int64))] (.long (0 : Int64)) := A198_3
    have K198_3 : Keep h0 h198_3 [wo] := K198_2.wr W198_3 (Or.inl (List.mem_of_getElem? (i := 0) rfl))
    show Gl p e below _ (T198_3.setTop (mkF m 199 #[.val (.ref o), .val (.ref u), .val (.int (1 : Int32)), .val (.ref wu), .val (.int (4 : Int32)), .val (.long (0 : Int64)), .second, .val (.long v53), .second, .val (.long (-1 : Int64)), .second, .val (.long (own_k x2 (own_k x1 (own_k x0 1)))), .second, .val (.long (0 : Int64)), .second, .val (.long v144_3), .second, .val (.long (own_o x2 (own_k x1 (own_k x0 1)))), .second, .val (.int (1 : Int32)), .val (.int (2 : Int32))] []))
    refine Gl.goto Y198_3 d_prog_137_method_14_199 (by decide) rfl ?_
    refine Gl.iinc Y198_3 rfl (r := (3 : Int32)) (by decide) (L' := #[.val (.ref o), .val (.ref u), .val (.int (1 : Int32)), .val (.ref wu), .val (.int (4 : Int32)), .val (.long (0 : Int64)), .second, .val (.long v53), .second, .val (.long (-1 : Int64)), .second, .val (.long (own_k x2 (own_k x1 (own_k x0 1)))), .second, .val (.long (0 : Int64)), .second, .val (.long v144_3), .second, .val (.long (own_o x2 (own_k x1 (own_k x0 1)))), .second, .val (.int (1 : Int32)), .val (.int (3 : Int32))]) rfl d_prog_137_method_14_225 rfl ?_
    refine Gl.goto Y198_3 d_prog_137_method_14_228 (by decide) rfl ?_
    refine Gl.iload Y198_3 rfl d_prog_137_method_14_95 rfl ?_
    refine Gl.iload Y198_3 rfl d_prog_137_method_14_97 rfl ?_
    refine Gl.icmpge Y198_3 d_prog_137_method_14_99 (by decide) rfl rfl (fun c99_4 => ?_) (fun c99_4 => ?_)
    · exact absurd c99_4 (by decide)
    refine Gl.iload Y198_3 rfl d_prog_137_method_14_102 rfl ?_
    refine Gl.aloadN Y198_3 rfl rfl d_prog_137_method_14_104 rfl ?_
    have f5 : Fld Z h198_3 o "com/example/meterwise/meterwise/model/WholeNumber" "words" "[J" (.ref wo) := (Fld.other W198_3 f3 (Or.inl nn_o))
    refine Gl.getF Y198_3 (host := "") (Or.inl (tw_14 hw)) Via.refl f5 d_prog_137_method_14_105 rfl (fun T105_4 Y105_4 => ?_)
    refine Gl.arraylength Y105_4 A198_3 d_prog_137_method_14_108 rfl ?_
    refine Gl.icmpge Y105_4 d_prog_137_method_14_109 (by decide) rfl rfl (fun c109_4 => ?_) (fun c109_4 => ?_)
    · exact absurd c109_4 (by decide)
    refine Gl.aloadN Y105_4 rfl rfl d_prog_137_method_14_112 rfl ?_
    refine Gl.getF Y105_4 (host := "") (Or.inl (tw_14 hw)) Via.refl f5 d_prog_137_method_14_113 rfl (fun T113_4 Y113_4 => ?_)
    refine Gl.iload Y113_4 rfl d_prog_137_method_14_116 rfl ?_
    refine Gl.laload Y113_4 A198_3 ⟨by decide, by decide⟩ (v := (.long (0 : Int64))) rfl d_prog_137_method_14_118 rfl ?_
    refine Gl.goto Y113_4 d_prog_137_method_14_119 (by decide) rfl ?_
    refine Gl.lstore Y113_4 (L' := #[.val (.ref o), .val (.ref u), .val (.int (1 : Int32)), .val (.ref wu), .val (.int (4 : Int32)), .val (.long (0 : Int64)), .second, .val (.long v53), .second, .val (.long (-1 : Int64)), .second, .val (.long (own_k x2 (own_k x1 (own_k x0 1)))), .second, .val (.long (0 : Int64)), .second, .val (.long v144_3), .second, .val (.long (own_o x2 (own_k x1 (own_k x0 1)))), .second, .val (.int (1 : Int32)), .val (.int (3 : Int32))]) rfl d_prog_137_method_14_124 rfl ?_
    refine Gl.iload Y113_4 rfl d_prog_137_method_14_126 rfl ?_
    refine Gl.aloadN Y113_4 rfl rfl d_prog_137_method_14_128 rfl ?_
    have f6 : Arv Z h198_3 wu ku .long (4 : Int32) [(.long x0), (.long x1), (.long x2), (.long x3)] (.long (0 : Int64)) := (f4.other W198_3 (Ne.symm nw))
    refine Gl.arraylength Y113_4 f6 d_prog_137_method_14_129 rfl ?_
    refine Gl.icmpge Y113_4 d_prog_137_method_14_130 (by decide) rfl rfl (fun c130_4 => ?_) (fun c130_4 => ?_)
    · exact absurd c130_4 (by decide)
    refine Gl.aloadN Y113_4 rfl rfl d_prog_137_method_14_133 rfl ?_
    refine Gl.iload Y113_4 rfl d_prog_137_method_14_134 rfl ?_
    refine Gl.laload Y113_4 f6 ⟨by decide, by decide⟩ (v := (.long x3)) rfl d_prog_137_method_14_136 rfl ?_
    refine Gl.goto Y113_4 d_prog_137_method_14_137 (by decide) rfl ?_
    refine Gl.lload Y113_4 rfl d_prog_137_method_14_142 rfl ?_
    obtain ⟨v144_4, hv144_4⟩ : ∃ z : Int64, x3 ^^^ (-1 : Int64) = z := ⟨_, rfl⟩
    refine Gl.lxor Y113_4 hv144_4 d_prog_137_method_14_144 rfl ?_
    refine Gl.lstore Y113_4 (L' := #[.val (.ref o), .val (.ref u), .val (.int (1 : Int32)), .val (.ref wu), .val (.int (4 : Int32)), .val (.long (0 : Int64)), .second, .val (.long v53), .second, .val (.long (-1 : Int64)), .second, .val (.long (own_k x2 (own_k x1 (own_k x0 1)))), .second, .val (.long (0 : Int64)), .second, .val (.long v144_4), .second, .val (.long (own_o x2 (own_k x1 (own_k x0 1)))), .second, .val (.int (1 : Int32)), .val (.int (3 : Int32))]) rfl d_prog_137_method_14_145 rfl ?_
    refine Gl.lload Y113_4 rfl d_prog_137_method_14_147 rfl ?_
    refine Gl.lload Y113_4 rfl d_prog_137_method_14_149 rfl ?_
    obtain ⟨v151_4, hv151_4⟩ : ∃ z : Int64, (0 : Int64) + v144_4 = z := ⟨_, rfl⟩
    refine Gl.ladd Y113_4 hv151_4 d_prog_137_method_14_151 rfl ?_
    refine Gl.lload Y113_4 rfl d_prog_137_method_14_152 rfl ?_
    obtain ⟨v154_4, hv154_4⟩ : ∃ z : Int64, v151_4 + (own_k x2 (own_k x1 (own_k x0 1))) = z := ⟨_, rfl⟩
    refine Gl.ladd Y113_4 hv154_4 d_prog_137_method_14_154 rfl ?_
    obtain rfl : v154_4 = (own_o x3 (own_k x2 (own_k x1 (own_k x0 1)))) := own_sum v144_4 (own_k x2 (own_k x1 (own_k x0 1))) x3 hv144_4 hv151_4 hv154_4
    refine Gl.lstore Y113_4 (L' := #[.val (.ref o), .val (.ref u), .val (.int (1 : Int32)), .val (.ref wu), .val (.int (4 : Int32)), .val (.long (0 : Int64)), .second, .val (.long v53), .second, .val (.long (-1 : Int64)), .second, .val (.long (own_k x2 (own_k x1 (own_k x0 1)))), .second, .val (.long (0 : Int64)), .second, .val (.long v144_4), .second, .val (.long (own_o x3 (own_k x2 (own_k x1 (own_k x0 1))))), .second, .val (.int (1 : Int32)), .val (.int (3 : Int32))]) rfl d_prog_137_method_14_155 rfl ?_
    refine Gl.lload Y113_4 rfl d_prog_137_method_14_157 rfl ?_
    refine Gl.lload Y113_4 rfl d_prog_137_method_14_159 rfl ?_
    obtain ⟨v161_4, hv161_4⟩ : ∃ z : Int64, (0 : Int64) &&& v144_4 = z := ⟨_, rfl⟩
    refine Gl.land Y113_4 hv161_4 d_prog_137_method_14_161 rfl ?_
    refine Gl.lload Y113_4 rfl d_prog_137_method_14_162 rfl ?_
    refine Gl.lload Y113_4 rfl d_prog_137_method_14_164 rfl ?_
    obtain ⟨v166_4, hv166_4⟩ : ∃ z : Int64, (0 : Int64) ||| v144_4 = z := ⟨_, rfl⟩
    refine Gl.lor Y113_4 hv166_4 d_prog_137_method_14_166 rfl ?_
    refine Gl.lload Y113_4 rfl d_prog_137_method_14_167 rfl ?_
    refine Gl.ldcJ Y113_4 (tw_65 hw) d_prog_137_method_14_169 rfl ?_
    obtain ⟨v172_4, hv172_4⟩ : ∃ z : Int64, (own_o x3 (own_k x2 (own_k x1 (own_k x0 1)))) ^^^ (-1 : Int64) = z := ⟨_, rfl⟩
    refine Gl.lxor Y113_4 hv172_4 d_prog_137_method_14_172 rfl ?_
    obtain ⟨v173_4, hv173_4⟩ : ∃ z : Int64, v166_4 &&& v172_4 = z := ⟨_, rfl⟩
    refine Gl.land Y113_4 hv173_4 d_prog_137_method_14_173 rfl ?_
    obtain ⟨v174_4, hv174_4⟩ : ∃ z : Int64, v161_4 ||| v173_4 = z := ⟨_, rfl⟩
    refine Gl.lor Y113_4 hv174_4 d_prog_137_method_14_174 rfl ?_
    refine Gl.bipush Y113_4 (v := (63 : Int32)) (by decide) d_prog_137_method_14_175 rfl ?_
    obtain ⟨v177_4, hv177_4⟩ : ∃ z : Int64, (v174_4.toUInt64 >>> ((63 : Int32) &&& 0x3f).toInt64.toUInt64).toInt64 = z := ⟨_, rfl⟩
    refine Gl.lushr Y113_4 hv177_4 d_prog_137_method_14_177 rfl ?_
    obtain rfl : v177_4 = (own_k x3 (own_k x2 (own_k x1 (own_k x0 1)))) := by rw [← hv177_4, ← hv174_4, ← hv173_4, ← hv172_4, ← hv166_4, ← hv161_4, ← hv144_4]; exact own_carry x3 (own_k x2 (own_k x1 (own_k x0 1))) (own_k01 (own_k01 (own_k01 (Or.inr rfl))))
    refine Gl.lstore Y113_4 (L' := #[.val (.ref o), .val (.ref u), .val (.int (1 : Int32)), .val (.ref wu), .val (.int (4 : Int32)), .val (.long (0 : Int64)), .second, .val (.long v53), .second, .val (.long (-1 : Int64)), .second, .val (.long (own_k x3 (own_k x2 (own_k x1 (own_k x0 1))))), .second, .val (.long (0 : Int64)), .second, .val (.long v144_4), .second, .val (.long (own_o x3 (own_k x2 (own_k x1 (own_k x0 1))))), .second, .val (.int (1 : Int32)), .val (.int (3 : Int32))]) rfl d_prog_137_method_14_178 rfl ?_
    refine Gl.iload Y113_4 rfl d_prog_137_method_14_180 rfl ?_
    refine Gl.aloadN Y113_4 rfl rfl d_prog_137_method_14_182 rfl ?_
    refine Gl.getF Y113_4 (host := "") (Or.inl (tw_14 hw)) Via.refl f5 d_prog_137_method_14_183 rfl (fun T183_4 Y183_4 => ?_)
    refine Gl.arraylength Y183_4 A198_3 d_prog_137_method_14_186 rfl ?_
    refine Gl.icmpge Y183_4 d_prog_137_method_14_187 (by decide) rfl rfl (fun c187_4 => ?_) (fun c187_4 => ?_)
    · exact absurd c187_4 (by decide)
    refine Gl.aloadN Y183_4 rfl rfl d_prog_137_method_14_190 rfl ?_
    refine Gl.getF Y183_4 (host := "") (Or.inl (tw_14 hw)) Via.refl f5 d_prog_137_method_14_191 rfl (fun T191_4 Y191_4 => ?_)
    refine Gl.iload Y191_4 rfl d_prog_137_method_14_194 rfl ?_
    refine Gl.lload Y191_4 rfl d_prog_137_method_14_196 rfl ?_
    refine Gl.lastore Y191_4 A198_3 (v := (.long (own_o x3 (own_k x2 (own_k x1 (own_k x0 1)))))) rfl ⟨by decide, by decide⟩ (ix := 3) rfl (Nat.le_of_ble_eq_true rfl) g_o d_prog_137_method_14_198 rfl (fun T198_4 h198_4 Y198_4 W198_4 A198_4 => ?_)
    have A198_4 : Arv Z h198_4 wo ko .long (4 : Int32) [(.long (own_o x0 1)), (.long (own_o x1 (own_k x0 1))), (.long (own_o x2 (own_k x1 (own_k x0 1)))), (.long (own_o x3 (own_k x2 (own_k x1 (own_k x0 1)))))] (.long (0 : Int64)) := A198_4
    have K198_4 : Keep h0 h198_4 [wo] := K198_3.wr W198_4 (Or.inl (List.mem_of_getElem? (i := 0) rfl))
    show Gl p e below _ (T198_4.setTop (mkF m 199 #[.val (.ref o), .val (.ref u), .val (.int (1 : Int32)), .val (.ref wu), .val (.int (4 : Int32)), .val (.long (0 : Int64)), .second, .val (.long v53), .second, .val (.long (-1 : Int64)), .second, .val (.long (own_k x3 (own_k x2 (own_k x1 (own_k x0 1))))), .second, .val (.long (0 : Int64)), .second, .val (.long v144_4), .second, .val (.long (own_o x3 (own_k x2 (own_k x1 (own_k x0 1))))), .second, .val (.int (1 : Int32)), .val (.int (3 : Int32))] []))
    refine Gl.goto Y198_4 d_prog_137_method_14_199 (by decide) rfl ?_
    refine Gl.iinc Y198_4 rfl (r := (4 : Int32)) (by decide) (L' := #[.val (.ref o), .val (.ref u), .val (.int (1 : Int32)), .val (.ref wu), .val (.int (4 : Int32)), .val (.long (0 : Int64)), .second, .val (.long v53), .second, .val (.long (-1 : Int64)), .second, .val (.long (own_k x3 (own_k x2 (own_k x1 (own_k x0 1))))), .second, .val (.long (0 : Int64)), .second, .val (.long v144_4), .second, .val (.long (own_o x3 (own_k x2 (own_k x1 (own_k x0 1))))), .second, .val (.int (1 : Int32)), .val (.int (4 : Int32))]) rfl d_prog_137_method_14_225 rfl ?_
    refine Gl.goto Y198_4 d_prog_137_method_14_228 (by decide) rfl ?_
    refine Gl.iload Y198_4 rfl d_prog_137_method_14_95 rfl ?_
    refine Gl.iload Y198_4 rfl d_prog_137_method_14_97 rfl ?_
    refine Gl.icmpge Y198_4 d_prog_137_method_14_99 (by decide) rfl rfl (fun c99_5 => ?_) (fun c99_5 => ?_)
    rotate_left
    · exact absurd c99_5 (by decide)
    refine Gl.iload Y198_4 rfl d_prog_137_method_14_231 rfl ?_
    refine Gl.ifeq Y198_4 d_prog_137_method_14_233 (by decide) rfl rfl (fun c233 => ?_) (fun c233 => ?_)
    · exact absurd c233 (by decide)
    refine Gl.lload Y198_4 rfl d_prog_137_method_14_236 rfl ?_
    refine Gl.lload Y198_4 rfl d_prog_137_method_14_238 rfl ?_
    obtain ⟨v240, hv240⟩ : ∃ z : Int64, (0 : Int64) ^^^ (own_o x3 (own_k x2 (own_k x1 (own_k x0 1)))) = z := ⟨_, rfl⟩
    refine Gl.lxor Y198_4 hv240 d_prog_137_method_14_240 rfl ?_
    refine Gl.lload Y198_4 rfl d_prog_137_method_14_241 rfl ?_
    refine Gl.lload Y198_4 rfl d_prog_137_method_14_243 rfl ?_
    obtain ⟨v245, hv245⟩ : ∃ z : Int64, v144_4 ^^^ (own_o x3 (own_k x2 (own_k x1 (own_k x0 1)))) = z := ⟨_, rfl⟩
    refine Gl.lxor Y198_4 hv245 d_prog_137_method_14_245 rfl ?_
    obtain ⟨v246, hv246⟩ : ∃ z : Int64, v240 &&& v245 = z := ⟨_, rfl⟩
    refine Gl.land Y198_4 hv246 d_prog_137_method_14_246 rfl ?_
    refine Gl.lconst Y198_4 (v := (0 : Int64)) (by decide) d_prog_137_method_14_247 rfl ?_
    refine Gl.lcmplt Y198_4 d_prog_137_method_14_248 rfl d_prog_137_method_14_249 (by decide) rfl rfl (fun c249 => ?_) (fun c249 => ?_)
    · refine absurd c249 ?_
      rw [← hv246, ← hv245, ← hv240, ← hv144_4]
      refine own_fit x3 (own_k x2 (own_k x1 (own_k x0 1))) (own_k01 (own_k01 (own_k01 (Or.inr rfl)))) ?_
      intro z
      have q2 := own_k1 (own_k01 (own_k01 (Or.inr rfl))) (by exact z.2)
      have zz2 := q2.1
      have q1 := own_k1 (own_k01 (Or.inr rfl)) (by exact q2.2)
      have zz1 := q1.1
      have q0 := own_k1 (Or.inr rfl) (by exact q1.2)
      have zz0 := q0.1
      rcases p8 with w8 | w8
      · exact absurd (c11.symm.trans w8.2) (by decide)
      · exact w8.1 ⟨z.1, ⟨zz0, zz1, zz2⟩⟩
    refine Gl.aloadN Y198_4 rfl rfl d_prog_137_method_14_252 rfl ?_
    refine Gl.goto Y198_4 d_prog_137_method_14_253 (by decide) rfl ?_
    exact Gl.retA Y198_4 (by decide) (by decide) rfl rfl d_prog_137_method_14_260 ⟨rfl, K198_4, A198_4⟩
  · refine Gl.aloadN Y8 rfl rfl d_prog_137_method_14_14 rfl ?_
    refine Gl.callV Y8 (tw_59 hw) (tw_29 hw) (tw_31 hw) (tw_31 hw) (tw_30 hw) (tw_2 hw) (tw_32 hw) (by decide) E_o (rm65 l Z a0 hw [] o wo ko (0 : Int64) (0 : Int64) (0 : Int64) (0 : Int64) h0 n0 Y8.sz E_o F_o V_o g_o nn_o) (a := o) (argsL := []) (rest := []) rfl rfl (lenOf pd_5 rfl) rfl (by decide) (Nat.le_of_ble_eq_true rfl) (by decide) (by decide) d_prog_137_method_14_15 rfl (fun v15 T15 h15 Y15 q15 => ?_)
    obtain ⟨rfl, K15, f15_0⟩ := q15
    have KK15 : Keep h0 h15 [wo] := (Keep.refl h0 [wo]).trans K15 (allS (Or.inl (List.mem_of_getElem? (i := 0) rfl)) all0)
    show Gl p e below _ (T15.setTop (mkF m 18 #[.val (.ref o), .val (.ref u), .val (.int (1 : Int32)), .unset, .unset, .unset, .unset, .unset, .unset, .unset, .unset, .unset, .unset, .unset, .unset, .unset, .unset, .unset, .unset, .unset, .unset] [(.ref o)]))
    rcases p8 with w8 | w8
    rotate_left
    · exact absurd w8.2 c11
    obtain ⟨rfl, ⟨rfl, rfl, rfl⟩⟩ := w8.1
    have f7 : Arv Z h15 wo ko .long (4 : Int32) [(.long (own_o (0 : Int64) 1)), (.long (own_o (0 : Int64) (own_k (0 : Int64) 1))), (.long (own_o (0 : Int64) (own_k (0 : Int64) (own_k (0 : Int64) 1)))), (.long (own_o (-9223372036854775808 : Int64) (own_k (0 : Int64) (own_k (0 : Int64) (own_k (0 : Int64) 1)))))] (.long (0 : Int64)) := f15_0
    exact Gl.retA Y15 (by decide) (by decide) rfl rfl d_prog_137_method_14_18 ⟨rfl, KK15, f7⟩
def R76 : Room := { frames := 3, cells := 0, slots := 0, locals := 60 }
def Q76 (Z : State) (o : Addr) (wo : Addr) (ko : ClassId) (u : Addr) (wu : Addr) (ku : ClassId) (x0 : Int64) (x1 : Int64) (x2 : Int64) (x3 : Int64) (h0 : Heap) (v : Option Value) (h : Heap) : Prop := v = some (.ref o) ∧ Keep h0 h [wo] ∧ Arv Z h wo ko .long (4 : Int32) [(.long (own_o x0 1)), (.long (own_o x1 (own_k x0 1))), (.long (own_o x2 (own_k x1 (own_k x0 1)))), (.long (own_o x3 (own_k x2 (own_k x1 (own_k x0 1)))))] (.long (0 : Int64))
theorem ef76 (o : Addr) (u : Addr) (m : MethodId) : entryFrame m #[(.ref o), (.ref u)] 2 = mkF m 0 #[.val (.ref o), .val (.ref u)] [] := by first | (simp [entryFrame, mkF, argsToLocals, Value.category]; done) | rfl
set_option maxRecDepth 65536 in
set_option maxHeartbeats 40000000 in
theorem rm76 (l : Launch) (Z : State) (a0 : Array Value) (hw : ∀ d ∈ tables_1, d.before a0 Z = true) (ws : List Jvm.Cond) (o : Addr) (wo : Addr) (ko : ClassId) (u : Addr) (wu : Addr) (ku : ClassId) (x0 : Int64) (x1 : Int64) (x2 : Int64) (x3 : Int64) (h0 : Heap) (n0 : Nat) (Z0 : n0 ≤ h0.size) (E_o : Exa Z h0 o "com/example/meterwise/meterwise/model/WholeNumber") (F_o : Fld Z h0 o "com/example/meterwise/meterwise/model/WholeNumber" "words" "[J" (.ref wo)) (V_o : Arv Z h0 wo ko .long (4 : Int32) [(.long (0 : Int64)), (.long (0 : Int64)), (.long (0 : Int64)), (.long (0 : Int64))] (.long (0 : Int64))) (g_o : n0 ≤ wo) (nn_o : o ≠ wo) (E_u : Exa Z h0 u "com/example/meterwise/meterwise/model/WholeNumber") (F_u : Fld Z h0 u "com/example/meterwise/meterwise/model/WholeNumber" "words" "[J" (.ref wu)) (V_u : Arv Z h0 wu ku .long (4 : Int32) [(.long x0), (.long x1), (.long x2), (.long x3)] (.long (0 : Int64))) (nw : wo ≠ wu) (np : u ≠ wo) : OMet l Z ws (⟨"com/example/meterwise/meterwise/model/WholeNumber", "subtract", "(Lcom/example/meterwise/meterwise/model/WholeNumber;)Lcom/example/meterwise/meterwise/model/WholeNumber;"⟩ : MethodName) prog_137_method_13_code 2 (some (.object "com/example/meterwise/meterwise/model/WholeNumber")) R76 #[(.ref o), (.ref u)] h0 n0 (Q76 Z o wo ko u wu ku x0 x1 x2 x3 h0) := by
  refine OMet.of (plainFor_of_name pn_0) (ef76 o u) Z0 ?_
  intro p e s m below meth c T0 Y0 hnm
  have Y0 : Sd Z "com/example/meterwise/meterwise/model/WholeNumber" prog_137_method_13_code 2 (some (.object "com/example/meterwise/meterwise/model/WholeNumber")) n0 p l e R76 s m #[(.ref o), (.ref u)] below meth c T0 h0 0 0 := Y0
  refine Gl.aloadN Y0 rfl rfl d_prog_137_method_13_0 rfl ?_
  refine Gl.aloadN Y0 rfl rfl d_prog_137_method_13_1 rfl ?_
  refine Gl.iconst Y0 (v := (1 : Int32)) (by decide) d_prog_137_method_13_2 rfl ?_
  refine Gl.callP Y0 (tw_42 hw) (tw_43 hw) (tw_44 hw) (tw_1 hw) (tw_2 hw) (tw_45 hw) (by decide) E_o (rm75 l Z a0 hw [] o wo ko u wu ku x0 x1 x2 x3 h0 n0 Y0.sz E_o F_o V_o g_o nn_o E_u F_u V_u nw np) (a := o) (argsL := [(.ref u), (.int (1 : Int32))]) (rest := []) rfl rfl (lenOf pd_7 rfl) rfl (by decide) (Nat.le_of_ble_eq_true rfl) (by decide) (by decide) d_prog_137_method_13_3 rfl (fun v3 T3 h3 Y3 q3 => ?_)
  obtain ⟨rfl, K3, f3_0⟩ := q3
  have KK3 : Keep h0 h3 [wo] := (Keep.refl h0 [wo]).trans K3 (allS (Or.inl (List.mem_of_getElem? (i := 0) rfl)) all0)
  show Gl p e below _ (T3.setTop (mkF m 6 #[.val (.ref o), .val (.ref u)] [(.ref o)]))
  exact Gl.retA Y3 (by decide) (by decide) rfl rfl d_prog_137_method_13_6 ⟨rfl, KK3, f3_0⟩
def R77 : Room := { frames := 0, cells := 0, slots := 0, locals := 0 }
def Q77 (Z : State) (o : Addr) (wo : Addr) (ko : ClassId) (x0 : Int64) (x1 : Int64) (x2 : Int64) (x3 : Int64) (h0 : Heap) (v : Option Value) (h : Heap) : Prop := v = some (.long x0) ∧ h0 = h
theorem ef77 (o : Addr) (m : MethodId) : entryFrame m #[(.ref o), (.int (0 : Int32))] 2 = mkF m 0 #[.val (.ref o), .val (.int (0 : Int32))] [] := by first | (simp [entryFrame, mkF, argsToLocals, Value.category]; done) | rfl
set_option maxRecDepth 65536 in
set_option maxHeartbeats 40000000 in
theorem rm77 (l : Launch) (Z : State) (a0 : Array Value) (hw : ∀ d ∈ tables_1, d.before a0 Z = true) (ws : List Jvm.Cond) (o : Addr) (wo : Addr) (ko : ClassId) (x0 : Int64) (x1 : Int64) (x2 : Int64) (x3 : Int64) (h0 : Heap) (n0 : Nat) (Z0 : n0 ≤ h0.size) (E_o : Exa Z h0 o "com/example/meterwise/meterwise/model/WholeNumber") (F_o : Fld Z h0 o "com/example/meterwise/meterwise/model/WholeNumber" "words" "[J" (.ref wo)) (V_o : Arv Z h0 wo ko .long (4 : Int32) [(.long x0), (.long x1), (.long x2), (.long x3)] (.long (0 : Int64))) : OMet l Z ws (⟨"com/example/meterwise/meterwise/model/WholeNumber", "word", "(I)J"⟩ : MethodName) prog_137_method_32_code 2 (some .long) R77 #[(.ref o), (.int (0 : Int32))] h0 n0 (Q77 Z o wo ko x0 x1 x2 x3 h0) := by
  refine OMet.of (plainFor_of_name pn_0) (ef77 o) Z0 ?_
  intro p e s m below meth c T0 Y0 hnm
  have Y0 : Sd Z "com/example/meterwise/meterwise/model/WholeNumber" prog_137_method_32_code 2 (some .long) n0 p l e R77 s m #[(.ref o), (.int (0 : Int32))] below meth c T0 h0 0 0 := Y0
  refine Gl.iloadN Y0 rfl d_prog_137_method_32_0 rfl ?_
  refine Gl.aloadN Y0 rfl rfl d_prog_137_method_32_1 rfl ?_
  refine Gl.getF Y0 (host := "") (Or.inl (tw_14 hw)) Via.refl F_o d_prog_137_method_32_2 rfl (fun T2 Y2 => ?_)
  refine Gl.arraylength Y2 V_o d_prog_137_method_32_5 rfl ?_
  refine Gl.icmpge Y2 d_prog_137_method_32_6 (by decide) rfl rfl (fun c6 => ?_) (fun c6 => ?_)
  · exact absurd c6 (by decide)
  refine Gl.aloadN Y2 rfl rfl d_prog_137_method_32_9 rfl ?_
  refine Gl.getF Y2 (host := "") (Or.inl (tw_14 hw)) Via.refl F_o d_prog_137_method_32_10 rfl (fun T10 Y10 => ?_)
  refine Gl.iloadN Y10 rfl d_prog_137_method_32_13 rfl ?_
  refine Gl.laload Y10 V_o ⟨by decide, by decide⟩ (v := (.long x0)) rfl d_prog_137_method_32_14 rfl ?_
  refine Gl.goto Y10 d_prog_137_method_32_15 (by decide) rfl ?_
  exact Gl.retJ Y10 (by decide) (by decide)  d_prog_137_method_32_25 ⟨rfl, rfl⟩
def R78 : Room := { frames := 0, cells := 0, slots := 0, locals := 0 }
def Q78 (Z : State) (o : Addr) (wo : Addr) (ko : ClassId) (x0 : Int64) (x1 : Int64) (x2 : Int64) (x3 : Int64) (h0 : Heap) (v : Option Value) (h : Heap) : Prop := v = some (.long x1) ∧ h0 = h
theorem ef78 (o : Addr) (m : MethodId) : entryFrame m #[(.ref o), (.int (1 : Int32))] 2 = mkF m 0 #[.val (.ref o), .val (.int (1 : Int32))] [] := by first | (simp [entryFrame, mkF, argsToLocals, Value.category]; done) | rfl
set_option maxRecDepth 65536 in
set_option maxHeartbeats 40000000 in
theorem rm78 (l : Launch) (Z : State) (a0 : Array Value) (hw : ∀ d ∈ tables_1, d.before a0 Z = true) (ws : List Jvm.Cond) (o : Addr) (wo : Addr) (ko : ClassId) (x0 : Int64) (x1 : Int64) (x2 : Int64) (x3 : Int64) (h0 : Heap) (n0 : Nat) (Z0 : n0 ≤ h0.size) (E_o : Exa Z h0 o "com/example/meterwise/meterwise/model/WholeNumber") (F_o : Fld Z h0 o "com/example/meterwise/meterwise/model/WholeNumber" "words" "[J" (.ref wo)) (V_o : Arv Z h0 wo ko .long (4 : Int32) [(.long x0), (.long x1), (.long x2), (.long x3)] (.long (0 : Int64))) : OMet l Z ws (⟨"com/example/meterwise/meterwise/model/WholeNumber", "word", "(I)J"⟩ : MethodName) prog_137_method_32_code 2 (some .long) R78 #[(.ref o), (.int (1 : Int32))] h0 n0 (Q78 Z o wo ko x0 x1 x2 x3 h0) := by
  refine OMet.of (plainFor_of_name pn_0) (ef78 o) Z0 ?_
  intro p e s m below meth c T0 Y0 hnm
  have Y0 : Sd Z "com/example/meterwise/meterwise/model/WholeNumber" prog_137_method_32_code 2 (some .long) n0 p l e R78 s m #[(.ref o), (.int (1 : Int32))] below meth c T0 h0 0 0 := Y0
  refine Gl.iloadN Y0 rfl d_prog_137_method_32_0 rfl ?_
  refine Gl.aloadN Y0 rfl rfl d_prog_137_method_32_1 rfl ?_
  refine Gl.getF Y0 (host := "") (Or.inl (tw_14 hw)) Via.refl F_o d_prog_137_method_32_2 rfl (fun T2 Y2 => ?_)
  refine Gl.arraylength Y2 V_o d_prog_137_method_32_5 rfl ?_
  refine Gl.icmpge Y2 d_prog_137_method_32_6 (by decide) rfl rfl (fun c6 => ?_) (fun c6 => ?_)
  · exact absurd c6 (by decide)
  refine Gl.aloadN Y2 rfl rfl d_prog_137_method_32_9 rfl ?_
  refine Gl.getF Y2 (host := "") (Or.inl (tw_14 hw)) Via.refl F_o d_prog_137_method_32_10 rfl (fun T10 Y10 => ?_)
  refine Gl.iloadN Y10 rfl d_prog_137_method_32_13 rfl ?_
  refine Gl.laload Y10 V_o ⟨by decide, by decide⟩ (v := (.long x1)) rfl d_prog_137_method_32_14 rfl ?_
  refine Gl.goto Y10 d_prog_137_method_32_15 (by decide) rfl ?_
  exact Gl.retJ Y10 (by decide) (by decide)  d_prog_137_method_32_25 ⟨rfl, rfl⟩
def R79 : Room := { frames := 0, cells := 0, slots := 0, locals := 0 }
def Q79 (Z : State) (o : Addr) (wo : Addr) (ko : ClassId) (x0 : Int64) (x1 : Int64) (x2 : Int64) (x3 : Int64) (h0 : Heap) (v : Option Value) (h : Heap) : Prop := v = some (.long x2) ∧ h0 = h
theorem ef79 (o : Addr) (m : MethodId) : entryFrame m #[(.ref o), (.int (2 : Int32))] 2 = mkF m 0 #[.val (.ref o), .val (.int (2 : Int32))] [] := by first | (simp [entryFrame, mkF, argsToLocals, Value.category]; done) | rfl
set_option maxRecDepth 65536 in
set_option maxHeartbeats 40000000 in
theorem rm79 (l : Launch) (Z : State) (a0 : Array Value) (hw : ∀ d ∈ tables_1, d.before a0 Z = true) (ws : List Jvm.Cond) (o : Addr) (wo : Addr) (ko : ClassId) (x0 : Int64) (x1 : Int64) (x2 : Int64) (x3 : Int64) (h0 : Heap) (n0 : Nat) (Z0 : n0 ≤ h0.size) (E_o : Exa Z h0 o "com/example/meterwise/meterwise/model/WholeNumber") (F_o : Fld Z h0 o "com/example/meterwise/meterwise/model/WholeNumber" "words" "[J" (.ref wo)) (V_o : Arv Z h0 wo ko .long (4 : Int32) [(.long x0), (.long x1), (.long x2), (.long x3)] (.long (0 : Int64))) : OMet l Z ws (⟨"com/example/meterwise/meterwise/model/WholeNumber", "word", "(I)J"⟩ : MethodName) prog_137_method_32_code 2 (some .long) R79 #[(.ref o), (.int (2 : Int32))] h0 n0 (Q79 Z o wo ko x0 x1 x2 x3 h0) := by
  refine OMet.of (plainFor_of_name pn_0) (ef79 o) Z0 ?_
  intro p e s m below meth c T0 Y0 hnm
  have Y0 : Sd Z "com/example/meterwise/meterwise/model/WholeNumber" prog_137_method_32_code 2 (some .long) n0 p l e R79 s m #[(.ref o), (.int (2 : Int32))] below meth c T0 h0 0 0 := Y0
  refine Gl.iloadN Y0 rfl d_prog_137_method_32_0 rfl ?_
  refine Gl.aloadN Y0 rfl rfl d_prog_137_method_32_1 rfl ?_
  refine Gl.getF Y0 (host := "") (Or.inl (tw_14 hw)) Via.refl F_o d_prog_137_method_32_2 rfl (fun T2 Y2 => ?_)
  refine Gl.arraylength Y2 V_o d_prog_137_method_32_5 rfl ?_
  refine Gl.icmpge Y2 d_prog_137_method_32_6 (by decide) rfl rfl (fun c6 => ?_) (fun c6 => ?_)
  · exact absurd c6 (by decide)
  refine Gl.aloadN Y2 rfl rfl d_prog_137_method_32_9 rfl ?_
  refine Gl.getF Y2 (host := "") (Or.inl (tw_14 hw)) Via.refl F_o d_prog_137_method_32_10 rfl (fun T10 Y10 => ?_)
  refine Gl.iloadN Y10 rfl d_prog_137_method_32_13 rfl ?_
  refine Gl.laload Y10 V_o ⟨by decide, by decide⟩ (v := (.long x2)) rfl d_prog_137_method_32_14 rfl ?_
  refine Gl.goto Y10 d_prog_137_method_32_15 (by decide) rfl ?_
  exact Gl.retJ Y10 (by decide) (by decide)  d_prog_137_method_32_25 ⟨rfl, rfl⟩
def R80 : Room := { frames := 0, cells := 0, slots := 0, locals := 0 }
def Q80 (Z : State) (o : Addr) (wo : Addr) (ko : ClassId) (x0 : Int64) (x1 : Int64) (x2 : Int64) (x3 : Int64) (h0 : Heap) (v : Option Value) (h : Heap) : Prop := v = some (.long x3) ∧ h0 = h
theorem ef80 (o : Addr) (m : MethodId) : entryFrame m #[(.ref o), (.int (3 : Int32))] 2 = mkF m 0 #[.val (.ref o), .val (.int (3 : Int32))] [] := by first | (simp [entryFrame, mkF, argsToLocals, Value.category]; done) | rfl
set_option maxRecDepth 65536 in
set_option maxHeartbeats 40000000 in
theorem rm80 (l : Launch) (Z : State) (a0 : Array Value) (hw : ∀ d ∈ tables_1, d.before a0 Z = true) (ws : List Jvm.Cond) (o : Addr) (wo : Addr) (ko : ClassId) (x0 : Int64) (x1 : Int64) (x2 : Int64) (x3 : Int64) (h0 : Heap) (n0 : Nat) (Z0 : n0 ≤ h0.size) (E_o : Exa Z h0 o "com/example/meterwise/meterwise/model/WholeNumber") (F_o : Fld Z h0 o "com/example/meterwise/meterwise/model/WholeNumber" "words" "[J" (.ref wo)) (V_o : Arv Z h0 wo ko .long (4 : Int32) [(.long x0), (.long x1), (.long x2), (.long x3)] (.long (0 : Int64))) : OMet l Z ws (⟨"com/example/meterwise/meterwise/model/WholeNumber", "word", "(I)J"⟩ : MethodName) prog_137_method_32_code 2 (some .long) R80 #[(.ref o), (.int (3 : Int32))] h0 n0 (Q80 Z o wo ko x0 x1 x2 x3 h0) := by
  refine OMet.of (plainFor_of_name pn_0) (ef80 o) Z0 ?_
  intro p e s m below meth c T0 Y0 hnm
  have Y0 : Sd Z "com/example/meterwise/meterwise/model/WholeNumber" prog_137_method_32_code 2 (some .long) n0 p l e R80 s m #[(.ref o), (.int (3 : Int32))] below meth c T0 h0 0 0 := Y0
  refine Gl.iloadN Y0 rfl d_prog_137_method_32_0 rfl ?_
  refine Gl.aloadN Y0 rfl rfl d_prog_137_method_32_1 rfl ?_
  refine Gl.getF Y0 (host := "") (Or.inl (tw_14 hw)) Via.refl F_o d_prog_137_method_32_2 rfl (fun T2 Y2 => ?_)
  refine Gl.arraylength Y2 V_o d_prog_137_method_32_5 rfl ?_
  refine Gl.icmpge Y2 d_prog_137_method_32_6 (by decide) rfl rfl (fun c6 => ?_) (fun c6 => ?_)
  · exact absurd c6 (by decide)
  refine Gl.aloadN Y2 rfl rfl d_prog_137_method_32_9 rfl ?_
  refine Gl.getF Y2 (host := "") (Or.inl (tw_14 hw)) Via.refl F_o d_prog_137_method_32_10 rfl (fun T10 Y10 => ?_)
  refine Gl.iloadN Y10 rfl d_prog_137_method_32_13 rfl ?_
  refine Gl.laload Y10 V_o ⟨by decide, by decide⟩ (v := (.long x3)) rfl d_prog_137_method_32_14 rfl ?_
  refine Gl.goto Y10 d_prog_137_method_32_15 (by decide) rfl ?_
  exact Gl.retJ Y10 (by decide) (by decide)  d_prog_137_method_32_25 ⟨rfl, rfl⟩
def R81 : Room := { frames := 1, cells := 0, slots := 0, locals := 13 }
def Q81 (Z : State) (o : Addr) (wo : Addr) (ko : ClassId) (x0 : Int64) (x1 : Int64) (x2 : Int64) (x3 : Int64) (u : Addr) (wu : Addr) (ku : ClassId) (h0 : Heap) (v : Option Value) (h : Heap) : Prop := v = some (.int (0 : Int32)) ∧ h0 = h
theorem ef81 (o : Addr) (u : Addr) (m : MethodId) : entryFrame m #[(.ref o), (.ref u)] 8 = mkF m 0 #[.val (.ref o), .val (.ref u), .unset, .unset, .unset, .unset, .unset, .unset] [] := by first | (simp [entryFrame, mkF, argsToLocals, Value.category]; done) | rfl
set_option maxRecDepth 65536 in
set_option maxHeartbeats 40000000 in
theorem rm81 (l : Launch) (Z : State) (a0 : Array Value) (hw : ∀ d ∈ tables_1, d.before a0 Z = true) (ws : List Jvm.Cond) (o : Addr) (wo : Addr) (ko : ClassId) (x0 : Int64) (x1 : Int64) (x2 : Int64) (x3 : Int64) (u : Addr) (wu : Addr) (ku : ClassId) (h0 : Heap) (n0 : Nat) (Z0 : n0 ≤ h0.size) (E_o : Exa Z h0 o "com/example/meterwise/meterwise/model/WholeNumber") (F_o : Fld Z h0 o "com/example/meterwise/meterwise/model/WholeNumber" "words" "[J" (.ref wo)) (V_o : Arv Z h0 wo ko .long (4 : Int32) [(.long x0), (.long x1), (.long x2), (.long x3)] (.long (0 : Int64))) (E_u : Exa Z h0 u "com/example/meterwise/meterwise/model/WholeNumber") (F_u : Fld Z h0 u "com/example/meterwise/meterwise/model/WholeNumber" "words" "[J" (.ref wu)) (V_u : Arv Z h0 wu ku .long (4 : Int32) [(.long x0), (.long x1), (.long x2), (.long x3)] (.long (0 : Int64))) : OMet l Z ws (⟨"com/example/meterwise/meterwise/model/WholeNumber", "compareTo", "(Lcom/example/meterwise/meterwise/model/WholeNumber;)I"⟩ : MethodName) prog_137_method_11_code 8 (some .int) R81 #[(.ref o), (.ref u)] h0 n0 (Q81 Z o wo ko x0 x1 x2 x3 u wu ku h0) := by
  refine OMet.of (plainFor_of_name pn_0) (ef81 o u) Z0 ?_
  intro p e s m below meth c T0 Y0 hnm
  have Y0 : Sd Z "com/example/meterwise/meterwise/model/WholeNumber" prog_137_method_11_code 8 (some .int) n0 p l e R81 s m #[(.ref o), (.ref u)] below meth c T0 h0 0 0 := Y0
  refine Gl.aloadN Y0 rfl rfl d_prog_137_method_11_0 rfl ?_
  refine Gl.getF Y0 (host := "") (Or.inl (tw_14 hw)) Via.refl F_o d_prog_137_method_11_1 rfl (fun T1 Y1 => ?_)
  refine Gl.arraylength Y1 V_o d_prog_137_method_11_4 rfl ?_
  refine Gl.aloadN Y1 rfl rfl d_prog_137_method_11_5 rfl ?_
  refine Gl.getF Y1 (host := "") (Or.inl (tw_14 hw)) Via.refl F_u d_prog_137_method_11_6 rfl (fun T6 Y6 => ?_)
  refine Gl.arraylength Y6 V_u d_prog_137_method_11_9 rfl ?_
  refine Gl.callS Y6 (tw_71 hw) (tw_72 hw) (tw_73 hw) (tw_74 hw) (by decide) (rm69 l Z a0 hw [] h0 n0 Y6.sz) (argsL := [(.int (4 : Int32)), (.int (4 : Int32))]) (rest := []) rfl rfl (lenOf pd_6 rfl) rfl (by decide) (Nat.le_of_ble_eq_true rfl) (by decide) (by decide) d_prog_137_method_11_10 rfl (fun v10 T10 h10 Y10 q10 => ?_)
  obtain ⟨rfl, rfl⟩ := q10
  show Gl p e below _ (T10.setTop (mkF m 13 #[.val (.ref o), .val (.ref u), .unset, .unset, .unset, .unset, .unset, .unset] [(.int (4 : Int32))]))
  refine Gl.istoreN Y10 (L' := #[.val (.ref o), .val (.ref u), .val (.int (4 : Int32)), .unset, .unset, .unset, .unset, .unset]) rfl d_prog_137_method_11_13 rfl ?_
  refine Gl.iloadN Y10 rfl d_prog_137_method_11_14 rfl ?_
  refine Gl.iconst Y10 (v := (1 : Int32)) (by decide) d_prog_137_method_11_15 rfl ?_
  refine Gl.isub Y10 (r := (3 : Int32)) (by decide) d_prog_137_method_11_16 rfl ?_
  refine Gl.istoreN Y10 (L' := #[.val (.ref o), .val (.ref u), .val (.int (4 : Int32)), .val (.int (3 : Int32)), .unset, .unset, .unset, .unset]) rfl d_prog_137_method_11_17 rfl ?_
  refine Gl.iloadN Y10 rfl d_prog_137_method_11_18 rfl ?_
  refine Gl.iflt Y10 d_prog_137_method_11_19 (by decide) rfl rfl (fun c19 => ?_) (fun c19 => ?_)
  · exact absurd c19 (by decide)
  refine Gl.aloadN Y10 rfl rfl d_prog_137_method_11_22 rfl ?_
  refine Gl.iloadN Y10 rfl d_prog_137_method_11_23 rfl ?_
  refine Gl.callP Y10 (tw_75 hw) (tw_76 hw) (tw_77 hw) (tw_1 hw) (tw_2 hw) (tw_78 hw) (by decide) E_o (rm80 l Z a0 hw [] o wo ko x0 x1 x2 x3 h0 n0 Y10.sz E_o F_o V_o) (a := o) (argsL := [(.int (3 : Int32))]) (rest := []) rfl rfl (lenOf pd_8 rfl) rfl (by decide) (Nat.le_of_ble_eq_true rfl) (by decide) (by decide) d_prog_137_method_11_24 rfl (fun v24 T24 h24 Y24 q24 => ?_)
  obtain ⟨rfl, rfl⟩ := q24
  show Gl p e below _ (T24.setTop (mkF m 27 #[.val (.ref o), .val (.ref u), .val (.int (4 : Int32)), .val (.int (3 : Int32)), .unset, .unset, .unset, .unset] [(.long x3)]))
  refine Gl.lstore Y24 (L' := #[.val (.ref o), .val (.ref u), .val (.int (4 : Int32)), .val (.int (3 : Int32)), .val (.long x3), .second, .unset, .unset]) rfl d_prog_137_method_11_27 rfl ?_
  refine Gl.aloadN Y24 rfl rfl d_prog_137_method_11_29 rfl ?_
  refine Gl.iloadN Y24 rfl d_prog_137_method_11_30 rfl ?_
  refine Gl.callP Y24 (tw_75 hw) (tw_76 hw) (tw_77 hw) (tw_1 hw) (tw_2 hw) (tw_78 hw) (by decide) E_u (rm80 l Z a0 hw [] u wu ku x0 x1 x2 x3 h0 n0 Y24.sz E_u F_u V_u) (a := u) (argsL := [(.int (3 : Int32))]) (rest := []) rfl rfl (lenOf pd_8 rfl) rfl (by decide) (Nat.le_of_ble_eq_true rfl) (by decide) (by decide) d_prog_137_method_11_31 rfl (fun v31 T31 h31 Y31 q31 => ?_)
  obtain ⟨rfl, rfl⟩ := q31
  show Gl p e below _ (T31.setTop (mkF m 34 #[.val (.ref o), .val (.ref u), .val (.int (4 : Int32)), .val (.int (3 : Int32)), .val (.long x3), .second, .unset, .unset] [(.long x3)]))
  refine Gl.lstore Y31 (L' := #[.val (.ref o), .val (.ref u), .val (.int (4 : Int32)), .val (.int (3 : Int32)), .val (.long x3), .second, .val (.long x3), .second]) rfl d_prog_137_method_11_34 rfl ?_
  refine Gl.lload Y31 rfl d_prog_137_method_11_36 rfl ?_
  refine Gl.lload Y31 rfl d_prog_137_method_11_38 rfl ?_
  refine Gl.lcmpeq Y31 d_prog_137_method_11_40 rfl d_prog_137_method_11_41 (by decide) rfl rfl (fun c41 => ?_) (fun c41 => ?_)
  rotate_left
  · exact absurd rfl c41
  refine Gl.iinc Y31 rfl (r := (2 : Int32)) (by decide) (L' := #[.val (.ref o), .val (.ref u), .val (.int (4 : Int32)), .val (.int (2 : Int32)), .val (.long x3), .second, .val (.long x3), .second]) rfl d_prog_137_method_11_69 rfl ?_
  refine Gl.goto Y31 d_prog_137_method_11_72 (by decide) rfl ?_
  refine Gl.iloadN Y31 rfl d_prog_137_method_11_18 rfl ?_
  refine Gl.iflt Y31 d_prog_137_method_11_19 (by decide) rfl rfl (fun c19_2 => ?_) (fun c19_2 => ?_)
  · exact absurd c19_2 (by decide)
  refine Gl.aloadN Y31 rfl rfl d_prog_137_method_11_22 rfl ?_
  refine Gl.iloadN Y31 rfl d_prog_137_method_11_23 rfl ?_
  refine Gl.callP Y31 (tw_75 hw) (tw_76 hw) (tw_77 hw) (tw_1 hw) (tw_2 hw) (tw_78 hw) (by decide) E_o (rm79 l Z a0 hw [] o wo ko x0 x1 x2 x3 h0 n0 Y31.sz E_o F_o V_o) (a := o) (argsL := [(.int (2 : Int32))]) (rest := []) rfl rfl (lenOf pd_8 rfl) rfl (by decide) (Nat.le_of_ble_eq_true rfl) (by decide) (by decide) d_prog_137_method_11_24 rfl (fun v24_2 T24_2 h24_2 Y24_2 q24_2 => ?_)
  obtain ⟨rfl, rfl⟩ := q24_2
  show Gl p e below _ (T24_2.setTop (mkF m 27 #[.val (.ref o), .val (.ref u), .val (.int (4 : Int32)), .val (.int (2 : Int32)), .val (.long x3), .second, .val (.long x3), .second] [(.long x2)]))
  refine Gl.lstore Y24_2 (L' := #[.val (.ref o), .val (.ref u), .val (.int (4 : Int32)), .val (.int (2 : Int32)), .val (.long x2), .second, .val (.long x3), .second]) rfl d_prog_137_method_11_27 rfl ?_
  refine Gl.aloadN Y24_2 rfl rfl d_prog_137_method_11_29 rfl ?_
  refine Gl.iloadN Y24_2 rfl d_prog_137_method_11_30 rfl ?_
  refine Gl.callP Y24_2 (tw_75 hw) (tw_76 hw) (tw_77 hw) (tw_1 hw) (tw_2 hw) (tw_78 hw) (by decide) E_u (rm79 l Z a0 hw [] u wu ku x0 x1 x2 x3 h0 n0 Y24_2.sz E_u F_u V_u) (a := u) (argsL := [(.int (2 : Int32))]) (rest := []) rfl rfl (lenOf pd_8 rfl) rfl (by decide) (Nat.le_of_ble_eq_true rfl) (by decide) (by decide) d_prog_137_method_11_31 rfl (fun v31_2 T31_2 h31_2 Y31_2 q31_2 => ?_)
  obtain ⟨rfl, rfl⟩ := q31_2
  show Gl p e below _ (T31_2.setTop (mkF m 34 #[.val (.ref o), .val (.ref u), .val (.int (4 : Int32)), .val (.int (2 : Int32)), .val (.long x2), .second, .val (.long x3), .second] [(.long x2)]))
  refine Gl.lstore Y31_2 (L' := #[.val (.ref o), .val (.ref u), .val (.int (4 : Int32)), .val (.int (2 : Int32)), .val (.long x2), .second, .val (.long x2), .second]) rfl d_prog_137_method_11_34 rfl ?_
  refine Gl.lload Y31_2 rfl d_prog_137_method_11_36 rfl ?_
  refine Gl.lload Y31_2 rfl d_prog_137_method_11_38 rfl ?_
  refine Gl.lcmpeq Y31_2 d_prog_137_method_11_40 rfl d_prog_137_method_11_41 (by decide) rfl rfl (fun c41_2 => ?_) (fun c41_2 => ?_)
  rotate_left
  · exact absurd rfl c41_2
  refine Gl.iinc Y31_2 rfl (r := (1 : Int32)) (by decide) (L' := #[.val (.ref o), .val (.ref u), .val (.int (4 : Int32)), .val (.int (1 : Int32)), .val (.long x2), .second, .val (.long x2), .second]) rfl d_prog_137_method_11_69 rfl ?_
  refine Gl.goto Y31_2 d_prog_137_method_11_72 (by decide) rfl ?_
  refine Gl.iloadN Y31_2 rfl d_prog_137_method_11_18 rfl ?_
  refine Gl.iflt Y31_2 d_prog_137_method_11_19 (by decide) rfl rfl (fun c19_3 => ?_) (fun c19_3 => ?_)
  · exact absurd c19_3 (by decide)
  refine Gl.aloadN Y31_2 rfl rfl d_prog_137_method_11_22 rfl ?_
  refine Gl.iloadN Y31_2 rfl d_prog_137_method_11_23 rfl ?_
  refine Gl.callP Y31_2 (tw_75 hw) (tw_76 hw) (tw_77 hw) (tw_1 hw) (tw_2 hw) (tw_78 hw) (by decide) E_o (rm78 l Z a0 hw [] o wo ko x0 x1 x2 x3 h0 n0 Y31_2.sz E_o F_o V_o) (a := o) (argsL := [(.int (1 : Int32))]) (rest := []) rfl rfl (lenOf pd_8 rfl) rfl (by decide) (Nat.le_of_ble_eq_true rfl) (by decide) (by decide) d_prog_137_method_11_24 rfl (fun v24_3 T24_3 h24_3 Y24_3 q24_3 => ?_)
  obtain ⟨rfl, rfl⟩ := q24_3
  show Gl p e below _ (T24_3.setTop (mkF m 27 #[.val (.ref o), .val (.ref u), .val (.int (4 : Int32)), .val (.int (1 : Int32)), .val (.long x2), .second, .val (.long x2), .second] [(.long x1)]))
  refine Gl.lstore Y24_3 (L' := #[.val (.ref o), .val (.ref u), .val (.int (4 : Int32)), .val (.int (1 : Int32)), .val (.long x1), .second, .val (.long x2), .second]) rfl d_prog_137_method_11_27 rfl ?_
  refine Gl.aloadN Y24_3 rfl rfl d_prog_137_method_11_29 rfl ?_
  refine Gl.iloadN Y24_3 rfl d_prog_137_method_11_30 rfl ?_
  refine Gl.callP Y24_3 (tw_75 hw) (tw_76 hw) (tw_77 hw) (tw_1 hw) (tw_2 hw) (tw_78 hw) (by decide) E_u (rm78 l Z a0 hw [] u wu ku x0 x1 x2 x3 h0 n0 Y24_3.sz E_u F_u V_u) (a := u) (argsL := [(.int (1 : Int32))]) (rest := []) rfl rfl (lenOf pd_8 rfl) rfl (by decide) (Nat.le_of_ble_eq_true rfl) (by decide) (by decide) d_prog_137_method_11_31 rfl (fun v31_3 T31_3 h31_3 Y31_3 q31_3 => ?_)
  obtain ⟨rfl, rfl⟩ := q31_3
  show Gl p e below _ (T31_3.setTop (mkF m 34 #[.val (.ref o), .val (.ref u), .val (.int (4 : Int32)), .val (.int (1 : Int32)), .val (.long x1), .second, .val (.long x2), .second] [(.long x1)]))
  refine Gl.lstore Y31_3 (L' := #[.val (.ref o), .val (.ref u), .val (.int (4 : Int32)), .val (.int (1 : Int32)), .val (.long x1), .second, .val (.long x1), .second]) rfl d_prog_137_method_11_34 rfl ?_
  refine Gl.lload Y31_3 rfl d_prog_137_method_11_36 rfl ?_
  refine Gl.lload Y31_3 rfl d_prog_137_method_11_38 rfl ?_
  refine Gl.lcmpeq Y31_3 d_prog_137_method_11_40 rfl d_prog_137_method_11_41 (by decide) rfl rfl (fun c41_3 => ?_) (fun c41_3 => ?_)
  rotate_left
  · exact absurd rfl c41_3
  refine Gl.iinc Y31_3 rfl (r := (0 : Int32)) (by decide) (L' := #[.val (.ref o), .val (.ref u), .val (.int (4 : Int32)), .val (.int (0 : Int32)), .val (.long x1), .second, .val (.long x1), .second]) rfl d_prog_137_method_11_69 rfl ?_
  refine Gl.goto Y31_3 d_prog_137_method_11_72 (by decide) rfl ?_
  refine Gl.iloadN Y31_3 rfl d_prog_137_method_11_18 rfl ?_
  refine Gl.iflt Y31_3 d_prog_137_method_11_19 (by decide) rfl rfl (fun c19_4 => ?_) (fun c19_4 => ?_)
  · exact absurd c19_4 (by decide)
  refine Gl.aloadN Y31_3 rfl rfl d_prog_137_method_11_22 rfl ?_
  refine Gl.iloadN Y31_3 rfl d_prog_137_method_11_23 rfl ?_
  refine Gl.callP Y31_3 (tw_75 hw) (tw_76 hw) (tw_77 hw) (tw_1 hw) (tw_2 hw) (tw_78 hw) (by decide) E_o (rm77 l Z a0 hw [] o wo ko x0 x1 x2 x3 h0 n0 Y31_3.sz E_o F_o V_o) (a := o) (argsL := [(.int (0 : Int32))]) (rest := []) rfl rfl (lenOf pd_8 rfl) rfl (by decide) (Nat.le_of_ble_eq_true rfl) (by decide) (by decide) d_prog_137_method_11_24 rfl (fun v24_4 T24_4 h24_4 Y24_4 q24_4 => ?_)
  obtain ⟨rfl, rfl⟩ := q24_4
  show Gl p e below _ (T24_4.setTop (mkF m 27 #[.val (.ref o), .val (.ref u), .val (.int (4 : Int32)), .val (.int (0 : Int32)), .val (.long x1), .second, .val (.long x1), .second] [(.long x0)]))
  refine Gl.lstore Y24_4 (L' := #[.val (.ref o), .val (.ref u), .val (.int (4 : Int32)), .val (.int (0 : Int32)), .val (.long x0), .second, .val (.long x1), .second]) rfl d_prog_137_method_11_27 rfl ?_
  refine Gl.aloadN Y24_4 rfl rfl d_prog_137_method_11_29 rfl ?_
  refine Gl.iloadN Y24_4 rfl d_prog_137_method_11_30 rfl ?_
  refine Gl.callP Y24_4 (tw_75 hw) (tw_76 hw) (tw_77 hw) (tw_1 hw) (tw_2 hw) (tw_78 hw) (by decide) E_u (rm77 l Z a0 hw [] u wu ku x0 x1 x2 x3 h0 n0 Y24_4.sz E_u F_u V_u) (a := u) (argsL := [(.int (0 : Int32))]) (rest := []) rfl rfl (lenOf pd_8 rfl) rfl (by decide) (Nat.le_of_ble_eq_true rfl) (by decide) (by decide) d_prog_137_method_11_31 rfl (fun v31_4 T31_4 h31_4 Y31_4 q31_4 => ?_)
  obtain ⟨rfl, rfl⟩ := q31_4
  show Gl p e below _ (T31_4.setTop (mkF m 34 #[.val (.ref o), .val (.ref u), .val (.int (4 : Int32)), .val (.int (0 : Int32)), .val (.long x0), .second, .val (.long x1), .second] [(.long x0)]))
  refine Gl.lstore Y31_4 (L' := #[.val (.ref o), .val (.ref u), .val (.int (4 : Int32)), .val (.int (0 : Int32)), .val (.long x0), .second, .val (.long x0), .second]) rfl d_prog_137_method_11_34 rfl ?_
  refine Gl.lload Y31_4 rfl d_prog_137_method_11_36 rfl ?_
  refine Gl.lload Y31_4 rfl d_prog_137_method_11_38 rfl ?_
  refine Gl.lcmpeq Y31_4 d_prog_137_method_11_40 rfl d_prog_137_method_11_41 (by decide) rfl rfl (fun c41_4 => ?_) (fun c41_4 => ?_)
  rotate_left
  · exact absurd rfl c41_4
  refine Gl.iinc Y31_4 rfl (r := (-1 : Int32)) (by decide) (L' := #[.val (.ref o), .val (.ref u), .val (.int (4 : Int32)), .val (.int (-1 : Int32)), .val (.long x0), .second, .val (.long x0), .second]) rfl d_prog_137_method_11_69 rfl ?_
  refine Gl.goto Y31_4 d_prog_137_method_11_72 (by decide) rfl ?_
  refine Gl.iloadN Y31_4 rfl d_prog_137_method_11_18 rfl ?_
  refine Gl.iflt Y31_4 d_prog_137_method_11_19 (by decide) rfl rfl (fun c19_5 => ?_) (fun c19_5 => ?_)
  rotate_left
  · exact absurd c19_5 (by decide)
  refine Gl.iconst Y31_4 (v := (0 : Int32)) (by decide) d_prog_137_method_11_75 rfl ?_
  exact Gl.retI Y31_4 (by decide) (by decide)  d_prog_137_method_11_76 ⟨rfl, rfl⟩
theorem tw_0 {a0 : Array Value} {Z : State} (hw : ∀ d ∈ tables_1, d.before a0 Z = true) : (Jvm.Cond.classLink "com/example/meterwise/meterwise/model/WholeNumberNegatePinLaw" (7 : Nat) "com/example/meterwise/meterwise/model/WholeNumber").before a0 Z = true := hw _ (List.mem_of_getElem? (i := 0) rfl)
theorem tw_3 {a0 : Array Value} {Z : State} (hw : ∀ d ∈ tables_1, d.before a0 Z = true) : (Jvm.Cond.methodLink "com/example/meterwise/meterwise/model/WholeNumberNegatePinLaw" (9 : Nat) ({ cls := "com/example/meterwise/meterwise/model/WholeNumber", name := "<init>", desc := "(I)V" } : Jvm.MethodName)).before a0 Z = true := hw _ (List.mem_of_getElem? (i := 3) rfl)
theorem pd_9 : parseMethodDescriptor "(I)V" = some ⟨[.int], none⟩ := by decide +kernel
theorem tw_5 {a0 : Array Value} {Z : State} (hw : ∀ d ∈ tables_1, d.before a0 Z = true) : (Jvm.Cond.code ({ cls := "com/example/meterwise/meterwise/model/WholeNumber", name := "<init>", desc := "(I)V" } : Jvm.MethodName) prog_137_method_1_code (4 : Nat) (Option.none : Option Jvm.ClassFile.FieldType)).before a0 Z = true := hw _ (List.mem_of_getElem? (i := 5) rfl)
theorem tw_4 {a0 : Array Value} {Z : State} (hw : ∀ d ∈ tables_1, d.before a0 Z = true) : (Jvm.Cond.instanceMethod ({ cls := "com/example/meterwise/meterwise/model/WholeNumber", name := "<init>", desc := "(I)V" } : Jvm.MethodName)).before a0 Z = true := hw _ (List.mem_of_getElem? (i := 4) rfl)
theorem tw_16 {a0 : Array Value} {Z : State} (hw : ∀ d ∈ tables_1, d.before a0 Z = true) : (Jvm.Cond.methodLink "com/example/meterwise/meterwise/model/WholeNumberNegatePinLaw" (12 : Nat) ({ cls := "com/example/meterwise/meterwise/model/WholeNumber", name := "set", desc := "(J)Lcom/example/meterwise/meterwise/model/WholeNumber;" } : Jvm.MethodName)).before a0 Z = true := hw _ (List.mem_of_getElem? (i := 16) rfl)
theorem pd_10 : parseMethodDescriptor "(J)Lcom/example/meterwise/meterwise/model/WholeNumber;" = some ⟨[.long], some (.object "com/example/meterwise/meterwise/model/WholeNumber")⟩ := by decide +kernel
theorem tw_20 {a0 : Array Value} {Z : State} (hw : ∀ d ∈ tables_1, d.before a0 Z = true) : (Jvm.Cond.code ({ cls := "com/example/meterwise/meterwise/model/WholeNumber", name := "set", desc := "(J)Lcom/example/meterwise/meterwise/model/WholeNumber;" } : Jvm.MethodName) prog_137_method_4_code (3 : Nat) (Option.some (Jvm.ClassFile.FieldType.object "com/example/meterwise/meterwise/model/WholeNumber"))).before a0 Z = true := hw _ (List.mem_of_getElem? (i := 20) rfl)
theorem tw_17 {a0 : Array Value} {Z : State} (hw : ∀ d ∈ tables_1, d.before a0 Z = true) : (Jvm.Cond.declares ({ cls := "com/example/meterwise/meterwise/model/WholeNumber", name := "set", desc := "(J)Lcom/example/meterwise/meterwise/model/WholeNumber;" } : Jvm.MethodName)).before a0 Z = true := hw _ (List.mem_of_getElem? (i := 17) rfl)
theorem tw_19 {a0 : Array Value} {Z : State} (hw : ∀ d ∈ tables_1, d.before a0 Z = true) : (Jvm.Cond.selects "com/example/meterwise/meterwise/model/WholeNumber" ({ cls := "com/example/meterwise/meterwise/model/WholeNumber", name := "set", desc := "(J)Lcom/example/meterwise/meterwise/model/WholeNumber;" } : Jvm.MethodName) ({ cls := "com/example/meterwise/meterwise/model/WholeNumber", name := "set", desc := "(J)Lcom/example/meterwise/meterwise/model/WholeNumber;" } : Jvm.MethodName)).before a0 Z = true := hw _ (List.mem_of_getElem? (i := 19) rfl)
theorem tw_18 {a0 : Array Value} {Z : State} (hw : ∀ d ∈ tables_1, d.before a0 Z = true) : (Jvm.Cond.instanceMethod ({ cls := "com/example/meterwise/meterwise/model/WholeNumber", name := "set", desc := "(J)Lcom/example/meterwise/meterwise/model/WholeNumber;" } : Jvm.MethodName)).before a0 Z = true := hw _ (List.mem_of_getElem? (i := 18) rfl)
theorem tw_79 {a0 : Array Value} {Z : State} (hw : ∀ d ∈ tables_1, d.before a0 Z = true) : (Jvm.Cond.methodLink "com/example/meterwise/meterwise/model/WholeNumberNegatePinLaw" (20 : Nat) ({ cls := "com/example/meterwise/meterwise/model/WholeNumber", name := "add", desc := "(Lcom/example/meterwise/meterwise/model/WholeNumber;)Lcom/example/meterwise/meterwise/model/WholeNumber;" } : Jvm.MethodName)).before a0 Z = true := hw _ (List.mem_of_getElem? (i := 79) rfl)
theorem pd_11 : parseMethodDescriptor "(Lcom/example/meterwise/meterwise/model/WholeNumber;)Lcom/example/meterwise/meterwise/model/WholeNumber;" = some ⟨[(.object "com/example/meterwise/meterwise/model/WholeNumber")], some (.object "com/example/meterwise/meterwise/model/WholeNumber")⟩ := by decide +kernel
theorem tw_83 {a0 : Array Value} {Z : State} (hw : ∀ d ∈ tables_1, d.before a0 Z = true) : (Jvm.Cond.code ({ cls := "com/example/meterwise/meterwise/model/WholeNumber", name := "add", desc := "(Lcom/example/meterwise/meterwise/model/WholeNumber;)Lcom/example/meterwise/meterwise/model/WholeNumber;" } : Jvm.MethodName) prog_137_method_12_code (2 : Nat) (Option.some (Jvm.ClassFile.FieldType.object "com/example/meterwise/meterwise/model/WholeNumber"))).before a0 Z = true := hw _ (List.mem_of_getElem? (i := 83) rfl)
theorem tw_80 {a0 : Array Value} {Z : State} (hw : ∀ d ∈ tables_1, d.before a0 Z = true) : (Jvm.Cond.declares ({ cls := "com/example/meterwise/meterwise/model/WholeNumber", name := "add", desc := "(Lcom/example/meterwise/meterwise/model/WholeNumber;)Lcom/example/meterwise/meterwise/model/WholeNumber;" } : Jvm.MethodName)).before a0 Z = true := hw _ (List.mem_of_getElem? (i := 80) rfl)
theorem tw_82 {a0 : Array Value} {Z : State} (hw : ∀ d ∈ tables_1, d.before a0 Z = true) : (Jvm.Cond.selects "com/example/meterwise/meterwise/model/WholeNumber" ({ cls := "com/example/meterwise/meterwise/model/WholeNumber", name := "add", desc := "(Lcom/example/meterwise/meterwise/model/WholeNumber;)Lcom/example/meterwise/meterwise/model/WholeNumber;" } : Jvm.MethodName) ({ cls := "com/example/meterwise/meterwise/model/WholeNumber", name := "add", desc := "(Lcom/example/meterwise/meterwise/model/WholeNumber;)Lcom/example/meterwise/meterwise/model/WholeNumber;" } : Jvm.MethodName)).before a0 Z = true := hw _ (List.mem_of_getElem? (i := 82) rfl)
theorem tw_81 {a0 : Array Value} {Z : State} (hw : ∀ d ∈ tables_1, d.before a0 Z = true) : (Jvm.Cond.instanceMethod ({ cls := "com/example/meterwise/meterwise/model/WholeNumber", name := "add", desc := "(Lcom/example/meterwise/meterwise/model/WholeNumber;)Lcom/example/meterwise/meterwise/model/WholeNumber;" } : Jvm.MethodName)).before a0 Z = true := hw _ (List.mem_of_getElem? (i := 81) rfl)
theorem tw_37 {a0 : Array Value} {Z : State} (hw : ∀ d ∈ tables_1, d.before a0 Z = true) : (Jvm.Cond.methodLink "com/example/meterwise/meterwise/model/WholeNumberNegatePinLaw" (24 : Nat) ({ cls := "com/example/meterwise/meterwise/model/WholeNumber", name := "subtract", desc := "(Lcom/example/meterwise/meterwise/model/WholeNumber;)Lcom/example/meterwise/meterwise/model/WholeNumber;" } : Jvm.MethodName)).before a0 Z = true := hw _ (List.mem_of_getElem? (i := 37) rfl)
theorem tw_41 {a0 : Array Value} {Z : State} (hw : ∀ d ∈ tables_1, d.before a0 Z = true) : (Jvm.Cond.code ({ cls := "com/example/meterwise/meterwise/model/WholeNumber", name := "subtract", desc := "(Lcom/example/meterwise/meterwise/model/WholeNumber;)Lcom/example/meterwise/meterwise/model/WholeNumber;" } : Jvm.MethodName) prog_137_method_13_code (2 : Nat) (Option.some (Jvm.ClassFile.FieldType.object "com/example/meterwise/meterwise/model/WholeNumber"))).before a0 Z = true := hw _ (List.mem_of_getElem? (i := 41) rfl)
theorem tw_38 {a0 : Array Value} {Z : State} (hw : ∀ d ∈ tables_1, d.before a0 Z = true) : (Jvm.Cond.declares ({ cls := "com/example/meterwise/meterwise/model/WholeNumber", name := "subtract", desc := "(Lcom/example/meterwise/meterwise/model/WholeNumber;)Lcom/example/meterwise/meterwise/model/WholeNumber;" } : Jvm.MethodName)).before a0 Z = true := hw _ (List.mem_of_getElem? (i := 38) rfl)
theorem tw_40 {a0 : Array Value} {Z : State} (hw : ∀ d ∈ tables_1, d.before a0 Z = true) : (Jvm.Cond.selects "com/example/meterwise/meterwise/model/WholeNumber" ({ cls := "com/example/meterwise/meterwise/model/WholeNumber", name := "subtract", desc := "(Lcom/example/meterwise/meterwise/model/WholeNumber;)Lcom/example/meterwise/meterwise/model/WholeNumber;" } : Jvm.MethodName) ({ cls := "com/example/meterwise/meterwise/model/WholeNumber", name := "subtract", desc := "(Lcom/example/meterwise/meterwise/model/WholeNumber;)Lcom/example/meterwise/meterwise/model/WholeNumber;" } : Jvm.MethodName)).before a0 Z = true := hw _ (List.mem_of_getElem? (i := 40) rfl)
theorem tw_39 {a0 : Array Value} {Z : State} (hw : ∀ d ∈ tables_1, d.before a0 Z = true) : (Jvm.Cond.instanceMethod ({ cls := "com/example/meterwise/meterwise/model/WholeNumber", name := "subtract", desc := "(Lcom/example/meterwise/meterwise/model/WholeNumber;)Lcom/example/meterwise/meterwise/model/WholeNumber;" } : Jvm.MethodName)).before a0 Z = true := hw _ (List.mem_of_getElem? (i := 39) rfl)
theorem tw_60 {a0 : Array Value} {Z : State} (hw : ∀ d ∈ tables_1, d.before a0 Z = true) : (Jvm.Cond.methodLink "com/example/meterwise/meterwise/model/WholeNumberNegatePinLaw" (27 : Nat) ({ cls := "com/example/meterwise/meterwise/model/WholeNumber", name := "negate", desc := "()Lcom/example/meterwise/meterwise/model/WholeNumber;" } : Jvm.MethodName)).before a0 Z = true := hw _ (List.mem_of_getElem? (i := 60) rfl)
theorem tw_64 {a0 : Array Value} {Z : State} (hw : ∀ d ∈ tables_1, d.before a0 Z = true) : (Jvm.Cond.code ({ cls := "com/example/meterwise/meterwise/model/WholeNumber", name := "negate", desc := "()Lcom/example/meterwise/meterwise/model/WholeNumber;" } : Jvm.MethodName) prog_137_method_19_code (4 : Nat) (Option.some (Jvm.ClassFile.FieldType.object "com/example/meterwise/meterwise/model/WholeNumber"))).before a0 Z = true := hw _ (List.mem_of_getElem? (i := 64) rfl)
theorem tw_61 {a0 : Array Value} {Z : State} (hw : ∀ d ∈ tables_1, d.before a0 Z = true) : (Jvm.Cond.declares ({ cls := "com/example/meterwise/meterwise/model/WholeNumber", name := "negate", desc := "()Lcom/example/meterwise/meterwise/model/WholeNumber;" } : Jvm.MethodName)).before a0 Z = true := hw _ (List.mem_of_getElem? (i := 61) rfl)
theorem tw_63 {a0 : Array Value} {Z : State} (hw : ∀ d ∈ tables_1, d.before a0 Z = true) : (Jvm.Cond.selects "com/example/meterwise/meterwise/model/WholeNumber" ({ cls := "com/example/meterwise/meterwise/model/WholeNumber", name := "negate", desc := "()Lcom/example/meterwise/meterwise/model/WholeNumber;" } : Jvm.MethodName) ({ cls := "com/example/meterwise/meterwise/model/WholeNumber", name := "negate", desc := "()Lcom/example/meterwise/meterwise/model/WholeNumber;" } : Jvm.MethodName)).before a0 Z = true := hw _ (List.mem_of_getElem? (i := 63) rfl)
theorem tw_62 {a0 : Array Value} {Z : State} (hw : ∀ d ∈ tables_1, d.before a0 Z = true) : (Jvm.Cond.instanceMethod ({ cls := "com/example/meterwise/meterwise/model/WholeNumber", name := "negate", desc := "()Lcom/example/meterwise/meterwise/model/WholeNumber;" } : Jvm.MethodName)).before a0 Z = true := hw _ (List.mem_of_getElem? (i := 62) rfl)
theorem tw_66 {a0 : Array Value} {Z : State} (hw : ∀ d ∈ tables_1, d.before a0 Z = true) : (Jvm.Cond.methodLink "com/example/meterwise/meterwise/model/WholeNumberNegatePinLaw" (30 : Nat) ({ cls := "com/example/meterwise/meterwise/model/WholeNumber", name := "compareTo", desc := "(Lcom/example/meterwise/meterwise/model/WholeNumber;)I" } : Jvm.MethodName)).before a0 Z = true := hw _ (List.mem_of_getElem? (i := 66) rfl)
theorem pd_12 : parseMethodDescriptor "(Lcom/example/meterwise/meterwise/model/WholeNumber;)I" = some ⟨[(.object "com/example/meterwise/meterwise/model/WholeNumber")], some .int⟩ := by decide +kernel
theorem tw_70 {a0 : Array Value} {Z : State} (hw : ∀ d ∈ tables_1, d.before a0 Z = true) : (Jvm.Cond.code ({ cls := "com/example/meterwise/meterwise/model/WholeNumber", name := "compareTo", desc := "(Lcom/example/meterwise/meterwise/model/WholeNumber;)I" } : Jvm.MethodName) prog_137_method_11_code (8 : Nat) (Option.some Jvm.ClassFile.FieldType.int)).before a0 Z = true := hw _ (List.mem_of_getElem? (i := 70) rfl)
theorem tw_67 {a0 : Array Value} {Z : State} (hw : ∀ d ∈ tables_1, d.before a0 Z = true) : (Jvm.Cond.declares ({ cls := "com/example/meterwise/meterwise/model/WholeNumber", name := "compareTo", desc := "(Lcom/example/meterwise/meterwise/model/WholeNumber;)I" } : Jvm.MethodName)).before a0 Z = true := hw _ (List.mem_of_getElem? (i := 67) rfl)
theorem tw_69 {a0 : Array Value} {Z : State} (hw : ∀ d ∈ tables_1, d.before a0 Z = true) : (Jvm.Cond.selects "com/example/meterwise/meterwise/model/WholeNumber" ({ cls := "com/example/meterwise/meterwise/model/WholeNumber", name := "compareTo", desc := "(Lcom/example/meterwise/meterwise/model/WholeNumber;)I" } : Jvm.MethodName) ({ cls := "com/example/meterwise/meterwise/model/WholeNumber", name := "compareTo", desc := "(Lcom/example/meterwise/meterwise/model/WholeNumber;)I" } : Jvm.MethodName)).before a0 Z = true := hw _ (List.mem_of_getElem? (i := 69) rfl)
theorem tw_68 {a0 : Array Value} {Z : State} (hw : ∀ d ∈ tables_1, d.before a0 Z = true) : (Jvm.Cond.instanceMethod ({ cls := "com/example/meterwise/meterwise/model/WholeNumber", name := "compareTo", desc := "(Lcom/example/meterwise/meterwise/model/WholeNumber;)I" } : Jvm.MethodName)).before a0 Z = true := hw _ (List.mem_of_getElem? (i := 68) rfl)
theorem tw_28 {a0 : Array Value} {Z : State} (hw : ∀ d ∈ tables_1, d.before a0 Z = true) : (Jvm.Cond.methodLink "com/example/meterwise/meterwise/model/WholeNumberNegatePinLaw" (16 : Nat) ({ cls := "com/example/meterwise/meterwise/model/WholeNumber", name := "overflow", desc := "()Lcom/example/meterwise/meterwise/model/WholeNumber;" } : Jvm.MethodName)).before a0 Z = true := hw _ (List.mem_of_getElem? (i := 28) rfl)
def QL (Z : State) (pp : Int32) (xx : Int64) (yy : Int64) (qq : Int32) (h0 : Heap) (v : Option Value) (h : Heap) : Prop := v = some (.int 1)
theorem efL (pp : Int32) (xx : Int64) (yy : Int64) (qq : Int32) (m : MethodId) : entryFrame m #[(.int pp), (.long xx), (.long yy), (.int qq)] maxLocals = mkF m 0 #[.val (.int pp), .val (.long xx), .second, .val (.long yy), .second, .val (.int qq), .unset, .unset, .unset, .unset, .unset] [] := by first | (simp [entryFrame, mkF, argsToLocals, Value.category, maxLocals]; done) | rfl
theorem pn_2 : plainName "com/example/meterwise/meterwise/model/WholeNumberNegatePinLaw" = true := by first | (simp [plainName, overriddenIn]; done) | decide +kernel
set_option maxRecDepth 65536 in
set_option maxHeartbeats 40000000 in
theorem rmL (l : Launch) (Z : State) (a0 : Array Value) (hw : ∀ d ∈ tables_1, d.before a0 Z = true) (ws : List Jvm.Cond) (pp : Int32) (xx : Int64) (yy : Int64) (qq : Int32) (h0 : Heap) (n0 : Nat) (Z0 : n0 ≤ h0.size) : OMet l Z ws x code maxLocals ret room_1 #[(.int pp), (.long xx), (.long yy), (.int qq)] h0 n0 (QL Z pp xx yy qq h0) := by
  refine OMet.of (plainFor_of_name pn_2) (efL pp xx yy qq) Z0 ?_
  intro p e s m below meth c T0 Y0 hnm
  have Y0 : Sd Z "com/example/meterwise/meterwise/model/WholeNumberNegatePinLaw" code maxLocals (some .boolean) n0 p l e room_1 s m #[(.int pp), (.long xx), (.long yy), (.int qq)] below meth c T0 h0 0 0 := Y0
  have npp := rng32 pp
  have nxx := rng64 xx
  have nyy := rng64 yy
  have nqq := rng32 qq
  refine Gl.iconst Y0 (v := (1 : Int32)) (by decide) at_0 rfl ?_
  refine Gl.iloadN Y0 rfl at_1 rfl ?_
  refine Gl.bipush Y0 (v := (63 : Int32)) (by decide) at_2 rfl ?_
  obtain ⟨v4, hv4⟩ : ∃ z : Int32, pp &&& (63 : Int32) = z := ⟨_, rfl⟩
  have iv4 : v4.toInt = pp.toInt % 64 := by have q := c_mask pp (63 : Int32) 6 (by decide) (by decide); rw [hv4] at q; exact q
  refine Gl.iand Y0 hv4 at_4 rfl ?_
  obtain ⟨v5, hv5⟩ : ∃ z : Int32, (1 : Int32) + v4 = z := ⟨_, rfl⟩
  have iv5 : v5.toInt = 1 + v4.toInt := by
    have q : (v5.toInt - (1 + v4.toInt)) % 4294967296 = 0 := by have q := c_iadd (1 : Int32) v4; rw [hv5] at q; exact q
    have r := rng32 v5
    omega
  refine Gl.iadd Y0 hv5 at_5 rfl ?_
  refine Gl.istore Y0 (L' := #[.val (.int pp), .val (.long xx), .second, .val (.long yy), .second, .val (.int qq), .val (.int v5), .unset, .unset, .unset, .unset]) rfl at_6 rfl ?_
  by_cases dg18 : v5 < (19 : Int32)
  · have jg18 : v5.toInt < 19 := Int32.lt_iff_toInt_lt.mp dg18
    refine Gl.newO Y0 (tw_0 hw) (tw_1 hw) (tw_2 hw) (by decide) (by decide) at_8 rfl (fun T8 h8 b8 Y8 E8 g8 sb8 X8 D8 => ?_)
    have f1 : Fld Z h8 b8 "com/example/meterwise/meterwise/model/WholeNumber" "words" "[J" .null := D8 (Or.inr (tw_15 hw)) (ty := (.array .long)) (by decide)
    show Gl p e below _ (T8.setTop (mkF m 11 #[.val (.int pp), .val (.long xx), .second, .val (.long yy), .second, .val (.int qq), .val (.int v5), .unset, .unset, .unset, .unset] [(.ref b8)]))
    refine Gl.dup Y8 rfl at_11 rfl ?_
    refine Gl.iload Y8 rfl at_12 rfl ?_
    refine Gl.callN Y8 rfl (tw_3 hw) (tw_4 hw) (tw_2 hw) (tw_5 hw) (by decide) (rm0 l Z a0 hw [] b8 v5 h8 n0 Y8.sz X8 f1 sb8 (by first | assumption | decide | omega | (simp; done)) (by first | assumption | decide | omega | (simp; done))) (a := b8) (argsL := [(.int v5)]) (rest := [(.ref b8)]) rfl rfl (lenOf pd_9 rfl) rfl (by decide) (Nat.le_of_ble_eq_true rfl) (by decide) (by decide) at_14 rfl (fun v14 T14 h14 Y14 q14 => ?_)
    obtain ⟨wa14, ck14, rfl, K14, f14_0, f14_1, f14_2, f14_3⟩ := q14
    have Y14_sz : n0 ≤ h8.size := Y8.sz
    show Gl p e below _ (T14.setTop (mkF m 17 #[.val (.int pp), .val (.long xx), .second, .val (.long yy), .second, .val (.int qq), .val (.int v5), .unset, .unset, .unset, .unset] [(.ref b8)]))
    refine Gl.astore Y14 rfl (L' := #[.val (.int pp), .val (.long xx), .second, .val (.long yy), .second, .val (.int qq), .val (.int v5), .val (.ref b8), .unset, .unset, .unset]) rfl at_17 rfl ?_
    refine Gl.newO Y14 (tw_0 hw) (tw_1 hw) (tw_2 hw) (by decide) (by decide) at_19 rfl (fun T19 h19 b19 Y19 E19 g19 sb19 X19 D19 => ?_)
    have f2 : Fld Z h19 b19 "com/example/meterwise/meterwise/model/WholeNumber" "words" "[J" .null := D19 (Or.inr (tw_15 hw)) (ty := (.array .long)) (by decide)
    show Gl p e below _ (T19.setTop (mkF m 22 #[.val (.int pp), .val (.long xx), .second, .val (.long yy), .second, .val (.int qq), .val (.int v5), .val (.ref b8), .unset, .unset, .unset] [(.ref b19)]))
    refine Gl.dup Y19 rfl at_22 rfl ?_
    refine Gl.iload Y19 rfl at_23 rfl ?_
    refine Gl.callN Y19 rfl (tw_3 hw) (tw_4 hw) (tw_2 hw) (tw_5 hw) (by decide) (rm0 l Z a0 hw [] b19 v5 h19 n0 Y19.sz X19 f2 sb19 (by first | assumption | decide | omega | (simp; done)) (by first | assumption | decide | omega | (simp; done))) (a := b19) (argsL := [(.int v5)]) (rest := [(.ref b19)]) rfl rfl (lenOf pd_9 rfl) rfl (by decide) (Nat.le_of_ble_eq_true rfl) (by decide) (by decide) at_25 rfl (fun v25 T25 h25 Y25 q25 => ?_)
    obtain ⟨wa25, ck25, rfl, K25, f25_0, f25_1, f25_2, f25_3⟩ := q25
    have f3 : Exa Z h19 b8 "com/example/meterwise/meterwise/model/WholeNumber" := (Exa.ext E19 f14_1)
    have f4 : Arv Z h19 wa14 ck14 .long (1 : Int32) [(.long (0 : Int64))] (.long (0 : Int64)) := (f14_3.ext E19)
    have Y25_sz : n0 ≤ h19.size := Y19.sz
    show Gl p e below _ (T25.setTop (mkF m 28 #[.val (.int pp), .val (.long xx), .second, .val (.long yy), .second, .val (.int qq), .val (.int v5), .val (.ref b8), .unset, .unset, .unset] [(.ref b19)]))
    refine Gl.astore Y25 rfl (L' := #[.val (.int pp), .val (.long xx), .second, .val (.long yy), .second, .val (.int qq), .val (.int v5), .val (.ref b8), .val (.ref b19), .unset, .unset]) rfl at_28 rfl ?_
    refine Gl.newO Y25 (tw_0 hw) (tw_1 hw) (tw_2 hw) (by decide) (by decide) at_30 rfl (fun T30 h30 b30 Y30 E30 g30 sb30 X30 D30 => ?_)
    have f5 : Exa Z h25 b8 "com/example/meterwise/meterwise/model/WholeNumber" := (f3.keep K25)
    have f6 : Arv Z h25 wa14 ck14 .long (1 : Int32) [(.long (0 : Int64))] (.long (0 : Int64)) := (f4.keep K25 (ninS (Nat.ne_of_lt (Nat.lt_of_lt_of_eq f14_3.lt g19.symm)) nin0))
    have f7 : Fld Z h30 b30 "com/example/meterwise/meterwise/model/WholeNumber" "words" "[J" .null := D30 (Or.inr (tw_15 hw)) (ty := (.array .long)) (by decide)
    show Gl p e below _ (T30.setTop (mkF m 33 #[.val (.int pp), .val (.long xx), .second, .val (.long yy), .second, .val (.int qq), .val (.int v5), .val (.ref b8), .val (.ref b19), .unset, .unset] [(.ref b30)]))
    refine Gl.dup Y30 rfl at_33 rfl ?_
    refine Gl.iload Y30 rfl at_34 rfl ?_
    refine Gl.callN Y30 rfl (tw_3 hw) (tw_4 hw) (tw_2 hw) (tw_5 hw) (by decide) (rm0 l Z a0 hw [] b30 v5 h30 n0 Y30.sz X30 f7 sb30 (by first | assumption | decide | omega | (simp; done)) (by first | assumption | decide | omega | (simp; done))) (a := b30) (argsL := [(.int v5)]) (rest := [(.ref b30)]) rfl rfl (lenOf pd_9 rfl) rfl (by decide) (Nat.le_of_ble_eq_true rfl) (by decide) (by decide) at_36 rfl (fun v36 T36 h36 Y36 q36 => ?_)
    obtain ⟨wa36, ck36, rfl, K36, f36_0, f36_1, f36_2, f36_3⟩ := q36
    have f8 : Exa Z h30 b19 "com/example/meterwise/meterwise/model/WholeNumber" := (Exa.ext E30 f25_1)
    have f9 : Exa Z h30 b8 "com/example/meterwise/meterwise/model/WholeNumber" := (Exa.ext E30 f5)
    have f10 : Arv Z h30 wa14 ck14 .long (1 : Int32) [(.long (0 : Int64))] (.long (0 : Int64)) := (f6.ext E30)
    have f11 : Arv Z h30 wa25 ck25 .long (1 : Int32) [(.long (0 : Int64))] (.long (0 : Int64)) := (f25_3.ext E30)
    have Y36_sz : n0 ≤ h30.size := Y30.sz
    show Gl p e below _ (T36.setTop (mkF m 39 #[.val (.int pp), .val (.long xx), .second, .val (.long yy), .second, .val (.int qq), .val (.int v5), .val (.ref b8), .val (.ref b19), .unset, .unset] [(.ref b30)]))
    refine Gl.astore Y36 rfl (L' := #[.val (.int pp), .val (.long xx), .second, .val (.long yy), .second, .val (.int qq), .val (.int v5), .val (.ref b8), .val (.ref b19), .val (.ref b30), .unset]) rfl at_39 rfl ?_
    refine Gl.aload Y36 rfl rfl at_41 rfl ?_
    refine Gl.lloadN Y36 rfl at_43 rfl ?_
    have f12 : Exa Z h36 b8 "com/example/meterwise/meterwise/model/WholeNumber" := (f9.keep K36)
    have f13 : Fld Z h36 b8 "com/example/meterwise/meterwise/model/WholeNumber" "words" "[J" (.ref wa14) := ((Fld.ext E30 ((Fld.ext E19 f14_2).keep K25 (ninS (Nat.ne_of_lt (Nat.lt_of_lt_of_eq f14_1.lt g19.symm)) nin0))).keep K36 (ninS (Nat.ne_of_lt (Nat.lt_of_lt_of_eq f5.lt g30.symm)) nin0))
    have f14 : Arv Z h36 wa14 ck14 .long (1 : Int32) [(.long (0 : Int64))] (.long (0 : Int64)) := (f10.keep K36 (ninS (Nat.ne_of_lt (Nat.lt_of_lt_of_eq f6.lt g30.symm)) nin0))
    refine Gl.callV Y36 (tw_16 hw) (tw_17 hw) (tw_19 hw) (tw_19 hw) (tw_18 hw) (tw_2 hw) (tw_20 hw) (by decide) f12 (rm9 l Z a0 hw [] b8 wa14 ck14 (0 : Int64) xx h36 n0 Y36.sz f12 f13 f14 (Nat.le_trans Y14_sz f14_0) (Nat.ne_of_lt (Nat.lt_of_lt_of_le X8.lt f14_0))) (a := b8) (argsL := [(.long xx)]) (rest := []) rfl rfl (lenOf pd_10 rfl) rfl (by decide) (Nat.le_of_ble_eq_true rfl) (by decide) (by decide) at_44 rfl (fun v44 T44 h44 Y44 q44 => ?_)
    obtain ⟨rfl, K44, f44_0⟩ := q44
    show Gl p e below _ (T44.setTop (mkF m 47 #[.val (.int pp), .val (.long xx), .second, .val (.long yy), .second, .val (.int qq), .val (.int v5), .val (.ref b8), .val (.ref b19), .val (.ref b30), .unset] [(.ref b8)]))
    refine Gl.pop Y44 rfl at_47 rfl ?_
    refine Gl.iload Y44 rfl at_48 rfl ?_
    refine Gl.iconst Y44 (v := (3 : Int32)) (by decide) at_50 rfl ?_
    obtain ⟨v51, hv51⟩ : ∃ z : Int32, qq &&& (3 : Int32) = z := ⟨_, rfl⟩
    have iv51 : v51.toInt = qq.toInt % 4 := by have q := c_mask qq (3 : Int32) 2 (by decide) (by decide); rw [hv51] at q; exact q
    refine Gl.iand Y44 hv51 at_51 rfl ?_
    refine Gl.ifne Y44 at_52 (by decide) rfl rfl (fun c52 => ?_) (fun c52 => ?_)
    · have j52 : ¬ (v51.toInt = 0) := fun q => c52 (Int32.toInt_inj.mp q)
      refine Gl.aload Y44 rfl rfl at_64 rfl ?_
      refine Gl.lloadN Y44 rfl at_66 rfl ?_
      have f15 : Exa Z h44 b19 "com/example/meterwise/meterwise/model/WholeNumber" := ((f8.keep K36).keep K44)
      have f16 : Fld Z h44 b19 "com/example/meterwise/meterwise/model/WholeNumber" "words" "[J" (.ref wa25) := (((Fld.ext E30 f25_2).keep K36 (ninS (Nat.ne_of_lt (Nat.lt_of_lt_of_eq f25_1.lt g30.symm)) nin0)).keep K44 (ninS (Ne.symm (Nat.ne_of_lt (Nat.lt_of_lt_of_eq f14_3.lt g19.symm))) nin0))
      have f17 : Arv Z h44 wa25 ck25 .long (1 : Int32) [(.long (0 : Int64))] (.long (0 : Int64)) := ((f11.keep K36 (ninS (Nat.ne_of_lt (Nat.lt_of_lt_of_eq f25_3.lt g30.symm)) nin0)).keep K44 (ninS (Ne.symm (Nat.ne_of_lt (Nat.lt_of_lt_of_le f4.lt f25_0))) nin0))
      refine Gl.callV Y44 (tw_16 hw) (tw_17 hw) (tw_19 hw) (tw_19 hw) (tw_18 hw) (tw_2 hw) (tw_20 hw) (by decide) f15 (rm9 l Z a0 hw [] b19 wa25 ck25 (0 : Int64) yy h44 n0 Y44.sz f15 f16 f17 (Nat.le_trans Y25_sz f25_0) (Nat.ne_of_lt (Nat.lt_of_lt_of_le X19.lt f25_0))) (a := b19) (argsL := [(.long yy)]) (rest := []) rfl rfl (lenOf pd_10 rfl) rfl (by decide) (Nat.le_of_ble_eq_true rfl) (by decide) (by decide) at_67 rfl (fun v67 T67 h67 Y67 q67 => ?_)
      obtain ⟨rfl, K67, f67_0⟩ := q67
      show Gl p e below _ (T67.setTop (mkF m 70 #[.val (.int pp), .val (.long xx), .second, .val (.long yy), .second, .val (.int qq), .val (.int v5), .val (.ref b8), .val (.ref b19), .val (.ref b30), .unset] [(.ref b19)]))
      refine Gl.pop Y67 rfl at_70 rfl ?_
      refine Gl.aload Y67 rfl rfl at_71 rfl ?_
      refine Gl.aload Y67 rfl rfl at_73 rfl ?_
      have f18 : Exa Z h67 b8 "com/example/meterwise/meterwise/model/WholeNumber" := ((f12.keep K44).keep K67)
      have f19 : Fld Z h67 b8 "com/example/meterwise/meterwise/model/WholeNumber" "words" "[J" (.ref wa14) := ((f13.keep K44 (ninS (Nat.ne_of_lt (Nat.lt_of_lt_of_le X8.lt f14_0)) nin0)).keep K67 (ninS (Nat.ne_of_lt (Nat.lt_of_lt_of_le f3.lt f25_0)) nin0))
      have f20 : Arv Z h67 wa14 ck14 .long (1 : Int32) [(.long xx)] (.long (0 : Int64)) := (f44_0.keep K67 (ninS (Nat.ne_of_lt (Nat.lt_of_lt_of_le f4.lt f25_0)) nin0))
      have f21 : Exa Z h67 b19 "com/example/meterwise/meterwise/model/WholeNumber" := (f15.keep K67)
      have f22 : Fld Z h67 b19 "com/example/meterwise/meterwise/model/WholeNumber" "words" "[J" (.ref wa25) := (f16.keep K67 (ninS (Nat.ne_of_lt (Nat.lt_of_lt_of_le X19.lt f25_0)) nin0))
      refine Gl.callV Y67 (tw_79 hw) (tw_80 hw) (tw_82 hw) (tw_82 hw) (tw_81 hw) (tw_2 hw) (tw_83 hw) (by decide) f18 (rm16 l Z a0 hw [] b8 wa14 ck14 xx b19 wa25 ck25 yy h67 n0 Y67.sz f18 f19 f20 (Nat.le_trans Y14_sz f14_0) (Nat.ne_of_lt (Nat.lt_of_lt_of_le X8.lt f14_0)) f21 f22 f67_0 (Nat.ne_of_lt (Nat.lt_of_lt_of_le f4.lt f25_0)) (Ne.symm (Nat.ne_of_lt (Nat.lt_of_lt_of_eq f14_3.lt g19.symm)))) (a := b8) (argsL := [(.ref b19)]) (rest := []) rfl rfl (lenOf pd_11 rfl) rfl (by decide) (Nat.le_of_ble_eq_true rfl) (by decide) (by decide) at_75 rfl (fun v75 T75 h75 Y75 q75 => ?_)
      obtain ⟨e075, rfl, K75, f75_0⟩ := q75
      show Gl p e below _ (T75.setTop (mkF m 78 #[.val (.int pp), .val (.long xx), .second, .val (.long yy), .second, .val (.int qq), .val (.int v5), .val (.ref b8), .val (.ref b19), .val (.ref b30), .unset] [(.ref b8)]))
      refine Gl.pop Y75 rfl at_78 rfl ?_
      refine Gl.aload Y75 rfl rfl at_79 rfl ?_
      refine Gl.aload Y75 rfl rfl at_81 rfl ?_
      have f23 : Exa Z h75 b30 "com/example/meterwise/meterwise/model/WholeNumber" := (((f36_1.keep K44).keep K67).keep K75)
      have f24 : Fld Z h75 b30 "com/example/meterwise/meterwise/model/WholeNumber" "words" "[J" (.ref wa36) := (((f36_2.keep K44 (ninS (Ne.symm (Nat.ne_of_lt (Nat.lt_of_lt_of_eq f6.lt g30.symm))) nin0)).keep K67 (ninS (Ne.symm (Nat.ne_of_lt (Nat.lt_of_lt_of_eq f25_3.lt g30.symm))) nin0)).keep K75 (ninS (Ne.symm (Nat.ne_of_lt (Nat.lt_of_lt_of_eq f6.lt g30.symm))) nin0))
      have f25 : Arv Z h75 wa36 ck36 .long (1 : Int32) [(.long (0 : Int64))] (.long (0 : Int64)) := (((f36_3.keep K44 (ninS (Ne.symm (Nat.ne_of_lt (Nat.lt_of_lt_of_le f10.lt f36_0))) nin0)).keep K67 (ninS (Ne.symm (Nat.ne_of_lt (Nat.lt_of_lt_of_le f11.lt f36_0))) nin0)).keep K75 (ninS (Ne.symm (Nat.ne_of_lt (Nat.lt_of_lt_of_le f10.lt f36_0))) nin0))
      have f26 : Exa Z h75 b8 "com/example/meterwise/meterwise/model/WholeNumber" := (f18.keep K75)
      have f27 : Fld Z h75 b8 "com/example/meterwise/meterwise/model/WholeNumber" "words" "[J" (.ref wa14) := (f19.keep K75 (ninS (Nat.ne_of_lt (Nat.lt_of_lt_of_le X8.lt f14_0)) nin0))
      refine Gl.callV Y75 (tw_37 hw) (tw_38 hw) (tw_40 hw) (tw_40 hw) (tw_39 hw) (tw_2 hw) (tw_41 hw) (by decide) f23 (rm19 l Z a0 hw [] b30 wa36 ck36 b8 wa14 ck14 e075 h75 n0 Y75.sz f23 f24 f25 (Nat.le_trans Y36_sz f36_0) (Nat.ne_of_lt (Nat.lt_of_lt_of_le X30.lt f36_0)) f26 f27 f75_0 (Ne.symm (Nat.ne_of_lt (Nat.lt_of_lt_of_le f10.lt f36_0))) (Nat.ne_of_lt (Nat.lt_of_lt_of_le f9.lt f36_0))) (a := b30) (argsL := [(.ref b8)]) (rest := []) rfl rfl (lenOf pd_11 rfl) rfl (by decide) (Nat.le_of_ble_eq_true rfl) (by decide) (by decide) at_83 rfl (fun v83 T83 h83 Y83 q83 => ?_)
      obtain ⟨rfl, K83, f83_0⟩ := q83
      show Gl p e below _ (T83.setTop (mkF m 86 #[.val (.int pp), .val (.long xx), .second, .val (.long yy), .second, .val (.int qq), .val (.int v5), .val (.ref b8), .val (.ref b19), .val (.ref b30), .unset] [(.ref b30)]))
      refine Gl.pop Y83 rfl at_86 rfl ?_
      refine Gl.aload Y83 rfl rfl at_87 rfl ?_
      have f28 : Exa Z h83 b8 "com/example/meterwise/meterwise/model/WholeNumber" := (f26.keep K83)
      have f29 : Fld Z h83 b8 "com/example/meterwise/meterwise/model/WholeNumber" "words" "[J" (.ref wa14) := (f27.keep K83 (ninS (Nat.ne_of_lt (Nat.lt_of_lt_of_le f9.lt f36_0)) nin0))
      have f30 : Arv Z h83 wa14 ck14 .long (1 : Int32) [(.long e075)] (.long (0 : Int64)) := (f75_0.keep K83 (ninS (Nat.ne_of_lt (Nat.lt_of_lt_of_le f10.lt f36_0)) nin0))
      refine Gl.callV Y83 (tw_60 hw) (tw_61 hw) (tw_63 hw) (tw_63 hw) (tw_62 hw) (tw_2 hw) (tw_64 hw) (by decide) f28 (rm17 l Z a0 hw [] b8 wa14 ck14 e075 h83 n0 Y83.sz f28 f29 f30 (Nat.le_trans Y14_sz f14_0) (Nat.ne_of_lt (Nat.lt_of_lt_of_le X8.lt f14_0))) (a := b8) (argsL := []) (rest := []) rfl rfl (lenOf pd_5 rfl) rfl (by decide) (Nat.le_of_ble_eq_true rfl) (by decide) (by decide) at_89 rfl (fun v89 T89 h89 Y89 q89 => ?_)
      obtain ⟨rfl, K89, f89_0⟩ := q89
      show Gl p e below _ (T89.setTop (mkF m 92 #[.val (.int pp), .val (.long xx), .second, .val (.long yy), .second, .val (.int qq), .val (.int v5), .val (.ref b8), .val (.ref b19), .val (.ref b30), .unset] [(.ref b8)]))
      refine Gl.astore Y89 rfl (L' := #[.val (.int pp), .val (.long xx), .second, .val (.long yy), .second, .val (.int qq), .val (.int v5), .val (.ref b8), .val (.ref b19), .val (.ref b30), .val (.ref b8)]) rfl at_92 rfl ?_
      refine Gl.aload Y89 rfl rfl at_94 rfl ?_
      refine Gl.aload Y89 rfl rfl at_96 rfl ?_
      refine Gl.acmpne Y89 rfl rfl at_98 (by decide) rfl rfl (fun c98 => ?_) (fun c98 => ?_)
      · exact absurd rfl c98
      refine Gl.aload Y89 rfl rfl at_101 rfl ?_
      refine Gl.aload Y89 rfl rfl at_103 rfl ?_
      have f31 : Exa Z h89 b8 "com/example/meterwise/meterwise/model/WholeNumber" := (f28.keep K89)
      have f32 : Fld Z h89 b8 "com/example/meterwise/meterwise/model/WholeNumber" "words" "[J" (.ref wa14) := (f29.keep K89 (ninS (Nat.ne_of_lt (Nat.lt_of_lt_of_le X8.lt f14_0)) nin0))
      have f33 : Exa Z h89 b30 "com/example/meterwise/meterwise/model/WholeNumber" := ((f23.keep K83).keep K89)
      have f34 : Fld Z h89 b30 "com/example/meterwise/meterwise/model/WholeNumber" "words" "[J" (.ref wa36) := ((f24.keep K83 (ninS (Nat.ne_of_lt (Nat.lt_of_lt_of_le X30.lt f36_0)) nin0)).keep K89 (ninS (Ne.symm (Nat.ne_of_lt (Nat.lt_of_lt_of_eq f6.lt g30.symm))) nin0))
      have f35 : Arv Z h89 wa36 ck36 .long (1 : Int32) [(.long (own_o e075 1))] (.long (0 : Int64)) := (f83_0.keep K89 (ninS (Ne.symm (Nat.ne_of_lt (Nat.lt_of_lt_of_le f10.lt f36_0))) nin0))
      refine Gl.callV Y89 (tw_66 hw) (tw_67 hw) (tw_69 hw) (tw_69 hw) (tw_68 hw) (tw_2 hw) (tw_70 hw) (by decide) f31 (rm21 l Z a0 hw [] b8 wa14 ck14 (own_o e075 1) b30 wa36 ck36 h89 n0 Y89.sz f31 f32 f89_0 f33 f34 f35) (a := b8) (argsL := [(.ref b30)]) (rest := []) rfl rfl (lenOf pd_12 rfl) rfl (by decide) (Nat.le_of_ble_eq_true rfl) (by decide) (by decide) at_105 rfl (fun v105 T105 h105 Y105 q105 => ?_)
      obtain ⟨rfl, rfl⟩ := q105
      show Gl p e below _ (T105.setTop (mkF m 108 #[.val (.int pp), .val (.long xx), .second, .val (.long yy), .second, .val (.int qq), .val (.int v5), .val (.ref b8), .val (.ref b19), .val (.ref b30), .val (.ref b8)] [(.int (0 : Int32))]))
      refine Gl.ifne Y105 at_108 (by decide) rfl rfl (fun c108 => ?_) (fun c108 => ?_)
      · exact absurd c108 (by decide)
      refine Gl.iconst Y105 (v := (1 : Int32)) (by decide) at_111 rfl ?_
      refine Gl.goto Y105 at_112 (by decide) rfl ?_
      exact Gl.retZ Y105 (by decide) (by decide) (x' := (1 : Int32)) (by decide) at_116 rfl
    · have j52 : v51.toInt = 0 := congrArg Int32.toInt c52
      refine Gl.aload Y44 rfl rfl at_55 rfl ?_
      have f36 : Exa Z h44 b8 "com/example/meterwise/meterwise/model/WholeNumber" := (f12.keep K44)
      have f37 : Fld Z h44 b8 "com/example/meterwise/meterwise/model/WholeNumber" "words" "[J" (.ref wa14) := (f13.keep K44 (ninS (Nat.ne_of_lt (Nat.lt_of_lt_of_le X8.lt f14_0)) nin0))
      refine Gl.callV Y44 (tw_28 hw) (tw_29 hw) (tw_31 hw) (tw_31 hw) (tw_30 hw) (tw_2 hw) (tw_32 hw) (by decide) f36 (rm8 l Z a0 hw [] b8 wa14 ck14 xx h44 n0 Y44.sz f36 f37 f44_0 (Nat.le_trans Y14_sz f14_0) (Nat.ne_of_lt (Nat.lt_of_lt_of_le X8.lt f14_0))) (a := b8) (argsL := []) (rest := []) rfl rfl (lenOf pd_5 rfl) rfl (by decide) (Nat.le_of_ble_eq_true rfl) (by decide) (by decide) at_57 rfl (fun v57 T57 h57 Y57 q57 => ?_)
      obtain ⟨rfl, K57, f57_0⟩ := q57
      show Gl p e below _ (T57.setTop (mkF m 60 #[.val (.int pp), .val (.long xx), .second, .val (.long yy), .second, .val (.int qq), .val (.int v5), .val (.ref b8), .val (.ref b19), .val (.ref b30), .unset] [(.ref b8)]))
      refine Gl.pop Y57 rfl at_60 rfl ?_
      refine Gl.goto Y57 at_61 (by decide) rfl ?_
      refine Gl.aload Y57 rfl rfl at_79 rfl ?_
      refine Gl.aload Y57 rfl rfl at_81 rfl ?_
      have f38 : Exa Z h57 b30 "com/example/meterwise/meterwise/model/WholeNumber" := ((f36_1.keep K44).keep K57)
      have f39 : Fld Z h57 b30 "com/example/meterwise/meterwise/model/WholeNumber" "words" "[J" (.ref wa36) := ((f36_2.keep K44 (ninS (Ne.symm (Nat.ne_of_lt (Nat.lt_of_lt_of_eq f6.lt g30.symm))) nin0)).keep K57 (ninS (Ne.symm (Nat.ne_of_lt (Nat.lt_of_lt_of_eq f6.lt g30.symm))) nin0))
      have f40 : Arv Z h57 wa36 ck36 .long (1 : Int32) [(.long (0 : Int64))] (.long (0 : Int64)) := ((f36_3.keep K44 (ninS (Ne.symm (Nat.ne_of_lt (Nat.lt_of_lt_of_le f10.lt f36_0))) nin0)).keep K57 (ninS (Ne.symm (Nat.ne_of_lt (Nat.lt_of_lt_of_le f10.lt f36_0))) nin0))
      have f41 : Exa Z h57 b8 "com/example/meterwise/meterwise/model/WholeNumber" := (f36.keep K57)
      have f42 : Fld Z h57 b8 "com/example/meterwise/meterwise/model/WholeNumber" "words" "[J" (.ref wa14) := (f37.keep K57 (ninS (Nat.ne_of_lt (Nat.lt_of_lt_of_le X8.lt f14_0)) nin0))
      refine Gl.callV Y57 (tw_37 hw) (tw_38 hw) (tw_40 hw) (tw_40 hw) (tw_39 hw) (tw_2 hw) (tw_41 hw) (by decide) f38 (rm19 l Z a0 hw [] b30 wa36 ck36 b8 wa14 ck14 (-9223372036854775808 : Int64) h57 n0 Y57.sz f38 f39 f40 (Nat.le_trans Y36_sz f36_0) (Nat.ne_of_lt (Nat.lt_of_lt_of_le X30.lt f36_0)) f41 f42 f57_0 (Ne.symm (Nat.ne_of_lt (Nat.lt_of_lt_of_le f10.lt f36_0))) (Nat.ne_of_lt (Nat.lt_of_lt_of_le f9.lt f36_0))) (a := b30) (argsL := [(.ref b8)]) (rest := []) rfl rfl (lenOf pd_11 rfl) rfl (by decide) (Nat.le_of_ble_eq_true rfl) (by decide) (by decide) at_83 rfl (fun v83 T83 h83 Y83 q83 => ?_)
      obtain ⟨rfl, K83, f83_0⟩ := q83
      show Gl p e below _ (T83.setTop (mkF m 86 #[.val (.int pp), .val (.long xx), .second, .val (.long yy), .second, .val (.int qq), .val (.int v5), .val (.ref b8), .val (.ref b19), .val (.ref b30), .unset] [(.ref b30)]))
      refine Gl.pop Y83 rfl at_86 rfl ?_
      refine Gl.aload Y83 rfl rfl at_87 rfl ?_
      have f43 : Exa Z h83 b8 "com/example/meterwise/meterwise/model/WholeNumber" := (f41.keep K83)
      have f44 : Fld Z h83 b8 "com/example/meterwise/meterwise/model/WholeNumber" "words" "[J" (.ref wa14) := (f42.keep K83 (ninS (Nat.ne_of_lt (Nat.lt_of_lt_of_le f9.lt f36_0)) nin0))
      have f45 : Arv Z h83 wa14 ck14 .long (1 : Int32) [(.long (-9223372036854775808 : Int64))] (.long (0 : Int64)) := (f57_0.keep K83 (ninS (Nat.ne_of_lt (Nat.lt_of_lt_of_le f10.lt f36_0)) nin0))
      refine Gl.callV Y83 (tw_60 hw) (tw_61 hw) (tw_63 hw) (tw_63 hw) (tw_62 hw) (tw_2 hw) (tw_64 hw) (by decide) f43 (rm17 l Z a0 hw [] b8 wa14 ck14 (-9223372036854775808 : Int64) h83 n0 Y83.sz f43 f44 f45 (Nat.le_trans Y14_sz f14_0) (Nat.ne_of_lt (Nat.lt_of_lt_of_le X8.lt f14_0))) (a := b8) (argsL := []) (rest := []) rfl rfl (lenOf pd_5 rfl) rfl (by decide) (Nat.le_of_ble_eq_true rfl) (by decide) (by decide) at_89 rfl (fun v89 T89 h89 Y89 q89 => ?_)
      obtain ⟨rfl, K89, f89_0⟩ := q89
      show Gl p e below _ (T89.setTop (mkF m 92 #[.val (.int pp), .val (.long xx), .second, .val (.long yy), .second, .val (.int qq), .val (.int v5), .val (.ref b8), .val (.ref b19), .val (.ref b30), .unset] [(.ref b8)]))
      refine Gl.astore Y89 rfl (L' := #[.val (.int pp), .val (.long xx), .second, .val (.long yy), .second, .val (.int qq), .val (.int v5), .val (.ref b8), .val (.ref b19), .val (.ref b30), .val (.ref b8)]) rfl at_92 rfl ?_
      refine Gl.aload Y89 rfl rfl at_94 rfl ?_
      refine Gl.aload Y89 rfl rfl at_96 rfl ?_
      refine Gl.acmpne Y89 rfl rfl at_98 (by decide) rfl rfl (fun c98 => ?_) (fun c98 => ?_)
      · exact absurd rfl c98
      refine Gl.aload Y89 rfl rfl at_101 rfl ?_
      refine Gl.aload Y89 rfl rfl at_103 rfl ?_
      have f46 : Exa Z h89 b8 "com/example/meterwise/meterwise/model/WholeNumber" := (f43.keep K89)
      have f47 : Fld Z h89 b8 "com/example/meterwise/meterwise/model/WholeNumber" "words" "[J" (.ref wa14) := (f44.keep K89 (ninS (Nat.ne_of_lt (Nat.lt_of_lt_of_le X8.lt f14_0)) nin0))
      have f48 : Exa Z h89 b30 "com/example/meterwise/meterwise/model/WholeNumber" := ((f38.keep K83).keep K89)
      have f49 : Fld Z h89 b30 "com/example/meterwise/meterwise/model/WholeNumber" "words" "[J" (.ref wa36) := ((f39.keep K83 (ninS (Nat.ne_of_lt (Nat.lt_of_lt_of_le X30.lt f36_0)) nin0)).keep K89 (ninS (Ne.symm (Nat.ne_of_lt (Nat.lt_of_lt_of_eq f6.lt g30.symm))) nin0))
      have f50 : Arv Z h89 wa36 ck36 .long (1 : Int32) [(.long (own_o (-9223372036854775808 : Int64) 1))] (.long (0 : Int64)) := (f83_0.keep K89 (ninS (Ne.symm (Nat.ne_of_lt (Nat.lt_of_lt_of_le f10.lt f36_0))) nin0))
      refine Gl.callV Y89 (tw_66 hw) (tw_67 hw) (tw_69 hw) (tw_69 hw) (tw_68 hw) (tw_2 hw) (tw_70 hw) (by decide) f46 (rm21 l Z a0 hw [] b8 wa14 ck14 (own_o (-9223372036854775808 : Int64) 1) b30 wa36 ck36 h89 n0 Y89.sz f46 f47 f89_0 f48 f49 f50) (a := b8) (argsL := [(.ref b30)]) (rest := []) rfl rfl (lenOf pd_12 rfl) rfl (by decide) (Nat.le_of_ble_eq_true rfl) (by decide) (by decide) at_105 rfl (fun v105 T105 h105 Y105 q105 => ?_)
      obtain ⟨rfl, rfl⟩ := q105
      show Gl p e below _ (T105.setTop (mkF m 108 #[.val (.int pp), .val (.long xx), .second, .val (.long yy), .second, .val (.int qq), .val (.int v5), .val (.ref b8), .val (.ref b19), .val (.ref b30), .val (.ref b8)] [(.int (0 : Int32))]))
      refine Gl.ifne Y105 at_108 (by decide) rfl rfl (fun c108 => ?_) (fun c108 => ?_)
      · exact absurd c108 (by decide)
      refine Gl.iconst Y105 (v := (1 : Int32)) (by decide) at_111 rfl ?_
      refine Gl.goto Y105 at_112 (by decide) rfl ?_
      exact Gl.retZ Y105 (by decide) (by decide) (x' := (1 : Int32)) (by decide) at_116 rfl
  · have jg18 : ¬ (v5.toInt < 19) := fun q => dg18 (Int32.lt_iff_toInt_lt.mpr q)
    by_cases dg38 : v5 < (39 : Int32)
    · have jg38 : v5.toInt < 39 := Int32.lt_iff_toInt_lt.mp dg38
      refine Gl.newO Y0 (tw_0 hw) (tw_1 hw) (tw_2 hw) (by decide) (by decide) at_8 rfl (fun T8 h8 b8 Y8 E8 g8 sb8 X8 D8 => ?_)
      have f51 : Fld Z h8 b8 "com/example/meterwise/meterwise/model/WholeNumber" "words" "[J" .null := D8 (Or.inr (tw_15 hw)) (ty := (.array .long)) (by decide)
      show Gl p e below _ (T8.setTop (mkF m 11 #[.val (.int pp), .val (.long xx), .second, .val (.long yy), .second, .val (.int qq), .val (.int v5), .unset, .unset, .unset, .unset] [(.ref b8)]))
      refine Gl.dup Y8 rfl at_11 rfl ?_
      refine Gl.iload Y8 rfl at_12 rfl ?_
      refine Gl.callN Y8 rfl (tw_3 hw) (tw_4 hw) (tw_2 hw) (tw_5 hw) (by decide) (rm1 l Z a0 hw [] b8 v5 h8 n0 Y8.sz X8 f51 sb8 (by first | assumption | decide | omega | (simp; done)) (by first | assumption | decide | omega | (simp; done))) (a := b8) (argsL := [(.int v5)]) (rest := [(.ref b8)]) rfl rfl (lenOf pd_9 rfl) rfl (by decide) (Nat.le_of_ble_eq_true rfl) (by decide) (by decide) at_14 rfl (fun v14 T14 h14 Y14 q14 => ?_)
      obtain ⟨wa14, ck14, rfl, K14, f14_0, f14_1, f14_2, f14_3⟩ := q14
      have Y14_sz : n0 ≤ h8.size := Y8.sz
      show Gl p e below _ (T14.setTop (mkF m 17 #[.val (.int pp), .val (.long xx), .second, .val (.long yy), .second, .val (.int qq), .val (.int v5), .unset, .unset, .unset, .unset] [(.ref b8)]))
      refine Gl.astore Y14 rfl (L' := #[.val (.int pp), .val (.long xx), .second, .val (.long yy), .second, .val (.int qq), .val (.int v5), .val (.ref b8), .unset, .unset, .unset]) rfl at_17 rfl ?_
      refine Gl.newO Y14 (tw_0 hw) (tw_1 hw) (tw_2 hw) (by decide) (by decide) at_19 rfl (fun T19 h19 b19 Y19 E19 g19 sb19 X19 D19 => ?_)
      have f52 : Fld Z h19 b19 "com/example/meterwise/meterwise/model/WholeNumber" "words" "[J" .null := D19 (Or.inr (tw_15 hw)) (ty := (.array .long)) (by decide)
      show Gl p e below _ (T19.setTop (mkF m 22 #[.val (.int pp), .val (.long xx), .second, .val (.long yy), .second, .val (.int qq), .val (.int v5), .val (.ref b8), .unset, .unset, .unset] [(.ref b19)]))
      refine Gl.dup Y19 rfl at_22 rfl ?_
      refine Gl.iload Y19 rfl at_23 rfl ?_
      refine Gl.callN Y19 rfl (tw_3 hw) (tw_4 hw) (tw_2 hw) (tw_5 hw) (by decide) (rm1 l Z a0 hw [] b19 v5 h19 n0 Y19.sz X19 f52 sb19 (by first | assumption | decide | omega | (simp; done)) (by first | assumption | decide | omega | (simp; done))) (a := b19) (argsL := [(.int v5)]) (rest := [(.ref b19)]) rfl rfl (lenOf pd_9 rfl) rfl (by decide) (Nat.le_of_ble_eq_true rfl) (by decide) (by decide) at_25 rfl (fun v25 T25 h25 Y25 q25 => ?_)
      obtain ⟨wa25, ck25, rfl, K25, f25_0, f25_1, f25_2, f25_3⟩ := q25
      have f53 : Exa Z h19 b8 "com/example/meterwise/meterwise/model/WholeNumber" := (Exa.ext E19 f14_1)
      have f54 : Arv Z h19 wa14 ck14 .long (2 : Int32) [(.long (0 : Int64)), (.long (0 : Int64))] (.long (0 : Int64)) := (f14_3.ext E19)
      have Y25_sz : n0 ≤ h19.size := Y19.sz
      show Gl p e below _ (T25.setTop (mkF m 28 #[.val (.int pp), .val (.long xx), .second, .val (.long yy), .second, .val (.int qq), .val (.int v5), .val (.ref b8), .unset, .unset, .unset] [(.ref b19)]))
      refine Gl.astore Y25 rfl (L' := #[.val (.int pp), .val (.long xx), .second, .val (.long yy), .second, .val (.int qq), .val (.int v5), .val (.ref b8), .val (.ref b19), .unset, .unset]) rfl at_28 rfl ?_
      refine Gl.newO Y25 (tw_0 hw) (tw_1 hw) (tw_2 hw) (by decide) (by decide) at_30 rfl (fun T30 h30 b30 Y30 E30 g30 sb30 X30 D30 => ?_)
      have f55 : Exa Z h25 b8 "com/example/meterwise/meterwise/model/WholeNumber" := (f53.keep K25)
      have f56 : Arv Z h25 wa14 ck14 .long (2 : Int32) [(.long (0 : Int64)), (.long (0 : Int64))] (.long (0 : Int64)) := (f54.keep K25 (ninS (Nat.ne_of_lt (Nat.lt_of_lt_of_eq f14_3.lt g19.symm)) nin0))
      have f57 : Fld Z h30 b30 "com/example/meterwise/meterwise/model/WholeNumber" "words" "[J" .null := D30 (Or.inr (tw_15 hw)) (ty := (.array .long)) (by decide)
      show Gl p e below _ (T30.setTop (mkF m 33 #[.val (.int pp), .val (.long xx), .second, .val (.long yy), .second, .val (.int qq), .val (.int v5), .val (.ref b8), .val (.ref b19), .unset, .unset] [(.ref b30)]))
      refine Gl.dup Y30 rfl at_33 rfl ?_
      refine Gl.iload Y30 rfl at_34 rfl ?_
      refine Gl.callN Y30 rfl (tw_3 hw) (tw_4 hw) (tw_2 hw) (tw_5 hw) (by decide) (rm1 l Z a0 hw [] b30 v5 h30 n0 Y30.sz X30 f57 sb30 (by first | assumption | decide | omega | (simp; done)) (by first | assumption | decide | omega | (simp; done))) (a := b30) (argsL := [(.int v5)]) (rest := [(.ref b30)]) rfl rfl (lenOf pd_9 rfl) rfl (by decide) (Nat.le_of_ble_eq_true rfl) (by decide) (by decide) at_36 rfl (fun v36 T36 h36 Y36 q36 => ?_)
      obtain ⟨wa36, ck36, rfl, K36, f36_0, f36_1, f36_2, f36_3⟩ := q36
      have f58 : Exa Z h30 b19 "com/example/meterwise/meterwise/model/WholeNumber" := (Exa.ext E30 f25_1)
      have f59 : Exa Z h30 b8 "com/example/meterwise/meterwise/model/WholeNumber" := (Exa.ext E30 f55)
      have f60 : Arv Z h30 wa14 ck14 .long (2 : Int32) [(.long (0 : Int64)), (.long (0 : Int64))] (.long (0 : Int64)) := (f56.ext E30)
      have f61 : Arv Z h30 wa25 ck25 .long (2 : Int32) [(.long (0 : Int64)), (.long (0 : Int64))] (.long (0 : Int64)) := (f25_3.ext E30)
      have Y36_sz : n0 ≤ h30.size := Y30.sz
      show Gl p e below _ (T36.setTop (mkF m 39 #[.val (.int pp), .val (.long xx), .second, .val (.long yy), .second, .val (.int qq), .val (.int v5), .val (.ref b8), .val (.ref b19), .unset, .unset] [(.ref b30)]))
      refine Gl.astore Y36 rfl (L' := #[.val (.int pp), .val (.long xx), .second, .val (.long yy), .second, .val (.int qq), .val (.int v5), .val (.ref b8), .val (.ref b19), .val (.ref b30), .unset]) rfl at_39 rfl ?_
      refine Gl.aload Y36 rfl rfl at_41 rfl ?_
      refine Gl.lloadN Y36 rfl at_43 rfl ?_
      have f62 : Exa Z h36 b8 "com/example/meterwise/meterwise/model/WholeNumber" := (f59.keep K36)
      have f63 : Fld Z h36 b8 "com/example/meterwise/meterwise/model/WholeNumber" "words" "[J" (.ref wa14) := ((Fld.ext E30 ((Fld.ext E19 f14_2).keep K25 (ninS (Nat.ne_of_lt (Nat.lt_of_lt_of_eq f14_1.lt g19.symm)) nin0))).keep K36 (ninS (Nat.ne_of_lt (Nat.lt_of_lt_of_eq f55.lt g30.symm)) nin0))
      have f64 : Arv Z h36 wa14 ck14 .long (2 : Int32) [(.long (0 : Int64)), (.long (0 : Int64))] (.long (0 : Int64)) := (f60.keep K36 (ninS (Nat.ne_of_lt (Nat.lt_of_lt_of_eq f56.lt g30.symm)) nin0))
      refine Gl.callV Y36 (tw_16 hw) (tw_17 hw) (tw_19 hw) (tw_19 hw) (tw_18 hw) (tw_2 hw) (tw_20 hw) (by decide) f62 (rm27 l Z a0 hw [] b8 wa14 ck14 (0 : Int64) (0 : Int64) xx h36 n0 Y36.sz f62 f63 f64 (Nat.le_trans Y14_sz f14_0) (Nat.ne_of_lt (Nat.lt_of_lt_of_le X8.lt f14_0))) (a := b8) (argsL := [(.long xx)]) (rest := []) rfl rfl (lenOf pd_10 rfl) rfl (by decide) (Nat.le_of_ble_eq_true rfl) (by decide) (by decide) at_44 rfl (fun v44 T44 h44 Y44 q44 => ?_)
      obtain ⟨rfl, K44, f44_0⟩ := q44
      show Gl p e below _ (T44.setTop (mkF m 47 #[.val (.int pp), .val (.long xx), .second, .val (.long yy), .second, .val (.int qq), .val (.int v5), .val (.ref b8), .val (.ref b19), .val (.ref b30), .unset] [(.ref b8)]))
      refine Gl.pop Y44 rfl at_47 rfl ?_
      refine Gl.iload Y44 rfl at_48 rfl ?_
      refine Gl.iconst Y44 (v := (3 : Int32)) (by decide) at_50 rfl ?_
      obtain ⟨v51, hv51⟩ : ∃ z : Int32, qq &&& (3 : Int32) = z := ⟨_, rfl⟩
      have iv51 : v51.toInt = qq.toInt % 4 := by have q := c_mask qq (3 : Int32) 2 (by decide) (by decide); rw [hv51] at q; exact q
      refine Gl.iand Y44 hv51 at_51 rfl ?_
      refine Gl.ifne Y44 at_52 (by decide) rfl rfl (fun c52 => ?_) (fun c52 => ?_)
      · have j52 : ¬ (v51.toInt = 0) := fun q => c52 (Int32.toInt_inj.mp q)
        refine Gl.aload Y44 rfl rfl at_64 rfl ?_
        refine Gl.lloadN Y44 rfl at_66 rfl ?_
        have f65 : Exa Z h44 b19 "com/example/meterwise/meterwise/model/WholeNumber" := ((f58.keep K36).keep K44)
        have f66 : Fld Z h44 b19 "com/example/meterwise/meterwise/model/WholeNumber" "words" "[J" (.ref wa25) := (((Fld.ext E30 f25_2).keep K36 (ninS (Nat.ne_of_lt (Nat.lt_of_lt_of_eq f25_1.lt g30.symm)) nin0)).keep K44 (ninS (Ne.symm (Nat.ne_of_lt (Nat.lt_of_lt_of_eq f14_3.lt g19.symm))) nin0))
        have f67 : Arv Z h44 wa25 ck25 .long (2 : Int32) [(.long (0 : Int64)), (.long (0 : Int64))] (.long (0 : Int64)) := ((f61.keep K36 (ninS (Nat.ne_of_lt (Nat.lt_of_lt_of_eq f25_3.lt g30.symm)) nin0)).keep K44 (ninS (Ne.symm (Nat.ne_of_lt (Nat.lt_of_lt_of_le f54.lt f25_0))) nin0))
        refine Gl.callV Y44 (tw_16 hw) (tw_17 hw) (tw_19 hw) (tw_19 hw) (tw_18 hw) (tw_2 hw) (tw_20 hw) (by decide) f65 (rm27 l Z a0 hw [] b19 wa25 ck25 (0 : Int64) (0 : Int64) yy h44 n0 Y44.sz f65 f66 f67 (Nat.le_trans Y25_sz f25_0) (Nat.ne_of_lt (Nat.lt_of_lt_of_le X19.lt f25_0))) (a := b19) (argsL := [(.long yy)]) (rest := []) rfl rfl (lenOf pd_10 rfl) rfl (by decide) (Nat.le_of_ble_eq_true rfl) (by decide) (by decide) at_67 rfl (fun v67 T67 h67 Y67 q67 => ?_)
        obtain ⟨rfl, K67, f67_0⟩ := q67
        show Gl p e below _ (T67.setTop (mkF m 70 #[.val (.int pp), .val (.long xx), .second, .val (.long yy), .second, .val (.int qq), .val (.int v5), .val (.ref b8), .val (.ref b19), .val (.ref b30), .unset] [(.ref b19)]))
        refine Gl.pop Y67 rfl at_70 rfl ?_
        refine Gl.aload Y67 rfl rfl at_71 rfl ?_
        refine Gl.aload Y67 rfl rfl at_73 rfl ?_
        have f68 : Exa Z h67 b8 "com/example/meterwise/meterwise/model/WholeNumber" := ((f62.keep K44).keep K67)
        have f69 : Fld Z h67 b8 "com/example/meterwise/meterwise/model/WholeNumber" "words" "[J" (.ref wa14) := ((f63.keep K44 (ninS (Nat.ne_of_lt (Nat.lt_of_lt_of_le X8.lt f14_0)) nin0)).keep K67 (ninS (Nat.ne_of_lt (Nat.lt_of_lt_of_le f53.lt f25_0)) nin0))
        have f70 : Arv Z h67 wa14 ck14 .long (2 : Int32) [(.long xx), (.long (xx >>> ((63 : Int32) &&& 0x3f).toInt64))] (.long (0 : Int64)) := (f44_0.keep K67 (ninS (Nat.ne_of_lt (Nat.lt_of_lt_of_le f54.lt f25_0)) nin0))
        have f71 : Exa Z h67 b19 "com/example/meterwise/meterwise/model/WholeNumber" := (f65.keep K67)
        have f72 : Fld Z h67 b19 "com/example/meterwise/meterwise/model/WholeNumber" "words" "[J" (.ref wa25) := (f66.keep K67 (ninS (Nat.ne_of_lt (Nat.lt_of_lt_of_le X19.lt f25_0)) nin0))
        refine Gl.callV Y67 (tw_79 hw) (tw_80 hw) (tw_82 hw) (tw_82 hw) (tw_81 hw) (tw_2 hw) (tw_83 hw) (by decide) f68 (rm34 l Z a0 hw [] b8 wa14 ck14 xx (xx >>> ((63 : Int32) &&& 0x3f).toInt64) b19 wa25 ck25 yy (yy >>> ((63 : Int32) &&& 0x3f).toInt64) h67 n0 Y67.sz f68 f69 f70 (Nat.le_trans Y14_sz f14_0) (Nat.ne_of_lt (Nat.lt_of_lt_of_le X8.lt f14_0)) f71 f72 f67_0 (Nat.ne_of_lt (Nat.lt_of_lt_of_le f54.lt f25_0)) (Ne.symm (Nat.ne_of_lt (Nat.lt_of_lt_of_eq f14_3.lt g19.symm)))) (a := b8) (argsL := [(.ref b19)]) (rest := []) rfl rfl (lenOf pd_11 rfl) rfl (by decide) (Nat.le_of_ble_eq_true rfl) (by decide) (by decide) at_75 rfl (fun v75 T75 h75 Y75 q75 => ?_)
        obtain ⟨e075, e175, rfl, K75, f75_0⟩ := q75
        show Gl p e below _ (T75.setTop (mkF m 78 #[.val (.int pp), .val (.long xx), .second, .val (.long yy), .second, .val (.int qq), .val (.int v5), .val (.ref b8), .val (.ref b19), .val (.ref b30), .unset] [(.ref b8)]))
        refine Gl.pop Y75 rfl at_78 rfl ?_
        refine Gl.aload Y75 rfl rfl at_79 rfl ?_
        refine Gl.aload Y75 rfl rfl at_81 rfl ?_
        have f73 : Exa Z h75 b30 "com/example/meterwise/meterwise/model/WholeNumber" := (((f36_1.keep K44).keep K67).keep K75)
        have f74 : Fld Z h75 b30 "com/example/meterwise/meterwise/model/WholeNumber" "words" "[J" (.ref wa36) := (((f36_2.keep K44 (ninS (Ne.symm (Nat.ne_of_lt (Nat.lt_of_lt_of_eq f56.lt g30.symm))) nin0)).keep K67 (ninS (Ne.symm (Nat.ne_of_lt (Nat.lt_of_lt_of_eq f25_3.lt g30.symm))) nin0)).keep K75 (ninS (Ne.symm (Nat.ne_of_lt (Nat.lt_of_lt_of_eq f56.lt g30.symm))) nin0))
        have f75 : Arv Z h75 wa36 ck36 .long (2 : Int32) [(.long (0 : Int64)), (.long (0 : Int64))] (.long (0 : Int64)) := (((f36_3.keep K44 (ninS (Ne.symm (Nat.ne_of_lt (Nat.lt_of_lt_of_le f60.lt f36_0))) nin0)).keep K67 (ninS (Ne.symm (Nat.ne_of_lt (Nat.lt_of_lt_of_le f61.lt f36_0))) nin0)).keep K75 (ninS (Ne.symm (Nat.ne_of_lt (Nat.lt_of_lt_of_le f60.lt f36_0))) nin0))
        have f76 : Exa Z h75 b8 "com/example/meterwise/meterwise/model/WholeNumber" := (f68.keep K75)
        have f77 : Fld Z h75 b8 "com/example/meterwise/meterwise/model/WholeNumber" "words" "[J" (.ref wa14) := (f69.keep K75 (ninS (Nat.ne_of_lt (Nat.lt_of_lt_of_le X8.lt f14_0)) nin0))
        refine Gl.callV Y75 (tw_37 hw) (tw_38 hw) (tw_40 hw) (tw_40 hw) (tw_39 hw) (tw_2 hw) (tw_41 hw) (by decide) f73 (rm37 l Z a0 hw [] b30 wa36 ck36 b8 wa14 ck14 e075 e175 h75 n0 Y75.sz f73 f74 f75 (Nat.le_trans Y36_sz f36_0) (Nat.ne_of_lt (Nat.lt_of_lt_of_le X30.lt f36_0)) f76 f77 f75_0 (Ne.symm (Nat.ne_of_lt (Nat.lt_of_lt_of_le f60.lt f36_0))) (Nat.ne_of_lt (Nat.lt_of_lt_of_le f59.lt f36_0))) (a := b30) (argsL := [(.ref b8)]) (rest := []) rfl rfl (lenOf pd_11 rfl) rfl (by decide) (Nat.le_of_ble_eq_true rfl) (by decide) (by decide) at_83 rfl (fun v83 T83 h83 Y83 q83 => ?_)
        obtain ⟨rfl, K83, f83_0⟩ := q83
        show Gl p e below _ (T83.setTop (mkF m 86 #[.val (.int pp), .val (.long xx), .second, .val (.long yy), .second, .val (.int qq), .val (.int v5), .val (.ref b8), .val (.ref b19), .val (.ref b30), .unset] [(.ref b30)]))
        refine Gl.pop Y83 rfl at_86 rfl ?_
        refine Gl.aload Y83 rfl rfl at_87 rfl ?_
        have f78 : Exa Z h83 b8 "com/example/meterwise/meterwise/model/WholeNumber" := (f76.keep K83)
        have f79 : Fld Z h83 b8 "com/example/meterwise/meterwise/model/WholeNumber" "words" "[J" (.ref wa14) := (f77.keep K83 (ninS (Nat.ne_of_lt (Nat.lt_of_lt_of_le f59.lt f36_0)) nin0))
        have f80 : Arv Z h83 wa14 ck14 .long (2 : Int32) [(.long e075), (.long e175)] (.long (0 : Int64)) := (f75_0.keep K83 (ninS (Nat.ne_of_lt (Nat.lt_of_lt_of_le f60.lt f36_0)) nin0))
        refine Gl.callV Y83 (tw_60 hw) (tw_61 hw) (tw_63 hw) (tw_63 hw) (tw_62 hw) (tw_2 hw) (tw_64 hw) (by decide) f78 (rm35 l Z a0 hw [] b8 wa14 ck14 e075 e175 h83 n0 Y83.sz f78 f79 f80 (Nat.le_trans Y14_sz f14_0) (Nat.ne_of_lt (Nat.lt_of_lt_of_le X8.lt f14_0))) (a := b8) (argsL := []) (rest := []) rfl rfl (lenOf pd_5 rfl) rfl (by decide) (Nat.le_of_ble_eq_true rfl) (by decide) (by decide) at_89 rfl (fun v89 T89 h89 Y89 q89 => ?_)
        obtain ⟨rfl, K89, f89_0⟩ := q89
        show Gl p e below _ (T89.setTop (mkF m 92 #[.val (.int pp), .val (.long xx), .second, .val (.long yy), .second, .val (.int qq), .val (.int v5), .val (.ref b8), .val (.ref b19), .val (.ref b30), .unset] [(.ref b8)]))
        refine Gl.astore Y89 rfl (L' := #[.val (.int pp), .val (.long xx), .second, .val (.long yy), .second, .val (.int qq), .val (.int v5), .val (.ref b8), .val (.ref b19), .val (.ref b30), .val (.ref b8)]) rfl at_92 rfl ?_
        refine Gl.aload Y89 rfl rfl at_94 rfl ?_
        refine Gl.aload Y89 rfl rfl at_96 rfl ?_
        refine Gl.acmpne Y89 rfl rfl at_98 (by decide) rfl rfl (fun c98 => ?_) (fun c98 => ?_)
        · exact absurd rfl c98
        refine Gl.aload Y89 rfl rfl at_101 rfl ?_
        refine Gl.aload Y89 rfl rfl at_103 rfl ?_
        have f81 : Exa Z h89 b8 "com/example/meterwise/meterwise/model/WholeNumber" := (f78.keep K89)
        have f82 : Fld Z h89 b8 "com/example/meterwise/meterwise/model/WholeNumber" "words" "[J" (.ref wa14) := (f79.keep K89 (ninS (Nat.ne_of_lt (Nat.lt_of_lt_of_le X8.lt f14_0)) nin0))
        have f83 : Exa Z h89 b30 "com/example/meterwise/meterwise/model/WholeNumber" := ((f73.keep K83).keep K89)
        have f84 : Fld Z h89 b30 "com/example/meterwise/meterwise/model/WholeNumber" "words" "[J" (.ref wa36) := ((f74.keep K83 (ninS (Nat.ne_of_lt (Nat.lt_of_lt_of_le X30.lt f36_0)) nin0)).keep K89 (ninS (Ne.symm (Nat.ne_of_lt (Nat.lt_of_lt_of_eq f56.lt g30.symm))) nin0))
        have f85 : Arv Z h89 wa36 ck36 .long (2 : Int32) [(.long (own_o e075 1)), (.long (own_o e175 (own_k e075 1)))] (.long (0 : Int64)) := (f83_0.keep K89 (ninS (Ne.symm (Nat.ne_of_lt (Nat.lt_of_lt_of_le f60.lt f36_0))) nin0))
        refine Gl.callV Y89 (tw_66 hw) (tw_67 hw) (tw_69 hw) (tw_69 hw) (tw_68 hw) (tw_2 hw) (tw_70 hw) (by decide) f81 (rm40 l Z a0 hw [] b8 wa14 ck14 (own_o e075 1) (own_o e175 (own_k e075 1)) b30 wa36 ck36 h89 n0 Y89.sz f81 f82 f89_0 f83 f84 f85) (a := b8) (argsL := [(.ref b30)]) (rest := []) rfl rfl (lenOf pd_12 rfl) rfl (by decide) (Nat.le_of_ble_eq_true rfl) (by decide) (by decide) at_105 rfl (fun v105 T105 h105 Y105 q105 => ?_)
        obtain ⟨rfl, rfl⟩ := q105
        show Gl p e below _ (T105.setTop (mkF m 108 #[.val (.int pp), .val (.long xx), .second, .val (.long yy), .second, .val (.int qq), .val (.int v5), .val (.ref b8), .val (.ref b19), .val (.ref b30), .val (.ref b8)] [(.int (0 : Int32))]))
        refine Gl.ifne Y105 at_108 (by decide) rfl rfl (fun c108 => ?_) (fun c108 => ?_)
        · exact absurd c108 (by decide)
        refine Gl.iconst Y105 (v := (1 : Int32)) (by decide) at_111 rfl ?_
        refine Gl.goto Y105 at_112 (by decide) rfl ?_
        exact Gl.retZ Y105 (by decide) (by decide) (x' := (1 : Int32)) (by decide) at_116 rfl
      · have j52 : v51.toInt = 0 := congrArg Int32.toInt c52
        refine Gl.aload Y44 rfl rfl at_55 rfl ?_
        have f86 : Exa Z h44 b8 "com/example/meterwise/meterwise/model/WholeNumber" := (f62.keep K44)
        have f87 : Fld Z h44 b8 "com/example/meterwise/meterwise/model/WholeNumber" "words" "[J" (.ref wa14) := (f63.keep K44 (ninS (Nat.ne_of_lt (Nat.lt_of_lt_of_le X8.lt f14_0)) nin0))
        refine Gl.callV Y44 (tw_28 hw) (tw_29 hw) (tw_31 hw) (tw_31 hw) (tw_30 hw) (tw_2 hw) (tw_32 hw) (by decide) f86 (rm26 l Z a0 hw [] b8 wa14 ck14 xx (xx >>> ((63 : Int32) &&& 0x3f).toInt64) h44 n0 Y44.sz f86 f87 f44_0 (Nat.le_trans Y14_sz f14_0) (Nat.ne_of_lt (Nat.lt_of_lt_of_le X8.lt f14_0))) (a := b8) (argsL := []) (rest := []) rfl rfl (lenOf pd_5 rfl) rfl (by decide) (Nat.le_of_ble_eq_true rfl) (by decide) (by decide) at_57 rfl (fun v57 T57 h57 Y57 q57 => ?_)
        obtain ⟨rfl, K57, f57_0⟩ := q57
        show Gl p e below _ (T57.setTop (mkF m 60 #[.val (.int pp), .val (.long xx), .second, .val (.long yy), .second, .val (.int qq), .val (.int v5), .val (.ref b8), .val (.ref b19), .val (.ref b30), .unset] [(.ref b8)]))
        refine Gl.pop Y57 rfl at_60 rfl ?_
        refine Gl.goto Y57 at_61 (by decide) rfl ?_
        refine Gl.aload Y57 rfl rfl at_79 rfl ?_
        refine Gl.aload Y57 rfl rfl at_81 rfl ?_
        have f88 : Exa Z h57 b30 "com/example/meterwise/meterwise/model/WholeNumber" := ((f36_1.keep K44).keep K57)
        have f89 : Fld Z h57 b30 "com/example/meterwise/meterwise/model/WholeNumber" "words" "[J" (.ref wa36) := ((f36_2.keep K44 (ninS (Ne.symm (Nat.ne_of_lt (Nat.lt_of_lt_of_eq f56.lt g30.symm))) nin0)).keep K57 (ninS (Ne.symm (Nat.ne_of_lt (Nat.lt_of_lt_of_eq f56.lt g30.symm))) nin0))
        have f90 : Arv Z h57 wa36 ck36 .long (2 : Int32) [(.long (0 : Int64)), (.long (0 : Int64))] (.long (0 : Int64)) := ((f36_3.keep K44 (ninS (Ne.symm (Nat.ne_of_lt (Nat.lt_of_lt_of_le f60.lt f36_0))) nin0)).keep K57 (ninS (Ne.symm (Nat.ne_of_lt (Nat.lt_of_lt_of_le f60.lt f36_0))) nin0))
        have f91 : Exa Z h57 b8 "com/example/meterwise/meterwise/model/WholeNumber" := (f86.keep K57)
        have f92 : Fld Z h57 b8 "com/example/meterwise/meterwise/model/WholeNumber" "words" "[J" (.ref wa14) := (f87.keep K57 (ninS (Nat.ne_of_lt (Nat.lt_of_lt_of_le X8.lt f14_0)) nin0))
        refine Gl.callV Y57 (tw_37 hw) (tw_38 hw) (tw_40 hw) (tw_40 hw) (tw_39 hw) (tw_2 hw) (tw_41 hw) (by decide) f88 (rm37 l Z a0 hw [] b30 wa36 ck36 b8 wa14 ck14 (0 : Int64) (-9223372036854775808 : Int64) h57 n0 Y57.sz f88 f89 f90 (Nat.le_trans Y36_sz f36_0) (Nat.ne_of_lt (Nat.lt_of_lt_of_le X30.lt f36_0)) f91 f92 f57_0 (Ne.symm (Nat.ne_of_lt (Nat.lt_of_lt_of_le f60.lt f36_0))) (Nat.ne_of_lt (Nat.lt_of_lt_of_le f59.lt f36_0))) (a := b30) (argsL := [(.ref b8)]) (rest := []) rfl rfl (lenOf pd_11 rfl) rfl (by decide) (Nat.le_of_ble_eq_true rfl) (by decide) (by decide) at_83 rfl (fun v83 T83 h83 Y83 q83 => ?_)
        obtain ⟨rfl, K83, f83_0⟩ := q83
        show Gl p e below _ (T83.setTop (mkF m 86 #[.val (.int pp), .val (.long xx), .second, .val (.long yy), .second, .val (.int qq), .val (.int v5), .val (.ref b8), .val (.ref b19), .val (.ref b30), .unset] [(.ref b30)]))
        refine Gl.pop Y83 rfl at_86 rfl ?_
        refine Gl.aload Y83 rfl rfl at_87 rfl ?_
        have f93 : Exa Z h83 b8 "com/example/meterwise/meterwise/model/WholeNumber" := (f91.keep K83)
        have f94 : Fld Z h83 b8 "com/example/meterwise/meterwise/model/WholeNumber" "words" "[J" (.ref wa14) := (f92.keep K83 (ninS (Nat.ne_of_lt (Nat.lt_of_lt_of_le f59.lt f36_0)) nin0))
        have f95 : Arv Z h83 wa14 ck14 .long (2 : Int32) [(.long (0 : Int64)), (.long (-9223372036854775808 : Int64))] (.long (0 : Int64)) := (f57_0.keep K83 (ninS (Nat.ne_of_lt (Nat.lt_of_lt_of_le f60.lt f36_0)) nin0))
        refine Gl.callV Y83 (tw_60 hw) (tw_61 hw) (tw_63 hw) (tw_63 hw) (tw_62 hw) (tw_2 hw) (tw_64 hw) (by decide) f93 (rm35 l Z a0 hw [] b8 wa14 ck14 (0 : Int64) (-9223372036854775808 : Int64) h83 n0 Y83.sz f93 f94 f95 (Nat.le_trans Y14_sz f14_0) (Nat.ne_of_lt (Nat.lt_of_lt_of_le X8.lt f14_0))) (a := b8) (argsL := []) (rest := []) rfl rfl (lenOf pd_5 rfl) rfl (by decide) (Nat.le_of_ble_eq_true rfl) (by decide) (by decide) at_89 rfl (fun v89 T89 h89 Y89 q89 => ?_)
        obtain ⟨rfl, K89, f89_0⟩ := q89
        show Gl p e below _ (T89.setTop (mkF m 92 #[.val (.int pp), .val (.long xx), .second, .val (.long yy), .second, .val (.int qq), .val (.int v5), .val (.ref b8), .val (.ref b19), .val (.ref b30), .unset] [(.ref b8)]))
        refine Gl.astore Y89 rfl (L' := #[.val (.int pp), .val (.long xx), .second, .val (.long yy), .second, .val (.int qq), .val (.int v5), .val (.ref b8), .val (.ref b19), .val (.ref b30), .val (.ref b8)]) rfl at_92 rfl ?_
        refine Gl.aload Y89 rfl rfl at_94 rfl ?_
        refine Gl.aload Y89 rfl rfl at_96 rfl ?_
        refine Gl.acmpne Y89 rfl rfl at_98 (by decide) rfl rfl (fun c98 => ?_) (fun c98 => ?_)
        · exact absurd rfl c98
        refine Gl.aload Y89 rfl rfl at_101 rfl ?_
        refine Gl.aload Y89 rfl rfl at_103 rfl ?_
        have f96 : Exa Z h89 b8 "com/example/meterwise/meterwise/model/WholeNumber" := (f93.keep K89)
        have f97 : Fld Z h89 b8 "com/example/meterwise/meterwise/model/WholeNumber" "words" "[J" (.ref wa14) := (f94.keep K89 (ninS (Nat.ne_of_lt (Nat.lt_of_lt_of_le X8.lt f14_0)) nin0))
        have f98 : Exa Z h89 b30 "com/example/meterwise/meterwise/model/WholeNumber" := ((f88.keep K83).keep K89)
        have f99 : Fld Z h89 b30 "com/example/meterwise/meterwise/model/WholeNumber" "words" "[J" (.ref wa36) := ((f89.keep K83 (ninS (Nat.ne_of_lt (Nat.lt_of_lt_of_le X30.lt f36_0)) nin0)).keep K89 (ninS (Ne.symm (Nat.ne_of_lt (Nat.lt_of_lt_of_eq f56.lt g30.symm))) nin0))
        have f100 : Arv Z h89 wa36 ck36 .long (2 : Int32) [(.long (own_o (0 : Int64) 1)), (.long (own_o (-9223372036854775808 : Int64) (own_k (0 : Int64) 1)))] (.long (0 : Int64)) := (f83_0.keep K89 (ninS (Ne.symm (Nat.ne_of_lt (Nat.lt_of_lt_of_le f60.lt f36_0))) nin0))
        refine Gl.callV Y89 (tw_66 hw) (tw_67 hw) (tw_69 hw) (tw_69 hw) (tw_68 hw) (tw_2 hw) (tw_70 hw) (by decide) f96 (rm40 l Z a0 hw [] b8 wa14 ck14 (own_o (0 : Int64) 1) (own_o (-9223372036854775808 : Int64) (own_k (0 : Int64) 1)) b30 wa36 ck36 h89 n0 Y89.sz f96 f97 f89_0 f98 f99 f100) (a := b8) (argsL := [(.ref b30)]) (rest := []) rfl rfl (lenOf pd_12 rfl) rfl (by decide) (Nat.le_of_ble_eq_true rfl) (by decide) (by decide) at_105 rfl (fun v105 T105 h105 Y105 q105 => ?_)
        obtain ⟨rfl, rfl⟩ := q105
        show Gl p e below _ (T105.setTop (mkF m 108 #[.val (.int pp), .val (.long xx), .second, .val (.long yy), .second, .val (.int qq), .val (.int v5), .val (.ref b8), .val (.ref b19), .val (.ref b30), .val (.ref b8)] [(.int (0 : Int32))]))
        refine Gl.ifne Y105 at_108 (by decide) rfl rfl (fun c108 => ?_) (fun c108 => ?_)
        · exact absurd c108 (by decide)
        refine Gl.iconst Y105 (v := (1 : Int32)) (by decide) at_111 rfl ?_
        refine Gl.goto Y105 at_112 (by decide) rfl ?_
        exact Gl.retZ Y105 (by decide) (by decide) (x' := (1 : Int32)) (by decide) at_116 rfl
    · have jg38 : ¬ (v5.toInt < 39) := fun q => dg38 (Int32.lt_iff_toInt_lt.mpr q)
      by_cases dg57 : v5 < (58 : Int32)
      · have jg57 : v5.toInt < 58 := Int32.lt_iff_toInt_lt.mp dg57
        refine Gl.newO Y0 (tw_0 hw) (tw_1 hw) (tw_2 hw) (by decide) (by decide) at_8 rfl (fun T8 h8 b8 Y8 E8 g8 sb8 X8 D8 => ?_)
        have f101 : Fld Z h8 b8 "com/example/meterwise/meterwise/model/WholeNumber" "words" "[J" .null := D8 (Or.inr (tw_15 hw)) (ty := (.array .long)) (by decide)
        show Gl p e below _ (T8.setTop (mkF m 11 #[.val (.int pp), .val (.long xx), .second, .val (.long yy), .second, .val (.int qq), .val (.int v5), .unset, .unset, .unset, .unset] [(.ref b8)]))
        refine Gl.dup Y8 rfl at_11 rfl ?_
        refine Gl.iload Y8 rfl at_12 rfl ?_
        refine Gl.callN Y8 rfl (tw_3 hw) (tw_4 hw) (tw_2 hw) (tw_5 hw) (by decide) (rm2 l Z a0 hw [] b8 v5 h8 n0 Y8.sz X8 f101 sb8 (by first | assumption | decide | omega | (simp; done)) (by first | assumption | decide | omega | (simp; done))) (a := b8) (argsL := [(.int v5)]) (rest := [(.ref b8)]) rfl rfl (lenOf pd_9 rfl) rfl (by decide) (Nat.le_of_ble_eq_true rfl) (by decide) (by decide) at_14 rfl (fun v14 T14 h14 Y14 q14 => ?_)
        obtain ⟨wa14, ck14, rfl, K14, f14_0, f14_1, f14_2, f14_3⟩ := q14
        have Y14_sz : n0 ≤ h8.size := Y8.sz
        show Gl p e below _ (T14.setTop (mkF m 17 #[.val (.int pp), .val (.long xx), .second, .val (.long yy), .second, .val (.int qq), .val (.int v5), .unset, .unset, .unset, .unset] [(.ref b8)]))
        refine Gl.astore Y14 rfl (L' := #[.val (.int pp), .val (.long xx), .second, .val (.long yy), .second, .val (.int qq), .val (.int v5), .val (.ref b8), .unset, .unset, .unset]) rfl at_17 rfl ?_
        refine Gl.newO Y14 (tw_0 hw) (tw_1 hw) (tw_2 hw) (by decide) (by decide) at_19 rfl (fun T19 h19 b19 Y19 E19 g19 sb19 X19 D19 => ?_)
        have f102 : Fld Z h19 b19 "com/example/meterwise/meterwise/model/WholeNumber" "words" "[J" .null := D19 (Or.inr (tw_15 hw)) (ty := (.array .long)) (by decide)
        show Gl p e below _ (T19.setTop (mkF m 22 #[.val (.int pp), .val (.long xx), .second, .val (.long yy), .second, .val (.int qq), .val (.int v5), .val (.ref b8), .unset, .unset, .unset] [(.ref b19)]))
        refine Gl.dup Y19 rfl at_22 rfl ?_
        refine Gl.iload Y19 rfl at_23 rfl ?_
        refine Gl.callN Y19 rfl (tw_3 hw) (tw_4 hw) (tw_2 hw) (tw_5 hw) (by decide) (rm2 l Z a0 hw [] b19 v5 h19 n0 Y19.sz X19 f102 sb19 (by first | assumption | decide | omega | (simp; done)) (by first | assumption | decide | omega | (simp; done))) (a := b19) (argsL := [(.int v5)]) (rest := [(.ref b19)]) rfl rfl (lenOf pd_9 rfl) rfl (by decide) (Nat.le_of_ble_eq_true rfl) (by decide) (by decide) at_25 rfl (fun v25 T25 h25 Y25 q25 => ?_)
        obtain ⟨wa25, ck25, rfl, K25, f25_0, f25_1, f25_2, f25_3⟩ := q25
        have f103 : Exa Z h19 b8 "com/example/meterwise/meterwise/model/WholeNumber" := (Exa.ext E19 f14_1)
        have f104 : Arv Z h19 wa14 ck14 .long (3 : Int32) [(.long (0 : Int64)), (.long (0 : Int64)), (.long (0 : Int64))] (.long (0 : Int64)) := (f14_3.ext E19)
        have Y25_sz : n0 ≤ h19.size := Y19.sz
        show Gl p e below _ (T25.setTop (mkF m 28 #[.val (.int pp), .val (.long xx), .second, .val (.long yy), .second, .val (.int qq), .val (.int v5), .val (.ref b8), .unset, .unset, .unset] [(.ref b19)]))
        refine Gl.astore Y25 rfl (L' := #[.val (.int pp), .val (.long xx), .second, .val (.long yy), .second, .val (.int qq), .val (.int v5), .val (.ref b8), .val (.ref b19), .unset, .unset]) rfl at_28 rfl ?_
        refine Gl.newO Y25 (tw_0 hw) (tw_1 hw) (tw_2 hw) (by decide) (by decide) at_30 rfl (fun T30 h30 b30 Y30 E30 g30 sb30 X30 D30 => ?_)
        have f105 : Exa Z h25 b8 "com/example/meterwise/meterwise/model/WholeNumber" := (f103.keep K25)
        have f106 : Arv Z h25 wa14 ck14 .long (3 : Int32) [(.long (0 : Int64)), (.long (0 : Int64)), (.long (0 : Int64))] (.long (0 : Int64)) := (f104.keep K25 (ninS (Nat.ne_of_lt (Nat.lt_of_lt_of_eq f14_3.lt g19.symm)) nin0))
        have f107 : Fld Z h30 b30 "com/example/meterwise/meterwise/model/WholeNumber" "words" "[J" .null := D30 (Or.inr (tw_15 hw)) (ty := (.array .long)) (by decide)
        show Gl p e below _ (T30.setTop (mkF m 33 #[.val (.int pp), .val (.long xx), .second, .val (.long yy), .second, .val (.int qq), .val (.int v5), .val (.ref b8), .val (.ref b19), .unset, .unset] [(.ref b30)]))
        refine Gl.dup Y30 rfl at_33 rfl ?_
        refine Gl.iload Y30 rfl at_34 rfl ?_
        refine Gl.callN Y30 rfl (tw_3 hw) (tw_4 hw) (tw_2 hw) (tw_5 hw) (by decide) (rm2 l Z a0 hw [] b30 v5 h30 n0 Y30.sz X30 f107 sb30 (by first | assumption | decide | omega | (simp; done)) (by first | assumption | decide | omega | (simp; done))) (a := b30) (argsL := [(.int v5)]) (rest := [(.ref b30)]) rfl rfl (lenOf pd_9 rfl) rfl (by decide) (Nat.le_of_ble_eq_true rfl) (by decide) (by decide) at_36 rfl (fun v36 T36 h36 Y36 q36 => ?_)
        obtain ⟨wa36, ck36, rfl, K36, f36_0, f36_1, f36_2, f36_3⟩ := q36
        have f108 : Exa Z h30 b19 "com/example/meterwise/meterwise/model/WholeNumber" := (Exa.ext E30 f25_1)
        have f109 : Exa Z h30 b8 "com/example/meterwise/meterwise/model/WholeNumber" := (Exa.ext E30 f105)
        have f110 : Arv Z h30 wa14 ck14 .long (3 : Int32) [(.long (0 : Int64)), (.long (0 : Int64)), (.long (0 : Int64))] (.long (0 : Int64)) := (f106.ext E30)
        have f111 : Arv Z h30 wa25 ck25 .long (3 : Int32) [(.long (0 : Int64)), (.long (0 : Int64)), (.long (0 : Int64))] (.long (0 : Int64)) := (f25_3.ext E30)
        have Y36_sz : n0 ≤ h30.size := Y30.sz
        show Gl p e below _ (T36.setTop (mkF m 39 #[.val (.int pp), .val (.long xx), .second, .val (.long yy), .second, .val (.int qq), .val (.int v5), .val (.ref b8), .val (.ref b19), .unset, .unset] [(.ref b30)]))
        refine Gl.astore Y36 rfl (L' := #[.val (.int pp), .val (.long xx), .second, .val (.long yy), .second, .val (.int qq), .val (.int v5), .val (.ref b8), .val (.ref b19), .val (.ref b30), .unset]) rfl at_39 rfl ?_
        refine Gl.aload Y36 rfl rfl at_41 rfl ?_
        refine Gl.lloadN Y36 rfl at_43 rfl ?_
        have f112 : Exa Z h36 b8 "com/example/meterwise/meterwise/model/WholeNumber" := (f109.keep K36)
        have f113 : Fld Z h36 b8 "com/example/meterwise/meterwise/model/WholeNumber" "words" "[J" (.ref wa14) := ((Fld.ext E30 ((Fld.ext E19 f14_2).keep K25 (ninS (Nat.ne_of_lt (Nat.lt_of_lt_of_eq f14_1.lt g19.symm)) nin0))).keep K36 (ninS (Nat.ne_of_lt (Nat.lt_of_lt_of_eq f105.lt g30.symm)) nin0))
        have f114 : Arv Z h36 wa14 ck14 .long (3 : Int32) [(.long (0 : Int64)), (.long (0 : Int64)), (.long (0 : Int64))] (.long (0 : Int64)) := (f110.keep K36 (ninS (Nat.ne_of_lt (Nat.lt_of_lt_of_eq f106.lt g30.symm)) nin0))
        refine Gl.callV Y36 (tw_16 hw) (tw_17 hw) (tw_19 hw) (tw_19 hw) (tw_18 hw) (tw_2 hw) (tw_20 hw) (by decide) f112 (rm46 l Z a0 hw [] b8 wa14 ck14 (0 : Int64) (0 : Int64) (0 : Int64) xx h36 n0 Y36.sz f112 f113 f114 (Nat.le_trans Y14_sz f14_0) (Nat.ne_of_lt (Nat.lt_of_lt_of_le X8.lt f14_0))) (a := b8) (argsL := [(.long xx)]) (rest := []) rfl rfl (lenOf pd_10 rfl) rfl (by decide) (Nat.le_of_ble_eq_true rfl) (by decide) (by decide) at_44 rfl (fun v44 T44 h44 Y44 q44 => ?_)
        obtain ⟨rfl, K44, f44_0⟩ := q44
        show Gl p e below _ (T44.setTop (mkF m 47 #[.val (.int pp), .val (.long xx), .second, .val (.long yy), .second, .val (.int qq), .val (.int v5), .val (.ref b8), .val (.ref b19), .val (.ref b30), .unset] [(.ref b8)]))
        refine Gl.pop Y44 rfl at_47 rfl ?_
        refine Gl.iload Y44 rfl at_48 rfl ?_
        refine Gl.iconst Y44 (v := (3 : Int32)) (by decide) at_50 rfl ?_
        obtain ⟨v51, hv51⟩ : ∃ z : Int32, qq &&& (3 : Int32) = z := ⟨_, rfl⟩
        have iv51 : v51.toInt = qq.toInt % 4 := by have q := c_mask qq (3 : Int32) 2 (by decide) (by decide); rw [hv51] at q; exact q
        refine Gl.iand Y44 hv51 at_51 rfl ?_
        refine Gl.ifne Y44 at_52 (by decide) rfl rfl (fun c52 => ?_) (fun c52 => ?_)
        · have j52 : ¬ (v51.toInt = 0) := fun q => c52 (Int32.toInt_inj.mp q)
          refine Gl.aload Y44 rfl rfl at_64 rfl ?_
          refine Gl.lloadN Y44 rfl at_66 rfl ?_
          have f115 : Exa Z h44 b19 "com/example/meterwise/meterwise/model/WholeNumber" := ((f108.keep K36).keep K44)
          have f116 : Fld Z h44 b19 "com/example/meterwise/meterwise/model/WholeNumber" "words" "[J" (.ref wa25) := (((Fld.ext E30 f25_2).keep K36 (ninS (Nat.ne_of_lt (Nat.lt_of_lt_of_eq f25_1.lt g30.symm)) nin0)).keep K44 (ninS (Ne.symm (Nat.ne_of_lt (Nat.lt_of_lt_of_eq f14_3.lt g19.symm))) nin0))
          have f117 : Arv Z h44 wa25 ck25 .long (3 : Int32) [(.long (0 : Int64)), (.long (0 : Int64)), (.long (0 : Int64))] (.long (0 : Int64)) := ((f111.keep K36 (ninS (Nat.ne_of_lt (Nat.lt_of_lt_of_eq f25_3.lt g30.symm)) nin0)).keep K44 (ninS (Ne.symm (Nat.ne_of_lt (Nat.lt_of_lt_of_le f104.lt f25_0))) nin0))
          refine Gl.callV Y44 (tw_16 hw) (tw_17 hw) (tw_19 hw) (tw_19 hw) (tw_18 hw) (tw_2 hw) (tw_20 hw) (by decide) f115 (rm46 l Z a0 hw [] b19 wa25 ck25 (0 : Int64) (0 : Int64) (0 : Int64) yy h44 n0 Y44.sz f115 f116 f117 (Nat.le_trans Y25_sz f25_0) (Nat.ne_of_lt (Nat.lt_of_lt_of_le X19.lt f25_0))) (a := b19) (argsL := [(.long yy)]) (rest := []) rfl rfl (lenOf pd_10 rfl) rfl (by decide) (Nat.le_of_ble_eq_true rfl) (by decide) (by decide) at_67 rfl (fun v67 T67 h67 Y67 q67 => ?_)
          obtain ⟨rfl, K67, f67_0⟩ := q67
          show Gl p e below _ (T67.setTop (mkF m 70 #[.val (.int pp), .val (.long xx), .second, .val (.long yy), .second, .val (.int qq), .val (.int v5), .val (.ref b8), .val (.ref b19), .val (.ref b30), .unset] [(.ref b19)]))
          refine Gl.pop Y67 rfl at_70 rfl ?_
          refine Gl.aload Y67 rfl rfl at_71 rfl ?_
          refine Gl.aload Y67 rfl rfl at_73 rfl ?_
          have f118 : Exa Z h67 b8 "com/example/meterwise/meterwise/model/WholeNumber" := ((f112.keep K44).keep K67)
          have f119 : Fld Z h67 b8 "com/example/meterwise/meterwise/model/WholeNumber" "words" "[J" (.ref wa14) := ((f113.keep K44 (ninS (Nat.ne_of_lt (Nat.lt_of_lt_of_le X8.lt f14_0)) nin0)).keep K67 (ninS (Nat.ne_of_lt (Nat.lt_of_lt_of_le f103.lt f25_0)) nin0))
          have f120 : Arv Z h67 wa14 ck14 .long (3 : Int32) [(.long xx), (.long (xx >>> ((63 : Int32) &&& 0x3f).toInt64)), (.long (xx >>> ((63 : Int32) &&& 0x3f).toInt64))] (.long (0 : Int64)) := (f44_0.keep K67 (ninS (Nat.ne_of_lt (Nat.lt_of_lt_of_le f104.lt f25_0)) nin0))
          have f121 : Exa Z h67 b19 "com/example/meterwise/meterwise/model/WholeNumber" := (f115.keep K67)
          have f122 : Fld Z h67 b19 "com/example/meterwise/meterwise/model/WholeNumber" "words" "[J" (.ref wa25) := (f116.keep K67 (ninS (Nat.ne_of_lt (Nat.lt_of_lt_of_le X19.lt f25_0)) nin0))
          refine Gl.callV Y67 (tw_79 hw) (tw_80 hw) (tw_82 hw) (tw_82 hw) (tw_81 hw) (tw_2 hw) (tw_83 hw) (by decide) f118 (rm53 l Z a0 hw [] b8 wa14 ck14 xx (xx >>> ((63 : Int32) &&& 0x3f).toInt64) (xx >>> ((63 : Int32) &&& 0x3f).toInt64) b19 wa25 ck25 yy (yy >>> ((63 : Int32) &&& 0x3f).toInt64) (yy >>> ((63 : Int32) &&& 0x3f).toInt64) h67 n0 Y67.sz f118 f119 f120 (Nat.le_trans Y14_sz f14_0) (Nat.ne_of_lt (Nat.lt_of_lt_of_le X8.lt f14_0)) f121 f122 f67_0 (Nat.ne_of_lt (Nat.lt_of_lt_of_le f104.lt f25_0)) (Ne.symm (Nat.ne_of_lt (Nat.lt_of_lt_of_eq f14_3.lt g19.symm)))) (a := b8) (argsL := [(.ref b19)]) (rest := []) rfl rfl (lenOf pd_11 rfl) rfl (by decide) (Nat.le_of_ble_eq_true rfl) (by decide) (by decide) at_75 rfl (fun v75 T75 h75 Y75 q75 => ?_)
          obtain ⟨e075, e175, e275, rfl, K75, f75_0⟩ := q75
          show Gl p e below _ (T75.setTop (mkF m 78 #[.val (.int pp), .val (.long xx), .second, .val (.long yy), .second, .val (.int qq), .val (.int v5), .val (.ref b8), .val (.ref b19), .val (.ref b30), .unset] [(.ref b8)]))
          refine Gl.pop Y75 rfl at_78 rfl ?_
          refine Gl.aload Y75 rfl rfl at_79 rfl ?_
          refine Gl.aload Y75 rfl rfl at_81 rfl ?_
          have f123 : Exa Z h75 b30 "com/example/meterwise/meterwise/model/WholeNumber" := (((f36_1.keep K44).keep K67).keep K75)
          have f124 : Fld Z h75 b30 "com/example/meterwise/meterwise/model/WholeNumber" "words" "[J" (.ref wa36) := (((f36_2.keep K44 (ninS (Ne.symm (Nat.ne_of_lt (Nat.lt_of_lt_of_eq f106.lt g30.symm))) nin0)).keep K67 (ninS (Ne.symm (Nat.ne_of_lt (Nat.lt_of_lt_of_eq f25_3.lt g30.symm))) nin0)).keep K75 (ninS (Ne.symm (Nat.ne_of_lt (Nat.lt_of_lt_of_eq f106.lt g30.symm))) nin0))
          have f125 : Arv Z h75 wa36 ck36 .long (3 : Int32) [(.long (0 : Int64)), (.long (0 : Int64)), (.long (0 : Int64))] (.long (0 : Int64)) := (((f36_3.keep K44 (ninS (Ne.symm (Nat.ne_of_lt (Nat.lt_of_lt_of_le f110.lt f36_0))) nin0)).keep K67 (ninS (Ne.symm (Nat.ne_of_lt (Nat.lt_of_lt_of_le f111.lt f36_0))) nin0)).keep K75 (ninS (Ne.symm (Nat.ne_of_lt (Nat.lt_of_lt_of_le f110.lt f36_0))) nin0))
          have f126 : Exa Z h75 b8 "com/example/meterwise/meterwise/model/WholeNumber" := (f118.keep K75)
          have f127 : Fld Z h75 b8 "com/example/meterwise/meterwise/model/WholeNumber" "words" "[J" (.ref wa14) := (f119.keep K75 (ninS (Nat.ne_of_lt (Nat.lt_of_lt_of_le X8.lt f14_0)) nin0))
          refine Gl.callV Y75 (tw_37 hw) (tw_38 hw) (tw_40 hw) (tw_40 hw) (tw_39 hw) (tw_2 hw) (tw_41 hw) (by decide) f123 (rm56 l Z a0 hw [] b30 wa36 ck36 b8 wa14 ck14 e075 e175 e275 h75 n0 Y75.sz f123 f124 f125 (Nat.le_trans Y36_sz f36_0) (Nat.ne_of_lt (Nat.lt_of_lt_of_le X30.lt f36_0)) f126 f127 f75_0 (Ne.symm (Nat.ne_of_lt (Nat.lt_of_lt_of_le f110.lt f36_0))) (Nat.ne_of_lt (Nat.lt_of_lt_of_le f109.lt f36_0))) (a := b30) (argsL := [(.ref b8)]) (rest := []) rfl rfl (lenOf pd_11 rfl) rfl (by decide) (Nat.le_of_ble_eq_true rfl) (by decide) (by decide) at_83 rfl (fun v83 T83 h83 Y83 q83 => ?_)
          obtain ⟨rfl, K83, f83_0⟩ := q83
          show Gl p e below _ (T83.setTop (mkF m 86 #[.val (.int pp), .val (.long xx), .second, .val (.long yy), .second, .val (.int qq), .val (.int v5), .val (.ref b8), .val (.ref b19), .val (.ref b30), .unset] [(.ref b30)]))
          refine Gl.pop Y83 rfl at_86 rfl ?_
          refine Gl.aload Y83 rfl rfl at_87 rfl ?_
          have f128 : Exa Z h83 b8 "com/example/meterwise/meterwise/model/WholeNumber" := (f126.keep K83)
          have f129 : Fld Z h83 b8 "com/example/meterwise/meterwise/model/WholeNumber" "words" "[J" (.ref wa14) := (f127.keep K83 (ninS (Nat.ne_of_lt (Nat.lt_of_lt_of_le f109.lt f36_0)) nin0))
          have f130 : Arv Z h83 wa14 ck14 .long (3 : Int32) [(.long e075), (.long e175), (.long e275)] (.long (0 : Int64)) := (f75_0.keep K83 (ninS (Nat.ne_of_lt (Nat.lt_of_lt_of_le f110.lt f36_0)) nin0))
          refine Gl.callV Y83 (tw_60 hw) (tw_61 hw) (tw_63 hw) (tw_63 hw) (tw_62 hw) (tw_2 hw) (tw_64 hw) (by decide) f128 (rm54 l Z a0 hw [] b8 wa14 ck14 e075 e175 e275 h83 n0 Y83.sz f128 f129 f130 (Nat.le_trans Y14_sz f14_0) (Nat.ne_of_lt (Nat.lt_of_lt_of_le X8.lt f14_0))) (a := b8) (argsL := []) (rest := []) rfl rfl (lenOf pd_5 rfl) rfl (by decide) (Nat.le_of_ble_eq_true rfl) (by decide) (by decide) at_89 rfl (fun v89 T89 h89 Y89 q89 => ?_)
          obtain ⟨rfl, K89, f89_0⟩ := q89
          show Gl p e below _ (T89.setTop (mkF m 92 #[.val (.int pp), .val (.long xx), .second, .val (.long yy), .second, .val (.int qq), .val (.int v5), .val (.ref b8), .val (.ref b19), .val (.ref b30), .unset] [(.ref b8)]))
          refine Gl.astore Y89 rfl (L' := #[.val (.int pp), .val (.long xx), .second, .val (.long yy), .second, .val (.int qq), .val (.int v5), .val (.ref b8), .val (.ref b19), .val (.ref b30), .val (.ref b8)]) rfl at_92 rfl ?_
          refine Gl.aload Y89 rfl rfl at_94 rfl ?_
          refine Gl.aload Y89 rfl rfl at_96 rfl ?_
          refine Gl.acmpne Y89 rfl rfl at_98 (by decide) rfl rfl (fun c98 => ?_) (fun c98 => ?_)
          · exact absurd rfl c98
          refine Gl.aload Y89 rfl rfl at_101 rfl ?_
          refine Gl.aload Y89 rfl rfl at_103 rfl ?_
          have f131 : Exa Z h89 b8 "com/example/meterwise/meterwise/model/WholeNumber" := (f128.keep K89)
          have f132 : Fld Z h89 b8 "com/example/meterwise/meterwise/model/WholeNumber" "words" "[J" (.ref wa14) := (f129.keep K89 (ninS (Nat.ne_of_lt (Nat.lt_of_lt_of_le X8.lt f14_0)) nin0))
          have f133 : Exa Z h89 b30 "com/example/meterwise/meterwise/model/WholeNumber" := ((f123.keep K83).keep K89)
          have f134 : Fld Z h89 b30 "com/example/meterwise/meterwise/model/WholeNumber" "words" "[J" (.ref wa36) := ((f124.keep K83 (ninS (Nat.ne_of_lt (Nat.lt_of_lt_of_le X30.lt f36_0)) nin0)).keep K89 (ninS (Ne.symm (Nat.ne_of_lt (Nat.lt_of_lt_of_eq f106.lt g30.symm))) nin0))
          have f135 : Arv Z h89 wa36 ck36 .long (3 : Int32) [(.long (own_o e075 1)), (.long (own_o e175 (own_k e075 1))), (.long (own_o e275 (own_k e175 (own_k e075 1))))] (.long (0 : Int64)) := (f83_0.keep K89 (ninS (Ne.symm (Nat.ne_of_lt (Nat.lt_of_lt_of_le f110.lt f36_0))) nin0))
          refine Gl.callV Y89 (tw_66 hw) (tw_67 hw) (tw_69 hw) (tw_69 hw) (tw_68 hw) (tw_2 hw) (tw_70 hw) (by decide) f131 (rm60 l Z a0 hw [] b8 wa14 ck14 (own_o e075 1) (own_o e175 (own_k e075 1)) (own_o e275 (own_k e175 (own_k e075 1))) b30 wa36 ck36 h89 n0 Y89.sz f131 f132 f89_0 f133 f134 f135) (a := b8) (argsL := [(.ref b30)]) (rest := []) rfl rfl (lenOf pd_12 rfl) rfl (by decide) (Nat.le_of_ble_eq_true rfl) (by decide) (by decide) at_105 rfl (fun v105 T105 h105 Y105 q105 => ?_)
          obtain ⟨rfl, rfl⟩ := q105
          show Gl p e below _ (T105.setTop (mkF m 108 #[.val (.int pp), .val (.long xx), .second, .val (.long yy), .second, .val (.int qq), .val (.int v5), .val (.ref b8), .val (.ref b19), .val (.ref b30), .val (.ref b8)] [(.int (0 : Int32))]))
          refine Gl.ifne Y105 at_108 (by decide) rfl rfl (fun c108 => ?_) (fun c108 => ?_)
          · exact absurd c108 (by decide)
          refine Gl.iconst Y105 (v := (1 : Int32)) (by decide) at_111 rfl ?_
          refine Gl.goto Y105 at_112 (by decide) rfl ?_
          exact Gl.retZ Y105 (by decide) (by decide) (x' := (1 : Int32)) (by decide) at_116 rfl
        · have j52 : v51.toInt = 0 := congrArg Int32.toInt c52
          refine Gl.aload Y44 rfl rfl at_55 rfl ?_
          have f136 : Exa Z h44 b8 "com/example/meterwise/meterwise/model/WholeNumber" := (f112.keep K44)
          have f137 : Fld Z h44 b8 "com/example/meterwise/meterwise/model/WholeNumber" "words" "[J" (.ref wa14) := (f113.keep K44 (ninS (Nat.ne_of_lt (Nat.lt_of_lt_of_le X8.lt f14_0)) nin0))
          refine Gl.callV Y44 (tw_28 hw) (tw_29 hw) (tw_31 hw) (tw_31 hw) (tw_30 hw) (tw_2 hw) (tw_32 hw) (by decide) f136 (rm45 l Z a0 hw [] b8 wa14 ck14 xx (xx >>> ((63 : Int32) &&& 0x3f).toInt64) (xx >>> ((63 : Int32) &&& 0x3f).toInt64) h44 n0 Y44.sz f136 f137 f44_0 (Nat.le_trans Y14_sz f14_0) (Nat.ne_of_lt (Nat.lt_of_lt_of_le X8.lt f14_0))) (a := b8) (argsL := []) (rest := []) rfl rfl (lenOf pd_5 rfl) rfl (by decide) (Nat.le_of_ble_eq_true rfl) (by decide) (by decide) at_57 rfl (fun v57 T57 h57 Y57 q57 => ?_)
          obtain ⟨rfl, K57, f57_0⟩ := q57
          show Gl p e below _ (T57.setTop (mkF m 60 #[.val (.int pp), .val (.long xx), .second, .val (.long yy), .second, .val (.int qq), .val (.int v5), .val (.ref b8), .val (.ref b19), .val (.ref b30), .unset] [(.ref b8)]))
          refine Gl.pop Y57 rfl at_60 rfl ?_
          refine Gl.goto Y57 at_61 (by decide) rfl ?_
          refine Gl.aload Y57 rfl rfl at_79 rfl ?_
          refine Gl.aload Y57 rfl rfl at_81 rfl ?_
          have f138 : Exa Z h57 b30 "com/example/meterwise/meterwise/model/WholeNumber" := ((f36_1.keep K44).keep K57)
          have f139 : Fld Z h57 b30 "com/example/meterwise/meterwise/model/WholeNumber" "words" "[J" (.ref wa36) := ((f36_2.keep K44 (ninS (Ne.symm (Nat.ne_of_lt (Nat.lt_of_lt_of_eq f106.lt g30.symm))) nin0)).keep K57 (ninS (Ne.symm (Nat.ne_of_lt (Nat.lt_of_lt_of_eq f106.lt g30.symm))) nin0))
          have f140 : Arv Z h57 wa36 ck36 .long (3 : Int32) [(.long (0 : Int64)), (.long (0 : Int64)), (.long (0 : Int64))] (.long (0 : Int64)) := ((f36_3.keep K44 (ninS (Ne.symm (Nat.ne_of_lt (Nat.lt_of_lt_of_le f110.lt f36_0))) nin0)).keep K57 (ninS (Ne.symm (Nat.ne_of_lt (Nat.lt_of_lt_of_le f110.lt f36_0))) nin0))
          have f141 : Exa Z h57 b8 "com/example/meterwise/meterwise/model/WholeNumber" := (f136.keep K57)
          have f142 : Fld Z h57 b8 "com/example/meterwise/meterwise/model/WholeNumber" "words" "[J" (.ref wa14) := (f137.keep K57 (ninS (Nat.ne_of_lt (Nat.lt_of_lt_of_le X8.lt f14_0)) nin0))
          refine Gl.callV Y57 (tw_37 hw) (tw_38 hw) (tw_40 hw) (tw_40 hw) (tw_39 hw) (tw_2 hw) (tw_41 hw) (by decide) f138 (rm56 l Z a0 hw [] b30 wa36 ck36 b8 wa14 ck14 (0 : Int64) (0 : Int64) (-9223372036854775808 : Int64) h57 n0 Y57.sz f138 f139 f140 (Nat.le_trans Y36_sz f36_0) (Nat.ne_of_lt (Nat.lt_of_lt_of_le X30.lt f36_0)) f141 f142 f57_0 (Ne.symm (Nat.ne_of_lt (Nat.lt_of_lt_of_le f110.lt f36_0))) (Nat.ne_of_lt (Nat.lt_of_lt_of_le f109.lt f36_0))) (a := b30) (argsL := [(.ref b8)]) (rest := []) rfl rfl (lenOf pd_11 rfl) rfl (by decide) (Nat.le_of_ble_eq_true rfl) (by decide) (by decide) at_83 rfl (fun v83 T83 h83 Y83 q83 => ?_)
          obtain ⟨rfl, K83, f83_0⟩ := q83
          show Gl p e below _ (T83.setTop (mkF m 86 #[.val (.int pp), .val (.long xx), .second, .val (.long yy), .second, .val (.int qq), .val (.int v5), .val (.ref b8), .val (.ref b19), .val (.ref b30), .unset] [(.ref b30)]))
          refine Gl.pop Y83 rfl at_86 rfl ?_
          refine Gl.aload Y83 rfl rfl at_87 rfl ?_
          have f143 : Exa Z h83 b8 "com/example/meterwise/meterwise/model/WholeNumber" := (f141.keep K83)
          have f144 : Fld Z h83 b8 "com/example/meterwise/meterwise/model/WholeNumber" "words" "[J" (.ref wa14) := (f142.keep K83 (ninS (Nat.ne_of_lt (Nat.lt_of_lt_of_le f109.lt f36_0)) nin0))
          have f145 : Arv Z h83 wa14 ck14 .long (3 : Int32) [(.long (0 : Int64)), (.long (0 : Int64)), (.long (-9223372036854775808 : Int64))] (.long (0 : Int64)) := (f57_0.keep K83 (ninS (Nat.ne_of_lt (Nat.lt_of_lt_of_le f110.lt f36_0)) nin0))
          refine Gl.callV Y83 (tw_60 hw) (tw_61 hw) (tw_63 hw) (tw_63 hw) (tw_62 hw) (tw_2 hw) (tw_64 hw) (by decide) f143 (rm54 l Z a0 hw [] b8 wa14 ck14 (0 : Int64) (0 : Int64) (-9223372036854775808 : Int64) h83 n0 Y83.sz f143 f144 f145 (Nat.le_trans Y14_sz f14_0) (Nat.ne_of_lt (Nat.lt_of_lt_of_le X8.lt f14_0))) (a := b8) (argsL := []) (rest := []) rfl rfl (lenOf pd_5 rfl) rfl (by decide) (Nat.le_of_ble_eq_true rfl) (by decide) (by decide) at_89 rfl (fun v89 T89 h89 Y89 q89 => ?_)
          obtain ⟨rfl, K89, f89_0⟩ := q89
          show Gl p e below _ (T89.setTop (mkF m 92 #[.val (.int pp), .val (.long xx), .second, .val (.long yy), .second, .val (.int qq), .val (.int v5), .val (.ref b8), .val (.ref b19), .val (.ref b30), .unset] [(.ref b8)]))
          refine Gl.astore Y89 rfl (L' := #[.val (.int pp), .val (.long xx), .second, .val (.long yy), .second, .val (.int qq), .val (.int v5), .val (.ref b8), .val (.ref b19), .val (.ref b30), .val (.ref b8)]) rfl at_92 rfl ?_
          refine Gl.aload Y89 rfl rfl at_94 rfl ?_
          refine Gl.aload Y89 rfl rfl at_96 rfl ?_
          refine Gl.acmpne Y89 rfl rfl at_98 (by decide) rfl rfl (fun c98 => ?_) (fun c98 => ?_)
          · exact absurd rfl c98
          refine Gl.aload Y89 rfl rfl at_101 rfl ?_
          refine Gl.aload Y89 rfl rfl at_103 rfl ?_
          have f146 : Exa Z h89 b8 "com/example/meterwise/meterwise/model/WholeNumber" := (f143.keep K89)
          have f147 : Fld Z h89 b8 "com/example/meterwise/meterwise/model/WholeNumber" "words" "[J" (.ref wa14) := (f144.keep K89 (ninS (Nat.ne_of_lt (Nat.lt_of_lt_of_le X8.lt f14_0)) nin0))
          have f148 : Exa Z h89 b30 "com/example/meterwise/meterwise/model/WholeNumber" := ((f138.keep K83).keep K89)
          have f149 : Fld Z h89 b30 "com/example/meterwise/meterwise/model/WholeNumber" "words" "[J" (.ref wa36) := ((f139.keep K83 (ninS (Nat.ne_of_lt (Nat.lt_of_lt_of_le X30.lt f36_0)) nin0)).keep K89 (ninS (Ne.symm (Nat.ne_of_lt (Nat.lt_of_lt_of_eq f106.lt g30.symm))) nin0))
          have f150 : Arv Z h89 wa36 ck36 .long (3 : Int32) [(.long (own_o (0 : Int64) 1)), (.long (own_o (0 : Int64) (own_k (0 : Int64) 1))), (.long (own_o (-9223372036854775808 : Int64) (own_k (0 : Int64) (own_k (0 : Int64) 1))))] (.long (0 : Int64)) := (f83_0.keep K89 (ninS (Ne.symm (Nat.ne_of_lt (Nat.lt_of_lt_of_le f110.lt f36_0))) nin0))
          refine Gl.callV Y89 (tw_66 hw) (tw_67 hw) (tw_69 hw) (tw_69 hw) (tw_68 hw) (tw_2 hw) (tw_70 hw) (by decide) f146 (rm60 l Z a0 hw [] b8 wa14 ck14 (own_o (0 : Int64) 1) (own_o (0 : Int64) (own_k (0 : Int64) 1)) (own_o (-9223372036854775808 : Int64) (own_k (0 : Int64) (own_k (0 : Int64) 1))) b30 wa36 ck36 h89 n0 Y89.sz f146 f147 f89_0 f148 f149 f150) (a := b8) (argsL := [(.ref b30)]) (rest := []) rfl rfl (lenOf pd_12 rfl) rfl (by decide) (Nat.le_of_ble_eq_true rfl) (by decide) (by decide) at_105 rfl (fun v105 T105 h105 Y105 q105 => ?_)
          obtain ⟨rfl, rfl⟩ := q105
          show Gl p e below _ (T105.setTop (mkF m 108 #[.val (.int pp), .val (.long xx), .second, .val (.long yy), .second, .val (.int qq), .val (.int v5), .val (.ref b8), .val (.ref b19), .val (.ref b30), .val (.ref b8)] [(.int (0 : Int32))]))
          refine Gl.ifne Y105 at_108 (by decide) rfl rfl (fun c108 => ?_) (fun c108 => ?_)
          · exact absurd c108 (by decide)
          refine Gl.iconst Y105 (v := (1 : Int32)) (by decide) at_111 rfl ?_
          refine Gl.goto Y105 at_112 (by decide) rfl ?_
          exact Gl.retZ Y105 (by decide) (by decide) (x' := (1 : Int32)) (by decide) at_116 rfl
      · have jg57 : ¬ (v5.toInt < 58) := fun q => dg57 (Int32.lt_iff_toInt_lt.mpr q)
        refine Gl.newO Y0 (tw_0 hw) (tw_1 hw) (tw_2 hw) (by decide) (by decide) at_8 rfl (fun T8 h8 b8 Y8 E8 g8 sb8 X8 D8 => ?_)
        have f151 : Fld Z h8 b8 "com/example/meterwise/meterwise/model/WholeNumber" "words" "[J" .null := D8 (Or.inr (tw_15 hw)) (ty := (.array .long)) (by decide)
        show Gl p e below _ (T8.setTop (mkF m 11 #[.val (.int pp), .val (.long xx), .second, .val (.long yy), .second, .val (.int qq), .val (.int v5), .unset, .unset, .unset, .unset] [(.ref b8)]))
        refine Gl.dup Y8 rfl at_11 rfl ?_
        refine Gl.iload Y8 rfl at_12 rfl ?_
        refine Gl.callN Y8 rfl (tw_3 hw) (tw_4 hw) (tw_2 hw) (tw_5 hw) (by decide) (rm3 l Z a0 hw [] b8 v5 h8 n0 Y8.sz X8 f151 sb8 (by first | assumption | decide | omega | (simp; done)) (by first | assumption | decide | omega | (simp; done))) (a := b8) (argsL := [(.int v5)]) (rest := [(.ref b8)]) rfl rfl (lenOf pd_9 rfl) rfl (by decide) (Nat.le_of_ble_eq_true rfl) (by decide) (by decide) at_14 rfl (fun v14 T14 h14 Y14 q14 => ?_)
        obtain ⟨wa14, ck14, rfl, K14, f14_0, f14_1, f14_2, f14_3⟩ := q14
        have Y14_sz : n0 ≤ h8.size := Y8.sz
        show Gl p e below _ (T14.setTop (mkF m 17 #[.val (.int pp), .val (.long xx), .second, .val (.long yy), .second, .val (.int qq), .val (.int v5), .unset, .unset, .unset, .unset] [(.ref b8)]))
        refine Gl.astore Y14 rfl (L' := #[.val (.int pp), .val (.long xx), .second, .val (.long yy), .second, .val (.int qq), .val (.int v5), .val (.ref b8), .unset, .unset, .unset]) rfl at_17 rfl ?_
        refine Gl.newO Y14 (tw_0 hw) (tw_1 hw) (tw_2 hw) (by decide) (by decide) at_19 rfl (fun T19 h19 b19 Y19 E19 g19 sb19 X19 D19 => ?_)
        have f152 : Fld Z h19 b19 "com/example/meterwise/meterwise/model/WholeNumber" "words" "[J" .null := D19 (Or.inr (tw_15 hw)) (ty := (.array .long)) (by decide)
        show Gl p e below _ (T19.setTop (mkF m 22 #[.val (.int pp), .val (.long xx), .second, .val (.long yy), .second, .val (.int qq), .val (.int v5), .val (.ref b8), .unset, .unset, .unset] [(.ref b19)]))
        refine Gl.dup Y19 rfl at_22 rfl ?_
        refine Gl.iload Y19 rfl at_23 rfl ?_
        refine Gl.callN Y19 rfl (tw_3 hw) (tw_4 hw) (tw_2 hw) (tw_5 hw) (by decide) (rm3 l Z a0 hw [] b19 v5 h19 n0 Y19.sz X19 f152 sb19 (by first | assumption | decide | omega | (simp; done)) (by first | assumption | decide | omega | (simp; done))) (a := b19) (argsL := [(.int v5)]) (rest := [(.ref b19)]) rfl rfl (lenOf pd_9 rfl) rfl (by decide) (Nat.le_of_ble_eq_true rfl) (by decide) (by decide) at_25 rfl (fun v25 T25 h25 Y25 q25 => ?_)
        obtain ⟨wa25, ck25, rfl, K25, f25_0, f25_1, f25_2, f25_3⟩ := q25
        have f153 : Exa Z h19 b8 "com/example/meterwise/meterwise/model/WholeNumber" := (Exa.ext E19 f14_1)
        have f154 : Arv Z h19 wa14 ck14 .long (4 : Int32) [(.long (0 : Int64)), (.long (0 : Int64)), (.long (0 : Int64)), (.long (0 : Int64))] (.long (0 : Int64)) := (f14_3.ext E19)
        have Y25_sz : n0 ≤ h19.size := Y19.sz
        show Gl p e below _ (T25.setTop (mkF m 28 #[.val (.int pp), .val (.long xx), .second, .val (.long yy), .second, .val (.int qq), .val (.int v5), .val (.ref b8), .unset, .unset, .unset] [(.ref b19)]))
        refine Gl.astore Y25 rfl (L' := #[.val (.int pp), .val (.long xx), .second, .val (.long yy), .second, .val (.int qq), .val (.int v5), .val (.ref b8), .val (.ref b19), .unset, .unset]) rfl at_28 rfl ?_
        refine Gl.newO Y25 (tw_0 hw) (tw_1 hw) (tw_2 hw) (by decide) (by decide) at_30 rfl (fun T30 h30 b30 Y30 E30 g30 sb30 X30 D30 => ?_)
        have f155 : Exa Z h25 b8 "com/example/meterwise/meterwise/model/WholeNumber" := (f153.keep K25)
        have f156 : Arv Z h25 wa14 ck14 .long (4 : Int32) [(.long (0 : Int64)), (.long (0 : Int64)), (.long (0 : Int64)), (.long (0 : Int64))] (.long (0 : Int64)) := (f154.keep K25 (ninS (Nat.ne_of_lt (Nat.lt_of_lt_of_eq f14_3.lt g19.symm)) nin0))
        have f157 : Fld Z h30 b30 "com/example/meterwise/meterwise/model/WholeNumber" "words" "[J" .null := D30 (Or.inr (tw_15 hw)) (ty := (.array .long)) (by decide)
        show Gl p e below _ (T30.setTop (mkF m 33 #[.val (.int pp), .val (.long xx), .second, .val (.long yy), .second, .val (.int qq), .val (.int v5), .val (.ref b8), .val (.ref b19), .unset, .unset] [(.ref b30)]))
        refine Gl.dup Y30 rfl at_33 rfl ?_
        refine Gl.iload Y30 rfl at_34 rfl ?_
        refine Gl.callN Y30 rfl (tw_3 hw) (tw_4 hw) (tw_2 hw) (tw_5 hw) (by decide) (rm3 l Z a0 hw [] b30 v5 h30 n0 Y30.sz X30 f157 sb30 (by first | assumption | decide | omega | (simp; done)) (by first | assumption | decide | omega | (simp; done))) (a := b30) (argsL := [(.int v5)]) (rest := [(.ref b30)]) rfl rfl (lenOf pd_9 rfl) rfl (by decide) (Nat.le_of_ble_eq_true rfl) (by decide) (by decide) at_36 rfl (fun v36 T36 h36 Y36 q36 => ?_)
        obtain ⟨wa36, ck36, rfl, K36, f36_0, f36_1, f36_2, f36_3⟩ := q36
        have f158 : Exa Z h30 b19 "com/example/meterwise/meterwise/model/WholeNumber" := (Exa.ext E30 f25_1)
        have f159 : Exa Z h30 b8 "com/example/meterwise/meterwise/model/WholeNumber" := (Exa.ext E30 f155)
        have f160 : Arv Z h30 wa14 ck14 .long (4 : Int32) [(.long (0 : Int64)), (.long (0 : Int64)), (.long (0 : Int64)), (.long (0 : Int64))] (.long (0 : Int64)) := (f156.ext E30)
        have f161 : Arv Z h30 wa25 ck25 .long (4 : Int32) [(.long (0 : Int64)), (.long (0 : Int64)), (.long (0 : Int64)), (.long (0 : Int64))] (.long (0 : Int64)) := (f25_3.ext E30)
        have Y36_sz : n0 ≤ h30.size := Y30.sz
        show Gl p e below _ (T36.setTop (mkF m 39 #[.val (.int pp), .val (.long xx), .second, .val (.long yy), .second, .val (.int qq), .val (.int v5), .val (.ref b8), .val (.ref b19), .unset, .unset] [(.ref b30)]))
        refine Gl.astore Y36 rfl (L' := #[.val (.int pp), .val (.long xx), .second, .val (.long yy), .second, .val (.int qq), .val (.int v5), .val (.ref b8), .val (.ref b19), .val (.ref b30), .unset]) rfl at_39 rfl ?_
        refine Gl.aload Y36 rfl rfl at_41 rfl ?_
        refine Gl.lloadN Y36 rfl at_43 rfl ?_
        have f162 : Exa Z h36 b8 "com/example/meterwise/meterwise/model/WholeNumber" := (f159.keep K36)
        have f163 : Fld Z h36 b8 "com/example/meterwise/meterwise/model/WholeNumber" "words" "[J" (.ref wa14) := ((Fld.ext E30 ((Fld.ext E19 f14_2).keep K25 (ninS (Nat.ne_of_lt (Nat.lt_of_lt_of_eq f14_1.lt g19.symm)) nin0))).keep K36 (ninS (Nat.ne_of_lt (Nat.lt_of_lt_of_eq f155.lt g30.symm)) nin0))
        have f164 : Arv Z h36 wa14 ck14 .long (4 : Int32) [(.long (0 : Int64)), (.long (0 : Int64)), (.long (0 : Int64)), (.long (0 : Int64))] (.long (0 : Int64)) := (f160.keep K36 (ninS (Nat.ne_of_lt (Nat.lt_of_lt_of_eq f156.lt g30.symm)) nin0))
        refine Gl.callV Y36 (tw_16 hw) (tw_17 hw) (tw_19 hw) (tw_19 hw) (tw_18 hw) (tw_2 hw) (tw_20 hw) (by decide) f162 (rm66 l Z a0 hw [] b8 wa14 ck14 (0 : Int64) (0 : Int64) (0 : Int64) (0 : Int64) xx h36 n0 Y36.sz f162 f163 f164 (Nat.le_trans Y14_sz f14_0) (Nat.ne_of_lt (Nat.lt_of_lt_of_le X8.lt f14_0))) (a := b8) (argsL := [(.long xx)]) (rest := []) rfl rfl (lenOf pd_10 rfl) rfl (by decide) (Nat.le_of_ble_eq_true rfl) (by decide) (by decide) at_44 rfl (fun v44 T44 h44 Y44 q44 => ?_)
        obtain ⟨rfl, K44, f44_0⟩ := q44
        show Gl p e below _ (T44.setTop (mkF m 47 #[.val (.int pp), .val (.long xx), .second, .val (.long yy), .second, .val (.int qq), .val (.int v5), .val (.ref b8), .val (.ref b19), .val (.ref b30), .unset] [(.ref b8)]))
        refine Gl.pop Y44 rfl at_47 rfl ?_
        refine Gl.iload Y44 rfl at_48 rfl ?_
        refine Gl.iconst Y44 (v := (3 : Int32)) (by decide) at_50 rfl ?_
        obtain ⟨v51, hv51⟩ : ∃ z : Int32, qq &&& (3 : Int32) = z := ⟨_, rfl⟩
        have iv51 : v51.toInt = qq.toInt % 4 := by have q := c_mask qq (3 : Int32) 2 (by decide) (by decide); rw [hv51] at q; exact q
        refine Gl.iand Y44 hv51 at_51 rfl ?_
        refine Gl.ifne Y44 at_52 (by decide) rfl rfl (fun c52 => ?_) (fun c52 => ?_)
        · have j52 : ¬ (v51.toInt = 0) := fun q => c52 (Int32.toInt_inj.mp q)
          refine Gl.aload Y44 rfl rfl at_64 rfl ?_
          refine Gl.lloadN Y44 rfl at_66 rfl ?_
          have f165 : Exa Z h44 b19 "com/example/meterwise/meterwise/model/WholeNumber" := ((f158.keep K36).keep K44)
          have f166 : Fld Z h44 b19 "com/example/meterwise/meterwise/model/WholeNumber" "words" "[J" (.ref wa25) := (((Fld.ext E30 f25_2).keep K36 (ninS (Nat.ne_of_lt (Nat.lt_of_lt_of_eq f25_1.lt g30.symm)) nin0)).keep K44 (ninS (Ne.symm (Nat.ne_of_lt (Nat.lt_of_lt_of_eq f14_3.lt g19.symm))) nin0))
          have f167 : Arv Z h44 wa25 ck25 .long (4 : Int32) [(.long (0 : Int64)), (.long (0 : Int64)), (.long (0 : Int64)), (.long (0 : Int64))] (.long (0 : Int64)) := ((f161.keep K36 (ninS (Nat.ne_of_lt (Nat.lt_of_lt_of_eq f25_3.lt g30.symm)) nin0)).keep K44 (ninS (Ne.symm (Nat.ne_of_lt (Nat.lt_of_lt_of_le f154.lt f25_0))) nin0))
          refine Gl.callV Y44 (tw_16 hw) (tw_17 hw) (tw_19 hw) (tw_19 hw) (tw_18 hw) (tw_2 hw) (tw_20 hw) (by decide) f165 (rm66 l Z a0 hw [] b19 wa25 ck25 (0 : Int64) (0 : Int64) (0 : Int64) (0 : Int64) yy h44 n0 Y44.sz f165 f166 f167 (Nat.le_trans Y25_sz f25_0) (Nat.ne_of_lt (Nat.lt_of_lt_of_le X19.lt f25_0))) (a := b19) (argsL := [(.long yy)]) (rest := []) rfl rfl (lenOf pd_10 rfl) rfl (by decide) (Nat.le_of_ble_eq_true rfl) (by decide) (by decide) at_67 rfl (fun v67 T67 h67 Y67 q67 => ?_)
          obtain ⟨rfl, K67, f67_0⟩ := q67
          show Gl p e below _ (T67.setTop (mkF m 70 #[.val (.int pp), .val (.long xx), .second, .val (.long yy), .second, .val (.int qq), .val (.int v5), .val (.ref b8), .val (.ref b19), .val (.ref b30), .unset] [(.ref b19)]))
          refine Gl.pop Y67 rfl at_70 rfl ?_
          refine Gl.aload Y67 rfl rfl at_71 rfl ?_
          refine Gl.aload Y67 rfl rfl at_73 rfl ?_
          have f168 : Exa Z h67 b8 "com/example/meterwise/meterwise/model/WholeNumber" := ((f162.keep K44).keep K67)
          have f169 : Fld Z h67 b8 "com/example/meterwise/meterwise/model/WholeNumber" "words" "[J" (.ref wa14) := ((f163.keep K44 (ninS (Nat.ne_of_lt (Nat.lt_of_lt_of_le X8.lt f14_0)) nin0)).keep K67 (ninS (Nat.ne_of_lt (Nat.lt_of_lt_of_le f153.lt f25_0)) nin0))
          have f170 : Arv Z h67 wa14 ck14 .long (4 : Int32) [(.long xx), (.long (xx >>> ((63 : Int32) &&& 0x3f).toInt64)), (.long (xx >>> ((63 : Int32) &&& 0x3f).toInt64)), (.long (xx >>> ((63 : Int32) &&& 0x3f).toInt64))] (.long (0 : Int64)) := (f44_0.keep K67 (ninS (Nat.ne_of_lt (Nat.lt_of_lt_of_le f154.lt f25_0)) nin0))
          have f171 : Exa Z h67 b19 "com/example/meterwise/meterwise/model/WholeNumber" := (f165.keep K67)
          have f172 : Fld Z h67 b19 "com/example/meterwise/meterwise/model/WholeNumber" "words" "[J" (.ref wa25) := (f166.keep K67 (ninS (Nat.ne_of_lt (Nat.lt_of_lt_of_le X19.lt f25_0)) nin0))
          refine Gl.callV Y67 (tw_79 hw) (tw_80 hw) (tw_82 hw) (tw_82 hw) (tw_81 hw) (tw_2 hw) (tw_83 hw) (by decide) f168 (rm73 l Z a0 hw [] b8 wa14 ck14 xx (xx >>> ((63 : Int32) &&& 0x3f).toInt64) (xx >>> ((63 : Int32) &&& 0x3f).toInt64) (xx >>> ((63 : Int32) &&& 0x3f).toInt64) b19 wa25 ck25 yy (yy >>> ((63 : Int32) &&& 0x3f).toInt64) (yy >>> ((63 : Int32) &&& 0x3f).toInt64) (yy >>> ((63 : Int32) &&& 0x3f).toInt64) h67 n0 Y67.sz f168 f169 f170 (Nat.le_trans Y14_sz f14_0) (Nat.ne_of_lt (Nat.lt_of_lt_of_le X8.lt f14_0)) f171 f172 f67_0 (Nat.ne_of_lt (Nat.lt_of_lt_of_le f154.lt f25_0)) (Ne.symm (Nat.ne_of_lt (Nat.lt_of_lt_of_eq f14_3.lt g19.symm)))) (a := b8) (argsL := [(.ref b19)]) (rest := []) rfl rfl (lenOf pd_11 rfl) rfl (by decide) (Nat.le_of_ble_eq_true rfl) (by decide) (by decide) at_75 rfl (fun v75 T75 h75 Y75 q75 => ?_)
          obtain ⟨e075, e175, e275, e375, rfl, K75, f75_0⟩ := q75
          show Gl p e below _ (T75.setTop (mkF m 78 #[.val (.int pp), .val (.long xx), .second, .val (.long yy), .second, .val (.int qq), .val (.int v5), .val (.ref b8), .val (.ref b19), .val (.ref b30), .unset] [(.ref b8)]))
          refine Gl.pop Y75 rfl at_78 rfl ?_
          refine Gl.aload Y75 rfl rfl at_79 rfl ?_
          refine Gl.aload Y75 rfl rfl at_81 rfl ?_
          have f173 : Exa Z h75 b30 "com/example/meterwise/meterwise/model/WholeNumber" := (((f36_1.keep K44).keep K67).keep K75)
          have f174 : Fld Z h75 b30 "com/example/meterwise/meterwise/model/WholeNumber" "words" "[J" (.ref wa36) := (((f36_2.keep K44 (ninS (Ne.symm (Nat.ne_of_lt (Nat.lt_of_lt_of_eq f156.lt g30.symm))) nin0)).keep K67 (ninS (Ne.symm (Nat.ne_of_lt (Nat.lt_of_lt_of_eq f25_3.lt g30.symm))) nin0)).keep K75 (ninS (Ne.symm (Nat.ne_of_lt (Nat.lt_of_lt_of_eq f156.lt g30.symm))) nin0))
          have f175 : Arv Z h75 wa36 ck36 .long (4 : Int32) [(.long (0 : Int64)), (.long (0 : Int64)), (.long (0 : Int64)), (.long (0 : Int64))] (.long (0 : Int64)) := (((f36_3.keep K44 (ninS (Ne.symm (Nat.ne_of_lt (Nat.lt_of_lt_of_le f160.lt f36_0))) nin0)).keep K67 (ninS (Ne.symm (Nat.ne_of_lt (Nat.lt_of_lt_of_le f161.lt f36_0))) nin0)).keep K75 (ninS (Ne.symm (Nat.ne_of_lt (Nat.lt_of_lt_of_le f160.lt f36_0))) nin0))
          have f176 : Exa Z h75 b8 "com/example/meterwise/meterwise/model/WholeNumber" := (f168.keep K75)
          have f177 : Fld Z h75 b8 "com/example/meterwise/meterwise/model/WholeNumber" "words" "[J" (.ref wa14) := (f169.keep K75 (ninS (Nat.ne_of_lt (Nat.lt_of_lt_of_le X8.lt f14_0)) nin0))
          refine Gl.callV Y75 (tw_37 hw) (tw_38 hw) (tw_40 hw) (tw_40 hw) (tw_39 hw) (tw_2 hw) (tw_41 hw) (by decide) f173 (rm76 l Z a0 hw [] b30 wa36 ck36 b8 wa14 ck14 e075 e175 e275 e375 h75 n0 Y75.sz f173 f174 f175 (Nat.le_trans Y36_sz f36_0) (Nat.ne_of_lt (Nat.lt_of_lt_of_le X30.lt f36_0)) f176 f177 f75_0 (Ne.symm (Nat.ne_of_lt (Nat.lt_of_lt_of_le f160.lt f36_0))) (Nat.ne_of_lt (Nat.lt_of_lt_of_le f159.lt f36_0))) (a := b30) (argsL := [(.ref b8)]) (rest := []) rfl rfl (lenOf pd_11 rfl) rfl (by decide) (Nat.le_of_ble_eq_true rfl) (by decide) (by decide) at_83 rfl (fun v83 T83 h83 Y83 q83 => ?_)
          obtain ⟨rfl, K83, f83_0⟩ := q83
          show Gl p e below _ (T83.setTop (mkF m 86 #[.val (.int pp), .val (.long xx), .second, .val (.long yy), .second, .val (.int qq), .val (.int v5), .val (.ref b8), .val (.ref b19), .val (.ref b30), .unset] [(.ref b30)]))
          refine Gl.pop Y83 rfl at_86 rfl ?_
          refine Gl.aload Y83 rfl rfl at_87 rfl ?_
          have f178 : Exa Z h83 b8 "com/example/meterwise/meterwise/model/WholeNumber" := (f176.keep K83)
          have f179 : Fld Z h83 b8 "com/example/meterwise/meterwise/model/WholeNumber" "words" "[J" (.ref wa14) := (f177.keep K83 (ninS (Nat.ne_of_lt (Nat.lt_of_lt_of_le f159.lt f36_0)) nin0))
          have f180 : Arv Z h83 wa14 ck14 .long (4 : Int32) [(.long e075), (.long e175), (.long e275), (.long e375)] (.long (0 : Int64)) := (f75_0.keep K83 (ninS (Nat.ne_of_lt (Nat.lt_of_lt_of_le f160.lt f36_0)) nin0))
          refine Gl.callV Y83 (tw_60 hw) (tw_61 hw) (tw_63 hw) (tw_63 hw) (tw_62 hw) (tw_2 hw) (tw_64 hw) (by decide) f178 (rm74 l Z a0 hw [] b8 wa14 ck14 e075 e175 e275 e375 h83 n0 Y83.sz f178 f179 f180 (Nat.le_trans Y14_sz f14_0) (Nat.ne_of_lt (Nat.lt_of_lt_of_le X8.lt f14_0))) (a := b8) (argsL := []) (rest := []) rfl rfl (lenOf pd_5 rfl) rfl (by decide) (Nat.le_of_ble_eq_true rfl) (by decide) (by decide) at_89 rfl (fun v89 T89 h89 Y89 q89 => ?_)
          obtain ⟨rfl, K89, f89_0⟩ := q89
          show Gl p e below _ (T89.setTop (mkF m 92 #[.val (.int pp), .val (.long xx), .second, .val (.long yy), .second, .val (.int qq), .val (.int v5), .val (.ref b8), .val (.ref b19), .val (.ref b30), .unset] [(.ref b8)]))
          refine Gl.astore Y89 rfl (L' := #[.val (.int pp), .val (.long xx), .second, .val (.long yy), .second, .val (.int qq), .val (.int v5), .val (.ref b8), .val (.ref b19), .val (.ref b30), .val (.ref b8)]) rfl at_92 rfl ?_
          refine Gl.aload Y89 rfl rfl at_94 rfl ?_
          refine Gl.aload Y89 rfl rfl at_96 rfl ?_
          refine Gl.acmpne Y89 rfl rfl at_98 (by decide) rfl rfl (fun c98 => ?_) (fun c98 => ?_)
          · exact absurd rfl c98
          refine Gl.aload Y89 rfl rfl at_101 rfl ?_
          refine Gl.aload Y89 rfl rfl at_103 rfl ?_
          have f181 : Exa Z h89 b8 "com/example/meterwise/meterwise/model/WholeNumber" := (f178.keep K89)
          have f182 : Fld Z h89 b8 "com/example/meterwise/meterwise/model/WholeNumber" "words" "[J" (.ref wa14) := (f179.keep K89 (ninS (Nat.ne_of_lt (Nat.lt_of_lt_of_le X8.lt f14_0)) nin0))
          have f183 : Exa Z h89 b30 "com/example/meterwise/meterwise/model/WholeNumber" := ((f173.keep K83).keep K89)
          have f184 : Fld Z h89 b30 "com/example/meterwise/meterwise/model/WholeNumber" "words" "[J" (.ref wa36) := ((f174.keep K83 (ninS (Nat.ne_of_lt (Nat.lt_of_lt_of_le X30.lt f36_0)) nin0)).keep K89 (ninS (Ne.symm (Nat.ne_of_lt (Nat.lt_of_lt_of_eq f156.lt g30.symm))) nin0))
          have f185 : Arv Z h89 wa36 ck36 .long (4 : Int32) [(.long (own_o e075 1)), (.long (own_o e175 (own_k e075 1))), (.long (own_o e275 (own_k e175 (own_k e075 1)))), (.long (own_o e375 (own_k e275 (own_k e175 (own_k e075 1)))))] (.long (0 : Int64)) := (f83_0.keep K89 (ninS (Ne.symm (Nat.ne_of_lt (Nat.lt_of_lt_of_le f160.lt f36_0))) nin0))
          refine Gl.callV Y89 (tw_66 hw) (tw_67 hw) (tw_69 hw) (tw_69 hw) (tw_68 hw) (tw_2 hw) (tw_70 hw) (by decide) f181 (rm81 l Z a0 hw [] b8 wa14 ck14 (own_o e075 1) (own_o e175 (own_k e075 1)) (own_o e275 (own_k e175 (own_k e075 1))) (own_o e375 (own_k e275 (own_k e175 (own_k e075 1)))) b30 wa36 ck36 h89 n0 Y89.sz f181 f182 f89_0 f183 f184 f185) (a := b8) (argsL := [(.ref b30)]) (rest := []) rfl rfl (lenOf pd_12 rfl) rfl (by decide) (Nat.le_of_ble_eq_true rfl) (by decide) (by decide) at_105 rfl (fun v105 T105 h105 Y105 q105 => ?_)
          obtain ⟨rfl, rfl⟩ := q105
          show Gl p e below _ (T105.setTop (mkF m 108 #[.val (.int pp), .val (.long xx), .second, .val (.long yy), .second, .val (.int qq), .val (.int v5), .val (.ref b8), .val (.ref b19), .val (.ref b30), .val (.ref b8)] [(.int (0 : Int32))]))
          refine Gl.ifne Y105 at_108 (by decide) rfl rfl (fun c108 => ?_) (fun c108 => ?_)
          · exact absurd c108 (by decide)
          refine Gl.iconst Y105 (v := (1 : Int32)) (by decide) at_111 rfl ?_
          refine Gl.goto Y105 at_112 (by decide) rfl ?_
          exact Gl.retZ Y105 (by decide) (by decide) (x' := (1 : Int32)) (by decide) at_116 rfl
        · have j52 : v51.toInt = 0 := congrArg Int32.toInt c52
          refine Gl.aload Y44 rfl rfl at_55 rfl ?_
          have f186 : Exa Z h44 b8 "com/example/meterwise/meterwise/model/WholeNumber" := (f162.keep K44)
          have f187 : Fld Z h44 b8 "com/example/meterwise/meterwise/model/WholeNumber" "words" "[J" (.ref wa14) := (f163.keep K44 (ninS (Nat.ne_of_lt (Nat.lt_of_lt_of_le X8.lt f14_0)) nin0))
          refine Gl.callV Y44 (tw_28 hw) (tw_29 hw) (tw_31 hw) (tw_31 hw) (tw_30 hw) (tw_2 hw) (tw_32 hw) (by decide) f186 (rm65 l Z a0 hw [] b8 wa14 ck14 xx (xx >>> ((63 : Int32) &&& 0x3f).toInt64) (xx >>> ((63 : Int32) &&& 0x3f).toInt64) (xx >>> ((63 : Int32) &&& 0x3f).toInt64) h44 n0 Y44.sz f186 f187 f44_0 (Nat.le_trans Y14_sz f14_0) (Nat.ne_of_lt (Nat.lt_of_lt_of_le X8.lt f14_0))) (a := b8) (argsL := []) (rest := []) rfl rfl (lenOf pd_5 rfl) rfl (by decide) (Nat.le_of_ble_eq_true rfl) (by decide) (by decide) at_57 rfl (fun v57 T57 h57 Y57 q57 => ?_)
          obtain ⟨rfl, K57, f57_0⟩ := q57
          show Gl p e below _ (T57.setTop (mkF m 60 #[.val (.int pp), .val (.long xx), .second, .val (.long yy), .second, .val (.int qq), .val (.int v5), .val (.ref b8), .val (.ref b19), .val (.ref b30), .unset] [(.ref b8)]))
          refine Gl.pop Y57 rfl at_60 rfl ?_
          refine Gl.goto Y57 at_61 (by decide) rfl ?_
          refine Gl.aload Y57 rfl rfl at_79 rfl ?_
          refine Gl.aload Y57 rfl rfl at_81 rfl ?_
          have f188 : Exa Z h57 b30 "com/example/meterwise/meterwise/model/WholeNumber" := ((f36_1.keep K44).keep K57)
          have f189 : Fld Z h57 b30 "com/example/meterwise/meterwise/model/WholeNumber" "words" "[J" (.ref wa36) := ((f36_2.keep K44 (ninS (Ne.symm (Nat.ne_of_lt (Nat.lt_of_lt_of_eq f156.lt g30.symm))) nin0)).keep K57 (ninS (Ne.symm (Nat.ne_of_lt (Nat.lt_of_lt_of_eq f156.lt g30.symm))) nin0))
          have f190 : Arv Z h57 wa36 ck36 .long (4 : Int32) [(.long (0 : Int64)), (.long (0 : Int64)), (.long (0 : Int64)), (.long (0 : Int64))] (.long (0 : Int64)) := ((f36_3.keep K44 (ninS (Ne.symm (Nat.ne_of_lt (Nat.lt_of_lt_of_le f160.lt f36_0))) nin0)).keep K57 (ninS (Ne.symm (Nat.ne_of_lt (Nat.lt_of_lt_of_le f160.lt f36_0))) nin0))
          have f191 : Exa Z h57 b8 "com/example/meterwise/meterwise/model/WholeNumber" := (f186.keep K57)
          have f192 : Fld Z h57 b8 "com/example/meterwise/meterwise/model/WholeNumber" "words" "[J" (.ref wa14) := (f187.keep K57 (ninS (Nat.ne_of_lt (Nat.lt_of_lt_of_le X8.lt f14_0)) nin0))
          refine Gl.callV Y57 (tw_37 hw) (tw_38 hw) (tw_40 hw) (tw_40 hw) (tw_39 hw) (tw_2 hw) (tw_41 hw) (by decide) f188 (rm76 l Z a0 hw [] b30 wa36 ck36 b8 wa14 ck14 (0 : Int64) (0 : Int64) (0 : Int64) (-9223372036854775808 : Int64) h57 n0 Y57.sz f188 f189 f190 (Nat.le_trans Y36_sz f36_0) (Nat.ne_of_lt (Nat.lt_of_lt_of_le X30.lt f36_0)) f191 f192 f57_0 (Ne.symm (Nat.ne_of_lt (Nat.lt_of_lt_of_le f160.lt f36_0))) (Nat.ne_of_lt (Nat.lt_of_lt_of_le f159.lt f36_0))) (a := b30) (argsL := [(.ref b8)]) (rest := []) rfl rfl (lenOf pd_11 rfl) rfl (by decide) (Nat.le_of_ble_eq_true rfl) (by decide) (by decide) at_83 rfl (fun v83 T83 h83 Y83 q83 => ?_)
          obtain ⟨rfl, K83, f83_0⟩ := q83
          show Gl p e below _ (T83.setTop (mkF m 86 #[.val (.int pp), .val (.long xx), .second, .val (.long yy), .second, .val (.int qq), .val (.int v5), .val (.ref b8), .val (.ref b19), .val (.ref b30), .unset] [(.ref b30)]))
          refine Gl.pop Y83 rfl at_86 rfl ?_
          refine Gl.aload Y83 rfl rfl at_87 rfl ?_
          have f193 : Exa Z h83 b8 "com/example/meterwise/meterwise/model/WholeNumber" := (f191.keep K83)
          have f194 : Fld Z h83 b8 "com/example/meterwise/meterwise/model/WholeNumber" "words" "[J" (.ref wa14) := (f192.keep K83 (ninS (Nat.ne_of_lt (Nat.lt_of_lt_of_le f159.lt f36_0)) nin0))
          have f195 : Arv Z h83 wa14 ck14 .long (4 : Int32) [(.long (0 : Int64)), (.long (0 : Int64)), (.long (0 : Int64)), (.long (-9223372036854775808 : Int64))] (.long (0 : Int64)) := (f57_0.keep K83 (ninS (Nat.ne_of_lt (Nat.lt_of_lt_of_le f160.lt f36_0)) nin0))
          refine Gl.callV Y83 (tw_60 hw) (tw_61 hw) (tw_63 hw) (tw_63 hw) (tw_62 hw) (tw_2 hw) (tw_64 hw) (by decide) f193 (rm74 l Z a0 hw [] b8 wa14 ck14 (0 : Int64) (0 : Int64) (0 : Int64) (-9223372036854775808 : Int64) h83 n0 Y83.sz f193 f194 f195 (Nat.le_trans Y14_sz f14_0) (Nat.ne_of_lt (Nat.lt_of_lt_of_le X8.lt f14_0))) (a := b8) (argsL := []) (rest := []) rfl rfl (lenOf pd_5 rfl) rfl (by decide) (Nat.le_of_ble_eq_true rfl) (by decide) (by decide) at_89 rfl (fun v89 T89 h89 Y89 q89 => ?_)
          obtain ⟨rfl, K89, f89_0⟩ := q89
          show Gl p e below _ (T89.setTop (mkF m 92 #[.val (.int pp), .val (.long xx), .second, .val (.long yy), .second, .val (.int qq), .val (.int v5), .val (.ref b8), .val (.ref b19), .val (.ref b30), .unset] [(.ref b8)]))
          refine Gl.astore Y89 rfl (L' := #[.val (.int pp), .val (.long xx), .second, .val (.long yy), .second, .val (.int qq), .val (.int v5), .val (.ref b8), .val (.ref b19), .val (.ref b30), .val (.ref b8)]) rfl at_92 rfl ?_
          refine Gl.aload Y89 rfl rfl at_94 rfl ?_
          refine Gl.aload Y89 rfl rfl at_96 rfl ?_
          refine Gl.acmpne Y89 rfl rfl at_98 (by decide) rfl rfl (fun c98 => ?_) (fun c98 => ?_)
          · exact absurd rfl c98
          refine Gl.aload Y89 rfl rfl at_101 rfl ?_
          refine Gl.aload Y89 rfl rfl at_103 rfl ?_
          have f196 : Exa Z h89 b8 "com/example/meterwise/meterwise/model/WholeNumber" := (f193.keep K89)
          have f197 : Fld Z h89 b8 "com/example/meterwise/meterwise/model/WholeNumber" "words" "[J" (.ref wa14) := (f194.keep K89 (ninS (Nat.ne_of_lt (Nat.lt_of_lt_of_le X8.lt f14_0)) nin0))
          have f198 : Exa Z h89 b30 "com/example/meterwise/meterwise/model/WholeNumber" := ((f188.keep K83).keep K89)
          have f199 : Fld Z h89 b30 "com/example/meterwise/meterwise/model/WholeNumber" "words" "[J" (.ref wa36) := ((f189.keep K83 (ninS (Nat.ne_of_lt (Nat.lt_of_lt_of_le X30.lt f36_0)) nin0)).keep K89 (ninS (Ne.symm (Nat.ne_of_lt (Nat.lt_of_lt_of_eq f156.lt g30.symm))) nin0))
          have f200 : Arv Z h89 wa36 ck36 .long (4 : Int32) [(.long (own_o (0 : Int64) 1)), (.long (own_o (0 : Int64) (own_k (0 : Int64) 1))), (.long (own_o (0 : Int64) (own_k (0 : Int64) (own_k (0 : Int64) 1)))), (.long (own_o (-9223372036854775808 : Int64) (own_k (0 : Int64) (own_k (0 : Int64) (own_k (0 : Int64) 1)))))] (.long (0 : Int64)) := (f83_0.keep K89 (ninS (Ne.symm (Nat.ne_of_lt (Nat.lt_of_lt_of_le f160.lt f36_0))) nin0))
          refine Gl.callV Y89 (tw_66 hw) (tw_67 hw) (tw_69 hw) (tw_69 hw) (tw_68 hw) (tw_2 hw) (tw_70 hw) (by decide) f196 (rm81 l Z a0 hw [] b8 wa14 ck14 (own_o (0 : Int64) 1) (own_o (0 : Int64) (own_k (0 : Int64) 1)) (own_o (0 : Int64) (own_k (0 : Int64) (own_k (0 : Int64) 1))) (own_o (-9223372036854775808 : Int64) (own_k (0 : Int64) (own_k (0 : Int64) (own_k (0 : Int64) 1)))) b30 wa36 ck36 h89 n0 Y89.sz f196 f197 f89_0 f198 f199 f200) (a := b8) (argsL := [(.ref b30)]) (rest := []) rfl rfl (lenOf pd_12 rfl) rfl (by decide) (Nat.le_of_ble_eq_true rfl) (by decide) (by decide) at_105 rfl (fun v105 T105 h105 Y105 q105 => ?_)
          obtain ⟨rfl, rfl⟩ := q105
          show Gl p e below _ (T105.setTop (mkF m 108 #[.val (.int pp), .val (.long xx), .second, .val (.long yy), .second, .val (.int qq), .val (.int v5), .val (.ref b8), .val (.ref b19), .val (.ref b30), .val (.ref b8)] [(.int (0 : Int32))]))
          refine Gl.ifne Y105 at_108 (by decide) rfl rfl (fun c108 => ?_) (fun c108 => ?_)
          · exact absurd c108 (by decide)
          refine Gl.iconst Y105 (v := (1 : Int32)) (by decide) at_111 rfl ?_
          refine Gl.goto Y105 at_112 (by decide) rfl ?_
          exact Gl.retZ Y105 (by decide) (by decide) (x' := (1 : Int32)) (by decide) at_116 rfl
set_option maxRecDepth 65536 in
set_option maxHeartbeats 40000000 in
theorem comes_1 {Post : Tables → Env → Array Value → State → Outcome → State → Prop} (hpost : ∀ tb e args s v u, (limb_1_1.after args s (.returned v) u = true ∧ limb_1_2.after args s (.returned v) u = true ∧ True) → FrameEnd s (.returned v) u (Jvm.fieldLocs frame_1_writes args s ++ Jvm.arrayLocs frame_1_arrays args s ++ Jvm.staticLocs frame_1_statics s) 24 128 → Post tb e args s (.returned v) u) :
    ArmFor flags0 classFile x code maxLocals ret World_1 tables_1 room_1 Calls_1 rest_1 Pre_1 Post := by
  intro l hfl _ _ p e ha hc hk s m args below hf hA hF happ hP
  obtain ⟨hcalls, hrest, hpre⟩ := hP
  obtain ⟨-, -, -, hnamed, -, -, -, hat⟩ := (Spec.applies_iff hf).mp happ
  obtain ⟨hg, hn⟩ := and_e (Cond.before_iff.mp (show (Jvm.Cond.and given_1 narrow_1).before args s = true from hpre))
  obtain ⟨a0, g0⟩ := and_e hg
  obtain ⟨a1, g1⟩ := and_e g0
  obtain ⟨a2, g2⟩ := and_e g1
  obtain ⟨a3, g3⟩ := and_e g2
  obtain ⟨w0, w1, w2, w3, rfl⟩ : ∃ w0 w1 w2 w3 : Value, args = #[w0, w1, w2, w3] := by
    have hs : args.size = 4 := by simpa [Cond.value, given_1] using a0
    obtain ⟨L⟩ := args
    match L, hs with
    | [w0, w1, w2, w3], _ => exact ⟨w0, w1, w2, w3, rfl⟩
  have hw := fun d (hd : d ∈ tables_1) => atoms_spec (ws := Jvm.Cond.code x code maxLocals ret :: tables_1) hat d (List.mem_cons_of_mem _ hd)
  have hfit : Fit s := fun {y c} hc i hi => by
    obtain ⟨ha, rfl⟩ := Array.getElem?_eq_some_iff.mp hc
    have q := List.all_eq_true.mp ((Array.all_eq_true_iff_forall_mem.mp hF) _ (Array.getElem_mem ha)) i (List.mem_range.mpr hi)
    simpa [Array.getElem?_eq_getElem hi] using q
  obtain ⟨i0, e0⟩ := is_v a1
  obtain rfl : w0 = (.int i0) := Option.some.inj e0
  obtain ⟨i1, e1⟩ := isL_v a2
  obtain rfl : w1 = (.long i1) := Option.some.inj e1
  obtain ⟨i2, e2⟩ := isL_v a3
  obtain rfl : w2 = (.long i2) := Option.some.inj e2
  obtain ⟨i3, e3⟩ := is_v g3
  obtain rfl : w3 = (.int i3) := Option.some.inj e3
  obtain ⟨n, o, h1, h2, h3, v, L, rfl, ⟨hv, N⟩, hq⟩ := rmL l s _ hw tables_1 i0 i1 i2 i3 s.heap s.heap.size (Nat.le_refl _) p e ha hc hk s m _ below hf ((Spec.applies_iff_loose hf).mp happ).1 ⟨rfl, State.Warmed39.refl s, rfl⟩ trivial
  obtain rfl : v = some (.int 1) := hv
  refine ⟨n, _, h1, h2, h3, hpost _ _ _ _ _ _ ⟨Cond.after_iff.mpr rfl, Cond.after_iff.mpr (eq_i res_at (Term.int_eval (1)) rfl), trivial⟩ ⟨hq.1, hq.2.1, (hq.2.2.sift fun y hy => Or.inr (N y hy)).mono (by decide) (by decide)⟩⟩
theorem main_1_1 : Claimed_1_1 := comes_1 fun _ _ _ _ _ _ h hF => ⟨h.1, hF⟩
theorem main_1_2 : Claimed_1_2 := comes_1 fun _ _ _ _ _ _ h hF => ⟨h.2.1, hF⟩
end Jvm.Pilot.@@N@@
namespace Jvm.Pilot.@@N@@
open Jvm Jvm.ClassFile Sem Op Lib Jvm.Free Jvm.Stand Jvm.Pilot.@@N@@.Jvm.D
/-! MADE BY PROGRAM (witnessworld.py) out of the Statement's table words and the real class files: 13 classes; the members and pool entries that the words name. The judged class is class 1, her method 1. -/
namespace start1
open Jvm.ClassFile
def u (s : String) : CpInfo := .utf8 (stringToUtf16 s)
/-- a pool by its gaps: so many unusable entries, then the entry; so many at the end -/
def gap : Nat → List CpInfo → List CpInfo
  | 0, r => r
  | n + 1, r => .unusable :: gap n r
def poolList (es : List (Nat × CpInfo)) (last : Nat) : List CpInfo := es.foldr (fun e r => gap e.1 (e.2 :: r)) (gap last [])
def pool (es : List (Nat × CpInfo)) (last : Nat) : Array CpInfo := ⟨poolList es last⟩
def fileOf (pool : Array CpInfo) (this : Nat) (attrs : Array Attribute := #[]) (ms : Array MethodInfo := #[]) (fl : Nat := 33) (sup : Nat := 0) (ifs : Array Nat := #[]) (fds : Array FieldInfo := #[]) : ClassFile where
  minorVersion := 0
  majorVersion := 65
  constantPool := pool
  accessFlags := fl
  thisClass := this
  superClass := sup
  interfaces := ifs
  fields := fds
  methods := ms
  attributes := attrs
def plain (name : String) (sup : Option ClassId) : Class where
  name := name
  kind := .ordinary
  loader := none
  accessFlags := 33
  super := sup
  interfaces := #[]
  cf := none
  fields := #[]
  methods := #[]
  instanceTypes := #[]
  staticTypes := #[]
  resolved := #[]
  callSites := []
  init := .initialized
  statics := none
  mirror := none

def pool0 : Array CpInfo := pool [(5, u "<init>"), (0, u "()V"), (1, .class_ 10), (1, u "java/lang/Object")] 113

def k0c0 : Code := { maxStack := 0, maxLocals := 1, code := object_method_1_code, exceptionTable := #[], attributes := #[] }
def k0m0 : Method := { name := "<init>", desc := "()V", sig := { parameters := [], returnType := none }, accessFlags := 1, code := some k0c0 }
/-- java/lang/Object -/
def k0 : Class := { plain "java/lang/Object" none with
  accessFlags := 33
  interfaces := #[]
  cf := some (fileOf pool0 8 #[] #[{ accessFlags := 1, nameIndex := 5, descriptorIndex := 6, attributes := #[] }] 33 0 #[] #[])
  fields := #[]
  methods := #[k0m0]
  instanceTypes := #[]
  staticTypes := #[]
  resolved := Array.replicate 124 none
  statics := none }

def pool1 : Array CpInfo := pool [(2, .class_ 4), (1, u "java/lang/Object"), (0, u "<init>"), (0, u "()V"), (0, .class_ 8), (0, u "com/example/meterwise/meterwise/model/WholeNumber"), (0, .methodref 7 10), (0, .nameAndType 5 11), (0, u "(I)V"), (0, .methodref 7 13), (0, .nameAndType 14 15), (0, u "set"), (0, u "(J)Lcom/example/meterwise/meterwise/model/WholeNumber;"), (0, .methodref 7 17), (0, .nameAndType 18 19), (0, u "overflow"), (0, u "()Lcom/example/meterwise/meterwise/model/WholeNumber;"), (0, .methodref 7 21), (0, .nameAndType 22 23), (0, u "add"), (0, u "(Lcom/example/meterwise/meterwise/model/WholeNumber;)Lcom/example/meterwise/meterwise/model/WholeNumber;"), (0, .methodref 7 25), (0, .nameAndType 26 23), (0, u "subtract"), (0, .methodref 7 28), (0, .nameAndType 29 19), (0, u "negate"), (0, .methodref 7 31), (0, .nameAndType 32 33), (0, u "compareTo"), (0, u "(Lcom/example/meterwise/meterwise/model/WholeNumber;)I"), (0, .class_ 35), (0, u "com/example/meterwise/meterwise/model/WholeNumberNegatePinLaw"), (2, u "law"), (0, u "(IJJI)Z")] 3

def k1m0 : Method := { name := "<init>", desc := "()V", sig := { parameters := [], returnType := none }, accessFlags := 1, code := none }
def k1c1 : Code := { maxStack := 3, maxLocals := 11, code := code, exceptionTable := #[], attributes := #[] }
def k1m1 : Method := { name := "law", desc := "(IJJI)Z", sig := { parameters := [.int, .long, .long, .int], returnType := some .boolean }, accessFlags := 9, code := some k1c1 }
/-- com/example/meterwise/meterwise/model/WholeNumberNegatePinLaw -/
def k1 : Class := { plain "com/example/meterwise/meterwise/model/WholeNumberNegatePinLaw" (some 0) with
  accessFlags := 49
  interfaces := #[]
  cf := some (fileOf pool1 34 #[] #[{ accessFlags := 1, nameIndex := 5, descriptorIndex := 6, attributes := #[] }, { accessFlags := 9, nameIndex := 38, descriptorIndex := 39, attributes := #[] }] 49 2 #[] #[])
  fields := #[]
  methods := #[k1m0, k1m1]
  instanceTypes := #[]
  staticTypes := #[]
  resolved := Array.replicate 43 none
  statics := none }

def pool2 : Array CpInfo := pool [(1, .methodref 2 3), (0, .class_ 4), (0, .nameAndType 5 6), (0, u "java/lang/Object"), (0, u "<init>"), (0, u "()V"), (9, .long 3322), (1, .long 999), (1, .long 1000), (3, .long 64), (1, .fieldref 27 28), (0, .class_ 29), (0, .nameAndType 30 31), (0, u "com/example/meterwise/meterwise/model/WholeNumber"), (0, u "words"), (0, u "[J"), (4, .methodref 37 38), (0, .class_ 39), (0, .nameAndType 40 41), (0, u "java/lang/Math"), (0, u "max"), (0, u "(II)I"), (2, u "(I)V"), (2, u "set"), (10, .methodref 59 60), (0, .class_ 61), (0, .nameAndType 62 63), (0, u "java/util/Arrays"), (0, u "fill"), (0, u "([JIIJ)V"), (6, .methodref 27 71), (0, .nameAndType 72 73), (0, u "overflowed"), (0, u "()Z"), (0, .methodref 27 75), (0, .nameAndType 76 77), (0, u "overflow"), (0, u "()Lcom/example/meterwise/meterwise/model/WholeNumber;"), (0, .methodref 27 79), (0, .nameAndType 80 81), (0, u "top"), (0, u "()J"), (23, .methodref 59 106), (0, .nameAndType 62 107), (0, u "([JJ)V"), (0, .long 9223372036854775808), (1, .methodref 27 111), (0, .nameAndType 112 73), (0, u "zeroBelowTop"), (0, .methodref 27 114), (0, .nameAndType 115 116), (0, u "word"), (0, u "(I)J"), (7, .methodref 27 125), (0, .nameAndType 126 127), (0, u "add"), (0, u "(Lcom/example/meterwise/meterwise/model/WholeNumber;Z)Lcom/example/meterwise/meterwise/model/WholeNumber;"), (0, .long 18446744073709551615), (6, u "work"), (3, u "negate"), (15, u "POWERS"), (73, u "LONG_PLACES"), (0, u "I"), (2, u "WORD_PLACES"), (1, u "HALF"), (0, u "J"), (0, u "BILLION"), (4, u "(J)Lcom/example/meterwise/meterwise/model/WholeNumber;"), (0, u "(Lcom/example/meterwise/meterwise/model/WholeNumber;)Lcom/example/meterwise/meterwise/model/WholeNumber;"), (1, u "compareTo"), (0, u "(Lcom/example/meterwise/meterwise/model/WholeNumber;)I"), (0, u "subtract")] 30

def k2c0 : Code := { maxStack := 5, maxLocals := 4, code := prog_137_method_1_code, exceptionTable := #[], attributes := #[] }
def k2m0 : Method := { name := "<init>", desc := "(I)V", sig := { parameters := [.int], returnType := none }, accessFlags := 1, code := some k2c0 }
def k2c1 : Code := { maxStack := 6, maxLocals := 3, code := prog_137_method_4_code, exceptionTable := #[], attributes := #[] }
def k2m1 : Method := { name := "set", desc := "(J)Lcom/example/meterwise/meterwise/model/WholeNumber;", sig := { parameters := [.long], returnType := some (.object "com/example/meterwise/meterwise/model/WholeNumber") }, accessFlags := 1, code := some k2c1 }
def k2c2 : Code := { maxStack := 4, maxLocals := 1, code := prog_137_method_7_code, exceptionTable := #[], attributes := #[] }
def k2m2 : Method := { name := "overflow", desc := "()Lcom/example/meterwise/meterwise/model/WholeNumber;", sig := { parameters := [], returnType := some (.object "com/example/meterwise/meterwise/model/WholeNumber") }, accessFlags := 1, code := some k2c2 }
def k2c3 : Code := { maxStack := 4, maxLocals := 1, code := prog_137_method_8_code, exceptionTable := #[], attributes := #[] }
def k2m3 : Method := { name := "overflowed", desc := "()Z", sig := { parameters := [], returnType := some .boolean }, accessFlags := 1, code := some k2c3 }
def k2c4 : Code := { maxStack := 4, maxLocals := 2, code := prog_137_method_10_code, exceptionTable := #[], attributes := #[] }
def k2m4 : Method := { name := "zeroBelowTop", desc := "()Z", sig := { parameters := [], returnType := some .boolean }, accessFlags := 2, code := some k2c4 }
def k2c5 : Code := { maxStack := 4, maxLocals := 8, code := prog_137_method_11_code, exceptionTable := #[], attributes := #[] }
def k2m5 : Method := { name := "compareTo", desc := "(Lcom/example/meterwise/meterwise/model/WholeNumber;)I", sig := { parameters := [(.object "com/example/meterwise/meterwise/model/WholeNumber")], returnType := some .int }, accessFlags := 1, code := some k2c5 }
def k2c6 : Code := { maxStack := 3, maxLocals := 2, code := prog_137_method_12_code, exceptionTable := #[], attributes := #[] }
def k2m6 : Method := { name := "add", desc := "(Lcom/example/meterwise/meterwise/model/WholeNumber;)Lcom/example/meterwise/meterwise/model/WholeNumber;", sig := { parameters := [(.object "com/example/meterwise/meterwise/model/WholeNumber")], returnType := some (.object "com/example/meterwise/meterwise/model/WholeNumber") }, accessFlags := 1, code := some k2c6 }
def k2c7 : Code := { maxStack := 3, maxLocals := 2, code := prog_137_method_13_code, exceptionTable := #[], attributes := #[] }
def k2m7 : Method := { name := "subtract", desc := "(Lcom/example/meterwise/meterwise/model/WholeNumber;)Lcom/example/meterwise/meterwise/model/WholeNumber;", sig := { parameters := [(.object "com/example/meterwise/meterwise/model/WholeNumber")], returnType := some (.object "com/example/meterwise/meterwise/model/WholeNumber") }, accessFlags := 1, code := some k2c7 }
def k2c8 : Code := { maxStack := 8, maxLocals := 21, code := prog_137_method_14_code, exceptionTable := #[], attributes := #[] }
def k2m8 : Method := { name := "add", desc := "(Lcom/example/meterwise/meterwise/model/WholeNumber;Z)Lcom/example/meterwise/meterwise/model/WholeNumber;", sig := { parameters := [(.object "com/example/meterwise/meterwise/model/WholeNumber"), .boolean], returnType := some (.object "com/example/meterwise/meterwise/model/WholeNumber") }, accessFlags := 2, code := some k2c8 }
def k2c9 : Code := { maxStack := 6, maxLocals := 4, code := prog_137_method_19_code, exceptionTable := #[], attributes := #[] }
def k2m9 : Method := { name := "negate", desc := "()Lcom/example/meterwise/meterwise/model/WholeNumber;", sig := { parameters := [], returnType := some (.object "com/example/meterwise/meterwise/model/WholeNumber") }, accessFlags := 1, code := some k2c9 }
def k2c10 : Code := { maxStack := 3, maxLocals := 1, code := prog_137_method_31_code, exceptionTable := #[], attributes := #[] }
def k2m10 : Method := { name := "top", desc := "()J", sig := { parameters := [], returnType := some .long }, accessFlags := 2, code := some k2c10 }
def k2c11 : Code := { maxStack := 3, maxLocals := 2, code := prog_137_method_32_code, exceptionTable := #[], attributes := #[] }
def k2m11 : Method := { name := "word", desc := "(I)J", sig := { parameters := [.int], returnType := some .long }, accessFlags := 2, code := some k2c11 }
/-- com/example/meterwise/meterwise/model/WholeNumber -/
def k2 : Class := { plain "com/example/meterwise/meterwise/model/WholeNumber" (some 0) with
  accessFlags := 33
  interfaces := #[]
  cf := some (fileOf pool2 27 #[] #[{ accessFlags := 1, nameIndex := 5, descriptorIndex := 44, attributes := #[] }, { accessFlags := 1, nameIndex := 47, descriptorIndex := 242, attributes := #[] }, { accessFlags := 1, nameIndex := 76, descriptorIndex := 77, attributes := #[] }, { accessFlags := 1, nameIndex := 72, descriptorIndex := 73, attributes := #[] }, { accessFlags := 2, nameIndex := 112, descriptorIndex := 73, attributes := #[] }, { accessFlags := 1, nameIndex := 245, descriptorIndex := 246, attributes := #[] }, { accessFlags := 1, nameIndex := 126, descriptorIndex := 243, attributes := #[] }, { accessFlags := 1, nameIndex := 247, descriptorIndex := 243, attributes := #[] }, { accessFlags := 2, nameIndex := 126, descriptorIndex := 127, attributes := #[] }, { accessFlags := 1, nameIndex := 139, descriptorIndex := 77, attributes := #[] }, { accessFlags := 2, nameIndex := 80, descriptorIndex := 81, attributes := #[] }, { accessFlags := 2, nameIndex := 115, descriptorIndex := 116, attributes := #[] }] 33 2 #[] #[{ accessFlags := 26, nameIndex := 229, descriptorIndex := 230, attributes := #[] }, { accessFlags := 26, nameIndex := 233, descriptorIndex := 230, attributes := #[] }, { accessFlags := 26, nameIndex := 235, descriptorIndex := 236, attributes := #[] }, { accessFlags := 26, nameIndex := 237, descriptorIndex := 236, attributes := #[] }, { accessFlags := 26, nameIndex := 155, descriptorIndex := 31, attributes := #[] }, { accessFlags := 18, nameIndex := 30, descriptorIndex := 31, attributes := #[] }, { accessFlags := 2, nameIndex := 135, descriptorIndex := 31, attributes := #[] }])
  fields := #[{ name := "LONG_PLACES", type := .int, accessFlags := 26, slot := 0, constantValue := 0 }, { name := "WORD_PLACES", type := .int, accessFlags := 26, slot := 1, constantValue := 0 }, { name := "HALF", type := .long, accessFlags := 26, slot := 2, constantValue := 0 }, { name := "BILLION", type := .long, accessFlags := 26, slot := 3, constantValue := 0 }, { name := "POWERS", type := (.array .long), accessFlags := 26, slot := 4, constantValue := 0 }, { name := "words", type := (.array .long), accessFlags := 18, slot := 0, constantValue := 0 }, { name := "work", type := (.array .long), accessFlags := 2, slot := 1, constantValue := 0 }]
  methods := #[k2m0, k2m1, k2m2, k2m3, k2m4, k2m5, k2m6, k2m7, k2m8, k2m9, k2m10, k2m11]
  instanceTypes := #[(.array .long), (.array .long)]
  staticTypes := #[.int, .int, .long, .long, (.array .long)]
  resolved := Array.replicate 278 none
  statics := none }

def pool3 : Array CpInfo := pool [(2, .class_ 4), (1, u "java/lang/Object"), (0, u "<init>"), (0, u "()V"), (6, .methodref 14 15), (0, .class_ 16), (0, .nameAndType 17 18), (0, u "java/util/Arrays"), (0, u "rangeCheck"), (0, u "(III)V"), (55, .class_ 76), (1, u "java/util/Arrays$NaturalOrder"), (36, .class_ 115), (1, u "java/util/Arrays$LegacyMergeSort"), (1, u "Z"), (257, .class_ 376), (0, u "java/util/Arrays$ArrayList"), (68, u "$assertionsDisabled"), (269, u "MIN_ARRAY_SORT_GRAN"), (0, u "I"), (2, u "INSERTIONSORT_THRESHOLD"), (120, u "fill"), (0, u "([JJ)V"), (2, u "([JIIJ)V"), (130, .class_ 976), (0, u "java/util/Arrays$ArrayItr")] 52

def k3m0 : Method := { name := "<init>", desc := "()V", sig := { parameters := [], returnType := none }, accessFlags := 2, code := none }
def k3c1 : Code := { maxStack := 4, maxLocals := 3, code := jdk_65_method_30_code, exceptionTable := #[], attributes := #[] }
def k3m1 : Method := { name := "rangeCheck", desc := "(III)V", sig := { parameters := [.int, .int, .int], returnType := none }, accessFlags := 8, code := some k3c1 }
def k3c2 : Code := { maxStack := 4, maxLocals := 5, code := jdk_65_method_101_code, exceptionTable := #[], attributes := #[] }
def k3m2 : Method := { name := "fill", desc := "([JJ)V", sig := { parameters := [(.array .long), .long], returnType := none }, accessFlags := 9, code := some k3c2 }
def k3c3 : Code := { maxStack := 4, maxLocals := 6, code := jdk_65_method_102_code, exceptionTable := #[], attributes := #[] }
def k3m3 : Method := { name := "fill", desc := "([JIIJ)V", sig := { parameters := [(.array .long), .int, .int, .long], returnType := none }, accessFlags := 9, code := some k3c3 }
/-- java/util/Arrays -/
def k3 : Class := { plain "java/util/Arrays" (some 0) with
  accessFlags := 49
  interfaces := #[]
  cf := some (fileOf pool3 14 #[.nestMembers #[975, 375, 113, 74]] #[{ accessFlags := 2, nameIndex := 5, descriptorIndex := 6, attributes := #[] }, { accessFlags := 8, nameIndex := 17, descriptorIndex := 18, attributes := #[] }, { accessFlags := 9, nameIndex := 840, descriptorIndex := 841, attributes := #[] }, { accessFlags := 9, nameIndex := 840, descriptorIndex := 844, attributes := #[] }] 49 2 #[] #[{ accessFlags := 26, nameIndex := 715, descriptorIndex := 716, attributes := #[] }, { accessFlags := 26, nameIndex := 719, descriptorIndex := 716, attributes := #[] }, { accessFlags := 4120, nameIndex := 445, descriptorIndex := 117, attributes := #[] }])
  fields := #[{ name := "MIN_ARRAY_SORT_GRAN", type := .int, accessFlags := 26, slot := 0, constantValue := 0 }, { name := "INSERTIONSORT_THRESHOLD", type := .int, accessFlags := 26, slot := 1, constantValue := 0 }, { name := "$assertionsDisabled", type := .boolean, accessFlags := 4120, slot := 2, constantValue := 0 }]
  methods := #[k3m0, k3m1, k3m2, k3m3]
  instanceTypes := #[]
  staticTypes := #[.int, .int, .boolean]
  resolved := Array.replicate 1029 none
  statics := none }

def pool4 : Array CpInfo := pool [(1, .class_ 2), (0, u "java/lang/Math"), (1, .class_ 6), (1, u "java/lang/Object"), (0, u "<init>"), (0, u "()V"), (89, .class_ 100), (1, u "java/lang/Math$RandomNumberGeneratorHolder"), (71, u "negativeZeroFloatBits"), (0, u "J"), (2, u "negativeZeroDoubleBits"), (21, u "max"), (46, u "$assertionsDisabled"), (0, u "Z"), (88, u "(II)I"), (2, u "twoToTheDoubleScaleDown"), (0, u "D"), (4, u "twoToTheDoubleScaleUp"), (9, u "E"), (3, u "PI"), (2, u "TAU"), (2, u "DEGREES_TO_RADIANS"), (0, u "RADIANS_TO_DEGREES")] 94

def k4m0 : Method := { name := "<init>", desc := "()V", sig := { parameters := [], returnType := none }, accessFlags := 2, code := none }
def k4c1 : Code := { maxStack := 2, maxLocals := 2, code := jdk_29_method_65_code, exceptionTable := #[], attributes := #[] }
def k4m1 : Method := { name := "max", desc := "(II)I", sig := { parameters := [.int, .int], returnType := some .int }, accessFlags := 9, code := some k4c1 }
/-- java/lang/Math -/
def k4 : Class := { plain "java/lang/Math" (some 0) with
  accessFlags := 49
  interfaces := #[]
  cf := some (fileOf pool4 1 #[.nestMembers #[98]] #[{ accessFlags := 2, nameIndex := 7, descriptorIndex := 8, attributes := #[] }, { accessFlags := 9, nameIndex := 198, descriptorIndex := 335, attributes := #[] }] 49 4 #[] #[{ accessFlags := 25, nameIndex := 354, descriptorIndex := 339, attributes := #[] }, { accessFlags := 25, nameIndex := 358, descriptorIndex := 339, attributes := #[] }, { accessFlags := 25, nameIndex := 361, descriptorIndex := 339, attributes := #[] }, { accessFlags := 26, nameIndex := 364, descriptorIndex := 339, attributes := #[] }, { accessFlags := 26, nameIndex := 365, descriptorIndex := 339, attributes := #[] }, { accessFlags := 26, nameIndex := 172, descriptorIndex := 173, attributes := #[] }, { accessFlags := 26, nameIndex := 176, descriptorIndex := 173, attributes := #[] }, { accessFlags := 8, nameIndex := 344, descriptorIndex := 339, attributes := #[] }, { accessFlags := 8, nameIndex := 338, descriptorIndex := 339, attributes := #[] }, { accessFlags := 4120, nameIndex := 245, descriptorIndex := 246, attributes := #[] }])
  fields := #[{ name := "E", type := .double, accessFlags := 25, slot := 0, constantValue := 0 }, { name := "PI", type := .double, accessFlags := 25, slot := 1, constantValue := 0 }, { name := "TAU", type := .double, accessFlags := 25, slot := 2, constantValue := 0 }, { name := "DEGREES_TO_RADIANS", type := .double, accessFlags := 26, slot := 3, constantValue := 0 }, { name := "RADIANS_TO_DEGREES", type := .double, accessFlags := 26, slot := 4, constantValue := 0 }, { name := "negativeZeroFloatBits", type := .long, accessFlags := 26, slot := 5, constantValue := 0 }, { name := "negativeZeroDoubleBits", type := .long, accessFlags := 26, slot := 6, constantValue := 0 }, { name := "twoToTheDoubleScaleUp", type := .double, accessFlags := 8, slot := 7, constantValue := 0 }, { name := "twoToTheDoubleScaleDown", type := .double, accessFlags := 8, slot := 8, constantValue := 0 }, { name := "$assertionsDisabled", type := .boolean, accessFlags := 4120, slot := 9, constantValue := 0 }]
  methods := #[k4m0, k4m1]
  instanceTypes := #[]
  staticTypes := #[.double, .double, .double, .double, .double, .long, .long, .double, .double, .boolean]
  resolved := Array.replicate 460 none
  statics := none }

def pool5 : Array CpInfo := pool [(1, u "java/lang/Cloneable"), (0, .class_ 1), (0, u "java/lang/Object"), (0, .class_ 3)] 3

/-- java/lang/Cloneable -/
def k5 : Class := { plain "java/lang/Cloneable" (some 0) with
  accessFlags := 1537
  interfaces := #[]
  cf := some (fileOf pool5 2 #[] #[] 1537 4 #[] #[])
  fields := #[]
  methods := #[]
  instanceTypes := #[]
  staticTypes := #[]
  resolved := Array.replicate 8 none
  statics := none }

def pool6 : Array CpInfo := pool [(1, u "java/io/Serializable"), (0, .class_ 1), (0, u "java/lang/Object"), (0, .class_ 3)] 3

/-- java/io/Serializable -/
def k6 : Class := { plain "java/io/Serializable" (some 0) with
  accessFlags := 1537
  interfaces := #[]
  cf := some (fileOf pool6 2 #[] #[] 1537 4 #[] #[])
  fields := #[]
  methods := #[]
  instanceTypes := #[]
  staticTypes := #[]
  resolved := Array.replicate 8 none
  statics := none }

/-- the primitive byte -/
def k7 : Class := { plain "byte" none with kind := .primitive 'B', accessFlags := 0x411 }
/-- [B -/
def k8 : Class := { plain "[B" (some 0) with kind := .array 7 .byte, interfaces := #[5, 6], accessFlags := 1041 }

/-- the primitive int -/
def k9 : Class := { plain "int" none with kind := .primitive 'I', accessFlags := 0x411 }
/-- [I -/
def k10 : Class := { plain "[I" (some 0) with kind := .array 9 .int, interfaces := #[5, 6], accessFlags := 1041 }

/-- the primitive long -/
def k11 : Class := { plain "long" none with kind := .primitive 'J', accessFlags := 0x411 }
/-- [J -/
def k12 : Class := { plain "[J" (some 0) with kind := .array 11 .long, interfaces := #[5, 6], accessFlags := 1041 }

def heap : Heap := #[]
def classes : Array Class := #[k0, k1, k2, k3, k4, k5, k6, k7, k8, k9, k10, k11, k12]
def interned : List (Array UInt16 × Addr) := []
def slotsUsed : Nat := 0
def theMethod : MethodId := ⟨1, 1⟩
def args0 : Array Value := #[.int 7, .long 3, .long 9, .int 4]
def aboutOver (below : List Frame) : State where
  vm := { classes := classes, interned := interned.toArray }
  heap := heap
  slotsUsed := slotsUsed
  threads := #[{ frames := .invoking theMethod args0 :: below }]
def below0 : List Frame := [.native { method := ⟨0, 0⟩, args := #[] }]
def about1 : State := aboutOver below0
def p0 : Program := .bare "" "" ""
def e0 : Env := launch0.env 0 0 0
theorem w_frames : about1.frames = Frame.invoking theMethod args0 :: below0 := rfl
set_option maxRecDepth 65536 in
theorem w_args : argsFit about1.vm theMethod args0 = true := by decide +kernel
set_option maxRecDepth 65536 in
theorem w_heap : heapFits about1 = true := by decide +kernel
set_option maxRecDepth 65536 in
theorem w_runnable : about1.curStatus? = some .runnable := by decide +kernel
set_option maxRecDepth 65536 in
theorem w_alone : about1.alone = true := by decide +kernel
set_option maxRecDepth 65536 in
theorem w_named : about1.methodNamed? x = some theMethod := by decide +kernel
set_option maxRecDepth 65536 in
theorem w_hears : about1.hears theMethod below0 = true := by decide +kernel
set_option maxRecDepth 65536 in
theorem w_ripe : about1.ripe theMethod args0 below0 = true := by decide +kernel
theorem w_running : about1.status = .running := rfl
set_option maxRecDepth 65536 in
theorem w_room : about1.hasRoom e0.platform room_1 = true :=
  launch0.hasRoom_least _ room_1 (by decide +kernel) (by decide +kernel) (by decide +kernel) (by decide +kernel) (by decide +kernel) (by decide +kernel)
theorem allAtoms_all (ts : List Jvm.Cond) (a : Array Jvm.Value) (st : Jvm.State) : (allAtoms ts).before a st = ts.all (fun c => c.before a st) := by
  induction ts with
  | nil => rfl
  | cons c t ih =>
    show (Jvm.Cond.and c (allAtoms t)).before a st = _
    rw [Jvm.Cond.before_and, ih, List.all_cons]
def words1 : List Jvm.Cond := Jvm.Cond.code x code maxLocals ret :: tables_1
/-- a 'code' word, met by the world's own term for the bytes: nothing is compared byte by byte -/
theorem code_word {y : MethodName} {bytes : ByteArray} {mx : Nat} {rt : Option FieldType} {a : Array Value} {s : State} {m : MethodId} {meth : Method} {c : Code} (h1 : s.methodNamed? y = some m) (h2 : s.vm.method? m = some meth) (h3 : meth.code = some c) (h4 : c.code = bytes)
    (h5 : (c.maxLocals == mx && c.exceptionTable.isEmpty && decide (c.maxStack ≤ mostOperands) && decide (meth.sig.returnType = rt) && !meth.locks && decide (parseMethodDescriptor y.desc = some meth.sig)) = true) : (Jvm.Cond.code y bytes mx rt).before a s = true := by
  simp only [Bool.and_eq_true, beq_iff_eq, Bool.not_eq_true', decide_eq_true_eq] at h5
  obtain ⟨⟨⟨⟨⟨g1, g2⟩, g3⟩, g4⟩, g5⟩, g6⟩ := h5
  simp [Cond.before, Cond.holds, Cond.value, h1, h2, h3, h4, g1, g2, g3, g4, g5, g6]
def isCode : Jvm.Cond → Bool
  | .code _ _ _ _ => true
  | _ => false
theorem all_split {L : List Jvm.Cond} {P : Jvm.Cond → Bool} (h1 : L.all (fun c => isCode c || P c) = true) (h2 : ∀ c ∈ L.filter isCode, P c = true) : L.all P = true := by
  refine List.all_eq_true.mpr fun c hc => ?_
  have h := List.all_eq_true.mp h1 c hc
  rcases Bool.eq_false_or_eq_true (isCode c) with hi | hi
  · exact h2 c (List.mem_filter.mpr ⟨hc, hi⟩)
  · simpa [hi] using h
set_option maxRecDepth 65536 in
theorem w_c0 : (Jvm.Cond.code x code maxLocals ret).before args0 about1 = true := code_word (m := ⟨1, 1⟩) (meth := k1m1) (c := k1c1) (by decide +kernel) rfl rfl rfl (by decide +kernel)
set_option maxRecDepth 65536 in
theorem w_c1 : (Jvm.Cond.code ({ cls := "com/example/meterwise/meterwise/model/WholeNumber", name := "<init>", desc := "(I)V" } : Jvm.MethodName) prog_137_method_1_code (4 : Nat) (Option.none : Option Jvm.ClassFile.FieldType)).before args0 about1 = true := code_word (m := ⟨2, 0⟩) (meth := k2m0) (c := k2c0) (by decide +kernel) rfl rfl rfl (by decide +kernel)
set_option maxRecDepth 65536 in
theorem w_c2 : (Jvm.Cond.code ({ cls := "java/lang/Object", name := "<init>", desc := "()V" } : Jvm.MethodName) object_method_1_code (1 : Nat) (Option.none : Option Jvm.ClassFile.FieldType)).before args0 about1 = true := code_word (m := ⟨0, 0⟩) (meth := k0m0) (c := k0c0) (by decide +kernel) rfl rfl rfl (by decide +kernel)
set_option maxRecDepth 65536 in
theorem w_c3 : (Jvm.Cond.code ({ cls := "com/example/meterwise/meterwise/model/WholeNumber", name := "set", desc := "(J)Lcom/example/meterwise/meterwise/model/WholeNumber;" } : Jvm.MethodName) prog_137_method_4_code (3 : Nat) (Option.some (Jvm.ClassFile.FieldType.object "com/example/meterwise/meterwise/model/WholeNumber"))).before args0 about1 = true := code_word (m := ⟨2, 1⟩) (meth := k2m1) (c := k2c1) (by decide +kernel) rfl rfl rfl (by decide +kernel)
set_option maxRecDepth 65536 in
theorem w_c4 : (Jvm.Cond.code ({ cls := "java/util/Arrays", name := "fill", desc := "([JIIJ)V" } : Jvm.MethodName) jdk_65_method_102_code (6 : Nat) (Option.none : Option Jvm.ClassFile.FieldType)).before args0 about1 = true := code_word (m := ⟨3, 3⟩) (meth := k3m3) (c := k3c3) (by decide +kernel) rfl rfl rfl (by decide +kernel)
set_option maxRecDepth 65536 in
theorem w_c5 : (Jvm.Cond.code ({ cls := "java/util/Arrays", name := "rangeCheck", desc := "(III)V" } : Jvm.MethodName) jdk_65_method_30_code (3 : Nat) (Option.none : Option Jvm.ClassFile.FieldType)).before args0 about1 = true := code_word (m := ⟨3, 1⟩) (meth := k3m1) (c := k3c1) (by decide +kernel) rfl rfl rfl (by decide +kernel)
set_option maxRecDepth 65536 in
theorem w_c6 : (Jvm.Cond.code ({ cls := "com/example/meterwise/meterwise/model/WholeNumber", name := "overflow", desc := "()Lcom/example/meterwise/meterwise/model/WholeNumber;" } : Jvm.MethodName) prog_137_method_7_code (1 : Nat) (Option.some (Jvm.ClassFile.FieldType.object "com/example/meterwise/meterwise/model/WholeNumber"))).before args0 about1 = true := code_word (m := ⟨2, 2⟩) (meth := k2m2) (c := k2c2) (by decide +kernel) rfl rfl rfl (by decide +kernel)
set_option maxRecDepth 65536 in
theorem w_c7 : (Jvm.Cond.code ({ cls := "java/util/Arrays", name := "fill", desc := "([JJ)V" } : Jvm.MethodName) jdk_65_method_101_code (5 : Nat) (Option.none : Option Jvm.ClassFile.FieldType)).before args0 about1 = true := code_word (m := ⟨3, 2⟩) (meth := k3m2) (c := k3c2) (by decide +kernel) rfl rfl rfl (by decide +kernel)
set_option maxRecDepth 65536 in
theorem w_c8 : (Jvm.Cond.code ({ cls := "com/example/meterwise/meterwise/model/WholeNumber", name := "subtract", desc := "(Lcom/example/meterwise/meterwise/model/WholeNumber;)Lcom/example/meterwise/meterwise/model/WholeNumber;" } : Jvm.MethodName) prog_137_method_13_code (2 : Nat) (Option.some (Jvm.ClassFile.FieldType.object "com/example/meterwise/meterwise/model/WholeNumber"))).before args0 about1 = true := code_word (m := ⟨2, 7⟩) (meth := k2m7) (c := k2c7) (by decide +kernel) rfl rfl rfl (by decide +kernel)
set_option maxRecDepth 65536 in
theorem w_c9 : (Jvm.Cond.code ({ cls := "com/example/meterwise/meterwise/model/WholeNumber", name := "add", desc := "(Lcom/example/meterwise/meterwise/model/WholeNumber;Z)Lcom/example/meterwise/meterwise/model/WholeNumber;" } : Jvm.MethodName) prog_137_method_14_code (21 : Nat) (Option.some (Jvm.ClassFile.FieldType.object "com/example/meterwise/meterwise/model/WholeNumber"))).before args0 about1 = true := code_word (m := ⟨2, 8⟩) (meth := k2m8) (c := k2c8) (by decide +kernel) rfl rfl rfl (by decide +kernel)
set_option maxRecDepth 65536 in
theorem w_c10 : (Jvm.Cond.code ({ cls := "com/example/meterwise/meterwise/model/WholeNumber", name := "overflowed", desc := "()Z" } : Jvm.MethodName) prog_137_method_8_code (1 : Nat) (Option.some Jvm.ClassFile.FieldType.boolean)).before args0 about1 = true := code_word (m := ⟨2, 3⟩) (meth := k2m3) (c := k2c3) (by decide +kernel) rfl rfl rfl (by decide +kernel)
set_option maxRecDepth 65536 in
theorem w_c11 : (Jvm.Cond.code ({ cls := "com/example/meterwise/meterwise/model/WholeNumber", name := "top", desc := "()J" } : Jvm.MethodName) prog_137_method_31_code (1 : Nat) (Option.some Jvm.ClassFile.FieldType.long)).before args0 about1 = true := code_word (m := ⟨2, 10⟩) (meth := k2m10) (c := k2c10) (by decide +kernel) rfl rfl rfl (by decide +kernel)
set_option maxRecDepth 65536 in
theorem w_c12 : (Jvm.Cond.code ({ cls := "com/example/meterwise/meterwise/model/WholeNumber", name := "zeroBelowTop", desc := "()Z" } : Jvm.MethodName) prog_137_method_10_code (2 : Nat) (Option.some Jvm.ClassFile.FieldType.boolean)).before args0 about1 = true := code_word (m := ⟨2, 4⟩) (meth := k2m4) (c := k2c4) (by decide +kernel) rfl rfl rfl (by decide +kernel)
set_option maxRecDepth 65536 in
theorem w_c13 : (Jvm.Cond.code ({ cls := "com/example/meterwise/meterwise/model/WholeNumber", name := "negate", desc := "()Lcom/example/meterwise/meterwise/model/WholeNumber;" } : Jvm.MethodName) prog_137_method_19_code (4 : Nat) (Option.some (Jvm.ClassFile.FieldType.object "com/example/meterwise/meterwise/model/WholeNumber"))).before args0 about1 = true := code_word (m := ⟨2, 9⟩) (meth := k2m9) (c := k2c9) (by decide +kernel) rfl rfl rfl (by decide +kernel)
set_option maxRecDepth 65536 in
theorem w_c14 : (Jvm.Cond.code ({ cls := "com/example/meterwise/meterwise/model/WholeNumber", name := "compareTo", desc := "(Lcom/example/meterwise/meterwise/model/WholeNumber;)I" } : Jvm.MethodName) prog_137_method_11_code (8 : Nat) (Option.some Jvm.ClassFile.FieldType.int)).before args0 about1 = true := code_word (m := ⟨2, 5⟩) (meth := k2m5) (c := k2c5) (by decide +kernel) rfl rfl rfl (by decide +kernel)
set_option maxRecDepth 65536 in
theorem w_c15 : (Jvm.Cond.code ({ cls := "java/lang/Math", name := "max", desc := "(II)I" } : Jvm.MethodName) jdk_29_method_65_code (2 : Nat) (Option.some Jvm.ClassFile.FieldType.int)).before args0 about1 = true := code_word (m := ⟨4, 1⟩) (meth := k4m1) (c := k4c1) (by decide +kernel) rfl rfl rfl (by decide +kernel)
set_option maxRecDepth 65536 in
theorem w_c16 : (Jvm.Cond.code ({ cls := "com/example/meterwise/meterwise/model/WholeNumber", name := "word", desc := "(I)J" } : Jvm.MethodName) prog_137_method_32_code (2 : Nat) (Option.some Jvm.ClassFile.FieldType.long)).before args0 about1 = true := code_word (m := ⟨2, 11⟩) (meth := k2m11) (c := k2c11) (by decide +kernel) rfl rfl rfl (by decide +kernel)
set_option maxRecDepth 65536 in
theorem w_c17 : (Jvm.Cond.code ({ cls := "com/example/meterwise/meterwise/model/WholeNumber", name := "add", desc := "(Lcom/example/meterwise/meterwise/model/WholeNumber;)Lcom/example/meterwise/meterwise/model/WholeNumber;" } : Jvm.MethodName) prog_137_method_12_code (2 : Nat) (Option.some (Jvm.ClassFile.FieldType.object "com/example/meterwise/meterwise/model/WholeNumber"))).before args0 about1 = true := code_word (m := ⟨2, 6⟩) (meth := k2m6) (c := k2c6) (by decide +kernel) rfl rfl rfl (by decide +kernel)
def codes1 : List Jvm.Cond := [Jvm.Cond.code x code maxLocals ret, Jvm.Cond.code ({ cls := "com/example/meterwise/meterwise/model/WholeNumber", name := "<init>", desc := "(I)V" } : Jvm.MethodName) prog_137_method_1_code (4 : Nat) (Option.none : Option Jvm.ClassFile.FieldType), Jvm.Cond.code ({ cls := "java/lang/Object", name := "<init>", desc := "()V" } : Jvm.MethodName) object_method_1_code (1 : Nat) (Option.none : Option Jvm.ClassFile.FieldType), Jvm.Cond.code ({ cls := "com/example/meterwise/meterwise/model/WholeNumber", name := "set", desc := "(J)Lcom/example/meterwise/meterwise/model/WholeNumber;" } : Jvm.MethodName) prog_137_method_4_code (3 : Nat) (Option.some (Jvm.ClassFile.FieldType.object "com/example/meterwise/meterwise/model/WholeNumber")), Jvm.Cond.code ({ cls := "java/util/Arrays", name := "fill", desc := "([JIIJ)V" } : Jvm.MethodName) jdk_65_method_102_code (6 : Nat) (Option.none : Option Jvm.ClassFile.FieldType), Jvm.Cond.code ({ cls := "java/util/Arrays", name := "rangeCheck", desc := "(III)V" } : Jvm.MethodName) jdk_65_method_30_code (3 : Nat) (Option.none : Option Jvm.ClassFile.FieldType), Jvm.Cond.code ({ cls := "com/example/meterwise/meterwise/model/WholeNumber", name := "overflow", desc := "()Lcom/example/meterwise/meterwise/model/WholeNumber;" } : Jvm.MethodName) prog_137_method_7_code (1 : Nat) (Option.some (Jvm.ClassFile.FieldType.object "com/example/meterwise/meterwise/model/WholeNumber")), Jvm.Cond.code ({ cls := "java/util/Arrays", name := "fill", desc := "([JJ)V" } : Jvm.MethodName) jdk_65_method_101_code (5 : Nat) (Option.none : Option Jvm.ClassFile.FieldType), Jvm.Cond.code ({ cls := "com/example/meterwise/meterwise/model/WholeNumber", name := "subtract", desc := "(Lcom/example/meterwise/meterwise/model/WholeNumber;)Lcom/example/meterwise/meterwise/model/WholeNumber;" } : Jvm.MethodName) prog_137_method_13_code (2 : Nat) (Option.some (Jvm.ClassFile.FieldType.object "com/example/meterwise/meterwise/model/WholeNumber")), Jvm.Cond.code ({ cls := "com/example/meterwise/meterwise/model/WholeNumber", name := "add", desc := "(Lcom/example/meterwise/meterwise/model/WholeNumber;Z)Lcom/example/meterwise/meterwise/model/WholeNumber;" } : Jvm.MethodName) prog_137_method_14_code (21 : Nat) (Option.some (Jvm.ClassFile.FieldType.object "com/example/meterwise/meterwise/model/WholeNumber")), Jvm.Cond.code ({ cls := "com/example/meterwise/meterwise/model/WholeNumber", name := "overflowed", desc := "()Z" } : Jvm.MethodName) prog_137_method_8_code (1 : Nat) (Option.some Jvm.ClassFile.FieldType.boolean), Jvm.Cond.code ({ cls := "com/example/meterwise/meterwise/model/WholeNumber", name := "top", desc := "()J" } : Jvm.MethodName) prog_137_method_31_code (1 : Nat) (Option.some Jvm.ClassFile.FieldType.long), Jvm.Cond.code ({ cls := "com/example/meterwise/meterwise/model/WholeNumber", name := "zeroBelowTop", desc := "()Z" } : Jvm.MethodName) prog_137_method_10_code (2 : Nat) (Option.some Jvm.ClassFile.FieldType.boolean), Jvm.Cond.code ({ cls := "com/example/meterwise/meterwise/model/WholeNumber", name := "negate", desc := "()Lcom/example/meterwise/meterwise/model/WholeNumber;" } : Jvm.MethodName) prog_137_method_19_code (4 : Nat) (Option.some (Jvm.ClassFile.FieldType.object "com/example/meterwise/meterwise/model/WholeNumber")), Jvm.Cond.code ({ cls := "com/example/meterwise/meterwise/model/WholeNumber", name := "compareTo", desc := "(Lcom/example/meterwise/meterwise/model/WholeNumber;)I" } : Jvm.MethodName) prog_137_method_11_code (8 : Nat) (Option.some Jvm.ClassFile.FieldType.int), Jvm.Cond.code ({ cls := "java/lang/Math", name := "max", desc := "(II)I" } : Jvm.MethodName) jdk_29_method_65_code (2 : Nat) (Option.some Jvm.ClassFile.FieldType.int), Jvm.Cond.code ({ cls := "com/example/meterwise/meterwise/model/WholeNumber", name := "word", desc := "(I)J" } : Jvm.MethodName) prog_137_method_32_code (2 : Nat) (Option.some Jvm.ClassFile.FieldType.long), Jvm.Cond.code ({ cls := "com/example/meterwise/meterwise/model/WholeNumber", name := "add", desc := "(Lcom/example/meterwise/meterwise/model/WholeNumber;)Lcom/example/meterwise/meterwise/model/WholeNumber;" } : Jvm.MethodName) prog_137_method_12_code (2 : Nat) (Option.some (Jvm.ClassFile.FieldType.object "com/example/meterwise/meterwise/model/WholeNumber"))]
set_option maxRecDepth 65536 in
theorem codes_eq : words1.filter isCode = codes1 := rfl
theorem w_codes : ∀ c ∈ words1.filter isCode, c.before args0 about1 = true := by
  rw [codes_eq]
  intro c hc
  simp only [codes1, List.mem_cons, List.not_mem_nil, or_false] at hc
  rcases hc with rfl | rfl | rfl | rfl | rfl | rfl | rfl | rfl | rfl | rfl | rfl | rfl | rfl | rfl | rfl | rfl | rfl | rfl
  · exact w_c0
  · exact w_c1
  · exact w_c2
  · exact w_c3
  · exact w_c4
  · exact w_c5
  · exact w_c6
  · exact w_c7
  · exact w_c8
  · exact w_c9
  · exact w_c10
  · exact w_c11
  · exact w_c12
  · exact w_c13
  · exact w_c14
  · exact w_c15
  · exact w_c16
  · exact w_c17
set_option maxRecDepth 65536 in
theorem w_t1 : (words1.take 24).all (fun c => isCode c || c.before args0 about1) = true := by decide +kernel
set_option maxRecDepth 65536 in
theorem w_t2 : ((words1.drop 24).take 24).all (fun c => isCode c || c.before args0 about1) = true := by decide +kernel
set_option maxRecDepth 65536 in
theorem w_t3 : (((words1.drop 24).drop 24).take 24).all (fun c => isCode c || c.before args0 about1) = true := by decide +kernel
set_option maxRecDepth 65536 in
theorem w_t4 : (((words1.drop 24).drop 24).drop 24).all (fun c => isCode c || c.before args0 about1) = true := by decide +kernel
theorem w_tables : (allAtoms (Jvm.Cond.code x code maxLocals ret :: tables_1)).before args0 about1 = true := by
  rw [allAtoms_all]
  show words1.all (fun c => c.before args0 about1) = true
  refine all_split ?_ w_codes
  rw [← List.take_append_drop 24 words1, List.all_append, w_t1, ← List.take_append_drop 24 (words1.drop 24), List.all_append, w_t2, ← List.take_append_drop 24 ((words1.drop 24).drop 24), List.all_append, w_t3, w_t4]
  rfl
set_option maxRecDepth 65536 in
theorem w_case : (Jvm.Cond.and given_1 narrow_1).before args0 about1 = true := by decide +kernel
theorem w_applies : (headSpec (Jvm.Cond.code x code maxLocals ret :: tables_1) room_1).applies x e0.platform about1 = true :=
  (Spec.applies_iff w_frames).mpr ⟨w_running, w_runnable, w_alone, w_named, w_hears, w_ripe, w_room, w_tables⟩
theorem atStart : AtStart classFile x code maxLocals ret World_1 tables_1 room_1 Calls_1 rest_1 Pre_1 launch0 p0 e0 about1 theMethod args0 below0 :=
  ⟨lists_1, trivial, launch0.admits_env _ _ _, launch0.least_env, fairChoices_fair.cas, fairChoices_fair.clock, w_frames, w_args, w_heap, w_applies, trivial, trivial, w_case⟩
end start1
theorem witness_1 : WitnessClaimed_1 := ⟨start1.p0, start1.e0, start1.about1, start1.theMethod, start1.args0, start1.below0, start1.atStart⟩
end Jvm.Pilot.@@N@@
