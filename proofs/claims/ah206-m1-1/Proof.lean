import JvmDerived
import JvmDerived.Pilot.@@N@@Statement
import JvmDerived.Pilot.@@N@@Code
set_option linter.unusedVariables false
set_option linter.unusedSimpArgs false
namespace Jvm.OwnWk
open Sem ClassFile Op Lib Jvm.Stand Jvm.Free Jvm.LawKit Jvm.RoadKit
def Sd (Z : State) (own : String) (bs : ByteArray) (mx : Nat) (ret : Option FieldType) (n0 : Nat) (p : Program) (l : Launch) (e : Env) (R : Room) (s : State) (m : MethodId) (args : Array Value) (below : List Frame) (meth : Method) (c : Code) (T : State) (h : Heap) (k n : Nat) : Prop :=
  ∃ locs, Stand p l e R s m args below meth c T locs k n ∧ T.heap = h ∧ Fr n0 locs ∧ n0 ≤ s.heap.size ∧ p.tables.exec = Jvm.exec ∧ Z.Warmed39 s.vm ∧ s.vm.findClass own = some m.cls ∧ c.code = bs ∧ c.maxLocals = mx ∧ meth.sig.returnType = ret ∧ meth.locks = false
def Gl (p : Program) (e : Env) (below : List Frame) (P : Outcome → State → Prop) (A : State) : Prop := ∃ t o, Steps p.tables e below A t ∧ t.status = .running ∧ Ended t below o ∧ P o t
def Pst (s : State) (n0 K N : Nat) (Q : Option Value → Heap → Prop) (o : Outcome) (t : State) : Prop := ∃ v L, o = .returned v ∧ (Q v t.heap ∧ Fr n0 L) ∧ FrameEnd s o t L K N
def OMet (l : Launch) (Z : State) (ws : List Jvm.Cond) (y : MethodName) (bs : ByteArray) (mx : Nat) (ret : Option FieldType) (rm : Room) (as : Array Value) (h : Heap) (n0 : Nat) (Q : Option Value → Heap → Prop) : Prop :=
  MetFree l y (head1 (Jvm.Cond.code y bs mx ret :: ws) rm) (fun a U => a = as ∧ Z.Warmed39 U.vm ∧ U.heap = h) (fun _ _ _ _ _ => True) (fun _ U o U' => ∃ v L, o = .returned v ∧ (Q v U'.heap ∧ Fr n0 L) ∧ FrameEnd U o U' L rm.cells rm.slots)
section Kit
variable {Z : State} {own : String} {bs : ByteArray} {mx : Nat} {ret : Option FieldType} {n0 : Nat} {p : Program} {l : Launch} {e : Env} {R : Room} {s : State} {m : MethodId} {args : Array Value} {below : List Frame} {meth : Method} {c : Code} {T : State} {h : Heap} {k n : Nat} {P : Outcome → State → Prop} {L : Array Slot} {S : List Value} {pc pc' pcT pcF : Nat} {a0 : Array Value} {t : FieldType}
theorem Gl.of1 {A B : State} (f : ∀ t, Steps p.tables e below B t → Steps p.tables e below A t) (q : Gl p e below P B) : Gl p e below P A := by
  obtain ⟨t, o, h1, h2⟩ := q
  exact ⟨t, o, f t h1, h2⟩
theorem Gl.via {A B : State} (f : Steps p.tables e below A B) (q : Gl p e below P B) : Gl p e below P A := by
  obtain ⟨t, o, h1, h2⟩ := q
  exact ⟨t, o, f.trans h1, h2⟩
theorem OMet.of {ws : List Jvm.Cond} {y : MethodName} {rm : Room} {as : Array Value} {Q : Option Value → Heap → Prop} (hpl : plainFor y = true) (hef : ∀ m, entryFrame m as mx = mkF m 0 L []) (hn : n0 ≤ h.size)
    (body : ∀ p e s m below meth c T, Sd Z y.cls bs mx ret n0 p l e rm s m as below meth c T h 0 0 → meth.name = y.name → Gl p e below (Pst s n0 rm.cells rm.slots Q) (T.setTop (mkF m 0 L []))) : OMet l Z ws y bs mx ret rm as h n0 Q := by
  refine MetFree.of_bodySF hpl hisR ?_
  intro p e s m args below meth c s₁ Bd hml0 hP hK
  obtain ⟨rfl, hZ, hh⟩ := hP
  have e0 : s₁.heap = h := by rw [← hh, Bd.state]; rfl
  obtain ⟨t, o, h1, h2, h3, h4⟩ := body p e s m below meth c s₁ ⟨[], Stand.of_body Bd, e0, Fr.nil n0, by rw [hh]; exact hn, Bd.exec, hZ, findClass_of_methodNamed Bd.named, Bd.bytes, hml0, Bd.returns, Bd.notSynchronized⟩ (name_of_methodNamed Bd.named Bd.method).1
  exact ⟨t, o, castTop (hef m) h1, h2, h3, h4⟩

theorem own_grow {T' : State} {locs' : List Loc} {k' n' : Nat} (X : Stand p l e R s m args below meth c T' locs' k' n') : s.heap.size ≤ T'.heap.size := X.same.2.1
theorem own_eqI {args : Array Value} {Z : State} {t : Term} {v : Int32} (q : (Jvm.Cond.eq t (.int v)).value args Z none Z [] = some true) : t.eval args Z none [] Z = some (.int v) := by
  simp only [Cond.value, Term.eval] at q
  cases ht : t.eval args Z none [] Z with
  | none => simp [ht] at q
  | some w => cases w <;> simp [ht] at q ⊢ <;> exact q
theorem own_ite {c A B : Prop} [Decidable c] (h1 : c → A) (h2 : ¬ c → B) : A ∨ B := if q : c then Or.inl (h1 q) else Or.inr (h2 q)
theorem own_cut {A B : Prop} (f : B → A) (b : B) : A := f b
theorem Sd.sz (Y : Sd Z own bs mx ret n0 p l e R s m args below meth c T h k n) : n0 ≤ h.size := by
  obtain ⟨locs, X, eT, N, hn0, hx, hZ, hown, hby, hml, hrt, hlk⟩ := Y
  exact eT ▸ Nat.le_trans hn0 (own_grow X)
theorem own_narB {a v : Int32} (h : a.toInt8.toInt32 = v) : nar .byte v = v := by subst h; simp [nar]
theorem own_narC {a v : Int32} (h : a.toUInt32.toUInt16.toUInt32.toInt32 = v) : nar .char v = v := by subst h; have q := Jvm.Free.XT.narrow_c a; exact Value.int.inj q
theorem own_narS {a v : Int32} (h : a.toInt16.toInt32 = v) : nar .short v = v := by subst h; simp [nar]
theorem own_c3 {v : Int32} (h0 : 0 ≤ v.toInt) (h : v.toInt ≤ 3) : v = 0 ∨ v = 1 ∨ v = 2 ∨ v = 3 := by
  have : v.toInt = 0 ∨ v.toInt = 1 ∨ v.toInt = 2 ∨ v.toInt = 3 := by omega
  rcases this with q | q | q | q <;> simp [← Int32.toInt_inj, q]
theorem own_c4 {v : Int32} (h0 : 0 ≤ v.toInt) (h : v.toInt ≤ 4) : v = 0 ∨ v = 1 ∨ v = 2 ∨ v = 3 ∨ v = 4 := by
  have : v.toInt = 0 ∨ v.toInt = 1 ∨ v.toInt = 2 ∨ v.toInt = 3 ∨ v.toInt = 4 := by omega
  rcases this with q | q | q | q | q <;> simp [← Int32.toInt_inj, q]
theorem own_c5 {v : Int32} (h0 : 0 ≤ v.toInt) (h : v.toInt ≤ 5) : v = 0 ∨ v = 1 ∨ v = 2 ∨ v = 3 ∨ v = 4 ∨ v = 5 := by
  have : v.toInt = 0 ∨ v.toInt = 1 ∨ v.toInt = 2 ∨ v.toInt = 3 ∨ v.toInt = 4 ∨ v.toInt = 5 := by omega
  rcases this with q | q | q | q | q | q <;> simp [← Int32.toInt_inj, q]
theorem own_narR {t : FieldType} {x : Value} (q : x.isRef = true) : narrow t x = x := by rcases ref_cases q with rfl | ⟨z, rfl⟩ <;> cases t <;> rfl
theorem OMet.un {l : Launch} {Z : State} {ws : List Jvm.Cond} {y : MethodName} {bs : ByteArray} {mx : Nat} {ret : Option FieldType} {rm : Room} {as : Array Value} {h : Heap} {n0 : Nat} {Q : Option Value → Heap → Prop} (q : OMet l Z ws y bs mx ret rm as h n0 Q) :
  MetFree l y (head1 (Jvm.Cond.code y bs mx ret :: ws) rm) (fun a U => a = as ∧ Z.Warmed39 U.vm ∧ U.heap = h) (fun _ _ _ _ _ => True) (fun _ U o U' => ∃ v L, o = .returned v ∧ (fun v h' L => Q v h' ∧ Fr n0 L) v U'.heap L ∧ FrameEnd U o U' L rm.cells rm.slots) := q
theorem own_not64 (x : Int64) : (x ^^^ (-1)).toInt = -x.toInt - 1 := by
  have h1 : x ^^^ (-1) = ~~~x := by
    apply Int64.toBitVec_inj.mp
    rw [Int64.toBitVec_xor, Int64.toBitVec_not]
    exact BitVec.xor_allOnes
  rw [h1, Int64.not_eq_neg_sub]
  have q := c_lsub (-x) 1
  have r := c_lneg x
  have n1 := rng64 (-x - 1)
  have n2 := rng64 (-x)
  have n3 := rng64 x
  simp only [Int64.reduceToInt] at q
  omega
theorem own_narZ {x : Int32} (q : x = 0 ∨ x = 1) : nar .boolean x = x := by rcases q with rfl | rfl <;> rfl
theorem own_nZ {x : Int32} (q : x = 0 ∨ x = 1) : narrow .boolean (.int x) = .int x := by rcases q with rfl | rfl <;> rfl
theorem own_fZ {x : Int32} (q : x = 0 ∨ x = 1) : fits .boolean (.int x) = true := by rcases q with rfl | rfl <;> rfl
theorem Gl.iadd (Y : Sd Z own bs mx ret n0 p l e R s m args below meth c T h k n) {x y : Int32} {r : Int32} (hr : x + y = r) (hd : decode bs pc = .ok (.iadd, 1)) (hp : pc + 1 = pc') (q : Gl p e below P (T.setTop (mkF m pc' L (.int r :: S)))) : Gl p e below P (T.setTop (mkF m pc L (.int y :: .int x :: S))) := by
  obtain ⟨locs, X, eT, N, hn0, hx, hZ, hown, hby, hml, hrt, hlk⟩ := Y
  subst hp hr
  exact q.of1 fun t q => XS.iadd X.here hx rfl (hb hby hd) rfl q
theorem Gl.isub (Y : Sd Z own bs mx ret n0 p l e R s m args below meth c T h k n) {x y : Int32} {r : Int32} (hr : x - y = r) (hd : decode bs pc = .ok (.isub, 1)) (hp : pc + 1 = pc') (q : Gl p e below P (T.setTop (mkF m pc' L (.int r :: S)))) : Gl p e below P (T.setTop (mkF m pc L (.int y :: .int x :: S))) := by
  obtain ⟨locs, X, eT, N, hn0, hx, hZ, hown, hby, hml, hrt, hlk⟩ := Y
  subst hp hr
  exact q.of1 fun t q => XS.isub X.here hx rfl (hb hby hd) rfl q
theorem Gl.imul (Y : Sd Z own bs mx ret n0 p l e R s m args below meth c T h k n) {x y : Int32} {r : Int32} (hr : x * y = r) (hd : decode bs pc = .ok (.imul, 1)) (hp : pc + 1 = pc') (q : Gl p e below P (T.setTop (mkF m pc' L (.int r :: S)))) : Gl p e below P (T.setTop (mkF m pc L (.int y :: .int x :: S))) := by
  obtain ⟨locs, X, eT, N, hn0, hx, hZ, hown, hby, hml, hrt, hlk⟩ := Y
  subst hp hr
  exact q.of1 fun t q => XS.imul X.here hx rfl (hb hby hd) rfl q
theorem Gl.iand (Y : Sd Z own bs mx ret n0 p l e R s m args below meth c T h k n) {x y : Int32} {r : Int32} (hr : x &&& y = r) (hd : decode bs pc = .ok (.iand, 1)) (hp : pc + 1 = pc') (q : Gl p e below P (T.setTop (mkF m pc' L (.int r :: S)))) : Gl p e below P (T.setTop (mkF m pc L (.int y :: .int x :: S))) := by
  obtain ⟨locs, X, eT, N, hn0, hx, hZ, hown, hby, hml, hrt, hlk⟩ := Y
  subst hp hr
  exact q.of1 fun t q => XS.iand X.here hx rfl (hb hby hd) rfl q
theorem Gl.ior (Y : Sd Z own bs mx ret n0 p l e R s m args below meth c T h k n) {x y : Int32} {r : Int32} (hr : x ||| y = r) (hd : decode bs pc = .ok (.ior, 1)) (hp : pc + 1 = pc') (q : Gl p e below P (T.setTop (mkF m pc' L (.int r :: S)))) : Gl p e below P (T.setTop (mkF m pc L (.int y :: .int x :: S))) := by
  obtain ⟨locs, X, eT, N, hn0, hx, hZ, hown, hby, hml, hrt, hlk⟩ := Y
  subst hp hr
  exact q.of1 fun t q => XS.ior X.here hx rfl (hb hby hd) rfl q
theorem Gl.ixor (Y : Sd Z own bs mx ret n0 p l e R s m args below meth c T h k n) {x y : Int32} {r : Int32} (hr : x ^^^ y = r) (hd : decode bs pc = .ok (.ixor, 1)) (hp : pc + 1 = pc') (q : Gl p e below P (T.setTop (mkF m pc' L (.int r :: S)))) : Gl p e below P (T.setTop (mkF m pc L (.int y :: .int x :: S))) := by
  obtain ⟨locs, X, eT, N, hn0, hx, hZ, hown, hby, hml, hrt, hlk⟩ := Y
  subst hp hr
  exact q.of1 fun t q => XS.ixor X.here hx rfl (hb hby hd) rfl q
theorem Gl.ishl (Y : Sd Z own bs mx ret n0 p l e R s m args below meth c T h k n) {x y : Int32} {r : Int32} (hr : x <<< (y &&& 31) = r) (hd : decode bs pc = .ok (.ishl, 1)) (hp : pc + 1 = pc') (q : Gl p e below P (T.setTop (mkF m pc' L (.int r :: S)))) : Gl p e below P (T.setTop (mkF m pc L (.int y :: .int x :: S))) := by
  obtain ⟨locs, X, eT, N, hn0, hx, hZ, hown, hby, hml, hrt, hlk⟩ := Y
  subst hp hr
  exact q.of1 fun t q => XS.ishl X.here hx rfl (hb hby hd) rfl q
theorem Gl.ishr (Y : Sd Z own bs mx ret n0 p l e R s m args below meth c T h k n) {x y : Int32} {r : Int32} (hr : x >>> (y &&& 31) = r) (hd : decode bs pc = .ok (.ishr, 1)) (hp : pc + 1 = pc') (q : Gl p e below P (T.setTop (mkF m pc' L (.int r :: S)))) : Gl p e below P (T.setTop (mkF m pc L (.int y :: .int x :: S))) := by
  obtain ⟨locs, X, eT, N, hn0, hx, hZ, hown, hby, hml, hrt, hlk⟩ := Y
  subst hp hr
  exact q.of1 fun t q => XS.ishr X.here hx rfl (hb hby hd) rfl q
theorem Gl.iushr (Y : Sd Z own bs mx ret n0 p l e R s m args below meth c T h k n) {x y : Int32} {r : Int32} (hr : (x.toUInt32 >>> (y &&& 31).toUInt32).toInt32 = r) (hd : decode bs pc = .ok (.iushr, 1)) (hp : pc + 1 = pc') (q : Gl p e below P (T.setTop (mkF m pc' L (.int r :: S)))) : Gl p e below P (T.setTop (mkF m pc L (.int y :: .int x :: S))) := by
  obtain ⟨locs, X, eT, N, hn0, hx, hZ, hown, hby, hml, hrt, hlk⟩ := Y
  subst hp hr
  exact q.of1 fun t q => XS.iushr X.here hx rfl (hb hby hd) rfl q
theorem Gl.ladd (Y : Sd Z own bs mx ret n0 p l e R s m args below meth c T h k n) {x y : Int64} {r : Int64} (hr : x + y = r) (hd : decode bs pc = .ok (.ladd, 1)) (hp : pc + 1 = pc') (q : Gl p e below P (T.setTop (mkF m pc' L (.long r :: S)))) : Gl p e below P (T.setTop (mkF m pc L (.long y :: .long x :: S))) := by
  obtain ⟨locs, X, eT, N, hn0, hx, hZ, hown, hby, hml, hrt, hlk⟩ := Y
  subst hp hr
  exact q.of1 fun t q => XS.ladd X.here hx rfl (hb hby hd) rfl q
theorem Gl.lsub (Y : Sd Z own bs mx ret n0 p l e R s m args below meth c T h k n) {x y : Int64} {r : Int64} (hr : x - y = r) (hd : decode bs pc = .ok (.lsub, 1)) (hp : pc + 1 = pc') (q : Gl p e below P (T.setTop (mkF m pc' L (.long r :: S)))) : Gl p e below P (T.setTop (mkF m pc L (.long y :: .long x :: S))) := by
  obtain ⟨locs, X, eT, N, hn0, hx, hZ, hown, hby, hml, hrt, hlk⟩ := Y
  subst hp hr
  exact q.of1 fun t q => XS.lsub X.here hx rfl (hb hby hd) rfl q
theorem Gl.lmul (Y : Sd Z own bs mx ret n0 p l e R s m args below meth c T h k n) {x y : Int64} {r : Int64} (hr : x * y = r) (hd : decode bs pc = .ok (.lmul, 1)) (hp : pc + 1 = pc') (q : Gl p e below P (T.setTop (mkF m pc' L (.long r :: S)))) : Gl p e below P (T.setTop (mkF m pc L (.long y :: .long x :: S))) := by
  obtain ⟨locs, X, eT, N, hn0, hx, hZ, hown, hby, hml, hrt, hlk⟩ := Y
  subst hp hr
  exact q.of1 fun t q => XS.lmul X.here hx rfl (hb hby hd) rfl q
theorem Gl.land (Y : Sd Z own bs mx ret n0 p l e R s m args below meth c T h k n) {x y : Int64} {r : Int64} (hr : x &&& y = r) (hd : decode bs pc = .ok (.land, 1)) (hp : pc + 1 = pc') (q : Gl p e below P (T.setTop (mkF m pc' L (.long r :: S)))) : Gl p e below P (T.setTop (mkF m pc L (.long y :: .long x :: S))) := by
  obtain ⟨locs, X, eT, N, hn0, hx, hZ, hown, hby, hml, hrt, hlk⟩ := Y
  subst hp hr
  exact q.of1 fun t q => XS.land X.here hx rfl (hb hby hd) rfl q
theorem Gl.lor (Y : Sd Z own bs mx ret n0 p l e R s m args below meth c T h k n) {x y : Int64} {r : Int64} (hr : x ||| y = r) (hd : decode bs pc = .ok (.lor, 1)) (hp : pc + 1 = pc') (q : Gl p e below P (T.setTop (mkF m pc' L (.long r :: S)))) : Gl p e below P (T.setTop (mkF m pc L (.long y :: .long x :: S))) := by
  obtain ⟨locs, X, eT, N, hn0, hx, hZ, hown, hby, hml, hrt, hlk⟩ := Y
  subst hp hr
  exact q.of1 fun t q => XS.lor X.here hx rfl (hb hby hd) rfl q
theorem Gl.lxor (Y : Sd Z own bs mx ret n0 p l e R s m args below meth c T h k n) {x y : Int64} {r : Int64} (hr : x ^^^ y = r) (hd : decode bs pc = .ok (.lxor, 1)) (hp : pc + 1 = pc') (q : Gl p e below P (T.setTop (mkF m pc' L (.long r :: S)))) : Gl p e below P (T.setTop (mkF m pc L (.long y :: .long x :: S))) := by
  obtain ⟨locs, X, eT, N, hn0, hx, hZ, hown, hby, hml, hrt, hlk⟩ := Y
  subst hp hr
  exact q.of1 fun t q => XS.lxor X.here hx rfl (hb hby hd) rfl q
theorem Gl.lshl (Y : Sd Z own bs mx ret n0 p l e R s m args below meth c T h k n) {x : Int64} {y : Int32} {r : Int64} (hr : x <<< (y &&& 0x3f).toInt64 = r) (hd : decode bs pc = .ok (.lshl, 1)) (hp : pc + 1 = pc') (q : Gl p e below P (T.setTop (mkF m pc' L (.long r :: S)))) : Gl p e below P (T.setTop (mkF m pc L (.int y :: .long x :: S))) := by
  obtain ⟨locs, X, eT, N, hn0, hx, hZ, hown, hby, hml, hrt, hlk⟩ := Y
  subst hp hr
  exact q.of1 fun t q => XS.lshl X.here hx rfl (hb hby hd) rfl q
theorem Gl.lshr (Y : Sd Z own bs mx ret n0 p l e R s m args below meth c T h k n) {x : Int64} {y : Int32} {r : Int64} (hr : x >>> (y &&& 0x3f).toInt64 = r) (hd : decode bs pc = .ok (.lshr, 1)) (hp : pc + 1 = pc') (q : Gl p e below P (T.setTop (mkF m pc' L (.long r :: S)))) : Gl p e below P (T.setTop (mkF m pc L (.int y :: .long x :: S))) := by
  obtain ⟨locs, X, eT, N, hn0, hx, hZ, hown, hby, hml, hrt, hlk⟩ := Y
  subst hp hr
  exact q.of1 fun t q => XS.lshr X.here hx rfl (hb hby hd) rfl q
theorem Gl.lushr (Y : Sd Z own bs mx ret n0 p l e R s m args below meth c T h k n) {x : Int64} {y : Int32} {r : Int64} (hr : (x.toUInt64 >>> (y &&& 0x3f).toInt64.toUInt64).toInt64 = r) (hd : decode bs pc = .ok (.lushr, 1)) (hp : pc + 1 = pc') (q : Gl p e below P (T.setTop (mkF m pc' L (.long r :: S)))) : Gl p e below P (T.setTop (mkF m pc L (.int y :: .long x :: S))) := by
  obtain ⟨locs, X, eT, N, hn0, hx, hZ, hown, hby, hml, hrt, hlk⟩ := Y
  subst hp hr
  exact q.of1 fun t q => XS.lushr X.here hx rfl (hb hby hd) rfl q
theorem Gl.idiv (Y : Sd Z own bs mx ret n0 p l e R s m args below meth c T h k n) {x y : Int32} (hy : y ≠ 0) {r : Int32} (hr : x / y = r) (hd : decode bs pc = .ok (.idiv, 1)) (hp : pc + 1 = pc') (q : Gl p e below P (T.setTop (mkF m pc' L (.int r :: S)))) : Gl p e below P (T.setTop (mkF m pc L (.int y :: .int x :: S))) := by
  obtain ⟨locs, X, eT, N, hn0, hx, hZ, hown, hby, hml, hrt, hlk⟩ := Y
  subst hp hr
  exact q.of1 fun t q => XS.idiv X.here hx rfl (hb hby hd) rfl hy q
theorem Gl.irem (Y : Sd Z own bs mx ret n0 p l e R s m args below meth c T h k n) {x y : Int32} (hy : y ≠ 0) {r : Int32} (hr : x % y = r) (hd : decode bs pc = .ok (.irem, 1)) (hp : pc + 1 = pc') (q : Gl p e below P (T.setTop (mkF m pc' L (.int r :: S)))) : Gl p e below P (T.setTop (mkF m pc L (.int y :: .int x :: S))) := by
  obtain ⟨locs, X, eT, N, hn0, hx, hZ, hown, hby, hml, hrt, hlk⟩ := Y
  subst hp hr
  exact q.of1 fun t q => iremM X hx rfl (hb hby hd) rfl hy q
theorem Gl.ldiv (Y : Sd Z own bs mx ret n0 p l e R s m args below meth c T h k n) {x y : Int64} (hy : y ≠ 0) {r : Int64} (hr : x / y = r) (hd : decode bs pc = .ok (.ldiv, 1)) (hp : pc + 1 = pc') (q : Gl p e below P (T.setTop (mkF m pc' L (.long r :: S)))) : Gl p e below P (T.setTop (mkF m pc L (.long y :: .long x :: S))) := by
  obtain ⟨locs, X, eT, N, hn0, hx, hZ, hown, hby, hml, hrt, hlk⟩ := Y
  subst hp hr
  exact q.of1 fun t q => XS.ldiv X.here hx rfl (hb hby hd) rfl hy q
theorem Gl.lrem (Y : Sd Z own bs mx ret n0 p l e R s m args below meth c T h k n) {x y : Int64} (hy : y ≠ 0) {r : Int64} (hr : x % y = r) (hd : decode bs pc = .ok (.lrem, 1)) (hp : pc + 1 = pc') (q : Gl p e below P (T.setTop (mkF m pc' L (.long r :: S)))) : Gl p e below P (T.setTop (mkF m pc L (.long y :: .long x :: S))) := by
  obtain ⟨locs, X, eT, N, hn0, hx, hZ, hown, hby, hml, hrt, hlk⟩ := Y
  subst hp hr
  exact q.of1 fun t q => XS.lrem X.here hx rfl (hb hby hd) rfl hy (by rw [lrem_mod]; exact q)
theorem Gl.ineg (Y : Sd Z own bs mx ret n0 p l e R s m args below meth c T h k n) {x : Int32} {r : Int32} (hr : -x = r) (hd : decode bs pc = .ok (.ineg, 1)) (hp : pc + 1 = pc') (q : Gl p e below P (T.setTop (mkF m pc' L (.int r :: S)))) : Gl p e below P (T.setTop (mkF m pc L (.int x :: S))) := by
  obtain ⟨locs, X, eT, N, hn0, hx, hZ, hown, hby, hml, hrt, hlk⟩ := Y
  subst hp hr
  exact q.of1 fun t q => XS.ineg X.here hx rfl (hb hby hd) rfl q
theorem Gl.lneg (Y : Sd Z own bs mx ret n0 p l e R s m args below meth c T h k n) {x : Int64} {r : Int64} (hr : -x = r) (hd : decode bs pc = .ok (.lneg, 1)) (hp : pc + 1 = pc') (q : Gl p e below P (T.setTop (mkF m pc' L (.long r :: S)))) : Gl p e below P (T.setTop (mkF m pc L (.long x :: S))) := by
  obtain ⟨locs, X, eT, N, hn0, hx, hZ, hown, hby, hml, hrt, hlk⟩ := Y
  subst hp hr
  exact q.of1 fun t q => XS.lneg X.here hx rfl (hb hby hd) rfl q
theorem Gl.i2b (Y : Sd Z own bs mx ret n0 p l e R s m args below meth c T h k n) {x : Int32} {r : Int32} (hr : x.toInt8.toInt32 = r) (hd : decode bs pc = .ok (.i2b, 1)) (hp : pc + 1 = pc') (q : Gl p e below P (T.setTop (mkF m pc' L (.int r :: S)))) : Gl p e below P (T.setTop (mkF m pc L (.int x :: S))) := by
  obtain ⟨locs, X, eT, N, hn0, hx, hZ, hown, hby, hml, hrt, hlk⟩ := Y
  subst hp hr
  exact q.of1 fun t q => XS.i2b X.here hx rfl (hb hby hd) rfl q
theorem Gl.i2c (Y : Sd Z own bs mx ret n0 p l e R s m args below meth c T h k n) {x : Int32} {r : Int32} (hr : x.toUInt32.toUInt16.toUInt32.toInt32 = r) (hd : decode bs pc = .ok (.i2c, 1)) (hp : pc + 1 = pc') (q : Gl p e below P (T.setTop (mkF m pc' L (.int r :: S)))) : Gl p e below P (T.setTop (mkF m pc L (.int x :: S))) := by
  obtain ⟨locs, X, eT, N, hn0, hx, hZ, hown, hby, hml, hrt, hlk⟩ := Y
  subst hp hr
  exact q.of1 fun t q => XS.i2c X.here hx rfl (hb hby hd) rfl q
theorem Gl.i2s (Y : Sd Z own bs mx ret n0 p l e R s m args below meth c T h k n) {x : Int32} {r : Int32} (hr : x.toInt16.toInt32 = r) (hd : decode bs pc = .ok (.i2s, 1)) (hp : pc + 1 = pc') (q : Gl p e below P (T.setTop (mkF m pc' L (.int r :: S)))) : Gl p e below P (T.setTop (mkF m pc L (.int x :: S))) := by
  obtain ⟨locs, X, eT, N, hn0, hx, hZ, hown, hby, hml, hrt, hlk⟩ := Y
  subst hp hr
  exact q.of1 fun t q => XS.i2s X.here hx rfl (hb hby hd) rfl q
theorem Gl.i2l (Y : Sd Z own bs mx ret n0 p l e R s m args below meth c T h k n) {x : Int32} {r : Int64} (hr : x.toInt64 = r) (hd : decode bs pc = .ok (.i2l, 1)) (hp : pc + 1 = pc') (q : Gl p e below P (T.setTop (mkF m pc' L (.long r :: S)))) : Gl p e below P (T.setTop (mkF m pc L (.int x :: S))) := by
  obtain ⟨locs, X, eT, N, hn0, hx, hZ, hown, hby, hml, hrt, hlk⟩ := Y
  subst hp hr
  exact q.of1 fun t q => XS.i2l X.here hx rfl (hb hby hd) rfl q
theorem Gl.l2i (Y : Sd Z own bs mx ret n0 p l e R s m args below meth c T h k n) {x : Int64} {r : Int32} (hr : x.toInt32 = r) (hd : decode bs pc = .ok (.l2i, 1)) (hp : pc + 1 = pc') (q : Gl p e below P (T.setTop (mkF m pc' L (.int r :: S)))) : Gl p e below P (T.setTop (mkF m pc L (.long x :: S))) := by
  obtain ⟨locs, X, eT, N, hn0, hx, hZ, hown, hby, hml, hrt, hlk⟩ := Y
  subst hp hr
  exact q.of1 fun t q => XS.l2i X.here hx rfl (hb hby hd) rfl q
theorem Gl.iconst (Y : Sd Z own bs mx ret n0 p l e R s m args below meth c T h k n) {i : Int} {v : Int32} (hv : Int32.ofInt i = v) (hd : decode bs pc = .ok (.iconst i, 1)) (hp : pc + 1 = pc') (q : Gl p e below P (T.setTop (mkF m pc' L (.int v :: S)))) : Gl p e below P (T.setTop (mkF m pc L S)) := by
  obtain ⟨locs, X, eT, N, hn0, hx, hZ, hown, hby, hml, hrt, hlk⟩ := Y
  subst hp
  exact q.of1 fun t q => XS.iconst X.here hx rfl (hb hby hd) (by rw [hv]; exact q)
theorem Gl.bipush (Y : Sd Z own bs mx ret n0 p l e R s m args below meth c T h k n) {i : Int} {v : Int32} (hv : (Int8.ofInt i).toInt32 = v) (hd : decode bs pc = .ok (.bipush i, 2)) (hp : pc + 2 = pc') (q : Gl p e below P (T.setTop (mkF m pc' L (.int v :: S)))) : Gl p e below P (T.setTop (mkF m pc L S)) := by
  obtain ⟨locs, X, eT, N, hn0, hx, hZ, hown, hby, hml, hrt, hlk⟩ := Y
  subst hp
  exact q.of1 fun t q => XS.bipush X.here hx rfl (hb hby hd) (by rw [hv]; exact q)
theorem Gl.sipush (Y : Sd Z own bs mx ret n0 p l e R s m args below meth c T h k n) {i : Int} {v : Int32} (hv : (Int16.ofInt i).toInt32 = v) (hd : decode bs pc = .ok (.sipush i, 3)) (hp : pc + 3 = pc') (q : Gl p e below P (T.setTop (mkF m pc' L (.int v :: S)))) : Gl p e below P (T.setTop (mkF m pc L S)) := by
  obtain ⟨locs, X, eT, N, hn0, hx, hZ, hown, hby, hml, hrt, hlk⟩ := Y
  subst hp
  exact q.of1 fun t q => XS.sipush X.here hx rfl (hb hby hd) (by rw [hv]; exact q)
theorem Gl.lconst (Y : Sd Z own bs mx ret n0 p l e R s m args below meth c T h k n) {i : Fin 2} {v : Int64} (hv : Int64.ofNat i = v) (hd : decode bs pc = .ok (.lconst i, 1)) (hp : pc + 1 = pc') (q : Gl p e below P (T.setTop (mkF m pc' L (.long v :: S)))) : Gl p e below P (T.setTop (mkF m pc L S)) := by
  obtain ⟨locs, X, eT, N, hn0, hx, hZ, hown, hby, hml, hrt, hlk⟩ := Y
  subst hp
  exact q.of1 fun t q => XS.lconst X.here hx rfl (hb hby hd) (by rw [hv]; exact q)
theorem Gl.aconstNull (Y : Sd Z own bs mx ret n0 p l e R s m args below meth c T h k n)  (hd : decode bs pc = .ok (.aconst_null, 1)) (hp : pc + 1 = pc') (q : Gl p e below P (T.setTop (mkF m pc' L (.null :: S)))) : Gl p e below P (T.setTop (mkF m pc L S)) := by
  obtain ⟨locs, X, eT, N, hn0, hx, hZ, hown, hby, hml, hrt, hlk⟩ := Y
  subst hp
  exact q.of1 fun t q => XS.aconstNull X.here hx rfl (hb hby hd) q
theorem Gl.ldcI (Y : Sd Z own bs mx ret n0 p l e R s m args below meth c T h k n) {i : Nat} {v : Int32} (w : (Jvm.Cond.constant own i v).before a0 Z = true) (hd : decode bs pc = .ok (.ldc i, 2)) (hp : pc + 2 = pc') (q : Gl p e below P (T.setTop (mkF m pc' L (.int v :: S)))) : Gl p e below P (T.setTop (mkF m pc L S)) := by
  obtain ⟨locs, X, eT, N, hn0, hx, hZ, hown, hby, hml, hrt, hlk⟩ := Y
  subst hp
  exact q.of1 fun t q => X.ldcInt hx hown (mvT hZ w) (g := mkF m pc L S) rfl (hb hby hd) t q
theorem Gl.ldcWI (Y : Sd Z own bs mx ret n0 p l e R s m args below meth c T h k n) {i : Nat} {v : Int32} (w : (Jvm.Cond.constant own i v).before a0 Z = true) (hd : decode bs pc = .ok (.ldc_w i, 3)) (hp : pc + 3 = pc') (q : Gl p e below P (T.setTop (mkF m pc' L (.int v :: S)))) : Gl p e below P (T.setTop (mkF m pc L S)) := by
  obtain ⟨locs, X, eT, N, hn0, hx, hZ, hown, hby, hml, hrt, hlk⟩ := Y
  subst hp
  exact q.of1 fun t q => X.ldcWI hx hown (mvT hZ w) (g := mkF m pc L S) rfl (hb hby hd) q
theorem Gl.ldcJ (Y : Sd Z own bs mx ret n0 p l e R s m args below meth c T h k n) {i : Nat} {v : Int64} (w : (Jvm.Cond.constantLong own i v).before a0 Z = true) (hd : decode bs pc = .ok (.ldc2_w i, 3)) (hp : pc + 3 = pc') (q : Gl p e below P (T.setTop (mkF m pc' L (.long v :: S)))) : Gl p e below P (T.setTop (mkF m pc L S)) := by
  obtain ⟨locs, X, eT, N, hn0, hx, hZ, hown, hby, hml, hrt, hlk⟩ := Y
  subst hp
  exact q.of1 fun t q => X.ldc2Long hx hown (mvT hZ w) (g := mkF m pc L S) rfl (hb hby hd) t q
theorem Gl.ldcD (Y : Sd Z own bs mx ret n0 p l e R s m args below meth c T h k n) {i : Nat} {v : UInt64} (w : (Jvm.Cond.constantDouble own i v).before a0 Z = true) (hd : decode bs pc = .ok (.ldc2_w i, 3)) (hp : pc + 3 = pc') (q : Gl p e below P (T.setTop (mkF m pc' L (.double v :: S)))) : Gl p e below P (T.setTop (mkF m pc L S)) := by
  obtain ⟨locs, X, eT, N, hn0, hx, hZ, hown, hby, hml, hrt, hlk⟩ := Y
  subst hp
  exact q.of1 fun t q => X.ldc2DoubleC hx hown (mvT hZ w) (g := mkF m pc L S) rfl (hb hby hd) t q
theorem Gl.iload (Y : Sd Z own bs mx ret n0 p l e R s m args below meth c T h k n) {i : Nat} {v : Int32} (hl : L[i]? = some (.val (.int v))) (hd : decode bs pc = .ok (.iload i, 2)) (hp : pc + 2 = pc') (q : Gl p e below P (T.setTop (mkF m pc' L (.int v :: S)))) : Gl p e below P (T.setTop (mkF m pc L S)) := by
  obtain ⟨locs, X, eT, N, hn0, hx, hZ, hown, hby, hml, hrt, hlk⟩ := Y
  subst hp
  exact q.of1 fun t q => XS.iload X.here hx rfl (hb hby hd) hl q
theorem Gl.iloadN (Y : Sd Z own bs mx ret n0 p l e R s m args below meth c T h k n) {i : Fin 4} {v : Int32} (hl : L[i.val]? = some (.val (.int v))) (hd : decode bs pc = .ok (.iload_n i, 1)) (hp : pc + 1 = pc') (q : Gl p e below P (T.setTop (mkF m pc' L (.int v :: S)))) : Gl p e below P (T.setTop (mkF m pc L S)) := by
  obtain ⟨locs, X, eT, N, hn0, hx, hZ, hown, hby, hml, hrt, hlk⟩ := Y
  subst hp
  exact q.of1 fun t q => XS.iloadN X.here hx rfl (hb hby hd) hl q
theorem Gl.lload (Y : Sd Z own bs mx ret n0 p l e R s m args below meth c T h k n) {i : Nat} {v : Int64} (hl : L[i]? = some (.val (.long v))) (hd : decode bs pc = .ok (.lload i, 2)) (hp : pc + 2 = pc') (q : Gl p e below P (T.setTop (mkF m pc' L (.long v :: S)))) : Gl p e below P (T.setTop (mkF m pc L S)) := by
  obtain ⟨locs, X, eT, N, hn0, hx, hZ, hown, hby, hml, hrt, hlk⟩ := Y
  subst hp
  exact q.of1 fun t q => XS.lload X.here hx rfl (hb hby hd) hl q
theorem Gl.lloadN (Y : Sd Z own bs mx ret n0 p l e R s m args below meth c T h k n) {i : Fin 4} {v : Int64} (hl : L[i.val]? = some (.val (.long v))) (hd : decode bs pc = .ok (.lload_n i, 1)) (hp : pc + 1 = pc') (q : Gl p e below P (T.setTop (mkF m pc' L (.long v :: S)))) : Gl p e below P (T.setTop (mkF m pc L S)) := by
  obtain ⟨locs, X, eT, N, hn0, hx, hZ, hown, hby, hml, hrt, hlk⟩ := Y
  subst hp
  exact q.of1 fun t q => XS.lloadN X.here hx rfl (hb hby hd) hl q
theorem Gl.dload (Y : Sd Z own bs mx ret n0 p l e R s m args below meth c T h k n) {i : Nat} {v : UInt64} (hl : L[i]? = some (.val (.double v))) (hd : decode bs pc = .ok (.dload i, 2)) (hp : pc + 2 = pc') (q : Gl p e below P (T.setTop (mkF m pc' L (.double v :: S)))) : Gl p e below P (T.setTop (mkF m pc L S)) := by
  obtain ⟨locs, X, eT, N, hn0, hx, hZ, hown, hby, hml, hrt, hlk⟩ := Y
  subst hp
  exact q.of1 fun t q => XS.dload X.here hx rfl (hb hby hd) hl q
theorem Gl.dloadN (Y : Sd Z own bs mx ret n0 p l e R s m args below meth c T h k n) {i : Fin 4} {v : UInt64} (hl : L[i.val]? = some (.val (.double v))) (hd : decode bs pc = .ok (.dload_n i, 1)) (hp : pc + 1 = pc') (q : Gl p e below P (T.setTop (mkF m pc' L (.double v :: S)))) : Gl p e below P (T.setTop (mkF m pc L S)) := by
  obtain ⟨locs, X, eT, N, hn0, hx, hZ, hown, hby, hml, hrt, hlk⟩ := Y
  subst hp
  exact q.of1 fun t q => XS.dloadN X.here hx rfl (hb hby hd) hl q
theorem Gl.dconst0 (Y : Sd Z own bs mx ret n0 p l e R s m args below meth c T h k n)  (hd : decode bs pc = .ok (.dconst 0, 1)) (hp : pc + 1 = pc') (q : Gl p e below P (T.setTop (mkF m pc' L (.double FP.dconst0 :: S)))) : Gl p e below P (T.setTop (mkF m pc L S)) := by
  obtain ⟨locs, X, eT, N, hn0, hx, hZ, hown, hby, hml, hrt, hlk⟩ := Y
  subst hp
  exact q.of1 fun t q => XS.dconst0 X.here hx rfl (hb hby hd) rfl q
theorem Gl.dconst1 (Y : Sd Z own bs mx ret n0 p l e R s m args below meth c T h k n)  (hd : decode bs pc = .ok (.dconst 1, 1)) (hp : pc + 1 = pc') (q : Gl p e below P (T.setTop (mkF m pc' L (.double FP.dconst1 :: S)))) : Gl p e below P (T.setTop (mkF m pc L S)) := by
  obtain ⟨locs, X, eT, N, hn0, hx, hZ, hown, hby, hml, hrt, hlk⟩ := Y
  subst hp
  exact q.of1 fun t q => XS.dconst1 X.here hx rfl (hb hby hd) rfl q
theorem Gl.aload (Y : Sd Z own bs mx ret n0 p l e R s m args below meth c T h k n) {i : Nat} {v : Value} (hl : L[i]? = some (.val v)) (hv : v.isRef = true) (hd : decode bs pc = .ok (.aload i, 2)) (hp : pc + 2 = pc') (q : Gl p e below P (T.setTop (mkF m pc' L (v :: S)))) : Gl p e below P (T.setTop (mkF m pc L S)) := by
  obtain ⟨locs, X, eT, N, hn0, hx, hZ, hown, hby, hml, hrt, hlk⟩ := Y
  subst hp
  exact q.of1 fun t q => XS.aload X.here hx rfl (hb hby hd) hl hv q
theorem Gl.aloadN (Y : Sd Z own bs mx ret n0 p l e R s m args below meth c T h k n) {i : Fin 4} {v : Value} (hl : L[i.val]? = some (.val v)) (hv : v.isRef = true) (hd : decode bs pc = .ok (.aload_n i, 1)) (hp : pc + 1 = pc') (q : Gl p e below P (T.setTop (mkF m pc' L (v :: S)))) : Gl p e below P (T.setTop (mkF m pc L S)) := by
  obtain ⟨locs, X, eT, N, hn0, hx, hZ, hown, hby, hml, hrt, hlk⟩ := Y
  subst hp
  exact q.of1 fun t q => XS.aloadN X.here hx rfl (hb hby hd) hl hv q
theorem Gl.istore (Y : Sd Z own bs mx ret n0 p l e R s m args below meth c T h k n) {i : Nat} {v : Int32} {L' : Array Slot} (hl : storeLocals L i (.int v) = some L') (hd : decode bs pc = .ok (.istore i, 2)) (hp : pc + 2 = pc') (q : Gl p e below P (T.setTop (mkF m pc' L' S))) : Gl p e below P (T.setTop (mkF m pc L (.int v :: S))) := by
  obtain ⟨locs, X, eT, N, hn0, hx, hZ, hown, hby, hml, hrt, hlk⟩ := Y
  subst hp
  exact q.of1 fun t q => XS.istore X.here hx rfl (hb hby hd) rfl hl q
theorem Gl.istoreN (Y : Sd Z own bs mx ret n0 p l e R s m args below meth c T h k n) {i : Fin 4} {v : Int32} {L' : Array Slot} (hl : storeLocals L i.val (.int v) = some L') (hd : decode bs pc = .ok (.istore_n i, 1)) (hp : pc + 1 = pc') (q : Gl p e below P (T.setTop (mkF m pc' L' S))) : Gl p e below P (T.setTop (mkF m pc L (.int v :: S))) := by
  obtain ⟨locs, X, eT, N, hn0, hx, hZ, hown, hby, hml, hrt, hlk⟩ := Y
  subst hp
  exact q.of1 fun t q => XS.istoreN X.here hx rfl (hb hby hd) rfl hl q
theorem Gl.lstore (Y : Sd Z own bs mx ret n0 p l e R s m args below meth c T h k n) {i : Nat} {v : Int64} {L' : Array Slot} (hl : storeLocals L i (.long v) = some L') (hd : decode bs pc = .ok (.lstore i, 2)) (hp : pc + 2 = pc') (q : Gl p e below P (T.setTop (mkF m pc' L' S))) : Gl p e below P (T.setTop (mkF m pc L (.long v :: S))) := by
  obtain ⟨locs, X, eT, N, hn0, hx, hZ, hown, hby, hml, hrt, hlk⟩ := Y
  subst hp
  exact q.of1 fun t q => XS.lstore X.here hx rfl (hb hby hd) rfl hl q
theorem Gl.lstoreN (Y : Sd Z own bs mx ret n0 p l e R s m args below meth c T h k n) {i : Fin 4} {v : Int64} {L' : Array Slot} (hl : storeLocals L i.val (.long v) = some L') (hd : decode bs pc = .ok (.lstore_n i, 1)) (hp : pc + 1 = pc') (q : Gl p e below P (T.setTop (mkF m pc' L' S))) : Gl p e below P (T.setTop (mkF m pc L (.long v :: S))) := by
  obtain ⟨locs, X, eT, N, hn0, hx, hZ, hown, hby, hml, hrt, hlk⟩ := Y
  subst hp
  exact q.of1 fun t q => XS.lstoreN X.here hx rfl (hb hby hd) rfl hl q
theorem Gl.astore (Y : Sd Z own bs mx ret n0 p l e R s m args below meth c T h k n) {i : Nat} {v : Value} (hv : v.isRef = true) {L' : Array Slot} (hl : storeLocals L i (v) = some L') (hd : decode bs pc = .ok (.astore i, 2)) (hp : pc + 2 = pc') (q : Gl p e below P (T.setTop (mkF m pc' L' S))) : Gl p e below P (T.setTop (mkF m pc L (v :: S))) := by
  obtain ⟨locs, X, eT, N, hn0, hx, hZ, hown, hby, hml, hrt, hlk⟩ := Y
  subst hp
  exact q.of1 fun t q => XS.astore X.here hx rfl (hb hby hd) rfl hv hl q
theorem Gl.astoreN (Y : Sd Z own bs mx ret n0 p l e R s m args below meth c T h k n) {i : Fin 4} {v : Value} (hv : v.isRef = true) {L' : Array Slot} (hl : storeLocals L i.val (v) = some L') (hd : decode bs pc = .ok (.astore_n i, 1)) (hp : pc + 1 = pc') (q : Gl p e below P (T.setTop (mkF m pc' L' S))) : Gl p e below P (T.setTop (mkF m pc L (v :: S))) := by
  obtain ⟨locs, X, eT, N, hn0, hx, hZ, hown, hby, hml, hrt, hlk⟩ := Y
  subst hp
  exact q.of1 fun t q => XS.astoreN X.here hx rfl (hb hby hd) rfl hv hl q
theorem Gl.iinc (Y : Sd Z own bs mx ret n0 p l e R s m args below meth c T h k n) {i : Nat} {cst : Int} {x r : Int32} {L' : Array Slot} (hl : L[i]? = some (.val (.int x))) (hr : x + Int32.ofInt cst = r) (hl' : storeLocals L i (.int r) = some L') (hd : decode bs pc = .ok (.iinc i cst, 3)) (hp : pc + 3 = pc') (q : Gl p e below P (T.setTop (mkF m pc' L' S))) : Gl p e below P (T.setTop (mkF m pc L S)) := by
  obtain ⟨locs, X, eT, N, hn0, hx, hZ, hown, hby, hml, hrt, hlk⟩ := Y
  subst hp
  exact q.of1 fun t q => XS.iinc X.here hx rfl (hb hby hd) hl (by rw [hr]; exact hl') q
theorem Gl.dup (Y : Sd Z own bs mx ret n0 p l e R s m args below meth c T h k n) {x : Value} (hc : x.category = 1) (hd : decode bs pc = .ok (.dup, 1)) (hp : pc + 1 = pc') (q : Gl p e below P (T.setTop (mkF m pc' L (x :: x :: S)))) : Gl p e below P (T.setTop (mkF m pc L (x :: S))) := by
  obtain ⟨locs, X, eT, N, hn0, hx, hZ, hown, hby, hml, hrt, hlk⟩ := Y
  subst hp
  exact q.of1 fun t q => XS.dup X.here hx rfl (hb hby hd) rfl hc q
theorem Gl.pop (Y : Sd Z own bs mx ret n0 p l e R s m args below meth c T h k n) {x : Value} (hc : x.category = 1) (hd : decode bs pc = .ok (.pop, 1)) (hp : pc + 1 = pc') (q : Gl p e below P (T.setTop (mkF m pc' L S))) : Gl p e below P (T.setTop (mkF m pc L (x :: S))) := by
  obtain ⟨locs, X, eT, N, hn0, hx, hZ, hown, hby, hml, hrt, hlk⟩ := Y
  subst hp
  exact q.of1 fun t q => XS.pop X.here hx rfl (hb hby hd) rfl hc q
theorem Gl.dupX1 (Y : Sd Z own bs mx ret n0 p l e R s m args below meth c T h k n) {x y : Value} (hc : x.category = 1) (hc' : y.category = 1) (hd : decode bs pc = .ok (.dup_x1, 1)) (hp : pc + 1 = pc') (q : Gl p e below P (T.setTop (mkF m pc' L (x :: y :: x :: S)))) : Gl p e below P (T.setTop (mkF m pc L (x :: y :: S))) := by
  obtain ⟨locs, X, eT, N, hn0, hx, hZ, hown, hby, hml, hrt, hlk⟩ := Y
  subst hp
  exact q.of1 fun t q => XS.dupX1 X.here hx rfl (hb hby hd) rfl hc hc' q
theorem Gl.lcmp (Y : Sd Z own bs mx ret n0 p l e R s m args below meth c T h k n) {x y : Int64} {r : Int32} (hr : lcmpW x y = r) (hd : decode bs pc = .ok (.lcmp, 1)) (hp : pc + 1 = pc') (q : Gl p e below P (T.setTop (mkF m pc' L (.int r :: S)))) : Gl p e below P (T.setTop (mkF m pc L (.long y :: .long x :: S))) := by
  obtain ⟨locs, X, eT, N, hn0, hx, hZ, hown, hby, hml, hrt, hlk⟩ := Y
  subst hp hr
  exact q.of1 fun t q => XS.lcmp X.here hx rfl (hb hby hd) rfl q
theorem Gl.arraylength (Y : Sd Z own bs mx ret n0 p l e R s m args below meth c T h k n) {a : Addr} {ck : ClassId} {ty : FieldType} {z : Int32} {vs : List Value} {d : Value} (F : Arv Z h a ck ty z vs d) (hd : decode bs pc = .ok (.arraylength, 1)) (hp : pc + 1 = pc') (q : Gl p e below P (T.setTop (mkF m pc' L (.int z :: S)))) : Gl p e below P (T.setTop (mkF m pc L (.ref a :: S))) := by
  obtain ⟨locs, X, eT, N, hn0, hx, hZ, hown, hby, hml, hrt, hlk⟩ := Y
  subst hp
  exact q.of1 fun t q => by
    obtain ⟨cl, A, -, S1, N1, -⟩ := F
    exact X.arraylength hx (by rw [eT]; exact A.1) (State.isArrayOf_alike hZ.alike A.2.1) (g := mkF m pc L (.ref a :: S)) rfl rfl (hb hby hd) t (by rw [len_of S1 N1]; exact q)
theorem Gl.iaload (Y : Sd Z own bs mx ret n0 p l e R s m args below meth c T h k n) {a : Addr} {ck : ClassId} {z j : Int32} {vs : List Value} {d v : Value} (F : Arv Z h a ck .int z vs d) (hj : ¬ j < 0 ∧ j < z) (hv : vs.getD j.toNatClampNeg d = v) (hd : decode bs pc = .ok (.iaload, 1)) (hp : pc + 1 = pc') (q : Gl p e below P (T.setTop (mkF m pc' L (v :: S)))) : Gl p e below P (T.setTop (mkF m pc L (.int j :: .ref a :: S))) := by
  obtain ⟨locs, X, eT, N, hn0, hx, hZ, hown, hby, hml, hrt, hlk⟩ := Y
  subst hp
  exact q.of1 fun t q => by
    obtain ⟨cl, A, -, S1, N1, H, -⟩ := F
    exact X.iaload hx (by rw [eT]; exact A.1) (State.isArrayOf_alike hZ.alike A.2.1) A.2.2 (inb_of S1 hj) (H.at (inb_of S1 hj) hv) (g := mkF m pc L (.int j :: .ref a :: S)) rfl rfl (hb hby hd) t q
theorem Gl.laload (Y : Sd Z own bs mx ret n0 p l e R s m args below meth c T h k n) {a : Addr} {ck : ClassId} {z j : Int32} {vs : List Value} {d v : Value} (F : Arv Z h a ck .long z vs d) (hj : ¬ j < 0 ∧ j < z) (hv : vs.getD j.toNatClampNeg d = v) (hd : decode bs pc = .ok (.laload, 1)) (hp : pc + 1 = pc') (q : Gl p e below P (T.setTop (mkF m pc' L (v :: S)))) : Gl p e below P (T.setTop (mkF m pc L (.int j :: .ref a :: S))) := by
  obtain ⟨locs, X, eT, N, hn0, hx, hZ, hown, hby, hml, hrt, hlk⟩ := Y
  subst hp
  exact q.of1 fun t q => by
    obtain ⟨cl, A, -, S1, N1, H, -⟩ := F
    exact X.laload hx (by rw [eT]; exact A.1) (State.isArrayOf_alike hZ.alike A.2.1) A.2.2 (inb_of S1 hj) (H.at (inb_of S1 hj) hv) (g := mkF m pc L (.int j :: .ref a :: S)) rfl rfl (hb hby hd) t q
theorem Gl.caload (Y : Sd Z own bs mx ret n0 p l e R s m args below meth c T h k n) {a : Addr} {ck : ClassId} {z j : Int32} {vs : List Value} {d v : Value} (F : Arv Z h a ck .char z vs d) (hj : ¬ j < 0 ∧ j < z) (hv : vs.getD j.toNatClampNeg d = v) (hd : decode bs pc = .ok (.caload, 1)) (hp : pc + 1 = pc') (q : Gl p e below P (T.setTop (mkF m pc' L (v :: S)))) : Gl p e below P (T.setTop (mkF m pc L (.int j :: .ref a :: S))) := by
  obtain ⟨locs, X, eT, N, hn0, hx, hZ, hown, hby, hml, hrt, hlk⟩ := Y
  subst hp
  exact q.of1 fun t q => by
    obtain ⟨cl, A, -, S1, N1, H, -⟩ := F
    exact X.caload hx (by rw [eT]; exact A.1) (State.isArrayOf_alike hZ.alike A.2.1) A.2.2 (inb_of S1 hj) (H.at (inb_of S1 hj) hv) (g := mkF m pc L (.int j :: .ref a :: S)) rfl rfl (hb hby hd) t q
theorem Gl.saload (Y : Sd Z own bs mx ret n0 p l e R s m args below meth c T h k n) {a : Addr} {ck : ClassId} {z j : Int32} {vs : List Value} {d v : Value} (F : Arv Z h a ck .short z vs d) (hj : ¬ j < 0 ∧ j < z) (hv : vs.getD j.toNatClampNeg d = v) (hd : decode bs pc = .ok (.saload, 1)) (hp : pc + 1 = pc') (q : Gl p e below P (T.setTop (mkF m pc' L (v :: S)))) : Gl p e below P (T.setTop (mkF m pc L (.int j :: .ref a :: S))) := by
  obtain ⟨locs, X, eT, N, hn0, hx, hZ, hown, hby, hml, hrt, hlk⟩ := Y
  subst hp
  exact q.of1 fun t q => by
    obtain ⟨cl, A, -, S1, N1, H, -⟩ := F
    exact X.saload hx (by rw [eT]; exact A.1) (State.isArrayOf_alike hZ.alike A.2.1) A.2.2 (inb_of S1 hj) (H.at (inb_of S1 hj) hv) (g := mkF m pc L (.int j :: .ref a :: S)) rfl rfl (hb hby hd) t q
theorem Gl.baload (Y : Sd Z own bs mx ret n0 p l e R s m args below meth c T h k n) {a : Addr} {ck : ClassId} {z j : Int32} {vs : List Value} {d v : Value} (F : Arv Z h a ck .byte z vs d) (hj : ¬ j < 0 ∧ j < z) (hv : vs.getD j.toNatClampNeg d = v) (hd : decode bs pc = .ok (.baload, 1)) (hp : pc + 1 = pc') (q : Gl p e below P (T.setTop (mkF m pc' L (v :: S)))) : Gl p e below P (T.setTop (mkF m pc L (.int j :: .ref a :: S))) := by
  obtain ⟨locs, X, eT, N, hn0, hx, hZ, hown, hby, hml, hrt, hlk⟩ := Y
  subst hp
  exact q.of1 fun t q => by
    obtain ⟨cl, A, -, S1, N1, H, -⟩ := F
    exact X.baloadBytes hx (by rw [eT]; exact A.1) (State.isArrayOf_alike hZ.alike A.2.1) A.2.2 (inb_of S1 hj) (H.at (inb_of S1 hj) hv) (g := mkF m pc L (.int j :: .ref a :: S)) rfl rfl (hb hby hd) t q
theorem Gl.goto (Y : Sd Z own bs mx ret n0 p l e R s m args below meth c T h k n) {o : Int} (hd : decode bs pc = .ok (.goto o, 3)) (ho : 0 ≤ (pc : Int) + o) (hp : ((pc : Int) + o).toNat = pc') (q : Gl p e below P (T.setTop (mkF m pc' L S))) : Gl p e below P (T.setTop (mkF m pc L S)) := by
  obtain ⟨locs, X, eT, N, hn0, hx, hZ, hown, hby, hml, hrt, hlk⟩ := Y
  exact q.of1 fun t q => XS.goto X.here hx rfl rfl (hb hby hd) ho hp q
theorem Gl.ifeq (Y : Sd Z own bs mx ret n0 p l e R s m args below meth c T h k n) {x : Int32} {o : Int} (hd : decode bs pc = .ok (.ifCond .eq o, 3)) (ho : 0 ≤ (pc : Int) + o) (ht : ((pc : Int) + o).toNat = pcT) (hf : pc + 3 = pcF) (q1 : x = 0 → Gl p e below P (T.setTop (mkF m pcT L S))) (q2 : ¬ x = 0 → Gl p e below P (T.setTop (mkF m pcF L S))) : Gl p e below P (T.setTop (mkF m pc L (.int x :: S))) := by
  obtain ⟨locs, X, eT, N, hn0, hx, hZ, hown, hby, hml, hrt, hlk⟩ := Y
  by_cases hq : x = 0
  · exact (q1 hq).of1 fun t q => XS.ifYes X.here hx rfl rfl (hb hby hd) rfl (Jvm.Free.XT.i0_eq_t hq) ho ht q
  · subst hf
    exact (q2 (by first | exact hq | exact Decidable.not_not.mp hq)).of1 fun t q => XS.ifNo X.here hx rfl (hb hby hd) rfl (Jvm.Free.XT.i0_eq_f (by first | exact hq | exact Decidable.not_not.mp hq)) q
theorem Gl.icmpeq (Y : Sd Z own bs mx ret n0 p l e R s m args below meth c T h k n) {x y : Int32} {o : Int} (hd : decode bs pc = .ok (.if_icmp .eq o, 3)) (ho : 0 ≤ (pc : Int) + o) (ht : ((pc : Int) + o).toNat = pcT) (hf : pc + 3 = pcF) (q1 : x = y → Gl p e below P (T.setTop (mkF m pcT L S))) (q2 : ¬ x = y → Gl p e below P (T.setTop (mkF m pcF L S))) : Gl p e below P (T.setTop (mkF m pc L (.int y :: .int x :: S))) := by
  obtain ⟨locs, X, eT, N, hn0, hx, hZ, hown, hby, hml, hrt, hlk⟩ := Y
  by_cases hq : x = y
  · exact (q1 hq).of1 fun t q => XS.icmpYes X.here hx rfl rfl (hb hby hd) rfl (Jvm.Free.XT.ii_eq_t hq) ho ht q
  · subst hf
    exact (q2 (by first | exact hq | exact Decidable.not_not.mp hq)).of1 fun t q => XS.icmpNo X.here hx rfl (hb hby hd) rfl (Jvm.Free.XT.ii_eq_f (by first | exact hq | exact Decidable.not_not.mp hq)) q
theorem Gl.lcmpeq (Y : Sd Z own bs mx ret n0 p l e R s m args below meth c T h k n) {x y : Int64} {pc1 : Nat} {o : Int} (hd0 : decode bs pc = .ok (.lcmp, 1)) (hp1 : pc + 1 = pc1) (hd : decode bs pc1 = .ok (.ifCond .eq o, 3)) (ho : 0 ≤ (pc1 : Int) + o) (ht : ((pc1 : Int) + o).toNat = pcT) (hf : pc1 + 3 = pcF) (q1 : x = y → Gl p e below P (T.setTop (mkF m pcT L S))) (q2 : ¬ x = y → Gl p e below P (T.setTop (mkF m pcF L S))) : Gl p e below P (T.setTop (mkF m pc L (.long y :: .long x :: S))) := by
  refine Gl.lcmp Y rfl hd0 hp1 ?_
  obtain ⟨locs, X, eT, N, hn0, hx, hZ, hown, hby, hml, hrt, hlk⟩ := Y
  by_cases hq : x = y
  · exact (q1 hq).of1 fun t q => XS.ifYes X.here hx rfl rfl (hb hby hd) rfl (Jvm.Free.XT.ll_eq_t hq) ho ht q
  · subst hf
    exact (q2 (by first | exact hq | exact Decidable.not_not.mp hq)).of1 fun t q => XS.ifNo X.here hx rfl (hb hby hd) rfl (Jvm.Free.XT.ll_eq_f (by first | exact hq | exact Decidable.not_not.mp hq)) q
theorem Gl.ifne (Y : Sd Z own bs mx ret n0 p l e R s m args below meth c T h k n) {x : Int32} {o : Int} (hd : decode bs pc = .ok (.ifCond .ne o, 3)) (ho : 0 ≤ (pc : Int) + o) (ht : ((pc : Int) + o).toNat = pcT) (hf : pc + 3 = pcF) (q1 : ¬ x = 0 → Gl p e below P (T.setTop (mkF m pcT L S))) (q2 : x = 0 → Gl p e below P (T.setTop (mkF m pcF L S))) : Gl p e below P (T.setTop (mkF m pc L (.int x :: S))) := by
  obtain ⟨locs, X, eT, N, hn0, hx, hZ, hown, hby, hml, hrt, hlk⟩ := Y
  by_cases hq : ¬ x = 0
  · exact (q1 hq).of1 fun t q => XS.ifYes X.here hx rfl rfl (hb hby hd) rfl (Jvm.Free.XT.i0_ne_t hq) ho ht q
  · subst hf
    exact (q2 (by first | exact hq | exact Decidable.not_not.mp hq)).of1 fun t q => XS.ifNo X.here hx rfl (hb hby hd) rfl (Jvm.Free.XT.i0_ne_f (by first | exact hq | exact Decidable.not_not.mp hq)) q
theorem Gl.icmpne (Y : Sd Z own bs mx ret n0 p l e R s m args below meth c T h k n) {x y : Int32} {o : Int} (hd : decode bs pc = .ok (.if_icmp .ne o, 3)) (ho : 0 ≤ (pc : Int) + o) (ht : ((pc : Int) + o).toNat = pcT) (hf : pc + 3 = pcF) (q1 : ¬ x = y → Gl p e below P (T.setTop (mkF m pcT L S))) (q2 : x = y → Gl p e below P (T.setTop (mkF m pcF L S))) : Gl p e below P (T.setTop (mkF m pc L (.int y :: .int x :: S))) := by
  obtain ⟨locs, X, eT, N, hn0, hx, hZ, hown, hby, hml, hrt, hlk⟩ := Y
  by_cases hq : ¬ x = y
  · exact (q1 hq).of1 fun t q => XS.icmpYes X.here hx rfl rfl (hb hby hd) rfl (Jvm.Free.XT.ii_ne_t hq) ho ht q
  · subst hf
    exact (q2 (by first | exact hq | exact Decidable.not_not.mp hq)).of1 fun t q => XS.icmpNo X.here hx rfl (hb hby hd) rfl (Jvm.Free.XT.ii_ne_f (by first | exact hq | exact Decidable.not_not.mp hq)) q
theorem Gl.lcmpne (Y : Sd Z own bs mx ret n0 p l e R s m args below meth c T h k n) {x y : Int64} {pc1 : Nat} {o : Int} (hd0 : decode bs pc = .ok (.lcmp, 1)) (hp1 : pc + 1 = pc1) (hd : decode bs pc1 = .ok (.ifCond .ne o, 3)) (ho : 0 ≤ (pc1 : Int) + o) (ht : ((pc1 : Int) + o).toNat = pcT) (hf : pc1 + 3 = pcF) (q1 : ¬ x = y → Gl p e below P (T.setTop (mkF m pcT L S))) (q2 : x = y → Gl p e below P (T.setTop (mkF m pcF L S))) : Gl p e below P (T.setTop (mkF m pc L (.long y :: .long x :: S))) := by
  refine Gl.lcmp Y rfl hd0 hp1 ?_
  obtain ⟨locs, X, eT, N, hn0, hx, hZ, hown, hby, hml, hrt, hlk⟩ := Y
  by_cases hq : ¬ x = y
  · exact (q1 hq).of1 fun t q => XS.ifYes X.here hx rfl rfl (hb hby hd) rfl (Jvm.Free.XT.ll_ne_t hq) ho ht q
  · subst hf
    exact (q2 (by first | exact hq | exact Decidable.not_not.mp hq)).of1 fun t q => XS.ifNo X.here hx rfl (hb hby hd) rfl (Jvm.Free.XT.ll_ne_f (by first | exact hq | exact Decidable.not_not.mp hq)) q
theorem Gl.iflt (Y : Sd Z own bs mx ret n0 p l e R s m args below meth c T h k n) {x : Int32} {o : Int} (hd : decode bs pc = .ok (.ifCond .lt o, 3)) (ho : 0 ≤ (pc : Int) + o) (ht : ((pc : Int) + o).toNat = pcT) (hf : pc + 3 = pcF) (q1 : x < 0 → Gl p e below P (T.setTop (mkF m pcT L S))) (q2 : ¬ x < 0 → Gl p e below P (T.setTop (mkF m pcF L S))) : Gl p e below P (T.setTop (mkF m pc L (.int x :: S))) := by
  obtain ⟨locs, X, eT, N, hn0, hx, hZ, hown, hby, hml, hrt, hlk⟩ := Y
  by_cases hq : x < 0
  · exact (q1 hq).of1 fun t q => XS.ifYes X.here hx rfl rfl (hb hby hd) rfl (Jvm.Free.XT.i0_lt_t hq) ho ht q
  · subst hf
    exact (q2 (by first | exact hq | exact Decidable.not_not.mp hq)).of1 fun t q => XS.ifNo X.here hx rfl (hb hby hd) rfl (Jvm.Free.XT.i0_lt_f (by first | exact hq | exact Decidable.not_not.mp hq)) q
theorem Gl.icmplt (Y : Sd Z own bs mx ret n0 p l e R s m args below meth c T h k n) {x y : Int32} {o : Int} (hd : decode bs pc = .ok (.if_icmp .lt o, 3)) (ho : 0 ≤ (pc : Int) + o) (ht : ((pc : Int) + o).toNat = pcT) (hf : pc + 3 = pcF) (q1 : x < y → Gl p e below P (T.setTop (mkF m pcT L S))) (q2 : ¬ x < y → Gl p e below P (T.setTop (mkF m pcF L S))) : Gl p e below P (T.setTop (mkF m pc L (.int y :: .int x :: S))) := by
  obtain ⟨locs, X, eT, N, hn0, hx, hZ, hown, hby, hml, hrt, hlk⟩ := Y
  by_cases hq : x < y
  · exact (q1 hq).of1 fun t q => XS.icmpYes X.here hx rfl rfl (hb hby hd) rfl (Jvm.Free.XT.ii_lt_t hq) ho ht q
  · subst hf
    exact (q2 (by first | exact hq | exact Decidable.not_not.mp hq)).of1 fun t q => XS.icmpNo X.here hx rfl (hb hby hd) rfl (Jvm.Free.XT.ii_lt_f (by first | exact hq | exact Decidable.not_not.mp hq)) q
theorem Gl.lcmplt (Y : Sd Z own bs mx ret n0 p l e R s m args below meth c T h k n) {x y : Int64} {pc1 : Nat} {o : Int} (hd0 : decode bs pc = .ok (.lcmp, 1)) (hp1 : pc + 1 = pc1) (hd : decode bs pc1 = .ok (.ifCond .lt o, 3)) (ho : 0 ≤ (pc1 : Int) + o) (ht : ((pc1 : Int) + o).toNat = pcT) (hf : pc1 + 3 = pcF) (q1 : x < y → Gl p e below P (T.setTop (mkF m pcT L S))) (q2 : ¬ x < y → Gl p e below P (T.setTop (mkF m pcF L S))) : Gl p e below P (T.setTop (mkF m pc L (.long y :: .long x :: S))) := by
  refine Gl.lcmp Y rfl hd0 hp1 ?_
  obtain ⟨locs, X, eT, N, hn0, hx, hZ, hown, hby, hml, hrt, hlk⟩ := Y
  by_cases hq : x < y
  · exact (q1 hq).of1 fun t q => XS.ifYes X.here hx rfl rfl (hb hby hd) rfl (Jvm.Free.XT.ll_lt_t hq) ho ht q
  · subst hf
    exact (q2 (by first | exact hq | exact Decidable.not_not.mp hq)).of1 fun t q => XS.ifNo X.here hx rfl (hb hby hd) rfl (Jvm.Free.XT.ll_lt_f (by first | exact hq | exact Decidable.not_not.mp hq)) q
theorem Gl.ifge (Y : Sd Z own bs mx ret n0 p l e R s m args below meth c T h k n) {x : Int32} {o : Int} (hd : decode bs pc = .ok (.ifCond .ge o, 3)) (ho : 0 ≤ (pc : Int) + o) (ht : ((pc : Int) + o).toNat = pcT) (hf : pc + 3 = pcF) (q1 : ¬ x < 0 → Gl p e below P (T.setTop (mkF m pcT L S))) (q2 : x < 0 → Gl p e below P (T.setTop (mkF m pcF L S))) : Gl p e below P (T.setTop (mkF m pc L (.int x :: S))) := by
  obtain ⟨locs, X, eT, N, hn0, hx, hZ, hown, hby, hml, hrt, hlk⟩ := Y
  by_cases hq : ¬ x < 0
  · exact (q1 hq).of1 fun t q => XS.ifYes X.here hx rfl rfl (hb hby hd) rfl (Jvm.Free.XT.i0_ge_t hq) ho ht q
  · subst hf
    exact (q2 (by first | exact hq | exact Decidable.not_not.mp hq)).of1 fun t q => XS.ifNo X.here hx rfl (hb hby hd) rfl (Jvm.Free.XT.i0_ge_f (by first | exact hq | exact Decidable.not_not.mp hq)) q
theorem Gl.icmpge (Y : Sd Z own bs mx ret n0 p l e R s m args below meth c T h k n) {x y : Int32} {o : Int} (hd : decode bs pc = .ok (.if_icmp .ge o, 3)) (ho : 0 ≤ (pc : Int) + o) (ht : ((pc : Int) + o).toNat = pcT) (hf : pc + 3 = pcF) (q1 : ¬ x < y → Gl p e below P (T.setTop (mkF m pcT L S))) (q2 : x < y → Gl p e below P (T.setTop (mkF m pcF L S))) : Gl p e below P (T.setTop (mkF m pc L (.int y :: .int x :: S))) := by
  obtain ⟨locs, X, eT, N, hn0, hx, hZ, hown, hby, hml, hrt, hlk⟩ := Y
  by_cases hq : ¬ x < y
  · exact (q1 hq).of1 fun t q => XS.icmpYes X.here hx rfl rfl (hb hby hd) rfl (Jvm.Free.XT.ii_ge_t hq) ho ht q
  · subst hf
    exact (q2 (by first | exact hq | exact Decidable.not_not.mp hq)).of1 fun t q => XS.icmpNo X.here hx rfl (hb hby hd) rfl (Jvm.Free.XT.ii_ge_f (by first | exact hq | exact Decidable.not_not.mp hq)) q
theorem Gl.lcmpge (Y : Sd Z own bs mx ret n0 p l e R s m args below meth c T h k n) {x y : Int64} {pc1 : Nat} {o : Int} (hd0 : decode bs pc = .ok (.lcmp, 1)) (hp1 : pc + 1 = pc1) (hd : decode bs pc1 = .ok (.ifCond .ge o, 3)) (ho : 0 ≤ (pc1 : Int) + o) (ht : ((pc1 : Int) + o).toNat = pcT) (hf : pc1 + 3 = pcF) (q1 : ¬ x < y → Gl p e below P (T.setTop (mkF m pcT L S))) (q2 : x < y → Gl p e below P (T.setTop (mkF m pcF L S))) : Gl p e below P (T.setTop (mkF m pc L (.long y :: .long x :: S))) := by
  refine Gl.lcmp Y rfl hd0 hp1 ?_
  obtain ⟨locs, X, eT, N, hn0, hx, hZ, hown, hby, hml, hrt, hlk⟩ := Y
  by_cases hq : ¬ x < y
  · exact (q1 hq).of1 fun t q => XS.ifYes X.here hx rfl rfl (hb hby hd) rfl (Jvm.Free.XT.ll_ge_t hq) ho ht q
  · subst hf
    exact (q2 (by first | exact hq | exact Decidable.not_not.mp hq)).of1 fun t q => XS.ifNo X.here hx rfl (hb hby hd) rfl (Jvm.Free.XT.ll_ge_f (by first | exact hq | exact Decidable.not_not.mp hq)) q
theorem Gl.ifgt (Y : Sd Z own bs mx ret n0 p l e R s m args below meth c T h k n) {x : Int32} {o : Int} (hd : decode bs pc = .ok (.ifCond .gt o, 3)) (ho : 0 ≤ (pc : Int) + o) (ht : ((pc : Int) + o).toNat = pcT) (hf : pc + 3 = pcF) (q1 : 0 < x → Gl p e below P (T.setTop (mkF m pcT L S))) (q2 : ¬ 0 < x → Gl p e below P (T.setTop (mkF m pcF L S))) : Gl p e below P (T.setTop (mkF m pc L (.int x :: S))) := by
  obtain ⟨locs, X, eT, N, hn0, hx, hZ, hown, hby, hml, hrt, hlk⟩ := Y
  by_cases hq : 0 < x
  · exact (q1 hq).of1 fun t q => XS.ifYes X.here hx rfl rfl (hb hby hd) rfl (Jvm.Free.XT.i0_gt_t hq) ho ht q
  · subst hf
    exact (q2 (by first | exact hq | exact Decidable.not_not.mp hq)).of1 fun t q => XS.ifNo X.here hx rfl (hb hby hd) rfl (Jvm.Free.XT.i0_gt_f (by first | exact hq | exact Decidable.not_not.mp hq)) q
theorem Gl.icmpgt (Y : Sd Z own bs mx ret n0 p l e R s m args below meth c T h k n) {x y : Int32} {o : Int} (hd : decode bs pc = .ok (.if_icmp .gt o, 3)) (ho : 0 ≤ (pc : Int) + o) (ht : ((pc : Int) + o).toNat = pcT) (hf : pc + 3 = pcF) (q1 : y < x → Gl p e below P (T.setTop (mkF m pcT L S))) (q2 : ¬ y < x → Gl p e below P (T.setTop (mkF m pcF L S))) : Gl p e below P (T.setTop (mkF m pc L (.int y :: .int x :: S))) := by
  obtain ⟨locs, X, eT, N, hn0, hx, hZ, hown, hby, hml, hrt, hlk⟩ := Y
  by_cases hq : y < x
  · exact (q1 hq).of1 fun t q => XS.icmpYes X.here hx rfl rfl (hb hby hd) rfl (Jvm.Free.XT.ii_gt_t hq) ho ht q
  · subst hf
    exact (q2 (by first | exact hq | exact Decidable.not_not.mp hq)).of1 fun t q => XS.icmpNo X.here hx rfl (hb hby hd) rfl (Jvm.Free.XT.ii_gt_f (by first | exact hq | exact Decidable.not_not.mp hq)) q
theorem Gl.lcmpgt (Y : Sd Z own bs mx ret n0 p l e R s m args below meth c T h k n) {x y : Int64} {pc1 : Nat} {o : Int} (hd0 : decode bs pc = .ok (.lcmp, 1)) (hp1 : pc + 1 = pc1) (hd : decode bs pc1 = .ok (.ifCond .gt o, 3)) (ho : 0 ≤ (pc1 : Int) + o) (ht : ((pc1 : Int) + o).toNat = pcT) (hf : pc1 + 3 = pcF) (q1 : y < x → Gl p e below P (T.setTop (mkF m pcT L S))) (q2 : ¬ y < x → Gl p e below P (T.setTop (mkF m pcF L S))) : Gl p e below P (T.setTop (mkF m pc L (.long y :: .long x :: S))) := by
  refine Gl.lcmp Y rfl hd0 hp1 ?_
  obtain ⟨locs, X, eT, N, hn0, hx, hZ, hown, hby, hml, hrt, hlk⟩ := Y
  by_cases hq : y < x
  · exact (q1 hq).of1 fun t q => XS.ifYes X.here hx rfl rfl (hb hby hd) rfl (Jvm.Free.XT.ll_gt_t hq) ho ht q
  · subst hf
    exact (q2 (by first | exact hq | exact Decidable.not_not.mp hq)).of1 fun t q => XS.ifNo X.here hx rfl (hb hby hd) rfl (Jvm.Free.XT.ll_gt_f (by first | exact hq | exact Decidable.not_not.mp hq)) q
theorem Gl.ifle (Y : Sd Z own bs mx ret n0 p l e R s m args below meth c T h k n) {x : Int32} {o : Int} (hd : decode bs pc = .ok (.ifCond .le o, 3)) (ho : 0 ≤ (pc : Int) + o) (ht : ((pc : Int) + o).toNat = pcT) (hf : pc + 3 = pcF) (q1 : ¬ 0 < x → Gl p e below P (T.setTop (mkF m pcT L S))) (q2 : 0 < x → Gl p e below P (T.setTop (mkF m pcF L S))) : Gl p e below P (T.setTop (mkF m pc L (.int x :: S))) := by
  obtain ⟨locs, X, eT, N, hn0, hx, hZ, hown, hby, hml, hrt, hlk⟩ := Y
  by_cases hq : ¬ 0 < x
  · exact (q1 hq).of1 fun t q => XS.ifYes X.here hx rfl rfl (hb hby hd) rfl (Jvm.Free.XT.i0_le_t hq) ho ht q
  · subst hf
    exact (q2 (by first | exact hq | exact Decidable.not_not.mp hq)).of1 fun t q => XS.ifNo X.here hx rfl (hb hby hd) rfl (Jvm.Free.XT.i0_le_f (by first | exact hq | exact Decidable.not_not.mp hq)) q
theorem Gl.icmple (Y : Sd Z own bs mx ret n0 p l e R s m args below meth c T h k n) {x y : Int32} {o : Int} (hd : decode bs pc = .ok (.if_icmp .le o, 3)) (ho : 0 ≤ (pc : Int) + o) (ht : ((pc : Int) + o).toNat = pcT) (hf : pc + 3 = pcF) (q1 : ¬ y < x → Gl p e below P (T.setTop (mkF m pcT L S))) (q2 : y < x → Gl p e below P (T.setTop (mkF m pcF L S))) : Gl p e below P (T.setTop (mkF m pc L (.int y :: .int x :: S))) := by
  obtain ⟨locs, X, eT, N, hn0, hx, hZ, hown, hby, hml, hrt, hlk⟩ := Y
  by_cases hq : ¬ y < x
  · exact (q1 hq).of1 fun t q => XS.icmpYes X.here hx rfl rfl (hb hby hd) rfl (Jvm.Free.XT.ii_le_t hq) ho ht q
  · subst hf
    exact (q2 (by first | exact hq | exact Decidable.not_not.mp hq)).of1 fun t q => XS.icmpNo X.here hx rfl (hb hby hd) rfl (Jvm.Free.XT.ii_le_f (by first | exact hq | exact Decidable.not_not.mp hq)) q
theorem Gl.lcmple (Y : Sd Z own bs mx ret n0 p l e R s m args below meth c T h k n) {x y : Int64} {pc1 : Nat} {o : Int} (hd0 : decode bs pc = .ok (.lcmp, 1)) (hp1 : pc + 1 = pc1) (hd : decode bs pc1 = .ok (.ifCond .le o, 3)) (ho : 0 ≤ (pc1 : Int) + o) (ht : ((pc1 : Int) + o).toNat = pcT) (hf : pc1 + 3 = pcF) (q1 : ¬ y < x → Gl p e below P (T.setTop (mkF m pcT L S))) (q2 : y < x → Gl p e below P (T.setTop (mkF m pcF L S))) : Gl p e below P (T.setTop (mkF m pc L (.long y :: .long x :: S))) := by
  refine Gl.lcmp Y rfl hd0 hp1 ?_
  obtain ⟨locs, X, eT, N, hn0, hx, hZ, hown, hby, hml, hrt, hlk⟩ := Y
  by_cases hq : ¬ y < x
  · exact (q1 hq).of1 fun t q => XS.ifYes X.here hx rfl rfl (hb hby hd) rfl (Jvm.Free.XT.ll_le_t hq) ho ht q
  · subst hf
    exact (q2 (by first | exact hq | exact Decidable.not_not.mp hq)).of1 fun t q => XS.ifNo X.here hx rfl (hb hby hd) rfl (Jvm.Free.XT.ll_le_f (by first | exact hq | exact Decidable.not_not.mp hq)) q
theorem Gl.ifnullY (Y : Sd Z own bs mx ret n0 p l e R s m args below meth c T h k n)  {o : Int} (hd : decode bs pc = .ok (.ifnull o, 3)) (ho : 0 ≤ (pc : Int) + o) (ht : ((pc : Int) + o).toNat = pcT) (q : Gl p e below P (T.setTop (mkF m pcT L S))) : Gl p e below P (T.setTop (mkF m pc L (.null :: S))) := by
  obtain ⟨locs, X, eT, N, hn0, hx, hZ, hown, hby, hml, hrt, hlk⟩ := Y
  exact q.of1 fun t q => XS.ifnullYes X.here hx rfl rfl (hb hby hd) rfl ho ht q
theorem Gl.ifnullN (Y : Sd Z own bs mx ret n0 p l e R s m args below meth c T h k n) {b : Addr} {o : Int} (hd : decode bs pc = .ok (.ifnull o, 3)) (hf : pc + 3 = pcF) (q : Gl p e below P (T.setTop (mkF m pcF L S))) : Gl p e below P (T.setTop (mkF m pc L (.ref b :: S))) := by
  obtain ⟨locs, X, eT, N, hn0, hx, hZ, hown, hby, hml, hrt, hlk⟩ := Y
  subst hf
  exact q.of1 fun t q => XS.ifnullNo X.here hx rfl (hb hby hd) rfl q
theorem Gl.ifnonnullY (Y : Sd Z own bs mx ret n0 p l e R s m args below meth c T h k n) {b : Addr} {o : Int} (hd : decode bs pc = .ok (.ifnonnull o, 3)) (ho : 0 ≤ (pc : Int) + o) (ht : ((pc : Int) + o).toNat = pcT) (q : Gl p e below P (T.setTop (mkF m pcT L S))) : Gl p e below P (T.setTop (mkF m pc L (.ref b :: S))) := by
  obtain ⟨locs, X, eT, N, hn0, hx, hZ, hown, hby, hml, hrt, hlk⟩ := Y
  exact q.of1 fun t q => XS.ifnonnullYes X.here hx rfl rfl (hb hby hd) rfl ho ht q
theorem Gl.ifnonnullN (Y : Sd Z own bs mx ret n0 p l e R s m args below meth c T h k n)  {o : Int} (hd : decode bs pc = .ok (.ifnonnull o, 3)) (hf : pc + 3 = pcF) (q : Gl p e below P (T.setTop (mkF m pcF L S))) : Gl p e below P (T.setTop (mkF m pc L (.null :: S))) := by
  obtain ⟨locs, X, eT, N, hn0, hx, hZ, hown, hby, hml, hrt, hlk⟩ := Y
  subst hf
  exact q.of1 fun t q => XS.ifnonnullNo X.here hx rfl (hb hby hd) rfl q
theorem Gl.acmpeq (Y : Sd Z own bs mx ret n0 p l e R s m args below meth c T h k n) {x y : Value} {o : Int} (h1 : x.isRef = true) (h2 : y.isRef = true) (hd : decode bs pc = .ok (.if_acmp .eq o, 3)) (ho : 0 ≤ (pc : Int) + o) (ht : ((pc : Int) + o).toNat = pcT) (hf : pc + 3 = pcF) (q1 : x = y → Gl p e below P (T.setTop (mkF m pcT L S))) (q2 : ¬ x = y → Gl p e below P (T.setTop (mkF m pcF L S))) : Gl p e below P (T.setTop (mkF m pc L (y :: x :: S))) := by
  obtain ⟨locs, X, eT, N, hn0, hx, hZ, hown, hby, hml, hrt, hlk⟩ := Y
  subst ht hf
  by_cases hq : x = y
  · exact (q1 hq).of1 fun t q => Jvm.RoadKit.acmp (g := mkF m pc L (y :: x :: S)) X hx rfl h1 h2 (pc0 := pc) (same := true) rfl (hb hby hd) rfl (decide_eq_true hq) ho rfl q
  · exact (q2 hq).of1 fun t q => Jvm.RoadKit.acmp (g := mkF m pc L (y :: x :: S)) X hx rfl h1 h2 (pc0 := pc) (same := false) rfl (hb hby hd) rfl (decide_eq_false hq) ho rfl q
theorem Gl.acmpne (Y : Sd Z own bs mx ret n0 p l e R s m args below meth c T h k n) {x y : Value} {o : Int} (h1 : x.isRef = true) (h2 : y.isRef = true) (hd : decode bs pc = .ok (.if_acmp .ne o, 3)) (ho : 0 ≤ (pc : Int) + o) (ht : ((pc : Int) + o).toNat = pcT) (hf : pc + 3 = pcF) (q1 : ¬ x = y → Gl p e below P (T.setTop (mkF m pcT L S))) (q2 : x = y → Gl p e below P (T.setTop (mkF m pcF L S))) : Gl p e below P (T.setTop (mkF m pc L (y :: x :: S))) := by
  obtain ⟨locs, X, eT, N, hn0, hx, hZ, hown, hby, hml, hrt, hlk⟩ := Y
  subst ht hf
  by_cases hq : x = y
  · exact (q2 hq).of1 fun t q => Jvm.RoadKit.acmp (g := mkF m pc L (y :: x :: S)) X hx rfl h1 h2 (pc0 := pc) (same := true) rfl (hb hby hd) rfl (decide_eq_true hq) ho rfl q
  · exact (q1 hq).of1 fun t q => Jvm.RoadKit.acmp (g := mkF m pc L (y :: x :: S)) X hx rfl h1 h2 (pc0 := pc) (same := false) rfl (hb hby hd) rfl (decide_eq_false hq) ho rfl q
theorem Gl.getF (Y : Sd Z own bs mx ret n0 p l e R s m args below meth c T h k n) {i : Nat} {R0 O f d host : String} {a : Addr} {v : Value} (w : (Jvm.Cond.fieldLink own i R0 f d).before a0 Z = true ∨ (Jvm.Cond.fieldLinkNest own i R0 f d host).before a0 Z = true) (via : Via Z R0 O f d) (F : Fld Z h a O f d v) (hd : decode bs pc = .ok (.getfield i, 3)) (hp : pc + 3 = pc') (q : ∀ T', Sd Z own bs mx ret n0 p l e R s m args below meth c T' h k n → Gl p e below P (T'.setTop (mkF m pc' L (v :: S)))) : Gl p e below P (T.setTop (mkF m pc L (.ref a :: S))) := by
  obtain ⟨locs, X, eT, N, hn0, hx, hZ, hown, hby, hml, hrt, hlk⟩ := Y
  subst hp
  obtain ⟨T', X', e', st⟩ := Jvm.RoadKit.getF X hx hZ hown w via eT F (g := mkF m pc L (.ref a :: S)) rfl rfl (hb hby hd)
  exact (q T' ⟨locs, X', e', N, hn0, hx, hZ, hown, hby, hml, hrt, hlk⟩).of1 st
theorem Gl.getS (Y : Sd Z own bs mx ret n0 p l e R s m args below meth c T h k n) {i : Nat} {R0 O f d host : String} {v : Value} (w : (Jvm.Cond.fieldLink own i R0 f d).before a0 Z = true ∨ (Jvm.Cond.fieldLinkNest own i R0 f d host).before a0 Z = true) (via : Via Z R0 O f d) (F : Sta Z h O f d v) (hd : decode bs pc = .ok (.getstatic i, 3)) (hp : pc + 3 = pc') (q : ∀ T', Sd Z own bs mx ret n0 p l e R s m args below meth c T' h k n → Gl p e below P (T'.setTop (mkF m pc' L (v :: S)))) : Gl p e below P (T.setTop (mkF m pc L S)) := by
  obtain ⟨locs, X, eT, N, hn0, hx, hZ, hown, hby, hml, hrt, hlk⟩ := Y
  subst hp
  obtain ⟨T', X', e', st⟩ := getS2 X hx hZ hown w via eT F (g := mkF m pc L S) rfl (hb hby hd)
  exact (q T' ⟨locs, X', e', N, hn0, hx, hZ, hown, hby, hml, hrt, hlk⟩).of1 st
theorem Gl.putF (Y : Sd Z own bs mx ret n0 p l e R s m args below meth c T h k n) {i kk : Nat} {R0 O f d host C : String} {ty : FieldType} {a : Addr} {v old : Value} (w : (Jvm.Cond.fieldLink own i R0 f d).before a0 Z = true ∨ (Jvm.Cond.fieldLinkNest own i R0 f d host).before a0 Z = true) (via : Via Z R0 O f d) (F : Fld Z h a O f d old) (E : Exa Z h a C) (Lw : (Jvm.Cond.lays C O f d).before a0 Z = true ∨ ((Jvm.Cond.laysFinal C O f d).before a0 Z = true ∧ own = O ∧ meth.name = "<init>")) (wi : (Jvm.Cond.instantiable C kk).before a0 Z = true) (ha : n0 ≤ a) (hty : parseFieldDescriptor d = some ty) (hn : narrow ty v = v) (hf : fits ty v = true) (hd : decode bs pc = .ok (.putfield i, 3)) (hp : pc + 3 = pc') (q : ∀ T' h', Sd Z own bs mx ret n0 p l e R s m args below meth c T' h' k n → Wr h h' a (Jvm.RoadKit.slotOf Z O f d) v → Gl p e below P (T'.setTop (mkF m pc' L S))) : Gl p e below P (T.setTop (mkF m pc L (v :: .ref a :: S))) := by
  obtain ⟨locs, X, eT, N, hn0, hx, hZ, hown, hby, hml, hrt, hlk⟩ := Y
  subst hp
  obtain ⟨T', h', X', e', W, st⟩ := Jvm.RoadKit.putF X hx hZ hown w via eT F E Lw wi hty hn hf (g := mkF m pc L (v :: .ref a :: S)) rfl rfl (hb hby hd)
  exact (q T' h' ⟨_, X', e', Fr.snoc X' N ha, hn0, hx, hZ, hown, hby, hml, hrt, hlk⟩ W).of1 st
theorem Gl.putFN (Y : Sd Z own bs mx ret n0 p l e R s m args below meth c T h k n) {i kk : Nat} {R0 O f d C : String} {ty : FieldType} {a : Addr} {v v' old : Value} (w : (Jvm.Cond.fieldLink own i R0 f d).before a0 Z = true) (via : Via Z R0 O f d) (F : Fld Z h a O f d old) (E : Exa Z h a C) (Lw : (Jvm.Cond.lays C O f d).before a0 Z = true ∨ ((Jvm.Cond.laysFinal C O f d).before a0 Z = true ∧ own = O ∧ meth.name = "<init>")) (wi : (Jvm.Cond.instantiable C kk).before a0 Z = true) (ha : n0 ≤ a) (hty : parseFieldDescriptor d = some ty) (hn : narrow ty v = v') (hf : fits ty v' = true) (hd : decode bs pc = .ok (.putfield i, 3)) (hp : pc + 3 = pc') (q : ∀ T' h', Sd Z own bs mx ret n0 p l e R s m args below meth c T' h' k n → Wr h h' a (Jvm.RoadKit.slotOf Z O f d) v' → Gl p e below P (T'.setTop (mkF m pc' L S))) : Gl p e below P (T.setTop (mkF m pc L (v :: .ref a :: S))) := by
  obtain ⟨locs, X, eT, N, hn0, hx, hZ, hown, hby, hml, hrt, hlk⟩ := Y
  subst hp
  obtain ⟨T', h', X', e', W, st⟩ := Jvm.RoadKit.putFN X hx hZ hown w via eT F E Lw wi hty hn hf (g := mkF m pc L (v :: .ref a :: S)) rfl rfl (hb hby hd)
  exact (q T' h' ⟨_, X', e', Fr.snoc X' N ha, hn0, hx, hZ, hown, hby, hml, hrt, hlk⟩ W).of1 st
theorem Gl.newO (Y : Sd Z own bs mx ret n0 p l e R s m args below meth c T h k n) {i sl : Nat} {C : String} (w : (Jvm.Cond.classLink own i C).before a0 Z = true) (wi : (Jvm.Cond.instantiable C sl).before a0 Z = true) (wz : (Jvm.Cond.initialized C).before a0 Z = true) (hc : k + 1 ≤ R.cells) (hl : n + sl ≤ R.slots) (hd : decode bs pc = .ok (.new i, 3)) (hp : pc + 3 = pc') (q : ∀ T' h' b, Sd Z own bs mx ret n0 p l e R s m args below meth c T' h' (k + 1) (n + sl) → Ext h h' → b = h.size → n0 ≤ b → Exa Z h' b C → (∀ {O nm d : String} {ty : FieldType}, Laid Z a0 C O nm d → parseFieldDescriptor d = some ty → Fld Z h' b O nm d (defaultValue ty)) → Gl p e below P (T'.setTop (mkF m pc' L (.ref b :: S)))) : Gl p e below P (T.setTop (mkF m pc L S)) := by
  obtain ⟨locs, X, eT, N, hn0, hx, hZ, hown, hby, hml, hrt, hlk⟩ := Y
  subst hp
  obtain ⟨T', h', X', e', E, A, D, -, st⟩ := Jvm.RoadKit.newO X hx hZ hown w wi wz eT (g := mkF m pc L S) rfl (hb hby hd) hc hl
  exact (q T' h' h.size ⟨locs, X', e', N, hn0, hx, hZ, hown, hby, hml, hrt, hlk⟩ E rfl (eT ▸ Nat.le_trans hn0 (own_grow X)) A D).of1 st
theorem Gl.newP (Y : Sd Z own bs mx ret n0 p l e R s m args below meth c T h k n) {aty : ArrayType} {ty : FieldType} {z : Int32} (cap : Nat) (hat : newarray.typeOf aty = ty) (w : (Jvm.Cond.arrayClass ty).before a0 Z = true) (hz : ¬ z < 0) (hcap : z.toNatClampNeg ≤ cap) (hcb : cap * 8 ≤ 536870912) (hc : k + 1 ≤ R.cells) (hl : n + cap ≤ R.slots) (hd : decode bs pc = .ok (.newarray aty, 2)) (hp : pc + 2 = pc') (q : ∀ T' h' b ck, Sd Z own bs mx ret n0 p l e R s m args below meth c T' h' (k + 1) (n + cap) → Ext h h' → b = h.size → n0 ≤ b → Arv Z h' b ck ty z [] (defaultValue ty) → Gl p e below P (T'.setTop (mkF m pc' L (.ref b :: S)))) : Gl p e below P (T.setTop (mkF m pc L (.int z :: S))) := by
  obtain ⟨locs, X, eT, N, hn0, hx, hZ, hown, hby, hml, hrt, hlk⟩ := Y
  subst hp hat
  obtain ⟨T', h', ck, X', e', E, A, st⟩ := Jvm.RoadKit.newP X hx hZ w eT (g := mkF m pc L (.int z :: S)) rfl (hb hby hd) rfl hz hcap hcb hc hl
  exact (q T' h' h.size ck ⟨locs, X', e', N, hn0, hx, hZ, hown, hby, hml, hrt, hlk⟩ E rfl (eT ▸ Nat.le_trans hn0 (own_grow X)) (Arv.new A hz)).of1 st
theorem Gl.iastore (Y : Sd Z own bs mx ret n0 p l e R s m args below meth c T h k n) {a : Addr} {ck : ClassId} {z j : Int32} {x : Int32} {vs : List Value} {d v : Value} {ix : Nat} (F : Arv Z h a ck .int z vs d) (hv : .int x = v) (hj : ¬ j < 0 ∧ j < z) (hjx : j.toNatClampNeg = ix) (hlen : ix < vs.length) (ha : n0 ≤ a) (hd : decode bs pc = .ok (.iastore, 1)) (hp : pc + 1 = pc') (q : ∀ T' h', Sd Z own bs mx ret n0 p l e R s m args below meth c T' h' k n → Wr h h' a ix v → Arv Z h' a ck .int z (vs.set ix v) d → Gl p e below P (T'.setTop (mkF m pc' L S))) : Gl p e below P (T.setTop (mkF m pc L (.int x :: .int j :: .ref a :: S))) := by
  obtain ⟨locs, X, eT, N, hn0, hx, hZ, hown, hby, hml, hrt, hlk⟩ := Y
  subst hp hv hjx
  obtain ⟨cl, A, C1, S1, N1, H, Gf⟩ := F
  obtain ⟨T', h', X', e', W, st⟩ := stI X hx hZ eT A (inb_of S1 hj) (g := mkF m pc L (.int x :: .int j :: .ref a :: S)) rfl rfl (hb hby hd)
  exact (q T' h' ⟨_, X', e', Fr.snoc X' N ha, hn0, hx, hZ, hown, hby, hml, hrt, hlk⟩ W (Arv.set A C1 S1 N1 H Gf rfl W _ rfl hlen)).of1 st
theorem Gl.lastore (Y : Sd Z own bs mx ret n0 p l e R s m args below meth c T h k n) {a : Addr} {ck : ClassId} {z j : Int32} {x : Int64} {vs : List Value} {d v : Value} {ix : Nat} (F : Arv Z h a ck .long z vs d) (hv : .long x = v) (hj : ¬ j < 0 ∧ j < z) (hjx : j.toNatClampNeg = ix) (hlen : ix < vs.length) (ha : n0 ≤ a) (hd : decode bs pc = .ok (.lastore, 1)) (hp : pc + 1 = pc') (q : ∀ T' h', Sd Z own bs mx ret n0 p l e R s m args below meth c T' h' k n → Wr h h' a ix v → Arv Z h' a ck .long z (vs.set ix v) d → Gl p e below P (T'.setTop (mkF m pc' L S))) : Gl p e below P (T.setTop (mkF m pc L (.long x :: .int j :: .ref a :: S))) := by
  obtain ⟨locs, X, eT, N, hn0, hx, hZ, hown, hby, hml, hrt, hlk⟩ := Y
  subst hp hv hjx
  obtain ⟨cl, A, C1, S1, N1, H, Gf⟩ := F
  obtain ⟨T', h', X', e', W, st⟩ := stJ X hx hZ eT A (inb_of S1 hj) (g := mkF m pc L (.long x :: .int j :: .ref a :: S)) rfl rfl (hb hby hd)
  exact (q T' h' ⟨_, X', e', Fr.snoc X' N ha, hn0, hx, hZ, hown, hby, hml, hrt, hlk⟩ W (Arv.set A C1 S1 N1 H Gf rfl W _ rfl hlen)).of1 st
theorem Gl.castore (Y : Sd Z own bs mx ret n0 p l e R s m args below meth c T h k n) {a : Addr} {ck : ClassId} {z j : Int32} {x : Int32} {vs : List Value} {d v : Value} {ix : Nat} (F : Arv Z h a ck .char z vs d) (hv : .int (nar .char x) = v) (hj : ¬ j < 0 ∧ j < z) (hjx : j.toNatClampNeg = ix) (hlen : ix < vs.length) (ha : n0 ≤ a) (hd : decode bs pc = .ok (.castore, 1)) (hp : pc + 1 = pc') (q : ∀ T' h', Sd Z own bs mx ret n0 p l e R s m args below meth c T' h' k n → Wr h h' a ix v → Arv Z h' a ck .char z (vs.set ix v) d → Gl p e below P (T'.setTop (mkF m pc' L S))) : Gl p e below P (T.setTop (mkF m pc L (.int x :: .int j :: .ref a :: S))) := by
  obtain ⟨locs, X, eT, N, hn0, hx, hZ, hown, hby, hml, hrt, hlk⟩ := Y
  subst hp hv hjx
  obtain ⟨cl, A, C1, S1, N1, H, Gf⟩ := F
  obtain ⟨T', h', X', e', W, st⟩ := stC X hx hZ eT A (inb_of S1 hj) (g := mkF m pc L (.int x :: .int j :: .ref a :: S)) rfl rfl (hb hby hd)
  exact (q T' h' ⟨_, X', e', Fr.snoc X' N ha, hn0, hx, hZ, hown, hby, hml, hrt, hlk⟩ W (Arv.set A C1 S1 N1 H Gf (fits_nar_char _) W _ rfl hlen)).of1 st
theorem Gl.sastore (Y : Sd Z own bs mx ret n0 p l e R s m args below meth c T h k n) {a : Addr} {ck : ClassId} {z j : Int32} {x : Int32} {vs : List Value} {d v : Value} {ix : Nat} (F : Arv Z h a ck .short z vs d) (hv : .int (nar .short x) = v) (hj : ¬ j < 0 ∧ j < z) (hjx : j.toNatClampNeg = ix) (hlen : ix < vs.length) (ha : n0 ≤ a) (hd : decode bs pc = .ok (.sastore, 1)) (hp : pc + 1 = pc') (q : ∀ T' h', Sd Z own bs mx ret n0 p l e R s m args below meth c T' h' k n → Wr h h' a ix v → Arv Z h' a ck .short z (vs.set ix v) d → Gl p e below P (T'.setTop (mkF m pc' L S))) : Gl p e below P (T.setTop (mkF m pc L (.int x :: .int j :: .ref a :: S))) := by
  obtain ⟨locs, X, eT, N, hn0, hx, hZ, hown, hby, hml, hrt, hlk⟩ := Y
  subst hp hv hjx
  obtain ⟨cl, A, C1, S1, N1, H, Gf⟩ := F
  obtain ⟨T', h', X', e', W, st⟩ := stS X hx hZ eT A (inb_of S1 hj) (g := mkF m pc L (.int x :: .int j :: .ref a :: S)) rfl rfl (hb hby hd)
  exact (q T' h' ⟨_, X', e', Fr.snoc X' N ha, hn0, hx, hZ, hown, hby, hml, hrt, hlk⟩ W (Arv.set A C1 S1 N1 H Gf (fits_nar_short _) W _ rfl hlen)).of1 st
theorem Gl.bastore (Y : Sd Z own bs mx ret n0 p l e R s m args below meth c T h k n) {a : Addr} {ck : ClassId} {z j : Int32} {x : Int32} {vs : List Value} {d v : Value} {ix : Nat} (F : Arv Z h a ck .byte z vs d) (hv : .int (nar .byte x) = v) (hj : ¬ j < 0 ∧ j < z) (hjx : j.toNatClampNeg = ix) (hlen : ix < vs.length) (ha : n0 ≤ a) (hd : decode bs pc = .ok (.bastore, 1)) (hp : pc + 1 = pc') (q : ∀ T' h', Sd Z own bs mx ret n0 p l e R s m args below meth c T' h' k n → Wr h h' a ix v → Arv Z h' a ck .byte z (vs.set ix v) d → Gl p e below P (T'.setTop (mkF m pc' L S))) : Gl p e below P (T.setTop (mkF m pc L (.int x :: .int j :: .ref a :: S))) := by
  obtain ⟨locs, X, eT, N, hn0, hx, hZ, hown, hby, hml, hrt, hlk⟩ := Y
  subst hp hv hjx
  obtain ⟨cl, A, C1, S1, N1, H, Gf⟩ := F
  obtain ⟨T', h', X', e', W, st⟩ := stB X hx hZ eT A (inb_of S1 hj) (g := mkF m pc L (.int x :: .int j :: .ref a :: S)) rfl rfl (hb hby hd)
  exact (q T' h' ⟨_, X', e', Fr.snoc X' N ha, hn0, hx, hZ, hown, hby, hml, hrt, hlk⟩ W (Arv.set A C1 S1 N1 H Gf (fits_nar_byte _) W _ rfl hlen)).of1 st
theorem Gl.initO (Y : Sd Z own bs mx ret n0 p l e R s m args below meth c T h k n) {i : Nat} {a : Addr} (w1 : (Jvm.Cond.methodLink own i Lib.objectInit).before a0 Z = true) (w2 : (Jvm.Cond.instanceMethod Lib.objectInit).before a0 Z = true) (w3 : (Jvm.Cond.code Lib.objectInit ⟨#[0xb1]⟩ 1 none).before a0 Z = true) (hL : L.size = mx) (hf : 1 ≤ R.frames) (hl : (S.map fun v => v.category).sum + 12 ≤ R.locals) (hd : decode bs pc = .ok (.invokespecial i, 3)) (hp : pc + 3 = pc') (q : ∀ T', Sd Z own bs mx ret n0 p l e R s m args below meth c T' h k n → Gl p e below P (T'.setTop (mkF m pc' L S))) : Gl p e below P (T.setTop (mkF m pc L (.ref a :: S))) := by
  obtain ⟨locs, X, eT, N, hn0, hx, hZ, hown, hby, hml, hrt, hlk⟩ := Y
  subst hp
  obtain ⟨T', X', e', st⟩ := Jvm.RoadKit.initO X hx hZ hown w1 w2 w3 eT (g := mkF m pc L (.ref a :: S)) rfl (by rw [hml]; exact hL) rfl (hb hby hd) hf (W := (S.map fun v => v.category).sum) (by show 2 * 0 + _ ≤ _; omega) hl
  exact (q T' ⟨locs, X', e', N, hn0, hx, hZ, hown, hby, hml, hrt, hlk⟩).of1 st
theorem Gl.castY (Y : Sd Z own bs mx ret n0 p l e R s m args below meth c T h k n) {i : Nat} {K : String} {a : Addr} (w : (Jvm.Cond.classLink own i K).before a0 Z = true) (F : Ins Z h a K true) (hd : decode bs pc = .ok (.checkcast i, 3)) (hp : pc + 3 = pc') (q : ∀ T', Sd Z own bs mx ret n0 p l e R s m args below meth c T' h k n → Gl p e below P (T'.setTop (mkF m pc' L (.ref a :: S)))) : Gl p e below P (T.setTop (mkF m pc L (.ref a :: S))) := by
  obtain ⟨locs, X, eT, N, hn0, hx, hZ, hown, hby, hml, hrt, hlk⟩ := Y
  subst hp
  obtain ⟨T', X', e', st⟩ := Jvm.RoadKit.castY X hx hZ hown w eT F (g := mkF m pc L (.ref a :: S)) rfl rfl (hb hby hd)
  exact (q T' ⟨locs, X', e', N, hn0, hx, hZ, hown, hby, hml, hrt, hlk⟩).of1 st
theorem Gl.instY (Y : Sd Z own bs mx ret n0 p l e R s m args below meth c T h k n) {i : Nat} {K : String} {a : Addr} (w : (Jvm.Cond.classLink own i K).before a0 Z = true) (F : Ins Z h a K true) (hd : decode bs pc = .ok (.instanceof i, 3)) (hp : pc + 3 = pc') (q : ∀ T', Sd Z own bs mx ret n0 p l e R s m args below meth c T' h k n → Gl p e below P (T'.setTop (mkF m pc' L (.int 1 :: S)))) : Gl p e below P (T.setTop (mkF m pc L (.ref a :: S))) := by
  obtain ⟨locs, X, eT, N, hn0, hx, hZ, hown, hby, hml, hrt, hlk⟩ := Y
  subst hp
  obtain ⟨T', X', e', st⟩ := Jvm.RoadKit.instY X hx hZ hown w eT F (g := mkF m pc L (.ref a :: S)) rfl rfl (hb hby hd)
  exact (q T' ⟨locs, X', e', N, hn0, hx, hZ, hown, hby, hml, hrt, hlk⟩).of1 st
theorem Gl.instNo (Y : Sd Z own bs mx ret n0 p l e R s m args below meth c T h k n) {i : Nat} {K C : String} {a : Addr} (w : (Jvm.Cond.classLink own i K).before a0 Z = true) (E : Exa Z h a C) (F : ∃ c t, Z.vm.findClass C = some c ∧ Z.vm.findClass K = some t ∧ Z.vm.assignable c t = false) (hd : decode bs pc = .ok (.instanceof i, 3)) (hp : pc + 3 = pc') (q : ∀ T', Sd Z own bs mx ret n0 p l e R s m args below meth c T' h k n → Gl p e below P (T'.setTop (mkF m pc' L (.int 0 :: S)))) : Gl p e below P (T.setTop (mkF m pc L (.ref a :: S))) := by
  obtain ⟨locs, X, eT, N, hn0, hx, hZ, hown, hby, hml, hrt, hlk⟩ := Y
  subst hp
  obtain ⟨T', X', e', st⟩ := Jvm.RoadKit.instNo X hx hZ hown w eT E F (g := mkF m pc L (.ref a :: S)) rfl rfl (hb hby hd)
  exact (q T' ⟨locs, X', e', N, hn0, hx, hZ, hown, hby, hml, hrt, hlk⟩).of1 st
theorem Gl.castNull (Y : Sd Z own bs mx ret n0 p l e R s m args below meth c T h k n) {i : Nat} (hd : decode bs pc = .ok (.checkcast i, 3)) (hp : pc + 3 = pc') (q : Gl p e below P (T.setTop (mkF m pc' L (.null :: S)))) : Gl p e below P (T.setTop (mkF m pc L (.null :: S))) := by
  obtain ⟨locs, X, eT, N, hn0, hx, hZ, hown, hby, hml, hrt, hlk⟩ := Y
  subst hp
  exact q.of1 fun t q => X.checkcastNull hx (g := mkF m pc L (.null :: S)) rfl rfl (hb hby hd) t q
theorem Gl.instNull (Y : Sd Z own bs mx ret n0 p l e R s m args below meth c T h k n) {i : Nat} (hd : decode bs pc = .ok (.instanceof i, 3)) (hp : pc + 3 = pc') (q : Gl p e below P (T.setTop (mkF m pc' L (.int 0 :: S)))) : Gl p e below P (T.setTop (mkF m pc L (.null :: S))) := by
  obtain ⟨locs, X, eT, N, hn0, hx, hZ, hown, hby, hml, hrt, hlk⟩ := Y
  subst hp
  exact q.of1 fun t q => X.instanceofNull hx (g := mkF m pc L (.null :: S)) rfl rfl (hb hby hd) t q
theorem Gl.newR (Y : Sd Z own bs mx ret n0 p l e R s m args below meth c T h k n) {i : Nat} {C : String} {z : Int32} (cap : Nat) (w1 : (Jvm.Cond.classLink own i C).before a0 Z = true) (w2 : (Jvm.Cond.arrayOver (.object C)).before a0 Z = true) (hz : ¬ z < 0) (hcap : z.toNatClampNeg ≤ cap) (hcb : cap * 8 ≤ 536870912) (hc : k + 1 ≤ R.cells) (hl : n + cap ≤ R.slots) (hd : decode bs pc = .ok (.anewarray i, 3)) (hp : pc + 3 = pc') (q : ∀ T' h' b ck, Sd Z own bs mx ret n0 p l e R s m args below meth c T' h' (k + 1) (n + cap) → Ext h h' → b = h.size → n0 ≤ b → Arv Z h' b ck (.object C) z [] .null → Gl p e below P (T'.setTop (mkF m pc' L (.ref b :: S)))) : Gl p e below P (T.setTop (mkF m pc L (.int z :: S))) := by
  obtain ⟨locs, X, eT, N, hn0, hx, hZ, hown, hby, hml, hrt, hlk⟩ := Y
  subst hp
  obtain ⟨T', h', ck, X', e', E, A, -, st⟩ := Jvm.RoadKit.newR X hx hZ hown w1 w2 eT (g := mkF m pc L (.int z :: S)) rfl (hb hby hd) rfl hz hcap hcb hc hl
  exact (q T' h' h.size ck ⟨locs, X', e', N, hn0, hx, hZ, hown, hby, hml, hrt, hlk⟩ E rfl (eT ▸ Nat.le_trans hn0 (own_grow X)) (Arv.new A hz)).of1 st
theorem Gl.callS (Y : Sd Z own bs mx ret n0 p l e R s m args below meth c T h k n) {y : MethodName} {bs2 : ByteArray} {mx2 : Nat} {ret2 : Option FieldType} {rm : Room} {as : Array Value} {Q : Option Value → Heap → Prop} {i : Nat} {argsL rest : List Value} (w1 : (Jvm.Cond.methodLink own i y).before a0 Z = true) (w2 : (Jvm.Cond.static y).before a0 Z = true) (w3 : (Jvm.Cond.initialized y.cls).before a0 Z = true) (w4 : (Jvm.Cond.code y bs2 mx2 ret2).before a0 Z = true) (hy : y.cls ≠ "java/lang/invoke/MethodHandle" ∧ y.cls ≠ "java/lang/invoke/VarHandle") (hM : OMet l Z [] y bs2 mx2 ret2 rm as h n0 Q) (has : argsL.toArray = as) (hS : S = argsL.reverse ++ rest) (hlen : ∀ sig, parseMethodDescriptor y.desc = some sig → argsL.length = sig.parameters.length) (hL : L.size = mx) (hf : rm.frames + 1 ≤ R.frames) (hl : (rest.map fun v => v.category).sum + (mx2 + 11) + rm.locals ≤ R.locals) (hc : k + rm.cells ≤ R.cells) (hs : n + rm.slots ≤ R.slots) (hd : decode bs pc = .ok (.invokestatic i, 3)) (hp : pc + 3 = pc') (q : ∀ v T' h', Sd Z own bs mx ret n0 p l e R s m args below meth c T' h' (k + rm.cells) (n + rm.slots) → Q v h' → Gl p e below P (T'.setTop (mkF m pc' L (v.toList ++ rest)))) : Gl p e below P (T.setTop (mkF m pc L S)) := by
  obtain ⟨locs, X, eT, N, hn0, hx, hZ, hown, hby, hml, hrt, hlk⟩ := Y
  subst hp has hS
  obtain ⟨v, vm₁, ⟨T', L', k', n'⟩, -, X', hB, st⟩ := Jvm.LawKit.callS X hx (y := y) hown (mvT hZ w1) (mvT hZ w2) (mvT hZ w3) (mvT hZ w4) hy (backOf (Q := fun v h' L => Q v h' ∧ Fr n0 L) (W := (rest.map fun v => v.category).sum) (OMet.un hM) hZ w4 w3 hf hl) (g := mkF m pc L (argsL.reverse ++ rest)) rfl (by rw [hml]; exact hL) (argsL := argsL) (rest := rest) hlen rfl (by show 2 * 0 + _ ≤ _; omega) (hb hby hd) (fun _ _ => ⟨rfl, eT, hc, hs⟩)
  obtain ⟨Lc, ⟨hQ, NL⟩, l1, l2, l3⟩ := hB
  dsimp only [Pt.U, Pt.locs, Pt.cells, Pt.slots] at X' l1 l2 l3 st hQ
  subst l1 l2 l3
  exact (q v T' T'.heap ⟨_, X', rfl, Fr.app N NL, hn0, hx, hZ, hown, hby, hml, hrt, hlk⟩ hQ).of1 st
theorem Gl.callN (Y : Sd Z own bs mx ret n0 p l e R s m args below meth c T h k n) {y : MethodName} {bs2 : ByteArray} {mx2 : Nat} {rm : Room} {as : Array Value} {Q : Option Value → Heap → Prop} {i : Nat} {argsL rest : List Value} {a : Addr} (hy1 : y.name = "<init>") (w1 : (Jvm.Cond.methodLink own i y).before a0 Z = true) (w2 : (Jvm.Cond.instanceMethod y).before a0 Z = true) (w3 : (Jvm.Cond.initialized y.cls).before a0 Z = true) (w4 : (Jvm.Cond.code y bs2 mx2 none).before a0 Z = true) (hy : y.cls ≠ "java/lang/invoke/MethodHandle" ∧ y.cls ≠ "java/lang/invoke/VarHandle") (hM : OMet l Z [] y bs2 mx2 none rm as h n0 Q) (has : (.ref a :: argsL).toArray = as) (hS : S = argsL.reverse ++ .ref a :: rest) (hlen : ∀ sig, parseMethodDescriptor y.desc = some sig → argsL.length = sig.parameters.length) (hL : L.size = mx) (hf : rm.frames + 1 ≤ R.frames) (hl : (rest.map fun v => v.category).sum + (mx2 + 11) + rm.locals ≤ R.locals) (hc : k + rm.cells ≤ R.cells) (hs : n + rm.slots ≤ R.slots) (hd : decode bs pc = .ok (.invokespecial i, 3)) (hp : pc + 3 = pc') (q : ∀ v T' h', Sd Z own bs mx ret n0 p l e R s m args below meth c T' h' (k + rm.cells) (n + rm.slots) → Q v h' → Gl p e below P (T'.setTop (mkF m pc' L (v.toList ++ rest)))) : Gl p e below P (T.setTop (mkF m pc L S)) := by
  obtain ⟨locs, X, eT, N, hn0, hx, hZ, hown, hby, hml, hrt, hlk⟩ := Y
  subst hp has hS
  obtain ⟨v, vm₁, ⟨T', L', k', n'⟩, -, X', hB, st⟩ := X.specialBack hx (y := y) hy1 hown (mvT hZ w1) (mvT hZ w2) (mvT hZ w4) hy (backOf (Q := fun v h' L => Q v h' ∧ Fr n0 L) (W := (rest.map fun v => v.category).sum) (OMet.un hM) hZ w4 w3 hf hl) (g := mkF m pc L (argsL.reverse ++ .ref a :: rest)) rfl (by rw [hml]; exact hL) (Steps.refl _) (a := a) (argsL := argsL) (rest := rest) hlen rfl (by show 2 * 0 + _ ≤ _; omega) (hb hby hd) (fun _ _ => ⟨rfl, eT, hc, hs⟩)
  obtain ⟨Lc, ⟨hQ, NL⟩, l1, l2, l3⟩ := hB
  dsimp only [Pt.U, Pt.locs, Pt.cells, Pt.slots] at X' l1 l2 l3 st hQ
  subst l1 l2 l3
  exact Gl.via st (q v T' T'.heap ⟨_, X', rfl, Fr.app N NL, hn0, hx, hZ, hown, hby, hml, hrt, hlk⟩ hQ)
theorem Gl.callV (Y : Sd Z own bs mx ret n0 p l e R s m args below meth c T h k n) {y : MethodName} {bs2 : ByteArray} {mx2 : Nat} {ret2 : Option FieldType} {rm : Room} {as : Array Value} {Q : Option Value → Heap → Prop} {i : Nat} {z : MethodName} {C : String} {argsL rest : List Value} {a : Addr} (w1 : (Jvm.Cond.methodLink own i z).before a0 Z = true) (wd : (Jvm.Cond.declares z).before a0 Z = true) (ws0 : (Jvm.Cond.selects z.cls z z).before a0 Z = true) (ws : (Jvm.Cond.selects C z y).before a0 Z = true) (w2 : (Jvm.Cond.instanceMethod y).before a0 Z = true) (w3 : (Jvm.Cond.initialized y.cls).before a0 Z = true) (w4 : (Jvm.Cond.code y bs2 mx2 ret2).before a0 Z = true) (hy : z.cls ≠ "java/lang/invoke/MethodHandle" ∧ z.cls ≠ "java/lang/invoke/VarHandle") (E : Exa Z h a C) (hM : OMet l Z [] y bs2 mx2 ret2 rm as h n0 Q) (has : (.ref a :: argsL).toArray = as) (hS : S = argsL.reverse ++ .ref a :: rest) (hlen : ∀ sig, parseMethodDescriptor z.desc = some sig → argsL.length = sig.parameters.length) (hL : L.size = mx) (hf : rm.frames + 1 ≤ R.frames) (hl : (rest.map fun v => v.category).sum + (mx2 + 11) + rm.locals ≤ R.locals) (hc : k + rm.cells ≤ R.cells) (hs : n + rm.slots ≤ R.slots) (hd : decode bs pc = .ok (.invokevirtual i, 3)) (hp : pc + 3 = pc') (q : ∀ v T' h', Sd Z own bs mx ret n0 p l e R s m args below meth c T' h' (k + rm.cells) (n + rm.slots) → Q v h' → Gl p e below P (T'.setTop (mkF m pc' L (v.toList ++ rest)))) : Gl p e below P (T.setTop (mkF m pc L S)) := by
  obtain ⟨locs, X, eT, N, hn0, hx, hZ, hown, hby, hml, hrt, hlk⟩ := Y
  subst hp has hS
  obtain ⟨cq, kq, qa, qb, qc⟩ := isOf hZ eT E
  obtain ⟨v, vm₁, ⟨T', L', k', n'⟩, -, X', hB, st⟩ := X.virtualBack hx (y := z) (z := y) hown (mvT hZ w1) (mvT hZ wd) (notFace_of_selects (args := #[]) (mvT hZ ws0)) (mvT hZ ws) (mvT hZ w2) hy (backOf (Q := fun v h' L => Q v h' ∧ Fr n0 L) (W := (rest.map fun v => v.category).sum) (OMet.un hM) hZ w4 w3 hf hl) qa qc (g := mkF m pc L (argsL.reverse ++ .ref a :: rest)) rfl (by rw [hml]; exact hL) (Steps.refl _) (argsL := argsL) (rest := rest) hlen rfl (by show 2 * 0 + _ ≤ _; omega) (hb hby hd) (fun _ _ => ⟨rfl, eT, hc, hs⟩)
  obtain ⟨Lc, ⟨hQ, NL⟩, l1, l2, l3⟩ := hB
  dsimp only [Pt.U, Pt.locs, Pt.cells, Pt.slots] at X' l1 l2 l3 st hQ
  subst l1 l2 l3
  exact Gl.via st (q v T' T'.heap ⟨_, X', rfl, Fr.app N NL, hn0, hx, hZ, hown, hby, hml, hrt, hlk⟩ hQ)
theorem Gl.callP (Y : Sd Z own bs mx ret n0 p l e R s m args below meth c T h k n) {y : MethodName} {bs2 : ByteArray} {mx2 : Nat} {ret2 : Option FieldType} {rm : Room} {as : Array Value} {Q : Option Value → Heap → Prop} {i : Nat} {C : String} {kk : Nat} {argsL rest : List Value} {a : Addr} (w1 : (Jvm.Cond.methodLink own i y).before a0 Z = true) (w2 : (Jvm.Cond.instanceMethod y).before a0 Z = true) (wp : (Jvm.Cond.privateMethod y).before a0 Z = true) (wi : (Jvm.Cond.instantiable y.cls kk).before a0 Z = true) (w3 : (Jvm.Cond.initialized y.cls).before a0 Z = true) (w4 : (Jvm.Cond.code y bs2 mx2 ret2).before a0 Z = true) (hy : y.cls ≠ "java/lang/invoke/MethodHandle" ∧ y.cls ≠ "java/lang/invoke/VarHandle") (E : Exa Z h a C) (hM : OMet l Z [] y bs2 mx2 ret2 rm as h n0 Q) (has : (.ref a :: argsL).toArray = as) (hS : S = argsL.reverse ++ .ref a :: rest) (hlen : ∀ sig, parseMethodDescriptor y.desc = some sig → argsL.length = sig.parameters.length) (hL : L.size = mx) (hf : rm.frames + 1 ≤ R.frames) (hl : (rest.map fun v => v.category).sum + (mx2 + 11) + rm.locals ≤ R.locals) (hc : k + rm.cells ≤ R.cells) (hs : n + rm.slots ≤ R.slots) (hd : decode bs pc = .ok (.invokevirtual i, 3)) (hp : pc + 3 = pc') (q : ∀ v T' h', Sd Z own bs mx ret n0 p l e R s m args below meth c T' h' (k + rm.cells) (n + rm.slots) → Q v h' → Gl p e below P (T'.setTop (mkF m pc' L (v.toList ++ rest)))) : Gl p e below P (T.setTop (mkF m pc L S)) := by
  obtain ⟨locs, X, eT, N, hn0, hx, hZ, hown, hby, hml, hrt, hlk⟩ := Y
  subst hp has hS
  obtain ⟨cq, qa, qb⟩ := E.cell
  have hpr := Cond.privateMethod_at (mvP hZ wp (args := #[]))
  obtain ⟨c1, k1, i1, i2, -, i4, -⟩ := Cond.instantiable_spec (mv (args := args) hZ wi)
  have i5 : k1.isInterface = false := by cases hi : k1.isInterface <;> simp [hi] at i4 ⊢
  have hsel := selects_self_of_private (args := args) i1 i2 i5 hpr (mvT hZ w2) hy
  obtain ⟨v, vm₁, ⟨T', L', k', n'⟩, -, X', hB, st⟩ := X.privateBack hx (y := y) hown (mvT hZ w1) (mvT hZ w2) hsel hpr (mvT hZ w4) hy (backOf (Q := fun v h' L => Q v h' ∧ Fr n0 L) (W := (rest.map fun v => v.category).sum) (OMet.un hM) hZ w4 w3 hf hl) (g := mkF m pc L (argsL.reverse ++ .ref a :: rest)) rfl (by rw [hml]; exact hL) (Steps.refl _) (a := a) (by rw [eT]; exact qa) qb (argsL := argsL) (rest := rest) hlen rfl (by show 2 * 0 + _ ≤ _; omega) (hb hby hd) (fun _ _ => ⟨rfl, eT, hc, hs⟩)
  obtain ⟨Lc, ⟨hQ, NL⟩, l1, l2, l3⟩ := hB
  dsimp only [Pt.U, Pt.locs, Pt.cells, Pt.slots] at X' l1 l2 l3 st hQ
  subst l1 l2 l3
  exact Gl.via st (q v T' T'.heap ⟨_, X', rfl, Fr.app N NL, hn0, hx, hZ, hown, hby, hml, hrt, hlk⟩ hQ)
theorem Gl.callNN (Y : Sd Z own bs mx ret n0 p l e R s m args below meth c T h k n) {y : MethodName} {bs2 : ByteArray} {mx2 : Nat} {rm : Room} {as : Array Value} {Q : Option Value → Heap → Prop} {i : Nat} {argsL rest : List Value} {host : String} {a : Addr} (hy1 : y.name = "<init>") (w1 : (Jvm.Cond.methodLinkNest own i y host).before a0 Z = true) (w2 : (Jvm.Cond.instanceMethod y).before a0 Z = true) (w3 : (Jvm.Cond.initialized y.cls).before a0 Z = true) (w4 : (Jvm.Cond.code y bs2 mx2 none).before a0 Z = true) (hy : y.cls ≠ "java/lang/invoke/MethodHandle" ∧ y.cls ≠ "java/lang/invoke/VarHandle") (hM : OMet l Z [] y bs2 mx2 none rm as h n0 Q) (has : (.ref a :: argsL).toArray = as) (hS : S = argsL.reverse ++ .ref a :: rest) (hlen : ∀ sig, parseMethodDescriptor y.desc = some sig → argsL.length = sig.parameters.length) (hL : L.size = mx) (hf : rm.frames + 1 ≤ R.frames) (hl : (rest.map fun v => v.category).sum + (mx2 + 11) + rm.locals ≤ R.locals) (hc : k + rm.cells ≤ R.cells) (hs : n + rm.slots ≤ R.slots) (hd : decode bs pc = .ok (.invokespecial i, 3)) (hp : pc + 3 = pc') (q : ∀ v T' h', Sd Z own bs mx ret n0 p l e R s m args below meth c T' h' (k + rm.cells) (n + rm.slots) → Q v h' → Gl p e below P (T'.setTop (mkF m pc' L (v.toList ++ rest)))) : Gl p e below P (T.setTop (mkF m pc L S)) := by
  obtain ⟨locs, X, eT, N, hn0, hx, hZ, hown, hby, hml, hrt, hlk⟩ := Y
  subst hp has hS
  obtain ⟨v, vm₁, ⟨T', L', k', n'⟩, -, X', hB, st⟩ := X.specialBackNest hx (y := y) hy1 hown (Cond.methodLinkNest_wide hZ w1 :) (mvT hZ w2) (mvT hZ w4) hy (backOf (Q := fun v h' L => Q v h' ∧ Fr n0 L) (W := (rest.map fun v => v.category).sum) (OMet.un hM) hZ w4 w3 hf hl) (g := mkF m pc L (argsL.reverse ++ .ref a :: rest)) rfl (by rw [hml]; exact hL) (Steps.refl _) (a := a) (argsL := argsL) (rest := rest) hlen rfl (by show 2 * 0 + _ ≤ _; omega) (hb hby hd) (fun _ _ => ⟨rfl, eT, hc, hs⟩)
  obtain ⟨Lc, ⟨hQ, NL⟩, l1, l2, l3⟩ := hB
  dsimp only [Pt.U, Pt.locs, Pt.cells, Pt.slots] at X' l1 l2 l3 st hQ
  subst l1 l2 l3
  exact Gl.via st (q v T' T'.heap ⟨_, X', rfl, Fr.app N NL, hn0, hx, hZ, hown, hby, hml, hrt, hlk⟩ hQ)
theorem Gl.callVU (Y : Sd Z own bs mx ret n0 p l e R s m args below meth c T h k n) {y : MethodName} {bs2 : ByteArray} {mx2 : Nat} {ret2 : Option FieldType} {rm : Room} {as : Array Value} {Q : Option Value → Heap → Prop} {i : Nat} {owner : String} {z : MethodName} {C : String} {argsL rest : List Value} {a : Addr} (w1 : (Jvm.Cond.methodLink own i z).before a0 Z = true) (w0 : (Jvm.Cond.sameMethod z.cls owner z.name z.desc).before a0 Z = true) (wd : (Jvm.Cond.declares ⟨owner, z.name, z.desc⟩).before a0 Z = true) (ws : (Jvm.Cond.selects C z y).before a0 Z = true) (w2 : (Jvm.Cond.instanceMethod y).before a0 Z = true) (w3 : (Jvm.Cond.initialized y.cls).before a0 Z = true) (w4 : (Jvm.Cond.code y bs2 mx2 ret2).before a0 Z = true) (hy : owner ≠ "java/lang/invoke/MethodHandle" ∧ owner ≠ "java/lang/invoke/VarHandle") (E : Exa Z h a C) (hM : OMet l Z [] y bs2 mx2 ret2 rm as h n0 Q) (has : (.ref a :: argsL).toArray = as) (hS : S = argsL.reverse ++ .ref a :: rest) (hlen : ∀ sig, parseMethodDescriptor z.desc = some sig → argsL.length = sig.parameters.length) (hL : L.size = mx) (hf : rm.frames + 1 ≤ R.frames) (hl : (rest.map fun v => v.category).sum + (mx2 + 11) + rm.locals ≤ R.locals) (hc : k + rm.cells ≤ R.cells) (hs : n + rm.slots ≤ R.slots) (hd : decode bs pc = .ok (.invokevirtual i, 3)) (hp : pc + 3 = pc') (q : ∀ v T' h', Sd Z own bs mx ret n0 p l e R s m args below meth c T' h' (k + rm.cells) (n + rm.slots) → Q v h' → Gl p e below P (T'.setTop (mkF m pc' L (v.toList ++ rest)))) : Gl p e below P (T.setTop (mkF m pc L S)) := by
  obtain ⟨locs, X, eT, N, hn0, hx, hZ, hown, hby, hml, hrt, hlk⟩ := Y
  subst hp has hS
  obtain ⟨cq, kq, qa, qb, qc⟩ := isOf hZ eT E
  obtain ⟨v, vm₁, ⟨T', L', k', n'⟩, -, X', hB, st⟩ := X.virtualBackUp hx (x := z) (y := y) hown (mvT hZ w1) (mvT hZ w0) (mvT hZ wd) hy (mvT hZ ws) (mvT hZ w2) (backOf (Q := fun v h' L => Q v h' ∧ Fr n0 L) (W := (rest.map fun v => v.category).sum) (OMet.un hM) hZ w4 w3 hf hl) qa qc (g := mkF m pc L (argsL.reverse ++ .ref a :: rest)) rfl (by rw [hml]; exact hL) (Steps.refl _) (argsL := argsL) (rest := rest) hlen rfl (by show 2 * 0 + _ ≤ _; omega) (hb hby hd) (fun _ _ => ⟨rfl, eT, hc, hs⟩)
  obtain ⟨Lc, ⟨hQ, NL⟩, l1, l2, l3⟩ := hB
  dsimp only [Pt.U, Pt.locs, Pt.cells, Pt.slots] at X' l1 l2 l3 st hQ
  subst l1 l2 l3
  exact Gl.via st (q v T' T'.heap ⟨_, X', rfl, Fr.app N NL, hn0, hx, hZ, hown, hby, hml, hrt, hlk⟩ hQ)
theorem Gl.fin (Y : Sd Z own bs mx ret n0 p l e R s m args below meth c T h k n) {K M : Nat} {Q : Option Value → Heap → Prop} (hk : k ≤ K) (hm : n ≤ M) {g : JFrame} {v : Option Value} (hv : ret = none → v = none) (st : ∀ fs, (∀ (f : JFrame) (acts : List Action), f.method = m → f.locked = none → f.entered = [] → (doReturn e (T.setTop f) acts v).1 = T.setFrames fs) → Steps p.tables e below (T.setTop g) (T.setFrames fs)) (hQ : Q v h) : Gl p e below (Pst s n0 K M Q) (T.setTop g) := by
  obtain ⟨locs, X, eT, N, hn0, hx, hZ, hown, hby, hml, hrt, hlk⟩ := Y
  obtain ⟨fs, hr, hrun, hended, hW, hsame⟩ := X.leave (v := v) (fun q => hv (hrt.symm.trans q)) hlk
  exact ⟨_, _, st fs hr, hrun, hended, v, locs, rfl, ⟨by show Q v T.heap; rw [eT]; exact hQ, N⟩, ⟨_, rfl⟩, hW, hsame.mono hk hm⟩
theorem Gl.retV (Y : Sd Z own bs mx none n0 p l e R s m args below meth c T h k n) {K M : Nat} {Q : Option Value → Heap → Prop} (hk : k ≤ K) (hm : n ≤ M)  (hd : decode bs pc = .ok (.return_, 1)) (hQ : Q none h) : Gl p e below (Pst s n0 K M Q) (T.setTop (mkF m pc L [])) := by
  have Y0 := Y
  obtain ⟨locs, X, eT, N, hn0, hx, hZ, hown, hby, hml, hrt, hlk⟩ := Y
  exact Gl.fin Y0 hk hm (v := none) (fun q => by first | rfl | cases q) (fun fs hr => X.returnOut hx hrt (hb hby hd) hr) hQ
theorem Gl.retI (Y : Sd Z own bs mx (some .int) n0 p l e R s m args below meth c T h k n) {K M : Nat} {Q : Option Value → Heap → Prop} (hk : k ≤ K) (hm : n ≤ M) {x : Int32} (hd : decode bs pc = .ok (.ireturn, 1)) (hQ : Q (some (.int x)) h) : Gl p e below (Pst s n0 K M Q) (T.setTop (mkF m pc L (.int x :: S))) := by
  have Y0 := Y
  obtain ⟨locs, X, eT, N, hn0, hx, hZ, hown, hby, hml, hrt, hlk⟩ := Y
  exact Gl.fin Y0 hk hm (v := (some (.int x))) (fun q => by first | rfl | cases q) (fun fs hr => retOut X hx hrt rfl (Or.inl ⟨rfl, Or.inl rfl, x, rfl⟩) (hb hby hd) hr) hQ
theorem Gl.retJ (Y : Sd Z own bs mx (some .long) n0 p l e R s m args below meth c T h k n) {K M : Nat} {Q : Option Value → Heap → Prop} (hk : k ≤ K) (hm : n ≤ M) {x : Int64} (hd : decode bs pc = .ok (.lreturn, 1)) (hQ : Q (some (.long x)) h) : Gl p e below (Pst s n0 K M Q) (T.setTop (mkF m pc L (.long x :: S))) := by
  have Y0 := Y
  obtain ⟨locs, X, eT, N, hn0, hx, hZ, hown, hby, hml, hrt, hlk⟩ := Y
  exact Gl.fin Y0 hk hm (v := (some (.long x))) (fun q => by first | rfl | cases q) (fun fs hr => retOut X hx hrt rfl (Or.inr (Or.inl ⟨rfl, rfl, x, rfl⟩)) (hb hby hd) hr) hQ
theorem Gl.retA (Y : Sd Z own bs mx (some t) n0 p l e R s m args below meth c T h k n) {K M : Nat} {Q : Option Value → Heap → Prop} (hk : k ≤ K) (hm : n ≤ M) {x : Value} (ht : t.isReference = true) (hxr : x.isRef = true) (hd : decode bs pc = .ok (.areturn, 1)) (hQ : Q (some x) h) : Gl p e below (Pst s n0 K M Q) (T.setTop (mkF m pc L (x :: S))) := by
  have Y0 := Y
  obtain ⟨locs, X, eT, N, hn0, hx, hZ, hown, hby, hml, hrt, hlk⟩ := Y
  exact Gl.fin Y0 hk hm (v := (some x)) (fun q => by first | rfl | cases q) (fun fs hr => retOut X hx hrt (own_narR hxr) (Or.inr (Or.inr (Or.inr (Or.inr ⟨rfl, ht, hxr⟩)))) (hb hby hd) hr) hQ
theorem Gl.retZ (Y : Sd Z own bs mx (some .boolean) n0 p l e R s m args below meth c T h k n) {K M : Nat} {Q : Option Value → Heap → Prop} (hk : k ≤ K) (hm : n ≤ M) {x x' : Int32} (hxn : nar .boolean x = x') (hd : decode bs pc = .ok (.ireturn, 1)) (hQ : Q (some (.int x')) h) : Gl p e below (Pst s n0 K M Q) (T.setTop (mkF m pc L (.int x :: S))) := by
  have Y0 := Y
  obtain ⟨locs, X, eT, N, hn0, hx, hZ, hown, hby, hml, hrt, hlk⟩ := Y
  exact Gl.fin Y0 hk hm (v := (some (.int x'))) (fun q => by first | rfl | cases q) (fun fs hr => retN X hx (t := .boolean) hrt (by simp) (hb hby hd) (by rw [hxn]; exact hr)) hQ
theorem Gl.retB (Y : Sd Z own bs mx (some .byte) n0 p l e R s m args below meth c T h k n) {K M : Nat} {Q : Option Value → Heap → Prop} (hk : k ≤ K) (hm : n ≤ M) {x x' : Int32} (hxn : nar .byte x = x') (hd : decode bs pc = .ok (.ireturn, 1)) (hQ : Q (some (.int x')) h) : Gl p e below (Pst s n0 K M Q) (T.setTop (mkF m pc L (.int x :: S))) := by
  have Y0 := Y
  obtain ⟨locs, X, eT, N, hn0, hx, hZ, hown, hby, hml, hrt, hlk⟩ := Y
  exact Gl.fin Y0 hk hm (v := (some (.int x'))) (fun q => by first | rfl | cases q) (fun fs hr => retN X hx (t := .byte) hrt (by simp) (hb hby hd) (by rw [hxn]; exact hr)) hQ
theorem Gl.retC (Y : Sd Z own bs mx (some .char) n0 p l e R s m args below meth c T h k n) {K M : Nat} {Q : Option Value → Heap → Prop} (hk : k ≤ K) (hm : n ≤ M) {x x' : Int32} (hxn : nar .char x = x') (hd : decode bs pc = .ok (.ireturn, 1)) (hQ : Q (some (.int x')) h) : Gl p e below (Pst s n0 K M Q) (T.setTop (mkF m pc L (.int x :: S))) := by
  have Y0 := Y
  obtain ⟨locs, X, eT, N, hn0, hx, hZ, hown, hby, hml, hrt, hlk⟩ := Y
  exact Gl.fin Y0 hk hm (v := (some (.int x'))) (fun q => by first | rfl | cases q) (fun fs hr => retN X hx (t := .char) hrt (by simp) (hb hby hd) (by rw [hxn]; exact hr)) hQ
theorem Gl.retSh (Y : Sd Z own bs mx (some .short) n0 p l e R s m args below meth c T h k n) {K M : Nat} {Q : Option Value → Heap → Prop} (hk : k ≤ K) (hm : n ≤ M) {x x' : Int32} (hxn : nar .short x = x') (hd : decode bs pc = .ok (.ireturn, 1)) (hQ : Q (some (.int x')) h) : Gl p e below (Pst s n0 K M Q) (T.setTop (mkF m pc L (.int x :: S))) := by
  have Y0 := Y
  obtain ⟨locs, X, eT, N, hn0, hx, hZ, hown, hby, hml, hrt, hlk⟩ := Y
  exact Gl.fin Y0 hk hm (v := (some (.int x'))) (fun q => by first | rfl | cases q) (fun fs hr => retN X hx (t := .short) hrt (by simp) (hb hby hd) (by rw [hxn]; exact hr)) hQ
end Kit
end Jvm.OwnWk

namespace Jvm.Pilot.@@N@@
open Jvm Jvm.ClassFile Sem Op Lib Jvm.Free Jvm.Stand Jvm.LawKit Jvm.RoadKit Bundle Jvm.OwnWk Jvm.Pilot.@@N@@.Jvm.D
theorem own_i2c (x : Int32) : x.toUInt32.toUInt16.toUInt32.toInt32.toInt64.toBitVec = (x.toBitVec.setWidth 16).setWidth 64 := by
  show (BitVec.signExtend 64 ((x.toBitVec.setWidth 16).setWidth 32)) = _
  apply BitVec.eq_of_getLsbD_eq
  intro i hi
  simp only [BitVec.getLsbD_signExtend, BitVec.getLsbD_setWidth, BitVec.msb_eq_getLsbD_last]
  by_cases h : i < 16 <;> by_cases h2 : i < 32 <;> simp [h, h2, hi] <;> omega
theorem own_l2i (x : Int64) : x.toInt32.toBitVec = x.toBitVec.setWidth 32 := by
  show x.toBitVec.signExtend 32 = _
  exact BitVec.signExtend_eq_setWidth_of_le _ (by decide)
theorem own_packed (a : Int64) : (((a.toInt32.toUInt32.toUInt16.toUInt32.toInt32.toInt64 ||| (((a.toUInt64 >>> ((16 : Int32) &&& 0x3f).toInt64.toUInt64).toInt64).toInt32.toUInt32.toUInt16.toUInt32.toInt32.toInt64 <<< ((16 : Int32) &&& 0x3f).toInt64)) ||| (((a.toUInt64 >>> ((32 : Int32) &&& 0x3f).toInt64.toUInt64).toInt64).toInt32.toUInt32.toUInt16.toUInt32.toInt32.toInt64 <<< ((32 : Int32) &&& 0x3f).toInt64)) ||| (((a.toUInt64 >>> ((48 : Int32) &&& 0x3f).toInt64.toUInt64).toInt64).toInt32.toUInt32.toUInt16.toUInt32.toInt32.toInt64 <<< ((48 : Int32) &&& 0x3f).toInt64)) = a := by
  have s1 : ((16 : Int32) &&& 0x3f).toInt64 = 16 := by decide
  have s2 : ((32 : Int32) &&& 0x3f).toInt64 = 32 := by decide
  have s3 : ((48 : Int32) &&& 0x3f).toInt64 = 48 := by decide
  have u1 : (16 : Int64).toUInt64 = 16 := by decide
  have u2 : (32 : Int64).toUInt64 = 32 := by decide
  have u3 : (48 : Int64).toUInt64 = 48 := by decide
  rw [s1, s2, s3, u1, u2, u3]
  apply Int64.toBitVec_inj.mp
  have q1 : ∀ x : Int64, (x <<< (16 : Int64)).toBitVec = x.toBitVec <<< 16 := fun x => by rw [Int64.toBitVec_shiftLeft]; rfl
  have q2 : ∀ x : Int64, (x <<< (32 : Int64)).toBitVec = x.toBitVec <<< 32 := fun x => by rw [Int64.toBitVec_shiftLeft]; rfl
  have q3 : ∀ x : Int64, (x <<< (48 : Int64)).toBitVec = x.toBitVec <<< 48 := fun x => by rw [Int64.toBitVec_shiftLeft]; rfl
  have r1 : (a.toUInt64 >>> (16 : UInt64)).toInt64.toBitVec = a.toBitVec >>> 16 := by show (a.toUInt64 >>> (16 : UInt64)).toBitVec = _; rw [UInt64.toBitVec_shiftRight]; rfl
  have r2 : (a.toUInt64 >>> (32 : UInt64)).toInt64.toBitVec = a.toBitVec >>> 32 := by show (a.toUInt64 >>> (32 : UInt64)).toBitVec = _; rw [UInt64.toBitVec_shiftRight]; rfl
  have r3 : (a.toUInt64 >>> (48 : UInt64)).toInt64.toBitVec = a.toBitVec >>> 48 := by show (a.toUInt64 >>> (48 : UInt64)).toBitVec = _; rw [UInt64.toBitVec_shiftRight]; rfl
  rw [Int64.toBitVec_or, Int64.toBitVec_or, Int64.toBitVec_or, q1, q2, q3, own_i2c, own_i2c, own_i2c, own_i2c, own_l2i, own_l2i, own_l2i, own_l2i, r1, r2, r3]
  apply BitVec.eq_of_getLsbD_eq
  intro i hi
  simp only [BitVec.getLsbD_or, BitVec.getLsbD_shiftLeft, BitVec.getLsbD_setWidth, BitVec.getLsbD_ushiftRight]
  by_cases h1 : i < 16
  · have : i < 32 := by omega
    have : i < 48 := by omega
    have : i < 64 := by omega
    simp [*]
  by_cases h2 : i < 32
  · have : i < 48 := by omega
    have e1 : i - 16 < 16 := by omega
    have e2 : i - 16 < 32 := by omega
    have e3 : i - 16 < 64 := by omega
    have e4 : 16 + (i - 16) = i := by omega
    simp [*]
  by_cases h3 : i < 48
  · have e1 : i - 32 < 16 := by omega
    have e2 : i - 32 < 32 := by omega
    have e3 : i - 32 < 64 := by omega
    have e4 : 32 + (i - 32) = i := by omega
    have e5 : ¬ i - 16 < 16 := by omega
    simp [*]
  · have e1 : i - 48 < 16 := by omega
    have e2 : i - 48 < 32 := by omega
    have e3 : i - 48 < 64 := by omega
    have e4 : 48 + (i - 48) = i := by omega
    have e5 : ¬ i - 16 < 16 := by omega
    have e6 : ¬ i - 32 < 16 := by omega
    simp [*]
def own_mark (x u y w : Int32) : Int32 := (((((x ^^^ u) ||| (y ^^^ w)) - 1) &&& (((x ^^^ u) ||| (y ^^^ w)) ^^^ (-1))) &&& 32768).toInt16.toInt32
theorem own_b16 (b : BitVec 16) : ((b - 1#16) &&& (b ^^^ 65535#16)) &&& 32768#16 = if b = 0#16 then 32768#16 else 0#16 := by
  have h1 : b ^^^ 65535#16 = ~~~ b := BitVec.xor_allOnes
  rw [h1]
  apply BitVec.eq_of_getLsbD_eq
  intro i hi
  by_cases h15 : i = 15
  · subst h15
    have m1 : ∀ x : BitVec 16, x.getLsbD 15 = decide (32768 ≤ x.toNat) := by
      intro x; exact (BitVec.msb_eq_getLsbD_last x).symm.trans (BitVec.msb_eq_decide x)
    rw [BitVec.getLsbD_and, BitVec.getLsbD_and, m1 (b - 1#16), BitVec.getLsbD_not, m1 b]
    have := b.isLt
    rw [BitVec.toNat_sub]
    by_cases q : b = 0#16
    · subst q; decide
    · have q' : b.toNat ≠ 0 := fun z => q (BitVec.eq_of_toNat_eq (by simpa using z))
      rw [if_neg q]
      simp
      omega
  · have z : (32768#16).getLsbD i = false := by
      have : ∀ j : Fin 16, j.val ≠ 15 → (32768#16).getLsbD j.val = false := by decide
      exact this ⟨i, hi⟩ h15
    rw [BitVec.getLsbD_and, z, Bool.and_false]
    split
    · exact z.symm
    · simp
theorem own_low (d : Int32) : (((d - 1) &&& (d ^^^ (-1))) &&& 32768).toInt16 = if d.toBitVec.setWidth 16 = 0#16 then -32768 else 0 := by
  apply Int16.toBitVec_inj.mp
  have e : ((((d - 1) &&& (d ^^^ (-1))) &&& 32768).toInt16).toBitVec = (((d.toBitVec.setWidth 16) - 1#16) &&& ((d.toBitVec.setWidth 16) ^^^ 65535#16)) &&& 32768#16 := by
    show ((((d - 1) &&& (d ^^^ (-1))) &&& 32768).toBitVec.signExtend 16) = _
    rw [BitVec.signExtend_eq_setWidth_of_le _ (by decide)]
    simp only [Int32.toBitVec_and, Int32.toBitVec_sub, Int32.toBitVec_xor, BitVec.setWidth_and, BitVec.setWidth_xor]
    congr 2
    apply BitVec.eq_of_toNat_eq
    have h1 : (Int32.toBitVec 1).toNat = 1 := by decide
    simp only [BitVec.toNat_setWidth, BitVec.toNat_sub, h1]
    simp
    omega
  rw [e, own_b16]
  split <;> rfl
theorem own_16 (x u : Int32) (h0 : 0 ≤ x.toInt ∧ x.toInt ≤ 65535) (h1 : 0 ≤ u.toInt ∧ u.toInt ≤ 65535) : x.toBitVec.setWidth 16 = u.toBitVec.setWidth 16 ↔ x = u := by
  constructor
  · intro h
    apply Int32.toInt_inj.mp
    have q := congrArg BitVec.toNat h
    simp only [BitVec.toNat_setWidth] at q
    have a1 : x.toInt = x.toBitVec.toInt := rfl
    have a2 : u.toInt = u.toBitVec.toInt := rfl
    rw [BitVec.toInt_eq_toNat_cond] at a1 a2
    have := x.toBitVec.isLt
    have := u.toBitVec.isLt
    split at a1 <;> split at a2 <;> omega
  · intro h; rw [h]
theorem own_mark_eq (x u y w : Int32) (h0 : 0 ≤ x.toInt ∧ x.toInt ≤ 65535) (h1 : 0 ≤ u.toInt ∧ u.toInt ≤ 65535) (h2 : 0 ≤ y.toInt ∧ y.toInt ≤ 65535) (h3 : 0 ≤ w.toInt ∧ w.toInt ≤ 65535) : own_mark x u y w = if x = u ∧ y = w then -32768 else 0 := by
  unfold own_mark
  rw [own_low]
  have e : (((x ^^^ u) ||| (y ^^^ w)).toBitVec.setWidth 16 = 0#16) ↔ (x = u ∧ y = w) := by
    rw [Int32.toBitVec_or, Int32.toBitVec_xor, Int32.toBitVec_xor, BitVec.setWidth_or, BitVec.setWidth_xor, BitVec.setWidth_xor, BitVec.or_eq_zero_iff, BitVec.xor_eq_zero_iff, BitVec.xor_eq_zero_iff, own_16 x u h0 h1, own_16 y w h2 h3]
  by_cases q : ((x ^^^ u) ||| (y ^^^ w)).toBitVec.setWidth 16 = 0#16
  · rw [if_pos q, if_pos (e.mp q)]; rfl
  · rw [if_neg q, if_neg (fun z => q (e.mpr z))]; rfl
theorem own_get4 (x0 x1 x2 x3 j : Int32) (h0 : 0 ≤ x0.toInt ∧ x0.toInt ≤ 65535) (h1 : 0 ≤ x1.toInt ∧ x1.toInt ≤ 65535) (h2 : 0 ≤ x2.toInt ∧ x2.toInt ≤ 65535) (h3 : 0 ≤ x3.toInt ∧ x3.toInt ≤ 65535) (hj : ¬ j < 0 ∧ j < 4) :
    ∃ u : Int32, [(.int x0 : Value), .int x1, .int x2, .int x3].getD j.toNatClampNeg (.int 0) = .int u ∧ 0 ≤ u.toInt ∧ u.toInt ≤ 65535 := by
  have a : ¬ (j.toInt < 0) := fun q => hj.1 (Int32.lt_iff_toInt_lt.mpr q)
  have b : j.toInt < 4 := Int32.lt_iff_toInt_lt.mp hj.2
  rcases own_c3 (v := j) (by omega) (by omega) with rfl | rfl | rfl | rfl
  · exact ⟨x0, rfl, h0⟩
  · exact ⟨x1, rfl, h1⟩
  · exact ⟨x2, rfl, h2⟩
  · exact ⟨x3, rfl, h3⟩
theorem own_in4 (j : Int32) (h : 0 ≤ j.toInt ∧ j.toInt ≤ 3) : ¬ j < 0 ∧ j < 4 := by
  constructor
  · intro q; have := Int32.lt_iff_toInt_lt.mp q; simp at this; omega
  · apply Int32.lt_iff_toInt_lt.mpr; simp; omega
theorem own_off (j i : Int32) (h : 0 ≤ j.toInt ∧ j.toInt ≤ 1) (hi : 0 ≤ i.toInt ∧ i.toInt ≤ 2) : ¬ j + i < 0 ∧ j + i < 4 := by
  apply own_in4
  have q := c_iadd j i
  have r := rng32 (j + i)
  omega
theorem own_c16 {a v : Int32} (h : a.toUInt32.toUInt16.toUInt32.toInt32 = v) : 0 ≤ v.toInt ∧ v.toInt ≤ 65535 := by
  have q := c_i2c a
  rw [h] at q
  omega
theorem own_a16 {a v : Int32} (h : a &&& (65535 : Int32) = v) : 0 ≤ v.toInt ∧ v.toInt ≤ 65535 := by
  have q := c_mask a (65535 : Int32) 16 (by decide) (by decide)
  rw [h] at q
  omega
theorem own_a3 {a v : Int32} (h : a &&& (3 : Int32) = v) : 0 ≤ v.toInt ∧ v.toInt ≤ 3 := by
  have q := c_mask a (3 : Int32) 2 (by decide) (by decide)
  rw [h] at q
  omega
theorem own_a1 {a v : Int32} (h : a &&& (1 : Int32) = v) : 0 ≤ v.toInt ∧ v.toInt ≤ 1 := by
  have q := c_mask a (1 : Int32) 1 (by decide) (by decide)
  rw [h] at q
  omega
theorem own_k3 {a v : Int32} (h : a &&& (3 : Int32) = v) : v = 0 ∨ v = 1 ∨ v = 2 ∨ v = 3 := own_c3 (own_a3 h).1 (own_a3 h).2
theorem own_or {k : Prop} {z a b : Int} (h : (k ∧ (z = a)) ∨ (¬ (k) ∧ (z = b))) (ha : 0 ≤ a ∧ a ≤ 65535) (hb : 0 ≤ b ∧ b ≤ 65535) : 0 ≤ z ∧ z ≤ 65535 := by
  rcases h with ⟨-, rfl⟩ | ⟨-, rfl⟩
  · exact ha
  · exact hb
theorem d_prog_3_method_6_0 : decode prog_3_method_6_code 0 = .ok (.iconst 0, 1) := by decide +kernel
theorem d_prog_3_method_6_1 : decode prog_3_method_6_code 1 = .ok (.istore 8, 2) := by decide +kernel
theorem d_prog_3_method_6_3 : decode prog_3_method_6_code 3 = .ok (.iload 8, 2) := by decide +kernel
theorem d_prog_3_method_6_5 : decode prog_3_method_6_code 5 = .ok (.iload 7, 2) := by decide +kernel
theorem d_prog_3_method_6_7 : decode prog_3_method_6_code 7 = .ok (.if_icmp .ge 48, 3) := by decide +kernel
theorem d_prog_3_method_6_55 : decode prog_3_method_6_code 55 = .ok (.return_, 1) := by decide +kernel
def R0 : Room := { frames := 0, cells := 0, slots := 0, locals := 0 }
def Q0 (Z : State) (a : Addr) (ls : Int32) (le : Int32) (b : Addr) (ss : Int32) (se : Int32) (g : Addr) (ka : ClassId) (kb : ClassId) (kg : ClassId) (va : List Value) (vb : List Value) (m0 : Int32) (m1 : Int32) (m2 : Int32) (m3 : Int32) (h0 : Heap) (v : Option Value) (h : Heap) : Prop := v = none ∧ Keep h0 h [g] ∧ Arv Z h g kg .short (4 : Int32) [(.int m0), (.int m1), (.int m2), (.int m3)] (.int (0 : Int32))
theorem ef0 (a : Addr) (ls : Int32) (le : Int32) (b : Addr) (ss : Int32) (se : Int32) (g : Addr) (m : MethodId) : entryFrame m #[(.ref a), (.int ls), (.int le), (.ref b), (.int ss), (.int se), (.ref g), (.int (0 : Int32))] 10 = mkF m 0 #[.val (.ref a), .val (.int ls), .val (.int le), .val (.ref b), .val (.int ss), .val (.int se), .val (.ref g), .val (.int (0 : Int32)), .unset, .unset] [] := by first | (simp [entryFrame, mkF, argsToLocals, Value.category]; done) | rfl
theorem pn_0 : plainName "com/example/ref_search/refsearch/matcher/BulkSymbols$Chars" = true := by first | (simp [plainName, overriddenIn]; done) | decide +kernel
set_option maxRecDepth 65536 in
set_option maxHeartbeats 40000000 in
theorem rm0 (l : Launch) (Z : State) (a0 : Array Value) (hw : ∀ d ∈ tables_1, d.before a0 Z = true) (ws : List Jvm.Cond) (a : Addr) (ls : Int32) (le : Int32) (b : Addr) (ss : Int32) (se : Int32) (g : Addr) (ka : ClassId) (kb : ClassId) (kg : ClassId) (va : List Value) (vb : List Value) (m0 : Int32) (m1 : Int32) (m2 : Int32) (m3 : Int32) (h0 : Heap) (n0 : Nat) (Z0 : n0 ≤ h0.size) (V : Arv Z h0 a ka .char (4 : Int32) va (.int (0 : Int32))) (V2 : Arv Z h0 b kb .char (4 : Int32) vb (.int (0 : Int32))) (V3 : Arv Z h0 g kg .short (4 : Int32) [(.int m0), (.int m1), (.int m2), (.int m3)] (.int (0 : Int32))) (gg : n0 ≤ g) (nag : a ≠ g) (nbg : b ≠ g) : OMet l Z ws (⟨"com/example/ref_search/refsearch/matcher/BulkSymbols$Chars", "markPair", "([CII[CII[SI)V"⟩ : MethodName) prog_3_method_6_code 10 none R0 #[(.ref a), (.int ls), (.int le), (.ref b), (.int ss), (.int se), (.ref g), (.int (0 : Int32))] h0 n0 (Q0 Z a ls le b ss se g ka kb kg va vb m0 m1 m2 m3 h0) := by
  refine OMet.of (plainFor_of_name pn_0) (ef0 a ls le b ss se g) Z0 ?_
  intro p e s m below meth c T0 Y0 hnm
  have Y0 : Sd Z "com/example/ref_search/refsearch/matcher/BulkSymbols$Chars" prog_3_method_6_code 10 none n0 p l e R0 s m #[(.ref a), (.int ls), (.int le), (.ref b), (.int ss), (.int se), (.ref g), (.int (0 : Int32))] below meth c T0 h0 0 0 := Y0
  refine Gl.iconst Y0 (v := (0 : Int32)) (by decide) d_prog_3_method_6_0 rfl ?_
  refine Gl.istore Y0 (L' := #[.val (.ref a), .val (.int ls), .val (.int le), .val (.ref b), .val (.int ss), .val (.int se), .val (.ref g), .val (.int (0 : Int32)), .val (.int (0 : Int32)), .unset]) rfl d_prog_3_method_6_1 rfl ?_
  refine Gl.iload Y0 rfl d_prog_3_method_6_3 rfl ?_
  refine Gl.iload Y0 rfl d_prog_3_method_6_5 rfl ?_
  refine Gl.icmpge Y0 d_prog_3_method_6_7 (by decide) rfl rfl (fun c7 => ?_) (fun c7 => ?_)
  rotate_left
  · exact absurd c7 (by decide)
  exact Gl.retV Y0 (by decide) (by decide)  d_prog_3_method_6_55 ⟨rfl, (Keep.refl h0 [g]), V3⟩
theorem d_prog_3_method_6_10 : decode prog_3_method_6_code 10 = .ok (.aload_n 0, 1) := by decide +kernel
theorem d_prog_3_method_6_11 : decode prog_3_method_6_code 11 = .ok (.iload_n 1, 1) := by decide +kernel
theorem d_prog_3_method_6_12 : decode prog_3_method_6_code 12 = .ok (.iload 8, 2) := by decide +kernel
theorem d_prog_3_method_6_14 : decode prog_3_method_6_code 14 = .ok (.iadd, 1) := by decide +kernel
theorem d_prog_3_method_6_15 : decode prog_3_method_6_code 15 = .ok (.caload, 1) := by decide +kernel
theorem d_prog_3_method_6_16 : decode prog_3_method_6_code 16 = .ok (.iload_n 2, 1) := by decide +kernel
theorem d_prog_3_method_6_17 : decode prog_3_method_6_code 17 = .ok (.ixor, 1) := by decide +kernel
theorem d_prog_3_method_6_18 : decode prog_3_method_6_code 18 = .ok (.aload_n 3, 1) := by decide +kernel
theorem d_prog_3_method_6_19 : decode prog_3_method_6_code 19 = .ok (.iload 4, 2) := by decide +kernel
theorem d_prog_3_method_6_21 : decode prog_3_method_6_code 21 = .ok (.iload 8, 2) := by decide +kernel
theorem d_prog_3_method_6_23 : decode prog_3_method_6_code 23 = .ok (.iadd, 1) := by decide +kernel
theorem d_prog_3_method_6_24 : decode prog_3_method_6_code 24 = .ok (.caload, 1) := by decide +kernel
theorem d_prog_3_method_6_25 : decode prog_3_method_6_code 25 = .ok (.iload 5, 2) := by decide +kernel
theorem d_prog_3_method_6_27 : decode prog_3_method_6_code 27 = .ok (.ixor, 1) := by decide +kernel
theorem d_prog_3_method_6_28 : decode prog_3_method_6_code 28 = .ok (.ior, 1) := by decide +kernel
theorem d_prog_3_method_6_29 : decode prog_3_method_6_code 29 = .ok (.istore 9, 2) := by decide +kernel
theorem d_prog_3_method_6_31 : decode prog_3_method_6_code 31 = .ok (.aload 6, 2) := by decide +kernel
theorem d_prog_3_method_6_33 : decode prog_3_method_6_code 33 = .ok (.iload 8, 2) := by decide +kernel
theorem d_prog_3_method_6_35 : decode prog_3_method_6_code 35 = .ok (.iload 9, 2) := by decide +kernel
theorem d_prog_3_method_6_37 : decode prog_3_method_6_code 37 = .ok (.iconst 1, 1) := by decide +kernel
theorem d_prog_3_method_6_38 : decode prog_3_method_6_code 38 = .ok (.isub, 1) := by decide +kernel
theorem d_prog_3_method_6_39 : decode prog_3_method_6_code 39 = .ok (.iload 9, 2) := by decide +kernel
theorem d_prog_3_method_6_41 : decode prog_3_method_6_code 41 = .ok (.iconst (-1), 1) := by decide +kernel
theorem d_prog_3_method_6_42 : decode prog_3_method_6_code 42 = .ok (.ixor, 1) := by decide +kernel
theorem d_prog_3_method_6_43 : decode prog_3_method_6_code 43 = .ok (.iand, 1) := by decide +kernel
theorem d_prog_3_method_6_44 : decode prog_3_method_6_code 44 = .ok (.ldc 52, 2) := by decide +kernel
theorem tw_14 {a0 : Array Value} {Z : State} (hw : ∀ d ∈ tables_1, d.before a0 Z = true) : (Jvm.Cond.constant "com/example/ref_search/refsearch/matcher/BulkSymbols$Chars" (52 : Nat) (32768 : Int32)).before a0 Z = true := hw _ (List.mem_of_getElem? (i := 14) rfl)
theorem d_prog_3_method_6_46 : decode prog_3_method_6_code 46 = .ok (.iand, 1) := by decide +kernel
theorem d_prog_3_method_6_47 : decode prog_3_method_6_code 47 = .ok (.i2s, 1) := by decide +kernel
theorem d_prog_3_method_6_48 : decode prog_3_method_6_code 48 = .ok (.sastore, 1) := by decide +kernel
theorem d_prog_3_method_6_49 : decode prog_3_method_6_code 49 = .ok (.iinc 8 1, 3) := by decide +kernel
theorem d_prog_3_method_6_52 : decode prog_3_method_6_code 52 = .ok (.goto (-49), 3) := by decide +kernel
def R1 : Room := { frames := 0, cells := 0, slots := 0, locals := 0 }
def Q1 (Z : State) (a : Addr) (ls : Int32) (le : Int32) (b : Addr) (ss : Int32) (se : Int32) (g : Addr) (ka : ClassId) (kb : ClassId) (kg : ClassId) (va : List Value) (vb : List Value) (m0 : Int32) (m1 : Int32) (m2 : Int32) (m3 : Int32) (u0 : Int32) (w0 : Int32) (h0 : Heap) (v : Option Value) (h : Heap) : Prop := v = none ∧ Keep h0 h [g] ∧ Arv Z h g kg .short (4 : Int32) [(.int (own_mark u0 le w0 se)), (.int m1), (.int m2), (.int m3)] (.int (0 : Int32))
theorem ef1 (a : Addr) (ls : Int32) (le : Int32) (b : Addr) (ss : Int32) (se : Int32) (g : Addr) (m : MethodId) : entryFrame m #[(.ref a), (.int ls), (.int le), (.ref b), (.int ss), (.int se), (.ref g), (.int (1 : Int32))] 10 = mkF m 0 #[.val (.ref a), .val (.int ls), .val (.int le), .val (.ref b), .val (.int ss), .val (.int se), .val (.ref g), .val (.int (1 : Int32)), .unset, .unset] [] := by first | (simp [entryFrame, mkF, argsToLocals, Value.category]; done) | rfl
set_option maxRecDepth 65536 in
set_option maxHeartbeats 40000000 in
theorem rm1 (l : Launch) (Z : State) (a0 : Array Value) (hw : ∀ d ∈ tables_1, d.before a0 Z = true) (ws : List Jvm.Cond) (a : Addr) (ls : Int32) (le : Int32) (b : Addr) (ss : Int32) (se : Int32) (g : Addr) (ka : ClassId) (kb : ClassId) (kg : ClassId) (va : List Value) (vb : List Value) (m0 : Int32) (m1 : Int32) (m2 : Int32) (m3 : Int32) (u0 : Int32) (w0 : Int32) (h0 : Heap) (n0 : Nat) (Z0 : n0 ≤ h0.size) (V : Arv Z h0 a ka .char (4 : Int32) va (.int (0 : Int32))) (V2 : Arv Z h0 b kb .char (4 : Int32) vb (.int (0 : Int32))) (V3 : Arv Z h0 g kg .short (4 : Int32) [(.int m0), (.int m1), (.int m2), (.int m3)] (.int (0 : Int32))) (gg : n0 ≤ g) (nag : a ≠ g) (nbg : b ≠ g) (hj0 : ¬ ls + (0 : Int32) < 0 ∧ ls + (0 : Int32) < 4) (hv0 : va.getD (ls + (0 : Int32)).toNatClampNeg (.int 0) = .int u0) (kj0 : ¬ ss + (0 : Int32) < 0 ∧ ss + (0 : Int32) < 4) (kv0 : vb.getD (ss + (0 : Int32)).toNatClampNeg (.int 0) = .int w0) : OMet l Z ws (⟨"com/example/ref_search/refsearch/matcher/BulkSymbols$Chars", "markPair", "([CII[CII[SI)V"⟩ : MethodName) prog_3_method_6_code 10 none R1 #[(.ref a), (.int ls), (.int le), (.ref b), (.int ss), (.int se), (.ref g), (.int (1 : Int32))] h0 n0 (Q1 Z a ls le b ss se g ka kb kg va vb m0 m1 m2 m3 u0 w0 h0) := by
  refine OMet.of (plainFor_of_name pn_0) (ef1 a ls le b ss se g) Z0 ?_
  intro p e s m below meth c T0 Y0 hnm
  have Y0 : Sd Z "com/example/ref_search/refsearch/matcher/BulkSymbols$Chars" prog_3_method_6_code 10 none n0 p l e R1 s m #[(.ref a), (.int ls), (.int le), (.ref b), (.int ss), (.int se), (.ref g), (.int (1 : Int32))] below meth c T0 h0 0 0 := Y0
  refine Gl.iconst Y0 (v := (0 : Int32)) (by decide) d_prog_3_method_6_0 rfl ?_
  refine Gl.istore Y0 (L' := #[.val (.ref a), .val (.int ls), .val (.int le), .val (.ref b), .val (.int ss), .val (.int se), .val (.ref g), .val (.int (1 : Int32)), .val (.int (0 : Int32)), .unset]) rfl d_prog_3_method_6_1 rfl ?_
  refine Gl.iload Y0 rfl d_prog_3_method_6_3 rfl ?_
  refine Gl.iload Y0 rfl d_prog_3_method_6_5 rfl ?_
  refine Gl.icmpge Y0 d_prog_3_method_6_7 (by decide) rfl rfl (fun c7 => ?_) (fun c7 => ?_)
  · exact absurd c7 (by decide)
  refine Gl.aloadN Y0 rfl rfl d_prog_3_method_6_10 rfl ?_
  refine Gl.iloadN Y0 rfl d_prog_3_method_6_11 rfl ?_
  refine Gl.iload Y0 rfl d_prog_3_method_6_12 rfl ?_
  refine Gl.iadd Y0 rfl d_prog_3_method_6_14 rfl ?_
  refine Gl.caload Y0 V hj0 (v := (.int u0)) hv0 d_prog_3_method_6_15 rfl ?_
  refine Gl.iloadN Y0 rfl d_prog_3_method_6_16 rfl ?_
  refine Gl.ixor Y0 rfl d_prog_3_method_6_17 rfl ?_
  refine Gl.aloadN Y0 rfl rfl d_prog_3_method_6_18 rfl ?_
  refine Gl.iload Y0 rfl d_prog_3_method_6_19 rfl ?_
  refine Gl.iload Y0 rfl d_prog_3_method_6_21 rfl ?_
  refine Gl.iadd Y0 rfl d_prog_3_method_6_23 rfl ?_
  refine Gl.caload Y0 V2 kj0 (v := (.int w0)) kv0 d_prog_3_method_6_24 rfl ?_
  refine Gl.iload Y0 rfl d_prog_3_method_6_25 rfl ?_
  refine Gl.ixor Y0 rfl d_prog_3_method_6_27 rfl ?_
  refine Gl.ior Y0 rfl d_prog_3_method_6_28 rfl ?_
  refine Gl.istore Y0 (L' := #[.val (.ref a), .val (.int ls), .val (.int le), .val (.ref b), .val (.int ss), .val (.int se), .val (.ref g), .val (.int (1 : Int32)), .val (.int (0 : Int32)), .val (.int ((u0 ^^^ le) ||| (w0 ^^^ se)))]) rfl d_prog_3_method_6_29 rfl ?_
  refine Gl.aload Y0 rfl rfl d_prog_3_method_6_31 rfl ?_
  refine Gl.iload Y0 rfl d_prog_3_method_6_33 rfl ?_
  refine Gl.iload Y0 rfl d_prog_3_method_6_35 rfl ?_
  refine Gl.iconst Y0 (v := (1 : Int32)) (by decide) d_prog_3_method_6_37 rfl ?_
  refine Gl.isub Y0 rfl d_prog_3_method_6_38 rfl ?_
  refine Gl.iload Y0 rfl d_prog_3_method_6_39 rfl ?_
  refine Gl.iconst Y0 (v := (-1 : Int32)) (by decide) d_prog_3_method_6_41 rfl ?_
  refine Gl.ixor Y0 rfl d_prog_3_method_6_42 rfl ?_
  refine Gl.iand Y0 rfl d_prog_3_method_6_43 rfl ?_
  refine Gl.ldcI Y0 (tw_14 hw) d_prog_3_method_6_44 rfl ?_
  refine Gl.iand Y0 rfl d_prog_3_method_6_46 rfl ?_
  refine Gl.i2s Y0 rfl d_prog_3_method_6_47 rfl ?_
  refine Gl.sastore Y0 V3 (v := (.int ((((((u0 ^^^ le) ||| (w0 ^^^ se)) - (1 : Int32)) &&& (((u0 ^^^ le) ||| (w0 ^^^ se)) ^^^ (-1 : Int32))) &&& (32768 : Int32)).toInt16.toInt32))) (congrArg Value.int (own_narS rfl)) ⟨by decide, by decide⟩ (ix := 0) rfl (Nat.le_of_ble_eq_true rfl) gg d_prog_3_method_6_48 rfl (fun T48 h48 Y48 W48 A48 => ?_)
  have A48 : Arv Z h48 g kg .short (4 : Int32) [(.int ((((((u0 ^^^ le) ||| (w0 ^^^ se)) - (1 : Int32)) &&& (((u0 ^^^ le) ||| (w0 ^^^ se)) ^^^ (-1 : Int32))) &&& (32768 : Int32)).toInt16.toInt32)), (.int m1), (.int m2), (.int m3)] (.int (0 : Int32)) := A48
  have K48 : Keep h0 h48 [g] := (Keep.refl h0 [g]).wr W48 (Or.inl (List.mem_of_getElem? (i := 0) rfl))
  show Gl p e below _ (T48.setTop (mkF m 49 #[.val (.ref a), .val (.int ls), .val (.int le), .val (.ref b), .val (.int ss), .val (.int se), .val (.ref g), .val (.int (1 : Int32)), .val (.int (0 : Int32)), .val (.int ((u0 ^^^ le) ||| (w0 ^^^ se)))] []))
  refine Gl.iinc Y48 rfl (r := (1 : Int32)) (by decide) (L' := #[.val (.ref a), .val (.int ls), .val (.int le), .val (.ref b), .val (.int ss), .val (.int se), .val (.ref g), .val (.int (1 : Int32)), .val (.int (1 : Int32)), .val (.int ((u0 ^^^ le) ||| (w0 ^^^ se)))]) rfl d_prog_3_method_6_49 rfl ?_
  refine Gl.goto Y48 d_prog_3_method_6_52 (by decide) rfl ?_
  refine Gl.iload Y48 rfl d_prog_3_method_6_3 rfl ?_
  refine Gl.iload Y48 rfl d_prog_3_method_6_5 rfl ?_
  refine Gl.icmpge Y48 d_prog_3_method_6_7 (by decide) rfl rfl (fun c7_2 => ?_) (fun c7_2 => ?_)
  rotate_left
  · exact absurd c7_2 (by decide)
  exact Gl.retV Y48 (by decide) (by decide)  d_prog_3_method_6_55 ⟨rfl, K48, A48⟩
def R2 : Room := { frames := 0, cells := 0, slots := 0, locals := 0 }
def Q2 (Z : State) (a : Addr) (ls : Int32) (le : Int32) (b : Addr) (ss : Int32) (se : Int32) (g : Addr) (ka : ClassId) (kb : ClassId) (kg : ClassId) (va : List Value) (vb : List Value) (m0 : Int32) (m1 : Int32) (m2 : Int32) (m3 : Int32) (u0 : Int32) (w0 : Int32) (u1 : Int32) (w1 : Int32) (h0 : Heap) (v : Option Value) (h : Heap) : Prop := v = none ∧ Keep h0 h [g] ∧ Arv Z h g kg .short (4 : Int32) [(.int (own_mark u0 le w0 se)), (.int (own_mark u1 le w1 se)), (.int m2), (.int m3)] (.int (0 : Int32))
theorem ef2 (a : Addr) (ls : Int32) (le : Int32) (b : Addr) (ss : Int32) (se : Int32) (g : Addr) (m : MethodId) : entryFrame m #[(.ref a), (.int ls), (.int le), (.ref b), (.int ss), (.int se), (.ref g), (.int (2 : Int32))] 10 = mkF m 0 #[.val (.ref a), .val (.int ls), .val (.int le), .val (.ref b), .val (.int ss), .val (.int se), .val (.ref g), .val (.int (2 : Int32)), .unset, .unset] [] := by first | (simp [entryFrame, mkF, argsToLocals, Value.category]; done) | rfl
set_option maxRecDepth 65536 in
set_option maxHeartbeats 40000000 in
theorem rm2 (l : Launch) (Z : State) (a0 : Array Value) (hw : ∀ d ∈ tables_1, d.before a0 Z = true) (ws : List Jvm.Cond) (a : Addr) (ls : Int32) (le : Int32) (b : Addr) (ss : Int32) (se : Int32) (g : Addr) (ka : ClassId) (kb : ClassId) (kg : ClassId) (va : List Value) (vb : List Value) (m0 : Int32) (m1 : Int32) (m2 : Int32) (m3 : Int32) (u0 : Int32) (w0 : Int32) (u1 : Int32) (w1 : Int32) (h0 : Heap) (n0 : Nat) (Z0 : n0 ≤ h0.size) (V : Arv Z h0 a ka .char (4 : Int32) va (.int (0 : Int32))) (V2 : Arv Z h0 b kb .char (4 : Int32) vb (.int (0 : Int32))) (V3 : Arv Z h0 g kg .short (4 : Int32) [(.int m0), (.int m1), (.int m2), (.int m3)] (.int (0 : Int32))) (gg : n0 ≤ g) (nag : a ≠ g) (nbg : b ≠ g) (hj0 : ¬ ls + (0 : Int32) < 0 ∧ ls + (0 : Int32) < 4) (hv0 : va.getD (ls + (0 : Int32)).toNatClampNeg (.int 0) = .int u0) (kj0 : ¬ ss + (0 : Int32) < 0 ∧ ss + (0 : Int32) < 4) (kv0 : vb.getD (ss + (0 : Int32)).toNatClampNeg (.int 0) = .int w0) (hj1 : ¬ ls + (1 : Int32) < 0 ∧ ls + (1 : Int32) < 4) (hv1 : va.getD (ls + (1 : Int32)).toNatClampNeg (.int 0) = .int u1) (kj1 : ¬ ss + (1 : Int32) < 0 ∧ ss + (1 : Int32) < 4) (kv1 : vb.getD (ss + (1 : Int32)).toNatClampNeg (.int 0) = .int w1) : OMet l Z ws (⟨"com/example/ref_search/refsearch/matcher/BulkSymbols$Chars", "markPair", "([CII[CII[SI)V"⟩ : MethodName) prog_3_method_6_code 10 none R2 #[(.ref a), (.int ls), (.int le), (.ref b), (.int ss), (.int se), (.ref g), (.int (2 : Int32))] h0 n0 (Q2 Z a ls le b ss se g ka kb kg va vb m0 m1 m2 m3 u0 w0 u1 w1 h0) := by
  refine OMet.of (plainFor_of_name pn_0) (ef2 a ls le b ss se g) Z0 ?_
  intro p e s m below meth c T0 Y0 hnm
  have Y0 : Sd Z "com/example/ref_search/refsearch/matcher/BulkSymbols$Chars" prog_3_method_6_code 10 none n0 p l e R2 s m #[(.ref a), (.int ls), (.int le), (.ref b), (.int ss), (.int se), (.ref g), (.int (2 : Int32))] below meth c T0 h0 0 0 := Y0
  refine Gl.iconst Y0 (v := (0 : Int32)) (by decide) d_prog_3_method_6_0 rfl ?_
  refine Gl.istore Y0 (L' := #[.val (.ref a), .val (.int ls), .val (.int le), .val (.ref b), .val (.int ss), .val (.int se), .val (.ref g), .val (.int (2 : Int32)), .val (.int (0 : Int32)), .unset]) rfl d_prog_3_method_6_1 rfl ?_
  refine Gl.iload Y0 rfl d_prog_3_method_6_3 rfl ?_
  refine Gl.iload Y0 rfl d_prog_3_method_6_5 rfl ?_
  refine Gl.icmpge Y0 d_prog_3_method_6_7 (by decide) rfl rfl (fun c7 => ?_) (fun c7 => ?_)
  · exact absurd c7 (by decide)
  refine Gl.aloadN Y0 rfl rfl d_prog_3_method_6_10 rfl ?_
  refine Gl.iloadN Y0 rfl d_prog_3_method_6_11 rfl ?_
  refine Gl.iload Y0 rfl d_prog_3_method_6_12 rfl ?_
  refine Gl.iadd Y0 rfl d_prog_3_method_6_14 rfl ?_
  refine Gl.caload Y0 V hj0 (v := (.int u0)) hv0 d_prog_3_method_6_15 rfl ?_
  refine Gl.iloadN Y0 rfl d_prog_3_method_6_16 rfl ?_
  refine Gl.ixor Y0 rfl d_prog_3_method_6_17 rfl ?_
  refine Gl.aloadN Y0 rfl rfl d_prog_3_method_6_18 rfl ?_
  refine Gl.iload Y0 rfl d_prog_3_method_6_19 rfl ?_
  refine Gl.iload Y0 rfl d_prog_3_method_6_21 rfl ?_
  refine Gl.iadd Y0 rfl d_prog_3_method_6_23 rfl ?_
  refine Gl.caload Y0 V2 kj0 (v := (.int w0)) kv0 d_prog_3_method_6_24 rfl ?_
  refine Gl.iload Y0 rfl d_prog_3_method_6_25 rfl ?_
  refine Gl.ixor Y0 rfl d_prog_3_method_6_27 rfl ?_
  refine Gl.ior Y0 rfl d_prog_3_method_6_28 rfl ?_
  refine Gl.istore Y0 (L' := #[.val (.ref a), .val (.int ls), .val (.int le), .val (.ref b), .val (.int ss), .val (.int se), .val (.ref g), .val (.int (2 : Int32)), .val (.int (0 : Int32)), .val (.int ((u0 ^^^ le) ||| (w0 ^^^ se)))]) rfl d_prog_3_method_6_29 rfl ?_
  refine Gl.aload Y0 rfl rfl d_prog_3_method_6_31 rfl ?_
  refine Gl.iload Y0 rfl d_prog_3_method_6_33 rfl ?_
  refine Gl.iload Y0 rfl d_prog_3_method_6_35 rfl ?_
  refine Gl.iconst Y0 (v := (1 : Int32)) (by decide) d_prog_3_method_6_37 rfl ?_
  refine Gl.isub Y0 rfl d_prog_3_method_6_38 rfl ?_
  refine Gl.iload Y0 rfl d_prog_3_method_6_39 rfl ?_
  refine Gl.iconst Y0 (v := (-1 : Int32)) (by decide) d_prog_3_method_6_41 rfl ?_
  refine Gl.ixor Y0 rfl d_prog_3_method_6_42 rfl ?_
  refine Gl.iand Y0 rfl d_prog_3_method_6_43 rfl ?_
  refine Gl.ldcI Y0 (tw_14 hw) d_prog_3_method_6_44 rfl ?_
  refine Gl.iand Y0 rfl d_prog_3_method_6_46 rfl ?_
  refine Gl.i2s Y0 rfl d_prog_3_method_6_47 rfl ?_
  refine Gl.sastore Y0 V3 (v := (.int ((((((u0 ^^^ le) ||| (w0 ^^^ se)) - (1 : Int32)) &&& (((u0 ^^^ le) ||| (w0 ^^^ se)) ^^^ (-1 : Int32))) &&& (32768 : Int32)).toInt16.toInt32))) (congrArg Value.int (own_narS rfl)) ⟨by decide, by decide⟩ (ix := 0) rfl (Nat.le_of_ble_eq_true rfl) gg d_prog_3_method_6_48 rfl (fun T48 h48 Y48 W48 A48 => ?_)
  have A48 : Arv Z h48 g kg .short (4 : Int32) [(.int ((((((u0 ^^^ le) ||| (w0 ^^^ se)) - (1 : Int32)) &&& (((u0 ^^^ le) ||| (w0 ^^^ se)) ^^^ (-1 : Int32))) &&& (32768 : Int32)).toInt16.toInt32)), (.int m1), (.int m2), (.int m3)] (.int (0 : Int32)) := A48
  have K48 : Keep h0 h48 [g] := (Keep.refl h0 [g]).wr W48 (Or.inl (List.mem_of_getElem? (i := 0) rfl))
  show Gl p e below _ (T48.setTop (mkF m 49 #[.val (.ref a), .val (.int ls), .val (.int le), .val (.ref b), .val (.int ss), .val (.int se), .val (.ref g), .val (.int (2 : Int32)), .val (.int (0 : Int32)), .val (.int ((u0 ^^^ le) ||| (w0 ^^^ se)))] []))
  refine Gl.iinc Y48 rfl (r := (1 : Int32)) (by decide) (L' := #[.val (.ref a), .val (.int ls), .val (.int le), .val (.ref b), .val (.int ss), .val (.int se), .val (.ref g), .val (.int (2 : Int32)), .val (.int (1 : Int32)), .val (.int ((u0 ^^^ le) ||| (w0 ^^^ se)))]) rfl d_prog_3_method_6_49 rfl ?_
  refine Gl.goto Y48 d_prog_3_method_6_52 (by decide) rfl ?_
  refine Gl.iload Y48 rfl d_prog_3_method_6_3 rfl ?_
  refine Gl.iload Y48 rfl d_prog_3_method_6_5 rfl ?_
  refine Gl.icmpge Y48 d_prog_3_method_6_7 (by decide) rfl rfl (fun c7_2 => ?_) (fun c7_2 => ?_)
  · exact absurd c7_2 (by decide)
  refine Gl.aloadN Y48 rfl rfl d_prog_3_method_6_10 rfl ?_
  refine Gl.iloadN Y48 rfl d_prog_3_method_6_11 rfl ?_
  refine Gl.iload Y48 rfl d_prog_3_method_6_12 rfl ?_
  refine Gl.iadd Y48 rfl d_prog_3_method_6_14 rfl ?_
  have f1 : Arv Z h48 a ka .char (4 : Int32) va (.int (0 : Int32)) := (V.other W48 nag)
  refine Gl.caload Y48 f1 hj1 (v := (.int u1)) hv1 d_prog_3_method_6_15 rfl ?_
  refine Gl.iloadN Y48 rfl d_prog_3_method_6_16 rfl ?_
  refine Gl.ixor Y48 rfl d_prog_3_method_6_17 rfl ?_
  refine Gl.aloadN Y48 rfl rfl d_prog_3_method_6_18 rfl ?_
  refine Gl.iload Y48 rfl d_prog_3_method_6_19 rfl ?_
  refine Gl.iload Y48 rfl d_prog_3_method_6_21 rfl ?_
  refine Gl.iadd Y48 rfl d_prog_3_method_6_23 rfl ?_
  have f2 : Arv Z h48 b kb .char (4 : Int32) vb (.int (0 : Int32)) := (V2.other W48 nbg)
  refine Gl.caload Y48 f2 kj1 (v := (.int w1)) kv1 d_prog_3_method_6_24 rfl ?_
  refine Gl.iload Y48 rfl d_prog_3_method_6_25 rfl ?_
  refine Gl.ixor Y48 rfl d_prog_3_method_6_27 rfl ?_
  refine Gl.ior Y48 rfl d_prog_3_method_6_28 rfl ?_
  refine Gl.istore Y48 (L' := #[.val (.ref a), .val (.int ls), .val (.int le), .val (.ref b), .val (.int ss), .val (.int se), .val (.ref g), .val (.int (2 : Int32)), .val (.int (1 : Int32)), .val (.int ((u1 ^^^ le) ||| (w1 ^^^ se)))]) rfl d_prog_3_method_6_29 rfl ?_
  refine Gl.aload Y48 rfl rfl d_prog_3_method_6_31 rfl ?_
  refine Gl.iload Y48 rfl d_prog_3_method_6_33 rfl ?_
  refine Gl.iload Y48 rfl d_prog_3_method_6_35 rfl ?_
  refine Gl.iconst Y48 (v := (1 : Int32)) (by decide) d_prog_3_method_6_37 rfl ?_
  refine Gl.isub Y48 rfl d_prog_3_method_6_38 rfl ?_
  refine Gl.iload Y48 rfl d_prog_3_method_6_39 rfl ?_
  refine Gl.iconst Y48 (v := (-1 : Int32)) (by decide) d_prog_3_method_6_41 rfl ?_
  refine Gl.ixor Y48 rfl d_prog_3_method_6_42 rfl ?_
  refine Gl.iand Y48 rfl d_prog_3_method_6_43 rfl ?_
  refine Gl.ldcI Y48 (tw_14 hw) d_prog_3_method_6_44 rfl ?_
  refine Gl.iand Y48 rfl d_prog_3_method_6_46 rfl ?_
  refine Gl.i2s Y48 rfl d_prog_3_method_6_47 rfl ?_
  refine Gl.sastore Y48 A48 (v := (.int ((((((u1 ^^^ le) ||| (w1 ^^^ se)) - (1 : Int32)) &&& (((u1 ^^^ le) ||| (w1 ^^^ se)) ^^^ (-1 : Int32))) &&& (32768 : Int32)).toInt16.toInt32))) (congrArg Value.int (own_narS rfl)) ⟨by decide, by decide⟩ (ix := 1) rfl (Nat.le_of_ble_eq_true rfl) gg d_prog_3_method_6_48 rfl (fun T48_2 h48_2 Y48_2 W48_2 A48_2 => ?_)
  have A48_2 : Arv Z h48_2 g kg .short (4 : Int32) [(.int ((((((u0 ^^^ le) ||| (w0 ^^^ se)) - (1 : Int32)) &&& (((u0 ^^^ le) ||| (w0 ^^^ se)) ^^^ (-1 : Int32))) &&& (32768 : Int32)).toInt16.toInt32)), (.int ((((((u1 ^^^ le) ||| (w1 ^^^ se)) - (1 : Int32)) &&& (((u1 ^^^ le) ||| (w1 ^^^ se)) ^^^ (-1 : Int32))) &&& (32768 : Int32)).toInt16.toInt32)), (.int m2), (.int m3)] (.int (0 : Int32)) := A48_2
  have K48_2 : Keep h0 h48_2 [g] := K48.wr W48_2 (Or.inl (List.mem_of_getElem? (i := 0) rfl))
  show Gl p e below _ (T48_2.setTop (mkF m 49 #[.val (.ref a), .val (.int ls), .val (.int le), .val (.ref b), .val (.int ss), .val (.int se), .val (.ref g), .val (.int (2 : Int32)), .val (.int (1 : Int32)), .val (.int ((u1 ^^^ le) ||| (w1 ^^^ se)))] []))
  refine Gl.iinc Y48_2 rfl (r := (2 : Int32)) (by decide) (L' := #[.val (.ref a), .val (.int ls), .val (.int le), .val (.ref b), .val (.int ss), .val (.int se), .val (.ref g), .val (.int (2 : Int32)), .val (.int (2 : Int32)), .val (.int ((u1 ^^^ le) ||| (w1 ^^^ se)))]) rfl d_prog_3_method_6_49 rfl ?_
  refine Gl.goto Y48_2 d_prog_3_method_6_52 (by decide) rfl ?_
  refine Gl.iload Y48_2 rfl d_prog_3_method_6_3 rfl ?_
  refine Gl.iload Y48_2 rfl d_prog_3_method_6_5 rfl ?_
  refine Gl.icmpge Y48_2 d_prog_3_method_6_7 (by decide) rfl rfl (fun c7_3 => ?_) (fun c7_3 => ?_)
  rotate_left
  · exact absurd c7_3 (by decide)
  exact Gl.retV Y48_2 (by decide) (by decide)  d_prog_3_method_6_55 ⟨rfl, K48_2, A48_2⟩
def R3 : Room := { frames := 0, cells := 0, slots := 0, locals := 0 }
def Q3 (Z : State) (a : Addr) (ls : Int32) (le : Int32) (b : Addr) (ss : Int32) (se : Int32) (g : Addr) (ka : ClassId) (kb : ClassId) (kg : ClassId) (va : List Value) (vb : List Value) (m0 : Int32) (m1 : Int32) (m2 : Int32) (m3 : Int32) (u0 : Int32) (w0 : Int32) (u1 : Int32) (w1 : Int32) (u2 : Int32) (w2 : Int32) (h0 : Heap) (v : Option Value) (h : Heap) : Prop := v = none ∧ Keep h0 h [g] ∧ Arv Z h g kg .short (4 : Int32) [(.int (own_mark u0 le w0 se)), (.int (own_mark u1 le w1 se)), (.int (own_mark u2 le w2 se)), (.int m3)] (.int (0 : Int32))
theorem ef3 (a : Addr) (ls : Int32) (le : Int32) (b : Addr) (ss : Int32) (se : Int32) (g : Addr) (m : MethodId) : entryFrame m #[(.ref a), (.int ls), (.int le), (.ref b), (.int ss), (.int se), (.ref g), (.int (3 : Int32))] 10 = mkF m 0 #[.val (.ref a), .val (.int ls), .val (.int le), .val (.ref b), .val (.int ss), .val (.int se), .val (.ref g), .val (.int (3 : Int32)), .unset, .unset] [] := by first | (simp [entryFrame, mkF, argsToLocals, Value.category]; done) | rfl
set_option maxRecDepth 65536 in
set_option maxHeartbeats 40000000 in
theorem rm3 (l : Launch) (Z : State) (a0 : Array Value) (hw : ∀ d ∈ tables_1, d.before a0 Z = true) (ws : List Jvm.Cond) (a : Addr) (ls : Int32) (le : Int32) (b : Addr) (ss : Int32) (se : Int32) (g : Addr) (ka : ClassId) (kb : ClassId) (kg : ClassId) (va : List Value) (vb : List Value) (m0 : Int32) (m1 : Int32) (m2 : Int32) (m3 : Int32) (u0 : Int32) (w0 : Int32) (u1 : Int32) (w1 : Int32) (u2 : Int32) (w2 : Int32) (h0 : Heap) (n0 : Nat) (Z0 : n0 ≤ h0.size) (V : Arv Z h0 a ka .char (4 : Int32) va (.int (0 : Int32))) (V2 : Arv Z h0 b kb .char (4 : Int32) vb (.int (0 : Int32))) (V3 : Arv Z h0 g kg .short (4 : Int32) [(.int m0), (.int m1), (.int m2), (.int m3)] (.int (0 : Int32))) (gg : n0 ≤ g) (nag : a ≠ g) (nbg : b ≠ g) (hj0 : ¬ ls + (0 : Int32) < 0 ∧ ls + (0 : Int32) < 4) (hv0 : va.getD (ls + (0 : Int32)).toNatClampNeg (.int 0) = .int u0) (kj0 : ¬ ss + (0 : Int32) < 0 ∧ ss + (0 : Int32) < 4) (kv0 : vb.getD (ss + (0 : Int32)).toNatClampNeg (.int 0) = .int w0) (hj1 : ¬ ls + (1 : Int32) < 0 ∧ ls + (1 : Int32) < 4) (hv1 : va.getD (ls + (1 : Int32)).toNatClampNeg (.int 0) = .int u1) (kj1 : ¬ ss + (1 : Int32) < 0 ∧ ss + (1 : Int32) < 4) (kv1 : vb.getD (ss + (1 : Int32)).toNatClampNeg (.int 0) = .int w1) (hj2 : ¬ ls + (2 : Int32) < 0 ∧ ls + (2 : Int32) < 4) (hv2 : va.getD (ls + (2 : Int32)).toNatClampNeg (.int 0) = .int u2) (kj2 : ¬ ss + (2 : Int32) < 0 ∧ ss + (2 : Int32) < 4) (kv2 : vb.getD (ss + (2 : Int32)).toNatClampNeg (.int 0) = .int w2) : OMet l Z ws (⟨"com/example/ref_search/refsearch/matcher/BulkSymbols$Chars", "markPair", "([CII[CII[SI)V"⟩ : MethodName) prog_3_method_6_code 10 none R3 #[(.ref a), (.int ls), (.int le), (.ref b), (.int ss), (.int se), (.ref g), (.int (3 : Int32))] h0 n0 (Q3 Z a ls le b ss se g ka kb kg va vb m0 m1 m2 m3 u0 w0 u1 w1 u2 w2 h0) := by
  refine OMet.of (plainFor_of_name pn_0) (ef3 a ls le b ss se g) Z0 ?_
  intro p e s m below meth c T0 Y0 hnm
  have Y0 : Sd Z "com/example/ref_search/refsearch/matcher/BulkSymbols$Chars" prog_3_method_6_code 10 none n0 p l e R3 s m #[(.ref a), (.int ls), (.int le), (.ref b), (.int ss), (.int se), (.ref g), (.int (3 : Int32))] below meth c T0 h0 0 0 := Y0
  refine Gl.iconst Y0 (v := (0 : Int32)) (by decide) d_prog_3_method_6_0 rfl ?_
  refine Gl.istore Y0 (L' := #[.val (.ref a), .val (.int ls), .val (.int le), .val (.ref b), .val (.int ss), .val (.int se), .val (.ref g), .val (.int (3 : Int32)), .val (.int (0 : Int32)), .unset]) rfl d_prog_3_method_6_1 rfl ?_
  refine Gl.iload Y0 rfl d_prog_3_method_6_3 rfl ?_
  refine Gl.iload Y0 rfl d_prog_3_method_6_5 rfl ?_
  refine Gl.icmpge Y0 d_prog_3_method_6_7 (by decide) rfl rfl (fun c7 => ?_) (fun c7 => ?_)
  · exact absurd c7 (by decide)
  refine Gl.aloadN Y0 rfl rfl d_prog_3_method_6_10 rfl ?_
  refine Gl.iloadN Y0 rfl d_prog_3_method_6_11 rfl ?_
  refine Gl.iload Y0 rfl d_prog_3_method_6_12 rfl ?_
  refine Gl.iadd Y0 rfl d_prog_3_method_6_14 rfl ?_
  refine Gl.caload Y0 V hj0 (v := (.int u0)) hv0 d_prog_3_method_6_15 rfl ?_
  refine Gl.iloadN Y0 rfl d_prog_3_method_6_16 rfl ?_
  refine Gl.ixor Y0 rfl d_prog_3_method_6_17 rfl ?_
  refine Gl.aloadN Y0 rfl rfl d_prog_3_method_6_18 rfl ?_
  refine Gl.iload Y0 rfl d_prog_3_method_6_19 rfl ?_
  refine Gl.iload Y0 rfl d_prog_3_method_6_21 rfl ?_
  refine Gl.iadd Y0 rfl d_prog_3_method_6_23 rfl ?_
  refine Gl.caload Y0 V2 kj0 (v := (.int w0)) kv0 d_prog_3_method_6_24 rfl ?_
  refine Gl.iload Y0 rfl d_prog_3_method_6_25 rfl ?_
  refine Gl.ixor Y0 rfl d_prog_3_method_6_27 rfl ?_
  refine Gl.ior Y0 rfl d_prog_3_method_6_28 rfl ?_
  refine Gl.istore Y0 (L' := #[.val (.ref a), .val (.int ls), .val (.int le), .val (.ref b), .val (.int ss), .val (.int se), .val (.ref g), .val (.int (3 : Int32)), .val (.int (0 : Int32)), .val (.int ((u0 ^^^ le) ||| (w0 ^^^ se)))]) rfl d_prog_3_method_6_29 rfl ?_
  refine Gl.aload Y0 rfl rfl d_prog_3_method_6_31 rfl ?_
  refine Gl.iload Y0 rfl d_prog_3_method_6_33 rfl ?_
  refine Gl.iload Y0 rfl d_prog_3_method_6_35 rfl ?_
  refine Gl.iconst Y0 (v := (1 : Int32)) (by decide) d_prog_3_method_6_37 rfl ?_
  refine Gl.isub Y0 rfl d_prog_3_method_6_38 rfl ?_
  refine Gl.iload Y0 rfl d_prog_3_method_6_39 rfl ?_
  refine Gl.iconst Y0 (v := (-1 : Int32)) (by decide) d_prog_3_method_6_41 rfl ?_
  refine Gl.ixor Y0 rfl d_prog_3_method_6_42 rfl ?_
  refine Gl.iand Y0 rfl d_prog_3_method_6_43 rfl ?_
  refine Gl.ldcI Y0 (tw_14 hw) d_prog_3_method_6_44 rfl ?_
  refine Gl.iand Y0 rfl d_prog_3_method_6_46 rfl ?_
  refine Gl.i2s Y0 rfl d_prog_3_method_6_47 rfl ?_
  refine Gl.sastore Y0 V3 (v := (.int ((((((u0 ^^^ le) ||| (w0 ^^^ se)) - (1 : Int32)) &&& (((u0 ^^^ le) ||| (w0 ^^^ se)) ^^^ (-1 : Int32))) &&& (32768 : Int32)).toInt16.toInt32))) (congrArg Value.int (own_narS rfl)) ⟨by decide, by decide⟩ (ix := 0) rfl (Nat.le_of_ble_eq_true rfl) gg d_prog_3_method_6_48 rfl (fun T48 h48 Y48 W48 A48 => ?_)
  have A48 : Arv Z h48 g kg .short (4 : Int32) [(.int ((((((u0 ^^^ le) ||| (w0 ^^^ se)) - (1 : Int32)) &&& (((u0 ^^^ le) ||| (w0 ^^^ se)) ^^^ (-1 : Int32))) &&& (32768 : Int32)).toInt16.toInt32)), (.int m1), (.int m2), (.int m3)] (.int (0 : Int32)) := A48
  have K48 : Keep h0 h48 [g] := (Keep.refl h0 [g]).wr W48 (Or.inl (List.mem_of_getElem? (i := 0) rfl))
  show Gl p e below _ (T48.setTop (mkF m 49 #[.val (.ref a), .val (.int ls), .val (.int le), .val (.ref b), .val (.int ss), .val (.int se), .val (.ref g), .val (.int (3 : Int32)), .val (.int (0 : Int32)), .val (.int ((u0 ^^^ le) ||| (w0 ^^^ se)))] []))
  refine Gl.iinc Y48 rfl (r := (1 : Int32)) (by decide) (L' := #[.val (.ref a), .val (.int ls), .val (.int le), .val (.ref b), .val (.int ss), .val (.int se), .val (.ref g), .val (.int (3 : Int32)), .val (.int (1 : Int32)), .val (.int ((u0 ^^^ le) ||| (w0 ^^^ se)))]) rfl d_prog_3_method_6_49 rfl ?_
  refine Gl.goto Y48 d_prog_3_method_6_52 (by decide) rfl ?_
  refine Gl.iload Y48 rfl d_prog_3_method_6_3 rfl ?_
  refine Gl.iload Y48 rfl d_prog_3_method_6_5 rfl ?_
  refine Gl.icmpge Y48 d_prog_3_method_6_7 (by decide) rfl rfl (fun c7_2 => ?_) (fun c7_2 => ?_)
  · exact absurd c7_2 (by decide)
  refine Gl.aloadN Y48 rfl rfl d_prog_3_method_6_10 rfl ?_
  refine Gl.iloadN Y48 rfl d_prog_3_method_6_11 rfl ?_
  refine Gl.iload Y48 rfl d_prog_3_method_6_12 rfl ?_
  refine Gl.iadd Y48 rfl d_prog_3_method_6_14 rfl ?_
  have f1 : Arv Z h48 a ka .char (4 : Int32) va (.int (0 : Int32)) := (V.other W48 nag)
  refine Gl.caload Y48 f1 hj1 (v := (.int u1)) hv1 d_prog_3_method_6_15 rfl ?_
  refine Gl.iloadN Y48 rfl d_prog_3_method_6_16 rfl ?_
  refine Gl.ixor Y48 rfl d_prog_3_method_6_17 rfl ?_
  refine Gl.aloadN Y48 rfl rfl d_prog_3_method_6_18 rfl ?_
  refine Gl.iload Y48 rfl d_prog_3_method_6_19 rfl ?_
  refine Gl.iload Y48 rfl d_prog_3_method_6_21 rfl ?_
  refine Gl.iadd Y48 rfl d_prog_3_method_6_23 rfl ?_
  have f2 : Arv Z h48 b kb .char (4 : Int32) vb (.int (0 : Int32)) := (V2.other W48 nbg)
  refine Gl.caload Y48 f2 kj1 (v := (.int w1)) kv1 d_prog_3_method_6_24 rfl ?_
  refine Gl.iload Y48 rfl d_prog_3_method_6_25 rfl ?_
  refine Gl.ixor Y48 rfl d_prog_3_method_6_27 rfl ?_
  refine Gl.ior Y48 rfl d_prog_3_method_6_28 rfl ?_
  refine Gl.istore Y48 (L' := #[.val (.ref a), .val (.int ls), .val (.int le), .val (.ref b), .val (.int ss), .val (.int se), .val (.ref g), .val (.int (3 : Int32)), .val (.int (1 : Int32)), .val (.int ((u1 ^^^ le) ||| (w1 ^^^ se)))]) rfl d_prog_3_method_6_29 rfl ?_
  refine Gl.aload Y48 rfl rfl d_prog_3_method_6_31 rfl ?_
  refine Gl.iload Y48 rfl d_prog_3_method_6_33 rfl ?_
  refine Gl.iload Y48 rfl d_prog_3_method_6_35 rfl ?_
  refine Gl.iconst Y48 (v := (1 : Int32)) (by decide) d_prog_3_method_6_37 rfl ?_
  refine Gl.isub Y48 rfl d_prog_3_method_6_38 rfl ?_
  refine Gl.iload Y48 rfl d_prog_3_method_6_39 rfl ?_
  refine Gl.iconst Y48 (v := (-1 : Int32)) (by decide) d_prog_3_method_6_41 rfl ?_
  refine Gl.ixor Y48 rfl d_prog_3_method_6_42 rfl ?_
  refine Gl.iand Y48 rfl d_prog_3_method_6_43 rfl ?_
  refine Gl.ldcI Y48 (tw_14 hw) d_prog_3_method_6_44 rfl ?_
  refine Gl.iand Y48 rfl d_prog_3_method_6_46 rfl ?_
  refine Gl.i2s Y48 rfl d_prog_3_method_6_47 rfl ?_
  refine Gl.sastore Y48 A48 (v := (.int ((((((u1 ^^^ le) ||| (w1 ^^^ se)) - (1 : Int32)) &&& (((u1 ^^^ le) ||| (w1 ^^^ se)) ^^^ (-1 : Int32))) &&& (32768 : Int32)).toInt16.toInt32))) (congrArg Value.int (own_narS rfl)) ⟨by decide, by decide⟩ (ix := 1) rfl (Nat.le_of_ble_eq_true rfl) gg d_prog_3_method_6_48 rfl (fun T48_2 h48_2 Y48_2 W48_2 A48_2 => ?_)
  have A48_2 : Arv Z h48_2 g kg .short (4 : Int32) [(.int ((((((u0 ^^^ le) ||| (w0 ^^^ se)) - (1 : Int32)) &&& (((u0 ^^^ le) ||| (w0 ^^^ se)) ^^^ (-1 : Int32))) &&& (32768 : Int32)).toInt16.toInt32)), (.int ((((((u1 ^^^ le) ||| (w1 ^^^ se)) - (1 : Int32)) &&& (((u1 ^^^ le) ||| (w1 ^^^ se)) ^^^ (-1 : Int32))) &&& (32768 : Int32)).toInt16.toInt32)), (.int m2), (.int m3)] (.int (0 : Int32)) := A48_2
  have K48_2 : Keep h0 h48_2 [g] := K48.wr W48_2 (Or.inl (List.mem_of_getElem? (i := 0) rfl))
  show Gl p e below _ (T48_2.setTop (mkF m 49 #[.val (.ref a), .val (.int ls), .val (.int le), .val (.ref b), .val (.int ss), .val (.int se), .val (.ref g), .val (.int (3 : Int32)), .val (.int (1 : Int32)), .val (.int ((u1 ^^^ le) ||| (w1 ^^^ se)))] []))
  refine Gl.iinc Y48_2 rfl (r := (2 : Int32)) (by decide) (L' := #[.val (.ref a), .val (.int ls), .val (.int le), .val (.ref b), .val (.int ss), .val (.int se), .val (.ref g), .val (.int (3 : Int32)), .val (.int (2 : Int32)), .val (.int ((u1 ^^^ le) ||| (w1 ^^^ se)))]) rfl d_prog_3_method_6_49 rfl ?_
  refine Gl.goto Y48_2 d_prog_3_method_6_52 (by decide) rfl ?_
  refine Gl.iload Y48_2 rfl d_prog_3_method_6_3 rfl ?_
  refine Gl.iload Y48_2 rfl d_prog_3_method_6_5 rfl ?_
  refine Gl.icmpge Y48_2 d_prog_3_method_6_7 (by decide) rfl rfl (fun c7_3 => ?_) (fun c7_3 => ?_)
  · exact absurd c7_3 (by decide)
  refine Gl.aloadN Y48_2 rfl rfl d_prog_3_method_6_10 rfl ?_
  refine Gl.iloadN Y48_2 rfl d_prog_3_method_6_11 rfl ?_
  refine Gl.iload Y48_2 rfl d_prog_3_method_6_12 rfl ?_
  refine Gl.iadd Y48_2 rfl d_prog_3_method_6_14 rfl ?_
  have f3 : Arv Z h48_2 a ka .char (4 : Int32) va (.int (0 : Int32)) := (f1.other W48_2 nag)
  refine Gl.caload Y48_2 f3 hj2 (v := (.int u2)) hv2 d_prog_3_method_6_15 rfl ?_
  refine Gl.iloadN Y48_2 rfl d_prog_3_method_6_16 rfl ?_
  refine Gl.ixor Y48_2 rfl d_prog_3_method_6_17 rfl ?_
  refine Gl.aloadN Y48_2 rfl rfl d_prog_3_method_6_18 rfl ?_
  refine Gl.iload Y48_2 rfl d_prog_3_method_6_19 rfl ?_
  refine Gl.iload Y48_2 rfl d_prog_3_method_6_21 rfl ?_
  refine Gl.iadd Y48_2 rfl d_prog_3_method_6_23 rfl ?_
  have f4 : Arv Z h48_2 b kb .char (4 : Int32) vb (.int (0 : Int32)) := (f2.other W48_2 nbg)
  refine Gl.caload Y48_2 f4 kj2 (v := (.int w2)) kv2 d_prog_3_method_6_24 rfl ?_
  refine Gl.iload Y48_2 rfl d_prog_3_method_6_25 rfl ?_
  refine Gl.ixor Y48_2 rfl d_prog_3_method_6_27 rfl ?_
  refine Gl.ior Y48_2 rfl d_prog_3_method_6_28 rfl ?_
  refine Gl.istore Y48_2 (L' := #[.val (.ref a), .val (.int ls), .val (.int le), .val (.ref b), .val (.int ss), .val (.int se), .val (.ref g), .val (.int (3 : Int32)), .val (.int (2 : Int32)), .val (.int ((u2 ^^^ le) ||| (w2 ^^^ se)))]) rfl d_prog_3_method_6_29 rfl ?_
  refine Gl.aload Y48_2 rfl rfl d_prog_3_method_6_31 rfl ?_
  refine Gl.iload Y48_2 rfl d_prog_3_method_6_33 rfl ?_
  refine Gl.iload Y48_2 rfl d_prog_3_method_6_35 rfl ?_
  refine Gl.iconst Y48_2 (v := (1 : Int32)) (by decide) d_prog_3_method_6_37 rfl ?_
  refine Gl.isub Y48_2 rfl d_prog_3_method_6_38 rfl ?_
  refine Gl.iload Y48_2 rfl d_prog_3_method_6_39 rfl ?_
  refine Gl.iconst Y48_2 (v := (-1 : Int32)) (by decide) d_prog_3_method_6_41 rfl ?_
  refine Gl.ixor Y48_2 rfl d_prog_3_method_6_42 rfl ?_
  refine Gl.iand Y48_2 rfl d_prog_3_method_6_43 rfl ?_
  refine Gl.ldcI Y48_2 (tw_14 hw) d_prog_3_method_6_44 rfl ?_
  refine Gl.iand Y48_2 rfl d_prog_3_method_6_46 rfl ?_
  refine Gl.i2s Y48_2 rfl d_prog_3_method_6_47 rfl ?_
  refine Gl.sastore Y48_2 A48_2 (v := (.int ((((((u2 ^^^ le) ||| (w2 ^^^ se)) - (1 : Int32)) &&& (((u2 ^^^ le) ||| (w2 ^^^ se)) ^^^ (-1 : Int32))) &&& (32768 : Int32)).toInt16.toInt32))) (congrArg Value.int (own_narS rfl)) ⟨by decide, by decide⟩ (ix := 2) rfl (Nat.le_of_ble_eq_true rfl) gg d_prog_3_method_6_48 rfl (fun T48_3 h48_3 Y48_3 W48_3 A48_3 => ?_)
  have A48_3 : Arv Z h48_3 g kg .short (4 : Int32) [(.int ((((((u0 ^^^ le) ||| (w0 ^^^ se)) - (1 : Int32)) &&& (((u0 ^^^ le) ||| (w0 ^^^ se)) ^^^ (-1 : Int32))) &&& (32768 : Int32)).toInt16.toInt32)), (.int ((((((u1 ^^^ le) ||| (w1 ^^^ se)) - (1 : Int32)) &&& (((u1 ^^^ le) ||| (w1 ^^^ se)) ^^^ (-1 : Int32))) &&& (32768 : Int32)).toInt16.toInt32)), (.int ((((((u2 ^^^ le) ||| (w2 ^^^ se)) - (1 : Int32)) &&& (((u2 ^^^ le) ||| (w2 ^^^ se)) ^^^ (-1 : Int32))) &&& (32768 : Int32)).toInt16.toInt32)), (.int m3)] (.int (0 : Int32)) := A48_3
  have K48_3 : Keep h0 h48_3 [g] := K48_2.wr W48_3 (Or.inl (List.mem_of_getElem? (i := 0) rfl))
  show Gl p e below _ (T48_3.setTop (mkF m 49 #[.val (.ref a), .val (.int ls), .val (.int le), .val (.ref b), .val (.int ss), .val (.int se), .val (.ref g), .val (.int (3 : Int32)), .val (.int (2 : Int32)), .val (.int ((u2 ^^^ le) ||| (w2 ^^^ se)))] []))
  refine Gl.iinc Y48_3 rfl (r := (3 : Int32)) (by decide) (L' := #[.val (.ref a), .val (.int ls), .val (.int le), .val (.ref b), .val (.int ss), .val (.int se), .val (.ref g), .val (.int (3 : Int32)), .val (.int (3 : Int32)), .val (.int ((u2 ^^^ le) ||| (w2 ^^^ se)))]) rfl d_prog_3_method_6_49 rfl ?_
  refine Gl.goto Y48_3 d_prog_3_method_6_52 (by decide) rfl ?_
  refine Gl.iload Y48_3 rfl d_prog_3_method_6_3 rfl ?_
  refine Gl.iload Y48_3 rfl d_prog_3_method_6_5 rfl ?_
  refine Gl.icmpge Y48_3 d_prog_3_method_6_7 (by decide) rfl rfl (fun c7_4 => ?_) (fun c7_4 => ?_)
  rotate_left
  · exact absurd c7_4 (by decide)
  exact Gl.retV Y48_3 (by decide) (by decide)  d_prog_3_method_6_55 ⟨rfl, K48_3, A48_3⟩
theorem d_method_3_0 : decode method_3_code 0 = .ok (.iload_n 1, 1) := by decide +kernel
theorem d_method_3_1 : decode method_3_code 1 = .ok (.iload_n 2, 1) := by decide +kernel
theorem d_method_3_2 : decode method_3_code 2 = .ok (.if_icmp .lt 16, 3) := by decide +kernel
theorem d_method_3_5 : decode method_3_code 5 = .ok (.aload_n 0, 1) := by decide +kernel
theorem d_method_3_6 : decode method_3_code 6 = .ok (.iload_n 1, 1) := by decide +kernel
theorem d_method_3_7 : decode method_3_code 7 = .ok (.saload, 1) := by decide +kernel
theorem d_method_3_8 : decode method_3_code 8 = .ok (.iload_n 3, 1) := by decide +kernel
theorem d_method_3_9 : decode method_3_code 9 = .ok (.if_icmp .ne 7, 3) := by decide +kernel
theorem d_method_3_12 : decode method_3_code 12 = .ok (.iconst 1, 1) := by decide +kernel
theorem d_method_3_13 : decode method_3_code 13 = .ok (.goto 4, 3) := by decide +kernel
theorem d_method_3_17 : decode method_3_code 17 = .ok (.ireturn, 1) := by decide +kernel
def R4 : Room := { frames := 0, cells := 0, slots := 0, locals := 0 }
def Q4 (Z : State) (a : Addr) (ls : Int32) (le : Int32) (b : Addr) (ss : Int32) (se : Int32) (g : Addr) (ka : ClassId) (kb : ClassId) (kg : ClassId) (va : List Value) (vb : List Value) (bf : Int32) (m0 : Int32) (m1 : Int32) (m2 : Int32) (m3 : Int32) (h0 : Heap) (v : Option Value) (h : Heap) : Prop := v = some (.int (1 : Int32)) ∧ h0 = h
theorem ef4 (a : Addr) (ls : Int32) (le : Int32) (b : Addr) (ss : Int32) (se : Int32) (g : Addr) (bf : Int32) (m : MethodId) : entryFrame m #[(.ref g), (.int (0 : Int32)), (.int (0 : Int32)), (.int bf), (.ref a), (.int ls), (.int le), (.ref b), (.int ss), (.int se)] 12 = mkF m 0 #[.val (.ref g), .val (.int (0 : Int32)), .val (.int (0 : Int32)), .val (.int bf), .val (.ref a), .val (.int ls), .val (.int le), .val (.ref b), .val (.int ss), .val (.int se), .unset, .unset] [] := by first | (simp [entryFrame, mkF, argsToLocals, Value.category]; done) | rfl
theorem pn_1 : plainName "com/example/ref_search/refsearch/matcher/CharsMarkPairPinLaw" = true := by first | (simp [plainName, overriddenIn]; done) | decide +kernel
set_option maxRecDepth 65536 in
set_option maxHeartbeats 40000000 in
theorem rm4 (l : Launch) (Z : State) (a0 : Array Value) (hw : ∀ d ∈ tables_1, d.before a0 Z = true) (ws : List Jvm.Cond) (a : Addr) (ls : Int32) (le : Int32) (b : Addr) (ss : Int32) (se : Int32) (g : Addr) (ka : ClassId) (kb : ClassId) (kg : ClassId) (va : List Value) (vb : List Value) (bf : Int32) (m0 : Int32) (m1 : Int32) (m2 : Int32) (m3 : Int32) (h0 : Heap) (n0 : Nat) (Z0 : n0 ≤ h0.size) (V : Arv Z h0 a ka .char (4 : Int32) va (.int (0 : Int32))) (V2 : Arv Z h0 b kb .char (4 : Int32) vb (.int (0 : Int32))) (V3 : Arv Z h0 g kg .short (4 : Int32) [(.int m0), (.int m1), (.int m2), (.int m3)] (.int (0 : Int32))) (hg : m0 = bf) : OMet l Z ws (⟨"com/example/ref_search/refsearch/matcher/CharsMarkPairPinLaw", "place", "([SIIS[CII[CII)Z"⟩ : MethodName) method_3_code 12 (some .boolean) R4 #[(.ref g), (.int (0 : Int32)), (.int (0 : Int32)), (.int bf), (.ref a), (.int ls), (.int le), (.ref b), (.int ss), (.int se)] h0 n0 (Q4 Z a ls le b ss se g ka kb kg va vb bf m0 m1 m2 m3 h0) := by
  refine OMet.of (plainFor_of_name pn_1) (ef4 a ls le b ss se g bf) Z0 ?_
  intro p e s m below meth c T0 Y0 hnm
  have Y0 : Sd Z "com/example/ref_search/refsearch/matcher/CharsMarkPairPinLaw" method_3_code 12 (some .boolean) n0 p l e R4 s m #[(.ref g), (.int (0 : Int32)), (.int (0 : Int32)), (.int bf), (.ref a), (.int ls), (.int le), (.ref b), (.int ss), (.int se)] below meth c T0 h0 0 0 := Y0
  refine Gl.iloadN Y0 rfl d_method_3_0 rfl ?_
  refine Gl.iloadN Y0 rfl d_method_3_1 rfl ?_
  refine Gl.icmplt Y0 d_method_3_2 (by decide) rfl rfl (fun c2 => ?_) (fun c2 => ?_)
  · exact absurd c2 (by decide)
  refine Gl.aloadN Y0 rfl rfl d_method_3_5 rfl ?_
  refine Gl.iloadN Y0 rfl d_method_3_6 rfl ?_
  refine Gl.saload Y0 V3 ⟨by decide, by decide⟩ (v := (.int m0)) rfl d_method_3_7 rfl ?_
  refine Gl.iloadN Y0 rfl d_method_3_8 rfl ?_
  refine Gl.icmpne Y0 d_method_3_9 (by decide) rfl rfl (fun c9 => ?_) (fun c9 => ?_)
  · exact absurd hg c9
  refine Gl.iconst Y0 (v := (1 : Int32)) (by decide) d_method_3_12 rfl ?_
  refine Gl.goto Y0 d_method_3_13 (by decide) rfl ?_
  exact Gl.retZ Y0 (by decide) (by decide) (x' := (1 : Int32)) (by decide) d_method_3_17 ⟨rfl, rfl⟩
theorem d_method_3_18 : decode method_3_code 18 = .ok (.aload 4, 2) := by decide +kernel
theorem d_method_3_20 : decode method_3_code 20 = .ok (.iload 5, 2) := by decide +kernel
theorem d_method_3_22 : decode method_3_code 22 = .ok (.iload_n 1, 1) := by decide +kernel
theorem d_method_3_23 : decode method_3_code 23 = .ok (.iadd, 1) := by decide +kernel
theorem d_method_3_24 : decode method_3_code 24 = .ok (.caload, 1) := by decide +kernel
theorem d_method_3_25 : decode method_3_code 25 = .ok (.iload 6, 2) := by decide +kernel
theorem d_method_3_27 : decode method_3_code 27 = .ok (.if_icmp .ne 19, 3) := by decide +kernel
theorem d_method_3_46 : decode method_3_code 46 = .ok (.iconst 0, 1) := by decide +kernel
theorem d_method_3_47 : decode method_3_code 47 = .ok (.istore 10, 2) := by decide +kernel
theorem d_method_3_49 : decode method_3_code 49 = .ok (.iload 10, 2) := by decide +kernel
theorem d_method_3_51 : decode method_3_code 51 = .ok (.ifCond .eq 9, 3) := by decide +kernel
theorem d_method_3_60 : decode method_3_code 60 = .ok (.iconst 0, 1) := by decide +kernel
theorem d_method_3_61 : decode method_3_code 61 = .ok (.istore 11, 2) := by decide +kernel
theorem d_method_3_63 : decode method_3_code 63 = .ok (.aload_n 0, 1) := by decide +kernel
theorem d_method_3_64 : decode method_3_code 64 = .ok (.iload_n 1, 1) := by decide +kernel
theorem d_method_3_65 : decode method_3_code 65 = .ok (.saload, 1) := by decide +kernel
theorem d_method_3_66 : decode method_3_code 66 = .ok (.iload 11, 2) := by decide +kernel
theorem d_method_3_68 : decode method_3_code 68 = .ok (.if_icmp .ne 7, 3) := by decide +kernel
theorem d_method_3_71 : decode method_3_code 71 = .ok (.iconst 1, 1) := by decide +kernel
theorem d_method_3_72 : decode method_3_code 72 = .ok (.goto 4, 3) := by decide +kernel
theorem d_method_3_76 : decode method_3_code 76 = .ok (.ireturn, 1) := by decide +kernel
theorem d_method_3_30 : decode method_3_code 30 = .ok (.aload 7, 2) := by decide +kernel
theorem d_method_3_32 : decode method_3_code 32 = .ok (.iload 8, 2) := by decide +kernel
theorem d_method_3_34 : decode method_3_code 34 = .ok (.iload_n 1, 1) := by decide +kernel
theorem d_method_3_35 : decode method_3_code 35 = .ok (.iadd, 1) := by decide +kernel
theorem d_method_3_36 : decode method_3_code 36 = .ok (.caload, 1) := by decide +kernel
theorem d_method_3_37 : decode method_3_code 37 = .ok (.iload 9, 2) := by decide +kernel
theorem d_method_3_39 : decode method_3_code 39 = .ok (.if_icmp .ne 7, 3) := by decide +kernel
theorem d_method_3_42 : decode method_3_code 42 = .ok (.iconst 1, 1) := by decide +kernel
theorem d_method_3_43 : decode method_3_code 43 = .ok (.goto 4, 3) := by decide +kernel
theorem d_method_3_54 : decode method_3_code 54 = .ok (.sipush (-32768), 3) := by decide +kernel
theorem d_method_3_57 : decode method_3_code 57 = .ok (.goto 4, 3) := by decide +kernel
def R5 : Room := { frames := 0, cells := 0, slots := 0, locals := 0 }
def Q5 (Z : State) (a : Addr) (ls : Int32) (le : Int32) (b : Addr) (ss : Int32) (se : Int32) (g : Addr) (ka : ClassId) (kb : ClassId) (kg : ClassId) (va : List Value) (vb : List Value) (bf : Int32) (m0 : Int32) (m1 : Int32) (m2 : Int32) (m3 : Int32) (u0 : Int32) (w0 : Int32) (h0 : Heap) (v : Option Value) (h : Heap) : Prop := v = some (.int (1 : Int32)) ∧ h0 = h
theorem ef5 (a : Addr) (ls : Int32) (le : Int32) (b : Addr) (ss : Int32) (se : Int32) (g : Addr) (bf : Int32) (m : MethodId) : entryFrame m #[(.ref g), (.int (0 : Int32)), (.int (1 : Int32)), (.int bf), (.ref a), (.int ls), (.int le), (.ref b), (.int ss), (.int se)] 12 = mkF m 0 #[.val (.ref g), .val (.int (0 : Int32)), .val (.int (1 : Int32)), .val (.int bf), .val (.ref a), .val (.int ls), .val (.int le), .val (.ref b), .val (.int ss), .val (.int se), .unset, .unset] [] := by first | (simp [entryFrame, mkF, argsToLocals, Value.category]; done) | rfl
set_option maxRecDepth 65536 in
set_option maxHeartbeats 40000000 in
theorem rm5 (l : Launch) (Z : State) (a0 : Array Value) (hw : ∀ d ∈ tables_1, d.before a0 Z = true) (ws : List Jvm.Cond) (a : Addr) (ls : Int32) (le : Int32) (b : Addr) (ss : Int32) (se : Int32) (g : Addr) (ka : ClassId) (kb : ClassId) (kg : ClassId) (va : List Value) (vb : List Value) (bf : Int32) (m0 : Int32) (m1 : Int32) (m2 : Int32) (m3 : Int32) (u0 : Int32) (w0 : Int32) (h0 : Heap) (n0 : Nat) (Z0 : n0 ≤ h0.size) (V : Arv Z h0 a ka .char (4 : Int32) va (.int (0 : Int32))) (V2 : Arv Z h0 b kb .char (4 : Int32) vb (.int (0 : Int32))) (V3 : Arv Z h0 g kg .short (4 : Int32) [(.int m0), (.int m1), (.int m2), (.int m3)] (.int (0 : Int32))) (hj0 : ¬ ls + (0 : Int32) < 0 ∧ ls + (0 : Int32) < 4) (hv0 : va.getD (ls + (0 : Int32)).toNatClampNeg (.int 0) = .int u0) (kj0 : ¬ ss + (0 : Int32) < 0 ∧ ss + (0 : Int32) < 4) (kv0 : vb.getD (ss + (0 : Int32)).toNatClampNeg (.int 0) = .int w0) (r_u0 : 0 ≤ u0.toInt ∧ u0.toInt ≤ 65535) (r_w0 : 0 ≤ w0.toInt ∧ w0.toInt ≤ 65535) (r_le : 0 ≤ le.toInt ∧ le.toInt ≤ 65535) (r_se : 0 ≤ se.toInt ∧ se.toInt ≤ 65535) (hg : m0 = own_mark u0 le w0 se) : OMet l Z ws (⟨"com/example/ref_search/refsearch/matcher/CharsMarkPairPinLaw", "place", "([SIIS[CII[CII)Z"⟩ : MethodName) method_3_code 12 (some .boolean) R5 #[(.ref g), (.int (0 : Int32)), (.int (1 : Int32)), (.int bf), (.ref a), (.int ls), (.int le), (.ref b), (.int ss), (.int se)] h0 n0 (Q5 Z a ls le b ss se g ka kb kg va vb bf m0 m1 m2 m3 u0 w0 h0) := by
  refine OMet.of (plainFor_of_name pn_1) (ef5 a ls le b ss se g bf) Z0 ?_
  intro p e s m below meth c T0 Y0 hnm
  have Y0 : Sd Z "com/example/ref_search/refsearch/matcher/CharsMarkPairPinLaw" method_3_code 12 (some .boolean) n0 p l e R5 s m #[(.ref g), (.int (0 : Int32)), (.int (1 : Int32)), (.int bf), (.ref a), (.int ls), (.int le), (.ref b), (.int ss), (.int se)] below meth c T0 h0 0 0 := Y0
  refine Gl.iloadN Y0 rfl d_method_3_0 rfl ?_
  refine Gl.iloadN Y0 rfl d_method_3_1 rfl ?_
  refine Gl.icmplt Y0 d_method_3_2 (by decide) rfl rfl (fun c2 => ?_) (fun c2 => ?_)
  rotate_left
  · exact absurd c2 (by decide)
  refine Gl.aload Y0 rfl rfl d_method_3_18 rfl ?_
  refine Gl.iload Y0 rfl d_method_3_20 rfl ?_
  refine Gl.iloadN Y0 rfl d_method_3_22 rfl ?_
  refine Gl.iadd Y0 rfl d_method_3_23 rfl ?_
  refine Gl.caload Y0 V hj0 (v := (.int u0)) hv0 d_method_3_24 rfl ?_
  refine Gl.iload Y0 rfl d_method_3_25 rfl ?_
  refine Gl.icmpne Y0 d_method_3_27 (by decide) rfl rfl (fun c27 => ?_) (fun c27 => ?_)
  · refine Gl.iconst Y0 (v := (0 : Int32)) (by decide) d_method_3_46 rfl ?_
    refine Gl.istore Y0 (L' := #[.val (.ref g), .val (.int (0 : Int32)), .val (.int (1 : Int32)), .val (.int bf), .val (.ref a), .val (.int ls), .val (.int le), .val (.ref b), .val (.int ss), .val (.int se), .val (.int (0 : Int32)), .unset]) rfl d_method_3_47 rfl ?_
    refine Gl.iload Y0 rfl d_method_3_49 rfl ?_
    refine Gl.ifeq Y0 d_method_3_51 (by decide) rfl rfl (fun c51 => ?_) (fun c51 => ?_)
    rotate_left
    · exact absurd c51 (by decide)
    refine Gl.iconst Y0 (v := (0 : Int32)) (by decide) d_method_3_60 rfl ?_
    refine Gl.istore Y0 (L' := #[.val (.ref g), .val (.int (0 : Int32)), .val (.int (1 : Int32)), .val (.int bf), .val (.ref a), .val (.int ls), .val (.int le), .val (.ref b), .val (.int ss), .val (.int se), .val (.int (0 : Int32)), .val (.int (0 : Int32))]) rfl d_method_3_61 rfl ?_
    refine Gl.aloadN Y0 rfl rfl d_method_3_63 rfl ?_
    refine Gl.iloadN Y0 rfl d_method_3_64 rfl ?_
    refine Gl.saload Y0 V3 ⟨by decide, by decide⟩ (v := (.int m0)) rfl d_method_3_65 rfl ?_
    refine Gl.iload Y0 rfl d_method_3_66 rfl ?_
    refine Gl.icmpne Y0 d_method_3_68 (by decide) rfl rfl (fun c68 => ?_) (fun c68 => ?_)
    · refine absurd ?_ c68
      rw [hg, own_mark_eq _ _ _ _ r_u0 r_le r_w0 r_se, if_neg (fun q => c27 q.1)]
    refine Gl.iconst Y0 (v := (1 : Int32)) (by decide) d_method_3_71 rfl ?_
    refine Gl.goto Y0 d_method_3_72 (by decide) rfl ?_
    exact Gl.retZ Y0 (by decide) (by decide) (x' := (1 : Int32)) (by decide) d_method_3_76 ⟨rfl, rfl⟩
  · refine Gl.aload Y0 rfl rfl d_method_3_30 rfl ?_
    refine Gl.iload Y0 rfl d_method_3_32 rfl ?_
    refine Gl.iloadN Y0 rfl d_method_3_34 rfl ?_
    refine Gl.iadd Y0 rfl d_method_3_35 rfl ?_
    refine Gl.caload Y0 V2 kj0 (v := (.int w0)) kv0 d_method_3_36 rfl ?_
    refine Gl.iload Y0 rfl d_method_3_37 rfl ?_
    refine Gl.icmpne Y0 d_method_3_39 (by decide) rfl rfl (fun c39 => ?_) (fun c39 => ?_)
    · refine Gl.iconst Y0 (v := (0 : Int32)) (by decide) d_method_3_46 rfl ?_
      refine Gl.istore Y0 (L' := #[.val (.ref g), .val (.int (0 : Int32)), .val (.int (1 : Int32)), .val (.int bf), .val (.ref a), .val (.int ls), .val (.int le), .val (.ref b), .val (.int ss), .val (.int se), .val (.int (0 : Int32)), .unset]) rfl d_method_3_47 rfl ?_
      refine Gl.iload Y0 rfl d_method_3_49 rfl ?_
      refine Gl.ifeq Y0 d_method_3_51 (by decide) rfl rfl (fun c51 => ?_) (fun c51 => ?_)
      rotate_left
      · exact absurd c51 (by decide)
      refine Gl.iconst Y0 (v := (0 : Int32)) (by decide) d_method_3_60 rfl ?_
      refine Gl.istore Y0 (L' := #[.val (.ref g), .val (.int (0 : Int32)), .val (.int (1 : Int32)), .val (.int bf), .val (.ref a), .val (.int ls), .val (.int le), .val (.ref b), .val (.int ss), .val (.int se), .val (.int (0 : Int32)), .val (.int (0 : Int32))]) rfl d_method_3_61 rfl ?_
      refine Gl.aloadN Y0 rfl rfl d_method_3_63 rfl ?_
      refine Gl.iloadN Y0 rfl d_method_3_64 rfl ?_
      refine Gl.saload Y0 V3 ⟨by decide, by decide⟩ (v := (.int m0)) rfl d_method_3_65 rfl ?_
      refine Gl.iload Y0 rfl d_method_3_66 rfl ?_
      refine Gl.icmpne Y0 d_method_3_68 (by decide) rfl rfl (fun c68 => ?_) (fun c68 => ?_)
      · refine absurd ?_ c68
        rw [hg, own_mark_eq _ _ _ _ r_u0 r_le r_w0 r_se, if_neg (fun q => c39 q.2)]
      refine Gl.iconst Y0 (v := (1 : Int32)) (by decide) d_method_3_71 rfl ?_
      refine Gl.goto Y0 d_method_3_72 (by decide) rfl ?_
      exact Gl.retZ Y0 (by decide) (by decide) (x' := (1 : Int32)) (by decide) d_method_3_76 ⟨rfl, rfl⟩
    · refine Gl.iconst Y0 (v := (1 : Int32)) (by decide) d_method_3_42 rfl ?_
      refine Gl.goto Y0 d_method_3_43 (by decide) rfl ?_
      refine Gl.istore Y0 (L' := #[.val (.ref g), .val (.int (0 : Int32)), .val (.int (1 : Int32)), .val (.int bf), .val (.ref a), .val (.int ls), .val (.int le), .val (.ref b), .val (.int ss), .val (.int se), .val (.int (1 : Int32)), .unset]) rfl d_method_3_47 rfl ?_
      refine Gl.iload Y0 rfl d_method_3_49 rfl ?_
      refine Gl.ifeq Y0 d_method_3_51 (by decide) rfl rfl (fun c51 => ?_) (fun c51 => ?_)
      · exact absurd c51 (by decide)
      refine Gl.sipush Y0 (v := (-32768 : Int32)) (by decide) d_method_3_54 rfl ?_
      refine Gl.goto Y0 d_method_3_57 (by decide) rfl ?_
      refine Gl.istore Y0 (L' := #[.val (.ref g), .val (.int (0 : Int32)), .val (.int (1 : Int32)), .val (.int bf), .val (.ref a), .val (.int ls), .val (.int le), .val (.ref b), .val (.int ss), .val (.int se), .val (.int (1 : Int32)), .val (.int (-32768 : Int32))]) rfl d_method_3_61 rfl ?_
      refine Gl.aloadN Y0 rfl rfl d_method_3_63 rfl ?_
      refine Gl.iloadN Y0 rfl d_method_3_64 rfl ?_
      refine Gl.saload Y0 V3 ⟨by decide, by decide⟩ (v := (.int m0)) rfl d_method_3_65 rfl ?_
      refine Gl.iload Y0 rfl d_method_3_66 rfl ?_
      refine Gl.icmpne Y0 d_method_3_68 (by decide) rfl rfl (fun c68 => ?_) (fun c68 => ?_)
      · refine absurd ?_ c68
        rw [hg, own_mark_eq _ _ _ _ r_u0 r_le r_w0 r_se, if_pos ⟨c27, c39⟩]
      refine Gl.iconst Y0 (v := (1 : Int32)) (by decide) d_method_3_71 rfl ?_
      refine Gl.goto Y0 d_method_3_72 (by decide) rfl ?_
      exact Gl.retZ Y0 (by decide) (by decide) (x' := (1 : Int32)) (by decide) d_method_3_76 ⟨rfl, rfl⟩
def R6 : Room := { frames := 0, cells := 0, slots := 0, locals := 0 }
def Q6 (Z : State) (a : Addr) (ls : Int32) (le : Int32) (b : Addr) (ss : Int32) (se : Int32) (g : Addr) (ka : ClassId) (kb : ClassId) (kg : ClassId) (va : List Value) (vb : List Value) (bf : Int32) (m0 : Int32) (m1 : Int32) (m2 : Int32) (m3 : Int32) (u0 : Int32) (w0 : Int32) (h0 : Heap) (v : Option Value) (h : Heap) : Prop := v = some (.int (1 : Int32)) ∧ h0 = h
theorem ef6 (a : Addr) (ls : Int32) (le : Int32) (b : Addr) (ss : Int32) (se : Int32) (g : Addr) (bf : Int32) (m : MethodId) : entryFrame m #[(.ref g), (.int (0 : Int32)), (.int (2 : Int32)), (.int bf), (.ref a), (.int ls), (.int le), (.ref b), (.int ss), (.int se)] 12 = mkF m 0 #[.val (.ref g), .val (.int (0 : Int32)), .val (.int (2 : Int32)), .val (.int bf), .val (.ref a), .val (.int ls), .val (.int le), .val (.ref b), .val (.int ss), .val (.int se), .unset, .unset] [] := by first | (simp [entryFrame, mkF, argsToLocals, Value.category]; done) | rfl
set_option maxRecDepth 65536 in
set_option maxHeartbeats 40000000 in
theorem rm6 (l : Launch) (Z : State) (a0 : Array Value) (hw : ∀ d ∈ tables_1, d.before a0 Z = true) (ws : List Jvm.Cond) (a : Addr) (ls : Int32) (le : Int32) (b : Addr) (ss : Int32) (se : Int32) (g : Addr) (ka : ClassId) (kb : ClassId) (kg : ClassId) (va : List Value) (vb : List Value) (bf : Int32) (m0 : Int32) (m1 : Int32) (m2 : Int32) (m3 : Int32) (u0 : Int32) (w0 : Int32) (h0 : Heap) (n0 : Nat) (Z0 : n0 ≤ h0.size) (V : Arv Z h0 a ka .char (4 : Int32) va (.int (0 : Int32))) (V2 : Arv Z h0 b kb .char (4 : Int32) vb (.int (0 : Int32))) (V3 : Arv Z h0 g kg .short (4 : Int32) [(.int m0), (.int m1), (.int m2), (.int m3)] (.int (0 : Int32))) (hj0 : ¬ ls + (0 : Int32) < 0 ∧ ls + (0 : Int32) < 4) (hv0 : va.getD (ls + (0 : Int32)).toNatClampNeg (.int 0) = .int u0) (kj0 : ¬ ss + (0 : Int32) < 0 ∧ ss + (0 : Int32) < 4) (kv0 : vb.getD (ss + (0 : Int32)).toNatClampNeg (.int 0) = .int w0) (r_u0 : 0 ≤ u0.toInt ∧ u0.toInt ≤ 65535) (r_w0 : 0 ≤ w0.toInt ∧ w0.toInt ≤ 65535) (r_le : 0 ≤ le.toInt ∧ le.toInt ≤ 65535) (r_se : 0 ≤ se.toInt ∧ se.toInt ≤ 65535) (hg : m0 = own_mark u0 le w0 se) : OMet l Z ws (⟨"com/example/ref_search/refsearch/matcher/CharsMarkPairPinLaw", "place", "([SIIS[CII[CII)Z"⟩ : MethodName) method_3_code 12 (some .boolean) R6 #[(.ref g), (.int (0 : Int32)), (.int (2 : Int32)), (.int bf), (.ref a), (.int ls), (.int le), (.ref b), (.int ss), (.int se)] h0 n0 (Q6 Z a ls le b ss se g ka kb kg va vb bf m0 m1 m2 m3 u0 w0 h0) := by
  refine OMet.of (plainFor_of_name pn_1) (ef6 a ls le b ss se g bf) Z0 ?_
  intro p e s m below meth c T0 Y0 hnm
  have Y0 : Sd Z "com/example/ref_search/refsearch/matcher/CharsMarkPairPinLaw" method_3_code 12 (some .boolean) n0 p l e R6 s m #[(.ref g), (.int (0 : Int32)), (.int (2 : Int32)), (.int bf), (.ref a), (.int ls), (.int le), (.ref b), (.int ss), (.int se)] below meth c T0 h0 0 0 := Y0
  refine Gl.iloadN Y0 rfl d_method_3_0 rfl ?_
  refine Gl.iloadN Y0 rfl d_method_3_1 rfl ?_
  refine Gl.icmplt Y0 d_method_3_2 (by decide) rfl rfl (fun c2 => ?_) (fun c2 => ?_)
  rotate_left
  · exact absurd c2 (by decide)
  refine Gl.aload Y0 rfl rfl d_method_3_18 rfl ?_
  refine Gl.iload Y0 rfl d_method_3_20 rfl ?_
  refine Gl.iloadN Y0 rfl d_method_3_22 rfl ?_
  refine Gl.iadd Y0 rfl d_method_3_23 rfl ?_
  refine Gl.caload Y0 V hj0 (v := (.int u0)) hv0 d_method_3_24 rfl ?_
  refine Gl.iload Y0 rfl d_method_3_25 rfl ?_
  refine Gl.icmpne Y0 d_method_3_27 (by decide) rfl rfl (fun c27 => ?_) (fun c27 => ?_)
  · refine Gl.iconst Y0 (v := (0 : Int32)) (by decide) d_method_3_46 rfl ?_
    refine Gl.istore Y0 (L' := #[.val (.ref g), .val (.int (0 : Int32)), .val (.int (2 : Int32)), .val (.int bf), .val (.ref a), .val (.int ls), .val (.int le), .val (.ref b), .val (.int ss), .val (.int se), .val (.int (0 : Int32)), .unset]) rfl d_method_3_47 rfl ?_
    refine Gl.iload Y0 rfl d_method_3_49 rfl ?_
    refine Gl.ifeq Y0 d_method_3_51 (by decide) rfl rfl (fun c51 => ?_) (fun c51 => ?_)
    rotate_left
    · exact absurd c51 (by decide)
    refine Gl.iconst Y0 (v := (0 : Int32)) (by decide) d_method_3_60 rfl ?_
    refine Gl.istore Y0 (L' := #[.val (.ref g), .val (.int (0 : Int32)), .val (.int (2 : Int32)), .val (.int bf), .val (.ref a), .val (.int ls), .val (.int le), .val (.ref b), .val (.int ss), .val (.int se), .val (.int (0 : Int32)), .val (.int (0 : Int32))]) rfl d_method_3_61 rfl ?_
    refine Gl.aloadN Y0 rfl rfl d_method_3_63 rfl ?_
    refine Gl.iloadN Y0 rfl d_method_3_64 rfl ?_
    refine Gl.saload Y0 V3 ⟨by decide, by decide⟩ (v := (.int m0)) rfl d_method_3_65 rfl ?_
    refine Gl.iload Y0 rfl d_method_3_66 rfl ?_
    refine Gl.icmpne Y0 d_method_3_68 (by decide) rfl rfl (fun c68 => ?_) (fun c68 => ?_)
    · refine absurd ?_ c68
      rw [hg, own_mark_eq _ _ _ _ r_u0 r_le r_w0 r_se, if_neg (fun q => c27 q.1)]
    refine Gl.iconst Y0 (v := (1 : Int32)) (by decide) d_method_3_71 rfl ?_
    refine Gl.goto Y0 d_method_3_72 (by decide) rfl ?_
    exact Gl.retZ Y0 (by decide) (by decide) (x' := (1 : Int32)) (by decide) d_method_3_76 ⟨rfl, rfl⟩
  · refine Gl.aload Y0 rfl rfl d_method_3_30 rfl ?_
    refine Gl.iload Y0 rfl d_method_3_32 rfl ?_
    refine Gl.iloadN Y0 rfl d_method_3_34 rfl ?_
    refine Gl.iadd Y0 rfl d_method_3_35 rfl ?_
    refine Gl.caload Y0 V2 kj0 (v := (.int w0)) kv0 d_method_3_36 rfl ?_
    refine Gl.iload Y0 rfl d_method_3_37 rfl ?_
    refine Gl.icmpne Y0 d_method_3_39 (by decide) rfl rfl (fun c39 => ?_) (fun c39 => ?_)
    · refine Gl.iconst Y0 (v := (0 : Int32)) (by decide) d_method_3_46 rfl ?_
      refine Gl.istore Y0 (L' := #[.val (.ref g), .val (.int (0 : Int32)), .val (.int (2 : Int32)), .val (.int bf), .val (.ref a), .val (.int ls), .val (.int le), .val (.ref b), .val (.int ss), .val (.int se), .val (.int (0 : Int32)), .unset]) rfl d_method_3_47 rfl ?_
      refine Gl.iload Y0 rfl d_method_3_49 rfl ?_
      refine Gl.ifeq Y0 d_method_3_51 (by decide) rfl rfl (fun c51 => ?_) (fun c51 => ?_)
      rotate_left
      · exact absurd c51 (by decide)
      refine Gl.iconst Y0 (v := (0 : Int32)) (by decide) d_method_3_60 rfl ?_
      refine Gl.istore Y0 (L' := #[.val (.ref g), .val (.int (0 : Int32)), .val (.int (2 : Int32)), .val (.int bf), .val (.ref a), .val (.int ls), .val (.int le), .val (.ref b), .val (.int ss), .val (.int se), .val (.int (0 : Int32)), .val (.int (0 : Int32))]) rfl d_method_3_61 rfl ?_
      refine Gl.aloadN Y0 rfl rfl d_method_3_63 rfl ?_
      refine Gl.iloadN Y0 rfl d_method_3_64 rfl ?_
      refine Gl.saload Y0 V3 ⟨by decide, by decide⟩ (v := (.int m0)) rfl d_method_3_65 rfl ?_
      refine Gl.iload Y0 rfl d_method_3_66 rfl ?_
      refine Gl.icmpne Y0 d_method_3_68 (by decide) rfl rfl (fun c68 => ?_) (fun c68 => ?_)
      · refine absurd ?_ c68
        rw [hg, own_mark_eq _ _ _ _ r_u0 r_le r_w0 r_se, if_neg (fun q => c39 q.2)]
      refine Gl.iconst Y0 (v := (1 : Int32)) (by decide) d_method_3_71 rfl ?_
      refine Gl.goto Y0 d_method_3_72 (by decide) rfl ?_
      exact Gl.retZ Y0 (by decide) (by decide) (x' := (1 : Int32)) (by decide) d_method_3_76 ⟨rfl, rfl⟩
    · refine Gl.iconst Y0 (v := (1 : Int32)) (by decide) d_method_3_42 rfl ?_
      refine Gl.goto Y0 d_method_3_43 (by decide) rfl ?_
      refine Gl.istore Y0 (L' := #[.val (.ref g), .val (.int (0 : Int32)), .val (.int (2 : Int32)), .val (.int bf), .val (.ref a), .val (.int ls), .val (.int le), .val (.ref b), .val (.int ss), .val (.int se), .val (.int (1 : Int32)), .unset]) rfl d_method_3_47 rfl ?_
      refine Gl.iload Y0 rfl d_method_3_49 rfl ?_
      refine Gl.ifeq Y0 d_method_3_51 (by decide) rfl rfl (fun c51 => ?_) (fun c51 => ?_)
      · exact absurd c51 (by decide)
      refine Gl.sipush Y0 (v := (-32768 : Int32)) (by decide) d_method_3_54 rfl ?_
      refine Gl.goto Y0 d_method_3_57 (by decide) rfl ?_
      refine Gl.istore Y0 (L' := #[.val (.ref g), .val (.int (0 : Int32)), .val (.int (2 : Int32)), .val (.int bf), .val (.ref a), .val (.int ls), .val (.int le), .val (.ref b), .val (.int ss), .val (.int se), .val (.int (1 : Int32)), .val (.int (-32768 : Int32))]) rfl d_method_3_61 rfl ?_
      refine Gl.aloadN Y0 rfl rfl d_method_3_63 rfl ?_
      refine Gl.iloadN Y0 rfl d_method_3_64 rfl ?_
      refine Gl.saload Y0 V3 ⟨by decide, by decide⟩ (v := (.int m0)) rfl d_method_3_65 rfl ?_
      refine Gl.iload Y0 rfl d_method_3_66 rfl ?_
      refine Gl.icmpne Y0 d_method_3_68 (by decide) rfl rfl (fun c68 => ?_) (fun c68 => ?_)
      · refine absurd ?_ c68
        rw [hg, own_mark_eq _ _ _ _ r_u0 r_le r_w0 r_se, if_pos ⟨c27, c39⟩]
      refine Gl.iconst Y0 (v := (1 : Int32)) (by decide) d_method_3_71 rfl ?_
      refine Gl.goto Y0 d_method_3_72 (by decide) rfl ?_
      exact Gl.retZ Y0 (by decide) (by decide) (x' := (1 : Int32)) (by decide) d_method_3_76 ⟨rfl, rfl⟩
def R7 : Room := { frames := 0, cells := 0, slots := 0, locals := 0 }
def Q7 (Z : State) (a : Addr) (ls : Int32) (le : Int32) (b : Addr) (ss : Int32) (se : Int32) (g : Addr) (ka : ClassId) (kb : ClassId) (kg : ClassId) (va : List Value) (vb : List Value) (bf : Int32) (m0 : Int32) (m1 : Int32) (m2 : Int32) (m3 : Int32) (u0 : Int32) (w0 : Int32) (h0 : Heap) (v : Option Value) (h : Heap) : Prop := v = some (.int (1 : Int32)) ∧ h0 = h
theorem ef7 (a : Addr) (ls : Int32) (le : Int32) (b : Addr) (ss : Int32) (se : Int32) (g : Addr) (bf : Int32) (m : MethodId) : entryFrame m #[(.ref g), (.int (0 : Int32)), (.int (3 : Int32)), (.int bf), (.ref a), (.int ls), (.int le), (.ref b), (.int ss), (.int se)] 12 = mkF m 0 #[.val (.ref g), .val (.int (0 : Int32)), .val (.int (3 : Int32)), .val (.int bf), .val (.ref a), .val (.int ls), .val (.int le), .val (.ref b), .val (.int ss), .val (.int se), .unset, .unset] [] := by first | (simp [entryFrame, mkF, argsToLocals, Value.category]; done) | rfl
set_option maxRecDepth 65536 in
set_option maxHeartbeats 40000000 in
theorem rm7 (l : Launch) (Z : State) (a0 : Array Value) (hw : ∀ d ∈ tables_1, d.before a0 Z = true) (ws : List Jvm.Cond) (a : Addr) (ls : Int32) (le : Int32) (b : Addr) (ss : Int32) (se : Int32) (g : Addr) (ka : ClassId) (kb : ClassId) (kg : ClassId) (va : List Value) (vb : List Value) (bf : Int32) (m0 : Int32) (m1 : Int32) (m2 : Int32) (m3 : Int32) (u0 : Int32) (w0 : Int32) (h0 : Heap) (n0 : Nat) (Z0 : n0 ≤ h0.size) (V : Arv Z h0 a ka .char (4 : Int32) va (.int (0 : Int32))) (V2 : Arv Z h0 b kb .char (4 : Int32) vb (.int (0 : Int32))) (V3 : Arv Z h0 g kg .short (4 : Int32) [(.int m0), (.int m1), (.int m2), (.int m3)] (.int (0 : Int32))) (hj0 : ¬ ls + (0 : Int32) < 0 ∧ ls + (0 : Int32) < 4) (hv0 : va.getD (ls + (0 : Int32)).toNatClampNeg (.int 0) = .int u0) (kj0 : ¬ ss + (0 : Int32) < 0 ∧ ss + (0 : Int32) < 4) (kv0 : vb.getD (ss + (0 : Int32)).toNatClampNeg (.int 0) = .int w0) (r_u0 : 0 ≤ u0.toInt ∧ u0.toInt ≤ 65535) (r_w0 : 0 ≤ w0.toInt ∧ w0.toInt ≤ 65535) (r_le : 0 ≤ le.toInt ∧ le.toInt ≤ 65535) (r_se : 0 ≤ se.toInt ∧ se.toInt ≤ 65535) (hg : m0 = own_mark u0 le w0 se) : OMet l Z ws (⟨"com/example/ref_search/refsearch/matcher/CharsMarkPairPinLaw", "place", "([SIIS[CII[CII)Z"⟩ : MethodName) method_3_code 12 (some .boolean) R7 #[(.ref g), (.int (0 : Int32)), (.int (3 : Int32)), (.int bf), (.ref a), (.int ls), (.int le), (.ref b), (.int ss), (.int se)] h0 n0 (Q7 Z a ls le b ss se g ka kb kg va vb bf m0 m1 m2 m3 u0 w0 h0) := by
  refine OMet.of (plainFor_of_name pn_1) (ef7 a ls le b ss se g bf) Z0 ?_
  intro p e s m below meth c T0 Y0 hnm
  have Y0 : Sd Z "com/example/ref_search/refsearch/matcher/CharsMarkPairPinLaw" method_3_code 12 (some .boolean) n0 p l e R7 s m #[(.ref g), (.int (0 : Int32)), (.int (3 : Int32)), (.int bf), (.ref a), (.int ls), (.int le), (.ref b), (.int ss), (.int se)] below meth c T0 h0 0 0 := Y0
  refine Gl.iloadN Y0 rfl d_method_3_0 rfl ?_
  refine Gl.iloadN Y0 rfl d_method_3_1 rfl ?_
  refine Gl.icmplt Y0 d_method_3_2 (by decide) rfl rfl (fun c2 => ?_) (fun c2 => ?_)
  rotate_left
  · exact absurd c2 (by decide)
  refine Gl.aload Y0 rfl rfl d_method_3_18 rfl ?_
  refine Gl.iload Y0 rfl d_method_3_20 rfl ?_
  refine Gl.iloadN Y0 rfl d_method_3_22 rfl ?_
  refine Gl.iadd Y0 rfl d_method_3_23 rfl ?_
  refine Gl.caload Y0 V hj0 (v := (.int u0)) hv0 d_method_3_24 rfl ?_
  refine Gl.iload Y0 rfl d_method_3_25 rfl ?_
  refine Gl.icmpne Y0 d_method_3_27 (by decide) rfl rfl (fun c27 => ?_) (fun c27 => ?_)
  · refine Gl.iconst Y0 (v := (0 : Int32)) (by decide) d_method_3_46 rfl ?_
    refine Gl.istore Y0 (L' := #[.val (.ref g), .val (.int (0 : Int32)), .val (.int (3 : Int32)), .val (.int bf), .val (.ref a), .val (.int ls), .val (.int le), .val (.ref b), .val (.int ss), .val (.int se), .val (.int (0 : Int32)), .unset]) rfl d_method_3_47 rfl ?_
    refine Gl.iload Y0 rfl d_method_3_49 rfl ?_
    refine Gl.ifeq Y0 d_method_3_51 (by decide) rfl rfl (fun c51 => ?_) (fun c51 => ?_)
    rotate_left
    · exact absurd c51 (by decide)
    refine Gl.iconst Y0 (v := (0 : Int32)) (by decide) d_method_3_60 rfl ?_
    refine Gl.istore Y0 (L' := #[.val (.ref g), .val (.int (0 : Int32)), .val (.int (3 : Int32)), .val (.int bf), .val (.ref a), .val (.int ls), .val (.int le), .val (.ref b), .val (.int ss), .val (.int se), .val (.int (0 : Int32)), .val (.int (0 : Int32))]) rfl d_method_3_61 rfl ?_
    refine Gl.aloadN Y0 rfl rfl d_method_3_63 rfl ?_
    refine Gl.iloadN Y0 rfl d_method_3_64 rfl ?_
    refine Gl.saload Y0 V3 ⟨by decide, by decide⟩ (v := (.int m0)) rfl d_method_3_65 rfl ?_
    refine Gl.iload Y0 rfl d_method_3_66 rfl ?_
    refine Gl.icmpne Y0 d_method_3_68 (by decide) rfl rfl (fun c68 => ?_) (fun c68 => ?_)
    · refine absurd ?_ c68
      rw [hg, own_mark_eq _ _ _ _ r_u0 r_le r_w0 r_se, if_neg (fun q => c27 q.1)]
    refine Gl.iconst Y0 (v := (1 : Int32)) (by decide) d_method_3_71 rfl ?_
    refine Gl.goto Y0 d_method_3_72 (by decide) rfl ?_
    exact Gl.retZ Y0 (by decide) (by decide) (x' := (1 : Int32)) (by decide) d_method_3_76 ⟨rfl, rfl⟩
  · refine Gl.aload Y0 rfl rfl d_method_3_30 rfl ?_
    refine Gl.iload Y0 rfl d_method_3_32 rfl ?_
    refine Gl.iloadN Y0 rfl d_method_3_34 rfl ?_
    refine Gl.iadd Y0 rfl d_method_3_35 rfl ?_
    refine Gl.caload Y0 V2 kj0 (v := (.int w0)) kv0 d_method_3_36 rfl ?_
    refine Gl.iload Y0 rfl d_method_3_37 rfl ?_
    refine Gl.icmpne Y0 d_method_3_39 (by decide) rfl rfl (fun c39 => ?_) (fun c39 => ?_)
    · refine Gl.iconst Y0 (v := (0 : Int32)) (by decide) d_method_3_46 rfl ?_
      refine Gl.istore Y0 (L' := #[.val (.ref g), .val (.int (0 : Int32)), .val (.int (3 : Int32)), .val (.int bf), .val (.ref a), .val (.int ls), .val (.int le), .val (.ref b), .val (.int ss), .val (.int se), .val (.int (0 : Int32)), .unset]) rfl d_method_3_47 rfl ?_
      refine Gl.iload Y0 rfl d_method_3_49 rfl ?_
      refine Gl.ifeq Y0 d_method_3_51 (by decide) rfl rfl (fun c51 => ?_) (fun c51 => ?_)
      rotate_left
      · exact absurd c51 (by decide)
      refine Gl.iconst Y0 (v := (0 : Int32)) (by decide) d_method_3_60 rfl ?_
      refine Gl.istore Y0 (L' := #[.val (.ref g), .val (.int (0 : Int32)), .val (.int (3 : Int32)), .val (.int bf), .val (.ref a), .val (.int ls), .val (.int le), .val (.ref b), .val (.int ss), .val (.int se), .val (.int (0 : Int32)), .val (.int (0 : Int32))]) rfl d_method_3_61 rfl ?_
      refine Gl.aloadN Y0 rfl rfl d_method_3_63 rfl ?_
      refine Gl.iloadN Y0 rfl d_method_3_64 rfl ?_
      refine Gl.saload Y0 V3 ⟨by decide, by decide⟩ (v := (.int m0)) rfl d_method_3_65 rfl ?_
      refine Gl.iload Y0 rfl d_method_3_66 rfl ?_
      refine Gl.icmpne Y0 d_method_3_68 (by decide) rfl rfl (fun c68 => ?_) (fun c68 => ?_)
      · refine absurd ?_ c68
        rw [hg, own_mark_eq _ _ _ _ r_u0 r_le r_w0 r_se, if_neg (fun q => c39 q.2)]
      refine Gl.iconst Y0 (v := (1 : Int32)) (by decide) d_method_3_71 rfl ?_
      refine Gl.goto Y0 d_method_3_72 (by decide) rfl ?_
      exact Gl.retZ Y0 (by decide) (by decide) (x' := (1 : Int32)) (by decide) d_method_3_76 ⟨rfl, rfl⟩
    · refine Gl.iconst Y0 (v := (1 : Int32)) (by decide) d_method_3_42 rfl ?_
      refine Gl.goto Y0 d_method_3_43 (by decide) rfl ?_
      refine Gl.istore Y0 (L' := #[.val (.ref g), .val (.int (0 : Int32)), .val (.int (3 : Int32)), .val (.int bf), .val (.ref a), .val (.int ls), .val (.int le), .val (.ref b), .val (.int ss), .val (.int se), .val (.int (1 : Int32)), .unset]) rfl d_method_3_47 rfl ?_
      refine Gl.iload Y0 rfl d_method_3_49 rfl ?_
      refine Gl.ifeq Y0 d_method_3_51 (by decide) rfl rfl (fun c51 => ?_) (fun c51 => ?_)
      · exact absurd c51 (by decide)
      refine Gl.sipush Y0 (v := (-32768 : Int32)) (by decide) d_method_3_54 rfl ?_
      refine Gl.goto Y0 d_method_3_57 (by decide) rfl ?_
      refine Gl.istore Y0 (L' := #[.val (.ref g), .val (.int (0 : Int32)), .val (.int (3 : Int32)), .val (.int bf), .val (.ref a), .val (.int ls), .val (.int le), .val (.ref b), .val (.int ss), .val (.int se), .val (.int (1 : Int32)), .val (.int (-32768 : Int32))]) rfl d_method_3_61 rfl ?_
      refine Gl.aloadN Y0 rfl rfl d_method_3_63 rfl ?_
      refine Gl.iloadN Y0 rfl d_method_3_64 rfl ?_
      refine Gl.saload Y0 V3 ⟨by decide, by decide⟩ (v := (.int m0)) rfl d_method_3_65 rfl ?_
      refine Gl.iload Y0 rfl d_method_3_66 rfl ?_
      refine Gl.icmpne Y0 d_method_3_68 (by decide) rfl rfl (fun c68 => ?_) (fun c68 => ?_)
      · refine absurd ?_ c68
        rw [hg, own_mark_eq _ _ _ _ r_u0 r_le r_w0 r_se, if_pos ⟨c27, c39⟩]
      refine Gl.iconst Y0 (v := (1 : Int32)) (by decide) d_method_3_71 rfl ?_
      refine Gl.goto Y0 d_method_3_72 (by decide) rfl ?_
      exact Gl.retZ Y0 (by decide) (by decide) (x' := (1 : Int32)) (by decide) d_method_3_76 ⟨rfl, rfl⟩
def R8 : Room := { frames := 0, cells := 0, slots := 0, locals := 0 }
def Q8 (Z : State) (a : Addr) (ls : Int32) (le : Int32) (b : Addr) (ss : Int32) (se : Int32) (g : Addr) (ka : ClassId) (kb : ClassId) (kg : ClassId) (va : List Value) (vb : List Value) (bf : Int32) (m0 : Int32) (m1 : Int32) (m2 : Int32) (m3 : Int32) (h0 : Heap) (v : Option Value) (h : Heap) : Prop := v = some (.int (1 : Int32)) ∧ h0 = h
theorem ef8 (a : Addr) (ls : Int32) (le : Int32) (b : Addr) (ss : Int32) (se : Int32) (g : Addr) (bf : Int32) (m : MethodId) : entryFrame m #[(.ref g), (.int (1 : Int32)), (.int (0 : Int32)), (.int bf), (.ref a), (.int ls), (.int le), (.ref b), (.int ss), (.int se)] 12 = mkF m 0 #[.val (.ref g), .val (.int (1 : Int32)), .val (.int (0 : Int32)), .val (.int bf), .val (.ref a), .val (.int ls), .val (.int le), .val (.ref b), .val (.int ss), .val (.int se), .unset, .unset] [] := by first | (simp [entryFrame, mkF, argsToLocals, Value.category]; done) | rfl
set_option maxRecDepth 65536 in
set_option maxHeartbeats 40000000 in
theorem rm8 (l : Launch) (Z : State) (a0 : Array Value) (hw : ∀ d ∈ tables_1, d.before a0 Z = true) (ws : List Jvm.Cond) (a : Addr) (ls : Int32) (le : Int32) (b : Addr) (ss : Int32) (se : Int32) (g : Addr) (ka : ClassId) (kb : ClassId) (kg : ClassId) (va : List Value) (vb : List Value) (bf : Int32) (m0 : Int32) (m1 : Int32) (m2 : Int32) (m3 : Int32) (h0 : Heap) (n0 : Nat) (Z0 : n0 ≤ h0.size) (V : Arv Z h0 a ka .char (4 : Int32) va (.int (0 : Int32))) (V2 : Arv Z h0 b kb .char (4 : Int32) vb (.int (0 : Int32))) (V3 : Arv Z h0 g kg .short (4 : Int32) [(.int m0), (.int m1), (.int m2), (.int m3)] (.int (0 : Int32))) (hg : m1 = bf) : OMet l Z ws (⟨"com/example/ref_search/refsearch/matcher/CharsMarkPairPinLaw", "place", "([SIIS[CII[CII)Z"⟩ : MethodName) method_3_code 12 (some .boolean) R8 #[(.ref g), (.int (1 : Int32)), (.int (0 : Int32)), (.int bf), (.ref a), (.int ls), (.int le), (.ref b), (.int ss), (.int se)] h0 n0 (Q8 Z a ls le b ss se g ka kb kg va vb bf m0 m1 m2 m3 h0) := by
  refine OMet.of (plainFor_of_name pn_1) (ef8 a ls le b ss se g bf) Z0 ?_
  intro p e s m below meth c T0 Y0 hnm
  have Y0 : Sd Z "com/example/ref_search/refsearch/matcher/CharsMarkPairPinLaw" method_3_code 12 (some .boolean) n0 p l e R8 s m #[(.ref g), (.int (1 : Int32)), (.int (0 : Int32)), (.int bf), (.ref a), (.int ls), (.int le), (.ref b), (.int ss), (.int se)] below meth c T0 h0 0 0 := Y0
  refine Gl.iloadN Y0 rfl d_method_3_0 rfl ?_
  refine Gl.iloadN Y0 rfl d_method_3_1 rfl ?_
  refine Gl.icmplt Y0 d_method_3_2 (by decide) rfl rfl (fun c2 => ?_) (fun c2 => ?_)
  · exact absurd c2 (by decide)
  refine Gl.aloadN Y0 rfl rfl d_method_3_5 rfl ?_
  refine Gl.iloadN Y0 rfl d_method_3_6 rfl ?_
  refine Gl.saload Y0 V3 ⟨by decide, by decide⟩ (v := (.int m1)) rfl d_method_3_7 rfl ?_
  refine Gl.iloadN Y0 rfl d_method_3_8 rfl ?_
  refine Gl.icmpne Y0 d_method_3_9 (by decide) rfl rfl (fun c9 => ?_) (fun c9 => ?_)
  · exact absurd hg c9
  refine Gl.iconst Y0 (v := (1 : Int32)) (by decide) d_method_3_12 rfl ?_
  refine Gl.goto Y0 d_method_3_13 (by decide) rfl ?_
  exact Gl.retZ Y0 (by decide) (by decide) (x' := (1 : Int32)) (by decide) d_method_3_17 ⟨rfl, rfl⟩
def R9 : Room := { frames := 0, cells := 0, slots := 0, locals := 0 }
def Q9 (Z : State) (a : Addr) (ls : Int32) (le : Int32) (b : Addr) (ss : Int32) (se : Int32) (g : Addr) (ka : ClassId) (kb : ClassId) (kg : ClassId) (va : List Value) (vb : List Value) (bf : Int32) (m0 : Int32) (m1 : Int32) (m2 : Int32) (m3 : Int32) (h0 : Heap) (v : Option Value) (h : Heap) : Prop := v = some (.int (1 : Int32)) ∧ h0 = h
theorem ef9 (a : Addr) (ls : Int32) (le : Int32) (b : Addr) (ss : Int32) (se : Int32) (g : Addr) (bf : Int32) (m : MethodId) : entryFrame m #[(.ref g), (.int (1 : Int32)), (.int (1 : Int32)), (.int bf), (.ref a), (.int ls), (.int le), (.ref b), (.int ss), (.int se)] 12 = mkF m 0 #[.val (.ref g), .val (.int (1 : Int32)), .val (.int (1 : Int32)), .val (.int bf), .val (.ref a), .val (.int ls), .val (.int le), .val (.ref b), .val (.int ss), .val (.int se), .unset, .unset] [] := by first | (simp [entryFrame, mkF, argsToLocals, Value.category]; done) | rfl
set_option maxRecDepth 65536 in
set_option maxHeartbeats 40000000 in
theorem rm9 (l : Launch) (Z : State) (a0 : Array Value) (hw : ∀ d ∈ tables_1, d.before a0 Z = true) (ws : List Jvm.Cond) (a : Addr) (ls : Int32) (le : Int32) (b : Addr) (ss : Int32) (se : Int32) (g : Addr) (ka : ClassId) (kb : ClassId) (kg : ClassId) (va : List Value) (vb : List Value) (bf : Int32) (m0 : Int32) (m1 : Int32) (m2 : Int32) (m3 : Int32) (h0 : Heap) (n0 : Nat) (Z0 : n0 ≤ h0.size) (V : Arv Z h0 a ka .char (4 : Int32) va (.int (0 : Int32))) (V2 : Arv Z h0 b kb .char (4 : Int32) vb (.int (0 : Int32))) (V3 : Arv Z h0 g kg .short (4 : Int32) [(.int m0), (.int m1), (.int m2), (.int m3)] (.int (0 : Int32))) (hg : m1 = bf) : OMet l Z ws (⟨"com/example/ref_search/refsearch/matcher/CharsMarkPairPinLaw", "place", "([SIIS[CII[CII)Z"⟩ : MethodName) method_3_code 12 (some .boolean) R9 #[(.ref g), (.int (1 : Int32)), (.int (1 : Int32)), (.int bf), (.ref a), (.int ls), (.int le), (.ref b), (.int ss), (.int se)] h0 n0 (Q9 Z a ls le b ss se g ka kb kg va vb bf m0 m1 m2 m3 h0) := by
  refine OMet.of (plainFor_of_name pn_1) (ef9 a ls le b ss se g bf) Z0 ?_
  intro p e s m below meth c T0 Y0 hnm
  have Y0 : Sd Z "com/example/ref_search/refsearch/matcher/CharsMarkPairPinLaw" method_3_code 12 (some .boolean) n0 p l e R9 s m #[(.ref g), (.int (1 : Int32)), (.int (1 : Int32)), (.int bf), (.ref a), (.int ls), (.int le), (.ref b), (.int ss), (.int se)] below meth c T0 h0 0 0 := Y0
  refine Gl.iloadN Y0 rfl d_method_3_0 rfl ?_
  refine Gl.iloadN Y0 rfl d_method_3_1 rfl ?_
  refine Gl.icmplt Y0 d_method_3_2 (by decide) rfl rfl (fun c2 => ?_) (fun c2 => ?_)
  · exact absurd c2 (by decide)
  refine Gl.aloadN Y0 rfl rfl d_method_3_5 rfl ?_
  refine Gl.iloadN Y0 rfl d_method_3_6 rfl ?_
  refine Gl.saload Y0 V3 ⟨by decide, by decide⟩ (v := (.int m1)) rfl d_method_3_7 rfl ?_
  refine Gl.iloadN Y0 rfl d_method_3_8 rfl ?_
  refine Gl.icmpne Y0 d_method_3_9 (by decide) rfl rfl (fun c9 => ?_) (fun c9 => ?_)
  · exact absurd hg c9
  refine Gl.iconst Y0 (v := (1 : Int32)) (by decide) d_method_3_12 rfl ?_
  refine Gl.goto Y0 d_method_3_13 (by decide) rfl ?_
  exact Gl.retZ Y0 (by decide) (by decide) (x' := (1 : Int32)) (by decide) d_method_3_17 ⟨rfl, rfl⟩
def R10 : Room := { frames := 0, cells := 0, slots := 0, locals := 0 }
def Q10 (Z : State) (a : Addr) (ls : Int32) (le : Int32) (b : Addr) (ss : Int32) (se : Int32) (g : Addr) (ka : ClassId) (kb : ClassId) (kg : ClassId) (va : List Value) (vb : List Value) (bf : Int32) (m0 : Int32) (m1 : Int32) (m2 : Int32) (m3 : Int32) (u1 : Int32) (w1 : Int32) (h0 : Heap) (v : Option Value) (h : Heap) : Prop := v = some (.int (1 : Int32)) ∧ h0 = h
theorem ef10 (a : Addr) (ls : Int32) (le : Int32) (b : Addr) (ss : Int32) (se : Int32) (g : Addr) (bf : Int32) (m : MethodId) : entryFrame m #[(.ref g), (.int (1 : Int32)), (.int (2 : Int32)), (.int bf), (.ref a), (.int ls), (.int le), (.ref b), (.int ss), (.int se)] 12 = mkF m 0 #[.val (.ref g), .val (.int (1 : Int32)), .val (.int (2 : Int32)), .val (.int bf), .val (.ref a), .val (.int ls), .val (.int le), .val (.ref b), .val (.int ss), .val (.int se), .unset, .unset] [] := by first | (simp [entryFrame, mkF, argsToLocals, Value.category]; done) | rfl
set_option maxRecDepth 65536 in
set_option maxHeartbeats 40000000 in
theorem rm10 (l : Launch) (Z : State) (a0 : Array Value) (hw : ∀ d ∈ tables_1, d.before a0 Z = true) (ws : List Jvm.Cond) (a : Addr) (ls : Int32) (le : Int32) (b : Addr) (ss : Int32) (se : Int32) (g : Addr) (ka : ClassId) (kb : ClassId) (kg : ClassId) (va : List Value) (vb : List Value) (bf : Int32) (m0 : Int32) (m1 : Int32) (m2 : Int32) (m3 : Int32) (u1 : Int32) (w1 : Int32) (h0 : Heap) (n0 : Nat) (Z0 : n0 ≤ h0.size) (V : Arv Z h0 a ka .char (4 : Int32) va (.int (0 : Int32))) (V2 : Arv Z h0 b kb .char (4 : Int32) vb (.int (0 : Int32))) (V3 : Arv Z h0 g kg .short (4 : Int32) [(.int m0), (.int m1), (.int m2), (.int m3)] (.int (0 : Int32))) (hj1 : ¬ ls + (1 : Int32) < 0 ∧ ls + (1 : Int32) < 4) (hv1 : va.getD (ls + (1 : Int32)).toNatClampNeg (.int 0) = .int u1) (kj1 : ¬ ss + (1 : Int32) < 0 ∧ ss + (1 : Int32) < 4) (kv1 : vb.getD (ss + (1 : Int32)).toNatClampNeg (.int 0) = .int w1) (r_u1 : 0 ≤ u1.toInt ∧ u1.toInt ≤ 65535) (r_w1 : 0 ≤ w1.toInt ∧ w1.toInt ≤ 65535) (r_le : 0 ≤ le.toInt ∧ le.toInt ≤ 65535) (r_se : 0 ≤ se.toInt ∧ se.toInt ≤ 65535) (hg : m1 = own_mark u1 le w1 se) : OMet l Z ws (⟨"com/example/ref_search/refsearch/matcher/CharsMarkPairPinLaw", "place", "([SIIS[CII[CII)Z"⟩ : MethodName) method_3_code 12 (some .boolean) R10 #[(.ref g), (.int (1 : Int32)), (.int (2 : Int32)), (.int bf), (.ref a), (.int ls), (.int le), (.ref b), (.int ss), (.int se)] h0 n0 (Q10 Z a ls le b ss se g ka kb kg va vb bf m0 m1 m2 m3 u1 w1 h0) := by
  refine OMet.of (plainFor_of_name pn_1) (ef10 a ls le b ss se g bf) Z0 ?_
  intro p e s m below meth c T0 Y0 hnm
  have Y0 : Sd Z "com/example/ref_search/refsearch/matcher/CharsMarkPairPinLaw" method_3_code 12 (some .boolean) n0 p l e R10 s m #[(.ref g), (.int (1 : Int32)), (.int (2 : Int32)), (.int bf), (.ref a), (.int ls), (.int le), (.ref b), (.int ss), (.int se)] below meth c T0 h0 0 0 := Y0
  refine Gl.iloadN Y0 rfl d_method_3_0 rfl ?_
  refine Gl.iloadN Y0 rfl d_method_3_1 rfl ?_
  refine Gl.icmplt Y0 d_method_3_2 (by decide) rfl rfl (fun c2 => ?_) (fun c2 => ?_)
  rotate_left
  · exact absurd c2 (by decide)
  refine Gl.aload Y0 rfl rfl d_method_3_18 rfl ?_
  refine Gl.iload Y0 rfl d_method_3_20 rfl ?_
  refine Gl.iloadN Y0 rfl d_method_3_22 rfl ?_
  refine Gl.iadd Y0 rfl d_method_3_23 rfl ?_
  refine Gl.caload Y0 V hj1 (v := (.int u1)) hv1 d_method_3_24 rfl ?_
  refine Gl.iload Y0 rfl d_method_3_25 rfl ?_
  refine Gl.icmpne Y0 d_method_3_27 (by decide) rfl rfl (fun c27 => ?_) (fun c27 => ?_)
  · refine Gl.iconst Y0 (v := (0 : Int32)) (by decide) d_method_3_46 rfl ?_
    refine Gl.istore Y0 (L' := #[.val (.ref g), .val (.int (1 : Int32)), .val (.int (2 : Int32)), .val (.int bf), .val (.ref a), .val (.int ls), .val (.int le), .val (.ref b), .val (.int ss), .val (.int se), .val (.int (0 : Int32)), .unset]) rfl d_method_3_47 rfl ?_
    refine Gl.iload Y0 rfl d_method_3_49 rfl ?_
    refine Gl.ifeq Y0 d_method_3_51 (by decide) rfl rfl (fun c51 => ?_) (fun c51 => ?_)
    rotate_left
    · exact absurd c51 (by decide)
    refine Gl.iconst Y0 (v := (0 : Int32)) (by decide) d_method_3_60 rfl ?_
    refine Gl.istore Y0 (L' := #[.val (.ref g), .val (.int (1 : Int32)), .val (.int (2 : Int32)), .val (.int bf), .val (.ref a), .val (.int ls), .val (.int le), .val (.ref b), .val (.int ss), .val (.int se), .val (.int (0 : Int32)), .val (.int (0 : Int32))]) rfl d_method_3_61 rfl ?_
    refine Gl.aloadN Y0 rfl rfl d_method_3_63 rfl ?_
    refine Gl.iloadN Y0 rfl d_method_3_64 rfl ?_
    refine Gl.saload Y0 V3 ⟨by decide, by decide⟩ (v := (.int m1)) rfl d_method_3_65 rfl ?_
    refine Gl.iload Y0 rfl d_method_3_66 rfl ?_
    refine Gl.icmpne Y0 d_method_3_68 (by decide) rfl rfl (fun c68 => ?_) (fun c68 => ?_)
    · refine absurd ?_ c68
      rw [hg, own_mark_eq _ _ _ _ r_u1 r_le r_w1 r_se, if_neg (fun q => c27 q.1)]
    refine Gl.iconst Y0 (v := (1 : Int32)) (by decide) d_method_3_71 rfl ?_
    refine Gl.goto Y0 d_method_3_72 (by decide) rfl ?_
    exact Gl.retZ Y0 (by decide) (by decide) (x' := (1 : Int32)) (by decide) d_method_3_76 ⟨rfl, rfl⟩
  · refine Gl.aload Y0 rfl rfl d_method_3_30 rfl ?_
    refine Gl.iload Y0 rfl d_method_3_32 rfl ?_
    refine Gl.iloadN Y0 rfl d_method_3_34 rfl ?_
    refine Gl.iadd Y0 rfl d_method_3_35 rfl ?_
    refine Gl.caload Y0 V2 kj1 (v := (.int w1)) kv1 d_method_3_36 rfl ?_
    refine Gl.iload Y0 rfl d_method_3_37 rfl ?_
    refine Gl.icmpne Y0 d_method_3_39 (by decide) rfl rfl (fun c39 => ?_) (fun c39 => ?_)
    · refine Gl.iconst Y0 (v := (0 : Int32)) (by decide) d_method_3_46 rfl ?_
      refine Gl.istore Y0 (L' := #[.val (.ref g), .val (.int (1 : Int32)), .val (.int (2 : Int32)), .val (.int bf), .val (.ref a), .val (.int ls), .val (.int le), .val (.ref b), .val (.int ss), .val (.int se), .val (.int (0 : Int32)), .unset]) rfl d_method_3_47 rfl ?_
      refine Gl.iload Y0 rfl d_method_3_49 rfl ?_
      refine Gl.ifeq Y0 d_method_3_51 (by decide) rfl rfl (fun c51 => ?_) (fun c51 => ?_)
      rotate_left
      · exact absurd c51 (by decide)
      refine Gl.iconst Y0 (v := (0 : Int32)) (by decide) d_method_3_60 rfl ?_
      refine Gl.istore Y0 (L' := #[.val (.ref g), .val (.int (1 : Int32)), .val (.int (2 : Int32)), .val (.int bf), .val (.ref a), .val (.int ls), .val (.int le), .val (.ref b), .val (.int ss), .val (.int se), .val (.int (0 : Int32)), .val (.int (0 : Int32))]) rfl d_method_3_61 rfl ?_
      refine Gl.aloadN Y0 rfl rfl d_method_3_63 rfl ?_
      refine Gl.iloadN Y0 rfl d_method_3_64 rfl ?_
      refine Gl.saload Y0 V3 ⟨by decide, by decide⟩ (v := (.int m1)) rfl d_method_3_65 rfl ?_
      refine Gl.iload Y0 rfl d_method_3_66 rfl ?_
      refine Gl.icmpne Y0 d_method_3_68 (by decide) rfl rfl (fun c68 => ?_) (fun c68 => ?_)
      · refine absurd ?_ c68
        rw [hg, own_mark_eq _ _ _ _ r_u1 r_le r_w1 r_se, if_neg (fun q => c39 q.2)]
      refine Gl.iconst Y0 (v := (1 : Int32)) (by decide) d_method_3_71 rfl ?_
      refine Gl.goto Y0 d_method_3_72 (by decide) rfl ?_
      exact Gl.retZ Y0 (by decide) (by decide) (x' := (1 : Int32)) (by decide) d_method_3_76 ⟨rfl, rfl⟩
    · refine Gl.iconst Y0 (v := (1 : Int32)) (by decide) d_method_3_42 rfl ?_
      refine Gl.goto Y0 d_method_3_43 (by decide) rfl ?_
      refine Gl.istore Y0 (L' := #[.val (.ref g), .val (.int (1 : Int32)), .val (.int (2 : Int32)), .val (.int bf), .val (.ref a), .val (.int ls), .val (.int le), .val (.ref b), .val (.int ss), .val (.int se), .val (.int (1 : Int32)), .unset]) rfl d_method_3_47 rfl ?_
      refine Gl.iload Y0 rfl d_method_3_49 rfl ?_
      refine Gl.ifeq Y0 d_method_3_51 (by decide) rfl rfl (fun c51 => ?_) (fun c51 => ?_)
      · exact absurd c51 (by decide)
      refine Gl.sipush Y0 (v := (-32768 : Int32)) (by decide) d_method_3_54 rfl ?_
      refine Gl.goto Y0 d_method_3_57 (by decide) rfl ?_
      refine Gl.istore Y0 (L' := #[.val (.ref g), .val (.int (1 : Int32)), .val (.int (2 : Int32)), .val (.int bf), .val (.ref a), .val (.int ls), .val (.int le), .val (.ref b), .val (.int ss), .val (.int se), .val (.int (1 : Int32)), .val (.int (-32768 : Int32))]) rfl d_method_3_61 rfl ?_
      refine Gl.aloadN Y0 rfl rfl d_method_3_63 rfl ?_
      refine Gl.iloadN Y0 rfl d_method_3_64 rfl ?_
      refine Gl.saload Y0 V3 ⟨by decide, by decide⟩ (v := (.int m1)) rfl d_method_3_65 rfl ?_
      refine Gl.iload Y0 rfl d_method_3_66 rfl ?_
      refine Gl.icmpne Y0 d_method_3_68 (by decide) rfl rfl (fun c68 => ?_) (fun c68 => ?_)
      · refine absurd ?_ c68
        rw [hg, own_mark_eq _ _ _ _ r_u1 r_le r_w1 r_se, if_pos ⟨c27, c39⟩]
      refine Gl.iconst Y0 (v := (1 : Int32)) (by decide) d_method_3_71 rfl ?_
      refine Gl.goto Y0 d_method_3_72 (by decide) rfl ?_
      exact Gl.retZ Y0 (by decide) (by decide) (x' := (1 : Int32)) (by decide) d_method_3_76 ⟨rfl, rfl⟩
def R11 : Room := { frames := 0, cells := 0, slots := 0, locals := 0 }
def Q11 (Z : State) (a : Addr) (ls : Int32) (le : Int32) (b : Addr) (ss : Int32) (se : Int32) (g : Addr) (ka : ClassId) (kb : ClassId) (kg : ClassId) (va : List Value) (vb : List Value) (bf : Int32) (m0 : Int32) (m1 : Int32) (m2 : Int32) (m3 : Int32) (u1 : Int32) (w1 : Int32) (h0 : Heap) (v : Option Value) (h : Heap) : Prop := v = some (.int (1 : Int32)) ∧ h0 = h
theorem ef11 (a : Addr) (ls : Int32) (le : Int32) (b : Addr) (ss : Int32) (se : Int32) (g : Addr) (bf : Int32) (m : MethodId) : entryFrame m #[(.ref g), (.int (1 : Int32)), (.int (3 : Int32)), (.int bf), (.ref a), (.int ls), (.int le), (.ref b), (.int ss), (.int se)] 12 = mkF m 0 #[.val (.ref g), .val (.int (1 : Int32)), .val (.int (3 : Int32)), .val (.int bf), .val (.ref a), .val (.int ls), .val (.int le), .val (.ref b), .val (.int ss), .val (.int se), .unset, .unset] [] := by first | (simp [entryFrame, mkF, argsToLocals, Value.category]; done) | rfl
set_option maxRecDepth 65536 in
set_option maxHeartbeats 40000000 in
theorem rm11 (l : Launch) (Z : State) (a0 : Array Value) (hw : ∀ d ∈ tables_1, d.before a0 Z = true) (ws : List Jvm.Cond) (a : Addr) (ls : Int32) (le : Int32) (b : Addr) (ss : Int32) (se : Int32) (g : Addr) (ka : ClassId) (kb : ClassId) (kg : ClassId) (va : List Value) (vb : List Value) (bf : Int32) (m0 : Int32) (m1 : Int32) (m2 : Int32) (m3 : Int32) (u1 : Int32) (w1 : Int32) (h0 : Heap) (n0 : Nat) (Z0 : n0 ≤ h0.size) (V : Arv Z h0 a ka .char (4 : Int32) va (.int (0 : Int32))) (V2 : Arv Z h0 b kb .char (4 : Int32) vb (.int (0 : Int32))) (V3 : Arv Z h0 g kg .short (4 : Int32) [(.int m0), (.int m1), (.int m2), (.int m3)] (.int (0 : Int32))) (hj1 : ¬ ls + (1 : Int32) < 0 ∧ ls + (1 : Int32) < 4) (hv1 : va.getD (ls + (1 : Int32)).toNatClampNeg (.int 0) = .int u1) (kj1 : ¬ ss + (1 : Int32) < 0 ∧ ss + (1 : Int32) < 4) (kv1 : vb.getD (ss + (1 : Int32)).toNatClampNeg (.int 0) = .int w1) (r_u1 : 0 ≤ u1.toInt ∧ u1.toInt ≤ 65535) (r_w1 : 0 ≤ w1.toInt ∧ w1.toInt ≤ 65535) (r_le : 0 ≤ le.toInt ∧ le.toInt ≤ 65535) (r_se : 0 ≤ se.toInt ∧ se.toInt ≤ 65535) (hg : m1 = own_mark u1 le w1 se) : OMet l Z ws (⟨"com/example/ref_search/refsearch/matcher/CharsMarkPairPinLaw", "place", "([SIIS[CII[CII)Z"⟩ : MethodName) method_3_code 12 (some .boolean) R11 #[(.ref g), (.int (1 : Int32)), (.int (3 : Int32)), (.int bf), (.ref a), (.int ls), (.int le), (.ref b), (.int ss), (.int se)] h0 n0 (Q11 Z a ls le b ss se g ka kb kg va vb bf m0 m1 m2 m3 u1 w1 h0) := by
  refine OMet.of (plainFor_of_name pn_1) (ef11 a ls le b ss se g bf) Z0 ?_
  intro p e s m below meth c T0 Y0 hnm
  have Y0 : Sd Z "com/example/ref_search/refsearch/matcher/CharsMarkPairPinLaw" method_3_code 12 (some .boolean) n0 p l e R11 s m #[(.ref g), (.int (1 : Int32)), (.int (3 : Int32)), (.int bf), (.ref a), (.int ls), (.int le), (.ref b), (.int ss), (.int se)] below meth c T0 h0 0 0 := Y0
  refine Gl.iloadN Y0 rfl d_method_3_0 rfl ?_
  refine Gl.iloadN Y0 rfl d_method_3_1 rfl ?_
  refine Gl.icmplt Y0 d_method_3_2 (by decide) rfl rfl (fun c2 => ?_) (fun c2 => ?_)
  rotate_left
  · exact absurd c2 (by decide)
  refine Gl.aload Y0 rfl rfl d_method_3_18 rfl ?_
  refine Gl.iload Y0 rfl d_method_3_20 rfl ?_
  refine Gl.iloadN Y0 rfl d_method_3_22 rfl ?_
  refine Gl.iadd Y0 rfl d_method_3_23 rfl ?_
  refine Gl.caload Y0 V hj1 (v := (.int u1)) hv1 d_method_3_24 rfl ?_
  refine Gl.iload Y0 rfl d_method_3_25 rfl ?_
  refine Gl.icmpne Y0 d_method_3_27 (by decide) rfl rfl (fun c27 => ?_) (fun c27 => ?_)
  · refine Gl.iconst Y0 (v := (0 : Int32)) (by decide) d_method_3_46 rfl ?_
    refine Gl.istore Y0 (L' := #[.val (.ref g), .val (.int (1 : Int32)), .val (.int (3 : Int32)), .val (.int bf), .val (.ref a), .val (.int ls), .val (.int le), .val (.ref b), .val (.int ss), .val (.int se), .val (.int (0 : Int32)), .unset]) rfl d_method_3_47 rfl ?_
    refine Gl.iload Y0 rfl d_method_3_49 rfl ?_
    refine Gl.ifeq Y0 d_method_3_51 (by decide) rfl rfl (fun c51 => ?_) (fun c51 => ?_)
    rotate_left
    · exact absurd c51 (by decide)
    refine Gl.iconst Y0 (v := (0 : Int32)) (by decide) d_method_3_60 rfl ?_
    refine Gl.istore Y0 (L' := #[.val (.ref g), .val (.int (1 : Int32)), .val (.int (3 : Int32)), .val (.int bf), .val (.ref a), .val (.int ls), .val (.int le), .val (.ref b), .val (.int ss), .val (.int se), .val (.int (0 : Int32)), .val (.int (0 : Int32))]) rfl d_method_3_61 rfl ?_
    refine Gl.aloadN Y0 rfl rfl d_method_3_63 rfl ?_
    refine Gl.iloadN Y0 rfl d_method_3_64 rfl ?_
    refine Gl.saload Y0 V3 ⟨by decide, by decide⟩ (v := (.int m1)) rfl d_method_3_65 rfl ?_
    refine Gl.iload Y0 rfl d_method_3_66 rfl ?_
    refine Gl.icmpne Y0 d_method_3_68 (by decide) rfl rfl (fun c68 => ?_) (fun c68 => ?_)
    · refine absurd ?_ c68
      rw [hg, own_mark_eq _ _ _ _ r_u1 r_le r_w1 r_se, if_neg (fun q => c27 q.1)]
    refine Gl.iconst Y0 (v := (1 : Int32)) (by decide) d_method_3_71 rfl ?_
    refine Gl.goto Y0 d_method_3_72 (by decide) rfl ?_
    exact Gl.retZ Y0 (by decide) (by decide) (x' := (1 : Int32)) (by decide) d_method_3_76 ⟨rfl, rfl⟩
  · refine Gl.aload Y0 rfl rfl d_method_3_30 rfl ?_
    refine Gl.iload Y0 rfl d_method_3_32 rfl ?_
    refine Gl.iloadN Y0 rfl d_method_3_34 rfl ?_
    refine Gl.iadd Y0 rfl d_method_3_35 rfl ?_
    refine Gl.caload Y0 V2 kj1 (v := (.int w1)) kv1 d_method_3_36 rfl ?_
    refine Gl.iload Y0 rfl d_method_3_37 rfl ?_
    refine Gl.icmpne Y0 d_method_3_39 (by decide) rfl rfl (fun c39 => ?_) (fun c39 => ?_)
    · refine Gl.iconst Y0 (v := (0 : Int32)) (by decide) d_method_3_46 rfl ?_
      refine Gl.istore Y0 (L' := #[.val (.ref g), .val (.int (1 : Int32)), .val (.int (3 : Int32)), .val (.int bf), .val (.ref a), .val (.int ls), .val (.int le), .val (.ref b), .val (.int ss), .val (.int se), .val (.int (0 : Int32)), .unset]) rfl d_method_3_47 rfl ?_
      refine Gl.iload Y0 rfl d_method_3_49 rfl ?_
      refine Gl.ifeq Y0 d_method_3_51 (by decide) rfl rfl (fun c51 => ?_) (fun c51 => ?_)
      rotate_left
      · exact absurd c51 (by decide)
      refine Gl.iconst Y0 (v := (0 : Int32)) (by decide) d_method_3_60 rfl ?_
      refine Gl.istore Y0 (L' := #[.val (.ref g), .val (.int (1 : Int32)), .val (.int (3 : Int32)), .val (.int bf), .val (.ref a), .val (.int ls), .val (.int le), .val (.ref b), .val (.int ss), .val (.int se), .val (.int (0 : Int32)), .val (.int (0 : Int32))]) rfl d_method_3_61 rfl ?_
      refine Gl.aloadN Y0 rfl rfl d_method_3_63 rfl ?_
      refine Gl.iloadN Y0 rfl d_method_3_64 rfl ?_
      refine Gl.saload Y0 V3 ⟨by decide, by decide⟩ (v := (.int m1)) rfl d_method_3_65 rfl ?_
      refine Gl.iload Y0 rfl d_method_3_66 rfl ?_
      refine Gl.icmpne Y0 d_method_3_68 (by decide) rfl rfl (fun c68 => ?_) (fun c68 => ?_)
      · refine absurd ?_ c68
        rw [hg, own_mark_eq _ _ _ _ r_u1 r_le r_w1 r_se, if_neg (fun q => c39 q.2)]
      refine Gl.iconst Y0 (v := (1 : Int32)) (by decide) d_method_3_71 rfl ?_
      refine Gl.goto Y0 d_method_3_72 (by decide) rfl ?_
      exact Gl.retZ Y0 (by decide) (by decide) (x' := (1 : Int32)) (by decide) d_method_3_76 ⟨rfl, rfl⟩
    · refine Gl.iconst Y0 (v := (1 : Int32)) (by decide) d_method_3_42 rfl ?_
      refine Gl.goto Y0 d_method_3_43 (by decide) rfl ?_
      refine Gl.istore Y0 (L' := #[.val (.ref g), .val (.int (1 : Int32)), .val (.int (3 : Int32)), .val (.int bf), .val (.ref a), .val (.int ls), .val (.int le), .val (.ref b), .val (.int ss), .val (.int se), .val (.int (1 : Int32)), .unset]) rfl d_method_3_47 rfl ?_
      refine Gl.iload Y0 rfl d_method_3_49 rfl ?_
      refine Gl.ifeq Y0 d_method_3_51 (by decide) rfl rfl (fun c51 => ?_) (fun c51 => ?_)
      · exact absurd c51 (by decide)
      refine Gl.sipush Y0 (v := (-32768 : Int32)) (by decide) d_method_3_54 rfl ?_
      refine Gl.goto Y0 d_method_3_57 (by decide) rfl ?_
      refine Gl.istore Y0 (L' := #[.val (.ref g), .val (.int (1 : Int32)), .val (.int (3 : Int32)), .val (.int bf), .val (.ref a), .val (.int ls), .val (.int le), .val (.ref b), .val (.int ss), .val (.int se), .val (.int (1 : Int32)), .val (.int (-32768 : Int32))]) rfl d_method_3_61 rfl ?_
      refine Gl.aloadN Y0 rfl rfl d_method_3_63 rfl ?_
      refine Gl.iloadN Y0 rfl d_method_3_64 rfl ?_
      refine Gl.saload Y0 V3 ⟨by decide, by decide⟩ (v := (.int m1)) rfl d_method_3_65 rfl ?_
      refine Gl.iload Y0 rfl d_method_3_66 rfl ?_
      refine Gl.icmpne Y0 d_method_3_68 (by decide) rfl rfl (fun c68 => ?_) (fun c68 => ?_)
      · refine absurd ?_ c68
        rw [hg, own_mark_eq _ _ _ _ r_u1 r_le r_w1 r_se, if_pos ⟨c27, c39⟩]
      refine Gl.iconst Y0 (v := (1 : Int32)) (by decide) d_method_3_71 rfl ?_
      refine Gl.goto Y0 d_method_3_72 (by decide) rfl ?_
      exact Gl.retZ Y0 (by decide) (by decide) (x' := (1 : Int32)) (by decide) d_method_3_76 ⟨rfl, rfl⟩
def R12 : Room := { frames := 0, cells := 0, slots := 0, locals := 0 }
def Q12 (Z : State) (a : Addr) (ls : Int32) (le : Int32) (b : Addr) (ss : Int32) (se : Int32) (g : Addr) (ka : ClassId) (kb : ClassId) (kg : ClassId) (va : List Value) (vb : List Value) (bf : Int32) (m0 : Int32) (m1 : Int32) (m2 : Int32) (m3 : Int32) (h0 : Heap) (v : Option Value) (h : Heap) : Prop := v = some (.int (1 : Int32)) ∧ h0 = h
theorem ef12 (a : Addr) (ls : Int32) (le : Int32) (b : Addr) (ss : Int32) (se : Int32) (g : Addr) (bf : Int32) (m : MethodId) : entryFrame m #[(.ref g), (.int (2 : Int32)), (.int (0 : Int32)), (.int bf), (.ref a), (.int ls), (.int le), (.ref b), (.int ss), (.int se)] 12 = mkF m 0 #[.val (.ref g), .val (.int (2 : Int32)), .val (.int (0 : Int32)), .val (.int bf), .val (.ref a), .val (.int ls), .val (.int le), .val (.ref b), .val (.int ss), .val (.int se), .unset, .unset] [] := by first | (simp [entryFrame, mkF, argsToLocals, Value.category]; done) | rfl
set_option maxRecDepth 65536 in
set_option maxHeartbeats 40000000 in
theorem rm12 (l : Launch) (Z : State) (a0 : Array Value) (hw : ∀ d ∈ tables_1, d.before a0 Z = true) (ws : List Jvm.Cond) (a : Addr) (ls : Int32) (le : Int32) (b : Addr) (ss : Int32) (se : Int32) (g : Addr) (ka : ClassId) (kb : ClassId) (kg : ClassId) (va : List Value) (vb : List Value) (bf : Int32) (m0 : Int32) (m1 : Int32) (m2 : Int32) (m3 : Int32) (h0 : Heap) (n0 : Nat) (Z0 : n0 ≤ h0.size) (V : Arv Z h0 a ka .char (4 : Int32) va (.int (0 : Int32))) (V2 : Arv Z h0 b kb .char (4 : Int32) vb (.int (0 : Int32))) (V3 : Arv Z h0 g kg .short (4 : Int32) [(.int m0), (.int m1), (.int m2), (.int m3)] (.int (0 : Int32))) (hg : m2 = bf) : OMet l Z ws (⟨"com/example/ref_search/refsearch/matcher/CharsMarkPairPinLaw", "place", "([SIIS[CII[CII)Z"⟩ : MethodName) method_3_code 12 (some .boolean) R12 #[(.ref g), (.int (2 : Int32)), (.int (0 : Int32)), (.int bf), (.ref a), (.int ls), (.int le), (.ref b), (.int ss), (.int se)] h0 n0 (Q12 Z a ls le b ss se g ka kb kg va vb bf m0 m1 m2 m3 h0) := by
  refine OMet.of (plainFor_of_name pn_1) (ef12 a ls le b ss se g bf) Z0 ?_
  intro p e s m below meth c T0 Y0 hnm
  have Y0 : Sd Z "com/example/ref_search/refsearch/matcher/CharsMarkPairPinLaw" method_3_code 12 (some .boolean) n0 p l e R12 s m #[(.ref g), (.int (2 : Int32)), (.int (0 : Int32)), (.int bf), (.ref a), (.int ls), (.int le), (.ref b), (.int ss), (.int se)] below meth c T0 h0 0 0 := Y0
  refine Gl.iloadN Y0 rfl d_method_3_0 rfl ?_
  refine Gl.iloadN Y0 rfl d_method_3_1 rfl ?_
  refine Gl.icmplt Y0 d_method_3_2 (by decide) rfl rfl (fun c2 => ?_) (fun c2 => ?_)
  · exact absurd c2 (by decide)
  refine Gl.aloadN Y0 rfl rfl d_method_3_5 rfl ?_
  refine Gl.iloadN Y0 rfl d_method_3_6 rfl ?_
  refine Gl.saload Y0 V3 ⟨by decide, by decide⟩ (v := (.int m2)) rfl d_method_3_7 rfl ?_
  refine Gl.iloadN Y0 rfl d_method_3_8 rfl ?_
  refine Gl.icmpne Y0 d_method_3_9 (by decide) rfl rfl (fun c9 => ?_) (fun c9 => ?_)
  · exact absurd hg c9
  refine Gl.iconst Y0 (v := (1 : Int32)) (by decide) d_method_3_12 rfl ?_
  refine Gl.goto Y0 d_method_3_13 (by decide) rfl ?_
  exact Gl.retZ Y0 (by decide) (by decide) (x' := (1 : Int32)) (by decide) d_method_3_17 ⟨rfl, rfl⟩
def R13 : Room := { frames := 0, cells := 0, slots := 0, locals := 0 }
def Q13 (Z : State) (a : Addr) (ls : Int32) (le : Int32) (b : Addr) (ss : Int32) (se : Int32) (g : Addr) (ka : ClassId) (kb : ClassId) (kg : ClassId) (va : List Value) (vb : List Value) (bf : Int32) (m0 : Int32) (m1 : Int32) (m2 : Int32) (m3 : Int32) (h0 : Heap) (v : Option Value) (h : Heap) : Prop := v = some (.int (1 : Int32)) ∧ h0 = h
theorem ef13 (a : Addr) (ls : Int32) (le : Int32) (b : Addr) (ss : Int32) (se : Int32) (g : Addr) (bf : Int32) (m : MethodId) : entryFrame m #[(.ref g), (.int (2 : Int32)), (.int (1 : Int32)), (.int bf), (.ref a), (.int ls), (.int le), (.ref b), (.int ss), (.int se)] 12 = mkF m 0 #[.val (.ref g), .val (.int (2 : Int32)), .val (.int (1 : Int32)), .val (.int bf), .val (.ref a), .val (.int ls), .val (.int le), .val (.ref b), .val (.int ss), .val (.int se), .unset, .unset] [] := by first | (simp [entryFrame, mkF, argsToLocals, Value.category]; done) | rfl
set_option maxRecDepth 65536 in
set_option maxHeartbeats 40000000 in
theorem rm13 (l : Launch) (Z : State) (a0 : Array Value) (hw : ∀ d ∈ tables_1, d.before a0 Z = true) (ws : List Jvm.Cond) (a : Addr) (ls : Int32) (le : Int32) (b : Addr) (ss : Int32) (se : Int32) (g : Addr) (ka : ClassId) (kb : ClassId) (kg : ClassId) (va : List Value) (vb : List Value) (bf : Int32) (m0 : Int32) (m1 : Int32) (m2 : Int32) (m3 : Int32) (h0 : Heap) (n0 : Nat) (Z0 : n0 ≤ h0.size) (V : Arv Z h0 a ka .char (4 : Int32) va (.int (0 : Int32))) (V2 : Arv Z h0 b kb .char (4 : Int32) vb (.int (0 : Int32))) (V3 : Arv Z h0 g kg .short (4 : Int32) [(.int m0), (.int m1), (.int m2), (.int m3)] (.int (0 : Int32))) (hg : m2 = bf) : OMet l Z ws (⟨"com/example/ref_search/refsearch/matcher/CharsMarkPairPinLaw", "place", "([SIIS[CII[CII)Z"⟩ : MethodName) method_3_code 12 (some .boolean) R13 #[(.ref g), (.int (2 : Int32)), (.int (1 : Int32)), (.int bf), (.ref a), (.int ls), (.int le), (.ref b), (.int ss), (.int se)] h0 n0 (Q13 Z a ls le b ss se g ka kb kg va vb bf m0 m1 m2 m3 h0) := by
  refine OMet.of (plainFor_of_name pn_1) (ef13 a ls le b ss se g bf) Z0 ?_
  intro p e s m below meth c T0 Y0 hnm
  have Y0 : Sd Z "com/example/ref_search/refsearch/matcher/CharsMarkPairPinLaw" method_3_code 12 (some .boolean) n0 p l e R13 s m #[(.ref g), (.int (2 : Int32)), (.int (1 : Int32)), (.int bf), (.ref a), (.int ls), (.int le), (.ref b), (.int ss), (.int se)] below meth c T0 h0 0 0 := Y0
  refine Gl.iloadN Y0 rfl d_method_3_0 rfl ?_
  refine Gl.iloadN Y0 rfl d_method_3_1 rfl ?_
  refine Gl.icmplt Y0 d_method_3_2 (by decide) rfl rfl (fun c2 => ?_) (fun c2 => ?_)
  · exact absurd c2 (by decide)
  refine Gl.aloadN Y0 rfl rfl d_method_3_5 rfl ?_
  refine Gl.iloadN Y0 rfl d_method_3_6 rfl ?_
  refine Gl.saload Y0 V3 ⟨by decide, by decide⟩ (v := (.int m2)) rfl d_method_3_7 rfl ?_
  refine Gl.iloadN Y0 rfl d_method_3_8 rfl ?_
  refine Gl.icmpne Y0 d_method_3_9 (by decide) rfl rfl (fun c9 => ?_) (fun c9 => ?_)
  · exact absurd hg c9
  refine Gl.iconst Y0 (v := (1 : Int32)) (by decide) d_method_3_12 rfl ?_
  refine Gl.goto Y0 d_method_3_13 (by decide) rfl ?_
  exact Gl.retZ Y0 (by decide) (by decide) (x' := (1 : Int32)) (by decide) d_method_3_17 ⟨rfl, rfl⟩
def R14 : Room := { frames := 0, cells := 0, slots := 0, locals := 0 }
def Q14 (Z : State) (a : Addr) (ls : Int32) (le : Int32) (b : Addr) (ss : Int32) (se : Int32) (g : Addr) (ka : ClassId) (kb : ClassId) (kg : ClassId) (va : List Value) (vb : List Value) (bf : Int32) (m0 : Int32) (m1 : Int32) (m2 : Int32) (m3 : Int32) (h0 : Heap) (v : Option Value) (h : Heap) : Prop := v = some (.int (1 : Int32)) ∧ h0 = h
theorem ef14 (a : Addr) (ls : Int32) (le : Int32) (b : Addr) (ss : Int32) (se : Int32) (g : Addr) (bf : Int32) (m : MethodId) : entryFrame m #[(.ref g), (.int (2 : Int32)), (.int (2 : Int32)), (.int bf), (.ref a), (.int ls), (.int le), (.ref b), (.int ss), (.int se)] 12 = mkF m 0 #[.val (.ref g), .val (.int (2 : Int32)), .val (.int (2 : Int32)), .val (.int bf), .val (.ref a), .val (.int ls), .val (.int le), .val (.ref b), .val (.int ss), .val (.int se), .unset, .unset] [] := by first | (simp [entryFrame, mkF, argsToLocals, Value.category]; done) | rfl
set_option maxRecDepth 65536 in
set_option maxHeartbeats 40000000 in
theorem rm14 (l : Launch) (Z : State) (a0 : Array Value) (hw : ∀ d ∈ tables_1, d.before a0 Z = true) (ws : List Jvm.Cond) (a : Addr) (ls : Int32) (le : Int32) (b : Addr) (ss : Int32) (se : Int32) (g : Addr) (ka : ClassId) (kb : ClassId) (kg : ClassId) (va : List Value) (vb : List Value) (bf : Int32) (m0 : Int32) (m1 : Int32) (m2 : Int32) (m3 : Int32) (h0 : Heap) (n0 : Nat) (Z0 : n0 ≤ h0.size) (V : Arv Z h0 a ka .char (4 : Int32) va (.int (0 : Int32))) (V2 : Arv Z h0 b kb .char (4 : Int32) vb (.int (0 : Int32))) (V3 : Arv Z h0 g kg .short (4 : Int32) [(.int m0), (.int m1), (.int m2), (.int m3)] (.int (0 : Int32))) (hg : m2 = bf) : OMet l Z ws (⟨"com/example/ref_search/refsearch/matcher/CharsMarkPairPinLaw", "place", "([SIIS[CII[CII)Z"⟩ : MethodName) method_3_code 12 (some .boolean) R14 #[(.ref g), (.int (2 : Int32)), (.int (2 : Int32)), (.int bf), (.ref a), (.int ls), (.int le), (.ref b), (.int ss), (.int se)] h0 n0 (Q14 Z a ls le b ss se g ka kb kg va vb bf m0 m1 m2 m3 h0) := by
  refine OMet.of (plainFor_of_name pn_1) (ef14 a ls le b ss se g bf) Z0 ?_
  intro p e s m below meth c T0 Y0 hnm
  have Y0 : Sd Z "com/example/ref_search/refsearch/matcher/CharsMarkPairPinLaw" method_3_code 12 (some .boolean) n0 p l e R14 s m #[(.ref g), (.int (2 : Int32)), (.int (2 : Int32)), (.int bf), (.ref a), (.int ls), (.int le), (.ref b), (.int ss), (.int se)] below meth c T0 h0 0 0 := Y0
  refine Gl.iloadN Y0 rfl d_method_3_0 rfl ?_
  refine Gl.iloadN Y0 rfl d_method_3_1 rfl ?_
  refine Gl.icmplt Y0 d_method_3_2 (by decide) rfl rfl (fun c2 => ?_) (fun c2 => ?_)
  · exact absurd c2 (by decide)
  refine Gl.aloadN Y0 rfl rfl d_method_3_5 rfl ?_
  refine Gl.iloadN Y0 rfl d_method_3_6 rfl ?_
  refine Gl.saload Y0 V3 ⟨by decide, by decide⟩ (v := (.int m2)) rfl d_method_3_7 rfl ?_
  refine Gl.iloadN Y0 rfl d_method_3_8 rfl ?_
  refine Gl.icmpne Y0 d_method_3_9 (by decide) rfl rfl (fun c9 => ?_) (fun c9 => ?_)
  · exact absurd hg c9
  refine Gl.iconst Y0 (v := (1 : Int32)) (by decide) d_method_3_12 rfl ?_
  refine Gl.goto Y0 d_method_3_13 (by decide) rfl ?_
  exact Gl.retZ Y0 (by decide) (by decide) (x' := (1 : Int32)) (by decide) d_method_3_17 ⟨rfl, rfl⟩
def R15 : Room := { frames := 0, cells := 0, slots := 0, locals := 0 }
def Q15 (Z : State) (a : Addr) (ls : Int32) (le : Int32) (b : Addr) (ss : Int32) (se : Int32) (g : Addr) (ka : ClassId) (kb : ClassId) (kg : ClassId) (va : List Value) (vb : List Value) (bf : Int32) (m0 : Int32) (m1 : Int32) (m2 : Int32) (m3 : Int32) (u2 : Int32) (w2 : Int32) (h0 : Heap) (v : Option Value) (h : Heap) : Prop := v = some (.int (1 : Int32)) ∧ h0 = h
theorem ef15 (a : Addr) (ls : Int32) (le : Int32) (b : Addr) (ss : Int32) (se : Int32) (g : Addr) (bf : Int32) (m : MethodId) : entryFrame m #[(.ref g), (.int (2 : Int32)), (.int (3 : Int32)), (.int bf), (.ref a), (.int ls), (.int le), (.ref b), (.int ss), (.int se)] 12 = mkF m 0 #[.val (.ref g), .val (.int (2 : Int32)), .val (.int (3 : Int32)), .val (.int bf), .val (.ref a), .val (.int ls), .val (.int le), .val (.ref b), .val (.int ss), .val (.int se), .unset, .unset] [] := by first | (simp [entryFrame, mkF, argsToLocals, Value.category]; done) | rfl
set_option maxRecDepth 65536 in
set_option maxHeartbeats 40000000 in
theorem rm15 (l : Launch) (Z : State) (a0 : Array Value) (hw : ∀ d ∈ tables_1, d.before a0 Z = true) (ws : List Jvm.Cond) (a : Addr) (ls : Int32) (le : Int32) (b : Addr) (ss : Int32) (se : Int32) (g : Addr) (ka : ClassId) (kb : ClassId) (kg : ClassId) (va : List Value) (vb : List Value) (bf : Int32) (m0 : Int32) (m1 : Int32) (m2 : Int32) (m3 : Int32) (u2 : Int32) (w2 : Int32) (h0 : Heap) (n0 : Nat) (Z0 : n0 ≤ h0.size) (V : Arv Z h0 a ka .char (4 : Int32) va (.int (0 : Int32))) (V2 : Arv Z h0 b kb .char (4 : Int32) vb (.int (0 : Int32))) (V3 : Arv Z h0 g kg .short (4 : Int32) [(.int m0), (.int m1), (.int m2), (.int m3)] (.int (0 : Int32))) (hj2 : ¬ ls + (2 : Int32) < 0 ∧ ls + (2 : Int32) < 4) (hv2 : va.getD (ls + (2 : Int32)).toNatClampNeg (.int 0) = .int u2) (kj2 : ¬ ss + (2 : Int32) < 0 ∧ ss + (2 : Int32) < 4) (kv2 : vb.getD (ss + (2 : Int32)).toNatClampNeg (.int 0) = .int w2) (r_u2 : 0 ≤ u2.toInt ∧ u2.toInt ≤ 65535) (r_w2 : 0 ≤ w2.toInt ∧ w2.toInt ≤ 65535) (r_le : 0 ≤ le.toInt ∧ le.toInt ≤ 65535) (r_se : 0 ≤ se.toInt ∧ se.toInt ≤ 65535) (hg : m2 = own_mark u2 le w2 se) : OMet l Z ws (⟨"com/example/ref_search/refsearch/matcher/CharsMarkPairPinLaw", "place", "([SIIS[CII[CII)Z"⟩ : MethodName) method_3_code 12 (some .boolean) R15 #[(.ref g), (.int (2 : Int32)), (.int (3 : Int32)), (.int bf), (.ref a), (.int ls), (.int le), (.ref b), (.int ss), (.int se)] h0 n0 (Q15 Z a ls le b ss se g ka kb kg va vb bf m0 m1 m2 m3 u2 w2 h0) := by
  refine OMet.of (plainFor_of_name pn_1) (ef15 a ls le b ss se g bf) Z0 ?_
  intro p e s m below meth c T0 Y0 hnm
  have Y0 : Sd Z "com/example/ref_search/refsearch/matcher/CharsMarkPairPinLaw" method_3_code 12 (some .boolean) n0 p l e R15 s m #[(.ref g), (.int (2 : Int32)), (.int (3 : Int32)), (.int bf), (.ref a), (.int ls), (.int le), (.ref b), (.int ss), (.int se)] below meth c T0 h0 0 0 := Y0
  refine Gl.iloadN Y0 rfl d_method_3_0 rfl ?_
  refine Gl.iloadN Y0 rfl d_method_3_1 rfl ?_
  refine Gl.icmplt Y0 d_method_3_2 (by decide) rfl rfl (fun c2 => ?_) (fun c2 => ?_)
  rotate_left
  · exact absurd c2 (by decide)
  refine Gl.aload Y0 rfl rfl d_method_3_18 rfl ?_
  refine Gl.iload Y0 rfl d_method_3_20 rfl ?_
  refine Gl.iloadN Y0 rfl d_method_3_22 rfl ?_
  refine Gl.iadd Y0 rfl d_method_3_23 rfl ?_
  refine Gl.caload Y0 V hj2 (v := (.int u2)) hv2 d_method_3_24 rfl ?_
  refine Gl.iload Y0 rfl d_method_3_25 rfl ?_
  refine Gl.icmpne Y0 d_method_3_27 (by decide) rfl rfl (fun c27 => ?_) (fun c27 => ?_)
  · refine Gl.iconst Y0 (v := (0 : Int32)) (by decide) d_method_3_46 rfl ?_
    refine Gl.istore Y0 (L' := #[.val (.ref g), .val (.int (2 : Int32)), .val (.int (3 : Int32)), .val (.int bf), .val (.ref a), .val (.int ls), .val (.int le), .val (.ref b), .val (.int ss), .val (.int se), .val (.int (0 : Int32)), .unset]) rfl d_method_3_47 rfl ?_
    refine Gl.iload Y0 rfl d_method_3_49 rfl ?_
    refine Gl.ifeq Y0 d_method_3_51 (by decide) rfl rfl (fun c51 => ?_) (fun c51 => ?_)
    rotate_left
    · exact absurd c51 (by decide)
    refine Gl.iconst Y0 (v := (0 : Int32)) (by decide) d_method_3_60 rfl ?_
    refine Gl.istore Y0 (L' := #[.val (.ref g), .val (.int (2 : Int32)), .val (.int (3 : Int32)), .val (.int bf), .val (.ref a), .val (.int ls), .val (.int le), .val (.ref b), .val (.int ss), .val (.int se), .val (.int (0 : Int32)), .val (.int (0 : Int32))]) rfl d_method_3_61 rfl ?_
    refine Gl.aloadN Y0 rfl rfl d_method_3_63 rfl ?_
    refine Gl.iloadN Y0 rfl d_method_3_64 rfl ?_
    refine Gl.saload Y0 V3 ⟨by decide, by decide⟩ (v := (.int m2)) rfl d_method_3_65 rfl ?_
    refine Gl.iload Y0 rfl d_method_3_66 rfl ?_
    refine Gl.icmpne Y0 d_method_3_68 (by decide) rfl rfl (fun c68 => ?_) (fun c68 => ?_)
    · refine absurd ?_ c68
      rw [hg, own_mark_eq _ _ _ _ r_u2 r_le r_w2 r_se, if_neg (fun q => c27 q.1)]
    refine Gl.iconst Y0 (v := (1 : Int32)) (by decide) d_method_3_71 rfl ?_
    refine Gl.goto Y0 d_method_3_72 (by decide) rfl ?_
    exact Gl.retZ Y0 (by decide) (by decide) (x' := (1 : Int32)) (by decide) d_method_3_76 ⟨rfl, rfl⟩
  · refine Gl.aload Y0 rfl rfl d_method_3_30 rfl ?_
    refine Gl.iload Y0 rfl d_method_3_32 rfl ?_
    refine Gl.iloadN Y0 rfl d_method_3_34 rfl ?_
    refine Gl.iadd Y0 rfl d_method_3_35 rfl ?_
    refine Gl.caload Y0 V2 kj2 (v := (.int w2)) kv2 d_method_3_36 rfl ?_
    refine Gl.iload Y0 rfl d_method_3_37 rfl ?_
    refine Gl.icmpne Y0 d_method_3_39 (by decide) rfl rfl (fun c39 => ?_) (fun c39 => ?_)
    · refine Gl.iconst Y0 (v := (0 : Int32)) (by decide) d_method_3_46 rfl ?_
      refine Gl.istore Y0 (L' := #[.val (.ref g), .val (.int (2 : Int32)), .val (.int (3 : Int32)), .val (.int bf), .val (.ref a), .val (.int ls), .val (.int le), .val (.ref b), .val (.int ss), .val (.int se), .val (.int (0 : Int32)), .unset]) rfl d_method_3_47 rfl ?_
      refine Gl.iload Y0 rfl d_method_3_49 rfl ?_
      refine Gl.ifeq Y0 d_method_3_51 (by decide) rfl rfl (fun c51 => ?_) (fun c51 => ?_)
      rotate_left
      · exact absurd c51 (by decide)
      refine Gl.iconst Y0 (v := (0 : Int32)) (by decide) d_method_3_60 rfl ?_
      refine Gl.istore Y0 (L' := #[.val (.ref g), .val (.int (2 : Int32)), .val (.int (3 : Int32)), .val (.int bf), .val (.ref a), .val (.int ls), .val (.int le), .val (.ref b), .val (.int ss), .val (.int se), .val (.int (0 : Int32)), .val (.int (0 : Int32))]) rfl d_method_3_61 rfl ?_
      refine Gl.aloadN Y0 rfl rfl d_method_3_63 rfl ?_
      refine Gl.iloadN Y0 rfl d_method_3_64 rfl ?_
      refine Gl.saload Y0 V3 ⟨by decide, by decide⟩ (v := (.int m2)) rfl d_method_3_65 rfl ?_
      refine Gl.iload Y0 rfl d_method_3_66 rfl ?_
      refine Gl.icmpne Y0 d_method_3_68 (by decide) rfl rfl (fun c68 => ?_) (fun c68 => ?_)
      · refine absurd ?_ c68
        rw [hg, own_mark_eq _ _ _ _ r_u2 r_le r_w2 r_se, if_neg (fun q => c39 q.2)]
      refine Gl.iconst Y0 (v := (1 : Int32)) (by decide) d_method_3_71 rfl ?_
      refine Gl.goto Y0 d_method_3_72 (by decide) rfl ?_
      exact Gl.retZ Y0 (by decide) (by decide) (x' := (1 : Int32)) (by decide) d_method_3_76 ⟨rfl, rfl⟩
    · refine Gl.iconst Y0 (v := (1 : Int32)) (by decide) d_method_3_42 rfl ?_
      refine Gl.goto Y0 d_method_3_43 (by decide) rfl ?_
      refine Gl.istore Y0 (L' := #[.val (.ref g), .val (.int (2 : Int32)), .val (.int (3 : Int32)), .val (.int bf), .val (.ref a), .val (.int ls), .val (.int le), .val (.ref b), .val (.int ss), .val (.int se), .val (.int (1 : Int32)), .unset]) rfl d_method_3_47 rfl ?_
      refine Gl.iload Y0 rfl d_method_3_49 rfl ?_
      refine Gl.ifeq Y0 d_method_3_51 (by decide) rfl rfl (fun c51 => ?_) (fun c51 => ?_)
      · exact absurd c51 (by decide)
      refine Gl.sipush Y0 (v := (-32768 : Int32)) (by decide) d_method_3_54 rfl ?_
      refine Gl.goto Y0 d_method_3_57 (by decide) rfl ?_
      refine Gl.istore Y0 (L' := #[.val (.ref g), .val (.int (2 : Int32)), .val (.int (3 : Int32)), .val (.int bf), .val (.ref a), .val (.int ls), .val (.int le), .val (.ref b), .val (.int ss), .val (.int se), .val (.int (1 : Int32)), .val (.int (-32768 : Int32))]) rfl d_method_3_61 rfl ?_
      refine Gl.aloadN Y0 rfl rfl d_method_3_63 rfl ?_
      refine Gl.iloadN Y0 rfl d_method_3_64 rfl ?_
      refine Gl.saload Y0 V3 ⟨by decide, by decide⟩ (v := (.int m2)) rfl d_method_3_65 rfl ?_
      refine Gl.iload Y0 rfl d_method_3_66 rfl ?_
      refine Gl.icmpne Y0 d_method_3_68 (by decide) rfl rfl (fun c68 => ?_) (fun c68 => ?_)
      · refine absurd ?_ c68
        rw [hg, own_mark_eq _ _ _ _ r_u2 r_le r_w2 r_se, if_pos ⟨c27, c39⟩]
      refine Gl.iconst Y0 (v := (1 : Int32)) (by decide) d_method_3_71 rfl ?_
      refine Gl.goto Y0 d_method_3_72 (by decide) rfl ?_
      exact Gl.retZ Y0 (by decide) (by decide) (x' := (1 : Int32)) (by decide) d_method_3_76 ⟨rfl, rfl⟩
def R16 : Room := { frames := 0, cells := 0, slots := 0, locals := 0 }
def Q16 (Z : State) (a : Addr) (ls : Int32) (le : Int32) (b : Addr) (ss : Int32) (se : Int32) (g : Addr) (ka : ClassId) (kb : ClassId) (kg : ClassId) (va : List Value) (vb : List Value) (bf : Int32) (m0 : Int32) (m1 : Int32) (m2 : Int32) (m3 : Int32) (h0 : Heap) (v : Option Value) (h : Heap) : Prop := v = some (.int (1 : Int32)) ∧ h0 = h
theorem ef16 (a : Addr) (ls : Int32) (le : Int32) (b : Addr) (ss : Int32) (se : Int32) (g : Addr) (bf : Int32) (m : MethodId) : entryFrame m #[(.ref g), (.int (3 : Int32)), (.int (0 : Int32)), (.int bf), (.ref a), (.int ls), (.int le), (.ref b), (.int ss), (.int se)] 12 = mkF m 0 #[.val (.ref g), .val (.int (3 : Int32)), .val (.int (0 : Int32)), .val (.int bf), .val (.ref a), .val (.int ls), .val (.int le), .val (.ref b), .val (.int ss), .val (.int se), .unset, .unset] [] := by first | (simp [entryFrame, mkF, argsToLocals, Value.category]; done) | rfl
set_option maxRecDepth 65536 in
set_option maxHeartbeats 40000000 in
theorem rm16 (l : Launch) (Z : State) (a0 : Array Value) (hw : ∀ d ∈ tables_1, d.before a0 Z = true) (ws : List Jvm.Cond) (a : Addr) (ls : Int32) (le : Int32) (b : Addr) (ss : Int32) (se : Int32) (g : Addr) (ka : ClassId) (kb : ClassId) (kg : ClassId) (va : List Value) (vb : List Value) (bf : Int32) (m0 : Int32) (m1 : Int32) (m2 : Int32) (m3 : Int32) (h0 : Heap) (n0 : Nat) (Z0 : n0 ≤ h0.size) (V : Arv Z h0 a ka .char (4 : Int32) va (.int (0 : Int32))) (V2 : Arv Z h0 b kb .char (4 : Int32) vb (.int (0 : Int32))) (V3 : Arv Z h0 g kg .short (4 : Int32) [(.int m0), (.int m1), (.int m2), (.int m3)] (.int (0 : Int32))) (hg : m3 = bf) : OMet l Z ws (⟨"com/example/ref_search/refsearch/matcher/CharsMarkPairPinLaw", "place", "([SIIS[CII[CII)Z"⟩ : MethodName) method_3_code 12 (some .boolean) R16 #[(.ref g), (.int (3 : Int32)), (.int (0 : Int32)), (.int bf), (.ref a), (.int ls), (.int le), (.ref b), (.int ss), (.int se)] h0 n0 (Q16 Z a ls le b ss se g ka kb kg va vb bf m0 m1 m2 m3 h0) := by
  refine OMet.of (plainFor_of_name pn_1) (ef16 a ls le b ss se g bf) Z0 ?_
  intro p e s m below meth c T0 Y0 hnm
  have Y0 : Sd Z "com/example/ref_search/refsearch/matcher/CharsMarkPairPinLaw" method_3_code 12 (some .boolean) n0 p l e R16 s m #[(.ref g), (.int (3 : Int32)), (.int (0 : Int32)), (.int bf), (.ref a), (.int ls), (.int le), (.ref b), (.int ss), (.int se)] below meth c T0 h0 0 0 := Y0
  refine Gl.iloadN Y0 rfl d_method_3_0 rfl ?_
  refine Gl.iloadN Y0 rfl d_method_3_1 rfl ?_
  refine Gl.icmplt Y0 d_method_3_2 (by decide) rfl rfl (fun c2 => ?_) (fun c2 => ?_)
  · exact absurd c2 (by decide)
  refine Gl.aloadN Y0 rfl rfl d_method_3_5 rfl ?_
  refine Gl.iloadN Y0 rfl d_method_3_6 rfl ?_
  refine Gl.saload Y0 V3 ⟨by decide, by decide⟩ (v := (.int m3)) rfl d_method_3_7 rfl ?_
  refine Gl.iloadN Y0 rfl d_method_3_8 rfl ?_
  refine Gl.icmpne Y0 d_method_3_9 (by decide) rfl rfl (fun c9 => ?_) (fun c9 => ?_)
  · exact absurd hg c9
  refine Gl.iconst Y0 (v := (1 : Int32)) (by decide) d_method_3_12 rfl ?_
  refine Gl.goto Y0 d_method_3_13 (by decide) rfl ?_
  exact Gl.retZ Y0 (by decide) (by decide) (x' := (1 : Int32)) (by decide) d_method_3_17 ⟨rfl, rfl⟩
def R17 : Room := { frames := 0, cells := 0, slots := 0, locals := 0 }
def Q17 (Z : State) (a : Addr) (ls : Int32) (le : Int32) (b : Addr) (ss : Int32) (se : Int32) (g : Addr) (ka : ClassId) (kb : ClassId) (kg : ClassId) (va : List Value) (vb : List Value) (bf : Int32) (m0 : Int32) (m1 : Int32) (m2 : Int32) (m3 : Int32) (h0 : Heap) (v : Option Value) (h : Heap) : Prop := v = some (.int (1 : Int32)) ∧ h0 = h
theorem ef17 (a : Addr) (ls : Int32) (le : Int32) (b : Addr) (ss : Int32) (se : Int32) (g : Addr) (bf : Int32) (m : MethodId) : entryFrame m #[(.ref g), (.int (3 : Int32)), (.int (1 : Int32)), (.int bf), (.ref a), (.int ls), (.int le), (.ref b), (.int ss), (.int se)] 12 = mkF m 0 #[.val (.ref g), .val (.int (3 : Int32)), .val (.int (1 : Int32)), .val (.int bf), .val (.ref a), .val (.int ls), .val (.int le), .val (.ref b), .val (.int ss), .val (.int se), .unset, .unset] [] := by first | (simp [entryFrame, mkF, argsToLocals, Value.category]; done) | rfl
set_option maxRecDepth 65536 in
set_option maxHeartbeats 40000000 in
theorem rm17 (l : Launch) (Z : State) (a0 : Array Value) (hw : ∀ d ∈ tables_1, d.before a0 Z = true) (ws : List Jvm.Cond) (a : Addr) (ls : Int32) (le : Int32) (b : Addr) (ss : Int32) (se : Int32) (g : Addr) (ka : ClassId) (kb : ClassId) (kg : ClassId) (va : List Value) (vb : List Value) (bf : Int32) (m0 : Int32) (m1 : Int32) (m2 : Int32) (m3 : Int32) (h0 : Heap) (n0 : Nat) (Z0 : n0 ≤ h0.size) (V : Arv Z h0 a ka .char (4 : Int32) va (.int (0 : Int32))) (V2 : Arv Z h0 b kb .char (4 : Int32) vb (.int (0 : Int32))) (V3 : Arv Z h0 g kg .short (4 : Int32) [(.int m0), (.int m1), (.int m2), (.int m3)] (.int (0 : Int32))) (hg : m3 = bf) : OMet l Z ws (⟨"com/example/ref_search/refsearch/matcher/CharsMarkPairPinLaw", "place", "([SIIS[CII[CII)Z"⟩ : MethodName) method_3_code 12 (some .boolean) R17 #[(.ref g), (.int (3 : Int32)), (.int (1 : Int32)), (.int bf), (.ref a), (.int ls), (.int le), (.ref b), (.int ss), (.int se)] h0 n0 (Q17 Z a ls le b ss se g ka kb kg va vb bf m0 m1 m2 m3 h0) := by
  refine OMet.of (plainFor_of_name pn_1) (ef17 a ls le b ss se g bf) Z0 ?_
  intro p e s m below meth c T0 Y0 hnm
  have Y0 : Sd Z "com/example/ref_search/refsearch/matcher/CharsMarkPairPinLaw" method_3_code 12 (some .boolean) n0 p l e R17 s m #[(.ref g), (.int (3 : Int32)), (.int (1 : Int32)), (.int bf), (.ref a), (.int ls), (.int le), (.ref b), (.int ss), (.int se)] below meth c T0 h0 0 0 := Y0
  refine Gl.iloadN Y0 rfl d_method_3_0 rfl ?_
  refine Gl.iloadN Y0 rfl d_method_3_1 rfl ?_
  refine Gl.icmplt Y0 d_method_3_2 (by decide) rfl rfl (fun c2 => ?_) (fun c2 => ?_)
  · exact absurd c2 (by decide)
  refine Gl.aloadN Y0 rfl rfl d_method_3_5 rfl ?_
  refine Gl.iloadN Y0 rfl d_method_3_6 rfl ?_
  refine Gl.saload Y0 V3 ⟨by decide, by decide⟩ (v := (.int m3)) rfl d_method_3_7 rfl ?_
  refine Gl.iloadN Y0 rfl d_method_3_8 rfl ?_
  refine Gl.icmpne Y0 d_method_3_9 (by decide) rfl rfl (fun c9 => ?_) (fun c9 => ?_)
  · exact absurd hg c9
  refine Gl.iconst Y0 (v := (1 : Int32)) (by decide) d_method_3_12 rfl ?_
  refine Gl.goto Y0 d_method_3_13 (by decide) rfl ?_
  exact Gl.retZ Y0 (by decide) (by decide) (x' := (1 : Int32)) (by decide) d_method_3_17 ⟨rfl, rfl⟩
def R18 : Room := { frames := 0, cells := 0, slots := 0, locals := 0 }
def Q18 (Z : State) (a : Addr) (ls : Int32) (le : Int32) (b : Addr) (ss : Int32) (se : Int32) (g : Addr) (ka : ClassId) (kb : ClassId) (kg : ClassId) (va : List Value) (vb : List Value) (bf : Int32) (m0 : Int32) (m1 : Int32) (m2 : Int32) (m3 : Int32) (h0 : Heap) (v : Option Value) (h : Heap) : Prop := v = some (.int (1 : Int32)) ∧ h0 = h
theorem ef18 (a : Addr) (ls : Int32) (le : Int32) (b : Addr) (ss : Int32) (se : Int32) (g : Addr) (bf : Int32) (m : MethodId) : entryFrame m #[(.ref g), (.int (3 : Int32)), (.int (2 : Int32)), (.int bf), (.ref a), (.int ls), (.int le), (.ref b), (.int ss), (.int se)] 12 = mkF m 0 #[.val (.ref g), .val (.int (3 : Int32)), .val (.int (2 : Int32)), .val (.int bf), .val (.ref a), .val (.int ls), .val (.int le), .val (.ref b), .val (.int ss), .val (.int se), .unset, .unset] [] := by first | (simp [entryFrame, mkF, argsToLocals, Value.category]; done) | rfl
set_option maxRecDepth 65536 in
set_option maxHeartbeats 40000000 in
theorem rm18 (l : Launch) (Z : State) (a0 : Array Value) (hw : ∀ d ∈ tables_1, d.before a0 Z = true) (ws : List Jvm.Cond) (a : Addr) (ls : Int32) (le : Int32) (b : Addr) (ss : Int32) (se : Int32) (g : Addr) (ka : ClassId) (kb : ClassId) (kg : ClassId) (va : List Value) (vb : List Value) (bf : Int32) (m0 : Int32) (m1 : Int32) (m2 : Int32) (m3 : Int32) (h0 : Heap) (n0 : Nat) (Z0 : n0 ≤ h0.size) (V : Arv Z h0 a ka .char (4 : Int32) va (.int (0 : Int32))) (V2 : Arv Z h0 b kb .char (4 : Int32) vb (.int (0 : Int32))) (V3 : Arv Z h0 g kg .short (4 : Int32) [(.int m0), (.int m1), (.int m2), (.int m3)] (.int (0 : Int32))) (hg : m3 = bf) : OMet l Z ws (⟨"com/example/ref_search/refsearch/matcher/CharsMarkPairPinLaw", "place", "([SIIS[CII[CII)Z"⟩ : MethodName) method_3_code 12 (some .boolean) R18 #[(.ref g), (.int (3 : Int32)), (.int (2 : Int32)), (.int bf), (.ref a), (.int ls), (.int le), (.ref b), (.int ss), (.int se)] h0 n0 (Q18 Z a ls le b ss se g ka kb kg va vb bf m0 m1 m2 m3 h0) := by
  refine OMet.of (plainFor_of_name pn_1) (ef18 a ls le b ss se g bf) Z0 ?_
  intro p e s m below meth c T0 Y0 hnm
  have Y0 : Sd Z "com/example/ref_search/refsearch/matcher/CharsMarkPairPinLaw" method_3_code 12 (some .boolean) n0 p l e R18 s m #[(.ref g), (.int (3 : Int32)), (.int (2 : Int32)), (.int bf), (.ref a), (.int ls), (.int le), (.ref b), (.int ss), (.int se)] below meth c T0 h0 0 0 := Y0
  refine Gl.iloadN Y0 rfl d_method_3_0 rfl ?_
  refine Gl.iloadN Y0 rfl d_method_3_1 rfl ?_
  refine Gl.icmplt Y0 d_method_3_2 (by decide) rfl rfl (fun c2 => ?_) (fun c2 => ?_)
  · exact absurd c2 (by decide)
  refine Gl.aloadN Y0 rfl rfl d_method_3_5 rfl ?_
  refine Gl.iloadN Y0 rfl d_method_3_6 rfl ?_
  refine Gl.saload Y0 V3 ⟨by decide, by decide⟩ (v := (.int m3)) rfl d_method_3_7 rfl ?_
  refine Gl.iloadN Y0 rfl d_method_3_8 rfl ?_
  refine Gl.icmpne Y0 d_method_3_9 (by decide) rfl rfl (fun c9 => ?_) (fun c9 => ?_)
  · exact absurd hg c9
  refine Gl.iconst Y0 (v := (1 : Int32)) (by decide) d_method_3_12 rfl ?_
  refine Gl.goto Y0 d_method_3_13 (by decide) rfl ?_
  exact Gl.retZ Y0 (by decide) (by decide) (x' := (1 : Int32)) (by decide) d_method_3_17 ⟨rfl, rfl⟩
def R19 : Room := { frames := 0, cells := 0, slots := 0, locals := 0 }
def Q19 (Z : State) (a : Addr) (ls : Int32) (le : Int32) (b : Addr) (ss : Int32) (se : Int32) (g : Addr) (ka : ClassId) (kb : ClassId) (kg : ClassId) (va : List Value) (vb : List Value) (bf : Int32) (m0 : Int32) (m1 : Int32) (m2 : Int32) (m3 : Int32) (h0 : Heap) (v : Option Value) (h : Heap) : Prop := v = some (.int (1 : Int32)) ∧ h0 = h
theorem ef19 (a : Addr) (ls : Int32) (le : Int32) (b : Addr) (ss : Int32) (se : Int32) (g : Addr) (bf : Int32) (m : MethodId) : entryFrame m #[(.ref g), (.int (3 : Int32)), (.int (3 : Int32)), (.int bf), (.ref a), (.int ls), (.int le), (.ref b), (.int ss), (.int se)] 12 = mkF m 0 #[.val (.ref g), .val (.int (3 : Int32)), .val (.int (3 : Int32)), .val (.int bf), .val (.ref a), .val (.int ls), .val (.int le), .val (.ref b), .val (.int ss), .val (.int se), .unset, .unset] [] := by first | (simp [entryFrame, mkF, argsToLocals, Value.category]; done) | rfl
set_option maxRecDepth 65536 in
set_option maxHeartbeats 40000000 in
theorem rm19 (l : Launch) (Z : State) (a0 : Array Value) (hw : ∀ d ∈ tables_1, d.before a0 Z = true) (ws : List Jvm.Cond) (a : Addr) (ls : Int32) (le : Int32) (b : Addr) (ss : Int32) (se : Int32) (g : Addr) (ka : ClassId) (kb : ClassId) (kg : ClassId) (va : List Value) (vb : List Value) (bf : Int32) (m0 : Int32) (m1 : Int32) (m2 : Int32) (m3 : Int32) (h0 : Heap) (n0 : Nat) (Z0 : n0 ≤ h0.size) (V : Arv Z h0 a ka .char (4 : Int32) va (.int (0 : Int32))) (V2 : Arv Z h0 b kb .char (4 : Int32) vb (.int (0 : Int32))) (V3 : Arv Z h0 g kg .short (4 : Int32) [(.int m0), (.int m1), (.int m2), (.int m3)] (.int (0 : Int32))) (hg : m3 = bf) : OMet l Z ws (⟨"com/example/ref_search/refsearch/matcher/CharsMarkPairPinLaw", "place", "([SIIS[CII[CII)Z"⟩ : MethodName) method_3_code 12 (some .boolean) R19 #[(.ref g), (.int (3 : Int32)), (.int (3 : Int32)), (.int bf), (.ref a), (.int ls), (.int le), (.ref b), (.int ss), (.int se)] h0 n0 (Q19 Z a ls le b ss se g ka kb kg va vb bf m0 m1 m2 m3 h0) := by
  refine OMet.of (plainFor_of_name pn_1) (ef19 a ls le b ss se g bf) Z0 ?_
  intro p e s m below meth c T0 Y0 hnm
  have Y0 : Sd Z "com/example/ref_search/refsearch/matcher/CharsMarkPairPinLaw" method_3_code 12 (some .boolean) n0 p l e R19 s m #[(.ref g), (.int (3 : Int32)), (.int (3 : Int32)), (.int bf), (.ref a), (.int ls), (.int le), (.ref b), (.int ss), (.int se)] below meth c T0 h0 0 0 := Y0
  refine Gl.iloadN Y0 rfl d_method_3_0 rfl ?_
  refine Gl.iloadN Y0 rfl d_method_3_1 rfl ?_
  refine Gl.icmplt Y0 d_method_3_2 (by decide) rfl rfl (fun c2 => ?_) (fun c2 => ?_)
  · exact absurd c2 (by decide)
  refine Gl.aloadN Y0 rfl rfl d_method_3_5 rfl ?_
  refine Gl.iloadN Y0 rfl d_method_3_6 rfl ?_
  refine Gl.saload Y0 V3 ⟨by decide, by decide⟩ (v := (.int m3)) rfl d_method_3_7 rfl ?_
  refine Gl.iloadN Y0 rfl d_method_3_8 rfl ?_
  refine Gl.icmpne Y0 d_method_3_9 (by decide) rfl rfl (fun c9 => ?_) (fun c9 => ?_)
  · exact absurd hg c9
  refine Gl.iconst Y0 (v := (1 : Int32)) (by decide) d_method_3_12 rfl ?_
  refine Gl.goto Y0 d_method_3_13 (by decide) rfl ?_
  exact Gl.retZ Y0 (by decide) (by decide) (x' := (1 : Int32)) (by decide) d_method_3_17 ⟨rfl, rfl⟩
theorem d_method_4_0 : decode method_4_code 0 = .ok (.aload_n 0, 1) := by decide +kernel
theorem d_method_4_1 : decode method_4_code 1 = .ok (.iconst 0, 1) := by decide +kernel
theorem d_method_4_2 : decode method_4_code 2 = .ok (.caload, 1) := by decide +kernel
theorem d_method_4_3 : decode method_4_code 3 = .ok (.i2l, 1) := by decide +kernel
theorem d_method_4_4 : decode method_4_code 4 = .ok (.aload_n 0, 1) := by decide +kernel
theorem d_method_4_5 : decode method_4_code 5 = .ok (.iconst 1, 1) := by decide +kernel
theorem d_method_4_6 : decode method_4_code 6 = .ok (.caload, 1) := by decide +kernel
theorem d_method_4_7 : decode method_4_code 7 = .ok (.i2l, 1) := by decide +kernel
theorem d_method_4_8 : decode method_4_code 8 = .ok (.bipush 16, 2) := by decide +kernel
theorem d_method_4_10 : decode method_4_code 10 = .ok (.lshl, 1) := by decide +kernel
theorem d_method_4_11 : decode method_4_code 11 = .ok (.lor, 1) := by decide +kernel
theorem d_method_4_12 : decode method_4_code 12 = .ok (.aload_n 0, 1) := by decide +kernel
theorem d_method_4_13 : decode method_4_code 13 = .ok (.iconst 2, 1) := by decide +kernel
theorem d_method_4_14 : decode method_4_code 14 = .ok (.caload, 1) := by decide +kernel
theorem d_method_4_15 : decode method_4_code 15 = .ok (.i2l, 1) := by decide +kernel
theorem d_method_4_16 : decode method_4_code 16 = .ok (.bipush 32, 2) := by decide +kernel
theorem d_method_4_18 : decode method_4_code 18 = .ok (.lshl, 1) := by decide +kernel
theorem d_method_4_19 : decode method_4_code 19 = .ok (.lor, 1) := by decide +kernel
theorem d_method_4_20 : decode method_4_code 20 = .ok (.aload_n 0, 1) := by decide +kernel
theorem d_method_4_21 : decode method_4_code 21 = .ok (.iconst 3, 1) := by decide +kernel
theorem d_method_4_22 : decode method_4_code 22 = .ok (.caload, 1) := by decide +kernel
theorem d_method_4_23 : decode method_4_code 23 = .ok (.i2l, 1) := by decide +kernel
theorem d_method_4_24 : decode method_4_code 24 = .ok (.bipush 48, 2) := by decide +kernel
theorem d_method_4_26 : decode method_4_code 26 = .ok (.lshl, 1) := by decide +kernel
theorem d_method_4_27 : decode method_4_code 27 = .ok (.lor, 1) := by decide +kernel
theorem d_method_4_28 : decode method_4_code 28 = .ok (.lreturn, 1) := by decide +kernel
def R20 : Room := { frames := 0, cells := 0, slots := 0, locals := 0 }
def Q20 (Z : State) (a : Addr) (ka : ClassId) (x0 : Int32) (x1 : Int32) (x2 : Int32) (x3 : Int32) (h0 : Heap) (v : Option Value) (h : Heap) : Prop := ∃ r : Int64, v = some (.long r) ∧ (r = ((x0.toInt64 ||| (x1.toInt64 <<< ((16 : Int32) &&& 0x3f).toInt64)) ||| (x2.toInt64 <<< ((32 : Int32) &&& 0x3f).toInt64)) ||| (x3.toInt64 <<< ((48 : Int32) &&& 0x3f).toInt64)) ∧ h0 = h
theorem ef20 (a : Addr) (m : MethodId) : entryFrame m #[(.ref a)] 1 = mkF m 0 #[.val (.ref a)] [] := by first | (simp [entryFrame, mkF, argsToLocals, Value.category]; done) | rfl
set_option maxRecDepth 65536 in
set_option maxHeartbeats 40000000 in
theorem rm20 (l : Launch) (Z : State) (a0 : Array Value) (hw : ∀ d ∈ tables_1, d.before a0 Z = true) (ws : List Jvm.Cond) (a : Addr) (ka : ClassId) (x0 : Int32) (x1 : Int32) (x2 : Int32) (x3 : Int32) (h0 : Heap) (n0 : Nat) (Z0 : n0 ≤ h0.size) (V : Arv Z h0 a ka .char (4 : Int32) [(.int x0), (.int x1), (.int x2), (.int x3)] (.int (0 : Int32))) : OMet l Z ws (⟨"com/example/ref_search/refsearch/matcher/CharsMarkPairPinLaw", "packed", "([C)J"⟩ : MethodName) method_4_code 1 (some .long) R20 #[(.ref a)] h0 n0 (Q20 Z a ka x0 x1 x2 x3 h0) := by
  refine OMet.of (plainFor_of_name pn_1) (ef20 a) Z0 ?_
  intro p e s m below meth c T0 Y0 hnm
  have Y0 : Sd Z "com/example/ref_search/refsearch/matcher/CharsMarkPairPinLaw" method_4_code 1 (some .long) n0 p l e R20 s m #[(.ref a)] below meth c T0 h0 0 0 := Y0
  refine Gl.aloadN Y0 rfl rfl d_method_4_0 rfl ?_
  refine Gl.iconst Y0 (v := (0 : Int32)) (by decide) d_method_4_1 rfl ?_
  refine Gl.caload Y0 V ⟨by decide, by decide⟩ (v := (.int x0)) rfl d_method_4_2 rfl ?_
  refine Gl.i2l Y0 rfl d_method_4_3 rfl ?_
  refine Gl.aloadN Y0 rfl rfl d_method_4_4 rfl ?_
  refine Gl.iconst Y0 (v := (1 : Int32)) (by decide) d_method_4_5 rfl ?_
  refine Gl.caload Y0 V ⟨by decide, by decide⟩ (v := (.int x1)) rfl d_method_4_6 rfl ?_
  refine Gl.i2l Y0 rfl d_method_4_7 rfl ?_
  refine Gl.bipush Y0 (v := (16 : Int32)) (by decide) d_method_4_8 rfl ?_
  refine Gl.lshl Y0 rfl d_method_4_10 rfl ?_
  refine Gl.lor Y0 rfl d_method_4_11 rfl ?_
  refine Gl.aloadN Y0 rfl rfl d_method_4_12 rfl ?_
  refine Gl.iconst Y0 (v := (2 : Int32)) (by decide) d_method_4_13 rfl ?_
  refine Gl.caload Y0 V ⟨by decide, by decide⟩ (v := (.int x2)) rfl d_method_4_14 rfl ?_
  refine Gl.i2l Y0 rfl d_method_4_15 rfl ?_
  refine Gl.bipush Y0 (v := (32 : Int32)) (by decide) d_method_4_16 rfl ?_
  refine Gl.lshl Y0 rfl d_method_4_18 rfl ?_
  refine Gl.lor Y0 rfl d_method_4_19 rfl ?_
  refine Gl.aloadN Y0 rfl rfl d_method_4_20 rfl ?_
  refine Gl.iconst Y0 (v := (3 : Int32)) (by decide) d_method_4_21 rfl ?_
  refine Gl.caload Y0 V ⟨by decide, by decide⟩ (v := (.int x3)) rfl d_method_4_22 rfl ?_
  refine Gl.i2l Y0 rfl d_method_4_23 rfl ?_
  refine Gl.bipush Y0 (v := (48 : Int32)) (by decide) d_method_4_24 rfl ?_
  refine Gl.lshl Y0 rfl d_method_4_26 rfl ?_
  refine Gl.lor Y0 rfl d_method_4_27 rfl ?_
  exact Gl.retJ Y0 (by decide) (by decide)  d_method_4_28 ⟨(((x0.toInt64 ||| (x1.toInt64 <<< ((16 : Int32) &&& 0x3f).toInt64)) ||| (x2.toInt64 <<< ((32 : Int32) &&& 0x3f).toInt64)) ||| (x3.toInt64 <<< ((48 : Int32) &&& 0x3f).toInt64)), rfl, rfl, rfl⟩
theorem tw_0 {a0 : Array Value} {Z : State} (hw : ∀ d ∈ tables_1, d.before a0 Z = true) : (Jvm.Cond.arrayClass Jvm.ClassFile.FieldType.char).before a0 Z = true := hw _ (List.mem_of_getElem? (i := 0) rfl)
theorem tw_1 {a0 : Array Value} {Z : State} (hw : ∀ d ∈ tables_1, d.before a0 Z = true) : (Jvm.Cond.constant "com/example/ref_search/refsearch/matcher/CharsMarkPairPinLaw" (7 : Nat) (65535 : Int32)).before a0 Z = true := hw _ (List.mem_of_getElem? (i := 1) rfl)
theorem tw_2 {a0 : Array Value} {Z : State} (hw : ∀ d ∈ tables_1, d.before a0 Z = true) : (Jvm.Cond.arrayClass Jvm.ClassFile.FieldType.short).before a0 Z = true := hw _ (List.mem_of_getElem? (i := 2) rfl)
theorem tw_3 {a0 : Array Value} {Z : State} (hw : ∀ d ∈ tables_1, d.before a0 Z = true) : (Jvm.Cond.methodLink "com/example/ref_search/refsearch/matcher/CharsMarkPairPinLaw" (8 : Nat) ({ cls := "com/example/ref_search/refsearch/matcher/BulkSymbols$Chars", name := "markPair", desc := "([CII[CII[SI)V" } : Jvm.MethodName)).before a0 Z = true := hw _ (List.mem_of_getElem? (i := 3) rfl)
theorem pd_0 : parseMethodDescriptor "([CII[CII[SI)V" = some ⟨[(.array .char), .int, .int, (.array .char), .int, .int, (.array .short), .int], none⟩ := by decide +kernel
theorem tw_6 {a0 : Array Value} {Z : State} (hw : ∀ d ∈ tables_1, d.before a0 Z = true) : (Jvm.Cond.code ({ cls := "com/example/ref_search/refsearch/matcher/BulkSymbols$Chars", name := "markPair", desc := "([CII[CII[SI)V" } : Jvm.MethodName) prog_3_method_6_code (10 : Nat) (Option.none : Option Jvm.ClassFile.FieldType)).before a0 Z = true := hw _ (List.mem_of_getElem? (i := 6) rfl)
theorem tw_5 {a0 : Array Value} {Z : State} (hw : ∀ d ∈ tables_1, d.before a0 Z = true) : (Jvm.Cond.initialized "com/example/ref_search/refsearch/matcher/BulkSymbols$Chars").before a0 Z = true := hw _ (List.mem_of_getElem? (i := 5) rfl)
theorem tw_4 {a0 : Array Value} {Z : State} (hw : ∀ d ∈ tables_1, d.before a0 Z = true) : (Jvm.Cond.static ({ cls := "com/example/ref_search/refsearch/matcher/BulkSymbols$Chars", name := "markPair", desc := "([CII[CII[SI)V" } : Jvm.MethodName)).before a0 Z = true := hw _ (List.mem_of_getElem? (i := 4) rfl)
theorem tw_7 {a0 : Array Value} {Z : State} (hw : ∀ d ∈ tables_1, d.before a0 Z = true) : (Jvm.Cond.methodLink "com/example/ref_search/refsearch/matcher/CharsMarkPairPinLaw" (14 : Nat) ({ cls := "com/example/ref_search/refsearch/matcher/CharsMarkPairPinLaw", name := "place", desc := "([SIIS[CII[CII)Z" } : Jvm.MethodName)).before a0 Z = true := hw _ (List.mem_of_getElem? (i := 7) rfl)
theorem pd_1 : parseMethodDescriptor "([SIIS[CII[CII)Z" = some ⟨[(.array .short), .int, .int, .short, (.array .char), .int, .int, (.array .char), .int, .int], some .boolean⟩ := by decide +kernel
theorem tw_10 {a0 : Array Value} {Z : State} (hw : ∀ d ∈ tables_1, d.before a0 Z = true) : (Jvm.Cond.code ({ cls := "com/example/ref_search/refsearch/matcher/CharsMarkPairPinLaw", name := "place", desc := "([SIIS[CII[CII)Z" } : Jvm.MethodName) method_3_code (12 : Nat) (Option.some Jvm.ClassFile.FieldType.boolean)).before a0 Z = true := hw _ (List.mem_of_getElem? (i := 10) rfl)
theorem tw_9 {a0 : Array Value} {Z : State} (hw : ∀ d ∈ tables_1, d.before a0 Z = true) : (Jvm.Cond.initialized "com/example/ref_search/refsearch/matcher/CharsMarkPairPinLaw").before a0 Z = true := hw _ (List.mem_of_getElem? (i := 9) rfl)
theorem tw_8 {a0 : Array Value} {Z : State} (hw : ∀ d ∈ tables_1, d.before a0 Z = true) : (Jvm.Cond.static ({ cls := "com/example/ref_search/refsearch/matcher/CharsMarkPairPinLaw", name := "place", desc := "([SIIS[CII[CII)Z" } : Jvm.MethodName)).before a0 Z = true := hw _ (List.mem_of_getElem? (i := 8) rfl)
theorem tw_11 {a0 : Array Value} {Z : State} (hw : ∀ d ∈ tables_1, d.before a0 Z = true) : (Jvm.Cond.methodLink "com/example/ref_search/refsearch/matcher/CharsMarkPairPinLaw" (20 : Nat) ({ cls := "com/example/ref_search/refsearch/matcher/CharsMarkPairPinLaw", name := "packed", desc := "([C)J" } : Jvm.MethodName)).before a0 Z = true := hw _ (List.mem_of_getElem? (i := 11) rfl)
theorem pd_2 : parseMethodDescriptor "([C)J" = some ⟨[(.array .char)], some .long⟩ := by decide +kernel
theorem tw_13 {a0 : Array Value} {Z : State} (hw : ∀ d ∈ tables_1, d.before a0 Z = true) : (Jvm.Cond.code ({ cls := "com/example/ref_search/refsearch/matcher/CharsMarkPairPinLaw", name := "packed", desc := "([C)J" } : Jvm.MethodName) method_4_code (1 : Nat) (Option.some Jvm.ClassFile.FieldType.long)).before a0 Z = true := hw _ (List.mem_of_getElem? (i := 13) rfl)
theorem tw_12 {a0 : Array Value} {Z : State} (hw : ∀ d ∈ tables_1, d.before a0 Z = true) : (Jvm.Cond.static ({ cls := "com/example/ref_search/refsearch/matcher/CharsMarkPairPinLaw", name := "packed", desc := "([C)J" } : Jvm.MethodName)).before a0 Z = true := hw _ (List.mem_of_getElem? (i := 12) rfl)
def QL (Z : State) (la : Int64) (lb : Int64) (li : Int32) (si : Int32) (sh : Int32) (mm : Int32) (h0 : Heap) (v : Option Value) (h : Heap) : Prop := v = some (.int 1)
theorem efL (la : Int64) (lb : Int64) (li : Int32) (si : Int32) (sh : Int32) (mm : Int32) (m : MethodId) : entryFrame m #[(.long la), (.long lb), (.int li), (.int si), (.int sh), (.int mm)] maxLocals = mkF m 0 #[.val (.long la), .second, .val (.long lb), .second, .val (.int li), .val (.int si), .val (.int sh), .val (.int mm), .unset, .unset, .unset, .unset, .unset, .unset, .unset, .unset, .unset, .unset, .unset, .unset, .unset, .unset] [] := by first | (simp [entryFrame, mkF, argsToLocals, Value.category, maxLocals]; done) | rfl
set_option maxRecDepth 65536 in
set_option maxHeartbeats 40000000 in
theorem rmL (l : Launch) (Z : State) (a0 : Array Value) (hw : ∀ d ∈ tables_1, d.before a0 Z = true) (ws : List Jvm.Cond) (la : Int64) (lb : Int64) (li : Int32) (si : Int32) (sh : Int32) (mm : Int32) (h0 : Heap) (n0 : Nat) (Z0 : n0 ≤ h0.size) : OMet l Z ws x code maxLocals ret room_1 #[(.long la), (.long lb), (.int li), (.int si), (.int sh), (.int mm)] h0 n0 (QL Z la lb li si sh mm h0) := by
  refine OMet.of (plainFor_of_name pn_1) (efL la lb li si sh mm) Z0 ?_
  intro p e s m below meth c T0 Y0 hnm
  have Y0 : Sd Z "com/example/ref_search/refsearch/matcher/CharsMarkPairPinLaw" code maxLocals (some .boolean) n0 p l e room_1 s m #[(.long la), (.long lb), (.int li), (.int si), (.int sh), (.int mm)] below meth c T0 h0 0 0 := Y0
  have nla := rng64 la
  have nlb := rng64 lb
  have nli := rng32 li
  have nsi := rng32 si
  have nsh := rng32 sh
  have nmm := rng32 mm
  refine Gl.iconst Y0 (v := (4 : Int32)) (by decide) at_0 rfl ?_
  refine Gl.newP Y0 4 (ty := .char) rfl (tw_0 hw) (by decide) (by decide) (Nat.le_of_ble_eq_true rfl) (Nat.le_of_ble_eq_true rfl) (Nat.le_of_ble_eq_true rfl) at_1 rfl (fun T1 h1 b1 ck1 Y1 E1 g1 sb1 V1 => ?_)
  have V1 : Arv Z h1 b1 ck1 .char (4 : Int32) [(.int (0 : Int32)), (.int (0 : Int32)), (.int (0 : Int32)), (.int (0 : Int32))] (.int (0 : Int32)) := V1.pad (pad_rep [] (.int (0 : Int32)) 4)
  show Gl p e below _ (T1.setTop (mkF m 3 #[.val (.long la), .second, .val (.long lb), .second, .val (.int li), .val (.int si), .val (.int sh), .val (.int mm), .unset, .unset, .unset, .unset, .unset, .unset, .unset, .unset, .unset, .unset, .unset, .unset, .unset, .unset] [(.ref b1)]))
  refine Gl.dup Y1 rfl at_3 rfl ?_
  refine Gl.iconst Y1 (v := (0 : Int32)) (by decide) at_4 rfl ?_
  refine Gl.lloadN Y1 rfl at_5 rfl ?_
  obtain ⟨v6, hv6⟩ : ∃ z : Int32, la.toInt32 = z := ⟨_, rfl⟩
  refine Gl.l2i Y1 hv6 at_6 rfl ?_
  obtain ⟨v7, hv7⟩ : ∃ z : Int32, v6.toUInt32.toUInt16.toUInt32.toInt32 = z := ⟨_, rfl⟩
  refine Gl.i2c Y1 hv7 at_7 rfl ?_
  refine Gl.castore Y1 V1 (v := (.int v7)) (congrArg Value.int (own_narC hv7)) ⟨by decide, by decide⟩ (ix := 0) rfl (Nat.le_of_ble_eq_true rfl) sb1 at_8 rfl (fun T8 h8 Y8 W8 A8 => ?_)
  have A8 : Arv Z h8 b1 ck1 .char (4 : Int32) [(.int v7), (.int (0 : Int32)), (.int (0 : Int32)), (.int (0 : Int32))] (.int (0 : Int32)) := A8
  show Gl p e below _ (T8.setTop (mkF m 9 #[.val (.long la), .second, .val (.long lb), .second, .val (.int li), .val (.int si), .val (.int sh), .val (.int mm), .unset, .unset, .unset, .unset, .unset, .unset, .unset, .unset, .unset, .unset, .unset, .unset, .unset, .unset] [(.ref b1)]))
  refine Gl.dup Y8 rfl at_9 rfl ?_
  refine Gl.iconst Y8 (v := (1 : Int32)) (by decide) at_10 rfl ?_
  refine Gl.lloadN Y8 rfl at_11 rfl ?_
  refine Gl.bipush Y8 (v := (16 : Int32)) (by decide) at_12 rfl ?_
  obtain ⟨v14, hv14⟩ : ∃ z : Int64, (la.toUInt64 >>> ((16 : Int32) &&& 0x3f).toInt64.toUInt64).toInt64 = z := ⟨_, rfl⟩
  refine Gl.lushr Y8 hv14 at_14 rfl ?_
  obtain ⟨v15, hv15⟩ : ∃ z : Int32, v14.toInt32 = z := ⟨_, rfl⟩
  refine Gl.l2i Y8 hv15 at_15 rfl ?_
  obtain ⟨v16, hv16⟩ : ∃ z : Int32, v15.toUInt32.toUInt16.toUInt32.toInt32 = z := ⟨_, rfl⟩
  refine Gl.i2c Y8 hv16 at_16 rfl ?_
  refine Gl.castore Y8 A8 (v := (.int v16)) (congrArg Value.int (own_narC hv16)) ⟨by decide, by decide⟩ (ix := 1) rfl (Nat.le_of_ble_eq_true rfl) sb1 at_17 rfl (fun T17 h17 Y17 W17 A17 => ?_)
  have A17 : Arv Z h17 b1 ck1 .char (4 : Int32) [(.int v7), (.int v16), (.int (0 : Int32)), (.int (0 : Int32))] (.int (0 : Int32)) := A17
  show Gl p e below _ (T17.setTop (mkF m 18 #[.val (.long la), .second, .val (.long lb), .second, .val (.int li), .val (.int si), .val (.int sh), .val (.int mm), .unset, .unset, .unset, .unset, .unset, .unset, .unset, .unset, .unset, .unset, .unset, .unset, .unset, .unset] [(.ref b1)]))
  refine Gl.dup Y17 rfl at_18 rfl ?_
  refine Gl.iconst Y17 (v := (2 : Int32)) (by decide) at_19 rfl ?_
  refine Gl.lloadN Y17 rfl at_20 rfl ?_
  refine Gl.bipush Y17 (v := (32 : Int32)) (by decide) at_21 rfl ?_
  obtain ⟨v23, hv23⟩ : ∃ z : Int64, (la.toUInt64 >>> ((32 : Int32) &&& 0x3f).toInt64.toUInt64).toInt64 = z := ⟨_, rfl⟩
  refine Gl.lushr Y17 hv23 at_23 rfl ?_
  obtain ⟨v24, hv24⟩ : ∃ z : Int32, v23.toInt32 = z := ⟨_, rfl⟩
  refine Gl.l2i Y17 hv24 at_24 rfl ?_
  obtain ⟨v25, hv25⟩ : ∃ z : Int32, v24.toUInt32.toUInt16.toUInt32.toInt32 = z := ⟨_, rfl⟩
  refine Gl.i2c Y17 hv25 at_25 rfl ?_
  refine Gl.castore Y17 A17 (v := (.int v25)) (congrArg Value.int (own_narC hv25)) ⟨by decide, by decide⟩ (ix := 2) rfl (Nat.le_of_ble_eq_true rfl) sb1 at_26 rfl (fun T26 h26 Y26 W26 A26 => ?_)
  have A26 : Arv Z h26 b1 ck1 .char (4 : Int32) [(.int v7), (.int v16), (.int v25), (.int (0 : Int32))] (.int (0 : Int32)) := A26
  show Gl p e below _ (T26.setTop (mkF m 27 #[.val (.long la), .second, .val (.long lb), .second, .val (.int li), .val (.int si), .val (.int sh), .val (.int mm), .unset, .unset, .unset, .unset, .unset, .unset, .unset, .unset, .unset, .unset, .unset, .unset, .unset, .unset] [(.ref b1)]))
  refine Gl.dup Y26 rfl at_27 rfl ?_
  refine Gl.iconst Y26 (v := (3 : Int32)) (by decide) at_28 rfl ?_
  refine Gl.lloadN Y26 rfl at_29 rfl ?_
  refine Gl.bipush Y26 (v := (48 : Int32)) (by decide) at_30 rfl ?_
  obtain ⟨v32, hv32⟩ : ∃ z : Int64, (la.toUInt64 >>> ((48 : Int32) &&& 0x3f).toInt64.toUInt64).toInt64 = z := ⟨_, rfl⟩
  refine Gl.lushr Y26 hv32 at_32 rfl ?_
  obtain ⟨v33, hv33⟩ : ∃ z : Int32, v32.toInt32 = z := ⟨_, rfl⟩
  refine Gl.l2i Y26 hv33 at_33 rfl ?_
  obtain ⟨v34, hv34⟩ : ∃ z : Int32, v33.toUInt32.toUInt16.toUInt32.toInt32 = z := ⟨_, rfl⟩
  refine Gl.i2c Y26 hv34 at_34 rfl ?_
  refine Gl.castore Y26 A26 (v := (.int v34)) (congrArg Value.int (own_narC hv34)) ⟨by decide, by decide⟩ (ix := 3) rfl (Nat.le_of_ble_eq_true rfl) sb1 at_35 rfl (fun T35 h35 Y35 W35 A35 => ?_)
  have A35 : Arv Z h35 b1 ck1 .char (4 : Int32) [(.int v7), (.int v16), (.int v25), (.int v34)] (.int (0 : Int32)) := A35
  show Gl p e below _ (T35.setTop (mkF m 36 #[.val (.long la), .second, .val (.long lb), .second, .val (.int li), .val (.int si), .val (.int sh), .val (.int mm), .unset, .unset, .unset, .unset, .unset, .unset, .unset, .unset, .unset, .unset, .unset, .unset, .unset, .unset] [(.ref b1)]))
  refine Gl.astore Y35 rfl (L' := #[.val (.long la), .second, .val (.long lb), .second, .val (.int li), .val (.int si), .val (.int sh), .val (.int mm), .val (.ref b1), .unset, .unset, .unset, .unset, .unset, .unset, .unset, .unset, .unset, .unset, .unset, .unset, .unset]) rfl at_36 rfl ?_
  refine Gl.iconst Y35 (v := (4 : Int32)) (by decide) at_38 rfl ?_
  refine Gl.newP Y35 4 (ty := .char) rfl (tw_0 hw) (by decide) (by decide) (Nat.le_of_ble_eq_true rfl) (Nat.le_of_ble_eq_true rfl) (Nat.le_of_ble_eq_true rfl) at_39 rfl (fun T39 h39 b39 ck39 Y39 E39 g39 sb39 V39 => ?_)
  have V39 : Arv Z h39 b39 ck39 .char (4 : Int32) [(.int (0 : Int32)), (.int (0 : Int32)), (.int (0 : Int32)), (.int (0 : Int32))] (.int (0 : Int32)) := V39.pad (pad_rep [] (.int (0 : Int32)) 4)
  show Gl p e below _ (T39.setTop (mkF m 41 #[.val (.long la), .second, .val (.long lb), .second, .val (.int li), .val (.int si), .val (.int sh), .val (.int mm), .val (.ref b1), .unset, .unset, .unset, .unset, .unset, .unset, .unset, .unset, .unset, .unset, .unset, .unset, .unset] [(.ref b39)]))
  refine Gl.dup Y39 rfl at_41 rfl ?_
  refine Gl.iconst Y39 (v := (0 : Int32)) (by decide) at_42 rfl ?_
  refine Gl.lloadN Y39 rfl at_43 rfl ?_
  obtain ⟨v44, hv44⟩ : ∃ z : Int32, lb.toInt32 = z := ⟨_, rfl⟩
  refine Gl.l2i Y39 hv44 at_44 rfl ?_
  obtain ⟨v45, hv45⟩ : ∃ z : Int32, v44.toUInt32.toUInt16.toUInt32.toInt32 = z := ⟨_, rfl⟩
  refine Gl.i2c Y39 hv45 at_45 rfl ?_
  refine Gl.castore Y39 V39 (v := (.int v45)) (congrArg Value.int (own_narC hv45)) ⟨by decide, by decide⟩ (ix := 0) rfl (Nat.le_of_ble_eq_true rfl) sb39 at_46 rfl (fun T46 h46 Y46 W46 A46 => ?_)
  have A46 : Arv Z h46 b39 ck39 .char (4 : Int32) [(.int v45), (.int (0 : Int32)), (.int (0 : Int32)), (.int (0 : Int32))] (.int (0 : Int32)) := A46
  show Gl p e below _ (T46.setTop (mkF m 47 #[.val (.long la), .second, .val (.long lb), .second, .val (.int li), .val (.int si), .val (.int sh), .val (.int mm), .val (.ref b1), .unset, .unset, .unset, .unset, .unset, .unset, .unset, .unset, .unset, .unset, .unset, .unset, .unset] [(.ref b39)]))
  refine Gl.dup Y46 rfl at_47 rfl ?_
  refine Gl.iconst Y46 (v := (1 : Int32)) (by decide) at_48 rfl ?_
  refine Gl.lloadN Y46 rfl at_49 rfl ?_
  refine Gl.bipush Y46 (v := (16 : Int32)) (by decide) at_50 rfl ?_
  obtain ⟨v52, hv52⟩ : ∃ z : Int64, (lb.toUInt64 >>> ((16 : Int32) &&& 0x3f).toInt64.toUInt64).toInt64 = z := ⟨_, rfl⟩
  refine Gl.lushr Y46 hv52 at_52 rfl ?_
  obtain ⟨v53, hv53⟩ : ∃ z : Int32, v52.toInt32 = z := ⟨_, rfl⟩
  refine Gl.l2i Y46 hv53 at_53 rfl ?_
  obtain ⟨v54, hv54⟩ : ∃ z : Int32, v53.toUInt32.toUInt16.toUInt32.toInt32 = z := ⟨_, rfl⟩
  refine Gl.i2c Y46 hv54 at_54 rfl ?_
  refine Gl.castore Y46 A46 (v := (.int v54)) (congrArg Value.int (own_narC hv54)) ⟨by decide, by decide⟩ (ix := 1) rfl (Nat.le_of_ble_eq_true rfl) sb39 at_55 rfl (fun T55 h55 Y55 W55 A55 => ?_)
  have A55 : Arv Z h55 b39 ck39 .char (4 : Int32) [(.int v45), (.int v54), (.int (0 : Int32)), (.int (0 : Int32))] (.int (0 : Int32)) := A55
  show Gl p e below _ (T55.setTop (mkF m 56 #[.val (.long la), .second, .val (.long lb), .second, .val (.int li), .val (.int si), .val (.int sh), .val (.int mm), .val (.ref b1), .unset, .unset, .unset, .unset, .unset, .unset, .unset, .unset, .unset, .unset, .unset, .unset, .unset] [(.ref b39)]))
  refine Gl.dup Y55 rfl at_56 rfl ?_
  refine Gl.iconst Y55 (v := (2 : Int32)) (by decide) at_57 rfl ?_
  refine Gl.lloadN Y55 rfl at_58 rfl ?_
  refine Gl.bipush Y55 (v := (32 : Int32)) (by decide) at_59 rfl ?_
  obtain ⟨v61, hv61⟩ : ∃ z : Int64, (lb.toUInt64 >>> ((32 : Int32) &&& 0x3f).toInt64.toUInt64).toInt64 = z := ⟨_, rfl⟩
  refine Gl.lushr Y55 hv61 at_61 rfl ?_
  obtain ⟨v62, hv62⟩ : ∃ z : Int32, v61.toInt32 = z := ⟨_, rfl⟩
  refine Gl.l2i Y55 hv62 at_62 rfl ?_
  obtain ⟨v63, hv63⟩ : ∃ z : Int32, v62.toUInt32.toUInt16.toUInt32.toInt32 = z := ⟨_, rfl⟩
  refine Gl.i2c Y55 hv63 at_63 rfl ?_
  refine Gl.castore Y55 A55 (v := (.int v63)) (congrArg Value.int (own_narC hv63)) ⟨by decide, by decide⟩ (ix := 2) rfl (Nat.le_of_ble_eq_true rfl) sb39 at_64 rfl (fun T64 h64 Y64 W64 A64 => ?_)
  have A64 : Arv Z h64 b39 ck39 .char (4 : Int32) [(.int v45), (.int v54), (.int v63), (.int (0 : Int32))] (.int (0 : Int32)) := A64
  show Gl p e below _ (T64.setTop (mkF m 65 #[.val (.long la), .second, .val (.long lb), .second, .val (.int li), .val (.int si), .val (.int sh), .val (.int mm), .val (.ref b1), .unset, .unset, .unset, .unset, .unset, .unset, .unset, .unset, .unset, .unset, .unset, .unset, .unset] [(.ref b39)]))
  refine Gl.dup Y64 rfl at_65 rfl ?_
  refine Gl.iconst Y64 (v := (3 : Int32)) (by decide) at_66 rfl ?_
  refine Gl.lloadN Y64 rfl at_67 rfl ?_
  refine Gl.bipush Y64 (v := (48 : Int32)) (by decide) at_68 rfl ?_
  obtain ⟨v70, hv70⟩ : ∃ z : Int64, (lb.toUInt64 >>> ((48 : Int32) &&& 0x3f).toInt64.toUInt64).toInt64 = z := ⟨_, rfl⟩
  refine Gl.lushr Y64 hv70 at_70 rfl ?_
  obtain ⟨v71, hv71⟩ : ∃ z : Int32, v70.toInt32 = z := ⟨_, rfl⟩
  refine Gl.l2i Y64 hv71 at_71 rfl ?_
  obtain ⟨v72, hv72⟩ : ∃ z : Int32, v71.toUInt32.toUInt16.toUInt32.toInt32 = z := ⟨_, rfl⟩
  refine Gl.i2c Y64 hv72 at_72 rfl ?_
  refine Gl.castore Y64 A64 (v := (.int v72)) (congrArg Value.int (own_narC hv72)) ⟨by decide, by decide⟩ (ix := 3) rfl (Nat.le_of_ble_eq_true rfl) sb39 at_73 rfl (fun T73 h73 Y73 W73 A73 => ?_)
  have A73 : Arv Z h73 b39 ck39 .char (4 : Int32) [(.int v45), (.int v54), (.int v63), (.int v72)] (.int (0 : Int32)) := A73
  show Gl p e below _ (T73.setTop (mkF m 74 #[.val (.long la), .second, .val (.long lb), .second, .val (.int li), .val (.int si), .val (.int sh), .val (.int mm), .val (.ref b1), .unset, .unset, .unset, .unset, .unset, .unset, .unset, .unset, .unset, .unset, .unset, .unset, .unset] [(.ref b39)]))
  refine Gl.astore Y73 rfl (L' := #[.val (.long la), .second, .val (.long lb), .second, .val (.int li), .val (.int si), .val (.int sh), .val (.int mm), .val (.ref b1), .val (.ref b39), .unset, .unset, .unset, .unset, .unset, .unset, .unset, .unset, .unset, .unset, .unset, .unset]) rfl at_74 rfl ?_
  refine Gl.iload Y73 rfl at_76 rfl ?_
  refine Gl.bipush Y73 (v := (16 : Int32)) (by decide) at_78 rfl ?_
  obtain ⟨v80, hv80⟩ : ∃ z : Int32, sh &&& (16 : Int32) = z := ⟨_, rfl⟩
  refine Gl.iand Y73 hv80 at_80 rfl ?_
  obtain ⟨z81, hz81⟩ : ∃ z : Int32, (if v80 = (0 : Int32) then (0 : Int32) else (1 : Int32)) = z := ⟨_, rfl⟩
  have iz81 : (v80.toInt = 0 ∧ (z81.toInt = 0)) ∨ (¬ (v80.toInt = 0) ∧ (z81.toInt = 1)) := own_ite (c := v80 = (0 : Int32)) (fun q0 => ⟨congrArg Int32.toInt q0, congrArg Int32.toInt (show z81 = (0 : Int32) from by rw [← hz81]; simp only [q0, ↓reduceIte, if_true, if_false, ite_self])⟩) (fun q0 => ⟨fun q => q0 (Int32.toInt_inj.mp q), congrArg Int32.toInt (show z81 = (1 : Int32) from by rw [← hz81]; simp only [q0, ↓reduceIte, if_true, if_false, ite_self])⟩)
  have bz81 : z81 = 0 ∨ z81 = 1 := by rw [← hz81]; (repeat' split) <;> first | (simp; done) | assumption
  refine own_cut (B := ∀ T', Sd Z "com/example/ref_search/refsearch/matcher/CharsMarkPairPinLaw" code maxLocals (some .boolean) n0 p l e room_1 s m #[(.long la), (.long lb), (.int li), (.int si), (.int sh), (.int mm)] below meth c T' h73 2 8 → Gl p e below (Pst s n0 room_1.cells room_1.slots (QL Z la lb li si sh mm h0)) (T'.setTop (mkF m 89 #[.val (.long la), .second, .val (.long lb), .second, .val (.int li), .val (.int si), .val (.int sh), .val (.int mm), .val (.ref b1), .val (.ref b39), .unset, .unset, .unset, .unset, .unset, .unset, .unset, .unset, .unset, .unset, .unset, .unset] [(.int z81)]))) (fun jk => ?_) (fun T81j Y81j => ?_)
  · refine Gl.ifeq Y73 at_81 (by decide) rfl rfl (fun c81 => ?_) (fun c81 => ?_)
    · have j81 : v80.toInt = 0 := congrArg Int32.toInt c81
      refine Gl.iconst Y73 (v := (0 : Int32)) (by decide) at_88 rfl ?_
      have ez81 : z81 = (0 : Int32) := by rw [← hz81]; simp only [c81, ↓reduceIte, if_true, if_false]
      rw [ez81] at jk
      exact jk T73 Y73
    · have j81 : ¬ (v80.toInt = 0) := fun q => c81 (Int32.toInt_inj.mp q)
      refine Gl.iconst Y73 (v := (1 : Int32)) (by decide) at_84 rfl ?_
      refine Gl.goto Y73 at_85 (by decide) rfl ?_
      have ez81 : z81 = (1 : Int32) := by rw [← hz81]; simp only [c81, ↓reduceIte, if_true, if_false]
      rw [ez81] at jk
      exact jk T73 Y73
  refine Gl.istore Y81j (L' := #[.val (.long la), .second, .val (.long lb), .second, .val (.int li), .val (.int si), .val (.int sh), .val (.int mm), .val (.ref b1), .val (.ref b39), .val (.int z81), .unset, .unset, .unset, .unset, .unset, .unset, .unset, .unset, .unset, .unset, .unset]) rfl at_89 rfl ?_
  refine Gl.iload Y81j rfl at_91 rfl ?_
  refine Gl.ifeq Y81j at_93 (by decide) rfl rfl (fun c93 => ?_) (fun c93 => ?_)
  · have j93 : z81.toInt = 0 := congrArg Int32.toInt c93
    refine Gl.aload Y81j rfl rfl at_101 rfl ?_
    refine Gl.astore Y81j rfl (L' := #[.val (.long la), .second, .val (.long lb), .second, .val (.int li), .val (.int si), .val (.int sh), .val (.int mm), .val (.ref b1), .val (.ref b39), .val (.int z81), .val (.ref b39), .unset, .unset, .unset, .unset, .unset, .unset, .unset, .unset, .unset, .unset]) rfl at_103 rfl ?_
    refine Gl.iload Y81j rfl at_105 rfl ?_
    refine Gl.iconst Y81j (v := (3 : Int32)) (by decide) at_107 rfl ?_
    obtain ⟨v108, hv108⟩ : ∃ z : Int32, sh &&& (3 : Int32) = z := ⟨_, rfl⟩
    refine Gl.iand Y81j hv108 at_108 rfl ?_
    refine Gl.istore Y81j (L' := #[.val (.long la), .second, .val (.long lb), .second, .val (.int li), .val (.int si), .val (.int sh), .val (.int mm), .val (.ref b1), .val (.ref b39), .val (.int z81), .val (.ref b39), .val (.int v108), .unset, .unset, .unset, .unset, .unset, .unset, .unset, .unset, .unset]) rfl at_109 rfl ?_
    refine Gl.iload Y81j rfl at_111 rfl ?_
    refine Gl.iconst Y81j (v := (2 : Int32)) (by decide) at_113 rfl ?_
    obtain ⟨v114, hv114⟩ : ∃ z : Int32, (sh.toUInt32 >>> ((2 : Int32) &&& 31).toUInt32).toInt32 = z := ⟨_, rfl⟩
    refine Gl.iushr Y81j hv114 at_114 rfl ?_
    refine Gl.iconst Y81j (v := (1 : Int32)) (by decide) at_115 rfl ?_
    obtain ⟨v116, hv116⟩ : ∃ z : Int32, v114 &&& (1 : Int32) = z := ⟨_, rfl⟩
    refine Gl.iand Y81j hv116 at_116 rfl ?_
    refine Gl.istore Y81j (L' := #[.val (.long la), .second, .val (.long lb), .second, .val (.int li), .val (.int si), .val (.int sh), .val (.int mm), .val (.ref b1), .val (.ref b39), .val (.int z81), .val (.ref b39), .val (.int v108), .val (.int v116), .unset, .unset, .unset, .unset, .unset, .unset, .unset, .unset]) rfl at_117 rfl ?_
    refine Gl.iload Y81j rfl at_119 rfl ?_
    refine Gl.iconst Y81j (v := (3 : Int32)) (by decide) at_121 rfl ?_
    obtain ⟨v122, hv122⟩ : ∃ z : Int32, (sh.toUInt32 >>> ((3 : Int32) &&& 31).toUInt32).toInt32 = z := ⟨_, rfl⟩
    refine Gl.iushr Y81j hv122 at_122 rfl ?_
    refine Gl.iconst Y81j (v := (1 : Int32)) (by decide) at_123 rfl ?_
    obtain ⟨v124, hv124⟩ : ∃ z : Int32, v122 &&& (1 : Int32) = z := ⟨_, rfl⟩
    refine Gl.iand Y81j hv124 at_124 rfl ?_
    refine Gl.istore Y81j (L' := #[.val (.long la), .second, .val (.long lb), .second, .val (.int li), .val (.int si), .val (.int sh), .val (.int mm), .val (.ref b1), .val (.ref b39), .val (.int z81), .val (.ref b39), .val (.int v108), .val (.int v116), .val (.int v124), .unset, .unset, .unset, .unset, .unset, .unset, .unset]) rfl at_125 rfl ?_
    refine Gl.iload Y81j rfl at_127 rfl ?_
    refine Gl.bipush Y81j (v := (32 : Int32)) (by decide) at_129 rfl ?_
    obtain ⟨v131, hv131⟩ : ∃ z : Int32, sh &&& (32 : Int32) = z := ⟨_, rfl⟩
    refine Gl.iand Y81j hv131 at_131 rfl ?_
    obtain ⟨v152, hv152⟩ : ∃ z : Int32, li &&& (65535 : Int32) = z := ⟨_, rfl⟩
    obtain ⟨v141, hv141⟩ : ∃ z : Int32, (sh.toUInt32 >>> ((6 : Int32) &&& 31).toUInt32).toInt32 = z := ⟨_, rfl⟩
    obtain ⟨v143, hv143⟩ : ∃ z : Int32, v141 &&& (3 : Int32) = z := ⟨_, rfl⟩
    obtain ⟨ulead, hv_ulead, r_ulead⟩ := own_get4 v7 v16 v25 v34 v143 (own_c16 hv7) (own_c16 hv16) (own_c16 hv25) (own_c16 hv34) (own_in4 v143 (own_a3 hv143))
    obtain ⟨z132, hz132⟩ : ∃ z : Int32, (if v131 = (0 : Int32) then v152 else ulead) = z := ⟨_, rfl⟩
    have iz132 : (v131.toInt = 0 ∧ (z132.toInt = v152.toInt)) ∨ (¬ (v131.toInt = 0) ∧ (z132.toInt = ulead.toInt)) := own_ite (c := v131 = (0 : Int32)) (fun q1 => ⟨congrArg Int32.toInt q1, congrArg Int32.toInt (show z132 = v152 from by rw [← hz132]; simp only [q1, ↓reduceIte, if_true, if_false, ite_self])⟩) (fun q1 => ⟨fun q => q1 (Int32.toInt_inj.mp q), congrArg Int32.toInt (show z132 = ulead from by rw [← hz132]; simp only [q1, ↓reduceIte, if_true, if_false, ite_self])⟩)
    refine own_cut (B := ∀ T', Sd Z "com/example/ref_search/refsearch/matcher/CharsMarkPairPinLaw" code maxLocals (some .boolean) n0 p l e room_1 s m #[(.long la), (.long lb), (.int li), (.int si), (.int sh), (.int mm)] below meth c T' h73 2 8 → Gl p e below (Pst s n0 room_1.cells room_1.slots (QL Z la lb li si sh mm h0)) (T'.setTop (mkF m 153 #[.val (.long la), .second, .val (.long lb), .second, .val (.int li), .val (.int si), .val (.int sh), .val (.int mm), .val (.ref b1), .val (.ref b39), .val (.int z81), .val (.ref b39), .val (.int v108), .val (.int v116), .val (.int v124), .unset, .unset, .unset, .unset, .unset, .unset, .unset] [(.int z132)]))) (fun jk => ?_) (fun T132j Y132j => ?_)
    · refine Gl.ifeq Y81j at_132 (by decide) rfl rfl (fun c132 => ?_) (fun c132 => ?_)
      · have j132 : v131.toInt = 0 := congrArg Int32.toInt c132
        refine Gl.iload Y81j rfl at_148 rfl ?_
        refine Gl.ldcI Y81j (tw_1 hw) at_150 rfl ?_
        refine Gl.iand Y81j hv152 at_152 rfl ?_
        have ez132 : z132 = v152 := by rw [← hz132]; simp only [c132, ↓reduceIte, if_true, if_false]
        rw [ez132] at jk
        exact jk T81j Y81j
      · have j132 : ¬ (v131.toInt = 0) := fun q => c132 (Int32.toInt_inj.mp q)
        refine Gl.aload Y81j rfl rfl at_135 rfl ?_
        refine Gl.iload Y81j rfl at_137 rfl ?_
        refine Gl.bipush Y81j (v := (6 : Int32)) (by decide) at_139 rfl ?_
        refine Gl.iushr Y81j hv141 at_141 rfl ?_
        refine Gl.iconst Y81j (v := (3 : Int32)) (by decide) at_142 rfl ?_
        refine Gl.iand Y81j hv143 at_143 rfl ?_
        have f1 : Arv Z h73 b1 ck1 .char (4 : Int32) [(.int v7), (.int v16), (.int v25), (.int v34)] (.int (0 : Int32)) := (((((A35.ext E39).other W46 (Nat.ne_of_lt (Nat.lt_of_lt_of_eq A35.lt g39.symm))).other W55 (Nat.ne_of_lt (Nat.lt_of_lt_of_eq A35.lt g39.symm))).other W64 (Nat.ne_of_lt (Nat.lt_of_lt_of_eq A35.lt g39.symm))).other W73 (Nat.ne_of_lt (Nat.lt_of_lt_of_eq A35.lt g39.symm)))
        refine Gl.caload Y81j f1 (own_in4 v143 (own_a3 hv143)) (v := (.int ulead)) hv_ulead at_144 rfl ?_
        refine Gl.goto Y81j at_145 (by decide) rfl ?_
        have ez132 : z132 = ulead := by rw [← hz132]; simp only [c132, ↓reduceIte, if_true, if_false]
        rw [ez132] at jk
        exact jk T81j Y81j
    refine Gl.istore Y132j (L' := #[.val (.long la), .second, .val (.long lb), .second, .val (.int li), .val (.int si), .val (.int sh), .val (.int mm), .val (.ref b1), .val (.ref b39), .val (.int z81), .val (.ref b39), .val (.int v108), .val (.int v116), .val (.int v124), .val (.int z132), .unset, .unset, .unset, .unset, .unset, .unset]) rfl at_153 rfl ?_
    refine Gl.iload Y132j rfl at_155 rfl ?_
    refine Gl.sipush Y132j (v := (256 : Int32)) (by decide) at_157 rfl ?_
    obtain ⟨v160, hv160⟩ : ∃ z : Int32, sh &&& (256 : Int32) = z := ⟨_, rfl⟩
    refine Gl.iand Y132j hv160 at_160 rfl ?_
    obtain ⟨v181, hv181⟩ : ∃ z : Int32, si &&& (65535 : Int32) = z := ⟨_, rfl⟩
    obtain ⟨v170, hv170⟩ : ∃ z : Int32, (sh.toUInt32 >>> ((9 : Int32) &&& 31).toUInt32).toInt32 = z := ⟨_, rfl⟩
    obtain ⟨v172, hv172⟩ : ∃ z : Int32, v170 &&& (3 : Int32) = z := ⟨_, rfl⟩
    obtain ⟨usec, hv_usec, r_usec⟩ := own_get4 v45 v54 v63 v72 v172 (own_c16 hv45) (own_c16 hv54) (own_c16 hv63) (own_c16 hv72) (own_in4 v172 (own_a3 hv172))
    obtain ⟨z161, hz161⟩ : ∃ z : Int32, (if v160 = (0 : Int32) then v181 else usec) = z := ⟨_, rfl⟩
    have iz161 : (v160.toInt = 0 ∧ (z161.toInt = v181.toInt)) ∨ (¬ (v160.toInt = 0) ∧ (z161.toInt = usec.toInt)) := own_ite (c := v160 = (0 : Int32)) (fun q1 => ⟨congrArg Int32.toInt q1, congrArg Int32.toInt (show z161 = v181 from by rw [← hz161]; simp only [q1, ↓reduceIte, if_true, if_false, ite_self])⟩) (fun q1 => ⟨fun q => q1 (Int32.toInt_inj.mp q), congrArg Int32.toInt (show z161 = usec from by rw [← hz161]; simp only [q1, ↓reduceIte, if_true, if_false, ite_self])⟩)
    refine own_cut (B := ∀ T', Sd Z "com/example/ref_search/refsearch/matcher/CharsMarkPairPinLaw" code maxLocals (some .boolean) n0 p l e room_1 s m #[(.long la), (.long lb), (.int li), (.int si), (.int sh), (.int mm)] below meth c T' h73 2 8 → Gl p e below (Pst s n0 room_1.cells room_1.slots (QL Z la lb li si sh mm h0)) (T'.setTop (mkF m 182 #[.val (.long la), .second, .val (.long lb), .second, .val (.int li), .val (.int si), .val (.int sh), .val (.int mm), .val (.ref b1), .val (.ref b39), .val (.int z81), .val (.ref b39), .val (.int v108), .val (.int v116), .val (.int v124), .val (.int z132), .unset, .unset, .unset, .unset, .unset, .unset] [(.int z161)]))) (fun jk => ?_) (fun T161j Y161j => ?_)
    · refine Gl.ifeq Y132j at_161 (by decide) rfl rfl (fun c161 => ?_) (fun c161 => ?_)
      · have j161 : v160.toInt = 0 := congrArg Int32.toInt c161
        refine Gl.iload Y132j rfl at_177 rfl ?_
        refine Gl.ldcI Y132j (tw_1 hw) at_179 rfl ?_
        refine Gl.iand Y132j hv181 at_181 rfl ?_
        have ez161 : z161 = v181 := by rw [← hz161]; simp only [c161, ↓reduceIte, if_true, if_false]
        rw [ez161] at jk
        exact jk T132j Y132j
      · have j161 : ¬ (v160.toInt = 0) := fun q => c161 (Int32.toInt_inj.mp q)
        refine Gl.aload Y132j rfl rfl at_164 rfl ?_
        refine Gl.iload Y132j rfl at_166 rfl ?_
        refine Gl.bipush Y132j (v := (9 : Int32)) (by decide) at_168 rfl ?_
        refine Gl.iushr Y132j hv170 at_170 rfl ?_
        refine Gl.iconst Y132j (v := (3 : Int32)) (by decide) at_171 rfl ?_
        refine Gl.iand Y132j hv172 at_172 rfl ?_
        refine Gl.caload Y132j A73 (own_in4 v172 (own_a3 hv172)) (v := (.int usec)) hv_usec at_173 rfl ?_
        refine Gl.goto Y132j at_174 (by decide) rfl ?_
        have ez161 : z161 = usec := by rw [← hz161]; simp only [c161, ↓reduceIte, if_true, if_false]
        rw [ez161] at jk
        exact jk T132j Y132j
    refine Gl.istore Y161j (L' := #[.val (.long la), .second, .val (.long lb), .second, .val (.int li), .val (.int si), .val (.int sh), .val (.int mm), .val (.ref b1), .val (.ref b39), .val (.int z81), .val (.ref b39), .val (.int v108), .val (.int v116), .val (.int v124), .val (.int z132), .val (.int z161), .unset, .unset, .unset, .unset, .unset]) rfl at_182 rfl ?_
    refine Gl.iload Y161j rfl at_184 rfl ?_
    obtain ⟨v186, hv186⟩ : ∃ z : Int32, mm.toInt16.toInt32 = z := ⟨_, rfl⟩
    refine Gl.i2s Y161j hv186 at_186 rfl ?_
    refine Gl.istore Y161j (L' := #[.val (.long la), .second, .val (.long lb), .second, .val (.int li), .val (.int si), .val (.int sh), .val (.int mm), .val (.ref b1), .val (.ref b39), .val (.int z81), .val (.ref b39), .val (.int v108), .val (.int v116), .val (.int v124), .val (.int z132), .val (.int z161), .val (.int v186), .unset, .unset, .unset, .unset]) rfl at_187 rfl ?_
    refine Gl.iload Y161j rfl at_189 rfl ?_
    refine Gl.bipush Y161j (v := (16 : Int32)) (by decide) at_191 rfl ?_
    obtain ⟨v193, hv193⟩ : ∃ z : Int32, (mm.toUInt32 >>> ((16 : Int32) &&& 31).toUInt32).toInt32 = z := ⟨_, rfl⟩
    refine Gl.iushr Y161j hv193 at_193 rfl ?_
    obtain ⟨v194, hv194⟩ : ∃ z : Int32, v193.toInt16.toInt32 = z := ⟨_, rfl⟩
    refine Gl.i2s Y161j hv194 at_194 rfl ?_
    refine Gl.istore Y161j (L' := #[.val (.long la), .second, .val (.long lb), .second, .val (.int li), .val (.int si), .val (.int sh), .val (.int mm), .val (.ref b1), .val (.ref b39), .val (.int z81), .val (.ref b39), .val (.int v108), .val (.int v116), .val (.int v124), .val (.int z132), .val (.int z161), .val (.int v186), .val (.int v194), .unset, .unset, .unset]) rfl at_195 rfl ?_
    refine Gl.iload Y161j rfl at_197 rfl ?_
    refine Gl.iconst Y161j (v := (-1 : Int32)) (by decide) at_199 rfl ?_
    obtain ⟨v200, hv200⟩ : ∃ z : Int32, mm ^^^ (-1 : Int32) = z := ⟨_, rfl⟩
    refine Gl.ixor Y161j hv200 at_200 rfl ?_
    obtain ⟨v201, hv201⟩ : ∃ z : Int32, v200.toInt16.toInt32 = z := ⟨_, rfl⟩
    refine Gl.i2s Y161j hv201 at_201 rfl ?_
    refine Gl.istore Y161j (L' := #[.val (.long la), .second, .val (.long lb), .second, .val (.int li), .val (.int si), .val (.int sh), .val (.int mm), .val (.ref b1), .val (.ref b39), .val (.int z81), .val (.ref b39), .val (.int v108), .val (.int v116), .val (.int v124), .val (.int z132), .val (.int z161), .val (.int v186), .val (.int v194), .val (.int v201), .unset, .unset]) rfl at_202 rfl ?_
    refine Gl.iload Y161j rfl at_204 rfl ?_
    refine Gl.bipush Y161j (v := (8 : Int32)) (by decide) at_206 rfl ?_
    obtain ⟨v208, hv208⟩ : ∃ z : Int32, (mm.toUInt32 >>> ((8 : Int32) &&& 31).toUInt32).toInt32 = z := ⟨_, rfl⟩
    refine Gl.iushr Y161j hv208 at_208 rfl ?_
    obtain ⟨v209, hv209⟩ : ∃ z : Int32, v208.toInt16.toInt32 = z := ⟨_, rfl⟩
    refine Gl.i2s Y161j hv209 at_209 rfl ?_
    refine Gl.istore Y161j (L' := #[.val (.long la), .second, .val (.long lb), .second, .val (.int li), .val (.int si), .val (.int sh), .val (.int mm), .val (.ref b1), .val (.ref b39), .val (.int z81), .val (.ref b39), .val (.int v108), .val (.int v116), .val (.int v124), .val (.int z132), .val (.int z161), .val (.int v186), .val (.int v194), .val (.int v201), .val (.int v209), .unset]) rfl at_210 rfl ?_
    refine Gl.iconst Y161j (v := (4 : Int32)) (by decide) at_212 rfl ?_
    refine Gl.newP Y161j 4 (ty := .short) rfl (tw_2 hw) (by decide) (by decide) (Nat.le_of_ble_eq_true rfl) (Nat.le_of_ble_eq_true rfl) (Nat.le_of_ble_eq_true rfl) at_213 rfl (fun T213 h213 b213 ck213 Y213 E213 g213 sb213 V213 => ?_)
    have f2 : Arv Z h73 b1 ck1 .char (4 : Int32) [(.int v7), (.int v16), (.int v25), (.int v34)] (.int (0 : Int32)) := (((((A35.ext E39).other W46 (Nat.ne_of_lt (Nat.lt_of_lt_of_eq A35.lt g39.symm))).other W55 (Nat.ne_of_lt (Nat.lt_of_lt_of_eq A35.lt g39.symm))).other W64 (Nat.ne_of_lt (Nat.lt_of_lt_of_eq A35.lt g39.symm))).other W73 (Nat.ne_of_lt (Nat.lt_of_lt_of_eq A35.lt g39.symm)))
    have V213 : Arv Z h213 b213 ck213 .short (4 : Int32) [(.int (0 : Int32)), (.int (0 : Int32)), (.int (0 : Int32)), (.int (0 : Int32))] (.int (0 : Int32)) := V213.pad (pad_rep [] (.int (0 : Int32)) 4)
    show Gl p e below _ (T213.setTop (mkF m 215 #[.val (.long la), .second, .val (.long lb), .second, .val (.int li), .val (.int si), .val (.int sh), .val (.int mm), .val (.ref b1), .val (.ref b39), .val (.int z81), .val (.ref b39), .val (.int v108), .val (.int v116), .val (.int v124), .val (.int z132), .val (.int z161), .val (.int v186), .val (.int v194), .val (.int v201), .val (.int v209), .unset] [(.ref b213)]))
    refine Gl.dup Y213 rfl at_215 rfl ?_
    refine Gl.iconst Y213 (v := (0 : Int32)) (by decide) at_216 rfl ?_
    refine Gl.iload Y213 rfl at_217 rfl ?_
    refine Gl.sastore Y213 V213 (v := (.int v186)) (congrArg Value.int (own_narS hv186)) ⟨by decide, by decide⟩ (ix := 0) rfl (Nat.le_of_ble_eq_true rfl) sb213 at_219 rfl (fun T219 h219 Y219 W219 A219 => ?_)
    have A219 : Arv Z h219 b213 ck213 .short (4 : Int32) [(.int v186), (.int (0 : Int32)), (.int (0 : Int32)), (.int (0 : Int32))] (.int (0 : Int32)) := A219
    show Gl p e below _ (T219.setTop (mkF m 220 #[.val (.long la), .second, .val (.long lb), .second, .val (.int li), .val (.int si), .val (.int sh), .val (.int mm), .val (.ref b1), .val (.ref b39), .val (.int z81), .val (.ref b39), .val (.int v108), .val (.int v116), .val (.int v124), .val (.int z132), .val (.int z161), .val (.int v186), .val (.int v194), .val (.int v201), .val (.int v209), .unset] [(.ref b213)]))
    refine Gl.dup Y219 rfl at_220 rfl ?_
    refine Gl.iconst Y219 (v := (1 : Int32)) (by decide) at_221 rfl ?_
    refine Gl.iload Y219 rfl at_222 rfl ?_
    refine Gl.sastore Y219 A219 (v := (.int v194)) (congrArg Value.int (own_narS hv194)) ⟨by decide, by decide⟩ (ix := 1) rfl (Nat.le_of_ble_eq_true rfl) sb213 at_224 rfl (fun T224 h224 Y224 W224 A224 => ?_)
    have A224 : Arv Z h224 b213 ck213 .short (4 : Int32) [(.int v186), (.int v194), (.int (0 : Int32)), (.int (0 : Int32))] (.int (0 : Int32)) := A224
    show Gl p e below _ (T224.setTop (mkF m 225 #[.val (.long la), .second, .val (.long lb), .second, .val (.int li), .val (.int si), .val (.int sh), .val (.int mm), .val (.ref b1), .val (.ref b39), .val (.int z81), .val (.ref b39), .val (.int v108), .val (.int v116), .val (.int v124), .val (.int z132), .val (.int z161), .val (.int v186), .val (.int v194), .val (.int v201), .val (.int v209), .unset] [(.ref b213)]))
    refine Gl.dup Y224 rfl at_225 rfl ?_
    refine Gl.iconst Y224 (v := (2 : Int32)) (by decide) at_226 rfl ?_
    refine Gl.iload Y224 rfl at_227 rfl ?_
    refine Gl.sastore Y224 A224 (v := (.int v201)) (congrArg Value.int (own_narS hv201)) ⟨by decide, by decide⟩ (ix := 2) rfl (Nat.le_of_ble_eq_true rfl) sb213 at_229 rfl (fun T229 h229 Y229 W229 A229 => ?_)
    have A229 : Arv Z h229 b213 ck213 .short (4 : Int32) [(.int v186), (.int v194), (.int v201), (.int (0 : Int32))] (.int (0 : Int32)) := A229
    show Gl p e below _ (T229.setTop (mkF m 230 #[.val (.long la), .second, .val (.long lb), .second, .val (.int li), .val (.int si), .val (.int sh), .val (.int mm), .val (.ref b1), .val (.ref b39), .val (.int z81), .val (.ref b39), .val (.int v108), .val (.int v116), .val (.int v124), .val (.int z132), .val (.int z161), .val (.int v186), .val (.int v194), .val (.int v201), .val (.int v209), .unset] [(.ref b213)]))
    refine Gl.dup Y229 rfl at_230 rfl ?_
    refine Gl.iconst Y229 (v := (3 : Int32)) (by decide) at_231 rfl ?_
    refine Gl.iload Y229 rfl at_232 rfl ?_
    refine Gl.sastore Y229 A229 (v := (.int v209)) (congrArg Value.int (own_narS hv209)) ⟨by decide, by decide⟩ (ix := 3) rfl (Nat.le_of_ble_eq_true rfl) sb213 at_234 rfl (fun T234 h234 Y234 W234 A234 => ?_)
    have A234 : Arv Z h234 b213 ck213 .short (4 : Int32) [(.int v186), (.int v194), (.int v201), (.int v209)] (.int (0 : Int32)) := A234
    show Gl p e below _ (T234.setTop (mkF m 235 #[.val (.long la), .second, .val (.long lb), .second, .val (.int li), .val (.int si), .val (.int sh), .val (.int mm), .val (.ref b1), .val (.ref b39), .val (.int z81), .val (.ref b39), .val (.int v108), .val (.int v116), .val (.int v124), .val (.int z132), .val (.int z161), .val (.int v186), .val (.int v194), .val (.int v201), .val (.int v209), .unset] [(.ref b213)]))
    refine Gl.astore Y234 rfl (L' := #[.val (.long la), .second, .val (.long lb), .second, .val (.int li), .val (.int si), .val (.int sh), .val (.int mm), .val (.ref b1), .val (.ref b39), .val (.int z81), .val (.ref b39), .val (.int v108), .val (.int v116), .val (.int v124), .val (.int z132), .val (.int z161), .val (.int v186), .val (.int v194), .val (.int v201), .val (.int v209), .val (.ref b213)]) rfl at_235 rfl ?_
    have cs_v108 : v108 = (0 : Int32) ∨ v108 = (1 : Int32) ∨ v108 = (2 : Int32) ∨ v108 = (3 : Int32) := own_k3 hv108
    rcases cs_v108 with rfl | rfl | rfl | rfl
    · have rle := own_or iz132 (own_a16 hv152) r_ulead
      have rse := own_or iz161 (own_a16 hv181) r_usec
      refine Gl.aload Y234 rfl rfl at_237 rfl ?_
      refine Gl.iload Y234 rfl at_239 rfl ?_
      refine Gl.iload Y234 rfl at_241 rfl ?_
      refine Gl.aload Y234 rfl rfl at_243 rfl ?_
      refine Gl.iload Y234 rfl at_245 rfl ?_
      refine Gl.iload Y234 rfl at_247 rfl ?_
      refine Gl.aload Y234 rfl rfl at_249 rfl ?_
      refine Gl.iload Y234 rfl at_251 rfl ?_
      have f3 : Arv Z h234 b1 ck1 .char (4 : Int32) [(.int v7), (.int v16), (.int v25), (.int v34)] (.int (0 : Int32)) := (((((f2.ext E213).other W219 (Nat.ne_of_lt (Nat.lt_of_lt_of_eq f2.lt g213.symm))).other W224 (Nat.ne_of_lt (Nat.lt_of_lt_of_eq f2.lt g213.symm))).other W229 (Nat.ne_of_lt (Nat.lt_of_lt_of_eq f2.lt g213.symm))).other W234 (Nat.ne_of_lt (Nat.lt_of_lt_of_eq f2.lt g213.symm)))
      have f4 : Arv Z h234 b39 ck39 .char (4 : Int32) [(.int v45), (.int v54), (.int v63), (.int v72)] (.int (0 : Int32)) := (((((A73.ext E213).other W219 (Nat.ne_of_lt (Nat.lt_of_lt_of_eq A73.lt g213.symm))).other W224 (Nat.ne_of_lt (Nat.lt_of_lt_of_eq A73.lt g213.symm))).other W229 (Nat.ne_of_lt (Nat.lt_of_lt_of_eq A73.lt g213.symm))).other W234 (Nat.ne_of_lt (Nat.lt_of_lt_of_eq A73.lt g213.symm)))
      refine Gl.callS Y234 (tw_3 hw) (tw_4 hw) (tw_5 hw) (tw_6 hw) (by decide) (rm0 l Z a0 hw [] b1 v116 z132 b39 v124 z161 b213 ck1 ck39 ck213 [(.int v7), (.int v16), (.int v25), (.int v34)] [(.int v45), (.int v54), (.int v63), (.int v72)] v186 v194 v201 v209 h234 n0 Y234.sz f3 f4 A234 sb213 (Nat.ne_of_lt (Nat.lt_of_lt_of_eq f2.lt g213.symm)) (Nat.ne_of_lt (Nat.lt_of_lt_of_eq A73.lt g213.symm))) (argsL := [(.ref b1), (.int v116), (.int z132), (.ref b39), (.int v124), (.int z161), (.ref b213), (.int (0 : Int32))]) (rest := []) rfl rfl (lenOf pd_0 rfl) rfl (by decide) (Nat.le_of_ble_eq_true rfl) (by decide) (by decide) at_253 rfl (fun v253 T253 h253 Y253 q253 => ?_)
      obtain ⟨rfl, K253, f253_0⟩ := q253
      show Gl p e below _ (T253.setTop (mkF m 256 #[.val (.long la), .second, .val (.long lb), .second, .val (.int li), .val (.int si), .val (.int sh), .val (.int mm), .val (.ref b1), .val (.ref b39), .val (.int z81), .val (.ref b39), .val (.int (0 : Int32)), .val (.int v116), .val (.int v124), .val (.int z132), .val (.int z161), .val (.int v186), .val (.int v194), .val (.int v201), .val (.int v209), .val (.ref b213)] []))
      refine Gl.aload Y253 rfl rfl at_256 rfl ?_
      refine Gl.iconst Y253 (v := (0 : Int32)) (by decide) at_258 rfl ?_
      refine Gl.iload Y253 rfl at_259 rfl ?_
      refine Gl.iload Y253 rfl at_261 rfl ?_
      refine Gl.aload Y253 rfl rfl at_263 rfl ?_
      refine Gl.iload Y253 rfl at_265 rfl ?_
      refine Gl.iload Y253 rfl at_267 rfl ?_
      refine Gl.aload Y253 rfl rfl at_269 rfl ?_
      refine Gl.iload Y253 rfl at_271 rfl ?_
      refine Gl.iload Y253 rfl at_273 rfl ?_
      have f5 : Arv Z h253 b1 ck1 .char (4 : Int32) [(.int v7), (.int v16), (.int v25), (.int v34)] (.int (0 : Int32)) := (f3.keep K253 (ninS (Nat.ne_of_lt (Nat.lt_of_lt_of_eq f2.lt g213.symm)) nin0))
      have f6 : Arv Z h253 b39 ck39 .char (4 : Int32) [(.int v45), (.int v54), (.int v63), (.int v72)] (.int (0 : Int32)) := (f4.keep K253 (ninS (Nat.ne_of_lt (Nat.lt_of_lt_of_eq A73.lt g213.symm)) nin0))
      refine Gl.callS Y253 (tw_7 hw) (tw_8 hw) (tw_9 hw) (tw_10 hw) (by decide) (rm4 l Z a0 hw [] b1 v116 z132 b39 v124 z161 b213 ck1 ck39 ck213 [(.int v7), (.int v16), (.int v25), (.int v34)] [(.int v45), (.int v54), (.int v63), (.int v72)] v186 v186 v194 v201 v209 h253 n0 Y253.sz f5 f6 f253_0 (rfl)) (argsL := [(.ref b213), (.int (0 : Int32)), (.int (0 : Int32)), (.int v186), (.ref b1), (.int v116), (.int z132), (.ref b39), (.int v124), (.int z161)]) (rest := []) rfl rfl (lenOf pd_1 rfl) rfl (by decide) (Nat.le_of_ble_eq_true rfl) (by decide) (by decide) at_275 rfl (fun v275 T275 h275 Y275 q275 => ?_)
      obtain ⟨rfl, rfl⟩ := q275
      show Gl p e below _ (T275.setTop (mkF m 278 #[.val (.long la), .second, .val (.long lb), .second, .val (.int li), .val (.int si), .val (.int sh), .val (.int mm), .val (.ref b1), .val (.ref b39), .val (.int z81), .val (.ref b39), .val (.int (0 : Int32)), .val (.int v116), .val (.int v124), .val (.int z132), .val (.int z161), .val (.int v186), .val (.int v194), .val (.int v201), .val (.int v209), .val (.ref b213)] [(.int (1 : Int32))]))
      refine Gl.ifeq Y275 at_278 (by decide) rfl rfl (fun c278 => ?_) (fun c278 => ?_)
      · exact absurd c278 (by decide)
      refine Gl.aload Y275 rfl rfl at_281 rfl ?_
      refine Gl.iconst Y275 (v := (1 : Int32)) (by decide) at_283 rfl ?_
      refine Gl.iload Y275 rfl at_284 rfl ?_
      refine Gl.iload Y275 rfl at_286 rfl ?_
      refine Gl.aload Y275 rfl rfl at_288 rfl ?_
      refine Gl.iload Y275 rfl at_290 rfl ?_
      refine Gl.iload Y275 rfl at_292 rfl ?_
      refine Gl.aload Y275 rfl rfl at_294 rfl ?_
      refine Gl.iload Y275 rfl at_296 rfl ?_
      refine Gl.iload Y275 rfl at_298 rfl ?_
      refine Gl.callS Y275 (tw_7 hw) (tw_8 hw) (tw_9 hw) (tw_10 hw) (by decide) (rm8 l Z a0 hw [] b1 v116 z132 b39 v124 z161 b213 ck1 ck39 ck213 [(.int v7), (.int v16), (.int v25), (.int v34)] [(.int v45), (.int v54), (.int v63), (.int v72)] v194 v186 v194 v201 v209 h253 n0 Y275.sz f5 f6 f253_0 (rfl)) (argsL := [(.ref b213), (.int (1 : Int32)), (.int (0 : Int32)), (.int v194), (.ref b1), (.int v116), (.int z132), (.ref b39), (.int v124), (.int z161)]) (rest := []) rfl rfl (lenOf pd_1 rfl) rfl (by decide) (Nat.le_of_ble_eq_true rfl) (by decide) (by decide) at_300 rfl (fun v300 T300 h300 Y300 q300 => ?_)
      obtain ⟨rfl, rfl⟩ := q300
      show Gl p e below _ (T300.setTop (mkF m 303 #[.val (.long la), .second, .val (.long lb), .second, .val (.int li), .val (.int si), .val (.int sh), .val (.int mm), .val (.ref b1), .val (.ref b39), .val (.int z81), .val (.ref b39), .val (.int (0 : Int32)), .val (.int v116), .val (.int v124), .val (.int z132), .val (.int z161), .val (.int v186), .val (.int v194), .val (.int v201), .val (.int v209), .val (.ref b213)] [(.int (1 : Int32))]))
      refine Gl.ifeq Y300 at_303 (by decide) rfl rfl (fun c303 => ?_) (fun c303 => ?_)
      · exact absurd c303 (by decide)
      refine Gl.aload Y300 rfl rfl at_306 rfl ?_
      refine Gl.iconst Y300 (v := (2 : Int32)) (by decide) at_308 rfl ?_
      refine Gl.iload Y300 rfl at_309 rfl ?_
      refine Gl.iload Y300 rfl at_311 rfl ?_
      refine Gl.aload Y300 rfl rfl at_313 rfl ?_
      refine Gl.iload Y300 rfl at_315 rfl ?_
      refine Gl.iload Y300 rfl at_317 rfl ?_
      refine Gl.aload Y300 rfl rfl at_319 rfl ?_
      refine Gl.iload Y300 rfl at_321 rfl ?_
      refine Gl.iload Y300 rfl at_323 rfl ?_
      refine Gl.callS Y300 (tw_7 hw) (tw_8 hw) (tw_9 hw) (tw_10 hw) (by decide) (rm12 l Z a0 hw [] b1 v116 z132 b39 v124 z161 b213 ck1 ck39 ck213 [(.int v7), (.int v16), (.int v25), (.int v34)] [(.int v45), (.int v54), (.int v63), (.int v72)] v201 v186 v194 v201 v209 h253 n0 Y300.sz f5 f6 f253_0 (rfl)) (argsL := [(.ref b213), (.int (2 : Int32)), (.int (0 : Int32)), (.int v201), (.ref b1), (.int v116), (.int z132), (.ref b39), (.int v124), (.int z161)]) (rest := []) rfl rfl (lenOf pd_1 rfl) rfl (by decide) (Nat.le_of_ble_eq_true rfl) (by decide) (by decide) at_325 rfl (fun v325 T325 h325 Y325 q325 => ?_)
      obtain ⟨rfl, rfl⟩ := q325
      show Gl p e below _ (T325.setTop (mkF m 328 #[.val (.long la), .second, .val (.long lb), .second, .val (.int li), .val (.int si), .val (.int sh), .val (.int mm), .val (.ref b1), .val (.ref b39), .val (.int z81), .val (.ref b39), .val (.int (0 : Int32)), .val (.int v116), .val (.int v124), .val (.int z132), .val (.int z161), .val (.int v186), .val (.int v194), .val (.int v201), .val (.int v209), .val (.ref b213)] [(.int (1 : Int32))]))
      refine Gl.ifeq Y325 at_328 (by decide) rfl rfl (fun c328 => ?_) (fun c328 => ?_)
      · exact absurd c328 (by decide)
      refine Gl.aload Y325 rfl rfl at_331 rfl ?_
      refine Gl.iconst Y325 (v := (3 : Int32)) (by decide) at_333 rfl ?_
      refine Gl.iload Y325 rfl at_334 rfl ?_
      refine Gl.iload Y325 rfl at_336 rfl ?_
      refine Gl.aload Y325 rfl rfl at_338 rfl ?_
      refine Gl.iload Y325 rfl at_340 rfl ?_
      refine Gl.iload Y325 rfl at_342 rfl ?_
      refine Gl.aload Y325 rfl rfl at_344 rfl ?_
      refine Gl.iload Y325 rfl at_346 rfl ?_
      refine Gl.iload Y325 rfl at_348 rfl ?_
      refine Gl.callS Y325 (tw_7 hw) (tw_8 hw) (tw_9 hw) (tw_10 hw) (by decide) (rm16 l Z a0 hw [] b1 v116 z132 b39 v124 z161 b213 ck1 ck39 ck213 [(.int v7), (.int v16), (.int v25), (.int v34)] [(.int v45), (.int v54), (.int v63), (.int v72)] v209 v186 v194 v201 v209 h253 n0 Y325.sz f5 f6 f253_0 (rfl)) (argsL := [(.ref b213), (.int (3 : Int32)), (.int (0 : Int32)), (.int v209), (.ref b1), (.int v116), (.int z132), (.ref b39), (.int v124), (.int z161)]) (rest := []) rfl rfl (lenOf pd_1 rfl) rfl (by decide) (Nat.le_of_ble_eq_true rfl) (by decide) (by decide) at_350 rfl (fun v350 T350 h350 Y350 q350 => ?_)
      obtain ⟨rfl, rfl⟩ := q350
      show Gl p e below _ (T350.setTop (mkF m 353 #[.val (.long la), .second, .val (.long lb), .second, .val (.int li), .val (.int si), .val (.int sh), .val (.int mm), .val (.ref b1), .val (.ref b39), .val (.int z81), .val (.ref b39), .val (.int (0 : Int32)), .val (.int v116), .val (.int v124), .val (.int z132), .val (.int z161), .val (.int v186), .val (.int v194), .val (.int v201), .val (.int v209), .val (.ref b213)] [(.int (1 : Int32))]))
      refine Gl.ifeq Y350 at_353 (by decide) rfl rfl (fun c353 => ?_) (fun c353 => ?_)
      · exact absurd c353 (by decide)
      refine Gl.aload Y350 rfl rfl at_356 rfl ?_
      refine Gl.callS Y350 (tw_11 hw) (tw_12 hw) (tw_9 hw) (tw_13 hw) (by decide) (rm20 l Z a0 hw [] b1 ck1 v7 v16 v25 v34 h253 n0 Y350.sz f5) (argsL := [(.ref b1)]) (rest := []) rfl rfl (lenOf pd_2 rfl) rfl (by decide) (Nat.le_of_ble_eq_true rfl) (by decide) (by decide) at_358 rfl (fun v358 T358 h358 Y358 q358 => ?_)
      obtain ⟨r358, rfl, p358, rfl⟩ := q358
      show Gl p e below _ (T358.setTop (mkF m 361 #[.val (.long la), .second, .val (.long lb), .second, .val (.int li), .val (.int si), .val (.int sh), .val (.int mm), .val (.ref b1), .val (.ref b39), .val (.int z81), .val (.ref b39), .val (.int (0 : Int32)), .val (.int v116), .val (.int v124), .val (.int z132), .val (.int z161), .val (.int v186), .val (.int v194), .val (.int v201), .val (.int v209), .val (.ref b213)] [(.long r358)]))
      refine Gl.lloadN Y358 rfl at_361 rfl ?_
      refine Gl.lcmpne Y358 at_362 rfl at_363 (by decide) rfl rfl (fun c363 => ?_) (fun c363 => ?_)
      · exact absurd (by rw [p358]; subst_vars; exact own_packed _) c363
      have j363 : r358.toInt = la.toInt := congrArg Int64.toInt c363
      refine Gl.aload Y358 rfl rfl at_366 rfl ?_
      refine Gl.callS Y358 (tw_11 hw) (tw_12 hw) (tw_9 hw) (tw_13 hw) (by decide) (rm20 l Z a0 hw [] b39 ck39 v45 v54 v63 v72 h253 n0 Y358.sz f6) (argsL := [(.ref b39)]) (rest := []) rfl rfl (lenOf pd_2 rfl) rfl (by decide) (Nat.le_of_ble_eq_true rfl) (by decide) (by decide) at_368 rfl (fun v368 T368 h368 Y368 q368 => ?_)
      obtain ⟨r368, rfl, p368, rfl⟩ := q368
      show Gl p e below _ (T368.setTop (mkF m 371 #[.val (.long la), .second, .val (.long lb), .second, .val (.int li), .val (.int si), .val (.int sh), .val (.int mm), .val (.ref b1), .val (.ref b39), .val (.int z81), .val (.ref b39), .val (.int (0 : Int32)), .val (.int v116), .val (.int v124), .val (.int z132), .val (.int z161), .val (.int v186), .val (.int v194), .val (.int v201), .val (.int v209), .val (.ref b213)] [(.long r368)]))
      refine Gl.lloadN Y368 rfl at_371 rfl ?_
      refine Gl.lcmpne Y368 at_372 rfl at_373 (by decide) rfl rfl (fun c373 => ?_) (fun c373 => ?_)
      · exact absurd (by rw [p368]; subst_vars; exact own_packed _) c373
      have j373 : r368.toInt = lb.toInt := congrArg Int64.toInt c373
      refine Gl.iconst Y368 (v := (1 : Int32)) (by decide) at_376 rfl ?_
      refine Gl.goto Y368 at_377 (by decide) rfl ?_
      exact Gl.retZ Y368 (by decide) (by decide) (x' := (1 : Int32)) (by decide) at_381 rfl
    · have hjl0 := own_off v116 0 (own_a1 hv116) (by decide)
      have hjs0 := own_off v124 0 (own_a1 hv124) (by decide)
      obtain ⟨ul0, hul0, rul0⟩ := own_get4 v7 v16 v25 v34 (v116 + 0) (own_c16 hv7) (own_c16 hv16) (own_c16 hv25) (own_c16 hv34) hjl0
      obtain ⟨us0, hus0, rus0⟩ := own_get4 v45 v54 v63 v72 (v124 + 0) (own_c16 hv45) (own_c16 hv54) (own_c16 hv63) (own_c16 hv72) hjs0
      have rle := own_or iz132 (own_a16 hv152) r_ulead
      have rse := own_or iz161 (own_a16 hv181) r_usec
      refine Gl.aload Y234 rfl rfl at_237 rfl ?_
      refine Gl.iload Y234 rfl at_239 rfl ?_
      refine Gl.iload Y234 rfl at_241 rfl ?_
      refine Gl.aload Y234 rfl rfl at_243 rfl ?_
      refine Gl.iload Y234 rfl at_245 rfl ?_
      refine Gl.iload Y234 rfl at_247 rfl ?_
      refine Gl.aload Y234 rfl rfl at_249 rfl ?_
      refine Gl.iload Y234 rfl at_251 rfl ?_
      have f7 : Arv Z h234 b1 ck1 .char (4 : Int32) [(.int v7), (.int v16), (.int v25), (.int v34)] (.int (0 : Int32)) := (((((f2.ext E213).other W219 (Nat.ne_of_lt (Nat.lt_of_lt_of_eq f2.lt g213.symm))).other W224 (Nat.ne_of_lt (Nat.lt_of_lt_of_eq f2.lt g213.symm))).other W229 (Nat.ne_of_lt (Nat.lt_of_lt_of_eq f2.lt g213.symm))).other W234 (Nat.ne_of_lt (Nat.lt_of_lt_of_eq f2.lt g213.symm)))
      have f8 : Arv Z h234 b39 ck39 .char (4 : Int32) [(.int v45), (.int v54), (.int v63), (.int v72)] (.int (0 : Int32)) := (((((A73.ext E213).other W219 (Nat.ne_of_lt (Nat.lt_of_lt_of_eq A73.lt g213.symm))).other W224 (Nat.ne_of_lt (Nat.lt_of_lt_of_eq A73.lt g213.symm))).other W229 (Nat.ne_of_lt (Nat.lt_of_lt_of_eq A73.lt g213.symm))).other W234 (Nat.ne_of_lt (Nat.lt_of_lt_of_eq A73.lt g213.symm)))
      refine Gl.callS Y234 (tw_3 hw) (tw_4 hw) (tw_5 hw) (tw_6 hw) (by decide) (rm1 l Z a0 hw [] b1 v116 z132 b39 v124 z161 b213 ck1 ck39 ck213 [(.int v7), (.int v16), (.int v25), (.int v34)] [(.int v45), (.int v54), (.int v63), (.int v72)] v186 v194 v201 v209 ul0 us0 h234 n0 Y234.sz f7 f8 A234 sb213 (Nat.ne_of_lt (Nat.lt_of_lt_of_eq f2.lt g213.symm)) (Nat.ne_of_lt (Nat.lt_of_lt_of_eq A73.lt g213.symm)) (hjl0) (hul0) (hjs0) (hus0)) (argsL := [(.ref b1), (.int v116), (.int z132), (.ref b39), (.int v124), (.int z161), (.ref b213), (.int (1 : Int32))]) (rest := []) rfl rfl (lenOf pd_0 rfl) rfl (by decide) (Nat.le_of_ble_eq_true rfl) (by decide) (by decide) at_253 rfl (fun v253 T253 h253 Y253 q253 => ?_)
      obtain ⟨rfl, K253, f253_0⟩ := q253
      show Gl p e below _ (T253.setTop (mkF m 256 #[.val (.long la), .second, .val (.long lb), .second, .val (.int li), .val (.int si), .val (.int sh), .val (.int mm), .val (.ref b1), .val (.ref b39), .val (.int z81), .val (.ref b39), .val (.int (1 : Int32)), .val (.int v116), .val (.int v124), .val (.int z132), .val (.int z161), .val (.int v186), .val (.int v194), .val (.int v201), .val (.int v209), .val (.ref b213)] []))
      refine Gl.aload Y253 rfl rfl at_256 rfl ?_
      refine Gl.iconst Y253 (v := (0 : Int32)) (by decide) at_258 rfl ?_
      refine Gl.iload Y253 rfl at_259 rfl ?_
      refine Gl.iload Y253 rfl at_261 rfl ?_
      refine Gl.aload Y253 rfl rfl at_263 rfl ?_
      refine Gl.iload Y253 rfl at_265 rfl ?_
      refine Gl.iload Y253 rfl at_267 rfl ?_
      refine Gl.aload Y253 rfl rfl at_269 rfl ?_
      refine Gl.iload Y253 rfl at_271 rfl ?_
      refine Gl.iload Y253 rfl at_273 rfl ?_
      have f9 : Arv Z h253 b1 ck1 .char (4 : Int32) [(.int v7), (.int v16), (.int v25), (.int v34)] (.int (0 : Int32)) := (f7.keep K253 (ninS (Nat.ne_of_lt (Nat.lt_of_lt_of_eq f2.lt g213.symm)) nin0))
      have f10 : Arv Z h253 b39 ck39 .char (4 : Int32) [(.int v45), (.int v54), (.int v63), (.int v72)] (.int (0 : Int32)) := (f8.keep K253 (ninS (Nat.ne_of_lt (Nat.lt_of_lt_of_eq A73.lt g213.symm)) nin0))
      refine Gl.callS Y253 (tw_7 hw) (tw_8 hw) (tw_9 hw) (tw_10 hw) (by decide) (rm5 l Z a0 hw [] b1 v116 z132 b39 v124 z161 b213 ck1 ck39 ck213 [(.int v7), (.int v16), (.int v25), (.int v34)] [(.int v45), (.int v54), (.int v63), (.int v72)] v186 (own_mark ul0 z132 us0 z161) v194 v201 v209 ul0 us0 h253 n0 Y253.sz f9 f10 f253_0 (hjl0) (hul0) (hjs0) (hus0) (rul0) (rus0) (rle) (rse) (rfl)) (argsL := [(.ref b213), (.int (0 : Int32)), (.int (1 : Int32)), (.int v186), (.ref b1), (.int v116), (.int z132), (.ref b39), (.int v124), (.int z161)]) (rest := []) rfl rfl (lenOf pd_1 rfl) rfl (by decide) (Nat.le_of_ble_eq_true rfl) (by decide) (by decide) at_275 rfl (fun v275 T275 h275 Y275 q275 => ?_)
      obtain ⟨rfl, rfl⟩ := q275
      show Gl p e below _ (T275.setTop (mkF m 278 #[.val (.long la), .second, .val (.long lb), .second, .val (.int li), .val (.int si), .val (.int sh), .val (.int mm), .val (.ref b1), .val (.ref b39), .val (.int z81), .val (.ref b39), .val (.int (1 : Int32)), .val (.int v116), .val (.int v124), .val (.int z132), .val (.int z161), .val (.int v186), .val (.int v194), .val (.int v201), .val (.int v209), .val (.ref b213)] [(.int (1 : Int32))]))
      refine Gl.ifeq Y275 at_278 (by decide) rfl rfl (fun c278 => ?_) (fun c278 => ?_)
      · exact absurd c278 (by decide)
      refine Gl.aload Y275 rfl rfl at_281 rfl ?_
      refine Gl.iconst Y275 (v := (1 : Int32)) (by decide) at_283 rfl ?_
      refine Gl.iload Y275 rfl at_284 rfl ?_
      refine Gl.iload Y275 rfl at_286 rfl ?_
      refine Gl.aload Y275 rfl rfl at_288 rfl ?_
      refine Gl.iload Y275 rfl at_290 rfl ?_
      refine Gl.iload Y275 rfl at_292 rfl ?_
      refine Gl.aload Y275 rfl rfl at_294 rfl ?_
      refine Gl.iload Y275 rfl at_296 rfl ?_
      refine Gl.iload Y275 rfl at_298 rfl ?_
      refine Gl.callS Y275 (tw_7 hw) (tw_8 hw) (tw_9 hw) (tw_10 hw) (by decide) (rm9 l Z a0 hw [] b1 v116 z132 b39 v124 z161 b213 ck1 ck39 ck213 [(.int v7), (.int v16), (.int v25), (.int v34)] [(.int v45), (.int v54), (.int v63), (.int v72)] v194 (own_mark ul0 z132 us0 z161) v194 v201 v209 h253 n0 Y275.sz f9 f10 f253_0 (rfl)) (argsL := [(.ref b213), (.int (1 : Int32)), (.int (1 : Int32)), (.int v194), (.ref b1), (.int v116), (.int z132), (.ref b39), (.int v124), (.int z161)]) (rest := []) rfl rfl (lenOf pd_1 rfl) rfl (by decide) (Nat.le_of_ble_eq_true rfl) (by decide) (by decide) at_300 rfl (fun v300 T300 h300 Y300 q300 => ?_)
      obtain ⟨rfl, rfl⟩ := q300
      show Gl p e below _ (T300.setTop (mkF m 303 #[.val (.long la), .second, .val (.long lb), .second, .val (.int li), .val (.int si), .val (.int sh), .val (.int mm), .val (.ref b1), .val (.ref b39), .val (.int z81), .val (.ref b39), .val (.int (1 : Int32)), .val (.int v116), .val (.int v124), .val (.int z132), .val (.int z161), .val (.int v186), .val (.int v194), .val (.int v201), .val (.int v209), .val (.ref b213)] [(.int (1 : Int32))]))
      refine Gl.ifeq Y300 at_303 (by decide) rfl rfl (fun c303 => ?_) (fun c303 => ?_)
      · exact absurd c303 (by decide)
      refine Gl.aload Y300 rfl rfl at_306 rfl ?_
      refine Gl.iconst Y300 (v := (2 : Int32)) (by decide) at_308 rfl ?_
      refine Gl.iload Y300 rfl at_309 rfl ?_
      refine Gl.iload Y300 rfl at_311 rfl ?_
      refine Gl.aload Y300 rfl rfl at_313 rfl ?_
      refine Gl.iload Y300 rfl at_315 rfl ?_
      refine Gl.iload Y300 rfl at_317 rfl ?_
      refine Gl.aload Y300 rfl rfl at_319 rfl ?_
      refine Gl.iload Y300 rfl at_321 rfl ?_
      refine Gl.iload Y300 rfl at_323 rfl ?_
      refine Gl.callS Y300 (tw_7 hw) (tw_8 hw) (tw_9 hw) (tw_10 hw) (by decide) (rm13 l Z a0 hw [] b1 v116 z132 b39 v124 z161 b213 ck1 ck39 ck213 [(.int v7), (.int v16), (.int v25), (.int v34)] [(.int v45), (.int v54), (.int v63), (.int v72)] v201 (own_mark ul0 z132 us0 z161) v194 v201 v209 h253 n0 Y300.sz f9 f10 f253_0 (rfl)) (argsL := [(.ref b213), (.int (2 : Int32)), (.int (1 : Int32)), (.int v201), (.ref b1), (.int v116), (.int z132), (.ref b39), (.int v124), (.int z161)]) (rest := []) rfl rfl (lenOf pd_1 rfl) rfl (by decide) (Nat.le_of_ble_eq_true rfl) (by decide) (by decide) at_325 rfl (fun v325 T325 h325 Y325 q325 => ?_)
      obtain ⟨rfl, rfl⟩ := q325
      show Gl p e below _ (T325.setTop (mkF m 328 #[.val (.long la), .second, .val (.long lb), .second, .val (.int li), .val (.int si), .val (.int sh), .val (.int mm), .val (.ref b1), .val (.ref b39), .val (.int z81), .val (.ref b39), .val (.int (1 : Int32)), .val (.int v116), .val (.int v124), .val (.int z132), .val (.int z161), .val (.int v186), .val (.int v194), .val (.int v201), .val (.int v209), .val (.ref b213)] [(.int (1 : Int32))]))
      refine Gl.ifeq Y325 at_328 (by decide) rfl rfl (fun c328 => ?_) (fun c328 => ?_)
      · exact absurd c328 (by decide)
      refine Gl.aload Y325 rfl rfl at_331 rfl ?_
      refine Gl.iconst Y325 (v := (3 : Int32)) (by decide) at_333 rfl ?_
      refine Gl.iload Y325 rfl at_334 rfl ?_
      refine Gl.iload Y325 rfl at_336 rfl ?_
      refine Gl.aload Y325 rfl rfl at_338 rfl ?_
      refine Gl.iload Y325 rfl at_340 rfl ?_
      refine Gl.iload Y325 rfl at_342 rfl ?_
      refine Gl.aload Y325 rfl rfl at_344 rfl ?_
      refine Gl.iload Y325 rfl at_346 rfl ?_
      refine Gl.iload Y325 rfl at_348 rfl ?_
      refine Gl.callS Y325 (tw_7 hw) (tw_8 hw) (tw_9 hw) (tw_10 hw) (by decide) (rm17 l Z a0 hw [] b1 v116 z132 b39 v124 z161 b213 ck1 ck39 ck213 [(.int v7), (.int v16), (.int v25), (.int v34)] [(.int v45), (.int v54), (.int v63), (.int v72)] v209 (own_mark ul0 z132 us0 z161) v194 v201 v209 h253 n0 Y325.sz f9 f10 f253_0 (rfl)) (argsL := [(.ref b213), (.int (3 : Int32)), (.int (1 : Int32)), (.int v209), (.ref b1), (.int v116), (.int z132), (.ref b39), (.int v124), (.int z161)]) (rest := []) rfl rfl (lenOf pd_1 rfl) rfl (by decide) (Nat.le_of_ble_eq_true rfl) (by decide) (by decide) at_350 rfl (fun v350 T350 h350 Y350 q350 => ?_)
      obtain ⟨rfl, rfl⟩ := q350
      show Gl p e below _ (T350.setTop (mkF m 353 #[.val (.long la), .second, .val (.long lb), .second, .val (.int li), .val (.int si), .val (.int sh), .val (.int mm), .val (.ref b1), .val (.ref b39), .val (.int z81), .val (.ref b39), .val (.int (1 : Int32)), .val (.int v116), .val (.int v124), .val (.int z132), .val (.int z161), .val (.int v186), .val (.int v194), .val (.int v201), .val (.int v209), .val (.ref b213)] [(.int (1 : Int32))]))
      refine Gl.ifeq Y350 at_353 (by decide) rfl rfl (fun c353 => ?_) (fun c353 => ?_)
      · exact absurd c353 (by decide)
      refine Gl.aload Y350 rfl rfl at_356 rfl ?_
      refine Gl.callS Y350 (tw_11 hw) (tw_12 hw) (tw_9 hw) (tw_13 hw) (by decide) (rm20 l Z a0 hw [] b1 ck1 v7 v16 v25 v34 h253 n0 Y350.sz f9) (argsL := [(.ref b1)]) (rest := []) rfl rfl (lenOf pd_2 rfl) rfl (by decide) (Nat.le_of_ble_eq_true rfl) (by decide) (by decide) at_358 rfl (fun v358 T358 h358 Y358 q358 => ?_)
      obtain ⟨r358, rfl, p358, rfl⟩ := q358
      show Gl p e below _ (T358.setTop (mkF m 361 #[.val (.long la), .second, .val (.long lb), .second, .val (.int li), .val (.int si), .val (.int sh), .val (.int mm), .val (.ref b1), .val (.ref b39), .val (.int z81), .val (.ref b39), .val (.int (1 : Int32)), .val (.int v116), .val (.int v124), .val (.int z132), .val (.int z161), .val (.int v186), .val (.int v194), .val (.int v201), .val (.int v209), .val (.ref b213)] [(.long r358)]))
      refine Gl.lloadN Y358 rfl at_361 rfl ?_
      refine Gl.lcmpne Y358 at_362 rfl at_363 (by decide) rfl rfl (fun c363 => ?_) (fun c363 => ?_)
      · exact absurd (by rw [p358]; subst_vars; exact own_packed _) c363
      have j363 : r358.toInt = la.toInt := congrArg Int64.toInt c363
      refine Gl.aload Y358 rfl rfl at_366 rfl ?_
      refine Gl.callS Y358 (tw_11 hw) (tw_12 hw) (tw_9 hw) (tw_13 hw) (by decide) (rm20 l Z a0 hw [] b39 ck39 v45 v54 v63 v72 h253 n0 Y358.sz f10) (argsL := [(.ref b39)]) (rest := []) rfl rfl (lenOf pd_2 rfl) rfl (by decide) (Nat.le_of_ble_eq_true rfl) (by decide) (by decide) at_368 rfl (fun v368 T368 h368 Y368 q368 => ?_)
      obtain ⟨r368, rfl, p368, rfl⟩ := q368
      show Gl p e below _ (T368.setTop (mkF m 371 #[.val (.long la), .second, .val (.long lb), .second, .val (.int li), .val (.int si), .val (.int sh), .val (.int mm), .val (.ref b1), .val (.ref b39), .val (.int z81), .val (.ref b39), .val (.int (1 : Int32)), .val (.int v116), .val (.int v124), .val (.int z132), .val (.int z161), .val (.int v186), .val (.int v194), .val (.int v201), .val (.int v209), .val (.ref b213)] [(.long r368)]))
      refine Gl.lloadN Y368 rfl at_371 rfl ?_
      refine Gl.lcmpne Y368 at_372 rfl at_373 (by decide) rfl rfl (fun c373 => ?_) (fun c373 => ?_)
      · exact absurd (by rw [p368]; subst_vars; exact own_packed _) c373
      have j373 : r368.toInt = lb.toInt := congrArg Int64.toInt c373
      refine Gl.iconst Y368 (v := (1 : Int32)) (by decide) at_376 rfl ?_
      refine Gl.goto Y368 at_377 (by decide) rfl ?_
      exact Gl.retZ Y368 (by decide) (by decide) (x' := (1 : Int32)) (by decide) at_381 rfl
    · have hjl0 := own_off v116 0 (own_a1 hv116) (by decide)
      have hjs0 := own_off v124 0 (own_a1 hv124) (by decide)
      obtain ⟨ul0, hul0, rul0⟩ := own_get4 v7 v16 v25 v34 (v116 + 0) (own_c16 hv7) (own_c16 hv16) (own_c16 hv25) (own_c16 hv34) hjl0
      obtain ⟨us0, hus0, rus0⟩ := own_get4 v45 v54 v63 v72 (v124 + 0) (own_c16 hv45) (own_c16 hv54) (own_c16 hv63) (own_c16 hv72) hjs0
      have hjl1 := own_off v116 1 (own_a1 hv116) (by decide)
      have hjs1 := own_off v124 1 (own_a1 hv124) (by decide)
      obtain ⟨ul1, hul1, rul1⟩ := own_get4 v7 v16 v25 v34 (v116 + 1) (own_c16 hv7) (own_c16 hv16) (own_c16 hv25) (own_c16 hv34) hjl1
      obtain ⟨us1, hus1, rus1⟩ := own_get4 v45 v54 v63 v72 (v124 + 1) (own_c16 hv45) (own_c16 hv54) (own_c16 hv63) (own_c16 hv72) hjs1
      have rle := own_or iz132 (own_a16 hv152) r_ulead
      have rse := own_or iz161 (own_a16 hv181) r_usec
      refine Gl.aload Y234 rfl rfl at_237 rfl ?_
      refine Gl.iload Y234 rfl at_239 rfl ?_
      refine Gl.iload Y234 rfl at_241 rfl ?_
      refine Gl.aload Y234 rfl rfl at_243 rfl ?_
      refine Gl.iload Y234 rfl at_245 rfl ?_
      refine Gl.iload Y234 rfl at_247 rfl ?_
      refine Gl.aload Y234 rfl rfl at_249 rfl ?_
      refine Gl.iload Y234 rfl at_251 rfl ?_
      have f11 : Arv Z h234 b1 ck1 .char (4 : Int32) [(.int v7), (.int v16), (.int v25), (.int v34)] (.int (0 : Int32)) := (((((f2.ext E213).other W219 (Nat.ne_of_lt (Nat.lt_of_lt_of_eq f2.lt g213.symm))).other W224 (Nat.ne_of_lt (Nat.lt_of_lt_of_eq f2.lt g213.symm))).other W229 (Nat.ne_of_lt (Nat.lt_of_lt_of_eq f2.lt g213.symm))).other W234 (Nat.ne_of_lt (Nat.lt_of_lt_of_eq f2.lt g213.symm)))
      have f12 : Arv Z h234 b39 ck39 .char (4 : Int32) [(.int v45), (.int v54), (.int v63), (.int v72)] (.int (0 : Int32)) := (((((A73.ext E213).other W219 (Nat.ne_of_lt (Nat.lt_of_lt_of_eq A73.lt g213.symm))).other W224 (Nat.ne_of_lt (Nat.lt_of_lt_of_eq A73.lt g213.symm))).other W229 (Nat.ne_of_lt (Nat.lt_of_lt_of_eq A73.lt g213.symm))).other W234 (Nat.ne_of_lt (Nat.lt_of_lt_of_eq A73.lt g213.symm)))
      refine Gl.callS Y234 (tw_3 hw) (tw_4 hw) (tw_5 hw) (tw_6 hw) (by decide) (rm2 l Z a0 hw [] b1 v116 z132 b39 v124 z161 b213 ck1 ck39 ck213 [(.int v7), (.int v16), (.int v25), (.int v34)] [(.int v45), (.int v54), (.int v63), (.int v72)] v186 v194 v201 v209 ul0 us0 ul1 us1 h234 n0 Y234.sz f11 f12 A234 sb213 (Nat.ne_of_lt (Nat.lt_of_lt_of_eq f2.lt g213.symm)) (Nat.ne_of_lt (Nat.lt_of_lt_of_eq A73.lt g213.symm)) (hjl0) (hul0) (hjs0) (hus0) (hjl1) (hul1) (hjs1) (hus1)) (argsL := [(.ref b1), (.int v116), (.int z132), (.ref b39), (.int v124), (.int z161), (.ref b213), (.int (2 : Int32))]) (rest := []) rfl rfl (lenOf pd_0 rfl) rfl (by decide) (Nat.le_of_ble_eq_true rfl) (by decide) (by decide) at_253 rfl (fun v253 T253 h253 Y253 q253 => ?_)
      obtain ⟨rfl, K253, f253_0⟩ := q253
      show Gl p e below _ (T253.setTop (mkF m 256 #[.val (.long la), .second, .val (.long lb), .second, .val (.int li), .val (.int si), .val (.int sh), .val (.int mm), .val (.ref b1), .val (.ref b39), .val (.int z81), .val (.ref b39), .val (.int (2 : Int32)), .val (.int v116), .val (.int v124), .val (.int z132), .val (.int z161), .val (.int v186), .val (.int v194), .val (.int v201), .val (.int v209), .val (.ref b213)] []))
      refine Gl.aload Y253 rfl rfl at_256 rfl ?_
      refine Gl.iconst Y253 (v := (0 : Int32)) (by decide) at_258 rfl ?_
      refine Gl.iload Y253 rfl at_259 rfl ?_
      refine Gl.iload Y253 rfl at_261 rfl ?_
      refine Gl.aload Y253 rfl rfl at_263 rfl ?_
      refine Gl.iload Y253 rfl at_265 rfl ?_
      refine Gl.iload Y253 rfl at_267 rfl ?_
      refine Gl.aload Y253 rfl rfl at_269 rfl ?_
      refine Gl.iload Y253 rfl at_271 rfl ?_
      refine Gl.iload Y253 rfl at_273 rfl ?_
      have f13 : Arv Z h253 b1 ck1 .char (4 : Int32) [(.int v7), (.int v16), (.int v25), (.int v34)] (.int (0 : Int32)) := (f11.keep K253 (ninS (Nat.ne_of_lt (Nat.lt_of_lt_of_eq f2.lt g213.symm)) nin0))
      have f14 : Arv Z h253 b39 ck39 .char (4 : Int32) [(.int v45), (.int v54), (.int v63), (.int v72)] (.int (0 : Int32)) := (f12.keep K253 (ninS (Nat.ne_of_lt (Nat.lt_of_lt_of_eq A73.lt g213.symm)) nin0))
      refine Gl.callS Y253 (tw_7 hw) (tw_8 hw) (tw_9 hw) (tw_10 hw) (by decide) (rm6 l Z a0 hw [] b1 v116 z132 b39 v124 z161 b213 ck1 ck39 ck213 [(.int v7), (.int v16), (.int v25), (.int v34)] [(.int v45), (.int v54), (.int v63), (.int v72)] v186 (own_mark ul0 z132 us0 z161) (own_mark ul1 z132 us1 z161) v201 v209 ul0 us0 h253 n0 Y253.sz f13 f14 f253_0 (hjl0) (hul0) (hjs0) (hus0) (rul0) (rus0) (rle) (rse) (rfl)) (argsL := [(.ref b213), (.int (0 : Int32)), (.int (2 : Int32)), (.int v186), (.ref b1), (.int v116), (.int z132), (.ref b39), (.int v124), (.int z161)]) (rest := []) rfl rfl (lenOf pd_1 rfl) rfl (by decide) (Nat.le_of_ble_eq_true rfl) (by decide) (by decide) at_275 rfl (fun v275 T275 h275 Y275 q275 => ?_)
      obtain ⟨rfl, rfl⟩ := q275
      show Gl p e below _ (T275.setTop (mkF m 278 #[.val (.long la), .second, .val (.long lb), .second, .val (.int li), .val (.int si), .val (.int sh), .val (.int mm), .val (.ref b1), .val (.ref b39), .val (.int z81), .val (.ref b39), .val (.int (2 : Int32)), .val (.int v116), .val (.int v124), .val (.int z132), .val (.int z161), .val (.int v186), .val (.int v194), .val (.int v201), .val (.int v209), .val (.ref b213)] [(.int (1 : Int32))]))
      refine Gl.ifeq Y275 at_278 (by decide) rfl rfl (fun c278 => ?_) (fun c278 => ?_)
      · exact absurd c278 (by decide)
      refine Gl.aload Y275 rfl rfl at_281 rfl ?_
      refine Gl.iconst Y275 (v := (1 : Int32)) (by decide) at_283 rfl ?_
      refine Gl.iload Y275 rfl at_284 rfl ?_
      refine Gl.iload Y275 rfl at_286 rfl ?_
      refine Gl.aload Y275 rfl rfl at_288 rfl ?_
      refine Gl.iload Y275 rfl at_290 rfl ?_
      refine Gl.iload Y275 rfl at_292 rfl ?_
      refine Gl.aload Y275 rfl rfl at_294 rfl ?_
      refine Gl.iload Y275 rfl at_296 rfl ?_
      refine Gl.iload Y275 rfl at_298 rfl ?_
      refine Gl.callS Y275 (tw_7 hw) (tw_8 hw) (tw_9 hw) (tw_10 hw) (by decide) (rm10 l Z a0 hw [] b1 v116 z132 b39 v124 z161 b213 ck1 ck39 ck213 [(.int v7), (.int v16), (.int v25), (.int v34)] [(.int v45), (.int v54), (.int v63), (.int v72)] v194 (own_mark ul0 z132 us0 z161) (own_mark ul1 z132 us1 z161) v201 v209 ul1 us1 h253 n0 Y275.sz f13 f14 f253_0 (hjl1) (hul1) (hjs1) (hus1) (rul1) (rus1) (rle) (rse) (rfl)) (argsL := [(.ref b213), (.int (1 : Int32)), (.int (2 : Int32)), (.int v194), (.ref b1), (.int v116), (.int z132), (.ref b39), (.int v124), (.int z161)]) (rest := []) rfl rfl (lenOf pd_1 rfl) rfl (by decide) (Nat.le_of_ble_eq_true rfl) (by decide) (by decide) at_300 rfl (fun v300 T300 h300 Y300 q300 => ?_)
      obtain ⟨rfl, rfl⟩ := q300
      show Gl p e below _ (T300.setTop (mkF m 303 #[.val (.long la), .second, .val (.long lb), .second, .val (.int li), .val (.int si), .val (.int sh), .val (.int mm), .val (.ref b1), .val (.ref b39), .val (.int z81), .val (.ref b39), .val (.int (2 : Int32)), .val (.int v116), .val (.int v124), .val (.int z132), .val (.int z161), .val (.int v186), .val (.int v194), .val (.int v201), .val (.int v209), .val (.ref b213)] [(.int (1 : Int32))]))
      refine Gl.ifeq Y300 at_303 (by decide) rfl rfl (fun c303 => ?_) (fun c303 => ?_)
      · exact absurd c303 (by decide)
      refine Gl.aload Y300 rfl rfl at_306 rfl ?_
      refine Gl.iconst Y300 (v := (2 : Int32)) (by decide) at_308 rfl ?_
      refine Gl.iload Y300 rfl at_309 rfl ?_
      refine Gl.iload Y300 rfl at_311 rfl ?_
      refine Gl.aload Y300 rfl rfl at_313 rfl ?_
      refine Gl.iload Y300 rfl at_315 rfl ?_
      refine Gl.iload Y300 rfl at_317 rfl ?_
      refine Gl.aload Y300 rfl rfl at_319 rfl ?_
      refine Gl.iload Y300 rfl at_321 rfl ?_
      refine Gl.iload Y300 rfl at_323 rfl ?_
      refine Gl.callS Y300 (tw_7 hw) (tw_8 hw) (tw_9 hw) (tw_10 hw) (by decide) (rm14 l Z a0 hw [] b1 v116 z132 b39 v124 z161 b213 ck1 ck39 ck213 [(.int v7), (.int v16), (.int v25), (.int v34)] [(.int v45), (.int v54), (.int v63), (.int v72)] v201 (own_mark ul0 z132 us0 z161) (own_mark ul1 z132 us1 z161) v201 v209 h253 n0 Y300.sz f13 f14 f253_0 (rfl)) (argsL := [(.ref b213), (.int (2 : Int32)), (.int (2 : Int32)), (.int v201), (.ref b1), (.int v116), (.int z132), (.ref b39), (.int v124), (.int z161)]) (rest := []) rfl rfl (lenOf pd_1 rfl) rfl (by decide) (Nat.le_of_ble_eq_true rfl) (by decide) (by decide) at_325 rfl (fun v325 T325 h325 Y325 q325 => ?_)
      obtain ⟨rfl, rfl⟩ := q325
      show Gl p e below _ (T325.setTop (mkF m 328 #[.val (.long la), .second, .val (.long lb), .second, .val (.int li), .val (.int si), .val (.int sh), .val (.int mm), .val (.ref b1), .val (.ref b39), .val (.int z81), .val (.ref b39), .val (.int (2 : Int32)), .val (.int v116), .val (.int v124), .val (.int z132), .val (.int z161), .val (.int v186), .val (.int v194), .val (.int v201), .val (.int v209), .val (.ref b213)] [(.int (1 : Int32))]))
      refine Gl.ifeq Y325 at_328 (by decide) rfl rfl (fun c328 => ?_) (fun c328 => ?_)
      · exact absurd c328 (by decide)
      refine Gl.aload Y325 rfl rfl at_331 rfl ?_
      refine Gl.iconst Y325 (v := (3 : Int32)) (by decide) at_333 rfl ?_
      refine Gl.iload Y325 rfl at_334 rfl ?_
      refine Gl.iload Y325 rfl at_336 rfl ?_
      refine Gl.aload Y325 rfl rfl at_338 rfl ?_
      refine Gl.iload Y325 rfl at_340 rfl ?_
      refine Gl.iload Y325 rfl at_342 rfl ?_
      refine Gl.aload Y325 rfl rfl at_344 rfl ?_
      refine Gl.iload Y325 rfl at_346 rfl ?_
      refine Gl.iload Y325 rfl at_348 rfl ?_
      refine Gl.callS Y325 (tw_7 hw) (tw_8 hw) (tw_9 hw) (tw_10 hw) (by decide) (rm18 l Z a0 hw [] b1 v116 z132 b39 v124 z161 b213 ck1 ck39 ck213 [(.int v7), (.int v16), (.int v25), (.int v34)] [(.int v45), (.int v54), (.int v63), (.int v72)] v209 (own_mark ul0 z132 us0 z161) (own_mark ul1 z132 us1 z161) v201 v209 h253 n0 Y325.sz f13 f14 f253_0 (rfl)) (argsL := [(.ref b213), (.int (3 : Int32)), (.int (2 : Int32)), (.int v209), (.ref b1), (.int v116), (.int z132), (.ref b39), (.int v124), (.int z161)]) (rest := []) rfl rfl (lenOf pd_1 rfl) rfl (by decide) (Nat.le_of_ble_eq_true rfl) (by decide) (by decide) at_350 rfl (fun v350 T350 h350 Y350 q350 => ?_)
      obtain ⟨rfl, rfl⟩ := q350
      show Gl p e below _ (T350.setTop (mkF m 353 #[.val (.long la), .second, .val (.long lb), .second, .val (.int li), .val (.int si), .val (.int sh), .val (.int mm), .val (.ref b1), .val (.ref b39), .val (.int z81), .val (.ref b39), .val (.int (2 : Int32)), .val (.int v116), .val (.int v124), .val (.int z132), .val (.int z161), .val (.int v186), .val (.int v194), .val (.int v201), .val (.int v209), .val (.ref b213)] [(.int (1 : Int32))]))
      refine Gl.ifeq Y350 at_353 (by decide) rfl rfl (fun c353 => ?_) (fun c353 => ?_)
      · exact absurd c353 (by decide)
      refine Gl.aload Y350 rfl rfl at_356 rfl ?_
      refine Gl.callS Y350 (tw_11 hw) (tw_12 hw) (tw_9 hw) (tw_13 hw) (by decide) (rm20 l Z a0 hw [] b1 ck1 v7 v16 v25 v34 h253 n0 Y350.sz f13) (argsL := [(.ref b1)]) (rest := []) rfl rfl (lenOf pd_2 rfl) rfl (by decide) (Nat.le_of_ble_eq_true rfl) (by decide) (by decide) at_358 rfl (fun v358 T358 h358 Y358 q358 => ?_)
      obtain ⟨r358, rfl, p358, rfl⟩ := q358
      show Gl p e below _ (T358.setTop (mkF m 361 #[.val (.long la), .second, .val (.long lb), .second, .val (.int li), .val (.int si), .val (.int sh), .val (.int mm), .val (.ref b1), .val (.ref b39), .val (.int z81), .val (.ref b39), .val (.int (2 : Int32)), .val (.int v116), .val (.int v124), .val (.int z132), .val (.int z161), .val (.int v186), .val (.int v194), .val (.int v201), .val (.int v209), .val (.ref b213)] [(.long r358)]))
      refine Gl.lloadN Y358 rfl at_361 rfl ?_
      refine Gl.lcmpne Y358 at_362 rfl at_363 (by decide) rfl rfl (fun c363 => ?_) (fun c363 => ?_)
      · exact absurd (by rw [p358]; subst_vars; exact own_packed _) c363
      have j363 : r358.toInt = la.toInt := congrArg Int64.toInt c363
      refine Gl.aload Y358 rfl rfl at_366 rfl ?_
      refine Gl.callS Y358 (tw_11 hw) (tw_12 hw) (tw_9 hw) (tw_13 hw) (by decide) (rm20 l Z a0 hw [] b39 ck39 v45 v54 v63 v72 h253 n0 Y358.sz f14) (argsL := [(.ref b39)]) (rest := []) rfl rfl (lenOf pd_2 rfl) rfl (by decide) (Nat.le_of_ble_eq_true rfl) (by decide) (by decide) at_368 rfl (fun v368 T368 h368 Y368 q368 => ?_)
      obtain ⟨r368, rfl, p368, rfl⟩ := q368
      show Gl p e below _ (T368.setTop (mkF m 371 #[.val (.long la), .second, .val (.long lb), .second, .val (.int li), .val (.int si), .val (.int sh), .val (.int mm), .val (.ref b1), .val (.ref b39), .val (.int z81), .val (.ref b39), .val (.int (2 : Int32)), .val (.int v116), .val (.int v124), .val (.int z132), .val (.int z161), .val (.int v186), .val (.int v194), .val (.int v201), .val (.int v209), .val (.ref b213)] [(.long r368)]))
      refine Gl.lloadN Y368 rfl at_371 rfl ?_
      refine Gl.lcmpne Y368 at_372 rfl at_373 (by decide) rfl rfl (fun c373 => ?_) (fun c373 => ?_)
      · exact absurd (by rw [p368]; subst_vars; exact own_packed _) c373
      have j373 : r368.toInt = lb.toInt := congrArg Int64.toInt c373
      refine Gl.iconst Y368 (v := (1 : Int32)) (by decide) at_376 rfl ?_
      refine Gl.goto Y368 at_377 (by decide) rfl ?_
      exact Gl.retZ Y368 (by decide) (by decide) (x' := (1 : Int32)) (by decide) at_381 rfl
    · have hjl0 := own_off v116 0 (own_a1 hv116) (by decide)
      have hjs0 := own_off v124 0 (own_a1 hv124) (by decide)
      obtain ⟨ul0, hul0, rul0⟩ := own_get4 v7 v16 v25 v34 (v116 + 0) (own_c16 hv7) (own_c16 hv16) (own_c16 hv25) (own_c16 hv34) hjl0
      obtain ⟨us0, hus0, rus0⟩ := own_get4 v45 v54 v63 v72 (v124 + 0) (own_c16 hv45) (own_c16 hv54) (own_c16 hv63) (own_c16 hv72) hjs0
      have hjl1 := own_off v116 1 (own_a1 hv116) (by decide)
      have hjs1 := own_off v124 1 (own_a1 hv124) (by decide)
      obtain ⟨ul1, hul1, rul1⟩ := own_get4 v7 v16 v25 v34 (v116 + 1) (own_c16 hv7) (own_c16 hv16) (own_c16 hv25) (own_c16 hv34) hjl1
      obtain ⟨us1, hus1, rus1⟩ := own_get4 v45 v54 v63 v72 (v124 + 1) (own_c16 hv45) (own_c16 hv54) (own_c16 hv63) (own_c16 hv72) hjs1
      have hjl2 := own_off v116 2 (own_a1 hv116) (by decide)
      have hjs2 := own_off v124 2 (own_a1 hv124) (by decide)
      obtain ⟨ul2, hul2, rul2⟩ := own_get4 v7 v16 v25 v34 (v116 + 2) (own_c16 hv7) (own_c16 hv16) (own_c16 hv25) (own_c16 hv34) hjl2
      obtain ⟨us2, hus2, rus2⟩ := own_get4 v45 v54 v63 v72 (v124 + 2) (own_c16 hv45) (own_c16 hv54) (own_c16 hv63) (own_c16 hv72) hjs2
      have rle := own_or iz132 (own_a16 hv152) r_ulead
      have rse := own_or iz161 (own_a16 hv181) r_usec
      refine Gl.aload Y234 rfl rfl at_237 rfl ?_
      refine Gl.iload Y234 rfl at_239 rfl ?_
      refine Gl.iload Y234 rfl at_241 rfl ?_
      refine Gl.aload Y234 rfl rfl at_243 rfl ?_
      refine Gl.iload Y234 rfl at_245 rfl ?_
      refine Gl.iload Y234 rfl at_247 rfl ?_
      refine Gl.aload Y234 rfl rfl at_249 rfl ?_
      refine Gl.iload Y234 rfl at_251 rfl ?_
      have f15 : Arv Z h234 b1 ck1 .char (4 : Int32) [(.int v7), (.int v16), (.int v25), (.int v34)] (.int (0 : Int32)) := (((((f2.ext E213).other W219 (Nat.ne_of_lt (Nat.lt_of_lt_of_eq f2.lt g213.symm))).other W224 (Nat.ne_of_lt (Nat.lt_of_lt_of_eq f2.lt g213.symm))).other W229 (Nat.ne_of_lt (Nat.lt_of_lt_of_eq f2.lt g213.symm))).other W234 (Nat.ne_of_lt (Nat.lt_of_lt_of_eq f2.lt g213.symm)))
      have f16 : Arv Z h234 b39 ck39 .char (4 : Int32) [(.int v45), (.int v54), (.int v63), (.int v72)] (.int (0 : Int32)) := (((((A73.ext E213).other W219 (Nat.ne_of_lt (Nat.lt_of_lt_of_eq A73.lt g213.symm))).other W224 (Nat.ne_of_lt (Nat.lt_of_lt_of_eq A73.lt g213.symm))).other W229 (Nat.ne_of_lt (Nat.lt_of_lt_of_eq A73.lt g213.symm))).other W234 (Nat.ne_of_lt (Nat.lt_of_lt_of_eq A73.lt g213.symm)))
      refine Gl.callS Y234 (tw_3 hw) (tw_4 hw) (tw_5 hw) (tw_6 hw) (by decide) (rm3 l Z a0 hw [] b1 v116 z132 b39 v124 z161 b213 ck1 ck39 ck213 [(.int v7), (.int v16), (.int v25), (.int v34)] [(.int v45), (.int v54), (.int v63), (.int v72)] v186 v194 v201 v209 ul0 us0 ul1 us1 ul2 us2 h234 n0 Y234.sz f15 f16 A234 sb213 (Nat.ne_of_lt (Nat.lt_of_lt_of_eq f2.lt g213.symm)) (Nat.ne_of_lt (Nat.lt_of_lt_of_eq A73.lt g213.symm)) (hjl0) (hul0) (hjs0) (hus0) (hjl1) (hul1) (hjs1) (hus1) (hjl2) (hul2) (hjs2) (hus2)) (argsL := [(.ref b1), (.int v116), (.int z132), (.ref b39), (.int v124), (.int z161), (.ref b213), (.int (3 : Int32))]) (rest := []) rfl rfl (lenOf pd_0 rfl) rfl (by decide) (Nat.le_of_ble_eq_true rfl) (by decide) (by decide) at_253 rfl (fun v253 T253 h253 Y253 q253 => ?_)
      obtain ⟨rfl, K253, f253_0⟩ := q253
      show Gl p e below _ (T253.setTop (mkF m 256 #[.val (.long la), .second, .val (.long lb), .second, .val (.int li), .val (.int si), .val (.int sh), .val (.int mm), .val (.ref b1), .val (.ref b39), .val (.int z81), .val (.ref b39), .val (.int (3 : Int32)), .val (.int v116), .val (.int v124), .val (.int z132), .val (.int z161), .val (.int v186), .val (.int v194), .val (.int v201), .val (.int v209), .val (.ref b213)] []))
      refine Gl.aload Y253 rfl rfl at_256 rfl ?_
      refine Gl.iconst Y253 (v := (0 : Int32)) (by decide) at_258 rfl ?_
      refine Gl.iload Y253 rfl at_259 rfl ?_
      refine Gl.iload Y253 rfl at_261 rfl ?_
      refine Gl.aload Y253 rfl rfl at_263 rfl ?_
      refine Gl.iload Y253 rfl at_265 rfl ?_
      refine Gl.iload Y253 rfl at_267 rfl ?_
      refine Gl.aload Y253 rfl rfl at_269 rfl ?_
      refine Gl.iload Y253 rfl at_271 rfl ?_
      refine Gl.iload Y253 rfl at_273 rfl ?_
      have f17 : Arv Z h253 b1 ck1 .char (4 : Int32) [(.int v7), (.int v16), (.int v25), (.int v34)] (.int (0 : Int32)) := (f15.keep K253 (ninS (Nat.ne_of_lt (Nat.lt_of_lt_of_eq f2.lt g213.symm)) nin0))
      have f18 : Arv Z h253 b39 ck39 .char (4 : Int32) [(.int v45), (.int v54), (.int v63), (.int v72)] (.int (0 : Int32)) := (f16.keep K253 (ninS (Nat.ne_of_lt (Nat.lt_of_lt_of_eq A73.lt g213.symm)) nin0))
      refine Gl.callS Y253 (tw_7 hw) (tw_8 hw) (tw_9 hw) (tw_10 hw) (by decide) (rm7 l Z a0 hw [] b1 v116 z132 b39 v124 z161 b213 ck1 ck39 ck213 [(.int v7), (.int v16), (.int v25), (.int v34)] [(.int v45), (.int v54), (.int v63), (.int v72)] v186 (own_mark ul0 z132 us0 z161) (own_mark ul1 z132 us1 z161) (own_mark ul2 z132 us2 z161) v209 ul0 us0 h253 n0 Y253.sz f17 f18 f253_0 (hjl0) (hul0) (hjs0) (hus0) (rul0) (rus0) (rle) (rse) (rfl)) (argsL := [(.ref b213), (.int (0 : Int32)), (.int (3 : Int32)), (.int v186), (.ref b1), (.int v116), (.int z132), (.ref b39), (.int v124), (.int z161)]) (rest := []) rfl rfl (lenOf pd_1 rfl) rfl (by decide) (Nat.le_of_ble_eq_true rfl) (by decide) (by decide) at_275 rfl (fun v275 T275 h275 Y275 q275 => ?_)
      obtain ⟨rfl, rfl⟩ := q275
      show Gl p e below _ (T275.setTop (mkF m 278 #[.val (.long la), .second, .val (.long lb), .second, .val (.int li), .val (.int si), .val (.int sh), .val (.int mm), .val (.ref b1), .val (.ref b39), .val (.int z81), .val (.ref b39), .val (.int (3 : Int32)), .val (.int v116), .val (.int v124), .val (.int z132), .val (.int z161), .val (.int v186), .val (.int v194), .val (.int v201), .val (.int v209), .val (.ref b213)] [(.int (1 : Int32))]))
      refine Gl.ifeq Y275 at_278 (by decide) rfl rfl (fun c278 => ?_) (fun c278 => ?_)
      · exact absurd c278 (by decide)
      refine Gl.aload Y275 rfl rfl at_281 rfl ?_
      refine Gl.iconst Y275 (v := (1 : Int32)) (by decide) at_283 rfl ?_
      refine Gl.iload Y275 rfl at_284 rfl ?_
      refine Gl.iload Y275 rfl at_286 rfl ?_
      refine Gl.aload Y275 rfl rfl at_288 rfl ?_
      refine Gl.iload Y275 rfl at_290 rfl ?_
      refine Gl.iload Y275 rfl at_292 rfl ?_
      refine Gl.aload Y275 rfl rfl at_294 rfl ?_
      refine Gl.iload Y275 rfl at_296 rfl ?_
      refine Gl.iload Y275 rfl at_298 rfl ?_
      refine Gl.callS Y275 (tw_7 hw) (tw_8 hw) (tw_9 hw) (tw_10 hw) (by decide) (rm11 l Z a0 hw [] b1 v116 z132 b39 v124 z161 b213 ck1 ck39 ck213 [(.int v7), (.int v16), (.int v25), (.int v34)] [(.int v45), (.int v54), (.int v63), (.int v72)] v194 (own_mark ul0 z132 us0 z161) (own_mark ul1 z132 us1 z161) (own_mark ul2 z132 us2 z161) v209 ul1 us1 h253 n0 Y275.sz f17 f18 f253_0 (hjl1) (hul1) (hjs1) (hus1) (rul1) (rus1) (rle) (rse) (rfl)) (argsL := [(.ref b213), (.int (1 : Int32)), (.int (3 : Int32)), (.int v194), (.ref b1), (.int v116), (.int z132), (.ref b39), (.int v124), (.int z161)]) (rest := []) rfl rfl (lenOf pd_1 rfl) rfl (by decide) (Nat.le_of_ble_eq_true rfl) (by decide) (by decide) at_300 rfl (fun v300 T300 h300 Y300 q300 => ?_)
      obtain ⟨rfl, rfl⟩ := q300
      show Gl p e below _ (T300.setTop (mkF m 303 #[.val (.long la), .second, .val (.long lb), .second, .val (.int li), .val (.int si), .val (.int sh), .val (.int mm), .val (.ref b1), .val (.ref b39), .val (.int z81), .val (.ref b39), .val (.int (3 : Int32)), .val (.int v116), .val (.int v124), .val (.int z132), .val (.int z161), .val (.int v186), .val (.int v194), .val (.int v201), .val (.int v209), .val (.ref b213)] [(.int (1 : Int32))]))
      refine Gl.ifeq Y300 at_303 (by decide) rfl rfl (fun c303 => ?_) (fun c303 => ?_)
      · exact absurd c303 (by decide)
      refine Gl.aload Y300 rfl rfl at_306 rfl ?_
      refine Gl.iconst Y300 (v := (2 : Int32)) (by decide) at_308 rfl ?_
      refine Gl.iload Y300 rfl at_309 rfl ?_
      refine Gl.iload Y300 rfl at_311 rfl ?_
      refine Gl.aload Y300 rfl rfl at_313 rfl ?_
      refine Gl.iload Y300 rfl at_315 rfl ?_
      refine Gl.iload Y300 rfl at_317 rfl ?_
      refine Gl.aload Y300 rfl rfl at_319 rfl ?_
      refine Gl.iload Y300 rfl at_321 rfl ?_
      refine Gl.iload Y300 rfl at_323 rfl ?_
      refine Gl.callS Y300 (tw_7 hw) (tw_8 hw) (tw_9 hw) (tw_10 hw) (by decide) (rm15 l Z a0 hw [] b1 v116 z132 b39 v124 z161 b213 ck1 ck39 ck213 [(.int v7), (.int v16), (.int v25), (.int v34)] [(.int v45), (.int v54), (.int v63), (.int v72)] v201 (own_mark ul0 z132 us0 z161) (own_mark ul1 z132 us1 z161) (own_mark ul2 z132 us2 z161) v209 ul2 us2 h253 n0 Y300.sz f17 f18 f253_0 (hjl2) (hul2) (hjs2) (hus2) (rul2) (rus2) (rle) (rse) (rfl)) (argsL := [(.ref b213), (.int (2 : Int32)), (.int (3 : Int32)), (.int v201), (.ref b1), (.int v116), (.int z132), (.ref b39), (.int v124), (.int z161)]) (rest := []) rfl rfl (lenOf pd_1 rfl) rfl (by decide) (Nat.le_of_ble_eq_true rfl) (by decide) (by decide) at_325 rfl (fun v325 T325 h325 Y325 q325 => ?_)
      obtain ⟨rfl, rfl⟩ := q325
      show Gl p e below _ (T325.setTop (mkF m 328 #[.val (.long la), .second, .val (.long lb), .second, .val (.int li), .val (.int si), .val (.int sh), .val (.int mm), .val (.ref b1), .val (.ref b39), .val (.int z81), .val (.ref b39), .val (.int (3 : Int32)), .val (.int v116), .val (.int v124), .val (.int z132), .val (.int z161), .val (.int v186), .val (.int v194), .val (.int v201), .val (.int v209), .val (.ref b213)] [(.int (1 : Int32))]))
      refine Gl.ifeq Y325 at_328 (by decide) rfl rfl (fun c328 => ?_) (fun c328 => ?_)
      · exact absurd c328 (by decide)
      refine Gl.aload Y325 rfl rfl at_331 rfl ?_
      refine Gl.iconst Y325 (v := (3 : Int32)) (by decide) at_333 rfl ?_
      refine Gl.iload Y325 rfl at_334 rfl ?_
      refine Gl.iload Y325 rfl at_336 rfl ?_
      refine Gl.aload Y325 rfl rfl at_338 rfl ?_
      refine Gl.iload Y325 rfl at_340 rfl ?_
      refine Gl.iload Y325 rfl at_342 rfl ?_
      refine Gl.aload Y325 rfl rfl at_344 rfl ?_
      refine Gl.iload Y325 rfl at_346 rfl ?_
      refine Gl.iload Y325 rfl at_348 rfl ?_
      refine Gl.callS Y325 (tw_7 hw) (tw_8 hw) (tw_9 hw) (tw_10 hw) (by decide) (rm19 l Z a0 hw [] b1 v116 z132 b39 v124 z161 b213 ck1 ck39 ck213 [(.int v7), (.int v16), (.int v25), (.int v34)] [(.int v45), (.int v54), (.int v63), (.int v72)] v209 (own_mark ul0 z132 us0 z161) (own_mark ul1 z132 us1 z161) (own_mark ul2 z132 us2 z161) v209 h253 n0 Y325.sz f17 f18 f253_0 (rfl)) (argsL := [(.ref b213), (.int (3 : Int32)), (.int (3 : Int32)), (.int v209), (.ref b1), (.int v116), (.int z132), (.ref b39), (.int v124), (.int z161)]) (rest := []) rfl rfl (lenOf pd_1 rfl) rfl (by decide) (Nat.le_of_ble_eq_true rfl) (by decide) (by decide) at_350 rfl (fun v350 T350 h350 Y350 q350 => ?_)
      obtain ⟨rfl, rfl⟩ := q350
      show Gl p e below _ (T350.setTop (mkF m 353 #[.val (.long la), .second, .val (.long lb), .second, .val (.int li), .val (.int si), .val (.int sh), .val (.int mm), .val (.ref b1), .val (.ref b39), .val (.int z81), .val (.ref b39), .val (.int (3 : Int32)), .val (.int v116), .val (.int v124), .val (.int z132), .val (.int z161), .val (.int v186), .val (.int v194), .val (.int v201), .val (.int v209), .val (.ref b213)] [(.int (1 : Int32))]))
      refine Gl.ifeq Y350 at_353 (by decide) rfl rfl (fun c353 => ?_) (fun c353 => ?_)
      · exact absurd c353 (by decide)
      refine Gl.aload Y350 rfl rfl at_356 rfl ?_
      refine Gl.callS Y350 (tw_11 hw) (tw_12 hw) (tw_9 hw) (tw_13 hw) (by decide) (rm20 l Z a0 hw [] b1 ck1 v7 v16 v25 v34 h253 n0 Y350.sz f17) (argsL := [(.ref b1)]) (rest := []) rfl rfl (lenOf pd_2 rfl) rfl (by decide) (Nat.le_of_ble_eq_true rfl) (by decide) (by decide) at_358 rfl (fun v358 T358 h358 Y358 q358 => ?_)
      obtain ⟨r358, rfl, p358, rfl⟩ := q358
      show Gl p e below _ (T358.setTop (mkF m 361 #[.val (.long la), .second, .val (.long lb), .second, .val (.int li), .val (.int si), .val (.int sh), .val (.int mm), .val (.ref b1), .val (.ref b39), .val (.int z81), .val (.ref b39), .val (.int (3 : Int32)), .val (.int v116), .val (.int v124), .val (.int z132), .val (.int z161), .val (.int v186), .val (.int v194), .val (.int v201), .val (.int v209), .val (.ref b213)] [(.long r358)]))
      refine Gl.lloadN Y358 rfl at_361 rfl ?_
      refine Gl.lcmpne Y358 at_362 rfl at_363 (by decide) rfl rfl (fun c363 => ?_) (fun c363 => ?_)
      · exact absurd (by rw [p358]; subst_vars; exact own_packed _) c363
      have j363 : r358.toInt = la.toInt := congrArg Int64.toInt c363
      refine Gl.aload Y358 rfl rfl at_366 rfl ?_
      refine Gl.callS Y358 (tw_11 hw) (tw_12 hw) (tw_9 hw) (tw_13 hw) (by decide) (rm20 l Z a0 hw [] b39 ck39 v45 v54 v63 v72 h253 n0 Y358.sz f18) (argsL := [(.ref b39)]) (rest := []) rfl rfl (lenOf pd_2 rfl) rfl (by decide) (Nat.le_of_ble_eq_true rfl) (by decide) (by decide) at_368 rfl (fun v368 T368 h368 Y368 q368 => ?_)
      obtain ⟨r368, rfl, p368, rfl⟩ := q368
      show Gl p e below _ (T368.setTop (mkF m 371 #[.val (.long la), .second, .val (.long lb), .second, .val (.int li), .val (.int si), .val (.int sh), .val (.int mm), .val (.ref b1), .val (.ref b39), .val (.int z81), .val (.ref b39), .val (.int (3 : Int32)), .val (.int v116), .val (.int v124), .val (.int z132), .val (.int z161), .val (.int v186), .val (.int v194), .val (.int v201), .val (.int v209), .val (.ref b213)] [(.long r368)]))
      refine Gl.lloadN Y368 rfl at_371 rfl ?_
      refine Gl.lcmpne Y368 at_372 rfl at_373 (by decide) rfl rfl (fun c373 => ?_) (fun c373 => ?_)
      · exact absurd (by rw [p368]; subst_vars; exact own_packed _) c373
      have j373 : r368.toInt = lb.toInt := congrArg Int64.toInt c373
      refine Gl.iconst Y368 (v := (1 : Int32)) (by decide) at_376 rfl ?_
      refine Gl.goto Y368 at_377 (by decide) rfl ?_
      exact Gl.retZ Y368 (by decide) (by decide) (x' := (1 : Int32)) (by decide) at_381 rfl
  · have j93 : ¬ (z81.toInt = 0) := fun q => c93 (Int32.toInt_inj.mp q)
    refine Gl.aload Y81j rfl rfl at_96 rfl ?_
    refine Gl.goto Y81j at_98 (by decide) rfl ?_
    refine Gl.astore Y81j rfl (L' := #[.val (.long la), .second, .val (.long lb), .second, .val (.int li), .val (.int si), .val (.int sh), .val (.int mm), .val (.ref b1), .val (.ref b39), .val (.int z81), .val (.ref b1), .unset, .unset, .unset, .unset, .unset, .unset, .unset, .unset, .unset, .unset]) rfl at_103 rfl ?_
    refine Gl.iload Y81j rfl at_105 rfl ?_
    refine Gl.iconst Y81j (v := (3 : Int32)) (by decide) at_107 rfl ?_
    obtain ⟨v108, hv108⟩ : ∃ z : Int32, sh &&& (3 : Int32) = z := ⟨_, rfl⟩
    refine Gl.iand Y81j hv108 at_108 rfl ?_
    refine Gl.istore Y81j (L' := #[.val (.long la), .second, .val (.long lb), .second, .val (.int li), .val (.int si), .val (.int sh), .val (.int mm), .val (.ref b1), .val (.ref b39), .val (.int z81), .val (.ref b1), .val (.int v108), .unset, .unset, .unset, .unset, .unset, .unset, .unset, .unset, .unset]) rfl at_109 rfl ?_
    refine Gl.iload Y81j rfl at_111 rfl ?_
    refine Gl.iconst Y81j (v := (2 : Int32)) (by decide) at_113 rfl ?_
    obtain ⟨v114, hv114⟩ : ∃ z : Int32, (sh.toUInt32 >>> ((2 : Int32) &&& 31).toUInt32).toInt32 = z := ⟨_, rfl⟩
    refine Gl.iushr Y81j hv114 at_114 rfl ?_
    refine Gl.iconst Y81j (v := (1 : Int32)) (by decide) at_115 rfl ?_
    obtain ⟨v116, hv116⟩ : ∃ z : Int32, v114 &&& (1 : Int32) = z := ⟨_, rfl⟩
    refine Gl.iand Y81j hv116 at_116 rfl ?_
    refine Gl.istore Y81j (L' := #[.val (.long la), .second, .val (.long lb), .second, .val (.int li), .val (.int si), .val (.int sh), .val (.int mm), .val (.ref b1), .val (.ref b39), .val (.int z81), .val (.ref b1), .val (.int v108), .val (.int v116), .unset, .unset, .unset, .unset, .unset, .unset, .unset, .unset]) rfl at_117 rfl ?_
    refine Gl.iload Y81j rfl at_119 rfl ?_
    refine Gl.iconst Y81j (v := (3 : Int32)) (by decide) at_121 rfl ?_
    obtain ⟨v122, hv122⟩ : ∃ z : Int32, (sh.toUInt32 >>> ((3 : Int32) &&& 31).toUInt32).toInt32 = z := ⟨_, rfl⟩
    refine Gl.iushr Y81j hv122 at_122 rfl ?_
    refine Gl.iconst Y81j (v := (1 : Int32)) (by decide) at_123 rfl ?_
    obtain ⟨v124, hv124⟩ : ∃ z : Int32, v122 &&& (1 : Int32) = z := ⟨_, rfl⟩
    refine Gl.iand Y81j hv124 at_124 rfl ?_
    refine Gl.istore Y81j (L' := #[.val (.long la), .second, .val (.long lb), .second, .val (.int li), .val (.int si), .val (.int sh), .val (.int mm), .val (.ref b1), .val (.ref b39), .val (.int z81), .val (.ref b1), .val (.int v108), .val (.int v116), .val (.int v124), .unset, .unset, .unset, .unset, .unset, .unset, .unset]) rfl at_125 rfl ?_
    refine Gl.iload Y81j rfl at_127 rfl ?_
    refine Gl.bipush Y81j (v := (32 : Int32)) (by decide) at_129 rfl ?_
    obtain ⟨v131, hv131⟩ : ∃ z : Int32, sh &&& (32 : Int32) = z := ⟨_, rfl⟩
    refine Gl.iand Y81j hv131 at_131 rfl ?_
    obtain ⟨v152, hv152⟩ : ∃ z : Int32, li &&& (65535 : Int32) = z := ⟨_, rfl⟩
    obtain ⟨v141, hv141⟩ : ∃ z : Int32, (sh.toUInt32 >>> ((6 : Int32) &&& 31).toUInt32).toInt32 = z := ⟨_, rfl⟩
    obtain ⟨v143, hv143⟩ : ∃ z : Int32, v141 &&& (3 : Int32) = z := ⟨_, rfl⟩
    obtain ⟨ulead, hv_ulead, r_ulead⟩ := own_get4 v7 v16 v25 v34 v143 (own_c16 hv7) (own_c16 hv16) (own_c16 hv25) (own_c16 hv34) (own_in4 v143 (own_a3 hv143))
    obtain ⟨z132, hz132⟩ : ∃ z : Int32, (if v131 = (0 : Int32) then v152 else ulead) = z := ⟨_, rfl⟩
    have iz132 : (v131.toInt = 0 ∧ (z132.toInt = v152.toInt)) ∨ (¬ (v131.toInt = 0) ∧ (z132.toInt = ulead.toInt)) := own_ite (c := v131 = (0 : Int32)) (fun q1 => ⟨congrArg Int32.toInt q1, congrArg Int32.toInt (show z132 = v152 from by rw [← hz132]; simp only [q1, ↓reduceIte, if_true, if_false, ite_self])⟩) (fun q1 => ⟨fun q => q1 (Int32.toInt_inj.mp q), congrArg Int32.toInt (show z132 = ulead from by rw [← hz132]; simp only [q1, ↓reduceIte, if_true, if_false, ite_self])⟩)
    refine own_cut (B := ∀ T', Sd Z "com/example/ref_search/refsearch/matcher/CharsMarkPairPinLaw" code maxLocals (some .boolean) n0 p l e room_1 s m #[(.long la), (.long lb), (.int li), (.int si), (.int sh), (.int mm)] below meth c T' h73 2 8 → Gl p e below (Pst s n0 room_1.cells room_1.slots (QL Z la lb li si sh mm h0)) (T'.setTop (mkF m 153 #[.val (.long la), .second, .val (.long lb), .second, .val (.int li), .val (.int si), .val (.int sh), .val (.int mm), .val (.ref b1), .val (.ref b39), .val (.int z81), .val (.ref b1), .val (.int v108), .val (.int v116), .val (.int v124), .unset, .unset, .unset, .unset, .unset, .unset, .unset] [(.int z132)]))) (fun jk => ?_) (fun T132j Y132j => ?_)
    · refine Gl.ifeq Y81j at_132 (by decide) rfl rfl (fun c132 => ?_) (fun c132 => ?_)
      · have j132 : v131.toInt = 0 := congrArg Int32.toInt c132
        refine Gl.iload Y81j rfl at_148 rfl ?_
        refine Gl.ldcI Y81j (tw_1 hw) at_150 rfl ?_
        refine Gl.iand Y81j hv152 at_152 rfl ?_
        have ez132 : z132 = v152 := by rw [← hz132]; simp only [c132, ↓reduceIte, if_true, if_false]
        rw [ez132] at jk
        exact jk T81j Y81j
      · have j132 : ¬ (v131.toInt = 0) := fun q => c132 (Int32.toInt_inj.mp q)
        refine Gl.aload Y81j rfl rfl at_135 rfl ?_
        refine Gl.iload Y81j rfl at_137 rfl ?_
        refine Gl.bipush Y81j (v := (6 : Int32)) (by decide) at_139 rfl ?_
        refine Gl.iushr Y81j hv141 at_141 rfl ?_
        refine Gl.iconst Y81j (v := (3 : Int32)) (by decide) at_142 rfl ?_
        refine Gl.iand Y81j hv143 at_143 rfl ?_
        have f19 : Arv Z h73 b1 ck1 .char (4 : Int32) [(.int v7), (.int v16), (.int v25), (.int v34)] (.int (0 : Int32)) := (((((A35.ext E39).other W46 (Nat.ne_of_lt (Nat.lt_of_lt_of_eq A35.lt g39.symm))).other W55 (Nat.ne_of_lt (Nat.lt_of_lt_of_eq A35.lt g39.symm))).other W64 (Nat.ne_of_lt (Nat.lt_of_lt_of_eq A35.lt g39.symm))).other W73 (Nat.ne_of_lt (Nat.lt_of_lt_of_eq A35.lt g39.symm)))
        refine Gl.caload Y81j f19 (own_in4 v143 (own_a3 hv143)) (v := (.int ulead)) hv_ulead at_144 rfl ?_
        refine Gl.goto Y81j at_145 (by decide) rfl ?_
        have ez132 : z132 = ulead := by rw [← hz132]; simp only [c132, ↓reduceIte, if_true, if_false]
        rw [ez132] at jk
        exact jk T81j Y81j
    refine Gl.istore Y132j (L' := #[.val (.long la), .second, .val (.long lb), .second, .val (.int li), .val (.int si), .val (.int sh), .val (.int mm), .val (.ref b1), .val (.ref b39), .val (.int z81), .val (.ref b1), .val (.int v108), .val (.int v116), .val (.int v124), .val (.int z132), .unset, .unset, .unset, .unset, .unset, .unset]) rfl at_153 rfl ?_
    refine Gl.iload Y132j rfl at_155 rfl ?_
    refine Gl.sipush Y132j (v := (256 : Int32)) (by decide) at_157 rfl ?_
    obtain ⟨v160, hv160⟩ : ∃ z : Int32, sh &&& (256 : Int32) = z := ⟨_, rfl⟩
    refine Gl.iand Y132j hv160 at_160 rfl ?_
    obtain ⟨v181, hv181⟩ : ∃ z : Int32, si &&& (65535 : Int32) = z := ⟨_, rfl⟩
    obtain ⟨v170, hv170⟩ : ∃ z : Int32, (sh.toUInt32 >>> ((9 : Int32) &&& 31).toUInt32).toInt32 = z := ⟨_, rfl⟩
    obtain ⟨v172, hv172⟩ : ∃ z : Int32, v170 &&& (3 : Int32) = z := ⟨_, rfl⟩
    obtain ⟨usec, hv_usec, r_usec⟩ := own_get4 v7 v16 v25 v34 v172 (own_c16 hv7) (own_c16 hv16) (own_c16 hv25) (own_c16 hv34) (own_in4 v172 (own_a3 hv172))
    obtain ⟨z161, hz161⟩ : ∃ z : Int32, (if v160 = (0 : Int32) then v181 else usec) = z := ⟨_, rfl⟩
    have iz161 : (v160.toInt = 0 ∧ (z161.toInt = v181.toInt)) ∨ (¬ (v160.toInt = 0) ∧ (z161.toInt = usec.toInt)) := own_ite (c := v160 = (0 : Int32)) (fun q1 => ⟨congrArg Int32.toInt q1, congrArg Int32.toInt (show z161 = v181 from by rw [← hz161]; simp only [q1, ↓reduceIte, if_true, if_false, ite_self])⟩) (fun q1 => ⟨fun q => q1 (Int32.toInt_inj.mp q), congrArg Int32.toInt (show z161 = usec from by rw [← hz161]; simp only [q1, ↓reduceIte, if_true, if_false, ite_self])⟩)
    refine own_cut (B := ∀ T', Sd Z "com/example/ref_search/refsearch/matcher/CharsMarkPairPinLaw" code maxLocals (some .boolean) n0 p l e room_1 s m #[(.long la), (.long lb), (.int li), (.int si), (.int sh), (.int mm)] below meth c T' h73 2 8 → Gl p e below (Pst s n0 room_1.cells room_1.slots (QL Z la lb li si sh mm h0)) (T'.setTop (mkF m 182 #[.val (.long la), .second, .val (.long lb), .second, .val (.int li), .val (.int si), .val (.int sh), .val (.int mm), .val (.ref b1), .val (.ref b39), .val (.int z81), .val (.ref b1), .val (.int v108), .val (.int v116), .val (.int v124), .val (.int z132), .unset, .unset, .unset, .unset, .unset, .unset] [(.int z161)]))) (fun jk => ?_) (fun T161j Y161j => ?_)
    · refine Gl.ifeq Y132j at_161 (by decide) rfl rfl (fun c161 => ?_) (fun c161 => ?_)
      · have j161 : v160.toInt = 0 := congrArg Int32.toInt c161
        refine Gl.iload Y132j rfl at_177 rfl ?_
        refine Gl.ldcI Y132j (tw_1 hw) at_179 rfl ?_
        refine Gl.iand Y132j hv181 at_181 rfl ?_
        have ez161 : z161 = v181 := by rw [← hz161]; simp only [c161, ↓reduceIte, if_true, if_false]
        rw [ez161] at jk
        exact jk T132j Y132j
      · have j161 : ¬ (v160.toInt = 0) := fun q => c161 (Int32.toInt_inj.mp q)
        refine Gl.aload Y132j rfl rfl at_164 rfl ?_
        refine Gl.iload Y132j rfl at_166 rfl ?_
        refine Gl.bipush Y132j (v := (9 : Int32)) (by decide) at_168 rfl ?_
        refine Gl.iushr Y132j hv170 at_170 rfl ?_
        refine Gl.iconst Y132j (v := (3 : Int32)) (by decide) at_171 rfl ?_
        refine Gl.iand Y132j hv172 at_172 rfl ?_
        have f20 : Arv Z h73 b1 ck1 .char (4 : Int32) [(.int v7), (.int v16), (.int v25), (.int v34)] (.int (0 : Int32)) := (((((A35.ext E39).other W46 (Nat.ne_of_lt (Nat.lt_of_lt_of_eq A35.lt g39.symm))).other W55 (Nat.ne_of_lt (Nat.lt_of_lt_of_eq A35.lt g39.symm))).other W64 (Nat.ne_of_lt (Nat.lt_of_lt_of_eq A35.lt g39.symm))).other W73 (Nat.ne_of_lt (Nat.lt_of_lt_of_eq A35.lt g39.symm)))
        refine Gl.caload Y132j f20 (own_in4 v172 (own_a3 hv172)) (v := (.int usec)) hv_usec at_173 rfl ?_
        refine Gl.goto Y132j at_174 (by decide) rfl ?_
        have ez161 : z161 = usec := by rw [← hz161]; simp only [c161, ↓reduceIte, if_true, if_false]
        rw [ez161] at jk
        exact jk T132j Y132j
    refine Gl.istore Y161j (L' := #[.val (.long la), .second, .val (.long lb), .second, .val (.int li), .val (.int si), .val (.int sh), .val (.int mm), .val (.ref b1), .val (.ref b39), .val (.int z81), .val (.ref b1), .val (.int v108), .val (.int v116), .val (.int v124), .val (.int z132), .val (.int z161), .unset, .unset, .unset, .unset, .unset]) rfl at_182 rfl ?_
    refine Gl.iload Y161j rfl at_184 rfl ?_
    obtain ⟨v186, hv186⟩ : ∃ z : Int32, mm.toInt16.toInt32 = z := ⟨_, rfl⟩
    refine Gl.i2s Y161j hv186 at_186 rfl ?_
    refine Gl.istore Y161j (L' := #[.val (.long la), .second, .val (.long lb), .second, .val (.int li), .val (.int si), .val (.int sh), .val (.int mm), .val (.ref b1), .val (.ref b39), .val (.int z81), .val (.ref b1), .val (.int v108), .val (.int v116), .val (.int v124), .val (.int z132), .val (.int z161), .val (.int v186), .unset, .unset, .unset, .unset]) rfl at_187 rfl ?_
    refine Gl.iload Y161j rfl at_189 rfl ?_
    refine Gl.bipush Y161j (v := (16 : Int32)) (by decide) at_191 rfl ?_
    obtain ⟨v193, hv193⟩ : ∃ z : Int32, (mm.toUInt32 >>> ((16 : Int32) &&& 31).toUInt32).toInt32 = z := ⟨_, rfl⟩
    refine Gl.iushr Y161j hv193 at_193 rfl ?_
    obtain ⟨v194, hv194⟩ : ∃ z : Int32, v193.toInt16.toInt32 = z := ⟨_, rfl⟩
    refine Gl.i2s Y161j hv194 at_194 rfl ?_
    refine Gl.istore Y161j (L' := #[.val (.long la), .second, .val (.long lb), .second, .val (.int li), .val (.int si), .val (.int sh), .val (.int mm), .val (.ref b1), .val (.ref b39), .val (.int z81), .val (.ref b1), .val (.int v108), .val (.int v116), .val (.int v124), .val (.int z132), .val (.int z161), .val (.int v186), .val (.int v194), .unset, .unset, .unset]) rfl at_195 rfl ?_
    refine Gl.iload Y161j rfl at_197 rfl ?_
    refine Gl.iconst Y161j (v := (-1 : Int32)) (by decide) at_199 rfl ?_
    obtain ⟨v200, hv200⟩ : ∃ z : Int32, mm ^^^ (-1 : Int32) = z := ⟨_, rfl⟩
    refine Gl.ixor Y161j hv200 at_200 rfl ?_
    obtain ⟨v201, hv201⟩ : ∃ z : Int32, v200.toInt16.toInt32 = z := ⟨_, rfl⟩
    refine Gl.i2s Y161j hv201 at_201 rfl ?_
    refine Gl.istore Y161j (L' := #[.val (.long la), .second, .val (.long lb), .second, .val (.int li), .val (.int si), .val (.int sh), .val (.int mm), .val (.ref b1), .val (.ref b39), .val (.int z81), .val (.ref b1), .val (.int v108), .val (.int v116), .val (.int v124), .val (.int z132), .val (.int z161), .val (.int v186), .val (.int v194), .val (.int v201), .unset, .unset]) rfl at_202 rfl ?_
    refine Gl.iload Y161j rfl at_204 rfl ?_
    refine Gl.bipush Y161j (v := (8 : Int32)) (by decide) at_206 rfl ?_
    obtain ⟨v208, hv208⟩ : ∃ z : Int32, (mm.toUInt32 >>> ((8 : Int32) &&& 31).toUInt32).toInt32 = z := ⟨_, rfl⟩
    refine Gl.iushr Y161j hv208 at_208 rfl ?_
    obtain ⟨v209, hv209⟩ : ∃ z : Int32, v208.toInt16.toInt32 = z := ⟨_, rfl⟩
    refine Gl.i2s Y161j hv209 at_209 rfl ?_
    refine Gl.istore Y161j (L' := #[.val (.long la), .second, .val (.long lb), .second, .val (.int li), .val (.int si), .val (.int sh), .val (.int mm), .val (.ref b1), .val (.ref b39), .val (.int z81), .val (.ref b1), .val (.int v108), .val (.int v116), .val (.int v124), .val (.int z132), .val (.int z161), .val (.int v186), .val (.int v194), .val (.int v201), .val (.int v209), .unset]) rfl at_210 rfl ?_
    refine Gl.iconst Y161j (v := (4 : Int32)) (by decide) at_212 rfl ?_
    refine Gl.newP Y161j 4 (ty := .short) rfl (tw_2 hw) (by decide) (by decide) (Nat.le_of_ble_eq_true rfl) (Nat.le_of_ble_eq_true rfl) (Nat.le_of_ble_eq_true rfl) at_213 rfl (fun T213 h213 b213 ck213 Y213 E213 g213 sb213 V213 => ?_)
    have f21 : Arv Z h73 b1 ck1 .char (4 : Int32) [(.int v7), (.int v16), (.int v25), (.int v34)] (.int (0 : Int32)) := (((((A35.ext E39).other W46 (Nat.ne_of_lt (Nat.lt_of_lt_of_eq A35.lt g39.symm))).other W55 (Nat.ne_of_lt (Nat.lt_of_lt_of_eq A35.lt g39.symm))).other W64 (Nat.ne_of_lt (Nat.lt_of_lt_of_eq A35.lt g39.symm))).other W73 (Nat.ne_of_lt (Nat.lt_of_lt_of_eq A35.lt g39.symm)))
    have V213 : Arv Z h213 b213 ck213 .short (4 : Int32) [(.int (0 : Int32)), (.int (0 : Int32)), (.int (0 : Int32)), (.int (0 : Int32))] (.int (0 : Int32)) := V213.pad (pad_rep [] (.int (0 : Int32)) 4)
    show Gl p e below _ (T213.setTop (mkF m 215 #[.val (.long la), .second, .val (.long lb), .second, .val (.int li), .val (.int si), .val (.int sh), .val (.int mm), .val (.ref b1), .val (.ref b39), .val (.int z81), .val (.ref b1), .val (.int v108), .val (.int v116), .val (.int v124), .val (.int z132), .val (.int z161), .val (.int v186), .val (.int v194), .val (.int v201), .val (.int v209), .unset] [(.ref b213)]))
    refine Gl.dup Y213 rfl at_215 rfl ?_
    refine Gl.iconst Y213 (v := (0 : Int32)) (by decide) at_216 rfl ?_
    refine Gl.iload Y213 rfl at_217 rfl ?_
    refine Gl.sastore Y213 V213 (v := (.int v186)) (congrArg Value.int (own_narS hv186)) ⟨by decide, by decide⟩ (ix := 0) rfl (Nat.le_of_ble_eq_true rfl) sb213 at_219 rfl (fun T219 h219 Y219 W219 A219 => ?_)
    have A219 : Arv Z h219 b213 ck213 .short (4 : Int32) [(.int v186), (.int (0 : Int32)), (.int (0 : Int32)), (.int (0 : Int32))] (.int (0 : Int32)) := A219
    show Gl p e below _ (T219.setTop (mkF m 220 #[.val (.long la), .second, .val (.long lb), .second, .val (.int li), .val (.int si), .val (.int sh), .val (.int mm), .val (.ref b1), .val (.ref b39), .val (.int z81), .val (.ref b1), .val (.int v108), .val (.int v116), .val (.int v124), .val (.int z132), .val (.int z161), .val (.int v186), .val (.int v194), .val (.int v201), .val (.int v209), .unset] [(.ref b213)]))
    refine Gl.dup Y219 rfl at_220 rfl ?_
    refine Gl.iconst Y219 (v := (1 : Int32)) (by decide) at_221 rfl ?_
    refine Gl.iload Y219 rfl at_222 rfl ?_
    refine Gl.sastore Y219 A219 (v := (.int v194)) (congrArg Value.int (own_narS hv194)) ⟨by decide, by decide⟩ (ix := 1) rfl (Nat.le_of_ble_eq_true rfl) sb213 at_224 rfl (fun T224 h224 Y224 W224 A224 => ?_)
    have A224 : Arv Z h224 b213 ck213 .short (4 : Int32) [(.int v186), (.int v194), (.int (0 : Int32)), (.int (0 : Int32))] (.int (0 : Int32)) := A224
    show Gl p e below _ (T224.setTop (mkF m 225 #[.val (.long la), .second, .val (.long lb), .second, .val (.int li), .val (.int si), .val (.int sh), .val (.int mm), .val (.ref b1), .val (.ref b39), .val (.int z81), .val (.ref b1), .val (.int v108), .val (.int v116), .val (.int v124), .val (.int z132), .val (.int z161), .val (.int v186), .val (.int v194), .val (.int v201), .val (.int v209), .unset] [(.ref b213)]))
    refine Gl.dup Y224 rfl at_225 rfl ?_
    refine Gl.iconst Y224 (v := (2 : Int32)) (by decide) at_226 rfl ?_
    refine Gl.iload Y224 rfl at_227 rfl ?_
    refine Gl.sastore Y224 A224 (v := (.int v201)) (congrArg Value.int (own_narS hv201)) ⟨by decide, by decide⟩ (ix := 2) rfl (Nat.le_of_ble_eq_true rfl) sb213 at_229 rfl (fun T229 h229 Y229 W229 A229 => ?_)
    have A229 : Arv Z h229 b213 ck213 .short (4 : Int32) [(.int v186), (.int v194), (.int v201), (.int (0 : Int32))] (.int (0 : Int32)) := A229
    show Gl p e below _ (T229.setTop (mkF m 230 #[.val (.long la), .second, .val (.long lb), .second, .val (.int li), .val (.int si), .val (.int sh), .val (.int mm), .val (.ref b1), .val (.ref b39), .val (.int z81), .val (.ref b1), .val (.int v108), .val (.int v116), .val (.int v124), .val (.int z132), .val (.int z161), .val (.int v186), .val (.int v194), .val (.int v201), .val (.int v209), .unset] [(.ref b213)]))
    refine Gl.dup Y229 rfl at_230 rfl ?_
    refine Gl.iconst Y229 (v := (3 : Int32)) (by decide) at_231 rfl ?_
    refine Gl.iload Y229 rfl at_232 rfl ?_
    refine Gl.sastore Y229 A229 (v := (.int v209)) (congrArg Value.int (own_narS hv209)) ⟨by decide, by decide⟩ (ix := 3) rfl (Nat.le_of_ble_eq_true rfl) sb213 at_234 rfl (fun T234 h234 Y234 W234 A234 => ?_)
    have A234 : Arv Z h234 b213 ck213 .short (4 : Int32) [(.int v186), (.int v194), (.int v201), (.int v209)] (.int (0 : Int32)) := A234
    show Gl p e below _ (T234.setTop (mkF m 235 #[.val (.long la), .second, .val (.long lb), .second, .val (.int li), .val (.int si), .val (.int sh), .val (.int mm), .val (.ref b1), .val (.ref b39), .val (.int z81), .val (.ref b1), .val (.int v108), .val (.int v116), .val (.int v124), .val (.int z132), .val (.int z161), .val (.int v186), .val (.int v194), .val (.int v201), .val (.int v209), .unset] [(.ref b213)]))
    refine Gl.astore Y234 rfl (L' := #[.val (.long la), .second, .val (.long lb), .second, .val (.int li), .val (.int si), .val (.int sh), .val (.int mm), .val (.ref b1), .val (.ref b39), .val (.int z81), .val (.ref b1), .val (.int v108), .val (.int v116), .val (.int v124), .val (.int z132), .val (.int z161), .val (.int v186), .val (.int v194), .val (.int v201), .val (.int v209), .val (.ref b213)]) rfl at_235 rfl ?_
    have cs_v108 : v108 = (0 : Int32) ∨ v108 = (1 : Int32) ∨ v108 = (2 : Int32) ∨ v108 = (3 : Int32) := own_k3 hv108
    rcases cs_v108 with rfl | rfl | rfl | rfl
    · have rle := own_or iz132 (own_a16 hv152) r_ulead
      have rse := own_or iz161 (own_a16 hv181) r_usec
      refine Gl.aload Y234 rfl rfl at_237 rfl ?_
      refine Gl.iload Y234 rfl at_239 rfl ?_
      refine Gl.iload Y234 rfl at_241 rfl ?_
      refine Gl.aload Y234 rfl rfl at_243 rfl ?_
      refine Gl.iload Y234 rfl at_245 rfl ?_
      refine Gl.iload Y234 rfl at_247 rfl ?_
      refine Gl.aload Y234 rfl rfl at_249 rfl ?_
      refine Gl.iload Y234 rfl at_251 rfl ?_
      have f22 : Arv Z h234 b1 ck1 .char (4 : Int32) [(.int v7), (.int v16), (.int v25), (.int v34)] (.int (0 : Int32)) := (((((f21.ext E213).other W219 (Nat.ne_of_lt (Nat.lt_of_lt_of_eq f21.lt g213.symm))).other W224 (Nat.ne_of_lt (Nat.lt_of_lt_of_eq f21.lt g213.symm))).other W229 (Nat.ne_of_lt (Nat.lt_of_lt_of_eq f21.lt g213.symm))).other W234 (Nat.ne_of_lt (Nat.lt_of_lt_of_eq f21.lt g213.symm)))
      refine Gl.callS Y234 (tw_3 hw) (tw_4 hw) (tw_5 hw) (tw_6 hw) (by decide) (rm0 l Z a0 hw [] b1 v116 z132 b1 v124 z161 b213 ck1 ck1 ck213 [(.int v7), (.int v16), (.int v25), (.int v34)] [(.int v7), (.int v16), (.int v25), (.int v34)] v186 v194 v201 v209 h234 n0 Y234.sz f22 f22 A234 sb213 (Nat.ne_of_lt (Nat.lt_of_lt_of_eq f21.lt g213.symm)) (Nat.ne_of_lt (Nat.lt_of_lt_of_eq f21.lt g213.symm))) (argsL := [(.ref b1), (.int v116), (.int z132), (.ref b1), (.int v124), (.int z161), (.ref b213), (.int (0 : Int32))]) (rest := []) rfl rfl (lenOf pd_0 rfl) rfl (by decide) (Nat.le_of_ble_eq_true rfl) (by decide) (by decide) at_253 rfl (fun v253 T253 h253 Y253 q253 => ?_)
      obtain ⟨rfl, K253, f253_0⟩ := q253
      show Gl p e below _ (T253.setTop (mkF m 256 #[.val (.long la), .second, .val (.long lb), .second, .val (.int li), .val (.int si), .val (.int sh), .val (.int mm), .val (.ref b1), .val (.ref b39), .val (.int z81), .val (.ref b1), .val (.int (0 : Int32)), .val (.int v116), .val (.int v124), .val (.int z132), .val (.int z161), .val (.int v186), .val (.int v194), .val (.int v201), .val (.int v209), .val (.ref b213)] []))
      refine Gl.aload Y253 rfl rfl at_256 rfl ?_
      refine Gl.iconst Y253 (v := (0 : Int32)) (by decide) at_258 rfl ?_
      refine Gl.iload Y253 rfl at_259 rfl ?_
      refine Gl.iload Y253 rfl at_261 rfl ?_
      refine Gl.aload Y253 rfl rfl at_263 rfl ?_
      refine Gl.iload Y253 rfl at_265 rfl ?_
      refine Gl.iload Y253 rfl at_267 rfl ?_
      refine Gl.aload Y253 rfl rfl at_269 rfl ?_
      refine Gl.iload Y253 rfl at_271 rfl ?_
      refine Gl.iload Y253 rfl at_273 rfl ?_
      have f23 : Arv Z h253 b1 ck1 .char (4 : Int32) [(.int v7), (.int v16), (.int v25), (.int v34)] (.int (0 : Int32)) := (f22.keep K253 (ninS (Nat.ne_of_lt (Nat.lt_of_lt_of_eq f21.lt g213.symm)) nin0))
      refine Gl.callS Y253 (tw_7 hw) (tw_8 hw) (tw_9 hw) (tw_10 hw) (by decide) (rm4 l Z a0 hw [] b1 v116 z132 b1 v124 z161 b213 ck1 ck1 ck213 [(.int v7), (.int v16), (.int v25), (.int v34)] [(.int v7), (.int v16), (.int v25), (.int v34)] v186 v186 v194 v201 v209 h253 n0 Y253.sz f23 f23 f253_0 (rfl)) (argsL := [(.ref b213), (.int (0 : Int32)), (.int (0 : Int32)), (.int v186), (.ref b1), (.int v116), (.int z132), (.ref b1), (.int v124), (.int z161)]) (rest := []) rfl rfl (lenOf pd_1 rfl) rfl (by decide) (Nat.le_of_ble_eq_true rfl) (by decide) (by decide) at_275 rfl (fun v275 T275 h275 Y275 q275 => ?_)
      obtain ⟨rfl, rfl⟩ := q275
      show Gl p e below _ (T275.setTop (mkF m 278 #[.val (.long la), .second, .val (.long lb), .second, .val (.int li), .val (.int si), .val (.int sh), .val (.int mm), .val (.ref b1), .val (.ref b39), .val (.int z81), .val (.ref b1), .val (.int (0 : Int32)), .val (.int v116), .val (.int v124), .val (.int z132), .val (.int z161), .val (.int v186), .val (.int v194), .val (.int v201), .val (.int v209), .val (.ref b213)] [(.int (1 : Int32))]))
      refine Gl.ifeq Y275 at_278 (by decide) rfl rfl (fun c278 => ?_) (fun c278 => ?_)
      · exact absurd c278 (by decide)
      refine Gl.aload Y275 rfl rfl at_281 rfl ?_
      refine Gl.iconst Y275 (v := (1 : Int32)) (by decide) at_283 rfl ?_
      refine Gl.iload Y275 rfl at_284 rfl ?_
      refine Gl.iload Y275 rfl at_286 rfl ?_
      refine Gl.aload Y275 rfl rfl at_288 rfl ?_
      refine Gl.iload Y275 rfl at_290 rfl ?_
      refine Gl.iload Y275 rfl at_292 rfl ?_
      refine Gl.aload Y275 rfl rfl at_294 rfl ?_
      refine Gl.iload Y275 rfl at_296 rfl ?_
      refine Gl.iload Y275 rfl at_298 rfl ?_
      refine Gl.callS Y275 (tw_7 hw) (tw_8 hw) (tw_9 hw) (tw_10 hw) (by decide) (rm8 l Z a0 hw [] b1 v116 z132 b1 v124 z161 b213 ck1 ck1 ck213 [(.int v7), (.int v16), (.int v25), (.int v34)] [(.int v7), (.int v16), (.int v25), (.int v34)] v194 v186 v194 v201 v209 h253 n0 Y275.sz f23 f23 f253_0 (rfl)) (argsL := [(.ref b213), (.int (1 : Int32)), (.int (0 : Int32)), (.int v194), (.ref b1), (.int v116), (.int z132), (.ref b1), (.int v124), (.int z161)]) (rest := []) rfl rfl (lenOf pd_1 rfl) rfl (by decide) (Nat.le_of_ble_eq_true rfl) (by decide) (by decide) at_300 rfl (fun v300 T300 h300 Y300 q300 => ?_)
      obtain ⟨rfl, rfl⟩ := q300
      show Gl p e below _ (T300.setTop (mkF m 303 #[.val (.long la), .second, .val (.long lb), .second, .val (.int li), .val (.int si), .val (.int sh), .val (.int mm), .val (.ref b1), .val (.ref b39), .val (.int z81), .val (.ref b1), .val (.int (0 : Int32)), .val (.int v116), .val (.int v124), .val (.int z132), .val (.int z161), .val (.int v186), .val (.int v194), .val (.int v201), .val (.int v209), .val (.ref b213)] [(.int (1 : Int32))]))
      refine Gl.ifeq Y300 at_303 (by decide) rfl rfl (fun c303 => ?_) (fun c303 => ?_)
      · exact absurd c303 (by decide)
      refine Gl.aload Y300 rfl rfl at_306 rfl ?_
      refine Gl.iconst Y300 (v := (2 : Int32)) (by decide) at_308 rfl ?_
      refine Gl.iload Y300 rfl at_309 rfl ?_
      refine Gl.iload Y300 rfl at_311 rfl ?_
      refine Gl.aload Y300 rfl rfl at_313 rfl ?_
      refine Gl.iload Y300 rfl at_315 rfl ?_
      refine Gl.iload Y300 rfl at_317 rfl ?_
      refine Gl.aload Y300 rfl rfl at_319 rfl ?_
      refine Gl.iload Y300 rfl at_321 rfl ?_
      refine Gl.iload Y300 rfl at_323 rfl ?_
      refine Gl.callS Y300 (tw_7 hw) (tw_8 hw) (tw_9 hw) (tw_10 hw) (by decide) (rm12 l Z a0 hw [] b1 v116 z132 b1 v124 z161 b213 ck1 ck1 ck213 [(.int v7), (.int v16), (.int v25), (.int v34)] [(.int v7), (.int v16), (.int v25), (.int v34)] v201 v186 v194 v201 v209 h253 n0 Y300.sz f23 f23 f253_0 (rfl)) (argsL := [(.ref b213), (.int (2 : Int32)), (.int (0 : Int32)), (.int v201), (.ref b1), (.int v116), (.int z132), (.ref b1), (.int v124), (.int z161)]) (rest := []) rfl rfl (lenOf pd_1 rfl) rfl (by decide) (Nat.le_of_ble_eq_true rfl) (by decide) (by decide) at_325 rfl (fun v325 T325 h325 Y325 q325 => ?_)
      obtain ⟨rfl, rfl⟩ := q325
      show Gl p e below _ (T325.setTop (mkF m 328 #[.val (.long la), .second, .val (.long lb), .second, .val (.int li), .val (.int si), .val (.int sh), .val (.int mm), .val (.ref b1), .val (.ref b39), .val (.int z81), .val (.ref b1), .val (.int (0 : Int32)), .val (.int v116), .val (.int v124), .val (.int z132), .val (.int z161), .val (.int v186), .val (.int v194), .val (.int v201), .val (.int v209), .val (.ref b213)] [(.int (1 : Int32))]))
      refine Gl.ifeq Y325 at_328 (by decide) rfl rfl (fun c328 => ?_) (fun c328 => ?_)
      · exact absurd c328 (by decide)
      refine Gl.aload Y325 rfl rfl at_331 rfl ?_
      refine Gl.iconst Y325 (v := (3 : Int32)) (by decide) at_333 rfl ?_
      refine Gl.iload Y325 rfl at_334 rfl ?_
      refine Gl.iload Y325 rfl at_336 rfl ?_
      refine Gl.aload Y325 rfl rfl at_338 rfl ?_
      refine Gl.iload Y325 rfl at_340 rfl ?_
      refine Gl.iload Y325 rfl at_342 rfl ?_
      refine Gl.aload Y325 rfl rfl at_344 rfl ?_
      refine Gl.iload Y325 rfl at_346 rfl ?_
      refine Gl.iload Y325 rfl at_348 rfl ?_
      refine Gl.callS Y325 (tw_7 hw) (tw_8 hw) (tw_9 hw) (tw_10 hw) (by decide) (rm16 l Z a0 hw [] b1 v116 z132 b1 v124 z161 b213 ck1 ck1 ck213 [(.int v7), (.int v16), (.int v25), (.int v34)] [(.int v7), (.int v16), (.int v25), (.int v34)] v209 v186 v194 v201 v209 h253 n0 Y325.sz f23 f23 f253_0 (rfl)) (argsL := [(.ref b213), (.int (3 : Int32)), (.int (0 : Int32)), (.int v209), (.ref b1), (.int v116), (.int z132), (.ref b1), (.int v124), (.int z161)]) (rest := []) rfl rfl (lenOf pd_1 rfl) rfl (by decide) (Nat.le_of_ble_eq_true rfl) (by decide) (by decide) at_350 rfl (fun v350 T350 h350 Y350 q350 => ?_)
      obtain ⟨rfl, rfl⟩ := q350
      show Gl p e below _ (T350.setTop (mkF m 353 #[.val (.long la), .second, .val (.long lb), .second, .val (.int li), .val (.int si), .val (.int sh), .val (.int mm), .val (.ref b1), .val (.ref b39), .val (.int z81), .val (.ref b1), .val (.int (0 : Int32)), .val (.int v116), .val (.int v124), .val (.int z132), .val (.int z161), .val (.int v186), .val (.int v194), .val (.int v201), .val (.int v209), .val (.ref b213)] [(.int (1 : Int32))]))
      refine Gl.ifeq Y350 at_353 (by decide) rfl rfl (fun c353 => ?_) (fun c353 => ?_)
      · exact absurd c353 (by decide)
      refine Gl.aload Y350 rfl rfl at_356 rfl ?_
      refine Gl.callS Y350 (tw_11 hw) (tw_12 hw) (tw_9 hw) (tw_13 hw) (by decide) (rm20 l Z a0 hw [] b1 ck1 v7 v16 v25 v34 h253 n0 Y350.sz f23) (argsL := [(.ref b1)]) (rest := []) rfl rfl (lenOf pd_2 rfl) rfl (by decide) (Nat.le_of_ble_eq_true rfl) (by decide) (by decide) at_358 rfl (fun v358 T358 h358 Y358 q358 => ?_)
      obtain ⟨r358, rfl, p358, rfl⟩ := q358
      show Gl p e below _ (T358.setTop (mkF m 361 #[.val (.long la), .second, .val (.long lb), .second, .val (.int li), .val (.int si), .val (.int sh), .val (.int mm), .val (.ref b1), .val (.ref b39), .val (.int z81), .val (.ref b1), .val (.int (0 : Int32)), .val (.int v116), .val (.int v124), .val (.int z132), .val (.int z161), .val (.int v186), .val (.int v194), .val (.int v201), .val (.int v209), .val (.ref b213)] [(.long r358)]))
      refine Gl.lloadN Y358 rfl at_361 rfl ?_
      refine Gl.lcmpne Y358 at_362 rfl at_363 (by decide) rfl rfl (fun c363 => ?_) (fun c363 => ?_)
      · exact absurd (by rw [p358]; subst_vars; exact own_packed _) c363
      have j363 : r358.toInt = la.toInt := congrArg Int64.toInt c363
      refine Gl.aload Y358 rfl rfl at_366 rfl ?_
      have f24 : Arv Z h253 b39 ck39 .char (4 : Int32) [(.int v45), (.int v54), (.int v63), (.int v72)] (.int (0 : Int32)) := ((((((A73.ext E213).other W219 (Nat.ne_of_lt (Nat.lt_of_lt_of_eq A73.lt g213.symm))).other W224 (Nat.ne_of_lt (Nat.lt_of_lt_of_eq A73.lt g213.symm))).other W229 (Nat.ne_of_lt (Nat.lt_of_lt_of_eq A73.lt g213.symm))).other W234 (Nat.ne_of_lt (Nat.lt_of_lt_of_eq A73.lt g213.symm))).keep K253 (ninS (Nat.ne_of_lt (Nat.lt_of_lt_of_eq A73.lt g213.symm)) nin0))
      refine Gl.callS Y358 (tw_11 hw) (tw_12 hw) (tw_9 hw) (tw_13 hw) (by decide) (rm20 l Z a0 hw [] b39 ck39 v45 v54 v63 v72 h253 n0 Y358.sz f24) (argsL := [(.ref b39)]) (rest := []) rfl rfl (lenOf pd_2 rfl) rfl (by decide) (Nat.le_of_ble_eq_true rfl) (by decide) (by decide) at_368 rfl (fun v368 T368 h368 Y368 q368 => ?_)
      obtain ⟨r368, rfl, p368, rfl⟩ := q368
      show Gl p e below _ (T368.setTop (mkF m 371 #[.val (.long la), .second, .val (.long lb), .second, .val (.int li), .val (.int si), .val (.int sh), .val (.int mm), .val (.ref b1), .val (.ref b39), .val (.int z81), .val (.ref b1), .val (.int (0 : Int32)), .val (.int v116), .val (.int v124), .val (.int z132), .val (.int z161), .val (.int v186), .val (.int v194), .val (.int v201), .val (.int v209), .val (.ref b213)] [(.long r368)]))
      refine Gl.lloadN Y368 rfl at_371 rfl ?_
      refine Gl.lcmpne Y368 at_372 rfl at_373 (by decide) rfl rfl (fun c373 => ?_) (fun c373 => ?_)
      · exact absurd (by rw [p368]; subst_vars; exact own_packed _) c373
      have j373 : r368.toInt = lb.toInt := congrArg Int64.toInt c373
      refine Gl.iconst Y368 (v := (1 : Int32)) (by decide) at_376 rfl ?_
      refine Gl.goto Y368 at_377 (by decide) rfl ?_
      exact Gl.retZ Y368 (by decide) (by decide) (x' := (1 : Int32)) (by decide) at_381 rfl
    · have hjl0 := own_off v116 0 (own_a1 hv116) (by decide)
      have hjs0 := own_off v124 0 (own_a1 hv124) (by decide)
      obtain ⟨ul0, hul0, rul0⟩ := own_get4 v7 v16 v25 v34 (v116 + 0) (own_c16 hv7) (own_c16 hv16) (own_c16 hv25) (own_c16 hv34) hjl0
      obtain ⟨us0, hus0, rus0⟩ := own_get4 v7 v16 v25 v34 (v124 + 0) (own_c16 hv7) (own_c16 hv16) (own_c16 hv25) (own_c16 hv34) hjs0
      have rle := own_or iz132 (own_a16 hv152) r_ulead
      have rse := own_or iz161 (own_a16 hv181) r_usec
      refine Gl.aload Y234 rfl rfl at_237 rfl ?_
      refine Gl.iload Y234 rfl at_239 rfl ?_
      refine Gl.iload Y234 rfl at_241 rfl ?_
      refine Gl.aload Y234 rfl rfl at_243 rfl ?_
      refine Gl.iload Y234 rfl at_245 rfl ?_
      refine Gl.iload Y234 rfl at_247 rfl ?_
      refine Gl.aload Y234 rfl rfl at_249 rfl ?_
      refine Gl.iload Y234 rfl at_251 rfl ?_
      have f25 : Arv Z h234 b1 ck1 .char (4 : Int32) [(.int v7), (.int v16), (.int v25), (.int v34)] (.int (0 : Int32)) := (((((f21.ext E213).other W219 (Nat.ne_of_lt (Nat.lt_of_lt_of_eq f21.lt g213.symm))).other W224 (Nat.ne_of_lt (Nat.lt_of_lt_of_eq f21.lt g213.symm))).other W229 (Nat.ne_of_lt (Nat.lt_of_lt_of_eq f21.lt g213.symm))).other W234 (Nat.ne_of_lt (Nat.lt_of_lt_of_eq f21.lt g213.symm)))
      refine Gl.callS Y234 (tw_3 hw) (tw_4 hw) (tw_5 hw) (tw_6 hw) (by decide) (rm1 l Z a0 hw [] b1 v116 z132 b1 v124 z161 b213 ck1 ck1 ck213 [(.int v7), (.int v16), (.int v25), (.int v34)] [(.int v7), (.int v16), (.int v25), (.int v34)] v186 v194 v201 v209 ul0 us0 h234 n0 Y234.sz f25 f25 A234 sb213 (Nat.ne_of_lt (Nat.lt_of_lt_of_eq f21.lt g213.symm)) (Nat.ne_of_lt (Nat.lt_of_lt_of_eq f21.lt g213.symm)) (hjl0) (hul0) (hjs0) (hus0)) (argsL := [(.ref b1), (.int v116), (.int z132), (.ref b1), (.int v124), (.int z161), (.ref b213), (.int (1 : Int32))]) (rest := []) rfl rfl (lenOf pd_0 rfl) rfl (by decide) (Nat.le_of_ble_eq_true rfl) (by decide) (by decide) at_253 rfl (fun v253 T253 h253 Y253 q253 => ?_)
      obtain ⟨rfl, K253, f253_0⟩ := q253
      show Gl p e below _ (T253.setTop (mkF m 256 #[.val (.long la), .second, .val (.long lb), .second, .val (.int li), .val (.int si), .val (.int sh), .val (.int mm), .val (.ref b1), .val (.ref b39), .val (.int z81), .val (.ref b1), .val (.int (1 : Int32)), .val (.int v116), .val (.int v124), .val (.int z132), .val (.int z161), .val (.int v186), .val (.int v194), .val (.int v201), .val (.int v209), .val (.ref b213)] []))
      refine Gl.aload Y253 rfl rfl at_256 rfl ?_
      refine Gl.iconst Y253 (v := (0 : Int32)) (by decide) at_258 rfl ?_
      refine Gl.iload Y253 rfl at_259 rfl ?_
      refine Gl.iload Y253 rfl at_261 rfl ?_
      refine Gl.aload Y253 rfl rfl at_263 rfl ?_
      refine Gl.iload Y253 rfl at_265 rfl ?_
      refine Gl.iload Y253 rfl at_267 rfl ?_
      refine Gl.aload Y253 rfl rfl at_269 rfl ?_
      refine Gl.iload Y253 rfl at_271 rfl ?_
      refine Gl.iload Y253 rfl at_273 rfl ?_
      have f26 : Arv Z h253 b1 ck1 .char (4 : Int32) [(.int v7), (.int v16), (.int v25), (.int v34)] (.int (0 : Int32)) := (f25.keep K253 (ninS (Nat.ne_of_lt (Nat.lt_of_lt_of_eq f21.lt g213.symm)) nin0))
      refine Gl.callS Y253 (tw_7 hw) (tw_8 hw) (tw_9 hw) (tw_10 hw) (by decide) (rm5 l Z a0 hw [] b1 v116 z132 b1 v124 z161 b213 ck1 ck1 ck213 [(.int v7), (.int v16), (.int v25), (.int v34)] [(.int v7), (.int v16), (.int v25), (.int v34)] v186 (own_mark ul0 z132 us0 z161) v194 v201 v209 ul0 us0 h253 n0 Y253.sz f26 f26 f253_0 (hjl0) (hul0) (hjs0) (hus0) (rul0) (rus0) (rle) (rse) (rfl)) (argsL := [(.ref b213), (.int (0 : Int32)), (.int (1 : Int32)), (.int v186), (.ref b1), (.int v116), (.int z132), (.ref b1), (.int v124), (.int z161)]) (rest := []) rfl rfl (lenOf pd_1 rfl) rfl (by decide) (Nat.le_of_ble_eq_true rfl) (by decide) (by decide) at_275 rfl (fun v275 T275 h275 Y275 q275 => ?_)
      obtain ⟨rfl, rfl⟩ := q275
      show Gl p e below _ (T275.setTop (mkF m 278 #[.val (.long la), .second, .val (.long lb), .second, .val (.int li), .val (.int si), .val (.int sh), .val (.int mm), .val (.ref b1), .val (.ref b39), .val (.int z81), .val (.ref b1), .val (.int (1 : Int32)), .val (.int v116), .val (.int v124), .val (.int z132), .val (.int z161), .val (.int v186), .val (.int v194), .val (.int v201), .val (.int v209), .val (.ref b213)] [(.int (1 : Int32))]))
      refine Gl.ifeq Y275 at_278 (by decide) rfl rfl (fun c278 => ?_) (fun c278 => ?_)
      · exact absurd c278 (by decide)
      refine Gl.aload Y275 rfl rfl at_281 rfl ?_
      refine Gl.iconst Y275 (v := (1 : Int32)) (by decide) at_283 rfl ?_
      refine Gl.iload Y275 rfl at_284 rfl ?_
      refine Gl.iload Y275 rfl at_286 rfl ?_
      refine Gl.aload Y275 rfl rfl at_288 rfl ?_
      refine Gl.iload Y275 rfl at_290 rfl ?_
      refine Gl.iload Y275 rfl at_292 rfl ?_
      refine Gl.aload Y275 rfl rfl at_294 rfl ?_
      refine Gl.iload Y275 rfl at_296 rfl ?_
      refine Gl.iload Y275 rfl at_298 rfl ?_
      refine Gl.callS Y275 (tw_7 hw) (tw_8 hw) (tw_9 hw) (tw_10 hw) (by decide) (rm9 l Z a0 hw [] b1 v116 z132 b1 v124 z161 b213 ck1 ck1 ck213 [(.int v7), (.int v16), (.int v25), (.int v34)] [(.int v7), (.int v16), (.int v25), (.int v34)] v194 (own_mark ul0 z132 us0 z161) v194 v201 v209 h253 n0 Y275.sz f26 f26 f253_0 (rfl)) (argsL := [(.ref b213), (.int (1 : Int32)), (.int (1 : Int32)), (.int v194), (.ref b1), (.int v116), (.int z132), (.ref b1), (.int v124), (.int z161)]) (rest := []) rfl rfl (lenOf pd_1 rfl) rfl (by decide) (Nat.le_of_ble_eq_true rfl) (by decide) (by decide) at_300 rfl (fun v300 T300 h300 Y300 q300 => ?_)
      obtain ⟨rfl, rfl⟩ := q300
      show Gl p e below _ (T300.setTop (mkF m 303 #[.val (.long la), .second, .val (.long lb), .second, .val (.int li), .val (.int si), .val (.int sh), .val (.int mm), .val (.ref b1), .val (.ref b39), .val (.int z81), .val (.ref b1), .val (.int (1 : Int32)), .val (.int v116), .val (.int v124), .val (.int z132), .val (.int z161), .val (.int v186), .val (.int v194), .val (.int v201), .val (.int v209), .val (.ref b213)] [(.int (1 : Int32))]))
      refine Gl.ifeq Y300 at_303 (by decide) rfl rfl (fun c303 => ?_) (fun c303 => ?_)
      · exact absurd c303 (by decide)
      refine Gl.aload Y300 rfl rfl at_306 rfl ?_
      refine Gl.iconst Y300 (v := (2 : Int32)) (by decide) at_308 rfl ?_
      refine Gl.iload Y300 rfl at_309 rfl ?_
      refine Gl.iload Y300 rfl at_311 rfl ?_
      refine Gl.aload Y300 rfl rfl at_313 rfl ?_
      refine Gl.iload Y300 rfl at_315 rfl ?_
      refine Gl.iload Y300 rfl at_317 rfl ?_
      refine Gl.aload Y300 rfl rfl at_319 rfl ?_
      refine Gl.iload Y300 rfl at_321 rfl ?_
      refine Gl.iload Y300 rfl at_323 rfl ?_
      refine Gl.callS Y300 (tw_7 hw) (tw_8 hw) (tw_9 hw) (tw_10 hw) (by decide) (rm13 l Z a0 hw [] b1 v116 z132 b1 v124 z161 b213 ck1 ck1 ck213 [(.int v7), (.int v16), (.int v25), (.int v34)] [(.int v7), (.int v16), (.int v25), (.int v34)] v201 (own_mark ul0 z132 us0 z161) v194 v201 v209 h253 n0 Y300.sz f26 f26 f253_0 (rfl)) (argsL := [(.ref b213), (.int (2 : Int32)), (.int (1 : Int32)), (.int v201), (.ref b1), (.int v116), (.int z132), (.ref b1), (.int v124), (.int z161)]) (rest := []) rfl rfl (lenOf pd_1 rfl) rfl (by decide) (Nat.le_of_ble_eq_true rfl) (by decide) (by decide) at_325 rfl (fun v325 T325 h325 Y325 q325 => ?_)
      obtain ⟨rfl, rfl⟩ := q325
      show Gl p e below _ (T325.setTop (mkF m 328 #[.val (.long la), .second, .val (.long lb), .second, .val (.int li), .val (.int si), .val (.int sh), .val (.int mm), .val (.ref b1), .val (.ref b39), .val (.int z81), .val (.ref b1), .val (.int (1 : Int32)), .val (.int v116), .val (.int v124), .val (.int z132), .val (.int z161), .val (.int v186), .val (.int v194), .val (.int v201), .val (.int v209), .val (.ref b213)] [(.int (1 : Int32))]))
      refine Gl.ifeq Y325 at_328 (by decide) rfl rfl (fun c328 => ?_) (fun c328 => ?_)
      · exact absurd c328 (by decide)
      refine Gl.aload Y325 rfl rfl at_331 rfl ?_
      refine Gl.iconst Y325 (v := (3 : Int32)) (by decide) at_333 rfl ?_
      refine Gl.iload Y325 rfl at_334 rfl ?_
      refine Gl.iload Y325 rfl at_336 rfl ?_
      refine Gl.aload Y325 rfl rfl at_338 rfl ?_
      refine Gl.iload Y325 rfl at_340 rfl ?_
      refine Gl.iload Y325 rfl at_342 rfl ?_
      refine Gl.aload Y325 rfl rfl at_344 rfl ?_
      refine Gl.iload Y325 rfl at_346 rfl ?_
      refine Gl.iload Y325 rfl at_348 rfl ?_
      refine Gl.callS Y325 (tw_7 hw) (tw_8 hw) (tw_9 hw) (tw_10 hw) (by decide) (rm17 l Z a0 hw [] b1 v116 z132 b1 v124 z161 b213 ck1 ck1 ck213 [(.int v7), (.int v16), (.int v25), (.int v34)] [(.int v7), (.int v16), (.int v25), (.int v34)] v209 (own_mark ul0 z132 us0 z161) v194 v201 v209 h253 n0 Y325.sz f26 f26 f253_0 (rfl)) (argsL := [(.ref b213), (.int (3 : Int32)), (.int (1 : Int32)), (.int v209), (.ref b1), (.int v116), (.int z132), (.ref b1), (.int v124), (.int z161)]) (rest := []) rfl rfl (lenOf pd_1 rfl) rfl (by decide) (Nat.le_of_ble_eq_true rfl) (by decide) (by decide) at_350 rfl (fun v350 T350 h350 Y350 q350 => ?_)
      obtain ⟨rfl, rfl⟩ := q350
      show Gl p e below _ (T350.setTop (mkF m 353 #[.val (.long la), .second, .val (.long lb), .second, .val (.int li), .val (.int si), .val (.int sh), .val (.int mm), .val (.ref b1), .val (.ref b39), .val (.int z81), .val (.ref b1), .val (.int (1 : Int32)), .val (.int v116), .val (.int v124), .val (.int z132), .val (.int z161), .val (.int v186), .val (.int v194), .val (.int v201), .val (.int v209), .val (.ref b213)] [(.int (1 : Int32))]))
      refine Gl.ifeq Y350 at_353 (by decide) rfl rfl (fun c353 => ?_) (fun c353 => ?_)
      · exact absurd c353 (by decide)
      refine Gl.aload Y350 rfl rfl at_356 rfl ?_
      refine Gl.callS Y350 (tw_11 hw) (tw_12 hw) (tw_9 hw) (tw_13 hw) (by decide) (rm20 l Z a0 hw [] b1 ck1 v7 v16 v25 v34 h253 n0 Y350.sz f26) (argsL := [(.ref b1)]) (rest := []) rfl rfl (lenOf pd_2 rfl) rfl (by decide) (Nat.le_of_ble_eq_true rfl) (by decide) (by decide) at_358 rfl (fun v358 T358 h358 Y358 q358 => ?_)
      obtain ⟨r358, rfl, p358, rfl⟩ := q358
      show Gl p e below _ (T358.setTop (mkF m 361 #[.val (.long la), .second, .val (.long lb), .second, .val (.int li), .val (.int si), .val (.int sh), .val (.int mm), .val (.ref b1), .val (.ref b39), .val (.int z81), .val (.ref b1), .val (.int (1 : Int32)), .val (.int v116), .val (.int v124), .val (.int z132), .val (.int z161), .val (.int v186), .val (.int v194), .val (.int v201), .val (.int v209), .val (.ref b213)] [(.long r358)]))
      refine Gl.lloadN Y358 rfl at_361 rfl ?_
      refine Gl.lcmpne Y358 at_362 rfl at_363 (by decide) rfl rfl (fun c363 => ?_) (fun c363 => ?_)
      · exact absurd (by rw [p358]; subst_vars; exact own_packed _) c363
      have j363 : r358.toInt = la.toInt := congrArg Int64.toInt c363
      refine Gl.aload Y358 rfl rfl at_366 rfl ?_
      have f27 : Arv Z h253 b39 ck39 .char (4 : Int32) [(.int v45), (.int v54), (.int v63), (.int v72)] (.int (0 : Int32)) := ((((((A73.ext E213).other W219 (Nat.ne_of_lt (Nat.lt_of_lt_of_eq A73.lt g213.symm))).other W224 (Nat.ne_of_lt (Nat.lt_of_lt_of_eq A73.lt g213.symm))).other W229 (Nat.ne_of_lt (Nat.lt_of_lt_of_eq A73.lt g213.symm))).other W234 (Nat.ne_of_lt (Nat.lt_of_lt_of_eq A73.lt g213.symm))).keep K253 (ninS (Nat.ne_of_lt (Nat.lt_of_lt_of_eq A73.lt g213.symm)) nin0))
      refine Gl.callS Y358 (tw_11 hw) (tw_12 hw) (tw_9 hw) (tw_13 hw) (by decide) (rm20 l Z a0 hw [] b39 ck39 v45 v54 v63 v72 h253 n0 Y358.sz f27) (argsL := [(.ref b39)]) (rest := []) rfl rfl (lenOf pd_2 rfl) rfl (by decide) (Nat.le_of_ble_eq_true rfl) (by decide) (by decide) at_368 rfl (fun v368 T368 h368 Y368 q368 => ?_)
      obtain ⟨r368, rfl, p368, rfl⟩ := q368
      show Gl p e below _ (T368.setTop (mkF m 371 #[.val (.long la), .second, .val (.long lb), .second, .val (.int li), .val (.int si), .val (.int sh), .val (.int mm), .val (.ref b1), .val (.ref b39), .val (.int z81), .val (.ref b1), .val (.int (1 : Int32)), .val (.int v116), .val (.int v124), .val (.int z132), .val (.int z161), .val (.int v186), .val (.int v194), .val (.int v201), .val (.int v209), .val (.ref b213)] [(.long r368)]))
      refine Gl.lloadN Y368 rfl at_371 rfl ?_
      refine Gl.lcmpne Y368 at_372 rfl at_373 (by decide) rfl rfl (fun c373 => ?_) (fun c373 => ?_)
      · exact absurd (by rw [p368]; subst_vars; exact own_packed _) c373
      have j373 : r368.toInt = lb.toInt := congrArg Int64.toInt c373
      refine Gl.iconst Y368 (v := (1 : Int32)) (by decide) at_376 rfl ?_
      refine Gl.goto Y368 at_377 (by decide) rfl ?_
      exact Gl.retZ Y368 (by decide) (by decide) (x' := (1 : Int32)) (by decide) at_381 rfl
    · have hjl0 := own_off v116 0 (own_a1 hv116) (by decide)
      have hjs0 := own_off v124 0 (own_a1 hv124) (by decide)
      obtain ⟨ul0, hul0, rul0⟩ := own_get4 v7 v16 v25 v34 (v116 + 0) (own_c16 hv7) (own_c16 hv16) (own_c16 hv25) (own_c16 hv34) hjl0
      obtain ⟨us0, hus0, rus0⟩ := own_get4 v7 v16 v25 v34 (v124 + 0) (own_c16 hv7) (own_c16 hv16) (own_c16 hv25) (own_c16 hv34) hjs0
      have hjl1 := own_off v116 1 (own_a1 hv116) (by decide)
      have hjs1 := own_off v124 1 (own_a1 hv124) (by decide)
      obtain ⟨ul1, hul1, rul1⟩ := own_get4 v7 v16 v25 v34 (v116 + 1) (own_c16 hv7) (own_c16 hv16) (own_c16 hv25) (own_c16 hv34) hjl1
      obtain ⟨us1, hus1, rus1⟩ := own_get4 v7 v16 v25 v34 (v124 + 1) (own_c16 hv7) (own_c16 hv16) (own_c16 hv25) (own_c16 hv34) hjs1
      have rle := own_or iz132 (own_a16 hv152) r_ulead
      have rse := own_or iz161 (own_a16 hv181) r_usec
      refine Gl.aload Y234 rfl rfl at_237 rfl ?_
      refine Gl.iload Y234 rfl at_239 rfl ?_
      refine Gl.iload Y234 rfl at_241 rfl ?_
      refine Gl.aload Y234 rfl rfl at_243 rfl ?_
      refine Gl.iload Y234 rfl at_245 rfl ?_
      refine Gl.iload Y234 rfl at_247 rfl ?_
      refine Gl.aload Y234 rfl rfl at_249 rfl ?_
      refine Gl.iload Y234 rfl at_251 rfl ?_
      have f28 : Arv Z h234 b1 ck1 .char (4 : Int32) [(.int v7), (.int v16), (.int v25), (.int v34)] (.int (0 : Int32)) := (((((f21.ext E213).other W219 (Nat.ne_of_lt (Nat.lt_of_lt_of_eq f21.lt g213.symm))).other W224 (Nat.ne_of_lt (Nat.lt_of_lt_of_eq f21.lt g213.symm))).other W229 (Nat.ne_of_lt (Nat.lt_of_lt_of_eq f21.lt g213.symm))).other W234 (Nat.ne_of_lt (Nat.lt_of_lt_of_eq f21.lt g213.symm)))
      refine Gl.callS Y234 (tw_3 hw) (tw_4 hw) (tw_5 hw) (tw_6 hw) (by decide) (rm2 l Z a0 hw [] b1 v116 z132 b1 v124 z161 b213 ck1 ck1 ck213 [(.int v7), (.int v16), (.int v25), (.int v34)] [(.int v7), (.int v16), (.int v25), (.int v34)] v186 v194 v201 v209 ul0 us0 ul1 us1 h234 n0 Y234.sz f28 f28 A234 sb213 (Nat.ne_of_lt (Nat.lt_of_lt_of_eq f21.lt g213.symm)) (Nat.ne_of_lt (Nat.lt_of_lt_of_eq f21.lt g213.symm)) (hjl0) (hul0) (hjs0) (hus0) (hjl1) (hul1) (hjs1) (hus1)) (argsL := [(.ref b1), (.int v116), (.int z132), (.ref b1), (.int v124), (.int z161), (.ref b213), (.int (2 : Int32))]) (rest := []) rfl rfl (lenOf pd_0 rfl) rfl (by decide) (Nat.le_of_ble_eq_true rfl) (by decide) (by decide) at_253 rfl (fun v253 T253 h253 Y253 q253 => ?_)
      obtain ⟨rfl, K253, f253_0⟩ := q253
      show Gl p e below _ (T253.setTop (mkF m 256 #[.val (.long la), .second, .val (.long lb), .second, .val (.int li), .val (.int si), .val (.int sh), .val (.int mm), .val (.ref b1), .val (.ref b39), .val (.int z81), .val (.ref b1), .val (.int (2 : Int32)), .val (.int v116), .val (.int v124), .val (.int z132), .val (.int z161), .val (.int v186), .val (.int v194), .val (.int v201), .val (.int v209), .val (.ref b213)] []))
      refine Gl.aload Y253 rfl rfl at_256 rfl ?_
      refine Gl.iconst Y253 (v := (0 : Int32)) (by decide) at_258 rfl ?_
      refine Gl.iload Y253 rfl at_259 rfl ?_
      refine Gl.iload Y253 rfl at_261 rfl ?_
      refine Gl.aload Y253 rfl rfl at_263 rfl ?_
      refine Gl.iload Y253 rfl at_265 rfl ?_
      refine Gl.iload Y253 rfl at_267 rfl ?_
      refine Gl.aload Y253 rfl rfl at_269 rfl ?_
      refine Gl.iload Y253 rfl at_271 rfl ?_
      refine Gl.iload Y253 rfl at_273 rfl ?_
      have f29 : Arv Z h253 b1 ck1 .char (4 : Int32) [(.int v7), (.int v16), (.int v25), (.int v34)] (.int (0 : Int32)) := (f28.keep K253 (ninS (Nat.ne_of_lt (Nat.lt_of_lt_of_eq f21.lt g213.symm)) nin0))
      refine Gl.callS Y253 (tw_7 hw) (tw_8 hw) (tw_9 hw) (tw_10 hw) (by decide) (rm6 l Z a0 hw [] b1 v116 z132 b1 v124 z161 b213 ck1 ck1 ck213 [(.int v7), (.int v16), (.int v25), (.int v34)] [(.int v7), (.int v16), (.int v25), (.int v34)] v186 (own_mark ul0 z132 us0 z161) (own_mark ul1 z132 us1 z161) v201 v209 ul0 us0 h253 n0 Y253.sz f29 f29 f253_0 (hjl0) (hul0) (hjs0) (hus0) (rul0) (rus0) (rle) (rse) (rfl)) (argsL := [(.ref b213), (.int (0 : Int32)), (.int (2 : Int32)), (.int v186), (.ref b1), (.int v116), (.int z132), (.ref b1), (.int v124), (.int z161)]) (rest := []) rfl rfl (lenOf pd_1 rfl) rfl (by decide) (Nat.le_of_ble_eq_true rfl) (by decide) (by decide) at_275 rfl (fun v275 T275 h275 Y275 q275 => ?_)
      obtain ⟨rfl, rfl⟩ := q275
      show Gl p e below _ (T275.setTop (mkF m 278 #[.val (.long la), .second, .val (.long lb), .second, .val (.int li), .val (.int si), .val (.int sh), .val (.int mm), .val (.ref b1), .val (.ref b39), .val (.int z81), .val (.ref b1), .val (.int (2 : Int32)), .val (.int v116), .val (.int v124), .val (.int z132), .val (.int z161), .val (.int v186), .val (.int v194), .val (.int v201), .val (.int v209), .val (.ref b213)] [(.int (1 : Int32))]))
      refine Gl.ifeq Y275 at_278 (by decide) rfl rfl (fun c278 => ?_) (fun c278 => ?_)
      · exact absurd c278 (by decide)
      refine Gl.aload Y275 rfl rfl at_281 rfl ?_
      refine Gl.iconst Y275 (v := (1 : Int32)) (by decide) at_283 rfl ?_
      refine Gl.iload Y275 rfl at_284 rfl ?_
      refine Gl.iload Y275 rfl at_286 rfl ?_
      refine Gl.aload Y275 rfl rfl at_288 rfl ?_
      refine Gl.iload Y275 rfl at_290 rfl ?_
      refine Gl.iload Y275 rfl at_292 rfl ?_
      refine Gl.aload Y275 rfl rfl at_294 rfl ?_
      refine Gl.iload Y275 rfl at_296 rfl ?_
      refine Gl.iload Y275 rfl at_298 rfl ?_
      refine Gl.callS Y275 (tw_7 hw) (tw_8 hw) (tw_9 hw) (tw_10 hw) (by decide) (rm10 l Z a0 hw [] b1 v116 z132 b1 v124 z161 b213 ck1 ck1 ck213 [(.int v7), (.int v16), (.int v25), (.int v34)] [(.int v7), (.int v16), (.int v25), (.int v34)] v194 (own_mark ul0 z132 us0 z161) (own_mark ul1 z132 us1 z161) v201 v209 ul1 us1 h253 n0 Y275.sz f29 f29 f253_0 (hjl1) (hul1) (hjs1) (hus1) (rul1) (rus1) (rle) (rse) (rfl)) (argsL := [(.ref b213), (.int (1 : Int32)), (.int (2 : Int32)), (.int v194), (.ref b1), (.int v116), (.int z132), (.ref b1), (.int v124), (.int z161)]) (rest := []) rfl rfl (lenOf pd_1 rfl) rfl (by decide) (Nat.le_of_ble_eq_true rfl) (by decide) (by decide) at_300 rfl (fun v300 T300 h300 Y300 q300 => ?_)
      obtain ⟨rfl, rfl⟩ := q300
      show Gl p e below _ (T300.setTop (mkF m 303 #[.val (.long la), .second, .val (.long lb), .second, .val (.int li), .val (.int si), .val (.int sh), .val (.int mm), .val (.ref b1), .val (.ref b39), .val (.int z81), .val (.ref b1), .val (.int (2 : Int32)), .val (.int v116), .val (.int v124), .val (.int z132), .val (.int z161), .val (.int v186), .val (.int v194), .val (.int v201), .val (.int v209), .val (.ref b213)] [(.int (1 : Int32))]))
      refine Gl.ifeq Y300 at_303 (by decide) rfl rfl (fun c303 => ?_) (fun c303 => ?_)
      · exact absurd c303 (by decide)
      refine Gl.aload Y300 rfl rfl at_306 rfl ?_
      refine Gl.iconst Y300 (v := (2 : Int32)) (by decide) at_308 rfl ?_
      refine Gl.iload Y300 rfl at_309 rfl ?_
      refine Gl.iload Y300 rfl at_311 rfl ?_
      refine Gl.aload Y300 rfl rfl at_313 rfl ?_
      refine Gl.iload Y300 rfl at_315 rfl ?_
      refine Gl.iload Y300 rfl at_317 rfl ?_
      refine Gl.aload Y300 rfl rfl at_319 rfl ?_
      refine Gl.iload Y300 rfl at_321 rfl ?_
      refine Gl.iload Y300 rfl at_323 rfl ?_
      refine Gl.callS Y300 (tw_7 hw) (tw_8 hw) (tw_9 hw) (tw_10 hw) (by decide) (rm14 l Z a0 hw [] b1 v116 z132 b1 v124 z161 b213 ck1 ck1 ck213 [(.int v7), (.int v16), (.int v25), (.int v34)] [(.int v7), (.int v16), (.int v25), (.int v34)] v201 (own_mark ul0 z132 us0 z161) (own_mark ul1 z132 us1 z161) v201 v209 h253 n0 Y300.sz f29 f29 f253_0 (rfl)) (argsL := [(.ref b213), (.int (2 : Int32)), (.int (2 : Int32)), (.int v201), (.ref b1), (.int v116), (.int z132), (.ref b1), (.int v124), (.int z161)]) (rest := []) rfl rfl (lenOf pd_1 rfl) rfl (by decide) (Nat.le_of_ble_eq_true rfl) (by decide) (by decide) at_325 rfl (fun v325 T325 h325 Y325 q325 => ?_)
      obtain ⟨rfl, rfl⟩ := q325
      show Gl p e below _ (T325.setTop (mkF m 328 #[.val (.long la), .second, .val (.long lb), .second, .val (.int li), .val (.int si), .val (.int sh), .val (.int mm), .val (.ref b1), .val (.ref b39), .val (.int z81), .val (.ref b1), .val (.int (2 : Int32)), .val (.int v116), .val (.int v124), .val (.int z132), .val (.int z161), .val (.int v186), .val (.int v194), .val (.int v201), .val (.int v209), .val (.ref b213)] [(.int (1 : Int32))]))
      refine Gl.ifeq Y325 at_328 (by decide) rfl rfl (fun c328 => ?_) (fun c328 => ?_)
      · exact absurd c328 (by decide)
      refine Gl.aload Y325 rfl rfl at_331 rfl ?_
      refine Gl.iconst Y325 (v := (3 : Int32)) (by decide) at_333 rfl ?_
      refine Gl.iload Y325 rfl at_334 rfl ?_
      refine Gl.iload Y325 rfl at_336 rfl ?_
      refine Gl.aload Y325 rfl rfl at_338 rfl ?_
      refine Gl.iload Y325 rfl at_340 rfl ?_
      refine Gl.iload Y325 rfl at_342 rfl ?_
      refine Gl.aload Y325 rfl rfl at_344 rfl ?_
      refine Gl.iload Y325 rfl at_346 rfl ?_
      refine Gl.iload Y325 rfl at_348 rfl ?_
      refine Gl.callS Y325 (tw_7 hw) (tw_8 hw) (tw_9 hw) (tw_10 hw) (by decide) (rm18 l Z a0 hw [] b1 v116 z132 b1 v124 z161 b213 ck1 ck1 ck213 [(.int v7), (.int v16), (.int v25), (.int v34)] [(.int v7), (.int v16), (.int v25), (.int v34)] v209 (own_mark ul0 z132 us0 z161) (own_mark ul1 z132 us1 z161) v201 v209 h253 n0 Y325.sz f29 f29 f253_0 (rfl)) (argsL := [(.ref b213), (.int (3 : Int32)), (.int (2 : Int32)), (.int v209), (.ref b1), (.int v116), (.int z132), (.ref b1), (.int v124), (.int z161)]) (rest := []) rfl rfl (lenOf pd_1 rfl) rfl (by decide) (Nat.le_of_ble_eq_true rfl) (by decide) (by decide) at_350 rfl (fun v350 T350 h350 Y350 q350 => ?_)
      obtain ⟨rfl, rfl⟩ := q350
      show Gl p e below _ (T350.setTop (mkF m 353 #[.val (.long la), .second, .val (.long lb), .second, .val (.int li), .val (.int si), .val (.int sh), .val (.int mm), .val (.ref b1), .val (.ref b39), .val (.int z81), .val (.ref b1), .val (.int (2 : Int32)), .val (.int v116), .val (.int v124), .val (.int z132), .val (.int z161), .val (.int v186), .val (.int v194), .val (.int v201), .val (.int v209), .val (.ref b213)] [(.int (1 : Int32))]))
      refine Gl.ifeq Y350 at_353 (by decide) rfl rfl (fun c353 => ?_) (fun c353 => ?_)
      · exact absurd c353 (by decide)
      refine Gl.aload Y350 rfl rfl at_356 rfl ?_
      refine Gl.callS Y350 (tw_11 hw) (tw_12 hw) (tw_9 hw) (tw_13 hw) (by decide) (rm20 l Z a0 hw [] b1 ck1 v7 v16 v25 v34 h253 n0 Y350.sz f29) (argsL := [(.ref b1)]) (rest := []) rfl rfl (lenOf pd_2 rfl) rfl (by decide) (Nat.le_of_ble_eq_true rfl) (by decide) (by decide) at_358 rfl (fun v358 T358 h358 Y358 q358 => ?_)
      obtain ⟨r358, rfl, p358, rfl⟩ := q358
      show Gl p e below _ (T358.setTop (mkF m 361 #[.val (.long la), .second, .val (.long lb), .second, .val (.int li), .val (.int si), .val (.int sh), .val (.int mm), .val (.ref b1), .val (.ref b39), .val (.int z81), .val (.ref b1), .val (.int (2 : Int32)), .val (.int v116), .val (.int v124), .val (.int z132), .val (.int z161), .val (.int v186), .val (.int v194), .val (.int v201), .val (.int v209), .val (.ref b213)] [(.long r358)]))
      refine Gl.lloadN Y358 rfl at_361 rfl ?_
      refine Gl.lcmpne Y358 at_362 rfl at_363 (by decide) rfl rfl (fun c363 => ?_) (fun c363 => ?_)
      · exact absurd (by rw [p358]; subst_vars; exact own_packed _) c363
      have j363 : r358.toInt = la.toInt := congrArg Int64.toInt c363
      refine Gl.aload Y358 rfl rfl at_366 rfl ?_
      have f30 : Arv Z h253 b39 ck39 .char (4 : Int32) [(.int v45), (.int v54), (.int v63), (.int v72)] (.int (0 : Int32)) := ((((((A73.ext E213).other W219 (Nat.ne_of_lt (Nat.lt_of_lt_of_eq A73.lt g213.symm))).other W224 (Nat.ne_of_lt (Nat.lt_of_lt_of_eq A73.lt g213.symm))).other W229 (Nat.ne_of_lt (Nat.lt_of_lt_of_eq A73.lt g213.symm))).other W234 (Nat.ne_of_lt (Nat.lt_of_lt_of_eq A73.lt g213.symm))).keep K253 (ninS (Nat.ne_of_lt (Nat.lt_of_lt_of_eq A73.lt g213.symm)) nin0))
      refine Gl.callS Y358 (tw_11 hw) (tw_12 hw) (tw_9 hw) (tw_13 hw) (by decide) (rm20 l Z a0 hw [] b39 ck39 v45 v54 v63 v72 h253 n0 Y358.sz f30) (argsL := [(.ref b39)]) (rest := []) rfl rfl (lenOf pd_2 rfl) rfl (by decide) (Nat.le_of_ble_eq_true rfl) (by decide) (by decide) at_368 rfl (fun v368 T368 h368 Y368 q368 => ?_)
      obtain ⟨r368, rfl, p368, rfl⟩ := q368
      show Gl p e below _ (T368.setTop (mkF m 371 #[.val (.long la), .second, .val (.long lb), .second, .val (.int li), .val (.int si), .val (.int sh), .val (.int mm), .val (.ref b1), .val (.ref b39), .val (.int z81), .val (.ref b1), .val (.int (2 : Int32)), .val (.int v116), .val (.int v124), .val (.int z132), .val (.int z161), .val (.int v186), .val (.int v194), .val (.int v201), .val (.int v209), .val (.ref b213)] [(.long r368)]))
      refine Gl.lloadN Y368 rfl at_371 rfl ?_
      refine Gl.lcmpne Y368 at_372 rfl at_373 (by decide) rfl rfl (fun c373 => ?_) (fun c373 => ?_)
      · exact absurd (by rw [p368]; subst_vars; exact own_packed _) c373
      have j373 : r368.toInt = lb.toInt := congrArg Int64.toInt c373
      refine Gl.iconst Y368 (v := (1 : Int32)) (by decide) at_376 rfl ?_
      refine Gl.goto Y368 at_377 (by decide) rfl ?_
      exact Gl.retZ Y368 (by decide) (by decide) (x' := (1 : Int32)) (by decide) at_381 rfl
    · have hjl0 := own_off v116 0 (own_a1 hv116) (by decide)
      have hjs0 := own_off v124 0 (own_a1 hv124) (by decide)
      obtain ⟨ul0, hul0, rul0⟩ := own_get4 v7 v16 v25 v34 (v116 + 0) (own_c16 hv7) (own_c16 hv16) (own_c16 hv25) (own_c16 hv34) hjl0
      obtain ⟨us0, hus0, rus0⟩ := own_get4 v7 v16 v25 v34 (v124 + 0) (own_c16 hv7) (own_c16 hv16) (own_c16 hv25) (own_c16 hv34) hjs0
      have hjl1 := own_off v116 1 (own_a1 hv116) (by decide)
      have hjs1 := own_off v124 1 (own_a1 hv124) (by decide)
      obtain ⟨ul1, hul1, rul1⟩ := own_get4 v7 v16 v25 v34 (v116 + 1) (own_c16 hv7) (own_c16 hv16) (own_c16 hv25) (own_c16 hv34) hjl1
      obtain ⟨us1, hus1, rus1⟩ := own_get4 v7 v16 v25 v34 (v124 + 1) (own_c16 hv7) (own_c16 hv16) (own_c16 hv25) (own_c16 hv34) hjs1
      have hjl2 := own_off v116 2 (own_a1 hv116) (by decide)
      have hjs2 := own_off v124 2 (own_a1 hv124) (by decide)
      obtain ⟨ul2, hul2, rul2⟩ := own_get4 v7 v16 v25 v34 (v116 + 2) (own_c16 hv7) (own_c16 hv16) (own_c16 hv25) (own_c16 hv34) hjl2
      obtain ⟨us2, hus2, rus2⟩ := own_get4 v7 v16 v25 v34 (v124 + 2) (own_c16 hv7) (own_c16 hv16) (own_c16 hv25) (own_c16 hv34) hjs2
      have rle := own_or iz132 (own_a16 hv152) r_ulead
      have rse := own_or iz161 (own_a16 hv181) r_usec
      refine Gl.aload Y234 rfl rfl at_237 rfl ?_
      refine Gl.iload Y234 rfl at_239 rfl ?_
      refine Gl.iload Y234 rfl at_241 rfl ?_
      refine Gl.aload Y234 rfl rfl at_243 rfl ?_
      refine Gl.iload Y234 rfl at_245 rfl ?_
      refine Gl.iload Y234 rfl at_247 rfl ?_
      refine Gl.aload Y234 rfl rfl at_249 rfl ?_
      refine Gl.iload Y234 rfl at_251 rfl ?_
      have f31 : Arv Z h234 b1 ck1 .char (4 : Int32) [(.int v7), (.int v16), (.int v25), (.int v34)] (.int (0 : Int32)) := (((((f21.ext E213).other W219 (Nat.ne_of_lt (Nat.lt_of_lt_of_eq f21.lt g213.symm))).other W224 (Nat.ne_of_lt (Nat.lt_of_lt_of_eq f21.lt g213.symm))).other W229 (Nat.ne_of_lt (Nat.lt_of_lt_of_eq f21.lt g213.symm))).other W234 (Nat.ne_of_lt (Nat.lt_of_lt_of_eq f21.lt g213.symm)))
      refine Gl.callS Y234 (tw_3 hw) (tw_4 hw) (tw_5 hw) (tw_6 hw) (by decide) (rm3 l Z a0 hw [] b1 v116 z132 b1 v124 z161 b213 ck1 ck1 ck213 [(.int v7), (.int v16), (.int v25), (.int v34)] [(.int v7), (.int v16), (.int v25), (.int v34)] v186 v194 v201 v209 ul0 us0 ul1 us1 ul2 us2 h234 n0 Y234.sz f31 f31 A234 sb213 (Nat.ne_of_lt (Nat.lt_of_lt_of_eq f21.lt g213.symm)) (Nat.ne_of_lt (Nat.lt_of_lt_of_eq f21.lt g213.symm)) (hjl0) (hul0) (hjs0) (hus0) (hjl1) (hul1) (hjs1) (hus1) (hjl2) (hul2) (hjs2) (hus2)) (argsL := [(.ref b1), (.int v116), (.int z132), (.ref b1), (.int v124), (.int z161), (.ref b213), (.int (3 : Int32))]) (rest := []) rfl rfl (lenOf pd_0 rfl) rfl (by decide) (Nat.le_of_ble_eq_true rfl) (by decide) (by decide) at_253 rfl (fun v253 T253 h253 Y253 q253 => ?_)
      obtain ⟨rfl, K253, f253_0⟩ := q253
      show Gl p e below _ (T253.setTop (mkF m 256 #[.val (.long la), .second, .val (.long lb), .second, .val (.int li), .val (.int si), .val (.int sh), .val (.int mm), .val (.ref b1), .val (.ref b39), .val (.int z81), .val (.ref b1), .val (.int (3 : Int32)), .val (.int v116), .val (.int v124), .val (.int z132), .val (.int z161), .val (.int v186), .val (.int v194), .val (.int v201), .val (.int v209), .val (.ref b213)] []))
      refine Gl.aload Y253 rfl rfl at_256 rfl ?_
      refine Gl.iconst Y253 (v := (0 : Int32)) (by decide) at_258 rfl ?_
      refine Gl.iload Y253 rfl at_259 rfl ?_
      refine Gl.iload Y253 rfl at_261 rfl ?_
      refine Gl.aload Y253 rfl rfl at_263 rfl ?_
      refine Gl.iload Y253 rfl at_265 rfl ?_
      refine Gl.iload Y253 rfl at_267 rfl ?_
      refine Gl.aload Y253 rfl rfl at_269 rfl ?_
      refine Gl.iload Y253 rfl at_271 rfl ?_
      refine Gl.iload Y253 rfl at_273 rfl ?_
      have f32 : Arv Z h253 b1 ck1 .char (4 : Int32) [(.int v7), (.int v16), (.int v25), (.int v34)] (.int (0 : Int32)) := (f31.keep K253 (ninS (Nat.ne_of_lt (Nat.lt_of_lt_of_eq f21.lt g213.symm)) nin0))
      refine Gl.callS Y253 (tw_7 hw) (tw_8 hw) (tw_9 hw) (tw_10 hw) (by decide) (rm7 l Z a0 hw [] b1 v116 z132 b1 v124 z161 b213 ck1 ck1 ck213 [(.int v7), (.int v16), (.int v25), (.int v34)] [(.int v7), (.int v16), (.int v25), (.int v34)] v186 (own_mark ul0 z132 us0 z161) (own_mark ul1 z132 us1 z161) (own_mark ul2 z132 us2 z161) v209 ul0 us0 h253 n0 Y253.sz f32 f32 f253_0 (hjl0) (hul0) (hjs0) (hus0) (rul0) (rus0) (rle) (rse) (rfl)) (argsL := [(.ref b213), (.int (0 : Int32)), (.int (3 : Int32)), (.int v186), (.ref b1), (.int v116), (.int z132), (.ref b1), (.int v124), (.int z161)]) (rest := []) rfl rfl (lenOf pd_1 rfl) rfl (by decide) (Nat.le_of_ble_eq_true rfl) (by decide) (by decide) at_275 rfl (fun v275 T275 h275 Y275 q275 => ?_)
      obtain ⟨rfl, rfl⟩ := q275
      show Gl p e below _ (T275.setTop (mkF m 278 #[.val (.long la), .second, .val (.long lb), .second, .val (.int li), .val (.int si), .val (.int sh), .val (.int mm), .val (.ref b1), .val (.ref b39), .val (.int z81), .val (.ref b1), .val (.int (3 : Int32)), .val (.int v116), .val (.int v124), .val (.int z132), .val (.int z161), .val (.int v186), .val (.int v194), .val (.int v201), .val (.int v209), .val (.ref b213)] [(.int (1 : Int32))]))
      refine Gl.ifeq Y275 at_278 (by decide) rfl rfl (fun c278 => ?_) (fun c278 => ?_)
      · exact absurd c278 (by decide)
      refine Gl.aload Y275 rfl rfl at_281 rfl ?_
      refine Gl.iconst Y275 (v := (1 : Int32)) (by decide) at_283 rfl ?_
      refine Gl.iload Y275 rfl at_284 rfl ?_
      refine Gl.iload Y275 rfl at_286 rfl ?_
      refine Gl.aload Y275 rfl rfl at_288 rfl ?_
      refine Gl.iload Y275 rfl at_290 rfl ?_
      refine Gl.iload Y275 rfl at_292 rfl ?_
      refine Gl.aload Y275 rfl rfl at_294 rfl ?_
      refine Gl.iload Y275 rfl at_296 rfl ?_
      refine Gl.iload Y275 rfl at_298 rfl ?_
      refine Gl.callS Y275 (tw_7 hw) (tw_8 hw) (tw_9 hw) (tw_10 hw) (by decide) (rm11 l Z a0 hw [] b1 v116 z132 b1 v124 z161 b213 ck1 ck1 ck213 [(.int v7), (.int v16), (.int v25), (.int v34)] [(.int v7), (.int v16), (.int v25), (.int v34)] v194 (own_mark ul0 z132 us0 z161) (own_mark ul1 z132 us1 z161) (own_mark ul2 z132 us2 z161) v209 ul1 us1 h253 n0 Y275.sz f32 f32 f253_0 (hjl1) (hul1) (hjs1) (hus1) (rul1) (rus1) (rle) (rse) (rfl)) (argsL := [(.ref b213), (.int (1 : Int32)), (.int (3 : Int32)), (.int v194), (.ref b1), (.int v116), (.int z132), (.ref b1), (.int v124), (.int z161)]) (rest := []) rfl rfl (lenOf pd_1 rfl) rfl (by decide) (Nat.le_of_ble_eq_true rfl) (by decide) (by decide) at_300 rfl (fun v300 T300 h300 Y300 q300 => ?_)
      obtain ⟨rfl, rfl⟩ := q300
      show Gl p e below _ (T300.setTop (mkF m 303 #[.val (.long la), .second, .val (.long lb), .second, .val (.int li), .val (.int si), .val (.int sh), .val (.int mm), .val (.ref b1), .val (.ref b39), .val (.int z81), .val (.ref b1), .val (.int (3 : Int32)), .val (.int v116), .val (.int v124), .val (.int z132), .val (.int z161), .val (.int v186), .val (.int v194), .val (.int v201), .val (.int v209), .val (.ref b213)] [(.int (1 : Int32))]))
      refine Gl.ifeq Y300 at_303 (by decide) rfl rfl (fun c303 => ?_) (fun c303 => ?_)
      · exact absurd c303 (by decide)
      refine Gl.aload Y300 rfl rfl at_306 rfl ?_
      refine Gl.iconst Y300 (v := (2 : Int32)) (by decide) at_308 rfl ?_
      refine Gl.iload Y300 rfl at_309 rfl ?_
      refine Gl.iload Y300 rfl at_311 rfl ?_
      refine Gl.aload Y300 rfl rfl at_313 rfl ?_
      refine Gl.iload Y300 rfl at_315 rfl ?_
      refine Gl.iload Y300 rfl at_317 rfl ?_
      refine Gl.aload Y300 rfl rfl at_319 rfl ?_
      refine Gl.iload Y300 rfl at_321 rfl ?_
      refine Gl.iload Y300 rfl at_323 rfl ?_
      refine Gl.callS Y300 (tw_7 hw) (tw_8 hw) (tw_9 hw) (tw_10 hw) (by decide) (rm15 l Z a0 hw [] b1 v116 z132 b1 v124 z161 b213 ck1 ck1 ck213 [(.int v7), (.int v16), (.int v25), (.int v34)] [(.int v7), (.int v16), (.int v25), (.int v34)] v201 (own_mark ul0 z132 us0 z161) (own_mark ul1 z132 us1 z161) (own_mark ul2 z132 us2 z161) v209 ul2 us2 h253 n0 Y300.sz f32 f32 f253_0 (hjl2) (hul2) (hjs2) (hus2) (rul2) (rus2) (rle) (rse) (rfl)) (argsL := [(.ref b213), (.int (2 : Int32)), (.int (3 : Int32)), (.int v201), (.ref b1), (.int v116), (.int z132), (.ref b1), (.int v124), (.int z161)]) (rest := []) rfl rfl (lenOf pd_1 rfl) rfl (by decide) (Nat.le_of_ble_eq_true rfl) (by decide) (by decide) at_325 rfl (fun v325 T325 h325 Y325 q325 => ?_)
      obtain ⟨rfl, rfl⟩ := q325
      show Gl p e below _ (T325.setTop (mkF m 328 #[.val (.long la), .second, .val (.long lb), .second, .val (.int li), .val (.int si), .val (.int sh), .val (.int mm), .val (.ref b1), .val (.ref b39), .val (.int z81), .val (.ref b1), .val (.int (3 : Int32)), .val (.int v116), .val (.int v124), .val (.int z132), .val (.int z161), .val (.int v186), .val (.int v194), .val (.int v201), .val (.int v209), .val (.ref b213)] [(.int (1 : Int32))]))
      refine Gl.ifeq Y325 at_328 (by decide) rfl rfl (fun c328 => ?_) (fun c328 => ?_)
      · exact absurd c328 (by decide)
      refine Gl.aload Y325 rfl rfl at_331 rfl ?_
      refine Gl.iconst Y325 (v := (3 : Int32)) (by decide) at_333 rfl ?_
      refine Gl.iload Y325 rfl at_334 rfl ?_
      refine Gl.iload Y325 rfl at_336 rfl ?_
      refine Gl.aload Y325 rfl rfl at_338 rfl ?_
      refine Gl.iload Y325 rfl at_340 rfl ?_
      refine Gl.iload Y325 rfl at_342 rfl ?_
      refine Gl.aload Y325 rfl rfl at_344 rfl ?_
      refine Gl.iload Y325 rfl at_346 rfl ?_
      refine Gl.iload Y325 rfl at_348 rfl ?_
      refine Gl.callS Y325 (tw_7 hw) (tw_8 hw) (tw_9 hw) (tw_10 hw) (by decide) (rm19 l Z a0 hw [] b1 v116 z132 b1 v124 z161 b213 ck1 ck1 ck213 [(.int v7), (.int v16), (.int v25), (.int v34)] [(.int v7), (.int v16), (.int v25), (.int v34)] v209 (own_mark ul0 z132 us0 z161) (own_mark ul1 z132 us1 z161) (own_mark ul2 z132 us2 z161) v209 h253 n0 Y325.sz f32 f32 f253_0 (rfl)) (argsL := [(.ref b213), (.int (3 : Int32)), (.int (3 : Int32)), (.int v209), (.ref b1), (.int v116), (.int z132), (.ref b1), (.int v124), (.int z161)]) (rest := []) rfl rfl (lenOf pd_1 rfl) rfl (by decide) (Nat.le_of_ble_eq_true rfl) (by decide) (by decide) at_350 rfl (fun v350 T350 h350 Y350 q350 => ?_)
      obtain ⟨rfl, rfl⟩ := q350
      show Gl p e below _ (T350.setTop (mkF m 353 #[.val (.long la), .second, .val (.long lb), .second, .val (.int li), .val (.int si), .val (.int sh), .val (.int mm), .val (.ref b1), .val (.ref b39), .val (.int z81), .val (.ref b1), .val (.int (3 : Int32)), .val (.int v116), .val (.int v124), .val (.int z132), .val (.int z161), .val (.int v186), .val (.int v194), .val (.int v201), .val (.int v209), .val (.ref b213)] [(.int (1 : Int32))]))
      refine Gl.ifeq Y350 at_353 (by decide) rfl rfl (fun c353 => ?_) (fun c353 => ?_)
      · exact absurd c353 (by decide)
      refine Gl.aload Y350 rfl rfl at_356 rfl ?_
      refine Gl.callS Y350 (tw_11 hw) (tw_12 hw) (tw_9 hw) (tw_13 hw) (by decide) (rm20 l Z a0 hw [] b1 ck1 v7 v16 v25 v34 h253 n0 Y350.sz f32) (argsL := [(.ref b1)]) (rest := []) rfl rfl (lenOf pd_2 rfl) rfl (by decide) (Nat.le_of_ble_eq_true rfl) (by decide) (by decide) at_358 rfl (fun v358 T358 h358 Y358 q358 => ?_)
      obtain ⟨r358, rfl, p358, rfl⟩ := q358
      show Gl p e below _ (T358.setTop (mkF m 361 #[.val (.long la), .second, .val (.long lb), .second, .val (.int li), .val (.int si), .val (.int sh), .val (.int mm), .val (.ref b1), .val (.ref b39), .val (.int z81), .val (.ref b1), .val (.int (3 : Int32)), .val (.int v116), .val (.int v124), .val (.int z132), .val (.int z161), .val (.int v186), .val (.int v194), .val (.int v201), .val (.int v209), .val (.ref b213)] [(.long r358)]))
      refine Gl.lloadN Y358 rfl at_361 rfl ?_
      refine Gl.lcmpne Y358 at_362 rfl at_363 (by decide) rfl rfl (fun c363 => ?_) (fun c363 => ?_)
      · exact absurd (by rw [p358]; subst_vars; exact own_packed _) c363
      have j363 : r358.toInt = la.toInt := congrArg Int64.toInt c363
      refine Gl.aload Y358 rfl rfl at_366 rfl ?_
      have f33 : Arv Z h253 b39 ck39 .char (4 : Int32) [(.int v45), (.int v54), (.int v63), (.int v72)] (.int (0 : Int32)) := ((((((A73.ext E213).other W219 (Nat.ne_of_lt (Nat.lt_of_lt_of_eq A73.lt g213.symm))).other W224 (Nat.ne_of_lt (Nat.lt_of_lt_of_eq A73.lt g213.symm))).other W229 (Nat.ne_of_lt (Nat.lt_of_lt_of_eq A73.lt g213.symm))).other W234 (Nat.ne_of_lt (Nat.lt_of_lt_of_eq A73.lt g213.symm))).keep K253 (ninS (Nat.ne_of_lt (Nat.lt_of_lt_of_eq A73.lt g213.symm)) nin0))
      refine Gl.callS Y358 (tw_11 hw) (tw_12 hw) (tw_9 hw) (tw_13 hw) (by decide) (rm20 l Z a0 hw [] b39 ck39 v45 v54 v63 v72 h253 n0 Y358.sz f33) (argsL := [(.ref b39)]) (rest := []) rfl rfl (lenOf pd_2 rfl) rfl (by decide) (Nat.le_of_ble_eq_true rfl) (by decide) (by decide) at_368 rfl (fun v368 T368 h368 Y368 q368 => ?_)
      obtain ⟨r368, rfl, p368, rfl⟩ := q368
      show Gl p e below _ (T368.setTop (mkF m 371 #[.val (.long la), .second, .val (.long lb), .second, .val (.int li), .val (.int si), .val (.int sh), .val (.int mm), .val (.ref b1), .val (.ref b39), .val (.int z81), .val (.ref b1), .val (.int (3 : Int32)), .val (.int v116), .val (.int v124), .val (.int z132), .val (.int z161), .val (.int v186), .val (.int v194), .val (.int v201), .val (.int v209), .val (.ref b213)] [(.long r368)]))
      refine Gl.lloadN Y368 rfl at_371 rfl ?_
      refine Gl.lcmpne Y368 at_372 rfl at_373 (by decide) rfl rfl (fun c373 => ?_) (fun c373 => ?_)
      · exact absurd (by rw [p368]; subst_vars; exact own_packed _) c373
      have j373 : r368.toInt = lb.toInt := congrArg Int64.toInt c373
      refine Gl.iconst Y368 (v := (1 : Int32)) (by decide) at_376 rfl ?_
      refine Gl.goto Y368 at_377 (by decide) rfl ?_
      exact Gl.retZ Y368 (by decide) (by decide) (x' := (1 : Int32)) (by decide) at_381 rfl
set_option maxRecDepth 65536 in
set_option maxHeartbeats 40000000 in
theorem comes_1 {Post : Tables → Env → Array Value → State → Outcome → State → Prop} (hpost : ∀ tb e args s v u, (limb_1_1.after args s (.returned v) u = true ∧ limb_1_2.after args s (.returned v) u = true ∧ True) → FrameEnd s (.returned v) u (Jvm.fieldLocs frame_1_writes args s ++ Jvm.arrayLocs frame_1_arrays args s ++ Jvm.staticLocs frame_1_statics s) 16 128 → Post tb e args s (.returned v) u) :
    ArmFor flags0 classFile x code maxLocals ret World_1 tables_1 room_1 Calls_1 rest_1 Pre_1 Post := by
  intro l hfl _ _ p e ha hc hk s m args below hf hA hF happ hP
  obtain ⟨hcalls, hrest, hpre⟩ := hP
  obtain ⟨-, -, -, hnamed, -, -, -, hat⟩ := (Spec.applies_iff hf).mp happ
  obtain ⟨hg, hn⟩ := and_e (Cond.before_iff.mp (show (Jvm.Cond.and given_1 narrow_1).before args s = true from hpre))
  obtain ⟨a0, g0⟩ := and_e hg
  obtain ⟨a1, g1⟩ := and_e g0
  obtain ⟨a2, g2⟩ := and_e g1
  obtain ⟨a3, g3⟩ := and_e g2
  obtain ⟨a4, g4⟩ := and_e g3
  obtain ⟨a5, g5⟩ := and_e g4
  obtain ⟨w0, w1, w2, w3, w4, w5, rfl⟩ : ∃ w0 w1 w2 w3 w4 w5 : Value, args = #[w0, w1, w2, w3, w4, w5] := by
    have hs : args.size = 6 := by simpa [Cond.value, given_1] using a0
    obtain ⟨L⟩ := args
    match L, hs with
    | [w0, w1, w2, w3, w4, w5], _ => exact ⟨w0, w1, w2, w3, w4, w5, rfl⟩
  have hw := fun d (hd : d ∈ tables_1) => atoms_spec (ws := Jvm.Cond.code x code maxLocals ret :: tables_1) hat d (List.mem_cons_of_mem _ hd)
  have hfit : Fit s := fun {y c} hc i hi => by
    obtain ⟨ha, rfl⟩ := Array.getElem?_eq_some_iff.mp hc
    have q := List.all_eq_true.mp ((Array.all_eq_true_iff_forall_mem.mp hF) _ (Array.getElem_mem ha)) i (List.mem_range.mpr hi)
    simpa [Array.getElem?_eq_getElem hi] using q
  obtain ⟨i0, e0⟩ := isL_v a1
  obtain rfl : w0 = (.long i0) := Option.some.inj e0
  obtain ⟨i1, e1⟩ := isL_v a2
  obtain rfl : w1 = (.long i1) := Option.some.inj e1
  obtain ⟨i2, e2⟩ := is_v a3
  obtain rfl : w2 = (.int i2) := Option.some.inj e2
  obtain ⟨i3, e3⟩ := is_v a4
  obtain rfl : w3 = (.int i3) := Option.some.inj e3
  obtain ⟨i4, e4⟩ := is_v a5
  obtain rfl : w4 = (.int i4) := Option.some.inj e4
  obtain ⟨i5, e5⟩ := is_v g5
  obtain rfl : w5 = (.int i5) := Option.some.inj e5
  obtain ⟨n, o, h1, h2, h3, v, L, rfl, ⟨hv, N⟩, hq⟩ := rmL l s _ hw tables_1 i0 i1 i2 i3 i4 i5 s.heap s.heap.size (Nat.le_refl _) p e ha hc hk s m _ below hf ((Spec.applies_iff_loose hf).mp happ).1 ⟨rfl, State.Warmed39.refl s, rfl⟩ trivial
  obtain rfl : v = some (.int 1) := hv
  refine ⟨n, _, h1, h2, h3, hpost _ _ _ _ _ _ ⟨Cond.after_iff.mpr rfl, Cond.after_iff.mpr (eq_i res_at (Term.int_eval (1)) rfl), trivial⟩ ⟨hq.1, hq.2.1, (hq.2.2.sift fun y hy => Or.inr (N y hy)).mono (by decide) (by decide)⟩⟩
theorem main_1_1 : Claimed_1_1 := comes_1 fun _ _ _ _ _ _ h hF => ⟨h.1, hF⟩
theorem main_1_2 : Claimed_1_2 := comes_1 fun _ _ _ _ _ _ h hF => ⟨h.2.1, hF⟩
end Jvm.Pilot.@@N@@
namespace Jvm.Pilot.@@N@@
open Jvm Jvm.ClassFile Sem Op Lib Jvm.Free Jvm.Stand Jvm.Pilot.@@N@@.Jvm.D
/-! MADE BY PROGRAM (witnessworld.py) out of the Statement's table words and the real class files: 15 classes; the members and pool entries that the words name. The judged class is class 1, her method 1. -/
namespace start1
open Jvm.ClassFile
def u (s : String) : CpInfo := .utf8 (stringToUtf16 s)
/-- a pool by its gaps: so many unusable entries, then the entry; so many at the end -/
def gap : Nat → List CpInfo → List CpInfo
  | 0, r => r
  | n + 1, r => .unusable :: gap n r
def poolList (es : List (Nat × CpInfo)) (last : Nat) : List CpInfo := es.foldr (fun e r => gap e.1 (e.2 :: r)) (gap last [])
def pool (es : List (Nat × CpInfo)) (last : Nat) : Array CpInfo := ⟨poolList es last⟩
def fileOf (pool : Array CpInfo) (this : Nat) (attrs : Array Attribute := #[]) (ms : Array MethodInfo := #[]) (fl : Nat := 33) (sup : Nat := 0) (ifs : Array Nat := #[]) (fds : Array FieldInfo := #[]) : ClassFile where
  minorVersion := 0
  majorVersion := 65
  constantPool := pool
  accessFlags := fl
  thisClass := this
  superClass := sup
  interfaces := ifs
  fields := fds
  methods := ms
  attributes := attrs
def plain (name : String) (sup : Option ClassId) : Class where
  name := name
  kind := .ordinary
  loader := none
  accessFlags := 33
  super := sup
  interfaces := #[]
  cf := none
  fields := #[]
  methods := #[]
  instanceTypes := #[]
  staticTypes := #[]
  resolved := #[]
  callSites := []
  init := .initialized
  statics := none
  mirror := none

def pool0 : Array CpInfo := pool [(5, u "<init>"), (0, u "()V"), (1, .class_ 10), (1, u "java/lang/Object")] 113

def k0m0 : Method := { name := "<init>", desc := "()V", sig := { parameters := [], returnType := none }, accessFlags := 1, code := none }
/-- java/lang/Object -/
def k0 : Class := { plain "java/lang/Object" none with
  accessFlags := 33
  interfaces := #[]
  cf := some (fileOf pool0 8 #[] #[{ accessFlags := 1, nameIndex := 5, descriptorIndex := 6, attributes := #[] }] 33 0 #[] #[])
  fields := #[]
  methods := #[k0m0]
  instanceTypes := #[]
  staticTypes := #[]
  resolved := Array.replicate 124 none
  statics := none }

def pool1 : Array CpInfo := pool [(2, .class_ 4), (1, u "java/lang/Object"), (0, u "<init>"), (0, u "()V"), (0, .integer 65535), (0, .methodref 9 10), (0, .class_ 11), (0, .nameAndType 12 13), (0, u "com/example/ref_search/refsearch/matcher/BulkSymbols$Chars"), (0, u "markPair"), (0, u "([CII[CII[SI)V"), (0, .methodref 15 16), (0, .class_ 17), (0, .nameAndType 18 19), (0, u "com/example/ref_search/refsearch/matcher/CharsMarkPairPinLaw"), (0, u "place"), (0, u "([SIIS[CII[CII)Z"), (0, .methodref 15 21), (0, .nameAndType 22 23), (0, u "packed"), (0, u "([C)J"), (2, u "law"), (0, u "(JJIIII)Z")] 11

def k1m0 : Method := { name := "<init>", desc := "()V", sig := { parameters := [], returnType := none }, accessFlags := 2, code := none }
def k1c1 : Code := { maxStack := 10, maxLocals := 22, code := code, exceptionTable := #[], attributes := #[] }
def k1m1 : Method := { name := "law", desc := "(JJIIII)Z", sig := { parameters := [.long, .long, .int, .int, .int, .int], returnType := some .boolean }, accessFlags := 9, code := some k1c1 }
def k1c2 : Code := { maxStack := 3, maxLocals := 12, code := method_3_code, exceptionTable := #[], attributes := #[] }
def k1m2 : Method := { name := "place", desc := "([SIIS[CII[CII)Z", sig := { parameters := [(.array .short), .int, .int, .short, (.array .char), .int, .int, (.array .char), .int, .int], returnType := some .boolean }, accessFlags := 10, code := some k1c2 }
def k1c3 : Code := { maxStack := 5, maxLocals := 1, code := method_4_code, exceptionTable := #[], attributes := #[] }
def k1m3 : Method := { name := "packed", desc := "([C)J", sig := { parameters := [(.array .char)], returnType := some .long }, accessFlags := 10, code := some k1c3 }
/-- com/example/ref_search/refsearch/matcher/CharsMarkPairPinLaw -/
def k1 : Class := { plain "com/example/ref_search/refsearch/matcher/CharsMarkPairPinLaw" (some 0) with
  accessFlags := 49
  interfaces := #[]
  cf := some (fileOf pool1 15 #[] #[{ accessFlags := 2, nameIndex := 5, descriptorIndex := 6, attributes := #[] }, { accessFlags := 9, nameIndex := 26, descriptorIndex := 27, attributes := #[] }, { accessFlags := 10, nameIndex := 18, descriptorIndex := 19, attributes := #[] }, { accessFlags := 10, nameIndex := 22, descriptorIndex := 23, attributes := #[] }] 49 2 #[] #[])
  fields := #[]
  methods := #[k1m0, k1m1, k1m2, k1m3]
  instanceTypes := #[]
  staticTypes := #[]
  resolved := Array.replicate 39 none
  statics := none }

def pool2 : Array CpInfo := pool [(2, .class_ 4), (1, u "java/lang/Object"), (0, u "<init>"), (0, u "()V"), (22, .class_ 30), (0, u "com/example/ref_search/refsearch/matcher/Symbols"), (18, .class_ 50), (0, u "com/example/ref_search/refsearch/matcher/Symbols$1"), (53, .class_ 105), (0, u "com/example/ref_search/refsearch/matcher/Symbols$Backward")] 10

def k2m0 : Method := { name := "<init>", desc := "()V", sig := { parameters := [], returnType := none }, accessFlags := 0, code := none }
/-- com/example/ref_search/refsearch/matcher/Symbols -/
def k2 : Class := { plain "com/example/ref_search/refsearch/matcher/Symbols" (some 0) with
  accessFlags := 1056
  interfaces := #[]
  cf := some (fileOf pool2 29 #[.nestMembers #[104, 49]] #[{ accessFlags := 0, nameIndex := 5, descriptorIndex := 6, attributes := #[] }] 1056 2 #[] #[])
  fields := #[]
  methods := #[k2m0]
  instanceTypes := #[]
  staticTypes := #[]
  resolved := Array.replicate 116 none
  statics := none }

def pool3 : Array CpInfo := pool [(1, .class_ 2), (0, u "com/example/ref_search/refsearch/matcher/BulkSymbols"), (1, .class_ 6), (1, u "com/example/ref_search/refsearch/matcher/Symbols"), (0, u "<init>"), (0, u "()V"), (4, u "markedPair"), (0, u "J"), (2, u "nextWindow"), (0, u "I"), (33, u "windowStart"), (2, u "windowEnd"), (2, u "scratch"), (0, u "Lcom/example/ref_search/refsearch/matcher/BulkSymbols$Scratch;"), (1, .class_ 63), (1, u "com/example/ref_search/refsearch/matcher/BulkSymbols$Scratch"), (4, u "SCRATCH"), (0, u "Ljava/lang/ThreadLocal;"), (27, u "WINDOW"), (2, u "FIRST_WINDOW"), (1, u "OVERREAD"), (1, u "SHORT_RUN"), (16, .class_ 122), (0, u "com/example/ref_search/refsearch/matcher/BulkSymbols$ReversedBytes"), (0, .class_ 124), (0, u "com/example/ref_search/refsearch/matcher/BulkSymbols$OfBytes"), (0, .class_ 126), (0, u "com/example/ref_search/refsearch/matcher/BulkSymbols$Bytes"), (0, .class_ 128), (0, u "com/example/ref_search/refsearch/matcher/BulkSymbols$ReversedChars"), (0, .class_ 130), (0, u "com/example/ref_search/refsearch/matcher/BulkSymbols$OfStringBuilder"), (0, .class_ 132), (0, u "com/example/ref_search/refsearch/matcher/BulkSymbols$OfCharArray"), (0, .class_ 134), (0, u "com/example/ref_search/refsearch/matcher/BulkSymbols$LowBytes"), (0, .class_ 136), (0, u "com/example/ref_search/refsearch/matcher/BulkSymbols$OfString"), (0, .class_ 138), (0, u "com/example/ref_search/refsearch/matcher/BulkSymbols$Chars")] 29

def k3m0 : Method := { name := "<init>", desc := "()V", sig := { parameters := [], returnType := none }, accessFlags := 0, code := none }
/-- com/example/ref_search/refsearch/matcher/BulkSymbols -/
def k3 : Class := { plain "com/example/ref_search/refsearch/matcher/BulkSymbols" (some 2) with
  accessFlags := 1056
  interfaces := #[]
  cf := some (fileOf pool3 1 #[.nestMembers #[121, 123, 125, 127, 129, 131, 133, 135, 137, 61]] #[{ accessFlags := 0, nameIndex := 7, descriptorIndex := 8, attributes := #[] }] 1056 4 #[] #[{ accessFlags := 24, nameIndex := 97, descriptorIndex := 18, attributes := #[] }, { accessFlags := 26, nameIndex := 100, descriptorIndex := 18, attributes := #[] }, { accessFlags := 24, nameIndex := 102, descriptorIndex := 18, attributes := #[] }, { accessFlags := 26, nameIndex := 104, descriptorIndex := 18, attributes := #[] }, { accessFlags := 26, nameIndex := 68, descriptorIndex := 69, attributes := #[] }, { accessFlags := 2, nameIndex := 52, descriptorIndex := 18, attributes := #[] }, { accessFlags := 2, nameIndex := 55, descriptorIndex := 18, attributes := #[] }, { accessFlags := 2, nameIndex := 13, descriptorIndex := 14, attributes := #[] }, { accessFlags := 2, nameIndex := 17, descriptorIndex := 18, attributes := #[] }, { accessFlags := 2, nameIndex := 58, descriptorIndex := 59, attributes := #[] }])
  fields := #[{ name := "WINDOW", type := .int, accessFlags := 24, slot := 0, constantValue := 0 }, { name := "FIRST_WINDOW", type := .int, accessFlags := 26, slot := 1, constantValue := 0 }, { name := "OVERREAD", type := .int, accessFlags := 24, slot := 2, constantValue := 0 }, { name := "SHORT_RUN", type := .int, accessFlags := 26, slot := 3, constantValue := 0 }, { name := "SCRATCH", type := (.object "java/lang/ThreadLocal"), accessFlags := 26, slot := 4, constantValue := 0 }, { name := "windowStart", type := .int, accessFlags := 2, slot := 0, constantValue := 0 }, { name := "windowEnd", type := .int, accessFlags := 2, slot := 1, constantValue := 0 }, { name := "markedPair", type := .long, accessFlags := 2, slot := 2, constantValue := 0 }, { name := "nextWindow", type := .int, accessFlags := 2, slot := 3, constantValue := 0 }, { name := "scratch", type := (.object "com/example/ref_search/refsearch/matcher/BulkSymbols$Scratch"), accessFlags := 2, slot := 4, constantValue := 0 }]
  methods := #[k3m0]
  instanceTypes := #[.int, .int, .long, .int, (.object "com/example/ref_search/refsearch/matcher/BulkSymbols$Scratch")]
  staticTypes := #[.int, .int, .int, .int, (.object "java/lang/ThreadLocal")]
  resolved := Array.replicate 168 none
  statics := none }

def pool4 : Array CpInfo := pool [(2, .class_ 4), (1, u "com/example/ref_search/refsearch/matcher/BulkSymbols"), (0, u "<init>"), (0, u "()V"), (10, u "[S"), (1, .class_ 21), (1, u "com/example/ref_search/refsearch/matcher/BulkSymbols$Chars"), (25, u "markPair"), (0, u "([CII[CII[SI)V"), (2, u "marks"), (0, .integer 32768), (2, u "UNMARKED")] 33

def k4m0 : Method := { name := "<init>", desc := "()V", sig := { parameters := [], returnType := none }, accessFlags := 0, code := none }
def k4c1 : Code := { maxStack := 5, maxLocals := 10, code := prog_3_method_6_code, exceptionTable := #[], attributes := #[] }
def k4m1 : Method := { name := "markPair", desc := "([CII[CII[SI)V", sig := { parameters := [(.array .char), .int, .int, (.array .char), .int, .int, (.array .short), .int], returnType := none }, accessFlags := 8, code := some k4c1 }
/-- com/example/ref_search/refsearch/matcher/BulkSymbols$Chars -/
def k4 : Class := { plain "com/example/ref_search/refsearch/matcher/BulkSymbols$Chars" (some 3) with
  accessFlags := 1056
  interfaces := #[]
  cf := some (fileOf pool4 19 #[.nestHost 2] #[{ accessFlags := 0, nameIndex := 5, descriptorIndex := 6, attributes := #[] }, { accessFlags := 8, nameIndex := 47, descriptorIndex := 48, attributes := #[] }] 1056 2 #[] #[{ accessFlags := 26, nameIndex := 55, descriptorIndex := 17, attributes := #[] }, { accessFlags := 2, nameIndex := 51, descriptorIndex := 17, attributes := #[] }])
  fields := #[{ name := "UNMARKED", type := (.array .short), accessFlags := 26, slot := 0, constantValue := 0 }, { name := "marks", type := (.array .short), accessFlags := 2, slot := 5, constantValue := 0 }]
  methods := #[k4m0, k4m1]
  instanceTypes := #[.int, .int, .long, .int, (.object "com/example/ref_search/refsearch/matcher/BulkSymbols$Scratch"), (.array .short)]
  staticTypes := #[(.array .short)]
  resolved := Array.replicate 89 none
  statics := none }

def pool5 : Array CpInfo := pool [(1, u "java/lang/Cloneable"), (0, .class_ 1), (0, u "java/lang/Object"), (0, .class_ 3)] 3

/-- java/lang/Cloneable -/
def k5 : Class := { plain "java/lang/Cloneable" (some 0) with
  accessFlags := 1537
  interfaces := #[]
  cf := some (fileOf pool5 2 #[] #[] 1537 4 #[] #[])
  fields := #[]
  methods := #[]
  instanceTypes := #[]
  staticTypes := #[]
  resolved := Array.replicate 8 none
  statics := none }

def pool6 : Array CpInfo := pool [(1, u "java/io/Serializable"), (0, .class_ 1), (0, u "java/lang/Object"), (0, .class_ 3)] 3

/-- java/io/Serializable -/
def k6 : Class := { plain "java/io/Serializable" (some 0) with
  accessFlags := 1537
  interfaces := #[]
  cf := some (fileOf pool6 2 #[] #[] 1537 4 #[] #[])
  fields := #[]
  methods := #[]
  instanceTypes := #[]
  staticTypes := #[]
  resolved := Array.replicate 8 none
  statics := none }

/-- the primitive byte -/
def k7 : Class := { plain "byte" none with kind := .primitive 'B', accessFlags := 0x411 }
/-- [B -/
def k8 : Class := { plain "[B" (some 0) with kind := .array 7 .byte, interfaces := #[5, 6], accessFlags := 1041 }

/-- the primitive char -/
def k9 : Class := { plain "char" none with kind := .primitive 'C', accessFlags := 0x411 }
/-- [C -/
def k10 : Class := { plain "[C" (some 0) with kind := .array 9 .char, interfaces := #[5, 6], accessFlags := 1041 }

/-- the primitive int -/
def k11 : Class := { plain "int" none with kind := .primitive 'I', accessFlags := 0x411 }
/-- [I -/
def k12 : Class := { plain "[I" (some 0) with kind := .array 11 .int, interfaces := #[5, 6], accessFlags := 1041 }

/-- the primitive short -/
def k13 : Class := { plain "short" none with kind := .primitive 'S', accessFlags := 0x411 }
/-- [S -/
def k14 : Class := { plain "[S" (some 0) with kind := .array 13 .short, interfaces := #[5, 6], accessFlags := 1041 }

def heap : Heap := #[]
def classes : Array Class := #[k0, k1, k2, k3, k4, k5, k6, k7, k8, k9, k10, k11, k12, k13, k14]
def interned : List (Array UInt16 × Addr) := []
def slotsUsed : Nat := 0
def theMethod : MethodId := ⟨1, 1⟩
def args0 : Array Value := #[.long 7, .long 9, .int 3, .int 300, .int 3, .int 128]
def aboutOver (below : List Frame) : State where
  vm := { classes := classes, interned := interned.toArray }
  heap := heap
  slotsUsed := slotsUsed
  threads := #[{ frames := .invoking theMethod args0 :: below }]
def below0 : List Frame := [.native { method := ⟨0, 0⟩, args := #[] }]
def about1 : State := aboutOver below0
def p0 : Program := .bare "" "" ""
def e0 : Env := launch0.env 0 0 0
theorem w_frames : about1.frames = Frame.invoking theMethod args0 :: below0 := rfl
set_option maxRecDepth 65536 in
theorem w_args : argsFit about1.vm theMethod args0 = true := by decide +kernel
set_option maxRecDepth 65536 in
theorem w_heap : heapFits about1 = true := by decide +kernel
set_option maxRecDepth 65536 in
theorem w_runnable : about1.curStatus? = some .runnable := by decide +kernel
set_option maxRecDepth 65536 in
theorem w_alone : about1.alone = true := by decide +kernel
set_option maxRecDepth 65536 in
theorem w_named : about1.methodNamed? x = some theMethod := by decide +kernel
set_option maxRecDepth 65536 in
theorem w_hears : about1.hears theMethod below0 = true := by decide +kernel
set_option maxRecDepth 65536 in
theorem w_ripe : about1.ripe theMethod args0 below0 = true := by decide +kernel
theorem w_running : about1.status = .running := rfl
set_option maxRecDepth 65536 in
theorem w_room : about1.hasRoom e0.platform room_1 = true :=
  launch0.hasRoom_least _ room_1 (by decide +kernel) (by decide +kernel) (by decide +kernel) (by decide +kernel) (by decide +kernel) (by decide +kernel)
theorem allAtoms_all (ts : List Jvm.Cond) (a : Array Jvm.Value) (st : Jvm.State) : (allAtoms ts).before a st = ts.all (fun c => c.before a st) := by
  induction ts with
  | nil => rfl
  | cons c t ih =>
    show (Jvm.Cond.and c (allAtoms t)).before a st = _
    rw [Jvm.Cond.before_and, ih, List.all_cons]
def words1 : List Jvm.Cond := Jvm.Cond.code x code maxLocals ret :: tables_1
/-- a 'code' word, met by the world's own term for the bytes: nothing is compared byte by byte -/
theorem code_word {y : MethodName} {bytes : ByteArray} {mx : Nat} {rt : Option FieldType} {a : Array Value} {s : State} {m : MethodId} {meth : Method} {c : Code} (h1 : s.methodNamed? y = some m) (h2 : s.vm.method? m = some meth) (h3 : meth.code = some c) (h4 : c.code = bytes)
    (h5 : (c.maxLocals == mx && c.exceptionTable.isEmpty && decide (c.maxStack ≤ mostOperands) && decide (meth.sig.returnType = rt) && !meth.locks && decide (parseMethodDescriptor y.desc = some meth.sig)) = true) : (Jvm.Cond.code y bytes mx rt).before a s = true := by
  simp only [Bool.and_eq_true, beq_iff_eq, Bool.not_eq_true', decide_eq_true_eq] at h5
  obtain ⟨⟨⟨⟨⟨g1, g2⟩, g3⟩, g4⟩, g5⟩, g6⟩ := h5
  simp [Cond.before, Cond.holds, Cond.value, h1, h2, h3, h4, g1, g2, g3, g4, g5, g6]
def isCode : Jvm.Cond → Bool
  | .code _ _ _ _ => true
  | _ => false
theorem all_split {L : List Jvm.Cond} {P : Jvm.Cond → Bool} (h1 : L.all (fun c => isCode c || P c) = true) (h2 : ∀ c ∈ L.filter isCode, P c = true) : L.all P = true := by
  refine List.all_eq_true.mpr fun c hc => ?_
  have h := List.all_eq_true.mp h1 c hc
  rcases Bool.eq_false_or_eq_true (isCode c) with hi | hi
  · exact h2 c (List.mem_filter.mpr ⟨hc, hi⟩)
  · simpa [hi] using h
set_option maxRecDepth 65536 in
theorem w_c0 : (Jvm.Cond.code x code maxLocals ret).before args0 about1 = true := code_word (m := ⟨1, 1⟩) (meth := k1m1) (c := k1c1) (by decide +kernel) rfl rfl rfl (by decide +kernel)
set_option maxRecDepth 65536 in
theorem w_c1 : (Jvm.Cond.code ({ cls := "com/example/ref_search/refsearch/matcher/BulkSymbols$Chars", name := "markPair", desc := "([CII[CII[SI)V" } : Jvm.MethodName) prog_3_method_6_code (10 : Nat) (Option.none : Option Jvm.ClassFile.FieldType)).before args0 about1 = true := code_word (m := ⟨4, 1⟩) (meth := k4m1) (c := k4c1) (by decide +kernel) rfl rfl rfl (by decide +kernel)
set_option maxRecDepth 65536 in
theorem w_c2 : (Jvm.Cond.code ({ cls := "com/example/ref_search/refsearch/matcher/CharsMarkPairPinLaw", name := "place", desc := "([SIIS[CII[CII)Z" } : Jvm.MethodName) method_3_code (12 : Nat) (Option.some Jvm.ClassFile.FieldType.boolean)).before args0 about1 = true := code_word (m := ⟨1, 2⟩) (meth := k1m2) (c := k1c2) (by decide +kernel) rfl rfl rfl (by decide +kernel)
set_option maxRecDepth 65536 in
theorem w_c3 : (Jvm.Cond.code ({ cls := "com/example/ref_search/refsearch/matcher/CharsMarkPairPinLaw", name := "packed", desc := "([C)J" } : Jvm.MethodName) method_4_code (1 : Nat) (Option.some Jvm.ClassFile.FieldType.long)).before args0 about1 = true := code_word (m := ⟨1, 3⟩) (meth := k1m3) (c := k1c3) (by decide +kernel) rfl rfl rfl (by decide +kernel)
def codes1 : List Jvm.Cond := [Jvm.Cond.code x code maxLocals ret, Jvm.Cond.code ({ cls := "com/example/ref_search/refsearch/matcher/BulkSymbols$Chars", name := "markPair", desc := "([CII[CII[SI)V" } : Jvm.MethodName) prog_3_method_6_code (10 : Nat) (Option.none : Option Jvm.ClassFile.FieldType), Jvm.Cond.code ({ cls := "com/example/ref_search/refsearch/matcher/CharsMarkPairPinLaw", name := "place", desc := "([SIIS[CII[CII)Z" } : Jvm.MethodName) method_3_code (12 : Nat) (Option.some Jvm.ClassFile.FieldType.boolean), Jvm.Cond.code ({ cls := "com/example/ref_search/refsearch/matcher/CharsMarkPairPinLaw", name := "packed", desc := "([C)J" } : Jvm.MethodName) method_4_code (1 : Nat) (Option.some Jvm.ClassFile.FieldType.long)]
set_option maxRecDepth 65536 in
theorem codes_eq : words1.filter isCode = codes1 := rfl
theorem w_codes : ∀ c ∈ words1.filter isCode, c.before args0 about1 = true := by
  rw [codes_eq]
  intro c hc
  simp only [codes1, List.mem_cons, List.not_mem_nil, or_false] at hc
  rcases hc with rfl | rfl | rfl | rfl
  · exact w_c0
  · exact w_c1
  · exact w_c2
  · exact w_c3
set_option maxRecDepth 65536 in
theorem w_t1 : words1.all (fun c => isCode c || c.before args0 about1) = true := by decide +kernel
theorem w_tables : (allAtoms (Jvm.Cond.code x code maxLocals ret :: tables_1)).before args0 about1 = true := by
  rw [allAtoms_all]
  show words1.all (fun c => c.before args0 about1) = true
  refine all_split ?_ w_codes
  rw [w_t1]
set_option maxRecDepth 65536 in
theorem w_case : (Jvm.Cond.and given_1 narrow_1).before args0 about1 = true := by decide +kernel
theorem w_applies : (headSpec (Jvm.Cond.code x code maxLocals ret :: tables_1) room_1).applies x e0.platform about1 = true :=
  (Spec.applies_iff w_frames).mpr ⟨w_running, w_runnable, w_alone, w_named, w_hears, w_ripe, w_room, w_tables⟩
theorem atStart : AtStart classFile x code maxLocals ret World_1 tables_1 room_1 Calls_1 rest_1 Pre_1 launch0 p0 e0 about1 theMethod args0 below0 :=
  ⟨lists_1, trivial, launch0.admits_env _ _ _, launch0.least_env, fairChoices_fair.cas, fairChoices_fair.clock, w_frames, w_args, w_heap, w_applies, trivial, trivial, w_case⟩
end start1
theorem witness_1 : WitnessClaimed_1 := ⟨start1.p0, start1.e0, start1.about1, start1.theMethod, start1.args0, start1.below0, start1.atStart⟩
end Jvm.Pilot.@@N@@
