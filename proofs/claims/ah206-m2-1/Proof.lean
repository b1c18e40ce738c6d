import JvmDerived
import JvmDerived.Pilot.@@N@@Statement
import JvmDerived.Pilot.@@N@@Code
set_option linter.unusedVariables false
set_option linter.unusedSimpArgs false
namespace Jvm.OwnWk
open Sem ClassFile Op Lib Jvm.Stand Jvm.Free Jvm.LawKit Jvm.RoadKit
def Sd (Z : State) (own : String) (bs : ByteArray) (mx : Nat) (ret : Option FieldType) (n0 : Nat) (p : Program) (l : Launch) (e : Env) (R : Room) (s : State) (m : MethodId) (args : Array Value) (below : List Frame) (meth : Method) (c : Code) (T : State) (h : Heap) (k n : Nat) : Prop :=
  ∃ locs, Stand p l e R s m args below meth c T locs k n ∧ T.heap = h ∧ Fr n0 locs ∧ n0 ≤ s.heap.size ∧ p.tables.exec = Jvm.exec ∧ Z.Warmed39 s.vm ∧ s.vm.findClass own = some m.cls ∧ c.code = bs ∧ c.maxLocals = mx ∧ meth.sig.returnType = ret ∧ meth.locks = false
def Gl (p : Program) (e : Env) (below : List Frame) (P : Outcome → State → Prop) (A : State) : Prop := ∃ t o, Steps p.tables e below A t ∧ t.status = .running ∧ Ended t below o ∧ P o t
def Pst (s : State) (n0 K N : Nat) (Q : Option Value → Heap → Prop) (o : Outcome) (t : State) : Prop := ∃ v L, o = .returned v ∧ (Q v t.heap ∧ Fr n0 L) ∧ FrameEnd s o t L K N
def OMet (l : Launch) (Z : State) (ws : List Jvm.Cond) (y : MethodName) (bs : ByteArray) (mx : Nat) (ret : Option FieldType) (rm : Room) (as : Array Value) (h : Heap) (n0 : Nat) (Q : Option Value → Heap → Prop) : Prop :=
  MetFree l y (head1 (Jvm.Cond.code y bs mx ret :: ws) rm) (fun a U => a = as ∧ Z.Warmed39 U.vm ∧ U.heap = h) (fun _ _ _ _ _ => True) (fun _ U o U' => ∃ v L, o = .returned v ∧ (Q v U'.heap ∧ Fr n0 L) ∧ FrameEnd U o U' L rm.cells rm.slots)
section Kit
variable {Z : State} {own : String} {bs : ByteArray} {mx : Nat} {ret : Option FieldType} {n0 : Nat} {p : Program} {l : Launch} {e : Env} {R : Room} {s : State} {m : MethodId} {args : Array Value} {below : List Frame} {meth : Method} {c : Code} {T : State} {h : Heap} {k n : Nat} {P : Outcome → State → Prop} {L : Array Slot} {S : List Value} {pc pc' pcT pcF : Nat} {a0 : Array Value} {t : FieldType}
theorem Gl.of1 {A B : State} (f : ∀ t, Steps p.tables e below B t → Steps p.tables e below A t) (q : Gl p e below P B) : Gl p e below P A := by
  obtain ⟨t, o, h1, h2⟩ := q
  exact ⟨t, o, f t h1, h2⟩
theorem Gl.via {A B : State} (f : Steps p.tables e below A B) (q : Gl p e below P B) : Gl p e below P A := by
  obtain ⟨t, o, h1, h2⟩ := q
  exact ⟨t, o, f.trans h1, h2⟩
theorem OMet.of {ws : List Jvm.Cond} {y : MethodName} {rm : Room} {as : Array Value} {Q : Option Value → Heap → Prop} (hpl : plainFor y = true) (hef : ∀ m, entryFrame m as mx = mkF m 0 L []) (hn : n0 ≤ h.size)
    (body : ∀ p e s m below meth c T, Sd Z y.cls bs mx ret n0 p l e rm s m as below meth c T h 0 0 → meth.name = y.name → Gl p e below (Pst s n0 rm.cells rm.slots Q) (T.setTop (mkF m 0 L []))) : OMet l Z ws y bs mx ret rm as h n0 Q := by
  refine MetFree.of_bodySF hpl hisR ?_
  intro p e s m args below meth c s₁ Bd hml0 hP hK
  obtain ⟨rfl, hZ, hh⟩ := hP
  have e0 : s₁.heap = h := by rw [← hh, Bd.state]; rfl
  obtain ⟨t, o, h1, h2, h3, h4⟩ := body p e s m below meth c s₁ ⟨[], Stand.of_body Bd, e0, Fr.nil n0, by rw [hh]; exact hn, Bd.exec, hZ, findClass_of_methodNamed Bd.named, Bd.bytes, hml0, Bd.returns, Bd.notSynchronized⟩ (name_of_methodNamed Bd.named Bd.method).1
  exact ⟨t, o, castTop (hef m) h1, h2, h3, h4⟩

theorem own_grow {T' : State} {locs' : List Loc} {k' n' : Nat} (X : Stand p l e R s m args below meth c T' locs' k' n') : s.heap.size ≤ T'.heap.size := X.same.2.1
theorem own_eqI {args : Array Value} {Z : State} {t : Term} {v : Int32} (q : (Jvm.Cond.eq t (.int v)).value args Z none Z [] = some true) : t.eval args Z none [] Z = some (.int v) := by
  simp only [Cond.value, Term.eval] at q
  cases ht : t.eval args Z none [] Z with
  | none => simp [ht] at q
  | some w => cases w <;> simp [ht] at q ⊢ <;> exact q
theorem own_ite {c A B : Prop} [Decidable c] (h1 : c → A) (h2 : ¬ c → B) : A ∨ B := if q : c then Or.inl (h1 q) else Or.inr (h2 q)
theorem own_cut {A B : Prop} (f : B → A) (b : B) : A := f b
theorem Sd.sz (Y : Sd Z own bs mx ret n0 p l e R s m args below meth c T h k n) : n0 ≤ h.size := by
  obtain ⟨locs, X, eT, N, hn0, hx, hZ, hown, hby, hml, hrt, hlk⟩ := Y
  exact eT ▸ Nat.le_trans hn0 (own_grow X)
theorem own_narB {a v : Int32} (h : a.toInt8.toInt32 = v) : nar .byte v = v := by subst h; simp [nar]
theorem own_narC {a v : Int32} (h : a.toUInt32.toUInt16.toUInt32.toInt32 = v) : nar .char v = v := by subst h; have q := Jvm.Free.XT.narrow_c a; exact Value.int.inj q
theorem own_narS {a v : Int32} (h : a.toInt16.toInt32 = v) : nar .short v = v := by subst h; simp [nar]
theorem own_c3 {v : Int32} (h0 : 0 ≤ v.toInt) (h : v.toInt ≤ 3) : v = 0 ∨ v = 1 ∨ v = 2 ∨ v = 3 := by
  have : v.toInt = 0 ∨ v.toInt = 1 ∨ v.toInt = 2 ∨ v.toInt = 3 := by omega
  rcases this with q | q | q | q <;> simp [← Int32.toInt_inj, q]
theorem own_c4 {v : Int32} (h0 : 0 ≤ v.toInt) (h : v.toInt ≤ 4) : v = 0 ∨ v = 1 ∨ v = 2 ∨ v = 3 ∨ v = 4 := by
  have : v.toInt = 0 ∨ v.toInt = 1 ∨ v.toInt = 2 ∨ v.toInt = 3 ∨ v.toInt = 4 := by omega
  rcases this with q | q | q | q | q <;> simp [← Int32.toInt_inj, q]
theorem own_c5 {v : Int32} (h0 : 0 ≤ v.toInt) (h : v.toInt ≤ 5) : v = 0 ∨ v = 1 ∨ v = 2 ∨ v = 3 ∨ v = 4 ∨ v = 5 := by
  have : v.toInt = 0 ∨ v.toInt = 1 ∨ v.toInt = 2 ∨ v.toInt = 3 ∨ v.toInt = 4 ∨ v.toInt = 5 := by omega
  rcases this with q | q | q | q | q | q <;> simp [← Int32.toInt_inj, q]
theorem own_narR {t : FieldType} {x : Value} (q : x.isRef = true) : narrow t x = x := by rcases ref_cases q with rfl | ⟨z, rfl⟩ <;> cases t <;> rfl
theorem OMet.un {l : Launch} {Z : State} {ws : List Jvm.Cond} {y : MethodName} {bs : ByteArray} {mx : Nat} {ret : Option FieldType} {rm : Room} {as : Array Value} {h : Heap} {n0 : Nat} {Q : Option Value → Heap → Prop} (q : OMet l Z ws y bs mx ret rm as h n0 Q) :
  MetFree l y (head1 (Jvm.Cond.code y bs mx ret :: ws) rm) (fun a U => a = as ∧ Z.Warmed39 U.vm ∧ U.heap = h) (fun _ _ _ _ _ => True) (fun _ U o U' => ∃ v L, o = .returned v ∧ (fun v h' L => Q v h' ∧ Fr n0 L) v U'.heap L ∧ FrameEnd U o U' L rm.cells rm.slots) := q
theorem own_not64 (x : Int64) : (x ^^^ (-1)).toInt = -x.toInt - 1 := by
  have h1 : x ^^^ (-1) = ~~~x := by
    apply Int64.toBitVec_inj.mp
    rw [Int64.toBitVec_xor, Int64.toBitVec_not]
    exact BitVec.xor_allOnes
  rw [h1, Int64.not_eq_neg_sub]
  have q := c_lsub (-x) 1
  have r := c_lneg x
  have n1 := rng64 (-x - 1)
  have n2 := rng64 (-x)
  have n3 := rng64 x
  simp only [Int64.reduceToInt] at q
  omega
theorem own_narZ {x : Int32} (q : x = 0 ∨ x = 1) : nar .boolean x = x := by rcases q with rfl | rfl <;> rfl
theorem own_nZ {x : Int32} (q : x = 0 ∨ x = 1) : narrow .boolean (.int x) = .int x := by rcases q with rfl | rfl <;> rfl
theorem own_fZ {x : Int32} (q : x = 0 ∨ x = 1) : fits .boolean (.int x) = true := by rcases q with rfl | rfl <;> rfl
theorem Gl.iadd (Y : Sd Z own bs mx ret n0 p l e R s m args below meth c T h k n) {x y : Int32} {r : Int32} (hr : x + y = r) (hd : decode bs pc = .ok (.iadd, 1)) (hp : pc + 1 = pc') (q : Gl p e below P (T.setTop (mkF m pc' L (.int r :: S)))) : Gl p e below P (T.setTop (mkF m pc L (.int y :: .int x :: S))) := by
  obtain ⟨locs, X, eT, N, hn0, hx, hZ, hown, hby, hml, hrt, hlk⟩ := Y
  subst hp hr
  exact q.of1 fun t q => XS.iadd X.here hx rfl (hb hby hd) rfl q
theorem Gl.isub (Y : Sd Z own bs mx ret n0 p l e R s m args below meth c T h k n) {x y : Int32} {r : Int32} (hr : x - y = r) (hd : decode bs pc = .ok (.isub, 1)) (hp : pc + 1 = pc') (q : Gl p e below P (T.setTop (mkF m pc' L (.int r :: S)))) : Gl p e below P (T.setTop (mkF m pc L (.int y :: .int x :: S))) := by
  obtain ⟨locs, X, eT, N, hn0, hx, hZ, hown, hby, hml, hrt, hlk⟩ := Y
  subst hp hr
  exact q.of1 fun t q => XS.isub X.here hx rfl (hb hby hd) rfl q
theorem Gl.imul (Y : Sd Z own bs mx ret n0 p l e R s m args below meth c T h k n) {x y : Int32} {r : Int32} (hr : x * y = r) (hd : decode bs pc = .ok (.imul, 1)) (hp : pc + 1 = pc') (q : Gl p e below P (T.setTop (mkF m pc' L (.int r :: S)))) : Gl p e below P (T.setTop (mkF m pc L (.int y :: .int x :: S))) := by
  obtain ⟨locs, X, eT, N, hn0, hx, hZ, hown, hby, hml, hrt, hlk⟩ := Y
  subst hp hr
  exact q.of1 fun t q => XS.imul X.here hx rfl (hb hby hd) rfl q
theorem Gl.iand (Y : Sd Z own bs mx ret n0 p l e R s m args below meth c T h k n) {x y : Int32} {r : Int32} (hr : x &&& y = r) (hd : decode bs pc = .ok (.iand, 1)) (hp : pc + 1 = pc') (q : Gl p e below P (T.setTop (mkF m pc' L (.int r :: S)))) : Gl p e below P (T.setTop (mkF m pc L (.int y :: .int x :: S))) := by
  obtain ⟨locs, X, eT, N, hn0, hx, hZ, hown, hby, hml, hrt, hlk⟩ := Y
  subst hp hr
  exact q.of1 fun t q => XS.iand X.here hx rfl (hb hby hd) rfl q
theorem Gl.ior (Y : Sd Z own bs mx ret n0 p l e R s m args below meth c T h k n) {x y : Int32} {r : Int32} (hr : x ||| y = r) (hd : decode bs pc = .ok (.ior, 1)) (hp : pc + 1 = pc') (q : Gl p e below P (T.setTop (mkF m pc' L (.int r :: S)))) : Gl p e below P (T.setTop (mkF m pc L (.int y :: .int x :: S))) := by
  obtain ⟨locs, X, eT, N, hn0, hx, hZ, hown, hby, hml, hrt, hlk⟩ := Y
  subst hp hr
  exact q.of1 fun t q => XS.ior X.here hx rfl (hb hby hd) rfl q
theorem Gl.ixor (Y : Sd Z own bs mx ret n0 p l e R s m args below meth c T h k n) {x y : Int32} {r : Int32} (hr : x ^^^ y = r) (hd : decode bs pc = .ok (.ixor, 1)) (hp : pc + 1 = pc') (q : Gl p e below P (T.setTop (mkF m pc' L (.int r :: S)))) : Gl p e below P (T.setTop (mkF m pc L (.int y :: .int x :: S))) := by
  obtain ⟨locs, X, eT, N, hn0, hx, hZ, hown, hby, hml, hrt, hlk⟩ := Y
  subst hp hr
  exact q.of1 fun t q => XS.ixor X.here hx rfl (hb hby hd) rfl q
theorem Gl.ishl (Y : Sd Z own bs mx ret n0 p l e R s m args below meth c T h k n) {x y : Int32} {r : Int32} (hr : x <<< (y &&& 31) = r) (hd : decode bs pc = .ok (.ishl, 1)) (hp : pc + 1 = pc') (q : Gl p e below P (T.setTop (mkF m pc' L (.int r :: S)))) : Gl p e below P (T.setTop (mkF m pc L (.int y :: .int x :: S))) := by
  obtain ⟨locs, X, eT, N, hn0, hx, hZ, hown, hby, hml, hrt, hlk⟩ := Y
  subst hp hr
  exact q.of1 fun t q => XS.ishl X.here hx rfl (hb hby hd) rfl q
theorem Gl.ishr (Y : Sd Z own bs mx ret n0 p l e R s m args below meth c T h k n) {x y : Int32} {r : Int32} (hr : x >>> (y &&& 31) = r) (hd : decode bs pc = .ok (.ishr, 1)) (hp : pc + 1 = pc') (q : Gl p e below P (T.setTop (mkF m pc' L (.int r :: S)))) : Gl p e below P (T.setTop (mkF m pc L (.int y :: .int x :: S))) := by
  obtain ⟨locs, X, eT, N, hn0, hx, hZ, hown, hby, hml, hrt, hlk⟩ := Y
  subst hp hr
  exact q.of1 fun t q => XS.ishr X.here hx rfl (hb hby hd) rfl q
theorem Gl.iushr (Y : Sd Z own bs mx ret n0 p l e R s m args below meth c T h k n) {x y : Int32} {r : Int32} (hr : (x.toUInt32 >>> (y &&& 31).toUInt32).toInt32 = r) (hd : decode bs pc = .ok (.iushr, 1)) (hp : pc + 1 = pc') (q : Gl p e below P (T.setTop (mkF m pc' L (.int r :: S)))) : Gl p e below P (T.setTop (mkF m pc L (.int y :: .int x :: S))) := by
  obtain ⟨locs, X, eT, N, hn0, hx, hZ, hown, hby, hml, hrt, hlk⟩ := Y
  subst hp hr
  exact q.of1 fun t q => XS.iushr X.here hx rfl (hb hby hd) rfl q
theorem Gl.ladd (Y : Sd Z own bs mx ret n0 p l e R s m args below meth c T h k n) {x y : Int64} {r : Int64} (hr : x + y = r) (hd : decode bs pc = .ok (.ladd, 1)) (hp : pc + 1 = pc') (q : Gl p e below P (T.setTop (mkF m pc' L (.long r :: S)))) : Gl p e below P (T.setTop (mkF m pc L (.long y :: .long x :: S))) := by
  obtain ⟨locs, X, eT, N, hn0, hx, hZ, hown, hby, hml, hrt, hlk⟩ := Y
  subst hp hr
  exact q.of1 fun t q => XS.ladd X.here hx rfl (hb hby hd) rfl q
theorem Gl.lsub (Y : Sd Z own bs mx ret n0 p l e R s m args below meth c T h k n) {x y : Int64} {r : Int64} (hr : x - y = r) (hd : decode bs pc = .ok (.lsub, 1)) (hp : pc + 1 = pc') (q : Gl p e below P (T.setTop (mkF m pc' L (.long r :: S)))) : Gl p e below P (T.setTop (mkF m pc L (.long y :: .long x :: S))) := by
  obtain ⟨locs, X, eT, N, hn0, hx, hZ, hown, hby, hml, hrt, hlk⟩ := Y
  subst hp hr
  exact q.of1 fun t q => XS.lsub X.here hx rfl (hb hby hd) rfl q
theorem Gl.lmul (Y : Sd Z own bs mx ret n0 p l e R s m args below meth c T h k n) {x y : Int64} {r : Int64} (hr : x * y = r) (hd : decode bs pc = .ok (.lmul, 1)) (hp : pc + 1 = pc') (q : Gl p e below P (T.setTop (mkF m pc' L (.long r :: S)))) : Gl p e below P (T.setTop (mkF m pc L (.long y :: .long x :: S))) := by
  obtain ⟨locs, X, eT, N, hn0, hx, hZ, hown, hby, hml, hrt, hlk⟩ := Y
  subst hp hr
  exact q.of1 fun t q => XS.lmul X.here hx rfl (hb hby hd) rfl q
theorem Gl.land (Y : Sd Z own bs mx ret n0 p l e R s m args below meth c T h k n) {x y : Int64} {r : Int64} (hr : x &&& y = r) (hd : decode bs pc = .ok (.land, 1)) (hp : pc + 1 = pc') (q : Gl p e below P (T.setTop (mkF m pc' L (.long r :: S)))) : Gl p e below P (T.setTop (mkF m pc L (.long y :: .long x :: S))) := by
  obtain ⟨locs, X, eT, N, hn0, hx, hZ, hown, hby, hml, hrt, hlk⟩ := Y
  subst hp hr
  exact q.of1 fun t q => XS.land X.here hx rfl (hb hby hd) rfl q
theorem Gl.lor (Y : Sd Z own bs mx ret n0 p l e R s m args below meth c T h k n) {x y : Int64} {r : Int64} (hr : x ||| y = r) (hd : decode bs pc = .ok (.lor, 1)) (hp : pc + 1 = pc') (q : Gl p e below P (T.setTop (mkF m pc' L (.long r :: S)))) : Gl p e below P (T.setTop (mkF m pc L (.long y :: .long x :: S))) := by
  obtain ⟨locs, X, eT, N, hn0, hx, hZ, hown, hby, hml, hrt, hlk⟩ := Y
  subst hp hr
  exact q.of1 fun t q => XS.lor X.here hx rfl (hb hby hd) rfl q
theorem Gl.lxor (Y : Sd Z own bs mx ret n0 p l e R s m args below meth c T h k n) {x y : Int64} {r : Int64} (hr : x ^^^ y = r) (hd : decode bs pc = .ok (.lxor, 1)) (hp : pc + 1 = pc') (q : Gl p e below P (T.setTop (mkF m pc' L (.long r :: S)))) : Gl p e below P (T.setTop (mkF m pc L (.long y :: .long x :: S))) := by
  obtain ⟨locs, X, eT, N, hn0, hx, hZ, hown, hby, hml, hrt, hlk⟩ := Y
  subst hp hr
  exact q.of1 fun t q => XS.lxor X.here hx rfl (hb hby hd) rfl q
theorem Gl.lshl (Y : Sd Z own bs mx ret n0 p l e R s m args below meth c T h k n) {x : Int64} {y : Int32} {r : Int64} (hr : x <<< (y &&& 0x3f).toInt64 = r) (hd : decode bs pc = .ok (.lshl, 1)) (hp : pc + 1 = pc') (q : Gl p e below P (T.setTop (mkF m pc' L (.long r :: S)))) : Gl p e below P (T.setTop (mkF m pc L (.int y :: .long x :: S))) := by
  obtain ⟨locs, X, eT, N, hn0, hx, hZ, hown, hby, hml, hrt, hlk⟩ := Y
  subst hp hr
  exact q.of1 fun t q => XS.lshl X.here hx rfl (hb hby hd) rfl q
theorem Gl.lshr (Y : Sd Z own bs mx ret n0 p l e R s m args below meth c T h k n) {x : Int64} {y : Int32} {r : Int64} (hr : x >>> (y &&& 0x3f).toInt64 = r) (hd : decode bs pc = .ok (.lshr, 1)) (hp : pc + 1 = pc') (q : Gl p e below P (T.setTop (mkF m pc' L (.long r :: S)))) : Gl p e below P (T.setTop (mkF m pc L (.int y :: .long x :: S))) := by
  obtain ⟨locs, X, eT, N, hn0, hx, hZ, hown, hby, hml, hrt, hlk⟩ := Y
  subst hp hr
  exact q.of1 fun t q => XS.lshr X.here hx rfl (hb hby hd) rfl q
theorem Gl.lushr (Y : Sd Z own bs mx ret n0 p l e R s m args below meth c T h k n) {x : Int64} {y : Int32} {r : Int64} (hr : (x.toUInt64 >>> (y &&& 0x3f).toInt64.toUInt64).toInt64 = r) (hd : decode bs pc = .ok (.lushr, 1)) (hp : pc + 1 = pc') (q : Gl p e below P (T.setTop (mkF m pc' L (.long r :: S)))) : Gl p e below P (T.setTop (mkF m pc L (.int y :: .long x :: S))) := by
  obtain ⟨locs, X, eT, N, hn0, hx, hZ, hown, hby, hml, hrt, hlk⟩ := Y
  subst hp hr
  exact q.of1 fun t q => XS.lushr X.here hx rfl (hb hby hd) rfl q
theorem Gl.idiv (Y : Sd Z own bs mx ret n0 p l e R s m args below meth c T h k n) {x y : Int32} (hy : y ≠ 0) {r : Int32} (hr : x / y = r) (hd : decode bs pc = .ok (.idiv, 1)) (hp : pc + 1 = pc') (q : Gl p e below P (T.setTop (mkF m pc' L (.int r :: S)))) : Gl p e below P (T.setTop (mkF m pc L (.int y :: .int x :: S))) := by
  obtain ⟨locs, X, eT, N, hn0, hx, hZ, hown, hby, hml, hrt, hlk⟩ := Y
  subst hp hr
  exact q.of1 fun t q => XS.idiv X.here hx rfl (hb hby hd) rfl hy q
theorem Gl.irem (Y : Sd Z own bs mx ret n0 p l e R s m args below meth c T h k n) {x y : Int32} (hy : y ≠ 0) {r : Int32} (hr : x % y = r) (hd : decode bs pc = .ok (.irem, 1)) (hp : pc + 1 = pc') (q : Gl p e below P (T.setTop (mkF m pc' L (.int r :: S)))) : Gl p e below P (T.setTop (mkF m pc L (.int y :: .int x :: S))) := by
  obtain ⟨locs, X, eT, N, hn0, hx, hZ, hown, hby, hml, hrt, hlk⟩ := Y
  subst hp hr
  exact q.of1 fun t q => iremM X hx rfl (hb hby hd) rfl hy q
theorem Gl.ldiv (Y : Sd Z own bs mx ret n0 p l e R s m args below meth c T h k n) {x y : Int64} (hy : y ≠ 0) {r : Int64} (hr : x / y = r) (hd : decode bs pc = .ok (.ldiv, 1)) (hp : pc + 1 = pc') (q : Gl p e below P (T.setTop (mkF m pc' L (.long r :: S)))) : Gl p e below P (T.setTop (mkF m pc L (.long y :: .long x :: S))) := by
  obtain ⟨locs, X, eT, N, hn0, hx, hZ, hown, hby, hml, hrt, hlk⟩ := Y
  subst hp hr
  exact q.of1 fun t q => XS.ldiv X.here hx rfl (hb hby hd) rfl hy q
theorem Gl.lrem (Y : Sd Z own bs mx ret n0 p l e R s m args below meth c T h k n) {x y : Int64} (hy : y ≠ 0) {r : Int64} (hr : x % y = r) (hd : decode bs pc = .ok (.lrem, 1)) (hp : pc + 1 = pc') (q : Gl p e below P (T.setTop (mkF m pc' L (.long r :: S)))) : Gl p e below P (T.setTop (mkF m pc L (.long y :: .long x :: S))) := by
  obtain ⟨locs, X, eT, N, hn0, hx, hZ, hown, hby, hml, hrt, hlk⟩ := Y
  subst hp hr
  exact q.of1 fun t q => XS.lrem X.here hx rfl (hb hby hd) rfl hy (by rw [lrem_mod]; exact q)
theorem Gl.ineg (Y : Sd Z own bs mx ret n0 p l e R s m args below meth c T h k n) {x : Int32} {r : Int32} (hr : -x = r) (hd : decode bs pc = .ok (.ineg, 1)) (hp : pc + 1 = pc') (q : Gl p e below P (T.setTop (mkF m pc' L (.int r :: S)))) : Gl p e below P (T.setTop (mkF m pc L (.int x :: S))) := by
  obtain ⟨locs, X, eT, N, hn0, hx, hZ, hown, hby, hml, hrt, hlk⟩ := Y
  subst hp hr
  exact q.of1 fun t q => XS.ineg X.here hx rfl (hb hby hd) rfl q
theorem Gl.lneg (Y : Sd Z own bs mx ret n0 p l e R s m args below meth c T h k n) {x : Int64} {r : Int64} (hr : -x = r) (hd : decode bs pc = .ok (.lneg, 1)) (hp : pc + 1 = pc') (q : Gl p e below P (T.setTop (mkF m pc' L (.long r :: S)))) : Gl p e below P (T.setTop (mkF m pc L (.long x :: S))) := by
  obtain ⟨locs, X, eT, N, hn0, hx, hZ, hown, hby, hml, hrt, hlk⟩ := Y
  subst hp hr
  exact q.of1 fun t q => XS.lneg X.here hx rfl (hb hby hd) rfl q
theorem Gl.i2b (Y : Sd Z own bs mx ret n0 p l e R s m args below meth c T h k n) {x : Int32} {r : Int32} (hr : x.toInt8.toInt32 = r) (hd : decode bs pc = .ok (.i2b, 1)) (hp : pc + 1 = pc') (q : Gl p e below P (T.setTop (mkF m pc' L (.int r :: S)))) : Gl p e below P (T.setTop (mkF m pc L (.int x :: S))) := by
  obtain ⟨locs, X, eT, N, hn0, hx, hZ, hown, hby, hml, hrt, hlk⟩ := Y
  subst hp hr
  exact q.of1 fun t q => XS.i2b X.here hx rfl (hb hby hd) rfl q
theorem Gl.i2c (Y : Sd Z own bs mx ret n0 p l e R s m args below meth c T h k n) {x : Int32} {r : Int32} (hr : x.toUInt32.toUInt16.toUInt32.toInt32 = r) (hd : decode bs pc = .ok (.i2c, 1)) (hp : pc + 1 = pc') (q : Gl p e below P (T.setTop (mkF m pc' L (.int r :: S)))) : Gl p e below P (T.setTop (mkF m pc L (.int x :: S))) := by
  obtain ⟨locs, X, eT, N, hn0, hx, hZ, hown, hby, hml, hrt, hlk⟩ := Y
  subst hp hr
  exact q.of1 fun t q => XS.i2c X.here hx rfl (hb hby hd) rfl q
theorem Gl.i2s (Y : Sd Z own bs mx ret n0 p l e R s m args below meth c T h k n) {x : Int32} {r : Int32} (hr : x.toInt16.toInt32 = r) (hd : decode bs pc = .ok (.i2s, 1)) (hp : pc + 1 = pc') (q : Gl p e below P (T.setTop (mkF m pc' L (.int r :: S)))) : Gl p e below P (T.setTop (mkF m pc L (.int x :: S))) := by
  obtain ⟨locs, X, eT, N, hn0, hx, hZ, hown, hby, hml, hrt, hlk⟩ := Y
  subst hp hr
  exact q.of1 fun t q => XS.i2s X.here hx rfl (hb hby hd) rfl q
theorem Gl.i2l (Y : Sd Z own bs mx ret n0 p l e R s m args below meth c T h k n) {x : Int32} {r : Int64} (hr : x.toInt64 = r) (hd : decode bs pc = .ok (.i2l, 1)) (hp : pc + 1 = pc') (q : Gl p e below P (T.setTop (mkF m pc' L (.long r :: S)))) : Gl p e below P (T.setTop (mkF m pc L (.int x :: S))) := by
  obtain ⟨locs, X, eT, N, hn0, hx, hZ, hown, hby, hml, hrt, hlk⟩ := Y
  subst hp hr
  exact q.of1 fun t q => XS.i2l X.here hx rfl (hb hby hd) rfl q
theorem Gl.l2i (Y : Sd Z own bs mx ret n0 p l e R s m args below meth c T h k n) {x : Int64} {r : Int32} (hr : x.toInt32 = r) (hd : decode bs pc = .ok (.l2i, 1)) (hp : pc + 1 = pc') (q : Gl p e below P (T.setTop (mkF m pc' L (.int r :: S)))) : Gl p e below P (T.setTop (mkF m pc L (.long x :: S))) := by
  obtain ⟨locs, X, eT, N, hn0, hx, hZ, hown, hby, hml, hrt, hlk⟩ := Y
  subst hp hr
  exact q.of1 fun t q => XS.l2i X.here hx rfl (hb hby hd) rfl q
theorem Gl.iconst (Y : Sd Z own bs mx ret n0 p l e R s m args below meth c T h k n) {i : Int} {v : Int32} (hv : Int32.ofInt i = v) (hd : decode bs pc = .ok (.iconst i, 1)) (hp : pc + 1 = pc') (q : Gl p e below P (T.setTop (mkF m pc' L (.int v :: S)))) : Gl p e below P (T.setTop (mkF m pc L S)) := by
  obtain ⟨locs, X, eT, N, hn0, hx, hZ, hown, hby, hml, hrt, hlk⟩ := Y
  subst hp
  exact q.of1 fun t q => XS.iconst X.here hx rfl (hb hby hd) (by rw [hv]; exact q)
theorem Gl.bipush (Y : Sd Z own bs mx ret n0 p l e R s m args below meth c T h k n) {i : Int} {v : Int32} (hv : (Int8.ofInt i).toInt32 = v) (hd : decode bs pc = .ok (.bipush i, 2)) (hp : pc + 2 = pc') (q : Gl p e below P (T.setTop (mkF m pc' L (.int v :: S)))) : Gl p e below P (T.setTop (mkF m pc L S)) := by
  obtain ⟨locs, X, eT, N, hn0, hx, hZ, hown, hby, hml, hrt, hlk⟩ := Y
  subst hp
  exact q.of1 fun t q => XS.bipush X.here hx rfl (hb hby hd) (by rw [hv]; exact q)
theorem Gl.sipush (Y : Sd Z own bs mx ret n0 p l e R s m args below meth c T h k n) {i : Int} {v : Int32} (hv : (Int16.ofInt i).toInt32 = v) (hd : decode bs pc = .ok (.sipush i, 3)) (hp : pc + 3 = pc') (q : Gl p e below P (T.setTop (mkF m pc' L (.int v :: S)))) : Gl p e below P (T.setTop (mkF m pc L S)) := by
  obtain ⟨locs, X, eT, N, hn0, hx, hZ, hown, hby, hml, hrt, hlk⟩ := Y
  subst hp
  exact q.of1 fun t q => XS.sipush X.here hx rfl (hb hby hd) (by rw [hv]; exact q)
theorem Gl.lconst (Y : Sd Z own bs mx ret n0 p l e R s m args below meth c T h k n) {i : Fin 2} {v : Int64} (hv : Int64.ofNat i = v) (hd : decode bs pc = .ok (.lconst i, 1)) (hp : pc + 1 = pc') (q : Gl p e below P (T.setTop (mkF m pc' L (.long v :: S)))) : Gl p e below P (T.setTop (mkF m pc L S)) := by
  obtain ⟨locs, X, eT, N, hn0, hx, hZ, hown, hby, hml, hrt, hlk⟩ := Y
  subst hp
  exact q.of1 fun t q => XS.lconst X.here hx rfl (hb hby hd) (by rw [hv]; exact q)
theorem Gl.aconstNull (Y : Sd Z own bs mx ret n0 p l e R s m args below meth c T h k n)  (hd : decode bs pc = .ok (.aconst_null, 1)) (hp : pc + 1 = pc') (q : Gl p e below P (T.setTop (mkF m pc' L (.null :: S)))) : Gl p e below P (T.setTop (mkF m pc L S)) := by
  obtain ⟨locs, X, eT, N, hn0, hx, hZ, hown, hby, hml, hrt, hlk⟩ := Y
  subst hp
  exact q.of1 fun t q => XS.aconstNull X.here hx rfl (hb hby hd) q
theorem Gl.ldcI (Y : Sd Z own bs mx ret n0 p l e R s m args below meth c T h k n) {i : Nat} {v : Int32} (w : (Jvm.Cond.constant own i v).before a0 Z = true) (hd : decode bs pc = .ok (.ldc i, 2)) (hp : pc + 2 = pc') (q : Gl p e below P (T.setTop (mkF m pc' L (.int v :: S)))) : Gl p e below P (T.setTop (mkF m pc L S)) := by
  obtain ⟨locs, X, eT, N, hn0, hx, hZ, hown, hby, hml, hrt, hlk⟩ := Y
  subst hp
  exact q.of1 fun t q => X.ldcInt hx hown (mvT hZ w) (g := mkF m pc L S) rfl (hb hby hd) t q
theorem Gl.ldcWI (Y : Sd Z own bs mx ret n0 p l e R s m args below meth c T h k n) {i : Nat} {v : Int32} (w : (Jvm.Cond.constant own i v).before a0 Z = true) (hd : decode bs pc = .ok (.ldc_w i, 3)) (hp : pc + 3 = pc') (q : Gl p e below P (T.setTop (mkF m pc' L (.int v :: S)))) : Gl p e below P (T.setTop (mkF m pc L S)) := by
  obtain ⟨locs, X, eT, N, hn0, hx, hZ, hown, hby, hml, hrt, hlk⟩ := Y
  subst hp
  exact q.of1 fun t q => X.ldcWI hx hown (mvT hZ w) (g := mkF m pc L S) rfl (hb hby hd) q
theorem Gl.ldcJ (Y : Sd Z own bs mx ret n0 p l e R s m args below meth c T h k n) {i : Nat} {v : Int64} (w : (Jvm.Cond.constantLong own i v).before a0 Z = true) (hd : decode bs pc = .ok (.ldc2_w i, 3)) (hp : pc + 3 = pc') (q : Gl p e below P (T.setTop (mkF m pc' L (.long v :: S)))) : Gl p e below P (T.setTop (mkF m pc L S)) := by
  obtain ⟨locs, X, eT, N, hn0, hx, hZ, hown, hby, hml, hrt, hlk⟩ := Y
  subst hp
  exact q.of1 fun t q => X.ldc2Long hx hown (mvT hZ w) (g := mkF m pc L S) rfl (hb hby hd) t q
theorem Gl.ldcD (Y : Sd Z own bs mx ret n0 p l e R s m args below meth c T h k n) {i : Nat} {v : UInt64} (w : (Jvm.Cond.constantDouble own i v).before a0 Z = true) (hd : decode bs pc = .ok (.ldc2_w i, 3)) (hp : pc + 3 = pc') (q : Gl p e below P (T.setTop (mkF m pc' L (.double v :: S)))) : Gl p e below P (T.setTop (mkF m pc L S)) := by
  obtain ⟨locs, X, eT, N, hn0, hx, hZ, hown, hby, hml, hrt, hlk⟩ := Y
  subst hp
  exact q.of1 fun t q => X.ldc2DoubleC hx hown (mvT hZ w) (g := mkF m pc L S) rfl (hb hby hd) t q
theorem Gl.iload (Y : Sd Z own bs mx ret n0 p l e R s m args below meth c T h k n) {i : Nat} {v : Int32} (hl : L[i]? = some (.val (.int v))) (hd : decode bs pc = .ok (.iload i, 2)) (hp : pc + 2 = pc') (q : Gl p e below P (T.setTop (mkF m pc' L (.int v :: S)))) : Gl p e below P (T.setTop (mkF m pc L S)) := by
  obtain ⟨locs, X, eT, N, hn0, hx, hZ, hown, hby, hml, hrt, hlk⟩ := Y
  subst hp
  exact q.of1 fun t q => XS.iload X.here hx rfl (hb hby hd) hl q
theorem Gl.iloadN (Y : Sd Z own bs mx ret n0 p l e R s m args below meth c T h k n) {i : Fin 4} {v : Int32} (hl : L[i.val]? = some (.val (.int v))) (hd : decode bs pc = .ok (.iload_n i, 1)) (hp : pc + 1 = pc') (q : Gl p e below P (T.setTop (mkF m pc' L (.int v :: S)))) : Gl p e below P (T.setTop (mkF m pc L S)) := by
  obtain ⟨locs, X, eT, N, hn0, hx, hZ, hown, hby, hml, hrt, hlk⟩ := Y
  subst hp
  exact q.of1 fun t q => XS.iloadN X.here hx rfl (hb hby hd) hl q
theorem Gl.lload (Y : Sd Z own bs mx ret n0 p l e R s m args below meth c T h k n) {i : Nat} {v : Int64} (hl : L[i]? = some (.val (.long v))) (hd : decode bs pc = .ok (.lload i, 2)) (hp : pc + 2 = pc') (q : Gl p e below P (T.setTop (mkF m pc' L (.long v :: S)))) : Gl p e below P (T.setTop (mkF m pc L S)) := by
  obtain ⟨locs, X, eT, N, hn0, hx, hZ, hown, hby, hml, hrt, hlk⟩ := Y
  subst hp
  exact q.of1 fun t q => XS.lload X.here hx rfl (hb hby hd) hl q
theorem Gl.lloadN (Y : Sd Z own bs mx ret n0 p l e R s m args below meth c T h k n) {i : Fin 4} {v : Int64} (hl : L[i.val]? = some (.val (.long v))) (hd : decode bs pc = .ok (.lload_n i, 1)) (hp : pc + 1 = pc') (q : Gl p e below P (T.setTop (mkF m pc' L (.long v :: S)))) : Gl p e below P (T.setTop (mkF m pc L S)) := by
  obtain ⟨locs, X, eT, N, hn0, hx, hZ, hown, hby, hml, hrt, hlk⟩ := Y
  subst hp
  exact q.of1 fun t q => XS.lloadN X.here hx rfl (hb hby hd) hl q
theorem Gl.dload (Y : Sd Z own bs mx ret n0 p l e R s m args below meth c T h k n) {i : Nat} {v : UInt64} (hl : L[i]? = some (.val (.double v))) (hd : decode bs pc = .ok (.dload i, 2)) (hp : pc + 2 = pc') (q : Gl p e below P (T.setTop (mkF m pc' L (.double v :: S)))) : Gl p e below P (T.setTop (mkF m pc L S)) := by
  obtain ⟨locs, X, eT, N, hn0, hx, hZ, hown, hby, hml, hrt, hlk⟩ := Y
  subst hp
  exact q.of1 fun t q => XS.dload X.here hx rfl (hb hby hd) hl q
theorem Gl.dloadN (Y : Sd Z own bs mx ret n0 p l e R s m args below meth c T h k n) {i : Fin 4} {v : UInt64} (hl : L[i.val]? = some (.val (.double v))) (hd : decode bs pc = .ok (.dload_n i, 1)) (hp : pc + 1 = pc') (q : Gl p e below P (T.setTop (mkF m pc' L (.double v :: S)))) : Gl p e below P (T.setTop (mkF m pc L S)) := by
  obtain ⟨locs, X, eT, N, hn0, hx, hZ, hown, hby, hml, hrt, hlk⟩ := Y
  subst hp
  exact q.of1 fun t q => XS.dloadN X.here hx rfl (hb hby hd) hl q
theorem Gl.dconst0 (Y : Sd Z own bs mx ret n0 p l e R s m args below meth c T h k n)  (hd : decode bs pc = .ok (.dconst 0, 1)) (hp : pc + 1 = pc') (q : Gl p e below P (T.setTop (mkF m pc' L (.double FP.dconst0 :: S)))) : Gl p e below P (T.setTop (mkF m pc L S)) := by
  obtain ⟨locs, X, eT, N, hn0, hx, hZ, hown, hby, hml, hrt, hlk⟩ := Y
  subst hp
  exact q.of1 fun t q => XS.dconst0 X.here hx rfl (hb hby hd) rfl q
theorem Gl.dconst1 (Y : Sd Z own bs mx ret n0 p l e R s m args below meth c T h k n)  (hd : decode bs pc = .ok (.dconst 1, 1)) (hp : pc + 1 = pc') (q : Gl p e below P (T.setTop (mkF m pc' L (.double FP.dconst1 :: S)))) : Gl p e below P (T.setTop (mkF m pc L S)) := by
  obtain ⟨locs, X, eT, N, hn0, hx, hZ, hown, hby, hml, hrt, hlk⟩ := Y
  subst hp
  exact q.of1 fun t q => XS.dconst1 X.here hx rfl (hb hby hd) rfl q
theorem Gl.aload (Y : Sd Z own bs mx ret n0 p l e R s m args below meth c T h k n) {i : Nat} {v : Value} (hl : L[i]? = some (.val v)) (hv : v.isRef = true) (hd : decode bs pc = .ok (.aload i, 2)) (hp : pc + 2 = pc') (q : Gl p e below P (T.setTop (mkF m pc' L (v :: S)))) : Gl p e below P (T.setTop (mkF m pc L S)) := by
  obtain ⟨locs, X, eT, N, hn0, hx, hZ, hown, hby, hml, hrt, hlk⟩ := Y
  subst hp
  exact q.of1 fun t q => XS.aload X.here hx rfl (hb hby hd) hl hv q
theorem Gl.aloadN (Y : Sd Z own bs mx ret n0 p l e R s m args below meth c T h k n) {i : Fin 4} {v : Value} (hl : L[i.val]? = some (.val v)) (hv : v.isRef = true) (hd : decode bs pc = .ok (.aload_n i, 1)) (hp : pc + 1 = pc') (q : Gl p e below P (T.setTop (mkF m pc' L (v :: S)))) : Gl p e below P (T.setTop (mkF m pc L S)) := by
  obtain ⟨locs, X, eT, N, hn0, hx, hZ, hown, hby, hml, hrt, hlk⟩ := Y
  subst hp
  exact q.of1 fun t q => XS.aloadN X.here hx rfl (hb hby hd) hl hv q
theorem Gl.istore (Y : Sd Z own bs mx ret n0 p l e R s m args below meth c T h k n) {i : Nat} {v : Int32} {L' : Array Slot} (hl : storeLocals L i (.int v) = some L') (hd : decode bs pc = .ok (.istore i, 2)) (hp : pc + 2 = pc') (q : Gl p e below P (T.setTop (mkF m pc' L' S))) : Gl p e below P (T.setTop (mkF m pc L (.int v :: S))) := by
  obtain ⟨locs, X, eT, N, hn0, hx, hZ, hown, hby, hml, hrt, hlk⟩ := Y
  subst hp
  exact q.of1 fun t q => XS.istore X.here hx rfl (hb hby hd) rfl hl q
theorem Gl.istoreN (Y : Sd Z own bs mx ret n0 p l e R s m args below meth c T h k n) {i : Fin 4} {v : Int32} {L' : Array Slot} (hl : storeLocals L i.val (.int v) = some L') (hd : decode bs pc = .ok (.istore_n i, 1)) (hp : pc + 1 = pc') (q : Gl p e below P (T.setTop (mkF m pc' L' S))) : Gl p e below P (T.setTop (mkF m pc L (.int v :: S))) := by
  obtain ⟨locs, X, eT, N, hn0, hx, hZ, hown, hby, hml, hrt, hlk⟩ := Y
  subst hp
  exact q.of1 fun t q => XS.istoreN X.here hx rfl (hb hby hd) rfl hl q
theorem Gl.lstore (Y : Sd Z own bs mx ret n0 p l e R s m args below meth c T h k n) {i : Nat} {v : Int64} {L' : Array Slot} (hl : storeLocals L i (.long v) = some L') (hd : decode bs pc = .ok (.lstore i, 2)) (hp : pc + 2 = pc') (q : Gl p e below P (T.setTop (mkF m pc' L' S))) : Gl p e below P (T.setTop (mkF m pc L (.long v :: S))) := by
  obtain ⟨locs, X, eT, N, hn0, hx, hZ, hown, hby, hml, hrt, hlk⟩ := Y
  subst hp
  exact q.of1 fun t q => XS.lstore X.here hx rfl (hb hby hd) rfl hl q
theorem Gl.lstoreN (Y : Sd Z own bs mx ret n0 p l e R s m args below meth c T h k n) {i : Fin 4} {v : Int64} {L' : Array Slot} (hl : storeLocals L i.val (.long v) = some L') (hd : decode bs pc = .ok (.lstore_n i, 1)) (hp : pc + 1 = pc') (q : Gl p e below P (T.setTop (mkF m pc' L' S))) : Gl p e below P (T.setTop (mkF m pc L (.long v :: S))) := by
  obtain ⟨locs, X, eT, N, hn0, hx, hZ, hown, hby, hml, hrt, hlk⟩ := Y
  subst hp
  exact q.of1 fun t q => XS.lstoreN X.here hx rfl (hb hby hd) rfl hl q
theorem Gl.astore (Y : Sd Z own bs mx ret n0 p l e R s m args below meth c T h k n) {i : Nat} {v : Value} (hv : v.isRef = true) {L' : Array Slot} (hl : storeLocals L i (v) = some L') (hd : decode bs pc = .ok (.astore i, 2)) (hp : pc + 2 = pc') (q : Gl p e below P (T.setTop (mkF m pc' L' S))) : Gl p e below P (T.setTop (mkF m pc L (v :: S))) := by
  obtain ⟨locs, X, eT, N, hn0, hx, hZ, hown, hby, hml, hrt, hlk⟩ := Y
  subst hp
  exact q.of1 fun t q => XS.astore X.here hx rfl (hb hby hd) rfl hv hl q
theorem Gl.astoreN (Y : Sd Z own bs mx ret n0 p l e R s m args below meth c T h k n) {i : Fin 4} {v : Value} (hv : v.isRef = true) {L' : Array Slot} (hl : storeLocals L i.val (v) = some L') (hd : decode bs pc = .ok (.astore_n i, 1)) (hp : pc + 1 = pc') (q : Gl p e below P (T.setTop (mkF m pc' L' S))) : Gl p e below P (T.setTop (mkF m pc L (v :: S))) := by
  obtain ⟨locs, X, eT, N, hn0, hx, hZ, hown, hby, hml, hrt, hlk⟩ := Y
  subst hp
  exact q.of1 fun t q => XS.astoreN X.here hx rfl (hb hby hd) rfl hv hl q
theorem Gl.iinc (Y : Sd Z own bs mx ret n0 p l e R s m args below meth c T h k n) {i : Nat} {cst : Int} {x r : Int32} {L' : Array Slot} (hl : L[i]? = some (.val (.int x))) (hr : x + Int32.ofInt cst = r) (hl' : storeLocals L i (.int r) = some L') (hd : decode bs pc = .ok (.iinc i cst, 3)) (hp : pc + 3 = pc') (q : Gl p e below P (T.setTop (mkF m pc' L' S))) : Gl p e below P (T.setTop (mkF m pc L S)) := by
  obtain ⟨locs, X, eT, N, hn0, hx, hZ, hown, hby, hml, hrt, hlk⟩ := Y
  subst hp
  exact q.of1 fun t q => XS.iinc X.here hx rfl (hb hby hd) hl (by rw [hr]; exact hl') q
theorem Gl.dup (Y : Sd Z own bs mx ret n0 p l e R s m args below meth c T h k n) {x : Value} (hc : x.category = 1) (hd : decode bs pc = .ok (.dup, 1)) (hp : pc + 1 = pc') (q : Gl p e below P (T.setTop (mkF m pc' L (x :: x :: S)))) : Gl p e below P (T.setTop (mkF m pc L (x :: S))) := by
  obtain ⟨locs, X, eT, N, hn0, hx, hZ, hown, hby, hml, hrt, hlk⟩ := Y
  subst hp
  exact q.of1 fun t q => XS.dup X.here hx rfl (hb hby hd) rfl hc q
theorem Gl.pop (Y : Sd Z own bs mx ret n0 p l e R s m args below meth c T h k n) {x : Value} (hc : x.category = 1) (hd : decode bs pc = .ok (.pop, 1)) (hp : pc + 1 = pc') (q : Gl p e below P (T.setTop (mkF m pc' L S))) : Gl p e below P (T.setTop (mkF m pc L (x :: S))) := by
  obtain ⟨locs, X, eT, N, hn0, hx, hZ, hown, hby, hml, hrt, hlk⟩ := Y
  subst hp
  exact q.of1 fun t q => XS.pop X.here hx rfl (hb hby hd) rfl hc q
theorem Gl.dupX1 (Y : Sd Z own bs mx ret n0 p l e R s m args below meth c T h k n) {x y : Value} (hc : x.category = 1) (hc' : y.category = 1) (hd : decode bs pc = .ok (.dup_x1, 1)) (hp : pc + 1 = pc') (q : Gl p e below P (T.setTop (mkF m pc' L (x :: y :: x :: S)))) : Gl p e below P (T.setTop (mkF m pc L (x :: y :: S))) := by
  obtain ⟨locs, X, eT, N, hn0, hx, hZ, hown, hby, hml, hrt, hlk⟩ := Y
  subst hp
  exact q.of1 fun t q => XS.dupX1 X.here hx rfl (hb hby hd) rfl hc hc' q
theorem Gl.lcmp (Y : Sd Z own bs mx ret n0 p l e R s m args below meth c T h k n) {x y : Int64} {r : Int32} (hr : lcmpW x y = r) (hd : decode bs pc = .ok (.lcmp, 1)) (hp : pc + 1 = pc') (q : Gl p e below P (T.setTop (mkF m pc' L (.int r :: S)))) : Gl p e below P (T.setTop (mkF m pc L (.long y :: .long x :: S))) := by
  obtain ⟨locs, X, eT, N, hn0, hx, hZ, hown, hby, hml, hrt, hlk⟩ := Y
  subst hp hr
  exact q.of1 fun t q => XS.lcmp X.here hx rfl (hb hby hd) rfl q
theorem Gl.arraylength (Y : Sd Z own bs mx ret n0 p l e R s m args below meth c T h k n) {a : Addr} {ck : ClassId} {ty : FieldType} {z : Int32} {vs : List Value} {d : Value} (F : Arv Z h a ck ty z vs d) (hd : decode bs pc = .ok (.arraylength, 1)) (hp : pc + 1 = pc') (q : Gl p e below P (T.setTop (mkF m pc' L (.int z :: S)))) : Gl p e below P (T.setTop (mkF m pc L (.ref a :: S))) := by
  obtain ⟨locs, X, eT, N, hn0, hx, hZ, hown, hby, hml, hrt, hlk⟩ := Y
  subst hp
  exact q.of1 fun t q => by
    obtain ⟨cl, A, -, S1, N1, -⟩ := F
    exact X.arraylength hx (by rw [eT]; exact A.1) (State.isArrayOf_alike hZ.alike A.2.1) (g := mkF m pc L (.ref a :: S)) rfl rfl (hb hby hd) t (by rw [len_of S1 N1]; exact q)
theorem Gl.iaload (Y : Sd Z own bs mx ret n0 p l e R s m args below meth c T h k n) {a : Addr} {ck : ClassId} {z j : Int32} {vs : List Value} {d v : Value} (F : Arv Z h a ck .int z vs d) (hj : ¬ j < 0 ∧ j < z) (hv : vs.getD j.toNatClampNeg d = v) (hd : decode bs pc = .ok (.iaload, 1)) (hp : pc + 1 = pc') (q : Gl p e below P (T.setTop (mkF m pc' L (v :: S)))) : Gl p e below P (T.setTop (mkF m pc L (.int j :: .ref a :: S))) := by
  obtain ⟨locs, X, eT, N, hn0, hx, hZ, hown, hby, hml, hrt, hlk⟩ := Y
  subst hp
  exact q.of1 fun t q => by
    obtain ⟨cl, A, -, S1, N1, H, -⟩ := F
    exact X.iaload hx (by rw [eT]; exact A.1) (State.isArrayOf_alike hZ.alike A.2.1) A.2.2 (inb_of S1 hj) (H.at (inb_of S1 hj) hv) (g := mkF m pc L (.int j :: .ref a :: S)) rfl rfl (hb hby hd) t q
theorem Gl.laload (Y : Sd Z own bs mx ret n0 p l e R s m args below meth c T h k n) {a : Addr} {ck : ClassId} {z j : Int32} {vs : List Value} {d v : Value} (F : Arv Z h a ck .long z vs d) (hj : ¬ j < 0 ∧ j < z) (hv : vs.getD j.toNatClampNeg d = v) (hd : decode bs pc = .ok (.laload, 1)) (hp : pc + 1 = pc') (q : Gl p e below P (T.setTop (mkF m pc' L (v :: S)))) : Gl p e below P (T.setTop (mkF m pc L (.int j :: .ref a :: S))) := by
  obtain ⟨locs, X, eT, N, hn0, hx, hZ, hown, hby, hml, hrt, hlk⟩ := Y
  subst hp
  exact q.of1 fun t q => by
    obtain ⟨cl, A, -, S1, N1, H, -⟩ := F
    exact X.laload hx (by rw [eT]; exact A.1) (State.isArrayOf_alike hZ.alike A.2.1) A.2.2 (inb_of S1 hj) (H.at (inb_of S1 hj) hv) (g := mkF m pc L (.int j :: .ref a :: S)) rfl rfl (hb hby hd) t q
theorem Gl.caload (Y : Sd Z own bs mx ret n0 p l e R s m args below meth c T h k n) {a : Addr} {ck : ClassId} {z j : Int32} {vs : List Value} {d v : Value} (F : Arv Z h a ck .char z vs d) (hj : ¬ j < 0 ∧ j < z) (hv : vs.getD j.toNatClampNeg d = v) (hd : decode bs pc = .ok (.caload, 1)) (hp : pc + 1 = pc') (q : Gl p e below P (T.setTop (mkF m pc' L (v :: S)))) : Gl p e below P (T.setTop (mkF m pc L (.int j :: .ref a :: S))) := by
  obtain ⟨locs, X, eT, N, hn0, hx, hZ, hown, hby, hml, hrt, hlk⟩ := Y
  subst hp
  exact q.of1 fun t q => by
    obtain ⟨cl, A, -, S1, N1, H, -⟩ := F
    exact X.caload hx (by rw [eT]; exact A.1) (State.isArrayOf_alike hZ.alike A.2.1) A.2.2 (inb_of S1 hj) (H.at (inb_of S1 hj) hv) (g := mkF m pc L (.int j :: .ref a :: S)) rfl rfl (hb hby hd) t q
theorem Gl.saload (Y : Sd Z own bs mx ret n0 p l e R s m args below meth c T h k n) {a : Addr} {ck : ClassId} {z j : Int32} {vs : List Value} {d v : Value} (F : Arv Z h a ck .short z vs d) (hj : ¬ j < 0 ∧ j < z) (hv : vs.getD j.toNatClampNeg d = v) (hd : decode bs pc = .ok (.saload, 1)) (hp : pc + 1 = pc') (q : Gl p e below P (T.setTop (mkF m pc' L (v :: S)))) : Gl p e below P (T.setTop (mkF m pc L (.int j :: .ref a :: S))) := by
  obtain ⟨locs, X, eT, N, hn0, hx, hZ, hown, hby, hml, hrt, hlk⟩ := Y
  subst hp
  exact q.of1 fun t q => by
    obtain ⟨cl, A, -, S1, N1, H, -⟩ := F
    exact X.saload hx (by rw [eT]; exact A.1) (State.isArrayOf_alike hZ.alike A.2.1) A.2.2 (inb_of S1 hj) (H.at (inb_of S1 hj) hv) (g := mkF m pc L (.int j :: .ref a :: S)) rfl rfl (hb hby hd) t q
theorem Gl.baload (Y : Sd Z own bs mx ret n0 p l e R s m args below meth c T h k n) {a : Addr} {ck : ClassId} {z j : Int32} {vs : List Value} {d v : Value} (F : Arv Z h a ck .byte z vs d) (hj : ¬ j < 0 ∧ j < z) (hv : vs.getD j.toNatClampNeg d = v) (hd : decode bs pc = .ok (.baload, 1)) (hp : pc + 1 = pc') (q : Gl p e below P (T.setTop (mkF m pc' L (v :: S)))) : Gl p e below P (T.setTop (mkF m pc L (.int j :: .ref a :: S))) := by
  obtain ⟨locs, X, eT, N, hn0, hx, hZ, hown, hby, hml, hrt, hlk⟩ := Y
  subst hp
  exact q.of1 fun t q => by
    obtain ⟨cl, A, -, S1, N1, H, -⟩ := F
    exact X.baloadBytes hx (by rw [eT]; exact A.1) (State.isArrayOf_alike hZ.alike A.2.1) A.2.2 (inb_of S1 hj) (H.at (inb_of S1 hj) hv) (g := mkF m pc L (.int j :: .ref a :: S)) rfl rfl (hb hby hd) t q
theorem Gl.goto (Y : Sd Z own bs mx ret n0 p l e R s m args below meth c T h k n) {o : Int} (hd : decode bs pc = .ok (.goto o, 3)) (ho : 0 ≤ (pc : Int) + o) (hp : ((pc : Int) + o).toNat = pc') (q : Gl p e below P (T.setTop (mkF m pc' L S))) : Gl p e below P (T.setTop (mkF m pc L S)) := by
  obtain ⟨locs, X, eT, N, hn0, hx, hZ, hown, hby, hml, hrt, hlk⟩ := Y
  exact q.of1 fun t q => XS.goto X.here hx rfl rfl (hb hby hd) ho hp q
theorem Gl.ifeq (Y : Sd Z own bs mx ret n0 p l e R s m args below meth c T h k n) {x : Int32} {o : Int} (hd : decode bs pc = .ok (.ifCond .eq o, 3)) (ho : 0 ≤ (pc : Int) + o) (ht : ((pc : Int) + o).toNat = pcT) (hf : pc + 3 = pcF) (q1 : x = 0 → Gl p e below P (T.setTop (mkF m pcT L S))) (q2 : ¬ x = 0 → Gl p e below P (T.setTop (mkF m pcF L S))) : Gl p e below P (T.setTop (mkF m pc L (.int x :: S))) := by
  obtain ⟨locs, X, eT, N, hn0, hx, hZ, hown, hby, hml, hrt, hlk⟩ := Y
  by_cases hq : x = 0
  · exact (q1 hq).of1 fun t q => XS.ifYes X.here hx rfl rfl (hb hby hd) rfl (Jvm.Free.XT.i0_eq_t hq) ho ht q
  · subst hf
    exact (q2 (by first | exact hq | exact Decidable.not_not.mp hq)).of1 fun t q => XS.ifNo X.here hx rfl (hb hby hd) rfl (Jvm.Free.XT.i0_eq_f (by first | exact hq | exact Decidable.not_not.mp hq)) q
theorem Gl.icmpeq (Y : Sd Z own bs mx ret n0 p l e R s m args below meth c T h k n) {x y : Int32} {o : Int} (hd : decode bs pc = .ok (.if_icmp .eq o, 3)) (ho : 0 ≤ (pc : Int) + o) (ht : ((pc : Int) + o).toNat = pcT) (hf : pc + 3 = pcF) (q1 : x = y → Gl p e below P (T.setTop (mkF m pcT L S))) (q2 : ¬ x = y → Gl p e below P (T.setTop (mkF m pcF L S))) : Gl p e below P (T.setTop (mkF m pc L (.int y :: .int x :: S))) := by
  obtain ⟨locs, X, eT, N, hn0, hx, hZ, hown, hby, hml, hrt, hlk⟩ := Y
  by_cases hq : x = y
  · exact (q1 hq).of1 fun t q => XS.icmpYes X.here hx rfl rfl (hb hby hd) rfl (Jvm.Free.XT.ii_eq_t hq) ho ht q
  · subst hf
    exact (q2 (by first | exact hq | exact Decidable.not_not.mp hq)).of1 fun t q => XS.icmpNo X.here hx rfl (hb hby hd) rfl (Jvm.Free.XT.ii_eq_f (by first | exact hq | exact Decidable.not_not.mp hq)) q
theorem Gl.lcmpeq (Y : Sd Z own bs mx ret n0 p l e R s m args below meth c T h k n) {x y : Int64} {pc1 : Nat} {o : Int} (hd0 : decode bs pc = .ok (.lcmp, 1)) (hp1 : pc + 1 = pc1) (hd : decode bs pc1 = .ok (.ifCond .eq o, 3)) (ho : 0 ≤ (pc1 : Int) + o) (ht : ((pc1 : Int) + o).toNat = pcT) (hf : pc1 + 3 = pcF) (q1 : x = y → Gl p e below P (T.setTop (mkF m pcT L S))) (q2 : ¬ x = y → Gl p e below P (T.setTop (mkF m pcF L S))) : Gl p e below P (T.setTop (mkF m pc L (.long y :: .long x :: S))) := by
  refine Gl.lcmp Y rfl hd0 hp1 ?_
  obtain ⟨locs, X, eT, N, hn0, hx, hZ, hown, hby, hml, hrt, hlk⟩ := Y
  by_cases hq : x = y
  · exact (q1 hq).of1 fun t q => XS.ifYes X.here hx rfl rfl (hb hby hd) rfl (Jvm.Free.XT.ll_eq_t hq) ho ht q
  · subst hf
    exact (q2 (by first | exact hq | exact Decidable.not_not.mp hq)).of1 fun t q => XS.ifNo X.here hx rfl (hb hby hd) rfl (Jvm.Free.XT.ll_eq_f (by first | exact hq | exact Decidable.not_not.mp hq)) q
theorem Gl.ifne (Y : Sd Z own bs mx ret n0 p l e R s m args below meth c T h k n) {x : Int32} {o : Int} (hd : decode bs pc = .ok (.ifCond .ne o, 3)) (ho : 0 ≤ (pc : Int) + o) (ht : ((pc : Int) + o).toNat = pcT) (hf : pc + 3 = pcF) (q1 : ¬ x = 0 → Gl p e below P (T.setTop (mkF m pcT L S))) (q2 : x = 0 → Gl p e below P (T.setTop (mkF m pcF L S))) : Gl p e below P (T.setTop (mkF m pc L (.int x :: S))) := by
  obtain ⟨locs, X, eT, N, hn0, hx, hZ, hown, hby, hml, hrt, hlk⟩ := Y
  by_cases hq : ¬ x = 0
  · exact (q1 hq).of1 fun t q => XS.ifYes X.here hx rfl rfl (hb hby hd) rfl (Jvm.Free.XT.i0_ne_t hq) ho ht q
  · subst hf
    exact (q2 (by first | exact hq | exact Decidable.not_not.mp hq)).of1 fun t q => XS.ifNo X.here hx rfl (hb hby hd) rfl (Jvm.Free.XT.i0_ne_f (by first | exact hq | exact Decidable.not_not.mp hq)) q
theorem Gl.icmpne (Y : Sd Z own bs mx ret n0 p l e R s m args below meth c T h k n) {x y : Int32} {o : Int} (hd : decode bs pc = .ok (.if_icmp .ne o, 3)) (ho : 0 ≤ (pc : Int) + o) (ht : ((pc : Int) + o).toNat = pcT) (hf : pc + 3 = pcF) (q1 : ¬ x = y → Gl p e below P (T.setTop (mkF m pcT L S))) (q2 : x = y → Gl p e below P (T.setTop (mkF m pcF L S))) : Gl p e below P (T.setTop (mkF m pc L (.int y :: .int x :: S))) := by
  obtain ⟨locs, X, eT, N, hn0, hx, hZ, hown, hby, hml, hrt, hlk⟩ := Y
  by_cases hq : ¬ x = y
  · exact (q1 hq).of1 fun t q => XS.icmpYes X.here hx rfl rfl (hb hby hd) rfl (Jvm.Free.XT.ii_ne_t hq) ho ht q
  · subst hf
    exact (q2 (by first | exact hq | exact Decidable.not_not.mp hq)).of1 fun t q => XS.icmpNo X.here hx rfl (hb hby hd) rfl (Jvm.Free.XT.ii_ne_f (by first | exact hq | exact Decidable.not_not.mp hq)) q
theorem Gl.lcmpne (Y : Sd Z own bs mx ret n0 p l e R s m args below meth c T h k n) {x y : Int64} {pc1 : Nat} {o : Int} (hd0 : decode bs pc = .ok (.lcmp, 1)) (hp1 : pc + 1 = pc1) (hd : decode bs pc1 = .ok (.ifCond .ne o, 3)) (ho : 0 ≤ (pc1 : Int) + o) (ht : ((pc1 : Int) + o).toNat = pcT) (hf : pc1 + 3 = pcF) (q1 : ¬ x = y → Gl p e below P (T.setTop (mkF m pcT L S))) (q2 : x = y → Gl p e below P (T.setTop (mkF m pcF L S))) : Gl p e below P (T.setTop (mkF m pc L (.long y :: .long x :: S))) := by
  refine Gl.lcmp Y rfl hd0 hp1 ?_
  obtain ⟨locs, X, eT, N, hn0, hx, hZ, hown, hby, hml, hrt, hlk⟩ := Y
  by_cases hq : ¬ x = y
  · exact (q1 hq).of1 fun t q => XS.ifYes X.here hx rfl rfl (hb hby hd) rfl (Jvm.Free.XT.ll_ne_t hq) ho ht q
  · subst hf
    exact (q2 (by first | exact hq | exact Decidable.not_not.mp hq)).of1 fun t q => XS.ifNo X.here hx rfl (hb hby hd) rfl (Jvm.Free.XT.ll_ne_f (by first | exact hq | exact Decidable.not_not.mp hq)) q
theorem Gl.iflt (Y : Sd Z own bs mx ret n0 p l e R s m args below meth c T h k n) {x : Int32} {o : Int} (hd : decode bs pc = .ok (.ifCond .lt o, 3)) (ho : 0 ≤ (pc : Int) + o) (ht : ((pc : Int) + o).toNat = pcT) (hf : pc + 3 = pcF) (q1 : x < 0 → Gl p e below P (T.setTop (mkF m pcT L S))) (q2 : ¬ x < 0 → Gl p e below P (T.setTop (mkF m pcF L S))) : Gl p e below P (T.setTop (mkF m pc L (.int x :: S))) := by
  obtain ⟨locs, X, eT, N, hn0, hx, hZ, hown, hby, hml, hrt, hlk⟩ := Y
  by_cases hq : x < 0
  · exact (q1 hq).of1 fun t q => XS.ifYes X.here hx rfl rfl (hb hby hd) rfl (Jvm.Free.XT.i0_lt_t hq) ho ht q
  · subst hf
    exact (q2 (by first | exact hq | exact Decidable.not_not.mp hq)).of1 fun t q => XS.ifNo X.here hx rfl (hb hby hd) rfl (Jvm.Free.XT.i0_lt_f (by first | exact hq | exact Decidable.not_not.mp hq)) q
theorem Gl.icmplt (Y : Sd Z own bs mx ret n0 p l e R s m args below meth c T h k n) {x y : Int32} {o : Int} (hd : decode bs pc = .ok (.if_icmp .lt o, 3)) (ho : 0 ≤ (pc : Int) + o) (ht : ((pc : Int) + o).toNat = pcT) (hf : pc + 3 = pcF) (q1 : x < y → Gl p e below P (T.setTop (mkF m pcT L S))) (q2 : ¬ x < y → Gl p e below P (T.setTop (mkF m pcF L S))) : Gl p e below P (T.setTop (mkF m pc L (.int y :: .int x :: S))) := by
  obtain ⟨locs, X, eT, N, hn0, hx, hZ, hown, hby, hml, hrt, hlk⟩ := Y
  by_cases hq : x < y
  · exact (q1 hq).of1 fun t q => XS.icmpYes X.here hx rfl rfl (hb hby hd) rfl (Jvm.Free.XT.ii_lt_t hq) ho ht q
  · subst hf
    exact (q2 (by first | exact hq | exact Decidable.not_not.mp hq)).of1 fun t q => XS.icmpNo X.here hx rfl (hb hby hd) rfl (Jvm.Free.XT.ii_lt_f (by first | exact hq | exact Decidable.not_not.mp hq)) q
theorem Gl.lcmplt (Y : Sd Z own bs mx ret n0 p l e R s m args below meth c T h k n) {x y : Int64} {pc1 : Nat} {o : Int} (hd0 : decode bs pc = .ok (.lcmp, 1)) (hp1 : pc + 1 = pc1) (hd : decode bs pc1 = .ok (.ifCond .lt o, 3)) (ho : 0 ≤ (pc1 : Int) + o) (ht : ((pc1 : Int) + o).toNat = pcT) (hf : pc1 + 3 = pcF) (q1 : x < y → Gl p e below P (T.setTop (mkF m pcT L S))) (q2 : ¬ x < y → Gl p e below P (T.setTop (mkF m pcF L S))) : Gl p e below P (T.setTop (mkF m pc L (.long y :: .long x :: S))) := by
  refine Gl.lcmp Y rfl hd0 hp1 ?_
  obtain ⟨locs, X, eT, N, hn0, hx, hZ, hown, hby, hml, hrt, hlk⟩ := Y
  by_cases hq : x < y
  · exact (q1 hq).of1 fun t q => XS.ifYes X.here hx rfl rfl (hb hby hd) rfl (Jvm.Free.XT.ll_lt_t hq) ho ht q
  · subst hf
    exact (q2 (by first | exact hq | exact Decidable.not_not.mp hq)).of1 fun t q => XS.ifNo X.here hx rfl (hb hby hd) rfl (Jvm.Free.XT.ll_lt_f (by first | exact hq | exact Decidable.not_not.mp hq)) q
theorem Gl.ifge (Y : Sd Z own bs mx ret n0 p l e R s m args below meth c T h k n) {x : Int32} {o : Int} (hd : decode bs pc = .ok (.ifCond .ge o, 3)) (ho : 0 ≤ (pc : Int) + o) (ht : ((pc : Int) + o).toNat = pcT) (hf : pc + 3 = pcF) (q1 : ¬ x < 0 → Gl p e below P (T.setTop (mkF m pcT L S))) (q2 : x < 0 → Gl p e below P (T.setTop (mkF m pcF L S))) : Gl p e below P (T.setTop (mkF m pc L (.int x :: S))) := by
  obtain ⟨locs, X, eT, N, hn0, hx, hZ, hown, hby, hml, hrt, hlk⟩ := Y
  by_cases hq : ¬ x < 0
  · exact (q1 hq).of1 fun t q => XS.ifYes X.here hx rfl rfl (hb hby hd) rfl (Jvm.Free.XT.i0_ge_t hq) ho ht q
  · subst hf
    exact (q2 (by first | exact hq | exact Decidable.not_not.mp hq)).of1 fun t q => XS.ifNo X.here hx rfl (hb hby hd) rfl (Jvm.Free.XT.i0_ge_f (by first | exact hq | exact Decidable.not_not.mp hq)) q
theorem Gl.icmpge (Y : Sd Z own bs mx ret n0 p l e R s m args below meth c T h k n) {x y : Int32} {o : Int} (hd : decode bs pc = .ok (.if_icmp .ge o, 3)) (ho : 0 ≤ (pc : Int) + o) (ht : ((pc : Int) + o).toNat = pcT) (hf : pc + 3 = pcF) (q1 : ¬ x < y → Gl p e below P (T.setTop (mkF m pcT L S))) (q2 : x < y → Gl p e below P (T.setTop (mkF m pcF L S))) : Gl p e below P (T.setTop (mkF m pc L (.int y :: .int x :: S))) := by
  obtain ⟨locs, X, eT, N, hn0, hx, hZ, hown, hby, hml, hrt, hlk⟩ := Y
  by_cases hq : ¬ x < y
  · exact (q1 hq).of1 fun t q => XS.icmpYes X.here hx rfl rfl (hb hby hd) rfl (Jvm.Free.XT.ii_ge_t hq) ho ht q
  · subst hf
    exact (q2 (by first | exact hq | exact Decidable.not_not.mp hq)).of1 fun t q => XS.icmpNo X.here hx rfl (hb hby hd) rfl (Jvm.Free.XT.ii_ge_f (by first | exact hq | exact Decidable.not_not.mp hq)) q
theorem Gl.lcmpge (Y : Sd Z own bs mx ret n0 p l e R s m args below meth c T h k n) {x y : Int64} {pc1 : Nat} {o : Int} (hd0 : decode bs pc = .ok (.lcmp, 1)) (hp1 : pc + 1 = pc1) (hd : decode bs pc1 = .ok (.ifCond .ge o, 3)) (ho : 0 ≤ (pc1 : Int) + o) (ht : ((pc1 : Int) + o).toNat = pcT) (hf : pc1 + 3 = pcF) (q1 : ¬ x < y → Gl p e below P (T.setTop (mkF m pcT L S))) (q2 : x < y → Gl p e below P (T.setTop (mkF m pcF L S))) : Gl p e below P (T.setTop (mkF m pc L (.long y :: .long x :: S))) := by
  refine Gl.lcmp Y rfl hd0 hp1 ?_
  obtain ⟨locs, X, eT, N, hn0, hx, hZ, hown, hby, hml, hrt, hlk⟩ := Y
  by_cases hq : ¬ x < y
  · exact (q1 hq).of1 fun t q => XS.ifYes X.here hx rfl rfl (hb hby hd) rfl (Jvm.Free.XT.ll_ge_t hq) ho ht q
  · subst hf
    exact (q2 (by first | exact hq | exact Decidable.not_not.mp hq)).of1 fun t q => XS.ifNo X.here hx rfl (hb hby hd) rfl (Jvm.Free.XT.ll_ge_f (by first | exact hq | exact Decidable.not_not.mp hq)) q
theorem Gl.ifgt (Y : Sd Z own bs mx ret n0 p l e R s m args below meth c T h k n) {x : Int32} {o : Int} (hd : decode bs pc = .ok (.ifCond .gt o, 3)) (ho : 0 ≤ (pc : Int) + o) (ht : ((pc : Int) + o).toNat = pcT) (hf : pc + 3 = pcF) (q1 : 0 < x → Gl p e below P (T.setTop (mkF m pcT L S))) (q2 : ¬ 0 < x → Gl p e below P (T.setTop (mkF m pcF L S))) : Gl p e below P (T.setTop (mkF m pc L (.int x :: S))) := by
  obtain ⟨locs, X, eT, N, hn0, hx, hZ, hown, hby, hml, hrt, hlk⟩ := Y
  by_cases hq : 0 < x
  · exact (q1 hq).of1 fun t q => XS.ifYes X.here hx rfl rfl (hb hby hd) rfl (Jvm.Free.XT.i0_gt_t hq) ho ht q
  · subst hf
    exact (q2 (by first | exact hq | exact Decidable.not_not.mp hq)).of1 fun t q => XS.ifNo X.here hx rfl (hb hby hd) rfl (Jvm.Free.XT.i0_gt_f (by first | exact hq | exact Decidable.not_not.mp hq)) q
theorem Gl.icmpgt (Y : Sd Z own bs mx ret n0 p l e R s m args below meth c T h k n) {x y : Int32} {o : Int} (hd : decode bs pc = .ok (.if_icmp .gt o, 3)) (ho : 0 ≤ (pc : Int) + o) (ht : ((pc : Int) + o).toNat = pcT) (hf : pc + 3 = pcF) (q1 : y < x → Gl p e below P (T.setTop (mkF m pcT L S))) (q2 : ¬ y < x → Gl p e below P (T.setTop (mkF m pcF L S))) : Gl p e below P (T.setTop (mkF m pc L (.int y :: .int x :: S))) := by
  obtain ⟨locs, X, eT, N, hn0, hx, hZ, hown, hby, hml, hrt, hlk⟩ := Y
  by_cases hq : y < x
  · exact (q1 hq).of1 fun t q => XS.icmpYes X.here hx rfl rfl (hb hby hd) rfl (Jvm.Free.XT.ii_gt_t hq) ho ht q
  · subst hf
    exact (q2 (by first | exact hq | exact Decidable.not_not.mp hq)).of1 fun t q => XS.icmpNo X.here hx rfl (hb hby hd) rfl (Jvm.Free.XT.ii_gt_f (by first | exact hq | exact Decidable.not_not.mp hq)) q
theorem Gl.lcmpgt (Y : Sd Z own bs mx ret n0 p l e R s m args below meth c T h k n) {x y : Int64} {pc1 : Nat} {o : Int} (hd0 : decode bs pc = .ok (.lcmp, 1)) (hp1 : pc + 1 = pc1) (hd : decode bs pc1 = .ok (.ifCond .gt o, 3)) (ho : 0 ≤ (pc1 : Int) + o) (ht : ((pc1 : Int) + o).toNat = pcT) (hf : pc1 + 3 = pcF) (q1 : y < x → Gl p e below P (T.setTop (mkF m pcT L S))) (q2 : ¬ y < x → Gl p e below P (T.setTop (mkF m pcF L S))) : Gl p e below P (T.setTop (mkF m pc L (.long y :: .long x :: S))) := by
  refine Gl.lcmp Y rfl hd0 hp1 ?_
  obtain ⟨locs, X, eT, N, hn0, hx, hZ, hown, hby, hml, hrt, hlk⟩ := Y
  by_cases hq : y < x
  · exact (q1 hq).of1 fun t q => XS.ifYes X.here hx rfl rfl (hb hby hd) rfl (Jvm.Free.XT.ll_gt_t hq) ho ht q
  · subst hf
    exact (q2 (by first | exact hq | exact Decidable.not_not.mp hq)).of1 fun t q => XS.ifNo X.here hx rfl (hb hby hd) rfl (Jvm.Free.XT.ll_gt_f (by first | exact hq | exact Decidable.not_not.mp hq)) q
theorem Gl.ifle (Y : Sd Z own bs mx ret n0 p l e R s m args below meth c T h k n) {x : Int32} {o : Int} (hd : decode bs pc = .ok (.ifCond .le o, 3)) (ho : 0 ≤ (pc : Int) + o) (ht : ((pc : Int) + o).toNat = pcT) (hf : pc + 3 = pcF) (q1 : ¬ 0 < x → Gl p e below P (T.setTop (mkF m pcT L S))) (q2 : 0 < x → Gl p e below P (T.setTop (mkF m pcF L S))) : Gl p e below P (T.setTop (mkF m pc L (.int x :: S))) := by
  obtain ⟨locs, X, eT, N, hn0, hx, hZ, hown, hby, hml, hrt, hlk⟩ := Y
  by_cases hq : ¬ 0 < x
  · exact (q1 hq).of1 fun t q => XS.ifYes X.here hx rfl rfl (hb hby hd) rfl (Jvm.Free.XT.i0_le_t hq) ho ht q
  · subst hf
    exact (q2 (by first | exact hq | exact Decidable.not_not.mp hq)).of1 fun t q => XS.ifNo X.here hx rfl (hb hby hd) rfl (Jvm.Free.XT.i0_le_f (by first | exact hq | exact Decidable.not_not.mp hq)) q
theorem Gl.icmple (Y : Sd Z own bs mx ret n0 p l e R s m args below meth c T h k n) {x y : Int32} {o : Int} (hd : decode bs pc = .ok (.if_icmp .le o, 3)) (ho : 0 ≤ (pc : Int) + o) (ht : ((pc : Int) + o).toNat = pcT) (hf : pc + 3 = pcF) (q1 : ¬ y < x → Gl p e below P (T.setTop (mkF m pcT L S))) (q2 : y < x → Gl p e below P (T.setTop (mkF m pcF L S))) : Gl p e below P (T.setTop (mkF m pc L (.int y :: .int x :: S))) := by
  obtain ⟨locs, X, eT, N, hn0, hx, hZ, hown, hby, hml, hrt, hlk⟩ := Y
  by_cases hq : ¬ y < x
  · exact (q1 hq).of1 fun t q => XS.icmpYes X.here hx rfl rfl (hb hby hd) rfl (Jvm.Free.XT.ii_le_t hq) ho ht q
  · subst hf
    exact (q2 (by first | exact hq | exact Decidable.not_not.mp hq)).of1 fun t q => XS.icmpNo X.here hx rfl (hb hby hd) rfl (Jvm.Free.XT.ii_le_f (by first | exact hq | exact Decidable.not_not.mp hq)) q
theorem Gl.lcmple (Y : Sd Z own bs mx ret n0 p l e R s m args below meth c T h k n) {x y : Int64} {pc1 : Nat} {o : Int} (hd0 : decode bs pc = .ok (.lcmp, 1)) (hp1 : pc + 1 = pc1) (hd : decode bs pc1 = .ok (.ifCond .le o, 3)) (ho : 0 ≤ (pc1 : Int) + o) (ht : ((pc1 : Int) + o).toNat = pcT) (hf : pc1 + 3 = pcF) (q1 : ¬ y < x → Gl p e below P (T.setTop (mkF m pcT L S))) (q2 : y < x → Gl p e below P (T.setTop (mkF m pcF L S))) : Gl p e below P (T.setTop (mkF m pc L (.long y :: .long x :: S))) := by
  refine Gl.lcmp Y rfl hd0 hp1 ?_
  obtain ⟨locs, X, eT, N, hn0, hx, hZ, hown, hby, hml, hrt, hlk⟩ := Y
  by_cases hq : ¬ y < x
  · exact (q1 hq).of1 fun t q => XS.ifYes X.here hx rfl rfl (hb hby hd) rfl (Jvm.Free.XT.ll_le_t hq) ho ht q
  · subst hf
    exact (q2 (by first | exact hq | exact Decidable.not_not.mp hq)).of1 fun t q => XS.ifNo X.here hx rfl (hb hby hd) rfl (Jvm.Free.XT.ll_le_f (by first | exact hq | exact Decidable.not_not.mp hq)) q
theorem Gl.ifnullY (Y : Sd Z own bs mx ret n0 p l e R s m args below meth c T h k n)  {o : Int} (hd : decode bs pc = .ok (.ifnull o, 3)) (ho : 0 ≤ (pc : Int) + o) (ht : ((pc : Int) + o).toNat = pcT) (q : Gl p e below P (T.setTop (mkF m pcT L S))) : Gl p e below P (T.setTop (mkF m pc L (.null :: S))) := by
  obtain ⟨locs, X, eT, N, hn0, hx, hZ, hown, hby, hml, hrt, hlk⟩ := Y
  exact q.of1 fun t q => XS.ifnullYes X.here hx rfl rfl (hb hby hd) rfl ho ht q
theorem Gl.ifnullN (Y : Sd Z own bs mx ret n0 p l e R s m args below meth c T h k n) {b : Addr} {o : Int} (hd : decode bs pc = .ok (.ifnull o, 3)) (hf : pc + 3 = pcF) (q : Gl p e below P (T.setTop (mkF m pcF L S))) : Gl p e below P (T.setTop (mkF m pc L (.ref b :: S))) := by
  obtain ⟨locs, X, eT, N, hn0, hx, hZ, hown, hby, hml, hrt, hlk⟩ := Y
  subst hf
  exact q.of1 fun t q => XS.ifnullNo X.here hx rfl (hb hby hd) rfl q
theorem Gl.ifnonnullY (Y : Sd Z own bs mx ret n0 p l e R s m args below meth c T h k n) {b : Addr} {o : Int} (hd : decode bs pc = .ok (.ifnonnull o, 3)) (ho : 0 ≤ (pc : Int) + o) (ht : ((pc : Int) + o).toNat = pcT) (q : Gl p e below P (T.setTop (mkF m pcT L S))) : Gl p e below P (T.setTop (mkF m pc L (.ref b :: S))) := by
  obtain ⟨locs, X, eT, N, hn0, hx, hZ, hown, hby, hml, hrt, hlk⟩ := Y
  exact q.of1 fun t q => XS.ifnonnullYes X.here hx rfl rfl (hb hby hd) rfl ho ht q
theorem Gl.ifnonnullN (Y : Sd Z own bs mx ret n0 p l e R s m args below meth c T h k n)  {o : Int} (hd : decode bs pc = .ok (.ifnonnull o, 3)) (hf : pc + 3 = pcF) (q : Gl p e below P (T.setTop (mkF m pcF L S))) : Gl p e below P (T.setTop (mkF m pc L (.null :: S))) := by
  obtain ⟨locs, X, eT, N, hn0, hx, hZ, hown, hby, hml, hrt, hlk⟩ := Y
  subst hf
  exact q.of1 fun t q => XS.ifnonnullNo X.here hx rfl (hb hby hd) rfl q
theorem Gl.acmpeq (Y : Sd Z own bs mx ret n0 p l e R s m args below meth c T h k n) {x y : Value} {o : Int} (h1 : x.isRef = true) (h2 : y.isRef = true) (hd : decode bs pc = .ok (.if_acmp .eq o, 3)) (ho : 0 ≤ (pc : Int) + o) (ht : ((pc : Int) + o).toNat = pcT) (hf : pc + 3 = pcF) (q1 : x = y → Gl p e below P (T.setTop (mkF m pcT L S))) (q2 : ¬ x = y → Gl p e below P (T.setTop (mkF m pcF L S))) : Gl p e below P (T.setTop (mkF m pc L (y :: x :: S))) := by
  obtain ⟨locs, X, eT, N, hn0, hx, hZ, hown, hby, hml, hrt, hlk⟩ := Y
  subst ht hf
  by_cases hq : x = y
  · exact (q1 hq).of1 fun t q => Jvm.RoadKit.acmp (g := mkF m pc L (y :: x :: S)) X hx rfl h1 h2 (pc0 := pc) (same := true) rfl (hb hby hd) rfl (decide_eq_true hq) ho rfl q
  · exact (q2 hq).of1 fun t q => Jvm.RoadKit.acmp (g := mkF m pc L (y :: x :: S)) X hx rfl h1 h2 (pc0 := pc) (same := false) rfl (hb hby hd) rfl (decide_eq_false hq) ho rfl q
theorem Gl.acmpne (Y : Sd Z own bs mx ret n0 p l e R s m args below meth c T h k n) {x y : Value} {o : Int} (h1 : x.isRef = true) (h2 : y.isRef = true) (hd : decode bs pc = .ok (.if_acmp .ne o, 3)) (ho : 0 ≤ (pc : Int) + o) (ht : ((pc : Int) + o).toNat = pcT) (hf : pc + 3 = pcF) (q1 : ¬ x = y → Gl p e below P (T.setTop (mkF m pcT L S))) (q2 : x = y → Gl p e below P (T.setTop (mkF m pcF L S))) : Gl p e below P (T.setTop (mkF m pc L (y :: x :: S))) := by
  obtain ⟨locs, X, eT, N, hn0, hx, hZ, hown, hby, hml, hrt, hlk⟩ := Y
  subst ht hf
  by_cases hq : x = y
  · exact (q2 hq).of1 fun t q => Jvm.RoadKit.acmp (g := mkF m pc L (y :: x :: S)) X hx rfl h1 h2 (pc0 := pc) (same := true) rfl (hb hby hd) rfl (decide_eq_true hq) ho rfl q
  · exact (q1 hq).of1 fun t q => Jvm.RoadKit.acmp (g := mkF m pc L (y :: x :: S)) X hx rfl h1 h2 (pc0 := pc) (same := false) rfl (hb hby hd) rfl (decide_eq_false hq) ho rfl q
theorem Gl.getF (Y : Sd Z own bs mx ret n0 p l e R s m args below meth c T h k n) {i : Nat} {R0 O f d host : String} {a : Addr} {v : Value} (w : (Jvm.Cond.fieldLink own i R0 f d).before a0 Z = true ∨ (Jvm.Cond.fieldLinkNest own i R0 f d host).before a0 Z = true) (via : Via Z R0 O f d) (F : Fld Z h a O f d v) (hd : decode bs pc = .ok (.getfield i, 3)) (hp : pc + 3 = pc') (q : ∀ T', Sd Z own bs mx ret n0 p l e R s m args below meth c T' h k n → Gl p e below P (T'.setTop (mkF m pc' L (v :: S)))) : Gl p e below P (T.setTop (mkF m pc L (.ref a :: S))) := by
  obtain ⟨locs, X, eT, N, hn0, hx, hZ, hown, hby, hml, hrt, hlk⟩ := Y
  subst hp
  obtain ⟨T', X', e', st⟩ := Jvm.RoadKit.getF X hx hZ hown w via eT F (g := mkF m pc L (.ref a :: S)) rfl rfl (hb hby hd)
  exact (q T' ⟨locs, X', e', N, hn0, hx, hZ, hown, hby, hml, hrt, hlk⟩).of1 st
theorem Gl.getS (Y : Sd Z own bs mx ret n0 p l e R s m args below meth c T h k n) {i : Nat} {R0 O f d host : String} {v : Value} (w : (Jvm.Cond.fieldLink own i R0 f d).before a0 Z = true ∨ (Jvm.Cond.fieldLinkNest own i R0 f d host).before a0 Z = true) (via : Via Z R0 O f d) (F : Sta Z h O f d v) (hd : decode bs pc = .ok (.getstatic i, 3)) (hp : pc + 3 = pc') (q : ∀ T', Sd Z own bs mx ret n0 p l e R s m args below meth c T' h k n → Gl p e below P (T'.setTop (mkF m pc' L (v :: S)))) : Gl p e below P (T.setTop (mkF m pc L S)) := by
  obtain ⟨locs, X, eT, N, hn0, hx, hZ, hown, hby, hml, hrt, hlk⟩ := Y
  subst hp
  obtain ⟨T', X', e', st⟩ := getS2 X hx hZ hown w via eT F (g := mkF m pc L S) rfl (hb hby hd)
  exact (q T' ⟨locs, X', e', N, hn0, hx, hZ, hown, hby, hml, hrt, hlk⟩).of1 st
theorem Gl.putF (Y : Sd Z own bs mx ret n0 p l e R s m args below meth c T h k n) {i kk : Nat} {R0 O f d host C : String} {ty : FieldType} {a : Addr} {v old : Value} (w : (Jvm.Cond.fieldLink own i R0 f d).before a0 Z = true ∨ (Jvm.Cond.fieldLinkNest own i R0 f d host).before a0 Z = true) (via : Via Z R0 O f d) (F : Fld Z h a O f d old) (E : Exa Z h a C) (Lw : (Jvm.Cond.lays C O f d).before a0 Z = true ∨ ((Jvm.Cond.laysFinal C O f d).before a0 Z = true ∧ own = O ∧ meth.name = "<init>")) (wi : (Jvm.Cond.instantiable C kk).before a0 Z = true) (ha : n0 ≤ a) (hty : parseFieldDescriptor d = some ty) (hn : narrow ty v = v) (hf : fits ty v = true) (hd : decode bs pc = .ok (.putfield i, 3)) (hp : pc + 3 = pc') (q : ∀ T' h', Sd Z own bs mx ret n0 p l e R s m args below meth c T' h' k n → Wr h h' a (Jvm.RoadKit.slotOf Z O f d) v → Gl p e below P (T'.setTop (mkF m pc' L S))) : Gl p e below P (T.setTop (mkF m pc L (v :: .ref a :: S))) := by
  obtain ⟨locs, X, eT, N, hn0, hx, hZ, hown, hby, hml, hrt, hlk⟩ := Y
  subst hp
  obtain ⟨T', h', X', e', W, st⟩ := Jvm.RoadKit.putF X hx hZ hown w via eT F E Lw wi hty hn hf (g := mkF m pc L (v :: .ref a :: S)) rfl rfl (hb hby hd)
  exact (q T' h' ⟨_, X', e', Fr.snoc X' N ha, hn0, hx, hZ, hown, hby, hml, hrt, hlk⟩ W).of1 st
theorem Gl.putFN (Y : Sd Z own bs mx ret n0 p l e R s m args below meth c T h k n) {i kk : Nat} {R0 O f d C : String} {ty : FieldType} {a : Addr} {v v' old : Value} (w : (Jvm.Cond.fieldLink own i R0 f d).before a0 Z = true) (via : Via Z R0 O f d) (F : Fld Z h a O f d old) (E : Exa Z h a C) (Lw : (Jvm.Cond.lays C O f d).before a0 Z = true ∨ ((Jvm.Cond.laysFinal C O f d).before a0 Z = true ∧ own = O ∧ meth.name = "<init>")) (wi : (Jvm.Cond.instantiable C kk).before a0 Z = true) (ha : n0 ≤ a) (hty : parseFieldDescriptor d = some ty) (hn : narrow ty v = v') (hf : fits ty v' = true) (hd : decode bs pc = .ok (.putfield i, 3)) (hp : pc + 3 = pc') (q : ∀ T' h', Sd Z own bs mx ret n0 p l e R s m args below meth c T' h' k n → Wr h h' a (Jvm.RoadKit.slotOf Z O f d) v' → Gl p e below P (T'.setTop (mkF m pc' L S))) : Gl p e below P (T.setTop (mkF m pc L (v :: .ref a :: S))) := by
  obtain ⟨locs, X, eT, N, hn0, hx, hZ, hown, hby, hml, hrt, hlk⟩ := Y
  subst hp
  obtain ⟨T', h', X', e', W, st⟩ := Jvm.RoadKit.putFN X hx hZ hown w via eT F E Lw wi hty hn hf (g := mkF m pc L (v :: .ref a :: S)) rfl rfl (hb hby hd)
  exact (q T' h' ⟨_, X', e', Fr.snoc X' N ha, hn0, hx, hZ, hown, hby, hml, hrt, hlk⟩ W).of1 st
theorem Gl.newO (Y : Sd Z own bs mx ret n0 p l e R s m args below meth c T h k n) {i sl : Nat} {C : String} (w : (Jvm.Cond.classLink own i C).before a0 Z = true) (wi : (Jvm.Cond.instantiable C sl).before a0 Z = true) (wz : (Jvm.Cond.initialized C).before a0 Z = true) (hc : k + 1 ≤ R.cells) (hl : n + sl ≤ R.slots) (hd : decode bs pc = .ok (.new i, 3)) (hp : pc + 3 = pc') (q : ∀ T' h' b, Sd Z own bs mx ret n0 p l e R s m args below meth c T' h' (k + 1) (n + sl) → Ext h h' → b = h.size → n0 ≤ b → Exa Z h' b C → (∀ {O nm d : String} {ty : FieldType}, Laid Z a0 C O nm d → parseFieldDescriptor d = some ty → Fld Z h' b O nm d (defaultValue ty)) → Gl p e below P (T'.setTop (mkF m pc' L (.ref b :: S)))) : Gl p e below P (T.setTop (mkF m pc L S)) := by
  obtain ⟨locs, X, eT, N, hn0, hx, hZ, hown, hby, hml, hrt, hlk⟩ := Y
  subst hp
  obtain ⟨T', h', X', e', E, A, D, -, st⟩ := Jvm.RoadKit.newO X hx hZ hown w wi wz eT (g := mkF m pc L S) rfl (hb hby hd) hc hl
  exact (q T' h' h.size ⟨locs, X', e', N, hn0, hx, hZ, hown, hby, hml, hrt, hlk⟩ E rfl (eT ▸ Nat.le_trans hn0 (own_grow X)) A D).of1 st
theorem Gl.newP (Y : Sd Z own bs mx ret n0 p l e R s m args below meth c T h k n) {aty : ArrayType} {ty : FieldType} {z : Int32} (cap : Nat) (hat : newarray.typeOf aty = ty) (w : (Jvm.Cond.arrayClass ty).before a0 Z = true) (hz : ¬ z < 0) (hcap : z.toNatClampNeg ≤ cap) (hcb : cap * 8 ≤ 536870912) (hc : k + 1 ≤ R.cells) (hl : n + cap ≤ R.slots) (hd : decode bs pc = .ok (.newarray aty, 2)) (hp : pc + 2 = pc') (q : ∀ T' h' b ck, Sd Z own bs mx ret n0 p l e R s m args below meth c T' h' (k + 1) (n + cap) → Ext h h' → b = h.size → n0 ≤ b → Arv Z h' b ck ty z [] (defaultValue ty) → Gl p e below P (T'.setTop (mkF m pc' L (.ref b :: S)))) : Gl p e below P (T.setTop (mkF m pc L (.int z :: S))) := by
  obtain ⟨locs, X, eT, N, hn0, hx, hZ, hown, hby, hml, hrt, hlk⟩ := Y
  subst hp hat
  obtain ⟨T', h', ck, X', e', E, A, st⟩ := Jvm.RoadKit.newP X hx hZ w eT (g := mkF m pc L (.int z :: S)) rfl (hb hby hd) rfl hz hcap hcb hc hl
  exact (q T' h' h.size ck ⟨locs, X', e', N, hn0, hx, hZ, hown, hby, hml, hrt, hlk⟩ E rfl (eT ▸ Nat.le_trans hn0 (own_grow X)) (Arv.new A hz)).of1 st
theorem Gl.iastore (Y : Sd Z own bs mx ret n0 p l e R s m args below meth c T h k n) {a : Addr} {ck : ClassId} {z j : Int32} {x : Int32} {vs : List Value} {d v : Value} {ix : Nat} (F : Arv Z h a ck .int z vs d) (hv : .int x = v) (hj : ¬ j < 0 ∧ j < z) (hjx : j.toNatClampNeg = ix) (hlen : ix < vs.length) (ha : n0 ≤ a) (hd : decode bs pc = .ok (.iastore, 1)) (hp : pc + 1 = pc') (q : ∀ T' h', Sd Z own bs mx ret n0 p l e R s m args below meth c T' h' k n → Wr h h' a ix v → Arv Z h' a ck .int z (vs.set ix v) d → Gl p e below P (T'.setTop (mkF m pc' L S))) : Gl p e below P (T.setTop (mkF m pc L (.int x :: .int j :: .ref a :: S))) := by
  obtain ⟨locs, X, eT, N, hn0, hx, hZ, hown, hby, hml, hrt, hlk⟩ := Y
  subst hp hv hjx
  obtain ⟨cl, A, C1, S1, N1, H, Gf⟩ := F
  obtain ⟨T', h', X', e', W, st⟩ := stI X hx hZ eT A (inb_of S1 hj) (g := mkF m pc L (.int x :: .int j :: .ref a :: S)) rfl rfl (hb hby hd)
  exact (q T' h' ⟨_, X', e', Fr.snoc X' N ha, hn0, hx, hZ, hown, hby, hml, hrt, hlk⟩ W (Arv.set A C1 S1 N1 H Gf rfl W _ rfl hlen)).of1 st
theorem Gl.lastore (Y : Sd Z own bs mx ret n0 p l e R s m args below meth c T h k n) {a : Addr} {ck : ClassId} {z j : Int32} {x : Int64} {vs : List Value} {d v : Value} {ix : Nat} (F : Arv Z h a ck .long z vs d) (hv : .long x = v) (hj : ¬ j < 0 ∧ j < z) (hjx : j.toNatClampNeg = ix) (hlen : ix < vs.length) (ha : n0 ≤ a) (hd : decode bs pc = .ok (.lastore, 1)) (hp : pc + 1 = pc') (q : ∀ T' h', Sd Z own bs mx ret n0 p l e R s m args below meth c T' h' k n → Wr h h' a ix v → Arv Z h' a ck .long z (vs.set ix v) d → Gl p e below P (T'.setTop (mkF m pc' L S))) : Gl p e below P (T.setTop (mkF m pc L (.long x :: .int j :: .ref a :: S))) := by
  obtain ⟨locs, X, eT, N, hn0, hx, hZ, hown, hby, hml, hrt, hlk⟩ := Y
  subst hp hv hjx
  obtain ⟨cl, A, C1, S1, N1, H, Gf⟩ := F
  obtain ⟨T', h', X', e', W, st⟩ := stJ X hx hZ eT A (inb_of S1 hj) (g := mkF m pc L (.long x :: .int j :: .ref a :: S)) rfl rfl (hb hby hd)
  exact (q T' h' ⟨_, X', e', Fr.snoc X' N ha, hn0, hx, hZ, hown, hby, hml, hrt, hlk⟩ W (Arv.set A C1 S1 N1 H Gf rfl W _ rfl hlen)).of1 st
theorem Gl.castore (Y : Sd Z own bs mx ret n0 p l e R s m args below meth c T h k n) {a : Addr} {ck : ClassId} {z j : Int32} {x : Int32} {vs : List Value} {d v : Value} {ix : Nat} (F : Arv Z h a ck .char z vs d) (hv : .int (nar .char x) = v) (hj : ¬ j < 0 ∧ j < z) (hjx : j.toNatClampNeg = ix) (hlen : ix < vs.length) (ha : n0 ≤ a) (hd : decode bs pc = .ok (.castore, 1)) (hp : pc + 1 = pc') (q : ∀ T' h', Sd Z own bs mx ret n0 p l e R s m args below meth c T' h' k n → Wr h h' a ix v → Arv Z h' a ck .char z (vs.set ix v) d → Gl p e below P (T'.setTop (mkF m pc' L S))) : Gl p e below P (T.setTop (mkF m pc L (.int x :: .int j :: .ref a :: S))) := by
  obtain ⟨locs, X, eT, N, hn0, hx, hZ, hown, hby, hml, hrt, hlk⟩ := Y
  subst hp hv hjx
  obtain ⟨cl, A, C1, S1, N1, H, Gf⟩ := F
  obtain ⟨T', h', X', e', W, st⟩ := stC X hx hZ eT A (inb_of S1 hj) (g := mkF m pc L (.int x :: .int j :: .ref a :: S)) rfl rfl (hb hby hd)
  exact (q T' h' ⟨_, X', e', Fr.snoc X' N ha, hn0, hx, hZ, hown, hby, hml, hrt, hlk⟩ W (Arv.set A C1 S1 N1 H Gf (fits_nar_char _) W _ rfl hlen)).of1 st
theorem Gl.sastore (Y : Sd Z own bs mx ret n0 p l e R s m args below meth c T h k n) {a : Addr} {ck : ClassId} {z j : Int32} {x : Int32} {vs : List Value} {d v : Value} {ix : Nat} (F : Arv Z h a ck .short z vs d) (hv : .int (nar .short x) = v) (hj : ¬ j < 0 ∧ j < z) (hjx : j.toNatClampNeg = ix) (hlen : ix < vs.length) (ha : n0 ≤ a) (hd : decode bs pc = .ok (.sastore, 1)) (hp : pc + 1 = pc') (q : ∀ T' h', Sd Z own bs mx ret n0 p l e R s m args below meth c T' h' k n → Wr h h' a ix v → Arv Z h' a ck .short z (vs.set ix v) d → Gl p e below P (T'.setTop (mkF m pc' L S))) : Gl p e below P (T.setTop (mkF m pc L (.int x :: .int j :: .ref a :: S))) := by
  obtain ⟨locs, X, eT, N, hn0, hx, hZ, hown, hby, hml, hrt, hlk⟩ := Y
  subst hp hv hjx
  obtain ⟨cl, A, C1, S1, N1, H, Gf⟩ := F
  obtain ⟨T', h', X', e', W, st⟩ := stS X hx hZ eT A (inb_of S1 hj) (g := mkF m pc L (.int x :: .int j :: .ref a :: S)) rfl rfl (hb hby hd)
  exact (q T' h' ⟨_, X', e', Fr.snoc X' N ha, hn0, hx, hZ, hown, hby, hml, hrt, hlk⟩ W (Arv.set A C1 S1 N1 H Gf (fits_nar_short _) W _ rfl hlen)).of1 st
theorem Gl.bastore (Y : Sd Z own bs mx ret n0 p l e R s m args below meth c T h k n) {a : Addr} {ck : ClassId} {z j : Int32} {x : Int32} {vs : List Value} {d v : Value} {ix : Nat} (F : Arv Z h a ck .byte z vs d) (hv : .int (nar .byte x) = v) (hj : ¬ j < 0 ∧ j < z) (hjx : j.toNatClampNeg = ix) (hlen : ix < vs.length) (ha : n0 ≤ a) (hd : decode bs pc = .ok (.bastore, 1)) (hp : pc + 1 = pc') (q : ∀ T' h', Sd Z own bs mx ret n0 p l e R s m args below meth c T' h' k n → Wr h h' a ix v → Arv Z h' a ck .byte z (vs.set ix v) d → Gl p e below P (T'.setTop (mkF m pc' L S))) : Gl p e below P (T.setTop (mkF m pc L (.int x :: .int j :: .ref a :: S))) := by
  obtain ⟨locs, X, eT, N, hn0, hx, hZ, hown, hby, hml, hrt, hlk⟩ := Y
  subst hp hv hjx
  obtain ⟨cl, A, C1, S1, N1, H, Gf⟩ := F
  obtain ⟨T', h', X', e', W, st⟩ := stB X hx hZ eT A (inb_of S1 hj) (g := mkF m pc L (.int x :: .int j :: .ref a :: S)) rfl rfl (hb hby hd)
  exact (q T' h' ⟨_, X', e', Fr.snoc X' N ha, hn0, hx, hZ, hown, hby, hml, hrt, hlk⟩ W (Arv.set A C1 S1 N1 H Gf (fits_nar_byte _) W _ rfl hlen)).of1 st
theorem Gl.initO (Y : Sd Z own bs mx ret n0 p l e R s m args below meth c T h k n) {i : Nat} {a : Addr} (w1 : (Jvm.Cond.methodLink own i Lib.objectInit).before a0 Z = true) (w2 : (Jvm.Cond.instanceMethod Lib.objectInit).before a0 Z = true) (w3 : (Jvm.Cond.code Lib.objectInit ⟨#[0xb1]⟩ 1 none).before a0 Z = true) (hL : L.size = mx) (hf : 1 ≤ R.frames) (hl : (S.map fun v => v.category).sum + 12 ≤ R.locals) (hd : decode bs pc = .ok (.invokespecial i, 3)) (hp : pc + 3 = pc') (q : ∀ T', Sd Z own bs mx ret n0 p l e R s m args below meth c T' h k n → Gl p e below P (T'.setTop (mkF m pc' L S))) : Gl p e below P (T.setTop (mkF m pc L (.ref a :: S))) := by
  obtain ⟨locs, X, eT, N, hn0, hx, hZ, hown, hby, hml, hrt, hlk⟩ := Y
  subst hp
  obtain ⟨T', X', e', st⟩ := Jvm.RoadKit.initO X hx hZ hown w1 w2 w3 eT (g := mkF m pc L (.ref a :: S)) rfl (by rw [hml]; exact hL) rfl (hb hby hd) hf (W := (S.map fun v => v.category).sum) (by show 2 * 0 + _ ≤ _; omega) hl
  exact (q T' ⟨locs, X', e', N, hn0, hx, hZ, hown, hby, hml, hrt, hlk⟩).of1 st
theorem Gl.castY (Y : Sd Z own bs mx ret n0 p l e R s m args below meth c T h k n) {i : Nat} {K : String} {a : Addr} (w : (Jvm.Cond.classLink own i K).before a0 Z = true) (F : Ins Z h a K true) (hd : decode bs pc = .ok (.checkcast i, 3)) (hp : pc + 3 = pc') (q : ∀ T', Sd Z own bs mx ret n0 p l e R s m args below meth c T' h k n → Gl p e below P (T'.setTop (mkF m pc' L (.ref a :: S)))) : Gl p e below P (T.setTop (mkF m pc L (.ref a :: S))) := by
  obtain ⟨locs, X, eT, N, hn0, hx, hZ, hown, hby, hml, hrt, hlk⟩ := Y
  subst hp
  obtain ⟨T', X', e', st⟩ := Jvm.RoadKit.castY X hx hZ hown w eT F (g := mkF m pc L (.ref a :: S)) rfl rfl (hb hby hd)
  exact (q T' ⟨locs, X', e', N, hn0, hx, hZ, hown, hby, hml, hrt, hlk⟩).of1 st
theorem Gl.instY (Y : Sd Z own bs mx ret n0 p l e R s m args below meth c T h k n) {i : Nat} {K : String} {a : Addr} (w : (Jvm.Cond.classLink own i K).before a0 Z = true) (F : Ins Z h a K true) (hd : decode bs pc = .ok (.instanceof i, 3)) (hp : pc + 3 = pc') (q : ∀ T', Sd Z own bs mx ret n0 p l e R s m args below meth c T' h k n → Gl p e below P (T'.setTop (mkF m pc' L (.int 1 :: S)))) : Gl p e below P (T.setTop (mkF m pc L (.ref a :: S))) := by
  obtain ⟨locs, X, eT, N, hn0, hx, hZ, hown, hby, hml, hrt, hlk⟩ := Y
  subst hp
  obtain ⟨T', X', e', st⟩ := Jvm.RoadKit.instY X hx hZ hown w eT F (g := mkF m pc L (.ref a :: S)) rfl rfl (hb hby hd)
  exact (q T' ⟨locs, X', e', N, hn0, hx, hZ, hown, hby, hml, hrt, hlk⟩).of1 st
theorem Gl.instNo (Y : Sd Z own bs mx ret n0 p l e R s m args below meth c T h k n) {i : Nat} {K C : String} {a : Addr} (w : (Jvm.Cond.classLink own i K).before a0 Z = true) (E : Exa Z h a C) (F : ∃ c t, Z.vm.findClass C = some c ∧ Z.vm.findClass K = some t ∧ Z.vm.assignable c t = false) (hd : decode bs pc = .ok (.instanceof i, 3)) (hp : pc + 3 = pc') (q : ∀ T', Sd Z own bs mx ret n0 p l e R s m args below meth c T' h k n → Gl p e below P (T'.setTop (mkF m pc' L (.int 0 :: S)))) : Gl p e below P (T.setTop (mkF m pc L (.ref a :: S))) := by
  obtain ⟨locs, X, eT, N, hn0, hx, hZ, hown, hby, hml, hrt, hlk⟩ := Y
  subst hp
  obtain ⟨T', X', e', st⟩ := Jvm.RoadKit.instNo X hx hZ hown w eT E F (g := mkF m pc L (.ref a :: S)) rfl rfl (hb hby hd)
  exact (q T' ⟨locs, X', e', N, hn0, hx, hZ, hown, hby, hml, hrt, hlk⟩).of1 st
theorem Gl.castNull (Y : Sd Z own bs mx ret n0 p l e R s m args below meth c T h k n) {i : Nat} (hd : decode bs pc = .ok (.checkcast i, 3)) (hp : pc + 3 = pc') (q : Gl p e below P (T.setTop (mkF m pc' L (.null :: S)))) : Gl p e below P (T.setTop (mkF m pc L (.null :: S))) := by
  obtain ⟨locs, X, eT, N, hn0, hx, hZ, hown, hby, hml, hrt, hlk⟩ := Y
  subst hp
  exact q.of1 fun t q => X.checkcastNull hx (g := mkF m pc L (.null :: S)) rfl rfl (hb hby hd) t q
theorem Gl.instNull (Y : Sd Z own bs mx ret n0 p l e R s m args below meth c T h k n) {i : Nat} (hd : decode bs pc = .ok (.instanceof i, 3)) (hp : pc + 3 = pc') (q : Gl p e below P (T.setTop (mkF m pc' L (.int 0 :: S)))) : Gl p e below P (T.setTop (mkF m pc L (.null :: S))) := by
  obtain ⟨locs, X, eT, N, hn0, hx, hZ, hown, hby, hml, hrt, hlk⟩ := Y
  subst hp
  exact q.of1 fun t q => X.instanceofNull hx (g := mkF m pc L (.null :: S)) rfl rfl (hb hby hd) t q
theorem Gl.newR (Y : Sd Z own bs mx ret n0 p l e R s m args below meth c T h k n) {i : Nat} {C : String} {z : Int32} (cap : Nat) (w1 : (Jvm.Cond.classLink own i C).before a0 Z = true) (w2 : (Jvm.Cond.arrayOver (.object C)).before a0 Z = true) (hz : ¬ z < 0) (hcap : z.toNatClampNeg ≤ cap) (hcb : cap * 8 ≤ 536870912) (hc : k + 1 ≤ R.cells) (hl : n + cap ≤ R.slots) (hd : decode bs pc = .ok (.anewarray i, 3)) (hp : pc + 3 = pc') (q : ∀ T' h' b ck, Sd Z own bs mx ret n0 p l e R s m args below meth c T' h' (k + 1) (n + cap) → Ext h h' → b = h.size → n0 ≤ b → Arv Z h' b ck (.object C) z [] .null → Gl p e below P (T'.setTop (mkF m pc' L (.ref b :: S)))) : Gl p e below P (T.setTop (mkF m pc L (.int z :: S))) := by
  obtain ⟨locs, X, eT, N, hn0, hx, hZ, hown, hby, hml, hrt, hlk⟩ := Y
  subst hp
  obtain ⟨T', h', ck, X', e', E, A, -, st⟩ := Jvm.RoadKit.newR X hx hZ hown w1 w2 eT (g := mkF m pc L (.int z :: S)) rfl (hb hby hd) rfl hz hcap hcb hc hl
  exact (q T' h' h.size ck ⟨locs, X', e', N, hn0, hx, hZ, hown, hby, hml, hrt, hlk⟩ E rfl (eT ▸ Nat.le_trans hn0 (own_grow X)) (Arv.new A hz)).of1 st
theorem Gl.callS (Y : Sd Z own bs mx ret n0 p l e R s m args below meth c T h k n) {y : MethodName} {bs2 : ByteArray} {mx2 : Nat} {ret2 : Option FieldType} {rm : Room} {as : Array Value} {Q : Option Value → Heap → Prop} {i : Nat} {argsL rest : List Value} (w1 : (Jvm.Cond.methodLink own i y).before a0 Z = true) (w2 : (Jvm.Cond.static y).before a0 Z = true) (w3 : (Jvm.Cond.initialized y.cls).before a0 Z = true) (w4 : (Jvm.Cond.code y bs2 mx2 ret2).before a0 Z = true) (hy : y.cls ≠ "java/lang/invoke/MethodHandle" ∧ y.cls ≠ "java/lang/invoke/VarHandle") (hM : OMet l Z [] y bs2 mx2 ret2 rm as h n0 Q) (has : argsL.toArray = as) (hS : S = argsL.reverse ++ rest) (hlen : ∀ sig, parseMethodDescriptor y.desc = some sig → argsL.length = sig.parameters.length) (hL : L.size = mx) (hf : rm.frames + 1 ≤ R.frames) (hl : (rest.map fun v => v.category).sum + (mx2 + 11) + rm.locals ≤ R.locals) (hc : k + rm.cells ≤ R.cells) (hs : n + rm.slots ≤ R.slots) (hd : decode bs pc = .ok (.invokestatic i, 3)) (hp : pc + 3 = pc') (q : ∀ v T' h', Sd Z own bs mx ret n0 p l e R s m args below meth c T' h' (k + rm.cells) (n + rm.slots) → Q v h' → Gl p e below P (T'.setTop (mkF m pc' L (v.toList ++ rest)))) : Gl p e below P (T.setTop (mkF m pc L S)) := by
  obtain ⟨locs, X, eT, N, hn0, hx, hZ, hown, hby, hml, hrt, hlk⟩ := Y
  subst hp has hS
  obtain ⟨v, vm₁, ⟨T', L', k', n'⟩, -, X', hB, st⟩ := Jvm.LawKit.callS X hx (y := y) hown (mvT hZ w1) (mvT hZ w2) (mvT hZ w3) (mvT hZ w4) hy (backOf (Q := fun v h' L => Q v h' ∧ Fr n0 L) (W := (rest.map fun v => v.category).sum) (OMet.un hM) hZ w4 w3 hf hl) (g := mkF m pc L (argsL.reverse ++ rest)) rfl (by rw [hml]; exact hL) (argsL := argsL) (rest := rest) hlen rfl (by show 2 * 0 + _ ≤ _; omega) (hb hby hd) (fun _ _ => ⟨rfl, eT, hc, hs⟩)
  obtain ⟨Lc, ⟨hQ, NL⟩, l1, l2, l3⟩ := hB
  dsimp only [Pt.U, Pt.locs, Pt.cells, Pt.slots] at X' l1 l2 l3 st hQ
  subst l1 l2 l3
  exact (q v T' T'.heap ⟨_, X', rfl, Fr.app N NL, hn0, hx, hZ, hown, hby, hml, hrt, hlk⟩ hQ).of1 st
theorem Gl.callN (Y : Sd Z own bs mx ret n0 p l e R s m args below meth c T h k n) {y : MethodName} {bs2 : ByteArray} {mx2 : Nat} {rm : Room} {as : Array Value} {Q : Option Value → Heap → Prop} {i : Nat} {argsL rest : List Value} {a : Addr} (hy1 : y.name = "<init>") (w1 : (Jvm.Cond.methodLink own i y).before a0 Z = true) (w2 : (Jvm.Cond.instanceMethod y).before a0 Z = true) (w3 : (Jvm.Cond.initialized y.cls).before a0 Z = true) (w4 : (Jvm.Cond.code y bs2 mx2 none).before a0 Z = true) (hy : y.cls ≠ "java/lang/invoke/MethodHandle" ∧ y.cls ≠ "java/lang/invoke/VarHandle") (hM : OMet l Z [] y bs2 mx2 none rm as h n0 Q) (has : (.ref a :: argsL).toArray = as) (hS : S = argsL.reverse ++ .ref a :: rest) (hlen : ∀ sig, parseMethodDescriptor y.desc = some sig → argsL.length = sig.parameters.length) (hL : L.size = mx) (hf : rm.frames + 1 ≤ R.frames) (hl : (rest.map fun v => v.category).sum + (mx2 + 11) + rm.locals ≤ R.locals) (hc : k + rm.cells ≤ R.cells) (hs : n + rm.slots ≤ R.slots) (hd : decode bs pc = .ok (.invokespecial i, 3)) (hp : pc + 3 = pc') (q : ∀ v T' h', Sd Z own bs mx ret n0 p l e R s m args below meth c T' h' (k + rm.cells) (n + rm.slots) → Q v h' → Gl p e below P (T'.setTop (mkF m pc' L (v.toList ++ rest)))) : Gl p e below P (T.setTop (mkF m pc L S)) := by
  obtain ⟨locs, X, eT, N, hn0, hx, hZ, hown, hby, hml, hrt, hlk⟩ := Y
  subst hp has hS
  obtain ⟨v, vm₁, ⟨T', L', k', n'⟩, -, X', hB, st⟩ := X.specialBack hx (y := y) hy1 hown (mvT hZ w1) (mvT hZ w2) (mvT hZ w4) hy (backOf (Q := fun v h' L => Q v h' ∧ Fr n0 L) (W := (rest.map fun v => v.category).sum) (OMet.un hM) hZ w4 w3 hf hl) (g := mkF m pc L (argsL.reverse ++ .ref a :: rest)) rfl (by rw [hml]; exact hL) (Steps.refl _) (a := a) (argsL := argsL) (rest := rest) hlen rfl (by show 2 * 0 + _ ≤ _; omega) (hb hby hd) (fun _ _ => ⟨rfl, eT, hc, hs⟩)
  obtain ⟨Lc, ⟨hQ, NL⟩, l1, l2, l3⟩ := hB
  dsimp only [Pt.U, Pt.locs, Pt.cells, Pt.slots] at X' l1 l2 l3 st hQ
  subst l1 l2 l3
  exact Gl.via st (q v T' T'.heap ⟨_, X', rfl, Fr.app N NL, hn0, hx, hZ, hown, hby, hml, hrt, hlk⟩ hQ)
theorem Gl.callV (Y : Sd Z own bs mx ret n0 p l e R s m args below meth c T h k n) {y : MethodName} {bs2 : ByteArray} {mx2 : Nat} {ret2 : Option FieldType} {rm : Room} {as : Array Value} {Q : Option Value → Heap → Prop} {i : Nat} {z : MethodName} {C : String} {argsL rest : List Value} {a : Addr} (w1 : (Jvm.Cond.methodLink own i z).before a0 Z = true) (wd : (Jvm.Cond.declares z).before a0 Z = true) (ws0 : (Jvm.Cond.selects z.cls z z).before a0 Z = true) (ws : (Jvm.Cond.selects C z y).before a0 Z = true) (w2 : (Jvm.Cond.instanceMethod y).before a0 Z = true) (w3 : (Jvm.Cond.initialized y.cls).before a0 Z = true) (w4 : (Jvm.Cond.code y bs2 mx2 ret2).before a0 Z = true) (hy : z.cls ≠ "java/lang/invoke/MethodHandle" ∧ z.cls ≠ "java/lang/invoke/VarHandle") (E : Exa Z h a C) (hM : OMet l Z [] y bs2 mx2 ret2 rm as h n0 Q) (has : (.ref a :: argsL).toArray = as) (hS : S = argsL.reverse ++ .ref a :: rest) (hlen : ∀ sig, parseMethodDescriptor z.desc = some sig → argsL.length = sig.parameters.length) (hL : L.size = mx) (hf : rm.frames + 1 ≤ R.frames) (hl : (rest.map fun v => v.category).sum + (mx2 + 11) + rm.locals ≤ R.locals) (hc : k + rm.cells ≤ R.cells) (hs : n + rm.slots ≤ R.slots) (hd : decode bs pc = .ok (.invokevirtual i, 3)) (hp : pc + 3 = pc') (q : ∀ v T' h', Sd Z own bs mx ret n0 p l e R s m args below meth c T' h' (k + rm.cells) (n + rm.slots) → Q v h' → Gl p e below P (T'.setTop (mkF m pc' L (v.toList ++ rest)))) : Gl p e below P (T.setTop (mkF m pc L S)) := by
  obtain ⟨locs, X, eT, N, hn0, hx, hZ, hown, hby, hml, hrt, hlk⟩ := Y
  subst hp has hS
  obtain ⟨cq, kq, qa, qb, qc⟩ := isOf hZ eT E
  obtain ⟨v, vm₁, ⟨T', L', k', n'⟩, -, X', hB, st⟩ := X.virtualBack hx (y := z) (z := y) hown (mvT hZ w1) (mvT hZ wd) (notFace_of_selects (args := #[]) (mvT hZ ws0)) (mvT hZ ws) (mvT hZ w2) hy (backOf (Q := fun v h' L => Q v h' ∧ Fr n0 L) (W := (rest.map fun v => v.category).sum) (OMet.un hM) hZ w4 w3 hf hl) qa qc (g := mkF m pc L (argsL.reverse ++ .ref a :: rest)) rfl (by rw [hml]; exact hL) (Steps.refl _) (argsL := argsL) (rest := rest) hlen rfl (by show 2 * 0 + _ ≤ _; omega) (hb hby hd) (fun _ _ => ⟨rfl, eT, hc, hs⟩)
  obtain ⟨Lc, ⟨hQ, NL⟩, l1, l2, l3⟩ := hB
  dsimp only [Pt.U, Pt.locs, Pt.cells, Pt.slots] at X' l1 l2 l3 st hQ
  subst l1 l2 l3
  exact Gl.via st (q v T' T'.heap ⟨_, X', rfl, Fr.app N NL, hn0, hx, hZ, hown, hby, hml, hrt, hlk⟩ hQ)
theorem Gl.callP (Y : Sd Z own bs mx ret n0 p l e R s m args below meth c T h k n) {y : MethodName} {bs2 : ByteArray} {mx2 : Nat} {ret2 : Option FieldType} {rm : Room} {as : Array Value} {Q : Option Value → Heap → Prop} {i : Nat} {C : String} {kk : Nat} {argsL rest : List Value} {a : Addr} (w1 : (Jvm.Cond.methodLink own i y).before a0 Z = true) (w2 : (Jvm.Cond.instanceMethod y).before a0 Z = true) (wp : (Jvm.Cond.privateMethod y).before a0 Z = true) (wi : (Jvm.Cond.instantiable y.cls kk).before a0 Z = true) (w3 : (Jvm.Cond.initialized y.cls).before a0 Z = true) (w4 : (Jvm.Cond.code y bs2 mx2 ret2).before a0 Z = true) (hy : y.cls ≠ "java/lang/invoke/MethodHandle" ∧ y.cls ≠ "java/lang/invoke/VarHandle") (E : Exa Z h a C) (hM : OMet l Z [] y bs2 mx2 ret2 rm as h n0 Q) (has : (.ref a :: argsL).toArray = as) (hS : S = argsL.reverse ++ .ref a :: rest) (hlen : ∀ sig, parseMethodDescriptor y.desc = some sig → argsL.length = sig.parameters.length) (hL : L.size = mx) (hf : rm.frames + 1 ≤ R.frames) (hl : (rest.map fun v => v.category).sum + (mx2 + 11) + rm.locals ≤ R.locals) (hc : k + rm.cells ≤ R.cells) (hs : n + rm.slots ≤ R.slots) (hd : decode bs pc = .ok (.invokevirtual i, 3)) (hp : pc + 3 = pc') (q : ∀ v T' h', Sd Z own bs mx ret n0 p l e R s m args below meth c T' h' (k + rm.cells) (n + rm.slots) → Q v h' → Gl p e below P (T'.setTop (mkF m pc' L (v.toList ++ rest)))) : Gl p e below P (T.setTop (mkF m pc L S)) := by
  obtain ⟨locs, X, eT, N, hn0, hx, hZ, hown, hby, hml, hrt, hlk⟩ := Y
  subst hp has hS
  obtain ⟨cq, qa, qb⟩ := E.cell
  have hpr := Cond.privateMethod_at (mvP hZ wp (args := #[]))
  obtain ⟨c1, k1, i1, i2, -, i4, -⟩ := Cond.instantiable_spec (mv (args := args) hZ wi)
  have i5 : k1.isInterface = false := by cases hi : k1.isInterface <;> simp [hi] at i4 ⊢
  have hsel := selects_self_of_private (args := args) i1 i2 i5 hpr (mvT hZ w2) hy
  obtain ⟨v, vm₁, ⟨T', L', k', n'⟩, -, X', hB, st⟩ := X.privateBack hx (y := y) hown (mvT hZ w1) (mvT hZ w2) hsel hpr (mvT hZ w4) hy (backOf (Q := fun v h' L => Q v h' ∧ Fr n0 L) (W := (rest.map fun v => v.category).sum) (OMet.un hM) hZ w4 w3 hf hl) (g := mkF m pc L (argsL.reverse ++ .ref a :: rest)) rfl (by rw [hml]; exact hL) (Steps.refl _) (a := a) (by rw [eT]; exact qa) qb (argsL := argsL) (rest := rest) hlen rfl (by show 2 * 0 + _ ≤ _; omega) (hb hby hd) (fun _ _ => ⟨rfl, eT, hc, hs⟩)
  obtain ⟨Lc, ⟨hQ, NL⟩, l1, l2, l3⟩ := hB
  dsimp only [Pt.U, Pt.locs, Pt.cells, Pt.slots] at X' l1 l2 l3 st hQ
  subst l1 l2 l3
  exact Gl.via st (q v T' T'.heap ⟨_, X', rfl, Fr.app N NL, hn0, hx, hZ, hown, hby, hml, hrt, hlk⟩ hQ)
theorem Gl.callNN (Y : Sd Z own bs mx ret n0 p l e R s m args below meth c T h k n) {y : MethodName} {bs2 : ByteArray} {mx2 : Nat} {rm : Room} {as : Array Value} {Q : Option Value → Heap → Prop} {i : Nat} {argsL rest : List Value} {host : String} {a : Addr} (hy1 : y.name = "<init>") (w1 : (Jvm.Cond.methodLinkNest own i y host).before a0 Z = true) (w2 : (Jvm.Cond.instanceMethod y).before a0 Z = true) (w3 : (Jvm.Cond.initialized y.cls).before a0 Z = true) (w4 : (Jvm.Cond.code y bs2 mx2 none).before a0 Z = true) (hy : y.cls ≠ "java/lang/invoke/MethodHandle" ∧ y.cls ≠ "java/lang/invoke/VarHandle") (hM : OMet l Z [] y bs2 mx2 none rm as h n0 Q) (has : (.ref a :: argsL).toArray = as) (hS : S = argsL.reverse ++ .ref a :: rest) (hlen : ∀ sig, parseMethodDescriptor y.desc = some sig → argsL.length = sig.parameters.length) (hL : L.size = mx) (hf : rm.frames + 1 ≤ R.frames) (hl : (rest.map fun v => v.category).sum + (mx2 + 11) + rm.locals ≤ R.locals) (hc : k + rm.cells ≤ R.cells) (hs : n + rm.slots ≤ R.slots) (hd : decode bs pc = .ok (.invokespecial i, 3)) (hp : pc + 3 = pc') (q : ∀ v T' h', Sd Z own bs mx ret n0 p l e R s m args below meth c T' h' (k + rm.cells) (n + rm.slots) → Q v h' → Gl p e below P (T'.setTop (mkF m pc' L (v.toList ++ rest)))) : Gl p e below P (T.setTop (mkF m pc L S)) := by
  obtain ⟨locs, X, eT, N, hn0, hx, hZ, hown, hby, hml, hrt, hlk⟩ := Y
  subst hp has hS
  obtain ⟨v, vm₁, ⟨T', L', k', n'⟩, -, X', hB, st⟩ := X.specialBackNest hx (y := y) hy1 hown (Cond.methodLinkNest_wide hZ w1 :) (mvT hZ w2) (mvT hZ w4) hy (backOf (Q := fun v h' L => Q v h' ∧ Fr n0 L) (W := (rest.map fun v => v.category).sum) (OMet.un hM) hZ w4 w3 hf hl) (g := mkF m pc L (argsL.reverse ++ .ref a :: rest)) rfl (by rw [hml]; exact hL) (Steps.refl _) (a := a) (argsL := argsL) (rest := rest) hlen rfl (by show 2 * 0 + _ ≤ _; omega) (hb hby hd) (fun _ _ => ⟨rfl, eT, hc, hs⟩)
  obtain ⟨Lc, ⟨hQ, NL⟩, l1, l2, l3⟩ := hB
  dsimp only [Pt.U, Pt.locs, Pt.cells, Pt.slots] at X' l1 l2 l3 st hQ
  subst l1 l2 l3
  exact Gl.via st (q v T' T'.heap ⟨_, X', rfl, Fr.app N NL, hn0, hx, hZ, hown, hby, hml, hrt, hlk⟩ hQ)
theorem Gl.callVU (Y : Sd Z own bs mx ret n0 p l e R s m args below meth c T h k n) {y : MethodName} {bs2 : ByteArray} {mx2 : Nat} {ret2 : Option FieldType} {rm : Room} {as : Array Value} {Q : Option Value → Heap → Prop} {i : Nat} {owner : String} {z : MethodName} {C : String} {argsL rest : List Value} {a : Addr} (w1 : (Jvm.Cond.methodLink own i z).before a0 Z = true) (w0 : (Jvm.Cond.sameMethod z.cls owner z.name z.desc).before a0 Z = true) (wd : (Jvm.Cond.declares ⟨owner, z.name, z.desc⟩).before a0 Z = true) (ws : (Jvm.Cond.selects C z y).before a0 Z = true) (w2 : (Jvm.Cond.instanceMethod y).before a0 Z = true) (w3 : (Jvm.Cond.initialized y.cls).before a0 Z = true) (w4 : (Jvm.Cond.code y bs2 mx2 ret2).before a0 Z = true) (hy : owner ≠ "java/lang/invoke/MethodHandle" ∧ owner ≠ "java/lang/invoke/VarHandle") (E : Exa Z h a C) (hM : OMet l Z [] y bs2 mx2 ret2 rm as h n0 Q) (has : (.ref a :: argsL).toArray = as) (hS : S = argsL.reverse ++ .ref a :: rest) (hlen : ∀ sig, parseMethodDescriptor z.desc = some sig → argsL.length = sig.parameters.length) (hL : L.size = mx) (hf : rm.frames + 1 ≤ R.frames) (hl : (rest.map fun v => v.category).sum + (mx2 + 11) + rm.locals ≤ R.locals) (hc : k + rm.cells ≤ R.cells) (hs : n + rm.slots ≤ R.slots) (hd : decode bs pc = .ok (.invokevirtual i, 3)) (hp : pc + 3 = pc') (q : ∀ v T' h', Sd Z own bs mx ret n0 p l e R s m args below meth c T' h' (k + rm.cells) (n + rm.slots) → Q v h' → Gl p e below P (T'.setTop (mkF m pc' L (v.toList ++ rest)))) : Gl p e below P (T.setTop (mkF m pc L S)) := by
  obtain ⟨locs, X, eT, N, hn0, hx, hZ, hown, hby, hml, hrt, hlk⟩ := Y
  subst hp has hS
  obtain ⟨cq, kq, qa, qb, qc⟩ := isOf hZ eT E
  obtain ⟨v, vm₁, ⟨T', L', k', n'⟩, -, X', hB, st⟩ := X.virtualBackUp hx (x := z) (y := y) hown (mvT hZ w1) (mvT hZ w0) (mvT hZ wd) hy (mvT hZ ws) (mvT hZ w2) (backOf (Q := fun v h' L => Q v h' ∧ Fr n0 L) (W := (rest.map fun v => v.category).sum) (OMet.un hM) hZ w4 w3 hf hl) qa qc (g := mkF m pc L (argsL.reverse ++ .ref a :: rest)) rfl (by rw [hml]; exact hL) (Steps.refl _) (argsL := argsL) (rest := rest) hlen rfl (by show 2 * 0 + _ ≤ _; omega) (hb hby hd) (fun _ _ => ⟨rfl, eT, hc, hs⟩)
  obtain ⟨Lc, ⟨hQ, NL⟩, l1, l2, l3⟩ := hB
  dsimp only [Pt.U, Pt.locs, Pt.cells, Pt.slots] at X' l1 l2 l3 st hQ
  subst l1 l2 l3
  exact Gl.via st (q v T' T'.heap ⟨_, X', rfl, Fr.app N NL, hn0, hx, hZ, hown, hby, hml, hrt, hlk⟩ hQ)
theorem Gl.fin (Y : Sd Z own bs mx ret n0 p l e R s m args below meth c T h k n) {K M : Nat} {Q : Option Value → Heap → Prop} (hk : k ≤ K) (hm : n ≤ M) {g : JFrame} {v : Option Value} (hv : ret = none → v = none) (st : ∀ fs, (∀ (f : JFrame) (acts : List Action), f.method = m → f.locked = none → f.entered = [] → (doReturn e (T.setTop f) acts v).1 = T.setFrames fs) → Steps p.tables e below (T.setTop g) (T.setFrames fs)) (hQ : Q v h) : Gl p e below (Pst s n0 K M Q) (T.setTop g) := by
  obtain ⟨locs, X, eT, N, hn0, hx, hZ, hown, hby, hml, hrt, hlk⟩ := Y
  obtain ⟨fs, hr, hrun, hended, hW, hsame⟩ := X.leave (v := v) (fun q => hv (hrt.symm.trans q)) hlk
  exact ⟨_, _, st fs hr, hrun, hended, v, locs, rfl, ⟨by show Q v T.heap; rw [eT]; exact hQ, N⟩, ⟨_, rfl⟩, hW, hsame.mono hk hm⟩
theorem Gl.retV (Y : Sd Z own bs mx none n0 p l e R s m args below meth c T h k n) {K M : Nat} {Q : Option Value → Heap → Prop} (hk : k ≤ K) (hm : n ≤ M)  (hd : decode bs pc = .ok (.return_, 1)) (hQ : Q none h) : Gl p e below (Pst s n0 K M Q) (T.setTop (mkF m pc L [])) := by
  have Y0 := Y
  obtain ⟨locs, X, eT, N, hn0, hx, hZ, hown, hby, hml, hrt, hlk⟩ := Y
  exact Gl.fin Y0 hk hm (v := none) (fun q => by first | rfl | cases q) (fun fs hr => X.returnOut hx hrt (hb hby hd) hr) hQ
theorem Gl.retI (Y : Sd Z own bs mx (some .int) n0 p l e R s m args below meth c T h k n) {K M : Nat} {Q : Option Value → Heap → Prop} (hk : k ≤ K) (hm : n ≤ M) {x : Int32} (hd : decode bs pc = .ok (.ireturn, 1)) (hQ : Q (some (.int x)) h) : Gl p e below (Pst s n0 K M Q) (T.setTop (mkF m pc L (.int x :: S))) := by
  have Y0 := Y
  obtain ⟨locs, X, eT, N, hn0, hx, hZ, hown, hby, hml, hrt, hlk⟩ := Y
  exact Gl.fin Y0 hk hm (v := (some (.int x))) (fun q => by first | rfl | cases q) (fun fs hr => retOut X hx hrt rfl (Or.inl ⟨rfl, Or.inl rfl, x, rfl⟩) (hb hby hd) hr) hQ
theorem Gl.retJ (Y : Sd Z own bs mx (some .long) n0 p l e R s m args below meth c T h k n) {K M : Nat} {Q : Option Value → Heap → Prop} (hk : k ≤ K) (hm : n ≤ M) {x : Int64} (hd : decode bs pc = .ok (.lreturn, 1)) (hQ : Q (some (.long x)) h) : Gl p e below (Pst s n0 K M Q) (T.setTop (mkF m pc L (.long x :: S))) := by
  have Y0 := Y
  obtain ⟨locs, X, eT, N, hn0, hx, hZ, hown, hby, hml, hrt, hlk⟩ := Y
  exact Gl.fin Y0 hk hm (v := (some (.long x))) (fun q => by first | rfl | cases q) (fun fs hr => retOut X hx hrt rfl (Or.inr (Or.inl ⟨rfl, rfl, x, rfl⟩)) (hb hby hd) hr) hQ
theorem Gl.retA (Y : Sd Z own bs mx (some t) n0 p l e R s m args below meth c T h k n) {K M : Nat} {Q : Option Value → Heap → Prop} (hk : k ≤ K) (hm : n ≤ M) {x : Value} (ht : t.isReference = true) (hxr : x.isRef = true) (hd : decode bs pc = .ok (.areturn, 1)) (hQ : Q (some x) h) : Gl p e below (Pst s n0 K M Q) (T.setTop (mkF m pc L (x :: S))) := by
  have Y0 := Y
  obtain ⟨locs, X, eT, N, hn0, hx, hZ, hown, hby, hml, hrt, hlk⟩ := Y
  exact Gl.fin Y0 hk hm (v := (some x)) (fun q => by first | rfl | cases q) (fun fs hr => retOut X hx hrt (own_narR hxr) (Or.inr (Or.inr (Or.inr (Or.inr ⟨rfl, ht, hxr⟩)))) (hb hby hd) hr) hQ
theorem Gl.retZ (Y : Sd Z own bs mx (some .boolean) n0 p l e R s m args below meth c T h k n) {K M : Nat} {Q : Option Value → Heap → Prop} (hk : k ≤ K) (hm : n ≤ M) {x x' : Int32} (hxn : nar .boolean x = x') (hd : decode bs pc = .ok (.ireturn, 1)) (hQ : Q (some (.int x')) h) : Gl p e below (Pst s n0 K M Q) (T.setTop (mkF m pc L (.int x :: S))) := by
  have Y0 := Y
  obtain ⟨locs, X, eT, N, hn0, hx, hZ, hown, hby, hml, hrt, hlk⟩ := Y
  exact Gl.fin Y0 hk hm (v := (some (.int x'))) (fun q => by first | rfl | cases q) (fun fs hr => retN X hx (t := .boolean) hrt (by simp) (hb hby hd) (by rw [hxn]; exact hr)) hQ
theorem Gl.retB (Y : Sd Z own bs mx (some .byte) n0 p l e R s m args below meth c T h k n) {K M : Nat} {Q : Option Value → Heap → Prop} (hk : k ≤ K) (hm : n ≤ M) {x x' : Int32} (hxn : nar .byte x = x') (hd : decode bs pc = .ok (.ireturn, 1)) (hQ : Q (some (.int x')) h) : Gl p e below (Pst s n0 K M Q) (T.setTop (mkF m pc L (.int x :: S))) := by
  have Y0 := Y
  obtain ⟨locs, X, eT, N, hn0, hx, hZ, hown, hby, hml, hrt, hlk⟩ := Y
  exact Gl.fin Y0 hk hm (v := (some (.int x'))) (fun q => by first | rfl | cases q) (fun fs hr => retN X hx (t := .byte) hrt (by simp) (hb hby hd) (by rw [hxn]; exact hr)) hQ
theorem Gl.retC (Y : Sd Z own bs mx (some .char) n0 p l e R s m args below meth c T h k n) {K M : Nat} {Q : Option Value → Heap → Prop} (hk : k ≤ K) (hm : n ≤ M) {x x' : Int32} (hxn : nar .char x = x') (hd : decode bs pc = .ok (.ireturn, 1)) (hQ : Q (some (.int x')) h) : Gl p e below (Pst s n0 K M Q) (T.setTop (mkF m pc L (.int x :: S))) := by
  have Y0 := Y
  obtain ⟨locs, X, eT, N, hn0, hx, hZ, hown, hby, hml, hrt, hlk⟩ := Y
  exact Gl.fin Y0 hk hm (v := (some (.int x'))) (fun q => by first | rfl | cases q) (fun fs hr => retN X hx (t := .char) hrt (by simp) (hb hby hd) (by rw [hxn]; exact hr)) hQ
theorem Gl.retSh (Y : Sd Z own bs mx (some .short) n0 p l e R s m args below meth c T h k n) {K M : Nat} {Q : Option Value → Heap → Prop} (hk : k ≤ K) (hm : n ≤ M) {x x' : Int32} (hxn : nar .short x = x') (hd : decode bs pc = .ok (.ireturn, 1)) (hQ : Q (some (.int x')) h) : Gl p e below (Pst s n0 K M Q) (T.setTop (mkF m pc L (.int x :: S))) := by
  have Y0 := Y
  obtain ⟨locs, X, eT, N, hn0, hx, hZ, hown, hby, hml, hrt, hlk⟩ := Y
  exact Gl.fin Y0 hk hm (v := (some (.int x'))) (fun q => by first | rfl | cases q) (fun fs hr => retN X hx (t := .short) hrt (by simp) (hb hby hd) (by rw [hxn]; exact hr)) hQ
end Kit
end Jvm.OwnWk

namespace Jvm.Pilot.@@N@@
open Jvm Jvm.ClassFile Sem Op Lib Jvm.Free Jvm.Stand Jvm.LawKit Jvm.RoadKit Bundle Jvm.OwnWk Jvm.Pilot.@@N@@.Jvm.D
def own_mark (x u y w : Int32) : Int32 := (((((x ^^^ u) ||| (y ^^^ w)) - 1) &&& (((x ^^^ u) ||| (y ^^^ w)) ^^^ (-1))) &&& 128).toInt8.toInt32
theorem own_b8 : ∀ b : BitVec 8, ((b - 1#8) &&& (b ^^^ 255#8)) &&& 128#8 = if b = 0#8 then 128#8 else 0#8 := by decide
theorem own_low (d : Int32) : (((d - 1) &&& (d ^^^ (-1))) &&& 128).toInt8 = if d.toBitVec.setWidth 8 = 0#8 then -128 else 0 := by
  apply Int8.toBitVec_inj.mp
  have e : ((((d - 1) &&& (d ^^^ (-1))) &&& 128).toInt8).toBitVec = (((d.toBitVec.setWidth 8) - 1#8) &&& ((d.toBitVec.setWidth 8) ^^^ 255#8)) &&& 128#8 := by
    show ((((d - 1) &&& (d ^^^ (-1))) &&& 128).toBitVec.signExtend 8) = _
    rw [BitVec.signExtend_eq_setWidth_of_le _ (by decide)]
    simp only [Int32.toBitVec_and, Int32.toBitVec_sub, Int32.toBitVec_xor, BitVec.setWidth_and, BitVec.setWidth_xor]
    congr 2
    apply BitVec.eq_of_toNat_eq
    have h1 : (Int32.toBitVec 1).toNat = 1 := by decide
    simp only [BitVec.toNat_setWidth, BitVec.toNat_sub, h1]
    simp
    omega
  rw [e, own_b8]
  split <;> rfl
theorem own_and8 (x : Int32) : (x &&& 255).toBitVec = (x.toBitVec.setWidth 8).setWidth 32 := by
  apply BitVec.eq_of_toNat_eq
  have h1 : (Int32.toBitVec 255).toNat = 2 ^ 8 - 1 := by decide
  rw [Int32.toBitVec_and, BitVec.toNat_and, h1, Nat.and_two_pow_sub_one_eq_mod]
  simp only [BitVec.toNat_setWidth]
  omega
theorem own_sw {a b : BitVec 8} (h : a.setWidth 32 = b.setWidth 32) : a = b := by
  apply BitVec.eq_of_toNat_eq
  have := congrArg BitVec.toNat h
  simp only [BitVec.toNat_setWidth] at this
  omega
theorem own_and_eq (x u : Int32) : (x &&& 255 = u &&& 255) ↔ x.toBitVec.setWidth 8 = u.toBitVec.setWidth 8 := by
  rw [← Int32.toBitVec_inj, own_and8, own_and8]
  exact ⟨own_sw, fun h => by rw [h]⟩
theorem own_mark_eq (x u y w : Int32) : own_mark x u y w = if x &&& 255 = u &&& 255 ∧ y &&& 255 = w &&& 255 then -128 else 0 := by
  unfold own_mark
  rw [own_low]
  have e : (((x ^^^ u) ||| (y ^^^ w)).toBitVec.setWidth 8 = 0#8) ↔ (x &&& 255 = u &&& 255 ∧ y &&& 255 = w &&& 255) := by
    rw [own_and_eq, own_and_eq, Int32.toBitVec_or, Int32.toBitVec_xor, Int32.toBitVec_xor, BitVec.setWidth_or, BitVec.setWidth_xor, BitVec.setWidth_xor, BitVec.or_eq_zero_iff, BitVec.xor_eq_zero_iff, BitVec.xor_eq_zero_iff]
  by_cases q : ((x ^^^ u) ||| (y ^^^ w)).toBitVec.setWidth 8 = 0#8
  · rw [if_pos q, if_pos (e.mp q)]; rfl
  · rw [if_neg q, if_neg (fun z => q (e.mpr z))]; rfl
theorem d_method_3_0 : decode method_3_code 0 = .ok (.iload_n 0, 1) := by decide +kernel
theorem d_method_3_1 : decode method_3_code 1 = .ok (.iload_n 1, 1) := by decide +kernel
theorem d_method_3_2 : decode method_3_code 2 = .ok (.iushr, 1) := by decide +kernel
theorem d_method_3_3 : decode method_3_code 3 = .ok (.iconst 1, 1) := by decide +kernel
theorem d_method_3_4 : decode method_3_code 4 = .ok (.iand, 1) := by decide +kernel
theorem d_method_3_5 : decode method_3_code 5 = .ok (.ifCond .eq 6, 3) := by decide +kernel
theorem d_method_3_11 : decode method_3_code 11 = .ok (.iload_n 3, 1) := by decide +kernel
theorem d_method_3_12 : decode method_3_code 12 = .ok (.iload 4, 2) := by decide +kernel
theorem d_method_3_14 : decode method_3_code 14 = .ok (.iushr, 1) := by decide +kernel
theorem d_method_3_15 : decode method_3_code 15 = .ok (.i2b, 1) := by decide +kernel
theorem d_method_3_16 : decode method_3_code 16 = .ok (.ireturn, 1) := by decide +kernel
theorem d_method_3_8 : decode method_3_code 8 = .ok (.iload_n 2, 1) := by decide +kernel
theorem d_method_3_9 : decode method_3_code 9 = .ok (.i2b, 1) := by decide +kernel
theorem d_method_3_10 : decode method_3_code 10 = .ok (.ireturn, 1) := by decide +kernel
def R0 : Room := { frames := 0, cells := 0, slots := 0, locals := 0 }
def Q0 (Z : State) (ct : Int32) (bi : Int32) (fo : Int32) (pa : Int32) (sh : Int32) (h0 : Heap) (v : Option Value) (h : Heap) : Prop := ∃ r : Int32, v = some (.int r) ∧ (nar .byte r = r) ∧ h0 = h
theorem ef0 (ct : Int32) (bi : Int32) (fo : Int32) (pa : Int32) (sh : Int32) (m : MethodId) : entryFrame m #[(.int ct), (.int bi), (.int fo), (.int pa), (.int sh)] 5 = mkF m 0 #[.val (.int ct), .val (.int bi), .val (.int fo), .val (.int pa), .val (.int sh)] [] := by first | (simp [entryFrame, mkF, argsToLocals, Value.category]; done) | rfl
theorem pn_0 : plainName "com/example/ref_search/refsearch/matcher/BytesMarkPairPinLaw" = true := by first | (simp [plainName, overriddenIn]; done) | decide +kernel
set_option maxRecDepth 65536 in
set_option maxHeartbeats 40000000 in
theorem rm0 (l : Launch) (Z : State) (a0 : Array Value) (hw : ∀ d ∈ tables_1, d.before a0 Z = true) (ws : List Jvm.Cond) (ct : Int32) (bi : Int32) (fo : Int32) (pa : Int32) (sh : Int32) (h0 : Heap) (n0 : Nat) (Z0 : n0 ≤ h0.size) : OMet l Z ws (⟨"com/example/ref_search/refsearch/matcher/BytesMarkPairPinLaw", "pick", "(IIIII)B"⟩ : MethodName) method_3_code 5 (some .byte) R0 #[(.int ct), (.int bi), (.int fo), (.int pa), (.int sh)] h0 n0 (Q0 Z ct bi fo pa sh h0) := by
  refine OMet.of (plainFor_of_name pn_0) (ef0 ct bi fo pa sh) Z0 ?_
  intro p e s m below meth c T0 Y0 hnm
  have Y0 : Sd Z "com/example/ref_search/refsearch/matcher/BytesMarkPairPinLaw" method_3_code 5 (some .byte) n0 p l e R0 s m #[(.int ct), (.int bi), (.int fo), (.int pa), (.int sh)] below meth c T0 h0 0 0 := Y0
  refine Gl.iloadN Y0 rfl d_method_3_0 rfl ?_
  refine Gl.iloadN Y0 rfl d_method_3_1 rfl ?_
  refine Gl.iushr Y0 rfl d_method_3_2 rfl ?_
  refine Gl.iconst Y0 (v := (1 : Int32)) (by decide) d_method_3_3 rfl ?_
  refine Gl.iand Y0 rfl d_method_3_4 rfl ?_
  refine Gl.ifeq Y0 d_method_3_5 (by decide) rfl rfl (fun c5 => ?_) (fun c5 => ?_)
  · refine Gl.iloadN Y0 rfl d_method_3_11 rfl ?_
    refine Gl.iload Y0 rfl d_method_3_12 rfl ?_
    refine Gl.iushr Y0 rfl d_method_3_14 rfl ?_
    refine Gl.i2b Y0 rfl d_method_3_15 rfl ?_
    exact Gl.retB Y0 (by decide) (by decide) (x' := (((pa.toUInt32 >>> (sh &&& 31).toUInt32).toInt32).toInt8.toInt32)) (own_narB rfl) d_method_3_16 ⟨(((pa.toUInt32 >>> (sh &&& 31).toUInt32).toInt32).toInt8.toInt32), rfl, (own_narB rfl), rfl⟩
  · refine Gl.iloadN Y0 rfl d_method_3_8 rfl ?_
    refine Gl.i2b Y0 rfl d_method_3_9 rfl ?_
    exact Gl.retB Y0 (by decide) (by decide) (x' := fo.toInt8.toInt32) (own_narB rfl) d_method_3_10 ⟨fo.toInt8.toInt32, rfl, (own_narB rfl), rfl⟩
theorem d_prog_2_method_6_0 : decode prog_2_method_6_code 0 = .ok (.iconst 0, 1) := by decide +kernel
theorem d_prog_2_method_6_1 : decode prog_2_method_6_code 1 = .ok (.istore 5, 2) := by decide +kernel
theorem d_prog_2_method_6_3 : decode prog_2_method_6_code 3 = .ok (.iload 5, 2) := by decide +kernel
theorem d_prog_2_method_6_5 : decode prog_2_method_6_code 5 = .ok (.iload 4, 2) := by decide +kernel
theorem d_prog_2_method_6_7 : decode prog_2_method_6_code 7 = .ok (.if_icmp .ge 42, 3) := by decide +kernel
theorem d_prog_2_method_6_49 : decode prog_2_method_6_code 49 = .ok (.return_, 1) := by decide +kernel
def R1 : Room := { frames := 0, cells := 0, slots := 0, locals := 0 }
def Q1 (Z : State) (a : Addr) (le : Int32) (se : Int32) (ka : ClassId) (x0 : Int32) (x1 : Int32) (x2 : Int32) (b : Addr) (kb : ClassId) (y0 : Int32) (y1 : Int32) (y2 : Int32) (h0 : Heap) (v : Option Value) (h : Heap) : Prop := v = none ∧ Keep h0 h [a] ∧ Arv Z h a ka .byte (3 : Int32) [(.int x0), (.int x1), (.int x2)] (.int (0 : Int32))
theorem ef1 (a : Addr) (le : Int32) (se : Int32) (b : Addr) (m : MethodId) : entryFrame m #[(.ref a), (.int le), (.ref b), (.int se), (.int (0 : Int32))] 7 = mkF m 0 #[.val (.ref a), .val (.int le), .val (.ref b), .val (.int se), .val (.int (0 : Int32)), .unset, .unset] [] := by first | (simp [entryFrame, mkF, argsToLocals, Value.category]; done) | rfl
theorem pn_1 : plainName "com/example/ref_search/refsearch/matcher/BulkSymbols$Bytes" = true := by first | (simp [plainName, overriddenIn]; done) | decide +kernel
set_option maxRecDepth 65536 in
set_option maxHeartbeats 40000000 in
theorem rm1 (l : Launch) (Z : State) (a0 : Array Value) (hw : ∀ d ∈ tables_1, d.before a0 Z = true) (ws : List Jvm.Cond) (a : Addr) (le : Int32) (se : Int32) (ka : ClassId) (x0 : Int32) (x1 : Int32) (x2 : Int32) (b : Addr) (kb : ClassId) (y0 : Int32) (y1 : Int32) (y2 : Int32) (h0 : Heap) (n0 : Nat) (Z0 : n0 ≤ h0.size) (V : Arv Z h0 a ka .byte (3 : Int32) [(.int x0), (.int x1), (.int x2)] (.int (0 : Int32))) (ga : n0 ≤ a) (V2 : Arv Z h0 b kb .byte (3 : Int32) [(.int y0), (.int y1), (.int y2)] (.int (0 : Int32))) (nab : a ≠ b) : OMet l Z ws (⟨"com/example/ref_search/refsearch/matcher/BulkSymbols$Bytes", "markPair", "([BI[BII)V"⟩ : MethodName) prog_2_method_6_code 7 none R1 #[(.ref a), (.int le), (.ref b), (.int se), (.int (0 : Int32))] h0 n0 (Q1 Z a le se ka x0 x1 x2 b kb y0 y1 y2 h0) := by
  refine OMet.of (plainFor_of_name pn_1) (ef1 a le se b) Z0 ?_
  intro p e s m below meth c T0 Y0 hnm
  have Y0 : Sd Z "com/example/ref_search/refsearch/matcher/BulkSymbols$Bytes" prog_2_method_6_code 7 none n0 p l e R1 s m #[(.ref a), (.int le), (.ref b), (.int se), (.int (0 : Int32))] below meth c T0 h0 0 0 := Y0
  refine Gl.iconst Y0 (v := (0 : Int32)) (by decide) d_prog_2_method_6_0 rfl ?_
  refine Gl.istore Y0 (L' := #[.val (.ref a), .val (.int le), .val (.ref b), .val (.int se), .val (.int (0 : Int32)), .val (.int (0 : Int32)), .unset]) rfl d_prog_2_method_6_1 rfl ?_
  refine Gl.iload Y0 rfl d_prog_2_method_6_3 rfl ?_
  refine Gl.iload Y0 rfl d_prog_2_method_6_5 rfl ?_
  refine Gl.icmpge Y0 d_prog_2_method_6_7 (by decide) rfl rfl (fun c7 => ?_) (fun c7 => ?_)
  rotate_left
  · exact absurd c7 (by decide)
  exact Gl.retV Y0 (by decide) (by decide)  d_prog_2_method_6_49 ⟨rfl, (Keep.refl h0 [a]), V⟩
theorem d_prog_2_method_6_10 : decode prog_2_method_6_code 10 = .ok (.aload_n 0, 1) := by decide +kernel
theorem d_prog_2_method_6_11 : decode prog_2_method_6_code 11 = .ok (.iload 5, 2) := by decide +kernel
theorem d_prog_2_method_6_13 : decode prog_2_method_6_code 13 = .ok (.baload, 1) := by decide +kernel
theorem d_prog_2_method_6_14 : decode prog_2_method_6_code 14 = .ok (.iload_n 1, 1) := by decide +kernel
theorem d_prog_2_method_6_15 : decode prog_2_method_6_code 15 = .ok (.ixor, 1) := by decide +kernel
theorem d_prog_2_method_6_16 : decode prog_2_method_6_code 16 = .ok (.aload_n 2, 1) := by decide +kernel
theorem d_prog_2_method_6_17 : decode prog_2_method_6_code 17 = .ok (.iload 5, 2) := by decide +kernel
theorem d_prog_2_method_6_19 : decode prog_2_method_6_code 19 = .ok (.baload, 1) := by decide +kernel
theorem d_prog_2_method_6_20 : decode prog_2_method_6_code 20 = .ok (.iload_n 3, 1) := by decide +kernel
theorem d_prog_2_method_6_21 : decode prog_2_method_6_code 21 = .ok (.ixor, 1) := by decide +kernel
theorem d_prog_2_method_6_22 : decode prog_2_method_6_code 22 = .ok (.ior, 1) := by decide +kernel
theorem d_prog_2_method_6_23 : decode prog_2_method_6_code 23 = .ok (.istore 6, 2) := by decide +kernel
theorem d_prog_2_method_6_25 : decode prog_2_method_6_code 25 = .ok (.aload_n 0, 1) := by decide +kernel
theorem d_prog_2_method_6_26 : decode prog_2_method_6_code 26 = .ok (.iload 5, 2) := by decide +kernel
theorem d_prog_2_method_6_28 : decode prog_2_method_6_code 28 = .ok (.iload 6, 2) := by decide +kernel
theorem d_prog_2_method_6_30 : decode prog_2_method_6_code 30 = .ok (.iconst 1, 1) := by decide +kernel
theorem d_prog_2_method_6_31 : decode prog_2_method_6_code 31 = .ok (.isub, 1) := by decide +kernel
theorem d_prog_2_method_6_32 : decode prog_2_method_6_code 32 = .ok (.iload 6, 2) := by decide +kernel
theorem d_prog_2_method_6_34 : decode prog_2_method_6_code 34 = .ok (.iconst (-1), 1) := by decide +kernel
theorem d_prog_2_method_6_35 : decode prog_2_method_6_code 35 = .ok (.ixor, 1) := by decide +kernel
theorem d_prog_2_method_6_36 : decode prog_2_method_6_code 36 = .ok (.iand, 1) := by decide +kernel
theorem d_prog_2_method_6_37 : decode prog_2_method_6_code 37 = .ok (.sipush 128, 3) := by decide +kernel
theorem d_prog_2_method_6_40 : decode prog_2_method_6_code 40 = .ok (.iand, 1) := by decide +kernel
theorem d_prog_2_method_6_41 : decode prog_2_method_6_code 41 = .ok (.i2b, 1) := by decide +kernel
theorem d_prog_2_method_6_42 : decode prog_2_method_6_code 42 = .ok (.bastore, 1) := by decide +kernel
theorem d_prog_2_method_6_43 : decode prog_2_method_6_code 43 = .ok (.iinc 5 1, 3) := by decide +kernel
theorem d_prog_2_method_6_46 : decode prog_2_method_6_code 46 = .ok (.goto (-43), 3) := by decide +kernel
def R2 : Room := { frames := 0, cells := 0, slots := 0, locals := 0 }
def Q2 (Z : State) (a : Addr) (le : Int32) (se : Int32) (ka : ClassId) (x0 : Int32) (x1 : Int32) (x2 : Int32) (b : Addr) (kb : ClassId) (y0 : Int32) (y1 : Int32) (y2 : Int32) (h0 : Heap) (v : Option Value) (h : Heap) : Prop := v = none ∧ Keep h0 h [a] ∧ Arv Z h a ka .byte (3 : Int32) [(.int (own_mark x0 le y0 se)), (.int x1), (.int x2)] (.int (0 : Int32))
theorem ef2 (a : Addr) (le : Int32) (se : Int32) (b : Addr) (m : MethodId) : entryFrame m #[(.ref a), (.int le), (.ref b), (.int se), (.int (1 : Int32))] 7 = mkF m 0 #[.val (.ref a), .val (.int le), .val (.ref b), .val (.int se), .val (.int (1 : Int32)), .unset, .unset] [] := by first | (simp [entryFrame, mkF, argsToLocals, Value.category]; done) | rfl
set_option maxRecDepth 65536 in
set_option maxHeartbeats 40000000 in
theorem rm2 (l : Launch) (Z : State) (a0 : Array Value) (hw : ∀ d ∈ tables_1, d.before a0 Z = true) (ws : List Jvm.Cond) (a : Addr) (le : Int32) (se : Int32) (ka : ClassId) (x0 : Int32) (x1 : Int32) (x2 : Int32) (b : Addr) (kb : ClassId) (y0 : Int32) (y1 : Int32) (y2 : Int32) (h0 : Heap) (n0 : Nat) (Z0 : n0 ≤ h0.size) (V : Arv Z h0 a ka .byte (3 : Int32) [(.int x0), (.int x1), (.int x2)] (.int (0 : Int32))) (ga : n0 ≤ a) (V2 : Arv Z h0 b kb .byte (3 : Int32) [(.int y0), (.int y1), (.int y2)] (.int (0 : Int32))) (nab : a ≠ b) : OMet l Z ws (⟨"com/example/ref_search/refsearch/matcher/BulkSymbols$Bytes", "markPair", "([BI[BII)V"⟩ : MethodName) prog_2_method_6_code 7 none R2 #[(.ref a), (.int le), (.ref b), (.int se), (.int (1 : Int32))] h0 n0 (Q2 Z a le se ka x0 x1 x2 b kb y0 y1 y2 h0) := by
  refine OMet.of (plainFor_of_name pn_1) (ef2 a le se b) Z0 ?_
  intro p e s m below meth c T0 Y0 hnm
  have Y0 : Sd Z "com/example/ref_search/refsearch/matcher/BulkSymbols$Bytes" prog_2_method_6_code 7 none n0 p l e R2 s m #[(.ref a), (.int le), (.ref b), (.int se), (.int (1 : Int32))] below meth c T0 h0 0 0 := Y0
  refine Gl.iconst Y0 (v := (0 : Int32)) (by decide) d_prog_2_method_6_0 rfl ?_
  refine Gl.istore Y0 (L' := #[.val (.ref a), .val (.int le), .val (.ref b), .val (.int se), .val (.int (1 : Int32)), .val (.int (0 : Int32)), .unset]) rfl d_prog_2_method_6_1 rfl ?_
  refine Gl.iload Y0 rfl d_prog_2_method_6_3 rfl ?_
  refine Gl.iload Y0 rfl d_prog_2_method_6_5 rfl ?_
  refine Gl.icmpge Y0 d_prog_2_method_6_7 (by decide) rfl rfl (fun c7 => ?_) (fun c7 => ?_)
  · exact absurd c7 (by decide)
  refine Gl.aloadN Y0 rfl rfl d_prog_2_method_6_10 rfl ?_
  refine Gl.iload Y0 rfl d_prog_2_method_6_11 rfl ?_
  refine Gl.baload Y0 V ⟨by decide, by decide⟩ (v := (.int x0)) rfl d_prog_2_method_6_13 rfl ?_
  refine Gl.iloadN Y0 rfl d_prog_2_method_6_14 rfl ?_
  refine Gl.ixor Y0 rfl d_prog_2_method_6_15 rfl ?_
  refine Gl.aloadN Y0 rfl rfl d_prog_2_method_6_16 rfl ?_
  refine Gl.iload Y0 rfl d_prog_2_method_6_17 rfl ?_
  refine Gl.baload Y0 V2 ⟨by decide, by decide⟩ (v := (.int y0)) rfl d_prog_2_method_6_19 rfl ?_
  refine Gl.iloadN Y0 rfl d_prog_2_method_6_20 rfl ?_
  refine Gl.ixor Y0 rfl d_prog_2_method_6_21 rfl ?_
  refine Gl.ior Y0 rfl d_prog_2_method_6_22 rfl ?_
  refine Gl.istore Y0 (L' := #[.val (.ref a), .val (.int le), .val (.ref b), .val (.int se), .val (.int (1 : Int32)), .val (.int (0 : Int32)), .val (.int ((x0 ^^^ le) ||| (y0 ^^^ se)))]) rfl d_prog_2_method_6_23 rfl ?_
  refine Gl.aloadN Y0 rfl rfl d_prog_2_method_6_25 rfl ?_
  refine Gl.iload Y0 rfl d_prog_2_method_6_26 rfl ?_
  refine Gl.iload Y0 rfl d_prog_2_method_6_28 rfl ?_
  refine Gl.iconst Y0 (v := (1 : Int32)) (by decide) d_prog_2_method_6_30 rfl ?_
  refine Gl.isub Y0 rfl d_prog_2_method_6_31 rfl ?_
  refine Gl.iload Y0 rfl d_prog_2_method_6_32 rfl ?_
  refine Gl.iconst Y0 (v := (-1 : Int32)) (by decide) d_prog_2_method_6_34 rfl ?_
  refine Gl.ixor Y0 rfl d_prog_2_method_6_35 rfl ?_
  refine Gl.iand Y0 rfl d_prog_2_method_6_36 rfl ?_
  refine Gl.sipush Y0 (v := (128 : Int32)) (by decide) d_prog_2_method_6_37 rfl ?_
  refine Gl.iand Y0 rfl d_prog_2_method_6_40 rfl ?_
  refine Gl.i2b Y0 rfl d_prog_2_method_6_41 rfl ?_
  refine Gl.bastore Y0 V (v := (.int ((((((x0 ^^^ le) ||| (y0 ^^^ se)) - (1 : Int32)) &&& (((x0 ^^^ le) ||| (y0 ^^^ se)) ^^^ (-1 : Int32))) &&& (128 : Int32)).toInt8.toInt32))) (congrArg Value.int (own_narB rfl)) ⟨by decide, by decide⟩ (ix := 0) rfl (Nat.le_of_ble_eq_true rfl) ga d_prog_2_method_6_42 rfl (fun T42 h42 Y42 W42 A42 => ?_)
  have A42 : Arv Z h42 a ka .byte (3 : Int32) [(.int ((((((x0 ^^^ le) ||| (y0 ^^^ se)) - (1 : Int32)) &&& (((x0 ^^^ le) ||| (y0 ^^^ se)) ^^^ (-1 : Int32))) &&& (128 : Int32)).toInt8.toInt32)), (.int x1), (.int x2)] (.int (0 : Int32)) := A42
  have K42 : Keep h0 h42 [a] := (Keep.refl h0 [a]).wr W42 (Or.inl (List.mem_of_getElem? (i := 0) rfl))
  show Gl p e below _ (T42.setTop (mkF m 43 #[.val (.ref a), .val (.int le), .val (.ref b), .val (.int se), .val (.int (1 : Int32)), .val (.int (0 : Int32)), .val (.int ((x0 ^^^ le) ||| (y0 ^^^ se)))] []))
  refine Gl.iinc Y42 rfl (r := (1 : Int32)) (by decide) (L' := #[.val (.ref a), .val (.int le), .val (.ref b), .val (.int se), .val (.int (1 : Int32)), .val (.int (1 : Int32)), .val (.int ((x0 ^^^ le) ||| (y0 ^^^ se)))]) rfl d_prog_2_method_6_43 rfl ?_
  refine Gl.goto Y42 d_prog_2_method_6_46 (by decide) rfl ?_
  refine Gl.iload Y42 rfl d_prog_2_method_6_3 rfl ?_
  refine Gl.iload Y42 rfl d_prog_2_method_6_5 rfl ?_
  refine Gl.icmpge Y42 d_prog_2_method_6_7 (by decide) rfl rfl (fun c7_2 => ?_) (fun c7_2 => ?_)
  rotate_left
  · exact absurd c7_2 (by decide)
  exact Gl.retV Y42 (by decide) (by decide)  d_prog_2_method_6_49 ⟨rfl, K42, A42⟩
def R3 : Room := { frames := 0, cells := 0, slots := 0, locals := 0 }
def Q3 (Z : State) (a : Addr) (le : Int32) (se : Int32) (ka : ClassId) (x0 : Int32) (x1 : Int32) (x2 : Int32) (b : Addr) (kb : ClassId) (y0 : Int32) (y1 : Int32) (y2 : Int32) (h0 : Heap) (v : Option Value) (h : Heap) : Prop := v = none ∧ Keep h0 h [a] ∧ Arv Z h a ka .byte (3 : Int32) [(.int (own_mark x0 le y0 se)), (.int (own_mark x1 le y1 se)), (.int x2)] (.int (0 : Int32))
theorem ef3 (a : Addr) (le : Int32) (se : Int32) (b : Addr) (m : MethodId) : entryFrame m #[(.ref a), (.int le), (.ref b), (.int se), (.int (2 : Int32))] 7 = mkF m 0 #[.val (.ref a), .val (.int le), .val (.ref b), .val (.int se), .val (.int (2 : Int32)), .unset, .unset] [] := by first | (simp [entryFrame, mkF, argsToLocals, Value.category]; done) | rfl
set_option maxRecDepth 65536 in
set_option maxHeartbeats 40000000 in
theorem rm3 (l : Launch) (Z : State) (a0 : Array Value) (hw : ∀ d ∈ tables_1, d.before a0 Z = true) (ws : List Jvm.Cond) (a : Addr) (le : Int32) (se : Int32) (ka : ClassId) (x0 : Int32) (x1 : Int32) (x2 : Int32) (b : Addr) (kb : ClassId) (y0 : Int32) (y1 : Int32) (y2 : Int32) (h0 : Heap) (n0 : Nat) (Z0 : n0 ≤ h0.size) (V : Arv Z h0 a ka .byte (3 : Int32) [(.int x0), (.int x1), (.int x2)] (.int (0 : Int32))) (ga : n0 ≤ a) (V2 : Arv Z h0 b kb .byte (3 : Int32) [(.int y0), (.int y1), (.int y2)] (.int (0 : Int32))) (nab : a ≠ b) : OMet l Z ws (⟨"com/example/ref_search/refsearch/matcher/BulkSymbols$Bytes", "markPair", "([BI[BII)V"⟩ : MethodName) prog_2_method_6_code 7 none R3 #[(.ref a), (.int le), (.ref b), (.int se), (.int (2 : Int32))] h0 n0 (Q3 Z a le se ka x0 x1 x2 b kb y0 y1 y2 h0) := by
  refine OMet.of (plainFor_of_name pn_1) (ef3 a le se b) Z0 ?_
  intro p e s m below meth c T0 Y0 hnm
  have Y0 : Sd Z "com/example/ref_search/refsearch/matcher/BulkSymbols$Bytes" prog_2_method_6_code 7 none n0 p l e R3 s m #[(.ref a), (.int le), (.ref b), (.int se), (.int (2 : Int32))] below meth c T0 h0 0 0 := Y0
  refine Gl.iconst Y0 (v := (0 : Int32)) (by decide) d_prog_2_method_6_0 rfl ?_
  refine Gl.istore Y0 (L' := #[.val (.ref a), .val (.int le), .val (.ref b), .val (.int se), .val (.int (2 : Int32)), .val (.int (0 : Int32)), .unset]) rfl d_prog_2_method_6_1 rfl ?_
  refine Gl.iload Y0 rfl d_prog_2_method_6_3 rfl ?_
  refine Gl.iload Y0 rfl d_prog_2_method_6_5 rfl ?_
  refine Gl.icmpge Y0 d_prog_2_method_6_7 (by decide) rfl rfl (fun c7 => ?_) (fun c7 => ?_)
  · exact absurd c7 (by decide)
  refine Gl.aloadN Y0 rfl rfl d_prog_2_method_6_10 rfl ?_
  refine Gl.iload Y0 rfl d_prog_2_method_6_11 rfl ?_
  refine Gl.baload Y0 V ⟨by decide, by decide⟩ (v := (.int x0)) rfl d_prog_2_method_6_13 rfl ?_
  refine Gl.iloadN Y0 rfl d_prog_2_method_6_14 rfl ?_
  refine Gl.ixor Y0 rfl d_prog_2_method_6_15 rfl ?_
  refine Gl.aloadN Y0 rfl rfl d_prog_2_method_6_16 rfl ?_
  refine Gl.iload Y0 rfl d_prog_2_method_6_17 rfl ?_
  refine Gl.baload Y0 V2 ⟨by decide, by decide⟩ (v := (.int y0)) rfl d_prog_2_method_6_19 rfl ?_
  refine Gl.iloadN Y0 rfl d_prog_2_method_6_20 rfl ?_
  refine Gl.ixor Y0 rfl d_prog_2_method_6_21 rfl ?_
  refine Gl.ior Y0 rfl d_prog_2_method_6_22 rfl ?_
  refine Gl.istore Y0 (L' := #[.val (.ref a), .val (.int le), .val (.ref b), .val (.int se), .val (.int (2 : Int32)), .val (.int (0 : Int32)), .val (.int ((x0 ^^^ le) ||| (y0 ^^^ se)))]) rfl d_prog_2_method_6_23 rfl ?_
  refine Gl.aloadN Y0 rfl rfl d_prog_2_method_6_25 rfl ?_
  refine Gl.iload Y0 rfl d_prog_2_method_6_26 rfl ?_
  refine Gl.iload Y0 rfl d_prog_2_method_6_28 rfl ?_
  refine Gl.iconst Y0 (v := (1 : Int32)) (by decide) d_prog_2_method_6_30 rfl ?_
  refine Gl.isub Y0 rfl d_prog_2_method_6_31 rfl ?_
  refine Gl.iload Y0 rfl d_prog_2_method_6_32 rfl ?_
  refine Gl.iconst Y0 (v := (-1 : Int32)) (by decide) d_prog_2_method_6_34 rfl ?_
  refine Gl.ixor Y0 rfl d_prog_2_method_6_35 rfl ?_
  refine Gl.iand Y0 rfl d_prog_2_method_6_36 rfl ?_
  refine Gl.sipush Y0 (v := (128 : Int32)) (by decide) d_prog_2_method_6_37 rfl ?_
  refine Gl.iand Y0 rfl d_prog_2_method_6_40 rfl ?_
  refine Gl.i2b Y0 rfl d_prog_2_method_6_41 rfl ?_
  refine Gl.bastore Y0 V (v := (.int ((((((x0 ^^^ le) ||| (y0 ^^^ se)) - (1 : Int32)) &&& (((x0 ^^^ le) ||| (y0 ^^^ se)) ^^^ (-1 : Int32))) &&& (128 : Int32)).toInt8.toInt32))) (congrArg Value.int (own_narB rfl)) ⟨by decide, by decide⟩ (ix := 0) rfl (Nat.le_of_ble_eq_true rfl) ga d_prog_2_method_6_42 rfl (fun T42 h42 Y42 W42 A42 => ?_)
  have A42 : Arv Z h42 a ka .byte (3 : Int32) [(.int ((((((x0 ^^^ le) ||| (y0 ^^^ se)) - (1 : Int32)) &&& (((x0 ^^^ le) ||| (y0 ^^^ se)) ^^^ (-1 : Int32))) &&& (128 : Int32)).toInt8.toInt32)), (.int x1), (.int x2)] (.int (0 : Int32)) := A42
  have K42 : Keep h0 h42 [a] := (Keep.refl h0 [a]).wr W42 (Or.inl (List.mem_of_getElem? (i := 0) rfl))
  show Gl p e below _ (T42.setTop (mkF m 43 #[.val (.ref a), .val (.int le), .val (.ref b), .val (.int se), .val (.int (2 : Int32)), .val (.int (0 : Int32)), .val (.int ((x0 ^^^ le) ||| (y0 ^^^ se)))] []))
  refine Gl.iinc Y42 rfl (r := (1 : Int32)) (by decide) (L' := #[.val (.ref a), .val (.int le), .val (.ref b), .val (.int se), .val (.int (2 : Int32)), .val (.int (1 : Int32)), .val (.int ((x0 ^^^ le) ||| (y0 ^^^ se)))]) rfl d_prog_2_method_6_43 rfl ?_
  refine Gl.goto Y42 d_prog_2_method_6_46 (by decide) rfl ?_
  refine Gl.iload Y42 rfl d_prog_2_method_6_3 rfl ?_
  refine Gl.iload Y42 rfl d_prog_2_method_6_5 rfl ?_
  refine Gl.icmpge Y42 d_prog_2_method_6_7 (by decide) rfl rfl (fun c7_2 => ?_) (fun c7_2 => ?_)
  · exact absurd c7_2 (by decide)
  refine Gl.aloadN Y42 rfl rfl d_prog_2_method_6_10 rfl ?_
  refine Gl.iload Y42 rfl d_prog_2_method_6_11 rfl ?_
  refine Gl.baload Y42 A42 ⟨by decide, by decide⟩ (v := (.int x1)) rfl d_prog_2_method_6_13 rfl ?_
  refine Gl.iloadN Y42 rfl d_prog_2_method_6_14 rfl ?_
  refine Gl.ixor Y42 rfl d_prog_2_method_6_15 rfl ?_
  refine Gl.aloadN Y42 rfl rfl d_prog_2_method_6_16 rfl ?_
  refine Gl.iload Y42 rfl d_prog_2_method_6_17 rfl ?_
  have f1 : Arv Z h42 b kb .byte (3 : Int32) [(.int y0), (.int y1), (.int y2)] (.int (0 : Int32)) := (V2.other W42 (Ne.symm nab))
  refine Gl.baload Y42 f1 ⟨by decide, by decide⟩ (v := (.int y1)) rfl d_prog_2_method_6_19 rfl ?_
  refine Gl.iloadN Y42 rfl d_prog_2_method_6_20 rfl ?_
  refine Gl.ixor Y42 rfl d_prog_2_method_6_21 rfl ?_
  refine Gl.ior Y42 rfl d_prog_2_method_6_22 rfl ?_
  refine Gl.istore Y42 (L' := #[.val (.ref a), .val (.int le), .val (.ref b), .val (.int se), .val (.int (2 : Int32)), .val (.int (1 : Int32)), .val (.int ((x1 ^^^ le) ||| (y1 ^^^ se)))]) rfl d_prog_2_method_6_23 rfl ?_
  refine Gl.aloadN Y42 rfl rfl d_prog_2_method_6_25 rfl ?_
  refine Gl.iload Y42 rfl d_prog_2_method_6_26 rfl ?_
  refine Gl.iload Y42 rfl d_prog_2_method_6_28 rfl ?_
  refine Gl.iconst Y42 (v := (1 : Int32)) (by decide) d_prog_2_method_6_30 rfl ?_
  refine Gl.isub Y42 rfl d_prog_2_method_6_31 rfl ?_
  refine Gl.iload Y42 rfl d_prog_2_method_6_32 rfl ?_
  refine Gl.iconst Y42 (v := (-1 : Int32)) (by decide) d_prog_2_method_6_34 rfl ?_
  refine Gl.ixor Y42 rfl d_prog_2_method_6_35 rfl ?_
  refine Gl.iand Y42 rfl d_prog_2_method_6_36 rfl ?_
  refine Gl.sipush Y42 (v := (128 : Int32)) (by decide) d_prog_2_method_6_37 rfl ?_
  refine Gl.iand Y42 rfl d_prog_2_method_6_40 rfl ?_
  refine Gl.i2b Y42 rfl d_prog_2_method_6_41 rfl ?_
  refine Gl.bastore Y42 A42 (v := (.int ((((((x1 ^^^ le) ||| (y1 ^^^ se)) - (1 : Int32)) &&& (((x1 ^^^ le) ||| (y1 ^^^ se)) ^^^ (-1 : Int32))) &&& (128 : Int32)).toInt8.toInt32))) (congrArg Value.int (own_narB rfl)) ⟨by decide, by decide⟩ (ix := 1) rfl (Nat.le_of_ble_eq_true rfl) ga d_prog_2_method_6_42 rfl (fun T42_2 h42_2 Y42_2 W42_2 A42_2 => ?_)
  have A42_2 : Arv Z h42_2 a ka .byte (3 : Int32) [(.int ((((((x0 ^^^ le) ||| (y0 ^^^ se)) - (1 : Int32)) &&& (((x0 ^^^ le) ||| (y0 ^^^ se)) ^^^ (-1 : Int32))) &&& (128 : Int32)).toInt8.toInt32)), (.int ((((((x1 ^^^ le) ||| (y1 ^^^ se)) - (1 : Int32)) &&& (((x1 ^^^ le) ||| (y1 ^^^ se)) ^^^ (-1 : Int32))) &&& (128 : Int32)).toInt8.toInt32)), (.int x2)] (.int (0 : Int32)) := A42_2
  have K42_2 : Keep h0 h42_2 [a] := K42.wr W42_2 (Or.inl (List.mem_of_getElem? (i := 0) rfl))
  show Gl p e below _ (T42_2.setTop (mkF m 43 #[.val (.ref a), .val (.int le), .val (.ref b), .val (.int se), .val (.int (2 : Int32)), .val (.int (1 : Int32)), .val (.int ((x1 ^^^ le) ||| (y1 ^^^ se)))] []))
  refine Gl.iinc Y42_2 rfl (r := (2 : Int32)) (by decide) (L' := #[.val (.ref a), .val (.int le), .val (.ref b), .val (.int se), .val (.int (2 : Int32)), .val (.int (2 : Int32)), .val (.int ((x1 ^^^ le) ||| (y1 ^^^ se)))]) rfl d_prog_2_method_6_43 rfl ?_
  refine Gl.goto Y42_2 d_prog_2_method_6_46 (by decide) rfl ?_
  refine Gl.iload Y42_2 rfl d_prog_2_method_6_3 rfl ?_
  refine Gl.iload Y42_2 rfl d_prog_2_method_6_5 rfl ?_
  refine Gl.icmpge Y42_2 d_prog_2_method_6_7 (by decide) rfl rfl (fun c7_3 => ?_) (fun c7_3 => ?_)
  rotate_left
  · exact absurd c7_3 (by decide)
  exact Gl.retV Y42_2 (by decide) (by decide)  d_prog_2_method_6_49 ⟨rfl, K42_2, A42_2⟩
def R4 : Room := { frames := 0, cells := 0, slots := 0, locals := 0 }
def Q4 (Z : State) (a : Addr) (le : Int32) (se : Int32) (ka : ClassId) (x0 : Int32) (x1 : Int32) (x2 : Int32) (b : Addr) (kb : ClassId) (y0 : Int32) (y1 : Int32) (y2 : Int32) (h0 : Heap) (v : Option Value) (h : Heap) : Prop := v = none ∧ Keep h0 h [a] ∧ Arv Z h a ka .byte (3 : Int32) [(.int (own_mark x0 le y0 se)), (.int (own_mark x1 le y1 se)), (.int (own_mark x2 le y2 se))] (.int (0 : Int32))
theorem ef4 (a : Addr) (le : Int32) (se : Int32) (b : Addr) (m : MethodId) : entryFrame m #[(.ref a), (.int le), (.ref b), (.int se), (.int (3 : Int32))] 7 = mkF m 0 #[.val (.ref a), .val (.int le), .val (.ref b), .val (.int se), .val (.int (3 : Int32)), .unset, .unset] [] := by first | (simp [entryFrame, mkF, argsToLocals, Value.category]; done) | rfl
set_option maxRecDepth 65536 in
set_option maxHeartbeats 40000000 in
theorem rm4 (l : Launch) (Z : State) (a0 : Array Value) (hw : ∀ d ∈ tables_1, d.before a0 Z = true) (ws : List Jvm.Cond) (a : Addr) (le : Int32) (se : Int32) (ka : ClassId) (x0 : Int32) (x1 : Int32) (x2 : Int32) (b : Addr) (kb : ClassId) (y0 : Int32) (y1 : Int32) (y2 : Int32) (h0 : Heap) (n0 : Nat) (Z0 : n0 ≤ h0.size) (V : Arv Z h0 a ka .byte (3 : Int32) [(.int x0), (.int x1), (.int x2)] (.int (0 : Int32))) (ga : n0 ≤ a) (V2 : Arv Z h0 b kb .byte (3 : Int32) [(.int y0), (.int y1), (.int y2)] (.int (0 : Int32))) (nab : a ≠ b) : OMet l Z ws (⟨"com/example/ref_search/refsearch/matcher/BulkSymbols$Bytes", "markPair", "([BI[BII)V"⟩ : MethodName) prog_2_method_6_code 7 none R4 #[(.ref a), (.int le), (.ref b), (.int se), (.int (3 : Int32))] h0 n0 (Q4 Z a le se ka x0 x1 x2 b kb y0 y1 y2 h0) := by
  refine OMet.of (plainFor_of_name pn_1) (ef4 a le se b) Z0 ?_
  intro p e s m below meth c T0 Y0 hnm
  have Y0 : Sd Z "com/example/ref_search/refsearch/matcher/BulkSymbols$Bytes" prog_2_method_6_code 7 none n0 p l e R4 s m #[(.ref a), (.int le), (.ref b), (.int se), (.int (3 : Int32))] below meth c T0 h0 0 0 := Y0
  refine Gl.iconst Y0 (v := (0 : Int32)) (by decide) d_prog_2_method_6_0 rfl ?_
  refine Gl.istore Y0 (L' := #[.val (.ref a), .val (.int le), .val (.ref b), .val (.int se), .val (.int (3 : Int32)), .val (.int (0 : Int32)), .unset]) rfl d_prog_2_method_6_1 rfl ?_
  refine Gl.iload Y0 rfl d_prog_2_method_6_3 rfl ?_
  refine Gl.iload Y0 rfl d_prog_2_method_6_5 rfl ?_
  refine Gl.icmpge Y0 d_prog_2_method_6_7 (by decide) rfl rfl (fun c7 => ?_) (fun c7 => ?_)
  · exact absurd c7 (by decide)
  refine Gl.aloadN Y0 rfl rfl d_prog_2_method_6_10 rfl ?_
  refine Gl.iload Y0 rfl d_prog_2_method_6_11 rfl ?_
  refine Gl.baload Y0 V ⟨by decide, by decide⟩ (v := (.int x0)) rfl d_prog_2_method_6_13 rfl ?_
  refine Gl.iloadN Y0 rfl d_prog_2_method_6_14 rfl ?_
  refine Gl.ixor Y0 rfl d_prog_2_method_6_15 rfl ?_
  refine Gl.aloadN Y0 rfl rfl d_prog_2_method_6_16 rfl ?_
  refine Gl.iload Y0 rfl d_prog_2_method_6_17 rfl ?_
  refine Gl.baload Y0 V2 ⟨by decide, by decide⟩ (v := (.int y0)) rfl d_prog_2_method_6_19 rfl ?_
  refine Gl.iloadN Y0 rfl d_prog_2_method_6_20 rfl ?_
  refine Gl.ixor Y0 rfl d_prog_2_method_6_21 rfl ?_
  refine Gl.ior Y0 rfl d_prog_2_method_6_22 rfl ?_
  refine Gl.istore Y0 (L' := #[.val (.ref a), .val (.int le), .val (.ref b), .val (.int se), .val (.int (3 : Int32)), .val (.int (0 : Int32)), .val (.int ((x0 ^^^ le) ||| (y0 ^^^ se)))]) rfl d_prog_2_method_6_23 rfl ?_
  refine Gl.aloadN Y0 rfl rfl d_prog_2_method_6_25 rfl ?_
  refine Gl.iload Y0 rfl d_prog_2_method_6_26 rfl ?_
  refine Gl.iload Y0 rfl d_prog_2_method_6_28 rfl ?_
  refine Gl.iconst Y0 (v := (1 : Int32)) (by decide) d_prog_2_method_6_30 rfl ?_
  refine Gl.isub Y0 rfl d_prog_2_method_6_31 rfl ?_
  refine Gl.iload Y0 rfl d_prog_2_method_6_32 rfl ?_
  refine Gl.iconst Y0 (v := (-1 : Int32)) (by decide) d_prog_2_method_6_34 rfl ?_
  refine Gl.ixor Y0 rfl d_prog_2_method_6_35 rfl ?_
  refine Gl.iand Y0 rfl d_prog_2_method_6_36 rfl ?_
  refine Gl.sipush Y0 (v := (128 : Int32)) (by decide) d_prog_2_method_6_37 rfl ?_
  refine Gl.iand Y0 rfl d_prog_2_method_6_40 rfl ?_
  refine Gl.i2b Y0 rfl d_prog_2_method_6_41 rfl ?_
  refine Gl.bastore Y0 V (v := (.int ((((((x0 ^^^ le) ||| (y0 ^^^ se)) - (1 : Int32)) &&& (((x0 ^^^ le) ||| (y0 ^^^ se)) ^^^ (-1 : Int32))) &&& (128 : Int32)).toInt8.toInt32))) (congrArg Value.int (own_narB rfl)) ⟨by decide, by decide⟩ (ix := 0) rfl (Nat.le_of_ble_eq_true rfl) ga d_prog_2_method_6_42 rfl (fun T42 h42 Y42 W42 A42 => ?_)
  have A42 : Arv Z h42 a ka .byte (3 : Int32) [(.int ((((((x0 ^^^ le) ||| (y0 ^^^ se)) - (1 : Int32)) &&& (((x0 ^^^ le) ||| (y0 ^^^ se)) ^^^ (-1 : Int32))) &&& (128 : Int32)).toInt8.toInt32)), (.int x1), (.int x2)] (.int (0 : Int32)) := A42
  have K42 : Keep h0 h42 [a] := (Keep.refl h0 [a]).wr W42 (Or.inl (List.mem_of_getElem? (i := 0) rfl))
  show Gl p e below _ (T42.setTop (mkF m 43 #[.val (.ref a), .val (.int le), .val (.ref b), .val (.int se), .val (.int (3 : Int32)), .val (.int (0 : Int32)), .val (.int ((x0 ^^^ le) ||| (y0 ^^^ se)))] []))
  refine Gl.iinc Y42 rfl (r := (1 : Int32)) (by decide) (L' := #[.val (.ref a), .val (.int le), .val (.ref b), .val (.int se), .val (.int (3 : Int32)), .val (.int (1 : Int32)), .val (.int ((x0 ^^^ le) ||| (y0 ^^^ se)))]) rfl d_prog_2_method_6_43 rfl ?_
  refine Gl.goto Y42 d_prog_2_method_6_46 (by decide) rfl ?_
  refine Gl.iload Y42 rfl d_prog_2_method_6_3 rfl ?_
  refine Gl.iload Y42 rfl d_prog_2_method_6_5 rfl ?_
  refine Gl.icmpge Y42 d_prog_2_method_6_7 (by decide) rfl rfl (fun c7_2 => ?_) (fun c7_2 => ?_)
  · exact absurd c7_2 (by decide)
  refine Gl.aloadN Y42 rfl rfl d_prog_2_method_6_10 rfl ?_
  refine Gl.iload Y42 rfl d_prog_2_method_6_11 rfl ?_
  refine Gl.baload Y42 A42 ⟨by decide, by decide⟩ (v := (.int x1)) rfl d_prog_2_method_6_13 rfl ?_
  refine Gl.iloadN Y42 rfl d_prog_2_method_6_14 rfl ?_
  refine Gl.ixor Y42 rfl d_prog_2_method_6_15 rfl ?_
  refine Gl.aloadN Y42 rfl rfl d_prog_2_method_6_16 rfl ?_
  refine Gl.iload Y42 rfl d_prog_2_method_6_17 rfl ?_
  have f1 : Arv Z h42 b kb .byte (3 : Int32) [(.int y0), (.int y1), (.int y2)] (.int (0 : Int32)) := (V2.other W42 (Ne.symm nab))
  refine Gl.baload Y42 f1 ⟨by decide, by decide⟩ (v := (.int y1)) rfl d_prog_2_method_6_19 rfl ?_
  refine Gl.iloadN Y42 rfl d_prog_2_method_6_20 rfl ?_
  refine Gl.ixor Y42 rfl d_prog_2_method_6_21 rfl ?_
  refine Gl.ior Y42 rfl d_prog_2_method_6_22 rfl ?_
  refine Gl.istore Y42 (L' := #[.val (.ref a), .val (.int le), .val (.ref b), .val (.int se), .val (.int (3 : Int32)), .val (.int (1 : Int32)), .val (.int ((x1 ^^^ le) ||| (y1 ^^^ se)))]) rfl d_prog_2_method_6_23 rfl ?_
  refine Gl.aloadN Y42 rfl rfl d_prog_2_method_6_25 rfl ?_
  refine Gl.iload Y42 rfl d_prog_2_method_6_26 rfl ?_
  refine Gl.iload Y42 rfl d_prog_2_method_6_28 rfl ?_
  refine Gl.iconst Y42 (v := (1 : Int32)) (by decide) d_prog_2_method_6_30 rfl ?_
  refine Gl.isub Y42 rfl d_prog_2_method_6_31 rfl ?_
  refine Gl.iload Y42 rfl d_prog_2_method_6_32 rfl ?_
  refine Gl.iconst Y42 (v := (-1 : Int32)) (by decide) d_prog_2_method_6_34 rfl ?_
  refine Gl.ixor Y42 rfl d_prog_2_method_6_35 rfl ?_
  refine Gl.iand Y42 rfl d_prog_2_method_6_36 rfl ?_
  refine Gl.sipush Y42 (v := (128 : Int32)) (by decide) d_prog_2_method_6_37 rfl ?_
  refine Gl.iand Y42 rfl d_prog_2_method_6_40 rfl ?_
  refine Gl.i2b Y42 rfl d_prog_2_method_6_41 rfl ?_
  refine Gl.bastore Y42 A42 (v := (.int ((((((x1 ^^^ le) ||| (y1 ^^^ se)) - (1 : Int32)) &&& (((x1 ^^^ le) ||| (y1 ^^^ se)) ^^^ (-1 : Int32))) &&& (128 : Int32)).toInt8.toInt32))) (congrArg Value.int (own_narB rfl)) ⟨by decide, by decide⟩ (ix := 1) rfl (Nat.le_of_ble_eq_true rfl) ga d_prog_2_method_6_42 rfl (fun T42_2 h42_2 Y42_2 W42_2 A42_2 => ?_)
  have A42_2 : Arv Z h42_2 a ka .byte (3 : Int32) [(.int ((((((x0 ^^^ le) ||| (y0 ^^^ se)) - (1 : Int32)) &&& (((x0 ^^^ le) ||| (y0 ^^^ se)) ^^^ (-1 : Int32))) &&& (128 : Int32)).toInt8.toInt32)), (.int ((((((x1 ^^^ le) ||| (y1 ^^^ se)) - (1 : Int32)) &&& (((x1 ^^^ le) ||| (y1 ^^^ se)) ^^^ (-1 : Int32))) &&& (128 : Int32)).toInt8.toInt32)), (.int x2)] (.int (0 : Int32)) := A42_2
  have K42_2 : Keep h0 h42_2 [a] := K42.wr W42_2 (Or.inl (List.mem_of_getElem? (i := 0) rfl))
  show Gl p e below _ (T42_2.setTop (mkF m 43 #[.val (.ref a), .val (.int le), .val (.ref b), .val (.int se), .val (.int (3 : Int32)), .val (.int (1 : Int32)), .val (.int ((x1 ^^^ le) ||| (y1 ^^^ se)))] []))
  refine Gl.iinc Y42_2 rfl (r := (2 : Int32)) (by decide) (L' := #[.val (.ref a), .val (.int le), .val (.ref b), .val (.int se), .val (.int (3 : Int32)), .val (.int (2 : Int32)), .val (.int ((x1 ^^^ le) ||| (y1 ^^^ se)))]) rfl d_prog_2_method_6_43 rfl ?_
  refine Gl.goto Y42_2 d_prog_2_method_6_46 (by decide) rfl ?_
  refine Gl.iload Y42_2 rfl d_prog_2_method_6_3 rfl ?_
  refine Gl.iload Y42_2 rfl d_prog_2_method_6_5 rfl ?_
  refine Gl.icmpge Y42_2 d_prog_2_method_6_7 (by decide) rfl rfl (fun c7_3 => ?_) (fun c7_3 => ?_)
  · exact absurd c7_3 (by decide)
  refine Gl.aloadN Y42_2 rfl rfl d_prog_2_method_6_10 rfl ?_
  refine Gl.iload Y42_2 rfl d_prog_2_method_6_11 rfl ?_
  refine Gl.baload Y42_2 A42_2 ⟨by decide, by decide⟩ (v := (.int x2)) rfl d_prog_2_method_6_13 rfl ?_
  refine Gl.iloadN Y42_2 rfl d_prog_2_method_6_14 rfl ?_
  refine Gl.ixor Y42_2 rfl d_prog_2_method_6_15 rfl ?_
  refine Gl.aloadN Y42_2 rfl rfl d_prog_2_method_6_16 rfl ?_
  refine Gl.iload Y42_2 rfl d_prog_2_method_6_17 rfl ?_
  have f2 : Arv Z h42_2 b kb .byte (3 : Int32) [(.int y0), (.int y1), (.int y2)] (.int (0 : Int32)) := (f1.other W42_2 (Ne.symm nab))
  refine Gl.baload Y42_2 f2 ⟨by decide, by decide⟩ (v := (.int y2)) rfl d_prog_2_method_6_19 rfl ?_
  refine Gl.iloadN Y42_2 rfl d_prog_2_method_6_20 rfl ?_
  refine Gl.ixor Y42_2 rfl d_prog_2_method_6_21 rfl ?_
  refine Gl.ior Y42_2 rfl d_prog_2_method_6_22 rfl ?_
  refine Gl.istore Y42_2 (L' := #[.val (.ref a), .val (.int le), .val (.ref b), .val (.int se), .val (.int (3 : Int32)), .val (.int (2 : Int32)), .val (.int ((x2 ^^^ le) ||| (y2 ^^^ se)))]) rfl d_prog_2_method_6_23 rfl ?_
  refine Gl.aloadN Y42_2 rfl rfl d_prog_2_method_6_25 rfl ?_
  refine Gl.iload Y42_2 rfl d_prog_2_method_6_26 rfl ?_
  refine Gl.iload Y42_2 rfl d_prog_2_method_6_28 rfl ?_
  refine Gl.iconst Y42_2 (v := (1 : Int32)) (by decide) d_prog_2_method_6_30 rfl ?_
  refine Gl.isub Y42_2 rfl d_prog_2_method_6_31 rfl ?_
  refine Gl.iload Y42_2 rfl d_prog_2_method_6_32 rfl ?_
  refine Gl.iconst Y42_2 (v := (-1 : Int32)) (by decide) d_prog_2_method_6_34 rfl ?_
  refine Gl.ixor Y42_2 rfl d_prog_2_method_6_35 rfl ?_
  refine Gl.iand Y42_2 rfl d_prog_2_method_6_36 rfl ?_
  refine Gl.sipush Y42_2 (v := (128 : Int32)) (by decide) d_prog_2_method_6_37 rfl ?_
  refine Gl.iand Y42_2 rfl d_prog_2_method_6_40 rfl ?_
  refine Gl.i2b Y42_2 rfl d_prog_2_method_6_41 rfl ?_
  refine Gl.bastore Y42_2 A42_2 (v := (.int ((((((x2 ^^^ le) ||| (y2 ^^^ se)) - (1 : Int32)) &&& (((x2 ^^^ le) ||| (y2 ^^^ se)) ^^^ (-1 : Int32))) &&& (128 : Int32)).toInt8.toInt32))) (congrArg Value.int (own_narB rfl)) ⟨by decide, by decide⟩ (ix := 2) rfl (Nat.le_of_ble_eq_true rfl) ga d_prog_2_method_6_42 rfl (fun T42_3 h42_3 Y42_3 W42_3 A42_3 => ?_)
  have A42_3 : Arv Z h42_3 a ka .byte (3 : Int32) [(.int ((((((x0 ^^^ le) ||| (y0 ^^^ se)) - (1 : Int32)) &&& (((x0 ^^^ le) ||| (y0 ^^^ se)) ^^^ (-1 : Int32))) &&& (128 : Int32)).toInt8.toInt32)), (.int ((((((x1 ^^^ le) ||| (y1 ^^^ se)) - (1 : Int32)) &&& (((x1 ^^^ le) ||| (y1 ^^^ se)) ^^^ (-1 : Int32))) &&& (128 : Int32)).toInt8.toInt32)), (.int ((((((x2 ^^^ le) ||| (y2 ^^^ se)) - (1 : Int32)) &&& (((x2 ^^^ le) ||| (y2 ^^^ se)) ^^^ (-1 : Int32))) &&& (128 : Int32)).toInt8.toInt32))] (.int (0 : Int32)) := A42_3
  have K42_3 : Keep h0 h42_3 [a] := K42_2.wr W42_3 (Or.inl (List.mem_of_getElem? (i := 0) rfl))
  show Gl p e below _ (T42_3.setTop (mkF m 43 #[.val (.ref a), .val (.int le), .val (.ref b), .val (.int se), .val (.int (3 : Int32)), .val (.int (2 : Int32)), .val (.int ((x2 ^^^ le) ||| (y2 ^^^ se)))] []))
  refine Gl.iinc Y42_3 rfl (r := (3 : Int32)) (by decide) (L' := #[.val (.ref a), .val (.int le), .val (.ref b), .val (.int se), .val (.int (3 : Int32)), .val (.int (3 : Int32)), .val (.int ((x2 ^^^ le) ||| (y2 ^^^ se)))]) rfl d_prog_2_method_6_43 rfl ?_
  refine Gl.goto Y42_3 d_prog_2_method_6_46 (by decide) rfl ?_
  refine Gl.iload Y42_3 rfl d_prog_2_method_6_3 rfl ?_
  refine Gl.iload Y42_3 rfl d_prog_2_method_6_5 rfl ?_
  refine Gl.icmpge Y42_3 d_prog_2_method_6_7 (by decide) rfl rfl (fun c7_4 => ?_) (fun c7_4 => ?_)
  rotate_left
  · exact absurd c7_4 (by decide)
  exact Gl.retV Y42_3 (by decide) (by decide)  d_prog_2_method_6_49 ⟨rfl, K42_3, A42_3⟩
def R5 : Room := { frames := 0, cells := 0, slots := 0, locals := 0 }
def Q5 (Z : State) (a : Addr) (le : Int32) (se : Int32) (ka : ClassId) (x0 : Int32) (x1 : Int32) (x2 : Int32) (h0 : Heap) (v : Option Value) (h : Heap) : Prop := v = none ∧ Keep h0 h [a] ∧ Arv Z h a ka .byte (3 : Int32) [(.int x0), (.int x1), (.int x2)] (.int (0 : Int32))
theorem ef5 (a : Addr) (le : Int32) (se : Int32) (m : MethodId) : entryFrame m #[(.ref a), (.int le), (.ref a), (.int se), (.int (0 : Int32))] 7 = mkF m 0 #[.val (.ref a), .val (.int le), .val (.ref a), .val (.int se), .val (.int (0 : Int32)), .unset, .unset] [] := by first | (simp [entryFrame, mkF, argsToLocals, Value.category]; done) | rfl
set_option maxRecDepth 65536 in
set_option maxHeartbeats 40000000 in
theorem rm5 (l : Launch) (Z : State) (a0 : Array Value) (hw : ∀ d ∈ tables_1, d.before a0 Z = true) (ws : List Jvm.Cond) (a : Addr) (le : Int32) (se : Int32) (ka : ClassId) (x0 : Int32) (x1 : Int32) (x2 : Int32) (h0 : Heap) (n0 : Nat) (Z0 : n0 ≤ h0.size) (V : Arv Z h0 a ka .byte (3 : Int32) [(.int x0), (.int x1), (.int x2)] (.int (0 : Int32))) (ga : n0 ≤ a) : OMet l Z ws (⟨"com/example/ref_search/refsearch/matcher/BulkSymbols$Bytes", "markPair", "([BI[BII)V"⟩ : MethodName) prog_2_method_6_code 7 none R5 #[(.ref a), (.int le), (.ref a), (.int se), (.int (0 : Int32))] h0 n0 (Q5 Z a le se ka x0 x1 x2 h0) := by
  refine OMet.of (plainFor_of_name pn_1) (ef5 a le se) Z0 ?_
  intro p e s m below meth c T0 Y0 hnm
  have Y0 : Sd Z "com/example/ref_search/refsearch/matcher/BulkSymbols$Bytes" prog_2_method_6_code 7 none n0 p l e R5 s m #[(.ref a), (.int le), (.ref a), (.int se), (.int (0 : Int32))] below meth c T0 h0 0 0 := Y0
  refine Gl.iconst Y0 (v := (0 : Int32)) (by decide) d_prog_2_method_6_0 rfl ?_
  refine Gl.istore Y0 (L' := #[.val (.ref a), .val (.int le), .val (.ref a), .val (.int se), .val (.int (0 : Int32)), .val (.int (0 : Int32)), .unset]) rfl d_prog_2_method_6_1 rfl ?_
  refine Gl.iload Y0 rfl d_prog_2_method_6_3 rfl ?_
  refine Gl.iload Y0 rfl d_prog_2_method_6_5 rfl ?_
  refine Gl.icmpge Y0 d_prog_2_method_6_7 (by decide) rfl rfl (fun c7 => ?_) (fun c7 => ?_)
  rotate_left
  · exact absurd c7 (by decide)
  exact Gl.retV Y0 (by decide) (by decide)  d_prog_2_method_6_49 ⟨rfl, (Keep.refl h0 [a]), V⟩
def R6 : Room := { frames := 0, cells := 0, slots := 0, locals := 0 }
def Q6 (Z : State) (a : Addr) (le : Int32) (se : Int32) (ka : ClassId) (x0 : Int32) (x1 : Int32) (x2 : Int32) (h0 : Heap) (v : Option Value) (h : Heap) : Prop := v = none ∧ Keep h0 h [a] ∧ Arv Z h a ka .byte (3 : Int32) [(.int (own_mark x0 le x0 se)), (.int x1), (.int x2)] (.int (0 : Int32))
theorem ef6 (a : Addr) (le : Int32) (se : Int32) (m : MethodId) : entryFrame m #[(.ref a), (.int le), (.ref a), (.int se), (.int (1 : Int32))] 7 = mkF m 0 #[.val (.ref a), .val (.int le), .val (.ref a), .val (.int se), .val (.int (1 : Int32)), .unset, .unset] [] := by first | (simp [entryFrame, mkF, argsToLocals, Value.category]; done) | rfl
set_option maxRecDepth 65536 in
set_option maxHeartbeats 40000000 in
theorem rm6 (l : Launch) (Z : State) (a0 : Array Value) (hw : ∀ d ∈ tables_1, d.before a0 Z = true) (ws : List Jvm.Cond) (a : Addr) (le : Int32) (se : Int32) (ka : ClassId) (x0 : Int32) (x1 : Int32) (x2 : Int32) (h0 : Heap) (n0 : Nat) (Z0 : n0 ≤ h0.size) (V : Arv Z h0 a ka .byte (3 : Int32) [(.int x0), (.int x1), (.int x2)] (.int (0 : Int32))) (ga : n0 ≤ a) : OMet l Z ws (⟨"com/example/ref_search/refsearch/matcher/BulkSymbols$Bytes", "markPair", "([BI[BII)V"⟩ : MethodName) prog_2_method_6_code 7 none R6 #[(.ref a), (.int le), (.ref a), (.int se), (.int (1 : Int32))] h0 n0 (Q6 Z a le se ka x0 x1 x2 h0) := by
  refine OMet.of (plainFor_of_name pn_1) (ef6 a le se) Z0 ?_
  intro p e s m below meth c T0 Y0 hnm
  have Y0 : Sd Z "com/example/ref_search/refsearch/matcher/BulkSymbols$Bytes" prog_2_method_6_code 7 none n0 p l e R6 s m #[(.ref a), (.int le), (.ref a), (.int se), (.int (1 : Int32))] below meth c T0 h0 0 0 := Y0
  refine Gl.iconst Y0 (v := (0 : Int32)) (by decide) d_prog_2_method_6_0 rfl ?_
  refine Gl.istore Y0 (L' := #[.val (.ref a), .val (.int le), .val (.ref a), .val (.int se), .val (.int (1 : Int32)), .val (.int (0 : Int32)), .unset]) rfl d_prog_2_method_6_1 rfl ?_
  refine Gl.iload Y0 rfl d_prog_2_method_6_3 rfl ?_
  refine Gl.iload Y0 rfl d_prog_2_method_6_5 rfl ?_
  refine Gl.icmpge Y0 d_prog_2_method_6_7 (by decide) rfl rfl (fun c7 => ?_) (fun c7 => ?_)
  · exact absurd c7 (by decide)
  refine Gl.aloadN Y0 rfl rfl d_prog_2_method_6_10 rfl ?_
  refine Gl.iload Y0 rfl d_prog_2_method_6_11 rfl ?_
  refine Gl.baload Y0 V ⟨by decide, by decide⟩ (v := (.int x0)) rfl d_prog_2_method_6_13 rfl ?_
  refine Gl.iloadN Y0 rfl d_prog_2_method_6_14 rfl ?_
  refine Gl.ixor Y0 rfl d_prog_2_method_6_15 rfl ?_
  refine Gl.aloadN Y0 rfl rfl d_prog_2_method_6_16 rfl ?_
  refine Gl.iload Y0 rfl d_prog_2_method_6_17 rfl ?_
  refine Gl.baload Y0 V ⟨by decide, by decide⟩ (v := (.int x0)) rfl d_prog_2_method_6_19 rfl ?_
  refine Gl.iloadN Y0 rfl d_prog_2_method_6_20 rfl ?_
  refine Gl.ixor Y0 rfl d_prog_2_method_6_21 rfl ?_
  refine Gl.ior Y0 rfl d_prog_2_method_6_22 rfl ?_
  refine Gl.istore Y0 (L' := #[.val (.ref a), .val (.int le), .val (.ref a), .val (.int se), .val (.int (1 : Int32)), .val (.int (0 : Int32)), .val (.int ((x0 ^^^ le) ||| (x0 ^^^ se)))]) rfl d_prog_2_method_6_23 rfl ?_
  refine Gl.aloadN Y0 rfl rfl d_prog_2_method_6_25 rfl ?_
  refine Gl.iload Y0 rfl d_prog_2_method_6_26 rfl ?_
  refine Gl.iload Y0 rfl d_prog_2_method_6_28 rfl ?_
  refine Gl.iconst Y0 (v := (1 : Int32)) (by decide) d_prog_2_method_6_30 rfl ?_
  refine Gl.isub Y0 rfl d_prog_2_method_6_31 rfl ?_
  refine Gl.iload Y0 rfl d_prog_2_method_6_32 rfl ?_
  refine Gl.iconst Y0 (v := (-1 : Int32)) (by decide) d_prog_2_method_6_34 rfl ?_
  refine Gl.ixor Y0 rfl d_prog_2_method_6_35 rfl ?_
  refine Gl.iand Y0 rfl d_prog_2_method_6_36 rfl ?_
  refine Gl.sipush Y0 (v := (128 : Int32)) (by decide) d_prog_2_method_6_37 rfl ?_
  refine Gl.iand Y0 rfl d_prog_2_method_6_40 rfl ?_
  refine Gl.i2b Y0 rfl d_prog_2_method_6_41 rfl ?_
  refine Gl.bastore Y0 V (v := (.int ((((((x0 ^^^ le) ||| (x0 ^^^ se)) - (1 : Int32)) &&& (((x0 ^^^ le) ||| (x0 ^^^ se)) ^^^ (-1 : Int32))) &&& (128 : Int32)).toInt8.toInt32))) (congrArg Value.int (own_narB rfl)) ⟨by decide, by decide⟩ (ix := 0) rfl (Nat.le_of_ble_eq_true rfl) ga d_prog_2_method_6_42 rfl (fun T42 h42 Y42 W42 A42 => ?_)
  have A42 : Arv Z h42 a ka .byte (3 : Int32) [(.int ((((((x0 ^^^ le) ||| (x0 ^^^ se)) - (1 : Int32)) &&& (((x0 ^^^ le) ||| (x0 ^^^ se)) ^^^ (-1 : Int32))) &&& (128 : Int32)).toInt8.toInt32)), (.int x1), (.int x2)] (.int (0 : Int32)) := A42
  have K42 : Keep h0 h42 [a] := (Keep.refl h0 [a]).wr W42 (Or.inl (List.mem_of_getElem? (i := 0) rfl))
  show Gl p e below _ (T42.setTop (mkF m 43 #[.val (.ref a), .val (.int le), .val (.ref a), .val (.int se), .val (.int (1 : Int32)), .val (.int (0 : Int32)), .val (.int ((x0 ^^^ le) ||| (x0 ^^^ se)))] []))
  refine Gl.iinc Y42 rfl (r := (1 : Int32)) (by decide) (L' := #[.val (.ref a), .val (.int le), .val (.ref a), .val (.int se), .val (.int (1 : Int32)), .val (.int (1 : Int32)), .val (.int ((x0 ^^^ le) ||| (x0 ^^^ se)))]) rfl d_prog_2_method_6_43 rfl ?_
  refine Gl.goto Y42 d_prog_2_method_6_46 (by decide) rfl ?_
  refine Gl.iload Y42 rfl d_prog_2_method_6_3 rfl ?_
  refine Gl.iload Y42 rfl d_prog_2_method_6_5 rfl ?_
  refine Gl.icmpge Y42 d_prog_2_method_6_7 (by decide) rfl rfl (fun c7_2 => ?_) (fun c7_2 => ?_)
  rotate_left
  · exact absurd c7_2 (by decide)
  exact Gl.retV Y42 (by decide) (by decide)  d_prog_2_method_6_49 ⟨rfl, K42, A42⟩
def R7 : Room := { frames := 0, cells := 0, slots := 0, locals := 0 }
def Q7 (Z : State) (a : Addr) (le : Int32) (se : Int32) (ka : ClassId) (x0 : Int32) (x1 : Int32) (x2 : Int32) (h0 : Heap) (v : Option Value) (h : Heap) : Prop := v = none ∧ Keep h0 h [a] ∧ Arv Z h a ka .byte (3 : Int32) [(.int (own_mark x0 le x0 se)), (.int (own_mark x1 le x1 se)), (.int x2)] (.int (0 : Int32))
theorem ef7 (a : Addr) (le : Int32) (se : Int32) (m : MethodId) : entryFrame m #[(.ref a), (.int le), (.ref a), (.int se), (.int (2 : Int32))] 7 = mkF m 0 #[.val (.ref a), .val (.int le), .val (.ref a), .val (.int se), .val (.int (2 : Int32)), .unset, .unset] [] := by first | (simp [entryFrame, mkF, argsToLocals, Value.category]; done) | rfl
set_option maxRecDepth 65536 in
set_option maxHeartbeats 40000000 in
theorem rm7 (l : Launch) (Z : State) (a0 : Array Value) (hw : ∀ d ∈ tables_1, d.before a0 Z = true) (ws : List Jvm.Cond) (a : Addr) (le : Int32) (se : Int32) (ka : ClassId) (x0 : Int32) (x1 : Int32) (x2 : Int32) (h0 : Heap) (n0 : Nat) (Z0 : n0 ≤ h0.size) (V : Arv Z h0 a ka .byte (3 : Int32) [(.int x0), (.int x1), (.int x2)] (.int (0 : Int32))) (ga : n0 ≤ a) : OMet l Z ws (⟨"com/example/ref_search/refsearch/matcher/BulkSymbols$Bytes", "markPair", "([BI[BII)V"⟩ : MethodName) prog_2_method_6_code 7 none R7 #[(.ref a), (.int le), (.ref a), (.int se), (.int (2 : Int32))] h0 n0 (Q7 Z a le se ka x0 x1 x2 h0) := by
  refine OMet.of (plainFor_of_name pn_1) (ef7 a le se) Z0 ?_
  intro p e s m below meth c T0 Y0 hnm
  have Y0 : Sd Z "com/example/ref_search/refsearch/matcher/BulkSymbols$Bytes" prog_2_method_6_code 7 none n0 p l e R7 s m #[(.ref a), (.int le), (.ref a), (.int se), (.int (2 : Int32))] below meth c T0 h0 0 0 := Y0
  refine Gl.iconst Y0 (v := (0 : Int32)) (by decide) d_prog_2_method_6_0 rfl ?_
  refine Gl.istore Y0 (L' := #[.val (.ref a), .val (.int le), .val (.ref a), .val (.int se), .val (.int (2 : Int32)), .val (.int (0 : Int32)), .unset]) rfl d_prog_2_method_6_1 rfl ?_
  refine Gl.iload Y0 rfl d_prog_2_method_6_3 rfl ?_
  refine Gl.iload Y0 rfl d_prog_2_method_6_5 rfl ?_
  refine Gl.icmpge Y0 d_prog_2_method_6_7 (by decide) rfl rfl (fun c7 => ?_) (fun c7 => ?_)
  · exact absurd c7 (by decide)
  refine Gl.aloadN Y0 rfl rfl d_prog_2_method_6_10 rfl ?_
  refine Gl.iload Y0 rfl d_prog_2_method_6_11 rfl ?_
  refine Gl.baload Y0 V ⟨by decide, by decide⟩ (v := (.int x0)) rfl d_prog_2_method_6_13 rfl ?_
  refine Gl.iloadN Y0 rfl d_prog_2_method_6_14 rfl ?_
  refine Gl.ixor Y0 rfl d_prog_2_method_6_15 rfl ?_
  refine Gl.aloadN Y0 rfl rfl d_prog_2_method_6_16 rfl ?_
  refine Gl.iload Y0 rfl d_prog_2_method_6_17 rfl ?_
  refine Gl.baload Y0 V ⟨by decide, by decide⟩ (v := (.int x0)) rfl d_prog_2_method_6_19 rfl ?_
  refine Gl.iloadN Y0 rfl d_prog_2_method_6_20 rfl ?_
  refine Gl.ixor Y0 rfl d_prog_2_method_6_21 rfl ?_
  refine Gl.ior Y0 rfl d_prog_2_method_6_22 rfl ?_
  refine Gl.istore Y0 (L' := #[.val (.ref a), .val (.int le), .val (.ref a), .val (.int se), .val (.int (2 : Int32)), .val (.int (0 : Int32)), .val (.int ((x0 ^^^ le) ||| (x0 ^^^ se)))]) rfl d_prog_2_method_6_23 rfl ?_
  refine Gl.aloadN Y0 rfl rfl d_prog_2_method_6_25 rfl ?_
  refine Gl.iload Y0 rfl d_prog_2_method_6_26 rfl ?_
  refine Gl.iload Y0 rfl d_prog_2_method_6_28 rfl ?_
  refine Gl.iconst Y0 (v := (1 : Int32)) (by decide) d_prog_2_method_6_30 rfl ?_
  refine Gl.isub Y0 rfl d_prog_2_method_6_31 rfl ?_
  refine Gl.iload Y0 rfl d_prog_2_method_6_32 rfl ?_
  refine Gl.iconst Y0 (v := (-1 : Int32)) (by decide) d_prog_2_method_6_34 rfl ?_
  refine Gl.ixor Y0 rfl d_prog_2_method_6_35 rfl ?_
  refine Gl.iand Y0 rfl d_prog_2_method_6_36 rfl ?_
  refine Gl.sipush Y0 (v := (128 : Int32)) (by decide) d_prog_2_method_6_37 rfl ?_
  refine Gl.iand Y0 rfl d_prog_2_method_6_40 rfl ?_
  refine Gl.i2b Y0 rfl d_prog_2_method_6_41 rfl ?_
  refine Gl.bastore Y0 V (v := (.int ((((((x0 ^^^ le) ||| (x0 ^^^ se)) - (1 : Int32)) &&& (((x0 ^^^ le) ||| (x0 ^^^ se)) ^^^ (-1 : Int32))) &&& (128 : Int32)).toInt8.toInt32))) (congrArg Value.int (own_narB rfl)) ⟨by decide, by decide⟩ (ix := 0) rfl (Nat.le_of_ble_eq_true rfl) ga d_prog_2_method_6_42 rfl (fun T42 h42 Y42 W42 A42 => ?_)
  have A42 : Arv Z h42 a ka .byte (3 : Int32) [(.int ((((((x0 ^^^ le) ||| (x0 ^^^ se)) - (1 : Int32)) &&& (((x0 ^^^ le) ||| (x0 ^^^ se)) ^^^ (-1 : Int32))) &&& (128 : Int32)).toInt8.toInt32)), (.int x1), (.int x2)] (.int (0 : Int32)) := A42
  have K42 : Keep h0 h42 [a] := (Keep.refl h0 [a]).wr W42 (Or.inl (List.mem_of_getElem? (i := 0) rfl))
  show Gl p e below _ (T42.setTop (mkF m 43 #[.val (.ref a), .val (.int le), .val (.ref a), .val (.int se), .val (.int (2 : Int32)), .val (.int (0 : Int32)), .val (.int ((x0 ^^^ le) ||| (x0 ^^^ se)))] []))
  refine Gl.iinc Y42 rfl (r := (1 : Int32)) (by decide) (L' := #[.val (.ref a), .val (.int le), .val (.ref a), .val (.int se), .val (.int (2 : Int32)), .val (.int (1 : Int32)), .val (.int ((x0 ^^^ le) ||| (x0 ^^^ se)))]) rfl d_prog_2_method_6_43 rfl ?_
  refine Gl.goto Y42 d_prog_2_method_6_46 (by decide) rfl ?_
  refine Gl.iload Y42 rfl d_prog_2_method_6_3 rfl ?_
  refine Gl.iload Y42 rfl d_prog_2_method_6_5 rfl ?_
  refine Gl.icmpge Y42 d_prog_2_method_6_7 (by decide) rfl rfl (fun c7_2 => ?_) (fun c7_2 => ?_)
  · exact absurd c7_2 (by decide)
  refine Gl.aloadN Y42 rfl rfl d_prog_2_method_6_10 rfl ?_
  refine Gl.iload Y42 rfl d_prog_2_method_6_11 rfl ?_
  refine Gl.baload Y42 A42 ⟨by decide, by decide⟩ (v := (.int x1)) rfl d_prog_2_method_6_13 rfl ?_
  refine Gl.iloadN Y42 rfl d_prog_2_method_6_14 rfl ?_
  refine Gl.ixor Y42 rfl d_prog_2_method_6_15 rfl ?_
  refine Gl.aloadN Y42 rfl rfl d_prog_2_method_6_16 rfl ?_
  refine Gl.iload Y42 rfl d_prog_2_method_6_17 rfl ?_
  refine Gl.baload Y42 A42 ⟨by decide, by decide⟩ (v := (.int x1)) rfl d_prog_2_method_6_19 rfl ?_
  refine Gl.iloadN Y42 rfl d_prog_2_method_6_20 rfl ?_
  refine Gl.ixor Y42 rfl d_prog_2_method_6_21 rfl ?_
  refine Gl.ior Y42 rfl d_prog_2_method_6_22 rfl ?_
  refine Gl.istore Y42 (L' := #[.val (.ref a), .val (.int le), .val (.ref a), .val (.int se), .val (.int (2 : Int32)), .val (.int (1 : Int32)), .val (.int ((x1 ^^^ le) ||| (x1 ^^^ se)))]) rfl d_prog_2_method_6_23 rfl ?_
  refine Gl.aloadN Y42 rfl rfl d_prog_2_method_6_25 rfl ?_
  refine Gl.iload Y42 rfl d_prog_2_method_6_26 rfl ?_
  refine Gl.iload Y42 rfl d_prog_2_method_6_28 rfl ?_
  refine Gl.iconst Y42 (v := (1 : Int32)) (by decide) d_prog_2_method_6_30 rfl ?_
  refine Gl.isub Y42 rfl d_prog_2_method_6_31 rfl ?_
  refine Gl.iload Y42 rfl d_prog_2_method_6_32 rfl ?_
  refine Gl.iconst Y42 (v := (-1 : Int32)) (by decide) d_prog_2_method_6_34 rfl ?_
  refine Gl.ixor Y42 rfl d_prog_2_method_6_35 rfl ?_
  refine Gl.iand Y42 rfl d_prog_2_method_6_36 rfl ?_
  refine Gl.sipush Y42 (v := (128 : Int32)) (by decide) d_prog_2_method_6_37 rfl ?_
  refine Gl.iand Y42 rfl d_prog_2_method_6_40 rfl ?_
  refine Gl.i2b Y42 rfl d_prog_2_method_6_41 rfl ?_
  refine Gl.bastore Y42 A42 (v := (.int ((((((x1 ^^^ le) ||| (x1 ^^^ se)) - (1 : Int32)) &&& (((x1 ^^^ le) ||| (x1 ^^^ se)) ^^^ (-1 : Int32))) &&& (128 : Int32)).toInt8.toInt32))) (congrArg Value.int (own_narB rfl)) ⟨by decide, by decide⟩ (ix := 1) rfl (Nat.le_of_ble_eq_true rfl) ga d_prog_2_method_6_42 rfl (fun T42_2 h42_2 Y42_2 W42_2 A42_2 => ?_)
  have A42_2 : Arv Z h42_2 a ka .byte (3 : Int32) [(.int ((((((x0 ^^^ le) ||| (x0 ^^^ se)) - (1 : Int32)) &&& (((x0 ^^^ le) ||| (x0 ^^^ se)) ^^^ (-1 : Int32))) &&& (128 : Int32)).toInt8.toInt32)), (.int ((((((x1 ^^^ le) ||| (x1 ^^^ se)) - (1 : Int32)) &&& (((x1 ^^^ le) ||| (x1 ^^^ se)) ^^^ (-1 : Int32))) &&& (128 : Int32)).toInt8.toInt32)), (.int x2)] (.int (0 : Int32)) := A42_2
  have K42_2 : Keep h0 h42_2 [a] := K42.wr W42_2 (Or.inl (List.mem_of_getElem? (i := 0) rfl))
  show Gl p e below _ (T42_2.setTop (mkF m 43 #[.val (.ref a), .val (.int le), .val (.ref a), .val (.int se), .val (.int (2 : Int32)), .val (.int (1 : Int32)), .val (.int ((x1 ^^^ le) ||| (x1 ^^^ se)))] []))
  refine Gl.iinc Y42_2 rfl (r := (2 : Int32)) (by decide) (L' := #[.val (.ref a), .val (.int le), .val (.ref a), .val (.int se), .val (.int (2 : Int32)), .val (.int (2 : Int32)), .val (.int ((x1 ^^^ le) ||| (x1 ^^^ se)))]) rfl d_prog_2_method_6_43 rfl ?_
  refine Gl.goto Y42_2 d_prog_2_method_6_46 (by decide) rfl ?_
  refine Gl.iload Y42_2 rfl d_prog_2_method_6_3 rfl ?_
  refine Gl.iload Y42_2 rfl d_prog_2_method_6_5 rfl ?_
  refine Gl.icmpge Y42_2 d_prog_2_method_6_7 (by decide) rfl rfl (fun c7_3 => ?_) (fun c7_3 => ?_)
  rotate_left
  · exact absurd c7_3 (by decide)
  exact Gl.retV Y42_2 (by decide) (by decide)  d_prog_2_method_6_49 ⟨rfl, K42_2, A42_2⟩
def R8 : Room := { frames := 0, cells := 0, slots := 0, locals := 0 }
def Q8 (Z : State) (a : Addr) (le : Int32) (se : Int32) (ka : ClassId) (x0 : Int32) (x1 : Int32) (x2 : Int32) (h0 : Heap) (v : Option Value) (h : Heap) : Prop := v = none ∧ Keep h0 h [a] ∧ Arv Z h a ka .byte (3 : Int32) [(.int (own_mark x0 le x0 se)), (.int (own_mark x1 le x1 se)), (.int (own_mark x2 le x2 se))] (.int (0 : Int32))
theorem ef8 (a : Addr) (le : Int32) (se : Int32) (m : MethodId) : entryFrame m #[(.ref a), (.int le), (.ref a), (.int se), (.int (3 : Int32))] 7 = mkF m 0 #[.val (.ref a), .val (.int le), .val (.ref a), .val (.int se), .val (.int (3 : Int32)), .unset, .unset] [] := by first | (simp [entryFrame, mkF, argsToLocals, Value.category]; done) | rfl
set_option maxRecDepth 65536 in
set_option maxHeartbeats 40000000 in
theorem rm8 (l : Launch) (Z : State) (a0 : Array Value) (hw : ∀ d ∈ tables_1, d.before a0 Z = true) (ws : List Jvm.Cond) (a : Addr) (le : Int32) (se : Int32) (ka : ClassId) (x0 : Int32) (x1 : Int32) (x2 : Int32) (h0 : Heap) (n0 : Nat) (Z0 : n0 ≤ h0.size) (V : Arv Z h0 a ka .byte (3 : Int32) [(.int x0), (.int x1), (.int x2)] (.int (0 : Int32))) (ga : n0 ≤ a) : OMet l Z ws (⟨"com/example/ref_search/refsearch/matcher/BulkSymbols$Bytes", "markPair", "([BI[BII)V"⟩ : MethodName) prog_2_method_6_code 7 none R8 #[(.ref a), (.int le), (.ref a), (.int se), (.int (3 : Int32))] h0 n0 (Q8 Z a le se ka x0 x1 x2 h0) := by
  refine OMet.of (plainFor_of_name pn_1) (ef8 a le se) Z0 ?_
  intro p e s m below meth c T0 Y0 hnm
  have Y0 : Sd Z "com/example/ref_search/refsearch/matcher/BulkSymbols$Bytes" prog_2_method_6_code 7 none n0 p l e R8 s m #[(.ref a), (.int le), (.ref a), (.int se), (.int (3 : Int32))] below meth c T0 h0 0 0 := Y0
  refine Gl.iconst Y0 (v := (0 : Int32)) (by decide) d_prog_2_method_6_0 rfl ?_
  refine Gl.istore Y0 (L' := #[.val (.ref a), .val (.int le), .val (.ref a), .val (.int se), .val (.int (3 : Int32)), .val (.int (0 : Int32)), .unset]) rfl d_prog_2_method_6_1 rfl ?_
  refine Gl.iload Y0 rfl d_prog_2_method_6_3 rfl ?_
  refine Gl.iload Y0 rfl d_prog_2_method_6_5 rfl ?_
  refine Gl.icmpge Y0 d_prog_2_method_6_7 (by decide) rfl rfl (fun c7 => ?_) (fun c7 => ?_)
  · exact absurd c7 (by decide)
  refine Gl.aloadN Y0 rfl rfl d_prog_2_method_6_10 rfl ?_
  refine Gl.iload Y0 rfl d_prog_2_method_6_11 rfl ?_
  refine Gl.baload Y0 V ⟨by decide, by decide⟩ (v := (.int x0)) rfl d_prog_2_method_6_13 rfl ?_
  refine Gl.iloadN Y0 rfl d_prog_2_method_6_14 rfl ?_
  refine Gl.ixor Y0 rfl d_prog_2_method_6_15 rfl ?_
  refine Gl.aloadN Y0 rfl rfl d_prog_2_method_6_16 rfl ?_
  refine Gl.iload Y0 rfl d_prog_2_method_6_17 rfl ?_
  refine Gl.baload Y0 V ⟨by decide, by decide⟩ (v := (.int x0)) rfl d_prog_2_method_6_19 rfl ?_
  refine Gl.iloadN Y0 rfl d_prog_2_method_6_20 rfl ?_
  refine Gl.ixor Y0 rfl d_prog_2_method_6_21 rfl ?_
  refine Gl.ior Y0 rfl d_prog_2_method_6_22 rfl ?_
  refine Gl.istore Y0 (L' := #[.val (.ref a), .val (.int le), .val (.ref a), .val (.int se), .val (.int (3 : Int32)), .val (.int (0 : Int32)), .val (.int ((x0 ^^^ le) ||| (x0 ^^^ se)))]) rfl d_prog_2_method_6_23 rfl ?_
  refine Gl.aloadN Y0 rfl rfl d_prog_2_method_6_25 rfl ?_
  refine Gl.iload Y0 rfl d_prog_2_method_6_26 rfl ?_
  refine Gl.iload Y0 rfl d_prog_2_method_6_28 rfl ?_
  refine Gl.iconst Y0 (v := (1 : Int32)) (by decide) d_prog_2_method_6_30 rfl ?_
  refine Gl.isub Y0 rfl d_prog_2_method_6_31 rfl ?_
  refine Gl.iload Y0 rfl d_prog_2_method_6_32 rfl ?_
  refine Gl.iconst Y0 (v := (-1 : Int32)) (by decide) d_prog_2_method_6_34 rfl ?_
  refine Gl.ixor Y0 rfl d_prog_2_method_6_35 rfl ?_
  refine Gl.iand Y0 rfl d_prog_2_method_6_36 rfl ?_
  refine Gl.sipush Y0 (v := (128 : Int32)) (by decide) d_prog_2_method_6_37 rfl ?_
  refine Gl.iand Y0 rfl d_prog_2_method_6_40 rfl ?_
  refine Gl.i2b Y0 rfl d_prog_2_method_6_41 rfl ?_
  refine Gl.bastore Y0 V (v := (.int ((((((x0 ^^^ le) ||| (x0 ^^^ se)) - (1 : Int32)) &&& (((x0 ^^^ le) ||| (x0 ^^^ se)) ^^^ (-1 : Int32))) &&& (128 : Int32)).toInt8.toInt32))) (congrArg Value.int (own_narB rfl)) ⟨by decide, by decide⟩ (ix := 0) rfl (Nat.le_of_ble_eq_true rfl) ga d_prog_2_method_6_42 rfl (fun T42 h42 Y42 W42 A42 => ?_)
  have A42 : Arv Z h42 a ka .byte (3 : Int32) [(.int ((((((x0 ^^^ le) ||| (x0 ^^^ se)) - (1 : Int32)) &&& (((x0 ^^^ le) ||| (x0 ^^^ se)) ^^^ (-1 : Int32))) &&& (128 : Int32)).toInt8.toInt32)), (.int x1), (.int x2)] (.int (0 : Int32)) := A42
  have K42 : Keep h0 h42 [a] := (Keep.refl h0 [a]).wr W42 (Or.inl (List.mem_of_getElem? (i := 0) rfl))
  show Gl p e below _ (T42.setTop (mkF m 43 #[.val (.ref a), .val (.int le), .val (.ref a), .val (.int se), .val (.int (3 : Int32)), .val (.int (0 : Int32)), .val (.int ((x0 ^^^ le) ||| (x0 ^^^ se)))] []))
  refine Gl.iinc Y42 rfl (r := (1 : Int32)) (by decide) (L' := #[.val (.ref a), .val (.int le), .val (.ref a), .val (.int se), .val (.int (3 : Int32)), .val (.int (1 : Int32)), .val (.int ((x0 ^^^ le) ||| (x0 ^^^ se)))]) rfl d_prog_2_method_6_43 rfl ?_
  refine Gl.goto Y42 d_prog_2_method_6_46 (by decide) rfl ?_
  refine Gl.iload Y42 rfl d_prog_2_method_6_3 rfl ?_
  refine Gl.iload Y42 rfl d_prog_2_method_6_5 rfl ?_
  refine Gl.icmpge Y42 d_prog_2_method_6_7 (by decide) rfl rfl (fun c7_2 => ?_) (fun c7_2 => ?_)
  · exact absurd c7_2 (by decide)
  refine Gl.aloadN Y42 rfl rfl d_prog_2_method_6_10 rfl ?_
  refine Gl.iload Y42 rfl d_prog_2_method_6_11 rfl ?_
  refine Gl.baload Y42 A42 ⟨by decide, by decide⟩ (v := (.int x1)) rfl d_prog_2_method_6_13 rfl ?_
  refine Gl.iloadN Y42 rfl d_prog_2_method_6_14 rfl ?_
  refine Gl.ixor Y42 rfl d_prog_2_method_6_15 rfl ?_
  refine Gl.aloadN Y42 rfl rfl d_prog_2_method_6_16 rfl ?_
  refine Gl.iload Y42 rfl d_prog_2_method_6_17 rfl ?_
  refine Gl.baload Y42 A42 ⟨by decide, by decide⟩ (v := (.int x1)) rfl d_prog_2_method_6_19 rfl ?_
  refine Gl.iloadN Y42 rfl d_prog_2_method_6_20 rfl ?_
  refine Gl.ixor Y42 rfl d_prog_2_method_6_21 rfl ?_
  refine Gl.ior Y42 rfl d_prog_2_method_6_22 rfl ?_
  refine Gl.istore Y42 (L' := #[.val (.ref a), .val (.int le), .val (.ref a), .val (.int se), .val (.int (3 : Int32)), .val (.int (1 : Int32)), .val (.int ((x1 ^^^ le) ||| (x1 ^^^ se)))]) rfl d_prog_2_method_6_23 rfl ?_
  refine Gl.aloadN Y42 rfl rfl d_prog_2_method_6_25 rfl ?_
  refine Gl.iload Y42 rfl d_prog_2_method_6_26 rfl ?_
  refine Gl.iload Y42 rfl d_prog_2_method_6_28 rfl ?_
  refine Gl.iconst Y42 (v := (1 : Int32)) (by decide) d_prog_2_method_6_30 rfl ?_
  refine Gl.isub Y42 rfl d_prog_2_method_6_31 rfl ?_
  refine Gl.iload Y42 rfl d_prog_2_method_6_32 rfl ?_
  refine Gl.iconst Y42 (v := (-1 : Int32)) (by decide) d_prog_2_method_6_34 rfl ?_
  refine Gl.ixor Y42 rfl d_prog_2_method_6_35 rfl ?_
  refine Gl.iand Y42 rfl d_prog_2_method_6_36 rfl ?_
  refine Gl.sipush Y42 (v := (128 : Int32)) (by decide) d_prog_2_method_6_37 rfl ?_
  refine Gl.iand Y42 rfl d_prog_2_method_6_40 rfl ?_
  refine Gl.i2b Y42 rfl d_prog_2_method_6_41 rfl ?_
  refine Gl.bastore Y42 A42 (v := (.int ((((((x1 ^^^ le) ||| (x1 ^^^ se)) - (1 : Int32)) &&& (((x1 ^^^ le) ||| (x1 ^^^ se)) ^^^ (-1 : Int32))) &&& (128 : Int32)).toInt8.toInt32))) (congrArg Value.int (own_narB rfl)) ⟨by decide, by decide⟩ (ix := 1) rfl (Nat.le_of_ble_eq_true rfl) ga d_prog_2_method_6_42 rfl (fun T42_2 h42_2 Y42_2 W42_2 A42_2 => ?_)
  have A42_2 : Arv Z h42_2 a ka .byte (3 : Int32) [(.int ((((((x0 ^^^ le) ||| (x0 ^^^ se)) - (1 : Int32)) &&& (((x0 ^^^ le) ||| (x0 ^^^ se)) ^^^ (-1 : Int32))) &&& (128 : Int32)).toInt8.toInt32)), (.int ((((((x1 ^^^ le) ||| (x1 ^^^ se)) - (1 : Int32)) &&& (((x1 ^^^ le) ||| (x1 ^^^ se)) ^^^ (-1 : Int32))) &&& (128 : Int32)).toInt8.toInt32)), (.int x2)] (.int (0 : Int32)) := A42_2
  have K42_2 : Keep h0 h42_2 [a] := K42.wr W42_2 (Or.inl (List.mem_of_getElem? (i := 0) rfl))
  show Gl p e below _ (T42_2.setTop (mkF m 43 #[.val (.ref a), .val (.int le), .val (.ref a), .val (.int se), .val (.int (3 : Int32)), .val (.int (1 : Int32)), .val (.int ((x1 ^^^ le) ||| (x1 ^^^ se)))] []))
  refine Gl.iinc Y42_2 rfl (r := (2 : Int32)) (by decide) (L' := #[.val (.ref a), .val (.int le), .val (.ref a), .val (.int se), .val (.int (3 : Int32)), .val (.int (2 : Int32)), .val (.int ((x1 ^^^ le) ||| (x1 ^^^ se)))]) rfl d_prog_2_method_6_43 rfl ?_
  refine Gl.goto Y42_2 d_prog_2_method_6_46 (by decide) rfl ?_
  refine Gl.iload Y42_2 rfl d_prog_2_method_6_3 rfl ?_
  refine Gl.iload Y42_2 rfl d_prog_2_method_6_5 rfl ?_
  refine Gl.icmpge Y42_2 d_prog_2_method_6_7 (by decide) rfl rfl (fun c7_3 => ?_) (fun c7_3 => ?_)
  · exact absurd c7_3 (by decide)
  refine Gl.aloadN Y42_2 rfl rfl d_prog_2_method_6_10 rfl ?_
  refine Gl.iload Y42_2 rfl d_prog_2_method_6_11 rfl ?_
  refine Gl.baload Y42_2 A42_2 ⟨by decide, by decide⟩ (v := (.int x2)) rfl d_prog_2_method_6_13 rfl ?_
  refine Gl.iloadN Y42_2 rfl d_prog_2_method_6_14 rfl ?_
  refine Gl.ixor Y42_2 rfl d_prog_2_method_6_15 rfl ?_
  refine Gl.aloadN Y42_2 rfl rfl d_prog_2_method_6_16 rfl ?_
  refine Gl.iload Y42_2 rfl d_prog_2_method_6_17 rfl ?_
  refine Gl.baload Y42_2 A42_2 ⟨by decide, by decide⟩ (v := (.int x2)) rfl d_prog_2_method_6_19 rfl ?_
  refine Gl.iloadN Y42_2 rfl d_prog_2_method_6_20 rfl ?_
  refine Gl.ixor Y42_2 rfl d_prog_2_method_6_21 rfl ?_
  refine Gl.ior Y42_2 rfl d_prog_2_method_6_22 rfl ?_
  refine Gl.istore Y42_2 (L' := #[.val (.ref a), .val (.int le), .val (.ref a), .val (.int se), .val (.int (3 : Int32)), .val (.int (2 : Int32)), .val (.int ((x2 ^^^ le) ||| (x2 ^^^ se)))]) rfl d_prog_2_method_6_23 rfl ?_
  refine Gl.aloadN Y42_2 rfl rfl d_prog_2_method_6_25 rfl ?_
  refine Gl.iload Y42_2 rfl d_prog_2_method_6_26 rfl ?_
  refine Gl.iload Y42_2 rfl d_prog_2_method_6_28 rfl ?_
  refine Gl.iconst Y42_2 (v := (1 : Int32)) (by decide) d_prog_2_method_6_30 rfl ?_
  refine Gl.isub Y42_2 rfl d_prog_2_method_6_31 rfl ?_
  refine Gl.iload Y42_2 rfl d_prog_2_method_6_32 rfl ?_
  refine Gl.iconst Y42_2 (v := (-1 : Int32)) (by decide) d_prog_2_method_6_34 rfl ?_
  refine Gl.ixor Y42_2 rfl d_prog_2_method_6_35 rfl ?_
  refine Gl.iand Y42_2 rfl d_prog_2_method_6_36 rfl ?_
  refine Gl.sipush Y42_2 (v := (128 : Int32)) (by decide) d_prog_2_method_6_37 rfl ?_
  refine Gl.iand Y42_2 rfl d_prog_2_method_6_40 rfl ?_
  refine Gl.i2b Y42_2 rfl d_prog_2_method_6_41 rfl ?_
  refine Gl.bastore Y42_2 A42_2 (v := (.int ((((((x2 ^^^ le) ||| (x2 ^^^ se)) - (1 : Int32)) &&& (((x2 ^^^ le) ||| (x2 ^^^ se)) ^^^ (-1 : Int32))) &&& (128 : Int32)).toInt8.toInt32))) (congrArg Value.int (own_narB rfl)) ⟨by decide, by decide⟩ (ix := 2) rfl (Nat.le_of_ble_eq_true rfl) ga d_prog_2_method_6_42 rfl (fun T42_3 h42_3 Y42_3 W42_3 A42_3 => ?_)
  have A42_3 : Arv Z h42_3 a ka .byte (3 : Int32) [(.int ((((((x0 ^^^ le) ||| (x0 ^^^ se)) - (1 : Int32)) &&& (((x0 ^^^ le) ||| (x0 ^^^ se)) ^^^ (-1 : Int32))) &&& (128 : Int32)).toInt8.toInt32)), (.int ((((((x1 ^^^ le) ||| (x1 ^^^ se)) - (1 : Int32)) &&& (((x1 ^^^ le) ||| (x1 ^^^ se)) ^^^ (-1 : Int32))) &&& (128 : Int32)).toInt8.toInt32)), (.int ((((((x2 ^^^ le) ||| (x2 ^^^ se)) - (1 : Int32)) &&& (((x2 ^^^ le) ||| (x2 ^^^ se)) ^^^ (-1 : Int32))) &&& (128 : Int32)).toInt8.toInt32))] (.int (0 : Int32)) := A42_3
  have K42_3 : Keep h0 h42_3 [a] := K42_2.wr W42_3 (Or.inl (List.mem_of_getElem? (i := 0) rfl))
  show Gl p e below _ (T42_3.setTop (mkF m 43 #[.val (.ref a), .val (.int le), .val (.ref a), .val (.int se), .val (.int (3 : Int32)), .val (.int (2 : Int32)), .val (.int ((x2 ^^^ le) ||| (x2 ^^^ se)))] []))
  refine Gl.iinc Y42_3 rfl (r := (3 : Int32)) (by decide) (L' := #[.val (.ref a), .val (.int le), .val (.ref a), .val (.int se), .val (.int (3 : Int32)), .val (.int (3 : Int32)), .val (.int ((x2 ^^^ le) ||| (x2 ^^^ se)))]) rfl d_prog_2_method_6_43 rfl ?_
  refine Gl.goto Y42_3 d_prog_2_method_6_46 (by decide) rfl ?_
  refine Gl.iload Y42_3 rfl d_prog_2_method_6_3 rfl ?_
  refine Gl.iload Y42_3 rfl d_prog_2_method_6_5 rfl ?_
  refine Gl.icmpge Y42_3 d_prog_2_method_6_7 (by decide) rfl rfl (fun c7_4 => ?_) (fun c7_4 => ?_)
  rotate_left
  · exact absurd c7_4 (by decide)
  exact Gl.retV Y42_3 (by decide) (by decide)  d_prog_2_method_6_49 ⟨rfl, K42_3, A42_3⟩
theorem d_method_4_0 : decode method_4_code 0 = .ok (.iload_n 1, 1) := by decide +kernel
theorem d_method_4_1 : decode method_4_code 1 = .ok (.iload_n 2, 1) := by decide +kernel
theorem d_method_4_2 : decode method_4_code 2 = .ok (.if_icmp .lt 14, 3) := by decide +kernel
theorem d_method_4_5 : decode method_4_code 5 = .ok (.iload_n 0, 1) := by decide +kernel
theorem d_method_4_6 : decode method_4_code 6 = .ok (.iload_n 3, 1) := by decide +kernel
theorem d_method_4_7 : decode method_4_code 7 = .ok (.if_icmp .ne 7, 3) := by decide +kernel
theorem d_method_4_10 : decode method_4_code 10 = .ok (.iconst 1, 1) := by decide +kernel
theorem d_method_4_11 : decode method_4_code 11 = .ok (.goto 4, 3) := by decide +kernel
theorem d_method_4_15 : decode method_4_code 15 = .ok (.ireturn, 1) := by decide +kernel
def R9 : Room := { frames := 0, cells := 0, slots := 0, locals := 0 }
def Q9 (Z : State) (g : Int32) (ol : Int32) (os : Int32) (le : Int32) (se : Int32) (h0 : Heap) (v : Option Value) (h : Heap) : Prop := v = some (.int (1 : Int32)) ∧ h0 = h
theorem ef9 (g : Int32) (ol : Int32) (os : Int32) (le : Int32) (se : Int32) (m : MethodId) : entryFrame m #[(.int g), (.int (0 : Int32)), (.int (0 : Int32)), (.int ol), (.int os), (.int le), (.int se)] 9 = mkF m 0 #[.val (.int g), .val (.int (0 : Int32)), .val (.int (0 : Int32)), .val (.int ol), .val (.int os), .val (.int le), .val (.int se), .unset, .unset] [] := by first | (simp [entryFrame, mkF, argsToLocals, Value.category]; done) | rfl
set_option maxRecDepth 65536 in
set_option maxHeartbeats 40000000 in
theorem rm9 (l : Launch) (Z : State) (a0 : Array Value) (hw : ∀ d ∈ tables_1, d.before a0 Z = true) (ws : List Jvm.Cond) (g : Int32) (ol : Int32) (os : Int32) (le : Int32) (se : Int32) (h0 : Heap) (n0 : Nat) (Z0 : n0 ≤ h0.size) (hg : g = ol) : OMet l Z ws (⟨"com/example/ref_search/refsearch/matcher/BytesMarkPairPinLaw", "check", "(BIIBBII)Z"⟩ : MethodName) method_4_code 9 (some .boolean) R9 #[(.int g), (.int (0 : Int32)), (.int (0 : Int32)), (.int ol), (.int os), (.int le), (.int se)] h0 n0 (Q9 Z g ol os le se h0) := by
  refine OMet.of (plainFor_of_name pn_0) (ef9 g ol os le se) Z0 ?_
  intro p e s m below meth c T0 Y0 hnm
  have Y0 : Sd Z "com/example/ref_search/refsearch/matcher/BytesMarkPairPinLaw" method_4_code 9 (some .boolean) n0 p l e R9 s m #[(.int g), (.int (0 : Int32)), (.int (0 : Int32)), (.int ol), (.int os), (.int le), (.int se)] below meth c T0 h0 0 0 := Y0
  refine Gl.iloadN Y0 rfl d_method_4_0 rfl ?_
  refine Gl.iloadN Y0 rfl d_method_4_1 rfl ?_
  refine Gl.icmplt Y0 d_method_4_2 (by decide) rfl rfl (fun c2 => ?_) (fun c2 => ?_)
  · exact absurd c2 (by decide)
  refine Gl.iloadN Y0 rfl d_method_4_5 rfl ?_
  refine Gl.iloadN Y0 rfl d_method_4_6 rfl ?_
  refine Gl.icmpne Y0 d_method_4_7 (by decide) rfl rfl (fun c7 => ?_) (fun c7 => ?_)
  · exact absurd hg c7
  refine Gl.iconst Y0 (v := (1 : Int32)) (by decide) d_method_4_10 rfl ?_
  refine Gl.goto Y0 d_method_4_11 (by decide) rfl ?_
  exact Gl.retZ Y0 (by decide) (by decide) (x' := (1 : Int32)) (by decide) d_method_4_15 ⟨rfl, rfl⟩
theorem d_method_4_16 : decode method_4_code 16 = .ok (.iload_n 3, 1) := by decide +kernel
theorem d_method_4_17 : decode method_4_code 17 = .ok (.sipush 255, 3) := by decide +kernel
theorem d_method_4_20 : decode method_4_code 20 = .ok (.iand, 1) := by decide +kernel
theorem d_method_4_21 : decode method_4_code 21 = .ok (.iload 5, 2) := by decide +kernel
theorem d_method_4_23 : decode method_4_code 23 = .ok (.sipush 255, 3) := by decide +kernel
theorem d_method_4_26 : decode method_4_code 26 = .ok (.iand, 1) := by decide +kernel
theorem d_method_4_27 : decode method_4_code 27 = .ok (.if_icmp .ne 22, 3) := by decide +kernel
theorem d_method_4_49 : decode method_4_code 49 = .ok (.iconst 0, 1) := by decide +kernel
theorem d_method_4_50 : decode method_4_code 50 = .ok (.istore 7, 2) := by decide +kernel
theorem d_method_4_52 : decode method_4_code 52 = .ok (.iload 7, 2) := by decide +kernel
theorem d_method_4_54 : decode method_4_code 54 = .ok (.ifCond .eq 8, 3) := by decide +kernel
theorem d_method_4_62 : decode method_4_code 62 = .ok (.iconst 0, 1) := by decide +kernel
theorem d_method_4_63 : decode method_4_code 63 = .ok (.istore 8, 2) := by decide +kernel
theorem d_method_4_65 : decode method_4_code 65 = .ok (.iload_n 0, 1) := by decide +kernel
theorem d_method_4_66 : decode method_4_code 66 = .ok (.iload 8, 2) := by decide +kernel
theorem d_method_4_68 : decode method_4_code 68 = .ok (.if_icmp .ne 7, 3) := by decide +kernel
theorem d_method_4_71 : decode method_4_code 71 = .ok (.iconst 1, 1) := by decide +kernel
theorem d_method_4_72 : decode method_4_code 72 = .ok (.goto 4, 3) := by decide +kernel
theorem d_method_4_76 : decode method_4_code 76 = .ok (.ireturn, 1) := by decide +kernel
theorem d_method_4_30 : decode method_4_code 30 = .ok (.iload 4, 2) := by decide +kernel
theorem d_method_4_32 : decode method_4_code 32 = .ok (.sipush 255, 3) := by decide +kernel
theorem d_method_4_35 : decode method_4_code 35 = .ok (.iand, 1) := by decide +kernel
theorem d_method_4_36 : decode method_4_code 36 = .ok (.iload 6, 2) := by decide +kernel
theorem d_method_4_38 : decode method_4_code 38 = .ok (.sipush 255, 3) := by decide +kernel
theorem d_method_4_41 : decode method_4_code 41 = .ok (.iand, 1) := by decide +kernel
theorem d_method_4_42 : decode method_4_code 42 = .ok (.if_icmp .ne 7, 3) := by decide +kernel
theorem d_method_4_45 : decode method_4_code 45 = .ok (.iconst 1, 1) := by decide +kernel
theorem d_method_4_46 : decode method_4_code 46 = .ok (.goto 4, 3) := by decide +kernel
theorem d_method_4_57 : decode method_4_code 57 = .ok (.bipush (-128), 2) := by decide +kernel
theorem d_method_4_59 : decode method_4_code 59 = .ok (.goto 4, 3) := by decide +kernel
def R10 : Room := { frames := 0, cells := 0, slots := 0, locals := 0 }
def Q10 (Z : State) (g : Int32) (ol : Int32) (os : Int32) (le : Int32) (se : Int32) (h0 : Heap) (v : Option Value) (h : Heap) : Prop := v = some (.int (1 : Int32)) ∧ h0 = h
theorem ef10 (g : Int32) (ol : Int32) (os : Int32) (le : Int32) (se : Int32) (m : MethodId) : entryFrame m #[(.int g), (.int (0 : Int32)), (.int (1 : Int32)), (.int ol), (.int os), (.int le), (.int se)] 9 = mkF m 0 #[.val (.int g), .val (.int (0 : Int32)), .val (.int (1 : Int32)), .val (.int ol), .val (.int os), .val (.int le), .val (.int se), .unset, .unset] [] := by first | (simp [entryFrame, mkF, argsToLocals, Value.category]; done) | rfl
set_option maxRecDepth 65536 in
set_option maxHeartbeats 40000000 in
theorem rm10 (l : Launch) (Z : State) (a0 : Array Value) (hw : ∀ d ∈ tables_1, d.before a0 Z = true) (ws : List Jvm.Cond) (g : Int32) (ol : Int32) (os : Int32) (le : Int32) (se : Int32) (h0 : Heap) (n0 : Nat) (Z0 : n0 ≤ h0.size) (hg : g = own_mark ol le os se) : OMet l Z ws (⟨"com/example/ref_search/refsearch/matcher/BytesMarkPairPinLaw", "check", "(BIIBBII)Z"⟩ : MethodName) method_4_code 9 (some .boolean) R10 #[(.int g), (.int (0 : Int32)), (.int (1 : Int32)), (.int ol), (.int os), (.int le), (.int se)] h0 n0 (Q10 Z g ol os le se h0) := by
  refine OMet.of (plainFor_of_name pn_0) (ef10 g ol os le se) Z0 ?_
  intro p e s m below meth c T0 Y0 hnm
  have Y0 : Sd Z "com/example/ref_search/refsearch/matcher/BytesMarkPairPinLaw" method_4_code 9 (some .boolean) n0 p l e R10 s m #[(.int g), (.int (0 : Int32)), (.int (1 : Int32)), (.int ol), (.int os), (.int le), (.int se)] below meth c T0 h0 0 0 := Y0
  refine Gl.iloadN Y0 rfl d_method_4_0 rfl ?_
  refine Gl.iloadN Y0 rfl d_method_4_1 rfl ?_
  refine Gl.icmplt Y0 d_method_4_2 (by decide) rfl rfl (fun c2 => ?_) (fun c2 => ?_)
  rotate_left
  · exact absurd c2 (by decide)
  refine Gl.iloadN Y0 rfl d_method_4_16 rfl ?_
  refine Gl.sipush Y0 (v := (255 : Int32)) (by decide) d_method_4_17 rfl ?_
  refine Gl.iand Y0 rfl d_method_4_20 rfl ?_
  refine Gl.iload Y0 rfl d_method_4_21 rfl ?_
  refine Gl.sipush Y0 (v := (255 : Int32)) (by decide) d_method_4_23 rfl ?_
  refine Gl.iand Y0 rfl d_method_4_26 rfl ?_
  refine Gl.icmpne Y0 d_method_4_27 (by decide) rfl rfl (fun c27 => ?_) (fun c27 => ?_)
  · refine Gl.iconst Y0 (v := (0 : Int32)) (by decide) d_method_4_49 rfl ?_
    refine Gl.istore Y0 (L' := #[.val (.int g), .val (.int (0 : Int32)), .val (.int (1 : Int32)), .val (.int ol), .val (.int os), .val (.int le), .val (.int se), .val (.int (0 : Int32)), .unset]) rfl d_method_4_50 rfl ?_
    refine Gl.iload Y0 rfl d_method_4_52 rfl ?_
    refine Gl.ifeq Y0 d_method_4_54 (by decide) rfl rfl (fun c54 => ?_) (fun c54 => ?_)
    rotate_left
    · exact absurd c54 (by decide)
    refine Gl.iconst Y0 (v := (0 : Int32)) (by decide) d_method_4_62 rfl ?_
    refine Gl.istore Y0 (L' := #[.val (.int g), .val (.int (0 : Int32)), .val (.int (1 : Int32)), .val (.int ol), .val (.int os), .val (.int le), .val (.int se), .val (.int (0 : Int32)), .val (.int (0 : Int32))]) rfl d_method_4_63 rfl ?_
    refine Gl.iloadN Y0 rfl d_method_4_65 rfl ?_
    refine Gl.iload Y0 rfl d_method_4_66 rfl ?_
    refine Gl.icmpne Y0 d_method_4_68 (by decide) rfl rfl (fun c68 => ?_) (fun c68 => ?_)
    · refine absurd ?_ c68
      rw [hg, own_mark_eq, if_neg (fun q => c27 q.1)]
    refine Gl.iconst Y0 (v := (1 : Int32)) (by decide) d_method_4_71 rfl ?_
    refine Gl.goto Y0 d_method_4_72 (by decide) rfl ?_
    exact Gl.retZ Y0 (by decide) (by decide) (x' := (1 : Int32)) (by decide) d_method_4_76 ⟨rfl, rfl⟩
  · refine Gl.iload Y0 rfl d_method_4_30 rfl ?_
    refine Gl.sipush Y0 (v := (255 : Int32)) (by decide) d_method_4_32 rfl ?_
    refine Gl.iand Y0 rfl d_method_4_35 rfl ?_
    refine Gl.iload Y0 rfl d_method_4_36 rfl ?_
    refine Gl.sipush Y0 (v := (255 : Int32)) (by decide) d_method_4_38 rfl ?_
    refine Gl.iand Y0 rfl d_method_4_41 rfl ?_
    refine Gl.icmpne Y0 d_method_4_42 (by decide) rfl rfl (fun c42 => ?_) (fun c42 => ?_)
    · refine Gl.iconst Y0 (v := (0 : Int32)) (by decide) d_method_4_49 rfl ?_
      refine Gl.istore Y0 (L' := #[.val (.int g), .val (.int (0 : Int32)), .val (.int (1 : Int32)), .val (.int ol), .val (.int os), .val (.int le), .val (.int se), .val (.int (0 : Int32)), .unset]) rfl d_method_4_50 rfl ?_
      refine Gl.iload Y0 rfl d_method_4_52 rfl ?_
      refine Gl.ifeq Y0 d_method_4_54 (by decide) rfl rfl (fun c54 => ?_) (fun c54 => ?_)
      rotate_left
      · exact absurd c54 (by decide)
      refine Gl.iconst Y0 (v := (0 : Int32)) (by decide) d_method_4_62 rfl ?_
      refine Gl.istore Y0 (L' := #[.val (.int g), .val (.int (0 : Int32)), .val (.int (1 : Int32)), .val (.int ol), .val (.int os), .val (.int le), .val (.int se), .val (.int (0 : Int32)), .val (.int (0 : Int32))]) rfl d_method_4_63 rfl ?_
      refine Gl.iloadN Y0 rfl d_method_4_65 rfl ?_
      refine Gl.iload Y0 rfl d_method_4_66 rfl ?_
      refine Gl.icmpne Y0 d_method_4_68 (by decide) rfl rfl (fun c68 => ?_) (fun c68 => ?_)
      · refine absurd ?_ c68
        rw [hg, own_mark_eq, if_neg (fun q => c42 q.2)]
      refine Gl.iconst Y0 (v := (1 : Int32)) (by decide) d_method_4_71 rfl ?_
      refine Gl.goto Y0 d_method_4_72 (by decide) rfl ?_
      exact Gl.retZ Y0 (by decide) (by decide) (x' := (1 : Int32)) (by decide) d_method_4_76 ⟨rfl, rfl⟩
    · refine Gl.iconst Y0 (v := (1 : Int32)) (by decide) d_method_4_45 rfl ?_
      refine Gl.goto Y0 d_method_4_46 (by decide) rfl ?_
      refine Gl.istore Y0 (L' := #[.val (.int g), .val (.int (0 : Int32)), .val (.int (1 : Int32)), .val (.int ol), .val (.int os), .val (.int le), .val (.int se), .val (.int (1 : Int32)), .unset]) rfl d_method_4_50 rfl ?_
      refine Gl.iload Y0 rfl d_method_4_52 rfl ?_
      refine Gl.ifeq Y0 d_method_4_54 (by decide) rfl rfl (fun c54 => ?_) (fun c54 => ?_)
      · exact absurd c54 (by decide)
      refine Gl.bipush Y0 (v := (-128 : Int32)) (by decide) d_method_4_57 rfl ?_
      refine Gl.goto Y0 d_method_4_59 (by decide) rfl ?_
      refine Gl.istore Y0 (L' := #[.val (.int g), .val (.int (0 : Int32)), .val (.int (1 : Int32)), .val (.int ol), .val (.int os), .val (.int le), .val (.int se), .val (.int (1 : Int32)), .val (.int (-128 : Int32))]) rfl d_method_4_63 rfl ?_
      refine Gl.iloadN Y0 rfl d_method_4_65 rfl ?_
      refine Gl.iload Y0 rfl d_method_4_66 rfl ?_
      refine Gl.icmpne Y0 d_method_4_68 (by decide) rfl rfl (fun c68 => ?_) (fun c68 => ?_)
      · refine absurd ?_ c68
        rw [hg, own_mark_eq, if_pos ⟨c27, c42⟩]
      refine Gl.iconst Y0 (v := (1 : Int32)) (by decide) d_method_4_71 rfl ?_
      refine Gl.goto Y0 d_method_4_72 (by decide) rfl ?_
      exact Gl.retZ Y0 (by decide) (by decide) (x' := (1 : Int32)) (by decide) d_method_4_76 ⟨rfl, rfl⟩
def R11 : Room := { frames := 0, cells := 0, slots := 0, locals := 0 }
def Q11 (Z : State) (g : Int32) (ol : Int32) (os : Int32) (le : Int32) (se : Int32) (h0 : Heap) (v : Option Value) (h : Heap) : Prop := v = some (.int (1 : Int32)) ∧ h0 = h
theorem ef11 (g : Int32) (ol : Int32) (os : Int32) (le : Int32) (se : Int32) (m : MethodId) : entryFrame m #[(.int g), (.int (0 : Int32)), (.int (2 : Int32)), (.int ol), (.int os), (.int le), (.int se)] 9 = mkF m 0 #[.val (.int g), .val (.int (0 : Int32)), .val (.int (2 : Int32)), .val (.int ol), .val (.int os), .val (.int le), .val (.int se), .unset, .unset] [] := by first | (simp [entryFrame, mkF, argsToLocals, Value.category]; done) | rfl
set_option maxRecDepth 65536 in
set_option maxHeartbeats 40000000 in
theorem rm11 (l : Launch) (Z : State) (a0 : Array Value) (hw : ∀ d ∈ tables_1, d.before a0 Z = true) (ws : List Jvm.Cond) (g : Int32) (ol : Int32) (os : Int32) (le : Int32) (se : Int32) (h0 : Heap) (n0 : Nat) (Z0 : n0 ≤ h0.size) (hg : g = own_mark ol le os se) : OMet l Z ws (⟨"com/example/ref_search/refsearch/matcher/BytesMarkPairPinLaw", "check", "(BIIBBII)Z"⟩ : MethodName) method_4_code 9 (some .boolean) R11 #[(.int g), (.int (0 : Int32)), (.int (2 : Int32)), (.int ol), (.int os), (.int le), (.int se)] h0 n0 (Q11 Z g ol os le se h0) := by
  refine OMet.of (plainFor_of_name pn_0) (ef11 g ol os le se) Z0 ?_
  intro p e s m below meth c T0 Y0 hnm
  have Y0 : Sd Z "com/example/ref_search/refsearch/matcher/BytesMarkPairPinLaw" method_4_code 9 (some .boolean) n0 p l e R11 s m #[(.int g), (.int (0 : Int32)), (.int (2 : Int32)), (.int ol), (.int os), (.int le), (.int se)] below meth c T0 h0 0 0 := Y0
  refine Gl.iloadN Y0 rfl d_method_4_0 rfl ?_
  refine Gl.iloadN Y0 rfl d_method_4_1 rfl ?_
  refine Gl.icmplt Y0 d_method_4_2 (by decide) rfl rfl (fun c2 => ?_) (fun c2 => ?_)
  rotate_left
  · exact absurd c2 (by decide)
  refine Gl.iloadN Y0 rfl d_method_4_16 rfl ?_
  refine Gl.sipush Y0 (v := (255 : Int32)) (by decide) d_method_4_17 rfl ?_
  refine Gl.iand Y0 rfl d_method_4_20 rfl ?_
  refine Gl.iload Y0 rfl d_method_4_21 rfl ?_
  refine Gl.sipush Y0 (v := (255 : Int32)) (by decide) d_method_4_23 rfl ?_
  refine Gl.iand Y0 rfl d_method_4_26 rfl ?_
  refine Gl.icmpne Y0 d_method_4_27 (by decide) rfl rfl (fun c27 => ?_) (fun c27 => ?_)
  · refine Gl.iconst Y0 (v := (0 : Int32)) (by decide) d_method_4_49 rfl ?_
    refine Gl.istore Y0 (L' := #[.val (.int g), .val (.int (0 : Int32)), .val (.int (2 : Int32)), .val (.int ol), .val (.int os), .val (.int le), .val (.int se), .val (.int (0 : Int32)), .unset]) rfl d_method_4_50 rfl ?_
    refine Gl.iload Y0 rfl d_method_4_52 rfl ?_
    refine Gl.ifeq Y0 d_method_4_54 (by decide) rfl rfl (fun c54 => ?_) (fun c54 => ?_)
    rotate_left
    · exact absurd c54 (by decide)
    refine Gl.iconst Y0 (v := (0 : Int32)) (by decide) d_method_4_62 rfl ?_
    refine Gl.istore Y0 (L' := #[.val (.int g), .val (.int (0 : Int32)), .val (.int (2 : Int32)), .val (.int ol), .val (.int os), .val (.int le), .val (.int se), .val (.int (0 : Int32)), .val (.int (0 : Int32))]) rfl d_method_4_63 rfl ?_
    refine Gl.iloadN Y0 rfl d_method_4_65 rfl ?_
    refine Gl.iload Y0 rfl d_method_4_66 rfl ?_
    refine Gl.icmpne Y0 d_method_4_68 (by decide) rfl rfl (fun c68 => ?_) (fun c68 => ?_)
    · refine absurd ?_ c68
      rw [hg, own_mark_eq, if_neg (fun q => c27 q.1)]
    refine Gl.iconst Y0 (v := (1 : Int32)) (by decide) d_method_4_71 rfl ?_
    refine Gl.goto Y0 d_method_4_72 (by decide) rfl ?_
    exact Gl.retZ Y0 (by decide) (by decide) (x' := (1 : Int32)) (by decide) d_method_4_76 ⟨rfl, rfl⟩
  · refine Gl.iload Y0 rfl d_method_4_30 rfl ?_
    refine Gl.sipush Y0 (v := (255 : Int32)) (by decide) d_method_4_32 rfl ?_
    refine Gl.iand Y0 rfl d_method_4_35 rfl ?_
    refine Gl.iload Y0 rfl d_method_4_36 rfl ?_
    refine Gl.sipush Y0 (v := (255 : Int32)) (by decide) d_method_4_38 rfl ?_
    refine Gl.iand Y0 rfl d_method_4_41 rfl ?_
    refine Gl.icmpne Y0 d_method_4_42 (by decide) rfl rfl (fun c42 => ?_) (fun c42 => ?_)
    · refine Gl.iconst Y0 (v := (0 : Int32)) (by decide) d_method_4_49 rfl ?_
      refine Gl.istore Y0 (L' := #[.val (.int g), .val (.int (0 : Int32)), .val (.int (2 : Int32)), .val (.int ol), .val (.int os), .val (.int le), .val (.int se), .val (.int (0 : Int32)), .unset]) rfl d_method_4_50 rfl ?_
      refine Gl.iload Y0 rfl d_method_4_52 rfl ?_
      refine Gl.ifeq Y0 d_method_4_54 (by decide) rfl rfl (fun c54 => ?_) (fun c54 => ?_)
      rotate_left
      · exact absurd c54 (by decide)
      refine Gl.iconst Y0 (v := (0 : Int32)) (by decide) d_method_4_62 rfl ?_
      refine Gl.istore Y0 (L' := #[.val (.int g), .val (.int (0 : Int32)), .val (.int (2 : Int32)), .val (.int ol), .val (.int os), .val (.int le), .val (.int se), .val (.int (0 : Int32)), .val (.int (0 : Int32))]) rfl d_method_4_63 rfl ?_
      refine Gl.iloadN Y0 rfl d_method_4_65 rfl ?_
      refine Gl.iload Y0 rfl d_method_4_66 rfl ?_
      refine Gl.icmpne Y0 d_method_4_68 (by decide) rfl rfl (fun c68 => ?_) (fun c68 => ?_)
      · refine absurd ?_ c68
        rw [hg, own_mark_eq, if_neg (fun q => c42 q.2)]
      refine Gl.iconst Y0 (v := (1 : Int32)) (by decide) d_method_4_71 rfl ?_
      refine Gl.goto Y0 d_method_4_72 (by decide) rfl ?_
      exact Gl.retZ Y0 (by decide) (by decide) (x' := (1 : Int32)) (by decide) d_method_4_76 ⟨rfl, rfl⟩
    · refine Gl.iconst Y0 (v := (1 : Int32)) (by decide) d_method_4_45 rfl ?_
      refine Gl.goto Y0 d_method_4_46 (by decide) rfl ?_
      refine Gl.istore Y0 (L' := #[.val (.int g), .val (.int (0 : Int32)), .val (.int (2 : Int32)), .val (.int ol), .val (.int os), .val (.int le), .val (.int se), .val (.int (1 : Int32)), .unset]) rfl d_method_4_50 rfl ?_
      refine Gl.iload Y0 rfl d_method_4_52 rfl ?_
      refine Gl.ifeq Y0 d_method_4_54 (by decide) rfl rfl (fun c54 => ?_) (fun c54 => ?_)
      · exact absurd c54 (by decide)
      refine Gl.bipush Y0 (v := (-128 : Int32)) (by decide) d_method_4_57 rfl ?_
      refine Gl.goto Y0 d_method_4_59 (by decide) rfl ?_
      refine Gl.istore Y0 (L' := #[.val (.int g), .val (.int (0 : Int32)), .val (.int (2 : Int32)), .val (.int ol), .val (.int os), .val (.int le), .val (.int se), .val (.int (1 : Int32)), .val (.int (-128 : Int32))]) rfl d_method_4_63 rfl ?_
      refine Gl.iloadN Y0 rfl d_method_4_65 rfl ?_
      refine Gl.iload Y0 rfl d_method_4_66 rfl ?_
      refine Gl.icmpne Y0 d_method_4_68 (by decide) rfl rfl (fun c68 => ?_) (fun c68 => ?_)
      · refine absurd ?_ c68
        rw [hg, own_mark_eq, if_pos ⟨c27, c42⟩]
      refine Gl.iconst Y0 (v := (1 : Int32)) (by decide) d_method_4_71 rfl ?_
      refine Gl.goto Y0 d_method_4_72 (by decide) rfl ?_
      exact Gl.retZ Y0 (by decide) (by decide) (x' := (1 : Int32)) (by decide) d_method_4_76 ⟨rfl, rfl⟩
def R12 : Room := { frames := 0, cells := 0, slots := 0, locals := 0 }
def Q12 (Z : State) (g : Int32) (ol : Int32) (os : Int32) (le : Int32) (se : Int32) (h0 : Heap) (v : Option Value) (h : Heap) : Prop := v = some (.int (1 : Int32)) ∧ h0 = h
theorem ef12 (g : Int32) (ol : Int32) (os : Int32) (le : Int32) (se : Int32) (m : MethodId) : entryFrame m #[(.int g), (.int (0 : Int32)), (.int (3 : Int32)), (.int ol), (.int os), (.int le), (.int se)] 9 = mkF m 0 #[.val (.int g), .val (.int (0 : Int32)), .val (.int (3 : Int32)), .val (.int ol), .val (.int os), .val (.int le), .val (.int se), .unset, .unset] [] := by first | (simp [entryFrame, mkF, argsToLocals, Value.category]; done) | rfl
set_option maxRecDepth 65536 in
set_option maxHeartbeats 40000000 in
theorem rm12 (l : Launch) (Z : State) (a0 : Array Value) (hw : ∀ d ∈ tables_1, d.before a0 Z = true) (ws : List Jvm.Cond) (g : Int32) (ol : Int32) (os : Int32) (le : Int32) (se : Int32) (h0 : Heap) (n0 : Nat) (Z0 : n0 ≤ h0.size) (hg : g = own_mark ol le os se) : OMet l Z ws (⟨"com/example/ref_search/refsearch/matcher/BytesMarkPairPinLaw", "check", "(BIIBBII)Z"⟩ : MethodName) method_4_code 9 (some .boolean) R12 #[(.int g), (.int (0 : Int32)), (.int (3 : Int32)), (.int ol), (.int os), (.int le), (.int se)] h0 n0 (Q12 Z g ol os le se h0) := by
  refine OMet.of (plainFor_of_name pn_0) (ef12 g ol os le se) Z0 ?_
  intro p e s m below meth c T0 Y0 hnm
  have Y0 : Sd Z "com/example/ref_search/refsearch/matcher/BytesMarkPairPinLaw" method_4_code 9 (some .boolean) n0 p l e R12 s m #[(.int g), (.int (0 : Int32)), (.int (3 : Int32)), (.int ol), (.int os), (.int le), (.int se)] below meth c T0 h0 0 0 := Y0
  refine Gl.iloadN Y0 rfl d_method_4_0 rfl ?_
  refine Gl.iloadN Y0 rfl d_method_4_1 rfl ?_
  refine Gl.icmplt Y0 d_method_4_2 (by decide) rfl rfl (fun c2 => ?_) (fun c2 => ?_)
  rotate_left
  · exact absurd c2 (by decide)
  refine Gl.iloadN Y0 rfl d_method_4_16 rfl ?_
  refine Gl.sipush Y0 (v := (255 : Int32)) (by decide) d_method_4_17 rfl ?_
  refine Gl.iand Y0 rfl d_method_4_20 rfl ?_
  refine Gl.iload Y0 rfl d_method_4_21 rfl ?_
  refine Gl.sipush Y0 (v := (255 : Int32)) (by decide) d_method_4_23 rfl ?_
  refine Gl.iand Y0 rfl d_method_4_26 rfl ?_
  refine Gl.icmpne Y0 d_method_4_27 (by decide) rfl rfl (fun c27 => ?_) (fun c27 => ?_)
  · refine Gl.iconst Y0 (v := (0 : Int32)) (by decide) d_method_4_49 rfl ?_
    refine Gl.istore Y0 (L' := #[.val (.int g), .val (.int (0 : Int32)), .val (.int (3 : Int32)), .val (.int ol), .val (.int os), .val (.int le), .val (.int se), .val (.int (0 : Int32)), .unset]) rfl d_method_4_50 rfl ?_
    refine Gl.iload Y0 rfl d_method_4_52 rfl ?_
    refine Gl.ifeq Y0 d_method_4_54 (by decide) rfl rfl (fun c54 => ?_) (fun c54 => ?_)
    rotate_left
    · exact absurd c54 (by decide)
    refine Gl.iconst Y0 (v := (0 : Int32)) (by decide) d_method_4_62 rfl ?_
    refine Gl.istore Y0 (L' := #[.val (.int g), .val (.int (0 : Int32)), .val (.int (3 : Int32)), .val (.int ol), .val (.int os), .val (.int le), .val (.int se), .val (.int (0 : Int32)), .val (.int (0 : Int32))]) rfl d_method_4_63 rfl ?_
    refine Gl.iloadN Y0 rfl d_method_4_65 rfl ?_
    refine Gl.iload Y0 rfl d_method_4_66 rfl ?_
    refine Gl.icmpne Y0 d_method_4_68 (by decide) rfl rfl (fun c68 => ?_) (fun c68 => ?_)
    · refine absurd ?_ c68
      rw [hg, own_mark_eq, if_neg (fun q => c27 q.1)]
    refine Gl.iconst Y0 (v := (1 : Int32)) (by decide) d_method_4_71 rfl ?_
    refine Gl.goto Y0 d_method_4_72 (by decide) rfl ?_
    exact Gl.retZ Y0 (by decide) (by decide) (x' := (1 : Int32)) (by decide) d_method_4_76 ⟨rfl, rfl⟩
  · refine Gl.iload Y0 rfl d_method_4_30 rfl ?_
    refine Gl.sipush Y0 (v := (255 : Int32)) (by decide) d_method_4_32 rfl ?_
    refine Gl.iand Y0 rfl d_method_4_35 rfl ?_
    refine Gl.iload Y0 rfl d_method_4_36 rfl ?_
    refine Gl.sipush Y0 (v := (255 : Int32)) (by decide) d_method_4_38 rfl ?_
    refine Gl.iand Y0 rfl d_method_4_41 rfl ?_
    refine Gl.icmpne Y0 d_method_4_42 (by decide) rfl rfl (fun c42 => ?_) (fun c42 => ?_)
    · refine Gl.iconst Y0 (v := (0 : Int32)) (by decide) d_method_4_49 rfl ?_
      refine Gl.istore Y0 (L' := #[.val (.int g), .val (.int (0 : Int32)), .val (.int (3 : Int32)), .val (.int ol), .val (.int os), .val (.int le), .val (.int se), .val (.int (0 : Int32)), .unset]) rfl d_method_4_50 rfl ?_
      refine Gl.iload Y0 rfl d_method_4_52 rfl ?_
      refine Gl.ifeq Y0 d_method_4_54 (by decide) rfl rfl (fun c54 => ?_) (fun c54 => ?_)
      rotate_left
      · exact absurd c54 (by decide)
      refine Gl.iconst Y0 (v := (0 : Int32)) (by decide) d_method_4_62 rfl ?_
      refine Gl.istore Y0 (L' := #[.val (.int g), .val (.int (0 : Int32)), .val (.int (3 : Int32)), .val (.int ol), .val (.int os), .val (.int le), .val (.int se), .val (.int (0 : Int32)), .val (.int (0 : Int32))]) rfl d_method_4_63 rfl ?_
      refine Gl.iloadN Y0 rfl d_method_4_65 rfl ?_
      refine Gl.iload Y0 rfl d_method_4_66 rfl ?_
      refine Gl.icmpne Y0 d_method_4_68 (by decide) rfl rfl (fun c68 => ?_) (fun c68 => ?_)
      · refine absurd ?_ c68
        rw [hg, own_mark_eq, if_neg (fun q => c42 q.2)]
      refine Gl.iconst Y0 (v := (1 : Int32)) (by decide) d_method_4_71 rfl ?_
      refine Gl.goto Y0 d_method_4_72 (by decide) rfl ?_
      exact Gl.retZ Y0 (by decide) (by decide) (x' := (1 : Int32)) (by decide) d_method_4_76 ⟨rfl, rfl⟩
    · refine Gl.iconst Y0 (v := (1 : Int32)) (by decide) d_method_4_45 rfl ?_
      refine Gl.goto Y0 d_method_4_46 (by decide) rfl ?_
      refine Gl.istore Y0 (L' := #[.val (.int g), .val (.int (0 : Int32)), .val (.int (3 : Int32)), .val (.int ol), .val (.int os), .val (.int le), .val (.int se), .val (.int (1 : Int32)), .unset]) rfl d_method_4_50 rfl ?_
      refine Gl.iload Y0 rfl d_method_4_52 rfl ?_
      refine Gl.ifeq Y0 d_method_4_54 (by decide) rfl rfl (fun c54 => ?_) (fun c54 => ?_)
      · exact absurd c54 (by decide)
      refine Gl.bipush Y0 (v := (-128 : Int32)) (by decide) d_method_4_57 rfl ?_
      refine Gl.goto Y0 d_method_4_59 (by decide) rfl ?_
      refine Gl.istore Y0 (L' := #[.val (.int g), .val (.int (0 : Int32)), .val (.int (3 : Int32)), .val (.int ol), .val (.int os), .val (.int le), .val (.int se), .val (.int (1 : Int32)), .val (.int (-128 : Int32))]) rfl d_method_4_63 rfl ?_
      refine Gl.iloadN Y0 rfl d_method_4_65 rfl ?_
      refine Gl.iload Y0 rfl d_method_4_66 rfl ?_
      refine Gl.icmpne Y0 d_method_4_68 (by decide) rfl rfl (fun c68 => ?_) (fun c68 => ?_)
      · refine absurd ?_ c68
        rw [hg, own_mark_eq, if_pos ⟨c27, c42⟩]
      refine Gl.iconst Y0 (v := (1 : Int32)) (by decide) d_method_4_71 rfl ?_
      refine Gl.goto Y0 d_method_4_72 (by decide) rfl ?_
      exact Gl.retZ Y0 (by decide) (by decide) (x' := (1 : Int32)) (by decide) d_method_4_76 ⟨rfl, rfl⟩
def R13 : Room := { frames := 0, cells := 0, slots := 0, locals := 0 }
def Q13 (Z : State) (g : Int32) (ol : Int32) (os : Int32) (le : Int32) (se : Int32) (h0 : Heap) (v : Option Value) (h : Heap) : Prop := v = some (.int (1 : Int32)) ∧ h0 = h
theorem ef13 (g : Int32) (ol : Int32) (os : Int32) (le : Int32) (se : Int32) (m : MethodId) : entryFrame m #[(.int g), (.int (1 : Int32)), (.int (0 : Int32)), (.int ol), (.int os), (.int le), (.int se)] 9 = mkF m 0 #[.val (.int g), .val (.int (1 : Int32)), .val (.int (0 : Int32)), .val (.int ol), .val (.int os), .val (.int le), .val (.int se), .unset, .unset] [] := by first | (simp [entryFrame, mkF, argsToLocals, Value.category]; done) | rfl
set_option maxRecDepth 65536 in
set_option maxHeartbeats 40000000 in
theorem rm13 (l : Launch) (Z : State) (a0 : Array Value) (hw : ∀ d ∈ tables_1, d.before a0 Z = true) (ws : List Jvm.Cond) (g : Int32) (ol : Int32) (os : Int32) (le : Int32) (se : Int32) (h0 : Heap) (n0 : Nat) (Z0 : n0 ≤ h0.size) (hg : g = ol) : OMet l Z ws (⟨"com/example/ref_search/refsearch/matcher/BytesMarkPairPinLaw", "check", "(BIIBBII)Z"⟩ : MethodName) method_4_code 9 (some .boolean) R13 #[(.int g), (.int (1 : Int32)), (.int (0 : Int32)), (.int ol), (.int os), (.int le), (.int se)] h0 n0 (Q13 Z g ol os le se h0) := by
  refine OMet.of (plainFor_of_name pn_0) (ef13 g ol os le se) Z0 ?_
  intro p e s m below meth c T0 Y0 hnm
  have Y0 : Sd Z "com/example/ref_search/refsearch/matcher/BytesMarkPairPinLaw" method_4_code 9 (some .boolean) n0 p l e R13 s m #[(.int g), (.int (1 : Int32)), (.int (0 : Int32)), (.int ol), (.int os), (.int le), (.int se)] below meth c T0 h0 0 0 := Y0
  refine Gl.iloadN Y0 rfl d_method_4_0 rfl ?_
  refine Gl.iloadN Y0 rfl d_method_4_1 rfl ?_
  refine Gl.icmplt Y0 d_method_4_2 (by decide) rfl rfl (fun c2 => ?_) (fun c2 => ?_)
  · exact absurd c2 (by decide)
  refine Gl.iloadN Y0 rfl d_method_4_5 rfl ?_
  refine Gl.iloadN Y0 rfl d_method_4_6 rfl ?_
  refine Gl.icmpne Y0 d_method_4_7 (by decide) rfl rfl (fun c7 => ?_) (fun c7 => ?_)
  · exact absurd hg c7
  refine Gl.iconst Y0 (v := (1 : Int32)) (by decide) d_method_4_10 rfl ?_
  refine Gl.goto Y0 d_method_4_11 (by decide) rfl ?_
  exact Gl.retZ Y0 (by decide) (by decide) (x' := (1 : Int32)) (by decide) d_method_4_15 ⟨rfl, rfl⟩
def R14 : Room := { frames := 0, cells := 0, slots := 0, locals := 0 }
def Q14 (Z : State) (g : Int32) (ol : Int32) (os : Int32) (le : Int32) (se : Int32) (h0 : Heap) (v : Option Value) (h : Heap) : Prop := v = some (.int (1 : Int32)) ∧ h0 = h
theorem ef14 (g : Int32) (ol : Int32) (os : Int32) (le : Int32) (se : Int32) (m : MethodId) : entryFrame m #[(.int g), (.int (1 : Int32)), (.int (1 : Int32)), (.int ol), (.int os), (.int le), (.int se)] 9 = mkF m 0 #[.val (.int g), .val (.int (1 : Int32)), .val (.int (1 : Int32)), .val (.int ol), .val (.int os), .val (.int le), .val (.int se), .unset, .unset] [] := by first | (simp [entryFrame, mkF, argsToLocals, Value.category]; done) | rfl
set_option maxRecDepth 65536 in
set_option maxHeartbeats 40000000 in
theorem rm14 (l : Launch) (Z : State) (a0 : Array Value) (hw : ∀ d ∈ tables_1, d.before a0 Z = true) (ws : List Jvm.Cond) (g : Int32) (ol : Int32) (os : Int32) (le : Int32) (se : Int32) (h0 : Heap) (n0 : Nat) (Z0 : n0 ≤ h0.size) (hg : g = ol) : OMet l Z ws (⟨"com/example/ref_search/refsearch/matcher/BytesMarkPairPinLaw", "check", "(BIIBBII)Z"⟩ : MethodName) method_4_code 9 (some .boolean) R14 #[(.int g), (.int (1 : Int32)), (.int (1 : Int32)), (.int ol), (.int os), (.int le), (.int se)] h0 n0 (Q14 Z g ol os le se h0) := by
  refine OMet.of (plainFor_of_name pn_0) (ef14 g ol os le se) Z0 ?_
  intro p e s m below meth c T0 Y0 hnm
  have Y0 : Sd Z "com/example/ref_search/refsearch/matcher/BytesMarkPairPinLaw" method_4_code 9 (some .boolean) n0 p l e R14 s m #[(.int g), (.int (1 : Int32)), (.int (1 : Int32)), (.int ol), (.int os), (.int le), (.int se)] below meth c T0 h0 0 0 := Y0
  refine Gl.iloadN Y0 rfl d_method_4_0 rfl ?_
  refine Gl.iloadN Y0 rfl d_method_4_1 rfl ?_
  refine Gl.icmplt Y0 d_method_4_2 (by decide) rfl rfl (fun c2 => ?_) (fun c2 => ?_)
  · exact absurd c2 (by decide)
  refine Gl.iloadN Y0 rfl d_method_4_5 rfl ?_
  refine Gl.iloadN Y0 rfl d_method_4_6 rfl ?_
  refine Gl.icmpne Y0 d_method_4_7 (by decide) rfl rfl (fun c7 => ?_) (fun c7 => ?_)
  · exact absurd hg c7
  refine Gl.iconst Y0 (v := (1 : Int32)) (by decide) d_method_4_10 rfl ?_
  refine Gl.goto Y0 d_method_4_11 (by decide) rfl ?_
  exact Gl.retZ Y0 (by decide) (by decide) (x' := (1 : Int32)) (by decide) d_method_4_15 ⟨rfl, rfl⟩
def R15 : Room := { frames := 0, cells := 0, slots := 0, locals := 0 }
def Q15 (Z : State) (g : Int32) (ol : Int32) (os : Int32) (le : Int32) (se : Int32) (h0 : Heap) (v : Option Value) (h : Heap) : Prop := v = some (.int (1 : Int32)) ∧ h0 = h
theorem ef15 (g : Int32) (ol : Int32) (os : Int32) (le : Int32) (se : Int32) (m : MethodId) : entryFrame m #[(.int g), (.int (1 : Int32)), (.int (2 : Int32)), (.int ol), (.int os), (.int le), (.int se)] 9 = mkF m 0 #[.val (.int g), .val (.int (1 : Int32)), .val (.int (2 : Int32)), .val (.int ol), .val (.int os), .val (.int le), .val (.int se), .unset, .unset] [] := by first | (simp [entryFrame, mkF, argsToLocals, Value.category]; done) | rfl
set_option maxRecDepth 65536 in
set_option maxHeartbeats 40000000 in
theorem rm15 (l : Launch) (Z : State) (a0 : Array Value) (hw : ∀ d ∈ tables_1, d.before a0 Z = true) (ws : List Jvm.Cond) (g : Int32) (ol : Int32) (os : Int32) (le : Int32) (se : Int32) (h0 : Heap) (n0 : Nat) (Z0 : n0 ≤ h0.size) (hg : g = own_mark ol le os se) : OMet l Z ws (⟨"com/example/ref_search/refsearch/matcher/BytesMarkPairPinLaw", "check", "(BIIBBII)Z"⟩ : MethodName) method_4_code 9 (some .boolean) R15 #[(.int g), (.int (1 : Int32)), (.int (2 : Int32)), (.int ol), (.int os), (.int le), (.int se)] h0 n0 (Q15 Z g ol os le se h0) := by
  refine OMet.of (plainFor_of_name pn_0) (ef15 g ol os le se) Z0 ?_
  intro p e s m below meth c T0 Y0 hnm
  have Y0 : Sd Z "com/example/ref_search/refsearch/matcher/BytesMarkPairPinLaw" method_4_code 9 (some .boolean) n0 p l e R15 s m #[(.int g), (.int (1 : Int32)), (.int (2 : Int32)), (.int ol), (.int os), (.int le), (.int se)] below meth c T0 h0 0 0 := Y0
  refine Gl.iloadN Y0 rfl d_method_4_0 rfl ?_
  refine Gl.iloadN Y0 rfl d_method_4_1 rfl ?_
  refine Gl.icmplt Y0 d_method_4_2 (by decide) rfl rfl (fun c2 => ?_) (fun c2 => ?_)
  rotate_left
  · exact absurd c2 (by decide)
  refine Gl.iloadN Y0 rfl d_method_4_16 rfl ?_
  refine Gl.sipush Y0 (v := (255 : Int32)) (by decide) d_method_4_17 rfl ?_
  refine Gl.iand Y0 rfl d_method_4_20 rfl ?_
  refine Gl.iload Y0 rfl d_method_4_21 rfl ?_
  refine Gl.sipush Y0 (v := (255 : Int32)) (by decide) d_method_4_23 rfl ?_
  refine Gl.iand Y0 rfl d_method_4_26 rfl ?_
  refine Gl.icmpne Y0 d_method_4_27 (by decide) rfl rfl (fun c27 => ?_) (fun c27 => ?_)
  · refine Gl.iconst Y0 (v := (0 : Int32)) (by decide) d_method_4_49 rfl ?_
    refine Gl.istore Y0 (L' := #[.val (.int g), .val (.int (1 : Int32)), .val (.int (2 : Int32)), .val (.int ol), .val (.int os), .val (.int le), .val (.int se), .val (.int (0 : Int32)), .unset]) rfl d_method_4_50 rfl ?_
    refine Gl.iload Y0 rfl d_method_4_52 rfl ?_
    refine Gl.ifeq Y0 d_method_4_54 (by decide) rfl rfl (fun c54 => ?_) (fun c54 => ?_)
    rotate_left
    · exact absurd c54 (by decide)
    refine Gl.iconst Y0 (v := (0 : Int32)) (by decide) d_method_4_62 rfl ?_
    refine Gl.istore Y0 (L' := #[.val (.int g), .val (.int (1 : Int32)), .val (.int (2 : Int32)), .val (.int ol), .val (.int os), .val (.int le), .val (.int se), .val (.int (0 : Int32)), .val (.int (0 : Int32))]) rfl d_method_4_63 rfl ?_
    refine Gl.iloadN Y0 rfl d_method_4_65 rfl ?_
    refine Gl.iload Y0 rfl d_method_4_66 rfl ?_
    refine Gl.icmpne Y0 d_method_4_68 (by decide) rfl rfl (fun c68 => ?_) (fun c68 => ?_)
    · refine absurd ?_ c68
      rw [hg, own_mark_eq, if_neg (fun q => c27 q.1)]
    refine Gl.iconst Y0 (v := (1 : Int32)) (by decide) d_method_4_71 rfl ?_
    refine Gl.goto Y0 d_method_4_72 (by decide) rfl ?_
    exact Gl.retZ Y0 (by decide) (by decide) (x' := (1 : Int32)) (by decide) d_method_4_76 ⟨rfl, rfl⟩
  · refine Gl.iload Y0 rfl d_method_4_30 rfl ?_
    refine Gl.sipush Y0 (v := (255 : Int32)) (by decide) d_method_4_32 rfl ?_
    refine Gl.iand Y0 rfl d_method_4_35 rfl ?_
    refine Gl.iload Y0 rfl d_method_4_36 rfl ?_
    refine Gl.sipush Y0 (v := (255 : Int32)) (by decide) d_method_4_38 rfl ?_
    refine Gl.iand Y0 rfl d_method_4_41 rfl ?_
    refine Gl.icmpne Y0 d_method_4_42 (by decide) rfl rfl (fun c42 => ?_) (fun c42 => ?_)
    · refine Gl.iconst Y0 (v := (0 : Int32)) (by decide) d_method_4_49 rfl ?_
      refine Gl.istore Y0 (L' := #[.val (.int g), .val (.int (1 : Int32)), .val (.int (2 : Int32)), .val (.int ol), .val (.int os), .val (.int le), .val (.int se), .val (.int (0 : Int32)), .unset]) rfl d_method_4_50 rfl ?_
      refine Gl.iload Y0 rfl d_method_4_52 rfl ?_
      refine Gl.ifeq Y0 d_method_4_54 (by decide) rfl rfl (fun c54 => ?_) (fun c54 => ?_)
      rotate_left
      · exact absurd c54 (by decide)
      refine Gl.iconst Y0 (v := (0 : Int32)) (by decide) d_method_4_62 rfl ?_
      refine Gl.istore Y0 (L' := #[.val (.int g), .val (.int (1 : Int32)), .val (.int (2 : Int32)), .val (.int ol), .val (.int os), .val (.int le), .val (.int se), .val (.int (0 : Int32)), .val (.int (0 : Int32))]) rfl d_method_4_63 rfl ?_
      refine Gl.iloadN Y0 rfl d_method_4_65 rfl ?_
      refine Gl.iload Y0 rfl d_method_4_66 rfl ?_
      refine Gl.icmpne Y0 d_method_4_68 (by decide) rfl rfl (fun c68 => ?_) (fun c68 => ?_)
      · refine absurd ?_ c68
        rw [hg, own_mark_eq, if_neg (fun q => c42 q.2)]
      refine Gl.iconst Y0 (v := (1 : Int32)) (by decide) d_method_4_71 rfl ?_
      refine Gl.goto Y0 d_method_4_72 (by decide) rfl ?_
      exact Gl.retZ Y0 (by decide) (by decide) (x' := (1 : Int32)) (by decide) d_method_4_76 ⟨rfl, rfl⟩
    · refine Gl.iconst Y0 (v := (1 : Int32)) (by decide) d_method_4_45 rfl ?_
      refine Gl.goto Y0 d_method_4_46 (by decide) rfl ?_
      refine Gl.istore Y0 (L' := #[.val (.int g), .val (.int (1 : Int32)), .val (.int (2 : Int32)), .val (.int ol), .val (.int os), .val (.int le), .val (.int se), .val (.int (1 : Int32)), .unset]) rfl d_method_4_50 rfl ?_
      refine Gl.iload Y0 rfl d_method_4_52 rfl ?_
      refine Gl.ifeq Y0 d_method_4_54 (by decide) rfl rfl (fun c54 => ?_) (fun c54 => ?_)
      · exact absurd c54 (by decide)
      refine Gl.bipush Y0 (v := (-128 : Int32)) (by decide) d_method_4_57 rfl ?_
      refine Gl.goto Y0 d_method_4_59 (by decide) rfl ?_
      refine Gl.istore Y0 (L' := #[.val (.int g), .val (.int (1 : Int32)), .val (.int (2 : Int32)), .val (.int ol), .val (.int os), .val (.int le), .val (.int se), .val (.int (1 : Int32)), .val (.int (-128 : Int32))]) rfl d_method_4_63 rfl ?_
      refine Gl.iloadN Y0 rfl d_method_4_65 rfl ?_
      refine Gl.iload Y0 rfl d_method_4_66 rfl ?_
      refine Gl.icmpne Y0 d_method_4_68 (by decide) rfl rfl (fun c68 => ?_) (fun c68 => ?_)
      · refine absurd ?_ c68
        rw [hg, own_mark_eq, if_pos ⟨c27, c42⟩]
      refine Gl.iconst Y0 (v := (1 : Int32)) (by decide) d_method_4_71 rfl ?_
      refine Gl.goto Y0 d_method_4_72 (by decide) rfl ?_
      exact Gl.retZ Y0 (by decide) (by decide) (x' := (1 : Int32)) (by decide) d_method_4_76 ⟨rfl, rfl⟩
def R16 : Room := { frames := 0, cells := 0, slots := 0, locals := 0 }
def Q16 (Z : State) (g : Int32) (ol : Int32) (os : Int32) (le : Int32) (se : Int32) (h0 : Heap) (v : Option Value) (h : Heap) : Prop := v = some (.int (1 : Int32)) ∧ h0 = h
theorem ef16 (g : Int32) (ol : Int32) (os : Int32) (le : Int32) (se : Int32) (m : MethodId) : entryFrame m #[(.int g), (.int (1 : Int32)), (.int (3 : Int32)), (.int ol), (.int os), (.int le), (.int se)] 9 = mkF m 0 #[.val (.int g), .val (.int (1 : Int32)), .val (.int (3 : Int32)), .val (.int ol), .val (.int os), .val (.int le), .val (.int se), .unset, .unset] [] := by first | (simp [entryFrame, mkF, argsToLocals, Value.category]; done) | rfl
set_option maxRecDepth 65536 in
set_option maxHeartbeats 40000000 in
theorem rm16 (l : Launch) (Z : State) (a0 : Array Value) (hw : ∀ d ∈ tables_1, d.before a0 Z = true) (ws : List Jvm.Cond) (g : Int32) (ol : Int32) (os : Int32) (le : Int32) (se : Int32) (h0 : Heap) (n0 : Nat) (Z0 : n0 ≤ h0.size) (hg : g = own_mark ol le os se) : OMet l Z ws (⟨"com/example/ref_search/refsearch/matcher/BytesMarkPairPinLaw", "check", "(BIIBBII)Z"⟩ : MethodName) method_4_code 9 (some .boolean) R16 #[(.int g), (.int (1 : Int32)), (.int (3 : Int32)), (.int ol), (.int os), (.int le), (.int se)] h0 n0 (Q16 Z g ol os le se h0) := by
  refine OMet.of (plainFor_of_name pn_0) (ef16 g ol os le se) Z0 ?_
  intro p e s m below meth c T0 Y0 hnm
  have Y0 : Sd Z "com/example/ref_search/refsearch/matcher/BytesMarkPairPinLaw" method_4_code 9 (some .boolean) n0 p l e R16 s m #[(.int g), (.int (1 : Int32)), (.int (3 : Int32)), (.int ol), (.int os), (.int le), (.int se)] below meth c T0 h0 0 0 := Y0
  refine Gl.iloadN Y0 rfl d_method_4_0 rfl ?_
  refine Gl.iloadN Y0 rfl d_method_4_1 rfl ?_
  refine Gl.icmplt Y0 d_method_4_2 (by decide) rfl rfl (fun c2 => ?_) (fun c2 => ?_)
  rotate_left
  · exact absurd c2 (by decide)
  refine Gl.iloadN Y0 rfl d_method_4_16 rfl ?_
  refine Gl.sipush Y0 (v := (255 : Int32)) (by decide) d_method_4_17 rfl ?_
  refine Gl.iand Y0 rfl d_method_4_20 rfl ?_
  refine Gl.iload Y0 rfl d_method_4_21 rfl ?_
  refine Gl.sipush Y0 (v := (255 : Int32)) (by decide) d_method_4_23 rfl ?_
  refine Gl.iand Y0 rfl d_method_4_26 rfl ?_
  refine Gl.icmpne Y0 d_method_4_27 (by decide) rfl rfl (fun c27 => ?_) (fun c27 => ?_)
  · refine Gl.iconst Y0 (v := (0 : Int32)) (by decide) d_method_4_49 rfl ?_
    refine Gl.istore Y0 (L' := #[.val (.int g), .val (.int (1 : Int32)), .val (.int (3 : Int32)), .val (.int ol), .val (.int os), .val (.int le), .val (.int se), .val (.int (0 : Int32)), .unset]) rfl d_method_4_50 rfl ?_
    refine Gl.iload Y0 rfl d_method_4_52 rfl ?_
    refine Gl.ifeq Y0 d_method_4_54 (by decide) rfl rfl (fun c54 => ?_) (fun c54 => ?_)
    rotate_left
    · exact absurd c54 (by decide)
    refine Gl.iconst Y0 (v := (0 : Int32)) (by decide) d_method_4_62 rfl ?_
    refine Gl.istore Y0 (L' := #[.val (.int g), .val (.int (1 : Int32)), .val (.int (3 : Int32)), .val (.int ol), .val (.int os), .val (.int le), .val (.int se), .val (.int (0 : Int32)), .val (.int (0 : Int32))]) rfl d_method_4_63 rfl ?_
    refine Gl.iloadN Y0 rfl d_method_4_65 rfl ?_
    refine Gl.iload Y0 rfl d_method_4_66 rfl ?_
    refine Gl.icmpne Y0 d_method_4_68 (by decide) rfl rfl (fun c68 => ?_) (fun c68 => ?_)
    · refine absurd ?_ c68
      rw [hg, own_mark_eq, if_neg (fun q => c27 q.1)]
    refine Gl.iconst Y0 (v := (1 : Int32)) (by decide) d_method_4_71 rfl ?_
    refine Gl.goto Y0 d_method_4_72 (by decide) rfl ?_
    exact Gl.retZ Y0 (by decide) (by decide) (x' := (1 : Int32)) (by decide) d_method_4_76 ⟨rfl, rfl⟩
  · refine Gl.iload Y0 rfl d_method_4_30 rfl ?_
    refine Gl.sipush Y0 (v := (255 : Int32)) (by decide) d_method_4_32 rfl ?_
    refine Gl.iand Y0 rfl d_method_4_35 rfl ?_
    refine Gl.iload Y0 rfl d_method_4_36 rfl ?_
    refine Gl.sipush Y0 (v := (255 : Int32)) (by decide) d_method_4_38 rfl ?_
    refine Gl.iand Y0 rfl d_method_4_41 rfl ?_
    refine Gl.icmpne Y0 d_method_4_42 (by decide) rfl rfl (fun c42 => ?_) (fun c42 => ?_)
    · refine Gl.iconst Y0 (v := (0 : Int32)) (by decide) d_method_4_49 rfl ?_
      refine Gl.istore Y0 (L' := #[.val (.int g), .val (.int (1 : Int32)), .val (.int (3 : Int32)), .val (.int ol), .val (.int os), .val (.int le), .val (.int se), .val (.int (0 : Int32)), .unset]) rfl d_method_4_50 rfl ?_
      refine Gl.iload Y0 rfl d_method_4_52 rfl ?_
      refine Gl.ifeq Y0 d_method_4_54 (by decide) rfl rfl (fun c54 => ?_) (fun c54 => ?_)
      rotate_left
      · exact absurd c54 (by decide)
      refine Gl.iconst Y0 (v := (0 : Int32)) (by decide) d_method_4_62 rfl ?_
      refine Gl.istore Y0 (L' := #[.val (.int g), .val (.int (1 : Int32)), .val (.int (3 : Int32)), .val (.int ol), .val (.int os), .val (.int le), .val (.int se), .val (.int (0 : Int32)), .val (.int (0 : Int32))]) rfl d_method_4_63 rfl ?_
      refine Gl.iloadN Y0 rfl d_method_4_65 rfl ?_
      refine Gl.iload Y0 rfl d_method_4_66 rfl ?_
      refine Gl.icmpne Y0 d_method_4_68 (by decide) rfl rfl (fun c68 => ?_) (fun c68 => ?_)
      · refine absurd ?_ c68
        rw [hg, own_mark_eq, if_neg (fun q => c42 q.2)]
      refine Gl.iconst Y0 (v := (1 : Int32)) (by decide) d_method_4_71 rfl ?_
      refine Gl.goto Y0 d_method_4_72 (by decide) rfl ?_
      exact Gl.retZ Y0 (by decide) (by decide) (x' := (1 : Int32)) (by decide) d_method_4_76 ⟨rfl, rfl⟩
    · refine Gl.iconst Y0 (v := (1 : Int32)) (by decide) d_method_4_45 rfl ?_
      refine Gl.goto Y0 d_method_4_46 (by decide) rfl ?_
      refine Gl.istore Y0 (L' := #[.val (.int g), .val (.int (1 : Int32)), .val (.int (3 : Int32)), .val (.int ol), .val (.int os), .val (.int le), .val (.int se), .val (.int (1 : Int32)), .unset]) rfl d_method_4_50 rfl ?_
      refine Gl.iload Y0 rfl d_method_4_52 rfl ?_
      refine Gl.ifeq Y0 d_method_4_54 (by decide) rfl rfl (fun c54 => ?_) (fun c54 => ?_)
      · exact absurd c54 (by decide)
      refine Gl.bipush Y0 (v := (-128 : Int32)) (by decide) d_method_4_57 rfl ?_
      refine Gl.goto Y0 d_method_4_59 (by decide) rfl ?_
      refine Gl.istore Y0 (L' := #[.val (.int g), .val (.int (1 : Int32)), .val (.int (3 : Int32)), .val (.int ol), .val (.int os), .val (.int le), .val (.int se), .val (.int (1 : Int32)), .val (.int (-128 : Int32))]) rfl d_method_4_63 rfl ?_
      refine Gl.iloadN Y0 rfl d_method_4_65 rfl ?_
      refine Gl.iload Y0 rfl d_method_4_66 rfl ?_
      refine Gl.icmpne Y0 d_method_4_68 (by decide) rfl rfl (fun c68 => ?_) (fun c68 => ?_)
      · refine absurd ?_ c68
        rw [hg, own_mark_eq, if_pos ⟨c27, c42⟩]
      refine Gl.iconst Y0 (v := (1 : Int32)) (by decide) d_method_4_71 rfl ?_
      refine Gl.goto Y0 d_method_4_72 (by decide) rfl ?_
      exact Gl.retZ Y0 (by decide) (by decide) (x' := (1 : Int32)) (by decide) d_method_4_76 ⟨rfl, rfl⟩
def R17 : Room := { frames := 0, cells := 0, slots := 0, locals := 0 }
def Q17 (Z : State) (g : Int32) (ol : Int32) (os : Int32) (le : Int32) (se : Int32) (h0 : Heap) (v : Option Value) (h : Heap) : Prop := v = some (.int (1 : Int32)) ∧ h0 = h
theorem ef17 (g : Int32) (ol : Int32) (os : Int32) (le : Int32) (se : Int32) (m : MethodId) : entryFrame m #[(.int g), (.int (2 : Int32)), (.int (0 : Int32)), (.int ol), (.int os), (.int le), (.int se)] 9 = mkF m 0 #[.val (.int g), .val (.int (2 : Int32)), .val (.int (0 : Int32)), .val (.int ol), .val (.int os), .val (.int le), .val (.int se), .unset, .unset] [] := by first | (simp [entryFrame, mkF, argsToLocals, Value.category]; done) | rfl
set_option maxRecDepth 65536 in
set_option maxHeartbeats 40000000 in
theorem rm17 (l : Launch) (Z : State) (a0 : Array Value) (hw : ∀ d ∈ tables_1, d.before a0 Z = true) (ws : List Jvm.Cond) (g : Int32) (ol : Int32) (os : Int32) (le : Int32) (se : Int32) (h0 : Heap) (n0 : Nat) (Z0 : n0 ≤ h0.size) (hg : g = ol) : OMet l Z ws (⟨"com/example/ref_search/refsearch/matcher/BytesMarkPairPinLaw", "check", "(BIIBBII)Z"⟩ : MethodName) method_4_code 9 (some .boolean) R17 #[(.int g), (.int (2 : Int32)), (.int (0 : Int32)), (.int ol), (.int os), (.int le), (.int se)] h0 n0 (Q17 Z g ol os le se h0) := by
  refine OMet.of (plainFor_of_name pn_0) (ef17 g ol os le se) Z0 ?_
  intro p e s m below meth c T0 Y0 hnm
  have Y0 : Sd Z "com/example/ref_search/refsearch/matcher/BytesMarkPairPinLaw" method_4_code 9 (some .boolean) n0 p l e R17 s m #[(.int g), (.int (2 : Int32)), (.int (0 : Int32)), (.int ol), (.int os), (.int le), (.int se)] below meth c T0 h0 0 0 := Y0
  refine Gl.iloadN Y0 rfl d_method_4_0 rfl ?_
  refine Gl.iloadN Y0 rfl d_method_4_1 rfl ?_
  refine Gl.icmplt Y0 d_method_4_2 (by decide) rfl rfl (fun c2 => ?_) (fun c2 => ?_)
  · exact absurd c2 (by decide)
  refine Gl.iloadN Y0 rfl d_method_4_5 rfl ?_
  refine Gl.iloadN Y0 rfl d_method_4_6 rfl ?_
  refine Gl.icmpne Y0 d_method_4_7 (by decide) rfl rfl (fun c7 => ?_) (fun c7 => ?_)
  · exact absurd hg c7
  refine Gl.iconst Y0 (v := (1 : Int32)) (by decide) d_method_4_10 rfl ?_
  refine Gl.goto Y0 d_method_4_11 (by decide) rfl ?_
  exact Gl.retZ Y0 (by decide) (by decide) (x' := (1 : Int32)) (by decide) d_method_4_15 ⟨rfl, rfl⟩
def R18 : Room := { frames := 0, cells := 0, slots := 0, locals := 0 }
def Q18 (Z : State) (g : Int32) (ol : Int32) (os : Int32) (le : Int32) (se : Int32) (h0 : Heap) (v : Option Value) (h : Heap) : Prop := v = some (.int (1 : Int32)) ∧ h0 = h
theorem ef18 (g : Int32) (ol : Int32) (os : Int32) (le : Int32) (se : Int32) (m : MethodId) : entryFrame m #[(.int g), (.int (2 : Int32)), (.int (1 : Int32)), (.int ol), (.int os), (.int le), (.int se)] 9 = mkF m 0 #[.val (.int g), .val (.int (2 : Int32)), .val (.int (1 : Int32)), .val (.int ol), .val (.int os), .val (.int le), .val (.int se), .unset, .unset] [] := by first | (simp [entryFrame, mkF, argsToLocals, Value.category]; done) | rfl
set_option maxRecDepth 65536 in
set_option maxHeartbeats 40000000 in
theorem rm18 (l : Launch) (Z : State) (a0 : Array Value) (hw : ∀ d ∈ tables_1, d.before a0 Z = true) (ws : List Jvm.Cond) (g : Int32) (ol : Int32) (os : Int32) (le : Int32) (se : Int32) (h0 : Heap) (n0 : Nat) (Z0 : n0 ≤ h0.size) (hg : g = ol) : OMet l Z ws (⟨"com/example/ref_search/refsearch/matcher/BytesMarkPairPinLaw", "check", "(BIIBBII)Z"⟩ : MethodName) method_4_code 9 (some .boolean) R18 #[(.int g), (.int (2 : Int32)), (.int (1 : Int32)), (.int ol), (.int os), (.int le), (.int se)] h0 n0 (Q18 Z g ol os le se h0) := by
  refine OMet.of (plainFor_of_name pn_0) (ef18 g ol os le se) Z0 ?_
  intro p e s m below meth c T0 Y0 hnm
  have Y0 : Sd Z "com/example/ref_search/refsearch/matcher/BytesMarkPairPinLaw" method_4_code 9 (some .boolean) n0 p l e R18 s m #[(.int g), (.int (2 : Int32)), (.int (1 : Int32)), (.int ol), (.int os), (.int le), (.int se)] below meth c T0 h0 0 0 := Y0
  refine Gl.iloadN Y0 rfl d_method_4_0 rfl ?_
  refine Gl.iloadN Y0 rfl d_method_4_1 rfl ?_
  refine Gl.icmplt Y0 d_method_4_2 (by decide) rfl rfl (fun c2 => ?_) (fun c2 => ?_)
  · exact absurd c2 (by decide)
  refine Gl.iloadN Y0 rfl d_method_4_5 rfl ?_
  refine Gl.iloadN Y0 rfl d_method_4_6 rfl ?_
  refine Gl.icmpne Y0 d_method_4_7 (by decide) rfl rfl (fun c7 => ?_) (fun c7 => ?_)
  · exact absurd hg c7
  refine Gl.iconst Y0 (v := (1 : Int32)) (by decide) d_method_4_10 rfl ?_
  refine Gl.goto Y0 d_method_4_11 (by decide) rfl ?_
  exact Gl.retZ Y0 (by decide) (by decide) (x' := (1 : Int32)) (by decide) d_method_4_15 ⟨rfl, rfl⟩
def R19 : Room := { frames := 0, cells := 0, slots := 0, locals := 0 }
def Q19 (Z : State) (g : Int32) (ol : Int32) (os : Int32) (le : Int32) (se : Int32) (h0 : Heap) (v : Option Value) (h : Heap) : Prop := v = some (.int (1 : Int32)) ∧ h0 = h
theorem ef19 (g : Int32) (ol : Int32) (os : Int32) (le : Int32) (se : Int32) (m : MethodId) : entryFrame m #[(.int g), (.int (2 : Int32)), (.int (2 : Int32)), (.int ol), (.int os), (.int le), (.int se)] 9 = mkF m 0 #[.val (.int g), .val (.int (2 : Int32)), .val (.int (2 : Int32)), .val (.int ol), .val (.int os), .val (.int le), .val (.int se), .unset, .unset] [] := by first | (simp [entryFrame, mkF, argsToLocals, Value.category]; done) | rfl
set_option maxRecDepth 65536 in
set_option maxHeartbeats 40000000 in
theorem rm19 (l : Launch) (Z : State) (a0 : Array Value) (hw : ∀ d ∈ tables_1, d.before a0 Z = true) (ws : List Jvm.Cond) (g : Int32) (ol : Int32) (os : Int32) (le : Int32) (se : Int32) (h0 : Heap) (n0 : Nat) (Z0 : n0 ≤ h0.size) (hg : g = ol) : OMet l Z ws (⟨"com/example/ref_search/refsearch/matcher/BytesMarkPairPinLaw", "check", "(BIIBBII)Z"⟩ : MethodName) method_4_code 9 (some .boolean) R19 #[(.int g), (.int (2 : Int32)), (.int (2 : Int32)), (.int ol), (.int os), (.int le), (.int se)] h0 n0 (Q19 Z g ol os le se h0) := by
  refine OMet.of (plainFor_of_name pn_0) (ef19 g ol os le se) Z0 ?_
  intro p e s m below meth c T0 Y0 hnm
  have Y0 : Sd Z "com/example/ref_search/refsearch/matcher/BytesMarkPairPinLaw" method_4_code 9 (some .boolean) n0 p l e R19 s m #[(.int g), (.int (2 : Int32)), (.int (2 : Int32)), (.int ol), (.int os), (.int le), (.int se)] below meth c T0 h0 0 0 := Y0
  refine Gl.iloadN Y0 rfl d_method_4_0 rfl ?_
  refine Gl.iloadN Y0 rfl d_method_4_1 rfl ?_
  refine Gl.icmplt Y0 d_method_4_2 (by decide) rfl rfl (fun c2 => ?_) (fun c2 => ?_)
  · exact absurd c2 (by decide)
  refine Gl.iloadN Y0 rfl d_method_4_5 rfl ?_
  refine Gl.iloadN Y0 rfl d_method_4_6 rfl ?_
  refine Gl.icmpne Y0 d_method_4_7 (by decide) rfl rfl (fun c7 => ?_) (fun c7 => ?_)
  · exact absurd hg c7
  refine Gl.iconst Y0 (v := (1 : Int32)) (by decide) d_method_4_10 rfl ?_
  refine Gl.goto Y0 d_method_4_11 (by decide) rfl ?_
  exact Gl.retZ Y0 (by decide) (by decide) (x' := (1 : Int32)) (by decide) d_method_4_15 ⟨rfl, rfl⟩
def R20 : Room := { frames := 0, cells := 0, slots := 0, locals := 0 }
def Q20 (Z : State) (g : Int32) (ol : Int32) (os : Int32) (le : Int32) (se : Int32) (h0 : Heap) (v : Option Value) (h : Heap) : Prop := v = some (.int (1 : Int32)) ∧ h0 = h
theorem ef20 (g : Int32) (ol : Int32) (os : Int32) (le : Int32) (se : Int32) (m : MethodId) : entryFrame m #[(.int g), (.int (2 : Int32)), (.int (3 : Int32)), (.int ol), (.int os), (.int le), (.int se)] 9 = mkF m 0 #[.val (.int g), .val (.int (2 : Int32)), .val (.int (3 : Int32)), .val (.int ol), .val (.int os), .val (.int le), .val (.int se), .unset, .unset] [] := by first | (simp [entryFrame, mkF, argsToLocals, Value.category]; done) | rfl
set_option maxRecDepth 65536 in
set_option maxHeartbeats 40000000 in
theorem rm20 (l : Launch) (Z : State) (a0 : Array Value) (hw : ∀ d ∈ tables_1, d.before a0 Z = true) (ws : List Jvm.Cond) (g : Int32) (ol : Int32) (os : Int32) (le : Int32) (se : Int32) (h0 : Heap) (n0 : Nat) (Z0 : n0 ≤ h0.size) (hg : g = own_mark ol le os se) : OMet l Z ws (⟨"com/example/ref_search/refsearch/matcher/BytesMarkPairPinLaw", "check", "(BIIBBII)Z"⟩ : MethodName) method_4_code 9 (some .boolean) R20 #[(.int g), (.int (2 : Int32)), (.int (3 : Int32)), (.int ol), (.int os), (.int le), (.int se)] h0 n0 (Q20 Z g ol os le se h0) := by
  refine OMet.of (plainFor_of_name pn_0) (ef20 g ol os le se) Z0 ?_
  intro p e s m below meth c T0 Y0 hnm
  have Y0 : Sd Z "com/example/ref_search/refsearch/matcher/BytesMarkPairPinLaw" method_4_code 9 (some .boolean) n0 p l e R20 s m #[(.int g), (.int (2 : Int32)), (.int (3 : Int32)), (.int ol), (.int os), (.int le), (.int se)] below meth c T0 h0 0 0 := Y0
  refine Gl.iloadN Y0 rfl d_method_4_0 rfl ?_
  refine Gl.iloadN Y0 rfl d_method_4_1 rfl ?_
  refine Gl.icmplt Y0 d_method_4_2 (by decide) rfl rfl (fun c2 => ?_) (fun c2 => ?_)
  rotate_left
  · exact absurd c2 (by decide)
  refine Gl.iloadN Y0 rfl d_method_4_16 rfl ?_
  refine Gl.sipush Y0 (v := (255 : Int32)) (by decide) d_method_4_17 rfl ?_
  refine Gl.iand Y0 rfl d_method_4_20 rfl ?_
  refine Gl.iload Y0 rfl d_method_4_21 rfl ?_
  refine Gl.sipush Y0 (v := (255 : Int32)) (by decide) d_method_4_23 rfl ?_
  refine Gl.iand Y0 rfl d_method_4_26 rfl ?_
  refine Gl.icmpne Y0 d_method_4_27 (by decide) rfl rfl (fun c27 => ?_) (fun c27 => ?_)
  · refine Gl.iconst Y0 (v := (0 : Int32)) (by decide) d_method_4_49 rfl ?_
    refine Gl.istore Y0 (L' := #[.val (.int g), .val (.int (2 : Int32)), .val (.int (3 : Int32)), .val (.int ol), .val (.int os), .val (.int le), .val (.int se), .val (.int (0 : Int32)), .unset]) rfl d_method_4_50 rfl ?_
    refine Gl.iload Y0 rfl d_method_4_52 rfl ?_
    refine Gl.ifeq Y0 d_method_4_54 (by decide) rfl rfl (fun c54 => ?_) (fun c54 => ?_)
    rotate_left
    · exact absurd c54 (by decide)
    refine Gl.iconst Y0 (v := (0 : Int32)) (by decide) d_method_4_62 rfl ?_
    refine Gl.istore Y0 (L' := #[.val (.int g), .val (.int (2 : Int32)), .val (.int (3 : Int32)), .val (.int ol), .val (.int os), .val (.int le), .val (.int se), .val (.int (0 : Int32)), .val (.int (0 : Int32))]) rfl d_method_4_63 rfl ?_
    refine Gl.iloadN Y0 rfl d_method_4_65 rfl ?_
    refine Gl.iload Y0 rfl d_method_4_66 rfl ?_
    refine Gl.icmpne Y0 d_method_4_68 (by decide) rfl rfl (fun c68 => ?_) (fun c68 => ?_)
    · refine absurd ?_ c68
      rw [hg, own_mark_eq, if_neg (fun q => c27 q.1)]
    refine Gl.iconst Y0 (v := (1 : Int32)) (by decide) d_method_4_71 rfl ?_
    refine Gl.goto Y0 d_method_4_72 (by decide) rfl ?_
    exact Gl.retZ Y0 (by decide) (by decide) (x' := (1 : Int32)) (by decide) d_method_4_76 ⟨rfl, rfl⟩
  · refine Gl.iload Y0 rfl d_method_4_30 rfl ?_
    refine Gl.sipush Y0 (v := (255 : Int32)) (by decide) d_method_4_32 rfl ?_
    refine Gl.iand Y0 rfl d_method_4_35 rfl ?_
    refine Gl.iload Y0 rfl d_method_4_36 rfl ?_
    refine Gl.sipush Y0 (v := (255 : Int32)) (by decide) d_method_4_38 rfl ?_
    refine Gl.iand Y0 rfl d_method_4_41 rfl ?_
    refine Gl.icmpne Y0 d_method_4_42 (by decide) rfl rfl (fun c42 => ?_) (fun c42 => ?_)
    · refine Gl.iconst Y0 (v := (0 : Int32)) (by decide) d_method_4_49 rfl ?_
      refine Gl.istore Y0 (L' := #[.val (.int g), .val (.int (2 : Int32)), .val (.int (3 : Int32)), .val (.int ol), .val (.int os), .val (.int le), .val (.int se), .val (.int (0 : Int32)), .unset]) rfl d_method_4_50 rfl ?_
      refine Gl.iload Y0 rfl d_method_4_52 rfl ?_
      refine Gl.ifeq Y0 d_method_4_54 (by decide) rfl rfl (fun c54 => ?_) (fun c54 => ?_)
      rotate_left
      · exact absurd c54 (by decide)
      refine Gl.iconst Y0 (v := (0 : Int32)) (by decide) d_method_4_62 rfl ?_
      refine Gl.istore Y0 (L' := #[.val (.int g), .val (.int (2 : Int32)), .val (.int (3 : Int32)), .val (.int ol), .val (.int os), .val (.int le), .val (.int se), .val (.int (0 : Int32)), .val (.int (0 : Int32))]) rfl d_method_4_63 rfl ?_
      refine Gl.iloadN Y0 rfl d_method_4_65 rfl ?_
      refine Gl.iload Y0 rfl d_method_4_66 rfl ?_
      refine Gl.icmpne Y0 d_method_4_68 (by decide) rfl rfl (fun c68 => ?_) (fun c68 => ?_)
      · refine absurd ?_ c68
        rw [hg, own_mark_eq, if_neg (fun q => c42 q.2)]
      refine Gl.iconst Y0 (v := (1 : Int32)) (by decide) d_method_4_71 rfl ?_
      refine Gl.goto Y0 d_method_4_72 (by decide) rfl ?_
      exact Gl.retZ Y0 (by decide) (by decide) (x' := (1 : Int32)) (by decide) d_method_4_76 ⟨rfl, rfl⟩
    · refine Gl.iconst Y0 (v := (1 : Int32)) (by decide) d_method_4_45 rfl ?_
      refine Gl.goto Y0 d_method_4_46 (by decide) rfl ?_
      refine Gl.istore Y0 (L' := #[.val (.int g), .val (.int (2 : Int32)), .val (.int (3 : Int32)), .val (.int ol), .val (.int os), .val (.int le), .val (.int se), .val (.int (1 : Int32)), .unset]) rfl d_method_4_50 rfl ?_
      refine Gl.iload Y0 rfl d_method_4_52 rfl ?_
      refine Gl.ifeq Y0 d_method_4_54 (by decide) rfl rfl (fun c54 => ?_) (fun c54 => ?_)
      · exact absurd c54 (by decide)
      refine Gl.bipush Y0 (v := (-128 : Int32)) (by decide) d_method_4_57 rfl ?_
      refine Gl.goto Y0 d_method_4_59 (by decide) rfl ?_
      refine Gl.istore Y0 (L' := #[.val (.int g), .val (.int (2 : Int32)), .val (.int (3 : Int32)), .val (.int ol), .val (.int os), .val (.int le), .val (.int se), .val (.int (1 : Int32)), .val (.int (-128 : Int32))]) rfl d_method_4_63 rfl ?_
      refine Gl.iloadN Y0 rfl d_method_4_65 rfl ?_
      refine Gl.iload Y0 rfl d_method_4_66 rfl ?_
      refine Gl.icmpne Y0 d_method_4_68 (by decide) rfl rfl (fun c68 => ?_) (fun c68 => ?_)
      · refine absurd ?_ c68
        rw [hg, own_mark_eq, if_pos ⟨c27, c42⟩]
      refine Gl.iconst Y0 (v := (1 : Int32)) (by decide) d_method_4_71 rfl ?_
      refine Gl.goto Y0 d_method_4_72 (by decide) rfl ?_
      exact Gl.retZ Y0 (by decide) (by decide) (x' := (1 : Int32)) (by decide) d_method_4_76 ⟨rfl, rfl⟩
theorem tw_0 {a0 : Array Value} {Z : State} (hw : ∀ d ∈ tables_1, d.before a0 Z = true) : (Jvm.Cond.methodLink "com/example/ref_search/refsearch/matcher/BytesMarkPairPinLaw" (7 : Nat) ({ cls := "com/example/ref_search/refsearch/matcher/BytesMarkPairPinLaw", name := "pick", desc := "(IIIII)B" } : Jvm.MethodName)).before a0 Z = true := hw _ (List.mem_of_getElem? (i := 0) rfl)
theorem pd_0 : parseMethodDescriptor "(IIIII)B" = some ⟨[.int, .int, .int, .int, .int], some .byte⟩ := by decide +kernel
theorem tw_3 {a0 : Array Value} {Z : State} (hw : ∀ d ∈ tables_1, d.before a0 Z = true) : (Jvm.Cond.code ({ cls := "com/example/ref_search/refsearch/matcher/BytesMarkPairPinLaw", name := "pick", desc := "(IIIII)B" } : Jvm.MethodName) method_3_code (5 : Nat) (Option.some Jvm.ClassFile.FieldType.byte)).before a0 Z = true := hw _ (List.mem_of_getElem? (i := 3) rfl)
theorem tw_2 {a0 : Array Value} {Z : State} (hw : ∀ d ∈ tables_1, d.before a0 Z = true) : (Jvm.Cond.initialized "com/example/ref_search/refsearch/matcher/BytesMarkPairPinLaw").before a0 Z = true := hw _ (List.mem_of_getElem? (i := 2) rfl)
theorem tw_1 {a0 : Array Value} {Z : State} (hw : ∀ d ∈ tables_1, d.before a0 Z = true) : (Jvm.Cond.static ({ cls := "com/example/ref_search/refsearch/matcher/BytesMarkPairPinLaw", name := "pick", desc := "(IIIII)B" } : Jvm.MethodName)).before a0 Z = true := hw _ (List.mem_of_getElem? (i := 1) rfl)
theorem tw_4 {a0 : Array Value} {Z : State} (hw : ∀ d ∈ tables_1, d.before a0 Z = true) : (Jvm.Cond.arrayClass Jvm.ClassFile.FieldType.byte).before a0 Z = true := hw _ (List.mem_of_getElem? (i := 4) rfl)
theorem tw_5 {a0 : Array Value} {Z : State} (hw : ∀ d ∈ tables_1, d.before a0 Z = true) : (Jvm.Cond.methodLink "com/example/ref_search/refsearch/matcher/BytesMarkPairPinLaw" (13 : Nat) ({ cls := "com/example/ref_search/refsearch/matcher/BulkSymbols$Bytes", name := "markPair", desc := "([BI[BII)V" } : Jvm.MethodName)).before a0 Z = true := hw _ (List.mem_of_getElem? (i := 5) rfl)
theorem pd_1 : parseMethodDescriptor "([BI[BII)V" = some ⟨[(.array .byte), .int, (.array .byte), .int, .int], none⟩ := by decide +kernel
theorem tw_8 {a0 : Array Value} {Z : State} (hw : ∀ d ∈ tables_1, d.before a0 Z = true) : (Jvm.Cond.code ({ cls := "com/example/ref_search/refsearch/matcher/BulkSymbols$Bytes", name := "markPair", desc := "([BI[BII)V" } : Jvm.MethodName) prog_2_method_6_code (7 : Nat) (Option.none : Option Jvm.ClassFile.FieldType)).before a0 Z = true := hw _ (List.mem_of_getElem? (i := 8) rfl)
theorem tw_7 {a0 : Array Value} {Z : State} (hw : ∀ d ∈ tables_1, d.before a0 Z = true) : (Jvm.Cond.initialized "com/example/ref_search/refsearch/matcher/BulkSymbols$Bytes").before a0 Z = true := hw _ (List.mem_of_getElem? (i := 7) rfl)
theorem tw_6 {a0 : Array Value} {Z : State} (hw : ∀ d ∈ tables_1, d.before a0 Z = true) : (Jvm.Cond.static ({ cls := "com/example/ref_search/refsearch/matcher/BulkSymbols$Bytes", name := "markPair", desc := "([BI[BII)V" } : Jvm.MethodName)).before a0 Z = true := hw _ (List.mem_of_getElem? (i := 6) rfl)
theorem tw_9 {a0 : Array Value} {Z : State} (hw : ∀ d ∈ tables_1, d.before a0 Z = true) : (Jvm.Cond.methodLink "com/example/ref_search/refsearch/matcher/BytesMarkPairPinLaw" (19 : Nat) ({ cls := "com/example/ref_search/refsearch/matcher/BytesMarkPairPinLaw", name := "check", desc := "(BIIBBII)Z" } : Jvm.MethodName)).before a0 Z = true := hw _ (List.mem_of_getElem? (i := 9) rfl)
theorem pd_2 : parseMethodDescriptor "(BIIBBII)Z" = some ⟨[.byte, .int, .int, .byte, .byte, .int, .int], some .boolean⟩ := by decide +kernel
theorem tw_11 {a0 : Array Value} {Z : State} (hw : ∀ d ∈ tables_1, d.before a0 Z = true) : (Jvm.Cond.code ({ cls := "com/example/ref_search/refsearch/matcher/BytesMarkPairPinLaw", name := "check", desc := "(BIIBBII)Z" } : Jvm.MethodName) method_4_code (9 : Nat) (Option.some Jvm.ClassFile.FieldType.boolean)).before a0 Z = true := hw _ (List.mem_of_getElem? (i := 11) rfl)
theorem tw_10 {a0 : Array Value} {Z : State} (hw : ∀ d ∈ tables_1, d.before a0 Z = true) : (Jvm.Cond.static ({ cls := "com/example/ref_search/refsearch/matcher/BytesMarkPairPinLaw", name := "check", desc := "(BIIBBII)Z" } : Jvm.MethodName)).before a0 Z = true := hw _ (List.mem_of_getElem? (i := 10) rfl)
def QL (Z : State) (le : Int32) (se : Int32) (pl : Int32) (ps : Int32) (ct : Int32) (h0 : Heap) (v : Option Value) (h : Heap) : Prop := v = some (.int 1)
theorem efL (le : Int32) (se : Int32) (pl : Int32) (ps : Int32) (ct : Int32) (m : MethodId) : entryFrame m #[(.int le), (.int se), (.int pl), (.int ps), (.int ct)] maxLocals = mkF m 0 #[.val (.int le), .val (.int se), .val (.int pl), .val (.int ps), .val (.int ct), .unset, .unset, .unset, .unset, .unset, .unset, .unset, .unset, .unset, .unset, .unset, .unset, .unset, .unset] [] := by first | (simp [entryFrame, mkF, argsToLocals, Value.category, maxLocals]; done) | rfl
set_option maxRecDepth 65536 in
set_option maxHeartbeats 40000000 in
theorem rmL (l : Launch) (Z : State) (a0 : Array Value) (hw : ∀ d ∈ tables_1, d.before a0 Z = true) (ws : List Jvm.Cond) (le : Int32) (se : Int32) (pl : Int32) (ps : Int32) (ct : Int32) (h0 : Heap) (n0 : Nat) (Z0 : n0 ≤ h0.size) : OMet l Z ws x code maxLocals ret room_1 #[(.int le), (.int se), (.int pl), (.int ps), (.int ct)] h0 n0 (QL Z le se pl ps ct h0) := by
  refine OMet.of (plainFor_of_name pn_0) (efL le se pl ps ct) Z0 ?_
  intro p e s m below meth c T0 Y0 hnm
  have Y0 : Sd Z "com/example/ref_search/refsearch/matcher/BytesMarkPairPinLaw" code maxLocals (some .boolean) n0 p l e room_1 s m #[(.int le), (.int se), (.int pl), (.int ps), (.int ct)] below meth c T0 h0 0 0 := Y0
  have nle := rng32 le
  have nse := rng32 se
  have npl := rng32 pl
  have nps := rng32 ps
  have nct := rng32 ct
  refine Gl.iload Y0 rfl at_0 rfl ?_
  refine Gl.bipush Y0 (v := (6 : Int32)) (by decide) at_2 rfl ?_
  obtain ⟨v4, hv4⟩ : ∃ z : Int32, (ct.toUInt32 >>> ((6 : Int32) &&& 31).toUInt32).toInt32 = z := ⟨_, rfl⟩
  have iv4 : v4.toInt = (ct.toInt % 4294967296) / 64 := by have q := c_iushr ct (6 : Int32) 6 (by decide) (by decide); rw [hv4] at q; exact q
  refine Gl.iushr Y0 hv4 at_4 rfl ?_
  refine Gl.iconst Y0 (v := (3 : Int32)) (by decide) at_5 rfl ?_
  obtain ⟨v6, hv6⟩ : ∃ z : Int32, v4 &&& (3 : Int32) = z := ⟨_, rfl⟩
  have iv6 : v6.toInt = v4.toInt % 4 := by have q := c_mask v4 (3 : Int32) 2 (by decide) (by decide); rw [hv6] at q; exact q
  refine Gl.iand Y0 hv6 at_6 rfl ?_
  refine Gl.istore Y0 (L' := #[.val (.int le), .val (.int se), .val (.int pl), .val (.int ps), .val (.int ct), .val (.int v6), .unset, .unset, .unset, .unset, .unset, .unset, .unset, .unset, .unset, .unset, .unset, .unset, .unset]) rfl at_7 rfl ?_
  refine Gl.iload Y0 rfl at_9 rfl ?_
  refine Gl.sipush Y0 (v := (256 : Int32)) (by decide) at_11 rfl ?_
  obtain ⟨v14, hv14⟩ : ∃ z : Int32, ct &&& (256 : Int32) = z := ⟨_, rfl⟩
  have nv14 : 0 ≤ v14.toInt ∧ v14.toInt ≤ 256 := by have q := c_and ct (256 : Int32) (by decide); rw [hv14] at q; exact q
  refine Gl.iand Y0 hv14 at_14 rfl ?_
  obtain ⟨z15, hz15⟩ : ∃ z : Int32, (if v14 = (0 : Int32) then (0 : Int32) else (1 : Int32)) = z := ⟨_, rfl⟩
  have iz15 : (v14.toInt = 0 ∧ (z15.toInt = 0)) ∨ (¬ (v14.toInt = 0) ∧ (z15.toInt = 1)) := own_ite (c := v14 = (0 : Int32)) (fun q0 => ⟨congrArg Int32.toInt q0, congrArg Int32.toInt (show z15 = (0 : Int32) from by rw [← hz15]; simp only [q0, ↓reduceIte, if_true, if_false, ite_self])⟩) (fun q0 => ⟨fun q => q0 (Int32.toInt_inj.mp q), congrArg Int32.toInt (show z15 = (1 : Int32) from by rw [← hz15]; simp only [q0, ↓reduceIte, if_true, if_false, ite_self])⟩)
  have bz15 : z15 = 0 ∨ z15 = 1 := by rw [← hz15]; (repeat' split) <;> first | (simp; done) | assumption
  refine own_cut (B := ∀ T', Sd Z "com/example/ref_search/refsearch/matcher/BytesMarkPairPinLaw" code maxLocals (some .boolean) n0 p l e room_1 s m #[(.int le), (.int se), (.int pl), (.int ps), (.int ct)] below meth c T' h0 0 0 → Gl p e below (Pst s n0 room_1.cells room_1.slots (QL Z le se pl ps ct h0)) (T'.setTop (mkF m 23 #[.val (.int le), .val (.int se), .val (.int pl), .val (.int ps), .val (.int ct), .val (.int v6), .unset, .unset, .unset, .unset, .unset, .unset, .unset, .unset, .unset, .unset, .unset, .unset, .unset] [(.int z15)]))) (fun jk => ?_) (fun T15j Y15j => ?_)
  · refine Gl.ifeq Y0 at_15 (by decide) rfl rfl (fun c15 => ?_) (fun c15 => ?_)
    · have j15 : v14.toInt = 0 := congrArg Int32.toInt c15
      refine Gl.iconst Y0 (v := (0 : Int32)) (by decide) at_22 rfl ?_
      have ez15 : z15 = (0 : Int32) := by rw [← hz15]; simp only [c15, ↓reduceIte, if_true, if_false]
      rw [ez15] at jk
      exact jk T0 Y0
    · have j15 : ¬ (v14.toInt = 0) := fun q => c15 (Int32.toInt_inj.mp q)
      refine Gl.iconst Y0 (v := (1 : Int32)) (by decide) at_18 rfl ?_
      refine Gl.goto Y0 at_19 (by decide) rfl ?_
      have ez15 : z15 = (1 : Int32) := by rw [← hz15]; simp only [c15, ↓reduceIte, if_true, if_false]
      rw [ez15] at jk
      exact jk T0 Y0
  refine Gl.istore Y15j (L' := #[.val (.int le), .val (.int se), .val (.int pl), .val (.int ps), .val (.int ct), .val (.int v6), .val (.int z15), .unset, .unset, .unset, .unset, .unset, .unset, .unset, .unset, .unset, .unset, .unset, .unset]) rfl at_23 rfl ?_
  refine Gl.iload Y15j rfl at_25 rfl ?_
  refine Gl.iconst Y15j (v := (0 : Int32)) (by decide) at_27 rfl ?_
  refine Gl.iloadN Y15j rfl at_28 rfl ?_
  refine Gl.iloadN Y15j rfl at_29 rfl ?_
  refine Gl.iconst Y15j (v := (0 : Int32)) (by decide) at_30 rfl ?_
  refine Gl.callS Y15j (tw_0 hw) (tw_1 hw) (tw_2 hw) (tw_3 hw) (by decide) (rm0 l Z a0 hw [] ct (0 : Int32) le pl (0 : Int32) h0 n0 Y15j.sz) (argsL := [(.int ct), (.int (0 : Int32)), (.int le), (.int pl), (.int (0 : Int32))]) (rest := []) rfl rfl (lenOf pd_0 rfl) rfl (by decide) (Nat.le_of_ble_eq_true rfl) (by decide) (by decide) at_31 rfl (fun v31 T31 h31 Y31 q31 => ?_)
  obtain ⟨r31, rfl, p31, rfl⟩ := q31
  have kc1 : (0 : Int32).toInt = 0 := by decide
  show Gl p e below _ (T31.setTop (mkF m 34 #[.val (.int le), .val (.int se), .val (.int pl), .val (.int ps), .val (.int ct), .val (.int v6), .val (.int z15), .unset, .unset, .unset, .unset, .unset, .unset, .unset, .unset, .unset, .unset, .unset, .unset] [(.int r31)]))
  refine Gl.istore Y31 (L' := #[.val (.int le), .val (.int se), .val (.int pl), .val (.int ps), .val (.int ct), .val (.int v6), .val (.int z15), .val (.int r31), .unset, .unset, .unset, .unset, .unset, .unset, .unset, .unset, .unset, .unset, .unset]) rfl at_34 rfl ?_
  refine Gl.iload Y31 rfl at_36 rfl ?_
  refine Gl.iconst Y31 (v := (1 : Int32)) (by decide) at_38 rfl ?_
  refine Gl.iloadN Y31 rfl at_39 rfl ?_
  refine Gl.iloadN Y31 rfl at_40 rfl ?_
  refine Gl.bipush Y31 (v := (8 : Int32)) (by decide) at_41 rfl ?_
  refine Gl.callS Y31 (tw_0 hw) (tw_1 hw) (tw_2 hw) (tw_3 hw) (by decide) (rm0 l Z a0 hw [] ct (1 : Int32) le pl (8 : Int32) h0 n0 Y31.sz) (argsL := [(.int ct), (.int (1 : Int32)), (.int le), (.int pl), (.int (8 : Int32))]) (rest := []) rfl rfl (lenOf pd_0 rfl) rfl (by decide) (Nat.le_of_ble_eq_true rfl) (by decide) (by decide) at_43 rfl (fun v43 T43 h43 Y43 q43 => ?_)
  obtain ⟨r43, rfl, p43, rfl⟩ := q43
  have kc2 : (1 : Int32).toInt = 1 := by decide
  have kc3 : (8 : Int32).toInt = 8 := by decide
  show Gl p e below _ (T43.setTop (mkF m 46 #[.val (.int le), .val (.int se), .val (.int pl), .val (.int ps), .val (.int ct), .val (.int v6), .val (.int z15), .val (.int r31), .unset, .unset, .unset, .unset, .unset, .unset, .unset, .unset, .unset, .unset, .unset] [(.int r43)]))
  refine Gl.istore Y43 (L' := #[.val (.int le), .val (.int se), .val (.int pl), .val (.int ps), .val (.int ct), .val (.int v6), .val (.int z15), .val (.int r31), .val (.int r43), .unset, .unset, .unset, .unset, .unset, .unset, .unset, .unset, .unset, .unset]) rfl at_46 rfl ?_
  refine Gl.iload Y43 rfl at_48 rfl ?_
  refine Gl.iconst Y43 (v := (2 : Int32)) (by decide) at_50 rfl ?_
  refine Gl.iloadN Y43 rfl at_51 rfl ?_
  refine Gl.iloadN Y43 rfl at_52 rfl ?_
  refine Gl.bipush Y43 (v := (16 : Int32)) (by decide) at_53 rfl ?_
  refine Gl.callS Y43 (tw_0 hw) (tw_1 hw) (tw_2 hw) (tw_3 hw) (by decide) (rm0 l Z a0 hw [] ct (2 : Int32) le pl (16 : Int32) h0 n0 Y43.sz) (argsL := [(.int ct), (.int (2 : Int32)), (.int le), (.int pl), (.int (16 : Int32))]) (rest := []) rfl rfl (lenOf pd_0 rfl) rfl (by decide) (Nat.le_of_ble_eq_true rfl) (by decide) (by decide) at_55 rfl (fun v55 T55 h55 Y55 q55 => ?_)
  obtain ⟨r55, rfl, p55, rfl⟩ := q55
  have kc4 : (16 : Int32).toInt = 16 := by decide
  have kc5 : (2 : Int32).toInt = 2 := by decide
  show Gl p e below _ (T55.setTop (mkF m 58 #[.val (.int le), .val (.int se), .val (.int pl), .val (.int ps), .val (.int ct), .val (.int v6), .val (.int z15), .val (.int r31), .val (.int r43), .unset, .unset, .unset, .unset, .unset, .unset, .unset, .unset, .unset, .unset] [(.int r55)]))
  refine Gl.istore Y55 (L' := #[.val (.int le), .val (.int se), .val (.int pl), .val (.int ps), .val (.int ct), .val (.int v6), .val (.int z15), .val (.int r31), .val (.int r43), .val (.int r55), .unset, .unset, .unset, .unset, .unset, .unset, .unset, .unset, .unset]) rfl at_58 rfl ?_
  refine Gl.iload Y55 rfl at_60 rfl ?_
  refine Gl.iconst Y55 (v := (3 : Int32)) (by decide) at_62 rfl ?_
  refine Gl.iloadN Y55 rfl at_63 rfl ?_
  refine Gl.iloadN Y55 rfl at_64 rfl ?_
  refine Gl.iconst Y55 (v := (0 : Int32)) (by decide) at_65 rfl ?_
  refine Gl.callS Y55 (tw_0 hw) (tw_1 hw) (tw_2 hw) (tw_3 hw) (by decide) (rm0 l Z a0 hw [] ct (3 : Int32) se ps (0 : Int32) h0 n0 Y55.sz) (argsL := [(.int ct), (.int (3 : Int32)), (.int se), (.int ps), (.int (0 : Int32))]) (rest := []) rfl rfl (lenOf pd_0 rfl) rfl (by decide) (Nat.le_of_ble_eq_true rfl) (by decide) (by decide) at_66 rfl (fun v66 T66 h66 Y66 q66 => ?_)
  obtain ⟨r66, rfl, p66, rfl⟩ := q66
  have kc6 : (3 : Int32).toInt = 3 := by decide
  show Gl p e below _ (T66.setTop (mkF m 69 #[.val (.int le), .val (.int se), .val (.int pl), .val (.int ps), .val (.int ct), .val (.int v6), .val (.int z15), .val (.int r31), .val (.int r43), .val (.int r55), .unset, .unset, .unset, .unset, .unset, .unset, .unset, .unset, .unset] [(.int r66)]))
  refine Gl.istore Y66 (L' := #[.val (.int le), .val (.int se), .val (.int pl), .val (.int ps), .val (.int ct), .val (.int v6), .val (.int z15), .val (.int r31), .val (.int r43), .val (.int r55), .val (.int r66), .unset, .unset, .unset, .unset, .unset, .unset, .unset, .unset]) rfl at_69 rfl ?_
  refine Gl.iload Y66 rfl at_71 rfl ?_
  refine Gl.iconst Y66 (v := (4 : Int32)) (by decide) at_73 rfl ?_
  refine Gl.iloadN Y66 rfl at_74 rfl ?_
  refine Gl.iloadN Y66 rfl at_75 rfl ?_
  refine Gl.bipush Y66 (v := (8 : Int32)) (by decide) at_76 rfl ?_
  refine Gl.callS Y66 (tw_0 hw) (tw_1 hw) (tw_2 hw) (tw_3 hw) (by decide) (rm0 l Z a0 hw [] ct (4 : Int32) se ps (8 : Int32) h0 n0 Y66.sz) (argsL := [(.int ct), (.int (4 : Int32)), (.int se), (.int ps), (.int (8 : Int32))]) (rest := []) rfl rfl (lenOf pd_0 rfl) rfl (by decide) (Nat.le_of_ble_eq_true rfl) (by decide) (by decide) at_78 rfl (fun v78 T78 h78 Y78 q78 => ?_)
  obtain ⟨r78, rfl, p78, rfl⟩ := q78
  have kc7 : (4 : Int32).toInt = 4 := by decide
  show Gl p e below _ (T78.setTop (mkF m 81 #[.val (.int le), .val (.int se), .val (.int pl), .val (.int ps), .val (.int ct), .val (.int v6), .val (.int z15), .val (.int r31), .val (.int r43), .val (.int r55), .val (.int r66), .unset, .unset, .unset, .unset, .unset, .unset, .unset, .unset] [(.int r78)]))
  refine Gl.istore Y78 (L' := #[.val (.int le), .val (.int se), .val (.int pl), .val (.int ps), .val (.int ct), .val (.int v6), .val (.int z15), .val (.int r31), .val (.int r43), .val (.int r55), .val (.int r66), .val (.int r78), .unset, .unset, .unset, .unset, .unset, .unset, .unset]) rfl at_81 rfl ?_
  refine Gl.iload Y78 rfl at_83 rfl ?_
  refine Gl.iconst Y78 (v := (5 : Int32)) (by decide) at_85 rfl ?_
  refine Gl.iloadN Y78 rfl at_86 rfl ?_
  refine Gl.iloadN Y78 rfl at_87 rfl ?_
  refine Gl.bipush Y78 (v := (16 : Int32)) (by decide) at_88 rfl ?_
  refine Gl.callS Y78 (tw_0 hw) (tw_1 hw) (tw_2 hw) (tw_3 hw) (by decide) (rm0 l Z a0 hw [] ct (5 : Int32) se ps (16 : Int32) h0 n0 Y78.sz) (argsL := [(.int ct), (.int (5 : Int32)), (.int se), (.int ps), (.int (16 : Int32))]) (rest := []) rfl rfl (lenOf pd_0 rfl) rfl (by decide) (Nat.le_of_ble_eq_true rfl) (by decide) (by decide) at_90 rfl (fun v90 T90 h90 Y90 q90 => ?_)
  obtain ⟨r90, rfl, p90, rfl⟩ := q90
  have kc8 : (5 : Int32).toInt = 5 := by decide
  show Gl p e below _ (T90.setTop (mkF m 93 #[.val (.int le), .val (.int se), .val (.int pl), .val (.int ps), .val (.int ct), .val (.int v6), .val (.int z15), .val (.int r31), .val (.int r43), .val (.int r55), .val (.int r66), .val (.int r78), .unset, .unset, .unset, .unset, .unset, .unset, .unset] [(.int r90)]))
  refine Gl.istore Y90 (L' := #[.val (.int le), .val (.int se), .val (.int pl), .val (.int ps), .val (.int ct), .val (.int v6), .val (.int z15), .val (.int r31), .val (.int r43), .val (.int r55), .val (.int r66), .val (.int r78), .val (.int r90), .unset, .unset, .unset, .unset, .unset, .unset]) rfl at_93 rfl ?_
  refine Gl.iconst Y90 (v := (3 : Int32)) (by decide) at_95 rfl ?_
  refine Gl.newP Y90 3 (ty := .byte) rfl (tw_4 hw) (by decide) (by decide) (Nat.le_of_ble_eq_true rfl) (Nat.le_of_ble_eq_true rfl) (Nat.le_of_ble_eq_true rfl) at_96 rfl (fun T96 h96 b96 ck96 Y96 E96 g96 sb96 V96 => ?_)
  have V96 : Arv Z h96 b96 ck96 .byte (3 : Int32) [(.int (0 : Int32)), (.int (0 : Int32)), (.int (0 : Int32))] (.int (0 : Int32)) := V96.pad (pad_rep [] (.int (0 : Int32)) 3)
  show Gl p e below _ (T96.setTop (mkF m 98 #[.val (.int le), .val (.int se), .val (.int pl), .val (.int ps), .val (.int ct), .val (.int v6), .val (.int z15), .val (.int r31), .val (.int r43), .val (.int r55), .val (.int r66), .val (.int r78), .val (.int r90), .unset, .unset, .unset, .unset, .unset, .unset] [(.ref b96)]))
  refine Gl.dup Y96 rfl at_98 rfl ?_
  refine Gl.iconst Y96 (v := (0 : Int32)) (by decide) at_99 rfl ?_
  refine Gl.iload Y96 rfl at_100 rfl ?_
  refine Gl.bastore Y96 V96 (v := (.int r31)) (congrArg Value.int p31) ⟨by decide, by decide⟩ (ix := 0) rfl (Nat.le_of_ble_eq_true rfl) sb96 at_102 rfl (fun T102 h102 Y102 W102 A102 => ?_)
  have A102 : Arv Z h102 b96 ck96 .byte (3 : Int32) [(.int r31), (.int (0 : Int32)), (.int (0 : Int32))] (.int (0 : Int32)) := A102
  show Gl p e below _ (T102.setTop (mkF m 103 #[.val (.int le), .val (.int se), .val (.int pl), .val (.int ps), .val (.int ct), .val (.int v6), .val (.int z15), .val (.int r31), .val (.int r43), .val (.int r55), .val (.int r66), .val (.int r78), .val (.int r90), .unset, .unset, .unset, .unset, .unset, .unset] [(.ref b96)]))
  refine Gl.dup Y102 rfl at_103 rfl ?_
  refine Gl.iconst Y102 (v := (1 : Int32)) (by decide) at_104 rfl ?_
  refine Gl.iload Y102 rfl at_105 rfl ?_
  refine Gl.bastore Y102 A102 (v := (.int r43)) (congrArg Value.int p43) ⟨by decide, by decide⟩ (ix := 1) rfl (Nat.le_of_ble_eq_true rfl) sb96 at_107 rfl (fun T107 h107 Y107 W107 A107 => ?_)
  have A107 : Arv Z h107 b96 ck96 .byte (3 : Int32) [(.int r31), (.int r43), (.int (0 : Int32))] (.int (0 : Int32)) := A107
  show Gl p e below _ (T107.setTop (mkF m 108 #[.val (.int le), .val (.int se), .val (.int pl), .val (.int ps), .val (.int ct), .val (.int v6), .val (.int z15), .val (.int r31), .val (.int r43), .val (.int r55), .val (.int r66), .val (.int r78), .val (.int r90), .unset, .unset, .unset, .unset, .unset, .unset] [(.ref b96)]))
  refine Gl.dup Y107 rfl at_108 rfl ?_
  refine Gl.iconst Y107 (v := (2 : Int32)) (by decide) at_109 rfl ?_
  refine Gl.iload Y107 rfl at_110 rfl ?_
  refine Gl.bastore Y107 A107 (v := (.int r55)) (congrArg Value.int p55) ⟨by decide, by decide⟩ (ix := 2) rfl (Nat.le_of_ble_eq_true rfl) sb96 at_112 rfl (fun T112 h112 Y112 W112 A112 => ?_)
  have A112 : Arv Z h112 b96 ck96 .byte (3 : Int32) [(.int r31), (.int r43), (.int r55)] (.int (0 : Int32)) := A112
  show Gl p e below _ (T112.setTop (mkF m 113 #[.val (.int le), .val (.int se), .val (.int pl), .val (.int ps), .val (.int ct), .val (.int v6), .val (.int z15), .val (.int r31), .val (.int r43), .val (.int r55), .val (.int r66), .val (.int r78), .val (.int r90), .unset, .unset, .unset, .unset, .unset, .unset] [(.ref b96)]))
  refine Gl.astore Y112 rfl (L' := #[.val (.int le), .val (.int se), .val (.int pl), .val (.int ps), .val (.int ct), .val (.int v6), .val (.int z15), .val (.int r31), .val (.int r43), .val (.int r55), .val (.int r66), .val (.int r78), .val (.int r90), .val (.ref b96), .unset, .unset, .unset, .unset, .unset]) rfl at_113 rfl ?_
  refine Gl.iload Y112 rfl at_115 rfl ?_
  refine Gl.ifeq Y112 at_117 (by decide) rfl rfl (fun c117 => ?_) (fun c117 => ?_)
  · have j117 : z15.toInt = 0 := congrArg Int32.toInt c117
    refine Gl.iconst Y112 (v := (3 : Int32)) (by decide) at_125 rfl ?_
    refine Gl.newP Y112 3 (ty := .byte) rfl (tw_4 hw) (by decide) (by decide) (Nat.le_of_ble_eq_true rfl) (Nat.le_of_ble_eq_true rfl) (Nat.le_of_ble_eq_true rfl) at_126 rfl (fun T126 h126 b126 ck126 Y126 E126 g126 sb126 V126 => ?_)
    have V126 : Arv Z h126 b126 ck126 .byte (3 : Int32) [(.int (0 : Int32)), (.int (0 : Int32)), (.int (0 : Int32))] (.int (0 : Int32)) := V126.pad (pad_rep [] (.int (0 : Int32)) 3)
    show Gl p e below _ (T126.setTop (mkF m 128 #[.val (.int le), .val (.int se), .val (.int pl), .val (.int ps), .val (.int ct), .val (.int v6), .val (.int z15), .val (.int r31), .val (.int r43), .val (.int r55), .val (.int r66), .val (.int r78), .val (.int r90), .val (.ref b96), .unset, .unset, .unset, .unset, .unset] [(.ref b126)]))
    refine Gl.dup Y126 rfl at_128 rfl ?_
    refine Gl.iconst Y126 (v := (0 : Int32)) (by decide) at_129 rfl ?_
    refine Gl.iload Y126 rfl at_130 rfl ?_
    refine Gl.bastore Y126 V126 (v := (.int r66)) (congrArg Value.int p66) ⟨by decide, by decide⟩ (ix := 0) rfl (Nat.le_of_ble_eq_true rfl) sb126 at_132 rfl (fun T132 h132 Y132 W132 A132 => ?_)
    have A132 : Arv Z h132 b126 ck126 .byte (3 : Int32) [(.int r66), (.int (0 : Int32)), (.int (0 : Int32))] (.int (0 : Int32)) := A132
    show Gl p e below _ (T132.setTop (mkF m 133 #[.val (.int le), .val (.int se), .val (.int pl), .val (.int ps), .val (.int ct), .val (.int v6), .val (.int z15), .val (.int r31), .val (.int r43), .val (.int r55), .val (.int r66), .val (.int r78), .val (.int r90), .val (.ref b96), .unset, .unset, .unset, .unset, .unset] [(.ref b126)]))
    refine Gl.dup Y132 rfl at_133 rfl ?_
    refine Gl.iconst Y132 (v := (1 : Int32)) (by decide) at_134 rfl ?_
    refine Gl.iload Y132 rfl at_135 rfl ?_
    refine Gl.bastore Y132 A132 (v := (.int r78)) (congrArg Value.int p78) ⟨by decide, by decide⟩ (ix := 1) rfl (Nat.le_of_ble_eq_true rfl) sb126 at_137 rfl (fun T137 h137 Y137 W137 A137 => ?_)
    have A137 : Arv Z h137 b126 ck126 .byte (3 : Int32) [(.int r66), (.int r78), (.int (0 : Int32))] (.int (0 : Int32)) := A137
    show Gl p e below _ (T137.setTop (mkF m 138 #[.val (.int le), .val (.int se), .val (.int pl), .val (.int ps), .val (.int ct), .val (.int v6), .val (.int z15), .val (.int r31), .val (.int r43), .val (.int r55), .val (.int r66), .val (.int r78), .val (.int r90), .val (.ref b96), .unset, .unset, .unset, .unset, .unset] [(.ref b126)]))
    refine Gl.dup Y137 rfl at_138 rfl ?_
    refine Gl.iconst Y137 (v := (2 : Int32)) (by decide) at_139 rfl ?_
    refine Gl.iload Y137 rfl at_140 rfl ?_
    refine Gl.bastore Y137 A137 (v := (.int r90)) (congrArg Value.int p90) ⟨by decide, by decide⟩ (ix := 2) rfl (Nat.le_of_ble_eq_true rfl) sb126 at_142 rfl (fun T142 h142 Y142 W142 A142 => ?_)
    have A142 : Arv Z h142 b126 ck126 .byte (3 : Int32) [(.int r66), (.int r78), (.int r90)] (.int (0 : Int32)) := A142
    show Gl p e below _ (T142.setTop (mkF m 143 #[.val (.int le), .val (.int se), .val (.int pl), .val (.int ps), .val (.int ct), .val (.int v6), .val (.int z15), .val (.int r31), .val (.int r43), .val (.int r55), .val (.int r66), .val (.int r78), .val (.int r90), .val (.ref b96), .unset, .unset, .unset, .unset, .unset] [(.ref b126)]))
    refine Gl.astore Y142 rfl (L' := #[.val (.int le), .val (.int se), .val (.int pl), .val (.int ps), .val (.int ct), .val (.int v6), .val (.int z15), .val (.int r31), .val (.int r43), .val (.int r55), .val (.int r66), .val (.int r78), .val (.int r90), .val (.ref b96), .val (.ref b126), .unset, .unset, .unset, .unset]) rfl at_143 rfl ?_
    refine Gl.iload Y142 rfl at_145 rfl ?_
    refine Gl.ifeq Y142 at_147 (by decide) rfl rfl (fun c147 => ?_) (fun c147 => ?_)
    rotate_left
    · exact absurd c117 c147
    have j147 : z15.toInt = 0 := congrArg Int32.toInt c147
    refine Gl.iload Y142 rfl at_155 rfl ?_
    refine Gl.istore Y142 (L' := #[.val (.int le), .val (.int se), .val (.int pl), .val (.int ps), .val (.int ct), .val (.int v6), .val (.int z15), .val (.int r31), .val (.int r43), .val (.int r55), .val (.int r66), .val (.int r78), .val (.int r90), .val (.ref b96), .val (.ref b126), .val (.int r66), .unset, .unset, .unset]) rfl at_157 rfl ?_
    refine Gl.iload Y142 rfl at_159 rfl ?_
    refine Gl.ifeq Y142 at_161 (by decide) rfl rfl (fun c161 => ?_) (fun c161 => ?_)
    rotate_left
    · exact absurd c147 c161
    have j161 : z15.toInt = 0 := congrArg Int32.toInt c161
    refine Gl.iload Y142 rfl at_169 rfl ?_
    refine Gl.istore Y142 (L' := #[.val (.int le), .val (.int se), .val (.int pl), .val (.int ps), .val (.int ct), .val (.int v6), .val (.int z15), .val (.int r31), .val (.int r43), .val (.int r55), .val (.int r66), .val (.int r78), .val (.int r90), .val (.ref b96), .val (.ref b126), .val (.int r66), .val (.int r78), .unset, .unset]) rfl at_171 rfl ?_
    refine Gl.iload Y142 rfl at_173 rfl ?_
    refine Gl.ifeq Y142 at_175 (by decide) rfl rfl (fun c175 => ?_) (fun c175 => ?_)
    rotate_left
    · exact absurd c161 c175
    have j175 : z15.toInt = 0 := congrArg Int32.toInt c175
    refine Gl.iload Y142 rfl at_183 rfl ?_
    refine Gl.istore Y142 (L' := #[.val (.int le), .val (.int se), .val (.int pl), .val (.int ps), .val (.int ct), .val (.int v6), .val (.int z15), .val (.int r31), .val (.int r43), .val (.int r55), .val (.int r66), .val (.int r78), .val (.int r90), .val (.ref b96), .val (.ref b126), .val (.int r66), .val (.int r78), .val (.int r90), .unset]) rfl at_185 rfl ?_
    have cs_v6 : v6 = (0 : Int32) ∨ v6 = (1 : Int32) ∨ v6 = (2 : Int32) ∨ v6 = (3 : Int32) := own_c3 (by omega) (by omega)
    rcases cs_v6 with rfl | rfl | rfl | rfl
    · refine Gl.aload Y142 rfl rfl at_187 rfl ?_
      refine Gl.iloadN Y142 rfl at_189 rfl ?_
      refine Gl.aload Y142 rfl rfl at_190 rfl ?_
      refine Gl.iloadN Y142 rfl at_192 rfl ?_
      refine Gl.iload Y142 rfl at_193 rfl ?_
      have f9 : Arv Z h142 b96 ck96 .byte (3 : Int32) [(.int r31), (.int r43), (.int r55)] (.int (0 : Int32)) := ((((A112.ext E126).other W132 (Nat.ne_of_lt (Nat.lt_of_lt_of_eq A112.lt g126.symm))).other W137 (Nat.ne_of_lt (Nat.lt_of_lt_of_eq A112.lt g126.symm))).other W142 (Nat.ne_of_lt (Nat.lt_of_lt_of_eq A112.lt g126.symm)))
      refine Gl.callS Y142 (tw_5 hw) (tw_6 hw) (tw_7 hw) (tw_8 hw) (by decide) (rm1 l Z a0 hw [] b96 le se ck96 r31 r43 r55 b126 ck126 r66 r78 r90 h142 n0 Y142.sz f9 sb96 A142 (Nat.ne_of_lt (Nat.lt_of_lt_of_eq A112.lt g126.symm))) (argsL := [(.ref b96), (.int le), (.ref b126), (.int se), (.int (0 : Int32))]) (rest := []) rfl rfl (lenOf pd_1 rfl) rfl (by decide) (Nat.le_of_ble_eq_true rfl) (by decide) (by decide) at_195 rfl (fun v195 T195 h195 Y195 q195 => ?_)
      obtain ⟨rfl, K195, f195_0⟩ := q195
      show Gl p e below _ (T195.setTop (mkF m 198 #[.val (.int le), .val (.int se), .val (.int pl), .val (.int ps), .val (.int ct), .val (.int (0 : Int32)), .val (.int z15), .val (.int r31), .val (.int r43), .val (.int r55), .val (.int r66), .val (.int r78), .val (.int r90), .val (.ref b96), .val (.ref b126), .val (.int r66), .val (.int r78), .val (.int r90), .unset] []))
      refine Gl.aload Y195 rfl rfl at_198 rfl ?_
      refine Gl.iconst Y195 (v := (0 : Int32)) (by decide) at_200 rfl ?_
      refine Gl.baload Y195 f195_0 ⟨by decide, by decide⟩ (v := (.int r31)) rfl at_201 rfl ?_
      refine Gl.iconst Y195 (v := (0 : Int32)) (by decide) at_202 rfl ?_
      refine Gl.iload Y195 rfl at_203 rfl ?_
      refine Gl.iload Y195 rfl at_205 rfl ?_
      refine Gl.iload Y195 rfl at_207 rfl ?_
      refine Gl.iloadN Y195 rfl at_209 rfl ?_
      refine Gl.iloadN Y195 rfl at_210 rfl ?_
      refine Gl.callS Y195 (tw_9 hw) (tw_10 hw) (tw_2 hw) (tw_11 hw) (by decide) (rm9 l Z a0 hw [] r31 r31 r66 le se h195 n0 Y195.sz (rfl)) (argsL := [(.int r31), (.int (0 : Int32)), (.int (0 : Int32)), (.int r31), (.int r66), (.int le), (.int se)]) (rest := []) rfl rfl (lenOf pd_2 rfl) rfl (by decide) (Nat.le_of_ble_eq_true rfl) (by decide) (by decide) at_211 rfl (fun v211 T211 h211 Y211 q211 => ?_)
      obtain ⟨rfl, rfl⟩ := q211
      show Gl p e below _ (T211.setTop (mkF m 214 #[.val (.int le), .val (.int se), .val (.int pl), .val (.int ps), .val (.int ct), .val (.int (0 : Int32)), .val (.int z15), .val (.int r31), .val (.int r43), .val (.int r55), .val (.int r66), .val (.int r78), .val (.int r90), .val (.ref b96), .val (.ref b126), .val (.int r66), .val (.int r78), .val (.int r90), .unset] [(.int (1 : Int32))]))
      refine Gl.ifeq Y211 at_214 (by decide) rfl rfl (fun c214 => ?_) (fun c214 => ?_)
      · exact absurd c214 (by decide)
      refine Gl.aload Y211 rfl rfl at_217 rfl ?_
      refine Gl.iconst Y211 (v := (1 : Int32)) (by decide) at_219 rfl ?_
      refine Gl.baload Y211 f195_0 ⟨by decide, by decide⟩ (v := (.int r43)) rfl at_220 rfl ?_
      refine Gl.iconst Y211 (v := (1 : Int32)) (by decide) at_221 rfl ?_
      refine Gl.iload Y211 rfl at_222 rfl ?_
      refine Gl.iload Y211 rfl at_224 rfl ?_
      refine Gl.iload Y211 rfl at_226 rfl ?_
      refine Gl.iloadN Y211 rfl at_228 rfl ?_
      refine Gl.iloadN Y211 rfl at_229 rfl ?_
      refine Gl.callS Y211 (tw_9 hw) (tw_10 hw) (tw_2 hw) (tw_11 hw) (by decide) (rm13 l Z a0 hw [] r43 r43 r78 le se h195 n0 Y211.sz (rfl)) (argsL := [(.int r43), (.int (1 : Int32)), (.int (0 : Int32)), (.int r43), (.int r78), (.int le), (.int se)]) (rest := []) rfl rfl (lenOf pd_2 rfl) rfl (by decide) (Nat.le_of_ble_eq_true rfl) (by decide) (by decide) at_230 rfl (fun v230 T230 h230 Y230 q230 => ?_)
      obtain ⟨rfl, rfl⟩ := q230
      show Gl p e below _ (T230.setTop (mkF m 233 #[.val (.int le), .val (.int se), .val (.int pl), .val (.int ps), .val (.int ct), .val (.int (0 : Int32)), .val (.int z15), .val (.int r31), .val (.int r43), .val (.int r55), .val (.int r66), .val (.int r78), .val (.int r90), .val (.ref b96), .val (.ref b126), .val (.int r66), .val (.int r78), .val (.int r90), .unset] [(.int (1 : Int32))]))
      refine Gl.ifeq Y230 at_233 (by decide) rfl rfl (fun c233 => ?_) (fun c233 => ?_)
      · exact absurd c233 (by decide)
      refine Gl.aload Y230 rfl rfl at_236 rfl ?_
      refine Gl.iconst Y230 (v := (2 : Int32)) (by decide) at_238 rfl ?_
      refine Gl.baload Y230 f195_0 ⟨by decide, by decide⟩ (v := (.int r55)) rfl at_239 rfl ?_
      refine Gl.iconst Y230 (v := (2 : Int32)) (by decide) at_240 rfl ?_
      refine Gl.iload Y230 rfl at_241 rfl ?_
      refine Gl.iload Y230 rfl at_243 rfl ?_
      refine Gl.iload Y230 rfl at_245 rfl ?_
      refine Gl.iloadN Y230 rfl at_247 rfl ?_
      refine Gl.iloadN Y230 rfl at_248 rfl ?_
      refine Gl.callS Y230 (tw_9 hw) (tw_10 hw) (tw_2 hw) (tw_11 hw) (by decide) (rm17 l Z a0 hw [] r55 r55 r90 le se h195 n0 Y230.sz (rfl)) (argsL := [(.int r55), (.int (2 : Int32)), (.int (0 : Int32)), (.int r55), (.int r90), (.int le), (.int se)]) (rest := []) rfl rfl (lenOf pd_2 rfl) rfl (by decide) (Nat.le_of_ble_eq_true rfl) (by decide) (by decide) at_249 rfl (fun v249 T249 h249 Y249 q249 => ?_)
      obtain ⟨rfl, rfl⟩ := q249
      show Gl p e below _ (T249.setTop (mkF m 252 #[.val (.int le), .val (.int se), .val (.int pl), .val (.int ps), .val (.int ct), .val (.int (0 : Int32)), .val (.int z15), .val (.int r31), .val (.int r43), .val (.int r55), .val (.int r66), .val (.int r78), .val (.int r90), .val (.ref b96), .val (.ref b126), .val (.int r66), .val (.int r78), .val (.int r90), .unset] [(.int (1 : Int32))]))
      refine Gl.ifeq Y249 at_252 (by decide) rfl rfl (fun c252 => ?_) (fun c252 => ?_)
      · exact absurd c252 (by decide)
      refine Gl.iconst Y249 (v := (1 : Int32)) (by decide) at_255 rfl ?_
      refine Gl.goto Y249 at_256 (by decide) rfl ?_
      refine Gl.istore Y249 (L' := #[.val (.int le), .val (.int se), .val (.int pl), .val (.int ps), .val (.int ct), .val (.int (0 : Int32)), .val (.int z15), .val (.int r31), .val (.int r43), .val (.int r55), .val (.int r66), .val (.int r78), .val (.int r90), .val (.ref b96), .val (.ref b126), .val (.int r66), .val (.int r78), .val (.int r90), .val (.int (1 : Int32))]) rfl at_260 rfl ?_
      refine Gl.iload Y249 rfl at_262 rfl ?_
      refine Gl.ifne Y249 at_264 (by decide) rfl rfl (fun c264 => ?_) (fun c264 => ?_)
      · exact absurd c175 c264
      have j264 : z15.toInt = 0 := congrArg Int32.toInt c264
      refine Gl.iload Y249 rfl at_267 rfl ?_
      refine Gl.ifeq Y249 at_269 (by decide) rfl rfl (fun c269 => ?_) (fun c269 => ?_)
      · exact absurd c269 (by decide)
      refine Gl.aload Y249 rfl rfl at_272 rfl ?_
      refine Gl.iconst Y249 (v := (0 : Int32)) (by decide) at_274 rfl ?_
      have f10 : Arv Z h195 b126 ck126 .byte (3 : Int32) [(.int r66), (.int r78), (.int r90)] (.int (0 : Int32)) := (A142.keep K195 (ninS (Ne.symm (Nat.ne_of_lt (Nat.lt_of_lt_of_eq A112.lt g126.symm))) nin0))
      refine Gl.baload Y249 f10 ⟨by decide, by decide⟩ (v := (.int r66)) rfl at_275 rfl ?_
      refine Gl.iload Y249 rfl at_276 rfl ?_
      refine Gl.icmpne Y249 at_278 (by decide) rfl rfl (fun c278 => ?_) (fun c278 => ?_)
      · exact absurd rfl c278
      have j278 : r66.toInt = r66.toInt := congrArg Int32.toInt c278
      refine Gl.aload Y249 rfl rfl at_281 rfl ?_
      refine Gl.iconst Y249 (v := (1 : Int32)) (by decide) at_283 rfl ?_
      refine Gl.baload Y249 f10 ⟨by decide, by decide⟩ (v := (.int r78)) rfl at_284 rfl ?_
      refine Gl.iload Y249 rfl at_285 rfl ?_
      refine Gl.icmpne Y249 at_287 (by decide) rfl rfl (fun c287 => ?_) (fun c287 => ?_)
      · exact absurd rfl c287
      have j287 : r78.toInt = r78.toInt := congrArg Int32.toInt c287
      refine Gl.aload Y249 rfl rfl at_290 rfl ?_
      refine Gl.iconst Y249 (v := (2 : Int32)) (by decide) at_292 rfl ?_
      refine Gl.baload Y249 f10 ⟨by decide, by decide⟩ (v := (.int r90)) rfl at_293 rfl ?_
      refine Gl.iload Y249 rfl at_294 rfl ?_
      refine Gl.icmpne Y249 at_296 (by decide) rfl rfl (fun c296 => ?_) (fun c296 => ?_)
      · exact absurd rfl c296
      have j296 : r90.toInt = r90.toInt := congrArg Int32.toInt c296
      refine Gl.iconst Y249 (v := (1 : Int32)) (by decide) at_299 rfl ?_
      refine Gl.goto Y249 at_300 (by decide) rfl ?_
      refine Gl.istore Y249 (L' := #[.val (.int le), .val (.int se), .val (.int pl), .val (.int ps), .val (.int ct), .val (.int (0 : Int32)), .val (.int z15), .val (.int r31), .val (.int r43), .val (.int r55), .val (.int r66), .val (.int r78), .val (.int r90), .val (.ref b96), .val (.ref b126), .val (.int r66), .val (.int r78), .val (.int r90), .val (.int (1 : Int32))]) rfl at_304 rfl ?_
      refine Gl.iload Y249 rfl at_306 rfl ?_
      exact Gl.retZ Y249 (by decide) (by decide) (x' := (1 : Int32)) (by decide) at_308 rfl
    · refine Gl.aload Y142 rfl rfl at_187 rfl ?_
      refine Gl.iloadN Y142 rfl at_189 rfl ?_
      refine Gl.aload Y142 rfl rfl at_190 rfl ?_
      refine Gl.iloadN Y142 rfl at_192 rfl ?_
      refine Gl.iload Y142 rfl at_193 rfl ?_
      have f11 : Arv Z h142 b96 ck96 .byte (3 : Int32) [(.int r31), (.int r43), (.int r55)] (.int (0 : Int32)) := ((((A112.ext E126).other W132 (Nat.ne_of_lt (Nat.lt_of_lt_of_eq A112.lt g126.symm))).other W137 (Nat.ne_of_lt (Nat.lt_of_lt_of_eq A112.lt g126.symm))).other W142 (Nat.ne_of_lt (Nat.lt_of_lt_of_eq A112.lt g126.symm)))
      refine Gl.callS Y142 (tw_5 hw) (tw_6 hw) (tw_7 hw) (tw_8 hw) (by decide) (rm2 l Z a0 hw [] b96 le se ck96 r31 r43 r55 b126 ck126 r66 r78 r90 h142 n0 Y142.sz f11 sb96 A142 (Nat.ne_of_lt (Nat.lt_of_lt_of_eq A112.lt g126.symm))) (argsL := [(.ref b96), (.int le), (.ref b126), (.int se), (.int (1 : Int32))]) (rest := []) rfl rfl (lenOf pd_1 rfl) rfl (by decide) (Nat.le_of_ble_eq_true rfl) (by decide) (by decide) at_195 rfl (fun v195 T195 h195 Y195 q195 => ?_)
      obtain ⟨rfl, K195, f195_0⟩ := q195
      show Gl p e below _ (T195.setTop (mkF m 198 #[.val (.int le), .val (.int se), .val (.int pl), .val (.int ps), .val (.int ct), .val (.int (1 : Int32)), .val (.int z15), .val (.int r31), .val (.int r43), .val (.int r55), .val (.int r66), .val (.int r78), .val (.int r90), .val (.ref b96), .val (.ref b126), .val (.int r66), .val (.int r78), .val (.int r90), .unset] []))
      refine Gl.aload Y195 rfl rfl at_198 rfl ?_
      refine Gl.iconst Y195 (v := (0 : Int32)) (by decide) at_200 rfl ?_
      refine Gl.baload Y195 f195_0 ⟨by decide, by decide⟩ (v := (.int (own_mark r31 le r66 se))) rfl at_201 rfl ?_
      refine Gl.iconst Y195 (v := (0 : Int32)) (by decide) at_202 rfl ?_
      refine Gl.iload Y195 rfl at_203 rfl ?_
      refine Gl.iload Y195 rfl at_205 rfl ?_
      refine Gl.iload Y195 rfl at_207 rfl ?_
      refine Gl.iloadN Y195 rfl at_209 rfl ?_
      refine Gl.iloadN Y195 rfl at_210 rfl ?_
      refine Gl.callS Y195 (tw_9 hw) (tw_10 hw) (tw_2 hw) (tw_11 hw) (by decide) (rm10 l Z a0 hw [] (own_mark r31 le r66 se) r31 r66 le se h195 n0 Y195.sz (rfl)) (argsL := [(.int (own_mark r31 le r66 se)), (.int (0 : Int32)), (.int (1 : Int32)), (.int r31), (.int r66), (.int le), (.int se)]) (rest := []) rfl rfl (lenOf pd_2 rfl) rfl (by decide) (Nat.le_of_ble_eq_true rfl) (by decide) (by decide) at_211 rfl (fun v211 T211 h211 Y211 q211 => ?_)
      obtain ⟨rfl, rfl⟩ := q211
      show Gl p e below _ (T211.setTop (mkF m 214 #[.val (.int le), .val (.int se), .val (.int pl), .val (.int ps), .val (.int ct), .val (.int (1 : Int32)), .val (.int z15), .val (.int r31), .val (.int r43), .val (.int r55), .val (.int r66), .val (.int r78), .val (.int r90), .val (.ref b96), .val (.ref b126), .val (.int r66), .val (.int r78), .val (.int r90), .unset] [(.int (1 : Int32))]))
      refine Gl.ifeq Y211 at_214 (by decide) rfl rfl (fun c214 => ?_) (fun c214 => ?_)
      · exact absurd c214 (by decide)
      refine Gl.aload Y211 rfl rfl at_217 rfl ?_
      refine Gl.iconst Y211 (v := (1 : Int32)) (by decide) at_219 rfl ?_
      refine Gl.baload Y211 f195_0 ⟨by decide, by decide⟩ (v := (.int r43)) rfl at_220 rfl ?_
      refine Gl.iconst Y211 (v := (1 : Int32)) (by decide) at_221 rfl ?_
      refine Gl.iload Y211 rfl at_222 rfl ?_
      refine Gl.iload Y211 rfl at_224 rfl ?_
      refine Gl.iload Y211 rfl at_226 rfl ?_
      refine Gl.iloadN Y211 rfl at_228 rfl ?_
      refine Gl.iloadN Y211 rfl at_229 rfl ?_
      refine Gl.callS Y211 (tw_9 hw) (tw_10 hw) (tw_2 hw) (tw_11 hw) (by decide) (rm14 l Z a0 hw [] r43 r43 r78 le se h195 n0 Y211.sz (rfl)) (argsL := [(.int r43), (.int (1 : Int32)), (.int (1 : Int32)), (.int r43), (.int r78), (.int le), (.int se)]) (rest := []) rfl rfl (lenOf pd_2 rfl) rfl (by decide) (Nat.le_of_ble_eq_true rfl) (by decide) (by decide) at_230 rfl (fun v230 T230 h230 Y230 q230 => ?_)
      obtain ⟨rfl, rfl⟩ := q230
      show Gl p e below _ (T230.setTop (mkF m 233 #[.val (.int le), .val (.int se), .val (.int pl), .val (.int ps), .val (.int ct), .val (.int (1 : Int32)), .val (.int z15), .val (.int r31), .val (.int r43), .val (.int r55), .val (.int r66), .val (.int r78), .val (.int r90), .val (.ref b96), .val (.ref b126), .val (.int r66), .val (.int r78), .val (.int r90), .unset] [(.int (1 : Int32))]))
      refine Gl.ifeq Y230 at_233 (by decide) rfl rfl (fun c233 => ?_) (fun c233 => ?_)
      · exact absurd c233 (by decide)
      refine Gl.aload Y230 rfl rfl at_236 rfl ?_
      refine Gl.iconst Y230 (v := (2 : Int32)) (by decide) at_238 rfl ?_
      refine Gl.baload Y230 f195_0 ⟨by decide, by decide⟩ (v := (.int r55)) rfl at_239 rfl ?_
      refine Gl.iconst Y230 (v := (2 : Int32)) (by decide) at_240 rfl ?_
      refine Gl.iload Y230 rfl at_241 rfl ?_
      refine Gl.iload Y230 rfl at_243 rfl ?_
      refine Gl.iload Y230 rfl at_245 rfl ?_
      refine Gl.iloadN Y230 rfl at_247 rfl ?_
      refine Gl.iloadN Y230 rfl at_248 rfl ?_
      refine Gl.callS Y230 (tw_9 hw) (tw_10 hw) (tw_2 hw) (tw_11 hw) (by decide) (rm18 l Z a0 hw [] r55 r55 r90 le se h195 n0 Y230.sz (rfl)) (argsL := [(.int r55), (.int (2 : Int32)), (.int (1 : Int32)), (.int r55), (.int r90), (.int le), (.int se)]) (rest := []) rfl rfl (lenOf pd_2 rfl) rfl (by decide) (Nat.le_of_ble_eq_true rfl) (by decide) (by decide) at_249 rfl (fun v249 T249 h249 Y249 q249 => ?_)
      obtain ⟨rfl, rfl⟩ := q249
      show Gl p e below _ (T249.setTop (mkF m 252 #[.val (.int le), .val (.int se), .val (.int pl), .val (.int ps), .val (.int ct), .val (.int (1 : Int32)), .val (.int z15), .val (.int r31), .val (.int r43), .val (.int r55), .val (.int r66), .val (.int r78), .val (.int r90), .val (.ref b96), .val (.ref b126), .val (.int r66), .val (.int r78), .val (.int r90), .unset] [(.int (1 : Int32))]))
      refine Gl.ifeq Y249 at_252 (by decide) rfl rfl (fun c252 => ?_) (fun c252 => ?_)
      · exact absurd c252 (by decide)
      refine Gl.iconst Y249 (v := (1 : Int32)) (by decide) at_255 rfl ?_
      refine Gl.goto Y249 at_256 (by decide) rfl ?_
      refine Gl.istore Y249 (L' := #[.val (.int le), .val (.int se), .val (.int pl), .val (.int ps), .val (.int ct), .val (.int (1 : Int32)), .val (.int z15), .val (.int r31), .val (.int r43), .val (.int r55), .val (.int r66), .val (.int r78), .val (.int r90), .val (.ref b96), .val (.ref b126), .val (.int r66), .val (.int r78), .val (.int r90), .val (.int (1 : Int32))]) rfl at_260 rfl ?_
      refine Gl.iload Y249 rfl at_262 rfl ?_
      refine Gl.ifne Y249 at_264 (by decide) rfl rfl (fun c264 => ?_) (fun c264 => ?_)
      · exact absurd c175 c264
      have j264 : z15.toInt = 0 := congrArg Int32.toInt c264
      refine Gl.iload Y249 rfl at_267 rfl ?_
      refine Gl.ifeq Y249 at_269 (by decide) rfl rfl (fun c269 => ?_) (fun c269 => ?_)
      · exact absurd c269 (by decide)
      refine Gl.aload Y249 rfl rfl at_272 rfl ?_
      refine Gl.iconst Y249 (v := (0 : Int32)) (by decide) at_274 rfl ?_
      have f12 : Arv Z h195 b126 ck126 .byte (3 : Int32) [(.int r66), (.int r78), (.int r90)] (.int (0 : Int32)) := (A142.keep K195 (ninS (Ne.symm (Nat.ne_of_lt (Nat.lt_of_lt_of_eq A112.lt g126.symm))) nin0))
      refine Gl.baload Y249 f12 ⟨by decide, by decide⟩ (v := (.int r66)) rfl at_275 rfl ?_
      refine Gl.iload Y249 rfl at_276 rfl ?_
      refine Gl.icmpne Y249 at_278 (by decide) rfl rfl (fun c278 => ?_) (fun c278 => ?_)
      · exact absurd rfl c278
      have j278 : r66.toInt = r66.toInt := congrArg Int32.toInt c278
      refine Gl.aload Y249 rfl rfl at_281 rfl ?_
      refine Gl.iconst Y249 (v := (1 : Int32)) (by decide) at_283 rfl ?_
      refine Gl.baload Y249 f12 ⟨by decide, by decide⟩ (v := (.int r78)) rfl at_284 rfl ?_
      refine Gl.iload Y249 rfl at_285 rfl ?_
      refine Gl.icmpne Y249 at_287 (by decide) rfl rfl (fun c287 => ?_) (fun c287 => ?_)
      · exact absurd rfl c287
      have j287 : r78.toInt = r78.toInt := congrArg Int32.toInt c287
      refine Gl.aload Y249 rfl rfl at_290 rfl ?_
      refine Gl.iconst Y249 (v := (2 : Int32)) (by decide) at_292 rfl ?_
      refine Gl.baload Y249 f12 ⟨by decide, by decide⟩ (v := (.int r90)) rfl at_293 rfl ?_
      refine Gl.iload Y249 rfl at_294 rfl ?_
      refine Gl.icmpne Y249 at_296 (by decide) rfl rfl (fun c296 => ?_) (fun c296 => ?_)
      · exact absurd rfl c296
      have j296 : r90.toInt = r90.toInt := congrArg Int32.toInt c296
      refine Gl.iconst Y249 (v := (1 : Int32)) (by decide) at_299 rfl ?_
      refine Gl.goto Y249 at_300 (by decide) rfl ?_
      refine Gl.istore Y249 (L' := #[.val (.int le), .val (.int se), .val (.int pl), .val (.int ps), .val (.int ct), .val (.int (1 : Int32)), .val (.int z15), .val (.int r31), .val (.int r43), .val (.int r55), .val (.int r66), .val (.int r78), .val (.int r90), .val (.ref b96), .val (.ref b126), .val (.int r66), .val (.int r78), .val (.int r90), .val (.int (1 : Int32))]) rfl at_304 rfl ?_
      refine Gl.iload Y249 rfl at_306 rfl ?_
      exact Gl.retZ Y249 (by decide) (by decide) (x' := (1 : Int32)) (by decide) at_308 rfl
    · refine Gl.aload Y142 rfl rfl at_187 rfl ?_
      refine Gl.iloadN Y142 rfl at_189 rfl ?_
      refine Gl.aload Y142 rfl rfl at_190 rfl ?_
      refine Gl.iloadN Y142 rfl at_192 rfl ?_
      refine Gl.iload Y142 rfl at_193 rfl ?_
      have f13 : Arv Z h142 b96 ck96 .byte (3 : Int32) [(.int r31), (.int r43), (.int r55)] (.int (0 : Int32)) := ((((A112.ext E126).other W132 (Nat.ne_of_lt (Nat.lt_of_lt_of_eq A112.lt g126.symm))).other W137 (Nat.ne_of_lt (Nat.lt_of_lt_of_eq A112.lt g126.symm))).other W142 (Nat.ne_of_lt (Nat.lt_of_lt_of_eq A112.lt g126.symm)))
      refine Gl.callS Y142 (tw_5 hw) (tw_6 hw) (tw_7 hw) (tw_8 hw) (by decide) (rm3 l Z a0 hw [] b96 le se ck96 r31 r43 r55 b126 ck126 r66 r78 r90 h142 n0 Y142.sz f13 sb96 A142 (Nat.ne_of_lt (Nat.lt_of_lt_of_eq A112.lt g126.symm))) (argsL := [(.ref b96), (.int le), (.ref b126), (.int se), (.int (2 : Int32))]) (rest := []) rfl rfl (lenOf pd_1 rfl) rfl (by decide) (Nat.le_of_ble_eq_true rfl) (by decide) (by decide) at_195 rfl (fun v195 T195 h195 Y195 q195 => ?_)
      obtain ⟨rfl, K195, f195_0⟩ := q195
      show Gl p e below _ (T195.setTop (mkF m 198 #[.val (.int le), .val (.int se), .val (.int pl), .val (.int ps), .val (.int ct), .val (.int (2 : Int32)), .val (.int z15), .val (.int r31), .val (.int r43), .val (.int r55), .val (.int r66), .val (.int r78), .val (.int r90), .val (.ref b96), .val (.ref b126), .val (.int r66), .val (.int r78), .val (.int r90), .unset] []))
      refine Gl.aload Y195 rfl rfl at_198 rfl ?_
      refine Gl.iconst Y195 (v := (0 : Int32)) (by decide) at_200 rfl ?_
      refine Gl.baload Y195 f195_0 ⟨by decide, by decide⟩ (v := (.int (own_mark r31 le r66 se))) rfl at_201 rfl ?_
      refine Gl.iconst Y195 (v := (0 : Int32)) (by decide) at_202 rfl ?_
      refine Gl.iload Y195 rfl at_203 rfl ?_
      refine Gl.iload Y195 rfl at_205 rfl ?_
      refine Gl.iload Y195 rfl at_207 rfl ?_
      refine Gl.iloadN Y195 rfl at_209 rfl ?_
      refine Gl.iloadN Y195 rfl at_210 rfl ?_
      refine Gl.callS Y195 (tw_9 hw) (tw_10 hw) (tw_2 hw) (tw_11 hw) (by decide) (rm11 l Z a0 hw [] (own_mark r31 le r66 se) r31 r66 le se h195 n0 Y195.sz (rfl)) (argsL := [(.int (own_mark r31 le r66 se)), (.int (0 : Int32)), (.int (2 : Int32)), (.int r31), (.int r66), (.int le), (.int se)]) (rest := []) rfl rfl (lenOf pd_2 rfl) rfl (by decide) (Nat.le_of_ble_eq_true rfl) (by decide) (by decide) at_211 rfl (fun v211 T211 h211 Y211 q211 => ?_)
      obtain ⟨rfl, rfl⟩ := q211
      show Gl p e below _ (T211.setTop (mkF m 214 #[.val (.int le), .val (.int se), .val (.int pl), .val (.int ps), .val (.int ct), .val (.int (2 : Int32)), .val (.int z15), .val (.int r31), .val (.int r43), .val (.int r55), .val (.int r66), .val (.int r78), .val (.int r90), .val (.ref b96), .val (.ref b126), .val (.int r66), .val (.int r78), .val (.int r90), .unset] [(.int (1 : Int32))]))
      refine Gl.ifeq Y211 at_214 (by decide) rfl rfl (fun c214 => ?_) (fun c214 => ?_)
      · exact absurd c214 (by decide)
      refine Gl.aload Y211 rfl rfl at_217 rfl ?_
      refine Gl.iconst Y211 (v := (1 : Int32)) (by decide) at_219 rfl ?_
      refine Gl.baload Y211 f195_0 ⟨by decide, by decide⟩ (v := (.int (own_mark r43 le r78 se))) rfl at_220 rfl ?_
      refine Gl.iconst Y211 (v := (1 : Int32)) (by decide) at_221 rfl ?_
      refine Gl.iload Y211 rfl at_222 rfl ?_
      refine Gl.iload Y211 rfl at_224 rfl ?_
      refine Gl.iload Y211 rfl at_226 rfl ?_
      refine Gl.iloadN Y211 rfl at_228 rfl ?_
      refine Gl.iloadN Y211 rfl at_229 rfl ?_
      refine Gl.callS Y211 (tw_9 hw) (tw_10 hw) (tw_2 hw) (tw_11 hw) (by decide) (rm15 l Z a0 hw [] (own_mark r43 le r78 se) r43 r78 le se h195 n0 Y211.sz (rfl)) (argsL := [(.int (own_mark r43 le r78 se)), (.int (1 : Int32)), (.int (2 : Int32)), (.int r43), (.int r78), (.int le), (.int se)]) (rest := []) rfl rfl (lenOf pd_2 rfl) rfl (by decide) (Nat.le_of_ble_eq_true rfl) (by decide) (by decide) at_230 rfl (fun v230 T230 h230 Y230 q230 => ?_)
      obtain ⟨rfl, rfl⟩ := q230
      show Gl p e below _ (T230.setTop (mkF m 233 #[.val (.int le), .val (.int se), .val (.int pl), .val (.int ps), .val (.int ct), .val (.int (2 : Int32)), .val (.int z15), .val (.int r31), .val (.int r43), .val (.int r55), .val (.int r66), .val (.int r78), .val (.int r90), .val (.ref b96), .val (.ref b126), .val (.int r66), .val (.int r78), .val (.int r90), .unset] [(.int (1 : Int32))]))
      refine Gl.ifeq Y230 at_233 (by decide) rfl rfl (fun c233 => ?_) (fun c233 => ?_)
      · exact absurd c233 (by decide)
      refine Gl.aload Y230 rfl rfl at_236 rfl ?_
      refine Gl.iconst Y230 (v := (2 : Int32)) (by decide) at_238 rfl ?_
      refine Gl.baload Y230 f195_0 ⟨by decide, by decide⟩ (v := (.int r55)) rfl at_239 rfl ?_
      refine Gl.iconst Y230 (v := (2 : Int32)) (by decide) at_240 rfl ?_
      refine Gl.iload Y230 rfl at_241 rfl ?_
      refine Gl.iload Y230 rfl at_243 rfl ?_
      refine Gl.iload Y230 rfl at_245 rfl ?_
      refine Gl.iloadN Y230 rfl at_247 rfl ?_
      refine Gl.iloadN Y230 rfl at_248 rfl ?_
      refine Gl.callS Y230 (tw_9 hw) (tw_10 hw) (tw_2 hw) (tw_11 hw) (by decide) (rm19 l Z a0 hw [] r55 r55 r90 le se h195 n0 Y230.sz (rfl)) (argsL := [(.int r55), (.int (2 : Int32)), (.int (2 : Int32)), (.int r55), (.int r90), (.int le), (.int se)]) (rest := []) rfl rfl (lenOf pd_2 rfl) rfl (by decide) (Nat.le_of_ble_eq_true rfl) (by decide) (by decide) at_249 rfl (fun v249 T249 h249 Y249 q249 => ?_)
      obtain ⟨rfl, rfl⟩ := q249
      show Gl p e below _ (T249.setTop (mkF m 252 #[.val (.int le), .val (.int se), .val (.int pl), .val (.int ps), .val (.int ct), .val (.int (2 : Int32)), .val (.int z15), .val (.int r31), .val (.int r43), .val (.int r55), .val (.int r66), .val (.int r78), .val (.int r90), .val (.ref b96), .val (.ref b126), .val (.int r66), .val (.int r78), .val (.int r90), .unset] [(.int (1 : Int32))]))
      refine Gl.ifeq Y249 at_252 (by decide) rfl rfl (fun c252 => ?_) (fun c252 => ?_)
      · exact absurd c252 (by decide)
      refine Gl.iconst Y249 (v := (1 : Int32)) (by decide) at_255 rfl ?_
      refine Gl.goto Y249 at_256 (by decide) rfl ?_
      refine Gl.istore Y249 (L' := #[.val (.int le), .val (.int se), .val (.int pl), .val (.int ps), .val (.int ct), .val (.int (2 : Int32)), .val (.int z15), .val (.int r31), .val (.int r43), .val (.int r55), .val (.int r66), .val (.int r78), .val (.int r90), .val (.ref b96), .val (.ref b126), .val (.int r66), .val (.int r78), .val (.int r90), .val (.int (1 : Int32))]) rfl at_260 rfl ?_
      refine Gl.iload Y249 rfl at_262 rfl ?_
      refine Gl.ifne Y249 at_264 (by decide) rfl rfl (fun c264 => ?_) (fun c264 => ?_)
      · exact absurd c175 c264
      have j264 : z15.toInt = 0 := congrArg Int32.toInt c264
      refine Gl.iload Y249 rfl at_267 rfl ?_
      refine Gl.ifeq Y249 at_269 (by decide) rfl rfl (fun c269 => ?_) (fun c269 => ?_)
      · exact absurd c269 (by decide)
      refine Gl.aload Y249 rfl rfl at_272 rfl ?_
      refine Gl.iconst Y249 (v := (0 : Int32)) (by decide) at_274 rfl ?_
      have f14 : Arv Z h195 b126 ck126 .byte (3 : Int32) [(.int r66), (.int r78), (.int r90)] (.int (0 : Int32)) := (A142.keep K195 (ninS (Ne.symm (Nat.ne_of_lt (Nat.lt_of_lt_of_eq A112.lt g126.symm))) nin0))
      refine Gl.baload Y249 f14 ⟨by decide, by decide⟩ (v := (.int r66)) rfl at_275 rfl ?_
      refine Gl.iload Y249 rfl at_276 rfl ?_
      refine Gl.icmpne Y249 at_278 (by decide) rfl rfl (fun c278 => ?_) (fun c278 => ?_)
      · exact absurd rfl c278
      have j278 : r66.toInt = r66.toInt := congrArg Int32.toInt c278
      refine Gl.aload Y249 rfl rfl at_281 rfl ?_
      refine Gl.iconst Y249 (v := (1 : Int32)) (by decide) at_283 rfl ?_
      refine Gl.baload Y249 f14 ⟨by decide, by decide⟩ (v := (.int r78)) rfl at_284 rfl ?_
      refine Gl.iload Y249 rfl at_285 rfl ?_
      refine Gl.icmpne Y249 at_287 (by decide) rfl rfl (fun c287 => ?_) (fun c287 => ?_)
      · exact absurd rfl c287
      have j287 : r78.toInt = r78.toInt := congrArg Int32.toInt c287
      refine Gl.aload Y249 rfl rfl at_290 rfl ?_
      refine Gl.iconst Y249 (v := (2 : Int32)) (by decide) at_292 rfl ?_
      refine Gl.baload Y249 f14 ⟨by decide, by decide⟩ (v := (.int r90)) rfl at_293 rfl ?_
      refine Gl.iload Y249 rfl at_294 rfl ?_
      refine Gl.icmpne Y249 at_296 (by decide) rfl rfl (fun c296 => ?_) (fun c296 => ?_)
      · exact absurd rfl c296
      have j296 : r90.toInt = r90.toInt := congrArg Int32.toInt c296
      refine Gl.iconst Y249 (v := (1 : Int32)) (by decide) at_299 rfl ?_
      refine Gl.goto Y249 at_300 (by decide) rfl ?_
      refine Gl.istore Y249 (L' := #[.val (.int le), .val (.int se), .val (.int pl), .val (.int ps), .val (.int ct), .val (.int (2 : Int32)), .val (.int z15), .val (.int r31), .val (.int r43), .val (.int r55), .val (.int r66), .val (.int r78), .val (.int r90), .val (.ref b96), .val (.ref b126), .val (.int r66), .val (.int r78), .val (.int r90), .val (.int (1 : Int32))]) rfl at_304 rfl ?_
      refine Gl.iload Y249 rfl at_306 rfl ?_
      exact Gl.retZ Y249 (by decide) (by decide) (x' := (1 : Int32)) (by decide) at_308 rfl
    · refine Gl.aload Y142 rfl rfl at_187 rfl ?_
      refine Gl.iloadN Y142 rfl at_189 rfl ?_
      refine Gl.aload Y142 rfl rfl at_190 rfl ?_
      refine Gl.iloadN Y142 rfl at_192 rfl ?_
      refine Gl.iload Y142 rfl at_193 rfl ?_
      have f15 : Arv Z h142 b96 ck96 .byte (3 : Int32) [(.int r31), (.int r43), (.int r55)] (.int (0 : Int32)) := ((((A112.ext E126).other W132 (Nat.ne_of_lt (Nat.lt_of_lt_of_eq A112.lt g126.symm))).other W137 (Nat.ne_of_lt (Nat.lt_of_lt_of_eq A112.lt g126.symm))).other W142 (Nat.ne_of_lt (Nat.lt_of_lt_of_eq A112.lt g126.symm)))
      refine Gl.callS Y142 (tw_5 hw) (tw_6 hw) (tw_7 hw) (tw_8 hw) (by decide) (rm4 l Z a0 hw [] b96 le se ck96 r31 r43 r55 b126 ck126 r66 r78 r90 h142 n0 Y142.sz f15 sb96 A142 (Nat.ne_of_lt (Nat.lt_of_lt_of_eq A112.lt g126.symm))) (argsL := [(.ref b96), (.int le), (.ref b126), (.int se), (.int (3 : Int32))]) (rest := []) rfl rfl (lenOf pd_1 rfl) rfl (by decide) (Nat.le_of_ble_eq_true rfl) (by decide) (by decide) at_195 rfl (fun v195 T195 h195 Y195 q195 => ?_)
      obtain ⟨rfl, K195, f195_0⟩ := q195
      show Gl p e below _ (T195.setTop (mkF m 198 #[.val (.int le), .val (.int se), .val (.int pl), .val (.int ps), .val (.int ct), .val (.int (3 : Int32)), .val (.int z15), .val (.int r31), .val (.int r43), .val (.int r55), .val (.int r66), .val (.int r78), .val (.int r90), .val (.ref b96), .val (.ref b126), .val (.int r66), .val (.int r78), .val (.int r90), .unset] []))
      refine Gl.aload Y195 rfl rfl at_198 rfl ?_
      refine Gl.iconst Y195 (v := (0 : Int32)) (by decide) at_200 rfl ?_
      refine Gl.baload Y195 f195_0 ⟨by decide, by decide⟩ (v := (.int (own_mark r31 le r66 se))) rfl at_201 rfl ?_
      refine Gl.iconst Y195 (v := (0 : Int32)) (by decide) at_202 rfl ?_
      refine Gl.iload Y195 rfl at_203 rfl ?_
      refine Gl.iload Y195 rfl at_205 rfl ?_
      refine Gl.iload Y195 rfl at_207 rfl ?_
      refine Gl.iloadN Y195 rfl at_209 rfl ?_
      refine Gl.iloadN Y195 rfl at_210 rfl ?_
      refine Gl.callS Y195 (tw_9 hw) (tw_10 hw) (tw_2 hw) (tw_11 hw) (by decide) (rm12 l Z a0 hw [] (own_mark r31 le r66 se) r31 r66 le se h195 n0 Y195.sz (rfl)) (argsL := [(.int (own_mark r31 le r66 se)), (.int (0 : Int32)), (.int (3 : Int32)), (.int r31), (.int r66), (.int le), (.int se)]) (rest := []) rfl rfl (lenOf pd_2 rfl) rfl (by decide) (Nat.le_of_ble_eq_true rfl) (by decide) (by decide) at_211 rfl (fun v211 T211 h211 Y211 q211 => ?_)
      obtain ⟨rfl, rfl⟩ := q211
      show Gl p e below _ (T211.setTop (mkF m 214 #[.val (.int le), .val (.int se), .val (.int pl), .val (.int ps), .val (.int ct), .val (.int (3 : Int32)), .val (.int z15), .val (.int r31), .val (.int r43), .val (.int r55), .val (.int r66), .val (.int r78), .val (.int r90), .val (.ref b96), .val (.ref b126), .val (.int r66), .val (.int r78), .val (.int r90), .unset] [(.int (1 : Int32))]))
      refine Gl.ifeq Y211 at_214 (by decide) rfl rfl (fun c214 => ?_) (fun c214 => ?_)
      · exact absurd c214 (by decide)
      refine Gl.aload Y211 rfl rfl at_217 rfl ?_
      refine Gl.iconst Y211 (v := (1 : Int32)) (by decide) at_219 rfl ?_
      refine Gl.baload Y211 f195_0 ⟨by decide, by decide⟩ (v := (.int (own_mark r43 le r78 se))) rfl at_220 rfl ?_
      refine Gl.iconst Y211 (v := (1 : Int32)) (by decide) at_221 rfl ?_
      refine Gl.iload Y211 rfl at_222 rfl ?_
      refine Gl.iload Y211 rfl at_224 rfl ?_
      refine Gl.iload Y211 rfl at_226 rfl ?_
      refine Gl.iloadN Y211 rfl at_228 rfl ?_
      refine Gl.iloadN Y211 rfl at_229 rfl ?_
      refine Gl.callS Y211 (tw_9 hw) (tw_10 hw) (tw_2 hw) (tw_11 hw) (by decide) (rm16 l Z a0 hw [] (own_mark r43 le r78 se) r43 r78 le se h195 n0 Y211.sz (rfl)) (argsL := [(.int (own_mark r43 le r78 se)), (.int (1 : Int32)), (.int (3 : Int32)), (.int r43), (.int r78), (.int le), (.int se)]) (rest := []) rfl rfl (lenOf pd_2 rfl) rfl (by decide) (Nat.le_of_ble_eq_true rfl) (by decide) (by decide) at_230 rfl (fun v230 T230 h230 Y230 q230 => ?_)
      obtain ⟨rfl, rfl⟩ := q230
      show Gl p e below _ (T230.setTop (mkF m 233 #[.val (.int le), .val (.int se), .val (.int pl), .val (.int ps), .val (.int ct), .val (.int (3 : Int32)), .val (.int z15), .val (.int r31), .val (.int r43), .val (.int r55), .val (.int r66), .val (.int r78), .val (.int r90), .val (.ref b96), .val (.ref b126), .val (.int r66), .val (.int r78), .val (.int r90), .unset] [(.int (1 : Int32))]))
      refine Gl.ifeq Y230 at_233 (by decide) rfl rfl (fun c233 => ?_) (fun c233 => ?_)
      · exact absurd c233 (by decide)
      refine Gl.aload Y230 rfl rfl at_236 rfl ?_
      refine Gl.iconst Y230 (v := (2 : Int32)) (by decide) at_238 rfl ?_
      refine Gl.baload Y230 f195_0 ⟨by decide, by decide⟩ (v := (.int (own_mark r55 le r90 se))) rfl at_239 rfl ?_
      refine Gl.iconst Y230 (v := (2 : Int32)) (by decide) at_240 rfl ?_
      refine Gl.iload Y230 rfl at_241 rfl ?_
      refine Gl.iload Y230 rfl at_243 rfl ?_
      refine Gl.iload Y230 rfl at_245 rfl ?_
      refine Gl.iloadN Y230 rfl at_247 rfl ?_
      refine Gl.iloadN Y230 rfl at_248 rfl ?_
      refine Gl.callS Y230 (tw_9 hw) (tw_10 hw) (tw_2 hw) (tw_11 hw) (by decide) (rm20 l Z a0 hw [] (own_mark r55 le r90 se) r55 r90 le se h195 n0 Y230.sz (rfl)) (argsL := [(.int (own_mark r55 le r90 se)), (.int (2 : Int32)), (.int (3 : Int32)), (.int r55), (.int r90), (.int le), (.int se)]) (rest := []) rfl rfl (lenOf pd_2 rfl) rfl (by decide) (Nat.le_of_ble_eq_true rfl) (by decide) (by decide) at_249 rfl (fun v249 T249 h249 Y249 q249 => ?_)
      obtain ⟨rfl, rfl⟩ := q249
      show Gl p e below _ (T249.setTop (mkF m 252 #[.val (.int le), .val (.int se), .val (.int pl), .val (.int ps), .val (.int ct), .val (.int (3 : Int32)), .val (.int z15), .val (.int r31), .val (.int r43), .val (.int r55), .val (.int r66), .val (.int r78), .val (.int r90), .val (.ref b96), .val (.ref b126), .val (.int r66), .val (.int r78), .val (.int r90), .unset] [(.int (1 : Int32))]))
      refine Gl.ifeq Y249 at_252 (by decide) rfl rfl (fun c252 => ?_) (fun c252 => ?_)
      · exact absurd c252 (by decide)
      refine Gl.iconst Y249 (v := (1 : Int32)) (by decide) at_255 rfl ?_
      refine Gl.goto Y249 at_256 (by decide) rfl ?_
      refine Gl.istore Y249 (L' := #[.val (.int le), .val (.int se), .val (.int pl), .val (.int ps), .val (.int ct), .val (.int (3 : Int32)), .val (.int z15), .val (.int r31), .val (.int r43), .val (.int r55), .val (.int r66), .val (.int r78), .val (.int r90), .val (.ref b96), .val (.ref b126), .val (.int r66), .val (.int r78), .val (.int r90), .val (.int (1 : Int32))]) rfl at_260 rfl ?_
      refine Gl.iload Y249 rfl at_262 rfl ?_
      refine Gl.ifne Y249 at_264 (by decide) rfl rfl (fun c264 => ?_) (fun c264 => ?_)
      · exact absurd c175 c264
      have j264 : z15.toInt = 0 := congrArg Int32.toInt c264
      refine Gl.iload Y249 rfl at_267 rfl ?_
      refine Gl.ifeq Y249 at_269 (by decide) rfl rfl (fun c269 => ?_) (fun c269 => ?_)
      · exact absurd c269 (by decide)
      refine Gl.aload Y249 rfl rfl at_272 rfl ?_
      refine Gl.iconst Y249 (v := (0 : Int32)) (by decide) at_274 rfl ?_
      have f16 : Arv Z h195 b126 ck126 .byte (3 : Int32) [(.int r66), (.int r78), (.int r90)] (.int (0 : Int32)) := (A142.keep K195 (ninS (Ne.symm (Nat.ne_of_lt (Nat.lt_of_lt_of_eq A112.lt g126.symm))) nin0))
      refine Gl.baload Y249 f16 ⟨by decide, by decide⟩ (v := (.int r66)) rfl at_275 rfl ?_
      refine Gl.iload Y249 rfl at_276 rfl ?_
      refine Gl.icmpne Y249 at_278 (by decide) rfl rfl (fun c278 => ?_) (fun c278 => ?_)
      · exact absurd rfl c278
      have j278 : r66.toInt = r66.toInt := congrArg Int32.toInt c278
      refine Gl.aload Y249 rfl rfl at_281 rfl ?_
      refine Gl.iconst Y249 (v := (1 : Int32)) (by decide) at_283 rfl ?_
      refine Gl.baload Y249 f16 ⟨by decide, by decide⟩ (v := (.int r78)) rfl at_284 rfl ?_
      refine Gl.iload Y249 rfl at_285 rfl ?_
      refine Gl.icmpne Y249 at_287 (by decide) rfl rfl (fun c287 => ?_) (fun c287 => ?_)
      · exact absurd rfl c287
      have j287 : r78.toInt = r78.toInt := congrArg Int32.toInt c287
      refine Gl.aload Y249 rfl rfl at_290 rfl ?_
      refine Gl.iconst Y249 (v := (2 : Int32)) (by decide) at_292 rfl ?_
      refine Gl.baload Y249 f16 ⟨by decide, by decide⟩ (v := (.int r90)) rfl at_293 rfl ?_
      refine Gl.iload Y249 rfl at_294 rfl ?_
      refine Gl.icmpne Y249 at_296 (by decide) rfl rfl (fun c296 => ?_) (fun c296 => ?_)
      · exact absurd rfl c296
      have j296 : r90.toInt = r90.toInt := congrArg Int32.toInt c296
      refine Gl.iconst Y249 (v := (1 : Int32)) (by decide) at_299 rfl ?_
      refine Gl.goto Y249 at_300 (by decide) rfl ?_
      refine Gl.istore Y249 (L' := #[.val (.int le), .val (.int se), .val (.int pl), .val (.int ps), .val (.int ct), .val (.int (3 : Int32)), .val (.int z15), .val (.int r31), .val (.int r43), .val (.int r55), .val (.int r66), .val (.int r78), .val (.int r90), .val (.ref b96), .val (.ref b126), .val (.int r66), .val (.int r78), .val (.int r90), .val (.int (1 : Int32))]) rfl at_304 rfl ?_
      refine Gl.iload Y249 rfl at_306 rfl ?_
      exact Gl.retZ Y249 (by decide) (by decide) (x' := (1 : Int32)) (by decide) at_308 rfl
  · have j117 : ¬ (z15.toInt = 0) := fun q => c117 (Int32.toInt_inj.mp q)
    refine Gl.aload Y112 rfl rfl at_120 rfl ?_
    refine Gl.goto Y112 at_122 (by decide) rfl ?_
    refine Gl.astore Y112 rfl (L' := #[.val (.int le), .val (.int se), .val (.int pl), .val (.int ps), .val (.int ct), .val (.int v6), .val (.int z15), .val (.int r31), .val (.int r43), .val (.int r55), .val (.int r66), .val (.int r78), .val (.int r90), .val (.ref b96), .val (.ref b96), .unset, .unset, .unset, .unset]) rfl at_143 rfl ?_
    refine Gl.iload Y112 rfl at_145 rfl ?_
    refine Gl.ifeq Y112 at_147 (by decide) rfl rfl (fun c147 => ?_) (fun c147 => ?_)
    · exact absurd c147 c117
    have j147 : ¬ (z15.toInt = 0) := fun q => c147 (Int32.toInt_inj.mp q)
    refine Gl.iload Y112 rfl at_150 rfl ?_
    refine Gl.goto Y112 at_152 (by decide) rfl ?_
    refine Gl.istore Y112 (L' := #[.val (.int le), .val (.int se), .val (.int pl), .val (.int ps), .val (.int ct), .val (.int v6), .val (.int z15), .val (.int r31), .val (.int r43), .val (.int r55), .val (.int r66), .val (.int r78), .val (.int r90), .val (.ref b96), .val (.ref b96), .val (.int r31), .unset, .unset, .unset]) rfl at_157 rfl ?_
    refine Gl.iload Y112 rfl at_159 rfl ?_
    refine Gl.ifeq Y112 at_161 (by decide) rfl rfl (fun c161 => ?_) (fun c161 => ?_)
    · exact absurd c161 c147
    have j161 : ¬ (z15.toInt = 0) := fun q => c161 (Int32.toInt_inj.mp q)
    refine Gl.iload Y112 rfl at_164 rfl ?_
    refine Gl.goto Y112 at_166 (by decide) rfl ?_
    refine Gl.istore Y112 (L' := #[.val (.int le), .val (.int se), .val (.int pl), .val (.int ps), .val (.int ct), .val (.int v6), .val (.int z15), .val (.int r31), .val (.int r43), .val (.int r55), .val (.int r66), .val (.int r78), .val (.int r90), .val (.ref b96), .val (.ref b96), .val (.int r31), .val (.int r43), .unset, .unset]) rfl at_171 rfl ?_
    refine Gl.iload Y112 rfl at_173 rfl ?_
    refine Gl.ifeq Y112 at_175 (by decide) rfl rfl (fun c175 => ?_) (fun c175 => ?_)
    · exact absurd c175 c161
    have j175 : ¬ (z15.toInt = 0) := fun q => c175 (Int32.toInt_inj.mp q)
    refine Gl.iload Y112 rfl at_178 rfl ?_
    refine Gl.goto Y112 at_180 (by decide) rfl ?_
    refine Gl.istore Y112 (L' := #[.val (.int le), .val (.int se), .val (.int pl), .val (.int ps), .val (.int ct), .val (.int v6), .val (.int z15), .val (.int r31), .val (.int r43), .val (.int r55), .val (.int r66), .val (.int r78), .val (.int r90), .val (.ref b96), .val (.ref b96), .val (.int r31), .val (.int r43), .val (.int r55), .unset]) rfl at_185 rfl ?_
    have cs_v6 : v6 = (0 : Int32) ∨ v6 = (1 : Int32) ∨ v6 = (2 : Int32) ∨ v6 = (3 : Int32) := own_c3 (by omega) (by omega)
    rcases cs_v6 with rfl | rfl | rfl | rfl
    · refine Gl.aload Y112 rfl rfl at_187 rfl ?_
      refine Gl.iloadN Y112 rfl at_189 rfl ?_
      refine Gl.aload Y112 rfl rfl at_190 rfl ?_
      refine Gl.iloadN Y112 rfl at_192 rfl ?_
      refine Gl.iload Y112 rfl at_193 rfl ?_
      refine Gl.callS Y112 (tw_5 hw) (tw_6 hw) (tw_7 hw) (tw_8 hw) (by decide) (rm5 l Z a0 hw [] b96 le se ck96 r31 r43 r55 h112 n0 Y112.sz A112 sb96) (argsL := [(.ref b96), (.int le), (.ref b96), (.int se), (.int (0 : Int32))]) (rest := []) rfl rfl (lenOf pd_1 rfl) rfl (by decide) (Nat.le_of_ble_eq_true rfl) (by decide) (by decide) at_195 rfl (fun v195 T195 h195 Y195 q195 => ?_)
      obtain ⟨rfl, K195, f195_0⟩ := q195
      show Gl p e below _ (T195.setTop (mkF m 198 #[.val (.int le), .val (.int se), .val (.int pl), .val (.int ps), .val (.int ct), .val (.int (0 : Int32)), .val (.int z15), .val (.int r31), .val (.int r43), .val (.int r55), .val (.int r66), .val (.int r78), .val (.int r90), .val (.ref b96), .val (.ref b96), .val (.int r31), .val (.int r43), .val (.int r55), .unset] []))
      refine Gl.aload Y195 rfl rfl at_198 rfl ?_
      refine Gl.iconst Y195 (v := (0 : Int32)) (by decide) at_200 rfl ?_
      refine Gl.baload Y195 f195_0 ⟨by decide, by decide⟩ (v := (.int r31)) rfl at_201 rfl ?_
      refine Gl.iconst Y195 (v := (0 : Int32)) (by decide) at_202 rfl ?_
      refine Gl.iload Y195 rfl at_203 rfl ?_
      refine Gl.iload Y195 rfl at_205 rfl ?_
      refine Gl.iload Y195 rfl at_207 rfl ?_
      refine Gl.iloadN Y195 rfl at_209 rfl ?_
      refine Gl.iloadN Y195 rfl at_210 rfl ?_
      refine Gl.callS Y195 (tw_9 hw) (tw_10 hw) (tw_2 hw) (tw_11 hw) (by decide) (rm9 l Z a0 hw [] r31 r31 r31 le se h195 n0 Y195.sz (rfl)) (argsL := [(.int r31), (.int (0 : Int32)), (.int (0 : Int32)), (.int r31), (.int r31), (.int le), (.int se)]) (rest := []) rfl rfl (lenOf pd_2 rfl) rfl (by decide) (Nat.le_of_ble_eq_true rfl) (by decide) (by decide) at_211 rfl (fun v211 T211 h211 Y211 q211 => ?_)
      obtain ⟨rfl, rfl⟩ := q211
      show Gl p e below _ (T211.setTop (mkF m 214 #[.val (.int le), .val (.int se), .val (.int pl), .val (.int ps), .val (.int ct), .val (.int (0 : Int32)), .val (.int z15), .val (.int r31), .val (.int r43), .val (.int r55), .val (.int r66), .val (.int r78), .val (.int r90), .val (.ref b96), .val (.ref b96), .val (.int r31), .val (.int r43), .val (.int r55), .unset] [(.int (1 : Int32))]))
      refine Gl.ifeq Y211 at_214 (by decide) rfl rfl (fun c214 => ?_) (fun c214 => ?_)
      · exact absurd c214 (by decide)
      refine Gl.aload Y211 rfl rfl at_217 rfl ?_
      refine Gl.iconst Y211 (v := (1 : Int32)) (by decide) at_219 rfl ?_
      refine Gl.baload Y211 f195_0 ⟨by decide, by decide⟩ (v := (.int r43)) rfl at_220 rfl ?_
      refine Gl.iconst Y211 (v := (1 : Int32)) (by decide) at_221 rfl ?_
      refine Gl.iload Y211 rfl at_222 rfl ?_
      refine Gl.iload Y211 rfl at_224 rfl ?_
      refine Gl.iload Y211 rfl at_226 rfl ?_
      refine Gl.iloadN Y211 rfl at_228 rfl ?_
      refine Gl.iloadN Y211 rfl at_229 rfl ?_
      refine Gl.callS Y211 (tw_9 hw) (tw_10 hw) (tw_2 hw) (tw_11 hw) (by decide) (rm13 l Z a0 hw [] r43 r43 r43 le se h195 n0 Y211.sz (rfl)) (argsL := [(.int r43), (.int (1 : Int32)), (.int (0 : Int32)), (.int r43), (.int r43), (.int le), (.int se)]) (rest := []) rfl rfl (lenOf pd_2 rfl) rfl (by decide) (Nat.le_of_ble_eq_true rfl) (by decide) (by decide) at_230 rfl (fun v230 T230 h230 Y230 q230 => ?_)
      obtain ⟨rfl, rfl⟩ := q230
      show Gl p e below _ (T230.setTop (mkF m 233 #[.val (.int le), .val (.int se), .val (.int pl), .val (.int ps), .val (.int ct), .val (.int (0 : Int32)), .val (.int z15), .val (.int r31), .val (.int r43), .val (.int r55), .val (.int r66), .val (.int r78), .val (.int r90), .val (.ref b96), .val (.ref b96), .val (.int r31), .val (.int r43), .val (.int r55), .unset] [(.int (1 : Int32))]))
      refine Gl.ifeq Y230 at_233 (by decide) rfl rfl (fun c233 => ?_) (fun c233 => ?_)
      · exact absurd c233 (by decide)
      refine Gl.aload Y230 rfl rfl at_236 rfl ?_
      refine Gl.iconst Y230 (v := (2 : Int32)) (by decide) at_238 rfl ?_
      refine Gl.baload Y230 f195_0 ⟨by decide, by decide⟩ (v := (.int r55)) rfl at_239 rfl ?_
      refine Gl.iconst Y230 (v := (2 : Int32)) (by decide) at_240 rfl ?_
      refine Gl.iload Y230 rfl at_241 rfl ?_
      refine Gl.iload Y230 rfl at_243 rfl ?_
      refine Gl.iload Y230 rfl at_245 rfl ?_
      refine Gl.iloadN Y230 rfl at_247 rfl ?_
      refine Gl.iloadN Y230 rfl at_248 rfl ?_
      refine Gl.callS Y230 (tw_9 hw) (tw_10 hw) (tw_2 hw) (tw_11 hw) (by decide) (rm17 l Z a0 hw [] r55 r55 r55 le se h195 n0 Y230.sz (rfl)) (argsL := [(.int r55), (.int (2 : Int32)), (.int (0 : Int32)), (.int r55), (.int r55), (.int le), (.int se)]) (rest := []) rfl rfl (lenOf pd_2 rfl) rfl (by decide) (Nat.le_of_ble_eq_true rfl) (by decide) (by decide) at_249 rfl (fun v249 T249 h249 Y249 q249 => ?_)
      obtain ⟨rfl, rfl⟩ := q249
      show Gl p e below _ (T249.setTop (mkF m 252 #[.val (.int le), .val (.int se), .val (.int pl), .val (.int ps), .val (.int ct), .val (.int (0 : Int32)), .val (.int z15), .val (.int r31), .val (.int r43), .val (.int r55), .val (.int r66), .val (.int r78), .val (.int r90), .val (.ref b96), .val (.ref b96), .val (.int r31), .val (.int r43), .val (.int r55), .unset] [(.int (1 : Int32))]))
      refine Gl.ifeq Y249 at_252 (by decide) rfl rfl (fun c252 => ?_) (fun c252 => ?_)
      · exact absurd c252 (by decide)
      refine Gl.iconst Y249 (v := (1 : Int32)) (by decide) at_255 rfl ?_
      refine Gl.goto Y249 at_256 (by decide) rfl ?_
      refine Gl.istore Y249 (L' := #[.val (.int le), .val (.int se), .val (.int pl), .val (.int ps), .val (.int ct), .val (.int (0 : Int32)), .val (.int z15), .val (.int r31), .val (.int r43), .val (.int r55), .val (.int r66), .val (.int r78), .val (.int r90), .val (.ref b96), .val (.ref b96), .val (.int r31), .val (.int r43), .val (.int r55), .val (.int (1 : Int32))]) rfl at_260 rfl ?_
      refine Gl.iload Y249 rfl at_262 rfl ?_
      refine Gl.ifne Y249 at_264 (by decide) rfl rfl (fun c264 => ?_) (fun c264 => ?_)
      rotate_left
      · exact absurd c264 c175
      have j264 : ¬ (z15.toInt = 0) := fun q => c264 (Int32.toInt_inj.mp q)
      refine Gl.iload Y249 rfl at_306 rfl ?_
      exact Gl.retZ Y249 (by decide) (by decide) (x' := (1 : Int32)) (by decide) at_308 rfl
    · refine Gl.aload Y112 rfl rfl at_187 rfl ?_
      refine Gl.iloadN Y112 rfl at_189 rfl ?_
      refine Gl.aload Y112 rfl rfl at_190 rfl ?_
      refine Gl.iloadN Y112 rfl at_192 rfl ?_
      refine Gl.iload Y112 rfl at_193 rfl ?_
      refine Gl.callS Y112 (tw_5 hw) (tw_6 hw) (tw_7 hw) (tw_8 hw) (by decide) (rm6 l Z a0 hw [] b96 le se ck96 r31 r43 r55 h112 n0 Y112.sz A112 sb96) (argsL := [(.ref b96), (.int le), (.ref b96), (.int se), (.int (1 : Int32))]) (rest := []) rfl rfl (lenOf pd_1 rfl) rfl (by decide) (Nat.le_of_ble_eq_true rfl) (by decide) (by decide) at_195 rfl (fun v195 T195 h195 Y195 q195 => ?_)
      obtain ⟨rfl, K195, f195_0⟩ := q195
      show Gl p e below _ (T195.setTop (mkF m 198 #[.val (.int le), .val (.int se), .val (.int pl), .val (.int ps), .val (.int ct), .val (.int (1 : Int32)), .val (.int z15), .val (.int r31), .val (.int r43), .val (.int r55), .val (.int r66), .val (.int r78), .val (.int r90), .val (.ref b96), .val (.ref b96), .val (.int r31), .val (.int r43), .val (.int r55), .unset] []))
      refine Gl.aload Y195 rfl rfl at_198 rfl ?_
      refine Gl.iconst Y195 (v := (0 : Int32)) (by decide) at_200 rfl ?_
      refine Gl.baload Y195 f195_0 ⟨by decide, by decide⟩ (v := (.int (own_mark r31 le r31 se))) rfl at_201 rfl ?_
      refine Gl.iconst Y195 (v := (0 : Int32)) (by decide) at_202 rfl ?_
      refine Gl.iload Y195 rfl at_203 rfl ?_
      refine Gl.iload Y195 rfl at_205 rfl ?_
      refine Gl.iload Y195 rfl at_207 rfl ?_
      refine Gl.iloadN Y195 rfl at_209 rfl ?_
      refine Gl.iloadN Y195 rfl at_210 rfl ?_
      refine Gl.callS Y195 (tw_9 hw) (tw_10 hw) (tw_2 hw) (tw_11 hw) (by decide) (rm10 l Z a0 hw [] (own_mark r31 le r31 se) r31 r31 le se h195 n0 Y195.sz (rfl)) (argsL := [(.int (own_mark r31 le r31 se)), (.int (0 : Int32)), (.int (1 : Int32)), (.int r31), (.int r31), (.int le), (.int se)]) (rest := []) rfl rfl (lenOf pd_2 rfl) rfl (by decide) (Nat.le_of_ble_eq_true rfl) (by decide) (by decide) at_211 rfl (fun v211 T211 h211 Y211 q211 => ?_)
      obtain ⟨rfl, rfl⟩ := q211
      show Gl p e below _ (T211.setTop (mkF m 214 #[.val (.int le), .val (.int se), .val (.int pl), .val (.int ps), .val (.int ct), .val (.int (1 : Int32)), .val (.int z15), .val (.int r31), .val (.int r43), .val (.int r55), .val (.int r66), .val (.int r78), .val (.int r90), .val (.ref b96), .val (.ref b96), .val (.int r31), .val (.int r43), .val (.int r55), .unset] [(.int (1 : Int32))]))
      refine Gl.ifeq Y211 at_214 (by decide) rfl rfl (fun c214 => ?_) (fun c214 => ?_)
      · exact absurd c214 (by decide)
      refine Gl.aload Y211 rfl rfl at_217 rfl ?_
      refine Gl.iconst Y211 (v := (1 : Int32)) (by decide) at_219 rfl ?_
      refine Gl.baload Y211 f195_0 ⟨by decide, by decide⟩ (v := (.int r43)) rfl at_220 rfl ?_
      refine Gl.iconst Y211 (v := (1 : Int32)) (by decide) at_221 rfl ?_
      refine Gl.iload Y211 rfl at_222 rfl ?_
      refine Gl.iload Y211 rfl at_224 rfl ?_
      refine Gl.iload Y211 rfl at_226 rfl ?_
      refine Gl.iloadN Y211 rfl at_228 rfl ?_
      refine Gl.iloadN Y211 rfl at_229 rfl ?_
      refine Gl.callS Y211 (tw_9 hw) (tw_10 hw) (tw_2 hw) (tw_11 hw) (by decide) (rm14 l Z a0 hw [] r43 r43 r43 le se h195 n0 Y211.sz (rfl)) (argsL := [(.int r43), (.int (1 : Int32)), (.int (1 : Int32)), (.int r43), (.int r43), (.int le), (.int se)]) (rest := []) rfl rfl (lenOf pd_2 rfl) rfl (by decide) (Nat.le_of_ble_eq_true rfl) (by decide) (by decide) at_230 rfl (fun v230 T230 h230 Y230 q230 => ?_)
      obtain ⟨rfl, rfl⟩ := q230
      show Gl p e below _ (T230.setTop (mkF m 233 #[.val (.int le), .val (.int se), .val (.int pl), .val (.int ps), .val (.int ct), .val (.int (1 : Int32)), .val (.int z15), .val (.int r31), .val (.int r43), .val (.int r55), .val (.int r66), .val (.int r78), .val (.int r90), .val (.ref b96), .val (.ref b96), .val (.int r31), .val (.int r43), .val (.int r55), .unset] [(.int (1 : Int32))]))
      refine Gl.ifeq Y230 at_233 (by decide) rfl rfl (fun c233 => ?_) (fun c233 => ?_)
      · exact absurd c233 (by decide)
      refine Gl.aload Y230 rfl rfl at_236 rfl ?_
      refine Gl.iconst Y230 (v := (2 : Int32)) (by decide) at_238 rfl ?_
      refine Gl.baload Y230 f195_0 ⟨by decide, by decide⟩ (v := (.int r55)) rfl at_239 rfl ?_
      refine Gl.iconst Y230 (v := (2 : Int32)) (by decide) at_240 rfl ?_
      refine Gl.iload Y230 rfl at_241 rfl ?_
      refine Gl.iload Y230 rfl at_243 rfl ?_
      refine Gl.iload Y230 rfl at_245 rfl ?_
      refine Gl.iloadN Y230 rfl at_247 rfl ?_
      refine Gl.iloadN Y230 rfl at_248 rfl ?_
      refine Gl.callS Y230 (tw_9 hw) (tw_10 hw) (tw_2 hw) (tw_11 hw) (by decide) (rm18 l Z a0 hw [] r55 r55 r55 le se h195 n0 Y230.sz (rfl)) (argsL := [(.int r55), (.int (2 : Int32)), (.int (1 : Int32)), (.int r55), (.int r55), (.int le), (.int se)]) (rest := []) rfl rfl (lenOf pd_2 rfl) rfl (by decide) (Nat.le_of_ble_eq_true rfl) (by decide) (by decide) at_249 rfl (fun v249 T249 h249 Y249 q249 => ?_)
      obtain ⟨rfl, rfl⟩ := q249
      show Gl p e below _ (T249.setTop (mkF m 252 #[.val (.int le), .val (.int se), .val (.int pl), .val (.int ps), .val (.int ct), .val (.int (1 : Int32)), .val (.int z15), .val (.int r31), .val (.int r43), .val (.int r55), .val (.int r66), .val (.int r78), .val (.int r90), .val (.ref b96), .val (.ref b96), .val (.int r31), .val (.int r43), .val (.int r55), .unset] [(.int (1 : Int32))]))
      refine Gl.ifeq Y249 at_252 (by decide) rfl rfl (fun c252 => ?_) (fun c252 => ?_)
      · exact absurd c252 (by decide)
      refine Gl.iconst Y249 (v := (1 : Int32)) (by decide) at_255 rfl ?_
      refine Gl.goto Y249 at_256 (by decide) rfl ?_
      refine Gl.istore Y249 (L' := #[.val (.int le), .val (.int se), .val (.int pl), .val (.int ps), .val (.int ct), .val (.int (1 : Int32)), .val (.int z15), .val (.int r31), .val (.int r43), .val (.int r55), .val (.int r66), .val (.int r78), .val (.int r90), .val (.ref b96), .val (.ref b96), .val (.int r31), .val (.int r43), .val (.int r55), .val (.int (1 : Int32))]) rfl at_260 rfl ?_
      refine Gl.iload Y249 rfl at_262 rfl ?_
      refine Gl.ifne Y249 at_264 (by decide) rfl rfl (fun c264 => ?_) (fun c264 => ?_)
      rotate_left
      · exact absurd c264 c175
      have j264 : ¬ (z15.toInt = 0) := fun q => c264 (Int32.toInt_inj.mp q)
      refine Gl.iload Y249 rfl at_306 rfl ?_
      exact Gl.retZ Y249 (by decide) (by decide) (x' := (1 : Int32)) (by decide) at_308 rfl
    · refine Gl.aload Y112 rfl rfl at_187 rfl ?_
      refine Gl.iloadN Y112 rfl at_189 rfl ?_
      refine Gl.aload Y112 rfl rfl at_190 rfl ?_
      refine Gl.iloadN Y112 rfl at_192 rfl ?_
      refine Gl.iload Y112 rfl at_193 rfl ?_
      refine Gl.callS Y112 (tw_5 hw) (tw_6 hw) (tw_7 hw) (tw_8 hw) (by decide) (rm7 l Z a0 hw [] b96 le se ck96 r31 r43 r55 h112 n0 Y112.sz A112 sb96) (argsL := [(.ref b96), (.int le), (.ref b96), (.int se), (.int (2 : Int32))]) (rest := []) rfl rfl (lenOf pd_1 rfl) rfl (by decide) (Nat.le_of_ble_eq_true rfl) (by decide) (by decide) at_195 rfl (fun v195 T195 h195 Y195 q195 => ?_)
      obtain ⟨rfl, K195, f195_0⟩ := q195
      show Gl p e below _ (T195.setTop (mkF m 198 #[.val (.int le), .val (.int se), .val (.int pl), .val (.int ps), .val (.int ct), .val (.int (2 : Int32)), .val (.int z15), .val (.int r31), .val (.int r43), .val (.int r55), .val (.int r66), .val (.int r78), .val (.int r90), .val (.ref b96), .val (.ref b96), .val (.int r31), .val (.int r43), .val (.int r55), .unset] []))
      refine Gl.aload Y195 rfl rfl at_198 rfl ?_
      refine Gl.iconst Y195 (v := (0 : Int32)) (by decide) at_200 rfl ?_
      refine Gl.baload Y195 f195_0 ⟨by decide, by decide⟩ (v := (.int (own_mark r31 le r31 se))) rfl at_201 rfl ?_
      refine Gl.iconst Y195 (v := (0 : Int32)) (by decide) at_202 rfl ?_
      refine Gl.iload Y195 rfl at_203 rfl ?_
      refine Gl.iload Y195 rfl at_205 rfl ?_
      refine Gl.iload Y195 rfl at_207 rfl ?_
      refine Gl.iloadN Y195 rfl at_209 rfl ?_
      refine Gl.iloadN Y195 rfl at_210 rfl ?_
      refine Gl.callS Y195 (tw_9 hw) (tw_10 hw) (tw_2 hw) (tw_11 hw) (by decide) (rm11 l Z a0 hw [] (own_mark r31 le r31 se) r31 r31 le se h195 n0 Y195.sz (rfl)) (argsL := [(.int (own_mark r31 le r31 se)), (.int (0 : Int32)), (.int (2 : Int32)), (.int r31), (.int r31), (.int le), (.int se)]) (rest := []) rfl rfl (lenOf pd_2 rfl) rfl (by decide) (Nat.le_of_ble_eq_true rfl) (by decide) (by decide) at_211 rfl (fun v211 T211 h211 Y211 q211 => ?_)
      obtain ⟨rfl, rfl⟩ := q211
      show Gl p e below _ (T211.setTop (mkF m 214 #[.val (.int le), .val (.int se), .val (.int pl), .val (.int ps), .val (.int ct), .val (.int (2 : Int32)), .val (.int z15), .val (.int r31), .val (.int r43), .val (.int r55), .val (.int r66), .val (.int r78), .val (.int r90), .val (.ref b96), .val (.ref b96), .val (.int r31), .val (.int r43), .val (.int r55), .unset] [(.int (1 : Int32))]))
      refine Gl.ifeq Y211 at_214 (by decide) rfl rfl (fun c214 => ?_) (fun c214 => ?_)
      · exact absurd c214 (by decide)
      refine Gl.aload Y211 rfl rfl at_217 rfl ?_
      refine Gl.iconst Y211 (v := (1 : Int32)) (by decide) at_219 rfl ?_
      refine Gl.baload Y211 f195_0 ⟨by decide, by decide⟩ (v := (.int (own_mark r43 le r43 se))) rfl at_220 rfl ?_
      refine Gl.iconst Y211 (v := (1 : Int32)) (by decide) at_221 rfl ?_
      refine Gl.iload Y211 rfl at_222 rfl ?_
      refine Gl.iload Y211 rfl at_224 rfl ?_
      refine Gl.iload Y211 rfl at_226 rfl ?_
      refine Gl.iloadN Y211 rfl at_228 rfl ?_
      refine Gl.iloadN Y211 rfl at_229 rfl ?_
      refine Gl.callS Y211 (tw_9 hw) (tw_10 hw) (tw_2 hw) (tw_11 hw) (by decide) (rm15 l Z a0 hw [] (own_mark r43 le r43 se) r43 r43 le se h195 n0 Y211.sz (rfl)) (argsL := [(.int (own_mark r43 le r43 se)), (.int (1 : Int32)), (.int (2 : Int32)), (.int r43), (.int r43), (.int le), (.int se)]) (rest := []) rfl rfl (lenOf pd_2 rfl) rfl (by decide) (Nat.le_of_ble_eq_true rfl) (by decide) (by decide) at_230 rfl (fun v230 T230 h230 Y230 q230 => ?_)
      obtain ⟨rfl, rfl⟩ := q230
      show Gl p e below _ (T230.setTop (mkF m 233 #[.val (.int le), .val (.int se), .val (.int pl), .val (.int ps), .val (.int ct), .val (.int (2 : Int32)), .val (.int z15), .val (.int r31), .val (.int r43), .val (.int r55), .val (.int r66), .val (.int r78), .val (.int r90), .val (.ref b96), .val (.ref b96), .val (.int r31), .val (.int r43), .val (.int r55), .unset] [(.int (1 : Int32))]))
      refine Gl.ifeq Y230 at_233 (by decide) rfl rfl (fun c233 => ?_) (fun c233 => ?_)
      · exact absurd c233 (by decide)
      refine Gl.aload Y230 rfl rfl at_236 rfl ?_
      refine Gl.iconst Y230 (v := (2 : Int32)) (by decide) at_238 rfl ?_
      refine Gl.baload Y230 f195_0 ⟨by decide, by decide⟩ (v := (.int r55)) rfl at_239 rfl ?_
      refine Gl.iconst Y230 (v := (2 : Int32)) (by decide) at_240 rfl ?_
      refine Gl.iload Y230 rfl at_241 rfl ?_
      refine Gl.iload Y230 rfl at_243 rfl ?_
      refine Gl.iload Y230 rfl at_245 rfl ?_
      refine Gl.iloadN Y230 rfl at_247 rfl ?_
      refine Gl.iloadN Y230 rfl at_248 rfl ?_
      refine Gl.callS Y230 (tw_9 hw) (tw_10 hw) (tw_2 hw) (tw_11 hw) (by decide) (rm19 l Z a0 hw [] r55 r55 r55 le se h195 n0 Y230.sz (rfl)) (argsL := [(.int r55), (.int (2 : Int32)), (.int (2 : Int32)), (.int r55), (.int r55), (.int le), (.int se)]) (rest := []) rfl rfl (lenOf pd_2 rfl) rfl (by decide) (Nat.le_of_ble_eq_true rfl) (by decide) (by decide) at_249 rfl (fun v249 T249 h249 Y249 q249 => ?_)
      obtain ⟨rfl, rfl⟩ := q249
      show Gl p e below _ (T249.setTop (mkF m 252 #[.val (.int le), .val (.int se), .val (.int pl), .val (.int ps), .val (.int ct), .val (.int (2 : Int32)), .val (.int z15), .val (.int r31), .val (.int r43), .val (.int r55), .val (.int r66), .val (.int r78), .val (.int r90), .val (.ref b96), .val (.ref b96), .val (.int r31), .val (.int r43), .val (.int r55), .unset] [(.int (1 : Int32))]))
      refine Gl.ifeq Y249 at_252 (by decide) rfl rfl (fun c252 => ?_) (fun c252 => ?_)
      · exact absurd c252 (by decide)
      refine Gl.iconst Y249 (v := (1 : Int32)) (by decide) at_255 rfl ?_
      refine Gl.goto Y249 at_256 (by decide) rfl ?_
      refine Gl.istore Y249 (L' := #[.val (.int le), .val (.int se), .val (.int pl), .val (.int ps), .val (.int ct), .val (.int (2 : Int32)), .val (.int z15), .val (.int r31), .val (.int r43), .val (.int r55), .val (.int r66), .val (.int r78), .val (.int r90), .val (.ref b96), .val (.ref b96), .val (.int r31), .val (.int r43), .val (.int r55), .val (.int (1 : Int32))]) rfl at_260 rfl ?_
      refine Gl.iload Y249 rfl at_262 rfl ?_
      refine Gl.ifne Y249 at_264 (by decide) rfl rfl (fun c264 => ?_) (fun c264 => ?_)
      rotate_left
      · exact absurd c264 c175
      have j264 : ¬ (z15.toInt = 0) := fun q => c264 (Int32.toInt_inj.mp q)
      refine Gl.iload Y249 rfl at_306 rfl ?_
      exact Gl.retZ Y249 (by decide) (by decide) (x' := (1 : Int32)) (by decide) at_308 rfl
    · refine Gl.aload Y112 rfl rfl at_187 rfl ?_
      refine Gl.iloadN Y112 rfl at_189 rfl ?_
      refine Gl.aload Y112 rfl rfl at_190 rfl ?_
      refine Gl.iloadN Y112 rfl at_192 rfl ?_
      refine Gl.iload Y112 rfl at_193 rfl ?_
      refine Gl.callS Y112 (tw_5 hw) (tw_6 hw) (tw_7 hw) (tw_8 hw) (by decide) (rm8 l Z a0 hw [] b96 le se ck96 r31 r43 r55 h112 n0 Y112.sz A112 sb96) (argsL := [(.ref b96), (.int le), (.ref b96), (.int se), (.int (3 : Int32))]) (rest := []) rfl rfl (lenOf pd_1 rfl) rfl (by decide) (Nat.le_of_ble_eq_true rfl) (by decide) (by decide) at_195 rfl (fun v195 T195 h195 Y195 q195 => ?_)
      obtain ⟨rfl, K195, f195_0⟩ := q195
      show Gl p e below _ (T195.setTop (mkF m 198 #[.val (.int le), .val (.int se), .val (.int pl), .val (.int ps), .val (.int ct), .val (.int (3 : Int32)), .val (.int z15), .val (.int r31), .val (.int r43), .val (.int r55), .val (.int r66), .val (.int r78), .val (.int r90), .val (.ref b96), .val (.ref b96), .val (.int r31), .val (.int r43), .val (.int r55), .unset] []))
      refine Gl.aload Y195 rfl rfl at_198 rfl ?_
      refine Gl.iconst Y195 (v := (0 : Int32)) (by decide) at_200 rfl ?_
      refine Gl.baload Y195 f195_0 ⟨by decide, by decide⟩ (v := (.int (own_mark r31 le r31 se))) rfl at_201 rfl ?_
      refine Gl.iconst Y195 (v := (0 : Int32)) (by decide) at_202 rfl ?_
      refine Gl.iload Y195 rfl at_203 rfl ?_
      refine Gl.iload Y195 rfl at_205 rfl ?_
      refine Gl.iload Y195 rfl at_207 rfl ?_
      refine Gl.iloadN Y195 rfl at_209 rfl ?_
      refine Gl.iloadN Y195 rfl at_210 rfl ?_
      refine Gl.callS Y195 (tw_9 hw) (tw_10 hw) (tw_2 hw) (tw_11 hw) (by decide) (rm12 l Z a0 hw [] (own_mark r31 le r31 se) r31 r31 le se h195 n0 Y195.sz (rfl)) (argsL := [(.int (own_mark r31 le r31 se)), (.int (0 : Int32)), (.int (3 : Int32)), (.int r31), (.int r31), (.int le), (.int se)]) (rest := []) rfl rfl (lenOf pd_2 rfl) rfl (by decide) (Nat.le_of_ble_eq_true rfl) (by decide) (by decide) at_211 rfl (fun v211 T211 h211 Y211 q211 => ?_)
      obtain ⟨rfl, rfl⟩ := q211
      show Gl p e below _ (T211.setTop (mkF m 214 #[.val (.int le), .val (.int se), .val (.int pl), .val (.int ps), .val (.int ct), .val (.int (3 : Int32)), .val (.int z15), .val (.int r31), .val (.int r43), .val (.int r55), .val (.int r66), .val (.int r78), .val (.int r90), .val (.ref b96), .val (.ref b96), .val (.int r31), .val (.int r43), .val (.int r55), .unset] [(.int (1 : Int32))]))
      refine Gl.ifeq Y211 at_214 (by decide) rfl rfl (fun c214 => ?_) (fun c214 => ?_)
      · exact absurd c214 (by decide)
      refine Gl.aload Y211 rfl rfl at_217 rfl ?_
      refine Gl.iconst Y211 (v := (1 : Int32)) (by decide) at_219 rfl ?_
      refine Gl.baload Y211 f195_0 ⟨by decide, by decide⟩ (v := (.int (own_mark r43 le r43 se))) rfl at_220 rfl ?_
      refine Gl.iconst Y211 (v := (1 : Int32)) (by decide) at_221 rfl ?_
      refine Gl.iload Y211 rfl at_222 rfl ?_
      refine Gl.iload Y211 rfl at_224 rfl ?_
      refine Gl.iload Y211 rfl at_226 rfl ?_
      refine Gl.iloadN Y211 rfl at_228 rfl ?_
      refine Gl.iloadN Y211 rfl at_229 rfl ?_
      refine Gl.callS Y211 (tw_9 hw) (tw_10 hw) (tw_2 hw) (tw_11 hw) (by decide) (rm16 l Z a0 hw [] (own_mark r43 le r43 se) r43 r43 le se h195 n0 Y211.sz (rfl)) (argsL := [(.int (own_mark r43 le r43 se)), (.int (1 : Int32)), (.int (3 : Int32)), (.int r43), (.int r43), (.int le), (.int se)]) (rest := []) rfl rfl (lenOf pd_2 rfl) rfl (by decide) (Nat.le_of_ble_eq_true rfl) (by decide) (by decide) at_230 rfl (fun v230 T230 h230 Y230 q230 => ?_)
      obtain ⟨rfl, rfl⟩ := q230
      show Gl p e below _ (T230.setTop (mkF m 233 #[.val (.int le), .val (.int se), .val (.int pl), .val (.int ps), .val (.int ct), .val (.int (3 : Int32)), .val (.int z15), .val (.int r31), .val (.int r43), .val (.int r55), .val (.int r66), .val (.int r78), .val (.int r90), .val (.ref b96), .val (.ref b96), .val (.int r31), .val (.int r43), .val (.int r55), .unset] [(.int (1 : Int32))]))
      refine Gl.ifeq Y230 at_233 (by decide) rfl rfl (fun c233 => ?_) (fun c233 => ?_)
      · exact absurd c233 (by decide)
      refine Gl.aload Y230 rfl rfl at_236 rfl ?_
      refine Gl.iconst Y230 (v := (2 : Int32)) (by decide) at_238 rfl ?_
      refine Gl.baload Y230 f195_0 ⟨by decide, by decide⟩ (v := (.int (own_mark r55 le r55 se))) rfl at_239 rfl ?_
      refine Gl.iconst Y230 (v := (2 : Int32)) (by decide) at_240 rfl ?_
      refine Gl.iload Y230 rfl at_241 rfl ?_
      refine Gl.iload Y230 rfl at_243 rfl ?_
      refine Gl.iload Y230 rfl at_245 rfl ?_
      refine Gl.iloadN Y230 rfl at_247 rfl ?_
      refine Gl.iloadN Y230 rfl at_248 rfl ?_
      refine Gl.callS Y230 (tw_9 hw) (tw_10 hw) (tw_2 hw) (tw_11 hw) (by decide) (rm20 l Z a0 hw [] (own_mark r55 le r55 se) r55 r55 le se h195 n0 Y230.sz (rfl)) (argsL := [(.int (own_mark r55 le r55 se)), (.int (2 : Int32)), (.int (3 : Int32)), (.int r55), (.int r55), (.int le), (.int se)]) (rest := []) rfl rfl (lenOf pd_2 rfl) rfl (by decide) (Nat.le_of_ble_eq_true rfl) (by decide) (by decide) at_249 rfl (fun v249 T249 h249 Y249 q249 => ?_)
      obtain ⟨rfl, rfl⟩ := q249
      show Gl p e below _ (T249.setTop (mkF m 252 #[.val (.int le), .val (.int se), .val (.int pl), .val (.int ps), .val (.int ct), .val (.int (3 : Int32)), .val (.int z15), .val (.int r31), .val (.int r43), .val (.int r55), .val (.int r66), .val (.int r78), .val (.int r90), .val (.ref b96), .val (.ref b96), .val (.int r31), .val (.int r43), .val (.int r55), .unset] [(.int (1 : Int32))]))
      refine Gl.ifeq Y249 at_252 (by decide) rfl rfl (fun c252 => ?_) (fun c252 => ?_)
      · exact absurd c252 (by decide)
      refine Gl.iconst Y249 (v := (1 : Int32)) (by decide) at_255 rfl ?_
      refine Gl.goto Y249 at_256 (by decide) rfl ?_
      refine Gl.istore Y249 (L' := #[.val (.int le), .val (.int se), .val (.int pl), .val (.int ps), .val (.int ct), .val (.int (3 : Int32)), .val (.int z15), .val (.int r31), .val (.int r43), .val (.int r55), .val (.int r66), .val (.int r78), .val (.int r90), .val (.ref b96), .val (.ref b96), .val (.int r31), .val (.int r43), .val (.int r55), .val (.int (1 : Int32))]) rfl at_260 rfl ?_
      refine Gl.iload Y249 rfl at_262 rfl ?_
      refine Gl.ifne Y249 at_264 (by decide) rfl rfl (fun c264 => ?_) (fun c264 => ?_)
      rotate_left
      · exact absurd c264 c175
      have j264 : ¬ (z15.toInt = 0) := fun q => c264 (Int32.toInt_inj.mp q)
      refine Gl.iload Y249 rfl at_306 rfl ?_
      exact Gl.retZ Y249 (by decide) (by decide) (x' := (1 : Int32)) (by decide) at_308 rfl
set_option maxRecDepth 65536 in
set_option maxHeartbeats 40000000 in
theorem comes_1 {Post : Tables → Env → Array Value → State → Outcome → State → Prop} (hpost : ∀ tb e args s v u, (limb_1_1.after args s (.returned v) u = true ∧ limb_1_2.after args s (.returned v) u = true ∧ True) → FrameEnd s (.returned v) u (Jvm.fieldLocs frame_1_writes args s ++ Jvm.arrayLocs frame_1_arrays args s ++ Jvm.staticLocs frame_1_statics s) 16 128 → Post tb e args s (.returned v) u) :
    ArmFor flags0 classFile x code maxLocals ret World_1 tables_1 room_1 Calls_1 rest_1 Pre_1 Post := by
  intro l hfl _ _ p e ha hc hk s m args below hf hA hF happ hP
  obtain ⟨hcalls, hrest, hpre⟩ := hP
  obtain ⟨-, -, -, hnamed, -, -, -, hat⟩ := (Spec.applies_iff hf).mp happ
  obtain ⟨hg, hn⟩ := and_e (Cond.before_iff.mp (show (Jvm.Cond.and given_1 narrow_1).before args s = true from hpre))
  obtain ⟨a0, g0⟩ := and_e hg
  obtain ⟨a1, g1⟩ := and_e g0
  obtain ⟨a2, g2⟩ := and_e g1
  obtain ⟨a3, g3⟩ := and_e g2
  obtain ⟨a4, g4⟩ := and_e g3
  obtain ⟨w0, w1, w2, w3, w4, rfl⟩ : ∃ w0 w1 w2 w3 w4 : Value, args = #[w0, w1, w2, w3, w4] := by
    have hs : args.size = 5 := by simpa [Cond.value, given_1] using a0
    obtain ⟨L⟩ := args
    match L, hs with
    | [w0, w1, w2, w3, w4], _ => exact ⟨w0, w1, w2, w3, w4, rfl⟩
  have hw := fun d (hd : d ∈ tables_1) => atoms_spec (ws := Jvm.Cond.code x code maxLocals ret :: tables_1) hat d (List.mem_cons_of_mem _ hd)
  have hfit : Fit s := fun {y c} hc i hi => by
    obtain ⟨ha, rfl⟩ := Array.getElem?_eq_some_iff.mp hc
    have q := List.all_eq_true.mp ((Array.all_eq_true_iff_forall_mem.mp hF) _ (Array.getElem_mem ha)) i (List.mem_range.mpr hi)
    simpa [Array.getElem?_eq_getElem hi] using q
  obtain ⟨i0, e0⟩ := is_v a1
  obtain rfl : w0 = (.int i0) := Option.some.inj e0
  obtain ⟨i1, e1⟩ := is_v a2
  obtain rfl : w1 = (.int i1) := Option.some.inj e1
  obtain ⟨i2, e2⟩ := is_v a3
  obtain rfl : w2 = (.int i2) := Option.some.inj e2
  obtain ⟨i3, e3⟩ := is_v a4
  obtain rfl : w3 = (.int i3) := Option.some.inj e3
  obtain ⟨i4, e4⟩ := is_v g4
  obtain rfl : w4 = (.int i4) := Option.some.inj e4
  obtain ⟨n, o, h1, h2, h3, v, L, rfl, ⟨hv, N⟩, hq⟩ := rmL l s _ hw tables_1 i0 i1 i2 i3 i4 s.heap s.heap.size (Nat.le_refl _) p e ha hc hk s m _ below hf ((Spec.applies_iff_loose hf).mp happ).1 ⟨rfl, State.Warmed39.refl s, rfl⟩ trivial
  obtain rfl : v = some (.int 1) := hv
  refine ⟨n, _, h1, h2, h3, hpost _ _ _ _ _ _ ⟨Cond.after_iff.mpr rfl, Cond.after_iff.mpr (eq_i res_at (Term.int_eval (1)) rfl), trivial⟩ ⟨hq.1, hq.2.1, (hq.2.2.sift fun y hy => Or.inr (N y hy)).mono (by decide) (by decide)⟩⟩
theorem main_1_1 : Claimed_1_1 := comes_1 fun _ _ _ _ _ _ h hF => ⟨h.1, hF⟩
theorem main_1_2 : Claimed_1_2 := comes_1 fun _ _ _ _ _ _ h hF => ⟨h.2.1, hF⟩
end Jvm.Pilot.@@N@@
namespace Jvm.Pilot.@@N@@
open Jvm Jvm.ClassFile Sem Op Lib Jvm.Free Jvm.Stand Jvm.Pilot.@@N@@.Jvm.D
/-! MADE BY PROGRAM (witnessworld.py) out of the Statement's table words and the real class files: 11 classes; the members and pool entries that the words name. The judged class is class 1, her method 1. -/
namespace start1
open Jvm.ClassFile
def u (s : String) : CpInfo := .utf8 (stringToUtf16 s)
/-- a pool by its gaps: so many unusable entries, then the entry; so many at the end -/
def gap : Nat → List CpInfo → List CpInfo
  | 0, r => r
  | n + 1, r => .unusable :: gap n r
def poolList (es : List (Nat × CpInfo)) (last : Nat) : List CpInfo := es.foldr (fun e r => gap e.1 (e.2 :: r)) (gap last [])
def pool (es : List (Nat × CpInfo)) (last : Nat) : Array CpInfo := ⟨poolList es last⟩
def fileOf (pool : Array CpInfo) (this : Nat) (attrs : Array Attribute := #[]) (ms : Array MethodInfo := #[]) (fl : Nat := 33) (sup : Nat := 0) (ifs : Array Nat := #[]) (fds : Array FieldInfo := #[]) : ClassFile where
  minorVersion := 0
  majorVersion := 65
  constantPool := pool
  accessFlags := fl
  thisClass := this
  superClass := sup
  interfaces := ifs
  fields := fds
  methods := ms
  attributes := attrs
def plain (name : String) (sup : Option ClassId) : Class where
  name := name
  kind := .ordinary
  loader := none
  accessFlags := 33
  super := sup
  interfaces := #[]
  cf := none
  fields := #[]
  methods := #[]
  instanceTypes := #[]
  staticTypes := #[]
  resolved := #[]
  callSites := []
  init := .initialized
  statics := none
  mirror := none

def pool0 : Array CpInfo := pool [(5, u "<init>"), (0, u "()V"), (1, .class_ 10), (1, u "java/lang/Object")] 113

def k0m0 : Method := { name := "<init>", desc := "()V", sig := { parameters := [], returnType := none }, accessFlags := 1, code := none }
/-- java/lang/Object -/
def k0 : Class := { plain "java/lang/Object" none with
  accessFlags := 33
  interfaces := #[]
  cf := some (fileOf pool0 8 #[] #[{ accessFlags := 1, nameIndex := 5, descriptorIndex := 6, attributes := #[] }] 33 0 #[] #[])
  fields := #[]
  methods := #[k0m0]
  instanceTypes := #[]
  staticTypes := #[]
  resolved := Array.replicate 124 none
  statics := none }

def pool1 : Array CpInfo := pool [(2, .class_ 4), (1, u "java/lang/Object"), (0, u "<init>"), (0, u "()V"), (0, .methodref 8 9), (0, .class_ 10), (0, .nameAndType 11 12), (0, u "com/example/ref_search/refsearch/matcher/BytesMarkPairPinLaw"), (0, u "pick"), (0, u "(IIIII)B"), (0, .methodref 14 15), (0, .class_ 16), (0, .nameAndType 17 18), (0, u "com/example/ref_search/refsearch/matcher/BulkSymbols$Bytes"), (0, u "markPair"), (0, u "([BI[BII)V"), (0, .methodref 8 20), (0, .nameAndType 21 22), (0, u "check"), (0, u "(BIIBBII)Z"), (2, u "law"), (0, u "(IIIII)Z")] 9

def k1m0 : Method := { name := "<init>", desc := "()V", sig := { parameters := [], returnType := none }, accessFlags := 1, code := none }
def k1c1 : Code := { maxStack := 7, maxLocals := 19, code := code, exceptionTable := #[], attributes := #[] }
def k1m1 : Method := { name := "law", desc := "(IIIII)Z", sig := { parameters := [.int, .int, .int, .int, .int], returnType := some .boolean }, accessFlags := 9, code := some k1c1 }
def k1c2 : Code := { maxStack := 2, maxLocals := 5, code := method_3_code, exceptionTable := #[], attributes := #[] }
def k1m2 : Method := { name := "pick", desc := "(IIIII)B", sig := { parameters := [.int, .int, .int, .int, .int], returnType := some .byte }, accessFlags := 10, code := some k1c2 }
def k1c3 : Code := { maxStack := 3, maxLocals := 9, code := method_4_code, exceptionTable := #[], attributes := #[] }
def k1m3 : Method := { name := "check", desc := "(BIIBBII)Z", sig := { parameters := [.byte, .int, .int, .byte, .byte, .int, .int], returnType := some .boolean }, accessFlags := 10, code := some k1c3 }
/-- com/example/ref_search/refsearch/matcher/BytesMarkPairPinLaw -/
def k1 : Class := { plain "com/example/ref_search/refsearch/matcher/BytesMarkPairPinLaw" (some 0) with
  accessFlags := 49
  interfaces := #[]
  cf := some (fileOf pool1 8 #[] #[{ accessFlags := 1, nameIndex := 5, descriptorIndex := 6, attributes := #[] }, { accessFlags := 9, nameIndex := 25, descriptorIndex := 26, attributes := #[] }, { accessFlags := 10, nameIndex := 11, descriptorIndex := 12, attributes := #[] }, { accessFlags := 10, nameIndex := 21, descriptorIndex := 22, attributes := #[] }] 49 2 #[] #[])
  fields := #[]
  methods := #[k1m0, k1m1, k1m2, k1m3]
  instanceTypes := #[]
  staticTypes := #[]
  resolved := Array.replicate 36 none
  statics := none }

def pool2 : Array CpInfo := pool [(2, .class_ 4), (1, u "java/lang/Object"), (0, u "<init>"), (0, u "()V"), (22, .class_ 30), (0, u "com/example/ref_search/refsearch/matcher/Symbols"), (18, .class_ 50), (0, u "com/example/ref_search/refsearch/matcher/Symbols$1"), (53, .class_ 105), (0, u "com/example/ref_search/refsearch/matcher/Symbols$Backward")] 10

def k2m0 : Method := { name := "<init>", desc := "()V", sig := { parameters := [], returnType := none }, accessFlags := 0, code := none }
/-- com/example/ref_search/refsearch/matcher/Symbols -/
def k2 : Class := { plain "com/example/ref_search/refsearch/matcher/Symbols" (some 0) with
  accessFlags := 1056
  interfaces := #[]
  cf := some (fileOf pool2 29 #[.nestMembers #[104, 49]] #[{ accessFlags := 0, nameIndex := 5, descriptorIndex := 6, attributes := #[] }] 1056 2 #[] #[])
  fields := #[]
  methods := #[k2m0]
  instanceTypes := #[]
  staticTypes := #[]
  resolved := Array.replicate 116 none
  statics := none }

def pool3 : Array CpInfo := pool [(1, .class_ 2), (0, u "com/example/ref_search/refsearch/matcher/BulkSymbols"), (1, .class_ 6), (1, u "com/example/ref_search/refsearch/matcher/Symbols"), (0, u "<init>"), (0, u "()V"), (4, u "markedPair"), (0, u "J"), (2, u "nextWindow"), (0, u "I"), (33, u "windowStart"), (2, u "windowEnd"), (2, u "scratch"), (0, u "Lcom/example/ref_search/refsearch/matcher/BulkSymbols$Scratch;"), (1, .class_ 63), (1, u "com/example/ref_search/refsearch/matcher/BulkSymbols$Scratch"), (4, u "SCRATCH"), (0, u "Ljava/lang/ThreadLocal;"), (27, u "WINDOW"), (2, u "FIRST_WINDOW"), (1, u "OVERREAD"), (1, u "SHORT_RUN"), (16, .class_ 122), (0, u "com/example/ref_search/refsearch/matcher/BulkSymbols$ReversedBytes"), (0, .class_ 124), (0, u "com/example/ref_search/refsearch/matcher/BulkSymbols$OfBytes"), (0, .class_ 126), (0, u "com/example/ref_search/refsearch/matcher/BulkSymbols$Bytes"), (0, .class_ 128), (0, u "com/example/ref_search/refsearch/matcher/BulkSymbols$ReversedChars"), (0, .class_ 130), (0, u "com/example/ref_search/refsearch/matcher/BulkSymbols$OfStringBuilder"), (0, .class_ 132), (0, u "com/example/ref_search/refsearch/matcher/BulkSymbols$OfCharArray"), (0, .class_ 134), (0, u "com/example/ref_search/refsearch/matcher/BulkSymbols$LowBytes"), (0, .class_ 136), (0, u "com/example/ref_search/refsearch/matcher/BulkSymbols$OfString"), (0, .class_ 138), (0, u "com/example/ref_search/refsearch/matcher/BulkSymbols$Chars")] 29

def k3m0 : Method := { name := "<init>", desc := "()V", sig := { parameters := [], returnType := none }, accessFlags := 0, code := none }
/-- com/example/ref_search/refsearch/matcher/BulkSymbols -/
def k3 : Class := { plain "com/example/ref_search/refsearch/matcher/BulkSymbols" (some 2) with
  accessFlags := 1056
  interfaces := #[]
  cf := some (fileOf pool3 1 #[.nestMembers #[121, 123, 125, 127, 129, 131, 133, 135, 137, 61]] #[{ accessFlags := 0, nameIndex := 7, descriptorIndex := 8, attributes := #[] }] 1056 4 #[] #[{ accessFlags := 24, nameIndex := 97, descriptorIndex := 18, attributes := #[] }, { accessFlags := 26, nameIndex := 100, descriptorIndex := 18, attributes := #[] }, { accessFlags := 24, nameIndex := 102, descriptorIndex := 18, attributes := #[] }, { accessFlags := 26, nameIndex := 104, descriptorIndex := 18, attributes := #[] }, { accessFlags := 26, nameIndex := 68, descriptorIndex := 69, attributes := #[] }, { accessFlags := 2, nameIndex := 52, descriptorIndex := 18, attributes := #[] }, { accessFlags := 2, nameIndex := 55, descriptorIndex := 18, attributes := #[] }, { accessFlags := 2, nameIndex := 13, descriptorIndex := 14, attributes := #[] }, { accessFlags := 2, nameIndex := 17, descriptorIndex := 18, attributes := #[] }, { accessFlags := 2, nameIndex := 58, descriptorIndex := 59, attributes := #[] }])
  fields := #[{ name := "WINDOW", type := .int, accessFlags := 24, slot := 0, constantValue := 0 }, { name := "FIRST_WINDOW", type := .int, accessFlags := 26, slot := 1, constantValue := 0 }, { name := "OVERREAD", type := .int, accessFlags := 24, slot := 2, constantValue := 0 }, { name := "SHORT_RUN", type := .int, accessFlags := 26, slot := 3, constantValue := 0 }, { name := "SCRATCH", type := (.object "java/lang/ThreadLocal"), accessFlags := 26, slot := 4, constantValue := 0 }, { name := "windowStart", type := .int, accessFlags := 2, slot := 0, constantValue := 0 }, { name := "windowEnd", type := .int, accessFlags := 2, slot := 1, constantValue := 0 }, { name := "markedPair", type := .long, accessFlags := 2, slot := 2, constantValue := 0 }, { name := "nextWindow", type := .int, accessFlags := 2, slot := 3, constantValue := 0 }, { name := "scratch", type := (.object "com/example/ref_search/refsearch/matcher/BulkSymbols$Scratch"), accessFlags := 2, slot := 4, constantValue := 0 }]
  methods := #[k3m0]
  instanceTypes := #[.int, .int, .long, .int, (.object "com/example/ref_search/refsearch/matcher/BulkSymbols$Scratch")]
  staticTypes := #[.int, .int, .int, .int, (.object "java/lang/ThreadLocal")]
  resolved := Array.replicate 168 none
  statics := none }

def pool4 : Array CpInfo := pool [(2, .class_ 4), (1, u "com/example/ref_search/refsearch/matcher/BulkSymbols"), (0, u "<init>"), (0, u "()V"), (12, .class_ 21), (1, u "com/example/ref_search/refsearch/matcher/BulkSymbols$Bytes"), (8, u "markPair"), (0, u "([BI[BII)V"), (2, u "marks"), (0, u "[B"), (2, u "UNMARKED")] 34

def k4m0 : Method := { name := "<init>", desc := "()V", sig := { parameters := [], returnType := none }, accessFlags := 0, code := none }
def k4c1 : Code := { maxStack := 5, maxLocals := 7, code := prog_2_method_6_code, exceptionTable := #[], attributes := #[] }
def k4m1 : Method := { name := "markPair", desc := "([BI[BII)V", sig := { parameters := [(.array .byte), .int, (.array .byte), .int, .int], returnType := none }, accessFlags := 8, code := some k4c1 }
/-- com/example/ref_search/refsearch/matcher/BulkSymbols$Bytes -/
def k4 : Class := { plain "com/example/ref_search/refsearch/matcher/BulkSymbols$Bytes" (some 3) with
  accessFlags := 1056
  interfaces := #[]
  cf := some (fileOf pool4 19 #[.nestHost 2] #[{ accessFlags := 0, nameIndex := 5, descriptorIndex := 6, attributes := #[] }, { accessFlags := 8, nameIndex := 30, descriptorIndex := 31, attributes := #[] }] 1056 2 #[] #[{ accessFlags := 26, nameIndex := 38, descriptorIndex := 35, attributes := #[] }, { accessFlags := 2, nameIndex := 34, descriptorIndex := 35, attributes := #[] }])
  fields := #[{ name := "UNMARKED", type := (.array .byte), accessFlags := 26, slot := 0, constantValue := 0 }, { name := "marks", type := (.array .byte), accessFlags := 2, slot := 5, constantValue := 0 }]
  methods := #[k4m0, k4m1]
  instanceTypes := #[.int, .int, .long, .int, (.object "com/example/ref_search/refsearch/matcher/BulkSymbols$Scratch"), (.array .byte)]
  staticTypes := #[(.array .byte)]
  resolved := Array.replicate 73 none
  statics := none }

def pool5 : Array CpInfo := pool [(1, u "java/lang/Cloneable"), (0, .class_ 1), (0, u "java/lang/Object"), (0, .class_ 3)] 3

/-- java/lang/Cloneable -/
def k5 : Class := { plain "java/lang/Cloneable" (some 0) with
  accessFlags := 1537
  interfaces := #[]
  cf := some (fileOf pool5 2 #[] #[] 1537 4 #[] #[])
  fields := #[]
  methods := #[]
  instanceTypes := #[]
  staticTypes := #[]
  resolved := Array.replicate 8 none
  statics := none }

def pool6 : Array CpInfo := pool [(1, u "java/io/Serializable"), (0, .class_ 1), (0, u "java/lang/Object"), (0, .class_ 3)] 3

/-- java/io/Serializable -/
def k6 : Class := { plain "java/io/Serializable" (some 0) with
  accessFlags := 1537
  interfaces := #[]
  cf := some (fileOf pool6 2 #[] #[] 1537 4 #[] #[])
  fields := #[]
  methods := #[]
  instanceTypes := #[]
  staticTypes := #[]
  resolved := Array.replicate 8 none
  statics := none }

/-- the primitive byte -/
def k7 : Class := { plain "byte" none with kind := .primitive 'B', accessFlags := 0x411 }
/-- [B -/
def k8 : Class := { plain "[B" (some 0) with kind := .array 7 .byte, interfaces := #[5, 6], accessFlags := 1041 }

/-- the primitive int -/
def k9 : Class := { plain "int" none with kind := .primitive 'I', accessFlags := 0x411 }
/-- [I -/
def k10 : Class := { plain "[I" (some 0) with kind := .array 9 .int, interfaces := #[5, 6], accessFlags := 1041 }

def heap : Heap := #[]
def classes : Array Class := #[k0, k1, k2, k3, k4, k5, k6, k7, k8, k9, k10]
def interned : List (Array UInt16 × Addr) := []
def slotsUsed : Nat := 0
def theMethod : MethodId := ⟨1, 1⟩
def args0 : Array Value := #[.int 7, .int 3, .int 300, .int 3, .int 128]
def aboutOver (below : List Frame) : State where
  vm := { classes := classes, interned := interned.toArray }
  heap := heap
  slotsUsed := slotsUsed
  threads := #[{ frames := .invoking theMethod args0 :: below }]
def below0 : List Frame := [.native { method := ⟨0, 0⟩, args := #[] }]
def about1 : State := aboutOver below0
def p0 : Program := .bare "" "" ""
def e0 : Env := launch0.env 0 0 0
theorem w_frames : about1.frames = Frame.invoking theMethod args0 :: below0 := rfl
set_option maxRecDepth 65536 in
theorem w_args : argsFit about1.vm theMethod args0 = true := by decide +kernel
set_option maxRecDepth 65536 in
theorem w_heap : heapFits about1 = true := by decide +kernel
set_option maxRecDepth 65536 in
theorem w_runnable : about1.curStatus? = some .runnable := by decide +kernel
set_option maxRecDepth 65536 in
theorem w_alone : about1.alone = true := by decide +kernel
set_option maxRecDepth 65536 in
theorem w_named : about1.methodNamed? x = some theMethod := by decide +kernel
set_option maxRecDepth 65536 in
theorem w_hears : about1.hears theMethod below0 = true := by decide +kernel
set_option maxRecDepth 65536 in
theorem w_ripe : about1.ripe theMethod args0 below0 = true := by decide +kernel
theorem w_running : about1.status = .running := rfl
set_option maxRecDepth 65536 in
theorem w_room : about1.hasRoom e0.platform room_1 = true :=
  launch0.hasRoom_least _ room_1 (by decide +kernel) (by decide +kernel) (by decide +kernel) (by decide +kernel) (by decide +kernel) (by decide +kernel)
theorem allAtoms_all (ts : List Jvm.Cond) (a : Array Jvm.Value) (st : Jvm.State) : (allAtoms ts).before a st = ts.all (fun c => c.before a st) := by
  induction ts with
  | nil => rfl
  | cons c t ih =>
    show (Jvm.Cond.and c (allAtoms t)).before a st = _
    rw [Jvm.Cond.before_and, ih, List.all_cons]
def words1 : List Jvm.Cond := Jvm.Cond.code x code maxLocals ret :: tables_1
/-- a 'code' word, met by the world's own term for the bytes: nothing is compared byte by byte -/
theorem code_word {y : MethodName} {bytes : ByteArray} {mx : Nat} {rt : Option FieldType} {a : Array Value} {s : State} {m : MethodId} {meth : Method} {c : Code} (h1 : s.methodNamed? y = some m) (h2 : s.vm.method? m = some meth) (h3 : meth.code = some c) (h4 : c.code = bytes)
    (h5 : (c.maxLocals == mx && c.exceptionTable.isEmpty && decide (c.maxStack ≤ mostOperands) && decide (meth.sig.returnType = rt) && !meth.locks && decide (parseMethodDescriptor y.desc = some meth.sig)) = true) : (Jvm.Cond.code y bytes mx rt).before a s = true := by
  simp only [Bool.and_eq_true, beq_iff_eq, Bool.not_eq_true', decide_eq_true_eq] at h5
  obtain ⟨⟨⟨⟨⟨g1, g2⟩, g3⟩, g4⟩, g5⟩, g6⟩ := h5
  simp [Cond.before, Cond.holds, Cond.value, h1, h2, h3, h4, g1, g2, g3, g4, g5, g6]
def isCode : Jvm.Cond → Bool
  | .code _ _ _ _ => true
  | _ => false
theorem all_split {L : List Jvm.Cond} {P : Jvm.Cond → Bool} (h1 : L.all (fun c => isCode c || P c) = true) (h2 : ∀ c ∈ L.filter isCode, P c = true) : L.all P = true := by
  refine List.all_eq_true.mpr fun c hc => ?_
  have h := List.all_eq_true.mp h1 c hc
  rcases Bool.eq_false_or_eq_true (isCode c) with hi | hi
  · exact h2 c (List.mem_filter.mpr ⟨hc, hi⟩)
  · simpa [hi] using h
set_option maxRecDepth 65536 in
theorem w_c0 : (Jvm.Cond.code x code maxLocals ret).before args0 about1 = true := code_word (m := ⟨1, 1⟩) (meth := k1m1) (c := k1c1) (by decide +kernel) rfl rfl rfl (by decide +kernel)
set_option maxRecDepth 65536 in
theorem w_c1 : (Jvm.Cond.code ({ cls := "com/example/ref_search/refsearch/matcher/BytesMarkPairPinLaw", name := "pick", desc := "(IIIII)B" } : Jvm.MethodName) method_3_code (5 : Nat) (Option.some Jvm.ClassFile.FieldType.byte)).before args0 about1 = true := code_word (m := ⟨1, 2⟩) (meth := k1m2) (c := k1c2) (by decide +kernel) rfl rfl rfl (by decide +kernel)
set_option maxRecDepth 65536 in
theorem w_c2 : (Jvm.Cond.code ({ cls := "com/example/ref_search/refsearch/matcher/BulkSymbols$Bytes", name := "markPair", desc := "([BI[BII)V" } : Jvm.MethodName) prog_2_method_6_code (7 : Nat) (Option.none : Option Jvm.ClassFile.FieldType)).before args0 about1 = true := code_word (m := ⟨4, 1⟩) (meth := k4m1) (c := k4c1) (by decide +kernel) rfl rfl rfl (by decide +kernel)
set_option maxRecDepth 65536 in
theorem w_c3 : (Jvm.Cond.code ({ cls := "com/example/ref_search/refsearch/matcher/BytesMarkPairPinLaw", name := "check", desc := "(BIIBBII)Z" } : Jvm.MethodName) method_4_code (9 : Nat) (Option.some Jvm.ClassFile.FieldType.boolean)).before args0 about1 = true := code_word (m := ⟨1, 3⟩) (meth := k1m3) (c := k1c3) (by decide +kernel) rfl rfl rfl (by decide +kernel)
def codes1 : List Jvm.Cond := [Jvm.Cond.code x code maxLocals ret, Jvm.Cond.code ({ cls := "com/example/ref_search/refsearch/matcher/BytesMarkPairPinLaw", name := "pick", desc := "(IIIII)B" } : Jvm.MethodName) method_3_code (5 : Nat) (Option.some Jvm.ClassFile.FieldType.byte), Jvm.Cond.code ({ cls := "com/example/ref_search/refsearch/matcher/BulkSymbols$Bytes", name := "markPair", desc := "([BI[BII)V" } : Jvm.MethodName) prog_2_method_6_code (7 : Nat) (Option.none : Option Jvm.ClassFile.FieldType), Jvm.Cond.code ({ cls := "com/example/ref_search/refsearch/matcher/BytesMarkPairPinLaw", name := "check", desc := "(BIIBBII)Z" } : Jvm.MethodName) method_4_code (9 : Nat) (Option.some Jvm.ClassFile.FieldType.boolean)]
set_option maxRecDepth 65536 in
theorem codes_eq : words1.filter isCode = codes1 := rfl
theorem w_codes : ∀ c ∈ words1.filter isCode, c.before args0 about1 = true := by
  rw [codes_eq]
  intro c hc
  simp only [codes1, List.mem_cons, List.not_mem_nil, or_false] at hc
  rcases hc with rfl | rfl | rfl | rfl
  · exact w_c0
  · exact w_c1
  · exact w_c2
  · exact w_c3
set_option maxRecDepth 65536 in
theorem w_t1 : words1.all (fun c => isCode c || c.before args0 about1) = true := by decide +kernel
theorem w_tables : (allAtoms (Jvm.Cond.code x code maxLocals ret :: tables_1)).before args0 about1 = true := by
  rw [allAtoms_all]
  show words1.all (fun c => c.before args0 about1) = true
  refine all_split ?_ w_codes
  rw [w_t1]
set_option maxRecDepth 65536 in
theorem w_case : (Jvm.Cond.and given_1 narrow_1).before args0 about1 = true := by decide +kernel
theorem w_applies : (headSpec (Jvm.Cond.code x code maxLocals ret :: tables_1) room_1).applies x e0.platform about1 = true :=
  (Spec.applies_iff w_frames).mpr ⟨w_running, w_runnable, w_alone, w_named, w_hears, w_ripe, w_room, w_tables⟩
theorem atStart : AtStart classFile x code maxLocals ret World_1 tables_1 room_1 Calls_1 rest_1 Pre_1 launch0 p0 e0 about1 theMethod args0 below0 :=
  ⟨lists_1, trivial, launch0.admits_env _ _ _, launch0.least_env, fairChoices_fair.cas, fairChoices_fair.clock, w_frames, w_args, w_heap, w_applies, trivial, trivial, w_case⟩
end start1
theorem witness_1 : WitnessClaimed_1 := ⟨start1.p0, start1.e0, start1.about1, start1.theMethod, start1.args0, start1.below0, start1.atStart⟩
end Jvm.Pilot.@@N@@
