import JvmDerived
import JvmDerived.Pilot.@@N@@Statement
import JvmDerived.Pilot.@@N@@Code
set_option linter.unusedVariables false
set_option linter.unusedSimpArgs false
namespace Jvm.OwnWk
open Sem ClassFile Op Lib Jvm.Stand Jvm.Free Jvm.LawKit Jvm.RoadKit
def Sd (Z : State) (own : String) (bs : ByteArray) (mx : Nat) (ret : Option FieldType) (n0 : Nat) (p : Program) (l : Launch) (e : Env) (R : Room) (s : State) (m : MethodId) (args : Array Value) (below : List Frame) (meth : Method) (c : Code) (T : State) (h : Heap) (k n : Nat) : Prop :=
  ∃ locs, Stand p l e R s m args below meth c T locs k n ∧ T.heap = h ∧ Fr n0 locs ∧ n0 ≤ s.heap.size ∧ p.tables.exec = Jvm.exec ∧ Z.Warmed39 s.vm ∧ s.vm.findClass own = some m.cls ∧ c.code = bs ∧ c.maxLocals = mx ∧ meth.sig.returnType = ret ∧ meth.locks = false
def Gl (p : Program) (e : Env) (below : List Frame) (P : Outcome → State → Prop) (A : State) : Prop := ∃ t o, Steps p.tables e below A t ∧ t.status = .running ∧ Ended t below o ∧ P o t
def Pst (s : State) (n0 K N : Nat) (Q : Option Value → Heap → Prop) (o : Outcome) (t : State) : Prop := ∃ v L, o = .returned v ∧ (Q v t.heap ∧ Fr n0 L) ∧ FrameEnd s o t L K N
def OMet (l : Launch) (Z : State) (ws : List Jvm.Cond) (y : MethodName) (bs : ByteArray) (mx : Nat) (ret : Option FieldType) (rm : Room) (as : Array Value) (h : Heap) (n0 : Nat) (Q : Option Value → Heap → Prop) : Prop :=
  MetFree l y (head1 (Jvm.Cond.code y bs mx ret :: ws) rm) (fun a U => a = as ∧ Z.Warmed39 U.vm ∧ U.heap = h) (fun _ _ _ _ _ => True) (fun _ U o U' => ∃ v L, o = .returned v ∧ (Q v U'.heap ∧ Fr n0 L) ∧ FrameEnd U o U' L rm.cells rm.slots)
section Kit
variable {Z : State} {own : String} {bs : ByteArray} {mx : Nat} {ret : Option FieldType} {n0 : Nat} {p : Program} {l : Launch} {e : Env} {R : Room} {s : State} {m : MethodId} {args : Array Value} {below : List Frame} {meth : Method} {c : Code} {T : State} {h : Heap} {k n : Nat} {P : Outcome → State → Prop} {L : Array Slot} {S : List Value} {pc pc' pcT pcF : Nat} {a0 : Array Value} {t : FieldType}
theorem Gl.of1 {A B : State} (f : ∀ t, Steps p.tables e below B t → Steps p.tables e below A t) (q : Gl p e below P B) : Gl p e below P A := by
  obtain ⟨t, o, h1, h2⟩ := q
  exact ⟨t, o, f t h1, h2⟩
theorem Gl.via {A B : State} (f : Steps p.tables e below A B) (q : Gl p e below P B) : Gl p e below P A := by
  obtain ⟨t, o, h1, h2⟩ := q
  exact ⟨t, o, f.trans h1, h2⟩
theorem OMet.of {ws : List Jvm.Cond} {y : MethodName} {rm : Room} {as : Array Value} {Q : Option Value → Heap → Prop} (hpl : plainFor y = true) (hef : ∀ m, entryFrame m as mx = mkF m 0 L []) (hn : n0 ≤ h.size)
    (body : ∀ p e s m below meth c T, Sd Z y.cls bs mx ret n0 p l e rm s m as below meth c T h 0 0 → meth.name = y.name → Gl p e below (Pst s n0 rm.cells rm.slots Q) (T.setTop (mkF m 0 L []))) : OMet l Z ws y bs mx ret rm as h n0 Q := by
  refine MetFree.of_bodySF hpl hisR ?_
  intro p e s m args below meth c s₁ Bd hml0 hP hK
  obtain ⟨rfl, hZ, hh⟩ := hP
  have e0 : s₁.heap = h := by rw [← hh, Bd.state]; rfl
  obtain ⟨t, o, h1, h2, h3, h4⟩ := body p e s m below meth c s₁ ⟨[], Stand.of_body Bd, e0, Fr.nil n0, by rw [hh]; exact hn, Bd.exec, hZ, findClass_of_methodNamed Bd.named, Bd.bytes, hml0, Bd.returns, Bd.notSynchronized⟩ (name_of_methodNamed Bd.named Bd.method).1
  exact ⟨t, o, castTop (hef m) h1, h2, h3, h4⟩

theorem own_grow {T' : State} {locs' : List Loc} {k' n' : Nat} (X : Stand p l e R s m args below meth c T' locs' k' n') : s.heap.size ≤ T'.heap.size := X.same.2.1
theorem own_eqI {args : Array Value} {Z : State} {t : Term} {v : Int32} (q : (Jvm.Cond.eq t (.int v)).value args Z none Z [] = some true) : t.eval args Z none [] Z = some (.int v) := by
  simp only [Cond.value, Term.eval] at q
  cases ht : t.eval args Z none [] Z with
  | none => simp [ht] at q
  | some w => cases w <;> simp [ht] at q ⊢ <;> exact q
theorem own_ite {c A B : Prop} [Decidable c] (h1 : c → A) (h2 : ¬ c → B) : A ∨ B := if q : c then Or.inl (h1 q) else Or.inr (h2 q)
theorem own_cut {A B : Prop} (f : B → A) (b : B) : A := f b
theorem Sd.sz (Y : Sd Z own bs mx ret n0 p l e R s m args below meth c T h k n) : n0 ≤ h.size := by
  obtain ⟨locs, X, eT, N, hn0, hx, hZ, hown, hby, hml, hrt, hlk⟩ := Y
  exact eT ▸ Nat.le_trans hn0 (own_grow X)
theorem own_narB {a v : Int32} (h : a.toInt8.toInt32 = v) : nar .byte v = v := by subst h; simp [nar]
theorem own_narC {a v : Int32} (h : a.toUInt32.toUInt16.toUInt32.toInt32 = v) : nar .char v = v := by subst h; have q := Jvm.Free.XT.narrow_c a; exact Value.int.inj q
theorem own_narS {a v : Int32} (h : a.toInt16.toInt32 = v) : nar .short v = v := by subst h; simp [nar]
theorem own_c3 {v : Int32} (h0 : 0 ≤ v.toInt) (h : v.toInt ≤ 3) : v = 0 ∨ v = 1 ∨ v = 2 ∨ v = 3 := by
  have : v.toInt = 0 ∨ v.toInt = 1 ∨ v.toInt = 2 ∨ v.toInt = 3 := by omega
  rcases this with q | q | q | q <;> simp [← Int32.toInt_inj, q]
theorem own_c4 {v : Int32} (h0 : 0 ≤ v.toInt) (h : v.toInt ≤ 4) : v = 0 ∨ v = 1 ∨ v = 2 ∨ v = 3 ∨ v = 4 := by
  have : v.toInt = 0 ∨ v.toInt = 1 ∨ v.toInt = 2 ∨ v.toInt = 3 ∨ v.toInt = 4 := by omega
  rcases this with q | q | q | q | q <;> simp [← Int32.toInt_inj, q]
theorem own_c5 {v : Int32} (h0 : 0 ≤ v.toInt) (h : v.toInt ≤ 5) : v = 0 ∨ v = 1 ∨ v = 2 ∨ v = 3 ∨ v = 4 ∨ v = 5 := by
  have : v.toInt = 0 ∨ v.toInt = 1 ∨ v.toInt = 2 ∨ v.toInt = 3 ∨ v.toInt = 4 ∨ v.toInt = 5 := by omega
  rcases this with q | q | q | q | q | q <;> simp [← Int32.toInt_inj, q]
theorem own_narR {t : FieldType} {x : Value} (q : x.isRef = true) : narrow t x = x := by rcases ref_cases q with rfl | ⟨z, rfl⟩ <;> cases t <;> rfl
theorem OMet.un {l : Launch} {Z : State} {ws : List Jvm.Cond} {y : MethodName} {bs : ByteArray} {mx : Nat} {ret : Option FieldType} {rm : Room} {as : Array Value} {h : Heap} {n0 : Nat} {Q : Option Value → Heap → Prop} (q : OMet l Z ws y bs mx ret rm as h n0 Q) :
  MetFree l y (head1 (Jvm.Cond.code y bs mx ret :: ws) rm) (fun a U => a = as ∧ Z.Warmed39 U.vm ∧ U.heap = h) (fun _ _ _ _ _ => True) (fun _ U o U' => ∃ v L, o = .returned v ∧ (fun v h' L => Q v h' ∧ Fr n0 L) v U'.heap L ∧ FrameEnd U o U' L rm.cells rm.slots) := q
theorem own_not64 (x : Int64) : (x ^^^ (-1)).toInt = -x.toInt - 1 := by
  have h1 : x ^^^ (-1) = ~~~x := by
    apply Int64.toBitVec_inj.mp
    rw [Int64.toBitVec_xor, Int64.toBitVec_not]
    exact BitVec.xor_allOnes
  rw [h1, Int64.not_eq_neg_sub]
  have q := c_lsub (-x) 1
  have r := c_lneg x
  have n1 := rng64 (-x - 1)
  have n2 := rng64 (-x)
  have n3 := rng64 x
  simp only [Int64.reduceToInt] at q
  omega
theorem own_narZ {x : Int32} (q : x = 0 ∨ x = 1) : nar .boolean x = x := by rcases q with rfl | rfl <;> rfl
theorem own_nZ {x : Int32} (q : x = 0 ∨ x = 1) : narrow .boolean (.int x) = .int x := by rcases q with rfl | rfl <;> rfl
theorem own_fZ {x : Int32} (q : x = 0 ∨ x = 1) : fits .boolean (.int x) = true := by rcases q with rfl | rfl <;> rfl
theorem Gl.iadd (Y : Sd Z own bs mx ret n0 p l e R s m args below meth c T h k n) {x y : Int32} {r : Int32} (hr : x + y = r) (hd : decode bs pc = .ok (.iadd, 1)) (hp : pc + 1 = pc') (q : Gl p e below P (T.setTop (mkF m pc' L (.int r :: S)))) : Gl p e below P (T.setTop (mkF m pc L (.int y :: .int x :: S))) := by
  obtain ⟨locs, X, eT, N, hn0, hx, hZ, hown, hby, hml, hrt, hlk⟩ := Y
  subst hp hr
  exact q.of1 fun t q => XS.iadd X.here hx rfl (hb hby hd) rfl q
theorem Gl.isub (Y : Sd Z own bs mx ret n0 p l e R s m args below meth c T h k n) {x y : Int32} {r : Int32} (hr : x - y = r) (hd : decode bs pc = .ok (.isub, 1)) (hp : pc + 1 = pc') (q : Gl p e below P (T.setTop (mkF m pc' L (.int r :: S)))) : Gl p e below P (T.setTop (mkF m pc L (.int y :: .int x :: S))) := by
  obtain ⟨locs, X, eT, N, hn0, hx, hZ, hown, hby, hml, hrt, hlk⟩ := Y
  subst hp hr
  exact q.of1 fun t q => XS.isub X.here hx rfl (hb hby hd) rfl q
theorem Gl.imul (Y : Sd Z own bs mx ret n0 p l e R s m args below meth c T h k n) {x y : Int32} {r : Int32} (hr : x * y = r) (hd : decode bs pc = .ok (.imul, 1)) (hp : pc + 1 = pc') (q : Gl p e below P (T.setTop (mkF m pc' L (.int r :: S)))) : Gl p e below P (T.setTop (mkF m pc L (.int y :: .int x :: S))) := by
  obtain ⟨locs, X, eT, N, hn0, hx, hZ, hown, hby, hml, hrt, hlk⟩ := Y
  subst hp hr
  exact q.of1 fun t q => XS.imul X.here hx rfl (hb hby hd) rfl q
theorem Gl.iand (Y : Sd Z own bs mx ret n0 p l e R s m args below meth c T h k n) {x y : Int32} {r : Int32} (hr : x &&& y = r) (hd : decode bs pc = .ok (.iand, 1)) (hp : pc + 1 = pc') (q : Gl p e below P (T.setTop (mkF m pc' L (.int r :: S)))) : Gl p e below P (T.setTop (mkF m pc L (.int y :: .int x :: S))) := by
  obtain ⟨locs, X, eT, N, hn0, hx, hZ, hown, hby, hml, hrt, hlk⟩ := Y
  subst hp hr
  exact q.of1 fun t q => XS.iand X.here hx rfl (hb hby hd) rfl q
theorem Gl.ior (Y : Sd Z own bs mx ret n0 p l e R s m args below meth c T h k n) {x y : Int32} {r : Int32} (hr : x ||| y = r) (hd : decode bs pc = .ok (.ior, 1)) (hp : pc + 1 = pc') (q : Gl p e below P (T.setTop (mkF m pc' L (.int r :: S)))) : Gl p e below P (T.setTop (mkF m pc L (.int y :: .int x :: S))) := by
  obtain ⟨locs, X, eT, N, hn0, hx, hZ, hown, hby, hml, hrt, hlk⟩ := Y
  subst hp hr
  exact q.of1 fun t q => XS.ior X.here hx rfl (hb hby hd) rfl q
theorem Gl.ixor (Y : Sd Z own bs mx ret n0 p l e R s m args below meth c T h k n) {x y : Int32} {r : Int32} (hr : x ^^^ y = r) (hd : decode bs pc = .ok (.ixor, 1)) (hp : pc + 1 = pc') (q : Gl p e below P (T.setTop (mkF m pc' L (.int r :: S)))) : Gl p e below P (T.setTop (mkF m pc L (.int y :: .int x :: S))) := by
  obtain ⟨locs, X, eT, N, hn0, hx, hZ, hown, hby, hml, hrt, hlk⟩ := Y
  subst hp hr
  exact q.of1 fun t q => XS.ixor X.here hx rfl (hb hby hd) rfl q
theorem Gl.ishl (Y : Sd Z own bs mx ret n0 p l e R s m args below meth c T h k n) {x y : Int32} {r : Int32} (hr : x <<< (y &&& 31) = r) (hd : decode bs pc = .ok (.ishl, 1)) (hp : pc + 1 = pc') (q : Gl p e below P (T.setTop (mkF m pc' L (.int r :: S)))) : Gl p e below P (T.setTop (mkF m pc L (.int y :: .int x :: S))) := by
  obtain ⟨locs, X, eT, N, hn0, hx, hZ, hown, hby, hml, hrt, hlk⟩ := Y
  subst hp hr
  exact q.of1 fun t q => XS.ishl X.here hx rfl (hb hby hd) rfl q
theorem Gl.ishr (Y : Sd Z own bs mx ret n0 p l e R s m args below meth c T h k n) {x y : Int32} {r : Int32} (hr : x >>> (y &&& 31) = r) (hd : decode bs pc = .ok (.ishr, 1)) (hp : pc + 1 = pc') (q : Gl p e below P (T.setTop (mkF m pc' L (.int r :: S)))) : Gl p e below P (T.setTop (mkF m pc L (.int y :: .int x :: S))) := by
  obtain ⟨locs, X, eT, N, hn0, hx, hZ, hown, hby, hml, hrt, hlk⟩ := Y
  subst hp hr
  exact q.of1 fun t q => XS.ishr X.here hx rfl (hb hby hd) rfl q
theorem Gl.iushr (Y : Sd Z own bs mx ret n0 p l e R s m args below meth c T h k n) {x y : Int32} {r : Int32} (hr : (x.toUInt32 >>> (y &&& 31).toUInt32).toInt32 = r) (hd : decode bs pc = .ok (.iushr, 1)) (hp : pc + 1 = pc') (q : Gl p e below P (T.setTop (mkF m pc' L (.int r :: S)))) : Gl p e below P (T.setTop (mkF m pc L (.int y :: .int x :: S))) := by
  obtain ⟨locs, X, eT, N, hn0, hx, hZ, hown, hby, hml, hrt, hlk⟩ := Y
  subst hp hr
  exact q.of1 fun t q => XS.iushr X.here hx rfl (hb hby hd) rfl q
theorem Gl.ladd (Y : Sd Z own bs mx ret n0 p l e R s m args below meth c T h k n) {x y : Int64} {r : Int64} (hr : x + y = r) (hd : decode bs pc = .ok (.ladd, 1)) (hp : pc + 1 = pc') (q : Gl p e below P (T.setTop (mkF m pc' L (.long r :: S)))) : Gl p e below P (T.setTop (mkF m pc L (.long y :: .long x :: S))) := by
  obtain ⟨locs, X, eT, N, hn0, hx, hZ, hown, hby, hml, hrt, hlk⟩ := Y
  subst hp hr
  exact q.of1 fun t q => XS.ladd X.here hx rfl (hb hby hd) rfl q
theorem Gl.lsub (Y : Sd Z own bs mx ret n0 p l e R s m args below meth c T h k n) {x y : Int64} {r : Int64} (hr : x - y = r) (hd : decode bs pc = .ok (.lsub, 1)) (hp : pc + 1 = pc') (q : Gl p e below P (T.setTop (mkF m pc' L (.long r :: S)))) : Gl p e below P (T.setTop (mkF m pc L (.long y :: .long x :: S))) := by
  obtain ⟨locs, X, eT, N, hn0, hx, hZ, hown, hby, hml, hrt, hlk⟩ := Y
  subst hp hr
  exact q.of1 fun t q => XS.lsub X.here hx rfl (hb hby hd) rfl q
theorem Gl.lmul (Y : Sd Z own bs mx ret n0 p l e R s m args below meth c T h k n) {x y : Int64} {r : Int64} (hr : x * y = r) (hd : decode bs pc = .ok (.lmul, 1)) (hp : pc + 1 = pc') (q : Gl p e below P (T.setTop (mkF m pc' L (.long r :: S)))) : Gl p e below P (T.setTop (mkF m pc L (.long y :: .long x :: S))) := by
  obtain ⟨locs, X, eT, N, hn0, hx, hZ, hown, hby, hml, hrt, hlk⟩ := Y
  subst hp hr
  exact q.of1 fun t q => XS.lmul X.here hx rfl (hb hby hd) rfl q
theorem Gl.land (Y : Sd Z own bs mx ret n0 p l e R s m args below meth c T h k n) {x y : Int64} {r : Int64} (hr : x &&& y = r) (hd : decode bs pc = .ok (.land, 1)) (hp : pc + 1 = pc') (q : Gl p e below P (T.setTop (mkF m pc' L (.long r :: S)))) : Gl p e below P (T.setTop (mkF m pc L (.long y :: .long x :: S))) := by
  obtain ⟨locs, X, eT, N, hn0, hx, hZ, hown, hby, hml, hrt, hlk⟩ := Y
  subst hp hr
  exact q.of1 fun t q => XS.land X.here hx rfl (hb hby hd) rfl q
theorem Gl.lor (Y : Sd Z own bs mx ret n0 p l e R s m args below meth c T h k n) {x y : Int64} {r : Int64} (hr : x ||| y = r) (hd : decode bs pc = .ok (.lor, 1)) (hp : pc + 1 = pc') (q : Gl p e below P (T.setTop (mkF m pc' L (.long r :: S)))) : Gl p e below P (T.setTop (mkF m pc L (.long y :: .long x :: S))) := by
  obtain ⟨locs, X, eT, N, hn0, hx, hZ, hown, hby, hml, hrt, hlk⟩ := Y
  subst hp hr
  exact q.of1 fun t q => XS.lor X.here hx rfl (hb hby hd) rfl q
theorem Gl.lxor (Y : Sd Z own bs mx ret n0 p l e R s m args below meth c T h k n) {x y : Int64} {r : Int64} (hr : x ^^^ y = r) (hd : decode bs pc = .ok (.lxor, 1)) (hp : pc + 1 = pc') (q : Gl p e below P (T.setTop (mkF m pc' L (.long r :: S)))) : Gl p e below P (T.setTop (mkF m pc L (.long y :: .long x :: S))) := by
  obtain ⟨locs, X, eT, N, hn0, hx, hZ, hown, hby, hml, hrt, hlk⟩ := Y
  subst hp hr
  exact q.of1 fun t q => XS.lxor X.here hx rfl (hb hby hd) rfl q
theorem Gl.lshl (Y : Sd Z own bs mx ret n0 p l e R s m args below meth c T h k n) {x : Int64} {y : Int32} {r : Int64} (hr : x <<< (y &&& 0x3f).toInt64 = r) (hd : decode bs pc = .ok (.lshl, 1)) (hp : pc + 1 = pc') (q : Gl p e below P (T.setTop (mkF m pc' L (.long r :: S)))) : Gl p e below P (T.setTop (mkF m pc L (.int y :: .long x :: S))) := by
  obtain ⟨locs, X, eT, N, hn0, hx, hZ, hown, hby, hml, hrt, hlk⟩ := Y
  subst hp hr
  exact q.of1 fun t q => XS.lshl X.here hx rfl (hb hby hd) rfl q
theorem Gl.lshr (Y : Sd Z own bs mx ret n0 p l e R s m args below meth c T h k n) {x : Int64} {y : Int32} {r : Int64} (hr : x >>> (y &&& 0x3f).toInt64 = r) (hd : decode bs pc = .ok (.lshr, 1)) (hp : pc + 1 = pc') (q : Gl p e below P (T.setTop (mkF m pc' L (.long r :: S)))) : Gl p e below P (T.setTop (mkF m pc L (.int y :: .long x :: S))) := by
  obtain ⟨locs, X, eT, N, hn0, hx, hZ, hown, hby, hml, hrt, hlk⟩ := Y
  subst hp hr
  exact q.of1 fun t q => XS.lshr X.here hx rfl (hb hby hd) rfl q
theorem Gl.lushr (Y : Sd Z own bs mx ret n0 p l e R s m args below meth c T h k n) {x : Int64} {y : Int32} {r : Int64} (hr : (x.toUInt64 >>> (y &&& 0x3f).toInt64.toUInt64).toInt64 = r) (hd : decode bs pc = .ok (.lushr, 1)) (hp : pc + 1 = pc') (q : Gl p e below P (T.setTop (mkF m pc' L (.long r :: S)))) : Gl p e below P (T.setTop (mkF m pc L (.int y :: .long x :: S))) := by
  obtain ⟨locs, X, eT, N, hn0, hx, hZ, hown, hby, hml, hrt, hlk⟩ := Y
  subst hp hr
  exact q.of1 fun t q => XS.lushr X.here hx rfl (hb hby hd) rfl q
theorem Gl.idiv (Y : Sd Z own bs mx ret n0 p l e R s m args below meth c T h k n) {x y : Int32} (hy : y ≠ 0) {r : Int32} (hr : x / y = r) (hd : decode bs pc = .ok (.idiv, 1)) (hp : pc + 1 = pc') (q : Gl p e below P (T.setTop (mkF m pc' L (.int r :: S)))) : Gl p e below P (T.setTop (mkF m pc L (.int y :: .int x :: S))) := by
  obtain ⟨locs, X, eT, N, hn0, hx, hZ, hown, hby, hml, hrt, hlk⟩ := Y
  subst hp hr
  exact q.of1 fun t q => XS.idiv X.here hx rfl (hb hby hd) rfl hy q
theorem Gl.irem (Y : Sd Z own bs mx ret n0 p l e R s m args below meth c T h k n) {x y : Int32} (hy : y ≠ 0) {r : Int32} (hr : x % y = r) (hd : decode bs pc = .ok (.irem, 1)) (hp : pc + 1 = pc') (q : Gl p e below P (T.setTop (mkF m pc' L (.int r :: S)))) : Gl p e below P (T.setTop (mkF m pc L (.int y :: .int x :: S))) := by
  obtain ⟨locs, X, eT, N, hn0, hx, hZ, hown, hby, hml, hrt, hlk⟩ := Y
  subst hp hr
  exact q.of1 fun t q => iremM X hx rfl (hb hby hd) rfl hy q
theorem Gl.ldiv (Y : Sd Z own bs mx ret n0 p l e R s m args below meth c T h k n) {x y : Int64} (hy : y ≠ 0) {r : Int64} (hr : x / y = r) (hd : decode bs pc = .ok (.ldiv, 1)) (hp : pc + 1 = pc') (q : Gl p e below P (T.setTop (mkF m pc' L (.long r :: S)))) : Gl p e below P (T.setTop (mkF m pc L (.long y :: .long x :: S))) := by
  obtain ⟨locs, X, eT, N, hn0, hx, hZ, hown, hby, hml, hrt, hlk⟩ := Y
  subst hp hr
  exact q.of1 fun t q => XS.ldiv X.here hx rfl (hb hby hd) rfl hy q
theorem Gl.lrem (Y : Sd Z own bs mx ret n0 p l e R s m args below meth c T h k n) {x y : Int64} (hy : y ≠ 0) {r : Int64} (hr : x % y = r) (hd : decode bs pc = .ok (.lrem, 1)) (hp : pc + 1 = pc') (q : Gl p e below P (T.setTop (mkF m pc' L (.long r :: S)))) : Gl p e below P (T.setTop (mkF m pc L (.long y :: .long x :: S))) := by
  obtain ⟨locs, X, eT, N, hn0, hx, hZ, hown, hby, hml, hrt, hlk⟩ := Y
  subst hp hr
  exact q.of1 fun t q => XS.lrem X.here hx rfl (hb hby hd) rfl hy (by rw [lrem_mod]; exact q)
theorem Gl.ineg (Y : Sd Z own bs mx ret n0 p l e R s m args below meth c T h k n) {x : Int32} {r : Int32} (hr : -x = r) (hd : decode bs pc = .ok (.ineg, 1)) (hp : pc + 1 = pc') (q : Gl p e below P (T.setTop (mkF m pc' L (.int r :: S)))) : Gl p e below P (T.setTop (mkF m pc L (.int x :: S))) := by
  obtain ⟨locs, X, eT, N, hn0, hx, hZ, hown, hby, hml, hrt, hlk⟩ := Y
  subst hp hr
  exact q.of1 fun t q => XS.ineg X.here hx rfl (hb hby hd) rfl q
theorem Gl.lneg (Y : Sd Z own bs mx ret n0 p l e R s m args below meth c T h k n) {x : Int64} {r : Int64} (hr : -x = r) (hd : decode bs pc = .ok (.lneg, 1)) (hp : pc + 1 = pc') (q : Gl p e below P (T.setTop (mkF m pc' L (.long r :: S)))) : Gl p e below P (T.setTop (mkF m pc L (.long x :: S))) := by
  obtain ⟨locs, X, eT, N, hn0, hx, hZ, hown, hby, hml, hrt, hlk⟩ := Y
  subst hp hr
  exact q.of1 fun t q => XS.lneg X.here hx rfl (hb hby hd) rfl q
theorem Gl.i2b (Y : Sd Z own bs mx ret n0 p l e R s m args below meth c T h k n) {x : Int32} {r : Int32} (hr : x.toInt8.toInt32 = r) (hd : decode bs pc = .ok (.i2b, 1)) (hp : pc + 1 = pc') (q : Gl p e below P (T.setTop (mkF m pc' L (.int r :: S)))) : Gl p e below P (T.setTop (mkF m pc L (.int x :: S))) := by
  obtain ⟨locs, X, eT, N, hn0, hx, hZ, hown, hby, hml, hrt, hlk⟩ := Y
  subst hp hr
  exact q.of1 fun t q => XS.i2b X.here hx rfl (hb hby hd) rfl q
theorem Gl.i2c (Y : Sd Z own bs mx ret n0 p l e R s m args below meth c T h k n) {x : Int32} {r : Int32} (hr : x.toUInt32.toUInt16.toUInt32.toInt32 = r) (hd : decode bs pc = .ok (.i2c, 1)) (hp : pc + 1 = pc') (q : Gl p e below P (T.setTop (mkF m pc' L (.int r :: S)))) : Gl p e below P (T.setTop (mkF m pc L (.int x :: S))) := by
  obtain ⟨locs, X, eT, N, hn0, hx, hZ, hown, hby, hml, hrt, hlk⟩ := Y
  subst hp hr
  exact q.of1 fun t q => XS.i2c X.here hx rfl (hb hby hd) rfl q
theorem Gl.i2s (Y : Sd Z own bs mx ret n0 p l e R s m args below meth c T h k n) {x : Int32} {r : Int32} (hr : x.toInt16.toInt32 = r) (hd : decode bs pc = .ok (.i2s, 1)) (hp : pc + 1 = pc') (q : Gl p e below P (T.setTop (mkF m pc' L (.int r :: S)))) : Gl p e below P (T.setTop (mkF m pc L (.int x :: S))) := by
  obtain ⟨locs, X, eT, N, hn0, hx, hZ, hown, hby, hml, hrt, hlk⟩ := Y
  subst hp hr
  exact q.of1 fun t q => XS.i2s X.here hx rfl (hb hby hd) rfl q
theorem Gl.i2l (Y : Sd Z own bs mx ret n0 p l e R s m args below meth c T h k n) {x : Int32} {r : Int64} (hr : x.toInt64 = r) (hd : decode bs pc = .ok (.i2l, 1)) (hp : pc + 1 = pc') (q : Gl p e below P (T.setTop (mkF m pc' L (.long r :: S)))) : Gl p e below P (T.setTop (mkF m pc L (.int x :: S))) := by
  obtain ⟨locs, X, eT, N, hn0, hx, hZ, hown, hby, hml, hrt, hlk⟩ := Y
  subst hp hr
  exact q.of1 fun t q => XS.i2l X.here hx rfl (hb hby hd) rfl q
theorem Gl.l2i (Y : Sd Z own bs mx ret n0 p l e R s m args below meth c T h k n) {x : Int64} {r : Int32} (hr : x.toInt32 = r) (hd : decode bs pc = .ok (.l2i, 1)) (hp : pc + 1 = pc') (q : Gl p e below P (T.setTop (mkF m pc' L (.int r :: S)))) : Gl p e below P (T.setTop (mkF m pc L (.long x :: S))) := by
  obtain ⟨locs, X, eT, N, hn0, hx, hZ, hown, hby, hml, hrt, hlk⟩ := Y
  subst hp hr
  exact q.of1 fun t q => XS.l2i X.here hx rfl (hb hby hd) rfl q
theorem Gl.iconst (Y : Sd Z own bs mx ret n0 p l e R s m args below meth c T h k n) {i : Int} {v : Int32} (hv : Int32.ofInt i = v) (hd : decode bs pc = .ok (.iconst i, 1)) (hp : pc + 1 = pc') (q : Gl p e below P (T.setTop (mkF m pc' L (.int v :: S)))) : Gl p e below P (T.setTop (mkF m pc L S)) := by
  obtain ⟨locs, X, eT, N, hn0, hx, hZ, hown, hby, hml, hrt, hlk⟩ := Y
  subst hp
  exact q.of1 fun t q => XS.iconst X.here hx rfl (hb hby hd) (by rw [hv]; exact q)
theorem Gl.bipush (Y : Sd Z own bs mx ret n0 p l e R s m args below meth c T h k n) {i : Int} {v : Int32} (hv : (Int8.ofInt i).toInt32 = v) (hd : decode bs pc = .ok (.bipush i, 2)) (hp : pc + 2 = pc') (q : Gl p e below P (T.setTop (mkF m pc' L (.int v :: S)))) : Gl p e below P (T.setTop (mkF m pc L S)) := by
  obtain ⟨locs, X, eT, N, hn0, hx, hZ, hown, hby, hml, hrt, hlk⟩ := Y
  subst hp
  exact q.of1 fun t q => XS.bipush X.here hx rfl (hb hby hd) (by rw [hv]; exact q)
theorem Gl.sipush (Y : Sd Z own bs mx ret n0 p l e R s m args below meth c T h k n) {i : Int} {v : Int32} (hv : (Int16.ofInt i).toInt32 = v) (hd : decode bs pc = .ok (.sipush i, 3)) (hp : pc + 3 = pc') (q : Gl p e below P (T.setTop (mkF m pc' L (.int v :: S)))) : Gl p e below P (T.setTop (mkF m pc L S)) := by
  obtain ⟨locs, X, eT, N, hn0, hx, hZ, hown, hby, hml, hrt, hlk⟩ := Y
  subst hp
  exact q.of1 fun t q => XS.sipush X.here hx rfl (hb hby hd) (by rw [hv]; exact q)
theorem Gl.lconst (Y : Sd Z own bs mx ret n0 p l e R s m args below meth c T h k n) {i : Fin 2} {v : Int64} (hv : Int64.ofNat i = v) (hd : decode bs pc = .ok (.lconst i, 1)) (hp : pc + 1 = pc') (q : Gl p e below P (T.setTop (mkF m pc' L (.long v :: S)))) : Gl p e below P (T.setTop (mkF m pc L S)) := by
  obtain ⟨locs, X, eT, N, hn0, hx, hZ, hown, hby, hml, hrt, hlk⟩ := Y
  subst hp
  exact q.of1 fun t q => XS.lconst X.here hx rfl (hb hby hd) (by rw [hv]; exact q)
theorem Gl.aconstNull (Y : Sd Z own bs mx ret n0 p l e R s m args below meth c T h k n)  (hd : decode bs pc = .ok (.aconst_null, 1)) (hp : pc + 1 = pc') (q : Gl p e below P (T.setTop (mkF m pc' L (.null :: S)))) : Gl p e below P (T.setTop (mkF m pc L S)) := by
  obtain ⟨locs, X, eT, N, hn0, hx, hZ, hown, hby, hml, hrt, hlk⟩ := Y
  subst hp
  exact q.of1 fun t q => XS.aconstNull X.here hx rfl (hb hby hd) q
theorem Gl.ldcI (Y : Sd Z own bs mx ret n0 p l e R s m args below meth c T h k n) {i : Nat} {v : Int32} (w : (Jvm.Cond.constant own i v).before a0 Z = true) (hd : decode bs pc = .ok (.ldc i, 2)) (hp : pc + 2 = pc') (q : Gl p e below P (T.setTop (mkF m pc' L (.int v :: S)))) : Gl p e below P (T.setTop (mkF m pc L S)) := by
  obtain ⟨locs, X, eT, N, hn0, hx, hZ, hown, hby, hml, hrt, hlk⟩ := Y
  subst hp
  exact q.of1 fun t q => X.ldcInt hx hown (mvT hZ w) (g := mkF m pc L S) rfl (hb hby hd) t q
theorem Gl.ldcWI (Y : Sd Z own bs mx ret n0 p l e R s m args below meth c T h k n) {i : Nat} {v : Int32} (w : (Jvm.Cond.constant own i v).before a0 Z = true) (hd : decode bs pc = .ok (.ldc_w i, 3)) (hp : pc + 3 = pc') (q : Gl p e below P (T.setTop (mkF m pc' L (.int v :: S)))) : Gl p e below P (T.setTop (mkF m pc L S)) := by
  obtain ⟨locs, X, eT, N, hn0, hx, hZ, hown, hby, hml, hrt, hlk⟩ := Y
  subst hp
  exact q.of1 fun t q => X.ldcWI hx hown (mvT hZ w) (g := mkF m pc L S) rfl (hb hby hd) q
theorem Gl.ldcJ (Y : Sd Z own bs mx ret n0 p l e R s m args below meth c T h k n) {i : Nat} {v : Int64} (w : (Jvm.Cond.constantLong own i v).before a0 Z = true) (hd : decode bs pc = .ok (.ldc2_w i, 3)) (hp : pc + 3 = pc') (q : Gl p e below P (T.setTop (mkF m pc' L (.long v :: S)))) : Gl p e below P (T.setTop (mkF m pc L S)) := by
  obtain ⟨locs, X, eT, N, hn0, hx, hZ, hown, hby, hml, hrt, hlk⟩ := Y
  subst hp
  exact q.of1 fun t q => X.ldc2Long hx hown (mvT hZ w) (g := mkF m pc L S) rfl (hb hby hd) t q
theorem Gl.ldcD (Y : Sd Z own bs mx ret n0 p l e R s m args below meth c T h k n) {i : Nat} {v : UInt64} (w : (Jvm.Cond.constantDouble own i v).before a0 Z = true) (hd : decode bs pc = .ok (.ldc2_w i, 3)) (hp : pc + 3 = pc') (q : Gl p e below P (T.setTop (mkF m pc' L (.double v :: S)))) : Gl p e below P (T.setTop (mkF m pc L S)) := by
  obtain ⟨locs, X, eT, N, hn0, hx, hZ, hown, hby, hml, hrt, hlk⟩ := Y
  subst hp
  exact q.of1 fun t q => X.ldc2DoubleC hx hown (mvT hZ w) (g := mkF m pc L S) rfl (hb hby hd) t q
theorem Gl.iload (Y : Sd Z own bs mx ret n0 p l e R s m args below meth c T h k n) {i : Nat} {v : Int32} (hl : L[i]? = some (.val (.int v))) (hd : decode bs pc = .ok (.iload i, 2)) (hp : pc + 2 = pc') (q : Gl p e below P (T.setTop (mkF m pc' L (.int v :: S)))) : Gl p e below P (T.setTop (mkF m pc L S)) := by
  obtain ⟨locs, X, eT, N, hn0, hx, hZ, hown, hby, hml, hrt, hlk⟩ := Y
  subst hp
  exact q.of1 fun t q => XS.iload X.here hx rfl (hb hby hd) hl q
theorem Gl.iloadN (Y : Sd Z own bs mx ret n0 p l e R s m args below meth c T h k n) {i : Fin 4} {v : Int32} (hl : L[i.val]? = some (.val (.int v))) (hd : decode bs pc = .ok (.iload_n i, 1)) (hp : pc + 1 = pc') (q : Gl p e below P (T.setTop (mkF m pc' L (.int v :: S)))) : Gl p e below P (T.setTop (mkF m pc L S)) := by
  obtain ⟨locs, X, eT, N, hn0, hx, hZ, hown, hby, hml, hrt, hlk⟩ := Y
  subst hp
  exact q.of1 fun t q => XS.iloadN X.here hx rfl (hb hby hd) hl q
theorem Gl.lload (Y : Sd Z own bs mx ret n0 p l e R s m args below meth c T h k n) {i : Nat} {v : Int64} (hl : L[i]? = some (.val (.long v))) (hd : decode bs pc = .ok (.lload i, 2)) (hp : pc + 2 = pc') (q : Gl p e below P (T.setTop (mkF m pc' L (.long v :: S)))) : Gl p e below P (T.setTop (mkF m pc L S)) := by
  obtain ⟨locs, X, eT, N, hn0, hx, hZ, hown, hby, hml, hrt, hlk⟩ := Y
  subst hp
  exact q.of1 fun t q => XS.lload X.here hx rfl (hb hby hd) hl q
theorem Gl.lloadN (Y : Sd Z own bs mx ret n0 p l e R s m args below meth c T h k n) {i : Fin 4} {v : Int64} (hl : L[i.val]? = some (.val (.long v))) (hd : decode bs pc = .ok (.lload_n i, 1)) (hp : pc + 1 = pc') (q : Gl p e below P (T.setTop (mkF m pc' L (.long v :: S)))) : Gl p e below P (T.setTop (mkF m pc L S)) := by
  obtain ⟨locs, X, eT, N, hn0, hx, hZ, hown, hby, hml, hrt, hlk⟩ := Y
  subst hp
  exact q.of1 fun t q => XS.lloadN X.here hx rfl (hb hby hd) hl q
theorem Gl.dload (Y : Sd Z own bs mx ret n0 p l e R s m args below meth c T h k n) {i : Nat} {v : UInt64} (hl : L[i]? = some (.val (.double v))) (hd : decode bs pc = .ok (.dload i, 2)) (hp : pc + 2 = pc') (q : Gl p e below P (T.setTop (mkF m pc' L (.double v :: S)))) : Gl p e below P (T.setTop (mkF m pc L S)) := by
  obtain ⟨locs, X, eT, N, hn0, hx, hZ, hown, hby, hml, hrt, hlk⟩ := Y
  subst hp
  exact q.of1 fun t q => XS.dload X.here hx rfl (hb hby hd) hl q
theorem Gl.dloadN (Y : Sd Z own bs mx ret n0 p l e R s m args below meth c T h k n) {i : Fin 4} {v : UInt64} (hl : L[i.val]? = some (.val (.double v))) (hd : decode bs pc = .ok (.dload_n i, 1)) (hp : pc + 1 = pc') (q : Gl p e below P (T.setTop (mkF m pc' L (.double v :: S)))) : Gl p e below P (T.setTop (mkF m pc L S)) := by
  obtain ⟨locs, X, eT, N, hn0, hx, hZ, hown, hby, hml, hrt, hlk⟩ := Y
  subst hp
  exact q.of1 fun t q => XS.dloadN X.here hx rfl (hb hby hd) hl q
theorem Gl.dconst0 (Y : Sd Z own bs mx ret n0 p l e R s m args below meth c T h k n)  (hd : decode bs pc = .ok (.dconst 0, 1)) (hp : pc + 1 = pc') (q : Gl p e below P (T.setTop (mkF m pc' L (.double FP.dconst0 :: S)))) : Gl p e below P (T.setTop (mkF m pc L S)) := by
  obtain ⟨locs, X, eT, N, hn0, hx, hZ, hown, hby, hml, hrt, hlk⟩ := Y
  subst hp
  exact q.of1 fun t q => XS.dconst0 X.here hx rfl (hb hby hd) rfl q
theorem Gl.dconst1 (Y : Sd Z own bs mx ret n0 p l e R s m args below meth c T h k n)  (hd : decode bs pc = .ok (.dconst 1, 1)) (hp : pc + 1 = pc') (q : Gl p e below P (T.setTop (mkF m pc' L (.double FP.dconst1 :: S)))) : Gl p e below P (T.setTop (mkF m pc L S)) := by
  obtain ⟨locs, X, eT, N, hn0, hx, hZ, hown, hby, hml, hrt, hlk⟩ := Y
  subst hp
  exact q.of1 fun t q => XS.dconst1 X.here hx rfl (hb hby hd) rfl q
theorem Gl.aload (Y : Sd Z own bs mx ret n0 p l e R s m args below meth c T h k n) {i : Nat} {v : Value} (hl : L[i]? = some (.val v)) (hv : v.isRef = true) (hd : decode bs pc = .ok (.aload i, 2)) (hp : pc + 2 = pc') (q : Gl p e below P (T.setTop (mkF m pc' L (v :: S)))) : Gl p e below P (T.setTop (mkF m pc L S)) := by
  obtain ⟨locs, X, eT, N, hn0, hx, hZ, hown, hby, hml, hrt, hlk⟩ := Y
  subst hp
  exact q.of1 fun t q => XS.aload X.here hx rfl (hb hby hd) hl hv q
theorem Gl.aloadN (Y : Sd Z own bs mx ret n0 p l e R s m args below meth c T h k n) {i : Fin 4} {v : Value} (hl : L[i.val]? = some (.val v)) (hv : v.isRef = true) (hd : decode bs pc = .ok (.aload_n i, 1)) (hp : pc + 1 = pc') (q : Gl p e below P (T.setTop (mkF m pc' L (v :: S)))) : Gl p e below P (T.setTop (mkF m pc L S)) := by
  obtain ⟨locs, X, eT, N, hn0, hx, hZ, hown, hby, hml, hrt, hlk⟩ := Y
  subst hp
  exact q.of1 fun t q => XS.aloadN X.here hx rfl (hb hby hd) hl hv q
theorem Gl.istore (Y : Sd Z own bs mx ret n0 p l e R s m args below meth c T h k n) {i : Nat} {v : Int32} {L' : Array Slot} (hl : storeLocals L i (.int v) = some L') (hd : decode bs pc = .ok (.istore i, 2)) (hp : pc + 2 = pc') (q : Gl p e below P (T.setTop (mkF m pc' L' S))) : Gl p e below P (T.setTop (mkF m pc L (.int v :: S))) := by
  obtain ⟨locs, X, eT, N, hn0, hx, hZ, hown, hby, hml, hrt, hlk⟩ := Y
  subst hp
  exact q.of1 fun t q => XS.istore X.here hx rfl (hb hby hd) rfl hl q
theorem Gl.istoreN (Y : Sd Z own bs mx ret n0 p l e R s m args below meth c T h k n) {i : Fin 4} {v : Int32} {L' : Array Slot} (hl : storeLocals L i.val (.int v) = some L') (hd : decode bs pc = .ok (.istore_n i, 1)) (hp : pc + 1 = pc') (q : Gl p e below P (T.setTop (mkF m pc' L' S))) : Gl p e below P (T.setTop (mkF m pc L (.int v :: S))) := by
  obtain ⟨locs, X, eT, N, hn0, hx, hZ, hown, hby, hml, hrt, hlk⟩ := Y
  subst hp
  exact q.of1 fun t q => XS.istoreN X.here hx rfl (hb hby hd) rfl hl q
theorem Gl.lstore (Y : Sd Z own bs mx ret n0 p l e R s m args below meth c T h k n) {i : Nat} {v : Int64} {L' : Array Slot} (hl : storeLocals L i (.long v) = some L') (hd : decode bs pc = .ok (.lstore i, 2)) (hp : pc + 2 = pc') (q : Gl p e below P (T.setTop (mkF m pc' L' S))) : Gl p e below P (T.setTop (mkF m pc L (.long v :: S))) := by
  obtain ⟨locs, X, eT, N, hn0, hx, hZ, hown, hby, hml, hrt, hlk⟩ := Y
  subst hp
  exact q.of1 fun t q => XS.lstore X.here hx rfl (hb hby hd) rfl hl q
theorem Gl.lstoreN (Y : Sd Z own bs mx ret n0 p l e R s m args below meth c T h k n) {i : Fin 4} {v : Int64} {L' : Array Slot} (hl : storeLocals L i.val (.long v) = some L') (hd : decode bs pc = .ok (.lstore_n i, 1)) (hp : pc + 1 = pc') (q : Gl p e below P (T.setTop (mkF m pc' L' S))) : Gl p e below P (T.setTop (mkF m pc L (.long v :: S))) := by
  obtain ⟨locs, X, eT, N, hn0, hx, hZ, hown, hby, hml, hrt, hlk⟩ := Y
  subst hp
  exact q.of1 fun t q => XS.lstoreN X.here hx rfl (hb hby hd) rfl hl q
theorem Gl.astore (Y : Sd Z own bs mx ret n0 p l e R s m args below meth c T h k n) {i : Nat} {v : Value} (hv : v.isRef = true) {L' : Array Slot} (hl : storeLocals L i (v) = some L') (hd : decode bs pc = .ok (.astore i, 2)) (hp : pc + 2 = pc') (q : Gl p e below P (T.setTop (mkF m pc' L' S))) : Gl p e below P (T.setTop (mkF m pc L (v :: S))) := by
  obtain ⟨locs, X, eT, N, hn0, hx, hZ, hown, hby, hml, hrt, hlk⟩ := Y
  subst hp
  exact q.of1 fun t q => XS.astore X.here hx rfl (hb hby hd) rfl hv hl q
theorem Gl.astoreN (Y : Sd Z own bs mx ret n0 p l e R s m args below meth c T h k n) {i : Fin 4} {v : Value} (hv : v.isRef = true) {L' : Array Slot} (hl : storeLocals L i.val (v) = some L') (hd : decode bs pc = .ok (.astore_n i, 1)) (hp : pc + 1 = pc') (q : Gl p e below P (T.setTop (mkF m pc' L' S))) : Gl p e below P (T.setTop (mkF m pc L (v :: S))) := by
  obtain ⟨locs, X, eT, N, hn0, hx, hZ, hown, hby, hml, hrt, hlk⟩ := Y
  subst hp
  exact q.of1 fun t q => XS.astoreN X.here hx rfl (hb hby hd) rfl hv hl q
theorem Gl.iinc (Y : Sd Z own bs mx ret n0 p l e R s m args below meth c T h k n) {i : Nat} {cst : Int} {x r : Int32} {L' : Array Slot} (hl : L[i]? = some (.val (.int x))) (hr : x + Int32.ofInt cst = r) (hl' : storeLocals L i (.int r) = some L') (hd : decode bs pc = .ok (.iinc i cst, 3)) (hp : pc + 3 = pc') (q : Gl p e below P (T.setTop (mkF m pc' L' S))) : Gl p e below P (T.setTop (mkF m pc L S)) := by
  obtain ⟨locs, X, eT, N, hn0, hx, hZ, hown, hby, hml, hrt, hlk⟩ := Y
  subst hp
  exact q.of1 fun t q => XS.iinc X.here hx rfl (hb hby hd) hl (by rw [hr]; exact hl') q
theorem Gl.dup (Y : Sd Z own bs mx ret n0 p l e R s m args below meth c T h k n) {x : Value} (hc : x.category = 1) (hd : decode bs pc = .ok (.dup, 1)) (hp : pc + 1 = pc') (q : Gl p e below P (T.setTop (mkF m pc' L (x :: x :: S)))) : Gl p e below P (T.setTop (mkF m pc L (x :: S))) := by
  obtain ⟨locs, X, eT, N, hn0, hx, hZ, hown, hby, hml, hrt, hlk⟩ := Y
  subst hp
  exact q.of1 fun t q => XS.dup X.here hx rfl (hb hby hd) rfl hc q
theorem Gl.pop (Y : Sd Z own bs mx ret n0 p l e R s m args below meth c T h k n) {x : Value} (hc : x.category = 1) (hd : decode bs pc = .ok (.pop, 1)) (hp : pc + 1 = pc') (q : Gl p e below P (T.setTop (mkF m pc' L S))) : Gl p e below P (T.setTop (mkF m pc L (x :: S))) := by
  obtain ⟨locs, X, eT, N, hn0, hx, hZ, hown, hby, hml, hrt, hlk⟩ := Y
  subst hp
  exact q.of1 fun t q => XS.pop X.here hx rfl (hb hby hd) rfl hc q
theorem Gl.dupX1 (Y : Sd Z own bs mx ret n0 p l e R s m args below meth c T h k n) {x y : Value} (hc : x.category = 1) (hc' : y.category = 1) (hd : decode bs pc = .ok (.dup_x1, 1)) (hp : pc + 1 = pc') (q : Gl p e below P (T.setTop (mkF m pc' L (x :: y :: x :: S)))) : Gl p e below P (T.setTop (mkF m pc L (x :: y :: S))) := by
  obtain ⟨locs, X, eT, N, hn0, hx, hZ, hown, hby, hml, hrt, hlk⟩ := Y
  subst hp
  exact q.of1 fun t q => XS.dupX1 X.here hx rfl (hb hby hd) rfl hc hc' q
theorem Gl.lcmp (Y : Sd Z own bs mx ret n0 p l e R s m args below meth c T h k n) {x y : Int64} {r : Int32} (hr : lcmpW x y = r) (hd : decode bs pc = .ok (.lcmp, 1)) (hp : pc + 1 = pc') (q : Gl p e below P (T.setTop (mkF m pc' L (.int r :: S)))) : Gl p e below P (T.setTop (mkF m pc L (.long y :: .long x :: S))) := by
  obtain ⟨locs, X, eT, N, hn0, hx, hZ, hown, hby, hml, hrt, hlk⟩ := Y
  subst hp hr
  exact q.of1 fun t q => XS.lcmp X.here hx rfl (hb hby hd) rfl q
theorem Gl.arraylength (Y : Sd Z own bs mx ret n0 p l e R s m args below meth c T h k n) {a : Addr} {ck : ClassId} {ty : FieldType} {z : Int32} {vs : List Value} {d : Value} (F : Arv Z h a ck ty z vs d) (hd : decode bs pc = .ok (.arraylength, 1)) (hp : pc + 1 = pc') (q : Gl p e below P (T.setTop (mkF m pc' L (.int z :: S)))) : Gl p e below P (T.setTop (mkF m pc L (.ref a :: S))) := by
  obtain ⟨locs, X, eT, N, hn0, hx, hZ, hown, hby, hml, hrt, hlk⟩ := Y
  subst hp
  exact q.of1 fun t q => by
    obtain ⟨cl, A, -, S1, N1, -⟩ := F
    exact X.arraylength hx (by rw [eT]; exact A.1) (State.isArrayOf_alike hZ.alike A.2.1) (g := mkF m pc L (.ref a :: S)) rfl rfl (hb hby hd) t (by rw [len_of S1 N1]; exact q)
theorem Gl.iaload (Y : Sd Z own bs mx ret n0 p l e R s m args below meth c T h k n) {a : Addr} {ck : ClassId} {z j : Int32} {vs : List Value} {d v : Value} (F : Arv Z h a ck .int z vs d) (hj : ¬ j < 0 ∧ j < z) (hv : vs.getD j.toNatClampNeg d = v) (hd : decode bs pc = .ok (.iaload, 1)) (hp : pc + 1 = pc') (q : Gl p e below P (T.setTop (mkF m pc' L (v :: S)))) : Gl p e below P (T.setTop (mkF m pc L (.int j :: .ref a :: S))) := by
  obtain ⟨locs, X, eT, N, hn0, hx, hZ, hown, hby, hml, hrt, hlk⟩ := Y
  subst hp
  exact q.of1 fun t q => by
    obtain ⟨cl, A, -, S1, N1, H, -⟩ := F
    exact X.iaload hx (by rw [eT]; exact A.1) (State.isArrayOf_alike hZ.alike A.2.1) A.2.2 (inb_of S1 hj) (H.at (inb_of S1 hj) hv) (g := mkF m pc L (.int j :: .ref a :: S)) rfl rfl (hb hby hd) t q
theorem Gl.laload (Y : Sd Z own bs mx ret n0 p l e R s m args below meth c T h k n) {a : Addr} {ck : ClassId} {z j : Int32} {vs : List Value} {d v : Value} (F : Arv Z h a ck .long z vs d) (hj : ¬ j < 0 ∧ j < z) (hv : vs.getD j.toNatClampNeg d = v) (hd : decode bs pc = .ok (.laload, 1)) (hp : pc + 1 = pc') (q : Gl p e below P (T.setTop (mkF m pc' L (v :: S)))) : Gl p e below P (T.setTop (mkF m pc L (.int j :: .ref a :: S))) := by
  obtain ⟨locs, X, eT, N, hn0, hx, hZ, hown, hby, hml, hrt, hlk⟩ := Y
  subst hp
  exact q.of1 fun t q => by
    obtain ⟨cl, A, -, S1, N1, H, -⟩ := F
    exact X.laload hx (by rw [eT]; exact A.1) (State.isArrayOf_alike hZ.alike A.2.1) A.2.2 (inb_of S1 hj) (H.at (inb_of S1 hj) hv) (g := mkF m pc L (.int j :: .ref a :: S)) rfl rfl (hb hby hd) t q
theorem Gl.caload (Y : Sd Z own bs mx ret n0 p l e R s m args below meth c T h k n) {a : Addr} {ck : ClassId} {z j : Int32} {vs : List Value} {d v : Value} (F : Arv Z h a ck .char z vs d) (hj : ¬ j < 0 ∧ j < z) (hv : vs.getD j.toNatClampNeg d = v) (hd : decode bs pc = .ok (.caload, 1)) (hp : pc + 1 = pc') (q : Gl p e below P (T.setTop (mkF m pc' L (v :: S)))) : Gl p e below P (T.setTop (mkF m pc L (.int j :: .ref a :: S))) := by
  obtain ⟨locs, X, eT, N, hn0, hx, hZ, hown, hby, hml, hrt, hlk⟩ := Y
  subst hp
  exact q.of1 fun t q => by
    obtain ⟨cl, A, -, S1, N1, H, -⟩ := F
    exact X.caload hx (by rw [eT]; exact A.1) (State.isArrayOf_alike hZ.alike A.2.1) A.2.2 (inb_of S1 hj) (H.at (inb_of S1 hj) hv) (g := mkF m pc L (.int j :: .ref a :: S)) rfl rfl (hb hby hd) t q
theorem Gl.saload (Y : Sd Z own bs mx ret n0 p l e R s m args below meth c T h k n) {a : Addr} {ck : ClassId} {z j : Int32} {vs : List Value} {d v : Value} (F : Arv Z h a ck .short z vs d) (hj : ¬ j < 0 ∧ j < z) (hv : vs.getD j.toNatClampNeg d = v) (hd : decode bs pc = .ok (.saload, 1)) (hp : pc + 1 = pc') (q : Gl p e below P (T.setTop (mkF m pc' L (v :: S)))) : Gl p e below P (T.setTop (mkF m pc L (.int j :: .ref a :: S))) := by
  obtain ⟨locs, X, eT, N, hn0, hx, hZ, hown, hby, hml, hrt, hlk⟩ := Y
  subst hp
  exact q.of1 fun t q => by
    obtain ⟨cl, A, -, S1, N1, H, -⟩ := F
    exact X.saload hx (by rw [eT]; exact A.1) (State.isArrayOf_alike hZ.alike A.2.1) A.2.2 (inb_of S1 hj) (H.at (inb_of S1 hj) hv) (g := mkF m pc L (.int j :: .ref a :: S)) rfl rfl (hb hby hd) t q
theorem Gl.baload (Y : Sd Z own bs mx ret n0 p l e R s m args below meth c T h k n) {a : Addr} {ck : ClassId} {z j : Int32} {vs : List Value} {d v : Value} (F : Arv Z h a ck .byte z vs d) (hj : ¬ j < 0 ∧ j < z) (hv : vs.getD j.toNatClampNeg d = v) (hd : decode bs pc = .ok (.baload, 1)) (hp : pc + 1 = pc') (q : Gl p e below P (T.setTop (mkF m pc' L (v :: S)))) : Gl p e below P (T.setTop (mkF m pc L (.int j :: .ref a :: S))) := by
  obtain ⟨locs, X, eT, N, hn0, hx, hZ, hown, hby, hml, hrt, hlk⟩ := Y
  subst hp
  exact q.of1 fun t q => by
    obtain ⟨cl, A, -, S1, N1, H, -⟩ := F
    exact X.baloadBytes hx (by rw [eT]; exact A.1) (State.isArrayOf_alike hZ.alike A.2.1) A.2.2 (inb_of S1 hj) (H.at (inb_of S1 hj) hv) (g := mkF m pc L (.int j :: .ref a :: S)) rfl rfl (hb hby hd) t q
theorem Gl.goto (Y : Sd Z own bs mx ret n0 p l e R s m args below meth c T h k n) {o : Int} (hd : decode bs pc = .ok (.goto o, 3)) (ho : 0 ≤ (pc : Int) + o) (hp : ((pc : Int) + o).toNat = pc') (q : Gl p e below P (T.setTop (mkF m pc' L S))) : Gl p e below P (T.setTop (mkF m pc L S)) := by
  obtain ⟨locs, X, eT, N, hn0, hx, hZ, hown, hby, hml, hrt, hlk⟩ := Y
  exact q.of1 fun t q => XS.goto X.here hx rfl rfl (hb hby hd) ho hp q
theorem Gl.ifeq (Y : Sd Z own bs mx ret n0 p l e R s m args below meth c T h k n) {x : Int32} {o : Int} (hd : decode bs pc = .ok (.ifCond .eq o, 3)) (ho : 0 ≤ (pc : Int) + o) (ht : ((pc : Int) + o).toNat = pcT) (hf : pc + 3 = pcF) (q1 : x = 0 → Gl p e below P (T.setTop (mkF m pcT L S))) (q2 : ¬ x = 0 → Gl p e below P (T.setTop (mkF m pcF L S))) : Gl p e below P (T.setTop (mkF m pc L (.int x :: S))) := by
  obtain ⟨locs, X, eT, N, hn0, hx, hZ, hown, hby, hml, hrt, hlk⟩ := Y
  by_cases hq : x = 0
  · exact (q1 hq).of1 fun t q => XS.ifYes X.here hx rfl rfl (hb hby hd) rfl (Jvm.Free.XT.i0_eq_t hq) ho ht q
  · subst hf
    exact (q2 (by first | exact hq | exact Decidable.not_not.mp hq)).of1 fun t q => XS.ifNo X.here hx rfl (hb hby hd) rfl (Jvm.Free.XT.i0_eq_f (by first | exact hq | exact Decidable.not_not.mp hq)) q
theorem Gl.icmpeq (Y : Sd Z own bs mx ret n0 p l e R s m args below meth c T h k n) {x y : Int32} {o : Int} (hd : decode bs pc = .ok (.if_icmp .eq o, 3)) (ho : 0 ≤ (pc : Int) + o) (ht : ((pc : Int) + o).toNat = pcT) (hf : pc + 3 = pcF) (q1 : x = y → Gl p e below P (T.setTop (mkF m pcT L S))) (q2 : ¬ x = y → Gl p e below P (T.setTop (mkF m pcF L S))) : Gl p e below P (T.setTop (mkF m pc L (.int y :: .int x :: S))) := by
  obtain ⟨locs, X, eT, N, hn0, hx, hZ, hown, hby, hml, hrt, hlk⟩ := Y
  by_cases hq : x = y
  · exact (q1 hq).of1 fun t q => XS.icmpYes X.here hx rfl rfl (hb hby hd) rfl (Jvm.Free.XT.ii_eq_t hq) ho ht q
  · subst hf
    exact (q2 (by first | exact hq | exact Decidable.not_not.mp hq)).of1 fun t q => XS.icmpNo X.here hx rfl (hb hby hd) rfl (Jvm.Free.XT.ii_eq_f (by first | exact hq | exact Decidable.not_not.mp hq)) q
theorem Gl.lcmpeq (Y : Sd Z own bs mx ret n0 p l e R s m args below meth c T h k n) {x y : Int64} {pc1 : Nat} {o : Int} (hd0 : decode bs pc = .ok (.lcmp, 1)) (hp1 : pc + 1 = pc1) (hd : decode bs pc1 = .ok (.ifCond .eq o, 3)) (ho : 0 ≤ (pc1 : Int) + o) (ht : ((pc1 : Int) + o).toNat = pcT) (hf : pc1 + 3 = pcF) (q1 : x = y → Gl p e below P (T.setTop (mkF m pcT L S))) (q2 : ¬ x = y → Gl p e below P (T.setTop (mkF m pcF L S))) : Gl p e below P (T.setTop (mkF m pc L (.long y :: .long x :: S))) := by
  refine Gl.lcmp Y rfl hd0 hp1 ?_
  obtain ⟨locs, X, eT, N, hn0, hx, hZ, hown, hby, hml, hrt, hlk⟩ := Y
  by_cases hq : x = y
  · exact (q1 hq).of1 fun t q => XS.ifYes X.here hx rfl rfl (hb hby hd) rfl (Jvm.Free.XT.ll_eq_t hq) ho ht q
  · subst hf
    exact (q2 (by first | exact hq | exact Decidable.not_not.mp hq)).of1 fun t q => XS.ifNo X.here hx rfl (hb hby hd) rfl (Jvm.Free.XT.ll_eq_f (by first | exact hq | exact Decidable.not_not.mp hq)) q
theorem Gl.ifne (Y : Sd Z own bs mx ret n0 p l e R s m args below meth c T h k n) {x : Int32} {o : Int} (hd : decode bs pc = .ok (.ifCond .ne o, 3)) (ho : 0 ≤ (pc : Int) + o) (ht : ((pc : Int) + o).toNat = pcT) (hf : pc + 3 = pcF) (q1 : ¬ x = 0 → Gl p e below P (T.setTop (mkF m pcT L S))) (q2 : x = 0 → Gl p e below P (T.setTop (mkF m pcF L S))) : Gl p e below P (T.setTop (mkF m pc L (.int x :: S))) := by
  obtain ⟨locs, X, eT, N, hn0, hx, hZ, hown, hby, hml, hrt, hlk⟩ := Y
  by_cases hq : ¬ x = 0
  · exact (q1 hq).of1 fun t q => XS.ifYes X.here hx rfl rfl (hb hby hd) rfl (Jvm.Free.XT.i0_ne_t hq) ho ht q
  · subst hf
    exact (q2 (by first | exact hq | exact Decidable.not_not.mp hq)).of1 fun t q => XS.ifNo X.here hx rfl (hb hby hd) rfl (Jvm.Free.XT.i0_ne_f (by first | exact hq | exact Decidable.not_not.mp hq)) q
theorem Gl.icmpne (Y : Sd Z own bs mx ret n0 p l e R s m args below meth c T h k n) {x y : Int32} {o : Int} (hd : decode bs pc = .ok (.if_icmp .ne o, 3)) (ho : 0 ≤ (pc : Int) + o) (ht : ((pc : Int) + o).toNat = pcT) (hf : pc + 3 = pcF) (q1 : ¬ x = y → Gl p e below P (T.setTop (mkF m pcT L S))) (q2 : x = y → Gl p e below P (T.setTop (mkF m pcF L S))) : Gl p e below P (T.setTop (mkF m pc L (.int y :: .int x :: S))) := by
  obtain ⟨locs, X, eT, N, hn0, hx, hZ, hown, hby, hml, hrt, hlk⟩ := Y
  by_cases hq : ¬ x = y
  · exact (q1 hq).of1 fun t q => XS.icmpYes X.here hx rfl rfl (hb hby hd) rfl (Jvm.Free.XT.ii_ne_t hq) ho ht q
  · subst hf
    exact (q2 (by first | exact hq | exact Decidable.not_not.mp hq)).of1 fun t q => XS.icmpNo X.here hx rfl (hb hby hd) rfl (Jvm.Free.XT.ii_ne_f (by first | exact hq | exact Decidable.not_not.mp hq)) q
theorem Gl.lcmpne (Y : Sd Z own bs mx ret n0 p l e R s m args below meth c T h k n) {x y : Int64} {pc1 : Nat} {o : Int} (hd0 : decode bs pc = .ok (.lcmp, 1)) (hp1 : pc + 1 = pc1) (hd : decode bs pc1 = .ok (.ifCond .ne o, 3)) (ho : 0 ≤ (pc1 : Int) + o) (ht : ((pc1 : Int) + o).toNat = pcT) (hf : pc1 + 3 = pcF) (q1 : ¬ x = y → Gl p e below P (T.setTop (mkF m pcT L S))) (q2 : x = y → Gl p e below P (T.setTop (mkF m pcF L S))) : Gl p e below P (T.setTop (mkF m pc L (.long y :: .long x :: S))) := by
  refine Gl.lcmp Y rfl hd0 hp1 ?_
  obtain ⟨locs, X, eT, N, hn0, hx, hZ, hown, hby, hml, hrt, hlk⟩ := Y
  by_cases hq : ¬ x = y
  · exact (q1 hq).of1 fun t q => XS.ifYes X.here hx rfl rfl (hb hby hd) rfl (Jvm.Free.XT.ll_ne_t hq) ho ht q
  · subst hf
    exact (q2 (by first | exact hq | exact Decidable.not_not.mp hq)).of1 fun t q => XS.ifNo X.here hx rfl (hb hby hd) rfl (Jvm.Free.XT.ll_ne_f (by first | exact hq | exact Decidable.not_not.mp hq)) q
theorem Gl.iflt (Y : Sd Z own bs mx ret n0 p l e R s m args below meth c T h k n) {x : Int32} {o : Int} (hd : decode bs pc = .ok (.ifCond .lt o, 3)) (ho : 0 ≤ (pc : Int) + o) (ht : ((pc : Int) + o).toNat = pcT) (hf : pc + 3 = pcF) (q1 : x < 0 → Gl p e below P (T.setTop (mkF m pcT L S))) (q2 : ¬ x < 0 → Gl p e below P (T.setTop (mkF m pcF L S))) : Gl p e below P (T.setTop (mkF m pc L (.int x :: S))) := by
  obtain ⟨locs, X, eT, N, hn0, hx, hZ, hown, hby, hml, hrt, hlk⟩ := Y
  by_cases hq : x < 0
  · exact (q1 hq).of1 fun t q => XS.ifYes X.here hx rfl rfl (hb hby hd) rfl (Jvm.Free.XT.i0_lt_t hq) ho ht q
  · subst hf
    exact (q2 (by first | exact hq | exact Decidable.not_not.mp hq)).of1 fun t q => XS.ifNo X.here hx rfl (hb hby hd) rfl (Jvm.Free.XT.i0_lt_f (by first | exact hq | exact Decidable.not_not.mp hq)) q
theorem Gl.icmplt (Y : Sd Z own bs mx ret n0 p l e R s m args below meth c T h k n) {x y : Int32} {o : Int} (hd : decode bs pc = .ok (.if_icmp .lt o, 3)) (ho : 0 ≤ (pc : Int) + o) (ht : ((pc : Int) + o).toNat = pcT) (hf : pc + 3 = pcF) (q1 : x < y → Gl p e below P (T.setTop (mkF m pcT L S))) (q2 : ¬ x < y → Gl p e below P (T.setTop (mkF m pcF L S))) : Gl p e below P (T.setTop (mkF m pc L (.int y :: .int x :: S))) := by
  obtain ⟨locs, X, eT, N, hn0, hx, hZ, hown, hby, hml, hrt, hlk⟩ := Y
  by_cases hq : x < y
  · exact (q1 hq).of1 fun t q => XS.icmpYes X.here hx rfl rfl (hb hby hd) rfl (Jvm.Free.XT.ii_lt_t hq) ho ht q
  · subst hf
    exact (q2 (by first | exact hq | exact Decidable.not_not.mp hq)).of1 fun t q => XS.icmpNo X.here hx rfl (hb hby hd) rfl (Jvm.Free.XT.ii_lt_f (by first | exact hq | exact Decidable.not_not.mp hq)) q
theorem Gl.lcmplt (Y : Sd Z own bs mx ret n0 p l e R s m args below meth c T h k n) {x y : Int64} {pc1 : Nat} {o : Int} (hd0 : decode bs pc = .ok (.lcmp, 1)) (hp1 : pc + 1 = pc1) (hd : decode bs pc1 = .ok (.ifCond .lt o, 3)) (ho : 0 ≤ (pc1 : Int) + o) (ht : ((pc1 : Int) + o).toNat = pcT) (hf : pc1 + 3 = pcF) (q1 : x < y → Gl p e below P (T.setTop (mkF m pcT L S))) (q2 : ¬ x < y → Gl p e below P (T.setTop (mkF m pcF L S))) : Gl p e below P (T.setTop (mkF m pc L (.long y :: .long x :: S))) := by
  refine Gl.lcmp Y rfl hd0 hp1 ?_
  obtain ⟨locs, X, eT, N, hn0, hx, hZ, hown, hby, hml, hrt, hlk⟩ := Y
  by_cases hq : x < y
  · exact (q1 hq).of1 fun t q => XS.ifYes X.here hx rfl rfl (hb hby hd) rfl (Jvm.Free.XT.ll_lt_t hq) ho ht q
  · subst hf
    exact (q2 (by first | exact hq | exact Decidable.not_not.mp hq)).of1 fun t q => XS.ifNo X.here hx rfl (hb hby hd) rfl (Jvm.Free.XT.ll_lt_f (by first | exact hq | exact Decidable.not_not.mp hq)) q
theorem Gl.ifge (Y : Sd Z own bs mx ret n0 p l e R s m args below meth c T h k n) {x : Int32} {o : Int} (hd : decode bs pc = .ok (.ifCond .ge o, 3)) (ho : 0 ≤ (pc : Int) + o) (ht : ((pc : Int) + o).toNat = pcT) (hf : pc + 3 = pcF) (q1 : ¬ x < 0 → Gl p e below P (T.setTop (mkF m pcT L S))) (q2 : x < 0 → Gl p e below P (T.setTop (mkF m pcF L S))) : Gl p e below P (T.setTop (mkF m pc L (.int x :: S))) := by
  obtain ⟨locs, X, eT, N, hn0, hx, hZ, hown, hby, hml, hrt, hlk⟩ := Y
  by_cases hq : ¬ x < 0
  · exact (q1 hq).of1 fun t q => XS.ifYes X.here hx rfl rfl (hb hby hd) rfl (Jvm.Free.XT.i0_ge_t hq) ho ht q
  · subst hf
    exact (q2 (by first | exact hq | exact Decidable.not_not.mp hq)).of1 fun t q => XS.ifNo X.here hx rfl (hb hby hd) rfl (Jvm.Free.XT.i0_ge_f (by first | exact hq | exact Decidable.not_not.mp hq)) q
theorem Gl.icmpge (Y : Sd Z own bs mx ret n0 p l e R s m args below meth c T h k n) {x y : Int32} {o : Int} (hd : decode bs pc = .ok (.if_icmp .ge o, 3)) (ho : 0 ≤ (pc : Int) + o) (ht : ((pc : Int) + o).toNat = pcT) (hf : pc + 3 = pcF) (q1 : ¬ x < y → Gl p e below P (T.setTop (mkF m pcT L S))) (q2 : x < y → Gl p e below P (T.setTop (mkF m pcF L S))) : Gl p e below P (T.setTop (mkF m pc L (.int y :: .int x :: S))) := by
  obtain ⟨locs, X, eT, N, hn0, hx, hZ, hown, hby, hml, hrt, hlk⟩ := Y
  by_cases hq : ¬ x < y
  · exact (q1 hq).of1 fun t q => XS.icmpYes X.here hx rfl rfl (hb hby hd) rfl (Jvm.Free.XT.ii_ge_t hq) ho ht q
  · subst hf
    exact (q2 (by first | exact hq | exact Decidable.not_not.mp hq)).of1 fun t q => XS.icmpNo X.here hx rfl (hb hby hd) rfl (Jvm.Free.XT.ii_ge_f (by first | exact hq | exact Decidable.not_not.mp hq)) q
theorem Gl.lcmpge (Y : Sd Z own bs mx ret n0 p l e R s m args below meth c T h k n) {x y : Int64} {pc1 : Nat} {o : Int} (hd0 : decode bs pc = .ok (.lcmp, 1)) (hp1 : pc + 1 = pc1) (hd : decode bs pc1 = .ok (.ifCond .ge o, 3)) (ho : 0 ≤ (pc1 : Int) + o) (ht : ((pc1 : Int) + o).toNat = pcT) (hf : pc1 + 3 = pcF) (q1 : ¬ x < y → Gl p e below P (T.setTop (mkF m pcT L S))) (q2 : x < y → Gl p e below P (T.setTop (mkF m pcF L S))) : Gl p e below P (T.setTop (mkF m pc L (.long y :: .long x :: S))) := by
  refine Gl.lcmp Y rfl hd0 hp1 ?_
  obtain ⟨locs, X, eT, N, hn0, hx, hZ, hown, hby, hml, hrt, hlk⟩ := Y
  by_cases hq : ¬ x < y
  · exact (q1 hq).of1 fun t q => XS.ifYes X.here hx rfl rfl (hb hby hd) rfl (Jvm.Free.XT.ll_ge_t hq) ho ht q
  · subst hf
    exact (q2 (by first | exact hq | exact Decidable.not_not.mp hq)).of1 fun t q => XS.ifNo X.here hx rfl (hb hby hd) rfl (Jvm.Free.XT.ll_ge_f (by first | exact hq | exact Decidable.not_not.mp hq)) q
theorem Gl.ifgt (Y : Sd Z own bs mx ret n0 p l e R s m args below meth c T h k n) {x : Int32} {o : Int} (hd : decode bs pc = .ok (.ifCond .gt o, 3)) (ho : 0 ≤ (pc : Int) + o) (ht : ((pc : Int) + o).toNat = pcT) (hf : pc + 3 = pcF) (q1 : 0 < x → Gl p e below P (T.setTop (mkF m pcT L S))) (q2 : ¬ 0 < x → Gl p e below P (T.setTop (mkF m pcF L S))) : Gl p e below P (T.setTop (mkF m pc L (.int x :: S))) := by
  obtain ⟨locs, X, eT, N, hn0, hx, hZ, hown, hby, hml, hrt, hlk⟩ := Y
  by_cases hq : 0 < x
  · exact (q1 hq).of1 fun t q => XS.ifYes X.here hx rfl rfl (hb hby hd) rfl (Jvm.Free.XT.i0_gt_t hq) ho ht q
  · subst hf
    exact (q2 (by first | exact hq | exact Decidable.not_not.mp hq)).of1 fun t q => XS.ifNo X.here hx rfl (hb hby hd) rfl (Jvm.Free.XT.i0_gt_f (by first | exact hq | exact Decidable.not_not.mp hq)) q
theorem Gl.icmpgt (Y : Sd Z own bs mx ret n0 p l e R s m args below meth c T h k n) {x y : Int32} {o : Int} (hd : decode bs pc = .ok (.if_icmp .gt o, 3)) (ho : 0 ≤ (pc : Int) + o) (ht : ((pc : Int) + o).toNat = pcT) (hf : pc + 3 = pcF) (q1 : y < x → Gl p e below P (T.setTop (mkF m pcT L S))) (q2 : ¬ y < x → Gl p e below P (T.setTop (mkF m pcF L S))) : Gl p e below P (T.setTop (mkF m pc L (.int y :: .int x :: S))) := by
  obtain ⟨locs, X, eT, N, hn0, hx, hZ, hown, hby, hml, hrt, hlk⟩ := Y
  by_cases hq : y < x
  · exact (q1 hq).of1 fun t q => XS.icmpYes X.here hx rfl rfl (hb hby hd) rfl (Jvm.Free.XT.ii_gt_t hq) ho ht q
  · subst hf
    exact (q2 (by first | exact hq | exact Decidable.not_not.mp hq)).of1 fun t q => XS.icmpNo X.here hx rfl (hb hby hd) rfl (Jvm.Free.XT.ii_gt_f (by first | exact hq | exact Decidable.not_not.mp hq)) q
theorem Gl.lcmpgt (Y : Sd Z own bs mx ret n0 p l e R s m args below meth c T h k n) {x y : Int64} {pc1 : Nat} {o : Int} (hd0 : decode bs pc = .ok (.lcmp, 1)) (hp1 : pc + 1 = pc1) (hd : decode bs pc1 = .ok (.ifCond .gt o, 3)) (ho : 0 ≤ (pc1 : Int) + o) (ht : ((pc1 : Int) + o).toNat = pcT) (hf : pc1 + 3 = pcF) (q1 : y < x → Gl p e below P (T.setTop (mkF m pcT L S))) (q2 : ¬ y < x → Gl p e below P (T.setTop (mkF m pcF L S))) : Gl p e below P (T.setTop (mkF m pc L (.long y :: .long x :: S))) := by
  refine Gl.lcmp Y rfl hd0 hp1 ?_
  obtain ⟨locs, X, eT, N, hn0, hx, hZ, hown, hby, hml, hrt, hlk⟩ := Y
  by_cases hq : y < x
  · exact (q1 hq).of1 fun t q => XS.ifYes X.here hx rfl rfl (hb hby hd) rfl (Jvm.Free.XT.ll_gt_t hq) ho ht q
  · subst hf
    exact (q2 (by first | exact hq | exact Decidable.not_not.mp hq)).of1 fun t q => XS.ifNo X.here hx rfl (hb hby hd) rfl (Jvm.Free.XT.ll_gt_f (by first | exact hq | exact Decidable.not_not.mp hq)) q
theorem Gl.ifle (Y : Sd Z own bs mx ret n0 p l e R s m args below meth c T h k n) {x : Int32} {o : Int} (hd : decode bs pc = .ok (.ifCond .le o, 3)) (ho : 0 ≤ (pc : Int) + o) (ht : ((pc : Int) + o).toNat = pcT) (hf : pc + 3 = pcF) (q1 : ¬ 0 < x → Gl p e below P (T.setTop (mkF m pcT L S))) (q2 : 0 < x → Gl p e below P (T.setTop (mkF m pcF L S))) : Gl p e below P (T.setTop (mkF m pc L (.int x :: S))) := by
  obtain ⟨locs, X, eT, N, hn0, hx, hZ, hown, hby, hml, hrt, hlk⟩ := Y
  by_cases hq : ¬ 0 < x
  · exact (q1 hq).of1 fun t q => XS.ifYes X.here hx rfl rfl (hb hby hd) rfl (Jvm.Free.XT.i0_le_t hq) ho ht q
  · subst hf
    exact (q2 (by first | exact hq | exact Decidable.not_not.mp hq)).of1 fun t q => XS.ifNo X.here hx rfl (hb hby hd) rfl (Jvm.Free.XT.i0_le_f (by first | exact hq | exact Decidable.not_not.mp hq)) q
theorem Gl.icmple (Y : Sd Z own bs mx ret n0 p l e R s m args below meth c T h k n) {x y : Int32} {o : Int} (hd : decode bs pc = .ok (.if_icmp .le o, 3)) (ho : 0 ≤ (pc : Int) + o) (ht : ((pc : Int) + o).toNat = pcT) (hf : pc + 3 = pcF) (q1 : ¬ y < x → Gl p e below P (T.setTop (mkF m pcT L S))) (q2 : y < x → Gl p e below P (T.setTop (mkF m pcF L S))) : Gl p e below P (T.setTop (mkF m pc L (.int y :: .int x :: S))) := by
  obtain ⟨locs, X, eT, N, hn0, hx, hZ, hown, hby, hml, hrt, hlk⟩ := Y
  by_cases hq : ¬ y < x
  · exact (q1 hq).of1 fun t q => XS.icmpYes X.here hx rfl rfl (hb hby hd) rfl (Jvm.Free.XT.ii_le_t hq) ho ht q
  · subst hf
    exact (q2 (by first | exact hq | exact Decidable.not_not.mp hq)).of1 fun t q => XS.icmpNo X.here hx rfl (hb hby hd) rfl (Jvm.Free.XT.ii_le_f (by first | exact hq | exact Decidable.not_not.mp hq)) q
theorem Gl.lcmple (Y : Sd Z own bs mx ret n0 p l e R s m args below meth c T h k n) {x y : Int64} {pc1 : Nat} {o : Int} (hd0 : decode bs pc = .ok (.lcmp, 1)) (hp1 : pc + 1 = pc1) (hd : decode bs pc1 = .ok (.ifCond .le o, 3)) (ho : 0 ≤ (pc1 : Int) + o) (ht : ((pc1 : Int) + o).toNat = pcT) (hf : pc1 + 3 = pcF) (q1 : ¬ y < x → Gl p e below P (T.setTop (mkF m pcT L S))) (q2 : y < x → Gl p e below P (T.setTop (mkF m pcF L S))) : Gl p e below P (T.setTop (mkF m pc L (.long y :: .long x :: S))) := by
  refine Gl.lcmp Y rfl hd0 hp1 ?_
  obtain ⟨locs, X, eT, N, hn0, hx, hZ, hown, hby, hml, hrt, hlk⟩ := Y
  by_cases hq : ¬ y < x
  · exact (q1 hq).of1 fun t q => XS.ifYes X.here hx rfl rfl (hb hby hd) rfl (Jvm.Free.XT.ll_le_t hq) ho ht q
  · subst hf
    exact (q2 (by first | exact hq | exact Decidable.not_not.mp hq)).of1 fun t q => XS.ifNo X.here hx rfl (hb hby hd) rfl (Jvm.Free.XT.ll_le_f (by first | exact hq | exact Decidable.not_not.mp hq)) q
theorem Gl.ifnullY (Y : Sd Z own bs mx ret n0 p l e R s m args below meth c T h k n)  {o : Int} (hd : decode bs pc = .ok (.ifnull o, 3)) (ho : 0 ≤ (pc : Int) + o) (ht : ((pc : Int) + o).toNat = pcT) (q : Gl p e below P (T.setTop (mkF m pcT L S))) : Gl p e below P (T.setTop (mkF m pc L (.null :: S))) := by
  obtain ⟨locs, X, eT, N, hn0, hx, hZ, hown, hby, hml, hrt, hlk⟩ := Y
  exact q.of1 fun t q => XS.ifnullYes X.here hx rfl rfl (hb hby hd) rfl ho ht q
theorem Gl.ifnullN (Y : Sd Z own bs mx ret n0 p l e R s m args below meth c T h k n) {b : Addr} {o : Int} (hd : decode bs pc = .ok (.ifnull o, 3)) (hf : pc + 3 = pcF) (q : Gl p e below P (T.setTop (mkF m pcF L S))) : Gl p e below P (T.setTop (mkF m pc L (.ref b :: S))) := by
  obtain ⟨locs, X, eT, N, hn0, hx, hZ, hown, hby, hml, hrt, hlk⟩ := Y
  subst hf
  exact q.of1 fun t q => XS.ifnullNo X.here hx rfl (hb hby hd) rfl q
theorem Gl.ifnonnullY (Y : Sd Z own bs mx ret n0 p l e R s m args below meth c T h k n) {b : Addr} {o : Int} (hd : decode bs pc = .ok (.ifnonnull o, 3)) (ho : 0 ≤ (pc : Int) + o) (ht : ((pc : Int) + o).toNat = pcT) (q : Gl p e below P (T.setTop (mkF m pcT L S))) : Gl p e below P (T.setTop (mkF m pc L (.ref b :: S))) := by
  obtain ⟨locs, X, eT, N, hn0, hx, hZ, hown, hby, hml, hrt, hlk⟩ := Y
  exact q.of1 fun t q => XS.ifnonnullYes X.here hx rfl rfl (hb hby hd) rfl ho ht q
theorem Gl.ifnonnullN (Y : Sd Z own bs mx ret n0 p l e R s m args below meth c T h k n)  {o : Int} (hd : decode bs pc = .ok (.ifnonnull o, 3)) (hf : pc + 3 = pcF) (q : Gl p e below P (T.setTop (mkF m pcF L S))) : Gl p e below P (T.setTop (mkF m pc L (.null :: S))) := by
  obtain ⟨locs, X, eT, N, hn0, hx, hZ, hown, hby, hml, hrt, hlk⟩ := Y
  subst hf
  exact q.of1 fun t q => XS.ifnonnullNo X.here hx rfl (hb hby hd) rfl q
theorem Gl.acmpeq (Y : Sd Z own bs mx ret n0 p l e R s m args below meth c T h k n) {x y : Value} {o : Int} (h1 : x.isRef = true) (h2 : y.isRef = true) (hd : decode bs pc = .ok (.if_acmp .eq o, 3)) (ho : 0 ≤ (pc : Int) + o) (ht : ((pc : Int) + o).toNat = pcT) (hf : pc + 3 = pcF) (q1 : x = y → Gl p e below P (T.setTop (mkF m pcT L S))) (q2 : ¬ x = y → Gl p e below P (T.setTop (mkF m pcF L S))) : Gl p e below P (T.setTop (mkF m pc L (y :: x :: S))) := by
  obtain ⟨locs, X, eT, N, hn0, hx, hZ, hown, hby, hml, hrt, hlk⟩ := Y
  subst ht hf
  by_cases hq : x = y
  · exact (q1 hq).of1 fun t q => Jvm.RoadKit.acmp (g := mkF m pc L (y :: x :: S)) X hx rfl h1 h2 (pc0 := pc) (same := true) rfl (hb hby hd) rfl (decide_eq_true hq) ho rfl q
  · exact (q2 hq).of1 fun t q => Jvm.RoadKit.acmp (g := mkF m pc L (y :: x :: S)) X hx rfl h1 h2 (pc0 := pc) (same := false) rfl (hb hby hd) rfl (decide_eq_false hq) ho rfl q
theorem Gl.acmpne (Y : Sd Z own bs mx ret n0 p l e R s m args below meth c T h k n) {x y : Value} {o : Int} (h1 : x.isRef = true) (h2 : y.isRef = true) (hd : decode bs pc = .ok (.if_acmp .ne o, 3)) (ho : 0 ≤ (pc : Int) + o) (ht : ((pc : Int) + o).toNat = pcT) (hf : pc + 3 = pcF) (q1 : ¬ x = y → Gl p e below P (T.setTop (mkF m pcT L S))) (q2 : x = y → Gl p e below P (T.setTop (mkF m pcF L S))) : Gl p e below P (T.setTop (mkF m pc L (y :: x :: S))) := by
  obtain ⟨locs, X, eT, N, hn0, hx, hZ, hown, hby, hml, hrt, hlk⟩ := Y
  subst ht hf
  by_cases hq : x = y
  · exact (q2 hq).of1 fun t q => Jvm.RoadKit.acmp (g := mkF m pc L (y :: x :: S)) X hx rfl h1 h2 (pc0 := pc) (same := true) rfl (hb hby hd) rfl (decide_eq_true hq) ho rfl q
  · exact (q1 hq).of1 fun t q => Jvm.RoadKit.acmp (g := mkF m pc L (y :: x :: S)) X hx rfl h1 h2 (pc0 := pc) (same := false) rfl (hb hby hd) rfl (decide_eq_false hq) ho rfl q
theorem Gl.getF (Y : Sd Z own bs mx ret n0 p l e R s m args below meth c T h k n) {i : Nat} {R0 O f d host : String} {a : Addr} {v : Value} (w : (Jvm.Cond.fieldLink own i R0 f d).before a0 Z = true ∨ (Jvm.Cond.fieldLinkNest own i R0 f d host).before a0 Z = true) (via : Via Z R0 O f d) (F : Fld Z h a O f d v) (hd : decode bs pc = .ok (.getfield i, 3)) (hp : pc + 3 = pc') (q : ∀ T', Sd Z own bs mx ret n0 p l e R s m args below meth c T' h k n → Gl p e below P (T'.setTop (mkF m pc' L (v :: S)))) : Gl p e below P (T.setTop (mkF m pc L (.ref a :: S))) := by
  obtain ⟨locs, X, eT, N, hn0, hx, hZ, hown, hby, hml, hrt, hlk⟩ := Y
  subst hp
  obtain ⟨T', X', e', st⟩ := Jvm.RoadKit.getF X hx hZ hown w via eT F (g := mkF m pc L (.ref a :: S)) rfl rfl (hb hby hd)
  exact (q T' ⟨locs, X', e', N, hn0, hx, hZ, hown, hby, hml, hrt, hlk⟩).of1 st
theorem Gl.getS (Y : Sd Z own bs mx ret n0 p l e R s m args below meth c T h k n) {i : Nat} {R0 O f d host : String} {v : Value} (w : (Jvm.Cond.fieldLink own i R0 f d).before a0 Z = true ∨ (Jvm.Cond.fieldLinkNest own i R0 f d host).before a0 Z = true) (via : Via Z R0 O f d) (F : Sta Z h O f d v) (hd : decode bs pc = .ok (.getstatic i, 3)) (hp : pc + 3 = pc') (q : ∀ T', Sd Z own bs mx ret n0 p l e R s m args below meth c T' h k n → Gl p e below P (T'.setTop (mkF m pc' L (v :: S)))) : Gl p e below P (T.setTop (mkF m pc L S)) := by
  obtain ⟨locs, X, eT, N, hn0, hx, hZ, hown, hby, hml, hrt, hlk⟩ := Y
  subst hp
  obtain ⟨T', X', e', st⟩ := getS2 X hx hZ hown w via eT F (g := mkF m pc L S) rfl (hb hby hd)
  exact (q T' ⟨locs, X', e', N, hn0, hx, hZ, hown, hby, hml, hrt, hlk⟩).of1 st
theorem Gl.putF (Y : Sd Z own bs mx ret n0 p l e R s m args below meth c T h k n) {i kk : Nat} {R0 O f d host C : String} {ty : FieldType} {a : Addr} {v old : Value} (w : (Jvm.Cond.fieldLink own i R0 f d).before a0 Z = true ∨ (Jvm.Cond.fieldLinkNest own i R0 f d host).before a0 Z = true) (via : Via Z R0 O f d) (F : Fld Z h a O f d old) (E : Exa Z h a C) (Lw : (Jvm.Cond.lays C O f d).before a0 Z = true ∨ ((Jvm.Cond.laysFinal C O f d).before a0 Z = true ∧ own = O ∧ meth.name = "<init>")) (wi : (Jvm.Cond.instantiable C kk).before a0 Z = true) (ha : n0 ≤ a) (hty : parseFieldDescriptor d = some ty) (hn : narrow ty v = v) (hf : fits ty v = true) (hd : decode bs pc = .ok (.putfield i, 3)) (hp : pc + 3 = pc') (q : ∀ T' h', Sd Z own bs mx ret n0 p l e R s m args below meth c T' h' k n → Wr h h' a (Jvm.RoadKit.slotOf Z O f d) v → Gl p e below P (T'.setTop (mkF m pc' L S))) : Gl p e below P (T.setTop (mkF m pc L (v :: .ref a :: S))) := by
  obtain ⟨locs, X, eT, N, hn0, hx, hZ, hown, hby, hml, hrt, hlk⟩ := Y
  subst hp
  obtain ⟨T', h', X', e', W, st⟩ := Jvm.RoadKit.putF X hx hZ hown w via eT F E Lw wi hty hn hf (g := mkF m pc L (v :: .ref a :: S)) rfl rfl (hb hby hd)
  exact (q T' h' ⟨_, X', e', Fr.snoc X' N ha, hn0, hx, hZ, hown, hby, hml, hrt, hlk⟩ W).of1 st
theorem Gl.putFN (Y : Sd Z own bs mx ret n0 p l e R s m args below meth c T h k n) {i kk : Nat} {R0 O f d C : String} {ty : FieldType} {a : Addr} {v v' old : Value} (w : (Jvm.Cond.fieldLink own i R0 f d).before a0 Z = true) (via : Via Z R0 O f d) (F : Fld Z h a O f d old) (E : Exa Z h a C) (Lw : (Jvm.Cond.lays C O f d).before a0 Z = true ∨ ((Jvm.Cond.laysFinal C O f d).before a0 Z = true ∧ own = O ∧ meth.name = "<init>")) (wi : (Jvm.Cond.instantiable C kk).before a0 Z = true) (ha : n0 ≤ a) (hty : parseFieldDescriptor d = some ty) (hn : narrow ty v = v') (hf : fits ty v' = true) (hd : decode bs pc = .ok (.putfield i, 3)) (hp : pc + 3 = pc') (q : ∀ T' h', Sd Z own bs mx ret n0 p l e R s m args below meth c T' h' k n → Wr h h' a (Jvm.RoadKit.slotOf Z O f d) v' → Gl p e below P (T'.setTop (mkF m pc' L S))) : Gl p e below P (T.setTop (mkF m pc L (v :: .ref a :: S))) := by
  obtain ⟨locs, X, eT, N, hn0, hx, hZ, hown, hby, hml, hrt, hlk⟩ := Y
  subst hp
  obtain ⟨T', h', X', e', W, st⟩ := Jvm.RoadKit.putFN X hx hZ hown w via eT F E Lw wi hty hn hf (g := mkF m pc L (v :: .ref a :: S)) rfl rfl (hb hby hd)
  exact (q T' h' ⟨_, X', e', Fr.snoc X' N ha, hn0, hx, hZ, hown, hby, hml, hrt, hlk⟩ W).of1 st
theorem Gl.newO (Y : Sd Z own bs mx ret n0 p l e R s m args below meth c T h k n) {i sl : Nat} {C : String} (w : (Jvm.Cond.classLink own i C).before a0 Z = true) (wi : (Jvm.Cond.instantiable C sl).before a0 Z = true) (wz : (Jvm.Cond.initialized C).before a0 Z = true) (hc : k + 1 ≤ R.cells) (hl : n + sl ≤ R.slots) (hd : decode bs pc = .ok (.new i, 3)) (hp : pc + 3 = pc') (q : ∀ T' h' b, Sd Z own bs mx ret n0 p l e R s m args below meth c T' h' (k + 1) (n + sl) → Ext h h' → b = h.size → n0 ≤ b → Exa Z h' b C → (∀ {O nm d : String} {ty : FieldType}, Laid Z a0 C O nm d → parseFieldDescriptor d = some ty → Fld Z h' b O nm d (defaultValue ty)) → Gl p e below P (T'.setTop (mkF m pc' L (.ref b :: S)))) : Gl p e below P (T.setTop (mkF m pc L S)) := by
  obtain ⟨locs, X, eT, N, hn0, hx, hZ, hown, hby, hml, hrt, hlk⟩ := Y
  subst hp
  obtain ⟨T', h', X', e', E, A, D, -, st⟩ := Jvm.RoadKit.newO X hx hZ hown w wi wz eT (g := mkF m pc L S) rfl (hb hby hd) hc hl
  exact (q T' h' h.size ⟨locs, X', e', N, hn0, hx, hZ, hown, hby, hml, hrt, hlk⟩ E rfl (eT ▸ Nat.le_trans hn0 (own_grow X)) A D).of1 st
theorem Gl.newP (Y : Sd Z own bs mx ret n0 p l e R s m args below meth c T h k n) {aty : ArrayType} {ty : FieldType} {z : Int32} (cap : Nat) (hat : newarray.typeOf aty = ty) (w : (Jvm.Cond.arrayClass ty).before a0 Z = true) (hz : ¬ z < 0) (hcap : z.toNatClampNeg ≤ cap) (hcb : cap * 8 ≤ 536870912) (hc : k + 1 ≤ R.cells) (hl : n + cap ≤ R.slots) (hd : decode bs pc = .ok (.newarray aty, 2)) (hp : pc + 2 = pc') (q : ∀ T' h' b ck, Sd Z own bs mx ret n0 p l e R s m args below meth c T' h' (k + 1) (n + cap) → Ext h h' → b = h.size → n0 ≤ b → Arv Z h' b ck ty z [] (defaultValue ty) → Gl p e below P (T'.setTop (mkF m pc' L (.ref b :: S)))) : Gl p e below P (T.setTop (mkF m pc L (.int z :: S))) := by
  obtain ⟨locs, X, eT, N, hn0, hx, hZ, hown, hby, hml, hrt, hlk⟩ := Y
  subst hp hat
  obtain ⟨T', h', ck, X', e', E, A, st⟩ := Jvm.RoadKit.newP X hx hZ w eT (g := mkF m pc L (.int z :: S)) rfl (hb hby hd) rfl hz hcap hcb hc hl
  exact (q T' h' h.size ck ⟨locs, X', e', N, hn0, hx, hZ, hown, hby, hml, hrt, hlk⟩ E rfl (eT ▸ Nat.le_trans hn0 (own_grow X)) (Arv.new A hz)).of1 st
theorem Gl.iastore (Y : Sd Z own bs mx ret n0 p l e R s m args below meth c T h k n) {a : Addr} {ck : ClassId} {z j : Int32} {x : Int32} {vs : List Value} {d v : Value} {ix : Nat} (F : Arv Z h a ck .int z vs d) (hv : .int x = v) (hj : ¬ j < 0 ∧ j < z) (hjx : j.toNatClampNeg = ix) (hlen : ix < vs.length) (ha : n0 ≤ a) (hd : decode bs pc = .ok (.iastore, 1)) (hp : pc + 1 = pc') (q : ∀ T' h', Sd Z own bs mx ret n0 p l e R s m args below meth c T' h' k n → Wr h h' a ix v → Arv Z h' a ck .int z (vs.set ix v) d → Gl p e below P (T'.setTop (mkF m pc' L S))) : Gl p e below P (T.setTop (mkF m pc L (.int x :: .int j :: .ref a :: S))) := by
  obtain ⟨locs, X, eT, N, hn0, hx, hZ, hown, hby, hml, hrt, hlk⟩ := Y
  subst hp hv hjx
  obtain ⟨cl, A, C1, S1, N1, H, Gf⟩ := F
  obtain ⟨T', h', X', e', W, st⟩ := stI X hx hZ eT A (inb_of S1 hj) (g := mkF m pc L (.int x :: .int j :: .ref a :: S)) rfl rfl (hb hby hd)
  exact (q T' h' ⟨_, X', e', Fr.snoc X' N ha, hn0, hx, hZ, hown, hby, hml, hrt, hlk⟩ W (Arv.set A C1 S1 N1 H Gf rfl W _ rfl hlen)).of1 st
theorem Gl.lastore (Y : Sd Z own bs mx ret n0 p l e R s m args below meth c T h k n) {a : Addr} {ck : ClassId} {z j : Int32} {x : Int64} {vs : List Value} {d v : Value} {ix : Nat} (F : Arv Z h a ck .long z vs d) (hv : .long x = v) (hj : ¬ j < 0 ∧ j < z) (hjx : j.toNatClampNeg = ix) (hlen : ix < vs.length) (ha : n0 ≤ a) (hd : decode bs pc = .ok (.lastore, 1)) (hp : pc + 1 = pc') (q : ∀ T' h', Sd Z own bs mx ret n0 p l e R s m args below meth c T' h' k n → Wr h h' a ix v → Arv Z h' a ck .long z (vs.set ix v) d → Gl p e below P (T'.setTop (mkF m pc' L S))) : Gl p e below P (T.setTop (mkF m pc L (.long x :: .int j :: .ref a :: S))) := by
  obtain ⟨locs, X, eT, N, hn0, hx, hZ, hown, hby, hml, hrt, hlk⟩ := Y
  subst hp hv hjx
  obtain ⟨cl, A, C1, S1, N1, H, Gf⟩ := F
  obtain ⟨T', h', X', e', W, st⟩ := stJ X hx hZ eT A (inb_of S1 hj) (g := mkF m pc L (.long x :: .int j :: .ref a :: S)) rfl rfl (hb hby hd)
  exact (q T' h' ⟨_, X', e', Fr.snoc X' N ha, hn0, hx, hZ, hown, hby, hml, hrt, hlk⟩ W (Arv.set A C1 S1 N1 H Gf rfl W _ rfl hlen)).of1 st
theorem Gl.castore (Y : Sd Z own bs mx ret n0 p l e R s m args below meth c T h k n) {a : Addr} {ck : ClassId} {z j : Int32} {x : Int32} {vs : List Value} {d v : Value} {ix : Nat} (F : Arv Z h a ck .char z vs d) (hv : .int (nar .char x) = v) (hj : ¬ j < 0 ∧ j < z) (hjx : j.toNatClampNeg = ix) (hlen : ix < vs.length) (ha : n0 ≤ a) (hd : decode bs pc = .ok (.castore, 1)) (hp : pc + 1 = pc') (q : ∀ T' h', Sd Z own bs mx ret n0 p l e R s m args below meth c T' h' k n → Wr h h' a ix v → Arv Z h' a ck .char z (vs.set ix v) d → Gl p e below P (T'.setTop (mkF m pc' L S))) : Gl p e below P (T.setTop (mkF m pc L (.int x :: .int j :: .ref a :: S))) := by
  obtain ⟨locs, X, eT, N, hn0, hx, hZ, hown, hby, hml, hrt, hlk⟩ := Y
  subst hp hv hjx
  obtain ⟨cl, A, C1, S1, N1, H, Gf⟩ := F
  obtain ⟨T', h', X', e', W, st⟩ := stC X hx hZ eT A (inb_of S1 hj) (g := mkF m pc L (.int x :: .int j :: .ref a :: S)) rfl rfl (hb hby hd)
  exact (q T' h' ⟨_, X', e', Fr.snoc X' N ha, hn0, hx, hZ, hown, hby, hml, hrt, hlk⟩ W (Arv.set A C1 S1 N1 H Gf (fits_nar_char _) W _ rfl hlen)).of1 st
theorem Gl.sastore (Y : Sd Z own bs mx ret n0 p l e R s m args below meth c T h k n) {a : Addr} {ck : ClassId} {z j : Int32} {x : Int32} {vs : List Value} {d v : Value} {ix : Nat} (F : Arv Z h a ck .short z vs d) (hv : .int (nar .short x) = v) (hj : ¬ j < 0 ∧ j < z) (hjx : j.toNatClampNeg = ix) (hlen : ix < vs.length) (ha : n0 ≤ a) (hd : decode bs pc = .ok (.sastore, 1)) (hp : pc + 1 = pc') (q : ∀ T' h', Sd Z own bs mx ret n0 p l e R s m args below meth c T' h' k n → Wr h h' a ix v → Arv Z h' a ck .short z (vs.set ix v) d → Gl p e below P (T'.setTop (mkF m pc' L S))) : Gl p e below P (T.setTop (mkF m pc L (.int x :: .int j :: .ref a :: S))) := by
  obtain ⟨locs, X, eT, N, hn0, hx, hZ, hown, hby, hml, hrt, hlk⟩ := Y
  subst hp hv hjx
  obtain ⟨cl, A, C1, S1, N1, H, Gf⟩ := F
  obtain ⟨T', h', X', e', W, st⟩ := stS X hx hZ eT A (inb_of S1 hj) (g := mkF m pc L (.int x :: .int j :: .ref a :: S)) rfl rfl (hb hby hd)
  exact (q T' h' ⟨_, X', e', Fr.snoc X' N ha, hn0, hx, hZ, hown, hby, hml, hrt, hlk⟩ W (Arv.set A C1 S1 N1 H Gf (fits_nar_short _) W _ rfl hlen)).of1 st
theorem Gl.bastore (Y : Sd Z own bs mx ret n0 p l e R s m args below meth c T h k n) {a : Addr} {ck : ClassId} {z j : Int32} {x : Int32} {vs : List Value} {d v : Value} {ix : Nat} (F : Arv Z h a ck .byte z vs d) (hv : .int (nar .byte x) = v) (hj : ¬ j < 0 ∧ j < z) (hjx : j.toNatClampNeg = ix) (hlen : ix < vs.length) (ha : n0 ≤ a) (hd : decode bs pc = .ok (.bastore, 1)) (hp : pc + 1 = pc') (q : ∀ T' h', Sd Z own bs mx ret n0 p l e R s m args below meth c T' h' k n → Wr h h' a ix v → Arv Z h' a ck .byte z (vs.set ix v) d → Gl p e below P (T'.setTop (mkF m pc' L S))) : Gl p e below P (T.setTop (mkF m pc L (.int x :: .int j :: .ref a :: S))) := by
  obtain ⟨locs, X, eT, N, hn0, hx, hZ, hown, hby, hml, hrt, hlk⟩ := Y
  subst hp hv hjx
  obtain ⟨cl, A, C1, S1, N1, H, Gf⟩ := F
  obtain ⟨T', h', X', e', W, st⟩ := stB X hx hZ eT A (inb_of S1 hj) (g := mkF m pc L (.int x :: .int j :: .ref a :: S)) rfl rfl (hb hby hd)
  exact (q T' h' ⟨_, X', e', Fr.snoc X' N ha, hn0, hx, hZ, hown, hby, hml, hrt, hlk⟩ W (Arv.set A C1 S1 N1 H Gf (fits_nar_byte _) W _ rfl hlen)).of1 st
theorem Gl.initO (Y : Sd Z own bs mx ret n0 p l e R s m args below meth c T h k n) {i : Nat} {a : Addr} (w1 : (Jvm.Cond.methodLink own i Lib.objectInit).before a0 Z = true) (w2 : (Jvm.Cond.instanceMethod Lib.objectInit).before a0 Z = true) (w3 : (Jvm.Cond.code Lib.objectInit ⟨#[0xb1]⟩ 1 none).before a0 Z = true) (hL : L.size = mx) (hf : 1 ≤ R.frames) (hl : (S.map fun v => v.category).sum + 12 ≤ R.locals) (hd : decode bs pc = .ok (.invokespecial i, 3)) (hp : pc + 3 = pc') (q : ∀ T', Sd Z own bs mx ret n0 p l e R s m args below meth c T' h k n → Gl p e below P (T'.setTop (mkF m pc' L S))) : Gl p e below P (T.setTop (mkF m pc L (.ref a :: S))) := by
  obtain ⟨locs, X, eT, N, hn0, hx, hZ, hown, hby, hml, hrt, hlk⟩ := Y
  subst hp
  obtain ⟨T', X', e', st⟩ := Jvm.RoadKit.initO X hx hZ hown w1 w2 w3 eT (g := mkF m pc L (.ref a :: S)) rfl (by rw [hml]; exact hL) rfl (hb hby hd) hf (W := (S.map fun v => v.category).sum) (by show 2 * 0 + _ ≤ _; omega) hl
  exact (q T' ⟨locs, X', e', N, hn0, hx, hZ, hown, hby, hml, hrt, hlk⟩).of1 st
theorem Gl.castY (Y : Sd Z own bs mx ret n0 p l e R s m args below meth c T h k n) {i : Nat} {K : String} {a : Addr} (w : (Jvm.Cond.classLink own i K).before a0 Z = true) (F : Ins Z h a K true) (hd : decode bs pc = .ok (.checkcast i, 3)) (hp : pc + 3 = pc') (q : ∀ T', Sd Z own bs mx ret n0 p l e R s m args below meth c T' h k n → Gl p e below P (T'.setTop (mkF m pc' L (.ref a :: S)))) : Gl p e below P (T.setTop (mkF m pc L (.ref a :: S))) := by
  obtain ⟨locs, X, eT, N, hn0, hx, hZ, hown, hby, hml, hrt, hlk⟩ := Y
  subst hp
  obtain ⟨T', X', e', st⟩ := Jvm.RoadKit.castY X hx hZ hown w eT F (g := mkF m pc L (.ref a :: S)) rfl rfl (hb hby hd)
  exact (q T' ⟨locs, X', e', N, hn0, hx, hZ, hown, hby, hml, hrt, hlk⟩).of1 st
theorem Gl.instY (Y : Sd Z own bs mx ret n0 p l e R s m args below meth c T h k n) {i : Nat} {K : String} {a : Addr} (w : (Jvm.Cond.classLink own i K).before a0 Z = true) (F : Ins Z h a K true) (hd : decode bs pc = .ok (.instanceof i, 3)) (hp : pc + 3 = pc') (q : ∀ T', Sd Z own bs mx ret n0 p l e R s m args below meth c T' h k n → Gl p e below P (T'.setTop (mkF m pc' L (.int 1 :: S)))) : Gl p e below P (T.setTop (mkF m pc L (.ref a :: S))) := by
  obtain ⟨locs, X, eT, N, hn0, hx, hZ, hown, hby, hml, hrt, hlk⟩ := Y
  subst hp
  obtain ⟨T', X', e', st⟩ := Jvm.RoadKit.instY X hx hZ hown w eT F (g := mkF m pc L (.ref a :: S)) rfl rfl (hb hby hd)
  exact (q T' ⟨locs, X', e', N, hn0, hx, hZ, hown, hby, hml, hrt, hlk⟩).of1 st
theorem Gl.instNo (Y : Sd Z own bs mx ret n0 p l e R s m args below meth c T h k n) {i : Nat} {K C : String} {a : Addr} (w : (Jvm.Cond.classLink own i K).before a0 Z = true) (E : Exa Z h a C) (F : ∃ c t, Z.vm.findClass C = some c ∧ Z.vm.findClass K = some t ∧ Z.vm.assignable c t = false) (hd : decode bs pc = .ok (.instanceof i, 3)) (hp : pc + 3 = pc') (q : ∀ T', Sd Z own bs mx ret n0 p l e R s m args below meth c T' h k n → Gl p e below P (T'.setTop (mkF m pc' L (.int 0 :: S)))) : Gl p e below P (T.setTop (mkF m pc L (.ref a :: S))) := by
  obtain ⟨locs, X, eT, N, hn0, hx, hZ, hown, hby, hml, hrt, hlk⟩ := Y
  subst hp
  obtain ⟨T', X', e', st⟩ := Jvm.RoadKit.instNo X hx hZ hown w eT E F (g := mkF m pc L (.ref a :: S)) rfl rfl (hb hby hd)
  exact (q T' ⟨locs, X', e', N, hn0, hx, hZ, hown, hby, hml, hrt, hlk⟩).of1 st
theorem Gl.castNull (Y : Sd Z own bs mx ret n0 p l e R s m args below meth c T h k n) {i : Nat} (hd : decode bs pc = .ok (.checkcast i, 3)) (hp : pc + 3 = pc') (q : Gl p e below P (T.setTop (mkF m pc' L (.null :: S)))) : Gl p e below P (T.setTop (mkF m pc L (.null :: S))) := by
  obtain ⟨locs, X, eT, N, hn0, hx, hZ, hown, hby, hml, hrt, hlk⟩ := Y
  subst hp
  exact q.of1 fun t q => X.checkcastNull hx (g := mkF m pc L (.null :: S)) rfl rfl (hb hby hd) t q
theorem Gl.instNull (Y : Sd Z own bs mx ret n0 p l e R s m args below meth c T h k n) {i : Nat} (hd : decode bs pc = .ok (.instanceof i, 3)) (hp : pc + 3 = pc') (q : Gl p e below P (T.setTop (mkF m pc' L (.int 0 :: S)))) : Gl p e below P (T.setTop (mkF m pc L (.null :: S))) := by
  obtain ⟨locs, X, eT, N, hn0, hx, hZ, hown, hby, hml, hrt, hlk⟩ := Y
  subst hp
  exact q.of1 fun t q => X.instanceofNull hx (g := mkF m pc L (.null :: S)) rfl rfl (hb hby hd) t q
theorem Gl.newR (Y : Sd Z own bs mx ret n0 p l e R s m args below meth c T h k n) {i : Nat} {C : String} {z : Int32} (cap : Nat) (w1 : (Jvm.Cond.classLink own i C).before a0 Z = true) (w2 : (Jvm.Cond.arrayOver (.object C)).before a0 Z = true) (hz : ¬ z < 0) (hcap : z.toNatClampNeg ≤ cap) (hcb : cap * 8 ≤ 536870912) (hc : k + 1 ≤ R.cells) (hl : n + cap ≤ R.slots) (hd : decode bs pc = .ok (.anewarray i, 3)) (hp : pc + 3 = pc') (q : ∀ T' h' b ck, Sd Z own bs mx ret n0 p l e R s m args below meth c T' h' (k + 1) (n + cap) → Ext h h' → b = h.size → n0 ≤ b → Arv Z h' b ck (.object C) z [] .null → Gl p e below P (T'.setTop (mkF m pc' L (.ref b :: S)))) : Gl p e below P (T.setTop (mkF m pc L (.int z :: S))) := by
  obtain ⟨locs, X, eT, N, hn0, hx, hZ, hown, hby, hml, hrt, hlk⟩ := Y
  subst hp
  obtain ⟨T', h', ck, X', e', E, A, -, st⟩ := Jvm.RoadKit.newR X hx hZ hown w1 w2 eT (g := mkF m pc L (.int z :: S)) rfl (hb hby hd) rfl hz hcap hcb hc hl
  exact (q T' h' h.size ck ⟨locs, X', e', N, hn0, hx, hZ, hown, hby, hml, hrt, hlk⟩ E rfl (eT ▸ Nat.le_trans hn0 (own_grow X)) (Arv.new A hz)).of1 st
theorem Gl.callS (Y : Sd Z own bs mx ret n0 p l e R s m args below meth c T h k n) {y : MethodName} {bs2 : ByteArray} {mx2 : Nat} {ret2 : Option FieldType} {rm : Room} {as : Array Value} {Q : Option Value → Heap → Prop} {i : Nat} {argsL rest : List Value} (w1 : (Jvm.Cond.methodLink own i y).before a0 Z = true) (w2 : (Jvm.Cond.static y).before a0 Z = true) (w3 : (Jvm.Cond.initialized y.cls).before a0 Z = true) (w4 : (Jvm.Cond.code y bs2 mx2 ret2).before a0 Z = true) (hy : y.cls ≠ "java/lang/invoke/MethodHandle" ∧ y.cls ≠ "java/lang/invoke/VarHandle") (hM : OMet l Z [] y bs2 mx2 ret2 rm as h n0 Q) (has : argsL.toArray = as) (hS : S = argsL.reverse ++ rest) (hlen : ∀ sig, parseMethodDescriptor y.desc = some sig → argsL.length = sig.parameters.length) (hL : L.size = mx) (hf : rm.frames + 1 ≤ R.frames) (hl : (rest.map fun v => v.category).sum + (mx2 + 11) + rm.locals ≤ R.locals) (hc : k + rm.cells ≤ R.cells) (hs : n + rm.slots ≤ R.slots) (hd : decode bs pc = .ok (.invokestatic i, 3)) (hp : pc + 3 = pc') (q : ∀ v T' h', Sd Z own bs mx ret n0 p l e R s m args below meth c T' h' (k + rm.cells) (n + rm.slots) → Q v h' → Gl p e below P (T'.setTop (mkF m pc' L (v.toList ++ rest)))) : Gl p e below P (T.setTop (mkF m pc L S)) := by
  obtain ⟨locs, X, eT, N, hn0, hx, hZ, hown, hby, hml, hrt, hlk⟩ := Y
  subst hp has hS
  obtain ⟨v, vm₁, ⟨T', L', k', n'⟩, -, X', hB, st⟩ := Jvm.LawKit.callS X hx (y := y) hown (mvT hZ w1) (mvT hZ w2) (mvT hZ w3) (mvT hZ w4) hy (backOf (Q := fun v h' L => Q v h' ∧ Fr n0 L) (W := (rest.map fun v => v.category).sum) (OMet.un hM) hZ w4 w3 hf hl) (g := mkF m pc L (argsL.reverse ++ rest)) rfl (by rw [hml]; exact hL) (argsL := argsL) (rest := rest) hlen rfl (by show 2 * 0 + _ ≤ _; omega) (hb hby hd) (fun _ _ => ⟨rfl, eT, hc, hs⟩)
  obtain ⟨Lc, ⟨hQ, NL⟩, l1, l2, l3⟩ := hB
  dsimp only [Pt.U, Pt.locs, Pt.cells, Pt.slots] at X' l1 l2 l3 st hQ
  subst l1 l2 l3
  exact (q v T' T'.heap ⟨_, X', rfl, Fr.app N NL, hn0, hx, hZ, hown, hby, hml, hrt, hlk⟩ hQ).of1 st
theorem Gl.callN (Y : Sd Z own bs mx ret n0 p l e R s m args below meth c T h k n) {y : MethodName} {bs2 : ByteArray} {mx2 : Nat} {rm : Room} {as : Array Value} {Q : Option Value → Heap → Prop} {i : Nat} {argsL rest : List Value} {a : Addr} (hy1 : y.name = "<init>") (w1 : (Jvm.Cond.methodLink own i y).before a0 Z = true) (w2 : (Jvm.Cond.instanceMethod y).before a0 Z = true) (w3 : (Jvm.Cond.initialized y.cls).before a0 Z = true) (w4 : (Jvm.Cond.code y bs2 mx2 none).before a0 Z = true) (hy : y.cls ≠ "java/lang/invoke/MethodHandle" ∧ y.cls ≠ "java/lang/invoke/VarHandle") (hM : OMet l Z [] y bs2 mx2 none rm as h n0 Q) (has : (.ref a :: argsL).toArray = as) (hS : S = argsL.reverse ++ .ref a :: rest) (hlen : ∀ sig, parseMethodDescriptor y.desc = some sig → argsL.length = sig.parameters.length) (hL : L.size = mx) (hf : rm.frames + 1 ≤ R.frames) (hl : (rest.map fun v => v.category).sum + (mx2 + 11) + rm.locals ≤ R.locals) (hc : k + rm.cells ≤ R.cells) (hs : n + rm.slots ≤ R.slots) (hd : decode bs pc = .ok (.invokespecial i, 3)) (hp : pc + 3 = pc') (q : ∀ v T' h', Sd Z own bs mx ret n0 p l e R s m args below meth c T' h' (k + rm.cells) (n + rm.slots) → Q v h' → Gl p e below P (T'.setTop (mkF m pc' L (v.toList ++ rest)))) : Gl p e below P (T.setTop (mkF m pc L S)) := by
  obtain ⟨locs, X, eT, N, hn0, hx, hZ, hown, hby, hml, hrt, hlk⟩ := Y
  subst hp has hS
  obtain ⟨v, vm₁, ⟨T', L', k', n'⟩, -, X', hB, st⟩ := X.specialBack hx (y := y) hy1 hown (mvT hZ w1) (mvT hZ w2) (mvT hZ w4) hy (backOf (Q := fun v h' L => Q v h' ∧ Fr n0 L) (W := (rest.map fun v => v.category).sum) (OMet.un hM) hZ w4 w3 hf hl) (g := mkF m pc L (argsL.reverse ++ .ref a :: rest)) rfl (by rw [hml]; exact hL) (Steps.refl _) (a := a) (argsL := argsL) (rest := rest) hlen rfl (by show 2 * 0 + _ ≤ _; omega) (hb hby hd) (fun _ _ => ⟨rfl, eT, hc, hs⟩)
  obtain ⟨Lc, ⟨hQ, NL⟩, l1, l2, l3⟩ := hB
  dsimp only [Pt.U, Pt.locs, Pt.cells, Pt.slots] at X' l1 l2 l3 st hQ
  subst l1 l2 l3
  exact Gl.via st (q v T' T'.heap ⟨_, X', rfl, Fr.app N NL, hn0, hx, hZ, hown, hby, hml, hrt, hlk⟩ hQ)
theorem Gl.callV (Y : Sd Z own bs mx ret n0 p l e R s m args below meth c T h k n) {y : MethodName} {bs2 : ByteArray} {mx2 : Nat} {ret2 : Option FieldType} {rm : Room} {as : Array Value} {Q : Option Value → Heap → Prop} {i : Nat} {z : MethodName} {C : String} {argsL rest : List Value} {a : Addr} (w1 : (Jvm.Cond.methodLink own i z).before a0 Z = true) (wd : (Jvm.Cond.declares z).before a0 Z = true) (ws0 : (Jvm.Cond.selects z.cls z z).before a0 Z = true) (ws : (Jvm.Cond.selects C z y).before a0 Z = true) (w2 : (Jvm.Cond.instanceMethod y).before a0 Z = true) (w3 : (Jvm.Cond.initialized y.cls).before a0 Z = true) (w4 : (Jvm.Cond.code y bs2 mx2 ret2).before a0 Z = true) (hy : z.cls ≠ "java/lang/invoke/MethodHandle" ∧ z.cls ≠ "java/lang/invoke/VarHandle") (E : Exa Z h a C) (hM : OMet l Z [] y bs2 mx2 ret2 rm as h n0 Q) (has : (.ref a :: argsL).toArray = as) (hS : S = argsL.reverse ++ .ref a :: rest) (hlen : ∀ sig, parseMethodDescriptor z.desc = some sig → argsL.length = sig.parameters.length) (hL : L.size = mx) (hf : rm.frames + 1 ≤ R.frames) (hl : (rest.map fun v => v.category).sum + (mx2 + 11) + rm.locals ≤ R.locals) (hc : k + rm.cells ≤ R.cells) (hs : n + rm.slots ≤ R.slots) (hd : decode bs pc = .ok (.invokevirtual i, 3)) (hp : pc + 3 = pc') (q : ∀ v T' h', Sd Z own bs mx ret n0 p l e R s m args below meth c T' h' (k + rm.cells) (n + rm.slots) → Q v h' → Gl p e below P (T'.setTop (mkF m pc' L (v.toList ++ rest)))) : Gl p e below P (T.setTop (mkF m pc L S)) := by
  obtain ⟨locs, X, eT, N, hn0, hx, hZ, hown, hby, hml, hrt, hlk⟩ := Y
  subst hp has hS
  obtain ⟨cq, kq, qa, qb, qc⟩ := isOf hZ eT E
  obtain ⟨v, vm₁, ⟨T', L', k', n'⟩, -, X', hB, st⟩ := X.virtualBack hx (y := z) (z := y) hown (mvT hZ w1) (mvT hZ wd) (notFace_of_selects (args := #[]) (mvT hZ ws0)) (mvT hZ ws) (mvT hZ w2) hy (backOf (Q := fun v h' L => Q v h' ∧ Fr n0 L) (W := (rest.map fun v => v.category).sum) (OMet.un hM) hZ w4 w3 hf hl) qa qc (g := mkF m pc L (argsL.reverse ++ .ref a :: rest)) rfl (by rw [hml]; exact hL) (Steps.refl _) (argsL := argsL) (rest := rest) hlen rfl (by show 2 * 0 + _ ≤ _; omega) (hb hby hd) (fun _ _ => ⟨rfl, eT, hc, hs⟩)
  obtain ⟨Lc, ⟨hQ, NL⟩, l1, l2, l3⟩ := hB
  dsimp only [Pt.U, Pt.locs, Pt.cells, Pt.slots] at X' l1 l2 l3 st hQ
  subst l1 l2 l3
  exact Gl.via st (q v T' T'.heap ⟨_, X', rfl, Fr.app N NL, hn0, hx, hZ, hown, hby, hml, hrt, hlk⟩ hQ)
theorem Gl.callP (Y : Sd Z own bs mx ret n0 p l e R s m args below meth c T h k n) {y : MethodName} {bs2 : ByteArray} {mx2 : Nat} {ret2 : Option FieldType} {rm : Room} {as : Array Value} {Q : Option Value → Heap → Prop} {i : Nat} {C : String} {kk : Nat} {argsL rest : List Value} {a : Addr} (w1 : (Jvm.Cond.methodLink own i y).before a0 Z = true) (w2 : (Jvm.Cond.instanceMethod y).before a0 Z = true) (wp : (Jvm.Cond.privateMethod y).before a0 Z = true) (wi : (Jvm.Cond.instantiable y.cls kk).before a0 Z = true) (w3 : (Jvm.Cond.initialized y.cls).before a0 Z = true) (w4 : (Jvm.Cond.code y bs2 mx2 ret2).before a0 Z = true) (hy : y.cls ≠ "java/lang/invoke/MethodHandle" ∧ y.cls ≠ "java/lang/invoke/VarHandle") (E : Exa Z h a C) (hM : OMet l Z [] y bs2 mx2 ret2 rm as h n0 Q) (has : (.ref a :: argsL).toArray = as) (hS : S = argsL.reverse ++ .ref a :: rest) (hlen : ∀ sig, parseMethodDescriptor y.desc = some sig → argsL.length = sig.parameters.length) (hL : L.size = mx) (hf : rm.frames + 1 ≤ R.frames) (hl : (rest.map fun v => v.category).sum + (mx2 + 11) + rm.locals ≤ R.locals) (hc : k + rm.cells ≤ R.cells) (hs : n + rm.slots ≤ R.slots) (hd : decode bs pc = .ok (.invokevirtual i, 3)) (hp : pc + 3 = pc') (q : ∀ v T' h', Sd Z own bs mx ret n0 p l e R s m args below meth c T' h' (k + rm.cells) (n + rm.slots) → Q v h' → Gl p e below P (T'.setTop (mkF m pc' L (v.toList ++ rest)))) : Gl p e below P (T.setTop (mkF m pc L S)) := by
  obtain ⟨locs, X, eT, N, hn0, hx, hZ, hown, hby, hml, hrt, hlk⟩ := Y
  subst hp has hS
  obtain ⟨cq, qa, qb⟩ := E.cell
  have hpr := Cond.privateMethod_at (mvP hZ wp (args := #[]))
  obtain ⟨c1, k1, i1, i2, -, i4, -⟩ := Cond.instantiable_spec (mv (args := args) hZ wi)
  have i5 : k1.isInterface = false := by cases hi : k1.isInterface <;> simp [hi] at i4 ⊢
  have hsel := selects_self_of_private (args := args) i1 i2 i5 hpr (mvT hZ w2) hy
  obtain ⟨v, vm₁, ⟨T', L', k', n'⟩, -, X', hB, st⟩ := X.privateBack hx (y := y) hown (mvT hZ w1) (mvT hZ w2) hsel hpr (mvT hZ w4) hy (backOf (Q := fun v h' L => Q v h' ∧ Fr n0 L) (W := (rest.map fun v => v.category).sum) (OMet.un hM) hZ w4 w3 hf hl) (g := mkF m pc L (argsL.reverse ++ .ref a :: rest)) rfl (by rw [hml]; exact hL) (Steps.refl _) (a := a) (by rw [eT]; exact qa) qb (argsL := argsL) (rest := rest) hlen rfl (by show 2 * 0 + _ ≤ _; omega) (hb hby hd) (fun _ _ => ⟨rfl, eT, hc, hs⟩)
  obtain ⟨Lc, ⟨hQ, NL⟩, l1, l2, l3⟩ := hB
  dsimp only [Pt.U, Pt.locs, Pt.cells, Pt.slots] at X' l1 l2 l3 st hQ
  subst l1 l2 l3
  exact Gl.via st (q v T' T'.heap ⟨_, X', rfl, Fr.app N NL, hn0, hx, hZ, hown, hby, hml, hrt, hlk⟩ hQ)
theorem Gl.callNN (Y : Sd Z own bs mx ret n0 p l e R s m args below meth c T h k n) {y : MethodName} {bs2 : ByteArray} {mx2 : Nat} {rm : Room} {as : Array Value} {Q : Option Value → Heap → Prop} {i : Nat} {argsL rest : List Value} {host : String} {a : Addr} (hy1 : y.name = "<init>") (w1 : (Jvm.Cond.methodLinkNest own i y host).before a0 Z = true) (w2 : (Jvm.Cond.instanceMethod y).before a0 Z = true) (w3 : (Jvm.Cond.initialized y.cls).before a0 Z = true) (w4 : (Jvm.Cond.code y bs2 mx2 none).before a0 Z = true) (hy : y.cls ≠ "java/lang/invoke/MethodHandle" ∧ y.cls ≠ "java/lang/invoke/VarHandle") (hM : OMet l Z [] y bs2 mx2 none rm as h n0 Q) (has : (.ref a :: argsL).toArray = as) (hS : S = argsL.reverse ++ .ref a :: rest) (hlen : ∀ sig, parseMethodDescriptor y.desc = some sig → argsL.length = sig.parameters.length) (hL : L.size = mx) (hf : rm.frames + 1 ≤ R.frames) (hl : (rest.map fun v => v.category).sum + (mx2 + 11) + rm.locals ≤ R.locals) (hc : k + rm.cells ≤ R.cells) (hs : n + rm.slots ≤ R.slots) (hd : decode bs pc = .ok (.invokespecial i, 3)) (hp : pc + 3 = pc') (q : ∀ v T' h', Sd Z own bs mx ret n0 p l e R s m args below meth c T' h' (k + rm.cells) (n + rm.slots) → Q v h' → Gl p e below P (T'.setTop (mkF m pc' L (v.toList ++ rest)))) : Gl p e below P (T.setTop (mkF m pc L S)) := by
  obtain ⟨locs, X, eT, N, hn0, hx, hZ, hown, hby, hml, hrt, hlk⟩ := Y
  subst hp has hS
  obtain ⟨v, vm₁, ⟨T', L', k', n'⟩, -, X', hB, st⟩ := X.specialBackNest hx (y := y) hy1 hown (Cond.methodLinkNest_wide hZ w1 :) (mvT hZ w2) (mvT hZ w4) hy (backOf (Q := fun v h' L => Q v h' ∧ Fr n0 L) (W := (rest.map fun v => v.category).sum) (OMet.un hM) hZ w4 w3 hf hl) (g := mkF m pc L (argsL.reverse ++ .ref a :: rest)) rfl (by rw [hml]; exact hL) (Steps.refl _) (a := a) (argsL := argsL) (rest := rest) hlen rfl (by show 2 * 0 + _ ≤ _; omega) (hb hby hd) (fun _ _ => ⟨rfl, eT, hc, hs⟩)
  obtain ⟨Lc, ⟨hQ, NL⟩, l1, l2, l3⟩ := hB
  dsimp only [Pt.U, Pt.locs, Pt.cells, Pt.slots] at X' l1 l2 l3 st hQ
  subst l1 l2 l3
  exact Gl.via st (q v T' T'.heap ⟨_, X', rfl, Fr.app N NL, hn0, hx, hZ, hown, hby, hml, hrt, hlk⟩ hQ)
theorem Gl.callVU (Y : Sd Z own bs mx ret n0 p l e R s m args below meth c T h k n) {y : MethodName} {bs2 : ByteArray} {mx2 : Nat} {ret2 : Option FieldType} {rm : Room} {as : Array Value} {Q : Option Value → Heap → Prop} {i : Nat} {owner : String} {z : MethodName} {C : String} {argsL rest : List Value} {a : Addr} (w1 : (Jvm.Cond.methodLink own i z).before a0 Z = true) (w0 : (Jvm.Cond.sameMethod z.cls owner z.name z.desc).before a0 Z = true) (wd : (Jvm.Cond.declares ⟨owner, z.name, z.desc⟩).before a0 Z = true) (ws : (Jvm.Cond.selects C z y).before a0 Z = true) (w2 : (Jvm.Cond.instanceMethod y).before a0 Z = true) (w3 : (Jvm.Cond.initialized y.cls).before a0 Z = true) (w4 : (Jvm.Cond.code y bs2 mx2 ret2).before a0 Z = true) (hy : owner ≠ "java/lang/invoke/MethodHandle" ∧ owner ≠ "java/lang/invoke/VarHandle") (E : Exa Z h a C) (hM : OMet l Z [] y bs2 mx2 ret2 rm as h n0 Q) (has : (.ref a :: argsL).toArray = as) (hS : S = argsL.reverse ++ .ref a :: rest) (hlen : ∀ sig, parseMethodDescriptor z.desc = some sig → argsL.length = sig.parameters.length) (hL : L.size = mx) (hf : rm.frames + 1 ≤ R.frames) (hl : (rest.map fun v => v.category).sum + (mx2 + 11) + rm.locals ≤ R.locals) (hc : k + rm.cells ≤ R.cells) (hs : n + rm.slots ≤ R.slots) (hd : decode bs pc = .ok (.invokevirtual i, 3)) (hp : pc + 3 = pc') (q : ∀ v T' h', Sd Z own bs mx ret n0 p l e R s m args below meth c T' h' (k + rm.cells) (n + rm.slots) → Q v h' → Gl p e below P (T'.setTop (mkF m pc' L (v.toList ++ rest)))) : Gl p e below P (T.setTop (mkF m pc L S)) := by
  obtain ⟨locs, X, eT, N, hn0, hx, hZ, hown, hby, hml, hrt, hlk⟩ := Y
  subst hp has hS
  obtain ⟨cq, kq, qa, qb, qc⟩ := isOf hZ eT E
  obtain ⟨v, vm₁, ⟨T', L', k', n'⟩, -, X', hB, st⟩ := X.virtualBackUp hx (x := z) (y := y) hown (mvT hZ w1) (mvT hZ w0) (mvT hZ wd) hy (mvT hZ ws) (mvT hZ w2) (backOf (Q := fun v h' L => Q v h' ∧ Fr n0 L) (W := (rest.map fun v => v.category).sum) (OMet.un hM) hZ w4 w3 hf hl) qa qc (g := mkF m pc L (argsL.reverse ++ .ref a :: rest)) rfl (by rw [hml]; exact hL) (Steps.refl _) (argsL := argsL) (rest := rest) hlen rfl (by show 2 * 0 + _ ≤ _; omega) (hb hby hd) (fun _ _ => ⟨rfl, eT, hc, hs⟩)
  obtain ⟨Lc, ⟨hQ, NL⟩, l1, l2, l3⟩ := hB
  dsimp only [Pt.U, Pt.locs, Pt.cells, Pt.slots] at X' l1 l2 l3 st hQ
  subst l1 l2 l3
  exact Gl.via st (q v T' T'.heap ⟨_, X', rfl, Fr.app N NL, hn0, hx, hZ, hown, hby, hml, hrt, hlk⟩ hQ)
theorem Gl.fin (Y : Sd Z own bs mx ret n0 p l e R s m args below meth c T h k n) {K M : Nat} {Q : Option Value → Heap → Prop} (hk : k ≤ K) (hm : n ≤ M) {g : JFrame} {v : Option Value} (hv : ret = none → v = none) (st : ∀ fs, (∀ (f : JFrame) (acts : List Action), f.method = m → f.locked = none → f.entered = [] → (doReturn e (T.setTop f) acts v).1 = T.setFrames fs) → Steps p.tables e below (T.setTop g) (T.setFrames fs)) (hQ : Q v h) : Gl p e below (Pst s n0 K M Q) (T.setTop g) := by
  obtain ⟨locs, X, eT, N, hn0, hx, hZ, hown, hby, hml, hrt, hlk⟩ := Y
  obtain ⟨fs, hr, hrun, hended, hW, hsame⟩ := X.leave (v := v) (fun q => hv (hrt.symm.trans q)) hlk
  exact ⟨_, _, st fs hr, hrun, hended, v, locs, rfl, ⟨by show Q v T.heap; rw [eT]; exact hQ, N⟩, ⟨_, rfl⟩, hW, hsame.mono hk hm⟩
theorem Gl.retV (Y : Sd Z own bs mx none n0 p l e R s m args below meth c T h k n) {K M : Nat} {Q : Option Value → Heap → Prop} (hk : k ≤ K) (hm : n ≤ M)  (hd : decode bs pc = .ok (.return_, 1)) (hQ : Q none h) : Gl p e below (Pst s n0 K M Q) (T.setTop (mkF m pc L [])) := by
  have Y0 := Y
  obtain ⟨locs, X, eT, N, hn0, hx, hZ, hown, hby, hml, hrt, hlk⟩ := Y
  exact Gl.fin Y0 hk hm (v := none) (fun q => by first | rfl | cases q) (fun fs hr => X.returnOut hx hrt (hb hby hd) hr) hQ
theorem Gl.retI (Y : Sd Z own bs mx (some .int) n0 p l e R s m args below meth c T h k n) {K M : Nat} {Q : Option Value → Heap → Prop} (hk : k ≤ K) (hm : n ≤ M) {x : Int32} (hd : decode bs pc = .ok (.ireturn, 1)) (hQ : Q (some (.int x)) h) : Gl p e below (Pst s n0 K M Q) (T.setTop (mkF m pc L (.int x :: S))) := by
  have Y0 := Y
  obtain ⟨locs, X, eT, N, hn0, hx, hZ, hown, hby, hml, hrt, hlk⟩ := Y
  exact Gl.fin Y0 hk hm (v := (some (.int x))) (fun q => by first | rfl | cases q) (fun fs hr => retOut X hx hrt rfl (Or.inl ⟨rfl, Or.inl rfl, x, rfl⟩) (hb hby hd) hr) hQ
theorem Gl.retJ (Y : Sd Z own bs mx (some .long) n0 p l e R s m args below meth c T h k n) {K M : Nat} {Q : Option Value → Heap → Prop} (hk : k ≤ K) (hm : n ≤ M) {x : Int64} (hd : decode bs pc = .ok (.lreturn, 1)) (hQ : Q (some (.long x)) h) : Gl p e below (Pst s n0 K M Q) (T.setTop (mkF m pc L (.long x :: S))) := by
  have Y0 := Y
  obtain ⟨locs, X, eT, N, hn0, hx, hZ, hown, hby, hml, hrt, hlk⟩ := Y
  exact Gl.fin Y0 hk hm (v := (some (.long x))) (fun q => by first | rfl | cases q) (fun fs hr => retOut X hx hrt rfl (Or.inr (Or.inl ⟨rfl, rfl, x, rfl⟩)) (hb hby hd) hr) hQ
theorem Gl.retA (Y : Sd Z own bs mx (some t) n0 p l e R s m args below meth c T h k n) {K M : Nat} {Q : Option Value → Heap → Prop} (hk : k ≤ K) (hm : n ≤ M) {x : Value} (ht : t.isReference = true) (hxr : x.isRef = true) (hd : decode bs pc = .ok (.areturn, 1)) (hQ : Q (some x) h) : Gl p e below (Pst s n0 K M Q) (T.setTop (mkF m pc L (x :: S))) := by
  have Y0 := Y
  obtain ⟨locs, X, eT, N, hn0, hx, hZ, hown, hby, hml, hrt, hlk⟩ := Y
  exact Gl.fin Y0 hk hm (v := (some x)) (fun q => by first | rfl | cases q) (fun fs hr => retOut X hx hrt (own_narR hxr) (Or.inr (Or.inr (Or.inr (Or.inr ⟨rfl, ht, hxr⟩)))) (hb hby hd) hr) hQ
theorem Gl.retZ (Y : Sd Z own bs mx (some .boolean) n0 p l e R s m args below meth c T h k n) {K M : Nat} {Q : Option Value → Heap → Prop} (hk : k ≤ K) (hm : n ≤ M) {x x' : Int32} (hxn : nar .boolean x = x') (hd : decode bs pc = .ok (.ireturn, 1)) (hQ : Q (some (.int x')) h) : Gl p e below (Pst s n0 K M Q) (T.setTop (mkF m pc L (.int x :: S))) := by
  have Y0 := Y
  obtain ⟨locs, X, eT, N, hn0, hx, hZ, hown, hby, hml, hrt, hlk⟩ := Y
  exact Gl.fin Y0 hk hm (v := (some (.int x'))) (fun q => by first | rfl | cases q) (fun fs hr => retN X hx (t := .boolean) hrt (by simp) (hb hby hd) (by rw [hxn]; exact hr)) hQ
theorem Gl.retB (Y : Sd Z own bs mx (some .byte) n0 p l e R s m args below meth c T h k n) {K M : Nat} {Q : Option Value → Heap → Prop} (hk : k ≤ K) (hm : n ≤ M) {x x' : Int32} (hxn : nar .byte x = x') (hd : decode bs pc = .ok (.ireturn, 1)) (hQ : Q (some (.int x')) h) : Gl p e below (Pst s n0 K M Q) (T.setTop (mkF m pc L (.int x :: S))) := by
  have Y0 := Y
  obtain ⟨locs, X, eT, N, hn0, hx, hZ, hown, hby, hml, hrt, hlk⟩ := Y
  exact Gl.fin Y0 hk hm (v := (some (.int x'))) (fun q => by first | rfl | cases q) (fun fs hr => retN X hx (t := .byte) hrt (by simp) (hb hby hd) (by rw [hxn]; exact hr)) hQ
theorem Gl.retC (Y : Sd Z own bs mx (some .char) n0 p l e R s m args below meth c T h k n) {K M : Nat} {Q : Option Value → Heap → Prop} (hk : k ≤ K) (hm : n ≤ M) {x x' : Int32} (hxn : nar .char x = x') (hd : decode bs pc = .ok (.ireturn, 1)) (hQ : Q (some (.int x')) h) : Gl p e below (Pst s n0 K M Q) (T.setTop (mkF m pc L (.int x :: S))) := by
  have Y0 := Y
  obtain ⟨locs, X, eT, N, hn0, hx, hZ, hown, hby, hml, hrt, hlk⟩ := Y
  exact Gl.fin Y0 hk hm (v := (some (.int x'))) (fun q => by first | rfl | cases q) (fun fs hr => retN X hx (t := .char) hrt (by simp) (hb hby hd) (by rw [hxn]; exact hr)) hQ
theorem Gl.retSh (Y : Sd Z own bs mx (some .short) n0 p l e R s m args below meth c T h k n) {K M : Nat} {Q : Option Value → Heap → Prop} (hk : k ≤ K) (hm : n ≤ M) {x x' : Int32} (hxn : nar .short x = x') (hd : decode bs pc = .ok (.ireturn, 1)) (hQ : Q (some (.int x')) h) : Gl p e below (Pst s n0 K M Q) (T.setTop (mkF m pc L (.int x :: S))) := by
  have Y0 := Y
  obtain ⟨locs, X, eT, N, hn0, hx, hZ, hown, hby, hml, hrt, hlk⟩ := Y
  exact Gl.fin Y0 hk hm (v := (some (.int x'))) (fun q => by first | rfl | cases q) (fun fs hr => retN X hx (t := .short) hrt (by simp) (hb hby hd) (by rw [hxn]; exact hr)) hQ
end Kit
end Jvm.OwnWk

namespace Jvm.Pilot.@@N@@
open Jvm Jvm.ClassFile Sem Op Lib Jvm.Free Jvm.Stand Jvm.LawKit Jvm.RoadKit Bundle Jvm.OwnWk Jvm.Pilot.@@N@@.Jvm.D
theorem own_ns_root {Z : State} {a0 : Array Value} {O K : String} {n : Nat} (w : (Jvm.Cond.noSuperclass O).before a0 Z = true) (wk : (Jvm.Cond.instantiable K n).before a0 Z = true) (hn : O ≠ K) : NS Z O K := by
  obtain ⟨c, k, h1, h2, h3, -, -⟩ := Cond.noSuperclass_spec w
  obtain ⟨t, kt, g1, -⟩ := Cond.instantiable_spec wk
  have ne := ids_ne h1 g1 hn
  refine ⟨c, t, h1, g1, fun fuel => ?_⟩
  cases fuel with
  | zero => rfl
  | succ f => simp [Vm.isSubclassAux, ne, h2, h3]
theorem own_ns_no {Z : State} {a0 : Array Value} {C S K : String} {n : Nat} (w : (Jvm.Cond.superclass C S).before a0 Z = true) (wk : (Jvm.Cond.instantiable K n).before a0 Z = true) (ns : NS Z C K) (hn : C ≠ K) : ∃ c t, Z.vm.findClass C = some c ∧ Z.vm.findClass K = some t ∧ Z.vm.assignable c t = false := by
  obtain ⟨c, t, h0, g0, n3⟩ := ns
  obtain ⟨p, k, kp, h1, h2, h3, h4, h5, -, h7⟩ := Cond.superclass_spec h0 w
  obtain ⟨q, k', g1, g2, g3, g4, -⟩ := Cond.instantiable_spec wk
  cases g0.symm.trans g1
  have g5 : k'.isInterface = false := by cases hi : k'.isInterface <;> simp [hi] at g4 ⊢
  have ne := ids_ne h0 g0 hn
  refine ⟨c, t, h0, g0, ?_⟩
  show Z.vm.assignableAux (255 + 1) c t = false
  simp [Vm.assignableAux, ne, h2, g2, h5, g3, g5, Vm.isSubclass, n3]
theorem own_narCr {v : Int32} (h0 : 0 ≤ v.toInt) (h1 : v.toInt ≤ 255) : nar .char v = v := own_narC (a := v) (Int32.toInt_inj.mp (by have := c_i2c v; omega))
theorem own_byte (u v : Int32) (hu : 0 ≤ u.toInt ∧ u.toInt ≤ 255) (hv : 0 ≤ v.toInt ∧ v.toInt ≤ 255) : u.toInt8.toInt32.toInt = v.toInt8.toInt32.toInt ↔ u.toInt = v.toInt := by
  have e1 := c_i2b u
  have e2 := c_i2b v
  omega
theorem own_ch {a u v : Int32} (h1 : a &&& (255 : Int32) = u) (h2 : u.toUInt32.toUInt16.toUInt32.toInt32 = v) : 0 ≤ v.toInt ∧ v.toInt ≤ 255 := by
  have q := c_mask a (255 : Int32) 8 (by decide) (by decide)
  rw [h1] at q
  have r := c_i2c u
  rw [h2] at r
  omega
theorem own_k3 {a v : Int32} (h : a &&& (3 : Int32) = v) : v = 0 ∨ v = 1 ∨ v = 2 ∨ v = 3 := by
  have q := c_mask a (3 : Int32) 2 (by decide) (by decide)
  rw [h] at q
  exact own_c3 (by omega) (by omega)
theorem own_fin {A1 A2 A3 C1 C2 C3 : Prop} {r z : Int} (e1 : A1 ↔ C1) (e2 : A2 ↔ C2) (e3 : A3 ↔ C3) (p : ((A1 ∧ A2 ∧ A3) ∧ r = 1) ∨ (¬ (A1 ∧ A2 ∧ A3) ∧ r = 0)) (q : (C1 ∧ ((C2 ∧ ((C3 ∧ z = 1) ∨ (¬ (C3) ∧ z = 0))) ∨ (¬ (C2) ∧ z = 0))) ∨ (¬ (C1) ∧ z = 0)) : r = z := by
  rw [e1, e2, e3] at p
  by_cases k1 : C1 <;> by_cases k2 : C2 <;> by_cases k3 : C3 <;> simp_all
theorem d_jdk_52_method_21_0 : decode jdk_52_method_21_code 0 = .ok (.iconst 0, 1) := by decide +kernel
theorem d_jdk_52_method_21_1 : decode jdk_52_method_21_code 1 = .ok (.istore 5, 2) := by decide +kernel
theorem d_jdk_52_method_21_3 : decode jdk_52_method_21_code 3 = .ok (.iload 5, 2) := by decide +kernel
theorem d_jdk_52_method_21_5 : decode jdk_52_method_21_code 5 = .ok (.iload 4, 2) := by decide +kernel
theorem d_jdk_52_method_21_7 : decode jdk_52_method_21_code 7 = .ok (.if_icmp .ge 37, 3) := by decide +kernel
theorem d_jdk_52_method_21_10 : decode jdk_52_method_21_code 10 = .ok (.aload_n 0, 1) := by decide +kernel
theorem d_jdk_52_method_21_11 : decode jdk_52_method_21_code 11 = .ok (.iload_n 1, 1) := by decide +kernel
theorem d_jdk_52_method_21_12 : decode jdk_52_method_21_code 12 = .ok (.caload, 1) := by decide +kernel
theorem d_jdk_52_method_21_13 : decode jdk_52_method_21_code 13 = .ok (.istore 6, 2) := by decide +kernel
theorem d_jdk_52_method_21_15 : decode jdk_52_method_21_code 15 = .ok (.iload 6, 2) := by decide +kernel
theorem d_jdk_52_method_21_17 : decode jdk_52_method_21_code 17 = .ok (.sipush 255, 3) := by decide +kernel
theorem d_jdk_52_method_21_20 : decode jdk_52_method_21_code 20 = .ok (.if_icmp .le 6, 3) := by decide +kernel
theorem d_jdk_52_method_21_26 : decode jdk_52_method_21_code 26 = .ok (.aload_n 2, 1) := by decide +kernel
theorem d_jdk_52_method_21_27 : decode jdk_52_method_21_code 27 = .ok (.iload_n 3, 1) := by decide +kernel
theorem d_jdk_52_method_21_28 : decode jdk_52_method_21_code 28 = .ok (.iload 6, 2) := by decide +kernel
theorem d_jdk_52_method_21_30 : decode jdk_52_method_21_code 30 = .ok (.i2b, 1) := by decide +kernel
theorem d_jdk_52_method_21_31 : decode jdk_52_method_21_code 31 = .ok (.bastore, 1) := by decide +kernel
theorem d_jdk_52_method_21_32 : decode jdk_52_method_21_code 32 = .ok (.iinc 1 1, 3) := by decide +kernel
theorem d_jdk_52_method_21_35 : decode jdk_52_method_21_code 35 = .ok (.iinc 3 1, 3) := by decide +kernel
theorem d_jdk_52_method_21_38 : decode jdk_52_method_21_code 38 = .ok (.iinc 5 1, 3) := by decide +kernel
theorem d_jdk_52_method_21_41 : decode jdk_52_method_21_code 41 = .ok (.goto (-38), 3) := by decide +kernel
theorem d_jdk_52_method_21_44 : decode jdk_52_method_21_code 44 = .ok (.iload 4, 2) := by decide +kernel
theorem d_jdk_52_method_21_46 : decode jdk_52_method_21_code 46 = .ok (.ireturn, 1) := by decide +kernel
def R0 : Room := { frames := 0, cells := 0, slots := 0, locals := 0 }
def Q0 (Z : State) (ca : Addr) (b : Addr) (kc : ClassId) (kb : ClassId) (ch : Int32) (h0 : Heap) (v : Option Value) (h : Heap) : Prop := v = some (.int (1 : Int32)) ∧ Keep h0 h [b] ∧ Arv Z h b kb .byte (1 : Int32) [(.int (ch.toInt8.toInt32))] (.int (0 : Int32))
theorem ef0 (ca : Addr) (b : Addr) (m : MethodId) : entryFrame m #[(.ref ca), (.int (0 : Int32)), (.ref b), (.int (0 : Int32)), (.int (1 : Int32))] 7 = mkF m 0 #[.val (.ref ca), .val (.int (0 : Int32)), .val (.ref b), .val (.int (0 : Int32)), .val (.int (1 : Int32)), .unset, .unset] [] := by first | (simp [entryFrame, mkF, argsToLocals, Value.category]; done) | rfl
theorem pn_0 : plainName "java/lang/StringUTF16" = true := by first | (simp [plainName, overriddenIn]; done) | decide +kernel
set_option maxRecDepth 65536 in
set_option maxHeartbeats 40000000 in
theorem rm0 (l : Launch) (Z : State) (a0 : Array Value) (hw : ∀ d ∈ tables_1, d.before a0 Z = true) (ws : List Jvm.Cond) (ca : Addr) (b : Addr) (kc : ClassId) (kb : ClassId) (ch : Int32) (h0 : Heap) (n0 : Nat) (Z0 : n0 ≤ h0.size) (Vc : Arv Z h0 ca kc .char (1 : Int32) [(.int ch)] (.int (0 : Int32))) (Vb : Arv Z h0 b kb .byte (1 : Int32) [(.int (0 : Int32))] (.int (0 : Int32))) (gb : n0 ≤ b) (nbc : ca ≠ b) (hr : ¬ 255 < ch) : OMet l Z ws (⟨"java/lang/StringUTF16", "compress", "([CI[BII)I"⟩ : MethodName) jdk_52_method_21_code 7 (some .int) R0 #[(.ref ca), (.int (0 : Int32)), (.ref b), (.int (0 : Int32)), (.int (1 : Int32))] h0 n0 (Q0 Z ca b kc kb ch h0) := by
  refine OMet.of (plainFor_of_name pn_0) (ef0 ca b) Z0 ?_
  intro p e s m below meth c T0 Y0 hnm
  have Y0 : Sd Z "java/lang/StringUTF16" jdk_52_method_21_code 7 (some .int) n0 p l e R0 s m #[(.ref ca), (.int (0 : Int32)), (.ref b), (.int (0 : Int32)), (.int (1 : Int32))] below meth c T0 h0 0 0 := Y0
  refine Gl.iconst Y0 (v := (0 : Int32)) (by decide) d_jdk_52_method_21_0 rfl ?_
  refine Gl.istore Y0 (L' := #[.val (.ref ca), .val (.int (0 : Int32)), .val (.ref b), .val (.int (0 : Int32)), .val (.int (1 : Int32)), .val (.int (0 : Int32)), .unset]) rfl d_jdk_52_method_21_1 rfl ?_
  refine Gl.iload Y0 rfl d_jdk_52_method_21_3 rfl ?_
  refine Gl.iload Y0 rfl d_jdk_52_method_21_5 rfl ?_
  refine Gl.icmpge Y0 d_jdk_52_method_21_7 (by decide) rfl rfl (fun c7 => ?_) (fun c7 => ?_)
  · exact absurd c7 (by decide)
  refine Gl.aloadN Y0 rfl rfl d_jdk_52_method_21_10 rfl ?_
  refine Gl.iloadN Y0 rfl d_jdk_52_method_21_11 rfl ?_
  refine Gl.caload Y0 Vc ⟨by decide, by decide⟩ (v := (.int ch)) rfl d_jdk_52_method_21_12 rfl ?_
  refine Gl.istore Y0 (L' := #[.val (.ref ca), .val (.int (0 : Int32)), .val (.ref b), .val (.int (0 : Int32)), .val (.int (1 : Int32)), .val (.int (0 : Int32)), .val (.int ch)]) rfl d_jdk_52_method_21_13 rfl ?_
  refine Gl.iload Y0 rfl d_jdk_52_method_21_15 rfl ?_
  refine Gl.sipush Y0 (v := (255 : Int32)) (by decide) d_jdk_52_method_21_17 rfl ?_
  refine Gl.icmple Y0 d_jdk_52_method_21_20 (by decide) rfl rfl (fun c20 => ?_) (fun c20 => ?_)
  rotate_left
  · exact absurd c20 hr
  refine Gl.aloadN Y0 rfl rfl d_jdk_52_method_21_26 rfl ?_
  refine Gl.iloadN Y0 rfl d_jdk_52_method_21_27 rfl ?_
  refine Gl.iload Y0 rfl d_jdk_52_method_21_28 rfl ?_
  refine Gl.i2b Y0 rfl d_jdk_52_method_21_30 rfl ?_
  refine Gl.bastore Y0 Vb (v := (.int ch.toInt8.toInt32)) (congrArg Value.int (own_narB rfl)) ⟨by decide, by decide⟩ (ix := 0) rfl (Nat.le_of_ble_eq_true rfl) gb d_jdk_52_method_21_31 rfl (fun T31 h31 Y31 W31 A31 => ?_)
  have A31 : Arv Z h31 b kb .byte (1 : Int32) [(.int ch.toInt8.toInt32)] (.int (0 : Int32)) := A31
  have K31 : Keep h0 h31 [b] := (Keep.refl h0 [b]).wr W31 (Or.inl (List.mem_of_getElem? (i := 0) rfl))
  show Gl p e below _ (T31.setTop (mkF m 32 #[.val (.ref ca), .val (.int (0 : Int32)), .val (.ref b), .val (.int (0 : Int32)), .val (.int (1 : Int32)), .val (.int (0 : Int32)), .val (.int ch)] []))
  refine Gl.iinc Y31 rfl (r := (1 : Int32)) (by decide) (L' := #[.val (.ref ca), .val (.int (1 : Int32)), .val (.ref b), .val (.int (0 : Int32)), .val (.int (1 : Int32)), .val (.int (0 : Int32)), .val (.int ch)]) rfl d_jdk_52_method_21_32 rfl ?_
  refine Gl.iinc Y31 rfl (r := (1 : Int32)) (by decide) (L' := #[.val (.ref ca), .val (.int (1 : Int32)), .val (.ref b), .val (.int (1 : Int32)), .val (.int (1 : Int32)), .val (.int (0 : Int32)), .val (.int ch)]) rfl d_jdk_52_method_21_35 rfl ?_
  refine Gl.iinc Y31 rfl (r := (1 : Int32)) (by decide) (L' := #[.val (.ref ca), .val (.int (1 : Int32)), .val (.ref b), .val (.int (1 : Int32)), .val (.int (1 : Int32)), .val (.int (1 : Int32)), .val (.int ch)]) rfl d_jdk_52_method_21_38 rfl ?_
  refine Gl.goto Y31 d_jdk_52_method_21_41 (by decide) rfl ?_
  refine Gl.iload Y31 rfl d_jdk_52_method_21_3 rfl ?_
  refine Gl.iload Y31 rfl d_jdk_52_method_21_5 rfl ?_
  refine Gl.icmpge Y31 d_jdk_52_method_21_7 (by decide) rfl rfl (fun c7_2 => ?_) (fun c7_2 => ?_)
  rotate_left
  · exact absurd c7_2 (by decide)
  refine Gl.iload Y31 rfl d_jdk_52_method_21_44 rfl ?_
  exact Gl.retI Y31 (by decide) (by decide)  d_jdk_52_method_21_46 ⟨rfl, K31, A31⟩
theorem d_jdk_52_method_16_0 : decode jdk_52_method_16_code 0 = .ok (.iload_n 2, 1) := by decide +kernel
theorem d_jdk_52_method_16_1 : decode jdk_52_method_16_code 1 = .ok (.newarray .byte, 2) := by decide +kernel
theorem tw_26 {a0 : Array Value} {Z : State} (hw : ∀ d ∈ tables_1, d.before a0 Z = true) : (Jvm.Cond.arrayClass Jvm.ClassFile.FieldType.byte).before a0 Z = true := hw _ (List.mem_of_getElem? (i := 26) rfl)
theorem d_jdk_52_method_16_3 : decode jdk_52_method_16_code 3 = .ok (.astore_n 3, 1) := by decide +kernel
theorem d_jdk_52_method_16_4 : decode jdk_52_method_16_code 4 = .ok (.aload_n 0, 1) := by decide +kernel
theorem d_jdk_52_method_16_5 : decode jdk_52_method_16_code 5 = .ok (.iload_n 1, 1) := by decide +kernel
theorem d_jdk_52_method_16_6 : decode jdk_52_method_16_code 6 = .ok (.aload_n 3, 1) := by decide +kernel
theorem d_jdk_52_method_16_7 : decode jdk_52_method_16_code 7 = .ok (.iconst 0, 1) := by decide +kernel
theorem d_jdk_52_method_16_8 : decode jdk_52_method_16_code 8 = .ok (.iload_n 2, 1) := by decide +kernel
theorem d_jdk_52_method_16_9 : decode jdk_52_method_16_code 9 = .ok (.invokestatic 115, 3) := by decide +kernel
theorem tw_27 {a0 : Array Value} {Z : State} (hw : ∀ d ∈ tables_1, d.before a0 Z = true) : (Jvm.Cond.methodLink "java/lang/StringUTF16" (115 : Nat) ({ cls := "java/lang/StringUTF16", name := "compress", desc := "([CI[BII)I" } : Jvm.MethodName)).before a0 Z = true := hw _ (List.mem_of_getElem? (i := 27) rfl)
theorem pd_0 : parseMethodDescriptor "([CI[BII)I" = some ⟨[(.array .char), .int, (.array .byte), .int, .int], some .int⟩ := by decide +kernel
theorem tw_29 {a0 : Array Value} {Z : State} (hw : ∀ d ∈ tables_1, d.before a0 Z = true) : (Jvm.Cond.code ({ cls := "java/lang/StringUTF16", name := "compress", desc := "([CI[BII)I" } : Jvm.MethodName) jdk_52_method_21_code (7 : Nat) (Option.some Jvm.ClassFile.FieldType.int)).before a0 Z = true := hw _ (List.mem_of_getElem? (i := 29) rfl)
theorem tw_24 {a0 : Array Value} {Z : State} (hw : ∀ d ∈ tables_1, d.before a0 Z = true) : (Jvm.Cond.initialized "java/lang/StringUTF16").before a0 Z = true := hw _ (List.mem_of_getElem? (i := 24) rfl)
theorem tw_28 {a0 : Array Value} {Z : State} (hw : ∀ d ∈ tables_1, d.before a0 Z = true) : (Jvm.Cond.static ({ cls := "java/lang/StringUTF16", name := "compress", desc := "([CI[BII)I" } : Jvm.MethodName)).before a0 Z = true := hw _ (List.mem_of_getElem? (i := 28) rfl)
theorem d_jdk_52_method_16_12 : decode jdk_52_method_16_code 12 = .ok (.istore 4, 2) := by decide +kernel
theorem d_jdk_52_method_16_14 : decode jdk_52_method_16_code 14 = .ok (.iload 4, 2) := by decide +kernel
theorem d_jdk_52_method_16_16 : decode jdk_52_method_16_code 16 = .ok (.iload_n 2, 1) := by decide +kernel
theorem d_jdk_52_method_16_17 : decode jdk_52_method_16_code 17 = .ok (.if_icmp .eq 40, 3) := by decide +kernel
theorem d_jdk_52_method_16_57 : decode jdk_52_method_16_code 57 = .ok (.aload_n 3, 1) := by decide +kernel
theorem d_jdk_52_method_16_58 : decode jdk_52_method_16_code 58 = .ok (.areturn, 1) := by decide +kernel
def R1 : Room := { frames := 1, cells := 1, slots := 1, locals := 18 }
def Q1 (Z : State) (ca : Addr) (kc : ClassId) (ch : Int32) (h0 : Heap) (v : Option Value) (h : Heap) : Prop := ∃ b : Addr, ∃ kb : ClassId, v = some (.ref b) ∧ Keep h0 h [] ∧ h0.size ≤ b ∧ Arv Z h b kb .byte (1 : Int32) [(.int (ch.toInt8.toInt32))] (.int (0 : Int32))
theorem ef1 (ca : Addr) (m : MethodId) : entryFrame m #[(.ref ca), (.int (0 : Int32)), (.int (1 : Int32))] 6 = mkF m 0 #[.val (.ref ca), .val (.int (0 : Int32)), .val (.int (1 : Int32)), .unset, .unset, .unset] [] := by first | (simp [entryFrame, mkF, argsToLocals, Value.category]; done) | rfl
set_option maxRecDepth 65536 in
set_option maxHeartbeats 40000000 in
theorem rm1 (l : Launch) (Z : State) (a0 : Array Value) (hw : ∀ d ∈ tables_1, d.before a0 Z = true) (ws : List Jvm.Cond) (ca : Addr) (kc : ClassId) (ch : Int32) (h0 : Heap) (n0 : Nat) (Z0 : n0 ≤ h0.size) (Vc : Arv Z h0 ca kc .char (1 : Int32) [(.int ch)] (.int (0 : Int32))) (hr : ¬ 255 < ch) : OMet l Z ws (⟨"java/lang/StringUTF16", "compress", "([CII)[B"⟩ : MethodName) jdk_52_method_16_code 6 (some (.array .byte)) R1 #[(.ref ca), (.int (0 : Int32)), (.int (1 : Int32))] h0 n0 (Q1 Z ca kc ch h0) := by
  refine OMet.of (plainFor_of_name pn_0) (ef1 ca) Z0 ?_
  intro p e s m below meth c T0 Y0 hnm
  have Y0 : Sd Z "java/lang/StringUTF16" jdk_52_method_16_code 6 (some (.array .byte)) n0 p l e R1 s m #[(.ref ca), (.int (0 : Int32)), (.int (1 : Int32))] below meth c T0 h0 0 0 := Y0
  refine Gl.iloadN Y0 rfl d_jdk_52_method_16_0 rfl ?_
  refine Gl.newP Y0 1 (ty := .byte) rfl (tw_26 hw) (by decide) (by decide) (Nat.le_of_ble_eq_true rfl) (Nat.le_of_ble_eq_true rfl) (Nat.le_of_ble_eq_true rfl) d_jdk_52_method_16_1 rfl (fun T1 h1 b1 ck1 Y1 E1 g1 sb1 V1 => ?_)
  have V1 : Arv Z h1 b1 ck1 .byte (1 : Int32) [(.int (0 : Int32))] (.int (0 : Int32)) := V1.pad (pad_rep [] (.int (0 : Int32)) 1)
  have zb1 : h0.size ≤ b1 := Nat.le_trans (Keep.refl h0 []).1 (Nat.le_of_eq g1.symm)
  have K1 : Keep h0 h1 [] := (Keep.refl h0 []).ext E1
  show Gl p e below _ (T1.setTop (mkF m 3 #[.val (.ref ca), .val (.int (0 : Int32)), .val (.int (1 : Int32)), .unset, .unset, .unset] [(.ref b1)]))
  refine Gl.astoreN Y1 rfl (L' := #[.val (.ref ca), .val (.int (0 : Int32)), .val (.int (1 : Int32)), .val (.ref b1), .unset, .unset]) rfl d_jdk_52_method_16_3 rfl ?_
  refine Gl.aloadN Y1 rfl rfl d_jdk_52_method_16_4 rfl ?_
  refine Gl.iloadN Y1 rfl d_jdk_52_method_16_5 rfl ?_
  refine Gl.aloadN Y1 rfl rfl d_jdk_52_method_16_6 rfl ?_
  refine Gl.iconst Y1 (v := (0 : Int32)) (by decide) d_jdk_52_method_16_7 rfl ?_
  refine Gl.iloadN Y1 rfl d_jdk_52_method_16_8 rfl ?_
  have f1 : Arv Z h1 ca kc .char (1 : Int32) [(.int ch)] (.int (0 : Int32)) := (Vc.ext E1)
  refine Gl.callS Y1 (tw_27 hw) (tw_28 hw) (tw_24 hw) (tw_29 hw) (by decide) (rm0 l Z a0 hw [] ca b1 kc ck1 ch h1 n0 Y1.sz f1 V1 sb1 (Nat.ne_of_lt (Nat.lt_of_lt_of_eq Vc.lt g1.symm)) (hr)) (argsL := [(.ref ca), (.int (0 : Int32)), (.ref b1), (.int (0 : Int32)), (.int (1 : Int32))]) (rest := []) rfl rfl (lenOf pd_0 rfl) rfl (by decide) (Nat.le_of_ble_eq_true rfl) (by decide) (by decide) d_jdk_52_method_16_9 rfl (fun v9 T9 h9 Y9 q9 => ?_)
  obtain ⟨rfl, K9, f9_0⟩ := q9
  have KK9 : Keep h0 h9 [] := K1.trans K9 (allS (Or.inr zb1) all0)
  show Gl p e below _ (T9.setTop (mkF m 12 #[.val (.ref ca), .val (.int (0 : Int32)), .val (.int (1 : Int32)), .val (.ref b1), .unset, .unset] [(.int (1 : Int32))]))
  refine Gl.istore Y9 (L' := #[.val (.ref ca), .val (.int (0 : Int32)), .val (.int (1 : Int32)), .val (.ref b1), .val (.int (1 : Int32)), .unset]) rfl d_jdk_52_method_16_12 rfl ?_
  refine Gl.iload Y9 rfl d_jdk_52_method_16_14 rfl ?_
  refine Gl.iloadN Y9 rfl d_jdk_52_method_16_16 rfl ?_
  refine Gl.icmpeq Y9 d_jdk_52_method_16_17 (by decide) rfl rfl (fun c17 => ?_) (fun c17 => ?_)
  rotate_left
  · exact absurd c17 (by decide)
  refine Gl.aloadN Y9 rfl rfl d_jdk_52_method_16_57 rfl ?_
  exact Gl.retA Y9 (by decide) (by decide) rfl rfl d_jdk_52_method_16_58 ⟨b1, ck1, rfl, KK9, zb1, f9_0⟩
theorem d_jdk_52_method_15_0 : decode jdk_52_method_15_code 0 = .ok (.iload_n 1, 1) := by decide +kernel
theorem d_jdk_52_method_15_1 : decode jdk_52_method_15_code 1 = .ok (.aload_n 0, 1) := by decide +kernel
theorem d_jdk_52_method_15_2 : decode jdk_52_method_15_code 2 = .ok (.arraylength, 1) := by decide +kernel
theorem d_jdk_52_method_15_3 : decode jdk_52_method_15_code 3 = .ok (.isub, 1) := by decide +kernel
theorem d_jdk_52_method_15_4 : decode jdk_52_method_15_code 4 = .ok (.bipush 31, 2) := by decide +kernel
theorem d_jdk_52_method_15_6 : decode jdk_52_method_15_code 6 = .ok (.iushr, 1) := by decide +kernel
theorem d_jdk_52_method_15_7 : decode jdk_52_method_15_code 7 = .ok (.i2b, 1) := by decide +kernel
theorem d_jdk_52_method_15_8 : decode jdk_52_method_15_code 8 = .ok (.ireturn, 1) := by decide +kernel
def R2 : Room := { frames := 0, cells := 0, slots := 0, locals := 0 }
def Q2 (Z : State) (b : Addr) (kb : ClassId) (ch : Int32) (h0 : Heap) (v : Option Value) (h : Heap) : Prop := v = some (.int (0 : Int32)) ∧ h0 = h
theorem ef2 (b : Addr) (m : MethodId) : entryFrame m #[(.ref b), (.int (1 : Int32))] 2 = mkF m 0 #[.val (.ref b), .val (.int (1 : Int32))] [] := by first | (simp [entryFrame, mkF, argsToLocals, Value.category]; done) | rfl
set_option maxRecDepth 65536 in
set_option maxHeartbeats 40000000 in
theorem rm2 (l : Launch) (Z : State) (a0 : Array Value) (hw : ∀ d ∈ tables_1, d.before a0 Z = true) (ws : List Jvm.Cond) (b : Addr) (kb : ClassId) (ch : Int32) (h0 : Heap) (n0 : Nat) (Z0 : n0 ≤ h0.size) (Vb : Arv Z h0 b kb .byte (1 : Int32) [(.int (ch.toInt8.toInt32))] (.int (0 : Int32))) : OMet l Z ws (⟨"java/lang/StringUTF16", "coderFromArrayLen", "([BI)B"⟩ : MethodName) jdk_52_method_15_code 2 (some .byte) R2 #[(.ref b), (.int (1 : Int32))] h0 n0 (Q2 Z b kb ch h0) := by
  refine OMet.of (plainFor_of_name pn_0) (ef2 b) Z0 ?_
  intro p e s m below meth c T0 Y0 hnm
  have Y0 : Sd Z "java/lang/StringUTF16" jdk_52_method_15_code 2 (some .byte) n0 p l e R2 s m #[(.ref b), (.int (1 : Int32))] below meth c T0 h0 0 0 := Y0
  refine Gl.iloadN Y0 rfl d_jdk_52_method_15_0 rfl ?_
  refine Gl.aloadN Y0 rfl rfl d_jdk_52_method_15_1 rfl ?_
  refine Gl.arraylength Y0 Vb d_jdk_52_method_15_2 rfl ?_
  refine Gl.isub Y0 (r := (0 : Int32)) (by decide) d_jdk_52_method_15_3 rfl ?_
  refine Gl.bipush Y0 (v := (31 : Int32)) (by decide) d_jdk_52_method_15_4 rfl ?_
  refine Gl.iushr Y0 (r := (0 : Int32)) (by decide) d_jdk_52_method_15_6 rfl ?_
  refine Gl.i2b Y0 (r := (0 : Int32)) (by decide) d_jdk_52_method_15_7 rfl ?_
  exact Gl.retB Y0 (by decide) (by decide) (x' := (0 : Int32)) (by decide) d_jdk_52_method_15_8 ⟨rfl, rfl⟩
theorem d_jdk_42_method_149_0 : decode jdk_42_method_149_code 0 = .ok (.aload_n 0, 1) := by decide +kernel
theorem d_jdk_42_method_149_1 : decode jdk_42_method_149_code 1 = .ok (.invokespecial 1, 3) := by decide +kernel
theorem tw_18 {a0 : Array Value} {Z : State} (hw : ∀ d ∈ tables_1, d.before a0 Z = true) : (Jvm.Cond.methodLink "java/lang/String" (1 : Nat) ({ cls := "java/lang/Object", name := "<init>", desc := "()V" } : Jvm.MethodName)).before a0 Z = true := hw _ (List.mem_of_getElem? (i := 18) rfl)
theorem tw_19 {a0 : Array Value} {Z : State} (hw : ∀ d ∈ tables_1, d.before a0 Z = true) : (Jvm.Cond.instanceMethod ({ cls := "java/lang/Object", name := "<init>", desc := "()V" } : Jvm.MethodName)).before a0 Z = true := hw _ (List.mem_of_getElem? (i := 19) rfl)
theorem tw_20 {a0 : Array Value} {Z : State} (hw : ∀ d ∈ tables_1, d.before a0 Z = true) : (Jvm.Cond.code ({ cls := "java/lang/Object", name := "<init>", desc := "()V" } : Jvm.MethodName) object_method_1_code (1 : Nat) (Option.none : Option Jvm.ClassFile.FieldType)).before a0 Z = true := hw _ (List.mem_of_getElem? (i := 20) rfl)
theorem d_jdk_42_method_149_4 : decode jdk_42_method_149_code 4 = .ok (.iload_n 3, 1) := by decide +kernel
theorem d_jdk_42_method_149_5 : decode jdk_42_method_149_code 5 = .ok (.ifCond .ne 22, 3) := by decide +kernel
theorem d_jdk_42_method_149_27 : decode jdk_42_method_149_code 27 = .ok (.getstatic 38, 3) := by decide +kernel
theorem tw_21 {a0 : Array Value} {Z : State} (hw : ∀ d ∈ tables_1, d.before a0 Z = true) : (Jvm.Cond.fieldLink "java/lang/String" (38 : Nat) "java/lang/String" "COMPACT_STRINGS" "Z").before a0 Z = true := hw _ (List.mem_of_getElem? (i := 21) rfl)
theorem d_jdk_42_method_149_30 : decode jdk_42_method_149_code 30 = .ok (.ifCond .eq 28, 3) := by decide +kernel
theorem d_jdk_42_method_149_33 : decode jdk_42_method_149_code 33 = .ok (.aload_n 1, 1) := by decide +kernel
theorem d_jdk_42_method_149_34 : decode jdk_42_method_149_code 34 = .ok (.iload_n 2, 1) := by decide +kernel
theorem d_jdk_42_method_149_35 : decode jdk_42_method_149_code 35 = .ok (.iload_n 3, 1) := by decide +kernel
theorem d_jdk_42_method_149_36 : decode jdk_42_method_149_code 36 = .ok (.invokestatic 177, 3) := by decide +kernel
theorem tw_22 {a0 : Array Value} {Z : State} (hw : ∀ d ∈ tables_1, d.before a0 Z = true) : (Jvm.Cond.methodLink "java/lang/String" (177 : Nat) ({ cls := "java/lang/StringUTF16", name := "compress", desc := "([CII)[B" } : Jvm.MethodName)).before a0 Z = true := hw _ (List.mem_of_getElem? (i := 22) rfl)
theorem pd_1 : parseMethodDescriptor "([CII)[B" = some ⟨[(.array .char), .int, .int], some (.array .byte)⟩ := by decide +kernel
theorem tw_25 {a0 : Array Value} {Z : State} (hw : ∀ d ∈ tables_1, d.before a0 Z = true) : (Jvm.Cond.code ({ cls := "java/lang/StringUTF16", name := "compress", desc := "([CII)[B" } : Jvm.MethodName) jdk_52_method_16_code (6 : Nat) (Option.some (Jvm.ClassFile.FieldType.array Jvm.ClassFile.FieldType.byte))).before a0 Z = true := hw _ (List.mem_of_getElem? (i := 25) rfl)
theorem tw_23 {a0 : Array Value} {Z : State} (hw : ∀ d ∈ tables_1, d.before a0 Z = true) : (Jvm.Cond.static ({ cls := "java/lang/StringUTF16", name := "compress", desc := "([CII)[B" } : Jvm.MethodName)).before a0 Z = true := hw _ (List.mem_of_getElem? (i := 23) rfl)
theorem d_jdk_42_method_149_39 : decode jdk_42_method_149_code 39 = .ok (.astore 5, 2) := by decide +kernel
theorem d_jdk_42_method_149_41 : decode jdk_42_method_149_code 41 = .ok (.aload_n 0, 1) := by decide +kernel
theorem d_jdk_42_method_149_42 : decode jdk_42_method_149_code 42 = .ok (.aload 5, 2) := by decide +kernel
theorem d_jdk_42_method_149_44 : decode jdk_42_method_149_code 44 = .ok (.iload_n 3, 1) := by decide +kernel
theorem d_jdk_42_method_149_45 : decode jdk_42_method_149_code 45 = .ok (.invokestatic 47, 3) := by decide +kernel
theorem tw_30 {a0 : Array Value} {Z : State} (hw : ∀ d ∈ tables_1, d.before a0 Z = true) : (Jvm.Cond.methodLink "java/lang/String" (47 : Nat) ({ cls := "java/lang/StringUTF16", name := "coderFromArrayLen", desc := "([BI)B" } : Jvm.MethodName)).before a0 Z = true := hw _ (List.mem_of_getElem? (i := 30) rfl)
theorem pd_2 : parseMethodDescriptor "([BI)B" = some ⟨[(.array .byte), .int], some .byte⟩ := by decide +kernel
theorem tw_32 {a0 : Array Value} {Z : State} (hw : ∀ d ∈ tables_1, d.before a0 Z = true) : (Jvm.Cond.code ({ cls := "java/lang/StringUTF16", name := "coderFromArrayLen", desc := "([BI)B" } : Jvm.MethodName) jdk_52_method_15_code (2 : Nat) (Option.some Jvm.ClassFile.FieldType.byte)).before a0 Z = true := hw _ (List.mem_of_getElem? (i := 32) rfl)
theorem tw_31 {a0 : Array Value} {Z : State} (hw : ∀ d ∈ tables_1, d.before a0 Z = true) : (Jvm.Cond.static ({ cls := "java/lang/StringUTF16", name := "coderFromArrayLen", desc := "([BI)B" } : Jvm.MethodName)).before a0 Z = true := hw _ (List.mem_of_getElem? (i := 31) rfl)
theorem d_jdk_42_method_149_48 : decode jdk_42_method_149_code 48 = .ok (.putfield 15, 3) := by decide +kernel
theorem tw_33 {a0 : Array Value} {Z : State} (hw : ∀ d ∈ tables_1, d.before a0 Z = true) : (Jvm.Cond.fieldLink "java/lang/String" (15 : Nat) "java/lang/String" "coder" "B").before a0 Z = true := hw _ (List.mem_of_getElem? (i := 33) rfl)
theorem tw_34 {a0 : Array Value} {Z : State} (hw : ∀ d ∈ tables_1, d.before a0 Z = true) : (Jvm.Cond.laysFinal "java/lang/String" "java/lang/String" "coder" "B").before a0 Z = true := hw _ (List.mem_of_getElem? (i := 34) rfl)
theorem tw_9 {a0 : Array Value} {Z : State} (hw : ∀ d ∈ tables_1, d.before a0 Z = true) : (Jvm.Cond.instantiable "java/lang/String" (4 : Nat)).before a0 Z = true := hw _ (List.mem_of_getElem? (i := 9) rfl)
theorem d_jdk_42_method_149_51 : decode jdk_42_method_149_code 51 = .ok (.aload_n 0, 1) := by decide +kernel
theorem d_jdk_42_method_149_52 : decode jdk_42_method_149_code 52 = .ok (.aload 5, 2) := by decide +kernel
theorem d_jdk_42_method_149_54 : decode jdk_42_method_149_code 54 = .ok (.putfield 9, 3) := by decide +kernel
theorem tw_35 {a0 : Array Value} {Z : State} (hw : ∀ d ∈ tables_1, d.before a0 Z = true) : (Jvm.Cond.fieldLink "java/lang/String" (9 : Nat) "java/lang/String" "value" "[B").before a0 Z = true := hw _ (List.mem_of_getElem? (i := 35) rfl)
theorem tw_36 {a0 : Array Value} {Z : State} (hw : ∀ d ∈ tables_1, d.before a0 Z = true) : (Jvm.Cond.laysFinal "java/lang/String" "java/lang/String" "value" "[B").before a0 Z = true := hw _ (List.mem_of_getElem? (i := 36) rfl)
theorem d_jdk_42_method_149_57 : decode jdk_42_method_149_code 57 = .ok (.return_, 1) := by decide +kernel
def R3 : Room := { frames := 2, cells := 1, slots := 1, locals := 35 }
def Q3 (Z : State) (a : Addr) (ca : Addr) (kc : ClassId) (ch : Int32) (cs : Int32) (h0 : Heap) (v : Option Value) (h : Heap) : Prop := ∃ b : Addr, ∃ kb : ClassId, v = none ∧ Keep h0 h [a] ∧ h0.size ≤ b ∧ Exa Z h a "java/lang/String" ∧ Fld Z h a "java/lang/String" "coder" "B" (.int (0 : Int32)) ∧ Fld Z h a "java/lang/String" "value" "[B" (.ref b) ∧ Arv Z h b kb .byte (1 : Int32) [(.int (ch.toInt8.toInt32))] (.int (0 : Int32))
theorem ef3 (a : Addr) (ca : Addr) (m : MethodId) : entryFrame m #[(.ref a), (.ref ca), (.int (0 : Int32)), (.int (1 : Int32)), .null] 6 = mkF m 0 #[.val (.ref a), .val (.ref ca), .val (.int (0 : Int32)), .val (.int (1 : Int32)), .val .null, .unset] [] := by first | (simp [entryFrame, mkF, argsToLocals, Value.category]; done) | rfl
theorem pn_1 : plainName "java/lang/String" = true := by first | (simp [plainName, overriddenIn]; done) | decide +kernel
set_option maxRecDepth 65536 in
set_option maxHeartbeats 40000000 in
theorem rm3 (l : Launch) (Z : State) (a0 : Array Value) (hw : ∀ d ∈ tables_1, d.before a0 Z = true) (ws : List Jvm.Cond) (a : Addr) (ca : Addr) (kc : ClassId) (ch : Int32) (cs : Int32) (h0 : Heap) (n0 : Nat) (Z0 : n0 ≤ h0.size) (O : Old Z n0 h0) (S : Sta Z Z.heap "java/lang/String" "COMPACT_STRINGS" "Z" (.int cs)) (hcs : ¬ cs = 0) (E : Exa Z h0 a "java/lang/String") (F1 : Fld Z h0 a "java/lang/String" "value" "[B" .null) (F2 : Fld Z h0 a "java/lang/String" "coder" "B" (.int (0 : Int32))) (ga : n0 ≤ a) (nca : ca ≠ a) (Vc : Arv Z h0 ca kc .char (1 : Int32) [(.int ch)] (.int (0 : Int32))) (hr : ¬ 255 < ch) : OMet l Z ws (⟨"java/lang/String", "<init>", "([CIILjava/lang/Void;)V"⟩ : MethodName) jdk_42_method_149_code 6 none R3 #[(.ref a), (.ref ca), (.int (0 : Int32)), (.int (1 : Int32)), .null] h0 n0 (Q3 Z a ca kc ch cs h0) := by
  refine OMet.of (plainFor_of_name pn_1) (ef3 a ca) Z0 ?_
  intro p e s m below meth c T0 Y0 hnm
  have Y0 : Sd Z "java/lang/String" jdk_42_method_149_code 6 none n0 p l e R3 s m #[(.ref a), (.ref ca), (.int (0 : Int32)), (.int (1 : Int32)), .null] below meth c T0 h0 0 0 := Y0
  refine Gl.aloadN Y0 rfl rfl d_jdk_42_method_149_0 rfl ?_
  refine Gl.initO Y0 (tw_18 hw) (tw_19 hw) (tw_20 hw) rfl (by decide) (Nat.le_of_ble_eq_true rfl) d_jdk_42_method_149_1 rfl (fun T1 Y1 => ?_)
  refine Gl.iloadN Y1 rfl d_jdk_42_method_149_4 rfl ?_
  refine Gl.ifne Y1 d_jdk_42_method_149_5 (by decide) rfl rfl (fun c5 => ?_) (fun c5 => ?_)
  rotate_left
  · exact absurd c5 (by decide)
  refine Gl.getS Y1 (host := "") (Or.inl (tw_21 hw)) Via.refl (Sta.ext O.2 S) d_jdk_42_method_149_27 rfl (fun T27 Y27 => ?_)
  refine Gl.ifeq Y27 d_jdk_42_method_149_30 (by decide) rfl rfl (fun c30 => ?_) (fun c30 => ?_)
  · exact absurd c30 hcs
  refine Gl.aloadN Y27 rfl rfl d_jdk_42_method_149_33 rfl ?_
  refine Gl.iloadN Y27 rfl d_jdk_42_method_149_34 rfl ?_
  refine Gl.iloadN Y27 rfl d_jdk_42_method_149_35 rfl ?_
  refine Gl.callS Y27 (tw_22 hw) (tw_23 hw) (tw_24 hw) (tw_25 hw) (by decide) (rm1 l Z a0 hw [] ca kc ch h0 n0 Y27.sz Vc (hr)) (argsL := [(.ref ca), (.int (0 : Int32)), (.int (1 : Int32))]) (rest := []) rfl rfl (lenOf pd_1 rfl) rfl (by decide) (Nat.le_of_ble_eq_true rfl) (by decide) (by decide) d_jdk_42_method_149_36 rfl (fun v36 T36 h36 Y36 q36 => ?_)
  obtain ⟨b36, kb36, rfl, K36, f36_0, f36_1⟩ := q36
  have Y36_sz : n0 ≤ h0.size := Y27.sz
  have KK36 : Keep h0 h36 [a] := (Keep.refl h0 [a]).trans K36 all0
  have zb36 : h0.size ≤ b36 := Nat.le_trans (Keep.refl h0 [a]).1 f36_0
  show Gl p e below _ (T36.setTop (mkF m 39 #[.val (.ref a), .val (.ref ca), .val (.int (0 : Int32)), .val (.int (1 : Int32)), .val .null, .unset] [(.ref b36)]))
  refine Gl.astore Y36 rfl (L' := #[.val (.ref a), .val (.ref ca), .val (.int (0 : Int32)), .val (.int (1 : Int32)), .val .null, .val (.ref b36)]) rfl d_jdk_42_method_149_39 rfl ?_
  refine Gl.aloadN Y36 rfl rfl d_jdk_42_method_149_41 rfl ?_
  refine Gl.aload Y36 rfl rfl d_jdk_42_method_149_42 rfl ?_
  refine Gl.iloadN Y36 rfl d_jdk_42_method_149_44 rfl ?_
  refine Gl.callS Y36 (tw_30 hw) (tw_31 hw) (tw_24 hw) (tw_32 hw) (by decide) (rm2 l Z a0 hw [] b36 kb36 ch h36 n0 Y36.sz f36_1) (argsL := [(.ref b36), (.int (1 : Int32))]) (rest := [(.ref a)]) rfl rfl (lenOf pd_2 rfl) rfl (by decide) (Nat.le_of_ble_eq_true rfl) (by decide) (by decide) d_jdk_42_method_149_45 rfl (fun v45 T45 h45 Y45 q45 => ?_)
  obtain ⟨rfl, rfl⟩ := q45
  show Gl p e below _ (T45.setTop (mkF m 48 #[.val (.ref a), .val (.ref ca), .val (.int (0 : Int32)), .val (.int (1 : Int32)), .val .null, .val (.ref b36)] [(.int (0 : Int32)), (.ref a)]))
  have f1 : Fld Z h36 a "java/lang/String" "coder" "B" (.int (0 : Int32)) := (F2.keep K36 nin0)
  have f2 : Exa Z h36 a "java/lang/String" := (E.keep K36)
  refine Gl.putFN Y45 (tw_33 hw) Via.refl f1 f2 (Or.inr ⟨(tw_34 hw), rfl, hnm⟩) (tw_9 hw) ga (ty := .byte) (by decide) (v' := (.int (0 : Int32))) (by decide) (by decide) d_jdk_42_method_149_48 rfl (fun T48 h48 Y48 W48 => ?_)
  have f3 : Fld Z h48 a "java/lang/String" "coder" "B" (.int (0 : Int32)) := Fld.same W48 f1
  have K48 : Keep h0 h48 [a] := KK36.wr W48 (Or.inl (List.mem_of_getElem? (i := 0) rfl))
  refine Gl.aloadN Y48 rfl rfl d_jdk_42_method_149_51 rfl ?_
  refine Gl.aload Y48 rfl rfl d_jdk_42_method_149_52 rfl ?_
  have f4 : Fld Z h48 a "java/lang/String" "value" "[B" .null := (Fld.other W48 (F1.keep K36 nin0) (Or.inr (slot_ne (Or.inr (tw_36 hw)) (Or.inr (tw_34 hw)) (by decide) (t := (.array .byte)) (t' := .byte) (by decide) (by decide))))
  have f5 : Exa Z h48 a "java/lang/String" := (Exa.wr W48 f2)
  refine Gl.putF Y48 (host := "") (Or.inl (tw_35 hw)) Via.refl f4 f5 (Or.inr ⟨(tw_36 hw), rfl, hnm⟩) (tw_9 hw) ga (ty := (.array .byte)) (by decide) rfl rfl d_jdk_42_method_149_54 rfl (fun T54 h54 Y54 W54 => ?_)
  have f6 : Fld Z h54 a "java/lang/String" "value" "[B" (.ref b36) := Fld.same W54 f4
  have K54 : Keep h0 h54 [a] := K48.wr W54 (Or.inl (List.mem_of_getElem? (i := 0) rfl))
  have f7 : Exa Z h54 a "java/lang/String" := (Exa.wr W54 f5)
  have f8 : Fld Z h54 a "java/lang/String" "coder" "B" (.int (0 : Int32)) := (Fld.other W54 f3 (Or.inr (slot_ne (Or.inr (tw_34 hw)) (Or.inr (tw_36 hw)) (by decide) (t := .byte) (t' := (.array .byte)) (by decide) (by decide))))
  have f9 : Arv Z h54 b36 kb36 .byte (1 : Int32) [(.int (ch.toInt8.toInt32))] (.int (0 : Int32)) := ((f36_1.other W48 (Ne.symm (Nat.ne_of_lt (Nat.lt_of_lt_of_le E.lt f36_0)))).other W54 (Ne.symm (Nat.ne_of_lt (Nat.lt_of_lt_of_le E.lt f36_0))))
  exact Gl.retV Y54 (by decide) (by decide)  d_jdk_42_method_149_57 ⟨b36, kb36, rfl, K54, zb36, f7, f8, (by first | exact f6 | (subst_vars; exact f6) | (rw [PF]; exact f6)), f9⟩
theorem d_jdk_42_method_3_0 : decode jdk_42_method_3_code 0 = .ok (.aload_n 0, 1) := by decide +kernel
theorem d_jdk_42_method_3_1 : decode jdk_42_method_3_code 1 = .ok (.aload_n 1, 1) := by decide +kernel
theorem d_jdk_42_method_3_2 : decode jdk_42_method_3_code 2 = .ok (.iconst 0, 1) := by decide +kernel
theorem d_jdk_42_method_3_3 : decode jdk_42_method_3_code 3 = .ok (.aload_n 1, 1) := by decide +kernel
theorem d_jdk_42_method_3_4 : decode jdk_42_method_3_code 4 = .ok (.arraylength, 1) := by decide +kernel
theorem d_jdk_42_method_3_5 : decode jdk_42_method_3_code 5 = .ok (.aconst_null, 1) := by decide +kernel
theorem d_jdk_42_method_3_6 : decode jdk_42_method_3_code 6 = .ok (.invokespecial 27, 3) := by decide +kernel
theorem tw_14 {a0 : Array Value} {Z : State} (hw : ∀ d ∈ tables_1, d.before a0 Z = true) : (Jvm.Cond.methodLink "java/lang/String" (27 : Nat) ({ cls := "java/lang/String", name := "<init>", desc := "([CIILjava/lang/Void;)V" } : Jvm.MethodName)).before a0 Z = true := hw _ (List.mem_of_getElem? (i := 14) rfl)
theorem pd_3 : parseMethodDescriptor "([CIILjava/lang/Void;)V" = some ⟨[(.array .char), .int, .int, (.object "java/lang/Void")], none⟩ := by decide +kernel
theorem tw_17 {a0 : Array Value} {Z : State} (hw : ∀ d ∈ tables_1, d.before a0 Z = true) : (Jvm.Cond.code ({ cls := "java/lang/String", name := "<init>", desc := "([CIILjava/lang/Void;)V" } : Jvm.MethodName) jdk_42_method_149_code (6 : Nat) (Option.none : Option Jvm.ClassFile.FieldType)).before a0 Z = true := hw _ (List.mem_of_getElem? (i := 17) rfl)
theorem tw_10 {a0 : Array Value} {Z : State} (hw : ∀ d ∈ tables_1, d.before a0 Z = true) : (Jvm.Cond.initialized "java/lang/String").before a0 Z = true := hw _ (List.mem_of_getElem? (i := 10) rfl)
theorem tw_15 {a0 : Array Value} {Z : State} (hw : ∀ d ∈ tables_1, d.before a0 Z = true) : (Jvm.Cond.instanceMethod ({ cls := "java/lang/String", name := "<init>", desc := "([CIILjava/lang/Void;)V" } : Jvm.MethodName)).before a0 Z = true := hw _ (List.mem_of_getElem? (i := 15) rfl)
theorem d_jdk_42_method_3_9 : decode jdk_42_method_3_code 9 = .ok (.return_, 1) := by decide +kernel
def R4 : Room := { frames := 3, cells := 1, slots := 1, locals := 52 }
def Q4 (Z : State) (a : Addr) (ca : Addr) (kc : ClassId) (ch : Int32) (cs : Int32) (h0 : Heap) (v : Option Value) (h : Heap) : Prop := ∃ b : Addr, ∃ kb : ClassId, v = none ∧ Keep h0 h [a] ∧ h0.size ≤ b ∧ Exa Z h a "java/lang/String" ∧ Fld Z h a "java/lang/String" "coder" "B" (.int (0 : Int32)) ∧ Fld Z h a "java/lang/String" "value" "[B" (.ref b) ∧ Arv Z h b kb .byte (1 : Int32) [(.int (ch.toInt8.toInt32))] (.int (0 : Int32))
theorem ef4 (a : Addr) (ca : Addr) (m : MethodId) : entryFrame m #[(.ref a), (.ref ca)] 2 = mkF m 0 #[.val (.ref a), .val (.ref ca)] [] := by first | (simp [entryFrame, mkF, argsToLocals, Value.category]; done) | rfl
set_option maxRecDepth 65536 in
set_option maxHeartbeats 40000000 in
theorem rm4 (l : Launch) (Z : State) (a0 : Array Value) (hw : ∀ d ∈ tables_1, d.before a0 Z = true) (ws : List Jvm.Cond) (a : Addr) (ca : Addr) (kc : ClassId) (ch : Int32) (cs : Int32) (h0 : Heap) (n0 : Nat) (Z0 : n0 ≤ h0.size) (O : Old Z n0 h0) (S : Sta Z Z.heap "java/lang/String" "COMPACT_STRINGS" "Z" (.int cs)) (hcs : ¬ cs = 0) (E : Exa Z h0 a "java/lang/String") (F1 : Fld Z h0 a "java/lang/String" "value" "[B" .null) (F2 : Fld Z h0 a "java/lang/String" "coder" "B" (.int (0 : Int32))) (ga : n0 ≤ a) (nca : ca ≠ a) (Vc : Arv Z h0 ca kc .char (1 : Int32) [(.int ch)] (.int (0 : Int32))) (hr : ¬ 255 < ch) : OMet l Z ws (⟨"java/lang/String", "<init>", "([C)V"⟩ : MethodName) jdk_42_method_3_code 2 none R4 #[(.ref a), (.ref ca)] h0 n0 (Q4 Z a ca kc ch cs h0) := by
  refine OMet.of (plainFor_of_name pn_1) (ef4 a ca) Z0 ?_
  intro p e s m below meth c T0 Y0 hnm
  have Y0 : Sd Z "java/lang/String" jdk_42_method_3_code 2 none n0 p l e R4 s m #[(.ref a), (.ref ca)] below meth c T0 h0 0 0 := Y0
  refine Gl.aloadN Y0 rfl rfl d_jdk_42_method_3_0 rfl ?_
  refine Gl.aloadN Y0 rfl rfl d_jdk_42_method_3_1 rfl ?_
  refine Gl.iconst Y0 (v := (0 : Int32)) (by decide) d_jdk_42_method_3_2 rfl ?_
  refine Gl.aloadN Y0 rfl rfl d_jdk_42_method_3_3 rfl ?_
  refine Gl.arraylength Y0 Vc d_jdk_42_method_3_4 rfl ?_
  refine Gl.aconstNull Y0 d_jdk_42_method_3_5 rfl ?_
  refine Gl.callN Y0 rfl (tw_14 hw) (tw_15 hw) (tw_10 hw) (tw_17 hw) (by decide) (rm3 l Z a0 hw [] a ca kc ch cs h0 n0 Y0.sz O S (hcs) E F1 F2 ga nca Vc (hr)) (a := a) (argsL := [(.ref ca), (.int (0 : Int32)), (.int (1 : Int32)), .null]) (rest := []) rfl rfl (lenOf pd_3 rfl) rfl (by decide) (Nat.le_of_ble_eq_true rfl) (by decide) (by decide) d_jdk_42_method_3_6 rfl (fun v6 T6 h6 Y6 q6 => ?_)
  obtain ⟨b6, kb6, rfl, K6, f6_0, f6_1, f6_2, f6_3, f6_4⟩ := q6
  have Y6_sz : n0 ≤ h0.size := Y0.sz
  have KK6 : Keep h0 h6 [a] := (Keep.refl h0 [a]).trans K6 (allS (Or.inl (List.mem_of_getElem? (i := 0) rfl)) all0)
  have zb6 : h0.size ≤ b6 := Nat.le_trans (Keep.refl h0 [a]).1 f6_0
  show Gl p e below _ (T6.setTop (mkF m 9 #[.val (.ref a), .val (.ref ca)] []))
  exact Gl.retV Y6 (by decide) (by decide)  d_jdk_42_method_3_9 ⟨b6, kb6, rfl, KK6, zb6, f6_1, f6_2, (by first | exact f6_3 | (subst_vars; exact f6_3) | (rw [PF]; exact f6_3)), f6_4⟩
theorem d_method_3_0 : decode method_3_code 0 = .ok (.iconst 1, 1) := by decide +kernel
theorem d_method_3_1 : decode method_3_code 1 = .ok (.newarray .char, 2) := by decide +kernel
theorem tw_7 {a0 : Array Value} {Z : State} (hw : ∀ d ∈ tables_1, d.before a0 Z = true) : (Jvm.Cond.arrayClass Jvm.ClassFile.FieldType.char).before a0 Z = true := hw _ (List.mem_of_getElem? (i := 7) rfl)
theorem d_method_3_3 : decode method_3_code 3 = .ok (.astore_n 1, 1) := by decide +kernel
theorem d_method_3_4 : decode method_3_code 4 = .ok (.aload_n 1, 1) := by decide +kernel
theorem d_method_3_5 : decode method_3_code 5 = .ok (.iconst 0, 1) := by decide +kernel
theorem d_method_3_6 : decode method_3_code 6 = .ok (.iload_n 0, 1) := by decide +kernel
theorem d_method_3_7 : decode method_3_code 7 = .ok (.castore, 1) := by decide +kernel
theorem d_method_3_8 : decode method_3_code 8 = .ok (.new 27, 3) := by decide +kernel
theorem tw_8 {a0 : Array Value} {Z : State} (hw : ∀ d ∈ tables_1, d.before a0 Z = true) : (Jvm.Cond.classLink "com/example/entrole/entrole/flowable/GiftEqualsPinLaw" (27 : Nat) "java/lang/String").before a0 Z = true := hw _ (List.mem_of_getElem? (i := 8) rfl)
theorem d_method_3_11 : decode method_3_code 11 = .ok (.dup, 1) := by decide +kernel
theorem d_method_3_12 : decode method_3_code 12 = .ok (.aload_n 1, 1) := by decide +kernel
theorem d_method_3_13 : decode method_3_code 13 = .ok (.invokespecial 29, 3) := by decide +kernel
theorem tw_11 {a0 : Array Value} {Z : State} (hw : ∀ d ∈ tables_1, d.before a0 Z = true) : (Jvm.Cond.methodLink "com/example/entrole/entrole/flowable/GiftEqualsPinLaw" (29 : Nat) ({ cls := "java/lang/String", name := "<init>", desc := "([C)V" } : Jvm.MethodName)).before a0 Z = true := hw _ (List.mem_of_getElem? (i := 11) rfl)
theorem pd_4 : parseMethodDescriptor "([C)V" = some ⟨[(.array .char)], none⟩ := by decide +kernel
theorem tw_13 {a0 : Array Value} {Z : State} (hw : ∀ d ∈ tables_1, d.before a0 Z = true) : (Jvm.Cond.code ({ cls := "java/lang/String", name := "<init>", desc := "([C)V" } : Jvm.MethodName) jdk_42_method_3_code (2 : Nat) (Option.none : Option Jvm.ClassFile.FieldType)).before a0 Z = true := hw _ (List.mem_of_getElem? (i := 13) rfl)
theorem tw_12 {a0 : Array Value} {Z : State} (hw : ∀ d ∈ tables_1, d.before a0 Z = true) : (Jvm.Cond.instanceMethod ({ cls := "java/lang/String", name := "<init>", desc := "([C)V" } : Jvm.MethodName)).before a0 Z = true := hw _ (List.mem_of_getElem? (i := 12) rfl)
theorem d_method_3_16 : decode method_3_code 16 = .ok (.areturn, 1) := by decide +kernel
def R5 : Room := { frames := 4, cells := 3, slots := 6, locals := 66 }
def Q5 (Z : State) (ch : Int32) (cs : Int32) (h0 : Heap) (v : Option Value) (h : Heap) : Prop := ∃ a : Addr, ∃ b : Addr, ∃ kb : ClassId, v = some (.ref a) ∧ Keep h0 h [] ∧ h0.size ≤ a ∧ h0.size ≤ b ∧ a ≠ b ∧ Exa Z h a "java/lang/String" ∧ Fld Z h a "java/lang/String" "coder" "B" (.int (0 : Int32)) ∧ Fld Z h a "java/lang/String" "value" "[B" (.ref b) ∧ Arv Z h b kb .byte (1 : Int32) [(.int (ch.toInt8.toInt32))] (.int (0 : Int32))
theorem ef5 (ch : Int32) (m : MethodId) : entryFrame m #[(.int ch)] 2 = mkF m 0 #[.val (.int ch), .unset] [] := by first | (simp [entryFrame, mkF, argsToLocals, Value.category]; done) | rfl
theorem pn_2 : plainName "com/example/entrole/entrole/flowable/GiftEqualsPinLaw" = true := by first | (simp [plainName, overriddenIn]; done) | decide +kernel
set_option maxRecDepth 65536 in
set_option maxHeartbeats 40000000 in
theorem rm5 (l : Launch) (Z : State) (a0 : Array Value) (hw : ∀ d ∈ tables_1, d.before a0 Z = true) (ws : List Jvm.Cond) (ch : Int32) (cs : Int32) (h0 : Heap) (n0 : Nat) (Z0 : n0 ≤ h0.size) (O : Old Z n0 h0) (S : Sta Z Z.heap "java/lang/String" "COMPACT_STRINGS" "Z" (.int cs)) (hcs : ¬ cs = 0) (hrg : 0 ≤ ch.toInt ∧ ch.toInt ≤ 255) : OMet l Z ws (⟨"com/example/entrole/entrole/flowable/GiftEqualsPinLaw", "str", "(C)Ljava/lang/String;"⟩ : MethodName) method_3_code 2 (some (.object "java/lang/String")) R5 #[(.int ch)] h0 n0 (Q5 Z ch cs h0) := by
  refine OMet.of (plainFor_of_name pn_2) (ef5 ch) Z0 ?_
  intro p e s m below meth c T0 Y0 hnm
  have Y0 : Sd Z "com/example/entrole/entrole/flowable/GiftEqualsPinLaw" method_3_code 2 (some (.object "java/lang/String")) n0 p l e R5 s m #[(.int ch)] below meth c T0 h0 0 0 := Y0
  refine Gl.iconst Y0 (v := (1 : Int32)) (by decide) d_method_3_0 rfl ?_
  refine Gl.newP Y0 1 (ty := .char) rfl (tw_7 hw) (by decide) (by decide) (Nat.le_of_ble_eq_true rfl) (Nat.le_of_ble_eq_true rfl) (Nat.le_of_ble_eq_true rfl) d_method_3_1 rfl (fun T1 h1 b1 ck1 Y1 E1 g1 sb1 V1 => ?_)
  have V1 : Arv Z h1 b1 ck1 .char (1 : Int32) [(.int (0 : Int32))] (.int (0 : Int32)) := V1.pad (pad_rep [] (.int (0 : Int32)) 1)
  have zb1 : h0.size ≤ b1 := Nat.le_trans (Keep.refl h0 []).1 (Nat.le_of_eq g1.symm)
  have K1 : Keep h0 h1 [] := (Keep.refl h0 []).ext E1
  show Gl p e below _ (T1.setTop (mkF m 3 #[.val (.int ch), .unset] [(.ref b1)]))
  refine Gl.astoreN Y1 rfl (L' := #[.val (.int ch), .val (.ref b1)]) rfl d_method_3_3 rfl ?_
  refine Gl.aloadN Y1 rfl rfl d_method_3_4 rfl ?_
  refine Gl.iconst Y1 (v := (0 : Int32)) (by decide) d_method_3_5 rfl ?_
  refine Gl.iloadN Y1 rfl d_method_3_6 rfl ?_
  refine Gl.castore Y1 V1 (v := (.int ch)) (congrArg Value.int (own_narCr hrg.1 hrg.2)) ⟨by decide, by decide⟩ (ix := 0) rfl (Nat.le_of_ble_eq_true rfl) sb1 d_method_3_7 rfl (fun T7 h7 Y7 W7 A7 => ?_)
  have A7 : Arv Z h7 b1 ck1 .char (1 : Int32) [(.int ch)] (.int (0 : Int32)) := A7
  have K7 : Keep h0 h7 [] := K1.wr W7 (Or.inr zb1)
  show Gl p e below _ (T7.setTop (mkF m 8 #[.val (.int ch), .val (.ref b1)] []))
  refine Gl.newO Y7 (tw_8 hw) (tw_9 hw) (tw_10 hw) (by decide) (by decide) d_method_3_8 rfl (fun T8 h8 b8 Y8 E8 g8 sb8 X8 D8 => ?_)
  have f1 : Fld Z h8 b8 "java/lang/String" "coder" "B" (.int (0 : Int32)) := D8 (Or.inr (tw_34 hw)) (ty := .byte) (by decide)
  have f2 : Fld Z h8 b8 "java/lang/String" "value" "[B" .null := D8 (Or.inr (tw_36 hw)) (ty := (.array .byte)) (by decide)
  have zb8 : h0.size ≤ b8 := Nat.le_trans K7.1 (Nat.le_of_eq g8.symm)
  have K8 : Keep h0 h8 [] := K7.ext E8
  show Gl p e below _ (T8.setTop (mkF m 11 #[.val (.int ch), .val (.ref b1)] [(.ref b8)]))
  refine Gl.dup Y8 rfl d_method_3_11 rfl ?_
  refine Gl.aloadN Y8 rfl rfl d_method_3_12 rfl ?_
  have f3 : Old Z n0 h8 := (((O.ext E1).wr W7 sb1).ext E8)
  have f4 : Arv Z h8 b1 ck1 .char (1 : Int32) [(.int ch)] (.int (0 : Int32)) := (A7.ext E8)
  refine Gl.callN Y8 rfl (tw_11 hw) (tw_12 hw) (tw_10 hw) (tw_13 hw) (by decide) (rm4 l Z a0 hw [] b8 b1 ck1 ch cs h8 n0 Y8.sz f3 S (hcs) X8 f2 f1 sb8 (Nat.ne_of_lt (Nat.lt_of_lt_of_eq A7.lt g8.symm)) f4 (fun q => absurd (Int32.lt_iff_toInt_lt.mp q) (by simp only [Int32.reduceToInt]; omega))) (a := b8) (argsL := [(.ref b1)]) (rest := [(.ref b8)]) rfl rfl (lenOf pd_4 rfl) rfl (by decide) (Nat.le_of_ble_eq_true rfl) (by decide) (by decide) d_method_3_13 rfl (fun v13 T13 h13 Y13 q13 => ?_)
  obtain ⟨b13, kb13, rfl, K13, f13_0, f13_1, f13_2, f13_3, f13_4⟩ := q13
  have Y13_sz : n0 ≤ h8.size := Y8.sz
  have KK13 : Keep h0 h13 [] := K8.trans K13 (allS (Or.inr zb8) all0)
  have zb13 : h0.size ≤ b13 := Nat.le_trans K8.1 f13_0
  show Gl p e below _ (T13.setTop (mkF m 16 #[.val (.int ch), .val (.ref b1)] [(.ref b8)]))
  exact Gl.retA Y13 (by decide) (by decide) rfl rfl d_method_3_16 ⟨b8, b13, kb13, rfl, KK13, zb8, zb13, (Nat.ne_of_lt (Nat.lt_of_lt_of_le X8.lt f13_0)), f13_1, f13_2, (by first | exact f13_3 | (subst_vars; exact f13_3) | (rw [PF]; exact f13_3)), f13_4⟩
theorem d_prog_8_method_1_0 : decode prog_8_method_1_code 0 = .ok (.aload_n 0, 1) := by decide +kernel
theorem d_prog_8_method_1_1 : decode prog_8_method_1_code 1 = .ok (.invokespecial 1, 3) := by decide +kernel
theorem tw_45 {a0 : Array Value} {Z : State} (hw : ∀ d ∈ tables_1, d.before a0 Z = true) : (Jvm.Cond.methodLink "com/example/entrole/entrole/flowable/CaseChange" (1 : Nat) ({ cls := "java/lang/Object", name := "<init>", desc := "()V" } : Jvm.MethodName)).before a0 Z = true := hw _ (List.mem_of_getElem? (i := 45) rfl)
theorem d_prog_8_method_1_4 : decode prog_8_method_1_code 4 = .ok (.aload_n 0, 1) := by decide +kernel
theorem d_prog_8_method_1_5 : decode prog_8_method_1_code 5 = .ok (.aload_n 1, 1) := by decide +kernel
theorem d_prog_8_method_1_6 : decode prog_8_method_1_code 6 = .ok (.putfield 7, 3) := by decide +kernel
theorem tw_46 {a0 : Array Value} {Z : State} (hw : ∀ d ∈ tables_1, d.before a0 Z = true) : (Jvm.Cond.fieldLink "com/example/entrole/entrole/flowable/CaseChange" (7 : Nat) "com/example/entrole/entrole/flowable/CaseChange" "caseName" "Ljava/lang/String;").before a0 Z = true := hw _ (List.mem_of_getElem? (i := 46) rfl)
theorem tw_47 {a0 : Array Value} {Z : State} (hw : ∀ d ∈ tables_1, d.before a0 Z = true) : (Jvm.Cond.laysFinal "com/example/entrole/entrole/flowable/CaseChange$Gift" "com/example/entrole/entrole/flowable/CaseChange" "caseName" "Ljava/lang/String;").before a0 Z = true := hw _ (List.mem_of_getElem? (i := 47) rfl)
theorem tw_1 {a0 : Array Value} {Z : State} (hw : ∀ d ∈ tables_1, d.before a0 Z = true) : (Jvm.Cond.instantiable "com/example/entrole/entrole/flowable/CaseChange$Gift" (3 : Nat)).before a0 Z = true := hw _ (List.mem_of_getElem? (i := 1) rfl)
theorem d_prog_8_method_1_9 : decode prog_8_method_1_code 9 = .ok (.return_, 1) := by decide +kernel
theorem tw_49 {a0 : Array Value} {Z : State} (hw : ∀ d ∈ tables_1, d.before a0 Z = true) : (Jvm.Cond.laysFinal "com/example/entrole/entrole/flowable/CaseChange$Gift" "com/example/entrole/entrole/flowable/CaseChange$Gift" "task" "Ljava/lang/String;").before a0 Z = true := hw _ (List.mem_of_getElem? (i := 49) rfl)
theorem tw_51 {a0 : Array Value} {Z : State} (hw : ∀ d ∈ tables_1, d.before a0 Z = true) : (Jvm.Cond.laysFinal "com/example/entrole/entrole/flowable/CaseChange$Gift" "com/example/entrole/entrole/flowable/CaseChange$Gift" "subject" "Ljava/lang/String;").before a0 Z = true := hw _ (List.mem_of_getElem? (i := 51) rfl)
def R6 : Room := { frames := 1, cells := 0, slots := 0, locals := 12 }
def Q6 (Z : State) (a : Addr) (x1 : Addr) (h0 : Heap) (v : Option Value) (h : Heap) : Prop := v = none ∧ Keep h0 h [a] ∧ Exa Z h a "com/example/entrole/entrole/flowable/CaseChange$Gift" ∧ Fld Z h a "com/example/entrole/entrole/flowable/CaseChange" "caseName" "Ljava/lang/String;" (.ref x1) ∧ Fld Z h a "com/example/entrole/entrole/flowable/CaseChange$Gift" "task" "Ljava/lang/String;" .null ∧ Fld Z h a "com/example/entrole/entrole/flowable/CaseChange$Gift" "subject" "Ljava/lang/String;" .null
theorem ef6 (a : Addr) (x1 : Addr) (m : MethodId) : entryFrame m #[(.ref a), (.ref x1)] 2 = mkF m 0 #[.val (.ref a), .val (.ref x1)] [] := by first | (simp [entryFrame, mkF, argsToLocals, Value.category]; done) | rfl
theorem pn_3 : plainName "com/example/entrole/entrole/flowable/CaseChange" = true := by first | (simp [plainName, overriddenIn]; done) | decide +kernel
set_option maxRecDepth 65536 in
set_option maxHeartbeats 40000000 in
theorem rm6 (l : Launch) (Z : State) (a0 : Array Value) (hw : ∀ d ∈ tables_1, d.before a0 Z = true) (ws : List Jvm.Cond) (a : Addr) (x1 : Addr) (h0 : Heap) (n0 : Nat) (Z0 : n0 ≤ h0.size) (E : Exa Z h0 a "com/example/entrole/entrole/flowable/CaseChange$Gift") (F1 : Fld Z h0 a "com/example/entrole/entrole/flowable/CaseChange" "caseName" "Ljava/lang/String;" .null) (G0 : Fld Z h0 a "com/example/entrole/entrole/flowable/CaseChange$Gift" "task" "Ljava/lang/String;" .null) (G1 : Fld Z h0 a "com/example/entrole/entrole/flowable/CaseChange$Gift" "subject" "Ljava/lang/String;" .null) (ga : n0 ≤ a) : OMet l Z ws (⟨"com/example/entrole/entrole/flowable/CaseChange", "<init>", "(Ljava/lang/String;)V"⟩ : MethodName) prog_8_method_1_code 2 none R6 #[(.ref a), (.ref x1)] h0 n0 (Q6 Z a x1 h0) := by
  refine OMet.of (plainFor_of_name pn_3) (ef6 a x1) Z0 ?_
  intro p e s m below meth c T0 Y0 hnm
  have Y0 : Sd Z "com/example/entrole/entrole/flowable/CaseChange" prog_8_method_1_code 2 none n0 p l e R6 s m #[(.ref a), (.ref x1)] below meth c T0 h0 0 0 := Y0
  refine Gl.aloadN Y0 rfl rfl d_prog_8_method_1_0 rfl ?_
  refine Gl.initO Y0 (tw_45 hw) (tw_19 hw) (tw_20 hw) rfl (by decide) (Nat.le_of_ble_eq_true rfl) d_prog_8_method_1_1 rfl (fun T1 Y1 => ?_)
  refine Gl.aloadN Y1 rfl rfl d_prog_8_method_1_4 rfl ?_
  refine Gl.aloadN Y1 rfl rfl d_prog_8_method_1_5 rfl ?_
  refine Gl.putF Y1 (host := "") (Or.inl (tw_46 hw)) Via.refl F1 E (Or.inr ⟨(tw_47 hw), rfl, hnm⟩) (tw_1 hw) ga (ty := (.object "java/lang/String")) (by decide) rfl rfl d_prog_8_method_1_6 rfl (fun T6 h6 Y6 W6 => ?_)
  have f1 : Fld Z h6 a "com/example/entrole/entrole/flowable/CaseChange" "caseName" "Ljava/lang/String;" (.ref x1) := Fld.same W6 F1
  have K6 : Keep h0 h6 [a] := (Keep.refl h0 [a]).wr W6 (Or.inl (List.mem_of_getElem? (i := 0) rfl))
  have f2 : Exa Z h6 a "com/example/entrole/entrole/flowable/CaseChange$Gift" := (Exa.wr W6 E)
  have f3 : Fld Z h6 a "com/example/entrole/entrole/flowable/CaseChange$Gift" "task" "Ljava/lang/String;" .null := (Fld.other W6 G0 (Or.inr (slot_ne (Or.inr (tw_49 hw)) (Or.inr (tw_47 hw)) (by decide) (t := (.object "java/lang/String")) (t' := (.object "java/lang/String")) (by decide) (by decide))))
  have f4 : Fld Z h6 a "com/example/entrole/entrole/flowable/CaseChange$Gift" "subject" "Ljava/lang/String;" .null := (Fld.other W6 G1 (Or.inr (slot_ne (Or.inr (tw_51 hw)) (Or.inr (tw_47 hw)) (by decide) (t := (.object "java/lang/String")) (t' := (.object "java/lang/String")) (by decide) (by decide))))
  exact Gl.retV Y6 (by decide) (by decide)  d_prog_8_method_1_9 ⟨rfl, K6, f2, f1, f3, f4⟩
theorem tw_82 {a0 : Array Value} {Z : State} (hw : ∀ d ∈ tables_1, d.before a0 Z = true) : (Jvm.Cond.laysFinal "com/example/entrole/entrole/flowable/CaseChange$Start" "com/example/entrole/entrole/flowable/CaseChange" "caseName" "Ljava/lang/String;").before a0 Z = true := hw _ (List.mem_of_getElem? (i := 82) rfl)
theorem tw_76 {a0 : Array Value} {Z : State} (hw : ∀ d ∈ tables_1, d.before a0 Z = true) : (Jvm.Cond.instantiable "com/example/entrole/entrole/flowable/CaseChange$Start" (2 : Nat)).before a0 Z = true := hw _ (List.mem_of_getElem? (i := 76) rfl)
theorem tw_84 {a0 : Array Value} {Z : State} (hw : ∀ d ∈ tables_1, d.before a0 Z = true) : (Jvm.Cond.laysFinal "com/example/entrole/entrole/flowable/CaseChange$Start" "com/example/entrole/entrole/flowable/CaseChange$Start" "process" "Ljava/lang/String;").before a0 Z = true := hw _ (List.mem_of_getElem? (i := 84) rfl)
def R7 : Room := { frames := 1, cells := 0, slots := 0, locals := 12 }
def Q7 (Z : State) (a : Addr) (x1 : Addr) (h0 : Heap) (v : Option Value) (h : Heap) : Prop := v = none ∧ Keep h0 h [a] ∧ Exa Z h a "com/example/entrole/entrole/flowable/CaseChange$Start" ∧ Fld Z h a "com/example/entrole/entrole/flowable/CaseChange" "caseName" "Ljava/lang/String;" (.ref x1) ∧ Fld Z h a "com/example/entrole/entrole/flowable/CaseChange$Start" "process" "Ljava/lang/String;" .null
theorem ef7 (a : Addr) (x1 : Addr) (m : MethodId) : entryFrame m #[(.ref a), (.ref x1)] 2 = mkF m 0 #[.val (.ref a), .val (.ref x1)] [] := by first | (simp [entryFrame, mkF, argsToLocals, Value.category]; done) | rfl
set_option maxRecDepth 65536 in
set_option maxHeartbeats 40000000 in
theorem rm7 (l : Launch) (Z : State) (a0 : Array Value) (hw : ∀ d ∈ tables_1, d.before a0 Z = true) (ws : List Jvm.Cond) (a : Addr) (x1 : Addr) (h0 : Heap) (n0 : Nat) (Z0 : n0 ≤ h0.size) (E : Exa Z h0 a "com/example/entrole/entrole/flowable/CaseChange$Start") (F1 : Fld Z h0 a "com/example/entrole/entrole/flowable/CaseChange" "caseName" "Ljava/lang/String;" .null) (G0 : Fld Z h0 a "com/example/entrole/entrole/flowable/CaseChange$Start" "process" "Ljava/lang/String;" .null) (ga : n0 ≤ a) : OMet l Z ws (⟨"com/example/entrole/entrole/flowable/CaseChange", "<init>", "(Ljava/lang/String;)V"⟩ : MethodName) prog_8_method_1_code 2 none R7 #[(.ref a), (.ref x1)] h0 n0 (Q7 Z a x1 h0) := by
  refine OMet.of (plainFor_of_name pn_3) (ef7 a x1) Z0 ?_
  intro p e s m below meth c T0 Y0 hnm
  have Y0 : Sd Z "com/example/entrole/entrole/flowable/CaseChange" prog_8_method_1_code 2 none n0 p l e R7 s m #[(.ref a), (.ref x1)] below meth c T0 h0 0 0 := Y0
  refine Gl.aloadN Y0 rfl rfl d_prog_8_method_1_0 rfl ?_
  refine Gl.initO Y0 (tw_45 hw) (tw_19 hw) (tw_20 hw) rfl (by decide) (Nat.le_of_ble_eq_true rfl) d_prog_8_method_1_1 rfl (fun T1 Y1 => ?_)
  refine Gl.aloadN Y1 rfl rfl d_prog_8_method_1_4 rfl ?_
  refine Gl.aloadN Y1 rfl rfl d_prog_8_method_1_5 rfl ?_
  refine Gl.putF Y1 (host := "") (Or.inl (tw_46 hw)) Via.refl F1 E (Or.inr ⟨(tw_82 hw), rfl, hnm⟩) (tw_76 hw) ga (ty := (.object "java/lang/String")) (by decide) rfl rfl d_prog_8_method_1_6 rfl (fun T6 h6 Y6 W6 => ?_)
  have f1 : Fld Z h6 a "com/example/entrole/entrole/flowable/CaseChange" "caseName" "Ljava/lang/String;" (.ref x1) := Fld.same W6 F1
  have K6 : Keep h0 h6 [a] := (Keep.refl h0 [a]).wr W6 (Or.inl (List.mem_of_getElem? (i := 0) rfl))
  have f2 : Exa Z h6 a "com/example/entrole/entrole/flowable/CaseChange$Start" := (Exa.wr W6 E)
  have f3 : Fld Z h6 a "com/example/entrole/entrole/flowable/CaseChange$Start" "process" "Ljava/lang/String;" .null := (Fld.other W6 G0 (Or.inr (slot_ne (Or.inr (tw_84 hw)) (Or.inr (tw_82 hw)) (by decide) (t := (.object "java/lang/String")) (t' := (.object "java/lang/String")) (by decide) (by decide))))
  exact Gl.retV Y6 (by decide) (by decide)  d_prog_8_method_1_9 ⟨rfl, K6, f2, f1, f3⟩
theorem d_prog_9_method_1_0 : decode prog_9_method_1_code 0 = .ok (.aload_n 0, 1) := by decide +kernel
theorem d_prog_9_method_1_1 : decode prog_9_method_1_code 1 = .ok (.aload_n 1, 1) := by decide +kernel
theorem d_prog_9_method_1_2 : decode prog_9_method_1_code 2 = .ok (.invokespecial 1, 3) := by decide +kernel
theorem tw_40 {a0 : Array Value} {Z : State} (hw : ∀ d ∈ tables_1, d.before a0 Z = true) : (Jvm.Cond.methodLinkNest "com/example/entrole/entrole/flowable/CaseChange$Gift" (1 : Nat) ({ cls := "com/example/entrole/entrole/flowable/CaseChange", name := "<init>", desc := "(Ljava/lang/String;)V" } : Jvm.MethodName) "com/example/entrole/entrole/flowable/CaseChange").before a0 Z = true := hw _ (List.mem_of_getElem? (i := 40) rfl)
theorem pd_5 : parseMethodDescriptor "(Ljava/lang/String;)V" = some ⟨[(.object "java/lang/String")], none⟩ := by decide +kernel
theorem tw_44 {a0 : Array Value} {Z : State} (hw : ∀ d ∈ tables_1, d.before a0 Z = true) : (Jvm.Cond.code ({ cls := "com/example/entrole/entrole/flowable/CaseChange", name := "<init>", desc := "(Ljava/lang/String;)V" } : Jvm.MethodName) prog_8_method_1_code (2 : Nat) (Option.none : Option Jvm.ClassFile.FieldType)).before a0 Z = true := hw _ (List.mem_of_getElem? (i := 44) rfl)
theorem tw_43 {a0 : Array Value} {Z : State} (hw : ∀ d ∈ tables_1, d.before a0 Z = true) : (Jvm.Cond.initialized "com/example/entrole/entrole/flowable/CaseChange").before a0 Z = true := hw _ (List.mem_of_getElem? (i := 43) rfl)
theorem tw_41 {a0 : Array Value} {Z : State} (hw : ∀ d ∈ tables_1, d.before a0 Z = true) : (Jvm.Cond.instanceMethod ({ cls := "com/example/entrole/entrole/flowable/CaseChange", name := "<init>", desc := "(Ljava/lang/String;)V" } : Jvm.MethodName)).before a0 Z = true := hw _ (List.mem_of_getElem? (i := 41) rfl)
theorem d_prog_9_method_1_5 : decode prog_9_method_1_code 5 = .ok (.aload_n 0, 1) := by decide +kernel
theorem d_prog_9_method_1_6 : decode prog_9_method_1_code 6 = .ok (.aload_n 2, 1) := by decide +kernel
theorem d_prog_9_method_1_7 : decode prog_9_method_1_code 7 = .ok (.putfield 7, 3) := by decide +kernel
theorem tw_48 {a0 : Array Value} {Z : State} (hw : ∀ d ∈ tables_1, d.before a0 Z = true) : (Jvm.Cond.fieldLink "com/example/entrole/entrole/flowable/CaseChange$Gift" (7 : Nat) "com/example/entrole/entrole/flowable/CaseChange$Gift" "task" "Ljava/lang/String;").before a0 Z = true := hw _ (List.mem_of_getElem? (i := 48) rfl)
theorem d_prog_9_method_1_10 : decode prog_9_method_1_code 10 = .ok (.aload_n 0, 1) := by decide +kernel
theorem d_prog_9_method_1_11 : decode prog_9_method_1_code 11 = .ok (.aload_n 3, 1) := by decide +kernel
theorem d_prog_9_method_1_12 : decode prog_9_method_1_code 12 = .ok (.putfield 13, 3) := by decide +kernel
theorem tw_50 {a0 : Array Value} {Z : State} (hw : ∀ d ∈ tables_1, d.before a0 Z = true) : (Jvm.Cond.fieldLink "com/example/entrole/entrole/flowable/CaseChange$Gift" (13 : Nat) "com/example/entrole/entrole/flowable/CaseChange$Gift" "subject" "Ljava/lang/String;").before a0 Z = true := hw _ (List.mem_of_getElem? (i := 50) rfl)
theorem d_prog_9_method_1_15 : decode prog_9_method_1_code 15 = .ok (.return_, 1) := by decide +kernel
def R8 : Room := { frames := 2, cells := 0, slots := 0, locals := 25 }
def Q8 (Z : State) (a : Addr) (x1 : Addr) (x2 : Addr) (x3 : Addr) (h0 : Heap) (v : Option Value) (h : Heap) : Prop := v = none ∧ Keep h0 h [a] ∧ Exa Z h a "com/example/entrole/entrole/flowable/CaseChange$Gift" ∧ Fld Z h a "com/example/entrole/entrole/flowable/CaseChange" "caseName" "Ljava/lang/String;" (.ref x1) ∧ Fld Z h a "com/example/entrole/entrole/flowable/CaseChange$Gift" "task" "Ljava/lang/String;" (.ref x2) ∧ Fld Z h a "com/example/entrole/entrole/flowable/CaseChange$Gift" "subject" "Ljava/lang/String;" (.ref x3)
theorem ef8 (a : Addr) (x1 : Addr) (x2 : Addr) (x3 : Addr) (m : MethodId) : entryFrame m #[(.ref a), (.ref x1), (.ref x2), (.ref x3)] 4 = mkF m 0 #[.val (.ref a), .val (.ref x1), .val (.ref x2), .val (.ref x3)] [] := by first | (simp [entryFrame, mkF, argsToLocals, Value.category]; done) | rfl
theorem pn_4 : plainName "com/example/entrole/entrole/flowable/CaseChange$Gift" = true := by first | (simp [plainName, overriddenIn]; done) | decide +kernel
set_option maxRecDepth 65536 in
set_option maxHeartbeats 40000000 in
theorem rm8 (l : Launch) (Z : State) (a0 : Array Value) (hw : ∀ d ∈ tables_1, d.before a0 Z = true) (ws : List Jvm.Cond) (a : Addr) (x1 : Addr) (x2 : Addr) (x3 : Addr) (h0 : Heap) (n0 : Nat) (Z0 : n0 ≤ h0.size) (E : Exa Z h0 a "com/example/entrole/entrole/flowable/CaseChange$Gift") (F1 : Fld Z h0 a "com/example/entrole/entrole/flowable/CaseChange" "caseName" "Ljava/lang/String;" .null) (F2 : Fld Z h0 a "com/example/entrole/entrole/flowable/CaseChange$Gift" "task" "Ljava/lang/String;" .null) (F3 : Fld Z h0 a "com/example/entrole/entrole/flowable/CaseChange$Gift" "subject" "Ljava/lang/String;" .null) (ga : n0 ≤ a) : OMet l Z ws (⟨"com/example/entrole/entrole/flowable/CaseChange$Gift", "<init>", "(Ljava/lang/String;Ljava/lang/String;Ljava/lang/String;)V"⟩ : MethodName) prog_9_method_1_code 4 none R8 #[(.ref a), (.ref x1), (.ref x2), (.ref x3)] h0 n0 (Q8 Z a x1 x2 x3 h0) := by
  refine OMet.of (plainFor_of_name pn_4) (ef8 a x1 x2 x3) Z0 ?_
  intro p e s m below meth c T0 Y0 hnm
  have Y0 : Sd Z "com/example/entrole/entrole/flowable/CaseChange$Gift" prog_9_method_1_code 4 none n0 p l e R8 s m #[(.ref a), (.ref x1), (.ref x2), (.ref x3)] below meth c T0 h0 0 0 := Y0
  refine Gl.aloadN Y0 rfl rfl d_prog_9_method_1_0 rfl ?_
  refine Gl.aloadN Y0 rfl rfl d_prog_9_method_1_1 rfl ?_
  refine Gl.callNN Y0 rfl (tw_40 hw) (tw_41 hw) (tw_43 hw) (tw_44 hw) (by decide) (rm6 l Z a0 hw [] a x1 h0 n0 Y0.sz E F1 F2 F3 ga) (a := a) (argsL := [(.ref x1)]) (rest := []) rfl rfl (lenOf pd_5 rfl) rfl (by decide) (Nat.le_of_ble_eq_true rfl) (by decide) (by decide) d_prog_9_method_1_2 rfl (fun v2 T2 h2 Y2 q2 => ?_)
  obtain ⟨rfl, K2, f2_0, f2_1, f2_2, f2_3⟩ := q2
  have KK2 : Keep h0 h2 [a] := (Keep.refl h0 [a]).trans K2 (allS (Or.inl (List.mem_of_getElem? (i := 0) rfl)) all0)
  show Gl p e below _ (T2.setTop (mkF m 5 #[.val (.ref a), .val (.ref x1), .val (.ref x2), .val (.ref x3)] []))
  refine Gl.aloadN Y2 rfl rfl d_prog_9_method_1_5 rfl ?_
  refine Gl.aloadN Y2 rfl rfl d_prog_9_method_1_6 rfl ?_
  refine Gl.putF Y2 (host := "") (Or.inl (tw_48 hw)) Via.refl f2_2 f2_0 (Or.inr ⟨(tw_49 hw), rfl, hnm⟩) (tw_1 hw) ga (ty := (.object "java/lang/String")) (by decide) rfl rfl d_prog_9_method_1_7 rfl (fun T7 h7 Y7 W7 => ?_)
  have f1 : Fld Z h7 a "com/example/entrole/entrole/flowable/CaseChange$Gift" "task" "Ljava/lang/String;" (.ref x2) := Fld.same W7 f2_2
  have K7 : Keep h0 h7 [a] := KK2.wr W7 (Or.inl (List.mem_of_getElem? (i := 0) rfl))
  refine Gl.aloadN Y7 rfl rfl d_prog_9_method_1_10 rfl ?_
  refine Gl.aloadN Y7 rfl rfl d_prog_9_method_1_11 rfl ?_
  have f2 : Fld Z h7 a "com/example/entrole/entrole/flowable/CaseChange$Gift" "subject" "Ljava/lang/String;" .null := (Fld.other W7 f2_3 (Or.inr (slot_ne (Or.inr (tw_51 hw)) (Or.inr (tw_49 hw)) (by decide) (t := (.object "java/lang/String")) (t' := (.object "java/lang/String")) (by decide) (by decide))))
  have f3 : Exa Z h7 a "com/example/entrole/entrole/flowable/CaseChange$Gift" := (Exa.wr W7 f2_0)
  refine Gl.putF Y7 (host := "") (Or.inl (tw_50 hw)) Via.refl f2 f3 (Or.inr ⟨(tw_51 hw), rfl, hnm⟩) (tw_1 hw) ga (ty := (.object "java/lang/String")) (by decide) rfl rfl d_prog_9_method_1_12 rfl (fun T12 h12 Y12 W12 => ?_)
  have f4 : Fld Z h12 a "com/example/entrole/entrole/flowable/CaseChange$Gift" "subject" "Ljava/lang/String;" (.ref x3) := Fld.same W12 f2
  have K12 : Keep h0 h12 [a] := K7.wr W12 (Or.inl (List.mem_of_getElem? (i := 0) rfl))
  have f5 : Exa Z h12 a "com/example/entrole/entrole/flowable/CaseChange$Gift" := (Exa.wr W12 f3)
  have f6 : Fld Z h12 a "com/example/entrole/entrole/flowable/CaseChange" "caseName" "Ljava/lang/String;" (.ref x1) := (Fld.other W12 (Fld.other W7 f2_1 (Or.inr (slot_ne (Or.inr (tw_47 hw)) (Or.inr (tw_49 hw)) (by decide) (t := (.object "java/lang/String")) (t' := (.object "java/lang/String")) (by decide) (by decide)))) (Or.inr (slot_ne (Or.inr (tw_47 hw)) (Or.inr (tw_51 hw)) (by decide) (t := (.object "java/lang/String")) (t' := (.object "java/lang/String")) (by decide) (by decide))))
  have f7 : Fld Z h12 a "com/example/entrole/entrole/flowable/CaseChange$Gift" "task" "Ljava/lang/String;" (.ref x2) := (Fld.other W12 f1 (Or.inr (slot_ne (Or.inr (tw_49 hw)) (Or.inr (tw_51 hw)) (by decide) (t := (.object "java/lang/String")) (t' := (.object "java/lang/String")) (by decide) (by decide))))
  exact Gl.retV Y12 (by decide) (by decide)  d_prog_9_method_1_15 ⟨rfl, K12, f5, f6, f7, f4⟩
theorem d_prog_10_method_1_0 : decode prog_10_method_1_code 0 = .ok (.aload_n 0, 1) := by decide +kernel
theorem d_prog_10_method_1_1 : decode prog_10_method_1_code 1 = .ok (.aload_n 1, 1) := by decide +kernel
theorem d_prog_10_method_1_2 : decode prog_10_method_1_code 2 = .ok (.invokespecial 1, 3) := by decide +kernel
theorem tw_81 {a0 : Array Value} {Z : State} (hw : ∀ d ∈ tables_1, d.before a0 Z = true) : (Jvm.Cond.methodLinkNest "com/example/entrole/entrole/flowable/CaseChange$Start" (1 : Nat) ({ cls := "com/example/entrole/entrole/flowable/CaseChange", name := "<init>", desc := "(Ljava/lang/String;)V" } : Jvm.MethodName) "com/example/entrole/entrole/flowable/CaseChange").before a0 Z = true := hw _ (List.mem_of_getElem? (i := 81) rfl)
theorem d_prog_10_method_1_5 : decode prog_10_method_1_code 5 = .ok (.aload_n 0, 1) := by decide +kernel
theorem d_prog_10_method_1_6 : decode prog_10_method_1_code 6 = .ok (.aload_n 2, 1) := by decide +kernel
theorem d_prog_10_method_1_7 : decode prog_10_method_1_code 7 = .ok (.putfield 7, 3) := by decide +kernel
theorem tw_83 {a0 : Array Value} {Z : State} (hw : ∀ d ∈ tables_1, d.before a0 Z = true) : (Jvm.Cond.fieldLink "com/example/entrole/entrole/flowable/CaseChange$Start" (7 : Nat) "com/example/entrole/entrole/flowable/CaseChange$Start" "process" "Ljava/lang/String;").before a0 Z = true := hw _ (List.mem_of_getElem? (i := 83) rfl)
theorem d_prog_10_method_1_10 : decode prog_10_method_1_code 10 = .ok (.return_, 1) := by decide +kernel
def R9 : Room := { frames := 2, cells := 0, slots := 0, locals := 25 }
def Q9 (Z : State) (a : Addr) (x1 : Addr) (x2 : Addr) (h0 : Heap) (v : Option Value) (h : Heap) : Prop := v = none ∧ Keep h0 h [a] ∧ Exa Z h a "com/example/entrole/entrole/flowable/CaseChange$Start"
theorem ef9 (a : Addr) (x1 : Addr) (x2 : Addr) (m : MethodId) : entryFrame m #[(.ref a), (.ref x1), (.ref x2)] 3 = mkF m 0 #[.val (.ref a), .val (.ref x1), .val (.ref x2)] [] := by first | (simp [entryFrame, mkF, argsToLocals, Value.category]; done) | rfl
theorem pn_5 : plainName "com/example/entrole/entrole/flowable/CaseChange$Start" = true := by first | (simp [plainName, overriddenIn]; done) | decide +kernel
set_option maxRecDepth 65536 in
set_option maxHeartbeats 40000000 in
theorem rm9 (l : Launch) (Z : State) (a0 : Array Value) (hw : ∀ d ∈ tables_1, d.before a0 Z = true) (ws : List Jvm.Cond) (a : Addr) (x1 : Addr) (x2 : Addr) (h0 : Heap) (n0 : Nat) (Z0 : n0 ≤ h0.size) (E : Exa Z h0 a "com/example/entrole/entrole/flowable/CaseChange$Start") (F1 : Fld Z h0 a "com/example/entrole/entrole/flowable/CaseChange" "caseName" "Ljava/lang/String;" .null) (F2 : Fld Z h0 a "com/example/entrole/entrole/flowable/CaseChange$Start" "process" "Ljava/lang/String;" .null) (ga : n0 ≤ a) : OMet l Z ws (⟨"com/example/entrole/entrole/flowable/CaseChange$Start", "<init>", "(Ljava/lang/String;Ljava/lang/String;)V"⟩ : MethodName) prog_10_method_1_code 3 none R9 #[(.ref a), (.ref x1), (.ref x2)] h0 n0 (Q9 Z a x1 x2 h0) := by
  refine OMet.of (plainFor_of_name pn_5) (ef9 a x1 x2) Z0 ?_
  intro p e s m below meth c T0 Y0 hnm
  have Y0 : Sd Z "com/example/entrole/entrole/flowable/CaseChange$Start" prog_10_method_1_code 3 none n0 p l e R9 s m #[(.ref a), (.ref x1), (.ref x2)] below meth c T0 h0 0 0 := Y0
  refine Gl.aloadN Y0 rfl rfl d_prog_10_method_1_0 rfl ?_
  refine Gl.aloadN Y0 rfl rfl d_prog_10_method_1_1 rfl ?_
  refine Gl.callNN Y0 rfl (tw_81 hw) (tw_41 hw) (tw_43 hw) (tw_44 hw) (by decide) (rm7 l Z a0 hw [] a x1 h0 n0 Y0.sz E F1 F2 ga) (a := a) (argsL := [(.ref x1)]) (rest := []) rfl rfl (lenOf pd_5 rfl) rfl (by decide) (Nat.le_of_ble_eq_true rfl) (by decide) (by decide) d_prog_10_method_1_2 rfl (fun v2 T2 h2 Y2 q2 => ?_)
  obtain ⟨rfl, K2, f2_0, f2_1, f2_2⟩ := q2
  have KK2 : Keep h0 h2 [a] := (Keep.refl h0 [a]).trans K2 (allS (Or.inl (List.mem_of_getElem? (i := 0) rfl)) all0)
  show Gl p e below _ (T2.setTop (mkF m 5 #[.val (.ref a), .val (.ref x1), .val (.ref x2)] []))
  refine Gl.aloadN Y2 rfl rfl d_prog_10_method_1_5 rfl ?_
  refine Gl.aloadN Y2 rfl rfl d_prog_10_method_1_6 rfl ?_
  refine Gl.putF Y2 (host := "") (Or.inl (tw_83 hw)) Via.refl f2_2 f2_0 (Or.inr ⟨(tw_84 hw), rfl, hnm⟩) (tw_76 hw) ga (ty := (.object "java/lang/String")) (by decide) rfl rfl d_prog_10_method_1_7 rfl (fun T7 h7 Y7 W7 => ?_)
  have f1 : Fld Z h7 a "com/example/entrole/entrole/flowable/CaseChange$Start" "process" "Ljava/lang/String;" (.ref x2) := Fld.same W7 f2_2
  have K7 : Keep h0 h7 [a] := KK2.wr W7 (Or.inl (List.mem_of_getElem? (i := 0) rfl))
  have f2 : Exa Z h7 a "com/example/entrole/entrole/flowable/CaseChange$Start" := (Exa.wr W7 f2_0)
  exact Gl.retV Y7 (by decide) (by decide)  d_prog_10_method_1_10 ⟨rfl, K7, f2⟩
theorem d_prog_8_method_2_0 : decode prog_8_method_2_code 0 = .ok (.aload_n 0, 1) := by decide +kernel
theorem d_prog_8_method_2_1 : decode prog_8_method_2_code 1 = .ok (.getfield 7, 3) := by decide +kernel
theorem d_prog_8_method_2_4 : decode prog_8_method_2_code 4 = .ok (.areturn, 1) := by decide +kernel
def R10 : Room := { frames := 0, cells := 0, slots := 0, locals := 0 }
def Q10 (Z : State) (a : Addr) (x1 : Addr) (h0 : Heap) (v : Option Value) (h : Heap) : Prop := v = some (.ref x1) ∧ h0 = h
theorem ef10 (a : Addr) (m : MethodId) : entryFrame m #[(.ref a)] 1 = mkF m 0 #[.val (.ref a)] [] := by first | (simp [entryFrame, mkF, argsToLocals, Value.category]; done) | rfl
set_option maxRecDepth 65536 in
set_option maxHeartbeats 40000000 in
theorem rm10 (l : Launch) (Z : State) (a0 : Array Value) (hw : ∀ d ∈ tables_1, d.before a0 Z = true) (ws : List Jvm.Cond) (a : Addr) (x1 : Addr) (h0 : Heap) (n0 : Nat) (Z0 : n0 ≤ h0.size) (F1 : Fld Z h0 a "com/example/entrole/entrole/flowable/CaseChange" "caseName" "Ljava/lang/String;" (.ref x1)) : OMet l Z ws (⟨"com/example/entrole/entrole/flowable/CaseChange", "caseName", "()Ljava/lang/String;"⟩ : MethodName) prog_8_method_2_code 1 (some (.object "java/lang/String")) R10 #[(.ref a)] h0 n0 (Q10 Z a x1 h0) := by
  refine OMet.of (plainFor_of_name pn_3) (ef10 a) Z0 ?_
  intro p e s m below meth c T0 Y0 hnm
  have Y0 : Sd Z "com/example/entrole/entrole/flowable/CaseChange" prog_8_method_2_code 1 (some (.object "java/lang/String")) n0 p l e R10 s m #[(.ref a)] below meth c T0 h0 0 0 := Y0
  refine Gl.aloadN Y0 rfl rfl d_prog_8_method_2_0 rfl ?_
  refine Gl.getF Y0 (host := "") (Or.inl (tw_46 hw)) Via.refl F1 d_prog_8_method_2_1 rfl (fun T1 Y1 => ?_)
  exact Gl.retA Y1 (by decide) (by decide) rfl rfl d_prog_8_method_2_4 ⟨rfl, rfl⟩
theorem d_jdk_43_method_13_0 : decode jdk_43_method_13_code 0 = .ok (.aload_n 0, 1) := by decide +kernel
theorem d_jdk_43_method_13_1 : decode jdk_43_method_13_code 1 = .ok (.arraylength, 1) := by decide +kernel
theorem d_jdk_43_method_13_2 : decode jdk_43_method_13_code 2 = .ok (.aload_n 1, 1) := by decide +kernel
theorem d_jdk_43_method_13_3 : decode jdk_43_method_13_code 3 = .ok (.arraylength, 1) := by decide +kernel
theorem d_jdk_43_method_13_4 : decode jdk_43_method_13_code 4 = .ok (.if_icmp .ne 30, 3) := by decide +kernel
theorem d_jdk_43_method_13_7 : decode jdk_43_method_13_code 7 = .ok (.iconst 0, 1) := by decide +kernel
theorem d_jdk_43_method_13_8 : decode jdk_43_method_13_code 8 = .ok (.istore_n 2, 1) := by decide +kernel
theorem d_jdk_43_method_13_9 : decode jdk_43_method_13_code 9 = .ok (.iload_n 2, 1) := by decide +kernel
theorem d_jdk_43_method_13_10 : decode jdk_43_method_13_code 10 = .ok (.aload_n 0, 1) := by decide +kernel
theorem d_jdk_43_method_13_11 : decode jdk_43_method_13_code 11 = .ok (.arraylength, 1) := by decide +kernel
theorem d_jdk_43_method_13_12 : decode jdk_43_method_13_code 12 = .ok (.if_icmp .ge 20, 3) := by decide +kernel
theorem d_jdk_43_method_13_15 : decode jdk_43_method_13_code 15 = .ok (.aload_n 0, 1) := by decide +kernel
theorem d_jdk_43_method_13_16 : decode jdk_43_method_13_code 16 = .ok (.iload_n 2, 1) := by decide +kernel
theorem d_jdk_43_method_13_17 : decode jdk_43_method_13_code 17 = .ok (.baload, 1) := by decide +kernel
theorem d_jdk_43_method_13_18 : decode jdk_43_method_13_code 18 = .ok (.aload_n 1, 1) := by decide +kernel
theorem d_jdk_43_method_13_19 : decode jdk_43_method_13_code 19 = .ok (.iload_n 2, 1) := by decide +kernel
theorem d_jdk_43_method_13_20 : decode jdk_43_method_13_code 20 = .ok (.baload, 1) := by decide +kernel
theorem d_jdk_43_method_13_21 : decode jdk_43_method_13_code 21 = .ok (.if_icmp .eq 5, 3) := by decide +kernel
theorem d_jdk_43_method_13_26 : decode jdk_43_method_13_code 26 = .ok (.iinc 2 1, 3) := by decide +kernel
theorem d_jdk_43_method_13_29 : decode jdk_43_method_13_code 29 = .ok (.goto (-20), 3) := by decide +kernel
theorem d_jdk_43_method_13_32 : decode jdk_43_method_13_code 32 = .ok (.iconst 1, 1) := by decide +kernel
theorem d_jdk_43_method_13_33 : decode jdk_43_method_13_code 33 = .ok (.ireturn, 1) := by decide +kernel
theorem d_jdk_43_method_13_24 : decode jdk_43_method_13_code 24 = .ok (.iconst 0, 1) := by decide +kernel
theorem d_jdk_43_method_13_25 : decode jdk_43_method_13_code 25 = .ok (.ireturn, 1) := by decide +kernel
def R11 : Room := { frames := 0, cells := 0, slots := 0, locals := 0 }
def Q11 (Z : State) (a : Addr) (b : Addr) (ka : ClassId) (kb : ClassId) (pa : Int32) (pb : Int32) (h0 : Heap) (v : Option Value) (h : Heap) : Prop := ∃ r : Int32, v = some (.int r) ∧ ((((pa.toInt = pb.toInt) ∧ r.toInt = 1) ∨ (¬ (pa.toInt = pb.toInt) ∧ r.toInt = 0)) ∧ (r = 0 ∨ r = 1)) ∧ h0 = h
theorem ef11 (a : Addr) (b : Addr) (m : MethodId) : entryFrame m #[(.ref a), (.ref b)] 3 = mkF m 0 #[.val (.ref a), .val (.ref b), .unset] [] := by first | (simp [entryFrame, mkF, argsToLocals, Value.category]; done) | rfl
theorem pn_6 : plainName "java/lang/StringLatin1" = true := by first | (simp [plainName, overriddenIn]; done) | decide +kernel
set_option maxRecDepth 65536 in
set_option maxHeartbeats 40000000 in
theorem rm11 (l : Launch) (Z : State) (a0 : Array Value) (hw : ∀ d ∈ tables_1, d.before a0 Z = true) (ws : List Jvm.Cond) (a : Addr) (b : Addr) (ka : ClassId) (kb : ClassId) (pa : Int32) (pb : Int32) (h0 : Heap) (n0 : Nat) (Z0 : n0 ≤ h0.size) (V1 : Arv Z h0 a ka .byte (1 : Int32) [(.int pa)] (.int (0 : Int32))) (V2 : Arv Z h0 b kb .byte (1 : Int32) [(.int pb)] (.int (0 : Int32))) : OMet l Z ws (⟨"java/lang/StringLatin1", "equals", "([B[B)Z"⟩ : MethodName) jdk_43_method_13_code 3 (some .boolean) R11 #[(.ref a), (.ref b)] h0 n0 (Q11 Z a b ka kb pa pb h0) := by
  refine OMet.of (plainFor_of_name pn_6) (ef11 a b) Z0 ?_
  intro p e s m below meth c T0 Y0 hnm
  have Y0 : Sd Z "java/lang/StringLatin1" jdk_43_method_13_code 3 (some .boolean) n0 p l e R11 s m #[(.ref a), (.ref b)] below meth c T0 h0 0 0 := Y0
  refine Gl.aloadN Y0 rfl rfl d_jdk_43_method_13_0 rfl ?_
  refine Gl.arraylength Y0 V1 d_jdk_43_method_13_1 rfl ?_
  refine Gl.aloadN Y0 rfl rfl d_jdk_43_method_13_2 rfl ?_
  refine Gl.arraylength Y0 V2 d_jdk_43_method_13_3 rfl ?_
  refine Gl.icmpne Y0 d_jdk_43_method_13_4 (by decide) rfl rfl (fun c4 => ?_) (fun c4 => ?_)
  · exact absurd c4 (by decide)
  refine Gl.iconst Y0 (v := (0 : Int32)) (by decide) d_jdk_43_method_13_7 rfl ?_
  refine Gl.istoreN Y0 (L' := #[.val (.ref a), .val (.ref b), .val (.int (0 : Int32))]) rfl d_jdk_43_method_13_8 rfl ?_
  refine Gl.iloadN Y0 rfl d_jdk_43_method_13_9 rfl ?_
  refine Gl.aloadN Y0 rfl rfl d_jdk_43_method_13_10 rfl ?_
  refine Gl.arraylength Y0 V1 d_jdk_43_method_13_11 rfl ?_
  refine Gl.icmpge Y0 d_jdk_43_method_13_12 (by decide) rfl rfl (fun c12 => ?_) (fun c12 => ?_)
  · exact absurd c12 (by decide)
  refine Gl.aloadN Y0 rfl rfl d_jdk_43_method_13_15 rfl ?_
  refine Gl.iloadN Y0 rfl d_jdk_43_method_13_16 rfl ?_
  refine Gl.baload Y0 V1 ⟨by decide, by decide⟩ (v := (.int pa)) rfl d_jdk_43_method_13_17 rfl ?_
  refine Gl.aloadN Y0 rfl rfl d_jdk_43_method_13_18 rfl ?_
  refine Gl.iloadN Y0 rfl d_jdk_43_method_13_19 rfl ?_
  refine Gl.baload Y0 V2 ⟨by decide, by decide⟩ (v := (.int pb)) rfl d_jdk_43_method_13_20 rfl ?_
  refine Gl.icmpeq Y0 d_jdk_43_method_13_21 (by decide) rfl rfl (fun c21 => ?_) (fun c21 => ?_)
  · have j21 : pa.toInt = pb.toInt := congrArg Int32.toInt c21
    refine Gl.iinc Y0 rfl (r := (1 : Int32)) (by decide) (L' := #[.val (.ref a), .val (.ref b), .val (.int (1 : Int32))]) rfl d_jdk_43_method_13_26 rfl ?_
    refine Gl.goto Y0 d_jdk_43_method_13_29 (by decide) rfl ?_
    refine Gl.iloadN Y0 rfl d_jdk_43_method_13_9 rfl ?_
    refine Gl.aloadN Y0 rfl rfl d_jdk_43_method_13_10 rfl ?_
    refine Gl.arraylength Y0 V1 d_jdk_43_method_13_11 rfl ?_
    refine Gl.icmpge Y0 d_jdk_43_method_13_12 (by decide) rfl rfl (fun c12_2 => ?_) (fun c12_2 => ?_)
    rotate_left
    · exact absurd c12_2 (by decide)
    refine Gl.iconst Y0 (v := (1 : Int32)) (by decide) d_jdk_43_method_13_32 rfl ?_
    exact Gl.retZ Y0 (by decide) (by decide) (x' := (1 : Int32)) (by decide) d_jdk_43_method_13_33 ⟨(1 : Int32), rfl, ⟨(by have q0 : (0 : Int32).toInt = 0 := rfl; have q1 : (1 : Int32).toInt = 1 := rfl; omega), by first | assumption | decide⟩, rfl⟩
  · have j21 : ¬ (pa.toInt = pb.toInt) := fun q => c21 (Int32.toInt_inj.mp q)
    refine Gl.iconst Y0 (v := (0 : Int32)) (by decide) d_jdk_43_method_13_24 rfl ?_
    exact Gl.retZ Y0 (by decide) (by decide) (x' := (0 : Int32)) (by decide) d_jdk_43_method_13_25 ⟨(0 : Int32), rfl, ⟨(by have q0 : (0 : Int32).toInt = 0 := rfl; have q1 : (1 : Int32).toInt = 1 := rfl; omega), by first | assumption | decide⟩, rfl⟩
theorem d_jdk_42_method_66_0 : decode jdk_42_method_66_code 0 = .ok (.aload_n 0, 1) := by decide +kernel
theorem d_jdk_42_method_66_1 : decode jdk_42_method_66_code 1 = .ok (.aload_n 1, 1) := by decide +kernel
theorem d_jdk_42_method_66_2 : decode jdk_42_method_66_code 2 = .ok (.if_acmp .ne 5, 3) := by decide +kernel
theorem d_jdk_42_method_66_5 : decode jdk_42_method_66_code 5 = .ok (.iconst 1, 1) := by decide +kernel
theorem d_jdk_42_method_66_6 : decode jdk_42_method_66_code 6 = .ok (.ireturn, 1) := by decide +kernel
def R12 : Room := { frames := 0, cells := 0, slots := 0, locals := 0 }
def Q12 (Z : State) (o1 : Addr) (h0 : Heap) (v : Option Value) (h : Heap) : Prop := v = some (.int (1 : Int32)) ∧ h0 = h
theorem ef12 (o1 : Addr) (m : MethodId) : entryFrame m #[(.ref o1), (.ref o1)] 3 = mkF m 0 #[.val (.ref o1), .val (.ref o1), .unset] [] := by first | (simp [entryFrame, mkF, argsToLocals, Value.category]; done) | rfl
set_option maxRecDepth 65536 in
set_option maxHeartbeats 40000000 in
theorem rm12 (l : Launch) (Z : State) (a0 : Array Value) (hw : ∀ d ∈ tables_1, d.before a0 Z = true) (ws : List Jvm.Cond) (o1 : Addr) (h0 : Heap) (n0 : Nat) (Z0 : n0 ≤ h0.size) : OMet l Z ws (⟨"java/lang/String", "equals", "(Ljava/lang/Object;)Z"⟩ : MethodName) jdk_42_method_66_code 3 (some .boolean) R12 #[(.ref o1), (.ref o1)] h0 n0 (Q12 Z o1 h0) := by
  refine OMet.of (plainFor_of_name pn_1) (ef12 o1) Z0 ?_
  intro p e s m below meth c T0 Y0 hnm
  have Y0 : Sd Z "java/lang/String" jdk_42_method_66_code 3 (some .boolean) n0 p l e R12 s m #[(.ref o1), (.ref o1)] below meth c T0 h0 0 0 := Y0
  refine Gl.aloadN Y0 rfl rfl d_jdk_42_method_66_0 rfl ?_
  refine Gl.aloadN Y0 rfl rfl d_jdk_42_method_66_1 rfl ?_
  refine Gl.acmpne Y0 rfl rfl d_jdk_42_method_66_2 (by decide) rfl rfl (fun c2 => ?_) (fun c2 => ?_)
  · exact absurd rfl c2
  refine Gl.iconst Y0 (v := (1 : Int32)) (by decide) d_jdk_42_method_66_5 rfl ?_
  exact Gl.retZ Y0 (by decide) (by decide) (x' := (1 : Int32)) (by decide) d_jdk_42_method_66_6 ⟨rfl, rfl⟩
theorem d_jdk_42_method_66_7 : decode jdk_42_method_66_code 7 = .ok (.aload_n 1, 1) := by decide +kernel
theorem d_jdk_42_method_66_8 : decode jdk_42_method_66_code 8 = .ok (.instanceof 10, 3) := by decide +kernel
theorem tw_70 {a0 : Array Value} {Z : State} (hw : ∀ d ∈ tables_1, d.before a0 Z = true) : (Jvm.Cond.classLink "java/lang/String" (10 : Nat) "java/lang/String").before a0 Z = true := hw _ (List.mem_of_getElem? (i := 70) rfl)
theorem d_jdk_42_method_66_11 : decode jdk_42_method_66_code 11 = .ok (.ifCond .eq 43, 3) := by decide +kernel
theorem d_jdk_42_method_66_14 : decode jdk_42_method_66_code 14 = .ok (.aload_n 1, 1) := by decide +kernel
theorem d_jdk_42_method_66_15 : decode jdk_42_method_66_code 15 = .ok (.checkcast 10, 3) := by decide +kernel
theorem d_jdk_42_method_66_18 : decode jdk_42_method_66_code 18 = .ok (.astore_n 2, 1) := by decide +kernel
theorem d_jdk_42_method_66_19 : decode jdk_42_method_66_code 19 = .ok (.getstatic 38, 3) := by decide +kernel
theorem d_jdk_42_method_66_22 : decode jdk_42_method_66_code 22 = .ok (.ifCond .eq 14, 3) := by decide +kernel
theorem d_jdk_42_method_66_25 : decode jdk_42_method_66_code 25 = .ok (.aload_n 0, 1) := by decide +kernel
theorem d_jdk_42_method_66_26 : decode jdk_42_method_66_code 26 = .ok (.getfield 15, 3) := by decide +kernel
theorem d_jdk_42_method_66_29 : decode jdk_42_method_66_code 29 = .ok (.aload_n 2, 1) := by decide +kernel
theorem d_jdk_42_method_66_30 : decode jdk_42_method_66_code 30 = .ok (.getfield 15, 3) := by decide +kernel
theorem d_jdk_42_method_66_33 : decode jdk_42_method_66_code 33 = .ok (.if_icmp .ne 21, 3) := by decide +kernel
theorem d_jdk_42_method_66_36 : decode jdk_42_method_66_code 36 = .ok (.aload_n 0, 1) := by decide +kernel
theorem d_jdk_42_method_66_37 : decode jdk_42_method_66_code 37 = .ok (.getfield 9, 3) := by decide +kernel
theorem d_jdk_42_method_66_40 : decode jdk_42_method_66_code 40 = .ok (.aload_n 2, 1) := by decide +kernel
theorem d_jdk_42_method_66_41 : decode jdk_42_method_66_code 41 = .ok (.getfield 9, 3) := by decide +kernel
theorem d_jdk_42_method_66_44 : decode jdk_42_method_66_code 44 = .ok (.invokestatic 541, 3) := by decide +kernel
theorem tw_71 {a0 : Array Value} {Z : State} (hw : ∀ d ∈ tables_1, d.before a0 Z = true) : (Jvm.Cond.methodLink "java/lang/String" (541 : Nat) ({ cls := "java/lang/StringLatin1", name := "equals", desc := "([B[B)Z" } : Jvm.MethodName)).before a0 Z = true := hw _ (List.mem_of_getElem? (i := 71) rfl)
theorem pd_6 : parseMethodDescriptor "([B[B)Z" = some ⟨[(.array .byte), (.array .byte)], some .boolean⟩ := by decide +kernel
theorem tw_74 {a0 : Array Value} {Z : State} (hw : ∀ d ∈ tables_1, d.before a0 Z = true) : (Jvm.Cond.code ({ cls := "java/lang/StringLatin1", name := "equals", desc := "([B[B)Z" } : Jvm.MethodName) jdk_43_method_13_code (3 : Nat) (Option.some Jvm.ClassFile.FieldType.boolean)).before a0 Z = true := hw _ (List.mem_of_getElem? (i := 74) rfl)
theorem tw_73 {a0 : Array Value} {Z : State} (hw : ∀ d ∈ tables_1, d.before a0 Z = true) : (Jvm.Cond.initialized "java/lang/StringLatin1").before a0 Z = true := hw _ (List.mem_of_getElem? (i := 73) rfl)
theorem tw_72 {a0 : Array Value} {Z : State} (hw : ∀ d ∈ tables_1, d.before a0 Z = true) : (Jvm.Cond.static ({ cls := "java/lang/StringLatin1", name := "equals", desc := "([B[B)Z" } : Jvm.MethodName)).before a0 Z = true := hw _ (List.mem_of_getElem? (i := 72) rfl)
theorem d_jdk_42_method_66_47 : decode jdk_42_method_66_code 47 = .ok (.ifCond .eq 7, 3) := by decide +kernel
theorem d_jdk_42_method_66_54 : decode jdk_42_method_66_code 54 = .ok (.iconst 0, 1) := by decide +kernel
theorem d_jdk_42_method_66_50 : decode jdk_42_method_66_code 50 = .ok (.iconst 1, 1) := by decide +kernel
theorem d_jdk_42_method_66_51 : decode jdk_42_method_66_code 51 = .ok (.goto 4, 3) := by decide +kernel
theorem d_jdk_42_method_66_55 : decode jdk_42_method_66_code 55 = .ok (.ireturn, 1) := by decide +kernel
def R13 : Room := { frames := 1, cells := 0, slots := 0, locals := 14 }
def Q13 (Z : State) (o1 : Addr) (a1 : Addr) (k1 : ClassId) (p1 : Int32) (o2 : Addr) (a2 : Addr) (k2 : ClassId) (p2 : Int32) (cs : Int32) (h0 : Heap) (v : Option Value) (h : Heap) : Prop := ∃ r : Int32, v = some (.int r) ∧ ((((p1.toInt = p2.toInt) ∧ r.toInt = 1) ∨ (¬ (p1.toInt = p2.toInt) ∧ r.toInt = 0)) ∧ (r = 0 ∨ r = 1)) ∧ h0 = h
theorem ef13 (o1 : Addr) (o2 : Addr) (m : MethodId) : entryFrame m #[(.ref o1), (.ref o2)] 3 = mkF m 0 #[.val (.ref o1), .val (.ref o2), .unset] [] := by first | (simp [entryFrame, mkF, argsToLocals, Value.category]; done) | rfl
set_option maxRecDepth 65536 in
set_option maxHeartbeats 40000000 in
theorem rm13 (l : Launch) (Z : State) (a0 : Array Value) (hw : ∀ d ∈ tables_1, d.before a0 Z = true) (ws : List Jvm.Cond) (o1 : Addr) (a1 : Addr) (k1 : ClassId) (p1 : Int32) (o2 : Addr) (a2 : Addr) (k2 : ClassId) (p2 : Int32) (cs : Int32) (h0 : Heap) (n0 : Nat) (Z0 : n0 ≤ h0.size) (O : Old Z n0 h0) (S : Sta Z Z.heap "java/lang/String" "COMPACT_STRINGS" "Z" (.int cs)) (hcs : ¬ cs = 0) (E_o1 : Exa Z h0 o1 "java/lang/String") (C_o1 : Fld Z h0 o1 "java/lang/String" "coder" "B" (.int (0 : Int32))) (F_o1 : Fld Z h0 o1 "java/lang/String" "value" "[B" (.ref a1)) (V_o1 : Arv Z h0 a1 k1 .byte (1 : Int32) [(.int p1)] (.int (0 : Int32))) (E_o2 : Exa Z h0 o2 "java/lang/String") (C_o2 : Fld Z h0 o2 "java/lang/String" "coder" "B" (.int (0 : Int32))) (F_o2 : Fld Z h0 o2 "java/lang/String" "value" "[B" (.ref a2)) (V_o2 : Arv Z h0 a2 k2 .byte (1 : Int32) [(.int p2)] (.int (0 : Int32))) (n12 : o1 ≠ o2) : OMet l Z ws (⟨"java/lang/String", "equals", "(Ljava/lang/Object;)Z"⟩ : MethodName) jdk_42_method_66_code 3 (some .boolean) R13 #[(.ref o1), (.ref o2)] h0 n0 (Q13 Z o1 a1 k1 p1 o2 a2 k2 p2 cs h0) := by
  refine OMet.of (plainFor_of_name pn_1) (ef13 o1 o2) Z0 ?_
  intro p e s m below meth c T0 Y0 hnm
  have Y0 : Sd Z "java/lang/String" jdk_42_method_66_code 3 (some .boolean) n0 p l e R13 s m #[(.ref o1), (.ref o2)] below meth c T0 h0 0 0 := Y0
  refine Gl.aloadN Y0 rfl rfl d_jdk_42_method_66_0 rfl ?_
  refine Gl.aloadN Y0 rfl rfl d_jdk_42_method_66_1 rfl ?_
  refine Gl.acmpne Y0 rfl rfl d_jdk_42_method_66_2 (by decide) rfl rfl (fun c2 => ?_) (fun c2 => ?_)
  rotate_left
  · exact absurd (Value.ref.inj c2) n12
  refine Gl.aloadN Y0 rfl rfl d_jdk_42_method_66_7 rfl ?_
  refine Gl.instY Y0 (tw_70 hw) (Ins.self E_o2) d_jdk_42_method_66_8 rfl (fun T8 Y8 => ?_)
  refine Gl.ifeq Y8 d_jdk_42_method_66_11 (by decide) rfl rfl (fun c11 => ?_) (fun c11 => ?_)
  · exact absurd c11 (by decide)
  refine Gl.aloadN Y8 rfl rfl d_jdk_42_method_66_14 rfl ?_
  refine Gl.castY Y8 (tw_70 hw) (Ins.self E_o2) d_jdk_42_method_66_15 rfl (fun T15 Y15 => ?_)
  refine Gl.astoreN Y15 rfl (L' := #[.val (.ref o1), .val (.ref o2), .val (.ref o2)]) rfl d_jdk_42_method_66_18 rfl ?_
  refine Gl.getS Y15 (host := "") (Or.inl (tw_21 hw)) Via.refl (Sta.ext O.2 S) d_jdk_42_method_66_19 rfl (fun T19 Y19 => ?_)
  refine Gl.ifeq Y19 d_jdk_42_method_66_22 (by decide) rfl rfl (fun c22 => ?_) (fun c22 => ?_)
  · exact absurd c22 hcs
  have j22 : ¬ (cs.toInt = 0) := fun q => c22 (Int32.toInt_inj.mp q)
  refine Gl.aloadN Y19 rfl rfl d_jdk_42_method_66_25 rfl ?_
  refine Gl.getF Y19 (host := "") (Or.inl (tw_33 hw)) Via.refl C_o1 d_jdk_42_method_66_26 rfl (fun T26 Y26 => ?_)
  refine Gl.aloadN Y26 rfl rfl d_jdk_42_method_66_29 rfl ?_
  refine Gl.getF Y26 (host := "") (Or.inl (tw_33 hw)) Via.refl C_o2 d_jdk_42_method_66_30 rfl (fun T30 Y30 => ?_)
  refine Gl.icmpne Y30 d_jdk_42_method_66_33 (by decide) rfl rfl (fun c33 => ?_) (fun c33 => ?_)
  · exact absurd c33 (by decide)
  refine Gl.aloadN Y30 rfl rfl d_jdk_42_method_66_36 rfl ?_
  refine Gl.getF Y30 (host := "") (Or.inl (tw_35 hw)) Via.refl F_o1 d_jdk_42_method_66_37 rfl (fun T37 Y37 => ?_)
  refine Gl.aloadN Y37 rfl rfl d_jdk_42_method_66_40 rfl ?_
  refine Gl.getF Y37 (host := "") (Or.inl (tw_35 hw)) Via.refl F_o2 d_jdk_42_method_66_41 rfl (fun T41 Y41 => ?_)
  refine Gl.callS Y41 (tw_71 hw) (tw_72 hw) (tw_73 hw) (tw_74 hw) (by decide) (rm11 l Z a0 hw [] a1 a2 k1 k2 p1 p2 h0 n0 Y41.sz V_o1 V_o2) (argsL := [(.ref a1), (.ref a2)]) (rest := []) rfl rfl (lenOf pd_6 rfl) rfl (by decide) (Nat.le_of_ble_eq_true rfl) (by decide) (by decide) d_jdk_42_method_66_44 rfl (fun v44 T44 h44 Y44 q44 => ?_)
  obtain ⟨r44, rfl, p44, rfl⟩ := q44
  have br44 : r44 = 0 ∨ r44 = 1 := p44.2
  show Gl p e below _ (T44.setTop (mkF m 47 #[.val (.ref o1), .val (.ref o2), .val (.ref o2)] [(.int r44)]))
  obtain ⟨z47, hz47⟩ : ∃ z : Int32, (if r44 = (0 : Int32) then (0 : Int32) else (1 : Int32)) = z := ⟨_, rfl⟩
  have iz47 : (r44.toInt = 0 ∧ (z47.toInt = 0)) ∨ (¬ (r44.toInt = 0) ∧ (z47.toInt = 1)) := own_ite (c := r44 = (0 : Int32)) (fun q4 => ⟨congrArg Int32.toInt q4, congrArg Int32.toInt (show z47 = (0 : Int32) from by rw [← hz47]; simp only [q4, ↓reduceIte, if_true, if_false, ite_self])⟩) (fun q4 => ⟨fun q => q4 (Int32.toInt_inj.mp q), congrArg Int32.toInt (show z47 = (1 : Int32) from by rw [← hz47]; simp only [q4, ↓reduceIte, if_true, if_false, ite_self])⟩)
  have bz47 : z47 = 0 ∨ z47 = 1 := by rw [← hz47]; (repeat' split) <;> first | (simp; done) | assumption
  refine own_cut (B := ∀ T', Sd Z "java/lang/String" jdk_42_method_66_code 3 (some .boolean) n0 p l e R13 s m #[(.ref o1), (.ref o2)] below meth c T' h0 0 0 → Gl p e below (Pst s n0 R13.cells R13.slots (Q13 Z o1 a1 k1 p1 o2 a2 k2 p2 cs h0)) (T'.setTop (mkF m 55 #[.val (.ref o1), .val (.ref o2), .val (.ref o2)] [(.int z47)]))) (fun jk => ?_) (fun T47j Y47j => ?_)
  · refine Gl.ifeq Y44 d_jdk_42_method_66_47 (by decide) rfl rfl (fun c47 => ?_) (fun c47 => ?_)
    · have j47 : r44.toInt = 0 := congrArg Int32.toInt c47
      refine Gl.iconst Y44 (v := (0 : Int32)) (by decide) d_jdk_42_method_66_54 rfl ?_
      have ez47 : z47 = (0 : Int32) := by rw [← hz47]; simp only [c47, ↓reduceIte, if_true, if_false]
      rw [ez47] at jk
      exact jk T44 Y44
    · have j47 : ¬ (r44.toInt = 0) := fun q => c47 (Int32.toInt_inj.mp q)
      refine Gl.iconst Y44 (v := (1 : Int32)) (by decide) d_jdk_42_method_66_50 rfl ?_
      refine Gl.goto Y44 d_jdk_42_method_66_51 (by decide) rfl ?_
      have ez47 : z47 = (1 : Int32) := by rw [← hz47]; simp only [c47, ↓reduceIte, if_true, if_false]
      rw [ez47] at jk
      exact jk T44 Y44
  exact Gl.retZ Y47j (by decide) (by decide) (x' := z47) (own_narZ bz47) d_jdk_42_method_66_55 ⟨z47, rfl, ⟨(by have q0 : (0 : Int32).toInt = 0 := rfl; have q1 : (1 : Int32).toInt = 1 := rfl; omega), by first | assumption | decide⟩, rfl⟩
theorem tw_85 {a0 : Array Value} {Z : State} (hw : ∀ d ∈ tables_1, d.before a0 Z = true) : (Jvm.Cond.superclass "com/example/entrole/entrole/flowable/CaseChange$Start" "com/example/entrole/entrole/flowable/CaseChange").before a0 Z = true := hw _ (List.mem_of_getElem? (i := 85) rfl)
theorem tw_86 {a0 : Array Value} {Z : State} (hw : ∀ d ∈ tables_1, d.before a0 Z = true) : (Jvm.Cond.superclass "com/example/entrole/entrole/flowable/CaseChange" "java/lang/Object").before a0 Z = true := hw _ (List.mem_of_getElem? (i := 86) rfl)
theorem tw_87 {a0 : Array Value} {Z : State} (hw : ∀ d ∈ tables_1, d.before a0 Z = true) : (Jvm.Cond.noSuperclass "java/lang/Object").before a0 Z = true := hw _ (List.mem_of_getElem? (i := 87) rfl)
theorem d_prog_9_method_3_0 : decode prog_9_method_3_code 0 = .ok (.aload_n 1, 1) := by decide +kernel
theorem d_prog_9_method_3_1 : decode prog_9_method_3_code 1 = .ok (.instanceof 8, 3) := by decide +kernel
theorem tw_57 {a0 : Array Value} {Z : State} (hw : ∀ d ∈ tables_1, d.before a0 Z = true) : (Jvm.Cond.classLink "com/example/entrole/entrole/flowable/CaseChange$Gift" (8 : Nat) "com/example/entrole/entrole/flowable/CaseChange$Gift").before a0 Z = true := hw _ (List.mem_of_getElem? (i := 57) rfl)
theorem d_prog_9_method_3_4 : decode prog_9_method_3_code 4 = .ok (.ifCond .eq 54, 3) := by decide +kernel
theorem d_prog_9_method_3_58 : decode prog_9_method_3_code 58 = .ok (.iconst 0, 1) := by decide +kernel
theorem d_prog_9_method_3_59 : decode prog_9_method_3_code 59 = .ok (.ireturn, 1) := by decide +kernel
def R14 : Room := { frames := 0, cells := 0, slots := 0, locals := 0 }
def Q14 (Z : State) (a : Addr) (h0 : Heap) (v : Option Value) (h : Heap) : Prop := v = some (.int (0 : Int32)) ∧ h0 = h
theorem ef14 (a : Addr) (m : MethodId) : entryFrame m #[(.ref a), .null] 3 = mkF m 0 #[.val (.ref a), .val .null, .unset] [] := by first | (simp [entryFrame, mkF, argsToLocals, Value.category]; done) | rfl
set_option maxRecDepth 65536 in
set_option maxHeartbeats 40000000 in
theorem rm14 (l : Launch) (Z : State) (a0 : Array Value) (hw : ∀ d ∈ tables_1, d.before a0 Z = true) (ws : List Jvm.Cond) (a : Addr) (h0 : Heap) (n0 : Nat) (Z0 : n0 ≤ h0.size) : OMet l Z ws (⟨"com/example/entrole/entrole/flowable/CaseChange$Gift", "equals", "(Ljava/lang/Object;)Z"⟩ : MethodName) prog_9_method_3_code 3 (some .boolean) R14 #[(.ref a), .null] h0 n0 (Q14 Z a h0) := by
  refine OMet.of (plainFor_of_name pn_4) (ef14 a) Z0 ?_
  intro p e s m below meth c T0 Y0 hnm
  have Y0 : Sd Z "com/example/entrole/entrole/flowable/CaseChange$Gift" prog_9_method_3_code 3 (some .boolean) n0 p l e R14 s m #[(.ref a), .null] below meth c T0 h0 0 0 := Y0
  refine Gl.aloadN Y0 rfl rfl d_prog_9_method_3_0 rfl ?_
  refine Gl.instNull Y0 d_prog_9_method_3_1 rfl ?_
  refine Gl.ifeq Y0 d_prog_9_method_3_4 (by decide) rfl rfl (fun c4 => ?_) (fun c4 => ?_)
  rotate_left
  · exact absurd c4 (by decide)
  refine Gl.iconst Y0 (v := (0 : Int32)) (by decide) d_prog_9_method_3_58 rfl ?_
  exact Gl.retZ Y0 (by decide) (by decide) (x' := (0 : Int32)) (by decide) d_prog_9_method_3_59 ⟨rfl, rfl⟩
def R15 : Room := { frames := 0, cells := 0, slots := 0, locals := 0 }
def Q15 (Z : State) (a : Addr) (b : Addr) (h0 : Heap) (v : Option Value) (h : Heap) : Prop := v = some (.int (0 : Int32)) ∧ h0 = h
theorem ef15 (a : Addr) (b : Addr) (m : MethodId) : entryFrame m #[(.ref a), (.ref b)] 3 = mkF m 0 #[.val (.ref a), .val (.ref b), .unset] [] := by first | (simp [entryFrame, mkF, argsToLocals, Value.category]; done) | rfl
set_option maxRecDepth 65536 in
set_option maxHeartbeats 40000000 in
theorem rm15 (l : Launch) (Z : State) (a0 : Array Value) (hw : ∀ d ∈ tables_1, d.before a0 Z = true) (ws : List Jvm.Cond) (a : Addr) (b : Addr) (h0 : Heap) (n0 : Nat) (Z0 : n0 ≤ h0.size) (E2 : Exa Z h0 b "com/example/entrole/entrole/flowable/CaseChange$Start") : OMet l Z ws (⟨"com/example/entrole/entrole/flowable/CaseChange$Gift", "equals", "(Ljava/lang/Object;)Z"⟩ : MethodName) prog_9_method_3_code 3 (some .boolean) R15 #[(.ref a), (.ref b)] h0 n0 (Q15 Z a b h0) := by
  refine OMet.of (plainFor_of_name pn_4) (ef15 a b) Z0 ?_
  intro p e s m below meth c T0 Y0 hnm
  have Y0 : Sd Z "com/example/entrole/entrole/flowable/CaseChange$Gift" prog_9_method_3_code 3 (some .boolean) n0 p l e R15 s m #[(.ref a), (.ref b)] below meth c T0 h0 0 0 := Y0
  refine Gl.aloadN Y0 rfl rfl d_prog_9_method_3_0 rfl ?_
  refine Gl.instNo Y0 (tw_57 hw) E2 (own_ns_no (tw_85 hw) (tw_1 hw) (NS.step (tw_85 hw) (NS.step (tw_86 hw) (own_ns_root (tw_87 hw) (tw_1 hw) (by decide)) (by decide)) (by decide)) (by decide)) d_prog_9_method_3_1 rfl (fun T1 Y1 => ?_)
  refine Gl.ifeq Y1 d_prog_9_method_3_4 (by decide) rfl rfl (fun c4 => ?_) (fun c4 => ?_)
  rotate_left
  · exact absurd c4 (by decide)
  refine Gl.iconst Y1 (v := (0 : Int32)) (by decide) d_prog_9_method_3_58 rfl ?_
  exact Gl.retZ Y1 (by decide) (by decide) (x' := (0 : Int32)) (by decide) d_prog_9_method_3_59 ⟨rfl, rfl⟩
theorem d_prog_9_method_3_7 : decode prog_9_method_3_code 7 = .ok (.aload_n 1, 1) := by decide +kernel
theorem d_prog_9_method_3_8 : decode prog_9_method_3_code 8 = .ok (.checkcast 8, 3) := by decide +kernel
theorem d_prog_9_method_3_11 : decode prog_9_method_3_code 11 = .ok (.astore_n 2, 1) := by decide +kernel
theorem d_prog_9_method_3_12 : decode prog_9_method_3_code 12 = .ok (.aload_n 2, 1) := by decide +kernel
theorem d_prog_9_method_3_13 : decode prog_9_method_3_code 13 = .ok (.invokevirtual 16, 3) := by decide +kernel
theorem tw_59 {a0 : Array Value} {Z : State} (hw : ∀ d ∈ tables_1, d.before a0 Z = true) : (Jvm.Cond.methodLink "com/example/entrole/entrole/flowable/CaseChange$Gift" (16 : Nat) ({ cls := "com/example/entrole/entrole/flowable/CaseChange$Gift", name := "caseName", desc := "()Ljava/lang/String;" } : Jvm.MethodName)).before a0 Z = true := hw _ (List.mem_of_getElem? (i := 59) rfl)
theorem pd_7 : parseMethodDescriptor "()Ljava/lang/String;" = some ⟨[], some (.object "java/lang/String")⟩ := by decide +kernel
theorem tw_64 {a0 : Array Value} {Z : State} (hw : ∀ d ∈ tables_1, d.before a0 Z = true) : (Jvm.Cond.code ({ cls := "com/example/entrole/entrole/flowable/CaseChange", name := "caseName", desc := "()Ljava/lang/String;" } : Jvm.MethodName) prog_8_method_2_code (1 : Nat) (Option.some (Jvm.ClassFile.FieldType.object "java/lang/String"))).before a0 Z = true := hw _ (List.mem_of_getElem? (i := 64) rfl)
theorem tw_60 {a0 : Array Value} {Z : State} (hw : ∀ d ∈ tables_1, d.before a0 Z = true) : (Jvm.Cond.sameMethod "com/example/entrole/entrole/flowable/CaseChange$Gift" "com/example/entrole/entrole/flowable/CaseChange" "caseName" "()Ljava/lang/String;").before a0 Z = true := hw _ (List.mem_of_getElem? (i := 60) rfl)
theorem tw_61 {a0 : Array Value} {Z : State} (hw : ∀ d ∈ tables_1, d.before a0 Z = true) : (Jvm.Cond.declares ({ cls := "com/example/entrole/entrole/flowable/CaseChange", name := "caseName", desc := "()Ljava/lang/String;" } : Jvm.MethodName)).before a0 Z = true := hw _ (List.mem_of_getElem? (i := 61) rfl)
theorem tw_63 {a0 : Array Value} {Z : State} (hw : ∀ d ∈ tables_1, d.before a0 Z = true) : (Jvm.Cond.selects "com/example/entrole/entrole/flowable/CaseChange$Gift" ({ cls := "com/example/entrole/entrole/flowable/CaseChange$Gift", name := "caseName", desc := "()Ljava/lang/String;" } : Jvm.MethodName) ({ cls := "com/example/entrole/entrole/flowable/CaseChange", name := "caseName", desc := "()Ljava/lang/String;" } : Jvm.MethodName)).before a0 Z = true := hw _ (List.mem_of_getElem? (i := 63) rfl)
theorem tw_62 {a0 : Array Value} {Z : State} (hw : ∀ d ∈ tables_1, d.before a0 Z = true) : (Jvm.Cond.instanceMethod ({ cls := "com/example/entrole/entrole/flowable/CaseChange", name := "caseName", desc := "()Ljava/lang/String;" } : Jvm.MethodName)).before a0 Z = true := hw _ (List.mem_of_getElem? (i := 62) rfl)
theorem d_prog_9_method_3_16 : decode prog_9_method_3_code 16 = .ok (.aload_n 0, 1) := by decide +kernel
theorem d_prog_9_method_3_17 : decode prog_9_method_3_code 17 = .ok (.invokevirtual 16, 3) := by decide +kernel
theorem d_prog_9_method_3_20 : decode prog_9_method_3_code 20 = .ok (.invokevirtual 30, 3) := by decide +kernel
theorem tw_65 {a0 : Array Value} {Z : State} (hw : ∀ d ∈ tables_1, d.before a0 Z = true) : (Jvm.Cond.methodLink "com/example/entrole/entrole/flowable/CaseChange$Gift" (30 : Nat) ({ cls := "java/lang/String", name := "equals", desc := "(Ljava/lang/Object;)Z" } : Jvm.MethodName)).before a0 Z = true := hw _ (List.mem_of_getElem? (i := 65) rfl)
theorem pd_8 : parseMethodDescriptor "(Ljava/lang/Object;)Z" = some ⟨[(.object "java/lang/Object")], some .boolean⟩ := by decide +kernel
theorem tw_69 {a0 : Array Value} {Z : State} (hw : ∀ d ∈ tables_1, d.before a0 Z = true) : (Jvm.Cond.code ({ cls := "java/lang/String", name := "equals", desc := "(Ljava/lang/Object;)Z" } : Jvm.MethodName) jdk_42_method_66_code (3 : Nat) (Option.some Jvm.ClassFile.FieldType.boolean)).before a0 Z = true := hw _ (List.mem_of_getElem? (i := 69) rfl)
theorem tw_66 {a0 : Array Value} {Z : State} (hw : ∀ d ∈ tables_1, d.before a0 Z = true) : (Jvm.Cond.declares ({ cls := "java/lang/String", name := "equals", desc := "(Ljava/lang/Object;)Z" } : Jvm.MethodName)).before a0 Z = true := hw _ (List.mem_of_getElem? (i := 66) rfl)
theorem tw_68 {a0 : Array Value} {Z : State} (hw : ∀ d ∈ tables_1, d.before a0 Z = true) : (Jvm.Cond.selects "java/lang/String" ({ cls := "java/lang/String", name := "equals", desc := "(Ljava/lang/Object;)Z" } : Jvm.MethodName) ({ cls := "java/lang/String", name := "equals", desc := "(Ljava/lang/Object;)Z" } : Jvm.MethodName)).before a0 Z = true := hw _ (List.mem_of_getElem? (i := 68) rfl)
theorem tw_67 {a0 : Array Value} {Z : State} (hw : ∀ d ∈ tables_1, d.before a0 Z = true) : (Jvm.Cond.instanceMethod ({ cls := "java/lang/String", name := "equals", desc := "(Ljava/lang/Object;)Z" } : Jvm.MethodName)).before a0 Z = true := hw _ (List.mem_of_getElem? (i := 67) rfl)
theorem d_prog_9_method_3_23 : decode prog_9_method_3_code 23 = .ok (.ifCond .eq 35, 3) := by decide +kernel
theorem d_prog_9_method_3_26 : decode prog_9_method_3_code 26 = .ok (.aload_n 2, 1) := by decide +kernel
theorem d_prog_9_method_3_27 : decode prog_9_method_3_code 27 = .ok (.getfield 7, 3) := by decide +kernel
theorem d_prog_9_method_3_30 : decode prog_9_method_3_code 30 = .ok (.aload_n 0, 1) := by decide +kernel
theorem d_prog_9_method_3_31 : decode prog_9_method_3_code 31 = .ok (.getfield 7, 3) := by decide +kernel
theorem d_prog_9_method_3_34 : decode prog_9_method_3_code 34 = .ok (.invokevirtual 30, 3) := by decide +kernel
theorem d_prog_9_method_3_37 : decode prog_9_method_3_code 37 = .ok (.ifCond .eq 21, 3) := by decide +kernel
theorem d_prog_9_method_3_40 : decode prog_9_method_3_code 40 = .ok (.aload_n 2, 1) := by decide +kernel
theorem d_prog_9_method_3_41 : decode prog_9_method_3_code 41 = .ok (.getfield 13, 3) := by decide +kernel
theorem d_prog_9_method_3_44 : decode prog_9_method_3_code 44 = .ok (.aload_n 0, 1) := by decide +kernel
theorem d_prog_9_method_3_45 : decode prog_9_method_3_code 45 = .ok (.getfield 13, 3) := by decide +kernel
theorem d_prog_9_method_3_48 : decode prog_9_method_3_code 48 = .ok (.invokevirtual 30, 3) := by decide +kernel
theorem d_prog_9_method_3_51 : decode prog_9_method_3_code 51 = .ok (.ifCond .eq 7, 3) := by decide +kernel
theorem d_prog_9_method_3_54 : decode prog_9_method_3_code 54 = .ok (.iconst 1, 1) := by decide +kernel
theorem d_prog_9_method_3_55 : decode prog_9_method_3_code 55 = .ok (.goto 4, 3) := by decide +kernel
def R16 : Room := { frames := 1, cells := 0, slots := 0, locals := 14 }
def Q16 (Z : State) (a : Addr) (x1 : Addr) (x2 : Addr) (x3 : Addr) (h0 : Heap) (v : Option Value) (h : Heap) : Prop := v = some (.int (1 : Int32)) ∧ h0 = h
theorem ef16 (a : Addr) (m : MethodId) : entryFrame m #[(.ref a), (.ref a)] 3 = mkF m 0 #[.val (.ref a), .val (.ref a), .unset] [] := by first | (simp [entryFrame, mkF, argsToLocals, Value.category]; done) | rfl
set_option maxRecDepth 65536 in
set_option maxHeartbeats 40000000 in
theorem rm16 (l : Launch) (Z : State) (a0 : Array Value) (hw : ∀ d ∈ tables_1, d.before a0 Z = true) (ws : List Jvm.Cond) (a : Addr) (x1 : Addr) (x2 : Addr) (x3 : Addr) (h0 : Heap) (n0 : Nat) (Z0 : n0 ≤ h0.size) (E : Exa Z h0 a "com/example/entrole/entrole/flowable/CaseChange$Gift") (Fx1 : Fld Z h0 a "com/example/entrole/entrole/flowable/CaseChange" "caseName" "Ljava/lang/String;" (.ref x1)) (Fx2 : Fld Z h0 a "com/example/entrole/entrole/flowable/CaseChange$Gift" "task" "Ljava/lang/String;" (.ref x2)) (Fx3 : Fld Z h0 a "com/example/entrole/entrole/flowable/CaseChange$Gift" "subject" "Ljava/lang/String;" (.ref x3)) (Ex1 : Exa Z h0 x1 "java/lang/String") (Ex2 : Exa Z h0 x2 "java/lang/String") (Ex3 : Exa Z h0 x3 "java/lang/String") : OMet l Z ws (⟨"com/example/entrole/entrole/flowable/CaseChange$Gift", "equals", "(Ljava/lang/Object;)Z"⟩ : MethodName) prog_9_method_3_code 3 (some .boolean) R16 #[(.ref a), (.ref a)] h0 n0 (Q16 Z a x1 x2 x3 h0) := by
  refine OMet.of (plainFor_of_name pn_4) (ef16 a) Z0 ?_
  intro p e s m below meth c T0 Y0 hnm
  have Y0 : Sd Z "com/example/entrole/entrole/flowable/CaseChange$Gift" prog_9_method_3_code 3 (some .boolean) n0 p l e R16 s m #[(.ref a), (.ref a)] below meth c T0 h0 0 0 := Y0
  refine Gl.aloadN Y0 rfl rfl d_prog_9_method_3_0 rfl ?_
  refine Gl.instY Y0 (tw_57 hw) (Ins.self E) d_prog_9_method_3_1 rfl (fun T1 Y1 => ?_)
  refine Gl.ifeq Y1 d_prog_9_method_3_4 (by decide) rfl rfl (fun c4 => ?_) (fun c4 => ?_)
  · exact absurd c4 (by decide)
  refine Gl.aloadN Y1 rfl rfl d_prog_9_method_3_7 rfl ?_
  refine Gl.castY Y1 (tw_57 hw) (Ins.self E) d_prog_9_method_3_8 rfl (fun T8 Y8 => ?_)
  refine Gl.astoreN Y8 rfl (L' := #[.val (.ref a), .val (.ref a), .val (.ref a)]) rfl d_prog_9_method_3_11 rfl ?_
  refine Gl.aloadN Y8 rfl rfl d_prog_9_method_3_12 rfl ?_
  refine Gl.callVU Y8 (tw_59 hw) (tw_60 hw) (tw_61 hw) (tw_63 hw) (tw_62 hw) (tw_43 hw) (tw_64 hw) (by decide) E (rm10 l Z a0 hw [] a x1 h0 n0 Y8.sz Fx1) (a := a) (argsL := []) (rest := []) rfl rfl (lenOf pd_7 rfl) rfl (by decide) (Nat.le_of_ble_eq_true rfl) (by decide) (by decide) d_prog_9_method_3_13 rfl (fun v13 T13 h13 Y13 q13 => ?_)
  obtain ⟨rfl, rfl⟩ := q13
  show Gl p e below _ (T13.setTop (mkF m 16 #[.val (.ref a), .val (.ref a), .val (.ref a)] [(.ref x1)]))
  refine Gl.aloadN Y13 rfl rfl d_prog_9_method_3_16 rfl ?_
  refine Gl.callVU Y13 (tw_59 hw) (tw_60 hw) (tw_61 hw) (tw_63 hw) (tw_62 hw) (tw_43 hw) (tw_64 hw) (by decide) E (rm10 l Z a0 hw [] a x1 h0 n0 Y13.sz Fx1) (a := a) (argsL := []) (rest := [(.ref x1)]) rfl rfl (lenOf pd_7 rfl) rfl (by decide) (Nat.le_of_ble_eq_true rfl) (by decide) (by decide) d_prog_9_method_3_17 rfl (fun v17 T17 h17 Y17 q17 => ?_)
  obtain ⟨rfl, rfl⟩ := q17
  show Gl p e below _ (T17.setTop (mkF m 20 #[.val (.ref a), .val (.ref a), .val (.ref a)] [(.ref x1), (.ref x1)]))
  refine Gl.callV Y17 (tw_65 hw) (tw_66 hw) (tw_68 hw) (tw_68 hw) (tw_67 hw) (tw_10 hw) (tw_69 hw) (by decide) Ex1 (rm12 l Z a0 hw [] x1 h0 n0 Y17.sz) (a := x1) (argsL := [(.ref x1)]) (rest := []) rfl rfl (lenOf pd_8 rfl) rfl (by decide) (Nat.le_of_ble_eq_true rfl) (by decide) (by decide) d_prog_9_method_3_20 rfl (fun v20 T20 h20 Y20 q20 => ?_)
  obtain ⟨rfl, rfl⟩ := q20
  show Gl p e below _ (T20.setTop (mkF m 23 #[.val (.ref a), .val (.ref a), .val (.ref a)] [(.int (1 : Int32))]))
  refine Gl.ifeq Y20 d_prog_9_method_3_23 (by decide) rfl rfl (fun c23 => ?_) (fun c23 => ?_)
  · exact absurd c23 (by decide)
  refine Gl.aloadN Y20 rfl rfl d_prog_9_method_3_26 rfl ?_
  refine Gl.getF Y20 (host := "") (Or.inl (tw_48 hw)) Via.refl Fx2 d_prog_9_method_3_27 rfl (fun T27 Y27 => ?_)
  refine Gl.aloadN Y27 rfl rfl d_prog_9_method_3_30 rfl ?_
  refine Gl.getF Y27 (host := "") (Or.inl (tw_48 hw)) Via.refl Fx2 d_prog_9_method_3_31 rfl (fun T31 Y31 => ?_)
  refine Gl.callV Y31 (tw_65 hw) (tw_66 hw) (tw_68 hw) (tw_68 hw) (tw_67 hw) (tw_10 hw) (tw_69 hw) (by decide) Ex2 (rm12 l Z a0 hw [] x2 h0 n0 Y31.sz) (a := x2) (argsL := [(.ref x2)]) (rest := []) rfl rfl (lenOf pd_8 rfl) rfl (by decide) (Nat.le_of_ble_eq_true rfl) (by decide) (by decide) d_prog_9_method_3_34 rfl (fun v34 T34 h34 Y34 q34 => ?_)
  obtain ⟨rfl, rfl⟩ := q34
  show Gl p e below _ (T34.setTop (mkF m 37 #[.val (.ref a), .val (.ref a), .val (.ref a)] [(.int (1 : Int32))]))
  refine Gl.ifeq Y34 d_prog_9_method_3_37 (by decide) rfl rfl (fun c37 => ?_) (fun c37 => ?_)
  · exact absurd c37 (by decide)
  refine Gl.aloadN Y34 rfl rfl d_prog_9_method_3_40 rfl ?_
  refine Gl.getF Y34 (host := "") (Or.inl (tw_50 hw)) Via.refl Fx3 d_prog_9_method_3_41 rfl (fun T41 Y41 => ?_)
  refine Gl.aloadN Y41 rfl rfl d_prog_9_method_3_44 rfl ?_
  refine Gl.getF Y41 (host := "") (Or.inl (tw_50 hw)) Via.refl Fx3 d_prog_9_method_3_45 rfl (fun T45 Y45 => ?_)
  refine Gl.callV Y45 (tw_65 hw) (tw_66 hw) (tw_68 hw) (tw_68 hw) (tw_67 hw) (tw_10 hw) (tw_69 hw) (by decide) Ex3 (rm12 l Z a0 hw [] x3 h0 n0 Y45.sz) (a := x3) (argsL := [(.ref x3)]) (rest := []) rfl rfl (lenOf pd_8 rfl) rfl (by decide) (Nat.le_of_ble_eq_true rfl) (by decide) (by decide) d_prog_9_method_3_48 rfl (fun v48 T48 h48 Y48 q48 => ?_)
  obtain ⟨rfl, rfl⟩ := q48
  show Gl p e below _ (T48.setTop (mkF m 51 #[.val (.ref a), .val (.ref a), .val (.ref a)] [(.int (1 : Int32))]))
  refine Gl.ifeq Y48 d_prog_9_method_3_51 (by decide) rfl rfl (fun c51 => ?_) (fun c51 => ?_)
  · exact absurd c51 (by decide)
  refine Gl.iconst Y48 (v := (1 : Int32)) (by decide) d_prog_9_method_3_54 rfl ?_
  refine Gl.goto Y48 d_prog_9_method_3_55 (by decide) rfl ?_
  exact Gl.retZ Y48 (by decide) (by decide) (x' := (1 : Int32)) (by decide) d_prog_9_method_3_59 ⟨rfl, rfl⟩
def R17 : Room := { frames := 2, cells := 0, slots := 0, locals := 28 }
def Q17 (Z : State) (a : Addr) (b : Addr) (x1 : Addr) (xa1 : Addr) (xk1 : ClassId) (xp1 : Int32) (y1 : Addr) (ya1 : Addr) (yk1 : ClassId) (yp1 : Int32) (x2 : Addr) (xa2 : Addr) (xk2 : ClassId) (xp2 : Int32) (y2 : Addr) (ya2 : Addr) (yk2 : ClassId) (yp2 : Int32) (x3 : Addr) (xa3 : Addr) (xk3 : ClassId) (xp3 : Int32) (y3 : Addr) (ya3 : Addr) (yk3 : ClassId) (yp3 : Int32) (cs : Int32) (h0 : Heap) (v : Option Value) (h : Heap) : Prop := ∃ r : Int32, v = some (.int r) ∧ ((((yp1.toInt = xp1.toInt ∧ yp2.toInt = xp2.toInt ∧ yp3.toInt = xp3.toInt) ∧ r.toInt = 1) ∨ (¬ (yp1.toInt = xp1.toInt ∧ yp2.toInt = xp2.toInt ∧ yp3.toInt = xp3.toInt) ∧ r.toInt = 0)) ∧ (r = 0 ∨ r = 1)) ∧ h0 = h
theorem ef17 (a : Addr) (b : Addr) (m : MethodId) : entryFrame m #[(.ref a), (.ref b)] 3 = mkF m 0 #[.val (.ref a), .val (.ref b), .unset] [] := by first | (simp [entryFrame, mkF, argsToLocals, Value.category]; done) | rfl
set_option maxRecDepth 65536 in
set_option maxHeartbeats 40000000 in
theorem rm17 (l : Launch) (Z : State) (a0 : Array Value) (hw : ∀ d ∈ tables_1, d.before a0 Z = true) (ws : List Jvm.Cond) (a : Addr) (b : Addr) (x1 : Addr) (xa1 : Addr) (xk1 : ClassId) (xp1 : Int32) (y1 : Addr) (ya1 : Addr) (yk1 : ClassId) (yp1 : Int32) (x2 : Addr) (xa2 : Addr) (xk2 : ClassId) (xp2 : Int32) (y2 : Addr) (ya2 : Addr) (yk2 : ClassId) (yp2 : Int32) (x3 : Addr) (xa3 : Addr) (xk3 : ClassId) (xp3 : Int32) (y3 : Addr) (ya3 : Addr) (yk3 : ClassId) (yp3 : Int32) (cs : Int32) (h0 : Heap) (n0 : Nat) (Z0 : n0 ≤ h0.size) (O : Old Z n0 h0) (S : Sta Z Z.heap "java/lang/String" "COMPACT_STRINGS" "Z" (.int cs)) (hcs : ¬ cs = 0) (E : Exa Z h0 a "com/example/entrole/entrole/flowable/CaseChange$Gift") (E2 : Exa Z h0 b "com/example/entrole/entrole/flowable/CaseChange$Gift") (Fax1 : Fld Z h0 a "com/example/entrole/entrole/flowable/CaseChange" "caseName" "Ljava/lang/String;" (.ref x1)) (Fax2 : Fld Z h0 a "com/example/entrole/entrole/flowable/CaseChange$Gift" "task" "Ljava/lang/String;" (.ref x2)) (Fax3 : Fld Z h0 a "com/example/entrole/entrole/flowable/CaseChange$Gift" "subject" "Ljava/lang/String;" (.ref x3)) (Fby1 : Fld Z h0 b "com/example/entrole/entrole/flowable/CaseChange" "caseName" "Ljava/lang/String;" (.ref y1)) (Fby2 : Fld Z h0 b "com/example/entrole/entrole/flowable/CaseChange$Gift" "task" "Ljava/lang/String;" (.ref y2)) (Fby3 : Fld Z h0 b "com/example/entrole/entrole/flowable/CaseChange$Gift" "subject" "Ljava/lang/String;" (.ref y3)) (E_x1 : Exa Z h0 x1 "java/lang/String") (C_x1 : Fld Z h0 x1 "java/lang/String" "coder" "B" (.int (0 : Int32))) (F_x1 : Fld Z h0 x1 "java/lang/String" "value" "[B" (.ref xa1)) (V_x1 : Arv Z h0 xa1 xk1 .byte (1 : Int32) [(.int xp1)] (.int (0 : Int32))) (E_y1 : Exa Z h0 y1 "java/lang/String") (C_y1 : Fld Z h0 y1 "java/lang/String" "coder" "B" (.int (0 : Int32))) (F_y1 : Fld Z h0 y1 "java/lang/String" "value" "[B" (.ref ya1)) (V_y1 : Arv Z h0 ya1 yk1 .byte (1 : Int32) [(.int yp1)] (.int (0 : Int32))) (n1 : x1 ≠ y1) (E_x2 : Exa Z h0 x2 "java/lang/String") (C_x2 : Fld Z h0 x2 "java/lang/String" "coder" "B" (.int (0 : Int32))) (F_x2 : Fld Z h0 x2 "java/lang/String" "value" "[B" (.ref xa2)) (V_x2 : Arv Z h0 xa2 xk2 .byte (1 : Int32) [(.int xp2)] (.int (0 : Int32))) (E_y2 : Exa Z h0 y2 "java/lang/String") (C_y2 : Fld Z h0 y2 "java/lang/String" "coder" "B" (.int (0 : Int32))) (F_y2 : Fld Z h0 y2 "java/lang/String" "value" "[B" (.ref ya2)) (V_y2 : Arv Z h0 ya2 yk2 .byte (1 : Int32) [(.int yp2)] (.int (0 : Int32))) (n2 : x2 ≠ y2) (E_x3 : Exa Z h0 x3 "java/lang/String") (C_x3 : Fld Z h0 x3 "java/lang/String" "coder" "B" (.int (0 : Int32))) (F_x3 : Fld Z h0 x3 "java/lang/String" "value" "[B" (.ref xa3)) (V_x3 : Arv Z h0 xa3 xk3 .byte (1 : Int32) [(.int xp3)] (.int (0 : Int32))) (E_y3 : Exa Z h0 y3 "java/lang/String") (C_y3 : Fld Z h0 y3 "java/lang/String" "coder" "B" (.int (0 : Int32))) (F_y3 : Fld Z h0 y3 "java/lang/String" "value" "[B" (.ref ya3)) (V_y3 : Arv Z h0 ya3 yk3 .byte (1 : Int32) [(.int yp3)] (.int (0 : Int32))) (n3 : x3 ≠ y3) : OMet l Z ws (⟨"com/example/entrole/entrole/flowable/CaseChange$Gift", "equals", "(Ljava/lang/Object;)Z"⟩ : MethodName) prog_9_method_3_code 3 (some .boolean) R17 #[(.ref a), (.ref b)] h0 n0 (Q17 Z a b x1 xa1 xk1 xp1 y1 ya1 yk1 yp1 x2 xa2 xk2 xp2 y2 ya2 yk2 yp2 x3 xa3 xk3 xp3 y3 ya3 yk3 yp3 cs h0) := by
  refine OMet.of (plainFor_of_name pn_4) (ef17 a b) Z0 ?_
  intro p e s m below meth c T0 Y0 hnm
  have Y0 : Sd Z "com/example/entrole/entrole/flowable/CaseChange$Gift" prog_9_method_3_code 3 (some .boolean) n0 p l e R17 s m #[(.ref a), (.ref b)] below meth c T0 h0 0 0 := Y0
  refine Gl.aloadN Y0 rfl rfl d_prog_9_method_3_0 rfl ?_
  refine Gl.instY Y0 (tw_57 hw) (Ins.self E2) d_prog_9_method_3_1 rfl (fun T1 Y1 => ?_)
  refine Gl.ifeq Y1 d_prog_9_method_3_4 (by decide) rfl rfl (fun c4 => ?_) (fun c4 => ?_)
  · exact absurd c4 (by decide)
  refine Gl.aloadN Y1 rfl rfl d_prog_9_method_3_7 rfl ?_
  refine Gl.castY Y1 (tw_57 hw) (Ins.self E2) d_prog_9_method_3_8 rfl (fun T8 Y8 => ?_)
  refine Gl.astoreN Y8 rfl (L' := #[.val (.ref a), .val (.ref b), .val (.ref b)]) rfl d_prog_9_method_3_11 rfl ?_
  refine Gl.aloadN Y8 rfl rfl d_prog_9_method_3_12 rfl ?_
  refine Gl.callVU Y8 (tw_59 hw) (tw_60 hw) (tw_61 hw) (tw_63 hw) (tw_62 hw) (tw_43 hw) (tw_64 hw) (by decide) E2 (rm10 l Z a0 hw [] b y1 h0 n0 Y8.sz Fby1) (a := b) (argsL := []) (rest := []) rfl rfl (lenOf pd_7 rfl) rfl (by decide) (Nat.le_of_ble_eq_true rfl) (by decide) (by decide) d_prog_9_method_3_13 rfl (fun v13 T13 h13 Y13 q13 => ?_)
  obtain ⟨rfl, rfl⟩ := q13
  show Gl p e below _ (T13.setTop (mkF m 16 #[.val (.ref a), .val (.ref b), .val (.ref b)] [(.ref y1)]))
  refine Gl.aloadN Y13 rfl rfl d_prog_9_method_3_16 rfl ?_
  refine Gl.callVU Y13 (tw_59 hw) (tw_60 hw) (tw_61 hw) (tw_63 hw) (tw_62 hw) (tw_43 hw) (tw_64 hw) (by decide) E (rm10 l Z a0 hw [] a x1 h0 n0 Y13.sz Fax1) (a := a) (argsL := []) (rest := [(.ref y1)]) rfl rfl (lenOf pd_7 rfl) rfl (by decide) (Nat.le_of_ble_eq_true rfl) (by decide) (by decide) d_prog_9_method_3_17 rfl (fun v17 T17 h17 Y17 q17 => ?_)
  obtain ⟨rfl, rfl⟩ := q17
  show Gl p e below _ (T17.setTop (mkF m 20 #[.val (.ref a), .val (.ref b), .val (.ref b)] [(.ref x1), (.ref y1)]))
  refine Gl.callV Y17 (tw_65 hw) (tw_66 hw) (tw_68 hw) (tw_68 hw) (tw_67 hw) (tw_10 hw) (tw_69 hw) (by decide) E_y1 (rm13 l Z a0 hw [] y1 ya1 yk1 yp1 x1 xa1 xk1 xp1 cs h0 n0 Y17.sz O S (hcs) E_y1 C_y1 F_y1 V_y1 E_x1 C_x1 F_x1 V_x1 (Ne.symm n1)) (a := y1) (argsL := [(.ref x1)]) (rest := []) rfl rfl (lenOf pd_8 rfl) rfl (by decide) (Nat.le_of_ble_eq_true rfl) (by decide) (by decide) d_prog_9_method_3_20 rfl (fun v20 T20 h20 Y20 q20 => ?_)
  obtain ⟨r20, rfl, p20, rfl⟩ := q20
  have br20 : r20 = 0 ∨ r20 = 1 := p20.2
  show Gl p e below _ (T20.setTop (mkF m 23 #[.val (.ref a), .val (.ref b), .val (.ref b)] [(.int r20)]))
  refine Gl.ifeq Y20 d_prog_9_method_3_23 (by decide) rfl rfl (fun c23 => ?_) (fun c23 => ?_)
  · have j23 : r20.toInt = 0 := congrArg Int32.toInt c23
    refine Gl.iconst Y20 (v := (0 : Int32)) (by decide) d_prog_9_method_3_58 rfl ?_
    exact Gl.retZ Y20 (by decide) (by decide) (x' := (0 : Int32)) (by decide) d_prog_9_method_3_59 ⟨(0 : Int32), rfl, ⟨(by have q0 : (0 : Int32).toInt = 0 := rfl; have q1 : (1 : Int32).toInt = 1 := rfl; omega), by first | assumption | decide⟩, rfl⟩
  · have j23 : ¬ (r20.toInt = 0) := fun q => c23 (Int32.toInt_inj.mp q)
    refine Gl.aloadN Y20 rfl rfl d_prog_9_method_3_26 rfl ?_
    refine Gl.getF Y20 (host := "") (Or.inl (tw_48 hw)) Via.refl Fby2 d_prog_9_method_3_27 rfl (fun T27 Y27 => ?_)
    refine Gl.aloadN Y27 rfl rfl d_prog_9_method_3_30 rfl ?_
    refine Gl.getF Y27 (host := "") (Or.inl (tw_48 hw)) Via.refl Fax2 d_prog_9_method_3_31 rfl (fun T31 Y31 => ?_)
    refine Gl.callV Y31 (tw_65 hw) (tw_66 hw) (tw_68 hw) (tw_68 hw) (tw_67 hw) (tw_10 hw) (tw_69 hw) (by decide) E_y2 (rm13 l Z a0 hw [] y2 ya2 yk2 yp2 x2 xa2 xk2 xp2 cs h0 n0 Y31.sz O S (hcs) E_y2 C_y2 F_y2 V_y2 E_x2 C_x2 F_x2 V_x2 (Ne.symm n2)) (a := y2) (argsL := [(.ref x2)]) (rest := []) rfl rfl (lenOf pd_8 rfl) rfl (by decide) (Nat.le_of_ble_eq_true rfl) (by decide) (by decide) d_prog_9_method_3_34 rfl (fun v34 T34 h34 Y34 q34 => ?_)
    obtain ⟨r34, rfl, p34, rfl⟩ := q34
    have br34 : r34 = 0 ∨ r34 = 1 := p34.2
    show Gl p e below _ (T34.setTop (mkF m 37 #[.val (.ref a), .val (.ref b), .val (.ref b)] [(.int r34)]))
    refine Gl.ifeq Y34 d_prog_9_method_3_37 (by decide) rfl rfl (fun c37 => ?_) (fun c37 => ?_)
    · have j37 : r34.toInt = 0 := congrArg Int32.toInt c37
      refine Gl.iconst Y34 (v := (0 : Int32)) (by decide) d_prog_9_method_3_58 rfl ?_
      exact Gl.retZ Y34 (by decide) (by decide) (x' := (0 : Int32)) (by decide) d_prog_9_method_3_59 ⟨(0 : Int32), rfl, ⟨(by have q0 : (0 : Int32).toInt = 0 := rfl; have q1 : (1 : Int32).toInt = 1 := rfl; omega), by first | assumption | decide⟩, rfl⟩
    · have j37 : ¬ (r34.toInt = 0) := fun q => c37 (Int32.toInt_inj.mp q)
      refine Gl.aloadN Y34 rfl rfl d_prog_9_method_3_40 rfl ?_
      refine Gl.getF Y34 (host := "") (Or.inl (tw_50 hw)) Via.refl Fby3 d_prog_9_method_3_41 rfl (fun T41 Y41 => ?_)
      refine Gl.aloadN Y41 rfl rfl d_prog_9_method_3_44 rfl ?_
      refine Gl.getF Y41 (host := "") (Or.inl (tw_50 hw)) Via.refl Fax3 d_prog_9_method_3_45 rfl (fun T45 Y45 => ?_)
      refine Gl.callV Y45 (tw_65 hw) (tw_66 hw) (tw_68 hw) (tw_68 hw) (tw_67 hw) (tw_10 hw) (tw_69 hw) (by decide) E_y3 (rm13 l Z a0 hw [] y3 ya3 yk3 yp3 x3 xa3 xk3 xp3 cs h0 n0 Y45.sz O S (hcs) E_y3 C_y3 F_y3 V_y3 E_x3 C_x3 F_x3 V_x3 (Ne.symm n3)) (a := y3) (argsL := [(.ref x3)]) (rest := []) rfl rfl (lenOf pd_8 rfl) rfl (by decide) (Nat.le_of_ble_eq_true rfl) (by decide) (by decide) d_prog_9_method_3_48 rfl (fun v48 T48 h48 Y48 q48 => ?_)
      obtain ⟨r48, rfl, p48, rfl⟩ := q48
      have br48 : r48 = 0 ∨ r48 = 1 := p48.2
      show Gl p e below _ (T48.setTop (mkF m 51 #[.val (.ref a), .val (.ref b), .val (.ref b)] [(.int r48)]))
      refine Gl.ifeq Y48 d_prog_9_method_3_51 (by decide) rfl rfl (fun c51 => ?_) (fun c51 => ?_)
      · have j51 : r48.toInt = 0 := congrArg Int32.toInt c51
        refine Gl.iconst Y48 (v := (0 : Int32)) (by decide) d_prog_9_method_3_58 rfl ?_
        exact Gl.retZ Y48 (by decide) (by decide) (x' := (0 : Int32)) (by decide) d_prog_9_method_3_59 ⟨(0 : Int32), rfl, ⟨(by have q0 : (0 : Int32).toInt = 0 := rfl; have q1 : (1 : Int32).toInt = 1 := rfl; omega), by first | assumption | decide⟩, rfl⟩
      · have j51 : ¬ (r48.toInt = 0) := fun q => c51 (Int32.toInt_inj.mp q)
        refine Gl.iconst Y48 (v := (1 : Int32)) (by decide) d_prog_9_method_3_54 rfl ?_
        refine Gl.goto Y48 d_prog_9_method_3_55 (by decide) rfl ?_
        exact Gl.retZ Y48 (by decide) (by decide) (x' := (1 : Int32)) (by decide) d_prog_9_method_3_59 ⟨(1 : Int32), rfl, ⟨(by have q0 : (0 : Int32).toInt = 0 := rfl; have q1 : (1 : Int32).toInt = 1 := rfl; omega), by first | assumption | decide⟩, rfl⟩
theorem tw_0 {a0 : Array Value} {Z : State} (hw : ∀ d ∈ tables_1, d.before a0 Z = true) : (Jvm.Cond.classLink "com/example/entrole/entrole/flowable/GiftEqualsPinLaw" (7 : Nat) "com/example/entrole/entrole/flowable/CaseChange$Gift").before a0 Z = true := hw _ (List.mem_of_getElem? (i := 0) rfl)
theorem tw_2 {a0 : Array Value} {Z : State} (hw : ∀ d ∈ tables_1, d.before a0 Z = true) : (Jvm.Cond.initialized "com/example/entrole/entrole/flowable/CaseChange$Gift").before a0 Z = true := hw _ (List.mem_of_getElem? (i := 2) rfl)
theorem tw_3 {a0 : Array Value} {Z : State} (hw : ∀ d ∈ tables_1, d.before a0 Z = true) : (Jvm.Cond.methodLink "com/example/entrole/entrole/flowable/GiftEqualsPinLaw" (9 : Nat) ({ cls := "com/example/entrole/entrole/flowable/GiftEqualsPinLaw", name := "str", desc := "(C)Ljava/lang/String;" } : Jvm.MethodName)).before a0 Z = true := hw _ (List.mem_of_getElem? (i := 3) rfl)
theorem pd_9 : parseMethodDescriptor "(C)Ljava/lang/String;" = some ⟨[.char], some (.object "java/lang/String")⟩ := by decide +kernel
theorem tw_6 {a0 : Array Value} {Z : State} (hw : ∀ d ∈ tables_1, d.before a0 Z = true) : (Jvm.Cond.code ({ cls := "com/example/entrole/entrole/flowable/GiftEqualsPinLaw", name := "str", desc := "(C)Ljava/lang/String;" } : Jvm.MethodName) method_3_code (2 : Nat) (Option.some (Jvm.ClassFile.FieldType.object "java/lang/String"))).before a0 Z = true := hw _ (List.mem_of_getElem? (i := 6) rfl)
theorem tw_5 {a0 : Array Value} {Z : State} (hw : ∀ d ∈ tables_1, d.before a0 Z = true) : (Jvm.Cond.initialized "com/example/entrole/entrole/flowable/GiftEqualsPinLaw").before a0 Z = true := hw _ (List.mem_of_getElem? (i := 5) rfl)
theorem tw_4 {a0 : Array Value} {Z : State} (hw : ∀ d ∈ tables_1, d.before a0 Z = true) : (Jvm.Cond.static ({ cls := "com/example/entrole/entrole/flowable/GiftEqualsPinLaw", name := "str", desc := "(C)Ljava/lang/String;" } : Jvm.MethodName)).before a0 Z = true := hw _ (List.mem_of_getElem? (i := 4) rfl)
theorem tw_37 {a0 : Array Value} {Z : State} (hw : ∀ d ∈ tables_1, d.before a0 Z = true) : (Jvm.Cond.methodLink "com/example/entrole/entrole/flowable/GiftEqualsPinLaw" (15 : Nat) ({ cls := "com/example/entrole/entrole/flowable/CaseChange$Gift", name := "<init>", desc := "(Ljava/lang/String;Ljava/lang/String;Ljava/lang/String;)V" } : Jvm.MethodName)).before a0 Z = true := hw _ (List.mem_of_getElem? (i := 37) rfl)
theorem pd_10 : parseMethodDescriptor "(Ljava/lang/String;Ljava/lang/String;Ljava/lang/String;)V" = some ⟨[(.object "java/lang/String"), (.object "java/lang/String"), (.object "java/lang/String")], none⟩ := by decide +kernel
theorem tw_39 {a0 : Array Value} {Z : State} (hw : ∀ d ∈ tables_1, d.before a0 Z = true) : (Jvm.Cond.code ({ cls := "com/example/entrole/entrole/flowable/CaseChange$Gift", name := "<init>", desc := "(Ljava/lang/String;Ljava/lang/String;Ljava/lang/String;)V" } : Jvm.MethodName) prog_9_method_1_code (4 : Nat) (Option.none : Option Jvm.ClassFile.FieldType)).before a0 Z = true := hw _ (List.mem_of_getElem? (i := 39) rfl)
theorem tw_38 {a0 : Array Value} {Z : State} (hw : ∀ d ∈ tables_1, d.before a0 Z = true) : (Jvm.Cond.instanceMethod ({ cls := "com/example/entrole/entrole/flowable/CaseChange$Gift", name := "<init>", desc := "(Ljava/lang/String;Ljava/lang/String;Ljava/lang/String;)V" } : Jvm.MethodName)).before a0 Z = true := hw _ (List.mem_of_getElem? (i := 38) rfl)
theorem tw_52 {a0 : Array Value} {Z : State} (hw : ∀ d ∈ tables_1, d.before a0 Z = true) : (Jvm.Cond.methodLink "com/example/entrole/entrole/flowable/GiftEqualsPinLaw" (23 : Nat) ({ cls := "com/example/entrole/entrole/flowable/CaseChange$Gift", name := "equals", desc := "(Ljava/lang/Object;)Z" } : Jvm.MethodName)).before a0 Z = true := hw _ (List.mem_of_getElem? (i := 52) rfl)
theorem tw_56 {a0 : Array Value} {Z : State} (hw : ∀ d ∈ tables_1, d.before a0 Z = true) : (Jvm.Cond.code ({ cls := "com/example/entrole/entrole/flowable/CaseChange$Gift", name := "equals", desc := "(Ljava/lang/Object;)Z" } : Jvm.MethodName) prog_9_method_3_code (3 : Nat) (Option.some Jvm.ClassFile.FieldType.boolean)).before a0 Z = true := hw _ (List.mem_of_getElem? (i := 56) rfl)
theorem tw_53 {a0 : Array Value} {Z : State} (hw : ∀ d ∈ tables_1, d.before a0 Z = true) : (Jvm.Cond.declares ({ cls := "com/example/entrole/entrole/flowable/CaseChange$Gift", name := "equals", desc := "(Ljava/lang/Object;)Z" } : Jvm.MethodName)).before a0 Z = true := hw _ (List.mem_of_getElem? (i := 53) rfl)
theorem tw_55 {a0 : Array Value} {Z : State} (hw : ∀ d ∈ tables_1, d.before a0 Z = true) : (Jvm.Cond.selects "com/example/entrole/entrole/flowable/CaseChange$Gift" ({ cls := "com/example/entrole/entrole/flowable/CaseChange$Gift", name := "equals", desc := "(Ljava/lang/Object;)Z" } : Jvm.MethodName) ({ cls := "com/example/entrole/entrole/flowable/CaseChange$Gift", name := "equals", desc := "(Ljava/lang/Object;)Z" } : Jvm.MethodName)).before a0 Z = true := hw _ (List.mem_of_getElem? (i := 55) rfl)
theorem tw_54 {a0 : Array Value} {Z : State} (hw : ∀ d ∈ tables_1, d.before a0 Z = true) : (Jvm.Cond.instanceMethod ({ cls := "com/example/entrole/entrole/flowable/CaseChange$Gift", name := "equals", desc := "(Ljava/lang/Object;)Z" } : Jvm.MethodName)).before a0 Z = true := hw _ (List.mem_of_getElem? (i := 54) rfl)
theorem tw_75 {a0 : Array Value} {Z : State} (hw : ∀ d ∈ tables_1, d.before a0 Z = true) : (Jvm.Cond.classLink "com/example/entrole/entrole/flowable/GiftEqualsPinLaw" (18 : Nat) "com/example/entrole/entrole/flowable/CaseChange$Start").before a0 Z = true := hw _ (List.mem_of_getElem? (i := 75) rfl)
theorem tw_77 {a0 : Array Value} {Z : State} (hw : ∀ d ∈ tables_1, d.before a0 Z = true) : (Jvm.Cond.initialized "com/example/entrole/entrole/flowable/CaseChange$Start").before a0 Z = true := hw _ (List.mem_of_getElem? (i := 77) rfl)
theorem tw_78 {a0 : Array Value} {Z : State} (hw : ∀ d ∈ tables_1, d.before a0 Z = true) : (Jvm.Cond.methodLink "com/example/entrole/entrole/flowable/GiftEqualsPinLaw" (20 : Nat) ({ cls := "com/example/entrole/entrole/flowable/CaseChange$Start", name := "<init>", desc := "(Ljava/lang/String;Ljava/lang/String;)V" } : Jvm.MethodName)).before a0 Z = true := hw _ (List.mem_of_getElem? (i := 78) rfl)
theorem pd_11 : parseMethodDescriptor "(Ljava/lang/String;Ljava/lang/String;)V" = some ⟨[(.object "java/lang/String"), (.object "java/lang/String")], none⟩ := by decide +kernel
theorem tw_80 {a0 : Array Value} {Z : State} (hw : ∀ d ∈ tables_1, d.before a0 Z = true) : (Jvm.Cond.code ({ cls := "com/example/entrole/entrole/flowable/CaseChange$Start", name := "<init>", desc := "(Ljava/lang/String;Ljava/lang/String;)V" } : Jvm.MethodName) prog_10_method_1_code (3 : Nat) (Option.none : Option Jvm.ClassFile.FieldType)).before a0 Z = true := hw _ (List.mem_of_getElem? (i := 80) rfl)
theorem tw_79 {a0 : Array Value} {Z : State} (hw : ∀ d ∈ tables_1, d.before a0 Z = true) : (Jvm.Cond.instanceMethod ({ cls := "com/example/entrole/entrole/flowable/CaseChange$Start", name := "<init>", desc := "(Ljava/lang/String;Ljava/lang/String;)V" } : Jvm.MethodName)).before a0 Z = true := hw _ (List.mem_of_getElem? (i := 79) rfl)
def QL (Z : State) (aa : Int32) (bb : Int32) (cc : Int32) (dd : Int32) (ee : Int32) (ff : Int32) (cs : Int32) (h0 : Heap) (v : Option Value) (h : Heap) : Prop := v = some (.int 1)
theorem efL (aa : Int32) (bb : Int32) (cc : Int32) (dd : Int32) (ee : Int32) (ff : Int32) (m : MethodId) : entryFrame m #[(.int aa), (.int bb), (.int cc), (.int dd), (.int ee), (.int ff)] maxLocals = mkF m 0 #[.val (.int aa), .val (.int bb), .val (.int cc), .val (.int dd), .val (.int ee), .val (.int ff), .unset, .unset, .unset, .unset, .unset, .unset, .unset, .unset, .unset, .unset, .unset, .unset, .unset] [] := by first | (simp [entryFrame, mkF, argsToLocals, Value.category, maxLocals]; done) | rfl
set_option maxRecDepth 65536 in
set_option maxHeartbeats 40000000 in
theorem rmL (l : Launch) (Z : State) (a0 : Array Value) (hw : ∀ d ∈ tables_1, d.before a0 Z = true) (ws : List Jvm.Cond) (aa : Int32) (bb : Int32) (cc : Int32) (dd : Int32) (ee : Int32) (ff : Int32) (cs : Int32) (h0 : Heap) (n0 : Nat) (Z0 : n0 ≤ h0.size) (O : Old Z n0 h0) (S : Sta Z Z.heap "java/lang/String" "COMPACT_STRINGS" "Z" (.int cs)) (hcs : ¬ cs = 0) : OMet l Z ws x code maxLocals ret room_1 #[(.int aa), (.int bb), (.int cc), (.int dd), (.int ee), (.int ff)] h0 n0 (QL Z aa bb cc dd ee ff cs h0) := by
  refine OMet.of (plainFor_of_name pn_2) (efL aa bb cc dd ee ff) Z0 ?_
  intro p e s m below meth c T0 Y0 hnm
  have Y0 : Sd Z "com/example/entrole/entrole/flowable/GiftEqualsPinLaw" code maxLocals (some .boolean) n0 p l e room_1 s m #[(.int aa), (.int bb), (.int cc), (.int dd), (.int ee), (.int ff)] below meth c T0 h0 0 0 := Y0
  have naa := rng32 aa
  have nbb := rng32 bb
  have ncc := rng32 cc
  have ndd := rng32 dd
  have nee := rng32 ee
  have nff := rng32 ff
  refine Gl.iloadN Y0 rfl at_0 rfl ?_
  refine Gl.sipush Y0 (v := (255 : Int32)) (by decide) at_1 rfl ?_
  obtain ⟨v4, hv4⟩ : ∃ z : Int32, aa &&& (255 : Int32) = z := ⟨_, rfl⟩
  have iv4 : v4.toInt = aa.toInt % 256 := by have q := c_mask aa (255 : Int32) 8 (by decide) (by decide); rw [hv4] at q; exact q
  refine Gl.iand Y0 hv4 at_4 rfl ?_
  obtain ⟨v5, hv5⟩ : ∃ z : Int32, v4.toUInt32.toUInt16.toUInt32.toInt32 = z := ⟨_, rfl⟩
  have iv5 : (v5.toInt - v4.toInt) % 65536 = 0 ∧ 0 ≤ v5.toInt ∧ v5.toInt < 65536 := by have q := c_i2c v4; rw [hv5] at q; exact q
  refine Gl.i2c Y0 hv5 at_5 rfl ?_
  refine Gl.istore Y0 (L' := #[.val (.int aa), .val (.int bb), .val (.int cc), .val (.int dd), .val (.int ee), .val (.int ff), .val (.int v5), .unset, .unset, .unset, .unset, .unset, .unset, .unset, .unset, .unset, .unset, .unset, .unset]) rfl at_6 rfl ?_
  refine Gl.iloadN Y0 rfl at_8 rfl ?_
  refine Gl.sipush Y0 (v := (255 : Int32)) (by decide) at_9 rfl ?_
  obtain ⟨v12, hv12⟩ : ∃ z : Int32, bb &&& (255 : Int32) = z := ⟨_, rfl⟩
  have iv12 : v12.toInt = bb.toInt % 256 := by have q := c_mask bb (255 : Int32) 8 (by decide) (by decide); rw [hv12] at q; exact q
  refine Gl.iand Y0 hv12 at_12 rfl ?_
  obtain ⟨v13, hv13⟩ : ∃ z : Int32, v12.toUInt32.toUInt16.toUInt32.toInt32 = z := ⟨_, rfl⟩
  have iv13 : (v13.toInt - v12.toInt) % 65536 = 0 ∧ 0 ≤ v13.toInt ∧ v13.toInt < 65536 := by have q := c_i2c v12; rw [hv13] at q; exact q
  refine Gl.i2c Y0 hv13 at_13 rfl ?_
  refine Gl.istore Y0 (L' := #[.val (.int aa), .val (.int bb), .val (.int cc), .val (.int dd), .val (.int ee), .val (.int ff), .val (.int v5), .val (.int v13), .unset, .unset, .unset, .unset, .unset, .unset, .unset, .unset, .unset, .unset, .unset]) rfl at_14 rfl ?_
  refine Gl.iloadN Y0 rfl at_16 rfl ?_
  refine Gl.sipush Y0 (v := (255 : Int32)) (by decide) at_17 rfl ?_
  obtain ⟨v20, hv20⟩ : ∃ z : Int32, cc &&& (255 : Int32) = z := ⟨_, rfl⟩
  have iv20 : v20.toInt = cc.toInt % 256 := by have q := c_mask cc (255 : Int32) 8 (by decide) (by decide); rw [hv20] at q; exact q
  refine Gl.iand Y0 hv20 at_20 rfl ?_
  obtain ⟨v21, hv21⟩ : ∃ z : Int32, v20.toUInt32.toUInt16.toUInt32.toInt32 = z := ⟨_, rfl⟩
  have iv21 : (v21.toInt - v20.toInt) % 65536 = 0 ∧ 0 ≤ v21.toInt ∧ v21.toInt < 65536 := by have q := c_i2c v20; rw [hv21] at q; exact q
  refine Gl.i2c Y0 hv21 at_21 rfl ?_
  refine Gl.istore Y0 (L' := #[.val (.int aa), .val (.int bb), .val (.int cc), .val (.int dd), .val (.int ee), .val (.int ff), .val (.int v5), .val (.int v13), .val (.int v21), .unset, .unset, .unset, .unset, .unset, .unset, .unset, .unset, .unset, .unset]) rfl at_22 rfl ?_
  refine Gl.iloadN Y0 rfl at_24 rfl ?_
  refine Gl.sipush Y0 (v := (255 : Int32)) (by decide) at_25 rfl ?_
  obtain ⟨v28, hv28⟩ : ∃ z : Int32, dd &&& (255 : Int32) = z := ⟨_, rfl⟩
  have iv28 : v28.toInt = dd.toInt % 256 := by have q := c_mask dd (255 : Int32) 8 (by decide) (by decide); rw [hv28] at q; exact q
  refine Gl.iand Y0 hv28 at_28 rfl ?_
  obtain ⟨v29, hv29⟩ : ∃ z : Int32, v28.toUInt32.toUInt16.toUInt32.toInt32 = z := ⟨_, rfl⟩
  have iv29 : (v29.toInt - v28.toInt) % 65536 = 0 ∧ 0 ≤ v29.toInt ∧ v29.toInt < 65536 := by have q := c_i2c v28; rw [hv29] at q; exact q
  refine Gl.i2c Y0 hv29 at_29 rfl ?_
  refine Gl.istore Y0 (L' := #[.val (.int aa), .val (.int bb), .val (.int cc), .val (.int dd), .val (.int ee), .val (.int ff), .val (.int v5), .val (.int v13), .val (.int v21), .val (.int v29), .unset, .unset, .unset, .unset, .unset, .unset, .unset, .unset, .unset]) rfl at_30 rfl ?_
  refine Gl.iload Y0 rfl at_32 rfl ?_
  refine Gl.sipush Y0 (v := (255 : Int32)) (by decide) at_34 rfl ?_
  obtain ⟨v37, hv37⟩ : ∃ z : Int32, ee &&& (255 : Int32) = z := ⟨_, rfl⟩
  have iv37 : v37.toInt = ee.toInt % 256 := by have q := c_mask ee (255 : Int32) 8 (by decide) (by decide); rw [hv37] at q; exact q
  refine Gl.iand Y0 hv37 at_37 rfl ?_
  obtain ⟨v38, hv38⟩ : ∃ z : Int32, v37.toUInt32.toUInt16.toUInt32.toInt32 = z := ⟨_, rfl⟩
  have iv38 : (v38.toInt - v37.toInt) % 65536 = 0 ∧ 0 ≤ v38.toInt ∧ v38.toInt < 65536 := by have q := c_i2c v37; rw [hv38] at q; exact q
  refine Gl.i2c Y0 hv38 at_38 rfl ?_
  refine Gl.istore Y0 (L' := #[.val (.int aa), .val (.int bb), .val (.int cc), .val (.int dd), .val (.int ee), .val (.int ff), .val (.int v5), .val (.int v13), .val (.int v21), .val (.int v29), .val (.int v38), .unset, .unset, .unset, .unset, .unset, .unset, .unset, .unset]) rfl at_39 rfl ?_
  refine Gl.iload Y0 rfl at_41 rfl ?_
  refine Gl.sipush Y0 (v := (255 : Int32)) (by decide) at_43 rfl ?_
  obtain ⟨v46, hv46⟩ : ∃ z : Int32, ff &&& (255 : Int32) = z := ⟨_, rfl⟩
  have iv46 : v46.toInt = ff.toInt % 256 := by have q := c_mask ff (255 : Int32) 8 (by decide) (by decide); rw [hv46] at q; exact q
  refine Gl.iand Y0 hv46 at_46 rfl ?_
  obtain ⟨v47, hv47⟩ : ∃ z : Int32, v46.toUInt32.toUInt16.toUInt32.toInt32 = z := ⟨_, rfl⟩
  have iv47 : (v47.toInt - v46.toInt) % 65536 = 0 ∧ 0 ≤ v47.toInt ∧ v47.toInt < 65536 := by have q := c_i2c v46; rw [hv47] at q; exact q
  refine Gl.i2c Y0 hv47 at_47 rfl ?_
  refine Gl.istore Y0 (L' := #[.val (.int aa), .val (.int bb), .val (.int cc), .val (.int dd), .val (.int ee), .val (.int ff), .val (.int v5), .val (.int v13), .val (.int v21), .val (.int v29), .val (.int v38), .val (.int v47), .unset, .unset, .unset, .unset, .unset, .unset, .unset]) rfl at_48 rfl ?_
  refine Gl.iloadN Y0 rfl at_50 rfl ?_
  refine Gl.bipush Y0 (v := (8 : Int32)) (by decide) at_51 rfl ?_
  obtain ⟨v53, hv53⟩ : ∃ z : Int32, (aa.toUInt32 >>> ((8 : Int32) &&& 31).toUInt32).toInt32 = z := ⟨_, rfl⟩
  have iv53 : v53.toInt = (aa.toInt % 4294967296) / 256 := by have q := c_iushr aa (8 : Int32) 8 (by decide) (by decide); rw [hv53] at q; exact q
  refine Gl.iushr Y0 hv53 at_53 rfl ?_
  refine Gl.iconst Y0 (v := (3 : Int32)) (by decide) at_54 rfl ?_
  obtain ⟨v55, hv55⟩ : ∃ z : Int32, v53 &&& (3 : Int32) = z := ⟨_, rfl⟩
  have iv55 : v55.toInt = v53.toInt % 4 := by have q := c_mask v53 (3 : Int32) 2 (by decide) (by decide); rw [hv55] at q; exact q
  refine Gl.iand Y0 hv55 at_55 rfl ?_
  refine Gl.istore Y0 (L' := #[.val (.int aa), .val (.int bb), .val (.int cc), .val (.int dd), .val (.int ee), .val (.int ff), .val (.int v5), .val (.int v13), .val (.int v21), .val (.int v29), .val (.int v38), .val (.int v47), .val (.int v55), .unset, .unset, .unset, .unset, .unset, .unset]) rfl at_56 rfl ?_
  refine Gl.newO Y0 (tw_0 hw) (tw_1 hw) (tw_2 hw) (by decide) (by decide) at_58 rfl (fun T58 h58 b58 Y58 E58 g58 sb58 X58 D58 => ?_)
  have f1 : Fld Z h58 b58 "com/example/entrole/entrole/flowable/CaseChange" "caseName" "Ljava/lang/String;" .null := D58 (Or.inr (tw_47 hw)) (ty := (.object "java/lang/String")) (by decide)
  have f2 : Fld Z h58 b58 "com/example/entrole/entrole/flowable/CaseChange$Gift" "task" "Ljava/lang/String;" .null := D58 (Or.inr (tw_49 hw)) (ty := (.object "java/lang/String")) (by decide)
  have f3 : Fld Z h58 b58 "com/example/entrole/entrole/flowable/CaseChange$Gift" "subject" "Ljava/lang/String;" .null := D58 (Or.inr (tw_51 hw)) (ty := (.object "java/lang/String")) (by decide)
  show Gl p e below _ (T58.setTop (mkF m 61 #[.val (.int aa), .val (.int bb), .val (.int cc), .val (.int dd), .val (.int ee), .val (.int ff), .val (.int v5), .val (.int v13), .val (.int v21), .val (.int v29), .val (.int v38), .val (.int v47), .val (.int v55), .unset, .unset, .unset, .unset, .unset, .unset] [(.ref b58)]))
  refine Gl.dup Y58 rfl at_61 rfl ?_
  refine Gl.iload Y58 rfl at_62 rfl ?_
  have f4 : Old Z n0 h58 := (O.ext E58)
  refine Gl.callS Y58 (tw_3 hw) (tw_4 hw) (tw_5 hw) (tw_6 hw) (by decide) (rm5 l Z a0 hw [] v5 cs h58 n0 Y58.sz f4 S (hcs) (own_ch hv4 hv5)) (argsL := [(.int v5)]) (rest := [(.ref b58), (.ref b58)]) rfl rfl (lenOf pd_9 rfl) rfl (by decide) (Nat.le_of_ble_eq_true rfl) (by decide) (by decide) at_64 rfl (fun v64 T64 h64 Y64 q64 => ?_)
  obtain ⟨a64, b64, kb64, rfl, K64, f64_0, f64_1, f64_2, f64_3, f64_4, f64_5, f64_6⟩ := q64
  have Y64_sz : n0 ≤ h58.size := Y58.sz
  show Gl p e below _ (T64.setTop (mkF m 67 #[.val (.int aa), .val (.int bb), .val (.int cc), .val (.int dd), .val (.int ee), .val (.int ff), .val (.int v5), .val (.int v13), .val (.int v21), .val (.int v29), .val (.int v38), .val (.int v47), .val (.int v55), .unset, .unset, .unset, .unset, .unset, .unset] [(.ref a64), (.ref b58), (.ref b58)]))
  refine Gl.iload Y64 rfl at_67 rfl ?_
  have f5 : Old Z n0 h64 := (f4.keep K64 all0)
  refine Gl.callS Y64 (tw_3 hw) (tw_4 hw) (tw_5 hw) (tw_6 hw) (by decide) (rm5 l Z a0 hw [] v13 cs h64 n0 Y64.sz f5 S (hcs) (own_ch hv12 hv13)) (argsL := [(.int v13)]) (rest := [(.ref a64), (.ref b58), (.ref b58)]) rfl rfl (lenOf pd_9 rfl) rfl (by decide) (Nat.le_of_ble_eq_true rfl) (by decide) (by decide) at_69 rfl (fun v69 T69 h69 Y69 q69 => ?_)
  obtain ⟨a69, b69, kb69, rfl, K69, f69_0, f69_1, f69_2, f69_3, f69_4, f69_5, f69_6⟩ := q69
  have f6 : Exa Z h64 b58 "com/example/entrole/entrole/flowable/CaseChange$Gift" := (X58.keep K64)
  have Y69_sz : n0 ≤ h64.size := Y64.sz
  show Gl p e below _ (T69.setTop (mkF m 72 #[.val (.int aa), .val (.int bb), .val (.int cc), .val (.int dd), .val (.int ee), .val (.int ff), .val (.int v5), .val (.int v13), .val (.int v21), .val (.int v29), .val (.int v38), .val (.int v47), .val (.int v55), .unset, .unset, .unset, .unset, .unset, .unset] [(.ref a69), (.ref a64), (.ref b58), (.ref b58)]))
  refine Gl.iload Y69 rfl at_72 rfl ?_
  have f7 : Old Z n0 h69 := (f5.keep K69 all0)
  refine Gl.callS Y69 (tw_3 hw) (tw_4 hw) (tw_5 hw) (tw_6 hw) (by decide) (rm5 l Z a0 hw [] v21 cs h69 n0 Y69.sz f7 S (hcs) (own_ch hv20 hv21)) (argsL := [(.int v21)]) (rest := [(.ref a69), (.ref a64), (.ref b58), (.ref b58)]) rfl rfl (lenOf pd_9 rfl) rfl (by decide) (Nat.le_of_ble_eq_true rfl) (by decide) (by decide) at_74 rfl (fun v74 T74 h74 Y74 q74 => ?_)
  obtain ⟨a74, b74, kb74, rfl, K74, f74_0, f74_1, f74_2, f74_3, f74_4, f74_5, f74_6⟩ := q74
  have f8 : Exa Z h69 a64 "java/lang/String" := (f64_3.keep K69)
  have f9 : Exa Z h69 b58 "com/example/entrole/entrole/flowable/CaseChange$Gift" := (f6.keep K69)
  have f10 : Arv Z h69 b64 kb64 .byte (1 : Int32) [(.int (v5.toInt8.toInt32))] (.int (0 : Int32)) := (f64_6.keep K69 nin0)
  have Y74_sz : n0 ≤ h69.size := Y69.sz
  show Gl p e below _ (T74.setTop (mkF m 77 #[.val (.int aa), .val (.int bb), .val (.int cc), .val (.int dd), .val (.int ee), .val (.int ff), .val (.int v5), .val (.int v13), .val (.int v21), .val (.int v29), .val (.int v38), .val (.int v47), .val (.int v55), .unset, .unset, .unset, .unset, .unset, .unset] [(.ref a74), (.ref a69), (.ref a64), (.ref b58), (.ref b58)]))
  have f11 : Exa Z h74 b58 "com/example/entrole/entrole/flowable/CaseChange$Gift" := (f9.keep K74)
  have f12 : Fld Z h74 b58 "com/example/entrole/entrole/flowable/CaseChange" "caseName" "Ljava/lang/String;" .null := (((f1.keep K64 nin0).keep K69 nin0).keep K74 nin0)
  have f13 : Fld Z h74 b58 "com/example/entrole/entrole/flowable/CaseChange$Gift" "task" "Ljava/lang/String;" .null := (((f2.keep K64 nin0).keep K69 nin0).keep K74 nin0)
  have f14 : Fld Z h74 b58 "com/example/entrole/entrole/flowable/CaseChange$Gift" "subject" "Ljava/lang/String;" .null := (((f3.keep K64 nin0).keep K69 nin0).keep K74 nin0)
  refine Gl.callN Y74 rfl (tw_37 hw) (tw_38 hw) (tw_2 hw) (tw_39 hw) (by decide) (rm8 l Z a0 hw [] b58 a64 a69 a74 h74 n0 Y74.sz f11 f12 f13 f14 sb58) (a := b58) (argsL := [(.ref a64), (.ref a69), (.ref a74)]) (rest := [(.ref b58)]) rfl rfl (lenOf pd_10 rfl) rfl (by decide) (Nat.le_of_ble_eq_true rfl) (by decide) (by decide) at_77 rfl (fun v77 T77 h77 Y77 q77 => ?_)
  obtain ⟨rfl, K77, f77_0, f77_1, f77_2, f77_3⟩ := q77
  show Gl p e below _ (T77.setTop (mkF m 80 #[.val (.int aa), .val (.int bb), .val (.int cc), .val (.int dd), .val (.int ee), .val (.int ff), .val (.int v5), .val (.int v13), .val (.int v21), .val (.int v29), .val (.int v38), .val (.int v47), .val (.int v55), .unset, .unset, .unset, .unset, .unset, .unset] [(.ref b58)]))
  refine Gl.astore Y77 rfl (L' := #[.val (.int aa), .val (.int bb), .val (.int cc), .val (.int dd), .val (.int ee), .val (.int ff), .val (.int v5), .val (.int v13), .val (.int v21), .val (.int v29), .val (.int v38), .val (.int v47), .val (.int v55), .val (.ref b58), .unset, .unset, .unset, .unset, .unset]) rfl at_80 rfl ?_
  refine Gl.newO Y77 (tw_0 hw) (tw_1 hw) (tw_2 hw) (by decide) (by decide) at_82 rfl (fun T82 h82 b82 Y82 E82 g82 sb82 X82 D82 => ?_)
  have f15 : Exa Z h77 a64 "java/lang/String" := ((f8.keep K74).keep K77)
  have f16 : Exa Z h77 a69 "java/lang/String" := ((f69_3.keep K74).keep K77)
  have f17 : Exa Z h77 a74 "java/lang/String" := (f74_3.keep K77)
  have f18 : Arv Z h77 b64 kb64 .byte (1 : Int32) [(.int (v5.toInt8.toInt32))] (.int (0 : Int32)) := ((f10.keep K74 nin0).keep K77 (ninS (Ne.symm (Nat.ne_of_lt (Nat.lt_of_lt_of_le X58.lt f64_1))) nin0))
  have f19 : Arv Z h77 b69 kb69 .byte (1 : Int32) [(.int (v13.toInt8.toInt32))] (.int (0 : Int32)) := ((f69_6.keep K74 nin0).keep K77 (ninS (Ne.symm (Nat.ne_of_lt (Nat.lt_of_lt_of_le f6.lt f69_1))) nin0))
  have f20 : Arv Z h77 b74 kb74 .byte (1 : Int32) [(.int (v21.toInt8.toInt32))] (.int (0 : Int32)) := (f74_6.keep K77 (ninS (Ne.symm (Nat.ne_of_lt (Nat.lt_of_lt_of_le f9.lt f74_1))) nin0))
  have f21 : Fld Z h82 b82 "com/example/entrole/entrole/flowable/CaseChange" "caseName" "Ljava/lang/String;" .null := D82 (Or.inr (tw_47 hw)) (ty := (.object "java/lang/String")) (by decide)
  have f22 : Fld Z h82 b82 "com/example/entrole/entrole/flowable/CaseChange$Gift" "task" "Ljava/lang/String;" .null := D82 (Or.inr (tw_49 hw)) (ty := (.object "java/lang/String")) (by decide)
  have f23 : Fld Z h82 b82 "com/example/entrole/entrole/flowable/CaseChange$Gift" "subject" "Ljava/lang/String;" .null := D82 (Or.inr (tw_51 hw)) (ty := (.object "java/lang/String")) (by decide)
  show Gl p e below _ (T82.setTop (mkF m 85 #[.val (.int aa), .val (.int bb), .val (.int cc), .val (.int dd), .val (.int ee), .val (.int ff), .val (.int v5), .val (.int v13), .val (.int v21), .val (.int v29), .val (.int v38), .val (.int v47), .val (.int v55), .val (.ref b58), .unset, .unset, .unset, .unset, .unset] [(.ref b82)]))
  refine Gl.dup Y82 rfl at_85 rfl ?_
  refine Gl.iload Y82 rfl at_86 rfl ?_
  have f24 : Old Z n0 h82 := (((f7.keep K74 all0).keep K77 (allS sb58 all0)).ext E82)
  refine Gl.callS Y82 (tw_3 hw) (tw_4 hw) (tw_5 hw) (tw_6 hw) (by decide) (rm5 l Z a0 hw [] v29 cs h82 n0 Y82.sz f24 S (hcs) (own_ch hv28 hv29)) (argsL := [(.int v29)]) (rest := [(.ref b82), (.ref b82)]) rfl rfl (lenOf pd_9 rfl) rfl (by decide) (Nat.le_of_ble_eq_true rfl) (by decide) (by decide) at_88 rfl (fun v88 T88 h88 Y88 q88 => ?_)
  obtain ⟨a88, b88, kb88, rfl, K88, f88_0, f88_1, f88_2, f88_3, f88_4, f88_5, f88_6⟩ := q88
  have f25 : Exa Z h82 a64 "java/lang/String" := (Exa.ext E82 f15)
  have f26 : Exa Z h82 a69 "java/lang/String" := (Exa.ext E82 f16)
  have f27 : Exa Z h82 a74 "java/lang/String" := (Exa.ext E82 f17)
  have f28 : Exa Z h82 b58 "com/example/entrole/entrole/flowable/CaseChange$Gift" := (Exa.ext E82 f77_0)
  have f29 : Arv Z h82 b64 kb64 .byte (1 : Int32) [(.int (v5.toInt8.toInt32))] (.int (0 : Int32)) := (f18.ext E82)
  have f30 : Arv Z h82 b69 kb69 .byte (1 : Int32) [(.int (v13.toInt8.toInt32))] (.int (0 : Int32)) := (f19.ext E82)
  have f31 : Arv Z h82 b74 kb74 .byte (1 : Int32) [(.int (v21.toInt8.toInt32))] (.int (0 : Int32)) := (f20.ext E82)
  have Y88_sz : n0 ≤ h82.size := Y82.sz
  show Gl p e below _ (T88.setTop (mkF m 91 #[.val (.int aa), .val (.int bb), .val (.int cc), .val (.int dd), .val (.int ee), .val (.int ff), .val (.int v5), .val (.int v13), .val (.int v21), .val (.int v29), .val (.int v38), .val (.int v47), .val (.int v55), .val (.ref b58), .unset, .unset, .unset, .unset, .unset] [(.ref a88), (.ref b82), (.ref b82)]))
  refine Gl.iload Y88 rfl at_91 rfl ?_
  have f32 : Old Z n0 h88 := (f24.keep K88 all0)
  refine Gl.callS Y88 (tw_3 hw) (tw_4 hw) (tw_5 hw) (tw_6 hw) (by decide) (rm5 l Z a0 hw [] v38 cs h88 n0 Y88.sz f32 S (hcs) (own_ch hv37 hv38)) (argsL := [(.int v38)]) (rest := [(.ref a88), (.ref b82), (.ref b82)]) rfl rfl (lenOf pd_9 rfl) rfl (by decide) (Nat.le_of_ble_eq_true rfl) (by decide) (by decide) at_93 rfl (fun v93 T93 h93 Y93 q93 => ?_)
  obtain ⟨a93, b93, kb93, rfl, K93, f93_0, f93_1, f93_2, f93_3, f93_4, f93_5, f93_6⟩ := q93
  have f33 : Exa Z h88 a64 "java/lang/String" := (f25.keep K88)
  have f34 : Exa Z h88 a69 "java/lang/String" := (f26.keep K88)
  have f35 : Exa Z h88 a74 "java/lang/String" := (f27.keep K88)
  have f36 : Exa Z h88 b58 "com/example/entrole/entrole/flowable/CaseChange$Gift" := (f28.keep K88)
  have f37 : Arv Z h88 b64 kb64 .byte (1 : Int32) [(.int (v5.toInt8.toInt32))] (.int (0 : Int32)) := (f29.keep K88 nin0)
  have f38 : Arv Z h88 b69 kb69 .byte (1 : Int32) [(.int (v13.toInt8.toInt32))] (.int (0 : Int32)) := (f30.keep K88 nin0)
  have f39 : Arv Z h88 b74 kb74 .byte (1 : Int32) [(.int (v21.toInt8.toInt32))] (.int (0 : Int32)) := (f31.keep K88 nin0)
  have f40 : Exa Z h88 b82 "com/example/entrole/entrole/flowable/CaseChange$Gift" := (X82.keep K88)
  have Y93_sz : n0 ≤ h88.size := Y88.sz
  show Gl p e below _ (T93.setTop (mkF m 96 #[.val (.int aa), .val (.int bb), .val (.int cc), .val (.int dd), .val (.int ee), .val (.int ff), .val (.int v5), .val (.int v13), .val (.int v21), .val (.int v29), .val (.int v38), .val (.int v47), .val (.int v55), .val (.ref b58), .unset, .unset, .unset, .unset, .unset] [(.ref a93), (.ref a88), (.ref b82), (.ref b82)]))
  refine Gl.iload Y93 rfl at_96 rfl ?_
  have f41 : Old Z n0 h93 := (f32.keep K93 all0)
  refine Gl.callS Y93 (tw_3 hw) (tw_4 hw) (tw_5 hw) (tw_6 hw) (by decide) (rm5 l Z a0 hw [] v47 cs h93 n0 Y93.sz f41 S (hcs) (own_ch hv46 hv47)) (argsL := [(.int v47)]) (rest := [(.ref a93), (.ref a88), (.ref b82), (.ref b82)]) rfl rfl (lenOf pd_9 rfl) rfl (by decide) (Nat.le_of_ble_eq_true rfl) (by decide) (by decide) at_98 rfl (fun v98 T98 h98 Y98 q98 => ?_)
  obtain ⟨a98, b98, kb98, rfl, K98, f98_0, f98_1, f98_2, f98_3, f98_4, f98_5, f98_6⟩ := q98
  have f42 : Exa Z h93 a64 "java/lang/String" := (f33.keep K93)
  have f43 : Exa Z h93 a69 "java/lang/String" := (f34.keep K93)
  have f44 : Exa Z h93 a74 "java/lang/String" := (f35.keep K93)
  have f45 : Exa Z h93 a88 "java/lang/String" := (f88_3.keep K93)
  have f46 : Exa Z h93 b58 "com/example/entrole/entrole/flowable/CaseChange$Gift" := (f36.keep K93)
  have f47 : Arv Z h93 b64 kb64 .byte (1 : Int32) [(.int (v5.toInt8.toInt32))] (.int (0 : Int32)) := (f37.keep K93 nin0)
  have f48 : Arv Z h93 b69 kb69 .byte (1 : Int32) [(.int (v13.toInt8.toInt32))] (.int (0 : Int32)) := (f38.keep K93 nin0)
  have f49 : Arv Z h93 b74 kb74 .byte (1 : Int32) [(.int (v21.toInt8.toInt32))] (.int (0 : Int32)) := (f39.keep K93 nin0)
  have f50 : Exa Z h93 b82 "com/example/entrole/entrole/flowable/CaseChange$Gift" := (f40.keep K93)
  have f51 : Arv Z h93 b88 kb88 .byte (1 : Int32) [(.int (v29.toInt8.toInt32))] (.int (0 : Int32)) := (f88_6.keep K93 nin0)
  have Y98_sz : n0 ≤ h93.size := Y93.sz
  show Gl p e below _ (T98.setTop (mkF m 101 #[.val (.int aa), .val (.int bb), .val (.int cc), .val (.int dd), .val (.int ee), .val (.int ff), .val (.int v5), .val (.int v13), .val (.int v21), .val (.int v29), .val (.int v38), .val (.int v47), .val (.int v55), .val (.ref b58), .unset, .unset, .unset, .unset, .unset] [(.ref a98), (.ref a93), (.ref a88), (.ref b82), (.ref b82)]))
  have f52 : Exa Z h98 b82 "com/example/entrole/entrole/flowable/CaseChange$Gift" := (f50.keep K98)
  have f53 : Fld Z h98 b82 "com/example/entrole/entrole/flowable/CaseChange" "caseName" "Ljava/lang/String;" .null := (((f21.keep K88 nin0).keep K93 nin0).keep K98 nin0)
  have f54 : Fld Z h98 b82 "com/example/entrole/entrole/flowable/CaseChange$Gift" "task" "Ljava/lang/String;" .null := (((f22.keep K88 nin0).keep K93 nin0).keep K98 nin0)
  have f55 : Fld Z h98 b82 "com/example/entrole/entrole/flowable/CaseChange$Gift" "subject" "Ljava/lang/String;" .null := (((f23.keep K88 nin0).keep K93 nin0).keep K98 nin0)
  refine Gl.callN Y98 rfl (tw_37 hw) (tw_38 hw) (tw_2 hw) (tw_39 hw) (by decide) (rm8 l Z a0 hw [] b82 a88 a93 a98 h98 n0 Y98.sz f52 f53 f54 f55 sb82) (a := b82) (argsL := [(.ref a88), (.ref a93), (.ref a98)]) (rest := [(.ref b82)]) rfl rfl (lenOf pd_10 rfl) rfl (by decide) (Nat.le_of_ble_eq_true rfl) (by decide) (by decide) at_101 rfl (fun v101 T101 h101 Y101 q101 => ?_)
  obtain ⟨rfl, K101, f101_0, f101_1, f101_2, f101_3⟩ := q101
  show Gl p e below _ (T101.setTop (mkF m 104 #[.val (.int aa), .val (.int bb), .val (.int cc), .val (.int dd), .val (.int ee), .val (.int ff), .val (.int v5), .val (.int v13), .val (.int v21), .val (.int v29), .val (.int v38), .val (.int v47), .val (.int v55), .val (.ref b58), .unset, .unset, .unset, .unset, .unset] [(.ref b82)]))
  refine Gl.astore Y101 rfl (L' := #[.val (.int aa), .val (.int bb), .val (.int cc), .val (.int dd), .val (.int ee), .val (.int ff), .val (.int v5), .val (.int v13), .val (.int v21), .val (.int v29), .val (.int v38), .val (.int v47), .val (.int v55), .val (.ref b58), .val (.ref b82), .unset, .unset, .unset, .unset]) rfl at_104 rfl ?_
  have cs_v55 : v55 = (0 : Int32) ∨ v55 = (1 : Int32) ∨ v55 = (2 : Int32) ∨ v55 = (3 : Int32) := own_k3 hv55
  rcases cs_v55 with rfl | rfl | rfl | rfl
  · refine Gl.iload Y101 rfl at_106 rfl ?_
    refine Gl.iconst Y101 (v := (1 : Int32)) (by decide) at_108 rfl ?_
    refine Gl.icmpne Y101 at_109 (by decide) rfl rfl (fun c109 => ?_) (fun c109 => ?_)
    rotate_left
    · exact absurd c109 (by decide)
    refine Gl.iload Y101 rfl at_134 rfl ?_
    refine Gl.iconst Y101 (v := (2 : Int32)) (by decide) at_136 rfl ?_
    refine Gl.icmpne Y101 at_137 (by decide) rfl rfl (fun c137 => ?_) (fun c137 => ?_)
    rotate_left
    · exact absurd c137 (by decide)
    refine Gl.aload Y101 rfl rfl at_146 rfl ?_
    refine Gl.astore Y101 rfl (L' := #[.val (.int aa), .val (.int bb), .val (.int cc), .val (.int dd), .val (.int ee), .val (.int ff), .val (.int v5), .val (.int v13), .val (.int v21), .val (.int v29), .val (.int v38), .val (.int v47), .val (.int (0 : Int32)), .val (.ref b58), .val (.ref b82), .val (.ref b82), .unset, .unset, .unset]) rfl at_148 rfl ?_
    refine Gl.iload Y101 rfl at_150 rfl ?_
    refine Gl.ifeq Y101 at_152 (by decide) rfl rfl (fun c152 => ?_) (fun c152 => ?_)
    rotate_left
    · exact absurd c152 (by decide)
    refine Gl.iconst Y101 (v := (1 : Int32)) (by decide) at_161 rfl ?_
    refine Gl.goto Y101 at_162 (by decide) rfl ?_
    refine Gl.istore Y101 (L' := #[.val (.int aa), .val (.int bb), .val (.int cc), .val (.int dd), .val (.int ee), .val (.int ff), .val (.int v5), .val (.int v13), .val (.int v21), .val (.int v29), .val (.int v38), .val (.int v47), .val (.int (0 : Int32)), .val (.ref b58), .val (.ref b82), .val (.ref b82), .val (.int (1 : Int32)), .unset, .unset]) rfl at_166 rfl ?_
    refine Gl.iload Y101 rfl at_168 rfl ?_
    refine Gl.ifeq Y101 at_170 (by decide) rfl rfl (fun c170 => ?_) (fun c170 => ?_)
    · exact absurd c170 (by decide)
    refine Gl.iload Y101 rfl at_173 rfl ?_
    refine Gl.iload Y101 rfl at_175 rfl ?_
    obtain ⟨z177, hz177⟩ : ∃ z : Int32, (if v5 = v29 then (if v13 = v38 then (if v21 = v47 then (1 : Int32) else (0 : Int32)) else (0 : Int32)) else (0 : Int32)) = z := ⟨_, rfl⟩
    have iz177 : (v5.toInt = v29.toInt ∧ ((v13.toInt = v38.toInt ∧ ((v21.toInt = v47.toInt ∧ (z177.toInt = 1)) ∨ (¬ (v21.toInt = v47.toInt) ∧ (z177.toInt = 0)))) ∨ (¬ (v13.toInt = v38.toInt) ∧ (z177.toInt = 0)))) ∨ (¬ (v5.toInt = v29.toInt) ∧ (z177.toInt = 0)) := own_ite (c := v5 = v29) (fun q4 => ⟨congrArg Int32.toInt q4, own_ite (c := v13 = v38) (fun q5 => ⟨congrArg Int32.toInt q5, own_ite (c := v21 = v47) (fun q6 => ⟨congrArg Int32.toInt q6, congrArg Int32.toInt (show z177 = (1 : Int32) from by rw [← hz177]; simp only [q4, q5, q6, ↓reduceIte, if_true, if_false, ite_self])⟩) (fun q6 => ⟨fun q => q6 (Int32.toInt_inj.mp q), congrArg Int32.toInt (show z177 = (0 : Int32) from by rw [← hz177]; simp only [q4, q5, q6, ↓reduceIte, if_true, if_false, ite_self])⟩)⟩) (fun q5 => ⟨fun q => q5 (Int32.toInt_inj.mp q), congrArg Int32.toInt (show z177 = (0 : Int32) from by rw [← hz177]; simp only [q4, q5, ↓reduceIte, if_true, if_false, ite_self])⟩)⟩) (fun q4 => ⟨fun q => q4 (Int32.toInt_inj.mp q), congrArg Int32.toInt (show z177 = (0 : Int32) from by rw [← hz177]; simp only [q4, ↓reduceIte, if_true, if_false, ite_self])⟩)
    have bz177 : z177 = 0 ∨ z177 = 1 := by rw [← hz177]; (repeat' split) <;> first | (simp; done) | assumption
    refine own_cut (B := ∀ T', Sd Z "com/example/entrole/entrole/flowable/GiftEqualsPinLaw" code maxLocals (some .boolean) n0 p l e room_1 s m #[(.int aa), (.int bb), (.int cc), (.int dd), (.int ee), (.int ff)] below meth c T' h101 20 42 → Gl p e below (Pst s n0 room_1.cells room_1.slots (QL Z aa bb cc dd ee ff cs h0)) (T'.setTop (mkF m 199 #[.val (.int aa), .val (.int bb), .val (.int cc), .val (.int dd), .val (.int ee), .val (.int ff), .val (.int v5), .val (.int v13), .val (.int v21), .val (.int v29), .val (.int v38), .val (.int v47), .val (.int (0 : Int32)), .val (.ref b58), .val (.ref b82), .val (.ref b82), .val (.int (1 : Int32)), .unset, .unset] [(.int z177)]))) (fun jk => ?_) (fun T177j Y177j => ?_)
    · refine Gl.icmpne Y101 at_177 (by decide) rfl rfl (fun c177 => ?_) (fun c177 => ?_)
      · have j177 : ¬ (v5.toInt = v29.toInt) := fun q => c177 (Int32.toInt_inj.mp q)
        refine Gl.iconst Y101 (v := (0 : Int32)) (by decide) at_198 rfl ?_
        have ez177 : z177 = (0 : Int32) := by rw [← hz177]; simp only [c177, ↓reduceIte, if_true, if_false]
        rw [ez177] at jk
        exact jk T101 Y101
      · have j177 : v5.toInt = v29.toInt := congrArg Int32.toInt c177
        refine Gl.iload Y101 rfl at_180 rfl ?_
        refine Gl.iload Y101 rfl at_182 rfl ?_
        refine Gl.icmpne Y101 at_184 (by decide) rfl rfl (fun c184 => ?_) (fun c184 => ?_)
        · have j184 : ¬ (v13.toInt = v38.toInt) := fun q => c184 (Int32.toInt_inj.mp q)
          refine Gl.iconst Y101 (v := (0 : Int32)) (by decide) at_198 rfl ?_
          have ez177 : z177 = (0 : Int32) := by rw [← hz177]; simp only [c177, c184, ↓reduceIte, if_true, if_false]
          rw [ez177] at jk
          exact jk T101 Y101
        · have j184 : v13.toInt = v38.toInt := congrArg Int32.toInt c184
          refine Gl.iload Y101 rfl at_187 rfl ?_
          refine Gl.iload Y101 rfl at_189 rfl ?_
          refine Gl.icmpne Y101 at_191 (by decide) rfl rfl (fun c191 => ?_) (fun c191 => ?_)
          · have j191 : ¬ (v21.toInt = v47.toInt) := fun q => c191 (Int32.toInt_inj.mp q)
            refine Gl.iconst Y101 (v := (0 : Int32)) (by decide) at_198 rfl ?_
            have ez177 : z177 = (0 : Int32) := by rw [← hz177]; simp only [c177, c184, c191, ↓reduceIte, if_true, if_false]
            rw [ez177] at jk
            exact jk T101 Y101
          · have j191 : v21.toInt = v47.toInt := congrArg Int32.toInt c191
            refine Gl.iconst Y101 (v := (1 : Int32)) (by decide) at_194 rfl ?_
            refine Gl.goto Y101 at_195 (by decide) rfl ?_
            have ez177 : z177 = (1 : Int32) := by rw [← hz177]; simp only [c177, c184, c191, ↓reduceIte, if_true, if_false]
            rw [ez177] at jk
            exact jk T101 Y101
    refine Gl.istore Y177j (L' := #[.val (.int aa), .val (.int bb), .val (.int cc), .val (.int dd), .val (.int ee), .val (.int ff), .val (.int v5), .val (.int v13), .val (.int v21), .val (.int v29), .val (.int v38), .val (.int v47), .val (.int (0 : Int32)), .val (.ref b58), .val (.ref b82), .val (.ref b82), .val (.int (1 : Int32)), .val (.int z177), .unset]) rfl at_199 rfl ?_
    have eb0 := own_byte v5 v29 (own_ch hv4 hv5) (own_ch hv28 hv29)
    have ec0 := (own_byte v29 v5 (own_ch hv28 hv29) (own_ch hv4 hv5)).trans eq_comm
    have eb1 := own_byte v13 v38 (own_ch hv12 hv13) (own_ch hv37 hv38)
    have ec1 := (own_byte v38 v13 (own_ch hv37 hv38) (own_ch hv12 hv13)).trans eq_comm
    have eb2 := own_byte v21 v47 (own_ch hv20 hv21) (own_ch hv46 hv47)
    have ec2 := (own_byte v47 v21 (own_ch hv46 hv47) (own_ch hv20 hv21)).trans eq_comm
    refine Gl.aload Y177j rfl rfl at_201 rfl ?_
    refine Gl.aload Y177j rfl rfl at_203 rfl ?_
    have f56 : Exa Z h101 b58 "com/example/entrole/entrole/flowable/CaseChange$Gift" := ((f46.keep K98).keep K101)
    have f57 : Fld Z h101 b58 "com/example/entrole/entrole/flowable/CaseChange" "caseName" "Ljava/lang/String;" (.ref a64) := (((((Fld.ext E82 f77_1).keep K88 nin0).keep K93 nin0).keep K98 nin0).keep K101 (ninS (Nat.ne_of_lt (Nat.lt_of_lt_of_eq f77_0.lt g82.symm)) nin0))
    have f58 : Fld Z h101 b58 "com/example/entrole/entrole/flowable/CaseChange$Gift" "task" "Ljava/lang/String;" (.ref a69) := (((((Fld.ext E82 f77_2).keep K88 nin0).keep K93 nin0).keep K98 nin0).keep K101 (ninS (Nat.ne_of_lt (Nat.lt_of_lt_of_eq f77_0.lt g82.symm)) nin0))
    have f59 : Fld Z h101 b58 "com/example/entrole/entrole/flowable/CaseChange$Gift" "subject" "Ljava/lang/String;" (.ref a74) := (((((Fld.ext E82 f77_3).keep K88 nin0).keep K93 nin0).keep K98 nin0).keep K101 (ninS (Nat.ne_of_lt (Nat.lt_of_lt_of_eq f77_0.lt g82.symm)) nin0))
    have f60 : Exa Z h101 a64 "java/lang/String" := ((f42.keep K98).keep K101)
    have f61 : Exa Z h101 a69 "java/lang/String" := ((f43.keep K98).keep K101)
    have f62 : Exa Z h101 a74 "java/lang/String" := ((f44.keep K98).keep K101)
    refine Gl.callV Y177j (tw_52 hw) (tw_53 hw) (tw_55 hw) (tw_55 hw) (tw_54 hw) (tw_2 hw) (tw_56 hw) (by decide) f56 (rm16 l Z a0 hw [] b58 a64 a69 a74 h101 n0 Y177j.sz f56 f57 f58 f59 f60 f61 f62) (a := b58) (argsL := [(.ref b58)]) (rest := []) rfl rfl (lenOf pd_8 rfl) rfl (by decide) (Nat.le_of_ble_eq_true rfl) (by decide) (by decide) at_205 rfl (fun v205 T205 h205 Y205 q205 => ?_)
    obtain ⟨rfl, rfl⟩ := q205
    show Gl p e below _ (T205.setTop (mkF m 208 #[.val (.int aa), .val (.int bb), .val (.int cc), .val (.int dd), .val (.int ee), .val (.int ff), .val (.int v5), .val (.int v13), .val (.int v21), .val (.int v29), .val (.int v38), .val (.int v47), .val (.int (0 : Int32)), .val (.ref b58), .val (.ref b82), .val (.ref b82), .val (.int (1 : Int32)), .val (.int z177), .unset] [(.int (1 : Int32))]))
    refine Gl.ifeq Y205 at_208 (by decide) rfl rfl (fun c208 => ?_) (fun c208 => ?_)
    · exact absurd c208 (by decide)
    refine Gl.aload Y205 rfl rfl at_211 rfl ?_
    refine Gl.aload Y205 rfl rfl at_213 rfl ?_
    have f63 : Old Z n0 h101 := ((f41.keep K98 all0).keep K101 (allS sb82 all0))
    have f64 : Fld Z h101 a64 "java/lang/String" "coder" "B" (.int (0 : Int32)) := (((((Fld.ext E82 (((f64_4.keep K69 nin0).keep K74 nin0).keep K77 (ninS (Ne.symm (Nat.ne_of_lt (Nat.lt_of_lt_of_le X58.lt f64_0))) nin0))).keep K88 nin0).keep K93 nin0).keep K98 nin0).keep K101 (ninS (Nat.ne_of_lt (Nat.lt_of_lt_of_eq f15.lt g82.symm)) nin0))
    have f65 : Fld Z h101 a64 "java/lang/String" "value" "[B" (.ref b64) := (((((Fld.ext E82 (((f64_5.keep K69 nin0).keep K74 nin0).keep K77 (ninS (Ne.symm (Nat.ne_of_lt (Nat.lt_of_lt_of_le X58.lt f64_0))) nin0))).keep K88 nin0).keep K93 nin0).keep K98 nin0).keep K101 (ninS (Nat.ne_of_lt (Nat.lt_of_lt_of_eq f15.lt g82.symm)) nin0))
    have f66 : Arv Z h101 b64 kb64 .byte (1 : Int32) [(.int (v5.toInt8.toInt32))] (.int (0 : Int32)) := ((f47.keep K98 nin0).keep K101 (ninS (Nat.ne_of_lt (Nat.lt_of_lt_of_eq f18.lt g82.symm)) nin0))
    have f67 : Exa Z h101 a88 "java/lang/String" := ((f45.keep K98).keep K101)
    have f68 : Fld Z h101 a88 "java/lang/String" "coder" "B" (.int (0 : Int32)) := (((f88_4.keep K93 nin0).keep K98 nin0).keep K101 (ninS (Ne.symm (Nat.ne_of_lt (Nat.lt_of_lt_of_le X82.lt f88_0))) nin0))
    have f69 : Fld Z h101 a88 "java/lang/String" "value" "[B" (.ref b88) := (((f88_5.keep K93 nin0).keep K98 nin0).keep K101 (ninS (Ne.symm (Nat.ne_of_lt (Nat.lt_of_lt_of_le X82.lt f88_0))) nin0))
    have f70 : Arv Z h101 b88 kb88 .byte (1 : Int32) [(.int (v29.toInt8.toInt32))] (.int (0 : Int32)) := ((f51.keep K98 nin0).keep K101 (ninS (Ne.symm (Nat.ne_of_lt (Nat.lt_of_lt_of_le X82.lt f88_1))) nin0))
    have f71 : Fld Z h101 a69 "java/lang/String" "coder" "B" (.int (0 : Int32)) := (((((Fld.ext E82 ((f69_4.keep K74 nin0).keep K77 (ninS (Ne.symm (Nat.ne_of_lt (Nat.lt_of_lt_of_le f6.lt f69_0))) nin0))).keep K88 nin0).keep K93 nin0).keep K98 nin0).keep K101 (ninS (Nat.ne_of_lt (Nat.lt_of_lt_of_eq f16.lt g82.symm)) nin0))
    have f72 : Fld Z h101 a69 "java/lang/String" "value" "[B" (.ref b69) := (((((Fld.ext E82 ((f69_5.keep K74 nin0).keep K77 (ninS (Ne.symm (Nat.ne_of_lt (Nat.lt_of_lt_of_le f6.lt f69_0))) nin0))).keep K88 nin0).keep K93 nin0).keep K98 nin0).keep K101 (ninS (Nat.ne_of_lt (Nat.lt_of_lt_of_eq f16.lt g82.symm)) nin0))
    have f73 : Arv Z h101 b69 kb69 .byte (1 : Int32) [(.int (v13.toInt8.toInt32))] (.int (0 : Int32)) := ((f48.keep K98 nin0).keep K101 (ninS (Nat.ne_of_lt (Nat.lt_of_lt_of_eq f19.lt g82.symm)) nin0))
    have f74 : Exa Z h101 a93 "java/lang/String" := ((f93_3.keep K98).keep K101)
    have f75 : Fld Z h101 a93 "java/lang/String" "coder" "B" (.int (0 : Int32)) := ((f93_4.keep K98 nin0).keep K101 (ninS (Ne.symm (Nat.ne_of_lt (Nat.lt_of_lt_of_le f40.lt f93_0))) nin0))
    have f76 : Fld Z h101 a93 "java/lang/String" "value" "[B" (.ref b93) := ((f93_5.keep K98 nin0).keep K101 (ninS (Ne.symm (Nat.ne_of_lt (Nat.lt_of_lt_of_le f40.lt f93_0))) nin0))
    have f77 : Arv Z h101 b93 kb93 .byte (1 : Int32) [(.int (v38.toInt8.toInt32))] (.int (0 : Int32)) := ((f93_6.keep K98 nin0).keep K101 (ninS (Ne.symm (Nat.ne_of_lt (Nat.lt_of_lt_of_le f40.lt f93_1))) nin0))
    have f78 : Fld Z h101 a74 "java/lang/String" "coder" "B" (.int (0 : Int32)) := (((((Fld.ext E82 (f74_4.keep K77 (ninS (Ne.symm (Nat.ne_of_lt (Nat.lt_of_lt_of_le f9.lt f74_0))) nin0))).keep K88 nin0).keep K93 nin0).keep K98 nin0).keep K101 (ninS (Nat.ne_of_lt (Nat.lt_of_lt_of_eq f17.lt g82.symm)) nin0))
    have f79 : Fld Z h101 a74 "java/lang/String" "value" "[B" (.ref b74) := (((((Fld.ext E82 (f74_5.keep K77 (ninS (Ne.symm (Nat.ne_of_lt (Nat.lt_of_lt_of_le f9.lt f74_0))) nin0))).keep K88 nin0).keep K93 nin0).keep K98 nin0).keep K101 (ninS (Nat.ne_of_lt (Nat.lt_of_lt_of_eq f17.lt g82.symm)) nin0))
    have f80 : Arv Z h101 b74 kb74 .byte (1 : Int32) [(.int (v21.toInt8.toInt32))] (.int (0 : Int32)) := ((f49.keep K98 nin0).keep K101 (ninS (Nat.ne_of_lt (Nat.lt_of_lt_of_eq f20.lt g82.symm)) nin0))
    have f81 : Exa Z h101 a98 "java/lang/String" := (f98_3.keep K101)
    have f82 : Fld Z h101 a98 "java/lang/String" "coder" "B" (.int (0 : Int32)) := (f98_4.keep K101 (ninS (Ne.symm (Nat.ne_of_lt (Nat.lt_of_lt_of_le f50.lt f98_0))) nin0))
    have f83 : Fld Z h101 a98 "java/lang/String" "value" "[B" (.ref b98) := (f98_5.keep K101 (ninS (Ne.symm (Nat.ne_of_lt (Nat.lt_of_lt_of_le f50.lt f98_0))) nin0))
    have f84 : Arv Z h101 b98 kb98 .byte (1 : Int32) [(.int (v47.toInt8.toInt32))] (.int (0 : Int32)) := (f98_6.keep K101 (ninS (Ne.symm (Nat.ne_of_lt (Nat.lt_of_lt_of_le f50.lt f98_1))) nin0))
    refine Gl.callV Y205 (tw_52 hw) (tw_53 hw) (tw_55 hw) (tw_55 hw) (tw_54 hw) (tw_2 hw) (tw_56 hw) (by decide) f56 (rm17 l Z a0 hw [] b58 b82 a64 b64 kb64 (v5.toInt8.toInt32) a88 b88 kb88 (v29.toInt8.toInt32) a69 b69 kb69 (v13.toInt8.toInt32) a93 b93 kb93 (v38.toInt8.toInt32) a74 b74 kb74 (v21.toInt8.toInt32) a98 b98 kb98 (v47.toInt8.toInt32) cs h101 n0 Y205.sz f63 S (hcs) f56 f101_0 f57 f58 f59 f101_1 f101_2 f101_3 f60 f64 f65 f66 f67 f68 f69 f70 (Nat.ne_of_lt (Nat.lt_of_lt_of_le f25.lt f88_0)) f61 f71 f72 f73 f74 f75 f76 f77 (Nat.ne_of_lt (Nat.lt_of_lt_of_le f34.lt f93_0)) f62 f78 f79 f80 f81 f82 f83 f84 (Nat.ne_of_lt (Nat.lt_of_lt_of_le f44.lt f98_0))) (a := b58) (argsL := [(.ref b82)]) (rest := []) rfl rfl (lenOf pd_8 rfl) rfl (by decide) (Nat.le_of_ble_eq_true rfl) (by decide) (by decide) at_215 rfl (fun v215 T215 h215 Y215 q215 => ?_)
    obtain ⟨r215, rfl, p215, rfl⟩ := q215
    have br215 : r215 = 0 ∨ r215 = 1 := p215.2
    show Gl p e below _ (T215.setTop (mkF m 218 #[.val (.int aa), .val (.int bb), .val (.int cc), .val (.int dd), .val (.int ee), .val (.int ff), .val (.int v5), .val (.int v13), .val (.int v21), .val (.int v29), .val (.int v38), .val (.int v47), .val (.int (0 : Int32)), .val (.ref b58), .val (.ref b82), .val (.ref b82), .val (.int (1 : Int32)), .val (.int z177), .unset] [(.int r215)]))
    refine Gl.iload Y215 rfl at_218 rfl ?_
    refine Gl.icmpne Y215 at_220 (by decide) rfl rfl (fun c220 => ?_) (fun c220 => ?_)
    · exact absurd (Int32.toInt_inj.mp (own_fin ec0 ec1 ec2 p215.1 iz177)) c220
    have j220 : r215.toInt = z177.toInt := congrArg Int32.toInt c220
    refine Gl.iconst Y215 (v := (1 : Int32)) (by decide) at_223 rfl ?_
    refine Gl.goto Y215 at_224 (by decide) rfl ?_
    refine Gl.istore Y215 (L' := #[.val (.int aa), .val (.int bb), .val (.int cc), .val (.int dd), .val (.int ee), .val (.int ff), .val (.int v5), .val (.int v13), .val (.int v21), .val (.int v29), .val (.int v38), .val (.int v47), .val (.int (0 : Int32)), .val (.ref b58), .val (.ref b82), .val (.ref b82), .val (.int (1 : Int32)), .val (.int z177), .val (.int (1 : Int32))]) rfl at_228 rfl ?_
    refine Gl.iload Y215 rfl at_230 rfl ?_
    refine Gl.ifeq Y215 at_232 (by decide) rfl rfl (fun c232 => ?_) (fun c232 => ?_)
    · exact absurd c232 (by decide)
    refine Gl.iload Y215 rfl at_235 rfl ?_
    refine Gl.ifeq Y215 at_237 (by decide) rfl rfl (fun c237 => ?_) (fun c237 => ?_)
    · exact absurd c237 (by decide)
    refine Gl.aload Y215 rfl rfl at_240 rfl ?_
    refine Gl.aload Y215 rfl rfl at_242 rfl ?_
    refine Gl.callV Y215 (tw_52 hw) (tw_53 hw) (tw_55 hw) (tw_55 hw) (tw_54 hw) (tw_2 hw) (tw_56 hw) (by decide) f101_0 (rm17 l Z a0 hw [] b82 b58 a88 b88 kb88 (v29.toInt8.toInt32) a64 b64 kb64 (v5.toInt8.toInt32) a93 b93 kb93 (v38.toInt8.toInt32) a69 b69 kb69 (v13.toInt8.toInt32) a98 b98 kb98 (v47.toInt8.toInt32) a74 b74 kb74 (v21.toInt8.toInt32) cs h101 n0 Y215.sz f63 S (hcs) f101_0 f56 f101_1 f101_2 f101_3 f57 f58 f59 f67 f68 f69 f70 f60 f64 f65 f66 (Ne.symm (Nat.ne_of_lt (Nat.lt_of_lt_of_le f25.lt f88_0))) f74 f75 f76 f77 f61 f71 f72 f73 (Ne.symm (Nat.ne_of_lt (Nat.lt_of_lt_of_le f34.lt f93_0))) f81 f82 f83 f84 f62 f78 f79 f80 (Ne.symm (Nat.ne_of_lt (Nat.lt_of_lt_of_le f44.lt f98_0)))) (a := b82) (argsL := [(.ref b58)]) (rest := []) rfl rfl (lenOf pd_8 rfl) rfl (by decide) (Nat.le_of_ble_eq_true rfl) (by decide) (by decide) at_244 rfl (fun v244 T244 h244 Y244 q244 => ?_)
    obtain ⟨r244, rfl, p244, rfl⟩ := q244
    have br244 : r244 = 0 ∨ r244 = 1 := p244.2
    show Gl p e below _ (T244.setTop (mkF m 247 #[.val (.int aa), .val (.int bb), .val (.int cc), .val (.int dd), .val (.int ee), .val (.int ff), .val (.int v5), .val (.int v13), .val (.int v21), .val (.int v29), .val (.int v38), .val (.int v47), .val (.int (0 : Int32)), .val (.ref b58), .val (.ref b82), .val (.ref b82), .val (.int (1 : Int32)), .val (.int z177), .val (.int (1 : Int32))] [(.int r244)]))
    refine Gl.iload Y244 rfl at_247 rfl ?_
    refine Gl.icmpne Y244 at_249 (by decide) rfl rfl (fun c249 => ?_) (fun c249 => ?_)
    · exact absurd (Int32.toInt_inj.mp (own_fin eb0 eb1 eb2 p244.1 iz177)) c249
    have j249 : r244.toInt = z177.toInt := congrArg Int32.toInt c249
    refine Gl.iconst Y244 (v := (1 : Int32)) (by decide) at_252 rfl ?_
    refine Gl.goto Y244 at_253 (by decide) rfl ?_
    refine Gl.istore Y244 (L' := #[.val (.int aa), .val (.int bb), .val (.int cc), .val (.int dd), .val (.int ee), .val (.int ff), .val (.int v5), .val (.int v13), .val (.int v21), .val (.int v29), .val (.int v38), .val (.int v47), .val (.int (0 : Int32)), .val (.ref b58), .val (.ref b82), .val (.ref b82), .val (.int (1 : Int32)), .val (.int z177), .val (.int (1 : Int32))]) rfl at_257 rfl ?_
    refine Gl.iload Y244 rfl at_259 rfl ?_
    exact Gl.retZ Y244 (by decide) (by decide) (x' := (1 : Int32)) (by decide) at_261 rfl
  · refine Gl.iload Y101 rfl at_106 rfl ?_
    refine Gl.iconst Y101 (v := (1 : Int32)) (by decide) at_108 rfl ?_
    refine Gl.icmpne Y101 at_109 (by decide) rfl rfl (fun c109 => ?_) (fun c109 => ?_)
    · exact absurd c109 (by decide)
    refine Gl.newO Y101 (tw_75 hw) (tw_76 hw) (tw_77 hw) (by decide) (by decide) at_112 rfl (fun T112 h112 b112 Y112 E112 g112 sb112 X112 D112 => ?_)
    have f85 : Exa Z h101 a64 "java/lang/String" := ((f42.keep K98).keep K101)
    have f86 : Exa Z h101 a69 "java/lang/String" := ((f43.keep K98).keep K101)
    have f87 : Exa Z h101 a74 "java/lang/String" := ((f44.keep K98).keep K101)
    have f88 : Exa Z h101 a88 "java/lang/String" := ((f45.keep K98).keep K101)
    have f89 : Exa Z h101 a93 "java/lang/String" := ((f93_3.keep K98).keep K101)
    have f90 : Exa Z h101 a98 "java/lang/String" := (f98_3.keep K101)
    have f91 : Exa Z h101 b58 "com/example/entrole/entrole/flowable/CaseChange$Gift" := ((f46.keep K98).keep K101)
    have f92 : Arv Z h101 b64 kb64 .byte (1 : Int32) [(.int (v5.toInt8.toInt32))] (.int (0 : Int32)) := ((f47.keep K98 nin0).keep K101 (ninS (Nat.ne_of_lt (Nat.lt_of_lt_of_eq f18.lt g82.symm)) nin0))
    have f93 : Arv Z h101 b69 kb69 .byte (1 : Int32) [(.int (v13.toInt8.toInt32))] (.int (0 : Int32)) := ((f48.keep K98 nin0).keep K101 (ninS (Nat.ne_of_lt (Nat.lt_of_lt_of_eq f19.lt g82.symm)) nin0))
    have f94 : Arv Z h101 b74 kb74 .byte (1 : Int32) [(.int (v21.toInt8.toInt32))] (.int (0 : Int32)) := ((f49.keep K98 nin0).keep K101 (ninS (Nat.ne_of_lt (Nat.lt_of_lt_of_eq f20.lt g82.symm)) nin0))
    have f95 : Arv Z h101 b88 kb88 .byte (1 : Int32) [(.int (v29.toInt8.toInt32))] (.int (0 : Int32)) := ((f51.keep K98 nin0).keep K101 (ninS (Ne.symm (Nat.ne_of_lt (Nat.lt_of_lt_of_le X82.lt f88_1))) nin0))
    have f96 : Arv Z h101 b93 kb93 .byte (1 : Int32) [(.int (v38.toInt8.toInt32))] (.int (0 : Int32)) := ((f93_6.keep K98 nin0).keep K101 (ninS (Ne.symm (Nat.ne_of_lt (Nat.lt_of_lt_of_le f40.lt f93_1))) nin0))
    have f97 : Arv Z h101 b98 kb98 .byte (1 : Int32) [(.int (v47.toInt8.toInt32))] (.int (0 : Int32)) := (f98_6.keep K101 (ninS (Ne.symm (Nat.ne_of_lt (Nat.lt_of_lt_of_le f50.lt f98_1))) nin0))
    have f98 : Fld Z h112 b112 "com/example/entrole/entrole/flowable/CaseChange" "caseName" "Ljava/lang/String;" .null := D112 (Or.inr (tw_82 hw)) (ty := (.object "java/lang/String")) (by decide)
    have f99 : Fld Z h112 b112 "com/example/entrole/entrole/flowable/CaseChange$Start" "process" "Ljava/lang/String;" .null := D112 (Or.inr (tw_84 hw)) (ty := (.object "java/lang/String")) (by decide)
    show Gl p e below _ (T112.setTop (mkF m 115 #[.val (.int aa), .val (.int bb), .val (.int cc), .val (.int dd), .val (.int ee), .val (.int ff), .val (.int v5), .val (.int v13), .val (.int v21), .val (.int v29), .val (.int v38), .val (.int v47), .val (.int (1 : Int32)), .val (.ref b58), .val (.ref b82), .unset, .unset, .unset, .unset] [(.ref b112)]))
    refine Gl.dup Y112 rfl at_115 rfl ?_
    refine Gl.iload Y112 rfl at_116 rfl ?_
    have f100 : Old Z n0 h112 := (((f41.keep K98 all0).keep K101 (allS sb82 all0)).ext E112)
    refine Gl.callS Y112 (tw_3 hw) (tw_4 hw) (tw_5 hw) (tw_6 hw) (by decide) (rm5 l Z a0 hw [] v29 cs h112 n0 Y112.sz f100 S (hcs) (own_ch hv28 hv29)) (argsL := [(.int v29)]) (rest := [(.ref b112), (.ref b112)]) rfl rfl (lenOf pd_9 rfl) rfl (by decide) (Nat.le_of_ble_eq_true rfl) (by decide) (by decide) at_118 rfl (fun v118 T118 h118 Y118 q118 => ?_)
    obtain ⟨a118, b118, kb118, rfl, K118, f118_0, f118_1, f118_2, f118_3, f118_4, f118_5, f118_6⟩ := q118
    have f101 : Exa Z h112 a64 "java/lang/String" := (Exa.ext E112 f85)
    have f102 : Exa Z h112 a69 "java/lang/String" := (Exa.ext E112 f86)
    have f103 : Exa Z h112 a74 "java/lang/String" := (Exa.ext E112 f87)
    have f104 : Exa Z h112 a88 "java/lang/String" := (Exa.ext E112 f88)
    have f105 : Exa Z h112 a93 "java/lang/String" := (Exa.ext E112 f89)
    have f106 : Exa Z h112 a98 "java/lang/String" := (Exa.ext E112 f90)
    have f107 : Exa Z h112 b58 "com/example/entrole/entrole/flowable/CaseChange$Gift" := (Exa.ext E112 f91)
    have f108 : Arv Z h112 b64 kb64 .byte (1 : Int32) [(.int (v5.toInt8.toInt32))] (.int (0 : Int32)) := (f92.ext E112)
    have f109 : Arv Z h112 b69 kb69 .byte (1 : Int32) [(.int (v13.toInt8.toInt32))] (.int (0 : Int32)) := (f93.ext E112)
    have f110 : Arv Z h112 b74 kb74 .byte (1 : Int32) [(.int (v21.toInt8.toInt32))] (.int (0 : Int32)) := (f94.ext E112)
    have f111 : Exa Z h112 b82 "com/example/entrole/entrole/flowable/CaseChange$Gift" := (Exa.ext E112 f101_0)
    have f112 : Arv Z h112 b88 kb88 .byte (1 : Int32) [(.int (v29.toInt8.toInt32))] (.int (0 : Int32)) := (f95.ext E112)
    have f113 : Arv Z h112 b93 kb93 .byte (1 : Int32) [(.int (v38.toInt8.toInt32))] (.int (0 : Int32)) := (f96.ext E112)
    have f114 : Arv Z h112 b98 kb98 .byte (1 : Int32) [(.int (v47.toInt8.toInt32))] (.int (0 : Int32)) := (f97.ext E112)
    have Y118_sz : n0 ≤ h112.size := Y112.sz
    show Gl p e below _ (T118.setTop (mkF m 121 #[.val (.int aa), .val (.int bb), .val (.int cc), .val (.int dd), .val (.int ee), .val (.int ff), .val (.int v5), .val (.int v13), .val (.int v21), .val (.int v29), .val (.int v38), .val (.int v47), .val (.int (1 : Int32)), .val (.ref b58), .val (.ref b82), .unset, .unset, .unset, .unset] [(.ref a118), (.ref b112), (.ref b112)]))
    refine Gl.iload Y118 rfl at_121 rfl ?_
    have f115 : Old Z n0 h118 := (f100.keep K118 all0)
    refine Gl.callS Y118 (tw_3 hw) (tw_4 hw) (tw_5 hw) (tw_6 hw) (by decide) (rm5 l Z a0 hw [] v38 cs h118 n0 Y118.sz f115 S (hcs) (own_ch hv37 hv38)) (argsL := [(.int v38)]) (rest := [(.ref a118), (.ref b112), (.ref b112)]) rfl rfl (lenOf pd_9 rfl) rfl (by decide) (Nat.le_of_ble_eq_true rfl) (by decide) (by decide) at_123 rfl (fun v123 T123 h123 Y123 q123 => ?_)
    obtain ⟨a123, b123, kb123, rfl, K123, f123_0, f123_1, f123_2, f123_3, f123_4, f123_5, f123_6⟩ := q123
    have f116 : Exa Z h118 a64 "java/lang/String" := (f101.keep K118)
    have f117 : Exa Z h118 a69 "java/lang/String" := (f102.keep K118)
    have f118 : Exa Z h118 a74 "java/lang/String" := (f103.keep K118)
    have f119 : Exa Z h118 a88 "java/lang/String" := (f104.keep K118)
    have f120 : Exa Z h118 a93 "java/lang/String" := (f105.keep K118)
    have f121 : Exa Z h118 a98 "java/lang/String" := (f106.keep K118)
    have f122 : Exa Z h118 b112 "com/example/entrole/entrole/flowable/CaseChange$Start" := (X112.keep K118)
    have f123 : Exa Z h118 b58 "com/example/entrole/entrole/flowable/CaseChange$Gift" := (f107.keep K118)
    have f124 : Arv Z h118 b64 kb64 .byte (1 : Int32) [(.int (v5.toInt8.toInt32))] (.int (0 : Int32)) := (f108.keep K118 nin0)
    have f125 : Arv Z h118 b69 kb69 .byte (1 : Int32) [(.int (v13.toInt8.toInt32))] (.int (0 : Int32)) := (f109.keep K118 nin0)
    have f126 : Arv Z h118 b74 kb74 .byte (1 : Int32) [(.int (v21.toInt8.toInt32))] (.int (0 : Int32)) := (f110.keep K118 nin0)
    have f127 : Exa Z h118 b82 "com/example/entrole/entrole/flowable/CaseChange$Gift" := (f111.keep K118)
    have f128 : Arv Z h118 b88 kb88 .byte (1 : Int32) [(.int (v29.toInt8.toInt32))] (.int (0 : Int32)) := (f112.keep K118 nin0)
    have f129 : Arv Z h118 b93 kb93 .byte (1 : Int32) [(.int (v38.toInt8.toInt32))] (.int (0 : Int32)) := (f113.keep K118 nin0)
    have f130 : Arv Z h118 b98 kb98 .byte (1 : Int32) [(.int (v47.toInt8.toInt32))] (.int (0 : Int32)) := (f114.keep K118 nin0)
    have Y123_sz : n0 ≤ h118.size := Y118.sz
    show Gl p e below _ (T123.setTop (mkF m 126 #[.val (.int aa), .val (.int bb), .val (.int cc), .val (.int dd), .val (.int ee), .val (.int ff), .val (.int v5), .val (.int v13), .val (.int v21), .val (.int v29), .val (.int v38), .val (.int v47), .val (.int (1 : Int32)), .val (.ref b58), .val (.ref b82), .unset, .unset, .unset, .unset] [(.ref a123), (.ref a118), (.ref b112), (.ref b112)]))
    have f131 : Exa Z h123 b112 "com/example/entrole/entrole/flowable/CaseChange$Start" := (f122.keep K123)
    have f132 : Fld Z h123 b112 "com/example/entrole/entrole/flowable/CaseChange" "caseName" "Ljava/lang/String;" .null := ((f98.keep K118 nin0).keep K123 nin0)
    have f133 : Fld Z h123 b112 "com/example/entrole/entrole/flowable/CaseChange$Start" "process" "Ljava/lang/String;" .null := ((f99.keep K118 nin0).keep K123 nin0)
    refine Gl.callN Y123 rfl (tw_78 hw) (tw_79 hw) (tw_77 hw) (tw_80 hw) (by decide) (rm9 l Z a0 hw [] b112 a118 a123 h123 n0 Y123.sz f131 f132 f133 sb112) (a := b112) (argsL := [(.ref a118), (.ref a123)]) (rest := [(.ref b112)]) rfl rfl (lenOf pd_11 rfl) rfl (by decide) (Nat.le_of_ble_eq_true rfl) (by decide) (by decide) at_126 rfl (fun v126 T126 h126 Y126 q126 => ?_)
    obtain ⟨rfl, K126, f126_0⟩ := q126
    show Gl p e below _ (T126.setTop (mkF m 129 #[.val (.int aa), .val (.int bb), .val (.int cc), .val (.int dd), .val (.int ee), .val (.int ff), .val (.int v5), .val (.int v13), .val (.int v21), .val (.int v29), .val (.int v38), .val (.int v47), .val (.int (1 : Int32)), .val (.ref b58), .val (.ref b82), .unset, .unset, .unset, .unset] [(.ref b112)]))
    refine Gl.astore Y126 rfl (L' := #[.val (.int aa), .val (.int bb), .val (.int cc), .val (.int dd), .val (.int ee), .val (.int ff), .val (.int v5), .val (.int v13), .val (.int v21), .val (.int v29), .val (.int v38), .val (.int v47), .val (.int (1 : Int32)), .val (.ref b58), .val (.ref b82), .val (.ref b112), .unset, .unset, .unset]) rfl at_129 rfl ?_
    refine Gl.goto Y126 at_131 (by decide) rfl ?_
    refine Gl.iload Y126 rfl at_150 rfl ?_
    refine Gl.ifeq Y126 at_152 (by decide) rfl rfl (fun c152 => ?_) (fun c152 => ?_)
    · exact absurd c152 (by decide)
    refine Gl.iload Y126 rfl at_155 rfl ?_
    refine Gl.iconst Y126 (v := (3 : Int32)) (by decide) at_157 rfl ?_
    refine Gl.icmpne Y126 at_158 (by decide) rfl rfl (fun c158 => ?_) (fun c158 => ?_)
    rotate_left
    · exact absurd c158 (by decide)
    refine Gl.iconst Y126 (v := (0 : Int32)) (by decide) at_165 rfl ?_
    refine Gl.istore Y126 (L' := #[.val (.int aa), .val (.int bb), .val (.int cc), .val (.int dd), .val (.int ee), .val (.int ff), .val (.int v5), .val (.int v13), .val (.int v21), .val (.int v29), .val (.int v38), .val (.int v47), .val (.int (1 : Int32)), .val (.ref b58), .val (.ref b82), .val (.ref b112), .val (.int (0 : Int32)), .unset, .unset]) rfl at_166 rfl ?_
    refine Gl.iload Y126 rfl at_168 rfl ?_
    refine Gl.ifeq Y126 at_170 (by decide) rfl rfl (fun c170 => ?_) (fun c170 => ?_)
    rotate_left
    · exact absurd c170 (by decide)
    refine Gl.iconst Y126 (v := (0 : Int32)) (by decide) at_198 rfl ?_
    refine Gl.istore Y126 (L' := #[.val (.int aa), .val (.int bb), .val (.int cc), .val (.int dd), .val (.int ee), .val (.int ff), .val (.int v5), .val (.int v13), .val (.int v21), .val (.int v29), .val (.int v38), .val (.int v47), .val (.int (1 : Int32)), .val (.ref b58), .val (.ref b82), .val (.ref b112), .val (.int (0 : Int32)), .val (.int (0 : Int32)), .unset]) rfl at_199 rfl ?_
    refine Gl.aload Y126 rfl rfl at_201 rfl ?_
    refine Gl.aload Y126 rfl rfl at_203 rfl ?_
    have f134 : Exa Z h126 b58 "com/example/entrole/entrole/flowable/CaseChange$Gift" := ((f123.keep K123).keep K126)
    have f135 : Fld Z h126 b58 "com/example/entrole/entrole/flowable/CaseChange" "caseName" "Ljava/lang/String;" (.ref a64) := ((((Fld.ext E112 (((((Fld.ext E82 f77_1).keep K88 nin0).keep K93 nin0).keep K98 nin0).keep K101 (ninS (Nat.ne_of_lt (Nat.lt_of_lt_of_eq f77_0.lt g82.symm)) nin0))).keep K118 nin0).keep K123 nin0).keep K126 (ninS (Nat.ne_of_lt (Nat.lt_of_lt_of_eq f91.lt g112.symm)) nin0))
    have f136 : Fld Z h126 b58 "com/example/entrole/entrole/flowable/CaseChange$Gift" "task" "Ljava/lang/String;" (.ref a69) := ((((Fld.ext E112 (((((Fld.ext E82 f77_2).keep K88 nin0).keep K93 nin0).keep K98 nin0).keep K101 (ninS (Nat.ne_of_lt (Nat.lt_of_lt_of_eq f77_0.lt g82.symm)) nin0))).keep K118 nin0).keep K123 nin0).keep K126 (ninS (Nat.ne_of_lt (Nat.lt_of_lt_of_eq f91.lt g112.symm)) nin0))
    have f137 : Fld Z h126 b58 "com/example/entrole/entrole/flowable/CaseChange$Gift" "subject" "Ljava/lang/String;" (.ref a74) := ((((Fld.ext E112 (((((Fld.ext E82 f77_3).keep K88 nin0).keep K93 nin0).keep K98 nin0).keep K101 (ninS (Nat.ne_of_lt (Nat.lt_of_lt_of_eq f77_0.lt g82.symm)) nin0))).keep K118 nin0).keep K123 nin0).keep K126 (ninS (Nat.ne_of_lt (Nat.lt_of_lt_of_eq f91.lt g112.symm)) nin0))
    have f138 : Exa Z h126 a64 "java/lang/String" := ((f116.keep K123).keep K126)
    have f139 : Exa Z h126 a69 "java/lang/String" := ((f117.keep K123).keep K126)
    have f140 : Exa Z h126 a74 "java/lang/String" := ((f118.keep K123).keep K126)
    refine Gl.callV Y126 (tw_52 hw) (tw_53 hw) (tw_55 hw) (tw_55 hw) (tw_54 hw) (tw_2 hw) (tw_56 hw) (by decide) f134 (rm16 l Z a0 hw [] b58 a64 a69 a74 h126 n0 Y126.sz f134 f135 f136 f137 f138 f139 f140) (a := b58) (argsL := [(.ref b58)]) (rest := []) rfl rfl (lenOf pd_8 rfl) rfl (by decide) (Nat.le_of_ble_eq_true rfl) (by decide) (by decide) at_205 rfl (fun v205 T205 h205 Y205 q205 => ?_)
    obtain ⟨rfl, rfl⟩ := q205
    show Gl p e below _ (T205.setTop (mkF m 208 #[.val (.int aa), .val (.int bb), .val (.int cc), .val (.int dd), .val (.int ee), .val (.int ff), .val (.int v5), .val (.int v13), .val (.int v21), .val (.int v29), .val (.int v38), .val (.int v47), .val (.int (1 : Int32)), .val (.ref b58), .val (.ref b82), .val (.ref b112), .val (.int (0 : Int32)), .val (.int (0 : Int32)), .unset] [(.int (1 : Int32))]))
    refine Gl.ifeq Y205 at_208 (by decide) rfl rfl (fun c208 => ?_) (fun c208 => ?_)
    · exact absurd c208 (by decide)
    refine Gl.aload Y205 rfl rfl at_211 rfl ?_
    refine Gl.aload Y205 rfl rfl at_213 rfl ?_
    refine Gl.callV Y205 (tw_52 hw) (tw_53 hw) (tw_55 hw) (tw_55 hw) (tw_54 hw) (tw_2 hw) (tw_56 hw) (by decide) f134 (rm15 l Z a0 hw [] b58 b112 h126 n0 Y205.sz f126_0) (a := b58) (argsL := [(.ref b112)]) (rest := []) rfl rfl (lenOf pd_8 rfl) rfl (by decide) (Nat.le_of_ble_eq_true rfl) (by decide) (by decide) at_215 rfl (fun v215 T215 h215 Y215 q215 => ?_)
    obtain ⟨rfl, rfl⟩ := q215
    show Gl p e below _ (T215.setTop (mkF m 218 #[.val (.int aa), .val (.int bb), .val (.int cc), .val (.int dd), .val (.int ee), .val (.int ff), .val (.int v5), .val (.int v13), .val (.int v21), .val (.int v29), .val (.int v38), .val (.int v47), .val (.int (1 : Int32)), .val (.ref b58), .val (.ref b82), .val (.ref b112), .val (.int (0 : Int32)), .val (.int (0 : Int32)), .unset] [(.int (0 : Int32))]))
    refine Gl.iload Y215 rfl at_218 rfl ?_
    refine Gl.icmpne Y215 at_220 (by decide) rfl rfl (fun c220 => ?_) (fun c220 => ?_)
    · exact absurd c220 (by decide)
    refine Gl.iconst Y215 (v := (1 : Int32)) (by decide) at_223 rfl ?_
    refine Gl.goto Y215 at_224 (by decide) rfl ?_
    refine Gl.istore Y215 (L' := #[.val (.int aa), .val (.int bb), .val (.int cc), .val (.int dd), .val (.int ee), .val (.int ff), .val (.int v5), .val (.int v13), .val (.int v21), .val (.int v29), .val (.int v38), .val (.int v47), .val (.int (1 : Int32)), .val (.ref b58), .val (.ref b82), .val (.ref b112), .val (.int (0 : Int32)), .val (.int (0 : Int32)), .val (.int (1 : Int32))]) rfl at_228 rfl ?_
    refine Gl.iload Y215 rfl at_230 rfl ?_
    refine Gl.ifeq Y215 at_232 (by decide) rfl rfl (fun c232 => ?_) (fun c232 => ?_)
    rotate_left
    · exact absurd c232 (by decide)
    refine Gl.iload Y215 rfl at_259 rfl ?_
    exact Gl.retZ Y215 (by decide) (by decide) (x' := (1 : Int32)) (by decide) at_261 rfl
  · refine Gl.iload Y101 rfl at_106 rfl ?_
    refine Gl.iconst Y101 (v := (1 : Int32)) (by decide) at_108 rfl ?_
    refine Gl.icmpne Y101 at_109 (by decide) rfl rfl (fun c109 => ?_) (fun c109 => ?_)
    rotate_left
    · exact absurd c109 (by decide)
    refine Gl.iload Y101 rfl at_134 rfl ?_
    refine Gl.iconst Y101 (v := (2 : Int32)) (by decide) at_136 rfl ?_
    refine Gl.icmpne Y101 at_137 (by decide) rfl rfl (fun c137 => ?_) (fun c137 => ?_)
    · exact absurd c137 (by decide)
    refine Gl.aconstNull Y101 at_140 rfl ?_
    refine Gl.astore Y101 rfl (L' := #[.val (.int aa), .val (.int bb), .val (.int cc), .val (.int dd), .val (.int ee), .val (.int ff), .val (.int v5), .val (.int v13), .val (.int v21), .val (.int v29), .val (.int v38), .val (.int v47), .val (.int (2 : Int32)), .val (.ref b58), .val (.ref b82), .val .null, .unset, .unset, .unset]) rfl at_141 rfl ?_
    refine Gl.goto Y101 at_143 (by decide) rfl ?_
    refine Gl.iload Y101 rfl at_150 rfl ?_
    refine Gl.ifeq Y101 at_152 (by decide) rfl rfl (fun c152 => ?_) (fun c152 => ?_)
    · exact absurd c152 (by decide)
    refine Gl.iload Y101 rfl at_155 rfl ?_
    refine Gl.iconst Y101 (v := (3 : Int32)) (by decide) at_157 rfl ?_
    refine Gl.icmpne Y101 at_158 (by decide) rfl rfl (fun c158 => ?_) (fun c158 => ?_)
    rotate_left
    · exact absurd c158 (by decide)
    refine Gl.iconst Y101 (v := (0 : Int32)) (by decide) at_165 rfl ?_
    refine Gl.istore Y101 (L' := #[.val (.int aa), .val (.int bb), .val (.int cc), .val (.int dd), .val (.int ee), .val (.int ff), .val (.int v5), .val (.int v13), .val (.int v21), .val (.int v29), .val (.int v38), .val (.int v47), .val (.int (2 : Int32)), .val (.ref b58), .val (.ref b82), .val .null, .val (.int (0 : Int32)), .unset, .unset]) rfl at_166 rfl ?_
    refine Gl.iload Y101 rfl at_168 rfl ?_
    refine Gl.ifeq Y101 at_170 (by decide) rfl rfl (fun c170 => ?_) (fun c170 => ?_)
    rotate_left
    · exact absurd c170 (by decide)
    refine Gl.iconst Y101 (v := (0 : Int32)) (by decide) at_198 rfl ?_
    refine Gl.istore Y101 (L' := #[.val (.int aa), .val (.int bb), .val (.int cc), .val (.int dd), .val (.int ee), .val (.int ff), .val (.int v5), .val (.int v13), .val (.int v21), .val (.int v29), .val (.int v38), .val (.int v47), .val (.int (2 : Int32)), .val (.ref b58), .val (.ref b82), .val .null, .val (.int (0 : Int32)), .val (.int (0 : Int32)), .unset]) rfl at_199 rfl ?_
    refine Gl.aload Y101 rfl rfl at_201 rfl ?_
    refine Gl.aload Y101 rfl rfl at_203 rfl ?_
    have f141 : Exa Z h101 b58 "com/example/entrole/entrole/flowable/CaseChange$Gift" := ((f46.keep K98).keep K101)
    have f142 : Fld Z h101 b58 "com/example/entrole/entrole/flowable/CaseChange" "caseName" "Ljava/lang/String;" (.ref a64) := (((((Fld.ext E82 f77_1).keep K88 nin0).keep K93 nin0).keep K98 nin0).keep K101 (ninS (Nat.ne_of_lt (Nat.lt_of_lt_of_eq f77_0.lt g82.symm)) nin0))
    have f143 : Fld Z h101 b58 "com/example/entrole/entrole/flowable/CaseChange$Gift" "task" "Ljava/lang/String;" (.ref a69) := (((((Fld.ext E82 f77_2).keep K88 nin0).keep K93 nin0).keep K98 nin0).keep K101 (ninS (Nat.ne_of_lt (Nat.lt_of_lt_of_eq f77_0.lt g82.symm)) nin0))
    have f144 : Fld Z h101 b58 "com/example/entrole/entrole/flowable/CaseChange$Gift" "subject" "Ljava/lang/String;" (.ref a74) := (((((Fld.ext E82 f77_3).keep K88 nin0).keep K93 nin0).keep K98 nin0).keep K101 (ninS (Nat.ne_of_lt (Nat.lt_of_lt_of_eq f77_0.lt g82.symm)) nin0))
    have f145 : Exa Z h101 a64 "java/lang/String" := ((f42.keep K98).keep K101)
    have f146 : Exa Z h101 a69 "java/lang/String" := ((f43.keep K98).keep K101)
    have f147 : Exa Z h101 a74 "java/lang/String" := ((f44.keep K98).keep K101)
    refine Gl.callV Y101 (tw_52 hw) (tw_53 hw) (tw_55 hw) (tw_55 hw) (tw_54 hw) (tw_2 hw) (tw_56 hw) (by decide) f141 (rm16 l Z a0 hw [] b58 a64 a69 a74 h101 n0 Y101.sz f141 f142 f143 f144 f145 f146 f147) (a := b58) (argsL := [(.ref b58)]) (rest := []) rfl rfl (lenOf pd_8 rfl) rfl (by decide) (Nat.le_of_ble_eq_true rfl) (by decide) (by decide) at_205 rfl (fun v205 T205 h205 Y205 q205 => ?_)
    obtain ⟨rfl, rfl⟩ := q205
    show Gl p e below _ (T205.setTop (mkF m 208 #[.val (.int aa), .val (.int bb), .val (.int cc), .val (.int dd), .val (.int ee), .val (.int ff), .val (.int v5), .val (.int v13), .val (.int v21), .val (.int v29), .val (.int v38), .val (.int v47), .val (.int (2 : Int32)), .val (.ref b58), .val (.ref b82), .val .null, .val (.int (0 : Int32)), .val (.int (0 : Int32)), .unset] [(.int (1 : Int32))]))
    refine Gl.ifeq Y205 at_208 (by decide) rfl rfl (fun c208 => ?_) (fun c208 => ?_)
    · exact absurd c208 (by decide)
    refine Gl.aload Y205 rfl rfl at_211 rfl ?_
    refine Gl.aload Y205 rfl rfl at_213 rfl ?_
    refine Gl.callV Y205 (tw_52 hw) (tw_53 hw) (tw_55 hw) (tw_55 hw) (tw_54 hw) (tw_2 hw) (tw_56 hw) (by decide) f141 (rm14 l Z a0 hw [] b58 h101 n0 Y205.sz) (a := b58) (argsL := [.null]) (rest := []) rfl rfl (lenOf pd_8 rfl) rfl (by decide) (Nat.le_of_ble_eq_true rfl) (by decide) (by decide) at_215 rfl (fun v215 T215 h215 Y215 q215 => ?_)
    obtain ⟨rfl, rfl⟩ := q215
    show Gl p e below _ (T215.setTop (mkF m 218 #[.val (.int aa), .val (.int bb), .val (.int cc), .val (.int dd), .val (.int ee), .val (.int ff), .val (.int v5), .val (.int v13), .val (.int v21), .val (.int v29), .val (.int v38), .val (.int v47), .val (.int (2 : Int32)), .val (.ref b58), .val (.ref b82), .val .null, .val (.int (0 : Int32)), .val (.int (0 : Int32)), .unset] [(.int (0 : Int32))]))
    refine Gl.iload Y215 rfl at_218 rfl ?_
    refine Gl.icmpne Y215 at_220 (by decide) rfl rfl (fun c220 => ?_) (fun c220 => ?_)
    · exact absurd c220 (by decide)
    refine Gl.iconst Y215 (v := (1 : Int32)) (by decide) at_223 rfl ?_
    refine Gl.goto Y215 at_224 (by decide) rfl ?_
    refine Gl.istore Y215 (L' := #[.val (.int aa), .val (.int bb), .val (.int cc), .val (.int dd), .val (.int ee), .val (.int ff), .val (.int v5), .val (.int v13), .val (.int v21), .val (.int v29), .val (.int v38), .val (.int v47), .val (.int (2 : Int32)), .val (.ref b58), .val (.ref b82), .val .null, .val (.int (0 : Int32)), .val (.int (0 : Int32)), .val (.int (1 : Int32))]) rfl at_228 rfl ?_
    refine Gl.iload Y215 rfl at_230 rfl ?_
    refine Gl.ifeq Y215 at_232 (by decide) rfl rfl (fun c232 => ?_) (fun c232 => ?_)
    rotate_left
    · exact absurd c232 (by decide)
    refine Gl.iload Y215 rfl at_259 rfl ?_
    exact Gl.retZ Y215 (by decide) (by decide) (x' := (1 : Int32)) (by decide) at_261 rfl
  · refine Gl.iload Y101 rfl at_106 rfl ?_
    refine Gl.iconst Y101 (v := (1 : Int32)) (by decide) at_108 rfl ?_
    refine Gl.icmpne Y101 at_109 (by decide) rfl rfl (fun c109 => ?_) (fun c109 => ?_)
    rotate_left
    · exact absurd c109 (by decide)
    refine Gl.iload Y101 rfl at_134 rfl ?_
    refine Gl.iconst Y101 (v := (2 : Int32)) (by decide) at_136 rfl ?_
    refine Gl.icmpne Y101 at_137 (by decide) rfl rfl (fun c137 => ?_) (fun c137 => ?_)
    rotate_left
    · exact absurd c137 (by decide)
    refine Gl.aload Y101 rfl rfl at_146 rfl ?_
    refine Gl.astore Y101 rfl (L' := #[.val (.int aa), .val (.int bb), .val (.int cc), .val (.int dd), .val (.int ee), .val (.int ff), .val (.int v5), .val (.int v13), .val (.int v21), .val (.int v29), .val (.int v38), .val (.int v47), .val (.int (3 : Int32)), .val (.ref b58), .val (.ref b82), .val (.ref b82), .unset, .unset, .unset]) rfl at_148 rfl ?_
    refine Gl.iload Y101 rfl at_150 rfl ?_
    refine Gl.ifeq Y101 at_152 (by decide) rfl rfl (fun c152 => ?_) (fun c152 => ?_)
    · exact absurd c152 (by decide)
    refine Gl.iload Y101 rfl at_155 rfl ?_
    refine Gl.iconst Y101 (v := (3 : Int32)) (by decide) at_157 rfl ?_
    refine Gl.icmpne Y101 at_158 (by decide) rfl rfl (fun c158 => ?_) (fun c158 => ?_)
    · exact absurd c158 (by decide)
    refine Gl.iconst Y101 (v := (1 : Int32)) (by decide) at_161 rfl ?_
    refine Gl.goto Y101 at_162 (by decide) rfl ?_
    refine Gl.istore Y101 (L' := #[.val (.int aa), .val (.int bb), .val (.int cc), .val (.int dd), .val (.int ee), .val (.int ff), .val (.int v5), .val (.int v13), .val (.int v21), .val (.int v29), .val (.int v38), .val (.int v47), .val (.int (3 : Int32)), .val (.ref b58), .val (.ref b82), .val (.ref b82), .val (.int (1 : Int32)), .unset, .unset]) rfl at_166 rfl ?_
    refine Gl.iload Y101 rfl at_168 rfl ?_
    refine Gl.ifeq Y101 at_170 (by decide) rfl rfl (fun c170 => ?_) (fun c170 => ?_)
    · exact absurd c170 (by decide)
    refine Gl.iload Y101 rfl at_173 rfl ?_
    refine Gl.iload Y101 rfl at_175 rfl ?_
    obtain ⟨z177, hz177⟩ : ∃ z : Int32, (if v5 = v29 then (if v13 = v38 then (if v21 = v47 then (1 : Int32) else (0 : Int32)) else (0 : Int32)) else (0 : Int32)) = z := ⟨_, rfl⟩
    have iz177 : (v5.toInt = v29.toInt ∧ ((v13.toInt = v38.toInt ∧ ((v21.toInt = v47.toInt ∧ (z177.toInt = 1)) ∨ (¬ (v21.toInt = v47.toInt) ∧ (z177.toInt = 0)))) ∨ (¬ (v13.toInt = v38.toInt) ∧ (z177.toInt = 0)))) ∨ (¬ (v5.toInt = v29.toInt) ∧ (z177.toInt = 0)) := own_ite (c := v5 = v29) (fun q5 => ⟨congrArg Int32.toInt q5, own_ite (c := v13 = v38) (fun q6 => ⟨congrArg Int32.toInt q6, own_ite (c := v21 = v47) (fun q7 => ⟨congrArg Int32.toInt q7, congrArg Int32.toInt (show z177 = (1 : Int32) from by rw [← hz177]; simp only [q5, q6, q7, ↓reduceIte, if_true, if_false, ite_self])⟩) (fun q7 => ⟨fun q => q7 (Int32.toInt_inj.mp q), congrArg Int32.toInt (show z177 = (0 : Int32) from by rw [← hz177]; simp only [q5, q6, q7, ↓reduceIte, if_true, if_false, ite_self])⟩)⟩) (fun q6 => ⟨fun q => q6 (Int32.toInt_inj.mp q), congrArg Int32.toInt (show z177 = (0 : Int32) from by rw [← hz177]; simp only [q5, q6, ↓reduceIte, if_true, if_false, ite_self])⟩)⟩) (fun q5 => ⟨fun q => q5 (Int32.toInt_inj.mp q), congrArg Int32.toInt (show z177 = (0 : Int32) from by rw [← hz177]; simp only [q5, ↓reduceIte, if_true, if_false, ite_self])⟩)
    have bz177 : z177 = 0 ∨ z177 = 1 := by rw [← hz177]; (repeat' split) <;> first | (simp; done) | assumption
    refine own_cut (B := ∀ T', Sd Z "com/example/entrole/entrole/flowable/GiftEqualsPinLaw" code maxLocals (some .boolean) n0 p l e room_1 s m #[(.int aa), (.int bb), (.int cc), (.int dd), (.int ee), (.int ff)] below meth c T' h101 20 42 → Gl p e below (Pst s n0 room_1.cells room_1.slots (QL Z aa bb cc dd ee ff cs h0)) (T'.setTop (mkF m 199 #[.val (.int aa), .val (.int bb), .val (.int cc), .val (.int dd), .val (.int ee), .val (.int ff), .val (.int v5), .val (.int v13), .val (.int v21), .val (.int v29), .val (.int v38), .val (.int v47), .val (.int (3 : Int32)), .val (.ref b58), .val (.ref b82), .val (.ref b82), .val (.int (1 : Int32)), .unset, .unset] [(.int z177)]))) (fun jk => ?_) (fun T177j Y177j => ?_)
    · refine Gl.icmpne Y101 at_177 (by decide) rfl rfl (fun c177 => ?_) (fun c177 => ?_)
      · have j177 : ¬ (v5.toInt = v29.toInt) := fun q => c177 (Int32.toInt_inj.mp q)
        refine Gl.iconst Y101 (v := (0 : Int32)) (by decide) at_198 rfl ?_
        have ez177 : z177 = (0 : Int32) := by rw [← hz177]; simp only [c177, ↓reduceIte, if_true, if_false]
        rw [ez177] at jk
        exact jk T101 Y101
      · have j177 : v5.toInt = v29.toInt := congrArg Int32.toInt c177
        refine Gl.iload Y101 rfl at_180 rfl ?_
        refine Gl.iload Y101 rfl at_182 rfl ?_
        refine Gl.icmpne Y101 at_184 (by decide) rfl rfl (fun c184 => ?_) (fun c184 => ?_)
        · have j184 : ¬ (v13.toInt = v38.toInt) := fun q => c184 (Int32.toInt_inj.mp q)
          refine Gl.iconst Y101 (v := (0 : Int32)) (by decide) at_198 rfl ?_
          have ez177 : z177 = (0 : Int32) := by rw [← hz177]; simp only [c177, c184, ↓reduceIte, if_true, if_false]
          rw [ez177] at jk
          exact jk T101 Y101
        · have j184 : v13.toInt = v38.toInt := congrArg Int32.toInt c184
          refine Gl.iload Y101 rfl at_187 rfl ?_
          refine Gl.iload Y101 rfl at_189 rfl ?_
          refine Gl.icmpne Y101 at_191 (by decide) rfl rfl (fun c191 => ?_) (fun c191 => ?_)
          · have j191 : ¬ (v21.toInt = v47.toInt) := fun q => c191 (Int32.toInt_inj.mp q)
            refine Gl.iconst Y101 (v := (0 : Int32)) (by decide) at_198 rfl ?_
            have ez177 : z177 = (0 : Int32) := by rw [← hz177]; simp only [c177, c184, c191, ↓reduceIte, if_true, if_false]
            rw [ez177] at jk
            exact jk T101 Y101
          · have j191 : v21.toInt = v47.toInt := congrArg Int32.toInt c191
            refine Gl.iconst Y101 (v := (1 : Int32)) (by decide) at_194 rfl ?_
            refine Gl.goto Y101 at_195 (by decide) rfl ?_
            have ez177 : z177 = (1 : Int32) := by rw [← hz177]; simp only [c177, c184, c191, ↓reduceIte, if_true, if_false]
            rw [ez177] at jk
            exact jk T101 Y101
    refine Gl.istore Y177j (L' := #[.val (.int aa), .val (.int bb), .val (.int cc), .val (.int dd), .val (.int ee), .val (.int ff), .val (.int v5), .val (.int v13), .val (.int v21), .val (.int v29), .val (.int v38), .val (.int v47), .val (.int (3 : Int32)), .val (.ref b58), .val (.ref b82), .val (.ref b82), .val (.int (1 : Int32)), .val (.int z177), .unset]) rfl at_199 rfl ?_
    have eb0 := own_byte v5 v29 (own_ch hv4 hv5) (own_ch hv28 hv29)
    have ec0 := (own_byte v29 v5 (own_ch hv28 hv29) (own_ch hv4 hv5)).trans eq_comm
    have eb1 := own_byte v13 v38 (own_ch hv12 hv13) (own_ch hv37 hv38)
    have ec1 := (own_byte v38 v13 (own_ch hv37 hv38) (own_ch hv12 hv13)).trans eq_comm
    have eb2 := own_byte v21 v47 (own_ch hv20 hv21) (own_ch hv46 hv47)
    have ec2 := (own_byte v47 v21 (own_ch hv46 hv47) (own_ch hv20 hv21)).trans eq_comm
    refine Gl.aload Y177j rfl rfl at_201 rfl ?_
    refine Gl.aload Y177j rfl rfl at_203 rfl ?_
    have f148 : Exa Z h101 b58 "com/example/entrole/entrole/flowable/CaseChange$Gift" := ((f46.keep K98).keep K101)
    have f149 : Fld Z h101 b58 "com/example/entrole/entrole/flowable/CaseChange" "caseName" "Ljava/lang/String;" (.ref a64) := (((((Fld.ext E82 f77_1).keep K88 nin0).keep K93 nin0).keep K98 nin0).keep K101 (ninS (Nat.ne_of_lt (Nat.lt_of_lt_of_eq f77_0.lt g82.symm)) nin0))
    have f150 : Fld Z h101 b58 "com/example/entrole/entrole/flowable/CaseChange$Gift" "task" "Ljava/lang/String;" (.ref a69) := (((((Fld.ext E82 f77_2).keep K88 nin0).keep K93 nin0).keep K98 nin0).keep K101 (ninS (Nat.ne_of_lt (Nat.lt_of_lt_of_eq f77_0.lt g82.symm)) nin0))
    have f151 : Fld Z h101 b58 "com/example/entrole/entrole/flowable/CaseChange$Gift" "subject" "Ljava/lang/String;" (.ref a74) := (((((Fld.ext E82 f77_3).keep K88 nin0).keep K93 nin0).keep K98 nin0).keep K101 (ninS (Nat.ne_of_lt (Nat.lt_of_lt_of_eq f77_0.lt g82.symm)) nin0))
    have f152 : Exa Z h101 a64 "java/lang/String" := ((f42.keep K98).keep K101)
    have f153 : Exa Z h101 a69 "java/lang/String" := ((f43.keep K98).keep K101)
    have f154 : Exa Z h101 a74 "java/lang/String" := ((f44.keep K98).keep K101)
    refine Gl.callV Y177j (tw_52 hw) (tw_53 hw) (tw_55 hw) (tw_55 hw) (tw_54 hw) (tw_2 hw) (tw_56 hw) (by decide) f148 (rm16 l Z a0 hw [] b58 a64 a69 a74 h101 n0 Y177j.sz f148 f149 f150 f151 f152 f153 f154) (a := b58) (argsL := [(.ref b58)]) (rest := []) rfl rfl (lenOf pd_8 rfl) rfl (by decide) (Nat.le_of_ble_eq_true rfl) (by decide) (by decide) at_205 rfl (fun v205 T205 h205 Y205 q205 => ?_)
    obtain ⟨rfl, rfl⟩ := q205
    show Gl p e below _ (T205.setTop (mkF m 208 #[.val (.int aa), .val (.int bb), .val (.int cc), .val (.int dd), .val (.int ee), .val (.int ff), .val (.int v5), .val (.int v13), .val (.int v21), .val (.int v29), .val (.int v38), .val (.int v47), .val (.int (3 : Int32)), .val (.ref b58), .val (.ref b82), .val (.ref b82), .val (.int (1 : Int32)), .val (.int z177), .unset] [(.int (1 : Int32))]))
    refine Gl.ifeq Y205 at_208 (by decide) rfl rfl (fun c208 => ?_) (fun c208 => ?_)
    · exact absurd c208 (by decide)
    refine Gl.aload Y205 rfl rfl at_211 rfl ?_
    refine Gl.aload Y205 rfl rfl at_213 rfl ?_
    have f155 : Old Z n0 h101 := ((f41.keep K98 all0).keep K101 (allS sb82 all0))
    have f156 : Fld Z h101 a64 "java/lang/String" "coder" "B" (.int (0 : Int32)) := (((((Fld.ext E82 (((f64_4.keep K69 nin0).keep K74 nin0).keep K77 (ninS (Ne.symm (Nat.ne_of_lt (Nat.lt_of_lt_of_le X58.lt f64_0))) nin0))).keep K88 nin0).keep K93 nin0).keep K98 nin0).keep K101 (ninS (Nat.ne_of_lt (Nat.lt_of_lt_of_eq f15.lt g82.symm)) nin0))
    have f157 : Fld Z h101 a64 "java/lang/String" "value" "[B" (.ref b64) := (((((Fld.ext E82 (((f64_5.keep K69 nin0).keep K74 nin0).keep K77 (ninS (Ne.symm (Nat.ne_of_lt (Nat.lt_of_lt_of_le X58.lt f64_0))) nin0))).keep K88 nin0).keep K93 nin0).keep K98 nin0).keep K101 (ninS (Nat.ne_of_lt (Nat.lt_of_lt_of_eq f15.lt g82.symm)) nin0))
    have f158 : Arv Z h101 b64 kb64 .byte (1 : Int32) [(.int (v5.toInt8.toInt32))] (.int (0 : Int32)) := ((f47.keep K98 nin0).keep K101 (ninS (Nat.ne_of_lt (Nat.lt_of_lt_of_eq f18.lt g82.symm)) nin0))
    have f159 : Exa Z h101 a88 "java/lang/String" := ((f45.keep K98).keep K101)
    have f160 : Fld Z h101 a88 "java/lang/String" "coder" "B" (.int (0 : Int32)) := (((f88_4.keep K93 nin0).keep K98 nin0).keep K101 (ninS (Ne.symm (Nat.ne_of_lt (Nat.lt_of_lt_of_le X82.lt f88_0))) nin0))
    have f161 : Fld Z h101 a88 "java/lang/String" "value" "[B" (.ref b88) := (((f88_5.keep K93 nin0).keep K98 nin0).keep K101 (ninS (Ne.symm (Nat.ne_of_lt (Nat.lt_of_lt_of_le X82.lt f88_0))) nin0))
    have f162 : Arv Z h101 b88 kb88 .byte (1 : Int32) [(.int (v29.toInt8.toInt32))] (.int (0 : Int32)) := ((f51.keep K98 nin0).keep K101 (ninS (Ne.symm (Nat.ne_of_lt (Nat.lt_of_lt_of_le X82.lt f88_1))) nin0))
    have f163 : Fld Z h101 a69 "java/lang/String" "coder" "B" (.int (0 : Int32)) := (((((Fld.ext E82 ((f69_4.keep K74 nin0).keep K77 (ninS (Ne.symm (Nat.ne_of_lt (Nat.lt_of_lt_of_le f6.lt f69_0))) nin0))).keep K88 nin0).keep K93 nin0).keep K98 nin0).keep K101 (ninS (Nat.ne_of_lt (Nat.lt_of_lt_of_eq f16.lt g82.symm)) nin0))
    have f164 : Fld Z h101 a69 "java/lang/String" "value" "[B" (.ref b69) := (((((Fld.ext E82 ((f69_5.keep K74 nin0).keep K77 (ninS (Ne.symm (Nat.ne_of_lt (Nat.lt_of_lt_of_le f6.lt f69_0))) nin0))).keep K88 nin0).keep K93 nin0).keep K98 nin0).keep K101 (ninS (Nat.ne_of_lt (Nat.lt_of_lt_of_eq f16.lt g82.symm)) nin0))
    have f165 : Arv Z h101 b69 kb69 .byte (1 : Int32) [(.int (v13.toInt8.toInt32))] (.int (0 : Int32)) := ((f48.keep K98 nin0).keep K101 (ninS (Nat.ne_of_lt (Nat.lt_of_lt_of_eq f19.lt g82.symm)) nin0))
    have f166 : Exa Z h101 a93 "java/lang/String" := ((f93_3.keep K98).keep K101)
    have f167 : Fld Z h101 a93 "java/lang/String" "coder" "B" (.int (0 : Int32)) := ((f93_4.keep K98 nin0).keep K101 (ninS (Ne.symm (Nat.ne_of_lt (Nat.lt_of_lt_of_le f40.lt f93_0))) nin0))
    have f168 : Fld Z h101 a93 "java/lang/String" "value" "[B" (.ref b93) := ((f93_5.keep K98 nin0).keep K101 (ninS (Ne.symm (Nat.ne_of_lt (Nat.lt_of_lt_of_le f40.lt f93_0))) nin0))
    have f169 : Arv Z h101 b93 kb93 .byte (1 : Int32) [(.int (v38.toInt8.toInt32))] (.int (0 : Int32)) := ((f93_6.keep K98 nin0).keep K101 (ninS (Ne.symm (Nat.ne_of_lt (Nat.lt_of_lt_of_le f40.lt f93_1))) nin0))
    have f170 : Fld Z h101 a74 "java/lang/String" "coder" "B" (.int (0 : Int32)) := (((((Fld.ext E82 (f74_4.keep K77 (ninS (Ne.symm (Nat.ne_of_lt (Nat.lt_of_lt_of_le f9.lt f74_0))) nin0))).keep K88 nin0).keep K93 nin0).keep K98 nin0).keep K101 (ninS (Nat.ne_of_lt (Nat.lt_of_lt_of_eq f17.lt g82.symm)) nin0))
    have f171 : Fld Z h101 a74 "java/lang/String" "value" "[B" (.ref b74) := (((((Fld.ext E82 (f74_5.keep K77 (ninS (Ne.symm (Nat.ne_of_lt (Nat.lt_of_lt_of_le f9.lt f74_0))) nin0))).keep K88 nin0).keep K93 nin0).keep K98 nin0).keep K101 (ninS (Nat.ne_of_lt (Nat.lt_of_lt_of_eq f17.lt g82.symm)) nin0))
    have f172 : Arv Z h101 b74 kb74 .byte (1 : Int32) [(.int (v21.toInt8.toInt32))] (.int (0 : Int32)) := ((f49.keep K98 nin0).keep K101 (ninS (Nat.ne_of_lt (Nat.lt_of_lt_of_eq f20.lt g82.symm)) nin0))
    have f173 : Exa Z h101 a98 "java/lang/String" := (f98_3.keep K101)
    have f174 : Fld Z h101 a98 "java/lang/String" "coder" "B" (.int (0 : Int32)) := (f98_4.keep K101 (ninS (Ne.symm (Nat.ne_of_lt (Nat.lt_of_lt_of_le f50.lt f98_0))) nin0))
    have f175 : Fld Z h101 a98 "java/lang/String" "value" "[B" (.ref b98) := (f98_5.keep K101 (ninS (Ne.symm (Nat.ne_of_lt (Nat.lt_of_lt_of_le f50.lt f98_0))) nin0))
    have f176 : Arv Z h101 b98 kb98 .byte (1 : Int32) [(.int (v47.toInt8.toInt32))] (.int (0 : Int32)) := (f98_6.keep K101 (ninS (Ne.symm (Nat.ne_of_lt (Nat.lt_of_lt_of_le f50.lt f98_1))) nin0))
    refine Gl.callV Y205 (tw_52 hw) (tw_53 hw) (tw_55 hw) (tw_55 hw) (tw_54 hw) (tw_2 hw) (tw_56 hw) (by decide) f148 (rm17 l Z a0 hw [] b58 b82 a64 b64 kb64 (v5.toInt8.toInt32) a88 b88 kb88 (v29.toInt8.toInt32) a69 b69 kb69 (v13.toInt8.toInt32) a93 b93 kb93 (v38.toInt8.toInt32) a74 b74 kb74 (v21.toInt8.toInt32) a98 b98 kb98 (v47.toInt8.toInt32) cs h101 n0 Y205.sz f155 S (hcs) f148 f101_0 f149 f150 f151 f101_1 f101_2 f101_3 f152 f156 f157 f158 f159 f160 f161 f162 (Nat.ne_of_lt (Nat.lt_of_lt_of_le f25.lt f88_0)) f153 f163 f164 f165 f166 f167 f168 f169 (Nat.ne_of_lt (Nat.lt_of_lt_of_le f34.lt f93_0)) f154 f170 f171 f172 f173 f174 f175 f176 (Nat.ne_of_lt (Nat.lt_of_lt_of_le f44.lt f98_0))) (a := b58) (argsL := [(.ref b82)]) (rest := []) rfl rfl (lenOf pd_8 rfl) rfl (by decide) (Nat.le_of_ble_eq_true rfl) (by decide) (by decide) at_215 rfl (fun v215 T215 h215 Y215 q215 => ?_)
    obtain ⟨r215, rfl, p215, rfl⟩ := q215
    have br215 : r215 = 0 ∨ r215 = 1 := p215.2
    show Gl p e below _ (T215.setTop (mkF m 218 #[.val (.int aa), .val (.int bb), .val (.int cc), .val (.int dd), .val (.int ee), .val (.int ff), .val (.int v5), .val (.int v13), .val (.int v21), .val (.int v29), .val (.int v38), .val (.int v47), .val (.int (3 : Int32)), .val (.ref b58), .val (.ref b82), .val (.ref b82), .val (.int (1 : Int32)), .val (.int z177), .unset] [(.int r215)]))
    refine Gl.iload Y215 rfl at_218 rfl ?_
    refine Gl.icmpne Y215 at_220 (by decide) rfl rfl (fun c220 => ?_) (fun c220 => ?_)
    · exact absurd (Int32.toInt_inj.mp (own_fin ec0 ec1 ec2 p215.1 iz177)) c220
    have j220 : r215.toInt = z177.toInt := congrArg Int32.toInt c220
    refine Gl.iconst Y215 (v := (1 : Int32)) (by decide) at_223 rfl ?_
    refine Gl.goto Y215 at_224 (by decide) rfl ?_
    refine Gl.istore Y215 (L' := #[.val (.int aa), .val (.int bb), .val (.int cc), .val (.int dd), .val (.int ee), .val (.int ff), .val (.int v5), .val (.int v13), .val (.int v21), .val (.int v29), .val (.int v38), .val (.int v47), .val (.int (3 : Int32)), .val (.ref b58), .val (.ref b82), .val (.ref b82), .val (.int (1 : Int32)), .val (.int z177), .val (.int (1 : Int32))]) rfl at_228 rfl ?_
    refine Gl.iload Y215 rfl at_230 rfl ?_
    refine Gl.ifeq Y215 at_232 (by decide) rfl rfl (fun c232 => ?_) (fun c232 => ?_)
    · exact absurd c232 (by decide)
    refine Gl.iload Y215 rfl at_235 rfl ?_
    refine Gl.ifeq Y215 at_237 (by decide) rfl rfl (fun c237 => ?_) (fun c237 => ?_)
    · exact absurd c237 (by decide)
    refine Gl.aload Y215 rfl rfl at_240 rfl ?_
    refine Gl.aload Y215 rfl rfl at_242 rfl ?_
    refine Gl.callV Y215 (tw_52 hw) (tw_53 hw) (tw_55 hw) (tw_55 hw) (tw_54 hw) (tw_2 hw) (tw_56 hw) (by decide) f101_0 (rm17 l Z a0 hw [] b82 b58 a88 b88 kb88 (v29.toInt8.toInt32) a64 b64 kb64 (v5.toInt8.toInt32) a93 b93 kb93 (v38.toInt8.toInt32) a69 b69 kb69 (v13.toInt8.toInt32) a98 b98 kb98 (v47.toInt8.toInt32) a74 b74 kb74 (v21.toInt8.toInt32) cs h101 n0 Y215.sz f155 S (hcs) f101_0 f148 f101_1 f101_2 f101_3 f149 f150 f151 f159 f160 f161 f162 f152 f156 f157 f158 (Ne.symm (Nat.ne_of_lt (Nat.lt_of_lt_of_le f25.lt f88_0))) f166 f167 f168 f169 f153 f163 f164 f165 (Ne.symm (Nat.ne_of_lt (Nat.lt_of_lt_of_le f34.lt f93_0))) f173 f174 f175 f176 f154 f170 f171 f172 (Ne.symm (Nat.ne_of_lt (Nat.lt_of_lt_of_le f44.lt f98_0)))) (a := b82) (argsL := [(.ref b58)]) (rest := []) rfl rfl (lenOf pd_8 rfl) rfl (by decide) (Nat.le_of_ble_eq_true rfl) (by decide) (by decide) at_244 rfl (fun v244 T244 h244 Y244 q244 => ?_)
    obtain ⟨r244, rfl, p244, rfl⟩ := q244
    have br244 : r244 = 0 ∨ r244 = 1 := p244.2
    show Gl p e below _ (T244.setTop (mkF m 247 #[.val (.int aa), .val (.int bb), .val (.int cc), .val (.int dd), .val (.int ee), .val (.int ff), .val (.int v5), .val (.int v13), .val (.int v21), .val (.int v29), .val (.int v38), .val (.int v47), .val (.int (3 : Int32)), .val (.ref b58), .val (.ref b82), .val (.ref b82), .val (.int (1 : Int32)), .val (.int z177), .val (.int (1 : Int32))] [(.int r244)]))
    refine Gl.iload Y244 rfl at_247 rfl ?_
    refine Gl.icmpne Y244 at_249 (by decide) rfl rfl (fun c249 => ?_) (fun c249 => ?_)
    · exact absurd (Int32.toInt_inj.mp (own_fin eb0 eb1 eb2 p244.1 iz177)) c249
    have j249 : r244.toInt = z177.toInt := congrArg Int32.toInt c249
    refine Gl.iconst Y244 (v := (1 : Int32)) (by decide) at_252 rfl ?_
    refine Gl.goto Y244 at_253 (by decide) rfl ?_
    refine Gl.istore Y244 (L' := #[.val (.int aa), .val (.int bb), .val (.int cc), .val (.int dd), .val (.int ee), .val (.int ff), .val (.int v5), .val (.int v13), .val (.int v21), .val (.int v29), .val (.int v38), .val (.int v47), .val (.int (3 : Int32)), .val (.ref b58), .val (.ref b82), .val (.ref b82), .val (.int (1 : Int32)), .val (.int z177), .val (.int (1 : Int32))]) rfl at_257 rfl ?_
    refine Gl.iload Y244 rfl at_259 rfl ?_
    exact Gl.retZ Y244 (by decide) (by decide) (x' := (1 : Int32)) (by decide) at_261 rfl
set_option maxRecDepth 65536 in
set_option maxHeartbeats 40000000 in
theorem comes_1 {Post : Tables → Env → Array Value → State → Outcome → State → Prop} (hpost : ∀ tb e args s v u, (limb_1_1.after args s (.returned v) u = true ∧ limb_1_2.after args s (.returned v) u = true ∧ True) → FrameEnd s (.returned v) u (Jvm.fieldLocs frame_1_writes args s ++ Jvm.arrayLocs frame_1_arrays args s ++ Jvm.staticLocs frame_1_statics s) 64 192 → Post tb e args s (.returned v) u) :
    ArmFor flags0 classFile x code maxLocals ret World_1 tables_1 room_1 Calls_1 rest_1 Pre_1 Post := by
  intro l hfl _ _ p e ha hc hk s m args below hf hA hF happ hP
  obtain ⟨hcalls, hrest, hpre⟩ := hP
  obtain ⟨-, -, -, hnamed, -, -, -, hat⟩ := (Spec.applies_iff hf).mp happ
  obtain ⟨hg, hn⟩ := and_e (Cond.before_iff.mp (show (Jvm.Cond.and given_1 narrow_1).before args s = true from hpre))
  obtain ⟨a0, g0⟩ := and_e hg
  obtain ⟨a1, g1⟩ := and_e g0
  obtain ⟨a2, g2⟩ := and_e g1
  obtain ⟨a3, g3⟩ := and_e g2
  obtain ⟨a4, g4⟩ := and_e g3
  obtain ⟨a5, g5⟩ := and_e g4
  obtain ⟨w0, w1, w2, w3, w4, w5, rfl⟩ : ∃ w0 w1 w2 w3 w4 w5 : Value, args = #[w0, w1, w2, w3, w4, w5] := by
    have hs : args.size = 6 := by simpa [Cond.value, given_1] using a0
    obtain ⟨L⟩ := args
    match L, hs with
    | [w0, w1, w2, w3, w4, w5], _ => exact ⟨w0, w1, w2, w3, w4, w5, rfl⟩
  have hw := fun d (hd : d ∈ tables_1) => atoms_spec (ws := Jvm.Cond.code x code maxLocals ret :: tables_1) hat d (List.mem_cons_of_mem _ hd)
  have hfit : Fit s := fun {y c} hc i hi => by
    obtain ⟨ha, rfl⟩ := Array.getElem?_eq_some_iff.mp hc
    have q := List.all_eq_true.mp ((Array.all_eq_true_iff_forall_mem.mp hF) _ (Array.getElem_mem ha)) i (List.mem_range.mpr hi)
    simpa [Array.getElem?_eq_getElem hi] using q
  obtain ⟨i0, e0⟩ := is_v a1
  obtain rfl : w0 = (.int i0) := Option.some.inj e0
  obtain ⟨i1, e1⟩ := is_v a2
  obtain rfl : w1 = (.int i1) := Option.some.inj e1
  obtain ⟨i2, e2⟩ := is_v a3
  obtain rfl : w2 = (.int i2) := Option.some.inj e2
  obtain ⟨i3, e3⟩ := is_v a4
  obtain rfl : w3 = (.int i3) := Option.some.inj e3
  obtain ⟨i4, e4⟩ := is_v a5
  obtain rfl : w4 = (.int i4) := Option.some.inj e4
  obtain ⟨i5, e5⟩ := is_v g5
  obtain rfl : w5 = (.int i5) := Option.some.inj e5
  have hs := (atoms_of jdkStatics_1 (show (jdkStatics_1.foldr Jvm.Cond.and restOwn_1).before _ s = true from hrest)).1
  have j1 := Cond.before_iff.mp (hs _ (List.mem_of_getElem? (i := 1) rfl))
  obtain ⟨cs, v_cs⟩ := is_v j1
  have S_cs := Sta.start v_cs (Or.inl (hs _ (List.mem_of_getElem? (i := 0) rfl)))
  have w_cs := hs _ (List.mem_of_getElem? (i := 2) rfl)
  have n_cs : ¬ cs = 0 := by
    intro q
    subst q
    have w2 := not_v (Cond.before_iff.mp w_cs)
    rw [eq_i v_cs (Term.int_eval 0) rfl] at w2
    simp at w2
  obtain ⟨n, o, h1, h2, h3, v, L, rfl, ⟨hv, N⟩, hq⟩ := rmL l s _ hw tables_1 i0 i1 i2 i3 i4 i5 cs s.heap s.heap.size (Nat.le_refl _) (Old.start s) S_cs n_cs p e ha hc hk s m _ below hf ((Spec.applies_iff_loose hf).mp happ).1 ⟨rfl, State.Warmed39.refl s, rfl⟩ trivial
  obtain rfl : v = some (.int 1) := hv
  refine ⟨n, _, h1, h2, h3, hpost _ _ _ _ _ _ ⟨Cond.after_iff.mpr rfl, Cond.after_iff.mpr (eq_i res_at (Term.int_eval (1)) rfl), trivial⟩ ⟨hq.1, hq.2.1, (hq.2.2.sift fun y hy => Or.inr (N y hy)).mono (by decide) (by decide)⟩⟩
theorem main_1_1 : Claimed_1_1 := comes_1 fun _ _ _ _ _ _ h hF => ⟨h.1, hF⟩
theorem main_1_2 : Claimed_1_2 := comes_1 fun _ _ _ _ _ _ h hF => ⟨h.2.1, hF⟩
end Jvm.Pilot.@@N@@
namespace Jvm.Pilot.@@N@@
open Jvm Jvm.ClassFile Sem Op Lib Jvm.Free Jvm.Stand Jvm.Pilot.@@N@@.Jvm.D
/-! MADE BY PROGRAM (witnessworld.py) out of the Statement's table words and the real class files: 22 classes; the members and pool entries that the words name. The judged class is class 1, her method 1. -/
namespace start1
open Jvm.ClassFile
def u (s : String) : CpInfo := .utf8 (stringToUtf16 s)
/-- a pool by its gaps: so many unusable entries, then the entry; so many at the end -/
def gap : Nat → List CpInfo → List CpInfo
  | 0, r => r
  | n + 1, r => .unusable :: gap n r
def poolList (es : List (Nat × CpInfo)) (last : Nat) : List CpInfo := es.foldr (fun e r => gap e.1 (e.2 :: r)) (gap last [])
def pool (es : List (Nat × CpInfo)) (last : Nat) : Array CpInfo := ⟨poolList es last⟩
def fileOf (pool : Array CpInfo) (this : Nat) (attrs : Array Attribute := #[]) (ms : Array MethodInfo := #[]) (fl : Nat := 33) (sup : Nat := 0) (ifs : Array Nat := #[]) (fds : Array FieldInfo := #[]) : ClassFile where
  minorVersion := 0
  majorVersion := 65
  constantPool := pool
  accessFlags := fl
  thisClass := this
  superClass := sup
  interfaces := ifs
  fields := fds
  methods := ms
  attributes := attrs
def plain (name : String) (sup : Option ClassId) : Class where
  name := name
  kind := .ordinary
  loader := none
  accessFlags := 33
  super := sup
  interfaces := #[]
  cf := none
  fields := #[]
  methods := #[]
  instanceTypes := #[]
  staticTypes := #[]
  resolved := #[]
  callSites := []
  init := .initialized
  statics := none
  mirror := none

def pool0 : Array CpInfo := pool [(5, u "<init>"), (0, u "()V"), (1, .class_ 10), (1, u "java/lang/Object")] 113

def k0c0 : Code := { maxStack := 0, maxLocals := 1, code := object_method_1_code, exceptionTable := #[], attributes := #[] }
def k0m0 : Method := { name := "<init>", desc := "()V", sig := { parameters := [], returnType := none }, accessFlags := 1, code := some k0c0 }
/-- java/lang/Object -/
def k0 : Class := { plain "java/lang/Object" none with
  accessFlags := 33
  interfaces := #[]
  cf := some (fileOf pool0 8 #[] #[{ accessFlags := 1, nameIndex := 5, descriptorIndex := 6, attributes := #[] }] 33 0 #[] #[])
  fields := #[]
  methods := #[k0m0]
  instanceTypes := #[]
  staticTypes := #[]
  resolved := Array.replicate 124 none
  statics := none }

def pool1 : Array CpInfo := pool [(2, .class_ 4), (1, u "java/lang/Object"), (0, u "<init>"), (0, u "()V"), (0, .class_ 8), (0, u "com/example/entrole/entrole/flowable/CaseChange$Gift"), (0, .methodref 10 11), (0, .class_ 12), (0, .nameAndType 13 14), (0, u "com/example/entrole/entrole/flowable/GiftEqualsPinLaw"), (0, u "str"), (0, u "(C)Ljava/lang/String;"), (0, .methodref 7 16), (0, .nameAndType 5 17), (0, u "(Ljava/lang/String;Ljava/lang/String;Ljava/lang/String;)V"), (0, .class_ 19), (0, u "com/example/entrole/entrole/flowable/CaseChange$Start"), (0, .methodref 18 21), (0, .nameAndType 5 22), (0, u "(Ljava/lang/String;Ljava/lang/String;)V"), (0, .methodref 7 24), (0, .nameAndType 25 26), (0, u "equals"), (0, u "(Ljava/lang/Object;)Z"), (0, .class_ 28), (0, u "java/lang/String"), (0, .methodref 27 30), (0, .nameAndType 5 31), (0, u "([C)V"), (2, u "law"), (0, u "(IIIIII)Z")] 8

def k1m0 : Method := { name := "<init>", desc := "()V", sig := { parameters := [], returnType := none }, accessFlags := 1, code := none }
def k1c1 : Code := { maxStack := 5, maxLocals := 19, code := code, exceptionTable := #[], attributes := #[] }
def k1m1 : Method := { name := "law", desc := "(IIIIII)Z", sig := { parameters := [.int, .int, .int, .int, .int, .int], returnType := some .boolean }, accessFlags := 9, code := some k1c1 }
def k1c2 : Code := { maxStack := 3, maxLocals := 2, code := method_3_code, exceptionTable := #[], attributes := #[] }
def k1m2 : Method := { name := "str", desc := "(C)Ljava/lang/String;", sig := { parameters := [.char], returnType := some (.object "java/lang/String") }, accessFlags := 10, code := some k1c2 }
/-- com/example/entrole/entrole/flowable/GiftEqualsPinLaw -/
def k1 : Class := { plain "com/example/entrole/entrole/flowable/GiftEqualsPinLaw" (some 0) with
  accessFlags := 49
  interfaces := #[]
  cf := some (fileOf pool1 10 #[] #[{ accessFlags := 1, nameIndex := 5, descriptorIndex := 6, attributes := #[] }, { accessFlags := 9, nameIndex := 34, descriptorIndex := 35, attributes := #[] }, { accessFlags := 10, nameIndex := 13, descriptorIndex := 14, attributes := #[] }] 49 2 #[] #[])
  fields := #[]
  methods := #[k1m0, k1m1, k1m2]
  instanceTypes := #[]
  staticTypes := #[]
  resolved := Array.replicate 44 none
  statics := none }

def pool2 : Array CpInfo := pool [(1, .methodref 2 3), (0, .class_ 4), (0, .nameAndType 5 6), (0, u "java/lang/Object"), (0, u "<init>"), (0, u "()V"), (0, .fieldref 8 9), (0, .class_ 10), (0, .nameAndType 11 12), (0, u "com/example/entrole/entrole/flowable/CaseChange"), (0, u "caseName"), (0, u "Ljava/lang/String;"), (0, u "(Ljava/lang/String;)V"), (2, u "()Ljava/lang/String;"), (8, .class_ 26), (0, u "com/example/entrole/entrole/flowable/CaseChange$Gift"), (0, .class_ 28), (0, u "com/example/entrole/entrole/flowable/CaseChange$Start"), (0, .class_ 30), (0, u "com/example/entrole/entrole/flowable/CaseChange$TakeBack")] 5

def k2c0 : Code := { maxStack := 2, maxLocals := 2, code := prog_8_method_1_code, exceptionTable := #[], attributes := #[] }
def k2m0 : Method := { name := "<init>", desc := "(Ljava/lang/String;)V", sig := { parameters := [(.object "java/lang/String")], returnType := none }, accessFlags := 2, code := some k2c0 }
def k2c1 : Code := { maxStack := 1, maxLocals := 1, code := prog_8_method_2_code, exceptionTable := #[], attributes := #[] }
def k2m1 : Method := { name := "caseName", desc := "()Ljava/lang/String;", sig := { parameters := [], returnType := some (.object "java/lang/String") }, accessFlags := 0, code := some k2c1 }
/-- com/example/entrole/entrole/flowable/CaseChange -/
def k2 : Class := { plain "com/example/entrole/entrole/flowable/CaseChange" (some 0) with
  accessFlags := 1056
  interfaces := #[]
  cf := some (fileOf pool2 8 #[.nestMembers #[25, 27, 29]] #[{ accessFlags := 2, nameIndex := 5, descriptorIndex := 13, attributes := #[] }, { accessFlags := 0, nameIndex := 11, descriptorIndex := 16, attributes := #[] }] 1056 2 #[] #[{ accessFlags := 18, nameIndex := 11, descriptorIndex := 12, attributes := #[] }])
  fields := #[{ name := "caseName", type := (.object "java/lang/String"), accessFlags := 18, slot := 0, constantValue := 0 }]
  methods := #[k2m0, k2m1]
  instanceTypes := #[(.object "java/lang/String")]
  staticTypes := #[]
  resolved := Array.replicate 36 none
  statics := none }

def pool3 : Array CpInfo := pool [(1, .methodref 2 3), (0, .class_ 4), (0, .nameAndType 5 6), (0, u "com/example/entrole/entrole/flowable/CaseChange"), (0, u "<init>"), (0, u "(Ljava/lang/String;)V"), (0, .fieldref 8 9), (0, .class_ 10), (0, .nameAndType 11 12), (0, u "com/example/entrole/entrole/flowable/CaseChange$Gift"), (0, u "task"), (0, u "Ljava/lang/String;"), (0, .fieldref 8 14), (0, .nameAndType 15 12), (0, u "subject"), (0, .methodref 8 17), (0, .nameAndType 18 19), (0, u "caseName"), (0, u "()Ljava/lang/String;"), (10, .methodref 31 32), (0, .class_ 33), (0, .nameAndType 34 35), (0, u "java/lang/String"), (0, u "equals"), (0, u "(Ljava/lang/Object;)Z"), (16, u "(Ljava/lang/String;Ljava/lang/String;Ljava/lang/String;)V")] 47

def k3c0 : Code := { maxStack := 2, maxLocals := 4, code := prog_9_method_1_code, exceptionTable := #[], attributes := #[] }
def k3m0 : Method := { name := "<init>", desc := "(Ljava/lang/String;Ljava/lang/String;Ljava/lang/String;)V", sig := { parameters := [(.object "java/lang/String"), (.object "java/lang/String"), (.object "java/lang/String")], returnType := none }, accessFlags := 0, code := some k3c0 }
def k3c1 : Code := { maxStack := 2, maxLocals := 3, code := prog_9_method_3_code, exceptionTable := #[], attributes := #[] }
def k3m1 : Method := { name := "equals", desc := "(Ljava/lang/Object;)Z", sig := { parameters := [(.object "java/lang/Object")], returnType := some .boolean }, accessFlags := 1, code := some k3c1 }
/-- com/example/entrole/entrole/flowable/CaseChange$Gift -/
def k3 : Class := { plain "com/example/entrole/entrole/flowable/CaseChange$Gift" (some 2) with
  accessFlags := 48
  interfaces := #[]
  cf := some (fileOf pool3 8 #[.nestHost 2] #[{ accessFlags := 0, nameIndex := 5, descriptorIndex := 52, attributes := #[] }, { accessFlags := 1, nameIndex := 34, descriptorIndex := 35, attributes := #[] }] 48 2 #[] #[{ accessFlags := 18, nameIndex := 11, descriptorIndex := 12, attributes := #[] }, { accessFlags := 18, nameIndex := 15, descriptorIndex := 12, attributes := #[] }])
  fields := #[{ name := "task", type := (.object "java/lang/String"), accessFlags := 18, slot := 1, constantValue := 0 }, { name := "subject", type := (.object "java/lang/String"), accessFlags := 18, slot := 2, constantValue := 0 }]
  methods := #[k3m0, k3m1]
  instanceTypes := #[(.object "java/lang/String"), (.object "java/lang/String"), (.object "java/lang/String")]
  staticTypes := #[]
  resolved := Array.replicate 100 none
  statics := none }

def pool4 : Array CpInfo := pool [(1, .class_ 2), (0, u "java/io/Serializable"), (0, .class_ 4), (0, u "java/lang/Object")] 2

/-- java/io/Serializable -/
def k4 : Class := { plain "java/io/Serializable" (some 0) with
  accessFlags := 1537
  interfaces := #[]
  cf := some (fileOf pool4 1 #[] #[] 1537 3 #[] #[])
  fields := #[]
  methods := #[]
  instanceTypes := #[]
  staticTypes := #[]
  resolved := Array.replicate 7 none
  statics := none }

def pool5 : Array CpInfo := pool [(1, .class_ 2), (0, u "java/lang/Comparable"), (0, .class_ 4), (0, u "java/lang/Object")] 7

/-- java/lang/Comparable -/
def k5 : Class := { plain "java/lang/Comparable" (some 0) with
  accessFlags := 1537
  interfaces := #[]
  cf := some (fileOf pool5 1 #[] #[] 1537 3 #[] #[])
  fields := #[]
  methods := #[]
  instanceTypes := #[]
  staticTypes := #[]
  resolved := Array.replicate 12 none
  statics := none }

def pool6 : Array CpInfo := pool [(2, .class_ 4), (1, u "java/lang/CharSequence"), (42, .class_ 48), (0, u "java/lang/CharSequence$1CodePointIterator"), (10, .class_ 60), (0, u "java/lang/CharSequence$1CharIterator"), (5, .class_ 67), (0, u "java/lang/Object")] 63

/-- java/lang/CharSequence -/
def k6 : Class := { plain "java/lang/CharSequence" (some 0) with
  accessFlags := 1537
  interfaces := #[]
  cf := some (fileOf pool6 2 #[.nestMembers #[47, 59]] #[] 1537 66 #[] #[])
  fields := #[]
  methods := #[]
  instanceTypes := #[]
  staticTypes := #[]
  resolved := Array.replicate 131 none
  statics := none }

def pool7 : Array CpInfo := pool [(1, .class_ 2), (0, u "java/lang/constant/Constable"), (0, .class_ 4), (0, u "java/lang/Object")] 6

/-- java/lang/constant/Constable -/
def k7 : Class := { plain "java/lang/constant/Constable" (some 0) with
  accessFlags := 1537
  interfaces := #[]
  cf := some (fileOf pool7 1 #[] #[] 1537 3 #[] #[])
  fields := #[]
  methods := #[]
  instanceTypes := #[]
  staticTypes := #[]
  resolved := Array.replicate 11 none
  statics := none }

def pool8 : Array CpInfo := pool [(1, .class_ 2), (0, u "java/lang/constant/ConstantDesc"), (0, .class_ 4), (0, u "java/lang/Object")] 32

/-- java/lang/constant/ConstantDesc -/
def k8 : Class := { plain "java/lang/constant/ConstantDesc" (some 0) with
  accessFlags := 1537
  interfaces := #[]
  cf := some (fileOf pool8 1 #[] #[] 1537 3 #[] #[])
  fields := #[]
  methods := #[]
  instanceTypes := #[]
  staticTypes := #[]
  resolved := Array.replicate 37 none
  statics := none }

def pool9 : Array CpInfo := pool [(1, .methodref 2 3), (0, .class_ 4), (0, .nameAndType 5 6), (0, u "java/lang/Object"), (0, u "<init>"), (0, u "()V"), (2, .fieldref 10 11), (0, .class_ 12), (0, .nameAndType 13 14), (0, u "java/lang/String"), (0, u "value"), (0, u "[B"), (0, .fieldref 10 16), (0, .nameAndType 17 18), (0, u "coder"), (0, u "B"), (2, u "hash"), (0, u "I"), (2, u "hashIsZero"), (0, u "Z"), (0, .methodref 10 28), (0, .nameAndType 5 29), (0, u "([CIILjava/lang/Void;)V"), (8, .fieldref 10 39), (0, .nameAndType 40 26), (0, u "COMPACT_STRINGS"), (1, .class_ 44), (1, u "java/lang/StringUTF16"), (0, u "compress"), (1, .methodref 42 48), (0, .nameAndType 49 50), (0, u "coderFromArrayLen"), (0, u "([BI)B"), (56, .class_ 109), (1, u "java/lang/StringLatin1"), (67, .methodref 42 178), (0, .nameAndType 45 179), (0, u "([CII)[B"), (361, .methodref 107 542), (0, .nameAndType 543 544), (0, u "equals"), (0, u "([B[B)Z"), (28, u "(Ljava/lang/Object;)Z"), (1, .class_ 576), (0, u "java/lang/CharSequence"), (22, u "CASE_INSENSITIVE_ORDER"), (0, u "Ljava/util/Comparator;"), (409, u "([C)V"), (90, u "serialPersistentFields"), (0, u "[Ljava/io/ObjectStreamField;"), (0, .class_ 1104), (0, u "java/lang/String$CaseInsensitiveComparator"), (1, .class_ 1107), (0, u "java/io/Serializable"), (0, .class_ 1109), (0, u "java/lang/Comparable"), (0, .class_ 1111), (0, u "java/lang/constant/Constable"), (0, .class_ 1113), (0, u "java/lang/constant/ConstantDesc"), (2, u "serialVersionUID"), (0, u "J"), (3, u "REPL"), (0, u "C"), (2, u "LATIN1"), (1, u "UTF16")] 323

def k9m0 : Method := { name := "<init>", desc := "()V", sig := { parameters := [], returnType := none }, accessFlags := 1, code := none }
def k9c1 : Code := { maxStack := 5, maxLocals := 2, code := jdk_42_method_3_code, exceptionTable := #[], attributes := #[] }
def k9m1 : Method := { name := "<init>", desc := "([C)V", sig := { parameters := [(.array .char)], returnType := none }, accessFlags := 1, code := some k9c1 }
def k9c2 : Code := { maxStack := 2, maxLocals := 3, code := jdk_42_method_66_code, exceptionTable := #[], attributes := #[] }
def k9m2 : Method := { name := "equals", desc := "(Ljava/lang/Object;)Z", sig := { parameters := [(.object "java/lang/Object")], returnType := some .boolean }, accessFlags := 1, code := some k9c2 }
def k9c3 : Code := { maxStack := 4, maxLocals := 6, code := jdk_42_method_149_code, exceptionTable := #[], attributes := #[] }
def k9m3 : Method := { name := "<init>", desc := "([CIILjava/lang/Void;)V", sig := { parameters := [(.array .char), .int, .int, (.object "java/lang/Void")], returnType := none }, accessFlags := 2, code := some k9c3 }
/-- java/lang/String -/
def k9 : Class := { plain "java/lang/String" (some 0) with
  accessFlags := 49
  interfaces := #[4, 5, 6, 7, 8]
  cf := some (fileOf pool9 10 #[.nestMembers #[1103]] #[{ accessFlags := 1, nameIndex := 5, descriptorIndex := 6, attributes := #[] }, { accessFlags := 1, nameIndex := 5, descriptorIndex := 1010, attributes := #[] }, { accessFlags := 1, nameIndex := 543, descriptorIndex := 573, attributes := #[] }, { accessFlags := 2, nameIndex := 5, descriptorIndex := 29, attributes := #[] }] 49 2 #[1106, 1108, 575, 1110, 1112] #[{ accessFlags := 18, nameIndex := 13, descriptorIndex := 14, attributes := #[] }, { accessFlags := 18, nameIndex := 17, descriptorIndex := 18, attributes := #[] }, { accessFlags := 2, nameIndex := 21, descriptorIndex := 22, attributes := #[] }, { accessFlags := 2, nameIndex := 25, descriptorIndex := 26, attributes := #[] }, { accessFlags := 26, nameIndex := 1116, descriptorIndex := 1117, attributes := #[] }, { accessFlags := 24, nameIndex := 40, descriptorIndex := 26, attributes := #[] }, { accessFlags := 26, nameIndex := 1101, descriptorIndex := 1102, attributes := #[] }, { accessFlags := 26, nameIndex := 1121, descriptorIndex := 1122, attributes := #[] }, { accessFlags := 25, nameIndex := 599, descriptorIndex := 600, attributes := #[] }, { accessFlags := 24, nameIndex := 1125, descriptorIndex := 18, attributes := #[] }, { accessFlags := 24, nameIndex := 1127, descriptorIndex := 18, attributes := #[] }])
  fields := #[{ name := "value", type := (.array .byte), accessFlags := 18, slot := 0, constantValue := 0 }, { name := "coder", type := .byte, accessFlags := 18, slot := 1, constantValue := 0 }, { name := "hash", type := .int, accessFlags := 2, slot := 2, constantValue := 0 }, { name := "hashIsZero", type := .boolean, accessFlags := 2, slot := 3, constantValue := 0 }, { name := "serialVersionUID", type := .long, accessFlags := 26, slot := 0, constantValue := 0 }, { name := "COMPACT_STRINGS", type := .boolean, accessFlags := 24, slot := 1, constantValue := 0 }, { name := "serialPersistentFields", type := (.array (.object "java/io/ObjectStreamField")), accessFlags := 26, slot := 2, constantValue := 0 }, { name := "REPL", type := .char, accessFlags := 26, slot := 3, constantValue := 0 }, { name := "CASE_INSENSITIVE_ORDER", type := (.object "java/util/Comparator"), accessFlags := 25, slot := 4, constantValue := 0 }, { name := "LATIN1", type := .byte, accessFlags := 24, slot := 5, constantValue := 0 }, { name := "UTF16", type := .byte, accessFlags := 24, slot := 6, constantValue := 0 }]
  methods := #[k9m0, k9m1, k9m2, k9m3]
  instanceTypes := #[(.array .byte), .byte, .int, .boolean]
  staticTypes := #[.long, .boolean, (.array (.object "java/io/ObjectStreamField")), .char, (.object "java/util/Comparator"), .byte, .byte]
  resolved := Array.replicate 1451 none
  statics := some 0 }

def pool10 : Array CpInfo := pool [(6, .class_ 8), (1, u "java/lang/Object"), (0, u "<init>"), (0, u "()V"), (1, .class_ 14), (1, u "java/lang/StringUTF16"), (31, u "$assertionsDisabled"), (0, u "Z"), (13, u "HI_BYTE_SHIFT"), (0, u "I"), (2, u "LO_BYTE_SHIFT"), (49, .methodref 12 116), (0, .nameAndType 117 118), (0, u "compress"), (0, u "([CI[BII)I"), (3, u "([CII)[B"), (138, u "coderFromArrayLen"), (0, u "([BI)B"), (106, .class_ 371), (1, u "java/lang/StringUTF16$LinesSpliterator"), (58, u "MAX_LENGTH"), (196, .class_ 628), (0, u "java/lang/StringUTF16$CodePointsSpliterator"), (0, .class_ 630), (0, u "java/lang/StringUTF16$CharsSpliterator")] 4

def k10m0 : Method := { name := "<init>", desc := "()V", sig := { parameters := [], returnType := none }, accessFlags := 0, code := none }
def k10c1 : Code := { maxStack := 2, maxLocals := 2, code := jdk_52_method_15_code, exceptionTable := #[], attributes := #[] }
def k10m1 : Method := { name := "coderFromArrayLen", desc := "([BI)B", sig := { parameters := [(.array .byte), .int], returnType := some .byte }, accessFlags := 8, code := some k10c1 }
def k10c2 : Code := { maxStack := 5, maxLocals := 6, code := jdk_52_method_16_code, exceptionTable := #[], attributes := #[] }
def k10m2 : Method := { name := "compress", desc := "([CII)[B", sig := { parameters := [(.array .char), .int, .int], returnType := some (.array .byte) }, accessFlags := 9, code := some k10c2 }
def k10c3 : Code := { maxStack := 3, maxLocals := 7, code := jdk_52_method_21_code, exceptionTable := #[], attributes := #[] }
def k10m3 : Method := { name := "compress", desc := "([CI[BII)I", sig := { parameters := [(.array .char), .int, (.array .byte), .int, .int], returnType := some .int }, accessFlags := 9, code := some k10c3 }
/-- java/lang/StringUTF16 -/
def k10 : Class := { plain "java/lang/StringUTF16" (some 0) with
  accessFlags := 48
  interfaces := #[]
  cf := some (fileOf pool10 12 #[.nestMembers #[627, 629, 369]] #[{ accessFlags := 0, nameIndex := 9, descriptorIndex := 10, attributes := #[] }, { accessFlags := 8, nameIndex := 261, descriptorIndex := 262, attributes := #[] }, { accessFlags := 9, nameIndex := 117, descriptorIndex := 122, attributes := #[] }, { accessFlags := 9, nameIndex := 117, descriptorIndex := 118, attributes := #[] }] 48 6 #[] #[{ accessFlags := 26, nameIndex := 61, descriptorIndex := 62, attributes := #[] }, { accessFlags := 26, nameIndex := 65, descriptorIndex := 62, attributes := #[] }, { accessFlags := 24, nameIndex := 430, descriptorIndex := 62, attributes := #[] }, { accessFlags := 4120, nameIndex := 46, descriptorIndex := 47, attributes := #[] }])
  fields := #[{ name := "HI_BYTE_SHIFT", type := .int, accessFlags := 26, slot := 0, constantValue := 0 }, { name := "LO_BYTE_SHIFT", type := .int, accessFlags := 26, slot := 1, constantValue := 0 }, { name := "MAX_LENGTH", type := .int, accessFlags := 24, slot := 2, constantValue := 0 }, { name := "$assertionsDisabled", type := .boolean, accessFlags := 4120, slot := 3, constantValue := 0 }]
  methods := #[k10m0, k10m1, k10m2, k10m3]
  instanceTypes := #[]
  staticTypes := #[.int, .int, .int, .boolean]
  resolved := Array.replicate 635 none
  statics := none }

def pool11 : Array CpInfo := pool [(4, .class_ 6), (1, u "java/lang/Object"), (0, u "<init>"), (0, u "()V"), (5, .class_ 16), (1, u "java/lang/StringLatin1"), (104, u "$assertionsDisabled"), (0, u "Z"), (98, .class_ 223), (1, u "java/lang/StringLatin1$LinesSpliterator"), (57, u "equals"), (0, u "([B[B)Z"), (107, .class_ 391), (0, u "java/lang/StringLatin1$CharsSpliterator")] 3

def k11m0 : Method := { name := "<init>", desc := "()V", sig := { parameters := [], returnType := none }, accessFlags := 0, code := none }
def k11c1 : Code := { maxStack := 3, maxLocals := 3, code := jdk_43_method_13_code, exceptionTable := #[], attributes := #[] }
def k11m1 : Method := { name := "equals", desc := "([B[B)Z", sig := { parameters := [(.array .byte), (.array .byte)], returnType := some .boolean }, accessFlags := 9, code := some k11c1 }
/-- java/lang/StringLatin1 -/
def k11 : Class := { plain "java/lang/StringLatin1" (some 0) with
  accessFlags := 48
  interfaces := #[]
  cf := some (fileOf pool11 14 #[.nestMembers #[390, 221]] #[{ accessFlags := 0, nameIndex := 7, descriptorIndex := 8, attributes := #[] }, { accessFlags := 9, nameIndex := 281, descriptorIndex := 282, attributes := #[] }] 48 4 #[] #[{ accessFlags := 4120, nameIndex := 121, descriptorIndex := 122, attributes := #[] }])
  fields := #[{ name := "$assertionsDisabled", type := .boolean, accessFlags := 4120, slot := 0, constantValue := 0 }]
  methods := #[k11m0, k11m1]
  instanceTypes := #[]
  staticTypes := #[.boolean]
  resolved := Array.replicate 395 none
  statics := none }

def pool12 : Array CpInfo := pool [(1, .methodref 2 3), (0, .class_ 4), (0, .nameAndType 5 6), (0, u "com/example/entrole/entrole/flowable/CaseChange"), (0, u "<init>"), (0, u "(Ljava/lang/String;)V"), (0, .fieldref 8 9), (0, .class_ 10), (0, .nameAndType 11 12), (0, u "com/example/entrole/entrole/flowable/CaseChange$Start"), (0, u "process"), (0, u "Ljava/lang/String;"), (9, u "(Ljava/lang/String;Ljava/lang/String;)V")] 70

def k12c0 : Code := { maxStack := 2, maxLocals := 3, code := prog_10_method_1_code, exceptionTable := #[], attributes := #[] }
def k12m0 : Method := { name := "<init>", desc := "(Ljava/lang/String;Ljava/lang/String;)V", sig := { parameters := [(.object "java/lang/String"), (.object "java/lang/String")], returnType := none }, accessFlags := 0, code := some k12c0 }
/-- com/example/entrole/entrole/flowable/CaseChange$Start -/
def k12 : Class := { plain "com/example/entrole/entrole/flowable/CaseChange$Start" (some 2) with
  accessFlags := 48
  interfaces := #[]
  cf := some (fileOf pool12 8 #[.nestHost 2] #[{ accessFlags := 0, nameIndex := 5, descriptorIndex := 22, attributes := #[] }] 48 2 #[] #[{ accessFlags := 18, nameIndex := 11, descriptorIndex := 12, attributes := #[] }])
  fields := #[{ name := "process", type := (.object "java/lang/String"), accessFlags := 18, slot := 1, constantValue := 0 }]
  methods := #[k12m0]
  instanceTypes := #[(.object "java/lang/String"), (.object "java/lang/String")]
  staticTypes := #[]
  resolved := Array.replicate 93 none
  statics := none }

def pool13 : Array CpInfo := pool [(2, .class_ 4), (1, u "java/lang/Object"), (0, u "<init>"), (0, u "()V"), (17, .class_ 26), (1, u "jdk/internal/util/Preconditions"), (28, .class_ 56), (0, u "jdk/internal/util/Preconditions$4"), (57, .class_ 115), (0, u "jdk/internal/util/Preconditions$1"), (7, u "SIOOBE_FORMATTER"), (0, u "Ljava/util/function/BiFunction;"), (0, .class_ 126), (0, u "jdk/internal/util/Preconditions$2"), (3, u "AIOOBE_FORMATTER"), (0, .class_ 132), (0, u "jdk/internal/util/Preconditions$3"), (3, u "IOOBE_FORMATTER")] 57

def k13m0 : Method := { name := "<init>", desc := "()V", sig := { parameters := [], returnType := none }, accessFlags := 1, code := none }
/-- jdk/internal/util/Preconditions -/
def k13 : Class := { plain "jdk/internal/util/Preconditions" (some 0) with
  accessFlags := 33
  interfaces := #[]
  cf := some (fileOf pool13 24 #[.nestMembers #[55, 131, 125, 114]] #[{ accessFlags := 1, nameIndex := 5, descriptorIndex := 6, attributes := #[] }] 33 2 #[] #[{ accessFlags := 25, nameIndex := 123, descriptorIndex := 124, attributes := #[] }, { accessFlags := 25, nameIndex := 130, descriptorIndex := 124, attributes := #[] }, { accessFlags := 25, nameIndex := 136, descriptorIndex := 124, attributes := #[] }])
  fields := #[{ name := "SIOOBE_FORMATTER", type := (.object "java/util/function/BiFunction"), accessFlags := 25, slot := 0, constantValue := 0 }, { name := "AIOOBE_FORMATTER", type := (.object "java/util/function/BiFunction"), accessFlags := 25, slot := 1, constantValue := 0 }, { name := "IOOBE_FORMATTER", type := (.object "java/util/function/BiFunction"), accessFlags := 25, slot := 2, constantValue := 0 }]
  methods := #[k13m0]
  instanceTypes := #[]
  staticTypes := #[(.object "java/util/function/BiFunction"), (.object "java/util/function/BiFunction"), (.object "java/util/function/BiFunction")]
  resolved := Array.replicate 194 none
  statics := some 1 }

def pool14 : Array CpInfo := pool [(9, u "<init>"), (6, .class_ 18), (1, u "java/lang/Object"), (0, u "()V"), (1, .class_ 23), (1, u "jdk/internal/util/ArraysSupport"), (0, u "LOG2_ARRAY_LONG_INDEX_SCALE"), (0, u "I"), (2, u "U"), (0, u "Ljdk/internal/misc/Unsafe;"), (8, u "BIG_ENDIAN"), (0, u "Z"), (8, u "LOG2_BYTE_BIT_SIZE"), (4, u "LOG2_ARRAY_INT_INDEX_SCALE"), (54, u "JLA"), (0, u "Ljdk/internal/access/JavaLangAccess;"), (11, u "LOG2_ARRAY_BOOLEAN_INDEX_SCALE"), (9, u "LOG2_ARRAY_BYTE_INDEX_SCALE"), (5, u "LOG2_ARRAY_CHAR_INDEX_SCALE"), (5, u "LOG2_ARRAY_SHORT_INDEX_SCALE"), (18, u "LOG2_ARRAY_FLOAT_INDEX_SCALE"), (24, u "LOG2_ARRAY_DOUBLE_INDEX_SCALE"), (89, u "T_BOOLEAN"), (2, u "T_CHAR"), (1, u "T_FLOAT"), (1, u "T_DOUBLE"), (1, u "T_BYTE"), (1, u "T_SHORT"), (1, u "T_INT"), (1, u "T_LONG"), (1, u "SOFT_MAX_ARRAY_LENGTH")] 83

def k14m0 : Method := { name := "<init>", desc := "()V", sig := { parameters := [], returnType := none }, accessFlags := 2, code := none }
/-- jdk/internal/util/ArraysSupport -/
def k14 : Class := { plain "jdk/internal/util/ArraysSupport" (some 0) with
  accessFlags := 33
  interfaces := #[]
  cf := some (fileOf pool14 21 #[] #[{ accessFlags := 2, nameIndex := 9, descriptorIndex := 19, attributes := #[] }] 33 16 #[] #[{ accessFlags := 24, nameIndex := 28, descriptorIndex := 29, attributes := #[] }, { accessFlags := 26, nameIndex := 38, descriptorIndex := 39, attributes := #[] }, { accessFlags := 25, nameIndex := 121, descriptorIndex := 25, attributes := #[] }, { accessFlags := 25, nameIndex := 131, descriptorIndex := 25, attributes := #[] }, { accessFlags := 25, nameIndex := 137, descriptorIndex := 25, attributes := #[] }, { accessFlags := 25, nameIndex := 143, descriptorIndex := 25, attributes := #[] }, { accessFlags := 25, nameIndex := 53, descriptorIndex := 25, attributes := #[] }, { accessFlags := 25, nameIndex := 24, descriptorIndex := 25, attributes := #[] }, { accessFlags := 25, nameIndex := 162, descriptorIndex := 25, attributes := #[] }, { accessFlags := 25, nameIndex := 187, descriptorIndex := 25, attributes := #[] }, { accessFlags := 26, nameIndex := 48, descriptorIndex := 25, attributes := #[] }, { accessFlags := 25, nameIndex := 277, descriptorIndex := 25, attributes := #[] }, { accessFlags := 25, nameIndex := 280, descriptorIndex := 25, attributes := #[] }, { accessFlags := 25, nameIndex := 282, descriptorIndex := 25, attributes := #[] }, { accessFlags := 25, nameIndex := 284, descriptorIndex := 25, attributes := #[] }, { accessFlags := 25, nameIndex := 286, descriptorIndex := 25, attributes := #[] }, { accessFlags := 25, nameIndex := 288, descriptorIndex := 25, attributes := #[] }, { accessFlags := 25, nameIndex := 290, descriptorIndex := 25, attributes := #[] }, { accessFlags := 25, nameIndex := 292, descriptorIndex := 25, attributes := #[] }, { accessFlags := 26, nameIndex := 108, descriptorIndex := 109, attributes := #[] }, { accessFlags := 25, nameIndex := 294, descriptorIndex := 25, attributes := #[] }])
  fields := #[{ name := "U", type := (.object "jdk/internal/misc/Unsafe"), accessFlags := 24, slot := 0, constantValue := 0 }, { name := "BIG_ENDIAN", type := .boolean, accessFlags := 26, slot := 1, constantValue := 0 }, { name := "LOG2_ARRAY_BOOLEAN_INDEX_SCALE", type := .int, accessFlags := 25, slot := 2, constantValue := 0 }, { name := "LOG2_ARRAY_BYTE_INDEX_SCALE", type := .int, accessFlags := 25, slot := 3, constantValue := 0 }, { name := "LOG2_ARRAY_CHAR_INDEX_SCALE", type := .int, accessFlags := 25, slot := 4, constantValue := 0 }, { name := "LOG2_ARRAY_SHORT_INDEX_SCALE", type := .int, accessFlags := 25, slot := 5, constantValue := 0 }, { name := "LOG2_ARRAY_INT_INDEX_SCALE", type := .int, accessFlags := 25, slot := 6, constantValue := 0 }, { name := "LOG2_ARRAY_LONG_INDEX_SCALE", type := .int, accessFlags := 25, slot := 7, constantValue := 0 }, { name := "LOG2_ARRAY_FLOAT_INDEX_SCALE", type := .int, accessFlags := 25, slot := 8, constantValue := 0 }, { name := "LOG2_ARRAY_DOUBLE_INDEX_SCALE", type := .int, accessFlags := 25, slot := 9, constantValue := 0 }, { name := "LOG2_BYTE_BIT_SIZE", type := .int, accessFlags := 26, slot := 10, constantValue := 0 }, { name := "T_BOOLEAN", type := .int, accessFlags := 25, slot := 11, constantValue := 0 }, { name := "T_CHAR", type := .int, accessFlags := 25, slot := 12, constantValue := 0 }, { name := "T_FLOAT", type := .int, accessFlags := 25, slot := 13, constantValue := 0 }, { name := "T_DOUBLE", type := .int, accessFlags := 25, slot := 14, constantValue := 0 }, { name := "T_BYTE", type := .int, accessFlags := 25, slot := 15, constantValue := 0 }, { name := "T_SHORT", type := .int, accessFlags := 25, slot := 16, constantValue := 0 }, { name := "T_INT", type := .int, accessFlags := 25, slot := 17, constantValue := 0 }, { name := "T_LONG", type := .int, accessFlags := 25, slot := 18, constantValue := 0 }, { name := "JLA", type := (.object "jdk/internal/access/JavaLangAccess"), accessFlags := 26, slot := 19, constantValue := 0 }, { name := "SOFT_MAX_ARRAY_LENGTH", type := .int, accessFlags := 25, slot := 20, constantValue := 0 }]
  methods := #[k14m0]
  instanceTypes := #[]
  staticTypes := #[(.object "jdk/internal/misc/Unsafe"), .boolean, .int, .int, .int, .int, .int, .int, .int, .int, .int, .int, .int, .int, .int, .int, .int, .int, .int, (.object "jdk/internal/access/JavaLangAccess"), .int]
  resolved := Array.replicate 378 none
  statics := none }

def pool15 : Array CpInfo := pool [(1, u "java/lang/Cloneable"), (0, .class_ 1), (0, u "java/lang/Object"), (0, .class_ 3)] 3

/-- java/lang/Cloneable -/
def k15 : Class := { plain "java/lang/Cloneable" (some 0) with
  accessFlags := 1537
  interfaces := #[]
  cf := some (fileOf pool15 2 #[] #[] 1537 4 #[] #[])
  fields := #[]
  methods := #[]
  instanceTypes := #[]
  staticTypes := #[]
  resolved := Array.replicate 8 none
  statics := none }

/-- the primitive byte -/
def k16 : Class := { plain "byte" none with kind := .primitive 'B', accessFlags := 0x411 }
/-- [B -/
def k17 : Class := { plain "[B" (some 0) with kind := .array 16 .byte, interfaces := #[15, 4], accessFlags := 1041 }

/-- the primitive char -/
def k18 : Class := { plain "char" none with kind := .primitive 'C', accessFlags := 0x411 }
/-- [C -/
def k19 : Class := { plain "[C" (some 0) with kind := .array 18 .char, interfaces := #[15, 4], accessFlags := 1041 }

/-- the primitive int -/
def k20 : Class := { plain "int" none with kind := .primitive 'I', accessFlags := 0x411 }
/-- [I -/
def k21 : Class := { plain "[I" (some 0) with kind := .array 20 .int, interfaces := #[15, 4], accessFlags := 1041 }

def heap : Heap := #[{ cls := 9, slots := #[.long 0, .int 1, .null, .int 0, .null, .int 0, .int 0], vm := .statics 9 },
  { cls := 13, slots := #[.null, .null, .null], vm := .statics 13 }]
def classes : Array Class := #[k0, k1, k2, k3, k4, k5, k6, k7, k8, k9, k10, k11, k12, k13, k14, k15, k16, k17, k18, k19, k20, k21]
def interned : List (Array UInt16 × Addr) := []
def slotsUsed : Nat := 10
def theMethod : MethodId := ⟨1, 1⟩
def args0 : Array Value := #[.int 7, .int 3, .int 9, .int 9, .int 4, .int 4]
def aboutOver (below : List Frame) : State where
  vm := { classes := classes, interned := interned.toArray }
  heap := heap
  slotsUsed := slotsUsed
  threads := #[{ frames := .invoking theMethod args0 :: below }]
def below0 : List Frame := [.native { method := ⟨0, 0⟩, args := #[] }]
def about1 : State := aboutOver below0
def p0 : Program := .bare "" "" ""
def e0 : Env := launch0.env 0 0 0
theorem w_frames : about1.frames = Frame.invoking theMethod args0 :: below0 := rfl
set_option maxRecDepth 65536 in
theorem w_args : argsFit about1.vm theMethod args0 = true := by decide +kernel
set_option maxRecDepth 65536 in
theorem w_heap : heapFits about1 = true := by decide +kernel
set_option maxRecDepth 65536 in
theorem w_runnable : about1.curStatus? = some .runnable := by decide +kernel
set_option maxRecDepth 65536 in
theorem w_alone : about1.alone = true := by decide +kernel
set_option maxRecDepth 65536 in
theorem w_named : about1.methodNamed? x = some theMethod := by decide +kernel
set_option maxRecDepth 65536 in
theorem w_hears : about1.hears theMethod below0 = true := by decide +kernel
set_option maxRecDepth 65536 in
theorem w_ripe : about1.ripe theMethod args0 below0 = true := by decide +kernel
theorem w_running : about1.status = .running := rfl
set_option maxRecDepth 65536 in
theorem w_room : about1.hasRoom e0.platform room_1 = true :=
  launch0.hasRoom_least _ room_1 (by decide +kernel) (by decide +kernel) (by decide +kernel) (by decide +kernel) (by decide +kernel) (by decide +kernel)
theorem allAtoms_all (ts : List Jvm.Cond) (a : Array Jvm.Value) (st : Jvm.State) : (allAtoms ts).before a st = ts.all (fun c => c.before a st) := by
  induction ts with
  | nil => rfl
  | cons c t ih =>
    show (Jvm.Cond.and c (allAtoms t)).before a st = _
    rw [Jvm.Cond.before_and, ih, List.all_cons]
def words1 : List Jvm.Cond := Jvm.Cond.code x code maxLocals ret :: tables_1
/-- a 'code' word, met by the world's own term for the bytes: nothing is compared byte by byte -/
theorem code_word {y : MethodName} {bytes : ByteArray} {mx : Nat} {rt : Option FieldType} {a : Array Value} {s : State} {m : MethodId} {meth : Method} {c : Code} (h1 : s.methodNamed? y = some m) (h2 : s.vm.method? m = some meth) (h3 : meth.code = some c) (h4 : c.code = bytes)
    (h5 : (c.maxLocals == mx && c.exceptionTable.isEmpty && decide (c.maxStack ≤ mostOperands) && decide (meth.sig.returnType = rt) && !meth.locks && decide (parseMethodDescriptor y.desc = some meth.sig)) = true) : (Jvm.Cond.code y bytes mx rt).before a s = true := by
  simp only [Bool.and_eq_true, beq_iff_eq, Bool.not_eq_true', decide_eq_true_eq] at h5
  obtain ⟨⟨⟨⟨⟨g1, g2⟩, g3⟩, g4⟩, g5⟩, g6⟩ := h5
  simp [Cond.before, Cond.holds, Cond.value, h1, h2, h3, h4, g1, g2, g3, g4, g5, g6]
def isCode : Jvm.Cond → Bool
  | .code _ _ _ _ => true
  | _ => false
theorem all_split {L : List Jvm.Cond} {P : Jvm.Cond → Bool} (h1 : L.all (fun c => isCode c || P c) = true) (h2 : ∀ c ∈ L.filter isCode, P c = true) : L.all P = true := by
  refine List.all_eq_true.mpr fun c hc => ?_
  have h := List.all_eq_true.mp h1 c hc
  rcases Bool.eq_false_or_eq_true (isCode c) with hi | hi
  · exact h2 c (List.mem_filter.mpr ⟨hc, hi⟩)
  · simpa [hi] using h
set_option maxRecDepth 65536 in
theorem w_c0 : (Jvm.Cond.code x code maxLocals ret).before args0 about1 = true := code_word (m := ⟨1, 1⟩) (meth := k1m1) (c := k1c1) (by decide +kernel) rfl rfl rfl (by decide +kernel)
set_option maxRecDepth 65536 in
theorem w_c1 : (Jvm.Cond.code ({ cls := "com/example/entrole/entrole/flowable/GiftEqualsPinLaw", name := "str", desc := "(C)Ljava/lang/String;" } : Jvm.MethodName) method_3_code (2 : Nat) (Option.some (Jvm.ClassFile.FieldType.object "java/lang/String"))).before args0 about1 = true := code_word (m := ⟨1, 2⟩) (meth := k1m2) (c := k1c2) (by decide +kernel) rfl rfl rfl (by decide +kernel)
set_option maxRecDepth 65536 in
theorem w_c2 : (Jvm.Cond.code ({ cls := "java/lang/String", name := "<init>", desc := "([C)V" } : Jvm.MethodName) jdk_42_method_3_code (2 : Nat) (Option.none : Option Jvm.ClassFile.FieldType)).before args0 about1 = true := code_word (m := ⟨9, 1⟩) (meth := k9m1) (c := k9c1) (by decide +kernel) rfl rfl rfl (by decide +kernel)
set_option maxRecDepth 65536 in
theorem w_c3 : (Jvm.Cond.code ({ cls := "java/lang/String", name := "<init>", desc := "([CIILjava/lang/Void;)V" } : Jvm.MethodName) jdk_42_method_149_code (6 : Nat) (Option.none : Option Jvm.ClassFile.FieldType)).before args0 about1 = true := code_word (m := ⟨9, 3⟩) (meth := k9m3) (c := k9c3) (by decide +kernel) rfl rfl rfl (by decide +kernel)
set_option maxRecDepth 65536 in
theorem w_c4 : (Jvm.Cond.code ({ cls := "java/lang/Object", name := "<init>", desc := "()V" } : Jvm.MethodName) object_method_1_code (1 : Nat) (Option.none : Option Jvm.ClassFile.FieldType)).before args0 about1 = true := code_word (m := ⟨0, 0⟩) (meth := k0m0) (c := k0c0) (by decide +kernel) rfl rfl rfl (by decide +kernel)
set_option maxRecDepth 65536 in
theorem w_c5 : (Jvm.Cond.code ({ cls := "java/lang/StringUTF16", name := "compress", desc := "([CII)[B" } : Jvm.MethodName) jdk_52_method_16_code (6 : Nat) (Option.some (Jvm.ClassFile.FieldType.array Jvm.ClassFile.FieldType.byte))).before args0 about1 = true := code_word (m := ⟨10, 2⟩) (meth := k10m2) (c := k10c2) (by decide +kernel) rfl rfl rfl (by decide +kernel)
set_option maxRecDepth 65536 in
theorem w_c6 : (Jvm.Cond.code ({ cls := "java/lang/StringUTF16", name := "compress", desc := "([CI[BII)I" } : Jvm.MethodName) jdk_52_method_21_code (7 : Nat) (Option.some Jvm.ClassFile.FieldType.int)).before args0 about1 = true := code_word (m := ⟨10, 3⟩) (meth := k10m3) (c := k10c3) (by decide +kernel) rfl rfl rfl (by decide +kernel)
set_option maxRecDepth 65536 in
theorem w_c7 : (Jvm.Cond.code ({ cls := "java/lang/StringUTF16", name := "coderFromArrayLen", desc := "([BI)B" } : Jvm.MethodName) jdk_52_method_15_code (2 : Nat) (Option.some Jvm.ClassFile.FieldType.byte)).before args0 about1 = true := code_word (m := ⟨10, 1⟩) (meth := k10m1) (c := k10c1) (by decide +kernel) rfl rfl rfl (by decide +kernel)
set_option maxRecDepth 65536 in
theorem w_c8 : (Jvm.Cond.code ({ cls := "com/example/entrole/entrole/flowable/CaseChange$Gift", name := "<init>", desc := "(Ljava/lang/String;Ljava/lang/String;Ljava/lang/String;)V" } : Jvm.MethodName) prog_9_method_1_code (4 : Nat) (Option.none : Option Jvm.ClassFile.FieldType)).before args0 about1 = true := code_word (m := ⟨3, 0⟩) (meth := k3m0) (c := k3c0) (by decide +kernel) rfl rfl rfl (by decide +kernel)
set_option maxRecDepth 65536 in
theorem w_c9 : (Jvm.Cond.code ({ cls := "com/example/entrole/entrole/flowable/CaseChange", name := "<init>", desc := "(Ljava/lang/String;)V" } : Jvm.MethodName) prog_8_method_1_code (2 : Nat) (Option.none : Option Jvm.ClassFile.FieldType)).before args0 about1 = true := code_word (m := ⟨2, 0⟩) (meth := k2m0) (c := k2c0) (by decide +kernel) rfl rfl rfl (by decide +kernel)
set_option maxRecDepth 65536 in
theorem w_c10 : (Jvm.Cond.code ({ cls := "com/example/entrole/entrole/flowable/CaseChange$Gift", name := "equals", desc := "(Ljava/lang/Object;)Z" } : Jvm.MethodName) prog_9_method_3_code (3 : Nat) (Option.some Jvm.ClassFile.FieldType.boolean)).before args0 about1 = true := code_word (m := ⟨3, 1⟩) (meth := k3m1) (c := k3c1) (by decide +kernel) rfl rfl rfl (by decide +kernel)
set_option maxRecDepth 65536 in
theorem w_c11 : (Jvm.Cond.code ({ cls := "com/example/entrole/entrole/flowable/CaseChange", name := "caseName", desc := "()Ljava/lang/String;" } : Jvm.MethodName) prog_8_method_2_code (1 : Nat) (Option.some (Jvm.ClassFile.FieldType.object "java/lang/String"))).before args0 about1 = true := code_word (m := ⟨2, 1⟩) (meth := k2m1) (c := k2c1) (by decide +kernel) rfl rfl rfl (by decide +kernel)
set_option maxRecDepth 65536 in
theorem w_c12 : (Jvm.Cond.code ({ cls := "java/lang/String", name := "equals", desc := "(Ljava/lang/Object;)Z" } : Jvm.MethodName) jdk_42_method_66_code (3 : Nat) (Option.some Jvm.ClassFile.FieldType.boolean)).before args0 about1 = true := code_word (m := ⟨9, 2⟩) (meth := k9m2) (c := k9c2) (by decide +kernel) rfl rfl rfl (by decide +kernel)
set_option maxRecDepth 65536 in
theorem w_c13 : (Jvm.Cond.code ({ cls := "java/lang/StringLatin1", name := "equals", desc := "([B[B)Z" } : Jvm.MethodName) jdk_43_method_13_code (3 : Nat) (Option.some Jvm.ClassFile.FieldType.boolean)).before args0 about1 = true := code_word (m := ⟨11, 1⟩) (meth := k11m1) (c := k11c1) (by decide +kernel) rfl rfl rfl (by decide +kernel)
set_option maxRecDepth 65536 in
theorem w_c14 : (Jvm.Cond.code ({ cls := "com/example/entrole/entrole/flowable/CaseChange$Start", name := "<init>", desc := "(Ljava/lang/String;Ljava/lang/String;)V" } : Jvm.MethodName) prog_10_method_1_code (3 : Nat) (Option.none : Option Jvm.ClassFile.FieldType)).before args0 about1 = true := code_word (m := ⟨12, 0⟩) (meth := k12m0) (c := k12c0) (by decide +kernel) rfl rfl rfl (by decide +kernel)
def codes1 : List Jvm.Cond := [Jvm.Cond.code x code maxLocals ret, Jvm.Cond.code ({ cls := "com/example/entrole/entrole/flowable/GiftEqualsPinLaw", name := "str", desc := "(C)Ljava/lang/String;" } : Jvm.MethodName) method_3_code (2 : Nat) (Option.some (Jvm.ClassFile.FieldType.object "java/lang/String")), Jvm.Cond.code ({ cls := "java/lang/String", name := "<init>", desc := "([C)V" } : Jvm.MethodName) jdk_42_method_3_code (2 : Nat) (Option.none : Option Jvm.ClassFile.FieldType), Jvm.Cond.code ({ cls := "java/lang/String", name := "<init>", desc := "([CIILjava/lang/Void;)V" } : Jvm.MethodName) jdk_42_method_149_code (6 : Nat) (Option.none : Option Jvm.ClassFile.FieldType), Jvm.Cond.code ({ cls := "java/lang/Object", name := "<init>", desc := "()V" } : Jvm.MethodName) object_method_1_code (1 : Nat) (Option.none : Option Jvm.ClassFile.FieldType), Jvm.Cond.code ({ cls := "java/lang/StringUTF16", name := "compress", desc := "([CII)[B" } : Jvm.MethodName) jdk_52_method_16_code (6 : Nat) (Option.some (Jvm.ClassFile.FieldType.array Jvm.ClassFile.FieldType.byte)), Jvm.Cond.code ({ cls := "java/lang/StringUTF16", name := "compress", desc := "([CI[BII)I" } : Jvm.MethodName) jdk_52_method_21_code (7 : Nat) (Option.some Jvm.ClassFile.FieldType.int), Jvm.Cond.code ({ cls := "java/lang/StringUTF16", name := "coderFromArrayLen", desc := "([BI)B" } : Jvm.MethodName) jdk_52_method_15_code (2 : Nat) (Option.some Jvm.ClassFile.FieldType.byte), Jvm.Cond.code ({ cls := "com/example/entrole/entrole/flowable/CaseChange$Gift", name := "<init>", desc := "(Ljava/lang/String;Ljava/lang/String;Ljava/lang/String;)V" } : Jvm.MethodName) prog_9_method_1_code (4 : Nat) (Option.none : Option Jvm.ClassFile.FieldType), Jvm.Cond.code ({ cls := "com/example/entrole/entrole/flowable/CaseChange", name := "<init>", desc := "(Ljava/lang/String;)V" } : Jvm.MethodName) prog_8_method_1_code (2 : Nat) (Option.none : Option Jvm.ClassFile.FieldType), Jvm.Cond.code ({ cls := "com/example/entrole/entrole/flowable/CaseChange$Gift", name := "equals", desc := "(Ljava/lang/Object;)Z" } : Jvm.MethodName) prog_9_method_3_code (3 : Nat) (Option.some Jvm.ClassFile.FieldType.boolean), Jvm.Cond.code ({ cls := "com/example/entrole/entrole/flowable/CaseChange", name := "caseName", desc := "()Ljava/lang/String;" } : Jvm.MethodName) prog_8_method_2_code (1 : Nat) (Option.some (Jvm.ClassFile.FieldType.object "java/lang/String")), Jvm.Cond.code ({ cls := "java/lang/String", name := "equals", desc := "(Ljava/lang/Object;)Z" } : Jvm.MethodName) jdk_42_method_66_code (3 : Nat) (Option.some Jvm.ClassFile.FieldType.boolean), Jvm.Cond.code ({ cls := "java/lang/StringLatin1", name := "equals", desc := "([B[B)Z" } : Jvm.MethodName) jdk_43_method_13_code (3 : Nat) (Option.some Jvm.ClassFile.FieldType.boolean), Jvm.Cond.code ({ cls := "com/example/entrole/entrole/flowable/CaseChange$Start", name := "<init>", desc := "(Ljava/lang/String;Ljava/lang/String;)V" } : Jvm.MethodName) prog_10_method_1_code (3 : Nat) (Option.none : Option Jvm.ClassFile.FieldType)]
set_option maxRecDepth 65536 in
theorem codes_eq : words1.filter isCode = codes1 := rfl
theorem w_codes : ∀ c ∈ words1.filter isCode, c.before args0 about1 = true := by
  rw [codes_eq]
  intro c hc
  simp only [codes1, List.mem_cons, List.not_mem_nil, or_false] at hc
  rcases hc with rfl | rfl | rfl | rfl | rfl | rfl | rfl | rfl | rfl | rfl | rfl | rfl | rfl | rfl | rfl
  · exact w_c0
  · exact w_c1
  · exact w_c2
  · exact w_c3
  · exact w_c4
  · exact w_c5
  · exact w_c6
  · exact w_c7
  · exact w_c8
  · exact w_c9
  · exact w_c10
  · exact w_c11
  · exact w_c12
  · exact w_c13
  · exact w_c14
set_option maxRecDepth 65536 in
theorem w_t1 : (words1.take 24).all (fun c => isCode c || c.before args0 about1) = true := by decide +kernel
set_option maxRecDepth 65536 in
theorem w_t2 : ((words1.drop 24).take 24).all (fun c => isCode c || c.before args0 about1) = true := by decide +kernel
set_option maxRecDepth 65536 in
theorem w_t3 : (((words1.drop 24).drop 24).take 24).all (fun c => isCode c || c.before args0 about1) = true := by decide +kernel
set_option maxRecDepth 65536 in
theorem w_t4 : (((words1.drop 24).drop 24).drop 24).all (fun c => isCode c || c.before args0 about1) = true := by decide +kernel
theorem w_tables : (allAtoms (Jvm.Cond.code x code maxLocals ret :: tables_1)).before args0 about1 = true := by
  rw [allAtoms_all]
  show words1.all (fun c => c.before args0 about1) = true
  refine all_split ?_ w_codes
  rw [← List.take_append_drop 24 words1, List.all_append, w_t1, ← List.take_append_drop 24 (words1.drop 24), List.all_append, w_t2, ← List.take_append_drop 24 ((words1.drop 24).drop 24), List.all_append, w_t3, w_t4]
  rfl
set_option maxRecDepth 65536 in
theorem w_rest : rest_1_c.before args0 about1 = true := by decide +kernel
set_option maxRecDepth 65536 in
theorem w_case : (Jvm.Cond.and given_1 narrow_1).before args0 about1 = true := by decide +kernel
theorem w_applies : (headSpec (Jvm.Cond.code x code maxLocals ret :: tables_1) room_1).applies x e0.platform about1 = true :=
  (Spec.applies_iff w_frames).mpr ⟨w_running, w_runnable, w_alone, w_named, w_hears, w_ripe, w_room, w_tables⟩
theorem atStart : AtStart classFile x code maxLocals ret World_1 tables_1 room_1 Calls_1 rest_1 Pre_1 launch0 p0 e0 about1 theMethod args0 below0 :=
  ⟨lists_1, trivial, launch0.admits_env _ _ _, launch0.least_env, fairChoices_fair.cas, fairChoices_fair.clock, w_frames, w_args, w_heap, w_applies, trivial, w_rest, w_case⟩
end start1
theorem witness_1 : WitnessClaimed_1 := ⟨start1.p0, start1.e0, start1.about1, start1.theMethod, start1.args0, start1.below0, start1.atStart⟩
end Jvm.Pilot.@@N@@
