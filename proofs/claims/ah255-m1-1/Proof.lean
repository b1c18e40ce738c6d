import JvmDerived
import JvmDerived.Pilot.@@N@@Statement
import JvmDerived.Pilot.@@N@@Code
set_option linter.unusedVariables false
set_option linter.unusedSimpArgs false
namespace Jvm.OwnWk
open Sem ClassFile Op Lib Jvm.Stand Jvm.Free Jvm.LawKit Jvm.RoadKit
def Sd (Z : State) (own : String) (bs : ByteArray) (mx : Nat) (ret : Option FieldType) (n0 : Nat) (p : Program) (l : Launch) (e : Env) (R : Room) (s : State) (m : MethodId) (args : Array Value) (below : List Frame) (meth : Method) (c : Code) (T : State) (h : Heap) (k n : Nat) : Prop :=
  ∃ locs, Stand p l e R s m args below meth c T locs k n ∧ T.heap = h ∧ Fr n0 locs ∧ n0 ≤ s.heap.size ∧ p.tables.exec = Jvm.exec ∧ Z.Warmed39 s.vm ∧ s.vm.findClass own = some m.cls ∧ c.code = bs ∧ c.maxLocals = mx ∧ meth.sig.returnType = ret ∧ meth.locks = false
def Gl (p : Program) (e : Env) (below : List Frame) (P : Outcome → State → Prop) (A : State) : Prop := ∃ t o, Steps p.tables e below A t ∧ t.status = .running ∧ Ended t below o ∧ P o t
def Pst (s : State) (n0 K N : Nat) (Q : Option Value → Heap → Prop) (o : Outcome) (t : State) : Prop := ∃ v L, o = .returned v ∧ (Q v t.heap ∧ Fr n0 L) ∧ FrameEnd s o t L K N
def OMet (l : Launch) (Z : State) (ws : List Jvm.Cond) (y : MethodName) (bs : ByteArray) (mx : Nat) (ret : Option FieldType) (rm : Room) (as : Array Value) (h : Heap) (n0 : Nat) (Q : Option Value → Heap → Prop) : Prop :=
  MetFree l y (head1 (Jvm.Cond.code y bs mx ret :: ws) rm) (fun a U => a = as ∧ Z.Warmed39 U.vm ∧ U.heap = h) (fun _ _ _ _ _ => True) (fun _ U o U' => ∃ v L, o = .returned v ∧ (Q v U'.heap ∧ Fr n0 L) ∧ FrameEnd U o U' L rm.cells rm.slots)
section Kit
variable {Z : State} {own : String} {bs : ByteArray} {mx : Nat} {ret : Option FieldType} {n0 : Nat} {p : Program} {l : Launch} {e : Env} {R : Room} {s : State} {m : MethodId} {args : Array Value} {below : List Frame} {meth : Method} {c : Code} {T : State} {h : Heap} {k n : Nat} {P : Outcome → State → Prop} {L : Array Slot} {S : List Value} {pc pc' pcT pcF : Nat} {a0 : Array Value} {t : FieldType}
theorem Gl.of1 {A B : State} (f : ∀ t, Steps p.tables e below B t → Steps p.tables e below A t) (q : Gl p e below P B) : Gl p e below P A := by
  obtain ⟨t, o, h1, h2⟩ := q
  exact ⟨t, o, f t h1, h2⟩
theorem Gl.via {A B : State} (f : Steps p.tables e below A B) (q : Gl p e below P B) : Gl p e below P A := by
  obtain ⟨t, o, h1, h2⟩ := q
  exact ⟨t, o, f.trans h1, h2⟩
theorem OMet.of {ws : List Jvm.Cond} {y : MethodName} {rm : Room} {as : Array Value} {Q : Option Value → Heap → Prop} (hpl : plainFor y = true) (hef : ∀ m, entryFrame m as mx = mkF m 0 L []) (hn : n0 ≤ h.size)
    (body : ∀ p e s m below meth c T, Sd Z y.cls bs mx ret n0 p l e rm s m as below meth c T h 0 0 → meth.name = y.name → Gl p e below (Pst s n0 rm.cells rm.slots Q) (T.setTop (mkF m 0 L []))) : OMet l Z ws y bs mx ret rm as h n0 Q := by
  refine MetFree.of_bodySF hpl hisR ?_
  intro p e s m args below meth c s₁ Bd hml0 hP hK
  obtain ⟨rfl, hZ, hh⟩ := hP
  have e0 : s₁.heap = h := by rw [← hh, Bd.state]; rfl
  obtain ⟨t, o, h1, h2, h3, h4⟩ := body p e s m below meth c s₁ ⟨[], Stand.of_body Bd, e0, Fr.nil n0, by rw [hh]; exact hn, Bd.exec, hZ, findClass_of_methodNamed Bd.named, Bd.bytes, hml0, Bd.returns, Bd.notSynchronized⟩ (name_of_methodNamed Bd.named Bd.method).1
  exact ⟨t, o, castTop (hef m) h1, h2, h3, h4⟩

theorem own_grow {T' : State} {locs' : List Loc} {k' n' : Nat} (X : Stand p l e R s m args below meth c T' locs' k' n') : s.heap.size ≤ T'.heap.size := X.same.2.1
theorem own_eqI {args : Array Value} {Z : State} {t : Term} {v : Int32} (q : (Jvm.Cond.eq t (.int v)).value args Z none Z [] = some true) : t.eval args Z none [] Z = some (.int v) := by
  simp only [Cond.value, Term.eval] at q
  cases ht : t.eval args Z none [] Z with
  | none => simp [ht] at q
  | some w => cases w <;> simp [ht] at q ⊢ <;> exact q
theorem own_ite {c A B : Prop} [Decidable c] (h1 : c → A) (h2 : ¬ c → B) : A ∨ B := if q : c then Or.inl (h1 q) else Or.inr (h2 q)
theorem own_cut {A B : Prop} (f : B → A) (b : B) : A := f b
theorem Sd.sz (Y : Sd Z own bs mx ret n0 p l e R s m args below meth c T h k n) : n0 ≤ h.size := by
  obtain ⟨locs, X, eT, N, hn0, hx, hZ, hown, hby, hml, hrt, hlk⟩ := Y
  exact eT ▸ Nat.le_trans hn0 (own_grow X)
theorem own_narB {a v : Int32} (h : a.toInt8.toInt32 = v) : nar .byte v = v := by subst h; simp [nar]
theorem own_narC {a v : Int32} (h : a.toUInt32.toUInt16.toUInt32.toInt32 = v) : nar .char v = v := by subst h; have q := Jvm.Free.XT.narrow_c a; exact Value.int.inj q
theorem own_narS {a v : Int32} (h : a.toInt16.toInt32 = v) : nar .short v = v := by subst h; simp [nar]
theorem own_c3 {v : Int32} (h0 : 0 ≤ v.toInt) (h : v.toInt ≤ 3) : v = 0 ∨ v = 1 ∨ v = 2 ∨ v = 3 := by
  have : v.toInt = 0 ∨ v.toInt = 1 ∨ v.toInt = 2 ∨ v.toInt = 3 := by omega
  rcases this with q | q | q | q <;> simp [← Int32.toInt_inj, q]
theorem own_c4 {v : Int32} (h0 : 0 ≤ v.toInt) (h : v.toInt ≤ 4) : v = 0 ∨ v = 1 ∨ v = 2 ∨ v = 3 ∨ v = 4 := by
  have : v.toInt = 0 ∨ v.toInt = 1 ∨ v.toInt = 2 ∨ v.toInt = 3 ∨ v.toInt = 4 := by omega
  rcases this with q | q | q | q | q <;> simp [← Int32.toInt_inj, q]
theorem own_c5 {v : Int32} (h0 : 0 ≤ v.toInt) (h : v.toInt ≤ 5) : v = 0 ∨ v = 1 ∨ v = 2 ∨ v = 3 ∨ v = 4 ∨ v = 5 := by
  have : v.toInt = 0 ∨ v.toInt = 1 ∨ v.toInt = 2 ∨ v.toInt = 3 ∨ v.toInt = 4 ∨ v.toInt = 5 := by omega
  rcases this with q | q | q | q | q | q <;> simp [← Int32.toInt_inj, q]
theorem own_narR {t : FieldType} {x : Value} (q : x.isRef = true) : narrow t x = x := by rcases ref_cases q with rfl | ⟨z, rfl⟩ <;> cases t <;> rfl
theorem OMet.un {l : Launch} {Z : State} {ws : List Jvm.Cond} {y : MethodName} {bs : ByteArray} {mx : Nat} {ret : Option FieldType} {rm : Room} {as : Array Value} {h : Heap} {n0 : Nat} {Q : Option Value → Heap → Prop} (q : OMet l Z ws y bs mx ret rm as h n0 Q) :
  MetFree l y (head1 (Jvm.Cond.code y bs mx ret :: ws) rm) (fun a U => a = as ∧ Z.Warmed39 U.vm ∧ U.heap = h) (fun _ _ _ _ _ => True) (fun _ U o U' => ∃ v L, o = .returned v ∧ (fun v h' L => Q v h' ∧ Fr n0 L) v U'.heap L ∧ FrameEnd U o U' L rm.cells rm.slots) := q
theorem own_not64 (x : Int64) : (x ^^^ (-1)).toInt = -x.toInt - 1 := by
  have h1 : x ^^^ (-1) = ~~~x := by
    apply Int64.toBitVec_inj.mp
    rw [Int64.toBitVec_xor, Int64.toBitVec_not]
    exact BitVec.xor_allOnes
  rw [h1, Int64.not_eq_neg_sub]
  have q := c_lsub (-x) 1
  have r := c_lneg x
  have n1 := rng64 (-x - 1)
  have n2 := rng64 (-x)
  have n3 := rng64 x
  simp only [Int64.reduceToInt] at q
  omega
theorem own_narZ {x : Int32} (q : x = 0 ∨ x = 1) : nar .boolean x = x := by rcases q with rfl | rfl <;> rfl
theorem own_nZ {x : Int32} (q : x = 0 ∨ x = 1) : narrow .boolean (.int x) = .int x := by rcases q with rfl | rfl <;> rfl
theorem own_fZ {x : Int32} (q : x = 0 ∨ x = 1) : fits .boolean (.int x) = true := by rcases q with rfl | rfl <;> rfl
theorem Gl.iadd (Y : Sd Z own bs mx ret n0 p l e R s m args below meth c T h k n) {x y : Int32} {r : Int32} (hr : x + y = r) (hd : decode bs pc = .ok (.iadd, 1)) (hp : pc + 1 = pc') (q : Gl p e below P (T.setTop (mkF m pc' L (.int r :: S)))) : Gl p e below P (T.setTop (mkF m pc L (.int y :: .int x :: S))) := by
  obtain ⟨locs, X, eT, N, hn0, hx, hZ, hown, hby, hml, hrt, hlk⟩ := Y
  subst hp hr
  exact q.of1 fun t q => XS.iadd X.here hx rfl (hb hby hd) rfl q
theorem Gl.isub (Y : Sd Z own bs mx ret n0 p l e R s m args below meth c T h k n) {x y : Int32} {r : Int32} (hr : x - y = r) (hd : decode bs pc = .ok (.isub, 1)) (hp : pc + 1 = pc') (q : Gl p e below P (T.setTop (mkF m pc' L (.int r :: S)))) : Gl p e below P (T.setTop (mkF m pc L (.int y :: .int x :: S))) := by
  obtain ⟨locs, X, eT, N, hn0, hx, hZ, hown, hby, hml, hrt, hlk⟩ := Y
  subst hp hr
  exact q.of1 fun t q => XS.isub X.here hx rfl (hb hby hd) rfl q
theorem Gl.imul (Y : Sd Z own bs mx ret n0 p l e R s m args below meth c T h k n) {x y : Int32} {r : Int32} (hr : x * y = r) (hd : decode bs pc = .ok (.imul, 1)) (hp : pc + 1 = pc') (q : Gl p e below P (T.setTop (mkF m pc' L (.int r :: S)))) : Gl p e below P (T.setTop (mkF m pc L (.int y :: .int x :: S))) := by
  obtain ⟨locs, X, eT, N, hn0, hx, hZ, hown, hby, hml, hrt, hlk⟩ := Y
  subst hp hr
  exact q.of1 fun t q => XS.imul X.here hx rfl (hb hby hd) rfl q
theorem Gl.iand (Y : Sd Z own bs mx ret n0 p l e R s m args below meth c T h k n) {x y : Int32} {r : Int32} (hr : x &&& y = r) (hd : decode bs pc = .ok (.iand, 1)) (hp : pc + 1 = pc') (q : Gl p e below P (T.setTop (mkF m pc' L (.int r :: S)))) : Gl p e below P (T.setTop (mkF m pc L (.int y :: .int x :: S))) := by
  obtain ⟨locs, X, eT, N, hn0, hx, hZ, hown, hby, hml, hrt, hlk⟩ := Y
  subst hp hr
  exact q.of1 fun t q => XS.iand X.here hx rfl (hb hby hd) rfl q
theorem Gl.ior (Y : Sd Z own bs mx ret n0 p l e R s m args below meth c T h k n) {x y : Int32} {r : Int32} (hr : x ||| y = r) (hd : decode bs pc = .ok (.ior, 1)) (hp : pc + 1 = pc') (q : Gl p e below P (T.setTop (mkF m pc' L (.int r :: S)))) : Gl p e below P (T.setTop (mkF m pc L (.int y :: .int x :: S))) := by
  obtain ⟨locs, X, eT, N, hn0, hx, hZ, hown, hby, hml, hrt, hlk⟩ := Y
  subst hp hr
  exact q.of1 fun t q => XS.ior X.here hx rfl (hb hby hd) rfl q
theorem Gl.ixor (Y : Sd Z own bs mx ret n0 p l e R s m args below meth c T h k n) {x y : Int32} {r : Int32} (hr : x ^^^ y = r) (hd : decode bs pc = .ok (.ixor, 1)) (hp : pc + 1 = pc') (q : Gl p e below P (T.setTop (mkF m pc' L (.int r :: S)))) : Gl p e below P (T.setTop (mkF m pc L (.int y :: .int x :: S))) := by
  obtain ⟨locs, X, eT, N, hn0, hx, hZ, hown, hby, hml, hrt, hlk⟩ := Y
  subst hp hr
  exact q.of1 fun t q => XS.ixor X.here hx rfl (hb hby hd) rfl q
theorem Gl.ishl (Y : Sd Z own bs mx ret n0 p l e R s m args below meth c T h k n) {x y : Int32} {r : Int32} (hr : x <<< (y &&& 31) = r) (hd : decode bs pc = .ok (.ishl, 1)) (hp : pc + 1 = pc') (q : Gl p e below P (T.setTop (mkF m pc' L (.int r :: S)))) : Gl p e below P (T.setTop (mkF m pc L (.int y :: .int x :: S))) := by
  obtain ⟨locs, X, eT, N, hn0, hx, hZ, hown, hby, hml, hrt, hlk⟩ := Y
  subst hp hr
  exact q.of1 fun t q => XS.ishl X.here hx rfl (hb hby hd) rfl q
theorem Gl.ishr (Y : Sd Z own bs mx ret n0 p l e R s m args below meth c T h k n) {x y : Int32} {r : Int32} (hr : x >>> (y &&& 31) = r) (hd : decode bs pc = .ok (.ishr, 1)) (hp : pc + 1 = pc') (q : Gl p e below P (T.setTop (mkF m pc' L (.int r :: S)))) : Gl p e below P (T.setTop (mkF m pc L (.int y :: .int x :: S))) := by
  obtain ⟨locs, X, eT, N, hn0, hx, hZ, hown, hby, hml, hrt, hlk⟩ := Y
  subst hp hr
  exact q.of1 fun t q => XS.ishr X.here hx rfl (hb hby hd) rfl q
theorem Gl.iushr (Y : Sd Z own bs mx ret n0 p l e R s m args below meth c T h k n) {x y : Int32} {r : Int32} (hr : (x.toUInt32 >>> (y &&& 31).toUInt32).toInt32 = r) (hd : decode bs pc = .ok (.iushr, 1)) (hp : pc + 1 = pc') (q : Gl p e below P (T.setTop (mkF m pc' L (.int r :: S)))) : Gl p e below P (T.setTop (mkF m pc L (.int y :: .int x :: S))) := by
  obtain ⟨locs, X, eT, N, hn0, hx, hZ, hown, hby, hml, hrt, hlk⟩ := Y
  subst hp hr
  exact q.of1 fun t q => XS.iushr X.here hx rfl (hb hby hd) rfl q
theorem Gl.ladd (Y : Sd Z own bs mx ret n0 p l e R s m args below meth c T h k n) {x y : Int64} {r : Int64} (hr : x + y = r) (hd : decode bs pc = .ok (.ladd, 1)) (hp : pc + 1 = pc') (q : Gl p e below P (T.setTop (mkF m pc' L (.long r :: S)))) : Gl p e below P (T.setTop (mkF m pc L (.long y :: .long x :: S))) := by
  obtain ⟨locs, X, eT, N, hn0, hx, hZ, hown, hby, hml, hrt, hlk⟩ := Y
  subst hp hr
  exact q.of1 fun t q => XS.ladd X.here hx rfl (hb hby hd) rfl q
theorem Gl.lsub (Y : Sd Z own bs mx ret n0 p l e R s m args below meth c T h k n) {x y : Int64} {r : Int64} (hr : x - y = r) (hd : decode bs pc = .ok (.lsub, 1)) (hp : pc + 1 = pc') (q : Gl p e below P (T.setTop (mkF m pc' L (.long r :: S)))) : Gl p e below P (T.setTop (mkF m pc L (.long y :: .long x :: S))) := by
  obtain ⟨locs, X, eT, N, hn0, hx, hZ, hown, hby, hml, hrt, hlk⟩ := Y
  subst hp hr
  exact q.of1 fun t q => XS.lsub X.here hx rfl (hb hby hd) rfl q
theorem Gl.lmul (Y : Sd Z own bs mx ret n0 p l e R s m args below meth c T h k n) {x y : Int64} {r : Int64} (hr : x * y = r) (hd : decode bs pc = .ok (.lmul, 1)) (hp : pc + 1 = pc') (q : Gl p e below P (T.setTop (mkF m pc' L (.long r :: S)))) : Gl p e below P (T.setTop (mkF m pc L (.long y :: .long x :: S))) := by
  obtain ⟨locs, X, eT, N, hn0, hx, hZ, hown, hby, hml, hrt, hlk⟩ := Y
  subst hp hr
  exact q.of1 fun t q => XS.lmul X.here hx rfl (hb hby hd) rfl q
theorem Gl.land (Y : Sd Z own bs mx ret n0 p l e R s m args below meth c T h k n) {x y : Int64} {r : Int64} (hr : x &&& y = r) (hd : decode bs pc = .ok (.land, 1)) (hp : pc + 1 = pc') (q : Gl p e below P (T.setTop (mkF m pc' L (.long r :: S)))) : Gl p e below P (T.setTop (mkF m pc L (.long y :: .long x :: S))) := by
  obtain ⟨locs, X, eT, N, hn0, hx, hZ, hown, hby, hml, hrt, hlk⟩ := Y
  subst hp hr
  exact q.of1 fun t q => XS.land X.here hx rfl (hb hby hd) rfl q
theorem Gl.lor (Y : Sd Z own bs mx ret n0 p l e R s m args below meth c T h k n) {x y : Int64} {r : Int64} (hr : x ||| y = r) (hd : decode bs pc = .ok (.lor, 1)) (hp : pc + 1 = pc') (q : Gl p e below P (T.setTop (mkF m pc' L (.long r :: S)))) : Gl p e below P (T.setTop (mkF m pc L (.long y :: .long x :: S))) := by
  obtain ⟨locs, X, eT, N, hn0, hx, hZ, hown, hby, hml, hrt, hlk⟩ := Y
  subst hp hr
  exact q.of1 fun t q => XS.lor X.here hx rfl (hb hby hd) rfl q
theorem Gl.lxor (Y : Sd Z own bs mx ret n0 p l e R s m args below meth c T h k n) {x y : Int64} {r : Int64} (hr : x ^^^ y = r) (hd : decode bs pc = .ok (.lxor, 1)) (hp : pc + 1 = pc') (q : Gl p e below P (T.setTop (mkF m pc' L (.long r :: S)))) : Gl p e below P (T.setTop (mkF m pc L (.long y :: .long x :: S))) := by
  obtain ⟨locs, X, eT, N, hn0, hx, hZ, hown, hby, hml, hrt, hlk⟩ := Y
  subst hp hr
  exact q.of1 fun t q => XS.lxor X.here hx rfl (hb hby hd) rfl q
theorem Gl.lshl (Y : Sd Z own bs mx ret n0 p l e R s m args below meth c T h k n) {x : Int64} {y : Int32} {r : Int64} (hr : x <<< (y &&& 0x3f).toInt64 = r) (hd : decode bs pc = .ok (.lshl, 1)) (hp : pc + 1 = pc') (q : Gl p e below P (T.setTop (mkF m pc' L (.long r :: S)))) : Gl p e below P (T.setTop (mkF m pc L (.int y :: .long x :: S))) := by
  obtain ⟨locs, X, eT, N, hn0, hx, hZ, hown, hby, hml, hrt, hlk⟩ := Y
  subst hp hr
  exact q.of1 fun t q => XS.lshl X.here hx rfl (hb hby hd) rfl q
theorem Gl.lshr (Y : Sd Z own bs mx ret n0 p l e R s m args below meth c T h k n) {x : Int64} {y : Int32} {r : Int64} (hr : x >>> (y &&& 0x3f).toInt64 = r) (hd : decode bs pc = .ok (.lshr, 1)) (hp : pc + 1 = pc') (q : Gl p e below P (T.setTop (mkF m pc' L (.long r :: S)))) : Gl p e below P (T.setTop (mkF m pc L (.int y :: .long x :: S))) := by
  obtain ⟨locs, X, eT, N, hn0, hx, hZ, hown, hby, hml, hrt, hlk⟩ := Y
  subst hp hr
  exact q.of1 fun t q => XS.lshr X.here hx rfl (hb hby hd) rfl q
theorem Gl.lushr (Y : Sd Z own bs mx ret n0 p l e R s m args below meth c T h k n) {x : Int64} {y : Int32} {r : Int64} (hr : (x.toUInt64 >>> (y &&& 0x3f).toInt64.toUInt64).toInt64 = r) (hd : decode bs pc = .ok (.lushr, 1)) (hp : pc + 1 = pc') (q : Gl p e below P (T.setTop (mkF m pc' L (.long r :: S)))) : Gl p e below P (T.setTop (mkF m pc L (.int y :: .long x :: S))) := by
  obtain ⟨locs, X, eT, N, hn0, hx, hZ, hown, hby, hml, hrt, hlk⟩ := Y
  subst hp hr
  exact q.of1 fun t q => XS.lushr X.here hx rfl (hb hby hd) rfl q
theorem Gl.idiv (Y : Sd Z own bs mx ret n0 p l e R s m args below meth c T h k n) {x y : Int32} (hy : y ≠ 0) {r : Int32} (hr : x / y = r) (hd : decode bs pc = .ok (.idiv, 1)) (hp : pc + 1 = pc') (q : Gl p e below P (T.setTop (mkF m pc' L (.int r :: S)))) : Gl p e below P (T.setTop (mkF m pc L (.int y :: .int x :: S))) := by
  obtain ⟨locs, X, eT, N, hn0, hx, hZ, hown, hby, hml, hrt, hlk⟩ := Y
  subst hp hr
  exact q.of1 fun t q => XS.idiv X.here hx rfl (hb hby hd) rfl hy q
theorem Gl.irem (Y : Sd Z own bs mx ret n0 p l e R s m args below meth c T h k n) {x y : Int32} (hy : y ≠ 0) {r : Int32} (hr : x % y = r) (hd : decode bs pc = .ok (.irem, 1)) (hp : pc + 1 = pc') (q : Gl p e below P (T.setTop (mkF m pc' L (.int r :: S)))) : Gl p e below P (T.setTop (mkF m pc L (.int y :: .int x :: S))) := by
  obtain ⟨locs, X, eT, N, hn0, hx, hZ, hown, hby, hml, hrt, hlk⟩ := Y
  subst hp hr
  exact q.of1 fun t q => iremM X hx rfl (hb hby hd) rfl hy q
theorem Gl.ldiv (Y : Sd Z own bs mx ret n0 p l e R s m args below meth c T h k n) {x y : Int64} (hy : y ≠ 0) {r : Int64} (hr : x / y = r) (hd : decode bs pc = .ok (.ldiv, 1)) (hp : pc + 1 = pc') (q : Gl p e below P (T.setTop (mkF m pc' L (.long r :: S)))) : Gl p e below P (T.setTop (mkF m pc L (.long y :: .long x :: S))) := by
  obtain ⟨locs, X, eT, N, hn0, hx, hZ, hown, hby, hml, hrt, hlk⟩ := Y
  subst hp hr
  exact q.of1 fun t q => XS.ldiv X.here hx rfl (hb hby hd) rfl hy q
theorem Gl.lrem (Y : Sd Z own bs mx ret n0 p l e R s m args below meth c T h k n) {x y : Int64} (hy : y ≠ 0) {r : Int64} (hr : x % y = r) (hd : decode bs pc = .ok (.lrem, 1)) (hp : pc + 1 = pc') (q : Gl p e below P (T.setTop (mkF m pc' L (.long r :: S)))) : Gl p e below P (T.setTop (mkF m pc L (.long y :: .long x :: S))) := by
  obtain ⟨locs, X, eT, N, hn0, hx, hZ, hown, hby, hml, hrt, hlk⟩ := Y
  subst hp hr
  exact q.of1 fun t q => XS.lrem X.here hx rfl (hb hby hd) rfl hy (by rw [lrem_mod]; exact q)
theorem Gl.ineg (Y : Sd Z own bs mx ret n0 p l e R s m args below meth c T h k n) {x : Int32} {r : Int32} (hr : -x = r) (hd : decode bs pc = .ok (.ineg, 1)) (hp : pc + 1 = pc') (q : Gl p e below P (T.setTop (mkF m pc' L (.int r :: S)))) : Gl p e below P (T.setTop (mkF m pc L (.int x :: S))) := by
  obtain ⟨locs, X, eT, N, hn0, hx, hZ, hown, hby, hml, hrt, hlk⟩ := Y
  subst hp hr
  exact q.of1 fun t q => XS.ineg X.here hx rfl (hb hby hd) rfl q
theorem Gl.lneg (Y : Sd Z own bs mx ret n0 p l e R s m args below meth c T h k n) {x : Int64} {r : Int64} (hr : -x = r) (hd : decode bs pc = .ok (.lneg, 1)) (hp : pc + 1 = pc') (q : Gl p e below P (T.setTop (mkF m pc' L (.long r :: S)))) : Gl p e below P (T.setTop (mkF m pc L (.long x :: S))) := by
  obtain ⟨locs, X, eT, N, hn0, hx, hZ, hown, hby, hml, hrt, hlk⟩ := Y
  subst hp hr
  exact q.of1 fun t q => XS.lneg X.here hx rfl (hb hby hd) rfl q
theorem Gl.i2b (Y : Sd Z own bs mx ret n0 p l e R s m args below meth c T h k n) {x : Int32} {r : Int32} (hr : x.toInt8.toInt32 = r) (hd : decode bs pc = .ok (.i2b, 1)) (hp : pc + 1 = pc') (q : Gl p e below P (T.setTop (mkF m pc' L (.int r :: S)))) : Gl p e below P (T.setTop (mkF m pc L (.int x :: S))) := by
  obtain ⟨locs, X, eT, N, hn0, hx, hZ, hown, hby, hml, hrt, hlk⟩ := Y
  subst hp hr
  exact q.of1 fun t q => XS.i2b X.here hx rfl (hb hby hd) rfl q
theorem Gl.i2c (Y : Sd Z own bs mx ret n0 p l e R s m args below meth c T h k n) {x : Int32} {r : Int32} (hr : x.toUInt32.toUInt16.toUInt32.toInt32 = r) (hd : decode bs pc = .ok (.i2c, 1)) (hp : pc + 1 = pc') (q : Gl p e below P (T.setTop (mkF m pc' L (.int r :: S)))) : Gl p e below P (T.setTop (mkF m pc L (.int x :: S))) := by
  obtain ⟨locs, X, eT, N, hn0, hx, hZ, hown, hby, hml, hrt, hlk⟩ := Y
  subst hp hr
  exact q.of1 fun t q => XS.i2c X.here hx rfl (hb hby hd) rfl q
theorem Gl.i2s (Y : Sd Z own bs mx ret n0 p l e R s m args below meth c T h k n) {x : Int32} {r : Int32} (hr : x.toInt16.toInt32 = r) (hd : decode bs pc = .ok (.i2s, 1)) (hp : pc + 1 = pc') (q : Gl p e below P (T.setTop (mkF m pc' L (.int r :: S)))) : Gl p e below P (T.setTop (mkF m pc L (.int x :: S))) := by
  obtain ⟨locs, X, eT, N, hn0, hx, hZ, hown, hby, hml, hrt, hlk⟩ := Y
  subst hp hr
  exact q.of1 fun t q => XS.i2s X.here hx rfl (hb hby hd) rfl q
theorem Gl.i2l (Y : Sd Z own bs mx ret n0 p l e R s m args below meth c T h k n) {x : Int32} {r : Int64} (hr : x.toInt64 = r) (hd : decode bs pc = .ok (.i2l, 1)) (hp : pc + 1 = pc') (q : Gl p e below P (T.setTop (mkF m pc' L (.long r :: S)))) : Gl p e below P (T.setTop (mkF m pc L (.int x :: S))) := by
  obtain ⟨locs, X, eT, N, hn0, hx, hZ, hown, hby, hml, hrt, hlk⟩ := Y
  subst hp hr
  exact q.of1 fun t q => XS.i2l X.here hx rfl (hb hby hd) rfl q
theorem Gl.l2i (Y : Sd Z own bs mx ret n0 p l e R s m args below meth c T h k n) {x : Int64} {r : Int32} (hr : x.toInt32 = r) (hd : decode bs pc = .ok (.l2i, 1)) (hp : pc + 1 = pc') (q : Gl p e below P (T.setTop (mkF m pc' L (.int r :: S)))) : Gl p e below P (T.setTop (mkF m pc L (.long x :: S))) := by
  obtain ⟨locs, X, eT, N, hn0, hx, hZ, hown, hby, hml, hrt, hlk⟩ := Y
  subst hp hr
  exact q.of1 fun t q => XS.l2i X.here hx rfl (hb hby hd) rfl q
theorem Gl.iconst (Y : Sd Z own bs mx ret n0 p l e R s m args below meth c T h k n) {i : Int} {v : Int32} (hv : Int32.ofInt i = v) (hd : decode bs pc = .ok (.iconst i, 1)) (hp : pc + 1 = pc') (q : Gl p e below P (T.setTop (mkF m pc' L (.int v :: S)))) : Gl p e below P (T.setTop (mkF m pc L S)) := by
  obtain ⟨locs, X, eT, N, hn0, hx, hZ, hown, hby, hml, hrt, hlk⟩ := Y
  subst hp
  exact q.of1 fun t q => XS.iconst X.here hx rfl (hb hby hd) (by rw [hv]; exact q)
theorem Gl.bipush (Y : Sd Z own bs mx ret n0 p l e R s m args below meth c T h k n) {i : Int} {v : Int32} (hv : (Int8.ofInt i).toInt32 = v) (hd : decode bs pc = .ok (.bipush i, 2)) (hp : pc + 2 = pc') (q : Gl p e below P (T.setTop (mkF m pc' L (.int v :: S)))) : Gl p e below P (T.setTop (mkF m pc L S)) := by
  obtain ⟨locs, X, eT, N, hn0, hx, hZ, hown, hby, hml, hrt, hlk⟩ := Y
  subst hp
  exact q.of1 fun t q => XS.bipush X.here hx rfl (hb hby hd) (by rw [hv]; exact q)
theorem Gl.sipush (Y : Sd Z own bs mx ret n0 p l e R s m args below meth c T h k n) {i : Int} {v : Int32} (hv : (Int16.ofInt i).toInt32 = v) (hd : decode bs pc = .ok (.sipush i, 3)) (hp : pc + 3 = pc') (q : Gl p e below P (T.setTop (mkF m pc' L (.int v :: S)))) : Gl p e below P (T.setTop (mkF m pc L S)) := by
  obtain ⟨locs, X, eT, N, hn0, hx, hZ, hown, hby, hml, hrt, hlk⟩ := Y
  subst hp
  exact q.of1 fun t q => XS.sipush X.here hx rfl (hb hby hd) (by rw [hv]; exact q)
theorem Gl.lconst (Y : Sd Z own bs mx ret n0 p l e R s m args below meth c T h k n) {i : Fin 2} {v : Int64} (hv : Int64.ofNat i = v) (hd : decode bs pc = .ok (.lconst i, 1)) (hp : pc + 1 = pc') (q : Gl p e below P (T.setTop (mkF m pc' L (.long v :: S)))) : Gl p e below P (T.setTop (mkF m pc L S)) := by
  obtain ⟨locs, X, eT, N, hn0, hx, hZ, hown, hby, hml, hrt, hlk⟩ := Y
  subst hp
  exact q.of1 fun t q => XS.lconst X.here hx rfl (hb hby hd) (by rw [hv]; exact q)
theorem Gl.aconstNull (Y : Sd Z own bs mx ret n0 p l e R s m args below meth c T h k n)  (hd : decode bs pc = .ok (.aconst_null, 1)) (hp : pc + 1 = pc') (q : Gl p e below P (T.setTop (mkF m pc' L (.null :: S)))) : Gl p e below P (T.setTop (mkF m pc L S)) := by
  obtain ⟨locs, X, eT, N, hn0, hx, hZ, hown, hby, hml, hrt, hlk⟩ := Y
  subst hp
  exact q.of1 fun t q => XS.aconstNull X.here hx rfl (hb hby hd) q
theorem Gl.ldcI (Y : Sd Z own bs mx ret n0 p l e R s m args below meth c T h k n) {i : Nat} {v : Int32} (w : (Jvm.Cond.constant own i v).before a0 Z = true) (hd : decode bs pc = .ok (.ldc i, 2)) (hp : pc + 2 = pc') (q : Gl p e below P (T.setTop (mkF m pc' L (.int v :: S)))) : Gl p e below P (T.setTop (mkF m pc L S)) := by
  obtain ⟨locs, X, eT, N, hn0, hx, hZ, hown, hby, hml, hrt, hlk⟩ := Y
  subst hp
  exact q.of1 fun t q => X.ldcInt hx hown (mvT hZ w) (g := mkF m pc L S) rfl (hb hby hd) t q
theorem Gl.ldcWI (Y : Sd Z own bs mx ret n0 p l e R s m args below meth c T h k n) {i : Nat} {v : Int32} (w : (Jvm.Cond.constant own i v).before a0 Z = true) (hd : decode bs pc = .ok (.ldc_w i, 3)) (hp : pc + 3 = pc') (q : Gl p e below P (T.setTop (mkF m pc' L (.int v :: S)))) : Gl p e below P (T.setTop (mkF m pc L S)) := by
  obtain ⟨locs, X, eT, N, hn0, hx, hZ, hown, hby, hml, hrt, hlk⟩ := Y
  subst hp
  exact q.of1 fun t q => X.ldcWI hx hown (mvT hZ w) (g := mkF m pc L S) rfl (hb hby hd) q
theorem Gl.ldcJ (Y : Sd Z own bs mx ret n0 p l e R s m args below meth c T h k n) {i : Nat} {v : Int64} (w : (Jvm.Cond.constantLong own i v).before a0 Z = true) (hd : decode bs pc = .ok (.ldc2_w i, 3)) (hp : pc + 3 = pc') (q : Gl p e below P (T.setTop (mkF m pc' L (.long v :: S)))) : Gl p e below P (T.setTop (mkF m pc L S)) := by
  obtain ⟨locs, X, eT, N, hn0, hx, hZ, hown, hby, hml, hrt, hlk⟩ := Y
  subst hp
  exact q.of1 fun t q => X.ldc2Long hx hown (mvT hZ w) (g := mkF m pc L S) rfl (hb hby hd) t q
theorem Gl.ldcD (Y : Sd Z own bs mx ret n0 p l e R s m args below meth c T h k n) {i : Nat} {v : UInt64} (w : (Jvm.Cond.constantDouble own i v).before a0 Z = true) (hd : decode bs pc = .ok (.ldc2_w i, 3)) (hp : pc + 3 = pc') (q : Gl p e below P (T.setTop (mkF m pc' L (.double v :: S)))) : Gl p e below P (T.setTop (mkF m pc L S)) := by
  obtain ⟨locs, X, eT, N, hn0, hx, hZ, hown, hby, hml, hrt, hlk⟩ := Y
  subst hp
  exact q.of1 fun t q => X.ldc2DoubleC hx hown (mvT hZ w) (g := mkF m pc L S) rfl (hb hby hd) t q
theorem Gl.iload (Y : Sd Z own bs mx ret n0 p l e R s m args below meth c T h k n) {i : Nat} {v : Int32} (hl : L[i]? = some (.val (.int v))) (hd : decode bs pc = .ok (.iload i, 2)) (hp : pc + 2 = pc') (q : Gl p e below P (T.setTop (mkF m pc' L (.int v :: S)))) : Gl p e below P (T.setTop (mkF m pc L S)) := by
  obtain ⟨locs, X, eT, N, hn0, hx, hZ, hown, hby, hml, hrt, hlk⟩ := Y
  subst hp
  exact q.of1 fun t q => XS.iload X.here hx rfl (hb hby hd) hl q
theorem Gl.iloadN (Y : Sd Z own bs mx ret n0 p l e R s m args below meth c T h k n) {i : Fin 4} {v : Int32} (hl : L[i.val]? = some (.val (.int v))) (hd : decode bs pc = .ok (.iload_n i, 1)) (hp : pc + 1 = pc') (q : Gl p e below P (T.setTop (mkF m pc' L (.int v :: S)))) : Gl p e below P (T.setTop (mkF m pc L S)) := by
  obtain ⟨locs, X, eT, N, hn0, hx, hZ, hown, hby, hml, hrt, hlk⟩ := Y
  subst hp
  exact q.of1 fun t q => XS.iloadN X.here hx rfl (hb hby hd) hl q
theorem Gl.lload (Y : Sd Z own bs mx ret n0 p l e R s m args below meth c T h k n) {i : Nat} {v : Int64} (hl : L[i]? = some (.val (.long v))) (hd : decode bs pc = .ok (.lload i, 2)) (hp : pc + 2 = pc') (q : Gl p e below P (T.setTop (mkF m pc' L (.long v :: S)))) : Gl p e below P (T.setTop (mkF m pc L S)) := by
  obtain ⟨locs, X, eT, N, hn0, hx, hZ, hown, hby, hml, hrt, hlk⟩ := Y
  subst hp
  exact q.of1 fun t q => XS.lload X.here hx rfl (hb hby hd) hl q
theorem Gl.lloadN (Y : Sd Z own bs mx ret n0 p l e R s m args below meth c T h k n) {i : Fin 4} {v : Int64} (hl : L[i.val]? = some (.val (.long v))) (hd : decode bs pc = .ok (.lload_n i, 1)) (hp : pc + 1 = pc') (q : Gl p e below P (T.setTop (mkF m pc' L (.long v :: S)))) : Gl p e below P (T.setTop (mkF m pc L S)) := by
  obtain ⟨locs, X, eT, N, hn0, hx, hZ, hown, hby, hml, hrt, hlk⟩ := Y
  subst hp
  exact q.of1 fun t q => XS.lloadN X.here hx rfl (hb hby hd) hl q
theorem Gl.dload (Y : Sd Z own bs mx ret n0 p l e R s m args below meth c T h k n) {i : Nat} {v : UInt64} (hl : L[i]? = some (.val (.double v))) (hd : decode bs pc = .ok (.dload i, 2)) (hp : pc + 2 = pc') (q : Gl p e below P (T.setTop (mkF m pc' L (.double v :: S)))) : Gl p e below P (T.setTop (mkF m pc L S)) := by
  obtain ⟨locs, X, eT, N, hn0, hx, hZ, hown, hby, hml, hrt, hlk⟩ := Y
  subst hp
  exact q.of1 fun t q => XS.dload X.here hx rfl (hb hby hd) hl q
theorem Gl.dloadN (Y : Sd Z own bs mx ret n0 p l e R s m args below meth c T h k n) {i : Fin 4} {v : UInt64} (hl : L[i.val]? = some (.val (.double v))) (hd : decode bs pc = .ok (.dload_n i, 1)) (hp : pc + 1 = pc') (q : Gl p e below P (T.setTop (mkF m pc' L (.double v :: S)))) : Gl p e below P (T.setTop (mkF m pc L S)) := by
  obtain ⟨locs, X, eT, N, hn0, hx, hZ, hown, hby, hml, hrt, hlk⟩ := Y
  subst hp
  exact q.of1 fun t q => XS.dloadN X.here hx rfl (hb hby hd) hl q
theorem Gl.dconst0 (Y : Sd Z own bs mx ret n0 p l e R s m args below meth c T h k n)  (hd : decode bs pc = .ok (.dconst 0, 1)) (hp : pc + 1 = pc') (q : Gl p e below P (T.setTop (mkF m pc' L (.double FP.dconst0 :: S)))) : Gl p e below P (T.setTop (mkF m pc L S)) := by
  obtain ⟨locs, X, eT, N, hn0, hx, hZ, hown, hby, hml, hrt, hlk⟩ := Y
  subst hp
  exact q.of1 fun t q => XS.dconst0 X.here hx rfl (hb hby hd) rfl q
theorem Gl.dconst1 (Y : Sd Z own bs mx ret n0 p l e R s m args below meth c T h k n)  (hd : decode bs pc = .ok (.dconst 1, 1)) (hp : pc + 1 = pc') (q : Gl p e below P (T.setTop (mkF m pc' L (.double FP.dconst1 :: S)))) : Gl p e below P (T.setTop (mkF m pc L S)) := by
  obtain ⟨locs, X, eT, N, hn0, hx, hZ, hown, hby, hml, hrt, hlk⟩ := Y
  subst hp
  exact q.of1 fun t q => XS.dconst1 X.here hx rfl (hb hby hd) rfl q
theorem Gl.aload (Y : Sd Z own bs mx ret n0 p l e R s m args below meth c T h k n) {i : Nat} {v : Value} (hl : L[i]? = some (.val v)) (hv : v.isRef = true) (hd : decode bs pc = .ok (.aload i, 2)) (hp : pc + 2 = pc') (q : Gl p e below P (T.setTop (mkF m pc' L (v :: S)))) : Gl p e below P (T.setTop (mkF m pc L S)) := by
  obtain ⟨locs, X, eT, N, hn0, hx, hZ, hown, hby, hml, hrt, hlk⟩ := Y
  subst hp
  exact q.of1 fun t q => XS.aload X.here hx rfl (hb hby hd) hl hv q
theorem Gl.aloadN (Y : Sd Z own bs mx ret n0 p l e R s m args below meth c T h k n) {i : Fin 4} {v : Value} (hl : L[i.val]? = some (.val v)) (hv : v.isRef = true) (hd : decode bs pc = .ok (.aload_n i, 1)) (hp : pc + 1 = pc') (q : Gl p e below P (T.setTop (mkF m pc' L (v :: S)))) : Gl p e below P (T.setTop (mkF m pc L S)) := by
  obtain ⟨locs, X, eT, N, hn0, hx, hZ, hown, hby, hml, hrt, hlk⟩ := Y
  subst hp
  exact q.of1 fun t q => XS.aloadN X.here hx rfl (hb hby hd) hl hv q
theorem Gl.istore (Y : Sd Z own bs mx ret n0 p l e R s m args below meth c T h k n) {i : Nat} {v : Int32} {L' : Array Slot} (hl : storeLocals L i (.int v) = some L') (hd : decode bs pc = .ok (.istore i, 2)) (hp : pc + 2 = pc') (q : Gl p e below P (T.setTop (mkF m pc' L' S))) : Gl p e below P (T.setTop (mkF m pc L (.int v :: S))) := by
  obtain ⟨locs, X, eT, N, hn0, hx, hZ, hown, hby, hml, hrt, hlk⟩ := Y
  subst hp
  exact q.of1 fun t q => XS.istore X.here hx rfl (hb hby hd) rfl hl q
theorem Gl.istoreN (Y : Sd Z own bs mx ret n0 p l e R s m args below meth c T h k n) {i : Fin 4} {v : Int32} {L' : Array Slot} (hl : storeLocals L i.val (.int v) = some L') (hd : decode bs pc = .ok (.istore_n i, 1)) (hp : pc + 1 = pc') (q : Gl p e below P (T.setTop (mkF m pc' L' S))) : Gl p e below P (T.setTop (mkF m pc L (.int v :: S))) := by
  obtain ⟨locs, X, eT, N, hn0, hx, hZ, hown, hby, hml, hrt, hlk⟩ := Y
  subst hp
  exact q.of1 fun t q => XS.istoreN X.here hx rfl (hb hby hd) rfl hl q
theorem Gl.lstore (Y : Sd Z own bs mx ret n0 p l e R s m args below meth c T h k n) {i : Nat} {v : Int64} {L' : Array Slot} (hl : storeLocals L i (.long v) = some L') (hd : decode bs pc = .ok (.lstore i, 2)) (hp : pc + 2 = pc') (q : Gl p e below P (T.setTop (mkF m pc' L' S))) : Gl p e below P (T.setTop (mkF m pc L (.long v :: S))) := by
  obtain ⟨locs, X, eT, N, hn0, hx, hZ, hown, hby, hml, hrt, hlk⟩ := Y
  subst hp
  exact q.of1 fun t q => XS.lstore X.here hx rfl (hb hby hd) rfl hl q
theorem Gl.lstoreN (Y : Sd Z own bs mx ret n0 p l e R s m args below meth c T h k n) {i : Fin 4} {v : Int64} {L' : Array Slot} (hl : storeLocals L i.val (.long v) = some L') (hd : decode bs pc = .ok (.lstore_n i, 1)) (hp : pc + 1 = pc') (q : Gl p e below P (T.setTop (mkF m pc' L' S))) : Gl p e below P (T.setTop (mkF m pc L (.long v :: S))) := by
  obtain ⟨locs, X, eT, N, hn0, hx, hZ, hown, hby, hml, hrt, hlk⟩ := Y
  subst hp
  exact q.of1 fun t q => XS.lstoreN X.here hx rfl (hb hby hd) rfl hl q
theorem Gl.astore (Y : Sd Z own bs mx ret n0 p l e R s m args below meth c T h k n) {i : Nat} {v : Value} (hv : v.isRef = true) {L' : Array Slot} (hl : storeLocals L i (v) = some L') (hd : decode bs pc = .ok (.astore i, 2)) (hp : pc + 2 = pc') (q : Gl p e below P (T.setTop (mkF m pc' L' S))) : Gl p e below P (T.setTop (mkF m pc L (v :: S))) := by
  obtain ⟨locs, X, eT, N, hn0, hx, hZ, hown, hby, hml, hrt, hlk⟩ := Y
  subst hp
  exact q.of1 fun t q => XS.astore X.here hx rfl (hb hby hd) rfl hv hl q
theorem Gl.astoreN (Y : Sd Z own bs mx ret n0 p l e R s m args below meth c T h k n) {i : Fin 4} {v : Value} (hv : v.isRef = true) {L' : Array Slot} (hl : storeLocals L i.val (v) = some L') (hd : decode bs pc = .ok (.astore_n i, 1)) (hp : pc + 1 = pc') (q : Gl p e below P (T.setTop (mkF m pc' L' S))) : Gl p e below P (T.setTop (mkF m pc L (v :: S))) := by
  obtain ⟨locs, X, eT, N, hn0, hx, hZ, hown, hby, hml, hrt, hlk⟩ := Y
  subst hp
  exact q.of1 fun t q => XS.astoreN X.here hx rfl (hb hby hd) rfl hv hl q
theorem Gl.iinc (Y : Sd Z own bs mx ret n0 p l e R s m args below meth c T h k n) {i : Nat} {cst : Int} {x r : Int32} {L' : Array Slot} (hl : L[i]? = some (.val (.int x))) (hr : x + Int32.ofInt cst = r) (hl' : storeLocals L i (.int r) = some L') (hd : decode bs pc = .ok (.iinc i cst, 3)) (hp : pc + 3 = pc') (q : Gl p e below P (T.setTop (mkF m pc' L' S))) : Gl p e below P (T.setTop (mkF m pc L S)) := by
  obtain ⟨locs, X, eT, N, hn0, hx, hZ, hown, hby, hml, hrt, hlk⟩ := Y
  subst hp
  exact q.of1 fun t q => XS.iinc X.here hx rfl (hb hby hd) hl (by rw [hr]; exact hl') q
theorem Gl.dup (Y : Sd Z own bs mx ret n0 p l e R s m args below meth c T h k n) {x : Value} (hc : x.category = 1) (hd : decode bs pc = .ok (.dup, 1)) (hp : pc + 1 = pc') (q : Gl p e below P (T.setTop (mkF m pc' L (x :: x :: S)))) : Gl p e below P (T.setTop (mkF m pc L (x :: S))) := by
  obtain ⟨locs, X, eT, N, hn0, hx, hZ, hown, hby, hml, hrt, hlk⟩ := Y
  subst hp
  exact q.of1 fun t q => XS.dup X.here hx rfl (hb hby hd) rfl hc q
theorem Gl.pop (Y : Sd Z own bs mx ret n0 p l e R s m args below meth c T h k n) {x : Value} (hc : x.category = 1) (hd : decode bs pc = .ok (.pop, 1)) (hp : pc + 1 = pc') (q : Gl p e below P (T.setTop (mkF m pc' L S))) : Gl p e below P (T.setTop (mkF m pc L (x :: S))) := by
  obtain ⟨locs, X, eT, N, hn0, hx, hZ, hown, hby, hml, hrt, hlk⟩ := Y
  subst hp
  exact q.of1 fun t q => XS.pop X.here hx rfl (hb hby hd) rfl hc q
theorem Gl.dupX1 (Y : Sd Z own bs mx ret n0 p l e R s m args below meth c T h k n) {x y : Value} (hc : x.category = 1) (hc' : y.category = 1) (hd : decode bs pc = .ok (.dup_x1, 1)) (hp : pc + 1 = pc') (q : Gl p e below P (T.setTop (mkF m pc' L (x :: y :: x :: S)))) : Gl p e below P (T.setTop (mkF m pc L (x :: y :: S))) := by
  obtain ⟨locs, X, eT, N, hn0, hx, hZ, hown, hby, hml, hrt, hlk⟩ := Y
  subst hp
  exact q.of1 fun t q => XS.dupX1 X.here hx rfl (hb hby hd) rfl hc hc' q
theorem Gl.lcmp (Y : Sd Z own bs mx ret n0 p l e R s m args below meth c T h k n) {x y : Int64} {r : Int32} (hr : lcmpW x y = r) (hd : decode bs pc = .ok (.lcmp, 1)) (hp : pc + 1 = pc') (q : Gl p e below P (T.setTop (mkF m pc' L (.int r :: S)))) : Gl p e below P (T.setTop (mkF m pc L (.long y :: .long x :: S))) := by
  obtain ⟨locs, X, eT, N, hn0, hx, hZ, hown, hby, hml, hrt, hlk⟩ := Y
  subst hp hr
  exact q.of1 fun t q => XS.lcmp X.here hx rfl (hb hby hd) rfl q
theorem Gl.arraylength (Y : Sd Z own bs mx ret n0 p l e R s m args below meth c T h k n) {a : Addr} {ck : ClassId} {ty : FieldType} {z : Int32} {vs : List Value} {d : Value} (F : Arv Z h a ck ty z vs d) (hd : decode bs pc = .ok (.arraylength, 1)) (hp : pc + 1 = pc') (q : Gl p e below P (T.setTop (mkF m pc' L (.int z :: S)))) : Gl p e below P (T.setTop (mkF m pc L (.ref a :: S))) := by
  obtain ⟨locs, X, eT, N, hn0, hx, hZ, hown, hby, hml, hrt, hlk⟩ := Y
  subst hp
  exact q.of1 fun t q => by
    obtain ⟨cl, A, -, S1, N1, -⟩ := F
    exact X.arraylength hx (by rw [eT]; exact A.1) (State.isArrayOf_alike hZ.alike A.2.1) (g := mkF m pc L (.ref a :: S)) rfl rfl (hb hby hd) t (by rw [len_of S1 N1]; exact q)
theorem Gl.iaload (Y : Sd Z own bs mx ret n0 p l e R s m args below meth c T h k n) {a : Addr} {ck : ClassId} {z j : Int32} {vs : List Value} {d v : Value} (F : Arv Z h a ck .int z vs d) (hj : ¬ j < 0 ∧ j < z) (hv : vs.getD j.toNatClampNeg d = v) (hd : decode bs pc = .ok (.iaload, 1)) (hp : pc + 1 = pc') (q : Gl p e below P (T.setTop (mkF m pc' L (v :: S)))) : Gl p e below P (T.setTop (mkF m pc L (.int j :: .ref a :: S))) := by
  obtain ⟨locs, X, eT, N, hn0, hx, hZ, hown, hby, hml, hrt, hlk⟩ := Y
  subst hp
  exact q.of1 fun t q => by
    obtain ⟨cl, A, -, S1, N1, H, -⟩ := F
    exact X.iaload hx (by rw [eT]; exact A.1) (State.isArrayOf_alike hZ.alike A.2.1) A.2.2 (inb_of S1 hj) (H.at (inb_of S1 hj) hv) (g := mkF m pc L (.int j :: .ref a :: S)) rfl rfl (hb hby hd) t q
theorem Gl.laload (Y : Sd Z own bs mx ret n0 p l e R s m args below meth c T h k n) {a : Addr} {ck : ClassId} {z j : Int32} {vs : List Value} {d v : Value} (F : Arv Z h a ck .long z vs d) (hj : ¬ j < 0 ∧ j < z) (hv : vs.getD j.toNatClampNeg d = v) (hd : decode bs pc = .ok (.laload, 1)) (hp : pc + 1 = pc') (q : Gl p e below P (T.setTop (mkF m pc' L (v :: S)))) : Gl p e below P (T.setTop (mkF m pc L (.int j :: .ref a :: S))) := by
  obtain ⟨locs, X, eT, N, hn0, hx, hZ, hown, hby, hml, hrt, hlk⟩ := Y
  subst hp
  exact q.of1 fun t q => by
    obtain ⟨cl, A, -, S1, N1, H, -⟩ := F
    exact X.laload hx (by rw [eT]; exact A.1) (State.isArrayOf_alike hZ.alike A.2.1) A.2.2 (inb_of S1 hj) (H.at (inb_of S1 hj) hv) (g := mkF m pc L (.int j :: .ref a :: S)) rfl rfl (hb hby hd) t q
theorem Gl.caload (Y : Sd Z own bs mx ret n0 p l e R s m args below meth c T h k n) {a : Addr} {ck : ClassId} {z j : Int32} {vs : List Value} {d v : Value} (F : Arv Z h a ck .char z vs d) (hj : ¬ j < 0 ∧ j < z) (hv : vs.getD j.toNatClampNeg d = v) (hd : decode bs pc = .ok (.caload, 1)) (hp : pc + 1 = pc') (q : Gl p e below P (T.setTop (mkF m pc' L (v :: S)))) : Gl p e below P (T.setTop (mkF m pc L (.int j :: .ref a :: S))) := by
  obtain ⟨locs, X, eT, N, hn0, hx, hZ, hown, hby, hml, hrt, hlk⟩ := Y
  subst hp
  exact q.of1 fun t q => by
    obtain ⟨cl, A, -, S1, N1, H, -⟩ := F
    exact X.caload hx (by rw [eT]; exact A.1) (State.isArrayOf_alike hZ.alike A.2.1) A.2.2 (inb_of S1 hj) (H.at (inb_of S1 hj) hv) (g := mkF m pc L (.int j :: .ref a :: S)) rfl rfl (hb hby hd) t q
theorem Gl.saload (Y : Sd Z own bs mx ret n0 p l e R s m args below meth c T h k n) {a : Addr} {ck : ClassId} {z j : Int32} {vs : List Value} {d v : Value} (F : Arv Z h a ck .short z vs d) (hj : ¬ j < 0 ∧ j < z) (hv : vs.getD j.toNatClampNeg d = v) (hd : decode bs pc = .ok (.saload, 1)) (hp : pc + 1 = pc') (q : Gl p e below P (T.setTop (mkF m pc' L (v :: S)))) : Gl p e below P (T.setTop (mkF m pc L (.int j :: .ref a :: S))) := by
  obtain ⟨locs, X, eT, N, hn0, hx, hZ, hown, hby, hml, hrt, hlk⟩ := Y
  subst hp
  exact q.of1 fun t q => by
    obtain ⟨cl, A, -, S1, N1, H, -⟩ := F
    exact X.saload hx (by rw [eT]; exact A.1) (State.isArrayOf_alike hZ.alike A.2.1) A.2.2 (inb_of S1 hj) (H.at (inb_of S1 hj) hv) (g := mkF m pc L (.int j :: .ref a :: S)) rfl rfl (hb hby hd) t q
theorem Gl.baload (Y : Sd Z own bs mx ret n0 p l e R s m args below meth c T h k n) {a : Addr} {ck : ClassId} {z j : Int32} {vs : List Value} {d v : Value} (F : Arv Z h a ck .byte z vs d) (hj : ¬ j < 0 ∧ j < z) (hv : vs.getD j.toNatClampNeg d = v) (hd : decode bs pc = .ok (.baload, 1)) (hp : pc + 1 = pc') (q : Gl p e below P (T.setTop (mkF m pc' L (v :: S)))) : Gl p e below P (T.setTop (mkF m pc L (.int j :: .ref a :: S))) := by
  obtain ⟨locs, X, eT, N, hn0, hx, hZ, hown, hby, hml, hrt, hlk⟩ := Y
  subst hp
  exact q.of1 fun t q => by
    obtain ⟨cl, A, -, S1, N1, H, -⟩ := F
    exact X.baloadBytes hx (by rw [eT]; exact A.1) (State.isArrayOf_alike hZ.alike A.2.1) A.2.2 (inb_of S1 hj) (H.at (inb_of S1 hj) hv) (g := mkF m pc L (.int j :: .ref a :: S)) rfl rfl (hb hby hd) t q
theorem Gl.goto (Y : Sd Z own bs mx ret n0 p l e R s m args below meth c T h k n) {o : Int} (hd : decode bs pc = .ok (.goto o, 3)) (ho : 0 ≤ (pc : Int) + o) (hp : ((pc : Int) + o).toNat = pc') (q : Gl p e below P (T.setTop (mkF m pc' L S))) : Gl p e below P (T.setTop (mkF m pc L S)) := by
  obtain ⟨locs, X, eT, N, hn0, hx, hZ, hown, hby, hml, hrt, hlk⟩ := Y
  exact q.of1 fun t q => XS.goto X.here hx rfl rfl (hb hby hd) ho hp q
theorem Gl.ifeq (Y : Sd Z own bs mx ret n0 p l e R s m args below meth c T h k n) {x : Int32} {o : Int} (hd : decode bs pc = .ok (.ifCond .eq o, 3)) (ho : 0 ≤ (pc : Int) + o) (ht : ((pc : Int) + o).toNat = pcT) (hf : pc + 3 = pcF) (q1 : x = 0 → Gl p e below P (T.setTop (mkF m pcT L S))) (q2 : ¬ x = 0 → Gl p e below P (T.setTop (mkF m pcF L S))) : Gl p e below P (T.setTop (mkF m pc L (.int x :: S))) := by
  obtain ⟨locs, X, eT, N, hn0, hx, hZ, hown, hby, hml, hrt, hlk⟩ := Y
  by_cases hq : x = 0
  · exact (q1 hq).of1 fun t q => XS.ifYes X.here hx rfl rfl (hb hby hd) rfl (Jvm.Free.XT.i0_eq_t hq) ho ht q
  · subst hf
    exact (q2 (by first | exact hq | exact Decidable.not_not.mp hq)).of1 fun t q => XS.ifNo X.here hx rfl (hb hby hd) rfl (Jvm.Free.XT.i0_eq_f (by first | exact hq | exact Decidable.not_not.mp hq)) q
theorem Gl.icmpeq (Y : Sd Z own bs mx ret n0 p l e R s m args below meth c T h k n) {x y : Int32} {o : Int} (hd : decode bs pc = .ok (.if_icmp .eq o, 3)) (ho : 0 ≤ (pc : Int) + o) (ht : ((pc : Int) + o).toNat = pcT) (hf : pc + 3 = pcF) (q1 : x = y → Gl p e below P (T.setTop (mkF m pcT L S))) (q2 : ¬ x = y → Gl p e below P (T.setTop (mkF m pcF L S))) : Gl p e below P (T.setTop (mkF m pc L (.int y :: .int x :: S))) := by
  obtain ⟨locs, X, eT, N, hn0, hx, hZ, hown, hby, hml, hrt, hlk⟩ := Y
  by_cases hq : x = y
  · exact (q1 hq).of1 fun t q => XS.icmpYes X.here hx rfl rfl (hb hby hd) rfl (Jvm.Free.XT.ii_eq_t hq) ho ht q
  · subst hf
    exact (q2 (by first | exact hq | exact Decidable.not_not.mp hq)).of1 fun t q => XS.icmpNo X.here hx rfl (hb hby hd) rfl (Jvm.Free.XT.ii_eq_f (by first | exact hq | exact Decidable.not_not.mp hq)) q
theorem Gl.lcmpeq (Y : Sd Z own bs mx ret n0 p l e R s m args below meth c T h k n) {x y : Int64} {pc1 : Nat} {o : Int} (hd0 : decode bs pc = .ok (.lcmp, 1)) (hp1 : pc + 1 = pc1) (hd : decode bs pc1 = .ok (.ifCond .eq o, 3)) (ho : 0 ≤ (pc1 : Int) + o) (ht : ((pc1 : Int) + o).toNat = pcT) (hf : pc1 + 3 = pcF) (q1 : x = y → Gl p e below P (T.setTop (mkF m pcT L S))) (q2 : ¬ x = y → Gl p e below P (T.setTop (mkF m pcF L S))) : Gl p e below P (T.setTop (mkF m pc L (.long y :: .long x :: S))) := by
  refine Gl.lcmp Y rfl hd0 hp1 ?_
  obtain ⟨locs, X, eT, N, hn0, hx, hZ, hown, hby, hml, hrt, hlk⟩ := Y
  by_cases hq : x = y
  · exact (q1 hq).of1 fun t q => XS.ifYes X.here hx rfl rfl (hb hby hd) rfl (Jvm.Free.XT.ll_eq_t hq) ho ht q
  · subst hf
    exact (q2 (by first | exact hq | exact Decidable.not_not.mp hq)).of1 fun t q => XS.ifNo X.here hx rfl (hb hby hd) rfl (Jvm.Free.XT.ll_eq_f (by first | exact hq | exact Decidable.not_not.mp hq)) q
theorem Gl.ifne (Y : Sd Z own bs mx ret n0 p l e R s m args below meth c T h k n) {x : Int32} {o : Int} (hd : decode bs pc = .ok (.ifCond .ne o, 3)) (ho : 0 ≤ (pc : Int) + o) (ht : ((pc : Int) + o).toNat = pcT) (hf : pc + 3 = pcF) (q1 : ¬ x = 0 → Gl p e below P (T.setTop (mkF m pcT L S))) (q2 : x = 0 → Gl p e below P (T.setTop (mkF m pcF L S))) : Gl p e below P (T.setTop (mkF m pc L (.int x :: S))) := by
  obtain ⟨locs, X, eT, N, hn0, hx, hZ, hown, hby, hml, hrt, hlk⟩ := Y
  by_cases hq : ¬ x = 0
  · exact (q1 hq).of1 fun t q => XS.ifYes X.here hx rfl rfl (hb hby hd) rfl (Jvm.Free.XT.i0_ne_t hq) ho ht q
  · subst hf
    exact (q2 (by first | exact hq | exact Decidable.not_not.mp hq)).of1 fun t q => XS.ifNo X.here hx rfl (hb hby hd) rfl (Jvm.Free.XT.i0_ne_f (by first | exact hq | exact Decidable.not_not.mp hq)) q
theorem Gl.icmpne (Y : Sd Z own bs mx ret n0 p l e R s m args below meth c T h k n) {x y : Int32} {o : Int} (hd : decode bs pc = .ok (.if_icmp .ne o, 3)) (ho : 0 ≤ (pc : Int) + o) (ht : ((pc : Int) + o).toNat = pcT) (hf : pc + 3 = pcF) (q1 : ¬ x = y → Gl p e below P (T.setTop (mkF m pcT L S))) (q2 : x = y → Gl p e below P (T.setTop (mkF m pcF L S))) : Gl p e below P (T.setTop (mkF m pc L (.int y :: .int x :: S))) := by
  obtain ⟨locs, X, eT, N, hn0, hx, hZ, hown, hby, hml, hrt, hlk⟩ := Y
  by_cases hq : ¬ x = y
  · exact (q1 hq).of1 fun t q => XS.icmpYes X.here hx rfl rfl (hb hby hd) rfl (Jvm.Free.XT.ii_ne_t hq) ho ht q
  · subst hf
    exact (q2 (by first | exact hq | exact Decidable.not_not.mp hq)).of1 fun t q => XS.icmpNo X.here hx rfl (hb hby hd) rfl (Jvm.Free.XT.ii_ne_f (by first | exact hq | exact Decidable.not_not.mp hq)) q
theorem Gl.lcmpne (Y : Sd Z own bs mx ret n0 p l e R s m args below meth c T h k n) {x y : Int64} {pc1 : Nat} {o : Int} (hd0 : decode bs pc = .ok (.lcmp, 1)) (hp1 : pc + 1 = pc1) (hd : decode bs pc1 = .ok (.ifCond .ne o, 3)) (ho : 0 ≤ (pc1 : Int) + o) (ht : ((pc1 : Int) + o).toNat = pcT) (hf : pc1 + 3 = pcF) (q1 : ¬ x = y → Gl p e below P (T.setTop (mkF m pcT L S))) (q2 : x = y → Gl p e below P (T.setTop (mkF m pcF L S))) : Gl p e below P (T.setTop (mkF m pc L (.long y :: .long x :: S))) := by
  refine Gl.lcmp Y rfl hd0 hp1 ?_
  obtain ⟨locs, X, eT, N, hn0, hx, hZ, hown, hby, hml, hrt, hlk⟩ := Y
  by_cases hq : ¬ x = y
  · exact (q1 hq).of1 fun t q => XS.ifYes X.here hx rfl rfl (hb hby hd) rfl (Jvm.Free.XT.ll_ne_t hq) ho ht q
  · subst hf
    exact (q2 (by first | exact hq | exact Decidable.not_not.mp hq)).of1 fun t q => XS.ifNo X.here hx rfl (hb hby hd) rfl (Jvm.Free.XT.ll_ne_f (by first | exact hq | exact Decidable.not_not.mp hq)) q
theorem Gl.iflt (Y : Sd Z own bs mx ret n0 p l e R s m args below meth c T h k n) {x : Int32} {o : Int} (hd : decode bs pc = .ok (.ifCond .lt o, 3)) (ho : 0 ≤ (pc : Int) + o) (ht : ((pc : Int) + o).toNat = pcT) (hf : pc + 3 = pcF) (q1 : x < 0 → Gl p e below P (T.setTop (mkF m pcT L S))) (q2 : ¬ x < 0 → Gl p e below P (T.setTop (mkF m pcF L S))) : Gl p e below P (T.setTop (mkF m pc L (.int x :: S))) := by
  obtain ⟨locs, X, eT, N, hn0, hx, hZ, hown, hby, hml, hrt, hlk⟩ := Y
  by_cases hq : x < 0
  · exact (q1 hq).of1 fun t q => XS.ifYes X.here hx rfl rfl (hb hby hd) rfl (Jvm.Free.XT.i0_lt_t hq) ho ht q
  · subst hf
    exact (q2 (by first | exact hq | exact Decidable.not_not.mp hq)).of1 fun t q => XS.ifNo X.here hx rfl (hb hby hd) rfl (Jvm.Free.XT.i0_lt_f (by first | exact hq | exact Decidable.not_not.mp hq)) q
theorem Gl.icmplt (Y : Sd Z own bs mx ret n0 p l e R s m args below meth c T h k n) {x y : Int32} {o : Int} (hd : decode bs pc = .ok (.if_icmp .lt o, 3)) (ho : 0 ≤ (pc : Int) + o) (ht : ((pc : Int) + o).toNat = pcT) (hf : pc + 3 = pcF) (q1 : x < y → Gl p e below P (T.setTop (mkF m pcT L S))) (q2 : ¬ x < y → Gl p e below P (T.setTop (mkF m pcF L S))) : Gl p e below P (T.setTop (mkF m pc L (.int y :: .int x :: S))) := by
  obtain ⟨locs, X, eT, N, hn0, hx, hZ, hown, hby, hml, hrt, hlk⟩ := Y
  by_cases hq : x < y
  · exact (q1 hq).of1 fun t q => XS.icmpYes X.here hx rfl rfl (hb hby hd) rfl (Jvm.Free.XT.ii_lt_t hq) ho ht q
  · subst hf
    exact (q2 (by first | exact hq | exact Decidable.not_not.mp hq)).of1 fun t q => XS.icmpNo X.here hx rfl (hb hby hd) rfl (Jvm.Free.XT.ii_lt_f (by first | exact hq | exact Decidable.not_not.mp hq)) q
theorem Gl.lcmplt (Y : Sd Z own bs mx ret n0 p l e R s m args below meth c T h k n) {x y : Int64} {pc1 : Nat} {o : Int} (hd0 : decode bs pc = .ok (.lcmp, 1)) (hp1 : pc + 1 = pc1) (hd : decode bs pc1 = .ok (.ifCond .lt o, 3)) (ho : 0 ≤ (pc1 : Int) + o) (ht : ((pc1 : Int) + o).toNat = pcT) (hf : pc1 + 3 = pcF) (q1 : x < y → Gl p e below P (T.setTop (mkF m pcT L S))) (q2 : ¬ x < y → Gl p e below P (T.setTop (mkF m pcF L S))) : Gl p e below P (T.setTop (mkF m pc L (.long y :: .long x :: S))) := by
  refine Gl.lcmp Y rfl hd0 hp1 ?_
  obtain ⟨locs, X, eT, N, hn0, hx, hZ, hown, hby, hml, hrt, hlk⟩ := Y
  by_cases hq : x < y
  · exact (q1 hq).of1 fun t q => XS.ifYes X.here hx rfl rfl (hb hby hd) rfl (Jvm.Free.XT.ll_lt_t hq) ho ht q
  · subst hf
    exact (q2 (by first | exact hq | exact Decidable.not_not.mp hq)).of1 fun t q => XS.ifNo X.here hx rfl (hb hby hd) rfl (Jvm.Free.XT.ll_lt_f (by first | exact hq | exact Decidable.not_not.mp hq)) q
theorem Gl.ifge (Y : Sd Z own bs mx ret n0 p l e R s m args below meth c T h k n) {x : Int32} {o : Int} (hd : decode bs pc = .ok (.ifCond .ge o, 3)) (ho : 0 ≤ (pc : Int) + o) (ht : ((pc : Int) + o).toNat = pcT) (hf : pc + 3 = pcF) (q1 : ¬ x < 0 → Gl p e below P (T.setTop (mkF m pcT L S))) (q2 : x < 0 → Gl p e below P (T.setTop (mkF m pcF L S))) : Gl p e below P (T.setTop (mkF m pc L (.int x :: S))) := by
  obtain ⟨locs, X, eT, N, hn0, hx, hZ, hown, hby, hml, hrt, hlk⟩ := Y
  by_cases hq : ¬ x < 0
  · exact (q1 hq).of1 fun t q => XS.ifYes X.here hx rfl rfl (hb hby hd) rfl (Jvm.Free.XT.i0_ge_t hq) ho ht q
  · subst hf
    exact (q2 (by first | exact hq | exact Decidable.not_not.mp hq)).of1 fun t q => XS.ifNo X.here hx rfl (hb hby hd) rfl (Jvm.Free.XT.i0_ge_f (by first | exact hq | exact Decidable.not_not.mp hq)) q
theorem Gl.icmpge (Y : Sd Z own bs mx ret n0 p l e R s m args below meth c T h k n) {x y : Int32} {o : Int} (hd : decode bs pc = .ok (.if_icmp .ge o, 3)) (ho : 0 ≤ (pc : Int) + o) (ht : ((pc : Int) + o).toNat = pcT) (hf : pc + 3 = pcF) (q1 : ¬ x < y → Gl p e below P (T.setTop (mkF m pcT L S))) (q2 : x < y → Gl p e below P (T.setTop (mkF m pcF L S))) : Gl p e below P (T.setTop (mkF m pc L (.int y :: .int x :: S))) := by
  obtain ⟨locs, X, eT, N, hn0, hx, hZ, hown, hby, hml, hrt, hlk⟩ := Y
  by_cases hq : ¬ x < y
  · exact (q1 hq).of1 fun t q => XS.icmpYes X.here hx rfl rfl (hb hby hd) rfl (Jvm.Free.XT.ii_ge_t hq) ho ht q
  · subst hf
    exact (q2 (by first | exact hq | exact Decidable.not_not.mp hq)).of1 fun t q => XS.icmpNo X.here hx rfl (hb hby hd) rfl (Jvm.Free.XT.ii_ge_f (by first | exact hq | exact Decidable.not_not.mp hq)) q
theorem Gl.lcmpge (Y : Sd Z own bs mx ret n0 p l e R s m args below meth c T h k n) {x y : Int64} {pc1 : Nat} {o : Int} (hd0 : decode bs pc = .ok (.lcmp, 1)) (hp1 : pc + 1 = pc1) (hd : decode bs pc1 = .ok (.ifCond .ge o, 3)) (ho : 0 ≤ (pc1 : Int) + o) (ht : ((pc1 : Int) + o).toNat = pcT) (hf : pc1 + 3 = pcF) (q1 : ¬ x < y → Gl p e below P (T.setTop (mkF m pcT L S))) (q2 : x < y → Gl p e below P (T.setTop (mkF m pcF L S))) : Gl p e below P (T.setTop (mkF m pc L (.long y :: .long x :: S))) := by
  refine Gl.lcmp Y rfl hd0 hp1 ?_
  obtain ⟨locs, X, eT, N, hn0, hx, hZ, hown, hby, hml, hrt, hlk⟩ := Y
  by_cases hq : ¬ x < y
  · exact (q1 hq).of1 fun t q => XS.ifYes X.here hx rfl rfl (hb hby hd) rfl (Jvm.Free.XT.ll_ge_t hq) ho ht q
  · subst hf
    exact (q2 (by first | exact hq | exact Decidable.not_not.mp hq)).of1 fun t q => XS.ifNo X.here hx rfl (hb hby hd) rfl (Jvm.Free.XT.ll_ge_f (by first | exact hq | exact Decidable.not_not.mp hq)) q
theorem Gl.ifgt (Y : Sd Z own bs mx ret n0 p l e R s m args below meth c T h k n) {x : Int32} {o : Int} (hd : decode bs pc = .ok (.ifCond .gt o, 3)) (ho : 0 ≤ (pc : Int) + o) (ht : ((pc : Int) + o).toNat = pcT) (hf : pc + 3 = pcF) (q1 : 0 < x → Gl p e below P (T.setTop (mkF m pcT L S))) (q2 : ¬ 0 < x → Gl p e below P (T.setTop (mkF m pcF L S))) : Gl p e below P (T.setTop (mkF m pc L (.int x :: S))) := by
  obtain ⟨locs, X, eT, N, hn0, hx, hZ, hown, hby, hml, hrt, hlk⟩ := Y
  by_cases hq : 0 < x
  · exact (q1 hq).of1 fun t q => XS.ifYes X.here hx rfl rfl (hb hby hd) rfl (Jvm.Free.XT.i0_gt_t hq) ho ht q
  · subst hf
    exact (q2 (by first | exact hq | exact Decidable.not_not.mp hq)).of1 fun t q => XS.ifNo X.here hx rfl (hb hby hd) rfl (Jvm.Free.XT.i0_gt_f (by first | exact hq | exact Decidable.not_not.mp hq)) q
theorem Gl.icmpgt (Y : Sd Z own bs mx ret n0 p l e R s m args below meth c T h k n) {x y : Int32} {o : Int} (hd : decode bs pc = .ok (.if_icmp .gt o, 3)) (ho : 0 ≤ (pc : Int) + o) (ht : ((pc : Int) + o).toNat = pcT) (hf : pc + 3 = pcF) (q1 : y < x → Gl p e below P (T.setTop (mkF m pcT L S))) (q2 : ¬ y < x → Gl p e below P (T.setTop (mkF m pcF L S))) : Gl p e below P (T.setTop (mkF m pc L (.int y :: .int x :: S))) := by
  obtain ⟨locs, X, eT, N, hn0, hx, hZ, hown, hby, hml, hrt, hlk⟩ := Y
  by_cases hq : y < x
  · exact (q1 hq).of1 fun t q => XS.icmpYes X.here hx rfl rfl (hb hby hd) rfl (Jvm.Free.XT.ii_gt_t hq) ho ht q
  · subst hf
    exact (q2 (by first | exact hq | exact Decidable.not_not.mp hq)).of1 fun t q => XS.icmpNo X.here hx rfl (hb hby hd) rfl (Jvm.Free.XT.ii_gt_f (by first | exact hq | exact Decidable.not_not.mp hq)) q
theorem Gl.lcmpgt (Y : Sd Z own bs mx ret n0 p l e R s m args below meth c T h k n) {x y : Int64} {pc1 : Nat} {o : Int} (hd0 : decode bs pc = .ok (.lcmp, 1)) (hp1 : pc + 1 = pc1) (hd : decode bs pc1 = .ok (.ifCond .gt o, 3)) (ho : 0 ≤ (pc1 : Int) + o) (ht : ((pc1 : Int) + o).toNat = pcT) (hf : pc1 + 3 = pcF) (q1 : y < x → Gl p e below P (T.setTop (mkF m pcT L S))) (q2 : ¬ y < x → Gl p e below P (T.setTop (mkF m pcF L S))) : Gl p e below P (T.setTop (mkF m pc L (.long y :: .long x :: S))) := by
  refine Gl.lcmp Y rfl hd0 hp1 ?_
  obtain ⟨locs, X, eT, N, hn0, hx, hZ, hown, hby, hml, hrt, hlk⟩ := Y
  by_cases hq : y < x
  · exact (q1 hq).of1 fun t q => XS.ifYes X.here hx rfl rfl (hb hby hd) rfl (Jvm.Free.XT.ll_gt_t hq) ho ht q
  · subst hf
    exact (q2 (by first | exact hq | exact Decidable.not_not.mp hq)).of1 fun t q => XS.ifNo X.here hx rfl (hb hby hd) rfl (Jvm.Free.XT.ll_gt_f (by first | exact hq | exact Decidable.not_not.mp hq)) q
theorem Gl.ifle (Y : Sd Z own bs mx ret n0 p l e R s m args below meth c T h k n) {x : Int32} {o : Int} (hd : decode bs pc = .ok (.ifCond .le o, 3)) (ho : 0 ≤ (pc : Int) + o) (ht : ((pc : Int) + o).toNat = pcT) (hf : pc + 3 = pcF) (q1 : ¬ 0 < x → Gl p e below P (T.setTop (mkF m pcT L S))) (q2 : 0 < x → Gl p e below P (T.setTop (mkF m pcF L S))) : Gl p e below P (T.setTop (mkF m pc L (.int x :: S))) := by
  obtain ⟨locs, X, eT, N, hn0, hx, hZ, hown, hby, hml, hrt, hlk⟩ := Y
  by_cases hq : ¬ 0 < x
  · exact (q1 hq).of1 fun t q => XS.ifYes X.here hx rfl rfl (hb hby hd) rfl (Jvm.Free.XT.i0_le_t hq) ho ht q
  · subst hf
    exact (q2 (by first | exact hq | exact Decidable.not_not.mp hq)).of1 fun t q => XS.ifNo X.here hx rfl (hb hby hd) rfl (Jvm.Free.XT.i0_le_f (by first | exact hq | exact Decidable.not_not.mp hq)) q
theorem Gl.icmple (Y : Sd Z own bs mx ret n0 p l e R s m args below meth c T h k n) {x y : Int32} {o : Int} (hd : decode bs pc = .ok (.if_icmp .le o, 3)) (ho : 0 ≤ (pc : Int) + o) (ht : ((pc : Int) + o).toNat = pcT) (hf : pc + 3 = pcF) (q1 : ¬ y < x → Gl p e below P (T.setTop (mkF m pcT L S))) (q2 : y < x → Gl p e below P (T.setTop (mkF m pcF L S))) : Gl p e below P (T.setTop (mkF m pc L (.int y :: .int x :: S))) := by
  obtain ⟨locs, X, eT, N, hn0, hx, hZ, hown, hby, hml, hrt, hlk⟩ := Y
  by_cases hq : ¬ y < x
  · exact (q1 hq).of1 fun t q => XS.icmpYes X.here hx rfl rfl (hb hby hd) rfl (Jvm.Free.XT.ii_le_t hq) ho ht q
  · subst hf
    exact (q2 (by first | exact hq | exact Decidable.not_not.mp hq)).of1 fun t q => XS.icmpNo X.here hx rfl (hb hby hd) rfl (Jvm.Free.XT.ii_le_f (by first | exact hq | exact Decidable.not_not.mp hq)) q
theorem Gl.lcmple (Y : Sd Z own bs mx ret n0 p l e R s m args below meth c T h k n) {x y : Int64} {pc1 : Nat} {o : Int} (hd0 : decode bs pc = .ok (.lcmp, 1)) (hp1 : pc + 1 = pc1) (hd : decode bs pc1 = .ok (.ifCond .le o, 3)) (ho : 0 ≤ (pc1 : Int) + o) (ht : ((pc1 : Int) + o).toNat = pcT) (hf : pc1 + 3 = pcF) (q1 : ¬ y < x → Gl p e below P (T.setTop (mkF m pcT L S))) (q2 : y < x → Gl p e below P (T.setTop (mkF m pcF L S))) : Gl p e below P (T.setTop (mkF m pc L (.long y :: .long x :: S))) := by
  refine Gl.lcmp Y rfl hd0 hp1 ?_
  obtain ⟨locs, X, eT, N, hn0, hx, hZ, hown, hby, hml, hrt, hlk⟩ := Y
  by_cases hq : ¬ y < x
  · exact (q1 hq).of1 fun t q => XS.ifYes X.here hx rfl rfl (hb hby hd) rfl (Jvm.Free.XT.ll_le_t hq) ho ht q
  · subst hf
    exact (q2 (by first | exact hq | exact Decidable.not_not.mp hq)).of1 fun t q => XS.ifNo X.here hx rfl (hb hby hd) rfl (Jvm.Free.XT.ll_le_f (by first | exact hq | exact Decidable.not_not.mp hq)) q
theorem Gl.ifnullY (Y : Sd Z own bs mx ret n0 p l e R s m args below meth c T h k n)  {o : Int} (hd : decode bs pc = .ok (.ifnull o, 3)) (ho : 0 ≤ (pc : Int) + o) (ht : ((pc : Int) + o).toNat = pcT) (q : Gl p e below P (T.setTop (mkF m pcT L S))) : Gl p e below P (T.setTop (mkF m pc L (.null :: S))) := by
  obtain ⟨locs, X, eT, N, hn0, hx, hZ, hown, hby, hml, hrt, hlk⟩ := Y
  exact q.of1 fun t q => XS.ifnullYes X.here hx rfl rfl (hb hby hd) rfl ho ht q
theorem Gl.ifnullN (Y : Sd Z own bs mx ret n0 p l e R s m args below meth c T h k n) {b : Addr} {o : Int} (hd : decode bs pc = .ok (.ifnull o, 3)) (hf : pc + 3 = pcF) (q : Gl p e below P (T.setTop (mkF m pcF L S))) : Gl p e below P (T.setTop (mkF m pc L (.ref b :: S))) := by
  obtain ⟨locs, X, eT, N, hn0, hx, hZ, hown, hby, hml, hrt, hlk⟩ := Y
  subst hf
  exact q.of1 fun t q => XS.ifnullNo X.here hx rfl (hb hby hd) rfl q
theorem Gl.ifnonnullY (Y : Sd Z own bs mx ret n0 p l e R s m args below meth c T h k n) {b : Addr} {o : Int} (hd : decode bs pc = .ok (.ifnonnull o, 3)) (ho : 0 ≤ (pc : Int) + o) (ht : ((pc : Int) + o).toNat = pcT) (q : Gl p e below P (T.setTop (mkF m pcT L S))) : Gl p e below P (T.setTop (mkF m pc L (.ref b :: S))) := by
  obtain ⟨locs, X, eT, N, hn0, hx, hZ, hown, hby, hml, hrt, hlk⟩ := Y
  exact q.of1 fun t q => XS.ifnonnullYes X.here hx rfl rfl (hb hby hd) rfl ho ht q
theorem Gl.ifnonnullN (Y : Sd Z own bs mx ret n0 p l e R s m args below meth c T h k n)  {o : Int} (hd : decode bs pc = .ok (.ifnonnull o, 3)) (hf : pc + 3 = pcF) (q : Gl p e below P (T.setTop (mkF m pcF L S))) : Gl p e below P (T.setTop (mkF m pc L (.null :: S))) := by
  obtain ⟨locs, X, eT, N, hn0, hx, hZ, hown, hby, hml, hrt, hlk⟩ := Y
  subst hf
  exact q.of1 fun t q => XS.ifnonnullNo X.here hx rfl (hb hby hd) rfl q
theorem Gl.acmpeq (Y : Sd Z own bs mx ret n0 p l e R s m args below meth c T h k n) {x y : Value} {o : Int} (h1 : x.isRef = true) (h2 : y.isRef = true) (hd : decode bs pc = .ok (.if_acmp .eq o, 3)) (ho : 0 ≤ (pc : Int) + o) (ht : ((pc : Int) + o).toNat = pcT) (hf : pc + 3 = pcF) (q1 : x = y → Gl p e below P (T.setTop (mkF m pcT L S))) (q2 : ¬ x = y → Gl p e below P (T.setTop (mkF m pcF L S))) : Gl p e below P (T.setTop (mkF m pc L (y :: x :: S))) := by
  obtain ⟨locs, X, eT, N, hn0, hx, hZ, hown, hby, hml, hrt, hlk⟩ := Y
  subst ht hf
  by_cases hq : x = y
  · exact (q1 hq).of1 fun t q => Jvm.RoadKit.acmp (g := mkF m pc L (y :: x :: S)) X hx rfl h1 h2 (pc0 := pc) (same := true) rfl (hb hby hd) rfl (decide_eq_true hq) ho rfl q
  · exact (q2 hq).of1 fun t q => Jvm.RoadKit.acmp (g := mkF m pc L (y :: x :: S)) X hx rfl h1 h2 (pc0 := pc) (same := false) rfl (hb hby hd) rfl (decide_eq_false hq) ho rfl q
theorem Gl.acmpne (Y : Sd Z own bs mx ret n0 p l e R s m args below meth c T h k n) {x y : Value} {o : Int} (h1 : x.isRef = true) (h2 : y.isRef = true) (hd : decode bs pc = .ok (.if_acmp .ne o, 3)) (ho : 0 ≤ (pc : Int) + o) (ht : ((pc : Int) + o).toNat = pcT) (hf : pc + 3 = pcF) (q1 : ¬ x = y → Gl p e below P (T.setTop (mkF m pcT L S))) (q2 : x = y → Gl p e below P (T.setTop (mkF m pcF L S))) : Gl p e below P (T.setTop (mkF m pc L (y :: x :: S))) := by
  obtain ⟨locs, X, eT, N, hn0, hx, hZ, hown, hby, hml, hrt, hlk⟩ := Y
  subst ht hf
  by_cases hq : x = y
  · exact (q2 hq).of1 fun t q => Jvm.RoadKit.acmp (g := mkF m pc L (y :: x :: S)) X hx rfl h1 h2 (pc0 := pc) (same := true) rfl (hb hby hd) rfl (decide_eq_true hq) ho rfl q
  · exact (q1 hq).of1 fun t q => Jvm.RoadKit.acmp (g := mkF m pc L (y :: x :: S)) X hx rfl h1 h2 (pc0 := pc) (same := false) rfl (hb hby hd) rfl (decide_eq_false hq) ho rfl q
theorem Gl.getF (Y : Sd Z own bs mx ret n0 p l e R s m args below meth c T h k n) {i : Nat} {R0 O f d host : String} {a : Addr} {v : Value} (w : (Jvm.Cond.fieldLink own i R0 f d).before a0 Z = true ∨ (Jvm.Cond.fieldLinkNest own i R0 f d host).before a0 Z = true) (via : Via Z R0 O f d) (F : Fld Z h a O f d v) (hd : decode bs pc = .ok (.getfield i, 3)) (hp : pc + 3 = pc') (q : ∀ T', Sd Z own bs mx ret n0 p l e R s m args below meth c T' h k n → Gl p e below P (T'.setTop (mkF m pc' L (v :: S)))) : Gl p e below P (T.setTop (mkF m pc L (.ref a :: S))) := by
  obtain ⟨locs, X, eT, N, hn0, hx, hZ, hown, hby, hml, hrt, hlk⟩ := Y
  subst hp
  obtain ⟨T', X', e', st⟩ := Jvm.RoadKit.getF X hx hZ hown w via eT F (g := mkF m pc L (.ref a :: S)) rfl rfl (hb hby hd)
  exact (q T' ⟨locs, X', e', N, hn0, hx, hZ, hown, hby, hml, hrt, hlk⟩).of1 st
theorem Gl.getS (Y : Sd Z own bs mx ret n0 p l e R s m args below meth c T h k n) {i : Nat} {R0 O f d host : String} {v : Value} (w : (Jvm.Cond.fieldLink own i R0 f d).before a0 Z = true ∨ (Jvm.Cond.fieldLinkNest own i R0 f d host).before a0 Z = true) (via : Via Z R0 O f d) (F : Sta Z h O f d v) (hd : decode bs pc = .ok (.getstatic i, 3)) (hp : pc + 3 = pc') (q : ∀ T', Sd Z own bs mx ret n0 p l e R s m args below meth c T' h k n → Gl p e below P (T'.setTop (mkF m pc' L (v :: S)))) : Gl p e below P (T.setTop (mkF m pc L S)) := by
  obtain ⟨locs, X, eT, N, hn0, hx, hZ, hown, hby, hml, hrt, hlk⟩ := Y
  subst hp
  obtain ⟨T', X', e', st⟩ := getS2 X hx hZ hown w via eT F (g := mkF m pc L S) rfl (hb hby hd)
  exact (q T' ⟨locs, X', e', N, hn0, hx, hZ, hown, hby, hml, hrt, hlk⟩).of1 st
theorem Gl.putF (Y : Sd Z own bs mx ret n0 p l e R s m args below meth c T h k n) {i kk : Nat} {R0 O f d host C : String} {ty : FieldType} {a : Addr} {v old : Value} (w : (Jvm.Cond.fieldLink own i R0 f d).before a0 Z = true ∨ (Jvm.Cond.fieldLinkNest own i R0 f d host).before a0 Z = true) (via : Via Z R0 O f d) (F : Fld Z h a O f d old) (E : Exa Z h a C) (Lw : (Jvm.Cond.lays C O f d).before a0 Z = true ∨ ((Jvm.Cond.laysFinal C O f d).before a0 Z = true ∧ own = O ∧ meth.name = "<init>")) (wi : (Jvm.Cond.instantiable C kk).before a0 Z = true) (ha : n0 ≤ a) (hty : parseFieldDescriptor d = some ty) (hn : narrow ty v = v) (hf : fits ty v = true) (hd : decode bs pc = .ok (.putfield i, 3)) (hp : pc + 3 = pc') (q : ∀ T' h', Sd Z own bs mx ret n0 p l e R s m args below meth c T' h' k n → Wr h h' a (Jvm.RoadKit.slotOf Z O f d) v → Gl p e below P (T'.setTop (mkF m pc' L S))) : Gl p e below P (T.setTop (mkF m pc L (v :: .ref a :: S))) := by
  obtain ⟨locs, X, eT, N, hn0, hx, hZ, hown, hby, hml, hrt, hlk⟩ := Y
  subst hp
  obtain ⟨T', h', X', e', W, st⟩ := Jvm.RoadKit.putF X hx hZ hown w via eT F E Lw wi hty hn hf (g := mkF m pc L (v :: .ref a :: S)) rfl rfl (hb hby hd)
  exact (q T' h' ⟨_, X', e', Fr.snoc X' N ha, hn0, hx, hZ, hown, hby, hml, hrt, hlk⟩ W).of1 st
theorem Gl.putFN (Y : Sd Z own bs mx ret n0 p l e R s m args below meth c T h k n) {i kk : Nat} {R0 O f d C : String} {ty : FieldType} {a : Addr} {v v' old : Value} (w : (Jvm.Cond.fieldLink own i R0 f d).before a0 Z = true) (via : Via Z R0 O f d) (F : Fld Z h a O f d old) (E : Exa Z h a C) (Lw : (Jvm.Cond.lays C O f d).before a0 Z = true ∨ ((Jvm.Cond.laysFinal C O f d).before a0 Z = true ∧ own = O ∧ meth.name = "<init>")) (wi : (Jvm.Cond.instantiable C kk).before a0 Z = true) (ha : n0 ≤ a) (hty : parseFieldDescriptor d = some ty) (hn : narrow ty v = v') (hf : fits ty v' = true) (hd : decode bs pc = .ok (.putfield i, 3)) (hp : pc + 3 = pc') (q : ∀ T' h', Sd Z own bs mx ret n0 p l e R s m args below meth c T' h' k n → Wr h h' a (Jvm.RoadKit.slotOf Z O f d) v' → Gl p e below P (T'.setTop (mkF m pc' L S))) : Gl p e below P (T.setTop (mkF m pc L (v :: .ref a :: S))) := by
  obtain ⟨locs, X, eT, N, hn0, hx, hZ, hown, hby, hml, hrt, hlk⟩ := Y
  subst hp
  obtain ⟨T', h', X', e', W, st⟩ := Jvm.RoadKit.putFN X hx hZ hown w via eT F E Lw wi hty hn hf (g := mkF m pc L (v :: .ref a :: S)) rfl rfl (hb hby hd)
  exact (q T' h' ⟨_, X', e', Fr.snoc X' N ha, hn0, hx, hZ, hown, hby, hml, hrt, hlk⟩ W).of1 st
theorem Gl.newO (Y : Sd Z own bs mx ret n0 p l e R s m args below meth c T h k n) {i sl : Nat} {C : String} (w : (Jvm.Cond.classLink own i C).before a0 Z = true) (wi : (Jvm.Cond.instantiable C sl).before a0 Z = true) (wz : (Jvm.Cond.initialized C).before a0 Z = true) (hc : k + 1 ≤ R.cells) (hl : n + sl ≤ R.slots) (hd : decode bs pc = .ok (.new i, 3)) (hp : pc + 3 = pc') (q : ∀ T' h' b, Sd Z own bs mx ret n0 p l e R s m args below meth c T' h' (k + 1) (n + sl) → Ext h h' → b = h.size → n0 ≤ b → Exa Z h' b C → (∀ {O nm d : String} {ty : FieldType}, Laid Z a0 C O nm d → parseFieldDescriptor d = some ty → Fld Z h' b O nm d (defaultValue ty)) → Gl p e below P (T'.setTop (mkF m pc' L (.ref b :: S)))) : Gl p e below P (T.setTop (mkF m pc L S)) := by
  obtain ⟨locs, X, eT, N, hn0, hx, hZ, hown, hby, hml, hrt, hlk⟩ := Y
  subst hp
  obtain ⟨T', h', X', e', E, A, D, -, st⟩ := Jvm.RoadKit.newO X hx hZ hown w wi wz eT (g := mkF m pc L S) rfl (hb hby hd) hc hl
  exact (q T' h' h.size ⟨locs, X', e', N, hn0, hx, hZ, hown, hby, hml, hrt, hlk⟩ E rfl (eT ▸ Nat.le_trans hn0 (own_grow X)) A D).of1 st
theorem Gl.newP (Y : Sd Z own bs mx ret n0 p l e R s m args below meth c T h k n) {aty : ArrayType} {ty : FieldType} {z : Int32} (cap : Nat) (hat : newarray.typeOf aty = ty) (w : (Jvm.Cond.arrayClass ty).before a0 Z = true) (hz : ¬ z < 0) (hcap : z.toNatClampNeg ≤ cap) (hcb : cap * 8 ≤ 536870912) (hc : k + 1 ≤ R.cells) (hl : n + cap ≤ R.slots) (hd : decode bs pc = .ok (.newarray aty, 2)) (hp : pc + 2 = pc') (q : ∀ T' h' b ck, Sd Z own bs mx ret n0 p l e R s m args below meth c T' h' (k + 1) (n + cap) → Ext h h' → b = h.size → n0 ≤ b → Arv Z h' b ck ty z [] (defaultValue ty) → Gl p e below P (T'.setTop (mkF m pc' L (.ref b :: S)))) : Gl p e below P (T.setTop (mkF m pc L (.int z :: S))) := by
  obtain ⟨locs, X, eT, N, hn0, hx, hZ, hown, hby, hml, hrt, hlk⟩ := Y
  subst hp hat
  obtain ⟨T', h', ck, X', e', E, A, st⟩ := Jvm.RoadKit.newP X hx hZ w eT (g := mkF m pc L (.int z :: S)) rfl (hb hby hd) rfl hz hcap hcb hc hl
  exact (q T' h' h.size ck ⟨locs, X', e', N, hn0, hx, hZ, hown, hby, hml, hrt, hlk⟩ E rfl (eT ▸ Nat.le_trans hn0 (own_grow X)) (Arv.new A hz)).of1 st
theorem Gl.iastore (Y : Sd Z own bs mx ret n0 p l e R s m args below meth c T h k n) {a : Addr} {ck : ClassId} {z j : Int32} {x : Int32} {vs : List Value} {d v : Value} {ix : Nat} (F : Arv Z h a ck .int z vs d) (hv : .int x = v) (hj : ¬ j < 0 ∧ j < z) (hjx : j.toNatClampNeg = ix) (hlen : ix < vs.length) (ha : n0 ≤ a) (hd : decode bs pc = .ok (.iastore, 1)) (hp : pc + 1 = pc') (q : ∀ T' h', Sd Z own bs mx ret n0 p l e R s m args below meth c T' h' k n → Wr h h' a ix v → Arv Z h' a ck .int z (vs.set ix v) d → Gl p e below P (T'.setTop (mkF m pc' L S))) : Gl p e below P (T.setTop (mkF m pc L (.int x :: .int j :: .ref a :: S))) := by
  obtain ⟨locs, X, eT, N, hn0, hx, hZ, hown, hby, hml, hrt, hlk⟩ := Y
  subst hp hv hjx
  obtain ⟨cl, A, C1, S1, N1, H, Gf⟩ := F
  obtain ⟨T', h', X', e', W, st⟩ := stI X hx hZ eT A (inb_of S1 hj) (g := mkF m pc L (.int x :: .int j :: .ref a :: S)) rfl rfl (hb hby hd)
  exact (q T' h' ⟨_, X', e', Fr.snoc X' N ha, hn0, hx, hZ, hown, hby, hml, hrt, hlk⟩ W (Arv.set A C1 S1 N1 H Gf rfl W _ rfl hlen)).of1 st
theorem Gl.lastore (Y : Sd Z own bs mx ret n0 p l e R s m args below meth c T h k n) {a : Addr} {ck : ClassId} {z j : Int32} {x : Int64} {vs : List Value} {d v : Value} {ix : Nat} (F : Arv Z h a ck .long z vs d) (hv : .long x = v) (hj : ¬ j < 0 ∧ j < z) (hjx : j.toNatClampNeg = ix) (hlen : ix < vs.length) (ha : n0 ≤ a) (hd : decode bs pc = .ok (.lastore, 1)) (hp : pc + 1 = pc') (q : ∀ T' h', Sd Z own bs mx ret n0 p l e R s m args below meth c T' h' k n → Wr h h' a ix v → Arv Z h' a ck .long z (vs.set ix v) d → Gl p e below P (T'.setTop (mkF m pc' L S))) : Gl p e below P (T.setTop (mkF m pc L (.long x :: .int j :: .ref a :: S))) := by
  obtain ⟨locs, X, eT, N, hn0, hx, hZ, hown, hby, hml, hrt, hlk⟩ := Y
  subst hp hv hjx
  obtain ⟨cl, A, C1, S1, N1, H, Gf⟩ := F
  obtain ⟨T', h', X', e', W, st⟩ := stJ X hx hZ eT A (inb_of S1 hj) (g := mkF m pc L (.long x :: .int j :: .ref a :: S)) rfl rfl (hb hby hd)
  exact (q T' h' ⟨_, X', e', Fr.snoc X' N ha, hn0, hx, hZ, hown, hby, hml, hrt, hlk⟩ W (Arv.set A C1 S1 N1 H Gf rfl W _ rfl hlen)).of1 st
theorem Gl.castore (Y : Sd Z own bs mx ret n0 p l e R s m args below meth c T h k n) {a : Addr} {ck : ClassId} {z j : Int32} {x : Int32} {vs : List Value} {d v : Value} {ix : Nat} (F : Arv Z h a ck .char z vs d) (hv : .int (nar .char x) = v) (hj : ¬ j < 0 ∧ j < z) (hjx : j.toNatClampNeg = ix) (hlen : ix < vs.length) (ha : n0 ≤ a) (hd : decode bs pc = .ok (.castore, 1)) (hp : pc + 1 = pc') (q : ∀ T' h', Sd Z own bs mx ret n0 p l e R s m args below meth c T' h' k n → Wr h h' a ix v → Arv Z h' a ck .char z (vs.set ix v) d → Gl p e below P (T'.setTop (mkF m pc' L S))) : Gl p e below P (T.setTop (mkF m pc L (.int x :: .int j :: .ref a :: S))) := by
  obtain ⟨locs, X, eT, N, hn0, hx, hZ, hown, hby, hml, hrt, hlk⟩ := Y
  subst hp hv hjx
  obtain ⟨cl, A, C1, S1, N1, H, Gf⟩ := F
  obtain ⟨T', h', X', e', W, st⟩ := stC X hx hZ eT A (inb_of S1 hj) (g := mkF m pc L (.int x :: .int j :: .ref a :: S)) rfl rfl (hb hby hd)
  exact (q T' h' ⟨_, X', e', Fr.snoc X' N ha, hn0, hx, hZ, hown, hby, hml, hrt, hlk⟩ W (Arv.set A C1 S1 N1 H Gf (fits_nar_char _) W _ rfl hlen)).of1 st
theorem Gl.sastore (Y : Sd Z own bs mx ret n0 p l e R s m args below meth c T h k n) {a : Addr} {ck : ClassId} {z j : Int32} {x : Int32} {vs : List Value} {d v : Value} {ix : Nat} (F : Arv Z h a ck .short z vs d) (hv : .int (nar .short x) = v) (hj : ¬ j < 0 ∧ j < z) (hjx : j.toNatClampNeg = ix) (hlen : ix < vs.length) (ha : n0 ≤ a) (hd : decode bs pc = .ok (.sastore, 1)) (hp : pc + 1 = pc') (q : ∀ T' h', Sd Z own bs mx ret n0 p l e R s m args below meth c T' h' k n → Wr h h' a ix v → Arv Z h' a ck .short z (vs.set ix v) d → Gl p e below P (T'.setTop (mkF m pc' L S))) : Gl p e below P (T.setTop (mkF m pc L (.int x :: .int j :: .ref a :: S))) := by
  obtain ⟨locs, X, eT, N, hn0, hx, hZ, hown, hby, hml, hrt, hlk⟩ := Y
  subst hp hv hjx
  obtain ⟨cl, A, C1, S1, N1, H, Gf⟩ := F
  obtain ⟨T', h', X', e', W, st⟩ := stS X hx hZ eT A (inb_of S1 hj) (g := mkF m pc L (.int x :: .int j :: .ref a :: S)) rfl rfl (hb hby hd)
  exact (q T' h' ⟨_, X', e', Fr.snoc X' N ha, hn0, hx, hZ, hown, hby, hml, hrt, hlk⟩ W (Arv.set A C1 S1 N1 H Gf (fits_nar_short _) W _ rfl hlen)).of1 st
theorem Gl.bastore (Y : Sd Z own bs mx ret n0 p l e R s m args below meth c T h k n) {a : Addr} {ck : ClassId} {z j : Int32} {x : Int32} {vs : List Value} {d v : Value} {ix : Nat} (F : Arv Z h a ck .byte z vs d) (hv : .int (nar .byte x) = v) (hj : ¬ j < 0 ∧ j < z) (hjx : j.toNatClampNeg = ix) (hlen : ix < vs.length) (ha : n0 ≤ a) (hd : decode bs pc = .ok (.bastore, 1)) (hp : pc + 1 = pc') (q : ∀ T' h', Sd Z own bs mx ret n0 p l e R s m args below meth c T' h' k n → Wr h h' a ix v → Arv Z h' a ck .byte z (vs.set ix v) d → Gl p e below P (T'.setTop (mkF m pc' L S))) : Gl p e below P (T.setTop (mkF m pc L (.int x :: .int j :: .ref a :: S))) := by
  obtain ⟨locs, X, eT, N, hn0, hx, hZ, hown, hby, hml, hrt, hlk⟩ := Y
  subst hp hv hjx
  obtain ⟨cl, A, C1, S1, N1, H, Gf⟩ := F
  obtain ⟨T', h', X', e', W, st⟩ := stB X hx hZ eT A (inb_of S1 hj) (g := mkF m pc L (.int x :: .int j :: .ref a :: S)) rfl rfl (hb hby hd)
  exact (q T' h' ⟨_, X', e', Fr.snoc X' N ha, hn0, hx, hZ, hown, hby, hml, hrt, hlk⟩ W (Arv.set A C1 S1 N1 H Gf (fits_nar_byte _) W _ rfl hlen)).of1 st
theorem Gl.initO (Y : Sd Z own bs mx ret n0 p l e R s m args below meth c T h k n) {i : Nat} {a : Addr} (w1 : (Jvm.Cond.methodLink own i Lib.objectInit).before a0 Z = true) (w2 : (Jvm.Cond.instanceMethod Lib.objectInit).before a0 Z = true) (w3 : (Jvm.Cond.code Lib.objectInit ⟨#[0xb1]⟩ 1 none).before a0 Z = true) (hL : L.size = mx) (hf : 1 ≤ R.frames) (hl : (S.map fun v => v.category).sum + 12 ≤ R.locals) (hd : decode bs pc = .ok (.invokespecial i, 3)) (hp : pc + 3 = pc') (q : ∀ T', Sd Z own bs mx ret n0 p l e R s m args below meth c T' h k n → Gl p e below P (T'.setTop (mkF m pc' L S))) : Gl p e below P (T.setTop (mkF m pc L (.ref a :: S))) := by
  obtain ⟨locs, X, eT, N, hn0, hx, hZ, hown, hby, hml, hrt, hlk⟩ := Y
  subst hp
  obtain ⟨T', X', e', st⟩ := Jvm.RoadKit.initO X hx hZ hown w1 w2 w3 eT (g := mkF m pc L (.ref a :: S)) rfl (by rw [hml]; exact hL) rfl (hb hby hd) hf (W := (S.map fun v => v.category).sum) (by show 2 * 0 + _ ≤ _; omega) hl
  exact (q T' ⟨locs, X', e', N, hn0, hx, hZ, hown, hby, hml, hrt, hlk⟩).of1 st
theorem Gl.castY (Y : Sd Z own bs mx ret n0 p l e R s m args below meth c T h k n) {i : Nat} {K : String} {a : Addr} (w : (Jvm.Cond.classLink own i K).before a0 Z = true) (F : Ins Z h a K true) (hd : decode bs pc = .ok (.checkcast i, 3)) (hp : pc + 3 = pc') (q : ∀ T', Sd Z own bs mx ret n0 p l e R s m args below meth c T' h k n → Gl p e below P (T'.setTop (mkF m pc' L (.ref a :: S)))) : Gl p e below P (T.setTop (mkF m pc L (.ref a :: S))) := by
  obtain ⟨locs, X, eT, N, hn0, hx, hZ, hown, hby, hml, hrt, hlk⟩ := Y
  subst hp
  obtain ⟨T', X', e', st⟩ := Jvm.RoadKit.castY X hx hZ hown w eT F (g := mkF m pc L (.ref a :: S)) rfl rfl (hb hby hd)
  exact (q T' ⟨locs, X', e', N, hn0, hx, hZ, hown, hby, hml, hrt, hlk⟩).of1 st
theorem Gl.instY (Y : Sd Z own bs mx ret n0 p l e R s m args below meth c T h k n) {i : Nat} {K : String} {a : Addr} (w : (Jvm.Cond.classLink own i K).before a0 Z = true) (F : Ins Z h a K true) (hd : decode bs pc = .ok (.instanceof i, 3)) (hp : pc + 3 = pc') (q : ∀ T', Sd Z own bs mx ret n0 p l e R s m args below meth c T' h k n → Gl p e below P (T'.setTop (mkF m pc' L (.int 1 :: S)))) : Gl p e below P (T.setTop (mkF m pc L (.ref a :: S))) := by
  obtain ⟨locs, X, eT, N, hn0, hx, hZ, hown, hby, hml, hrt, hlk⟩ := Y
  subst hp
  obtain ⟨T', X', e', st⟩ := Jvm.RoadKit.instY X hx hZ hown w eT F (g := mkF m pc L (.ref a :: S)) rfl rfl (hb hby hd)
  exact (q T' ⟨locs, X', e', N, hn0, hx, hZ, hown, hby, hml, hrt, hlk⟩).of1 st
theorem Gl.instNo (Y : Sd Z own bs mx ret n0 p l e R s m args below meth c T h k n) {i : Nat} {K C : String} {a : Addr} (w : (Jvm.Cond.classLink own i K).before a0 Z = true) (E : Exa Z h a C) (F : ∃ c t, Z.vm.findClass C = some c ∧ Z.vm.findClass K = some t ∧ Z.vm.assignable c t = false) (hd : decode bs pc = .ok (.instanceof i, 3)) (hp : pc + 3 = pc') (q : ∀ T', Sd Z own bs mx ret n0 p l e R s m args below meth c T' h k n → Gl p e below P (T'.setTop (mkF m pc' L (.int 0 :: S)))) : Gl p e below P (T.setTop (mkF m pc L (.ref a :: S))) := by
  obtain ⟨locs, X, eT, N, hn0, hx, hZ, hown, hby, hml, hrt, hlk⟩ := Y
  subst hp
  obtain ⟨T', X', e', st⟩ := Jvm.RoadKit.instNo X hx hZ hown w eT E F (g := mkF m pc L (.ref a :: S)) rfl rfl (hb hby hd)
  exact (q T' ⟨locs, X', e', N, hn0, hx, hZ, hown, hby, hml, hrt, hlk⟩).of1 st
theorem Gl.castNull (Y : Sd Z own bs mx ret n0 p l e R s m args below meth c T h k n) {i : Nat} (hd : decode bs pc = .ok (.checkcast i, 3)) (hp : pc + 3 = pc') (q : Gl p e below P (T.setTop (mkF m pc' L (.null :: S)))) : Gl p e below P (T.setTop (mkF m pc L (.null :: S))) := by
  obtain ⟨locs, X, eT, N, hn0, hx, hZ, hown, hby, hml, hrt, hlk⟩ := Y
  subst hp
  exact q.of1 fun t q => X.checkcastNull hx (g := mkF m pc L (.null :: S)) rfl rfl (hb hby hd) t q
theorem Gl.instNull (Y : Sd Z own bs mx ret n0 p l e R s m args below meth c T h k n) {i : Nat} (hd : decode bs pc = .ok (.instanceof i, 3)) (hp : pc + 3 = pc') (q : Gl p e below P (T.setTop (mkF m pc' L (.int 0 :: S)))) : Gl p e below P (T.setTop (mkF m pc L (.null :: S))) := by
  obtain ⟨locs, X, eT, N, hn0, hx, hZ, hown, hby, hml, hrt, hlk⟩ := Y
  subst hp
  exact q.of1 fun t q => X.instanceofNull hx (g := mkF m pc L (.null :: S)) rfl rfl (hb hby hd) t q
theorem Gl.newR (Y : Sd Z own bs mx ret n0 p l e R s m args below meth c T h k n) {i : Nat} {C : String} {z : Int32} (cap : Nat) (w1 : (Jvm.Cond.classLink own i C).before a0 Z = true) (w2 : (Jvm.Cond.arrayOver (.object C)).before a0 Z = true) (hz : ¬ z < 0) (hcap : z.toNatClampNeg ≤ cap) (hcb : cap * 8 ≤ 536870912) (hc : k + 1 ≤ R.cells) (hl : n + cap ≤ R.slots) (hd : decode bs pc = .ok (.anewarray i, 3)) (hp : pc + 3 = pc') (q : ∀ T' h' b ck, Sd Z own bs mx ret n0 p l e R s m args below meth c T' h' (k + 1) (n + cap) → Ext h h' → b = h.size → n0 ≤ b → Arv Z h' b ck (.object C) z [] .null → Gl p e below P (T'.setTop (mkF m pc' L (.ref b :: S)))) : Gl p e below P (T.setTop (mkF m pc L (.int z :: S))) := by
  obtain ⟨locs, X, eT, N, hn0, hx, hZ, hown, hby, hml, hrt, hlk⟩ := Y
  subst hp
  obtain ⟨T', h', ck, X', e', E, A, -, st⟩ := Jvm.RoadKit.newR X hx hZ hown w1 w2 eT (g := mkF m pc L (.int z :: S)) rfl (hb hby hd) rfl hz hcap hcb hc hl
  exact (q T' h' h.size ck ⟨locs, X', e', N, hn0, hx, hZ, hown, hby, hml, hrt, hlk⟩ E rfl (eT ▸ Nat.le_trans hn0 (own_grow X)) (Arv.new A hz)).of1 st
theorem Gl.callS (Y : Sd Z own bs mx ret n0 p l e R s m args below meth c T h k n) {y : MethodName} {bs2 : ByteArray} {mx2 : Nat} {ret2 : Option FieldType} {rm : Room} {as : Array Value} {Q : Option Value → Heap → Prop} {i : Nat} {argsL rest : List Value} (w1 : (Jvm.Cond.methodLink own i y).before a0 Z = true) (w2 : (Jvm.Cond.static y).before a0 Z = true) (w3 : (Jvm.Cond.initialized y.cls).before a0 Z = true) (w4 : (Jvm.Cond.code y bs2 mx2 ret2).before a0 Z = true) (hy : y.cls ≠ "java/lang/invoke/MethodHandle" ∧ y.cls ≠ "java/lang/invoke/VarHandle") (hM : OMet l Z [] y bs2 mx2 ret2 rm as h n0 Q) (has : argsL.toArray = as) (hS : S = argsL.reverse ++ rest) (hlen : ∀ sig, parseMethodDescriptor y.desc = some sig → argsL.length = sig.parameters.length) (hL : L.size = mx) (hf : rm.frames + 1 ≤ R.frames) (hl : (rest.map fun v => v.category).sum + (mx2 + 11) + rm.locals ≤ R.locals) (hc : k + rm.cells ≤ R.cells) (hs : n + rm.slots ≤ R.slots) (hd : decode bs pc = .ok (.invokestatic i, 3)) (hp : pc + 3 = pc') (q : ∀ v T' h', Sd Z own bs mx ret n0 p l e R s m args below meth c T' h' (k + rm.cells) (n + rm.slots) → Q v h' → Gl p e below P (T'.setTop (mkF m pc' L (v.toList ++ rest)))) : Gl p e below P (T.setTop (mkF m pc L S)) := by
  obtain ⟨locs, X, eT, N, hn0, hx, hZ, hown, hby, hml, hrt, hlk⟩ := Y
  subst hp has hS
  obtain ⟨v, vm₁, ⟨T', L', k', n'⟩, -, X', hB, st⟩ := Jvm.LawKit.callS X hx (y := y) hown (mvT hZ w1) (mvT hZ w2) (mvT hZ w3) (mvT hZ w4) hy (backOf (Q := fun v h' L => Q v h' ∧ Fr n0 L) (W := (rest.map fun v => v.category).sum) (OMet.un hM) hZ w4 w3 hf hl) (g := mkF m pc L (argsL.reverse ++ rest)) rfl (by rw [hml]; exact hL) (argsL := argsL) (rest := rest) hlen rfl (by show 2 * 0 + _ ≤ _; omega) (hb hby hd) (fun _ _ => ⟨rfl, eT, hc, hs⟩)
  obtain ⟨Lc, ⟨hQ, NL⟩, l1, l2, l3⟩ := hB
  dsimp only [Pt.U, Pt.locs, Pt.cells, Pt.slots] at X' l1 l2 l3 st hQ
  subst l1 l2 l3
  exact (q v T' T'.heap ⟨_, X', rfl, Fr.app N NL, hn0, hx, hZ, hown, hby, hml, hrt, hlk⟩ hQ).of1 st
theorem Gl.callN (Y : Sd Z own bs mx ret n0 p l e R s m args below meth c T h k n) {y : MethodName} {bs2 : ByteArray} {mx2 : Nat} {rm : Room} {as : Array Value} {Q : Option Value → Heap → Prop} {i : Nat} {argsL rest : List Value} {a : Addr} (hy1 : y.name = "<init>") (w1 : (Jvm.Cond.methodLink own i y).before a0 Z = true) (w2 : (Jvm.Cond.instanceMethod y).before a0 Z = true) (w3 : (Jvm.Cond.initialized y.cls).before a0 Z = true) (w4 : (Jvm.Cond.code y bs2 mx2 none).before a0 Z = true) (hy : y.cls ≠ "java/lang/invoke/MethodHandle" ∧ y.cls ≠ "java/lang/invoke/VarHandle") (hM : OMet l Z [] y bs2 mx2 none rm as h n0 Q) (has : (.ref a :: argsL).toArray = as) (hS : S = argsL.reverse ++ .ref a :: rest) (hlen : ∀ sig, parseMethodDescriptor y.desc = some sig → argsL.length = sig.parameters.length) (hL : L.size = mx) (hf : rm.frames + 1 ≤ R.frames) (hl : (rest.map fun v => v.category).sum + (mx2 + 11) + rm.locals ≤ R.locals) (hc : k + rm.cells ≤ R.cells) (hs : n + rm.slots ≤ R.slots) (hd : decode bs pc = .ok (.invokespecial i, 3)) (hp : pc + 3 = pc') (q : ∀ v T' h', Sd Z own bs mx ret n0 p l e R s m args below meth c T' h' (k + rm.cells) (n + rm.slots) → Q v h' → Gl p e below P (T'.setTop (mkF m pc' L (v.toList ++ rest)))) : Gl p e below P (T.setTop (mkF m pc L S)) := by
  obtain ⟨locs, X, eT, N, hn0, hx, hZ, hown, hby, hml, hrt, hlk⟩ := Y
  subst hp has hS
  obtain ⟨v, vm₁, ⟨T', L', k', n'⟩, -, X', hB, st⟩ := X.specialBack hx (y := y) hy1 hown (mvT hZ w1) (mvT hZ w2) (mvT hZ w4) hy (backOf (Q := fun v h' L => Q v h' ∧ Fr n0 L) (W := (rest.map fun v => v.category).sum) (OMet.un hM) hZ w4 w3 hf hl) (g := mkF m pc L (argsL.reverse ++ .ref a :: rest)) rfl (by rw [hml]; exact hL) (Steps.refl _) (a := a) (argsL := argsL) (rest := rest) hlen rfl (by show 2 * 0 + _ ≤ _; omega) (hb hby hd) (fun _ _ => ⟨rfl, eT, hc, hs⟩)
  obtain ⟨Lc, ⟨hQ, NL⟩, l1, l2, l3⟩ := hB
  dsimp only [Pt.U, Pt.locs, Pt.cells, Pt.slots] at X' l1 l2 l3 st hQ
  subst l1 l2 l3
  exact Gl.via st (q v T' T'.heap ⟨_, X', rfl, Fr.app N NL, hn0, hx, hZ, hown, hby, hml, hrt, hlk⟩ hQ)
theorem Gl.callV (Y : Sd Z own bs mx ret n0 p l e R s m args below meth c T h k n) {y : MethodName} {bs2 : ByteArray} {mx2 : Nat} {ret2 : Option FieldType} {rm : Room} {as : Array Value} {Q : Option Value → Heap → Prop} {i : Nat} {z : MethodName} {C : String} {argsL rest : List Value} {a : Addr} (w1 : (Jvm.Cond.methodLink own i z).before a0 Z = true) (wd : (Jvm.Cond.declares z).before a0 Z = true) (ws0 : (Jvm.Cond.selects z.cls z z).before a0 Z = true) (ws : (Jvm.Cond.selects C z y).before a0 Z = true) (w2 : (Jvm.Cond.instanceMethod y).before a0 Z = true) (w3 : (Jvm.Cond.initialized y.cls).before a0 Z = true) (w4 : (Jvm.Cond.code y bs2 mx2 ret2).before a0 Z = true) (hy : z.cls ≠ "java/lang/invoke/MethodHandle" ∧ z.cls ≠ "java/lang/invoke/VarHandle") (E : Exa Z h a C) (hM : OMet l Z [] y bs2 mx2 ret2 rm as h n0 Q) (has : (.ref a :: argsL).toArray = as) (hS : S = argsL.reverse ++ .ref a :: rest) (hlen : ∀ sig, parseMethodDescriptor z.desc = some sig → argsL.length = sig.parameters.length) (hL : L.size = mx) (hf : rm.frames + 1 ≤ R.frames) (hl : (rest.map fun v => v.category).sum + (mx2 + 11) + rm.locals ≤ R.locals) (hc : k + rm.cells ≤ R.cells) (hs : n + rm.slots ≤ R.slots) (hd : decode bs pc = .ok (.invokevirtual i, 3)) (hp : pc + 3 = pc') (q : ∀ v T' h', Sd Z own bs mx ret n0 p l e R s m args below meth c T' h' (k + rm.cells) (n + rm.slots) → Q v h' → Gl p e below P (T'.setTop (mkF m pc' L (v.toList ++ rest)))) : Gl p e below P (T.setTop (mkF m pc L S)) := by
  obtain ⟨locs, X, eT, N, hn0, hx, hZ, hown, hby, hml, hrt, hlk⟩ := Y
  subst hp has hS
  obtain ⟨cq, kq, qa, qb, qc⟩ := isOf hZ eT E
  obtain ⟨v, vm₁, ⟨T', L', k', n'⟩, -, X', hB, st⟩ := X.virtualBack hx (y := z) (z := y) hown (mvT hZ w1) (mvT hZ wd) (notFace_of_selects (args := #[]) (mvT hZ ws0)) (mvT hZ ws) (mvT hZ w2) hy (backOf (Q := fun v h' L => Q v h' ∧ Fr n0 L) (W := (rest.map fun v => v.category).sum) (OMet.un hM) hZ w4 w3 hf hl) qa qc (g := mkF m pc L (argsL.reverse ++ .ref a :: rest)) rfl (by rw [hml]; exact hL) (Steps.refl _) (argsL := argsL) (rest := rest) hlen rfl (by show 2 * 0 + _ ≤ _; omega) (hb hby hd) (fun _ _ => ⟨rfl, eT, hc, hs⟩)
  obtain ⟨Lc, ⟨hQ, NL⟩, l1, l2, l3⟩ := hB
  dsimp only [Pt.U, Pt.locs, Pt.cells, Pt.slots] at X' l1 l2 l3 st hQ
  subst l1 l2 l3
  exact Gl.via st (q v T' T'.heap ⟨_, X', rfl, Fr.app N NL, hn0, hx, hZ, hown, hby, hml, hrt, hlk⟩ hQ)
theorem Gl.callP (Y : Sd Z own bs mx ret n0 p l e R s m args below meth c T h k n) {y : MethodName} {bs2 : ByteArray} {mx2 : Nat} {ret2 : Option FieldType} {rm : Room} {as : Array Value} {Q : Option Value → Heap → Prop} {i : Nat} {C : String} {kk : Nat} {argsL rest : List Value} {a : Addr} (w1 : (Jvm.Cond.methodLink own i y).before a0 Z = true) (w2 : (Jvm.Cond.instanceMethod y).before a0 Z = true) (wp : (Jvm.Cond.privateMethod y).before a0 Z = true) (wi : (Jvm.Cond.instantiable y.cls kk).before a0 Z = true) (w3 : (Jvm.Cond.initialized y.cls).before a0 Z = true) (w4 : (Jvm.Cond.code y bs2 mx2 ret2).before a0 Z = true) (hy : y.cls ≠ "java/lang/invoke/MethodHandle" ∧ y.cls ≠ "java/lang/invoke/VarHandle") (E : Exa Z h a C) (hM : OMet l Z [] y bs2 mx2 ret2 rm as h n0 Q) (has : (.ref a :: argsL).toArray = as) (hS : S = argsL.reverse ++ .ref a :: rest) (hlen : ∀ sig, parseMethodDescriptor y.desc = some sig → argsL.length = sig.parameters.length) (hL : L.size = mx) (hf : rm.frames + 1 ≤ R.frames) (hl : (rest.map fun v => v.category).sum + (mx2 + 11) + rm.locals ≤ R.locals) (hc : k + rm.cells ≤ R.cells) (hs : n + rm.slots ≤ R.slots) (hd : decode bs pc = .ok (.invokevirtual i, 3)) (hp : pc + 3 = pc') (q : ∀ v T' h', Sd Z own bs mx ret n0 p l e R s m args below meth c T' h' (k + rm.cells) (n + rm.slots) → Q v h' → Gl p e below P (T'.setTop (mkF m pc' L (v.toList ++ rest)))) : Gl p e below P (T.setTop (mkF m pc L S)) := by
  obtain ⟨locs, X, eT, N, hn0, hx, hZ, hown, hby, hml, hrt, hlk⟩ := Y
  subst hp has hS
  obtain ⟨cq, qa, qb⟩ := E.cell
  have hpr := Cond.privateMethod_at (mvP hZ wp (args := #[]))
  obtain ⟨c1, k1, i1, i2, -, i4, -⟩ := Cond.instantiable_spec (mv (args := args) hZ wi)
  have i5 : k1.isInterface = false := by cases hi : k1.isInterface <;> simp [hi] at i4 ⊢
  have hsel := selects_self_of_private (args := args) i1 i2 i5 hpr (mvT hZ w2) hy
  obtain ⟨v, vm₁, ⟨T', L', k', n'⟩, -, X', hB, st⟩ := X.privateBack hx (y := y) hown (mvT hZ w1) (mvT hZ w2) hsel hpr (mvT hZ w4) hy (backOf (Q := fun v h' L => Q v h' ∧ Fr n0 L) (W := (rest.map fun v => v.category).sum) (OMet.un hM) hZ w4 w3 hf hl) (g := mkF m pc L (argsL.reverse ++ .ref a :: rest)) rfl (by rw [hml]; exact hL) (Steps.refl _) (a := a) (by rw [eT]; exact qa) qb (argsL := argsL) (rest := rest) hlen rfl (by show 2 * 0 + _ ≤ _; omega) (hb hby hd) (fun _ _ => ⟨rfl, eT, hc, hs⟩)
  obtain ⟨Lc, ⟨hQ, NL⟩, l1, l2, l3⟩ := hB
  dsimp only [Pt.U, Pt.locs, Pt.cells, Pt.slots] at X' l1 l2 l3 st hQ
  subst l1 l2 l3
  exact Gl.via st (q v T' T'.heap ⟨_, X', rfl, Fr.app N NL, hn0, hx, hZ, hown, hby, hml, hrt, hlk⟩ hQ)
theorem Gl.callNN (Y : Sd Z own bs mx ret n0 p l e R s m args below meth c T h k n) {y : MethodName} {bs2 : ByteArray} {mx2 : Nat} {rm : Room} {as : Array Value} {Q : Option Value → Heap → Prop} {i : Nat} {argsL rest : List Value} {host : String} {a : Addr} (hy1 : y.name = "<init>") (w1 : (Jvm.Cond.methodLinkNest own i y host).before a0 Z = true) (w2 : (Jvm.Cond.instanceMethod y).before a0 Z = true) (w3 : (Jvm.Cond.initialized y.cls).before a0 Z = true) (w4 : (Jvm.Cond.code y bs2 mx2 none).before a0 Z = true) (hy : y.cls ≠ "java/lang/invoke/MethodHandle" ∧ y.cls ≠ "java/lang/invoke/VarHandle") (hM : OMet l Z [] y bs2 mx2 none rm as h n0 Q) (has : (.ref a :: argsL).toArray = as) (hS : S = argsL.reverse ++ .ref a :: rest) (hlen : ∀ sig, parseMethodDescriptor y.desc = some sig → argsL.length = sig.parameters.length) (hL : L.size = mx) (hf : rm.frames + 1 ≤ R.frames) (hl : (rest.map fun v => v.category).sum + (mx2 + 11) + rm.locals ≤ R.locals) (hc : k + rm.cells ≤ R.cells) (hs : n + rm.slots ≤ R.slots) (hd : decode bs pc = .ok (.invokespecial i, 3)) (hp : pc + 3 = pc') (q : ∀ v T' h', Sd Z own bs mx ret n0 p l e R s m args below meth c T' h' (k + rm.cells) (n + rm.slots) → Q v h' → Gl p e below P (T'.setTop (mkF m pc' L (v.toList ++ rest)))) : Gl p e below P (T.setTop (mkF m pc L S)) := by
  obtain ⟨locs, X, eT, N, hn0, hx, hZ, hown, hby, hml, hrt, hlk⟩ := Y
  subst hp has hS
  obtain ⟨v, vm₁, ⟨T', L', k', n'⟩, -, X', hB, st⟩ := X.specialBackNest hx (y := y) hy1 hown (Cond.methodLinkNest_wide hZ w1 :) (mvT hZ w2) (mvT hZ w4) hy (backOf (Q := fun v h' L => Q v h' ∧ Fr n0 L) (W := (rest.map fun v => v.category).sum) (OMet.un hM) hZ w4 w3 hf hl) (g := mkF m pc L (argsL.reverse ++ .ref a :: rest)) rfl (by rw [hml]; exact hL) (Steps.refl _) (a := a) (argsL := argsL) (rest := rest) hlen rfl (by show 2 * 0 + _ ≤ _; omega) (hb hby hd) (fun _ _ => ⟨rfl, eT, hc, hs⟩)
  obtain ⟨Lc, ⟨hQ, NL⟩, l1, l2, l3⟩ := hB
  dsimp only [Pt.U, Pt.locs, Pt.cells, Pt.slots] at X' l1 l2 l3 st hQ
  subst l1 l2 l3
  exact Gl.via st (q v T' T'.heap ⟨_, X', rfl, Fr.app N NL, hn0, hx, hZ, hown, hby, hml, hrt, hlk⟩ hQ)
theorem Gl.callVU (Y : Sd Z own bs mx ret n0 p l e R s m args below meth c T h k n) {y : MethodName} {bs2 : ByteArray} {mx2 : Nat} {ret2 : Option FieldType} {rm : Room} {as : Array Value} {Q : Option Value → Heap → Prop} {i : Nat} {owner : String} {z : MethodName} {C : String} {argsL rest : List Value} {a : Addr} (w1 : (Jvm.Cond.methodLink own i z).before a0 Z = true) (w0 : (Jvm.Cond.sameMethod z.cls owner z.name z.desc).before a0 Z = true) (wd : (Jvm.Cond.declares ⟨owner, z.name, z.desc⟩).before a0 Z = true) (ws : (Jvm.Cond.selects C z y).before a0 Z = true) (w2 : (Jvm.Cond.instanceMethod y).before a0 Z = true) (w3 : (Jvm.Cond.initialized y.cls).before a0 Z = true) (w4 : (Jvm.Cond.code y bs2 mx2 ret2).before a0 Z = true) (hy : owner ≠ "java/lang/invoke/MethodHandle" ∧ owner ≠ "java/lang/invoke/VarHandle") (E : Exa Z h a C) (hM : OMet l Z [] y bs2 mx2 ret2 rm as h n0 Q) (has : (.ref a :: argsL).toArray = as) (hS : S = argsL.reverse ++ .ref a :: rest) (hlen : ∀ sig, parseMethodDescriptor z.desc = some sig → argsL.length = sig.parameters.length) (hL : L.size = mx) (hf : rm.frames + 1 ≤ R.frames) (hl : (rest.map fun v => v.category).sum + (mx2 + 11) + rm.locals ≤ R.locals) (hc : k + rm.cells ≤ R.cells) (hs : n + rm.slots ≤ R.slots) (hd : decode bs pc = .ok (.invokevirtual i, 3)) (hp : pc + 3 = pc') (q : ∀ v T' h', Sd Z own bs mx ret n0 p l e R s m args below meth c T' h' (k + rm.cells) (n + rm.slots) → Q v h' → Gl p e below P (T'.setTop (mkF m pc' L (v.toList ++ rest)))) : Gl p e below P (T.setTop (mkF m pc L S)) := by
  obtain ⟨locs, X, eT, N, hn0, hx, hZ, hown, hby, hml, hrt, hlk⟩ := Y
  subst hp has hS
  obtain ⟨cq, kq, qa, qb, qc⟩ := isOf hZ eT E
  obtain ⟨v, vm₁, ⟨T', L', k', n'⟩, -, X', hB, st⟩ := X.virtualBackUp hx (x := z) (y := y) hown (mvT hZ w1) (mvT hZ w0) (mvT hZ wd) hy (mvT hZ ws) (mvT hZ w2) (backOf (Q := fun v h' L => Q v h' ∧ Fr n0 L) (W := (rest.map fun v => v.category).sum) (OMet.un hM) hZ w4 w3 hf hl) qa qc (g := mkF m pc L (argsL.reverse ++ .ref a :: rest)) rfl (by rw [hml]; exact hL) (Steps.refl _) (argsL := argsL) (rest := rest) hlen rfl (by show 2 * 0 + _ ≤ _; omega) (hb hby hd) (fun _ _ => ⟨rfl, eT, hc, hs⟩)
  obtain ⟨Lc, ⟨hQ, NL⟩, l1, l2, l3⟩ := hB
  dsimp only [Pt.U, Pt.locs, Pt.cells, Pt.slots] at X' l1 l2 l3 st hQ
  subst l1 l2 l3
  exact Gl.via st (q v T' T'.heap ⟨_, X', rfl, Fr.app N NL, hn0, hx, hZ, hown, hby, hml, hrt, hlk⟩ hQ)
theorem Gl.fin (Y : Sd Z own bs mx ret n0 p l e R s m args below meth c T h k n) {K M : Nat} {Q : Option Value → Heap → Prop} (hk : k ≤ K) (hm : n ≤ M) {g : JFrame} {v : Option Value} (hv : ret = none → v = none) (st : ∀ fs, (∀ (f : JFrame) (acts : List Action), f.method = m → f.locked = none → f.entered = [] → (doReturn e (T.setTop f) acts v).1 = T.setFrames fs) → Steps p.tables e below (T.setTop g) (T.setFrames fs)) (hQ : Q v h) : Gl p e below (Pst s n0 K M Q) (T.setTop g) := by
  obtain ⟨locs, X, eT, N, hn0, hx, hZ, hown, hby, hml, hrt, hlk⟩ := Y
  obtain ⟨fs, hr, hrun, hended, hW, hsame⟩ := X.leave (v := v) (fun q => hv (hrt.symm.trans q)) hlk
  exact ⟨_, _, st fs hr, hrun, hended, v, locs, rfl, ⟨by show Q v T.heap; rw [eT]; exact hQ, N⟩, ⟨_, rfl⟩, hW, hsame.mono hk hm⟩
theorem Gl.retV (Y : Sd Z own bs mx none n0 p l e R s m args below meth c T h k n) {K M : Nat} {Q : Option Value → Heap → Prop} (hk : k ≤ K) (hm : n ≤ M)  (hd : decode bs pc = .ok (.return_, 1)) (hQ : Q none h) : Gl p e below (Pst s n0 K M Q) (T.setTop (mkF m pc L [])) := by
  have Y0 := Y
  obtain ⟨locs, X, eT, N, hn0, hx, hZ, hown, hby, hml, hrt, hlk⟩ := Y
  exact Gl.fin Y0 hk hm (v := none) (fun q => by first | rfl | cases q) (fun fs hr => X.returnOut hx hrt (hb hby hd) hr) hQ
theorem Gl.retI (Y : Sd Z own bs mx (some .int) n0 p l e R s m args below meth c T h k n) {K M : Nat} {Q : Option Value → Heap → Prop} (hk : k ≤ K) (hm : n ≤ M) {x : Int32} (hd : decode bs pc = .ok (.ireturn, 1)) (hQ : Q (some (.int x)) h) : Gl p e below (Pst s n0 K M Q) (T.setTop (mkF m pc L (.int x :: S))) := by
  have Y0 := Y
  obtain ⟨locs, X, eT, N, hn0, hx, hZ, hown, hby, hml, hrt, hlk⟩ := Y
  exact Gl.fin Y0 hk hm (v := (some (.int x))) (fun q => by first | rfl | cases q) (fun fs hr => retOut X hx hrt rfl (Or.inl ⟨rfl, Or.inl rfl, x, rfl⟩) (hb hby hd) hr) hQ
theorem Gl.retJ (Y : Sd Z own bs mx (some .long) n0 p l e R s m args below meth c T h k n) {K M : Nat} {Q : Option Value → Heap → Prop} (hk : k ≤ K) (hm : n ≤ M) {x : Int64} (hd : decode bs pc = .ok (.lreturn, 1)) (hQ : Q (some (.long x)) h) : Gl p e below (Pst s n0 K M Q) (T.setTop (mkF m pc L (.long x :: S))) := by
  have Y0 := Y
  obtain ⟨locs, X, eT, N, hn0, hx, hZ, hown, hby, hml, hrt, hlk⟩ := Y
  exact Gl.fin Y0 hk hm (v := (some (.long x))) (fun q => by first | rfl | cases q) (fun fs hr => retOut X hx hrt rfl (Or.inr (Or.inl ⟨rfl, rfl, x, rfl⟩)) (hb hby hd) hr) hQ
theorem Gl.retA (Y : Sd Z own bs mx (some t) n0 p l e R s m args below meth c T h k n) {K M : Nat} {Q : Option Value → Heap → Prop} (hk : k ≤ K) (hm : n ≤ M) {x : Value} (ht : t.isReference = true) (hxr : x.isRef = true) (hd : decode bs pc = .ok (.areturn, 1)) (hQ : Q (some x) h) : Gl p e below (Pst s n0 K M Q) (T.setTop (mkF m pc L (x :: S))) := by
  have Y0 := Y
  obtain ⟨locs, X, eT, N, hn0, hx, hZ, hown, hby, hml, hrt, hlk⟩ := Y
  exact Gl.fin Y0 hk hm (v := (some x)) (fun q => by first | rfl | cases q) (fun fs hr => retOut X hx hrt (own_narR hxr) (Or.inr (Or.inr (Or.inr (Or.inr ⟨rfl, ht, hxr⟩)))) (hb hby hd) hr) hQ
theorem Gl.retZ (Y : Sd Z own bs mx (some .boolean) n0 p l e R s m args below meth c T h k n) {K M : Nat} {Q : Option Value → Heap → Prop} (hk : k ≤ K) (hm : n ≤ M) {x x' : Int32} (hxn : nar .boolean x = x') (hd : decode bs pc = .ok (.ireturn, 1)) (hQ : Q (some (.int x')) h) : Gl p e below (Pst s n0 K M Q) (T.setTop (mkF m pc L (.int x :: S))) := by
  have Y0 := Y
  obtain ⟨locs, X, eT, N, hn0, hx, hZ, hown, hby, hml, hrt, hlk⟩ := Y
  exact Gl.fin Y0 hk hm (v := (some (.int x'))) (fun q => by first | rfl | cases q) (fun fs hr => retN X hx (t := .boolean) hrt (by simp) (hb hby hd) (by rw [hxn]; exact hr)) hQ
theorem Gl.retB (Y : Sd Z own bs mx (some .byte) n0 p l e R s m args below meth c T h k n) {K M : Nat} {Q : Option Value → Heap → Prop} (hk : k ≤ K) (hm : n ≤ M) {x x' : Int32} (hxn : nar .byte x = x') (hd : decode bs pc = .ok (.ireturn, 1)) (hQ : Q (some (.int x')) h) : Gl p e below (Pst s n0 K M Q) (T.setTop (mkF m pc L (.int x :: S))) := by
  have Y0 := Y
  obtain ⟨locs, X, eT, N, hn0, hx, hZ, hown, hby, hml, hrt, hlk⟩ := Y
  exact Gl.fin Y0 hk hm (v := (some (.int x'))) (fun q => by first | rfl | cases q) (fun fs hr => retN X hx (t := .byte) hrt (by simp) (hb hby hd) (by rw [hxn]; exact hr)) hQ
theorem Gl.retC (Y : Sd Z own bs mx (some .char) n0 p l e R s m args below meth c T h k n) {K M : Nat} {Q : Option Value → Heap → Prop} (hk : k ≤ K) (hm : n ≤ M) {x x' : Int32} (hxn : nar .char x = x') (hd : decode bs pc = .ok (.ireturn, 1)) (hQ : Q (some (.int x')) h) : Gl p e below (Pst s n0 K M Q) (T.setTop (mkF m pc L (.int x :: S))) := by
  have Y0 := Y
  obtain ⟨locs, X, eT, N, hn0, hx, hZ, hown, hby, hml, hrt, hlk⟩ := Y
  exact Gl.fin Y0 hk hm (v := (some (.int x'))) (fun q => by first | rfl | cases q) (fun fs hr => retN X hx (t := .char) hrt (by simp) (hb hby hd) (by rw [hxn]; exact hr)) hQ
theorem Gl.retSh (Y : Sd Z own bs mx (some .short) n0 p l e R s m args below meth c T h k n) {K M : Nat} {Q : Option Value → Heap → Prop} (hk : k ≤ K) (hm : n ≤ M) {x x' : Int32} (hxn : nar .short x = x') (hd : decode bs pc = .ok (.ireturn, 1)) (hQ : Q (some (.int x')) h) : Gl p e below (Pst s n0 K M Q) (T.setTop (mkF m pc L (.int x :: S))) := by
  have Y0 := Y
  obtain ⟨locs, X, eT, N, hn0, hx, hZ, hown, hby, hml, hrt, hlk⟩ := Y
  exact Gl.fin Y0 hk hm (v := (some (.int x'))) (fun q => by first | rfl | cases q) (fun fs hr => retN X hx (t := .short) hrt (by simp) (hb hby hd) (by rw [hxn]; exact hr)) hQ
end Kit
end Jvm.OwnWk

namespace Jvm.Pilot.@@N@@
open Jvm Jvm.ClassFile Sem Op Lib Jvm.Free Jvm.Stand Jvm.LawKit Jvm.RoadKit Bundle Jvm.OwnWk Jvm.Pilot.@@N@@.Jvm.D
def own_cache (C : String) (Z : State) (h : Heap) (ca : Addr) : Prop := ∃ cl : Cell, Arr Z h ca cl (.object C) ∧ ∀ j : Int32, ¬ j < 0 → j < 256 → ¬ (j < 0 ∨ cl.slots.size ≤ j.toNatClampNeg) ∧ ∃ b, cl.slots[j.toNatClampNeg]? = some (.ref b) ∧ Exa Z h b C
theorem own_cache_ext {C : String} {Z : State} {h h' : Heap} {ca : Addr} (E : Ext h h') (F : own_cache C Z h ca) : own_cache C Z h' ca := by
  obtain ⟨cl, A, q⟩ := F
  refine ⟨cl, A.ext E, fun j h1 h2 => ?_⟩
  obtain ⟨r1, b, r2, r3⟩ := q j h1 h2
  exact ⟨r1, b, r2, Exa.ext E r3⟩
theorem own_cache_start {args : Array Value} {Z : State} {C CC nm d : String} {X : Jvm.Cond} {ca : Addr} (ev : (Term.static CC nm d).eval args Z none [] Z = some (.ref ca))
    (harr : (Jvm.Cond.arrayOf (.static CC nm d) (.object C)).value args Z none Z [] = some true) (hlen : (Jvm.Cond.eq (.length (.static CC nm d)) (.int 256)).value args Z none Z [] = some true)
    (hall : (Jvm.Cond.all (.static CC nm d) (.and (.exactly (.elem (.static CC nm d) (.index 0)) C) X)).value args Z none Z [] = some true) : own_cache C Z Z.heap ca := by
  obtain ⟨cl, A⟩ := Arr.start ev harr
  have hat : Z.arrayAt? ca = some cl := A.fin (Vm.Alike.refl _)
  have hsz : 256 ≤ cl.slots.size := by
    obtain ⟨x, cl', e1, e2, e4⟩ := Term.length_spec (own_eqI hlen)
    cases ev.symm.trans e1
    cases hat.symm.trans e2
    have q := congrArg Int32.toInt (Value.int.inj e4)
    have : Int32.toInt 256 = 256 := by decide
    refine Nat.le_of_not_lt fun lt => ?_
    rw [len_toInt (by omega)] at q
    omega
  refine ⟨cl, A, fun j h1 h2 => ?_⟩
  have hj : j.toNatClampNeg < cl.slots.size := by
    have q := nat_of h1
    have r := Int32.lt_iff_toInt_lt.mp h2
    have : Int32.toInt 256 = 256 := by decide
    omega
  have hn : ¬ (j < 0 ∨ cl.slots.size ≤ j.toNatClampNeg) := fun q => q.elim h1 (fun r => absurd hj (Nat.not_lt.mpr r))
  have ha := (and_e (Cond.all_elim ev hat hall _ hj)).1
  obtain ⟨b, eb⟩ := exa_v ha
  obtain ⟨cl', q1, -, q3⟩ := elem_at eb (show (Term.static CC nm d).eval args Z none [j.toNatClampNeg] Z = some (.ref ca) from ev) (idx_at h1)
  cases A.1.symm.trans q1
  exact ⟨hn, b, q3, exa_at eb ha⟩
theorem own_aaload {Z : State} {own : String} {bs : ByteArray} {mx : Nat} {ret : Option FieldType} {n0 : Nat} {p : Program} {l : Launch} {e : Env} {R : Room} {s : State} {m : MethodId} {args : Array Value} {below : List Frame} {meth : Method} {c : Code} {T : State} {h : Heap} {k n : Nat} {P : Outcome → State → Prop} {L : Array Slot} {S : List Value} {pc pc' : Nat} {C : String} {ca : Addr} {j : Int32}
    (Y : Sd Z own bs mx ret n0 p l e R s m args below meth c T h k n) (F : own_cache C Z h ca) (h1 : ¬ j < 0) (h2 : j < 256) (hd : decode bs pc = .ok (.aaload, 1)) (hp : pc + 1 = pc') (q : ∀ b, Exa Z h b C → Gl p e below P (T.setTop (mkF m pc' L (.ref b :: S)))) : Gl p e below P (T.setTop (mkF m pc L (.int j :: .ref ca :: S))) := by
  obtain ⟨locs, X, eT, N, hn0, hx, hZ, hown, hby, hml, hrt, hlk⟩ := Y
  subst hp
  obtain ⟨cl, A, r⟩ := F
  obtain ⟨r1, b, r2, r3⟩ := r j h1 h2
  exact (q b r3).of1 fun t q => X.aaload hx (ty := .object C) (by rw [eT]; exact A.1) (State.isArrayOf_alike hZ.alike A.2.1) rfl A.2.2 r1 r2 (g := mkF m pc L (.int j :: .ref ca :: S)) rfl rfl (hb hby hd) t q
theorem own_ns_root {Z : State} {a0 : Array Value} {O K : String} {n : Nat} (w : (Jvm.Cond.noSuperclass O).before a0 Z = true) (wk : (Jvm.Cond.instantiable K n).before a0 Z = true) (hn : O ≠ K) : NS Z O K := by
  obtain ⟨c, k, h1, h2, h3, -, -⟩ := Cond.noSuperclass_spec w
  obtain ⟨t, kt, g1, -⟩ := Cond.instantiable_spec wk
  have ne := ids_ne h1 g1 hn
  refine ⟨c, t, h1, g1, fun fuel => ?_⟩
  cases fuel with
  | zero => rfl
  | succ f => simp [Vm.isSubclassAux, ne, h2, h3]
theorem own_ns_no {Z : State} {a0 : Array Value} {C S K : String} {n : Nat} (w : (Jvm.Cond.superclass C S).before a0 Z = true) (wk : (Jvm.Cond.instantiable K n).before a0 Z = true) (ns : NS Z C K) (hn : C ≠ K) : ∃ c t, Z.vm.findClass C = some c ∧ Z.vm.findClass K = some t ∧ Z.vm.assignable c t = false := by
  obtain ⟨c, t, h0, g0, n3⟩ := ns
  obtain ⟨p, k, kp, h1, h2, h3, h4, h5, -, h7⟩ := Cond.superclass_spec h0 w
  obtain ⟨q, k', g1, g2, g3, g4, -⟩ := Cond.instantiable_spec wk
  cases g0.symm.trans g1
  have g5 : k'.isInterface = false := by cases hi : k'.isInterface <;> simp [hi] at g4 ⊢
  have ne := ids_ne h0 g0 hn
  refine ⟨c, t, h0, g0, ?_⟩
  show Z.vm.assignableAux (255 + 1) c t = false
  simp [Vm.assignableAux, ne, h2, g2, h5, g3, g5, Vm.isSubclass, n3]
theorem d_jdk_18_method_1_0 : decode jdk_18_method_1_code 0 = .ok (.aload_n 0, 1) := by decide +kernel
theorem d_jdk_18_method_1_1 : decode jdk_18_method_1_code 1 = .ok (.invokespecial 1, 3) := by decide +kernel
theorem tw_73 {a0 : Array Value} {Z : State} (hw : ∀ d ∈ tables_1, d.before a0 Z = true) : (Jvm.Cond.methodLink "java/lang/Number" (1 : Nat) ({ cls := "java/lang/Object", name := "<init>", desc := "()V" } : Jvm.MethodName)).before a0 Z = true := hw _ (List.mem_of_getElem? (i := 73) rfl)
theorem tw_24 {a0 : Array Value} {Z : State} (hw : ∀ d ∈ tables_1, d.before a0 Z = true) : (Jvm.Cond.instanceMethod ({ cls := "java/lang/Object", name := "<init>", desc := "()V" } : Jvm.MethodName)).before a0 Z = true := hw _ (List.mem_of_getElem? (i := 24) rfl)
theorem tw_25 {a0 : Array Value} {Z : State} (hw : ∀ d ∈ tables_1, d.before a0 Z = true) : (Jvm.Cond.code ({ cls := "java/lang/Object", name := "<init>", desc := "()V" } : Jvm.MethodName) object_method_1_code (1 : Nat) (Option.none : Option Jvm.ClassFile.FieldType)).before a0 Z = true := hw _ (List.mem_of_getElem? (i := 25) rfl)
theorem d_jdk_18_method_1_4 : decode jdk_18_method_1_code 4 = .ok (.return_, 1) := by decide +kernel
def R0 : Room := { frames := 1, cells := 0, slots := 0, locals := 12 }
def Q0 (Z : State) (a : Addr) (h0 : Heap) (v : Option Value) (h : Heap) : Prop := v = none ∧ h0 = h
theorem ef0 (a : Addr) (m : MethodId) : entryFrame m #[(.ref a)] 1 = mkF m 0 #[.val (.ref a)] [] := by first | (simp [entryFrame, mkF, argsToLocals, Value.category]; done) | rfl
theorem pn_0 : plainName "java/lang/Number" = true := by first | (simp [plainName, overriddenIn]; done) | decide +kernel
set_option maxRecDepth 65536 in
set_option maxHeartbeats 40000000 in
theorem rm0 (l : Launch) (Z : State) (a0 : Array Value) (hw : ∀ d ∈ tables_1, d.before a0 Z = true) (ws : List Jvm.Cond) (a : Addr) (h0 : Heap) (n0 : Nat) (Z0 : n0 ≤ h0.size) : OMet l Z ws (⟨"java/lang/Number", "<init>", "()V"⟩ : MethodName) jdk_18_method_1_code 1 none R0 #[(.ref a)] h0 n0 (Q0 Z a h0) := by
  refine OMet.of (plainFor_of_name pn_0) (ef0 a) Z0 ?_
  intro p e s m below meth c T0 Y0 hnm
  have Y0 : Sd Z "java/lang/Number" jdk_18_method_1_code 1 none n0 p l e R0 s m #[(.ref a)] below meth c T0 h0 0 0 := Y0
  refine Gl.aloadN Y0 rfl rfl d_jdk_18_method_1_0 rfl ?_
  refine Gl.initO Y0 (tw_73 hw) (tw_24 hw) (tw_25 hw) rfl (by decide) (Nat.le_of_ble_eq_true rfl) d_jdk_18_method_1_1 rfl (fun T1 Y1 => ?_)
  exact Gl.retV Y1 (by decide) (by decide)  d_jdk_18_method_1_4 ⟨rfl, rfl⟩
theorem d_jdk_29_method_65_0 : decode jdk_29_method_65_code 0 = .ok (.iload_n 0, 1) := by decide +kernel
theorem d_jdk_29_method_65_1 : decode jdk_29_method_65_code 1 = .ok (.iload_n 1, 1) := by decide +kernel
theorem d_jdk_29_method_65_2 : decode jdk_29_method_65_code 2 = .ok (.if_icmp .lt 7, 3) := by decide +kernel
theorem d_jdk_29_method_65_9 : decode jdk_29_method_65_code 9 = .ok (.iload_n 1, 1) := by decide +kernel
theorem d_jdk_29_method_65_10 : decode jdk_29_method_65_code 10 = .ok (.ireturn, 1) := by decide +kernel
theorem d_jdk_29_method_65_5 : decode jdk_29_method_65_code 5 = .ok (.iload_n 0, 1) := by decide +kernel
theorem d_jdk_29_method_65_6 : decode jdk_29_method_65_code 6 = .ok (.goto 4, 3) := by decide +kernel
def R1 : Room := { frames := 0, cells := 0, slots := 0, locals := 0 }
def Q1 (Z : State) (i1 : Int32) (i2 : Int32) (h0 : Heap) (v : Option Value) (h : Heap) : Prop := ∃ r : Int32, v = some (.int r) ∧ ((i1.toInt < i2.toInt ∧ r.toInt = i2.toInt) ∨ (¬ i1.toInt < i2.toInt ∧ r.toInt = i1.toInt)) ∧ h0 = h
theorem ef1 (i1 : Int32) (i2 : Int32) (m : MethodId) : entryFrame m #[(.int i1), (.int i2)] 2 = mkF m 0 #[.val (.int i1), .val (.int i2)] [] := by first | (simp [entryFrame, mkF, argsToLocals, Value.category]; done) | rfl
set_option maxRecDepth 65536 in
set_option maxHeartbeats 40000000 in
theorem rm1 (l : Launch) (Z : State) (a0 : Array Value) (hw : ∀ d ∈ tables_1, d.before a0 Z = true) (ws : List Jvm.Cond) (i1 : Int32) (i2 : Int32) (h0 : Heap) (n0 : Nat) (Z0 : n0 ≤ h0.size) : OMet l Z ws (⟨"java/lang/Math", "max", "(II)I"⟩ : MethodName) jdk_29_method_65_code 2 (some .int) R1 #[(.int i1), (.int i2)] h0 n0 (Q1 Z i1 i2 h0) := by
  refine OMet.of (Jvm.Free.JP.mathPlain rfl (by decide +kernel)) (ef1 i1 i2) Z0 ?_
  intro p e s m below meth c T0 Y0 hnm
  have Y0 : Sd Z "java/lang/Math" jdk_29_method_65_code 2 (some .int) n0 p l e R1 s m #[(.int i1), (.int i2)] below meth c T0 h0 0 0 := Y0
  have ni1 := rng32 i1
  have ni2 := rng32 i2
  refine Gl.iloadN Y0 rfl d_jdk_29_method_65_0 rfl ?_
  refine Gl.iloadN Y0 rfl d_jdk_29_method_65_1 rfl ?_
  refine Gl.icmplt Y0 d_jdk_29_method_65_2 (by decide) rfl rfl (fun c2 => ?_) (fun c2 => ?_)
  · have j2 : i1.toInt < i2.toInt := Int32.lt_iff_toInt_lt.mp c2
    refine Gl.iloadN Y0 rfl d_jdk_29_method_65_9 rfl ?_
    exact Gl.retI Y0 (by decide) (by decide)  d_jdk_29_method_65_10 ⟨i2, rfl, (by omega), rfl⟩
  · have j2 : ¬ (i1.toInt < i2.toInt) := fun q => c2 (Int32.lt_iff_toInt_lt.mpr q)
    refine Gl.iloadN Y0 rfl d_jdk_29_method_65_5 rfl ?_
    refine Gl.goto Y0 d_jdk_29_method_65_6 (by decide) rfl ?_
    exact Gl.retI Y0 (by decide) (by decide)  d_jdk_29_method_65_10 ⟨i1, rfl, (by omega), rfl⟩
theorem d_jdk_29_method_69_0 : decode jdk_29_method_69_code 0 = .ok (.iload_n 0, 1) := by decide +kernel
theorem d_jdk_29_method_69_1 : decode jdk_29_method_69_code 1 = .ok (.iload_n 1, 1) := by decide +kernel
theorem d_jdk_29_method_69_2 : decode jdk_29_method_69_code 2 = .ok (.if_icmp .gt 7, 3) := by decide +kernel
theorem d_jdk_29_method_69_9 : decode jdk_29_method_69_code 9 = .ok (.iload_n 1, 1) := by decide +kernel
theorem d_jdk_29_method_69_10 : decode jdk_29_method_69_code 10 = .ok (.ireturn, 1) := by decide +kernel
theorem d_jdk_29_method_69_5 : decode jdk_29_method_69_code 5 = .ok (.iload_n 0, 1) := by decide +kernel
theorem d_jdk_29_method_69_6 : decode jdk_29_method_69_code 6 = .ok (.goto 4, 3) := by decide +kernel
def R2 : Room := { frames := 0, cells := 0, slots := 0, locals := 0 }
def Q2 (Z : State) (i1 : Int32) (i2 : Int32) (h0 : Heap) (v : Option Value) (h : Heap) : Prop := ∃ r : Int32, v = some (.int r) ∧ ((i2.toInt < i1.toInt ∧ r.toInt = i2.toInt) ∨ (¬ i2.toInt < i1.toInt ∧ r.toInt = i1.toInt)) ∧ h0 = h
theorem ef2 (i1 : Int32) (i2 : Int32) (m : MethodId) : entryFrame m #[(.int i1), (.int i2)] 2 = mkF m 0 #[.val (.int i1), .val (.int i2)] [] := by first | (simp [entryFrame, mkF, argsToLocals, Value.category]; done) | rfl
set_option maxRecDepth 65536 in
set_option maxHeartbeats 40000000 in
theorem rm2 (l : Launch) (Z : State) (a0 : Array Value) (hw : ∀ d ∈ tables_1, d.before a0 Z = true) (ws : List Jvm.Cond) (i1 : Int32) (i2 : Int32) (h0 : Heap) (n0 : Nat) (Z0 : n0 ≤ h0.size) : OMet l Z ws (⟨"java/lang/Math", "min", "(II)I"⟩ : MethodName) jdk_29_method_69_code 2 (some .int) R2 #[(.int i1), (.int i2)] h0 n0 (Q2 Z i1 i2 h0) := by
  refine OMet.of (Jvm.Free.JP.mathPlain rfl (by decide +kernel)) (ef2 i1 i2) Z0 ?_
  intro p e s m below meth c T0 Y0 hnm
  have Y0 : Sd Z "java/lang/Math" jdk_29_method_69_code 2 (some .int) n0 p l e R2 s m #[(.int i1), (.int i2)] below meth c T0 h0 0 0 := Y0
  have ni1 := rng32 i1
  have ni2 := rng32 i2
  refine Gl.iloadN Y0 rfl d_jdk_29_method_69_0 rfl ?_
  refine Gl.iloadN Y0 rfl d_jdk_29_method_69_1 rfl ?_
  refine Gl.icmpgt Y0 d_jdk_29_method_69_2 (by decide) rfl rfl (fun c2 => ?_) (fun c2 => ?_)
  · have j2 : i2.toInt < i1.toInt := Int32.lt_iff_toInt_lt.mp c2
    refine Gl.iloadN Y0 rfl d_jdk_29_method_69_9 rfl ?_
    exact Gl.retI Y0 (by decide) (by decide)  d_jdk_29_method_69_10 ⟨i2, rfl, (by omega), rfl⟩
  · have j2 : ¬ (i2.toInt < i1.toInt) := fun q => c2 (Int32.lt_iff_toInt_lt.mpr q)
    refine Gl.iloadN Y0 rfl d_jdk_29_method_69_5 rfl ?_
    refine Gl.goto Y0 d_jdk_29_method_69_6 (by decide) rfl ?_
    exact Gl.retI Y0 (by decide) (by decide)  d_jdk_29_method_69_10 ⟨i1, rfl, (by omega), rfl⟩
theorem d_prog_3_method_2_0 : decode prog_3_method_2_code 0 = .ok (.aload_n 0, 1) := by decide +kernel
theorem d_prog_3_method_2_1 : decode prog_3_method_2_code 1 = .ok (.invokespecial 21, 3) := by decide +kernel
theorem tw_23 {a0 : Array Value} {Z : State} (hw : ∀ d ∈ tables_1, d.before a0 Z = true) : (Jvm.Cond.methodLink "com/example/pagewright/pagewright/PageRequest" (21 : Nat) ({ cls := "java/lang/Object", name := "<init>", desc := "()V" } : Jvm.MethodName)).before a0 Z = true := hw _ (List.mem_of_getElem? (i := 23) rfl)
theorem d_prog_3_method_2_4 : decode prog_3_method_2_code 4 = .ok (.aload_n 0, 1) := by decide +kernel
theorem d_prog_3_method_2_5 : decode prog_3_method_2_code 5 = .ok (.iload_n 1, 1) := by decide +kernel
theorem d_prog_3_method_2_6 : decode prog_3_method_2_code 6 = .ok (.putfield 26, 3) := by decide +kernel
theorem tw_26 {a0 : Array Value} {Z : State} (hw : ∀ d ∈ tables_1, d.before a0 Z = true) : (Jvm.Cond.fieldLink "com/example/pagewright/pagewright/PageRequest" (26 : Nat) "com/example/pagewright/pagewright/PageRequest" "pageNumber" "I").before a0 Z = true := hw _ (List.mem_of_getElem? (i := 26) rfl)
theorem tw_27 {a0 : Array Value} {Z : State} (hw : ∀ d ∈ tables_1, d.before a0 Z = true) : (Jvm.Cond.laysFinal "com/example/pagewright/pagewright/PageRequest" "com/example/pagewright/pagewright/PageRequest" "pageNumber" "I").before a0 Z = true := hw _ (List.mem_of_getElem? (i := 27) rfl)
theorem tw_14 {a0 : Array Value} {Z : State} (hw : ∀ d ∈ tables_1, d.before a0 Z = true) : (Jvm.Cond.instantiable "com/example/pagewright/pagewright/PageRequest" (4 : Nat)).before a0 Z = true := hw _ (List.mem_of_getElem? (i := 14) rfl)
theorem d_prog_3_method_2_9 : decode prog_3_method_2_code 9 = .ok (.aload_n 0, 1) := by decide +kernel
theorem d_prog_3_method_2_10 : decode prog_3_method_2_code 10 = .ok (.iload_n 2, 1) := by decide +kernel
theorem d_prog_3_method_2_11 : decode prog_3_method_2_code 11 = .ok (.putfield 30, 3) := by decide +kernel
theorem tw_28 {a0 : Array Value} {Z : State} (hw : ∀ d ∈ tables_1, d.before a0 Z = true) : (Jvm.Cond.fieldLink "com/example/pagewright/pagewright/PageRequest" (30 : Nat) "com/example/pagewright/pagewright/PageRequest" "pageSize" "I").before a0 Z = true := hw _ (List.mem_of_getElem? (i := 28) rfl)
theorem tw_29 {a0 : Array Value} {Z : State} (hw : ∀ d ∈ tables_1, d.before a0 Z = true) : (Jvm.Cond.laysFinal "com/example/pagewright/pagewright/PageRequest" "com/example/pagewright/pagewright/PageRequest" "pageSize" "I").before a0 Z = true := hw _ (List.mem_of_getElem? (i := 29) rfl)
theorem d_prog_3_method_2_14 : decode prog_3_method_2_code 14 = .ok (.aload_n 0, 1) := by decide +kernel
theorem d_prog_3_method_2_15 : decode prog_3_method_2_code 15 = .ok (.iload_n 3, 1) := by decide +kernel
theorem d_prog_3_method_2_16 : decode prog_3_method_2_code 16 = .ok (.putfield 33, 3) := by decide +kernel
theorem tw_30 {a0 : Array Value} {Z : State} (hw : ∀ d ∈ tables_1, d.before a0 Z = true) : (Jvm.Cond.fieldLink "com/example/pagewright/pagewright/PageRequest" (33 : Nat) "com/example/pagewright/pagewright/PageRequest" "counted" "Z").before a0 Z = true := hw _ (List.mem_of_getElem? (i := 30) rfl)
theorem tw_31 {a0 : Array Value} {Z : State} (hw : ∀ d ∈ tables_1, d.before a0 Z = true) : (Jvm.Cond.laysFinal "com/example/pagewright/pagewright/PageRequest" "com/example/pagewright/pagewright/PageRequest" "counted" "Z").before a0 Z = true := hw _ (List.mem_of_getElem? (i := 31) rfl)
theorem d_prog_3_method_2_19 : decode prog_3_method_2_code 19 = .ok (.aload_n 0, 1) := by decide +kernel
theorem d_prog_3_method_2_20 : decode prog_3_method_2_code 20 = .ok (.lload 4, 2) := by decide +kernel
theorem d_prog_3_method_2_22 : decode prog_3_method_2_code 22 = .ok (.putfield 37, 3) := by decide +kernel
theorem tw_32 {a0 : Array Value} {Z : State} (hw : ∀ d ∈ tables_1, d.before a0 Z = true) : (Jvm.Cond.fieldLink "com/example/pagewright/pagewright/PageRequest" (37 : Nat) "com/example/pagewright/pagewright/PageRequest" "knownTotal" "J").before a0 Z = true := hw _ (List.mem_of_getElem? (i := 32) rfl)
theorem tw_33 {a0 : Array Value} {Z : State} (hw : ∀ d ∈ tables_1, d.before a0 Z = true) : (Jvm.Cond.laysFinal "com/example/pagewright/pagewright/PageRequest" "com/example/pagewright/pagewright/PageRequest" "knownTotal" "J").before a0 Z = true := hw _ (List.mem_of_getElem? (i := 33) rfl)
theorem d_prog_3_method_2_25 : decode prog_3_method_2_code 25 = .ok (.return_, 1) := by decide +kernel
def R3 : Room := { frames := 1, cells := 0, slots := 0, locals := 12 }
def Q3 (Z : State) (a : Addr) (pn : Int32) (pz : Int32) (kt : Int64) (h0 : Heap) (v : Option Value) (h : Heap) : Prop := v = none ∧ Keep h0 h [a] ∧ Exa Z h a "com/example/pagewright/pagewright/PageRequest" ∧ Fld Z h a "com/example/pagewright/pagewright/PageRequest" "pageNumber" "I" (.int pn) ∧ Fld Z h a "com/example/pagewright/pagewright/PageRequest" "pageSize" "I" (.int pz) ∧ Fld Z h a "com/example/pagewright/pagewright/PageRequest" "counted" "Z" (.int (0 : Int32)) ∧ Fld Z h a "com/example/pagewright/pagewright/PageRequest" "knownTotal" "J" (.long kt)
theorem ef3 (a : Addr) (pn : Int32) (pz : Int32) (kt : Int64) (m : MethodId) : entryFrame m #[(.ref a), (.int pn), (.int pz), (.int (0 : Int32)), (.long kt)] 6 = mkF m 0 #[.val (.ref a), .val (.int pn), .val (.int pz), .val (.int (0 : Int32)), .val (.long kt), .second] [] := by first | (simp [entryFrame, mkF, argsToLocals, Value.category]; done) | rfl
theorem pn_1 : plainName "com/example/pagewright/pagewright/PageRequest" = true := by first | (simp [plainName, overriddenIn]; done) | decide +kernel
set_option maxRecDepth 65536 in
set_option maxHeartbeats 40000000 in
theorem rm3 (l : Launch) (Z : State) (a0 : Array Value) (hw : ∀ d ∈ tables_1, d.before a0 Z = true) (ws : List Jvm.Cond) (a : Addr) (pn : Int32) (pz : Int32) (kt : Int64) (h0 : Heap) (n0 : Nat) (Z0 : n0 ≤ h0.size) (E : Exa Z h0 a "com/example/pagewright/pagewright/PageRequest") (F0 : Fld Z h0 a "com/example/pagewright/pagewright/PageRequest" "pageNumber" "I" (.int (0 : Int32))) (F1 : Fld Z h0 a "com/example/pagewright/pagewright/PageRequest" "pageSize" "I" (.int (0 : Int32))) (F2 : Fld Z h0 a "com/example/pagewright/pagewright/PageRequest" "counted" "Z" (.int (0 : Int32))) (F3 : Fld Z h0 a "com/example/pagewright/pagewright/PageRequest" "knownTotal" "J" (.long (0 : Int64))) (ga : n0 ≤ a) : OMet l Z ws (⟨"com/example/pagewright/pagewright/PageRequest", "<init>", "(IIZJ)V"⟩ : MethodName) prog_3_method_2_code 6 none R3 #[(.ref a), (.int pn), (.int pz), (.int (0 : Int32)), (.long kt)] h0 n0 (Q3 Z a pn pz kt h0) := by
  refine OMet.of (plainFor_of_name pn_1) (ef3 a pn pz kt) Z0 ?_
  intro p e s m below meth c T0 Y0 hnm
  have Y0 : Sd Z "com/example/pagewright/pagewright/PageRequest" prog_3_method_2_code 6 none n0 p l e R3 s m #[(.ref a), (.int pn), (.int pz), (.int (0 : Int32)), (.long kt)] below meth c T0 h0 0 0 := Y0
  refine Gl.aloadN Y0 rfl rfl d_prog_3_method_2_0 rfl ?_
  refine Gl.initO Y0 (tw_23 hw) (tw_24 hw) (tw_25 hw) rfl (by decide) (Nat.le_of_ble_eq_true rfl) d_prog_3_method_2_1 rfl (fun T1 Y1 => ?_)
  refine Gl.aloadN Y1 rfl rfl d_prog_3_method_2_4 rfl ?_
  refine Gl.iloadN Y1 rfl d_prog_3_method_2_5 rfl ?_
  refine Gl.putF Y1 (host := "") (Or.inl (tw_26 hw)) Via.refl F0 E (Or.inr ⟨(tw_27 hw), rfl, hnm⟩) (tw_14 hw) ga (ty := .int) (by decide) rfl rfl d_prog_3_method_2_6 rfl (fun T6 h6 Y6 W6 => ?_)
  have f1 : Fld Z h6 a "com/example/pagewright/pagewright/PageRequest" "pageNumber" "I" (.int pn) := Fld.same W6 F0
  have K6 : Keep h0 h6 [a] := (Keep.refl h0 [a]).wr W6 (Or.inl (List.mem_of_getElem? (i := 0) rfl))
  refine Gl.aloadN Y6 rfl rfl d_prog_3_method_2_9 rfl ?_
  refine Gl.iloadN Y6 rfl d_prog_3_method_2_10 rfl ?_
  have f2 : Fld Z h6 a "com/example/pagewright/pagewright/PageRequest" "pageSize" "I" (.int (0 : Int32)) := (Fld.other W6 F1 (Or.inr (slot_ne (Or.inr (tw_29 hw)) (Or.inr (tw_27 hw)) (by decide) (t := .int) (t' := .int) (by decide) (by decide))))
  have f3 : Exa Z h6 a "com/example/pagewright/pagewright/PageRequest" := (Exa.wr W6 E)
  refine Gl.putF Y6 (host := "") (Or.inl (tw_28 hw)) Via.refl f2 f3 (Or.inr ⟨(tw_29 hw), rfl, hnm⟩) (tw_14 hw) ga (ty := .int) (by decide) rfl rfl d_prog_3_method_2_11 rfl (fun T11 h11 Y11 W11 => ?_)
  have f4 : Fld Z h11 a "com/example/pagewright/pagewright/PageRequest" "pageSize" "I" (.int pz) := Fld.same W11 f2
  have K11 : Keep h0 h11 [a] := K6.wr W11 (Or.inl (List.mem_of_getElem? (i := 0) rfl))
  refine Gl.aloadN Y11 rfl rfl d_prog_3_method_2_14 rfl ?_
  refine Gl.iloadN Y11 rfl d_prog_3_method_2_15 rfl ?_
  have f5 : Fld Z h11 a "com/example/pagewright/pagewright/PageRequest" "counted" "Z" (.int (0 : Int32)) := (Fld.other W11 (Fld.other W6 F2 (Or.inr (slot_ne (Or.inr (tw_31 hw)) (Or.inr (tw_27 hw)) (by decide) (t := .boolean) (t' := .int) (by decide) (by decide)))) (Or.inr (slot_ne (Or.inr (tw_31 hw)) (Or.inr (tw_29 hw)) (by decide) (t := .boolean) (t' := .int) (by decide) (by decide))))
  have f6 : Exa Z h11 a "com/example/pagewright/pagewright/PageRequest" := (Exa.wr W11 f3)
  refine Gl.putFN Y11 (tw_30 hw) Via.refl f5 f6 (Or.inr ⟨(tw_31 hw), rfl, hnm⟩) (tw_14 hw) ga (ty := .boolean) (by decide) (v' := (.int (0 : Int32))) (by decide) (by decide) d_prog_3_method_2_16 rfl (fun T16 h16 Y16 W16 => ?_)
  have f7 : Fld Z h16 a "com/example/pagewright/pagewright/PageRequest" "counted" "Z" (.int (0 : Int32)) := Fld.same W16 f5
  have K16 : Keep h0 h16 [a] := K11.wr W16 (Or.inl (List.mem_of_getElem? (i := 0) rfl))
  refine Gl.aloadN Y16 rfl rfl d_prog_3_method_2_19 rfl ?_
  refine Gl.lload Y16 rfl d_prog_3_method_2_20 rfl ?_
  have f8 : Fld Z h16 a "com/example/pagewright/pagewright/PageRequest" "knownTotal" "J" (.long (0 : Int64)) := (Fld.other W16 (Fld.other W11 (Fld.other W6 F3 (Or.inr (slot_ne (Or.inr (tw_33 hw)) (Or.inr (tw_27 hw)) (by decide) (t := .long) (t' := .int) (by decide) (by decide)))) (Or.inr (slot_ne (Or.inr (tw_33 hw)) (Or.inr (tw_29 hw)) (by decide) (t := .long) (t' := .int) (by decide) (by decide)))) (Or.inr (slot_ne (Or.inr (tw_33 hw)) (Or.inr (tw_31 hw)) (by decide) (t := .long) (t' := .boolean) (by decide) (by decide))))
  have f9 : Exa Z h16 a "com/example/pagewright/pagewright/PageRequest" := (Exa.wr W16 f6)
  refine Gl.putF Y16 (host := "") (Or.inl (tw_32 hw)) Via.refl f8 f9 (Or.inr ⟨(tw_33 hw), rfl, hnm⟩) (tw_14 hw) ga (ty := .long) (by decide) rfl rfl d_prog_3_method_2_22 rfl (fun T22 h22 Y22 W22 => ?_)
  have f10 : Fld Z h22 a "com/example/pagewright/pagewright/PageRequest" "knownTotal" "J" (.long kt) := Fld.same W22 f8
  have K22 : Keep h0 h22 [a] := K16.wr W22 (Or.inl (List.mem_of_getElem? (i := 0) rfl))
  have f11 : Exa Z h22 a "com/example/pagewright/pagewright/PageRequest" := (Exa.wr W22 f9)
  have f12 : Fld Z h22 a "com/example/pagewright/pagewright/PageRequest" "pageNumber" "I" (.int pn) := (Fld.other W22 (Fld.other W16 (Fld.other W11 f1 (Or.inr (slot_ne (Or.inr (tw_27 hw)) (Or.inr (tw_29 hw)) (by decide) (t := .int) (t' := .int) (by decide) (by decide)))) (Or.inr (slot_ne (Or.inr (tw_27 hw)) (Or.inr (tw_31 hw)) (by decide) (t := .int) (t' := .boolean) (by decide) (by decide)))) (Or.inr (slot_ne (Or.inr (tw_27 hw)) (Or.inr (tw_33 hw)) (by decide) (t := .int) (t' := .long) (by decide) (by decide))))
  have f13 : Fld Z h22 a "com/example/pagewright/pagewright/PageRequest" "pageSize" "I" (.int pz) := (Fld.other W22 (Fld.other W16 f4 (Or.inr (slot_ne (Or.inr (tw_29 hw)) (Or.inr (tw_31 hw)) (by decide) (t := .int) (t' := .boolean) (by decide) (by decide)))) (Or.inr (slot_ne (Or.inr (tw_29 hw)) (Or.inr (tw_33 hw)) (by decide) (t := .int) (t' := .long) (by decide) (by decide))))
  have f14 : Fld Z h22 a "com/example/pagewright/pagewright/PageRequest" "counted" "Z" (.int (0 : Int32)) := (Fld.other W22 f7 (Or.inr (slot_ne (Or.inr (tw_31 hw)) (Or.inr (tw_33 hw)) (by decide) (t := .boolean) (t' := .long) (by decide) (by decide))))
  exact Gl.retV Y22 (by decide) (by decide)  d_prog_3_method_2_25 ⟨rfl, K22, f11, f12, f13, f14, f10⟩
def R4 : Room := { frames := 1, cells := 0, slots := 0, locals := 12 }
def Q4 (Z : State) (a : Addr) (pn : Int32) (pz : Int32) (kt : Int64) (h0 : Heap) (v : Option Value) (h : Heap) : Prop := v = none ∧ Keep h0 h [a] ∧ Exa Z h a "com/example/pagewright/pagewright/PageRequest" ∧ Fld Z h a "com/example/pagewright/pagewright/PageRequest" "pageNumber" "I" (.int pn) ∧ Fld Z h a "com/example/pagewright/pagewright/PageRequest" "pageSize" "I" (.int pz) ∧ Fld Z h a "com/example/pagewright/pagewright/PageRequest" "counted" "Z" (.int (1 : Int32)) ∧ Fld Z h a "com/example/pagewright/pagewright/PageRequest" "knownTotal" "J" (.long kt)
theorem ef4 (a : Addr) (pn : Int32) (pz : Int32) (kt : Int64) (m : MethodId) : entryFrame m #[(.ref a), (.int pn), (.int pz), (.int (1 : Int32)), (.long kt)] 6 = mkF m 0 #[.val (.ref a), .val (.int pn), .val (.int pz), .val (.int (1 : Int32)), .val (.long kt), .second] [] := by first | (simp [entryFrame, mkF, argsToLocals, Value.category]; done) | rfl
set_option maxRecDepth 65536 in
set_option maxHeartbeats 40000000 in
theorem rm4 (l : Launch) (Z : State) (a0 : Array Value) (hw : ∀ d ∈ tables_1, d.before a0 Z = true) (ws : List Jvm.Cond) (a : Addr) (pn : Int32) (pz : Int32) (kt : Int64) (h0 : Heap) (n0 : Nat) (Z0 : n0 ≤ h0.size) (E : Exa Z h0 a "com/example/pagewright/pagewright/PageRequest") (F0 : Fld Z h0 a "com/example/pagewright/pagewright/PageRequest" "pageNumber" "I" (.int (0 : Int32))) (F1 : Fld Z h0 a "com/example/pagewright/pagewright/PageRequest" "pageSize" "I" (.int (0 : Int32))) (F2 : Fld Z h0 a "com/example/pagewright/pagewright/PageRequest" "counted" "Z" (.int (0 : Int32))) (F3 : Fld Z h0 a "com/example/pagewright/pagewright/PageRequest" "knownTotal" "J" (.long (0 : Int64))) (ga : n0 ≤ a) : OMet l Z ws (⟨"com/example/pagewright/pagewright/PageRequest", "<init>", "(IIZJ)V"⟩ : MethodName) prog_3_method_2_code 6 none R4 #[(.ref a), (.int pn), (.int pz), (.int (1 : Int32)), (.long kt)] h0 n0 (Q4 Z a pn pz kt h0) := by
  refine OMet.of (plainFor_of_name pn_1) (ef4 a pn pz kt) Z0 ?_
  intro p e s m below meth c T0 Y0 hnm
  have Y0 : Sd Z "com/example/pagewright/pagewright/PageRequest" prog_3_method_2_code 6 none n0 p l e R4 s m #[(.ref a), (.int pn), (.int pz), (.int (1 : Int32)), (.long kt)] below meth c T0 h0 0 0 := Y0
  refine Gl.aloadN Y0 rfl rfl d_prog_3_method_2_0 rfl ?_
  refine Gl.initO Y0 (tw_23 hw) (tw_24 hw) (tw_25 hw) rfl (by decide) (Nat.le_of_ble_eq_true rfl) d_prog_3_method_2_1 rfl (fun T1 Y1 => ?_)
  refine Gl.aloadN Y1 rfl rfl d_prog_3_method_2_4 rfl ?_
  refine Gl.iloadN Y1 rfl d_prog_3_method_2_5 rfl ?_
  refine Gl.putF Y1 (host := "") (Or.inl (tw_26 hw)) Via.refl F0 E (Or.inr ⟨(tw_27 hw), rfl, hnm⟩) (tw_14 hw) ga (ty := .int) (by decide) rfl rfl d_prog_3_method_2_6 rfl (fun T6 h6 Y6 W6 => ?_)
  have f1 : Fld Z h6 a "com/example/pagewright/pagewright/PageRequest" "pageNumber" "I" (.int pn) := Fld.same W6 F0
  have K6 : Keep h0 h6 [a] := (Keep.refl h0 [a]).wr W6 (Or.inl (List.mem_of_getElem? (i := 0) rfl))
  refine Gl.aloadN Y6 rfl rfl d_prog_3_method_2_9 rfl ?_
  refine Gl.iloadN Y6 rfl d_prog_3_method_2_10 rfl ?_
  have f2 : Fld Z h6 a "com/example/pagewright/pagewright/PageRequest" "pageSize" "I" (.int (0 : Int32)) := (Fld.other W6 F1 (Or.inr (slot_ne (Or.inr (tw_29 hw)) (Or.inr (tw_27 hw)) (by decide) (t := .int) (t' := .int) (by decide) (by decide))))
  have f3 : Exa Z h6 a "com/example/pagewright/pagewright/PageRequest" := (Exa.wr W6 E)
  refine Gl.putF Y6 (host := "") (Or.inl (tw_28 hw)) Via.refl f2 f3 (Or.inr ⟨(tw_29 hw), rfl, hnm⟩) (tw_14 hw) ga (ty := .int) (by decide) rfl rfl d_prog_3_method_2_11 rfl (fun T11 h11 Y11 W11 => ?_)
  have f4 : Fld Z h11 a "com/example/pagewright/pagewright/PageRequest" "pageSize" "I" (.int pz) := Fld.same W11 f2
  have K11 : Keep h0 h11 [a] := K6.wr W11 (Or.inl (List.mem_of_getElem? (i := 0) rfl))
  refine Gl.aloadN Y11 rfl rfl d_prog_3_method_2_14 rfl ?_
  refine Gl.iloadN Y11 rfl d_prog_3_method_2_15 rfl ?_
  have f5 : Fld Z h11 a "com/example/pagewright/pagewright/PageRequest" "counted" "Z" (.int (0 : Int32)) := (Fld.other W11 (Fld.other W6 F2 (Or.inr (slot_ne (Or.inr (tw_31 hw)) (Or.inr (tw_27 hw)) (by decide) (t := .boolean) (t' := .int) (by decide) (by decide)))) (Or.inr (slot_ne (Or.inr (tw_31 hw)) (Or.inr (tw_29 hw)) (by decide) (t := .boolean) (t' := .int) (by decide) (by decide))))
  have f6 : Exa Z h11 a "com/example/pagewright/pagewright/PageRequest" := (Exa.wr W11 f3)
  refine Gl.putFN Y11 (tw_30 hw) Via.refl f5 f6 (Or.inr ⟨(tw_31 hw), rfl, hnm⟩) (tw_14 hw) ga (ty := .boolean) (by decide) (v' := (.int (1 : Int32))) (by decide) (by decide) d_prog_3_method_2_16 rfl (fun T16 h16 Y16 W16 => ?_)
  have f7 : Fld Z h16 a "com/example/pagewright/pagewright/PageRequest" "counted" "Z" (.int (1 : Int32)) := Fld.same W16 f5
  have K16 : Keep h0 h16 [a] := K11.wr W16 (Or.inl (List.mem_of_getElem? (i := 0) rfl))
  refine Gl.aloadN Y16 rfl rfl d_prog_3_method_2_19 rfl ?_
  refine Gl.lload Y16 rfl d_prog_3_method_2_20 rfl ?_
  have f8 : Fld Z h16 a "com/example/pagewright/pagewright/PageRequest" "knownTotal" "J" (.long (0 : Int64)) := (Fld.other W16 (Fld.other W11 (Fld.other W6 F3 (Or.inr (slot_ne (Or.inr (tw_33 hw)) (Or.inr (tw_27 hw)) (by decide) (t := .long) (t' := .int) (by decide) (by decide)))) (Or.inr (slot_ne (Or.inr (tw_33 hw)) (Or.inr (tw_29 hw)) (by decide) (t := .long) (t' := .int) (by decide) (by decide)))) (Or.inr (slot_ne (Or.inr (tw_33 hw)) (Or.inr (tw_31 hw)) (by decide) (t := .long) (t' := .boolean) (by decide) (by decide))))
  have f9 : Exa Z h16 a "com/example/pagewright/pagewright/PageRequest" := (Exa.wr W16 f6)
  refine Gl.putF Y16 (host := "") (Or.inl (tw_32 hw)) Via.refl f8 f9 (Or.inr ⟨(tw_33 hw), rfl, hnm⟩) (tw_14 hw) ga (ty := .long) (by decide) rfl rfl d_prog_3_method_2_22 rfl (fun T22 h22 Y22 W22 => ?_)
  have f10 : Fld Z h22 a "com/example/pagewright/pagewright/PageRequest" "knownTotal" "J" (.long kt) := Fld.same W22 f8
  have K22 : Keep h0 h22 [a] := K16.wr W22 (Or.inl (List.mem_of_getElem? (i := 0) rfl))
  have f11 : Exa Z h22 a "com/example/pagewright/pagewright/PageRequest" := (Exa.wr W22 f9)
  have f12 : Fld Z h22 a "com/example/pagewright/pagewright/PageRequest" "pageNumber" "I" (.int pn) := (Fld.other W22 (Fld.other W16 (Fld.other W11 f1 (Or.inr (slot_ne (Or.inr (tw_27 hw)) (Or.inr (tw_29 hw)) (by decide) (t := .int) (t' := .int) (by decide) (by decide)))) (Or.inr (slot_ne (Or.inr (tw_27 hw)) (Or.inr (tw_31 hw)) (by decide) (t := .int) (t' := .boolean) (by decide) (by decide)))) (Or.inr (slot_ne (Or.inr (tw_27 hw)) (Or.inr (tw_33 hw)) (by decide) (t := .int) (t' := .long) (by decide) (by decide))))
  have f13 : Fld Z h22 a "com/example/pagewright/pagewright/PageRequest" "pageSize" "I" (.int pz) := (Fld.other W22 (Fld.other W16 f4 (Or.inr (slot_ne (Or.inr (tw_29 hw)) (Or.inr (tw_31 hw)) (by decide) (t := .int) (t' := .boolean) (by decide) (by decide)))) (Or.inr (slot_ne (Or.inr (tw_29 hw)) (Or.inr (tw_33 hw)) (by decide) (t := .int) (t' := .long) (by decide) (by decide))))
  have f14 : Fld Z h22 a "com/example/pagewright/pagewright/PageRequest" "counted" "Z" (.int (1 : Int32)) := (Fld.other W22 f7 (Or.inr (slot_ne (Or.inr (tw_31 hw)) (Or.inr (tw_33 hw)) (by decide) (t := .boolean) (t' := .long) (by decide) (by decide))))
  exact Gl.retV Y22 (by decide) (by decide)  d_prog_3_method_2_25 ⟨rfl, K22, f11, f12, f13, f14, f10⟩
theorem d_prog_3_method_1_0 : decode prog_3_method_1_code 0 = .ok (.aload_n 0, 1) := by decide +kernel
theorem d_prog_3_method_1_1 : decode prog_3_method_1_code 1 = .ok (.iload_n 1, 1) := by decide +kernel
theorem d_prog_3_method_1_2 : decode prog_3_method_1_code 2 = .ok (.iload_n 2, 1) := by decide +kernel
theorem d_prog_3_method_1_3 : decode prog_3_method_1_code 3 = .ok (.iconst 1, 1) := by decide +kernel
theorem d_prog_3_method_1_4 : decode prog_3_method_1_code 4 = .ok (.ldc2_w 3, 3) := by decide +kernel
theorem tw_19 {a0 : Array Value} {Z : State} (hw : ∀ d ∈ tables_1, d.before a0 Z = true) : (Jvm.Cond.constantLong "com/example/pagewright/pagewright/PageRequest" (3 : Nat) (-1 : Int64)).before a0 Z = true := hw _ (List.mem_of_getElem? (i := 19) rfl)
theorem d_prog_3_method_1_7 : decode prog_3_method_1_code 7 = .ok (.invokespecial 5, 3) := by decide +kernel
theorem tw_20 {a0 : Array Value} {Z : State} (hw : ∀ d ∈ tables_1, d.before a0 Z = true) : (Jvm.Cond.methodLink "com/example/pagewright/pagewright/PageRequest" (5 : Nat) ({ cls := "com/example/pagewright/pagewright/PageRequest", name := "<init>", desc := "(IIZJ)V" } : Jvm.MethodName)).before a0 Z = true := hw _ (List.mem_of_getElem? (i := 20) rfl)
theorem pd_0 : parseMethodDescriptor "(IIZJ)V" = some ⟨[.int, .int, .boolean, .long], none⟩ := by decide +kernel
theorem tw_22 {a0 : Array Value} {Z : State} (hw : ∀ d ∈ tables_1, d.before a0 Z = true) : (Jvm.Cond.code ({ cls := "com/example/pagewright/pagewright/PageRequest", name := "<init>", desc := "(IIZJ)V" } : Jvm.MethodName) prog_3_method_2_code (6 : Nat) (Option.none : Option Jvm.ClassFile.FieldType)).before a0 Z = true := hw _ (List.mem_of_getElem? (i := 22) rfl)
theorem tw_15 {a0 : Array Value} {Z : State} (hw : ∀ d ∈ tables_1, d.before a0 Z = true) : (Jvm.Cond.initialized "com/example/pagewright/pagewright/PageRequest").before a0 Z = true := hw _ (List.mem_of_getElem? (i := 15) rfl)
theorem tw_21 {a0 : Array Value} {Z : State} (hw : ∀ d ∈ tables_1, d.before a0 Z = true) : (Jvm.Cond.instanceMethod ({ cls := "com/example/pagewright/pagewright/PageRequest", name := "<init>", desc := "(IIZJ)V" } : Jvm.MethodName)).before a0 Z = true := hw _ (List.mem_of_getElem? (i := 21) rfl)
theorem d_prog_3_method_1_10 : decode prog_3_method_1_code 10 = .ok (.iload_n 1, 1) := by decide +kernel
theorem d_prog_3_method_1_11 : decode prog_3_method_1_code 11 = .ok (.iconst 1, 1) := by decide +kernel
theorem d_prog_3_method_1_12 : decode prog_3_method_1_code 12 = .ok (.if_icmp .ge 17, 3) := by decide +kernel
theorem d_prog_3_method_1_29 : decode prog_3_method_1_code 29 = .ok (.iload_n 2, 1) := by decide +kernel
theorem d_prog_3_method_1_30 : decode prog_3_method_1_code 30 = .ok (.ifCond .ge 17, 3) := by decide +kernel
theorem d_prog_3_method_1_47 : decode prog_3_method_1_code 47 = .ok (.return_, 1) := by decide +kernel
def R5 : Room := { frames := 2, cells := 0, slots := 0, locals := 29 }
def Q5 (Z : State) (a : Addr) (pn : Int32) (pz : Int32) (h0 : Heap) (v : Option Value) (h : Heap) : Prop := v = none ∧ Keep h0 h [a] ∧ Exa Z h a "com/example/pagewright/pagewright/PageRequest" ∧ Fld Z h a "com/example/pagewright/pagewright/PageRequest" "pageNumber" "I" (.int pn) ∧ Fld Z h a "com/example/pagewright/pagewright/PageRequest" "pageSize" "I" (.int pz) ∧ Fld Z h a "com/example/pagewright/pagewright/PageRequest" "counted" "Z" (.int (1 : Int32)) ∧ Fld Z h a "com/example/pagewright/pagewright/PageRequest" "knownTotal" "J" (.long (-1 : Int64))
theorem ef5 (a : Addr) (pn : Int32) (pz : Int32) (m : MethodId) : entryFrame m #[(.ref a), (.int pn), (.int pz)] 3 = mkF m 0 #[.val (.ref a), .val (.int pn), .val (.int pz)] [] := by first | (simp [entryFrame, mkF, argsToLocals, Value.category]; done) | rfl
set_option maxRecDepth 65536 in
set_option maxHeartbeats 40000000 in
theorem rm5 (l : Launch) (Z : State) (a0 : Array Value) (hw : ∀ d ∈ tables_1, d.before a0 Z = true) (ws : List Jvm.Cond) (a : Addr) (pn : Int32) (pz : Int32) (h0 : Heap) (n0 : Nat) (Z0 : n0 ≤ h0.size) (E : Exa Z h0 a "com/example/pagewright/pagewright/PageRequest") (F0 : Fld Z h0 a "com/example/pagewright/pagewright/PageRequest" "pageNumber" "I" (.int (0 : Int32))) (F1 : Fld Z h0 a "com/example/pagewright/pagewright/PageRequest" "pageSize" "I" (.int (0 : Int32))) (F2 : Fld Z h0 a "com/example/pagewright/pagewright/PageRequest" "counted" "Z" (.int (0 : Int32))) (F3 : Fld Z h0 a "com/example/pagewright/pagewright/PageRequest" "knownTotal" "J" (.long (0 : Int64))) (ga : n0 ≤ a) (h1 : 1 ≤ pn.toInt) (h2 : 0 ≤ pz.toInt) : OMet l Z ws (⟨"com/example/pagewright/pagewright/PageRequest", "<init>", "(II)V"⟩ : MethodName) prog_3_method_1_code 3 none R5 #[(.ref a), (.int pn), (.int pz)] h0 n0 (Q5 Z a pn pz h0) := by
  refine OMet.of (plainFor_of_name pn_1) (ef5 a pn pz) Z0 ?_
  intro p e s m below meth c T0 Y0 hnm
  have Y0 : Sd Z "com/example/pagewright/pagewright/PageRequest" prog_3_method_1_code 3 none n0 p l e R5 s m #[(.ref a), (.int pn), (.int pz)] below meth c T0 h0 0 0 := Y0
  have npn := rng32 pn
  have npz := rng32 pz
  refine Gl.aloadN Y0 rfl rfl d_prog_3_method_1_0 rfl ?_
  refine Gl.iloadN Y0 rfl d_prog_3_method_1_1 rfl ?_
  refine Gl.iloadN Y0 rfl d_prog_3_method_1_2 rfl ?_
  refine Gl.iconst Y0 (v := (1 : Int32)) (by decide) d_prog_3_method_1_3 rfl ?_
  refine Gl.ldcJ Y0 (tw_19 hw) d_prog_3_method_1_4 rfl ?_
  refine Gl.callN Y0 rfl (tw_20 hw) (tw_21 hw) (tw_15 hw) (tw_22 hw) (by decide) (rm4 l Z a0 hw [] a pn pz (-1 : Int64) h0 n0 Y0.sz E F0 F1 F2 F3 ga) (a := a) (argsL := [(.int pn), (.int pz), (.int (1 : Int32)), (.long (-1 : Int64))]) (rest := []) rfl rfl (lenOf pd_0 rfl) rfl (by decide) (Nat.le_of_ble_eq_true rfl) (by decide) (by decide) d_prog_3_method_1_7 rfl (fun v7 T7 h7 Y7 q7 => ?_)
  obtain ⟨rfl, K7, f7_0, f7_1, f7_2, f7_3, f7_4⟩ := q7
  have KK7 : Keep h0 h7 [a] := (Keep.refl h0 [a]).trans K7 (allS (Or.inl (List.mem_of_getElem? (i := 0) rfl)) all0)
  show Gl p e below _ (T7.setTop (mkF m 10 #[.val (.ref a), .val (.int pn), .val (.int pz)] []))
  refine Gl.iloadN Y7 rfl d_prog_3_method_1_10 rfl ?_
  refine Gl.iconst Y7 (v := (1 : Int32)) (by decide) d_prog_3_method_1_11 rfl ?_
  refine Gl.icmpge Y7 d_prog_3_method_1_12 (by decide) rfl rfl (fun c12 => ?_) (fun c12 => ?_)
  rotate_left
  · exfalso; have j12 : pn.toInt < 1 := Int32.lt_iff_toInt_lt.mp c12; omega
  have j12 : ¬ (pn.toInt < 1) := fun q => c12 (Int32.lt_iff_toInt_lt.mpr q)
  refine Gl.iloadN Y7 rfl d_prog_3_method_1_29 rfl ?_
  refine Gl.ifge Y7 d_prog_3_method_1_30 (by decide) rfl rfl (fun c30 => ?_) (fun c30 => ?_)
  rotate_left
  · exfalso; have j30 : pz.toInt < 0 := Int32.lt_iff_toInt_lt.mp c30; omega
  have j30 : ¬ (pz.toInt < 0) := fun q => c30 (Int32.lt_iff_toInt_lt.mpr q)
  exact Gl.retV Y7 (by decide) (by decide)  d_prog_3_method_1_47 ⟨rfl, KK7, f7_0, f7_1, f7_2, f7_3, f7_4⟩
theorem d_prog_3_method_4_0 : decode prog_3_method_4_code 0 = .ok (.lload_n 1, 1) := by decide +kernel
theorem d_prog_3_method_4_1 : decode prog_3_method_4_code 1 = .ok (.lconst 0, 1) := by decide +kernel
theorem d_prog_3_method_4_2 : decode prog_3_method_4_code 2 = .ok (.lcmp, 1) := by decide +kernel
theorem d_prog_3_method_4_3 : decode prog_3_method_4_code 3 = .ok (.ifCond .ge 17, 3) := by decide +kernel
theorem d_prog_3_method_4_20 : decode prog_3_method_4_code 20 = .ok (.new 6, 3) := by decide +kernel
theorem tw_39 {a0 : Array Value} {Z : State} (hw : ∀ d ∈ tables_1, d.before a0 Z = true) : (Jvm.Cond.classLink "com/example/pagewright/pagewright/PageRequest" (6 : Nat) "com/example/pagewright/pagewright/PageRequest").before a0 Z = true := hw _ (List.mem_of_getElem? (i := 39) rfl)
theorem d_prog_3_method_4_23 : decode prog_3_method_4_code 23 = .ok (.dup, 1) := by decide +kernel
theorem d_prog_3_method_4_24 : decode prog_3_method_4_code 24 = .ok (.aload_n 0, 1) := by decide +kernel
theorem d_prog_3_method_4_25 : decode prog_3_method_4_code 25 = .ok (.getfield 26, 3) := by decide +kernel
theorem d_prog_3_method_4_28 : decode prog_3_method_4_code 28 = .ok (.aload_n 0, 1) := by decide +kernel
theorem d_prog_3_method_4_29 : decode prog_3_method_4_code 29 = .ok (.getfield 30, 3) := by decide +kernel
theorem d_prog_3_method_4_32 : decode prog_3_method_4_code 32 = .ok (.iconst 0, 1) := by decide +kernel
theorem d_prog_3_method_4_33 : decode prog_3_method_4_code 33 = .ok (.lload_n 1, 1) := by decide +kernel
theorem d_prog_3_method_4_34 : decode prog_3_method_4_code 34 = .ok (.invokespecial 5, 3) := by decide +kernel
theorem d_prog_3_method_4_37 : decode prog_3_method_4_code 37 = .ok (.areturn, 1) := by decide +kernel
def R6 : Room := { frames := 2, cells := 1, slots := 4, locals := 30 }
def Q6 (Z : State) (a : Addr) (kt : Int64) (pn : Int32) (pz : Int32) (h0 : Heap) (v : Option Value) (h : Heap) : Prop := ∃ b : Addr, v = some (.ref b) ∧ Keep h0 h [] ∧ h0.size ≤ b ∧ Exa Z h b "com/example/pagewright/pagewright/PageRequest" ∧ Fld Z h b "com/example/pagewright/pagewright/PageRequest" "pageNumber" "I" (.int pn) ∧ Fld Z h b "com/example/pagewright/pagewright/PageRequest" "pageSize" "I" (.int pz) ∧ Fld Z h b "com/example/pagewright/pagewright/PageRequest" "counted" "Z" (.int (0 : Int32)) ∧ Fld Z h b "com/example/pagewright/pagewright/PageRequest" "knownTotal" "J" (.long kt)
theorem ef6 (a : Addr) (kt : Int64) (m : MethodId) : entryFrame m #[(.ref a), (.long kt)] 3 = mkF m 0 #[.val (.ref a), .val (.long kt), .second] [] := by first | (simp [entryFrame, mkF, argsToLocals, Value.category]; done) | rfl
set_option maxRecDepth 65536 in
set_option maxHeartbeats 40000000 in
theorem rm6 (l : Launch) (Z : State) (a0 : Array Value) (hw : ∀ d ∈ tables_1, d.before a0 Z = true) (ws : List Jvm.Cond) (a : Addr) (kt : Int64) (pn : Int32) (pz : Int32) (h0 : Heap) (n0 : Nat) (Z0 : n0 ≤ h0.size) (E : Exa Z h0 a "com/example/pagewright/pagewright/PageRequest") (F0 : Fld Z h0 a "com/example/pagewright/pagewright/PageRequest" "pageNumber" "I" (.int pn)) (F1 : Fld Z h0 a "com/example/pagewright/pagewright/PageRequest" "pageSize" "I" (.int pz)) (h1 : 0 ≤ kt.toInt) : OMet l Z ws (⟨"com/example/pagewright/pagewright/PageRequest", "withTotal", "(J)Lcom/example/pagewright/pagewright/PageRequest;"⟩ : MethodName) prog_3_method_4_code 3 (some (.object "com/example/pagewright/pagewright/PageRequest")) R6 #[(.ref a), (.long kt)] h0 n0 (Q6 Z a kt pn pz h0) := by
  refine OMet.of (plainFor_of_name pn_1) (ef6 a kt) Z0 ?_
  intro p e s m below meth c T0 Y0 hnm
  have Y0 : Sd Z "com/example/pagewright/pagewright/PageRequest" prog_3_method_4_code 3 (some (.object "com/example/pagewright/pagewright/PageRequest")) n0 p l e R6 s m #[(.ref a), (.long kt)] below meth c T0 h0 0 0 := Y0
  have nkt := rng64 kt
  refine Gl.lloadN Y0 rfl d_prog_3_method_4_0 rfl ?_
  refine Gl.lconst Y0 (v := (0 : Int64)) (by decide) d_prog_3_method_4_1 rfl ?_
  refine Gl.lcmpge Y0 d_prog_3_method_4_2 rfl d_prog_3_method_4_3 (by decide) rfl rfl (fun c3 => ?_) (fun c3 => ?_)
  rotate_left
  · exfalso; have j3 : kt.toInt < 0 := Int64.lt_iff_toInt_lt.mp c3; omega
  have j3 : ¬ (kt.toInt < 0) := fun q => c3 (Int64.lt_iff_toInt_lt.mpr q)
  refine Gl.newO Y0 (tw_39 hw) (tw_14 hw) (tw_15 hw) (by decide) (by decide) d_prog_3_method_4_20 rfl (fun T20 h20 b20 Y20 E20 g20 sb20 X20 D20 => ?_)
  have f1 : Fld Z h20 b20 "com/example/pagewright/pagewright/PageRequest" "pageNumber" "I" (.int (0 : Int32)) := D20 (Or.inr (tw_27 hw)) (ty := .int) (by decide)
  have f2 : Fld Z h20 b20 "com/example/pagewright/pagewright/PageRequest" "pageSize" "I" (.int (0 : Int32)) := D20 (Or.inr (tw_29 hw)) (ty := .int) (by decide)
  have f3 : Fld Z h20 b20 "com/example/pagewright/pagewright/PageRequest" "counted" "Z" (.int (0 : Int32)) := D20 (Or.inr (tw_31 hw)) (ty := .boolean) (by decide)
  have f4 : Fld Z h20 b20 "com/example/pagewright/pagewright/PageRequest" "knownTotal" "J" (.long (0 : Int64)) := D20 (Or.inr (tw_33 hw)) (ty := .long) (by decide)
  have zb20 : h0.size ≤ b20 := Nat.le_trans (Keep.refl h0 []).1 (Nat.le_of_eq g20.symm)
  have K20 : Keep h0 h20 [] := (Keep.refl h0 []).ext E20
  show Gl p e below _ (T20.setTop (mkF m 23 #[.val (.ref a), .val (.long kt), .second] [(.ref b20)]))
  refine Gl.dup Y20 rfl d_prog_3_method_4_23 rfl ?_
  refine Gl.aloadN Y20 rfl rfl d_prog_3_method_4_24 rfl ?_
  have f5 : Fld Z h20 a "com/example/pagewright/pagewright/PageRequest" "pageNumber" "I" (.int pn) := (Fld.ext E20 F0)
  refine Gl.getF Y20 (host := "") (Or.inl (tw_26 hw)) Via.refl f5 d_prog_3_method_4_25 rfl (fun T25 Y25 => ?_)
  refine Gl.aloadN Y25 rfl rfl d_prog_3_method_4_28 rfl ?_
  have f6 : Fld Z h20 a "com/example/pagewright/pagewright/PageRequest" "pageSize" "I" (.int pz) := (Fld.ext E20 F1)
  refine Gl.getF Y25 (host := "") (Or.inl (tw_28 hw)) Via.refl f6 d_prog_3_method_4_29 rfl (fun T29 Y29 => ?_)
  refine Gl.iconst Y29 (v := (0 : Int32)) (by decide) d_prog_3_method_4_32 rfl ?_
  refine Gl.lloadN Y29 rfl d_prog_3_method_4_33 rfl ?_
  refine Gl.callN Y29 rfl (tw_20 hw) (tw_21 hw) (tw_15 hw) (tw_22 hw) (by decide) (rm3 l Z a0 hw [] b20 pn pz kt h20 n0 Y29.sz X20 f1 f2 f3 f4 sb20) (a := b20) (argsL := [(.int pn), (.int pz), (.int (0 : Int32)), (.long kt)]) (rest := [(.ref b20)]) rfl rfl (lenOf pd_0 rfl) rfl (by decide) (Nat.le_of_ble_eq_true rfl) (by decide) (by decide) d_prog_3_method_4_34 rfl (fun v34 T34 h34 Y34 q34 => ?_)
  obtain ⟨rfl, K34, f34_0, f34_1, f34_2, f34_3, f34_4⟩ := q34
  have KK34 : Keep h0 h34 [] := K20.trans K34 (allS (Or.inr zb20) all0)
  show Gl p e below _ (T34.setTop (mkF m 37 #[.val (.ref a), .val (.long kt), .second] [(.ref b20)]))
  exact Gl.retA Y34 (by decide) (by decide) rfl rfl d_prog_3_method_4_37 ⟨b20, rfl, KK34, zb20, f34_0, f34_1, f34_2, f34_3, f34_4⟩
theorem d_prog_3_method_3_0 : decode prog_3_method_3_code 0 = .ok (.new 6, 3) := by decide +kernel
theorem d_prog_3_method_3_3 : decode prog_3_method_3_code 3 = .ok (.dup, 1) := by decide +kernel
theorem d_prog_3_method_3_4 : decode prog_3_method_3_code 4 = .ok (.aload_n 0, 1) := by decide +kernel
theorem d_prog_3_method_3_5 : decode prog_3_method_3_code 5 = .ok (.getfield 26, 3) := by decide +kernel
theorem d_prog_3_method_3_8 : decode prog_3_method_3_code 8 = .ok (.aload_n 0, 1) := by decide +kernel
theorem d_prog_3_method_3_9 : decode prog_3_method_3_code 9 = .ok (.getfield 30, 3) := by decide +kernel
theorem d_prog_3_method_3_12 : decode prog_3_method_3_code 12 = .ok (.iconst 0, 1) := by decide +kernel
theorem d_prog_3_method_3_13 : decode prog_3_method_3_code 13 = .ok (.ldc2_w 3, 3) := by decide +kernel
theorem d_prog_3_method_3_16 : decode prog_3_method_3_code 16 = .ok (.invokespecial 5, 3) := by decide +kernel
theorem d_prog_3_method_3_19 : decode prog_3_method_3_code 19 = .ok (.areturn, 1) := by decide +kernel
def R7 : Room := { frames := 2, cells := 1, slots := 4, locals := 30 }
def Q7 (Z : State) (a : Addr) (pn : Int32) (pz : Int32) (h0 : Heap) (v : Option Value) (h : Heap) : Prop := ∃ b : Addr, v = some (.ref b) ∧ Keep h0 h [] ∧ h0.size ≤ b ∧ Exa Z h b "com/example/pagewright/pagewright/PageRequest" ∧ Fld Z h b "com/example/pagewright/pagewright/PageRequest" "pageNumber" "I" (.int pn) ∧ Fld Z h b "com/example/pagewright/pagewright/PageRequest" "pageSize" "I" (.int pz) ∧ Fld Z h b "com/example/pagewright/pagewright/PageRequest" "counted" "Z" (.int (0 : Int32)) ∧ Fld Z h b "com/example/pagewright/pagewright/PageRequest" "knownTotal" "J" (.long (-1 : Int64))
theorem ef7 (a : Addr) (m : MethodId) : entryFrame m #[(.ref a)] 1 = mkF m 0 #[.val (.ref a)] [] := by first | (simp [entryFrame, mkF, argsToLocals, Value.category]; done) | rfl
set_option maxRecDepth 65536 in
set_option maxHeartbeats 40000000 in
theorem rm7 (l : Launch) (Z : State) (a0 : Array Value) (hw : ∀ d ∈ tables_1, d.before a0 Z = true) (ws : List Jvm.Cond) (a : Addr) (pn : Int32) (pz : Int32) (h0 : Heap) (n0 : Nat) (Z0 : n0 ≤ h0.size) (E : Exa Z h0 a "com/example/pagewright/pagewright/PageRequest") (F0 : Fld Z h0 a "com/example/pagewright/pagewright/PageRequest" "pageNumber" "I" (.int pn)) (F1 : Fld Z h0 a "com/example/pagewright/pagewright/PageRequest" "pageSize" "I" (.int pz)) : OMet l Z ws (⟨"com/example/pagewright/pagewright/PageRequest", "withoutCount", "()Lcom/example/pagewright/pagewright/PageRequest;"⟩ : MethodName) prog_3_method_3_code 1 (some (.object "com/example/pagewright/pagewright/PageRequest")) R7 #[(.ref a)] h0 n0 (Q7 Z a pn pz h0) := by
  refine OMet.of (plainFor_of_name pn_1) (ef7 a) Z0 ?_
  intro p e s m below meth c T0 Y0 hnm
  have Y0 : Sd Z "com/example/pagewright/pagewright/PageRequest" prog_3_method_3_code 1 (some (.object "com/example/pagewright/pagewright/PageRequest")) n0 p l e R7 s m #[(.ref a)] below meth c T0 h0 0 0 := Y0
  refine Gl.newO Y0 (tw_39 hw) (tw_14 hw) (tw_15 hw) (by decide) (by decide) d_prog_3_method_3_0 rfl (fun T0_2 h0_2 b0_2 Y0_2 E0_2 g0_2 sb0_2 X0_2 D0_2 => ?_)
  have f1 : Fld Z h0_2 b0_2 "com/example/pagewright/pagewright/PageRequest" "pageNumber" "I" (.int (0 : Int32)) := D0_2 (Or.inr (tw_27 hw)) (ty := .int) (by decide)
  have f2 : Fld Z h0_2 b0_2 "com/example/pagewright/pagewright/PageRequest" "pageSize" "I" (.int (0 : Int32)) := D0_2 (Or.inr (tw_29 hw)) (ty := .int) (by decide)
  have f3 : Fld Z h0_2 b0_2 "com/example/pagewright/pagewright/PageRequest" "counted" "Z" (.int (0 : Int32)) := D0_2 (Or.inr (tw_31 hw)) (ty := .boolean) (by decide)
  have f4 : Fld Z h0_2 b0_2 "com/example/pagewright/pagewright/PageRequest" "knownTotal" "J" (.long (0 : Int64)) := D0_2 (Or.inr (tw_33 hw)) (ty := .long) (by decide)
  have zb0_2 : h0.size ≤ b0_2 := Nat.le_trans (Keep.refl h0 []).1 (Nat.le_of_eq g0_2.symm)
  have K0_2 : Keep h0 h0_2 [] := (Keep.refl h0 []).ext E0_2
  show Gl p e below _ (T0_2.setTop (mkF m 3 #[.val (.ref a)] [(.ref b0_2)]))
  refine Gl.dup Y0_2 rfl d_prog_3_method_3_3 rfl ?_
  refine Gl.aloadN Y0_2 rfl rfl d_prog_3_method_3_4 rfl ?_
  have f5 : Fld Z h0_2 a "com/example/pagewright/pagewright/PageRequest" "pageNumber" "I" (.int pn) := (Fld.ext E0_2 F0)
  refine Gl.getF Y0_2 (host := "") (Or.inl (tw_26 hw)) Via.refl f5 d_prog_3_method_3_5 rfl (fun T5 Y5 => ?_)
  refine Gl.aloadN Y5 rfl rfl d_prog_3_method_3_8 rfl ?_
  have f6 : Fld Z h0_2 a "com/example/pagewright/pagewright/PageRequest" "pageSize" "I" (.int pz) := (Fld.ext E0_2 F1)
  refine Gl.getF Y5 (host := "") (Or.inl (tw_28 hw)) Via.refl f6 d_prog_3_method_3_9 rfl (fun T9 Y9 => ?_)
  refine Gl.iconst Y9 (v := (0 : Int32)) (by decide) d_prog_3_method_3_12 rfl ?_
  refine Gl.ldcJ Y9 (tw_19 hw) d_prog_3_method_3_13 rfl ?_
  refine Gl.callN Y9 rfl (tw_20 hw) (tw_21 hw) (tw_15 hw) (tw_22 hw) (by decide) (rm3 l Z a0 hw [] b0_2 pn pz (-1 : Int64) h0_2 n0 Y9.sz X0_2 f1 f2 f3 f4 sb0_2) (a := b0_2) (argsL := [(.int pn), (.int pz), (.int (0 : Int32)), (.long (-1 : Int64))]) (rest := [(.ref b0_2)]) rfl rfl (lenOf pd_0 rfl) rfl (by decide) (Nat.le_of_ble_eq_true rfl) (by decide) (by decide) d_prog_3_method_3_16 rfl (fun v16 T16 h16 Y16 q16 => ?_)
  obtain ⟨rfl, K16, f16_0, f16_1, f16_2, f16_3, f16_4⟩ := q16
  have KK16 : Keep h0 h16 [] := K0_2.trans K16 (allS (Or.inr zb0_2) all0)
  show Gl p e below _ (T16.setTop (mkF m 19 #[.val (.ref a)] [(.ref b0_2)]))
  exact Gl.retA Y16 (by decide) (by decide) rfl rfl d_prog_3_method_3_19 ⟨b0_2, rfl, KK16, zb0_2, f16_0, f16_1, f16_2, f16_3, f16_4⟩
theorem d_method_2_0 : decode method_2_code 0 = .ok (.new 7, 3) := by decide +kernel
theorem tw_13 {a0 : Array Value} {Z : State} (hw : ∀ d ∈ tables_1, d.before a0 Z = true) : (Jvm.Cond.classLink "com/example/pagewright/pagewright/PageRequestEqualsPinLaw" (7 : Nat) "com/example/pagewright/pagewright/PageRequest").before a0 Z = true := hw _ (List.mem_of_getElem? (i := 13) rfl)
theorem d_method_2_3 : decode method_2_code 3 = .ok (.dup, 1) := by decide +kernel
theorem d_method_2_4 : decode method_2_code 4 = .ok (.iload_n 0, 1) := by decide +kernel
theorem d_method_2_5 : decode method_2_code 5 = .ok (.iload_n 1, 1) := by decide +kernel
theorem d_method_2_6 : decode method_2_code 6 = .ok (.invokespecial 9, 3) := by decide +kernel
theorem tw_16 {a0 : Array Value} {Z : State} (hw : ∀ d ∈ tables_1, d.before a0 Z = true) : (Jvm.Cond.methodLink "com/example/pagewright/pagewright/PageRequestEqualsPinLaw" (9 : Nat) ({ cls := "com/example/pagewright/pagewright/PageRequest", name := "<init>", desc := "(II)V" } : Jvm.MethodName)).before a0 Z = true := hw _ (List.mem_of_getElem? (i := 16) rfl)
theorem pd_1 : parseMethodDescriptor "(II)V" = some ⟨[.int, .int], none⟩ := by decide +kernel
theorem tw_18 {a0 : Array Value} {Z : State} (hw : ∀ d ∈ tables_1, d.before a0 Z = true) : (Jvm.Cond.code ({ cls := "com/example/pagewright/pagewright/PageRequest", name := "<init>", desc := "(II)V" } : Jvm.MethodName) prog_3_method_1_code (3 : Nat) (Option.none : Option Jvm.ClassFile.FieldType)).before a0 Z = true := hw _ (List.mem_of_getElem? (i := 18) rfl)
theorem tw_17 {a0 : Array Value} {Z : State} (hw : ∀ d ∈ tables_1, d.before a0 Z = true) : (Jvm.Cond.instanceMethod ({ cls := "com/example/pagewright/pagewright/PageRequest", name := "<init>", desc := "(II)V" } : Jvm.MethodName)).before a0 Z = true := hw _ (List.mem_of_getElem? (i := 17) rfl)
theorem d_method_2_9 : decode method_2_code 9 = .ok (.astore 5, 2) := by decide +kernel
theorem d_method_2_11 : decode method_2_code 11 = .ok (.iload_n 2, 1) := by decide +kernel
theorem d_method_2_12 : decode method_2_code 12 = .ok (.iconst 1, 1) := by decide +kernel
theorem d_method_2_13 : decode method_2_code 13 = .ok (.if_icmp .ne 9, 3) := by decide +kernel
theorem d_method_2_22 : decode method_2_code 22 = .ok (.iload_n 2, 1) := by decide +kernel
theorem d_method_2_23 : decode method_2_code 23 = .ok (.iconst 2, 1) := by decide +kernel
theorem d_method_2_24 : decode method_2_code 24 = .ok (.if_icmp .lt 10, 3) := by decide +kernel
theorem d_method_2_34 : decode method_2_code 34 = .ok (.aload 5, 2) := by decide +kernel
theorem d_method_2_36 : decode method_2_code 36 = .ok (.areturn, 1) := by decide +kernel
def R8 : Room := { frames := 3, cells := 1, slots := 4, locals := 44 }
def Q8 (Z : State) (pn : Int32) (pz : Int32) (kt : Int64) (h0 : Heap) (v : Option Value) (h : Heap) : Prop := ∃ b : Addr, v = some (.ref b) ∧ Keep h0 h [] ∧ h0.size ≤ b ∧ Exa Z h b "com/example/pagewright/pagewright/PageRequest" ∧ Fld Z h b "com/example/pagewright/pagewright/PageRequest" "pageNumber" "I" (.int pn) ∧ Fld Z h b "com/example/pagewright/pagewright/PageRequest" "pageSize" "I" (.int pz) ∧ Fld Z h b "com/example/pagewright/pagewright/PageRequest" "counted" "Z" (.int (1 : Int32)) ∧ Fld Z h b "com/example/pagewright/pagewright/PageRequest" "knownTotal" "J" (.long (-1 : Int64))
theorem ef8 (pn : Int32) (pz : Int32) (kt : Int64) (m : MethodId) : entryFrame m #[(.int pn), (.int pz), (.int (0 : Int32)), (.long kt)] 6 = mkF m 0 #[.val (.int pn), .val (.int pz), .val (.int (0 : Int32)), .val (.long kt), .second, .unset] [] := by first | (simp [entryFrame, mkF, argsToLocals, Value.category]; done) | rfl
theorem pn_2 : plainName "com/example/pagewright/pagewright/PageRequestEqualsPinLaw" = true := by first | (simp [plainName, overriddenIn]; done) | decide +kernel
set_option maxRecDepth 65536 in
set_option maxHeartbeats 40000000 in
theorem rm8 (l : Launch) (Z : State) (a0 : Array Value) (hw : ∀ d ∈ tables_1, d.before a0 Z = true) (ws : List Jvm.Cond) (pn : Int32) (pz : Int32) (kt : Int64) (h0 : Heap) (n0 : Nat) (Z0 : n0 ≤ h0.size) (h1 : 1 ≤ pn.toInt) (h2 : 0 ≤ pz.toInt) (h3 : 0 ≤ kt.toInt) : OMet l Z ws (⟨"com/example/pagewright/pagewright/PageRequestEqualsPinLaw", "make", "(IIIJ)Lcom/example/pagewright/pagewright/PageRequest;"⟩ : MethodName) method_2_code 6 (some (.object "com/example/pagewright/pagewright/PageRequest")) R8 #[(.int pn), (.int pz), (.int (0 : Int32)), (.long kt)] h0 n0 (Q8 Z pn pz kt h0) := by
  refine OMet.of (plainFor_of_name pn_2) (ef8 pn pz kt) Z0 ?_
  intro p e s m below meth c T0 Y0 hnm
  have Y0 : Sd Z "com/example/pagewright/pagewright/PageRequestEqualsPinLaw" method_2_code 6 (some (.object "com/example/pagewright/pagewright/PageRequest")) n0 p l e R8 s m #[(.int pn), (.int pz), (.int (0 : Int32)), (.long kt)] below meth c T0 h0 0 0 := Y0
  have npn := rng32 pn
  have npz := rng32 pz
  have nkt := rng64 kt
  refine Gl.newO Y0 (tw_13 hw) (tw_14 hw) (tw_15 hw) (by decide) (by decide) d_method_2_0 rfl (fun T0_2 h0_2 b0_2 Y0_2 E0_2 g0_2 sb0_2 X0_2 D0_2 => ?_)
  have f1 : Fld Z h0_2 b0_2 "com/example/pagewright/pagewright/PageRequest" "pageNumber" "I" (.int (0 : Int32)) := D0_2 (Or.inr (tw_27 hw)) (ty := .int) (by decide)
  have f2 : Fld Z h0_2 b0_2 "com/example/pagewright/pagewright/PageRequest" "pageSize" "I" (.int (0 : Int32)) := D0_2 (Or.inr (tw_29 hw)) (ty := .int) (by decide)
  have f3 : Fld Z h0_2 b0_2 "com/example/pagewright/pagewright/PageRequest" "counted" "Z" (.int (0 : Int32)) := D0_2 (Or.inr (tw_31 hw)) (ty := .boolean) (by decide)
  have f4 : Fld Z h0_2 b0_2 "com/example/pagewright/pagewright/PageRequest" "knownTotal" "J" (.long (0 : Int64)) := D0_2 (Or.inr (tw_33 hw)) (ty := .long) (by decide)
  have zb0_2 : h0.size ≤ b0_2 := Nat.le_trans (Keep.refl h0 []).1 (Nat.le_of_eq g0_2.symm)
  have K0_2 : Keep h0 h0_2 [] := (Keep.refl h0 []).ext E0_2
  show Gl p e below _ (T0_2.setTop (mkF m 3 #[.val (.int pn), .val (.int pz), .val (.int (0 : Int32)), .val (.long kt), .second, .unset] [(.ref b0_2)]))
  refine Gl.dup Y0_2 rfl d_method_2_3 rfl ?_
  refine Gl.iloadN Y0_2 rfl d_method_2_4 rfl ?_
  refine Gl.iloadN Y0_2 rfl d_method_2_5 rfl ?_
  refine Gl.callN Y0_2 rfl (tw_16 hw) (tw_17 hw) (tw_15 hw) (tw_18 hw) (by decide) (rm5 l Z a0 hw [] b0_2 pn pz h0_2 n0 Y0_2.sz X0_2 f1 f2 f3 f4 sb0_2 (by first | assumption | decide | omega | (simp; done)) (by first | assumption | decide | omega | (simp; done))) (a := b0_2) (argsL := [(.int pn), (.int pz)]) (rest := [(.ref b0_2)]) rfl rfl (lenOf pd_1 rfl) rfl (by decide) (Nat.le_of_ble_eq_true rfl) (by decide) (by decide) d_method_2_6 rfl (fun v6 T6 h6 Y6 q6 => ?_)
  obtain ⟨rfl, K6, f6_0, f6_1, f6_2, f6_3, f6_4⟩ := q6
  have KK6 : Keep h0 h6 [] := K0_2.trans K6 (allS (Or.inr zb0_2) all0)
  show Gl p e below _ (T6.setTop (mkF m 9 #[.val (.int pn), .val (.int pz), .val (.int (0 : Int32)), .val (.long kt), .second, .unset] [(.ref b0_2)]))
  refine Gl.astore Y6 rfl (L' := #[.val (.int pn), .val (.int pz), .val (.int (0 : Int32)), .val (.long kt), .second, .val (.ref b0_2)]) rfl d_method_2_9 rfl ?_
  refine Gl.iloadN Y6 rfl d_method_2_11 rfl ?_
  refine Gl.iconst Y6 (v := (1 : Int32)) (by decide) d_method_2_12 rfl ?_
  refine Gl.icmpne Y6 d_method_2_13 (by decide) rfl rfl (fun c13 => ?_) (fun c13 => ?_)
  rotate_left
  · exact absurd c13 (by decide)
  refine Gl.iloadN Y6 rfl d_method_2_22 rfl ?_
  refine Gl.iconst Y6 (v := (2 : Int32)) (by decide) d_method_2_23 rfl ?_
  refine Gl.icmplt Y6 d_method_2_24 (by decide) rfl rfl (fun c24 => ?_) (fun c24 => ?_)
  rotate_left
  · exact absurd c24 (by decide)
  refine Gl.aload Y6 rfl rfl d_method_2_34 rfl ?_
  exact Gl.retA Y6 (by decide) (by decide) rfl rfl d_method_2_36 ⟨b0_2, rfl, KK6, zb0_2, f6_0, f6_1, f6_2, f6_3, f6_4⟩
theorem d_method_2_16 : decode method_2_code 16 = .ok (.aload 5, 2) := by decide +kernel
theorem d_method_2_18 : decode method_2_code 18 = .ok (.invokevirtual 12, 3) := by decide +kernel
theorem tw_46 {a0 : Array Value} {Z : State} (hw : ∀ d ∈ tables_1, d.before a0 Z = true) : (Jvm.Cond.methodLink "com/example/pagewright/pagewright/PageRequestEqualsPinLaw" (12 : Nat) ({ cls := "com/example/pagewright/pagewright/PageRequest", name := "withoutCount", desc := "()Lcom/example/pagewright/pagewright/PageRequest;" } : Jvm.MethodName)).before a0 Z = true := hw _ (List.mem_of_getElem? (i := 46) rfl)
theorem pd_2 : parseMethodDescriptor "()Lcom/example/pagewright/pagewright/PageRequest;" = some ⟨[], some (.object "com/example/pagewright/pagewright/PageRequest")⟩ := by decide +kernel
theorem tw_50 {a0 : Array Value} {Z : State} (hw : ∀ d ∈ tables_1, d.before a0 Z = true) : (Jvm.Cond.code ({ cls := "com/example/pagewright/pagewright/PageRequest", name := "withoutCount", desc := "()Lcom/example/pagewright/pagewright/PageRequest;" } : Jvm.MethodName) prog_3_method_3_code (1 : Nat) (Option.some (Jvm.ClassFile.FieldType.object "com/example/pagewright/pagewright/PageRequest"))).before a0 Z = true := hw _ (List.mem_of_getElem? (i := 50) rfl)
theorem tw_47 {a0 : Array Value} {Z : State} (hw : ∀ d ∈ tables_1, d.before a0 Z = true) : (Jvm.Cond.declares ({ cls := "com/example/pagewright/pagewright/PageRequest", name := "withoutCount", desc := "()Lcom/example/pagewright/pagewright/PageRequest;" } : Jvm.MethodName)).before a0 Z = true := hw _ (List.mem_of_getElem? (i := 47) rfl)
theorem tw_49 {a0 : Array Value} {Z : State} (hw : ∀ d ∈ tables_1, d.before a0 Z = true) : (Jvm.Cond.selects "com/example/pagewright/pagewright/PageRequest" ({ cls := "com/example/pagewright/pagewright/PageRequest", name := "withoutCount", desc := "()Lcom/example/pagewright/pagewright/PageRequest;" } : Jvm.MethodName) ({ cls := "com/example/pagewright/pagewright/PageRequest", name := "withoutCount", desc := "()Lcom/example/pagewright/pagewright/PageRequest;" } : Jvm.MethodName)).before a0 Z = true := hw _ (List.mem_of_getElem? (i := 49) rfl)
theorem tw_48 {a0 : Array Value} {Z : State} (hw : ∀ d ∈ tables_1, d.before a0 Z = true) : (Jvm.Cond.instanceMethod ({ cls := "com/example/pagewright/pagewright/PageRequest", name := "withoutCount", desc := "()Lcom/example/pagewright/pagewright/PageRequest;" } : Jvm.MethodName)).before a0 Z = true := hw _ (List.mem_of_getElem? (i := 48) rfl)
theorem d_method_2_21 : decode method_2_code 21 = .ok (.areturn, 1) := by decide +kernel
def R9 : Room := { frames := 3, cells := 2, slots := 8, locals := 44 }
def Q9 (Z : State) (pn : Int32) (pz : Int32) (kt : Int64) (h0 : Heap) (v : Option Value) (h : Heap) : Prop := ∃ b : Addr, v = some (.ref b) ∧ Keep h0 h [] ∧ h0.size ≤ b ∧ Exa Z h b "com/example/pagewright/pagewright/PageRequest" ∧ Fld Z h b "com/example/pagewright/pagewright/PageRequest" "pageNumber" "I" (.int pn) ∧ Fld Z h b "com/example/pagewright/pagewright/PageRequest" "pageSize" "I" (.int pz) ∧ Fld Z h b "com/example/pagewright/pagewright/PageRequest" "counted" "Z" (.int (0 : Int32)) ∧ Fld Z h b "com/example/pagewright/pagewright/PageRequest" "knownTotal" "J" (.long (-1 : Int64))
theorem ef9 (pn : Int32) (pz : Int32) (kt : Int64) (m : MethodId) : entryFrame m #[(.int pn), (.int pz), (.int (1 : Int32)), (.long kt)] 6 = mkF m 0 #[.val (.int pn), .val (.int pz), .val (.int (1 : Int32)), .val (.long kt), .second, .unset] [] := by first | (simp [entryFrame, mkF, argsToLocals, Value.category]; done) | rfl
set_option maxRecDepth 65536 in
set_option maxHeartbeats 40000000 in
theorem rm9 (l : Launch) (Z : State) (a0 : Array Value) (hw : ∀ d ∈ tables_1, d.before a0 Z = true) (ws : List Jvm.Cond) (pn : Int32) (pz : Int32) (kt : Int64) (h0 : Heap) (n0 : Nat) (Z0 : n0 ≤ h0.size) (h1 : 1 ≤ pn.toInt) (h2 : 0 ≤ pz.toInt) (h3 : 0 ≤ kt.toInt) : OMet l Z ws (⟨"com/example/pagewright/pagewright/PageRequestEqualsPinLaw", "make", "(IIIJ)Lcom/example/pagewright/pagewright/PageRequest;"⟩ : MethodName) method_2_code 6 (some (.object "com/example/pagewright/pagewright/PageRequest")) R9 #[(.int pn), (.int pz), (.int (1 : Int32)), (.long kt)] h0 n0 (Q9 Z pn pz kt h0) := by
  refine OMet.of (plainFor_of_name pn_2) (ef9 pn pz kt) Z0 ?_
  intro p e s m below meth c T0 Y0 hnm
  have Y0 : Sd Z "com/example/pagewright/pagewright/PageRequestEqualsPinLaw" method_2_code 6 (some (.object "com/example/pagewright/pagewright/PageRequest")) n0 p l e R9 s m #[(.int pn), (.int pz), (.int (1 : Int32)), (.long kt)] below meth c T0 h0 0 0 := Y0
  have npn := rng32 pn
  have npz := rng32 pz
  have nkt := rng64 kt
  refine Gl.newO Y0 (tw_13 hw) (tw_14 hw) (tw_15 hw) (by decide) (by decide) d_method_2_0 rfl (fun T0_2 h0_2 b0_2 Y0_2 E0_2 g0_2 sb0_2 X0_2 D0_2 => ?_)
  have f1 : Fld Z h0_2 b0_2 "com/example/pagewright/pagewright/PageRequest" "pageNumber" "I" (.int (0 : Int32)) := D0_2 (Or.inr (tw_27 hw)) (ty := .int) (by decide)
  have f2 : Fld Z h0_2 b0_2 "com/example/pagewright/pagewright/PageRequest" "pageSize" "I" (.int (0 : Int32)) := D0_2 (Or.inr (tw_29 hw)) (ty := .int) (by decide)
  have f3 : Fld Z h0_2 b0_2 "com/example/pagewright/pagewright/PageRequest" "counted" "Z" (.int (0 : Int32)) := D0_2 (Or.inr (tw_31 hw)) (ty := .boolean) (by decide)
  have f4 : Fld Z h0_2 b0_2 "com/example/pagewright/pagewright/PageRequest" "knownTotal" "J" (.long (0 : Int64)) := D0_2 (Or.inr (tw_33 hw)) (ty := .long) (by decide)
  have zb0_2 : h0.size ≤ b0_2 := Nat.le_trans (Keep.refl h0 []).1 (Nat.le_of_eq g0_2.symm)
  have K0_2 : Keep h0 h0_2 [] := (Keep.refl h0 []).ext E0_2
  show Gl p e below _ (T0_2.setTop (mkF m 3 #[.val (.int pn), .val (.int pz), .val (.int (1 : Int32)), .val (.long kt), .second, .unset] [(.ref b0_2)]))
  refine Gl.dup Y0_2 rfl d_method_2_3 rfl ?_
  refine Gl.iloadN Y0_2 rfl d_method_2_4 rfl ?_
  refine Gl.iloadN Y0_2 rfl d_method_2_5 rfl ?_
  refine Gl.callN Y0_2 rfl (tw_16 hw) (tw_17 hw) (tw_15 hw) (tw_18 hw) (by decide) (rm5 l Z a0 hw [] b0_2 pn pz h0_2 n0 Y0_2.sz X0_2 f1 f2 f3 f4 sb0_2 (by first | assumption | decide | omega | (simp; done)) (by first | assumption | decide | omega | (simp; done))) (a := b0_2) (argsL := [(.int pn), (.int pz)]) (rest := [(.ref b0_2)]) rfl rfl (lenOf pd_1 rfl) rfl (by decide) (Nat.le_of_ble_eq_true rfl) (by decide) (by decide) d_method_2_6 rfl (fun v6 T6 h6 Y6 q6 => ?_)
  obtain ⟨rfl, K6, f6_0, f6_1, f6_2, f6_3, f6_4⟩ := q6
  have KK6 : Keep h0 h6 [] := K0_2.trans K6 (allS (Or.inr zb0_2) all0)
  show Gl p e below _ (T6.setTop (mkF m 9 #[.val (.int pn), .val (.int pz), .val (.int (1 : Int32)), .val (.long kt), .second, .unset] [(.ref b0_2)]))
  refine Gl.astore Y6 rfl (L' := #[.val (.int pn), .val (.int pz), .val (.int (1 : Int32)), .val (.long kt), .second, .val (.ref b0_2)]) rfl d_method_2_9 rfl ?_
  refine Gl.iloadN Y6 rfl d_method_2_11 rfl ?_
  refine Gl.iconst Y6 (v := (1 : Int32)) (by decide) d_method_2_12 rfl ?_
  refine Gl.icmpne Y6 d_method_2_13 (by decide) rfl rfl (fun c13 => ?_) (fun c13 => ?_)
  · exact absurd c13 (by decide)
  refine Gl.aload Y6 rfl rfl d_method_2_16 rfl ?_
  refine Gl.callV Y6 (tw_46 hw) (tw_47 hw) (tw_49 hw) (tw_49 hw) (tw_48 hw) (tw_15 hw) (tw_50 hw) (by decide) f6_0 (rm7 l Z a0 hw [] b0_2 pn pz h6 n0 Y6.sz f6_0 f6_1 f6_2) (a := b0_2) (argsL := []) (rest := []) rfl rfl (lenOf pd_2 rfl) rfl (by decide) (Nat.le_of_ble_eq_true rfl) (by decide) (by decide) d_method_2_18 rfl (fun v18 T18 h18 Y18 q18 => ?_)
  obtain ⟨b18, rfl, K18, f18_0, f18_1, f18_2, f18_3, f18_4, f18_5⟩ := q18
  have Y18_sz : n0 ≤ h6.size := Y6.sz
  have KK18 : Keep h0 h18 [] := KK6.trans K18 all0
  have zb18 : h0.size ≤ b18 := Nat.le_trans KK6.1 f18_0
  show Gl p e below _ (T18.setTop (mkF m 21 #[.val (.int pn), .val (.int pz), .val (.int (1 : Int32)), .val (.long kt), .second, .val (.ref b0_2)] [(.ref b18)]))
  exact Gl.retA Y18 (by decide) (by decide) rfl rfl d_method_2_21 ⟨b18, rfl, KK18, zb18, f18_1, f18_2, f18_3, f18_4, f18_5⟩
theorem d_method_2_27 : decode method_2_code 27 = .ok (.aload 5, 2) := by decide +kernel
theorem d_method_2_29 : decode method_2_code 29 = .ok (.lload_n 3, 1) := by decide +kernel
theorem d_method_2_30 : decode method_2_code 30 = .ok (.invokevirtual 16, 3) := by decide +kernel
theorem tw_34 {a0 : Array Value} {Z : State} (hw : ∀ d ∈ tables_1, d.before a0 Z = true) : (Jvm.Cond.methodLink "com/example/pagewright/pagewright/PageRequestEqualsPinLaw" (16 : Nat) ({ cls := "com/example/pagewright/pagewright/PageRequest", name := "withTotal", desc := "(J)Lcom/example/pagewright/pagewright/PageRequest;" } : Jvm.MethodName)).before a0 Z = true := hw _ (List.mem_of_getElem? (i := 34) rfl)
theorem pd_3 : parseMethodDescriptor "(J)Lcom/example/pagewright/pagewright/PageRequest;" = some ⟨[.long], some (.object "com/example/pagewright/pagewright/PageRequest")⟩ := by decide +kernel
theorem tw_38 {a0 : Array Value} {Z : State} (hw : ∀ d ∈ tables_1, d.before a0 Z = true) : (Jvm.Cond.code ({ cls := "com/example/pagewright/pagewright/PageRequest", name := "withTotal", desc := "(J)Lcom/example/pagewright/pagewright/PageRequest;" } : Jvm.MethodName) prog_3_method_4_code (3 : Nat) (Option.some (Jvm.ClassFile.FieldType.object "com/example/pagewright/pagewright/PageRequest"))).before a0 Z = true := hw _ (List.mem_of_getElem? (i := 38) rfl)
theorem tw_35 {a0 : Array Value} {Z : State} (hw : ∀ d ∈ tables_1, d.before a0 Z = true) : (Jvm.Cond.declares ({ cls := "com/example/pagewright/pagewright/PageRequest", name := "withTotal", desc := "(J)Lcom/example/pagewright/pagewright/PageRequest;" } : Jvm.MethodName)).before a0 Z = true := hw _ (List.mem_of_getElem? (i := 35) rfl)
theorem tw_37 {a0 : Array Value} {Z : State} (hw : ∀ d ∈ tables_1, d.before a0 Z = true) : (Jvm.Cond.selects "com/example/pagewright/pagewright/PageRequest" ({ cls := "com/example/pagewright/pagewright/PageRequest", name := "withTotal", desc := "(J)Lcom/example/pagewright/pagewright/PageRequest;" } : Jvm.MethodName) ({ cls := "com/example/pagewright/pagewright/PageRequest", name := "withTotal", desc := "(J)Lcom/example/pagewright/pagewright/PageRequest;" } : Jvm.MethodName)).before a0 Z = true := hw _ (List.mem_of_getElem? (i := 37) rfl)
theorem tw_36 {a0 : Array Value} {Z : State} (hw : ∀ d ∈ tables_1, d.before a0 Z = true) : (Jvm.Cond.instanceMethod ({ cls := "com/example/pagewright/pagewright/PageRequest", name := "withTotal", desc := "(J)Lcom/example/pagewright/pagewright/PageRequest;" } : Jvm.MethodName)).before a0 Z = true := hw _ (List.mem_of_getElem? (i := 36) rfl)
theorem d_method_2_33 : decode method_2_code 33 = .ok (.areturn, 1) := by decide +kernel
def R10 : Room := { frames := 3, cells := 2, slots := 8, locals := 44 }
def Q10 (Z : State) (pn : Int32) (pz : Int32) (kt : Int64) (h0 : Heap) (v : Option Value) (h : Heap) : Prop := ∃ b : Addr, v = some (.ref b) ∧ Keep h0 h [] ∧ h0.size ≤ b ∧ Exa Z h b "com/example/pagewright/pagewright/PageRequest" ∧ Fld Z h b "com/example/pagewright/pagewright/PageRequest" "pageNumber" "I" (.int pn) ∧ Fld Z h b "com/example/pagewright/pagewright/PageRequest" "pageSize" "I" (.int pz) ∧ Fld Z h b "com/example/pagewright/pagewright/PageRequest" "counted" "Z" (.int (0 : Int32)) ∧ Fld Z h b "com/example/pagewright/pagewright/PageRequest" "knownTotal" "J" (.long kt)
theorem ef10 (pn : Int32) (pz : Int32) (kt : Int64) (m : MethodId) : entryFrame m #[(.int pn), (.int pz), (.int (2 : Int32)), (.long kt)] 6 = mkF m 0 #[.val (.int pn), .val (.int pz), .val (.int (2 : Int32)), .val (.long kt), .second, .unset] [] := by first | (simp [entryFrame, mkF, argsToLocals, Value.category]; done) | rfl
set_option maxRecDepth 65536 in
set_option maxHeartbeats 40000000 in
theorem rm10 (l : Launch) (Z : State) (a0 : Array Value) (hw : ∀ d ∈ tables_1, d.before a0 Z = true) (ws : List Jvm.Cond) (pn : Int32) (pz : Int32) (kt : Int64) (h0 : Heap) (n0 : Nat) (Z0 : n0 ≤ h0.size) (h1 : 1 ≤ pn.toInt) (h2 : 0 ≤ pz.toInt) (h3 : 0 ≤ kt.toInt) : OMet l Z ws (⟨"com/example/pagewright/pagewright/PageRequestEqualsPinLaw", "make", "(IIIJ)Lcom/example/pagewright/pagewright/PageRequest;"⟩ : MethodName) method_2_code 6 (some (.object "com/example/pagewright/pagewright/PageRequest")) R10 #[(.int pn), (.int pz), (.int (2 : Int32)), (.long kt)] h0 n0 (Q10 Z pn pz kt h0) := by
  refine OMet.of (plainFor_of_name pn_2) (ef10 pn pz kt) Z0 ?_
  intro p e s m below meth c T0 Y0 hnm
  have Y0 : Sd Z "com/example/pagewright/pagewright/PageRequestEqualsPinLaw" method_2_code 6 (some (.object "com/example/pagewright/pagewright/PageRequest")) n0 p l e R10 s m #[(.int pn), (.int pz), (.int (2 : Int32)), (.long kt)] below meth c T0 h0 0 0 := Y0
  have npn := rng32 pn
  have npz := rng32 pz
  have nkt := rng64 kt
  refine Gl.newO Y0 (tw_13 hw) (tw_14 hw) (tw_15 hw) (by decide) (by decide) d_method_2_0 rfl (fun T0_2 h0_2 b0_2 Y0_2 E0_2 g0_2 sb0_2 X0_2 D0_2 => ?_)
  have f1 : Fld Z h0_2 b0_2 "com/example/pagewright/pagewright/PageRequest" "pageNumber" "I" (.int (0 : Int32)) := D0_2 (Or.inr (tw_27 hw)) (ty := .int) (by decide)
  have f2 : Fld Z h0_2 b0_2 "com/example/pagewright/pagewright/PageRequest" "pageSize" "I" (.int (0 : Int32)) := D0_2 (Or.inr (tw_29 hw)) (ty := .int) (by decide)
  have f3 : Fld Z h0_2 b0_2 "com/example/pagewright/pagewright/PageRequest" "counted" "Z" (.int (0 : Int32)) := D0_2 (Or.inr (tw_31 hw)) (ty := .boolean) (by decide)
  have f4 : Fld Z h0_2 b0_2 "com/example/pagewright/pagewright/PageRequest" "knownTotal" "J" (.long (0 : Int64)) := D0_2 (Or.inr (tw_33 hw)) (ty := .long) (by decide)
  have zb0_2 : h0.size ≤ b0_2 := Nat.le_trans (Keep.refl h0 []).1 (Nat.le_of_eq g0_2.symm)
  have K0_2 : Keep h0 h0_2 [] := (Keep.refl h0 []).ext E0_2
  show Gl p e below _ (T0_2.setTop (mkF m 3 #[.val (.int pn), .val (.int pz), .val (.int (2 : Int32)), .val (.long kt), .second, .unset] [(.ref b0_2)]))
  refine Gl.dup Y0_2 rfl d_method_2_3 rfl ?_
  refine Gl.iloadN Y0_2 rfl d_method_2_4 rfl ?_
  refine Gl.iloadN Y0_2 rfl d_method_2_5 rfl ?_
  refine Gl.callN Y0_2 rfl (tw_16 hw) (tw_17 hw) (tw_15 hw) (tw_18 hw) (by decide) (rm5 l Z a0 hw [] b0_2 pn pz h0_2 n0 Y0_2.sz X0_2 f1 f2 f3 f4 sb0_2 (by first | assumption | decide | omega | (simp; done)) (by first | assumption | decide | omega | (simp; done))) (a := b0_2) (argsL := [(.int pn), (.int pz)]) (rest := [(.ref b0_2)]) rfl rfl (lenOf pd_1 rfl) rfl (by decide) (Nat.le_of_ble_eq_true rfl) (by decide) (by decide) d_method_2_6 rfl (fun v6 T6 h6 Y6 q6 => ?_)
  obtain ⟨rfl, K6, f6_0, f6_1, f6_2, f6_3, f6_4⟩ := q6
  have KK6 : Keep h0 h6 [] := K0_2.trans K6 (allS (Or.inr zb0_2) all0)
  show Gl p e below _ (T6.setTop (mkF m 9 #[.val (.int pn), .val (.int pz), .val (.int (2 : Int32)), .val (.long kt), .second, .unset] [(.ref b0_2)]))
  refine Gl.astore Y6 rfl (L' := #[.val (.int pn), .val (.int pz), .val (.int (2 : Int32)), .val (.long kt), .second, .val (.ref b0_2)]) rfl d_method_2_9 rfl ?_
  refine Gl.iloadN Y6 rfl d_method_2_11 rfl ?_
  refine Gl.iconst Y6 (v := (1 : Int32)) (by decide) d_method_2_12 rfl ?_
  refine Gl.icmpne Y6 d_method_2_13 (by decide) rfl rfl (fun c13 => ?_) (fun c13 => ?_)
  rotate_left
  · exact absurd c13 (by decide)
  refine Gl.iloadN Y6 rfl d_method_2_22 rfl ?_
  refine Gl.iconst Y6 (v := (2 : Int32)) (by decide) d_method_2_23 rfl ?_
  refine Gl.icmplt Y6 d_method_2_24 (by decide) rfl rfl (fun c24 => ?_) (fun c24 => ?_)
  · exact absurd c24 (by decide)
  refine Gl.aload Y6 rfl rfl d_method_2_27 rfl ?_
  refine Gl.lloadN Y6 rfl d_method_2_29 rfl ?_
  refine Gl.callV Y6 (tw_34 hw) (tw_35 hw) (tw_37 hw) (tw_37 hw) (tw_36 hw) (tw_15 hw) (tw_38 hw) (by decide) f6_0 (rm6 l Z a0 hw [] b0_2 kt pn pz h6 n0 Y6.sz f6_0 f6_1 f6_2 (by first | assumption | decide | omega | (simp; done))) (a := b0_2) (argsL := [(.long kt)]) (rest := []) rfl rfl (lenOf pd_3 rfl) rfl (by decide) (Nat.le_of_ble_eq_true rfl) (by decide) (by decide) d_method_2_30 rfl (fun v30 T30 h30 Y30 q30 => ?_)
  obtain ⟨b30, rfl, K30, f30_0, f30_1, f30_2, f30_3, f30_4, f30_5⟩ := q30
  have Y30_sz : n0 ≤ h6.size := Y6.sz
  have KK30 : Keep h0 h30 [] := KK6.trans K30 all0
  have zb30 : h0.size ≤ b30 := Nat.le_trans KK6.1 f30_0
  show Gl p e below _ (T30.setTop (mkF m 33 #[.val (.int pn), .val (.int pz), .val (.int (2 : Int32)), .val (.long kt), .second, .val (.ref b0_2)] [(.ref b30)]))
  exact Gl.retA Y30 (by decide) (by decide) rfl rfl d_method_2_33 ⟨b30, rfl, KK30, zb30, f30_1, f30_2, f30_3, f30_4, f30_5⟩
theorem d_jdk_33_method_23_0 : decode jdk_33_method_23_code 0 = .ok (.aload_n 0, 1) := by decide +kernel
theorem d_jdk_33_method_23_1 : decode jdk_33_method_23_code 1 = .ok (.invokespecial 202, 3) := by decide +kernel
theorem tw_67 {a0 : Array Value} {Z : State} (hw : ∀ d ∈ tables_1, d.before a0 Z = true) : (Jvm.Cond.methodLink "java/lang/Integer" (202 : Nat) ({ cls := "java/lang/Number", name := "<init>", desc := "()V" } : Jvm.MethodName)).before a0 Z = true := hw _ (List.mem_of_getElem? (i := 67) rfl)
theorem pd_4 : parseMethodDescriptor "()V" = some ⟨[], none⟩ := by decide +kernel
theorem tw_72 {a0 : Array Value} {Z : State} (hw : ∀ d ∈ tables_1, d.before a0 Z = true) : (Jvm.Cond.code ({ cls := "java/lang/Number", name := "<init>", desc := "()V" } : Jvm.MethodName) jdk_18_method_1_code (1 : Nat) (Option.none : Option Jvm.ClassFile.FieldType)).before a0 Z = true := hw _ (List.mem_of_getElem? (i := 72) rfl)
theorem tw_71 {a0 : Array Value} {Z : State} (hw : ∀ d ∈ tables_1, d.before a0 Z = true) : (Jvm.Cond.initialized "java/lang/Number").before a0 Z = true := hw _ (List.mem_of_getElem? (i := 71) rfl)
theorem tw_68 {a0 : Array Value} {Z : State} (hw : ∀ d ∈ tables_1, d.before a0 Z = true) : (Jvm.Cond.instanceMethod ({ cls := "java/lang/Number", name := "<init>", desc := "()V" } : Jvm.MethodName)).before a0 Z = true := hw _ (List.mem_of_getElem? (i := 68) rfl)
theorem d_jdk_33_method_23_4 : decode jdk_33_method_23_code 4 = .ok (.aload_n 0, 1) := by decide +kernel
theorem d_jdk_33_method_23_5 : decode jdk_33_method_23_code 5 = .ok (.iload_n 1, 1) := by decide +kernel
theorem d_jdk_33_method_23_6 : decode jdk_33_method_23_code 6 = .ok (.putfield 205, 3) := by decide +kernel
theorem tw_74 {a0 : Array Value} {Z : State} (hw : ∀ d ∈ tables_1, d.before a0 Z = true) : (Jvm.Cond.fieldLink "java/lang/Integer" (205 : Nat) "java/lang/Integer" "value" "I").before a0 Z = true := hw _ (List.mem_of_getElem? (i := 74) rfl)
theorem tw_75 {a0 : Array Value} {Z : State} (hw : ∀ d ∈ tables_1, d.before a0 Z = true) : (Jvm.Cond.laysFinal "java/lang/Integer" "java/lang/Integer" "value" "I").before a0 Z = true := hw _ (List.mem_of_getElem? (i := 75) rfl)
theorem tw_62 {a0 : Array Value} {Z : State} (hw : ∀ d ∈ tables_1, d.before a0 Z = true) : (Jvm.Cond.instantiable "java/lang/Integer" (1 : Nat)).before a0 Z = true := hw _ (List.mem_of_getElem? (i := 62) rfl)
theorem d_jdk_33_method_23_9 : decode jdk_33_method_23_code 9 = .ok (.return_, 1) := by decide +kernel
def R11 : Room := { frames := 2, cells := 0, slots := 0, locals := 24 }
def Q11 (Z : State) (a : Addr) (vl : Int32) (h0 : Heap) (v : Option Value) (h : Heap) : Prop := v = none ∧ Keep h0 h [a] ∧ Exa Z h a "java/lang/Integer"
theorem ef11 (a : Addr) (vl : Int32) (m : MethodId) : entryFrame m #[(.ref a), (.int vl)] 2 = mkF m 0 #[.val (.ref a), .val (.int vl)] [] := by first | (simp [entryFrame, mkF, argsToLocals, Value.category]; done) | rfl
theorem pn_3 : plainName "java/lang/Integer" = true := by first | (simp [plainName, overriddenIn]; done) | decide +kernel
set_option maxRecDepth 65536 in
set_option maxHeartbeats 40000000 in
theorem rm11 (l : Launch) (Z : State) (a0 : Array Value) (hw : ∀ d ∈ tables_1, d.before a0 Z = true) (ws : List Jvm.Cond) (a : Addr) (vl : Int32) (h0 : Heap) (n0 : Nat) (Z0 : n0 ≤ h0.size) (E : Exa Z h0 a "java/lang/Integer") (F1 : Fld Z h0 a "java/lang/Integer" "value" "I" (.int (0 : Int32))) (ga : n0 ≤ a) : OMet l Z ws (⟨"java/lang/Integer", "<init>", "(I)V"⟩ : MethodName) jdk_33_method_23_code 2 none R11 #[(.ref a), (.int vl)] h0 n0 (Q11 Z a vl h0) := by
  refine OMet.of (plainFor_of_name pn_3) (ef11 a vl) Z0 ?_
  intro p e s m below meth c T0 Y0 hnm
  have Y0 : Sd Z "java/lang/Integer" jdk_33_method_23_code 2 none n0 p l e R11 s m #[(.ref a), (.int vl)] below meth c T0 h0 0 0 := Y0
  refine Gl.aloadN Y0 rfl rfl d_jdk_33_method_23_0 rfl ?_
  refine Gl.callN Y0 rfl (tw_67 hw) (tw_68 hw) (tw_71 hw) (tw_72 hw) (by decide) (rm0 l Z a0 hw [] a h0 n0 Y0.sz) (a := a) (argsL := []) (rest := []) rfl rfl (lenOf pd_4 rfl) rfl (by decide) (Nat.le_of_ble_eq_true rfl) (by decide) (by decide) d_jdk_33_method_23_1 rfl (fun v1 T1 h1 Y1 q1 => ?_)
  obtain ⟨rfl, rfl⟩ := q1
  show Gl p e below _ (T1.setTop (mkF m 4 #[.val (.ref a), .val (.int vl)] []))
  refine Gl.aloadN Y1 rfl rfl d_jdk_33_method_23_4 rfl ?_
  refine Gl.iloadN Y1 rfl d_jdk_33_method_23_5 rfl ?_
  refine Gl.putF Y1 (host := "") (Or.inl (tw_74 hw)) Via.refl F1 E (Or.inr ⟨(tw_75 hw), rfl, hnm⟩) (tw_62 hw) ga (ty := .int) (by decide) rfl rfl d_jdk_33_method_23_6 rfl (fun T6 h6 Y6 W6 => ?_)
  have f1 : Fld Z h6 a "java/lang/Integer" "value" "I" (.int vl) := Fld.same W6 F1
  have K6 : Keep h0 h6 [a] := (Keep.refl h0 [a]).wr W6 (Or.inl (List.mem_of_getElem? (i := 0) rfl))
  have f2 : Exa Z h6 a "java/lang/Integer" := (Exa.wr W6 E)
  exact Gl.retV Y6 (by decide) (by decide)  d_jdk_33_method_23_9 ⟨rfl, K6, f2⟩
theorem d_jdk_33_method_22_0 : decode jdk_33_method_22_code 0 = .ok (.iload_n 0, 1) := by decide +kernel
theorem d_jdk_33_method_22_1 : decode jdk_33_method_22_code 1 = .ok (.bipush (-128), 2) := by decide +kernel
theorem d_jdk_33_method_22_3 : decode jdk_33_method_22_code 3 = .ok (.if_icmp .lt 20, 3) := by decide +kernel
theorem d_jdk_33_method_22_23 : decode jdk_33_method_22_code 23 = .ok (.new 1, 3) := by decide +kernel
theorem tw_61 {a0 : Array Value} {Z : State} (hw : ∀ d ∈ tables_1, d.before a0 Z = true) : (Jvm.Cond.classLink "java/lang/Integer" (1 : Nat) "java/lang/Integer").before a0 Z = true := hw _ (List.mem_of_getElem? (i := 61) rfl)
theorem tw_53 {a0 : Array Value} {Z : State} (hw : ∀ d ∈ tables_1, d.before a0 Z = true) : (Jvm.Cond.initialized "java/lang/Integer").before a0 Z = true := hw _ (List.mem_of_getElem? (i := 53) rfl)
theorem d_jdk_33_method_22_26 : decode jdk_33_method_22_code 26 = .ok (.dup, 1) := by decide +kernel
theorem d_jdk_33_method_22_27 : decode jdk_33_method_22_code 27 = .ok (.iload_n 0, 1) := by decide +kernel
theorem d_jdk_33_method_22_28 : decode jdk_33_method_22_code 28 = .ok (.invokespecial 199, 3) := by decide +kernel
theorem tw_63 {a0 : Array Value} {Z : State} (hw : ∀ d ∈ tables_1, d.before a0 Z = true) : (Jvm.Cond.methodLink "java/lang/Integer" (199 : Nat) ({ cls := "java/lang/Integer", name := "<init>", desc := "(I)V" } : Jvm.MethodName)).before a0 Z = true := hw _ (List.mem_of_getElem? (i := 63) rfl)
theorem pd_5 : parseMethodDescriptor "(I)V" = some ⟨[.int], none⟩ := by decide +kernel
theorem tw_66 {a0 : Array Value} {Z : State} (hw : ∀ d ∈ tables_1, d.before a0 Z = true) : (Jvm.Cond.code ({ cls := "java/lang/Integer", name := "<init>", desc := "(I)V" } : Jvm.MethodName) jdk_33_method_23_code (2 : Nat) (Option.none : Option Jvm.ClassFile.FieldType)).before a0 Z = true := hw _ (List.mem_of_getElem? (i := 66) rfl)
theorem tw_64 {a0 : Array Value} {Z : State} (hw : ∀ d ∈ tables_1, d.before a0 Z = true) : (Jvm.Cond.instanceMethod ({ cls := "java/lang/Integer", name := "<init>", desc := "(I)V" } : Jvm.MethodName)).before a0 Z = true := hw _ (List.mem_of_getElem? (i := 64) rfl)
theorem d_jdk_33_method_22_31 : decode jdk_33_method_22_code 31 = .ok (.areturn, 1) := by decide +kernel
theorem d_jdk_33_method_22_6 : decode jdk_33_method_22_code 6 = .ok (.iload_n 0, 1) := by decide +kernel
theorem d_jdk_33_method_22_7 : decode jdk_33_method_22_code 7 = .ok (.getstatic 191, 3) := by decide +kernel
theorem tw_55 {a0 : Array Value} {Z : State} (hw : ∀ d ∈ tables_1, d.before a0 Z = true) : (Jvm.Cond.fieldLink "java/lang/Integer" (191 : Nat) "java/lang/Integer$IntegerCache" "high" "I").before a0 Z = true := hw _ (List.mem_of_getElem? (i := 55) rfl)
theorem d_jdk_33_method_22_10 : decode jdk_33_method_22_code 10 = .ok (.if_icmp .gt 13, 3) := by decide +kernel
theorem d_jdk_33_method_22_13 : decode jdk_33_method_22_code 13 = .ok (.getstatic 195, 3) := by decide +kernel
theorem tw_57 {a0 : Array Value} {Z : State} (hw : ∀ d ∈ tables_1, d.before a0 Z = true) : (Jvm.Cond.fieldLink "java/lang/Integer" (195 : Nat) "java/lang/Integer$IntegerCache" "cache" "[Ljava/lang/Integer;").before a0 Z = true := hw _ (List.mem_of_getElem? (i := 57) rfl)
theorem d_jdk_33_method_22_16 : decode jdk_33_method_22_code 16 = .ok (.iload_n 0, 1) := by decide +kernel
theorem d_jdk_33_method_22_17 : decode jdk_33_method_22_code 17 = .ok (.sipush 128, 3) := by decide +kernel
theorem d_jdk_33_method_22_20 : decode jdk_33_method_22_code 20 = .ok (.iadd, 1) := by decide +kernel
theorem d_jdk_33_method_22_21 : decode jdk_33_method_22_code 21 = .ok (.aaload, 1) := by decide +kernel
theorem d_jdk_33_method_22_22 : decode jdk_33_method_22_code 22 = .ok (.areturn, 1) := by decide +kernel
def R12 : Room := { frames := 3, cells := 1, slots := 1, locals := 38 }
def Q12 (Z : State) (vl : Int32) (ca : Addr) (h0 : Heap) (v : Option Value) (h : Heap) : Prop := ∃ b : Addr, v = some (.ref b) ∧ Keep h0 h [] ∧ Exa Z h b "java/lang/Integer"
theorem ef12 (vl : Int32) (m : MethodId) : entryFrame m #[(.int vl)] 1 = mkF m 0 #[.val (.int vl)] [] := by first | (simp [entryFrame, mkF, argsToLocals, Value.category]; done) | rfl
set_option maxRecDepth 65536 in
set_option maxHeartbeats 40000000 in
theorem rm12 (l : Launch) (Z : State) (a0 : Array Value) (hw : ∀ d ∈ tables_1, d.before a0 Z = true) (ws : List Jvm.Cond) (vl : Int32) (ca : Addr) (h0 : Heap) (n0 : Nat) (Z0 : n0 ≤ h0.size) (O : Old Z n0 h0) (S1 : Sta Z Z.heap "java/lang/Integer$IntegerCache" "high" "I" (.int (127 : Int32))) (S : Sta Z Z.heap "java/lang/Integer$IntegerCache" "cache" "[Ljava/lang/Integer;" (.ref ca)) (G : own_cache "java/lang/Integer" Z Z.heap ca) : OMet l Z ws (⟨"java/lang/Integer", "valueOf", "(I)Ljava/lang/Integer;"⟩ : MethodName) jdk_33_method_22_code 1 (some (.object "java/lang/Integer")) R12 #[(.int vl)] h0 n0 (Q12 Z vl ca h0) := by
  refine OMet.of (plainFor_of_name pn_3) (ef12 vl) Z0 ?_
  intro p e s m below meth c T0 Y0 hnm
  have Y0 : Sd Z "java/lang/Integer" jdk_33_method_22_code 1 (some (.object "java/lang/Integer")) n0 p l e R12 s m #[(.int vl)] below meth c T0 h0 0 0 := Y0
  have nvl := rng32 vl
  refine Gl.iloadN Y0 rfl d_jdk_33_method_22_0 rfl ?_
  refine Gl.bipush Y0 (v := (-128 : Int32)) (by decide) d_jdk_33_method_22_1 rfl ?_
  refine Gl.icmplt Y0 d_jdk_33_method_22_3 (by decide) rfl rfl (fun c3 => ?_) (fun c3 => ?_)
  · have j3 : vl.toInt < (-128) := Int32.lt_iff_toInt_lt.mp c3
    refine Gl.newO Y0 (tw_61 hw) (tw_62 hw) (tw_53 hw) (by decide) (by decide) d_jdk_33_method_22_23 rfl (fun T23 h23 b23 Y23 E23 g23 sb23 X23 D23 => ?_)
    have f1 : Fld Z h23 b23 "java/lang/Integer" "value" "I" (.int (0 : Int32)) := D23 (Or.inr (tw_75 hw)) (ty := .int) (by decide)
    have zb23 : h0.size ≤ b23 := Nat.le_trans (Keep.refl h0 []).1 (Nat.le_of_eq g23.symm)
    have K23 : Keep h0 h23 [] := (Keep.refl h0 []).ext E23
    show Gl p e below _ (T23.setTop (mkF m 26 #[.val (.int vl)] [(.ref b23)]))
    refine Gl.dup Y23 rfl d_jdk_33_method_22_26 rfl ?_
    refine Gl.iloadN Y23 rfl d_jdk_33_method_22_27 rfl ?_
    refine Gl.callN Y23 rfl (tw_63 hw) (tw_64 hw) (tw_53 hw) (tw_66 hw) (by decide) (rm11 l Z a0 hw [] b23 vl h23 n0 Y23.sz X23 f1 sb23) (a := b23) (argsL := [(.int vl)]) (rest := [(.ref b23)]) rfl rfl (lenOf pd_5 rfl) rfl (by decide) (Nat.le_of_ble_eq_true rfl) (by decide) (by decide) d_jdk_33_method_22_28 rfl (fun v28 T28 h28 Y28 q28 => ?_)
    obtain ⟨rfl, K28, f28_0⟩ := q28
    have KK28 : Keep h0 h28 [] := K23.trans K28 (allS (Or.inr zb23) all0)
    show Gl p e below _ (T28.setTop (mkF m 31 #[.val (.int vl)] [(.ref b23)]))
    exact Gl.retA Y28 (by decide) (by decide) rfl rfl d_jdk_33_method_22_31 ⟨b23, rfl, KK28, f28_0⟩
  · have j3 : ¬ (vl.toInt < (-128)) := fun q => c3 (Int32.lt_iff_toInt_lt.mpr q)
    refine Gl.iloadN Y0 rfl d_jdk_33_method_22_6 rfl ?_
    refine Gl.getS Y0 (host := "") (Or.inl (tw_55 hw)) Via.refl (Sta.ext O.2 S1) d_jdk_33_method_22_7 rfl (fun T7 Y7 => ?_)
    refine Gl.icmpgt Y7 d_jdk_33_method_22_10 (by decide) rfl rfl (fun c10 => ?_) (fun c10 => ?_)
    · have j10 : 127 < vl.toInt := Int32.lt_iff_toInt_lt.mp c10
      refine Gl.newO Y7 (tw_61 hw) (tw_62 hw) (tw_53 hw) (by decide) (by decide) d_jdk_33_method_22_23 rfl (fun T23 h23 b23 Y23 E23 g23 sb23 X23 D23 => ?_)
      have f2 : Fld Z h23 b23 "java/lang/Integer" "value" "I" (.int (0 : Int32)) := D23 (Or.inr (tw_75 hw)) (ty := .int) (by decide)
      have zb23 : h0.size ≤ b23 := Nat.le_trans (Keep.refl h0 []).1 (Nat.le_of_eq g23.symm)
      have K23 : Keep h0 h23 [] := (Keep.refl h0 []).ext E23
      show Gl p e below _ (T23.setTop (mkF m 26 #[.val (.int vl)] [(.ref b23)]))
      refine Gl.dup Y23 rfl d_jdk_33_method_22_26 rfl ?_
      refine Gl.iloadN Y23 rfl d_jdk_33_method_22_27 rfl ?_
      refine Gl.callN Y23 rfl (tw_63 hw) (tw_64 hw) (tw_53 hw) (tw_66 hw) (by decide) (rm11 l Z a0 hw [] b23 vl h23 n0 Y23.sz X23 f2 sb23) (a := b23) (argsL := [(.int vl)]) (rest := [(.ref b23)]) rfl rfl (lenOf pd_5 rfl) rfl (by decide) (Nat.le_of_ble_eq_true rfl) (by decide) (by decide) d_jdk_33_method_22_28 rfl (fun v28 T28 h28 Y28 q28 => ?_)
      obtain ⟨rfl, K28, f28_0⟩ := q28
      have KK28 : Keep h0 h28 [] := K23.trans K28 (allS (Or.inr zb23) all0)
      show Gl p e below _ (T28.setTop (mkF m 31 #[.val (.int vl)] [(.ref b23)]))
      exact Gl.retA Y28 (by decide) (by decide) rfl rfl d_jdk_33_method_22_31 ⟨b23, rfl, KK28, f28_0⟩
    · have j10 : ¬ (127 < vl.toInt) := fun q => c10 (Int32.lt_iff_toInt_lt.mpr q)
      refine Gl.getS Y7 (host := "") (Or.inl (tw_57 hw)) Via.refl (Sta.ext O.2 S) d_jdk_33_method_22_13 rfl (fun T13 Y13 => ?_)
      refine Gl.iloadN Y13 rfl d_jdk_33_method_22_16 rfl ?_
      refine Gl.sipush Y13 (v := (128 : Int32)) (by decide) d_jdk_33_method_22_17 rfl ?_
      obtain ⟨v20, hv20⟩ : ∃ z : Int32, vl + (128 : Int32) = z := ⟨_, rfl⟩
      have iv20 : v20.toInt = vl.toInt + 128 := by
        have q : (v20.toInt - (vl.toInt + 128)) % 4294967296 = 0 := by have q := c_iadd vl (128 : Int32); rw [hv20] at q; exact q
        have r := rng32 v20
        omega
      refine Gl.iadd Y13 hv20 d_jdk_33_method_22_20 rfl ?_
      refine own_aaload Y13 (own_cache_ext O.2 G) (fun q => absurd (Int32.lt_iff_toInt_lt.mp q) (by simp only [Int32.reduceToInt]; omega)) (Int32.lt_iff_toInt_lt.mpr (by simp only [Int32.reduceToInt]; omega)) d_jdk_33_method_22_21 rfl (fun b21 X21 => ?_)
      exact Gl.retA Y13 (by decide) (by decide) rfl rfl d_jdk_33_method_22_22 ⟨b21, rfl, (Keep.refl h0 []), X21⟩
theorem tw_58 {a0 : Array Value} {Z : State} (hw : ∀ d ∈ tables_1, d.before a0 Z = true) : (Jvm.Cond.superclass "java/lang/Integer" "java/lang/Number").before a0 Z = true := hw _ (List.mem_of_getElem? (i := 58) rfl)
theorem tw_59 {a0 : Array Value} {Z : State} (hw : ∀ d ∈ tables_1, d.before a0 Z = true) : (Jvm.Cond.superclass "java/lang/Number" "java/lang/Object").before a0 Z = true := hw _ (List.mem_of_getElem? (i := 59) rfl)
theorem tw_60 {a0 : Array Value} {Z : State} (hw : ∀ d ∈ tables_1, d.before a0 Z = true) : (Jvm.Cond.noSuperclass "java/lang/Object").before a0 Z = true := hw _ (List.mem_of_getElem? (i := 60) rfl)
theorem d_prog_3_method_9_0 : decode prog_3_method_9_code 0 = .ok (.aload_n 1, 1) := by decide +kernel
theorem d_prog_3_method_9_1 : decode prog_3_method_9_code 1 = .ok (.instanceof 6, 3) := by decide +kernel
theorem d_prog_3_method_9_4 : decode prog_3_method_9_code 4 = .ok (.ifCond .ne 5, 3) := by decide +kernel
theorem d_prog_3_method_9_7 : decode prog_3_method_9_code 7 = .ok (.iconst 0, 1) := by decide +kernel
theorem d_prog_3_method_9_8 : decode prog_3_method_9_code 8 = .ok (.ireturn, 1) := by decide +kernel
def R13 : Room := { frames := 0, cells := 0, slots := 0, locals := 0 }
def Q13 (Z : State) (a : Addr) (h0 : Heap) (v : Option Value) (h : Heap) : Prop := v = some (.int (0 : Int32)) ∧ h0 = h
theorem ef13 (a : Addr) (m : MethodId) : entryFrame m #[(.ref a), .null] 3 = mkF m 0 #[.val (.ref a), .val .null, .unset] [] := by first | (simp [entryFrame, mkF, argsToLocals, Value.category]; done) | rfl
set_option maxRecDepth 65536 in
set_option maxHeartbeats 40000000 in
theorem rm13 (l : Launch) (Z : State) (a0 : Array Value) (hw : ∀ d ∈ tables_1, d.before a0 Z = true) (ws : List Jvm.Cond) (a : Addr) (h0 : Heap) (n0 : Nat) (Z0 : n0 ≤ h0.size) : OMet l Z ws (⟨"com/example/pagewright/pagewright/PageRequest", "equals", "(Ljava/lang/Object;)Z"⟩ : MethodName) prog_3_method_9_code 3 (some .boolean) R13 #[(.ref a), .null] h0 n0 (Q13 Z a h0) := by
  refine OMet.of (plainFor_of_name pn_1) (ef13 a) Z0 ?_
  intro p e s m below meth c T0 Y0 hnm
  have Y0 : Sd Z "com/example/pagewright/pagewright/PageRequest" prog_3_method_9_code 3 (some .boolean) n0 p l e R13 s m #[(.ref a), .null] below meth c T0 h0 0 0 := Y0
  refine Gl.aloadN Y0 rfl rfl d_prog_3_method_9_0 rfl ?_
  refine Gl.instNull Y0 d_prog_3_method_9_1 rfl ?_
  refine Gl.ifne Y0 d_prog_3_method_9_4 (by decide) rfl rfl (fun c4 => ?_) (fun c4 => ?_)
  · exact absurd c4 (by decide)
  refine Gl.iconst Y0 (v := (0 : Int32)) (by decide) d_prog_3_method_9_7 rfl ?_
  exact Gl.retZ Y0 (by decide) (by decide) (x' := (0 : Int32)) (by decide) d_prog_3_method_9_8 ⟨rfl, rfl⟩
def R14 : Room := { frames := 0, cells := 0, slots := 0, locals := 0 }
def Q14 (Z : State) (a : Addr) (b : Addr) (h0 : Heap) (v : Option Value) (h : Heap) : Prop := v = some (.int (0 : Int32)) ∧ h0 = h
theorem ef14 (a : Addr) (b : Addr) (m : MethodId) : entryFrame m #[(.ref a), (.ref b)] 3 = mkF m 0 #[.val (.ref a), .val (.ref b), .unset] [] := by first | (simp [entryFrame, mkF, argsToLocals, Value.category]; done) | rfl
set_option maxRecDepth 65536 in
set_option maxHeartbeats 40000000 in
theorem rm14 (l : Launch) (Z : State) (a0 : Array Value) (hw : ∀ d ∈ tables_1, d.before a0 Z = true) (ws : List Jvm.Cond) (a : Addr) (b : Addr) (h0 : Heap) (n0 : Nat) (Z0 : n0 ≤ h0.size) (E2 : Exa Z h0 b "java/lang/Integer") : OMet l Z ws (⟨"com/example/pagewright/pagewright/PageRequest", "equals", "(Ljava/lang/Object;)Z"⟩ : MethodName) prog_3_method_9_code 3 (some .boolean) R14 #[(.ref a), (.ref b)] h0 n0 (Q14 Z a b h0) := by
  refine OMet.of (plainFor_of_name pn_1) (ef14 a b) Z0 ?_
  intro p e s m below meth c T0 Y0 hnm
  have Y0 : Sd Z "com/example/pagewright/pagewright/PageRequest" prog_3_method_9_code 3 (some .boolean) n0 p l e R14 s m #[(.ref a), (.ref b)] below meth c T0 h0 0 0 := Y0
  refine Gl.aloadN Y0 rfl rfl d_prog_3_method_9_0 rfl ?_
  refine Gl.instNo Y0 (tw_39 hw) E2 (own_ns_no (tw_58 hw) (tw_14 hw) (NS.step (tw_58 hw) (NS.step (tw_59 hw) (own_ns_root (tw_60 hw) (tw_14 hw) (by decide)) (by decide)) (by decide)) (by decide)) d_prog_3_method_9_1 rfl (fun T1 Y1 => ?_)
  refine Gl.ifne Y1 d_prog_3_method_9_4 (by decide) rfl rfl (fun c4 => ?_) (fun c4 => ?_)
  · exact absurd c4 (by decide)
  refine Gl.iconst Y1 (v := (0 : Int32)) (by decide) d_prog_3_method_9_7 rfl ?_
  exact Gl.retZ Y1 (by decide) (by decide) (x' := (0 : Int32)) (by decide) d_prog_3_method_9_8 ⟨rfl, rfl⟩
theorem d_prog_3_method_9_9 : decode prog_3_method_9_code 9 = .ok (.aload_n 1, 1) := by decide +kernel
theorem d_prog_3_method_9_10 : decode prog_3_method_9_code 10 = .ok (.checkcast 6, 3) := by decide +kernel
theorem d_prog_3_method_9_13 : decode prog_3_method_9_code 13 = .ok (.astore_n 2, 1) := by decide +kernel
theorem d_prog_3_method_9_14 : decode prog_3_method_9_code 14 = .ok (.aload_n 0, 1) := by decide +kernel
theorem d_prog_3_method_9_15 : decode prog_3_method_9_code 15 = .ok (.getfield 26, 3) := by decide +kernel
theorem d_prog_3_method_9_18 : decode prog_3_method_9_code 18 = .ok (.aload_n 2, 1) := by decide +kernel
theorem d_prog_3_method_9_19 : decode prog_3_method_9_code 19 = .ok (.getfield 26, 3) := by decide +kernel
theorem d_prog_3_method_9_22 : decode prog_3_method_9_code 22 = .ok (.if_icmp .ne 41, 3) := by decide +kernel
theorem d_prog_3_method_9_25 : decode prog_3_method_9_code 25 = .ok (.aload_n 0, 1) := by decide +kernel
theorem d_prog_3_method_9_26 : decode prog_3_method_9_code 26 = .ok (.getfield 30, 3) := by decide +kernel
theorem d_prog_3_method_9_29 : decode prog_3_method_9_code 29 = .ok (.aload_n 2, 1) := by decide +kernel
theorem d_prog_3_method_9_30 : decode prog_3_method_9_code 30 = .ok (.getfield 30, 3) := by decide +kernel
theorem d_prog_3_method_9_33 : decode prog_3_method_9_code 33 = .ok (.if_icmp .ne 30, 3) := by decide +kernel
theorem d_prog_3_method_9_36 : decode prog_3_method_9_code 36 = .ok (.aload_n 0, 1) := by decide +kernel
theorem d_prog_3_method_9_37 : decode prog_3_method_9_code 37 = .ok (.getfield 33, 3) := by decide +kernel
theorem d_prog_3_method_9_40 : decode prog_3_method_9_code 40 = .ok (.aload_n 2, 1) := by decide +kernel
theorem d_prog_3_method_9_41 : decode prog_3_method_9_code 41 = .ok (.getfield 33, 3) := by decide +kernel
theorem d_prog_3_method_9_44 : decode prog_3_method_9_code 44 = .ok (.if_icmp .ne 19, 3) := by decide +kernel
theorem d_prog_3_method_9_47 : decode prog_3_method_9_code 47 = .ok (.aload_n 0, 1) := by decide +kernel
theorem d_prog_3_method_9_48 : decode prog_3_method_9_code 48 = .ok (.getfield 37, 3) := by decide +kernel
theorem d_prog_3_method_9_51 : decode prog_3_method_9_code 51 = .ok (.aload_n 2, 1) := by decide +kernel
theorem d_prog_3_method_9_52 : decode prog_3_method_9_code 52 = .ok (.getfield 37, 3) := by decide +kernel
theorem d_prog_3_method_9_55 : decode prog_3_method_9_code 55 = .ok (.lcmp, 1) := by decide +kernel
theorem d_prog_3_method_9_56 : decode prog_3_method_9_code 56 = .ok (.ifCond .ne 7, 3) := by decide +kernel
theorem d_prog_3_method_9_59 : decode prog_3_method_9_code 59 = .ok (.iconst 1, 1) := by decide +kernel
theorem d_prog_3_method_9_60 : decode prog_3_method_9_code 60 = .ok (.goto 4, 3) := by decide +kernel
theorem d_prog_3_method_9_64 : decode prog_3_method_9_code 64 = .ok (.ireturn, 1) := by decide +kernel
def R15 : Room := { frames := 0, cells := 0, slots := 0, locals := 0 }
def Q15 (Z : State) (a : Addr) (pn : Int32) (pz : Int32) (co : Int32) (kt : Int64) (h0 : Heap) (v : Option Value) (h : Heap) : Prop := v = some (.int (1 : Int32)) ∧ h0 = h
theorem ef15 (a : Addr) (m : MethodId) : entryFrame m #[(.ref a), (.ref a)] 3 = mkF m 0 #[.val (.ref a), .val (.ref a), .unset] [] := by first | (simp [entryFrame, mkF, argsToLocals, Value.category]; done) | rfl
set_option maxRecDepth 65536 in
set_option maxHeartbeats 40000000 in
theorem rm15 (l : Launch) (Z : State) (a0 : Array Value) (hw : ∀ d ∈ tables_1, d.before a0 Z = true) (ws : List Jvm.Cond) (a : Addr) (pn : Int32) (pz : Int32) (co : Int32) (kt : Int64) (h0 : Heap) (n0 : Nat) (Z0 : n0 ≤ h0.size) (E : Exa Z h0 a "com/example/pagewright/pagewright/PageRequest") (F0 : Fld Z h0 a "com/example/pagewright/pagewright/PageRequest" "pageNumber" "I" (.int pn)) (F1 : Fld Z h0 a "com/example/pagewright/pagewright/PageRequest" "pageSize" "I" (.int pz)) (F2 : Fld Z h0 a "com/example/pagewright/pagewright/PageRequest" "counted" "Z" (.int co)) (F3 : Fld Z h0 a "com/example/pagewright/pagewright/PageRequest" "knownTotal" "J" (.long kt)) : OMet l Z ws (⟨"com/example/pagewright/pagewright/PageRequest", "equals", "(Ljava/lang/Object;)Z"⟩ : MethodName) prog_3_method_9_code 3 (some .boolean) R15 #[(.ref a), (.ref a)] h0 n0 (Q15 Z a pn pz co kt h0) := by
  refine OMet.of (plainFor_of_name pn_1) (ef15 a) Z0 ?_
  intro p e s m below meth c T0 Y0 hnm
  have Y0 : Sd Z "com/example/pagewright/pagewright/PageRequest" prog_3_method_9_code 3 (some .boolean) n0 p l e R15 s m #[(.ref a), (.ref a)] below meth c T0 h0 0 0 := Y0
  refine Gl.aloadN Y0 rfl rfl d_prog_3_method_9_0 rfl ?_
  refine Gl.instY Y0 (tw_39 hw) (Ins.self E) d_prog_3_method_9_1 rfl (fun T1 Y1 => ?_)
  refine Gl.ifne Y1 d_prog_3_method_9_4 (by decide) rfl rfl (fun c4 => ?_) (fun c4 => ?_)
  rotate_left
  · exact absurd c4 (by decide)
  refine Gl.aloadN Y1 rfl rfl d_prog_3_method_9_9 rfl ?_
  refine Gl.castY Y1 (tw_39 hw) (Ins.self E) d_prog_3_method_9_10 rfl (fun T10 Y10 => ?_)
  refine Gl.astoreN Y10 rfl (L' := #[.val (.ref a), .val (.ref a), .val (.ref a)]) rfl d_prog_3_method_9_13 rfl ?_
  refine Gl.aloadN Y10 rfl rfl d_prog_3_method_9_14 rfl ?_
  refine Gl.getF Y10 (host := "") (Or.inl (tw_26 hw)) Via.refl F0 d_prog_3_method_9_15 rfl (fun T15 Y15 => ?_)
  refine Gl.aloadN Y15 rfl rfl d_prog_3_method_9_18 rfl ?_
  refine Gl.getF Y15 (host := "") (Or.inl (tw_26 hw)) Via.refl F0 d_prog_3_method_9_19 rfl (fun T19 Y19 => ?_)
  refine Gl.icmpne Y19 d_prog_3_method_9_22 (by decide) rfl rfl (fun c22 => ?_) (fun c22 => ?_)
  · exact absurd rfl c22
  refine Gl.aloadN Y19 rfl rfl d_prog_3_method_9_25 rfl ?_
  refine Gl.getF Y19 (host := "") (Or.inl (tw_28 hw)) Via.refl F1 d_prog_3_method_9_26 rfl (fun T26 Y26 => ?_)
  refine Gl.aloadN Y26 rfl rfl d_prog_3_method_9_29 rfl ?_
  refine Gl.getF Y26 (host := "") (Or.inl (tw_28 hw)) Via.refl F1 d_prog_3_method_9_30 rfl (fun T30 Y30 => ?_)
  refine Gl.icmpne Y30 d_prog_3_method_9_33 (by decide) rfl rfl (fun c33 => ?_) (fun c33 => ?_)
  · exact absurd rfl c33
  refine Gl.aloadN Y30 rfl rfl d_prog_3_method_9_36 rfl ?_
  refine Gl.getF Y30 (host := "") (Or.inl (tw_30 hw)) Via.refl F2 d_prog_3_method_9_37 rfl (fun T37 Y37 => ?_)
  refine Gl.aloadN Y37 rfl rfl d_prog_3_method_9_40 rfl ?_
  refine Gl.getF Y37 (host := "") (Or.inl (tw_30 hw)) Via.refl F2 d_prog_3_method_9_41 rfl (fun T41 Y41 => ?_)
  refine Gl.icmpne Y41 d_prog_3_method_9_44 (by decide) rfl rfl (fun c44 => ?_) (fun c44 => ?_)
  · exact absurd rfl c44
  refine Gl.aloadN Y41 rfl rfl d_prog_3_method_9_47 rfl ?_
  refine Gl.getF Y41 (host := "") (Or.inl (tw_32 hw)) Via.refl F3 d_prog_3_method_9_48 rfl (fun T48 Y48 => ?_)
  refine Gl.aloadN Y48 rfl rfl d_prog_3_method_9_51 rfl ?_
  refine Gl.getF Y48 (host := "") (Or.inl (tw_32 hw)) Via.refl F3 d_prog_3_method_9_52 rfl (fun T52 Y52 => ?_)
  refine Gl.lcmpne Y52 d_prog_3_method_9_55 rfl d_prog_3_method_9_56 (by decide) rfl rfl (fun c56 => ?_) (fun c56 => ?_)
  · exact absurd rfl c56
  refine Gl.iconst Y52 (v := (1 : Int32)) (by decide) d_prog_3_method_9_59 rfl ?_
  refine Gl.goto Y52 d_prog_3_method_9_60 (by decide) rfl ?_
  exact Gl.retZ Y52 (by decide) (by decide) (x' := (1 : Int32)) (by decide) d_prog_3_method_9_64 ⟨rfl, rfl⟩
theorem d_prog_3_method_9_63 : decode prog_3_method_9_code 63 = .ok (.iconst 0, 1) := by decide +kernel
def R16 : Room := { frames := 0, cells := 0, slots := 0, locals := 0 }
def Q16 (Z : State) (a : Addr) (pn : Int32) (pz : Int32) (co : Int32) (kt : Int64) (b : Addr) (p2 : Int32) (q2 : Int32) (o2 : Int32) (t2 : Int64) (h0 : Heap) (v : Option Value) (h : Heap) : Prop := ∃ r : Int32, v = some (.int r) ∧ ((((pn.toInt = p2.toInt ∧ pz.toInt = q2.toInt ∧ co.toInt = o2.toInt ∧ kt.toInt = t2.toInt) ∧ r.toInt = 1) ∨ (¬ (pn.toInt = p2.toInt ∧ pz.toInt = q2.toInt ∧ co.toInt = o2.toInt ∧ kt.toInt = t2.toInt) ∧ r.toInt = 0)) ∧ (r = 0 ∨ r = 1)) ∧ h0 = h
theorem ef16 (a : Addr) (b : Addr) (m : MethodId) : entryFrame m #[(.ref a), (.ref b)] 3 = mkF m 0 #[.val (.ref a), .val (.ref b), .unset] [] := by first | (simp [entryFrame, mkF, argsToLocals, Value.category]; done) | rfl
set_option maxRecDepth 65536 in
set_option maxHeartbeats 40000000 in
theorem rm16 (l : Launch) (Z : State) (a0 : Array Value) (hw : ∀ d ∈ tables_1, d.before a0 Z = true) (ws : List Jvm.Cond) (a : Addr) (pn : Int32) (pz : Int32) (co : Int32) (kt : Int64) (b : Addr) (p2 : Int32) (q2 : Int32) (o2 : Int32) (t2 : Int64) (h0 : Heap) (n0 : Nat) (Z0 : n0 ≤ h0.size) (E : Exa Z h0 a "com/example/pagewright/pagewright/PageRequest") (F0 : Fld Z h0 a "com/example/pagewright/pagewright/PageRequest" "pageNumber" "I" (.int pn)) (F1 : Fld Z h0 a "com/example/pagewright/pagewright/PageRequest" "pageSize" "I" (.int pz)) (F2 : Fld Z h0 a "com/example/pagewright/pagewright/PageRequest" "counted" "Z" (.int co)) (F3 : Fld Z h0 a "com/example/pagewright/pagewright/PageRequest" "knownTotal" "J" (.long kt)) (E2 : Exa Z h0 b "com/example/pagewright/pagewright/PageRequest") (G0 : Fld Z h0 b "com/example/pagewright/pagewright/PageRequest" "pageNumber" "I" (.int p2)) (G1 : Fld Z h0 b "com/example/pagewright/pagewright/PageRequest" "pageSize" "I" (.int q2)) (G2 : Fld Z h0 b "com/example/pagewright/pagewright/PageRequest" "counted" "Z" (.int o2)) (G3 : Fld Z h0 b "com/example/pagewright/pagewright/PageRequest" "knownTotal" "J" (.long t2)) : OMet l Z ws (⟨"com/example/pagewright/pagewright/PageRequest", "equals", "(Ljava/lang/Object;)Z"⟩ : MethodName) prog_3_method_9_code 3 (some .boolean) R16 #[(.ref a), (.ref b)] h0 n0 (Q16 Z a pn pz co kt b p2 q2 o2 t2 h0) := by
  refine OMet.of (plainFor_of_name pn_1) (ef16 a b) Z0 ?_
  intro p e s m below meth c T0 Y0 hnm
  have Y0 : Sd Z "com/example/pagewright/pagewright/PageRequest" prog_3_method_9_code 3 (some .boolean) n0 p l e R16 s m #[(.ref a), (.ref b)] below meth c T0 h0 0 0 := Y0
  refine Gl.aloadN Y0 rfl rfl d_prog_3_method_9_0 rfl ?_
  refine Gl.instY Y0 (tw_39 hw) (Ins.self E2) d_prog_3_method_9_1 rfl (fun T1 Y1 => ?_)
  refine Gl.ifne Y1 d_prog_3_method_9_4 (by decide) rfl rfl (fun c4 => ?_) (fun c4 => ?_)
  rotate_left
  · exact absurd c4 (by decide)
  refine Gl.aloadN Y1 rfl rfl d_prog_3_method_9_9 rfl ?_
  refine Gl.castY Y1 (tw_39 hw) (Ins.self E2) d_prog_3_method_9_10 rfl (fun T10 Y10 => ?_)
  refine Gl.astoreN Y10 rfl (L' := #[.val (.ref a), .val (.ref b), .val (.ref b)]) rfl d_prog_3_method_9_13 rfl ?_
  refine Gl.aloadN Y10 rfl rfl d_prog_3_method_9_14 rfl ?_
  refine Gl.getF Y10 (host := "") (Or.inl (tw_26 hw)) Via.refl F0 d_prog_3_method_9_15 rfl (fun T15 Y15 => ?_)
  refine Gl.aloadN Y15 rfl rfl d_prog_3_method_9_18 rfl ?_
  refine Gl.getF Y15 (host := "") (Or.inl (tw_26 hw)) Via.refl G0 d_prog_3_method_9_19 rfl (fun T19 Y19 => ?_)
  refine Gl.icmpne Y19 d_prog_3_method_9_22 (by decide) rfl rfl (fun c22 => ?_) (fun c22 => ?_)
  · have j22 : ¬ (pn.toInt = p2.toInt) := fun q => c22 (Int32.toInt_inj.mp q)
    refine Gl.iconst Y19 (v := (0 : Int32)) (by decide) d_prog_3_method_9_63 rfl ?_
    exact Gl.retZ Y19 (by decide) (by decide) (x' := (0 : Int32)) (by decide) d_prog_3_method_9_64 ⟨(0 : Int32), rfl, ⟨(by have q0 : (0 : Int32).toInt = 0 := rfl; have q1 : (1 : Int32).toInt = 1 := rfl; omega), by first | assumption | decide⟩, rfl⟩
  · have j22 : pn.toInt = p2.toInt := congrArg Int32.toInt c22
    refine Gl.aloadN Y19 rfl rfl d_prog_3_method_9_25 rfl ?_
    refine Gl.getF Y19 (host := "") (Or.inl (tw_28 hw)) Via.refl F1 d_prog_3_method_9_26 rfl (fun T26 Y26 => ?_)
    refine Gl.aloadN Y26 rfl rfl d_prog_3_method_9_29 rfl ?_
    refine Gl.getF Y26 (host := "") (Or.inl (tw_28 hw)) Via.refl G1 d_prog_3_method_9_30 rfl (fun T30 Y30 => ?_)
    refine Gl.icmpne Y30 d_prog_3_method_9_33 (by decide) rfl rfl (fun c33 => ?_) (fun c33 => ?_)
    · have j33 : ¬ (pz.toInt = q2.toInt) := fun q => c33 (Int32.toInt_inj.mp q)
      refine Gl.iconst Y30 (v := (0 : Int32)) (by decide) d_prog_3_method_9_63 rfl ?_
      exact Gl.retZ Y30 (by decide) (by decide) (x' := (0 : Int32)) (by decide) d_prog_3_method_9_64 ⟨(0 : Int32), rfl, ⟨(by have q0 : (0 : Int32).toInt = 0 := rfl; have q1 : (1 : Int32).toInt = 1 := rfl; omega), by first | assumption | decide⟩, rfl⟩
    · have j33 : pz.toInt = q2.toInt := congrArg Int32.toInt c33
      refine Gl.aloadN Y30 rfl rfl d_prog_3_method_9_36 rfl ?_
      refine Gl.getF Y30 (host := "") (Or.inl (tw_30 hw)) Via.refl F2 d_prog_3_method_9_37 rfl (fun T37 Y37 => ?_)
      refine Gl.aloadN Y37 rfl rfl d_prog_3_method_9_40 rfl ?_
      refine Gl.getF Y37 (host := "") (Or.inl (tw_30 hw)) Via.refl G2 d_prog_3_method_9_41 rfl (fun T41 Y41 => ?_)
      refine Gl.icmpne Y41 d_prog_3_method_9_44 (by decide) rfl rfl (fun c44 => ?_) (fun c44 => ?_)
      · have j44 : ¬ (co.toInt = o2.toInt) := fun q => c44 (Int32.toInt_inj.mp q)
        refine Gl.iconst Y41 (v := (0 : Int32)) (by decide) d_prog_3_method_9_63 rfl ?_
        exact Gl.retZ Y41 (by decide) (by decide) (x' := (0 : Int32)) (by decide) d_prog_3_method_9_64 ⟨(0 : Int32), rfl, ⟨(by have q0 : (0 : Int32).toInt = 0 := rfl; have q1 : (1 : Int32).toInt = 1 := rfl; omega), by first | assumption | decide⟩, rfl⟩
      · have j44 : co.toInt = o2.toInt := congrArg Int32.toInt c44
        refine Gl.aloadN Y41 rfl rfl d_prog_3_method_9_47 rfl ?_
        refine Gl.getF Y41 (host := "") (Or.inl (tw_32 hw)) Via.refl F3 d_prog_3_method_9_48 rfl (fun T48 Y48 => ?_)
        refine Gl.aloadN Y48 rfl rfl d_prog_3_method_9_51 rfl ?_
        refine Gl.getF Y48 (host := "") (Or.inl (tw_32 hw)) Via.refl G3 d_prog_3_method_9_52 rfl (fun T52 Y52 => ?_)
        obtain ⟨z55, hz55⟩ : ∃ z : Int32, (if kt = t2 then (1 : Int32) else (0 : Int32)) = z := ⟨_, rfl⟩
        have iz55 : (kt.toInt = t2.toInt ∧ (z55.toInt = 1)) ∨ (¬ (kt.toInt = t2.toInt) ∧ (z55.toInt = 0)) := own_ite (c := kt = t2) (fun q4 => ⟨congrArg Int64.toInt q4, congrArg Int32.toInt (show z55 = (1 : Int32) from by rw [← hz55]; simp only [q4, ↓reduceIte, if_true, if_false, ite_self])⟩) (fun q4 => ⟨fun q => q4 (Int64.toInt_inj.mp q), congrArg Int32.toInt (show z55 = (0 : Int32) from by rw [← hz55]; simp only [q4, ↓reduceIte, if_true, if_false, ite_self])⟩)
        have bz55 : z55 = 0 ∨ z55 = 1 := by rw [← hz55]; (repeat' split) <;> first | (simp; done) | assumption
        refine own_cut (B := ∀ T', Sd Z "com/example/pagewright/pagewright/PageRequest" prog_3_method_9_code 3 (some .boolean) n0 p l e R16 s m #[(.ref a), (.ref b)] below meth c T' h0 0 0 → Gl p e below (Pst s n0 R16.cells R16.slots (Q16 Z a pn pz co kt b p2 q2 o2 t2 h0)) (T'.setTop (mkF m 64 #[.val (.ref a), .val (.ref b), .val (.ref b)] [(.int z55)]))) (fun jk => ?_) (fun T55j Y55j => ?_)
        · refine Gl.lcmpne Y52 d_prog_3_method_9_55 rfl d_prog_3_method_9_56 (by decide) rfl rfl (fun c56 => ?_) (fun c56 => ?_)
          · have j56 : ¬ (kt.toInt = t2.toInt) := fun q => c56 (Int64.toInt_inj.mp q)
            refine Gl.iconst Y52 (v := (0 : Int32)) (by decide) d_prog_3_method_9_63 rfl ?_
            have ez55 : z55 = (0 : Int32) := by rw [← hz55]; simp only [c56, ↓reduceIte, if_true, if_false]
            rw [ez55] at jk
            exact jk T52 Y52
          · have j56 : kt.toInt = t2.toInt := congrArg Int64.toInt c56
            refine Gl.iconst Y52 (v := (1 : Int32)) (by decide) d_prog_3_method_9_59 rfl ?_
            refine Gl.goto Y52 d_prog_3_method_9_60 (by decide) rfl ?_
            have ez55 : z55 = (1 : Int32) := by rw [← hz55]; simp only [c56, ↓reduceIte, if_true, if_false]
            rw [ez55] at jk
            exact jk T52 Y52
        exact Gl.retZ Y55j (by decide) (by decide) (x' := z55) (own_narZ bz55) d_prog_3_method_9_64 ⟨z55, rfl, ⟨(by have q0 : (0 : Int32).toInt = 0 := rfl; have q1 : (1 : Int32).toInt = 1 := rfl; omega), by first | assumption | decide⟩, rfl⟩
theorem own_c2 {v : Int32} (h0 : 0 ≤ v.toInt) (h : v.toInt ≤ 2) : v = 0 ∨ v = 1 ∨ v = 2 := by
  have : v.toInt = 0 ∨ v.toInt = 1 ∨ v.toInt = 2 := by omega
  rcases this with q | q | q <;> simp [← Int32.toInt_inj, q]
theorem tw_56 {a0 : Array Value} {Z : State} (hw : ∀ d ∈ tables_1, d.before a0 Z = true) : (Jvm.Cond.initialized "java/lang/Integer$IntegerCache").before a0 Z = true := hw _ (List.mem_of_getElem? (i := 56) rfl)
theorem tw_0 {a0 : Array Value} {Z : State} (hw : ∀ d ∈ tables_1, d.before a0 Z = true) : (Jvm.Cond.constant "com/example/pagewright/pagewright/PageRequestEqualsPinLaw" (20 : Nat) (2147483647 : Int32)).before a0 Z = true := hw _ (List.mem_of_getElem? (i := 0) rfl)
theorem tw_1 {a0 : Array Value} {Z : State} (hw : ∀ d ∈ tables_1, d.before a0 Z = true) : (Jvm.Cond.methodLink "com/example/pagewright/pagewright/PageRequestEqualsPinLaw" (21 : Nat) ({ cls := "java/lang/Math", name := "max", desc := "(II)I" } : Jvm.MethodName)).before a0 Z = true := hw _ (List.mem_of_getElem? (i := 1) rfl)
theorem pd_6 : parseMethodDescriptor "(II)I" = some ⟨[.int, .int], some .int⟩ := by decide +kernel
theorem tw_4 {a0 : Array Value} {Z : State} (hw : ∀ d ∈ tables_1, d.before a0 Z = true) : (Jvm.Cond.code ({ cls := "java/lang/Math", name := "max", desc := "(II)I" } : Jvm.MethodName) jdk_29_method_65_code (2 : Nat) (Option.some Jvm.ClassFile.FieldType.int)).before a0 Z = true := hw _ (List.mem_of_getElem? (i := 4) rfl)
theorem tw_3 {a0 : Array Value} {Z : State} (hw : ∀ d ∈ tables_1, d.before a0 Z = true) : (Jvm.Cond.initialized "java/lang/Math").before a0 Z = true := hw _ (List.mem_of_getElem? (i := 3) rfl)
theorem tw_2 {a0 : Array Value} {Z : State} (hw : ∀ d ∈ tables_1, d.before a0 Z = true) : (Jvm.Cond.static ({ cls := "java/lang/Math", name := "max", desc := "(II)I" } : Jvm.MethodName)).before a0 Z = true := hw _ (List.mem_of_getElem? (i := 2) rfl)
theorem tw_5 {a0 : Array Value} {Z : State} (hw : ∀ d ∈ tables_1, d.before a0 Z = true) : (Jvm.Cond.constantLong "com/example/pagewright/pagewright/PageRequestEqualsPinLaw" (29 : Nat) (9223372036854775807 : Int64)).before a0 Z = true := hw _ (List.mem_of_getElem? (i := 5) rfl)
theorem tw_6 {a0 : Array Value} {Z : State} (hw : ∀ d ∈ tables_1, d.before a0 Z = true) : (Jvm.Cond.methodLink "com/example/pagewright/pagewright/PageRequestEqualsPinLaw" (31 : Nat) ({ cls := "java/lang/Math", name := "min", desc := "(II)I" } : Jvm.MethodName)).before a0 Z = true := hw _ (List.mem_of_getElem? (i := 6) rfl)
theorem tw_8 {a0 : Array Value} {Z : State} (hw : ∀ d ∈ tables_1, d.before a0 Z = true) : (Jvm.Cond.code ({ cls := "java/lang/Math", name := "min", desc := "(II)I" } : Jvm.MethodName) jdk_29_method_69_code (2 : Nat) (Option.some Jvm.ClassFile.FieldType.int)).before a0 Z = true := hw _ (List.mem_of_getElem? (i := 8) rfl)
theorem tw_7 {a0 : Array Value} {Z : State} (hw : ∀ d ∈ tables_1, d.before a0 Z = true) : (Jvm.Cond.static ({ cls := "java/lang/Math", name := "min", desc := "(II)I" } : Jvm.MethodName)).before a0 Z = true := hw _ (List.mem_of_getElem? (i := 7) rfl)
theorem tw_9 {a0 : Array Value} {Z : State} (hw : ∀ d ∈ tables_1, d.before a0 Z = true) : (Jvm.Cond.methodLink "com/example/pagewright/pagewright/PageRequestEqualsPinLaw" (34 : Nat) ({ cls := "com/example/pagewright/pagewright/PageRequestEqualsPinLaw", name := "make", desc := "(IIIJ)Lcom/example/pagewright/pagewright/PageRequest;" } : Jvm.MethodName)).before a0 Z = true := hw _ (List.mem_of_getElem? (i := 9) rfl)
theorem pd_7 : parseMethodDescriptor "(IIIJ)Lcom/example/pagewright/pagewright/PageRequest;" = some ⟨[.int, .int, .int, .long], some (.object "com/example/pagewright/pagewright/PageRequest")⟩ := by decide +kernel
theorem tw_12 {a0 : Array Value} {Z : State} (hw : ∀ d ∈ tables_1, d.before a0 Z = true) : (Jvm.Cond.code ({ cls := "com/example/pagewright/pagewright/PageRequestEqualsPinLaw", name := "make", desc := "(IIIJ)Lcom/example/pagewright/pagewright/PageRequest;" } : Jvm.MethodName) method_2_code (6 : Nat) (Option.some (Jvm.ClassFile.FieldType.object "com/example/pagewright/pagewright/PageRequest"))).before a0 Z = true := hw _ (List.mem_of_getElem? (i := 12) rfl)
theorem tw_11 {a0 : Array Value} {Z : State} (hw : ∀ d ∈ tables_1, d.before a0 Z = true) : (Jvm.Cond.initialized "com/example/pagewright/pagewright/PageRequestEqualsPinLaw").before a0 Z = true := hw _ (List.mem_of_getElem? (i := 11) rfl)
theorem tw_10 {a0 : Array Value} {Z : State} (hw : ∀ d ∈ tables_1, d.before a0 Z = true) : (Jvm.Cond.static ({ cls := "com/example/pagewright/pagewright/PageRequestEqualsPinLaw", name := "make", desc := "(IIIJ)Lcom/example/pagewright/pagewright/PageRequest;" } : Jvm.MethodName)).before a0 Z = true := hw _ (List.mem_of_getElem? (i := 10) rfl)
theorem tw_40 {a0 : Array Value} {Z : State} (hw : ∀ d ∈ tables_1, d.before a0 Z = true) : (Jvm.Cond.methodLink "com/example/pagewright/pagewright/PageRequestEqualsPinLaw" (46 : Nat) ({ cls := "com/example/pagewright/pagewright/PageRequest", name := "equals", desc := "(Ljava/lang/Object;)Z" } : Jvm.MethodName)).before a0 Z = true := hw _ (List.mem_of_getElem? (i := 40) rfl)
theorem pd_8 : parseMethodDescriptor "(Ljava/lang/Object;)Z" = some ⟨[(.object "java/lang/Object")], some .boolean⟩ := by decide +kernel
theorem tw_44 {a0 : Array Value} {Z : State} (hw : ∀ d ∈ tables_1, d.before a0 Z = true) : (Jvm.Cond.code ({ cls := "com/example/pagewright/pagewright/PageRequest", name := "equals", desc := "(Ljava/lang/Object;)Z" } : Jvm.MethodName) prog_3_method_9_code (3 : Nat) (Option.some Jvm.ClassFile.FieldType.boolean)).before a0 Z = true := hw _ (List.mem_of_getElem? (i := 44) rfl)
theorem tw_41 {a0 : Array Value} {Z : State} (hw : ∀ d ∈ tables_1, d.before a0 Z = true) : (Jvm.Cond.declares ({ cls := "com/example/pagewright/pagewright/PageRequest", name := "equals", desc := "(Ljava/lang/Object;)Z" } : Jvm.MethodName)).before a0 Z = true := hw _ (List.mem_of_getElem? (i := 41) rfl)
theorem tw_43 {a0 : Array Value} {Z : State} (hw : ∀ d ∈ tables_1, d.before a0 Z = true) : (Jvm.Cond.selects "com/example/pagewright/pagewright/PageRequest" ({ cls := "com/example/pagewright/pagewright/PageRequest", name := "equals", desc := "(Ljava/lang/Object;)Z" } : Jvm.MethodName) ({ cls := "com/example/pagewright/pagewright/PageRequest", name := "equals", desc := "(Ljava/lang/Object;)Z" } : Jvm.MethodName)).before a0 Z = true := hw _ (List.mem_of_getElem? (i := 43) rfl)
theorem tw_42 {a0 : Array Value} {Z : State} (hw : ∀ d ∈ tables_1, d.before a0 Z = true) : (Jvm.Cond.instanceMethod ({ cls := "com/example/pagewright/pagewright/PageRequest", name := "equals", desc := "(Ljava/lang/Object;)Z" } : Jvm.MethodName)).before a0 Z = true := hw _ (List.mem_of_getElem? (i := 42) rfl)
theorem tw_51 {a0 : Array Value} {Z : State} (hw : ∀ d ∈ tables_1, d.before a0 Z = true) : (Jvm.Cond.methodLink "com/example/pagewright/pagewright/PageRequestEqualsPinLaw" (40 : Nat) ({ cls := "java/lang/Integer", name := "valueOf", desc := "(I)Ljava/lang/Integer;" } : Jvm.MethodName)).before a0 Z = true := hw _ (List.mem_of_getElem? (i := 51) rfl)
theorem pd_9 : parseMethodDescriptor "(I)Ljava/lang/Integer;" = some ⟨[.int], some (.object "java/lang/Integer")⟩ := by decide +kernel
theorem tw_54 {a0 : Array Value} {Z : State} (hw : ∀ d ∈ tables_1, d.before a0 Z = true) : (Jvm.Cond.code ({ cls := "java/lang/Integer", name := "valueOf", desc := "(I)Ljava/lang/Integer;" } : Jvm.MethodName) jdk_33_method_22_code (1 : Nat) (Option.some (Jvm.ClassFile.FieldType.object "java/lang/Integer"))).before a0 Z = true := hw _ (List.mem_of_getElem? (i := 54) rfl)
theorem tw_52 {a0 : Array Value} {Z : State} (hw : ∀ d ∈ tables_1, d.before a0 Z = true) : (Jvm.Cond.static ({ cls := "java/lang/Integer", name := "valueOf", desc := "(I)Ljava/lang/Integer;" } : Jvm.MethodName)).before a0 Z = true := hw _ (List.mem_of_getElem? (i := 52) rfl)
def QL (Z : State) (r1 : Int64) (r2 : Int64) (t1 : Int64) (t2 : Int64) (md : Int32) (ca : Addr) (h0 : Heap) (v : Option Value) (h : Heap) : Prop := v = some (.int 1)
theorem efL (r1 : Int64) (r2 : Int64) (t1 : Int64) (t2 : Int64) (md : Int32) (m : MethodId) : entryFrame m #[(.long r1), (.long r2), (.long t1), (.long t2), (.int md)] maxLocals = mkF m 0 #[.val (.long r1), .second, .val (.long r2), .second, .val (.long t1), .second, .val (.long t2), .second, .val (.int md), .unset, .unset, .unset, .unset, .unset, .unset, .unset, .unset, .unset, .unset, .unset, .unset, .unset, .unset] [] := by first | (simp [entryFrame, mkF, argsToLocals, Value.category, maxLocals]; done) | rfl
set_option maxRecDepth 65536 in
set_option maxHeartbeats 40000000 in
theorem rmL (l : Launch) (Z : State) (a0 : Array Value) (hw : ∀ d ∈ tables_1, d.before a0 Z = true) (ws : List Jvm.Cond) (r1 : Int64) (r2 : Int64) (t1 : Int64) (t2 : Int64) (md : Int32) (ca : Addr) (h0 : Heap) (n0 : Nat) (Z0 : n0 ≤ h0.size) (O : Old Z n0 h0) (S1 : Sta Z Z.heap "java/lang/Integer$IntegerCache" "high" "I" (.int (127 : Int32))) (S : Sta Z Z.heap "java/lang/Integer$IntegerCache" "cache" "[Ljava/lang/Integer;" (.ref ca)) (G : own_cache "java/lang/Integer" Z Z.heap ca) : OMet l Z ws x code maxLocals ret room_1 #[(.long r1), (.long r2), (.long t1), (.long t2), (.int md)] h0 n0 (QL Z r1 r2 t1 t2 md ca h0) := by
  refine OMet.of (plainFor_of_name pn_2) (efL r1 r2 t1 t2 md) Z0 ?_
  intro p e s m below meth c T0 Y0 hnm
  have Y0 : Sd Z "com/example/pagewright/pagewright/PageRequestEqualsPinLaw" code maxLocals (some .boolean) n0 p l e room_1 s m #[(.long r1), (.long r2), (.long t1), (.long t2), (.int md)] below meth c T0 h0 0 0 := Y0
  have nr1 := rng64 r1
  have nr2 := rng64 r2
  have nt1 := rng64 t1
  have nt2 := rng64 t2
  have nmd := rng32 md
  refine Gl.iconst Y0 (v := (1 : Int32)) (by decide) at_0 rfl ?_
  refine Gl.lloadN Y0 rfl at_1 rfl ?_
  refine Gl.bipush Y0 (v := (32 : Int32)) (by decide) at_2 rfl ?_
  obtain ⟨v4, hv4⟩ : ∃ z : Int64, (r1.toUInt64 >>> ((32 : Int32) &&& 0x3f).toInt64.toUInt64).toInt64 = z := ⟨_, rfl⟩
  have iv4 : v4.toInt = (r1.toInt % 18446744073709551616) / 4294967296 := by have q := c_lushr r1 (32 : Int32) 32 (by decide) (by decide); rw [hv4] at q; exact q
  refine Gl.lushr Y0 hv4 at_4 rfl ?_
  obtain ⟨v5, hv5⟩ : ∃ z : Int32, v4.toInt32 = z := ⟨_, rfl⟩
  have mv5 : (v5.toInt - v4.toInt) % 4294967296 = 0 := by have q := c_l2i v4; rw [hv5] at q; exact q
  have nv5 := rng32 v5
  refine Gl.l2i Y0 hv5 at_5 rfl ?_
  refine Gl.ldcI Y0 (tw_0 hw) at_6 rfl ?_
  obtain ⟨v8, hv8⟩ : ∃ z : Int32, v5 &&& (2147483647 : Int32) = z := ⟨_, rfl⟩
  have iv8 : v8.toInt = v5.toInt % 2147483648 := by have q := c_mask v5 (2147483647 : Int32) 31 (by decide) (by decide); rw [hv8] at q; exact q
  refine Gl.iand Y0 hv8 at_8 rfl ?_
  refine Gl.callS Y0 (tw_1 hw) (tw_2 hw) (tw_3 hw) (tw_4 hw) (by decide) (rm1 l Z a0 hw [] (1 : Int32) v8 h0 n0 Y0.sz) (argsL := [(.int (1 : Int32)), (.int v8)]) (rest := []) rfl rfl (lenOf pd_6 rfl) rfl (by decide) (Nat.le_of_ble_eq_true rfl) (by decide) (by decide) at_9 rfl (fun v9 T9 h9 Y9 q9 => ?_)
  obtain ⟨r9, rfl, p9, rfl⟩ := q9
  have kc1 : (1 : Int32).toInt = 1 := by decide
  show Gl p e below _ (T9.setTop (mkF m 12 #[.val (.long r1), .second, .val (.long r2), .second, .val (.long t1), .second, .val (.long t2), .second, .val (.int md), .unset, .unset, .unset, .unset, .unset, .unset, .unset, .unset, .unset, .unset, .unset, .unset, .unset, .unset] [(.int r9)]))
  refine Gl.istore Y9 (L' := #[.val (.long r1), .second, .val (.long r2), .second, .val (.long t1), .second, .val (.long t2), .second, .val (.int md), .val (.int r9), .unset, .unset, .unset, .unset, .unset, .unset, .unset, .unset, .unset, .unset, .unset, .unset, .unset]) rfl at_12 rfl ?_
  refine Gl.lloadN Y9 rfl at_14 rfl ?_
  obtain ⟨v15, hv15⟩ : ∃ z : Int32, r1.toInt32 = z := ⟨_, rfl⟩
  have mv15 : (v15.toInt - r1.toInt) % 4294967296 = 0 := by have q := c_l2i r1; rw [hv15] at q; exact q
  have nv15 := rng32 v15
  refine Gl.l2i Y9 hv15 at_15 rfl ?_
  refine Gl.ldcI Y9 (tw_0 hw) at_16 rfl ?_
  obtain ⟨v18, hv18⟩ : ∃ z : Int32, v15 &&& (2147483647 : Int32) = z := ⟨_, rfl⟩
  have iv18 : v18.toInt = v15.toInt % 2147483648 := by have q := c_mask v15 (2147483647 : Int32) 31 (by decide) (by decide); rw [hv18] at q; exact q
  refine Gl.iand Y9 hv18 at_18 rfl ?_
  refine Gl.istore Y9 (L' := #[.val (.long r1), .second, .val (.long r2), .second, .val (.long t1), .second, .val (.long t2), .second, .val (.int md), .val (.int r9), .val (.int v18), .unset, .unset, .unset, .unset, .unset, .unset, .unset, .unset, .unset, .unset, .unset, .unset]) rfl at_19 rfl ?_
  refine Gl.iconst Y9 (v := (1 : Int32)) (by decide) at_21 rfl ?_
  refine Gl.lloadN Y9 rfl at_22 rfl ?_
  refine Gl.bipush Y9 (v := (32 : Int32)) (by decide) at_23 rfl ?_
  obtain ⟨v25, hv25⟩ : ∃ z : Int64, (r2.toUInt64 >>> ((32 : Int32) &&& 0x3f).toInt64.toUInt64).toInt64 = z := ⟨_, rfl⟩
  have iv25 : v25.toInt = (r2.toInt % 18446744073709551616) / 4294967296 := by have q := c_lushr r2 (32 : Int32) 32 (by decide) (by decide); rw [hv25] at q; exact q
  refine Gl.lushr Y9 hv25 at_25 rfl ?_
  obtain ⟨v26, hv26⟩ : ∃ z : Int32, v25.toInt32 = z := ⟨_, rfl⟩
  have mv26 : (v26.toInt - v25.toInt) % 4294967296 = 0 := by have q := c_l2i v25; rw [hv26] at q; exact q
  have nv26 := rng32 v26
  refine Gl.l2i Y9 hv26 at_26 rfl ?_
  refine Gl.ldcI Y9 (tw_0 hw) at_27 rfl ?_
  obtain ⟨v29, hv29⟩ : ∃ z : Int32, v26 &&& (2147483647 : Int32) = z := ⟨_, rfl⟩
  have iv29 : v29.toInt = v26.toInt % 2147483648 := by have q := c_mask v26 (2147483647 : Int32) 31 (by decide) (by decide); rw [hv29] at q; exact q
  refine Gl.iand Y9 hv29 at_29 rfl ?_
  refine Gl.callS Y9 (tw_1 hw) (tw_2 hw) (tw_3 hw) (tw_4 hw) (by decide) (rm1 l Z a0 hw [] (1 : Int32) v29 h0 n0 Y9.sz) (argsL := [(.int (1 : Int32)), (.int v29)]) (rest := []) rfl rfl (lenOf pd_6 rfl) rfl (by decide) (Nat.le_of_ble_eq_true rfl) (by decide) (by decide) at_30 rfl (fun v30 T30 h30 Y30 q30 => ?_)
  obtain ⟨r30, rfl, p30, rfl⟩ := q30
  show Gl p e below _ (T30.setTop (mkF m 33 #[.val (.long r1), .second, .val (.long r2), .second, .val (.long t1), .second, .val (.long t2), .second, .val (.int md), .val (.int r9), .val (.int v18), .unset, .unset, .unset, .unset, .unset, .unset, .unset, .unset, .unset, .unset, .unset, .unset] [(.int r30)]))
  refine Gl.istore Y30 (L' := #[.val (.long r1), .second, .val (.long r2), .second, .val (.long t1), .second, .val (.long t2), .second, .val (.int md), .val (.int r9), .val (.int v18), .val (.int r30), .unset, .unset, .unset, .unset, .unset, .unset, .unset, .unset, .unset, .unset, .unset]) rfl at_33 rfl ?_
  refine Gl.lloadN Y30 rfl at_35 rfl ?_
  obtain ⟨v36, hv36⟩ : ∃ z : Int32, r2.toInt32 = z := ⟨_, rfl⟩
  have mv36 : (v36.toInt - r2.toInt) % 4294967296 = 0 := by have q := c_l2i r2; rw [hv36] at q; exact q
  have nv36 := rng32 v36
  refine Gl.l2i Y30 hv36 at_36 rfl ?_
  refine Gl.ldcI Y30 (tw_0 hw) at_37 rfl ?_
  obtain ⟨v39, hv39⟩ : ∃ z : Int32, v36 &&& (2147483647 : Int32) = z := ⟨_, rfl⟩
  have iv39 : v39.toInt = v36.toInt % 2147483648 := by have q := c_mask v36 (2147483647 : Int32) 31 (by decide) (by decide); rw [hv39] at q; exact q
  refine Gl.iand Y30 hv39 at_39 rfl ?_
  refine Gl.istore Y30 (L' := #[.val (.long r1), .second, .val (.long r2), .second, .val (.long t1), .second, .val (.long t2), .second, .val (.int md), .val (.int r9), .val (.int v18), .val (.int r30), .val (.int v39), .unset, .unset, .unset, .unset, .unset, .unset, .unset, .unset, .unset, .unset]) rfl at_40 rfl ?_
  refine Gl.iload Y30 rfl at_42 rfl ?_
  refine Gl.bipush Y30 (v := (64 : Int32)) (by decide) at_44 rfl ?_
  obtain ⟨v46, hv46⟩ : ∃ z : Int32, md &&& (64 : Int32) = z := ⟨_, rfl⟩
  have nv46 : 0 ≤ v46.toInt ∧ v46.toInt ≤ 64 := by have q := c_and md (64 : Int32) (by decide); rw [hv46] at q; exact q
  refine Gl.iand Y30 hv46 at_46 rfl ?_
  obtain ⟨z47, hz47⟩ : ∃ z : Int32, (if v46 = (0 : Int32) then r30 else r9) = z := ⟨_, rfl⟩
  have iz47 : (v46.toInt = 0 ∧ (z47.toInt = r30.toInt)) ∨ (¬ (v46.toInt = 0) ∧ (z47.toInt = r9.toInt)) := own_ite (c := v46 = (0 : Int32)) (fun q0 => ⟨congrArg Int32.toInt q0, congrArg Int32.toInt (show z47 = r30 from by rw [← hz47]; simp only [q0, ↓reduceIte, if_true, if_false, ite_self])⟩) (fun q0 => ⟨fun q => q0 (Int32.toInt_inj.mp q), congrArg Int32.toInt (show z47 = r9 from by rw [← hz47]; simp only [q0, ↓reduceIte, if_true, if_false, ite_self])⟩)
  refine own_cut (B := ∀ T', Sd Z "com/example/pagewright/pagewright/PageRequestEqualsPinLaw" code maxLocals (some .boolean) n0 p l e room_1 s m #[(.long r1), (.long r2), (.long t1), (.long t2), (.int md)] below meth c T' h0 0 0 → Gl p e below (Pst s n0 room_1.cells room_1.slots (QL Z r1 r2 t1 t2 md ca h0)) (T'.setTop (mkF m 54 #[.val (.long r1), .second, .val (.long r2), .second, .val (.long t1), .second, .val (.long t2), .second, .val (.int md), .val (.int r9), .val (.int v18), .val (.int z47), .val (.int v39), .unset, .unset, .unset, .unset, .unset, .unset, .unset, .unset, .unset, .unset] []))) (fun jk => ?_) (fun T47j Y47j => ?_)
  · refine Gl.ifeq Y30 at_47 (by decide) rfl rfl (fun c47 => ?_) (fun c47 => ?_)
    · have j47 : v46.toInt = 0 := congrArg Int32.toInt c47
      have ez47 : z47 = r30 := by rw [← hz47]; simp only [c47, ↓reduceIte, if_true, if_false]
      rw [ez47] at jk
      exact jk T30 Y30
    · have j47 : ¬ (v46.toInt = 0) := fun q => c47 (Int32.toInt_inj.mp q)
      refine Gl.iload Y30 rfl at_50 rfl ?_
      refine Gl.istore Y30 (L' := #[.val (.long r1), .second, .val (.long r2), .second, .val (.long t1), .second, .val (.long t2), .second, .val (.int md), .val (.int r9), .val (.int v18), .val (.int r9), .val (.int v39), .unset, .unset, .unset, .unset, .unset, .unset, .unset, .unset, .unset, .unset]) rfl at_52 rfl ?_
      have ez47 : z47 = r9 := by rw [← hz47]; simp only [c47, ↓reduceIte, if_true, if_false]
      rw [ez47] at jk
      exact jk T30 Y30
  refine Gl.iload Y47j rfl at_54 rfl ?_
  refine Gl.sipush Y47j (v := (128 : Int32)) (by decide) at_56 rfl ?_
  obtain ⟨v59, hv59⟩ : ∃ z : Int32, md &&& (128 : Int32) = z := ⟨_, rfl⟩
  have nv59 : 0 ≤ v59.toInt ∧ v59.toInt ≤ 128 := by have q := c_and md (128 : Int32) (by decide); rw [hv59] at q; exact q
  refine Gl.iand Y47j hv59 at_59 rfl ?_
  obtain ⟨z60, hz60⟩ : ∃ z : Int32, (if v59 = (0 : Int32) then v39 else v18) = z := ⟨_, rfl⟩
  have iz60 : (v59.toInt = 0 ∧ (z60.toInt = v39.toInt)) ∨ (¬ (v59.toInt = 0) ∧ (z60.toInt = v18.toInt)) := own_ite (c := v59 = (0 : Int32)) (fun q0 => ⟨congrArg Int32.toInt q0, congrArg Int32.toInt (show z60 = v39 from by rw [← hz60]; simp only [q0, ↓reduceIte, if_true, if_false, ite_self])⟩) (fun q0 => ⟨fun q => q0 (Int32.toInt_inj.mp q), congrArg Int32.toInt (show z60 = v18 from by rw [← hz60]; simp only [q0, ↓reduceIte, if_true, if_false, ite_self])⟩)
  refine own_cut (B := ∀ T', Sd Z "com/example/pagewright/pagewright/PageRequestEqualsPinLaw" code maxLocals (some .boolean) n0 p l e room_1 s m #[(.long r1), (.long r2), (.long t1), (.long t2), (.int md)] below meth c T' h0 0 0 → Gl p e below (Pst s n0 room_1.cells room_1.slots (QL Z r1 r2 t1 t2 md ca h0)) (T'.setTop (mkF m 67 #[.val (.long r1), .second, .val (.long r2), .second, .val (.long t1), .second, .val (.long t2), .second, .val (.int md), .val (.int r9), .val (.int v18), .val (.int z47), .val (.int z60), .unset, .unset, .unset, .unset, .unset, .unset, .unset, .unset, .unset, .unset] []))) (fun jk => ?_) (fun T60j Y60j => ?_)
  · refine Gl.ifeq Y47j at_60 (by decide) rfl rfl (fun c60 => ?_) (fun c60 => ?_)
    · have j60 : v59.toInt = 0 := congrArg Int32.toInt c60
      have ez60 : z60 = v39 := by rw [← hz60]; simp only [c60, ↓reduceIte, if_true, if_false]
      rw [ez60] at jk
      exact jk T47j Y47j
    · have j60 : ¬ (v59.toInt = 0) := fun q => c60 (Int32.toInt_inj.mp q)
      refine Gl.iload Y47j rfl at_63 rfl ?_
      refine Gl.istore Y47j (L' := #[.val (.long r1), .second, .val (.long r2), .second, .val (.long t1), .second, .val (.long t2), .second, .val (.int md), .val (.int r9), .val (.int v18), .val (.int z47), .val (.int v18), .unset, .unset, .unset, .unset, .unset, .unset, .unset, .unset, .unset, .unset]) rfl at_65 rfl ?_
      have ez60 : z60 = v18 := by rw [← hz60]; simp only [c60, ↓reduceIte, if_true, if_false]
      rw [ez60] at jk
      exact jk T47j Y47j
  refine Gl.lload Y60j rfl at_67 rfl ?_
  refine Gl.ldcJ Y60j (tw_5 hw) at_69 rfl ?_
  obtain ⟨v72, hv72⟩ : ∃ z : Int64, t1 &&& (9223372036854775807 : Int64) = z := ⟨_, rfl⟩
  have iv72 : v72.toInt = t1.toInt % 9223372036854775808 := by have q := c_maskL t1 (9223372036854775807 : Int64) 63 (by decide) (by decide); rw [hv72] at q; exact q
  refine Gl.land Y60j hv72 at_72 rfl ?_
  refine Gl.lstore Y60j (L' := #[.val (.long r1), .second, .val (.long r2), .second, .val (.long t1), .second, .val (.long t2), .second, .val (.int md), .val (.int r9), .val (.int v18), .val (.int z47), .val (.int z60), .val (.long v72), .second, .unset, .unset, .unset, .unset, .unset, .unset, .unset, .unset]) rfl at_73 rfl ?_
  refine Gl.lload Y60j rfl at_75 rfl ?_
  refine Gl.ldcJ Y60j (tw_5 hw) at_77 rfl ?_
  obtain ⟨v80, hv80⟩ : ∃ z : Int64, t2 &&& (9223372036854775807 : Int64) = z := ⟨_, rfl⟩
  have iv80 : v80.toInt = t2.toInt % 9223372036854775808 := by have q := c_maskL t2 (9223372036854775807 : Int64) 63 (by decide) (by decide); rw [hv80] at q; exact q
  refine Gl.land Y60j hv80 at_80 rfl ?_
  refine Gl.lstore Y60j (L' := #[.val (.long r1), .second, .val (.long r2), .second, .val (.long t1), .second, .val (.long t2), .second, .val (.int md), .val (.int r9), .val (.int v18), .val (.int z47), .val (.int z60), .val (.long v72), .second, .val (.long v80), .second, .unset, .unset, .unset, .unset, .unset, .unset]) rfl at_81 rfl ?_
  refine Gl.iload Y60j rfl at_83 rfl ?_
  refine Gl.sipush Y60j (v := (256 : Int32)) (by decide) at_85 rfl ?_
  obtain ⟨v88, hv88⟩ : ∃ z : Int32, md &&& (256 : Int32) = z := ⟨_, rfl⟩
  have nv88 : 0 ≤ v88.toInt ∧ v88.toInt ≤ 256 := by have q := c_and md (256 : Int32) (by decide); rw [hv88] at q; exact q
  refine Gl.iand Y60j hv88 at_88 rfl ?_
  obtain ⟨z89, hz89⟩ : ∃ z : Int64, (if v88 = (0 : Int32) then v80 else v72) = z := ⟨_, rfl⟩
  have iz89 : (v88.toInt = 0 ∧ (z89.toInt = v80.toInt)) ∨ (¬ (v88.toInt = 0) ∧ (z89.toInt = v72.toInt)) := own_ite (c := v88 = (0 : Int32)) (fun q0 => ⟨congrArg Int32.toInt q0, congrArg Int64.toInt (show z89 = v80 from by rw [← hz89]; simp only [q0, ↓reduceIte, if_true, if_false, ite_self])⟩) (fun q0 => ⟨fun q => q0 (Int32.toInt_inj.mp q), congrArg Int64.toInt (show z89 = v72 from by rw [← hz89]; simp only [q0, ↓reduceIte, if_true, if_false, ite_self])⟩)
  refine own_cut (B := ∀ T', Sd Z "com/example/pagewright/pagewright/PageRequestEqualsPinLaw" code maxLocals (some .boolean) n0 p l e room_1 s m #[(.long r1), (.long r2), (.long t1), (.long t2), (.int md)] below meth c T' h0 0 0 → Gl p e below (Pst s n0 room_1.cells room_1.slots (QL Z r1 r2 t1 t2 md ca h0)) (T'.setTop (mkF m 96 #[.val (.long r1), .second, .val (.long r2), .second, .val (.long t1), .second, .val (.long t2), .second, .val (.int md), .val (.int r9), .val (.int v18), .val (.int z47), .val (.int z60), .val (.long v72), .second, .val (.long z89), .second, .unset, .unset, .unset, .unset, .unset, .unset] []))) (fun jk => ?_) (fun T89j Y89j => ?_)
  · refine Gl.ifeq Y60j at_89 (by decide) rfl rfl (fun c89 => ?_) (fun c89 => ?_)
    · have j89 : v88.toInt = 0 := congrArg Int32.toInt c89
      have ez89 : z89 = v80 := by rw [← hz89]; simp only [c89, ↓reduceIte, if_true, if_false]
      rw [ez89] at jk
      exact jk T60j Y60j
    · have j89 : ¬ (v88.toInt = 0) := fun q => c89 (Int32.toInt_inj.mp q)
      refine Gl.lload Y60j rfl at_92 rfl ?_
      refine Gl.lstore Y60j (L' := #[.val (.long r1), .second, .val (.long r2), .second, .val (.long t1), .second, .val (.long t2), .second, .val (.int md), .val (.int r9), .val (.int v18), .val (.int z47), .val (.int z60), .val (.long v72), .second, .val (.long v72), .second, .unset, .unset, .unset, .unset, .unset, .unset]) rfl at_94 rfl ?_
      have ez89 : z89 = v72 := by rw [← hz89]; simp only [c89, ↓reduceIte, if_true, if_false]
      rw [ez89] at jk
      exact jk T60j Y60j
  refine Gl.iconst Y89j (v := (2 : Int32)) (by decide) at_96 rfl ?_
  refine Gl.iload Y89j rfl at_97 rfl ?_
  refine Gl.iconst Y89j (v := (3 : Int32)) (by decide) at_99 rfl ?_
  obtain ⟨v100, hv100⟩ : ∃ z : Int32, md &&& (3 : Int32) = z := ⟨_, rfl⟩
  have iv100 : v100.toInt = md.toInt % 4 := by have q := c_mask md (3 : Int32) 2 (by decide) (by decide); rw [hv100] at q; exact q
  refine Gl.iand Y89j hv100 at_100 rfl ?_
  refine Gl.callS Y89j (tw_6 hw) (tw_7 hw) (tw_3 hw) (tw_8 hw) (by decide) (rm2 l Z a0 hw [] (2 : Int32) v100 h0 n0 Y89j.sz) (argsL := [(.int (2 : Int32)), (.int v100)]) (rest := []) rfl rfl (lenOf pd_6 rfl) rfl (by decide) (Nat.le_of_ble_eq_true rfl) (by decide) (by decide) at_101 rfl (fun v101 T101 h101 Y101 q101 => ?_)
  obtain ⟨r101, rfl, p101, rfl⟩ := q101
  have kc2 : (2 : Int32).toInt = 2 := by decide
  show Gl p e below _ (T101.setTop (mkF m 104 #[.val (.long r1), .second, .val (.long r2), .second, .val (.long t1), .second, .val (.long t2), .second, .val (.int md), .val (.int r9), .val (.int v18), .val (.int z47), .val (.int z60), .val (.long v72), .second, .val (.long z89), .second, .unset, .unset, .unset, .unset, .unset, .unset] [(.int r101)]))
  refine Gl.istore Y101 (L' := #[.val (.long r1), .second, .val (.long r2), .second, .val (.long t1), .second, .val (.long t2), .second, .val (.int md), .val (.int r9), .val (.int v18), .val (.int z47), .val (.int z60), .val (.long v72), .second, .val (.long z89), .second, .val (.int r101), .unset, .unset, .unset, .unset, .unset]) rfl at_104 rfl ?_
  refine Gl.iconst Y101 (v := (2 : Int32)) (by decide) at_106 rfl ?_
  refine Gl.iload Y101 rfl at_107 rfl ?_
  refine Gl.iconst Y101 (v := (2 : Int32)) (by decide) at_109 rfl ?_
  obtain ⟨v110, hv110⟩ : ∃ z : Int32, (md.toUInt32 >>> ((2 : Int32) &&& 31).toUInt32).toInt32 = z := ⟨_, rfl⟩
  have iv110 : v110.toInt = (md.toInt % 4294967296) / 4 := by have q := c_iushr md (2 : Int32) 2 (by decide) (by decide); rw [hv110] at q; exact q
  refine Gl.iushr Y101 hv110 at_110 rfl ?_
  refine Gl.iconst Y101 (v := (3 : Int32)) (by decide) at_111 rfl ?_
  obtain ⟨v112, hv112⟩ : ∃ z : Int32, v110 &&& (3 : Int32) = z := ⟨_, rfl⟩
  have iv112 : v112.toInt = v110.toInt % 4 := by have q := c_mask v110 (3 : Int32) 2 (by decide) (by decide); rw [hv112] at q; exact q
  refine Gl.iand Y101 hv112 at_112 rfl ?_
  refine Gl.callS Y101 (tw_6 hw) (tw_7 hw) (tw_3 hw) (tw_8 hw) (by decide) (rm2 l Z a0 hw [] (2 : Int32) v112 h0 n0 Y101.sz) (argsL := [(.int (2 : Int32)), (.int v112)]) (rest := []) rfl rfl (lenOf pd_6 rfl) rfl (by decide) (Nat.le_of_ble_eq_true rfl) (by decide) (by decide) at_113 rfl (fun v113 T113 h113 Y113 q113 => ?_)
  obtain ⟨r113, rfl, p113, rfl⟩ := q113
  show Gl p e below _ (T113.setTop (mkF m 116 #[.val (.long r1), .second, .val (.long r2), .second, .val (.long t1), .second, .val (.long t2), .second, .val (.int md), .val (.int r9), .val (.int v18), .val (.int z47), .val (.int z60), .val (.long v72), .second, .val (.long z89), .second, .val (.int r101), .unset, .unset, .unset, .unset, .unset] [(.int r113)]))
  refine Gl.istore Y113 (L' := #[.val (.long r1), .second, .val (.long r2), .second, .val (.long t1), .second, .val (.long t2), .second, .val (.int md), .val (.int r9), .val (.int v18), .val (.int z47), .val (.int z60), .val (.long v72), .second, .val (.long z89), .second, .val (.int r101), .val (.int r113), .unset, .unset, .unset, .unset]) rfl at_116 rfl ?_
  have cs_r101 : r101 = (0 : Int32) ∨ r101 = (1 : Int32) ∨ r101 = (2 : Int32) := own_c2 (by omega) (by omega)
  rcases cs_r101 with rfl | rfl | rfl
  · refine Gl.iload Y113 rfl at_118 rfl ?_
    refine Gl.iconst Y113 (v := (4 : Int32)) (by decide) at_120 rfl ?_
    obtain ⟨v121, hv121⟩ : ∃ z : Int32, (md.toUInt32 >>> ((4 : Int32) &&& 31).toUInt32).toInt32 = z := ⟨_, rfl⟩
    have iv121 : v121.toInt = (md.toInt % 4294967296) / 16 := by have q := c_iushr md (4 : Int32) 4 (by decide) (by decide); rw [hv121] at q; exact q
    refine Gl.iushr Y113 hv121 at_121 rfl ?_
    refine Gl.iconst Y113 (v := (3 : Int32)) (by decide) at_122 rfl ?_
    obtain ⟨v123, hv123⟩ : ∃ z : Int32, v121 &&& (3 : Int32) = z := ⟨_, rfl⟩
    have iv123 : v123.toInt = v121.toInt % 4 := by have q := c_mask v121 (3 : Int32) 2 (by decide) (by decide); rw [hv123] at q; exact q
    refine Gl.iand Y113 hv123 at_123 rfl ?_
    refine Gl.istore Y113 (L' := #[.val (.long r1), .second, .val (.long r2), .second, .val (.long t1), .second, .val (.long t2), .second, .val (.int md), .val (.int r9), .val (.int v18), .val (.int z47), .val (.int z60), .val (.long v72), .second, .val (.long z89), .second, .val (.int (0 : Int32)), .val (.int r113), .val (.int v123), .unset, .unset, .unset]) rfl at_124 rfl ?_
    refine Gl.iload Y113 rfl at_126 rfl ?_
    refine Gl.iload Y113 rfl at_128 rfl ?_
    refine Gl.iload Y113 rfl at_130 rfl ?_
    refine Gl.lload Y113 rfl at_132 rfl ?_
    refine Gl.callS Y113 (tw_9 hw) (tw_10 hw) (tw_11 hw) (tw_12 hw) (by decide) (rm8 l Z a0 hw [] r9 v18 v72 h0 n0 Y113.sz (by first | assumption | decide | omega | (simp; done)) (by first | assumption | decide | omega | (simp; done)) (by first | assumption | decide | omega | (simp; done))) (argsL := [(.int r9), (.int v18), (.int (0 : Int32)), (.long v72)]) (rest := []) rfl rfl (lenOf pd_7 rfl) rfl (by decide) (Nat.le_of_ble_eq_true rfl) (by decide) (by decide) at_134 rfl (fun v134 T134 h134 Y134 q134 => ?_)
    obtain ⟨b134, rfl, K134, f134_0, f134_1, f134_2, f134_3, f134_4, f134_5⟩ := q134
    have Y134_sz : n0 ≤ h0.size := Y113.sz
    show Gl p e below _ (T134.setTop (mkF m 137 #[.val (.long r1), .second, .val (.long r2), .second, .val (.long t1), .second, .val (.long t2), .second, .val (.int md), .val (.int r9), .val (.int v18), .val (.int z47), .val (.int z60), .val (.long v72), .second, .val (.long z89), .second, .val (.int (0 : Int32)), .val (.int r113), .val (.int v123), .unset, .unset, .unset] [(.ref b134)]))
    refine Gl.astore Y134 rfl (L' := #[.val (.long r1), .second, .val (.long r2), .second, .val (.long t1), .second, .val (.long t2), .second, .val (.int md), .val (.int r9), .val (.int v18), .val (.int z47), .val (.int z60), .val (.long v72), .second, .val (.long z89), .second, .val (.int (0 : Int32)), .val (.int r113), .val (.int v123), .val (.ref b134), .unset, .unset]) rfl at_137 rfl ?_
    refine Gl.iload Y134 rfl at_139 rfl ?_
    refine Gl.iconst Y134 (v := (1 : Int32)) (by decide) at_141 rfl ?_
    refine Gl.icmpne Y134 at_142 (by decide) rfl rfl (fun c142 => ?_) (fun c142 => ?_)
    · have j142 : ¬ (v123.toInt = 1) := fun q => c142 (Int32.toInt_inj.mp q)
      refine Gl.iload Y134 rfl at_154 rfl ?_
      refine Gl.iconst Y134 (v := (2 : Int32)) (by decide) at_156 rfl ?_
      refine Gl.icmpne Y134 at_157 (by decide) rfl rfl (fun c157 => ?_) (fun c157 => ?_)
      · have j157 : ¬ (v123.toInt = 2) := fun q => c157 (Int32.toInt_inj.mp q)
        refine Gl.iload Y134 rfl at_173 rfl ?_
        refine Gl.iconst Y134 (v := (3 : Int32)) (by decide) at_175 rfl ?_
        refine Gl.icmpne Y134 at_176 (by decide) rfl rfl (fun c176 => ?_) (fun c176 => ?_)
        · have j176 : ¬ (v123.toInt = 3) := fun q => c176 (Int32.toInt_inj.mp q)
          have cs_r113 : r113 = (0 : Int32) ∨ r113 = (1 : Int32) ∨ r113 = (2 : Int32) := own_c2 (by omega) (by omega)
          rcases cs_r113 with rfl | rfl | rfl
          · refine Gl.iload Y134 rfl at_189 rfl ?_
            refine Gl.iload Y134 rfl at_191 rfl ?_
            refine Gl.iload Y134 rfl at_193 rfl ?_
            refine Gl.lload Y134 rfl at_195 rfl ?_
            refine Gl.callS Y134 (tw_9 hw) (tw_10 hw) (tw_11 hw) (tw_12 hw) (by decide) (rm8 l Z a0 hw [] z47 z60 z89 h134 n0 Y134.sz (by first | assumption | decide | omega | (simp; done)) (by first | assumption | decide | omega | (simp; done)) (by first | assumption | decide | omega | (simp; done))) (argsL := [(.int z47), (.int z60), (.int (0 : Int32)), (.long z89)]) (rest := []) rfl rfl (lenOf pd_7 rfl) rfl (by decide) (Nat.le_of_ble_eq_true rfl) (by decide) (by decide) at_197 rfl (fun v197 T197 h197 Y197 q197 => ?_)
            obtain ⟨b197, rfl, K197, f197_0, f197_1, f197_2, f197_3, f197_4, f197_5⟩ := q197
            have Y197_sz : n0 ≤ h134.size := Y134.sz
            show Gl p e below _ (T197.setTop (mkF m 200 #[.val (.long r1), .second, .val (.long r2), .second, .val (.long t1), .second, .val (.long t2), .second, .val (.int md), .val (.int r9), .val (.int v18), .val (.int z47), .val (.int z60), .val (.long v72), .second, .val (.long z89), .second, .val (.int (0 : Int32)), .val (.int (0 : Int32)), .val (.int v123), .val (.ref b134), .unset, .unset] [(.ref b197)]))
            refine Gl.astore Y197 rfl (L' := #[.val (.long r1), .second, .val (.long r2), .second, .val (.long t1), .second, .val (.long t2), .second, .val (.int md), .val (.int r9), .val (.int v18), .val (.int z47), .val (.int z60), .val (.long v72), .second, .val (.long z89), .second, .val (.int (0 : Int32)), .val (.int (0 : Int32)), .val (.int v123), .val (.ref b134), .val (.ref b197), .unset]) rfl at_200 rfl ?_
            refine Gl.iload Y197 rfl at_202 rfl ?_
            refine Gl.iload Y197 rfl at_204 rfl ?_
            obtain ⟨z206, hz206⟩ : ∃ z : Int32, (if r9 = z47 then (if v18 = z60 then (1 : Int32) else (0 : Int32)) else (0 : Int32)) = z := ⟨_, rfl⟩
            have iz206 : (r9.toInt = z47.toInt ∧ ((v18.toInt = z60.toInt ∧ (z206.toInt = 1)) ∨ (¬ (v18.toInt = z60.toInt) ∧ (z206.toInt = 0)))) ∨ (¬ (r9.toInt = z47.toInt) ∧ (z206.toInt = 0)) := own_ite (c := r9 = z47) (fun q3 => ⟨congrArg Int32.toInt q3, own_ite (c := v18 = z60) (fun q4 => ⟨congrArg Int32.toInt q4, congrArg Int32.toInt (show z206 = (1 : Int32) from by rw [← hz206]; simp only [q3, q4, ↓reduceIte, if_true, if_false, ite_self])⟩) (fun q4 => ⟨fun q => q4 (Int32.toInt_inj.mp q), congrArg Int32.toInt (show z206 = (0 : Int32) from by rw [← hz206]; simp only [q3, q4, ↓reduceIte, if_true, if_false, ite_self])⟩)⟩) (fun q3 => ⟨fun q => q3 (Int32.toInt_inj.mp q), congrArg Int32.toInt (show z206 = (0 : Int32) from by rw [← hz206]; simp only [q3, ↓reduceIte, if_true, if_false, ite_self])⟩)
            have bz206 : z206 = 0 ∨ z206 = 1 := by rw [← hz206]; (repeat' split) <;> first | (simp; done) | assumption
            refine own_cut (B := ∀ T', Sd Z "com/example/pagewright/pagewright/PageRequestEqualsPinLaw" code maxLocals (some .boolean) n0 p l e room_1 s m #[(.long r1), (.long r2), (.long t1), (.long t2), (.int md)] below meth c T' h197 2 8 → Gl p e below (Pst s n0 room_1.cells room_1.slots (QL Z r1 r2 t1 t2 md ca h0)) (T'.setTop (mkF m 242 #[.val (.long r1), .second, .val (.long r2), .second, .val (.long t1), .second, .val (.long t2), .second, .val (.int md), .val (.int r9), .val (.int v18), .val (.int z47), .val (.int z60), .val (.long v72), .second, .val (.long z89), .second, .val (.int (0 : Int32)), .val (.int (0 : Int32)), .val (.int v123), .val (.ref b134), .val (.ref b197), .unset] [(.int z206)]))) (fun jk => ?_) (fun T206j Y206j => ?_)
            · refine Gl.icmpne Y197 at_206 (by decide) rfl rfl (fun c206 => ?_) (fun c206 => ?_)
              · have j206 : ¬ (r9.toInt = z47.toInt) := fun q => c206 (Int32.toInt_inj.mp q)
                refine Gl.iconst Y197 (v := (0 : Int32)) (by decide) at_241 rfl ?_
                have ez206 : z206 = (0 : Int32) := by rw [← hz206]; simp only [c206, ↓reduceIte, if_true, if_false]
                rw [ez206] at jk
                exact jk T197 Y197
              · have j206 : r9.toInt = z47.toInt := congrArg Int32.toInt c206
                refine Gl.iload Y197 rfl at_209 rfl ?_
                refine Gl.iload Y197 rfl at_211 rfl ?_
                refine Gl.icmpne Y197 at_213 (by decide) rfl rfl (fun c213 => ?_) (fun c213 => ?_)
                · have j213 : ¬ (v18.toInt = z60.toInt) := fun q => c213 (Int32.toInt_inj.mp q)
                  refine Gl.iconst Y197 (v := (0 : Int32)) (by decide) at_241 rfl ?_
                  have ez206 : z206 = (0 : Int32) := by rw [← hz206]; simp only [c206, c213, ↓reduceIte, if_true, if_false]
                  rw [ez206] at jk
                  exact jk T197 Y197
                · have j213 : v18.toInt = z60.toInt := congrArg Int32.toInt c213
                  refine Gl.iload Y197 rfl at_216 rfl ?_
                  refine Gl.iload Y197 rfl at_218 rfl ?_
                  refine Gl.icmpne Y197 at_220 (by decide) rfl rfl (fun c220 => ?_) (fun c220 => ?_)
                  · exact absurd c220 (by decide)
                  refine Gl.iload Y197 rfl at_223 rfl ?_
                  refine Gl.iconst Y197 (v := (2 : Int32)) (by decide) at_225 rfl ?_
                  refine Gl.icmplt Y197 at_226 (by decide) rfl rfl (fun c226 => ?_) (fun c226 => ?_)
                  rotate_left
                  · exact absurd c226 (by decide)
                  refine Gl.iconst Y197 (v := (1 : Int32)) (by decide) at_237 rfl ?_
                  refine Gl.goto Y197 at_238 (by decide) rfl ?_
                  have ez206 : z206 = (1 : Int32) := by rw [← hz206]; simp only [c206, c213, c220, c226, ↓reduceIte, if_true, if_false]
                  rw [ez206] at jk
                  exact jk T197 Y197
            refine Gl.istore Y206j (L' := #[.val (.long r1), .second, .val (.long r2), .second, .val (.long t1), .second, .val (.long t2), .second, .val (.int md), .val (.int r9), .val (.int v18), .val (.int z47), .val (.int z60), .val (.long v72), .second, .val (.long z89), .second, .val (.int (0 : Int32)), .val (.int (0 : Int32)), .val (.int v123), .val (.ref b134), .val (.ref b197), .val (.int z206)]) rfl at_242 rfl ?_
            refine Gl.aload Y206j rfl rfl at_244 rfl ?_
            refine Gl.aload Y206j rfl rfl at_246 rfl ?_
            have f3 : Exa Z h197 b134 "com/example/pagewright/pagewright/PageRequest" := (f134_1.keep K197)
            have f4 : Fld Z h197 b134 "com/example/pagewright/pagewright/PageRequest" "pageNumber" "I" (.int r9) := (f134_2.keep K197 nin0)
            have f5 : Fld Z h197 b134 "com/example/pagewright/pagewright/PageRequest" "pageSize" "I" (.int v18) := (f134_3.keep K197 nin0)
            have f6 : Fld Z h197 b134 "com/example/pagewright/pagewright/PageRequest" "counted" "Z" (.int (1 : Int32)) := (f134_4.keep K197 nin0)
            have f7 : Fld Z h197 b134 "com/example/pagewright/pagewright/PageRequest" "knownTotal" "J" (.long (-1 : Int64)) := (f134_5.keep K197 nin0)
            refine Gl.callV Y206j (tw_40 hw) (tw_41 hw) (tw_43 hw) (tw_43 hw) (tw_42 hw) (tw_15 hw) (tw_44 hw) (by decide) f3 (rm16 l Z a0 hw [] b134 r9 v18 (1 : Int32) (-1 : Int64) b197 z47 z60 (1 : Int32) (-1 : Int64) h197 n0 Y206j.sz f3 f4 f5 f6 f7 f197_1 f197_2 f197_3 f197_4 f197_5) (a := b134) (argsL := [(.ref b197)]) (rest := []) rfl rfl (lenOf pd_8 rfl) rfl (by decide) (Nat.le_of_ble_eq_true rfl) (by decide) (by decide) at_248 rfl (fun v248 T248 h248 Y248 q248 => ?_)
            obtain ⟨r248, rfl, p248, rfl⟩ := q248
            have kc8 : (-1 : Int64).toInt = (-1) := by decide
            have br248 : r248 = 0 ∨ r248 = 1 := p248.2
            show Gl p e below _ (T248.setTop (mkF m 251 #[.val (.long r1), .second, .val (.long r2), .second, .val (.long t1), .second, .val (.long t2), .second, .val (.int md), .val (.int r9), .val (.int v18), .val (.int z47), .val (.int z60), .val (.long v72), .second, .val (.long z89), .second, .val (.int (0 : Int32)), .val (.int (0 : Int32)), .val (.int v123), .val (.ref b134), .val (.ref b197), .val (.int z206)] [(.int r248)]))
            refine Gl.iload Y248 rfl at_251 rfl ?_
            refine Gl.icmpne Y248 at_253 (by decide) rfl rfl (fun c253 => ?_) (fun c253 => ?_)
            · exfalso; have j253 : ¬ (r248.toInt = z206.toInt) := fun q => c253 (Int32.toInt_inj.mp q); omega
            have j253 : r248.toInt = z206.toInt := congrArg Int32.toInt c253
            refine Gl.iconst Y248 (v := (1 : Int32)) (by decide) at_256 rfl ?_
            refine Gl.goto Y248 at_257 (by decide) rfl ?_
            exact Gl.retZ Y248 (by decide) (by decide) (x' := (1 : Int32)) (by decide) at_261 rfl
          · refine Gl.iload Y134 rfl at_189 rfl ?_
            refine Gl.iload Y134 rfl at_191 rfl ?_
            refine Gl.iload Y134 rfl at_193 rfl ?_
            refine Gl.lload Y134 rfl at_195 rfl ?_
            refine Gl.callS Y134 (tw_9 hw) (tw_10 hw) (tw_11 hw) (tw_12 hw) (by decide) (rm9 l Z a0 hw [] z47 z60 z89 h134 n0 Y134.sz (by first | assumption | decide | omega | (simp; done)) (by first | assumption | decide | omega | (simp; done)) (by first | assumption | decide | omega | (simp; done))) (argsL := [(.int z47), (.int z60), (.int (1 : Int32)), (.long z89)]) (rest := []) rfl rfl (lenOf pd_7 rfl) rfl (by decide) (Nat.le_of_ble_eq_true rfl) (by decide) (by decide) at_197 rfl (fun v197 T197 h197 Y197 q197 => ?_)
            obtain ⟨b197, rfl, K197, f197_0, f197_1, f197_2, f197_3, f197_4, f197_5⟩ := q197
            have Y197_sz : n0 ≤ h134.size := Y134.sz
            show Gl p e below _ (T197.setTop (mkF m 200 #[.val (.long r1), .second, .val (.long r2), .second, .val (.long t1), .second, .val (.long t2), .second, .val (.int md), .val (.int r9), .val (.int v18), .val (.int z47), .val (.int z60), .val (.long v72), .second, .val (.long z89), .second, .val (.int (0 : Int32)), .val (.int (1 : Int32)), .val (.int v123), .val (.ref b134), .unset, .unset] [(.ref b197)]))
            refine Gl.astore Y197 rfl (L' := #[.val (.long r1), .second, .val (.long r2), .second, .val (.long t1), .second, .val (.long t2), .second, .val (.int md), .val (.int r9), .val (.int v18), .val (.int z47), .val (.int z60), .val (.long v72), .second, .val (.long z89), .second, .val (.int (0 : Int32)), .val (.int (1 : Int32)), .val (.int v123), .val (.ref b134), .val (.ref b197), .unset]) rfl at_200 rfl ?_
            refine Gl.iload Y197 rfl at_202 rfl ?_
            refine Gl.iload Y197 rfl at_204 rfl ?_
            refine own_cut (B := ∀ T', Sd Z "com/example/pagewright/pagewright/PageRequestEqualsPinLaw" code maxLocals (some .boolean) n0 p l e room_1 s m #[(.long r1), (.long r2), (.long t1), (.long t2), (.int md)] below meth c T' h197 3 12 → Gl p e below (Pst s n0 room_1.cells room_1.slots (QL Z r1 r2 t1 t2 md ca h0)) (T'.setTop (mkF m 242 #[.val (.long r1), .second, .val (.long r2), .second, .val (.long t1), .second, .val (.long t2), .second, .val (.int md), .val (.int r9), .val (.int v18), .val (.int z47), .val (.int z60), .val (.long v72), .second, .val (.long z89), .second, .val (.int (0 : Int32)), .val (.int (1 : Int32)), .val (.int v123), .val (.ref b134), .val (.ref b197), .unset] [(.int (0 : Int32))]))) (fun jk => ?_) (fun T206j Y206j => ?_)
            · refine Gl.icmpne Y197 at_206 (by decide) rfl rfl (fun c206 => ?_) (fun c206 => ?_)
              · have j206 : ¬ (r9.toInt = z47.toInt) := fun q => c206 (Int32.toInt_inj.mp q)
                refine Gl.iconst Y197 (v := (0 : Int32)) (by decide) at_241 rfl ?_
                exact jk T197 Y197
              · have j206 : r9.toInt = z47.toInt := congrArg Int32.toInt c206
                refine Gl.iload Y197 rfl at_209 rfl ?_
                refine Gl.iload Y197 rfl at_211 rfl ?_
                refine Gl.icmpne Y197 at_213 (by decide) rfl rfl (fun c213 => ?_) (fun c213 => ?_)
                · have j213 : ¬ (v18.toInt = z60.toInt) := fun q => c213 (Int32.toInt_inj.mp q)
                  refine Gl.iconst Y197 (v := (0 : Int32)) (by decide) at_241 rfl ?_
                  exact jk T197 Y197
                · have j213 : v18.toInt = z60.toInt := congrArg Int32.toInt c213
                  refine Gl.iload Y197 rfl at_216 rfl ?_
                  refine Gl.iload Y197 rfl at_218 rfl ?_
                  refine Gl.icmpne Y197 at_220 (by decide) rfl rfl (fun c220 => ?_) (fun c220 => ?_)
                  rotate_left
                  · exact absurd c220 (by decide)
                  refine Gl.iconst Y197 (v := (0 : Int32)) (by decide) at_241 rfl ?_
                  exact jk T197 Y197
            refine Gl.istore Y206j (L' := #[.val (.long r1), .second, .val (.long r2), .second, .val (.long t1), .second, .val (.long t2), .second, .val (.int md), .val (.int r9), .val (.int v18), .val (.int z47), .val (.int z60), .val (.long v72), .second, .val (.long z89), .second, .val (.int (0 : Int32)), .val (.int (1 : Int32)), .val (.int v123), .val (.ref b134), .val (.ref b197), .val (.int (0 : Int32))]) rfl at_242 rfl ?_
            refine Gl.aload Y206j rfl rfl at_244 rfl ?_
            refine Gl.aload Y206j rfl rfl at_246 rfl ?_
            have f9 : Exa Z h197 b134 "com/example/pagewright/pagewright/PageRequest" := (f134_1.keep K197)
            have f10 : Fld Z h197 b134 "com/example/pagewright/pagewright/PageRequest" "pageNumber" "I" (.int r9) := (f134_2.keep K197 nin0)
            have f11 : Fld Z h197 b134 "com/example/pagewright/pagewright/PageRequest" "pageSize" "I" (.int v18) := (f134_3.keep K197 nin0)
            have f12 : Fld Z h197 b134 "com/example/pagewright/pagewright/PageRequest" "counted" "Z" (.int (1 : Int32)) := (f134_4.keep K197 nin0)
            have f13 : Fld Z h197 b134 "com/example/pagewright/pagewright/PageRequest" "knownTotal" "J" (.long (-1 : Int64)) := (f134_5.keep K197 nin0)
            refine Gl.callV Y206j (tw_40 hw) (tw_41 hw) (tw_43 hw) (tw_43 hw) (tw_42 hw) (tw_15 hw) (tw_44 hw) (by decide) f9 (rm16 l Z a0 hw [] b134 r9 v18 (1 : Int32) (-1 : Int64) b197 z47 z60 (0 : Int32) (-1 : Int64) h197 n0 Y206j.sz f9 f10 f11 f12 f13 f197_1 f197_2 f197_3 f197_4 f197_5) (a := b134) (argsL := [(.ref b197)]) (rest := []) rfl rfl (lenOf pd_8 rfl) rfl (by decide) (Nat.le_of_ble_eq_true rfl) (by decide) (by decide) at_248 rfl (fun v248 T248 h248 Y248 q248 => ?_)
            obtain ⟨r248, rfl, p248, rfl⟩ := q248
            have kc14 : (-1 : Int64).toInt = (-1) := by decide
            have kc15 : (0 : Int32).toInt = 0 := by decide
            have br248 : r248 = 0 ∨ r248 = 1 := p248.2
            show Gl p e below _ (T248.setTop (mkF m 251 #[.val (.long r1), .second, .val (.long r2), .second, .val (.long t1), .second, .val (.long t2), .second, .val (.int md), .val (.int r9), .val (.int v18), .val (.int z47), .val (.int z60), .val (.long v72), .second, .val (.long z89), .second, .val (.int (0 : Int32)), .val (.int (1 : Int32)), .val (.int v123), .val (.ref b134), .val (.ref b197), .val (.int (0 : Int32))] [(.int r248)]))
            refine Gl.iload Y248 rfl at_251 rfl ?_
            refine Gl.icmpne Y248 at_253 (by decide) rfl rfl (fun c253 => ?_) (fun c253 => ?_)
            · exfalso; have j253 : ¬ (r248.toInt = 0) := fun q => c253 (Int32.toInt_inj.mp q); omega
            have j253 : r248.toInt = 0 := congrArg Int32.toInt c253
            refine Gl.iconst Y248 (v := (1 : Int32)) (by decide) at_256 rfl ?_
            refine Gl.goto Y248 at_257 (by decide) rfl ?_
            exact Gl.retZ Y248 (by decide) (by decide) (x' := (1 : Int32)) (by decide) at_261 rfl
          · refine Gl.iload Y134 rfl at_189 rfl ?_
            refine Gl.iload Y134 rfl at_191 rfl ?_
            refine Gl.iload Y134 rfl at_193 rfl ?_
            refine Gl.lload Y134 rfl at_195 rfl ?_
            refine Gl.callS Y134 (tw_9 hw) (tw_10 hw) (tw_11 hw) (tw_12 hw) (by decide) (rm10 l Z a0 hw [] z47 z60 z89 h134 n0 Y134.sz (by first | assumption | decide | omega | (simp; done)) (by first | assumption | decide | omega | (simp; done)) (by first | assumption | decide | omega | (simp; done))) (argsL := [(.int z47), (.int z60), (.int (2 : Int32)), (.long z89)]) (rest := []) rfl rfl (lenOf pd_7 rfl) rfl (by decide) (Nat.le_of_ble_eq_true rfl) (by decide) (by decide) at_197 rfl (fun v197 T197 h197 Y197 q197 => ?_)
            obtain ⟨b197, rfl, K197, f197_0, f197_1, f197_2, f197_3, f197_4, f197_5⟩ := q197
            have Y197_sz : n0 ≤ h134.size := Y134.sz
            show Gl p e below _ (T197.setTop (mkF m 200 #[.val (.long r1), .second, .val (.long r2), .second, .val (.long t1), .second, .val (.long t2), .second, .val (.int md), .val (.int r9), .val (.int v18), .val (.int z47), .val (.int z60), .val (.long v72), .second, .val (.long z89), .second, .val (.int (0 : Int32)), .val (.int (2 : Int32)), .val (.int v123), .val (.ref b134), .unset, .unset] [(.ref b197)]))
            refine Gl.astore Y197 rfl (L' := #[.val (.long r1), .second, .val (.long r2), .second, .val (.long t1), .second, .val (.long t2), .second, .val (.int md), .val (.int r9), .val (.int v18), .val (.int z47), .val (.int z60), .val (.long v72), .second, .val (.long z89), .second, .val (.int (0 : Int32)), .val (.int (2 : Int32)), .val (.int v123), .val (.ref b134), .val (.ref b197), .unset]) rfl at_200 rfl ?_
            refine Gl.iload Y197 rfl at_202 rfl ?_
            refine Gl.iload Y197 rfl at_204 rfl ?_
            refine own_cut (B := ∀ T', Sd Z "com/example/pagewright/pagewright/PageRequestEqualsPinLaw" code maxLocals (some .boolean) n0 p l e room_1 s m #[(.long r1), (.long r2), (.long t1), (.long t2), (.int md)] below meth c T' h197 3 12 → Gl p e below (Pst s n0 room_1.cells room_1.slots (QL Z r1 r2 t1 t2 md ca h0)) (T'.setTop (mkF m 242 #[.val (.long r1), .second, .val (.long r2), .second, .val (.long t1), .second, .val (.long t2), .second, .val (.int md), .val (.int r9), .val (.int v18), .val (.int z47), .val (.int z60), .val (.long v72), .second, .val (.long z89), .second, .val (.int (0 : Int32)), .val (.int (2 : Int32)), .val (.int v123), .val (.ref b134), .val (.ref b197), .unset] [(.int (0 : Int32))]))) (fun jk => ?_) (fun T206j Y206j => ?_)
            · refine Gl.icmpne Y197 at_206 (by decide) rfl rfl (fun c206 => ?_) (fun c206 => ?_)
              · have j206 : ¬ (r9.toInt = z47.toInt) := fun q => c206 (Int32.toInt_inj.mp q)
                refine Gl.iconst Y197 (v := (0 : Int32)) (by decide) at_241 rfl ?_
                exact jk T197 Y197
              · have j206 : r9.toInt = z47.toInt := congrArg Int32.toInt c206
                refine Gl.iload Y197 rfl at_209 rfl ?_
                refine Gl.iload Y197 rfl at_211 rfl ?_
                refine Gl.icmpne Y197 at_213 (by decide) rfl rfl (fun c213 => ?_) (fun c213 => ?_)
                · have j213 : ¬ (v18.toInt = z60.toInt) := fun q => c213 (Int32.toInt_inj.mp q)
                  refine Gl.iconst Y197 (v := (0 : Int32)) (by decide) at_241 rfl ?_
                  exact jk T197 Y197
                · have j213 : v18.toInt = z60.toInt := congrArg Int32.toInt c213
                  refine Gl.iload Y197 rfl at_216 rfl ?_
                  refine Gl.iload Y197 rfl at_218 rfl ?_
                  refine Gl.icmpne Y197 at_220 (by decide) rfl rfl (fun c220 => ?_) (fun c220 => ?_)
                  rotate_left
                  · exact absurd c220 (by decide)
                  refine Gl.iconst Y197 (v := (0 : Int32)) (by decide) at_241 rfl ?_
                  exact jk T197 Y197
            refine Gl.istore Y206j (L' := #[.val (.long r1), .second, .val (.long r2), .second, .val (.long t1), .second, .val (.long t2), .second, .val (.int md), .val (.int r9), .val (.int v18), .val (.int z47), .val (.int z60), .val (.long v72), .second, .val (.long z89), .second, .val (.int (0 : Int32)), .val (.int (2 : Int32)), .val (.int v123), .val (.ref b134), .val (.ref b197), .val (.int (0 : Int32))]) rfl at_242 rfl ?_
            refine Gl.aload Y206j rfl rfl at_244 rfl ?_
            refine Gl.aload Y206j rfl rfl at_246 rfl ?_
            have f16 : Exa Z h197 b134 "com/example/pagewright/pagewright/PageRequest" := (f134_1.keep K197)
            have f17 : Fld Z h197 b134 "com/example/pagewright/pagewright/PageRequest" "pageNumber" "I" (.int r9) := (f134_2.keep K197 nin0)
            have f18 : Fld Z h197 b134 "com/example/pagewright/pagewright/PageRequest" "pageSize" "I" (.int v18) := (f134_3.keep K197 nin0)
            have f19 : Fld Z h197 b134 "com/example/pagewright/pagewright/PageRequest" "counted" "Z" (.int (1 : Int32)) := (f134_4.keep K197 nin0)
            have f20 : Fld Z h197 b134 "com/example/pagewright/pagewright/PageRequest" "knownTotal" "J" (.long (-1 : Int64)) := (f134_5.keep K197 nin0)
            refine Gl.callV Y206j (tw_40 hw) (tw_41 hw) (tw_43 hw) (tw_43 hw) (tw_42 hw) (tw_15 hw) (tw_44 hw) (by decide) f16 (rm16 l Z a0 hw [] b134 r9 v18 (1 : Int32) (-1 : Int64) b197 z47 z60 (0 : Int32) z89 h197 n0 Y206j.sz f16 f17 f18 f19 f20 f197_1 f197_2 f197_3 f197_4 f197_5) (a := b134) (argsL := [(.ref b197)]) (rest := []) rfl rfl (lenOf pd_8 rfl) rfl (by decide) (Nat.le_of_ble_eq_true rfl) (by decide) (by decide) at_248 rfl (fun v248 T248 h248 Y248 q248 => ?_)
            obtain ⟨r248, rfl, p248, rfl⟩ := q248
            have kc21 : (-1 : Int64).toInt = (-1) := by decide
            have kc22 : (0 : Int32).toInt = 0 := by decide
            have br248 : r248 = 0 ∨ r248 = 1 := p248.2
            show Gl p e below _ (T248.setTop (mkF m 251 #[.val (.long r1), .second, .val (.long r2), .second, .val (.long t1), .second, .val (.long t2), .second, .val (.int md), .val (.int r9), .val (.int v18), .val (.int z47), .val (.int z60), .val (.long v72), .second, .val (.long z89), .second, .val (.int (0 : Int32)), .val (.int (2 : Int32)), .val (.int v123), .val (.ref b134), .val (.ref b197), .val (.int (0 : Int32))] [(.int r248)]))
            refine Gl.iload Y248 rfl at_251 rfl ?_
            refine Gl.icmpne Y248 at_253 (by decide) rfl rfl (fun c253 => ?_) (fun c253 => ?_)
            · exfalso; have j253 : ¬ (r248.toInt = 0) := fun q => c253 (Int32.toInt_inj.mp q); omega
            have j253 : r248.toInt = 0 := congrArg Int32.toInt c253
            refine Gl.iconst Y248 (v := (1 : Int32)) (by decide) at_256 rfl ?_
            refine Gl.goto Y248 at_257 (by decide) rfl ?_
            exact Gl.retZ Y248 (by decide) (by decide) (x' := (1 : Int32)) (by decide) at_261 rfl
        · have j176 : v123.toInt = 3 := congrArg Int32.toInt c176
          refine Gl.aload Y134 rfl rfl at_179 rfl ?_
          refine Gl.astore Y134 rfl (L' := #[.val (.long r1), .second, .val (.long r2), .second, .val (.long t1), .second, .val (.long t2), .second, .val (.int md), .val (.int r9), .val (.int v18), .val (.int z47), .val (.int z60), .val (.long v72), .second, .val (.long z89), .second, .val (.int (0 : Int32)), .val (.int r113), .val (.int v123), .val (.ref b134), .val (.ref b134), .unset]) rfl at_181 rfl ?_
          refine Gl.iconst Y134 (v := (1 : Int32)) (by decide) at_183 rfl ?_
          refine Gl.istore Y134 (L' := #[.val (.long r1), .second, .val (.long r2), .second, .val (.long t1), .second, .val (.long t2), .second, .val (.int md), .val (.int r9), .val (.int v18), .val (.int z47), .val (.int z60), .val (.long v72), .second, .val (.long z89), .second, .val (.int (0 : Int32)), .val (.int r113), .val (.int v123), .val (.ref b134), .val (.ref b134), .val (.int (1 : Int32))]) rfl at_184 rfl ?_
          refine Gl.goto Y134 at_186 (by decide) rfl ?_
          refine Gl.aload Y134 rfl rfl at_244 rfl ?_
          refine Gl.aload Y134 rfl rfl at_246 rfl ?_
          refine Gl.callV Y134 (tw_40 hw) (tw_41 hw) (tw_43 hw) (tw_43 hw) (tw_42 hw) (tw_15 hw) (tw_44 hw) (by decide) f134_1 (rm15 l Z a0 hw [] b134 r9 v18 (1 : Int32) (-1 : Int64) h134 n0 Y134.sz f134_1 f134_2 f134_3 f134_4 f134_5) (a := b134) (argsL := [(.ref b134)]) (rest := []) rfl rfl (lenOf pd_8 rfl) rfl (by decide) (Nat.le_of_ble_eq_true rfl) (by decide) (by decide) at_248 rfl (fun v248 T248 h248 Y248 q248 => ?_)
          obtain ⟨rfl, rfl⟩ := q248
          show Gl p e below _ (T248.setTop (mkF m 251 #[.val (.long r1), .second, .val (.long r2), .second, .val (.long t1), .second, .val (.long t2), .second, .val (.int md), .val (.int r9), .val (.int v18), .val (.int z47), .val (.int z60), .val (.long v72), .second, .val (.long z89), .second, .val (.int (0 : Int32)), .val (.int r113), .val (.int v123), .val (.ref b134), .val (.ref b134), .val (.int (1 : Int32))] [(.int (1 : Int32))]))
          refine Gl.iload Y248 rfl at_251 rfl ?_
          refine Gl.icmpne Y248 at_253 (by decide) rfl rfl (fun c253 => ?_) (fun c253 => ?_)
          · exact absurd c253 (by decide)
          refine Gl.iconst Y248 (v := (1 : Int32)) (by decide) at_256 rfl ?_
          refine Gl.goto Y248 at_257 (by decide) rfl ?_
          exact Gl.retZ Y248 (by decide) (by decide) (x' := (1 : Int32)) (by decide) at_261 rfl
      · have j157 : v123.toInt = 2 := congrArg Int32.toInt c157
        refine Gl.iload Y134 rfl at_160 rfl ?_
        have f23 : Old Z n0 h134 := (O.keep K134 all0)
        refine Gl.callS Y134 (tw_51 hw) (tw_52 hw) (tw_53 hw) (tw_54 hw) (by decide) (rm12 l Z a0 hw [] r9 ca h134 n0 Y134.sz f23 S1 S G) (argsL := [(.int r9)]) (rest := []) rfl rfl (lenOf pd_9 rfl) rfl (by decide) (Nat.le_of_ble_eq_true rfl) (by decide) (by decide) at_162 rfl (fun v162 T162 h162 Y162 q162 => ?_)
        obtain ⟨b162, rfl, K162, f162_0⟩ := q162
        show Gl p e below _ (T162.setTop (mkF m 165 #[.val (.long r1), .second, .val (.long r2), .second, .val (.long t1), .second, .val (.long t2), .second, .val (.int md), .val (.int r9), .val (.int v18), .val (.int z47), .val (.int z60), .val (.long v72), .second, .val (.long z89), .second, .val (.int (0 : Int32)), .val (.int r113), .val (.int v123), .val (.ref b134), .unset, .unset] [(.ref b162)]))
        refine Gl.astore Y162 rfl (L' := #[.val (.long r1), .second, .val (.long r2), .second, .val (.long t1), .second, .val (.long t2), .second, .val (.int md), .val (.int r9), .val (.int v18), .val (.int z47), .val (.int z60), .val (.long v72), .second, .val (.long z89), .second, .val (.int (0 : Int32)), .val (.int r113), .val (.int v123), .val (.ref b134), .val (.ref b162), .unset]) rfl at_165 rfl ?_
        refine Gl.iconst Y162 (v := (0 : Int32)) (by decide) at_167 rfl ?_
        refine Gl.istore Y162 (L' := #[.val (.long r1), .second, .val (.long r2), .second, .val (.long t1), .second, .val (.long t2), .second, .val (.int md), .val (.int r9), .val (.int v18), .val (.int z47), .val (.int z60), .val (.long v72), .second, .val (.long z89), .second, .val (.int (0 : Int32)), .val (.int r113), .val (.int v123), .val (.ref b134), .val (.ref b162), .val (.int (0 : Int32))]) rfl at_168 rfl ?_
        refine Gl.goto Y162 at_170 (by decide) rfl ?_
        refine Gl.aload Y162 rfl rfl at_244 rfl ?_
        refine Gl.aload Y162 rfl rfl at_246 rfl ?_
        have f24 : Exa Z h162 b134 "com/example/pagewright/pagewright/PageRequest" := (f134_1.keep K162)
        refine Gl.callV Y162 (tw_40 hw) (tw_41 hw) (tw_43 hw) (tw_43 hw) (tw_42 hw) (tw_15 hw) (tw_44 hw) (by decide) f24 (rm14 l Z a0 hw [] b134 b162 h162 n0 Y162.sz f162_0) (a := b134) (argsL := [(.ref b162)]) (rest := []) rfl rfl (lenOf pd_8 rfl) rfl (by decide) (Nat.le_of_ble_eq_true rfl) (by decide) (by decide) at_248 rfl (fun v248 T248 h248 Y248 q248 => ?_)
        obtain ⟨rfl, rfl⟩ := q248
        show Gl p e below _ (T248.setTop (mkF m 251 #[.val (.long r1), .second, .val (.long r2), .second, .val (.long t1), .second, .val (.long t2), .second, .val (.int md), .val (.int r9), .val (.int v18), .val (.int z47), .val (.int z60), .val (.long v72), .second, .val (.long z89), .second, .val (.int (0 : Int32)), .val (.int r113), .val (.int v123), .val (.ref b134), .val (.ref b162), .val (.int (0 : Int32))] [(.int (0 : Int32))]))
        refine Gl.iload Y248 rfl at_251 rfl ?_
        refine Gl.icmpne Y248 at_253 (by decide) rfl rfl (fun c253 => ?_) (fun c253 => ?_)
        · exact absurd c253 (by decide)
        refine Gl.iconst Y248 (v := (1 : Int32)) (by decide) at_256 rfl ?_
        refine Gl.goto Y248 at_257 (by decide) rfl ?_
        exact Gl.retZ Y248 (by decide) (by decide) (x' := (1 : Int32)) (by decide) at_261 rfl
    · have j142 : v123.toInt = 1 := congrArg Int32.toInt c142
      refine Gl.aconstNull Y134 at_145 rfl ?_
      refine Gl.astore Y134 rfl (L' := #[.val (.long r1), .second, .val (.long r2), .second, .val (.long t1), .second, .val (.long t2), .second, .val (.int md), .val (.int r9), .val (.int v18), .val (.int z47), .val (.int z60), .val (.long v72), .second, .val (.long z89), .second, .val (.int (0 : Int32)), .val (.int r113), .val (.int v123), .val (.ref b134), .val .null, .unset]) rfl at_146 rfl ?_
      refine Gl.iconst Y134 (v := (0 : Int32)) (by decide) at_148 rfl ?_
      refine Gl.istore Y134 (L' := #[.val (.long r1), .second, .val (.long r2), .second, .val (.long t1), .second, .val (.long t2), .second, .val (.int md), .val (.int r9), .val (.int v18), .val (.int z47), .val (.int z60), .val (.long v72), .second, .val (.long z89), .second, .val (.int (0 : Int32)), .val (.int r113), .val (.int v123), .val (.ref b134), .val .null, .val (.int (0 : Int32))]) rfl at_149 rfl ?_
      refine Gl.goto Y134 at_151 (by decide) rfl ?_
      refine Gl.aload Y134 rfl rfl at_244 rfl ?_
      refine Gl.aload Y134 rfl rfl at_246 rfl ?_
      refine Gl.callV Y134 (tw_40 hw) (tw_41 hw) (tw_43 hw) (tw_43 hw) (tw_42 hw) (tw_15 hw) (tw_44 hw) (by decide) f134_1 (rm13 l Z a0 hw [] b134 h134 n0 Y134.sz) (a := b134) (argsL := [.null]) (rest := []) rfl rfl (lenOf pd_8 rfl) rfl (by decide) (Nat.le_of_ble_eq_true rfl) (by decide) (by decide) at_248 rfl (fun v248 T248 h248 Y248 q248 => ?_)
      obtain ⟨rfl, rfl⟩ := q248
      show Gl p e below _ (T248.setTop (mkF m 251 #[.val (.long r1), .second, .val (.long r2), .second, .val (.long t1), .second, .val (.long t2), .second, .val (.int md), .val (.int r9), .val (.int v18), .val (.int z47), .val (.int z60), .val (.long v72), .second, .val (.long z89), .second, .val (.int (0 : Int32)), .val (.int r113), .val (.int v123), .val (.ref b134), .val .null, .val (.int (0 : Int32))] [(.int (0 : Int32))]))
      refine Gl.iload Y248 rfl at_251 rfl ?_
      refine Gl.icmpne Y248 at_253 (by decide) rfl rfl (fun c253 => ?_) (fun c253 => ?_)
      · exact absurd c253 (by decide)
      refine Gl.iconst Y248 (v := (1 : Int32)) (by decide) at_256 rfl ?_
      refine Gl.goto Y248 at_257 (by decide) rfl ?_
      exact Gl.retZ Y248 (by decide) (by decide) (x' := (1 : Int32)) (by decide) at_261 rfl
  · refine Gl.iload Y113 rfl at_118 rfl ?_
    refine Gl.iconst Y113 (v := (4 : Int32)) (by decide) at_120 rfl ?_
    obtain ⟨v121, hv121⟩ : ∃ z : Int32, (md.toUInt32 >>> ((4 : Int32) &&& 31).toUInt32).toInt32 = z := ⟨_, rfl⟩
    have iv121 : v121.toInt = (md.toInt % 4294967296) / 16 := by have q := c_iushr md (4 : Int32) 4 (by decide) (by decide); rw [hv121] at q; exact q
    refine Gl.iushr Y113 hv121 at_121 rfl ?_
    refine Gl.iconst Y113 (v := (3 : Int32)) (by decide) at_122 rfl ?_
    obtain ⟨v123, hv123⟩ : ∃ z : Int32, v121 &&& (3 : Int32) = z := ⟨_, rfl⟩
    have iv123 : v123.toInt = v121.toInt % 4 := by have q := c_mask v121 (3 : Int32) 2 (by decide) (by decide); rw [hv123] at q; exact q
    refine Gl.iand Y113 hv123 at_123 rfl ?_
    refine Gl.istore Y113 (L' := #[.val (.long r1), .second, .val (.long r2), .second, .val (.long t1), .second, .val (.long t2), .second, .val (.int md), .val (.int r9), .val (.int v18), .val (.int z47), .val (.int z60), .val (.long v72), .second, .val (.long z89), .second, .val (.int (1 : Int32)), .val (.int r113), .val (.int v123), .unset, .unset, .unset]) rfl at_124 rfl ?_
    refine Gl.iload Y113 rfl at_126 rfl ?_
    refine Gl.iload Y113 rfl at_128 rfl ?_
    refine Gl.iload Y113 rfl at_130 rfl ?_
    refine Gl.lload Y113 rfl at_132 rfl ?_
    refine Gl.callS Y113 (tw_9 hw) (tw_10 hw) (tw_11 hw) (tw_12 hw) (by decide) (rm9 l Z a0 hw [] r9 v18 v72 h0 n0 Y113.sz (by first | assumption | decide | omega | (simp; done)) (by first | assumption | decide | omega | (simp; done)) (by first | assumption | decide | omega | (simp; done))) (argsL := [(.int r9), (.int v18), (.int (1 : Int32)), (.long v72)]) (rest := []) rfl rfl (lenOf pd_7 rfl) rfl (by decide) (Nat.le_of_ble_eq_true rfl) (by decide) (by decide) at_134 rfl (fun v134 T134 h134 Y134 q134 => ?_)
    obtain ⟨b134, rfl, K134, f134_0, f134_1, f134_2, f134_3, f134_4, f134_5⟩ := q134
    have Y134_sz : n0 ≤ h0.size := Y113.sz
    show Gl p e below _ (T134.setTop (mkF m 137 #[.val (.long r1), .second, .val (.long r2), .second, .val (.long t1), .second, .val (.long t2), .second, .val (.int md), .val (.int r9), .val (.int v18), .val (.int z47), .val (.int z60), .val (.long v72), .second, .val (.long z89), .second, .val (.int (1 : Int32)), .val (.int r113), .val (.int v123), .unset, .unset, .unset] [(.ref b134)]))
    refine Gl.astore Y134 rfl (L' := #[.val (.long r1), .second, .val (.long r2), .second, .val (.long t1), .second, .val (.long t2), .second, .val (.int md), .val (.int r9), .val (.int v18), .val (.int z47), .val (.int z60), .val (.long v72), .second, .val (.long z89), .second, .val (.int (1 : Int32)), .val (.int r113), .val (.int v123), .val (.ref b134), .unset, .unset]) rfl at_137 rfl ?_
    refine Gl.iload Y134 rfl at_139 rfl ?_
    refine Gl.iconst Y134 (v := (1 : Int32)) (by decide) at_141 rfl ?_
    refine Gl.icmpne Y134 at_142 (by decide) rfl rfl (fun c142 => ?_) (fun c142 => ?_)
    · have j142 : ¬ (v123.toInt = 1) := fun q => c142 (Int32.toInt_inj.mp q)
      refine Gl.iload Y134 rfl at_154 rfl ?_
      refine Gl.iconst Y134 (v := (2 : Int32)) (by decide) at_156 rfl ?_
      refine Gl.icmpne Y134 at_157 (by decide) rfl rfl (fun c157 => ?_) (fun c157 => ?_)
      · have j157 : ¬ (v123.toInt = 2) := fun q => c157 (Int32.toInt_inj.mp q)
        refine Gl.iload Y134 rfl at_173 rfl ?_
        refine Gl.iconst Y134 (v := (3 : Int32)) (by decide) at_175 rfl ?_
        refine Gl.icmpne Y134 at_176 (by decide) rfl rfl (fun c176 => ?_) (fun c176 => ?_)
        · have j176 : ¬ (v123.toInt = 3) := fun q => c176 (Int32.toInt_inj.mp q)
          have cs_r113 : r113 = (0 : Int32) ∨ r113 = (1 : Int32) ∨ r113 = (2 : Int32) := own_c2 (by omega) (by omega)
          rcases cs_r113 with rfl | rfl | rfl
          · refine Gl.iload Y134 rfl at_189 rfl ?_
            refine Gl.iload Y134 rfl at_191 rfl ?_
            refine Gl.iload Y134 rfl at_193 rfl ?_
            refine Gl.lload Y134 rfl at_195 rfl ?_
            refine Gl.callS Y134 (tw_9 hw) (tw_10 hw) (tw_11 hw) (tw_12 hw) (by decide) (rm8 l Z a0 hw [] z47 z60 z89 h134 n0 Y134.sz (by first | assumption | decide | omega | (simp; done)) (by first | assumption | decide | omega | (simp; done)) (by first | assumption | decide | omega | (simp; done))) (argsL := [(.int z47), (.int z60), (.int (0 : Int32)), (.long z89)]) (rest := []) rfl rfl (lenOf pd_7 rfl) rfl (by decide) (Nat.le_of_ble_eq_true rfl) (by decide) (by decide) at_197 rfl (fun v197 T197 h197 Y197 q197 => ?_)
            obtain ⟨b197, rfl, K197, f197_0, f197_1, f197_2, f197_3, f197_4, f197_5⟩ := q197
            have Y197_sz : n0 ≤ h134.size := Y134.sz
            show Gl p e below _ (T197.setTop (mkF m 200 #[.val (.long r1), .second, .val (.long r2), .second, .val (.long t1), .second, .val (.long t2), .second, .val (.int md), .val (.int r9), .val (.int v18), .val (.int z47), .val (.int z60), .val (.long v72), .second, .val (.long z89), .second, .val (.int (1 : Int32)), .val (.int (0 : Int32)), .val (.int v123), .val (.ref b134), .unset, .unset] [(.ref b197)]))
            refine Gl.astore Y197 rfl (L' := #[.val (.long r1), .second, .val (.long r2), .second, .val (.long t1), .second, .val (.long t2), .second, .val (.int md), .val (.int r9), .val (.int v18), .val (.int z47), .val (.int z60), .val (.long v72), .second, .val (.long z89), .second, .val (.int (1 : Int32)), .val (.int (0 : Int32)), .val (.int v123), .val (.ref b134), .val (.ref b197), .unset]) rfl at_200 rfl ?_
            refine Gl.iload Y197 rfl at_202 rfl ?_
            refine Gl.iload Y197 rfl at_204 rfl ?_
            refine own_cut (B := ∀ T', Sd Z "com/example/pagewright/pagewright/PageRequestEqualsPinLaw" code maxLocals (some .boolean) n0 p l e room_1 s m #[(.long r1), (.long r2), (.long t1), (.long t2), (.int md)] below meth c T' h197 3 12 → Gl p e below (Pst s n0 room_1.cells room_1.slots (QL Z r1 r2 t1 t2 md ca h0)) (T'.setTop (mkF m 242 #[.val (.long r1), .second, .val (.long r2), .second, .val (.long t1), .second, .val (.long t2), .second, .val (.int md), .val (.int r9), .val (.int v18), .val (.int z47), .val (.int z60), .val (.long v72), .second, .val (.long z89), .second, .val (.int (1 : Int32)), .val (.int (0 : Int32)), .val (.int v123), .val (.ref b134), .val (.ref b197), .unset] [(.int (0 : Int32))]))) (fun jk => ?_) (fun T206j Y206j => ?_)
            · refine Gl.icmpne Y197 at_206 (by decide) rfl rfl (fun c206 => ?_) (fun c206 => ?_)
              · have j206 : ¬ (r9.toInt = z47.toInt) := fun q => c206 (Int32.toInt_inj.mp q)
                refine Gl.iconst Y197 (v := (0 : Int32)) (by decide) at_241 rfl ?_
                exact jk T197 Y197
              · have j206 : r9.toInt = z47.toInt := congrArg Int32.toInt c206
                refine Gl.iload Y197 rfl at_209 rfl ?_
                refine Gl.iload Y197 rfl at_211 rfl ?_
                refine Gl.icmpne Y197 at_213 (by decide) rfl rfl (fun c213 => ?_) (fun c213 => ?_)
                · have j213 : ¬ (v18.toInt = z60.toInt) := fun q => c213 (Int32.toInt_inj.mp q)
                  refine Gl.iconst Y197 (v := (0 : Int32)) (by decide) at_241 rfl ?_
                  exact jk T197 Y197
                · have j213 : v18.toInt = z60.toInt := congrArg Int32.toInt c213
                  refine Gl.iload Y197 rfl at_216 rfl ?_
                  refine Gl.iload Y197 rfl at_218 rfl ?_
                  refine Gl.icmpne Y197 at_220 (by decide) rfl rfl (fun c220 => ?_) (fun c220 => ?_)
                  rotate_left
                  · exact absurd c220 (by decide)
                  refine Gl.iconst Y197 (v := (0 : Int32)) (by decide) at_241 rfl ?_
                  exact jk T197 Y197
            refine Gl.istore Y206j (L' := #[.val (.long r1), .second, .val (.long r2), .second, .val (.long t1), .second, .val (.long t2), .second, .val (.int md), .val (.int r9), .val (.int v18), .val (.int z47), .val (.int z60), .val (.long v72), .second, .val (.long z89), .second, .val (.int (1 : Int32)), .val (.int (0 : Int32)), .val (.int v123), .val (.ref b134), .val (.ref b197), .val (.int (0 : Int32))]) rfl at_242 rfl ?_
            refine Gl.aload Y206j rfl rfl at_244 rfl ?_
            refine Gl.aload Y206j rfl rfl at_246 rfl ?_
            have f25 : Exa Z h197 b134 "com/example/pagewright/pagewright/PageRequest" := (f134_1.keep K197)
            have f26 : Fld Z h197 b134 "com/example/pagewright/pagewright/PageRequest" "pageNumber" "I" (.int r9) := (f134_2.keep K197 nin0)
            have f27 : Fld Z h197 b134 "com/example/pagewright/pagewright/PageRequest" "pageSize" "I" (.int v18) := (f134_3.keep K197 nin0)
            have f28 : Fld Z h197 b134 "com/example/pagewright/pagewright/PageRequest" "counted" "Z" (.int (0 : Int32)) := (f134_4.keep K197 nin0)
            have f29 : Fld Z h197 b134 "com/example/pagewright/pagewright/PageRequest" "knownTotal" "J" (.long (-1 : Int64)) := (f134_5.keep K197 nin0)
            refine Gl.callV Y206j (tw_40 hw) (tw_41 hw) (tw_43 hw) (tw_43 hw) (tw_42 hw) (tw_15 hw) (tw_44 hw) (by decide) f25 (rm16 l Z a0 hw [] b134 r9 v18 (0 : Int32) (-1 : Int64) b197 z47 z60 (1 : Int32) (-1 : Int64) h197 n0 Y206j.sz f25 f26 f27 f28 f29 f197_1 f197_2 f197_3 f197_4 f197_5) (a := b134) (argsL := [(.ref b197)]) (rest := []) rfl rfl (lenOf pd_8 rfl) rfl (by decide) (Nat.le_of_ble_eq_true rfl) (by decide) (by decide) at_248 rfl (fun v248 T248 h248 Y248 q248 => ?_)
            obtain ⟨r248, rfl, p248, rfl⟩ := q248
            have kc30 : (-1 : Int64).toInt = (-1) := by decide
            have kc31 : (0 : Int32).toInt = 0 := by decide
            have br248 : r248 = 0 ∨ r248 = 1 := p248.2
            show Gl p e below _ (T248.setTop (mkF m 251 #[.val (.long r1), .second, .val (.long r2), .second, .val (.long t1), .second, .val (.long t2), .second, .val (.int md), .val (.int r9), .val (.int v18), .val (.int z47), .val (.int z60), .val (.long v72), .second, .val (.long z89), .second, .val (.int (1 : Int32)), .val (.int (0 : Int32)), .val (.int v123), .val (.ref b134), .val (.ref b197), .val (.int (0 : Int32))] [(.int r248)]))
            refine Gl.iload Y248 rfl at_251 rfl ?_
            refine Gl.icmpne Y248 at_253 (by decide) rfl rfl (fun c253 => ?_) (fun c253 => ?_)
            · exfalso; have j253 : ¬ (r248.toInt = 0) := fun q => c253 (Int32.toInt_inj.mp q); omega
            have j253 : r248.toInt = 0 := congrArg Int32.toInt c253
            refine Gl.iconst Y248 (v := (1 : Int32)) (by decide) at_256 rfl ?_
            refine Gl.goto Y248 at_257 (by decide) rfl ?_
            exact Gl.retZ Y248 (by decide) (by decide) (x' := (1 : Int32)) (by decide) at_261 rfl
          · refine Gl.iload Y134 rfl at_189 rfl ?_
            refine Gl.iload Y134 rfl at_191 rfl ?_
            refine Gl.iload Y134 rfl at_193 rfl ?_
            refine Gl.lload Y134 rfl at_195 rfl ?_
            refine Gl.callS Y134 (tw_9 hw) (tw_10 hw) (tw_11 hw) (tw_12 hw) (by decide) (rm9 l Z a0 hw [] z47 z60 z89 h134 n0 Y134.sz (by first | assumption | decide | omega | (simp; done)) (by first | assumption | decide | omega | (simp; done)) (by first | assumption | decide | omega | (simp; done))) (argsL := [(.int z47), (.int z60), (.int (1 : Int32)), (.long z89)]) (rest := []) rfl rfl (lenOf pd_7 rfl) rfl (by decide) (Nat.le_of_ble_eq_true rfl) (by decide) (by decide) at_197 rfl (fun v197 T197 h197 Y197 q197 => ?_)
            obtain ⟨b197, rfl, K197, f197_0, f197_1, f197_2, f197_3, f197_4, f197_5⟩ := q197
            have Y197_sz : n0 ≤ h134.size := Y134.sz
            show Gl p e below _ (T197.setTop (mkF m 200 #[.val (.long r1), .second, .val (.long r2), .second, .val (.long t1), .second, .val (.long t2), .second, .val (.int md), .val (.int r9), .val (.int v18), .val (.int z47), .val (.int z60), .val (.long v72), .second, .val (.long z89), .second, .val (.int (1 : Int32)), .val (.int (1 : Int32)), .val (.int v123), .val (.ref b134), .unset, .unset] [(.ref b197)]))
            refine Gl.astore Y197 rfl (L' := #[.val (.long r1), .second, .val (.long r2), .second, .val (.long t1), .second, .val (.long t2), .second, .val (.int md), .val (.int r9), .val (.int v18), .val (.int z47), .val (.int z60), .val (.long v72), .second, .val (.long z89), .second, .val (.int (1 : Int32)), .val (.int (1 : Int32)), .val (.int v123), .val (.ref b134), .val (.ref b197), .unset]) rfl at_200 rfl ?_
            refine Gl.iload Y197 rfl at_202 rfl ?_
            refine Gl.iload Y197 rfl at_204 rfl ?_
            obtain ⟨z206, hz206⟩ : ∃ z : Int32, (if r9 = z47 then (if v18 = z60 then (1 : Int32) else (0 : Int32)) else (0 : Int32)) = z := ⟨_, rfl⟩
            have iz206 : (r9.toInt = z47.toInt ∧ ((v18.toInt = z60.toInt ∧ (z206.toInt = 1)) ∨ (¬ (v18.toInt = z60.toInt) ∧ (z206.toInt = 0)))) ∨ (¬ (r9.toInt = z47.toInt) ∧ (z206.toInt = 0)) := own_ite (c := r9 = z47) (fun q3 => ⟨congrArg Int32.toInt q3, own_ite (c := v18 = z60) (fun q4 => ⟨congrArg Int32.toInt q4, congrArg Int32.toInt (show z206 = (1 : Int32) from by rw [← hz206]; simp only [q3, q4, ↓reduceIte, if_true, if_false, ite_self])⟩) (fun q4 => ⟨fun q => q4 (Int32.toInt_inj.mp q), congrArg Int32.toInt (show z206 = (0 : Int32) from by rw [← hz206]; simp only [q3, q4, ↓reduceIte, if_true, if_false, ite_self])⟩)⟩) (fun q3 => ⟨fun q => q3 (Int32.toInt_inj.mp q), congrArg Int32.toInt (show z206 = (0 : Int32) from by rw [← hz206]; simp only [q3, ↓reduceIte, if_true, if_false, ite_self])⟩)
            have bz206 : z206 = 0 ∨ z206 = 1 := by rw [← hz206]; (repeat' split) <;> first | (simp; done) | assumption
            refine own_cut (B := ∀ T', Sd Z "com/example/pagewright/pagewright/PageRequestEqualsPinLaw" code maxLocals (some .boolean) n0 p l e room_1 s m #[(.long r1), (.long r2), (.long t1), (.long t2), (.int md)] below meth c T' h197 4 16 → Gl p e below (Pst s n0 room_1.cells room_1.slots (QL Z r1 r2 t1 t2 md ca h0)) (T'.setTop (mkF m 242 #[.val (.long r1), .second, .val (.long r2), .second, .val (.long t1), .second, .val (.long t2), .second, .val (.int md), .val (.int r9), .val (.int v18), .val (.int z47), .val (.int z60), .val (.long v72), .second, .val (.long z89), .second, .val (.int (1 : Int32)), .val (.int (1 : Int32)), .val (.int v123), .val (.ref b134), .val (.ref b197), .unset] [(.int z206)]))) (fun jk => ?_) (fun T206j Y206j => ?_)
            · refine Gl.icmpne Y197 at_206 (by decide) rfl rfl (fun c206 => ?_) (fun c206 => ?_)
              · have j206 : ¬ (r9.toInt = z47.toInt) := fun q => c206 (Int32.toInt_inj.mp q)
                refine Gl.iconst Y197 (v := (0 : Int32)) (by decide) at_241 rfl ?_
                have ez206 : z206 = (0 : Int32) := by rw [← hz206]; simp only [c206, ↓reduceIte, if_true, if_false]
                rw [ez206] at jk
                exact jk T197 Y197
              · have j206 : r9.toInt = z47.toInt := congrArg Int32.toInt c206
                refine Gl.iload Y197 rfl at_209 rfl ?_
                refine Gl.iload Y197 rfl at_211 rfl ?_
                refine Gl.icmpne Y197 at_213 (by decide) rfl rfl (fun c213 => ?_) (fun c213 => ?_)
                · have j213 : ¬ (v18.toInt = z60.toInt) := fun q => c213 (Int32.toInt_inj.mp q)
                  refine Gl.iconst Y197 (v := (0 : Int32)) (by decide) at_241 rfl ?_
                  have ez206 : z206 = (0 : Int32) := by rw [← hz206]; simp only [c206, c213, ↓reduceIte, if_true, if_false]
                  rw [ez206] at jk
                  exact jk T197 Y197
                · have j213 : v18.toInt = z60.toInt := congrArg Int32.toInt c213
                  refine Gl.iload Y197 rfl at_216 rfl ?_
                  refine Gl.iload Y197 rfl at_218 rfl ?_
                  refine Gl.icmpne Y197 at_220 (by decide) rfl rfl (fun c220 => ?_) (fun c220 => ?_)
                  · exact absurd c220 (by decide)
                  refine Gl.iload Y197 rfl at_223 rfl ?_
                  refine Gl.iconst Y197 (v := (2 : Int32)) (by decide) at_225 rfl ?_
                  refine Gl.icmplt Y197 at_226 (by decide) rfl rfl (fun c226 => ?_) (fun c226 => ?_)
                  rotate_left
                  · exact absurd c226 (by decide)
                  refine Gl.iconst Y197 (v := (1 : Int32)) (by decide) at_237 rfl ?_
                  refine Gl.goto Y197 at_238 (by decide) rfl ?_
                  have ez206 : z206 = (1 : Int32) := by rw [← hz206]; simp only [c206, c213, c220, c226, ↓reduceIte, if_true, if_false]
                  rw [ez206] at jk
                  exact jk T197 Y197
            refine Gl.istore Y206j (L' := #[.val (.long r1), .second, .val (.long r2), .second, .val (.long t1), .second, .val (.long t2), .second, .val (.int md), .val (.int r9), .val (.int v18), .val (.int z47), .val (.int z60), .val (.long v72), .second, .val (.long z89), .second, .val (.int (1 : Int32)), .val (.int (1 : Int32)), .val (.int v123), .val (.ref b134), .val (.ref b197), .val (.int z206)]) rfl at_242 rfl ?_
            refine Gl.aload Y206j rfl rfl at_244 rfl ?_
            refine Gl.aload Y206j rfl rfl at_246 rfl ?_
            have f32 : Exa Z h197 b134 "com/example/pagewright/pagewright/PageRequest" := (f134_1.keep K197)
            have f33 : Fld Z h197 b134 "com/example/pagewright/pagewright/PageRequest" "pageNumber" "I" (.int r9) := (f134_2.keep K197 nin0)
            have f34 : Fld Z h197 b134 "com/example/pagewright/pagewright/PageRequest" "pageSize" "I" (.int v18) := (f134_3.keep K197 nin0)
            have f35 : Fld Z h197 b134 "com/example/pagewright/pagewright/PageRequest" "counted" "Z" (.int (0 : Int32)) := (f134_4.keep K197 nin0)
            have f36 : Fld Z h197 b134 "com/example/pagewright/pagewright/PageRequest" "knownTotal" "J" (.long (-1 : Int64)) := (f134_5.keep K197 nin0)
            refine Gl.callV Y206j (tw_40 hw) (tw_41 hw) (tw_43 hw) (tw_43 hw) (tw_42 hw) (tw_15 hw) (tw_44 hw) (by decide) f32 (rm16 l Z a0 hw [] b134 r9 v18 (0 : Int32) (-1 : Int64) b197 z47 z60 (0 : Int32) (-1 : Int64) h197 n0 Y206j.sz f32 f33 f34 f35 f36 f197_1 f197_2 f197_3 f197_4 f197_5) (a := b134) (argsL := [(.ref b197)]) (rest := []) rfl rfl (lenOf pd_8 rfl) rfl (by decide) (Nat.le_of_ble_eq_true rfl) (by decide) (by decide) at_248 rfl (fun v248 T248 h248 Y248 q248 => ?_)
            obtain ⟨r248, rfl, p248, rfl⟩ := q248
            have kc37 : (-1 : Int64).toInt = (-1) := by decide
            have kc38 : (0 : Int32).toInt = 0 := by decide
            have br248 : r248 = 0 ∨ r248 = 1 := p248.2
            show Gl p e below _ (T248.setTop (mkF m 251 #[.val (.long r1), .second, .val (.long r2), .second, .val (.long t1), .second, .val (.long t2), .second, .val (.int md), .val (.int r9), .val (.int v18), .val (.int z47), .val (.int z60), .val (.long v72), .second, .val (.long z89), .second, .val (.int (1 : Int32)), .val (.int (1 : Int32)), .val (.int v123), .val (.ref b134), .val (.ref b197), .val (.int z206)] [(.int r248)]))
            refine Gl.iload Y248 rfl at_251 rfl ?_
            refine Gl.icmpne Y248 at_253 (by decide) rfl rfl (fun c253 => ?_) (fun c253 => ?_)
            · exfalso; have j253 : ¬ (r248.toInt = z206.toInt) := fun q => c253 (Int32.toInt_inj.mp q); omega
            have j253 : r248.toInt = z206.toInt := congrArg Int32.toInt c253
            refine Gl.iconst Y248 (v := (1 : Int32)) (by decide) at_256 rfl ?_
            refine Gl.goto Y248 at_257 (by decide) rfl ?_
            exact Gl.retZ Y248 (by decide) (by decide) (x' := (1 : Int32)) (by decide) at_261 rfl
          · refine Gl.iload Y134 rfl at_189 rfl ?_
            refine Gl.iload Y134 rfl at_191 rfl ?_
            refine Gl.iload Y134 rfl at_193 rfl ?_
            refine Gl.lload Y134 rfl at_195 rfl ?_
            refine Gl.callS Y134 (tw_9 hw) (tw_10 hw) (tw_11 hw) (tw_12 hw) (by decide) (rm10 l Z a0 hw [] z47 z60 z89 h134 n0 Y134.sz (by first | assumption | decide | omega | (simp; done)) (by first | assumption | decide | omega | (simp; done)) (by first | assumption | decide | omega | (simp; done))) (argsL := [(.int z47), (.int z60), (.int (2 : Int32)), (.long z89)]) (rest := []) rfl rfl (lenOf pd_7 rfl) rfl (by decide) (Nat.le_of_ble_eq_true rfl) (by decide) (by decide) at_197 rfl (fun v197 T197 h197 Y197 q197 => ?_)
            obtain ⟨b197, rfl, K197, f197_0, f197_1, f197_2, f197_3, f197_4, f197_5⟩ := q197
            have Y197_sz : n0 ≤ h134.size := Y134.sz
            show Gl p e below _ (T197.setTop (mkF m 200 #[.val (.long r1), .second, .val (.long r2), .second, .val (.long t1), .second, .val (.long t2), .second, .val (.int md), .val (.int r9), .val (.int v18), .val (.int z47), .val (.int z60), .val (.long v72), .second, .val (.long z89), .second, .val (.int (1 : Int32)), .val (.int (2 : Int32)), .val (.int v123), .val (.ref b134), .unset, .unset] [(.ref b197)]))
            refine Gl.astore Y197 rfl (L' := #[.val (.long r1), .second, .val (.long r2), .second, .val (.long t1), .second, .val (.long t2), .second, .val (.int md), .val (.int r9), .val (.int v18), .val (.int z47), .val (.int z60), .val (.long v72), .second, .val (.long z89), .second, .val (.int (1 : Int32)), .val (.int (2 : Int32)), .val (.int v123), .val (.ref b134), .val (.ref b197), .unset]) rfl at_200 rfl ?_
            refine Gl.iload Y197 rfl at_202 rfl ?_
            refine Gl.iload Y197 rfl at_204 rfl ?_
            refine own_cut (B := ∀ T', Sd Z "com/example/pagewright/pagewright/PageRequestEqualsPinLaw" code maxLocals (some .boolean) n0 p l e room_1 s m #[(.long r1), (.long r2), (.long t1), (.long t2), (.int md)] below meth c T' h197 4 16 → Gl p e below (Pst s n0 room_1.cells room_1.slots (QL Z r1 r2 t1 t2 md ca h0)) (T'.setTop (mkF m 242 #[.val (.long r1), .second, .val (.long r2), .second, .val (.long t1), .second, .val (.long t2), .second, .val (.int md), .val (.int r9), .val (.int v18), .val (.int z47), .val (.int z60), .val (.long v72), .second, .val (.long z89), .second, .val (.int (1 : Int32)), .val (.int (2 : Int32)), .val (.int v123), .val (.ref b134), .val (.ref b197), .unset] [(.int (0 : Int32))]))) (fun jk => ?_) (fun T206j Y206j => ?_)
            · refine Gl.icmpne Y197 at_206 (by decide) rfl rfl (fun c206 => ?_) (fun c206 => ?_)
              · have j206 : ¬ (r9.toInt = z47.toInt) := fun q => c206 (Int32.toInt_inj.mp q)
                refine Gl.iconst Y197 (v := (0 : Int32)) (by decide) at_241 rfl ?_
                exact jk T197 Y197
              · have j206 : r9.toInt = z47.toInt := congrArg Int32.toInt c206
                refine Gl.iload Y197 rfl at_209 rfl ?_
                refine Gl.iload Y197 rfl at_211 rfl ?_
                refine Gl.icmpne Y197 at_213 (by decide) rfl rfl (fun c213 => ?_) (fun c213 => ?_)
                · have j213 : ¬ (v18.toInt = z60.toInt) := fun q => c213 (Int32.toInt_inj.mp q)
                  refine Gl.iconst Y197 (v := (0 : Int32)) (by decide) at_241 rfl ?_
                  exact jk T197 Y197
                · have j213 : v18.toInt = z60.toInt := congrArg Int32.toInt c213
                  refine Gl.iload Y197 rfl at_216 rfl ?_
                  refine Gl.iload Y197 rfl at_218 rfl ?_
                  refine Gl.icmpne Y197 at_220 (by decide) rfl rfl (fun c220 => ?_) (fun c220 => ?_)
                  rotate_left
                  · exact absurd c220 (by decide)
                  refine Gl.iconst Y197 (v := (0 : Int32)) (by decide) at_241 rfl ?_
                  exact jk T197 Y197
            refine Gl.istore Y206j (L' := #[.val (.long r1), .second, .val (.long r2), .second, .val (.long t1), .second, .val (.long t2), .second, .val (.int md), .val (.int r9), .val (.int v18), .val (.int z47), .val (.int z60), .val (.long v72), .second, .val (.long z89), .second, .val (.int (1 : Int32)), .val (.int (2 : Int32)), .val (.int v123), .val (.ref b134), .val (.ref b197), .val (.int (0 : Int32))]) rfl at_242 rfl ?_
            refine Gl.aload Y206j rfl rfl at_244 rfl ?_
            refine Gl.aload Y206j rfl rfl at_246 rfl ?_
            have f39 : Exa Z h197 b134 "com/example/pagewright/pagewright/PageRequest" := (f134_1.keep K197)
            have f40 : Fld Z h197 b134 "com/example/pagewright/pagewright/PageRequest" "pageNumber" "I" (.int r9) := (f134_2.keep K197 nin0)
            have f41 : Fld Z h197 b134 "com/example/pagewright/pagewright/PageRequest" "pageSize" "I" (.int v18) := (f134_3.keep K197 nin0)
            have f42 : Fld Z h197 b134 "com/example/pagewright/pagewright/PageRequest" "counted" "Z" (.int (0 : Int32)) := (f134_4.keep K197 nin0)
            have f43 : Fld Z h197 b134 "com/example/pagewright/pagewright/PageRequest" "knownTotal" "J" (.long (-1 : Int64)) := (f134_5.keep K197 nin0)
            refine Gl.callV Y206j (tw_40 hw) (tw_41 hw) (tw_43 hw) (tw_43 hw) (tw_42 hw) (tw_15 hw) (tw_44 hw) (by decide) f39 (rm16 l Z a0 hw [] b134 r9 v18 (0 : Int32) (-1 : Int64) b197 z47 z60 (0 : Int32) z89 h197 n0 Y206j.sz f39 f40 f41 f42 f43 f197_1 f197_2 f197_3 f197_4 f197_5) (a := b134) (argsL := [(.ref b197)]) (rest := []) rfl rfl (lenOf pd_8 rfl) rfl (by decide) (Nat.le_of_ble_eq_true rfl) (by decide) (by decide) at_248 rfl (fun v248 T248 h248 Y248 q248 => ?_)
            obtain ⟨r248, rfl, p248, rfl⟩ := q248
            have kc44 : (-1 : Int64).toInt = (-1) := by decide
            have kc45 : (0 : Int32).toInt = 0 := by decide
            have br248 : r248 = 0 ∨ r248 = 1 := p248.2
            show Gl p e below _ (T248.setTop (mkF m 251 #[.val (.long r1), .second, .val (.long r2), .second, .val (.long t1), .second, .val (.long t2), .second, .val (.int md), .val (.int r9), .val (.int v18), .val (.int z47), .val (.int z60), .val (.long v72), .second, .val (.long z89), .second, .val (.int (1 : Int32)), .val (.int (2 : Int32)), .val (.int v123), .val (.ref b134), .val (.ref b197), .val (.int (0 : Int32))] [(.int r248)]))
            refine Gl.iload Y248 rfl at_251 rfl ?_
            refine Gl.icmpne Y248 at_253 (by decide) rfl rfl (fun c253 => ?_) (fun c253 => ?_)
            · exfalso; have j253 : ¬ (r248.toInt = 0) := fun q => c253 (Int32.toInt_inj.mp q); omega
            have j253 : r248.toInt = 0 := congrArg Int32.toInt c253
            refine Gl.iconst Y248 (v := (1 : Int32)) (by decide) at_256 rfl ?_
            refine Gl.goto Y248 at_257 (by decide) rfl ?_
            exact Gl.retZ Y248 (by decide) (by decide) (x' := (1 : Int32)) (by decide) at_261 rfl
        · have j176 : v123.toInt = 3 := congrArg Int32.toInt c176
          refine Gl.aload Y134 rfl rfl at_179 rfl ?_
          refine Gl.astore Y134 rfl (L' := #[.val (.long r1), .second, .val (.long r2), .second, .val (.long t1), .second, .val (.long t2), .second, .val (.int md), .val (.int r9), .val (.int v18), .val (.int z47), .val (.int z60), .val (.long v72), .second, .val (.long z89), .second, .val (.int (1 : Int32)), .val (.int r113), .val (.int v123), .val (.ref b134), .val (.ref b134), .unset]) rfl at_181 rfl ?_
          refine Gl.iconst Y134 (v := (1 : Int32)) (by decide) at_183 rfl ?_
          refine Gl.istore Y134 (L' := #[.val (.long r1), .second, .val (.long r2), .second, .val (.long t1), .second, .val (.long t2), .second, .val (.int md), .val (.int r9), .val (.int v18), .val (.int z47), .val (.int z60), .val (.long v72), .second, .val (.long z89), .second, .val (.int (1 : Int32)), .val (.int r113), .val (.int v123), .val (.ref b134), .val (.ref b134), .val (.int (1 : Int32))]) rfl at_184 rfl ?_
          refine Gl.goto Y134 at_186 (by decide) rfl ?_
          refine Gl.aload Y134 rfl rfl at_244 rfl ?_
          refine Gl.aload Y134 rfl rfl at_246 rfl ?_
          refine Gl.callV Y134 (tw_40 hw) (tw_41 hw) (tw_43 hw) (tw_43 hw) (tw_42 hw) (tw_15 hw) (tw_44 hw) (by decide) f134_1 (rm15 l Z a0 hw [] b134 r9 v18 (0 : Int32) (-1 : Int64) h134 n0 Y134.sz f134_1 f134_2 f134_3 f134_4 f134_5) (a := b134) (argsL := [(.ref b134)]) (rest := []) rfl rfl (lenOf pd_8 rfl) rfl (by decide) (Nat.le_of_ble_eq_true rfl) (by decide) (by decide) at_248 rfl (fun v248 T248 h248 Y248 q248 => ?_)
          obtain ⟨rfl, rfl⟩ := q248
          show Gl p e below _ (T248.setTop (mkF m 251 #[.val (.long r1), .second, .val (.long r2), .second, .val (.long t1), .second, .val (.long t2), .second, .val (.int md), .val (.int r9), .val (.int v18), .val (.int z47), .val (.int z60), .val (.long v72), .second, .val (.long z89), .second, .val (.int (1 : Int32)), .val (.int r113), .val (.int v123), .val (.ref b134), .val (.ref b134), .val (.int (1 : Int32))] [(.int (1 : Int32))]))
          refine Gl.iload Y248 rfl at_251 rfl ?_
          refine Gl.icmpne Y248 at_253 (by decide) rfl rfl (fun c253 => ?_) (fun c253 => ?_)
          · exact absurd c253 (by decide)
          refine Gl.iconst Y248 (v := (1 : Int32)) (by decide) at_256 rfl ?_
          refine Gl.goto Y248 at_257 (by decide) rfl ?_
          exact Gl.retZ Y248 (by decide) (by decide) (x' := (1 : Int32)) (by decide) at_261 rfl
      · have j157 : v123.toInt = 2 := congrArg Int32.toInt c157
        refine Gl.iload Y134 rfl at_160 rfl ?_
        have f46 : Old Z n0 h134 := (O.keep K134 all0)
        refine Gl.callS Y134 (tw_51 hw) (tw_52 hw) (tw_53 hw) (tw_54 hw) (by decide) (rm12 l Z a0 hw [] r9 ca h134 n0 Y134.sz f46 S1 S G) (argsL := [(.int r9)]) (rest := []) rfl rfl (lenOf pd_9 rfl) rfl (by decide) (Nat.le_of_ble_eq_true rfl) (by decide) (by decide) at_162 rfl (fun v162 T162 h162 Y162 q162 => ?_)
        obtain ⟨b162, rfl, K162, f162_0⟩ := q162
        show Gl p e below _ (T162.setTop (mkF m 165 #[.val (.long r1), .second, .val (.long r2), .second, .val (.long t1), .second, .val (.long t2), .second, .val (.int md), .val (.int r9), .val (.int v18), .val (.int z47), .val (.int z60), .val (.long v72), .second, .val (.long z89), .second, .val (.int (1 : Int32)), .val (.int r113), .val (.int v123), .val (.ref b134), .unset, .unset] [(.ref b162)]))
        refine Gl.astore Y162 rfl (L' := #[.val (.long r1), .second, .val (.long r2), .second, .val (.long t1), .second, .val (.long t2), .second, .val (.int md), .val (.int r9), .val (.int v18), .val (.int z47), .val (.int z60), .val (.long v72), .second, .val (.long z89), .second, .val (.int (1 : Int32)), .val (.int r113), .val (.int v123), .val (.ref b134), .val (.ref b162), .unset]) rfl at_165 rfl ?_
        refine Gl.iconst Y162 (v := (0 : Int32)) (by decide) at_167 rfl ?_
        refine Gl.istore Y162 (L' := #[.val (.long r1), .second, .val (.long r2), .second, .val (.long t1), .second, .val (.long t2), .second, .val (.int md), .val (.int r9), .val (.int v18), .val (.int z47), .val (.int z60), .val (.long v72), .second, .val (.long z89), .second, .val (.int (1 : Int32)), .val (.int r113), .val (.int v123), .val (.ref b134), .val (.ref b162), .val (.int (0 : Int32))]) rfl at_168 rfl ?_
        refine Gl.goto Y162 at_170 (by decide) rfl ?_
        refine Gl.aload Y162 rfl rfl at_244 rfl ?_
        refine Gl.aload Y162 rfl rfl at_246 rfl ?_
        have f47 : Exa Z h162 b134 "com/example/pagewright/pagewright/PageRequest" := (f134_1.keep K162)
        refine Gl.callV Y162 (tw_40 hw) (tw_41 hw) (tw_43 hw) (tw_43 hw) (tw_42 hw) (tw_15 hw) (tw_44 hw) (by decide) f47 (rm14 l Z a0 hw [] b134 b162 h162 n0 Y162.sz f162_0) (a := b134) (argsL := [(.ref b162)]) (rest := []) rfl rfl (lenOf pd_8 rfl) rfl (by decide) (Nat.le_of_ble_eq_true rfl) (by decide) (by decide) at_248 rfl (fun v248 T248 h248 Y248 q248 => ?_)
        obtain ⟨rfl, rfl⟩ := q248
        show Gl p e below _ (T248.setTop (mkF m 251 #[.val (.long r1), .second, .val (.long r2), .second, .val (.long t1), .second, .val (.long t2), .second, .val (.int md), .val (.int r9), .val (.int v18), .val (.int z47), .val (.int z60), .val (.long v72), .second, .val (.long z89), .second, .val (.int (1 : Int32)), .val (.int r113), .val (.int v123), .val (.ref b134), .val (.ref b162), .val (.int (0 : Int32))] [(.int (0 : Int32))]))
        refine Gl.iload Y248 rfl at_251 rfl ?_
        refine Gl.icmpne Y248 at_253 (by decide) rfl rfl (fun c253 => ?_) (fun c253 => ?_)
        · exact absurd c253 (by decide)
        refine Gl.iconst Y248 (v := (1 : Int32)) (by decide) at_256 rfl ?_
        refine Gl.goto Y248 at_257 (by decide) rfl ?_
        exact Gl.retZ Y248 (by decide) (by decide) (x' := (1 : Int32)) (by decide) at_261 rfl
    · have j142 : v123.toInt = 1 := congrArg Int32.toInt c142
      refine Gl.aconstNull Y134 at_145 rfl ?_
      refine Gl.astore Y134 rfl (L' := #[.val (.long r1), .second, .val (.long r2), .second, .val (.long t1), .second, .val (.long t2), .second, .val (.int md), .val (.int r9), .val (.int v18), .val (.int z47), .val (.int z60), .val (.long v72), .second, .val (.long z89), .second, .val (.int (1 : Int32)), .val (.int r113), .val (.int v123), .val (.ref b134), .val .null, .unset]) rfl at_146 rfl ?_
      refine Gl.iconst Y134 (v := (0 : Int32)) (by decide) at_148 rfl ?_
      refine Gl.istore Y134 (L' := #[.val (.long r1), .second, .val (.long r2), .second, .val (.long t1), .second, .val (.long t2), .second, .val (.int md), .val (.int r9), .val (.int v18), .val (.int z47), .val (.int z60), .val (.long v72), .second, .val (.long z89), .second, .val (.int (1 : Int32)), .val (.int r113), .val (.int v123), .val (.ref b134), .val .null, .val (.int (0 : Int32))]) rfl at_149 rfl ?_
      refine Gl.goto Y134 at_151 (by decide) rfl ?_
      refine Gl.aload Y134 rfl rfl at_244 rfl ?_
      refine Gl.aload Y134 rfl rfl at_246 rfl ?_
      refine Gl.callV Y134 (tw_40 hw) (tw_41 hw) (tw_43 hw) (tw_43 hw) (tw_42 hw) (tw_15 hw) (tw_44 hw) (by decide) f134_1 (rm13 l Z a0 hw [] b134 h134 n0 Y134.sz) (a := b134) (argsL := [.null]) (rest := []) rfl rfl (lenOf pd_8 rfl) rfl (by decide) (Nat.le_of_ble_eq_true rfl) (by decide) (by decide) at_248 rfl (fun v248 T248 h248 Y248 q248 => ?_)
      obtain ⟨rfl, rfl⟩ := q248
      show Gl p e below _ (T248.setTop (mkF m 251 #[.val (.long r1), .second, .val (.long r2), .second, .val (.long t1), .second, .val (.long t2), .second, .val (.int md), .val (.int r9), .val (.int v18), .val (.int z47), .val (.int z60), .val (.long v72), .second, .val (.long z89), .second, .val (.int (1 : Int32)), .val (.int r113), .val (.int v123), .val (.ref b134), .val .null, .val (.int (0 : Int32))] [(.int (0 : Int32))]))
      refine Gl.iload Y248 rfl at_251 rfl ?_
      refine Gl.icmpne Y248 at_253 (by decide) rfl rfl (fun c253 => ?_) (fun c253 => ?_)
      · exact absurd c253 (by decide)
      refine Gl.iconst Y248 (v := (1 : Int32)) (by decide) at_256 rfl ?_
      refine Gl.goto Y248 at_257 (by decide) rfl ?_
      exact Gl.retZ Y248 (by decide) (by decide) (x' := (1 : Int32)) (by decide) at_261 rfl
  · refine Gl.iload Y113 rfl at_118 rfl ?_
    refine Gl.iconst Y113 (v := (4 : Int32)) (by decide) at_120 rfl ?_
    obtain ⟨v121, hv121⟩ : ∃ z : Int32, (md.toUInt32 >>> ((4 : Int32) &&& 31).toUInt32).toInt32 = z := ⟨_, rfl⟩
    have iv121 : v121.toInt = (md.toInt % 4294967296) / 16 := by have q := c_iushr md (4 : Int32) 4 (by decide) (by decide); rw [hv121] at q; exact q
    refine Gl.iushr Y113 hv121 at_121 rfl ?_
    refine Gl.iconst Y113 (v := (3 : Int32)) (by decide) at_122 rfl ?_
    obtain ⟨v123, hv123⟩ : ∃ z : Int32, v121 &&& (3 : Int32) = z := ⟨_, rfl⟩
    have iv123 : v123.toInt = v121.toInt % 4 := by have q := c_mask v121 (3 : Int32) 2 (by decide) (by decide); rw [hv123] at q; exact q
    refine Gl.iand Y113 hv123 at_123 rfl ?_
    refine Gl.istore Y113 (L' := #[.val (.long r1), .second, .val (.long r2), .second, .val (.long t1), .second, .val (.long t2), .second, .val (.int md), .val (.int r9), .val (.int v18), .val (.int z47), .val (.int z60), .val (.long v72), .second, .val (.long z89), .second, .val (.int (2 : Int32)), .val (.int r113), .val (.int v123), .unset, .unset, .unset]) rfl at_124 rfl ?_
    refine Gl.iload Y113 rfl at_126 rfl ?_
    refine Gl.iload Y113 rfl at_128 rfl ?_
    refine Gl.iload Y113 rfl at_130 rfl ?_
    refine Gl.lload Y113 rfl at_132 rfl ?_
    refine Gl.callS Y113 (tw_9 hw) (tw_10 hw) (tw_11 hw) (tw_12 hw) (by decide) (rm10 l Z a0 hw [] r9 v18 v72 h0 n0 Y113.sz (by first | assumption | decide | omega | (simp; done)) (by first | assumption | decide | omega | (simp; done)) (by first | assumption | decide | omega | (simp; done))) (argsL := [(.int r9), (.int v18), (.int (2 : Int32)), (.long v72)]) (rest := []) rfl rfl (lenOf pd_7 rfl) rfl (by decide) (Nat.le_of_ble_eq_true rfl) (by decide) (by decide) at_134 rfl (fun v134 T134 h134 Y134 q134 => ?_)
    obtain ⟨b134, rfl, K134, f134_0, f134_1, f134_2, f134_3, f134_4, f134_5⟩ := q134
    have Y134_sz : n0 ≤ h0.size := Y113.sz
    show Gl p e below _ (T134.setTop (mkF m 137 #[.val (.long r1), .second, .val (.long r2), .second, .val (.long t1), .second, .val (.long t2), .second, .val (.int md), .val (.int r9), .val (.int v18), .val (.int z47), .val (.int z60), .val (.long v72), .second, .val (.long z89), .second, .val (.int (2 : Int32)), .val (.int r113), .val (.int v123), .unset, .unset, .unset] [(.ref b134)]))
    refine Gl.astore Y134 rfl (L' := #[.val (.long r1), .second, .val (.long r2), .second, .val (.long t1), .second, .val (.long t2), .second, .val (.int md), .val (.int r9), .val (.int v18), .val (.int z47), .val (.int z60), .val (.long v72), .second, .val (.long z89), .second, .val (.int (2 : Int32)), .val (.int r113), .val (.int v123), .val (.ref b134), .unset, .unset]) rfl at_137 rfl ?_
    refine Gl.iload Y134 rfl at_139 rfl ?_
    refine Gl.iconst Y134 (v := (1 : Int32)) (by decide) at_141 rfl ?_
    refine Gl.icmpne Y134 at_142 (by decide) rfl rfl (fun c142 => ?_) (fun c142 => ?_)
    · have j142 : ¬ (v123.toInt = 1) := fun q => c142 (Int32.toInt_inj.mp q)
      refine Gl.iload Y134 rfl at_154 rfl ?_
      refine Gl.iconst Y134 (v := (2 : Int32)) (by decide) at_156 rfl ?_
      refine Gl.icmpne Y134 at_157 (by decide) rfl rfl (fun c157 => ?_) (fun c157 => ?_)
      · have j157 : ¬ (v123.toInt = 2) := fun q => c157 (Int32.toInt_inj.mp q)
        refine Gl.iload Y134 rfl at_173 rfl ?_
        refine Gl.iconst Y134 (v := (3 : Int32)) (by decide) at_175 rfl ?_
        refine Gl.icmpne Y134 at_176 (by decide) rfl rfl (fun c176 => ?_) (fun c176 => ?_)
        · have j176 : ¬ (v123.toInt = 3) := fun q => c176 (Int32.toInt_inj.mp q)
          have cs_r113 : r113 = (0 : Int32) ∨ r113 = (1 : Int32) ∨ r113 = (2 : Int32) := own_c2 (by omega) (by omega)
          rcases cs_r113 with rfl | rfl | rfl
          · refine Gl.iload Y134 rfl at_189 rfl ?_
            refine Gl.iload Y134 rfl at_191 rfl ?_
            refine Gl.iload Y134 rfl at_193 rfl ?_
            refine Gl.lload Y134 rfl at_195 rfl ?_
            refine Gl.callS Y134 (tw_9 hw) (tw_10 hw) (tw_11 hw) (tw_12 hw) (by decide) (rm8 l Z a0 hw [] z47 z60 z89 h134 n0 Y134.sz (by first | assumption | decide | omega | (simp; done)) (by first | assumption | decide | omega | (simp; done)) (by first | assumption | decide | omega | (simp; done))) (argsL := [(.int z47), (.int z60), (.int (0 : Int32)), (.long z89)]) (rest := []) rfl rfl (lenOf pd_7 rfl) rfl (by decide) (Nat.le_of_ble_eq_true rfl) (by decide) (by decide) at_197 rfl (fun v197 T197 h197 Y197 q197 => ?_)
            obtain ⟨b197, rfl, K197, f197_0, f197_1, f197_2, f197_3, f197_4, f197_5⟩ := q197
            have Y197_sz : n0 ≤ h134.size := Y134.sz
            show Gl p e below _ (T197.setTop (mkF m 200 #[.val (.long r1), .second, .val (.long r2), .second, .val (.long t1), .second, .val (.long t2), .second, .val (.int md), .val (.int r9), .val (.int v18), .val (.int z47), .val (.int z60), .val (.long v72), .second, .val (.long z89), .second, .val (.int (2 : Int32)), .val (.int (0 : Int32)), .val (.int v123), .val (.ref b134), .unset, .unset] [(.ref b197)]))
            refine Gl.astore Y197 rfl (L' := #[.val (.long r1), .second, .val (.long r2), .second, .val (.long t1), .second, .val (.long t2), .second, .val (.int md), .val (.int r9), .val (.int v18), .val (.int z47), .val (.int z60), .val (.long v72), .second, .val (.long z89), .second, .val (.int (2 : Int32)), .val (.int (0 : Int32)), .val (.int v123), .val (.ref b134), .val (.ref b197), .unset]) rfl at_200 rfl ?_
            refine Gl.iload Y197 rfl at_202 rfl ?_
            refine Gl.iload Y197 rfl at_204 rfl ?_
            refine own_cut (B := ∀ T', Sd Z "com/example/pagewright/pagewright/PageRequestEqualsPinLaw" code maxLocals (some .boolean) n0 p l e room_1 s m #[(.long r1), (.long r2), (.long t1), (.long t2), (.int md)] below meth c T' h197 3 12 → Gl p e below (Pst s n0 room_1.cells room_1.slots (QL Z r1 r2 t1 t2 md ca h0)) (T'.setTop (mkF m 242 #[.val (.long r1), .second, .val (.long r2), .second, .val (.long t1), .second, .val (.long t2), .second, .val (.int md), .val (.int r9), .val (.int v18), .val (.int z47), .val (.int z60), .val (.long v72), .second, .val (.long z89), .second, .val (.int (2 : Int32)), .val (.int (0 : Int32)), .val (.int v123), .val (.ref b134), .val (.ref b197), .unset] [(.int (0 : Int32))]))) (fun jk => ?_) (fun T206j Y206j => ?_)
            · refine Gl.icmpne Y197 at_206 (by decide) rfl rfl (fun c206 => ?_) (fun c206 => ?_)
              · have j206 : ¬ (r9.toInt = z47.toInt) := fun q => c206 (Int32.toInt_inj.mp q)
                refine Gl.iconst Y197 (v := (0 : Int32)) (by decide) at_241 rfl ?_
                exact jk T197 Y197
              · have j206 : r9.toInt = z47.toInt := congrArg Int32.toInt c206
                refine Gl.iload Y197 rfl at_209 rfl ?_
                refine Gl.iload Y197 rfl at_211 rfl ?_
                refine Gl.icmpne Y197 at_213 (by decide) rfl rfl (fun c213 => ?_) (fun c213 => ?_)
                · have j213 : ¬ (v18.toInt = z60.toInt) := fun q => c213 (Int32.toInt_inj.mp q)
                  refine Gl.iconst Y197 (v := (0 : Int32)) (by decide) at_241 rfl ?_
                  exact jk T197 Y197
                · have j213 : v18.toInt = z60.toInt := congrArg Int32.toInt c213
                  refine Gl.iload Y197 rfl at_216 rfl ?_
                  refine Gl.iload Y197 rfl at_218 rfl ?_
                  refine Gl.icmpne Y197 at_220 (by decide) rfl rfl (fun c220 => ?_) (fun c220 => ?_)
                  rotate_left
                  · exact absurd c220 (by decide)
                  refine Gl.iconst Y197 (v := (0 : Int32)) (by decide) at_241 rfl ?_
                  exact jk T197 Y197
            refine Gl.istore Y206j (L' := #[.val (.long r1), .second, .val (.long r2), .second, .val (.long t1), .second, .val (.long t2), .second, .val (.int md), .val (.int r9), .val (.int v18), .val (.int z47), .val (.int z60), .val (.long v72), .second, .val (.long z89), .second, .val (.int (2 : Int32)), .val (.int (0 : Int32)), .val (.int v123), .val (.ref b134), .val (.ref b197), .val (.int (0 : Int32))]) rfl at_242 rfl ?_
            refine Gl.aload Y206j rfl rfl at_244 rfl ?_
            refine Gl.aload Y206j rfl rfl at_246 rfl ?_
            have f48 : Exa Z h197 b134 "com/example/pagewright/pagewright/PageRequest" := (f134_1.keep K197)
            have f49 : Fld Z h197 b134 "com/example/pagewright/pagewright/PageRequest" "pageNumber" "I" (.int r9) := (f134_2.keep K197 nin0)
            have f50 : Fld Z h197 b134 "com/example/pagewright/pagewright/PageRequest" "pageSize" "I" (.int v18) := (f134_3.keep K197 nin0)
            have f51 : Fld Z h197 b134 "com/example/pagewright/pagewright/PageRequest" "counted" "Z" (.int (0 : Int32)) := (f134_4.keep K197 nin0)
            have f52 : Fld Z h197 b134 "com/example/pagewright/pagewright/PageRequest" "knownTotal" "J" (.long v72) := (f134_5.keep K197 nin0)
            refine Gl.callV Y206j (tw_40 hw) (tw_41 hw) (tw_43 hw) (tw_43 hw) (tw_42 hw) (tw_15 hw) (tw_44 hw) (by decide) f48 (rm16 l Z a0 hw [] b134 r9 v18 (0 : Int32) v72 b197 z47 z60 (1 : Int32) (-1 : Int64) h197 n0 Y206j.sz f48 f49 f50 f51 f52 f197_1 f197_2 f197_3 f197_4 f197_5) (a := b134) (argsL := [(.ref b197)]) (rest := []) rfl rfl (lenOf pd_8 rfl) rfl (by decide) (Nat.le_of_ble_eq_true rfl) (by decide) (by decide) at_248 rfl (fun v248 T248 h248 Y248 q248 => ?_)
            obtain ⟨r248, rfl, p248, rfl⟩ := q248
            have kc53 : (-1 : Int64).toInt = (-1) := by decide
            have kc54 : (0 : Int32).toInt = 0 := by decide
            have br248 : r248 = 0 ∨ r248 = 1 := p248.2
            show Gl p e below _ (T248.setTop (mkF m 251 #[.val (.long r1), .second, .val (.long r2), .second, .val (.long t1), .second, .val (.long t2), .second, .val (.int md), .val (.int r9), .val (.int v18), .val (.int z47), .val (.int z60), .val (.long v72), .second, .val (.long z89), .second, .val (.int (2 : Int32)), .val (.int (0 : Int32)), .val (.int v123), .val (.ref b134), .val (.ref b197), .val (.int (0 : Int32))] [(.int r248)]))
            refine Gl.iload Y248 rfl at_251 rfl ?_
            refine Gl.icmpne Y248 at_253 (by decide) rfl rfl (fun c253 => ?_) (fun c253 => ?_)
            · exfalso; have j253 : ¬ (r248.toInt = 0) := fun q => c253 (Int32.toInt_inj.mp q); omega
            have j253 : r248.toInt = 0 := congrArg Int32.toInt c253
            refine Gl.iconst Y248 (v := (1 : Int32)) (by decide) at_256 rfl ?_
            refine Gl.goto Y248 at_257 (by decide) rfl ?_
            exact Gl.retZ Y248 (by decide) (by decide) (x' := (1 : Int32)) (by decide) at_261 rfl
          · refine Gl.iload Y134 rfl at_189 rfl ?_
            refine Gl.iload Y134 rfl at_191 rfl ?_
            refine Gl.iload Y134 rfl at_193 rfl ?_
            refine Gl.lload Y134 rfl at_195 rfl ?_
            refine Gl.callS Y134 (tw_9 hw) (tw_10 hw) (tw_11 hw) (tw_12 hw) (by decide) (rm9 l Z a0 hw [] z47 z60 z89 h134 n0 Y134.sz (by first | assumption | decide | omega | (simp; done)) (by first | assumption | decide | omega | (simp; done)) (by first | assumption | decide | omega | (simp; done))) (argsL := [(.int z47), (.int z60), (.int (1 : Int32)), (.long z89)]) (rest := []) rfl rfl (lenOf pd_7 rfl) rfl (by decide) (Nat.le_of_ble_eq_true rfl) (by decide) (by decide) at_197 rfl (fun v197 T197 h197 Y197 q197 => ?_)
            obtain ⟨b197, rfl, K197, f197_0, f197_1, f197_2, f197_3, f197_4, f197_5⟩ := q197
            have Y197_sz : n0 ≤ h134.size := Y134.sz
            show Gl p e below _ (T197.setTop (mkF m 200 #[.val (.long r1), .second, .val (.long r2), .second, .val (.long t1), .second, .val (.long t2), .second, .val (.int md), .val (.int r9), .val (.int v18), .val (.int z47), .val (.int z60), .val (.long v72), .second, .val (.long z89), .second, .val (.int (2 : Int32)), .val (.int (1 : Int32)), .val (.int v123), .val (.ref b134), .unset, .unset] [(.ref b197)]))
            refine Gl.astore Y197 rfl (L' := #[.val (.long r1), .second, .val (.long r2), .second, .val (.long t1), .second, .val (.long t2), .second, .val (.int md), .val (.int r9), .val (.int v18), .val (.int z47), .val (.int z60), .val (.long v72), .second, .val (.long z89), .second, .val (.int (2 : Int32)), .val (.int (1 : Int32)), .val (.int v123), .val (.ref b134), .val (.ref b197), .unset]) rfl at_200 rfl ?_
            refine Gl.iload Y197 rfl at_202 rfl ?_
            refine Gl.iload Y197 rfl at_204 rfl ?_
            refine own_cut (B := ∀ T', Sd Z "com/example/pagewright/pagewright/PageRequestEqualsPinLaw" code maxLocals (some .boolean) n0 p l e room_1 s m #[(.long r1), (.long r2), (.long t1), (.long t2), (.int md)] below meth c T' h197 4 16 → Gl p e below (Pst s n0 room_1.cells room_1.slots (QL Z r1 r2 t1 t2 md ca h0)) (T'.setTop (mkF m 242 #[.val (.long r1), .second, .val (.long r2), .second, .val (.long t1), .second, .val (.long t2), .second, .val (.int md), .val (.int r9), .val (.int v18), .val (.int z47), .val (.int z60), .val (.long v72), .second, .val (.long z89), .second, .val (.int (2 : Int32)), .val (.int (1 : Int32)), .val (.int v123), .val (.ref b134), .val (.ref b197), .unset] [(.int (0 : Int32))]))) (fun jk => ?_) (fun T206j Y206j => ?_)
            · refine Gl.icmpne Y197 at_206 (by decide) rfl rfl (fun c206 => ?_) (fun c206 => ?_)
              · have j206 : ¬ (r9.toInt = z47.toInt) := fun q => c206 (Int32.toInt_inj.mp q)
                refine Gl.iconst Y197 (v := (0 : Int32)) (by decide) at_241 rfl ?_
                exact jk T197 Y197
              · have j206 : r9.toInt = z47.toInt := congrArg Int32.toInt c206
                refine Gl.iload Y197 rfl at_209 rfl ?_
                refine Gl.iload Y197 rfl at_211 rfl ?_
                refine Gl.icmpne Y197 at_213 (by decide) rfl rfl (fun c213 => ?_) (fun c213 => ?_)
                · have j213 : ¬ (v18.toInt = z60.toInt) := fun q => c213 (Int32.toInt_inj.mp q)
                  refine Gl.iconst Y197 (v := (0 : Int32)) (by decide) at_241 rfl ?_
                  exact jk T197 Y197
                · have j213 : v18.toInt = z60.toInt := congrArg Int32.toInt c213
                  refine Gl.iload Y197 rfl at_216 rfl ?_
                  refine Gl.iload Y197 rfl at_218 rfl ?_
                  refine Gl.icmpne Y197 at_220 (by decide) rfl rfl (fun c220 => ?_) (fun c220 => ?_)
                  rotate_left
                  · exact absurd c220 (by decide)
                  refine Gl.iconst Y197 (v := (0 : Int32)) (by decide) at_241 rfl ?_
                  exact jk T197 Y197
            refine Gl.istore Y206j (L' := #[.val (.long r1), .second, .val (.long r2), .second, .val (.long t1), .second, .val (.long t2), .second, .val (.int md), .val (.int r9), .val (.int v18), .val (.int z47), .val (.int z60), .val (.long v72), .second, .val (.long z89), .second, .val (.int (2 : Int32)), .val (.int (1 : Int32)), .val (.int v123), .val (.ref b134), .val (.ref b197), .val (.int (0 : Int32))]) rfl at_242 rfl ?_
            refine Gl.aload Y206j rfl rfl at_244 rfl ?_
            refine Gl.aload Y206j rfl rfl at_246 rfl ?_
            have f55 : Exa Z h197 b134 "com/example/pagewright/pagewright/PageRequest" := (f134_1.keep K197)
            have f56 : Fld Z h197 b134 "com/example/pagewright/pagewright/PageRequest" "pageNumber" "I" (.int r9) := (f134_2.keep K197 nin0)
            have f57 : Fld Z h197 b134 "com/example/pagewright/pagewright/PageRequest" "pageSize" "I" (.int v18) := (f134_3.keep K197 nin0)
            have f58 : Fld Z h197 b134 "com/example/pagewright/pagewright/PageRequest" "counted" "Z" (.int (0 : Int32)) := (f134_4.keep K197 nin0)
            have f59 : Fld Z h197 b134 "com/example/pagewright/pagewright/PageRequest" "knownTotal" "J" (.long v72) := (f134_5.keep K197 nin0)
            refine Gl.callV Y206j (tw_40 hw) (tw_41 hw) (tw_43 hw) (tw_43 hw) (tw_42 hw) (tw_15 hw) (tw_44 hw) (by decide) f55 (rm16 l Z a0 hw [] b134 r9 v18 (0 : Int32) v72 b197 z47 z60 (0 : Int32) (-1 : Int64) h197 n0 Y206j.sz f55 f56 f57 f58 f59 f197_1 f197_2 f197_3 f197_4 f197_5) (a := b134) (argsL := [(.ref b197)]) (rest := []) rfl rfl (lenOf pd_8 rfl) rfl (by decide) (Nat.le_of_ble_eq_true rfl) (by decide) (by decide) at_248 rfl (fun v248 T248 h248 Y248 q248 => ?_)
            obtain ⟨r248, rfl, p248, rfl⟩ := q248
            have kc60 : (-1 : Int64).toInt = (-1) := by decide
            have kc61 : (0 : Int32).toInt = 0 := by decide
            have br248 : r248 = 0 ∨ r248 = 1 := p248.2
            show Gl p e below _ (T248.setTop (mkF m 251 #[.val (.long r1), .second, .val (.long r2), .second, .val (.long t1), .second, .val (.long t2), .second, .val (.int md), .val (.int r9), .val (.int v18), .val (.int z47), .val (.int z60), .val (.long v72), .second, .val (.long z89), .second, .val (.int (2 : Int32)), .val (.int (1 : Int32)), .val (.int v123), .val (.ref b134), .val (.ref b197), .val (.int (0 : Int32))] [(.int r248)]))
            refine Gl.iload Y248 rfl at_251 rfl ?_
            refine Gl.icmpne Y248 at_253 (by decide) rfl rfl (fun c253 => ?_) (fun c253 => ?_)
            · exfalso; have j253 : ¬ (r248.toInt = 0) := fun q => c253 (Int32.toInt_inj.mp q); omega
            have j253 : r248.toInt = 0 := congrArg Int32.toInt c253
            refine Gl.iconst Y248 (v := (1 : Int32)) (by decide) at_256 rfl ?_
            refine Gl.goto Y248 at_257 (by decide) rfl ?_
            exact Gl.retZ Y248 (by decide) (by decide) (x' := (1 : Int32)) (by decide) at_261 rfl
          · refine Gl.iload Y134 rfl at_189 rfl ?_
            refine Gl.iload Y134 rfl at_191 rfl ?_
            refine Gl.iload Y134 rfl at_193 rfl ?_
            refine Gl.lload Y134 rfl at_195 rfl ?_
            refine Gl.callS Y134 (tw_9 hw) (tw_10 hw) (tw_11 hw) (tw_12 hw) (by decide) (rm10 l Z a0 hw [] z47 z60 z89 h134 n0 Y134.sz (by first | assumption | decide | omega | (simp; done)) (by first | assumption | decide | omega | (simp; done)) (by first | assumption | decide | omega | (simp; done))) (argsL := [(.int z47), (.int z60), (.int (2 : Int32)), (.long z89)]) (rest := []) rfl rfl (lenOf pd_7 rfl) rfl (by decide) (Nat.le_of_ble_eq_true rfl) (by decide) (by decide) at_197 rfl (fun v197 T197 h197 Y197 q197 => ?_)
            obtain ⟨b197, rfl, K197, f197_0, f197_1, f197_2, f197_3, f197_4, f197_5⟩ := q197
            have Y197_sz : n0 ≤ h134.size := Y134.sz
            show Gl p e below _ (T197.setTop (mkF m 200 #[.val (.long r1), .second, .val (.long r2), .second, .val (.long t1), .second, .val (.long t2), .second, .val (.int md), .val (.int r9), .val (.int v18), .val (.int z47), .val (.int z60), .val (.long v72), .second, .val (.long z89), .second, .val (.int (2 : Int32)), .val (.int (2 : Int32)), .val (.int v123), .val (.ref b134), .unset, .unset] [(.ref b197)]))
            refine Gl.astore Y197 rfl (L' := #[.val (.long r1), .second, .val (.long r2), .second, .val (.long t1), .second, .val (.long t2), .second, .val (.int md), .val (.int r9), .val (.int v18), .val (.int z47), .val (.int z60), .val (.long v72), .second, .val (.long z89), .second, .val (.int (2 : Int32)), .val (.int (2 : Int32)), .val (.int v123), .val (.ref b134), .val (.ref b197), .unset]) rfl at_200 rfl ?_
            refine Gl.iload Y197 rfl at_202 rfl ?_
            refine Gl.iload Y197 rfl at_204 rfl ?_
            obtain ⟨z206, hz206⟩ : ∃ z : Int32, (if r9 = z47 then (if v18 = z60 then (if v72 = z89 then (1 : Int32) else (0 : Int32)) else (0 : Int32)) else (0 : Int32)) = z := ⟨_, rfl⟩
            have iz206 : (r9.toInt = z47.toInt ∧ ((v18.toInt = z60.toInt ∧ ((v72.toInt = z89.toInt ∧ (z206.toInt = 1)) ∨ (¬ (v72.toInt = z89.toInt) ∧ (z206.toInt = 0)))) ∨ (¬ (v18.toInt = z60.toInt) ∧ (z206.toInt = 0)))) ∨ (¬ (r9.toInt = z47.toInt) ∧ (z206.toInt = 0)) := own_ite (c := r9 = z47) (fun q3 => ⟨congrArg Int32.toInt q3, own_ite (c := v18 = z60) (fun q4 => ⟨congrArg Int32.toInt q4, own_ite (c := v72 = z89) (fun q7 => ⟨congrArg Int64.toInt q7, congrArg Int32.toInt (show z206 = (1 : Int32) from by rw [← hz206]; simp only [q3, q4, q7, ↓reduceIte, if_true, if_false, ite_self])⟩) (fun q7 => ⟨fun q => q7 (Int64.toInt_inj.mp q), congrArg Int32.toInt (show z206 = (0 : Int32) from by rw [← hz206]; simp only [q3, q4, q7, ↓reduceIte, if_true, if_false, ite_self])⟩)⟩) (fun q4 => ⟨fun q => q4 (Int32.toInt_inj.mp q), congrArg Int32.toInt (show z206 = (0 : Int32) from by rw [← hz206]; simp only [q3, q4, ↓reduceIte, if_true, if_false, ite_self])⟩)⟩) (fun q3 => ⟨fun q => q3 (Int32.toInt_inj.mp q), congrArg Int32.toInt (show z206 = (0 : Int32) from by rw [← hz206]; simp only [q3, ↓reduceIte, if_true, if_false, ite_self])⟩)
            have bz206 : z206 = 0 ∨ z206 = 1 := by rw [← hz206]; (repeat' split) <;> first | (simp; done) | assumption
            refine own_cut (B := ∀ T', Sd Z "com/example/pagewright/pagewright/PageRequestEqualsPinLaw" code maxLocals (some .boolean) n0 p l e room_1 s m #[(.long r1), (.long r2), (.long t1), (.long t2), (.int md)] below meth c T' h197 4 16 → Gl p e below (Pst s n0 room_1.cells room_1.slots (QL Z r1 r2 t1 t2 md ca h0)) (T'.setTop (mkF m 242 #[.val (.long r1), .second, .val (.long r2), .second, .val (.long t1), .second, .val (.long t2), .second, .val (.int md), .val (.int r9), .val (.int v18), .val (.int z47), .val (.int z60), .val (.long v72), .second, .val (.long z89), .second, .val (.int (2 : Int32)), .val (.int (2 : Int32)), .val (.int v123), .val (.ref b134), .val (.ref b197), .unset] [(.int z206)]))) (fun jk => ?_) (fun T206j Y206j => ?_)
            · refine Gl.icmpne Y197 at_206 (by decide) rfl rfl (fun c206 => ?_) (fun c206 => ?_)
              · have j206 : ¬ (r9.toInt = z47.toInt) := fun q => c206 (Int32.toInt_inj.mp q)
                refine Gl.iconst Y197 (v := (0 : Int32)) (by decide) at_241 rfl ?_
                have ez206 : z206 = (0 : Int32) := by rw [← hz206]; simp only [c206, ↓reduceIte, if_true, if_false]
                rw [ez206] at jk
                exact jk T197 Y197
              · have j206 : r9.toInt = z47.toInt := congrArg Int32.toInt c206
                refine Gl.iload Y197 rfl at_209 rfl ?_
                refine Gl.iload Y197 rfl at_211 rfl ?_
                refine Gl.icmpne Y197 at_213 (by decide) rfl rfl (fun c213 => ?_) (fun c213 => ?_)
                · have j213 : ¬ (v18.toInt = z60.toInt) := fun q => c213 (Int32.toInt_inj.mp q)
                  refine Gl.iconst Y197 (v := (0 : Int32)) (by decide) at_241 rfl ?_
                  have ez206 : z206 = (0 : Int32) := by rw [← hz206]; simp only [c206, c213, ↓reduceIte, if_true, if_false]
                  rw [ez206] at jk
                  exact jk T197 Y197
                · have j213 : v18.toInt = z60.toInt := congrArg Int32.toInt c213
                  refine Gl.iload Y197 rfl at_216 rfl ?_
                  refine Gl.iload Y197 rfl at_218 rfl ?_
                  refine Gl.icmpne Y197 at_220 (by decide) rfl rfl (fun c220 => ?_) (fun c220 => ?_)
                  · exact absurd c220 (by decide)
                  refine Gl.iload Y197 rfl at_223 rfl ?_
                  refine Gl.iconst Y197 (v := (2 : Int32)) (by decide) at_225 rfl ?_
                  refine Gl.icmplt Y197 at_226 (by decide) rfl rfl (fun c226 => ?_) (fun c226 => ?_)
                  · exact absurd c226 (by decide)
                  refine Gl.lload Y197 rfl at_229 rfl ?_
                  refine Gl.lload Y197 rfl at_231 rfl ?_
                  refine Gl.lcmpne Y197 at_233 rfl at_234 (by decide) rfl rfl (fun c234 => ?_) (fun c234 => ?_)
                  · have j234 : ¬ (v72.toInt = z89.toInt) := fun q => c234 (Int64.toInt_inj.mp q)
                    refine Gl.iconst Y197 (v := (0 : Int32)) (by decide) at_241 rfl ?_
                    have ez206 : z206 = (0 : Int32) := by rw [← hz206]; simp only [c206, c213, c220, c226, c234, ↓reduceIte, if_true, if_false]
                    rw [ez206] at jk
                    exact jk T197 Y197
                  · have j234 : v72.toInt = z89.toInt := congrArg Int64.toInt c234
                    refine Gl.iconst Y197 (v := (1 : Int32)) (by decide) at_237 rfl ?_
                    refine Gl.goto Y197 at_238 (by decide) rfl ?_
                    have ez206 : z206 = (1 : Int32) := by rw [← hz206]; simp only [c206, c213, c220, c226, c234, ↓reduceIte, if_true, if_false]
                    rw [ez206] at jk
                    exact jk T197 Y197
            refine Gl.istore Y206j (L' := #[.val (.long r1), .second, .val (.long r2), .second, .val (.long t1), .second, .val (.long t2), .second, .val (.int md), .val (.int r9), .val (.int v18), .val (.int z47), .val (.int z60), .val (.long v72), .second, .val (.long z89), .second, .val (.int (2 : Int32)), .val (.int (2 : Int32)), .val (.int v123), .val (.ref b134), .val (.ref b197), .val (.int z206)]) rfl at_242 rfl ?_
            refine Gl.aload Y206j rfl rfl at_244 rfl ?_
            refine Gl.aload Y206j rfl rfl at_246 rfl ?_
            have f62 : Exa Z h197 b134 "com/example/pagewright/pagewright/PageRequest" := (f134_1.keep K197)
            have f63 : Fld Z h197 b134 "com/example/pagewright/pagewright/PageRequest" "pageNumber" "I" (.int r9) := (f134_2.keep K197 nin0)
            have f64 : Fld Z h197 b134 "com/example/pagewright/pagewright/PageRequest" "pageSize" "I" (.int v18) := (f134_3.keep K197 nin0)
            have f65 : Fld Z h197 b134 "com/example/pagewright/pagewright/PageRequest" "counted" "Z" (.int (0 : Int32)) := (f134_4.keep K197 nin0)
            have f66 : Fld Z h197 b134 "com/example/pagewright/pagewright/PageRequest" "knownTotal" "J" (.long v72) := (f134_5.keep K197 nin0)
            refine Gl.callV Y206j (tw_40 hw) (tw_41 hw) (tw_43 hw) (tw_43 hw) (tw_42 hw) (tw_15 hw) (tw_44 hw) (by decide) f62 (rm16 l Z a0 hw [] b134 r9 v18 (0 : Int32) v72 b197 z47 z60 (0 : Int32) z89 h197 n0 Y206j.sz f62 f63 f64 f65 f66 f197_1 f197_2 f197_3 f197_4 f197_5) (a := b134) (argsL := [(.ref b197)]) (rest := []) rfl rfl (lenOf pd_8 rfl) rfl (by decide) (Nat.le_of_ble_eq_true rfl) (by decide) (by decide) at_248 rfl (fun v248 T248 h248 Y248 q248 => ?_)
            obtain ⟨r248, rfl, p248, rfl⟩ := q248
            have kc67 : (0 : Int32).toInt = 0 := by decide
            have br248 : r248 = 0 ∨ r248 = 1 := p248.2
            show Gl p e below _ (T248.setTop (mkF m 251 #[.val (.long r1), .second, .val (.long r2), .second, .val (.long t1), .second, .val (.long t2), .second, .val (.int md), .val (.int r9), .val (.int v18), .val (.int z47), .val (.int z60), .val (.long v72), .second, .val (.long z89), .second, .val (.int (2 : Int32)), .val (.int (2 : Int32)), .val (.int v123), .val (.ref b134), .val (.ref b197), .val (.int z206)] [(.int r248)]))
            refine Gl.iload Y248 rfl at_251 rfl ?_
            refine Gl.icmpne Y248 at_253 (by decide) rfl rfl (fun c253 => ?_) (fun c253 => ?_)
            · exfalso; have j253 : ¬ (r248.toInt = z206.toInt) := fun q => c253 (Int32.toInt_inj.mp q); omega
            have j253 : r248.toInt = z206.toInt := congrArg Int32.toInt c253
            refine Gl.iconst Y248 (v := (1 : Int32)) (by decide) at_256 rfl ?_
            refine Gl.goto Y248 at_257 (by decide) rfl ?_
            exact Gl.retZ Y248 (by decide) (by decide) (x' := (1 : Int32)) (by decide) at_261 rfl
        · have j176 : v123.toInt = 3 := congrArg Int32.toInt c176
          refine Gl.aload Y134 rfl rfl at_179 rfl ?_
          refine Gl.astore Y134 rfl (L' := #[.val (.long r1), .second, .val (.long r2), .second, .val (.long t1), .second, .val (.long t2), .second, .val (.int md), .val (.int r9), .val (.int v18), .val (.int z47), .val (.int z60), .val (.long v72), .second, .val (.long z89), .second, .val (.int (2 : Int32)), .val (.int r113), .val (.int v123), .val (.ref b134), .val (.ref b134), .unset]) rfl at_181 rfl ?_
          refine Gl.iconst Y134 (v := (1 : Int32)) (by decide) at_183 rfl ?_
          refine Gl.istore Y134 (L' := #[.val (.long r1), .second, .val (.long r2), .second, .val (.long t1), .second, .val (.long t2), .second, .val (.int md), .val (.int r9), .val (.int v18), .val (.int z47), .val (.int z60), .val (.long v72), .second, .val (.long z89), .second, .val (.int (2 : Int32)), .val (.int r113), .val (.int v123), .val (.ref b134), .val (.ref b134), .val (.int (1 : Int32))]) rfl at_184 rfl ?_
          refine Gl.goto Y134 at_186 (by decide) rfl ?_
          refine Gl.aload Y134 rfl rfl at_244 rfl ?_
          refine Gl.aload Y134 rfl rfl at_246 rfl ?_
          refine Gl.callV Y134 (tw_40 hw) (tw_41 hw) (tw_43 hw) (tw_43 hw) (tw_42 hw) (tw_15 hw) (tw_44 hw) (by decide) f134_1 (rm15 l Z a0 hw [] b134 r9 v18 (0 : Int32) v72 h134 n0 Y134.sz f134_1 f134_2 f134_3 f134_4 f134_5) (a := b134) (argsL := [(.ref b134)]) (rest := []) rfl rfl (lenOf pd_8 rfl) rfl (by decide) (Nat.le_of_ble_eq_true rfl) (by decide) (by decide) at_248 rfl (fun v248 T248 h248 Y248 q248 => ?_)
          obtain ⟨rfl, rfl⟩ := q248
          show Gl p e below _ (T248.setTop (mkF m 251 #[.val (.long r1), .second, .val (.long r2), .second, .val (.long t1), .second, .val (.long t2), .second, .val (.int md), .val (.int r9), .val (.int v18), .val (.int z47), .val (.int z60), .val (.long v72), .second, .val (.long z89), .second, .val (.int (2 : Int32)), .val (.int r113), .val (.int v123), .val (.ref b134), .val (.ref b134), .val (.int (1 : Int32))] [(.int (1 : Int32))]))
          refine Gl.iload Y248 rfl at_251 rfl ?_
          refine Gl.icmpne Y248 at_253 (by decide) rfl rfl (fun c253 => ?_) (fun c253 => ?_)
          · exact absurd c253 (by decide)
          refine Gl.iconst Y248 (v := (1 : Int32)) (by decide) at_256 rfl ?_
          refine Gl.goto Y248 at_257 (by decide) rfl ?_
          exact Gl.retZ Y248 (by decide) (by decide) (x' := (1 : Int32)) (by decide) at_261 rfl
      · have j157 : v123.toInt = 2 := congrArg Int32.toInt c157
        refine Gl.iload Y134 rfl at_160 rfl ?_
        have f68 : Old Z n0 h134 := (O.keep K134 all0)
        refine Gl.callS Y134 (tw_51 hw) (tw_52 hw) (tw_53 hw) (tw_54 hw) (by decide) (rm12 l Z a0 hw [] r9 ca h134 n0 Y134.sz f68 S1 S G) (argsL := [(.int r9)]) (rest := []) rfl rfl (lenOf pd_9 rfl) rfl (by decide) (Nat.le_of_ble_eq_true rfl) (by decide) (by decide) at_162 rfl (fun v162 T162 h162 Y162 q162 => ?_)
        obtain ⟨b162, rfl, K162, f162_0⟩ := q162
        show Gl p e below _ (T162.setTop (mkF m 165 #[.val (.long r1), .second, .val (.long r2), .second, .val (.long t1), .second, .val (.long t2), .second, .val (.int md), .val (.int r9), .val (.int v18), .val (.int z47), .val (.int z60), .val (.long v72), .second, .val (.long z89), .second, .val (.int (2 : Int32)), .val (.int r113), .val (.int v123), .val (.ref b134), .unset, .unset] [(.ref b162)]))
        refine Gl.astore Y162 rfl (L' := #[.val (.long r1), .second, .val (.long r2), .second, .val (.long t1), .second, .val (.long t2), .second, .val (.int md), .val (.int r9), .val (.int v18), .val (.int z47), .val (.int z60), .val (.long v72), .second, .val (.long z89), .second, .val (.int (2 : Int32)), .val (.int r113), .val (.int v123), .val (.ref b134), .val (.ref b162), .unset]) rfl at_165 rfl ?_
        refine Gl.iconst Y162 (v := (0 : Int32)) (by decide) at_167 rfl ?_
        refine Gl.istore Y162 (L' := #[.val (.long r1), .second, .val (.long r2), .second, .val (.long t1), .second, .val (.long t2), .second, .val (.int md), .val (.int r9), .val (.int v18), .val (.int z47), .val (.int z60), .val (.long v72), .second, .val (.long z89), .second, .val (.int (2 : Int32)), .val (.int r113), .val (.int v123), .val (.ref b134), .val (.ref b162), .val (.int (0 : Int32))]) rfl at_168 rfl ?_
        refine Gl.goto Y162 at_170 (by decide) rfl ?_
        refine Gl.aload Y162 rfl rfl at_244 rfl ?_
        refine Gl.aload Y162 rfl rfl at_246 rfl ?_
        have f69 : Exa Z h162 b134 "com/example/pagewright/pagewright/PageRequest" := (f134_1.keep K162)
        refine Gl.callV Y162 (tw_40 hw) (tw_41 hw) (tw_43 hw) (tw_43 hw) (tw_42 hw) (tw_15 hw) (tw_44 hw) (by decide) f69 (rm14 l Z a0 hw [] b134 b162 h162 n0 Y162.sz f162_0) (a := b134) (argsL := [(.ref b162)]) (rest := []) rfl rfl (lenOf pd_8 rfl) rfl (by decide) (Nat.le_of_ble_eq_true rfl) (by decide) (by decide) at_248 rfl (fun v248 T248 h248 Y248 q248 => ?_)
        obtain ⟨rfl, rfl⟩ := q248
        show Gl p e below _ (T248.setTop (mkF m 251 #[.val (.long r1), .second, .val (.long r2), .second, .val (.long t1), .second, .val (.long t2), .second, .val (.int md), .val (.int r9), .val (.int v18), .val (.int z47), .val (.int z60), .val (.long v72), .second, .val (.long z89), .second, .val (.int (2 : Int32)), .val (.int r113), .val (.int v123), .val (.ref b134), .val (.ref b162), .val (.int (0 : Int32))] [(.int (0 : Int32))]))
        refine Gl.iload Y248 rfl at_251 rfl ?_
        refine Gl.icmpne Y248 at_253 (by decide) rfl rfl (fun c253 => ?_) (fun c253 => ?_)
        · exact absurd c253 (by decide)
        refine Gl.iconst Y248 (v := (1 : Int32)) (by decide) at_256 rfl ?_
        refine Gl.goto Y248 at_257 (by decide) rfl ?_
        exact Gl.retZ Y248 (by decide) (by decide) (x' := (1 : Int32)) (by decide) at_261 rfl
    · have j142 : v123.toInt = 1 := congrArg Int32.toInt c142
      refine Gl.aconstNull Y134 at_145 rfl ?_
      refine Gl.astore Y134 rfl (L' := #[.val (.long r1), .second, .val (.long r2), .second, .val (.long t1), .second, .val (.long t2), .second, .val (.int md), .val (.int r9), .val (.int v18), .val (.int z47), .val (.int z60), .val (.long v72), .second, .val (.long z89), .second, .val (.int (2 : Int32)), .val (.int r113), .val (.int v123), .val (.ref b134), .val .null, .unset]) rfl at_146 rfl ?_
      refine Gl.iconst Y134 (v := (0 : Int32)) (by decide) at_148 rfl ?_
      refine Gl.istore Y134 (L' := #[.val (.long r1), .second, .val (.long r2), .second, .val (.long t1), .second, .val (.long t2), .second, .val (.int md), .val (.int r9), .val (.int v18), .val (.int z47), .val (.int z60), .val (.long v72), .second, .val (.long z89), .second, .val (.int (2 : Int32)), .val (.int r113), .val (.int v123), .val (.ref b134), .val .null, .val (.int (0 : Int32))]) rfl at_149 rfl ?_
      refine Gl.goto Y134 at_151 (by decide) rfl ?_
      refine Gl.aload Y134 rfl rfl at_244 rfl ?_
      refine Gl.aload Y134 rfl rfl at_246 rfl ?_
      refine Gl.callV Y134 (tw_40 hw) (tw_41 hw) (tw_43 hw) (tw_43 hw) (tw_42 hw) (tw_15 hw) (tw_44 hw) (by decide) f134_1 (rm13 l Z a0 hw [] b134 h134 n0 Y134.sz) (a := b134) (argsL := [.null]) (rest := []) rfl rfl (lenOf pd_8 rfl) rfl (by decide) (Nat.le_of_ble_eq_true rfl) (by decide) (by decide) at_248 rfl (fun v248 T248 h248 Y248 q248 => ?_)
      obtain ⟨rfl, rfl⟩ := q248
      show Gl p e below _ (T248.setTop (mkF m 251 #[.val (.long r1), .second, .val (.long r2), .second, .val (.long t1), .second, .val (.long t2), .second, .val (.int md), .val (.int r9), .val (.int v18), .val (.int z47), .val (.int z60), .val (.long v72), .second, .val (.long z89), .second, .val (.int (2 : Int32)), .val (.int r113), .val (.int v123), .val (.ref b134), .val .null, .val (.int (0 : Int32))] [(.int (0 : Int32))]))
      refine Gl.iload Y248 rfl at_251 rfl ?_
      refine Gl.icmpne Y248 at_253 (by decide) rfl rfl (fun c253 => ?_) (fun c253 => ?_)
      · exact absurd c253 (by decide)
      refine Gl.iconst Y248 (v := (1 : Int32)) (by decide) at_256 rfl ?_
      refine Gl.goto Y248 at_257 (by decide) rfl ?_
      exact Gl.retZ Y248 (by decide) (by decide) (x' := (1 : Int32)) (by decide) at_261 rfl
set_option maxRecDepth 65536 in
set_option maxHeartbeats 40000000 in
theorem comes_1 {Post : Tables → Env → Array Value → State → Outcome → State → Prop} (hpost : ∀ tb e args s v u, (limb_1_1.after args s (.returned v) u = true ∧ limb_1_2.after args s (.returned v) u = true ∧ True) → FrameEnd s (.returned v) u (Jvm.fieldLocs frame_1_writes args s ++ Jvm.arrayLocs frame_1_arrays args s ++ Jvm.staticLocs frame_1_statics s) 16 128 → Post tb e args s (.returned v) u) :
    ArmFor flags0 classFile x code maxLocals ret World_1 tables_1 room_1 Calls_1 rest_1 Pre_1 Post := by
  intro l hfl _ _ p e ha hc hk s m args below hf hA hF happ hP
  obtain ⟨hcalls, hrest, hpre⟩ := hP
  obtain ⟨-, -, -, hnamed, -, -, -, hat⟩ := (Spec.applies_iff hf).mp happ
  obtain ⟨hg, hn⟩ := and_e (Cond.before_iff.mp (show (Jvm.Cond.and given_1 narrow_1).before args s = true from hpre))
  obtain ⟨a0, g0⟩ := and_e hg
  obtain ⟨a1, g1⟩ := and_e g0
  obtain ⟨a2, g2⟩ := and_e g1
  obtain ⟨a3, g3⟩ := and_e g2
  obtain ⟨a4, g4⟩ := and_e g3
  obtain ⟨w0, w1, w2, w3, w4, rfl⟩ : ∃ w0 w1 w2 w3 w4 : Value, args = #[w0, w1, w2, w3, w4] := by
    have hs : args.size = 5 := by simpa [Cond.value, given_1] using a0
    obtain ⟨L⟩ := args
    match L, hs with
    | [w0, w1, w2, w3, w4], _ => exact ⟨w0, w1, w2, w3, w4, rfl⟩
  have hw := fun d (hd : d ∈ tables_1) => atoms_spec (ws := Jvm.Cond.code x code maxLocals ret :: tables_1) hat d (List.mem_cons_of_mem _ hd)
  have hfit : Fit s := fun {y c} hc i hi => by
    obtain ⟨ha, rfl⟩ := Array.getElem?_eq_some_iff.mp hc
    have q := List.all_eq_true.mp ((Array.all_eq_true_iff_forall_mem.mp hF) _ (Array.getElem_mem ha)) i (List.mem_range.mpr hi)
    simpa [Array.getElem?_eq_getElem hi] using q
  obtain ⟨i0, e0⟩ := isL_v a1
  obtain rfl : w0 = (.long i0) := Option.some.inj e0
  obtain ⟨i1, e1⟩ := isL_v a2
  obtain rfl : w1 = (.long i1) := Option.some.inj e1
  obtain ⟨i2, e2⟩ := isL_v a3
  obtain rfl : w2 = (.long i2) := Option.some.inj e2
  obtain ⟨i3, e3⟩ := isL_v a4
  obtain rfl : w3 = (.long i3) := Option.some.inj e3
  obtain ⟨i4, e4⟩ := is_v g4
  obtain rfl : w4 = (.int i4) := Option.some.inj e4
  have hs := (atoms_of jdkStatics_1 (show (jdkStatics_1.foldr Jvm.Cond.and restOwn_1).before _ s = true from hrest)).1
  have hs0 := own_eqI (Cond.before_iff.mp (hs _ (List.mem_of_getElem? (i := 3) rfl)))
  have S_hi := Sta.start hs0 (Or.inl (hs _ (List.mem_of_getElem? (i := 1) rfl)))
  have hs1 := Cond.before_iff.mp (hs _ (List.mem_of_getElem? (i := 4) rfl))
  obtain ⟨ca, v_ca⟩ := arr_v hs1
  have S_ca := Sta.start v_ca (Or.inr ⟨(tw_56 hw), hs _ (List.mem_of_getElem? (i := 2) rfl)⟩)
  have G_ca := own_cache_start v_ca hs1 (Cond.before_iff.mp (hs _ (List.mem_of_getElem? (i := 6) rfl))) (Cond.before_iff.mp (hs _ (List.mem_of_getElem? (i := 7) rfl)))
  obtain ⟨n, o, h1, h2, h3, v, L, rfl, ⟨hv, N⟩, hq⟩ := rmL l s _ hw tables_1 i0 i1 i2 i3 i4 ca s.heap s.heap.size (Nat.le_refl _) (Old.start s) S_hi S_ca G_ca p e ha hc hk s m _ below hf ((Spec.applies_iff_loose hf).mp happ).1 ⟨rfl, State.Warmed39.refl s, rfl⟩ trivial
  obtain rfl : v = some (.int 1) := hv
  refine ⟨n, _, h1, h2, h3, hpost _ _ _ _ _ _ ⟨Cond.after_iff.mpr rfl, Cond.after_iff.mpr (eq_i res_at (Term.int_eval (1)) rfl), trivial⟩ ⟨hq.1, hq.2.1, (hq.2.2.sift fun y hy => Or.inr (N y hy)).mono (by decide) (by decide)⟩⟩
theorem main_1_1 : Claimed_1_1 := comes_1 fun _ _ _ _ _ _ h hF => ⟨h.1, hF⟩
theorem main_1_2 : Claimed_1_2 := comes_1 fun _ _ _ _ _ _ h hF => ⟨h.2.1, hF⟩
end Jvm.Pilot.@@N@@
namespace Jvm.Pilot.@@N@@
open Jvm Jvm.ClassFile Sem Op Lib Jvm.Free Jvm.Stand Jvm.Pilot.@@N@@.Jvm.D
/-! MADE BY PROGRAM (witnessworld.py) out of the Statement's table words and the real class files: 17 classes; the members and pool entries that the words name. The judged class is class 1, her method 2. -/
namespace start1
open Jvm.ClassFile
def u (s : String) : CpInfo := .utf8 (stringToUtf16 s)
/-- a pool by its gaps: so many unusable entries, then the entry; so many at the end -/
def gap : Nat → List CpInfo → List CpInfo
  | 0, r => r
  | n + 1, r => .unusable :: gap n r
def poolList (es : List (Nat × CpInfo)) (last : Nat) : List CpInfo := es.foldr (fun e r => gap e.1 (e.2 :: r)) (gap last [])
def pool (es : List (Nat × CpInfo)) (last : Nat) : Array CpInfo := ⟨poolList es last⟩
def fileOf (pool : Array CpInfo) (this : Nat) (attrs : Array Attribute := #[]) (ms : Array MethodInfo := #[]) (fl : Nat := 33) (sup : Nat := 0) (ifs : Array Nat := #[]) (fds : Array FieldInfo := #[]) : ClassFile where
  minorVersion := 0
  majorVersion := 65
  constantPool := pool
  accessFlags := fl
  thisClass := this
  superClass := sup
  interfaces := ifs
  fields := fds
  methods := ms
  attributes := attrs
def plain (name : String) (sup : Option ClassId) : Class where
  name := name
  kind := .ordinary
  loader := none
  accessFlags := 33
  super := sup
  interfaces := #[]
  cf := none
  fields := #[]
  methods := #[]
  instanceTypes := #[]
  staticTypes := #[]
  resolved := #[]
  callSites := []
  init := .initialized
  statics := none
  mirror := none

def pool0 : Array CpInfo := pool [(5, u "<init>"), (0, u "()V"), (1, .class_ 10), (1, u "java/lang/Object")] 113

def k0c0 : Code := { maxStack := 0, maxLocals := 1, code := object_method_1_code, exceptionTable := #[], attributes := #[] }
def k0m0 : Method := { name := "<init>", desc := "()V", sig := { parameters := [], returnType := none }, accessFlags := 1, code := some k0c0 }
/-- java/lang/Object -/
def k0 : Class := { plain "java/lang/Object" none with
  accessFlags := 33
  interfaces := #[]
  cf := some (fileOf pool0 8 #[] #[{ accessFlags := 1, nameIndex := 5, descriptorIndex := 6, attributes := #[] }] 33 0 #[] #[])
  fields := #[]
  methods := #[k0m0]
  instanceTypes := #[]
  staticTypes := #[]
  resolved := Array.replicate 124 none
  statics := none }

def pool1 : Array CpInfo := pool [(2, .class_ 4), (1, u "java/lang/Object"), (0, u "<init>"), (0, u "()V"), (0, .class_ 8), (0, u "com/example/pagewright/pagewright/PageRequest"), (0, .methodref 7 10), (0, .nameAndType 5 11), (0, u "(II)V"), (0, .methodref 7 13), (0, .nameAndType 14 15), (0, u "withoutCount"), (0, u "()Lcom/example/pagewright/pagewright/PageRequest;"), (0, .methodref 7 17), (0, .nameAndType 18 19), (0, u "withTotal"), (0, u "(J)Lcom/example/pagewright/pagewright/PageRequest;"), (0, .integer 2147483647), (0, .methodref 22 23), (0, .class_ 24), (0, .nameAndType 25 26), (0, u "java/lang/Math"), (0, u "max"), (0, u "(II)I"), (2, .long 9223372036854775807), (1, .methodref 22 32), (0, .nameAndType 33 26), (0, u "min"), (0, .methodref 35 36), (0, .class_ 37), (0, .nameAndType 38 39), (0, u "com/example/pagewright/pagewright/PageRequestEqualsPinLaw"), (0, u "make"), (0, u "(IIIJ)Lcom/example/pagewright/pagewright/PageRequest;"), (0, .methodref 41 42), (0, .class_ 43), (0, .nameAndType 44 45), (0, u "java/lang/Integer"), (0, u "valueOf"), (0, u "(I)Ljava/lang/Integer;"), (0, .methodref 7 47), (0, .nameAndType 48 49), (0, u "equals"), (0, u "(Ljava/lang/Object;)Z"), (3, u "law"), (0, u "(JJJJI)Z")] 2

def k1m0 : Method := { name := "<init>", desc := "()V", sig := { parameters := [], returnType := none }, accessFlags := 1, code := none }
def k1c1 : Code := { maxStack := 4, maxLocals := 6, code := method_2_code, exceptionTable := #[], attributes := #[] }
def k1m1 : Method := { name := "make", desc := "(IIIJ)Lcom/example/pagewright/pagewright/PageRequest;", sig := { parameters := [.int, .int, .int, .long], returnType := some (.object "com/example/pagewright/pagewright/PageRequest") }, accessFlags := 10, code := some k1c1 }
def k1c2 : Code := { maxStack := 5, maxLocals := 23, code := code, exceptionTable := #[], attributes := #[] }
def k1m2 : Method := { name := "law", desc := "(JJJJI)Z", sig := { parameters := [.long, .long, .long, .long, .int], returnType := some .boolean }, accessFlags := 9, code := some k1c2 }
/-- com/example/pagewright/pagewright/PageRequestEqualsPinLaw -/
def k1 : Class := { plain "com/example/pagewright/pagewright/PageRequestEqualsPinLaw" (some 0) with
  accessFlags := 49
  interfaces := #[]
  cf := some (fileOf pool1 35 #[] #[{ accessFlags := 1, nameIndex := 5, descriptorIndex := 6, attributes := #[] }, { accessFlags := 10, nameIndex := 38, descriptorIndex := 39, attributes := #[] }, { accessFlags := 9, nameIndex := 53, descriptorIndex := 54, attributes := #[] }] 49 2 #[] #[])
  fields := #[]
  methods := #[k1m0, k1m1, k1m2]
  instanceTypes := #[]
  staticTypes := #[]
  resolved := Array.replicate 57 none
  statics := none }

def pool2 : Array CpInfo := pool [(1, .class_ 2), (0, u "java/lang/Math"), (1, .class_ 6), (1, u "java/lang/Object"), (0, u "<init>"), (0, u "()V"), (89, .class_ 100), (1, u "java/lang/Math$RandomNumberGeneratorHolder"), (71, u "negativeZeroFloatBits"), (0, u "J"), (2, u "negativeZeroDoubleBits"), (21, u "max"), (2, u "min"), (43, u "$assertionsDisabled"), (0, u "Z"), (88, u "(II)I"), (2, u "twoToTheDoubleScaleDown"), (0, u "D"), (4, u "twoToTheDoubleScaleUp"), (9, u "E"), (3, u "PI"), (2, u "TAU"), (2, u "DEGREES_TO_RADIANS"), (0, u "RADIANS_TO_DEGREES")] 94

def k2m0 : Method := { name := "<init>", desc := "()V", sig := { parameters := [], returnType := none }, accessFlags := 2, code := none }
def k2c1 : Code := { maxStack := 2, maxLocals := 2, code := jdk_29_method_65_code, exceptionTable := #[], attributes := #[] }
def k2m1 : Method := { name := "max", desc := "(II)I", sig := { parameters := [.int, .int], returnType := some .int }, accessFlags := 9, code := some k2c1 }
def k2c2 : Code := { maxStack := 2, maxLocals := 2, code := jdk_29_method_69_code, exceptionTable := #[], attributes := #[] }
def k2m2 : Method := { name := "min", desc := "(II)I", sig := { parameters := [.int, .int], returnType := some .int }, accessFlags := 9, code := some k2c2 }
/-- java/lang/Math -/
def k2 : Class := { plain "java/lang/Math" (some 0) with
  accessFlags := 49
  interfaces := #[]
  cf := some (fileOf pool2 1 #[.nestMembers #[98]] #[{ accessFlags := 2, nameIndex := 7, descriptorIndex := 8, attributes := #[] }, { accessFlags := 9, nameIndex := 198, descriptorIndex := 335, attributes := #[] }, { accessFlags := 9, nameIndex := 201, descriptorIndex := 335, attributes := #[] }] 49 4 #[] #[{ accessFlags := 25, nameIndex := 354, descriptorIndex := 339, attributes := #[] }, { accessFlags := 25, nameIndex := 358, descriptorIndex := 339, attributes := #[] }, { accessFlags := 25, nameIndex := 361, descriptorIndex := 339, attributes := #[] }, { accessFlags := 26, nameIndex := 364, descriptorIndex := 339, attributes := #[] }, { accessFlags := 26, nameIndex := 365, descriptorIndex := 339, attributes := #[] }, { accessFlags := 26, nameIndex := 172, descriptorIndex := 173, attributes := #[] }, { accessFlags := 26, nameIndex := 176, descriptorIndex := 173, attributes := #[] }, { accessFlags := 8, nameIndex := 344, descriptorIndex := 339, attributes := #[] }, { accessFlags := 8, nameIndex := 338, descriptorIndex := 339, attributes := #[] }, { accessFlags := 4120, nameIndex := 245, descriptorIndex := 246, attributes := #[] }])
  fields := #[{ name := "E", type := .double, accessFlags := 25, slot := 0, constantValue := 0 }, { name := "PI", type := .double, accessFlags := 25, slot := 1, constantValue := 0 }, { name := "TAU", type := .double, accessFlags := 25, slot := 2, constantValue := 0 }, { name := "DEGREES_TO_RADIANS", type := .double, accessFlags := 26, slot := 3, constantValue := 0 }, { name := "RADIANS_TO_DEGREES", type := .double, accessFlags := 26, slot := 4, constantValue := 0 }, { name := "negativeZeroFloatBits", type := .long, accessFlags := 26, slot := 5, constantValue := 0 }, { name := "negativeZeroDoubleBits", type := .long, accessFlags := 26, slot := 6, constantValue := 0 }, { name := "twoToTheDoubleScaleUp", type := .double, accessFlags := 8, slot := 7, constantValue := 0 }, { name := "twoToTheDoubleScaleDown", type := .double, accessFlags := 8, slot := 8, constantValue := 0 }, { name := "$assertionsDisabled", type := .boolean, accessFlags := 4120, slot := 9, constantValue := 0 }]
  methods := #[k2m0, k2m1, k2m2]
  instanceTypes := #[]
  staticTypes := #[.double, .double, .double, .double, .double, .long, .long, .double, .double, .boolean]
  resolved := Array.replicate 460 none
  statics := none }

def pool3 : Array CpInfo := pool [(3, .long 18446744073709551615), (1, .methodref 6 7), (0, .class_ 8), (0, .nameAndType 9 10), (0, u "com/example/pagewright/pagewright/PageRequest"), (0, u "<init>"), (0, u "(IIZJ)V"), (10, .methodref 22 23), (0, .class_ 24), (0, .nameAndType 9 25), (0, u "java/lang/Object"), (0, u "()V"), (0, .fieldref 6 27), (0, .nameAndType 28 29), (0, u "pageNumber"), (0, u "I"), (0, .fieldref 6 31), (0, .nameAndType 32 29), (0, u "pageSize"), (0, .fieldref 6 34), (0, .nameAndType 35 36), (0, u "counted"), (0, u "Z"), (0, .fieldref 6 38), (0, .nameAndType 39 40), (0, u "knownTotal"), (0, u "J"), (64, u "(II)V"), (3, u "withoutCount"), (0, u "()Lcom/example/pagewright/pagewright/PageRequest;"), (0, u "withTotal"), (0, u "(J)Lcom/example/pagewright/pagewright/PageRequest;"), (3, u "equals"), (0, u "(Ljava/lang/Object;)Z")] 38

def k3c0 : Code := { maxStack := 6, maxLocals := 3, code := prog_3_method_1_code, exceptionTable := #[], attributes := #[] }
def k3m0 : Method := { name := "<init>", desc := "(II)V", sig := { parameters := [.int, .int], returnType := none }, accessFlags := 0, code := some k3c0 }
def k3c1 : Code := { maxStack := 3, maxLocals := 6, code := prog_3_method_2_code, exceptionTable := #[], attributes := #[] }
def k3m1 : Method := { name := "<init>", desc := "(IIZJ)V", sig := { parameters := [.int, .int, .boolean, .long], returnType := none }, accessFlags := 2, code := some k3c1 }
def k3c2 : Code := { maxStack := 7, maxLocals := 1, code := prog_3_method_3_code, exceptionTable := #[], attributes := #[] }
def k3m2 : Method := { name := "withoutCount", desc := "()Lcom/example/pagewright/pagewright/PageRequest;", sig := { parameters := [], returnType := some (.object "com/example/pagewright/pagewright/PageRequest") }, accessFlags := 1, code := some k3c2 }
def k3c3 : Code := { maxStack := 7, maxLocals := 3, code := prog_3_method_4_code, exceptionTable := #[], attributes := #[] }
def k3m3 : Method := { name := "withTotal", desc := "(J)Lcom/example/pagewright/pagewright/PageRequest;", sig := { parameters := [.long], returnType := some (.object "com/example/pagewright/pagewright/PageRequest") }, accessFlags := 1, code := some k3c3 }
def k3c4 : Code := { maxStack := 4, maxLocals := 3, code := prog_3_method_9_code, exceptionTable := #[], attributes := #[] }
def k3m4 : Method := { name := "equals", desc := "(Ljava/lang/Object;)Z", sig := { parameters := [(.object "java/lang/Object")], returnType := some .boolean }, accessFlags := 1, code := some k3c4 }
/-- com/example/pagewright/pagewright/PageRequest -/
def k3 : Class := { plain "com/example/pagewright/pagewright/PageRequest" (some 0) with
  accessFlags := 49
  interfaces := #[]
  cf := some (fileOf pool3 6 #[] #[{ accessFlags := 0, nameIndex := 9, descriptorIndex := 105, attributes := #[] }, { accessFlags := 2, nameIndex := 9, descriptorIndex := 10, attributes := #[] }, { accessFlags := 1, nameIndex := 109, descriptorIndex := 110, attributes := #[] }, { accessFlags := 1, nameIndex := 111, descriptorIndex := 112, attributes := #[] }, { accessFlags := 1, nameIndex := 116, descriptorIndex := 117, attributes := #[] }] 49 22 #[] #[{ accessFlags := 18, nameIndex := 28, descriptorIndex := 29, attributes := #[] }, { accessFlags := 18, nameIndex := 32, descriptorIndex := 29, attributes := #[] }, { accessFlags := 18, nameIndex := 35, descriptorIndex := 36, attributes := #[] }, { accessFlags := 18, nameIndex := 39, descriptorIndex := 40, attributes := #[] }])
  fields := #[{ name := "pageNumber", type := .int, accessFlags := 18, slot := 0, constantValue := 0 }, { name := "pageSize", type := .int, accessFlags := 18, slot := 1, constantValue := 0 }, { name := "counted", type := .boolean, accessFlags := 18, slot := 2, constantValue := 0 }, { name := "knownTotal", type := .long, accessFlags := 18, slot := 3, constantValue := 0 }]
  methods := #[k3m0, k3m1, k3m2, k3m3, k3m4]
  instanceTypes := #[.int, .int, .boolean, .long]
  staticTypes := #[]
  resolved := Array.replicate 156 none
  statics := none }

def pool4 : Array CpInfo := pool [(1, .class_ 2), (0, u "java/io/Serializable"), (0, .class_ 4), (0, u "java/lang/Object")] 2

/-- java/io/Serializable -/
def k4 : Class := { plain "java/io/Serializable" (some 0) with
  accessFlags := 1537
  interfaces := #[]
  cf := some (fileOf pool4 1 #[] #[] 1537 3 #[] #[])
  fields := #[]
  methods := #[]
  instanceTypes := #[]
  staticTypes := #[]
  resolved := Array.replicate 7 none
  statics := none }

def pool5 : Array CpInfo := pool [(1, .methodref 2 3), (0, .class_ 4), (0, .nameAndType 5 6), (0, u "java/lang/Object"), (0, u "<init>"), (0, u "()V"), (1, .class_ 10), (1, u "java/lang/Number"), (2, .class_ 14), (0, u "java/io/Serializable"), (0, u "serialVersionUID"), (0, u "J")] 20

def k5c0 : Code := { maxStack := 1, maxLocals := 1, code := jdk_18_method_1_code, exceptionTable := #[], attributes := #[] }
def k5m0 : Method := { name := "<init>", desc := "()V", sig := { parameters := [], returnType := none }, accessFlags := 1, code := some k5c0 }
/-- java/lang/Number -/
def k5 : Class := { plain "java/lang/Number" (some 0) with
  accessFlags := 1057
  interfaces := #[4]
  cf := some (fileOf pool5 8 #[] #[{ accessFlags := 1, nameIndex := 5, descriptorIndex := 6, attributes := #[] }] 1057 2 #[13] #[{ accessFlags := 26, nameIndex := 15, descriptorIndex := 16, attributes := #[] }])
  fields := #[{ name := "serialVersionUID", type := .long, accessFlags := 26, slot := 0, constantValue := 0 }]
  methods := #[k5m0]
  instanceTypes := #[]
  staticTypes := #[.long]
  resolved := Array.replicate 37 none
  statics := none }

def pool6 : Array CpInfo := pool [(1, .class_ 2), (0, u "java/lang/Comparable"), (0, .class_ 4), (0, u "java/lang/Object")] 7

/-- java/lang/Comparable -/
def k6 : Class := { plain "java/lang/Comparable" (some 0) with
  accessFlags := 1537
  interfaces := #[]
  cf := some (fileOf pool6 1 #[] #[] 1537 3 #[] #[])
  fields := #[]
  methods := #[]
  instanceTypes := #[]
  staticTypes := #[]
  resolved := Array.replicate 12 none
  statics := none }

def pool7 : Array CpInfo := pool [(1, .class_ 2), (0, u "java/lang/constant/Constable"), (0, .class_ 4), (0, u "java/lang/Object")] 6

/-- java/lang/constant/Constable -/
def k7 : Class := { plain "java/lang/constant/Constable" (some 0) with
  accessFlags := 1537
  interfaces := #[]
  cf := some (fileOf pool7 1 #[] #[] 1537 3 #[] #[])
  fields := #[]
  methods := #[]
  instanceTypes := #[]
  staticTypes := #[]
  resolved := Array.replicate 11 none
  statics := none }

def pool8 : Array CpInfo := pool [(1, .class_ 2), (0, u "java/lang/constant/ConstantDesc"), (0, .class_ 4), (0, u "java/lang/Object")] 32

/-- java/lang/constant/ConstantDesc -/
def k8 : Class := { plain "java/lang/constant/ConstantDesc" (some 0) with
  accessFlags := 1537
  interfaces := #[]
  cf := some (fileOf pool8 1 #[] #[] 1537 3 #[] #[])
  fields := #[]
  methods := #[]
  instanceTypes := #[]
  staticTypes := #[]
  resolved := Array.replicate 37 none
  statics := none }

def pool9 : Array CpInfo := pool [(1, .class_ 2), (0, u "java/lang/Integer"), (16, u "digits"), (0, u "[C"), (46, u "<init>"), (17, u "DigitOnes"), (0, u "[B"), (2, u "DigitTens"), (10, .nameAndType 67 101), (0, u "()V"), (85, u "valueOf"), (0, u "(I)Ljava/lang/Integer;"), (0, .class_ 190), (0, u "java/lang/Integer$IntegerCache"), (0, .fieldref 189 192), (0, .nameAndType 193 194), (0, u "high"), (0, u "I"), (0, .fieldref 189 196), (0, .nameAndType 197 198), (0, u "cache"), (0, u "[Ljava/lang/Integer;"), (0, .methodref 1 200), (0, .nameAndType 67 201), (0, u "(I)V"), (0, .methodref 203 100), (0, .class_ 204), (0, u "java/lang/Number"), (0, .fieldref 1 206), (0, .nameAndType 207 194), (0, u "value"), (94, u "TYPE"), (0, u "Ljava/lang/Class;"), (0, .class_ 305), (0, u "java/lang/Comparable"), (0, .class_ 307), (0, u "java/lang/constant/Constable"), (0, .class_ 309), (0, u "java/lang/constant/ConstantDesc"), (0, u "MIN_VALUE"), (1, u "MAX_VALUE"), (3, u "SIZE"), (1, u "BYTES"), (1, u "serialVersionUID"), (0, u "J")] 131

def k9c0 : Code := { maxStack := 3, maxLocals := 1, code := jdk_33_method_22_code, exceptionTable := #[], attributes := #[] }
def k9m0 : Method := { name := "valueOf", desc := "(I)Ljava/lang/Integer;", sig := { parameters := [.int], returnType := some (.object "java/lang/Integer") }, accessFlags := 9, code := some k9c0 }
def k9c1 : Code := { maxStack := 2, maxLocals := 2, code := jdk_33_method_23_code, exceptionTable := #[], attributes := #[] }
def k9m1 : Method := { name := "<init>", desc := "(I)V", sig := { parameters := [.int], returnType := none }, accessFlags := 1, code := some k9c1 }
/-- java/lang/Integer -/
def k9 : Class := { plain "java/lang/Integer" (some 5) with
  accessFlags := 49
  interfaces := #[6, 7, 8]
  cf := some (fileOf pool9 1 #[.nestMembers #[189]] #[{ accessFlags := 9, nameIndex := 187, descriptorIndex := 188, attributes := #[] }, { accessFlags := 1, nameIndex := 67, descriptorIndex := 201, attributes := #[] }] 49 203 #[304, 306, 308] #[{ accessFlags := 25, nameIndex := 310, descriptorIndex := 194, attributes := #[] }, { accessFlags := 25, nameIndex := 312, descriptorIndex := 194, attributes := #[] }, { accessFlags := 25, nameIndex := 302, descriptorIndex := 303, attributes := #[] }, { accessFlags := 24, nameIndex := 19, descriptorIndex := 20, attributes := #[] }, { accessFlags := 24, nameIndex := 89, descriptorIndex := 86, attributes := #[] }, { accessFlags := 24, nameIndex := 85, descriptorIndex := 86, attributes := #[] }, { accessFlags := 18, nameIndex := 207, descriptorIndex := 194, attributes := #[] }, { accessFlags := 25, nameIndex := 316, descriptorIndex := 194, attributes := #[] }, { accessFlags := 25, nameIndex := 318, descriptorIndex := 194, attributes := #[] }, { accessFlags := 26, nameIndex := 320, descriptorIndex := 321, attributes := #[] }])
  fields := #[{ name := "MIN_VALUE", type := .int, accessFlags := 25, slot := 0, constantValue := 0 }, { name := "MAX_VALUE", type := .int, accessFlags := 25, slot := 1, constantValue := 0 }, { name := "TYPE", type := (.object "java/lang/Class"), accessFlags := 25, slot := 2, constantValue := 0 }, { name := "digits", type := (.array .char), accessFlags := 24, slot := 3, constantValue := 0 }, { name := "DigitTens", type := (.array .byte), accessFlags := 24, slot := 4, constantValue := 0 }, { name := "DigitOnes", type := (.array .byte), accessFlags := 24, slot := 5, constantValue := 0 }, { name := "value", type := .int, accessFlags := 18, slot := 0, constantValue := 0 }, { name := "SIZE", type := .int, accessFlags := 25, slot := 6, constantValue := 0 }, { name := "BYTES", type := .int, accessFlags := 25, slot := 7, constantValue := 0 }, { name := "serialVersionUID", type := .long, accessFlags := 26, slot := 8, constantValue := 0 }]
  methods := #[k9m0, k9m1]
  instanceTypes := #[.int]
  staticTypes := #[.int, .int, (.object "java/lang/Class"), (.array .char), (.array .byte), (.array .byte), .int, .int, .long]
  resolved := Array.replicate 453 none
  statics := none }

def pool10 : Array CpInfo := pool [(2, .class_ 4), (1, u "java/lang/Object"), (0, u "<init>"), (0, u "()V"), (0, .class_ 8), (0, u "java/lang/Integer"), (7, .class_ 18), (1, u "java/lang/Integer$IntegerCache"), (0, u "$assertionsDisabled"), (0, u "Z"), (26, u "high"), (0, u "I"), (8, u "archivedCache"), (0, u "[Ljava/lang/Integer;"), (12, u "cache"), (0, u "low")] 27

def k10m0 : Method := { name := "<init>", desc := "()V", sig := { parameters := [], returnType := none }, accessFlags := 2, code := none }
/-- java/lang/Integer$IntegerCache -/
def k10 : Class := { plain "java/lang/Integer$IntegerCache" (some 0) with
  accessFlags := 48
  interfaces := #[]
  cf := some (fileOf pool10 16 #[.nestHost 7] #[{ accessFlags := 2, nameIndex := 5, descriptorIndex := 6, attributes := #[] }] 48 2 #[] #[{ accessFlags := 24, nameIndex := 72, descriptorIndex := 48, attributes := #[] }, { accessFlags := 24, nameIndex := 47, descriptorIndex := 48, attributes := #[] }, { accessFlags := 24, nameIndex := 71, descriptorIndex := 58, attributes := #[] }, { accessFlags := 8, nameIndex := 57, descriptorIndex := 58, attributes := #[] }, { accessFlags := 4120, nameIndex := 19, descriptorIndex := 20, attributes := #[] }])
  fields := #[{ name := "low", type := .int, accessFlags := 24, slot := 0, constantValue := 0 }, { name := "high", type := .int, accessFlags := 24, slot := 1, constantValue := 0 }, { name := "cache", type := (.array (.object "java/lang/Integer")), accessFlags := 24, slot := 2, constantValue := 0 }, { name := "archivedCache", type := (.array (.object "java/lang/Integer")), accessFlags := 8, slot := 3, constantValue := 0 }, { name := "$assertionsDisabled", type := .boolean, accessFlags := 4120, slot := 4, constantValue := 0 }]
  methods := #[k10m0]
  instanceTypes := #[]
  staticTypes := #[.int, .int, (.array (.object "java/lang/Integer")), (.array (.object "java/lang/Integer")), .boolean]
  resolved := Array.replicate 100 none
  statics := some 0 }

def pool11 : Array CpInfo := pool [(1, u "java/lang/Cloneable"), (0, .class_ 1), (0, u "java/lang/Object"), (0, .class_ 3)] 3

/-- java/lang/Cloneable -/
def k11 : Class := { plain "java/lang/Cloneable" (some 0) with
  accessFlags := 1537
  interfaces := #[]
  cf := some (fileOf pool11 2 #[] #[] 1537 4 #[] #[])
  fields := #[]
  methods := #[]
  instanceTypes := #[]
  staticTypes := #[]
  resolved := Array.replicate 8 none
  statics := none }

/-- the primitive byte -/
def k12 : Class := { plain "byte" none with kind := .primitive 'B', accessFlags := 0x411 }
/-- [B -/
def k13 : Class := { plain "[B" (some 0) with kind := .array 12 .byte, interfaces := #[11, 4], accessFlags := 1041 }

/-- the primitive int -/
def k14 : Class := { plain "int" none with kind := .primitive 'I', accessFlags := 0x411 }
/-- [I -/
def k15 : Class := { plain "[I" (some 0) with kind := .array 14 .int, interfaces := #[11, 4], accessFlags := 1041 }

/-- [Ljava/lang/Integer; -/
def k16 : Class := { plain "[Ljava/lang/Integer;" (some 0) with kind := .array 9 (.object "java/lang/Integer"), interfaces := #[11, 4], accessFlags := 1041 }

def heap : Heap := #[{ cls := 10, slots := #[.int 0, .int 127, .ref 1, .null, .int 0], vm := .statics 10 },
  { cls := 16, slots := #[.ref 2, .ref 3, .ref 4, .ref 5, .ref 6, .ref 7, .ref 8, .ref 9, .ref 10, .ref 11, .ref 12, .ref 13, .ref 14, .ref 15, .ref 16, .ref 17, .ref 18, .ref 19, .ref 20, .ref 21, .ref 22, .ref 23, .ref 24, .ref 25, .ref 26, .ref 27, .ref 28, .ref 29, .ref 30, .ref 31, .ref 32, .ref 33, .ref 34, .ref 35, .ref 36, .ref 37, .ref 38, .ref 39, .ref 40, .ref 41, .ref 42, .ref 43, .ref 44, .ref 45, .ref 46, .ref 47, .ref 48, .ref 49, .ref 50, .ref 51, .ref 52, .ref 53, .ref 54, .ref 55, .ref 56, .ref 57, .ref 58, .ref 59, .ref 60, .ref 61, .ref 62, .ref 63, .ref 64, .ref 65, .ref 66, .ref 67, .ref 68, .ref 69, .ref 70, .ref 71, .ref 72, .ref 73, .ref 74, .ref 75, .ref 76, .ref 77, .ref 78, .ref 79, .ref 80, .ref 81, .ref 82, .ref 83, .ref 84, .ref 85, .ref 86, .ref 87, .ref 88, .ref 89, .ref 90, .ref 91, .ref 92, .ref 93, .ref 94, .ref 95, .ref 96, .ref 97, .ref 98, .ref 99, .ref 100, .ref 101, .ref 102, .ref 103, .ref 104, .ref 105, .ref 106, .ref 107, .ref 108, .ref 109, .ref 110, .ref 111, .ref 112, .ref 113, .ref 114, .ref 115, .ref 116, .ref 117, .ref 118, .ref 119, .ref 120, .ref 121, .ref 122, .ref 123, .ref 124, .ref 125, .ref 126, .ref 127, .ref 128, .ref 129, .ref 130, .ref 131, .ref 132, .ref 133, .ref 134, .ref 135, .ref 136, .ref 137, .ref 138, .ref 139, .ref 140, .ref 141, .ref 142, .ref 143, .ref 144, .ref 145, .ref 146, .ref 147, .ref 148, .ref 149, .ref 150, .ref 151, .ref 152, .ref 153, .ref 154, .ref 155, .ref 156, .ref 157, .ref 158, .ref 159, .ref 160, .ref 161, .ref 162, .ref 163, .ref 164, .ref 165, .ref 166, .ref 167, .ref 168, .ref 169, .ref 170, .ref 171, .ref 172, .ref 173, .ref 174, .ref 175, .ref 176, .ref 177, .ref 178, .ref 179, .ref 180, .ref 181, .ref 182, .ref 183, .ref 184, .ref 185, .ref 186, .ref 187, .ref 188, .ref 189, .ref 190, .ref 191, .ref 192, .ref 193, .ref 194, .ref 195, .ref 196, .ref 197, .ref 198, .ref 199, .ref 200, .ref 201, .ref 202, .ref 203, .ref 204, .ref 205, .ref 206, .ref 207, .ref 208, .ref 209, .ref 210, .ref 211, .ref 212, .ref 213, .ref 214, .ref 215, .ref 216, .ref 217, .ref 218, .ref 219, .ref 220, .ref 221, .ref 222, .ref 223, .ref 224, .ref 225, .ref 226, .ref 227, .ref 228, .ref 229, .ref 230, .ref 231, .ref 232, .ref 233, .ref 234, .ref 235, .ref 236, .ref 237, .ref 238, .ref 239, .ref 240, .ref 241, .ref 242, .ref 243, .ref 244, .ref 245, .ref 246, .ref 247, .ref 248, .ref 249, .ref 250, .ref 251, .ref 252, .ref 253, .ref 254, .ref 255, .ref 256, .ref 257], vm := .none },
  { cls := 9, slots := #[.int (-128)], vm := .none },
  { cls := 9, slots := #[.int (-127)], vm := .none },
  { cls := 9, slots := #[.int (-126)], vm := .none },
  { cls := 9, slots := #[.int (-125)], vm := .none },
  { cls := 9, slots := #[.int (-124)], vm := .none },
  { cls := 9, slots := #[.int (-123)], vm := .none },
  { cls := 9, slots := #[.int (-122)], vm := .none },
  { cls := 9, slots := #[.int (-121)], vm := .none },
  { cls := 9, slots := #[.int (-120)], vm := .none },
  { cls := 9, slots := #[.int (-119)], vm := .none },
  { cls := 9, slots := #[.int (-118)], vm := .none },
  { cls := 9, slots := #[.int (-117)], vm := .none },
  { cls := 9, slots := #[.int (-116)], vm := .none },
  { cls := 9, slots := #[.int (-115)], vm := .none },
  { cls := 9, slots := #[.int (-114)], vm := .none },
  { cls := 9, slots := #[.int (-113)], vm := .none },
  { cls := 9, slots := #[.int (-112)], vm := .none },
  { cls := 9, slots := #[.int (-111)], vm := .none },
  { cls := 9, slots := #[.int (-110)], vm := .none },
  { cls := 9, slots := #[.int (-109)], vm := .none },
  { cls := 9, slots := #[.int (-108)], vm := .none },
  { cls := 9, slots := #[.int (-107)], vm := .none },
  { cls := 9, slots := #[.int (-106)], vm := .none },
  { cls := 9, slots := #[.int (-105)], vm := .none },
  { cls := 9, slots := #[.int (-104)], vm := .none },
  { cls := 9, slots := #[.int (-103)], vm := .none },
  { cls := 9, slots := #[.int (-102)], vm := .none },
  { cls := 9, slots := #[.int (-101)], vm := .none },
  { cls := 9, slots := #[.int (-100)], vm := .none },
  { cls := 9, slots := #[.int (-99)], vm := .none },
  { cls := 9, slots := #[.int (-98)], vm := .none },
  { cls := 9, slots := #[.int (-97)], vm := .none },
  { cls := 9, slots := #[.int (-96)], vm := .none },
  { cls := 9, slots := #[.int (-95)], vm := .none },
  { cls := 9, slots := #[.int (-94)], vm := .none },
  { cls := 9, slots := #[.int (-93)], vm := .none },
  { cls := 9, slots := #[.int (-92)], vm := .none },
  { cls := 9, slots := #[.int (-91)], vm := .none },
  { cls := 9, slots := #[.int (-90)], vm := .none },
  { cls := 9, slots := #[.int (-89)], vm := .none },
  { cls := 9, slots := #[.int (-88)], vm := .none },
  { cls := 9, slots := #[.int (-87)], vm := .none },
  { cls := 9, slots := #[.int (-86)], vm := .none },
  { cls := 9, slots := #[.int (-85)], vm := .none },
  { cls := 9, slots := #[.int (-84)], vm := .none },
  { cls := 9, slots := #[.int (-83)], vm := .none },
  { cls := 9, slots := #[.int (-82)], vm := .none },
  { cls := 9, slots := #[.int (-81)], vm := .none },
  { cls := 9, slots := #[.int (-80)], vm := .none },
  { cls := 9, slots := #[.int (-79)], vm := .none },
  { cls := 9, slots := #[.int (-78)], vm := .none },
  { cls := 9, slots := #[.int (-77)], vm := .none },
  { cls := 9, slots := #[.int (-76)], vm := .none },
  { cls := 9, slots := #[.int (-75)], vm := .none },
  { cls := 9, slots := #[.int (-74)], vm := .none },
  { cls := 9, slots := #[.int (-73)], vm := .none },
  { cls := 9, slots := #[.int (-72)], vm := .none },
  { cls := 9, slots := #[.int (-71)], vm := .none },
  { cls := 9, slots := #[.int (-70)], vm := .none },
  { cls := 9, slots := #[.int (-69)], vm := .none },
  { cls := 9, slots := #[.int (-68)], vm := .none },
  { cls := 9, slots := #[.int (-67)], vm := .none },
  { cls := 9, slots := #[.int (-66)], vm := .none },
  { cls := 9, slots := #[.int (-65)], vm := .none },
  { cls := 9, slots := #[.int (-64)], vm := .none },
  { cls := 9, slots := #[.int (-63)], vm := .none },
  { cls := 9, slots := #[.int (-62)], vm := .none },
  { cls := 9, slots := #[.int (-61)], vm := .none },
  { cls := 9, slots := #[.int (-60)], vm := .none },
  { cls := 9, slots := #[.int (-59)], vm := .none },
  { cls := 9, slots := #[.int (-58)], vm := .none },
  { cls := 9, slots := #[.int (-57)], vm := .none },
  { cls := 9, slots := #[.int (-56)], vm := .none },
  { cls := 9, slots := #[.int (-55)], vm := .none },
  { cls := 9, slots := #[.int (-54)], vm := .none },
  { cls := 9, slots := #[.int (-53)], vm := .none },
  { cls := 9, slots := #[.int (-52)], vm := .none },
  { cls := 9, slots := #[.int (-51)], vm := .none },
  { cls := 9, slots := #[.int (-50)], vm := .none },
  { cls := 9, slots := #[.int (-49)], vm := .none },
  { cls := 9, slots := #[.int (-48)], vm := .none },
  { cls := 9, slots := #[.int (-47)], vm := .none },
  { cls := 9, slots := #[.int (-46)], vm := .none },
  { cls := 9, slots := #[.int (-45)], vm := .none },
  { cls := 9, slots := #[.int (-44)], vm := .none },
  { cls := 9, slots := #[.int (-43)], vm := .none },
  { cls := 9, slots := #[.int (-42)], vm := .none },
  { cls := 9, slots := #[.int (-41)], vm := .none },
  { cls := 9, slots := #[.int (-40)], vm := .none },
  { cls := 9, slots := #[.int (-39)], vm := .none },
  { cls := 9, slots := #[.int (-38)], vm := .none },
  { cls := 9, slots := #[.int (-37)], vm := .none },
  { cls := 9, slots := #[.int (-36)], vm := .none },
  { cls := 9, slots := #[.int (-35)], vm := .none },
  { cls := 9, slots := #[.int (-34)], vm := .none },
  { cls := 9, slots := #[.int (-33)], vm := .none },
  { cls := 9, slots := #[.int (-32)], vm := .none },
  { cls := 9, slots := #[.int (-31)], vm := .none },
  { cls := 9, slots := #[.int (-30)], vm := .none },
  { cls := 9, slots := #[.int (-29)], vm := .none },
  { cls := 9, slots := #[.int (-28)], vm := .none },
  { cls := 9, slots := #[.int (-27)], vm := .none },
  { cls := 9, slots := #[.int (-26)], vm := .none },
  { cls := 9, slots := #[.int (-25)], vm := .none },
  { cls := 9, slots := #[.int (-24)], vm := .none },
  { cls := 9, slots := #[.int (-23)], vm := .none },
  { cls := 9, slots := #[.int (-22)], vm := .none },
  { cls := 9, slots := #[.int (-21)], vm := .none },
  { cls := 9, slots := #[.int (-20)], vm := .none },
  { cls := 9, slots := #[.int (-19)], vm := .none },
  { cls := 9, slots := #[.int (-18)], vm := .none },
  { cls := 9, slots := #[.int (-17)], vm := .none },
  { cls := 9, slots := #[.int (-16)], vm := .none },
  { cls := 9, slots := #[.int (-15)], vm := .none },
  { cls := 9, slots := #[.int (-14)], vm := .none },
  { cls := 9, slots := #[.int (-13)], vm := .none },
  { cls := 9, slots := #[.int (-12)], vm := .none },
  { cls := 9, slots := #[.int (-11)], vm := .none },
  { cls := 9, slots := #[.int (-10)], vm := .none },
  { cls := 9, slots := #[.int (-9)], vm := .none },
  { cls := 9, slots := #[.int (-8)], vm := .none },
  { cls := 9, slots := #[.int (-7)], vm := .none },
  { cls := 9, slots := #[.int (-6)], vm := .none },
  { cls := 9, slots := #[.int (-5)], vm := .none },
  { cls := 9, slots := #[.int (-4)], vm := .none },
  { cls := 9, slots := #[.int (-3)], vm := .none },
  { cls := 9, slots := #[.int (-2)], vm := .none },
  { cls := 9, slots := #[.int (-1)], vm := .none },
  { cls := 9, slots := #[.int 0], vm := .none },
  { cls := 9, slots := #[.int 1], vm := .none },
  { cls := 9, slots := #[.int 2], vm := .none },
  { cls := 9, slots := #[.int 3], vm := .none },
  { cls := 9, slots := #[.int 4], vm := .none },
  { cls := 9, slots := #[.int 5], vm := .none },
  { cls := 9, slots := #[.int 6], vm := .none },
  { cls := 9, slots := #[.int 7], vm := .none },
  { cls := 9, slots := #[.int 8], vm := .none },
  { cls := 9, slots := #[.int 9], vm := .none },
  { cls := 9, slots := #[.int 10], vm := .none },
  { cls := 9, slots := #[.int 11], vm := .none },
  { cls := 9, slots := #[.int 12], vm := .none },
  { cls := 9, slots := #[.int 13], vm := .none },
  { cls := 9, slots := #[.int 14], vm := .none },
  { cls := 9, slots := #[.int 15], vm := .none },
  { cls := 9, slots := #[.int 16], vm := .none },
  { cls := 9, slots := #[.int 17], vm := .none },
  { cls := 9, slots := #[.int 18], vm := .none },
  { cls := 9, slots := #[.int 19], vm := .none },
  { cls := 9, slots := #[.int 20], vm := .none },
  { cls := 9, slots := #[.int 21], vm := .none },
  { cls := 9, slots := #[.int 22], vm := .none },
  { cls := 9, slots := #[.int 23], vm := .none },
  { cls := 9, slots := #[.int 24], vm := .none },
  { cls := 9, slots := #[.int 25], vm := .none },
  { cls := 9, slots := #[.int 26], vm := .none },
  { cls := 9, slots := #[.int 27], vm := .none },
  { cls := 9, slots := #[.int 28], vm := .none },
  { cls := 9, slots := #[.int 29], vm := .none },
  { cls := 9, slots := #[.int 30], vm := .none },
  { cls := 9, slots := #[.int 31], vm := .none },
  { cls := 9, slots := #[.int 32], vm := .none },
  { cls := 9, slots := #[.int 33], vm := .none },
  { cls := 9, slots := #[.int 34], vm := .none },
  { cls := 9, slots := #[.int 35], vm := .none },
  { cls := 9, slots := #[.int 36], vm := .none },
  { cls := 9, slots := #[.int 37], vm := .none },
  { cls := 9, slots := #[.int 38], vm := .none },
  { cls := 9, slots := #[.int 39], vm := .none },
  { cls := 9, slots := #[.int 40], vm := .none },
  { cls := 9, slots := #[.int 41], vm := .none },
  { cls := 9, slots := #[.int 42], vm := .none },
  { cls := 9, slots := #[.int 43], vm := .none },
  { cls := 9, slots := #[.int 44], vm := .none },
  { cls := 9, slots := #[.int 45], vm := .none },
  { cls := 9, slots := #[.int 46], vm := .none },
  { cls := 9, slots := #[.int 47], vm := .none },
  { cls := 9, slots := #[.int 48], vm := .none },
  { cls := 9, slots := #[.int 49], vm := .none },
  { cls := 9, slots := #[.int 50], vm := .none },
  { cls := 9, slots := #[.int 51], vm := .none },
  { cls := 9, slots := #[.int 52], vm := .none },
  { cls := 9, slots := #[.int 53], vm := .none },
  { cls := 9, slots := #[.int 54], vm := .none },
  { cls := 9, slots := #[.int 55], vm := .none },
  { cls := 9, slots := #[.int 56], vm := .none },
  { cls := 9, slots := #[.int 57], vm := .none },
  { cls := 9, slots := #[.int 58], vm := .none },
  { cls := 9, slots := #[.int 59], vm := .none },
  { cls := 9, slots := #[.int 60], vm := .none },
  { cls := 9, slots := #[.int 61], vm := .none },
  { cls := 9, slots := #[.int 62], vm := .none },
  { cls := 9, slots := #[.int 63], vm := .none },
  { cls := 9, slots := #[.int 64], vm := .none },
  { cls := 9, slots := #[.int 65], vm := .none },
  { cls := 9, slots := #[.int 66], vm := .none },
  { cls := 9, slots := #[.int 67], vm := .none },
  { cls := 9, slots := #[.int 68], vm := .none },
  { cls := 9, slots := #[.int 69], vm := .none },
  { cls := 9, slots := #[.int 70], vm := .none },
  { cls := 9, slots := #[.int 71], vm := .none },
  { cls := 9, slots := #[.int 72], vm := .none },
  { cls := 9, slots := #[.int 73], vm := .none },
  { cls := 9, slots := #[.int 74], vm := .none },
  { cls := 9, slots := #[.int 75], vm := .none },
  { cls := 9, slots := #[.int 76], vm := .none },
  { cls := 9, slots := #[.int 77], vm := .none },
  { cls := 9, slots := #[.int 78], vm := .none },
  { cls := 9, slots := #[.int 79], vm := .none },
  { cls := 9, slots := #[.int 80], vm := .none },
  { cls := 9, slots := #[.int 81], vm := .none },
  { cls := 9, slots := #[.int 82], vm := .none },
  { cls := 9, slots := #[.int 83], vm := .none },
  { cls := 9, slots := #[.int 84], vm := .none },
  { cls := 9, slots := #[.int 85], vm := .none },
  { cls := 9, slots := #[.int 86], vm := .none },
  { cls := 9, slots := #[.int 87], vm := .none },
  { cls := 9, slots := #[.int 88], vm := .none },
  { cls := 9, slots := #[.int 89], vm := .none },
  { cls := 9, slots := #[.int 90], vm := .none },
  { cls := 9, slots := #[.int 91], vm := .none },
  { cls := 9, slots := #[.int 92], vm := .none },
  { cls := 9, slots := #[.int 93], vm := .none },
  { cls := 9, slots := #[.int 94], vm := .none },
  { cls := 9, slots := #[.int 95], vm := .none },
  { cls := 9, slots := #[.int 96], vm := .none },
  { cls := 9, slots := #[.int 97], vm := .none },
  { cls := 9, slots := #[.int 98], vm := .none },
  { cls := 9, slots := #[.int 99], vm := .none },
  { cls := 9, slots := #[.int 100], vm := .none },
  { cls := 9, slots := #[.int 101], vm := .none },
  { cls := 9, slots := #[.int 102], vm := .none },
  { cls := 9, slots := #[.int 103], vm := .none },
  { cls := 9, slots := #[.int 104], vm := .none },
  { cls := 9, slots := #[.int 105], vm := .none },
  { cls := 9, slots := #[.int 106], vm := .none },
  { cls := 9, slots := #[.int 107], vm := .none },
  { cls := 9, slots := #[.int 108], vm := .none },
  { cls := 9, slots := #[.int 109], vm := .none },
  { cls := 9, slots := #[.int 110], vm := .none },
  { cls := 9, slots := #[.int 111], vm := .none },
  { cls := 9, slots := #[.int 112], vm := .none },
  { cls := 9, slots := #[.int 113], vm := .none },
  { cls := 9, slots := #[.int 114], vm := .none },
  { cls := 9, slots := #[.int 115], vm := .none },
  { cls := 9, slots := #[.int 116], vm := .none },
  { cls := 9, slots := #[.int 117], vm := .none },
  { cls := 9, slots := #[.int 118], vm := .none },
  { cls := 9, slots := #[.int 119], vm := .none },
  { cls := 9, slots := #[.int 120], vm := .none },
  { cls := 9, slots := #[.int 121], vm := .none },
  { cls := 9, slots := #[.int 122], vm := .none },
  { cls := 9, slots := #[.int 123], vm := .none },
  { cls := 9, slots := #[.int 124], vm := .none },
  { cls := 9, slots := #[.int 125], vm := .none },
  { cls := 9, slots := #[.int 126], vm := .none },
  { cls := 9, slots := #[.int 127], vm := .none }]
def classes : Array Class := #[k0, k1, k2, k3, k4, k5, k6, k7, k8, k9, k10, k11, k12, k13, k14, k15, k16]
def interned : List (Array UInt16 × Addr) := []
def slotsUsed : Nat := 517
def theMethod : MethodId := ⟨1, 2⟩
def args0 : Array Value := #[.long 7, .long 3, .long 9, .long 9, .int 4]
def aboutOver (below : List Frame) : State where
  vm := { classes := classes, interned := interned.toArray }
  heap := heap
  slotsUsed := slotsUsed
  threads := #[{ frames := .invoking theMethod args0 :: below }]
def below0 : List Frame := [.native { method := ⟨0, 0⟩, args := #[] }]
def about1 : State := aboutOver below0
def p0 : Program := .bare "" "" ""
def e0 : Env := launch0.env 0 0 0
theorem w_frames : about1.frames = Frame.invoking theMethod args0 :: below0 := rfl
set_option maxRecDepth 65536 in
theorem w_args : argsFit about1.vm theMethod args0 = true := by decide +kernel
set_option maxRecDepth 65536 in
theorem w_heap : heapFits about1 = true := by decide +kernel
set_option maxRecDepth 65536 in
theorem w_runnable : about1.curStatus? = some .runnable := by decide +kernel
set_option maxRecDepth 65536 in
theorem w_alone : about1.alone = true := by decide +kernel
set_option maxRecDepth 65536 in
theorem w_named : about1.methodNamed? x = some theMethod := by decide +kernel
set_option maxRecDepth 65536 in
theorem w_hears : about1.hears theMethod below0 = true := by decide +kernel
set_option maxRecDepth 65536 in
theorem w_ripe : about1.ripe theMethod args0 below0 = true := by decide +kernel
theorem w_running : about1.status = .running := rfl
set_option maxRecDepth 65536 in
theorem w_room : about1.hasRoom e0.platform room_1 = true :=
  launch0.hasRoom_least _ room_1 (by decide +kernel) (by decide +kernel) (by decide +kernel) (by decide +kernel) (by decide +kernel) (by decide +kernel)
theorem allAtoms_all (ts : List Jvm.Cond) (a : Array Jvm.Value) (st : Jvm.State) : (allAtoms ts).before a st = ts.all (fun c => c.before a st) := by
  induction ts with
  | nil => rfl
  | cons c t ih =>
    show (Jvm.Cond.and c (allAtoms t)).before a st = _
    rw [Jvm.Cond.before_and, ih, List.all_cons]
def words1 : List Jvm.Cond := Jvm.Cond.code x code maxLocals ret :: tables_1
/-- a 'code' word, met by the world's own term for the bytes: nothing is compared byte by byte -/
theorem code_word {y : MethodName} {bytes : ByteArray} {mx : Nat} {rt : Option FieldType} {a : Array Value} {s : State} {m : MethodId} {meth : Method} {c : Code} (h1 : s.methodNamed? y = some m) (h2 : s.vm.method? m = some meth) (h3 : meth.code = some c) (h4 : c.code = bytes)
    (h5 : (c.maxLocals == mx && c.exceptionTable.isEmpty && decide (c.maxStack ≤ mostOperands) && decide (meth.sig.returnType = rt) && !meth.locks && decide (parseMethodDescriptor y.desc = some meth.sig)) = true) : (Jvm.Cond.code y bytes mx rt).before a s = true := by
  simp only [Bool.and_eq_true, beq_iff_eq, Bool.not_eq_true', decide_eq_true_eq] at h5
  obtain ⟨⟨⟨⟨⟨g1, g2⟩, g3⟩, g4⟩, g5⟩, g6⟩ := h5
  simp [Cond.before, Cond.holds, Cond.value, h1, h2, h3, h4, g1, g2, g3, g4, g5, g6]
def isCode : Jvm.Cond → Bool
  | .code _ _ _ _ => true
  | _ => false
theorem all_split {L : List Jvm.Cond} {P : Jvm.Cond → Bool} (h1 : L.all (fun c => isCode c || P c) = true) (h2 : ∀ c ∈ L.filter isCode, P c = true) : L.all P = true := by
  refine List.all_eq_true.mpr fun c hc => ?_
  have h := List.all_eq_true.mp h1 c hc
  rcases Bool.eq_false_or_eq_true (isCode c) with hi | hi
  · exact h2 c (List.mem_filter.mpr ⟨hc, hi⟩)
  · simpa [hi] using h
set_option maxRecDepth 65536 in
theorem w_c0 : (Jvm.Cond.code x code maxLocals ret).before args0 about1 = true := code_word (m := ⟨1, 2⟩) (meth := k1m2) (c := k1c2) (by decide +kernel) rfl rfl rfl (by decide +kernel)
set_option maxRecDepth 65536 in
theorem w_c1 : (Jvm.Cond.code ({ cls := "java/lang/Math", name := "max", desc := "(II)I" } : Jvm.MethodName) jdk_29_method_65_code (2 : Nat) (Option.some Jvm.ClassFile.FieldType.int)).before args0 about1 = true := code_word (m := ⟨2, 1⟩) (meth := k2m1) (c := k2c1) (by decide +kernel) rfl rfl rfl (by decide +kernel)
set_option maxRecDepth 65536 in
theorem w_c2 : (Jvm.Cond.code ({ cls := "java/lang/Math", name := "min", desc := "(II)I" } : Jvm.MethodName) jdk_29_method_69_code (2 : Nat) (Option.some Jvm.ClassFile.FieldType.int)).before args0 about1 = true := code_word (m := ⟨2, 2⟩) (meth := k2m2) (c := k2c2) (by decide +kernel) rfl rfl rfl (by decide +kernel)
set_option maxRecDepth 65536 in
theorem w_c3 : (Jvm.Cond.code ({ cls := "com/example/pagewright/pagewright/PageRequestEqualsPinLaw", name := "make", desc := "(IIIJ)Lcom/example/pagewright/pagewright/PageRequest;" } : Jvm.MethodName) method_2_code (6 : Nat) (Option.some (Jvm.ClassFile.FieldType.object "com/example/pagewright/pagewright/PageRequest"))).before args0 about1 = true := code_word (m := ⟨1, 1⟩) (meth := k1m1) (c := k1c1) (by decide +kernel) rfl rfl rfl (by decide +kernel)
set_option maxRecDepth 65536 in
theorem w_c4 : (Jvm.Cond.code ({ cls := "com/example/pagewright/pagewright/PageRequest", name := "<init>", desc := "(II)V" } : Jvm.MethodName) prog_3_method_1_code (3 : Nat) (Option.none : Option Jvm.ClassFile.FieldType)).before args0 about1 = true := code_word (m := ⟨3, 0⟩) (meth := k3m0) (c := k3c0) (by decide +kernel) rfl rfl rfl (by decide +kernel)
set_option maxRecDepth 65536 in
theorem w_c5 : (Jvm.Cond.code ({ cls := "com/example/pagewright/pagewright/PageRequest", name := "<init>", desc := "(IIZJ)V" } : Jvm.MethodName) prog_3_method_2_code (6 : Nat) (Option.none : Option Jvm.ClassFile.FieldType)).before args0 about1 = true := code_word (m := ⟨3, 1⟩) (meth := k3m1) (c := k3c1) (by decide +kernel) rfl rfl rfl (by decide +kernel)
set_option maxRecDepth 65536 in
theorem w_c6 : (Jvm.Cond.code ({ cls := "java/lang/Object", name := "<init>", desc := "()V" } : Jvm.MethodName) object_method_1_code (1 : Nat) (Option.none : Option Jvm.ClassFile.FieldType)).before args0 about1 = true := code_word (m := ⟨0, 0⟩) (meth := k0m0) (c := k0c0) (by decide +kernel) rfl rfl rfl (by decide +kernel)
set_option maxRecDepth 65536 in
theorem w_c7 : (Jvm.Cond.code ({ cls := "com/example/pagewright/pagewright/PageRequest", name := "withTotal", desc := "(J)Lcom/example/pagewright/pagewright/PageRequest;" } : Jvm.MethodName) prog_3_method_4_code (3 : Nat) (Option.some (Jvm.ClassFile.FieldType.object "com/example/pagewright/pagewright/PageRequest"))).before args0 about1 = true := code_word (m := ⟨3, 3⟩) (meth := k3m3) (c := k3c3) (by decide +kernel) rfl rfl rfl (by decide +kernel)
set_option maxRecDepth 65536 in
theorem w_c8 : (Jvm.Cond.code ({ cls := "com/example/pagewright/pagewright/PageRequest", name := "equals", desc := "(Ljava/lang/Object;)Z" } : Jvm.MethodName) prog_3_method_9_code (3 : Nat) (Option.some Jvm.ClassFile.FieldType.boolean)).before args0 about1 = true := code_word (m := ⟨3, 4⟩) (meth := k3m4) (c := k3c4) (by decide +kernel) rfl rfl rfl (by decide +kernel)
set_option maxRecDepth 65536 in
theorem w_c9 : (Jvm.Cond.code ({ cls := "com/example/pagewright/pagewright/PageRequest", name := "withoutCount", desc := "()Lcom/example/pagewright/pagewright/PageRequest;" } : Jvm.MethodName) prog_3_method_3_code (1 : Nat) (Option.some (Jvm.ClassFile.FieldType.object "com/example/pagewright/pagewright/PageRequest"))).before args0 about1 = true := code_word (m := ⟨3, 2⟩) (meth := k3m2) (c := k3c2) (by decide +kernel) rfl rfl rfl (by decide +kernel)
set_option maxRecDepth 65536 in
theorem w_c10 : (Jvm.Cond.code ({ cls := "java/lang/Integer", name := "valueOf", desc := "(I)Ljava/lang/Integer;" } : Jvm.MethodName) jdk_33_method_22_code (1 : Nat) (Option.some (Jvm.ClassFile.FieldType.object "java/lang/Integer"))).before args0 about1 = true := code_word (m := ⟨9, 0⟩) (meth := k9m0) (c := k9c0) (by decide +kernel) rfl rfl rfl (by decide +kernel)
set_option maxRecDepth 65536 in
theorem w_c11 : (Jvm.Cond.code ({ cls := "java/lang/Integer", name := "<init>", desc := "(I)V" } : Jvm.MethodName) jdk_33_method_23_code (2 : Nat) (Option.none : Option Jvm.ClassFile.FieldType)).before args0 about1 = true := code_word (m := ⟨9, 1⟩) (meth := k9m1) (c := k9c1) (by decide +kernel) rfl rfl rfl (by decide +kernel)
set_option maxRecDepth 65536 in
theorem w_c12 : (Jvm.Cond.code ({ cls := "java/lang/Number", name := "<init>", desc := "()V" } : Jvm.MethodName) jdk_18_method_1_code (1 : Nat) (Option.none : Option Jvm.ClassFile.FieldType)).before args0 about1 = true := code_word (m := ⟨5, 0⟩) (meth := k5m0) (c := k5c0) (by decide +kernel) rfl rfl rfl (by decide +kernel)
def codes1 : List Jvm.Cond := [Jvm.Cond.code x code maxLocals ret, Jvm.Cond.code ({ cls := "java/lang/Math", name := "max", desc := "(II)I" } : Jvm.MethodName) jdk_29_method_65_code (2 : Nat) (Option.some Jvm.ClassFile.FieldType.int), Jvm.Cond.code ({ cls := "java/lang/Math", name := "min", desc := "(II)I" } : Jvm.MethodName) jdk_29_method_69_code (2 : Nat) (Option.some Jvm.ClassFile.FieldType.int), Jvm.Cond.code ({ cls := "com/example/pagewright/pagewright/PageRequestEqualsPinLaw", name := "make", desc := "(IIIJ)Lcom/example/pagewright/pagewright/PageRequest;" } : Jvm.MethodName) method_2_code (6 : Nat) (Option.some (Jvm.ClassFile.FieldType.object "com/example/pagewright/pagewright/PageRequest")), Jvm.Cond.code ({ cls := "com/example/pagewright/pagewright/PageRequest", name := "<init>", desc := "(II)V" } : Jvm.MethodName) prog_3_method_1_code (3 : Nat) (Option.none : Option Jvm.ClassFile.FieldType), Jvm.Cond.code ({ cls := "com/example/pagewright/pagewright/PageRequest", name := "<init>", desc := "(IIZJ)V" } : Jvm.MethodName) prog_3_method_2_code (6 : Nat) (Option.none : Option Jvm.ClassFile.FieldType), Jvm.Cond.code ({ cls := "java/lang/Object", name := "<init>", desc := "()V" } : Jvm.MethodName) object_method_1_code (1 : Nat) (Option.none : Option Jvm.ClassFile.FieldType), Jvm.Cond.code ({ cls := "com/example/pagewright/pagewright/PageRequest", name := "withTotal", desc := "(J)Lcom/example/pagewright/pagewright/PageRequest;" } : Jvm.MethodName) prog_3_method_4_code (3 : Nat) (Option.some (Jvm.ClassFile.FieldType.object "com/example/pagewright/pagewright/PageRequest")), Jvm.Cond.code ({ cls := "com/example/pagewright/pagewright/PageRequest", name := "equals", desc := "(Ljava/lang/Object;)Z" } : Jvm.MethodName) prog_3_method_9_code (3 : Nat) (Option.some Jvm.ClassFile.FieldType.boolean), Jvm.Cond.code ({ cls := "com/example/pagewright/pagewright/PageRequest", name := "withoutCount", desc := "()Lcom/example/pagewright/pagewright/PageRequest;" } : Jvm.MethodName) prog_3_method_3_code (1 : Nat) (Option.some (Jvm.ClassFile.FieldType.object "com/example/pagewright/pagewright/PageRequest")), Jvm.Cond.code ({ cls := "java/lang/Integer", name := "valueOf", desc := "(I)Ljava/lang/Integer;" } : Jvm.MethodName) jdk_33_method_22_code (1 : Nat) (Option.some (Jvm.ClassFile.FieldType.object "java/lang/Integer")), Jvm.Cond.code ({ cls := "java/lang/Integer", name := "<init>", desc := "(I)V" } : Jvm.MethodName) jdk_33_method_23_code (2 : Nat) (Option.none : Option Jvm.ClassFile.FieldType), Jvm.Cond.code ({ cls := "java/lang/Number", name := "<init>", desc := "()V" } : Jvm.MethodName) jdk_18_method_1_code (1 : Nat) (Option.none : Option Jvm.ClassFile.FieldType)]
set_option maxRecDepth 65536 in
theorem codes_eq : words1.filter isCode = codes1 := rfl
theorem w_codes : ∀ c ∈ words1.filter isCode, c.before args0 about1 = true := by
  rw [codes_eq]
  intro c hc
  simp only [codes1, List.mem_cons, List.not_mem_nil, or_false] at hc
  rcases hc with rfl | rfl | rfl | rfl | rfl | rfl | rfl | rfl | rfl | rfl | rfl | rfl | rfl
  · exact w_c0
  · exact w_c1
  · exact w_c2
  · exact w_c3
  · exact w_c4
  · exact w_c5
  · exact w_c6
  · exact w_c7
  · exact w_c8
  · exact w_c9
  · exact w_c10
  · exact w_c11
  · exact w_c12
set_option maxRecDepth 65536 in
theorem w_t1 : (words1.take 24).all (fun c => isCode c || c.before args0 about1) = true := by decide +kernel
set_option maxRecDepth 65536 in
theorem w_t2 : ((words1.drop 24).take 24).all (fun c => isCode c || c.before args0 about1) = true := by decide +kernel
set_option maxRecDepth 65536 in
theorem w_t3 : (((words1.drop 24).drop 24).take 24).all (fun c => isCode c || c.before args0 about1) = true := by decide +kernel
set_option maxRecDepth 65536 in
theorem w_t4 : (((words1.drop 24).drop 24).drop 24).all (fun c => isCode c || c.before args0 about1) = true := by decide +kernel
theorem w_tables : (allAtoms (Jvm.Cond.code x code maxLocals ret :: tables_1)).before args0 about1 = true := by
  rw [allAtoms_all]
  show words1.all (fun c => c.before args0 about1) = true
  refine all_split ?_ w_codes
  rw [← List.take_append_drop 24 words1, List.all_append, w_t1, ← List.take_append_drop 24 (words1.drop 24), List.all_append, w_t2, ← List.take_append_drop 24 ((words1.drop 24).drop 24), List.all_append, w_t3, w_t4]
  rfl
set_option maxRecDepth 65536 in
theorem w_rest : rest_1_c.before args0 about1 = true := by decide +kernel
set_option maxRecDepth 65536 in
theorem w_case : (Jvm.Cond.and given_1 narrow_1).before args0 about1 = true := by decide +kernel
theorem w_applies : (headSpec (Jvm.Cond.code x code maxLocals ret :: tables_1) room_1).applies x e0.platform about1 = true :=
  (Spec.applies_iff w_frames).mpr ⟨w_running, w_runnable, w_alone, w_named, w_hears, w_ripe, w_room, w_tables⟩
theorem atStart : AtStart classFile x code maxLocals ret World_1 tables_1 room_1 Calls_1 rest_1 Pre_1 launch0 p0 e0 about1 theMethod args0 below0 :=
  ⟨lists_1, trivial, launch0.admits_env _ _ _, launch0.least_env, fairChoices_fair.cas, fairChoices_fair.clock, w_frames, w_args, w_heap, w_applies, trivial, w_rest, w_case⟩
end start1
theorem witness_1 : WitnessClaimed_1 := ⟨start1.p0, start1.e0, start1.about1, start1.theMethod, start1.args0, start1.below0, start1.atStart⟩
end Jvm.Pilot.@@N@@
