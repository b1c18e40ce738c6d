import JvmDerived
import JvmDerived.Pilot.@@N@@Statement
import JvmDerived.Pilot.@@N@@Code
set_option linter.unusedVariables false
set_option linter.unusedSimpArgs false
namespace Jvm.OwnWW
open Sem ClassFile Op Lib Jvm.Stand Jvm.Free Jvm.LawKit Jvm.RoadKit
def Sd (Z : State) (own : String) (bs : ByteArray) (mx : Nat) (ret : Option FieldType) (n0 : Nat) (p : Program) (l : Launch) (e : Env) (R : Room) (s : State) (m : MethodId) (args : Array Value) (below : List Frame) (meth : Method) (c : Code) (T : State) (h : Heap) (k n : Nat) : Prop :=
  ∃ locs vm0 k0, Stand p l e R (s.setVm vm0) m args below meth c T locs k n ∧ T.heap = h ∧ Fr n0 locs ∧ n0 ≤ s.heap.size ∧ p.tables.exec = Jvm.exec ∧ Z.Warmed39 (s.setVm vm0).vm ∧ (s.setVm vm0).vm.findClass own = some m.cls ∧ c.code = bs ∧ c.maxLocals = mx ∧ meth.sig.returnType = ret ∧ meth.locks = false ∧ s.Since vm0 k0 ∧ k0 ≤ h.size
def Gl (p : Program) (e : Env) (below : List Frame) (P : Outcome → State → Prop) (A : State) : Prop := ∃ t o, Steps p.tables e below A t ∧ t.status = .running ∧ Ended t below o ∧ P o t
def Pst (s : State) (n0 K N : Nat) (Q : Option Value → Heap → Prop) (o : Outcome) (t : State) : Prop := ∃ v L, o = .returned v ∧ (Q v t.heap ∧ Fr n0 L) ∧ ReturnedEndW s o t L K N
def OMet (l : Launch) (Z : State) (ws : List Jvm.Cond) (y : MethodName) (bs : ByteArray) (mx : Nat) (ret : Option FieldType) (rm : Room) (as : Array Value) (h : Heap) (n0 : Nat) (Q : Option Value → Heap → Prop) : Prop :=
  MetFree l y (head1 (Jvm.Cond.code y bs mx ret :: ws) rm) (fun a U => a = as ∧ Z.Warmed39 U.vm ∧ U.heap = h) (fun _ _ _ _ _ => True) (fun _ U o U' => ∃ v L, o = .returned v ∧ (Q v U'.heap ∧ Fr n0 L) ∧ ReturnedEndW U o U' L rm.cells rm.slots)
section Kit
variable {Z : State} {own : String} {bs : ByteArray} {mx : Nat} {ret : Option FieldType} {n0 : Nat} {p : Program} {l : Launch} {e : Env} {R : Room} {s : State} {m : MethodId} {args : Array Value} {below : List Frame} {meth : Method} {c : Code} {T : State} {h : Heap} {k n : Nat} {P : Outcome → State → Prop} {L : Array Slot} {S : List Value} {pc pc' pcT pcF : Nat} {a0 : Array Value} {t : FieldType}
theorem Gl.of1 {A B : State} (f : ∀ t, Steps p.tables e below B t → Steps p.tables e below A t) (q : Gl p e below P B) : Gl p e below P A := by
  obtain ⟨t, o, h1, h2⟩ := q
  exact ⟨t, o, f t h1, h2⟩
theorem Gl.via {A B : State} (f : Steps p.tables e below A B) (q : Gl p e below P B) : Gl p e below P A := by
  obtain ⟨t, o, h1, h2⟩ := q
  exact ⟨t, o, f.trans h1, h2⟩
theorem own_since (s : State) : s.Since s.vm s.heap.size := ⟨State.Warmed39.refl s, fun j q h1 h2 => absurd (Array.getElem?_eq_some_iff.mp h2).1 (Nat.not_lt.mpr h1)⟩
theorem OMet.of {ws : List Jvm.Cond} {y : MethodName} {rm : Room} {as : Array Value} {Q : Option Value → Heap → Prop} (hpl : plainFor y = true) (hef : ∀ m, entryFrame m as mx = mkF m 0 L []) (hn : n0 ≤ h.size)
    (body : ∀ p e s m below meth c T, Sd Z y.cls bs mx ret n0 p l e rm s m as below meth c T h 0 0 → meth.name = y.name → Gl p e below (Pst s n0 rm.cells rm.slots Q) (T.setTop (mkF m 0 L []))) : OMet l Z ws y bs mx ret rm as h n0 Q := by
  refine MetFree.of_bodySF hpl hisR ?_
  intro p e s m args below meth c s₁ Bd hml0 hP hK
  obtain ⟨rfl, hZ, hh⟩ := hP
  have e0 : s₁.heap = h := by rw [← hh, Bd.state]; rfl
  obtain ⟨t, o, h1, h2, h3, h4⟩ := body p e s m below meth c s₁ ⟨[], s.vm, s.heap.size, Stand.of_body Bd, e0, Fr.nil n0, by rw [hh]; exact hn, Bd.exec, hZ, findClass_of_methodNamed Bd.named, Bd.bytes, hml0, Bd.returns, Bd.notSynchronized, own_since s, Nat.le_of_eq (by rw [hh])⟩ (name_of_methodNamed Bd.named Bd.method).1
  exact ⟨t, o, castTop (hef m) h1, h2, h3, h4⟩

theorem own_grow {T' : State} {locs' : List Loc} {k' n' : Nat} {vm0 : Vm} (X : Stand p l e R (s.setVm vm0) m args below meth c T' locs' k' n') : s.heap.size ≤ T'.heap.size := X.same.2.1
theorem own_eqI {args : Array Value} {Z : State} {t : Term} {v : Int32} (q : (Jvm.Cond.eq t (.int v)).value args Z none Z [] = some true) : t.eval args Z none [] Z = some (.int v) := by
  simp only [Cond.value, Term.eval] at q
  cases ht : t.eval args Z none [] Z with
  | none => simp [ht] at q
  | some w => cases w <;> simp [ht] at q ⊢ <;> exact q
theorem own_ite {c A B : Prop} [Decidable c] (h1 : c → A) (h2 : ¬ c → B) : A ∨ B := if q : c then Or.inl (h1 q) else Or.inr (h2 q)
theorem own_cut {A B : Prop} (f : B → A) (b : B) : A := f b
theorem Sd.sz (Y : Sd Z own bs mx ret n0 p l e R s m args below meth c T h k n) : n0 ≤ h.size := by
  obtain ⟨locs, vm0, k0, X, eT, N, hn0, hx, hZ, hown, hby, hml, hrt, hlk, hSi, hk0⟩ := Y
  exact eT ▸ Nat.le_trans hn0 (own_grow X)
theorem own_narB {a v : Int32} (h : a.toInt8.toInt32 = v) : nar .byte v = v := by subst h; simp [nar]
theorem own_narC {a v : Int32} (h : a.toUInt32.toUInt16.toUInt32.toInt32 = v) : nar .char v = v := by subst h; have q := Jvm.Free.XT.narrow_c a; exact Value.int.inj q
theorem own_narS {a v : Int32} (h : a.toInt16.toInt32 = v) : nar .short v = v := by subst h; simp [nar]
theorem own_c3 {v : Int32} (h0 : 0 ≤ v.toInt) (h : v.toInt ≤ 3) : v = 0 ∨ v = 1 ∨ v = 2 ∨ v = 3 := by
  have : v.toInt = 0 ∨ v.toInt = 1 ∨ v.toInt = 2 ∨ v.toInt = 3 := by omega
  rcases this with q | q | q | q <;> simp [← Int32.toInt_inj, q]
theorem own_c4 {v : Int32} (h0 : 0 ≤ v.toInt) (h : v.toInt ≤ 4) : v = 0 ∨ v = 1 ∨ v = 2 ∨ v = 3 ∨ v = 4 := by
  have : v.toInt = 0 ∨ v.toInt = 1 ∨ v.toInt = 2 ∨ v.toInt = 3 ∨ v.toInt = 4 := by omega
  rcases this with q | q | q | q | q <;> simp [← Int32.toInt_inj, q]
theorem own_c5 {v : Int32} (h0 : 0 ≤ v.toInt) (h : v.toInt ≤ 5) : v = 0 ∨ v = 1 ∨ v = 2 ∨ v = 3 ∨ v = 4 ∨ v = 5 := by
  have : v.toInt = 0 ∨ v.toInt = 1 ∨ v.toInt = 2 ∨ v.toInt = 3 ∨ v.toInt = 4 ∨ v.toInt = 5 := by omega
  rcases this with q | q | q | q | q | q <;> simp [← Int32.toInt_inj, q]
theorem own_narR {t : FieldType} {x : Value} (q : x.isRef = true) : narrow t x = x := by rcases ref_cases q with rfl | ⟨z, rfl⟩ <;> cases t <;> rfl
theorem OMet.un {l : Launch} {Z : State} {ws : List Jvm.Cond} {y : MethodName} {bs : ByteArray} {mx : Nat} {ret : Option FieldType} {rm : Room} {as : Array Value} {h : Heap} {n0 : Nat} {Q : Option Value → Heap → Prop} (q : OMet l Z ws y bs mx ret rm as h n0 Q) :
  MetFree l y (head1 (Jvm.Cond.code y bs mx ret :: ws) rm) (fun a U => a = as ∧ Z.Warmed39 U.vm ∧ U.heap = h) (fun _ _ _ _ _ => True) (fun _ U o U' => ∃ v L, o = .returned v ∧ (fun v h' L => Q v h' ∧ Fr n0 L) v U'.heap L ∧ ReturnedEndW U o U' L rm.cells rm.slots) := q
theorem own_not64 (x : Int64) : (x ^^^ (-1)).toInt = -x.toInt - 1 := by
  have h1 : x ^^^ (-1) = ~~~x := by
    apply Int64.toBitVec_inj.mp
    rw [Int64.toBitVec_xor, Int64.toBitVec_not]
    exact BitVec.xor_allOnes
  rw [h1, Int64.not_eq_neg_sub]
  have q := c_lsub (-x) 1
  have r := c_lneg x
  have n1 := rng64 (-x - 1)
  have n2 := rng64 (-x)
  have n3 := rng64 x
  simp only [Int64.reduceToInt] at q
  omega
theorem own_narZ {x : Int32} (q : x = 0 ∨ x = 1) : nar .boolean x = x := by rcases q with rfl | rfl <;> rfl
theorem own_nZ {x : Int32} (q : x = 0 ∨ x = 1) : narrow .boolean (.int x) = .int x := by rcases q with rfl | rfl <;> rfl
theorem own_fZ {x : Int32} (q : x = 0 ∨ x = 1) : fits .boolean (.int x) = true := by rcases q with rfl | rfl <;> rfl
theorem Gl.iadd (Y : Sd Z own bs mx ret n0 p l e R s m args below meth c T h k n) {x y : Int32} {r : Int32} (hr : x + y = r) (hd : decode bs pc = .ok (.iadd, 1)) (hp : pc + 1 = pc') (q : Gl p e below P (T.setTop (mkF m pc' L (.int r :: S)))) : Gl p e below P (T.setTop (mkF m pc L (.int y :: .int x :: S))) := by
  obtain ⟨locs, vm0, k0, X, eT, N, hn0, hx, hZ, hown, hby, hml, hrt, hlk, hSi, hk0⟩ := Y
  subst hp hr
  exact q.of1 fun t q => XS.iadd X.here hx rfl (hb hby hd) rfl q
theorem Gl.isub (Y : Sd Z own bs mx ret n0 p l e R s m args below meth c T h k n) {x y : Int32} {r : Int32} (hr : x - y = r) (hd : decode bs pc = .ok (.isub, 1)) (hp : pc + 1 = pc') (q : Gl p e below P (T.setTop (mkF m pc' L (.int r :: S)))) : Gl p e below P (T.setTop (mkF m pc L (.int y :: .int x :: S))) := by
  obtain ⟨locs, vm0, k0, X, eT, N, hn0, hx, hZ, hown, hby, hml, hrt, hlk, hSi, hk0⟩ := Y
  subst hp hr
  exact q.of1 fun t q => XS.isub X.here hx rfl (hb hby hd) rfl q
theorem Gl.imul (Y : Sd Z own bs mx ret n0 p l e R s m args below meth c T h k n) {x y : Int32} {r : Int32} (hr : x * y = r) (hd : decode bs pc = .ok (.imul, 1)) (hp : pc + 1 = pc') (q : Gl p e below P (T.setTop (mkF m pc' L (.int r :: S)))) : Gl p e below P (T.setTop (mkF m pc L (.int y :: .int x :: S))) := by
  obtain ⟨locs, vm0, k0, X, eT, N, hn0, hx, hZ, hown, hby, hml, hrt, hlk, hSi, hk0⟩ := Y
  subst hp hr
  exact q.of1 fun t q => XS.imul X.here hx rfl (hb hby hd) rfl q
theorem Gl.iand (Y : Sd Z own bs mx ret n0 p l e R s m args below meth c T h k n) {x y : Int32} {r : Int32} (hr : x &&& y = r) (hd : decode bs pc = .ok (.iand, 1)) (hp : pc + 1 = pc') (q : Gl p e below P (T.setTop (mkF m pc' L (.int r :: S)))) : Gl p e below P (T.setTop (mkF m pc L (.int y :: .int x :: S))) := by
  obtain ⟨locs, vm0, k0, X, eT, N, hn0, hx, hZ, hown, hby, hml, hrt, hlk, hSi, hk0⟩ := Y
  subst hp hr
  exact q.of1 fun t q => XS.iand X.here hx rfl (hb hby hd) rfl q
theorem Gl.ior (Y : Sd Z own bs mx ret n0 p l e R s m args below meth c T h k n) {x y : Int32} {r : Int32} (hr : x ||| y = r) (hd : decode bs pc = .ok (.ior, 1)) (hp : pc + 1 = pc') (q : Gl p e below P (T.setTop (mkF m pc' L (.int r :: S)))) : Gl p e below P (T.setTop (mkF m pc L (.int y :: .int x :: S))) := by
  obtain ⟨locs, vm0, k0, X, eT, N, hn0, hx, hZ, hown, hby, hml, hrt, hlk, hSi, hk0⟩ := Y
  subst hp hr
  exact q.of1 fun t q => XS.ior X.here hx rfl (hb hby hd) rfl q
theorem Gl.ixor (Y : Sd Z own bs mx ret n0 p l e R s m args below meth c T h k n) {x y : Int32} {r : Int32} (hr : x ^^^ y = r) (hd : decode bs pc = .ok (.ixor, 1)) (hp : pc + 1 = pc') (q : Gl p e below P (T.setTop (mkF m pc' L (.int r :: S)))) : Gl p e below P (T.setTop (mkF m pc L (.int y :: .int x :: S))) := by
  obtain ⟨locs, vm0, k0, X, eT, N, hn0, hx, hZ, hown, hby, hml, hrt, hlk, hSi, hk0⟩ := Y
  subst hp hr
  exact q.of1 fun t q => XS.ixor X.here hx rfl (hb hby hd) rfl q
theorem Gl.ishl (Y : Sd Z own bs mx ret n0 p l e R s m args below meth c T h k n) {x y : Int32} {r : Int32} (hr : x <<< (y &&& 31) = r) (hd : decode bs pc = .ok (.ishl, 1)) (hp : pc + 1 = pc') (q : Gl p e below P (T.setTop (mkF m pc' L (.int r :: S)))) : Gl p e below P (T.setTop (mkF m pc L (.int y :: .int x :: S))) := by
  obtain ⟨locs, vm0, k0, X, eT, N, hn0, hx, hZ, hown, hby, hml, hrt, hlk, hSi, hk0⟩ := Y
  subst hp hr
  exact q.of1 fun t q => XS.ishl X.here hx rfl (hb hby hd) rfl q
theorem Gl.ishr (Y : Sd Z own bs mx ret n0 p l e R s m args below meth c T h k n) {x y : Int32} {r : Int32} (hr : x >>> (y &&& 31) = r) (hd : decode bs pc = .ok (.ishr, 1)) (hp : pc + 1 = pc') (q : Gl p e below P (T.setTop (mkF m pc' L (.int r :: S)))) : Gl p e below P (T.setTop (mkF m pc L (.int y :: .int x :: S))) := by
  obtain ⟨locs, vm0, k0, X, eT, N, hn0, hx, hZ, hown, hby, hml, hrt, hlk, hSi, hk0⟩ := Y
  subst hp hr
  exact q.of1 fun t q => XS.ishr X.here hx rfl (hb hby hd) rfl q
theorem Gl.iushr (Y : Sd Z own bs mx ret n0 p l e R s m args below meth c T h k n) {x y : Int32} {r : Int32} (hr : (x.toUInt32 >>> (y &&& 31).toUInt32).toInt32 = r) (hd : decode bs pc = .ok (.iushr, 1)) (hp : pc + 1 = pc') (q : Gl p e below P (T.setTop (mkF m pc' L (.int r :: S)))) : Gl p e below P (T.setTop (mkF m pc L (.int y :: .int x :: S))) := by
  obtain ⟨locs, vm0, k0, X, eT, N, hn0, hx, hZ, hown, hby, hml, hrt, hlk, hSi, hk0⟩ := Y
  subst hp hr
  exact q.of1 fun t q => XS.iushr X.here hx rfl (hb hby hd) rfl q
theorem Gl.ladd (Y : Sd Z own bs mx ret n0 p l e R s m args below meth c T h k n) {x y : Int64} {r : Int64} (hr : x + y = r) (hd : decode bs pc = .ok (.ladd, 1)) (hp : pc + 1 = pc') (q : Gl p e below P (T.setTop (mkF m pc' L (.long r :: S)))) : Gl p e below P (T.setTop (mkF m pc L (.long y :: .long x :: S))) := by
  obtain ⟨locs, vm0, k0, X, eT, N, hn0, hx, hZ, hown, hby, hml, hrt, hlk, hSi, hk0⟩ := Y
  subst hp hr
  exact q.of1 fun t q => XS.ladd X.here hx rfl (hb hby hd) rfl q
theorem Gl.lsub (Y : Sd Z own bs mx ret n0 p l e R s m args below meth c T h k n) {x y : Int64} {r : Int64} (hr : x - y = r) (hd : decode bs pc = .ok (.lsub, 1)) (hp : pc + 1 = pc') (q : Gl p e below P (T.setTop (mkF m pc' L (.long r :: S)))) : Gl p e below P (T.setTop (mkF m pc L (.long y :: .long x :: S))) := by
  obtain ⟨locs, vm0, k0, X, eT, N, hn0, hx, hZ, hown, hby, hml, hrt, hlk, hSi, hk0⟩ := Y
  subst hp hr
  exact q.of1 fun t q => XS.lsub X.here hx rfl (hb hby hd) rfl q
theorem Gl.lmul (Y : Sd Z own bs mx ret n0 p l e R s m args below meth c T h k n) {x y : Int64} {r : Int64} (hr : x * y = r) (hd : decode bs pc = .ok (.lmul, 1)) (hp : pc + 1 = pc') (q : Gl p e below P (T.setTop (mkF m pc' L (.long r :: S)))) : Gl p e below P (T.setTop (mkF m pc L (.long y :: .long x :: S))) := by
  obtain ⟨locs, vm0, k0, X, eT, N, hn0, hx, hZ, hown, hby, hml, hrt, hlk, hSi, hk0⟩ := Y
  subst hp hr
  exact q.of1 fun t q => XS.lmul X.here hx rfl (hb hby hd) rfl q
theorem Gl.land (Y : Sd Z own bs mx ret n0 p l e R s m args below meth c T h k n) {x y : Int64} {r : Int64} (hr : x &&& y = r) (hd : decode bs pc = .ok (.land, 1)) (hp : pc + 1 = pc') (q : Gl p e below P (T.setTop (mkF m pc' L (.long r :: S)))) : Gl p e below P (T.setTop (mkF m pc L (.long y :: .long x :: S))) := by
  obtain ⟨locs, vm0, k0, X, eT, N, hn0, hx, hZ, hown, hby, hml, hrt, hlk, hSi, hk0⟩ := Y
  subst hp hr
  exact q.of1 fun t q => XS.land X.here hx rfl (hb hby hd) rfl q
theorem Gl.lor (Y : Sd Z own bs mx ret n0 p l e R s m args below meth c T h k n) {x y : Int64} {r : Int64} (hr : x ||| y = r) (hd : decode bs pc = .ok (.lor, 1)) (hp : pc + 1 = pc') (q : Gl p e below P (T.setTop (mkF m pc' L (.long r :: S)))) : Gl p e below P (T.setTop (mkF m pc L (.long y :: .long x :: S))) := by
  obtain ⟨locs, vm0, k0, X, eT, N, hn0, hx, hZ, hown, hby, hml, hrt, hlk, hSi, hk0⟩ := Y
  subst hp hr
  exact q.of1 fun t q => XS.lor X.here hx rfl (hb hby hd) rfl q
theorem Gl.lxor (Y : Sd Z own bs mx ret n0 p l e R s m args below meth c T h k n) {x y : Int64} {r : Int64} (hr : x ^^^ y = r) (hd : decode bs pc = .ok (.lxor, 1)) (hp : pc + 1 = pc') (q : Gl p e below P (T.setTop (mkF m pc' L (.long r :: S)))) : Gl p e below P (T.setTop (mkF m pc L (.long y :: .long x :: S))) := by
  obtain ⟨locs, vm0, k0, X, eT, N, hn0, hx, hZ, hown, hby, hml, hrt, hlk, hSi, hk0⟩ := Y
  subst hp hr
  exact q.of1 fun t q => XS.lxor X.here hx rfl (hb hby hd) rfl q
theorem Gl.lshl (Y : Sd Z own bs mx ret n0 p l e R s m args below meth c T h k n) {x : Int64} {y : Int32} {r : Int64} (hr : x <<< (y &&& 0x3f).toInt64 = r) (hd : decode bs pc = .ok (.lshl, 1)) (hp : pc + 1 = pc') (q : Gl p e below P (T.setTop (mkF m pc' L (.long r :: S)))) : Gl p e below P (T.setTop (mkF m pc L (.int y :: .long x :: S))) := by
  obtain ⟨locs, vm0, k0, X, eT, N, hn0, hx, hZ, hown, hby, hml, hrt, hlk, hSi, hk0⟩ := Y
  subst hp hr
  exact q.of1 fun t q => XS.lshl X.here hx rfl (hb hby hd) rfl q
theorem Gl.lshr (Y : Sd Z own bs mx ret n0 p l e R s m args below meth c T h k n) {x : Int64} {y : Int32} {r : Int64} (hr : x >>> (y &&& 0x3f).toInt64 = r) (hd : decode bs pc = .ok (.lshr, 1)) (hp : pc + 1 = pc') (q : Gl p e below P (T.setTop (mkF m pc' L (.long r :: S)))) : Gl p e below P (T.setTop (mkF m pc L (.int y :: .long x :: S))) := by
  obtain ⟨locs, vm0, k0, X, eT, N, hn0, hx, hZ, hown, hby, hml, hrt, hlk, hSi, hk0⟩ := Y
  subst hp hr
  exact q.of1 fun t q => XS.lshr X.here hx rfl (hb hby hd) rfl q
theorem Gl.lushr (Y : Sd Z own bs mx ret n0 p l e R s m args below meth c T h k n) {x : Int64} {y : Int32} {r : Int64} (hr : (x.toUInt64 >>> (y &&& 0x3f).toInt64.toUInt64).toInt64 = r) (hd : decode bs pc = .ok (.lushr, 1)) (hp : pc + 1 = pc') (q : Gl p e below P (T.setTop (mkF m pc' L (.long r :: S)))) : Gl p e below P (T.setTop (mkF m pc L (.int y :: .long x :: S))) := by
  obtain ⟨locs, vm0, k0, X, eT, N, hn0, hx, hZ, hown, hby, hml, hrt, hlk, hSi, hk0⟩ := Y
  subst hp hr
  exact q.of1 fun t q => XS.lushr X.here hx rfl (hb hby hd) rfl q
theorem Gl.idiv (Y : Sd Z own bs mx ret n0 p l e R s m args below meth c T h k n) {x y : Int32} (hy : y ≠ 0) {r : Int32} (hr : x / y = r) (hd : decode bs pc = .ok (.idiv, 1)) (hp : pc + 1 = pc') (q : Gl p e below P (T.setTop (mkF m pc' L (.int r :: S)))) : Gl p e below P (T.setTop (mkF m pc L (.int y :: .int x :: S))) := by
  obtain ⟨locs, vm0, k0, X, eT, N, hn0, hx, hZ, hown, hby, hml, hrt, hlk, hSi, hk0⟩ := Y
  subst hp hr
  exact q.of1 fun t q => XS.idiv X.here hx rfl (hb hby hd) rfl hy q
theorem Gl.irem (Y : Sd Z own bs mx ret n0 p l e R s m args below meth c T h k n) {x y : Int32} (hy : y ≠ 0) {r : Int32} (hr : x % y = r) (hd : decode bs pc = .ok (.irem, 1)) (hp : pc + 1 = pc') (q : Gl p e below P (T.setTop (mkF m pc' L (.int r :: S)))) : Gl p e below P (T.setTop (mkF m pc L (.int y :: .int x :: S))) := by
  obtain ⟨locs, vm0, k0, X, eT, N, hn0, hx, hZ, hown, hby, hml, hrt, hlk, hSi, hk0⟩ := Y
  subst hp hr
  exact q.of1 fun t q => iremM X hx rfl (hb hby hd) rfl hy q
theorem Gl.ldiv (Y : Sd Z own bs mx ret n0 p l e R s m args below meth c T h k n) {x y : Int64} (hy : y ≠ 0) {r : Int64} (hr : x / y = r) (hd : decode bs pc = .ok (.ldiv, 1)) (hp : pc + 1 = pc') (q : Gl p e below P (T.setTop (mkF m pc' L (.long r :: S)))) : Gl p e below P (T.setTop (mkF m pc L (.long y :: .long x :: S))) := by
  obtain ⟨locs, vm0, k0, X, eT, N, hn0, hx, hZ, hown, hby, hml, hrt, hlk, hSi, hk0⟩ := Y
  subst hp hr
  exact q.of1 fun t q => XS.ldiv X.here hx rfl (hb hby hd) rfl hy q
theorem Gl.lrem (Y : Sd Z own bs mx ret n0 p l e R s m args below meth c T h k n) {x y : Int64} (hy : y ≠ 0) {r : Int64} (hr : x % y = r) (hd : decode bs pc = .ok (.lrem, 1)) (hp : pc + 1 = pc') (q : Gl p e below P (T.setTop (mkF m pc' L (.long r :: S)))) : Gl p e below P (T.setTop (mkF m pc L (.long y :: .long x :: S))) := by
  obtain ⟨locs, vm0, k0, X, eT, N, hn0, hx, hZ, hown, hby, hml, hrt, hlk, hSi, hk0⟩ := Y
  subst hp hr
  exact q.of1 fun t q => XS.lrem X.here hx rfl (hb hby hd) rfl hy (by rw [lrem_mod]; exact q)
theorem Gl.ineg (Y : Sd Z own bs mx ret n0 p l e R s m args below meth c T h k n) {x : Int32} {r : Int32} (hr : -x = r) (hd : decode bs pc = .ok (.ineg, 1)) (hp : pc + 1 = pc') (q : Gl p e below P (T.setTop (mkF m pc' L (.int r :: S)))) : Gl p e below P (T.setTop (mkF m pc L (.int x :: S))) := by
  obtain ⟨locs, vm0, k0, X, eT, N, hn0, hx, hZ, hown, hby, hml, hrt, hlk, hSi, hk0⟩ := Y
  subst hp hr
  exact q.of1 fun t q => XS.ineg X.here hx rfl (hb hby hd) rfl q
theorem Gl.lneg (Y : Sd Z own bs mx ret n0 p l e R s m args below meth c T h k n) {x : Int64} {r : Int64} (hr : -x = r) (hd : decode bs pc = .ok (.lneg, 1)) (hp : pc + 1 = pc') (q : Gl p e below P (T.setTop (mkF m pc' L (.long r :: S)))) : Gl p e below P (T.setTop (mkF m pc L (.long x :: S))) := by
  obtain ⟨locs, vm0, k0, X, eT, N, hn0, hx, hZ, hown, hby, hml, hrt, hlk, hSi, hk0⟩ := Y
  subst hp hr
  exact q.of1 fun t q => XS.lneg X.here hx rfl (hb hby hd) rfl q
theorem Gl.i2b (Y : Sd Z own bs mx ret n0 p l e R s m args below meth c T h k n) {x : Int32} {r : Int32} (hr : x.toInt8.toInt32 = r) (hd : decode bs pc = .ok (.i2b, 1)) (hp : pc + 1 = pc') (q : Gl p e below P (T.setTop (mkF m pc' L (.int r :: S)))) : Gl p e below P (T.setTop (mkF m pc L (.int x :: S))) := by
  obtain ⟨locs, vm0, k0, X, eT, N, hn0, hx, hZ, hown, hby, hml, hrt, hlk, hSi, hk0⟩ := Y
  subst hp hr
  exact q.of1 fun t q => XS.i2b X.here hx rfl (hb hby hd) rfl q
theorem Gl.i2c (Y : Sd Z own bs mx ret n0 p l e R s m args below meth c T h k n) {x : Int32} {r : Int32} (hr : x.toUInt32.toUInt16.toUInt32.toInt32 = r) (hd : decode bs pc = .ok (.i2c, 1)) (hp : pc + 1 = pc') (q : Gl p e below P (T.setTop (mkF m pc' L (.int r :: S)))) : Gl p e below P (T.setTop (mkF m pc L (.int x :: S))) := by
  obtain ⟨locs, vm0, k0, X, eT, N, hn0, hx, hZ, hown, hby, hml, hrt, hlk, hSi, hk0⟩ := Y
  subst hp hr
  exact q.of1 fun t q => XS.i2c X.here hx rfl (hb hby hd) rfl q
theorem Gl.i2s (Y : Sd Z own bs mx ret n0 p l e R s m args below meth c T h k n) {x : Int32} {r : Int32} (hr : x.toInt16.toInt32 = r) (hd : decode bs pc = .ok (.i2s, 1)) (hp : pc + 1 = pc') (q : Gl p e below P (T.setTop (mkF m pc' L (.int r :: S)))) : Gl p e below P (T.setTop (mkF m pc L (.int x :: S))) := by
  obtain ⟨locs, vm0, k0, X, eT, N, hn0, hx, hZ, hown, hby, hml, hrt, hlk, hSi, hk0⟩ := Y
  subst hp hr
  exact q.of1 fun t q => XS.i2s X.here hx rfl (hb hby hd) rfl q
theorem Gl.i2l (Y : Sd Z own bs mx ret n0 p l e R s m args below meth c T h k n) {x : Int32} {r : Int64} (hr : x.toInt64 = r) (hd : decode bs pc = .ok (.i2l, 1)) (hp : pc + 1 = pc') (q : Gl p e below P (T.setTop (mkF m pc' L (.long r :: S)))) : Gl p e below P (T.setTop (mkF m pc L (.int x :: S))) := by
  obtain ⟨locs, vm0, k0, X, eT, N, hn0, hx, hZ, hown, hby, hml, hrt, hlk, hSi, hk0⟩ := Y
  subst hp hr
  exact q.of1 fun t q => XS.i2l X.here hx rfl (hb hby hd) rfl q
theorem Gl.l2i (Y : Sd Z own bs mx ret n0 p l e R s m args below meth c T h k n) {x : Int64} {r : Int32} (hr : x.toInt32 = r) (hd : decode bs pc = .ok (.l2i, 1)) (hp : pc + 1 = pc') (q : Gl p e below P (T.setTop (mkF m pc' L (.int r :: S)))) : Gl p e below P (T.setTop (mkF m pc L (.long x :: S))) := by
  obtain ⟨locs, vm0, k0, X, eT, N, hn0, hx, hZ, hown, hby, hml, hrt, hlk, hSi, hk0⟩ := Y
  subst hp hr
  exact q.of1 fun t q => XS.l2i X.here hx rfl (hb hby hd) rfl q
theorem Gl.iconst (Y : Sd Z own bs mx ret n0 p l e R s m args below meth c T h k n) {i : Int} {v : Int32} (hv : Int32.ofInt i = v) (hd : decode bs pc = .ok (.iconst i, 1)) (hp : pc + 1 = pc') (q : Gl p e below P (T.setTop (mkF m pc' L (.int v :: S)))) : Gl p e below P (T.setTop (mkF m pc L S)) := by
  obtain ⟨locs, vm0, k0, X, eT, N, hn0, hx, hZ, hown, hby, hml, hrt, hlk, hSi, hk0⟩ := Y
  subst hp
  exact q.of1 fun t q => XS.iconst X.here hx rfl (hb hby hd) (by rw [hv]; exact q)
theorem Gl.bipush (Y : Sd Z own bs mx ret n0 p l e R s m args below meth c T h k n) {i : Int} {v : Int32} (hv : (Int8.ofInt i).toInt32 = v) (hd : decode bs pc = .ok (.bipush i, 2)) (hp : pc + 2 = pc') (q : Gl p e below P (T.setTop (mkF m pc' L (.int v :: S)))) : Gl p e below P (T.setTop (mkF m pc L S)) := by
  obtain ⟨locs, vm0, k0, X, eT, N, hn0, hx, hZ, hown, hby, hml, hrt, hlk, hSi, hk0⟩ := Y
  subst hp
  exact q.of1 fun t q => XS.bipush X.here hx rfl (hb hby hd) (by rw [hv]; exact q)
theorem Gl.sipush (Y : Sd Z own bs mx ret n0 p l e R s m args below meth c T h k n) {i : Int} {v : Int32} (hv : (Int16.ofInt i).toInt32 = v) (hd : decode bs pc = .ok (.sipush i, 3)) (hp : pc + 3 = pc') (q : Gl p e below P (T.setTop (mkF m pc' L (.int v :: S)))) : Gl p e below P (T.setTop (mkF m pc L S)) := by
  obtain ⟨locs, vm0, k0, X, eT, N, hn0, hx, hZ, hown, hby, hml, hrt, hlk, hSi, hk0⟩ := Y
  subst hp
  exact q.of1 fun t q => XS.sipush X.here hx rfl (hb hby hd) (by rw [hv]; exact q)
theorem Gl.lconst (Y : Sd Z own bs mx ret n0 p l e R s m args below meth c T h k n) {i : Fin 2} {v : Int64} (hv : Int64.ofNat i = v) (hd : decode bs pc = .ok (.lconst i, 1)) (hp : pc + 1 = pc') (q : Gl p e below P (T.setTop (mkF m pc' L (.long v :: S)))) : Gl p e below P (T.setTop (mkF m pc L S)) := by
  obtain ⟨locs, vm0, k0, X, eT, N, hn0, hx, hZ, hown, hby, hml, hrt, hlk, hSi, hk0⟩ := Y
  subst hp
  exact q.of1 fun t q => XS.lconst X.here hx rfl (hb hby hd) (by rw [hv]; exact q)
theorem Gl.aconstNull (Y : Sd Z own bs mx ret n0 p l e R s m args below meth c T h k n)  (hd : decode bs pc = .ok (.aconst_null, 1)) (hp : pc + 1 = pc') (q : Gl p e below P (T.setTop (mkF m pc' L (.null :: S)))) : Gl p e below P (T.setTop (mkF m pc L S)) := by
  obtain ⟨locs, vm0, k0, X, eT, N, hn0, hx, hZ, hown, hby, hml, hrt, hlk, hSi, hk0⟩ := Y
  subst hp
  exact q.of1 fun t q => XS.aconstNull X.here hx rfl (hb hby hd) q
theorem Gl.ldcI (Y : Sd Z own bs mx ret n0 p l e R s m args below meth c T h k n) {i : Nat} {v : Int32} (w : (Jvm.Cond.constant own i v).before a0 Z = true) (hd : decode bs pc = .ok (.ldc i, 2)) (hp : pc + 2 = pc') (q : Gl p e below P (T.setTop (mkF m pc' L (.int v :: S)))) : Gl p e below P (T.setTop (mkF m pc L S)) := by
  obtain ⟨locs, vm0, k0, X, eT, N, hn0, hx, hZ, hown, hby, hml, hrt, hlk, hSi, hk0⟩ := Y
  subst hp
  exact q.of1 fun t q => X.ldcInt hx hown (mvT hZ w) (g := mkF m pc L S) rfl (hb hby hd) t q
theorem Gl.ldcWI (Y : Sd Z own bs mx ret n0 p l e R s m args below meth c T h k n) {i : Nat} {v : Int32} (w : (Jvm.Cond.constant own i v).before a0 Z = true) (hd : decode bs pc = .ok (.ldc_w i, 3)) (hp : pc + 3 = pc') (q : Gl p e below P (T.setTop (mkF m pc' L (.int v :: S)))) : Gl p e below P (T.setTop (mkF m pc L S)) := by
  obtain ⟨locs, vm0, k0, X, eT, N, hn0, hx, hZ, hown, hby, hml, hrt, hlk, hSi, hk0⟩ := Y
  subst hp
  exact q.of1 fun t q => X.ldcWI hx hown (mvT hZ w) (g := mkF m pc L S) rfl (hb hby hd) q
theorem Gl.ldcJ (Y : Sd Z own bs mx ret n0 p l e R s m args below meth c T h k n) {i : Nat} {v : Int64} (w : (Jvm.Cond.constantLong own i v).before a0 Z = true) (hd : decode bs pc = .ok (.ldc2_w i, 3)) (hp : pc + 3 = pc') (q : Gl p e below P (T.setTop (mkF m pc' L (.long v :: S)))) : Gl p e below P (T.setTop (mkF m pc L S)) := by
  obtain ⟨locs, vm0, k0, X, eT, N, hn0, hx, hZ, hown, hby, hml, hrt, hlk, hSi, hk0⟩ := Y
  subst hp
  exact q.of1 fun t q => X.ldc2Long hx hown (mvT hZ w) (g := mkF m pc L S) rfl (hb hby hd) t q
theorem Gl.ldcD (Y : Sd Z own bs mx ret n0 p l e R s m args below meth c T h k n) {i : Nat} {v : UInt64} (w : (Jvm.Cond.constantDouble own i v).before a0 Z = true) (hd : decode bs pc = .ok (.ldc2_w i, 3)) (hp : pc + 3 = pc') (q : Gl p e below P (T.setTop (mkF m pc' L (.double v :: S)))) : Gl p e below P (T.setTop (mkF m pc L S)) := by
  obtain ⟨locs, vm0, k0, X, eT, N, hn0, hx, hZ, hown, hby, hml, hrt, hlk, hSi, hk0⟩ := Y
  subst hp
  exact q.of1 fun t q => X.ldc2DoubleC hx hown (mvT hZ w) (g := mkF m pc L S) rfl (hb hby hd) t q
theorem Gl.iload (Y : Sd Z own bs mx ret n0 p l e R s m args below meth c T h k n) {i : Nat} {v : Int32} (hl : L[i]? = some (.val (.int v))) (hd : decode bs pc = .ok (.iload i, 2)) (hp : pc + 2 = pc') (q : Gl p e below P (T.setTop (mkF m pc' L (.int v :: S)))) : Gl p e below P (T.setTop (mkF m pc L S)) := by
  obtain ⟨locs, vm0, k0, X, eT, N, hn0, hx, hZ, hown, hby, hml, hrt, hlk, hSi, hk0⟩ := Y
  subst hp
  exact q.of1 fun t q => XS.iload X.here hx rfl (hb hby hd) hl q
theorem Gl.iloadN (Y : Sd Z own bs mx ret n0 p l e R s m args below meth c T h k n) {i : Fin 4} {v : Int32} (hl : L[i.val]? = some (.val (.int v))) (hd : decode bs pc = .ok (.iload_n i, 1)) (hp : pc + 1 = pc') (q : Gl p e below P (T.setTop (mkF m pc' L (.int v :: S)))) : Gl p e below P (T.setTop (mkF m pc L S)) := by
  obtain ⟨locs, vm0, k0, X, eT, N, hn0, hx, hZ, hown, hby, hml, hrt, hlk, hSi, hk0⟩ := Y
  subst hp
  exact q.of1 fun t q => XS.iloadN X.here hx rfl (hb hby hd) hl q
theorem Gl.lload (Y : Sd Z own bs mx ret n0 p l e R s m args below meth c T h k n) {i : Nat} {v : Int64} (hl : L[i]? = some (.val (.long v))) (hd : decode bs pc = .ok (.lload i, 2)) (hp : pc + 2 = pc') (q : Gl p e below P (T.setTop (mkF m pc' L (.long v :: S)))) : Gl p e below P (T.setTop (mkF m pc L S)) := by
  obtain ⟨locs, vm0, k0, X, eT, N, hn0, hx, hZ, hown, hby, hml, hrt, hlk, hSi, hk0⟩ := Y
  subst hp
  exact q.of1 fun t q => XS.lload X.here hx rfl (hb hby hd) hl q
theorem Gl.lloadN (Y : Sd Z own bs mx ret n0 p l e R s m args below meth c T h k n) {i : Fin 4} {v : Int64} (hl : L[i.val]? = some (.val (.long v))) (hd : decode bs pc = .ok (.lload_n i, 1)) (hp : pc + 1 = pc') (q : Gl p e below P (T.setTop (mkF m pc' L (.long v :: S)))) : Gl p e below P (T.setTop (mkF m pc L S)) := by
  obtain ⟨locs, vm0, k0, X, eT, N, hn0, hx, hZ, hown, hby, hml, hrt, hlk, hSi, hk0⟩ := Y
  subst hp
  exact q.of1 fun t q => XS.lloadN X.here hx rfl (hb hby hd) hl q
theorem Gl.dload (Y : Sd Z own bs mx ret n0 p l e R s m args below meth c T h k n) {i : Nat} {v : UInt64} (hl : L[i]? = some (.val (.double v))) (hd : decode bs pc = .ok (.dload i, 2)) (hp : pc + 2 = pc') (q : Gl p e below P (T.setTop (mkF m pc' L (.double v :: S)))) : Gl p e below P (T.setTop (mkF m pc L S)) := by
  obtain ⟨locs, vm0, k0, X, eT, N, hn0, hx, hZ, hown, hby, hml, hrt, hlk, hSi, hk0⟩ := Y
  subst hp
  exact q.of1 fun t q => XS.dload X.here hx rfl (hb hby hd) hl q
theorem Gl.dloadN (Y : Sd Z own bs mx ret n0 p l e R s m args below meth c T h k n) {i : Fin 4} {v : UInt64} (hl : L[i.val]? = some (.val (.double v))) (hd : decode bs pc = .ok (.dload_n i, 1)) (hp : pc + 1 = pc') (q : Gl p e below P (T.setTop (mkF m pc' L (.double v :: S)))) : Gl p e below P (T.setTop (mkF m pc L S)) := by
  obtain ⟨locs, vm0, k0, X, eT, N, hn0, hx, hZ, hown, hby, hml, hrt, hlk, hSi, hk0⟩ := Y
  subst hp
  exact q.of1 fun t q => XS.dloadN X.here hx rfl (hb hby hd) hl q
theorem Gl.dconst0 (Y : Sd Z own bs mx ret n0 p l e R s m args below meth c T h k n)  (hd : decode bs pc = .ok (.dconst 0, 1)) (hp : pc + 1 = pc') (q : Gl p e below P (T.setTop (mkF m pc' L (.double FP.dconst0 :: S)))) : Gl p e below P (T.setTop (mkF m pc L S)) := by
  obtain ⟨locs, vm0, k0, X, eT, N, hn0, hx, hZ, hown, hby, hml, hrt, hlk, hSi, hk0⟩ := Y
  subst hp
  exact q.of1 fun t q => XS.dconst0 X.here hx rfl (hb hby hd) rfl q
theorem Gl.dconst1 (Y : Sd Z own bs mx ret n0 p l e R s m args below meth c T h k n)  (hd : decode bs pc = .ok (.dconst 1, 1)) (hp : pc + 1 = pc') (q : Gl p e below P (T.setTop (mkF m pc' L (.double FP.dconst1 :: S)))) : Gl p e below P (T.setTop (mkF m pc L S)) := by
  obtain ⟨locs, vm0, k0, X, eT, N, hn0, hx, hZ, hown, hby, hml, hrt, hlk, hSi, hk0⟩ := Y
  subst hp
  exact q.of1 fun t q => XS.dconst1 X.here hx rfl (hb hby hd) rfl q
theorem Gl.aload (Y : Sd Z own bs mx ret n0 p l e R s m args below meth c T h k n) {i : Nat} {v : Value} (hl : L[i]? = some (.val v)) (hv : v.isRef = true) (hd : decode bs pc = .ok (.aload i, 2)) (hp : pc + 2 = pc') (q : Gl p e below P (T.setTop (mkF m pc' L (v :: S)))) : Gl p e below P (T.setTop (mkF m pc L S)) := by
  obtain ⟨locs, vm0, k0, X, eT, N, hn0, hx, hZ, hown, hby, hml, hrt, hlk, hSi, hk0⟩ := Y
  subst hp
  exact q.of1 fun t q => XS.aload X.here hx rfl (hb hby hd) hl hv q
theorem Gl.aloadN (Y : Sd Z own bs mx ret n0 p l e R s m args below meth c T h k n) {i : Fin 4} {v : Value} (hl : L[i.val]? = some (.val v)) (hv : v.isRef = true) (hd : decode bs pc = .ok (.aload_n i, 1)) (hp : pc + 1 = pc') (q : Gl p e below P (T.setTop (mkF m pc' L (v :: S)))) : Gl p e below P (T.setTop (mkF m pc L S)) := by
  obtain ⟨locs, vm0, k0, X, eT, N, hn0, hx, hZ, hown, hby, hml, hrt, hlk, hSi, hk0⟩ := Y
  subst hp
  exact q.of1 fun t q => XS.aloadN X.here hx rfl (hb hby hd) hl hv q
theorem Gl.istore (Y : Sd Z own bs mx ret n0 p l e R s m args below meth c T h k n) {i : Nat} {v : Int32} {L' : Array Slot} (hl : storeLocals L i (.int v) = some L') (hd : decode bs pc = .ok (.istore i, 2)) (hp : pc + 2 = pc') (q : Gl p e below P (T.setTop (mkF m pc' L' S))) : Gl p e below P (T.setTop (mkF m pc L (.int v :: S))) := by
  obtain ⟨locs, vm0, k0, X, eT, N, hn0, hx, hZ, hown, hby, hml, hrt, hlk, hSi, hk0⟩ := Y
  subst hp
  exact q.of1 fun t q => XS.istore X.here hx rfl (hb hby hd) rfl hl q
theorem Gl.istoreN (Y : Sd Z own bs mx ret n0 p l e R s m args below meth c T h k n) {i : Fin 4} {v : Int32} {L' : Array Slot} (hl : storeLocals L i.val (.int v) = some L') (hd : decode bs pc = .ok (.istore_n i, 1)) (hp : pc + 1 = pc') (q : Gl p e below P (T.setTop (mkF m pc' L' S))) : Gl p e below P (T.setTop (mkF m pc L (.int v :: S))) := by
  obtain ⟨locs, vm0, k0, X, eT, N, hn0, hx, hZ, hown, hby, hml, hrt, hlk, hSi, hk0⟩ := Y
  subst hp
  exact q.of1 fun t q => XS.istoreN X.here hx rfl (hb hby hd) rfl hl q
theorem Gl.lstore (Y : Sd Z own bs mx ret n0 p l e R s m args below meth c T h k n) {i : Nat} {v : Int64} {L' : Array Slot} (hl : storeLocals L i (.long v) = some L') (hd : decode bs pc = .ok (.lstore i, 2)) (hp : pc + 2 = pc') (q : Gl p e below P (T.setTop (mkF m pc' L' S))) : Gl p e below P (T.setTop (mkF m pc L (.long v :: S))) := by
  obtain ⟨locs, vm0, k0, X, eT, N, hn0, hx, hZ, hown, hby, hml, hrt, hlk, hSi, hk0⟩ := Y
  subst hp
  exact q.of1 fun t q => XS.lstore X.here hx rfl (hb hby hd) rfl hl q
theorem Gl.lstoreN (Y : Sd Z own bs mx ret n0 p l e R s m args below meth c T h k n) {i : Fin 4} {v : Int64} {L' : Array Slot} (hl : storeLocals L i.val (.long v) = some L') (hd : decode bs pc = .ok (.lstore_n i, 1)) (hp : pc + 1 = pc') (q : Gl p e below P (T.setTop (mkF m pc' L' S))) : Gl p e below P (T.setTop (mkF m pc L (.long v :: S))) := by
  obtain ⟨locs, vm0, k0, X, eT, N, hn0, hx, hZ, hown, hby, hml, hrt, hlk, hSi, hk0⟩ := Y
  subst hp
  exact q.of1 fun t q => XS.lstoreN X.here hx rfl (hb hby hd) rfl hl q
theorem Gl.astore (Y : Sd Z own bs mx ret n0 p l e R s m args below meth c T h k n) {i : Nat} {v : Value} (hv : v.isRef = true) {L' : Array Slot} (hl : storeLocals L i (v) = some L') (hd : decode bs pc = .ok (.astore i, 2)) (hp : pc + 2 = pc') (q : Gl p e below P (T.setTop (mkF m pc' L' S))) : Gl p e below P (T.setTop (mkF m pc L (v :: S))) := by
  obtain ⟨locs, vm0, k0, X, eT, N, hn0, hx, hZ, hown, hby, hml, hrt, hlk, hSi, hk0⟩ := Y
  subst hp
  exact q.of1 fun t q => XS.astore X.here hx rfl (hb hby hd) rfl hv hl q
theorem Gl.astoreN (Y : Sd Z own bs mx ret n0 p l e R s m args below meth c T h k n) {i : Fin 4} {v : Value} (hv : v.isRef = true) {L' : Array Slot} (hl : storeLocals L i.val (v) = some L') (hd : decode bs pc = .ok (.astore_n i, 1)) (hp : pc + 1 = pc') (q : Gl p e below P (T.setTop (mkF m pc' L' S))) : Gl p e below P (T.setTop (mkF m pc L (v :: S))) := by
  obtain ⟨locs, vm0, k0, X, eT, N, hn0, hx, hZ, hown, hby, hml, hrt, hlk, hSi, hk0⟩ := Y
  subst hp
  exact q.of1 fun t q => XS.astoreN X.here hx rfl (hb hby hd) rfl hv hl q
theorem Gl.iinc (Y : Sd Z own bs mx ret n0 p l e R s m args below meth c T h k n) {i : Nat} {cst : Int} {x r : Int32} {L' : Array Slot} (hl : L[i]? = some (.val (.int x))) (hr : x + Int32.ofInt cst = r) (hl' : storeLocals L i (.int r) = some L') (hd : decode bs pc = .ok (.iinc i cst, 3)) (hp : pc + 3 = pc') (q : Gl p e below P (T.setTop (mkF m pc' L' S))) : Gl p e below P (T.setTop (mkF m pc L S)) := by
  obtain ⟨locs, vm0, k0, X, eT, N, hn0, hx, hZ, hown, hby, hml, hrt, hlk, hSi, hk0⟩ := Y
  subst hp
  exact q.of1 fun t q => XS.iinc X.here hx rfl (hb hby hd) hl (by rw [hr]; exact hl') q
theorem Gl.dup (Y : Sd Z own bs mx ret n0 p l e R s m args below meth c T h k n) {x : Value} (hc : x.category = 1) (hd : decode bs pc = .ok (.dup, 1)) (hp : pc + 1 = pc') (q : Gl p e below P (T.setTop (mkF m pc' L (x :: x :: S)))) : Gl p e below P (T.setTop (mkF m pc L (x :: S))) := by
  obtain ⟨locs, vm0, k0, X, eT, N, hn0, hx, hZ, hown, hby, hml, hrt, hlk, hSi, hk0⟩ := Y
  subst hp
  exact q.of1 fun t q => XS.dup X.here hx rfl (hb hby hd) rfl hc q
theorem Gl.pop (Y : Sd Z own bs mx ret n0 p l e R s m args below meth c T h k n) {x : Value} (hc : x.category = 1) (hd : decode bs pc = .ok (.pop, 1)) (hp : pc + 1 = pc') (q : Gl p e below P (T.setTop (mkF m pc' L S))) : Gl p e below P (T.setTop (mkF m pc L (x :: S))) := by
  obtain ⟨locs, vm0, k0, X, eT, N, hn0, hx, hZ, hown, hby, hml, hrt, hlk, hSi, hk0⟩ := Y
  subst hp
  exact q.of1 fun t q => XS.pop X.here hx rfl (hb hby hd) rfl hc q
theorem Gl.dupX1 (Y : Sd Z own bs mx ret n0 p l e R s m args below meth c T h k n) {x y : Value} (hc : x.category = 1) (hc' : y.category = 1) (hd : decode bs pc = .ok (.dup_x1, 1)) (hp : pc + 1 = pc') (q : Gl p e below P (T.setTop (mkF m pc' L (x :: y :: x :: S)))) : Gl p e below P (T.setTop (mkF m pc L (x :: y :: S))) := by
  obtain ⟨locs, vm0, k0, X, eT, N, hn0, hx, hZ, hown, hby, hml, hrt, hlk, hSi, hk0⟩ := Y
  subst hp
  exact q.of1 fun t q => XS.dupX1 X.here hx rfl (hb hby hd) rfl hc hc' q
theorem Gl.lcmp (Y : Sd Z own bs mx ret n0 p l e R s m args below meth c T h k n) {x y : Int64} {r : Int32} (hr : lcmpW x y = r) (hd : decode bs pc = .ok (.lcmp, 1)) (hp : pc + 1 = pc') (q : Gl p e below P (T.setTop (mkF m pc' L (.int r :: S)))) : Gl p e below P (T.setTop (mkF m pc L (.long y :: .long x :: S))) := by
  obtain ⟨locs, vm0, k0, X, eT, N, hn0, hx, hZ, hown, hby, hml, hrt, hlk, hSi, hk0⟩ := Y
  subst hp hr
  exact q.of1 fun t q => XS.lcmp X.here hx rfl (hb hby hd) rfl q
theorem Gl.arraylength (Y : Sd Z own bs mx ret n0 p l e R s m args below meth c T h k n) {a : Addr} {ck : ClassId} {ty : FieldType} {z : Int32} {vs : List Value} {d : Value} (F : Arv Z h a ck ty z vs d) (hd : decode bs pc = .ok (.arraylength, 1)) (hp : pc + 1 = pc') (q : Gl p e below P (T.setTop (mkF m pc' L (.int z :: S)))) : Gl p e below P (T.setTop (mkF m pc L (.ref a :: S))) := by
  obtain ⟨locs, vm0, k0, X, eT, N, hn0, hx, hZ, hown, hby, hml, hrt, hlk, hSi, hk0⟩ := Y
  subst hp
  exact q.of1 fun t q => by
    obtain ⟨cl, A, -, S1, N1, -⟩ := F
    exact X.arraylength hx (by rw [eT]; exact A.1) (State.isArrayOf_alike hZ.alike A.2.1) (g := mkF m pc L (.ref a :: S)) rfl rfl (hb hby hd) t (by rw [len_of S1 N1]; exact q)
theorem Gl.iaload (Y : Sd Z own bs mx ret n0 p l e R s m args below meth c T h k n) {a : Addr} {ck : ClassId} {z j : Int32} {vs : List Value} {d v : Value} (F : Arv Z h a ck .int z vs d) (hj : ¬ j < 0 ∧ j < z) (hv : vs.getD j.toNatClampNeg d = v) (hd : decode bs pc = .ok (.iaload, 1)) (hp : pc + 1 = pc') (q : Gl p e below P (T.setTop (mkF m pc' L (v :: S)))) : Gl p e below P (T.setTop (mkF m pc L (.int j :: .ref a :: S))) := by
  obtain ⟨locs, vm0, k0, X, eT, N, hn0, hx, hZ, hown, hby, hml, hrt, hlk, hSi, hk0⟩ := Y
  subst hp
  exact q.of1 fun t q => by
    obtain ⟨cl, A, -, S1, N1, H, -⟩ := F
    exact X.iaload hx (by rw [eT]; exact A.1) (State.isArrayOf_alike hZ.alike A.2.1) A.2.2 (inb_of S1 hj) (H.at (inb_of S1 hj) hv) (g := mkF m pc L (.int j :: .ref a :: S)) rfl rfl (hb hby hd) t q
theorem Gl.laload (Y : Sd Z own bs mx ret n0 p l e R s m args below meth c T h k n) {a : Addr} {ck : ClassId} {z j : Int32} {vs : List Value} {d v : Value} (F : Arv Z h a ck .long z vs d) (hj : ¬ j < 0 ∧ j < z) (hv : vs.getD j.toNatClampNeg d = v) (hd : decode bs pc = .ok (.laload, 1)) (hp : pc + 1 = pc') (q : Gl p e below P (T.setTop (mkF m pc' L (v :: S)))) : Gl p e below P (T.setTop (mkF m pc L (.int j :: .ref a :: S))) := by
  obtain ⟨locs, vm0, k0, X, eT, N, hn0, hx, hZ, hown, hby, hml, hrt, hlk, hSi, hk0⟩ := Y
  subst hp
  exact q.of1 fun t q => by
    obtain ⟨cl, A, -, S1, N1, H, -⟩ := F
    exact X.laload hx (by rw [eT]; exact A.1) (State.isArrayOf_alike hZ.alike A.2.1) A.2.2 (inb_of S1 hj) (H.at (inb_of S1 hj) hv) (g := mkF m pc L (.int j :: .ref a :: S)) rfl rfl (hb hby hd) t q
theorem Gl.caload (Y : Sd Z own bs mx ret n0 p l e R s m args below meth c T h k n) {a : Addr} {ck : ClassId} {z j : Int32} {vs : List Value} {d v : Value} (F : Arv Z h a ck .char z vs d) (hj : ¬ j < 0 ∧ j < z) (hv : vs.getD j.toNatClampNeg d = v) (hd : decode bs pc = .ok (.caload, 1)) (hp : pc + 1 = pc') (q : Gl p e below P (T.setTop (mkF m pc' L (v :: S)))) : Gl p e below P (T.setTop (mkF m pc L (.int j :: .ref a :: S))) := by
  obtain ⟨locs, vm0, k0, X, eT, N, hn0, hx, hZ, hown, hby, hml, hrt, hlk, hSi, hk0⟩ := Y
  subst hp
  exact q.of1 fun t q => by
    obtain ⟨cl, A, -, S1, N1, H, -⟩ := F
    exact X.caload hx (by rw [eT]; exact A.1) (State.isArrayOf_alike hZ.alike A.2.1) A.2.2 (inb_of S1 hj) (H.at (inb_of S1 hj) hv) (g := mkF m pc L (.int j :: .ref a :: S)) rfl rfl (hb hby hd) t q
theorem Gl.saload (Y : Sd Z own bs mx ret n0 p l e R s m args below meth c T h k n) {a : Addr} {ck : ClassId} {z j : Int32} {vs : List Value} {d v : Value} (F : Arv Z h a ck .short z vs d) (hj : ¬ j < 0 ∧ j < z) (hv : vs.getD j.toNatClampNeg d = v) (hd : decode bs pc = .ok (.saload, 1)) (hp : pc + 1 = pc') (q : Gl p e below P (T.setTop (mkF m pc' L (v :: S)))) : Gl p e below P (T.setTop (mkF m pc L (.int j :: .ref a :: S))) := by
  obtain ⟨locs, vm0, k0, X, eT, N, hn0, hx, hZ, hown, hby, hml, hrt, hlk, hSi, hk0⟩ := Y
  subst hp
  exact q.of1 fun t q => by
    obtain ⟨cl, A, -, S1, N1, H, -⟩ := F
    exact X.saload hx (by rw [eT]; exact A.1) (State.isArrayOf_alike hZ.alike A.2.1) A.2.2 (inb_of S1 hj) (H.at (inb_of S1 hj) hv) (g := mkF m pc L (.int j :: .ref a :: S)) rfl rfl (hb hby hd) t q
theorem Gl.baload (Y : Sd Z own bs mx ret n0 p l e R s m args below meth c T h k n) {a : Addr} {ck : ClassId} {z j : Int32} {vs : List Value} {d v : Value} (F : Arv Z h a ck .byte z vs d) (hj : ¬ j < 0 ∧ j < z) (hv : vs.getD j.toNatClampNeg d = v) (hd : decode bs pc = .ok (.baload, 1)) (hp : pc + 1 = pc') (q : Gl p e below P (T.setTop (mkF m pc' L (v :: S)))) : Gl p e below P (T.setTop (mkF m pc L (.int j :: .ref a :: S))) := by
  obtain ⟨locs, vm0, k0, X, eT, N, hn0, hx, hZ, hown, hby, hml, hrt, hlk, hSi, hk0⟩ := Y
  subst hp
  exact q.of1 fun t q => by
    obtain ⟨cl, A, -, S1, N1, H, -⟩ := F
    exact X.baloadBytes hx (by rw [eT]; exact A.1) (State.isArrayOf_alike hZ.alike A.2.1) A.2.2 (inb_of S1 hj) (H.at (inb_of S1 hj) hv) (g := mkF m pc L (.int j :: .ref a :: S)) rfl rfl (hb hby hd) t q
theorem Gl.goto (Y : Sd Z own bs mx ret n0 p l e R s m args below meth c T h k n) {o : Int} (hd : decode bs pc = .ok (.goto o, 3)) (ho : 0 ≤ (pc : Int) + o) (hp : ((pc : Int) + o).toNat = pc') (q : Gl p e below P (T.setTop (mkF m pc' L S))) : Gl p e below P (T.setTop (mkF m pc L S)) := by
  obtain ⟨locs, vm0, k0, X, eT, N, hn0, hx, hZ, hown, hby, hml, hrt, hlk, hSi, hk0⟩ := Y
  exact q.of1 fun t q => XS.goto X.here hx rfl rfl (hb hby hd) ho hp q
theorem Gl.ifeq (Y : Sd Z own bs mx ret n0 p l e R s m args below meth c T h k n) {x : Int32} {o : Int} (hd : decode bs pc = .ok (.ifCond .eq o, 3)) (ho : 0 ≤ (pc : Int) + o) (ht : ((pc : Int) + o).toNat = pcT) (hf : pc + 3 = pcF) (q1 : x = 0 → Gl p e below P (T.setTop (mkF m pcT L S))) (q2 : ¬ x = 0 → Gl p e below P (T.setTop (mkF m pcF L S))) : Gl p e below P (T.setTop (mkF m pc L (.int x :: S))) := by
  obtain ⟨locs, vm0, k0, X, eT, N, hn0, hx, hZ, hown, hby, hml, hrt, hlk, hSi, hk0⟩ := Y
  by_cases hq : x = 0
  · exact (q1 hq).of1 fun t q => XS.ifYes X.here hx rfl rfl (hb hby hd) rfl (Jvm.Free.XT.i0_eq_t hq) ho ht q
  · subst hf
    exact (q2 (by first | exact hq | exact Decidable.not_not.mp hq)).of1 fun t q => XS.ifNo X.here hx rfl (hb hby hd) rfl (Jvm.Free.XT.i0_eq_f (by first | exact hq | exact Decidable.not_not.mp hq)) q
theorem Gl.icmpeq (Y : Sd Z own bs mx ret n0 p l e R s m args below meth c T h k n) {x y : Int32} {o : Int} (hd : decode bs pc = .ok (.if_icmp .eq o, 3)) (ho : 0 ≤ (pc : Int) + o) (ht : ((pc : Int) + o).toNat = pcT) (hf : pc + 3 = pcF) (q1 : x = y → Gl p e below P (T.setTop (mkF m pcT L S))) (q2 : ¬ x = y → Gl p e below P (T.setTop (mkF m pcF L S))) : Gl p e below P (T.setTop (mkF m pc L (.int y :: .int x :: S))) := by
  obtain ⟨locs, vm0, k0, X, eT, N, hn0, hx, hZ, hown, hby, hml, hrt, hlk, hSi, hk0⟩ := Y
  by_cases hq : x = y
  · exact (q1 hq).of1 fun t q => XS.icmpYes X.here hx rfl rfl (hb hby hd) rfl (Jvm.Free.XT.ii_eq_t hq) ho ht q
  · subst hf
    exact (q2 (by first | exact hq | exact Decidable.not_not.mp hq)).of1 fun t q => XS.icmpNo X.here hx rfl (hb hby hd) rfl (Jvm.Free.XT.ii_eq_f (by first | exact hq | exact Decidable.not_not.mp hq)) q
theorem Gl.lcmpeq (Y : Sd Z own bs mx ret n0 p l e R s m args below meth c T h k n) {x y : Int64} {pc1 : Nat} {o : Int} (hd0 : decode bs pc = .ok (.lcmp, 1)) (hp1 : pc + 1 = pc1) (hd : decode bs pc1 = .ok (.ifCond .eq o, 3)) (ho : 0 ≤ (pc1 : Int) + o) (ht : ((pc1 : Int) + o).toNat = pcT) (hf : pc1 + 3 = pcF) (q1 : x = y → Gl p e below P (T.setTop (mkF m pcT L S))) (q2 : ¬ x = y → Gl p e below P (T.setTop (mkF m pcF L S))) : Gl p e below P (T.setTop (mkF m pc L (.long y :: .long x :: S))) := by
  refine Gl.lcmp Y rfl hd0 hp1 ?_
  obtain ⟨locs, vm0, k0, X, eT, N, hn0, hx, hZ, hown, hby, hml, hrt, hlk, hSi, hk0⟩ := Y
  by_cases hq : x = y
  · exact (q1 hq).of1 fun t q => XS.ifYes X.here hx rfl rfl (hb hby hd) rfl (Jvm.Free.XT.ll_eq_t hq) ho ht q
  · subst hf
    exact (q2 (by first | exact hq | exact Decidable.not_not.mp hq)).of1 fun t q => XS.ifNo X.here hx rfl (hb hby hd) rfl (Jvm.Free.XT.ll_eq_f (by first | exact hq | exact Decidable.not_not.mp hq)) q
theorem Gl.ifne (Y : Sd Z own bs mx ret n0 p l e R s m args below meth c T h k n) {x : Int32} {o : Int} (hd : decode bs pc = .ok (.ifCond .ne o, 3)) (ho : 0 ≤ (pc : Int) + o) (ht : ((pc : Int) + o).toNat = pcT) (hf : pc + 3 = pcF) (q1 : ¬ x = 0 → Gl p e below P (T.setTop (mkF m pcT L S))) (q2 : x = 0 → Gl p e below P (T.setTop (mkF m pcF L S))) : Gl p e below P (T.setTop (mkF m pc L (.int x :: S))) := by
  obtain ⟨locs, vm0, k0, X, eT, N, hn0, hx, hZ, hown, hby, hml, hrt, hlk, hSi, hk0⟩ := Y
  by_cases hq : ¬ x = 0
  · exact (q1 hq).of1 fun t q => XS.ifYes X.here hx rfl rfl (hb hby hd) rfl (Jvm.Free.XT.i0_ne_t hq) ho ht q
  · subst hf
    exact (q2 (by first | exact hq | exact Decidable.not_not.mp hq)).of1 fun t q => XS.ifNo X.here hx rfl (hb hby hd) rfl (Jvm.Free.XT.i0_ne_f (by first | exact hq | exact Decidable.not_not.mp hq)) q
theorem Gl.icmpne (Y : Sd Z own bs mx ret n0 p l e R s m args below meth c T h k n) {x y : Int32} {o : Int} (hd : decode bs pc = .ok (.if_icmp .ne o, 3)) (ho : 0 ≤ (pc : Int) + o) (ht : ((pc : Int) + o).toNat = pcT) (hf : pc + 3 = pcF) (q1 : ¬ x = y → Gl p e below P (T.setTop (mkF m pcT L S))) (q2 : x = y → Gl p e below P (T.setTop (mkF m pcF L S))) : Gl p e below P (T.setTop (mkF m pc L (.int y :: .int x :: S))) := by
  obtain ⟨locs, vm0, k0, X, eT, N, hn0, hx, hZ, hown, hby, hml, hrt, hlk, hSi, hk0⟩ := Y
  by_cases hq : ¬ x = y
  · exact (q1 hq).of1 fun t q => XS.icmpYes X.here hx rfl rfl (hb hby hd) rfl (Jvm.Free.XT.ii_ne_t hq) ho ht q
  · subst hf
    exact (q2 (by first | exact hq | exact Decidable.not_not.mp hq)).of1 fun t q => XS.icmpNo X.here hx rfl (hb hby hd) rfl (Jvm.Free.XT.ii_ne_f (by first | exact hq | exact Decidable.not_not.mp hq)) q
theorem Gl.lcmpne (Y : Sd Z own bs mx ret n0 p l e R s m args below meth c T h k n) {x y : Int64} {pc1 : Nat} {o : Int} (hd0 : decode bs pc = .ok (.lcmp, 1)) (hp1 : pc + 1 = pc1) (hd : decode bs pc1 = .ok (.ifCond .ne o, 3)) (ho : 0 ≤ (pc1 : Int) + o) (ht : ((pc1 : Int) + o).toNat = pcT) (hf : pc1 + 3 = pcF) (q1 : ¬ x = y → Gl p e below P (T.setTop (mkF m pcT L S))) (q2 : x = y → Gl p e below P (T.setTop (mkF m pcF L S))) : Gl p e below P (T.setTop (mkF m pc L (.long y :: .long x :: S))) := by
  refine Gl.lcmp Y rfl hd0 hp1 ?_
  obtain ⟨locs, vm0, k0, X, eT, N, hn0, hx, hZ, hown, hby, hml, hrt, hlk, hSi, hk0⟩ := Y
  by_cases hq : ¬ x = y
  · exact (q1 hq).of1 fun t q => XS.ifYes X.here hx rfl rfl (hb hby hd) rfl (Jvm.Free.XT.ll_ne_t hq) ho ht q
  · subst hf
    exact (q2 (by first | exact hq | exact Decidable.not_not.mp hq)).of1 fun t q => XS.ifNo X.here hx rfl (hb hby hd) rfl (Jvm.Free.XT.ll_ne_f (by first | exact hq | exact Decidable.not_not.mp hq)) q
theorem Gl.iflt (Y : Sd Z own bs mx ret n0 p l e R s m args below meth c T h k n) {x : Int32} {o : Int} (hd : decode bs pc = .ok (.ifCond .lt o, 3)) (ho : 0 ≤ (pc : Int) + o) (ht : ((pc : Int) + o).toNat = pcT) (hf : pc + 3 = pcF) (q1 : x < 0 → Gl p e below P (T.setTop (mkF m pcT L S))) (q2 : ¬ x < 0 → Gl p e below P (T.setTop (mkF m pcF L S))) : Gl p e below P (T.setTop (mkF m pc L (.int x :: S))) := by
  obtain ⟨locs, vm0, k0, X, eT, N, hn0, hx, hZ, hown, hby, hml, hrt, hlk, hSi, hk0⟩ := Y
  by_cases hq : x < 0
  · exact (q1 hq).of1 fun t q => XS.ifYes X.here hx rfl rfl (hb hby hd) rfl (Jvm.Free.XT.i0_lt_t hq) ho ht q
  · subst hf
    exact (q2 (by first | exact hq | exact Decidable.not_not.mp hq)).of1 fun t q => XS.ifNo X.here hx rfl (hb hby hd) rfl (Jvm.Free.XT.i0_lt_f (by first | exact hq | exact Decidable.not_not.mp hq)) q
theorem Gl.icmplt (Y : Sd Z own bs mx ret n0 p l e R s m args below meth c T h k n) {x y : Int32} {o : Int} (hd : decode bs pc = .ok (.if_icmp .lt o, 3)) (ho : 0 ≤ (pc : Int) + o) (ht : ((pc : Int) + o).toNat = pcT) (hf : pc + 3 = pcF) (q1 : x < y → Gl p e below P (T.setTop (mkF m pcT L S))) (q2 : ¬ x < y → Gl p e below P (T.setTop (mkF m pcF L S))) : Gl p e below P (T.setTop (mkF m pc L (.int y :: .int x :: S))) := by
  obtain ⟨locs, vm0, k0, X, eT, N, hn0, hx, hZ, hown, hby, hml, hrt, hlk, hSi, hk0⟩ := Y
  by_cases hq : x < y
  · exact (q1 hq).of1 fun t q => XS.icmpYes X.here hx rfl rfl (hb hby hd) rfl (Jvm.Free.XT.ii_lt_t hq) ho ht q
  · subst hf
    exact (q2 (by first | exact hq | exact Decidable.not_not.mp hq)).of1 fun t q => XS.icmpNo X.here hx rfl (hb hby hd) rfl (Jvm.Free.XT.ii_lt_f (by first | exact hq | exact Decidable.not_not.mp hq)) q
theorem Gl.lcmplt (Y : Sd Z own bs mx ret n0 p l e R s m args below meth c T h k n) {x y : Int64} {pc1 : Nat} {o : Int} (hd0 : decode bs pc = .ok (.lcmp, 1)) (hp1 : pc + 1 = pc1) (hd : decode bs pc1 = .ok (.ifCond .lt o, 3)) (ho : 0 ≤ (pc1 : Int) + o) (ht : ((pc1 : Int) + o).toNat = pcT) (hf : pc1 + 3 = pcF) (q1 : x < y → Gl p e below P (T.setTop (mkF m pcT L S))) (q2 : ¬ x < y → Gl p e below P (T.setTop (mkF m pcF L S))) : Gl p e below P (T.setTop (mkF m pc L (.long y :: .long x :: S))) := by
  refine Gl.lcmp Y rfl hd0 hp1 ?_
  obtain ⟨locs, vm0, k0, X, eT, N, hn0, hx, hZ, hown, hby, hml, hrt, hlk, hSi, hk0⟩ := Y
  by_cases hq : x < y
  · exact (q1 hq).of1 fun t q => XS.ifYes X.here hx rfl rfl (hb hby hd) rfl (Jvm.Free.XT.ll_lt_t hq) ho ht q
  · subst hf
    exact (q2 (by first | exact hq | exact Decidable.not_not.mp hq)).of1 fun t q => XS.ifNo X.here hx rfl (hb hby hd) rfl (Jvm.Free.XT.ll_lt_f (by first | exact hq | exact Decidable.not_not.mp hq)) q
theorem Gl.ifge (Y : Sd Z own bs mx ret n0 p l e R s m args below meth c T h k n) {x : Int32} {o : Int} (hd : decode bs pc = .ok (.ifCond .ge o, 3)) (ho : 0 ≤ (pc : Int) + o) (ht : ((pc : Int) + o).toNat = pcT) (hf : pc + 3 = pcF) (q1 : ¬ x < 0 → Gl p e below P (T.setTop (mkF m pcT L S))) (q2 : x < 0 → Gl p e below P (T.setTop (mkF m pcF L S))) : Gl p e below P (T.setTop (mkF m pc L (.int x :: S))) := by
  obtain ⟨locs, vm0, k0, X, eT, N, hn0, hx, hZ, hown, hby, hml, hrt, hlk, hSi, hk0⟩ := Y
  by_cases hq : ¬ x < 0
  · exact (q1 hq).of1 fun t q => XS.ifYes X.here hx rfl rfl (hb hby hd) rfl (Jvm.Free.XT.i0_ge_t hq) ho ht q
  · subst hf
    exact (q2 (by first | exact hq | exact Decidable.not_not.mp hq)).of1 fun t q => XS.ifNo X.here hx rfl (hb hby hd) rfl (Jvm.Free.XT.i0_ge_f (by first | exact hq | exact Decidable.not_not.mp hq)) q
theorem Gl.icmpge (Y : Sd Z own bs mx ret n0 p l e R s m args below meth c T h k n) {x y : Int32} {o : Int} (hd : decode bs pc = .ok (.if_icmp .ge o, 3)) (ho : 0 ≤ (pc : Int) + o) (ht : ((pc : Int) + o).toNat = pcT) (hf : pc + 3 = pcF) (q1 : ¬ x < y → Gl p e below P (T.setTop (mkF m pcT L S))) (q2 : x < y → Gl p e below P (T.setTop (mkF m pcF L S))) : Gl p e below P (T.setTop (mkF m pc L (.int y :: .int x :: S))) := by
  obtain ⟨locs, vm0, k0, X, eT, N, hn0, hx, hZ, hown, hby, hml, hrt, hlk, hSi, hk0⟩ := Y
  by_cases hq : ¬ x < y
  · exact (q1 hq).of1 fun t q => XS.icmpYes X.here hx rfl rfl (hb hby hd) rfl (Jvm.Free.XT.ii_ge_t hq) ho ht q
  · subst hf
    exact (q2 (by first | exact hq | exact Decidable.not_not.mp hq)).of1 fun t q => XS.icmpNo X.here hx rfl (hb hby hd) rfl (Jvm.Free.XT.ii_ge_f (by first | exact hq | exact Decidable.not_not.mp hq)) q
theorem Gl.lcmpge (Y : Sd Z own bs mx ret n0 p l e R s m args below meth c T h k n) {x y : Int64} {pc1 : Nat} {o : Int} (hd0 : decode bs pc = .ok (.lcmp, 1)) (hp1 : pc + 1 = pc1) (hd : decode bs pc1 = .ok (.ifCond .ge o, 3)) (ho : 0 ≤ (pc1 : Int) + o) (ht : ((pc1 : Int) + o).toNat = pcT) (hf : pc1 + 3 = pcF) (q1 : ¬ x < y → Gl p e below P (T.setTop (mkF m pcT L S))) (q2 : x < y → Gl p e below P (T.setTop (mkF m pcF L S))) : Gl p e below P (T.setTop (mkF m pc L (.long y :: .long x :: S))) := by
  refine Gl.lcmp Y rfl hd0 hp1 ?_
  obtain ⟨locs, vm0, k0, X, eT, N, hn0, hx, hZ, hown, hby, hml, hrt, hlk, hSi, hk0⟩ := Y
  by_cases hq : ¬ x < y
  · exact (q1 hq).of1 fun t q => XS.ifYes X.here hx rfl rfl (hb hby hd) rfl (Jvm.Free.XT.ll_ge_t hq) ho ht q
  · subst hf
    exact (q2 (by first | exact hq | exact Decidable.not_not.mp hq)).of1 fun t q => XS.ifNo X.here hx rfl (hb hby hd) rfl (Jvm.Free.XT.ll_ge_f (by first | exact hq | exact Decidable.not_not.mp hq)) q
theorem Gl.ifgt (Y : Sd Z own bs mx ret n0 p l e R s m args below meth c T h k n) {x : Int32} {o : Int} (hd : decode bs pc = .ok (.ifCond .gt o, 3)) (ho : 0 ≤ (pc : Int) + o) (ht : ((pc : Int) + o).toNat = pcT) (hf : pc + 3 = pcF) (q1 : 0 < x → Gl p e below P (T.setTop (mkF m pcT L S))) (q2 : ¬ 0 < x → Gl p e below P (T.setTop (mkF m pcF L S))) : Gl p e below P (T.setTop (mkF m pc L (.int x :: S))) := by
  obtain ⟨locs, vm0, k0, X, eT, N, hn0, hx, hZ, hown, hby, hml, hrt, hlk, hSi, hk0⟩ := Y
  by_cases hq : 0 < x
  · exact (q1 hq).of1 fun t q => XS.ifYes X.here hx rfl rfl (hb hby hd) rfl (Jvm.Free.XT.i0_gt_t hq) ho ht q
  · subst hf
    exact (q2 (by first | exact hq | exact Decidable.not_not.mp hq)).of1 fun t q => XS.ifNo X.here hx rfl (hb hby hd) rfl (Jvm.Free.XT.i0_gt_f (by first | exact hq | exact Decidable.not_not.mp hq)) q
theorem Gl.icmpgt (Y : Sd Z own bs mx ret n0 p l e R s m args below meth c T h k n) {x y : Int32} {o : Int} (hd : decode bs pc = .ok (.if_icmp .gt o, 3)) (ho : 0 ≤ (pc : Int) + o) (ht : ((pc : Int) + o).toNat = pcT) (hf : pc + 3 = pcF) (q1 : y < x → Gl p e below P (T.setTop (mkF m pcT L S))) (q2 : ¬ y < x → Gl p e below P (T.setTop (mkF m pcF L S))) : Gl p e below P (T.setTop (mkF m pc L (.int y :: .int x :: S))) := by
  obtain ⟨locs, vm0, k0, X, eT, N, hn0, hx, hZ, hown, hby, hml, hrt, hlk, hSi, hk0⟩ := Y
  by_cases hq : y < x
  · exact (q1 hq).of1 fun t q => XS.icmpYes X.here hx rfl rfl (hb hby hd) rfl (Jvm.Free.XT.ii_gt_t hq) ho ht q
  · subst hf
    exact (q2 (by first | exact hq | exact Decidable.not_not.mp hq)).of1 fun t q => XS.icmpNo X.here hx rfl (hb hby hd) rfl (Jvm.Free.XT.ii_gt_f (by first | exact hq | exact Decidable.not_not.mp hq)) q
theorem Gl.lcmpgt (Y : Sd Z own bs mx ret n0 p l e R s m args below meth c T h k n) {x y : Int64} {pc1 : Nat} {o : Int} (hd0 : decode bs pc = .ok (.lcmp, 1)) (hp1 : pc + 1 = pc1) (hd : decode bs pc1 = .ok (.ifCond .gt o, 3)) (ho : 0 ≤ (pc1 : Int) + o) (ht : ((pc1 : Int) + o).toNat = pcT) (hf : pc1 + 3 = pcF) (q1 : y < x → Gl p e below P (T.setTop (mkF m pcT L S))) (q2 : ¬ y < x → Gl p e below P (T.setTop (mkF m pcF L S))) : Gl p e below P (T.setTop (mkF m pc L (.long y :: .long x :: S))) := by
  refine Gl.lcmp Y rfl hd0 hp1 ?_
  obtain ⟨locs, vm0, k0, X, eT, N, hn0, hx, hZ, hown, hby, hml, hrt, hlk, hSi, hk0⟩ := Y
  by_cases hq : y < x
  · exact (q1 hq).of1 fun t q => XS.ifYes X.here hx rfl rfl (hb hby hd) rfl (Jvm.Free.XT.ll_gt_t hq) ho ht q
  · subst hf
    exact (q2 (by first | exact hq | exact Decidable.not_not.mp hq)).of1 fun t q => XS.ifNo X.here hx rfl (hb hby hd) rfl (Jvm.Free.XT.ll_gt_f (by first | exact hq | exact Decidable.not_not.mp hq)) q
theorem Gl.ifle (Y : Sd Z own bs mx ret n0 p l e R s m args below meth c T h k n) {x : Int32} {o : Int} (hd : decode bs pc = .ok (.ifCond .le o, 3)) (ho : 0 ≤ (pc : Int) + o) (ht : ((pc : Int) + o).toNat = pcT) (hf : pc + 3 = pcF) (q1 : ¬ 0 < x → Gl p e below P (T.setTop (mkF m pcT L S))) (q2 : 0 < x → Gl p e below P (T.setTop (mkF m pcF L S))) : Gl p e below P (T.setTop (mkF m pc L (.int x :: S))) := by
  obtain ⟨locs, vm0, k0, X, eT, N, hn0, hx, hZ, hown, hby, hml, hrt, hlk, hSi, hk0⟩ := Y
  by_cases hq : ¬ 0 < x
  · exact (q1 hq).of1 fun t q => XS.ifYes X.here hx rfl rfl (hb hby hd) rfl (Jvm.Free.XT.i0_le_t hq) ho ht q
  · subst hf
    exact (q2 (by first | exact hq | exact Decidable.not_not.mp hq)).of1 fun t q => XS.ifNo X.here hx rfl (hb hby hd) rfl (Jvm.Free.XT.i0_le_f (by first | exact hq | exact Decidable.not_not.mp hq)) q
theorem Gl.icmple (Y : Sd Z own bs mx ret n0 p l e R s m args below meth c T h k n) {x y : Int32} {o : Int} (hd : decode bs pc = .ok (.if_icmp .le o, 3)) (ho : 0 ≤ (pc : Int) + o) (ht : ((pc : Int) + o).toNat = pcT) (hf : pc + 3 = pcF) (q1 : ¬ y < x → Gl p e below P (T.setTop (mkF m pcT L S))) (q2 : y < x → Gl p e below P (T.setTop (mkF m pcF L S))) : Gl p e below P (T.setTop (mkF m pc L (.int y :: .int x :: S))) := by
  obtain ⟨locs, vm0, k0, X, eT, N, hn0, hx, hZ, hown, hby, hml, hrt, hlk, hSi, hk0⟩ := Y
  by_cases hq : ¬ y < x
  · exact (q1 hq).of1 fun t q => XS.icmpYes X.here hx rfl rfl (hb hby hd) rfl (Jvm.Free.XT.ii_le_t hq) ho ht q
  · subst hf
    exact (q2 (by first | exact hq | exact Decidable.not_not.mp hq)).of1 fun t q => XS.icmpNo X.here hx rfl (hb hby hd) rfl (Jvm.Free.XT.ii_le_f (by first | exact hq | exact Decidable.not_not.mp hq)) q
theorem Gl.lcmple (Y : Sd Z own bs mx ret n0 p l e R s m args below meth c T h k n) {x y : Int64} {pc1 : Nat} {o : Int} (hd0 : decode bs pc = .ok (.lcmp, 1)) (hp1 : pc + 1 = pc1) (hd : decode bs pc1 = .ok (.ifCond .le o, 3)) (ho : 0 ≤ (pc1 : Int) + o) (ht : ((pc1 : Int) + o).toNat = pcT) (hf : pc1 + 3 = pcF) (q1 : ¬ y < x → Gl p e below P (T.setTop (mkF m pcT L S))) (q2 : y < x → Gl p e below P (T.setTop (mkF m pcF L S))) : Gl p e below P (T.setTop (mkF m pc L (.long y :: .long x :: S))) := by
  refine Gl.lcmp Y rfl hd0 hp1 ?_
  obtain ⟨locs, vm0, k0, X, eT, N, hn0, hx, hZ, hown, hby, hml, hrt, hlk, hSi, hk0⟩ := Y
  by_cases hq : ¬ y < x
  · exact (q1 hq).of1 fun t q => XS.ifYes X.here hx rfl rfl (hb hby hd) rfl (Jvm.Free.XT.ll_le_t hq) ho ht q
  · subst hf
    exact (q2 (by first | exact hq | exact Decidable.not_not.mp hq)).of1 fun t q => XS.ifNo X.here hx rfl (hb hby hd) rfl (Jvm.Free.XT.ll_le_f (by first | exact hq | exact Decidable.not_not.mp hq)) q
theorem Gl.ifnullY (Y : Sd Z own bs mx ret n0 p l e R s m args below meth c T h k n)  {o : Int} (hd : decode bs pc = .ok (.ifnull o, 3)) (ho : 0 ≤ (pc : Int) + o) (ht : ((pc : Int) + o).toNat = pcT) (q : Gl p e below P (T.setTop (mkF m pcT L S))) : Gl p e below P (T.setTop (mkF m pc L (.null :: S))) := by
  obtain ⟨locs, vm0, k0, X, eT, N, hn0, hx, hZ, hown, hby, hml, hrt, hlk, hSi, hk0⟩ := Y
  exact q.of1 fun t q => XS.ifnullYes X.here hx rfl rfl (hb hby hd) rfl ho ht q
theorem Gl.ifnullN (Y : Sd Z own bs mx ret n0 p l e R s m args below meth c T h k n) {b : Addr} {o : Int} (hd : decode bs pc = .ok (.ifnull o, 3)) (hf : pc + 3 = pcF) (q : Gl p e below P (T.setTop (mkF m pcF L S))) : Gl p e below P (T.setTop (mkF m pc L (.ref b :: S))) := by
  obtain ⟨locs, vm0, k0, X, eT, N, hn0, hx, hZ, hown, hby, hml, hrt, hlk, hSi, hk0⟩ := Y
  subst hf
  exact q.of1 fun t q => XS.ifnullNo X.here hx rfl (hb hby hd) rfl q
theorem Gl.ifnonnullY (Y : Sd Z own bs mx ret n0 p l e R s m args below meth c T h k n) {b : Addr} {o : Int} (hd : decode bs pc = .ok (.ifnonnull o, 3)) (ho : 0 ≤ (pc : Int) + o) (ht : ((pc : Int) + o).toNat = pcT) (q : Gl p e below P (T.setTop (mkF m pcT L S))) : Gl p e below P (T.setTop (mkF m pc L (.ref b :: S))) := by
  obtain ⟨locs, vm0, k0, X, eT, N, hn0, hx, hZ, hown, hby, hml, hrt, hlk, hSi, hk0⟩ := Y
  exact q.of1 fun t q => XS.ifnonnullYes X.here hx rfl rfl (hb hby hd) rfl ho ht q
theorem Gl.ifnonnullN (Y : Sd Z own bs mx ret n0 p l e R s m args below meth c T h k n)  {o : Int} (hd : decode bs pc = .ok (.ifnonnull o, 3)) (hf : pc + 3 = pcF) (q : Gl p e below P (T.setTop (mkF m pcF L S))) : Gl p e below P (T.setTop (mkF m pc L (.null :: S))) := by
  obtain ⟨locs, vm0, k0, X, eT, N, hn0, hx, hZ, hown, hby, hml, hrt, hlk, hSi, hk0⟩ := Y
  subst hf
  exact q.of1 fun t q => XS.ifnonnullNo X.here hx rfl (hb hby hd) rfl q
theorem Gl.acmpeq (Y : Sd Z own bs mx ret n0 p l e R s m args below meth c T h k n) {x y : Value} {o : Int} (h1 : x.isRef = true) (h2 : y.isRef = true) (hd : decode bs pc = .ok (.if_acmp .eq o, 3)) (ho : 0 ≤ (pc : Int) + o) (ht : ((pc : Int) + o).toNat = pcT) (hf : pc + 3 = pcF) (q1 : x = y → Gl p e below P (T.setTop (mkF m pcT L S))) (q2 : ¬ x = y → Gl p e below P (T.setTop (mkF m pcF L S))) : Gl p e below P (T.setTop (mkF m pc L (y :: x :: S))) := by
  obtain ⟨locs, vm0, k0, X, eT, N, hn0, hx, hZ, hown, hby, hml, hrt, hlk, hSi, hk0⟩ := Y
  subst ht hf
  by_cases hq : x = y
  · exact (q1 hq).of1 fun t q => Jvm.RoadKit.acmp (g := mkF m pc L (y :: x :: S)) X hx rfl h1 h2 (pc0 := pc) (same := true) rfl (hb hby hd) rfl (decide_eq_true hq) ho rfl q
  · exact (q2 hq).of1 fun t q => Jvm.RoadKit.acmp (g := mkF m pc L (y :: x :: S)) X hx rfl h1 h2 (pc0 := pc) (same := false) rfl (hb hby hd) rfl (decide_eq_false hq) ho rfl q
theorem Gl.acmpne (Y : Sd Z own bs mx ret n0 p l e R s m args below meth c T h k n) {x y : Value} {o : Int} (h1 : x.isRef = true) (h2 : y.isRef = true) (hd : decode bs pc = .ok (.if_acmp .ne o, 3)) (ho : 0 ≤ (pc : Int) + o) (ht : ((pc : Int) + o).toNat = pcT) (hf : pc + 3 = pcF) (q1 : ¬ x = y → Gl p e below P (T.setTop (mkF m pcT L S))) (q2 : x = y → Gl p e below P (T.setTop (mkF m pcF L S))) : Gl p e below P (T.setTop (mkF m pc L (y :: x :: S))) := by
  obtain ⟨locs, vm0, k0, X, eT, N, hn0, hx, hZ, hown, hby, hml, hrt, hlk, hSi, hk0⟩ := Y
  subst ht hf
  by_cases hq : x = y
  · exact (q2 hq).of1 fun t q => Jvm.RoadKit.acmp (g := mkF m pc L (y :: x :: S)) X hx rfl h1 h2 (pc0 := pc) (same := true) rfl (hb hby hd) rfl (decide_eq_true hq) ho rfl q
  · exact (q1 hq).of1 fun t q => Jvm.RoadKit.acmp (g := mkF m pc L (y :: x :: S)) X hx rfl h1 h2 (pc0 := pc) (same := false) rfl (hb hby hd) rfl (decide_eq_false hq) ho rfl q
theorem Gl.getF (Y : Sd Z own bs mx ret n0 p l e R s m args below meth c T h k n) {i : Nat} {R0 O f d host : String} {a : Addr} {v : Value} (w : (Jvm.Cond.fieldLink own i R0 f d).before a0 Z = true ∨ (Jvm.Cond.fieldLinkNest own i R0 f d host).before a0 Z = true) (via : Via Z R0 O f d) (F : Fld Z h a O f d v) (hd : decode bs pc = .ok (.getfield i, 3)) (hp : pc + 3 = pc') (q : ∀ T', Sd Z own bs mx ret n0 p l e R s m args below meth c T' h k n → Gl p e below P (T'.setTop (mkF m pc' L (v :: S)))) : Gl p e below P (T.setTop (mkF m pc L (.ref a :: S))) := by
  obtain ⟨locs, vm0, k0, X, eT, N, hn0, hx, hZ, hown, hby, hml, hrt, hlk, hSi, hk0⟩ := Y
  subst hp
  obtain ⟨T', X', e', st⟩ := Jvm.RoadKit.getF X hx hZ hown w via eT F (g := mkF m pc L (.ref a :: S)) rfl rfl (hb hby hd)
  exact (q T' ⟨locs, vm0, k0, X', e', N, hn0, hx, hZ, hown, hby, hml, hrt, hlk, hSi, hk0⟩).of1 st
theorem Gl.getS (Y : Sd Z own bs mx ret n0 p l e R s m args below meth c T h k n) {i : Nat} {R0 O f d host : String} {v : Value} (w : (Jvm.Cond.fieldLink own i R0 f d).before a0 Z = true ∨ (Jvm.Cond.fieldLinkNest own i R0 f d host).before a0 Z = true) (via : Via Z R0 O f d) (F : Sta Z h O f d v) (hd : decode bs pc = .ok (.getstatic i, 3)) (hp : pc + 3 = pc') (q : ∀ T', Sd Z own bs mx ret n0 p l e R s m args below meth c T' h k n → Gl p e below P (T'.setTop (mkF m pc' L (v :: S)))) : Gl p e below P (T.setTop (mkF m pc L S)) := by
  obtain ⟨locs, vm0, k0, X, eT, N, hn0, hx, hZ, hown, hby, hml, hrt, hlk, hSi, hk0⟩ := Y
  subst hp
  obtain ⟨T', X', e', st⟩ := getS2 X hx hZ hown w via eT F (g := mkF m pc L S) rfl (hb hby hd)
  exact (q T' ⟨locs, vm0, k0, X', e', N, hn0, hx, hZ, hown, hby, hml, hrt, hlk, hSi, hk0⟩).of1 st
theorem Gl.putF (Y : Sd Z own bs mx ret n0 p l e R s m args below meth c T h k n) {i kk : Nat} {R0 O f d host C : String} {ty : FieldType} {a : Addr} {v old : Value} (w : (Jvm.Cond.fieldLink own i R0 f d).before a0 Z = true ∨ (Jvm.Cond.fieldLinkNest own i R0 f d host).before a0 Z = true) (via : Via Z R0 O f d) (F : Fld Z h a O f d old) (E : Exa Z h a C) (Lw : (Jvm.Cond.lays C O f d).before a0 Z = true ∨ ((Jvm.Cond.laysFinal C O f d).before a0 Z = true ∧ own = O ∧ meth.name = "<init>")) (wi : (Jvm.Cond.instantiable C kk).before a0 Z = true) (ha : n0 ≤ a) (hty : parseFieldDescriptor d = some ty) (hn : narrow ty v = v) (hf : fits ty v = true) (hd : decode bs pc = .ok (.putfield i, 3)) (hp : pc + 3 = pc') (q : ∀ T' h', Sd Z own bs mx ret n0 p l e R s m args below meth c T' h' k n → Wr h h' a (Jvm.RoadKit.slotOf Z O f d) v → Gl p e below P (T'.setTop (mkF m pc' L S))) : Gl p e below P (T.setTop (mkF m pc L (v :: .ref a :: S))) := by
  obtain ⟨locs, vm0, k0, X, eT, N, hn0, hx, hZ, hown, hby, hml, hrt, hlk, hSi, hk0⟩ := Y
  subst hp
  obtain ⟨T', h', X', e', W, st⟩ := Jvm.RoadKit.putF X hx hZ hown w via eT F E Lw wi hty hn hf (g := mkF m pc L (v :: .ref a :: S)) rfl rfl (hb hby hd)
  exact (q T' h' ⟨_, vm0, k0, X', e', Fr.snoc X' N ha, hn0, hx, hZ, hown, hby, hml, hrt, hlk, hSi, by rw [W.size]; exact hk0⟩ W).of1 st
theorem Gl.putFN (Y : Sd Z own bs mx ret n0 p l e R s m args below meth c T h k n) {i kk : Nat} {R0 O f d C : String} {ty : FieldType} {a : Addr} {v v' old : Value} (w : (Jvm.Cond.fieldLink own i R0 f d).before a0 Z = true) (via : Via Z R0 O f d) (F : Fld Z h a O f d old) (E : Exa Z h a C) (Lw : (Jvm.Cond.lays C O f d).before a0 Z = true ∨ ((Jvm.Cond.laysFinal C O f d).before a0 Z = true ∧ own = O ∧ meth.name = "<init>")) (wi : (Jvm.Cond.instantiable C kk).before a0 Z = true) (ha : n0 ≤ a) (hty : parseFieldDescriptor d = some ty) (hn : narrow ty v = v') (hf : fits ty v' = true) (hd : decode bs pc = .ok (.putfield i, 3)) (hp : pc + 3 = pc') (q : ∀ T' h', Sd Z own bs mx ret n0 p l e R s m args below meth c T' h' k n → Wr h h' a (Jvm.RoadKit.slotOf Z O f d) v' → Gl p e below P (T'.setTop (mkF m pc' L S))) : Gl p e below P (T.setTop (mkF m pc L (v :: .ref a :: S))) := by
  obtain ⟨locs, vm0, k0, X, eT, N, hn0, hx, hZ, hown, hby, hml, hrt, hlk, hSi, hk0⟩ := Y
  subst hp
  obtain ⟨T', h', X', e', W, st⟩ := Jvm.RoadKit.putFN X hx hZ hown w via eT F E Lw wi hty hn hf (g := mkF m pc L (v :: .ref a :: S)) rfl rfl (hb hby hd)
  exact (q T' h' ⟨_, vm0, k0, X', e', Fr.snoc X' N ha, hn0, hx, hZ, hown, hby, hml, hrt, hlk, hSi, by rw [W.size]; exact hk0⟩ W).of1 st
theorem Gl.newO (Y : Sd Z own bs mx ret n0 p l e R s m args below meth c T h k n) {i sl : Nat} {C : String} (w : (Jvm.Cond.classLink own i C).before a0 Z = true) (wi : (Jvm.Cond.instantiable C sl).before a0 Z = true) (wz : (Jvm.Cond.initialized C).before a0 Z = true) (hc : k + 1 ≤ R.cells) (hl : n + sl ≤ R.slots) (hd : decode bs pc = .ok (.new i, 3)) (hp : pc + 3 = pc') (q : ∀ T' h' b, Sd Z own bs mx ret n0 p l e R s m args below meth c T' h' (k + 1) (n + sl) → Ext h h' → b = h.size → n0 ≤ b → Exa Z h' b C → (∀ {O nm d : String} {ty : FieldType}, Laid Z a0 C O nm d → parseFieldDescriptor d = some ty → Fld Z h' b O nm d (defaultValue ty)) → Gl p e below P (T'.setTop (mkF m pc' L (.ref b :: S)))) : Gl p e below P (T.setTop (mkF m pc L S)) := by
  obtain ⟨locs, vm0, k0, X, eT, N, hn0, hx, hZ, hown, hby, hml, hrt, hlk, hSi, hk0⟩ := Y
  subst hp
  obtain ⟨T', h', X', e', E, A, D, -, st⟩ := Jvm.RoadKit.newO X hx hZ hown w wi wz eT (g := mkF m pc L S) rfl (hb hby hd) hc hl
  exact (q T' h' h.size ⟨locs, vm0, k0, X', e', N, hn0, hx, hZ, hown, hby, hml, hrt, hlk, hSi, Nat.le_trans hk0 E.1⟩ E rfl (eT ▸ Nat.le_trans hn0 (own_grow X)) A D).of1 st
theorem Gl.newP (Y : Sd Z own bs mx ret n0 p l e R s m args below meth c T h k n) {aty : ArrayType} {ty : FieldType} {z : Int32} (cap : Nat) (hat : newarray.typeOf aty = ty) (w : (Jvm.Cond.arrayClass ty).before a0 Z = true) (hz : ¬ z < 0) (hcap : z.toNatClampNeg ≤ cap) (hcb : cap * 8 ≤ 536870912) (hc : k + 1 ≤ R.cells) (hl : n + cap ≤ R.slots) (hd : decode bs pc = .ok (.newarray aty, 2)) (hp : pc + 2 = pc') (q : ∀ T' h' b ck, Sd Z own bs mx ret n0 p l e R s m args below meth c T' h' (k + 1) (n + cap) → Ext h h' → b = h.size → n0 ≤ b → Arv Z h' b ck ty z [] (defaultValue ty) → Gl p e below P (T'.setTop (mkF m pc' L (.ref b :: S)))) : Gl p e below P (T.setTop (mkF m pc L (.int z :: S))) := by
  obtain ⟨locs, vm0, k0, X, eT, N, hn0, hx, hZ, hown, hby, hml, hrt, hlk, hSi, hk0⟩ := Y
  subst hp hat
  obtain ⟨T', h', ck, X', e', E, A, st⟩ := Jvm.RoadKit.newP X hx hZ w eT (g := mkF m pc L (.int z :: S)) rfl (hb hby hd) rfl hz hcap hcb hc hl
  exact (q T' h' h.size ck ⟨locs, vm0, k0, X', e', N, hn0, hx, hZ, hown, hby, hml, hrt, hlk, hSi, Nat.le_trans hk0 E.1⟩ E rfl (eT ▸ Nat.le_trans hn0 (own_grow X)) (Arv.new A hz)).of1 st
theorem Gl.iastore (Y : Sd Z own bs mx ret n0 p l e R s m args below meth c T h k n) {a : Addr} {ck : ClassId} {z j : Int32} {x : Int32} {vs : List Value} {d v : Value} {ix : Nat} (F : Arv Z h a ck .int z vs d) (hv : .int x = v) (hj : ¬ j < 0 ∧ j < z) (hjx : j.toNatClampNeg = ix) (hlen : ix < vs.length) (ha : n0 ≤ a) (hd : decode bs pc = .ok (.iastore, 1)) (hp : pc + 1 = pc') (q : ∀ T' h', Sd Z own bs mx ret n0 p l e R s m args below meth c T' h' k n → Wr h h' a ix v → Arv Z h' a ck .int z (vs.set ix v) d → Gl p e below P (T'.setTop (mkF m pc' L S))) : Gl p e below P (T.setTop (mkF m pc L (.int x :: .int j :: .ref a :: S))) := by
  obtain ⟨locs, vm0, k0, X, eT, N, hn0, hx, hZ, hown, hby, hml, hrt, hlk, hSi, hk0⟩ := Y
  subst hp hv hjx
  obtain ⟨cl, A, C1, S1, N1, H, Gf⟩ := F
  obtain ⟨T', h', X', e', W, st⟩ := stI X hx hZ eT A (inb_of S1 hj) (g := mkF m pc L (.int x :: .int j :: .ref a :: S)) rfl rfl (hb hby hd)
  exact (q T' h' ⟨_, vm0, k0, X', e', Fr.snoc X' N ha, hn0, hx, hZ, hown, hby, hml, hrt, hlk, hSi, by rw [W.size]; exact hk0⟩ W (Arv.set A C1 S1 N1 H Gf rfl W _ rfl hlen)).of1 st
theorem Gl.lastore (Y : Sd Z own bs mx ret n0 p l e R s m args below meth c T h k n) {a : Addr} {ck : ClassId} {z j : Int32} {x : Int64} {vs : List Value} {d v : Value} {ix : Nat} (F : Arv Z h a ck .long z vs d) (hv : .long x = v) (hj : ¬ j < 0 ∧ j < z) (hjx : j.toNatClampNeg = ix) (hlen : ix < vs.length) (ha : n0 ≤ a) (hd : decode bs pc = .ok (.lastore, 1)) (hp : pc + 1 = pc') (q : ∀ T' h', Sd Z own bs mx ret n0 p l e R s m args below meth c T' h' k n → Wr h h' a ix v → Arv Z h' a ck .long z (vs.set ix v) d → Gl p e below P (T'.setTop (mkF m pc' L S))) : Gl p e below P (T.setTop (mkF m pc L (.long x :: .int j :: .ref a :: S))) := by
  obtain ⟨locs, vm0, k0, X, eT, N, hn0, hx, hZ, hown, hby, hml, hrt, hlk, hSi, hk0⟩ := Y
  subst hp hv hjx
  obtain ⟨cl, A, C1, S1, N1, H, Gf⟩ := F
  obtain ⟨T', h', X', e', W, st⟩ := stJ X hx hZ eT A (inb_of S1 hj) (g := mkF m pc L (.long x :: .int j :: .ref a :: S)) rfl rfl (hb hby hd)
  exact (q T' h' ⟨_, vm0, k0, X', e', Fr.snoc X' N ha, hn0, hx, hZ, hown, hby, hml, hrt, hlk, hSi, by rw [W.size]; exact hk0⟩ W (Arv.set A C1 S1 N1 H Gf rfl W _ rfl hlen)).of1 st
theorem Gl.castore (Y : Sd Z own bs mx ret n0 p l e R s m args below meth c T h k n) {a : Addr} {ck : ClassId} {z j : Int32} {x : Int32} {vs : List Value} {d v : Value} {ix : Nat} (F : Arv Z h a ck .char z vs d) (hv : .int (nar .char x) = v) (hj : ¬ j < 0 ∧ j < z) (hjx : j.toNatClampNeg = ix) (hlen : ix < vs.length) (ha : n0 ≤ a) (hd : decode bs pc = .ok (.castore, 1)) (hp : pc + 1 = pc') (q : ∀ T' h', Sd Z own bs mx ret n0 p l e R s m args below meth c T' h' k n → Wr h h' a ix v → Arv Z h' a ck .char z (vs.set ix v) d → Gl p e below P (T'.setTop (mkF m pc' L S))) : Gl p e below P (T.setTop (mkF m pc L (.int x :: .int j :: .ref a :: S))) := by
  obtain ⟨locs, vm0, k0, X, eT, N, hn0, hx, hZ, hown, hby, hml, hrt, hlk, hSi, hk0⟩ := Y
  subst hp hv hjx
  obtain ⟨cl, A, C1, S1, N1, H, Gf⟩ := F
  obtain ⟨T', h', X', e', W, st⟩ := stC X hx hZ eT A (inb_of S1 hj) (g := mkF m pc L (.int x :: .int j :: .ref a :: S)) rfl rfl (hb hby hd)
  exact (q T' h' ⟨_, vm0, k0, X', e', Fr.snoc X' N ha, hn0, hx, hZ, hown, hby, hml, hrt, hlk, hSi, by rw [W.size]; exact hk0⟩ W (Arv.set A C1 S1 N1 H Gf (fits_nar_char _) W _ rfl hlen)).of1 st
theorem Gl.sastore (Y : Sd Z own bs mx ret n0 p l e R s m args below meth c T h k n) {a : Addr} {ck : ClassId} {z j : Int32} {x : Int32} {vs : List Value} {d v : Value} {ix : Nat} (F : Arv Z h a ck .short z vs d) (hv : .int (nar .short x) = v) (hj : ¬ j < 0 ∧ j < z) (hjx : j.toNatClampNeg = ix) (hlen : ix < vs.length) (ha : n0 ≤ a) (hd : decode bs pc = .ok (.sastore, 1)) (hp : pc + 1 = pc') (q : ∀ T' h', Sd Z own bs mx ret n0 p l e R s m args below meth c T' h' k n → Wr h h' a ix v → Arv Z h' a ck .short z (vs.set ix v) d → Gl p e below P (T'.setTop (mkF m pc' L S))) : Gl p e below P (T.setTop (mkF m pc L (.int x :: .int j :: .ref a :: S))) := by
  obtain ⟨locs, vm0, k0, X, eT, N, hn0, hx, hZ, hown, hby, hml, hrt, hlk, hSi, hk0⟩ := Y
  subst hp hv hjx
  obtain ⟨cl, A, C1, S1, N1, H, Gf⟩ := F
  obtain ⟨T', h', X', e', W, st⟩ := stS X hx hZ eT A (inb_of S1 hj) (g := mkF m pc L (.int x :: .int j :: .ref a :: S)) rfl rfl (hb hby hd)
  exact (q T' h' ⟨_, vm0, k0, X', e', Fr.snoc X' N ha, hn0, hx, hZ, hown, hby, hml, hrt, hlk, hSi, by rw [W.size]; exact hk0⟩ W (Arv.set A C1 S1 N1 H Gf (fits_nar_short _) W _ rfl hlen)).of1 st
theorem Gl.bastore (Y : Sd Z own bs mx ret n0 p l e R s m args below meth c T h k n) {a : Addr} {ck : ClassId} {z j : Int32} {x : Int32} {vs : List Value} {d v : Value} {ix : Nat} (F : Arv Z h a ck .byte z vs d) (hv : .int (nar .byte x) = v) (hj : ¬ j < 0 ∧ j < z) (hjx : j.toNatClampNeg = ix) (hlen : ix < vs.length) (ha : n0 ≤ a) (hd : decode bs pc = .ok (.bastore, 1)) (hp : pc + 1 = pc') (q : ∀ T' h', Sd Z own bs mx ret n0 p l e R s m args below meth c T' h' k n → Wr h h' a ix v → Arv Z h' a ck .byte z (vs.set ix v) d → Gl p e below P (T'.setTop (mkF m pc' L S))) : Gl p e below P (T.setTop (mkF m pc L (.int x :: .int j :: .ref a :: S))) := by
  obtain ⟨locs, vm0, k0, X, eT, N, hn0, hx, hZ, hown, hby, hml, hrt, hlk, hSi, hk0⟩ := Y
  subst hp hv hjx
  obtain ⟨cl, A, C1, S1, N1, H, Gf⟩ := F
  obtain ⟨T', h', X', e', W, st⟩ := stB X hx hZ eT A (inb_of S1 hj) (g := mkF m pc L (.int x :: .int j :: .ref a :: S)) rfl rfl (hb hby hd)
  exact (q T' h' ⟨_, vm0, k0, X', e', Fr.snoc X' N ha, hn0, hx, hZ, hown, hby, hml, hrt, hlk, hSi, by rw [W.size]; exact hk0⟩ W (Arv.set A C1 S1 N1 H Gf (fits_nar_byte _) W _ rfl hlen)).of1 st
theorem Gl.initO (Y : Sd Z own bs mx ret n0 p l e R s m args below meth c T h k n) {i : Nat} {a : Addr} (w1 : (Jvm.Cond.methodLink own i Lib.objectInit).before a0 Z = true) (w2 : (Jvm.Cond.instanceMethod Lib.objectInit).before a0 Z = true) (w3 : (Jvm.Cond.code Lib.objectInit ⟨#[0xb1]⟩ 1 none).before a0 Z = true) (hL : L.size = mx) (hf : 1 ≤ R.frames) (hl : (S.map fun v => v.category).sum + 12 ≤ R.locals) (hd : decode bs pc = .ok (.invokespecial i, 3)) (hp : pc + 3 = pc') (q : ∀ T', Sd Z own bs mx ret n0 p l e R s m args below meth c T' h k n → Gl p e below P (T'.setTop (mkF m pc' L S))) : Gl p e below P (T.setTop (mkF m pc L (.ref a :: S))) := by
  obtain ⟨locs, vm0, k0, X, eT, N, hn0, hx, hZ, hown, hby, hml, hrt, hlk, hSi, hk0⟩ := Y
  subst hp
  obtain ⟨T', X', e', st⟩ := Jvm.RoadKit.initO X hx hZ hown w1 w2 w3 eT (g := mkF m pc L (.ref a :: S)) rfl (by rw [hml]; exact hL) rfl (hb hby hd) hf (W := (S.map fun v => v.category).sum) (by show 2 * 0 + _ ≤ _; omega) hl
  exact (q T' ⟨locs, vm0, k0, X', e', N, hn0, hx, hZ, hown, hby, hml, hrt, hlk, hSi, hk0⟩).of1 st
theorem Gl.castY (Y : Sd Z own bs mx ret n0 p l e R s m args below meth c T h k n) {i : Nat} {K : String} {a : Addr} (w : (Jvm.Cond.classLink own i K).before a0 Z = true) (F : Ins Z h a K true) (hd : decode bs pc = .ok (.checkcast i, 3)) (hp : pc + 3 = pc') (q : ∀ T', Sd Z own bs mx ret n0 p l e R s m args below meth c T' h k n → Gl p e below P (T'.setTop (mkF m pc' L (.ref a :: S)))) : Gl p e below P (T.setTop (mkF m pc L (.ref a :: S))) := by
  obtain ⟨locs, vm0, k0, X, eT, N, hn0, hx, hZ, hown, hby, hml, hrt, hlk, hSi, hk0⟩ := Y
  subst hp
  obtain ⟨T', X', e', st⟩ := Jvm.RoadKit.castY X hx hZ hown w eT F (g := mkF m pc L (.ref a :: S)) rfl rfl (hb hby hd)
  exact (q T' ⟨locs, vm0, k0, X', e', N, hn0, hx, hZ, hown, hby, hml, hrt, hlk, hSi, hk0⟩).of1 st
theorem Gl.instY (Y : Sd Z own bs mx ret n0 p l e R s m args below meth c T h k n) {i : Nat} {K : String} {a : Addr} (w : (Jvm.Cond.classLink own i K).before a0 Z = true) (F : Ins Z h a K true) (hd : decode bs pc = .ok (.instanceof i, 3)) (hp : pc + 3 = pc') (q : ∀ T', Sd Z own bs mx ret n0 p l e R s m args below meth c T' h k n → Gl p e below P (T'.setTop (mkF m pc' L (.int 1 :: S)))) : Gl p e below P (T.setTop (mkF m pc L (.ref a :: S))) := by
  obtain ⟨locs, vm0, k0, X, eT, N, hn0, hx, hZ, hown, hby, hml, hrt, hlk, hSi, hk0⟩ := Y
  subst hp
  obtain ⟨T', X', e', st⟩ := Jvm.RoadKit.instY X hx hZ hown w eT F (g := mkF m pc L (.ref a :: S)) rfl rfl (hb hby hd)
  exact (q T' ⟨locs, vm0, k0, X', e', N, hn0, hx, hZ, hown, hby, hml, hrt, hlk, hSi, hk0⟩).of1 st
theorem Gl.instNo (Y : Sd Z own bs mx ret n0 p l e R s m args below meth c T h k n) {i : Nat} {K C : String} {a : Addr} (w : (Jvm.Cond.classLink own i K).before a0 Z = true) (E : Exa Z h a C) (F : ∃ c t, Z.vm.findClass C = some c ∧ Z.vm.findClass K = some t ∧ Z.vm.assignable c t = false) (hd : decode bs pc = .ok (.instanceof i, 3)) (hp : pc + 3 = pc') (q : ∀ T', Sd Z own bs mx ret n0 p l e R s m args below meth c T' h k n → Gl p e below P (T'.setTop (mkF m pc' L (.int 0 :: S)))) : Gl p e below P (T.setTop (mkF m pc L (.ref a :: S))) := by
  obtain ⟨locs, vm0, k0, X, eT, N, hn0, hx, hZ, hown, hby, hml, hrt, hlk, hSi, hk0⟩ := Y
  subst hp
  obtain ⟨T', X', e', st⟩ := Jvm.RoadKit.instNo X hx hZ hown w eT E F (g := mkF m pc L (.ref a :: S)) rfl rfl (hb hby hd)
  exact (q T' ⟨locs, vm0, k0, X', e', N, hn0, hx, hZ, hown, hby, hml, hrt, hlk, hSi, hk0⟩).of1 st
theorem Gl.castNull (Y : Sd Z own bs mx ret n0 p l e R s m args below meth c T h k n) {i : Nat} (hd : decode bs pc = .ok (.checkcast i, 3)) (hp : pc + 3 = pc') (q : Gl p e below P (T.setTop (mkF m pc' L (.null :: S)))) : Gl p e below P (T.setTop (mkF m pc L (.null :: S))) := by
  obtain ⟨locs, vm0, k0, X, eT, N, hn0, hx, hZ, hown, hby, hml, hrt, hlk, hSi, hk0⟩ := Y
  subst hp
  exact q.of1 fun t q => X.checkcastNull hx (g := mkF m pc L (.null :: S)) rfl rfl (hb hby hd) t q
theorem Gl.instNull (Y : Sd Z own bs mx ret n0 p l e R s m args below meth c T h k n) {i : Nat} (hd : decode bs pc = .ok (.instanceof i, 3)) (hp : pc + 3 = pc') (q : Gl p e below P (T.setTop (mkF m pc' L (.int 0 :: S)))) : Gl p e below P (T.setTop (mkF m pc L (.null :: S))) := by
  obtain ⟨locs, vm0, k0, X, eT, N, hn0, hx, hZ, hown, hby, hml, hrt, hlk, hSi, hk0⟩ := Y
  subst hp
  exact q.of1 fun t q => X.instanceofNull hx (g := mkF m pc L (.null :: S)) rfl rfl (hb hby hd) t q
theorem Gl.newR (Y : Sd Z own bs mx ret n0 p l e R s m args below meth c T h k n) {i : Nat} {C : String} {z : Int32} (cap : Nat) (w1 : (Jvm.Cond.classLink own i C).before a0 Z = true) (w2 : (Jvm.Cond.arrayOver (.object C)).before a0 Z = true) (hz : ¬ z < 0) (hcap : z.toNatClampNeg ≤ cap) (hcb : cap * 8 ≤ 536870912) (hc : k + 1 ≤ R.cells) (hl : n + cap ≤ R.slots) (hd : decode bs pc = .ok (.anewarray i, 3)) (hp : pc + 3 = pc') (q : ∀ T' h' b ck, Sd Z own bs mx ret n0 p l e R s m args below meth c T' h' (k + 1) (n + cap) → Ext h h' → b = h.size → n0 ≤ b → Arv Z h' b ck (.object C) z [] .null → Gl p e below P (T'.setTop (mkF m pc' L (.ref b :: S)))) : Gl p e below P (T.setTop (mkF m pc L (.int z :: S))) := by
  obtain ⟨locs, vm0, k0, X, eT, N, hn0, hx, hZ, hown, hby, hml, hrt, hlk, hSi, hk0⟩ := Y
  subst hp
  obtain ⟨T', h', ck, X', e', E, A, -, st⟩ := Jvm.RoadKit.newR X hx hZ hown w1 w2 eT (g := mkF m pc L (.int z :: S)) rfl (hb hby hd) rfl hz hcap hcb hc hl
  exact (q T' h' h.size ck ⟨locs, vm0, k0, X', e', N, hn0, hx, hZ, hown, hby, hml, hrt, hlk, hSi, Nat.le_trans hk0 E.1⟩ E rfl (eT ▸ Nat.le_trans hn0 (own_grow X)) (Arv.new A hz)).of1 st
theorem Gl.callS (Y : Sd Z own bs mx ret n0 p l e R s m args below meth c T h k n) {y : MethodName} {bs2 : ByteArray} {mx2 : Nat} {ret2 : Option FieldType} {rm : Room} {as : Array Value} {Q : Option Value → Heap → Prop} {i : Nat} {argsL rest : List Value} (w1 : (Jvm.Cond.methodLink own i y).before a0 Z = true) (w2 : (Jvm.Cond.static y).before a0 Z = true) (w3 : (Jvm.Cond.initialized y.cls).before a0 Z = true) (w4 : (Jvm.Cond.code y bs2 mx2 ret2).before a0 Z = true) (hy : y.cls ≠ "java/lang/invoke/MethodHandle" ∧ y.cls ≠ "java/lang/invoke/VarHandle") (hM : OMet l Z [] y bs2 mx2 ret2 rm as h n0 Q) (has : argsL.toArray = as) (hS : S = argsL.reverse ++ rest) (hlen : ∀ sig, parseMethodDescriptor y.desc = some sig → argsL.length = sig.parameters.length) (hL : L.size = mx) (hf : rm.frames + 1 ≤ R.frames) (hl : (rest.map fun v => v.category).sum + (mx2 + 11) + rm.locals ≤ R.locals) (hc : k + rm.cells ≤ R.cells) (hs : n + rm.slots ≤ R.slots) (hd : decode bs pc = .ok (.invokestatic i, 3)) (hp : pc + 3 = pc') (q : ∀ v T' h', Sd Z own bs mx ret n0 p l e R s m args below meth c T' h' (k + rm.cells) (n + rm.slots) → Q v h' → Gl p e below P (T'.setTop (mkF m pc' L (v.toList ++ rest)))) : Gl p e below P (T.setTop (mkF m pc L S)) := by
  obtain ⟨locs, vm0, k0, X, eT, N, hn0, hx, hZ, hown, hby, hml, hrt, hlk, hSi, hk0⟩ := Y
  subst hp has hS
  obtain ⟨v, vm₁, ⟨T', L', k', n'⟩, -, X', hS', hgr, hB, st⟩ := Jvm.RoadKit.callSS X hx (y := y) hown (mvT hZ w1) (mvT hZ w2) (mvT hZ w3) (mvT hZ w4) hy (backOfS (Q := fun v h' L => Q v h' ∧ Fr n0 L) (W := (rest.map fun v => v.category).sum) (OMet.un hM) hZ w4 w3 hf hl) (g := mkF m pc L (argsL.reverse ++ rest)) rfl (by rw [hml]; exact hL) (argsL := argsL) (rest := rest) hlen rfl (by show 2 * 0 + _ ≤ _; omega) (hb hby hd) (fun _ _ => ⟨rfl, eT, hc, hs⟩)
  obtain ⟨Lc, ⟨hQ, NL⟩, l1, l2, l3⟩ := hB
  dsimp only [Pt.U, Pt.locs, Pt.cells, Pt.slots] at X' hS' hgr l1 l2 l3 st hQ
  subst l1 l2 l3
  obtain ⟨X2, hS2, hZ2, ho2⟩ := rebS hSi (by rw [eT]; exact hk0) X' hS' hgr hZ hown
  exact Gl.via st (q v T' T'.heap ⟨_, T'.vm, T'.heap.size, X2, rfl, Fr.app N NL, hn0, hx, hZ2, ho2, hby, hml, hrt, hlk, hS2, Nat.le_refl _⟩ hQ)
theorem Gl.callN (Y : Sd Z own bs mx ret n0 p l e R s m args below meth c T h k n) {y : MethodName} {bs2 : ByteArray} {mx2 : Nat} {rm : Room} {as : Array Value} {Q : Option Value → Heap → Prop} {i : Nat} {argsL rest : List Value} {a : Addr} (hy1 : y.name = "<init>") (w1 : (Jvm.Cond.methodLink own i y).before a0 Z = true) (w2 : (Jvm.Cond.instanceMethod y).before a0 Z = true) (w3 : (Jvm.Cond.initialized y.cls).before a0 Z = true) (w4 : (Jvm.Cond.code y bs2 mx2 none).before a0 Z = true) (hy : y.cls ≠ "java/lang/invoke/MethodHandle" ∧ y.cls ≠ "java/lang/invoke/VarHandle") (hM : OMet l Z [] y bs2 mx2 none rm as h n0 Q) (has : (.ref a :: argsL).toArray = as) (hS : S = argsL.reverse ++ .ref a :: rest) (hlen : ∀ sig, parseMethodDescriptor y.desc = some sig → argsL.length = sig.parameters.length) (hL : L.size = mx) (hf : rm.frames + 1 ≤ R.frames) (hl : (rest.map fun v => v.category).sum + (mx2 + 11) + rm.locals ≤ R.locals) (hc : k + rm.cells ≤ R.cells) (hs : n + rm.slots ≤ R.slots) (hd : decode bs pc = .ok (.invokespecial i, 3)) (hp : pc + 3 = pc') (q : ∀ v T' h', Sd Z own bs mx ret n0 p l e R s m args below meth c T' h' (k + rm.cells) (n + rm.slots) → Q v h' → Gl p e below P (T'.setTop (mkF m pc' L (v.toList ++ rest)))) : Gl p e below P (T.setTop (mkF m pc L S)) := by
  obtain ⟨locs, vm0, k0, X, eT, N, hn0, hx, hZ, hown, hby, hml, hrt, hlk, hSi, hk0⟩ := Y
  subst hp has hS
  obtain ⟨v, vm₁, ⟨T', L', k', n'⟩, -, X', hS', hgr, hB, st⟩ := X.specialBackS hx (y := y) hy1 hown (mvT hZ w1) (mvT hZ w2) (mvT hZ w4) hy (backOfS (Q := fun v h' L => Q v h' ∧ Fr n0 L) (W := (rest.map fun v => v.category).sum) (OMet.un hM) hZ w4 w3 hf hl) (g := mkF m pc L (argsL.reverse ++ .ref a :: rest)) rfl (by rw [hml]; exact hL) (Steps.refl _) (a := a) (argsL := argsL) (rest := rest) hlen rfl (by show 2 * 0 + _ ≤ _; omega) (hb hby hd) (fun _ _ => ⟨rfl, eT, hc, hs⟩)
  obtain ⟨Lc, ⟨hQ, NL⟩, l1, l2, l3⟩ := hB
  dsimp only [Pt.U, Pt.locs, Pt.cells, Pt.slots] at X' hS' hgr l1 l2 l3 st hQ
  subst l1 l2 l3
  obtain ⟨X2, hS2, hZ2, ho2⟩ := rebS hSi (by rw [eT]; exact hk0) X' hS' hgr hZ hown
  exact Gl.via st (q v T' T'.heap ⟨_, T'.vm, T'.heap.size, X2, rfl, Fr.app N NL, hn0, hx, hZ2, ho2, hby, hml, hrt, hlk, hS2, Nat.le_refl _⟩ hQ)
theorem Gl.callV (Y : Sd Z own bs mx ret n0 p l e R s m args below meth c T h k n) {y : MethodName} {bs2 : ByteArray} {mx2 : Nat} {ret2 : Option FieldType} {rm : Room} {as : Array Value} {Q : Option Value → Heap → Prop} {i : Nat} {z : MethodName} {C : String} {argsL rest : List Value} {a : Addr} (w1 : (Jvm.Cond.methodLink own i z).before a0 Z = true) (wd : (Jvm.Cond.declares z).before a0 Z = true) (ws0 : (Jvm.Cond.selects z.cls z z).before a0 Z = true) (ws : (Jvm.Cond.selects C z y).before a0 Z = true) (w2 : (Jvm.Cond.instanceMethod y).before a0 Z = true) (w3 : (Jvm.Cond.initialized y.cls).before a0 Z = true) (w4 : (Jvm.Cond.code y bs2 mx2 ret2).before a0 Z = true) (hy : z.cls ≠ "java/lang/invoke/MethodHandle" ∧ z.cls ≠ "java/lang/invoke/VarHandle") (E : Exa Z h a C) (hM : OMet l Z [] y bs2 mx2 ret2 rm as h n0 Q) (has : (.ref a :: argsL).toArray = as) (hS : S = argsL.reverse ++ .ref a :: rest) (hlen : ∀ sig, parseMethodDescriptor z.desc = some sig → argsL.length = sig.parameters.length) (hL : L.size = mx) (hf : rm.frames + 1 ≤ R.frames) (hl : (rest.map fun v => v.category).sum + (mx2 + 11) + rm.locals ≤ R.locals) (hc : k + rm.cells ≤ R.cells) (hs : n + rm.slots ≤ R.slots) (hd : decode bs pc = .ok (.invokevirtual i, 3)) (hp : pc + 3 = pc') (q : ∀ v T' h', Sd Z own bs mx ret n0 p l e R s m args below meth c T' h' (k + rm.cells) (n + rm.slots) → Q v h' → Gl p e below P (T'.setTop (mkF m pc' L (v.toList ++ rest)))) : Gl p e below P (T.setTop (mkF m pc L S)) := by
  obtain ⟨locs, vm0, k0, X, eT, N, hn0, hx, hZ, hown, hby, hml, hrt, hlk, hSi, hk0⟩ := Y
  subst hp has hS
  obtain ⟨cq, kq, qa, qb, qc⟩ := isOf hZ eT E
  obtain ⟨v, vm₁, ⟨T', L', k', n'⟩, -, X', hS', hgr, hB, st⟩ := X.virtualBackS hx (y := z) (z := y) hown (mvT hZ w1) (mvT hZ wd) (notFace_of_selects (args := #[]) (mvT hZ ws0)) (mvT hZ ws) (mvT hZ w2) hy (backOfS (Q := fun v h' L => Q v h' ∧ Fr n0 L) (W := (rest.map fun v => v.category).sum) (OMet.un hM) hZ w4 w3 hf hl) qa qc (g := mkF m pc L (argsL.reverse ++ .ref a :: rest)) rfl (by rw [hml]; exact hL) (Steps.refl _) (argsL := argsL) (rest := rest) hlen rfl (by show 2 * 0 + _ ≤ _; omega) (hb hby hd) (fun _ _ => ⟨rfl, eT, hc, hs⟩)
  obtain ⟨Lc, ⟨hQ, NL⟩, l1, l2, l3⟩ := hB
  dsimp only [Pt.U, Pt.locs, Pt.cells, Pt.slots] at X' hS' hgr l1 l2 l3 st hQ
  subst l1 l2 l3
  obtain ⟨X2, hS2, hZ2, ho2⟩ := rebS hSi (by rw [eT]; exact hk0) X' hS' hgr hZ hown
  exact Gl.via st (q v T' T'.heap ⟨_, T'.vm, T'.heap.size, X2, rfl, Fr.app N NL, hn0, hx, hZ2, ho2, hby, hml, hrt, hlk, hS2, Nat.le_refl _⟩ hQ)
theorem Gl.callP (Y : Sd Z own bs mx ret n0 p l e R s m args below meth c T h k n) {y : MethodName} {bs2 : ByteArray} {mx2 : Nat} {ret2 : Option FieldType} {rm : Room} {as : Array Value} {Q : Option Value → Heap → Prop} {i : Nat} {C : String} {kk : Nat} {argsL rest : List Value} {a : Addr} (w1 : (Jvm.Cond.methodLink own i y).before a0 Z = true) (w2 : (Jvm.Cond.instanceMethod y).before a0 Z = true) (wp : (Jvm.Cond.privateMethod y).before a0 Z = true) (wi : (Jvm.Cond.instantiable y.cls kk).before a0 Z = true) (w3 : (Jvm.Cond.initialized y.cls).before a0 Z = true) (w4 : (Jvm.Cond.code y bs2 mx2 ret2).before a0 Z = true) (hy : y.cls ≠ "java/lang/invoke/MethodHandle" ∧ y.cls ≠ "java/lang/invoke/VarHandle") (E : Exa Z h a C) (hM : OMet l Z [] y bs2 mx2 ret2 rm as h n0 Q) (has : (.ref a :: argsL).toArray = as) (hS : S = argsL.reverse ++ .ref a :: rest) (hlen : ∀ sig, parseMethodDescriptor y.desc = some sig → argsL.length = sig.parameters.length) (hL : L.size = mx) (hf : rm.frames + 1 ≤ R.frames) (hl : (rest.map fun v => v.category).sum + (mx2 + 11) + rm.locals ≤ R.locals) (hc : k + rm.cells ≤ R.cells) (hs : n + rm.slots ≤ R.slots) (hd : decode bs pc = .ok (.invokevirtual i, 3)) (hp : pc + 3 = pc') (q : ∀ v T' h', Sd Z own bs mx ret n0 p l e R s m args below meth c T' h' (k + rm.cells) (n + rm.slots) → Q v h' → Gl p e below P (T'.setTop (mkF m pc' L (v.toList ++ rest)))) : Gl p e below P (T.setTop (mkF m pc L S)) := by
  obtain ⟨locs, vm0, k0, X, eT, N, hn0, hx, hZ, hown, hby, hml, hrt, hlk, hSi, hk0⟩ := Y
  subst hp has hS
  obtain ⟨cq, qa, qb⟩ := E.cell
  have hpr := Cond.privateMethod_at (mvP hZ wp (args := #[]))
  obtain ⟨c1, k1, i1, i2, -, i4, -⟩ := Cond.instantiable_spec (mv (args := args) hZ wi)
  have i5 : k1.isInterface = false := by cases hi : k1.isInterface <;> simp [hi] at i4 ⊢
  have hsel := selects_self_of_private (args := args) i1 i2 i5 hpr (mvT hZ w2) hy
  obtain ⟨v, vm₁, ⟨T', L', k', n'⟩, -, X', hS', hgr, hB, st⟩ := X.privateBackS hx (y := y) hown (mvT hZ w1) (mvT hZ w2) hsel hpr (mvT hZ w4) hy (backOfS (Q := fun v h' L => Q v h' ∧ Fr n0 L) (W := (rest.map fun v => v.category).sum) (OMet.un hM) hZ w4 w3 hf hl) (g := mkF m pc L (argsL.reverse ++ .ref a :: rest)) rfl (by rw [hml]; exact hL) (Steps.refl _) (a := a) (by rw [eT]; exact qa) qb (argsL := argsL) (rest := rest) hlen rfl (by show 2 * 0 + _ ≤ _; omega) (hb hby hd) (fun _ _ => ⟨rfl, eT, hc, hs⟩)
  obtain ⟨Lc, ⟨hQ, NL⟩, l1, l2, l3⟩ := hB
  dsimp only [Pt.U, Pt.locs, Pt.cells, Pt.slots] at X' hS' hgr l1 l2 l3 st hQ
  subst l1 l2 l3
  obtain ⟨X2, hS2, hZ2, ho2⟩ := rebS hSi (by rw [eT]; exact hk0) X' hS' hgr hZ hown
  exact Gl.via st (q v T' T'.heap ⟨_, T'.vm, T'.heap.size, X2, rfl, Fr.app N NL, hn0, hx, hZ2, ho2, hby, hml, hrt, hlk, hS2, Nat.le_refl _⟩ hQ)
theorem Gl.fin (Y : Sd Z own bs mx ret n0 p l e R s m args below meth c T h k n) {K M : Nat} {Q : Option Value → Heap → Prop} (hk : k ≤ K) (hm : n ≤ M) {g : JFrame} {v : Option Value} (hv : ret = none → v = none) (st : ∀ fs, (∀ (f : JFrame) (acts : List Action), f.method = m → f.locked = none → f.entered = [] → (doReturn e (T.setTop f) acts v).1 = T.setFrames fs) → Steps p.tables e below (T.setTop g) (T.setFrames fs)) (hQ : Q v h) : Gl p e below (Pst s n0 K M Q) (T.setTop g) := by
  obtain ⟨locs, vm0, k0, X, eT, N, hn0, hx, hZ, hown, hby, hml, hrt, hlk, hSi, hk0⟩ := Y
  obtain ⟨fs, hr, hrun, hended, hW⟩ := X.leaveW hSi (by rw [eT]; exact hk0) (v := v) (fun q => hv (hrt.symm.trans q)) hlk
  exact ⟨_, _, st fs hr, hrun, hended, v, locs, rfl, ⟨by show Q v T.heap; rw [eT]; exact hQ, N⟩, hW.1, hW.2.1, hW.2.2.1, hW.2.2.2.mono hk hm⟩
theorem Gl.retV (Y : Sd Z own bs mx none n0 p l e R s m args below meth c T h k n) {K M : Nat} {Q : Option Value → Heap → Prop} (hk : k ≤ K) (hm : n ≤ M)  (hd : decode bs pc = .ok (.return_, 1)) (hQ : Q none h) : Gl p e below (Pst s n0 K M Q) (T.setTop (mkF m pc L [])) := by
  have Y0 := Y
  obtain ⟨locs, vm0, k0, X, eT, N, hn0, hx, hZ, hown, hby, hml, hrt, hlk, hSi, hk0⟩ := Y
  exact Gl.fin Y0 hk hm (v := none) (fun q => by first | rfl | cases q) (fun fs hr => X.returnOut hx hrt (hb hby hd) hr) hQ
theorem Gl.retI (Y : Sd Z own bs mx (some .int) n0 p l e R s m args below meth c T h k n) {K M : Nat} {Q : Option Value → Heap → Prop} (hk : k ≤ K) (hm : n ≤ M) {x : Int32} (hd : decode bs pc = .ok (.ireturn, 1)) (hQ : Q (some (.int x)) h) : Gl p e below (Pst s n0 K M Q) (T.setTop (mkF m pc L (.int x :: S))) := by
  have Y0 := Y
  obtain ⟨locs, vm0, k0, X, eT, N, hn0, hx, hZ, hown, hby, hml, hrt, hlk, hSi, hk0⟩ := Y
  exact Gl.fin Y0 hk hm (v := (some (.int x))) (fun q => by first | rfl | cases q) (fun fs hr => retOut X hx hrt rfl (Or.inl ⟨rfl, Or.inl rfl, x, rfl⟩) (hb hby hd) hr) hQ
theorem Gl.retJ (Y : Sd Z own bs mx (some .long) n0 p l e R s m args below meth c T h k n) {K M : Nat} {Q : Option Value → Heap → Prop} (hk : k ≤ K) (hm : n ≤ M) {x : Int64} (hd : decode bs pc = .ok (.lreturn, 1)) (hQ : Q (some (.long x)) h) : Gl p e below (Pst s n0 K M Q) (T.setTop (mkF m pc L (.long x :: S))) := by
  have Y0 := Y
  obtain ⟨locs, vm0, k0, X, eT, N, hn0, hx, hZ, hown, hby, hml, hrt, hlk, hSi, hk0⟩ := Y
  exact Gl.fin Y0 hk hm (v := (some (.long x))) (fun q => by first | rfl | cases q) (fun fs hr => retOut X hx hrt rfl (Or.inr (Or.inl ⟨rfl, rfl, x, rfl⟩)) (hb hby hd) hr) hQ
theorem Gl.retA (Y : Sd Z own bs mx (some t) n0 p l e R s m args below meth c T h k n) {K M : Nat} {Q : Option Value → Heap → Prop} (hk : k ≤ K) (hm : n ≤ M) {x : Value} (ht : t.isReference = true) (hxr : x.isRef = true) (hd : decode bs pc = .ok (.areturn, 1)) (hQ : Q (some x) h) : Gl p e below (Pst s n0 K M Q) (T.setTop (mkF m pc L (x :: S))) := by
  have Y0 := Y
  obtain ⟨locs, vm0, k0, X, eT, N, hn0, hx, hZ, hown, hby, hml, hrt, hlk, hSi, hk0⟩ := Y
  exact Gl.fin Y0 hk hm (v := (some x)) (fun q => by first | rfl | cases q) (fun fs hr => retOut X hx hrt (own_narR hxr) (Or.inr (Or.inr (Or.inr (Or.inr ⟨rfl, ht, hxr⟩)))) (hb hby hd) hr) hQ
theorem Gl.retZ (Y : Sd Z own bs mx (some .boolean) n0 p l e R s m args below meth c T h k n) {K M : Nat} {Q : Option Value → Heap → Prop} (hk : k ≤ K) (hm : n ≤ M) {x x' : Int32} (hxn : nar .boolean x = x') (hd : decode bs pc = .ok (.ireturn, 1)) (hQ : Q (some (.int x')) h) : Gl p e below (Pst s n0 K M Q) (T.setTop (mkF m pc L (.int x :: S))) := by
  have Y0 := Y
  obtain ⟨locs, vm0, k0, X, eT, N, hn0, hx, hZ, hown, hby, hml, hrt, hlk, hSi, hk0⟩ := Y
  exact Gl.fin Y0 hk hm (v := (some (.int x'))) (fun q => by first | rfl | cases q) (fun fs hr => retN X hx (t := .boolean) hrt (by simp) (hb hby hd) (by rw [hxn]; exact hr)) hQ
theorem Gl.retB (Y : Sd Z own bs mx (some .byte) n0 p l e R s m args below meth c T h k n) {K M : Nat} {Q : Option Value → Heap → Prop} (hk : k ≤ K) (hm : n ≤ M) {x x' : Int32} (hxn : nar .byte x = x') (hd : decode bs pc = .ok (.ireturn, 1)) (hQ : Q (some (.int x')) h) : Gl p e below (Pst s n0 K M Q) (T.setTop (mkF m pc L (.int x :: S))) := by
  have Y0 := Y
  obtain ⟨locs, vm0, k0, X, eT, N, hn0, hx, hZ, hown, hby, hml, hrt, hlk, hSi, hk0⟩ := Y
  exact Gl.fin Y0 hk hm (v := (some (.int x'))) (fun q => by first | rfl | cases q) (fun fs hr => retN X hx (t := .byte) hrt (by simp) (hb hby hd) (by rw [hxn]; exact hr)) hQ
theorem Gl.retC (Y : Sd Z own bs mx (some .char) n0 p l e R s m args below meth c T h k n) {K M : Nat} {Q : Option Value → Heap → Prop} (hk : k ≤ K) (hm : n ≤ M) {x x' : Int32} (hxn : nar .char x = x') (hd : decode bs pc = .ok (.ireturn, 1)) (hQ : Q (some (.int x')) h) : Gl p e below (Pst s n0 K M Q) (T.setTop (mkF m pc L (.int x :: S))) := by
  have Y0 := Y
  obtain ⟨locs, vm0, k0, X, eT, N, hn0, hx, hZ, hown, hby, hml, hrt, hlk, hSi, hk0⟩ := Y
  exact Gl.fin Y0 hk hm (v := (some (.int x'))) (fun q => by first | rfl | cases q) (fun fs hr => retN X hx (t := .char) hrt (by simp) (hb hby hd) (by rw [hxn]; exact hr)) hQ
theorem Gl.retSh (Y : Sd Z own bs mx (some .short) n0 p l e R s m args below meth c T h k n) {K M : Nat} {Q : Option Value → Heap → Prop} (hk : k ≤ K) (hm : n ≤ M) {x x' : Int32} (hxn : nar .short x = x') (hd : decode bs pc = .ok (.ireturn, 1)) (hQ : Q (some (.int x')) h) : Gl p e below (Pst s n0 K M Q) (T.setTop (mkF m pc L (.int x :: S))) := by
  have Y0 := Y
  obtain ⟨locs, vm0, k0, X, eT, N, hn0, hx, hZ, hown, hby, hml, hrt, hlk, hSi, hk0⟩ := Y
  exact Gl.fin Y0 hk hm (v := (some (.int x'))) (fun q => by first | rfl | cases q) (fun fs hr => retN X hx (t := .short) hrt (by simp) (hb hby hd) (by rw [hxn]; exact hr)) hQ
theorem Gl.ldcS (Y : Sd Z own bs mx ret n0 p l e R s m args below meth c T h k n) {i w : Nat} {text : String} (wl : (Jvm.Cond.stringLink own i text).before a0 Z = true) (wS : ∀ a ∈ Bundle.stringAtoms, a.before a0 Z = true) (hn : 4 * text.toList.length ≤ w) (hbig : w ≤ 536870912) (hc : k + 2 ≤ R.cells) (hl : n + (w + 4) ≤ R.slots) (hd : decode bs pc = .ok (.ldc i, 2)) (hp : pc + 2 = pc') (q : ∀ T' h' a, Sd Z own bs mx ret n0 p l e R s m args below meth c T' h' (k + 2) (n + (w + 4)) → Ext h h' → Gl p e below P (T'.setTop (mkF m pc' L (.ref a :: S)))) : Gl p e below P (T.setTop (mkF m pc L S)) := by
  obtain ⟨locs, vm0, k0, X, eT, N, hn0, hx, hZ, hown, hby, hml, hrt, hlk, hSi, hk0⟩ := Y
  subst hp
  obtain ⟨a, T', h', k1, X', e', E, s1, s2, s3, s4, st⟩ := Jvm.RoadKit.ldcS X hx hZ hown wl wS eT hSi hk0 (g := mkF m pc L S) rfl (hb hby hd) hn hbig hc hl
  exact (q T' h' a ⟨locs, T'.vm, k1, X', e', N, hn0, hx, s3, s4, hby, hml, hrt, hlk, s1, s2⟩ E).of1 st
theorem Gl.ldcV (Y : Sd Z own bs mx ret n0 p l e R s m args below meth c T h k n) (hh0 : s.heap = h) (hi0 : s.vm.interned = Z.vm.interned) (hnn : h.size = n0) (hkeep : ∀ (b : Addr) (cl : Cell), Z.heap[b]? = some cl → h[b]? = some cl) {i w : Nat} {text : String} {vs : List Value} {z : Int32} (wl : (Jvm.Cond.stringLink own i text).before a0 Z = true) (wS : ∀ a ∈ Bundle.stringAtoms, a.before a0 Z = true) (hheld : Jvm.Lit.constHeld Z own i) (hcw : Jvm.Lit.compactW.before a0 Z = true) (ht : (∀ c ∈ text.toList, c.toNat < 256) ∧ text.toList.map (fun c => Value.int (Jvm.Lit.byteI c.toNat.toUInt16)) = vs) (hz : ¬ z < 0) (hzl : z.toNatClampNeg = vs.length) (hn : 4 * text.toList.length ≤ w) (hbig : w ≤ 536870912) (hc : k + 2 ≤ R.cells) (hl : n + (w + 4) ≤ R.slots) (hd : decode bs pc = .ok (.ldc i, 2)) (hp : pc + 2 = pc') (q : ∀ T' h' a b ck, Sd Z own bs mx ret n0 p l e R s m args below meth c T' h' (k + 2) (n + (w + 4)) → Ext h h' → Exa Z h' a "java/lang/String" → Fld Z h' a "java/lang/String" "coder" "B" (.int 0) → Fld Z h' a "java/lang/String" "value" "[B" (.ref b) → Arv Z h' b ck .byte z vs (.int 0) → Gl p e below P (T'.setTop (mkF m pc' L (.ref a :: S)))) : Gl p e below P (T.setTop (mkF m pc L S)) := by
  obtain ⟨locs, vm0, k0, X, eT, N, hn0, hx, hZ, hown, hby, hml, hrt, hlk, hSi, hk0⟩ := Y
  subst hp
  have hI : IB Z vm0 [] := by
    have e1 := hSi.same_table (by rw [hh0]; exact hk0)
    exact ⟨#[], by rw [e1, hi0]; simp, fun q hq => by simp at hq⟩
  obtain ⟨a, T', h', k1, b, ck, X', e', E, s1, s2, s3, s4, f1, f2, f3, f4, -, -, -, st⟩ := Jvm.RoadKit.ldcSV X hx hZ hown wl wS eT hSi hk0 (by rw [hh0, hnn]; exact N) (fun b cl hb => by rw [hh0]; exact hkeep b cl hb) hI (by simp) hheld hcw ht hz hzl (g := mkF m pc L S) rfl (hb hby hd) hn hbig hc hl
  exact (q T' h' a b ck ⟨locs, T'.vm, k1, X', e', N, hn0, hx, s3, s4, hby, hml, hrt, hlk, s1, s2⟩ E f1 f2 f3 f4).of1 st
def MetL (l : Launch) (Z : State) (ws : List Jvm.Cond) (y : MethodName) (bs : ByteArray) (mx : Nat) (ret : Option FieldType) (rm : Room) (as : Array Value) (h : Heap) (n0 : Nat) (Q : Option Value → Heap → Prop) : Prop :=
  MetFree l y (head1 (Jvm.Cond.code y bs mx ret :: ws) rm) (fun a U => a = as ∧ Z.Warmed39 U.vm ∧ U.heap = h ∧ U.vm.interned = Z.vm.interned) (fun _ _ _ _ _ => True) (fun _ U o U' => ∃ v L, o = .returned v ∧ (Q v U'.heap ∧ Fr n0 L) ∧ ReturnedEndW U o U' L rm.cells rm.slots)
theorem MetL.of {ws : List Jvm.Cond} {y : MethodName} {rm : Room} {as : Array Value} {Q : Option Value → Heap → Prop} (hpl : plainFor y = true) (hef : ∀ m, entryFrame m as mx = mkF m 0 L []) (hn : n0 ≤ h.size)
    (body : ∀ p e s m below meth c T, Sd Z y.cls bs mx ret n0 p l e rm s m as below meth c T h 0 0 → meth.name = y.name → s.heap = h → s.vm.interned = Z.vm.interned → Gl p e below (Pst s n0 rm.cells rm.slots Q) (T.setTop (mkF m 0 L []))) : MetL l Z ws y bs mx ret rm as h n0 Q := by
  refine MetFree.of_bodySF hpl hisR ?_
  intro p e s m args below meth c s₁ Bd hml0 hP hK
  obtain ⟨rfl, hZ, hh, hi⟩ := hP
  have e0 : s₁.heap = h := by rw [← hh, Bd.state]; rfl
  obtain ⟨t, o, h1, h2, h3, h4⟩ := body p e s m below meth c s₁ ⟨[], s.vm, s.heap.size, Stand.of_body Bd, e0, Fr.nil n0, by rw [hh]; exact hn, Bd.exec, hZ, findClass_of_methodNamed Bd.named, Bd.bytes, hml0, Bd.returns, Bd.notSynchronized, own_since s, Nat.le_of_eq (by rw [hh])⟩ (name_of_methodNamed Bd.named Bd.method).1 hh hi
  exact ⟨t, o, castTop (hef m) h1, h2, h3, h4⟩
end Kit
end Jvm.OwnWW


namespace Jvm.Pilot.@@N@@
open Jvm Jvm.ClassFile Sem Op Lib Jvm.Free Jvm.Stand Jvm.LawKit Jvm.RoadKit Bundle Jvm.OwnWW Jvm.Pilot.@@N@@.Jvm.D
def own_pages (t : Int64) (k : Int32) : Int64 := if k = 0 then (if t = 0 then 0 else 1) else t / k.toInt64 + (if t % k.toInt64 = 0 then (0 : Int32) else 1).toInt64
theorem own_nz {k : Int32} (q : ¬ k = 0) : k.toInt64 ≠ 0 := by
  intro h
  have := congrArg Int64.toInt h
  rw [Int32.toInt_toInt64] at this
  exact q (Int32.toInt_inj.mp (by simpa using this))
theorem own_law (t : Int64) (k : Int32) (ht : 0 ≤ t.toInt) (hk : 0 ≤ k.toInt) : own_pages t k = (if t = 0 then 0 else if k = 0 then 1 else (t - 1) / k.toInt64 + 1) := by
  unfold own_pages
  by_cases hk0 : k = 0
  · rw [if_pos hk0, if_pos hk0]
  by_cases ht0 : t = 0
  · subst ht0
    rw [if_neg hk0, if_pos rfl]
    have h1 : (0 : Int64) / k.toInt64 = 0 := by simp
    have h2 : (0 : Int64) % k.toInt64 = 0 := by simp
    rw [h1, h2, if_pos rfl]; rfl
  rw [if_neg hk0, if_neg ht0, if_neg hk0]
  have kk : 0 < k.toInt := by
    have : k.toInt ≠ 0 := fun q => hk0 (Int32.toInt_inj.mp (by simpa using q))
    omega
  have tt : 0 < t.toInt := by
    have : t.toInt ≠ 0 := fun q => ht0 (Int64.toInt_inj.mp (by simpa using q))
    omega
  have e0 : k.toInt64.toInt = k.toInt := c_i2l k
  have n1 : k.toInt64 ≠ -1 := fun q => by have := congrArg Int64.toInt q; rw [e0] at this; simp at this; omega
  have e1 := (c_ldiv t k.toInt64 k.toInt e0 n1).1 (by omega)
  have e2 : (t % k.toInt64).toInt = t.toInt % k.toInt := by rw [Int64.toInt_mod, e0]; exact (tr _ _).1 (by omega)
  have e3 : (t - 1).toInt = t.toInt - 1 := by
    have := c_lsub t 1; have := rng64 (t - 1); have := rng64 t; simp at *; omega
  have e4 := (c_ldiv (t - 1) k.toInt64 k.toInt e0 n1).1 (by omega)
  have e5 : (t % k.toInt64 = 0) ↔ t.toInt % k.toInt = 0 := by rw [← e2, ← Int64.toInt_inj]; simp
  have rt := rng64 t
  have b1 : 0 ≤ t.toInt / k.toInt := Int.ediv_nonneg (by omega) (by omega)
  have b2 : t.toInt / k.toInt ≤ t.toInt := Int.ediv_le_self _ (by omega)
  have b3 : 0 ≤ (t.toInt - 1) / k.toInt := Int.ediv_nonneg (by omega) (by omega)
  have b4 : (t.toInt - 1) / k.toInt ≤ t.toInt - 1 := Int.ediv_le_self _ (by omega)
  apply Int64.toInt_inj.mp
  have key : (t.toInt - 1) / k.toInt + 1 = t.toInt / k.toInt + (if t.toInt % k.toInt = 0 then 0 else 1) := by
    have d1 := Int.mul_ediv_add_emod t.toInt k.toInt
    have d2 := Int.mul_ediv_add_emod (t.toInt - 1) k.toInt
    have m1 := Int.emod_nonneg t.toInt (b := k.toInt) (by omega)
    have m2 := Int.emod_lt_of_pos t.toInt kk
    have m3 := Int.emod_nonneg (t.toInt - 1) (b := k.toInt) (by omega)
    have m4 := Int.emod_lt_of_pos (t.toInt - 1) kk
    generalize t.toInt / k.toInt = A at *
    generalize (t.toInt - 1) / k.toInt = B at *
    generalize t.toInt % k.toInt = u at *
    generalize (t.toInt - 1) % k.toInt = w at *
    split
    · rename_i hu
      have e : k.toInt * (A - B) = 1 + w := by rw [Int.mul_sub]; omega
      have : A - B = 1 := by
        rcases Int.lt_trichotomy (A - B) 1 with q | q | q
        · have : k.toInt * (A - B) ≤ k.toInt * 0 := Int.mul_le_mul_of_nonneg_left (by omega) (by omega)
          omega
        · exact q
        · have : k.toInt * 2 ≤ k.toInt * (A - B) := Int.mul_le_mul_of_nonneg_left (by omega) (by omega)
          omega
      omega
    · rename_i hu
      have e : k.toInt * (A - B) = 1 + w - u := by rw [Int.mul_sub]; omega
      have : A - B = 0 := by
        rcases Int.lt_trichotomy (A - B) 0 with q | q | q
        · have : k.toInt * (A - B) ≤ k.toInt * (-1) := Int.mul_le_mul_of_nonneg_left (by omega) (by omega)
          omega
        · exact q
        · have : k.toInt * 1 ≤ k.toInt * (A - B) := Int.mul_le_mul_of_nonneg_left (by omega) (by omega)
          omega
      omega
  have f1 := c_ladd (t / k.toInt64) (if t % k.toInt64 = 0 then (0 : Int32) else 1).toInt64
  have f2 := c_ladd ((t - 1) / k.toInt64) 1
  have f3 := rng64 (t / k.toInt64 + (if t % k.toInt64 = 0 then (0 : Int32) else 1).toInt64)
  have f4 := rng64 ((t - 1) / k.toInt64 + 1)
  have g1 : (if t % k.toInt64 = 0 then (0 : Int32) else 1).toInt64.toInt = (if t.toInt % k.toInt = 0 then 0 else 1) := by
    by_cases q : t % k.toInt64 = 0
    · rw [if_pos q, if_pos (e5.mp q)]; rfl
    · rw [if_neg q, if_neg (fun z => q (e5.mpr z))]; rfl
  rw [g1, e1] at f1
  rw [e4, e3] at f2
  simp only [Int64.reduceToInt] at f2
  split at key <;> simp_all <;> omega
theorem d_jdk_22_method_1_0 : decode jdk_22_method_1_code 0 = .ok (.aload_n 0, 1) := by decide +kernel
theorem d_jdk_22_method_1_1 : decode jdk_22_method_1_code 1 = .ok (.invokespecial 1, 3) := by decide +kernel
theorem tw_23 {a0 : Array Value} {Z : State} (hw : ∀ d ∈ tables_1, d.before a0 Z = true) : (Jvm.Cond.methodLink "java/util/AbstractCollection" (1 : Nat) ({ cls := "java/lang/Object", name := "<init>", desc := "()V" } : Jvm.MethodName)).before a0 Z = true := hw _ (List.mem_of_getElem? (i := 23) rfl)
theorem tw_24 {a0 : Array Value} {Z : State} (hw : ∀ d ∈ tables_1, d.before a0 Z = true) : (Jvm.Cond.instanceMethod ({ cls := "java/lang/Object", name := "<init>", desc := "()V" } : Jvm.MethodName)).before a0 Z = true := hw _ (List.mem_of_getElem? (i := 24) rfl)
theorem tw_25 {a0 : Array Value} {Z : State} (hw : ∀ d ∈ tables_1, d.before a0 Z = true) : (Jvm.Cond.code ({ cls := "java/lang/Object", name := "<init>", desc := "()V" } : Jvm.MethodName) object_method_1_code (1 : Nat) (Option.none : Option Jvm.ClassFile.FieldType)).before a0 Z = true := hw _ (List.mem_of_getElem? (i := 25) rfl)
theorem d_jdk_22_method_1_4 : decode jdk_22_method_1_code 4 = .ok (.return_, 1) := by decide +kernel
def R0 : Room := { frames := 1, cells := 0, slots := 0, locals := 12 }
def Q0 (Z : State) (a : Addr) (h0 : Heap) (v : Option Value) (h : Heap) : Prop := v = none ∧ h0 = h
theorem ef0 (a : Addr) (m : MethodId) : entryFrame m #[(.ref a)] 1 = mkF m 0 #[.val (.ref a)] [] := by first | (simp [entryFrame, mkF, argsToLocals, Value.category]; done) | rfl
theorem pn_0 : plainName "java/util/AbstractCollection" = true := by first | (simp [plainName, overriddenIn]; done) | decide +kernel
set_option maxRecDepth 65536 in
set_option maxHeartbeats 40000000 in
theorem rm0 (l : Launch) (Z : State) (a0 : Array Value) (hw : ∀ d ∈ tables_1, d.before a0 Z = true) (ws : List Jvm.Cond) (a : Addr) (h0 : Heap) (n0 : Nat) (Z0 : n0 ≤ h0.size) : OMet l Z ws (⟨"java/util/AbstractCollection", "<init>", "()V"⟩ : MethodName) jdk_22_method_1_code 1 none R0 #[(.ref a)] h0 n0 (Q0 Z a h0) := by
  refine OMet.of (plainFor_of_name pn_0) (ef0 a) Z0 ?_
  intro p e s m below meth c T0 Y0 hnm
  have Y0 : Sd Z "java/util/AbstractCollection" jdk_22_method_1_code 1 none n0 p l e R0 s m #[(.ref a)] below meth c T0 h0 0 0 := Y0
  refine Gl.aloadN Y0 rfl rfl d_jdk_22_method_1_0 rfl ?_
  refine Gl.initO Y0 (tw_23 hw) (tw_24 hw) (tw_25 hw) rfl (by decide) (Nat.le_of_ble_eq_true rfl) d_jdk_22_method_1_1 rfl (fun T1 Y1 => ?_)
  exact Gl.retV Y1 (by decide) (by decide)  d_jdk_22_method_1_4 ⟨rfl, rfl⟩
theorem d_jdk_39_method_1_0 : decode jdk_39_method_1_code 0 = .ok (.aload_n 0, 1) := by decide +kernel
theorem d_jdk_39_method_1_1 : decode jdk_39_method_1_code 1 = .ok (.invokespecial 1, 3) := by decide +kernel
theorem tw_17 {a0 : Array Value} {Z : State} (hw : ∀ d ∈ tables_1, d.before a0 Z = true) : (Jvm.Cond.methodLink "java/util/AbstractList" (1 : Nat) ({ cls := "java/util/AbstractCollection", name := "<init>", desc := "()V" } : Jvm.MethodName)).before a0 Z = true := hw _ (List.mem_of_getElem? (i := 17) rfl)
theorem pd_0 : parseMethodDescriptor "()V" = some ⟨[], none⟩ := by decide +kernel
theorem tw_22 {a0 : Array Value} {Z : State} (hw : ∀ d ∈ tables_1, d.before a0 Z = true) : (Jvm.Cond.code ({ cls := "java/util/AbstractCollection", name := "<init>", desc := "()V" } : Jvm.MethodName) jdk_22_method_1_code (1 : Nat) (Option.none : Option Jvm.ClassFile.FieldType)).before a0 Z = true := hw _ (List.mem_of_getElem? (i := 22) rfl)
theorem tw_21 {a0 : Array Value} {Z : State} (hw : ∀ d ∈ tables_1, d.before a0 Z = true) : (Jvm.Cond.initialized "java/util/AbstractCollection").before a0 Z = true := hw _ (List.mem_of_getElem? (i := 21) rfl)
theorem tw_18 {a0 : Array Value} {Z : State} (hw : ∀ d ∈ tables_1, d.before a0 Z = true) : (Jvm.Cond.instanceMethod ({ cls := "java/util/AbstractCollection", name := "<init>", desc := "()V" } : Jvm.MethodName)).before a0 Z = true := hw _ (List.mem_of_getElem? (i := 18) rfl)
theorem d_jdk_39_method_1_4 : decode jdk_39_method_1_code 4 = .ok (.aload_n 0, 1) := by decide +kernel
theorem d_jdk_39_method_1_5 : decode jdk_39_method_1_code 5 = .ok (.iconst 0, 1) := by decide +kernel
theorem d_jdk_39_method_1_6 : decode jdk_39_method_1_code 6 = .ok (.putfield 7, 3) := by decide +kernel
theorem tw_26 {a0 : Array Value} {Z : State} (hw : ∀ d ∈ tables_1, d.before a0 Z = true) : (Jvm.Cond.fieldLink "java/util/AbstractList" (7 : Nat) "java/util/AbstractList" "modCount" "I").before a0 Z = true := hw _ (List.mem_of_getElem? (i := 26) rfl)
theorem tw_36 {a0 : Array Value} {Z : State} (hw : ∀ d ∈ tables_1, d.before a0 Z = true) : (Jvm.Cond.lays "com/example/pagewright/pagewright/Page" "java/util/AbstractList" "modCount" "I").before a0 Z = true := hw _ (List.mem_of_getElem? (i := 36) rfl)
theorem tw_3 {a0 : Array Value} {Z : State} (hw : ∀ d ∈ tables_1, d.before a0 Z = true) : (Jvm.Cond.instantiable "com/example/pagewright/pagewright/Page" (5 : Nat)).before a0 Z = true := hw _ (List.mem_of_getElem? (i := 3) rfl)
theorem d_jdk_39_method_1_9 : decode jdk_39_method_1_code 9 = .ok (.return_, 1) := by decide +kernel
theorem tw_52 {a0 : Array Value} {Z : State} (hw : ∀ d ∈ tables_1, d.before a0 Z = true) : (Jvm.Cond.laysFinal "com/example/pagewright/pagewright/Page" "com/example/pagewright/pagewright/Page" "rows" "Ljava/util/List;").before a0 Z = true := hw _ (List.mem_of_getElem? (i := 52) rfl)
theorem tw_54 {a0 : Array Value} {Z : State} (hw : ∀ d ∈ tables_1, d.before a0 Z = true) : (Jvm.Cond.laysFinal "com/example/pagewright/pagewright/Page" "com/example/pagewright/pagewright/Page" "pageNumber" "I").before a0 Z = true := hw _ (List.mem_of_getElem? (i := 54) rfl)
theorem tw_56 {a0 : Array Value} {Z : State} (hw : ∀ d ∈ tables_1, d.before a0 Z = true) : (Jvm.Cond.laysFinal "com/example/pagewright/pagewright/Page" "com/example/pagewright/pagewright/Page" "pageSize" "I").before a0 Z = true := hw _ (List.mem_of_getElem? (i := 56) rfl)
theorem tw_58 {a0 : Array Value} {Z : State} (hw : ∀ d ∈ tables_1, d.before a0 Z = true) : (Jvm.Cond.laysFinal "com/example/pagewright/pagewright/Page" "com/example/pagewright/pagewright/Page" "total" "J").before a0 Z = true := hw _ (List.mem_of_getElem? (i := 58) rfl)
def R1 : Room := { frames := 2, cells := 0, slots := 0, locals := 24 }
def Q1 (Z : State) (a : Addr) (h0 : Heap) (v : Option Value) (h : Heap) : Prop := v = none ∧ Keep h0 h [a] ∧ Exa Z h a "com/example/pagewright/pagewright/Page" ∧ Fld Z h a "com/example/pagewright/pagewright/Page" "rows" "Ljava/util/List;" .null ∧ Fld Z h a "com/example/pagewright/pagewright/Page" "pageNumber" "I" (.int (0 : Int32)) ∧ Fld Z h a "com/example/pagewright/pagewright/Page" "pageSize" "I" (.int (0 : Int32)) ∧ Fld Z h a "com/example/pagewright/pagewright/Page" "total" "J" (.long (0 : Int64))
theorem ef1 (a : Addr) (m : MethodId) : entryFrame m #[(.ref a)] 1 = mkF m 0 #[.val (.ref a)] [] := by first | (simp [entryFrame, mkF, argsToLocals, Value.category]; done) | rfl
theorem pn_1 : plainName "java/util/AbstractList" = true := by first | (simp [plainName, overriddenIn]; done) | decide +kernel
set_option maxRecDepth 65536 in
set_option maxHeartbeats 40000000 in
theorem rm1 (l : Launch) (Z : State) (a0 : Array Value) (hw : ∀ d ∈ tables_1, d.before a0 Z = true) (ws : List Jvm.Cond) (a : Addr) (h0 : Heap) (n0 : Nat) (Z0 : n0 ≤ h0.size) (E : Exa Z h0 a "com/example/pagewright/pagewright/Page") (F1 : Fld Z h0 a "java/util/AbstractList" "modCount" "I" (.int (0 : Int32))) (G0 : Fld Z h0 a "com/example/pagewright/pagewright/Page" "rows" "Ljava/util/List;" .null) (G1 : Fld Z h0 a "com/example/pagewright/pagewright/Page" "pageNumber" "I" (.int (0 : Int32))) (G2 : Fld Z h0 a "com/example/pagewright/pagewright/Page" "pageSize" "I" (.int (0 : Int32))) (G3 : Fld Z h0 a "com/example/pagewright/pagewright/Page" "total" "J" (.long (0 : Int64))) (ga : n0 ≤ a) : OMet l Z ws (⟨"java/util/AbstractList", "<init>", "()V"⟩ : MethodName) jdk_39_method_1_code 1 none R1 #[(.ref a)] h0 n0 (Q1 Z a h0) := by
  refine OMet.of (plainFor_of_name pn_1) (ef1 a) Z0 ?_
  intro p e s m below meth c T0 Y0 hnm
  have Y0 : Sd Z "java/util/AbstractList" jdk_39_method_1_code 1 none n0 p l e R1 s m #[(.ref a)] below meth c T0 h0 0 0 := Y0
  refine Gl.aloadN Y0 rfl rfl d_jdk_39_method_1_0 rfl ?_
  refine Gl.callN Y0 rfl (tw_17 hw) (tw_18 hw) (tw_21 hw) (tw_22 hw) (by decide) (rm0 l Z a0 hw [] a h0 n0 Y0.sz) (a := a) (argsL := []) (rest := []) rfl rfl (lenOf pd_0 rfl) rfl (by decide) (Nat.le_of_ble_eq_true rfl) (by decide) (by decide) d_jdk_39_method_1_1 rfl (fun v1 T1 h1 Y1 q1 => ?_)
  obtain ⟨rfl, rfl⟩ := q1
  show Gl p e below _ (T1.setTop (mkF m 4 #[.val (.ref a)] []))
  refine Gl.aloadN Y1 rfl rfl d_jdk_39_method_1_4 rfl ?_
  refine Gl.iconst Y1 (v := (0 : Int32)) (by decide) d_jdk_39_method_1_5 rfl ?_
  refine Gl.putF Y1 (host := "") (Or.inl (tw_26 hw)) Via.refl F1 E (Or.inl (tw_36 hw)) (tw_3 hw) ga (ty := .int) (by decide) rfl rfl d_jdk_39_method_1_6 rfl (fun T6 h6 Y6 W6 => ?_)
  have f1 : Fld Z h6 a "java/util/AbstractList" "modCount" "I" (.int (0 : Int32)) := Fld.same W6 F1
  have K6 : Keep h0 h6 [a] := (Keep.refl h0 [a]).wr W6 (Or.inl (List.mem_of_getElem? (i := 0) rfl))
  have f2 : Exa Z h6 a "com/example/pagewright/pagewright/Page" := (Exa.wr W6 E)
  have f3 : Fld Z h6 a "com/example/pagewright/pagewright/Page" "rows" "Ljava/util/List;" .null := (Fld.other W6 G0 (Or.inr (slot_ne (Or.inr (tw_52 hw)) (Or.inl (tw_36 hw)) (by decide) (t := (.object "java/util/List")) (t' := .int) (by decide) (by decide))))
  have f4 : Fld Z h6 a "com/example/pagewright/pagewright/Page" "pageNumber" "I" (.int (0 : Int32)) := (Fld.other W6 G1 (Or.inr (slot_ne (Or.inr (tw_54 hw)) (Or.inl (tw_36 hw)) (by decide) (t := .int) (t' := .int) (by decide) (by decide))))
  have f5 : Fld Z h6 a "com/example/pagewright/pagewright/Page" "pageSize" "I" (.int (0 : Int32)) := (Fld.other W6 G2 (Or.inr (slot_ne (Or.inr (tw_56 hw)) (Or.inl (tw_36 hw)) (by decide) (t := .int) (t' := .int) (by decide) (by decide))))
  have f6 : Fld Z h6 a "com/example/pagewright/pagewright/Page" "total" "J" (.long (0 : Int64)) := (Fld.other W6 G3 (Or.inr (slot_ne (Or.inr (tw_58 hw)) (Or.inl (tw_36 hw)) (by decide) (t := .long) (t' := .int) (by decide) (by decide))))
  exact Gl.retV Y6 (by decide) (by decide)  d_jdk_39_method_1_9 ⟨rfl, K6, f2, f3, f4, f5, f6⟩
theorem tw_27 {a0 : Array Value} {Z : State} (hw : ∀ d ∈ tables_1, d.before a0 Z = true) : (Jvm.Cond.lays "java/util/ArrayList" "java/util/AbstractList" "modCount" "I").before a0 Z = true := hw _ (List.mem_of_getElem? (i := 27) rfl)
theorem tw_6 {a0 : Array Value} {Z : State} (hw : ∀ d ∈ tables_1, d.before a0 Z = true) : (Jvm.Cond.instantiable "java/util/ArrayList" (3 : Nat)).before a0 Z = true := hw _ (List.mem_of_getElem? (i := 6) rfl)
theorem tw_30 {a0 : Array Value} {Z : State} (hw : ∀ d ∈ tables_1, d.before a0 Z = true) : (Jvm.Cond.lays "java/util/ArrayList" "java/util/ArrayList" "elementData" "[Ljava/lang/Object;").before a0 Z = true := hw _ (List.mem_of_getElem? (i := 30) rfl)
def R2 : Room := { frames := 2, cells := 0, slots := 0, locals := 24 }
def Q2 (Z : State) (a : Addr) (h0 : Heap) (v : Option Value) (h : Heap) : Prop := v = none ∧ Keep h0 h [a] ∧ Exa Z h a "java/util/ArrayList" ∧ Fld Z h a "java/util/ArrayList" "elementData" "[Ljava/lang/Object;" .null
theorem ef2 (a : Addr) (m : MethodId) : entryFrame m #[(.ref a)] 1 = mkF m 0 #[.val (.ref a)] [] := by first | (simp [entryFrame, mkF, argsToLocals, Value.category]; done) | rfl
set_option maxRecDepth 65536 in
set_option maxHeartbeats 40000000 in
theorem rm2 (l : Launch) (Z : State) (a0 : Array Value) (hw : ∀ d ∈ tables_1, d.before a0 Z = true) (ws : List Jvm.Cond) (a : Addr) (h0 : Heap) (n0 : Nat) (Z0 : n0 ≤ h0.size) (E : Exa Z h0 a "java/util/ArrayList") (F1 : Fld Z h0 a "java/util/AbstractList" "modCount" "I" (.int (0 : Int32))) (G0 : Fld Z h0 a "java/util/ArrayList" "elementData" "[Ljava/lang/Object;" .null) (ga : n0 ≤ a) : OMet l Z ws (⟨"java/util/AbstractList", "<init>", "()V"⟩ : MethodName) jdk_39_method_1_code 1 none R2 #[(.ref a)] h0 n0 (Q2 Z a h0) := by
  refine OMet.of (plainFor_of_name pn_1) (ef2 a) Z0 ?_
  intro p e s m below meth c T0 Y0 hnm
  have Y0 : Sd Z "java/util/AbstractList" jdk_39_method_1_code 1 none n0 p l e R2 s m #[(.ref a)] below meth c T0 h0 0 0 := Y0
  refine Gl.aloadN Y0 rfl rfl d_jdk_39_method_1_0 rfl ?_
  refine Gl.callN Y0 rfl (tw_17 hw) (tw_18 hw) (tw_21 hw) (tw_22 hw) (by decide) (rm0 l Z a0 hw [] a h0 n0 Y0.sz) (a := a) (argsL := []) (rest := []) rfl rfl (lenOf pd_0 rfl) rfl (by decide) (Nat.le_of_ble_eq_true rfl) (by decide) (by decide) d_jdk_39_method_1_1 rfl (fun v1 T1 h1 Y1 q1 => ?_)
  obtain ⟨rfl, rfl⟩ := q1
  show Gl p e below _ (T1.setTop (mkF m 4 #[.val (.ref a)] []))
  refine Gl.aloadN Y1 rfl rfl d_jdk_39_method_1_4 rfl ?_
  refine Gl.iconst Y1 (v := (0 : Int32)) (by decide) d_jdk_39_method_1_5 rfl ?_
  refine Gl.putF Y1 (host := "") (Or.inl (tw_26 hw)) Via.refl F1 E (Or.inl (tw_27 hw)) (tw_6 hw) ga (ty := .int) (by decide) rfl rfl d_jdk_39_method_1_6 rfl (fun T6 h6 Y6 W6 => ?_)
  have f1 : Fld Z h6 a "java/util/AbstractList" "modCount" "I" (.int (0 : Int32)) := Fld.same W6 F1
  have K6 : Keep h0 h6 [a] := (Keep.refl h0 [a]).wr W6 (Or.inl (List.mem_of_getElem? (i := 0) rfl))
  have f2 : Exa Z h6 a "java/util/ArrayList" := (Exa.wr W6 E)
  have f3 : Fld Z h6 a "java/util/ArrayList" "elementData" "[Ljava/lang/Object;" .null := (Fld.other W6 G0 (Or.inr (slot_ne (Or.inl (tw_30 hw)) (Or.inl (tw_27 hw)) (by decide) (t := (.array (.object "java/lang/Object"))) (t' := .int) (by decide) (by decide))))
  exact Gl.retV Y6 (by decide) (by decide)  d_jdk_39_method_1_9 ⟨rfl, K6, f2, f3⟩
theorem d_jdk_38_method_2_0 : decode jdk_38_method_2_code 0 = .ok (.aload_n 0, 1) := by decide +kernel
theorem d_jdk_38_method_2_1 : decode jdk_38_method_2_code 1 = .ok (.invokespecial 1, 3) := by decide +kernel
theorem tw_11 {a0 : Array Value} {Z : State} (hw : ∀ d ∈ tables_1, d.before a0 Z = true) : (Jvm.Cond.methodLink "java/util/ArrayList" (1 : Nat) ({ cls := "java/util/AbstractList", name := "<init>", desc := "()V" } : Jvm.MethodName)).before a0 Z = true := hw _ (List.mem_of_getElem? (i := 11) rfl)
theorem tw_16 {a0 : Array Value} {Z : State} (hw : ∀ d ∈ tables_1, d.before a0 Z = true) : (Jvm.Cond.code ({ cls := "java/util/AbstractList", name := "<init>", desc := "()V" } : Jvm.MethodName) jdk_39_method_1_code (1 : Nat) (Option.none : Option Jvm.ClassFile.FieldType)).before a0 Z = true := hw _ (List.mem_of_getElem? (i := 16) rfl)
theorem tw_15 {a0 : Array Value} {Z : State} (hw : ∀ d ∈ tables_1, d.before a0 Z = true) : (Jvm.Cond.initialized "java/util/AbstractList").before a0 Z = true := hw _ (List.mem_of_getElem? (i := 15) rfl)
theorem tw_12 {a0 : Array Value} {Z : State} (hw : ∀ d ∈ tables_1, d.before a0 Z = true) : (Jvm.Cond.instanceMethod ({ cls := "java/util/AbstractList", name := "<init>", desc := "()V" } : Jvm.MethodName)).before a0 Z = true := hw _ (List.mem_of_getElem? (i := 12) rfl)
theorem d_jdk_38_method_2_4 : decode jdk_38_method_2_code 4 = .ok (.aload_n 0, 1) := by decide +kernel
theorem d_jdk_38_method_2_5 : decode jdk_38_method_2_code 5 = .ok (.getstatic 39, 3) := by decide +kernel
theorem tw_28 {a0 : Array Value} {Z : State} (hw : ∀ d ∈ tables_1, d.before a0 Z = true) : (Jvm.Cond.fieldLink "java/util/ArrayList" (39 : Nat) "java/util/ArrayList" "DEFAULTCAPACITY_EMPTY_ELEMENTDATA" "[Ljava/lang/Object;").before a0 Z = true := hw _ (List.mem_of_getElem? (i := 28) rfl)
theorem d_jdk_38_method_2_8 : decode jdk_38_method_2_code 8 = .ok (.putfield 9, 3) := by decide +kernel
theorem tw_29 {a0 : Array Value} {Z : State} (hw : ∀ d ∈ tables_1, d.before a0 Z = true) : (Jvm.Cond.fieldLink "java/util/ArrayList" (9 : Nat) "java/util/ArrayList" "elementData" "[Ljava/lang/Object;").before a0 Z = true := hw _ (List.mem_of_getElem? (i := 29) rfl)
theorem d_jdk_38_method_2_11 : decode jdk_38_method_2_code 11 = .ok (.return_, 1) := by decide +kernel
def R3 : Room := { frames := 3, cells := 0, slots := 0, locals := 36 }
def Q3 (Z : State) (a : Addr) (dc : Addr) (h0 : Heap) (v : Option Value) (h : Heap) : Prop := v = none ∧ Keep h0 h [a] ∧ Exa Z h a "java/util/ArrayList"
theorem ef3 (a : Addr) (m : MethodId) : entryFrame m #[(.ref a)] 1 = mkF m 0 #[.val (.ref a)] [] := by first | (simp [entryFrame, mkF, argsToLocals, Value.category]; done) | rfl
theorem pn_2 : plainName "java/util/ArrayList" = true := by first | (simp [plainName, overriddenIn]; done) | decide +kernel
set_option maxRecDepth 65536 in
set_option maxHeartbeats 40000000 in
theorem rm3 (l : Launch) (Z : State) (a0 : Array Value) (hw : ∀ d ∈ tables_1, d.before a0 Z = true) (ws : List Jvm.Cond) (a : Addr) (dc : Addr) (h0 : Heap) (n0 : Nat) (Z0 : n0 ≤ h0.size) (O : Old Z n0 h0) (S : Sta Z Z.heap "java/util/ArrayList" "DEFAULTCAPACITY_EMPTY_ELEMENTDATA" "[Ljava/lang/Object;" (.ref dc)) (E : Exa Z h0 a "java/util/ArrayList") (F1 : Fld Z h0 a "java/util/AbstractList" "modCount" "I" (.int (0 : Int32))) (F2 : Fld Z h0 a "java/util/ArrayList" "elementData" "[Ljava/lang/Object;" .null) (ga : n0 ≤ a) : OMet l Z ws (⟨"java/util/ArrayList", "<init>", "()V"⟩ : MethodName) jdk_38_method_2_code 1 none R3 #[(.ref a)] h0 n0 (Q3 Z a dc h0) := by
  refine OMet.of (plainFor_of_name pn_2) (ef3 a) Z0 ?_
  intro p e s m below meth c T0 Y0 hnm
  have Y0 : Sd Z "java/util/ArrayList" jdk_38_method_2_code 1 none n0 p l e R3 s m #[(.ref a)] below meth c T0 h0 0 0 := Y0
  refine Gl.aloadN Y0 rfl rfl d_jdk_38_method_2_0 rfl ?_
  refine Gl.callN Y0 rfl (tw_11 hw) (tw_12 hw) (tw_15 hw) (tw_16 hw) (by decide) (rm2 l Z a0 hw [] a h0 n0 Y0.sz E F1 F2 ga) (a := a) (argsL := []) (rest := []) rfl rfl (lenOf pd_0 rfl) rfl (by decide) (Nat.le_of_ble_eq_true rfl) (by decide) (by decide) d_jdk_38_method_2_1 rfl (fun v1 T1 h1 Y1 q1 => ?_)
  obtain ⟨rfl, K1, f1_0, f1_1⟩ := q1
  have KK1 : Keep h0 h1 [a] := (Keep.refl h0 [a]).trans K1 (allS (Or.inl (List.mem_of_getElem? (i := 0) rfl)) all0)
  show Gl p e below _ (T1.setTop (mkF m 4 #[.val (.ref a)] []))
  refine Gl.aloadN Y1 rfl rfl d_jdk_38_method_2_4 rfl ?_
  have f1 : Old Z n0 h1 := (O.keep K1 (allS ga all0))
  refine Gl.getS Y1 (host := "") (Or.inl (tw_28 hw)) Via.refl (Sta.ext f1.2 S) d_jdk_38_method_2_5 rfl (fun T5 Y5 => ?_)
  refine Gl.putF Y5 (host := "") (Or.inl (tw_29 hw)) Via.refl f1_1 f1_0 (Or.inl (tw_30 hw)) (tw_6 hw) ga (ty := (.array (.object "java/lang/Object"))) (by decide) rfl rfl d_jdk_38_method_2_8 rfl (fun T8 h8 Y8 W8 => ?_)
  have f2 : Fld Z h8 a "java/util/ArrayList" "elementData" "[Ljava/lang/Object;" (.ref dc) := Fld.same W8 f1_1
  have K8 : Keep h0 h8 [a] := KK1.wr W8 (Or.inl (List.mem_of_getElem? (i := 0) rfl))
  have f3 : Exa Z h8 a "java/util/ArrayList" := (Exa.wr W8 f1_0)
  exact Gl.retV Y8 (by decide) (by decide)  d_jdk_38_method_2_11 ⟨rfl, K8, f3⟩
theorem d_jdk_31_method_11_0 : decode jdk_31_method_11_code 0 = .ok (.aload_n 0, 1) := by decide +kernel
theorem d_jdk_31_method_11_1 : decode jdk_31_method_11_code 1 = .ok (.ifnonnull 12, 3) := by decide +kernel
theorem d_jdk_31_method_11_13 : decode jdk_31_method_11_code 13 = .ok (.aload_n 0, 1) := by decide +kernel
theorem d_jdk_31_method_11_14 : decode jdk_31_method_11_code 14 = .ok (.areturn, 1) := by decide +kernel
def R4 : Room := { frames := 0, cells := 0, slots := 0, locals := 0 }
def Q4 (Z : State) (a : Addr) (b : Addr) (h0 : Heap) (v : Option Value) (h : Heap) : Prop := v = some (.ref a) ∧ h0 = h
theorem ef4 (a : Addr) (b : Addr) (m : MethodId) : entryFrame m #[(.ref a), (.ref b)] 2 = mkF m 0 #[.val (.ref a), .val (.ref b)] [] := by first | (simp [entryFrame, mkF, argsToLocals, Value.category]; done) | rfl
theorem pn_3 : plainName "java/util/Objects" = true := by first | (simp [plainName, overriddenIn]; done) | decide +kernel
set_option maxRecDepth 65536 in
set_option maxHeartbeats 40000000 in
theorem rm4 (l : Launch) (Z : State) (a0 : Array Value) (hw : ∀ d ∈ tables_1, d.before a0 Z = true) (ws : List Jvm.Cond) (a : Addr) (b : Addr) (h0 : Heap) (n0 : Nat) (Z0 : n0 ≤ h0.size) : OMet l Z ws (⟨"java/util/Objects", "requireNonNull", "(Ljava/lang/Object;Ljava/lang/String;)Ljava/lang/Object;"⟩ : MethodName) jdk_31_method_11_code 2 (some (.object "java/lang/Object")) R4 #[(.ref a), (.ref b)] h0 n0 (Q4 Z a b h0) := by
  refine OMet.of (plainFor_of_name pn_3) (ef4 a b) Z0 ?_
  intro p e s m below meth c T0 Y0 hnm
  have Y0 : Sd Z "java/util/Objects" jdk_31_method_11_code 2 (some (.object "java/lang/Object")) n0 p l e R4 s m #[(.ref a), (.ref b)] below meth c T0 h0 0 0 := Y0
  refine Gl.aloadN Y0 rfl rfl d_jdk_31_method_11_0 rfl ?_
  refine Gl.ifnonnullY Y0 d_jdk_31_method_11_1 (by decide) rfl ?_
  refine Gl.aloadN Y0 rfl rfl d_jdk_31_method_11_13 rfl ?_
  exact Gl.retA Y0 (by decide) (by decide) rfl rfl d_jdk_31_method_11_14 ⟨rfl, rfl⟩
theorem d_prog_1_method_1_0 : decode prog_1_method_1_code 0 = .ok (.aload_n 0, 1) := by decide +kernel
theorem d_prog_1_method_1_1 : decode prog_1_method_1_code 1 = .ok (.invokespecial 1, 3) := by decide +kernel
theorem tw_34 {a0 : Array Value} {Z : State} (hw : ∀ d ∈ tables_1, d.before a0 Z = true) : (Jvm.Cond.methodLink "com/example/pagewright/pagewright/Page" (1 : Nat) ({ cls := "java/util/AbstractList", name := "<init>", desc := "()V" } : Jvm.MethodName)).before a0 Z = true := hw _ (List.mem_of_getElem? (i := 34) rfl)
theorem d_prog_1_method_1_4 : decode prog_1_method_1_code 4 = .ok (.aload_n 0, 1) := by decide +kernel
theorem d_prog_1_method_1_5 : decode prog_1_method_1_code 5 = .ok (.aload_n 1, 1) := by decide +kernel
theorem d_prog_1_method_1_6 : decode prog_1_method_1_code 6 = .ok (.ldc 7, 2) := by decide +kernel
theorem tw_37 {a0 : Array Value} {Z : State} (hw : ∀ d ∈ tables_1, d.before a0 Z = true) : (Jvm.Cond.stringLink "com/example/pagewright/pagewright/Page" (7 : Nat) "The paged call returned null, not a list").before a0 Z = true := hw _ (List.mem_of_getElem? (i := 37) rfl)
theorem tw_38 {a0 : Array Value} {Z : State} (hw : ∀ d ∈ tables_1, d.before a0 Z = true) : (Jvm.Cond.initialized "java/lang/String").before a0 Z = true := hw _ (List.mem_of_getElem? (i := 38) rfl)
theorem tw_39 {a0 : Array Value} {Z : State} (hw : ∀ d ∈ tables_1, d.before a0 Z = true) : (Jvm.Cond.instantiable "java/lang/String" (4 : Nat)).before a0 Z = true := hw _ (List.mem_of_getElem? (i := 39) rfl)
theorem tw_40 {a0 : Array Value} {Z : State} (hw : ∀ d ∈ tables_1, d.before a0 Z = true) : (Jvm.Cond.arrayClass Jvm.ClassFile.FieldType.byte).before a0 Z = true := hw _ (List.mem_of_getElem? (i := 40) rfl)
theorem tw_41 {a0 : Array Value} {Z : State} (hw : ∀ d ∈ tables_1, d.before a0 Z = true) : (Jvm.Cond.laysFinal "java/lang/String" "java/lang/String" "value" "[B").before a0 Z = true := hw _ (List.mem_of_getElem? (i := 41) rfl)
theorem tw_42 {a0 : Array Value} {Z : State} (hw : ∀ d ∈ tables_1, d.before a0 Z = true) : (Jvm.Cond.laysFinal "java/lang/String" "java/lang/String" "coder" "B").before a0 Z = true := hw _ (List.mem_of_getElem? (i := 42) rfl)
theorem tw_43 {a0 : Array Value} {Z : State} (hw : ∀ d ∈ tables_1, d.before a0 Z = true) : (Jvm.Cond.soleField "java/lang/String" "value").before a0 Z = true := hw _ (List.mem_of_getElem? (i := 43) rfl)
theorem tw_44 {a0 : Array Value} {Z : State} (hw : ∀ d ∈ tables_1, d.before a0 Z = true) : (Jvm.Cond.soleField "java/lang/String" "coder").before a0 Z = true := hw _ (List.mem_of_getElem? (i := 44) rfl)
theorem own_wS {a0 : Array Value} {Z : State} (hw : ∀ d ∈ tables_1, d.before a0 Z = true) : ∀ a ∈ Bundle.stringAtoms, a.before a0 Z = true := by
  intro d hd
  simp only [Bundle.stringAtoms, Bundle.sN, List.mem_cons, List.not_mem_nil, or_false] at hd
  rcases hd with rfl | rfl | rfl | rfl | rfl | rfl | rfl
  · exact (tw_38 hw)
  · exact (tw_39 hw)
  · exact (tw_40 hw)
  · exact (tw_41 hw)
  · exact (tw_42 hw)
  · exact (tw_43 hw)
  · exact (tw_44 hw)
theorem d_prog_1_method_1_8 : decode prog_1_method_1_code 8 = .ok (.invokestatic 9, 3) := by decide +kernel
theorem tw_45 {a0 : Array Value} {Z : State} (hw : ∀ d ∈ tables_1, d.before a0 Z = true) : (Jvm.Cond.methodLink "com/example/pagewright/pagewright/Page" (9 : Nat) ({ cls := "java/util/Objects", name := "requireNonNull", desc := "(Ljava/lang/Object;Ljava/lang/String;)Ljava/lang/Object;" } : Jvm.MethodName)).before a0 Z = true := hw _ (List.mem_of_getElem? (i := 45) rfl)
theorem pd_1 : parseMethodDescriptor "(Ljava/lang/Object;Ljava/lang/String;)Ljava/lang/Object;" = some ⟨[(.object "java/lang/Object"), (.object "java/lang/String")], some (.object "java/lang/Object")⟩ := by decide +kernel
theorem tw_48 {a0 : Array Value} {Z : State} (hw : ∀ d ∈ tables_1, d.before a0 Z = true) : (Jvm.Cond.code ({ cls := "java/util/Objects", name := "requireNonNull", desc := "(Ljava/lang/Object;Ljava/lang/String;)Ljava/lang/Object;" } : Jvm.MethodName) jdk_31_method_11_code (2 : Nat) (Option.some (Jvm.ClassFile.FieldType.object "java/lang/Object"))).before a0 Z = true := hw _ (List.mem_of_getElem? (i := 48) rfl)
theorem tw_47 {a0 : Array Value} {Z : State} (hw : ∀ d ∈ tables_1, d.before a0 Z = true) : (Jvm.Cond.initialized "java/util/Objects").before a0 Z = true := hw _ (List.mem_of_getElem? (i := 47) rfl)
theorem tw_46 {a0 : Array Value} {Z : State} (hw : ∀ d ∈ tables_1, d.before a0 Z = true) : (Jvm.Cond.static ({ cls := "java/util/Objects", name := "requireNonNull", desc := "(Ljava/lang/Object;Ljava/lang/String;)Ljava/lang/Object;" } : Jvm.MethodName)).before a0 Z = true := hw _ (List.mem_of_getElem? (i := 46) rfl)
theorem d_prog_1_method_1_11 : decode prog_1_method_1_code 11 = .ok (.checkcast 15, 3) := by decide +kernel
theorem tw_49 {a0 : Array Value} {Z : State} (hw : ∀ d ∈ tables_1, d.before a0 Z = true) : (Jvm.Cond.classLink "com/example/pagewright/pagewright/Page" (15 : Nat) "java/util/List").before a0 Z = true := hw _ (List.mem_of_getElem? (i := 49) rfl)
theorem tw_50 {a0 : Array Value} {Z : State} (hw : ∀ d ∈ tables_1, d.before a0 Z = true) : (Jvm.Cond.castable "java/util/ArrayList" "java/util/List").before a0 Z = true := hw _ (List.mem_of_getElem? (i := 50) rfl)
theorem d_prog_1_method_1_14 : decode prog_1_method_1_code 14 = .ok (.putfield 17, 3) := by decide +kernel
theorem tw_51 {a0 : Array Value} {Z : State} (hw : ∀ d ∈ tables_1, d.before a0 Z = true) : (Jvm.Cond.fieldLink "com/example/pagewright/pagewright/Page" (17 : Nat) "com/example/pagewright/pagewright/Page" "rows" "Ljava/util/List;").before a0 Z = true := hw _ (List.mem_of_getElem? (i := 51) rfl)
theorem d_prog_1_method_1_17 : decode prog_1_method_1_code 17 = .ok (.aload_n 0, 1) := by decide +kernel
theorem d_prog_1_method_1_18 : decode prog_1_method_1_code 18 = .ok (.iload_n 2, 1) := by decide +kernel
theorem d_prog_1_method_1_19 : decode prog_1_method_1_code 19 = .ok (.putfield 23, 3) := by decide +kernel
theorem tw_53 {a0 : Array Value} {Z : State} (hw : ∀ d ∈ tables_1, d.before a0 Z = true) : (Jvm.Cond.fieldLink "com/example/pagewright/pagewright/Page" (23 : Nat) "com/example/pagewright/pagewright/Page" "pageNumber" "I").before a0 Z = true := hw _ (List.mem_of_getElem? (i := 53) rfl)
theorem d_prog_1_method_1_22 : decode prog_1_method_1_code 22 = .ok (.aload_n 0, 1) := by decide +kernel
theorem d_prog_1_method_1_23 : decode prog_1_method_1_code 23 = .ok (.iload_n 3, 1) := by decide +kernel
theorem d_prog_1_method_1_24 : decode prog_1_method_1_code 24 = .ok (.putfield 27, 3) := by decide +kernel
theorem tw_55 {a0 : Array Value} {Z : State} (hw : ∀ d ∈ tables_1, d.before a0 Z = true) : (Jvm.Cond.fieldLink "com/example/pagewright/pagewright/Page" (27 : Nat) "com/example/pagewright/pagewright/Page" "pageSize" "I").before a0 Z = true := hw _ (List.mem_of_getElem? (i := 55) rfl)
theorem d_prog_1_method_1_27 : decode prog_1_method_1_code 27 = .ok (.aload_n 0, 1) := by decide +kernel
theorem d_prog_1_method_1_28 : decode prog_1_method_1_code 28 = .ok (.lload 4, 2) := by decide +kernel
theorem d_prog_1_method_1_30 : decode prog_1_method_1_code 30 = .ok (.putfield 30, 3) := by decide +kernel
theorem tw_57 {a0 : Array Value} {Z : State} (hw : ∀ d ∈ tables_1, d.before a0 Z = true) : (Jvm.Cond.fieldLink "com/example/pagewright/pagewright/Page" (30 : Nat) "com/example/pagewright/pagewright/Page" "total" "J").before a0 Z = true := hw _ (List.mem_of_getElem? (i := 57) rfl)
theorem d_prog_1_method_1_33 : decode prog_1_method_1_code 33 = .ok (.return_, 1) := by decide +kernel
def R5 : Room := { frames := 3, cells := 2, slots := 164, locals := 36 }
def Q5 (Z : State) (a : Addr) (li : Addr) (nu : Int32) (sz : Int32) (to : Int64) (h0 : Heap) (v : Option Value) (h : Heap) : Prop := v = none ∧ Keep h0 h [a] ∧ Exa Z h a "com/example/pagewright/pagewright/Page" ∧ Fld Z h a "com/example/pagewright/pagewright/Page" "pageSize" "I" (.int sz) ∧ Fld Z h a "com/example/pagewright/pagewright/Page" "total" "J" (.long to)
theorem ef5 (a : Addr) (li : Addr) (nu : Int32) (sz : Int32) (to : Int64) (m : MethodId) : entryFrame m #[(.ref a), (.ref li), (.int nu), (.int sz), (.long to)] 6 = mkF m 0 #[.val (.ref a), .val (.ref li), .val (.int nu), .val (.int sz), .val (.long to), .second] [] := by first | (simp [entryFrame, mkF, argsToLocals, Value.category]; done) | rfl
theorem pn_4 : plainName "com/example/pagewright/pagewright/Page" = true := by first | (simp [plainName, overriddenIn]; done) | decide +kernel
set_option maxRecDepth 65536 in
set_option maxHeartbeats 40000000 in
theorem rm5 (l : Launch) (Z : State) (a0 : Array Value) (hw : ∀ d ∈ tables_1, d.before a0 Z = true) (ws : List Jvm.Cond) (a : Addr) (li : Addr) (nu : Int32) (sz : Int32) (to : Int64) (h0 : Heap) (n0 : Nat) (Z0 : n0 ≤ h0.size) (E : Exa Z h0 a "com/example/pagewright/pagewright/Page") (F1 : Fld Z h0 a "java/util/AbstractList" "modCount" "I" (.int (0 : Int32))) (F2 : Fld Z h0 a "com/example/pagewright/pagewright/Page" "rows" "Ljava/util/List;" .null) (F3 : Fld Z h0 a "com/example/pagewright/pagewright/Page" "pageNumber" "I" (.int (0 : Int32))) (F4 : Fld Z h0 a "com/example/pagewright/pagewright/Page" "pageSize" "I" (.int (0 : Int32))) (F5 : Fld Z h0 a "com/example/pagewright/pagewright/Page" "total" "J" (.long (0 : Int64))) (ga : n0 ≤ a) (E2 : Exa Z h0 li "java/util/ArrayList") (nal : a ≠ li) : OMet l Z ws (⟨"com/example/pagewright/pagewright/Page", "<init>", "(Ljava/util/List;IIJ)V"⟩ : MethodName) prog_1_method_1_code 6 none R5 #[(.ref a), (.ref li), (.int nu), (.int sz), (.long to)] h0 n0 (Q5 Z a li nu sz to h0) := by
  refine OMet.of (plainFor_of_name pn_4) (ef5 a li nu sz to) Z0 ?_
  intro p e s m below meth c T0 Y0 hnm
  have Y0 : Sd Z "com/example/pagewright/pagewright/Page" prog_1_method_1_code 6 none n0 p l e R5 s m #[(.ref a), (.ref li), (.int nu), (.int sz), (.long to)] below meth c T0 h0 0 0 := Y0
  refine Gl.aloadN Y0 rfl rfl d_prog_1_method_1_0 rfl ?_
  refine Gl.callN Y0 rfl (tw_34 hw) (tw_12 hw) (tw_15 hw) (tw_16 hw) (by decide) (rm1 l Z a0 hw [] a h0 n0 Y0.sz E F1 F2 F3 F4 F5 ga) (a := a) (argsL := []) (rest := []) rfl rfl (lenOf pd_0 rfl) rfl (by decide) (Nat.le_of_ble_eq_true rfl) (by decide) (by decide) d_prog_1_method_1_1 rfl (fun v1 T1 h1 Y1 q1 => ?_)
  obtain ⟨rfl, K1, f1_0, f1_1, f1_2, f1_3, f1_4⟩ := q1
  have KK1 : Keep h0 h1 [a] := (Keep.refl h0 [a]).trans K1 (allS (Or.inl (List.mem_of_getElem? (i := 0) rfl)) all0)
  show Gl p e below _ (T1.setTop (mkF m 4 #[.val (.ref a), .val (.ref li), .val (.int nu), .val (.int sz), .val (.long to), .second] []))
  refine Gl.aloadN Y1 rfl rfl d_prog_1_method_1_4 rfl ?_
  refine Gl.aloadN Y1 rfl rfl d_prog_1_method_1_5 rfl ?_
  refine Gl.ldcS Y1 (tw_37 hw) (own_wS hw) (w := 160) (by decide) (by decide) (by decide) (by decide) d_prog_1_method_1_6 rfl (fun T6 h6 t6 Y6 E6 => ?_)
  have K6 : Keep h0 h6 [a] := KK1.ext E6
  show Gl p e below _ (T6.setTop (mkF m 8 #[.val (.ref a), .val (.ref li), .val (.int nu), .val (.int sz), .val (.long to), .second] [(.ref t6), (.ref li), (.ref a)]))
  refine Gl.callS Y6 (tw_45 hw) (tw_46 hw) (tw_47 hw) (tw_48 hw) (by decide) (rm4 l Z a0 hw [] li t6 h6 n0 Y6.sz) (argsL := [(.ref li), (.ref t6)]) (rest := [(.ref a)]) rfl rfl (lenOf pd_1 rfl) rfl (by decide) (Nat.le_of_ble_eq_true rfl) (by decide) (by decide) d_prog_1_method_1_8 rfl (fun v8 T8 h8 Y8 q8 => ?_)
  obtain ⟨rfl, rfl⟩ := q8
  show Gl p e below _ (T8.setTop (mkF m 11 #[.val (.ref a), .val (.ref li), .val (.int nu), .val (.int sz), .val (.long to), .second] [(.ref li), (.ref a)]))
  have f1 : Exa Z h6 li "java/util/ArrayList" := (Exa.ext E6 (E2.keep K1))
  refine Gl.castY Y8 (tw_49 hw) (Ins.of_exa f1 (tw_50 hw)) d_prog_1_method_1_11 rfl (fun T11 Y11 => ?_)
  have f2 : Fld Z h6 a "com/example/pagewright/pagewright/Page" "rows" "Ljava/util/List;" .null := (Fld.ext E6 f1_1)
  have f3 : Exa Z h6 a "com/example/pagewright/pagewright/Page" := (Exa.ext E6 f1_0)
  refine Gl.putF Y11 (host := "") (Or.inl (tw_51 hw)) Via.refl f2 f3 (Or.inr ⟨(tw_52 hw), rfl, hnm⟩) (tw_3 hw) ga (ty := (.object "java/util/List")) (by decide) rfl rfl d_prog_1_method_1_14 rfl (fun T14 h14 Y14 W14 => ?_)
  have f4 : Fld Z h14 a "com/example/pagewright/pagewright/Page" "rows" "Ljava/util/List;" (.ref li) := Fld.same W14 f2
  have K14 : Keep h0 h14 [a] := K6.wr W14 (Or.inl (List.mem_of_getElem? (i := 0) rfl))
  refine Gl.aloadN Y14 rfl rfl d_prog_1_method_1_17 rfl ?_
  refine Gl.iloadN Y14 rfl d_prog_1_method_1_18 rfl ?_
  have f5 : Fld Z h14 a "com/example/pagewright/pagewright/Page" "pageNumber" "I" (.int (0 : Int32)) := (Fld.other W14 (Fld.ext E6 f1_2) (Or.inr (slot_ne (Or.inr (tw_54 hw)) (Or.inr (tw_52 hw)) (by decide) (t := .int) (t' := (.object "java/util/List")) (by decide) (by decide))))
  have f6 : Exa Z h14 a "com/example/pagewright/pagewright/Page" := (Exa.wr W14 f3)
  refine Gl.putF Y14 (host := "") (Or.inl (tw_53 hw)) Via.refl f5 f6 (Or.inr ⟨(tw_54 hw), rfl, hnm⟩) (tw_3 hw) ga (ty := .int) (by decide) rfl rfl d_prog_1_method_1_19 rfl (fun T19 h19 Y19 W19 => ?_)
  have f7 : Fld Z h19 a "com/example/pagewright/pagewright/Page" "pageNumber" "I" (.int nu) := Fld.same W19 f5
  have K19 : Keep h0 h19 [a] := K14.wr W19 (Or.inl (List.mem_of_getElem? (i := 0) rfl))
  refine Gl.aloadN Y19 rfl rfl d_prog_1_method_1_22 rfl ?_
  refine Gl.iloadN Y19 rfl d_prog_1_method_1_23 rfl ?_
  have f8 : Fld Z h19 a "com/example/pagewright/pagewright/Page" "pageSize" "I" (.int (0 : Int32)) := (Fld.other W19 (Fld.other W14 (Fld.ext E6 f1_3) (Or.inr (slot_ne (Or.inr (tw_56 hw)) (Or.inr (tw_52 hw)) (by decide) (t := .int) (t' := (.object "java/util/List")) (by decide) (by decide)))) (Or.inr (slot_ne (Or.inr (tw_56 hw)) (Or.inr (tw_54 hw)) (by decide) (t := .int) (t' := .int) (by decide) (by decide))))
  have f9 : Exa Z h19 a "com/example/pagewright/pagewright/Page" := (Exa.wr W19 f6)
  refine Gl.putF Y19 (host := "") (Or.inl (tw_55 hw)) Via.refl f8 f9 (Or.inr ⟨(tw_56 hw), rfl, hnm⟩) (tw_3 hw) ga (ty := .int) (by decide) rfl rfl d_prog_1_method_1_24 rfl (fun T24 h24 Y24 W24 => ?_)
  have f10 : Fld Z h24 a "com/example/pagewright/pagewright/Page" "pageSize" "I" (.int sz) := Fld.same W24 f8
  have K24 : Keep h0 h24 [a] := K19.wr W24 (Or.inl (List.mem_of_getElem? (i := 0) rfl))
  refine Gl.aloadN Y24 rfl rfl d_prog_1_method_1_27 rfl ?_
  refine Gl.lload Y24 rfl d_prog_1_method_1_28 rfl ?_
  have f11 : Fld Z h24 a "com/example/pagewright/pagewright/Page" "total" "J" (.long (0 : Int64)) := (Fld.other W24 (Fld.other W19 (Fld.other W14 (Fld.ext E6 f1_4) (Or.inr (slot_ne (Or.inr (tw_58 hw)) (Or.inr (tw_52 hw)) (by decide) (t := .long) (t' := (.object "java/util/List")) (by decide) (by decide)))) (Or.inr (slot_ne (Or.inr (tw_58 hw)) (Or.inr (tw_54 hw)) (by decide) (t := .long) (t' := .int) (by decide) (by decide)))) (Or.inr (slot_ne (Or.inr (tw_58 hw)) (Or.inr (tw_56 hw)) (by decide) (t := .long) (t' := .int) (by decide) (by decide))))
  have f12 : Exa Z h24 a "com/example/pagewright/pagewright/Page" := (Exa.wr W24 f9)
  refine Gl.putF Y24 (host := "") (Or.inl (tw_57 hw)) Via.refl f11 f12 (Or.inr ⟨(tw_58 hw), rfl, hnm⟩) (tw_3 hw) ga (ty := .long) (by decide) rfl rfl d_prog_1_method_1_30 rfl (fun T30 h30 Y30 W30 => ?_)
  have f13 : Fld Z h30 a "com/example/pagewright/pagewright/Page" "total" "J" (.long to) := Fld.same W30 f11
  have K30 : Keep h0 h30 [a] := K24.wr W30 (Or.inl (List.mem_of_getElem? (i := 0) rfl))
  have f14 : Exa Z h30 a "com/example/pagewright/pagewright/Page" := (Exa.wr W30 f12)
  have f15 : Fld Z h30 a "com/example/pagewright/pagewright/Page" "pageSize" "I" (.int sz) := (Fld.other W30 f10 (Or.inr (slot_ne (Or.inr (tw_56 hw)) (Or.inr (tw_58 hw)) (by decide) (t := .int) (t' := .long) (by decide) (by decide))))
  exact Gl.retV Y30 (by decide) (by decide)  d_prog_1_method_1_33 ⟨rfl, K30, f14, f15, f13⟩
theorem d_prog_1_method_8_0 : decode prog_1_method_8_code 0 = .ok (.iload_n 2, 1) := by decide +kernel
theorem d_prog_1_method_8_1 : decode prog_1_method_8_code 1 = .ok (.ifCond .ne 15, 3) := by decide +kernel
theorem d_prog_1_method_8_16 : decode prog_1_method_8_code 16 = .ok (.lload_n 0, 1) := by decide +kernel
theorem d_prog_1_method_8_17 : decode prog_1_method_8_code 17 = .ok (.iload_n 2, 1) := by decide +kernel
theorem d_prog_1_method_8_18 : decode prog_1_method_8_code 18 = .ok (.i2l, 1) := by decide +kernel
theorem d_prog_1_method_8_19 : decode prog_1_method_8_code 19 = .ok (.ldiv, 1) := by decide +kernel
theorem d_prog_1_method_8_20 : decode prog_1_method_8_code 20 = .ok (.lload_n 0, 1) := by decide +kernel
theorem d_prog_1_method_8_21 : decode prog_1_method_8_code 21 = .ok (.iload_n 2, 1) := by decide +kernel
theorem d_prog_1_method_8_22 : decode prog_1_method_8_code 22 = .ok (.i2l, 1) := by decide +kernel
theorem d_prog_1_method_8_23 : decode prog_1_method_8_code 23 = .ok (.lrem, 1) := by decide +kernel
theorem d_prog_1_method_8_24 : decode prog_1_method_8_code 24 = .ok (.lconst 0, 1) := by decide +kernel
theorem d_prog_1_method_8_25 : decode prog_1_method_8_code 25 = .ok (.lcmp, 1) := by decide +kernel
theorem d_prog_1_method_8_26 : decode prog_1_method_8_code 26 = .ok (.ifCond .ne 7, 3) := by decide +kernel
theorem d_prog_1_method_8_33 : decode prog_1_method_8_code 33 = .ok (.iconst 1, 1) := by decide +kernel
theorem d_prog_1_method_8_29 : decode prog_1_method_8_code 29 = .ok (.iconst 0, 1) := by decide +kernel
theorem d_prog_1_method_8_30 : decode prog_1_method_8_code 30 = .ok (.goto 4, 3) := by decide +kernel
theorem d_prog_1_method_8_34 : decode prog_1_method_8_code 34 = .ok (.i2l, 1) := by decide +kernel
theorem d_prog_1_method_8_35 : decode prog_1_method_8_code 35 = .ok (.ladd, 1) := by decide +kernel
theorem d_prog_1_method_8_36 : decode prog_1_method_8_code 36 = .ok (.lreturn, 1) := by decide +kernel
theorem d_prog_1_method_8_4 : decode prog_1_method_8_code 4 = .ok (.lload_n 0, 1) := by decide +kernel
theorem d_prog_1_method_8_5 : decode prog_1_method_8_code 5 = .ok (.lconst 0, 1) := by decide +kernel
theorem d_prog_1_method_8_6 : decode prog_1_method_8_code 6 = .ok (.lcmp, 1) := by decide +kernel
theorem d_prog_1_method_8_7 : decode prog_1_method_8_code 7 = .ok (.ifCond .ne 7, 3) := by decide +kernel
theorem d_prog_1_method_8_14 : decode prog_1_method_8_code 14 = .ok (.lconst 1, 1) := by decide +kernel
theorem d_prog_1_method_8_10 : decode prog_1_method_8_code 10 = .ok (.lconst 0, 1) := by decide +kernel
theorem d_prog_1_method_8_11 : decode prog_1_method_8_code 11 = .ok (.goto 4, 3) := by decide +kernel
theorem d_prog_1_method_8_15 : decode prog_1_method_8_code 15 = .ok (.lreturn, 1) := by decide +kernel
def R6 : Room := { frames := 0, cells := 0, slots := 0, locals := 0 }
def Q6 (Z : State) (t : Int64) (k : Int32) (h0 : Heap) (v : Option Value) (h : Heap) : Prop := ∃ r : Int64, v = some (.long r) ∧ (r = own_pages t k) ∧ h0 = h
theorem ef6 (t : Int64) (k : Int32) (m : MethodId) : entryFrame m #[(.long t), (.int k)] 3 = mkF m 0 #[.val (.long t), .second, .val (.int k)] [] := by first | (simp [entryFrame, mkF, argsToLocals, Value.category]; done) | rfl
set_option maxRecDepth 65536 in
set_option maxHeartbeats 40000000 in
theorem rm6 (l : Launch) (Z : State) (a0 : Array Value) (hw : ∀ d ∈ tables_1, d.before a0 Z = true) (ws : List Jvm.Cond) (t : Int64) (k : Int32) (h0 : Heap) (n0 : Nat) (Z0 : n0 ≤ h0.size) : OMet l Z ws (⟨"com/example/pagewright/pagewright/Page", "pagesOf", "(JI)J"⟩ : MethodName) prog_1_method_8_code 3 (some .long) R6 #[(.long t), (.int k)] h0 n0 (Q6 Z t k h0) := by
  refine OMet.of (plainFor_of_name pn_4) (ef6 t k) Z0 ?_
  intro p e s m below meth c T0 Y0 hnm
  have Y0 : Sd Z "com/example/pagewright/pagewright/Page" prog_1_method_8_code 3 (some .long) n0 p l e R6 s m #[(.long t), (.int k)] below meth c T0 h0 0 0 := Y0
  refine Gl.iloadN Y0 rfl d_prog_1_method_8_0 rfl ?_
  refine Gl.ifne Y0 d_prog_1_method_8_1 (by decide) rfl rfl (fun c1 => ?_) (fun c1 => ?_)
  · refine Gl.lloadN Y0 rfl d_prog_1_method_8_16 rfl ?_
    refine Gl.iloadN Y0 rfl d_prog_1_method_8_17 rfl ?_
    refine Gl.i2l Y0 rfl d_prog_1_method_8_18 rfl ?_
    refine Gl.ldiv Y0 (own_nz c1) rfl d_prog_1_method_8_19 rfl ?_
    refine Gl.lloadN Y0 rfl d_prog_1_method_8_20 rfl ?_
    refine Gl.iloadN Y0 rfl d_prog_1_method_8_21 rfl ?_
    refine Gl.i2l Y0 rfl d_prog_1_method_8_22 rfl ?_
    refine Gl.lrem Y0 (own_nz c1) rfl d_prog_1_method_8_23 rfl ?_
    refine Gl.lconst Y0 (v := (0 : Int64)) (by decide) d_prog_1_method_8_24 rfl ?_
    obtain ⟨z25, hz25⟩ : ∃ z : Int32, (if (t % k.toInt64) = (0 : Int64) then (0 : Int32) else (1 : Int32)) = z := ⟨_, rfl⟩
    have bz25 : z25 = 0 ∨ z25 = 1 := by rw [← hz25]; (repeat' split) <;> first | (simp; done) | assumption
    refine own_cut (B := ∀ T', Sd Z "com/example/pagewright/pagewright/Page" prog_1_method_8_code 3 (some .long) n0 p l e R6 s m #[(.long t), (.int k)] below meth c T' h0 0 0 → Gl p e below (Pst s n0 R6.cells R6.slots (Q6 Z t k h0)) (T'.setTop (mkF m 34 #[.val (.long t), .second, .val (.int k)] [(.int z25), (.long (t / k.toInt64))]))) (fun jk => ?_) (fun T25j Y25j => ?_)
    · refine Gl.lcmpne Y0 d_prog_1_method_8_25 rfl d_prog_1_method_8_26 (by decide) rfl rfl (fun c26 => ?_) (fun c26 => ?_)
      · refine Gl.iconst Y0 (v := (1 : Int32)) (by decide) d_prog_1_method_8_33 rfl ?_
        have ez25 : z25 = (1 : Int32) := by rw [← hz25]; simp only [c26, ↓reduceIte, if_true, if_false]
        rw [ez25] at jk
        exact jk T0 Y0
      · refine Gl.iconst Y0 (v := (0 : Int32)) (by decide) d_prog_1_method_8_29 rfl ?_
        refine Gl.goto Y0 d_prog_1_method_8_30 (by decide) rfl ?_
        have ez25 : z25 = (0 : Int32) := by rw [← hz25]; simp only [c26, ↓reduceIte, if_true, if_false]
        rw [ez25] at jk
        exact jk T0 Y0
    refine Gl.i2l Y25j rfl d_prog_1_method_8_34 rfl ?_
    refine Gl.ladd Y25j rfl d_prog_1_method_8_35 rfl ?_
    exact Gl.retJ Y25j (by decide) (by decide)  d_prog_1_method_8_36 ⟨((t / k.toInt64) + z25.toInt64), rfl, (by unfold own_pages; first | rw [if_pos c1, hz6] | rw [if_neg c1, hz25]), rfl⟩
  · refine Gl.lloadN Y0 rfl d_prog_1_method_8_4 rfl ?_
    refine Gl.lconst Y0 (v := (0 : Int64)) (by decide) d_prog_1_method_8_5 rfl ?_
    obtain ⟨z6, hz6⟩ : ∃ z : Int64, (if t = (0 : Int64) then (0 : Int64) else (1 : Int64)) = z := ⟨_, rfl⟩
    refine own_cut (B := ∀ T', Sd Z "com/example/pagewright/pagewright/Page" prog_1_method_8_code 3 (some .long) n0 p l e R6 s m #[(.long t), (.int k)] below meth c T' h0 0 0 → Gl p e below (Pst s n0 R6.cells R6.slots (Q6 Z t k h0)) (T'.setTop (mkF m 15 #[.val (.long t), .second, .val (.int k)] [(.long z6)]))) (fun jk => ?_) (fun T6j Y6j => ?_)
    · refine Gl.lcmpne Y0 d_prog_1_method_8_6 rfl d_prog_1_method_8_7 (by decide) rfl rfl (fun c7 => ?_) (fun c7 => ?_)
      · refine Gl.lconst Y0 (v := (1 : Int64)) (by decide) d_prog_1_method_8_14 rfl ?_
        have ez6 : z6 = (1 : Int64) := by rw [← hz6]; simp only [c7, ↓reduceIte, if_true, if_false]
        rw [ez6] at jk
        exact jk T0 Y0
      · refine Gl.lconst Y0 (v := (0 : Int64)) (by decide) d_prog_1_method_8_10 rfl ?_
        refine Gl.goto Y0 d_prog_1_method_8_11 (by decide) rfl ?_
        have ez6 : z6 = (0 : Int64) := by rw [← hz6]; simp only [c7, ↓reduceIte, if_true, if_false]
        rw [ez6] at jk
        exact jk T0 Y0
    exact Gl.retJ Y6j (by decide) (by decide)  d_prog_1_method_8_15 ⟨z6, rfl, (by unfold own_pages; first | rw [if_pos c1, hz6] | rw [if_neg c1, hz25]), rfl⟩
theorem d_prog_1_method_7_0 : decode prog_1_method_7_code 0 = .ok (.aload_n 0, 1) := by decide +kernel
theorem d_prog_1_method_7_1 : decode prog_1_method_7_code 1 = .ok (.getfield 30, 3) := by decide +kernel
theorem d_prog_1_method_7_4 : decode prog_1_method_7_code 4 = .ok (.ldc2_w 42, 3) := by decide +kernel
theorem tw_64 {a0 : Array Value} {Z : State} (hw : ∀ d ∈ tables_1, d.before a0 Z = true) : (Jvm.Cond.constantLong "com/example/pagewright/pagewright/Page" (42 : Nat) (-1 : Int64)).before a0 Z = true := hw _ (List.mem_of_getElem? (i := 64) rfl)
theorem d_prog_1_method_7_7 : decode prog_1_method_7_code 7 = .ok (.lcmp, 1) := by decide +kernel
theorem d_prog_1_method_7_8 : decode prog_1_method_7_code 8 = .ok (.ifCond .ne 7, 3) := by decide +kernel
theorem d_prog_1_method_7_15 : decode prog_1_method_7_code 15 = .ok (.aload_n 0, 1) := by decide +kernel
theorem d_prog_1_method_7_16 : decode prog_1_method_7_code 16 = .ok (.getfield 30, 3) := by decide +kernel
theorem d_prog_1_method_7_19 : decode prog_1_method_7_code 19 = .ok (.aload_n 0, 1) := by decide +kernel
theorem d_prog_1_method_7_20 : decode prog_1_method_7_code 20 = .ok (.getfield 27, 3) := by decide +kernel
theorem d_prog_1_method_7_23 : decode prog_1_method_7_code 23 = .ok (.invokestatic 44, 3) := by decide +kernel
theorem tw_65 {a0 : Array Value} {Z : State} (hw : ∀ d ∈ tables_1, d.before a0 Z = true) : (Jvm.Cond.methodLink "com/example/pagewright/pagewright/Page" (44 : Nat) ({ cls := "com/example/pagewright/pagewright/Page", name := "pagesOf", desc := "(JI)J" } : Jvm.MethodName)).before a0 Z = true := hw _ (List.mem_of_getElem? (i := 65) rfl)
theorem pd_2 : parseMethodDescriptor "(JI)J" = some ⟨[.long, .int], some .long⟩ := by decide +kernel
theorem tw_67 {a0 : Array Value} {Z : State} (hw : ∀ d ∈ tables_1, d.before a0 Z = true) : (Jvm.Cond.code ({ cls := "com/example/pagewright/pagewright/Page", name := "pagesOf", desc := "(JI)J" } : Jvm.MethodName) prog_1_method_8_code (3 : Nat) (Option.some Jvm.ClassFile.FieldType.long)).before a0 Z = true := hw _ (List.mem_of_getElem? (i := 67) rfl)
theorem tw_4 {a0 : Array Value} {Z : State} (hw : ∀ d ∈ tables_1, d.before a0 Z = true) : (Jvm.Cond.initialized "com/example/pagewright/pagewright/Page").before a0 Z = true := hw _ (List.mem_of_getElem? (i := 4) rfl)
theorem tw_66 {a0 : Array Value} {Z : State} (hw : ∀ d ∈ tables_1, d.before a0 Z = true) : (Jvm.Cond.static ({ cls := "com/example/pagewright/pagewright/Page", name := "pagesOf", desc := "(JI)J" } : Jvm.MethodName)).before a0 Z = true := hw _ (List.mem_of_getElem? (i := 66) rfl)
theorem d_prog_1_method_7_26 : decode prog_1_method_7_code 26 = .ok (.lreturn, 1) := by decide +kernel
theorem d_prog_1_method_7_11 : decode prog_1_method_7_code 11 = .ok (.ldc2_w 42, 3) := by decide +kernel
theorem d_prog_1_method_7_14 : decode prog_1_method_7_code 14 = .ok (.lreturn, 1) := by decide +kernel
def R7 : Room := { frames := 1, cells := 0, slots := 0, locals := 14 }
def Q7 (Z : State) (a : Addr) (t : Int64) (k : Int32) (h0 : Heap) (v : Option Value) (h : Heap) : Prop := ∃ r : Int64, v = some (.long r) ∧ (r = (if t = (-1 : Int64) then (-1 : Int64) else own_pages t k)) ∧ h0 = h
theorem ef7 (a : Addr) (m : MethodId) : entryFrame m #[(.ref a)] 1 = mkF m 0 #[.val (.ref a)] [] := by first | (simp [entryFrame, mkF, argsToLocals, Value.category]; done) | rfl
set_option maxRecDepth 65536 in
set_option maxHeartbeats 40000000 in
theorem rm7 (l : Launch) (Z : State) (a0 : Array Value) (hw : ∀ d ∈ tables_1, d.before a0 Z = true) (ws : List Jvm.Cond) (a : Addr) (t : Int64) (k : Int32) (h0 : Heap) (n0 : Nat) (Z0 : n0 ≤ h0.size) (F4 : Fld Z h0 a "com/example/pagewright/pagewright/Page" "pageSize" "I" (.int k)) (F5 : Fld Z h0 a "com/example/pagewright/pagewright/Page" "total" "J" (.long t)) : OMet l Z ws (⟨"com/example/pagewright/pagewright/Page", "pages", "()J"⟩ : MethodName) prog_1_method_7_code 1 (some .long) R7 #[(.ref a)] h0 n0 (Q7 Z a t k h0) := by
  refine OMet.of (plainFor_of_name pn_4) (ef7 a) Z0 ?_
  intro p e s m below meth c T0 Y0 hnm
  have Y0 : Sd Z "com/example/pagewright/pagewright/Page" prog_1_method_7_code 1 (some .long) n0 p l e R7 s m #[(.ref a)] below meth c T0 h0 0 0 := Y0
  refine Gl.aloadN Y0 rfl rfl d_prog_1_method_7_0 rfl ?_
  refine Gl.getF Y0 (host := "") (Or.inl (tw_57 hw)) Via.refl F5 d_prog_1_method_7_1 rfl (fun T1 Y1 => ?_)
  refine Gl.ldcJ Y1 (tw_64 hw) d_prog_1_method_7_4 rfl ?_
  refine Gl.lcmpne Y1 d_prog_1_method_7_7 rfl d_prog_1_method_7_8 (by decide) rfl rfl (fun c8 => ?_) (fun c8 => ?_)
  · refine Gl.aloadN Y1 rfl rfl d_prog_1_method_7_15 rfl ?_
    refine Gl.getF Y1 (host := "") (Or.inl (tw_57 hw)) Via.refl F5 d_prog_1_method_7_16 rfl (fun T16 Y16 => ?_)
    refine Gl.aloadN Y16 rfl rfl d_prog_1_method_7_19 rfl ?_
    refine Gl.getF Y16 (host := "") (Or.inl (tw_55 hw)) Via.refl F4 d_prog_1_method_7_20 rfl (fun T20 Y20 => ?_)
    refine Gl.callS Y20 (tw_65 hw) (tw_66 hw) (tw_4 hw) (tw_67 hw) (by decide) (rm6 l Z a0 hw [] t k h0 n0 Y20.sz) (argsL := [(.long t), (.int k)]) (rest := []) rfl rfl (lenOf pd_2 rfl) rfl (by decide) (Nat.le_of_ble_eq_true rfl) (by decide) (by decide) d_prog_1_method_7_23 rfl (fun v23 T23 h23 Y23 q23 => ?_)
    obtain ⟨_, rfl, rfl, rfl⟩ := q23
    show Gl p e below _ (T23.setTop (mkF m 26 #[.val (.ref a)] [(.long (own_pages t k))]))
    exact Gl.retJ Y23 (by decide) (by decide)  d_prog_1_method_7_26 ⟨(own_pages t k), rfl, (by first | rw [if_pos c8] | rw [if_neg c8]), rfl⟩
  · refine Gl.ldcJ Y1 (tw_64 hw) d_prog_1_method_7_11 rfl ?_
    exact Gl.retJ Y1 (by decide) (by decide)  d_prog_1_method_7_14 ⟨(-1 : Int64), rfl, (by first | rw [if_pos c8] | rw [if_neg c8]), rfl⟩
theorem tw_7 {a0 : Array Value} {Z : State} (hw : ∀ d ∈ tables_1, d.before a0 Z = true) : (Jvm.Cond.initialized "java/util/ArrayList").before a0 Z = true := hw _ (List.mem_of_getElem? (i := 7) rfl)
theorem tw_0 {a0 : Array Value} {Z : State} (hw : ∀ d ∈ tables_1, d.before a0 Z = true) : (Jvm.Cond.constantLong "com/example/pagewright/pagewright/PagePagesPinLaw" (11 : Nat) (9223372036854775807 : Int64)).before a0 Z = true := hw _ (List.mem_of_getElem? (i := 0) rfl)
theorem tw_1 {a0 : Array Value} {Z : State} (hw : ∀ d ∈ tables_1, d.before a0 Z = true) : (Jvm.Cond.constant "com/example/pagewright/pagewright/PagePagesPinLaw" (13 : Nat) (2147483647 : Int32)).before a0 Z = true := hw _ (List.mem_of_getElem? (i := 1) rfl)
theorem tw_2 {a0 : Array Value} {Z : State} (hw : ∀ d ∈ tables_1, d.before a0 Z = true) : (Jvm.Cond.classLink "com/example/pagewright/pagewright/PagePagesPinLaw" (14 : Nat) "com/example/pagewright/pagewright/Page").before a0 Z = true := hw _ (List.mem_of_getElem? (i := 2) rfl)
theorem tw_5 {a0 : Array Value} {Z : State} (hw : ∀ d ∈ tables_1, d.before a0 Z = true) : (Jvm.Cond.classLink "com/example/pagewright/pagewright/PagePagesPinLaw" (16 : Nat) "java/util/ArrayList").before a0 Z = true := hw _ (List.mem_of_getElem? (i := 5) rfl)
theorem tw_8 {a0 : Array Value} {Z : State} (hw : ∀ d ∈ tables_1, d.before a0 Z = true) : (Jvm.Cond.methodLink "com/example/pagewright/pagewright/PagePagesPinLaw" (18 : Nat) ({ cls := "java/util/ArrayList", name := "<init>", desc := "()V" } : Jvm.MethodName)).before a0 Z = true := hw _ (List.mem_of_getElem? (i := 8) rfl)
theorem tw_10 {a0 : Array Value} {Z : State} (hw : ∀ d ∈ tables_1, d.before a0 Z = true) : (Jvm.Cond.code ({ cls := "java/util/ArrayList", name := "<init>", desc := "()V" } : Jvm.MethodName) jdk_38_method_2_code (1 : Nat) (Option.none : Option Jvm.ClassFile.FieldType)).before a0 Z = true := hw _ (List.mem_of_getElem? (i := 10) rfl)
theorem tw_9 {a0 : Array Value} {Z : State} (hw : ∀ d ∈ tables_1, d.before a0 Z = true) : (Jvm.Cond.instanceMethod ({ cls := "java/util/ArrayList", name := "<init>", desc := "()V" } : Jvm.MethodName)).before a0 Z = true := hw _ (List.mem_of_getElem? (i := 9) rfl)
theorem tw_31 {a0 : Array Value} {Z : State} (hw : ∀ d ∈ tables_1, d.before a0 Z = true) : (Jvm.Cond.methodLink "com/example/pagewright/pagewright/PagePagesPinLaw" (19 : Nat) ({ cls := "com/example/pagewright/pagewright/Page", name := "<init>", desc := "(Ljava/util/List;IIJ)V" } : Jvm.MethodName)).before a0 Z = true := hw _ (List.mem_of_getElem? (i := 31) rfl)
theorem pd_3 : parseMethodDescriptor "(Ljava/util/List;IIJ)V" = some ⟨[(.object "java/util/List"), .int, .int, .long], none⟩ := by decide +kernel
theorem tw_33 {a0 : Array Value} {Z : State} (hw : ∀ d ∈ tables_1, d.before a0 Z = true) : (Jvm.Cond.code ({ cls := "com/example/pagewright/pagewright/Page", name := "<init>", desc := "(Ljava/util/List;IIJ)V" } : Jvm.MethodName) prog_1_method_1_code (6 : Nat) (Option.none : Option Jvm.ClassFile.FieldType)).before a0 Z = true := hw _ (List.mem_of_getElem? (i := 33) rfl)
theorem tw_32 {a0 : Array Value} {Z : State} (hw : ∀ d ∈ tables_1, d.before a0 Z = true) : (Jvm.Cond.instanceMethod ({ cls := "com/example/pagewright/pagewright/Page", name := "<init>", desc := "(Ljava/util/List;IIJ)V" } : Jvm.MethodName)).before a0 Z = true := hw _ (List.mem_of_getElem? (i := 32) rfl)
theorem tw_59 {a0 : Array Value} {Z : State} (hw : ∀ d ∈ tables_1, d.before a0 Z = true) : (Jvm.Cond.methodLink "com/example/pagewright/pagewright/PagePagesPinLaw" (22 : Nat) ({ cls := "com/example/pagewright/pagewright/Page", name := "pages", desc := "()J" } : Jvm.MethodName)).before a0 Z = true := hw _ (List.mem_of_getElem? (i := 59) rfl)
theorem pd_4 : parseMethodDescriptor "()J" = some ⟨[], some .long⟩ := by decide +kernel
theorem tw_63 {a0 : Array Value} {Z : State} (hw : ∀ d ∈ tables_1, d.before a0 Z = true) : (Jvm.Cond.code ({ cls := "com/example/pagewright/pagewright/Page", name := "pages", desc := "()J" } : Jvm.MethodName) prog_1_method_7_code (1 : Nat) (Option.some Jvm.ClassFile.FieldType.long)).before a0 Z = true := hw _ (List.mem_of_getElem? (i := 63) rfl)
theorem tw_60 {a0 : Array Value} {Z : State} (hw : ∀ d ∈ tables_1, d.before a0 Z = true) : (Jvm.Cond.declares ({ cls := "com/example/pagewright/pagewright/Page", name := "pages", desc := "()J" } : Jvm.MethodName)).before a0 Z = true := hw _ (List.mem_of_getElem? (i := 60) rfl)
theorem tw_62 {a0 : Array Value} {Z : State} (hw : ∀ d ∈ tables_1, d.before a0 Z = true) : (Jvm.Cond.selects "com/example/pagewright/pagewright/Page" ({ cls := "com/example/pagewright/pagewright/Page", name := "pages", desc := "()J" } : Jvm.MethodName) ({ cls := "com/example/pagewright/pagewright/Page", name := "pages", desc := "()J" } : Jvm.MethodName)).before a0 Z = true := hw _ (List.mem_of_getElem? (i := 62) rfl)
theorem tw_61 {a0 : Array Value} {Z : State} (hw : ∀ d ∈ tables_1, d.before a0 Z = true) : (Jvm.Cond.instanceMethod ({ cls := "com/example/pagewright/pagewright/Page", name := "pages", desc := "()J" } : Jvm.MethodName)).before a0 Z = true := hw _ (List.mem_of_getElem? (i := 61) rfl)
theorem tw_68 {a0 : Array Value} {Z : State} (hw : ∀ d ∈ tables_1, d.before a0 Z = true) : (Jvm.Cond.constantLong "com/example/pagewright/pagewright/PagePagesPinLaw" (7 : Nat) (-1 : Int64)).before a0 Z = true := hw _ (List.mem_of_getElem? (i := 68) rfl)
def QL (Z : State) (md : Int32) (tt : Int64) (si : Int32) (nn : Int32) (dc : Addr) (h0 : Heap) (v : Option Value) (h : Heap) : Prop := v = some (.int 1)
theorem efL (md : Int32) (tt : Int64) (si : Int32) (nn : Int32) (m : MethodId) : entryFrame m #[(.int md), (.long tt), (.int si), (.int nn)] maxLocals = mkF m 0 #[.val (.int md), .val (.long tt), .second, .val (.int si), .val (.int nn), .unset, .unset, .unset, .unset, .unset, .unset, .unset, .unset] [] := by first | (simp [entryFrame, mkF, argsToLocals, Value.category, maxLocals]; done) | rfl
theorem pn_5 : plainName "com/example/pagewright/pagewright/PagePagesPinLaw" = true := by first | (simp [plainName, overriddenIn]; done) | decide +kernel
set_option maxRecDepth 65536 in
set_option maxHeartbeats 40000000 in
theorem rmL (l : Launch) (Z : State) (a0 : Array Value) (hw : ∀ d ∈ tables_1, d.before a0 Z = true) (ws : List Jvm.Cond) (md : Int32) (tt : Int64) (si : Int32) (nn : Int32) (dc : Addr) (h0 : Heap) (n0 : Nat) (Z0 : n0 ≤ h0.size) (O : Old Z n0 h0) (S : Sta Z Z.heap "java/util/ArrayList" "DEFAULTCAPACITY_EMPTY_ELEMENTDATA" "[Ljava/lang/Object;" (.ref dc)) : OMet l Z ws x code maxLocals ret room_1 #[(.int md), (.long tt), (.int si), (.int nn)] h0 n0 (QL Z md tt si nn dc h0) := by
  refine OMet.of (plainFor_of_name pn_5) (efL md tt si nn) Z0 ?_
  intro p e s m below meth c T0 Y0 hnm
  have Y0 : Sd Z "com/example/pagewright/pagewright/PagePagesPinLaw" code maxLocals (some .boolean) n0 p l e room_1 s m #[(.int md), (.long tt), (.int si), (.int nn)] below meth c T0 h0 0 0 := Y0
  have nmd := rng32 md
  have ntt := rng64 tt
  have nsi := rng32 si
  have nnn := rng32 nn
  refine Gl.iloadN Y0 rfl at_0 rfl ?_
  refine Gl.iconst Y0 (v := (1 : Int32)) (by decide) at_1 rfl ?_
  obtain ⟨v2, hv2⟩ : ∃ z : Int32, md &&& (1 : Int32) = z := ⟨_, rfl⟩
  have iv2 : v2.toInt = md.toInt % 2 := by have q := c_mask md (1 : Int32) 1 (by decide) (by decide); rw [hv2] at q; exact q
  refine Gl.iand Y0 hv2 at_2 rfl ?_
  refine Gl.ifeq Y0 at_3 (by decide) rfl rfl (fun c3 => ?_) (fun c3 => ?_)
  · have j3 : v2.toInt = 0 := congrArg Int32.toInt c3
    refine Gl.lloadN Y0 rfl at_12 rfl ?_
    refine Gl.ldcJ Y0 (tw_0 hw) at_13 rfl ?_
    obtain ⟨v16, hv16⟩ : ∃ z : Int64, tt &&& (9223372036854775807 : Int64) = z := ⟨_, rfl⟩
    have iv16 : v16.toInt = tt.toInt % 9223372036854775808 := by have q := c_maskL tt (9223372036854775807 : Int64) 63 (by decide) (by decide); rw [hv16] at q; exact q
    refine Gl.land Y0 hv16 at_16 rfl ?_
    refine Gl.lstore Y0 (L' := #[.val (.int md), .val (.long tt), .second, .val (.int si), .val (.int nn), .val (.long v16), .second, .unset, .unset, .unset, .unset, .unset, .unset]) rfl at_17 rfl ?_
    refine Gl.iloadN Y0 rfl at_19 rfl ?_
    refine Gl.ldcI Y0 (tw_1 hw) at_20 rfl ?_
    obtain ⟨v22, hv22⟩ : ∃ z : Int32, si &&& (2147483647 : Int32) = z := ⟨_, rfl⟩
    have iv22 : v22.toInt = si.toInt % 2147483648 := by have q := c_mask si (2147483647 : Int32) 31 (by decide) (by decide); rw [hv22] at q; exact q
    refine Gl.iand Y0 hv22 at_22 rfl ?_
    refine Gl.istore Y0 (L' := #[.val (.int md), .val (.long tt), .second, .val (.int si), .val (.int nn), .val (.long v16), .second, .val (.int v22), .unset, .unset, .unset, .unset, .unset]) rfl at_23 rfl ?_
    refine Gl.newO Y0 (tw_2 hw) (tw_3 hw) (tw_4 hw) (by decide) (by decide) at_25 rfl (fun T25 h25 b25 Y25 E25 g25 sb25 X25 D25 => ?_)
    have f1 : Fld Z h25 b25 "java/util/AbstractList" "modCount" "I" (.int (0 : Int32)) := D25 (Or.inl (tw_36 hw)) (ty := .int) (by decide)
    have f2 : Fld Z h25 b25 "com/example/pagewright/pagewright/Page" "rows" "Ljava/util/List;" .null := D25 (Or.inr (tw_52 hw)) (ty := (.object "java/util/List")) (by decide)
    have f3 : Fld Z h25 b25 "com/example/pagewright/pagewright/Page" "pageNumber" "I" (.int (0 : Int32)) := D25 (Or.inr (tw_54 hw)) (ty := .int) (by decide)
    have f4 : Fld Z h25 b25 "com/example/pagewright/pagewright/Page" "pageSize" "I" (.int (0 : Int32)) := D25 (Or.inr (tw_56 hw)) (ty := .int) (by decide)
    have f5 : Fld Z h25 b25 "com/example/pagewright/pagewright/Page" "total" "J" (.long (0 : Int64)) := D25 (Or.inr (tw_58 hw)) (ty := .long) (by decide)
    show Gl p e below _ (T25.setTop (mkF m 28 #[.val (.int md), .val (.long tt), .second, .val (.int si), .val (.int nn), .val (.long v16), .second, .val (.int v22), .unset, .unset, .unset, .unset, .unset] [(.ref b25)]))
    refine Gl.dup Y25 rfl at_28 rfl ?_
    refine Gl.newO Y25 (tw_5 hw) (tw_6 hw) (tw_7 hw) (by decide) (by decide) at_29 rfl (fun T29 h29 b29 Y29 E29 g29 sb29 X29 D29 => ?_)
    have f6 : Fld Z h29 b29 "java/util/AbstractList" "modCount" "I" (.int (0 : Int32)) := D29 (Or.inl (tw_27 hw)) (ty := .int) (by decide)
    have f7 : Fld Z h29 b29 "java/util/ArrayList" "elementData" "[Ljava/lang/Object;" .null := D29 (Or.inl (tw_30 hw)) (ty := (.array (.object "java/lang/Object"))) (by decide)
    show Gl p e below _ (T29.setTop (mkF m 32 #[.val (.int md), .val (.long tt), .second, .val (.int si), .val (.int nn), .val (.long v16), .second, .val (.int v22), .unset, .unset, .unset, .unset, .unset] [(.ref b29), (.ref b25), (.ref b25)]))
    refine Gl.dup Y29 rfl at_32 rfl ?_
    have f8 : Old Z n0 h29 := ((O.ext E25).ext E29)
    refine Gl.callN Y29 rfl (tw_8 hw) (tw_9 hw) (tw_7 hw) (tw_10 hw) (by decide) (rm3 l Z a0 hw [] b29 dc h29 n0 Y29.sz f8 S X29 f6 f7 sb29) (a := b29) (argsL := []) (rest := [(.ref b29), (.ref b25), (.ref b25)]) rfl rfl (lenOf pd_0 rfl) rfl (by decide) (Nat.le_of_ble_eq_true rfl) (by decide) (by decide) at_33 rfl (fun v33 T33 h33 Y33 q33 => ?_)
    obtain ⟨rfl, K33, f33_0⟩ := q33
    show Gl p e below _ (T33.setTop (mkF m 36 #[.val (.int md), .val (.long tt), .second, .val (.int si), .val (.int nn), .val (.long v16), .second, .val (.int v22), .unset, .unset, .unset, .unset, .unset] [(.ref b29), (.ref b25), (.ref b25)]))
    refine Gl.iload Y33 rfl at_36 rfl ?_
    refine Gl.iload Y33 rfl at_38 rfl ?_
    refine Gl.lload Y33 rfl at_40 rfl ?_
    have f9 : Exa Z h33 b25 "com/example/pagewright/pagewright/Page" := ((Exa.ext E29 X25).keep K33)
    have f10 : Fld Z h33 b25 "java/util/AbstractList" "modCount" "I" (.int (0 : Int32)) := ((Fld.ext E29 f1).keep K33 (ninS (Nat.ne_of_lt (Nat.lt_of_lt_of_eq X25.lt g29.symm)) nin0))
    have f11 : Fld Z h33 b25 "com/example/pagewright/pagewright/Page" "rows" "Ljava/util/List;" .null := ((Fld.ext E29 f2).keep K33 (ninS (Nat.ne_of_lt (Nat.lt_of_lt_of_eq X25.lt g29.symm)) nin0))
    have f12 : Fld Z h33 b25 "com/example/pagewright/pagewright/Page" "pageNumber" "I" (.int (0 : Int32)) := ((Fld.ext E29 f3).keep K33 (ninS (Nat.ne_of_lt (Nat.lt_of_lt_of_eq X25.lt g29.symm)) nin0))
    have f13 : Fld Z h33 b25 "com/example/pagewright/pagewright/Page" "pageSize" "I" (.int (0 : Int32)) := ((Fld.ext E29 f4).keep K33 (ninS (Nat.ne_of_lt (Nat.lt_of_lt_of_eq X25.lt g29.symm)) nin0))
    have f14 : Fld Z h33 b25 "com/example/pagewright/pagewright/Page" "total" "J" (.long (0 : Int64)) := ((Fld.ext E29 f5).keep K33 (ninS (Nat.ne_of_lt (Nat.lt_of_lt_of_eq X25.lt g29.symm)) nin0))
    refine Gl.callN Y33 rfl (tw_31 hw) (tw_32 hw) (tw_4 hw) (tw_33 hw) (by decide) (rm5 l Z a0 hw [] b25 b29 nn v22 v16 h33 n0 Y33.sz f9 f10 f11 f12 f13 f14 sb25 f33_0 (Nat.ne_of_lt (Nat.lt_of_lt_of_eq X25.lt g29.symm))) (a := b25) (argsL := [(.ref b29), (.int nn), (.int v22), (.long v16)]) (rest := [(.ref b25)]) rfl rfl (lenOf pd_3 rfl) rfl (by decide) (Nat.le_of_ble_eq_true rfl) (by decide) (by decide) at_42 rfl (fun v42 T42 h42 Y42 q42 => ?_)
    obtain ⟨rfl, K42, f42_0, f42_1, f42_2⟩ := q42
    show Gl p e below _ (T42.setTop (mkF m 45 #[.val (.int md), .val (.long tt), .second, .val (.int si), .val (.int nn), .val (.long v16), .second, .val (.int v22), .unset, .unset, .unset, .unset, .unset] [(.ref b25)]))
    refine Gl.astore Y42 rfl (L' := #[.val (.int md), .val (.long tt), .second, .val (.int si), .val (.int nn), .val (.long v16), .second, .val (.int v22), .val (.ref b25), .unset, .unset, .unset, .unset]) rfl at_45 rfl ?_
    refine Gl.aload Y42 rfl rfl at_47 rfl ?_
    refine Gl.callV Y42 (tw_59 hw) (tw_60 hw) (tw_62 hw) (tw_62 hw) (tw_61 hw) (tw_4 hw) (tw_63 hw) (by decide) f42_0 (rm7 l Z a0 hw [] b25 v16 v22 h42 n0 Y42.sz f42_1 f42_2) (a := b25) (argsL := []) (rest := []) rfl rfl (lenOf pd_4 rfl) rfl (by decide) (Nat.le_of_ble_eq_true rfl) (by decide) (by decide) at_49 rfl (fun v49 T49 h49 Y49 q49 => ?_)
    obtain ⟨r49, rfl, p49, rfl⟩ := q49
    show Gl p e below _ (T49.setTop (mkF m 52 #[.val (.int md), .val (.long tt), .second, .val (.int si), .val (.int nn), .val (.long v16), .second, .val (.int v22), .val (.ref b25), .unset, .unset, .unset, .unset] [(.long r49)]))
    refine Gl.lstore Y49 (L' := #[.val (.int md), .val (.long tt), .second, .val (.int si), .val (.int nn), .val (.long v16), .second, .val (.int v22), .val (.ref b25), .val (.long r49), .second, .unset, .unset]) rfl at_52 rfl ?_
    refine Gl.lload Y49 rfl at_54 rfl ?_
    refine Gl.ldcJ Y49 (tw_68 hw) at_56 rfl ?_
    refine Gl.lcmpne Y49 at_59 rfl at_60 (by decide) rfl rfl (fun c60 => ?_) (fun c60 => ?_)
    rotate_left
    · exfalso; have j60 : v16.toInt = (-1) := congrArg Int64.toInt c60; omega
    have j60 : ¬ (v16.toInt = (-1)) := fun q => c60 (Int64.toInt_inj.mp q)
    refine Gl.lload Y49 rfl at_71 rfl ?_
    refine Gl.lconst Y49 (v := (0 : Int64)) (by decide) at_73 rfl ?_
    refine Gl.lcmpne Y49 at_74 rfl at_75 (by decide) rfl rfl (fun c75 => ?_) (fun c75 => ?_)
    · have j75 : ¬ (v16.toInt = 0) := fun q => c75 (Int64.toInt_inj.mp q)
      refine Gl.iload Y49 rfl at_84 rfl ?_
      refine Gl.ifne Y49 at_86 (by decide) rfl rfl (fun c86 => ?_) (fun c86 => ?_)
      · have j86 : ¬ (v22.toInt = 0) := fun q => c86 (Int32.toInt_inj.mp q)
        refine Gl.lload Y49 rfl at_95 rfl ?_
        refine Gl.lconst Y49 (v := (1 : Int64)) (by decide) at_97 rfl ?_
        obtain ⟨v98, hv98⟩ : ∃ z : Int64, v16 - (1 : Int64) = z := ⟨_, rfl⟩
        have iv98 : v98.toInt = v16.toInt - 1 := by
          have q : (v98.toInt - (v16.toInt - 1)) % 18446744073709551616 = 0 := by have q := c_lsub v16 (1 : Int64); rw [hv98] at q; exact q
          have r := rng64 v98
          omega
        refine Gl.lsub Y49 hv98 at_98 rfl ?_
        refine Gl.iload Y49 rfl at_99 rfl ?_
        obtain ⟨v101, hv101⟩ : ∃ z : Int64, v22.toInt64 = z := ⟨_, rfl⟩
        have iv101 : v101.toInt = v22.toInt := by have q := c_i2l v22; rw [hv101] at q; exact q
        refine Gl.i2l Y49 hv101 at_101 rfl ?_
        obtain ⟨v102, hv102⟩ : ∃ z : Int64, v98 / v101 = z := ⟨_, rfl⟩
        have nv102 := rng64 v102
        refine Gl.ldiv Y49 (hv101 ▸ own_nz c86) hv102 at_102 rfl ?_
        refine Gl.lconst Y49 (v := (1 : Int64)) (by decide) at_103 rfl ?_
        obtain ⟨v104, hv104⟩ : ∃ z : Int64, v102 + (1 : Int64) = z := ⟨_, rfl⟩
        have mv104 : (v104.toInt - (v102.toInt + 1)) % 18446744073709551616 = 0 := by have q := c_ladd v102 (1 : Int64); rw [hv104] at q; exact q
        have nv104 := rng64 v104
        refine Gl.ladd Y49 hv104 at_104 rfl ?_
        refine Gl.lstore Y49 (L' := #[.val (.int md), .val (.long tt), .second, .val (.int si), .val (.int nn), .val (.long v16), .second, .val (.int v22), .val (.ref b25), .val (.long r49), .second, .val (.long v104), .second]) rfl at_105 rfl ?_
        refine Gl.lload Y49 rfl at_107 rfl ?_
        refine Gl.lload Y49 rfl at_109 rfl ?_
        refine Gl.lcmpne Y49 at_111 rfl at_112 (by decide) rfl rfl (fun c112 => ?_) (fun c112 => ?_)
        · refine absurd ?_ c112
          rw [p49, if_neg c60, own_law v16 v22 (by omega) (by omega), if_neg c75, if_neg c86, hv98, hv101, hv102, hv104]
        have j112 : r49.toInt = v104.toInt := congrArg Int64.toInt c112
        refine Gl.iconst Y49 (v := (1 : Int32)) (by decide) at_115 rfl ?_
        refine Gl.goto Y49 at_116 (by decide) rfl ?_
        exact Gl.retZ Y49 (by decide) (by decide) (x' := (1 : Int32)) (by decide) at_120 rfl
      · have j86 : v22.toInt = 0 := congrArg Int32.toInt c86
        refine Gl.lconst Y49 (v := (1 : Int64)) (by decide) at_89 rfl ?_
        refine Gl.lstore Y49 (L' := #[.val (.int md), .val (.long tt), .second, .val (.int si), .val (.int nn), .val (.long v16), .second, .val (.int v22), .val (.ref b25), .val (.long r49), .second, .val (.long (1 : Int64)), .second]) rfl at_90 rfl ?_
        refine Gl.goto Y49 at_92 (by decide) rfl ?_
        refine Gl.lload Y49 rfl at_107 rfl ?_
        refine Gl.lload Y49 rfl at_109 rfl ?_
        refine Gl.lcmpne Y49 at_111 rfl at_112 (by decide) rfl rfl (fun c112 => ?_) (fun c112 => ?_)
        · refine absurd ?_ c112
          rw [p49, if_neg c60, own_law v16 v22 (by omega) (by omega), if_neg c75, if_pos c86]
        have j112 : r49.toInt = 1 := congrArg Int64.toInt c112
        refine Gl.iconst Y49 (v := (1 : Int32)) (by decide) at_115 rfl ?_
        refine Gl.goto Y49 at_116 (by decide) rfl ?_
        exact Gl.retZ Y49 (by decide) (by decide) (x' := (1 : Int32)) (by decide) at_120 rfl
    · have j75 : v16.toInt = 0 := congrArg Int64.toInt c75
      refine Gl.lconst Y49 (v := (0 : Int64)) (by decide) at_78 rfl ?_
      refine Gl.lstore Y49 (L' := #[.val (.int md), .val (.long tt), .second, .val (.int si), .val (.int nn), .val (.long v16), .second, .val (.int v22), .val (.ref b25), .val (.long r49), .second, .val (.long (0 : Int64)), .second]) rfl at_79 rfl ?_
      refine Gl.goto Y49 at_81 (by decide) rfl ?_
      refine Gl.lload Y49 rfl at_107 rfl ?_
      refine Gl.lload Y49 rfl at_109 rfl ?_
      refine Gl.lcmpne Y49 at_111 rfl at_112 (by decide) rfl rfl (fun c112 => ?_) (fun c112 => ?_)
      · refine absurd ?_ c112
        rw [p49, if_neg c60, own_law v16 v22 (by omega) (by omega), if_pos c75]
      have j112 : r49.toInt = 0 := congrArg Int64.toInt c112
      refine Gl.iconst Y49 (v := (1 : Int32)) (by decide) at_115 rfl ?_
      refine Gl.goto Y49 at_116 (by decide) rfl ?_
      exact Gl.retZ Y49 (by decide) (by decide) (x' := (1 : Int32)) (by decide) at_120 rfl
  · have j3 : ¬ (v2.toInt = 0) := fun q => c3 (Int32.toInt_inj.mp q)
    refine Gl.ldcJ Y0 (tw_68 hw) at_6 rfl ?_
    refine Gl.goto Y0 at_9 (by decide) rfl ?_
    refine Gl.lstore Y0 (L' := #[.val (.int md), .val (.long tt), .second, .val (.int si), .val (.int nn), .val (.long (-1 : Int64)), .second, .unset, .unset, .unset, .unset, .unset, .unset]) rfl at_17 rfl ?_
    refine Gl.iloadN Y0 rfl at_19 rfl ?_
    refine Gl.ldcI Y0 (tw_1 hw) at_20 rfl ?_
    obtain ⟨v22, hv22⟩ : ∃ z : Int32, si &&& (2147483647 : Int32) = z := ⟨_, rfl⟩
    have iv22 : v22.toInt = si.toInt % 2147483648 := by have q := c_mask si (2147483647 : Int32) 31 (by decide) (by decide); rw [hv22] at q; exact q
    refine Gl.iand Y0 hv22 at_22 rfl ?_
    refine Gl.istore Y0 (L' := #[.val (.int md), .val (.long tt), .second, .val (.int si), .val (.int nn), .val (.long (-1 : Int64)), .second, .val (.int v22), .unset, .unset, .unset, .unset, .unset]) rfl at_23 rfl ?_
    refine Gl.newO Y0 (tw_2 hw) (tw_3 hw) (tw_4 hw) (by decide) (by decide) at_25 rfl (fun T25 h25 b25 Y25 E25 g25 sb25 X25 D25 => ?_)
    have f15 : Fld Z h25 b25 "java/util/AbstractList" "modCount" "I" (.int (0 : Int32)) := D25 (Or.inl (tw_36 hw)) (ty := .int) (by decide)
    have f16 : Fld Z h25 b25 "com/example/pagewright/pagewright/Page" "rows" "Ljava/util/List;" .null := D25 (Or.inr (tw_52 hw)) (ty := (.object "java/util/List")) (by decide)
    have f17 : Fld Z h25 b25 "com/example/pagewright/pagewright/Page" "pageNumber" "I" (.int (0 : Int32)) := D25 (Or.inr (tw_54 hw)) (ty := .int) (by decide)
    have f18 : Fld Z h25 b25 "com/example/pagewright/pagewright/Page" "pageSize" "I" (.int (0 : Int32)) := D25 (Or.inr (tw_56 hw)) (ty := .int) (by decide)
    have f19 : Fld Z h25 b25 "com/example/pagewright/pagewright/Page" "total" "J" (.long (0 : Int64)) := D25 (Or.inr (tw_58 hw)) (ty := .long) (by decide)
    show Gl p e below _ (T25.setTop (mkF m 28 #[.val (.int md), .val (.long tt), .second, .val (.int si), .val (.int nn), .val (.long (-1 : Int64)), .second, .val (.int v22), .unset, .unset, .unset, .unset, .unset] [(.ref b25)]))
    refine Gl.dup Y25 rfl at_28 rfl ?_
    refine Gl.newO Y25 (tw_5 hw) (tw_6 hw) (tw_7 hw) (by decide) (by decide) at_29 rfl (fun T29 h29 b29 Y29 E29 g29 sb29 X29 D29 => ?_)
    have f20 : Fld Z h29 b29 "java/util/AbstractList" "modCount" "I" (.int (0 : Int32)) := D29 (Or.inl (tw_27 hw)) (ty := .int) (by decide)
    have f21 : Fld Z h29 b29 "java/util/ArrayList" "elementData" "[Ljava/lang/Object;" .null := D29 (Or.inl (tw_30 hw)) (ty := (.array (.object "java/lang/Object"))) (by decide)
    show Gl p e below _ (T29.setTop (mkF m 32 #[.val (.int md), .val (.long tt), .second, .val (.int si), .val (.int nn), .val (.long (-1 : Int64)), .second, .val (.int v22), .unset, .unset, .unset, .unset, .unset] [(.ref b29), (.ref b25), (.ref b25)]))
    refine Gl.dup Y29 rfl at_32 rfl ?_
    have f22 : Old Z n0 h29 := ((O.ext E25).ext E29)
    refine Gl.callN Y29 rfl (tw_8 hw) (tw_9 hw) (tw_7 hw) (tw_10 hw) (by decide) (rm3 l Z a0 hw [] b29 dc h29 n0 Y29.sz f22 S X29 f20 f21 sb29) (a := b29) (argsL := []) (rest := [(.ref b29), (.ref b25), (.ref b25)]) rfl rfl (lenOf pd_0 rfl) rfl (by decide) (Nat.le_of_ble_eq_true rfl) (by decide) (by decide) at_33 rfl (fun v33 T33 h33 Y33 q33 => ?_)
    obtain ⟨rfl, K33, f33_0⟩ := q33
    show Gl p e below _ (T33.setTop (mkF m 36 #[.val (.int md), .val (.long tt), .second, .val (.int si), .val (.int nn), .val (.long (-1 : Int64)), .second, .val (.int v22), .unset, .unset, .unset, .unset, .unset] [(.ref b29), (.ref b25), (.ref b25)]))
    refine Gl.iload Y33 rfl at_36 rfl ?_
    refine Gl.iload Y33 rfl at_38 rfl ?_
    refine Gl.lload Y33 rfl at_40 rfl ?_
    have f23 : Exa Z h33 b25 "com/example/pagewright/pagewright/Page" := ((Exa.ext E29 X25).keep K33)
    have f24 : Fld Z h33 b25 "java/util/AbstractList" "modCount" "I" (.int (0 : Int32)) := ((Fld.ext E29 f15).keep K33 (ninS (Nat.ne_of_lt (Nat.lt_of_lt_of_eq X25.lt g29.symm)) nin0))
    have f25 : Fld Z h33 b25 "com/example/pagewright/pagewright/Page" "rows" "Ljava/util/List;" .null := ((Fld.ext E29 f16).keep K33 (ninS (Nat.ne_of_lt (Nat.lt_of_lt_of_eq X25.lt g29.symm)) nin0))
    have f26 : Fld Z h33 b25 "com/example/pagewright/pagewright/Page" "pageNumber" "I" (.int (0 : Int32)) := ((Fld.ext E29 f17).keep K33 (ninS (Nat.ne_of_lt (Nat.lt_of_lt_of_eq X25.lt g29.symm)) nin0))
    have f27 : Fld Z h33 b25 "com/example/pagewright/pagewright/Page" "pageSize" "I" (.int (0 : Int32)) := ((Fld.ext E29 f18).keep K33 (ninS (Nat.ne_of_lt (Nat.lt_of_lt_of_eq X25.lt g29.symm)) nin0))
    have f28 : Fld Z h33 b25 "com/example/pagewright/pagewright/Page" "total" "J" (.long (0 : Int64)) := ((Fld.ext E29 f19).keep K33 (ninS (Nat.ne_of_lt (Nat.lt_of_lt_of_eq X25.lt g29.symm)) nin0))
    refine Gl.callN Y33 rfl (tw_31 hw) (tw_32 hw) (tw_4 hw) (tw_33 hw) (by decide) (rm5 l Z a0 hw [] b25 b29 nn v22 (-1 : Int64) h33 n0 Y33.sz f23 f24 f25 f26 f27 f28 sb25 f33_0 (Nat.ne_of_lt (Nat.lt_of_lt_of_eq X25.lt g29.symm))) (a := b25) (argsL := [(.ref b29), (.int nn), (.int v22), (.long (-1 : Int64))]) (rest := [(.ref b25)]) rfl rfl (lenOf pd_3 rfl) rfl (by decide) (Nat.le_of_ble_eq_true rfl) (by decide) (by decide) at_42 rfl (fun v42 T42 h42 Y42 q42 => ?_)
    obtain ⟨rfl, K42, f42_0, f42_1, f42_2⟩ := q42
    show Gl p e below _ (T42.setTop (mkF m 45 #[.val (.int md), .val (.long tt), .second, .val (.int si), .val (.int nn), .val (.long (-1 : Int64)), .second, .val (.int v22), .unset, .unset, .unset, .unset, .unset] [(.ref b25)]))
    refine Gl.astore Y42 rfl (L' := #[.val (.int md), .val (.long tt), .second, .val (.int si), .val (.int nn), .val (.long (-1 : Int64)), .second, .val (.int v22), .val (.ref b25), .unset, .unset, .unset, .unset]) rfl at_45 rfl ?_
    refine Gl.aload Y42 rfl rfl at_47 rfl ?_
    refine Gl.callV Y42 (tw_59 hw) (tw_60 hw) (tw_62 hw) (tw_62 hw) (tw_61 hw) (tw_4 hw) (tw_63 hw) (by decide) f42_0 (rm7 l Z a0 hw [] b25 (-1 : Int64) v22 h42 n0 Y42.sz f42_1 f42_2) (a := b25) (argsL := []) (rest := []) rfl rfl (lenOf pd_4 rfl) rfl (by decide) (Nat.le_of_ble_eq_true rfl) (by decide) (by decide) at_49 rfl (fun v49 T49 h49 Y49 q49 => ?_)
    obtain ⟨r49, rfl, p49, rfl⟩ := q49
    show Gl p e below _ (T49.setTop (mkF m 52 #[.val (.int md), .val (.long tt), .second, .val (.int si), .val (.int nn), .val (.long (-1 : Int64)), .second, .val (.int v22), .val (.ref b25), .unset, .unset, .unset, .unset] [(.long r49)]))
    refine Gl.lstore Y49 (L' := #[.val (.int md), .val (.long tt), .second, .val (.int si), .val (.int nn), .val (.long (-1 : Int64)), .second, .val (.int v22), .val (.ref b25), .val (.long r49), .second, .unset, .unset]) rfl at_52 rfl ?_
    refine Gl.lload Y49 rfl at_54 rfl ?_
    refine Gl.ldcJ Y49 (tw_68 hw) at_56 rfl ?_
    refine Gl.lcmpne Y49 at_59 rfl at_60 (by decide) rfl rfl (fun c60 => ?_) (fun c60 => ?_)
    · exact absurd c60 (by decide)
    refine Gl.ldcJ Y49 (tw_68 hw) at_63 rfl ?_
    refine Gl.lstore Y49 (L' := #[.val (.int md), .val (.long tt), .second, .val (.int si), .val (.int nn), .val (.long (-1 : Int64)), .second, .val (.int v22), .val (.ref b25), .val (.long r49), .second, .val (.long (-1 : Int64)), .second]) rfl at_66 rfl ?_
    refine Gl.goto Y49 at_68 (by decide) rfl ?_
    refine Gl.lload Y49 rfl at_107 rfl ?_
    refine Gl.lload Y49 rfl at_109 rfl ?_
    refine Gl.lcmpne Y49 at_111 rfl at_112 (by decide) rfl rfl (fun c112 => ?_) (fun c112 => ?_)
    · exact absurd (p49.trans (if_pos rfl)) c112
    have j112 : r49.toInt = (-1) := congrArg Int64.toInt c112
    refine Gl.iconst Y49 (v := (1 : Int32)) (by decide) at_115 rfl ?_
    refine Gl.goto Y49 at_116 (by decide) rfl ?_
    exact Gl.retZ Y49 (by decide) (by decide) (x' := (1 : Int32)) (by decide) at_120 rfl
set_option maxRecDepth 65536 in
set_option maxHeartbeats 40000000 in
theorem comes_1 {Post : Tables → Env → Array Value → State → Outcome → State → Prop} (hpost : ∀ tb e args s v u, (limb_1_1.after args s (.returned v) u = true ∧ limb_1_2.after args s (.returned v) u = true ∧ True) → ReturnedEndW s (.returned v) u (Jvm.fieldLocs frame_1_writes args s ++ Jvm.arrayLocs frame_1_arrays args s ++ Jvm.staticLocs frame_1_statics s) 16 1152 → Post tb e args s (.returned v) u) :
    ArmFor flags0 classFile x code maxLocals ret World_1 tables_1 room_1 Calls_1 rest_1 Pre_1 Post := by
  intro l hfl _ _ p e ha hc hk s m args below hf hA hF happ hP
  obtain ⟨hcalls, hrest, hpre⟩ := hP
  obtain ⟨-, -, -, hnamed, -, -, -, hat⟩ := (Spec.applies_iff hf).mp happ
  obtain ⟨hg, hn⟩ := and_e (Cond.before_iff.mp (show (Jvm.Cond.and given_1 narrow_1).before args s = true from hpre))
  obtain ⟨a0, g0⟩ := and_e hg
  obtain ⟨a1, g1⟩ := and_e g0
  obtain ⟨a2, g2⟩ := and_e g1
  obtain ⟨a3, g3⟩ := and_e g2
  obtain ⟨w0, w1, w2, w3, rfl⟩ : ∃ w0 w1 w2 w3 : Value, args = #[w0, w1, w2, w3] := by
    have hs : args.size = 4 := by simpa [Cond.value, given_1] using a0
    obtain ⟨L⟩ := args
    match L, hs with
    | [w0, w1, w2, w3], _ => exact ⟨w0, w1, w2, w3, rfl⟩
  have hw := fun d (hd : d ∈ tables_1) => atoms_spec (ws := Jvm.Cond.code x code maxLocals ret :: tables_1) hat d (List.mem_cons_of_mem _ hd)
  have hfit : Fit s := fun {y c} hc i hi => by
    obtain ⟨ha, rfl⟩ := Array.getElem?_eq_some_iff.mp hc
    have q := List.all_eq_true.mp ((Array.all_eq_true_iff_forall_mem.mp hF) _ (Array.getElem_mem ha)) i (List.mem_range.mpr hi)
    simpa [Array.getElem?_eq_getElem hi] using q
  obtain ⟨i0, e0⟩ := is_v a1
  obtain rfl : w0 = (.int i0) := Option.some.inj e0
  obtain ⟨i1, e1⟩ := isL_v a2
  obtain rfl : w1 = (.long i1) := Option.some.inj e1
  obtain ⟨i2, e2⟩ := is_v a3
  obtain rfl : w2 = (.int i2) := Option.some.inj e2
  obtain ⟨i3, e3⟩ := is_v g3
  obtain rfl : w3 = (.int i3) := Option.some.inj e3
  have hs := (atoms_of jdkStatics_1 (show (jdkStatics_1.foldr Jvm.Cond.and restOwn_1).before _ s = true from hrest)).1
  obtain ⟨dc, v_dc⟩ := arr_v (Cond.before_iff.mp (hs _ (List.mem_of_getElem? (i := 6) rfl)))
  have S_dc := Sta.start v_dc (Or.inr ⟨(tw_7 hw), hs _ (List.mem_of_getElem? (i := 2) rfl)⟩)
  obtain ⟨n, o, h1, h2, h3, v, L, rfl, ⟨hv, N⟩, hq⟩ := rmL l s _ hw tables_1 i0 i1 i2 i3 dc s.heap s.heap.size (Nat.le_refl _) (Old.start s) S_dc p e ha hc hk s m _ below hf ((Spec.applies_iff_loose hf).mp happ).1 ⟨rfl, State.Warmed39.refl s, rfl⟩ trivial
  obtain rfl : v = some (.int 1) := hv
  exact ⟨n, _, h1, h2, h3, hpost _ _ _ _ _ _ ⟨Cond.after_iff.mpr rfl, Cond.after_iff.mpr (eq_i res_at (Term.int_eval (1)) rfl), trivial⟩ ⟨hq.1, hq.2.1, hq.2.2.1, (hq.2.2.2.sift fun y hy => Or.inr (N y hy)).mono (by decide) (by decide)⟩⟩
theorem main_1_1 : Claimed_1_1 := comes_1 fun _ _ _ _ _ _ h hF => ⟨h.1, hF⟩
theorem main_1_2 : Claimed_1_2 := comes_1 fun _ _ _ _ _ _ h hF => ⟨h.2.1, hF⟩
end Jvm.Pilot.@@N@@
namespace Jvm.Pilot.@@N@@
open Jvm Jvm.ClassFile Sem Op Lib Jvm.Free Jvm.Stand Jvm.Pilot.@@N@@.Jvm.D
/-! MADE BY PROGRAM (witnessworld.py) out of the Statement's table words and the real class files: 22 classes; the members and pool entries that the words name. The judged class is class 1, her method 1. -/
namespace start1
open Jvm.ClassFile
def u (s : String) : CpInfo := .utf8 (stringToUtf16 s)
/-- a pool by its gaps: so many unusable entries, then the entry; so many at the end -/
def gap : Nat → List CpInfo → List CpInfo
  | 0, r => r
  | n + 1, r => .unusable :: gap n r
def poolList (es : List (Nat × CpInfo)) (last : Nat) : List CpInfo := es.foldr (fun e r => gap e.1 (e.2 :: r)) (gap last [])
def pool (es : List (Nat × CpInfo)) (last : Nat) : Array CpInfo := ⟨poolList es last⟩
def fileOf (pool : Array CpInfo) (this : Nat) (attrs : Array Attribute := #[]) (ms : Array MethodInfo := #[]) (fl : Nat := 33) (sup : Nat := 0) (ifs : Array Nat := #[]) (fds : Array FieldInfo := #[]) : ClassFile where
  minorVersion := 0
  majorVersion := 65
  constantPool := pool
  accessFlags := fl
  thisClass := this
  superClass := sup
  interfaces := ifs
  fields := fds
  methods := ms
  attributes := attrs
def plain (name : String) (sup : Option ClassId) : Class where
  name := name
  kind := .ordinary
  loader := none
  accessFlags := 33
  super := sup
  interfaces := #[]
  cf := none
  fields := #[]
  methods := #[]
  instanceTypes := #[]
  staticTypes := #[]
  resolved := #[]
  callSites := []
  init := .initialized
  statics := none
  mirror := none

def pool0 : Array CpInfo := pool [(5, u "<init>"), (0, u "()V"), (1, .class_ 10), (1, u "java/lang/Object")] 113

def k0c0 : Code := { maxStack := 0, maxLocals := 1, code := object_method_1_code, exceptionTable := #[], attributes := #[] }
def k0m0 : Method := { name := "<init>", desc := "()V", sig := { parameters := [], returnType := none }, accessFlags := 1, code := some k0c0 }
/-- java/lang/Object -/
def k0 : Class := { plain "java/lang/Object" none with
  accessFlags := 33
  interfaces := #[]
  cf := some (fileOf pool0 8 #[] #[{ accessFlags := 1, nameIndex := 5, descriptorIndex := 6, attributes := #[] }] 33 0 #[] #[])
  fields := #[]
  methods := #[k0m0]
  instanceTypes := #[]
  staticTypes := #[]
  resolved := Array.replicate 124 none
  statics := none }

def pool1 : Array CpInfo := pool [(2, .class_ 4), (0, .nameAndType 5 6), (0, u "java/lang/Object"), (0, u "<init>"), (0, u "()V"), (0, .long 18446744073709551615), (3, .long 9223372036854775807), (1, .integer 2147483647), (0, .class_ 15), (0, u "com/example/pagewright/pagewright/Page"), (0, .class_ 17), (0, u "java/util/ArrayList"), (0, .methodref 16 3), (0, .methodref 14 20), (0, .nameAndType 5 21), (0, u "(Ljava/util/List;IIJ)V"), (0, .methodref 14 23), (0, .nameAndType 24 25), (0, u "pages"), (0, u "()J"), (0, .class_ 27), (0, u "com/example/pagewright/pagewright/PagePagesPinLaw"), (2, u "law"), (0, u "(IJII)Z")] 3

def k1m0 : Method := { name := "<init>", desc := "()V", sig := { parameters := [], returnType := none }, accessFlags := 2, code := none }
def k1c1 : Code := { maxStack := 7, maxLocals := 13, code := code, exceptionTable := #[], attributes := #[] }
def k1m1 : Method := { name := "law", desc := "(IJII)Z", sig := { parameters := [.int, .long, .int, .int], returnType := some .boolean }, accessFlags := 9, code := some k1c1 }
/-- com/example/pagewright/pagewright/PagePagesPinLaw -/
def k1 : Class := { plain "com/example/pagewright/pagewright/PagePagesPinLaw" (some 0) with
  accessFlags := 49
  interfaces := #[]
  cf := some (fileOf pool1 26 #[] #[{ accessFlags := 2, nameIndex := 5, descriptorIndex := 6, attributes := #[] }, { accessFlags := 9, nameIndex := 30, descriptorIndex := 31, attributes := #[] }] 49 2 #[] #[])
  fields := #[]
  methods := #[k1m0, k1m1]
  instanceTypes := #[]
  staticTypes := #[]
  resolved := Array.replicate 35 none
  statics := none }

def pool2 : Array CpInfo := pool [(8, .class_ 10), (1, u "java/lang/Iterable"), (24, .class_ 36), (0, u "java/lang/Object")] 25

/-- java/lang/Iterable -/
def k2 : Class := { plain "java/lang/Iterable" (some 0) with
  accessFlags := 1537
  interfaces := #[]
  cf := some (fileOf pool2 8 #[] #[] 1537 35 #[] #[])
  fields := #[]
  methods := #[]
  instanceTypes := #[]
  staticTypes := #[]
  resolved := Array.replicate 62 none
  statics := none }

def pool3 : Array CpInfo := pool [(10, .class_ 12), (1, u "java/util/Collection"), (47, .class_ 61), (0, u "java/lang/Object"), (0, .class_ 63), (0, u "java/lang/Iterable")] 51

/-- java/util/Collection -/
def k3 : Class := { plain "java/util/Collection" (some 0) with
  accessFlags := 1537
  interfaces := #[2]
  cf := some (fileOf pool3 10 #[] #[] 1537 60 #[62] #[])
  fields := #[]
  methods := #[]
  instanceTypes := #[]
  staticTypes := #[]
  resolved := Array.replicate 115 none
  statics := none }

def pool4 : Array CpInfo := pool [(1, .methodref 2 3), (0, .class_ 4), (0, .nameAndType 5 6), (0, u "java/lang/Object"), (0, u "<init>"), (0, u "()V"), (1, .class_ 10), (1, u "java/util/AbstractCollection"), (66, .class_ 78), (0, u "java/util/Collection")] 81

def k4c0 : Code := { maxStack := 1, maxLocals := 1, code := jdk_22_method_1_code, exceptionTable := #[], attributes := #[] }
def k4m0 : Method := { name := "<init>", desc := "()V", sig := { parameters := [], returnType := none }, accessFlags := 4, code := some k4c0 }
/-- java/util/AbstractCollection -/
def k4 : Class := { plain "java/util/AbstractCollection" (some 0) with
  accessFlags := 1057
  interfaces := #[3]
  cf := some (fileOf pool4 8 #[] #[{ accessFlags := 4, nameIndex := 5, descriptorIndex := 6, attributes := #[] }] 1057 2 #[77] #[])
  fields := #[]
  methods := #[k4m0]
  instanceTypes := #[]
  staticTypes := #[]
  resolved := Array.replicate 160 none
  statics := none }

def pool5 : Array CpInfo := pool [(8, .class_ 10), (1, u "java/util/SequencedCollection"), (15, .class_ 27), (0, u "java/lang/Object"), (0, .class_ 29), (0, u "java/util/Collection")] 27

/-- java/util/SequencedCollection -/
def k5 : Class := { plain "java/util/SequencedCollection" (some 0) with
  accessFlags := 1537
  interfaces := #[3]
  cf := some (fileOf pool5 8 #[] #[] 1537 26 #[28] #[])
  fields := #[]
  methods := #[]
  instanceTypes := #[]
  staticTypes := #[]
  resolved := Array.replicate 57 none
  statics := none }

def pool6 : Array CpInfo := pool [(8, .class_ 10), (1, u "java/util/List"), (92, .class_ 104), (0, u "java/lang/Object"), (15, .class_ 121), (0, u "java/util/SequencedCollection")] 129

/-- java/util/List -/
def k6 : Class := { plain "java/util/List" (some 0) with
  accessFlags := 1537
  interfaces := #[5]
  cf := some (fileOf pool6 8 #[] #[] 1537 103 #[120] #[])
  fields := #[]
  methods := #[]
  instanceTypes := #[]
  staticTypes := #[]
  resolved := Array.replicate 251 none
  statics := none }

def pool7 : Array CpInfo := pool [(1, .methodref 2 3), (0, .class_ 4), (0, .nameAndType 5 6), (0, u "java/util/AbstractCollection"), (0, u "<init>"), (0, u "()V"), (0, .fieldref 8 9), (0, .class_ 10), (0, .nameAndType 11 12), (0, u "java/util/AbstractList"), (0, u "modCount"), (0, u "I"), (64, .class_ 78), (0, u "java/util/AbstractList$Itr"), (3, .class_ 83), (0, u "java/util/AbstractList$ListItr"), (9, .class_ 94), (0, u "java/util/AbstractList$RandomAccessSubList"), (3, .class_ 99), (0, u "java/util/AbstractList$SubList"), (33, .class_ 134), (0, u "java/util/List"), (73, .class_ 209), (0, u "java/util/AbstractList$SubList$1"), (0, .class_ 211), (0, u "java/util/AbstractList$RandomAccessSpliterator")] 6

def k7c0 : Code := { maxStack := 2, maxLocals := 1, code := jdk_39_method_1_code, exceptionTable := #[], attributes := #[] }
def k7m0 : Method := { name := "<init>", desc := "()V", sig := { parameters := [], returnType := none }, accessFlags := 4, code := some k7c0 }
/-- java/util/AbstractList -/
def k7 : Class := { plain "java/util/AbstractList" (some 4) with
  accessFlags := 1057
  interfaces := #[6]
  cf := some (fileOf pool7 8 #[.nestMembers #[93, 98, 208, 210, 82, 77]] #[{ accessFlags := 4, nameIndex := 5, descriptorIndex := 6, attributes := #[] }] 1057 2 #[133] #[{ accessFlags := 132, nameIndex := 11, descriptorIndex := 12, attributes := #[] }])
  fields := #[{ name := "modCount", type := .int, accessFlags := 132, slot := 0, constantValue := 0 }]
  methods := #[k7m0]
  instanceTypes := #[.int]
  staticTypes := #[]
  resolved := Array.replicate 218 none
  statics := none }

def pool8 : Array CpInfo := pool [(1, .class_ 2), (0, u "java/util/RandomAccess"), (0, .class_ 4), (0, u "java/lang/Object")] 2

/-- java/util/RandomAccess -/
def k8 : Class := { plain "java/util/RandomAccess" (some 0) with
  accessFlags := 1537
  interfaces := #[]
  cf := some (fileOf pool8 1 #[] #[] 1537 3 #[] #[])
  fields := #[]
  methods := #[]
  instanceTypes := #[]
  staticTypes := #[]
  resolved := Array.replicate 7 none
  statics := none }

def pool9 : Array CpInfo := pool [(1, .methodref 2 3), (0, .class_ 4), (0, .nameAndType 5 6), (0, u "java/util/AbstractList"), (0, u "<init>"), (0, u "()V"), (0, .string 8), (0, u "The paged call returned null, not a list"), (0, .methodref 10 11), (0, .class_ 12), (0, .nameAndType 13 14), (0, u "java/util/Objects"), (0, u "requireNonNull"), (0, u "(Ljava/lang/Object;Ljava/lang/String;)Ljava/lang/Object;"), (0, .class_ 16), (0, u "java/util/List"), (0, .fieldref 18 19), (0, .class_ 20), (0, .nameAndType 21 22), (0, u "com/example/pagewright/pagewright/Page"), (0, u "rows"), (0, u "Ljava/util/List;"), (0, .fieldref 18 24), (0, .nameAndType 25 26), (0, u "pageNumber"), (0, u "I"), (0, .fieldref 18 28), (0, .nameAndType 29 26), (0, u "pageSize"), (0, .fieldref 18 31), (0, .nameAndType 32 33), (0, u "total"), (0, u "J"), (8, .long 18446744073709551615), (1, .methodref 18 45), (0, .nameAndType 46 47), (0, u "pagesOf"), (0, u "(JI)J"), (0, .class_ 49), (0, u "java/util/RandomAccess"), (0, u "UNKNOWN"), (3, u "(Ljava/util/List;IIJ)V"), (4, u "()J"), (0, u "pages")] 4

def k9c0 : Code := { maxStack := 3, maxLocals := 6, code := prog_1_method_1_code, exceptionTable := #[], attributes := #[] }
def k9m0 : Method := { name := "<init>", desc := "(Ljava/util/List;IIJ)V", sig := { parameters := [(.object "java/util/List"), .int, .int, .long], returnType := none }, accessFlags := 0, code := some k9c0 }
def k9c1 : Code := { maxStack := 4, maxLocals := 1, code := prog_1_method_7_code, exceptionTable := #[], attributes := #[] }
def k9m1 : Method := { name := "pages", desc := "()J", sig := { parameters := [], returnType := some .long }, accessFlags := 1, code := some k9c1 }
def k9c2 : Code := { maxStack := 6, maxLocals := 3, code := prog_1_method_8_code, exceptionTable := #[], attributes := #[] }
def k9m2 : Method := { name := "pagesOf", desc := "(JI)J", sig := { parameters := [.long, .int], returnType := some .long }, accessFlags := 8, code := some k9c2 }
/-- com/example/pagewright/pagewright/Page -/
def k9 : Class := { plain "com/example/pagewright/pagewright/Page" (some 7) with
  accessFlags := 49
  interfaces := #[8]
  cf := some (fileOf pool9 18 #[] #[{ accessFlags := 0, nameIndex := 5, descriptorIndex := 54, attributes := #[] }, { accessFlags := 1, nameIndex := 60, descriptorIndex := 59, attributes := #[] }, { accessFlags := 8, nameIndex := 46, descriptorIndex := 47, attributes := #[] }] 49 2 #[48] #[{ accessFlags := 25, nameIndex := 50, descriptorIndex := 33, attributes := #[] }, { accessFlags := 18, nameIndex := 21, descriptorIndex := 22, attributes := #[] }, { accessFlags := 18, nameIndex := 25, descriptorIndex := 26, attributes := #[] }, { accessFlags := 18, nameIndex := 29, descriptorIndex := 26, attributes := #[] }, { accessFlags := 18, nameIndex := 32, descriptorIndex := 33, attributes := #[] }])
  fields := #[{ name := "UNKNOWN", type := .long, accessFlags := 25, slot := 0, constantValue := 0 }, { name := "rows", type := (.object "java/util/List"), accessFlags := 18, slot := 1, constantValue := 0 }, { name := "pageNumber", type := .int, accessFlags := 18, slot := 2, constantValue := 0 }, { name := "pageSize", type := .int, accessFlags := 18, slot := 3, constantValue := 0 }, { name := "total", type := .long, accessFlags := 18, slot := 4, constantValue := 0 }]
  methods := #[k9m0, k9m1, k9m2]
  instanceTypes := #[.int, (.object "java/util/List"), .int, .int, .long]
  staticTypes := #[.long]
  resolved := Array.replicate 65 none
  statics := none }

def pool10 : Array CpInfo := pool [(1, .class_ 2), (0, u "java/lang/Cloneable"), (0, .class_ 4), (0, u "java/lang/Object")] 2

/-- java/lang/Cloneable -/
def k10 : Class := { plain "java/lang/Cloneable" (some 0) with
  accessFlags := 1537
  interfaces := #[]
  cf := some (fileOf pool10 1 #[] #[] 1537 3 #[] #[])
  fields := #[]
  methods := #[]
  instanceTypes := #[]
  staticTypes := #[]
  resolved := Array.replicate 7 none
  statics := none }

def pool11 : Array CpInfo := pool [(1, .class_ 2), (0, u "java/io/Serializable"), (0, .class_ 4), (0, u "java/lang/Object")] 2

/-- java/io/Serializable -/
def k11 : Class := { plain "java/io/Serializable" (some 0) with
  accessFlags := 1537
  interfaces := #[]
  cf := some (fileOf pool11 1 #[] #[] 1537 3 #[] #[])
  fields := #[]
  methods := #[]
  instanceTypes := #[]
  staticTypes := #[]
  resolved := Array.replicate 7 none
  statics := none }

def pool12 : Array CpInfo := pool [(1, .methodref 2 3), (0, .class_ 4), (0, .nameAndType 5 6), (0, u "java/util/AbstractList"), (0, u "<init>"), (0, u "()V"), (2, .fieldref 10 11), (0, .class_ 12), (0, .nameAndType 13 14), (0, u "java/util/ArrayList"), (0, u "elementData"), (0, u "[Ljava/lang/Object;"), (2, u "EMPTY_ELEMENTDATA"), (21, .fieldref 10 40), (0, .nameAndType 41 14), (0, u "DEFAULTCAPACITY_EMPTY_ELEMENTDATA"), (8, u "size"), (0, u "I"), (96, .class_ 149), (0, u "java/util/List"), (112, .class_ 263), (0, u "java/util/ArrayList$ListItr"), (3, .class_ 268), (0, u "java/util/ArrayList$Itr"), (7, .class_ 277), (0, u "java/util/ArrayList$SubList"), (12, .class_ 291), (0, u "java/util/ArrayList$ArrayListSpliterator"), (37, .class_ 330), (0, u "java/util/RandomAccess"), (0, .class_ 332), (0, u "java/lang/Cloneable"), (0, .class_ 334), (0, u "java/io/Serializable"), (0, u "serialVersionUID"), (0, u "J"), (3, u "DEFAULT_CAPACITY"), (159, .class_ 501), (0, u "java/util/ArrayList$SubList$2"), (0, .class_ 503), (0, u "java/util/ArrayList$SubList$1")] 5

def k12c0 : Code := { maxStack := 2, maxLocals := 1, code := jdk_38_method_2_code, exceptionTable := #[], attributes := #[] }
def k12m0 : Method := { name := "<init>", desc := "()V", sig := { parameters := [], returnType := none }, accessFlags := 1, code := some k12c0 }
/-- java/util/ArrayList -/
def k12 : Class := { plain "java/util/ArrayList" (some 7) with
  accessFlags := 33
  interfaces := #[6, 8, 10, 11]
  cf := some (fileOf pool12 10 #[.nestMembers #[290, 276, 500, 502, 262, 267]] #[{ accessFlags := 1, nameIndex := 5, descriptorIndex := 6, attributes := #[] }] 33 2 #[148, 329, 331, 333] #[{ accessFlags := 26, nameIndex := 335, descriptorIndex := 336, attributes := #[] }, { accessFlags := 26, nameIndex := 340, descriptorIndex := 51, attributes := #[] }, { accessFlags := 26, nameIndex := 17, descriptorIndex := 14, attributes := #[] }, { accessFlags := 26, nameIndex := 41, descriptorIndex := 14, attributes := #[] }, { accessFlags := 128, nameIndex := 13, descriptorIndex := 14, attributes := #[] }, { accessFlags := 2, nameIndex := 50, descriptorIndex := 51, attributes := #[] }])
  fields := #[{ name := "serialVersionUID", type := .long, accessFlags := 26, slot := 0, constantValue := 0 }, { name := "DEFAULT_CAPACITY", type := .int, accessFlags := 26, slot := 1, constantValue := 0 }, { name := "EMPTY_ELEMENTDATA", type := (.array (.object "java/lang/Object")), accessFlags := 26, slot := 2, constantValue := 0 }, { name := "DEFAULTCAPACITY_EMPTY_ELEMENTDATA", type := (.array (.object "java/lang/Object")), accessFlags := 26, slot := 3, constantValue := 0 }, { name := "elementData", type := (.array (.object "java/lang/Object")), accessFlags := 128, slot := 1, constantValue := 0 }, { name := "size", type := .int, accessFlags := 2, slot := 2, constantValue := 0 }]
  methods := #[k12m0]
  instanceTypes := #[.int, (.array (.object "java/lang/Object")), .int]
  staticTypes := #[.long, .int, (.array (.object "java/lang/Object")), (.array (.object "java/lang/Object"))]
  resolved := Array.replicate 509 none
  statics := some 0 }

def pool13 : Array CpInfo := pool [(1, .class_ 2), (0, u "java/lang/Comparable"), (0, .class_ 4), (0, u "java/lang/Object")] 7

/-- java/lang/Comparable -/
def k13 : Class := { plain "java/lang/Comparable" (some 0) with
  accessFlags := 1537
  interfaces := #[]
  cf := some (fileOf pool13 1 #[] #[] 1537 3 #[] #[])
  fields := #[]
  methods := #[]
  instanceTypes := #[]
  staticTypes := #[]
  resolved := Array.replicate 12 none
  statics := none }

def pool14 : Array CpInfo := pool [(2, .class_ 4), (1, u "java/lang/CharSequence"), (42, .class_ 48), (0, u "java/lang/CharSequence$1CodePointIterator"), (10, .class_ 60), (0, u "java/lang/CharSequence$1CharIterator"), (5, .class_ 67), (0, u "java/lang/Object")] 63

/-- java/lang/CharSequence -/
def k14 : Class := { plain "java/lang/CharSequence" (some 0) with
  accessFlags := 1537
  interfaces := #[]
  cf := some (fileOf pool14 2 #[.nestMembers #[47, 59]] #[] 1537 66 #[] #[])
  fields := #[]
  methods := #[]
  instanceTypes := #[]
  staticTypes := #[]
  resolved := Array.replicate 131 none
  statics := none }

def pool15 : Array CpInfo := pool [(1, .class_ 2), (0, u "java/lang/constant/Constable"), (0, .class_ 4), (0, u "java/lang/Object")] 6

/-- java/lang/constant/Constable -/
def k15 : Class := { plain "java/lang/constant/Constable" (some 0) with
  accessFlags := 1537
  interfaces := #[]
  cf := some (fileOf pool15 1 #[] #[] 1537 3 #[] #[])
  fields := #[]
  methods := #[]
  instanceTypes := #[]
  staticTypes := #[]
  resolved := Array.replicate 11 none
  statics := none }

def pool16 : Array CpInfo := pool [(1, .class_ 2), (0, u "java/lang/constant/ConstantDesc"), (0, .class_ 4), (0, u "java/lang/Object")] 32

/-- java/lang/constant/ConstantDesc -/
def k16 : Class := { plain "java/lang/constant/ConstantDesc" (some 0) with
  accessFlags := 1537
  interfaces := #[]
  cf := some (fileOf pool16 1 #[] #[] 1537 3 #[] #[])
  fields := #[]
  methods := #[]
  instanceTypes := #[]
  staticTypes := #[]
  resolved := Array.replicate 37 none
  statics := none }

def pool17 : Array CpInfo := pool [(2, .class_ 4), (1, u "java/lang/Object"), (0, u "<init>"), (0, u "()V"), (3, .class_ 12), (1, u "java/lang/String"), (0, u "value"), (0, u "[B"), (2, u "coder"), (0, u "B"), (2, u "hash"), (0, u "I"), (2, u "hashIsZero"), (0, u "Z"), (13, u "COMPACT_STRINGS"), (534, .class_ 576), (0, u "java/lang/CharSequence"), (22, u "CASE_INSENSITIVE_ORDER"), (0, u "Ljava/util/Comparator;"), (500, u "serialPersistentFields"), (0, u "[Ljava/io/ObjectStreamField;"), (0, .class_ 1104), (0, u "java/lang/String$CaseInsensitiveComparator"), (1, .class_ 1107), (0, u "java/io/Serializable"), (0, .class_ 1109), (0, u "java/lang/Comparable"), (0, .class_ 1111), (0, u "java/lang/constant/Constable"), (0, .class_ 1113), (0, u "java/lang/constant/ConstantDesc"), (2, u "serialVersionUID"), (0, u "J"), (3, u "REPL"), (0, u "C"), (2, u "LATIN1"), (1, u "UTF16")] 323

def k17m0 : Method := { name := "<init>", desc := "()V", sig := { parameters := [], returnType := none }, accessFlags := 1, code := none }
/-- java/lang/String -/
def k17 : Class := { plain "java/lang/String" (some 0) with
  accessFlags := 49
  interfaces := #[11, 13, 14, 15, 16]
  cf := some (fileOf pool17 10 #[.nestMembers #[1103]] #[{ accessFlags := 1, nameIndex := 5, descriptorIndex := 6, attributes := #[] }] 49 2 #[1106, 1108, 575, 1110, 1112] #[{ accessFlags := 18, nameIndex := 13, descriptorIndex := 14, attributes := #[] }, { accessFlags := 18, nameIndex := 17, descriptorIndex := 18, attributes := #[] }, { accessFlags := 2, nameIndex := 21, descriptorIndex := 22, attributes := #[] }, { accessFlags := 2, nameIndex := 25, descriptorIndex := 26, attributes := #[] }, { accessFlags := 26, nameIndex := 1116, descriptorIndex := 1117, attributes := #[] }, { accessFlags := 24, nameIndex := 40, descriptorIndex := 26, attributes := #[] }, { accessFlags := 26, nameIndex := 1101, descriptorIndex := 1102, attributes := #[] }, { accessFlags := 26, nameIndex := 1121, descriptorIndex := 1122, attributes := #[] }, { accessFlags := 25, nameIndex := 599, descriptorIndex := 600, attributes := #[] }, { accessFlags := 24, nameIndex := 1125, descriptorIndex := 18, attributes := #[] }, { accessFlags := 24, nameIndex := 1127, descriptorIndex := 18, attributes := #[] }])
  fields := #[{ name := "value", type := (.array .byte), accessFlags := 18, slot := 0, constantValue := 0 }, { name := "coder", type := .byte, accessFlags := 18, slot := 1, constantValue := 0 }, { name := "hash", type := .int, accessFlags := 2, slot := 2, constantValue := 0 }, { name := "hashIsZero", type := .boolean, accessFlags := 2, slot := 3, constantValue := 0 }, { name := "serialVersionUID", type := .long, accessFlags := 26, slot := 0, constantValue := 0 }, { name := "COMPACT_STRINGS", type := .boolean, accessFlags := 24, slot := 1, constantValue := 0 }, { name := "serialPersistentFields", type := (.array (.object "java/io/ObjectStreamField")), accessFlags := 26, slot := 2, constantValue := 0 }, { name := "REPL", type := .char, accessFlags := 26, slot := 3, constantValue := 0 }, { name := "CASE_INSENSITIVE_ORDER", type := (.object "java/util/Comparator"), accessFlags := 25, slot := 4, constantValue := 0 }, { name := "LATIN1", type := .byte, accessFlags := 24, slot := 5, constantValue := 0 }, { name := "UTF16", type := .byte, accessFlags := 24, slot := 6, constantValue := 0 }]
  methods := #[k17m0]
  instanceTypes := #[(.array .byte), .byte, .int, .boolean]
  staticTypes := #[.long, .boolean, (.array (.object "java/io/ObjectStreamField")), .char, (.object "java/util/Comparator"), .byte, .byte]
  resolved := Array.replicate 1451 none
  statics := none }

def pool18 : Array CpInfo := pool [(2, .class_ 4), (1, u "java/lang/Object"), (0, u "<init>"), (0, u "()V"), (35, .class_ 44), (1, u "java/util/Objects"), (0, u "requireNonNull"), (48, u "(Ljava/lang/Object;Ljava/lang/String;)Ljava/lang/Object;")] 89

def k18m0 : Method := { name := "<init>", desc := "()V", sig := { parameters := [], returnType := none }, accessFlags := 2, code := none }
def k18c1 : Code := { maxStack := 3, maxLocals := 2, code := jdk_31_method_11_code, exceptionTable := #[], attributes := #[] }
def k18m1 : Method := { name := "requireNonNull", desc := "(Ljava/lang/Object;Ljava/lang/String;)Ljava/lang/Object;", sig := { parameters := [(.object "java/lang/Object"), (.object "java/lang/String")], returnType := some (.object "java/lang/Object") }, accessFlags := 9, code := some k18c1 }
/-- java/util/Objects -/
def k18 : Class := { plain "java/util/Objects" (some 0) with
  accessFlags := 49
  interfaces := #[]
  cf := some (fileOf pool18 42 #[] #[{ accessFlags := 2, nameIndex := 5, descriptorIndex := 6, attributes := #[] }, { accessFlags := 9, nameIndex := 45, descriptorIndex := 94, attributes := #[] }] 49 2 #[] #[])
  fields := #[]
  methods := #[k18m0, k18m1]
  instanceTypes := #[]
  staticTypes := #[]
  resolved := Array.replicate 184 none
  statics := none }

/-- the primitive byte -/
def k19 : Class := { plain "byte" none with kind := .primitive 'B', accessFlags := 0x411 }
/-- [B -/
def k20 : Class := { plain "[B" (some 0) with kind := .array 19 .byte, interfaces := #[10, 11], accessFlags := 1041 }

/-- [Ljava/lang/Object; -/
def k21 : Class := { plain "[Ljava/lang/Object;" (some 0) with kind := .array 0 (.object "java/lang/Object"), interfaces := #[10, 11], accessFlags := 1041 }

def heap : Heap := #[{ cls := 12, slots := #[.long 0, .int 0, .ref 1, .ref 2], vm := .statics 12 },
  { cls := 21, slots := #[], vm := .none },
  { cls := 21, slots := #[], vm := .none }]
def classes : Array Class := #[k0, k1, k2, k3, k4, k5, k6, k7, k8, k9, k10, k11, k12, k13, k14, k15, k16, k17, k18, k19, k20, k21]
def interned : List (Array UInt16 × Addr) := []
def slotsUsed : Nat := 4
def theMethod : MethodId := ⟨1, 1⟩
def args0 : Array Value := #[.int 7, .long 9, .int 3, .int 128]
def aboutOver (below : List Frame) : State where
  vm := { classes := classes, interned := interned.toArray }
  heap := heap
  slotsUsed := slotsUsed
  threads := #[{ frames := .invoking theMethod args0 :: below }]
def below0 : List Frame := [.native { method := ⟨0, 0⟩, args := #[] }]
def about1 : State := aboutOver below0
def p0 : Program := .bare "" "" ""
def e0 : Env := launch0.env 0 0 0
theorem w_frames : about1.frames = Frame.invoking theMethod args0 :: below0 := rfl
set_option maxRecDepth 65536 in
theorem w_args : argsFit about1.vm theMethod args0 = true := by decide +kernel
set_option maxRecDepth 65536 in
theorem w_heap : heapFits about1 = true := by decide +kernel
set_option maxRecDepth 65536 in
theorem w_runnable : about1.curStatus? = some .runnable := by decide +kernel
set_option maxRecDepth 65536 in
theorem w_alone : about1.alone = true := by decide +kernel
set_option maxRecDepth 65536 in
theorem w_named : about1.methodNamed? x = some theMethod := by decide +kernel
set_option maxRecDepth 65536 in
theorem w_hears : about1.hears theMethod below0 = true := by decide +kernel
set_option maxRecDepth 65536 in
theorem w_ripe : about1.ripe theMethod args0 below0 = true := by decide +kernel
theorem w_running : about1.status = .running := rfl
set_option maxRecDepth 65536 in
theorem w_room : about1.hasRoom e0.platform room_1 = true :=
  launch0.hasRoom_least _ room_1 (by decide +kernel) (by decide +kernel) (by decide +kernel) (by decide +kernel) (by decide +kernel) (by decide +kernel)
theorem allAtoms_all (ts : List Jvm.Cond) (a : Array Jvm.Value) (st : Jvm.State) : (allAtoms ts).before a st = ts.all (fun c => c.before a st) := by
  induction ts with
  | nil => rfl
  | cons c t ih =>
    show (Jvm.Cond.and c (allAtoms t)).before a st = _
    rw [Jvm.Cond.before_and, ih, List.all_cons]
def words1 : List Jvm.Cond := Jvm.Cond.code x code maxLocals ret :: tables_1
/-- a 'code' word, met by the world's own term for the bytes: nothing is compared byte by byte -/
theorem code_word {y : MethodName} {bytes : ByteArray} {mx : Nat} {rt : Option FieldType} {a : Array Value} {s : State} {m : MethodId} {meth : Method} {c : Code} (h1 : s.methodNamed? y = some m) (h2 : s.vm.method? m = some meth) (h3 : meth.code = some c) (h4 : c.code = bytes)
    (h5 : (c.maxLocals == mx && c.exceptionTable.isEmpty && decide (c.maxStack ≤ mostOperands) && decide (meth.sig.returnType = rt) && !meth.locks && decide (parseMethodDescriptor y.desc = some meth.sig)) = true) : (Jvm.Cond.code y bytes mx rt).before a s = true := by
  simp only [Bool.and_eq_true, beq_iff_eq, Bool.not_eq_true', decide_eq_true_eq] at h5
  obtain ⟨⟨⟨⟨⟨g1, g2⟩, g3⟩, g4⟩, g5⟩, g6⟩ := h5
  simp [Cond.before, Cond.holds, Cond.value, h1, h2, h3, h4, g1, g2, g3, g4, g5, g6]
def isCode : Jvm.Cond → Bool
  | .code _ _ _ _ => true
  | _ => false
theorem all_split {L : List Jvm.Cond} {P : Jvm.Cond → Bool} (h1 : L.all (fun c => isCode c || P c) = true) (h2 : ∀ c ∈ L.filter isCode, P c = true) : L.all P = true := by
  refine List.all_eq_true.mpr fun c hc => ?_
  have h := List.all_eq_true.mp h1 c hc
  rcases Bool.eq_false_or_eq_true (isCode c) with hi | hi
  · exact h2 c (List.mem_filter.mpr ⟨hc, hi⟩)
  · simpa [hi] using h
set_option maxRecDepth 65536 in
theorem w_c0 : (Jvm.Cond.code x code maxLocals ret).before args0 about1 = true := code_word (m := ⟨1, 1⟩) (meth := k1m1) (c := k1c1) (by decide +kernel) rfl rfl rfl (by decide +kernel)
set_option maxRecDepth 65536 in
theorem w_c1 : (Jvm.Cond.code ({ cls := "java/util/ArrayList", name := "<init>", desc := "()V" } : Jvm.MethodName) jdk_38_method_2_code (1 : Nat) (Option.none : Option Jvm.ClassFile.FieldType)).before args0 about1 = true := code_word (m := ⟨12, 0⟩) (meth := k12m0) (c := k12c0) (by decide +kernel) rfl rfl rfl (by decide +kernel)
set_option maxRecDepth 65536 in
theorem w_c2 : (Jvm.Cond.code ({ cls := "java/util/AbstractList", name := "<init>", desc := "()V" } : Jvm.MethodName) jdk_39_method_1_code (1 : Nat) (Option.none : Option Jvm.ClassFile.FieldType)).before args0 about1 = true := code_word (m := ⟨7, 0⟩) (meth := k7m0) (c := k7c0) (by decide +kernel) rfl rfl rfl (by decide +kernel)
set_option maxRecDepth 65536 in
theorem w_c3 : (Jvm.Cond.code ({ cls := "java/util/AbstractCollection", name := "<init>", desc := "()V" } : Jvm.MethodName) jdk_22_method_1_code (1 : Nat) (Option.none : Option Jvm.ClassFile.FieldType)).before args0 about1 = true := code_word (m := ⟨4, 0⟩) (meth := k4m0) (c := k4c0) (by decide +kernel) rfl rfl rfl (by decide +kernel)
set_option maxRecDepth 65536 in
theorem w_c4 : (Jvm.Cond.code ({ cls := "java/lang/Object", name := "<init>", desc := "()V" } : Jvm.MethodName) object_method_1_code (1 : Nat) (Option.none : Option Jvm.ClassFile.FieldType)).before args0 about1 = true := code_word (m := ⟨0, 0⟩) (meth := k0m0) (c := k0c0) (by decide +kernel) rfl rfl rfl (by decide +kernel)
set_option maxRecDepth 65536 in
theorem w_c5 : (Jvm.Cond.code ({ cls := "com/example/pagewright/pagewright/Page", name := "<init>", desc := "(Ljava/util/List;IIJ)V" } : Jvm.MethodName) prog_1_method_1_code (6 : Nat) (Option.none : Option Jvm.ClassFile.FieldType)).before args0 about1 = true := code_word (m := ⟨9, 0⟩) (meth := k9m0) (c := k9c0) (by decide +kernel) rfl rfl rfl (by decide +kernel)
set_option maxRecDepth 65536 in
theorem w_c6 : (Jvm.Cond.code ({ cls := "java/util/Objects", name := "requireNonNull", desc := "(Ljava/lang/Object;Ljava/lang/String;)Ljava/lang/Object;" } : Jvm.MethodName) jdk_31_method_11_code (2 : Nat) (Option.some (Jvm.ClassFile.FieldType.object "java/lang/Object"))).before args0 about1 = true := code_word (m := ⟨18, 1⟩) (meth := k18m1) (c := k18c1) (by decide +kernel) rfl rfl rfl (by decide +kernel)
set_option maxRecDepth 65536 in
theorem w_c7 : (Jvm.Cond.code ({ cls := "com/example/pagewright/pagewright/Page", name := "pages", desc := "()J" } : Jvm.MethodName) prog_1_method_7_code (1 : Nat) (Option.some Jvm.ClassFile.FieldType.long)).before args0 about1 = true := code_word (m := ⟨9, 1⟩) (meth := k9m1) (c := k9c1) (by decide +kernel) rfl rfl rfl (by decide +kernel)
set_option maxRecDepth 65536 in
theorem w_c8 : (Jvm.Cond.code ({ cls := "com/example/pagewright/pagewright/Page", name := "pagesOf", desc := "(JI)J" } : Jvm.MethodName) prog_1_method_8_code (3 : Nat) (Option.some Jvm.ClassFile.FieldType.long)).before args0 about1 = true := code_word (m := ⟨9, 2⟩) (meth := k9m2) (c := k9c2) (by decide +kernel) rfl rfl rfl (by decide +kernel)
def codes1 : List Jvm.Cond := [Jvm.Cond.code x code maxLocals ret, Jvm.Cond.code ({ cls := "java/util/ArrayList", name := "<init>", desc := "()V" } : Jvm.MethodName) jdk_38_method_2_code (1 : Nat) (Option.none : Option Jvm.ClassFile.FieldType), Jvm.Cond.code ({ cls := "java/util/AbstractList", name := "<init>", desc := "()V" } : Jvm.MethodName) jdk_39_method_1_code (1 : Nat) (Option.none : Option Jvm.ClassFile.FieldType), Jvm.Cond.code ({ cls := "java/util/AbstractCollection", name := "<init>", desc := "()V" } : Jvm.MethodName) jdk_22_method_1_code (1 : Nat) (Option.none : Option Jvm.ClassFile.FieldType), Jvm.Cond.code ({ cls := "java/lang/Object", name := "<init>", desc := "()V" } : Jvm.MethodName) object_method_1_code (1 : Nat) (Option.none : Option Jvm.ClassFile.FieldType), Jvm.Cond.code ({ cls := "com/example/pagewright/pagewright/Page", name := "<init>", desc := "(Ljava/util/List;IIJ)V" } : Jvm.MethodName) prog_1_method_1_code (6 : Nat) (Option.none : Option Jvm.ClassFile.FieldType), Jvm.Cond.code ({ cls := "java/util/Objects", name := "requireNonNull", desc := "(Ljava/lang/Object;Ljava/lang/String;)Ljava/lang/Object;" } : Jvm.MethodName) jdk_31_method_11_code (2 : Nat) (Option.some (Jvm.ClassFile.FieldType.object "java/lang/Object")), Jvm.Cond.code ({ cls := "com/example/pagewright/pagewright/Page", name := "pages", desc := "()J" } : Jvm.MethodName) prog_1_method_7_code (1 : Nat) (Option.some Jvm.ClassFile.FieldType.long), Jvm.Cond.code ({ cls := "com/example/pagewright/pagewright/Page", name := "pagesOf", desc := "(JI)J" } : Jvm.MethodName) prog_1_method_8_code (3 : Nat) (Option.some Jvm.ClassFile.FieldType.long)]
set_option maxRecDepth 65536 in
theorem codes_eq : words1.filter isCode = codes1 := rfl
theorem w_codes : ∀ c ∈ words1.filter isCode, c.before args0 about1 = true := by
  rw [codes_eq]
  intro c hc
  simp only [codes1, List.mem_cons, List.not_mem_nil, or_false] at hc
  rcases hc with rfl | rfl | rfl | rfl | rfl | rfl | rfl | rfl | rfl
  · exact w_c0
  · exact w_c1
  · exact w_c2
  · exact w_c3
  · exact w_c4
  · exact w_c5
  · exact w_c6
  · exact w_c7
  · exact w_c8
set_option maxRecDepth 65536 in
theorem w_t1 : (words1.take 24).all (fun c => isCode c || c.before args0 about1) = true := by decide +kernel
set_option maxRecDepth 65536 in
theorem w_t2 : ((words1.drop 24).take 24).all (fun c => isCode c || c.before args0 about1) = true := by decide +kernel
set_option maxRecDepth 65536 in
theorem w_t3 : ((words1.drop 24).drop 24).all (fun c => isCode c || c.before args0 about1) = true := by decide +kernel
theorem w_tables : (allAtoms (Jvm.Cond.code x code maxLocals ret :: tables_1)).before args0 about1 = true := by
  rw [allAtoms_all]
  show words1.all (fun c => c.before args0 about1) = true
  refine all_split ?_ w_codes
  rw [← List.take_append_drop 24 words1, List.all_append, w_t1, ← List.take_append_drop 24 (words1.drop 24), List.all_append, w_t2, w_t3]
  rfl
set_option maxRecDepth 65536 in
theorem w_rest : rest_1_c.before args0 about1 = true := by decide +kernel
set_option maxRecDepth 65536 in
theorem w_case : (Jvm.Cond.and given_1 narrow_1).before args0 about1 = true := by decide +kernel
theorem w_applies : (headSpec (Jvm.Cond.code x code maxLocals ret :: tables_1) room_1).applies x e0.platform about1 = true :=
  (Spec.applies_iff w_frames).mpr ⟨w_running, w_runnable, w_alone, w_named, w_hears, w_ripe, w_room, w_tables⟩
theorem atStart : AtStart classFile x code maxLocals ret World_1 tables_1 room_1 Calls_1 rest_1 Pre_1 launch0 p0 e0 about1 theMethod args0 below0 :=
  ⟨lists_1, trivial, launch0.admits_env _ _ _, launch0.least_env, fairChoices_fair.cas, fairChoices_fair.clock, w_frames, w_args, w_heap, w_applies, trivial, w_rest, w_case⟩
end start1
theorem witness_1 : WitnessClaimed_1 := ⟨start1.p0, start1.e0, start1.about1, start1.theMethod, start1.args0, start1.below0, start1.atStart⟩
end Jvm.Pilot.@@N@@
