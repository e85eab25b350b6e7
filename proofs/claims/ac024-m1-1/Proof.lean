import JvmDerived
import JvmDerived.Pilot.@@N@@Statement
import JvmDerived.Pilot.@@N@@Code
set_option linter.unusedVariables false
set_option linter.unusedSimpArgs false
namespace Jvm.Pilot.@@N@@
open Jvm Jvm.ClassFile Sem Op Lib Jvm.Free Jvm.Stand Jvm.LawKit Jvm.RoadKit Bundle Jvm.Pilot.@@N@@.Jvm.D
/-! A walk in continuation form, over the library's family of laws (Stand, XS, RoadKit). -/
theorem own_w {Z : State} {a0 : Array Value} (hw : ∀ d ∈ tables_1, d.before a0 Z = true) {d : Jvm.Cond} (i : Nat) (q : tables_1[i]? = some d) : d.before a0 Z = true := hw d (List.mem_of_getElem? q)
section OwnKit
variable {p : Program} {l : Launch} {e : Env} {R : Room} {s : State} {m : MethodId} {args : Array Value} {below : List Frame} {meth : Method} {c : Code} {Z : State} {n0 : Nat} {own : String} {bytes : ByteArray} {ml : Nat} {rt : Option FieldType} {nm : String} {Q : Option Value → Heap → Prop} {h : Heap} {k n : Nat} {pc pc' : Nat} {Ls Ls' : Array Slot} {st rest : List Value} {a0 : Array Value} {f f' : JFrame}
/-- what is left of a body's run from S: it returns, Q holds of the value and the heap, only places at or above n0 were written -/
def own_Fin (p : Program) (e : Env) (R : Room) (s : State) (below : List Frame) (n0 : Nat) (Q : Option Value → Heap → Prop) (S : State) : Prop :=
  ∃ s₂ o, Steps p.tables e below S s₂ ∧ s₂.status = .running ∧ Ended s₂ below o ∧ ∃ v L, o = .returned v ∧ (Q v s₂.heap ∧ Fr n0 L) ∧ FrameEnd s o s₂ L R.cells R.slots
/-- what is known of the body that is walked -/
def own_Cx (Z : State) (p : Program) (s : State) (m : MethodId) (meth : Method) (c : Code) (own : String) (bytes : ByteArray) (ml : Nat) (rt : Option FieldType) (nm : String) : Prop :=
  p.tables.exec = Jvm.exec ∧ Z.Warmed39 s.vm ∧ s.vm.findClass own = some m.cls ∧ c.code = bytes ∧ c.maxLocals = ml ∧ meth.sig.returnType = rt ∧ meth.locks = false ∧ meth.name = nm
/-- from the frame f over the heap h (k cells and n slots made so far) the body ends well -/
def own_At (p : Program) (l : Launch) (e : Env) (R : Room) (s : State) (m : MethodId) (args : Array Value) (below : List Frame) (meth : Method) (c : Code) (n0 : Nat) (Q : Option Value → Heap → Prop) (h : Heap) (k n : Nat) (f : JFrame) : Prop :=
  ∀ T L, Stand p l e R s m args below meth c T L k n → Fr n0 L → T.heap = h → own_Fin p e R s below n0 Q (T.setTop f)
theorem own_via {S S' : State} (H : ∀ t, Steps p.tables e below S' t → Steps p.tables e below S t) (K : own_Fin p e R s below n0 Q S') : own_Fin p e R s below n0 Q S := by
  obtain ⟨s₂, o, h1, r⟩ := K
  exact ⟨s₂, o, H _ h1, r⟩
theorem own_of (H : ∀ T L, Stand p l e R s m args below meth c T L k n → ∀ t, Steps p.tables e below (T.setTop f') t → Steps p.tables e below (T.setTop f) t) (K : own_At p l e R s m args below meth c n0 Q h k n f') : own_At p l e R s m args below meth c n0 Q h k n f :=
  fun T L X N eT => own_via (H T L X) (K T L X N eT)
theorem own_eq (q : f = f') (K : own_At p l e R s m args below meth c n0 Q h k n f') : own_At p l e R s m args below meth c n0 Q h k n f := q ▸ K
/-! ### plain steps -/
theorem own_iloadN (C : own_Cx Z p s m meth c own bytes ml rt nm) {i : Fin 4} {v : Int32} (hd : decode bytes pc = .ok (.iload_n i, 1)) (hl : Ls[i.val]? = some (.val (.int v))) (hp : pc + 1 = pc')
    (K : own_At p l e R s m args below meth c n0 Q h k n (mkF m pc' Ls (.int v :: st))) : own_At p l e R s m args below meth c n0 Q h k n (mkF m pc Ls st) := by
  subst hp; exact own_of (fun T L X t hr => XS.iloadN X.here C.1 rfl (hb C.2.2.2.1 hd) hl hr) K
theorem own_iload (C : own_Cx Z p s m meth c own bytes ml rt nm) {i : Nat} {v : Int32} (hd : decode bytes pc = .ok (.iload i, 2)) (hl : Ls[i]? = some (.val (.int v))) (hp : pc + 2 = pc')
    (K : own_At p l e R s m args below meth c n0 Q h k n (mkF m pc' Ls (.int v :: st))) : own_At p l e R s m args below meth c n0 Q h k n (mkF m pc Ls st) := by
  subst hp; exact own_of (fun T L X t hr => XS.iload X.here C.1 rfl (hb C.2.2.2.1 hd) hl hr) K
theorem own_aloadN (C : own_Cx Z p s m meth c own bytes ml rt nm) {i : Fin 4} {v : Value} (hd : decode bytes pc = .ok (.aload_n i, 1)) (hl : Ls[i.val]? = some (.val v)) (hv : v.isRef = true) (hp : pc + 1 = pc')
    (K : own_At p l e R s m args below meth c n0 Q h k n (mkF m pc' Ls (v :: st))) : own_At p l e R s m args below meth c n0 Q h k n (mkF m pc Ls st) := by
  subst hp; exact own_of (fun T L X t hr => XS.aloadN X.here C.1 rfl (hb C.2.2.2.1 hd) hl hv hr) K
theorem own_aload (C : own_Cx Z p s m meth c own bytes ml rt nm) {i : Nat} {v : Value} (hd : decode bytes pc = .ok (.aload i, 2)) (hl : Ls[i]? = some (.val v)) (hv : v.isRef = true) (hp : pc + 2 = pc')
    (K : own_At p l e R s m args below meth c n0 Q h k n (mkF m pc' Ls (v :: st))) : own_At p l e R s m args below meth c n0 Q h k n (mkF m pc Ls st) := by
  subst hp; exact own_of (fun T L X t hr => XS.aload X.here C.1 rfl (hb C.2.2.2.1 hd) hl hv hr) K
theorem own_istoreN (C : own_Cx Z p s m meth c own bytes ml rt nm) {i : Fin 4} {v : Int32} (hd : decode bytes pc = .ok (.istore_n i, 1)) (hl : storeLocals Ls i.val (.int v) = some Ls') (hp : pc + 1 = pc')
    (K : own_At p l e R s m args below meth c n0 Q h k n (mkF m pc' Ls' st)) : own_At p l e R s m args below meth c n0 Q h k n (mkF m pc Ls (.int v :: st)) := by
  subst hp; exact own_of (fun T L X t hr => XS.istoreN X.here C.1 rfl (hb C.2.2.2.1 hd) rfl hl hr) K
theorem own_istore (C : own_Cx Z p s m meth c own bytes ml rt nm) {i : Nat} {v : Int32} (hd : decode bytes pc = .ok (.istore i, 2)) (hl : storeLocals Ls i (.int v) = some Ls') (hp : pc + 2 = pc')
    (K : own_At p l e R s m args below meth c n0 Q h k n (mkF m pc' Ls' st)) : own_At p l e R s m args below meth c n0 Q h k n (mkF m pc Ls (.int v :: st)) := by
  subst hp; exact own_of (fun T L X t hr => XS.istore X.here C.1 rfl (hb C.2.2.2.1 hd) rfl hl hr) K
theorem own_astoreN (C : own_Cx Z p s m meth c own bytes ml rt nm) {i : Fin 4} {v : Value} (hd : decode bytes pc = .ok (.astore_n i, 1)) (hv : v.isRef = true) (hl : storeLocals Ls i.val v = some Ls') (hp : pc + 1 = pc')
    (K : own_At p l e R s m args below meth c n0 Q h k n (mkF m pc' Ls' st)) : own_At p l e R s m args below meth c n0 Q h k n (mkF m pc Ls (v :: st)) := by
  subst hp; exact own_of (fun T L X t hr => XS.astoreN X.here C.1 rfl (hb C.2.2.2.1 hd) rfl hv hl hr) K
theorem own_astore (C : own_Cx Z p s m meth c own bytes ml rt nm) {i : Nat} {v : Value} (hd : decode bytes pc = .ok (.astore i, 2)) (hv : v.isRef = true) (hl : storeLocals Ls i v = some Ls') (hp : pc + 2 = pc')
    (K : own_At p l e R s m args below meth c n0 Q h k n (mkF m pc' Ls' st)) : own_At p l e R s m args below meth c n0 Q h k n (mkF m pc Ls (v :: st)) := by
  subst hp; exact own_of (fun T L X t hr => XS.astore X.here C.1 rfl (hb C.2.2.2.1 hd) rfl hv hl hr) K
theorem own_iconst (C : own_Cx Z p s m meth c own bytes ml rt nm) {i : Int} {v : Int32} (hd : decode bytes pc = .ok (.iconst i, 1)) (hv : Int32.ofInt i = v) (hp : pc + 1 = pc')
    (K : own_At p l e R s m args below meth c n0 Q h k n (mkF m pc' Ls (.int v :: st))) : own_At p l e R s m args below meth c n0 Q h k n (mkF m pc Ls st) := by
  subst hp hv; exact own_of (fun T L X t hr => XS.iconst X.here C.1 rfl (hb C.2.2.2.1 hd) hr) K
theorem own_bipush (C : own_Cx Z p s m meth c own bytes ml rt nm) {i : Int} {v : Int32} (hd : decode bytes pc = .ok (.bipush i, 2)) (hv : (Int8.ofInt i).toInt32 = v) (hp : pc + 2 = pc')
    (K : own_At p l e R s m args below meth c n0 Q h k n (mkF m pc' Ls (.int v :: st))) : own_At p l e R s m args below meth c n0 Q h k n (mkF m pc Ls st) := by
  subst hp hv; exact own_of (fun T L X t hr => XS.bipush X.here C.1 rfl (hb C.2.2.2.1 hd) hr) K
theorem own_sipush (C : own_Cx Z p s m meth c own bytes ml rt nm) {i : Int} {v : Int32} (hd : decode bytes pc = .ok (.sipush i, 3)) (hv : (Int16.ofInt i).toInt32 = v) (hp : pc + 3 = pc')
    (K : own_At p l e R s m args below meth c n0 Q h k n (mkF m pc' Ls (.int v :: st))) : own_At p l e R s m args below meth c n0 Q h k n (mkF m pc Ls st) := by
  subst hp hv; exact own_of (fun T L X t hr => XS.sipush X.here C.1 rfl (hb C.2.2.2.1 hd) hr) K
theorem own_aconst_null (C : own_Cx Z p s m meth c own bytes ml rt nm) (hd : decode bytes pc = .ok (.aconst_null, 1)) (hp : pc + 1 = pc')
    (K : own_At p l e R s m args below meth c n0 Q h k n (mkF m pc' Ls (.null :: st))) : own_At p l e R s m args below meth c n0 Q h k n (mkF m pc Ls st) := by
  subst hp; exact own_of (fun T L X t hr => XS.aconstNull X.here C.1 rfl (hb C.2.2.2.1 hd) hr) K
theorem own_ldc (C : own_Cx Z p s m meth c own bytes ml rt nm) {i : Nat} {v : Int32} (w : (Cond.constant own i v).before a0 Z = true) (hd : decode bytes pc = .ok (.ldc i, 2)) (hp : pc + 2 = pc')
    (K : own_At p l e R s m args below meth c n0 Q h k n (mkF m pc' Ls (.int v :: st))) : own_At p l e R s m args below meth c n0 Q h k n (mkF m pc Ls st) := by
  subst hp; exact own_of (fun T L X t hr => X.ldcI C.1 C.2.2.1 (mvT C.2.1 w) rfl (hb C.2.2.2.1 hd) hr) K
theorem own_iadd (C : own_Cx Z p s m meth c own bytes ml rt nm) {x y z : Int32} (hd : decode bytes pc = .ok (.iadd, 1)) (hz : x + y = z) (hp : pc + 1 = pc')
    (K : own_At p l e R s m args below meth c n0 Q h k n (mkF m pc' Ls (.int z :: st))) : own_At p l e R s m args below meth c n0 Q h k n (mkF m pc Ls (.int y :: .int x :: st)) := by
  subst hp hz; exact own_of (fun T L X t hr => XS.iadd X.here C.1 rfl (hb C.2.2.2.1 hd) rfl hr) K
theorem own_isub (C : own_Cx Z p s m meth c own bytes ml rt nm) {x y z : Int32} (hd : decode bytes pc = .ok (.isub, 1)) (hz : x - y = z) (hp : pc + 1 = pc')
    (K : own_At p l e R s m args below meth c n0 Q h k n (mkF m pc' Ls (.int z :: st))) : own_At p l e R s m args below meth c n0 Q h k n (mkF m pc Ls (.int y :: .int x :: st)) := by
  subst hp hz; exact own_of (fun T L X t hr => XS.isub X.here C.1 rfl (hb C.2.2.2.1 hd) rfl hr) K
theorem own_imul (C : own_Cx Z p s m meth c own bytes ml rt nm) {x y z : Int32} (hd : decode bytes pc = .ok (.imul, 1)) (hz : x * y = z) (hp : pc + 1 = pc')
    (K : own_At p l e R s m args below meth c n0 Q h k n (mkF m pc' Ls (.int z :: st))) : own_At p l e R s m args below meth c n0 Q h k n (mkF m pc Ls (.int y :: .int x :: st)) := by
  subst hp hz; exact own_of (fun T L X t hr => XS.imul X.here C.1 rfl (hb C.2.2.2.1 hd) rfl hr) K
theorem own_iand (C : own_Cx Z p s m meth c own bytes ml rt nm) {x y z : Int32} (hd : decode bytes pc = .ok (.iand, 1)) (hz : x &&& y = z) (hp : pc + 1 = pc')
    (K : own_At p l e R s m args below meth c n0 Q h k n (mkF m pc' Ls (.int z :: st))) : own_At p l e R s m args below meth c n0 Q h k n (mkF m pc Ls (.int y :: .int x :: st)) := by
  subst hp hz; exact own_of (fun T L X t hr => XS.iand X.here C.1 rfl (hb C.2.2.2.1 hd) rfl hr) K
theorem own_ixor (C : own_Cx Z p s m meth c own bytes ml rt nm) {x y z : Int32} (hd : decode bytes pc = .ok (.ixor, 1)) (hz : x ^^^ y = z) (hp : pc + 1 = pc')
    (K : own_At p l e R s m args below meth c n0 Q h k n (mkF m pc' Ls (.int z :: st))) : own_At p l e R s m args below meth c n0 Q h k n (mkF m pc Ls (.int y :: .int x :: st)) := by
  subst hp hz; exact own_of (fun T L X t hr => XS.ixor X.here C.1 rfl (hb C.2.2.2.1 hd) rfl hr) K
theorem own_ishr (C : own_Cx Z p s m meth c own bytes ml rt nm) {x y z : Int32} (hd : decode bytes pc = .ok (.ishr, 1)) (hz : x >>> (y &&& 31) = z) (hp : pc + 1 = pc')
    (K : own_At p l e R s m args below meth c n0 Q h k n (mkF m pc' Ls (.int z :: st))) : own_At p l e R s m args below meth c n0 Q h k n (mkF m pc Ls (.int y :: .int x :: st)) := by
  subst hp hz; exact own_of (fun T L X t hr => XS.ishr X.here C.1 rfl (hb C.2.2.2.1 hd) rfl hr) K
theorem own_ishl (C : own_Cx Z p s m meth c own bytes ml rt nm) {x y z : Int32} (hd : decode bytes pc = .ok (.ishl, 1)) (hz : x <<< (y &&& 31) = z) (hp : pc + 1 = pc')
    (K : own_At p l e R s m args below meth c n0 Q h k n (mkF m pc' Ls (.int z :: st))) : own_At p l e R s m args below meth c n0 Q h k n (mkF m pc Ls (.int y :: .int x :: st)) := by
  subst hp hz; exact own_of (fun T L X t hr => XS.ishl X.here C.1 rfl (hb C.2.2.2.1 hd) rfl hr) K
theorem own_ineg (C : own_Cx Z p s m meth c own bytes ml rt nm) {x z : Int32} (hd : decode bytes pc = .ok (.ineg, 1)) (hz : -x = z) (hp : pc + 1 = pc')
    (K : own_At p l e R s m args below meth c n0 Q h k n (mkF m pc' Ls (.int z :: st))) : own_At p l e R s m args below meth c n0 Q h k n (mkF m pc Ls (.int x :: st)) := by
  subst hp hz; exact own_of (fun T L X t hr => XS.ineg X.here C.1 rfl (hb C.2.2.2.1 hd) rfl hr) K
theorem own_i2b (C : own_Cx Z p s m meth c own bytes ml rt nm) {x z : Int32} (hd : decode bytes pc = .ok (.i2b, 1)) (hz : x.toInt8.toInt32 = z) (hp : pc + 1 = pc')
    (K : own_At p l e R s m args below meth c n0 Q h k n (mkF m pc' Ls (.int z :: st))) : own_At p l e R s m args below meth c n0 Q h k n (mkF m pc Ls (.int x :: st)) := by
  subst hp hz; exact own_of (fun T L X t hr => XS.i2b X.here C.1 rfl (hb C.2.2.2.1 hd) rfl hr) K
theorem own_pop (C : own_Cx Z p s m meth c own bytes ml rt nm) {x : Value} (hd : decode bytes pc = .ok (.pop, 1)) (hx : x.category = 1) (hp : pc + 1 = pc')
    (K : own_At p l e R s m args below meth c n0 Q h k n (mkF m pc' Ls st)) : own_At p l e R s m args below meth c n0 Q h k n (mkF m pc Ls (x :: st)) := by
  subst hp; exact own_of (fun T L X t hr => XS.pop X.here C.1 rfl (hb C.2.2.2.1 hd) rfl hx hr) K
theorem own_irem (C : own_Cx Z p s m meth c own bytes ml rt nm) {x y z : Int32} (hd : decode bytes pc = .ok (.irem, 1)) (hy : y ≠ 0) (hz : x % y = z) (hp : pc + 1 = pc')
    (K : own_At p l e R s m args below meth c n0 Q h k n (mkF m pc' Ls (.int z :: st))) : own_At p l e R s m args below meth c n0 Q h k n (mkF m pc Ls (.int y :: .int x :: st)) := by
  subst hp hz; exact own_of (fun T L X t hr => iremM X C.1 rfl (hb C.2.2.2.1 hd) rfl hy hr) K
theorem own_idiv (C : own_Cx Z p s m meth c own bytes ml rt nm) {x y z : Int32} (hd : decode bytes pc = .ok (.idiv, 1)) (hy : y ≠ 0) (hz : x / y = z) (hp : pc + 1 = pc')
    (K : own_At p l e R s m args below meth c n0 Q h k n (mkF m pc' Ls (.int z :: st))) : own_At p l e R s m args below meth c n0 Q h k n (mkF m pc Ls (.int y :: .int x :: st)) := by
  subst hp hz; exact own_of (fun T L X t hr => XS.idiv X.here C.1 rfl (hb C.2.2.2.1 hd) rfl hy hr) K
theorem own_dup (C : own_Cx Z p s m meth c own bytes ml rt nm) {x : Value} (hd : decode bytes pc = .ok (.dup, 1)) (hx : x.category = 1) (hp : pc + 1 = pc')
    (K : own_At p l e R s m args below meth c n0 Q h k n (mkF m pc' Ls (x :: x :: st))) : own_At p l e R s m args below meth c n0 Q h k n (mkF m pc Ls (x :: st)) := by
  subst hp; exact own_of (fun T L X t hr => XS.dup X.here C.1 rfl (hb C.2.2.2.1 hd) rfl hx hr) K
theorem own_iinc (C : own_Cx Z p s m meth c own bytes ml rt nm) {i : Nat} {d : Int} {v w : Int32} (hd : decode bytes pc = .ok (.iinc i d, 3)) (hl : Ls[i]? = some (.val (.int v))) (hw : v + Int32.ofInt d = w) (hs : storeLocals Ls i (.int w) = some Ls') (hp : pc + 3 = pc')
    (K : own_At p l e R s m args below meth c n0 Q h k n (mkF m pc' Ls' st)) : own_At p l e R s m args below meth c n0 Q h k n (mkF m pc Ls st) := by
  subst hp hw; exact own_of (fun T L X t hr => XS.iinc X.here C.1 rfl (hb C.2.2.2.1 hd) hl hs hr) K
theorem own_goto (C : own_Cx Z p s m meth c own bytes ml rt nm) {o : Int} (hd : decode bytes pc = .ok (.goto o, 3)) (ho : 0 ≤ (pc : Int) + o) (hp : ((pc : Int) + o).toNat = pc')
    (K : own_At p l e R s m args below meth c n0 Q h k n (mkF m pc' Ls st)) : own_At p l e R s m args below meth c n0 Q h k n (mkF m pc Ls st) :=
  own_of (fun T L X t hr => XS.goto X.here C.1 rfl (pc0 := pc) rfl (hb C.2.2.2.1 hd) ho hp hr) K
theorem own_ifY (C : own_Cx Z p s m meth c own bytes ml rt nm) {cd : ClassFile.Cond} {x : Int32} {o : Int} (hd : decode bytes pc = .ok (.ifCond cd o, 3)) (hc : ifCond.holds cd x = true) (ho : 0 ≤ (pc : Int) + o) (hp : ((pc : Int) + o).toNat = pc')
    (K : own_At p l e R s m args below meth c n0 Q h k n (mkF m pc' Ls st)) : own_At p l e R s m args below meth c n0 Q h k n (mkF m pc Ls (.int x :: st)) :=
  own_of (fun T L X t hr => XS.ifYes X.here C.1 rfl (pc0 := pc) rfl (hb C.2.2.2.1 hd) rfl hc ho hp hr) K
theorem own_ifN (C : own_Cx Z p s m meth c own bytes ml rt nm) {cd : ClassFile.Cond} {x : Int32} {o : Int} (hd : decode bytes pc = .ok (.ifCond cd o, 3)) (hc : ifCond.holds cd x = false) (hp : pc + 3 = pc')
    (K : own_At p l e R s m args below meth c n0 Q h k n (mkF m pc' Ls st)) : own_At p l e R s m args below meth c n0 Q h k n (mkF m pc Ls (.int x :: st)) := by
  subst hp; exact own_of (fun T L X t hr => XS.ifNo X.here C.1 rfl (hb C.2.2.2.1 hd) rfl hc hr) K
theorem own_icmpY (C : own_Cx Z p s m meth c own bytes ml rt nm) {cd : ClassFile.Cond} {x y : Int32} {o : Int} (hd : decode bytes pc = .ok (.if_icmp cd o, 3)) (hc : if_icmp.holds cd x y = true) (ho : 0 ≤ (pc : Int) + o) (hp : ((pc : Int) + o).toNat = pc')
    (K : own_At p l e R s m args below meth c n0 Q h k n (mkF m pc' Ls st)) : own_At p l e R s m args below meth c n0 Q h k n (mkF m pc Ls (.int y :: .int x :: st)) :=
  own_of (fun T L X t hr => XS.icmpYes X.here C.1 rfl (pc0 := pc) rfl (hb C.2.2.2.1 hd) rfl hc ho hp hr) K
theorem own_icmpN (C : own_Cx Z p s m meth c own bytes ml rt nm) {cd : ClassFile.Cond} {x y : Int32} {o : Int} (hd : decode bytes pc = .ok (.if_icmp cd o, 3)) (hc : if_icmp.holds cd x y = false) (hp : pc + 3 = pc')
    (K : own_At p l e R s m args below meth c n0 Q h k n (mkF m pc' Ls st)) : own_At p l e R s m args below meth c n0 Q h k n (mkF m pc Ls (.int y :: .int x :: st)) := by
  subst hp; exact own_of (fun T L X t hr => XS.icmpNo X.here C.1 rfl (hb C.2.2.2.1 hd) rfl hc hr) K
theorem own_acmp (C : own_Cx Z p s m meth c own bytes ml rt nm) {cd : ACond} {x y : Value} {o : Int} {same : Bool} (hd : decode bytes pc = .ok (.if_acmp cd o, 3)) (h1 : x.isRef = true) (h2 : y.isRef = true) (hq : decide (x = y) = same) (ho : 0 ≤ (pc : Int) + o) (hp : pc' = if acV cd same = true then ((pc : Int) + o).toNat else pc + 3)
    (K : own_At p l e R s m args below meth c n0 Q h k n (mkF m pc' Ls st)) : own_At p l e R s m args below meth c n0 Q h k n (mkF m pc Ls (y :: x :: st)) :=
  own_of (fun T L X t hr => RoadKit.acmp (g := mkF m pc Ls (y :: x :: st)) X C.1 rfl h1 h2 (pc0 := pc) rfl (hb C.2.2.2.1 hd) rfl hq ho hp hr) K
theorem own_same (a : Addr) : decide ((Value.ref a) = .ref a) = true := decide_eq_true rfl
theorem own_unlike {a b : Addr} (q : a ≠ b) : decide ((Value.ref a) = .ref b) = false := decide_eq_false fun z => q (Value.ref.inj z)
theorem own_nullY (C : own_Cx Z p s m meth c own bytes ml rt nm) {o : Int} (hd : decode bytes pc = .ok (.ifnull o, 3)) (ho : 0 ≤ (pc : Int) + o) (hp : ((pc : Int) + o).toNat = pc')
    (K : own_At p l e R s m args below meth c n0 Q h k n (mkF m pc' Ls st)) : own_At p l e R s m args below meth c n0 Q h k n (mkF m pc Ls (.null :: st)) :=
  own_of (fun T L X t hr => XS.ifnullYes X.here C.1 rfl (pc0 := pc) rfl (hb C.2.2.2.1 hd) rfl ho hp hr) K
theorem own_nullN (C : own_Cx Z p s m meth c own bytes ml rt nm) {o : Int} {a : Addr} (hd : decode bytes pc = .ok (.ifnull o, 3)) (hp : pc + 3 = pc')
    (K : own_At p l e R s m args below meth c n0 Q h k n (mkF m pc' Ls st)) : own_At p l e R s m args below meth c n0 Q h k n (mkF m pc Ls (.ref a :: st)) := by
  subst hp; exact own_of (fun T L X t hr => XS.ifnullNo X.here C.1 rfl (hb C.2.2.2.1 hd) rfl hr) K
theorem own_nonnullY (C : own_Cx Z p s m meth c own bytes ml rt nm) {o : Int} {a : Addr} (hd : decode bytes pc = .ok (.ifnonnull o, 3)) (ho : 0 ≤ (pc : Int) + o) (hp : ((pc : Int) + o).toNat = pc')
    (K : own_At p l e R s m args below meth c n0 Q h k n (mkF m pc' Ls st)) : own_At p l e R s m args below meth c n0 Q h k n (mkF m pc Ls (.ref a :: st)) :=
  own_of (fun T L X t hr => XS.ifnonnullYes X.here C.1 rfl (pc0 := pc) rfl (hb C.2.2.2.1 hd) rfl ho hp hr) K
theorem own_nonnullN (C : own_Cx Z p s m meth c own bytes ml rt nm) {o : Int} (hd : decode bytes pc = .ok (.ifnonnull o, 3)) (hp : pc + 3 = pc')
    (K : own_At p l e R s m args below meth c n0 Q h k n (mkF m pc' Ls st)) : own_At p l e R s m args below meth c n0 Q h k n (mkF m pc Ls (.null :: st)) := by
  subst hp; exact own_of (fun T L X t hr => XS.ifnonnullNo X.here C.1 rfl (hb C.2.2.2.1 hd) rfl hr) K
/-! ### reads and writes -/
theorem own_getstatic (C : own_Cx Z p s m meth c own bytes ml rt nm) {O f d : String} {i : Nat} {v : Value} (w : (Cond.fieldLink own i O f d).before a0 Z = true) (F : Sta Z h O f d v) (hd : decode bytes pc = .ok (.getstatic i, 3)) (hp : pc + 3 = pc')
    (K : own_At p l e R s m args below meth c n0 Q h k n (mkF m pc' Ls (v :: st))) : own_At p l e R s m args below meth c n0 Q h k n (mkF m pc Ls st) := by
  subst hp
  intro T L X N eT
  obtain ⟨T', X', e', stp⟩ := getS2 X C.1 C.2.1 C.2.2.1 (host := "") (Or.inl w) Via.refl eT F (g := mkF m pc Ls st) rfl (hb C.2.2.2.1 hd)
  exact own_via stp (K T' L X' N e')
theorem own_getfield (C : own_Cx Z p s m meth c own bytes ml rt nm) {R0 O f d : String} {i : Nat} {a : Addr} {v : Value} (w : (Cond.fieldLink own i R0 f d).before a0 Z = true) (via : Via Z R0 O f d) (F : Fld Z h a O f d v) (hd : decode bytes pc = .ok (.getfield i, 3)) (hp : pc + 3 = pc')
    (K : own_At p l e R s m args below meth c n0 Q h k n (mkF m pc' Ls (v :: st))) : own_At p l e R s m args below meth c n0 Q h k n (mkF m pc Ls (.ref a :: st)) := by
  subst hp
  intro T L X N eT
  obtain ⟨T', X', e', stp⟩ := getF X C.1 C.2.1 C.2.2.1 (host := "") (Or.inl w) via eT F (g := mkF m pc Ls (.ref a :: st)) rfl rfl (hb C.2.2.2.1 hd)
  exact own_via stp (K T' L X' N e')
/-! ### returns -/
theorem own_back (C : own_Cx Z p s m meth c own bytes ml rt nm) {v : Option Value} (hv : rt = none → v = none) (hk : k ≤ R.cells) (hn : n ≤ R.slots) (hQ : Q v h)
    (H : ∀ T L, Stand p l e R s m args below meth c T L k n → ∀ fs, (∀ (f : JFrame) (acts : List Action), f.method = m → f.locked = none → f.entered = [] → (doReturn e (T.setTop f) acts v).1 = T.setFrames fs) → Steps p.tables e below (T.setTop f) (T.setFrames fs)) :
    own_At p l e R s m args below meth c n0 Q h k n f := by
  intro T L X N eT
  obtain ⟨fs, hr, hrun, hended, hW, hsame⟩ := X.leave (v := v) (fun q => hv (C.2.2.2.2.2.1.symm.trans q)) C.2.2.2.2.2.2.1
  exact ⟨_, _, H T L X fs hr, hrun, hended, _, _, rfl, ⟨by show Q v T.heap; rw [eT]; exact hQ, N⟩, ⟨_, rfl⟩, hW, hsame.mono hk hn⟩
theorem own_ireturn {t : FieldType} (C : own_Cx Z p s m meth c own bytes ml (some t) nm) {z : Int32} (ht : t = .int ∨ t = .boolean ∨ t = .byte ∨ t = .char ∨ t = .short) (hn : narrow t (.int z) = .int z) (hd : decode bytes pc = .ok (.ireturn, 1)) (hk : k ≤ R.cells) (hs : n ≤ R.slots) (hQ : Q (some (.int z)) h) :
    own_At p l e R s m args below meth c n0 Q h k n (mkF m pc Ls (.int z :: st)) :=
  own_back C (fun q => nomatch q) hk hs hQ fun T L X fs hr => retOut X C.1 C.2.2.2.2.2.1 hn (Or.inl ⟨rfl, ht, _, rfl⟩) (hb C.2.2.2.1 hd) hr
theorem own_dreturn (C : own_Cx Z p s m meth c own bytes ml (some .double) nm) {z : UInt64} (hd : decode bytes pc = .ok (.dreturn, 1)) (hk : k ≤ R.cells) (hs : n ≤ R.slots) (hQ : Q (some (.double z)) h) :
    own_At p l e R s m args below meth c n0 Q h k n (mkF m pc Ls (.double z :: st)) :=
  own_back C (fun q => nomatch q) hk hs hQ fun T L X fs hr => retOut X C.1 C.2.2.2.2.2.1 rfl (Or.inr (Or.inr (Or.inl ⟨rfl, rfl, _, rfl⟩))) (hb C.2.2.2.1 hd) hr
theorem own_areturn {t : FieldType} (C : own_Cx Z p s m meth c own bytes ml (some t) nm) {v : Value} (ht : t.isReference = true) (hv : v.isRef = true) (hd : decode bytes pc = .ok (.areturn, 1)) (hk : k ≤ R.cells) (hs : n ≤ R.slots) (hQ : Q (some v) h) :
    own_At p l e R s m args below meth c n0 Q h k n (mkF m pc Ls (v :: st)) :=
  own_back C (fun q => nomatch q) hk hs hQ fun T L X fs hr => retOut X C.1 C.2.2.2.2.2.1 (by cases t <;> simp [FieldType.isReference] at ht <;> cases v <;> simp [Value.isRef] at hv <;> rfl) (Or.inr (Or.inr (Or.inr (Or.inr ⟨rfl, ht, hv⟩)))) (hb C.2.2.2.1 hd) hr
theorem own_return (C : own_Cx Z p s m meth c own bytes ml none nm) (hd : decode bytes pc = .ok (.return_, 1)) (hk : k ≤ R.cells) (hs : n ≤ R.slots) (hQ : Q none h) :
    own_At p l e R s m args below meth c n0 Q h k n (mkF m pc Ls []) :=
  own_back C (fun _ => rfl) hk hs hQ fun T L X fs hr => X.returnOut C.1 C.2.2.2.2.2.1 (hb C.2.2.2.1 hd) hr
/-! ### contracts and calls -/
def own_Met (l : Launch) (Z : State) (y : MethodName) (bytes : ByteArray) (maxL : Nat) (rt : Option FieldType) (ws : List Jvm.Cond) (rm : Room) (n0 : Nat) (as' : Array Value) (h : Heap) (Q : Option Value → Heap → Prop) : Prop :=
  MetFree l y (head1 (Jvm.Cond.code y bytes maxL rt :: ws) rm) (fun a U => a = as' ∧ Z.Warmed39 U.vm ∧ U.heap = h) (fun _ _ _ _ _ => True) (fun _ U o U' => ∃ v L, o = .returned v ∧ (Q v U'.heap ∧ Fr n0 L) ∧ FrameEnd U o U' L rm.cells rm.slots)
def own_val (P : Value → Heap → Prop) (v : Option Value) (h : Heap) : Prop := ∃ w, v = some w ∧ P w h
def own_nov (P : Heap → Prop) (v : Option Value) (h : Heap) : Prop := v = none ∧ P h
theorem own_met {y : MethodName} {ws : List Jvm.Cond} {rm : Room} {as' : Array Value} (hy : plainFor y = true) (hf : ∀ m, entryFrame m as' ml = mkF m 0 Ls [])
    (H : ∀ p e s m below meth c, own_Cx Z p s m meth c y.cls bytes ml rt y.name → own_At p l e rm s m as' below meth c n0 Q h 0 0 (mkF m 0 Ls [])) : own_Met l Z y bytes ml rt ws rm n0 as' h Q := by
  refine MetFree.of_bodySF hy hisR ?_
  intro p e s m args below meth c s₁ Bd hml0 hP hK
  obtain ⟨rfl, hZ, hh⟩ := hP
  have X0 : Stand p l e rm s m _ below meth c s₁ [] 0 0 := Stand.of_body Bd
  have e0 : s₁.heap = h := by rw [← hh, Bd.state]; rfl
  have K := H p e s m below meth c ⟨Bd.exec, hZ, findClass_of_methodNamed Bd.named, Bd.bytes, hml0, Bd.returns, Bd.notSynchronized, (name_of_methodNamed Bd.named Bd.method).1⟩ s₁ [] X0 (Fr.nil n0) e0
  rw [hf]
  exact K
/-- it returns v and leaves the heap as it was -/
def own_pure (v : Value) (h : Heap) (u : Option Value) (h' : Heap) : Prop := u = some v ∧ h' = h
section Calls
variable {y : MethodName} {bytes' : ByteArray} {maxL' : Nat} {rt' : Option FieldType} {rm : Room} {argsL : List Value} {W i : Nat} {P : Value → Heap → Prop} {P0 : Heap → Prop}
theorem own_callS0 {Q' : Option Value → Heap → Prop} (C : own_Cx Z p s m meth c own bytes ml rt nm) (M : own_Met l Z y bytes' maxL' rt' [] rm n0 argsL.toArray h Q') (w1 : (Cond.methodLink own i y).before a0 Z = true) (w2 : (Cond.static y).before a0 Z = true) (w3 : (Cond.initialized y.cls).before a0 Z = true) (w4 : (Cond.code y bytes' maxL' rt').before a0 Z = true)
    (hy : y.cls ≠ "java/lang/invoke/MethodHandle" ∧ y.cls ≠ "java/lang/invoke/VarHandle") (hd : decode bytes pc = .ok (.invokestatic i, 3)) (hs : Ls.size = ml) (hst : st = argsL.reverse ++ rest) (hlen : ∀ sig, parseMethodDescriptor y.desc = some sig → argsL.length = sig.parameters.length) (hW : (rest.map fun v => v.category).sum ≤ W) (hf : rm.frames + 1 ≤ R.frames) (hl : W + (maxL' + 11) + rm.locals ≤ R.locals) (hc : k + rm.cells ≤ R.cells) (hn : n + rm.slots ≤ R.slots) (hp : pc + 3 = pc')
    (K : ∀ v h', Q' v h' → own_At p l e R s m args below meth c n0 Q h' (k + rm.cells) (n + rm.slots) (mkF m pc' Ls (v.toList ++ rest))) : own_At p l e R s m args below meth c n0 Q h k n (mkF m pc Ls st) := by
  subst hp
  intro T L X N eT
  obtain ⟨v, _, ⟨T', L', k', n'⟩, -, X', ⟨Lc, ⟨hQ, N'⟩, l', y', z'⟩, stp⟩ := Jvm.LawKit.callS X C.1 (y := y) C.2.2.1 (mvT C.2.1 w1) (mvT C.2.1 w2) (mvT C.2.1 w3) (mvT C.2.1 w4) hy
    (backOf (Q := fun v h' L => Q' v h' ∧ Fr n0 L) (len := 3) (W := W) (p := p) (e := e) (below := below) (args := args) M C.2.1 w4 w3 hf hl) (g := mkF m pc Ls st) rfl (hs.trans C.2.2.2.2.1.symm) (argsL := argsL) (rest := rest) hlen hst (by show 2 * 0 + _ ≤ _; omega) (hb C.2.2.2.1 hd) (fun _ _ => ⟨rfl, eT, hc, hn⟩)
  dsimp only [Pt.U, Pt.locs, Pt.cells, Pt.slots] at X' l' y' z' stp hQ
  subst l' y' z'
  exact own_via stp (K v _ hQ T' _ X' (Fr.app N N') rfl)
theorem own_callS (C : own_Cx Z p s m meth c own bytes ml rt nm) (M : own_Met l Z y bytes' maxL' rt' [] rm n0 argsL.toArray h  (own_val P)) (w1 : (Cond.methodLink own i y).before a0 Z = true) (w2 : (Cond.static y).before a0 Z = true) (w3 : (Cond.initialized y.cls).before a0 Z = true) (w4 : (Cond.code y bytes' maxL' rt').before a0 Z = true)
    (hy : y.cls ≠ "java/lang/invoke/MethodHandle" ∧ y.cls ≠ "java/lang/invoke/VarHandle") (hd : decode bytes pc = .ok (.invokestatic i, 3)) (hs : Ls.size = ml) (hst : st = argsL.reverse ++ rest) (hlen : ∀ sig, parseMethodDescriptor y.desc = some sig → argsL.length = sig.parameters.length) (hW : (rest.map fun v => v.category).sum ≤ W) (hf : rm.frames + 1 ≤ R.frames) (hl : W + (maxL' + 11) + rm.locals ≤ R.locals) (hc : k + rm.cells ≤ R.cells) (hn : n + rm.slots ≤ R.slots) (hp : pc + 3 = pc')
    (K : ∀ w h', P w h' → own_At p l e R s m args below meth c n0 Q h' (k + rm.cells) (n + rm.slots) (mkF m pc' Ls (w :: rest))) : own_At p l e R s m args below meth c n0 Q h k n (mkF m pc Ls st) :=
  own_callS0 C M w1 w2 w3 w4 hy hd hs hst hlen hW hf hl hc hn hp (by rintro _ h' ⟨w, rfl, q⟩; exact K w h' q)
theorem own_callSp {v : Value} (C : own_Cx Z p s m meth c own bytes ml rt nm) (M : own_Met l Z y bytes' maxL' rt' [] rm n0 argsL.toArray h  (own_pure v h)) (w1 : (Cond.methodLink own i y).before a0 Z = true) (w2 : (Cond.static y).before a0 Z = true) (w3 : (Cond.initialized y.cls).before a0 Z = true) (w4 : (Cond.code y bytes' maxL' rt').before a0 Z = true)
    (hy : y.cls ≠ "java/lang/invoke/MethodHandle" ∧ y.cls ≠ "java/lang/invoke/VarHandle") (hd : decode bytes pc = .ok (.invokestatic i, 3)) (hs : Ls.size = ml) (hst : st = argsL.reverse ++ rest) (hlen : ∀ sig, parseMethodDescriptor y.desc = some sig → argsL.length = sig.parameters.length) (hW : (rest.map fun v => v.category).sum ≤ W) (hf : rm.frames + 1 ≤ R.frames) (hl : W + (maxL' + 11) + rm.locals ≤ R.locals) (hc : rm.cells = 0) (hn : rm.slots = 0) (hk : k ≤ R.cells) (hk' : n ≤ R.slots) (hp : pc + 3 = pc')
    (K : own_At p l e R s m args below meth c n0 Q h k n (mkF m pc' Ls (v :: rest))) : own_At p l e R s m args below meth c n0 Q h k n (mkF m pc Ls st) :=
  own_callS0 C M w1 w2 w3 w4 hy hd hs hst hlen hW hf hl (by rw [hc]; exact hk) (by rw [hn]; exact hk') hp (by rintro _ h' ⟨rfl, rfl⟩; rw [hc, hn]; exact K)
theorem own_callSV (C : own_Cx Z p s m meth c own bytes ml rt nm) (M : own_Met l Z y bytes' maxL' rt' [] rm n0 argsL.toArray h  (own_nov P0)) (w1 : (Cond.methodLink own i y).before a0 Z = true) (w2 : (Cond.static y).before a0 Z = true) (w3 : (Cond.initialized y.cls).before a0 Z = true) (w4 : (Cond.code y bytes' maxL' rt').before a0 Z = true)
    (hy : y.cls ≠ "java/lang/invoke/MethodHandle" ∧ y.cls ≠ "java/lang/invoke/VarHandle") (hd : decode bytes pc = .ok (.invokestatic i, 3)) (hs : Ls.size = ml) (hst : st = argsL.reverse ++ rest) (hlen : ∀ sig, parseMethodDescriptor y.desc = some sig → argsL.length = sig.parameters.length) (hW : (rest.map fun v => v.category).sum ≤ W) (hf : rm.frames + 1 ≤ R.frames) (hl : W + (maxL' + 11) + rm.locals ≤ R.locals) (hc : k + rm.cells ≤ R.cells) (hn : n + rm.slots ≤ R.slots) (hp : pc + 3 = pc')
    (K : ∀ h', P0 h' → own_At p l e R s m args below meth c n0 Q h' (k + rm.cells) (n + rm.slots) (mkF m pc' Ls rest)) : own_At p l e R s m args below meth c n0 Q h k n (mkF m pc Ls st) :=
  own_callS0 C M w1 w2 w3 w4 hy hd hs hst hlen hW hf hl hc hn hp (by rintro _ h' ⟨rfl, q⟩; exact K h' q)
theorem own_callV0 {Q' : Option Value → Heap → Prop} {a : Addr} {Cn : String} (C : own_Cx Z p s m meth c own bytes ml rt nm) (E : Exa Z h a Cn) (M : own_Met l Z y bytes' maxL' rt' [] rm n0 (Value.ref a :: argsL).toArray h Q') (w1 : (Cond.methodLink own i y).before a0 Z = true) (w2 : (Cond.declares y).before a0 Z = true) (w5 : (Cond.selects Cn y y).before a0 Z = true) (w6 : (Cond.instanceMethod y).before a0 Z = true) (w3 : (Cond.initialized y.cls).before a0 Z = true) (w4 : (Cond.code y bytes' maxL' rt').before a0 Z = true)
    (hy : y.cls ≠ "java/lang/invoke/MethodHandle" ∧ y.cls ≠ "java/lang/invoke/VarHandle") (hd : decode bytes pc = .ok (.invokevirtual i, 3)) (hs : Ls.size = ml) (hst : st = argsL.reverse ++ .ref a :: rest) (hlen : ∀ sig, parseMethodDescriptor y.desc = some sig → argsL.length = sig.parameters.length) (hW : (rest.map fun v => v.category).sum ≤ W) (hf : rm.frames + 1 ≤ R.frames) (hl : W + (maxL' + 11) + rm.locals ≤ R.locals) (hc : k + rm.cells ≤ R.cells) (hn : n + rm.slots ≤ R.slots) (hp : pc + 3 = pc')
    (K : ∀ v h', Q' v h' → own_At p l e R s m args below meth c n0 Q h' (k + rm.cells) (n + rm.slots) (mkF m pc' Ls (v.toList ++ rest))) : own_At p l e R s m args below meth c n0 Q h k n (mkF m pc Ls st) := by
  subst hp
  intro T L X N eT
  obtain ⟨cq, kq, qa, qb, qc⟩ := isOf C.2.1 eT E
  obtain ⟨v, _, ⟨T', L', k', n'⟩, -, X', ⟨Lc, ⟨hQ, N'⟩, l', y', z'⟩, stp⟩ := X.virtualBack C.1 (y := y) (z := y) C.2.2.1 (mvT C.2.1 w1) (mvT C.2.1 w2) (notFace_of_selects (args := #[]) (mvT C.2.1 w5)) (mvT C.2.1 w5) (mvT C.2.1 w6) hy
    (backOf (Q := fun v h' L => Q' v h' ∧ Fr n0 L) (len := 3) (W := W) (p := p) (e := e) (below := below) (args := args) M C.2.1 w4 w3 hf hl) qa qc (g := mkF m pc Ls st) rfl (hs.trans C.2.2.2.2.1.symm) (Steps.refl _) (argsL := argsL) (rest := rest) hlen hst (by show 2 * 0 + _ ≤ _; omega) (hb C.2.2.2.1 hd) (fun _ _ => ⟨rfl, eT, hc, hn⟩)
  dsimp only [Pt.U, Pt.locs, Pt.cells, Pt.slots] at X' l' y' z' stp hQ
  subst l' y' z'
  exact own_via (fun t q => stp.trans q) (K v _ hQ T' _ X' (Fr.app N N') rfl)
theorem own_callV {a : Addr} {Cn : String} (C : own_Cx Z p s m meth c own bytes ml rt nm) (E : Exa Z h a Cn) (M : own_Met l Z y bytes' maxL' rt' [] rm n0 (Value.ref a :: argsL).toArray h  (own_val P)) (w1 : (Cond.methodLink own i y).before a0 Z = true) (w2 : (Cond.declares y).before a0 Z = true) (w5 : (Cond.selects Cn y y).before a0 Z = true) (w6 : (Cond.instanceMethod y).before a0 Z = true) (w3 : (Cond.initialized y.cls).before a0 Z = true) (w4 : (Cond.code y bytes' maxL' rt').before a0 Z = true)
    (hy : y.cls ≠ "java/lang/invoke/MethodHandle" ∧ y.cls ≠ "java/lang/invoke/VarHandle") (hd : decode bytes pc = .ok (.invokevirtual i, 3)) (hs : Ls.size = ml) (hst : st = argsL.reverse ++ .ref a :: rest) (hlen : ∀ sig, parseMethodDescriptor y.desc = some sig → argsL.length = sig.parameters.length) (hW : (rest.map fun v => v.category).sum ≤ W) (hf : rm.frames + 1 ≤ R.frames) (hl : W + (maxL' + 11) + rm.locals ≤ R.locals) (hc : k + rm.cells ≤ R.cells) (hn : n + rm.slots ≤ R.slots) (hp : pc + 3 = pc')
    (K : ∀ w h', P w h' → own_At p l e R s m args below meth c n0 Q h' (k + rm.cells) (n + rm.slots) (mkF m pc' Ls (w :: rest))) : own_At p l e R s m args below meth c n0 Q h k n (mkF m pc Ls st) :=
  own_callV0 C E M w1 w2 w5 w6 w3 w4 hy hd hs hst hlen hW hf hl hc hn hp (by rintro _ h' ⟨w, rfl, q⟩; exact K w h' q)
theorem own_callVp {v : Value} {a : Addr} {Cn : String} (C : own_Cx Z p s m meth c own bytes ml rt nm) (E : Exa Z h a Cn) (M : own_Met l Z y bytes' maxL' rt' [] rm n0 (Value.ref a :: argsL).toArray h  (own_pure v h)) (w1 : (Cond.methodLink own i y).before a0 Z = true) (w2 : (Cond.declares y).before a0 Z = true) (w5 : (Cond.selects Cn y y).before a0 Z = true) (w6 : (Cond.instanceMethod y).before a0 Z = true) (w3 : (Cond.initialized y.cls).before a0 Z = true) (w4 : (Cond.code y bytes' maxL' rt').before a0 Z = true)
    (hy : y.cls ≠ "java/lang/invoke/MethodHandle" ∧ y.cls ≠ "java/lang/invoke/VarHandle") (hd : decode bytes pc = .ok (.invokevirtual i, 3)) (hs : Ls.size = ml) (hst : st = argsL.reverse ++ .ref a :: rest) (hlen : ∀ sig, parseMethodDescriptor y.desc = some sig → argsL.length = sig.parameters.length) (hW : (rest.map fun v => v.category).sum ≤ W) (hf : rm.frames + 1 ≤ R.frames) (hl : W + (maxL' + 11) + rm.locals ≤ R.locals) (hc : rm.cells = 0) (hn : rm.slots = 0) (hk : k ≤ R.cells) (hk' : n ≤ R.slots) (hp : pc + 3 = pc')
    (K : own_At p l e R s m args below meth c n0 Q h k n (mkF m pc' Ls (v :: rest))) : own_At p l e R s m args below meth c n0 Q h k n (mkF m pc Ls st) :=
  own_callV0 C E M w1 w2 w5 w6 w3 w4 hy hd hs hst hlen hW hf hl (by rw [hc]; exact hk) (by rw [hn]; exact hk') hp (by rintro _ h' ⟨rfl, rfl⟩; rw [hc, hn]; exact K)
theorem own_callVV {a : Addr} {Cn : String} (C : own_Cx Z p s m meth c own bytes ml rt nm) (E : Exa Z h a Cn) (M : own_Met l Z y bytes' maxL' rt' [] rm n0 (Value.ref a :: argsL).toArray h  (own_nov P0)) (w1 : (Cond.methodLink own i y).before a0 Z = true) (w2 : (Cond.declares y).before a0 Z = true) (w5 : (Cond.selects Cn y y).before a0 Z = true) (w6 : (Cond.instanceMethod y).before a0 Z = true) (w3 : (Cond.initialized y.cls).before a0 Z = true) (w4 : (Cond.code y bytes' maxL' rt').before a0 Z = true)
    (hy : y.cls ≠ "java/lang/invoke/MethodHandle" ∧ y.cls ≠ "java/lang/invoke/VarHandle") (hd : decode bytes pc = .ok (.invokevirtual i, 3)) (hs : Ls.size = ml) (hst : st = argsL.reverse ++ .ref a :: rest) (hlen : ∀ sig, parseMethodDescriptor y.desc = some sig → argsL.length = sig.parameters.length) (hW : (rest.map fun v => v.category).sum ≤ W) (hf : rm.frames + 1 ≤ R.frames) (hl : W + (maxL' + 11) + rm.locals ≤ R.locals) (hc : k + rm.cells ≤ R.cells) (hn : n + rm.slots ≤ R.slots) (hp : pc + 3 = pc')
    (K : ∀ h', P0 h' → own_At p l e R s m args below meth c n0 Q h' (k + rm.cells) (n + rm.slots) (mkF m pc' Ls rest)) : own_At p l e R s m args below meth c n0 Q h k n (mkF m pc Ls st) :=
  own_callV0 C E M w1 w2 w5 w6 w3 w4 hy hd hs hst hlen hW hf hl hc hn hp (by rintro _ h' ⟨rfl, q⟩; exact K h' q)
theorem own_callF0 {Q' : Option Value → Heap → Prop} {a : Addr} {Cn : String} {z : MethodName} {cnt : Nat} (C : own_Cx Z p s m meth c own bytes ml rt nm) (E : Exa Z h a Cn) (M : own_Met l Z z bytes' maxL' rt' [] rm n0 (Value.ref a :: argsL).toArray h Q') (w1 : (Cond.methodLink own i y).before a0 Z = true) (w2 : (Cond.declares y).before a0 Z = true) (w7 : (Cond.interfaceMethod y.cls y.cls y.name y.desc).before a0 Z = true) (w5 : (Cond.selects Cn y z).before a0 Z = true) (w6 : (Cond.instanceMethod z).before a0 Z = true) (w8 : (Cond.publicMethod z).before a0 Z = true) (w9 : (Cond.unhidden Cn y.name y.desc).before a0 Z = true) (w10 : (Cond.castable Cn y.cls).before a0 Z = true) (w3 : (Cond.initialized z.cls).before a0 Z = true) (w4 : (Cond.code z bytes' maxL' rt').before a0 Z = true)
    (hy : y.cls ≠ "java/lang/invoke/MethodHandle" ∧ y.cls ≠ "java/lang/invoke/VarHandle") (hd : decode bytes pc = .ok (.invokeinterface i cnt, 5)) (hs : Ls.size = ml) (hst : st = argsL.reverse ++ .ref a :: rest) (hlen : ∀ sig, parseMethodDescriptor y.desc = some sig → argsL.length = sig.parameters.length) (hW : (rest.map fun v => v.category).sum ≤ W) (hf : rm.frames + 1 ≤ R.frames) (hl : W + (maxL' + 11) + rm.locals ≤ R.locals) (hc : k + rm.cells ≤ R.cells) (hn : n + rm.slots ≤ R.slots) (hp : pc + 5 = pc')
    (K : ∀ v h', Q' v h' → own_At p l e R s m args below meth c n0 Q h' (k + rm.cells) (n + rm.slots) (mkF m pc' Ls (v.toList ++ rest))) : own_At p l e R s m args below meth c n0 Q h k n (mkF m pc Ls st) := by
  subst hp
  intro T L X N eT
  obtain ⟨cq, kq, qa, qb, qc⟩ := isOf C.2.1 eT E
  obtain ⟨v, _, ⟨T', L', k', n'⟩, -, X', ⟨Lc, ⟨hQ, N'⟩, l', y', z'⟩, stp⟩ := X.interfaceBack C.1 (xi := y) (y := z) C.2.2.1 (mvT C.2.1 w1) (mvT C.2.1 w2) (mvT C.2.1 w7 (by simp [Cond.onTables, Cond.keepsFace, Cond.keeps, Cond.steady, Cond.faceAtom, hy.1, hy.2])) (mvT C.2.1 w5) (mvT C.2.1 w6) (mvT C.2.1 w8) (mvT C.2.1 w9) (mvT C.2.1 w10) hy
    (backOf (Q := fun v h' L => Q' v h' ∧ Fr n0 L) (len := 5) (W := W) (p := p) (e := e) (below := below) (args := args) M C.2.1 w4 w3 hf hl) qa qb qc (g := mkF m pc Ls st) rfl (hs.trans C.2.2.2.2.1.symm) (Steps.refl _) (argsL := argsL) (rest := rest) hlen hst (by show 2 * 0 + _ ≤ _; omega) (hb C.2.2.2.1 hd) (fun _ _ => ⟨rfl, eT, hc, hn⟩)
  dsimp only [Pt.U, Pt.locs, Pt.cells, Pt.slots] at X' l' y' z' stp hQ
  subst l' y' z'
  exact own_via (fun t q => stp.trans q) (K v _ hQ T' _ X' (Fr.app N N') rfl)
theorem own_callF {a : Addr} {Cn : String} {z : MethodName} {cnt : Nat} (C : own_Cx Z p s m meth c own bytes ml rt nm) (E : Exa Z h a Cn) (M : own_Met l Z z bytes' maxL' rt' [] rm n0 (Value.ref a :: argsL).toArray h  (own_val P)) (w1 : (Cond.methodLink own i y).before a0 Z = true) (w2 : (Cond.declares y).before a0 Z = true) (w7 : (Cond.interfaceMethod y.cls y.cls y.name y.desc).before a0 Z = true) (w5 : (Cond.selects Cn y z).before a0 Z = true) (w6 : (Cond.instanceMethod z).before a0 Z = true) (w8 : (Cond.publicMethod z).before a0 Z = true) (w9 : (Cond.unhidden Cn y.name y.desc).before a0 Z = true) (w10 : (Cond.castable Cn y.cls).before a0 Z = true) (w3 : (Cond.initialized z.cls).before a0 Z = true) (w4 : (Cond.code z bytes' maxL' rt').before a0 Z = true)
    (hy : y.cls ≠ "java/lang/invoke/MethodHandle" ∧ y.cls ≠ "java/lang/invoke/VarHandle") (hd : decode bytes pc = .ok (.invokeinterface i cnt, 5)) (hs : Ls.size = ml) (hst : st = argsL.reverse ++ .ref a :: rest) (hlen : ∀ sig, parseMethodDescriptor y.desc = some sig → argsL.length = sig.parameters.length) (hW : (rest.map fun v => v.category).sum ≤ W) (hf : rm.frames + 1 ≤ R.frames) (hl : W + (maxL' + 11) + rm.locals ≤ R.locals) (hc : k + rm.cells ≤ R.cells) (hn : n + rm.slots ≤ R.slots) (hp : pc + 5 = pc')
    (K : ∀ w h', P w h' → own_At p l e R s m args below meth c n0 Q h' (k + rm.cells) (n + rm.slots) (mkF m pc' Ls (w :: rest))) : own_At p l e R s m args below meth c n0 Q h k n (mkF m pc Ls st) :=
  own_callF0 C E M w1 w2 w7 w5 w6 w8 w9 w10 w3 w4 hy hd hs hst hlen hW hf hl hc hn hp (by rintro _ h' ⟨w, rfl, q⟩; exact K w h' q)
theorem own_callFp {v : Value} {a : Addr} {Cn : String} {z : MethodName} {cnt : Nat} (C : own_Cx Z p s m meth c own bytes ml rt nm) (E : Exa Z h a Cn) (M : own_Met l Z z bytes' maxL' rt' [] rm n0 (Value.ref a :: argsL).toArray h  (own_pure v h)) (w1 : (Cond.methodLink own i y).before a0 Z = true) (w2 : (Cond.declares y).before a0 Z = true) (w7 : (Cond.interfaceMethod y.cls y.cls y.name y.desc).before a0 Z = true) (w5 : (Cond.selects Cn y z).before a0 Z = true) (w6 : (Cond.instanceMethod z).before a0 Z = true) (w8 : (Cond.publicMethod z).before a0 Z = true) (w9 : (Cond.unhidden Cn y.name y.desc).before a0 Z = true) (w10 : (Cond.castable Cn y.cls).before a0 Z = true) (w3 : (Cond.initialized z.cls).before a0 Z = true) (w4 : (Cond.code z bytes' maxL' rt').before a0 Z = true)
    (hy : y.cls ≠ "java/lang/invoke/MethodHandle" ∧ y.cls ≠ "java/lang/invoke/VarHandle") (hd : decode bytes pc = .ok (.invokeinterface i cnt, 5)) (hs : Ls.size = ml) (hst : st = argsL.reverse ++ .ref a :: rest) (hlen : ∀ sig, parseMethodDescriptor y.desc = some sig → argsL.length = sig.parameters.length) (hW : (rest.map fun v => v.category).sum ≤ W) (hf : rm.frames + 1 ≤ R.frames) (hl : W + (maxL' + 11) + rm.locals ≤ R.locals) (hc : rm.cells = 0) (hn : rm.slots = 0) (hk : k ≤ R.cells) (hk' : n ≤ R.slots) (hp : pc + 5 = pc')
    (K : own_At p l e R s m args below meth c n0 Q h k n (mkF m pc' Ls (v :: rest))) : own_At p l e R s m args below meth c n0 Q h k n (mkF m pc Ls st) :=
  own_callF0 C E M w1 w2 w7 w5 w6 w8 w9 w10 w3 w4 hy hd hs hst hlen hW hf hl (by rw [hc]; exact hk) (by rw [hn]; exact hk') hp (by rintro _ h' ⟨rfl, rfl⟩; rw [hc, hn]; exact K)
theorem own_callFV {a : Addr} {Cn : String} {z : MethodName} {cnt : Nat} (C : own_Cx Z p s m meth c own bytes ml rt nm) (E : Exa Z h a Cn) (M : own_Met l Z z bytes' maxL' rt' [] rm n0 (Value.ref a :: argsL).toArray h  (own_nov P0)) (w1 : (Cond.methodLink own i y).before a0 Z = true) (w2 : (Cond.declares y).before a0 Z = true) (w7 : (Cond.interfaceMethod y.cls y.cls y.name y.desc).before a0 Z = true) (w5 : (Cond.selects Cn y z).before a0 Z = true) (w6 : (Cond.instanceMethod z).before a0 Z = true) (w8 : (Cond.publicMethod z).before a0 Z = true) (w9 : (Cond.unhidden Cn y.name y.desc).before a0 Z = true) (w10 : (Cond.castable Cn y.cls).before a0 Z = true) (w3 : (Cond.initialized z.cls).before a0 Z = true) (w4 : (Cond.code z bytes' maxL' rt').before a0 Z = true)
    (hy : y.cls ≠ "java/lang/invoke/MethodHandle" ∧ y.cls ≠ "java/lang/invoke/VarHandle") (hd : decode bytes pc = .ok (.invokeinterface i cnt, 5)) (hs : Ls.size = ml) (hst : st = argsL.reverse ++ .ref a :: rest) (hlen : ∀ sig, parseMethodDescriptor y.desc = some sig → argsL.length = sig.parameters.length) (hW : (rest.map fun v => v.category).sum ≤ W) (hf : rm.frames + 1 ≤ R.frames) (hl : W + (maxL' + 11) + rm.locals ≤ R.locals) (hc : k + rm.cells ≤ R.cells) (hn : n + rm.slots ≤ R.slots) (hp : pc + 5 = pc')
    (K : ∀ h', P0 h' → own_At p l e R s m args below meth c n0 Q h' (k + rm.cells) (n + rm.slots) (mkF m pc' Ls rest)) : own_At p l e R s m args below meth c n0 Q h k n (mkF m pc Ls st) :=
  own_callF0 C E M w1 w2 w7 w5 w6 w8 w9 w10 w3 w4 hy hd hs hst hlen hW hf hl hc hn hp (by rintro _ h' ⟨rfl, q⟩; exact K h' q)
theorem own_callP0 {Q' : Option Value → Heap → Prop} {a : Addr} {Cn : String} (C : own_Cx Z p s m meth c own bytes ml rt nm) (E : Exa Z h a Cn) (M : own_Met l Z y bytes' maxL' rt' [] rm n0 (Value.ref a :: argsL).toArray h Q') (w1 : (Cond.methodLink own i y).before a0 Z = true) (w6 : (Cond.instanceMethod y).before a0 Z = true) (w5 : (Cond.selects y.cls y y).before a0 Z = true) (w8 : (Cond.privateMethod y).before a0 Z = true) (w3 : (Cond.initialized y.cls).before a0 Z = true) (w4 : (Cond.code y bytes' maxL' rt').before a0 Z = true)
    (hy : y.cls ≠ "java/lang/invoke/MethodHandle" ∧ y.cls ≠ "java/lang/invoke/VarHandle") (hd : decode bytes pc = .ok (.invokevirtual i, 3)) (hs : Ls.size = ml) (hst : st = argsL.reverse ++ .ref a :: rest) (hlen : ∀ sig, parseMethodDescriptor y.desc = some sig → argsL.length = sig.parameters.length) (hW : (rest.map fun v => v.category).sum ≤ W) (hf : rm.frames + 1 ≤ R.frames) (hl : W + (maxL' + 11) + rm.locals ≤ R.locals) (hc : k + rm.cells ≤ R.cells) (hn : n + rm.slots ≤ R.slots) (hp : pc + 3 = pc')
    (K : ∀ v h', Q' v h' → own_At p l e R s m args below meth c n0 Q h' (k + rm.cells) (n + rm.slots) (mkF m pc' Ls (v.toList ++ rest))) : own_At p l e R s m args below meth c n0 Q h k n (mkF m pc Ls st) := by
  subst hp
  intro T L X N eT
  obtain ⟨cq, q1, q2⟩ := E.cell
  obtain ⟨v, _, ⟨T', L', k', n'⟩, -, X', ⟨Lc, ⟨hQ, N'⟩, l', y', z'⟩, stp⟩ := X.privateBack C.1 (y := y) C.2.2.1 (mvT C.2.1 w1) (mvT C.2.1 w6) (mvT C.2.1 w5) (Cond.privateMethod_at (mvP C.2.1 w8 (args := #[]))) (mvT C.2.1 w4) hy
    (backOf (Q := fun v h' L => Q' v h' ∧ Fr n0 L) (len := 3) (W := W) (p := p) (e := e) (below := below) (args := args) M C.2.1 w4 w3 hf hl) (g := mkF m pc Ls st) rfl (hs.trans C.2.2.2.2.1.symm) (Steps.refl _) (a := a) (by rw [eT]; exact q1) q2 (argsL := argsL) (rest := rest) hlen hst (by show 2 * 0 + _ ≤ _; omega) (hb C.2.2.2.1 hd) (fun _ _ => ⟨rfl, eT, hc, hn⟩)
  dsimp only [Pt.U, Pt.locs, Pt.cells, Pt.slots] at X' l' y' z' stp hQ
  subst l' y' z'
  exact own_via (fun t q => stp.trans q) (K v _ hQ T' _ X' (Fr.app N N') rfl)
theorem own_callP {a : Addr} {Cn : String} (C : own_Cx Z p s m meth c own bytes ml rt nm) (E : Exa Z h a Cn) (M : own_Met l Z y bytes' maxL' rt' [] rm n0 (Value.ref a :: argsL).toArray h  (own_val P)) (w1 : (Cond.methodLink own i y).before a0 Z = true) (w6 : (Cond.instanceMethod y).before a0 Z = true) (w5 : (Cond.selects y.cls y y).before a0 Z = true) (w8 : (Cond.privateMethod y).before a0 Z = true) (w3 : (Cond.initialized y.cls).before a0 Z = true) (w4 : (Cond.code y bytes' maxL' rt').before a0 Z = true)
    (hy : y.cls ≠ "java/lang/invoke/MethodHandle" ∧ y.cls ≠ "java/lang/invoke/VarHandle") (hd : decode bytes pc = .ok (.invokevirtual i, 3)) (hs : Ls.size = ml) (hst : st = argsL.reverse ++ .ref a :: rest) (hlen : ∀ sig, parseMethodDescriptor y.desc = some sig → argsL.length = sig.parameters.length) (hW : (rest.map fun v => v.category).sum ≤ W) (hf : rm.frames + 1 ≤ R.frames) (hl : W + (maxL' + 11) + rm.locals ≤ R.locals) (hc : k + rm.cells ≤ R.cells) (hn : n + rm.slots ≤ R.slots) (hp : pc + 3 = pc')
    (K : ∀ w h', P w h' → own_At p l e R s m args below meth c n0 Q h' (k + rm.cells) (n + rm.slots) (mkF m pc' Ls (w :: rest))) : own_At p l e R s m args below meth c n0 Q h k n (mkF m pc Ls st) :=
  own_callP0 C E M w1 w6 w5 w8 w3 w4 hy hd hs hst hlen hW hf hl hc hn hp (by rintro _ h' ⟨w, rfl, q⟩; exact K w h' q)
theorem own_callPp {v : Value} {a : Addr} {Cn : String} (C : own_Cx Z p s m meth c own bytes ml rt nm) (E : Exa Z h a Cn) (M : own_Met l Z y bytes' maxL' rt' [] rm n0 (Value.ref a :: argsL).toArray h  (own_pure v h)) (w1 : (Cond.methodLink own i y).before a0 Z = true) (w6 : (Cond.instanceMethod y).before a0 Z = true) (w5 : (Cond.selects y.cls y y).before a0 Z = true) (w8 : (Cond.privateMethod y).before a0 Z = true) (w3 : (Cond.initialized y.cls).before a0 Z = true) (w4 : (Cond.code y bytes' maxL' rt').before a0 Z = true)
    (hy : y.cls ≠ "java/lang/invoke/MethodHandle" ∧ y.cls ≠ "java/lang/invoke/VarHandle") (hd : decode bytes pc = .ok (.invokevirtual i, 3)) (hs : Ls.size = ml) (hst : st = argsL.reverse ++ .ref a :: rest) (hlen : ∀ sig, parseMethodDescriptor y.desc = some sig → argsL.length = sig.parameters.length) (hW : (rest.map fun v => v.category).sum ≤ W) (hf : rm.frames + 1 ≤ R.frames) (hl : W + (maxL' + 11) + rm.locals ≤ R.locals) (hc : rm.cells = 0) (hn : rm.slots = 0) (hk : k ≤ R.cells) (hk' : n ≤ R.slots) (hp : pc + 3 = pc')
    (K : own_At p l e R s m args below meth c n0 Q h k n (mkF m pc' Ls (v :: rest))) : own_At p l e R s m args below meth c n0 Q h k n (mkF m pc Ls st) :=
  own_callP0 C E M w1 w6 w5 w8 w3 w4 hy hd hs hst hlen hW hf hl (by rw [hc]; exact hk) (by rw [hn]; exact hk') hp (by rintro _ h' ⟨rfl, rfl⟩; rw [hc, hn]; exact K)
theorem own_callPV {a : Addr} {Cn : String} (C : own_Cx Z p s m meth c own bytes ml rt nm) (E : Exa Z h a Cn) (M : own_Met l Z y bytes' maxL' rt' [] rm n0 (Value.ref a :: argsL).toArray h  (own_nov P0)) (w1 : (Cond.methodLink own i y).before a0 Z = true) (w6 : (Cond.instanceMethod y).before a0 Z = true) (w5 : (Cond.selects y.cls y y).before a0 Z = true) (w8 : (Cond.privateMethod y).before a0 Z = true) (w3 : (Cond.initialized y.cls).before a0 Z = true) (w4 : (Cond.code y bytes' maxL' rt').before a0 Z = true)
    (hy : y.cls ≠ "java/lang/invoke/MethodHandle" ∧ y.cls ≠ "java/lang/invoke/VarHandle") (hd : decode bytes pc = .ok (.invokevirtual i, 3)) (hs : Ls.size = ml) (hst : st = argsL.reverse ++ .ref a :: rest) (hlen : ∀ sig, parseMethodDescriptor y.desc = some sig → argsL.length = sig.parameters.length) (hW : (rest.map fun v => v.category).sum ≤ W) (hf : rm.frames + 1 ≤ R.frames) (hl : W + (maxL' + 11) + rm.locals ≤ R.locals) (hc : k + rm.cells ≤ R.cells) (hn : n + rm.slots ≤ R.slots) (hp : pc + 3 = pc')
    (K : ∀ h', P0 h' → own_At p l e R s m args below meth c n0 Q h' (k + rm.cells) (n + rm.slots) (mkF m pc' Ls rest)) : own_At p l e R s m args below meth c n0 Q h k n (mkF m pc Ls st) :=
  own_callP0 C E M w1 w6 w5 w8 w3 w4 hy hd hs hst hlen hW hf hl hc hn hp (by rintro _ h' ⟨rfl, q⟩; exact K h' q)
theorem own_callI0 {Q' : Option Value → Heap → Prop} {a : Addr} (C : own_Cx Z p s m meth c own bytes ml rt nm) (hi : y.name = "<init>") (M : own_Met l Z y bytes' maxL' none [] rm n0 (Value.ref a :: argsL).toArray h Q') (w1 : (Cond.methodLink own i y).before a0 Z = true) (w6 : (Cond.instanceMethod y).before a0 Z = true) (w3 : (Cond.initialized y.cls).before a0 Z = true) (w4 : (Cond.code y bytes' maxL' none).before a0 Z = true)
    (hy : y.cls ≠ "java/lang/invoke/MethodHandle" ∧ y.cls ≠ "java/lang/invoke/VarHandle") (hd : decode bytes pc = .ok (.invokespecial i, 3)) (hs : Ls.size = ml) (hst : st = argsL.reverse ++ .ref a :: rest) (hlen : ∀ sig, parseMethodDescriptor y.desc = some sig → argsL.length = sig.parameters.length) (hW : (rest.map fun v => v.category).sum ≤ W) (hf : rm.frames + 1 ≤ R.frames) (hl : W + (maxL' + 11) + rm.locals ≤ R.locals) (hc : k + rm.cells ≤ R.cells) (hn : n + rm.slots ≤ R.slots) (hp : pc + 3 = pc')
    (K : ∀ v h', Q' v h' → own_At p l e R s m args below meth c n0 Q h' (k + rm.cells) (n + rm.slots) (mkF m pc' Ls (v.toList ++ rest))) : own_At p l e R s m args below meth c n0 Q h k n (mkF m pc Ls st) := by
  subst hp
  intro T L X N eT
  obtain ⟨v, _, ⟨T', L', k', n'⟩, -, X', ⟨Lc, ⟨hQ, N'⟩, l', y', z'⟩, stp⟩ := X.specialBack C.1 (y := y) hi C.2.2.1 (mvT C.2.1 w1) (mvT C.2.1 w6) (mvT C.2.1 w4) hy
    (backOf (Q := fun v h' L => Q' v h' ∧ Fr n0 L) (len := 3) (W := W) (p := p) (e := e) (below := below) (args := args) M C.2.1 w4 w3 hf hl) (g := mkF m pc Ls st) rfl (hs.trans C.2.2.2.2.1.symm) (Steps.refl _) (a := a) (argsL := argsL) (rest := rest) hlen hst (by show 2 * 0 + _ ≤ _; omega) (hb C.2.2.2.1 hd) (fun _ _ => ⟨rfl, eT, hc, hn⟩)
  dsimp only [Pt.U, Pt.locs, Pt.cells, Pt.slots] at X' l' y' z' stp hQ
  subst l' y' z'
  exact own_via (fun t q => stp.trans q) (K v _ hQ T' _ X' (Fr.app N N') rfl)
theorem own_callI {a : Addr} (C : own_Cx Z p s m meth c own bytes ml rt nm) (hi : y.name = "<init>") (M : own_Met l Z y bytes' maxL' none [] rm n0 (Value.ref a :: argsL).toArray h  (own_nov P0)) (w1 : (Cond.methodLink own i y).before a0 Z = true) (w6 : (Cond.instanceMethod y).before a0 Z = true) (w3 : (Cond.initialized y.cls).before a0 Z = true) (w4 : (Cond.code y bytes' maxL' none).before a0 Z = true)
    (hy : y.cls ≠ "java/lang/invoke/MethodHandle" ∧ y.cls ≠ "java/lang/invoke/VarHandle") (hd : decode bytes pc = .ok (.invokespecial i, 3)) (hs : Ls.size = ml) (hst : st = argsL.reverse ++ .ref a :: rest) (hlen : ∀ sig, parseMethodDescriptor y.desc = some sig → argsL.length = sig.parameters.length) (hW : (rest.map fun v => v.category).sum ≤ W) (hf : rm.frames + 1 ≤ R.frames) (hl : W + (maxL' + 11) + rm.locals ≤ R.locals) (hc : k + rm.cells ≤ R.cells) (hn : n + rm.slots ≤ R.slots) (hp : pc + 3 = pc')
    (K : ∀ h', P0 h' → own_At p l e R s m args below meth c n0 Q h' (k + rm.cells) (n + rm.slots) (mkF m pc' Ls rest)) : own_At p l e R s m args below meth c n0 Q h k n (mkF m pc Ls st) :=
  own_callI0 C hi M w1 w6 w3 w4 hy hd hs hst hlen hW hf hl hc hn hp (by rintro _ h' ⟨rfl, q⟩; exact K h' q)
theorem own_init0 {a : Addr} (C : own_Cx Z p s m meth c own bytes ml rt nm) (w1 : (Cond.methodLink own i Lib.objectInit).before a0 Z = true) (w2 : (Cond.instanceMethod Lib.objectInit).before a0 Z = true) (w4 : (Cond.code Lib.objectInit ⟨#[0xb1]⟩ 1 none).before a0 Z = true)
    (hd : decode bytes pc = .ok (.invokespecial i, 3)) (hs : Ls.size = ml) (hW : (rest.map fun v => v.category).sum ≤ W) (hf : 1 ≤ R.frames) (hl : W + 12 ≤ R.locals) (hp : pc + 3 = pc')
    (K : own_At p l e R s m args below meth c n0 Q h k n (mkF m pc' Ls rest)) : own_At p l e R s m args below meth c n0 Q h k n (mkF m pc Ls (.ref a :: rest)) := by
  subst hp
  intro T L X N eT
  obtain ⟨T', X', e', stp⟩ := initO X C.1 C.2.1 C.2.2.1 w1 w2 w4 eT (g := mkF m pc Ls (.ref a :: rest)) rfl (hs.trans C.2.2.2.2.1.symm) rfl (hb C.2.2.2.1 hd) hf (W := W) (by show 2 * 0 + _ ≤ _; omega) hl
  exact own_via stp (K T' L X' N e')
end Calls

/-! ### the enum constants of a case -/
def own_En (Z : State) (h : Heap) (C n : String) (d : String) (i : Int32) (a : Addr) : Prop := Sta Z h C n d (.ref a) ∧ Exa Z h a C ∧ Fld Z h a "java/lang/Enum" "ordinal" "I" (.int i)
theorem own_En.ext {h' : Heap} {C f d : String} {i : Int32} {a : Addr} (E : Ext h h') (F : own_En Z h C f d i a) : own_En Z h' C f d i a := ⟨F.1.ext E, F.2.1.ext E, F.2.2.ext E⟩
theorem own_En.ne {C f d g d' : String} {i j : Int32} {a b : Addr} (F : own_En Z h C f d i a) (G : own_En Z h C g d' j b) (q : i ≠ j) : a ≠ b := F.2.2.ne G.2.2 fun z => q (Value.int.inj z)
theorem own_fldv {t : Term} {FC ff : String} {i : Int32} {a : Addr} (ea : t.eval args Z none [] Z = some (.ref a)) (hO : (Cond.eq (.field t FC ff "I") (.int i)).value args Z none Z [] = some true) : Fld Z Z.heap a FC ff "I" (.int i) := by
  refine Fld.start ?_
  obtain ⟨x, y, e1, e2, k1, k2⟩ := cmp_v (Or.inl hO)
  have e3 : y = .int i := by simpa [Term.eval] using e2.symm
  subst e3
  obtain ⟨z, rfl⟩ : ∃ z, x = .int z := k2
  have e4 : z = i := by simpa [Cond.value, e1, e2] using hO
  subst e4
  rw [← fld_at ea]; exact e1
theorem own_sfld {C f d FC ff : String} {i : Int32} {a : Addr} (S : Sta Z Z.heap C f d (.ref a)) (hO : (Cond.eq (.field (.static C f d) FC ff "I") (.int i)).value args Z none Z [] = some true) : Fld Z Z.heap a FC ff "I" (.int i) :=
  own_fldv (S.fin (Vm.Alike.refl _)) hO
theorem own_enum {C f d : String} {i : Int32} (hX : (Cond.exactly (.static C f d) C).value args Z none Z [] = some true) (hO : (Cond.eq (.field (.static C f d) "java/lang/Enum" "ordinal" "I") (.int i)).value args Z none Z [] = some true) (w1 : (Cond.initialized C).before args Z = true) (w2 : (Cond.laysStatic C f d).before args Z = true) : ∃ a, own_En Z Z.heap C f d i a := by
  obtain ⟨a, ea⟩ := exa_v hX
  exact ⟨a, Sta.start ea (Or.inr ⟨w1, w2⟩), Exa.start ea hX, own_fldv ea hO⟩
end OwnKit
/-! The heap part: objects and arrays with known contents. -/
section OwnHeap
variable {p : Program} {l : Launch} {e : Env} {R : Room} {s : State} {m : MethodId} {args : Array Value} {below : List Frame} {meth : Method} {c : Code} {Z : State} {n0 : Nat} {own : String} {bytes : ByteArray} {ml : Nat} {rt : Option FieldType} {nm : String} {Q : Option Value → Heap → Prop} {h h' : Heap} {k n : Nat} {pc pc' : Nat} {Ls Ls' : Array Slot} {st rest : List Value} {a0 : Array Value} {f f' : JFrame}
/-- an object at a, exactly of class C; the fields that lay names hold vs -/
def own_Ob (Z : State) (h : Heap) (a : Addr) (C : String) (lay : List (String × String × String)) (vs : List Value) : Prop :=
  Exa Z h a C ∧ lay.length = vs.length ∧ ∀ (i : Nat) (x : String × String × String) (v : Value), lay[i]? = some x → vs[i]? = some v → Fld Z h a x.1 x.2.1 x.2.2 v
def own_LayOk (Z : State) (a0 : Array Value) (C : String) (lay : List (String × String × String)) : Prop :=
  (lay.map fun x => x.2.1).Nodup ∧ ∀ x ∈ lay, Laid Z a0 C x.1 x.2.1 x.2.2 ∧ ∃ t, parseFieldDescriptor x.2.2 = some t
theorem own_Ob.ext {a : Addr} {C : String} {lay : List (String × String × String)} {vs : List Value} (F : own_Ob Z h a C lay vs) (E : Ext h h') : own_Ob Z h' a C lay vs := ⟨F.1.ext E, F.2.1, fun i x v h1 h2 => (F.2.2 i x v h1 h2).ext E⟩
theorem own_Ob.other {a b : Addr} {C : String} {lay : List (String × String × String)} {vs : List Value} {sl : Nat} {v : Value} (F : own_Ob Z h b C lay vs) (W : Wr h h' a sl v) (q : b ≠ a) : own_Ob Z h' b C lay vs := ⟨F.1.wr W, F.2.1, fun i x v h1 h2 => (F.2.2 i x v h1 h2).other W (Or.inl q)⟩
theorem own_Ob.keep {a : Addr} {C : String} {lay : List (String × String × String)} {vs : List Value} {ws : List Addr} (F : own_Ob Z h a C lay vs) (K : Keep h h' ws) (q : a ∉ ws) : own_Ob Z h' a C lay vs := ⟨F.1.keep K, F.2.1, fun i x v h1 h2 => (F.2.2 i x v h1 h2).keep K q⟩
theorem own_Ob.lt {a : Nat} {C : String} {lay : List (String × String × String)} {vs : List Value} (F : own_Ob Z h a C lay vs) : a < h.size := F.1.lt
theorem own_Ob.get {a : Addr} {C O f d : String} {lay : List (String × String × String)} {vs : List Value} {v : Value} (F : own_Ob Z h a C lay vs) (i : Nat) (h1 : lay[i]? = some (O, f, d)) (h2 : vs[i]? = some v) : Fld Z h a O f d v := F.2.2 i _ v h1 h2
theorem own_Ob.put {a : Addr} {C O f d : String} {lay : List (String × String × String)} {vs vs' : List Value} {v : Value} (F : own_Ob Z h a C lay vs) (ok : own_LayOk Z a0 C lay) (i : Nat) (h1 : lay[i]? = some (O, f, d)) (W : Wr h h' a (RoadKit.slotOf Z O f d) v) (e : vs.set i v = vs') : own_Ob Z h' a C lay vs' := by
  subst e
  refine ⟨F.1.wr W, by simpa using F.2.1, fun j x w h3 h4 => ?_⟩
  by_cases q : j = i
  · subst q
    cases h1.symm.trans h3
    have hi : j < vs.length := by rw [← F.2.1]; exact (List.getElem?_eq_some_iff.mp h1).1
    obtain rfl : v = w := by simpa [hi] using h4
    exact (F.2.2 j (O, f, d) vs[j] h1 (List.getElem?_eq_getElem hi)).same W
  · rw [List.getElem?_set_ne (Ne.symm q)] at h4
    obtain ⟨lx, tx, px⟩ := ok.2 x (List.mem_of_getElem? h3)
    obtain ⟨lf, tf, pf⟩ := ok.2 _ (List.mem_of_getElem? h1)
    refine (F.2.2 j x w h3 h4).other W (Or.inr (slot_ne lx lf (fun z => q ?_) px pf))
    have h5 : (lay.map fun x => x.2.1)[j]? = some x.2.1 := by simp [h3]
    have h6 : (lay.map fun x => x.2.1)[i]? = some x.2.1 := by simp [h1, z]
    exact (List.getElem?_inj (List.getElem?_eq_some_iff.mp h5).1 ok.1).mp (h5.trans h6.symm)
def own_dflt (x : String × String × String) : Value := match parseFieldDescriptor x.2.2 with | some t => defaultValue t | none => .null
theorem own_newO (C : own_Cx Z p s m meth c own bytes ml rt nm) {Cn : String} {lay : List (String × String × String)} {vs : List Value} {i sl : Nat} (w : (Cond.classLink own i Cn).before a0 Z = true) (wi : (Cond.instantiable Cn sl).before a0 Z = true) (wz : (Cond.initialized Cn).before a0 Z = true) (ok : own_LayOk Z a0 Cn lay) (hv : lay.map own_dflt = vs) (hd : decode bytes pc = .ok (.new i, 3)) (hc : k + 1 ≤ R.cells) (hl : n + sl ≤ R.slots) (hp : pc + 3 = pc')
    (K : ∀ h' b, b = h.size → Ext h h' → own_Ob Z h' b Cn lay vs → own_At p l e R s m args below meth c n0 Q h' (k + 1) (n + sl) (mkF m pc' Ls (.ref b :: st))) :
    own_At p l e R s m args below meth c n0 Q h k n (mkF m pc Ls st) := by
  subst hp hv
  intro T L X N eT
  obtain ⟨T', h', X', e', E, A, D, -, stp⟩ := newO X C.1 C.2.1 C.2.2.1 w wi wz eT (g := mkF m pc Ls st) rfl (hb C.2.2.2.1 hd) hc hl
  refine own_via stp (K h' _ rfl E ⟨A, by simp, fun j x v h1 h2 => ?_⟩ T' L X' N e')
  obtain ⟨lx, tx, px⟩ := ok.2 x (List.mem_of_getElem? h1)
  have : v = defaultValue tx := by
    have : own_dflt x = v := by simpa [h1] using h2
    rw [← this, own_dflt, px]
  subst this
  exact D lx px
theorem own_getO (C : own_Cx Z p s m meth c own bytes ml rt nm) {R0 O f d Cn : String} {lay : List (String × String × String)} {vs : List Value} {i : Nat} {a : Addr} {v : Value} (w : (Cond.fieldLink own i R0 f d).before a0 Z = true) (via : Via Z R0 O f d) (F : own_Ob Z h a Cn lay vs) (j : Nat) (h1 : lay[j]? = some (O, f, d)) (h2 : vs[j]? = some v) (hd : decode bytes pc = .ok (.getfield i, 3)) (hp : pc + 3 = pc')
    (K : own_At p l e R s m args below meth c n0 Q h k n (mkF m pc' Ls (v :: st))) : own_At p l e R s m args below meth c n0 Q h k n (mkF m pc Ls (.ref a :: st)) :=
  own_getfield C w via (F.get j h1 h2) hd hp K
theorem own_getN (C : own_Cx Z p s m meth c own bytes ml rt nm) {R0 O f d Cn host : String} {lay : List (String × String × String)} {vs : List Value} {i : Nat} {a : Addr} {v : Value} (w : (Cond.fieldLinkNest own i R0 f d host).before a0 Z = true) (via : Via Z R0 O f d) (F : own_Ob Z h a Cn lay vs) (j : Nat) (h1 : lay[j]? = some (O, f, d)) (h2 : vs[j]? = some v) (hd : decode bytes pc = .ok (.getfield i, 3)) (hp : pc + 3 = pc')
    (K : own_At p l e R s m args below meth c n0 Q h k n (mkF m pc' Ls (v :: st))) : own_At p l e R s m args below meth c n0 Q h k n (mkF m pc Ls (.ref a :: st)) := by
  subst hp
  intro T L X N eT
  obtain ⟨T', X', e', stp⟩ := getF X C.1 C.2.1 C.2.2.1 (host := host) (Or.inr w) via eT (F.get j h1 h2) (g := mkF m pc Ls (.ref a :: st)) rfl rfl (hb C.2.2.2.1 hd)
  exact own_via stp (K T' L X' N e')
theorem own_putO (C : own_Cx Z p s m meth c own bytes ml rt nm) {R0 O f d Cn : String} {lay : List (String × String × String)} {vs vs' : List Value} {i kk : Nat} {ty : FieldType} {a : Addr} {v : Value} (w : (Cond.fieldLink own i R0 f d).before a0 Z = true) (via : Via Z R0 O f d) (F : own_Ob Z h a Cn lay vs) (ok : own_LayOk Z a0 Cn lay) (j : Nat) (h1 : lay[j]? = some (O, f, d)) (h2 : vs.set j v = vs')
    (Ly : (Cond.lays Cn O f d).before a0 Z = true ∨ ((Cond.laysFinal Cn O f d).before a0 Z = true ∧ own = O ∧ nm = "<init>")) (wi : (Cond.instantiable Cn kk).before a0 Z = true) (hty : parseFieldDescriptor d = some ty) (hn : narrow ty v = v) (hf : fits ty v = true) (ha : n0 ≤ a) (hd : decode bytes pc = .ok (.putfield i, 3)) (hp : pc + 3 = pc')
    (K : ∀ h', Wr h h' a (RoadKit.slotOf Z O f d) v → own_Ob Z h' a Cn lay vs' → own_At p l e R s m args below meth c n0 Q h' k n (mkF m pc' Ls st)) : own_At p l e R s m args below meth c n0 Q h k n (mkF m pc Ls (v :: .ref a :: st)) := by
  subst hp
  intro T L X N eT
  have hj : j < vs.length := by rw [← F.2.1]; exact (List.getElem?_eq_some_iff.mp h1).1
  obtain ⟨T', h', X', e', W, stp⟩ := putF X C.1 C.2.1 C.2.2.1 (host := "") (Or.inl w) via eT (F.get j h1 (List.getElem?_eq_getElem hj)) F.1 (Ly.imp id fun q => ⟨q.1, q.2.1, C.2.2.2.2.2.2.2.trans q.2.2⟩) wi hty hn hf (g := mkF m pc Ls (v :: .ref a :: st)) rfl rfl (hb C.2.2.2.1 hd)
  exact own_via stp (K h' W (F.put ok j h1 W h2) T' _ X' (Fr.snoc X' N ha) e')
/-- what may lie in an array of the class cA: the objects of K -/
def own_Ov (Z : State) (cA : ClassId) (K : String) : Prop := ∃ (k : Class) (comp : ClassId) (t : FieldType), Z.vm.classes[cA]? = some k ∧ k.kind = .array comp t ∧ Z.vm.findClass K = some comp
/-- an array at a, its elements the list vs; its class ad; K: the class of its elements ("": none is stored) -/
def own_Ar (Z : State) (h : Heap) (a : Addr) (ty : FieldType) (ad K : String) (vs : List Value) : Prop := ∃ cl : Cell, Arr Z h a cl ty ∧ cl.slots.toList = vs ∧ vs.length < 2 ^ 31 ∧ Exa Z h a ad ∧ (K = "" ∨ own_Ov Z cl.cls K)
section Arrays
variable {a b : Addr} {ty : FieldType} {ad Kc : String} {vs vs' : List Value} {j : Int32} {v : Value}
theorem own_Ar.ext (A : own_Ar Z h a ty ad Kc vs) (E : Ext h h') : own_Ar Z h' a ty ad Kc vs := by obtain ⟨cl, q, r1, r2, r3, r4⟩ := A; exact ⟨cl, q.ext E, r1, r2, r3.ext E, r4⟩
theorem own_Ar.other {sl : Nat} (A : own_Ar Z h b ty ad Kc vs) (W : Wr h h' a sl v) (q : b ≠ a) : own_Ar Z h' b ty ad Kc vs := by obtain ⟨cl, g, r1, r2, r3, r4⟩ := A; exact ⟨cl, g.other W q, r1, r2, r3.wr W, r4⟩
theorem own_Ar.keep {ws : List Addr} (A : own_Ar Z h a ty ad Kc vs) (K : Keep h h' ws) (q : a ∉ ws) : own_Ar Z h' a ty ad Kc vs := by obtain ⟨cl, g, r1, r2, r3, r4⟩ := A; exact ⟨cl, ⟨K.2.1 a cl g.1 q, g.2⟩, r1, r2, r3.keep K, r4⟩
theorem own_Ar.lt {a : Nat} (A : own_Ar Z h a ty ad Kc vs) : a < h.size := by obtain ⟨cl, g, -⟩ := A; exact g.lt
theorem own_Ar.exa (A : own_Ar Z h a ty ad Kc vs) : Exa Z h a ad := by obtain ⟨cl, g, r1, r2, r3, r4⟩ := A; exact r3
theorem own_Ar.same {i : Nat} (A : own_Ar Z h a ty ad Kc vs) (W : Wr h h' a i v) (e : vs.set i v = vs') : own_Ar Z h' a ty ad Kc vs' := by
  subst e
  obtain ⟨cl, g, r1, r2, r3, r4⟩ := A
  refine ⟨_, g.same W, ?_, by simpa using r2, r3.wr W, r4⟩
  subst r1
  simp [Cell.setSlot]
theorem own_idx {cl : Cell} (hs : cl.slots.toList = vs) (hj : ¬ j < 0) (hv : vs[j.toNatClampNeg]? = some v) : ¬ (j < 0 ∨ cl.slots.size ≤ j.toNatClampNeg) ∧ cl.slots[j.toNatClampNeg]? = some v := by
  subst hs
  have q : cl.slots[j.toNatClampNeg]? = some v := by simpa using hv
  have := (Array.getElem?_eq_some_iff.mp q).1
  exact ⟨fun z => z.elim hj (fun z => by omega), q⟩
theorem own_lt {cl : Cell} (hs : cl.slots.toList = vs) (hj : ¬ j < 0) (hv : j.toNatClampNeg < vs.length) : ¬ (j < 0 ∨ cl.slots.size ≤ j.toNatClampNeg) := by
  subst hs
  have : j.toNatClampNeg < cl.slots.size := by simpa using hv
  exact fun z => z.elim hj (fun z => by omega)
theorem own_Ar.sto {y : Addr} (A : own_Ar Z h a ty ad Kc vs) (hK : Kc ≠ "") (I : Ins Z h y Kc true) : Sto Z h a (.ref y) := by
  obtain ⟨cl, g, r1, r2, r3, r4⟩ := A
  obtain ⟨k, comp, t, o1, o2, o3⟩ := r4.resolve_left hK
  obtain ⟨cv, cT, i1, i2, i3⟩ := I
  cases o3.symm.trans i2
  simp only [Bool.and_eq_true, Bool.not_eq_true'] at i3
  obtain ⟨kc, q⟩ := Vm.classAt_of_findClass o3
  obtain ⟨kv, q2⟩ := Vm.classAt_of_assignable i3.2 ⟨kc, q⟩
  exact Or.inr ⟨cl, cv, k, kv, kc, _, _, y, g.1, o1, o2, q, rfl, i1, i3.1, q2, i3.2⟩
theorem own_arraylength (C : own_Cx Z p s m meth c own bytes ml rt nm) {z : Int32} (A : own_Ar Z h a ty ad Kc vs) (hz : vs.length.toInt32 = z) (hd : decode bytes pc = .ok (.arraylength, 1)) (hp : pc + 1 = pc')
    (K : own_At p l e R s m args below meth c n0 Q h k n (mkF m pc' Ls (.int z :: st))) : own_At p l e R s m args below meth c n0 Q h k n (mkF m pc Ls (.ref a :: st)) := by
  subst hp hz
  obtain ⟨cl, A, rfl, -⟩ := A
  intro T L X N eT
  exact own_via (fun t hr => X.arraylength C.1 (by rw [eT]; exact A.1) (State.isArrayOf_alike C.2.1.alike A.2.1) (g := mkF m pc Ls (.ref a :: st)) rfl rfl (hb C.2.2.2.1 hd) t (by simpa using hr)) (K T L X N eT)
theorem own_iaload (C : own_Cx Z p s m meth c own bytes ml rt nm) (A : own_Ar Z h a .int ad Kc vs) (hj : ¬ j < 0) (hv : vs[j.toNatClampNeg]? = some v) (hd : decode bytes pc = .ok (.iaload, 1)) (hp : pc + 1 = pc')
    (K : own_At p l e R s m args below meth c n0 Q h k n (mkF m pc' Ls (v :: st))) : own_At p l e R s m args below meth c n0 Q h k n (mkF m pc Ls (.int j :: .ref a :: st)) := by
  subst hp
  obtain ⟨cl, A, r, -⟩ := A
  obtain ⟨q1, q2⟩ := own_idx r hj hv
  intro T L X N eT
  exact own_via (fun t hr => X.iaload C.1 (j := j) (v := v) (by rw [eT]; exact A.1) (State.isArrayOf_alike C.2.1.alike A.2.1) A.2.2 q1 q2 (g := mkF m pc Ls (.int j :: .ref a :: st)) rfl rfl (hb C.2.2.2.1 hd) t hr) (K T L X N eT)
theorem own_baload (C : own_Cx Z p s m meth c own bytes ml rt nm) (A : own_Ar Z h a .byte ad Kc vs) (hj : ¬ j < 0) (hv : vs[j.toNatClampNeg]? = some v) (hd : decode bytes pc = .ok (.baload, 1)) (hp : pc + 1 = pc')
    (K : own_At p l e R s m args below meth c n0 Q h k n (mkF m pc' Ls (v :: st))) : own_At p l e R s m args below meth c n0 Q h k n (mkF m pc Ls (.int j :: .ref a :: st)) := by
  subst hp
  obtain ⟨cl, A, r, -⟩ := A
  obtain ⟨q1, q2⟩ := own_idx r hj hv
  intro T L X N eT
  exact own_via (fun t hr => X.baloadBytes C.1 (j := j) (v := v) (by rw [eT]; exact A.1) (State.isArrayOf_alike C.2.1.alike A.2.1) A.2.2 q1 q2 (g := mkF m pc Ls (.int j :: .ref a :: st)) rfl rfl (hb C.2.2.2.1 hd) t hr) (K T L X N eT)
theorem own_caload (C : own_Cx Z p s m meth c own bytes ml rt nm) (A : own_Ar Z h a .char ad Kc vs) (hj : ¬ j < 0) (hv : vs[j.toNatClampNeg]? = some v) (hd : decode bytes pc = .ok (.caload, 1)) (hp : pc + 1 = pc')
    (K : own_At p l e R s m args below meth c n0 Q h k n (mkF m pc' Ls (v :: st))) : own_At p l e R s m args below meth c n0 Q h k n (mkF m pc Ls (.int j :: .ref a :: st)) := by
  subst hp
  obtain ⟨cl, A, r, -⟩ := A
  obtain ⟨q1, q2⟩ := own_idx r hj hv
  intro T L X N eT
  exact own_via (fun t hr => X.caload C.1 (j := j) (v := v) (by rw [eT]; exact A.1) (State.isArrayOf_alike C.2.1.alike A.2.1) A.2.2 q1 q2 (g := mkF m pc Ls (.int j :: .ref a :: st)) rfl rfl (hb C.2.2.2.1 hd) t hr) (K T L X N eT)
theorem own_aaload (C : own_Cx Z p s m meth c own bytes ml rt nm) (A : own_Ar Z h a ty ad Kc vs) (hty : ty.isReference = true) (hj : ¬ j < 0) (hv : vs[j.toNatClampNeg]? = some v) (hd : decode bytes pc = .ok (.aaload, 1)) (hp : pc + 1 = pc')
    (K : own_At p l e R s m args below meth c n0 Q h k n (mkF m pc' Ls (v :: st))) : own_At p l e R s m args below meth c n0 Q h k n (mkF m pc Ls (.int j :: .ref a :: st)) := by
  subst hp
  obtain ⟨cl, A, r, -⟩ := A
  obtain ⟨q1, q2⟩ := own_idx r hj hv
  intro T L X N eT
  exact own_via (fun t hr => X.aaload C.1 (j := j) (v := v) (by rw [eT]; exact A.1) (State.isArrayOf_alike C.2.1.alike A.2.1) hty A.2.2 q1 q2 (g := mkF m pc Ls (.int j :: .ref a :: st)) rfl rfl (hb C.2.2.2.1 hd) t hr) (K T L X N eT)
theorem own_iastore (C : own_Cx Z p s m meth c own bytes ml rt nm) {x z : Int32} (A : own_Ar Z h a .int ad Kc vs) (hj : ¬ j < 0) (hv : j.toNatClampNeg < vs.length) (hz : x = z) (hs : vs.set j.toNatClampNeg (.int z) = vs') (ha : n0 ≤ a) (hd : decode bytes pc = .ok (.iastore, 1)) (hp : pc + 1 = pc')
    (K : ∀ h', Wr h h' a j.toNatClampNeg (.int z) → own_Ar Z h' a .int ad Kc vs' → own_At p l e R s m args below meth c n0 Q h' k n (mkF m pc' Ls st)) : own_At p l e R s m args below meth c n0 Q h k n (mkF m pc Ls (.int x :: .int j :: .ref a :: st)) := by
  subst hp hz
  have A0 := A
  obtain ⟨cl, A, r, -⟩ := A
  intro T L X N eT
  obtain ⟨T', h', X', e', W, stp⟩ := stI X C.1 C.2.1 eT A (own_lt r hj hv) (g := mkF m pc Ls (.int x :: .int j :: .ref a :: st)) rfl rfl (hb C.2.2.2.1 hd)
  exact own_via stp (K h' W (A0.same W hs) T' _ X' (Fr.snoc X' N ha) e')
theorem own_bastore (C : own_Cx Z p s m meth c own bytes ml rt nm) {x z : Int32} (A : own_Ar Z h a .byte ad Kc vs) (hj : ¬ j < 0) (hv : j.toNatClampNeg < vs.length) (hz : (nar .byte x) = z) (hs : vs.set j.toNatClampNeg (.int z) = vs') (ha : n0 ≤ a) (hd : decode bytes pc = .ok (.bastore, 1)) (hp : pc + 1 = pc')
    (K : ∀ h', Wr h h' a j.toNatClampNeg (.int z) → own_Ar Z h' a .byte ad Kc vs' → own_At p l e R s m args below meth c n0 Q h' k n (mkF m pc' Ls st)) : own_At p l e R s m args below meth c n0 Q h k n (mkF m pc Ls (.int x :: .int j :: .ref a :: st)) := by
  subst hp hz
  have A0 := A
  obtain ⟨cl, A, r, -⟩ := A
  intro T L X N eT
  obtain ⟨T', h', X', e', W, stp⟩ := stB X C.1 C.2.1 eT A (own_lt r hj hv) (g := mkF m pc Ls (.int x :: .int j :: .ref a :: st)) rfl rfl (hb C.2.2.2.1 hd)
  exact own_via stp (K h' W (A0.same W hs) T' _ X' (Fr.snoc X' N ha) e')
theorem own_castore (C : own_Cx Z p s m meth c own bytes ml rt nm) {x z : Int32} (A : own_Ar Z h a .char ad Kc vs) (hj : ¬ j < 0) (hv : j.toNatClampNeg < vs.length) (hz : (nar .char x) = z) (hs : vs.set j.toNatClampNeg (.int z) = vs') (ha : n0 ≤ a) (hd : decode bytes pc = .ok (.castore, 1)) (hp : pc + 1 = pc')
    (K : ∀ h', Wr h h' a j.toNatClampNeg (.int z) → own_Ar Z h' a .char ad Kc vs' → own_At p l e R s m args below meth c n0 Q h' k n (mkF m pc' Ls st)) : own_At p l e R s m args below meth c n0 Q h k n (mkF m pc Ls (.int x :: .int j :: .ref a :: st)) := by
  subst hp hz
  have A0 := A
  obtain ⟨cl, A, r, -⟩ := A
  intro T L X N eT
  obtain ⟨T', h', X', e', W, stp⟩ := stC X C.1 C.2.1 eT A (own_lt r hj hv) (g := mkF m pc Ls (.int x :: .int j :: .ref a :: st)) rfl rfl (hb C.2.2.2.1 hd)
  exact own_via stp (K h' W (A0.same W hs) T' _ X' (Fr.snoc X' N ha) e')
theorem own_bastoreZ (C : own_Cx Z p s m meth c own bytes ml rt nm) {x z : Int32} (A : own_Ar Z h a .boolean ad Kc vs) (hj : ¬ j < 0) (hv : j.toNatClampNeg < vs.length) (hz : (nar .boolean x) = z) (hs : vs.set j.toNatClampNeg (.int z) = vs') (ha : n0 ≤ a) (hd : decode bytes pc = .ok (.bastore, 1)) (hp : pc + 1 = pc')
    (K : ∀ h', Wr h h' a j.toNatClampNeg (.int z) → own_Ar Z h' a .boolean ad Kc vs' → own_At p l e R s m args below meth c n0 Q h' k n (mkF m pc' Ls st)) : own_At p l e R s m args below meth c n0 Q h k n (mkF m pc Ls (.int x :: .int j :: .ref a :: st)) := by
  subst hp hz
  have A0 := A
  obtain ⟨cl, A, r, -⟩ := A
  intro T L X N eT
  obtain ⟨T', h', X', e', W, stp⟩ := stZ X C.1 C.2.1 eT A (own_lt r hj hv) (g := mkF m pc Ls (.int x :: .int j :: .ref a :: st)) rfl rfl (hb C.2.2.2.1 hd)
  exact own_via stp (K h' W (A0.same W hs) T' _ X' (Fr.snoc X' N ha) e')
theorem own_aastore (C : own_Cx Z p s m meth c own bytes ml rt nm) (A : own_Ar Z h a ty ad Kc vs) (hty : ty.isReference = true) (S : Sto Z h a v) (hj : ¬ j < 0) (hv : j.toNatClampNeg < vs.length) (hs : vs.set j.toNatClampNeg v = vs') (ha : n0 ≤ a) (hd : decode bytes pc = .ok (.aastore, 1)) (hp : pc + 1 = pc')
    (K : ∀ h', Wr h h' a j.toNatClampNeg v → own_Ar Z h' a ty ad Kc vs' → own_At p l e R s m args below meth c n0 Q h' k n (mkF m pc' Ls st)) : own_At p l e R s m args below meth c n0 Q h k n (mkF m pc Ls (v :: .int j :: .ref a :: st)) := by
  subst hp
  have A0 := A
  obtain ⟨cl, A, r, -⟩ := A
  intro T L X N eT
  obtain ⟨T', h', X', e', W, stp⟩ := stR X C.1 C.2.1 eT A (own_lt r hj hv) hty S (g := mkF m pc Ls (v :: .int j :: .ref a :: st)) rfl rfl (hb C.2.2.2.1 hd)
  exact own_via stp (K h' W (A0.same W hs) T' _ X' (Fr.snoc X' N ha) e')
theorem own_newarray (C : own_Cx Z p s m meth c own bytes ml rt nm) {aty : ArrayType} {z : Int32} (w : (Cond.arrayClass (newarray.typeOf aty)).before a0 Z = true) (hz : ¬ z < 0) {cap : Nat} (hcap : z.toNatClampNeg ≤ cap) (hb' : cap * 8 ≤ 536870912) (had : "[" ++ (newarray.typeOf aty).toString = ad) (hvs : List.replicate z.toNatClampNeg (defaultValue (newarray.typeOf aty)) = vs) (hd : decode bytes pc = .ok (.newarray aty, 2)) (hc : k + 1 ≤ R.cells) (hl : n + cap ≤ R.slots) (hp : pc + 2 = pc')
    (K : ∀ h' b, b = h.size → Ext h h' → own_Ar Z h' b (newarray.typeOf aty) ad "" vs → own_At p l e R s m args below meth c n0 Q h' (k + 1) (n + cap) (mkF m pc' Ls (.ref b :: st))) : own_At p l e R s m args below meth c n0 Q h k n (mkF m pc Ls (.int z :: st)) := by
  subst hp hvs
  intro T L X N eT
  obtain ⟨T', h', cA, X', e', E, A, Ex, stp⟩ := newPE X C.1 C.2.1 w eT (g := mkF m pc Ls (.int z :: st)) rfl (hb C.2.2.2.1 hd) rfl hz hcap hb' hc hl had
  exact own_via stp (K h' _ rfl E ⟨_, A, by simp [newA], by simp; exact (back32 hz).2, Ex, Or.inl rfl⟩ T' L X' N e')
theorem own_anewarray (C : own_Cx Z p s m meth c own bytes ml rt nm) {Cn : String} {i : Nat} {z : Int32} (w : (Cond.classLink own i Cn).before a0 Z = true) (w2 : (Cond.arrayOver (.object Cn)).before a0 Z = true) (hz : ¬ z < 0) {cap : Nat} (hcap : z.toNatClampNeg ≤ cap) (hb' : cap * 8 ≤ 536870912) (had : "[" ++ (FieldType.object Cn).toString = ad) (hvs : List.replicate z.toNatClampNeg .null = vs) (hd : decode bytes pc = .ok (.anewarray i, 3)) (hc : k + 1 ≤ R.cells) (hl : n + cap ≤ R.slots) (hp : pc + 3 = pc')
    (K : ∀ h' b, b = h.size → Ext h h' → own_Ar Z h' b (.object Cn) ad Cn vs → own_At p l e R s m args below meth c n0 Q h' (k + 1) (n + cap) (mkF m pc' Ls (.ref b :: st))) : own_At p l e R s m args below meth c n0 Q h k n (mkF m pc Ls (.int z :: st)) := by
  subst hp hvs
  intro T L X N eT
  obtain ⟨T', h', cA, X', e', E, A, Ex, O, stp⟩ := newRE X C.1 C.2.1 C.2.2.1 w w2 eT (g := mkF m pc Ls (.int z :: st)) rfl (hb C.2.2.2.1 hd) rfl hz hcap hb' hc hl had
  obtain ⟨kk, comp, o1, o2, o3⟩ := O
  exact own_via stp (K h' _ rfl E ⟨_, A, by simp [newA, defaultValue], by simp; exact (back32 hz).2, Ex, Or.inr ⟨kk, comp, _, o1, o2, o3⟩⟩ T' L X' N e')
theorem own_anewarrayA (C : own_Cx Z p s m meth c own bytes ml rt nm) {Cn : String} {i : Nat} {z : Int32} (hC : (FieldType.array ty).toString = Cn) (w : (Cond.classLink own i Cn).before a0 Z = true) (w2 : (Cond.arrayOver (.array ty)).before a0 Z = true) (hz : ¬ z < 0) {cap : Nat} (hcap : z.toNatClampNeg ≤ cap) (hb' : cap * 8 ≤ 536870912) (had : "[" ++ Cn = ad) (hvs : List.replicate z.toNatClampNeg .null = vs) (hd : decode bytes pc = .ok (.anewarray i, 3)) (hc : k + 1 ≤ R.cells) (hl : n + cap ≤ R.slots) (hp : pc + 3 = pc')
    (K : ∀ h' b, b = h.size → Ext h h' → own_Ar Z h' b (.array ty) ad Cn vs → own_At p l e R s m args below meth c n0 Q h' (k + 1) (n + cap) (mkF m pc' Ls (.ref b :: st))) : own_At p l e R s m args below meth c n0 Q h k n (mkF m pc Ls (.int z :: st)) := by
  subst hp hvs
  intro T L X N eT
  obtain ⟨T', h', cA, X', e', E, A, Ex, O, stp⟩ := newRA X C.1 C.2.1 C.2.2.1 hC w w2 eT (g := mkF m pc Ls (.int z :: st)) rfl (hb C.2.2.2.1 hd) rfl hz hcap hb' hc hl had
  obtain ⟨kk, comp, o1, o2, o3⟩ := O
  exact own_via stp (K h' _ rfl E ⟨_, A, by simp [newA, defaultValue], by simp; exact (back32 hz).2, Ex, Or.inr ⟨kk, comp, _, o1, o2, o3⟩⟩ T' L X' N e')
end Arrays
theorem own_castY (C : own_Cx Z p s m meth c own bytes ml rt nm) {Kc : String} {i : Nat} {a : Addr} (w : (Cond.classLink own i Kc).before a0 Z = true) (I : Ins Z h a Kc true) (hd : decode bytes pc = .ok (.checkcast i, 3)) (hp : pc + 3 = pc')
    (K : own_At p l e R s m args below meth c n0 Q h k n (mkF m pc' Ls (.ref a :: st))) : own_At p l e R s m args below meth c n0 Q h k n (mkF m pc Ls (.ref a :: st)) := by
  subst hp
  intro T L X N eT
  obtain ⟨T', X', e', stp⟩ := castY X C.1 C.2.1 C.2.2.1 w eT I (g := mkF m pc Ls (.ref a :: st)) rfl rfl (hb C.2.2.2.1 hd)
  exact own_via stp (K T' L X' N e')
theorem own_dup_x1 (C : own_Cx Z p s m meth c own bytes ml rt nm) {x y : Value} (hd : decode bytes pc = .ok (.dup_x1, 1)) (hx : x.category = 1) (hy : y.category = 1) (hp : pc + 1 = pc')
    (K : own_At p l e R s m args below meth c n0 Q h k n (mkF m pc' Ls (x :: y :: x :: st))) : own_At p l e R s m args below meth c n0 Q h k n (mkF m pc Ls (x :: y :: st)) := by
  subst hp; exact own_of (fun T L X t hr => XS.dupX1 X.here C.1 rfl (hb C.2.2.2.1 hd) rfl hx hy hr) K
theorem own_dup2 (C : own_Cx Z p s m meth c own bytes ml rt nm) {x y : Value} (hd : decode bytes pc = .ok (.dup2, 1)) (hx : x.category = 1) (hy : y.category = 1) (hp : pc + 1 = pc')
    (K : own_At p l e R s m args below meth c n0 Q h k n (mkF m pc' Ls (x :: y :: x :: y :: st))) : own_At p l e R s m args below meth c n0 Q h k n (mkF m pc Ls (x :: y :: st)) := by
  subst hp
  refine own_of (fun T L X t hr => ?_) K
  have hd' := hb C.2.2.2.1 hd
  have hx' := C.1
  jvm_step X.here [X.here.top, hx', hd', hx, hy]
  exact hr
/-! the old part of the heap, and places -/
theorem own_old {ws : List Addr} (X : Old Z n0 h) (K : Keep h h' ws) (q : ∀ x ∈ ws, n0 ≤ x) : Old Z n0 h' := X.keep K q
theorem own_Keep.trans {h'' : Heap} {ws ws' : List Addr} (K : Keep h h' ws) (K' : Keep h' h'' ws') (q : ∀ x ∈ ws', x ∈ ws ∨ h.size ≤ x) : Keep h h'' ws := K.trans K' q
theorem own_ke (E : Ext h h') : Keep h h' [] := (Keep.refl h []).ext E
theorem own_nil {α : Type} {P : α → Prop} : ∀ x ∈ ([] : List α), P x := fun _ q => nomatch q
theorem own_allS {α : Type} {P : α → Prop} {y : α} {L : List α} (q : P y) (r : ∀ x ∈ L, P x) : ∀ x ∈ y :: L, P x := fun x z => (List.mem_cons.mp z).elim (fun u => u ▸ q) (r x)
/-- a static that holds a, and what is known of a -/
def own_Sx (Z : State) (C f d : String) (a : Addr) (P : Prop) : Prop := Sta Z Z.heap C f d (.ref a) ∧ P
def own_layE : List (String × String × String) := [("java/lang/Enum", "ordinal", "I")]
def own_layN : List (String × String × String) := []
theorem own_En.ob {C f d : String} {i : Int32} {a : Addr} (E : own_En Z Z.heap C f d i a) : own_Sx Z C f d a (own_Ob Z Z.heap a C own_layE [.int i]) := ⟨E.1, E.2.1, rfl, fun j x v h1 h2 => by
  match j, h1, h2 with
  | 0, h1, h2 => cases h1; cases h2; exact E.2.2⟩
theorem own_exob {C f d : String} (hX : (Cond.exactly (.static C f d) C).value args Z none Z [] = some true) (w1 : (Cond.initialized C).before args Z = true) (w2 : (Cond.laysStatic C f d).before args Z = true) : ∃ a, own_Sx Z C f d a (own_Ob Z Z.heap a C own_layN []) := by
  obtain ⟨a, ea⟩ := exa_v hX
  exact ⟨a, Sta.start ea (Or.inr ⟨w1, w2⟩), Exa.start ea hX, rfl, fun j x v h1 h2 => by cases h1⟩
theorem own_sets {L : List Jvm.Cond} {R : Jvm.Cond} (q : (L.foldr Jvm.Cond.and R).before args s = true) : ∀ c ∈ L, c.before args s = true := by
  induction L with
  | nil => intro c hc; cases hc
  | cons a L ih =>
    intro c hc
    have q' : (Jvm.Cond.and a (L.foldr Jvm.Cond.and R)).before args s = true := q
    rw [Cond.before_and, Bool.and_eq_true] at q'
    rcases List.mem_cons.mp hc with rfl | hc
    · exact q'.1
    · exact ih q'.2 c hc
theorem own_starr {C f d ad K : String} {ty : FieldType} (hA : (Cond.arrayOf (.static C f d) ty).value args Z none Z [] = some true) (hX : (Cond.exactly (.static C f d) ad).value args Z none Z [] = some true) (hL : (Cond.eq (.length (.static C f d)) (.int 0)).value args Z none Z [] = some true) (hi : (Cond.initializedFor C f d).before args Z = true ∨ ((Cond.initialized C).before args Z = true ∧ (Cond.laysStatic C f d).before args Z = true)) (hK : K = "" := by rfl) : ∃ a, own_Sx Z C f d a (own_Ar Z Z.heap a ty ad K []) := by
  obtain ⟨a, ea⟩ := arr_v hA
  obtain ⟨cl, A⟩ := Arr.start ea hA
  refine ⟨a, Sta.start ea hi, cl, A, ?_, by decide, Exa.start ea hX, Or.inl hK⟩
  obtain ⟨x, y, e1, e2, -, -⟩ := cmp_v (Or.inl hL)
  obtain ⟨a', cl', e3, e4, e5⟩ := Term.length_spec e1
  cases ea.symm.trans e3
  have e6 : cl' = cl := by
    have := (State.arrayAt?_spec e4).1
    exact Option.some.inj (this.symm.trans A.1)
  subst e6
  have e7 : y = .int 0 := by simpa [Term.eval] using e2.symm
  subst e7
  subst e5
  have e8 : cl'.slots.size < 2 ^ 31 := by
    by_cases q : cl'.slots.size < 2 ^ 31
    · exact q
    · clear hL hA hX
      revert e1 ea
      generalize Term.static C f d = t
      intro ea e1
      simp [Term.eval, ea, e4, q] at e1
  have e9 : cl'.slots.size.toInt32 = 0 := by simpa [Cond.value, e1, e2] using hL
  have e10 : (cl'.slots.size : Int) = 0 := by rw [← len_toInt e8, e9]; rfl
  have : cl'.slots.size = 0 := by omega
  simpa using this
theorem own_stob {C f d ff : String} {i : Int32} (hX : (Cond.exactly (.static C f d) C).value args Z none Z [] = some true) (hO : (Cond.eq (.field (.static C f d) C ff "I") (.int i)).value args Z none Z [] = some true) (hi : (Cond.initializedFor C f d).before args Z = true ∨ ((Cond.initialized C).before args Z = true ∧ (Cond.laysStatic C f d).before args Z = true)) : ∃ a, own_Sx Z C f d a (own_Ob Z Z.heap a C [(C, ff, "I")] [.int i]) := by
  obtain ⟨a, ea⟩ := exa_v hX
  refine ⟨a, Sta.start ea hi, Exa.start ea hX, rfl, fun j x v h1 h2 => ?_⟩
  match j, h1, h2 with
  | 0, h1, h2 => cases h1; cases h2; exact own_fldv ea hO
theorem own_Ob.ne {a b : Addr} {C C' : String} {lay lay' : List (String × String × String)} {vs vs' : List Value} {x : String × String × String} {v v' : Value} (F : own_Ob Z h a C lay vs) (G : own_Ob Z h b C' lay' vs') (i j : Nat) (h1 : lay[i]? = some x) (h2 : vs[i]? = some v) (h3 : lay'[j]? = some x) (h4 : vs'[j]? = some v') (q : v ≠ v') : a ≠ b := (F.2.2 i x v h1 h2).ne (G.2.2 j x v' h3 h4) q
end OwnHeap
theorem own_pd0 : parseMethodDescriptor "()V" = some ⟨[], none⟩ := by decide +kernel
theorem own_pd1 : parseMethodDescriptor "(Lcom/example/valet3/valet3/core/Refusal;Lcom/example/valet3/valet3/core/Endpoint;Lcom/example/valet3/valet3/core/Route;Ljava/lang/String;Ljava/lang/String;)V" = some ⟨[(.object "com/example/valet3/valet3/core/Refusal"), (.object "com/example/valet3/valet3/core/Endpoint"), (.object "com/example/valet3/valet3/core/Route"), (.object "java/lang/String"), (.object "java/lang/String")], none⟩ := by decide +kernel
theorem own_pd2 : parseMethodDescriptor "(Lcom/example/valet3/valet3/core/Refusal;)Lcom/example/valet3/valet3/core/Routing;" = some ⟨[(.object "com/example/valet3/valet3/core/Refusal")], some (.object "com/example/valet3/valet3/core/Routing")⟩ := by decide +kernel
theorem own_pd3 : parseMethodDescriptor "()Lcom/example/valet3/valet3/core/Refusal;" = some ⟨[], some (.object "com/example/valet3/valet3/core/Refusal")⟩ := by decide +kernel
theorem own_pd4 : parseMethodDescriptor "()Lcom/example/valet3/valet3/core/Endpoint;" = some ⟨[], some (.object "com/example/valet3/valet3/core/Endpoint")⟩ := by decide +kernel
theorem own_pd5 : parseMethodDescriptor "()Lcom/example/valet3/valet3/core/Route;" = some ⟨[], some (.object "com/example/valet3/valet3/core/Route")⟩ := by decide +kernel
theorem own_pd6 : parseMethodDescriptor "()Ljava/lang/String;" = some ⟨[], some (.object "java/lang/String")⟩ := by decide +kernel
theorem own_pd7 : parseMethodDescriptor "()Z" = some ⟨[], some .boolean⟩ := by decide +kernel
theorem own_d1_0 : decode prog_70_method_2_code 0 = .ok (.new 8, 3) := by decide +kernel
theorem own_d1_3 : decode prog_70_method_2_code 3 = .ok (.dup, 1) := by decide +kernel
theorem own_d1_4 : decode prog_70_method_2_code 4 = .ok (.aload_n 0, 1) := by decide +kernel
theorem own_d1_5 : decode prog_70_method_2_code 5 = .ok (.aconst_null, 1) := by decide +kernel
theorem own_d1_6 : decode prog_70_method_2_code 6 = .ok (.aconst_null, 1) := by decide +kernel
theorem own_d1_7 : decode prog_70_method_2_code 7 = .ok (.aconst_null, 1) := by decide +kernel
theorem own_d1_8 : decode prog_70_method_2_code 8 = .ok (.aconst_null, 1) := by decide +kernel
theorem own_d1_9 : decode prog_70_method_2_code 9 = .ok (.invokespecial 28, 3) := by decide +kernel
theorem own_d2_0 : decode prog_70_method_1_code 0 = .ok (.aload_n 0, 1) := by decide +kernel
theorem own_d2_1 : decode prog_70_method_1_code 1 = .ok (.invokespecial 1, 3) := by decide +kernel
theorem own_d3_0 : decode jdk_30_method_1_code 0 = .ok (.aload_n 0, 1) := by decide +kernel
theorem own_d3_1 : decode jdk_30_method_1_code 1 = .ok (.invokespecial 1, 3) := by decide +kernel
theorem own_d3_4 : decode jdk_30_method_1_code 4 = .ok (.return_, 1) := by decide +kernel
theorem own_d2_4 : decode prog_70_method_1_code 4 = .ok (.aload_n 0, 1) := by decide +kernel
theorem own_d2_5 : decode prog_70_method_1_code 5 = .ok (.aload_n 1, 1) := by decide +kernel
theorem own_d2_6 : decode prog_70_method_1_code 6 = .ok (.putfield 7, 3) := by decide +kernel
theorem own_d2_9 : decode prog_70_method_1_code 9 = .ok (.aload_n 0, 1) := by decide +kernel
theorem own_d2_10 : decode prog_70_method_1_code 10 = .ok (.aload_n 2, 1) := by decide +kernel
theorem own_d2_11 : decode prog_70_method_1_code 11 = .ok (.putfield 13, 3) := by decide +kernel
theorem own_d2_14 : decode prog_70_method_1_code 14 = .ok (.aload_n 0, 1) := by decide +kernel
theorem own_d2_15 : decode prog_70_method_1_code 15 = .ok (.aload_n 3, 1) := by decide +kernel
theorem own_d2_16 : decode prog_70_method_1_code 16 = .ok (.putfield 17, 3) := by decide +kernel
theorem own_d2_19 : decode prog_70_method_1_code 19 = .ok (.aload_n 0, 1) := by decide +kernel
theorem own_d2_20 : decode prog_70_method_1_code 20 = .ok (.aload 4, 2) := by decide +kernel
theorem own_d2_22 : decode prog_70_method_1_code 22 = .ok (.putfield 21, 3) := by decide +kernel
theorem own_d2_25 : decode prog_70_method_1_code 25 = .ok (.aload_n 0, 1) := by decide +kernel
theorem own_d2_26 : decode prog_70_method_1_code 26 = .ok (.aload 5, 2) := by decide +kernel
theorem own_d2_28 : decode prog_70_method_1_code 28 = .ok (.putfield 25, 3) := by decide +kernel
theorem own_d2_31 : decode prog_70_method_1_code 31 = .ok (.return_, 1) := by decide +kernel
theorem own_d1_12 : decode prog_70_method_2_code 12 = .ok (.areturn, 1) := by decide +kernel
theorem own_d5_0 : decode prog_70_method_9_code 0 = .ok (.aload_n 0, 1) := by decide +kernel
theorem own_d5_1 : decode prog_70_method_9_code 1 = .ok (.getfield 7, 3) := by decide +kernel
theorem own_d5_4 : decode prog_70_method_9_code 4 = .ok (.areturn, 1) := by decide +kernel
theorem own_d6_0 : decode prog_70_method_10_code 0 = .ok (.aload_n 0, 1) := by decide +kernel
theorem own_d6_1 : decode prog_70_method_10_code 1 = .ok (.getfield 13, 3) := by decide +kernel
theorem own_d6_4 : decode prog_70_method_10_code 4 = .ok (.areturn, 1) := by decide +kernel
theorem own_d7_0 : decode prog_70_method_11_code 0 = .ok (.aload_n 0, 1) := by decide +kernel
theorem own_d7_1 : decode prog_70_method_11_code 1 = .ok (.getfield 17, 3) := by decide +kernel
theorem own_d7_4 : decode prog_70_method_11_code 4 = .ok (.areturn, 1) := by decide +kernel
theorem own_d8_0 : decode prog_70_method_12_code 0 = .ok (.aload_n 0, 1) := by decide +kernel
theorem own_d8_1 : decode prog_70_method_12_code 1 = .ok (.getfield 21, 3) := by decide +kernel
theorem own_d8_4 : decode prog_70_method_12_code 4 = .ok (.areturn, 1) := by decide +kernel
theorem own_d9_0 : decode prog_70_method_13_code 0 = .ok (.aload_n 0, 1) := by decide +kernel
theorem own_d9_1 : decode prog_70_method_13_code 1 = .ok (.getfield 25, 3) := by decide +kernel
theorem own_d9_4 : decode prog_70_method_13_code 4 = .ok (.areturn, 1) := by decide +kernel
theorem own_d10_0 : decode prog_70_method_5_code 0 = .ok (.aload_n 0, 1) := by decide +kernel
theorem own_d10_1 : decode prog_70_method_5_code 1 = .ok (.getfield 7, 3) := by decide +kernel
theorem own_d10_4 : decode prog_70_method_5_code 4 = .ok (.ifnull 7, 3) := by decide +kernel
theorem own_d10_7 : decode prog_70_method_5_code 7 = .ok (.iconst 1, 1) := by decide +kernel
theorem own_d10_8 : decode prog_70_method_5_code 8 = .ok (.goto 4, 3) := by decide +kernel
theorem own_d10_12 : decode prog_70_method_5_code 12 = .ok (.ireturn, 1) := by decide +kernel
theorem own_mod25 (x : Int32) : (x &&& (2147483647 : Int32)) % (25 : Int32) = (0 : Int32) ∨ (x &&& (2147483647 : Int32)) % (25 : Int32) = (1 : Int32) ∨ (x &&& (2147483647 : Int32)) % (25 : Int32) = (2 : Int32) ∨ (x &&& (2147483647 : Int32)) % (25 : Int32) = (3 : Int32) ∨ (x &&& (2147483647 : Int32)) % (25 : Int32) = (4 : Int32) ∨ (x &&& (2147483647 : Int32)) % (25 : Int32) = (5 : Int32) ∨ (x &&& (2147483647 : Int32)) % (25 : Int32) = (6 : Int32) ∨ (x &&& (2147483647 : Int32)) % (25 : Int32) = (7 : Int32) ∨ (x &&& (2147483647 : Int32)) % (25 : Int32) = (8 : Int32) ∨ (x &&& (2147483647 : Int32)) % (25 : Int32) = (9 : Int32) ∨ (x &&& (2147483647 : Int32)) % (25 : Int32) = (10 : Int32) ∨ (x &&& (2147483647 : Int32)) % (25 : Int32) = (11 : Int32) ∨ (x &&& (2147483647 : Int32)) % (25 : Int32) = (12 : Int32) ∨ (x &&& (2147483647 : Int32)) % (25 : Int32) = (13 : Int32) ∨ (x &&& (2147483647 : Int32)) % (25 : Int32) = (14 : Int32) ∨ (x &&& (2147483647 : Int32)) % (25 : Int32) = (15 : Int32) ∨ (x &&& (2147483647 : Int32)) % (25 : Int32) = (16 : Int32) ∨ (x &&& (2147483647 : Int32)) % (25 : Int32) = (17 : Int32) ∨ (x &&& (2147483647 : Int32)) % (25 : Int32) = (18 : Int32) ∨ (x &&& (2147483647 : Int32)) % (25 : Int32) = (19 : Int32) ∨ (x &&& (2147483647 : Int32)) % (25 : Int32) = (20 : Int32) ∨ (x &&& (2147483647 : Int32)) % (25 : Int32) = (21 : Int32) ∨ (x &&& (2147483647 : Int32)) % (25 : Int32) = (22 : Int32) ∨ (x &&& (2147483647 : Int32)) % (25 : Int32) = (23 : Int32) ∨ (x &&& (2147483647 : Int32)) % (25 : Int32) = (24 : Int32) := by
  have h1 : 0 ≤ (x &&& (2147483647 : Int32)).toInt := (c_andS x 2147483647).2.2 (by decide)
  have h2 := (c_irem (x &&& (2147483647 : Int32)) (25 : Int32) 25 (by decide)).1 h1
  have h3 : ((x &&& (2147483647 : Int32)) % (25 : Int32)).toInt = 0 ∨ ((x &&& (2147483647 : Int32)) % (25 : Int32)).toInt = 1 ∨ ((x &&& (2147483647 : Int32)) % (25 : Int32)).toInt = 2 ∨ ((x &&& (2147483647 : Int32)) % (25 : Int32)).toInt = 3 ∨ ((x &&& (2147483647 : Int32)) % (25 : Int32)).toInt = 4 ∨ ((x &&& (2147483647 : Int32)) % (25 : Int32)).toInt = 5 ∨ ((x &&& (2147483647 : Int32)) % (25 : Int32)).toInt = 6 ∨ ((x &&& (2147483647 : Int32)) % (25 : Int32)).toInt = 7 ∨ ((x &&& (2147483647 : Int32)) % (25 : Int32)).toInt = 8 ∨ ((x &&& (2147483647 : Int32)) % (25 : Int32)).toInt = 9 ∨ ((x &&& (2147483647 : Int32)) % (25 : Int32)).toInt = 10 ∨ ((x &&& (2147483647 : Int32)) % (25 : Int32)).toInt = 11 ∨ ((x &&& (2147483647 : Int32)) % (25 : Int32)).toInt = 12 ∨ ((x &&& (2147483647 : Int32)) % (25 : Int32)).toInt = 13 ∨ ((x &&& (2147483647 : Int32)) % (25 : Int32)).toInt = 14 ∨ ((x &&& (2147483647 : Int32)) % (25 : Int32)).toInt = 15 ∨ ((x &&& (2147483647 : Int32)) % (25 : Int32)).toInt = 16 ∨ ((x &&& (2147483647 : Int32)) % (25 : Int32)).toInt = 17 ∨ ((x &&& (2147483647 : Int32)) % (25 : Int32)).toInt = 18 ∨ ((x &&& (2147483647 : Int32)) % (25 : Int32)).toInt = 19 ∨ ((x &&& (2147483647 : Int32)) % (25 : Int32)).toInt = 20 ∨ ((x &&& (2147483647 : Int32)) % (25 : Int32)).toInt = 21 ∨ ((x &&& (2147483647 : Int32)) % (25 : Int32)).toInt = 22 ∨ ((x &&& (2147483647 : Int32)) % (25 : Int32)).toInt = 23 ∨ ((x &&& (2147483647 : Int32)) % (25 : Int32)).toInt = 24 := by omega
  rcases h3 with q | q | q | q | q | q | q | q | q | q | q | q | q | q | q | q | q | q | q | q | q | q | q | q | q
  · exact (Or.inl (Int32.toInt_inj.mp (q.trans (by decide))))
  · exact (Or.inr (Or.inl (Int32.toInt_inj.mp (q.trans (by decide)))))
  · exact (Or.inr (Or.inr (Or.inl (Int32.toInt_inj.mp (q.trans (by decide))))))
  · exact (Or.inr (Or.inr (Or.inr (Or.inl (Int32.toInt_inj.mp (q.trans (by decide)))))))
  · exact (Or.inr (Or.inr (Or.inr (Or.inr (Or.inl (Int32.toInt_inj.mp (q.trans (by decide))))))))
  · exact (Or.inr (Or.inr (Or.inr (Or.inr (Or.inr (Or.inl (Int32.toInt_inj.mp (q.trans (by decide)))))))))
  · exact (Or.inr (Or.inr (Or.inr (Or.inr (Or.inr (Or.inr (Or.inl (Int32.toInt_inj.mp (q.trans (by decide))))))))))
  · exact (Or.inr (Or.inr (Or.inr (Or.inr (Or.inr (Or.inr (Or.inr (Or.inl (Int32.toInt_inj.mp (q.trans (by decide)))))))))))
  · exact (Or.inr (Or.inr (Or.inr (Or.inr (Or.inr (Or.inr (Or.inr (Or.inr (Or.inl (Int32.toInt_inj.mp (q.trans (by decide))))))))))))
  · exact (Or.inr (Or.inr (Or.inr (Or.inr (Or.inr (Or.inr (Or.inr (Or.inr (Or.inr (Or.inl (Int32.toInt_inj.mp (q.trans (by decide)))))))))))))
  · exact (Or.inr (Or.inr (Or.inr (Or.inr (Or.inr (Or.inr (Or.inr (Or.inr (Or.inr (Or.inr (Or.inl (Int32.toInt_inj.mp (q.trans (by decide))))))))))))))
  · exact (Or.inr (Or.inr (Or.inr (Or.inr (Or.inr (Or.inr (Or.inr (Or.inr (Or.inr (Or.inr (Or.inr (Or.inl (Int32.toInt_inj.mp (q.trans (by decide)))))))))))))))
  · exact (Or.inr (Or.inr (Or.inr (Or.inr (Or.inr (Or.inr (Or.inr (Or.inr (Or.inr (Or.inr (Or.inr (Or.inr (Or.inl (Int32.toInt_inj.mp (q.trans (by decide))))))))))))))))
  · exact (Or.inr (Or.inr (Or.inr (Or.inr (Or.inr (Or.inr (Or.inr (Or.inr (Or.inr (Or.inr (Or.inr (Or.inr (Or.inr (Or.inl (Int32.toInt_inj.mp (q.trans (by decide)))))))))))))))))
  · exact (Or.inr (Or.inr (Or.inr (Or.inr (Or.inr (Or.inr (Or.inr (Or.inr (Or.inr (Or.inr (Or.inr (Or.inr (Or.inr (Or.inr (Or.inl (Int32.toInt_inj.mp (q.trans (by decide))))))))))))))))))
  · exact (Or.inr (Or.inr (Or.inr (Or.inr (Or.inr (Or.inr (Or.inr (Or.inr (Or.inr (Or.inr (Or.inr (Or.inr (Or.inr (Or.inr (Or.inr (Or.inl (Int32.toInt_inj.mp (q.trans (by decide)))))))))))))))))))
  · exact (Or.inr (Or.inr (Or.inr (Or.inr (Or.inr (Or.inr (Or.inr (Or.inr (Or.inr (Or.inr (Or.inr (Or.inr (Or.inr (Or.inr (Or.inr (Or.inr (Or.inl (Int32.toInt_inj.mp (q.trans (by decide))))))))))))))))))))
  · exact (Or.inr (Or.inr (Or.inr (Or.inr (Or.inr (Or.inr (Or.inr (Or.inr (Or.inr (Or.inr (Or.inr (Or.inr (Or.inr (Or.inr (Or.inr (Or.inr (Or.inr (Or.inl (Int32.toInt_inj.mp (q.trans (by decide)))))))))))))))))))))
  · exact (Or.inr (Or.inr (Or.inr (Or.inr (Or.inr (Or.inr (Or.inr (Or.inr (Or.inr (Or.inr (Or.inr (Or.inr (Or.inr (Or.inr (Or.inr (Or.inr (Or.inr (Or.inr (Or.inl (Int32.toInt_inj.mp (q.trans (by decide))))))))))))))))))))))
  · exact (Or.inr (Or.inr (Or.inr (Or.inr (Or.inr (Or.inr (Or.inr (Or.inr (Or.inr (Or.inr (Or.inr (Or.inr (Or.inr (Or.inr (Or.inr (Or.inr (Or.inr (Or.inr (Or.inr (Or.inl (Int32.toInt_inj.mp (q.trans (by decide)))))))))))))))))))))))
  · exact (Or.inr (Or.inr (Or.inr (Or.inr (Or.inr (Or.inr (Or.inr (Or.inr (Or.inr (Or.inr (Or.inr (Or.inr (Or.inr (Or.inr (Or.inr (Or.inr (Or.inr (Or.inr (Or.inr (Or.inr (Or.inl (Int32.toInt_inj.mp (q.trans (by decide))))))))))))))))))))))))
  · exact (Or.inr (Or.inr (Or.inr (Or.inr (Or.inr (Or.inr (Or.inr (Or.inr (Or.inr (Or.inr (Or.inr (Or.inr (Or.inr (Or.inr (Or.inr (Or.inr (Or.inr (Or.inr (Or.inr (Or.inr (Or.inr (Or.inl (Int32.toInt_inj.mp (q.trans (by decide)))))))))))))))))))))))))
  · exact (Or.inr (Or.inr (Or.inr (Or.inr (Or.inr (Or.inr (Or.inr (Or.inr (Or.inr (Or.inr (Or.inr (Or.inr (Or.inr (Or.inr (Or.inr (Or.inr (Or.inr (Or.inr (Or.inr (Or.inr (Or.inr (Or.inr (Or.inl (Int32.toInt_inj.mp (q.trans (by decide))))))))))))))))))))))))))
  · exact (Or.inr (Or.inr (Or.inr (Or.inr (Or.inr (Or.inr (Or.inr (Or.inr (Or.inr (Or.inr (Or.inr (Or.inr (Or.inr (Or.inr (Or.inr (Or.inr (Or.inr (Or.inr (Or.inr (Or.inr (Or.inr (Or.inr (Or.inr (Or.inl (Int32.toInt_inj.mp (q.trans (by decide)))))))))))))))))))))))))))
  · exact (Or.inr (Or.inr (Or.inr (Or.inr (Or.inr (Or.inr (Or.inr (Or.inr (Or.inr (Or.inr (Or.inr (Or.inr (Or.inr (Or.inr (Or.inr (Or.inr (Or.inr (Or.inr (Or.inr (Or.inr (Or.inr (Or.inr (Or.inr (Or.inr (Int32.toInt_inj.mp (q.trans (by decide)))))))))))))))))))))))))))
def own_lay0 : List (String × String × String) := [("com/example/valet3/valet3/core/Routing", "refusal", "Lcom/example/valet3/valet3/core/Refusal;"), ("com/example/valet3/valet3/core/Routing", "endpoint", "Lcom/example/valet3/valet3/core/Endpoint;"), ("com/example/valet3/valet3/core/Routing", "route", "Lcom/example/valet3/valet3/core/Route;"), ("com/example/valet3/valet3/core/Routing", "backend", "Ljava/lang/String;"), ("com/example/valet3/valet3/core/Routing", "rest", "Ljava/lang/String;")]
theorem own_lay0_ok {Z : State} {a0 : Array Value} (hw : ∀ d ∈ tables_1, d.before a0 Z = true) : own_LayOk Z a0 "com/example/valet3/valet3/core/Routing" own_lay0 := ⟨by decide +kernel, (own_allS ⟨Or.inr (own_w hw 73 rfl), ⟨(.object "com/example/valet3/valet3/core/Refusal"), by decide +kernel⟩⟩ (own_allS ⟨Or.inr (own_w hw 75 rfl), ⟨(.object "com/example/valet3/valet3/core/Endpoint"), by decide +kernel⟩⟩ (own_allS ⟨Or.inr (own_w hw 77 rfl), ⟨(.object "com/example/valet3/valet3/core/Route"), by decide +kernel⟩⟩ (own_allS ⟨Or.inr (own_w hw 79 rfl), ⟨(.object "java/lang/String"), by decide +kernel⟩⟩ (own_allS ⟨Or.inr (own_w hw 81 rfl), ⟨(.object "java/lang/String"), by decide +kernel⟩⟩ own_nil)))))⟩
theorem own_lay0_df : own_lay0.map own_dflt = [.null, .null, .null, .null, .null] := by first | rfl | decide +kernel
def own_St (Z : State) (a_MISSING_API_KEY a_MISSING_TOKEN a_INVALID_API_KEY a_MALFORMED_AUTHORIZATION a_INVALID_TOKEN a_INSUFFICIENT_SCOPE a_INSUFFICIENT_KEY_SCOPE a_RATE_LIMITED a_LOCKED a_DOT_SEGMENT a_AMBIGUOUS_PATH a_UNFORWARDABLE a_NO_ROUTE a_BODY_TOO_LARGE a_CONNECTION_REFUSED a_NO_ROUTE_TO_HOST a_READ_TIMED_OUT a_CONNECTION_RESET a_MALFORMED_REQUEST a_REQUEST_TIMEOUT a_TARGET_TOO_LONG a_UNMET_EXPECTATION a_HEADERS_TOO_LARGE a_INTERNAL_ERROR a_UNSUPPORTED_VERSION : Nat) : Prop := own_Sx Z "com/example/valet3/valet3/core/Refusal" "MISSING_API_KEY" "Lcom/example/valet3/valet3/core/Refusal;" a_MISSING_API_KEY (own_Ob Z Z.heap a_MISSING_API_KEY "com/example/valet3/valet3/core/Refusal" own_layN []) ∧ own_Sx Z "com/example/valet3/valet3/core/Refusal" "MISSING_TOKEN" "Lcom/example/valet3/valet3/core/Refusal;" a_MISSING_TOKEN (own_Ob Z Z.heap a_MISSING_TOKEN "com/example/valet3/valet3/core/Refusal" own_layN []) ∧ own_Sx Z "com/example/valet3/valet3/core/Refusal" "INVALID_API_KEY" "Lcom/example/valet3/valet3/core/Refusal;" a_INVALID_API_KEY (own_Ob Z Z.heap a_INVALID_API_KEY "com/example/valet3/valet3/core/Refusal" own_layN []) ∧ own_Sx Z "com/example/valet3/valet3/core/Refusal" "MALFORMED_AUTHORIZATION" "Lcom/example/valet3/valet3/core/Refusal;" a_MALFORMED_AUTHORIZATION (own_Ob Z Z.heap a_MALFORMED_AUTHORIZATION "com/example/valet3/valet3/core/Refusal" own_layN []) ∧ own_Sx Z "com/example/valet3/valet3/core/Refusal" "INVALID_TOKEN" "Lcom/example/valet3/valet3/core/Refusal;" a_INVALID_TOKEN (own_Ob Z Z.heap a_INVALID_TOKEN "com/example/valet3/valet3/core/Refusal" own_layN []) ∧ own_Sx Z "com/example/valet3/valet3/core/Refusal" "INSUFFICIENT_SCOPE" "Lcom/example/valet3/valet3/core/Refusal;" a_INSUFFICIENT_SCOPE (own_Ob Z Z.heap a_INSUFFICIENT_SCOPE "com/example/valet3/valet3/core/Refusal" own_layN []) ∧ own_Sx Z "com/example/valet3/valet3/core/Refusal" "INSUFFICIENT_KEY_SCOPE" "Lcom/example/valet3/valet3/core/Refusal;" a_INSUFFICIENT_KEY_SCOPE (own_Ob Z Z.heap a_INSUFFICIENT_KEY_SCOPE "com/example/valet3/valet3/core/Refusal" own_layN []) ∧ own_Sx Z "com/example/valet3/valet3/core/Refusal" "RATE_LIMITED" "Lcom/example/valet3/valet3/core/Refusal;" a_RATE_LIMITED (own_Ob Z Z.heap a_RATE_LIMITED "com/example/valet3/valet3/core/Refusal" own_layN []) ∧ own_Sx Z "com/example/valet3/valet3/core/Refusal" "LOCKED" "Lcom/example/valet3/valet3/core/Refusal;" a_LOCKED (own_Ob Z Z.heap a_LOCKED "com/example/valet3/valet3/core/Refusal" own_layN []) ∧ own_Sx Z "com/example/valet3/valet3/core/Refusal" "DOT_SEGMENT" "Lcom/example/valet3/valet3/core/Refusal;" a_DOT_SEGMENT (own_Ob Z Z.heap a_DOT_SEGMENT "com/example/valet3/valet3/core/Refusal" own_layN []) ∧ own_Sx Z "com/example/valet3/valet3/core/Refusal" "AMBIGUOUS_PATH" "Lcom/example/valet3/valet3/core/Refusal;" a_AMBIGUOUS_PATH (own_Ob Z Z.heap a_AMBIGUOUS_PATH "com/example/valet3/valet3/core/Refusal" own_layN []) ∧ own_Sx Z "com/example/valet3/valet3/core/Refusal" "UNFORWARDABLE" "Lcom/example/valet3/valet3/core/Refusal;" a_UNFORWARDABLE (own_Ob Z Z.heap a_UNFORWARDABLE "com/example/valet3/valet3/core/Refusal" own_layN []) ∧ own_Sx Z "com/example/valet3/valet3/core/Refusal" "NO_ROUTE" "Lcom/example/valet3/valet3/core/Refusal;" a_NO_ROUTE (own_Ob Z Z.heap a_NO_ROUTE "com/example/valet3/valet3/core/Refusal" own_layN []) ∧ own_Sx Z "com/example/valet3/valet3/core/Refusal" "BODY_TOO_LARGE" "Lcom/example/valet3/valet3/core/Refusal;" a_BODY_TOO_LARGE (own_Ob Z Z.heap a_BODY_TOO_LARGE "com/example/valet3/valet3/core/Refusal" own_layN []) ∧ own_Sx Z "com/example/valet3/valet3/core/Refusal" "CONNECTION_REFUSED" "Lcom/example/valet3/valet3/core/Refusal;" a_CONNECTION_REFUSED (own_Ob Z Z.heap a_CONNECTION_REFUSED "com/example/valet3/valet3/core/Refusal" own_layN []) ∧ own_Sx Z "com/example/valet3/valet3/core/Refusal" "NO_ROUTE_TO_HOST" "Lcom/example/valet3/valet3/core/Refusal;" a_NO_ROUTE_TO_HOST (own_Ob Z Z.heap a_NO_ROUTE_TO_HOST "com/example/valet3/valet3/core/Refusal" own_layN []) ∧ own_Sx Z "com/example/valet3/valet3/core/Refusal" "READ_TIMED_OUT" "Lcom/example/valet3/valet3/core/Refusal;" a_READ_TIMED_OUT (own_Ob Z Z.heap a_READ_TIMED_OUT "com/example/valet3/valet3/core/Refusal" own_layN []) ∧ own_Sx Z "com/example/valet3/valet3/core/Refusal" "CONNECTION_RESET" "Lcom/example/valet3/valet3/core/Refusal;" a_CONNECTION_RESET (own_Ob Z Z.heap a_CONNECTION_RESET "com/example/valet3/valet3/core/Refusal" own_layN []) ∧ own_Sx Z "com/example/valet3/valet3/core/Refusal" "MALFORMED_REQUEST" "Lcom/example/valet3/valet3/core/Refusal;" a_MALFORMED_REQUEST (own_Ob Z Z.heap a_MALFORMED_REQUEST "com/example/valet3/valet3/core/Refusal" own_layN []) ∧ own_Sx Z "com/example/valet3/valet3/core/Refusal" "REQUEST_TIMEOUT" "Lcom/example/valet3/valet3/core/Refusal;" a_REQUEST_TIMEOUT (own_Ob Z Z.heap a_REQUEST_TIMEOUT "com/example/valet3/valet3/core/Refusal" own_layN []) ∧ own_Sx Z "com/example/valet3/valet3/core/Refusal" "TARGET_TOO_LONG" "Lcom/example/valet3/valet3/core/Refusal;" a_TARGET_TOO_LONG (own_Ob Z Z.heap a_TARGET_TOO_LONG "com/example/valet3/valet3/core/Refusal" own_layN []) ∧ own_Sx Z "com/example/valet3/valet3/core/Refusal" "UNMET_EXPECTATION" "Lcom/example/valet3/valet3/core/Refusal;" a_UNMET_EXPECTATION (own_Ob Z Z.heap a_UNMET_EXPECTATION "com/example/valet3/valet3/core/Refusal" own_layN []) ∧ own_Sx Z "com/example/valet3/valet3/core/Refusal" "HEADERS_TOO_LARGE" "Lcom/example/valet3/valet3/core/Refusal;" a_HEADERS_TOO_LARGE (own_Ob Z Z.heap a_HEADERS_TOO_LARGE "com/example/valet3/valet3/core/Refusal" own_layN []) ∧ own_Sx Z "com/example/valet3/valet3/core/Refusal" "INTERNAL_ERROR" "Lcom/example/valet3/valet3/core/Refusal;" a_INTERNAL_ERROR (own_Ob Z Z.heap a_INTERNAL_ERROR "com/example/valet3/valet3/core/Refusal" own_layN []) ∧ own_Sx Z "com/example/valet3/valet3/core/Refusal" "UNSUPPORTED_VERSION" "Lcom/example/valet3/valet3/core/Refusal;" a_UNSUPPORTED_VERSION (own_Ob Z Z.heap a_UNSUPPORTED_VERSION "com/example/valet3/valet3/core/Refusal" own_layN [])
set_option maxHeartbeats 2000000 in
theorem own_c3_0 (l : Launch) {Z : State} {a0 : Array Value} (hw : ∀ d ∈ tables_1, d.before a0 Z = true) {n0 : Nat} {h : Heap} {a_MISSING_API_KEY a_MISSING_TOKEN a_INVALID_API_KEY a_MALFORMED_AUTHORIZATION a_INVALID_TOKEN a_INSUFFICIENT_SCOPE a_INSUFFICIENT_KEY_SCOPE a_RATE_LIMITED a_LOCKED a_DOT_SEGMENT a_AMBIGUOUS_PATH a_UNFORWARDABLE a_NO_ROUTE a_BODY_TOO_LARGE a_CONNECTION_REFUSED a_NO_ROUTE_TO_HOST a_READ_TIMED_OUT a_CONNECTION_RESET a_MALFORMED_REQUEST a_REQUEST_TIMEOUT a_TARGET_TOO_LONG a_UNMET_EXPECTATION a_HEADERS_TOO_LARGE a_INTERNAL_ERROR a_UNSUPPORTED_VERSION : Nat} (S : own_St Z a_MISSING_API_KEY a_MISSING_TOKEN a_INVALID_API_KEY a_MALFORMED_AUTHORIZATION a_INVALID_TOKEN a_INSUFFICIENT_SCOPE a_INSUFFICIENT_KEY_SCOPE a_RATE_LIMITED a_LOCKED a_DOT_SEGMENT a_AMBIGUOUS_PATH a_UNFORWARDABLE a_NO_ROUTE a_BODY_TOO_LARGE a_CONNECTION_REFUSED a_NO_ROUTE_TO_HOST a_READ_TIMED_OUT a_CONNECTION_RESET a_MALFORMED_REQUEST a_REQUEST_TIMEOUT a_TARGET_TOO_LONG a_UNMET_EXPECTATION a_HEADERS_TOO_LARGE a_INTERNAL_ERROR a_UNSUPPORTED_VERSION) (z0 : n0 ≤ h.size) (old : Old Z n0 h) (p0 : Nat) :
    own_Met l Z (⟨"java/lang/Record", "<init>", "()V"⟩ : MethodName) jdk_30_method_1_code 1 none [] ({ frames := 1, cells := 0, slots := 0, locals := 12 } : Room) n0 #[(.ref p0)] h (own_nov fun h' => Keep h h' []) := by
  refine own_met (Ls := #[.val (.ref p0)]) (by first | exact plainFor_of_name (by first | (simp [plainName, overriddenIn]; done) | decide +kernel) | decide +kernel) (fun m => rfl) ?_
  intro p e s m below meth c C
  refine own_aloadN C own_d3_0 rfl rfl (pc' := 1) rfl ?_
  refine own_init0 C (own_w hw 69 rfl) (own_w hw 70 rfl) (own_w hw 71 rfl) own_d3_1 rfl (W := 0) (Nat.le_of_eq rfl) (by decide) (by decide) (pc' := 4) rfl ?_
  exact own_return C own_d3_4 (by decide) (by decide) ⟨rfl, (Keep.refl h [])⟩
set_option maxHeartbeats 2000000 in
theorem own_c2_1 (l : Launch) {Z : State} {a0 : Array Value} (hw : ∀ d ∈ tables_1, d.before a0 Z = true) {n0 : Nat} {h : Heap} {a_MISSING_API_KEY a_MISSING_TOKEN a_INVALID_API_KEY a_MALFORMED_AUTHORIZATION a_INVALID_TOKEN a_INSUFFICIENT_SCOPE a_INSUFFICIENT_KEY_SCOPE a_RATE_LIMITED a_LOCKED a_DOT_SEGMENT a_AMBIGUOUS_PATH a_UNFORWARDABLE a_NO_ROUTE a_BODY_TOO_LARGE a_CONNECTION_REFUSED a_NO_ROUTE_TO_HOST a_READ_TIMED_OUT a_CONNECTION_RESET a_MALFORMED_REQUEST a_REQUEST_TIMEOUT a_TARGET_TOO_LONG a_UNMET_EXPECTATION a_HEADERS_TOO_LARGE a_INTERNAL_ERROR a_UNSUPPORTED_VERSION : Nat} (S : own_St Z a_MISSING_API_KEY a_MISSING_TOKEN a_INVALID_API_KEY a_MALFORMED_AUTHORIZATION a_INVALID_TOKEN a_INSUFFICIENT_SCOPE a_INSUFFICIENT_KEY_SCOPE a_RATE_LIMITED a_LOCKED a_DOT_SEGMENT a_AMBIGUOUS_PATH a_UNFORWARDABLE a_NO_ROUTE a_BODY_TOO_LARGE a_CONNECTION_REFUSED a_NO_ROUTE_TO_HOST a_READ_TIMED_OUT a_CONNECTION_RESET a_MALFORMED_REQUEST a_REQUEST_TIMEOUT a_TARGET_TOO_LONG a_UNMET_EXPECTATION a_HEADERS_TOO_LARGE a_INTERNAL_ERROR a_UNSUPPORTED_VERSION) (z0 : n0 ≤ h.size) (old : Old Z n0 h) (p0 : Nat) (p1 : Nat) (o_p0 : own_Ob Z h p0 "com/example/valet3/valet3/core/Routing" own_lay0 [.null, .null, .null, .null, .null]) (g_p0 : n0 ≤ p0) :
    own_Met l Z (⟨"com/example/valet3/valet3/core/Routing", "<init>", "(Lcom/example/valet3/valet3/core/Refusal;Lcom/example/valet3/valet3/core/Endpoint;Lcom/example/valet3/valet3/core/Route;Ljava/lang/String;Ljava/lang/String;)V"⟩ : MethodName) prog_70_method_1_code 6 none [] ({ frames := 2, cells := 0, slots := 0, locals := 24 } : Room) n0 #[(.ref p0), (.ref p1), .null, .null, .null, .null] h (own_nov fun h' => Keep h h' [p0] ∧ own_Ob Z h' p0 "com/example/valet3/valet3/core/Routing" own_lay0 [(.ref p1), .null, .null, .null, .null]) := by
  refine own_met (Ls := #[.val (.ref p0), .val (.ref p1), .val .null, .val .null, .val .null, .val .null]) (by first | exact plainFor_of_name (by first | (simp [plainName, overriddenIn]; done) | decide +kernel) | decide +kernel) (fun m => rfl) ?_
  intro p e s m below meth c C
  refine own_aloadN C own_d2_0 rfl rfl (pc' := 1) rfl ?_
  refine own_callI C rfl (own_c3_0 l hw S (by omega) old p0) (own_w hw 64 rfl) (own_w hw 65 rfl) (own_w hw 67 rfl) (own_w hw 68 rfl) (by decide) own_d2_1 rfl (argsL := []) (rest := []) rfl (lenOf own_pd0 rfl) (W := 0) (Nat.le_of_eq rfl) (by decide) (by decide) (by decide) (by decide) (pc' := 4) rfl ?_
  rintro h1 K1
  have s1 : h.size ≤ h1.size := K1.1
  have k1 : Keep h h1 [p0] := (Keep.refl h [p0]).trans K1 all0
  refine own_aloadN C own_d2_4 rfl rfl (pc' := 5) rfl ?_
  refine own_aloadN C own_d2_5 rfl rfl (pc' := 6) rfl ?_
  have o_p0_1 := (o_p0.keep K1 nin0)
  refine own_putO C (own_w hw 72 rfl) Via.refl o_p0_1 (own_lay0_ok hw) 0 rfl (vs' := [(.ref p1), .null, .null, .null, .null]) rfl (Or.inr ⟨(own_w hw 73 rfl), rfl, rfl⟩) (own_w hw 60 rfl) (ty := (.object "com/example/valet3/valet3/core/Refusal")) (by decide) (by first | rfl | decide) (by first | rfl | decide) g_p0 own_d2_6 (pc' := 9) rfl ?_
  intro h2 W2 o_p0_2
  have s2 : h2.size = h1.size := W2.size
  have k2 : Keep h h2 [p0] := k1.wr W2 (Or.inl (by simp))
  refine own_aloadN C own_d2_9 rfl rfl (pc' := 10) rfl ?_
  refine own_aloadN C own_d2_10 rfl rfl (pc' := 11) rfl ?_
  refine own_putO C (own_w hw 74 rfl) Via.refl o_p0_2 (own_lay0_ok hw) 1 rfl (vs' := [(.ref p1), .null, .null, .null, .null]) rfl (Or.inr ⟨(own_w hw 75 rfl), rfl, rfl⟩) (own_w hw 60 rfl) (ty := (.object "com/example/valet3/valet3/core/Endpoint")) (by decide) (by first | rfl | decide) (by first | rfl | decide) g_p0 own_d2_11 (pc' := 14) rfl ?_
  intro h3 W3 o_p0_3
  have s3 : h3.size = h2.size := W3.size
  have k3 : Keep h h3 [p0] := k2.wr W3 (Or.inl (by simp))
  refine own_aloadN C own_d2_14 rfl rfl (pc' := 15) rfl ?_
  refine own_aloadN C own_d2_15 rfl rfl (pc' := 16) rfl ?_
  refine own_putO C (own_w hw 76 rfl) Via.refl o_p0_3 (own_lay0_ok hw) 2 rfl (vs' := [(.ref p1), .null, .null, .null, .null]) rfl (Or.inr ⟨(own_w hw 77 rfl), rfl, rfl⟩) (own_w hw 60 rfl) (ty := (.object "com/example/valet3/valet3/core/Route")) (by decide) (by first | rfl | decide) (by first | rfl | decide) g_p0 own_d2_16 (pc' := 19) rfl ?_
  intro h4 W4 o_p0_4
  have s4 : h4.size = h3.size := W4.size
  have k4 : Keep h h4 [p0] := k3.wr W4 (Or.inl (by simp))
  refine own_aloadN C own_d2_19 rfl rfl (pc' := 20) rfl ?_
  refine own_aload C own_d2_20 rfl rfl (pc' := 22) rfl ?_
  refine own_putO C (own_w hw 78 rfl) Via.refl o_p0_4 (own_lay0_ok hw) 3 rfl (vs' := [(.ref p1), .null, .null, .null, .null]) rfl (Or.inr ⟨(own_w hw 79 rfl), rfl, rfl⟩) (own_w hw 60 rfl) (ty := (.object "java/lang/String")) (by decide) (by first | rfl | decide) (by first | rfl | decide) g_p0 own_d2_22 (pc' := 25) rfl ?_
  intro h5 W5 o_p0_5
  have s5 : h5.size = h4.size := W5.size
  have k5 : Keep h h5 [p0] := k4.wr W5 (Or.inl (by simp))
  refine own_aloadN C own_d2_25 rfl rfl (pc' := 26) rfl ?_
  refine own_aload C own_d2_26 rfl rfl (pc' := 28) rfl ?_
  refine own_putO C (own_w hw 80 rfl) Via.refl o_p0_5 (own_lay0_ok hw) 4 rfl (vs' := [(.ref p1), .null, .null, .null, .null]) rfl (Or.inr ⟨(own_w hw 81 rfl), rfl, rfl⟩) (own_w hw 60 rfl) (ty := (.object "java/lang/String")) (by decide) (by first | rfl | decide) (by first | rfl | decide) g_p0 own_d2_28 (pc' := 31) rfl ?_
  intro h6 W6 o_p0_6
  have s6 : h6.size = h5.size := W6.size
  have k6 : Keep h h6 [p0] := k5.wr W6 (Or.inl (by simp))
  exact own_return C own_d2_31 (by decide) (by decide) ⟨rfl, k6, o_p0_6⟩
set_option maxHeartbeats 2000000 in
theorem own_c1_2 (l : Launch) {Z : State} {a0 : Array Value} (hw : ∀ d ∈ tables_1, d.before a0 Z = true) {n0 : Nat} {h : Heap} {a_MISSING_API_KEY a_MISSING_TOKEN a_INVALID_API_KEY a_MALFORMED_AUTHORIZATION a_INVALID_TOKEN a_INSUFFICIENT_SCOPE a_INSUFFICIENT_KEY_SCOPE a_RATE_LIMITED a_LOCKED a_DOT_SEGMENT a_AMBIGUOUS_PATH a_UNFORWARDABLE a_NO_ROUTE a_BODY_TOO_LARGE a_CONNECTION_REFUSED a_NO_ROUTE_TO_HOST a_READ_TIMED_OUT a_CONNECTION_RESET a_MALFORMED_REQUEST a_REQUEST_TIMEOUT a_TARGET_TOO_LONG a_UNMET_EXPECTATION a_HEADERS_TOO_LARGE a_INTERNAL_ERROR a_UNSUPPORTED_VERSION : Nat} (S : own_St Z a_MISSING_API_KEY a_MISSING_TOKEN a_INVALID_API_KEY a_MALFORMED_AUTHORIZATION a_INVALID_TOKEN a_INSUFFICIENT_SCOPE a_INSUFFICIENT_KEY_SCOPE a_RATE_LIMITED a_LOCKED a_DOT_SEGMENT a_AMBIGUOUS_PATH a_UNFORWARDABLE a_NO_ROUTE a_BODY_TOO_LARGE a_CONNECTION_REFUSED a_NO_ROUTE_TO_HOST a_READ_TIMED_OUT a_CONNECTION_RESET a_MALFORMED_REQUEST a_REQUEST_TIMEOUT a_TARGET_TOO_LONG a_UNMET_EXPECTATION a_HEADERS_TOO_LARGE a_INTERNAL_ERROR a_UNSUPPORTED_VERSION) (z0 : n0 ≤ h.size) (old : Old Z n0 h) (p0 : Nat) :
    own_Met l Z (⟨"com/example/valet3/valet3/core/Routing", "refuse", "(Lcom/example/valet3/valet3/core/Refusal;)Lcom/example/valet3/valet3/core/Routing;"⟩ : MethodName) prog_70_method_2_code 1 (some (.object "com/example/valet3/valet3/core/Routing")) [] ({ frames := 3, cells := 1, slots := 5, locals := 42 } : Room) n0 #[(.ref p0)] h (own_val fun w h' => ∃ b1 : Nat, w = (.ref b1) ∧ Keep h h' [] ∧ h.size ≤ b1 ∧ b1 < h'.size ∧ own_Ob Z h' b1 "com/example/valet3/valet3/core/Routing" own_lay0 [(.ref p0), .null, .null, .null, .null]) := by
  refine own_met (Ls := #[.val (.ref p0)]) (by first | exact plainFor_of_name (by first | (simp [plainName, overriddenIn]; done) | decide +kernel) | decide +kernel) (fun m => rfl) ?_
  intro p e s m below meth c C
  refine own_newO C (own_w hw 59 rfl) (own_w hw 60 rfl) (own_w hw 57 rfl) (own_lay0_ok hw) own_lay0_df own_d1_0 (by decide) (by decide) (pc' := 3) rfl ?_
  intro h1 b1 g1 E1 o_b1
  have s1 : h.size ≤ h1.size := E1.1
  have k1 : Keep h h1 [] := (Keep.refl h []).ext E1
  have t1 := o_b1.lt
  refine own_dup C own_d1_3 rfl (pc' := 4) rfl ?_
  refine own_aloadN C own_d1_4 rfl rfl (pc' := 5) rfl ?_
  refine own_aconst_null C own_d1_5 (pc' := 6) rfl ?_
  refine own_aconst_null C own_d1_6 (pc' := 7) rfl ?_
  refine own_aconst_null C own_d1_7 (pc' := 8) rfl ?_
  refine own_aconst_null C own_d1_8 (pc' := 9) rfl ?_
  have old1 := (old.ext E1)
  refine own_callI C rfl (own_c2_1 l hw S (by omega) old1 b1 p0 o_b1 (by omega)) (own_w hw 61 rfl) (own_w hw 62 rfl) (own_w hw 57 rfl) (own_w hw 63 rfl) (by decide) own_d1_9 rfl (argsL := [(.ref p0), .null, .null, .null, .null]) (rest := [(.ref b1)]) rfl (lenOf own_pd1 rfl) (W := 1) (Nat.le_of_eq rfl) (by decide) (by decide) (by decide) (by decide) (pc' := 12) rfl ?_
  rintro h2 ⟨K2, o_b1_2⟩
  have s2 : h1.size ≤ h2.size := K2.1
  have k2 : Keep h h2 [] := k1.trans K2 (allS (Or.inr (by omega)) all0)
  exact own_areturn C rfl rfl own_d1_12 (by decide) (by decide) ⟨_, rfl, b1, rfl, k2, by omega, by omega, o_b1_2⟩
set_option maxHeartbeats 2000000 in
theorem own_c5_3 (l : Launch) {Z : State} {a0 : Array Value} (hw : ∀ d ∈ tables_1, d.before a0 Z = true) {n0 : Nat} {h : Heap} {a_MISSING_API_KEY a_MISSING_TOKEN a_INVALID_API_KEY a_MALFORMED_AUTHORIZATION a_INVALID_TOKEN a_INSUFFICIENT_SCOPE a_INSUFFICIENT_KEY_SCOPE a_RATE_LIMITED a_LOCKED a_DOT_SEGMENT a_AMBIGUOUS_PATH a_UNFORWARDABLE a_NO_ROUTE a_BODY_TOO_LARGE a_CONNECTION_REFUSED a_NO_ROUTE_TO_HOST a_READ_TIMED_OUT a_CONNECTION_RESET a_MALFORMED_REQUEST a_REQUEST_TIMEOUT a_TARGET_TOO_LONG a_UNMET_EXPECTATION a_HEADERS_TOO_LARGE a_INTERNAL_ERROR a_UNSUPPORTED_VERSION : Nat} (S : own_St Z a_MISSING_API_KEY a_MISSING_TOKEN a_INVALID_API_KEY a_MALFORMED_AUTHORIZATION a_INVALID_TOKEN a_INSUFFICIENT_SCOPE a_INSUFFICIENT_KEY_SCOPE a_RATE_LIMITED a_LOCKED a_DOT_SEGMENT a_AMBIGUOUS_PATH a_UNFORWARDABLE a_NO_ROUTE a_BODY_TOO_LARGE a_CONNECTION_REFUSED a_NO_ROUTE_TO_HOST a_READ_TIMED_OUT a_CONNECTION_RESET a_MALFORMED_REQUEST a_REQUEST_TIMEOUT a_TARGET_TOO_LONG a_UNMET_EXPECTATION a_HEADERS_TOO_LARGE a_INTERNAL_ERROR a_UNSUPPORTED_VERSION) (z0 : n0 ≤ h.size) (old : Old Z n0 h) (p0 : Nat) (p1 : Nat) (o_p0 : own_Ob Z h p0 "com/example/valet3/valet3/core/Routing" own_lay0 [(.ref p1), .null, .null, .null, .null]) :
    own_Met l Z (⟨"com/example/valet3/valet3/core/Routing", "refusal", "()Lcom/example/valet3/valet3/core/Refusal;"⟩ : MethodName) prog_70_method_9_code 1 (some (.object "com/example/valet3/valet3/core/Refusal")) [] ({ frames := 0, cells := 0, slots := 0, locals := 0 } : Room) n0 #[(.ref p0)] h (own_pure (.ref p1) h) := by
  refine own_met (Ls := #[.val (.ref p0)]) (by first | exact plainFor_of_name (by first | (simp [plainName, overriddenIn]; done) | decide +kernel) | decide +kernel) (fun m => rfl) ?_
  intro p e s m below meth c C
  refine own_aloadN C own_d5_0 rfl rfl (pc' := 1) rfl ?_
  refine own_getO C (own_w hw 72 rfl) Via.refl o_p0 0 rfl rfl own_d5_1 (pc' := 4) rfl ?_
  exact own_areturn C rfl rfl own_d5_4 (by decide) (by decide) ⟨rfl, rfl⟩
set_option maxHeartbeats 2000000 in
theorem own_c6_4 (l : Launch) {Z : State} {a0 : Array Value} (hw : ∀ d ∈ tables_1, d.before a0 Z = true) {n0 : Nat} {h : Heap} {a_MISSING_API_KEY a_MISSING_TOKEN a_INVALID_API_KEY a_MALFORMED_AUTHORIZATION a_INVALID_TOKEN a_INSUFFICIENT_SCOPE a_INSUFFICIENT_KEY_SCOPE a_RATE_LIMITED a_LOCKED a_DOT_SEGMENT a_AMBIGUOUS_PATH a_UNFORWARDABLE a_NO_ROUTE a_BODY_TOO_LARGE a_CONNECTION_REFUSED a_NO_ROUTE_TO_HOST a_READ_TIMED_OUT a_CONNECTION_RESET a_MALFORMED_REQUEST a_REQUEST_TIMEOUT a_TARGET_TOO_LONG a_UNMET_EXPECTATION a_HEADERS_TOO_LARGE a_INTERNAL_ERROR a_UNSUPPORTED_VERSION : Nat} (S : own_St Z a_MISSING_API_KEY a_MISSING_TOKEN a_INVALID_API_KEY a_MALFORMED_AUTHORIZATION a_INVALID_TOKEN a_INSUFFICIENT_SCOPE a_INSUFFICIENT_KEY_SCOPE a_RATE_LIMITED a_LOCKED a_DOT_SEGMENT a_AMBIGUOUS_PATH a_UNFORWARDABLE a_NO_ROUTE a_BODY_TOO_LARGE a_CONNECTION_REFUSED a_NO_ROUTE_TO_HOST a_READ_TIMED_OUT a_CONNECTION_RESET a_MALFORMED_REQUEST a_REQUEST_TIMEOUT a_TARGET_TOO_LONG a_UNMET_EXPECTATION a_HEADERS_TOO_LARGE a_INTERNAL_ERROR a_UNSUPPORTED_VERSION) (z0 : n0 ≤ h.size) (old : Old Z n0 h) (p0 : Nat) (p1 : Nat) (o_p0 : own_Ob Z h p0 "com/example/valet3/valet3/core/Routing" own_lay0 [(.ref p1), .null, .null, .null, .null]) :
    own_Met l Z (⟨"com/example/valet3/valet3/core/Routing", "endpoint", "()Lcom/example/valet3/valet3/core/Endpoint;"⟩ : MethodName) prog_70_method_10_code 1 (some (.object "com/example/valet3/valet3/core/Endpoint")) [] ({ frames := 0, cells := 0, slots := 0, locals := 0 } : Room) n0 #[(.ref p0)] h (own_pure .null h) := by
  refine own_met (Ls := #[.val (.ref p0)]) (by first | exact plainFor_of_name (by first | (simp [plainName, overriddenIn]; done) | decide +kernel) | decide +kernel) (fun m => rfl) ?_
  intro p e s m below meth c C
  refine own_aloadN C own_d6_0 rfl rfl (pc' := 1) rfl ?_
  refine own_getO C (own_w hw 74 rfl) Via.refl o_p0 1 rfl rfl own_d6_1 (pc' := 4) rfl ?_
  exact own_areturn C rfl rfl own_d6_4 (by decide) (by decide) ⟨rfl, rfl⟩
set_option maxHeartbeats 2000000 in
theorem own_c7_5 (l : Launch) {Z : State} {a0 : Array Value} (hw : ∀ d ∈ tables_1, d.before a0 Z = true) {n0 : Nat} {h : Heap} {a_MISSING_API_KEY a_MISSING_TOKEN a_INVALID_API_KEY a_MALFORMED_AUTHORIZATION a_INVALID_TOKEN a_INSUFFICIENT_SCOPE a_INSUFFICIENT_KEY_SCOPE a_RATE_LIMITED a_LOCKED a_DOT_SEGMENT a_AMBIGUOUS_PATH a_UNFORWARDABLE a_NO_ROUTE a_BODY_TOO_LARGE a_CONNECTION_REFUSED a_NO_ROUTE_TO_HOST a_READ_TIMED_OUT a_CONNECTION_RESET a_MALFORMED_REQUEST a_REQUEST_TIMEOUT a_TARGET_TOO_LONG a_UNMET_EXPECTATION a_HEADERS_TOO_LARGE a_INTERNAL_ERROR a_UNSUPPORTED_VERSION : Nat} (S : own_St Z a_MISSING_API_KEY a_MISSING_TOKEN a_INVALID_API_KEY a_MALFORMED_AUTHORIZATION a_INVALID_TOKEN a_INSUFFICIENT_SCOPE a_INSUFFICIENT_KEY_SCOPE a_RATE_LIMITED a_LOCKED a_DOT_SEGMENT a_AMBIGUOUS_PATH a_UNFORWARDABLE a_NO_ROUTE a_BODY_TOO_LARGE a_CONNECTION_REFUSED a_NO_ROUTE_TO_HOST a_READ_TIMED_OUT a_CONNECTION_RESET a_MALFORMED_REQUEST a_REQUEST_TIMEOUT a_TARGET_TOO_LONG a_UNMET_EXPECTATION a_HEADERS_TOO_LARGE a_INTERNAL_ERROR a_UNSUPPORTED_VERSION) (z0 : n0 ≤ h.size) (old : Old Z n0 h) (p0 : Nat) (p1 : Nat) (o_p0 : own_Ob Z h p0 "com/example/valet3/valet3/core/Routing" own_lay0 [(.ref p1), .null, .null, .null, .null]) :
    own_Met l Z (⟨"com/example/valet3/valet3/core/Routing", "route", "()Lcom/example/valet3/valet3/core/Route;"⟩ : MethodName) prog_70_method_11_code 1 (some (.object "com/example/valet3/valet3/core/Route")) [] ({ frames := 0, cells := 0, slots := 0, locals := 0 } : Room) n0 #[(.ref p0)] h (own_pure .null h) := by
  refine own_met (Ls := #[.val (.ref p0)]) (by first | exact plainFor_of_name (by first | (simp [plainName, overriddenIn]; done) | decide +kernel) | decide +kernel) (fun m => rfl) ?_
  intro p e s m below meth c C
  refine own_aloadN C own_d7_0 rfl rfl (pc' := 1) rfl ?_
  refine own_getO C (own_w hw 76 rfl) Via.refl o_p0 2 rfl rfl own_d7_1 (pc' := 4) rfl ?_
  exact own_areturn C rfl rfl own_d7_4 (by decide) (by decide) ⟨rfl, rfl⟩
set_option maxHeartbeats 2000000 in
theorem own_c8_6 (l : Launch) {Z : State} {a0 : Array Value} (hw : ∀ d ∈ tables_1, d.before a0 Z = true) {n0 : Nat} {h : Heap} {a_MISSING_API_KEY a_MISSING_TOKEN a_INVALID_API_KEY a_MALFORMED_AUTHORIZATION a_INVALID_TOKEN a_INSUFFICIENT_SCOPE a_INSUFFICIENT_KEY_SCOPE a_RATE_LIMITED a_LOCKED a_DOT_SEGMENT a_AMBIGUOUS_PATH a_UNFORWARDABLE a_NO_ROUTE a_BODY_TOO_LARGE a_CONNECTION_REFUSED a_NO_ROUTE_TO_HOST a_READ_TIMED_OUT a_CONNECTION_RESET a_MALFORMED_REQUEST a_REQUEST_TIMEOUT a_TARGET_TOO_LONG a_UNMET_EXPECTATION a_HEADERS_TOO_LARGE a_INTERNAL_ERROR a_UNSUPPORTED_VERSION : Nat} (S : own_St Z a_MISSING_API_KEY a_MISSING_TOKEN a_INVALID_API_KEY a_MALFORMED_AUTHORIZATION a_INVALID_TOKEN a_INSUFFICIENT_SCOPE a_INSUFFICIENT_KEY_SCOPE a_RATE_LIMITED a_LOCKED a_DOT_SEGMENT a_AMBIGUOUS_PATH a_UNFORWARDABLE a_NO_ROUTE a_BODY_TOO_LARGE a_CONNECTION_REFUSED a_NO_ROUTE_TO_HOST a_READ_TIMED_OUT a_CONNECTION_RESET a_MALFORMED_REQUEST a_REQUEST_TIMEOUT a_TARGET_TOO_LONG a_UNMET_EXPECTATION a_HEADERS_TOO_LARGE a_INTERNAL_ERROR a_UNSUPPORTED_VERSION) (z0 : n0 ≤ h.size) (old : Old Z n0 h) (p0 : Nat) (p1 : Nat) (o_p0 : own_Ob Z h p0 "com/example/valet3/valet3/core/Routing" own_lay0 [(.ref p1), .null, .null, .null, .null]) :
    own_Met l Z (⟨"com/example/valet3/valet3/core/Routing", "backend", "()Ljava/lang/String;"⟩ : MethodName) prog_70_method_12_code 1 (some (.object "java/lang/String")) [] ({ frames := 0, cells := 0, slots := 0, locals := 0 } : Room) n0 #[(.ref p0)] h (own_pure .null h) := by
  refine own_met (Ls := #[.val (.ref p0)]) (by first | exact plainFor_of_name (by first | (simp [plainName, overriddenIn]; done) | decide +kernel) | decide +kernel) (fun m => rfl) ?_
  intro p e s m below meth c C
  refine own_aloadN C own_d8_0 rfl rfl (pc' := 1) rfl ?_
  refine own_getO C (own_w hw 78 rfl) Via.refl o_p0 3 rfl rfl own_d8_1 (pc' := 4) rfl ?_
  exact own_areturn C rfl rfl own_d8_4 (by decide) (by decide) ⟨rfl, rfl⟩
set_option maxHeartbeats 2000000 in
theorem own_c9_7 (l : Launch) {Z : State} {a0 : Array Value} (hw : ∀ d ∈ tables_1, d.before a0 Z = true) {n0 : Nat} {h : Heap} {a_MISSING_API_KEY a_MISSING_TOKEN a_INVALID_API_KEY a_MALFORMED_AUTHORIZATION a_INVALID_TOKEN a_INSUFFICIENT_SCOPE a_INSUFFICIENT_KEY_SCOPE a_RATE_LIMITED a_LOCKED a_DOT_SEGMENT a_AMBIGUOUS_PATH a_UNFORWARDABLE a_NO_ROUTE a_BODY_TOO_LARGE a_CONNECTION_REFUSED a_NO_ROUTE_TO_HOST a_READ_TIMED_OUT a_CONNECTION_RESET a_MALFORMED_REQUEST a_REQUEST_TIMEOUT a_TARGET_TOO_LONG a_UNMET_EXPECTATION a_HEADERS_TOO_LARGE a_INTERNAL_ERROR a_UNSUPPORTED_VERSION : Nat} (S : own_St Z a_MISSING_API_KEY a_MISSING_TOKEN a_INVALID_API_KEY a_MALFORMED_AUTHORIZATION a_INVALID_TOKEN a_INSUFFICIENT_SCOPE a_INSUFFICIENT_KEY_SCOPE a_RATE_LIMITED a_LOCKED a_DOT_SEGMENT a_AMBIGUOUS_PATH a_UNFORWARDABLE a_NO_ROUTE a_BODY_TOO_LARGE a_CONNECTION_REFUSED a_NO_ROUTE_TO_HOST a_READ_TIMED_OUT a_CONNECTION_RESET a_MALFORMED_REQUEST a_REQUEST_TIMEOUT a_TARGET_TOO_LONG a_UNMET_EXPECTATION a_HEADERS_TOO_LARGE a_INTERNAL_ERROR a_UNSUPPORTED_VERSION) (z0 : n0 ≤ h.size) (old : Old Z n0 h) (p0 : Nat) (p1 : Nat) (o_p0 : own_Ob Z h p0 "com/example/valet3/valet3/core/Routing" own_lay0 [(.ref p1), .null, .null, .null, .null]) :
    own_Met l Z (⟨"com/example/valet3/valet3/core/Routing", "rest", "()Ljava/lang/String;"⟩ : MethodName) prog_70_method_13_code 1 (some (.object "java/lang/String")) [] ({ frames := 0, cells := 0, slots := 0, locals := 0 } : Room) n0 #[(.ref p0)] h (own_pure .null h) := by
  refine own_met (Ls := #[.val (.ref p0)]) (by first | exact plainFor_of_name (by first | (simp [plainName, overriddenIn]; done) | decide +kernel) | decide +kernel) (fun m => rfl) ?_
  intro p e s m below meth c C
  refine own_aloadN C own_d9_0 rfl rfl (pc' := 1) rfl ?_
  refine own_getO C (own_w hw 80 rfl) Via.refl o_p0 4 rfl rfl own_d9_1 (pc' := 4) rfl ?_
  exact own_areturn C rfl rfl own_d9_4 (by decide) (by decide) ⟨rfl, rfl⟩
set_option maxHeartbeats 2000000 in
theorem own_c10_8 (l : Launch) {Z : State} {a0 : Array Value} (hw : ∀ d ∈ tables_1, d.before a0 Z = true) {n0 : Nat} {h : Heap} {a_MISSING_API_KEY a_MISSING_TOKEN a_INVALID_API_KEY a_MALFORMED_AUTHORIZATION a_INVALID_TOKEN a_INSUFFICIENT_SCOPE a_INSUFFICIENT_KEY_SCOPE a_RATE_LIMITED a_LOCKED a_DOT_SEGMENT a_AMBIGUOUS_PATH a_UNFORWARDABLE a_NO_ROUTE a_BODY_TOO_LARGE a_CONNECTION_REFUSED a_NO_ROUTE_TO_HOST a_READ_TIMED_OUT a_CONNECTION_RESET a_MALFORMED_REQUEST a_REQUEST_TIMEOUT a_TARGET_TOO_LONG a_UNMET_EXPECTATION a_HEADERS_TOO_LARGE a_INTERNAL_ERROR a_UNSUPPORTED_VERSION : Nat} (S : own_St Z a_MISSING_API_KEY a_MISSING_TOKEN a_INVALID_API_KEY a_MALFORMED_AUTHORIZATION a_INVALID_TOKEN a_INSUFFICIENT_SCOPE a_INSUFFICIENT_KEY_SCOPE a_RATE_LIMITED a_LOCKED a_DOT_SEGMENT a_AMBIGUOUS_PATH a_UNFORWARDABLE a_NO_ROUTE a_BODY_TOO_LARGE a_CONNECTION_REFUSED a_NO_ROUTE_TO_HOST a_READ_TIMED_OUT a_CONNECTION_RESET a_MALFORMED_REQUEST a_REQUEST_TIMEOUT a_TARGET_TOO_LONG a_UNMET_EXPECTATION a_HEADERS_TOO_LARGE a_INTERNAL_ERROR a_UNSUPPORTED_VERSION) (z0 : n0 ≤ h.size) (old : Old Z n0 h) (p0 : Nat) (p1 : Nat) (o_p0 : own_Ob Z h p0 "com/example/valet3/valet3/core/Routing" own_lay0 [(.ref p1), .null, .null, .null, .null]) :
    own_Met l Z (⟨"com/example/valet3/valet3/core/Routing", "isRefused", "()Z"⟩ : MethodName) prog_70_method_5_code 1 (some .boolean) [] ({ frames := 0, cells := 0, slots := 0, locals := 0 } : Room) n0 #[(.ref p0)] h (own_pure (.int (1 : Int32)) h) := by
  refine own_met (Ls := #[.val (.ref p0)]) (by first | exact plainFor_of_name (by first | (simp [plainName, overriddenIn]; done) | decide +kernel) | decide +kernel) (fun m => rfl) ?_
  intro p e s m below meth c C
  refine own_aloadN C own_d10_0 rfl rfl (pc' := 1) rfl ?_
  refine own_getO C (own_w hw 72 rfl) Via.refl o_p0 0 rfl rfl own_d10_1 (pc' := 4) rfl ?_
  refine own_nullN C own_d10_4 (pc' := 7) rfl ?_
  refine own_iconst C (v := (1 : Int32)) own_d10_7 (by decide) (pc' := 8) rfl ?_
  refine own_goto C own_d10_8 (by decide) (pc' := 12) (by decide) ?_
  exact own_ireturn C (by simp) rfl own_d10_12 (by decide) (by decide) ⟨rfl, rfl⟩
set_option maxHeartbeats 4000000 in
theorem own_law (l : Launch) {Z : State} {a0 : Array Value} (hw : ∀ d ∈ tables_1, d.before a0 Z = true) {n0 : Nat} {h : Heap} {a_MISSING_API_KEY a_MISSING_TOKEN a_INVALID_API_KEY a_MALFORMED_AUTHORIZATION a_INVALID_TOKEN a_INSUFFICIENT_SCOPE a_INSUFFICIENT_KEY_SCOPE a_RATE_LIMITED a_LOCKED a_DOT_SEGMENT a_AMBIGUOUS_PATH a_UNFORWARDABLE a_NO_ROUTE a_BODY_TOO_LARGE a_CONNECTION_REFUSED a_NO_ROUTE_TO_HOST a_READ_TIMED_OUT a_CONNECTION_RESET a_MALFORMED_REQUEST a_REQUEST_TIMEOUT a_TARGET_TOO_LONG a_UNMET_EXPECTATION a_HEADERS_TOO_LARGE a_INTERNAL_ERROR a_UNSUPPORTED_VERSION : Nat} (S : own_St Z a_MISSING_API_KEY a_MISSING_TOKEN a_INVALID_API_KEY a_MALFORMED_AUTHORIZATION a_INVALID_TOKEN a_INSUFFICIENT_SCOPE a_INSUFFICIENT_KEY_SCOPE a_RATE_LIMITED a_LOCKED a_DOT_SEGMENT a_AMBIGUOUS_PATH a_UNFORWARDABLE a_NO_ROUTE a_BODY_TOO_LARGE a_CONNECTION_REFUSED a_NO_ROUTE_TO_HOST a_READ_TIMED_OUT a_CONNECTION_RESET a_MALFORMED_REQUEST a_REQUEST_TIMEOUT a_TARGET_TOO_LONG a_UNMET_EXPECTATION a_HEADERS_TOO_LARGE a_INTERNAL_ERROR a_UNSUPPORTED_VERSION) (z0 : n0 ≤ h.size) (old : Old Z n0 h) (x0 : Int32) :
    own_Met l Z x code maxLocals ret tables_1 room_1 n0 #[(.int x0)] h (fun v _ => v = some (.int 1)) := by
  refine own_met (Ls := #[.val (.int x0), .unset, .unset, .unset]) (by first | exact plainFor_of_name (by first | (simp [x, plainName, overriddenIn]; done) | decide +kernel) | decide +kernel) (fun m => rfl) ?_
  intro p e s m below meth c C
  refine own_bipush C (v := (25 : Int32)) at_0 (by decide) (pc' := 2) rfl ?_
  refine own_anewarray C (own_w hw 0 rfl) (own_w hw 1 rfl) (by decide) (cap := 25) (by decide) (by decide) (ad := "[Lcom/example/valet3/valet3/core/Refusal;") (by decide +kernel) (vs := [.null, .null, .null, .null, .null, .null, .null, .null, .null, .null, .null, .null, .null, .null, .null, .null, .null, .null, .null, .null, .null, .null, .null, .null, .null]) (by rfl) at_2 (by decide) (by decide) (pc' := 5) rfl ?_
  intro h1 b1 g1 E1 o_b1
  have s1 : h.size ≤ h1.size := E1.1
  have t1 := o_b1.lt
  refine own_dup C at_5 rfl (pc' := 6) rfl ?_
  refine own_iconst C (v := (0 : Int32)) at_6 (by decide) (pc' := 7) rfl ?_
  have old1 := (old.ext E1)
  refine own_getstatic C (own_w hw 2 rfl) (S.1.1.ext old1.2) at_7 (pc' := 10) rfl ?_
  refine own_aastore C o_b1 rfl (o_b1.sto (by decide) (Ins.self (S.1.2.ext old1.2).1)) (by decide) (of_decide_eq_true rfl) (vs' := [(.ref a_MISSING_API_KEY), .null, .null, .null, .null, .null, .null, .null, .null, .null, .null, .null, .null, .null, .null, .null, .null, .null, .null, .null, .null, .null, .null, .null, .null]) (by rfl) (by omega) at_10 (pc' := 11) rfl ?_
  intro h2 W2 o_b1_2
  have s2 : h2.size = h1.size := W2.size
  refine own_dup C at_11 rfl (pc' := 12) rfl ?_
  refine own_iconst C (v := (1 : Int32)) at_12 (by decide) (pc' := 13) rfl ?_
  have old2 := (old1.wr W2 (by omega))
  refine own_getstatic C (own_w hw 6 rfl) (S.2.1.1.ext old2.2) at_13 (pc' := 16) rfl ?_
  refine own_aastore C o_b1_2 rfl (o_b1_2.sto (by decide) (Ins.self (S.2.1.2.ext old2.2).1)) (by decide) (of_decide_eq_true rfl) (vs' := [(.ref a_MISSING_API_KEY), (.ref a_MISSING_TOKEN), .null, .null, .null, .null, .null, .null, .null, .null, .null, .null, .null, .null, .null, .null, .null, .null, .null, .null, .null, .null, .null, .null, .null]) (by rfl) (by omega) at_16 (pc' := 17) rfl ?_
  intro h3 W3 o_b1_3
  have s3 : h3.size = h2.size := W3.size
  refine own_dup C at_17 rfl (pc' := 18) rfl ?_
  refine own_iconst C (v := (2 : Int32)) at_18 (by decide) (pc' := 19) rfl ?_
  have old3 := (old2.wr W3 (by omega))
  refine own_getstatic C (own_w hw 8 rfl) (S.2.2.1.1.ext old3.2) at_19 (pc' := 22) rfl ?_
  refine own_aastore C o_b1_3 rfl (o_b1_3.sto (by decide) (Ins.self (S.2.2.1.2.ext old3.2).1)) (by decide) (of_decide_eq_true rfl) (vs' := [(.ref a_MISSING_API_KEY), (.ref a_MISSING_TOKEN), (.ref a_INVALID_API_KEY), .null, .null, .null, .null, .null, .null, .null, .null, .null, .null, .null, .null, .null, .null, .null, .null, .null, .null, .null, .null, .null, .null]) (by rfl) (by omega) at_22 (pc' := 23) rfl ?_
  intro h4 W4 o_b1_4
  have s4 : h4.size = h3.size := W4.size
  refine own_dup C at_23 rfl (pc' := 24) rfl ?_
  refine own_iconst C (v := (3 : Int32)) at_24 (by decide) (pc' := 25) rfl ?_
  have old4 := (old3.wr W4 (by omega))
  refine own_getstatic C (own_w hw 10 rfl) (S.2.2.2.1.1.ext old4.2) at_25 (pc' := 28) rfl ?_
  refine own_aastore C o_b1_4 rfl (o_b1_4.sto (by decide) (Ins.self (S.2.2.2.1.2.ext old4.2).1)) (by decide) (of_decide_eq_true rfl) (vs' := [(.ref a_MISSING_API_KEY), (.ref a_MISSING_TOKEN), (.ref a_INVALID_API_KEY), (.ref a_MALFORMED_AUTHORIZATION), .null, .null, .null, .null, .null, .null, .null, .null, .null, .null, .null, .null, .null, .null, .null, .null, .null, .null, .null, .null, .null]) (by rfl) (by omega) at_28 (pc' := 29) rfl ?_
  intro h5 W5 o_b1_5
  have s5 : h5.size = h4.size := W5.size
  refine own_dup C at_29 rfl (pc' := 30) rfl ?_
  refine own_iconst C (v := (4 : Int32)) at_30 (by decide) (pc' := 31) rfl ?_
  have old5 := (old4.wr W5 (by omega))
  refine own_getstatic C (own_w hw 12 rfl) (S.2.2.2.2.1.1.ext old5.2) at_31 (pc' := 34) rfl ?_
  refine own_aastore C o_b1_5 rfl (o_b1_5.sto (by decide) (Ins.self (S.2.2.2.2.1.2.ext old5.2).1)) (by decide) (of_decide_eq_true rfl) (vs' := [(.ref a_MISSING_API_KEY), (.ref a_MISSING_TOKEN), (.ref a_INVALID_API_KEY), (.ref a_MALFORMED_AUTHORIZATION), (.ref a_INVALID_TOKEN), .null, .null, .null, .null, .null, .null, .null, .null, .null, .null, .null, .null, .null, .null, .null, .null, .null, .null, .null, .null]) (by rfl) (by omega) at_34 (pc' := 35) rfl ?_
  intro h6 W6 o_b1_6
  have s6 : h6.size = h5.size := W6.size
  refine own_dup C at_35 rfl (pc' := 36) rfl ?_
  refine own_iconst C (v := (5 : Int32)) at_36 (by decide) (pc' := 37) rfl ?_
  have old6 := (old5.wr W6 (by omega))
  refine own_getstatic C (own_w hw 14 rfl) (S.2.2.2.2.2.1.1.ext old6.2) at_37 (pc' := 40) rfl ?_
  refine own_aastore C o_b1_6 rfl (o_b1_6.sto (by decide) (Ins.self (S.2.2.2.2.2.1.2.ext old6.2).1)) (by decide) (of_decide_eq_true rfl) (vs' := [(.ref a_MISSING_API_KEY), (.ref a_MISSING_TOKEN), (.ref a_INVALID_API_KEY), (.ref a_MALFORMED_AUTHORIZATION), (.ref a_INVALID_TOKEN), (.ref a_INSUFFICIENT_SCOPE), .null, .null, .null, .null, .null, .null, .null, .null, .null, .null, .null, .null, .null, .null, .null, .null, .null, .null, .null]) (by rfl) (by omega) at_40 (pc' := 41) rfl ?_
  intro h7 W7 o_b1_7
  have s7 : h7.size = h6.size := W7.size
  refine own_dup C at_41 rfl (pc' := 42) rfl ?_
  refine own_bipush C (v := (6 : Int32)) at_42 (by decide) (pc' := 44) rfl ?_
  have old7 := (old6.wr W7 (by omega))
  refine own_getstatic C (own_w hw 16 rfl) (S.2.2.2.2.2.2.1.1.ext old7.2) at_44 (pc' := 47) rfl ?_
  refine own_aastore C o_b1_7 rfl (o_b1_7.sto (by decide) (Ins.self (S.2.2.2.2.2.2.1.2.ext old7.2).1)) (by decide) (of_decide_eq_true rfl) (vs' := [(.ref a_MISSING_API_KEY), (.ref a_MISSING_TOKEN), (.ref a_INVALID_API_KEY), (.ref a_MALFORMED_AUTHORIZATION), (.ref a_INVALID_TOKEN), (.ref a_INSUFFICIENT_SCOPE), (.ref a_INSUFFICIENT_KEY_SCOPE), .null, .null, .null, .null, .null, .null, .null, .null, .null, .null, .null, .null, .null, .null, .null, .null, .null, .null]) (by rfl) (by omega) at_47 (pc' := 48) rfl ?_
  intro h8 W8 o_b1_8
  have s8 : h8.size = h7.size := W8.size
  refine own_dup C at_48 rfl (pc' := 49) rfl ?_
  refine own_bipush C (v := (7 : Int32)) at_49 (by decide) (pc' := 51) rfl ?_
  have old8 := (old7.wr W8 (by omega))
  refine own_getstatic C (own_w hw 18 rfl) (S.2.2.2.2.2.2.2.1.1.ext old8.2) at_51 (pc' := 54) rfl ?_
  refine own_aastore C o_b1_8 rfl (o_b1_8.sto (by decide) (Ins.self (S.2.2.2.2.2.2.2.1.2.ext old8.2).1)) (by decide) (of_decide_eq_true rfl) (vs' := [(.ref a_MISSING_API_KEY), (.ref a_MISSING_TOKEN), (.ref a_INVALID_API_KEY), (.ref a_MALFORMED_AUTHORIZATION), (.ref a_INVALID_TOKEN), (.ref a_INSUFFICIENT_SCOPE), (.ref a_INSUFFICIENT_KEY_SCOPE), (.ref a_RATE_LIMITED), .null, .null, .null, .null, .null, .null, .null, .null, .null, .null, .null, .null, .null, .null, .null, .null, .null]) (by rfl) (by omega) at_54 (pc' := 55) rfl ?_
  intro h9 W9 o_b1_9
  have s9 : h9.size = h8.size := W9.size
  refine own_dup C at_55 rfl (pc' := 56) rfl ?_
  refine own_bipush C (v := (8 : Int32)) at_56 (by decide) (pc' := 58) rfl ?_
  have old9 := (old8.wr W9 (by omega))
  refine own_getstatic C (own_w hw 20 rfl) (S.2.2.2.2.2.2.2.2.1.1.ext old9.2) at_58 (pc' := 61) rfl ?_
  refine own_aastore C o_b1_9 rfl (o_b1_9.sto (by decide) (Ins.self (S.2.2.2.2.2.2.2.2.1.2.ext old9.2).1)) (by decide) (of_decide_eq_true rfl) (vs' := [(.ref a_MISSING_API_KEY), (.ref a_MISSING_TOKEN), (.ref a_INVALID_API_KEY), (.ref a_MALFORMED_AUTHORIZATION), (.ref a_INVALID_TOKEN), (.ref a_INSUFFICIENT_SCOPE), (.ref a_INSUFFICIENT_KEY_SCOPE), (.ref a_RATE_LIMITED), (.ref a_LOCKED), .null, .null, .null, .null, .null, .null, .null, .null, .null, .null, .null, .null, .null, .null, .null, .null]) (by rfl) (by omega) at_61 (pc' := 62) rfl ?_
  intro h10 W10 o_b1_10
  have s10 : h10.size = h9.size := W10.size
  refine own_dup C at_62 rfl (pc' := 63) rfl ?_
  refine own_bipush C (v := (9 : Int32)) at_63 (by decide) (pc' := 65) rfl ?_
  have old10 := (old9.wr W10 (by omega))
  refine own_getstatic C (own_w hw 22 rfl) (S.2.2.2.2.2.2.2.2.2.1.1.ext old10.2) at_65 (pc' := 68) rfl ?_
  refine own_aastore C o_b1_10 rfl (o_b1_10.sto (by decide) (Ins.self (S.2.2.2.2.2.2.2.2.2.1.2.ext old10.2).1)) (by decide) (of_decide_eq_true rfl) (vs' := [(.ref a_MISSING_API_KEY), (.ref a_MISSING_TOKEN), (.ref a_INVALID_API_KEY), (.ref a_MALFORMED_AUTHORIZATION), (.ref a_INVALID_TOKEN), (.ref a_INSUFFICIENT_SCOPE), (.ref a_INSUFFICIENT_KEY_SCOPE), (.ref a_RATE_LIMITED), (.ref a_LOCKED), (.ref a_DOT_SEGMENT), .null, .null, .null, .null, .null, .null, .null, .null, .null, .null, .null, .null, .null, .null, .null]) (by rfl) (by omega) at_68 (pc' := 69) rfl ?_
  intro h11 W11 o_b1_11
  have s11 : h11.size = h10.size := W11.size
  refine own_dup C at_69 rfl (pc' := 70) rfl ?_
  refine own_bipush C (v := (10 : Int32)) at_70 (by decide) (pc' := 72) rfl ?_
  have old11 := (old10.wr W11 (by omega))
  refine own_getstatic C (own_w hw 24 rfl) (S.2.2.2.2.2.2.2.2.2.2.1.1.ext old11.2) at_72 (pc' := 75) rfl ?_
  refine own_aastore C o_b1_11 rfl (o_b1_11.sto (by decide) (Ins.self (S.2.2.2.2.2.2.2.2.2.2.1.2.ext old11.2).1)) (by decide) (of_decide_eq_true rfl) (vs' := [(.ref a_MISSING_API_KEY), (.ref a_MISSING_TOKEN), (.ref a_INVALID_API_KEY), (.ref a_MALFORMED_AUTHORIZATION), (.ref a_INVALID_TOKEN), (.ref a_INSUFFICIENT_SCOPE), (.ref a_INSUFFICIENT_KEY_SCOPE), (.ref a_RATE_LIMITED), (.ref a_LOCKED), (.ref a_DOT_SEGMENT), (.ref a_AMBIGUOUS_PATH), .null, .null, .null, .null, .null, .null, .null, .null, .null, .null, .null, .null, .null, .null]) (by rfl) (by omega) at_75 (pc' := 76) rfl ?_
  intro h12 W12 o_b1_12
  have s12 : h12.size = h11.size := W12.size
  refine own_dup C at_76 rfl (pc' := 77) rfl ?_
  refine own_bipush C (v := (11 : Int32)) at_77 (by decide) (pc' := 79) rfl ?_
  have old12 := (old11.wr W12 (by omega))
  refine own_getstatic C (own_w hw 26 rfl) (S.2.2.2.2.2.2.2.2.2.2.2.1.1.ext old12.2) at_79 (pc' := 82) rfl ?_
  refine own_aastore C o_b1_12 rfl (o_b1_12.sto (by decide) (Ins.self (S.2.2.2.2.2.2.2.2.2.2.2.1.2.ext old12.2).1)) (by decide) (of_decide_eq_true rfl) (vs' := [(.ref a_MISSING_API_KEY), (.ref a_MISSING_TOKEN), (.ref a_INVALID_API_KEY), (.ref a_MALFORMED_AUTHORIZATION), (.ref a_INVALID_TOKEN), (.ref a_INSUFFICIENT_SCOPE), (.ref a_INSUFFICIENT_KEY_SCOPE), (.ref a_RATE_LIMITED), (.ref a_LOCKED), (.ref a_DOT_SEGMENT), (.ref a_AMBIGUOUS_PATH), (.ref a_UNFORWARDABLE), .null, .null, .null, .null, .null, .null, .null, .null, .null, .null, .null, .null, .null]) (by rfl) (by omega) at_82 (pc' := 83) rfl ?_
  intro h13 W13 o_b1_13
  have s13 : h13.size = h12.size := W13.size
  refine own_dup C at_83 rfl (pc' := 84) rfl ?_
  refine own_bipush C (v := (12 : Int32)) at_84 (by decide) (pc' := 86) rfl ?_
  have old13 := (old12.wr W13 (by omega))
  refine own_getstatic C (own_w hw 28 rfl) (S.2.2.2.2.2.2.2.2.2.2.2.2.1.1.ext old13.2) at_86 (pc' := 89) rfl ?_
  refine own_aastore C o_b1_13 rfl (o_b1_13.sto (by decide) (Ins.self (S.2.2.2.2.2.2.2.2.2.2.2.2.1.2.ext old13.2).1)) (by decide) (of_decide_eq_true rfl) (vs' := [(.ref a_MISSING_API_KEY), (.ref a_MISSING_TOKEN), (.ref a_INVALID_API_KEY), (.ref a_MALFORMED_AUTHORIZATION), (.ref a_INVALID_TOKEN), (.ref a_INSUFFICIENT_SCOPE), (.ref a_INSUFFICIENT_KEY_SCOPE), (.ref a_RATE_LIMITED), (.ref a_LOCKED), (.ref a_DOT_SEGMENT), (.ref a_AMBIGUOUS_PATH), (.ref a_UNFORWARDABLE), (.ref a_NO_ROUTE), .null, .null, .null, .null, .null, .null, .null, .null, .null, .null, .null, .null]) (by rfl) (by omega) at_89 (pc' := 90) rfl ?_
  intro h14 W14 o_b1_14
  have s14 : h14.size = h13.size := W14.size
  refine own_dup C at_90 rfl (pc' := 91) rfl ?_
  refine own_bipush C (v := (13 : Int32)) at_91 (by decide) (pc' := 93) rfl ?_
  have old14 := (old13.wr W14 (by omega))
  refine own_getstatic C (own_w hw 30 rfl) (S.2.2.2.2.2.2.2.2.2.2.2.2.2.1.1.ext old14.2) at_93 (pc' := 96) rfl ?_
  refine own_aastore C o_b1_14 rfl (o_b1_14.sto (by decide) (Ins.self (S.2.2.2.2.2.2.2.2.2.2.2.2.2.1.2.ext old14.2).1)) (by decide) (of_decide_eq_true rfl) (vs' := [(.ref a_MISSING_API_KEY), (.ref a_MISSING_TOKEN), (.ref a_INVALID_API_KEY), (.ref a_MALFORMED_AUTHORIZATION), (.ref a_INVALID_TOKEN), (.ref a_INSUFFICIENT_SCOPE), (.ref a_INSUFFICIENT_KEY_SCOPE), (.ref a_RATE_LIMITED), (.ref a_LOCKED), (.ref a_DOT_SEGMENT), (.ref a_AMBIGUOUS_PATH), (.ref a_UNFORWARDABLE), (.ref a_NO_ROUTE), (.ref a_BODY_TOO_LARGE), .null, .null, .null, .null, .null, .null, .null, .null, .null, .null, .null]) (by rfl) (by omega) at_96 (pc' := 97) rfl ?_
  intro h15 W15 o_b1_15
  have s15 : h15.size = h14.size := W15.size
  refine own_dup C at_97 rfl (pc' := 98) rfl ?_
  refine own_bipush C (v := (14 : Int32)) at_98 (by decide) (pc' := 100) rfl ?_
  have old15 := (old14.wr W15 (by omega))
  refine own_getstatic C (own_w hw 32 rfl) (S.2.2.2.2.2.2.2.2.2.2.2.2.2.2.1.1.ext old15.2) at_100 (pc' := 103) rfl ?_
  refine own_aastore C o_b1_15 rfl (o_b1_15.sto (by decide) (Ins.self (S.2.2.2.2.2.2.2.2.2.2.2.2.2.2.1.2.ext old15.2).1)) (by decide) (of_decide_eq_true rfl) (vs' := [(.ref a_MISSING_API_KEY), (.ref a_MISSING_TOKEN), (.ref a_INVALID_API_KEY), (.ref a_MALFORMED_AUTHORIZATION), (.ref a_INVALID_TOKEN), (.ref a_INSUFFICIENT_SCOPE), (.ref a_INSUFFICIENT_KEY_SCOPE), (.ref a_RATE_LIMITED), (.ref a_LOCKED), (.ref a_DOT_SEGMENT), (.ref a_AMBIGUOUS_PATH), (.ref a_UNFORWARDABLE), (.ref a_NO_ROUTE), (.ref a_BODY_TOO_LARGE), (.ref a_CONNECTION_REFUSED), .null, .null, .null, .null, .null, .null, .null, .null, .null, .null]) (by rfl) (by omega) at_103 (pc' := 104) rfl ?_
  intro h16 W16 o_b1_16
  have s16 : h16.size = h15.size := W16.size
  refine own_dup C at_104 rfl (pc' := 105) rfl ?_
  refine own_bipush C (v := (15 : Int32)) at_105 (by decide) (pc' := 107) rfl ?_
  have old16 := (old15.wr W16 (by omega))
  refine own_getstatic C (own_w hw 34 rfl) (S.2.2.2.2.2.2.2.2.2.2.2.2.2.2.2.1.1.ext old16.2) at_107 (pc' := 110) rfl ?_
  refine own_aastore C o_b1_16 rfl (o_b1_16.sto (by decide) (Ins.self (S.2.2.2.2.2.2.2.2.2.2.2.2.2.2.2.1.2.ext old16.2).1)) (by decide) (of_decide_eq_true rfl) (vs' := [(.ref a_MISSING_API_KEY), (.ref a_MISSING_TOKEN), (.ref a_INVALID_API_KEY), (.ref a_MALFORMED_AUTHORIZATION), (.ref a_INVALID_TOKEN), (.ref a_INSUFFICIENT_SCOPE), (.ref a_INSUFFICIENT_KEY_SCOPE), (.ref a_RATE_LIMITED), (.ref a_LOCKED), (.ref a_DOT_SEGMENT), (.ref a_AMBIGUOUS_PATH), (.ref a_UNFORWARDABLE), (.ref a_NO_ROUTE), (.ref a_BODY_TOO_LARGE), (.ref a_CONNECTION_REFUSED), (.ref a_NO_ROUTE_TO_HOST), .null, .null, .null, .null, .null, .null, .null, .null, .null]) (by rfl) (by omega) at_110 (pc' := 111) rfl ?_
  intro h17 W17 o_b1_17
  have s17 : h17.size = h16.size := W17.size
  refine own_dup C at_111 rfl (pc' := 112) rfl ?_
  refine own_bipush C (v := (16 : Int32)) at_112 (by decide) (pc' := 114) rfl ?_
  have old17 := (old16.wr W17 (by omega))
  refine own_getstatic C (own_w hw 36 rfl) (S.2.2.2.2.2.2.2.2.2.2.2.2.2.2.2.2.1.1.ext old17.2) at_114 (pc' := 117) rfl ?_
  refine own_aastore C o_b1_17 rfl (o_b1_17.sto (by decide) (Ins.self (S.2.2.2.2.2.2.2.2.2.2.2.2.2.2.2.2.1.2.ext old17.2).1)) (by decide) (of_decide_eq_true rfl) (vs' := [(.ref a_MISSING_API_KEY), (.ref a_MISSING_TOKEN), (.ref a_INVALID_API_KEY), (.ref a_MALFORMED_AUTHORIZATION), (.ref a_INVALID_TOKEN), (.ref a_INSUFFICIENT_SCOPE), (.ref a_INSUFFICIENT_KEY_SCOPE), (.ref a_RATE_LIMITED), (.ref a_LOCKED), (.ref a_DOT_SEGMENT), (.ref a_AMBIGUOUS_PATH), (.ref a_UNFORWARDABLE), (.ref a_NO_ROUTE), (.ref a_BODY_TOO_LARGE), (.ref a_CONNECTION_REFUSED), (.ref a_NO_ROUTE_TO_HOST), (.ref a_READ_TIMED_OUT), .null, .null, .null, .null, .null, .null, .null, .null]) (by rfl) (by omega) at_117 (pc' := 118) rfl ?_
  intro h18 W18 o_b1_18
  have s18 : h18.size = h17.size := W18.size
  refine own_dup C at_118 rfl (pc' := 119) rfl ?_
  refine own_bipush C (v := (17 : Int32)) at_119 (by decide) (pc' := 121) rfl ?_
  have old18 := (old17.wr W18 (by omega))
  refine own_getstatic C (own_w hw 38 rfl) (S.2.2.2.2.2.2.2.2.2.2.2.2.2.2.2.2.2.1.1.ext old18.2) at_121 (pc' := 124) rfl ?_
  refine own_aastore C o_b1_18 rfl (o_b1_18.sto (by decide) (Ins.self (S.2.2.2.2.2.2.2.2.2.2.2.2.2.2.2.2.2.1.2.ext old18.2).1)) (by decide) (of_decide_eq_true rfl) (vs' := [(.ref a_MISSING_API_KEY), (.ref a_MISSING_TOKEN), (.ref a_INVALID_API_KEY), (.ref a_MALFORMED_AUTHORIZATION), (.ref a_INVALID_TOKEN), (.ref a_INSUFFICIENT_SCOPE), (.ref a_INSUFFICIENT_KEY_SCOPE), (.ref a_RATE_LIMITED), (.ref a_LOCKED), (.ref a_DOT_SEGMENT), (.ref a_AMBIGUOUS_PATH), (.ref a_UNFORWARDABLE), (.ref a_NO_ROUTE), (.ref a_BODY_TOO_LARGE), (.ref a_CONNECTION_REFUSED), (.ref a_NO_ROUTE_TO_HOST), (.ref a_READ_TIMED_OUT), (.ref a_CONNECTION_RESET), .null, .null, .null, .null, .null, .null, .null]) (by rfl) (by omega) at_124 (pc' := 125) rfl ?_
  intro h19 W19 o_b1_19
  have s19 : h19.size = h18.size := W19.size
  refine own_dup C at_125 rfl (pc' := 126) rfl ?_
  refine own_bipush C (v := (18 : Int32)) at_126 (by decide) (pc' := 128) rfl ?_
  have old19 := (old18.wr W19 (by omega))
  refine own_getstatic C (own_w hw 40 rfl) (S.2.2.2.2.2.2.2.2.2.2.2.2.2.2.2.2.2.2.1.1.ext old19.2) at_128 (pc' := 131) rfl ?_
  refine own_aastore C o_b1_19 rfl (o_b1_19.sto (by decide) (Ins.self (S.2.2.2.2.2.2.2.2.2.2.2.2.2.2.2.2.2.2.1.2.ext old19.2).1)) (by decide) (of_decide_eq_true rfl) (vs' := [(.ref a_MISSING_API_KEY), (.ref a_MISSING_TOKEN), (.ref a_INVALID_API_KEY), (.ref a_MALFORMED_AUTHORIZATION), (.ref a_INVALID_TOKEN), (.ref a_INSUFFICIENT_SCOPE), (.ref a_INSUFFICIENT_KEY_SCOPE), (.ref a_RATE_LIMITED), (.ref a_LOCKED), (.ref a_DOT_SEGMENT), (.ref a_AMBIGUOUS_PATH), (.ref a_UNFORWARDABLE), (.ref a_NO_ROUTE), (.ref a_BODY_TOO_LARGE), (.ref a_CONNECTION_REFUSED), (.ref a_NO_ROUTE_TO_HOST), (.ref a_READ_TIMED_OUT), (.ref a_CONNECTION_RESET), (.ref a_MALFORMED_REQUEST), .null, .null, .null, .null, .null, .null]) (by rfl) (by omega) at_131 (pc' := 132) rfl ?_
  intro h20 W20 o_b1_20
  have s20 : h20.size = h19.size := W20.size
  refine own_dup C at_132 rfl (pc' := 133) rfl ?_
  refine own_bipush C (v := (19 : Int32)) at_133 (by decide) (pc' := 135) rfl ?_
  have old20 := (old19.wr W20 (by omega))
  refine own_getstatic C (own_w hw 42 rfl) (S.2.2.2.2.2.2.2.2.2.2.2.2.2.2.2.2.2.2.2.1.1.ext old20.2) at_135 (pc' := 138) rfl ?_
  refine own_aastore C o_b1_20 rfl (o_b1_20.sto (by decide) (Ins.self (S.2.2.2.2.2.2.2.2.2.2.2.2.2.2.2.2.2.2.2.1.2.ext old20.2).1)) (by decide) (of_decide_eq_true rfl) (vs' := [(.ref a_MISSING_API_KEY), (.ref a_MISSING_TOKEN), (.ref a_INVALID_API_KEY), (.ref a_MALFORMED_AUTHORIZATION), (.ref a_INVALID_TOKEN), (.ref a_INSUFFICIENT_SCOPE), (.ref a_INSUFFICIENT_KEY_SCOPE), (.ref a_RATE_LIMITED), (.ref a_LOCKED), (.ref a_DOT_SEGMENT), (.ref a_AMBIGUOUS_PATH), (.ref a_UNFORWARDABLE), (.ref a_NO_ROUTE), (.ref a_BODY_TOO_LARGE), (.ref a_CONNECTION_REFUSED), (.ref a_NO_ROUTE_TO_HOST), (.ref a_READ_TIMED_OUT), (.ref a_CONNECTION_RESET), (.ref a_MALFORMED_REQUEST), (.ref a_REQUEST_TIMEOUT), .null, .null, .null, .null, .null]) (by rfl) (by omega) at_138 (pc' := 139) rfl ?_
  intro h21 W21 o_b1_21
  have s21 : h21.size = h20.size := W21.size
  refine own_dup C at_139 rfl (pc' := 140) rfl ?_
  refine own_bipush C (v := (20 : Int32)) at_140 (by decide) (pc' := 142) rfl ?_
  have old21 := (old20.wr W21 (by omega))
  refine own_getstatic C (own_w hw 44 rfl) (S.2.2.2.2.2.2.2.2.2.2.2.2.2.2.2.2.2.2.2.2.1.1.ext old21.2) at_142 (pc' := 145) rfl ?_
  refine own_aastore C o_b1_21 rfl (o_b1_21.sto (by decide) (Ins.self (S.2.2.2.2.2.2.2.2.2.2.2.2.2.2.2.2.2.2.2.2.1.2.ext old21.2).1)) (by decide) (of_decide_eq_true rfl) (vs' := [(.ref a_MISSING_API_KEY), (.ref a_MISSING_TOKEN), (.ref a_INVALID_API_KEY), (.ref a_MALFORMED_AUTHORIZATION), (.ref a_INVALID_TOKEN), (.ref a_INSUFFICIENT_SCOPE), (.ref a_INSUFFICIENT_KEY_SCOPE), (.ref a_RATE_LIMITED), (.ref a_LOCKED), (.ref a_DOT_SEGMENT), (.ref a_AMBIGUOUS_PATH), (.ref a_UNFORWARDABLE), (.ref a_NO_ROUTE), (.ref a_BODY_TOO_LARGE), (.ref a_CONNECTION_REFUSED), (.ref a_NO_ROUTE_TO_HOST), (.ref a_READ_TIMED_OUT), (.ref a_CONNECTION_RESET), (.ref a_MALFORMED_REQUEST), (.ref a_REQUEST_TIMEOUT), (.ref a_TARGET_TOO_LONG), .null, .null, .null, .null]) (by rfl) (by omega) at_145 (pc' := 146) rfl ?_
  intro h22 W22 o_b1_22
  have s22 : h22.size = h21.size := W22.size
  refine own_dup C at_146 rfl (pc' := 147) rfl ?_
  refine own_bipush C (v := (21 : Int32)) at_147 (by decide) (pc' := 149) rfl ?_
  have old22 := (old21.wr W22 (by omega))
  refine own_getstatic C (own_w hw 46 rfl) (S.2.2.2.2.2.2.2.2.2.2.2.2.2.2.2.2.2.2.2.2.2.1.1.ext old22.2) at_149 (pc' := 152) rfl ?_
  refine own_aastore C o_b1_22 rfl (o_b1_22.sto (by decide) (Ins.self (S.2.2.2.2.2.2.2.2.2.2.2.2.2.2.2.2.2.2.2.2.2.1.2.ext old22.2).1)) (by decide) (of_decide_eq_true rfl) (vs' := [(.ref a_MISSING_API_KEY), (.ref a_MISSING_TOKEN), (.ref a_INVALID_API_KEY), (.ref a_MALFORMED_AUTHORIZATION), (.ref a_INVALID_TOKEN), (.ref a_INSUFFICIENT_SCOPE), (.ref a_INSUFFICIENT_KEY_SCOPE), (.ref a_RATE_LIMITED), (.ref a_LOCKED), (.ref a_DOT_SEGMENT), (.ref a_AMBIGUOUS_PATH), (.ref a_UNFORWARDABLE), (.ref a_NO_ROUTE), (.ref a_BODY_TOO_LARGE), (.ref a_CONNECTION_REFUSED), (.ref a_NO_ROUTE_TO_HOST), (.ref a_READ_TIMED_OUT), (.ref a_CONNECTION_RESET), (.ref a_MALFORMED_REQUEST), (.ref a_REQUEST_TIMEOUT), (.ref a_TARGET_TOO_LONG), (.ref a_UNMET_EXPECTATION), .null, .null, .null]) (by rfl) (by omega) at_152 (pc' := 153) rfl ?_
  intro h23 W23 o_b1_23
  have s23 : h23.size = h22.size := W23.size
  refine own_dup C at_153 rfl (pc' := 154) rfl ?_
  refine own_bipush C (v := (22 : Int32)) at_154 (by decide) (pc' := 156) rfl ?_
  have old23 := (old22.wr W23 (by omega))
  refine own_getstatic C (own_w hw 48 rfl) (S.2.2.2.2.2.2.2.2.2.2.2.2.2.2.2.2.2.2.2.2.2.2.1.1.ext old23.2) at_156 (pc' := 159) rfl ?_
  refine own_aastore C o_b1_23 rfl (o_b1_23.sto (by decide) (Ins.self (S.2.2.2.2.2.2.2.2.2.2.2.2.2.2.2.2.2.2.2.2.2.2.1.2.ext old23.2).1)) (by decide) (of_decide_eq_true rfl) (vs' := [(.ref a_MISSING_API_KEY), (.ref a_MISSING_TOKEN), (.ref a_INVALID_API_KEY), (.ref a_MALFORMED_AUTHORIZATION), (.ref a_INVALID_TOKEN), (.ref a_INSUFFICIENT_SCOPE), (.ref a_INSUFFICIENT_KEY_SCOPE), (.ref a_RATE_LIMITED), (.ref a_LOCKED), (.ref a_DOT_SEGMENT), (.ref a_AMBIGUOUS_PATH), (.ref a_UNFORWARDABLE), (.ref a_NO_ROUTE), (.ref a_BODY_TOO_LARGE), (.ref a_CONNECTION_REFUSED), (.ref a_NO_ROUTE_TO_HOST), (.ref a_READ_TIMED_OUT), (.ref a_CONNECTION_RESET), (.ref a_MALFORMED_REQUEST), (.ref a_REQUEST_TIMEOUT), (.ref a_TARGET_TOO_LONG), (.ref a_UNMET_EXPECTATION), (.ref a_HEADERS_TOO_LARGE), .null, .null]) (by rfl) (by omega) at_159 (pc' := 160) rfl ?_
  intro h24 W24 o_b1_24
  have s24 : h24.size = h23.size := W24.size
  refine own_dup C at_160 rfl (pc' := 161) rfl ?_
  refine own_bipush C (v := (23 : Int32)) at_161 (by decide) (pc' := 163) rfl ?_
  have old24 := (old23.wr W24 (by omega))
  refine own_getstatic C (own_w hw 50 rfl) (S.2.2.2.2.2.2.2.2.2.2.2.2.2.2.2.2.2.2.2.2.2.2.2.1.1.ext old24.2) at_163 (pc' := 166) rfl ?_
  refine own_aastore C o_b1_24 rfl (o_b1_24.sto (by decide) (Ins.self (S.2.2.2.2.2.2.2.2.2.2.2.2.2.2.2.2.2.2.2.2.2.2.2.1.2.ext old24.2).1)) (by decide) (of_decide_eq_true rfl) (vs' := [(.ref a_MISSING_API_KEY), (.ref a_MISSING_TOKEN), (.ref a_INVALID_API_KEY), (.ref a_MALFORMED_AUTHORIZATION), (.ref a_INVALID_TOKEN), (.ref a_INSUFFICIENT_SCOPE), (.ref a_INSUFFICIENT_KEY_SCOPE), (.ref a_RATE_LIMITED), (.ref a_LOCKED), (.ref a_DOT_SEGMENT), (.ref a_AMBIGUOUS_PATH), (.ref a_UNFORWARDABLE), (.ref a_NO_ROUTE), (.ref a_BODY_TOO_LARGE), (.ref a_CONNECTION_REFUSED), (.ref a_NO_ROUTE_TO_HOST), (.ref a_READ_TIMED_OUT), (.ref a_CONNECTION_RESET), (.ref a_MALFORMED_REQUEST), (.ref a_REQUEST_TIMEOUT), (.ref a_TARGET_TOO_LONG), (.ref a_UNMET_EXPECTATION), (.ref a_HEADERS_TOO_LARGE), (.ref a_INTERNAL_ERROR), .null]) (by rfl) (by omega) at_166 (pc' := 167) rfl ?_
  intro h25 W25 o_b1_25
  have s25 : h25.size = h24.size := W25.size
  refine own_dup C at_167 rfl (pc' := 168) rfl ?_
  refine own_bipush C (v := (24 : Int32)) at_168 (by decide) (pc' := 170) rfl ?_
  have old25 := (old24.wr W25 (by omega))
  refine own_getstatic C (own_w hw 52 rfl) (S.2.2.2.2.2.2.2.2.2.2.2.2.2.2.2.2.2.2.2.2.2.2.2.2.1.ext old25.2) at_170 (pc' := 173) rfl ?_
  refine own_aastore C o_b1_25 rfl (o_b1_25.sto (by decide) (Ins.self (S.2.2.2.2.2.2.2.2.2.2.2.2.2.2.2.2.2.2.2.2.2.2.2.2.2.ext old25.2).1)) (by decide) (of_decide_eq_true rfl) (vs' := [(.ref a_MISSING_API_KEY), (.ref a_MISSING_TOKEN), (.ref a_INVALID_API_KEY), (.ref a_MALFORMED_AUTHORIZATION), (.ref a_INVALID_TOKEN), (.ref a_INSUFFICIENT_SCOPE), (.ref a_INSUFFICIENT_KEY_SCOPE), (.ref a_RATE_LIMITED), (.ref a_LOCKED), (.ref a_DOT_SEGMENT), (.ref a_AMBIGUOUS_PATH), (.ref a_UNFORWARDABLE), (.ref a_NO_ROUTE), (.ref a_BODY_TOO_LARGE), (.ref a_CONNECTION_REFUSED), (.ref a_NO_ROUTE_TO_HOST), (.ref a_READ_TIMED_OUT), (.ref a_CONNECTION_RESET), (.ref a_MALFORMED_REQUEST), (.ref a_REQUEST_TIMEOUT), (.ref a_TARGET_TOO_LONG), (.ref a_UNMET_EXPECTATION), (.ref a_HEADERS_TOO_LARGE), (.ref a_INTERNAL_ERROR), (.ref a_UNSUPPORTED_VERSION)]) (by rfl) (by omega) at_173 (pc' := 174) rfl ?_
  intro h26 W26 o_b1_26
  have s26 : h26.size = h25.size := W26.size
  refine own_astoreN C (Ls' := #[.val (.int x0), .val (.ref b1), .unset, .unset]) at_174 rfl rfl (pc' := 175) rfl ?_
  refine own_aloadN C at_175 rfl rfl (pc' := 176) rfl ?_
  refine own_iloadN C at_176 rfl (pc' := 177) rfl ?_
  refine own_ldc C (own_w hw 54 rfl) at_177 (pc' := 179) rfl ?_
  refine own_iand C at_179 rfl (pc' := 180) rfl ?_
  refine own_aloadN C at_180 rfl rfl (pc' := 181) rfl ?_
  refine own_arraylength C (z := (25 : Int32)) o_b1_26 (by rfl) at_181 (pc' := 182) rfl ?_
  refine own_irem C at_182 (by decide) rfl (pc' := 183) rfl ?_
  obtain ⟨g0, hg0⟩ : ∃ g, ([(.ref a_MISSING_API_KEY), (.ref a_MISSING_TOKEN), (.ref a_INVALID_API_KEY), (.ref a_MALFORMED_AUTHORIZATION), (.ref a_INVALID_TOKEN), (.ref a_INSUFFICIENT_SCOPE), (.ref a_INSUFFICIENT_KEY_SCOPE), (.ref a_RATE_LIMITED), (.ref a_LOCKED), (.ref a_DOT_SEGMENT), (.ref a_AMBIGUOUS_PATH), (.ref a_UNFORWARDABLE), (.ref a_NO_ROUTE), (.ref a_BODY_TOO_LARGE), (.ref a_CONNECTION_REFUSED), (.ref a_NO_ROUTE_TO_HOST), (.ref a_READ_TIMED_OUT), (.ref a_CONNECTION_RESET), (.ref a_MALFORMED_REQUEST), (.ref a_REQUEST_TIMEOUT), (.ref a_TARGET_TOO_LONG), (.ref a_UNMET_EXPECTATION), (.ref a_HEADERS_TOO_LARGE), (.ref a_INTERNAL_ERROR), (.ref a_UNSUPPORTED_VERSION)] : List Value)[(((x0 &&& (2147483647 : Int32)) % (25 : Int32))).toNatClampNeg]? = some (.ref g) := by
    rcases own_mod25 x0 with q | q | q | q | q | q | q | q | q | q | q | q | q | q | q | q | q | q | q | q | q | q | q | q | q
    all_goals (rw [q]; exact ⟨_, rfl⟩)
  have hj0 : ¬ (((x0 &&& (2147483647 : Int32)) % (25 : Int32))) < 0 := by
    rcases own_mod25 x0 with q | q | q | q | q | q | q | q | q | q | q | q | q | q | q | q | q | q | q | q | q | q | q | q | q
    all_goals (rw [q]; decide)
  refine own_aaload C o_b1_26 rfl hj0 hg0 at_183 (pc' := 184) rfl ?_
  refine own_astoreN C (Ls' := #[.val (.int x0), .val (.ref b1), .val (.ref g0), .unset]) at_184 rfl rfl (pc' := 185) rfl ?_
  refine own_aloadN C at_185 rfl rfl (pc' := 186) rfl ?_
  have old26 := (old25.wr W26 (by omega))
  refine own_callS C (own_c1_2 l hw S (by omega) old26 g0) (own_w hw 55 rfl) (own_w hw 56 rfl) (own_w hw 57 rfl) (own_w hw 58 rfl) (by decide) at_186 rfl (argsL := [(.ref g0)]) (rest := []) rfl (lenOf own_pd2 rfl) (W := 0) (Nat.le_of_eq rfl) (by decide) (by decide) (by decide) (by decide) (pc' := 189) rfl ?_
  rintro _ h27 ⟨b27_0, rfl, K27, l27_0, l27_1, o_b27_0_27⟩
  have s27 : h26.size ≤ h27.size := K27.1
  refine own_astoreN C (Ls' := #[.val (.int x0), .val (.ref b1), .val (.ref g0), .val (.ref b27_0)]) at_189 rfl rfl (pc' := 190) rfl ?_
  refine own_aloadN C at_190 rfl rfl (pc' := 191) rfl ?_
  refine own_nullN C at_191 (pc' := 194) rfl ?_
  refine own_aloadN C at_194 rfl rfl (pc' := 195) rfl ?_
  have old27 := (old26.keep K27 all0)
  refine own_callVp C o_b27_0_27.1 (own_c5_3 l hw S (by omega) old27 b27_0 g0 o_b27_0_27) (own_w hw 82 rfl) (own_w hw 83 rfl) (own_w hw 85 rfl) (own_w hw 84 rfl) (own_w hw 57 rfl) (own_w hw 86 rfl) (by decide) at_195 rfl (argsL := []) (rest := []) rfl (lenOf own_pd3 rfl) (W := 0) (Nat.le_of_eq rfl) (by decide) (by decide) (by decide) (by decide) (by decide) (by decide) (pc' := 198) rfl ?_
  refine own_aloadN C at_198 rfl rfl (pc' := 199) rfl ?_
  refine own_acmp C (same := true) at_199 rfl rfl (own_same _) (by decide) (pc' := 202) (by decide) ?_
  refine own_aloadN C at_202 rfl rfl (pc' := 203) rfl ?_
  refine own_callVp C o_b27_0_27.1 (own_c6_4 l hw S (by omega) old27 b27_0 g0 o_b27_0_27) (own_w hw 87 rfl) (own_w hw 88 rfl) (own_w hw 90 rfl) (own_w hw 89 rfl) (own_w hw 57 rfl) (own_w hw 91 rfl) (by decide) at_203 rfl (argsL := []) (rest := []) rfl (lenOf own_pd4 rfl) (W := 0) (Nat.le_of_eq rfl) (by decide) (by decide) (by decide) (by decide) (by decide) (by decide) (pc' := 206) rfl ?_
  refine own_nonnullN C at_206 (pc' := 209) rfl ?_
  refine own_aloadN C at_209 rfl rfl (pc' := 210) rfl ?_
  refine own_callVp C o_b27_0_27.1 (own_c7_5 l hw S (by omega) old27 b27_0 g0 o_b27_0_27) (own_w hw 92 rfl) (own_w hw 93 rfl) (own_w hw 95 rfl) (own_w hw 94 rfl) (own_w hw 57 rfl) (own_w hw 96 rfl) (by decide) at_210 rfl (argsL := []) (rest := []) rfl (lenOf own_pd5 rfl) (W := 0) (Nat.le_of_eq rfl) (by decide) (by decide) (by decide) (by decide) (by decide) (by decide) (pc' := 213) rfl ?_
  refine own_nonnullN C at_213 (pc' := 216) rfl ?_
  refine own_aloadN C at_216 rfl rfl (pc' := 217) rfl ?_
  refine own_callVp C o_b27_0_27.1 (own_c8_6 l hw S (by omega) old27 b27_0 g0 o_b27_0_27) (own_w hw 97 rfl) (own_w hw 98 rfl) (own_w hw 100 rfl) (own_w hw 99 rfl) (own_w hw 57 rfl) (own_w hw 101 rfl) (by decide) at_217 rfl (argsL := []) (rest := []) rfl (lenOf own_pd6 rfl) (W := 0) (Nat.le_of_eq rfl) (by decide) (by decide) (by decide) (by decide) (by decide) (by decide) (pc' := 220) rfl ?_
  refine own_nonnullN C at_220 (pc' := 223) rfl ?_
  refine own_aloadN C at_223 rfl rfl (pc' := 224) rfl ?_
  refine own_callVp C o_b27_0_27.1 (own_c9_7 l hw S (by omega) old27 b27_0 g0 o_b27_0_27) (own_w hw 102 rfl) (own_w hw 103 rfl) (own_w hw 105 rfl) (own_w hw 104 rfl) (own_w hw 57 rfl) (own_w hw 106 rfl) (by decide) at_224 rfl (argsL := []) (rest := []) rfl (lenOf own_pd6 rfl) (W := 0) (Nat.le_of_eq rfl) (by decide) (by decide) (by decide) (by decide) (by decide) (by decide) (pc' := 227) rfl ?_
  refine own_nonnullN C at_227 (pc' := 230) rfl ?_
  refine own_aloadN C at_230 rfl rfl (pc' := 231) rfl ?_
  refine own_callVp C o_b27_0_27.1 (own_c10_8 l hw S (by omega) old27 b27_0 g0 o_b27_0_27) (own_w hw 107 rfl) (own_w hw 108 rfl) (own_w hw 110 rfl) (own_w hw 109 rfl) (own_w hw 57 rfl) (own_w hw 111 rfl) (by decide) at_231 rfl (argsL := []) (rest := []) rfl (lenOf own_pd7 rfl) (W := 0) (Nat.le_of_eq rfl) (by decide) (by decide) (by decide) (by decide) (by decide) (by decide) (pc' := 234) rfl ?_
  refine own_ifN C at_234 (by decide) (pc' := 237) rfl ?_
  refine own_iconst C (v := (1 : Int32)) at_237 (by decide) (pc' := 238) rfl ?_
  refine own_goto C at_238 (by decide) (pc' := 242) (by decide) ?_
  exact own_ireturn C (by simp) rfl at_242 (by decide) (by decide) rfl
theorem own_comes {Post : Tables → Env → Array Value → State → Outcome → State → Prop} (hpost : ∀ tb e args s v u, (limb_1_1.after args s (.returned v) u = true ∧ limb_1_2.after args s (.returned v) u = true ∧ True) → FrameEnd s (.returned v) u (Jvm.fieldLocs frame_1_writes args s ++ Jvm.arrayLocs frame_1_arrays args s ++ Jvm.staticLocs frame_1_statics s) 16 128 → Post tb e args s (.returned v) u) :
    ArmFor flags0 classFile x code maxLocals ret World_1 tables_1 room_1 Calls_1 rest_1 Pre_1 Post := by
  intro l hfl _ _ p e ha hc hk s m args below hf hA hF happ hP
  obtain ⟨hcalls, hrest, hpre⟩ := hP
  obtain ⟨-, -, -, hnamed, -, -, -, hat⟩ := (Spec.applies_iff hf).mp happ
  obtain ⟨hg, hn⟩ := and_e (Cond.before_iff.mp (show (Jvm.Cond.and given_1 narrow_1).before args s = true from hpre))
  obtain ⟨g0, hg⟩ := and_e hg
  obtain ⟨w0, rfl⟩ : ∃ w0 : Value, args = #[w0] := by
    have hs : args.size = 1 := by simpa [Cond.value, given_1] using g0
    obtain ⟨L⟩ := args
    match L, hs with
    | [w0], _ => exact ⟨w0, rfl⟩
  obtain ⟨x0, e0⟩ := is_v hg
  obtain rfl : w0 = (.int x0) := Option.some.inj e0
  have hw := fun d (hd : d ∈ tables_1) => atoms_spec (ws := Jvm.Cond.code x code maxLocals ret :: tables_1) hat d (List.mem_cons_of_mem _ hd)
  obtain ⟨q0, hn⟩ := and_e hn
  obtain ⟨q1, hn⟩ := and_e hn
  obtain ⟨q2, hn⟩ := and_e hn
  obtain ⟨q3, hn⟩ := and_e hn
  obtain ⟨q4, hn⟩ := and_e hn
  obtain ⟨q5, hn⟩ := and_e hn
  obtain ⟨q6, hn⟩ := and_e hn
  obtain ⟨q7, hn⟩ := and_e hn
  obtain ⟨q8, hn⟩ := and_e hn
  obtain ⟨q9, hn⟩ := and_e hn
  obtain ⟨q10, hn⟩ := and_e hn
  obtain ⟨q11, hn⟩ := and_e hn
  obtain ⟨q12, hn⟩ := and_e hn
  obtain ⟨q13, hn⟩ := and_e hn
  obtain ⟨q14, hn⟩ := and_e hn
  obtain ⟨q15, hn⟩ := and_e hn
  obtain ⟨q16, hn⟩ := and_e hn
  obtain ⟨q17, hn⟩ := and_e hn
  obtain ⟨q18, hn⟩ := and_e hn
  obtain ⟨q19, hn⟩ := and_e hn
  obtain ⟨q20, hn⟩ := and_e hn
  obtain ⟨q21, hn⟩ := and_e hn
  obtain ⟨q22, hn⟩ := and_e hn
  obtain ⟨q23, hn⟩ := and_e hn
  obtain ⟨a_MISSING_API_KEY, Ea_MISSING_API_KEY⟩ := own_exob q0 (own_w hw 3 rfl) (own_w hw 4 rfl)
  obtain ⟨a_MISSING_TOKEN, Ea_MISSING_TOKEN⟩ := own_exob q1 (own_w hw 3 rfl) (own_w hw 7 rfl)
  obtain ⟨a_INVALID_API_KEY, Ea_INVALID_API_KEY⟩ := own_exob q2 (own_w hw 3 rfl) (own_w hw 9 rfl)
  obtain ⟨a_MALFORMED_AUTHORIZATION, Ea_MALFORMED_AUTHORIZATION⟩ := own_exob q3 (own_w hw 3 rfl) (own_w hw 11 rfl)
  obtain ⟨a_INVALID_TOKEN, Ea_INVALID_TOKEN⟩ := own_exob q4 (own_w hw 3 rfl) (own_w hw 13 rfl)
  obtain ⟨a_INSUFFICIENT_SCOPE, Ea_INSUFFICIENT_SCOPE⟩ := own_exob q5 (own_w hw 3 rfl) (own_w hw 15 rfl)
  obtain ⟨a_INSUFFICIENT_KEY_SCOPE, Ea_INSUFFICIENT_KEY_SCOPE⟩ := own_exob q6 (own_w hw 3 rfl) (own_w hw 17 rfl)
  obtain ⟨a_RATE_LIMITED, Ea_RATE_LIMITED⟩ := own_exob q7 (own_w hw 3 rfl) (own_w hw 19 rfl)
  obtain ⟨a_LOCKED, Ea_LOCKED⟩ := own_exob q8 (own_w hw 3 rfl) (own_w hw 21 rfl)
  obtain ⟨a_DOT_SEGMENT, Ea_DOT_SEGMENT⟩ := own_exob q9 (own_w hw 3 rfl) (own_w hw 23 rfl)
  obtain ⟨a_AMBIGUOUS_PATH, Ea_AMBIGUOUS_PATH⟩ := own_exob q10 (own_w hw 3 rfl) (own_w hw 25 rfl)
  obtain ⟨a_UNFORWARDABLE, Ea_UNFORWARDABLE⟩ := own_exob q11 (own_w hw 3 rfl) (own_w hw 27 rfl)
  obtain ⟨a_NO_ROUTE, Ea_NO_ROUTE⟩ := own_exob q12 (own_w hw 3 rfl) (own_w hw 29 rfl)
  obtain ⟨a_BODY_TOO_LARGE, Ea_BODY_TOO_LARGE⟩ := own_exob q13 (own_w hw 3 rfl) (own_w hw 31 rfl)
  obtain ⟨a_CONNECTION_REFUSED, Ea_CONNECTION_REFUSED⟩ := own_exob q14 (own_w hw 3 rfl) (own_w hw 33 rfl)
  obtain ⟨a_NO_ROUTE_TO_HOST, Ea_NO_ROUTE_TO_HOST⟩ := own_exob q15 (own_w hw 3 rfl) (own_w hw 35 rfl)
  obtain ⟨a_READ_TIMED_OUT, Ea_READ_TIMED_OUT⟩ := own_exob q16 (own_w hw 3 rfl) (own_w hw 37 rfl)
  obtain ⟨a_CONNECTION_RESET, Ea_CONNECTION_RESET⟩ := own_exob q17 (own_w hw 3 rfl) (own_w hw 39 rfl)
  obtain ⟨a_MALFORMED_REQUEST, Ea_MALFORMED_REQUEST⟩ := own_exob q18 (own_w hw 3 rfl) (own_w hw 41 rfl)
  obtain ⟨a_REQUEST_TIMEOUT, Ea_REQUEST_TIMEOUT⟩ := own_exob q19 (own_w hw 3 rfl) (own_w hw 43 rfl)
  obtain ⟨a_TARGET_TOO_LONG, Ea_TARGET_TOO_LONG⟩ := own_exob q20 (own_w hw 3 rfl) (own_w hw 45 rfl)
  obtain ⟨a_UNMET_EXPECTATION, Ea_UNMET_EXPECTATION⟩ := own_exob q21 (own_w hw 3 rfl) (own_w hw 47 rfl)
  obtain ⟨a_HEADERS_TOO_LARGE, Ea_HEADERS_TOO_LARGE⟩ := own_exob q22 (own_w hw 3 rfl) (own_w hw 49 rfl)
  obtain ⟨a_INTERNAL_ERROR, Ea_INTERNAL_ERROR⟩ := own_exob q23 (own_w hw 3 rfl) (own_w hw 51 rfl)
  obtain ⟨a_UNSUPPORTED_VERSION, Ea_UNSUPPORTED_VERSION⟩ := own_exob hn (own_w hw 3 rfl) (own_w hw 53 rfl)
  obtain ⟨n, o, h1, h2, h3, _, L, rfl, ⟨rfl, N⟩, hq⟩ := own_law l hw (n0 := s.heap.size) ⟨Ea_MISSING_API_KEY, Ea_MISSING_TOKEN, Ea_INVALID_API_KEY, Ea_MALFORMED_AUTHORIZATION, Ea_INVALID_TOKEN, Ea_INSUFFICIENT_SCOPE, Ea_INSUFFICIENT_KEY_SCOPE, Ea_RATE_LIMITED, Ea_LOCKED, Ea_DOT_SEGMENT, Ea_AMBIGUOUS_PATH, Ea_UNFORWARDABLE, Ea_NO_ROUTE, Ea_BODY_TOO_LARGE, Ea_CONNECTION_REFUSED, Ea_NO_ROUTE_TO_HOST, Ea_READ_TIMED_OUT, Ea_CONNECTION_RESET, Ea_MALFORMED_REQUEST, Ea_REQUEST_TIMEOUT, Ea_TARGET_TOO_LONG, Ea_UNMET_EXPECTATION, Ea_HEADERS_TOO_LARGE, Ea_INTERNAL_ERROR, Ea_UNSUPPORTED_VERSION⟩ (Nat.le_refl _) (Old.start s) x0 p e ha hc hk s m _ below hf ((Spec.applies_iff_loose hf).mp happ).1 ⟨rfl, State.Warmed39.refl s, rfl⟩ trivial
  exact ⟨n, _, h1, h2, h3, hpost _ _ _ _ _ _ ⟨Cond.after_iff.mpr rfl, Cond.after_iff.mpr (eq_i res_at (Term.int_eval (1)) rfl), trivial⟩ ⟨hq.1, hq.2.1, (hq.2.2.sift fun y hy => Or.inr (N y hy)).mono (by decide) (by decide)⟩⟩
theorem main_1_1 : Claimed_1_1 := own_comes fun _ _ _ _ _ _ h hF => ⟨h.1, hF⟩
theorem main_1_2 : Claimed_1_2 := own_comes fun _ _ _ _ _ _ h hF => ⟨h.2.1, hF⟩
end Jvm.Pilot.@@N@@
namespace Jvm.Pilot.@@N@@
open Jvm Jvm.ClassFile Sem Op Lib Jvm.Free Jvm.Stand Jvm.Pilot.@@N@@.Jvm.D
/-! MADE BY PROGRAM (witnessworld.py) out of the Statement's table words and the real class files: 15 classes; the members and pool entries that the words name. The judged class is class 1, her method 1. -/
namespace start1
open Jvm.ClassFile
def u (s : String) : CpInfo := .utf8 (stringToUtf16 s)
/-- a pool by its gaps: so many unusable entries, then the entry; so many at the end -/
def gap : Nat → List CpInfo → List CpInfo
  | 0, r => r
  | n + 1, r => .unusable :: gap n r
def poolList (es : List (Nat × CpInfo)) (last : Nat) : List CpInfo := es.foldr (fun e r => gap e.1 (e.2 :: r)) (gap last [])
def pool (es : List (Nat × CpInfo)) (last : Nat) : Array CpInfo := ⟨poolList es last⟩
def fileOf (pool : Array CpInfo) (this : Nat) (attrs : Array Attribute := #[]) (ms : Array MethodInfo := #[]) (fl : Nat := 33) (sup : Nat := 0) (ifs : Array Nat := #[]) (fds : Array FieldInfo := #[]) : ClassFile where
  minorVersion := 0
  majorVersion := 65
  constantPool := pool
  accessFlags := fl
  thisClass := this
  superClass := sup
  interfaces := ifs
  fields := fds
  methods := ms
  attributes := attrs
def plain (name : String) (sup : Option ClassId) : Class where
  name := name
  kind := .ordinary
  loader := none
  accessFlags := 33
  super := sup
  interfaces := #[]
  cf := none
  fields := #[]
  methods := #[]
  instanceTypes := #[]
  staticTypes := #[]
  resolved := #[]
  callSites := []
  init := .initialized
  statics := none
  mirror := none

def pool0 : Array CpInfo := pool [(5, u "<init>"), (0, u "()V"), (1, .class_ 10), (1, u "java/lang/Object")] 113

def k0c0 : Code := { maxStack := 0, maxLocals := 1, code := object_method_1_code, exceptionTable := #[], attributes := #[] }
def k0m0 : Method := { name := "<init>", desc := "()V", sig := { parameters := [], returnType := none }, accessFlags := 1, code := some k0c0 }
/-- java/lang/Object -/
def k0 : Class := { plain "java/lang/Object" none with
  accessFlags := 33
  interfaces := #[]
  cf := some (fileOf pool0 8 #[] #[{ accessFlags := 1, nameIndex := 5, descriptorIndex := 6, attributes := #[] }] 33 0 #[] #[])
  fields := #[]
  methods := #[k0m0]
  instanceTypes := #[]
  staticTypes := #[]
  resolved := Array.replicate 124 none
  statics := none }

def pool1 : Array CpInfo := pool [(2, .class_ 4), (1, u "java/lang/Object"), (0, u "<init>"), (0, u "()V"), (0, .class_ 8), (0, u "com/example/valet3/valet3/core/Refusal"), (0, .fieldref 7 10), (0, .nameAndType 11 12), (0, u "MISSING_API_KEY"), (0, u "Lcom/example/valet3/valet3/core/Refusal;"), (0, .fieldref 7 14), (0, .nameAndType 15 12), (0, u "MISSING_TOKEN"), (0, .fieldref 7 17), (0, .nameAndType 18 12), (0, u "INVALID_API_KEY"), (0, .fieldref 7 20), (0, .nameAndType 21 12), (0, u "MALFORMED_AUTHORIZATION"), (0, .fieldref 7 23), (0, .nameAndType 24 12), (0, u "INVALID_TOKEN"), (0, .fieldref 7 26), (0, .nameAndType 27 12), (0, u "INSUFFICIENT_SCOPE"), (0, .fieldref 7 29), (0, .nameAndType 30 12), (0, u "INSUFFICIENT_KEY_SCOPE"), (0, .fieldref 7 32), (0, .nameAndType 33 12), (0, u "RATE_LIMITED"), (0, .fieldref 7 35), (0, .nameAndType 36 12), (0, u "LOCKED"), (0, .fieldref 7 38), (0, .nameAndType 39 12), (0, u "DOT_SEGMENT"), (0, .fieldref 7 41), (0, .nameAndType 42 12), (0, u "AMBIGUOUS_PATH"), (0, .fieldref 7 44), (0, .nameAndType 45 12), (0, u "UNFORWARDABLE"), (0, .fieldref 7 47), (0, .nameAndType 48 12), (0, u "NO_ROUTE"), (0, .fieldref 7 50), (0, .nameAndType 51 12), (0, u "BODY_TOO_LARGE"), (0, .fieldref 7 53), (0, .nameAndType 54 12), (0, u "CONNECTION_REFUSED"), (0, .fieldref 7 56), (0, .nameAndType 57 12), (0, u "NO_ROUTE_TO_HOST"), (0, .fieldref 7 59), (0, .nameAndType 60 12), (0, u "READ_TIMED_OUT"), (0, .fieldref 7 62), (0, .nameAndType 63 12), (0, u "CONNECTION_RESET"), (0, .fieldref 7 65), (0, .nameAndType 66 12), (0, u "MALFORMED_REQUEST"), (0, .fieldref 7 68), (0, .nameAndType 69 12), (0, u "REQUEST_TIMEOUT"), (0, .fieldref 7 71), (0, .nameAndType 72 12), (0, u "TARGET_TOO_LONG"), (0, .fieldref 7 74), (0, .nameAndType 75 12), (0, u "UNMET_EXPECTATION"), (0, .fieldref 7 77), (0, .nameAndType 78 12), (0, u "HEADERS_TOO_LARGE"), (0, .fieldref 7 80), (0, .nameAndType 81 12), (0, u "INTERNAL_ERROR"), (0, .fieldref 7 83), (0, .nameAndType 84 12), (0, u "UNSUPPORTED_VERSION"), (0, .integer 2147483647), (0, .methodref 87 88), (0, .class_ 89), (0, .nameAndType 90 91), (0, u "com/example/valet3/valet3/core/Routing"), (0, u "refuse"), (0, u "(Lcom/example/valet3/valet3/core/Refusal;)Lcom/example/valet3/valet3/core/Routing;"), (0, .methodref 87 93), (0, .nameAndType 94 95), (0, u "refusal"), (0, u "()Lcom/example/valet3/valet3/core/Refusal;"), (0, .methodref 87 97), (0, .nameAndType 98 99), (0, u "endpoint"), (0, u "()Lcom/example/valet3/valet3/core/Endpoint;"), (0, .methodref 87 101), (0, .nameAndType 102 103), (0, u "route"), (0, u "()Lcom/example/valet3/valet3/core/Route;"), (0, .methodref 87 105), (0, .nameAndType 106 107), (0, u "backend"), (0, u "()Ljava/lang/String;"), (0, .methodref 87 109), (0, .nameAndType 110 107), (0, u "rest"), (0, .methodref 87 112), (0, .nameAndType 113 114), (0, u "isRefused"), (0, u "()Z"), (0, .class_ 116), (0, u "com/example/valet3/valet3/core/RoutingRefusePinLaw"), (2, u "law"), (0, u "(I)Z")] 5

def k1m0 : Method := { name := "<init>", desc := "()V", sig := { parameters := [], returnType := none }, accessFlags := 1, code := none }
def k1c1 : Code := { maxStack := 4, maxLocals := 4, code := code, exceptionTable := #[], attributes := #[] }
def k1m1 : Method := { name := "law", desc := "(I)Z", sig := { parameters := [.int], returnType := some .boolean }, accessFlags := 9, code := some k1c1 }
/-- com/example/valet3/valet3/core/RoutingRefusePinLaw -/
def k1 : Class := { plain "com/example/valet3/valet3/core/RoutingRefusePinLaw" (some 0) with
  accessFlags := 49
  interfaces := #[]
  cf := some (fileOf pool1 115 #[] #[{ accessFlags := 1, nameIndex := 5, descriptorIndex := 6, attributes := #[] }, { accessFlags := 9, nameIndex := 119, descriptorIndex := 120, attributes := #[] }] 49 2 #[] #[])
  fields := #[]
  methods := #[k1m0, k1m1]
  instanceTypes := #[]
  staticTypes := #[]
  resolved := Array.replicate 126 none
  statics := none }

def pool2 : Array CpInfo := pool [(1, .class_ 2), (0, u "java/lang/constant/Constable"), (0, .class_ 4), (0, u "java/lang/Object")] 6

/-- java/lang/constant/Constable -/
def k2 : Class := { plain "java/lang/constant/Constable" (some 0) with
  accessFlags := 1537
  interfaces := #[]
  cf := some (fileOf pool2 1 #[] #[] 1537 3 #[] #[])
  fields := #[]
  methods := #[]
  instanceTypes := #[]
  staticTypes := #[]
  resolved := Array.replicate 11 none
  statics := none }

def pool3 : Array CpInfo := pool [(1, .class_ 2), (0, u "java/lang/Comparable"), (0, .class_ 4), (0, u "java/lang/Object")] 7

/-- java/lang/Comparable -/
def k3 : Class := { plain "java/lang/Comparable" (some 0) with
  accessFlags := 1537
  interfaces := #[]
  cf := some (fileOf pool3 1 #[] #[] 1537 3 #[] #[])
  fields := #[]
  methods := #[]
  instanceTypes := #[]
  staticTypes := #[]
  resolved := Array.replicate 12 none
  statics := none }

def pool4 : Array CpInfo := pool [(1, .class_ 2), (0, u "java/io/Serializable"), (0, .class_ 4), (0, u "java/lang/Object")] 2

/-- java/io/Serializable -/
def k4 : Class := { plain "java/io/Serializable" (some 0) with
  accessFlags := 1537
  interfaces := #[]
  cf := some (fileOf pool4 1 #[] #[] 1537 3 #[] #[])
  fields := #[]
  methods := #[]
  instanceTypes := #[]
  staticTypes := #[]
  resolved := Array.replicate 7 none
  statics := none }

def pool5 : Array CpInfo := pool [(2, .class_ 4), (1, u "java/lang/Enum"), (0, u "name"), (0, u "Ljava/lang/String;"), (2, u "ordinal"), (0, u "I"), (1, .class_ 14), (1, u "java/lang/Object"), (4, u "hash"), (86, .class_ 108), (1, u "java/lang/Enum$EnumDesc"), (2, .class_ 112), (0, u "java/lang/constant/Constable"), (0, .class_ 114), (0, u "java/lang/Comparable"), (0, .class_ 116), (0, u "java/io/Serializable")] 87

/-- java/lang/Enum -/
def k5 : Class := { plain "java/lang/Enum" (some 0) with
  accessFlags := 1057
  interfaces := #[2, 3, 4]
  cf := some (fileOf pool5 2 #[.nestMembers #[106]] #[] 1057 12 #[111, 113, 115] #[{ accessFlags := 18, nameIndex := 5, descriptorIndex := 6, attributes := #[] }, { accessFlags := 18, nameIndex := 9, descriptorIndex := 10, attributes := #[] }, { accessFlags := 2, nameIndex := 19, descriptorIndex := 10, attributes := #[] }])
  fields := #[{ name := "name", type := (.object "java/lang/String"), accessFlags := 18, slot := 0, constantValue := 0 }, { name := "ordinal", type := .int, accessFlags := 18, slot := 1, constantValue := 0 }, { name := "hash", type := .int, accessFlags := 2, slot := 2, constantValue := 0 }]
  methods := #[]
  instanceTypes := #[(.object "java/lang/String"), .int, .int]
  staticTypes := #[]
  resolved := Array.replicate 204 none
  statics := none }

def pool6 : Array CpInfo := pool [(1, .class_ 2), (0, u "com/example/valet3/valet3/core/Refusal"), (2, u "MISSING_API_KEY"), (0, u "Lcom/example/valet3/valet3/core/Refusal;"), (2, u "MISSING_TOKEN"), (2, u "INVALID_API_KEY"), (2, u "MALFORMED_AUTHORIZATION"), (2, u "INVALID_TOKEN"), (2, u "INSUFFICIENT_SCOPE"), (2, u "INSUFFICIENT_KEY_SCOPE"), (2, u "RATE_LIMITED"), (2, u "LOCKED"), (2, u "DOT_SEGMENT"), (2, u "AMBIGUOUS_PATH"), (2, u "UNFORWARDABLE"), (2, u "NO_ROUTE"), (2, u "BODY_TOO_LARGE"), (2, u "CONNECTION_REFUSED"), (2, u "NO_ROUTE_TO_HOST"), (2, u "READ_TIMED_OUT"), (2, u "CONNECTION_RESET"), (2, u "MALFORMED_REQUEST"), (2, u "REQUEST_TIMEOUT"), (2, u "TARGET_TOO_LONG"), (2, u "UNMET_EXPECTATION"), (2, u "HEADERS_TOO_LARGE"), (2, u "INTERNAL_ERROR"), (2, u "UNSUPPORTED_VERSION"), (2, u "$VALUES"), (0, u "[Lcom/example/valet3/valet3/core/Refusal;"), (6, .class_ 91), (1, u "java/lang/Enum"), (8, u "status"), (0, u "I"), (2, u "reason"), (0, u "Ljava/lang/String;"), (2, u "message"), (2, u "bearerError")] 196

/-- com/example/valet3/valet3/core/Refusal -/
def k6 : Class := { plain "com/example/valet3/valet3/core/Refusal" (some 5) with
  accessFlags := 16433
  interfaces := #[]
  cf := some (fileOf pool6 1 #[] #[] 16433 89 #[] #[{ accessFlags := 16409, nameIndex := 5, descriptorIndex := 6, attributes := #[] }, { accessFlags := 16409, nameIndex := 9, descriptorIndex := 6, attributes := #[] }, { accessFlags := 16409, nameIndex := 12, descriptorIndex := 6, attributes := #[] }, { accessFlags := 16409, nameIndex := 15, descriptorIndex := 6, attributes := #[] }, { accessFlags := 16409, nameIndex := 18, descriptorIndex := 6, attributes := #[] }, { accessFlags := 16409, nameIndex := 21, descriptorIndex := 6, attributes := #[] }, { accessFlags := 16409, nameIndex := 24, descriptorIndex := 6, attributes := #[] }, { accessFlags := 16409, nameIndex := 27, descriptorIndex := 6, attributes := #[] }, { accessFlags := 16409, nameIndex := 30, descriptorIndex := 6, attributes := #[] }, { accessFlags := 16409, nameIndex := 33, descriptorIndex := 6, attributes := #[] }, { accessFlags := 16409, nameIndex := 36, descriptorIndex := 6, attributes := #[] }, { accessFlags := 16409, nameIndex := 39, descriptorIndex := 6, attributes := #[] }, { accessFlags := 16409, nameIndex := 42, descriptorIndex := 6, attributes := #[] }, { accessFlags := 16409, nameIndex := 45, descriptorIndex := 6, attributes := #[] }, { accessFlags := 16409, nameIndex := 48, descriptorIndex := 6, attributes := #[] }, { accessFlags := 16409, nameIndex := 51, descriptorIndex := 6, attributes := #[] }, { accessFlags := 16409, nameIndex := 54, descriptorIndex := 6, attributes := #[] }, { accessFlags := 16409, nameIndex := 57, descriptorIndex := 6, attributes := #[] }, { accessFlags := 16409, nameIndex := 60, descriptorIndex := 6, attributes := #[] }, { accessFlags := 16409, nameIndex := 63, descriptorIndex := 6, attributes := #[] }, { accessFlags := 16409, nameIndex := 66, descriptorIndex := 6, attributes := #[] }, { accessFlags := 16409, nameIndex := 69, descriptorIndex := 6, attributes := #[] }, { accessFlags := 16409, nameIndex := 72, descriptorIndex := 6, attributes := #[] }, { accessFlags := 16409, nameIndex := 75, descriptorIndex := 6, attributes := #[] }, { accessFlags := 16409, nameIndex := 78, descriptorIndex := 6, attributes := #[] }, { accessFlags := 18, nameIndex := 100, descriptorIndex := 101, attributes := #[] }, { accessFlags := 18, nameIndex := 104, descriptorIndex := 105, attributes := #[] }, { accessFlags := 18, nameIndex := 108, descriptorIndex := 105, attributes := #[] }, { accessFlags := 18, nameIndex := 111, descriptorIndex := 105, attributes := #[] }, { accessFlags := 4122, nameIndex := 81, descriptorIndex := 82, attributes := #[] }])
  fields := #[{ name := "MISSING_API_KEY", type := (.object "com/example/valet3/valet3/core/Refusal"), accessFlags := 16409, slot := 0, constantValue := 0 }, { name := "MISSING_TOKEN", type := (.object "com/example/valet3/valet3/core/Refusal"), accessFlags := 16409, slot := 1, constantValue := 0 }, { name := "INVALID_API_KEY", type := (.object "com/example/valet3/valet3/core/Refusal"), accessFlags := 16409, slot := 2, constantValue := 0 }, { name := "MALFORMED_AUTHORIZATION", type := (.object "com/example/valet3/valet3/core/Refusal"), accessFlags := 16409, slot := 3, constantValue := 0 }, { name := "INVALID_TOKEN", type := (.object "com/example/valet3/valet3/core/Refusal"), accessFlags := 16409, slot := 4, constantValue := 0 }, { name := "INSUFFICIENT_SCOPE", type := (.object "com/example/valet3/valet3/core/Refusal"), accessFlags := 16409, slot := 5, constantValue := 0 }, { name := "INSUFFICIENT_KEY_SCOPE", type := (.object "com/example/valet3/valet3/core/Refusal"), accessFlags := 16409, slot := 6, constantValue := 0 }, { name := "RATE_LIMITED", type := (.object "com/example/valet3/valet3/core/Refusal"), accessFlags := 16409, slot := 7, constantValue := 0 }, { name := "LOCKED", type := (.object "com/example/valet3/valet3/core/Refusal"), accessFlags := 16409, slot := 8, constantValue := 0 }, { name := "DOT_SEGMENT", type := (.object "com/example/valet3/valet3/core/Refusal"), accessFlags := 16409, slot := 9, constantValue := 0 }, { name := "AMBIGUOUS_PATH", type := (.object "com/example/valet3/valet3/core/Refusal"), accessFlags := 16409, slot := 10, constantValue := 0 }, { name := "UNFORWARDABLE", type := (.object "com/example/valet3/valet3/core/Refusal"), accessFlags := 16409, slot := 11, constantValue := 0 }, { name := "NO_ROUTE", type := (.object "com/example/valet3/valet3/core/Refusal"), accessFlags := 16409, slot := 12, constantValue := 0 }, { name := "BODY_TOO_LARGE", type := (.object "com/example/valet3/valet3/core/Refusal"), accessFlags := 16409, slot := 13, constantValue := 0 }, { name := "CONNECTION_REFUSED", type := (.object "com/example/valet3/valet3/core/Refusal"), accessFlags := 16409, slot := 14, constantValue := 0 }, { name := "NO_ROUTE_TO_HOST", type := (.object "com/example/valet3/valet3/core/Refusal"), accessFlags := 16409, slot := 15, constantValue := 0 }, { name := "READ_TIMED_OUT", type := (.object "com/example/valet3/valet3/core/Refusal"), accessFlags := 16409, slot := 16, constantValue := 0 }, { name := "CONNECTION_RESET", type := (.object "com/example/valet3/valet3/core/Refusal"), accessFlags := 16409, slot := 17, constantValue := 0 }, { name := "MALFORMED_REQUEST", type := (.object "com/example/valet3/valet3/core/Refusal"), accessFlags := 16409, slot := 18, constantValue := 0 }, { name := "REQUEST_TIMEOUT", type := (.object "com/example/valet3/valet3/core/Refusal"), accessFlags := 16409, slot := 19, constantValue := 0 }, { name := "TARGET_TOO_LONG", type := (.object "com/example/valet3/valet3/core/Refusal"), accessFlags := 16409, slot := 20, constantValue := 0 }, { name := "UNMET_EXPECTATION", type := (.object "com/example/valet3/valet3/core/Refusal"), accessFlags := 16409, slot := 21, constantValue := 0 }, { name := "HEADERS_TOO_LARGE", type := (.object "com/example/valet3/valet3/core/Refusal"), accessFlags := 16409, slot := 22, constantValue := 0 }, { name := "INTERNAL_ERROR", type := (.object "com/example/valet3/valet3/core/Refusal"), accessFlags := 16409, slot := 23, constantValue := 0 }, { name := "UNSUPPORTED_VERSION", type := (.object "com/example/valet3/valet3/core/Refusal"), accessFlags := 16409, slot := 24, constantValue := 0 }, { name := "status", type := .int, accessFlags := 18, slot := 3, constantValue := 0 }, { name := "reason", type := (.object "java/lang/String"), accessFlags := 18, slot := 4, constantValue := 0 }, { name := "message", type := (.object "java/lang/String"), accessFlags := 18, slot := 5, constantValue := 0 }, { name := "bearerError", type := (.object "java/lang/String"), accessFlags := 18, slot := 6, constantValue := 0 }, { name := "$VALUES", type := (.array (.object "com/example/valet3/valet3/core/Refusal")), accessFlags := 4122, slot := 25, constantValue := 0 }]
  methods := #[]
  instanceTypes := #[(.object "java/lang/String"), .int, .int, .int, (.object "java/lang/String"), (.object "java/lang/String"), (.object "java/lang/String")]
  staticTypes := #[(.object "com/example/valet3/valet3/core/Refusal"), (.object "com/example/valet3/valet3/core/Refusal"), (.object "com/example/valet3/valet3/core/Refusal"), (.object "com/example/valet3/valet3/core/Refusal"), (.object "com/example/valet3/valet3/core/Refusal"), (.object "com/example/valet3/valet3/core/Refusal"), (.object "com/example/valet3/valet3/core/Refusal"), (.object "com/example/valet3/valet3/core/Refusal"), (.object "com/example/valet3/valet3/core/Refusal"), (.object "com/example/valet3/valet3/core/Refusal"), (.object "com/example/valet3/valet3/core/Refusal"), (.object "com/example/valet3/valet3/core/Refusal"), (.object "com/example/valet3/valet3/core/Refusal"), (.object "com/example/valet3/valet3/core/Refusal"), (.object "com/example/valet3/valet3/core/Refusal"), (.object "com/example/valet3/valet3/core/Refusal"), (.object "com/example/valet3/valet3/core/Refusal"), (.object "com/example/valet3/valet3/core/Refusal"), (.object "com/example/valet3/valet3/core/Refusal"), (.object "com/example/valet3/valet3/core/Refusal"), (.object "com/example/valet3/valet3/core/Refusal"), (.object "com/example/valet3/valet3/core/Refusal"), (.object "com/example/valet3/valet3/core/Refusal"), (.object "com/example/valet3/valet3/core/Refusal"), (.object "com/example/valet3/valet3/core/Refusal"), (.array (.object "com/example/valet3/valet3/core/Refusal"))]
  resolved := Array.replicate 308 none
  statics := some 0 }

def pool7 : Array CpInfo := pool [(1, .methodref 2 3), (0, .class_ 4), (0, .nameAndType 5 6), (0, u "java/lang/Object"), (0, u "<init>"), (0, u "()V"), (0, .class_ 8), (0, u "java/lang/Record")] 13

def k7c0 : Code := { maxStack := 1, maxLocals := 1, code := jdk_30_method_1_code, exceptionTable := #[], attributes := #[] }
def k7m0 : Method := { name := "<init>", desc := "()V", sig := { parameters := [], returnType := none }, accessFlags := 4, code := some k7c0 }
/-- java/lang/Record -/
def k7 : Class := { plain "java/lang/Record" (some 0) with
  accessFlags := 1057
  interfaces := #[]
  cf := some (fileOf pool7 7 #[] #[{ accessFlags := 4, nameIndex := 5, descriptorIndex := 6, attributes := #[] }] 1057 2 #[] #[])
  fields := #[]
  methods := #[k7m0]
  instanceTypes := #[]
  staticTypes := #[]
  resolved := Array.replicate 22 none
  statics := none }

def pool8 : Array CpInfo := pool [(1, .methodref 2 3), (0, .class_ 4), (0, .nameAndType 5 6), (0, u "java/lang/Record"), (0, u "<init>"), (0, u "()V"), (0, .fieldref 8 9), (0, .class_ 10), (0, .nameAndType 11 12), (0, u "com/example/valet3/valet3/core/Routing"), (0, u "refusal"), (0, u "Lcom/example/valet3/valet3/core/Refusal;"), (0, .fieldref 8 14), (0, .nameAndType 15 16), (0, u "endpoint"), (0, u "Lcom/example/valet3/valet3/core/Endpoint;"), (0, .fieldref 8 18), (0, .nameAndType 19 20), (0, u "route"), (0, u "Lcom/example/valet3/valet3/core/Route;"), (0, .fieldref 8 22), (0, .nameAndType 23 24), (0, u "backend"), (0, u "Ljava/lang/String;"), (0, .fieldref 8 26), (0, .nameAndType 27 24), (0, u "rest"), (0, .methodref 8 29), (0, .nameAndType 5 30), (0, u "(Lcom/example/valet3/valet3/core/Refusal;Lcom/example/valet3/valet3/core/Endpoint;Lcom/example/valet3/valet3/core/Route;Ljava/lang/String;Ljava/lang/String;)V"), (15, u "refuse"), (0, u "(Lcom/example/valet3/valet3/core/Refusal;)Lcom/example/valet3/valet3/core/Routing;"), (3, u "isRefused"), (0, u "()Z"), (1, u "()Ljava/lang/String;"), (2, u "()Lcom/example/valet3/valet3/core/Refusal;"), (0, u "()Lcom/example/valet3/valet3/core/Endpoint;"), (0, u "()Lcom/example/valet3/valet3/core/Route;")] 24

def k8c0 : Code := { maxStack := 2, maxLocals := 6, code := prog_70_method_1_code, exceptionTable := #[], attributes := #[] }
def k8m0 : Method := { name := "<init>", desc := "(Lcom/example/valet3/valet3/core/Refusal;Lcom/example/valet3/valet3/core/Endpoint;Lcom/example/valet3/valet3/core/Route;Ljava/lang/String;Ljava/lang/String;)V", sig := { parameters := [(.object "com/example/valet3/valet3/core/Refusal"), (.object "com/example/valet3/valet3/core/Endpoint"), (.object "com/example/valet3/valet3/core/Route"), (.object "java/lang/String"), (.object "java/lang/String")], returnType := none }, accessFlags := 1, code := some k8c0 }
def k8c1 : Code := { maxStack := 7, maxLocals := 1, code := prog_70_method_2_code, exceptionTable := #[], attributes := #[] }
def k8m1 : Method := { name := "refuse", desc := "(Lcom/example/valet3/valet3/core/Refusal;)Lcom/example/valet3/valet3/core/Routing;", sig := { parameters := [(.object "com/example/valet3/valet3/core/Refusal")], returnType := some (.object "com/example/valet3/valet3/core/Routing") }, accessFlags := 8, code := some k8c1 }
def k8c2 : Code := { maxStack := 1, maxLocals := 1, code := prog_70_method_5_code, exceptionTable := #[], attributes := #[] }
def k8m2 : Method := { name := "isRefused", desc := "()Z", sig := { parameters := [], returnType := some .boolean }, accessFlags := 1, code := some k8c2 }
def k8c3 : Code := { maxStack := 1, maxLocals := 1, code := prog_70_method_9_code, exceptionTable := #[], attributes := #[] }
def k8m3 : Method := { name := "refusal", desc := "()Lcom/example/valet3/valet3/core/Refusal;", sig := { parameters := [], returnType := some (.object "com/example/valet3/valet3/core/Refusal") }, accessFlags := 1, code := some k8c3 }
def k8c4 : Code := { maxStack := 1, maxLocals := 1, code := prog_70_method_10_code, exceptionTable := #[], attributes := #[] }
def k8m4 : Method := { name := "endpoint", desc := "()Lcom/example/valet3/valet3/core/Endpoint;", sig := { parameters := [], returnType := some (.object "com/example/valet3/valet3/core/Endpoint") }, accessFlags := 1, code := some k8c4 }
def k8c5 : Code := { maxStack := 1, maxLocals := 1, code := prog_70_method_11_code, exceptionTable := #[], attributes := #[] }
def k8m5 : Method := { name := "route", desc := "()Lcom/example/valet3/valet3/core/Route;", sig := { parameters := [], returnType := some (.object "com/example/valet3/valet3/core/Route") }, accessFlags := 1, code := some k8c5 }
def k8c6 : Code := { maxStack := 1, maxLocals := 1, code := prog_70_method_12_code, exceptionTable := #[], attributes := #[] }
def k8m6 : Method := { name := "backend", desc := "()Ljava/lang/String;", sig := { parameters := [], returnType := some (.object "java/lang/String") }, accessFlags := 1, code := some k8c6 }
def k8c7 : Code := { maxStack := 1, maxLocals := 1, code := prog_70_method_13_code, exceptionTable := #[], attributes := #[] }
def k8m7 : Method := { name := "rest", desc := "()Ljava/lang/String;", sig := { parameters := [], returnType := some (.object "java/lang/String") }, accessFlags := 1, code := some k8c7 }
/-- com/example/valet3/valet3/core/Routing -/
def k8 : Class := { plain "com/example/valet3/valet3/core/Routing" (some 7) with
  accessFlags := 49
  interfaces := #[]
  cf := some (fileOf pool8 8 #[] #[{ accessFlags := 1, nameIndex := 5, descriptorIndex := 30, attributes := #[] }, { accessFlags := 8, nameIndex := 46, descriptorIndex := 47, attributes := #[] }, { accessFlags := 1, nameIndex := 51, descriptorIndex := 52, attributes := #[] }, { accessFlags := 1, nameIndex := 11, descriptorIndex := 57, attributes := #[] }, { accessFlags := 1, nameIndex := 15, descriptorIndex := 58, attributes := #[] }, { accessFlags := 1, nameIndex := 19, descriptorIndex := 59, attributes := #[] }, { accessFlags := 1, nameIndex := 23, descriptorIndex := 54, attributes := #[] }, { accessFlags := 1, nameIndex := 27, descriptorIndex := 54, attributes := #[] }] 49 2 #[] #[{ accessFlags := 18, nameIndex := 11, descriptorIndex := 12, attributes := #[] }, { accessFlags := 18, nameIndex := 15, descriptorIndex := 16, attributes := #[] }, { accessFlags := 18, nameIndex := 19, descriptorIndex := 20, attributes := #[] }, { accessFlags := 18, nameIndex := 23, descriptorIndex := 24, attributes := #[] }, { accessFlags := 18, nameIndex := 27, descriptorIndex := 24, attributes := #[] }])
  fields := #[{ name := "refusal", type := (.object "com/example/valet3/valet3/core/Refusal"), accessFlags := 18, slot := 0, constantValue := 0 }, { name := "endpoint", type := (.object "com/example/valet3/valet3/core/Endpoint"), accessFlags := 18, slot := 1, constantValue := 0 }, { name := "route", type := (.object "com/example/valet3/valet3/core/Route"), accessFlags := 18, slot := 2, constantValue := 0 }, { name := "backend", type := (.object "java/lang/String"), accessFlags := 18, slot := 3, constantValue := 0 }, { name := "rest", type := (.object "java/lang/String"), accessFlags := 18, slot := 4, constantValue := 0 }]
  methods := #[k8m0, k8m1, k8m2, k8m3, k8m4, k8m5, k8m6, k8m7]
  instanceTypes := #[(.object "com/example/valet3/valet3/core/Refusal"), (.object "com/example/valet3/valet3/core/Endpoint"), (.object "com/example/valet3/valet3/core/Route"), (.object "java/lang/String"), (.object "java/lang/String")]
  staticTypes := #[]
  resolved := Array.replicate 84 none
  statics := none }

def pool9 : Array CpInfo := pool [(1, u "java/lang/Cloneable"), (0, .class_ 1), (0, u "java/lang/Object"), (0, .class_ 3)] 3

/-- java/lang/Cloneable -/
def k9 : Class := { plain "java/lang/Cloneable" (some 0) with
  accessFlags := 1537
  interfaces := #[]
  cf := some (fileOf pool9 2 #[] #[] 1537 4 #[] #[])
  fields := #[]
  methods := #[]
  instanceTypes := #[]
  staticTypes := #[]
  resolved := Array.replicate 8 none
  statics := none }

/-- the primitive byte -/
def k10 : Class := { plain "byte" none with kind := .primitive 'B', accessFlags := 0x411 }
/-- [B -/
def k11 : Class := { plain "[B" (some 0) with kind := .array 10 .byte, interfaces := #[9, 4], accessFlags := 1041 }

/-- the primitive int -/
def k12 : Class := { plain "int" none with kind := .primitive 'I', accessFlags := 0x411 }
/-- [I -/
def k13 : Class := { plain "[I" (some 0) with kind := .array 12 .int, interfaces := #[9, 4], accessFlags := 1041 }

/-- [Lcom/example/valet3/valet3/core/Refusal; -/
def k14 : Class := { plain "[Lcom/example/valet3/valet3/core/Refusal;" (some 0) with kind := .array 6 (.object "com/example/valet3/valet3/core/Refusal"), interfaces := #[9, 4], accessFlags := 1041 }

def heap : Heap := #[{ cls := 6, slots := #[.ref 1, .ref 2, .ref 3, .ref 4, .ref 5, .ref 6, .ref 7, .ref 8, .ref 9, .ref 10, .ref 11, .ref 12, .ref 13, .ref 14, .ref 15, .ref 16, .ref 17, .ref 18, .ref 19, .ref 20, .ref 21, .ref 22, .ref 23, .ref 24, .ref 25, .null], vm := .statics 6 },
  { cls := 6, slots := #[.null, .int 0, .int 0, .int 400, .null, .null, .null], vm := .none },
  { cls := 6, slots := #[.null, .int 1, .int 0, .int 400, .null, .null, .null], vm := .none },
  { cls := 6, slots := #[.null, .int 2, .int 0, .int 400, .null, .null, .null], vm := .none },
  { cls := 6, slots := #[.null, .int 3, .int 0, .int 400, .null, .null, .null], vm := .none },
  { cls := 6, slots := #[.null, .int 4, .int 0, .int 400, .null, .null, .null], vm := .none },
  { cls := 6, slots := #[.null, .int 5, .int 0, .int 400, .null, .null, .null], vm := .none },
  { cls := 6, slots := #[.null, .int 6, .int 0, .int 400, .null, .null, .null], vm := .none },
  { cls := 6, slots := #[.null, .int 7, .int 0, .int 400, .null, .null, .null], vm := .none },
  { cls := 6, slots := #[.null, .int 8, .int 0, .int 400, .null, .null, .null], vm := .none },
  { cls := 6, slots := #[.null, .int 9, .int 0, .int 400, .null, .null, .null], vm := .none },
  { cls := 6, slots := #[.null, .int 10, .int 0, .int 400, .null, .null, .null], vm := .none },
  { cls := 6, slots := #[.null, .int 11, .int 0, .int 400, .null, .null, .null], vm := .none },
  { cls := 6, slots := #[.null, .int 12, .int 0, .int 400, .null, .null, .null], vm := .none },
  { cls := 6, slots := #[.null, .int 13, .int 0, .int 400, .null, .null, .null], vm := .none },
  { cls := 6, slots := #[.null, .int 14, .int 0, .int 400, .null, .null, .null], vm := .none },
  { cls := 6, slots := #[.null, .int 15, .int 0, .int 400, .null, .null, .null], vm := .none },
  { cls := 6, slots := #[.null, .int 16, .int 0, .int 400, .null, .null, .null], vm := .none },
  { cls := 6, slots := #[.null, .int 17, .int 0, .int 400, .null, .null, .null], vm := .none },
  { cls := 6, slots := #[.null, .int 18, .int 0, .int 400, .null, .null, .null], vm := .none },
  { cls := 6, slots := #[.null, .int 19, .int 0, .int 400, .null, .null, .null], vm := .none },
  { cls := 6, slots := #[.null, .int 20, .int 0, .int 400, .null, .null, .null], vm := .none },
  { cls := 6, slots := #[.null, .int 21, .int 0, .int 400, .null, .null, .null], vm := .none },
  { cls := 6, slots := #[.null, .int 22, .int 0, .int 400, .null, .null, .null], vm := .none },
  { cls := 6, slots := #[.null, .int 23, .int 0, .int 400, .null, .null, .null], vm := .none },
  { cls := 6, slots := #[.null, .int 24, .int 0, .int 400, .null, .null, .null], vm := .none }]
def classes : Array Class := #[k0, k1, k2, k3, k4, k5, k6, k7, k8, k9, k10, k11, k12, k13, k14]
def interned : List (Array UInt16 × Addr) := []
def slotsUsed : Nat := 201
def theMethod : MethodId := ⟨1, 1⟩
def args0 : Array Value := #[.int 5]
def aboutOver (below : List Frame) : State where
  vm := { classes := classes, interned := interned.toArray }
  heap := heap
  slotsUsed := slotsUsed
  threads := #[{ frames := .invoking theMethod args0 :: below }]
def below0 : List Frame := [.native { method := ⟨0, 0⟩, args := #[] }]
def about1 : State := aboutOver below0
def p0 : Program := .bare "" "" ""
def e0 : Env := launch0.env 0 0 0
theorem w_frames : about1.frames = Frame.invoking theMethod args0 :: below0 := rfl
set_option maxRecDepth 65536 in
theorem w_args : argsFit about1.vm theMethod args0 = true := by decide +kernel
set_option maxRecDepth 65536 in
theorem w_heap : heapFits about1 = true := by decide +kernel
set_option maxRecDepth 65536 in
theorem w_runnable : about1.curStatus? = some .runnable := by decide +kernel
set_option maxRecDepth 65536 in
theorem w_alone : about1.alone = true := by decide +kernel
set_option maxRecDepth 65536 in
theorem w_named : about1.methodNamed? x = some theMethod := by decide +kernel
set_option maxRecDepth 65536 in
theorem w_hears : about1.hears theMethod below0 = true := by decide +kernel
set_option maxRecDepth 65536 in
theorem w_ripe : about1.ripe theMethod args0 below0 = true := by decide +kernel
theorem w_running : about1.status = .running := rfl
set_option maxRecDepth 65536 in
theorem w_room : about1.hasRoom e0.platform room_1 = true :=
  launch0.hasRoom_least _ room_1 (by decide +kernel) (by decide +kernel) (by decide +kernel) (by decide +kernel) (by decide +kernel) (by decide +kernel)
theorem allAtoms_all (ts : List Jvm.Cond) (a : Array Jvm.Value) (st : Jvm.State) : (allAtoms ts).before a st = ts.all (fun c => c.before a st) := by
  induction ts with
  | nil => rfl
  | cons c t ih =>
    show (Jvm.Cond.and c (allAtoms t)).before a st = _
    rw [Jvm.Cond.before_and, ih, List.all_cons]
def words1 : List Jvm.Cond := Jvm.Cond.code x code maxLocals ret :: tables_1
/-- a 'code' word, met by the world's own term for the bytes: nothing is compared byte by byte -/
theorem code_word {y : MethodName} {bytes : ByteArray} {mx : Nat} {rt : Option FieldType} {a : Array Value} {s : State} {m : MethodId} {meth : Method} {c : Code} (h1 : s.methodNamed? y = some m) (h2 : s.vm.method? m = some meth) (h3 : meth.code = some c) (h4 : c.code = bytes)
    (h5 : (c.maxLocals == mx && c.exceptionTable.isEmpty && decide (c.maxStack ≤ mostOperands) && decide (meth.sig.returnType = rt) && !meth.locks && decide (parseMethodDescriptor y.desc = some meth.sig)) = true) : (Jvm.Cond.code y bytes mx rt).before a s = true := by
  simp only [Bool.and_eq_true, beq_iff_eq, Bool.not_eq_true', decide_eq_true_eq] at h5
  obtain ⟨⟨⟨⟨⟨g1, g2⟩, g3⟩, g4⟩, g5⟩, g6⟩ := h5
  simp [Cond.before, Cond.holds, Cond.value, h1, h2, h3, h4, g1, g2, g3, g4, g5, g6]
def isCode : Jvm.Cond → Bool
  | .code _ _ _ _ => true
  | _ => false
theorem all_split {L : List Jvm.Cond} {P : Jvm.Cond → Bool} (h1 : L.all (fun c => isCode c || P c) = true) (h2 : ∀ c ∈ L.filter isCode, P c = true) : L.all P = true := by
  refine List.all_eq_true.mpr fun c hc => ?_
  have h := List.all_eq_true.mp h1 c hc
  rcases Bool.eq_false_or_eq_true (isCode c) with hi | hi
  · exact h2 c (List.mem_filter.mpr ⟨hc, hi⟩)
  · simpa [hi] using h
set_option maxRecDepth 65536 in
theorem w_c0 : (Jvm.Cond.code x code maxLocals ret).before args0 about1 = true := code_word (m := ⟨1, 1⟩) (meth := k1m1) (c := k1c1) (by decide +kernel) rfl rfl rfl (by decide +kernel)
set_option maxRecDepth 65536 in
theorem w_c1 : (Jvm.Cond.code ({ cls := "com/example/valet3/valet3/core/Routing", name := "refuse", desc := "(Lcom/example/valet3/valet3/core/Refusal;)Lcom/example/valet3/valet3/core/Routing;" } : Jvm.MethodName) prog_70_method_2_code (1 : Nat) (Option.some (Jvm.ClassFile.FieldType.object "com/example/valet3/valet3/core/Routing"))).before args0 about1 = true := code_word (m := ⟨8, 1⟩) (meth := k8m1) (c := k8c1) (by decide +kernel) rfl rfl rfl (by decide +kernel)
set_option maxRecDepth 65536 in
theorem w_c2 : (Jvm.Cond.code ({ cls := "com/example/valet3/valet3/core/Routing", name := "<init>", desc := "(Lcom/example/valet3/valet3/core/Refusal;Lcom/example/valet3/valet3/core/Endpoint;Lcom/example/valet3/valet3/core/Route;Ljava/lang/String;Ljava/lang/String;)V" } : Jvm.MethodName) prog_70_method_1_code (6 : Nat) (Option.none : Option Jvm.ClassFile.FieldType)).before args0 about1 = true := code_word (m := ⟨8, 0⟩) (meth := k8m0) (c := k8c0) (by decide +kernel) rfl rfl rfl (by decide +kernel)
set_option maxRecDepth 65536 in
theorem w_c3 : (Jvm.Cond.code ({ cls := "java/lang/Record", name := "<init>", desc := "()V" } : Jvm.MethodName) jdk_30_method_1_code (1 : Nat) (Option.none : Option Jvm.ClassFile.FieldType)).before args0 about1 = true := code_word (m := ⟨7, 0⟩) (meth := k7m0) (c := k7c0) (by decide +kernel) rfl rfl rfl (by decide +kernel)
set_option maxRecDepth 65536 in
theorem w_c4 : (Jvm.Cond.code ({ cls := "java/lang/Object", name := "<init>", desc := "()V" } : Jvm.MethodName) object_method_1_code (1 : Nat) (Option.none : Option Jvm.ClassFile.FieldType)).before args0 about1 = true := code_word (m := ⟨0, 0⟩) (meth := k0m0) (c := k0c0) (by decide +kernel) rfl rfl rfl (by decide +kernel)
set_option maxRecDepth 65536 in
theorem w_c5 : (Jvm.Cond.code ({ cls := "com/example/valet3/valet3/core/Routing", name := "refusal", desc := "()Lcom/example/valet3/valet3/core/Refusal;" } : Jvm.MethodName) prog_70_method_9_code (1 : Nat) (Option.some (Jvm.ClassFile.FieldType.object "com/example/valet3/valet3/core/Refusal"))).before args0 about1 = true := code_word (m := ⟨8, 3⟩) (meth := k8m3) (c := k8c3) (by decide +kernel) rfl rfl rfl (by decide +kernel)
set_option maxRecDepth 65536 in
theorem w_c6 : (Jvm.Cond.code ({ cls := "com/example/valet3/valet3/core/Routing", name := "endpoint", desc := "()Lcom/example/valet3/valet3/core/Endpoint;" } : Jvm.MethodName) prog_70_method_10_code (1 : Nat) (Option.some (Jvm.ClassFile.FieldType.object "com/example/valet3/valet3/core/Endpoint"))).before args0 about1 = true := code_word (m := ⟨8, 4⟩) (meth := k8m4) (c := k8c4) (by decide +kernel) rfl rfl rfl (by decide +kernel)
set_option maxRecDepth 65536 in
theorem w_c7 : (Jvm.Cond.code ({ cls := "com/example/valet3/valet3/core/Routing", name := "route", desc := "()Lcom/example/valet3/valet3/core/Route;" } : Jvm.MethodName) prog_70_method_11_code (1 : Nat) (Option.some (Jvm.ClassFile.FieldType.object "com/example/valet3/valet3/core/Route"))).before args0 about1 = true := code_word (m := ⟨8, 5⟩) (meth := k8m5) (c := k8c5) (by decide +kernel) rfl rfl rfl (by decide +kernel)
set_option maxRecDepth 65536 in
theorem w_c8 : (Jvm.Cond.code ({ cls := "com/example/valet3/valet3/core/Routing", name := "backend", desc := "()Ljava/lang/String;" } : Jvm.MethodName) prog_70_method_12_code (1 : Nat) (Option.some (Jvm.ClassFile.FieldType.object "java/lang/String"))).before args0 about1 = true := code_word (m := ⟨8, 6⟩) (meth := k8m6) (c := k8c6) (by decide +kernel) rfl rfl rfl (by decide +kernel)
set_option maxRecDepth 65536 in
theorem w_c9 : (Jvm.Cond.code ({ cls := "com/example/valet3/valet3/core/Routing", name := "rest", desc := "()Ljava/lang/String;" } : Jvm.MethodName) prog_70_method_13_code (1 : Nat) (Option.some (Jvm.ClassFile.FieldType.object "java/lang/String"))).before args0 about1 = true := code_word (m := ⟨8, 7⟩) (meth := k8m7) (c := k8c7) (by decide +kernel) rfl rfl rfl (by decide +kernel)
set_option maxRecDepth 65536 in
theorem w_c10 : (Jvm.Cond.code ({ cls := "com/example/valet3/valet3/core/Routing", name := "isRefused", desc := "()Z" } : Jvm.MethodName) prog_70_method_5_code (1 : Nat) (Option.some Jvm.ClassFile.FieldType.boolean)).before args0 about1 = true := code_word (m := ⟨8, 2⟩) (meth := k8m2) (c := k8c2) (by decide +kernel) rfl rfl rfl (by decide +kernel)
def codes1 : List Jvm.Cond := [Jvm.Cond.code x code maxLocals ret, Jvm.Cond.code ({ cls := "com/example/valet3/valet3/core/Routing", name := "refuse", desc := "(Lcom/example/valet3/valet3/core/Refusal;)Lcom/example/valet3/valet3/core/Routing;" } : Jvm.MethodName) prog_70_method_2_code (1 : Nat) (Option.some (Jvm.ClassFile.FieldType.object "com/example/valet3/valet3/core/Routing")), Jvm.Cond.code ({ cls := "com/example/valet3/valet3/core/Routing", name := "<init>", desc := "(Lcom/example/valet3/valet3/core/Refusal;Lcom/example/valet3/valet3/core/Endpoint;Lcom/example/valet3/valet3/core/Route;Ljava/lang/String;Ljava/lang/String;)V" } : Jvm.MethodName) prog_70_method_1_code (6 : Nat) (Option.none : Option Jvm.ClassFile.FieldType), Jvm.Cond.code ({ cls := "java/lang/Record", name := "<init>", desc := "()V" } : Jvm.MethodName) jdk_30_method_1_code (1 : Nat) (Option.none : Option Jvm.ClassFile.FieldType), Jvm.Cond.code ({ cls := "java/lang/Object", name := "<init>", desc := "()V" } : Jvm.MethodName) object_method_1_code (1 : Nat) (Option.none : Option Jvm.ClassFile.FieldType), Jvm.Cond.code ({ cls := "com/example/valet3/valet3/core/Routing", name := "refusal", desc := "()Lcom/example/valet3/valet3/core/Refusal;" } : Jvm.MethodName) prog_70_method_9_code (1 : Nat) (Option.some (Jvm.ClassFile.FieldType.object "com/example/valet3/valet3/core/Refusal")), Jvm.Cond.code ({ cls := "com/example/valet3/valet3/core/Routing", name := "endpoint", desc := "()Lcom/example/valet3/valet3/core/Endpoint;" } : Jvm.MethodName) prog_70_method_10_code (1 : Nat) (Option.some (Jvm.ClassFile.FieldType.object "com/example/valet3/valet3/core/Endpoint")), Jvm.Cond.code ({ cls := "com/example/valet3/valet3/core/Routing", name := "route", desc := "()Lcom/example/valet3/valet3/core/Route;" } : Jvm.MethodName) prog_70_method_11_code (1 : Nat) (Option.some (Jvm.ClassFile.FieldType.object "com/example/valet3/valet3/core/Route")), Jvm.Cond.code ({ cls := "com/example/valet3/valet3/core/Routing", name := "backend", desc := "()Ljava/lang/String;" } : Jvm.MethodName) prog_70_method_12_code (1 : Nat) (Option.some (Jvm.ClassFile.FieldType.object "java/lang/String")), Jvm.Cond.code ({ cls := "com/example/valet3/valet3/core/Routing", name := "rest", desc := "()Ljava/lang/String;" } : Jvm.MethodName) prog_70_method_13_code (1 : Nat) (Option.some (Jvm.ClassFile.FieldType.object "java/lang/String")), Jvm.Cond.code ({ cls := "com/example/valet3/valet3/core/Routing", name := "isRefused", desc := "()Z" } : Jvm.MethodName) prog_70_method_5_code (1 : Nat) (Option.some Jvm.ClassFile.FieldType.boolean)]
set_option maxRecDepth 65536 in
theorem codes_eq : words1.filter isCode = codes1 := rfl
theorem w_codes : ∀ c ∈ words1.filter isCode, c.before args0 about1 = true := by
  rw [codes_eq]
  intro c hc
  simp only [codes1, List.mem_cons, List.not_mem_nil, or_false] at hc
  rcases hc with rfl | rfl | rfl | rfl | rfl | rfl | rfl | rfl | rfl | rfl | rfl
  · exact w_c0
  · exact w_c1
  · exact w_c2
  · exact w_c3
  · exact w_c4
  · exact w_c5
  · exact w_c6
  · exact w_c7
  · exact w_c8
  · exact w_c9
  · exact w_c10
set_option maxRecDepth 65536 in
theorem w_t1 : (words1.take 24).all (fun c => isCode c || c.before args0 about1) = true := by decide +kernel
set_option maxRecDepth 65536 in
theorem w_t2 : ((words1.drop 24).take 24).all (fun c => isCode c || c.before args0 about1) = true := by decide +kernel
set_option maxRecDepth 65536 in
theorem w_t3 : (((words1.drop 24).drop 24).take 24).all (fun c => isCode c || c.before args0 about1) = true := by decide +kernel
set_option maxRecDepth 65536 in
theorem w_t4 : ((((words1.drop 24).drop 24).drop 24).take 24).all (fun c => isCode c || c.before args0 about1) = true := by decide +kernel
set_option maxRecDepth 65536 in
theorem w_t5 : ((((words1.drop 24).drop 24).drop 24).drop 24).all (fun c => isCode c || c.before args0 about1) = true := by decide +kernel
theorem w_tables : (allAtoms (Jvm.Cond.code x code maxLocals ret :: tables_1)).before args0 about1 = true := by
  rw [allAtoms_all]
  show words1.all (fun c => c.before args0 about1) = true
  refine all_split ?_ w_codes
  rw [← List.take_append_drop 24 words1, List.all_append, w_t1, ← List.take_append_drop 24 (words1.drop 24), List.all_append, w_t2, ← List.take_append_drop 24 ((words1.drop 24).drop 24), List.all_append, w_t3, ← List.take_append_drop 24 (((words1.drop 24).drop 24).drop 24), List.all_append, w_t4, w_t5]
  rfl
set_option maxRecDepth 65536 in
theorem w_case : (Jvm.Cond.and given_1 narrow_1).before args0 about1 = true := by decide +kernel
theorem w_applies : (headSpec (Jvm.Cond.code x code maxLocals ret :: tables_1) room_1).applies x e0.platform about1 = true :=
  (Spec.applies_iff w_frames).mpr ⟨w_running, w_runnable, w_alone, w_named, w_hears, w_ripe, w_room, w_tables⟩
theorem atStart : AtStart classFile x code maxLocals ret World_1 tables_1 room_1 Calls_1 rest_1 Pre_1 launch0 p0 e0 about1 theMethod args0 below0 :=
  ⟨lists_1, trivial, launch0.admits_env _ _ _, launch0.least_env, fairChoices_fair.cas, fairChoices_fair.clock, w_frames, w_args, w_heap, w_applies, trivial, trivial, w_case⟩
end start1
theorem witness_1 : WitnessClaimed_1 := ⟨start1.p0, start1.e0, start1.about1, start1.theMethod, start1.args0, start1.below0, start1.atStart⟩
end Jvm.Pilot.@@N@@
