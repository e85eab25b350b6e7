import JvmDerived
import JvmDerived.Pilot.@@N@@Statement
import JvmDerived.Pilot.@@N@@Code
set_option linter.unusedVariables false
set_option linter.unusedSimpArgs false
namespace Jvm.Pilot.@@N@@
open Jvm Jvm.ClassFile Sem Op Lib Jvm.Free Jvm.Stand Jvm.LawKit Jvm.RoadKit Bundle Jvm.Pilot.@@N@@.Jvm.D
/-! A walk in continuation form, over the library's family of laws (Stand, XS, RoadKit). -/
theorem own_w {Z : State} {a0 : Array Value} (hw : ∀ d ∈ tables_1, d.before a0 Z = true) {d : Jvm.Cond} (i : Nat) (q : tables_1[i]? = some d) : d.before a0 Z = true := hw d (List.mem_of_getElem? q)
section OwnKit
variable {p : Program} {l : Launch} {e : Env} {R : Room} {s : State} {m : MethodId} {args : Array Value} {below : List Frame} {meth : Method} {c : Code} {Z : State} {n0 : Nat} {own : String} {bytes : ByteArray} {ml : Nat} {rt : Option FieldType} {nm : String} {Q : Option Value → Heap → Prop} {h : Heap} {k n : Nat} {pc pc' : Nat} {Ls Ls' : Array Slot} {st rest : List Value} {a0 : Array Value} {f f' : JFrame}
/-- what is left of a body's run from S: it returns, Q holds of the value and the heap, only places at or above n0 were written -/
def own_Fin (p : Program) (e : Env) (R : Room) (s : State) (below : List Frame) (n0 : Nat) (Q : Option Value → Heap → Prop) (S : State) : Prop :=
  ∃ s₂ o, Steps p.tables e below S s₂ ∧ s₂.status = .running ∧ Ended s₂ below o ∧ ∃ v L, o = .returned v ∧ (Q v s₂.heap ∧ Fr n0 L) ∧ FrameEnd s o s₂ L R.cells R.slots
/-- what is known of the body that is walked -/
def own_Cx (Z : State) (p : Program) (s : State) (m : MethodId) (meth : Method) (c : Code) (own : String) (bytes : ByteArray) (ml : Nat) (rt : Option FieldType) (nm : String) : Prop :=
  p.tables.exec = Jvm.exec ∧ Z.Warmed39 s.vm ∧ s.vm.findClass own = some m.cls ∧ c.code = bytes ∧ c.maxLocals = ml ∧ meth.sig.returnType = rt ∧ meth.locks = false ∧ meth.name = nm
/-- from the frame f over the heap h (k cells and n slots made so far) the body ends well -/
def own_At (p : Program) (l : Launch) (e : Env) (R : Room) (s : State) (m : MethodId) (args : Array Value) (below : List Frame) (meth : Method) (c : Code) (n0 : Nat) (Q : Option Value → Heap → Prop) (h : Heap) (k n : Nat) (f : JFrame) : Prop :=
  ∀ T L, Stand p l e R s m args below meth c T L k n → Fr n0 L → T.heap = h → own_Fin p e R s below n0 Q (T.setTop f)
theorem own_via {S S' : State} (H : ∀ t, Steps p.tables e below S' t → Steps p.tables e below S t) (K : own_Fin p e R s below n0 Q S') : own_Fin p e R s below n0 Q S := by
  obtain ⟨s₂, o, h1, r⟩ := K
  exact ⟨s₂, o, H _ h1, r⟩
theorem own_of (H : ∀ T L, Stand p l e R s m args below meth c T L k n → ∀ t, Steps p.tables e below (T.setTop f') t → Steps p.tables e below (T.setTop f) t) (K : own_At p l e R s m args below meth c n0 Q h k n f') : own_At p l e R s m args below meth c n0 Q h k n f :=
  fun T L X N eT => own_via (H T L X) (K T L X N eT)
theorem own_eq (q : f = f') (K : own_At p l e R s m args below meth c n0 Q h k n f') : own_At p l e R s m args below meth c n0 Q h k n f := q ▸ K
/-! ### plain steps -/
theorem own_iloadN (C : own_Cx Z p s m meth c own bytes ml rt nm) {i : Fin 4} {v : Int32} (hd : decode bytes pc = .ok (.iload_n i, 1)) (hl : Ls[i.val]? = some (.val (.int v))) (hp : pc + 1 = pc')
    (K : own_At p l e R s m args below meth c n0 Q h k n (mkF m pc' Ls (.int v :: st))) : own_At p l e R s m args below meth c n0 Q h k n (mkF m pc Ls st) := by
  subst hp; exact own_of (fun T L X t hr => XS.iloadN X.here C.1 rfl (hb C.2.2.2.1 hd) hl hr) K
theorem own_iload (C : own_Cx Z p s m meth c own bytes ml rt nm) {i : Nat} {v : Int32} (hd : decode bytes pc = .ok (.iload i, 2)) (hl : Ls[i]? = some (.val (.int v))) (hp : pc + 2 = pc')
    (K : own_At p l e R s m args below meth c n0 Q h k n (mkF m pc' Ls (.int v :: st))) : own_At p l e R s m args below meth c n0 Q h k n (mkF m pc Ls st) := by
  subst hp; exact own_of (fun T L X t hr => XS.iload X.here C.1 rfl (hb C.2.2.2.1 hd) hl hr) K
theorem own_aloadN (C : own_Cx Z p s m meth c own bytes ml rt nm) {i : Fin 4} {v : Value} (hd : decode bytes pc = .ok (.aload_n i, 1)) (hl : Ls[i.val]? = some (.val v)) (hv : v.isRef = true) (hp : pc + 1 = pc')
    (K : own_At p l e R s m args below meth c n0 Q h k n (mkF m pc' Ls (v :: st))) : own_At p l e R s m args below meth c n0 Q h k n (mkF m pc Ls st) := by
  subst hp; exact own_of (fun T L X t hr => XS.aloadN X.here C.1 rfl (hb C.2.2.2.1 hd) hl hv hr) K
theorem own_aload (C : own_Cx Z p s m meth c own bytes ml rt nm) {i : Nat} {v : Value} (hd : decode bytes pc = .ok (.aload i, 2)) (hl : Ls[i]? = some (.val v)) (hv : v.isRef = true) (hp : pc + 2 = pc')
    (K : own_At p l e R s m args below meth c n0 Q h k n (mkF m pc' Ls (v :: st))) : own_At p l e R s m args below meth c n0 Q h k n (mkF m pc Ls st) := by
  subst hp; exact own_of (fun T L X t hr => XS.aload X.here C.1 rfl (hb C.2.2.2.1 hd) hl hv hr) K
theorem own_istoreN (C : own_Cx Z p s m meth c own bytes ml rt nm) {i : Fin 4} {v : Int32} (hd : decode bytes pc = .ok (.istore_n i, 1)) (hl : storeLocals Ls i.val (.int v) = some Ls') (hp : pc + 1 = pc')
    (K : own_At p l e R s m args below meth c n0 Q h k n (mkF m pc' Ls' st)) : own_At p l e R s m args below meth c n0 Q h k n (mkF m pc Ls (.int v :: st)) := by
  subst hp; exact own_of (fun T L X t hr => XS.istoreN X.here C.1 rfl (hb C.2.2.2.1 hd) rfl hl hr) K
theorem own_istore (C : own_Cx Z p s m meth c own bytes ml rt nm) {i : Nat} {v : Int32} (hd : decode bytes pc = .ok (.istore i, 2)) (hl : storeLocals Ls i (.int v) = some Ls') (hp : pc + 2 = pc')
    (K : own_At p l e R s m args below meth c n0 Q h k n (mkF m pc' Ls' st)) : own_At p l e R s m args below meth c n0 Q h k n (mkF m pc Ls (.int v :: st)) := by
  subst hp; exact own_of (fun T L X t hr => XS.istore X.here C.1 rfl (hb C.2.2.2.1 hd) rfl hl hr) K
theorem own_astoreN (C : own_Cx Z p s m meth c own bytes ml rt nm) {i : Fin 4} {v : Value} (hd : decode bytes pc = .ok (.astore_n i, 1)) (hv : v.isRef = true) (hl : storeLocals Ls i.val v = some Ls') (hp : pc + 1 = pc')
    (K : own_At p l e R s m args below meth c n0 Q h k n (mkF m pc' Ls' st)) : own_At p l e R s m args below meth c n0 Q h k n (mkF m pc Ls (v :: st)) := by
  subst hp; exact own_of (fun T L X t hr => XS.astoreN X.here C.1 rfl (hb C.2.2.2.1 hd) rfl hv hl hr) K
theorem own_astore (C : own_Cx Z p s m meth c own bytes ml rt nm) {i : Nat} {v : Value} (hd : decode bytes pc = .ok (.astore i, 2)) (hv : v.isRef = true) (hl : storeLocals Ls i v = some Ls') (hp : pc + 2 = pc')
    (K : own_At p l e R s m args below meth c n0 Q h k n (mkF m pc' Ls' st)) : own_At p l e R s m args below meth c n0 Q h k n (mkF m pc Ls (v :: st)) := by
  subst hp; exact own_of (fun T L X t hr => XS.astore X.here C.1 rfl (hb C.2.2.2.1 hd) rfl hv hl hr) K
theorem own_iconst (C : own_Cx Z p s m meth c own bytes ml rt nm) {i : Int} {v : Int32} (hd : decode bytes pc = .ok (.iconst i, 1)) (hv : Int32.ofInt i = v) (hp : pc + 1 = pc')
    (K : own_At p l e R s m args below meth c n0 Q h k n (mkF m pc' Ls (.int v :: st))) : own_At p l e R s m args below meth c n0 Q h k n (mkF m pc Ls st) := by
  subst hp hv; exact own_of (fun T L X t hr => XS.iconst X.here C.1 rfl (hb C.2.2.2.1 hd) hr) K
theorem own_bipush (C : own_Cx Z p s m meth c own bytes ml rt nm) {i : Int} {v : Int32} (hd : decode bytes pc = .ok (.bipush i, 2)) (hv : (Int8.ofInt i).toInt32 = v) (hp : pc + 2 = pc')
    (K : own_At p l e R s m args below meth c n0 Q h k n (mkF m pc' Ls (.int v :: st))) : own_At p l e R s m args below meth c n0 Q h k n (mkF m pc Ls st) := by
  subst hp hv; exact own_of (fun T L X t hr => XS.bipush X.here C.1 rfl (hb C.2.2.2.1 hd) hr) K
theorem own_sipush (C : own_Cx Z p s m meth c own bytes ml rt nm) {i : Int} {v : Int32} (hd : decode bytes pc = .ok (.sipush i, 3)) (hv : (Int16.ofInt i).toInt32 = v) (hp : pc + 3 = pc')
    (K : own_At p l e R s m args below meth c n0 Q h k n (mkF m pc' Ls (.int v :: st))) : own_At p l e R s m args below meth c n0 Q h k n (mkF m pc Ls st) := by
  subst hp hv; exact own_of (fun T L X t hr => XS.sipush X.here C.1 rfl (hb C.2.2.2.1 hd) hr) K
theorem own_aconst_null (C : own_Cx Z p s m meth c own bytes ml rt nm) (hd : decode bytes pc = .ok (.aconst_null, 1)) (hp : pc + 1 = pc')
    (K : own_At p l e R s m args below meth c n0 Q h k n (mkF m pc' Ls (.null :: st))) : own_At p l e R s m args below meth c n0 Q h k n (mkF m pc Ls st) := by
  subst hp; exact own_of (fun T L X t hr => XS.aconstNull X.here C.1 rfl (hb C.2.2.2.1 hd) hr) K
theorem own_ldc (C : own_Cx Z p s m meth c own bytes ml rt nm) {i : Nat} {v : Int32} (w : (Cond.constant own i v).before a0 Z = true) (hd : decode bytes pc = .ok (.ldc i, 2)) (hp : pc + 2 = pc')
    (K : own_At p l e R s m args below meth c n0 Q h k n (mkF m pc' Ls (.int v :: st))) : own_At p l e R s m args below meth c n0 Q h k n (mkF m pc Ls st) := by
  subst hp; exact own_of (fun T L X t hr => X.ldcI C.1 C.2.2.1 (mvT C.2.1 w) rfl (hb C.2.2.2.1 hd) hr) K
theorem own_iadd (C : own_Cx Z p s m meth c own bytes ml rt nm) {x y z : Int32} (hd : decode bytes pc = .ok (.iadd, 1)) (hz : x + y = z) (hp : pc + 1 = pc')
    (K : own_At p l e R s m args below meth c n0 Q h k n (mkF m pc' Ls (.int z :: st))) : own_At p l e R s m args below meth c n0 Q h k n (mkF m pc Ls (.int y :: .int x :: st)) := by
  subst hp hz; exact own_of (fun T L X t hr => XS.iadd X.here C.1 rfl (hb C.2.2.2.1 hd) rfl hr) K
theorem own_isub (C : own_Cx Z p s m meth c own bytes ml rt nm) {x y z : Int32} (hd : decode bytes pc = .ok (.isub, 1)) (hz : x - y = z) (hp : pc + 1 = pc')
    (K : own_At p l e R s m args below meth c n0 Q h k n (mkF m pc' Ls (.int z :: st))) : own_At p l e R s m args below meth c n0 Q h k n (mkF m pc Ls (.int y :: .int x :: st)) := by
  subst hp hz; exact own_of (fun T L X t hr => XS.isub X.here C.1 rfl (hb C.2.2.2.1 hd) rfl hr) K
theorem own_imul (C : own_Cx Z p s m meth c own bytes ml rt nm) {x y z : Int32} (hd : decode bytes pc = .ok (.imul, 1)) (hz : x * y = z) (hp : pc + 1 = pc')
    (K : own_At p l e R s m args below meth c n0 Q h k n (mkF m pc' Ls (.int z :: st))) : own_At p l e R s m args below meth c n0 Q h k n (mkF m pc Ls (.int y :: .int x :: st)) := by
  subst hp hz; exact own_of (fun T L X t hr => XS.imul X.here C.1 rfl (hb C.2.2.2.1 hd) rfl hr) K
theorem own_iand (C : own_Cx Z p s m meth c own bytes ml rt nm) {x y z : Int32} (hd : decode bytes pc = .ok (.iand, 1)) (hz : x &&& y = z) (hp : pc + 1 = pc')
    (K : own_At p l e R s m args below meth c n0 Q h k n (mkF m pc' Ls (.int z :: st))) : own_At p l e R s m args below meth c n0 Q h k n (mkF m pc Ls (.int y :: .int x :: st)) := by
  subst hp hz; exact own_of (fun T L X t hr => XS.iand X.here C.1 rfl (hb C.2.2.2.1 hd) rfl hr) K
theorem own_ixor (C : own_Cx Z p s m meth c own bytes ml rt nm) {x y z : Int32} (hd : decode bytes pc = .ok (.ixor, 1)) (hz : x ^^^ y = z) (hp : pc + 1 = pc')
    (K : own_At p l e R s m args below meth c n0 Q h k n (mkF m pc' Ls (.int z :: st))) : own_At p l e R s m args below meth c n0 Q h k n (mkF m pc Ls (.int y :: .int x :: st)) := by
  subst hp hz; exact own_of (fun T L X t hr => XS.ixor X.here C.1 rfl (hb C.2.2.2.1 hd) rfl hr) K
theorem own_ishr (C : own_Cx Z p s m meth c own bytes ml rt nm) {x y z : Int32} (hd : decode bytes pc = .ok (.ishr, 1)) (hz : x >>> (y &&& 31) = z) (hp : pc + 1 = pc')
    (K : own_At p l e R s m args below meth c n0 Q h k n (mkF m pc' Ls (.int z :: st))) : own_At p l e R s m args below meth c n0 Q h k n (mkF m pc Ls (.int y :: .int x :: st)) := by
  subst hp hz; exact own_of (fun T L X t hr => XS.ishr X.here C.1 rfl (hb C.2.2.2.1 hd) rfl hr) K
theorem own_ishl (C : own_Cx Z p s m meth c own bytes ml rt nm) {x y z : Int32} (hd : decode bytes pc = .ok (.ishl, 1)) (hz : x <<< (y &&& 31) = z) (hp : pc + 1 = pc')
    (K : own_At p l e R s m args below meth c n0 Q h k n (mkF m pc' Ls (.int z :: st))) : own_At p l e R s m args below meth c n0 Q h k n (mkF m pc Ls (.int y :: .int x :: st)) := by
  subst hp hz; exact own_of (fun T L X t hr => XS.ishl X.here C.1 rfl (hb C.2.2.2.1 hd) rfl hr) K
theorem own_ineg (C : own_Cx Z p s m meth c own bytes ml rt nm) {x z : Int32} (hd : decode bytes pc = .ok (.ineg, 1)) (hz : -x = z) (hp : pc + 1 = pc')
    (K : own_At p l e R s m args below meth c n0 Q h k n (mkF m pc' Ls (.int z :: st))) : own_At p l e R s m args below meth c n0 Q h k n (mkF m pc Ls (.int x :: st)) := by
  subst hp hz; exact own_of (fun T L X t hr => XS.ineg X.here C.1 rfl (hb C.2.2.2.1 hd) rfl hr) K
theorem own_i2b (C : own_Cx Z p s m meth c own bytes ml rt nm) {x z : Int32} (hd : decode bytes pc = .ok (.i2b, 1)) (hz : x.toInt8.toInt32 = z) (hp : pc + 1 = pc')
    (K : own_At p l e R s m args below meth c n0 Q h k n (mkF m pc' Ls (.int z :: st))) : own_At p l e R s m args below meth c n0 Q h k n (mkF m pc Ls (.int x :: st)) := by
  subst hp hz; exact own_of (fun T L X t hr => XS.i2b X.here C.1 rfl (hb C.2.2.2.1 hd) rfl hr) K
theorem own_pop (C : own_Cx Z p s m meth c own bytes ml rt nm) {x : Value} (hd : decode bytes pc = .ok (.pop, 1)) (hx : x.category = 1) (hp : pc + 1 = pc')
    (K : own_At p l e R s m args below meth c n0 Q h k n (mkF m pc' Ls st)) : own_At p l e R s m args below meth c n0 Q h k n (mkF m pc Ls (x :: st)) := by
  subst hp; exact own_of (fun T L X t hr => XS.pop X.here C.1 rfl (hb C.2.2.2.1 hd) rfl hx hr) K
theorem own_irem (C : own_Cx Z p s m meth c own bytes ml rt nm) {x y z : Int32} (hd : decode bytes pc = .ok (.irem, 1)) (hy : y ≠ 0) (hz : x % y = z) (hp : pc + 1 = pc')
    (K : own_At p l e R s m args below meth c n0 Q h k n (mkF m pc' Ls (.int z :: st))) : own_At p l e R s m args below meth c n0 Q h k n (mkF m pc Ls (.int y :: .int x :: st)) := by
  subst hp hz; exact own_of (fun T L X t hr => iremM X C.1 rfl (hb C.2.2.2.1 hd) rfl hy hr) K
theorem own_idiv (C : own_Cx Z p s m meth c own bytes ml rt nm) {x y z : Int32} (hd : decode bytes pc = .ok (.idiv, 1)) (hy : y ≠ 0) (hz : x / y = z) (hp : pc + 1 = pc')
    (K : own_At p l e R s m args below meth c n0 Q h k n (mkF m pc' Ls (.int z :: st))) : own_At p l e R s m args below meth c n0 Q h k n (mkF m pc Ls (.int y :: .int x :: st)) := by
  subst hp hz; exact own_of (fun T L X t hr => XS.idiv X.here C.1 rfl (hb C.2.2.2.1 hd) rfl hy hr) K
theorem own_dup (C : own_Cx Z p s m meth c own bytes ml rt nm) {x : Value} (hd : decode bytes pc = .ok (.dup, 1)) (hx : x.category = 1) (hp : pc + 1 = pc')
    (K : own_At p l e R s m args below meth c n0 Q h k n (mkF m pc' Ls (x :: x :: st))) : own_At p l e R s m args below meth c n0 Q h k n (mkF m pc Ls (x :: st)) := by
  subst hp; exact own_of (fun T L X t hr => XS.dup X.here C.1 rfl (hb C.2.2.2.1 hd) rfl hx hr) K
theorem own_iinc (C : own_Cx Z p s m meth c own bytes ml rt nm) {i : Nat} {d : Int} {v w : Int32} (hd : decode bytes pc = .ok (.iinc i d, 3)) (hl : Ls[i]? = some (.val (.int v))) (hw : v + Int32.ofInt d = w) (hs : storeLocals Ls i (.int w) = some Ls') (hp : pc + 3 = pc')
    (K : own_At p l e R s m args below meth c n0 Q h k n (mkF m pc' Ls' st)) : own_At p l e R s m args below meth c n0 Q h k n (mkF m pc Ls st) := by
  subst hp hw; exact own_of (fun T L X t hr => XS.iinc X.here C.1 rfl (hb C.2.2.2.1 hd) hl hs hr) K
theorem own_goto (C : own_Cx Z p s m meth c own bytes ml rt nm) {o : Int} (hd : decode bytes pc = .ok (.goto o, 3)) (ho : 0 ≤ (pc : Int) + o) (hp : ((pc : Int) + o).toNat = pc')
    (K : own_At p l e R s m args below meth c n0 Q h k n (mkF m pc' Ls st)) : own_At p l e R s m args below meth c n0 Q h k n (mkF m pc Ls st) :=
  own_of (fun T L X t hr => XS.goto X.here C.1 rfl (pc0 := pc) rfl (hb C.2.2.2.1 hd) ho hp hr) K
theorem own_ifY (C : own_Cx Z p s m meth c own bytes ml rt nm) {cd : ClassFile.Cond} {x : Int32} {o : Int} (hd : decode bytes pc = .ok (.ifCond cd o, 3)) (hc : ifCond.holds cd x = true) (ho : 0 ≤ (pc : Int) + o) (hp : ((pc : Int) + o).toNat = pc')
    (K : own_At p l e R s m args below meth c n0 Q h k n (mkF m pc' Ls st)) : own_At p l e R s m args below meth c n0 Q h k n (mkF m pc Ls (.int x :: st)) :=
  own_of (fun T L X t hr => XS.ifYes X.here C.1 rfl (pc0 := pc) rfl (hb C.2.2.2.1 hd) rfl hc ho hp hr) K
theorem own_ifN (C : own_Cx Z p s m meth c own bytes ml rt nm) {cd : ClassFile.Cond} {x : Int32} {o : Int} (hd : decode bytes pc = .ok (.ifCond cd o, 3)) (hc : ifCond.holds cd x = false) (hp : pc + 3 = pc')
    (K : own_At p l e R s m args below meth c n0 Q h k n (mkF m pc' Ls st)) : own_At p l e R s m args below meth c n0 Q h k n (mkF m pc Ls (.int x :: st)) := by
  subst hp; exact own_of (fun T L X t hr => XS.ifNo X.here C.1 rfl (hb C.2.2.2.1 hd) rfl hc hr) K
theorem own_icmpY (C : own_Cx Z p s m meth c own bytes ml rt nm) {cd : ClassFile.Cond} {x y : Int32} {o : Int} (hd : decode bytes pc = .ok (.if_icmp cd o, 3)) (hc : if_icmp.holds cd x y = true) (ho : 0 ≤ (pc : Int) + o) (hp : ((pc : Int) + o).toNat = pc')
    (K : own_At p l e R s m args below meth c n0 Q h k n (mkF m pc' Ls st)) : own_At p l e R s m args below meth c n0 Q h k n (mkF m pc Ls (.int y :: .int x :: st)) :=
  own_of (fun T L X t hr => XS.icmpYes X.here C.1 rfl (pc0 := pc) rfl (hb C.2.2.2.1 hd) rfl hc ho hp hr) K
theorem own_icmpN (C : own_Cx Z p s m meth c own bytes ml rt nm) {cd : ClassFile.Cond} {x y : Int32} {o : Int} (hd : decode bytes pc = .ok (.if_icmp cd o, 3)) (hc : if_icmp.holds cd x y = false) (hp : pc + 3 = pc')
    (K : own_At p l e R s m args below meth c n0 Q h k n (mkF m pc' Ls st)) : own_At p l e R s m args below meth c n0 Q h k n (mkF m pc Ls (.int y :: .int x :: st)) := by
  subst hp; exact own_of (fun T L X t hr => XS.icmpNo X.here C.1 rfl (hb C.2.2.2.1 hd) rfl hc hr) K
theorem own_acmp (C : own_Cx Z p s m meth c own bytes ml rt nm) {cd : ACond} {x y : Value} {o : Int} {same : Bool} (hd : decode bytes pc = .ok (.if_acmp cd o, 3)) (h1 : x.isRef = true) (h2 : y.isRef = true) (hq : decide (x = y) = same) (ho : 0 ≤ (pc : Int) + o) (hp : pc' = if acV cd same = true then ((pc : Int) + o).toNat else pc + 3)
    (K : own_At p l e R s m args below meth c n0 Q h k n (mkF m pc' Ls st)) : own_At p l e R s m args below meth c n0 Q h k n (mkF m pc Ls (y :: x :: st)) :=
  own_of (fun T L X t hr => RoadKit.acmp (g := mkF m pc Ls (y :: x :: st)) X C.1 rfl h1 h2 (pc0 := pc) rfl (hb C.2.2.2.1 hd) rfl hq ho hp hr) K
theorem own_same (a : Addr) : decide ((Value.ref a) = .ref a) = true := decide_eq_true rfl
theorem own_unlike {a b : Addr} (q : a ≠ b) : decide ((Value.ref a) = .ref b) = false := decide_eq_false fun z => q (Value.ref.inj z)
theorem own_nullY (C : own_Cx Z p s m meth c own bytes ml rt nm) {o : Int} (hd : decode bytes pc = .ok (.ifnull o, 3)) (ho : 0 ≤ (pc : Int) + o) (hp : ((pc : Int) + o).toNat = pc')
    (K : own_At p l e R s m args below meth c n0 Q h k n (mkF m pc' Ls st)) : own_At p l e R s m args below meth c n0 Q h k n (mkF m pc Ls (.null :: st)) :=
  own_of (fun T L X t hr => XS.ifnullYes X.here C.1 rfl (pc0 := pc) rfl (hb C.2.2.2.1 hd) rfl ho hp hr) K
theorem own_nullN (C : own_Cx Z p s m meth c own bytes ml rt nm) {o : Int} {a : Addr} (hd : decode bytes pc = .ok (.ifnull o, 3)) (hp : pc + 3 = pc')
    (K : own_At p l e R s m args below meth c n0 Q h k n (mkF m pc' Ls st)) : own_At p l e R s m args below meth c n0 Q h k n (mkF m pc Ls (.ref a :: st)) := by
  subst hp; exact own_of (fun T L X t hr => XS.ifnullNo X.here C.1 rfl (hb C.2.2.2.1 hd) rfl hr) K
theorem own_nonnullY (C : own_Cx Z p s m meth c own bytes ml rt nm) {o : Int} {a : Addr} (hd : decode bytes pc = .ok (.ifnonnull o, 3)) (ho : 0 ≤ (pc : Int) + o) (hp : ((pc : Int) + o).toNat = pc')
    (K : own_At p l e R s m args below meth c n0 Q h k n (mkF m pc' Ls st)) : own_At p l e R s m args below meth c n0 Q h k n (mkF m pc Ls (.ref a :: st)) :=
  own_of (fun T L X t hr => XS.ifnonnullYes X.here C.1 rfl (pc0 := pc) rfl (hb C.2.2.2.1 hd) rfl ho hp hr) K
theorem own_nonnullN (C : own_Cx Z p s m meth c own bytes ml rt nm) {o : Int} (hd : decode bytes pc = .ok (.ifnonnull o, 3)) (hp : pc + 3 = pc')
    (K : own_At p l e R s m args below meth c n0 Q h k n (mkF m pc' Ls st)) : own_At p l e R s m args below meth c n0 Q h k n (mkF m pc Ls (.null :: st)) := by
  subst hp; exact own_of (fun T L X t hr => XS.ifnonnullNo X.here C.1 rfl (hb C.2.2.2.1 hd) rfl hr) K
/-! ### reads and writes -/
theorem own_getstatic (C : own_Cx Z p s m meth c own bytes ml rt nm) {O f d : String} {i : Nat} {v : Value} (w : (Cond.fieldLink own i O f d).before a0 Z = true) (F : Sta Z h O f d v) (hd : decode bytes pc = .ok (.getstatic i, 3)) (hp : pc + 3 = pc')
    (K : own_At p l e R s m args below meth c n0 Q h k n (mkF m pc' Ls (v :: st))) : own_At p l e R s m args below meth c n0 Q h k n (mkF m pc Ls st) := by
  subst hp
  intro T L X N eT
  obtain ⟨T', X', e', stp⟩ := getS2 X C.1 C.2.1 C.2.2.1 (host := "") (Or.inl w) Via.refl eT F (g := mkF m pc Ls st) rfl (hb C.2.2.2.1 hd)
  exact own_via stp (K T' L X' N e')
theorem own_getfield (C : own_Cx Z p s m meth c own bytes ml rt nm) {R0 O f d : String} {i : Nat} {a : Addr} {v : Value} (w : (Cond.fieldLink own i R0 f d).before a0 Z = true) (via : Via Z R0 O f d) (F : Fld Z h a O f d v) (hd : decode bytes pc = .ok (.getfield i, 3)) (hp : pc + 3 = pc')
    (K : own_At p l e R s m args below meth c n0 Q h k n (mkF m pc' Ls (v :: st))) : own_At p l e R s m args below meth c n0 Q h k n (mkF m pc Ls (.ref a :: st)) := by
  subst hp
  intro T L X N eT
  obtain ⟨T', X', e', stp⟩ := getF X C.1 C.2.1 C.2.2.1 (host := "") (Or.inl w) via eT F (g := mkF m pc Ls (.ref a :: st)) rfl rfl (hb C.2.2.2.1 hd)
  exact own_via stp (K T' L X' N e')
/-! ### returns -/
theorem own_back (C : own_Cx Z p s m meth c own bytes ml rt nm) {v : Option Value} (hv : rt = none → v = none) (hk : k ≤ R.cells) (hn : n ≤ R.slots) (hQ : Q v h)
    (H : ∀ T L, Stand p l e R s m args below meth c T L k n → ∀ fs, (∀ (f : JFrame) (acts : List Action), f.method = m → f.locked = none → f.entered = [] → (doReturn e (T.setTop f) acts v).1 = T.setFrames fs) → Steps p.tables e below (T.setTop f) (T.setFrames fs)) :
    own_At p l e R s m args below meth c n0 Q h k n f := by
  intro T L X N eT
  obtain ⟨fs, hr, hrun, hended, hW, hsame⟩ := X.leave (v := v) (fun q => hv (C.2.2.2.2.2.1.symm.trans q)) C.2.2.2.2.2.2.1
  exact ⟨_, _, H T L X fs hr, hrun, hended, _, _, rfl, ⟨by show Q v T.heap; rw [eT]; exact hQ, N⟩, ⟨_, rfl⟩, hW, hsame.mono hk hn⟩
theorem own_ireturn {t : FieldType} (C : own_Cx Z p s m meth c own bytes ml (some t) nm) {z : Int32} (ht : t = .int ∨ t = .boolean ∨ t = .byte ∨ t = .char ∨ t = .short) (hn : narrow t (.int z) = .int z) (hd : decode bytes pc = .ok (.ireturn, 1)) (hk : k ≤ R.cells) (hs : n ≤ R.slots) (hQ : Q (some (.int z)) h) :
    own_At p l e R s m args below meth c n0 Q h k n (mkF m pc Ls (.int z :: st)) :=
  own_back C (fun q => nomatch q) hk hs hQ fun T L X fs hr => retOut X C.1 C.2.2.2.2.2.1 hn (Or.inl ⟨rfl, ht, _, rfl⟩) (hb C.2.2.2.1 hd) hr
theorem own_dreturn (C : own_Cx Z p s m meth c own bytes ml (some .double) nm) {z : UInt64} (hd : decode bytes pc = .ok (.dreturn, 1)) (hk : k ≤ R.cells) (hs : n ≤ R.slots) (hQ : Q (some (.double z)) h) :
    own_At p l e R s m args below meth c n0 Q h k n (mkF m pc Ls (.double z :: st)) :=
  own_back C (fun q => nomatch q) hk hs hQ fun T L X fs hr => retOut X C.1 C.2.2.2.2.2.1 rfl (Or.inr (Or.inr (Or.inl ⟨rfl, rfl, _, rfl⟩))) (hb C.2.2.2.1 hd) hr
theorem own_areturn {t : FieldType} (C : own_Cx Z p s m meth c own bytes ml (some t) nm) {v : Value} (ht : t.isReference = true) (hv : v.isRef = true) (hd : decode bytes pc = .ok (.areturn, 1)) (hk : k ≤ R.cells) (hs : n ≤ R.slots) (hQ : Q (some v) h) :
    own_At p l e R s m args below meth c n0 Q h k n (mkF m pc Ls (v :: st)) :=
  own_back C (fun q => nomatch q) hk hs hQ fun T L X fs hr => retOut X C.1 C.2.2.2.2.2.1 (by cases t <;> simp [FieldType.isReference] at ht <;> cases v <;> simp [Value.isRef] at hv <;> rfl) (Or.inr (Or.inr (Or.inr (Or.inr ⟨rfl, ht, hv⟩)))) (hb C.2.2.2.1 hd) hr
theorem own_return (C : own_Cx Z p s m meth c own bytes ml none nm) (hd : decode bytes pc = .ok (.return_, 1)) (hk : k ≤ R.cells) (hs : n ≤ R.slots) (hQ : Q none h) :
    own_At p l e R s m args below meth c n0 Q h k n (mkF m pc Ls []) :=
  own_back C (fun _ => rfl) hk hs hQ fun T L X fs hr => X.returnOut C.1 C.2.2.2.2.2.1 (hb C.2.2.2.1 hd) hr
/-! ### contracts and calls -/
def own_Met (l : Launch) (Z : State) (y : MethodName) (bytes : ByteArray) (maxL : Nat) (rt : Option FieldType) (ws : List Jvm.Cond) (rm : Room) (n0 : Nat) (as' : Array Value) (h : Heap) (Q : Option Value → Heap → Prop) : Prop :=
  MetFree l y (head1 (Jvm.Cond.code y bytes maxL rt :: ws) rm) (fun a U => a = as' ∧ Z.Warmed39 U.vm ∧ U.heap = h) (fun _ _ _ _ _ => True) (fun _ U o U' => ∃ v L, o = .returned v ∧ (Q v U'.heap ∧ Fr n0 L) ∧ FrameEnd U o U' L rm.cells rm.slots)
def own_val (P : Value → Heap → Prop) (v : Option Value) (h : Heap) : Prop := ∃ w, v = some w ∧ P w h
def own_nov (P : Heap → Prop) (v : Option Value) (h : Heap) : Prop := v = none ∧ P h
theorem own_met {y : MethodName} {ws : List Jvm.Cond} {rm : Room} {as' : Array Value} (hy : plainFor y = true) (hf : ∀ m, entryFrame m as' ml = mkF m 0 Ls [])
    (H : ∀ p e s m below meth c, own_Cx Z p s m meth c y.cls bytes ml rt y.name → own_At p l e rm s m as' below meth c n0 Q h 0 0 (mkF m 0 Ls [])) : own_Met l Z y bytes ml rt ws rm n0 as' h Q := by
  refine MetFree.of_bodySF hy hisR ?_
  intro p e s m args below meth c s₁ Bd hml0 hP hK
  obtain ⟨rfl, hZ, hh⟩ := hP
  have X0 : Stand p l e rm s m _ below meth c s₁ [] 0 0 := Stand.of_body Bd
  have e0 : s₁.heap = h := by rw [← hh, Bd.state]; rfl
  have K := H p e s m below meth c ⟨Bd.exec, hZ, findClass_of_methodNamed Bd.named, Bd.bytes, hml0, Bd.returns, Bd.notSynchronized, (name_of_methodNamed Bd.named Bd.method).1⟩ s₁ [] X0 (Fr.nil n0) e0
  rw [hf]
  exact K
/-- it returns v and leaves the heap as it was -/
def own_pure (v : Value) (h : Heap) (u : Option Value) (h' : Heap) : Prop := u = some v ∧ h' = h
section Calls
variable {y : MethodName} {bytes' : ByteArray} {maxL' : Nat} {rt' : Option FieldType} {rm : Room} {argsL : List Value} {W i : Nat} {P : Value → Heap → Prop} {P0 : Heap → Prop}
theorem own_callS0 {Q' : Option Value → Heap → Prop} (C : own_Cx Z p s m meth c own bytes ml rt nm) (M : own_Met l Z y bytes' maxL' rt' [] rm n0 argsL.toArray h Q') (w1 : (Cond.methodLink own i y).before a0 Z = true) (w2 : (Cond.static y).before a0 Z = true) (w3 : (Cond.initialized y.cls).before a0 Z = true) (w4 : (Cond.code y bytes' maxL' rt').before a0 Z = true)
    (hy : y.cls ≠ "java/lang/invoke/MethodHandle" ∧ y.cls ≠ "java/lang/invoke/VarHandle") (hd : decode bytes pc = .ok (.invokestatic i, 3)) (hs : Ls.size = ml) (hst : st = argsL.reverse ++ rest) (hlen : ∀ sig, parseMethodDescriptor y.desc = some sig → argsL.length = sig.parameters.length) (hW : (rest.map fun v => v.category).sum ≤ W) (hf : rm.frames + 1 ≤ R.frames) (hl : W + (maxL' + 11) + rm.locals ≤ R.locals) (hc : k + rm.cells ≤ R.cells) (hn : n + rm.slots ≤ R.slots) (hp : pc + 3 = pc')
    (K : ∀ v h', Q' v h' → own_At p l e R s m args below meth c n0 Q h' (k + rm.cells) (n + rm.slots) (mkF m pc' Ls (v.toList ++ rest))) : own_At p l e R s m args below meth c n0 Q h k n (mkF m pc Ls st) := by
  subst hp
  intro T L X N eT
  obtain ⟨v, _, ⟨T', L', k', n'⟩, -, X', ⟨Lc, ⟨hQ, N'⟩, l', y', z'⟩, stp⟩ := Jvm.LawKit.callS X C.1 (y := y) C.2.2.1 (mvT C.2.1 w1) (mvT C.2.1 w2) (mvT C.2.1 w3) (mvT C.2.1 w4) hy
    (backOf (Q := fun v h' L => Q' v h' ∧ Fr n0 L) (len := 3) (W := W) (p := p) (e := e) (below := below) (args := args) M C.2.1 w4 w3 hf hl) (g := mkF m pc Ls st) rfl (hs.trans C.2.2.2.2.1.symm) (argsL := argsL) (rest := rest) hlen hst (by show 2 * 0 + _ ≤ _; omega) (hb C.2.2.2.1 hd) (fun _ _ => ⟨rfl, eT, hc, hn⟩)
  dsimp only [Pt.U, Pt.locs, Pt.cells, Pt.slots] at X' l' y' z' stp hQ
  subst l' y' z'
  exact own_via stp (K v _ hQ T' _ X' (Fr.app N N') rfl)
theorem own_callS (C : own_Cx Z p s m meth c own bytes ml rt nm) (M : own_Met l Z y bytes' maxL' rt' [] rm n0 argsL.toArray h  (own_val P)) (w1 : (Cond.methodLink own i y).before a0 Z = true) (w2 : (Cond.static y).before a0 Z = true) (w3 : (Cond.initialized y.cls).before a0 Z = true) (w4 : (Cond.code y bytes' maxL' rt').before a0 Z = true)
    (hy : y.cls ≠ "java/lang/invoke/MethodHandle" ∧ y.cls ≠ "java/lang/invoke/VarHandle") (hd : decode bytes pc = .ok (.invokestatic i, 3)) (hs : Ls.size = ml) (hst : st = argsL.reverse ++ rest) (hlen : ∀ sig, parseMethodDescriptor y.desc = some sig → argsL.length = sig.parameters.length) (hW : (rest.map fun v => v.category).sum ≤ W) (hf : rm.frames + 1 ≤ R.frames) (hl : W + (maxL' + 11) + rm.locals ≤ R.locals) (hc : k + rm.cells ≤ R.cells) (hn : n + rm.slots ≤ R.slots) (hp : pc + 3 = pc')
    (K : ∀ w h', P w h' → own_At p l e R s m args below meth c n0 Q h' (k + rm.cells) (n + rm.slots) (mkF m pc' Ls (w :: rest))) : own_At p l e R s m args below meth c n0 Q h k n (mkF m pc Ls st) :=
  own_callS0 C M w1 w2 w3 w4 hy hd hs hst hlen hW hf hl hc hn hp (by rintro _ h' ⟨w, rfl, q⟩; exact K w h' q)
theorem own_callSp {v : Value} (C : own_Cx Z p s m meth c own bytes ml rt nm) (M : own_Met l Z y bytes' maxL' rt' [] rm n0 argsL.toArray h  (own_pure v h)) (w1 : (Cond.methodLink own i y).before a0 Z = true) (w2 : (Cond.static y).before a0 Z = true) (w3 : (Cond.initialized y.cls).before a0 Z = true) (w4 : (Cond.code y bytes' maxL' rt').before a0 Z = true)
    (hy : y.cls ≠ "java/lang/invoke/MethodHandle" ∧ y.cls ≠ "java/lang/invoke/VarHandle") (hd : decode bytes pc = .ok (.invokestatic i, 3)) (hs : Ls.size = ml) (hst : st = argsL.reverse ++ rest) (hlen : ∀ sig, parseMethodDescriptor y.desc = some sig → argsL.length = sig.parameters.length) (hW : (rest.map fun v => v.category).sum ≤ W) (hf : rm.frames + 1 ≤ R.frames) (hl : W + (maxL' + 11) + rm.locals ≤ R.locals) (hc : rm.cells = 0) (hn : rm.slots = 0) (hk : k ≤ R.cells) (hk' : n ≤ R.slots) (hp : pc + 3 = pc')
    (K : own_At p l e R s m args below meth c n0 Q h k n (mkF m pc' Ls (v :: rest))) : own_At p l e R s m args below meth c n0 Q h k n (mkF m pc Ls st) :=
  own_callS0 C M w1 w2 w3 w4 hy hd hs hst hlen hW hf hl (by rw [hc]; exact hk) (by rw [hn]; exact hk') hp (by rintro _ h' ⟨rfl, rfl⟩; rw [hc, hn]; exact K)
theorem own_callSV (C : own_Cx Z p s m meth c own bytes ml rt nm) (M : own_Met l Z y bytes' maxL' rt' [] rm n0 argsL.toArray h  (own_nov P0)) (w1 : (Cond.methodLink own i y).before a0 Z = true) (w2 : (Cond.static y).before a0 Z = true) (w3 : (Cond.initialized y.cls).before a0 Z = true) (w4 : (Cond.code y bytes' maxL' rt').before a0 Z = true)
    (hy : y.cls ≠ "java/lang/invoke/MethodHandle" ∧ y.cls ≠ "java/lang/invoke/VarHandle") (hd : decode bytes pc = .ok (.invokestatic i, 3)) (hs : Ls.size = ml) (hst : st = argsL.reverse ++ rest) (hlen : ∀ sig, parseMethodDescriptor y.desc = some sig → argsL.length = sig.parameters.length) (hW : (rest.map fun v => v.category).sum ≤ W) (hf : rm.frames + 1 ≤ R.frames) (hl : W + (maxL' + 11) + rm.locals ≤ R.locals) (hc : k + rm.cells ≤ R.cells) (hn : n + rm.slots ≤ R.slots) (hp : pc + 3 = pc')
    (K : ∀ h', P0 h' → own_At p l e R s m args below meth c n0 Q h' (k + rm.cells) (n + rm.slots) (mkF m pc' Ls rest)) : own_At p l e R s m args below meth c n0 Q h k n (mkF m pc Ls st) :=
  own_callS0 C M w1 w2 w3 w4 hy hd hs hst hlen hW hf hl hc hn hp (by rintro _ h' ⟨rfl, q⟩; exact K h' q)
theorem own_callV0 {Q' : Option Value → Heap → Prop} {a : Addr} {Cn : String} (C : own_Cx Z p s m meth c own bytes ml rt nm) (E : Exa Z h a Cn) (M : own_Met l Z y bytes' maxL' rt' [] rm n0 (Value.ref a :: argsL).toArray h Q') (w1 : (Cond.methodLink own i y).before a0 Z = true) (w2 : (Cond.declares y).before a0 Z = true) (w5 : (Cond.selects Cn y y).before a0 Z = true) (w6 : (Cond.instanceMethod y).before a0 Z = true) (w3 : (Cond.initialized y.cls).before a0 Z = true) (w4 : (Cond.code y bytes' maxL' rt').before a0 Z = true)
    (hy : y.cls ≠ "java/lang/invoke/MethodHandle" ∧ y.cls ≠ "java/lang/invoke/VarHandle") (hd : decode bytes pc = .ok (.invokevirtual i, 3)) (hs : Ls.size = ml) (hst : st = argsL.reverse ++ .ref a :: rest) (hlen : ∀ sig, parseMethodDescriptor y.desc = some sig → argsL.length = sig.parameters.length) (hW : (rest.map fun v => v.category).sum ≤ W) (hf : rm.frames + 1 ≤ R.frames) (hl : W + (maxL' + 11) + rm.locals ≤ R.locals) (hc : k + rm.cells ≤ R.cells) (hn : n + rm.slots ≤ R.slots) (hp : pc + 3 = pc')
    (K : ∀ v h', Q' v h' → own_At p l e R s m args below meth c n0 Q h' (k + rm.cells) (n + rm.slots) (mkF m pc' Ls (v.toList ++ rest))) : own_At p l e R s m args below meth c n0 Q h k n (mkF m pc Ls st) := by
  subst hp
  intro T L X N eT
  obtain ⟨cq, kq, qa, qb, qc⟩ := isOf C.2.1 eT E
  obtain ⟨v, _, ⟨T', L', k', n'⟩, -, X', ⟨Lc, ⟨hQ, N'⟩, l', y', z'⟩, stp⟩ := X.virtualBack C.1 (y := y) (z := y) C.2.2.1 (mvT C.2.1 w1) (mvT C.2.1 w2) (notFace_of_selects (args := #[]) (mvT C.2.1 w5)) (mvT C.2.1 w5) (mvT C.2.1 w6) hy
    (backOf (Q := fun v h' L => Q' v h' ∧ Fr n0 L) (len := 3) (W := W) (p := p) (e := e) (below := below) (args := args) M C.2.1 w4 w3 hf hl) qa qc (g := mkF m pc Ls st) rfl (hs.trans C.2.2.2.2.1.symm) (Steps.refl _) (argsL := argsL) (rest := rest) hlen hst (by show 2 * 0 + _ ≤ _; omega) (hb C.2.2.2.1 hd) (fun _ _ => ⟨rfl, eT, hc, hn⟩)
  dsimp only [Pt.U, Pt.locs, Pt.cells, Pt.slots] at X' l' y' z' stp hQ
  subst l' y' z'
  exact own_via (fun t q => stp.trans q) (K v _ hQ T' _ X' (Fr.app N N') rfl)
theorem own_callV {a : Addr} {Cn : String} (C : own_Cx Z p s m meth c own bytes ml rt nm) (E : Exa Z h a Cn) (M : own_Met l Z y bytes' maxL' rt' [] rm n0 (Value.ref a :: argsL).toArray h  (own_val P)) (w1 : (Cond.methodLink own i y).before a0 Z = true) (w2 : (Cond.declares y).before a0 Z = true) (w5 : (Cond.selects Cn y y).before a0 Z = true) (w6 : (Cond.instanceMethod y).before a0 Z = true) (w3 : (Cond.initialized y.cls).before a0 Z = true) (w4 : (Cond.code y bytes' maxL' rt').before a0 Z = true)
    (hy : y.cls ≠ "java/lang/invoke/MethodHandle" ∧ y.cls ≠ "java/lang/invoke/VarHandle") (hd : decode bytes pc = .ok (.invokevirtual i, 3)) (hs : Ls.size = ml) (hst : st = argsL.reverse ++ .ref a :: rest) (hlen : ∀ sig, parseMethodDescriptor y.desc = some sig → argsL.length = sig.parameters.length) (hW : (rest.map fun v => v.category).sum ≤ W) (hf : rm.frames + 1 ≤ R.frames) (hl : W + (maxL' + 11) + rm.locals ≤ R.locals) (hc : k + rm.cells ≤ R.cells) (hn : n + rm.slots ≤ R.slots) (hp : pc + 3 = pc')
    (K : ∀ w h', P w h' → own_At p l e R s m args below meth c n0 Q h' (k + rm.cells) (n + rm.slots) (mkF m pc' Ls (w :: rest))) : own_At p l e R s m args below meth c n0 Q h k n (mkF m pc Ls st) :=
  own_callV0 C E M w1 w2 w5 w6 w3 w4 hy hd hs hst hlen hW hf hl hc hn hp (by rintro _ h' ⟨w, rfl, q⟩; exact K w h' q)
theorem own_callVp {v : Value} {a : Addr} {Cn : String} (C : own_Cx Z p s m meth c own bytes ml rt nm) (E : Exa Z h a Cn) (M : own_Met l Z y bytes' maxL' rt' [] rm n0 (Value.ref a :: argsL).toArray h  (own_pure v h)) (w1 : (Cond.methodLink own i y).before a0 Z = true) (w2 : (Cond.declares y).before a0 Z = true) (w5 : (Cond.selects Cn y y).before a0 Z = true) (w6 : (Cond.instanceMethod y).before a0 Z = true) (w3 : (Cond.initialized y.cls).before a0 Z = true) (w4 : (Cond.code y bytes' maxL' rt').before a0 Z = true)
    (hy : y.cls ≠ "java/lang/invoke/MethodHandle" ∧ y.cls ≠ "java/lang/invoke/VarHandle") (hd : decode bytes pc = .ok (.invokevirtual i, 3)) (hs : Ls.size = ml) (hst : st = argsL.reverse ++ .ref a :: rest) (hlen : ∀ sig, parseMethodDescriptor y.desc = some sig → argsL.length = sig.parameters.length) (hW : (rest.map fun v => v.category).sum ≤ W) (hf : rm.frames + 1 ≤ R.frames) (hl : W + (maxL' + 11) + rm.locals ≤ R.locals) (hc : rm.cells = 0) (hn : rm.slots = 0) (hk : k ≤ R.cells) (hk' : n ≤ R.slots) (hp : pc + 3 = pc')
    (K : own_At p l e R s m args below meth c n0 Q h k n (mkF m pc' Ls (v :: rest))) : own_At p l e R s m args below meth c n0 Q h k n (mkF m pc Ls st) :=
  own_callV0 C E M w1 w2 w5 w6 w3 w4 hy hd hs hst hlen hW hf hl (by rw [hc]; exact hk) (by rw [hn]; exact hk') hp (by rintro _ h' ⟨rfl, rfl⟩; rw [hc, hn]; exact K)
theorem own_callVV {a : Addr} {Cn : String} (C : own_Cx Z p s m meth c own bytes ml rt nm) (E : Exa Z h a Cn) (M : own_Met l Z y bytes' maxL' rt' [] rm n0 (Value.ref a :: argsL).toArray h  (own_nov P0)) (w1 : (Cond.methodLink own i y).before a0 Z = true) (w2 : (Cond.declares y).before a0 Z = true) (w5 : (Cond.selects Cn y y).before a0 Z = true) (w6 : (Cond.instanceMethod y).before a0 Z = true) (w3 : (Cond.initialized y.cls).before a0 Z = true) (w4 : (Cond.code y bytes' maxL' rt').before a0 Z = true)
    (hy : y.cls ≠ "java/lang/invoke/MethodHandle" ∧ y.cls ≠ "java/lang/invoke/VarHandle") (hd : decode bytes pc = .ok (.invokevirtual i, 3)) (hs : Ls.size = ml) (hst : st = argsL.reverse ++ .ref a :: rest) (hlen : ∀ sig, parseMethodDescriptor y.desc = some sig → argsL.length = sig.parameters.length) (hW : (rest.map fun v => v.category).sum ≤ W) (hf : rm.frames + 1 ≤ R.frames) (hl : W + (maxL' + 11) + rm.locals ≤ R.locals) (hc : k + rm.cells ≤ R.cells) (hn : n + rm.slots ≤ R.slots) (hp : pc + 3 = pc')
    (K : ∀ h', P0 h' → own_At p l e R s m args below meth c n0 Q h' (k + rm.cells) (n + rm.slots) (mkF m pc' Ls rest)) : own_At p l e R s m args below meth c n0 Q h k n (mkF m pc Ls st) :=
  own_callV0 C E M w1 w2 w5 w6 w3 w4 hy hd hs hst hlen hW hf hl hc hn hp (by rintro _ h' ⟨rfl, q⟩; exact K h' q)
theorem own_callF0 {Q' : Option Value → Heap → Prop} {a : Addr} {Cn : String} {z : MethodName} {cnt : Nat} (C : own_Cx Z p s m meth c own bytes ml rt nm) (E : Exa Z h a Cn) (M : own_Met l Z z bytes' maxL' rt' [] rm n0 (Value.ref a :: argsL).toArray h Q') (w1 : (Cond.methodLink own i y).before a0 Z = true) (w2 : (Cond.declares y).before a0 Z = true) (w7 : (Cond.interfaceMethod y.cls y.cls y.name y.desc).before a0 Z = true) (w5 : (Cond.selects Cn y z).before a0 Z = true) (w6 : (Cond.instanceMethod z).before a0 Z = true) (w8 : (Cond.publicMethod z).before a0 Z = true) (w9 : (Cond.unhidden Cn y.name y.desc).before a0 Z = true) (w10 : (Cond.castable Cn y.cls).before a0 Z = true) (w3 : (Cond.initialized z.cls).before a0 Z = true) (w4 : (Cond.code z bytes' maxL' rt').before a0 Z = true)
    (hy : y.cls ≠ "java/lang/invoke/MethodHandle" ∧ y.cls ≠ "java/lang/invoke/VarHandle") (hd : decode bytes pc = .ok (.invokeinterface i cnt, 5)) (hs : Ls.size = ml) (hst : st = argsL.reverse ++ .ref a :: rest) (hlen : ∀ sig, parseMethodDescriptor y.desc = some sig → argsL.length = sig.parameters.length) (hW : (rest.map fun v => v.category).sum ≤ W) (hf : rm.frames + 1 ≤ R.frames) (hl : W + (maxL' + 11) + rm.locals ≤ R.locals) (hc : k + rm.cells ≤ R.cells) (hn : n + rm.slots ≤ R.slots) (hp : pc + 5 = pc')
    (K : ∀ v h', Q' v h' → own_At p l e R s m args below meth c n0 Q h' (k + rm.cells) (n + rm.slots) (mkF m pc' Ls (v.toList ++ rest))) : own_At p l e R s m args below meth c n0 Q h k n (mkF m pc Ls st) := by
  subst hp
  intro T L X N eT
  obtain ⟨cq, kq, qa, qb, qc⟩ := isOf C.2.1 eT E
  obtain ⟨v, _, ⟨T', L', k', n'⟩, -, X', ⟨Lc, ⟨hQ, N'⟩, l', y', z'⟩, stp⟩ := X.interfaceBack C.1 (xi := y) (y := z) C.2.2.1 (mvT C.2.1 w1) (mvT C.2.1 w2) (mvT C.2.1 w7 (by simp [Cond.onTables, Cond.keepsFace, Cond.keeps, Cond.steady, Cond.faceAtom, hy.1, hy.2])) (mvT C.2.1 w5) (mvT C.2.1 w6) (mvT C.2.1 w8) (mvT C.2.1 w9) (mvT C.2.1 w10) hy
    (backOf (Q := fun v h' L => Q' v h' ∧ Fr n0 L) (len := 5) (W := W) (p := p) (e := e) (below := below) (args := args) M C.2.1 w4 w3 hf hl) qa qb qc (g := mkF m pc Ls st) rfl (hs.trans C.2.2.2.2.1.symm) (Steps.refl _) (argsL := argsL) (rest := rest) hlen hst (by show 2 * 0 + _ ≤ _; omega) (hb C.2.2.2.1 hd) (fun _ _ => ⟨rfl, eT, hc, hn⟩)
  dsimp only [Pt.U, Pt.locs, Pt.cells, Pt.slots] at X' l' y' z' stp hQ
  subst l' y' z'
  exact own_via (fun t q => stp.trans q) (K v _ hQ T' _ X' (Fr.app N N') rfl)
theorem own_callF {a : Addr} {Cn : String} {z : MethodName} {cnt : Nat} (C : own_Cx Z p s m meth c own bytes ml rt nm) (E : Exa Z h a Cn) (M : own_Met l Z z bytes' maxL' rt' [] rm n0 (Value.ref a :: argsL).toArray h  (own_val P)) (w1 : (Cond.methodLink own i y).before a0 Z = true) (w2 : (Cond.declares y).before a0 Z = true) (w7 : (Cond.interfaceMethod y.cls y.cls y.name y.desc).before a0 Z = true) (w5 : (Cond.selects Cn y z).before a0 Z = true) (w6 : (Cond.instanceMethod z).before a0 Z = true) (w8 : (Cond.publicMethod z).before a0 Z = true) (w9 : (Cond.unhidden Cn y.name y.desc).before a0 Z = true) (w10 : (Cond.castable Cn y.cls).before a0 Z = true) (w3 : (Cond.initialized z.cls).before a0 Z = true) (w4 : (Cond.code z bytes' maxL' rt').before a0 Z = true)
    (hy : y.cls ≠ "java/lang/invoke/MethodHandle" ∧ y.cls ≠ "java/lang/invoke/VarHandle") (hd : decode bytes pc = .ok (.invokeinterface i cnt, 5)) (hs : Ls.size = ml) (hst : st = argsL.reverse ++ .ref a :: rest) (hlen : ∀ sig, parseMethodDescriptor y.desc = some sig → argsL.length = sig.parameters.length) (hW : (rest.map fun v => v.category).sum ≤ W) (hf : rm.frames + 1 ≤ R.frames) (hl : W + (maxL' + 11) + rm.locals ≤ R.locals) (hc : k + rm.cells ≤ R.cells) (hn : n + rm.slots ≤ R.slots) (hp : pc + 5 = pc')
    (K : ∀ w h', P w h' → own_At p l e R s m args below meth c n0 Q h' (k + rm.cells) (n + rm.slots) (mkF m pc' Ls (w :: rest))) : own_At p l e R s m args below meth c n0 Q h k n (mkF m pc Ls st) :=
  own_callF0 C E M w1 w2 w7 w5 w6 w8 w9 w10 w3 w4 hy hd hs hst hlen hW hf hl hc hn hp (by rintro _ h' ⟨w, rfl, q⟩; exact K w h' q)
theorem own_callFp {v : Value} {a : Addr} {Cn : String} {z : MethodName} {cnt : Nat} (C : own_Cx Z p s m meth c own bytes ml rt nm) (E : Exa Z h a Cn) (M : own_Met l Z z bytes' maxL' rt' [] rm n0 (Value.ref a :: argsL).toArray h  (own_pure v h)) (w1 : (Cond.methodLink own i y).before a0 Z = true) (w2 : (Cond.declares y).before a0 Z = true) (w7 : (Cond.interfaceMethod y.cls y.cls y.name y.desc).before a0 Z = true) (w5 : (Cond.selects Cn y z).before a0 Z = true) (w6 : (Cond.instanceMethod z).before a0 Z = true) (w8 : (Cond.publicMethod z).before a0 Z = true) (w9 : (Cond.unhidden Cn y.name y.desc).before a0 Z = true) (w10 : (Cond.castable Cn y.cls).before a0 Z = true) (w3 : (Cond.initialized z.cls).before a0 Z = true) (w4 : (Cond.code z bytes' maxL' rt').before a0 Z = true)
    (hy : y.cls ≠ "java/lang/invoke/MethodHandle" ∧ y.cls ≠ "java/lang/invoke/VarHandle") (hd : decode bytes pc = .ok (.invokeinterface i cnt, 5)) (hs : Ls.size = ml) (hst : st = argsL.reverse ++ .ref a :: rest) (hlen : ∀ sig, parseMethodDescriptor y.desc = some sig → argsL.length = sig.parameters.length) (hW : (rest.map fun v => v.category).sum ≤ W) (hf : rm.frames + 1 ≤ R.frames) (hl : W + (maxL' + 11) + rm.locals ≤ R.locals) (hc : rm.cells = 0) (hn : rm.slots = 0) (hk : k ≤ R.cells) (hk' : n ≤ R.slots) (hp : pc + 5 = pc')
    (K : own_At p l e R s m args below meth c n0 Q h k n (mkF m pc' Ls (v :: rest))) : own_At p l e R s m args below meth c n0 Q h k n (mkF m pc Ls st) :=
  own_callF0 C E M w1 w2 w7 w5 w6 w8 w9 w10 w3 w4 hy hd hs hst hlen hW hf hl (by rw [hc]; exact hk) (by rw [hn]; exact hk') hp (by rintro _ h' ⟨rfl, rfl⟩; rw [hc, hn]; exact K)
theorem own_callFV {a : Addr} {Cn : String} {z : MethodName} {cnt : Nat} (C : own_Cx Z p s m meth c own bytes ml rt nm) (E : Exa Z h a Cn) (M : own_Met l Z z bytes' maxL' rt' [] rm n0 (Value.ref a :: argsL).toArray h  (own_nov P0)) (w1 : (Cond.methodLink own i y).before a0 Z = true) (w2 : (Cond.declares y).before a0 Z = true) (w7 : (Cond.interfaceMethod y.cls y.cls y.name y.desc).before a0 Z = true) (w5 : (Cond.selects Cn y z).before a0 Z = true) (w6 : (Cond.instanceMethod z).before a0 Z = true) (w8 : (Cond.publicMethod z).before a0 Z = true) (w9 : (Cond.unhidden Cn y.name y.desc).before a0 Z = true) (w10 : (Cond.castable Cn y.cls).before a0 Z = true) (w3 : (Cond.initialized z.cls).before a0 Z = true) (w4 : (Cond.code z bytes' maxL' rt').before a0 Z = true)
    (hy : y.cls ≠ "java/lang/invoke/MethodHandle" ∧ y.cls ≠ "java/lang/invoke/VarHandle") (hd : decode bytes pc = .ok (.invokeinterface i cnt, 5)) (hs : Ls.size = ml) (hst : st = argsL.reverse ++ .ref a :: rest) (hlen : ∀ sig, parseMethodDescriptor y.desc = some sig → argsL.length = sig.parameters.length) (hW : (rest.map fun v => v.category).sum ≤ W) (hf : rm.frames + 1 ≤ R.frames) (hl : W + (maxL' + 11) + rm.locals ≤ R.locals) (hc : k + rm.cells ≤ R.cells) (hn : n + rm.slots ≤ R.slots) (hp : pc + 5 = pc')
    (K : ∀ h', P0 h' → own_At p l e R s m args below meth c n0 Q h' (k + rm.cells) (n + rm.slots) (mkF m pc' Ls rest)) : own_At p l e R s m args below meth c n0 Q h k n (mkF m pc Ls st) :=
  own_callF0 C E M w1 w2 w7 w5 w6 w8 w9 w10 w3 w4 hy hd hs hst hlen hW hf hl hc hn hp (by rintro _ h' ⟨rfl, q⟩; exact K h' q)
theorem own_callP0 {Q' : Option Value → Heap → Prop} {a : Addr} {Cn : String} (C : own_Cx Z p s m meth c own bytes ml rt nm) (E : Exa Z h a Cn) (M : own_Met l Z y bytes' maxL' rt' [] rm n0 (Value.ref a :: argsL).toArray h Q') (w1 : (Cond.methodLink own i y).before a0 Z = true) (w6 : (Cond.instanceMethod y).before a0 Z = true) (w5 : (Cond.selects y.cls y y).before a0 Z = true) (w8 : (Cond.privateMethod y).before a0 Z = true) (w3 : (Cond.initialized y.cls).before a0 Z = true) (w4 : (Cond.code y bytes' maxL' rt').before a0 Z = true)
    (hy : y.cls ≠ "java/lang/invoke/MethodHandle" ∧ y.cls ≠ "java/lang/invoke/VarHandle") (hd : decode bytes pc = .ok (.invokevirtual i, 3)) (hs : Ls.size = ml) (hst : st = argsL.reverse ++ .ref a :: rest) (hlen : ∀ sig, parseMethodDescriptor y.desc = some sig → argsL.length = sig.parameters.length) (hW : (rest.map fun v => v.category).sum ≤ W) (hf : rm.frames + 1 ≤ R.frames) (hl : W + (maxL' + 11) + rm.locals ≤ R.locals) (hc : k + rm.cells ≤ R.cells) (hn : n + rm.slots ≤ R.slots) (hp : pc + 3 = pc')
    (K : ∀ v h', Q' v h' → own_At p l e R s m args below meth c n0 Q h' (k + rm.cells) (n + rm.slots) (mkF m pc' Ls (v.toList ++ rest))) : own_At p l e R s m args below meth c n0 Q h k n (mkF m pc Ls st) := by
  subst hp
  intro T L X N eT
  obtain ⟨cq, q1, q2⟩ := E.cell
  obtain ⟨v, _, ⟨T', L', k', n'⟩, -, X', ⟨Lc, ⟨hQ, N'⟩, l', y', z'⟩, stp⟩ := X.privateBack C.1 (y := y) C.2.2.1 (mvT C.2.1 w1) (mvT C.2.1 w6) (mvT C.2.1 w5) (Cond.privateMethod_at (mvP C.2.1 w8 (args := #[]))) (mvT C.2.1 w4) hy
    (backOf (Q := fun v h' L => Q' v h' ∧ Fr n0 L) (len := 3) (W := W) (p := p) (e := e) (below := below) (args := args) M C.2.1 w4 w3 hf hl) (g := mkF m pc Ls st) rfl (hs.trans C.2.2.2.2.1.symm) (Steps.refl _) (a := a) (by rw [eT]; exact q1) q2 (argsL := argsL) (rest := rest) hlen hst (by show 2 * 0 + _ ≤ _; omega) (hb C.2.2.2.1 hd) (fun _ _ => ⟨rfl, eT, hc, hn⟩)
  dsimp only [Pt.U, Pt.locs, Pt.cells, Pt.slots] at X' l' y' z' stp hQ
  subst l' y' z'
  exact own_via (fun t q => stp.trans q) (K v _ hQ T' _ X' (Fr.app N N') rfl)
theorem own_callP {a : Addr} {Cn : String} (C : own_Cx Z p s m meth c own bytes ml rt nm) (E : Exa Z h a Cn) (M : own_Met l Z y bytes' maxL' rt' [] rm n0 (Value.ref a :: argsL).toArray h  (own_val P)) (w1 : (Cond.methodLink own i y).before a0 Z = true) (w6 : (Cond.instanceMethod y).before a0 Z = true) (w5 : (Cond.selects y.cls y y).before a0 Z = true) (w8 : (Cond.privateMethod y).before a0 Z = true) (w3 : (Cond.initialized y.cls).before a0 Z = true) (w4 : (Cond.code y bytes' maxL' rt').before a0 Z = true)
    (hy : y.cls ≠ "java/lang/invoke/MethodHandle" ∧ y.cls ≠ "java/lang/invoke/VarHandle") (hd : decode bytes pc = .ok (.invokevirtual i, 3)) (hs : Ls.size = ml) (hst : st = argsL.reverse ++ .ref a :: rest) (hlen : ∀ sig, parseMethodDescriptor y.desc = some sig → argsL.length = sig.parameters.length) (hW : (rest.map fun v => v.category).sum ≤ W) (hf : rm.frames + 1 ≤ R.frames) (hl : W + (maxL' + 11) + rm.locals ≤ R.locals) (hc : k + rm.cells ≤ R.cells) (hn : n + rm.slots ≤ R.slots) (hp : pc + 3 = pc')
    (K : ∀ w h', P w h' → own_At p l e R s m args below meth c n0 Q h' (k + rm.cells) (n + rm.slots) (mkF m pc' Ls (w :: rest))) : own_At p l e R s m args below meth c n0 Q h k n (mkF m pc Ls st) :=
  own_callP0 C E M w1 w6 w5 w8 w3 w4 hy hd hs hst hlen hW hf hl hc hn hp (by rintro _ h' ⟨w, rfl, q⟩; exact K w h' q)
theorem own_callPp {v : Value} {a : Addr} {Cn : String} (C : own_Cx Z p s m meth c own bytes ml rt nm) (E : Exa Z h a Cn) (M : own_Met l Z y bytes' maxL' rt' [] rm n0 (Value.ref a :: argsL).toArray h  (own_pure v h)) (w1 : (Cond.methodLink own i y).before a0 Z = true) (w6 : (Cond.instanceMethod y).before a0 Z = true) (w5 : (Cond.selects y.cls y y).before a0 Z = true) (w8 : (Cond.privateMethod y).before a0 Z = true) (w3 : (Cond.initialized y.cls).before a0 Z = true) (w4 : (Cond.code y bytes' maxL' rt').before a0 Z = true)
    (hy : y.cls ≠ "java/lang/invoke/MethodHandle" ∧ y.cls ≠ "java/lang/invoke/VarHandle") (hd : decode bytes pc = .ok (.invokevirtual i, 3)) (hs : Ls.size = ml) (hst : st = argsL.reverse ++ .ref a :: rest) (hlen : ∀ sig, parseMethodDescriptor y.desc = some sig → argsL.length = sig.parameters.length) (hW : (rest.map fun v => v.category).sum ≤ W) (hf : rm.frames + 1 ≤ R.frames) (hl : W + (maxL' + 11) + rm.locals ≤ R.locals) (hc : rm.cells = 0) (hn : rm.slots = 0) (hk : k ≤ R.cells) (hk' : n ≤ R.slots) (hp : pc + 3 = pc')
    (K : own_At p l e R s m args below meth c n0 Q h k n (mkF m pc' Ls (v :: rest))) : own_At p l e R s m args below meth c n0 Q h k n (mkF m pc Ls st) :=
  own_callP0 C E M w1 w6 w5 w8 w3 w4 hy hd hs hst hlen hW hf hl (by rw [hc]; exact hk) (by rw [hn]; exact hk') hp (by rintro _ h' ⟨rfl, rfl⟩; rw [hc, hn]; exact K)
theorem own_callPV {a : Addr} {Cn : String} (C : own_Cx Z p s m meth c own bytes ml rt nm) (E : Exa Z h a Cn) (M : own_Met l Z y bytes' maxL' rt' [] rm n0 (Value.ref a :: argsL).toArray h  (own_nov P0)) (w1 : (Cond.methodLink own i y).before a0 Z = true) (w6 : (Cond.instanceMethod y).before a0 Z = true) (w5 : (Cond.selects y.cls y y).before a0 Z = true) (w8 : (Cond.privateMethod y).before a0 Z = true) (w3 : (Cond.initialized y.cls).before a0 Z = true) (w4 : (Cond.code y bytes' maxL' rt').before a0 Z = true)
    (hy : y.cls ≠ "java/lang/invoke/MethodHandle" ∧ y.cls ≠ "java/lang/invoke/VarHandle") (hd : decode bytes pc = .ok (.invokevirtual i, 3)) (hs : Ls.size = ml) (hst : st = argsL.reverse ++ .ref a :: rest) (hlen : ∀ sig, parseMethodDescriptor y.desc = some sig → argsL.length = sig.parameters.length) (hW : (rest.map fun v => v.category).sum ≤ W) (hf : rm.frames + 1 ≤ R.frames) (hl : W + (maxL' + 11) + rm.locals ≤ R.locals) (hc : k + rm.cells ≤ R.cells) (hn : n + rm.slots ≤ R.slots) (hp : pc + 3 = pc')
    (K : ∀ h', P0 h' → own_At p l e R s m args below meth c n0 Q h' (k + rm.cells) (n + rm.slots) (mkF m pc' Ls rest)) : own_At p l e R s m args below meth c n0 Q h k n (mkF m pc Ls st) :=
  own_callP0 C E M w1 w6 w5 w8 w3 w4 hy hd hs hst hlen hW hf hl hc hn hp (by rintro _ h' ⟨rfl, q⟩; exact K h' q)
theorem own_callI0 {Q' : Option Value → Heap → Prop} {a : Addr} (C : own_Cx Z p s m meth c own bytes ml rt nm) (hi : y.name = "<init>") (M : own_Met l Z y bytes' maxL' none [] rm n0 (Value.ref a :: argsL).toArray h Q') (w1 : (Cond.methodLink own i y).before a0 Z = true) (w6 : (Cond.instanceMethod y).before a0 Z = true) (w3 : (Cond.initialized y.cls).before a0 Z = true) (w4 : (Cond.code y bytes' maxL' none).before a0 Z = true)
    (hy : y.cls ≠ "java/lang/invoke/MethodHandle" ∧ y.cls ≠ "java/lang/invoke/VarHandle") (hd : decode bytes pc = .ok (.invokespecial i, 3)) (hs : Ls.size = ml) (hst : st = argsL.reverse ++ .ref a :: rest) (hlen : ∀ sig, parseMethodDescriptor y.desc = some sig → argsL.length = sig.parameters.length) (hW : (rest.map fun v => v.category).sum ≤ W) (hf : rm.frames + 1 ≤ R.frames) (hl : W + (maxL' + 11) + rm.locals ≤ R.locals) (hc : k + rm.cells ≤ R.cells) (hn : n + rm.slots ≤ R.slots) (hp : pc + 3 = pc')
    (K : ∀ v h', Q' v h' → own_At p l e R s m args below meth c n0 Q h' (k + rm.cells) (n + rm.slots) (mkF m pc' Ls (v.toList ++ rest))) : own_At p l e R s m args below meth c n0 Q h k n (mkF m pc Ls st) := by
  subst hp
  intro T L X N eT
  obtain ⟨v, _, ⟨T', L', k', n'⟩, -, X', ⟨Lc, ⟨hQ, N'⟩, l', y', z'⟩, stp⟩ := X.specialBack C.1 (y := y) hi C.2.2.1 (mvT C.2.1 w1) (mvT C.2.1 w6) (mvT C.2.1 w4) hy
    (backOf (Q := fun v h' L => Q' v h' ∧ Fr n0 L) (len := 3) (W := W) (p := p) (e := e) (below := below) (args := args) M C.2.1 w4 w3 hf hl) (g := mkF m pc Ls st) rfl (hs.trans C.2.2.2.2.1.symm) (Steps.refl _) (a := a) (argsL := argsL) (rest := rest) hlen hst (by show 2 * 0 + _ ≤ _; omega) (hb C.2.2.2.1 hd) (fun _ _ => ⟨rfl, eT, hc, hn⟩)
  dsimp only [Pt.U, Pt.locs, Pt.cells, Pt.slots] at X' l' y' z' stp hQ
  subst l' y' z'
  exact own_via (fun t q => stp.trans q) (K v _ hQ T' _ X' (Fr.app N N') rfl)
theorem own_callI {a : Addr} (C : own_Cx Z p s m meth c own bytes ml rt nm) (hi : y.name = "<init>") (M : own_Met l Z y bytes' maxL' none [] rm n0 (Value.ref a :: argsL).toArray h  (own_nov P0)) (w1 : (Cond.methodLink own i y).before a0 Z = true) (w6 : (Cond.instanceMethod y).before a0 Z = true) (w3 : (Cond.initialized y.cls).before a0 Z = true) (w4 : (Cond.code y bytes' maxL' none).before a0 Z = true)
    (hy : y.cls ≠ "java/lang/invoke/MethodHandle" ∧ y.cls ≠ "java/lang/invoke/VarHandle") (hd : decode bytes pc = .ok (.invokespecial i, 3)) (hs : Ls.size = ml) (hst : st = argsL.reverse ++ .ref a :: rest) (hlen : ∀ sig, parseMethodDescriptor y.desc = some sig → argsL.length = sig.parameters.length) (hW : (rest.map fun v => v.category).sum ≤ W) (hf : rm.frames + 1 ≤ R.frames) (hl : W + (maxL' + 11) + rm.locals ≤ R.locals) (hc : k + rm.cells ≤ R.cells) (hn : n + rm.slots ≤ R.slots) (hp : pc + 3 = pc')
    (K : ∀ h', P0 h' → own_At p l e R s m args below meth c n0 Q h' (k + rm.cells) (n + rm.slots) (mkF m pc' Ls rest)) : own_At p l e R s m args below meth c n0 Q h k n (mkF m pc Ls st) :=
  own_callI0 C hi M w1 w6 w3 w4 hy hd hs hst hlen hW hf hl hc hn hp (by rintro _ h' ⟨rfl, q⟩; exact K h' q)
theorem own_init0 {a : Addr} (C : own_Cx Z p s m meth c own bytes ml rt nm) (w1 : (Cond.methodLink own i Lib.objectInit).before a0 Z = true) (w2 : (Cond.instanceMethod Lib.objectInit).before a0 Z = true) (w4 : (Cond.code Lib.objectInit ⟨#[0xb1]⟩ 1 none).before a0 Z = true)
    (hd : decode bytes pc = .ok (.invokespecial i, 3)) (hs : Ls.size = ml) (hW : (rest.map fun v => v.category).sum ≤ W) (hf : 1 ≤ R.frames) (hl : W + 12 ≤ R.locals) (hp : pc + 3 = pc')
    (K : own_At p l e R s m args below meth c n0 Q h k n (mkF m pc' Ls rest)) : own_At p l e R s m args below meth c n0 Q h k n (mkF m pc Ls (.ref a :: rest)) := by
  subst hp
  intro T L X N eT
  obtain ⟨T', X', e', stp⟩ := initO X C.1 C.2.1 C.2.2.1 w1 w2 w4 eT (g := mkF m pc Ls (.ref a :: rest)) rfl (hs.trans C.2.2.2.2.1.symm) rfl (hb C.2.2.2.1 hd) hf (W := W) (by show 2 * 0 + _ ≤ _; omega) hl
  exact own_via stp (K T' L X' N e')
end Calls

/-! ### the enum constants of a case -/
def own_En (Z : State) (h : Heap) (C n : String) (d : String) (i : Int32) (a : Addr) : Prop := Sta Z h C n d (.ref a) ∧ Exa Z h a C ∧ Fld Z h a "java/lang/Enum" "ordinal" "I" (.int i)
theorem own_En.ext {h' : Heap} {C f d : String} {i : Int32} {a : Addr} (E : Ext h h') (F : own_En Z h C f d i a) : own_En Z h' C f d i a := ⟨F.1.ext E, F.2.1.ext E, F.2.2.ext E⟩
theorem own_En.ne {C f d g d' : String} {i j : Int32} {a b : Addr} (F : own_En Z h C f d i a) (G : own_En Z h C g d' j b) (q : i ≠ j) : a ≠ b := F.2.2.ne G.2.2 fun z => q (Value.int.inj z)
theorem own_fldv {t : Term} {FC ff : String} {i : Int32} {a : Addr} (ea : t.eval args Z none [] Z = some (.ref a)) (hO : (Cond.eq (.field t FC ff "I") (.int i)).value args Z none Z [] = some true) : Fld Z Z.heap a FC ff "I" (.int i) := by
  refine Fld.start ?_
  obtain ⟨x, y, e1, e2, k1, k2⟩ := cmp_v (Or.inl hO)
  have e3 : y = .int i := by simpa [Term.eval] using e2.symm
  subst e3
  obtain ⟨z, rfl⟩ : ∃ z, x = .int z := k2
  have e4 : z = i := by simpa [Cond.value, e1, e2] using hO
  subst e4
  rw [← fld_at ea]; exact e1
theorem own_sfld {C f d FC ff : String} {i : Int32} {a : Addr} (S : Sta Z Z.heap C f d (.ref a)) (hO : (Cond.eq (.field (.static C f d) FC ff "I") (.int i)).value args Z none Z [] = some true) : Fld Z Z.heap a FC ff "I" (.int i) :=
  own_fldv (S.fin (Vm.Alike.refl _)) hO
theorem own_enum {C f d : String} {i : Int32} (hX : (Cond.exactly (.static C f d) C).value args Z none Z [] = some true) (hO : (Cond.eq (.field (.static C f d) "java/lang/Enum" "ordinal" "I") (.int i)).value args Z none Z [] = some true) (w1 : (Cond.initialized C).before args Z = true) (w2 : (Cond.laysStatic C f d).before args Z = true) : ∃ a, own_En Z Z.heap C f d i a := by
  obtain ⟨a, ea⟩ := exa_v hX
  exact ⟨a, Sta.start ea (Or.inr ⟨w1, w2⟩), Exa.start ea hX, own_fldv ea hO⟩
end OwnKit
/-! The heap part: objects and arrays with known contents. -/
section OwnHeap
variable {p : Program} {l : Launch} {e : Env} {R : Room} {s : State} {m : MethodId} {args : Array Value} {below : List Frame} {meth : Method} {c : Code} {Z : State} {n0 : Nat} {own : String} {bytes : ByteArray} {ml : Nat} {rt : Option FieldType} {nm : String} {Q : Option Value → Heap → Prop} {h h' : Heap} {k n : Nat} {pc pc' : Nat} {Ls Ls' : Array Slot} {st rest : List Value} {a0 : Array Value} {f f' : JFrame}
/-- an object at a, exactly of class C; the fields that lay names hold vs -/
def own_Ob (Z : State) (h : Heap) (a : Addr) (C : String) (lay : List (String × String × String)) (vs : List Value) : Prop :=
  Exa Z h a C ∧ lay.length = vs.length ∧ ∀ (i : Nat) (x : String × String × String) (v : Value), lay[i]? = some x → vs[i]? = some v → Fld Z h a x.1 x.2.1 x.2.2 v
def own_LayOk (Z : State) (a0 : Array Value) (C : String) (lay : List (String × String × String)) : Prop :=
  (lay.map fun x => x.2.1).Nodup ∧ ∀ x ∈ lay, Laid Z a0 C x.1 x.2.1 x.2.2 ∧ ∃ t, parseFieldDescriptor x.2.2 = some t
theorem own_Ob.ext {a : Addr} {C : String} {lay : List (String × String × String)} {vs : List Value} (F : own_Ob Z h a C lay vs) (E : Ext h h') : own_Ob Z h' a C lay vs := ⟨F.1.ext E, F.2.1, fun i x v h1 h2 => (F.2.2 i x v h1 h2).ext E⟩
theorem own_Ob.other {a b : Addr} {C : String} {lay : List (String × String × String)} {vs : List Value} {sl : Nat} {v : Value} (F : own_Ob Z h b C lay vs) (W : Wr h h' a sl v) (q : b ≠ a) : own_Ob Z h' b C lay vs := ⟨F.1.wr W, F.2.1, fun i x v h1 h2 => (F.2.2 i x v h1 h2).other W (Or.inl q)⟩
theorem own_Ob.keep {a : Addr} {C : String} {lay : List (String × String × String)} {vs : List Value} {ws : List Addr} (F : own_Ob Z h a C lay vs) (K : Keep h h' ws) (q : a ∉ ws) : own_Ob Z h' a C lay vs := ⟨F.1.keep K, F.2.1, fun i x v h1 h2 => (F.2.2 i x v h1 h2).keep K q⟩
theorem own_Ob.lt {a : Nat} {C : String} {lay : List (String × String × String)} {vs : List Value} (F : own_Ob Z h a C lay vs) : a < h.size := F.1.lt
theorem own_Ob.get {a : Addr} {C O f d : String} {lay : List (String × String × String)} {vs : List Value} {v : Value} (F : own_Ob Z h a C lay vs) (i : Nat) (h1 : lay[i]? = some (O, f, d)) (h2 : vs[i]? = some v) : Fld Z h a O f d v := F.2.2 i _ v h1 h2
theorem own_Ob.put {a : Addr} {C O f d : String} {lay : List (String × String × String)} {vs vs' : List Value} {v : Value} (F : own_Ob Z h a C lay vs) (ok : own_LayOk Z a0 C lay) (i : Nat) (h1 : lay[i]? = some (O, f, d)) (W : Wr h h' a (RoadKit.slotOf Z O f d) v) (e : vs.set i v = vs') : own_Ob Z h' a C lay vs' := by
  subst e
  refine ⟨F.1.wr W, by simpa using F.2.1, fun j x w h3 h4 => ?_⟩
  by_cases q : j = i
  · subst q
    cases h1.symm.trans h3
    have hi : j < vs.length := by rw [← F.2.1]; exact (List.getElem?_eq_some_iff.mp h1).1
    obtain rfl : v = w := by simpa [hi] using h4
    exact (F.2.2 j (O, f, d) vs[j] h1 (List.getElem?_eq_getElem hi)).same W
  · rw [List.getElem?_set_ne (Ne.symm q)] at h4
    obtain ⟨lx, tx, px⟩ := ok.2 x (List.mem_of_getElem? h3)
    obtain ⟨lf, tf, pf⟩ := ok.2 _ (List.mem_of_getElem? h1)
    refine (F.2.2 j x w h3 h4).other W (Or.inr (slot_ne lx lf (fun z => q ?_) px pf))
    have h5 : (lay.map fun x => x.2.1)[j]? = some x.2.1 := by simp [h3]
    have h6 : (lay.map fun x => x.2.1)[i]? = some x.2.1 := by simp [h1, z]
    exact (List.getElem?_inj (List.getElem?_eq_some_iff.mp h5).1 ok.1).mp (h5.trans h6.symm)
def own_dflt (x : String × String × String) : Value := match parseFieldDescriptor x.2.2 with | some t => defaultValue t | none => .null
theorem own_newO (C : own_Cx Z p s m meth c own bytes ml rt nm) {Cn : String} {lay : List (String × String × String)} {vs : List Value} {i sl : Nat} (w : (Cond.classLink own i Cn).before a0 Z = true) (wi : (Cond.instantiable Cn sl).before a0 Z = true) (wz : (Cond.initialized Cn).before a0 Z = true) (ok : own_LayOk Z a0 Cn lay) (hv : lay.map own_dflt = vs) (hd : decode bytes pc = .ok (.new i, 3)) (hc : k + 1 ≤ R.cells) (hl : n + sl ≤ R.slots) (hp : pc + 3 = pc')
    (K : ∀ h' b, b = h.size → Ext h h' → own_Ob Z h' b Cn lay vs → own_At p l e R s m args below meth c n0 Q h' (k + 1) (n + sl) (mkF m pc' Ls (.ref b :: st))) :
    own_At p l e R s m args below meth c n0 Q h k n (mkF m pc Ls st) := by
  subst hp hv
  intro T L X N eT
  obtain ⟨T', h', X', e', E, A, D, -, stp⟩ := newO X C.1 C.2.1 C.2.2.1 w wi wz eT (g := mkF m pc Ls st) rfl (hb C.2.2.2.1 hd) hc hl
  refine own_via stp (K h' _ rfl E ⟨A, by simp, fun j x v h1 h2 => ?_⟩ T' L X' N e')
  obtain ⟨lx, tx, px⟩ := ok.2 x (List.mem_of_getElem? h1)
  have : v = defaultValue tx := by
    have : own_dflt x = v := by simpa [h1] using h2
    rw [← this, own_dflt, px]
  subst this
  exact D lx px
theorem own_getO (C : own_Cx Z p s m meth c own bytes ml rt nm) {R0 O f d Cn : String} {lay : List (String × String × String)} {vs : List Value} {i : Nat} {a : Addr} {v : Value} (w : (Cond.fieldLink own i R0 f d).before a0 Z = true) (via : Via Z R0 O f d) (F : own_Ob Z h a Cn lay vs) (j : Nat) (h1 : lay[j]? = some (O, f, d)) (h2 : vs[j]? = some v) (hd : decode bytes pc = .ok (.getfield i, 3)) (hp : pc + 3 = pc')
    (K : own_At p l e R s m args below meth c n0 Q h k n (mkF m pc' Ls (v :: st))) : own_At p l e R s m args below meth c n0 Q h k n (mkF m pc Ls (.ref a :: st)) :=
  own_getfield C w via (F.get j h1 h2) hd hp K
theorem own_getN (C : own_Cx Z p s m meth c own bytes ml rt nm) {R0 O f d Cn host : String} {lay : List (String × String × String)} {vs : List Value} {i : Nat} {a : Addr} {v : Value} (w : (Cond.fieldLinkNest own i R0 f d host).before a0 Z = true) (via : Via Z R0 O f d) (F : own_Ob Z h a Cn lay vs) (j : Nat) (h1 : lay[j]? = some (O, f, d)) (h2 : vs[j]? = some v) (hd : decode bytes pc = .ok (.getfield i, 3)) (hp : pc + 3 = pc')
    (K : own_At p l e R s m args below meth c n0 Q h k n (mkF m pc' Ls (v :: st))) : own_At p l e R s m args below meth c n0 Q h k n (mkF m pc Ls (.ref a :: st)) := by
  subst hp
  intro T L X N eT
  obtain ⟨T', X', e', stp⟩ := getF X C.1 C.2.1 C.2.2.1 (host := host) (Or.inr w) via eT (F.get j h1 h2) (g := mkF m pc Ls (.ref a :: st)) rfl rfl (hb C.2.2.2.1 hd)
  exact own_via stp (K T' L X' N e')
theorem own_putO (C : own_Cx Z p s m meth c own bytes ml rt nm) {R0 O f d Cn : String} {lay : List (String × String × String)} {vs vs' : List Value} {i kk : Nat} {ty : FieldType} {a : Addr} {v : Value} (w : (Cond.fieldLink own i R0 f d).before a0 Z = true) (via : Via Z R0 O f d) (F : own_Ob Z h a Cn lay vs) (ok : own_LayOk Z a0 Cn lay) (j : Nat) (h1 : lay[j]? = some (O, f, d)) (h2 : vs.set j v = vs')
    (Ly : (Cond.lays Cn O f d).before a0 Z = true ∨ ((Cond.laysFinal Cn O f d).before a0 Z = true ∧ own = O ∧ nm = "<init>")) (wi : (Cond.instantiable Cn kk).before a0 Z = true) (hty : parseFieldDescriptor d = some ty) (hn : narrow ty v = v) (hf : fits ty v = true) (ha : n0 ≤ a) (hd : decode bytes pc = .ok (.putfield i, 3)) (hp : pc + 3 = pc')
    (K : ∀ h', Wr h h' a (RoadKit.slotOf Z O f d) v → own_Ob Z h' a Cn lay vs' → own_At p l e R s m args below meth c n0 Q h' k n (mkF m pc' Ls st)) : own_At p l e R s m args below meth c n0 Q h k n (mkF m pc Ls (v :: .ref a :: st)) := by
  subst hp
  intro T L X N eT
  have hj : j < vs.length := by rw [← F.2.1]; exact (List.getElem?_eq_some_iff.mp h1).1
  obtain ⟨T', h', X', e', W, stp⟩ := putF X C.1 C.2.1 C.2.2.1 (host := "") (Or.inl w) via eT (F.get j h1 (List.getElem?_eq_getElem hj)) F.1 (Ly.imp id fun q => ⟨q.1, q.2.1, C.2.2.2.2.2.2.2.trans q.2.2⟩) wi hty hn hf (g := mkF m pc Ls (v :: .ref a :: st)) rfl rfl (hb C.2.2.2.1 hd)
  exact own_via stp (K h' W (F.put ok j h1 W h2) T' _ X' (Fr.snoc X' N ha) e')
/-- what may lie in an array of the class cA: the objects of K -/
def own_Ov (Z : State) (cA : ClassId) (K : String) : Prop := ∃ (k : Class) (comp : ClassId) (t : FieldType), Z.vm.classes[cA]? = some k ∧ k.kind = .array comp t ∧ Z.vm.findClass K = some comp
/-- an array at a, its elements the list vs; its class ad; K: the class of its elements ("": none is stored) -/
def own_Ar (Z : State) (h : Heap) (a : Addr) (ty : FieldType) (ad K : String) (vs : List Value) : Prop := ∃ cl : Cell, Arr Z h a cl ty ∧ cl.slots.toList = vs ∧ vs.length < 2 ^ 31 ∧ Exa Z h a ad ∧ (K = "" ∨ own_Ov Z cl.cls K)
section Arrays
variable {a b : Addr} {ty : FieldType} {ad Kc : String} {vs vs' : List Value} {j : Int32} {v : Value}
theorem own_Ar.ext (A : own_Ar Z h a ty ad Kc vs) (E : Ext h h') : own_Ar Z h' a ty ad Kc vs := by obtain ⟨cl, q, r1, r2, r3, r4⟩ := A; exact ⟨cl, q.ext E, r1, r2, r3.ext E, r4⟩
theorem own_Ar.other {sl : Nat} (A : own_Ar Z h b ty ad Kc vs) (W : Wr h h' a sl v) (q : b ≠ a) : own_Ar Z h' b ty ad Kc vs := by obtain ⟨cl, g, r1, r2, r3, r4⟩ := A; exact ⟨cl, g.other W q, r1, r2, r3.wr W, r4⟩
theorem own_Ar.keep {ws : List Addr} (A : own_Ar Z h a ty ad Kc vs) (K : Keep h h' ws) (q : a ∉ ws) : own_Ar Z h' a ty ad Kc vs := by obtain ⟨cl, g, r1, r2, r3, r4⟩ := A; exact ⟨cl, ⟨K.2.1 a cl g.1 q, g.2⟩, r1, r2, r3.keep K, r4⟩
theorem own_Ar.lt {a : Nat} (A : own_Ar Z h a ty ad Kc vs) : a < h.size := by obtain ⟨cl, g, -⟩ := A; exact g.lt
theorem own_Ar.exa (A : own_Ar Z h a ty ad Kc vs) : Exa Z h a ad := by obtain ⟨cl, g, r1, r2, r3, r4⟩ := A; exact r3
theorem own_Ar.same {i : Nat} (A : own_Ar Z h a ty ad Kc vs) (W : Wr h h' a i v) (e : vs.set i v = vs') : own_Ar Z h' a ty ad Kc vs' := by
  subst e
  obtain ⟨cl, g, r1, r2, r3, r4⟩ := A
  refine ⟨_, g.same W, ?_, by simpa using r2, r3.wr W, r4⟩
  subst r1
  simp [Cell.setSlot]
theorem own_idx {cl : Cell} (hs : cl.slots.toList = vs) (hj : ¬ j < 0) (hv : vs[j.toNatClampNeg]? = some v) : ¬ (j < 0 ∨ cl.slots.size ≤ j.toNatClampNeg) ∧ cl.slots[j.toNatClampNeg]? = some v := by
  subst hs
  have q : cl.slots[j.toNatClampNeg]? = some v := by simpa using hv
  have := (Array.getElem?_eq_some_iff.mp q).1
  exact ⟨fun z => z.elim hj (fun z => by omega), q⟩
theorem own_lt {cl : Cell} (hs : cl.slots.toList = vs) (hj : ¬ j < 0) (hv : j.toNatClampNeg < vs.length) : ¬ (j < 0 ∨ cl.slots.size ≤ j.toNatClampNeg) := by
  subst hs
  have : j.toNatClampNeg < cl.slots.size := by simpa using hv
  exact fun z => z.elim hj (fun z => by omega)
theorem own_Ar.sto {y : Addr} (A : own_Ar Z h a ty ad Kc vs) (hK : Kc ≠ "") (I : Ins Z h y Kc true) : Sto Z h a (.ref y) := by
  obtain ⟨cl, g, r1, r2, r3, r4⟩ := A
  obtain ⟨k, comp, t, o1, o2, o3⟩ := r4.resolve_left hK
  obtain ⟨cv, cT, i1, i2, i3⟩ := I
  cases o3.symm.trans i2
  simp only [Bool.and_eq_true, Bool.not_eq_true'] at i3
  obtain ⟨kc, q⟩ := Vm.classAt_of_findClass o3
  obtain ⟨kv, q2⟩ := Vm.classAt_of_assignable i3.2 ⟨kc, q⟩
  exact Or.inr ⟨cl, cv, k, kv, kc, _, _, y, g.1, o1, o2, q, rfl, i1, i3.1, q2, i3.2⟩
theorem own_arraylength (C : own_Cx Z p s m meth c own bytes ml rt nm) {z : Int32} (A : own_Ar Z h a ty ad Kc vs) (hz : vs.length.toInt32 = z) (hd : decode bytes pc = .ok (.arraylength, 1)) (hp : pc + 1 = pc')
    (K : own_At p l e R s m args below meth c n0 Q h k n (mkF m pc' Ls (.int z :: st))) : own_At p l e R s m args below meth c n0 Q h k n (mkF m pc Ls (.ref a :: st)) := by
  subst hp hz
  obtain ⟨cl, A, rfl, -⟩ := A
  intro T L X N eT
  exact own_via (fun t hr => X.arraylength C.1 (by rw [eT]; exact A.1) (State.isArrayOf_alike C.2.1.alike A.2.1) (g := mkF m pc Ls (.ref a :: st)) rfl rfl (hb C.2.2.2.1 hd) t (by simpa using hr)) (K T L X N eT)
theorem own_iaload (C : own_Cx Z p s m meth c own bytes ml rt nm) (A : own_Ar Z h a .int ad Kc vs) (hj : ¬ j < 0) (hv : vs[j.toNatClampNeg]? = some v) (hd : decode bytes pc = .ok (.iaload, 1)) (hp : pc + 1 = pc')
    (K : own_At p l e R s m args below meth c n0 Q h k n (mkF m pc' Ls (v :: st))) : own_At p l e R s m args below meth c n0 Q h k n (mkF m pc Ls (.int j :: .ref a :: st)) := by
  subst hp
  obtain ⟨cl, A, r, -⟩ := A
  obtain ⟨q1, q2⟩ := own_idx r hj hv
  intro T L X N eT
  exact own_via (fun t hr => X.iaload C.1 (j := j) (v := v) (by rw [eT]; exact A.1) (State.isArrayOf_alike C.2.1.alike A.2.1) A.2.2 q1 q2 (g := mkF m pc Ls (.int j :: .ref a :: st)) rfl rfl (hb C.2.2.2.1 hd) t hr) (K T L X N eT)
theorem own_baload (C : own_Cx Z p s m meth c own bytes ml rt nm) (A : own_Ar Z h a .byte ad Kc vs) (hj : ¬ j < 0) (hv : vs[j.toNatClampNeg]? = some v) (hd : decode bytes pc = .ok (.baload, 1)) (hp : pc + 1 = pc')
    (K : own_At p l e R s m args below meth c n0 Q h k n (mkF m pc' Ls (v :: st))) : own_At p l e R s m args below meth c n0 Q h k n (mkF m pc Ls (.int j :: .ref a :: st)) := by
  subst hp
  obtain ⟨cl, A, r, -⟩ := A
  obtain ⟨q1, q2⟩ := own_idx r hj hv
  intro T L X N eT
  exact own_via (fun t hr => X.baloadBytes C.1 (j := j) (v := v) (by rw [eT]; exact A.1) (State.isArrayOf_alike C.2.1.alike A.2.1) A.2.2 q1 q2 (g := mkF m pc Ls (.int j :: .ref a :: st)) rfl rfl (hb C.2.2.2.1 hd) t hr) (K T L X N eT)
theorem own_caload (C : own_Cx Z p s m meth c own bytes ml rt nm) (A : own_Ar Z h a .char ad Kc vs) (hj : ¬ j < 0) (hv : vs[j.toNatClampNeg]? = some v) (hd : decode bytes pc = .ok (.caload, 1)) (hp : pc + 1 = pc')
    (K : own_At p l e R s m args below meth c n0 Q h k n (mkF m pc' Ls (v :: st))) : own_At p l e R s m args below meth c n0 Q h k n (mkF m pc Ls (.int j :: .ref a :: st)) := by
  subst hp
  obtain ⟨cl, A, r, -⟩ := A
  obtain ⟨q1, q2⟩ := own_idx r hj hv
  intro T L X N eT
  exact own_via (fun t hr => X.caload C.1 (j := j) (v := v) (by rw [eT]; exact A.1) (State.isArrayOf_alike C.2.1.alike A.2.1) A.2.2 q1 q2 (g := mkF m pc Ls (.int j :: .ref a :: st)) rfl rfl (hb C.2.2.2.1 hd) t hr) (K T L X N eT)
theorem own_aaload (C : own_Cx Z p s m meth c own bytes ml rt nm) (A : own_Ar Z h a ty ad Kc vs) (hty : ty.isReference = true) (hj : ¬ j < 0) (hv : vs[j.toNatClampNeg]? = some v) (hd : decode bytes pc = .ok (.aaload, 1)) (hp : pc + 1 = pc')
    (K : own_At p l e R s m args below meth c n0 Q h k n (mkF m pc' Ls (v :: st))) : own_At p l e R s m args below meth c n0 Q h k n (mkF m pc Ls (.int j :: .ref a :: st)) := by
  subst hp
  obtain ⟨cl, A, r, -⟩ := A
  obtain ⟨q1, q2⟩ := own_idx r hj hv
  intro T L X N eT
  exact own_via (fun t hr => X.aaload C.1 (j := j) (v := v) (by rw [eT]; exact A.1) (State.isArrayOf_alike C.2.1.alike A.2.1) hty A.2.2 q1 q2 (g := mkF m pc Ls (.int j :: .ref a :: st)) rfl rfl (hb C.2.2.2.1 hd) t hr) (K T L X N eT)
theorem own_iastore (C : own_Cx Z p s m meth c own bytes ml rt nm) {x z : Int32} (A : own_Ar Z h a .int ad Kc vs) (hj : ¬ j < 0) (hv : j.toNatClampNeg < vs.length) (hz : x = z) (hs : vs.set j.toNatClampNeg (.int z) = vs') (ha : n0 ≤ a) (hd : decode bytes pc = .ok (.iastore, 1)) (hp : pc + 1 = pc')
    (K : ∀ h', Wr h h' a j.toNatClampNeg (.int z) → own_Ar Z h' a .int ad Kc vs' → own_At p l e R s m args below meth c n0 Q h' k n (mkF m pc' Ls st)) : own_At p l e R s m args below meth c n0 Q h k n (mkF m pc Ls (.int x :: .int j :: .ref a :: st)) := by
  subst hp hz
  have A0 := A
  obtain ⟨cl, A, r, -⟩ := A
  intro T L X N eT
  obtain ⟨T', h', X', e', W, stp⟩ := stI X C.1 C.2.1 eT A (own_lt r hj hv) (g := mkF m pc Ls (.int x :: .int j :: .ref a :: st)) rfl rfl (hb C.2.2.2.1 hd)
  exact own_via stp (K h' W (A0.same W hs) T' _ X' (Fr.snoc X' N ha) e')
theorem own_bastore (C : own_Cx Z p s m meth c own bytes ml rt nm) {x z : Int32} (A : own_Ar Z h a .byte ad Kc vs) (hj : ¬ j < 0) (hv : j.toNatClampNeg < vs.length) (hz : (nar .byte x) = z) (hs : vs.set j.toNatClampNeg (.int z) = vs') (ha : n0 ≤ a) (hd : decode bytes pc = .ok (.bastore, 1)) (hp : pc + 1 = pc')
    (K : ∀ h', Wr h h' a j.toNatClampNeg (.int z) → own_Ar Z h' a .byte ad Kc vs' → own_At p l e R s m args below meth c n0 Q h' k n (mkF m pc' Ls st)) : own_At p l e R s m args below meth c n0 Q h k n (mkF m pc Ls (.int x :: .int j :: .ref a :: st)) := by
  subst hp hz
  have A0 := A
  obtain ⟨cl, A, r, -⟩ := A
  intro T L X N eT
  obtain ⟨T', h', X', e', W, stp⟩ := stB X C.1 C.2.1 eT A (own_lt r hj hv) (g := mkF m pc Ls (.int x :: .int j :: .ref a :: st)) rfl rfl (hb C.2.2.2.1 hd)
  exact own_via stp (K h' W (A0.same W hs) T' _ X' (Fr.snoc X' N ha) e')
theorem own_castore (C : own_Cx Z p s m meth c own bytes ml rt nm) {x z : Int32} (A : own_Ar Z h a .char ad Kc vs) (hj : ¬ j < 0) (hv : j.toNatClampNeg < vs.length) (hz : (nar .char x) = z) (hs : vs.set j.toNatClampNeg (.int z) = vs') (ha : n0 ≤ a) (hd : decode bytes pc = .ok (.castore, 1)) (hp : pc + 1 = pc')
    (K : ∀ h', Wr h h' a j.toNatClampNeg (.int z) → own_Ar Z h' a .char ad Kc vs' → own_At p l e R s m args below meth c n0 Q h' k n (mkF m pc' Ls st)) : own_At p l e R s m args below meth c n0 Q h k n (mkF m pc Ls (.int x :: .int j :: .ref a :: st)) := by
  subst hp hz
  have A0 := A
  obtain ⟨cl, A, r, -⟩ := A
  intro T L X N eT
  obtain ⟨T', h', X', e', W, stp⟩ := stC X C.1 C.2.1 eT A (own_lt r hj hv) (g := mkF m pc Ls (.int x :: .int j :: .ref a :: st)) rfl rfl (hb C.2.2.2.1 hd)
  exact own_via stp (K h' W (A0.same W hs) T' _ X' (Fr.snoc X' N ha) e')
theorem own_bastoreZ (C : own_Cx Z p s m meth c own bytes ml rt nm) {x z : Int32} (A : own_Ar Z h a .boolean ad Kc vs) (hj : ¬ j < 0) (hv : j.toNatClampNeg < vs.length) (hz : (nar .boolean x) = z) (hs : vs.set j.toNatClampNeg (.int z) = vs') (ha : n0 ≤ a) (hd : decode bytes pc = .ok (.bastore, 1)) (hp : pc + 1 = pc')
    (K : ∀ h', Wr h h' a j.toNatClampNeg (.int z) → own_Ar Z h' a .boolean ad Kc vs' → own_At p l e R s m args below meth c n0 Q h' k n (mkF m pc' Ls st)) : own_At p l e R s m args below meth c n0 Q h k n (mkF m pc Ls (.int x :: .int j :: .ref a :: st)) := by
  subst hp hz
  have A0 := A
  obtain ⟨cl, A, r, -⟩ := A
  intro T L X N eT
  obtain ⟨T', h', X', e', W, stp⟩ := stZ X C.1 C.2.1 eT A (own_lt r hj hv) (g := mkF m pc Ls (.int x :: .int j :: .ref a :: st)) rfl rfl (hb C.2.2.2.1 hd)
  exact own_via stp (K h' W (A0.same W hs) T' _ X' (Fr.snoc X' N ha) e')
theorem own_aastore (C : own_Cx Z p s m meth c own bytes ml rt nm) (A : own_Ar Z h a ty ad Kc vs) (hty : ty.isReference = true) (S : Sto Z h a v) (hj : ¬ j < 0) (hv : j.toNatClampNeg < vs.length) (hs : vs.set j.toNatClampNeg v = vs') (ha : n0 ≤ a) (hd : decode bytes pc = .ok (.aastore, 1)) (hp : pc + 1 = pc')
    (K : ∀ h', Wr h h' a j.toNatClampNeg v → own_Ar Z h' a ty ad Kc vs' → own_At p l e R s m args below meth c n0 Q h' k n (mkF m pc' Ls st)) : own_At p l e R s m args below meth c n0 Q h k n (mkF m pc Ls (v :: .int j :: .ref a :: st)) := by
  subst hp
  have A0 := A
  obtain ⟨cl, A, r, -⟩ := A
  intro T L X N eT
  obtain ⟨T', h', X', e', W, stp⟩ := stR X C.1 C.2.1 eT A (own_lt r hj hv) hty S (g := mkF m pc Ls (v :: .int j :: .ref a :: st)) rfl rfl (hb C.2.2.2.1 hd)
  exact own_via stp (K h' W (A0.same W hs) T' _ X' (Fr.snoc X' N ha) e')
theorem own_newarray (C : own_Cx Z p s m meth c own bytes ml rt nm) {aty : ArrayType} {z : Int32} (w : (Cond.arrayClass (newarray.typeOf aty)).before a0 Z = true) (hz : ¬ z < 0) {cap : Nat} (hcap : z.toNatClampNeg ≤ cap) (hb' : cap * 8 ≤ 536870912) (had : "[" ++ (newarray.typeOf aty).toString = ad) (hvs : List.replicate z.toNatClampNeg (defaultValue (newarray.typeOf aty)) = vs) (hd : decode bytes pc = .ok (.newarray aty, 2)) (hc : k + 1 ≤ R.cells) (hl : n + cap ≤ R.slots) (hp : pc + 2 = pc')
    (K : ∀ h' b, b = h.size → Ext h h' → own_Ar Z h' b (newarray.typeOf aty) ad "" vs → own_At p l e R s m args below meth c n0 Q h' (k + 1) (n + cap) (mkF m pc' Ls (.ref b :: st))) : own_At p l e R s m args below meth c n0 Q h k n (mkF m pc Ls (.int z :: st)) := by
  subst hp hvs
  intro T L X N eT
  obtain ⟨T', h', cA, X', e', E, A, Ex, stp⟩ := newPE X C.1 C.2.1 w eT (g := mkF m pc Ls (.int z :: st)) rfl (hb C.2.2.2.1 hd) rfl hz hcap hb' hc hl had
  exact own_via stp (K h' _ rfl E ⟨_, A, by simp [newA], by simp; exact (back32 hz).2, Ex, Or.inl rfl⟩ T' L X' N e')
theorem own_anewarray (C : own_Cx Z p s m meth c own bytes ml rt nm) {Cn : String} {i : Nat} {z : Int32} (w : (Cond.classLink own i Cn).before a0 Z = true) (w2 : (Cond.arrayOver (.object Cn)).before a0 Z = true) (hz : ¬ z < 0) {cap : Nat} (hcap : z.toNatClampNeg ≤ cap) (hb' : cap * 8 ≤ 536870912) (had : "[" ++ (FieldType.object Cn).toString = ad) (hvs : List.replicate z.toNatClampNeg .null = vs) (hd : decode bytes pc = .ok (.anewarray i, 3)) (hc : k + 1 ≤ R.cells) (hl : n + cap ≤ R.slots) (hp : pc + 3 = pc')
    (K : ∀ h' b, b = h.size → Ext h h' → own_Ar Z h' b (.object Cn) ad Cn vs → own_At p l e R s m args below meth c n0 Q h' (k + 1) (n + cap) (mkF m pc' Ls (.ref b :: st))) : own_At p l e R s m args below meth c n0 Q h k n (mkF m pc Ls (.int z :: st)) := by
  subst hp hvs
  intro T L X N eT
  obtain ⟨T', h', cA, X', e', E, A, Ex, O, stp⟩ := newRE X C.1 C.2.1 C.2.2.1 w w2 eT (g := mkF m pc Ls (.int z :: st)) rfl (hb C.2.2.2.1 hd) rfl hz hcap hb' hc hl had
  obtain ⟨kk, comp, o1, o2, o3⟩ := O
  exact own_via stp (K h' _ rfl E ⟨_, A, by simp [newA, defaultValue], by simp; exact (back32 hz).2, Ex, Or.inr ⟨kk, comp, _, o1, o2, o3⟩⟩ T' L X' N e')
theorem own_anewarrayA (C : own_Cx Z p s m meth c own bytes ml rt nm) {Cn : String} {i : Nat} {z : Int32} (hC : (FieldType.array ty).toString = Cn) (w : (Cond.classLink own i Cn).before a0 Z = true) (w2 : (Cond.arrayOver (.array ty)).before a0 Z = true) (hz : ¬ z < 0) {cap : Nat} (hcap : z.toNatClampNeg ≤ cap) (hb' : cap * 8 ≤ 536870912) (had : "[" ++ Cn = ad) (hvs : List.replicate z.toNatClampNeg .null = vs) (hd : decode bytes pc = .ok (.anewarray i, 3)) (hc : k + 1 ≤ R.cells) (hl : n + cap ≤ R.slots) (hp : pc + 3 = pc')
    (K : ∀ h' b, b = h.size → Ext h h' → own_Ar Z h' b (.array ty) ad Cn vs → own_At p l e R s m args below meth c n0 Q h' (k + 1) (n + cap) (mkF m pc' Ls (.ref b :: st))) : own_At p l e R s m args below meth c n0 Q h k n (mkF m pc Ls (.int z :: st)) := by
  subst hp hvs
  intro T L X N eT
  obtain ⟨T', h', cA, X', e', E, A, Ex, O, stp⟩ := newRA X C.1 C.2.1 C.2.2.1 hC w w2 eT (g := mkF m pc Ls (.int z :: st)) rfl (hb C.2.2.2.1 hd) rfl hz hcap hb' hc hl had
  obtain ⟨kk, comp, o1, o2, o3⟩ := O
  exact own_via stp (K h' _ rfl E ⟨_, A, by simp [newA, defaultValue], by simp; exact (back32 hz).2, Ex, Or.inr ⟨kk, comp, _, o1, o2, o3⟩⟩ T' L X' N e')
end Arrays
theorem own_castY (C : own_Cx Z p s m meth c own bytes ml rt nm) {Kc : String} {i : Nat} {a : Addr} (w : (Cond.classLink own i Kc).before a0 Z = true) (I : Ins Z h a Kc true) (hd : decode bytes pc = .ok (.checkcast i, 3)) (hp : pc + 3 = pc')
    (K : own_At p l e R s m args below meth c n0 Q h k n (mkF m pc' Ls (.ref a :: st))) : own_At p l e R s m args below meth c n0 Q h k n (mkF m pc Ls (.ref a :: st)) := by
  subst hp
  intro T L X N eT
  obtain ⟨T', X', e', stp⟩ := castY X C.1 C.2.1 C.2.2.1 w eT I (g := mkF m pc Ls (.ref a :: st)) rfl rfl (hb C.2.2.2.1 hd)
  exact own_via stp (K T' L X' N e')
theorem own_dup_x1 (C : own_Cx Z p s m meth c own bytes ml rt nm) {x y : Value} (hd : decode bytes pc = .ok (.dup_x1, 1)) (hx : x.category = 1) (hy : y.category = 1) (hp : pc + 1 = pc')
    (K : own_At p l e R s m args below meth c n0 Q h k n (mkF m pc' Ls (x :: y :: x :: st))) : own_At p l e R s m args below meth c n0 Q h k n (mkF m pc Ls (x :: y :: st)) := by
  subst hp; exact own_of (fun T L X t hr => XS.dupX1 X.here C.1 rfl (hb C.2.2.2.1 hd) rfl hx hy hr) K
theorem own_dup2 (C : own_Cx Z p s m meth c own bytes ml rt nm) {x y : Value} (hd : decode bytes pc = .ok (.dup2, 1)) (hx : x.category = 1) (hy : y.category = 1) (hp : pc + 1 = pc')
    (K : own_At p l e R s m args below meth c n0 Q h k n (mkF m pc' Ls (x :: y :: x :: y :: st))) : own_At p l e R s m args below meth c n0 Q h k n (mkF m pc Ls (x :: y :: st)) := by
  subst hp
  refine own_of (fun T L X t hr => ?_) K
  have hd' := hb C.2.2.2.1 hd
  have hx' := C.1
  jvm_step X.here [X.here.top, hx', hd', hx, hy]
  exact hr
/-! the old part of the heap, and places -/
theorem own_old {ws : List Addr} (X : Old Z n0 h) (K : Keep h h' ws) (q : ∀ x ∈ ws, n0 ≤ x) : Old Z n0 h' := X.keep K q
theorem own_Keep.trans {h'' : Heap} {ws ws' : List Addr} (K : Keep h h' ws) (K' : Keep h' h'' ws') (q : ∀ x ∈ ws', x ∈ ws ∨ h.size ≤ x) : Keep h h'' ws := K.trans K' q
theorem own_ke (E : Ext h h') : Keep h h' [] := (Keep.refl h []).ext E
theorem own_nil {α : Type} {P : α → Prop} : ∀ x ∈ ([] : List α), P x := fun _ q => nomatch q
theorem own_allS {α : Type} {P : α → Prop} {y : α} {L : List α} (q : P y) (r : ∀ x ∈ L, P x) : ∀ x ∈ y :: L, P x := fun x z => (List.mem_cons.mp z).elim (fun u => u ▸ q) (r x)
/-- a static that holds a, and what is known of a -/
def own_Sx (Z : State) (C f d : String) (a : Addr) (P : Prop) : Prop := Sta Z Z.heap C f d (.ref a) ∧ P
def own_layE : List (String × String × String) := [("java/lang/Enum", "ordinal", "I")]
def own_layN : List (String × String × String) := []
theorem own_En.ob {C f d : String} {i : Int32} {a : Addr} (E : own_En Z Z.heap C f d i a) : own_Sx Z C f d a (own_Ob Z Z.heap a C own_layE [.int i]) := ⟨E.1, E.2.1, rfl, fun j x v h1 h2 => by
  match j, h1, h2 with
  | 0, h1, h2 => cases h1; cases h2; exact E.2.2⟩
theorem own_exob {C f d : String} (hX : (Cond.exactly (.static C f d) C).value args Z none Z [] = some true) (w1 : (Cond.initialized C).before args Z = true) (w2 : (Cond.laysStatic C f d).before args Z = true) : ∃ a, own_Sx Z C f d a (own_Ob Z Z.heap a C own_layN []) := by
  obtain ⟨a, ea⟩ := exa_v hX
  exact ⟨a, Sta.start ea (Or.inr ⟨w1, w2⟩), Exa.start ea hX, rfl, fun j x v h1 h2 => by cases h1⟩
theorem own_sets {L : List Jvm.Cond} {R : Jvm.Cond} (q : (L.foldr Jvm.Cond.and R).before args s = true) : ∀ c ∈ L, c.before args s = true := by
  induction L with
  | nil => intro c hc; cases hc
  | cons a L ih =>
    intro c hc
    have q' : (Jvm.Cond.and a (L.foldr Jvm.Cond.and R)).before args s = true := q
    rw [Cond.before_and, Bool.and_eq_true] at q'
    rcases List.mem_cons.mp hc with rfl | hc
    · exact q'.1
    · exact ih q'.2 c hc
theorem own_starr {C f d ad K : String} {ty : FieldType} (hA : (Cond.arrayOf (.static C f d) ty).value args Z none Z [] = some true) (hX : (Cond.exactly (.static C f d) ad).value args Z none Z [] = some true) (hL : (Cond.eq (.length (.static C f d)) (.int 0)).value args Z none Z [] = some true) (hi : (Cond.initializedFor C f d).before args Z = true ∨ ((Cond.initialized C).before args Z = true ∧ (Cond.laysStatic C f d).before args Z = true)) (hK : K = "" := by rfl) : ∃ a, own_Sx Z C f d a (own_Ar Z Z.heap a ty ad K []) := by
  obtain ⟨a, ea⟩ := arr_v hA
  obtain ⟨cl, A⟩ := Arr.start ea hA
  refine ⟨a, Sta.start ea hi, cl, A, ?_, by decide, Exa.start ea hX, Or.inl hK⟩
  obtain ⟨x, y, e1, e2, -, -⟩ := cmp_v (Or.inl hL)
  obtain ⟨a', cl', e3, e4, e5⟩ := Term.length_spec e1
  cases ea.symm.trans e3
  have e6 : cl' = cl := by
    have := (State.arrayAt?_spec e4).1
    exact Option.some.inj (this.symm.trans A.1)
  subst e6
  have e7 : y = .int 0 := by simpa [Term.eval] using e2.symm
  subst e7
  subst e5
  have e8 : cl'.slots.size < 2 ^ 31 := by
    by_cases q : cl'.slots.size < 2 ^ 31
    · exact q
    · clear hL hA hX
      revert e1 ea
      generalize Term.static C f d = t
      intro ea e1
      simp [Term.eval, ea, e4, q] at e1
  have e9 : cl'.slots.size.toInt32 = 0 := by simpa [Cond.value, e1, e2] using hL
  have e10 : (cl'.slots.size : Int) = 0 := by rw [← len_toInt e8, e9]; rfl
  have : cl'.slots.size = 0 := by omega
  simpa using this
theorem own_stob {C f d ff : String} {i : Int32} (hX : (Cond.exactly (.static C f d) C).value args Z none Z [] = some true) (hO : (Cond.eq (.field (.static C f d) C ff "I") (.int i)).value args Z none Z [] = some true) (hi : (Cond.initializedFor C f d).before args Z = true ∨ ((Cond.initialized C).before args Z = true ∧ (Cond.laysStatic C f d).before args Z = true)) : ∃ a, own_Sx Z C f d a (own_Ob Z Z.heap a C [(C, ff, "I")] [.int i]) := by
  obtain ⟨a, ea⟩ := exa_v hX
  refine ⟨a, Sta.start ea hi, Exa.start ea hX, rfl, fun j x v h1 h2 => ?_⟩
  match j, h1, h2 with
  | 0, h1, h2 => cases h1; cases h2; exact own_fldv ea hO
theorem own_Ob.ne {a b : Addr} {C C' : String} {lay lay' : List (String × String × String)} {vs vs' : List Value} {x : String × String × String} {v v' : Value} (F : own_Ob Z h a C lay vs) (G : own_Ob Z h b C' lay' vs') (i j : Nat) (h1 : lay[i]? = some x) (h2 : vs[i]? = some v) (h3 : lay'[j]? = some x) (h4 : vs'[j]? = some v') (q : v ≠ v') : a ≠ b := (F.2.2 i x v h1 h2).ne (G.2.2 j x v' h3 h4) q
end OwnHeap
theorem own_pd0 : parseMethodDescriptor "(I)Lcom/example/valet3/valet3/core/Endpoint;" = some ⟨[.int], some (.object "com/example/valet3/valet3/core/Endpoint")⟩ := by decide +kernel
theorem own_pd1 : parseMethodDescriptor "()V" = some ⟨[], none⟩ := by decide +kernel
theorem own_pd2 : parseMethodDescriptor "(Lcom/example/valet3/valet3/core/Refusal;Lcom/example/valet3/valet3/core/Endpoint;Lcom/example/valet3/valet3/core/Route;Ljava/lang/String;Ljava/lang/String;)V" = some ⟨[(.object "com/example/valet3/valet3/core/Refusal"), (.object "com/example/valet3/valet3/core/Endpoint"), (.object "com/example/valet3/valet3/core/Route"), (.object "java/lang/String"), (.object "java/lang/String")], none⟩ := by decide +kernel
theorem own_pd3 : parseMethodDescriptor "(Lcom/example/valet3/valet3/core/Endpoint;)Lcom/example/valet3/valet3/core/Routing;" = some ⟨[(.object "com/example/valet3/valet3/core/Endpoint")], some (.object "com/example/valet3/valet3/core/Routing")⟩ := by decide +kernel
theorem own_pd4 : parseMethodDescriptor "()Lcom/example/valet3/valet3/core/Endpoint;" = some ⟨[], some (.object "com/example/valet3/valet3/core/Endpoint")⟩ := by decide +kernel
theorem own_pd5 : parseMethodDescriptor "()Lcom/example/valet3/valet3/core/Refusal;" = some ⟨[], some (.object "com/example/valet3/valet3/core/Refusal")⟩ := by decide +kernel
theorem own_pd6 : parseMethodDescriptor "()Lcom/example/valet3/valet3/core/Route;" = some ⟨[], some (.object "com/example/valet3/valet3/core/Route")⟩ := by decide +kernel
theorem own_pd7 : parseMethodDescriptor "()Ljava/lang/String;" = some ⟨[], some (.object "java/lang/String")⟩ := by decide +kernel
theorem own_pd8 : parseMethodDescriptor "()Z" = some ⟨[], some .boolean⟩ := by decide +kernel
theorem own_d1_0 : decode method_2_code 0 = .ok (.iload_n 0, 1) := by decide +kernel
theorem own_d1_1 : decode method_2_code 1 = .ok (.ldc 7, 2) := by decide +kernel
theorem own_d1_3 : decode method_2_code 3 = .ok (.iand, 1) := by decide +kernel
theorem own_d1_4 : decode method_2_code 4 = .ok (.iconst 3, 1) := by decide +kernel
theorem own_d1_5 : decode method_2_code 5 = .ok (.irem, 1) := by decide +kernel
theorem own_d1_6 : decode method_2_code 6 = .ok (.istore_n 1, 1) := by decide +kernel
theorem own_d1_7 : decode method_2_code 7 = .ok (.iload_n 1, 1) := by decide +kernel
theorem own_d1_8 : decode method_2_code 8 = .ok (.ifCond .ne 7, 3) := by decide +kernel
theorem own_d1_11 : decode method_2_code 11 = .ok (.getstatic 8, 3) := by decide +kernel
theorem own_d1_14 : decode method_2_code 14 = .ok (.areturn, 1) := by decide +kernel
theorem own_d2_0 : decode prog_70_method_3_code 0 = .ok (.new 8, 3) := by decide +kernel
theorem own_d2_3 : decode prog_70_method_3_code 3 = .ok (.dup, 1) := by decide +kernel
theorem own_d2_4 : decode prog_70_method_3_code 4 = .ok (.aconst_null, 1) := by decide +kernel
theorem own_d2_5 : decode prog_70_method_3_code 5 = .ok (.aload_n 0, 1) := by decide +kernel
theorem own_d2_6 : decode prog_70_method_3_code 6 = .ok (.aconst_null, 1) := by decide +kernel
theorem own_d2_7 : decode prog_70_method_3_code 7 = .ok (.aconst_null, 1) := by decide +kernel
theorem own_d2_8 : decode prog_70_method_3_code 8 = .ok (.aconst_null, 1) := by decide +kernel
theorem own_d2_9 : decode prog_70_method_3_code 9 = .ok (.invokespecial 28, 3) := by decide +kernel
theorem own_d3_0 : decode prog_70_method_1_code 0 = .ok (.aload_n 0, 1) := by decide +kernel
theorem own_d3_1 : decode prog_70_method_1_code 1 = .ok (.invokespecial 1, 3) := by decide +kernel
theorem own_d4_0 : decode jdk_30_method_1_code 0 = .ok (.aload_n 0, 1) := by decide +kernel
theorem own_d4_1 : decode jdk_30_method_1_code 1 = .ok (.invokespecial 1, 3) := by decide +kernel
theorem own_d4_4 : decode jdk_30_method_1_code 4 = .ok (.return_, 1) := by decide +kernel
theorem own_d3_4 : decode prog_70_method_1_code 4 = .ok (.aload_n 0, 1) := by decide +kernel
theorem own_d3_5 : decode prog_70_method_1_code 5 = .ok (.aload_n 1, 1) := by decide +kernel
theorem own_d3_6 : decode prog_70_method_1_code 6 = .ok (.putfield 7, 3) := by decide +kernel
theorem own_d3_9 : decode prog_70_method_1_code 9 = .ok (.aload_n 0, 1) := by decide +kernel
theorem own_d3_10 : decode prog_70_method_1_code 10 = .ok (.aload_n 2, 1) := by decide +kernel
theorem own_d3_11 : decode prog_70_method_1_code 11 = .ok (.putfield 13, 3) := by decide +kernel
theorem own_d3_14 : decode prog_70_method_1_code 14 = .ok (.aload_n 0, 1) := by decide +kernel
theorem own_d3_15 : decode prog_70_method_1_code 15 = .ok (.aload_n 3, 1) := by decide +kernel
theorem own_d3_16 : decode prog_70_method_1_code 16 = .ok (.putfield 17, 3) := by decide +kernel
theorem own_d3_19 : decode prog_70_method_1_code 19 = .ok (.aload_n 0, 1) := by decide +kernel
theorem own_d3_20 : decode prog_70_method_1_code 20 = .ok (.aload 4, 2) := by decide +kernel
theorem own_d3_22 : decode prog_70_method_1_code 22 = .ok (.putfield 21, 3) := by decide +kernel
theorem own_d3_25 : decode prog_70_method_1_code 25 = .ok (.aload_n 0, 1) := by decide +kernel
theorem own_d3_26 : decode prog_70_method_1_code 26 = .ok (.aload 5, 2) := by decide +kernel
theorem own_d3_28 : decode prog_70_method_1_code 28 = .ok (.putfield 25, 3) := by decide +kernel
theorem own_d3_31 : decode prog_70_method_1_code 31 = .ok (.return_, 1) := by decide +kernel
theorem own_d2_12 : decode prog_70_method_3_code 12 = .ok (.areturn, 1) := by decide +kernel
theorem own_d6_0 : decode prog_70_method_10_code 0 = .ok (.aload_n 0, 1) := by decide +kernel
theorem own_d6_1 : decode prog_70_method_10_code 1 = .ok (.getfield 13, 3) := by decide +kernel
theorem own_d6_4 : decode prog_70_method_10_code 4 = .ok (.areturn, 1) := by decide +kernel
theorem own_d7_0 : decode prog_70_method_9_code 0 = .ok (.aload_n 0, 1) := by decide +kernel
theorem own_d7_1 : decode prog_70_method_9_code 1 = .ok (.getfield 7, 3) := by decide +kernel
theorem own_d7_4 : decode prog_70_method_9_code 4 = .ok (.areturn, 1) := by decide +kernel
theorem own_d8_0 : decode prog_70_method_11_code 0 = .ok (.aload_n 0, 1) := by decide +kernel
theorem own_d8_1 : decode prog_70_method_11_code 1 = .ok (.getfield 17, 3) := by decide +kernel
theorem own_d8_4 : decode prog_70_method_11_code 4 = .ok (.areturn, 1) := by decide +kernel
theorem own_d9_0 : decode prog_70_method_12_code 0 = .ok (.aload_n 0, 1) := by decide +kernel
theorem own_d9_1 : decode prog_70_method_12_code 1 = .ok (.getfield 21, 3) := by decide +kernel
theorem own_d9_4 : decode prog_70_method_12_code 4 = .ok (.areturn, 1) := by decide +kernel
theorem own_d10_0 : decode prog_70_method_13_code 0 = .ok (.aload_n 0, 1) := by decide +kernel
theorem own_d10_1 : decode prog_70_method_13_code 1 = .ok (.getfield 25, 3) := by decide +kernel
theorem own_d10_4 : decode prog_70_method_13_code 4 = .ok (.areturn, 1) := by decide +kernel
theorem own_d11_0 : decode prog_70_method_5_code 0 = .ok (.aload_n 0, 1) := by decide +kernel
theorem own_d11_1 : decode prog_70_method_5_code 1 = .ok (.getfield 7, 3) := by decide +kernel
theorem own_d11_4 : decode prog_70_method_5_code 4 = .ok (.ifnull 7, 3) := by decide +kernel
theorem own_d11_11 : decode prog_70_method_5_code 11 = .ok (.iconst 0, 1) := by decide +kernel
theorem own_d11_12 : decode prog_70_method_5_code 12 = .ok (.ireturn, 1) := by decide +kernel
theorem own_d1_15 : decode method_2_code 15 = .ok (.iload_n 1, 1) := by decide +kernel
theorem own_d1_16 : decode method_2_code 16 = .ok (.iconst 1, 1) := by decide +kernel
theorem own_d1_17 : decode method_2_code 17 = .ok (.if_icmp .ne 7, 3) := by decide +kernel
theorem own_d1_20 : decode method_2_code 20 = .ok (.getstatic 14, 3) := by decide +kernel
theorem own_d1_23 : decode method_2_code 23 = .ok (.areturn, 1) := by decide +kernel
theorem own_d1_24 : decode method_2_code 24 = .ok (.getstatic 17, 3) := by decide +kernel
theorem own_d1_27 : decode method_2_code 27 = .ok (.areturn, 1) := by decide +kernel
theorem own_mod3 (x : Int32) : (x &&& (2147483647 : Int32)) % (3 : Int32) = (0 : Int32) ∨ (x &&& (2147483647 : Int32)) % (3 : Int32) = (1 : Int32) ∨ (x &&& (2147483647 : Int32)) % (3 : Int32) = (2 : Int32) := by
  have h1 : 0 ≤ (x &&& (2147483647 : Int32)).toInt := (c_andS x 2147483647).2.2 (by decide)
  have h2 := (c_irem (x &&& (2147483647 : Int32)) (3 : Int32) 3 (by decide)).1 h1
  have h3 : ((x &&& (2147483647 : Int32)) % (3 : Int32)).toInt = 0 ∨ ((x &&& (2147483647 : Int32)) % (3 : Int32)).toInt = 1 ∨ ((x &&& (2147483647 : Int32)) % (3 : Int32)).toInt = 2 := by omega
  rcases h3 with q | q | q
  · exact (Or.inl (Int32.toInt_inj.mp (q.trans (by decide))))
  · exact (Or.inr (Or.inl (Int32.toInt_inj.mp (q.trans (by decide)))))
  · exact (Or.inr (Or.inr (Int32.toInt_inj.mp (q.trans (by decide)))))
def own_lay0 : List (String × String × String) := [("com/example/valet3/valet3/core/Routing", "refusal", "Lcom/example/valet3/valet3/core/Refusal;"), ("com/example/valet3/valet3/core/Routing", "endpoint", "Lcom/example/valet3/valet3/core/Endpoint;"), ("com/example/valet3/valet3/core/Routing", "route", "Lcom/example/valet3/valet3/core/Route;"), ("com/example/valet3/valet3/core/Routing", "backend", "Ljava/lang/String;"), ("com/example/valet3/valet3/core/Routing", "rest", "Ljava/lang/String;")]
theorem own_lay0_ok {Z : State} {a0 : Array Value} (hw : ∀ d ∈ tables_1, d.before a0 Z = true) : own_LayOk Z a0 "com/example/valet3/valet3/core/Routing" own_lay0 := ⟨by decide +kernel, (own_allS ⟨Or.inr (own_w hw 26 rfl), ⟨(.object "com/example/valet3/valet3/core/Refusal"), by decide +kernel⟩⟩ (own_allS ⟨Or.inr (own_w hw 28 rfl), ⟨(.object "com/example/valet3/valet3/core/Endpoint"), by decide +kernel⟩⟩ (own_allS ⟨Or.inr (own_w hw 30 rfl), ⟨(.object "com/example/valet3/valet3/core/Route"), by decide +kernel⟩⟩ (own_allS ⟨Or.inr (own_w hw 32 rfl), ⟨(.object "java/lang/String"), by decide +kernel⟩⟩ (own_allS ⟨Or.inr (own_w hw 34 rfl), ⟨(.object "java/lang/String"), by decide +kernel⟩⟩ own_nil)))))⟩
theorem own_lay0_df : own_lay0.map own_dflt = [.null, .null, .null, .null, .null] := by first | rfl | decide +kernel
def own_St (Z : State) (a_AUTHORIZE a_REVOKE a_TOKEN : Nat) : Prop := own_Sx Z "com/example/valet3/valet3/core/Endpoint" "AUTHORIZE" "Lcom/example/valet3/valet3/core/Endpoint;" a_AUTHORIZE (own_Ob Z Z.heap a_AUTHORIZE "com/example/valet3/valet3/core/Endpoint" own_layN []) ∧ own_Sx Z "com/example/valet3/valet3/core/Endpoint" "REVOKE" "Lcom/example/valet3/valet3/core/Endpoint;" a_REVOKE (own_Ob Z Z.heap a_REVOKE "com/example/valet3/valet3/core/Endpoint" own_layN []) ∧ own_Sx Z "com/example/valet3/valet3/core/Endpoint" "TOKEN" "Lcom/example/valet3/valet3/core/Endpoint;" a_TOKEN (own_Ob Z Z.heap a_TOKEN "com/example/valet3/valet3/core/Endpoint" own_layN [])
set_option maxHeartbeats 2000000 in
theorem own_c1_0 (l : Launch) {Z : State} {a0 : Array Value} (hw : ∀ d ∈ tables_1, d.before a0 Z = true) {n0 : Nat} {h : Heap} {a_AUTHORIZE a_REVOKE a_TOKEN : Nat} (S : own_St Z a_AUTHORIZE a_REVOKE a_TOKEN) (z0 : n0 ≤ h.size) (old : Old Z n0 h) (x0 : Int32) (hx0 : ((x0 &&& (2147483647 : Int32)) % (3 : Int32)) = (0 : Int32)) :
    own_Met l Z (⟨"com/example/valet3/valet3/core/RoutingToPinLaw", "pick", "(I)Lcom/example/valet3/valet3/core/Endpoint;"⟩ : MethodName) method_2_code 2 (some (.object "com/example/valet3/valet3/core/Endpoint")) [] ({ frames := 0, cells := 0, slots := 0, locals := 0 } : Room) n0 #[(.int x0)] h (own_pure (.ref a_AUTHORIZE) h) := by
  refine own_met (Ls := #[.val (.int x0), .unset]) (by first | exact plainFor_of_name (by first | (simp [plainName, overriddenIn]; done) | decide +kernel) | decide +kernel) (fun m => rfl) ?_
  intro p e s m below meth c C
  refine own_iloadN C own_d1_0 rfl (pc' := 1) rfl ?_
  refine own_ldc C (own_w hw 4 rfl) own_d1_1 (pc' := 3) rfl ?_
  refine own_iand C own_d1_3 rfl (pc' := 4) rfl ?_
  refine own_iconst C (v := (3 : Int32)) own_d1_4 (by decide) (pc' := 5) rfl ?_
  refine own_irem C (z := (0 : Int32)) own_d1_5 (by decide) hx0 (pc' := 6) rfl ?_
  refine own_istoreN C (Ls' := #[.val (.int x0), .val (.int (0 : Int32))]) own_d1_6 rfl (pc' := 7) rfl ?_
  refine own_iloadN C own_d1_7 rfl (pc' := 8) rfl ?_
  refine own_ifN C own_d1_8 (by decide) (pc' := 11) rfl ?_
  refine own_getstatic C (own_w hw 5 rfl) (S.1.1.ext old.2) own_d1_11 (pc' := 14) rfl ?_
  exact own_areturn C rfl rfl own_d1_14 (by decide) (by decide) ⟨rfl, rfl⟩
set_option maxHeartbeats 2000000 in
theorem own_c4_1 (l : Launch) {Z : State} {a0 : Array Value} (hw : ∀ d ∈ tables_1, d.before a0 Z = true) {n0 : Nat} {h : Heap} {a_AUTHORIZE a_REVOKE a_TOKEN : Nat} (S : own_St Z a_AUTHORIZE a_REVOKE a_TOKEN) (z0 : n0 ≤ h.size) (old : Old Z n0 h) (p0 : Nat) :
    own_Met l Z (⟨"java/lang/Record", "<init>", "()V"⟩ : MethodName) jdk_30_method_1_code 1 none [] ({ frames := 1, cells := 0, slots := 0, locals := 12 } : Room) n0 #[(.ref p0)] h (own_nov fun h' => Keep h h' []) := by
  refine own_met (Ls := #[.val (.ref p0)]) (by first | exact plainFor_of_name (by first | (simp [plainName, overriddenIn]; done) | decide +kernel) | decide +kernel) (fun m => rfl) ?_
  intro p e s m below meth c C
  refine own_aloadN C own_d4_0 rfl rfl (pc' := 1) rfl ?_
  refine own_init0 C (own_w hw 22 rfl) (own_w hw 23 rfl) (own_w hw 24 rfl) own_d4_1 rfl (W := 0) (Nat.le_of_eq rfl) (by decide) (by decide) (pc' := 4) rfl ?_
  exact own_return C own_d4_4 (by decide) (by decide) ⟨rfl, (Keep.refl h [])⟩
set_option maxHeartbeats 2000000 in
theorem own_c3_2 (l : Launch) {Z : State} {a0 : Array Value} (hw : ∀ d ∈ tables_1, d.before a0 Z = true) {n0 : Nat} {h : Heap} {a_AUTHORIZE a_REVOKE a_TOKEN : Nat} (S : own_St Z a_AUTHORIZE a_REVOKE a_TOKEN) (z0 : n0 ≤ h.size) (old : Old Z n0 h) (p0 : Nat) (o_p0 : own_Ob Z h p0 "com/example/valet3/valet3/core/Routing" own_lay0 [.null, .null, .null, .null, .null]) (g_p0 : n0 ≤ p0) :
    own_Met l Z (⟨"com/example/valet3/valet3/core/Routing", "<init>", "(Lcom/example/valet3/valet3/core/Refusal;Lcom/example/valet3/valet3/core/Endpoint;Lcom/example/valet3/valet3/core/Route;Ljava/lang/String;Ljava/lang/String;)V"⟩ : MethodName) prog_70_method_1_code 6 none [] ({ frames := 2, cells := 0, slots := 0, locals := 24 } : Room) n0 #[(.ref p0), .null, (.ref a_AUTHORIZE), .null, .null, .null] h (own_nov fun h' => Keep h h' [p0] ∧ own_Ob Z h' p0 "com/example/valet3/valet3/core/Routing" own_lay0 [.null, (.ref a_AUTHORIZE), .null, .null, .null]) := by
  refine own_met (Ls := #[.val (.ref p0), .val .null, .val (.ref a_AUTHORIZE), .val .null, .val .null, .val .null]) (by first | exact plainFor_of_name (by first | (simp [plainName, overriddenIn]; done) | decide +kernel) | decide +kernel) (fun m => rfl) ?_
  intro p e s m below meth c C
  refine own_aloadN C own_d3_0 rfl rfl (pc' := 1) rfl ?_
  refine own_callI C rfl (own_c4_1 l hw S (by omega) old p0) (own_w hw 17 rfl) (own_w hw 18 rfl) (own_w hw 20 rfl) (own_w hw 21 rfl) (by decide) own_d3_1 rfl (argsL := []) (rest := []) rfl (lenOf own_pd1 rfl) (W := 0) (Nat.le_of_eq rfl) (by decide) (by decide) (by decide) (by decide) (pc' := 4) rfl ?_
  rintro h1 K1
  have s1 : h.size ≤ h1.size := K1.1
  have k1 : Keep h h1 [p0] := (Keep.refl h [p0]).trans K1 all0
  refine own_aloadN C own_d3_4 rfl rfl (pc' := 5) rfl ?_
  refine own_aloadN C own_d3_5 rfl rfl (pc' := 6) rfl ?_
  have o_p0_1 := (o_p0.keep K1 nin0)
  refine own_putO C (own_w hw 25 rfl) Via.refl o_p0_1 (own_lay0_ok hw) 0 rfl (vs' := [.null, .null, .null, .null, .null]) rfl (Or.inr ⟨(own_w hw 26 rfl), rfl, rfl⟩) (own_w hw 13 rfl) (ty := (.object "com/example/valet3/valet3/core/Refusal")) (by decide) (by first | rfl | decide) (by first | rfl | decide) g_p0 own_d3_6 (pc' := 9) rfl ?_
  intro h2 W2 o_p0_2
  have s2 : h2.size = h1.size := W2.size
  have k2 : Keep h h2 [p0] := k1.wr W2 (Or.inl (by simp))
  refine own_aloadN C own_d3_9 rfl rfl (pc' := 10) rfl ?_
  refine own_aloadN C own_d3_10 rfl rfl (pc' := 11) rfl ?_
  refine own_putO C (own_w hw 27 rfl) Via.refl o_p0_2 (own_lay0_ok hw) 1 rfl (vs' := [.null, (.ref a_AUTHORIZE), .null, .null, .null]) rfl (Or.inr ⟨(own_w hw 28 rfl), rfl, rfl⟩) (own_w hw 13 rfl) (ty := (.object "com/example/valet3/valet3/core/Endpoint")) (by decide) (by first | rfl | decide) (by first | rfl | decide) g_p0 own_d3_11 (pc' := 14) rfl ?_
  intro h3 W3 o_p0_3
  have s3 : h3.size = h2.size := W3.size
  have k3 : Keep h h3 [p0] := k2.wr W3 (Or.inl (by simp))
  refine own_aloadN C own_d3_14 rfl rfl (pc' := 15) rfl ?_
  refine own_aloadN C own_d3_15 rfl rfl (pc' := 16) rfl ?_
  refine own_putO C (own_w hw 29 rfl) Via.refl o_p0_3 (own_lay0_ok hw) 2 rfl (vs' := [.null, (.ref a_AUTHORIZE), .null, .null, .null]) rfl (Or.inr ⟨(own_w hw 30 rfl), rfl, rfl⟩) (own_w hw 13 rfl) (ty := (.object "com/example/valet3/valet3/core/Route")) (by decide) (by first | rfl | decide) (by first | rfl | decide) g_p0 own_d3_16 (pc' := 19) rfl ?_
  intro h4 W4 o_p0_4
  have s4 : h4.size = h3.size := W4.size
  have k4 : Keep h h4 [p0] := k3.wr W4 (Or.inl (by simp))
  refine own_aloadN C own_d3_19 rfl rfl (pc' := 20) rfl ?_
  refine own_aload C own_d3_20 rfl rfl (pc' := 22) rfl ?_
  refine own_putO C (own_w hw 31 rfl) Via.refl o_p0_4 (own_lay0_ok hw) 3 rfl (vs' := [.null, (.ref a_AUTHORIZE), .null, .null, .null]) rfl (Or.inr ⟨(own_w hw 32 rfl), rfl, rfl⟩) (own_w hw 13 rfl) (ty := (.object "java/lang/String")) (by decide) (by first | rfl | decide) (by first | rfl | decide) g_p0 own_d3_22 (pc' := 25) rfl ?_
  intro h5 W5 o_p0_5
  have s5 : h5.size = h4.size := W5.size
  have k5 : Keep h h5 [p0] := k4.wr W5 (Or.inl (by simp))
  refine own_aloadN C own_d3_25 rfl rfl (pc' := 26) rfl ?_
  refine own_aload C own_d3_26 rfl rfl (pc' := 28) rfl ?_
  refine own_putO C (own_w hw 33 rfl) Via.refl o_p0_5 (own_lay0_ok hw) 4 rfl (vs' := [.null, (.ref a_AUTHORIZE), .null, .null, .null]) rfl (Or.inr ⟨(own_w hw 34 rfl), rfl, rfl⟩) (own_w hw 13 rfl) (ty := (.object "java/lang/String")) (by decide) (by first | rfl | decide) (by first | rfl | decide) g_p0 own_d3_28 (pc' := 31) rfl ?_
  intro h6 W6 o_p0_6
  have s6 : h6.size = h5.size := W6.size
  have k6 : Keep h h6 [p0] := k5.wr W6 (Or.inl (by simp))
  exact own_return C own_d3_31 (by decide) (by decide) ⟨rfl, k6, o_p0_6⟩
set_option maxHeartbeats 2000000 in
theorem own_c2_3 (l : Launch) {Z : State} {a0 : Array Value} (hw : ∀ d ∈ tables_1, d.before a0 Z = true) {n0 : Nat} {h : Heap} {a_AUTHORIZE a_REVOKE a_TOKEN : Nat} (S : own_St Z a_AUTHORIZE a_REVOKE a_TOKEN) (z0 : n0 ≤ h.size) (old : Old Z n0 h) :
    own_Met l Z (⟨"com/example/valet3/valet3/core/Routing", "to", "(Lcom/example/valet3/valet3/core/Endpoint;)Lcom/example/valet3/valet3/core/Routing;"⟩ : MethodName) prog_70_method_3_code 1 (some (.object "com/example/valet3/valet3/core/Routing")) [] ({ frames := 3, cells := 1, slots := 5, locals := 42 } : Room) n0 #[(.ref a_AUTHORIZE)] h (own_val fun w h' => ∃ b1 : Nat, w = (.ref b1) ∧ Keep h h' [] ∧ h.size ≤ b1 ∧ b1 < h'.size ∧ own_Ob Z h' b1 "com/example/valet3/valet3/core/Routing" own_lay0 [.null, (.ref a_AUTHORIZE), .null, .null, .null]) := by
  refine own_met (Ls := #[.val (.ref a_AUTHORIZE)]) (by first | exact plainFor_of_name (by first | (simp [plainName, overriddenIn]; done) | decide +kernel) | decide +kernel) (fun m => rfl) ?_
  intro p e s m below meth c C
  refine own_newO C (own_w hw 12 rfl) (own_w hw 13 rfl) (own_w hw 10 rfl) (own_lay0_ok hw) own_lay0_df own_d2_0 (by decide) (by decide) (pc' := 3) rfl ?_
  intro h1 b1 g1 E1 o_b1
  have s1 : h.size ≤ h1.size := E1.1
  have k1 : Keep h h1 [] := (Keep.refl h []).ext E1
  have t1 := o_b1.lt
  refine own_dup C own_d2_3 rfl (pc' := 4) rfl ?_
  refine own_aconst_null C own_d2_4 (pc' := 5) rfl ?_
  refine own_aloadN C own_d2_5 rfl rfl (pc' := 6) rfl ?_
  refine own_aconst_null C own_d2_6 (pc' := 7) rfl ?_
  refine own_aconst_null C own_d2_7 (pc' := 8) rfl ?_
  refine own_aconst_null C own_d2_8 (pc' := 9) rfl ?_
  have old1 := (old.ext E1)
  refine own_callI C rfl (own_c3_2 l hw S (by omega) old1 b1 o_b1 (by omega)) (own_w hw 14 rfl) (own_w hw 15 rfl) (own_w hw 10 rfl) (own_w hw 16 rfl) (by decide) own_d2_9 rfl (argsL := [.null, (.ref a_AUTHORIZE), .null, .null, .null]) (rest := [(.ref b1)]) rfl (lenOf own_pd2 rfl) (W := 1) (Nat.le_of_eq rfl) (by decide) (by decide) (by decide) (by decide) (pc' := 12) rfl ?_
  rintro h2 ⟨K2, o_b1_2⟩
  have s2 : h1.size ≤ h2.size := K2.1
  have k2 : Keep h h2 [] := k1.trans K2 (allS (Or.inr (by omega)) all0)
  exact own_areturn C rfl rfl own_d2_12 (by decide) (by decide) ⟨_, rfl, b1, rfl, k2, by omega, by omega, o_b1_2⟩
set_option maxHeartbeats 2000000 in
theorem own_c6_4 (l : Launch) {Z : State} {a0 : Array Value} (hw : ∀ d ∈ tables_1, d.before a0 Z = true) {n0 : Nat} {h : Heap} {a_AUTHORIZE a_REVOKE a_TOKEN : Nat} (S : own_St Z a_AUTHORIZE a_REVOKE a_TOKEN) (z0 : n0 ≤ h.size) (old : Old Z n0 h) (p0 : Nat) (o_p0 : own_Ob Z h p0 "com/example/valet3/valet3/core/Routing" own_lay0 [.null, (.ref a_AUTHORIZE), .null, .null, .null]) :
    own_Met l Z (⟨"com/example/valet3/valet3/core/Routing", "endpoint", "()Lcom/example/valet3/valet3/core/Endpoint;"⟩ : MethodName) prog_70_method_10_code 1 (some (.object "com/example/valet3/valet3/core/Endpoint")) [] ({ frames := 0, cells := 0, slots := 0, locals := 0 } : Room) n0 #[(.ref p0)] h (own_pure (.ref a_AUTHORIZE) h) := by
  refine own_met (Ls := #[.val (.ref p0)]) (by first | exact plainFor_of_name (by first | (simp [plainName, overriddenIn]; done) | decide +kernel) | decide +kernel) (fun m => rfl) ?_
  intro p e s m below meth c C
  refine own_aloadN C own_d6_0 rfl rfl (pc' := 1) rfl ?_
  refine own_getO C (own_w hw 27 rfl) Via.refl o_p0 1 rfl rfl own_d6_1 (pc' := 4) rfl ?_
  exact own_areturn C rfl rfl own_d6_4 (by decide) (by decide) ⟨rfl, rfl⟩
set_option maxHeartbeats 2000000 in
theorem own_c7_5 (l : Launch) {Z : State} {a0 : Array Value} (hw : ∀ d ∈ tables_1, d.before a0 Z = true) {n0 : Nat} {h : Heap} {a_AUTHORIZE a_REVOKE a_TOKEN : Nat} (S : own_St Z a_AUTHORIZE a_REVOKE a_TOKEN) (z0 : n0 ≤ h.size) (old : Old Z n0 h) (p0 : Nat) (o_p0 : own_Ob Z h p0 "com/example/valet3/valet3/core/Routing" own_lay0 [.null, (.ref a_AUTHORIZE), .null, .null, .null]) :
    own_Met l Z (⟨"com/example/valet3/valet3/core/Routing", "refusal", "()Lcom/example/valet3/valet3/core/Refusal;"⟩ : MethodName) prog_70_method_9_code 1 (some (.object "com/example/valet3/valet3/core/Refusal")) [] ({ frames := 0, cells := 0, slots := 0, locals := 0 } : Room) n0 #[(.ref p0)] h (own_pure .null h) := by
  refine own_met (Ls := #[.val (.ref p0)]) (by first | exact plainFor_of_name (by first | (simp [plainName, overriddenIn]; done) | decide +kernel) | decide +kernel) (fun m => rfl) ?_
  intro p e s m below meth c C
  refine own_aloadN C own_d7_0 rfl rfl (pc' := 1) rfl ?_
  refine own_getO C (own_w hw 25 rfl) Via.refl o_p0 0 rfl rfl own_d7_1 (pc' := 4) rfl ?_
  exact own_areturn C rfl rfl own_d7_4 (by decide) (by decide) ⟨rfl, rfl⟩
set_option maxHeartbeats 2000000 in
theorem own_c8_6 (l : Launch) {Z : State} {a0 : Array Value} (hw : ∀ d ∈ tables_1, d.before a0 Z = true) {n0 : Nat} {h : Heap} {a_AUTHORIZE a_REVOKE a_TOKEN : Nat} (S : own_St Z a_AUTHORIZE a_REVOKE a_TOKEN) (z0 : n0 ≤ h.size) (old : Old Z n0 h) (p0 : Nat) (o_p0 : own_Ob Z h p0 "com/example/valet3/valet3/core/Routing" own_lay0 [.null, (.ref a_AUTHORIZE), .null, .null, .null]) :
    own_Met l Z (⟨"com/example/valet3/valet3/core/Routing", "route", "()Lcom/example/valet3/valet3/core/Route;"⟩ : MethodName) prog_70_method_11_code 1 (some (.object "com/example/valet3/valet3/core/Route")) [] ({ frames := 0, cells := 0, slots := 0, locals := 0 } : Room) n0 #[(.ref p0)] h (own_pure .null h) := by
  refine own_met (Ls := #[.val (.ref p0)]) (by first | exact plainFor_of_name (by first | (simp [plainName, overriddenIn]; done) | decide +kernel) | decide +kernel) (fun m => rfl) ?_
  intro p e s m below meth c C
  refine own_aloadN C own_d8_0 rfl rfl (pc' := 1) rfl ?_
  refine own_getO C (own_w hw 29 rfl) Via.refl o_p0 2 rfl rfl own_d8_1 (pc' := 4) rfl ?_
  exact own_areturn C rfl rfl own_d8_4 (by decide) (by decide) ⟨rfl, rfl⟩
set_option maxHeartbeats 2000000 in
theorem own_c9_7 (l : Launch) {Z : State} {a0 : Array Value} (hw : ∀ d ∈ tables_1, d.before a0 Z = true) {n0 : Nat} {h : Heap} {a_AUTHORIZE a_REVOKE a_TOKEN : Nat} (S : own_St Z a_AUTHORIZE a_REVOKE a_TOKEN) (z0 : n0 ≤ h.size) (old : Old Z n0 h) (p0 : Nat) (o_p0 : own_Ob Z h p0 "com/example/valet3/valet3/core/Routing" own_lay0 [.null, (.ref a_AUTHORIZE), .null, .null, .null]) :
    own_Met l Z (⟨"com/example/valet3/valet3/core/Routing", "backend", "()Ljava/lang/String;"⟩ : MethodName) prog_70_method_12_code 1 (some (.object "java/lang/String")) [] ({ frames := 0, cells := 0, slots := 0, locals := 0 } : Room) n0 #[(.ref p0)] h (own_pure .null h) := by
  refine own_met (Ls := #[.val (.ref p0)]) (by first | exact plainFor_of_name (by first | (simp [plainName, overriddenIn]; done) | decide +kernel) | decide +kernel) (fun m => rfl) ?_
  intro p e s m below meth c C
  refine own_aloadN C own_d9_0 rfl rfl (pc' := 1) rfl ?_
  refine own_getO C (own_w hw 31 rfl) Via.refl o_p0 3 rfl rfl own_d9_1 (pc' := 4) rfl ?_
  exact own_areturn C rfl rfl own_d9_4 (by decide) (by decide) ⟨rfl, rfl⟩
set_option maxHeartbeats 2000000 in
theorem own_c10_8 (l : Launch) {Z : State} {a0 : Array Value} (hw : ∀ d ∈ tables_1, d.before a0 Z = true) {n0 : Nat} {h : Heap} {a_AUTHORIZE a_REVOKE a_TOKEN : Nat} (S : own_St Z a_AUTHORIZE a_REVOKE a_TOKEN) (z0 : n0 ≤ h.size) (old : Old Z n0 h) (p0 : Nat) (o_p0 : own_Ob Z h p0 "com/example/valet3/valet3/core/Routing" own_lay0 [.null, (.ref a_AUTHORIZE), .null, .null, .null]) :
    own_Met l Z (⟨"com/example/valet3/valet3/core/Routing", "rest", "()Ljava/lang/String;"⟩ : MethodName) prog_70_method_13_code 1 (some (.object "java/lang/String")) [] ({ frames := 0, cells := 0, slots := 0, locals := 0 } : Room) n0 #[(.ref p0)] h (own_pure .null h) := by
  refine own_met (Ls := #[.val (.ref p0)]) (by first | exact plainFor_of_name (by first | (simp [plainName, overriddenIn]; done) | decide +kernel) | decide +kernel) (fun m => rfl) ?_
  intro p e s m below meth c C
  refine own_aloadN C own_d10_0 rfl rfl (pc' := 1) rfl ?_
  refine own_getO C (own_w hw 33 rfl) Via.refl o_p0 4 rfl rfl own_d10_1 (pc' := 4) rfl ?_
  exact own_areturn C rfl rfl own_d10_4 (by decide) (by decide) ⟨rfl, rfl⟩
set_option maxHeartbeats 2000000 in
theorem own_c11_9 (l : Launch) {Z : State} {a0 : Array Value} (hw : ∀ d ∈ tables_1, d.before a0 Z = true) {n0 : Nat} {h : Heap} {a_AUTHORIZE a_REVOKE a_TOKEN : Nat} (S : own_St Z a_AUTHORIZE a_REVOKE a_TOKEN) (z0 : n0 ≤ h.size) (old : Old Z n0 h) (p0 : Nat) (o_p0 : own_Ob Z h p0 "com/example/valet3/valet3/core/Routing" own_lay0 [.null, (.ref a_AUTHORIZE), .null, .null, .null]) :
    own_Met l Z (⟨"com/example/valet3/valet3/core/Routing", "isRefused", "()Z"⟩ : MethodName) prog_70_method_5_code 1 (some .boolean) [] ({ frames := 0, cells := 0, slots := 0, locals := 0 } : Room) n0 #[(.ref p0)] h (own_pure (.int (0 : Int32)) h) := by
  refine own_met (Ls := #[.val (.ref p0)]) (by first | exact plainFor_of_name (by first | (simp [plainName, overriddenIn]; done) | decide +kernel) | decide +kernel) (fun m => rfl) ?_
  intro p e s m below meth c C
  refine own_aloadN C own_d11_0 rfl rfl (pc' := 1) rfl ?_
  refine own_getO C (own_w hw 25 rfl) Via.refl o_p0 0 rfl rfl own_d11_1 (pc' := 4) rfl ?_
  refine own_nullY C own_d11_4 (by decide) (pc' := 11) (by decide) ?_
  refine own_iconst C (v := (0 : Int32)) own_d11_11 (by decide) (pc' := 12) rfl ?_
  exact own_ireturn C (by simp) rfl own_d11_12 (by decide) (by decide) ⟨rfl, rfl⟩
set_option maxHeartbeats 2000000 in
theorem own_c1_10 (l : Launch) {Z : State} {a0 : Array Value} (hw : ∀ d ∈ tables_1, d.before a0 Z = true) {n0 : Nat} {h : Heap} {a_AUTHORIZE a_REVOKE a_TOKEN : Nat} (S : own_St Z a_AUTHORIZE a_REVOKE a_TOKEN) (z0 : n0 ≤ h.size) (old : Old Z n0 h) (x0 : Int32) (hx0 : ((x0 &&& (2147483647 : Int32)) % (3 : Int32)) = (1 : Int32)) :
    own_Met l Z (⟨"com/example/valet3/valet3/core/RoutingToPinLaw", "pick", "(I)Lcom/example/valet3/valet3/core/Endpoint;"⟩ : MethodName) method_2_code 2 (some (.object "com/example/valet3/valet3/core/Endpoint")) [] ({ frames := 0, cells := 0, slots := 0, locals := 0 } : Room) n0 #[(.int x0)] h (own_pure (.ref a_TOKEN) h) := by
  refine own_met (Ls := #[.val (.int x0), .unset]) (by first | exact plainFor_of_name (by first | (simp [plainName, overriddenIn]; done) | decide +kernel) | decide +kernel) (fun m => rfl) ?_
  intro p e s m below meth c C
  refine own_iloadN C own_d1_0 rfl (pc' := 1) rfl ?_
  refine own_ldc C (own_w hw 4 rfl) own_d1_1 (pc' := 3) rfl ?_
  refine own_iand C own_d1_3 rfl (pc' := 4) rfl ?_
  refine own_iconst C (v := (3 : Int32)) own_d1_4 (by decide) (pc' := 5) rfl ?_
  refine own_irem C (z := (1 : Int32)) own_d1_5 (by decide) hx0 (pc' := 6) rfl ?_
  refine own_istoreN C (Ls' := #[.val (.int x0), .val (.int (1 : Int32))]) own_d1_6 rfl (pc' := 7) rfl ?_
  refine own_iloadN C own_d1_7 rfl (pc' := 8) rfl ?_
  refine own_ifY C own_d1_8 (by decide) (by decide) (pc' := 15) (by decide) ?_
  refine own_iloadN C own_d1_15 rfl (pc' := 16) rfl ?_
  refine own_iconst C (v := (1 : Int32)) own_d1_16 (by decide) (pc' := 17) rfl ?_
  refine own_icmpN C own_d1_17 (by decide) (pc' := 20) rfl ?_
  refine own_getstatic C (own_w hw 67 rfl) (S.2.2.1.ext old.2) own_d1_20 (pc' := 23) rfl ?_
  exact own_areturn C rfl rfl own_d1_23 (by decide) (by decide) ⟨rfl, rfl⟩
set_option maxHeartbeats 2000000 in
theorem own_c3_11 (l : Launch) {Z : State} {a0 : Array Value} (hw : ∀ d ∈ tables_1, d.before a0 Z = true) {n0 : Nat} {h : Heap} {a_AUTHORIZE a_REVOKE a_TOKEN : Nat} (S : own_St Z a_AUTHORIZE a_REVOKE a_TOKEN) (z0 : n0 ≤ h.size) (old : Old Z n0 h) (p0 : Nat) (o_p0 : own_Ob Z h p0 "com/example/valet3/valet3/core/Routing" own_lay0 [.null, .null, .null, .null, .null]) (g_p0 : n0 ≤ p0) :
    own_Met l Z (⟨"com/example/valet3/valet3/core/Routing", "<init>", "(Lcom/example/valet3/valet3/core/Refusal;Lcom/example/valet3/valet3/core/Endpoint;Lcom/example/valet3/valet3/core/Route;Ljava/lang/String;Ljava/lang/String;)V"⟩ : MethodName) prog_70_method_1_code 6 none [] ({ frames := 2, cells := 0, slots := 0, locals := 24 } : Room) n0 #[(.ref p0), .null, (.ref a_TOKEN), .null, .null, .null] h (own_nov fun h' => Keep h h' [p0] ∧ own_Ob Z h' p0 "com/example/valet3/valet3/core/Routing" own_lay0 [.null, (.ref a_TOKEN), .null, .null, .null]) := by
  refine own_met (Ls := #[.val (.ref p0), .val .null, .val (.ref a_TOKEN), .val .null, .val .null, .val .null]) (by first | exact plainFor_of_name (by first | (simp [plainName, overriddenIn]; done) | decide +kernel) | decide +kernel) (fun m => rfl) ?_
  intro p e s m below meth c C
  refine own_aloadN C own_d3_0 rfl rfl (pc' := 1) rfl ?_
  refine own_callI C rfl (own_c4_1 l hw S (by omega) old p0) (own_w hw 17 rfl) (own_w hw 18 rfl) (own_w hw 20 rfl) (own_w hw 21 rfl) (by decide) own_d3_1 rfl (argsL := []) (rest := []) rfl (lenOf own_pd1 rfl) (W := 0) (Nat.le_of_eq rfl) (by decide) (by decide) (by decide) (by decide) (pc' := 4) rfl ?_
  rintro h1 K1
  have s1 : h.size ≤ h1.size := K1.1
  have k1 : Keep h h1 [p0] := (Keep.refl h [p0]).trans K1 all0
  refine own_aloadN C own_d3_4 rfl rfl (pc' := 5) rfl ?_
  refine own_aloadN C own_d3_5 rfl rfl (pc' := 6) rfl ?_
  have o_p0_1 := (o_p0.keep K1 nin0)
  refine own_putO C (own_w hw 25 rfl) Via.refl o_p0_1 (own_lay0_ok hw) 0 rfl (vs' := [.null, .null, .null, .null, .null]) rfl (Or.inr ⟨(own_w hw 26 rfl), rfl, rfl⟩) (own_w hw 13 rfl) (ty := (.object "com/example/valet3/valet3/core/Refusal")) (by decide) (by first | rfl | decide) (by first | rfl | decide) g_p0 own_d3_6 (pc' := 9) rfl ?_
  intro h2 W2 o_p0_2
  have s2 : h2.size = h1.size := W2.size
  have k2 : Keep h h2 [p0] := k1.wr W2 (Or.inl (by simp))
  refine own_aloadN C own_d3_9 rfl rfl (pc' := 10) rfl ?_
  refine own_aloadN C own_d3_10 rfl rfl (pc' := 11) rfl ?_
  refine own_putO C (own_w hw 27 rfl) Via.refl o_p0_2 (own_lay0_ok hw) 1 rfl (vs' := [.null, (.ref a_TOKEN), .null, .null, .null]) rfl (Or.inr ⟨(own_w hw 28 rfl), rfl, rfl⟩) (own_w hw 13 rfl) (ty := (.object "com/example/valet3/valet3/core/Endpoint")) (by decide) (by first | rfl | decide) (by first | rfl | decide) g_p0 own_d3_11 (pc' := 14) rfl ?_
  intro h3 W3 o_p0_3
  have s3 : h3.size = h2.size := W3.size
  have k3 : Keep h h3 [p0] := k2.wr W3 (Or.inl (by simp))
  refine own_aloadN C own_d3_14 rfl rfl (pc' := 15) rfl ?_
  refine own_aloadN C own_d3_15 rfl rfl (pc' := 16) rfl ?_
  refine own_putO C (own_w hw 29 rfl) Via.refl o_p0_3 (own_lay0_ok hw) 2 rfl (vs' := [.null, (.ref a_TOKEN), .null, .null, .null]) rfl (Or.inr ⟨(own_w hw 30 rfl), rfl, rfl⟩) (own_w hw 13 rfl) (ty := (.object "com/example/valet3/valet3/core/Route")) (by decide) (by first | rfl | decide) (by first | rfl | decide) g_p0 own_d3_16 (pc' := 19) rfl ?_
  intro h4 W4 o_p0_4
  have s4 : h4.size = h3.size := W4.size
  have k4 : Keep h h4 [p0] := k3.wr W4 (Or.inl (by simp))
  refine own_aloadN C own_d3_19 rfl rfl (pc' := 20) rfl ?_
  refine own_aload C own_d3_20 rfl rfl (pc' := 22) rfl ?_
  refine own_putO C (own_w hw 31 rfl) Via.refl o_p0_4 (own_lay0_ok hw) 3 rfl (vs' := [.null, (.ref a_TOKEN), .null, .null, .null]) rfl (Or.inr ⟨(own_w hw 32 rfl), rfl, rfl⟩) (own_w hw 13 rfl) (ty := (.object "java/lang/String")) (by decide) (by first | rfl | decide) (by first | rfl | decide) g_p0 own_d3_22 (pc' := 25) rfl ?_
  intro h5 W5 o_p0_5
  have s5 : h5.size = h4.size := W5.size
  have k5 : Keep h h5 [p0] := k4.wr W5 (Or.inl (by simp))
  refine own_aloadN C own_d3_25 rfl rfl (pc' := 26) rfl ?_
  refine own_aload C own_d3_26 rfl rfl (pc' := 28) rfl ?_
  refine own_putO C (own_w hw 33 rfl) Via.refl o_p0_5 (own_lay0_ok hw) 4 rfl (vs' := [.null, (.ref a_TOKEN), .null, .null, .null]) rfl (Or.inr ⟨(own_w hw 34 rfl), rfl, rfl⟩) (own_w hw 13 rfl) (ty := (.object "java/lang/String")) (by decide) (by first | rfl | decide) (by first | rfl | decide) g_p0 own_d3_28 (pc' := 31) rfl ?_
  intro h6 W6 o_p0_6
  have s6 : h6.size = h5.size := W6.size
  have k6 : Keep h h6 [p0] := k5.wr W6 (Or.inl (by simp))
  exact own_return C own_d3_31 (by decide) (by decide) ⟨rfl, k6, o_p0_6⟩
set_option maxHeartbeats 2000000 in
theorem own_c2_12 (l : Launch) {Z : State} {a0 : Array Value} (hw : ∀ d ∈ tables_1, d.before a0 Z = true) {n0 : Nat} {h : Heap} {a_AUTHORIZE a_REVOKE a_TOKEN : Nat} (S : own_St Z a_AUTHORIZE a_REVOKE a_TOKEN) (z0 : n0 ≤ h.size) (old : Old Z n0 h) :
    own_Met l Z (⟨"com/example/valet3/valet3/core/Routing", "to", "(Lcom/example/valet3/valet3/core/Endpoint;)Lcom/example/valet3/valet3/core/Routing;"⟩ : MethodName) prog_70_method_3_code 1 (some (.object "com/example/valet3/valet3/core/Routing")) [] ({ frames := 3, cells := 1, slots := 5, locals := 42 } : Room) n0 #[(.ref a_TOKEN)] h (own_val fun w h' => ∃ b1 : Nat, w = (.ref b1) ∧ Keep h h' [] ∧ h.size ≤ b1 ∧ b1 < h'.size ∧ own_Ob Z h' b1 "com/example/valet3/valet3/core/Routing" own_lay0 [.null, (.ref a_TOKEN), .null, .null, .null]) := by
  refine own_met (Ls := #[.val (.ref a_TOKEN)]) (by first | exact plainFor_of_name (by first | (simp [plainName, overriddenIn]; done) | decide +kernel) | decide +kernel) (fun m => rfl) ?_
  intro p e s m below meth c C
  refine own_newO C (own_w hw 12 rfl) (own_w hw 13 rfl) (own_w hw 10 rfl) (own_lay0_ok hw) own_lay0_df own_d2_0 (by decide) (by decide) (pc' := 3) rfl ?_
  intro h1 b1 g1 E1 o_b1
  have s1 : h.size ≤ h1.size := E1.1
  have k1 : Keep h h1 [] := (Keep.refl h []).ext E1
  have t1 := o_b1.lt
  refine own_dup C own_d2_3 rfl (pc' := 4) rfl ?_
  refine own_aconst_null C own_d2_4 (pc' := 5) rfl ?_
  refine own_aloadN C own_d2_5 rfl rfl (pc' := 6) rfl ?_
  refine own_aconst_null C own_d2_6 (pc' := 7) rfl ?_
  refine own_aconst_null C own_d2_7 (pc' := 8) rfl ?_
  refine own_aconst_null C own_d2_8 (pc' := 9) rfl ?_
  have old1 := (old.ext E1)
  refine own_callI C rfl (own_c3_11 l hw S (by omega) old1 b1 o_b1 (by omega)) (own_w hw 14 rfl) (own_w hw 15 rfl) (own_w hw 10 rfl) (own_w hw 16 rfl) (by decide) own_d2_9 rfl (argsL := [.null, (.ref a_TOKEN), .null, .null, .null]) (rest := [(.ref b1)]) rfl (lenOf own_pd2 rfl) (W := 1) (Nat.le_of_eq rfl) (by decide) (by decide) (by decide) (by decide) (pc' := 12) rfl ?_
  rintro h2 ⟨K2, o_b1_2⟩
  have s2 : h1.size ≤ h2.size := K2.1
  have k2 : Keep h h2 [] := k1.trans K2 (allS (Or.inr (by omega)) all0)
  exact own_areturn C rfl rfl own_d2_12 (by decide) (by decide) ⟨_, rfl, b1, rfl, k2, by omega, by omega, o_b1_2⟩
set_option maxHeartbeats 2000000 in
theorem own_c6_13 (l : Launch) {Z : State} {a0 : Array Value} (hw : ∀ d ∈ tables_1, d.before a0 Z = true) {n0 : Nat} {h : Heap} {a_AUTHORIZE a_REVOKE a_TOKEN : Nat} (S : own_St Z a_AUTHORIZE a_REVOKE a_TOKEN) (z0 : n0 ≤ h.size) (old : Old Z n0 h) (p0 : Nat) (o_p0 : own_Ob Z h p0 "com/example/valet3/valet3/core/Routing" own_lay0 [.null, (.ref a_TOKEN), .null, .null, .null]) :
    own_Met l Z (⟨"com/example/valet3/valet3/core/Routing", "endpoint", "()Lcom/example/valet3/valet3/core/Endpoint;"⟩ : MethodName) prog_70_method_10_code 1 (some (.object "com/example/valet3/valet3/core/Endpoint")) [] ({ frames := 0, cells := 0, slots := 0, locals := 0 } : Room) n0 #[(.ref p0)] h (own_pure (.ref a_TOKEN) h) := by
  refine own_met (Ls := #[.val (.ref p0)]) (by first | exact plainFor_of_name (by first | (simp [plainName, overriddenIn]; done) | decide +kernel) | decide +kernel) (fun m => rfl) ?_
  intro p e s m below meth c C
  refine own_aloadN C own_d6_0 rfl rfl (pc' := 1) rfl ?_
  refine own_getO C (own_w hw 27 rfl) Via.refl o_p0 1 rfl rfl own_d6_1 (pc' := 4) rfl ?_
  exact own_areturn C rfl rfl own_d6_4 (by decide) (by decide) ⟨rfl, rfl⟩
set_option maxHeartbeats 2000000 in
theorem own_c7_14 (l : Launch) {Z : State} {a0 : Array Value} (hw : ∀ d ∈ tables_1, d.before a0 Z = true) {n0 : Nat} {h : Heap} {a_AUTHORIZE a_REVOKE a_TOKEN : Nat} (S : own_St Z a_AUTHORIZE a_REVOKE a_TOKEN) (z0 : n0 ≤ h.size) (old : Old Z n0 h) (p0 : Nat) (o_p0 : own_Ob Z h p0 "com/example/valet3/valet3/core/Routing" own_lay0 [.null, (.ref a_TOKEN), .null, .null, .null]) :
    own_Met l Z (⟨"com/example/valet3/valet3/core/Routing", "refusal", "()Lcom/example/valet3/valet3/core/Refusal;"⟩ : MethodName) prog_70_method_9_code 1 (some (.object "com/example/valet3/valet3/core/Refusal")) [] ({ frames := 0, cells := 0, slots := 0, locals := 0 } : Room) n0 #[(.ref p0)] h (own_pure .null h) := by
  refine own_met (Ls := #[.val (.ref p0)]) (by first | exact plainFor_of_name (by first | (simp [plainName, overriddenIn]; done) | decide +kernel) | decide +kernel) (fun m => rfl) ?_
  intro p e s m below meth c C
  refine own_aloadN C own_d7_0 rfl rfl (pc' := 1) rfl ?_
  refine own_getO C (own_w hw 25 rfl) Via.refl o_p0 0 rfl rfl own_d7_1 (pc' := 4) rfl ?_
  exact own_areturn C rfl rfl own_d7_4 (by decide) (by decide) ⟨rfl, rfl⟩
set_option maxHeartbeats 2000000 in
theorem own_c8_15 (l : Launch) {Z : State} {a0 : Array Value} (hw : ∀ d ∈ tables_1, d.before a0 Z = true) {n0 : Nat} {h : Heap} {a_AUTHORIZE a_REVOKE a_TOKEN : Nat} (S : own_St Z a_AUTHORIZE a_REVOKE a_TOKEN) (z0 : n0 ≤ h.size) (old : Old Z n0 h) (p0 : Nat) (o_p0 : own_Ob Z h p0 "com/example/valet3/valet3/core/Routing" own_lay0 [.null, (.ref a_TOKEN), .null, .null, .null]) :
    own_Met l Z (⟨"com/example/valet3/valet3/core/Routing", "route", "()Lcom/example/valet3/valet3/core/Route;"⟩ : MethodName) prog_70_method_11_code 1 (some (.object "com/example/valet3/valet3/core/Route")) [] ({ frames := 0, cells := 0, slots := 0, locals := 0 } : Room) n0 #[(.ref p0)] h (own_pure .null h) := by
  refine own_met (Ls := #[.val (.ref p0)]) (by first | exact plainFor_of_name (by first | (simp [plainName, overriddenIn]; done) | decide +kernel) | decide +kernel) (fun m => rfl) ?_
  intro p e s m below meth c C
  refine own_aloadN C own_d8_0 rfl rfl (pc' := 1) rfl ?_
  refine own_getO C (own_w hw 29 rfl) Via.refl o_p0 2 rfl rfl own_d8_1 (pc' := 4) rfl ?_
  exact own_areturn C rfl rfl own_d8_4 (by decide) (by decide) ⟨rfl, rfl⟩
set_option maxHeartbeats 2000000 in
theorem own_c9_16 (l : Launch) {Z : State} {a0 : Array Value} (hw : ∀ d ∈ tables_1, d.before a0 Z = true) {n0 : Nat} {h : Heap} {a_AUTHORIZE a_REVOKE a_TOKEN : Nat} (S : own_St Z a_AUTHORIZE a_REVOKE a_TOKEN) (z0 : n0 ≤ h.size) (old : Old Z n0 h) (p0 : Nat) (o_p0 : own_Ob Z h p0 "com/example/valet3/valet3/core/Routing" own_lay0 [.null, (.ref a_TOKEN), .null, .null, .null]) :
    own_Met l Z (⟨"com/example/valet3/valet3/core/Routing", "backend", "()Ljava/lang/String;"⟩ : MethodName) prog_70_method_12_code 1 (some (.object "java/lang/String")) [] ({ frames := 0, cells := 0, slots := 0, locals := 0 } : Room) n0 #[(.ref p0)] h (own_pure .null h) := by
  refine own_met (Ls := #[.val (.ref p0)]) (by first | exact plainFor_of_name (by first | (simp [plainName, overriddenIn]; done) | decide +kernel) | decide +kernel) (fun m => rfl) ?_
  intro p e s m below meth c C
  refine own_aloadN C own_d9_0 rfl rfl (pc' := 1) rfl ?_
  refine own_getO C (own_w hw 31 rfl) Via.refl o_p0 3 rfl rfl own_d9_1 (pc' := 4) rfl ?_
  exact own_areturn C rfl rfl own_d9_4 (by decide) (by decide) ⟨rfl, rfl⟩
set_option maxHeartbeats 2000000 in
theorem own_c10_17 (l : Launch) {Z : State} {a0 : Array Value} (hw : ∀ d ∈ tables_1, d.before a0 Z = true) {n0 : Nat} {h : Heap} {a_AUTHORIZE a_REVOKE a_TOKEN : Nat} (S : own_St Z a_AUTHORIZE a_REVOKE a_TOKEN) (z0 : n0 ≤ h.size) (old : Old Z n0 h) (p0 : Nat) (o_p0 : own_Ob Z h p0 "com/example/valet3/valet3/core/Routing" own_lay0 [.null, (.ref a_TOKEN), .null, .null, .null]) :
    own_Met l Z (⟨"com/example/valet3/valet3/core/Routing", "rest", "()Ljava/lang/String;"⟩ : MethodName) prog_70_method_13_code 1 (some (.object "java/lang/String")) [] ({ frames := 0, cells := 0, slots := 0, locals := 0 } : Room) n0 #[(.ref p0)] h (own_pure .null h) := by
  refine own_met (Ls := #[.val (.ref p0)]) (by first | exact plainFor_of_name (by first | (simp [plainName, overriddenIn]; done) | decide +kernel) | decide +kernel) (fun m => rfl) ?_
  intro p e s m below meth c C
  refine own_aloadN C own_d10_0 rfl rfl (pc' := 1) rfl ?_
  refine own_getO C (own_w hw 33 rfl) Via.refl o_p0 4 rfl rfl own_d10_1 (pc' := 4) rfl ?_
  exact own_areturn C rfl rfl own_d10_4 (by decide) (by decide) ⟨rfl, rfl⟩
set_option maxHeartbeats 2000000 in
theorem own_c11_18 (l : Launch) {Z : State} {a0 : Array Value} (hw : ∀ d ∈ tables_1, d.before a0 Z = true) {n0 : Nat} {h : Heap} {a_AUTHORIZE a_REVOKE a_TOKEN : Nat} (S : own_St Z a_AUTHORIZE a_REVOKE a_TOKEN) (z0 : n0 ≤ h.size) (old : Old Z n0 h) (p0 : Nat) (o_p0 : own_Ob Z h p0 "com/example/valet3/valet3/core/Routing" own_lay0 [.null, (.ref a_TOKEN), .null, .null, .null]) :
    own_Met l Z (⟨"com/example/valet3/valet3/core/Routing", "isRefused", "()Z"⟩ : MethodName) prog_70_method_5_code 1 (some .boolean) [] ({ frames := 0, cells := 0, slots := 0, locals := 0 } : Room) n0 #[(.ref p0)] h (own_pure (.int (0 : Int32)) h) := by
  refine own_met (Ls := #[.val (.ref p0)]) (by first | exact plainFor_of_name (by first | (simp [plainName, overriddenIn]; done) | decide +kernel) | decide +kernel) (fun m => rfl) ?_
  intro p e s m below meth c C
  refine own_aloadN C own_d11_0 rfl rfl (pc' := 1) rfl ?_
  refine own_getO C (own_w hw 25 rfl) Via.refl o_p0 0 rfl rfl own_d11_1 (pc' := 4) rfl ?_
  refine own_nullY C own_d11_4 (by decide) (pc' := 11) (by decide) ?_
  refine own_iconst C (v := (0 : Int32)) own_d11_11 (by decide) (pc' := 12) rfl ?_
  exact own_ireturn C (by simp) rfl own_d11_12 (by decide) (by decide) ⟨rfl, rfl⟩
set_option maxHeartbeats 2000000 in
theorem own_c1_19 (l : Launch) {Z : State} {a0 : Array Value} (hw : ∀ d ∈ tables_1, d.before a0 Z = true) {n0 : Nat} {h : Heap} {a_AUTHORIZE a_REVOKE a_TOKEN : Nat} (S : own_St Z a_AUTHORIZE a_REVOKE a_TOKEN) (z0 : n0 ≤ h.size) (old : Old Z n0 h) (x0 : Int32) (hx0 : ((x0 &&& (2147483647 : Int32)) % (3 : Int32)) = (2 : Int32)) :
    own_Met l Z (⟨"com/example/valet3/valet3/core/RoutingToPinLaw", "pick", "(I)Lcom/example/valet3/valet3/core/Endpoint;"⟩ : MethodName) method_2_code 2 (some (.object "com/example/valet3/valet3/core/Endpoint")) [] ({ frames := 0, cells := 0, slots := 0, locals := 0 } : Room) n0 #[(.int x0)] h (own_pure (.ref a_REVOKE) h) := by
  refine own_met (Ls := #[.val (.int x0), .unset]) (by first | exact plainFor_of_name (by first | (simp [plainName, overriddenIn]; done) | decide +kernel) | decide +kernel) (fun m => rfl) ?_
  intro p e s m below meth c C
  refine own_iloadN C own_d1_0 rfl (pc' := 1) rfl ?_
  refine own_ldc C (own_w hw 4 rfl) own_d1_1 (pc' := 3) rfl ?_
  refine own_iand C own_d1_3 rfl (pc' := 4) rfl ?_
  refine own_iconst C (v := (3 : Int32)) own_d1_4 (by decide) (pc' := 5) rfl ?_
  refine own_irem C (z := (2 : Int32)) own_d1_5 (by decide) hx0 (pc' := 6) rfl ?_
  refine own_istoreN C (Ls' := #[.val (.int x0), .val (.int (2 : Int32))]) own_d1_6 rfl (pc' := 7) rfl ?_
  refine own_iloadN C own_d1_7 rfl (pc' := 8) rfl ?_
  refine own_ifY C own_d1_8 (by decide) (by decide) (pc' := 15) (by decide) ?_
  refine own_iloadN C own_d1_15 rfl (pc' := 16) rfl ?_
  refine own_iconst C (v := (1 : Int32)) own_d1_16 (by decide) (pc' := 17) rfl ?_
  refine own_icmpY C own_d1_17 (by decide) (by decide) (pc' := 24) (by decide) ?_
  refine own_getstatic C (own_w hw 65 rfl) (S.2.1.1.ext old.2) own_d1_24 (pc' := 27) rfl ?_
  exact own_areturn C rfl rfl own_d1_27 (by decide) (by decide) ⟨rfl, rfl⟩
set_option maxHeartbeats 2000000 in
theorem own_c3_20 (l : Launch) {Z : State} {a0 : Array Value} (hw : ∀ d ∈ tables_1, d.before a0 Z = true) {n0 : Nat} {h : Heap} {a_AUTHORIZE a_REVOKE a_TOKEN : Nat} (S : own_St Z a_AUTHORIZE a_REVOKE a_TOKEN) (z0 : n0 ≤ h.size) (old : Old Z n0 h) (p0 : Nat) (o_p0 : own_Ob Z h p0 "com/example/valet3/valet3/core/Routing" own_lay0 [.null, .null, .null, .null, .null]) (g_p0 : n0 ≤ p0) :
    own_Met l Z (⟨"com/example/valet3/valet3/core/Routing", "<init>", "(Lcom/example/valet3/valet3/core/Refusal;Lcom/example/valet3/valet3/core/Endpoint;Lcom/example/valet3/valet3/core/Route;Ljava/lang/String;Ljava/lang/String;)V"⟩ : MethodName) prog_70_method_1_code 6 none [] ({ frames := 2, cells := 0, slots := 0, locals := 24 } : Room) n0 #[(.ref p0), .null, (.ref a_REVOKE), .null, .null, .null] h (own_nov fun h' => Keep h h' [p0] ∧ own_Ob Z h' p0 "com/example/valet3/valet3/core/Routing" own_lay0 [.null, (.ref a_REVOKE), .null, .null, .null]) := by
  refine own_met (Ls := #[.val (.ref p0), .val .null, .val (.ref a_REVOKE), .val .null, .val .null, .val .null]) (by first | exact plainFor_of_name (by first | (simp [plainName, overriddenIn]; done) | decide +kernel) | decide +kernel) (fun m => rfl) ?_
  intro p e s m below meth c C
  refine own_aloadN C own_d3_0 rfl rfl (pc' := 1) rfl ?_
  refine own_callI C rfl (own_c4_1 l hw S (by omega) old p0) (own_w hw 17 rfl) (own_w hw 18 rfl) (own_w hw 20 rfl) (own_w hw 21 rfl) (by decide) own_d3_1 rfl (argsL := []) (rest := []) rfl (lenOf own_pd1 rfl) (W := 0) (Nat.le_of_eq rfl) (by decide) (by decide) (by decide) (by decide) (pc' := 4) rfl ?_
  rintro h1 K1
  have s1 : h.size ≤ h1.size := K1.1
  have k1 : Keep h h1 [p0] := (Keep.refl h [p0]).trans K1 all0
  refine own_aloadN C own_d3_4 rfl rfl (pc' := 5) rfl ?_
  refine own_aloadN C own_d3_5 rfl rfl (pc' := 6) rfl ?_
  have o_p0_1 := (o_p0.keep K1 nin0)
  refine own_putO C (own_w hw 25 rfl) Via.refl o_p0_1 (own_lay0_ok hw) 0 rfl (vs' := [.null, .null, .null, .null, .null]) rfl (Or.inr ⟨(own_w hw 26 rfl), rfl, rfl⟩) (own_w hw 13 rfl) (ty := (.object "com/example/valet3/valet3/core/Refusal")) (by decide) (by first | rfl | decide) (by first | rfl | decide) g_p0 own_d3_6 (pc' := 9) rfl ?_
  intro h2 W2 o_p0_2
  have s2 : h2.size = h1.size := W2.size
  have k2 : Keep h h2 [p0] := k1.wr W2 (Or.inl (by simp))
  refine own_aloadN C own_d3_9 rfl rfl (pc' := 10) rfl ?_
  refine own_aloadN C own_d3_10 rfl rfl (pc' := 11) rfl ?_
  refine own_putO C (own_w hw 27 rfl) Via.refl o_p0_2 (own_lay0_ok hw) 1 rfl (vs' := [.null, (.ref a_REVOKE), .null, .null, .null]) rfl (Or.inr ⟨(own_w hw 28 rfl), rfl, rfl⟩) (own_w hw 13 rfl) (ty := (.object "com/example/valet3/valet3/core/Endpoint")) (by decide) (by first | rfl | decide) (by first | rfl | decide) g_p0 own_d3_11 (pc' := 14) rfl ?_
  intro h3 W3 o_p0_3
  have s3 : h3.size = h2.size := W3.size
  have k3 : Keep h h3 [p0] := k2.wr W3 (Or.inl (by simp))
  refine own_aloadN C own_d3_14 rfl rfl (pc' := 15) rfl ?_
  refine own_aloadN C own_d3_15 rfl rfl (pc' := 16) rfl ?_
  refine own_putO C (own_w hw 29 rfl) Via.refl o_p0_3 (own_lay0_ok hw) 2 rfl (vs' := [.null, (.ref a_REVOKE), .null, .null, .null]) rfl (Or.inr ⟨(own_w hw 30 rfl), rfl, rfl⟩) (own_w hw 13 rfl) (ty := (.object "com/example/valet3/valet3/core/Route")) (by decide) (by first | rfl | decide) (by first | rfl | decide) g_p0 own_d3_16 (pc' := 19) rfl ?_
  intro h4 W4 o_p0_4
  have s4 : h4.size = h3.size := W4.size
  have k4 : Keep h h4 [p0] := k3.wr W4 (Or.inl (by simp))
  refine own_aloadN C own_d3_19 rfl rfl (pc' := 20) rfl ?_
  refine own_aload C own_d3_20 rfl rfl (pc' := 22) rfl ?_
  refine own_putO C (own_w hw 31 rfl) Via.refl o_p0_4 (own_lay0_ok hw) 3 rfl (vs' := [.null, (.ref a_REVOKE), .null, .null, .null]) rfl (Or.inr ⟨(own_w hw 32 rfl), rfl, rfl⟩) (own_w hw 13 rfl) (ty := (.object "java/lang/String")) (by decide) (by first | rfl | decide) (by first | rfl | decide) g_p0 own_d3_22 (pc' := 25) rfl ?_
  intro h5 W5 o_p0_5
  have s5 : h5.size = h4.size := W5.size
  have k5 : Keep h h5 [p0] := k4.wr W5 (Or.inl (by simp))
  refine own_aloadN C own_d3_25 rfl rfl (pc' := 26) rfl ?_
  refine own_aload C own_d3_26 rfl rfl (pc' := 28) rfl ?_
  refine own_putO C (own_w hw 33 rfl) Via.refl o_p0_5 (own_lay0_ok hw) 4 rfl (vs' := [.null, (.ref a_REVOKE), .null, .null, .null]) rfl (Or.inr ⟨(own_w hw 34 rfl), rfl, rfl⟩) (own_w hw 13 rfl) (ty := (.object "java/lang/String")) (by decide) (by first | rfl | decide) (by first | rfl | decide) g_p0 own_d3_28 (pc' := 31) rfl ?_
  intro h6 W6 o_p0_6
  have s6 : h6.size = h5.size := W6.size
  have k6 : Keep h h6 [p0] := k5.wr W6 (Or.inl (by simp))
  exact own_return C own_d3_31 (by decide) (by decide) ⟨rfl, k6, o_p0_6⟩
set_option maxHeartbeats 2000000 in
theorem own_c2_21 (l : Launch) {Z : State} {a0 : Array Value} (hw : ∀ d ∈ tables_1, d.before a0 Z = true) {n0 : Nat} {h : Heap} {a_AUTHORIZE a_REVOKE a_TOKEN : Nat} (S : own_St Z a_AUTHORIZE a_REVOKE a_TOKEN) (z0 : n0 ≤ h.size) (old : Old Z n0 h) :
    own_Met l Z (⟨"com/example/valet3/valet3/core/Routing", "to", "(Lcom/example/valet3/valet3/core/Endpoint;)Lcom/example/valet3/valet3/core/Routing;"⟩ : MethodName) prog_70_method_3_code 1 (some (.object "com/example/valet3/valet3/core/Routing")) [] ({ frames := 3, cells := 1, slots := 5, locals := 42 } : Room) n0 #[(.ref a_REVOKE)] h (own_val fun w h' => ∃ b1 : Nat, w = (.ref b1) ∧ Keep h h' [] ∧ h.size ≤ b1 ∧ b1 < h'.size ∧ own_Ob Z h' b1 "com/example/valet3/valet3/core/Routing" own_lay0 [.null, (.ref a_REVOKE), .null, .null, .null]) := by
  refine own_met (Ls := #[.val (.ref a_REVOKE)]) (by first | exact plainFor_of_name (by first | (simp [plainName, overriddenIn]; done) | decide +kernel) | decide +kernel) (fun m => rfl) ?_
  intro p e s m below meth c C
  refine own_newO C (own_w hw 12 rfl) (own_w hw 13 rfl) (own_w hw 10 rfl) (own_lay0_ok hw) own_lay0_df own_d2_0 (by decide) (by decide) (pc' := 3) rfl ?_
  intro h1 b1 g1 E1 o_b1
  have s1 : h.size ≤ h1.size := E1.1
  have k1 : Keep h h1 [] := (Keep.refl h []).ext E1
  have t1 := o_b1.lt
  refine own_dup C own_d2_3 rfl (pc' := 4) rfl ?_
  refine own_aconst_null C own_d2_4 (pc' := 5) rfl ?_
  refine own_aloadN C own_d2_5 rfl rfl (pc' := 6) rfl ?_
  refine own_aconst_null C own_d2_6 (pc' := 7) rfl ?_
  refine own_aconst_null C own_d2_7 (pc' := 8) rfl ?_
  refine own_aconst_null C own_d2_8 (pc' := 9) rfl ?_
  have old1 := (old.ext E1)
  refine own_callI C rfl (own_c3_20 l hw S (by omega) old1 b1 o_b1 (by omega)) (own_w hw 14 rfl) (own_w hw 15 rfl) (own_w hw 10 rfl) (own_w hw 16 rfl) (by decide) own_d2_9 rfl (argsL := [.null, (.ref a_REVOKE), .null, .null, .null]) (rest := [(.ref b1)]) rfl (lenOf own_pd2 rfl) (W := 1) (Nat.le_of_eq rfl) (by decide) (by decide) (by decide) (by decide) (pc' := 12) rfl ?_
  rintro h2 ⟨K2, o_b1_2⟩
  have s2 : h1.size ≤ h2.size := K2.1
  have k2 : Keep h h2 [] := k1.trans K2 (allS (Or.inr (by omega)) all0)
  exact own_areturn C rfl rfl own_d2_12 (by decide) (by decide) ⟨_, rfl, b1, rfl, k2, by omega, by omega, o_b1_2⟩
set_option maxHeartbeats 2000000 in
theorem own_c6_22 (l : Launch) {Z : State} {a0 : Array Value} (hw : ∀ d ∈ tables_1, d.before a0 Z = true) {n0 : Nat} {h : Heap} {a_AUTHORIZE a_REVOKE a_TOKEN : Nat} (S : own_St Z a_AUTHORIZE a_REVOKE a_TOKEN) (z0 : n0 ≤ h.size) (old : Old Z n0 h) (p0 : Nat) (o_p0 : own_Ob Z h p0 "com/example/valet3/valet3/core/Routing" own_lay0 [.null, (.ref a_REVOKE), .null, .null, .null]) :
    own_Met l Z (⟨"com/example/valet3/valet3/core/Routing", "endpoint", "()Lcom/example/valet3/valet3/core/Endpoint;"⟩ : MethodName) prog_70_method_10_code 1 (some (.object "com/example/valet3/valet3/core/Endpoint")) [] ({ frames := 0, cells := 0, slots := 0, locals := 0 } : Room) n0 #[(.ref p0)] h (own_pure (.ref a_REVOKE) h) := by
  refine own_met (Ls := #[.val (.ref p0)]) (by first | exact plainFor_of_name (by first | (simp [plainName, overriddenIn]; done) | decide +kernel) | decide +kernel) (fun m => rfl) ?_
  intro p e s m below meth c C
  refine own_aloadN C own_d6_0 rfl rfl (pc' := 1) rfl ?_
  refine own_getO C (own_w hw 27 rfl) Via.refl o_p0 1 rfl rfl own_d6_1 (pc' := 4) rfl ?_
  exact own_areturn C rfl rfl own_d6_4 (by decide) (by decide) ⟨rfl, rfl⟩
set_option maxHeartbeats 2000000 in
theorem own_c7_23 (l : Launch) {Z : State} {a0 : Array Value} (hw : ∀ d ∈ tables_1, d.before a0 Z = true) {n0 : Nat} {h : Heap} {a_AUTHORIZE a_REVOKE a_TOKEN : Nat} (S : own_St Z a_AUTHORIZE a_REVOKE a_TOKEN) (z0 : n0 ≤ h.size) (old : Old Z n0 h) (p0 : Nat) (o_p0 : own_Ob Z h p0 "com/example/valet3/valet3/core/Routing" own_lay0 [.null, (.ref a_REVOKE), .null, .null, .null]) :
    own_Met l Z (⟨"com/example/valet3/valet3/core/Routing", "refusal", "()Lcom/example/valet3/valet3/core/Refusal;"⟩ : MethodName) prog_70_method_9_code 1 (some (.object "com/example/valet3/valet3/core/Refusal")) [] ({ frames := 0, cells := 0, slots := 0, locals := 0 } : Room) n0 #[(.ref p0)] h (own_pure .null h) := by
  refine own_met (Ls := #[.val (.ref p0)]) (by first | exact plainFor_of_name (by first | (simp [plainName, overriddenIn]; done) | decide +kernel) | decide +kernel) (fun m => rfl) ?_
  intro p e s m below meth c C
  refine own_aloadN C own_d7_0 rfl rfl (pc' := 1) rfl ?_
  refine own_getO C (own_w hw 25 rfl) Via.refl o_p0 0 rfl rfl own_d7_1 (pc' := 4) rfl ?_
  exact own_areturn C rfl rfl own_d7_4 (by decide) (by decide) ⟨rfl, rfl⟩
set_option maxHeartbeats 2000000 in
theorem own_c8_24 (l : Launch) {Z : State} {a0 : Array Value} (hw : ∀ d ∈ tables_1, d.before a0 Z = true) {n0 : Nat} {h : Heap} {a_AUTHORIZE a_REVOKE a_TOKEN : Nat} (S : own_St Z a_AUTHORIZE a_REVOKE a_TOKEN) (z0 : n0 ≤ h.size) (old : Old Z n0 h) (p0 : Nat) (o_p0 : own_Ob Z h p0 "com/example/valet3/valet3/core/Routing" own_lay0 [.null, (.ref a_REVOKE), .null, .null, .null]) :
    own_Met l Z (⟨"com/example/valet3/valet3/core/Routing", "route", "()Lcom/example/valet3/valet3/core/Route;"⟩ : MethodName) prog_70_method_11_code 1 (some (.object "com/example/valet3/valet3/core/Route")) [] ({ frames := 0, cells := 0, slots := 0, locals := 0 } : Room) n0 #[(.ref p0)] h (own_pure .null h) := by
  refine own_met (Ls := #[.val (.ref p0)]) (by first | exact plainFor_of_name (by first | (simp [plainName, overriddenIn]; done) | decide +kernel) | decide +kernel) (fun m => rfl) ?_
  intro p e s m below meth c C
  refine own_aloadN C own_d8_0 rfl rfl (pc' := 1) rfl ?_
  refine own_getO C (own_w hw 29 rfl) Via.refl o_p0 2 rfl rfl own_d8_1 (pc' := 4) rfl ?_
  exact own_areturn C rfl rfl own_d8_4 (by decide) (by decide) ⟨rfl, rfl⟩
set_option maxHeartbeats 2000000 in
theorem own_c9_25 (l : Launch) {Z : State} {a0 : Array Value} (hw : ∀ d ∈ tables_1, d.before a0 Z = true) {n0 : Nat} {h : Heap} {a_AUTHORIZE a_REVOKE a_TOKEN : Nat} (S : own_St Z a_AUTHORIZE a_REVOKE a_TOKEN) (z0 : n0 ≤ h.size) (old : Old Z n0 h) (p0 : Nat) (o_p0 : own_Ob Z h p0 "com/example/valet3/valet3/core/Routing" own_lay0 [.null, (.ref a_REVOKE), .null, .null, .null]) :
    own_Met l Z (⟨"com/example/valet3/valet3/core/Routing", "backend", "()Ljava/lang/String;"⟩ : MethodName) prog_70_method_12_code 1 (some (.object "java/lang/String")) [] ({ frames := 0, cells := 0, slots := 0, locals := 0 } : Room) n0 #[(.ref p0)] h (own_pure .null h) := by
  refine own_met (Ls := #[.val (.ref p0)]) (by first | exact plainFor_of_name (by first | (simp [plainName, overriddenIn]; done) | decide +kernel) | decide +kernel) (fun m => rfl) ?_
  intro p e s m below meth c C
  refine own_aloadN C own_d9_0 rfl rfl (pc' := 1) rfl ?_
  refine own_getO C (own_w hw 31 rfl) Via.refl o_p0 3 rfl rfl own_d9_1 (pc' := 4) rfl ?_
  exact own_areturn C rfl rfl own_d9_4 (by decide) (by decide) ⟨rfl, rfl⟩
set_option maxHeartbeats 2000000 in
theorem own_c10_26 (l : Launch) {Z : State} {a0 : Array Value} (hw : ∀ d ∈ tables_1, d.before a0 Z = true) {n0 : Nat} {h : Heap} {a_AUTHORIZE a_REVOKE a_TOKEN : Nat} (S : own_St Z a_AUTHORIZE a_REVOKE a_TOKEN) (z0 : n0 ≤ h.size) (old : Old Z n0 h) (p0 : Nat) (o_p0 : own_Ob Z h p0 "com/example/valet3/valet3/core/Routing" own_lay0 [.null, (.ref a_REVOKE), .null, .null, .null]) :
    own_Met l Z (⟨"com/example/valet3/valet3/core/Routing", "rest", "()Ljava/lang/String;"⟩ : MethodName) prog_70_method_13_code 1 (some (.object "java/lang/String")) [] ({ frames := 0, cells := 0, slots := 0, locals := 0 } : Room) n0 #[(.ref p0)] h (own_pure .null h) := by
  refine own_met (Ls := #[.val (.ref p0)]) (by first | exact plainFor_of_name (by first | (simp [plainName, overriddenIn]; done) | decide +kernel) | decide +kernel) (fun m => rfl) ?_
  intro p e s m below meth c C
  refine own_aloadN C own_d10_0 rfl rfl (pc' := 1) rfl ?_
  refine own_getO C (own_w hw 33 rfl) Via.refl o_p0 4 rfl rfl own_d10_1 (pc' := 4) rfl ?_
  exact own_areturn C rfl rfl own_d10_4 (by decide) (by decide) ⟨rfl, rfl⟩
set_option maxHeartbeats 2000000 in
theorem own_c11_27 (l : Launch) {Z : State} {a0 : Array Value} (hw : ∀ d ∈ tables_1, d.before a0 Z = true) {n0 : Nat} {h : Heap} {a_AUTHORIZE a_REVOKE a_TOKEN : Nat} (S : own_St Z a_AUTHORIZE a_REVOKE a_TOKEN) (z0 : n0 ≤ h.size) (old : Old Z n0 h) (p0 : Nat) (o_p0 : own_Ob Z h p0 "com/example/valet3/valet3/core/Routing" own_lay0 [.null, (.ref a_REVOKE), .null, .null, .null]) :
    own_Met l Z (⟨"com/example/valet3/valet3/core/Routing", "isRefused", "()Z"⟩ : MethodName) prog_70_method_5_code 1 (some .boolean) [] ({ frames := 0, cells := 0, slots := 0, locals := 0 } : Room) n0 #[(.ref p0)] h (own_pure (.int (0 : Int32)) h) := by
  refine own_met (Ls := #[.val (.ref p0)]) (by first | exact plainFor_of_name (by first | (simp [plainName, overriddenIn]; done) | decide +kernel) | decide +kernel) (fun m => rfl) ?_
  intro p e s m below meth c C
  refine own_aloadN C own_d11_0 rfl rfl (pc' := 1) rfl ?_
  refine own_getO C (own_w hw 25 rfl) Via.refl o_p0 0 rfl rfl own_d11_1 (pc' := 4) rfl ?_
  refine own_nullY C own_d11_4 (by decide) (pc' := 11) (by decide) ?_
  refine own_iconst C (v := (0 : Int32)) own_d11_11 (by decide) (pc' := 12) rfl ?_
  exact own_ireturn C (by simp) rfl own_d11_12 (by decide) (by decide) ⟨rfl, rfl⟩
set_option maxHeartbeats 4000000 in
theorem own_law_0 (l : Launch) {Z : State} {a0 : Array Value} (hw : ∀ d ∈ tables_1, d.before a0 Z = true) {n0 : Nat} {h : Heap} {a_AUTHORIZE a_REVOKE a_TOKEN : Nat} (S : own_St Z a_AUTHORIZE a_REVOKE a_TOKEN) (z0 : n0 ≤ h.size) (old : Old Z n0 h) (x0 : Int32) (hx0 : ((x0 &&& (2147483647 : Int32)) % (3 : Int32)) = (0 : Int32)) :
    own_Met l Z x code maxLocals ret tables_1 room_1 n0 #[(.int x0)] h (fun v _ => v = some (.int 1)) := by
  refine own_met (Ls := #[.val (.int x0), .unset, .unset]) (by first | exact plainFor_of_name (by first | (simp [x, plainName, overriddenIn]; done) | decide +kernel) | decide +kernel) (fun m => rfl) ?_
  intro p e s m below meth c C
  refine own_iloadN C at_0 rfl (pc' := 1) rfl ?_
  refine own_callSp C (own_c1_0 l hw S (by omega) old x0 hx0) (own_w hw 0 rfl) (own_w hw 1 rfl) (own_w hw 2 rfl) (own_w hw 3 rfl) (by decide) at_1 rfl (argsL := [(.int x0)]) (rest := []) rfl (lenOf own_pd0 rfl) (W := 0) (Nat.le_of_eq rfl) (by decide) (by decide) (by decide) (by decide) (by decide) (by decide) (pc' := 4) rfl ?_
  refine own_astoreN C (Ls' := #[.val (.int x0), .val (.ref a_AUTHORIZE), .unset]) at_4 rfl rfl (pc' := 5) rfl ?_
  refine own_aloadN C at_5 rfl rfl (pc' := 6) rfl ?_
  refine own_callS C (own_c2_3 l hw S (by omega) old) (own_w hw 8 rfl) (own_w hw 9 rfl) (own_w hw 10 rfl) (own_w hw 11 rfl) (by decide) at_6 rfl (argsL := [(.ref a_AUTHORIZE)]) (rest := []) rfl (lenOf own_pd3 rfl) (W := 0) (Nat.le_of_eq rfl) (by decide) (by decide) (by decide) (by decide) (pc' := 9) rfl ?_
  rintro _ h1 ⟨b1_0, rfl, K1, l1_0, l1_1, o_b1_0_1⟩
  have s1 : h.size ≤ h1.size := K1.1
  refine own_astoreN C (Ls' := #[.val (.int x0), .val (.ref a_AUTHORIZE), .val (.ref b1_0)]) at_9 rfl rfl (pc' := 10) rfl ?_
  refine own_aloadN C at_10 rfl rfl (pc' := 11) rfl ?_
  refine own_nonnullY C at_11 (by decide) (pc' := 16) (by decide) ?_
  refine own_aloadN C at_16 rfl rfl (pc' := 17) rfl ?_
  have old1 := (old.keep K1 all0)
  refine own_callVp C o_b1_0_1.1 (own_c6_4 l hw S (by omega) old1 b1_0 o_b1_0_1) (own_w hw 35 rfl) (own_w hw 36 rfl) (own_w hw 38 rfl) (own_w hw 37 rfl) (own_w hw 10 rfl) (own_w hw 39 rfl) (by decide) at_17 rfl (argsL := []) (rest := []) rfl (lenOf own_pd4 rfl) (W := 0) (Nat.le_of_eq rfl) (by decide) (by decide) (by decide) (by decide) (by decide) (by decide) (pc' := 20) rfl ?_
  refine own_aloadN C at_20 rfl rfl (pc' := 21) rfl ?_
  refine own_acmp C (same := true) at_21 rfl rfl (own_same _) (by decide) (pc' := 26) (by decide) ?_
  refine own_aloadN C at_26 rfl rfl (pc' := 27) rfl ?_
  refine own_callVp C o_b1_0_1.1 (own_c7_5 l hw S (by omega) old1 b1_0 o_b1_0_1) (own_w hw 40 rfl) (own_w hw 41 rfl) (own_w hw 43 rfl) (own_w hw 42 rfl) (own_w hw 10 rfl) (own_w hw 44 rfl) (by decide) at_27 rfl (argsL := []) (rest := []) rfl (lenOf own_pd5 rfl) (W := 0) (Nat.le_of_eq rfl) (by decide) (by decide) (by decide) (by decide) (by decide) (by decide) (pc' := 30) rfl ?_
  refine own_nullY C at_30 (by decide) (pc' := 35) (by decide) ?_
  refine own_aloadN C at_35 rfl rfl (pc' := 36) rfl ?_
  refine own_callVp C o_b1_0_1.1 (own_c8_6 l hw S (by omega) old1 b1_0 o_b1_0_1) (own_w hw 45 rfl) (own_w hw 46 rfl) (own_w hw 48 rfl) (own_w hw 47 rfl) (own_w hw 10 rfl) (own_w hw 49 rfl) (by decide) at_36 rfl (argsL := []) (rest := []) rfl (lenOf own_pd6 rfl) (W := 0) (Nat.le_of_eq rfl) (by decide) (by decide) (by decide) (by decide) (by decide) (by decide) (pc' := 39) rfl ?_
  refine own_nullY C at_39 (by decide) (pc' := 44) (by decide) ?_
  refine own_aloadN C at_44 rfl rfl (pc' := 45) rfl ?_
  refine own_callVp C o_b1_0_1.1 (own_c9_7 l hw S (by omega) old1 b1_0 o_b1_0_1) (own_w hw 50 rfl) (own_w hw 51 rfl) (own_w hw 53 rfl) (own_w hw 52 rfl) (own_w hw 10 rfl) (own_w hw 54 rfl) (by decide) at_45 rfl (argsL := []) (rest := []) rfl (lenOf own_pd7 rfl) (W := 0) (Nat.le_of_eq rfl) (by decide) (by decide) (by decide) (by decide) (by decide) (by decide) (pc' := 48) rfl ?_
  refine own_nullY C at_48 (by decide) (pc' := 53) (by decide) ?_
  refine own_aloadN C at_53 rfl rfl (pc' := 54) rfl ?_
  refine own_callVp C o_b1_0_1.1 (own_c10_8 l hw S (by omega) old1 b1_0 o_b1_0_1) (own_w hw 55 rfl) (own_w hw 56 rfl) (own_w hw 58 rfl) (own_w hw 57 rfl) (own_w hw 10 rfl) (own_w hw 59 rfl) (by decide) at_54 rfl (argsL := []) (rest := []) rfl (lenOf own_pd7 rfl) (W := 0) (Nat.le_of_eq rfl) (by decide) (by decide) (by decide) (by decide) (by decide) (by decide) (pc' := 57) rfl ?_
  refine own_nullY C at_57 (by decide) (pc' := 62) (by decide) ?_
  refine own_aloadN C at_62 rfl rfl (pc' := 63) rfl ?_
  refine own_callVp C o_b1_0_1.1 (own_c11_9 l hw S (by omega) old1 b1_0 o_b1_0_1) (own_w hw 60 rfl) (own_w hw 61 rfl) (own_w hw 63 rfl) (own_w hw 62 rfl) (own_w hw 10 rfl) (own_w hw 64 rfl) (by decide) at_63 rfl (argsL := []) (rest := []) rfl (lenOf own_pd8 rfl) (W := 0) (Nat.le_of_eq rfl) (by decide) (by decide) (by decide) (by decide) (by decide) (by decide) (pc' := 66) rfl ?_
  refine own_ifN C at_66 (by decide) (pc' := 69) rfl ?_
  refine own_iconst C (v := (1 : Int32)) at_69 (by decide) (pc' := 70) rfl ?_
  refine own_goto C at_70 (by decide) (pc' := 74) (by decide) ?_
  exact own_ireturn C (by simp) rfl at_74 (by decide) (by decide) rfl
set_option maxHeartbeats 4000000 in
theorem own_law_1 (l : Launch) {Z : State} {a0 : Array Value} (hw : ∀ d ∈ tables_1, d.before a0 Z = true) {n0 : Nat} {h : Heap} {a_AUTHORIZE a_REVOKE a_TOKEN : Nat} (S : own_St Z a_AUTHORIZE a_REVOKE a_TOKEN) (z0 : n0 ≤ h.size) (old : Old Z n0 h) (x0 : Int32) (hx0 : ((x0 &&& (2147483647 : Int32)) % (3 : Int32)) = (1 : Int32)) :
    own_Met l Z x code maxLocals ret tables_1 room_1 n0 #[(.int x0)] h (fun v _ => v = some (.int 1)) := by
  refine own_met (Ls := #[.val (.int x0), .unset, .unset]) (by first | exact plainFor_of_name (by first | (simp [x, plainName, overriddenIn]; done) | decide +kernel) | decide +kernel) (fun m => rfl) ?_
  intro p e s m below meth c C
  refine own_iloadN C at_0 rfl (pc' := 1) rfl ?_
  refine own_callSp C (own_c1_10 l hw S (by omega) old x0 hx0) (own_w hw 0 rfl) (own_w hw 1 rfl) (own_w hw 2 rfl) (own_w hw 3 rfl) (by decide) at_1 rfl (argsL := [(.int x0)]) (rest := []) rfl (lenOf own_pd0 rfl) (W := 0) (Nat.le_of_eq rfl) (by decide) (by decide) (by decide) (by decide) (by decide) (by decide) (pc' := 4) rfl ?_
  refine own_astoreN C (Ls' := #[.val (.int x0), .val (.ref a_TOKEN), .unset]) at_4 rfl rfl (pc' := 5) rfl ?_
  refine own_aloadN C at_5 rfl rfl (pc' := 6) rfl ?_
  refine own_callS C (own_c2_12 l hw S (by omega) old) (own_w hw 8 rfl) (own_w hw 9 rfl) (own_w hw 10 rfl) (own_w hw 11 rfl) (by decide) at_6 rfl (argsL := [(.ref a_TOKEN)]) (rest := []) rfl (lenOf own_pd3 rfl) (W := 0) (Nat.le_of_eq rfl) (by decide) (by decide) (by decide) (by decide) (pc' := 9) rfl ?_
  rintro _ h1 ⟨b1_0, rfl, K1, l1_0, l1_1, o_b1_0_1⟩
  have s1 : h.size ≤ h1.size := K1.1
  refine own_astoreN C (Ls' := #[.val (.int x0), .val (.ref a_TOKEN), .val (.ref b1_0)]) at_9 rfl rfl (pc' := 10) rfl ?_
  refine own_aloadN C at_10 rfl rfl (pc' := 11) rfl ?_
  refine own_nonnullY C at_11 (by decide) (pc' := 16) (by decide) ?_
  refine own_aloadN C at_16 rfl rfl (pc' := 17) rfl ?_
  have old1 := (old.keep K1 all0)
  refine own_callVp C o_b1_0_1.1 (own_c6_13 l hw S (by omega) old1 b1_0 o_b1_0_1) (own_w hw 35 rfl) (own_w hw 36 rfl) (own_w hw 38 rfl) (own_w hw 37 rfl) (own_w hw 10 rfl) (own_w hw 39 rfl) (by decide) at_17 rfl (argsL := []) (rest := []) rfl (lenOf own_pd4 rfl) (W := 0) (Nat.le_of_eq rfl) (by decide) (by decide) (by decide) (by decide) (by decide) (by decide) (pc' := 20) rfl ?_
  refine own_aloadN C at_20 rfl rfl (pc' := 21) rfl ?_
  refine own_acmp C (same := true) at_21 rfl rfl (own_same _) (by decide) (pc' := 26) (by decide) ?_
  refine own_aloadN C at_26 rfl rfl (pc' := 27) rfl ?_
  refine own_callVp C o_b1_0_1.1 (own_c7_14 l hw S (by omega) old1 b1_0 o_b1_0_1) (own_w hw 40 rfl) (own_w hw 41 rfl) (own_w hw 43 rfl) (own_w hw 42 rfl) (own_w hw 10 rfl) (own_w hw 44 rfl) (by decide) at_27 rfl (argsL := []) (rest := []) rfl (lenOf own_pd5 rfl) (W := 0) (Nat.le_of_eq rfl) (by decide) (by decide) (by decide) (by decide) (by decide) (by decide) (pc' := 30) rfl ?_
  refine own_nullY C at_30 (by decide) (pc' := 35) (by decide) ?_
  refine own_aloadN C at_35 rfl rfl (pc' := 36) rfl ?_
  refine own_callVp C o_b1_0_1.1 (own_c8_15 l hw S (by omega) old1 b1_0 o_b1_0_1) (own_w hw 45 rfl) (own_w hw 46 rfl) (own_w hw 48 rfl) (own_w hw 47 rfl) (own_w hw 10 rfl) (own_w hw 49 rfl) (by decide) at_36 rfl (argsL := []) (rest := []) rfl (lenOf own_pd6 rfl) (W := 0) (Nat.le_of_eq rfl) (by decide) (by decide) (by decide) (by decide) (by decide) (by decide) (pc' := 39) rfl ?_
  refine own_nullY C at_39 (by decide) (pc' := 44) (by decide) ?_
  refine own_aloadN C at_44 rfl rfl (pc' := 45) rfl ?_
  refine own_callVp C o_b1_0_1.1 (own_c9_16 l hw S (by omega) old1 b1_0 o_b1_0_1) (own_w hw 50 rfl) (own_w hw 51 rfl) (own_w hw 53 rfl) (own_w hw 52 rfl) (own_w hw 10 rfl) (own_w hw 54 rfl) (by decide) at_45 rfl (argsL := []) (rest := []) rfl (lenOf own_pd7 rfl) (W := 0) (Nat.le_of_eq rfl) (by decide) (by decide) (by decide) (by decide) (by decide) (by decide) (pc' := 48) rfl ?_
  refine own_nullY C at_48 (by decide) (pc' := 53) (by decide) ?_
  refine own_aloadN C at_53 rfl rfl (pc' := 54) rfl ?_
  refine own_callVp C o_b1_0_1.1 (own_c10_17 l hw S (by omega) old1 b1_0 o_b1_0_1) (own_w hw 55 rfl) (own_w hw 56 rfl) (own_w hw 58 rfl) (own_w hw 57 rfl) (own_w hw 10 rfl) (own_w hw 59 rfl) (by decide) at_54 rfl (argsL := []) (rest := []) rfl (lenOf own_pd7 rfl) (W := 0) (Nat.le_of_eq rfl) (by decide) (by decide) (by decide) (by decide) (by decide) (by decide) (pc' := 57) rfl ?_
  refine own_nullY C at_57 (by decide) (pc' := 62) (by decide) ?_
  refine own_aloadN C at_62 rfl rfl (pc' := 63) rfl ?_
  refine own_callVp C o_b1_0_1.1 (own_c11_18 l hw S (by omega) old1 b1_0 o_b1_0_1) (own_w hw 60 rfl) (own_w hw 61 rfl) (own_w hw 63 rfl) (own_w hw 62 rfl) (own_w hw 10 rfl) (own_w hw 64 rfl) (by decide) at_63 rfl (argsL := []) (rest := []) rfl (lenOf own_pd8 rfl) (W := 0) (Nat.le_of_eq rfl) (by decide) (by decide) (by decide) (by decide) (by decide) (by decide) (pc' := 66) rfl ?_
  refine own_ifN C at_66 (by decide) (pc' := 69) rfl ?_
  refine own_iconst C (v := (1 : Int32)) at_69 (by decide) (pc' := 70) rfl ?_
  refine own_goto C at_70 (by decide) (pc' := 74) (by decide) ?_
  exact own_ireturn C (by simp) rfl at_74 (by decide) (by decide) rfl
set_option maxHeartbeats 4000000 in
theorem own_law_2 (l : Launch) {Z : State} {a0 : Array Value} (hw : ∀ d ∈ tables_1, d.before a0 Z = true) {n0 : Nat} {h : Heap} {a_AUTHORIZE a_REVOKE a_TOKEN : Nat} (S : own_St Z a_AUTHORIZE a_REVOKE a_TOKEN) (z0 : n0 ≤ h.size) (old : Old Z n0 h) (x0 : Int32) (hx0 : ((x0 &&& (2147483647 : Int32)) % (3 : Int32)) = (2 : Int32)) :
    own_Met l Z x code maxLocals ret tables_1 room_1 n0 #[(.int x0)] h (fun v _ => v = some (.int 1)) := by
  refine own_met (Ls := #[.val (.int x0), .unset, .unset]) (by first | exact plainFor_of_name (by first | (simp [x, plainName, overriddenIn]; done) | decide +kernel) | decide +kernel) (fun m => rfl) ?_
  intro p e s m below meth c C
  refine own_iloadN C at_0 rfl (pc' := 1) rfl ?_
  refine own_callSp C (own_c1_19 l hw S (by omega) old x0 hx0) (own_w hw 0 rfl) (own_w hw 1 rfl) (own_w hw 2 rfl) (own_w hw 3 rfl) (by decide) at_1 rfl (argsL := [(.int x0)]) (rest := []) rfl (lenOf own_pd0 rfl) (W := 0) (Nat.le_of_eq rfl) (by decide) (by decide) (by decide) (by decide) (by decide) (by decide) (pc' := 4) rfl ?_
  refine own_astoreN C (Ls' := #[.val (.int x0), .val (.ref a_REVOKE), .unset]) at_4 rfl rfl (pc' := 5) rfl ?_
  refine own_aloadN C at_5 rfl rfl (pc' := 6) rfl ?_
  refine own_callS C (own_c2_21 l hw S (by omega) old) (own_w hw 8 rfl) (own_w hw 9 rfl) (own_w hw 10 rfl) (own_w hw 11 rfl) (by decide) at_6 rfl (argsL := [(.ref a_REVOKE)]) (rest := []) rfl (lenOf own_pd3 rfl) (W := 0) (Nat.le_of_eq rfl) (by decide) (by decide) (by decide) (by decide) (pc' := 9) rfl ?_
  rintro _ h1 ⟨b1_0, rfl, K1, l1_0, l1_1, o_b1_0_1⟩
  have s1 : h.size ≤ h1.size := K1.1
  refine own_astoreN C (Ls' := #[.val (.int x0), .val (.ref a_REVOKE), .val (.ref b1_0)]) at_9 rfl rfl (pc' := 10) rfl ?_
  refine own_aloadN C at_10 rfl rfl (pc' := 11) rfl ?_
  refine own_nonnullY C at_11 (by decide) (pc' := 16) (by decide) ?_
  refine own_aloadN C at_16 rfl rfl (pc' := 17) rfl ?_
  have old1 := (old.keep K1 all0)
  refine own_callVp C o_b1_0_1.1 (own_c6_22 l hw S (by omega) old1 b1_0 o_b1_0_1) (own_w hw 35 rfl) (own_w hw 36 rfl) (own_w hw 38 rfl) (own_w hw 37 rfl) (own_w hw 10 rfl) (own_w hw 39 rfl) (by decide) at_17 rfl (argsL := []) (rest := []) rfl (lenOf own_pd4 rfl) (W := 0) (Nat.le_of_eq rfl) (by decide) (by decide) (by decide) (by decide) (by decide) (by decide) (pc' := 20) rfl ?_
  refine own_aloadN C at_20 rfl rfl (pc' := 21) rfl ?_
  refine own_acmp C (same := true) at_21 rfl rfl (own_same _) (by decide) (pc' := 26) (by decide) ?_
  refine own_aloadN C at_26 rfl rfl (pc' := 27) rfl ?_
  refine own_callVp C o_b1_0_1.1 (own_c7_23 l hw S (by omega) old1 b1_0 o_b1_0_1) (own_w hw 40 rfl) (own_w hw 41 rfl) (own_w hw 43 rfl) (own_w hw 42 rfl) (own_w hw 10 rfl) (own_w hw 44 rfl) (by decide) at_27 rfl (argsL := []) (rest := []) rfl (lenOf own_pd5 rfl) (W := 0) (Nat.le_of_eq rfl) (by decide) (by decide) (by decide) (by decide) (by decide) (by decide) (pc' := 30) rfl ?_
  refine own_nullY C at_30 (by decide) (pc' := 35) (by decide) ?_
  refine own_aloadN C at_35 rfl rfl (pc' := 36) rfl ?_
  refine own_callVp C o_b1_0_1.1 (own_c8_24 l hw S (by omega) old1 b1_0 o_b1_0_1) (own_w hw 45 rfl) (own_w hw 46 rfl) (own_w hw 48 rfl) (own_w hw 47 rfl) (own_w hw 10 rfl) (own_w hw 49 rfl) (by decide) at_36 rfl (argsL := []) (rest := []) rfl (lenOf own_pd6 rfl) (W := 0) (Nat.le_of_eq rfl) (by decide) (by decide) (by decide) (by decide) (by decide) (by decide) (pc' := 39) rfl ?_
  refine own_nullY C at_39 (by decide) (pc' := 44) (by decide) ?_
  refine own_aloadN C at_44 rfl rfl (pc' := 45) rfl ?_
  refine own_callVp C o_b1_0_1.1 (own_c9_25 l hw S (by omega) old1 b1_0 o_b1_0_1) (own_w hw 50 rfl) (own_w hw 51 rfl) (own_w hw 53 rfl) (own_w hw 52 rfl) (own_w hw 10 rfl) (own_w hw 54 rfl) (by decide) at_45 rfl (argsL := []) (rest := []) rfl (lenOf own_pd7 rfl) (W := 0) (Nat.le_of_eq rfl) (by decide) (by decide) (by decide) (by decide) (by decide) (by decide) (pc' := 48) rfl ?_
  refine own_nullY C at_48 (by decide) (pc' := 53) (by decide) ?_
  refine own_aloadN C at_53 rfl rfl (pc' := 54) rfl ?_
  refine own_callVp C o_b1_0_1.1 (own_c10_26 l hw S (by omega) old1 b1_0 o_b1_0_1) (own_w hw 55 rfl) (own_w hw 56 rfl) (own_w hw 58 rfl) (own_w hw 57 rfl) (own_w hw 10 rfl) (own_w hw 59 rfl) (by decide) at_54 rfl (argsL := []) (rest := []) rfl (lenOf own_pd7 rfl) (W := 0) (Nat.le_of_eq rfl) (by decide) (by decide) (by decide) (by decide) (by decide) (by decide) (pc' := 57) rfl ?_
  refine own_nullY C at_57 (by decide) (pc' := 62) (by decide) ?_
  refine own_aloadN C at_62 rfl rfl (pc' := 63) rfl ?_
  refine own_callVp C o_b1_0_1.1 (own_c11_27 l hw S (by omega) old1 b1_0 o_b1_0_1) (own_w hw 60 rfl) (own_w hw 61 rfl) (own_w hw 63 rfl) (own_w hw 62 rfl) (own_w hw 10 rfl) (own_w hw 64 rfl) (by decide) at_63 rfl (argsL := []) (rest := []) rfl (lenOf own_pd8 rfl) (W := 0) (Nat.le_of_eq rfl) (by decide) (by decide) (by decide) (by decide) (by decide) (by decide) (pc' := 66) rfl ?_
  refine own_ifN C at_66 (by decide) (pc' := 69) rfl ?_
  refine own_iconst C (v := (1 : Int32)) at_69 (by decide) (pc' := 70) rfl ?_
  refine own_goto C at_70 (by decide) (pc' := 74) (by decide) ?_
  exact own_ireturn C (by simp) rfl at_74 (by decide) (by decide) rfl
theorem own_law (l : Launch) {Z : State} {a0 : Array Value} (hw : ∀ d ∈ tables_1, d.before a0 Z = true) {n0 : Nat} {h : Heap} {a_AUTHORIZE a_REVOKE a_TOKEN : Nat} (S : own_St Z a_AUTHORIZE a_REVOKE a_TOKEN) (z0 : n0 ≤ h.size) (old : Old Z n0 h) (x0 : Int32) :
    own_Met l Z x code maxLocals ret tables_1 room_1 n0 #[(.int x0)] h (fun v _ => v = some (.int 1)) := by
  rcases own_mod3 x0 with hx0 | hx0 | hx0
  · exact own_law_0 l hw S z0 old x0 hx0
  · exact own_law_1 l hw S z0 old x0 hx0
  · exact own_law_2 l hw S z0 old x0 hx0
theorem own_comes {Post : Tables → Env → Array Value → State → Outcome → State → Prop} (hpost : ∀ tb e args s v u, (limb_1_1.after args s (.returned v) u = true ∧ limb_1_2.after args s (.returned v) u = true ∧ True) → FrameEnd s (.returned v) u (Jvm.fieldLocs frame_1_writes args s ++ Jvm.arrayLocs frame_1_arrays args s ++ Jvm.staticLocs frame_1_statics s) 16 128 → Post tb e args s (.returned v) u) :
    ArmFor flags0 classFile x code maxLocals ret World_1 tables_1 room_1 Calls_1 rest_1 Pre_1 Post := by
  intro l hfl _ _ p e ha hc hk s m args below hf hA hF happ hP
  obtain ⟨hcalls, hrest, hpre⟩ := hP
  obtain ⟨-, -, -, hnamed, -, -, -, hat⟩ := (Spec.applies_iff hf).mp happ
  obtain ⟨hg, hn⟩ := and_e (Cond.before_iff.mp (show (Jvm.Cond.and given_1 narrow_1).before args s = true from hpre))
  obtain ⟨g0, hg⟩ := and_e hg
  obtain ⟨w0, rfl⟩ : ∃ w0 : Value, args = #[w0] := by
    have hs : args.size = 1 := by simpa [Cond.value, given_1] using g0
    obtain ⟨L⟩ := args
    match L, hs with
    | [w0], _ => exact ⟨w0, rfl⟩
  obtain ⟨x0, e0⟩ := is_v hg
  obtain rfl : w0 = (.int x0) := Option.some.inj e0
  have hw := fun d (hd : d ∈ tables_1) => atoms_spec (ws := Jvm.Cond.code x code maxLocals ret :: tables_1) hat d (List.mem_cons_of_mem _ hd)
  obtain ⟨q0, hn⟩ := and_e hn
  obtain ⟨q1, hn⟩ := and_e hn
  obtain ⟨a_AUTHORIZE, Ea_AUTHORIZE⟩ := own_exob q0 (own_w hw 6 rfl) (own_w hw 7 rfl)
  obtain ⟨a_REVOKE, Ea_REVOKE⟩ := own_exob q1 (own_w hw 6 rfl) (own_w hw 66 rfl)
  obtain ⟨a_TOKEN, Ea_TOKEN⟩ := own_exob hn (own_w hw 6 rfl) (own_w hw 68 rfl)
  obtain ⟨n, o, h1, h2, h3, _, L, rfl, ⟨rfl, N⟩, hq⟩ := own_law l hw (n0 := s.heap.size) ⟨Ea_AUTHORIZE, Ea_REVOKE, Ea_TOKEN⟩ (Nat.le_refl _) (Old.start s) x0 p e ha hc hk s m _ below hf ((Spec.applies_iff_loose hf).mp happ).1 ⟨rfl, State.Warmed39.refl s, rfl⟩ trivial
  exact ⟨n, _, h1, h2, h3, hpost _ _ _ _ _ _ ⟨Cond.after_iff.mpr rfl, Cond.after_iff.mpr (eq_i res_at (Term.int_eval (1)) rfl), trivial⟩ ⟨hq.1, hq.2.1, (hq.2.2.sift fun y hy => Or.inr (N y hy)).mono (by decide) (by decide)⟩⟩
theorem main_1_1 : Claimed_1_1 := own_comes fun _ _ _ _ _ _ h hF => ⟨h.1, hF⟩
theorem main_1_2 : Claimed_1_2 := own_comes fun _ _ _ _ _ _ h hF => ⟨h.2.1, hF⟩
end Jvm.Pilot.@@N@@
namespace Jvm.Pilot.@@N@@
open Jvm Jvm.ClassFile Sem Op Lib Jvm.Free Jvm.Stand Jvm.Pilot.@@N@@.Jvm.D
/-! MADE BY PROGRAM (witnessworld.py) out of the Statement's table words and the real class files: 14 classes; the members and pool entries that the words name. The judged class is class 1, her method 2. -/
namespace start1
open Jvm.ClassFile
def u (s : String) : CpInfo := .utf8 (stringToUtf16 s)
/-- a pool by its gaps: so many unusable entries, then the entry; so many at the end -/
def gap : Nat → List CpInfo → List CpInfo
  | 0, r => r
  | n + 1, r => .unusable :: gap n r
def poolList (es : List (Nat × CpInfo)) (last : Nat) : List CpInfo := es.foldr (fun e r => gap e.1 (e.2 :: r)) (gap last [])
def pool (es : List (Nat × CpInfo)) (last : Nat) : Array CpInfo := ⟨poolList es last⟩
def fileOf (pool : Array CpInfo) (this : Nat) (attrs : Array Attribute := #[]) (ms : Array MethodInfo := #[]) (fl : Nat := 33) (sup : Nat := 0) (ifs : Array Nat := #[]) (fds : Array FieldInfo := #[]) : ClassFile where
  minorVersion := 0
  majorVersion := 65
  constantPool := pool
  accessFlags := fl
  thisClass := this
  superClass := sup
  interfaces := ifs
  fields := fds
  methods := ms
  attributes := attrs
def plain (name : String) (sup : Option ClassId) : Class where
  name := name
  kind := .ordinary
  loader := none
  accessFlags := 33
  super := sup
  interfaces := #[]
  cf := none
  fields := #[]
  methods := #[]
  instanceTypes := #[]
  staticTypes := #[]
  resolved := #[]
  callSites := []
  init := .initialized
  statics := none
  mirror := none

def pool0 : Array CpInfo := pool [(5, u "<init>"), (0, u "()V"), (1, .class_ 10), (1, u "java/lang/Object")] 113

def k0c0 : Code := { maxStack := 0, maxLocals := 1, code := object_method_1_code, exceptionTable := #[], attributes := #[] }
def k0m0 : Method := { name := "<init>", desc := "()V", sig := { parameters := [], returnType := none }, accessFlags := 1, code := some k0c0 }
/-- java/lang/Object -/
def k0 : Class := { plain "java/lang/Object" none with
  accessFlags := 33
  interfaces := #[]
  cf := some (fileOf pool0 8 #[] #[{ accessFlags := 1, nameIndex := 5, descriptorIndex := 6, attributes := #[] }] 33 0 #[] #[])
  fields := #[]
  methods := #[k0m0]
  instanceTypes := #[]
  staticTypes := #[]
  resolved := Array.replicate 124 none
  statics := none }

def pool1 : Array CpInfo := pool [(2, .class_ 4), (1, u "java/lang/Object"), (0, u "<init>"), (0, u "()V"), (0, .integer 2147483647), (0, .fieldref 9 10), (0, .class_ 11), (0, .nameAndType 12 13), (0, u "com/example/valet3/valet3/core/Endpoint"), (0, u "AUTHORIZE"), (0, u "Lcom/example/valet3/valet3/core/Endpoint;"), (0, .fieldref 9 15), (0, .nameAndType 16 13), (0, u "TOKEN"), (0, .fieldref 9 18), (0, .nameAndType 19 13), (0, u "REVOKE"), (0, .methodref 21 22), (0, .class_ 23), (0, .nameAndType 24 25), (0, u "com/example/valet3/valet3/core/RoutingToPinLaw"), (0, u "pick"), (0, u "(I)Lcom/example/valet3/valet3/core/Endpoint;"), (0, .methodref 27 28), (0, .class_ 29), (0, .nameAndType 30 31), (0, u "com/example/valet3/valet3/core/Routing"), (0, u "to"), (0, u "(Lcom/example/valet3/valet3/core/Endpoint;)Lcom/example/valet3/valet3/core/Routing;"), (0, .methodref 27 33), (0, .nameAndType 34 35), (0, u "endpoint"), (0, u "()Lcom/example/valet3/valet3/core/Endpoint;"), (0, .methodref 27 37), (0, .nameAndType 38 39), (0, u "refusal"), (0, u "()Lcom/example/valet3/valet3/core/Refusal;"), (0, .methodref 27 41), (0, .nameAndType 42 43), (0, u "route"), (0, u "()Lcom/example/valet3/valet3/core/Route;"), (0, .methodref 27 45), (0, .nameAndType 46 47), (0, u "backend"), (0, u "()Ljava/lang/String;"), (0, .methodref 27 49), (0, .nameAndType 50 47), (0, u "rest"), (0, .methodref 27 52), (0, .nameAndType 53 54), (0, u "isRefused"), (0, u "()Z"), (3, u "law"), (0, u "(I)Z")] 2

def k1m0 : Method := { name := "<init>", desc := "()V", sig := { parameters := [], returnType := none }, accessFlags := 1, code := none }
def k1c1 : Code := { maxStack := 2, maxLocals := 2, code := method_2_code, exceptionTable := #[], attributes := #[] }
def k1m1 : Method := { name := "pick", desc := "(I)Lcom/example/valet3/valet3/core/Endpoint;", sig := { parameters := [.int], returnType := some (.object "com/example/valet3/valet3/core/Endpoint") }, accessFlags := 10, code := some k1c1 }
def k1c2 : Code := { maxStack := 2, maxLocals := 3, code := code, exceptionTable := #[], attributes := #[] }
def k1m2 : Method := { name := "law", desc := "(I)Z", sig := { parameters := [.int], returnType := some .boolean }, accessFlags := 9, code := some k1c2 }
/-- com/example/valet3/valet3/core/RoutingToPinLaw -/
def k1 : Class := { plain "com/example/valet3/valet3/core/RoutingToPinLaw" (some 0) with
  accessFlags := 49
  interfaces := #[]
  cf := some (fileOf pool1 21 #[] #[{ accessFlags := 1, nameIndex := 5, descriptorIndex := 6, attributes := #[] }, { accessFlags := 10, nameIndex := 24, descriptorIndex := 25, attributes := #[] }, { accessFlags := 9, nameIndex := 58, descriptorIndex := 59, attributes := #[] }] 49 2 #[] #[])
  fields := #[]
  methods := #[k1m0, k1m1, k1m2]
  instanceTypes := #[]
  staticTypes := #[]
  resolved := Array.replicate 62 none
  statics := none }

def pool2 : Array CpInfo := pool [(1, .class_ 2), (0, u "java/lang/constant/Constable"), (0, .class_ 4), (0, u "java/lang/Object")] 6

/-- java/lang/constant/Constable -/
def k2 : Class := { plain "java/lang/constant/Constable" (some 0) with
  accessFlags := 1537
  interfaces := #[]
  cf := some (fileOf pool2 1 #[] #[] 1537 3 #[] #[])
  fields := #[]
  methods := #[]
  instanceTypes := #[]
  staticTypes := #[]
  resolved := Array.replicate 11 none
  statics := none }

def pool3 : Array CpInfo := pool [(1, .class_ 2), (0, u "java/lang/Comparable"), (0, .class_ 4), (0, u "java/lang/Object")] 7

/-- java/lang/Comparable -/
def k3 : Class := { plain "java/lang/Comparable" (some 0) with
  accessFlags := 1537
  interfaces := #[]
  cf := some (fileOf pool3 1 #[] #[] 1537 3 #[] #[])
  fields := #[]
  methods := #[]
  instanceTypes := #[]
  staticTypes := #[]
  resolved := Array.replicate 12 none
  statics := none }

def pool4 : Array CpInfo := pool [(1, .class_ 2), (0, u "java/io/Serializable"), (0, .class_ 4), (0, u "java/lang/Object")] 2

/-- java/io/Serializable -/
def k4 : Class := { plain "java/io/Serializable" (some 0) with
  accessFlags := 1537
  interfaces := #[]
  cf := some (fileOf pool4 1 #[] #[] 1537 3 #[] #[])
  fields := #[]
  methods := #[]
  instanceTypes := #[]
  staticTypes := #[]
  resolved := Array.replicate 7 none
  statics := none }

def pool5 : Array CpInfo := pool [(2, .class_ 4), (1, u "java/lang/Enum"), (0, u "name"), (0, u "Ljava/lang/String;"), (2, u "ordinal"), (0, u "I"), (1, .class_ 14), (1, u "java/lang/Object"), (4, u "hash"), (86, .class_ 108), (1, u "java/lang/Enum$EnumDesc"), (2, .class_ 112), (0, u "java/lang/constant/Constable"), (0, .class_ 114), (0, u "java/lang/Comparable"), (0, .class_ 116), (0, u "java/io/Serializable")] 87

/-- java/lang/Enum -/
def k5 : Class := { plain "java/lang/Enum" (some 0) with
  accessFlags := 1057
  interfaces := #[2, 3, 4]
  cf := some (fileOf pool5 2 #[.nestMembers #[106]] #[] 1057 12 #[111, 113, 115] #[{ accessFlags := 18, nameIndex := 5, descriptorIndex := 6, attributes := #[] }, { accessFlags := 18, nameIndex := 9, descriptorIndex := 10, attributes := #[] }, { accessFlags := 2, nameIndex := 19, descriptorIndex := 10, attributes := #[] }])
  fields := #[{ name := "name", type := (.object "java/lang/String"), accessFlags := 18, slot := 0, constantValue := 0 }, { name := "ordinal", type := .int, accessFlags := 18, slot := 1, constantValue := 0 }, { name := "hash", type := .int, accessFlags := 2, slot := 2, constantValue := 0 }]
  methods := #[]
  instanceTypes := #[(.object "java/lang/String"), .int, .int]
  staticTypes := #[]
  resolved := Array.replicate 204 none
  statics := none }

def pool6 : Array CpInfo := pool [(1, .class_ 2), (0, u "com/example/valet3/valet3/core/Endpoint"), (2, u "AUTHORIZE"), (0, u "Lcom/example/valet3/valet3/core/Endpoint;"), (2, u "TOKEN"), (2, u "REVOKE"), (2, u "$VALUES"), (0, u "[Lcom/example/valet3/valet3/core/Endpoint;"), (6, .class_ 25), (1, u "java/lang/Enum"), (8, u "name"), (0, u "Ljava/lang/String;"), (35, u "FIRST_SEGMENT")] 33

/-- com/example/valet3/valet3/core/Endpoint -/
def k6 : Class := { plain "com/example/valet3/valet3/core/Endpoint" (some 5) with
  accessFlags := 16433
  interfaces := #[]
  cf := some (fileOf pool6 1 #[] #[] 16433 23 #[] #[{ accessFlags := 16409, nameIndex := 5, descriptorIndex := 6, attributes := #[] }, { accessFlags := 16409, nameIndex := 9, descriptorIndex := 6, attributes := #[] }, { accessFlags := 16409, nameIndex := 12, descriptorIndex := 6, attributes := #[] }, { accessFlags := 24, nameIndex := 71, descriptorIndex := 35, attributes := #[] }, { accessFlags := 18, nameIndex := 34, descriptorIndex := 35, attributes := #[] }, { accessFlags := 4122, nameIndex := 15, descriptorIndex := 16, attributes := #[] }])
  fields := #[{ name := "AUTHORIZE", type := (.object "com/example/valet3/valet3/core/Endpoint"), accessFlags := 16409, slot := 0, constantValue := 0 }, { name := "TOKEN", type := (.object "com/example/valet3/valet3/core/Endpoint"), accessFlags := 16409, slot := 1, constantValue := 0 }, { name := "REVOKE", type := (.object "com/example/valet3/valet3/core/Endpoint"), accessFlags := 16409, slot := 2, constantValue := 0 }, { name := "FIRST_SEGMENT", type := (.object "java/lang/String"), accessFlags := 24, slot := 3, constantValue := 0 }, { name := "name", type := (.object "java/lang/String"), accessFlags := 18, slot := 3, constantValue := 0 }, { name := "$VALUES", type := (.array (.object "com/example/valet3/valet3/core/Endpoint")), accessFlags := 4122, slot := 4, constantValue := 0 }]
  methods := #[]
  instanceTypes := #[(.object "java/lang/String"), .int, .int, (.object "java/lang/String")]
  staticTypes := #[(.object "com/example/valet3/valet3/core/Endpoint"), (.object "com/example/valet3/valet3/core/Endpoint"), (.object "com/example/valet3/valet3/core/Endpoint"), (.object "java/lang/String"), (.array (.object "com/example/valet3/valet3/core/Endpoint"))]
  resolved := Array.replicate 105 none
  statics := some 0 }

def pool7 : Array CpInfo := pool [(1, .methodref 2 3), (0, .class_ 4), (0, .nameAndType 5 6), (0, u "java/lang/Object"), (0, u "<init>"), (0, u "()V"), (0, .class_ 8), (0, u "java/lang/Record")] 13

def k7c0 : Code := { maxStack := 1, maxLocals := 1, code := jdk_30_method_1_code, exceptionTable := #[], attributes := #[] }
def k7m0 : Method := { name := "<init>", desc := "()V", sig := { parameters := [], returnType := none }, accessFlags := 4, code := some k7c0 }
/-- java/lang/Record -/
def k7 : Class := { plain "java/lang/Record" (some 0) with
  accessFlags := 1057
  interfaces := #[]
  cf := some (fileOf pool7 7 #[] #[{ accessFlags := 4, nameIndex := 5, descriptorIndex := 6, attributes := #[] }] 1057 2 #[] #[])
  fields := #[]
  methods := #[k7m0]
  instanceTypes := #[]
  staticTypes := #[]
  resolved := Array.replicate 22 none
  statics := none }

def pool8 : Array CpInfo := pool [(1, .methodref 2 3), (0, .class_ 4), (0, .nameAndType 5 6), (0, u "java/lang/Record"), (0, u "<init>"), (0, u "()V"), (0, .fieldref 8 9), (0, .class_ 10), (0, .nameAndType 11 12), (0, u "com/example/valet3/valet3/core/Routing"), (0, u "refusal"), (0, u "Lcom/example/valet3/valet3/core/Refusal;"), (0, .fieldref 8 14), (0, .nameAndType 15 16), (0, u "endpoint"), (0, u "Lcom/example/valet3/valet3/core/Endpoint;"), (0, .fieldref 8 18), (0, .nameAndType 19 20), (0, u "route"), (0, u "Lcom/example/valet3/valet3/core/Route;"), (0, .fieldref 8 22), (0, .nameAndType 23 24), (0, u "backend"), (0, u "Ljava/lang/String;"), (0, .fieldref 8 26), (0, .nameAndType 27 24), (0, u "rest"), (0, .methodref 8 29), (0, .nameAndType 5 30), (0, u "(Lcom/example/valet3/valet3/core/Refusal;Lcom/example/valet3/valet3/core/Endpoint;Lcom/example/valet3/valet3/core/Route;Ljava/lang/String;Ljava/lang/String;)V"), (17, u "to"), (0, u "(Lcom/example/valet3/valet3/core/Endpoint;)Lcom/example/valet3/valet3/core/Routing;"), (1, u "isRefused"), (0, u "()Z"), (1, u "()Ljava/lang/String;"), (2, u "()Lcom/example/valet3/valet3/core/Refusal;"), (0, u "()Lcom/example/valet3/valet3/core/Endpoint;"), (0, u "()Lcom/example/valet3/valet3/core/Route;")] 24

def k8c0 : Code := { maxStack := 2, maxLocals := 6, code := prog_70_method_1_code, exceptionTable := #[], attributes := #[] }
def k8m0 : Method := { name := "<init>", desc := "(Lcom/example/valet3/valet3/core/Refusal;Lcom/example/valet3/valet3/core/Endpoint;Lcom/example/valet3/valet3/core/Route;Ljava/lang/String;Ljava/lang/String;)V", sig := { parameters := [(.object "com/example/valet3/valet3/core/Refusal"), (.object "com/example/valet3/valet3/core/Endpoint"), (.object "com/example/valet3/valet3/core/Route"), (.object "java/lang/String"), (.object "java/lang/String")], returnType := none }, accessFlags := 1, code := some k8c0 }
def k8c1 : Code := { maxStack := 7, maxLocals := 1, code := prog_70_method_3_code, exceptionTable := #[], attributes := #[] }
def k8m1 : Method := { name := "to", desc := "(Lcom/example/valet3/valet3/core/Endpoint;)Lcom/example/valet3/valet3/core/Routing;", sig := { parameters := [(.object "com/example/valet3/valet3/core/Endpoint")], returnType := some (.object "com/example/valet3/valet3/core/Routing") }, accessFlags := 8, code := some k8c1 }
def k8c2 : Code := { maxStack := 1, maxLocals := 1, code := prog_70_method_5_code, exceptionTable := #[], attributes := #[] }
def k8m2 : Method := { name := "isRefused", desc := "()Z", sig := { parameters := [], returnType := some .boolean }, accessFlags := 1, code := some k8c2 }
def k8c3 : Code := { maxStack := 1, maxLocals := 1, code := prog_70_method_9_code, exceptionTable := #[], attributes := #[] }
def k8m3 : Method := { name := "refusal", desc := "()Lcom/example/valet3/valet3/core/Refusal;", sig := { parameters := [], returnType := some (.object "com/example/valet3/valet3/core/Refusal") }, accessFlags := 1, code := some k8c3 }
def k8c4 : Code := { maxStack := 1, maxLocals := 1, code := prog_70_method_10_code, exceptionTable := #[], attributes := #[] }
def k8m4 : Method := { name := "endpoint", desc := "()Lcom/example/valet3/valet3/core/Endpoint;", sig := { parameters := [], returnType := some (.object "com/example/valet3/valet3/core/Endpoint") }, accessFlags := 1, code := some k8c4 }
def k8c5 : Code := { maxStack := 1, maxLocals := 1, code := prog_70_method_11_code, exceptionTable := #[], attributes := #[] }
def k8m5 : Method := { name := "route", desc := "()Lcom/example/valet3/valet3/core/Route;", sig := { parameters := [], returnType := some (.object "com/example/valet3/valet3/core/Route") }, accessFlags := 1, code := some k8c5 }
def k8c6 : Code := { maxStack := 1, maxLocals := 1, code := prog_70_method_12_code, exceptionTable := #[], attributes := #[] }
def k8m6 : Method := { name := "backend", desc := "()Ljava/lang/String;", sig := { parameters := [], returnType := some (.object "java/lang/String") }, accessFlags := 1, code := some k8c6 }
def k8c7 : Code := { maxStack := 1, maxLocals := 1, code := prog_70_method_13_code, exceptionTable := #[], attributes := #[] }
def k8m7 : Method := { name := "rest", desc := "()Ljava/lang/String;", sig := { parameters := [], returnType := some (.object "java/lang/String") }, accessFlags := 1, code := some k8c7 }
/-- com/example/valet3/valet3/core/Routing -/
def k8 : Class := { plain "com/example/valet3/valet3/core/Routing" (some 7) with
  accessFlags := 49
  interfaces := #[]
  cf := some (fileOf pool8 8 #[] #[{ accessFlags := 1, nameIndex := 5, descriptorIndex := 30, attributes := #[] }, { accessFlags := 8, nameIndex := 48, descriptorIndex := 49, attributes := #[] }, { accessFlags := 1, nameIndex := 51, descriptorIndex := 52, attributes := #[] }, { accessFlags := 1, nameIndex := 11, descriptorIndex := 57, attributes := #[] }, { accessFlags := 1, nameIndex := 15, descriptorIndex := 58, attributes := #[] }, { accessFlags := 1, nameIndex := 19, descriptorIndex := 59, attributes := #[] }, { accessFlags := 1, nameIndex := 23, descriptorIndex := 54, attributes := #[] }, { accessFlags := 1, nameIndex := 27, descriptorIndex := 54, attributes := #[] }] 49 2 #[] #[{ accessFlags := 18, nameIndex := 11, descriptorIndex := 12, attributes := #[] }, { accessFlags := 18, nameIndex := 15, descriptorIndex := 16, attributes := #[] }, { accessFlags := 18, nameIndex := 19, descriptorIndex := 20, attributes := #[] }, { accessFlags := 18, nameIndex := 23, descriptorIndex := 24, attributes := #[] }, { accessFlags := 18, nameIndex := 27, descriptorIndex := 24, attributes := #[] }])
  fields := #[{ name := "refusal", type := (.object "com/example/valet3/valet3/core/Refusal"), accessFlags := 18, slot := 0, constantValue := 0 }, { name := "endpoint", type := (.object "com/example/valet3/valet3/core/Endpoint"), accessFlags := 18, slot := 1, constantValue := 0 }, { name := "route", type := (.object "com/example/valet3/valet3/core/Route"), accessFlags := 18, slot := 2, constantValue := 0 }, { name := "backend", type := (.object "java/lang/String"), accessFlags := 18, slot := 3, constantValue := 0 }, { name := "rest", type := (.object "java/lang/String"), accessFlags := 18, slot := 4, constantValue := 0 }]
  methods := #[k8m0, k8m1, k8m2, k8m3, k8m4, k8m5, k8m6, k8m7]
  instanceTypes := #[(.object "com/example/valet3/valet3/core/Refusal"), (.object "com/example/valet3/valet3/core/Endpoint"), (.object "com/example/valet3/valet3/core/Route"), (.object "java/lang/String"), (.object "java/lang/String")]
  staticTypes := #[]
  resolved := Array.replicate 84 none
  statics := none }

def pool9 : Array CpInfo := pool [(1, u "java/lang/Cloneable"), (0, .class_ 1), (0, u "java/lang/Object"), (0, .class_ 3)] 3

/-- java/lang/Cloneable -/
def k9 : Class := { plain "java/lang/Cloneable" (some 0) with
  accessFlags := 1537
  interfaces := #[]
  cf := some (fileOf pool9 2 #[] #[] 1537 4 #[] #[])
  fields := #[]
  methods := #[]
  instanceTypes := #[]
  staticTypes := #[]
  resolved := Array.replicate 8 none
  statics := none }

/-- the primitive byte -/
def k10 : Class := { plain "byte" none with kind := .primitive 'B', accessFlags := 0x411 }
/-- [B -/
def k11 : Class := { plain "[B" (some 0) with kind := .array 10 .byte, interfaces := #[9, 4], accessFlags := 1041 }

/-- the primitive int -/
def k12 : Class := { plain "int" none with kind := .primitive 'I', accessFlags := 0x411 }
/-- [I -/
def k13 : Class := { plain "[I" (some 0) with kind := .array 12 .int, interfaces := #[9, 4], accessFlags := 1041 }

def heap : Heap := #[{ cls := 6, slots := #[.ref 1, .ref 2, .ref 3, .null, .null], vm := .statics 6 },
  { cls := 6, slots := #[.null, .int 0, .int 0, .null], vm := .none },
  { cls := 6, slots := #[.null, .int 1, .int 0, .null], vm := .none },
  { cls := 6, slots := #[.null, .int 2, .int 0, .null], vm := .none }]
def classes : Array Class := #[k0, k1, k2, k3, k4, k5, k6, k7, k8, k9, k10, k11, k12, k13]
def interned : List (Array UInt16 × Addr) := []
def slotsUsed : Nat := 17
def theMethod : MethodId := ⟨1, 2⟩
def args0 : Array Value := #[.int 5]
def aboutOver (below : List Frame) : State where
  vm := { classes := classes, interned := interned.toArray }
  heap := heap
  slotsUsed := slotsUsed
  threads := #[{ frames := .invoking theMethod args0 :: below }]
def below0 : List Frame := [.native { method := ⟨0, 0⟩, args := #[] }]
def about1 : State := aboutOver below0
def p0 : Program := .bare "" "" ""
def e0 : Env := launch0.env 0 0 0
theorem w_frames : about1.frames = Frame.invoking theMethod args0 :: below0 := rfl
set_option maxRecDepth 65536 in
theorem w_args : argsFit about1.vm theMethod args0 = true := by decide +kernel
set_option maxRecDepth 65536 in
theorem w_heap : heapFits about1 = true := by decide +kernel
set_option maxRecDepth 65536 in
theorem w_runnable : about1.curStatus? = some .runnable := by decide +kernel
set_option maxRecDepth 65536 in
theorem w_alone : about1.alone = true := by decide +kernel
set_option maxRecDepth 65536 in
theorem w_named : about1.methodNamed? x = some theMethod := by decide +kernel
set_option maxRecDepth 65536 in
theorem w_hears : about1.hears theMethod below0 = true := by decide +kernel
set_option maxRecDepth 65536 in
theorem w_ripe : about1.ripe theMethod args0 below0 = true := by decide +kernel
theorem w_running : about1.status = .running := rfl
set_option maxRecDepth 65536 in
theorem w_room : about1.hasRoom e0.platform room_1 = true :=
  launch0.hasRoom_least _ room_1 (by decide +kernel) (by decide +kernel) (by decide +kernel) (by decide +kernel) (by decide +kernel) (by decide +kernel)
theorem allAtoms_all (ts : List Jvm.Cond) (a : Array Jvm.Value) (st : Jvm.State) : (allAtoms ts).before a st = ts.all (fun c => c.before a st) := by
  induction ts with
  | nil => rfl
  | cons c t ih =>
    show (Jvm.Cond.and c (allAtoms t)).before a st = _
    rw [Jvm.Cond.before_and, ih, List.all_cons]
def words1 : List Jvm.Cond := Jvm.Cond.code x code maxLocals ret :: tables_1
/-- a 'code' word, met by the world's own term for the bytes: nothing is compared byte by byte -/
theorem code_word {y : MethodName} {bytes : ByteArray} {mx : Nat} {rt : Option FieldType} {a : Array Value} {s : State} {m : MethodId} {meth : Method} {c : Code} (h1 : s.methodNamed? y = some m) (h2 : s.vm.method? m = some meth) (h3 : meth.code = some c) (h4 : c.code = bytes)
    (h5 : (c.maxLocals == mx && c.exceptionTable.isEmpty && decide (c.maxStack ≤ mostOperands) && decide (meth.sig.returnType = rt) && !meth.locks && decide (parseMethodDescriptor y.desc = some meth.sig)) = true) : (Jvm.Cond.code y bytes mx rt).before a s = true := by
  simp only [Bool.and_eq_true, beq_iff_eq, Bool.not_eq_true', decide_eq_true_eq] at h5
  obtain ⟨⟨⟨⟨⟨g1, g2⟩, g3⟩, g4⟩, g5⟩, g6⟩ := h5
  simp [Cond.before, Cond.holds, Cond.value, h1, h2, h3, h4, g1, g2, g3, g4, g5, g6]
def isCode : Jvm.Cond → Bool
  | .code _ _ _ _ => true
  | _ => false
theorem all_split {L : List Jvm.Cond} {P : Jvm.Cond → Bool} (h1 : L.all (fun c => isCode c || P c) = true) (h2 : ∀ c ∈ L.filter isCode, P c = true) : L.all P = true := by
  refine List.all_eq_true.mpr fun c hc => ?_
  have h := List.all_eq_true.mp h1 c hc
  rcases Bool.eq_false_or_eq_true (isCode c) with hi | hi
  · exact h2 c (List.mem_filter.mpr ⟨hc, hi⟩)
  · simpa [hi] using h
set_option maxRecDepth 65536 in
theorem w_c0 : (Jvm.Cond.code x code maxLocals ret).before args0 about1 = true := code_word (m := ⟨1, 2⟩) (meth := k1m2) (c := k1c2) (by decide +kernel) rfl rfl rfl (by decide +kernel)
set_option maxRecDepth 65536 in
theorem w_c1 : (Jvm.Cond.code ({ cls := "com/example/valet3/valet3/core/RoutingToPinLaw", name := "pick", desc := "(I)Lcom/example/valet3/valet3/core/Endpoint;" } : Jvm.MethodName) method_2_code (2 : Nat) (Option.some (Jvm.ClassFile.FieldType.object "com/example/valet3/valet3/core/Endpoint"))).before args0 about1 = true := code_word (m := ⟨1, 1⟩) (meth := k1m1) (c := k1c1) (by decide +kernel) rfl rfl rfl (by decide +kernel)
set_option maxRecDepth 65536 in
theorem w_c2 : (Jvm.Cond.code ({ cls := "com/example/valet3/valet3/core/Routing", name := "to", desc := "(Lcom/example/valet3/valet3/core/Endpoint;)Lcom/example/valet3/valet3/core/Routing;" } : Jvm.MethodName) prog_70_method_3_code (1 : Nat) (Option.some (Jvm.ClassFile.FieldType.object "com/example/valet3/valet3/core/Routing"))).before args0 about1 = true := code_word (m := ⟨8, 1⟩) (meth := k8m1) (c := k8c1) (by decide +kernel) rfl rfl rfl (by decide +kernel)
set_option maxRecDepth 65536 in
theorem w_c3 : (Jvm.Cond.code ({ cls := "com/example/valet3/valet3/core/Routing", name := "<init>", desc := "(Lcom/example/valet3/valet3/core/Refusal;Lcom/example/valet3/valet3/core/Endpoint;Lcom/example/valet3/valet3/core/Route;Ljava/lang/String;Ljava/lang/String;)V" } : Jvm.MethodName) prog_70_method_1_code (6 : Nat) (Option.none : Option Jvm.ClassFile.FieldType)).before args0 about1 = true := code_word (m := ⟨8, 0⟩) (meth := k8m0) (c := k8c0) (by decide +kernel) rfl rfl rfl (by decide +kernel)
set_option maxRecDepth 65536 in
theorem w_c4 : (Jvm.Cond.code ({ cls := "java/lang/Record", name := "<init>", desc := "()V" } : Jvm.MethodName) jdk_30_method_1_code (1 : Nat) (Option.none : Option Jvm.ClassFile.FieldType)).before args0 about1 = true := code_word (m := ⟨7, 0⟩) (meth := k7m0) (c := k7c0) (by decide +kernel) rfl rfl rfl (by decide +kernel)
set_option maxRecDepth 65536 in
theorem w_c5 : (Jvm.Cond.code ({ cls := "java/lang/Object", name := "<init>", desc := "()V" } : Jvm.MethodName) object_method_1_code (1 : Nat) (Option.none : Option Jvm.ClassFile.FieldType)).before args0 about1 = true := code_word (m := ⟨0, 0⟩) (meth := k0m0) (c := k0c0) (by decide +kernel) rfl rfl rfl (by decide +kernel)
set_option maxRecDepth 65536 in
theorem w_c6 : (Jvm.Cond.code ({ cls := "com/example/valet3/valet3/core/Routing", name := "endpoint", desc := "()Lcom/example/valet3/valet3/core/Endpoint;" } : Jvm.MethodName) prog_70_method_10_code (1 : Nat) (Option.some (Jvm.ClassFile.FieldType.object "com/example/valet3/valet3/core/Endpoint"))).before args0 about1 = true := code_word (m := ⟨8, 4⟩) (meth := k8m4) (c := k8c4) (by decide +kernel) rfl rfl rfl (by decide +kernel)
set_option maxRecDepth 65536 in
theorem w_c7 : (Jvm.Cond.code ({ cls := "com/example/valet3/valet3/core/Routing", name := "refusal", desc := "()Lcom/example/valet3/valet3/core/Refusal;" } : Jvm.MethodName) prog_70_method_9_code (1 : Nat) (Option.some (Jvm.ClassFile.FieldType.object "com/example/valet3/valet3/core/Refusal"))).before args0 about1 = true := code_word (m := ⟨8, 3⟩) (meth := k8m3) (c := k8c3) (by decide +kernel) rfl rfl rfl (by decide +kernel)
set_option maxRecDepth 65536 in
theorem w_c8 : (Jvm.Cond.code ({ cls := "com/example/valet3/valet3/core/Routing", name := "route", desc := "()Lcom/example/valet3/valet3/core/Route;" } : Jvm.MethodName) prog_70_method_11_code (1 : Nat) (Option.some (Jvm.ClassFile.FieldType.object "com/example/valet3/valet3/core/Route"))).before args0 about1 = true := code_word (m := ⟨8, 5⟩) (meth := k8m5) (c := k8c5) (by decide +kernel) rfl rfl rfl (by decide +kernel)
set_option maxRecDepth 65536 in
theorem w_c9 : (Jvm.Cond.code ({ cls := "com/example/valet3/valet3/core/Routing", name := "backend", desc := "()Ljava/lang/String;" } : Jvm.MethodName) prog_70_method_12_code (1 : Nat) (Option.some (Jvm.ClassFile.FieldType.object "java/lang/String"))).before args0 about1 = true := code_word (m := ⟨8, 6⟩) (meth := k8m6) (c := k8c6) (by decide +kernel) rfl rfl rfl (by decide +kernel)
set_option maxRecDepth 65536 in
theorem w_c10 : (Jvm.Cond.code ({ cls := "com/example/valet3/valet3/core/Routing", name := "rest", desc := "()Ljava/lang/String;" } : Jvm.MethodName) prog_70_method_13_code (1 : Nat) (Option.some (Jvm.ClassFile.FieldType.object "java/lang/String"))).before args0 about1 = true := code_word (m := ⟨8, 7⟩) (meth := k8m7) (c := k8c7) (by decide +kernel) rfl rfl rfl (by decide +kernel)
set_option maxRecDepth 65536 in
theorem w_c11 : (Jvm.Cond.code ({ cls := "com/example/valet3/valet3/core/Routing", name := "isRefused", desc := "()Z" } : Jvm.MethodName) prog_70_method_5_code (1 : Nat) (Option.some Jvm.ClassFile.FieldType.boolean)).before args0 about1 = true := code_word (m := ⟨8, 2⟩) (meth := k8m2) (c := k8c2) (by decide +kernel) rfl rfl rfl (by decide +kernel)
def codes1 : List Jvm.Cond := [Jvm.Cond.code x code maxLocals ret, Jvm.Cond.code ({ cls := "com/example/valet3/valet3/core/RoutingToPinLaw", name := "pick", desc := "(I)Lcom/example/valet3/valet3/core/Endpoint;" } : Jvm.MethodName) method_2_code (2 : Nat) (Option.some (Jvm.ClassFile.FieldType.object "com/example/valet3/valet3/core/Endpoint")), Jvm.Cond.code ({ cls := "com/example/valet3/valet3/core/Routing", name := "to", desc := "(Lcom/example/valet3/valet3/core/Endpoint;)Lcom/example/valet3/valet3/core/Routing;" } : Jvm.MethodName) prog_70_method_3_code (1 : Nat) (Option.some (Jvm.ClassFile.FieldType.object "com/example/valet3/valet3/core/Routing")), Jvm.Cond.code ({ cls := "com/example/valet3/valet3/core/Routing", name := "<init>", desc := "(Lcom/example/valet3/valet3/core/Refusal;Lcom/example/valet3/valet3/core/Endpoint;Lcom/example/valet3/valet3/core/Route;Ljava/lang/String;Ljava/lang/String;)V" } : Jvm.MethodName) prog_70_method_1_code (6 : Nat) (Option.none : Option Jvm.ClassFile.FieldType), Jvm.Cond.code ({ cls := "java/lang/Record", name := "<init>", desc := "()V" } : Jvm.MethodName) jdk_30_method_1_code (1 : Nat) (Option.none : Option Jvm.ClassFile.FieldType), Jvm.Cond.code ({ cls := "java/lang/Object", name := "<init>", desc := "()V" } : Jvm.MethodName) object_method_1_code (1 : Nat) (Option.none : Option Jvm.ClassFile.FieldType), Jvm.Cond.code ({ cls := "com/example/valet3/valet3/core/Routing", name := "endpoint", desc := "()Lcom/example/valet3/valet3/core/Endpoint;" } : Jvm.MethodName) prog_70_method_10_code (1 : Nat) (Option.some (Jvm.ClassFile.FieldType.object "com/example/valet3/valet3/core/Endpoint")), Jvm.Cond.code ({ cls := "com/example/valet3/valet3/core/Routing", name := "refusal", desc := "()Lcom/example/valet3/valet3/core/Refusal;" } : Jvm.MethodName) prog_70_method_9_code (1 : Nat) (Option.some (Jvm.ClassFile.FieldType.object "com/example/valet3/valet3/core/Refusal")), Jvm.Cond.code ({ cls := "com/example/valet3/valet3/core/Routing", name := "route", desc := "()Lcom/example/valet3/valet3/core/Route;" } : Jvm.MethodName) prog_70_method_11_code (1 : Nat) (Option.some (Jvm.ClassFile.FieldType.object "com/example/valet3/valet3/core/Route")), Jvm.Cond.code ({ cls := "com/example/valet3/valet3/core/Routing", name := "backend", desc := "()Ljava/lang/String;" } : Jvm.MethodName) prog_70_method_12_code (1 : Nat) (Option.some (Jvm.ClassFile.FieldType.object "java/lang/String")), Jvm.Cond.code ({ cls := "com/example/valet3/valet3/core/Routing", name := "rest", desc := "()Ljava/lang/String;" } : Jvm.MethodName) prog_70_method_13_code (1 : Nat) (Option.some (Jvm.ClassFile.FieldType.object "java/lang/String")), Jvm.Cond.code ({ cls := "com/example/valet3/valet3/core/Routing", name := "isRefused", desc := "()Z" } : Jvm.MethodName) prog_70_method_5_code (1 : Nat) (Option.some Jvm.ClassFile.FieldType.boolean)]
set_option maxRecDepth 65536 in
theorem codes_eq : words1.filter isCode = codes1 := rfl
theorem w_codes : ∀ c ∈ words1.filter isCode, c.before args0 about1 = true := by
  rw [codes_eq]
  intro c hc
  simp only [codes1, List.mem_cons, List.not_mem_nil, or_false] at hc
  rcases hc with rfl | rfl | rfl | rfl | rfl | rfl | rfl | rfl | rfl | rfl | rfl | rfl
  · exact w_c0
  · exact w_c1
  · exact w_c2
  · exact w_c3
  · exact w_c4
  · exact w_c5
  · exact w_c6
  · exact w_c7
  · exact w_c8
  · exact w_c9
  · exact w_c10
  · exact w_c11
set_option maxRecDepth 65536 in
theorem w_t1 : (words1.take 24).all (fun c => isCode c || c.before args0 about1) = true := by decide +kernel
set_option maxRecDepth 65536 in
theorem w_t2 : ((words1.drop 24).take 24).all (fun c => isCode c || c.before args0 about1) = true := by decide +kernel
set_option maxRecDepth 65536 in
theorem w_t3 : ((words1.drop 24).drop 24).all (fun c => isCode c || c.before args0 about1) = true := by decide +kernel
theorem w_tables : (allAtoms (Jvm.Cond.code x code maxLocals ret :: tables_1)).before args0 about1 = true := by
  rw [allAtoms_all]
  show words1.all (fun c => c.before args0 about1) = true
  refine all_split ?_ w_codes
  rw [← List.take_append_drop 24 words1, List.all_append, w_t1, ← List.take_append_drop 24 (words1.drop 24), List.all_append, w_t2, w_t3]
  rfl
set_option maxRecDepth 65536 in
theorem w_case : (Jvm.Cond.and given_1 narrow_1).before args0 about1 = true := by decide +kernel
theorem w_applies : (headSpec (Jvm.Cond.code x code maxLocals ret :: tables_1) room_1).applies x e0.platform about1 = true :=
  (Spec.applies_iff w_frames).mpr ⟨w_running, w_runnable, w_alone, w_named, w_hears, w_ripe, w_room, w_tables⟩
theorem atStart : AtStart classFile x code maxLocals ret World_1 tables_1 room_1 Calls_1 rest_1 Pre_1 launch0 p0 e0 about1 theMethod args0 below0 :=
  ⟨lists_1, trivial, launch0.admits_env _ _ _, launch0.least_env, fairChoices_fair.cas, fairChoices_fair.clock, w_frames, w_args, w_heap, w_applies, trivial, trivial, w_case⟩
end start1
theorem witness_1 : WitnessClaimed_1 := ⟨start1.p0, start1.e0, start1.about1, start1.theMethod, start1.args0, start1.below0, start1.atStart⟩
end Jvm.Pilot.@@N@@
