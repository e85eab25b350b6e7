import JvmDerived
import JvmDerived.Pilot.@@N@@Statement
import JvmDerived.Pilot.@@N@@Code
set_option linter.unusedVariables false
set_option linter.unusedSimpArgs false
namespace Jvm.Pilot.@@N@@
open Jvm Jvm.ClassFile Sem Op Lib Jvm.Free Jvm.Stand Jvm.LawKit Jvm.RoadKit Bundle Jvm.Pilot.@@N@@.Jvm.D
/-! A walk in continuation form, over the library's family of laws (Stand, XS, RoadKit). -/
theorem own_w {Z : State} {a0 : Array Value} (hw : ∀ d ∈ tables_1, d.before a0 Z = true) {d : Jvm.Cond} (i : Nat) (q : tables_1[i]? = some d) : d.before a0 Z = true := hw d (List.mem_of_getElem? q)
section OwnKit
variable {p : Program} {l : Launch} {e : Env} {R : Room} {s : State} {m : MethodId} {args : Array Value} {below : List Frame} {meth : Method} {c : Code} {Z : State} {n0 : Nat} {own : String} {bytes : ByteArray} {ml : Nat} {rt : Option FieldType} {nm : String} {Q : Option Value → Heap → Prop} {h : Heap} {k n : Nat} {pc pc' : Nat} {Ls Ls' : Array Slot} {st rest : List Value} {a0 : Array Value} {f f' : JFrame}
/-- what is left of a body's run from S: it returns, Q holds of the value and the heap, only places at or above n0 were written -/
def own_Fin (p : Program) (e : Env) (R : Room) (s : State) (below : List Frame) (n0 : Nat) (Q : Option Value → Heap → Prop) (S : State) : Prop :=
  ∃ s₂ o, Steps p.tables e below S s₂ ∧ s₂.status = .running ∧ Ended s₂ below o ∧ ∃ v L, o = .returned v ∧ (Q v s₂.heap ∧ Fr n0 L) ∧ FrameEnd s o s₂ L R.cells R.slots
/-- what is known of the body that is walked -/
def own_Cx (Z : State) (p : Program) (s : State) (m : MethodId) (meth : Method) (c : Code) (own : String) (bytes : ByteArray) (ml : Nat) (rt : Option FieldType) (nm : String) : Prop :=
  p.tables.exec = Jvm.exec ∧ Z.Warmed39 s.vm ∧ s.vm.findClass own = some m.cls ∧ c.code = bytes ∧ c.maxLocals = ml ∧ meth.sig.returnType = rt ∧ meth.locks = false ∧ meth.name = nm
/-- from the frame f over the heap h (k cells and n slots made so far) the body ends well -/
def own_At (p : Program) (l : Launch) (e : Env) (R : Room) (s : State) (m : MethodId) (args : Array Value) (below : List Frame) (meth : Method) (c : Code) (n0 : Nat) (Q : Option Value → Heap → Prop) (h : Heap) (k n : Nat) (f : JFrame) : Prop :=
  ∀ T L, Stand p l e R s m args below meth c T L k n → Fr n0 L → T.heap = h → own_Fin p e R s below n0 Q (T.setTop f)
theorem own_via {S S' : State} (H : ∀ t, Steps p.tables e below S' t → Steps p.tables e below S t) (K : own_Fin p e R s below n0 Q S') : own_Fin p e R s below n0 Q S := by
  obtain ⟨s₂, o, h1, r⟩ := K
  exact ⟨s₂, o, H _ h1, r⟩
theorem own_of (H : ∀ T L, Stand p l e R s m args below meth c T L k n → ∀ t, Steps p.tables e below (T.setTop f') t → Steps p.tables e below (T.setTop f) t) (K : own_At p l e R s m args below meth c n0 Q h k n f') : own_At p l e R s m args below meth c n0 Q h k n f :=
  fun T L X N eT => own_via (H T L X) (K T L X N eT)
theorem own_eq (q : f = f') (K : own_At p l e R s m args below meth c n0 Q h k n f') : own_At p l e R s m args below meth c n0 Q h k n f := q ▸ K
/-! ### plain steps -/
theorem own_iloadN (C : own_Cx Z p s m meth c own bytes ml rt nm) {i : Fin 4} {v : Int32} (hd : decode bytes pc = .ok (.iload_n i, 1)) (hl : Ls[i.val]? = some (.val (.int v))) (hp : pc + 1 = pc')
    (K : own_At p l e R s m args below meth c n0 Q h k n (mkF m pc' Ls (.int v :: st))) : own_At p l e R s m args below meth c n0 Q h k n (mkF m pc Ls st) := by
  subst hp; exact own_of (fun T L X t hr => XS.iloadN X.here C.1 rfl (hb C.2.2.2.1 hd) hl hr) K
theorem own_iload (C : own_Cx Z p s m meth c own bytes ml rt nm) {i : Nat} {v : Int32} (hd : decode bytes pc = .ok (.iload i, 2)) (hl : Ls[i]? = some (.val (.int v))) (hp : pc + 2 = pc')
    (K : own_At p l e R s m args below meth c n0 Q h k n (mkF m pc' Ls (.int v :: st))) : own_At p l e R s m args below meth c n0 Q h k n (mkF m pc Ls st) := by
  subst hp; exact own_of (fun T L X t hr => XS.iload X.here C.1 rfl (hb C.2.2.2.1 hd) hl hr) K
theorem own_aloadN (C : own_Cx Z p s m meth c own bytes ml rt nm) {i : Fin 4} {v : Value} (hd : decode bytes pc = .ok (.aload_n i, 1)) (hl : Ls[i.val]? = some (.val v)) (hv : v.isRef = true) (hp : pc + 1 = pc')
    (K : own_At p l e R s m args below meth c n0 Q h k n (mkF m pc' Ls (v :: st))) : own_At p l e R s m args below meth c n0 Q h k n (mkF m pc Ls st) := by
  subst hp; exact own_of (fun T L X t hr => XS.aloadN X.here C.1 rfl (hb C.2.2.2.1 hd) hl hv hr) K
theorem own_aload (C : own_Cx Z p s m meth c own bytes ml rt nm) {i : Nat} {v : Value} (hd : decode bytes pc = .ok (.aload i, 2)) (hl : Ls[i]? = some (.val v)) (hv : v.isRef = true) (hp : pc + 2 = pc')
    (K : own_At p l e R s m args below meth c n0 Q h k n (mkF m pc' Ls (v :: st))) : own_At p l e R s m args below meth c n0 Q h k n (mkF m pc Ls st) := by
  subst hp; exact own_of (fun T L X t hr => XS.aload X.here C.1 rfl (hb C.2.2.2.1 hd) hl hv hr) K
theorem own_istoreN (C : own_Cx Z p s m meth c own bytes ml rt nm) {i : Fin 4} {v : Int32} (hd : decode bytes pc = .ok (.istore_n i, 1)) (hl : storeLocals Ls i.val (.int v) = some Ls') (hp : pc + 1 = pc')
    (K : own_At p l e R s m args below meth c n0 Q h k n (mkF m pc' Ls' st)) : own_At p l e R s m args below meth c n0 Q h k n (mkF m pc Ls (.int v :: st)) := by
  subst hp; exact own_of (fun T L X t hr => XS.istoreN X.here C.1 rfl (hb C.2.2.2.1 hd) rfl hl hr) K
theorem own_istore (C : own_Cx Z p s m meth c own bytes ml rt nm) {i : Nat} {v : Int32} (hd : decode bytes pc = .ok (.istore i, 2)) (hl : storeLocals Ls i (.int v) = some Ls') (hp : pc + 2 = pc')
    (K : own_At p l e R s m args below meth c n0 Q h k n (mkF m pc' Ls' st)) : own_At p l e R s m args below meth c n0 Q h k n (mkF m pc Ls (.int v :: st)) := by
  subst hp; exact own_of (fun T L X t hr => XS.istore X.here C.1 rfl (hb C.2.2.2.1 hd) rfl hl hr) K
theorem own_astoreN (C : own_Cx Z p s m meth c own bytes ml rt nm) {i : Fin 4} {v : Value} (hd : decode bytes pc = .ok (.astore_n i, 1)) (hv : v.isRef = true) (hl : storeLocals Ls i.val v = some Ls') (hp : pc + 1 = pc')
    (K : own_At p l e R s m args below meth c n0 Q h k n (mkF m pc' Ls' st)) : own_At p l e R s m args below meth c n0 Q h k n (mkF m pc Ls (v :: st)) := by
  subst hp; exact own_of (fun T L X t hr => XS.astoreN X.here C.1 rfl (hb C.2.2.2.1 hd) rfl hv hl hr) K
theorem own_astore (C : own_Cx Z p s m meth c own bytes ml rt nm) {i : Nat} {v : Value} (hd : decode bytes pc = .ok (.astore i, 2)) (hv : v.isRef = true) (hl : storeLocals Ls i v = some Ls') (hp : pc + 2 = pc')
    (K : own_At p l e R s m args below meth c n0 Q h k n (mkF m pc' Ls' st)) : own_At p l e R s m args below meth c n0 Q h k n (mkF m pc Ls (v :: st)) := by
  subst hp; exact own_of (fun T L X t hr => XS.astore X.here C.1 rfl (hb C.2.2.2.1 hd) rfl hv hl hr) K
theorem own_iconst (C : own_Cx Z p s m meth c own bytes ml rt nm) {i : Int} {v : Int32} (hd : decode bytes pc = .ok (.iconst i, 1)) (hv : Int32.ofInt i = v) (hp : pc + 1 = pc')
    (K : own_At p l e R s m args below meth c n0 Q h k n (mkF m pc' Ls (.int v :: st))) : own_At p l e R s m args below meth c n0 Q h k n (mkF m pc Ls st) := by
  subst hp hv; exact own_of (fun T L X t hr => XS.iconst X.here C.1 rfl (hb C.2.2.2.1 hd) hr) K
theorem own_bipush (C : own_Cx Z p s m meth c own bytes ml rt nm) {i : Int} {v : Int32} (hd : decode bytes pc = .ok (.bipush i, 2)) (hv : (Int8.ofInt i).toInt32 = v) (hp : pc + 2 = pc')
    (K : own_At p l e R s m args below meth c n0 Q h k n (mkF m pc' Ls (.int v :: st))) : own_At p l e R s m args below meth c n0 Q h k n (mkF m pc Ls st) := by
  subst hp hv; exact own_of (fun T L X t hr => XS.bipush X.here C.1 rfl (hb C.2.2.2.1 hd) hr) K
theorem own_sipush (C : own_Cx Z p s m meth c own bytes ml rt nm) {i : Int} {v : Int32} (hd : decode bytes pc = .ok (.sipush i, 3)) (hv : (Int16.ofInt i).toInt32 = v) (hp : pc + 3 = pc')
    (K : own_At p l e R s m args below meth c n0 Q h k n (mkF m pc' Ls (.int v :: st))) : own_At p l e R s m args below meth c n0 Q h k n (mkF m pc Ls st) := by
  subst hp hv; exact own_of (fun T L X t hr => XS.sipush X.here C.1 rfl (hb C.2.2.2.1 hd) hr) K
theorem own_aconst_null (C : own_Cx Z p s m meth c own bytes ml rt nm) (hd : decode bytes pc = .ok (.aconst_null, 1)) (hp : pc + 1 = pc')
    (K : own_At p l e R s m args below meth c n0 Q h k n (mkF m pc' Ls (.null :: st))) : own_At p l e R s m args below meth c n0 Q h k n (mkF m pc Ls st) := by
  subst hp; exact own_of (fun T L X t hr => XS.aconstNull X.here C.1 rfl (hb C.2.2.2.1 hd) hr) K
theorem own_ldc (C : own_Cx Z p s m meth c own bytes ml rt nm) {i : Nat} {v : Int32} (w : (Cond.constant own i v).before a0 Z = true) (hd : decode bytes pc = .ok (.ldc i, 2)) (hp : pc + 2 = pc')
    (K : own_At p l e R s m args below meth c n0 Q h k n (mkF m pc' Ls (.int v :: st))) : own_At p l e R s m args below meth c n0 Q h k n (mkF m pc Ls st) := by
  subst hp; exact own_of (fun T L X t hr => X.ldcI C.1 C.2.2.1 (mvT C.2.1 w) rfl (hb C.2.2.2.1 hd) hr) K
theorem own_iadd (C : own_Cx Z p s m meth c own bytes ml rt nm) {x y z : Int32} (hd : decode bytes pc = .ok (.iadd, 1)) (hz : x + y = z) (hp : pc + 1 = pc')
    (K : own_At p l e R s m args below meth c n0 Q h k n (mkF m pc' Ls (.int z :: st))) : own_At p l e R s m args below meth c n0 Q h k n (mkF m pc Ls (.int y :: .int x :: st)) := by
  subst hp hz; exact own_of (fun T L X t hr => XS.iadd X.here C.1 rfl (hb C.2.2.2.1 hd) rfl hr) K
theorem own_isub (C : own_Cx Z p s m meth c own bytes ml rt nm) {x y z : Int32} (hd : decode bytes pc = .ok (.isub, 1)) (hz : x - y = z) (hp : pc + 1 = pc')
    (K : own_At p l e R s m args below meth c n0 Q h k n (mkF m pc' Ls (.int z :: st))) : own_At p l e R s m args below meth c n0 Q h k n (mkF m pc Ls (.int y :: .int x :: st)) := by
  subst hp hz; exact own_of (fun T L X t hr => XS.isub X.here C.1 rfl (hb C.2.2.2.1 hd) rfl hr) K
theorem own_imul (C : own_Cx Z p s m meth c own bytes ml rt nm) {x y z : Int32} (hd : decode bytes pc = .ok (.imul, 1)) (hz : x * y = z) (hp : pc + 1 = pc')
    (K : own_At p l e R s m args below meth c n0 Q h k n (mkF m pc' Ls (.int z :: st))) : own_At p l e R s m args below meth c n0 Q h k n (mkF m pc Ls (.int y :: .int x :: st)) := by
  subst hp hz; exact own_of (fun T L X t hr => XS.imul X.here C.1 rfl (hb C.2.2.2.1 hd) rfl hr) K
theorem own_iand (C : own_Cx Z p s m meth c own bytes ml rt nm) {x y z : Int32} (hd : decode bytes pc = .ok (.iand, 1)) (hz : x &&& y = z) (hp : pc + 1 = pc')
    (K : own_At p l e R s m args below meth c n0 Q h k n (mkF m pc' Ls (.int z :: st))) : own_At p l e R s m args below meth c n0 Q h k n (mkF m pc Ls (.int y :: .int x :: st)) := by
  subst hp hz; exact own_of (fun T L X t hr => XS.iand X.here C.1 rfl (hb C.2.2.2.1 hd) rfl hr) K
theorem own_ixor (C : own_Cx Z p s m meth c own bytes ml rt nm) {x y z : Int32} (hd : decode bytes pc = .ok (.ixor, 1)) (hz : x ^^^ y = z) (hp : pc + 1 = pc')
    (K : own_At p l e R s m args below meth c n0 Q h k n (mkF m pc' Ls (.int z :: st))) : own_At p l e R s m args below meth c n0 Q h k n (mkF m pc Ls (.int y :: .int x :: st)) := by
  subst hp hz; exact own_of (fun T L X t hr => XS.ixor X.here C.1 rfl (hb C.2.2.2.1 hd) rfl hr) K
theorem own_ishr (C : own_Cx Z p s m meth c own bytes ml rt nm) {x y z : Int32} (hd : decode bytes pc = .ok (.ishr, 1)) (hz : x >>> (y &&& 31) = z) (hp : pc + 1 = pc')
    (K : own_At p l e R s m args below meth c n0 Q h k n (mkF m pc' Ls (.int z :: st))) : own_At p l e R s m args below meth c n0 Q h k n (mkF m pc Ls (.int y :: .int x :: st)) := by
  subst hp hz; exact own_of (fun T L X t hr => XS.ishr X.here C.1 rfl (hb C.2.2.2.1 hd) rfl hr) K
theorem own_ishl (C : own_Cx Z p s m meth c own bytes ml rt nm) {x y z : Int32} (hd : decode bytes pc = .ok (.ishl, 1)) (hz : x <<< (y &&& 31) = z) (hp : pc + 1 = pc')
    (K : own_At p l e R s m args below meth c n0 Q h k n (mkF m pc' Ls (.int z :: st))) : own_At p l e R s m args below meth c n0 Q h k n (mkF m pc Ls (.int y :: .int x :: st)) := by
  subst hp hz; exact own_of (fun T L X t hr => XS.ishl X.here C.1 rfl (hb C.2.2.2.1 hd) rfl hr) K
theorem own_ineg (C : own_Cx Z p s m meth c own bytes ml rt nm) {x z : Int32} (hd : decode bytes pc = .ok (.ineg, 1)) (hz : -x = z) (hp : pc + 1 = pc')
    (K : own_At p l e R s m args below meth c n0 Q h k n (mkF m pc' Ls (.int z :: st))) : own_At p l e R s m args below meth c n0 Q h k n (mkF m pc Ls (.int x :: st)) := by
  subst hp hz; exact own_of (fun T L X t hr => XS.ineg X.here C.1 rfl (hb C.2.2.2.1 hd) rfl hr) K
theorem own_i2b (C : own_Cx Z p s m meth c own bytes ml rt nm) {x z : Int32} (hd : decode bytes pc = .ok (.i2b, 1)) (hz : x.toInt8.toInt32 = z) (hp : pc + 1 = pc')
    (K : own_At p l e R s m args below meth c n0 Q h k n (mkF m pc' Ls (.int z :: st))) : own_At p l e R s m args below meth c n0 Q h k n (mkF m pc Ls (.int x :: st)) := by
  subst hp hz; exact own_of (fun T L X t hr => XS.i2b X.here C.1 rfl (hb C.2.2.2.1 hd) rfl hr) K
theorem own_pop (C : own_Cx Z p s m meth c own bytes ml rt nm) {x : Value} (hd : decode bytes pc = .ok (.pop, 1)) (hx : x.category = 1) (hp : pc + 1 = pc')
    (K : own_At p l e R s m args below meth c n0 Q h k n (mkF m pc' Ls st)) : own_At p l e R s m args below meth c n0 Q h k n (mkF m pc Ls (x :: st)) := by
  subst hp; exact own_of (fun T L X t hr => XS.pop X.here C.1 rfl (hb C.2.2.2.1 hd) rfl hx hr) K
theorem own_irem (C : own_Cx Z p s m meth c own bytes ml rt nm) {x y z : Int32} (hd : decode bytes pc = .ok (.irem, 1)) (hy : y ≠ 0) (hz : x % y = z) (hp : pc + 1 = pc')
    (K : own_At p l e R s m args below meth c n0 Q h k n (mkF m pc' Ls (.int z :: st))) : own_At p l e R s m args below meth c n0 Q h k n (mkF m pc Ls (.int y :: .int x :: st)) := by
  subst hp hz; exact own_of (fun T L X t hr => iremM X C.1 rfl (hb C.2.2.2.1 hd) rfl hy hr) K
theorem own_idiv (C : own_Cx Z p s m meth c own bytes ml rt nm) {x y z : Int32} (hd : decode bytes pc = .ok (.idiv, 1)) (hy : y ≠ 0) (hz : x / y = z) (hp : pc + 1 = pc')
    (K : own_At p l e R s m args below meth c n0 Q h k n (mkF m pc' Ls (.int z :: st))) : own_At p l e R s m args below meth c n0 Q h k n (mkF m pc Ls (.int y :: .int x :: st)) := by
  subst hp hz; exact own_of (fun T L X t hr => XS.idiv X.here C.1 rfl (hb C.2.2.2.1 hd) rfl hy hr) K
theorem own_dup (C : own_Cx Z p s m meth c own bytes ml rt nm) {x : Value} (hd : decode bytes pc = .ok (.dup, 1)) (hx : x.category = 1) (hp : pc + 1 = pc')
    (K : own_At p l e R s m args below meth c n0 Q h k n (mkF m pc' Ls (x :: x :: st))) : own_At p l e R s m args below meth c n0 Q h k n (mkF m pc Ls (x :: st)) := by
  subst hp; exact own_of (fun T L X t hr => XS.dup X.here C.1 rfl (hb C.2.2.2.1 hd) rfl hx hr) K
theorem own_iinc (C : own_Cx Z p s m meth c own bytes ml rt nm) {i : Nat} {d : Int} {v w : Int32} (hd : decode bytes pc = .ok (.iinc i d, 3)) (hl : Ls[i]? = some (.val (.int v))) (hw : v + Int32.ofInt d = w) (hs : storeLocals Ls i (.int w) = some Ls') (hp : pc + 3 = pc')
    (K : own_At p l e R s m args below meth c n0 Q h k n (mkF m pc' Ls' st)) : own_At p l e R s m args below meth c n0 Q h k n (mkF m pc Ls st) := by
  subst hp hw; exact own_of (fun T L X t hr => XS.iinc X.here C.1 rfl (hb C.2.2.2.1 hd) hl hs hr) K
theorem own_goto (C : own_Cx Z p s m meth c own bytes ml rt nm) {o : Int} (hd : decode bytes pc = .ok (.goto o, 3)) (ho : 0 ≤ (pc : Int) + o) (hp : ((pc : Int) + o).toNat = pc')
    (K : own_At p l e R s m args below meth c n0 Q h k n (mkF m pc' Ls st)) : own_At p l e R s m args below meth c n0 Q h k n (mkF m pc Ls st) :=
  own_of (fun T L X t hr => XS.goto X.here C.1 rfl (pc0 := pc) rfl (hb C.2.2.2.1 hd) ho hp hr) K
theorem own_ifY (C : own_Cx Z p s m meth c own bytes ml rt nm) {cd : ClassFile.Cond} {x : Int32} {o : Int} (hd : decode bytes pc = .ok (.ifCond cd o, 3)) (hc : ifCond.holds cd x = true) (ho : 0 ≤ (pc : Int) + o) (hp : ((pc : Int) + o).toNat = pc')
    (K : own_At p l e R s m args below meth c n0 Q h k n (mkF m pc' Ls st)) : own_At p l e R s m args below meth c n0 Q h k n (mkF m pc Ls (.int x :: st)) :=
  own_of (fun T L X t hr => XS.ifYes X.here C.1 rfl (pc0 := pc) rfl (hb C.2.2.2.1 hd) rfl hc ho hp hr) K
theorem own_ifN (C : own_Cx Z p s m meth c own bytes ml rt nm) {cd : ClassFile.Cond} {x : Int32} {o : Int} (hd : decode bytes pc = .ok (.ifCond cd o, 3)) (hc : ifCond.holds cd x = false) (hp : pc + 3 = pc')
    (K : own_At p l e R s m args below meth c n0 Q h k n (mkF m pc' Ls st)) : own_At p l e R s m args below meth c n0 Q h k n (mkF m pc Ls (.int x :: st)) := by
  subst hp; exact own_of (fun T L X t hr => XS.ifNo X.here C.1 rfl (hb C.2.2.2.1 hd) rfl hc hr) K
theorem own_icmpY (C : own_Cx Z p s m meth c own bytes ml rt nm) {cd : ClassFile.Cond} {x y : Int32} {o : Int} (hd : decode bytes pc = .ok (.if_icmp cd o, 3)) (hc : if_icmp.holds cd x y = true) (ho : 0 ≤ (pc : Int) + o) (hp : ((pc : Int) + o).toNat = pc')
    (K : own_At p l e R s m args below meth c n0 Q h k n (mkF m pc' Ls st)) : own_At p l e R s m args below meth c n0 Q h k n (mkF m pc Ls (.int y :: .int x :: st)) :=
  own_of (fun T L X t hr => XS.icmpYes X.here C.1 rfl (pc0 := pc) rfl (hb C.2.2.2.1 hd) rfl hc ho hp hr) K
theorem own_icmpN (C : own_Cx Z p s m meth c own bytes ml rt nm) {cd : ClassFile.Cond} {x y : Int32} {o : Int} (hd : decode bytes pc = .ok (.if_icmp cd o, 3)) (hc : if_icmp.holds cd x y = false) (hp : pc + 3 = pc')
    (K : own_At p l e R s m args below meth c n0 Q h k n (mkF m pc' Ls st)) : own_At p l e R s m args below meth c n0 Q h k n (mkF m pc Ls (.int y :: .int x :: st)) := by
  subst hp; exact own_of (fun T L X t hr => XS.icmpNo X.here C.1 rfl (hb C.2.2.2.1 hd) rfl hc hr) K
theorem own_acmp (C : own_Cx Z p s m meth c own bytes ml rt nm) {cd : ACond} {x y : Value} {o : Int} {same : Bool} (hd : decode bytes pc = .ok (.if_acmp cd o, 3)) (h1 : x.isRef = true) (h2 : y.isRef = true) (hq : decide (x = y) = same) (ho : 0 ≤ (pc : Int) + o) (hp : pc' = if acV cd same = true then ((pc : Int) + o).toNat else pc + 3)
    (K : own_At p l e R s m args below meth c n0 Q h k n (mkF m pc' Ls st)) : own_At p l e R s m args below meth c n0 Q h k n (mkF m pc Ls (y :: x :: st)) :=
  own_of (fun T L X t hr => RoadKit.acmp (g := mkF m pc Ls (y :: x :: st)) X C.1 rfl h1 h2 (pc0 := pc) rfl (hb C.2.2.2.1 hd) rfl hq ho hp hr) K
theorem own_same (a : Addr) : decide ((Value.ref a) = .ref a) = true := decide_eq_true rfl
theorem own_unlike {a b : Addr} (q : a ≠ b) : decide ((Value.ref a) = .ref b) = false := decide_eq_false fun z => q (Value.ref.inj z)
theorem own_nullY (C : own_Cx Z p s m meth c own bytes ml rt nm) {o : Int} (hd : decode bytes pc = .ok (.ifnull o, 3)) (ho : 0 ≤ (pc : Int) + o) (hp : ((pc : Int) + o).toNat = pc')
    (K : own_At p l e R s m args below meth c n0 Q h k n (mkF m pc' Ls st)) : own_At p l e R s m args below meth c n0 Q h k n (mkF m pc Ls (.null :: st)) :=
  own_of (fun T L X t hr => XS.ifnullYes X.here C.1 rfl (pc0 := pc) rfl (hb C.2.2.2.1 hd) rfl ho hp hr) K
theorem own_nullN (C : own_Cx Z p s m meth c own bytes ml rt nm) {o : Int} {a : Addr} (hd : decode bytes pc = .ok (.ifnull o, 3)) (hp : pc + 3 = pc')
    (K : own_At p l e R s m args below meth c n0 Q h k n (mkF m pc' Ls st)) : own_At p l e R s m args below meth c n0 Q h k n (mkF m pc Ls (.ref a :: st)) := by
  subst hp; exact own_of (fun T L X t hr => XS.ifnullNo X.here C.1 rfl (hb C.2.2.2.1 hd) rfl hr) K
theorem own_nonnullY (C : own_Cx Z p s m meth c own bytes ml rt nm) {o : Int} {a : Addr} (hd : decode bytes pc = .ok (.ifnonnull o, 3)) (ho : 0 ≤ (pc : Int) + o) (hp : ((pc : Int) + o).toNat = pc')
    (K : own_At p l e R s m args below meth c n0 Q h k n (mkF m pc' Ls st)) : own_At p l e R s m args below meth c n0 Q h k n (mkF m pc Ls (.ref a :: st)) :=
  own_of (fun T L X t hr => XS.ifnonnullYes X.here C.1 rfl (pc0 := pc) rfl (hb C.2.2.2.1 hd) rfl ho hp hr) K
theorem own_nonnullN (C : own_Cx Z p s m meth c own bytes ml rt nm) {o : Int} (hd : decode bytes pc = .ok (.ifnonnull o, 3)) (hp : pc + 3 = pc')
    (K : own_At p l e R s m args below meth c n0 Q h k n (mkF m pc' Ls st)) : own_At p l e R s m args below meth c n0 Q h k n (mkF m pc Ls (.null :: st)) := by
  subst hp; exact own_of (fun T L X t hr => XS.ifnonnullNo X.here C.1 rfl (hb C.2.2.2.1 hd) rfl hr) K
/-! ### reads and writes -/
theorem own_getstatic (C : own_Cx Z p s m meth c own bytes ml rt nm) {O f d : String} {i : Nat} {v : Value} (w : (Cond.fieldLink own i O f d).before a0 Z = true) (F : Sta Z h O f d v) (hd : decode bytes pc = .ok (.getstatic i, 3)) (hp : pc + 3 = pc')
    (K : own_At p l e R s m args below meth c n0 Q h k n (mkF m pc' Ls (v :: st))) : own_At p l e R s m args below meth c n0 Q h k n (mkF m pc Ls st) := by
  subst hp
  intro T L X N eT
  obtain ⟨T', X', e', stp⟩ := getS2 X C.1 C.2.1 C.2.2.1 (host := "") (Or.inl w) Via.refl eT F (g := mkF m pc Ls st) rfl (hb C.2.2.2.1 hd)
  exact own_via stp (K T' L X' N e')
theorem own_getfield (C : own_Cx Z p s m meth c own bytes ml rt nm) {R0 O f d : String} {i : Nat} {a : Addr} {v : Value} (w : (Cond.fieldLink own i R0 f d).before a0 Z = true) (via : Via Z R0 O f d) (F : Fld Z h a O f d v) (hd : decode bytes pc = .ok (.getfield i, 3)) (hp : pc + 3 = pc')
    (K : own_At p l e R s m args below meth c n0 Q h k n (mkF m pc' Ls (v :: st))) : own_At p l e R s m args below meth c n0 Q h k n (mkF m pc Ls (.ref a :: st)) := by
  subst hp
  intro T L X N eT
  obtain ⟨T', X', e', stp⟩ := getF X C.1 C.2.1 C.2.2.1 (host := "") (Or.inl w) via eT F (g := mkF m pc Ls (.ref a :: st)) rfl rfl (hb C.2.2.2.1 hd)
  exact own_via stp (K T' L X' N e')
/-! ### returns -/
theorem own_back (C : own_Cx Z p s m meth c own bytes ml rt nm) {v : Option Value} (hv : rt = none → v = none) (hk : k ≤ R.cells) (hn : n ≤ R.slots) (hQ : Q v h)
    (H : ∀ T L, Stand p l e R s m args below meth c T L k n → ∀ fs, (∀ (f : JFrame) (acts : List Action), f.method = m → f.locked = none → f.entered = [] → (doReturn e (T.setTop f) acts v).1 = T.setFrames fs) → Steps p.tables e below (T.setTop f) (T.setFrames fs)) :
    own_At p l e R s m args below meth c n0 Q h k n f := by
  intro T L X N eT
  obtain ⟨fs, hr, hrun, hended, hW, hsame⟩ := X.leave (v := v) (fun q => hv (C.2.2.2.2.2.1.symm.trans q)) C.2.2.2.2.2.2.1
  exact ⟨_, _, H T L X fs hr, hrun, hended, _, _, rfl, ⟨by show Q v T.heap; rw [eT]; exact hQ, N⟩, ⟨_, rfl⟩, hW, hsame.mono hk hn⟩
theorem own_ireturn {t : FieldType} (C : own_Cx Z p s m meth c own bytes ml (some t) nm) {z : Int32} (ht : t = .int ∨ t = .boolean ∨ t = .byte ∨ t = .char ∨ t = .short) (hn : narrow t (.int z) = .int z) (hd : decode bytes pc = .ok (.ireturn, 1)) (hk : k ≤ R.cells) (hs : n ≤ R.slots) (hQ : Q (some (.int z)) h) :
    own_At p l e R s m args below meth c n0 Q h k n (mkF m pc Ls (.int z :: st)) :=
  own_back C (fun q => nomatch q) hk hs hQ fun T L X fs hr => retOut X C.1 C.2.2.2.2.2.1 hn (Or.inl ⟨rfl, ht, _, rfl⟩) (hb C.2.2.2.1 hd) hr
theorem own_dreturn (C : own_Cx Z p s m meth c own bytes ml (some .double) nm) {z : UInt64} (hd : decode bytes pc = .ok (.dreturn, 1)) (hk : k ≤ R.cells) (hs : n ≤ R.slots) (hQ : Q (some (.double z)) h) :
    own_At p l e R s m args below meth c n0 Q h k n (mkF m pc Ls (.double z :: st)) :=
  own_back C (fun q => nomatch q) hk hs hQ fun T L X fs hr => retOut X C.1 C.2.2.2.2.2.1 rfl (Or.inr (Or.inr (Or.inl ⟨rfl, rfl, _, rfl⟩))) (hb C.2.2.2.1 hd) hr
theorem own_areturn {t : FieldType} (C : own_Cx Z p s m meth c own bytes ml (some t) nm) {v : Value} (ht : t.isReference = true) (hv : v.isRef = true) (hd : decode bytes pc = .ok (.areturn, 1)) (hk : k ≤ R.cells) (hs : n ≤ R.slots) (hQ : Q (some v) h) :
    own_At p l e R s m args below meth c n0 Q h k n (mkF m pc Ls (v :: st)) :=
  own_back C (fun q => nomatch q) hk hs hQ fun T L X fs hr => retOut X C.1 C.2.2.2.2.2.1 (by cases t <;> simp [FieldType.isReference] at ht <;> cases v <;> simp [Value.isRef] at hv <;> rfl) (Or.inr (Or.inr (Or.inr (Or.inr ⟨rfl, ht, hv⟩)))) (hb C.2.2.2.1 hd) hr
theorem own_return (C : own_Cx Z p s m meth c own bytes ml none nm) (hd : decode bytes pc = .ok (.return_, 1)) (hk : k ≤ R.cells) (hs : n ≤ R.slots) (hQ : Q none h) :
    own_At p l e R s m args below meth c n0 Q h k n (mkF m pc Ls []) :=
  own_back C (fun _ => rfl) hk hs hQ fun T L X fs hr => X.returnOut C.1 C.2.2.2.2.2.1 (hb C.2.2.2.1 hd) hr
/-! ### contracts and calls -/
def own_Met (l : Launch) (Z : State) (y : MethodName) (bytes : ByteArray) (maxL : Nat) (rt : Option FieldType) (ws : List Jvm.Cond) (rm : Room) (n0 : Nat) (as' : Array Value) (h : Heap) (Q : Option Value → Heap → Prop) : Prop :=
  MetFree l y (head1 (Jvm.Cond.code y bytes maxL rt :: ws) rm) (fun a U => a = as' ∧ Z.Warmed39 U.vm ∧ U.heap = h) (fun _ _ _ _ _ => True) (fun _ U o U' => ∃ v L, o = .returned v ∧ (Q v U'.heap ∧ Fr n0 L) ∧ FrameEnd U o U' L rm.cells rm.slots)
def own_val (P : Value → Heap → Prop) (v : Option Value) (h : Heap) : Prop := ∃ w, v = some w ∧ P w h
def own_nov (P : Heap → Prop) (v : Option Value) (h : Heap) : Prop := v = none ∧ P h
theorem own_met {y : MethodName} {ws : List Jvm.Cond} {rm : Room} {as' : Array Value} (hy : plainFor y = true) (hf : Jvm.Sym.laidSlots as'.toList ++ List.replicate (ml - (Jvm.Sym.laidSlots as'.toList).length) .unset = Ls.toList)
    (H : ∀ p e s m below meth c, own_Cx Z p s m meth c y.cls bytes ml rt y.name → own_At p l e rm s m as' below meth c n0 Q h 0 0 (mkF m 0 Ls [])) : own_Met l Z y bytes ml rt ws rm n0 as' h Q := by
  refine MetFree.of_bodySF hy hisR ?_
  intro p e s m args below meth c s₁ Bd hml0 hP hK
  obtain ⟨rfl, hZ, hh⟩ := hP
  have X0 : Stand p l e rm s m _ below meth c s₁ [] 0 0 := Stand.of_body Bd
  have e0 : s₁.heap = h := by rw [← hh, Bd.state]; rfl
  have K := H p e s m below meth c ⟨Bd.exec, hZ, findClass_of_methodNamed Bd.named, Bd.bytes, hml0, Bd.returns, Bd.notSynchronized, (name_of_methodNamed Bd.named Bd.method).1⟩ s₁ [] X0 (Fr.nil n0) e0
  have hq : argsToLocals args ml = Ls := Array.toList_inj.mp (by rw [Jvm.Sym.argsToLocals_toList]; exact hf)
  have hq2 : entryFrame m args ml = mkF m 0 (argsToLocals args ml) [] := rfl
  rw [hq2, hq]
  exact K
/-- it returns v and leaves the heap as it was -/
def own_pure (v : Value) (h : Heap) (u : Option Value) (h' : Heap) : Prop := u = some v ∧ h' = h
section Calls
variable {y : MethodName} {bytes' : ByteArray} {maxL' : Nat} {rt' : Option FieldType} {rm : Room} {argsL : List Value} {W i : Nat} {P : Value → Heap → Prop} {P0 : Heap → Prop}
theorem own_callS0 {Q' : Option Value → Heap → Prop} (C : own_Cx Z p s m meth c own bytes ml rt nm) (M : own_Met l Z y bytes' maxL' rt' [] rm n0 argsL.toArray h Q') (w1 : (Cond.methodLink own i y).before a0 Z = true) (w2 : (Cond.static y).before a0 Z = true) (w3 : (Cond.initialized y.cls).before a0 Z = true) (w4 : (Cond.code y bytes' maxL' rt').before a0 Z = true)
    (hy : y.cls ≠ "java/lang/invoke/MethodHandle" ∧ y.cls ≠ "java/lang/invoke/VarHandle") (hd : decode bytes pc = .ok (.invokestatic i, 3)) (hs : Ls.size = ml) (hst : st = argsL.reverse ++ rest) (hlen : ∀ sig, parseMethodDescriptor y.desc = some sig → argsL.length = sig.parameters.length) (hW : (rest.map fun v => v.category).sum ≤ W) (hf : rm.frames + 1 ≤ R.frames) (hl : W + (maxL' + 11) + rm.locals ≤ R.locals) (hc : k + rm.cells ≤ R.cells) (hn : n + rm.slots ≤ R.slots) (hp : pc + 3 = pc')
    (K : ∀ v h', Q' v h' → own_At p l e R s m args below meth c n0 Q h' (k + rm.cells) (n + rm.slots) (mkF m pc' Ls (v.toList ++ rest))) : own_At p l e R s m args below meth c n0 Q h k n (mkF m pc Ls st) := by
  subst hp
  intro T L X N eT
  obtain ⟨v, _, ⟨T', L', k', n'⟩, -, X', ⟨Lc, ⟨hQ, N'⟩, l', y', z'⟩, stp⟩ := Jvm.LawKit.callS X C.1 (y := y) C.2.2.1 (mvT C.2.1 w1) (mvT C.2.1 w2) (mvT C.2.1 w3) (mvT C.2.1 w4) hy
    (backOf (Q := fun v h' L => Q' v h' ∧ Fr n0 L) (len := 3) (W := W) (p := p) (e := e) (below := below) (args := args) M C.2.1 w4 w3 hf hl) (g := mkF m pc Ls st) rfl (hs.trans C.2.2.2.2.1.symm) (argsL := argsL) (rest := rest) hlen hst (by show 2 * 0 + _ ≤ _; omega) (hb C.2.2.2.1 hd) (fun _ _ => ⟨rfl, eT, hc, hn⟩)
  dsimp only [Pt.U, Pt.locs, Pt.cells, Pt.slots] at X' l' y' z' stp hQ
  subst l' y' z'
  exact own_via stp (K v _ hQ T' _ X' (Fr.app N N') rfl)
theorem own_callS (C : own_Cx Z p s m meth c own bytes ml rt nm) (M : own_Met l Z y bytes' maxL' rt' [] rm n0 argsL.toArray h  (own_val P)) (w1 : (Cond.methodLink own i y).before a0 Z = true) (w2 : (Cond.static y).before a0 Z = true) (w3 : (Cond.initialized y.cls).before a0 Z = true) (w4 : (Cond.code y bytes' maxL' rt').before a0 Z = true)
    (hy : y.cls ≠ "java/lang/invoke/MethodHandle" ∧ y.cls ≠ "java/lang/invoke/VarHandle") (hd : decode bytes pc = .ok (.invokestatic i, 3)) (hs : Ls.size = ml) (hst : st = argsL.reverse ++ rest) (hlen : ∀ sig, parseMethodDescriptor y.desc = some sig → argsL.length = sig.parameters.length) (hW : (rest.map fun v => v.category).sum ≤ W) (hf : rm.frames + 1 ≤ R.frames) (hl : W + (maxL' + 11) + rm.locals ≤ R.locals) (hc : k + rm.cells ≤ R.cells) (hn : n + rm.slots ≤ R.slots) (hp : pc + 3 = pc')
    (K : ∀ w h', P w h' → own_At p l e R s m args below meth c n0 Q h' (k + rm.cells) (n + rm.slots) (mkF m pc' Ls (w :: rest))) : own_At p l e R s m args below meth c n0 Q h k n (mkF m pc Ls st) :=
  own_callS0 C M w1 w2 w3 w4 hy hd hs hst hlen hW hf hl hc hn hp (by rintro _ h' ⟨w, rfl, q⟩; exact K w h' q)
theorem own_callSp {v : Value} (C : own_Cx Z p s m meth c own bytes ml rt nm) (M : own_Met l Z y bytes' maxL' rt' [] rm n0 argsL.toArray h  (own_pure v h)) (w1 : (Cond.methodLink own i y).before a0 Z = true) (w2 : (Cond.static y).before a0 Z = true) (w3 : (Cond.initialized y.cls).before a0 Z = true) (w4 : (Cond.code y bytes' maxL' rt').before a0 Z = true)
    (hy : y.cls ≠ "java/lang/invoke/MethodHandle" ∧ y.cls ≠ "java/lang/invoke/VarHandle") (hd : decode bytes pc = .ok (.invokestatic i, 3)) (hs : Ls.size = ml) (hst : st = argsL.reverse ++ rest) (hlen : ∀ sig, parseMethodDescriptor y.desc = some sig → argsL.length = sig.parameters.length) (hW : (rest.map fun v => v.category).sum ≤ W) (hf : rm.frames + 1 ≤ R.frames) (hl : W + (maxL' + 11) + rm.locals ≤ R.locals) (hc : rm.cells = 0) (hn : rm.slots = 0) (hk : k ≤ R.cells) (hk' : n ≤ R.slots) (hp : pc + 3 = pc')
    (K : own_At p l e R s m args below meth c n0 Q h k n (mkF m pc' Ls (v :: rest))) : own_At p l e R s m args below meth c n0 Q h k n (mkF m pc Ls st) :=
  own_callS0 C M w1 w2 w3 w4 hy hd hs hst hlen hW hf hl (by rw [hc]; exact hk) (by rw [hn]; exact hk') hp (by rintro _ h' ⟨rfl, rfl⟩; rw [hc, hn]; exact K)
theorem own_callSV (C : own_Cx Z p s m meth c own bytes ml rt nm) (M : own_Met l Z y bytes' maxL' rt' [] rm n0 argsL.toArray h  (own_nov P0)) (w1 : (Cond.methodLink own i y).before a0 Z = true) (w2 : (Cond.static y).before a0 Z = true) (w3 : (Cond.initialized y.cls).before a0 Z = true) (w4 : (Cond.code y bytes' maxL' rt').before a0 Z = true)
    (hy : y.cls ≠ "java/lang/invoke/MethodHandle" ∧ y.cls ≠ "java/lang/invoke/VarHandle") (hd : decode bytes pc = .ok (.invokestatic i, 3)) (hs : Ls.size = ml) (hst : st = argsL.reverse ++ rest) (hlen : ∀ sig, parseMethodDescriptor y.desc = some sig → argsL.length = sig.parameters.length) (hW : (rest.map fun v => v.category).sum ≤ W) (hf : rm.frames + 1 ≤ R.frames) (hl : W + (maxL' + 11) + rm.locals ≤ R.locals) (hc : k + rm.cells ≤ R.cells) (hn : n + rm.slots ≤ R.slots) (hp : pc + 3 = pc')
    (K : ∀ h', P0 h' → own_At p l e R s m args below meth c n0 Q h' (k + rm.cells) (n + rm.slots) (mkF m pc' Ls rest)) : own_At p l e R s m args below meth c n0 Q h k n (mkF m pc Ls st) :=
  own_callS0 C M w1 w2 w3 w4 hy hd hs hst hlen hW hf hl hc hn hp (by rintro _ h' ⟨rfl, q⟩; exact K h' q)
theorem own_callV0 {Q' : Option Value → Heap → Prop} {a : Addr} {Cn : String} (C : own_Cx Z p s m meth c own bytes ml rt nm) (E : Exa Z h a Cn) (M : own_Met l Z y bytes' maxL' rt' [] rm n0 (Value.ref a :: argsL).toArray h Q') (w1 : (Cond.methodLink own i y).before a0 Z = true) (w2 : (Cond.declares y).before a0 Z = true) (w5 : (Cond.selects Cn y y).before a0 Z = true) (w6 : (Cond.instanceMethod y).before a0 Z = true) (w3 : (Cond.initialized y.cls).before a0 Z = true) (w4 : (Cond.code y bytes' maxL' rt').before a0 Z = true)
    (hy : y.cls ≠ "java/lang/invoke/MethodHandle" ∧ y.cls ≠ "java/lang/invoke/VarHandle") (hd : decode bytes pc = .ok (.invokevirtual i, 3)) (hs : Ls.size = ml) (hst : st = argsL.reverse ++ .ref a :: rest) (hlen : ∀ sig, parseMethodDescriptor y.desc = some sig → argsL.length = sig.parameters.length) (hW : (rest.map fun v => v.category).sum ≤ W) (hf : rm.frames + 1 ≤ R.frames) (hl : W + (maxL' + 11) + rm.locals ≤ R.locals) (hc : k + rm.cells ≤ R.cells) (hn : n + rm.slots ≤ R.slots) (hp : pc + 3 = pc')
    (K : ∀ v h', Q' v h' → own_At p l e R s m args below meth c n0 Q h' (k + rm.cells) (n + rm.slots) (mkF m pc' Ls (v.toList ++ rest))) : own_At p l e R s m args below meth c n0 Q h k n (mkF m pc Ls st) := by
  subst hp
  intro T L X N eT
  obtain ⟨cq, kq, qa, qb, qc⟩ := isOf C.2.1 eT E
  obtain ⟨v, _, ⟨T', L', k', n'⟩, -, X', ⟨Lc, ⟨hQ, N'⟩, l', y', z'⟩, stp⟩ := X.virtualBack C.1 (y := y) (z := y) C.2.2.1 (mvT C.2.1 w1) (mvT C.2.1 w2) (notFace_of_selects (args := #[]) (mvT C.2.1 w5)) (mvT C.2.1 w5) (mvT C.2.1 w6) hy
    (backOf (Q := fun v h' L => Q' v h' ∧ Fr n0 L) (len := 3) (W := W) (p := p) (e := e) (below := below) (args := args) M C.2.1 w4 w3 hf hl) qa qc (g := mkF m pc Ls st) rfl (hs.trans C.2.2.2.2.1.symm) (Steps.refl _) (argsL := argsL) (rest := rest) hlen hst (by show 2 * 0 + _ ≤ _; omega) (hb C.2.2.2.1 hd) (fun _ _ => ⟨rfl, eT, hc, hn⟩)
  dsimp only [Pt.U, Pt.locs, Pt.cells, Pt.slots] at X' l' y' z' stp hQ
  subst l' y' z'
  exact own_via (fun t q => stp.trans q) (K v _ hQ T' _ X' (Fr.app N N') rfl)
theorem own_callV {a : Addr} {Cn : String} (C : own_Cx Z p s m meth c own bytes ml rt nm) (E : Exa Z h a Cn) (M : own_Met l Z y bytes' maxL' rt' [] rm n0 (Value.ref a :: argsL).toArray h  (own_val P)) (w1 : (Cond.methodLink own i y).before a0 Z = true) (w2 : (Cond.declares y).before a0 Z = true) (w5 : (Cond.selects Cn y y).before a0 Z = true) (w6 : (Cond.instanceMethod y).before a0 Z = true) (w3 : (Cond.initialized y.cls).before a0 Z = true) (w4 : (Cond.code y bytes' maxL' rt').before a0 Z = true)
    (hy : y.cls ≠ "java/lang/invoke/MethodHandle" ∧ y.cls ≠ "java/lang/invoke/VarHandle") (hd : decode bytes pc = .ok (.invokevirtual i, 3)) (hs : Ls.size = ml) (hst : st = argsL.reverse ++ .ref a :: rest) (hlen : ∀ sig, parseMethodDescriptor y.desc = some sig → argsL.length = sig.parameters.length) (hW : (rest.map fun v => v.category).sum ≤ W) (hf : rm.frames + 1 ≤ R.frames) (hl : W + (maxL' + 11) + rm.locals ≤ R.locals) (hc : k + rm.cells ≤ R.cells) (hn : n + rm.slots ≤ R.slots) (hp : pc + 3 = pc')
    (K : ∀ w h', P w h' → own_At p l e R s m args below meth c n0 Q h' (k + rm.cells) (n + rm.slots) (mkF m pc' Ls (w :: rest))) : own_At p l e R s m args below meth c n0 Q h k n (mkF m pc Ls st) :=
  own_callV0 C E M w1 w2 w5 w6 w3 w4 hy hd hs hst hlen hW hf hl hc hn hp (by rintro _ h' ⟨w, rfl, q⟩; exact K w h' q)
theorem own_callVp {v : Value} {a : Addr} {Cn : String} (C : own_Cx Z p s m meth c own bytes ml rt nm) (E : Exa Z h a Cn) (M : own_Met l Z y bytes' maxL' rt' [] rm n0 (Value.ref a :: argsL).toArray h  (own_pure v h)) (w1 : (Cond.methodLink own i y).before a0 Z = true) (w2 : (Cond.declares y).before a0 Z = true) (w5 : (Cond.selects Cn y y).before a0 Z = true) (w6 : (Cond.instanceMethod y).before a0 Z = true) (w3 : (Cond.initialized y.cls).before a0 Z = true) (w4 : (Cond.code y bytes' maxL' rt').before a0 Z = true)
    (hy : y.cls ≠ "java/lang/invoke/MethodHandle" ∧ y.cls ≠ "java/lang/invoke/VarHandle") (hd : decode bytes pc = .ok (.invokevirtual i, 3)) (hs : Ls.size = ml) (hst : st = argsL.reverse ++ .ref a :: rest) (hlen : ∀ sig, parseMethodDescriptor y.desc = some sig → argsL.length = sig.parameters.length) (hW : (rest.map fun v => v.category).sum ≤ W) (hf : rm.frames + 1 ≤ R.frames) (hl : W + (maxL' + 11) + rm.locals ≤ R.locals) (hc : rm.cells = 0) (hn : rm.slots = 0) (hk : k ≤ R.cells) (hk' : n ≤ R.slots) (hp : pc + 3 = pc')
    (K : own_At p l e R s m args below meth c n0 Q h k n (mkF m pc' Ls (v :: rest))) : own_At p l e R s m args below meth c n0 Q h k n (mkF m pc Ls st) :=
  own_callV0 C E M w1 w2 w5 w6 w3 w4 hy hd hs hst hlen hW hf hl (by rw [hc]; exact hk) (by rw [hn]; exact hk') hp (by rintro _ h' ⟨rfl, rfl⟩; rw [hc, hn]; exact K)
theorem own_callVV {a : Addr} {Cn : String} (C : own_Cx Z p s m meth c own bytes ml rt nm) (E : Exa Z h a Cn) (M : own_Met l Z y bytes' maxL' rt' [] rm n0 (Value.ref a :: argsL).toArray h  (own_nov P0)) (w1 : (Cond.methodLink own i y).before a0 Z = true) (w2 : (Cond.declares y).before a0 Z = true) (w5 : (Cond.selects Cn y y).before a0 Z = true) (w6 : (Cond.instanceMethod y).before a0 Z = true) (w3 : (Cond.initialized y.cls).before a0 Z = true) (w4 : (Cond.code y bytes' maxL' rt').before a0 Z = true)
    (hy : y.cls ≠ "java/lang/invoke/MethodHandle" ∧ y.cls ≠ "java/lang/invoke/VarHandle") (hd : decode bytes pc = .ok (.invokevirtual i, 3)) (hs : Ls.size = ml) (hst : st = argsL.reverse ++ .ref a :: rest) (hlen : ∀ sig, parseMethodDescriptor y.desc = some sig → argsL.length = sig.parameters.length) (hW : (rest.map fun v => v.category).sum ≤ W) (hf : rm.frames + 1 ≤ R.frames) (hl : W + (maxL' + 11) + rm.locals ≤ R.locals) (hc : k + rm.cells ≤ R.cells) (hn : n + rm.slots ≤ R.slots) (hp : pc + 3 = pc')
    (K : ∀ h', P0 h' → own_At p l e R s m args below meth c n0 Q h' (k + rm.cells) (n + rm.slots) (mkF m pc' Ls rest)) : own_At p l e R s m args below meth c n0 Q h k n (mkF m pc Ls st) :=
  own_callV0 C E M w1 w2 w5 w6 w3 w4 hy hd hs hst hlen hW hf hl hc hn hp (by rintro _ h' ⟨rfl, q⟩; exact K h' q)
theorem own_callF0 {Q' : Option Value → Heap → Prop} {a : Addr} {Cn : String} {z : MethodName} {cnt : Nat} (C : own_Cx Z p s m meth c own bytes ml rt nm) (E : Exa Z h a Cn) (M : own_Met l Z z bytes' maxL' rt' [] rm n0 (Value.ref a :: argsL).toArray h Q') (w1 : (Cond.methodLink own i y).before a0 Z = true) (w2 : (Cond.declares y).before a0 Z = true) (w7 : (Cond.interfaceMethod y.cls y.cls y.name y.desc).before a0 Z = true) (w5 : (Cond.selects Cn y z).before a0 Z = true) (w6 : (Cond.instanceMethod z).before a0 Z = true) (w8 : (Cond.publicMethod z).before a0 Z = true) (w9 : (Cond.unhidden Cn y.name y.desc).before a0 Z = true) (w10 : (Cond.castable Cn y.cls).before a0 Z = true) (w3 : (Cond.initialized z.cls).before a0 Z = true) (w4 : (Cond.code z bytes' maxL' rt').before a0 Z = true)
    (hy : y.cls ≠ "java/lang/invoke/MethodHandle" ∧ y.cls ≠ "java/lang/invoke/VarHandle") (hd : decode bytes pc = .ok (.invokeinterface i cnt, 5)) (hs : Ls.size = ml) (hst : st = argsL.reverse ++ .ref a :: rest) (hlen : ∀ sig, parseMethodDescriptor y.desc = some sig → argsL.length = sig.parameters.length) (hW : (rest.map fun v => v.category).sum ≤ W) (hf : rm.frames + 1 ≤ R.frames) (hl : W + (maxL' + 11) + rm.locals ≤ R.locals) (hc : k + rm.cells ≤ R.cells) (hn : n + rm.slots ≤ R.slots) (hp : pc + 5 = pc')
    (K : ∀ v h', Q' v h' → own_At p l e R s m args below meth c n0 Q h' (k + rm.cells) (n + rm.slots) (mkF m pc' Ls (v.toList ++ rest))) : own_At p l e R s m args below meth c n0 Q h k n (mkF m pc Ls st) := by
  subst hp
  intro T L X N eT
  obtain ⟨cq, kq, qa, qb, qc⟩ := isOf C.2.1 eT E
  obtain ⟨v, _, ⟨T', L', k', n'⟩, -, X', ⟨Lc, ⟨hQ, N'⟩, l', y', z'⟩, stp⟩ := X.interfaceBack C.1 (xi := y) (y := z) C.2.2.1 (mvT C.2.1 w1) (mvT C.2.1 w2) (mvT C.2.1 w7 (by simp [Cond.onTables, Cond.keepsFace, Cond.keeps, Cond.steady, Cond.faceAtom, hy.1, hy.2])) (mvT C.2.1 w5) (mvT C.2.1 w6) (mvT C.2.1 w8) (mvT C.2.1 w9) (mvT C.2.1 w10) hy
    (backOf (Q := fun v h' L => Q' v h' ∧ Fr n0 L) (len := 5) (W := W) (p := p) (e := e) (below := below) (args := args) M C.2.1 w4 w3 hf hl) qa qb qc (g := mkF m pc Ls st) rfl (hs.trans C.2.2.2.2.1.symm) (Steps.refl _) (argsL := argsL) (rest := rest) hlen hst (by show 2 * 0 + _ ≤ _; omega) (hb C.2.2.2.1 hd) (fun _ _ => ⟨rfl, eT, hc, hn⟩)
  dsimp only [Pt.U, Pt.locs, Pt.cells, Pt.slots] at X' l' y' z' stp hQ
  subst l' y' z'
  exact own_via (fun t q => stp.trans q) (K v _ hQ T' _ X' (Fr.app N N') rfl)
theorem own_callF {a : Addr} {Cn : String} {z : MethodName} {cnt : Nat} (C : own_Cx Z p s m meth c own bytes ml rt nm) (E : Exa Z h a Cn) (M : own_Met l Z z bytes' maxL' rt' [] rm n0 (Value.ref a :: argsL).toArray h  (own_val P)) (w1 : (Cond.methodLink own i y).before a0 Z = true) (w2 : (Cond.declares y).before a0 Z = true) (w7 : (Cond.interfaceMethod y.cls y.cls y.name y.desc).before a0 Z = true) (w5 : (Cond.selects Cn y z).before a0 Z = true) (w6 : (Cond.instanceMethod z).before a0 Z = true) (w8 : (Cond.publicMethod z).before a0 Z = true) (w9 : (Cond.unhidden Cn y.name y.desc).before a0 Z = true) (w10 : (Cond.castable Cn y.cls).before a0 Z = true) (w3 : (Cond.initialized z.cls).before a0 Z = true) (w4 : (Cond.code z bytes' maxL' rt').before a0 Z = true)
    (hy : y.cls ≠ "java/lang/invoke/MethodHandle" ∧ y.cls ≠ "java/lang/invoke/VarHandle") (hd : decode bytes pc = .ok (.invokeinterface i cnt, 5)) (hs : Ls.size = ml) (hst : st = argsL.reverse ++ .ref a :: rest) (hlen : ∀ sig, parseMethodDescriptor y.desc = some sig → argsL.length = sig.parameters.length) (hW : (rest.map fun v => v.category).sum ≤ W) (hf : rm.frames + 1 ≤ R.frames) (hl : W + (maxL' + 11) + rm.locals ≤ R.locals) (hc : k + rm.cells ≤ R.cells) (hn : n + rm.slots ≤ R.slots) (hp : pc + 5 = pc')
    (K : ∀ w h', P w h' → own_At p l e R s m args below meth c n0 Q h' (k + rm.cells) (n + rm.slots) (mkF m pc' Ls (w :: rest))) : own_At p l e R s m args below meth c n0 Q h k n (mkF m pc Ls st) :=
  own_callF0 C E M w1 w2 w7 w5 w6 w8 w9 w10 w3 w4 hy hd hs hst hlen hW hf hl hc hn hp (by rintro _ h' ⟨w, rfl, q⟩; exact K w h' q)
theorem own_callFp {v : Value} {a : Addr} {Cn : String} {z : MethodName} {cnt : Nat} (C : own_Cx Z p s m meth c own bytes ml rt nm) (E : Exa Z h a Cn) (M : own_Met l Z z bytes' maxL' rt' [] rm n0 (Value.ref a :: argsL).toArray h  (own_pure v h)) (w1 : (Cond.methodLink own i y).before a0 Z = true) (w2 : (Cond.declares y).before a0 Z = true) (w7 : (Cond.interfaceMethod y.cls y.cls y.name y.desc).before a0 Z = true) (w5 : (Cond.selects Cn y z).before a0 Z = true) (w6 : (Cond.instanceMethod z).before a0 Z = true) (w8 : (Cond.publicMethod z).before a0 Z = true) (w9 : (Cond.unhidden Cn y.name y.desc).before a0 Z = true) (w10 : (Cond.castable Cn y.cls).before a0 Z = true) (w3 : (Cond.initialized z.cls).before a0 Z = true) (w4 : (Cond.code z bytes' maxL' rt').before a0 Z = true)
    (hy : y.cls ≠ "java/lang/invoke/MethodHandle" ∧ y.cls ≠ "java/lang/invoke/VarHandle") (hd : decode bytes pc = .ok (.invokeinterface i cnt, 5)) (hs : Ls.size = ml) (hst : st = argsL.reverse ++ .ref a :: rest) (hlen : ∀ sig, parseMethodDescriptor y.desc = some sig → argsL.length = sig.parameters.length) (hW : (rest.map fun v => v.category).sum ≤ W) (hf : rm.frames + 1 ≤ R.frames) (hl : W + (maxL' + 11) + rm.locals ≤ R.locals) (hc : rm.cells = 0) (hn : rm.slots = 0) (hk : k ≤ R.cells) (hk' : n ≤ R.slots) (hp : pc + 5 = pc')
    (K : own_At p l e R s m args below meth c n0 Q h k n (mkF m pc' Ls (v :: rest))) : own_At p l e R s m args below meth c n0 Q h k n (mkF m pc Ls st) :=
  own_callF0 C E M w1 w2 w7 w5 w6 w8 w9 w10 w3 w4 hy hd hs hst hlen hW hf hl (by rw [hc]; exact hk) (by rw [hn]; exact hk') hp (by rintro _ h' ⟨rfl, rfl⟩; rw [hc, hn]; exact K)
theorem own_callFV {a : Addr} {Cn : String} {z : MethodName} {cnt : Nat} (C : own_Cx Z p s m meth c own bytes ml rt nm) (E : Exa Z h a Cn) (M : own_Met l Z z bytes' maxL' rt' [] rm n0 (Value.ref a :: argsL).toArray h  (own_nov P0)) (w1 : (Cond.methodLink own i y).before a0 Z = true) (w2 : (Cond.declares y).before a0 Z = true) (w7 : (Cond.interfaceMethod y.cls y.cls y.name y.desc).before a0 Z = true) (w5 : (Cond.selects Cn y z).before a0 Z = true) (w6 : (Cond.instanceMethod z).before a0 Z = true) (w8 : (Cond.publicMethod z).before a0 Z = true) (w9 : (Cond.unhidden Cn y.name y.desc).before a0 Z = true) (w10 : (Cond.castable Cn y.cls).before a0 Z = true) (w3 : (Cond.initialized z.cls).before a0 Z = true) (w4 : (Cond.code z bytes' maxL' rt').before a0 Z = true)
    (hy : y.cls ≠ "java/lang/invoke/MethodHandle" ∧ y.cls ≠ "java/lang/invoke/VarHandle") (hd : decode bytes pc = .ok (.invokeinterface i cnt, 5)) (hs : Ls.size = ml) (hst : st = argsL.reverse ++ .ref a :: rest) (hlen : ∀ sig, parseMethodDescriptor y.desc = some sig → argsL.length = sig.parameters.length) (hW : (rest.map fun v => v.category).sum ≤ W) (hf : rm.frames + 1 ≤ R.frames) (hl : W + (maxL' + 11) + rm.locals ≤ R.locals) (hc : k + rm.cells ≤ R.cells) (hn : n + rm.slots ≤ R.slots) (hp : pc + 5 = pc')
    (K : ∀ h', P0 h' → own_At p l e R s m args below meth c n0 Q h' (k + rm.cells) (n + rm.slots) (mkF m pc' Ls rest)) : own_At p l e R s m args below meth c n0 Q h k n (mkF m pc Ls st) :=
  own_callF0 C E M w1 w2 w7 w5 w6 w8 w9 w10 w3 w4 hy hd hs hst hlen hW hf hl hc hn hp (by rintro _ h' ⟨rfl, q⟩; exact K h' q)
theorem own_callP0 {Q' : Option Value → Heap → Prop} {a : Addr} {Cn : String} (C : own_Cx Z p s m meth c own bytes ml rt nm) (E : Exa Z h a Cn) (M : own_Met l Z y bytes' maxL' rt' [] rm n0 (Value.ref a :: argsL).toArray h Q') (w1 : (Cond.methodLink own i y).before a0 Z = true) (w6 : (Cond.instanceMethod y).before a0 Z = true) (w5 : (Cond.selects y.cls y y).before a0 Z = true) (w8 : (Cond.privateMethod y).before a0 Z = true) (w3 : (Cond.initialized y.cls).before a0 Z = true) (w4 : (Cond.code y bytes' maxL' rt').before a0 Z = true)
    (hy : y.cls ≠ "java/lang/invoke/MethodHandle" ∧ y.cls ≠ "java/lang/invoke/VarHandle") (hd : decode bytes pc = .ok (.invokevirtual i, 3)) (hs : Ls.size = ml) (hst : st = argsL.reverse ++ .ref a :: rest) (hlen : ∀ sig, parseMethodDescriptor y.desc = some sig → argsL.length = sig.parameters.length) (hW : (rest.map fun v => v.category).sum ≤ W) (hf : rm.frames + 1 ≤ R.frames) (hl : W + (maxL' + 11) + rm.locals ≤ R.locals) (hc : k + rm.cells ≤ R.cells) (hn : n + rm.slots ≤ R.slots) (hp : pc + 3 = pc')
    (K : ∀ v h', Q' v h' → own_At p l e R s m args below meth c n0 Q h' (k + rm.cells) (n + rm.slots) (mkF m pc' Ls (v.toList ++ rest))) : own_At p l e R s m args below meth c n0 Q h k n (mkF m pc Ls st) := by
  subst hp
  intro T L X N eT
  obtain ⟨cq, q1, q2⟩ := E.cell
  obtain ⟨v, _, ⟨T', L', k', n'⟩, -, X', ⟨Lc, ⟨hQ, N'⟩, l', y', z'⟩, stp⟩ := X.privateBack C.1 (y := y) C.2.2.1 (mvT C.2.1 w1) (mvT C.2.1 w6) (mvT C.2.1 w5) (Cond.privateMethod_at (mvP C.2.1 w8 (args := #[]))) (mvT C.2.1 w4) hy
    (backOf (Q := fun v h' L => Q' v h' ∧ Fr n0 L) (len := 3) (W := W) (p := p) (e := e) (below := below) (args := args) M C.2.1 w4 w3 hf hl) (g := mkF m pc Ls st) rfl (hs.trans C.2.2.2.2.1.symm) (Steps.refl _) (a := a) (by rw [eT]; exact q1) q2 (argsL := argsL) (rest := rest) hlen hst (by show 2 * 0 + _ ≤ _; omega) (hb C.2.2.2.1 hd) (fun _ _ => ⟨rfl, eT, hc, hn⟩)
  dsimp only [Pt.U, Pt.locs, Pt.cells, Pt.slots] at X' l' y' z' stp hQ
  subst l' y' z'
  exact own_via (fun t q => stp.trans q) (K v _ hQ T' _ X' (Fr.app N N') rfl)
theorem own_callP {a : Addr} {Cn : String} (C : own_Cx Z p s m meth c own bytes ml rt nm) (E : Exa Z h a Cn) (M : own_Met l Z y bytes' maxL' rt' [] rm n0 (Value.ref a :: argsL).toArray h  (own_val P)) (w1 : (Cond.methodLink own i y).before a0 Z = true) (w6 : (Cond.instanceMethod y).before a0 Z = true) (w5 : (Cond.selects y.cls y y).before a0 Z = true) (w8 : (Cond.privateMethod y).before a0 Z = true) (w3 : (Cond.initialized y.cls).before a0 Z = true) (w4 : (Cond.code y bytes' maxL' rt').before a0 Z = true)
    (hy : y.cls ≠ "java/lang/invoke/MethodHandle" ∧ y.cls ≠ "java/lang/invoke/VarHandle") (hd : decode bytes pc = .ok (.invokevirtual i, 3)) (hs : Ls.size = ml) (hst : st = argsL.reverse ++ .ref a :: rest) (hlen : ∀ sig, parseMethodDescriptor y.desc = some sig → argsL.length = sig.parameters.length) (hW : (rest.map fun v => v.category).sum ≤ W) (hf : rm.frames + 1 ≤ R.frames) (hl : W + (maxL' + 11) + rm.locals ≤ R.locals) (hc : k + rm.cells ≤ R.cells) (hn : n + rm.slots ≤ R.slots) (hp : pc + 3 = pc')
    (K : ∀ w h', P w h' → own_At p l e R s m args below meth c n0 Q h' (k + rm.cells) (n + rm.slots) (mkF m pc' Ls (w :: rest))) : own_At p l e R s m args below meth c n0 Q h k n (mkF m pc Ls st) :=
  own_callP0 C E M w1 w6 w5 w8 w3 w4 hy hd hs hst hlen hW hf hl hc hn hp (by rintro _ h' ⟨w, rfl, q⟩; exact K w h' q)
theorem own_callPp {v : Value} {a : Addr} {Cn : String} (C : own_Cx Z p s m meth c own bytes ml rt nm) (E : Exa Z h a Cn) (M : own_Met l Z y bytes' maxL' rt' [] rm n0 (Value.ref a :: argsL).toArray h  (own_pure v h)) (w1 : (Cond.methodLink own i y).before a0 Z = true) (w6 : (Cond.instanceMethod y).before a0 Z = true) (w5 : (Cond.selects y.cls y y).before a0 Z = true) (w8 : (Cond.privateMethod y).before a0 Z = true) (w3 : (Cond.initialized y.cls).before a0 Z = true) (w4 : (Cond.code y bytes' maxL' rt').before a0 Z = true)
    (hy : y.cls ≠ "java/lang/invoke/MethodHandle" ∧ y.cls ≠ "java/lang/invoke/VarHandle") (hd : decode bytes pc = .ok (.invokevirtual i, 3)) (hs : Ls.size = ml) (hst : st = argsL.reverse ++ .ref a :: rest) (hlen : ∀ sig, parseMethodDescriptor y.desc = some sig → argsL.length = sig.parameters.length) (hW : (rest.map fun v => v.category).sum ≤ W) (hf : rm.frames + 1 ≤ R.frames) (hl : W + (maxL' + 11) + rm.locals ≤ R.locals) (hc : rm.cells = 0) (hn : rm.slots = 0) (hk : k ≤ R.cells) (hk' : n ≤ R.slots) (hp : pc + 3 = pc')
    (K : own_At p l e R s m args below meth c n0 Q h k n (mkF m pc' Ls (v :: rest))) : own_At p l e R s m args below meth c n0 Q h k n (mkF m pc Ls st) :=
  own_callP0 C E M w1 w6 w5 w8 w3 w4 hy hd hs hst hlen hW hf hl (by rw [hc]; exact hk) (by rw [hn]; exact hk') hp (by rintro _ h' ⟨rfl, rfl⟩; rw [hc, hn]; exact K)
theorem own_callPV {a : Addr} {Cn : String} (C : own_Cx Z p s m meth c own bytes ml rt nm) (E : Exa Z h a Cn) (M : own_Met l Z y bytes' maxL' rt' [] rm n0 (Value.ref a :: argsL).toArray h  (own_nov P0)) (w1 : (Cond.methodLink own i y).before a0 Z = true) (w6 : (Cond.instanceMethod y).before a0 Z = true) (w5 : (Cond.selects y.cls y y).before a0 Z = true) (w8 : (Cond.privateMethod y).before a0 Z = true) (w3 : (Cond.initialized y.cls).before a0 Z = true) (w4 : (Cond.code y bytes' maxL' rt').before a0 Z = true)
    (hy : y.cls ≠ "java/lang/invoke/MethodHandle" ∧ y.cls ≠ "java/lang/invoke/VarHandle") (hd : decode bytes pc = .ok (.invokevirtual i, 3)) (hs : Ls.size = ml) (hst : st = argsL.reverse ++ .ref a :: rest) (hlen : ∀ sig, parseMethodDescriptor y.desc = some sig → argsL.length = sig.parameters.length) (hW : (rest.map fun v => v.category).sum ≤ W) (hf : rm.frames + 1 ≤ R.frames) (hl : W + (maxL' + 11) + rm.locals ≤ R.locals) (hc : k + rm.cells ≤ R.cells) (hn : n + rm.slots ≤ R.slots) (hp : pc + 3 = pc')
    (K : ∀ h', P0 h' → own_At p l e R s m args below meth c n0 Q h' (k + rm.cells) (n + rm.slots) (mkF m pc' Ls rest)) : own_At p l e R s m args below meth c n0 Q h k n (mkF m pc Ls st) :=
  own_callP0 C E M w1 w6 w5 w8 w3 w4 hy hd hs hst hlen hW hf hl hc hn hp (by rintro _ h' ⟨rfl, q⟩; exact K h' q)
theorem own_callI0 {Q' : Option Value → Heap → Prop} {a : Addr} (C : own_Cx Z p s m meth c own bytes ml rt nm) (hi : y.name = "<init>") (M : own_Met l Z y bytes' maxL' none [] rm n0 (Value.ref a :: argsL).toArray h Q') (w1 : (Cond.methodLink own i y).before a0 Z = true) (w6 : (Cond.instanceMethod y).before a0 Z = true) (w3 : (Cond.initialized y.cls).before a0 Z = true) (w4 : (Cond.code y bytes' maxL' none).before a0 Z = true)
    (hy : y.cls ≠ "java/lang/invoke/MethodHandle" ∧ y.cls ≠ "java/lang/invoke/VarHandle") (hd : decode bytes pc = .ok (.invokespecial i, 3)) (hs : Ls.size = ml) (hst : st = argsL.reverse ++ .ref a :: rest) (hlen : ∀ sig, parseMethodDescriptor y.desc = some sig → argsL.length = sig.parameters.length) (hW : (rest.map fun v => v.category).sum ≤ W) (hf : rm.frames + 1 ≤ R.frames) (hl : W + (maxL' + 11) + rm.locals ≤ R.locals) (hc : k + rm.cells ≤ R.cells) (hn : n + rm.slots ≤ R.slots) (hp : pc + 3 = pc')
    (K : ∀ v h', Q' v h' → own_At p l e R s m args below meth c n0 Q h' (k + rm.cells) (n + rm.slots) (mkF m pc' Ls (v.toList ++ rest))) : own_At p l e R s m args below meth c n0 Q h k n (mkF m pc Ls st) := by
  subst hp
  intro T L X N eT
  obtain ⟨v, _, ⟨T', L', k', n'⟩, -, X', ⟨Lc, ⟨hQ, N'⟩, l', y', z'⟩, stp⟩ := X.specialBack C.1 (y := y) hi C.2.2.1 (mvT C.2.1 w1) (mvT C.2.1 w6) (mvT C.2.1 w4) hy
    (backOf (Q := fun v h' L => Q' v h' ∧ Fr n0 L) (len := 3) (W := W) (p := p) (e := e) (below := below) (args := args) M C.2.1 w4 w3 hf hl) (g := mkF m pc Ls st) rfl (hs.trans C.2.2.2.2.1.symm) (Steps.refl _) (a := a) (argsL := argsL) (rest := rest) hlen hst (by show 2 * 0 + _ ≤ _; omega) (hb C.2.2.2.1 hd) (fun _ _ => ⟨rfl, eT, hc, hn⟩)
  dsimp only [Pt.U, Pt.locs, Pt.cells, Pt.slots] at X' l' y' z' stp hQ
  subst l' y' z'
  exact own_via (fun t q => stp.trans q) (K v _ hQ T' _ X' (Fr.app N N') rfl)
theorem own_callI {a : Addr} (C : own_Cx Z p s m meth c own bytes ml rt nm) (hi : y.name = "<init>") (M : own_Met l Z y bytes' maxL' none [] rm n0 (Value.ref a :: argsL).toArray h  (own_nov P0)) (w1 : (Cond.methodLink own i y).before a0 Z = true) (w6 : (Cond.instanceMethod y).before a0 Z = true) (w3 : (Cond.initialized y.cls).before a0 Z = true) (w4 : (Cond.code y bytes' maxL' none).before a0 Z = true)
    (hy : y.cls ≠ "java/lang/invoke/MethodHandle" ∧ y.cls ≠ "java/lang/invoke/VarHandle") (hd : decode bytes pc = .ok (.invokespecial i, 3)) (hs : Ls.size = ml) (hst : st = argsL.reverse ++ .ref a :: rest) (hlen : ∀ sig, parseMethodDescriptor y.desc = some sig → argsL.length = sig.parameters.length) (hW : (rest.map fun v => v.category).sum ≤ W) (hf : rm.frames + 1 ≤ R.frames) (hl : W + (maxL' + 11) + rm.locals ≤ R.locals) (hc : k + rm.cells ≤ R.cells) (hn : n + rm.slots ≤ R.slots) (hp : pc + 3 = pc')
    (K : ∀ h', P0 h' → own_At p l e R s m args below meth c n0 Q h' (k + rm.cells) (n + rm.slots) (mkF m pc' Ls rest)) : own_At p l e R s m args below meth c n0 Q h k n (mkF m pc Ls st) :=
  own_callI0 C hi M w1 w6 w3 w4 hy hd hs hst hlen hW hf hl hc hn hp (by rintro _ h' ⟨rfl, q⟩; exact K h' q)
theorem own_init0 {a : Addr} (C : own_Cx Z p s m meth c own bytes ml rt nm) (w1 : (Cond.methodLink own i Lib.objectInit).before a0 Z = true) (w2 : (Cond.instanceMethod Lib.objectInit).before a0 Z = true) (w4 : (Cond.code Lib.objectInit ⟨#[0xb1]⟩ 1 none).before a0 Z = true)
    (hd : decode bytes pc = .ok (.invokespecial i, 3)) (hs : Ls.size = ml) (hW : (rest.map fun v => v.category).sum ≤ W) (hf : 1 ≤ R.frames) (hl : W + 12 ≤ R.locals) (hp : pc + 3 = pc')
    (K : own_At p l e R s m args below meth c n0 Q h k n (mkF m pc' Ls rest)) : own_At p l e R s m args below meth c n0 Q h k n (mkF m pc Ls (.ref a :: rest)) := by
  subst hp
  intro T L X N eT
  obtain ⟨T', X', e', stp⟩ := initO X C.1 C.2.1 C.2.2.1 w1 w2 w4 eT (g := mkF m pc Ls (.ref a :: rest)) rfl (hs.trans C.2.2.2.2.1.symm) rfl (hb C.2.2.2.1 hd) hf (W := W) (by show 2 * 0 + _ ≤ _; omega) hl
  exact own_via stp (K T' L X' N e')
end Calls

/-! ### the enum constants of a case -/
def own_En (Z : State) (h : Heap) (C n : String) (d : String) (i : Int32) (a : Addr) : Prop := Sta Z h C n d (.ref a) ∧ Exa Z h a C ∧ Fld Z h a "java/lang/Enum" "ordinal" "I" (.int i)
theorem own_En.ext {h' : Heap} {C f d : String} {i : Int32} {a : Addr} (E : Ext h h') (F : own_En Z h C f d i a) : own_En Z h' C f d i a := ⟨F.1.ext E, F.2.1.ext E, F.2.2.ext E⟩
theorem own_En.ne {C f d g d' : String} {i j : Int32} {a b : Addr} (F : own_En Z h C f d i a) (G : own_En Z h C g d' j b) (q : i ≠ j) : a ≠ b := F.2.2.ne G.2.2 fun z => q (Value.int.inj z)
theorem own_fldv {t : Term} {FC ff : String} {i : Int32} {a : Addr} (ea : t.eval args Z none [] Z = some (.ref a)) (hO : (Cond.eq (.field t FC ff "I") (.int i)).value args Z none Z [] = some true) : Fld Z Z.heap a FC ff "I" (.int i) := by
  refine Fld.start ?_
  obtain ⟨x, y, e1, e2, k1, k2⟩ := cmp_v (Or.inl hO)
  have e3 : y = .int i := by simpa [Term.eval] using e2.symm
  subst e3
  obtain ⟨z, rfl⟩ : ∃ z, x = .int z := k2
  have e4 : z = i := by simpa [Cond.value, e1, e2] using hO
  subst e4
  rw [← fld_at ea]; exact e1
theorem own_sfld {C f d FC ff : String} {i : Int32} {a : Addr} (S : Sta Z Z.heap C f d (.ref a)) (hO : (Cond.eq (.field (.static C f d) FC ff "I") (.int i)).value args Z none Z [] = some true) : Fld Z Z.heap a FC ff "I" (.int i) :=
  own_fldv (S.fin (Vm.Alike.refl _)) hO
theorem own_enum {C f d : String} {i : Int32} (hX : (Cond.exactly (.static C f d) C).value args Z none Z [] = some true) (hO : (Cond.eq (.field (.static C f d) "java/lang/Enum" "ordinal" "I") (.int i)).value args Z none Z [] = some true) (w1 : (Cond.initialized C).before args Z = true) (w2 : (Cond.laysStatic C f d).before args Z = true) : ∃ a, own_En Z Z.heap C f d i a := by
  obtain ⟨a, ea⟩ := exa_v hX
  exact ⟨a, Sta.start ea (Or.inr ⟨w1, w2⟩), Exa.start ea hX, own_fldv ea hO⟩
end OwnKit
/-! The heap part: objects and arrays with known contents. -/
section OwnHeap
variable {p : Program} {l : Launch} {e : Env} {R : Room} {s : State} {m : MethodId} {args : Array Value} {below : List Frame} {meth : Method} {c : Code} {Z : State} {n0 : Nat} {own : String} {bytes : ByteArray} {ml : Nat} {rt : Option FieldType} {nm : String} {Q : Option Value → Heap → Prop} {h h' : Heap} {k n : Nat} {pc pc' : Nat} {Ls Ls' : Array Slot} {st rest : List Value} {a0 : Array Value} {f f' : JFrame}
/-- an object at a, exactly of class C; the fields that lay names hold vs -/
def own_Ob (Z : State) (h : Heap) (a : Addr) (C : String) (lay : List (String × String × String)) (vs : List Value) : Prop :=
  Exa Z h a C ∧ lay.length = vs.length ∧ ∀ (i : Nat) (x : String × String × String) (v : Value), lay[i]? = some x → vs[i]? = some v → Fld Z h a x.1 x.2.1 x.2.2 v
def own_LayOk (Z : State) (a0 : Array Value) (C : String) (lay : List (String × String × String)) : Prop :=
  (lay.map fun x => x.2.1).Nodup ∧ ∀ x ∈ lay, Laid Z a0 C x.1 x.2.1 x.2.2 ∧ ∃ t, parseFieldDescriptor x.2.2 = some t
theorem own_Ob.ext {a : Addr} {C : String} {lay : List (String × String × String)} {vs : List Value} (F : own_Ob Z h a C lay vs) (E : Ext h h') : own_Ob Z h' a C lay vs := ⟨F.1.ext E, F.2.1, fun i x v h1 h2 => (F.2.2 i x v h1 h2).ext E⟩
theorem own_Ob.other {a b : Addr} {C : String} {lay : List (String × String × String)} {vs : List Value} {sl : Nat} {v : Value} (F : own_Ob Z h b C lay vs) (W : Wr h h' a sl v) (q : b ≠ a) : own_Ob Z h' b C lay vs := ⟨F.1.wr W, F.2.1, fun i x v h1 h2 => (F.2.2 i x v h1 h2).other W (Or.inl q)⟩
theorem own_Ob.keep {a : Addr} {C : String} {lay : List (String × String × String)} {vs : List Value} {ws : List Addr} (F : own_Ob Z h a C lay vs) (K : Keep h h' ws) (q : a ∉ ws) : own_Ob Z h' a C lay vs := ⟨F.1.keep K, F.2.1, fun i x v h1 h2 => (F.2.2 i x v h1 h2).keep K q⟩
theorem own_Ob.lt {a : Nat} {C : String} {lay : List (String × String × String)} {vs : List Value} (F : own_Ob Z h a C lay vs) : a < h.size := F.1.lt
theorem own_Ob.get {a : Addr} {C O f d : String} {lay : List (String × String × String)} {vs : List Value} {v : Value} (F : own_Ob Z h a C lay vs) (i : Nat) (h1 : lay[i]? = some (O, f, d)) (h2 : vs[i]? = some v) : Fld Z h a O f d v := F.2.2 i _ v h1 h2
theorem own_Ob.put {a : Addr} {C O f d : String} {lay : List (String × String × String)} {vs vs' : List Value} {v : Value} (F : own_Ob Z h a C lay vs) (ok : own_LayOk Z a0 C lay) (i : Nat) (h1 : lay[i]? = some (O, f, d)) (W : Wr h h' a (RoadKit.slotOf Z O f d) v) (e : vs.set i v = vs') : own_Ob Z h' a C lay vs' := by
  subst e
  refine ⟨F.1.wr W, by simpa using F.2.1, fun j x w h3 h4 => ?_⟩
  by_cases q : j = i
  · subst q
    cases h1.symm.trans h3
    have hi : j < vs.length := by rw [← F.2.1]; exact (List.getElem?_eq_some_iff.mp h1).1
    obtain rfl : v = w := by simpa [hi] using h4
    exact (F.2.2 j (O, f, d) vs[j] h1 (List.getElem?_eq_getElem hi)).same W
  · rw [List.getElem?_set_ne (Ne.symm q)] at h4
    obtain ⟨lx, tx, px⟩ := ok.2 x (List.mem_of_getElem? h3)
    obtain ⟨lf, tf, pf⟩ := ok.2 _ (List.mem_of_getElem? h1)
    refine (F.2.2 j x w h3 h4).other W (Or.inr (slot_ne lx lf (fun z => q ?_) px pf))
    have h5 : (lay.map fun x => x.2.1)[j]? = some x.2.1 := by simp [h3]
    have h6 : (lay.map fun x => x.2.1)[i]? = some x.2.1 := by simp [h1, z]
    exact (List.getElem?_inj (List.getElem?_eq_some_iff.mp h5).1 ok.1).mp (h5.trans h6.symm)
def own_dflt (x : String × String × String) : Value := match parseFieldDescriptor x.2.2 with | some t => defaultValue t | none => .null
theorem own_newO (C : own_Cx Z p s m meth c own bytes ml rt nm) {Cn : String} {lay : List (String × String × String)} {vs : List Value} {i sl : Nat} (w : (Cond.classLink own i Cn).before a0 Z = true) (wi : (Cond.instantiable Cn sl).before a0 Z = true) (wz : (Cond.initialized Cn).before a0 Z = true) (ok : own_LayOk Z a0 Cn lay) (hv : lay.map own_dflt = vs) (hd : decode bytes pc = .ok (.new i, 3)) (hc : k + 1 ≤ R.cells) (hl : n + sl ≤ R.slots) (hp : pc + 3 = pc')
    (K : ∀ h' b, b = h.size → Ext h h' → own_Ob Z h' b Cn lay vs → own_At p l e R s m args below meth c n0 Q h' (k + 1) (n + sl) (mkF m pc' Ls (.ref b :: st))) :
    own_At p l e R s m args below meth c n0 Q h k n (mkF m pc Ls st) := by
  subst hp hv
  intro T L X N eT
  obtain ⟨T', h', X', e', E, A, D, -, stp⟩ := newO X C.1 C.2.1 C.2.2.1 w wi wz eT (g := mkF m pc Ls st) rfl (hb C.2.2.2.1 hd) hc hl
  refine own_via stp (K h' _ rfl E ⟨A, by simp, fun j x v h1 h2 => ?_⟩ T' L X' N e')
  obtain ⟨lx, tx, px⟩ := ok.2 x (List.mem_of_getElem? h1)
  have : v = defaultValue tx := by
    have : own_dflt x = v := by simpa [h1] using h2
    rw [← this, own_dflt, px]
  subst this
  exact D lx px
theorem own_getO (C : own_Cx Z p s m meth c own bytes ml rt nm) {R0 O f d Cn : String} {lay : List (String × String × String)} {vs : List Value} {i : Nat} {a : Addr} {v : Value} (w : (Cond.fieldLink own i R0 f d).before a0 Z = true) (via : Via Z R0 O f d) (F : own_Ob Z h a Cn lay vs) (j : Nat) (h1 : lay[j]? = some (O, f, d)) (h2 : vs[j]? = some v) (hd : decode bytes pc = .ok (.getfield i, 3)) (hp : pc + 3 = pc')
    (K : own_At p l e R s m args below meth c n0 Q h k n (mkF m pc' Ls (v :: st))) : own_At p l e R s m args below meth c n0 Q h k n (mkF m pc Ls (.ref a :: st)) :=
  own_getfield C w via (F.get j h1 h2) hd hp K
theorem own_getN (C : own_Cx Z p s m meth c own bytes ml rt nm) {R0 O f d Cn host : String} {lay : List (String × String × String)} {vs : List Value} {i : Nat} {a : Addr} {v : Value} (w : (Cond.fieldLinkNest own i R0 f d host).before a0 Z = true) (via : Via Z R0 O f d) (F : own_Ob Z h a Cn lay vs) (j : Nat) (h1 : lay[j]? = some (O, f, d)) (h2 : vs[j]? = some v) (hd : decode bytes pc = .ok (.getfield i, 3)) (hp : pc + 3 = pc')
    (K : own_At p l e R s m args below meth c n0 Q h k n (mkF m pc' Ls (v :: st))) : own_At p l e R s m args below meth c n0 Q h k n (mkF m pc Ls (.ref a :: st)) := by
  subst hp
  intro T L X N eT
  obtain ⟨T', X', e', stp⟩ := getF X C.1 C.2.1 C.2.2.1 (host := host) (Or.inr w) via eT (F.get j h1 h2) (g := mkF m pc Ls (.ref a :: st)) rfl rfl (hb C.2.2.2.1 hd)
  exact own_via stp (K T' L X' N e')
theorem own_putO (C : own_Cx Z p s m meth c own bytes ml rt nm) {R0 O f d Cn : String} {lay : List (String × String × String)} {vs vs' : List Value} {i kk : Nat} {ty : FieldType} {a : Addr} {v : Value} (w : (Cond.fieldLink own i R0 f d).before a0 Z = true) (via : Via Z R0 O f d) (F : own_Ob Z h a Cn lay vs) (ok : own_LayOk Z a0 Cn lay) (j : Nat) (h1 : lay[j]? = some (O, f, d)) (h2 : vs.set j v = vs')
    (Ly : (Cond.lays Cn O f d).before a0 Z = true ∨ ((Cond.laysFinal Cn O f d).before a0 Z = true ∧ own = O ∧ nm = "<init>")) (wi : (Cond.instantiable Cn kk).before a0 Z = true) (hty : parseFieldDescriptor d = some ty) (hn : narrow ty v = v) (hf : fits ty v = true) (ha : n0 ≤ a) (hd : decode bytes pc = .ok (.putfield i, 3)) (hp : pc + 3 = pc')
    (K : ∀ h', Wr h h' a (RoadKit.slotOf Z O f d) v → own_Ob Z h' a Cn lay vs' → own_At p l e R s m args below meth c n0 Q h' k n (mkF m pc' Ls st)) : own_At p l e R s m args below meth c n0 Q h k n (mkF m pc Ls (v :: .ref a :: st)) := by
  subst hp
  intro T L X N eT
  have hj : j < vs.length := by rw [← F.2.1]; exact (List.getElem?_eq_some_iff.mp h1).1
  obtain ⟨T', h', X', e', W, stp⟩ := putF X C.1 C.2.1 C.2.2.1 (host := "") (Or.inl w) via eT (F.get j h1 (List.getElem?_eq_getElem hj)) F.1 (Ly.imp id fun q => ⟨q.1, q.2.1, C.2.2.2.2.2.2.2.trans q.2.2⟩) wi hty hn hf (g := mkF m pc Ls (v :: .ref a :: st)) rfl rfl (hb C.2.2.2.1 hd)
  exact own_via stp (K h' W (F.put ok j h1 W h2) T' _ X' (Fr.snoc X' N ha) e')
/-- what may lie in an array of the class cA: the objects of K -/
def own_Ov (Z : State) (cA : ClassId) (K : String) : Prop := ∃ (k : Class) (comp : ClassId) (t : FieldType), Z.vm.classes[cA]? = some k ∧ k.kind = .array comp t ∧ Z.vm.findClass K = some comp
/-- an array at a, its elements the list vs; its class ad; K: the class of its elements ("": none is stored) -/
def own_Ar (Z : State) (h : Heap) (a : Addr) (ty : FieldType) (ad K : String) (vs : List Value) : Prop := ∃ cl : Cell, Arr Z h a cl ty ∧ cl.slots.toList = vs ∧ vs.length < 2 ^ 31 ∧ Exa Z h a ad ∧ (K = "" ∨ own_Ov Z cl.cls K)
section Arrays
variable {a b : Addr} {ty : FieldType} {ad Kc : String} {vs vs' : List Value} {j : Int32} {v : Value}
theorem own_Ar.ext (A : own_Ar Z h a ty ad Kc vs) (E : Ext h h') : own_Ar Z h' a ty ad Kc vs := by obtain ⟨cl, q, r1, r2, r3, r4⟩ := A; exact ⟨cl, q.ext E, r1, r2, r3.ext E, r4⟩
theorem own_Ar.other {sl : Nat} (A : own_Ar Z h b ty ad Kc vs) (W : Wr h h' a sl v) (q : b ≠ a) : own_Ar Z h' b ty ad Kc vs := by obtain ⟨cl, g, r1, r2, r3, r4⟩ := A; exact ⟨cl, g.other W q, r1, r2, r3.wr W, r4⟩
theorem own_Ar.keep {ws : List Addr} (A : own_Ar Z h a ty ad Kc vs) (K : Keep h h' ws) (q : a ∉ ws) : own_Ar Z h' a ty ad Kc vs := by obtain ⟨cl, g, r1, r2, r3, r4⟩ := A; exact ⟨cl, ⟨K.2.1 a cl g.1 q, g.2⟩, r1, r2, r3.keep K, r4⟩
theorem own_Ar.lt {a : Nat} (A : own_Ar Z h a ty ad Kc vs) : a < h.size := by obtain ⟨cl, g, -⟩ := A; exact g.lt
theorem own_Ar.exa (A : own_Ar Z h a ty ad Kc vs) : Exa Z h a ad := by obtain ⟨cl, g, r1, r2, r3, r4⟩ := A; exact r3
theorem own_Ar.same {i : Nat} (A : own_Ar Z h a ty ad Kc vs) (W : Wr h h' a i v) (e : vs.set i v = vs') : own_Ar Z h' a ty ad Kc vs' := by
  subst e
  obtain ⟨cl, g, r1, r2, r3, r4⟩ := A
  refine ⟨_, g.same W, ?_, by simpa using r2, r3.wr W, r4⟩
  subst r1
  simp [Cell.setSlot]
theorem own_idx {cl : Cell} (hs : cl.slots.toList = vs) (hj : ¬ j < 0) (hv : vs[j.toNatClampNeg]? = some v) : ¬ (j < 0 ∨ cl.slots.size ≤ j.toNatClampNeg) ∧ cl.slots[j.toNatClampNeg]? = some v := by
  subst hs
  have q : cl.slots[j.toNatClampNeg]? = some v := by simpa using hv
  have := (Array.getElem?_eq_some_iff.mp q).1
  exact ⟨fun z => z.elim hj (fun z => by omega), q⟩
theorem own_lt {cl : Cell} (hs : cl.slots.toList = vs) (hj : ¬ j < 0) (hv : j.toNatClampNeg < vs.length) : ¬ (j < 0 ∨ cl.slots.size ≤ j.toNatClampNeg) := by
  subst hs
  have : j.toNatClampNeg < cl.slots.size := by simpa using hv
  exact fun z => z.elim hj (fun z => by omega)
theorem own_Ar.sto {y : Addr} (A : own_Ar Z h a ty ad Kc vs) (hK : Kc ≠ "") (I : Ins Z h y Kc true) : Sto Z h a (.ref y) := by
  obtain ⟨cl, g, r1, r2, r3, r4⟩ := A
  obtain ⟨k, comp, t, o1, o2, o3⟩ := r4.resolve_left hK
  obtain ⟨cv, cT, i1, i2, i3⟩ := I
  cases o3.symm.trans i2
  simp only [Bool.and_eq_true, Bool.not_eq_true'] at i3
  obtain ⟨kc, q⟩ := Vm.classAt_of_findClass o3
  obtain ⟨kv, q2⟩ := Vm.classAt_of_assignable i3.2 ⟨kc, q⟩
  exact Or.inr ⟨cl, cv, k, kv, kc, _, _, y, g.1, o1, o2, q, rfl, i1, i3.1, q2, i3.2⟩
theorem own_arraylength (C : own_Cx Z p s m meth c own bytes ml rt nm) {z : Int32} (A : own_Ar Z h a ty ad Kc vs) (hz : vs.length.toInt32 = z) (hd : decode bytes pc = .ok (.arraylength, 1)) (hp : pc + 1 = pc')
    (K : own_At p l e R s m args below meth c n0 Q h k n (mkF m pc' Ls (.int z :: st))) : own_At p l e R s m args below meth c n0 Q h k n (mkF m pc Ls (.ref a :: st)) := by
  subst hp hz
  obtain ⟨cl, A, rfl, -⟩ := A
  intro T L X N eT
  exact own_via (fun t hr => X.arraylength C.1 (by rw [eT]; exact A.1) (State.isArrayOf_alike C.2.1.alike A.2.1) (g := mkF m pc Ls (.ref a :: st)) rfl rfl (hb C.2.2.2.1 hd) t (by simpa using hr)) (K T L X N eT)
theorem own_iaload (C : own_Cx Z p s m meth c own bytes ml rt nm) (A : own_Ar Z h a .int ad Kc vs) (hj : ¬ j < 0) (hv : vs[j.toNatClampNeg]? = some v) (hd : decode bytes pc = .ok (.iaload, 1)) (hp : pc + 1 = pc')
    (K : own_At p l e R s m args below meth c n0 Q h k n (mkF m pc' Ls (v :: st))) : own_At p l e R s m args below meth c n0 Q h k n (mkF m pc Ls (.int j :: .ref a :: st)) := by
  subst hp
  obtain ⟨cl, A, r, -⟩ := A
  obtain ⟨q1, q2⟩ := own_idx r hj hv
  intro T L X N eT
  exact own_via (fun t hr => X.iaload C.1 (j := j) (v := v) (by rw [eT]; exact A.1) (State.isArrayOf_alike C.2.1.alike A.2.1) A.2.2 q1 q2 (g := mkF m pc Ls (.int j :: .ref a :: st)) rfl rfl (hb C.2.2.2.1 hd) t hr) (K T L X N eT)
theorem own_baload (C : own_Cx Z p s m meth c own bytes ml rt nm) (A : own_Ar Z h a .byte ad Kc vs) (hj : ¬ j < 0) (hv : vs[j.toNatClampNeg]? = some v) (hd : decode bytes pc = .ok (.baload, 1)) (hp : pc + 1 = pc')
    (K : own_At p l e R s m args below meth c n0 Q h k n (mkF m pc' Ls (v :: st))) : own_At p l e R s m args below meth c n0 Q h k n (mkF m pc Ls (.int j :: .ref a :: st)) := by
  subst hp
  obtain ⟨cl, A, r, -⟩ := A
  obtain ⟨q1, q2⟩ := own_idx r hj hv
  intro T L X N eT
  exact own_via (fun t hr => X.baloadBytes C.1 (j := j) (v := v) (by rw [eT]; exact A.1) (State.isArrayOf_alike C.2.1.alike A.2.1) A.2.2 q1 q2 (g := mkF m pc Ls (.int j :: .ref a :: st)) rfl rfl (hb C.2.2.2.1 hd) t hr) (K T L X N eT)
theorem own_caload (C : own_Cx Z p s m meth c own bytes ml rt nm) (A : own_Ar Z h a .char ad Kc vs) (hj : ¬ j < 0) (hv : vs[j.toNatClampNeg]? = some v) (hd : decode bytes pc = .ok (.caload, 1)) (hp : pc + 1 = pc')
    (K : own_At p l e R s m args below meth c n0 Q h k n (mkF m pc' Ls (v :: st))) : own_At p l e R s m args below meth c n0 Q h k n (mkF m pc Ls (.int j :: .ref a :: st)) := by
  subst hp
  obtain ⟨cl, A, r, -⟩ := A
  obtain ⟨q1, q2⟩ := own_idx r hj hv
  intro T L X N eT
  exact own_via (fun t hr => X.caload C.1 (j := j) (v := v) (by rw [eT]; exact A.1) (State.isArrayOf_alike C.2.1.alike A.2.1) A.2.2 q1 q2 (g := mkF m pc Ls (.int j :: .ref a :: st)) rfl rfl (hb C.2.2.2.1 hd) t hr) (K T L X N eT)
theorem own_aaload (C : own_Cx Z p s m meth c own bytes ml rt nm) (A : own_Ar Z h a ty ad Kc vs) (hty : ty.isReference = true) (hj : ¬ j < 0) (hv : vs[j.toNatClampNeg]? = some v) (hd : decode bytes pc = .ok (.aaload, 1)) (hp : pc + 1 = pc')
    (K : own_At p l e R s m args below meth c n0 Q h k n (mkF m pc' Ls (v :: st))) : own_At p l e R s m args below meth c n0 Q h k n (mkF m pc Ls (.int j :: .ref a :: st)) := by
  subst hp
  obtain ⟨cl, A, r, -⟩ := A
  obtain ⟨q1, q2⟩ := own_idx r hj hv
  intro T L X N eT
  exact own_via (fun t hr => X.aaload C.1 (j := j) (v := v) (by rw [eT]; exact A.1) (State.isArrayOf_alike C.2.1.alike A.2.1) hty A.2.2 q1 q2 (g := mkF m pc Ls (.int j :: .ref a :: st)) rfl rfl (hb C.2.2.2.1 hd) t hr) (K T L X N eT)
theorem own_iastore (C : own_Cx Z p s m meth c own bytes ml rt nm) {x z : Int32} (A : own_Ar Z h a .int ad Kc vs) (hj : ¬ j < 0) (hv : j.toNatClampNeg < vs.length) (hz : x = z) (hs : vs.set j.toNatClampNeg (.int z) = vs') (ha : n0 ≤ a) (hd : decode bytes pc = .ok (.iastore, 1)) (hp : pc + 1 = pc')
    (K : ∀ h', Wr h h' a j.toNatClampNeg (.int z) → own_Ar Z h' a .int ad Kc vs' → own_At p l e R s m args below meth c n0 Q h' k n (mkF m pc' Ls st)) : own_At p l e R s m args below meth c n0 Q h k n (mkF m pc Ls (.int x :: .int j :: .ref a :: st)) := by
  subst hp hz
  have A0 := A
  obtain ⟨cl, A, r, -⟩ := A
  intro T L X N eT
  obtain ⟨T', h', X', e', W, stp⟩ := stI X C.1 C.2.1 eT A (own_lt r hj hv) (g := mkF m pc Ls (.int x :: .int j :: .ref a :: st)) rfl rfl (hb C.2.2.2.1 hd)
  exact own_via stp (K h' W (A0.same W hs) T' _ X' (Fr.snoc X' N ha) e')
theorem own_bastore (C : own_Cx Z p s m meth c own bytes ml rt nm) {x z : Int32} (A : own_Ar Z h a .byte ad Kc vs) (hj : ¬ j < 0) (hv : j.toNatClampNeg < vs.length) (hz : (nar .byte x) = z) (hs : vs.set j.toNatClampNeg (.int z) = vs') (ha : n0 ≤ a) (hd : decode bytes pc = .ok (.bastore, 1)) (hp : pc + 1 = pc')
    (K : ∀ h', Wr h h' a j.toNatClampNeg (.int z) → own_Ar Z h' a .byte ad Kc vs' → own_At p l e R s m args below meth c n0 Q h' k n (mkF m pc' Ls st)) : own_At p l e R s m args below meth c n0 Q h k n (mkF m pc Ls (.int x :: .int j :: .ref a :: st)) := by
  subst hp hz
  have A0 := A
  obtain ⟨cl, A, r, -⟩ := A
  intro T L X N eT
  obtain ⟨T', h', X', e', W, stp⟩ := stB X C.1 C.2.1 eT A (own_lt r hj hv) (g := mkF m pc Ls (.int x :: .int j :: .ref a :: st)) rfl rfl (hb C.2.2.2.1 hd)
  exact own_via stp (K h' W (A0.same W hs) T' _ X' (Fr.snoc X' N ha) e')
theorem own_castore (C : own_Cx Z p s m meth c own bytes ml rt nm) {x z : Int32} (A : own_Ar Z h a .char ad Kc vs) (hj : ¬ j < 0) (hv : j.toNatClampNeg < vs.length) (hz : (nar .char x) = z) (hs : vs.set j.toNatClampNeg (.int z) = vs') (ha : n0 ≤ a) (hd : decode bytes pc = .ok (.castore, 1)) (hp : pc + 1 = pc')
    (K : ∀ h', Wr h h' a j.toNatClampNeg (.int z) → own_Ar Z h' a .char ad Kc vs' → own_At p l e R s m args below meth c n0 Q h' k n (mkF m pc' Ls st)) : own_At p l e R s m args below meth c n0 Q h k n (mkF m pc Ls (.int x :: .int j :: .ref a :: st)) := by
  subst hp hz
  have A0 := A
  obtain ⟨cl, A, r, -⟩ := A
  intro T L X N eT
  obtain ⟨T', h', X', e', W, stp⟩ := stC X C.1 C.2.1 eT A (own_lt r hj hv) (g := mkF m pc Ls (.int x :: .int j :: .ref a :: st)) rfl rfl (hb C.2.2.2.1 hd)
  exact own_via stp (K h' W (A0.same W hs) T' _ X' (Fr.snoc X' N ha) e')
theorem own_bastoreZ (C : own_Cx Z p s m meth c own bytes ml rt nm) {x z : Int32} (A : own_Ar Z h a .boolean ad Kc vs) (hj : ¬ j < 0) (hv : j.toNatClampNeg < vs.length) (hz : (nar .boolean x) = z) (hs : vs.set j.toNatClampNeg (.int z) = vs') (ha : n0 ≤ a) (hd : decode bytes pc = .ok (.bastore, 1)) (hp : pc + 1 = pc')
    (K : ∀ h', Wr h h' a j.toNatClampNeg (.int z) → own_Ar Z h' a .boolean ad Kc vs' → own_At p l e R s m args below meth c n0 Q h' k n (mkF m pc' Ls st)) : own_At p l e R s m args below meth c n0 Q h k n (mkF m pc Ls (.int x :: .int j :: .ref a :: st)) := by
  subst hp hz
  have A0 := A
  obtain ⟨cl, A, r, -⟩ := A
  intro T L X N eT
  obtain ⟨T', h', X', e', W, stp⟩ := stZ X C.1 C.2.1 eT A (own_lt r hj hv) (g := mkF m pc Ls (.int x :: .int j :: .ref a :: st)) rfl rfl (hb C.2.2.2.1 hd)
  exact own_via stp (K h' W (A0.same W hs) T' _ X' (Fr.snoc X' N ha) e')
theorem own_aastore (C : own_Cx Z p s m meth c own bytes ml rt nm) (A : own_Ar Z h a ty ad Kc vs) (hty : ty.isReference = true) (S : Sto Z h a v) (hj : ¬ j < 0) (hv : j.toNatClampNeg < vs.length) (hs : vs.set j.toNatClampNeg v = vs') (ha : n0 ≤ a) (hd : decode bytes pc = .ok (.aastore, 1)) (hp : pc + 1 = pc')
    (K : ∀ h', Wr h h' a j.toNatClampNeg v → own_Ar Z h' a ty ad Kc vs' → own_At p l e R s m args below meth c n0 Q h' k n (mkF m pc' Ls st)) : own_At p l e R s m args below meth c n0 Q h k n (mkF m pc Ls (v :: .int j :: .ref a :: st)) := by
  subst hp
  have A0 := A
  obtain ⟨cl, A, r, -⟩ := A
  intro T L X N eT
  obtain ⟨T', h', X', e', W, stp⟩ := stR X C.1 C.2.1 eT A (own_lt r hj hv) hty S (g := mkF m pc Ls (v :: .int j :: .ref a :: st)) rfl rfl (hb C.2.2.2.1 hd)
  exact own_via stp (K h' W (A0.same W hs) T' _ X' (Fr.snoc X' N ha) e')
theorem own_newarray (C : own_Cx Z p s m meth c own bytes ml rt nm) {aty : ArrayType} {z : Int32} (w : (Cond.arrayClass (newarray.typeOf aty)).before a0 Z = true) (hz : ¬ z < 0) {cap : Nat} (hcap : z.toNatClampNeg ≤ cap) (hb' : cap * 8 ≤ 536870912) (had : "[" ++ (newarray.typeOf aty).toString = ad) (hvs : List.replicate z.toNatClampNeg (defaultValue (newarray.typeOf aty)) = vs) (hd : decode bytes pc = .ok (.newarray aty, 2)) (hc : k + 1 ≤ R.cells) (hl : n + cap ≤ R.slots) (hp : pc + 2 = pc')
    (K : ∀ h' b, b = h.size → Ext h h' → own_Ar Z h' b (newarray.typeOf aty) ad "" vs → own_At p l e R s m args below meth c n0 Q h' (k + 1) (n + cap) (mkF m pc' Ls (.ref b :: st))) : own_At p l e R s m args below meth c n0 Q h k n (mkF m pc Ls (.int z :: st)) := by
  subst hp hvs
  intro T L X N eT
  obtain ⟨T', h', cA, X', e', E, A, Ex, stp⟩ := newPE X C.1 C.2.1 w eT (g := mkF m pc Ls (.int z :: st)) rfl (hb C.2.2.2.1 hd) rfl hz hcap hb' hc hl had
  exact own_via stp (K h' _ rfl E ⟨_, A, by simp [newA], by simp; exact (back32 hz).2, Ex, Or.inl rfl⟩ T' L X' N e')
theorem own_anewarray (C : own_Cx Z p s m meth c own bytes ml rt nm) {Cn : String} {i : Nat} {z : Int32} (w : (Cond.classLink own i Cn).before a0 Z = true) (w2 : (Cond.arrayOver (.object Cn)).before a0 Z = true) (hz : ¬ z < 0) {cap : Nat} (hcap : z.toNatClampNeg ≤ cap) (hb' : cap * 8 ≤ 536870912) (had : "[" ++ (FieldType.object Cn).toString = ad) (hvs : List.replicate z.toNatClampNeg .null = vs) (hd : decode bytes pc = .ok (.anewarray i, 3)) (hc : k + 1 ≤ R.cells) (hl : n + cap ≤ R.slots) (hp : pc + 3 = pc')
    (K : ∀ h' b, b = h.size → Ext h h' → own_Ar Z h' b (.object Cn) ad Cn vs → own_At p l e R s m args below meth c n0 Q h' (k + 1) (n + cap) (mkF m pc' Ls (.ref b :: st))) : own_At p l e R s m args below meth c n0 Q h k n (mkF m pc Ls (.int z :: st)) := by
  subst hp hvs
  intro T L X N eT
  obtain ⟨T', h', cA, X', e', E, A, Ex, O, stp⟩ := newRE X C.1 C.2.1 C.2.2.1 w w2 eT (g := mkF m pc Ls (.int z :: st)) rfl (hb C.2.2.2.1 hd) rfl hz hcap hb' hc hl had
  obtain ⟨kk, comp, o1, o2, o3⟩ := O
  exact own_via stp (K h' _ rfl E ⟨_, A, by simp [newA, defaultValue], by simp; exact (back32 hz).2, Ex, Or.inr ⟨kk, comp, _, o1, o2, o3⟩⟩ T' L X' N e')
theorem own_anewarrayA (C : own_Cx Z p s m meth c own bytes ml rt nm) {Cn : String} {i : Nat} {z : Int32} (hC : (FieldType.array ty).toString = Cn) (w : (Cond.classLink own i Cn).before a0 Z = true) (w2 : (Cond.arrayOver (.array ty)).before a0 Z = true) (hz : ¬ z < 0) {cap : Nat} (hcap : z.toNatClampNeg ≤ cap) (hb' : cap * 8 ≤ 536870912) (had : "[" ++ Cn = ad) (hvs : List.replicate z.toNatClampNeg .null = vs) (hd : decode bytes pc = .ok (.anewarray i, 3)) (hc : k + 1 ≤ R.cells) (hl : n + cap ≤ R.slots) (hp : pc + 3 = pc')
    (K : ∀ h' b, b = h.size → Ext h h' → own_Ar Z h' b (.array ty) ad Cn vs → own_At p l e R s m args below meth c n0 Q h' (k + 1) (n + cap) (mkF m pc' Ls (.ref b :: st))) : own_At p l e R s m args below meth c n0 Q h k n (mkF m pc Ls (.int z :: st)) := by
  subst hp hvs
  intro T L X N eT
  obtain ⟨T', h', cA, X', e', E, A, Ex, O, stp⟩ := newRA X C.1 C.2.1 C.2.2.1 hC w w2 eT (g := mkF m pc Ls (.int z :: st)) rfl (hb C.2.2.2.1 hd) rfl hz hcap hb' hc hl had
  obtain ⟨kk, comp, o1, o2, o3⟩ := O
  exact own_via stp (K h' _ rfl E ⟨_, A, by simp [newA, defaultValue], by simp; exact (back32 hz).2, Ex, Or.inr ⟨kk, comp, _, o1, o2, o3⟩⟩ T' L X' N e')
end Arrays
theorem own_castY (C : own_Cx Z p s m meth c own bytes ml rt nm) {Kc : String} {i : Nat} {a : Addr} (w : (Cond.classLink own i Kc).before a0 Z = true) (I : Ins Z h a Kc true) (hd : decode bytes pc = .ok (.checkcast i, 3)) (hp : pc + 3 = pc')
    (K : own_At p l e R s m args below meth c n0 Q h k n (mkF m pc' Ls (.ref a :: st))) : own_At p l e R s m args below meth c n0 Q h k n (mkF m pc Ls (.ref a :: st)) := by
  subst hp
  intro T L X N eT
  obtain ⟨T', X', e', stp⟩ := castY X C.1 C.2.1 C.2.2.1 w eT I (g := mkF m pc Ls (.ref a :: st)) rfl rfl (hb C.2.2.2.1 hd)
  exact own_via stp (K T' L X' N e')
theorem own_dup_x1 (C : own_Cx Z p s m meth c own bytes ml rt nm) {x y : Value} (hd : decode bytes pc = .ok (.dup_x1, 1)) (hx : x.category = 1) (hy : y.category = 1) (hp : pc + 1 = pc')
    (K : own_At p l e R s m args below meth c n0 Q h k n (mkF m pc' Ls (x :: y :: x :: st))) : own_At p l e R s m args below meth c n0 Q h k n (mkF m pc Ls (x :: y :: st)) := by
  subst hp; exact own_of (fun T L X t hr => XS.dupX1 X.here C.1 rfl (hb C.2.2.2.1 hd) rfl hx hy hr) K
theorem own_dup2 (C : own_Cx Z p s m meth c own bytes ml rt nm) {x y : Value} (hd : decode bytes pc = .ok (.dup2, 1)) (hx : x.category = 1) (hy : y.category = 1) (hp : pc + 1 = pc')
    (K : own_At p l e R s m args below meth c n0 Q h k n (mkF m pc' Ls (x :: y :: x :: y :: st))) : own_At p l e R s m args below meth c n0 Q h k n (mkF m pc Ls (x :: y :: st)) := by
  subst hp
  refine own_of (fun T L X t hr => ?_) K
  have hd' := hb C.2.2.2.1 hd
  have hx' := C.1
  jvm_step X.here [X.here.top, hx', hd', hx, hy]
  exact hr
/-! the old part of the heap, and places -/
theorem own_old {ws : List Addr} (X : Old Z n0 h) (K : Keep h h' ws) (q : ∀ x ∈ ws, n0 ≤ x) : Old Z n0 h' := X.keep K q
theorem own_Keep.trans {h'' : Heap} {ws ws' : List Addr} (K : Keep h h' ws) (K' : Keep h' h'' ws') (q : ∀ x ∈ ws', x ∈ ws ∨ h.size ≤ x) : Keep h h'' ws := K.trans K' q
theorem own_ke (E : Ext h h') : Keep h h' [] := (Keep.refl h []).ext E
theorem own_nil {α : Type} {P : α → Prop} : ∀ x ∈ ([] : List α), P x := fun _ q => nomatch q
theorem own_allS {α : Type} {P : α → Prop} {y : α} {L : List α} (q : P y) (r : ∀ x ∈ L, P x) : ∀ x ∈ y :: L, P x := fun x z => (List.mem_cons.mp z).elim (fun u => u ▸ q) (r x)
/-- a static that holds a, and what is known of a -/
def own_Sx (Z : State) (C f d : String) (a : Addr) (P : Prop) : Prop := Sta Z Z.heap C f d (.ref a) ∧ P
def own_layE : List (String × String × String) := [("java/lang/Enum", "ordinal", "I")]
def own_layN : List (String × String × String) := []
theorem own_En.ob {C f d : String} {i : Int32} {a : Addr} (E : own_En Z Z.heap C f d i a) : own_Sx Z C f d a (own_Ob Z Z.heap a C own_layE [.int i]) := ⟨E.1, E.2.1, rfl, fun j x v h1 h2 => by
  match j, h1, h2 with
  | 0, h1, h2 => cases h1; cases h2; exact E.2.2⟩
theorem own_exob {C f d : String} (hX : (Cond.exactly (.static C f d) C).value args Z none Z [] = some true) (w1 : (Cond.initialized C).before args Z = true) (w2 : (Cond.laysStatic C f d).before args Z = true) : ∃ a, own_Sx Z C f d a (own_Ob Z Z.heap a C own_layN []) := by
  obtain ⟨a, ea⟩ := exa_v hX
  exact ⟨a, Sta.start ea (Or.inr ⟨w1, w2⟩), Exa.start ea hX, rfl, fun j x v h1 h2 => by cases h1⟩
theorem own_sets {L : List Jvm.Cond} {R : Jvm.Cond} (q : (L.foldr Jvm.Cond.and R).before args s = true) : ∀ c ∈ L, c.before args s = true := by
  induction L with
  | nil => intro c hc; cases hc
  | cons a L ih =>
    intro c hc
    have q' : (Jvm.Cond.and a (L.foldr Jvm.Cond.and R)).before args s = true := q
    rw [Cond.before_and, Bool.and_eq_true] at q'
    rcases List.mem_cons.mp hc with rfl | hc
    · exact q'.1
    · exact ih q'.2 c hc
theorem own_starr {C f d ad K : String} {ty : FieldType} (hA : (Cond.arrayOf (.static C f d) ty).value args Z none Z [] = some true) (hX : (Cond.exactly (.static C f d) ad).value args Z none Z [] = some true) (hL : (Cond.eq (.length (.static C f d)) (.int 0)).value args Z none Z [] = some true) (hi : (Cond.initializedFor C f d).before args Z = true ∨ ((Cond.initialized C).before args Z = true ∧ (Cond.laysStatic C f d).before args Z = true)) (hK : K = "" := by rfl) : ∃ a, own_Sx Z C f d a (own_Ar Z Z.heap a ty ad K []) := by
  obtain ⟨a, ea⟩ := arr_v hA
  obtain ⟨cl, A⟩ := Arr.start ea hA
  refine ⟨a, Sta.start ea hi, cl, A, ?_, by decide, Exa.start ea hX, Or.inl hK⟩
  obtain ⟨x, y, e1, e2, -, -⟩ := cmp_v (Or.inl hL)
  obtain ⟨a', cl', e3, e4, e5⟩ := Term.length_spec e1
  cases ea.symm.trans e3
  have e6 : cl' = cl := by
    have := (State.arrayAt?_spec e4).1
    exact Option.some.inj (this.symm.trans A.1)
  subst e6
  have e7 : y = .int 0 := by simpa [Term.eval] using e2.symm
  subst e7
  subst e5
  have e8 : cl'.slots.size < 2 ^ 31 := by
    by_cases q : cl'.slots.size < 2 ^ 31
    · exact q
    · clear hL hA hX
      revert e1 ea
      generalize Term.static C f d = t
      intro ea e1
      simp [Term.eval, ea, e4, q] at e1
  have e9 : cl'.slots.size.toInt32 = 0 := by simpa [Cond.value, e1, e2] using hL
  have e10 : (cl'.slots.size : Int) = 0 := by rw [← len_toInt e8, e9]; rfl
  have : cl'.slots.size = 0 := by omega
  simpa using this
theorem own_stob {C f d ff : String} {i : Int32} (hX : (Cond.exactly (.static C f d) C).value args Z none Z [] = some true) (hO : (Cond.eq (.field (.static C f d) C ff "I") (.int i)).value args Z none Z [] = some true) (hi : (Cond.initializedFor C f d).before args Z = true ∨ ((Cond.initialized C).before args Z = true ∧ (Cond.laysStatic C f d).before args Z = true)) : ∃ a, own_Sx Z C f d a (own_Ob Z Z.heap a C [(C, ff, "I")] [.int i]) := by
  obtain ⟨a, ea⟩ := exa_v hX
  refine ⟨a, Sta.start ea hi, Exa.start ea hX, rfl, fun j x v h1 h2 => ?_⟩
  match j, h1, h2 with
  | 0, h1, h2 => cases h1; cases h2; exact own_fldv ea hO
theorem own_Ob.ne {a b : Addr} {C C' : String} {lay lay' : List (String × String × String)} {vs vs' : List Value} {x : String × String × String} {v v' : Value} (F : own_Ob Z h a C lay vs) (G : own_Ob Z h b C' lay' vs') (i j : Nat) (h1 : lay[i]? = some x) (h2 : vs[i]? = some v) (h3 : lay'[j]? = some x) (h4 : vs'[j]? = some v') (q : v ≠ v') : a ≠ b := (F.2.2 i x v h1 h2).ne (G.2.2 j x v' h3 h4) q
end OwnHeap
/-! Bodies that may load a String constant: the same walk, its end in the wide frame. -/
section OwnWide
variable {p : Program} {l : Launch} {e : Env} {R : Room} {s : State} {m : MethodId} {args : Array Value} {below : List Frame} {meth : Method} {c : Code} {Z : State} {n0 : Nat} {own : String} {bytes : ByteArray} {ml : Nat} {rt : Option FieldType} {nm : String} {Q : Option Value → Vm → Heap → Prop} {h h' : Heap} {k n : Nat} {pc pc' : Nat} {Ls Ls' : Array Slot} {st rest : List Value} {a0 : Array Value} {f f' : JFrame} {EL : List (String × Nat)}
def ownw_Fin (p : Program) (e : Env) (R : Room) (s : State) (below : List Frame) (n0 : Nat) (Q : Option Value → Vm → Heap → Prop) (S : State) : Prop :=
  ∃ s₂ o, Steps p.tables e below S s₂ ∧ s₂.status = .running ∧ Ended s₂ below o ∧ ∃ v L, o = .returned v ∧ (Q v s₂.vm s₂.heap ∧ Fr n0 L) ∧ ReturnedEndW s o s₂ L R.cells R.slots
def ownw_At (p : Program) (l : Launch) (e : Env) (R : Room) (s : State) (m : MethodId) (args : Array Value) (below : List Frame) (meth : Method) (c : Code) (n0 : Nat) (Q : Option Value → Vm → Heap → Prop) (h : Heap) (k n : Nat) (f : JFrame) : Prop :=
  ∀ T L, Stand p l e R s m args below meth c T L k n → Fr n0 L → T.heap = h → ownw_Fin p e R s below n0 Q (T.setTop f)
theorem ownw_via {S S' : State} (H : ∀ t, Steps p.tables e below S' t → Steps p.tables e below S t) (K : ownw_Fin p e R s below n0 Q S') : ownw_Fin p e R s below n0 Q S := by
  obtain ⟨s₂, o, h1, r⟩ := K
  exact ⟨s₂, o, H _ h1, r⟩
theorem ownw_of (H : ∀ T L, Stand p l e R s m args below meth c T L k n → ∀ t, Steps p.tables e below (T.setTop f') t → Steps p.tables e below (T.setTop f) t) (K : ownw_At p l e R s m args below meth c n0 Q h k n f') : ownw_At p l e R s m args below meth c n0 Q h k n f :=
  fun T L X N eT => ownw_via (H T L X) (K T L X N eT)
/-- the rest of the body interns nothing -/
theorem ownw_narrow {Q' : Option Value → Heap → Prop} (K : own_At p l e R s m args below meth c n0 Q' h k n f) (hQ : ∀ v vm hh, s.WarmedH vm → Q' v hh → Q v vm hh) : ownw_At p l e R s m args below meth c n0 Q h k n f := by
  intro T L X N eT
  obtain ⟨s₂, o, h1, h2, h3, v, L', rfl, ⟨q, N'⟩, F⟩ := K T L X N eT
  exact ⟨s₂, _, h1, h2, h3, v, L', rfl, ⟨hQ v _ _ F.2.1 q, N'⟩, ReturnedEndW.of_narrow F.1 F.2.1 F.2.2⟩
/-- an end said of the start with later tables, said of the true start -/
theorem ownw_reb {vm1 : Vm} {k1 : Nat} {S : State} (hS : s.Since vm1 k1) (K : ownw_Fin p e R (s.setVm vm1) below n0 (fun v vm hh => Q v vm hh ∧ k1 ≤ hh.size) S) : ownw_Fin p e R s below n0 Q S := by
  obtain ⟨s₂, o, h1, h2, h3, v, L, rfl, ⟨⟨q, hk⟩, N⟩, E1, E2, E3, E4⟩ := K
  have W : s.Since s₂.vm s₂.heap.size := hS.trans ⟨E2, E3⟩ hk
  exact ⟨s₂, _, h1, h2, h3, v, L, rfl, ⟨q, N⟩, E1, W.1, W.2, E4.setVm s.vm⟩
theorem ownw_cx {vm1 : Vm} {k1 : Nat} (C : own_Cx Z p s m meth c own bytes ml rt nm) (hS : s.Since vm1 k1) : own_Cx Z p (s.setVm vm1) m meth c own bytes ml rt nm :=
  ⟨C.1, State.Warmed39.trans (t := s) C.2.1 hS.1, (hS.1.alike.findClass _ _).trans C.2.2.1, C.2.2.2⟩
/-- tables that only warm keep the invariant -/
theorem own_chw {vm : Vm} (hZ : Z.Warmed39 s.vm) (hEL : EW Z a0 EL) (hW : s.WarmedH vm) (H : CHv Z EL s.vm h) : CHr Z EL s.vm h vm h := by
  have q := CHv.later (h' := h) hZ (hW := (show (Wst Z s.vm h).Warmed39 vm from hW.wide)) hEL ⟨Nat.le_refl _, fun _ _ q => q⟩ (Or.inl hW.interned_eq) H
  exact ⟨q.1, Nat.le_refl _, q.2⟩
/-- a String whose value is null is no constant that is held -/
theorem own_safe {vm : Vm} {x : Addr} (hal : Z.vm.Alike vm) (E : Exa Z h x "java/lang/String") (F : Fld Z h x "java/lang/String" "value" "[B" .null) : Safe Z EL vm h x := by
  refine fun B0 => ?_
  obtain ⟨p0, -, u, a, -, q, rfl, B, hq⟩ := B0
  obtain ⟨cS, ⟨⟨s1, s2, s3, ⟨cv, kv, iv, s4, s4'⟩, -, s6, s7, s8, s9, s10, -⟩, -, -⟩, -, hB, -⟩ := B
  obtain ⟨kv', z4⟩ := ff_back (U := Wst Z vm h) hal s4
  have G : Fld Z h q.sa "java/lang/String" "value" "[B" (.ref q.sd) := ⟨q.sC, cv, kv', iv, q.fSV, s1, z4, s6, s2, s3, by rw [← hal.assignable]; exact s4', s8⟩
  rcases hq with rfl | rfl
  · exact F.ne G (fun z => by cases z) rfl
  · obtain ⟨c1, k1, e1, f1, -⟩ := E
    cases e1.symm.trans s10
    have hB' : Z.vm.findClass "[B" = some q.SA.cls := by rw [← hal.findClass]; exact hB
    obtain ⟨kk, g1, g2⟩ := Vm.findClass_spec f1
    obtain ⟨kk', g1', g2'⟩ := Vm.findClass_spec hB'
    cases g1.symm.trans g1'
    exact absurd (g2.symm.trans g2') (by decide)
section PicksW
variable {y : MethodName} {W i : Nat} {a b : Addr} {ty : FieldType} {ad Kc : String} {vs vs' : List Value} {j : Int32} {v : Value}
theorem ownw_iloadN (C : own_Cx Z p s m meth c own bytes ml rt nm) {i : Fin 4} {v : Int32} (hd : decode bytes pc = .ok (.iload_n i, 1)) (hl : Ls[i.val]? = some (.val (.int v))) (hp : pc + 1 = pc')
    (K : ownw_At p l e R s m args below meth c n0 Q h k n (mkF m pc' Ls (.int v :: st))) : ownw_At p l e R s m args below meth c n0 Q h k n (mkF m pc Ls st) := by
  subst hp; exact ownw_of (fun T L X t hr => XS.iloadN X.here C.1 rfl (hb C.2.2.2.1 hd) hl hr) K
theorem ownw_iload (C : own_Cx Z p s m meth c own bytes ml rt nm) {i : Nat} {v : Int32} (hd : decode bytes pc = .ok (.iload i, 2)) (hl : Ls[i]? = some (.val (.int v))) (hp : pc + 2 = pc')
    (K : ownw_At p l e R s m args below meth c n0 Q h k n (mkF m pc' Ls (.int v :: st))) : ownw_At p l e R s m args below meth c n0 Q h k n (mkF m pc Ls st) := by
  subst hp; exact ownw_of (fun T L X t hr => XS.iload X.here C.1 rfl (hb C.2.2.2.1 hd) hl hr) K
theorem ownw_aloadN (C : own_Cx Z p s m meth c own bytes ml rt nm) {i : Fin 4} {v : Value} (hd : decode bytes pc = .ok (.aload_n i, 1)) (hl : Ls[i.val]? = some (.val v)) (hv : v.isRef = true) (hp : pc + 1 = pc')
    (K : ownw_At p l e R s m args below meth c n0 Q h k n (mkF m pc' Ls (v :: st))) : ownw_At p l e R s m args below meth c n0 Q h k n (mkF m pc Ls st) := by
  subst hp; exact ownw_of (fun T L X t hr => XS.aloadN X.here C.1 rfl (hb C.2.2.2.1 hd) hl hv hr) K
theorem ownw_aload (C : own_Cx Z p s m meth c own bytes ml rt nm) {i : Nat} {v : Value} (hd : decode bytes pc = .ok (.aload i, 2)) (hl : Ls[i]? = some (.val v)) (hv : v.isRef = true) (hp : pc + 2 = pc')
    (K : ownw_At p l e R s m args below meth c n0 Q h k n (mkF m pc' Ls (v :: st))) : ownw_At p l e R s m args below meth c n0 Q h k n (mkF m pc Ls st) := by
  subst hp; exact ownw_of (fun T L X t hr => XS.aload X.here C.1 rfl (hb C.2.2.2.1 hd) hl hv hr) K
theorem ownw_astore (C : own_Cx Z p s m meth c own bytes ml rt nm) {i : Nat} {v : Value} (hd : decode bytes pc = .ok (.astore i, 2)) (hv : v.isRef = true) (hl : storeLocals Ls i v = some Ls') (hp : pc + 2 = pc')
    (K : ownw_At p l e R s m args below meth c n0 Q h k n (mkF m pc' Ls' st)) : ownw_At p l e R s m args below meth c n0 Q h k n (mkF m pc Ls (v :: st)) := by
  subst hp; exact ownw_of (fun T L X t hr => XS.astore X.here C.1 rfl (hb C.2.2.2.1 hd) rfl hv hl hr) K
theorem ownw_iconst (C : own_Cx Z p s m meth c own bytes ml rt nm) {i : Int} {v : Int32} (hd : decode bytes pc = .ok (.iconst i, 1)) (hv : Int32.ofInt i = v) (hp : pc + 1 = pc')
    (K : ownw_At p l e R s m args below meth c n0 Q h k n (mkF m pc' Ls (.int v :: st))) : ownw_At p l e R s m args below meth c n0 Q h k n (mkF m pc Ls st) := by
  subst hp hv; exact ownw_of (fun T L X t hr => XS.iconst X.here C.1 rfl (hb C.2.2.2.1 hd) hr) K
theorem ownw_aconst_null (C : own_Cx Z p s m meth c own bytes ml rt nm) (hd : decode bytes pc = .ok (.aconst_null, 1)) (hp : pc + 1 = pc')
    (K : ownw_At p l e R s m args below meth c n0 Q h k n (mkF m pc' Ls (.null :: st))) : ownw_At p l e R s m args below meth c n0 Q h k n (mkF m pc Ls st) := by
  subst hp; exact ownw_of (fun T L X t hr => XS.aconstNull X.here C.1 rfl (hb C.2.2.2.1 hd) hr) K
theorem ownw_iand (C : own_Cx Z p s m meth c own bytes ml rt nm) {x y z : Int32} (hd : decode bytes pc = .ok (.iand, 1)) (hz : x &&& y = z) (hp : pc + 1 = pc')
    (K : ownw_At p l e R s m args below meth c n0 Q h k n (mkF m pc' Ls (.int z :: st))) : ownw_At p l e R s m args below meth c n0 Q h k n (mkF m pc Ls (.int y :: .int x :: st)) := by
  subst hp hz; exact ownw_of (fun T L X t hr => XS.iand X.here C.1 rfl (hb C.2.2.2.1 hd) rfl hr) K
theorem ownw_ishr (C : own_Cx Z p s m meth c own bytes ml rt nm) {x y z : Int32} (hd : decode bytes pc = .ok (.ishr, 1)) (hz : x >>> (y &&& 31) = z) (hp : pc + 1 = pc')
    (K : ownw_At p l e R s m args below meth c n0 Q h k n (mkF m pc' Ls (.int z :: st))) : ownw_At p l e R s m args below meth c n0 Q h k n (mkF m pc Ls (.int y :: .int x :: st)) := by
  subst hp hz; exact ownw_of (fun T L X t hr => XS.ishr X.here C.1 rfl (hb C.2.2.2.1 hd) rfl hr) K
theorem ownw_dup (C : own_Cx Z p s m meth c own bytes ml rt nm) {x : Value} (hd : decode bytes pc = .ok (.dup, 1)) (hx : x.category = 1) (hp : pc + 1 = pc')
    (K : ownw_At p l e R s m args below meth c n0 Q h k n (mkF m pc' Ls (x :: x :: st))) : ownw_At p l e R s m args below meth c n0 Q h k n (mkF m pc Ls (x :: st)) := by
  subst hp; exact ownw_of (fun T L X t hr => XS.dup X.here C.1 rfl (hb C.2.2.2.1 hd) rfl hx hr) K
theorem ownw_ifY (C : own_Cx Z p s m meth c own bytes ml rt nm) {cd : ClassFile.Cond} {x : Int32} {o : Int} (hd : decode bytes pc = .ok (.ifCond cd o, 3)) (hc : ifCond.holds cd x = true) (ho : 0 ≤ (pc : Int) + o) (hp : ((pc : Int) + o).toNat = pc')
    (K : ownw_At p l e R s m args below meth c n0 Q h k n (mkF m pc' Ls st)) : ownw_At p l e R s m args below meth c n0 Q h k n (mkF m pc Ls (.int x :: st)) :=
  ownw_of (fun T L X t hr => XS.ifYes X.here C.1 rfl (pc0 := pc) rfl (hb C.2.2.2.1 hd) rfl hc ho hp hr) K
theorem ownw_ifN (C : own_Cx Z p s m meth c own bytes ml rt nm) {cd : ClassFile.Cond} {x : Int32} {o : Int} (hd : decode bytes pc = .ok (.ifCond cd o, 3)) (hc : ifCond.holds cd x = false) (hp : pc + 3 = pc')
    (K : ownw_At p l e R s m args below meth c n0 Q h k n (mkF m pc' Ls st)) : ownw_At p l e R s m args below meth c n0 Q h k n (mkF m pc Ls (.int x :: st)) := by
  subst hp; exact ownw_of (fun T L X t hr => XS.ifNo X.here C.1 rfl (hb C.2.2.2.1 hd) rfl hc hr) K
theorem ownw_getfield (C : own_Cx Z p s m meth c own bytes ml rt nm) {R0 O f d : String} {i : Nat} {a : Addr} {v : Value} (w : (Cond.fieldLink own i R0 f d).before a0 Z = true) (via : Via Z R0 O f d) (F : Fld Z h a O f d v) (hd : decode bytes pc = .ok (.getfield i, 3)) (hp : pc + 3 = pc')
    (K : ownw_At p l e R s m args below meth c n0 Q h k n (mkF m pc' Ls (v :: st))) : ownw_At p l e R s m args below meth c n0 Q h k n (mkF m pc Ls (.ref a :: st)) := by
  subst hp
  intro T L X N eT
  obtain ⟨T', X', e', stp⟩ := getF X C.1 C.2.1 C.2.2.1 (host := "") (Or.inl w) via eT F (g := mkF m pc Ls (.ref a :: st)) rfl rfl (hb C.2.2.2.1 hd)
  exact ownw_via stp (K T' L X' N e')
theorem ownw_init0 {a : Addr} (C : own_Cx Z p s m meth c own bytes ml rt nm) (w1 : (Cond.methodLink own i Lib.objectInit).before a0 Z = true) (w2 : (Cond.instanceMethod Lib.objectInit).before a0 Z = true) (w4 : (Cond.code Lib.objectInit ⟨#[0xb1]⟩ 1 none).before a0 Z = true)
    (hd : decode bytes pc = .ok (.invokespecial i, 3)) (hs : Ls.size = ml) (hW : (rest.map fun v => v.category).sum ≤ W) (hf : 1 ≤ R.frames) (hl : W + 12 ≤ R.locals) (hp : pc + 3 = pc')
    (K : ownw_At p l e R s m args below meth c n0 Q h k n (mkF m pc' Ls rest)) : ownw_At p l e R s m args below meth c n0 Q h k n (mkF m pc Ls (.ref a :: rest)) := by
  subst hp
  intro T L X N eT
  obtain ⟨T', X', e', stp⟩ := initO X C.1 C.2.1 C.2.2.1 w1 w2 w4 eT (g := mkF m pc Ls (.ref a :: rest)) rfl (hs.trans C.2.2.2.2.1.symm) rfl (hb C.2.2.2.1 hd) hf (W := W) (by show 2 * 0 + _ ≤ _; omega) hl
  exact ownw_via stp (K T' L X' N e')
theorem ownw_newO (C : own_Cx Z p s m meth c own bytes ml rt nm) {Cn : String} {lay : List (String × String × String)} {vs : List Value} {i sl : Nat} (w : (Cond.classLink own i Cn).before a0 Z = true) (wi : (Cond.instantiable Cn sl).before a0 Z = true) (wz : (Cond.initialized Cn).before a0 Z = true) (ok : own_LayOk Z a0 Cn lay) (hv : lay.map own_dflt = vs) (hd : decode bytes pc = .ok (.new i, 3)) (hc : k + 1 ≤ R.cells) (hl : n + sl ≤ R.slots) (hp : pc + 3 = pc')
    (K : ∀ h' b, b = h.size → Ext h h' → own_Ob Z h' b Cn lay vs → ownw_At p l e R s m args below meth c n0 Q h' (k + 1) (n + sl) (mkF m pc' Ls (.ref b :: st))) :
    ownw_At p l e R s m args below meth c n0 Q h k n (mkF m pc Ls st) := by
  subst hp hv
  intro T L X N eT
  obtain ⟨T', h', X', e', E, A, D, -, stp⟩ := newO X C.1 C.2.1 C.2.2.1 w wi wz eT (g := mkF m pc Ls st) rfl (hb C.2.2.2.1 hd) hc hl
  refine ownw_via stp (K h' _ rfl E ⟨A, by simp, fun j x v h1 h2 => ?_⟩ T' L X' N e')
  obtain ⟨lx, tx, px⟩ := ok.2 x (List.mem_of_getElem? h1)
  have : v = defaultValue tx := by
    have : own_dflt x = v := by simpa [h1] using h2
    rw [← this, own_dflt, px]
  subst this
  exact D lx px
theorem ownw_putO (C : own_Cx Z p s m meth c own bytes ml rt nm) {R0 O f d Cn : String} {lay : List (String × String × String)} {vs vs' : List Value} {i kk : Nat} {ty : FieldType} {a : Addr} {v : Value} (w : (Cond.fieldLink own i R0 f d).before a0 Z = true) (via : Via Z R0 O f d) (F : own_Ob Z h a Cn lay vs) (ok : own_LayOk Z a0 Cn lay) (j : Nat) (h1 : lay[j]? = some (O, f, d)) (h2 : vs.set j v = vs')
    (Ly : (Cond.lays Cn O f d).before a0 Z = true ∨ ((Cond.laysFinal Cn O f d).before a0 Z = true ∧ own = O ∧ nm = "<init>")) (wi : (Cond.instantiable Cn kk).before a0 Z = true) (hty : parseFieldDescriptor d = some ty) (hn : narrow ty v = v) (hf : fits ty v = true) (ha : n0 ≤ a) (hd : decode bytes pc = .ok (.putfield i, 3)) (hp : pc + 3 = pc')
    (K : ∀ h', Wr h h' a (RoadKit.slotOf Z O f d) v → own_Ob Z h' a Cn lay vs' → ownw_At p l e R s m args below meth c n0 Q h' k n (mkF m pc' Ls st)) : ownw_At p l e R s m args below meth c n0 Q h k n (mkF m pc Ls (v :: .ref a :: st)) := by
  subst hp
  intro T L X N eT
  have hj : j < vs.length := by rw [← F.2.1]; exact (List.getElem?_eq_some_iff.mp h1).1
  obtain ⟨T', h', X', e', W, stp⟩ := putF X C.1 C.2.1 C.2.2.1 (host := "") (Or.inl w) via eT (F.get j h1 (List.getElem?_eq_getElem hj)) F.1 (Ly.imp id fun q => ⟨q.1, q.2.1, C.2.2.2.2.2.2.2.trans q.2.2⟩) wi hty hn hf (g := mkF m pc Ls (v :: .ref a :: st)) rfl rfl (hb C.2.2.2.1 hd)
  exact ownw_via stp (K h' W (F.put ok j h1 W h2) T' _ X' (Fr.snoc X' N ha) e')
theorem ownw_newarray (C : own_Cx Z p s m meth c own bytes ml rt nm) {aty : ArrayType} {z : Int32} (w : (Cond.arrayClass (newarray.typeOf aty)).before a0 Z = true) (hz : ¬ z < 0) {cap : Nat} (hcap : z.toNatClampNeg ≤ cap) (hb' : cap * 8 ≤ 536870912) (had : "[" ++ (newarray.typeOf aty).toString = ad) (hvs : List.replicate z.toNatClampNeg (defaultValue (newarray.typeOf aty)) = vs) (hd : decode bytes pc = .ok (.newarray aty, 2)) (hc : k + 1 ≤ R.cells) (hl : n + cap ≤ R.slots) (hp : pc + 2 = pc')
    (K : ∀ h' b, b = h.size → Ext h h' → own_Ar Z h' b (newarray.typeOf aty) ad "" vs → ownw_At p l e R s m args below meth c n0 Q h' (k + 1) (n + cap) (mkF m pc' Ls (.ref b :: st))) : ownw_At p l e R s m args below meth c n0 Q h k n (mkF m pc Ls (.int z :: st)) := by
  subst hp hvs
  intro T L X N eT
  obtain ⟨T', h', cA, X', e', E, A, Ex, stp⟩ := newPE X C.1 C.2.1 w eT (g := mkF m pc Ls (.int z :: st)) rfl (hb C.2.2.2.1 hd) rfl hz hcap hb' hc hl had
  exact ownw_via stp (K h' _ rfl E ⟨_, A, by simp [newA], by simp; exact (back32 hz).2, Ex, Or.inl rfl⟩ T' L X' N e')
theorem ownw_arraylength (C : own_Cx Z p s m meth c own bytes ml rt nm) {z : Int32} (A : own_Ar Z h a ty ad Kc vs) (hz : vs.length.toInt32 = z) (hd : decode bytes pc = .ok (.arraylength, 1)) (hp : pc + 1 = pc')
    (K : ownw_At p l e R s m args below meth c n0 Q h k n (mkF m pc' Ls (.int z :: st))) : ownw_At p l e R s m args below meth c n0 Q h k n (mkF m pc Ls (.ref a :: st)) := by
  subst hp hz
  obtain ⟨cl, A, rfl, -⟩ := A
  intro T L X N eT
  exact ownw_via (fun t hr => X.arraylength C.1 (by rw [eT]; exact A.1) (State.isArrayOf_alike C.2.1.alike A.2.1) (g := mkF m pc Ls (.ref a :: st)) rfl rfl (hb C.2.2.2.1 hd) t (by simpa using hr)) (K T L X N eT)
end PicksW
theorem ownw_ldc {text : String} {i nn : Nat} {vs : List Value} {z : Int32} (C : own_Cx Z p s m meth c own bytes ml rt nm) (w : (Cond.stringLink own i text).before a0 Z = true) (wS : ∀ a ∈ Bundle.stringAtoms, a.before a0 Z = true) (hEL : EW Z a0 EL) (hmem : (own, i) ∈ EL) (H : CHv Z EL s.vm h)
    (ht : (∀ c ∈ text.toList, c.toNat < 256) ∧ text.toList.map (fun c => Value.int (Jvm.Lit.byteI c.toNat.toUInt16)) = vs) (hz : ¬ z < 0) (hl : z.toNatClampNeg = vs.length) (hd : decode bytes pc = .ok (.ldc i, 2)) (hn : 4 * text.toList.length ≤ nn) (hbig : nn ≤ 536870912) (hc : k + 2 ≤ R.cells) (hl' : n + (nn + 4) ≤ R.slots) (hp : pc + 2 = pc')
    (K : ∀ vm1 h' a b, own_Cx Z p (s.setVm vm1) m meth c own bytes ml rt nm → Ext h h' → CHr Z EL s.vm h vm1 h' → Exa Z h' a "java/lang/String" → Fld Z h' a "java/lang/String" "coder" "B" (.int 0) → Fld Z h' a "java/lang/String" "value" "[B" (.ref b) → ownw_At p l e R (s.setVm vm1) m args below meth c n0 (fun u vm hh => Q u vm hh ∧ h'.size ≤ hh.size) h' (k + 2) (n + (nn + 4)) (mkF m pc' Ls (.ref a :: st))) :
    ownw_At p l e R s m args below meth c n0 Q h k n (mkF m pc Ls st) := by
  subst hp
  intro T L X N eT
  obtain ⟨a, T', h', k1, b, kc, X', e', E, hS, hk1, -, -, A, Fc, Fv, -, -, -, hC, -, -, stp⟩ := ldcCH (s := s) (vm0 := s.vm) X C.1 C.2.1 C.2.2.1 w wS eT (k0 := 0) ⟨State.Warmed39.refl s, fun j q hj hq => absurd (Array.getElem?_eq_some_iff.mp hq).1 (Nat.not_lt.mpr hj)⟩ (Nat.zero_le _) hEL hmem H ht hz hl (g := mkF m pc Ls st) rfl (hb C.2.2.2.1 hd) hn hbig hc hl'
  have hS' : s.Since T'.vm h'.size := ⟨hS.1, hS.2.mono hk1⟩
  exact ownw_via stp (ownw_reb hS' (K T'.vm h' a b (ownw_cx C hS') E hC A Fc Fv T' L X' N e'))
/-- a contract of a body that may load a constant -/
def ownw_Met (l : Launch) (Z : State) (y : MethodName) (bytes : ByteArray) (maxL : Nat) (rt : Option FieldType) (ws : List Jvm.Cond) (rm : Room) (n0 : Nat) (EL : List (String × Nat)) (as' : Array Value) (h : Heap) (Q : Option Value → Heap → Prop) : Prop :=
  MetFree l y (head1 (Jvm.Cond.code y bytes maxL rt :: ws) rm) (fun a U => a = as' ∧ Z.Warmed39 U.vm ∧ U.heap = h ∧ CHv Z EL U.vm h) (fun _ _ _ _ _ => True) (fun _ U o U' => ∃ v L, o = .returned v ∧ (Q v U'.heap ∧ Fr n0 L) ∧ CHr Z EL U.vm U.heap U'.vm U'.heap ∧ ReturnedEndW U o U' L rm.cells rm.slots)
theorem ownw_met {y : MethodName} {ws : List Jvm.Cond} {rm : Room} {as' : Array Value} {Q' : Option Value → Heap → Prop} (hy : plainFor y = true) (hf : Jvm.Sym.laidSlots as'.toList ++ List.replicate (ml - (Jvm.Sym.laidSlots as'.toList).length) .unset = Ls.toList)
    (H : ∀ p e s m below meth c, own_Cx Z p s m meth c y.cls bytes ml rt y.name → CHv Z EL s.vm h → ownw_At p l e rm s m as' below meth c n0 (fun v vm hh => Q' v hh ∧ CHr Z EL s.vm h vm hh) h 0 0 (mkF m 0 Ls [])) : ownw_Met l Z y bytes ml rt ws rm n0 EL as' h Q' := by
  refine MetFree.of_bodySF hy hisR ?_
  intro p e s m args below meth c s₁ Bd hml0 hP hK
  obtain ⟨rfl, hZ, hh, hC⟩ := hP
  have X0 : Stand p l e rm s m _ below meth c s₁ [] 0 0 := Stand.of_body Bd
  have e0 : s₁.heap = h := by rw [← hh, Bd.state]; rfl
  have K := H p e s m below meth c ⟨Bd.exec, hZ, findClass_of_methodNamed Bd.named, Bd.bytes, hml0, Bd.returns, Bd.notSynchronized, (name_of_methodNamed Bd.named Bd.method).1⟩ hC s₁ [] X0 (Fr.nil n0) e0
  have hq : argsToLocals args ml = Ls := Array.toList_inj.mp (by rw [Jvm.Sym.argsToLocals_toList]; exact hf)
  have hq2 : entryFrame m args ml = mkF m 0 (argsToLocals args ml) [] := rfl
  rw [hq2, hq]
  obtain ⟨s₂, o, h1, h2, h3, v, L, r, ⟨⟨q, hc⟩, N⟩, E⟩ := K
  exact ⟨s₂, o, h1, h2, h3, v, L, r, ⟨q, N⟩, by rw [hh]; exact hc, E⟩
theorem ownw_wide {y : MethodName} {ws : List Jvm.Cond} {rm : Room} {as' : Array Value} {Q0 Q' : Option Value → Heap → Prop} (hEL : EW Z a0 EL) (M : own_Met l Z y bytes ml rt ws rm n0 as' h Q0) (hQ : ∀ v h', Q0 v h' → Q' v h' ∧ Keep h h' []) : ownw_Met l Z y bytes ml rt ws rm n0 EL as' h Q' :=
  MetFree.mono M (fun _ _ q => ⟨q.1, q.2.1, q.2.2.1⟩) (fun _ _ _ _ _ q => q) (fun a U o U' hp q => by
    obtain ⟨v, L, e, ⟨q1, q2⟩, q3⟩ := q
    obtain ⟨r, K⟩ := hQ _ _ q1
    obtain ⟨-, hZ, hh, hC⟩ := hp
    subst hh
    have A : CHr Z EL U.vm U.heap U.vm U'.heap := CHr.keep K (by simp) hC
    exact ⟨v, L, e, ⟨r, q2⟩, A.trans (own_chw hZ hEL q3.2.1 A.1), ReturnedEndW.of_narrow q3.1 q3.2.1 q3.2.2⟩)
section CallsW
variable {y : MethodName} {bytes' : ByteArray} {maxL' : Nat} {rt' : Option FieldType} {rm : Room} {argsL : List Value} {W i : Nat} {P : Value → Heap → Prop} {P0 : Heap → Prop}
theorem ownw_callS (C : own_Cx Z p s m meth c own bytes ml rt nm) (M : ownw_Met l Z y bytes' maxL' rt' [] rm n0 EL argsL.toArray h (own_val P)) (hEL : EW Z a0 EL) (H : CHv Z EL s.vm h) (w1 : (Cond.methodLink own i y).before a0 Z = true) (w2 : (Cond.static y).before a0 Z = true) (w3 : (Cond.initialized y.cls).before a0 Z = true) (w4 : (Cond.code y bytes' maxL' rt').before a0 Z = true)
    (hy : y.cls ≠ "java/lang/invoke/MethodHandle" ∧ y.cls ≠ "java/lang/invoke/VarHandle") (hd : decode bytes pc = .ok (.invokestatic i, 3)) (hs : Ls.size = ml) (hst : st = argsL.reverse ++ rest) (hlen : ∀ sig, parseMethodDescriptor y.desc = some sig → argsL.length = sig.parameters.length) (hW : (rest.map fun v => v.category).sum ≤ W) (hf : rm.frames + 1 ≤ R.frames) (hl : W + (maxL' + 11) + rm.locals ≤ R.locals) (hc : k + rm.cells ≤ R.cells) (hn : n + rm.slots ≤ R.slots) (hp : pc + 3 = pc')
    (K : ∀ vm1 w h', own_Cx Z p (s.setVm vm1) m meth c own bytes ml rt nm → P w h' → h.size ≤ h'.size → CHr Z EL s.vm h vm1 h' → ownw_At p l e R (s.setVm vm1) m args below meth c n0 (fun u vm hh => Q u vm hh ∧ h'.size ≤ hh.size) h' (k + rm.cells) (n + rm.slots) (mkF m pc' Ls (w :: rest))) :
    ownw_At p l e R s m args below meth c n0 Q h k n (mkF m pc Ls st) := by
  subst hp
  intro T L X N eT
  obtain ⟨v, _, ⟨T', L', k', n'⟩, -, X', hS, hgr, ⟨Lc, ⟨hQ, N'⟩, l', y', z', hC⟩, stp⟩ := callSS X C.1 (y := y) C.2.2.1 (mvT C.2.1 w1) (mvT C.2.1 w2) (mvT C.2.1 w3) (mvT C.2.1 w4) hy
    (show BackS l R p e below s args y 3 W _ _ from backOfSH (s := s) (vm0 := s.vm) (Q := fun v h' L => own_val P v h' ∧ Fr n0 L) (len := 3) (W := W) (p := p) (e := e) (below := below) (args := args) M C.2.1 w4 w3 hf hl hEL H) (g := mkF m pc Ls st) rfl (hs.trans C.2.2.2.2.1.symm) (argsL := argsL) (rest := rest) hlen hst (by show 2 * 0 + _ ≤ _; omega) (hb C.2.2.2.1 hd) (fun _ _ => ⟨rfl, eT, hc, hn⟩)
  dsimp only [Pt.U, Pt.locs, Pt.cells, Pt.slots] at X' l' y' z' stp hQ hS hgr hC
  subst l' y' z'
  obtain ⟨w, rfl, hQ⟩ := hQ
  rw [eT] at hgr
  exact ownw_via (fun t q => stp.trans q) (ownw_reb hS (K T'.vm w _ (ownw_cx C hS) hQ hgr hC T' _ X' (Fr.app N N') rfl))
theorem ownw_callI {a : Addr} (C : own_Cx Z p s m meth c own bytes ml rt nm) (hi : y.name = "<init>") (M : ownw_Met l Z y bytes' maxL' none [] rm n0 EL (Value.ref a :: argsL).toArray h (own_nov P0)) (hEL : EW Z a0 EL) (H : CHv Z EL s.vm h) (w1 : (Cond.methodLink own i y).before a0 Z = true) (w6 : (Cond.instanceMethod y).before a0 Z = true) (w3 : (Cond.initialized y.cls).before a0 Z = true) (w4 : (Cond.code y bytes' maxL' none).before a0 Z = true)
    (hy : y.cls ≠ "java/lang/invoke/MethodHandle" ∧ y.cls ≠ "java/lang/invoke/VarHandle") (hd : decode bytes pc = .ok (.invokespecial i, 3)) (hs : Ls.size = ml) (hst : st = argsL.reverse ++ .ref a :: rest) (hlen : ∀ sig, parseMethodDescriptor y.desc = some sig → argsL.length = sig.parameters.length) (hW : (rest.map fun v => v.category).sum ≤ W) (hf : rm.frames + 1 ≤ R.frames) (hl : W + (maxL' + 11) + rm.locals ≤ R.locals) (hc : k + rm.cells ≤ R.cells) (hn : n + rm.slots ≤ R.slots) (hp : pc + 3 = pc')
    (K : ∀ vm1 h', own_Cx Z p (s.setVm vm1) m meth c own bytes ml rt nm → P0 h' → h.size ≤ h'.size → CHr Z EL s.vm h vm1 h' → ownw_At p l e R (s.setVm vm1) m args below meth c n0 (fun u vm hh => Q u vm hh ∧ h'.size ≤ hh.size) h' (k + rm.cells) (n + rm.slots) (mkF m pc' Ls rest)) :
    ownw_At p l e R s m args below meth c n0 Q h k n (mkF m pc Ls st) := by
  subst hp
  intro T L X N eT
  obtain ⟨v, _, ⟨T', L', k', n'⟩, -, X', hS, hgr, ⟨Lc, ⟨hQ, N'⟩, l', y', z', hC⟩, stp⟩ := X.specialBackS C.1 (y := y) hi C.2.2.1 (mvT C.2.1 w1) (mvT C.2.1 w6) (mvT C.2.1 w4) hy
    (show BackS l R p e below s args y 3 W _ _ from backOfSH (s := s) (vm0 := s.vm) (Q := fun v h' L => own_nov P0 v h' ∧ Fr n0 L) (len := 3) (W := W) (p := p) (e := e) (below := below) (args := args) M C.2.1 w4 w3 hf hl hEL H) (g := mkF m pc Ls st) rfl (hs.trans C.2.2.2.2.1.symm) (Steps.refl _) (a := a) (argsL := argsL) (rest := rest) hlen hst (by show 2 * 0 + _ ≤ _; omega) (hb C.2.2.2.1 hd) (fun _ _ => ⟨rfl, eT, hc, hn⟩)
  dsimp only [Pt.U, Pt.locs, Pt.cells, Pt.slots] at X' l' y' z' stp hQ hS hgr hC
  subst l' y' z'
  obtain ⟨rfl, hQ⟩ := hQ
  rw [eT] at hgr
  exact ownw_via (fun t q => stp.trans q) (ownw_reb hS (K T'.vm _ (ownw_cx C hS) hQ hgr hC T' _ X' (Fr.app N N') rfl))
end CallsW
end OwnWide
theorem own_iushr {p : Program} {l : Launch} {e : Env} {R : Room} {s : State} {m : MethodId} {args : Array Value} {below : List Frame} {meth : Method} {c : Code} {Z : State} {n0 : Nat} {own : String} {bytes : ByteArray} {ml : Nat} {rt : Option FieldType} {nm : String} {Q : Option Value → Heap → Prop} {h : Heap} {k n : Nat} {pc pc' : Nat} {Ls : Array Slot} {st : List Value} (C : own_Cx Z p s m meth c own bytes ml rt nm) {x y z : Int32} (hd : decode bytes pc = .ok (.iushr, 1)) (hz : (x.toUInt32 >>> (y &&& 31).toUInt32).toInt32 = z) (hp : pc + 1 = pc')
    (K : own_At p l e R s m args below meth c n0 Q h k n (mkF m pc' Ls (.int z :: st))) : own_At p l e R s m args below meth c n0 Q h k n (mkF m pc Ls (.int y :: .int x :: st)) := by
  subst hp hz; exact own_of (fun T L X t hr => XS.iushr X.here C.1 rfl (hb C.2.2.2.1 hd) rfl hr) K
theorem own_i2c {p : Program} {l : Launch} {e : Env} {R : Room} {s : State} {m : MethodId} {args : Array Value} {below : List Frame} {meth : Method} {c : Code} {Z : State} {n0 : Nat} {own : String} {bytes : ByteArray} {ml : Nat} {rt : Option FieldType} {nm : String} {Q : Option Value → Heap → Prop} {h : Heap} {k n : Nat} {pc pc' : Nat} {Ls : Array Slot} {st : List Value} (C : own_Cx Z p s m meth c own bytes ml rt nm) {x z : Int32} (hd : decode bytes pc = .ok (.i2c, 1)) (hz : x.toUInt32.toUInt16.toUInt32.toInt32 = z) (hp : pc + 1 = pc')
    (K : own_At p l e R s m args below meth c n0 Q h k n (mkF m pc' Ls (.int z :: st))) : own_At p l e R s m args below meth c n0 Q h k n (mkF m pc Ls (.int x :: st)) := by
  subst hp hz; exact own_of (fun T L X t hr => Jvm.Free.XS.i2c X.here C.1 rfl (hb C.2.2.2.1 hd) rfl hr) K
theorem own_chr (u : UInt32) (q : u.toNat ≤ 255) : u.toUInt16.toUInt32 = u := by
  apply UInt32.toNat_inj.mp
  simp only [UInt16.toNat_toUInt32, UInt32.toNat_toUInt16]; omega
theorem own_and (x : Int32) : (x &&& 255).toUInt32.toNat ≤ 255 := by
  show (x.toBitVec &&& 255#32).toNat ≤ 255
  rw [BitVec.toNat_and]; exact Nat.and_le_right
theorem own_low (x : Int32) : ¬ (255 : Int32) < nar .char ((x &&& 255).toUInt32.toUInt16.toUInt32.toInt32) := by
  have q := own_and x
  generalize (x &&& 255).toUInt32 = u at q
  have e1 : nar .char (u.toUInt16.toUInt32.toInt32) = u.toInt32 := by
    rw [own_chr u q]; show u.toInt32.toUInt32.toUInt16.toUInt32.toInt32 = _
    rw [show u.toInt32.toUInt32 = u from rfl, own_chr u q]
  rw [e1, Int32.lt_iff_toInt_lt]
  have e2 : u.toInt32.toInt = (u.toNat : Int) := by
    show u.toBitVec.toInt = _
    rw [BitVec.toInt_eq_toNat_of_lt (by have : u.toBitVec.toNat = u.toNat := rfl; omega)]; rfl
  rw [e2, show (255 : Int32).toInt = 255 from rfl]; omega
theorem own_pd0 : parseMethodDescriptor "([CIILjava/lang/Void;)V" = some ⟨[(.array .char), .int, .int, (.object "java/lang/Void")], none⟩ := by decide +kernel
theorem own_pd1 : parseMethodDescriptor "([C)V" = some ⟨[(.array .char)], none⟩ := by decide +kernel
theorem own_pd2 : parseMethodDescriptor "([CI[BII)I" = some ⟨[(.array .char), .int, (.array .byte), .int, .int], some .int⟩ := by decide +kernel
theorem own_pd3 : parseMethodDescriptor "([CII)[B" = some ⟨[(.array .char), .int, .int], some (.array .byte)⟩ := by decide +kernel
theorem own_pd4 : parseMethodDescriptor "([BI)B" = some ⟨[(.array .byte), .int], some .byte⟩ := by decide +kernel
theorem own_pd5 : parseMethodDescriptor "()V" = some ⟨[], none⟩ := by decide +kernel
theorem own_pd6 : parseMethodDescriptor "(Lcom/example/valet3/valet3/core/AuthorizeRefusal;Ljava/lang/String;Lcom/example/valet3/valet3/core/Prompt;Ljava/lang/String;)V" = some ⟨[(.object "com/example/valet3/valet3/core/AuthorizeRefusal"), (.object "java/lang/String"), (.object "com/example/valet3/valet3/core/Prompt"), (.object "java/lang/String")], none⟩ := by decide +kernel
theorem own_pd7 : parseMethodDescriptor "(Ljava/lang/String;Ljava/lang/String;)Lcom/example/valet3/valet3/core/AuthorizeAnswer;" = some ⟨[(.object "java/lang/String"), (.object "java/lang/String")], some (.object "com/example/valet3/valet3/core/AuthorizeAnswer")⟩ := by decide +kernel
theorem own_pd8 : parseMethodDescriptor "()Lcom/example/valet3/valet3/core/AuthorizeRefusal;" = some ⟨[], some (.object "com/example/valet3/valet3/core/AuthorizeRefusal")⟩ := by decide +kernel
theorem own_pd9 : parseMethodDescriptor "()Lcom/example/valet3/valet3/core/Prompt;" = some ⟨[], some (.object "com/example/valet3/valet3/core/Prompt")⟩ := by decide +kernel
theorem own_pd10 : parseMethodDescriptor "()Ljava/lang/String;" = some ⟨[], some (.object "java/lang/String")⟩ := by decide +kernel
theorem own_pd11 : parseMethodDescriptor "(III)Ljava/lang/String;" = some ⟨[.int, .int, .int], some (.object "java/lang/String")⟩ := by decide +kernel
theorem own_d3_0 : decode jdk_42_method_149_code 0 = .ok (.aload_n 0, 1) := by decide +kernel
theorem own_d3_1 : decode jdk_42_method_149_code 1 = .ok (.invokespecial 1, 3) := by decide +kernel
theorem own_d3_4 : decode jdk_42_method_149_code 4 = .ok (.iload_n 3, 1) := by decide +kernel
theorem own_d3_5 : decode jdk_42_method_149_code 5 = .ok (.ifCond .ne 22, 3) := by decide +kernel
theorem own_d3_8 : decode jdk_42_method_149_code 8 = .ok (.aload_n 0, 1) := by decide +kernel
theorem own_d3_9 : decode jdk_42_method_149_code 9 = .ok (.ldc 7, 2) := by decide +kernel
theorem own_d3_11 : decode jdk_42_method_149_code 11 = .ok (.getfield 9, 3) := by decide +kernel
theorem own_d3_14 : decode jdk_42_method_149_code 14 = .ok (.putfield 9, 3) := by decide +kernel
theorem own_d3_17 : decode jdk_42_method_149_code 17 = .ok (.aload_n 0, 1) := by decide +kernel
theorem own_d3_18 : decode jdk_42_method_149_code 18 = .ok (.ldc 7, 2) := by decide +kernel
theorem own_d3_20 : decode jdk_42_method_149_code 20 = .ok (.getfield 15, 3) := by decide +kernel
theorem own_d3_23 : decode jdk_42_method_149_code 23 = .ok (.putfield 15, 3) := by decide +kernel
theorem own_d3_26 : decode jdk_42_method_149_code 26 = .ok (.return_, 1) := by decide +kernel
theorem own_d2_0 : decode jdk_42_method_3_code 0 = .ok (.aload_n 0, 1) := by decide +kernel
theorem own_d2_1 : decode jdk_42_method_3_code 1 = .ok (.aload_n 1, 1) := by decide +kernel
theorem own_d2_2 : decode jdk_42_method_3_code 2 = .ok (.iconst 0, 1) := by decide +kernel
theorem own_d2_3 : decode jdk_42_method_3_code 3 = .ok (.aload_n 1, 1) := by decide +kernel
theorem own_d2_4 : decode jdk_42_method_3_code 4 = .ok (.arraylength, 1) := by decide +kernel
theorem own_d2_5 : decode jdk_42_method_3_code 5 = .ok (.aconst_null, 1) := by decide +kernel
theorem own_d2_6 : decode jdk_42_method_3_code 6 = .ok (.invokespecial 27, 3) := by decide +kernel
theorem own_d2_9 : decode jdk_42_method_3_code 9 = .ok (.return_, 1) := by decide +kernel
theorem own_d1_0 : decode method_2_code 0 = .ok (.iload_n 0, 1) := by decide +kernel
theorem own_d1_1 : decode method_2_code 1 = .ok (.iconst 1, 1) := by decide +kernel
theorem own_d1_2 : decode method_2_code 2 = .ok (.iand, 1) := by decide +kernel
theorem own_d1_3 : decode method_2_code 3 = .ok (.ifCond .eq 5, 3) := by decide +kernel
theorem own_d1_8 : decode method_2_code 8 = .ok (.iload_n 0, 1) := by decide +kernel
theorem own_d1_9 : decode method_2_code 9 = .ok (.iconst 2, 1) := by decide +kernel
theorem own_d1_10 : decode method_2_code 10 = .ok (.iand, 1) := by decide +kernel
theorem own_d1_11 : decode method_2_code 11 = .ok (.ifCond .eq 14, 3) := by decide +kernel
theorem own_d1_14 : decode method_2_code 14 = .ok (.new 7, 3) := by decide +kernel
theorem own_d1_17 : decode method_2_code 17 = .ok (.dup, 1) := by decide +kernel
theorem own_d1_18 : decode method_2_code 18 = .ok (.iconst 0, 1) := by decide +kernel
theorem own_d1_19 : decode method_2_code 19 = .ok (.newarray .char, 2) := by decide +kernel
theorem own_d1_21 : decode method_2_code 21 = .ok (.invokespecial 9, 3) := by decide +kernel
theorem own_d1_24 : decode method_2_code 24 = .ok (.areturn, 1) := by decide +kernel
theorem own_d1_6 : decode method_2_code 6 = .ok (.aconst_null, 1) := by decide +kernel
theorem own_d1_7 : decode method_2_code 7 = .ok (.areturn, 1) := by decide +kernel
theorem own_d1_25 : decode method_2_code 25 = .ok (.new 7, 3) := by decide +kernel
theorem own_d1_28 : decode method_2_code 28 = .ok (.dup, 1) := by decide +kernel
theorem own_d1_29 : decode method_2_code 29 = .ok (.iconst 2, 1) := by decide +kernel
theorem own_d1_30 : decode method_2_code 30 = .ok (.newarray .char, 2) := by decide +kernel
theorem own_d1_32 : decode method_2_code 32 = .ok (.dup, 1) := by decide +kernel
theorem own_d1_33 : decode method_2_code 33 = .ok (.iconst 0, 1) := by decide +kernel
theorem own_d1_34 : decode method_2_code 34 = .ok (.iload_n 1, 1) := by decide +kernel
theorem own_d1_35 : decode method_2_code 35 = .ok (.sipush 255, 3) := by decide +kernel
theorem own_d1_38 : decode method_2_code 38 = .ok (.iand, 1) := by decide +kernel
theorem own_d1_39 : decode method_2_code 39 = .ok (.i2c, 1) := by decide +kernel
theorem own_d1_40 : decode method_2_code 40 = .ok (.castore, 1) := by decide +kernel
theorem own_d1_41 : decode method_2_code 41 = .ok (.dup, 1) := by decide +kernel
theorem own_d1_42 : decode method_2_code 42 = .ok (.iconst 1, 1) := by decide +kernel
theorem own_d1_43 : decode method_2_code 43 = .ok (.iload_n 2, 1) := by decide +kernel
theorem own_d1_44 : decode method_2_code 44 = .ok (.sipush 255, 3) := by decide +kernel
theorem own_d1_47 : decode method_2_code 47 = .ok (.iand, 1) := by decide +kernel
theorem own_d1_48 : decode method_2_code 48 = .ok (.i2c, 1) := by decide +kernel
theorem own_d1_49 : decode method_2_code 49 = .ok (.castore, 1) := by decide +kernel
theorem own_d1_50 : decode method_2_code 50 = .ok (.invokespecial 9, 3) := by decide +kernel
theorem own_d3_27 : decode jdk_42_method_149_code 27 = .ok (.getstatic 38, 3) := by decide +kernel
theorem own_d3_30 : decode jdk_42_method_149_code 30 = .ok (.ifCond .eq 28, 3) := by decide +kernel
theorem own_d3_33 : decode jdk_42_method_149_code 33 = .ok (.aload_n 1, 1) := by decide +kernel
theorem own_d3_34 : decode jdk_42_method_149_code 34 = .ok (.iload_n 2, 1) := by decide +kernel
theorem own_d3_35 : decode jdk_42_method_149_code 35 = .ok (.iload_n 3, 1) := by decide +kernel
theorem own_d3_36 : decode jdk_42_method_149_code 36 = .ok (.invokestatic 177, 3) := by decide +kernel
theorem own_d5_0 : decode jdk_52_method_16_code 0 = .ok (.iload_n 2, 1) := by decide +kernel
theorem own_d5_1 : decode jdk_52_method_16_code 1 = .ok (.newarray .byte, 2) := by decide +kernel
theorem own_d5_3 : decode jdk_52_method_16_code 3 = .ok (.astore_n 3, 1) := by decide +kernel
theorem own_d5_4 : decode jdk_52_method_16_code 4 = .ok (.aload_n 0, 1) := by decide +kernel
theorem own_d5_5 : decode jdk_52_method_16_code 5 = .ok (.iload_n 1, 1) := by decide +kernel
theorem own_d5_6 : decode jdk_52_method_16_code 6 = .ok (.aload_n 3, 1) := by decide +kernel
theorem own_d5_7 : decode jdk_52_method_16_code 7 = .ok (.iconst 0, 1) := by decide +kernel
theorem own_d5_8 : decode jdk_52_method_16_code 8 = .ok (.iload_n 2, 1) := by decide +kernel
theorem own_d5_9 : decode jdk_52_method_16_code 9 = .ok (.invokestatic 115, 3) := by decide +kernel
theorem own_d6_0 : decode jdk_52_method_21_code 0 = .ok (.iconst 0, 1) := by decide +kernel
theorem own_d6_1 : decode jdk_52_method_21_code 1 = .ok (.istore 5, 2) := by decide +kernel
theorem own_d6_3 : decode jdk_52_method_21_code 3 = .ok (.iload 5, 2) := by decide +kernel
theorem own_d6_5 : decode jdk_52_method_21_code 5 = .ok (.iload 4, 2) := by decide +kernel
theorem own_d6_7 : decode jdk_52_method_21_code 7 = .ok (.if_icmp .ge 37, 3) := by decide +kernel
theorem own_d6_10 : decode jdk_52_method_21_code 10 = .ok (.aload_n 0, 1) := by decide +kernel
theorem own_d6_11 : decode jdk_52_method_21_code 11 = .ok (.iload_n 1, 1) := by decide +kernel
theorem own_d6_12 : decode jdk_52_method_21_code 12 = .ok (.caload, 1) := by decide +kernel
theorem own_d6_13 : decode jdk_52_method_21_code 13 = .ok (.istore 6, 2) := by decide +kernel
theorem own_d6_15 : decode jdk_52_method_21_code 15 = .ok (.iload 6, 2) := by decide +kernel
theorem own_d6_17 : decode jdk_52_method_21_code 17 = .ok (.sipush 255, 3) := by decide +kernel
theorem own_d6_20 : decode jdk_52_method_21_code 20 = .ok (.if_icmp .le 6, 3) := by decide +kernel
theorem own_d6_26 : decode jdk_52_method_21_code 26 = .ok (.aload_n 2, 1) := by decide +kernel
theorem own_d6_27 : decode jdk_52_method_21_code 27 = .ok (.iload_n 3, 1) := by decide +kernel
theorem own_d6_28 : decode jdk_52_method_21_code 28 = .ok (.iload 6, 2) := by decide +kernel
theorem own_d6_30 : decode jdk_52_method_21_code 30 = .ok (.i2b, 1) := by decide +kernel
theorem own_d6_31 : decode jdk_52_method_21_code 31 = .ok (.bastore, 1) := by decide +kernel
theorem own_d6_32 : decode jdk_52_method_21_code 32 = .ok (.iinc 1 1, 3) := by decide +kernel
theorem own_d6_35 : decode jdk_52_method_21_code 35 = .ok (.iinc 3 1, 3) := by decide +kernel
theorem own_d6_38 : decode jdk_52_method_21_code 38 = .ok (.iinc 5 1, 3) := by decide +kernel
theorem own_d6_41 : decode jdk_52_method_21_code 41 = .ok (.goto (-38), 3) := by decide +kernel
theorem own_d6_44 : decode jdk_52_method_21_code 44 = .ok (.iload 4, 2) := by decide +kernel
theorem own_d6_46 : decode jdk_52_method_21_code 46 = .ok (.ireturn, 1) := by decide +kernel
theorem own_d5_12 : decode jdk_52_method_16_code 12 = .ok (.istore 4, 2) := by decide +kernel
theorem own_d5_14 : decode jdk_52_method_16_code 14 = .ok (.iload 4, 2) := by decide +kernel
theorem own_d5_16 : decode jdk_52_method_16_code 16 = .ok (.iload_n 2, 1) := by decide +kernel
theorem own_d5_17 : decode jdk_52_method_16_code 17 = .ok (.if_icmp .eq 40, 3) := by decide +kernel
theorem own_d5_57 : decode jdk_52_method_16_code 57 = .ok (.aload_n 3, 1) := by decide +kernel
theorem own_d5_58 : decode jdk_52_method_16_code 58 = .ok (.areturn, 1) := by decide +kernel
theorem own_d3_39 : decode jdk_42_method_149_code 39 = .ok (.astore 5, 2) := by decide +kernel
theorem own_d3_41 : decode jdk_42_method_149_code 41 = .ok (.aload_n 0, 1) := by decide +kernel
theorem own_d3_42 : decode jdk_42_method_149_code 42 = .ok (.aload 5, 2) := by decide +kernel
theorem own_d3_44 : decode jdk_42_method_149_code 44 = .ok (.iload_n 3, 1) := by decide +kernel
theorem own_d3_45 : decode jdk_42_method_149_code 45 = .ok (.invokestatic 47, 3) := by decide +kernel
theorem own_d7_0 : decode jdk_52_method_15_code 0 = .ok (.iload_n 1, 1) := by decide +kernel
theorem own_d7_1 : decode jdk_52_method_15_code 1 = .ok (.aload_n 0, 1) := by decide +kernel
theorem own_d7_2 : decode jdk_52_method_15_code 2 = .ok (.arraylength, 1) := by decide +kernel
theorem own_d7_3 : decode jdk_52_method_15_code 3 = .ok (.isub, 1) := by decide +kernel
theorem own_d7_4 : decode jdk_52_method_15_code 4 = .ok (.bipush 31, 2) := by decide +kernel
theorem own_d7_6 : decode jdk_52_method_15_code 6 = .ok (.iushr, 1) := by decide +kernel
theorem own_d7_7 : decode jdk_52_method_15_code 7 = .ok (.i2b, 1) := by decide +kernel
theorem own_d7_8 : decode jdk_52_method_15_code 8 = .ok (.ireturn, 1) := by decide +kernel
theorem own_d3_48 : decode jdk_42_method_149_code 48 = .ok (.putfield 15, 3) := by decide +kernel
theorem own_d3_51 : decode jdk_42_method_149_code 51 = .ok (.aload_n 0, 1) := by decide +kernel
theorem own_d3_52 : decode jdk_42_method_149_code 52 = .ok (.aload 5, 2) := by decide +kernel
theorem own_d3_54 : decode jdk_42_method_149_code 54 = .ok (.putfield 9, 3) := by decide +kernel
theorem own_d3_57 : decode jdk_42_method_149_code 57 = .ok (.return_, 1) := by decide +kernel
theorem own_d1_53 : decode method_2_code 53 = .ok (.areturn, 1) := by decide +kernel
theorem own_d8_0 : decode prog_11_method_4_code 0 = .ok (.new 8, 3) := by decide +kernel
theorem own_d8_3 : decode prog_11_method_4_code 3 = .ok (.dup, 1) := by decide +kernel
theorem own_d8_4 : decode prog_11_method_4_code 4 = .ok (.aconst_null, 1) := by decide +kernel
theorem own_d8_5 : decode prog_11_method_4_code 5 = .ok (.aload_n 0, 1) := by decide +kernel
theorem own_d8_6 : decode prog_11_method_4_code 6 = .ok (.aconst_null, 1) := by decide +kernel
theorem own_d8_7 : decode prog_11_method_4_code 7 = .ok (.aload_n 1, 1) := by decide +kernel
theorem own_d8_8 : decode prog_11_method_4_code 8 = .ok (.invokespecial 24, 3) := by decide +kernel
theorem own_d9_0 : decode prog_11_method_1_code 0 = .ok (.aload_n 0, 1) := by decide +kernel
theorem own_d9_1 : decode prog_11_method_1_code 1 = .ok (.invokespecial 1, 3) := by decide +kernel
theorem own_d10_0 : decode jdk_30_method_1_code 0 = .ok (.aload_n 0, 1) := by decide +kernel
theorem own_d10_1 : decode jdk_30_method_1_code 1 = .ok (.invokespecial 1, 3) := by decide +kernel
theorem own_d10_4 : decode jdk_30_method_1_code 4 = .ok (.return_, 1) := by decide +kernel
theorem own_d9_4 : decode prog_11_method_1_code 4 = .ok (.aload_n 0, 1) := by decide +kernel
theorem own_d9_5 : decode prog_11_method_1_code 5 = .ok (.aload_n 1, 1) := by decide +kernel
theorem own_d9_6 : decode prog_11_method_1_code 6 = .ok (.putfield 7, 3) := by decide +kernel
theorem own_d9_9 : decode prog_11_method_1_code 9 = .ok (.aload_n 0, 1) := by decide +kernel
theorem own_d9_10 : decode prog_11_method_1_code 10 = .ok (.aload_n 2, 1) := by decide +kernel
theorem own_d9_11 : decode prog_11_method_1_code 11 = .ok (.putfield 13, 3) := by decide +kernel
theorem own_d9_14 : decode prog_11_method_1_code 14 = .ok (.aload_n 0, 1) := by decide +kernel
theorem own_d9_15 : decode prog_11_method_1_code 15 = .ok (.aload_n 3, 1) := by decide +kernel
theorem own_d9_16 : decode prog_11_method_1_code 16 = .ok (.putfield 17, 3) := by decide +kernel
theorem own_d9_19 : decode prog_11_method_1_code 19 = .ok (.aload_n 0, 1) := by decide +kernel
theorem own_d9_20 : decode prog_11_method_1_code 20 = .ok (.aload 4, 2) := by decide +kernel
theorem own_d9_22 : decode prog_11_method_1_code 22 = .ok (.putfield 21, 3) := by decide +kernel
theorem own_d9_25 : decode prog_11_method_1_code 25 = .ok (.return_, 1) := by decide +kernel
theorem own_d8_11 : decode prog_11_method_4_code 11 = .ok (.areturn, 1) := by decide +kernel
theorem own_d11_0 : decode prog_11_method_9_code 0 = .ok (.aload_n 0, 1) := by decide +kernel
theorem own_d11_1 : decode prog_11_method_9_code 1 = .ok (.getfield 7, 3) := by decide +kernel
theorem own_d11_4 : decode prog_11_method_9_code 4 = .ok (.areturn, 1) := by decide +kernel
theorem own_d12_0 : decode prog_11_method_11_code 0 = .ok (.aload_n 0, 1) := by decide +kernel
theorem own_d12_1 : decode prog_11_method_11_code 1 = .ok (.getfield 17, 3) := by decide +kernel
theorem own_d12_4 : decode prog_11_method_11_code 4 = .ok (.areturn, 1) := by decide +kernel
theorem own_d13_0 : decode prog_11_method_10_code 0 = .ok (.aload_n 0, 1) := by decide +kernel
theorem own_d13_1 : decode prog_11_method_10_code 1 = .ok (.getfield 13, 3) := by decide +kernel
theorem own_d13_4 : decode prog_11_method_10_code 4 = .ok (.areturn, 1) := by decide +kernel
theorem own_d14_0 : decode prog_11_method_12_code 0 = .ok (.aload_n 0, 1) := by decide +kernel
theorem own_d14_1 : decode prog_11_method_12_code 1 = .ok (.getfield 21, 3) := by decide +kernel
theorem own_d14_4 : decode prog_11_method_12_code 4 = .ok (.areturn, 1) := by decide +kernel
def own_lay0 : List (String × String × String) := [("java/lang/String", "coder", "B"), ("java/lang/String", "value", "[B")]
theorem own_lay0_ok {Z : State} {a0 : Array Value} (hw : ∀ d ∈ tables_1, d.before a0 Z = true) : own_LayOk Z a0 "java/lang/String" own_lay0 := ⟨by decide +kernel, (own_allS ⟨Or.inr (own_w hw 31 rfl), ⟨.byte, by decide +kernel⟩⟩ (own_allS ⟨Or.inr (own_w hw 33 rfl), ⟨(.array .byte), by decide +kernel⟩⟩ own_nil))⟩
theorem own_lay0_df : own_lay0.map own_dflt = [(.int (0 : Int32)), .null] := by first | rfl | decide +kernel
def own_lay1 : List (String × String × String) := [("com/example/valet3/valet3/core/AuthorizeAnswer", "refusal", "Lcom/example/valet3/valet3/core/AuthorizeRefusal;"), ("com/example/valet3/valet3/core/AuthorizeAnswer", "location", "Ljava/lang/String;"), ("com/example/valet3/valet3/core/AuthorizeAnswer", "prompt", "Lcom/example/valet3/valet3/core/Prompt;"), ("com/example/valet3/valet3/core/AuthorizeAnswer", "newSession", "Ljava/lang/String;")]
theorem own_lay1_ok {Z : State} {a0 : Array Value} (hw : ∀ d ∈ tables_1, d.before a0 Z = true) : own_LayOk Z a0 "com/example/valet3/valet3/core/AuthorizeAnswer" own_lay1 := ⟨by decide +kernel, (own_allS ⟨Or.inr (own_w hw 50 rfl), ⟨(.object "com/example/valet3/valet3/core/AuthorizeRefusal"), by decide +kernel⟩⟩ (own_allS ⟨Or.inr (own_w hw 52 rfl), ⟨(.object "java/lang/String"), by decide +kernel⟩⟩ (own_allS ⟨Or.inr (own_w hw 54 rfl), ⟨(.object "com/example/valet3/valet3/core/Prompt"), by decide +kernel⟩⟩ (own_allS ⟨Or.inr (own_w hw 56 rfl), ⟨(.object "java/lang/String"), by decide +kernel⟩⟩ own_nil))))⟩
theorem own_lay1_df : own_lay1.map own_dflt = [.null, .null, .null, .null] := by first | rfl | decide +kernel
def own_St (Z : State) (cs : Int32) : Prop := Sta Z Z.heap "java/lang/String" "COMPACT_STRINGS" "Z" (.int cs) ∧ ¬ cs = 0
theorem own_EL {Z : State} {a0 : Array Value} (hw : ∀ d ∈ tables_1, d.before a0 Z = true) : EW Z a0 consts_1 := EW.cons (text := "") (own_w hw 77 rfl) (by simp) EW.nil
theorem own_wS {Z : State} {a0 : Array Value} (hw : ∀ d ∈ tables_1, d.before a0 Z = true) : ∀ a ∈ Bundle.stringAtoms, a.before a0 Z = true := by
  intro a ha
  simp only [Bundle.stringAtoms, List.mem_cons, List.not_mem_nil, or_false] at ha
  rcases ha with rfl | rfl | rfl | rfl | rfl | rfl | rfl
  · exact (own_w hw 6 rfl)
  · exact (own_w hw 5 rfl)
  · exact (own_w hw 23 rfl)
  · exact (own_w hw 33 rfl)
  · exact (own_w hw 31 rfl)
  · exact (own_w hw 78 rfl)
  · exact (own_w hw 79 rfl)
theorem own_cs {Z : State} {a0 : Array Value} {C f d : String} (h0 : (Cond.initializedFor C f d).before a0 Z = true) (h1 : (Cond.isInt (.static C f d)).value a0 Z none Z [] = some true) (h2 : (Cond.not (Cond.eq (.static C f d) (.int 0))).value a0 Z none Z [] = some true) : ∃ cs : Int32, Sta Z Z.heap C f d (.int cs) ∧ ¬ cs = 0 := by
  obtain ⟨z, e1⟩ := is_v h1
  refine ⟨z, Sta.start e1 (Or.inl h0), fun q => ?_⟩
  subst q
  revert e1 h2
  generalize Term.static C f d = t
  intro h2 e1
  simp [Cond.value, e1, Term.eval] at h2
set_option maxHeartbeats 2000000 in
theorem own_c1_0 (l : Launch) {Z : State} {a0 : Array Value} (hw : ∀ d ∈ tables_1, d.before a0 Z = true) {n0 : Nat} {h : Heap} {cs : Int32} (S : own_St Z cs) (z0 : n0 ≤ h.size) (old : Old Z n0 h) (y0 : Int32) (y1 : Int32) (y2 : Int32) (rq0 : ¬ (y0 &&& (1 : Int32)) = (0 : Int32)) :
    own_Met l Z (⟨"com/example/valet3/valet3/core/AuthorizeAnswerRedirectPinLaw", "draw", "(III)Ljava/lang/String;"⟩ : MethodName) method_2_code 3 (some (.object "java/lang/String")) [] ({ frames := 5, cells := 6, slots := 12, locals := 90 } : Room) n0 #[(.int y0), (.int y1), (.int y2)] h (own_pure .null h) := by
  refine own_met (Ls := #[.val (.int y0), .val (.int y1), .val (.int y2)]) (by first | exact plainFor_of_name (by first | (simp [plainName, overriddenIn]; done) | decide +kernel) | decide +kernel) rfl ?_
  intro p e s m below meth c C
  refine own_iloadN C own_d1_0 rfl (pc' := 1) rfl ?_
  refine own_iconst C (v := (1 : Int32)) own_d1_1 (by decide) (pc' := 2) rfl ?_
  refine own_iand C own_d1_2 rfl (pc' := 3) rfl ?_
  refine own_ifN C own_d1_3 ((if0 _ _).trans (feq rq0).1) (pc' := 6) rfl ?_
  refine own_aconst_null C own_d1_6 (pc' := 7) rfl ?_
  exact own_areturn C rfl rfl own_d1_7 (by decide) (by decide) ⟨rfl, rfl⟩
set_option maxHeartbeats 2000000 in
theorem own_c6_1 (l : Launch) {Z : State} {a0 : Array Value} (hw : ∀ d ∈ tables_1, d.before a0 Z = true) {n0 : Nat} {h : Heap} {cs : Int32} (S : own_St Z cs) (z0 : n0 ≤ h.size) (old : Old Z n0 h) (y0 : Int32) (y1 : Int32) (p0 : Nat) (p1 : Nat) (o_p0 : own_Ar Z h p0 .char "[C" "" [(.int y0), (.int y1)]) (o_p1 : own_Ar Z h p1 .byte "[B" "" [(.int (0 : Int32)), (.int (0 : Int32))]) (ne_p0_p1 : p0 ≠ p1) (g_p1 : n0 ≤ p1) (rq0 : ¬ (255 : Int32) < y0) (rq1 : ¬ (255 : Int32) < y1) :
    own_Met l Z (⟨"java/lang/StringUTF16", "compress", "([CI[BII)I"⟩ : MethodName) jdk_52_method_21_code 7 (some .int) [] ({ frames := 0, cells := 0, slots := 0, locals := 0 } : Room) n0 #[(.ref p0), (.int (0 : Int32)), (.ref p1), (.int (0 : Int32)), (.int (2 : Int32))] h (own_val fun w h' => w = (.int (2 : Int32)) ∧ Keep h h' [p1] ∧ own_Ar Z h' p1 .byte "[B" "" [(.int (nar .byte (y0.toInt8.toInt32))), (.int (nar .byte (y1.toInt8.toInt32)))]) := by
  refine own_met (Ls := #[.val (.ref p0), .val (.int (0 : Int32)), .val (.ref p1), .val (.int (0 : Int32)), .val (.int (2 : Int32)), .unset, .unset]) (by first | exact plainFor_of_name (by first | (simp [plainName, overriddenIn]; done) | decide +kernel) | decide +kernel) rfl ?_
  intro p e s m below meth c C
  refine own_iconst C (v := (0 : Int32)) own_d6_0 (by decide) (pc' := 1) rfl ?_
  refine own_istore C (Ls' := #[.val (.ref p0), .val (.int (0 : Int32)), .val (.ref p1), .val (.int (0 : Int32)), .val (.int (2 : Int32)), .val (.int (0 : Int32)), .unset]) own_d6_1 rfl (pc' := 3) rfl ?_
  refine own_iload C own_d6_3 rfl (pc' := 5) rfl ?_
  refine own_iload C own_d6_5 rfl (pc' := 7) rfl ?_
  refine own_icmpN C own_d6_7 (by decide) (pc' := 10) rfl ?_
  refine own_aloadN C own_d6_10 rfl rfl (pc' := 11) rfl ?_
  refine own_iloadN C own_d6_11 rfl (pc' := 12) rfl ?_
  refine own_caload C o_p0 (by decide) (v := (.int y0)) (by rfl) own_d6_12 (pc' := 13) rfl ?_
  refine own_istore C (Ls' := #[.val (.ref p0), .val (.int (0 : Int32)), .val (.ref p1), .val (.int (0 : Int32)), .val (.int (2 : Int32)), .val (.int (0 : Int32)), .val (.int y0)]) own_d6_13 rfl (pc' := 15) rfl ?_
  refine own_iload C own_d6_15 rfl (pc' := 17) rfl ?_
  refine own_sipush C (v := (255 : Int32)) own_d6_17 (by decide) (pc' := 20) rfl ?_
  refine own_icmpY C own_d6_20 (flt rq0).2.2.2 (by decide) (pc' := 26) (by decide) ?_
  refine own_aloadN C own_d6_26 rfl rfl (pc' := 27) rfl ?_
  refine own_iloadN C own_d6_27 rfl (pc' := 28) rfl ?_
  refine own_iload C own_d6_28 rfl (pc' := 30) rfl ?_
  refine own_i2b C (z := (y0.toInt8.toInt32)) own_d6_30 rfl (pc' := 31) rfl ?_
  refine own_bastore C (z := (nar .byte (y0.toInt8.toInt32))) o_p1 (by decide) (of_decide_eq_true rfl) rfl (vs' := [(.int (nar .byte (y0.toInt8.toInt32))), (.int (0 : Int32))]) (by rfl) g_p1 own_d6_31 (pc' := 32) rfl ?_
  intro h1 W1 o_p1_1
  have s1 : h1.size = h.size := W1.size
  have k1 : Keep h h1 [p1] := (Keep.refl h [p1]).wr W1 (Or.inl (by simp))
  refine own_iinc C (w := (1 : Int32)) (Ls' := #[.val (.ref p0), .val (.int (1 : Int32)), .val (.ref p1), .val (.int (0 : Int32)), .val (.int (2 : Int32)), .val (.int (0 : Int32)), .val (.int y0)]) own_d6_32 rfl (by decide) rfl (pc' := 35) rfl ?_
  refine own_iinc C (w := (1 : Int32)) (Ls' := #[.val (.ref p0), .val (.int (1 : Int32)), .val (.ref p1), .val (.int (1 : Int32)), .val (.int (2 : Int32)), .val (.int (0 : Int32)), .val (.int y0)]) own_d6_35 rfl (by decide) rfl (pc' := 38) rfl ?_
  refine own_iinc C (w := (1 : Int32)) (Ls' := #[.val (.ref p0), .val (.int (1 : Int32)), .val (.ref p1), .val (.int (1 : Int32)), .val (.int (2 : Int32)), .val (.int (1 : Int32)), .val (.int y0)]) own_d6_38 rfl (by decide) rfl (pc' := 41) rfl ?_
  refine own_goto C own_d6_41 (by decide) (pc' := 3) (by decide) ?_
  refine own_iload C own_d6_3 rfl (pc' := 5) rfl ?_
  refine own_iload C own_d6_5 rfl (pc' := 7) rfl ?_
  refine own_icmpN C own_d6_7 (by decide) (pc' := 10) rfl ?_
  refine own_aloadN C own_d6_10 rfl rfl (pc' := 11) rfl ?_
  refine own_iloadN C own_d6_11 rfl (pc' := 12) rfl ?_
  have o_p0_1 := (o_p0.other W1 ne_p0_p1)
  refine own_caload C o_p0_1 (by decide) (v := (.int y1)) (by rfl) own_d6_12 (pc' := 13) rfl ?_
  refine own_istore C (Ls' := #[.val (.ref p0), .val (.int (1 : Int32)), .val (.ref p1), .val (.int (1 : Int32)), .val (.int (2 : Int32)), .val (.int (1 : Int32)), .val (.int y1)]) own_d6_13 rfl (pc' := 15) rfl ?_
  refine own_iload C own_d6_15 rfl (pc' := 17) rfl ?_
  refine own_sipush C (v := (255 : Int32)) own_d6_17 (by decide) (pc' := 20) rfl ?_
  refine own_icmpY C own_d6_20 (flt rq1).2.2.2 (by decide) (pc' := 26) (by decide) ?_
  refine own_aloadN C own_d6_26 rfl rfl (pc' := 27) rfl ?_
  refine own_iloadN C own_d6_27 rfl (pc' := 28) rfl ?_
  refine own_iload C own_d6_28 rfl (pc' := 30) rfl ?_
  refine own_i2b C (z := (y1.toInt8.toInt32)) own_d6_30 rfl (pc' := 31) rfl ?_
  refine own_bastore C (z := (nar .byte (y1.toInt8.toInt32))) o_p1_1 (by decide) (of_decide_eq_true rfl) rfl (vs' := [(.int (nar .byte (y0.toInt8.toInt32))), (.int (nar .byte (y1.toInt8.toInt32)))]) (by rfl) g_p1 own_d6_31 (pc' := 32) rfl ?_
  intro h2 W2 o_p1_2
  have s2 : h2.size = h1.size := W2.size
  have k2 : Keep h h2 [p1] := k1.wr W2 (Or.inl (by simp))
  refine own_iinc C (w := (2 : Int32)) (Ls' := #[.val (.ref p0), .val (.int (2 : Int32)), .val (.ref p1), .val (.int (1 : Int32)), .val (.int (2 : Int32)), .val (.int (1 : Int32)), .val (.int y1)]) own_d6_32 rfl (by decide) rfl (pc' := 35) rfl ?_
  refine own_iinc C (w := (2 : Int32)) (Ls' := #[.val (.ref p0), .val (.int (2 : Int32)), .val (.ref p1), .val (.int (2 : Int32)), .val (.int (2 : Int32)), .val (.int (1 : Int32)), .val (.int y1)]) own_d6_35 rfl (by decide) rfl (pc' := 38) rfl ?_
  refine own_iinc C (w := (2 : Int32)) (Ls' := #[.val (.ref p0), .val (.int (2 : Int32)), .val (.ref p1), .val (.int (2 : Int32)), .val (.int (2 : Int32)), .val (.int (2 : Int32)), .val (.int y1)]) own_d6_38 rfl (by decide) rfl (pc' := 41) rfl ?_
  refine own_goto C own_d6_41 (by decide) (pc' := 3) (by decide) ?_
  refine own_iload C own_d6_3 rfl (pc' := 5) rfl ?_
  refine own_iload C own_d6_5 rfl (pc' := 7) rfl ?_
  refine own_icmpY C own_d6_7 (by decide) (by decide) (pc' := 44) (by decide) ?_
  refine own_iload C own_d6_44 rfl (pc' := 46) rfl ?_
  exact own_ireturn C (Or.inl rfl) rfl own_d6_46 (by decide) (by decide) ⟨_, rfl, rfl, k2, o_p1_2⟩
set_option maxHeartbeats 2000000 in
theorem own_c5_2 (l : Launch) {Z : State} {a0 : Array Value} (hw : ∀ d ∈ tables_1, d.before a0 Z = true) {n0 : Nat} {h : Heap} {cs : Int32} (S : own_St Z cs) (z0 : n0 ≤ h.size) (old : Old Z n0 h) (y0 : Int32) (y1 : Int32) (p0 : Nat) (o_p0 : own_Ar Z h p0 .char "[C" "" [(.int y0), (.int y1)]) (rq0 : ¬ (255 : Int32) < y0) (rq1 : ¬ (255 : Int32) < y1) :
    own_Met l Z (⟨"java/lang/StringUTF16", "compress", "([CII)[B"⟩ : MethodName) jdk_52_method_16_code 6 (some (.array .byte)) [] ({ frames := 1, cells := 1, slots := 2, locals := 18 } : Room) n0 #[(.ref p0), (.int (0 : Int32)), (.int (2 : Int32))] h (own_val fun w h' => ∃ b1 : Nat, w = (.ref b1) ∧ Keep h h' [] ∧ h.size ≤ b1 ∧ b1 < h'.size ∧ own_Ar Z h' b1 .byte "[B" "" [(.int (nar .byte (y0.toInt8.toInt32))), (.int (nar .byte (y1.toInt8.toInt32)))]) := by
  have lt_p0 := o_p0.lt
  refine own_met (Ls := #[.val (.ref p0), .val (.int (0 : Int32)), .val (.int (2 : Int32)), .unset, .unset, .unset]) (by first | exact plainFor_of_name (by first | (simp [plainName, overriddenIn]; done) | decide +kernel) | decide +kernel) rfl ?_
  intro p e s m below meth c C
  refine own_iloadN C own_d5_0 rfl (pc' := 1) rfl ?_
  refine own_newarray C (aty := .byte) (own_w hw 23 rfl) (by decide) (cap := 2) (by decide) (by decide) (ad := "[B") (by decide +kernel) (vs := [(.int (0 : Int32)), (.int (0 : Int32))]) (by rfl) own_d5_1 (by decide) (by decide) (pc' := 3) rfl ?_
  intro h1 b1 g1 E1 o_b1
  have s1 : h.size ≤ h1.size := E1.1
  have k1 : Keep h h1 [] := (Keep.refl h []).ext E1
  have o_b1 : own_Ar Z h1 b1 .byte "[B" "" [(.int (0 : Int32)), (.int (0 : Int32))] := o_b1
  have t1 := o_b1.lt
  refine own_astoreN C (Ls' := #[.val (.ref p0), .val (.int (0 : Int32)), .val (.int (2 : Int32)), .val (.ref b1), .unset, .unset]) own_d5_3 rfl rfl (pc' := 4) rfl ?_
  refine own_aloadN C own_d5_4 rfl rfl (pc' := 5) rfl ?_
  refine own_iloadN C own_d5_5 rfl (pc' := 6) rfl ?_
  refine own_aloadN C own_d5_6 rfl rfl (pc' := 7) rfl ?_
  refine own_iconst C (v := (0 : Int32)) own_d5_7 (by decide) (pc' := 8) rfl ?_
  refine own_iloadN C own_d5_8 rfl (pc' := 9) rfl ?_
  have zz1 : n0 ≤ h1.size := by omega
  have o_p0_1 := (o_p0.ext E1)
  have old1 := (old.ext E1)
  have n_p0_b1 : (p0 : Nat) ≠ b1 := by omega
  have e_b1 : n0 ≤ (b1 : Nat) := by omega
  refine own_callS C (own_c6_1 l hw S zz1 old1 y0 y1 p0 b1 o_p0_1 o_b1 n_p0_b1 e_b1 rq0 rq1) (own_w hw 24 rfl) (own_w hw 25 rfl) (own_w hw 21 rfl) (own_w hw 26 rfl) (by decide) own_d5_9 rfl (argsL := [(.ref p0), (.int (0 : Int32)), (.ref b1), (.int (0 : Int32)), (.int (2 : Int32))]) (rest := []) rfl (lenOf own_pd2 rfl) (W := 0) (Nat.le_of_eq rfl) (by decide) (by decide) (by decide) (by decide) (pc' := 12) rfl ?_
  rintro _ h2 ⟨rfl, K2, o_b1_2⟩
  have s2 : h1.size ≤ h2.size := K2.1
  have q_b1 : h.size ≤ (b1 : Nat) := by omega
  have k2 : Keep h h2 [] := k1.trans K2 (allS (Or.inr q_b1) all0)
  refine own_istore C (Ls' := #[.val (.ref p0), .val (.int (0 : Int32)), .val (.int (2 : Int32)), .val (.ref b1), .val (.int (2 : Int32)), .unset]) own_d5_12 rfl (pc' := 14) rfl ?_
  refine own_iload C own_d5_14 rfl (pc' := 16) rfl ?_
  refine own_iloadN C own_d5_16 rfl (pc' := 17) rfl ?_
  refine own_icmpY C own_d5_17 (by decide) (by decide) (pc' := 57) (by decide) ?_
  refine own_aloadN C own_d5_57 rfl rfl (pc' := 58) rfl ?_
  exact own_areturn C rfl rfl own_d5_58 (by decide) (by decide) ⟨_, rfl, b1, rfl, k2, by omega, by omega, o_b1_2⟩
set_option maxHeartbeats 2000000 in
theorem own_c7_3 (l : Launch) {Z : State} {a0 : Array Value} (hw : ∀ d ∈ tables_1, d.before a0 Z = true) {n0 : Nat} {h : Heap} {cs : Int32} (S : own_St Z cs) (z0 : n0 ≤ h.size) (old : Old Z n0 h) (y0 : Int32) (y1 : Int32) (p0 : Nat) (o_p0 : own_Ar Z h p0 .byte "[B" "" [(.int y0), (.int y1)]) :
    own_Met l Z (⟨"java/lang/StringUTF16", "coderFromArrayLen", "([BI)B"⟩ : MethodName) jdk_52_method_15_code 2 (some .byte) [] ({ frames := 0, cells := 0, slots := 0, locals := 0 } : Room) n0 #[(.ref p0), (.int (2 : Int32))] h (own_pure (.int (0 : Int32)) h) := by
  refine own_met (Ls := #[.val (.ref p0), .val (.int (2 : Int32))]) (by first | exact plainFor_of_name (by first | (simp [plainName, overriddenIn]; done) | decide +kernel) | decide +kernel) rfl ?_
  intro p e s m below meth c C
  refine own_iloadN C own_d7_0 rfl (pc' := 1) rfl ?_
  refine own_aloadN C own_d7_1 rfl rfl (pc' := 2) rfl ?_
  refine own_arraylength C (z := (2 : Int32)) o_p0 (by rfl) own_d7_2 (pc' := 3) rfl ?_
  refine own_isub C (z := (0 : Int32)) own_d7_3 (by decide) (pc' := 4) rfl ?_
  refine own_bipush C (v := (31 : Int32)) own_d7_4 (by decide) (pc' := 6) rfl ?_
  refine own_iushr C (z := (0 : Int32)) own_d7_6 (by decide) (pc' := 7) rfl ?_
  refine own_i2b C (z := (0 : Int32)) own_d7_7 (by decide) (pc' := 8) rfl ?_
  exact own_ireturn C (by simp) rfl own_d7_8 (by decide) (by decide) ⟨rfl, rfl⟩
set_option maxHeartbeats 2000000 in
theorem own_c3_4 (l : Launch) {Z : State} {a0 : Array Value} (hw : ∀ d ∈ tables_1, d.before a0 Z = true) {n0 : Nat} {h : Heap} {cs : Int32} (S : own_St Z cs) (z0 : n0 ≤ h.size) (old : Old Z n0 h) (y0 : Int32) (y1 : Int32) (p0 : Nat) (p1 : Nat) (o_p1 : own_Ar Z h p1 .char "[C" "" [(.int y0), (.int y1)]) (o_p0 : own_Ob Z h p0 "java/lang/String" own_lay0 [(.int (0 : Int32)), .null]) (g_p0 : n0 ≤ p0) (rq0 : ¬ (255 : Int32) < y0) (rq1 : ¬ (255 : Int32) < y1) :
    own_Met l Z (⟨"java/lang/String", "<init>", "([CIILjava/lang/Void;)V"⟩ : MethodName) jdk_42_method_149_code 6 none [] ({ frames := 2, cells := 1, slots := 2, locals := 35 } : Room) n0 #[(.ref p0), (.ref p1), (.int (0 : Int32)), (.int (2 : Int32)), .null] h (own_nov fun h' => ∃ b1_0 : Nat, Keep h h' [p0] ∧ h.size ≤ b1_0 ∧ b1_0 < h'.size ∧ own_Ob Z h' p0 "java/lang/String" own_lay0 [(.int (0 : Int32)), (.ref b1_0)] ∧ own_Ar Z h' b1_0 .byte "[B" "" [(.int (nar .byte (y0.toInt8.toInt32))), (.int (nar .byte (y1.toInt8.toInt32)))]) := by
  have lt_p1 := o_p1.lt
  have lt_p0 := o_p0.lt
  refine own_met (Ls := #[.val (.ref p0), .val (.ref p1), .val (.int (0 : Int32)), .val (.int (2 : Int32)), .val .null, .unset]) (by first | exact plainFor_of_name (by first | (simp [plainName, overriddenIn]; done) | decide +kernel) | decide +kernel) rfl ?_
  intro p e s m below meth c C
  refine own_aloadN C own_d3_0 rfl rfl (pc' := 1) rfl ?_
  refine own_init0 C (own_w hw 15 rfl) (own_w hw 16 rfl) (own_w hw 17 rfl) own_d3_1 rfl (W := 0) (Nat.le_of_eq rfl) (by decide) (by decide) (pc' := 4) rfl ?_
  refine own_iloadN C own_d3_4 rfl (pc' := 5) rfl ?_
  refine own_ifY C own_d3_5 (by decide) (by decide) (pc' := 27) (by decide) ?_
  refine own_getstatic C (own_w hw 18 rfl) (S.1.ext old.2) own_d3_27 (pc' := 30) rfl ?_
  refine own_ifN C own_d3_30 ((if0 _ _).trans (feq S.2).1) (pc' := 33) rfl ?_
  refine own_aloadN C own_d3_33 rfl rfl (pc' := 34) rfl ?_
  refine own_iloadN C own_d3_34 rfl (pc' := 35) rfl ?_
  refine own_iloadN C own_d3_35 rfl (pc' := 36) rfl ?_
  refine own_callS C (own_c5_2 l hw S z0 old y0 y1 p1 o_p1 rq0 rq1) (own_w hw 19 rfl) (own_w hw 20 rfl) (own_w hw 21 rfl) (own_w hw 22 rfl) (by decide) own_d3_36 rfl (argsL := [(.ref p1), (.int (0 : Int32)), (.int (2 : Int32))]) (rest := []) rfl (lenOf own_pd3 rfl) (W := 0) (Nat.le_of_eq rfl) (by decide) (by decide) (by decide) (by decide) (pc' := 39) rfl ?_
  rintro _ h1 ⟨b1_0, rfl, K1, l1_0, l1_1, o_b1_0_1⟩
  have s1 : h.size ≤ h1.size := K1.1
  have k1 : Keep h h1 [p0] := (Keep.refl h [p0]).trans K1 all0
  refine own_astore C (Ls' := #[.val (.ref p0), .val (.ref p1), .val (.int (0 : Int32)), .val (.int (2 : Int32)), .val .null, .val (.ref b1_0)]) own_d3_39 rfl rfl (pc' := 41) rfl ?_
  refine own_aloadN C own_d3_41 rfl rfl (pc' := 42) rfl ?_
  refine own_aload C own_d3_42 rfl rfl (pc' := 44) rfl ?_
  refine own_iloadN C own_d3_44 rfl (pc' := 45) rfl ?_
  have zz1 : n0 ≤ h1.size := by omega
  have old1 := (old.keep K1 all0)
  refine own_callSp C (own_c7_3 l hw S zz1 old1 (nar .byte (y0.toInt8.toInt32)) (nar .byte (y1.toInt8.toInt32)) b1_0 o_b1_0_1) (own_w hw 27 rfl) (own_w hw 28 rfl) (own_w hw 21 rfl) (own_w hw 29 rfl) (by decide) own_d3_45 rfl (argsL := [(.ref b1_0), (.int (2 : Int32))]) (rest := [(.ref p0)]) rfl (lenOf own_pd4 rfl) (W := 1) (Nat.le_of_eq rfl) (by decide) (by decide) (by decide) (by decide) (by decide) (by decide) (pc' := 48) rfl ?_
  have o_p0_1 := (o_p0.keep K1 nin0)
  refine own_putO C (own_w hw 30 rfl) Via.refl o_p0_1 (own_lay0_ok hw) 0 rfl (vs' := [(.int (0 : Int32)), .null]) rfl (Or.inr ⟨(own_w hw 31 rfl), rfl, rfl⟩) (own_w hw 5 rfl) (ty := .byte) (by decide) (by first | rfl | decide) (by first | rfl | decide) g_p0 own_d3_48 (pc' := 51) rfl ?_
  intro h2 W2 o_p0_2
  have s2 : h2.size = h1.size := W2.size
  have k2 : Keep h h2 [p0] := k1.wr W2 (Or.inl (by simp))
  refine own_aloadN C own_d3_51 rfl rfl (pc' := 52) rfl ?_
  refine own_aload C own_d3_52 rfl rfl (pc' := 54) rfl ?_
  refine own_putO C (own_w hw 32 rfl) Via.refl o_p0_2 (own_lay0_ok hw) 1 rfl (vs' := [(.int (0 : Int32)), (.ref b1_0)]) rfl (Or.inr ⟨(own_w hw 33 rfl), rfl, rfl⟩) (own_w hw 5 rfl) (ty := (.array .byte)) (by decide) (by first | rfl | decide) (by first | rfl | decide) g_p0 own_d3_54 (pc' := 57) rfl ?_
  intro h3 W3 o_p0_3
  have s3 : h3.size = h2.size := W3.size
  have k3 : Keep h h3 [p0] := k2.wr W3 (Or.inl (by simp))
  have n_b1_0_p0 : (b1_0 : Nat) ≠ p0 := by omega
  have o_b1_0_3 := ((o_b1_0_1.other W2 n_b1_0_p0).other W3 n_b1_0_p0)
  exact own_return C own_d3_57 (by decide) (by decide) ⟨rfl, b1_0, k3, by omega, by omega, o_p0_3, o_b1_0_3⟩
set_option maxHeartbeats 2000000 in
theorem own_c2_5 (l : Launch) {Z : State} {a0 : Array Value} (hw : ∀ d ∈ tables_1, d.before a0 Z = true) {n0 : Nat} {h : Heap} {cs : Int32} (S : own_St Z cs) (z0 : n0 ≤ h.size) (old : Old Z n0 h) (y0 : Int32) (y1 : Int32) (p0 : Nat) (p1 : Nat) (o_p1 : own_Ar Z h p1 .char "[C" "" [(.int y0), (.int y1)]) (o_p0 : own_Ob Z h p0 "java/lang/String" own_lay0 [(.int (0 : Int32)), .null]) (g_p0 : n0 ≤ p0) (rq0 : ¬ (255 : Int32) < y0) (rq1 : ¬ (255 : Int32) < y1) :
    own_Met l Z (⟨"java/lang/String", "<init>", "([C)V"⟩ : MethodName) jdk_42_method_3_code 2 none [] ({ frames := 3, cells := 1, slots := 2, locals := 52 } : Room) n0 #[(.ref p0), (.ref p1)] h (own_nov fun h' => ∃ b1_0 : Nat, Keep h h' [p0] ∧ h.size ≤ b1_0 ∧ b1_0 < h'.size ∧ own_Ob Z h' p0 "java/lang/String" own_lay0 [(.int (0 : Int32)), (.ref b1_0)] ∧ own_Ar Z h' b1_0 .byte "[B" "" [(.int (nar .byte (y0.toInt8.toInt32))), (.int (nar .byte (y1.toInt8.toInt32)))]) := by
  have lt_p1 := o_p1.lt
  have lt_p0 := o_p0.lt
  refine own_met (Ls := #[.val (.ref p0), .val (.ref p1)]) (by first | exact plainFor_of_name (by first | (simp [plainName, overriddenIn]; done) | decide +kernel) | decide +kernel) rfl ?_
  intro p e s m below meth c C
  refine own_aloadN C own_d2_0 rfl rfl (pc' := 1) rfl ?_
  refine own_aloadN C own_d2_1 rfl rfl (pc' := 2) rfl ?_
  refine own_iconst C (v := (0 : Int32)) own_d2_2 (by decide) (pc' := 3) rfl ?_
  refine own_aloadN C own_d2_3 rfl rfl (pc' := 4) rfl ?_
  refine own_arraylength C (z := (2 : Int32)) o_p1 (by rfl) own_d2_4 (pc' := 5) rfl ?_
  refine own_aconst_null C own_d2_5 (pc' := 6) rfl ?_
  refine own_callI C rfl (own_c3_4 l hw S z0 old y0 y1 p0 p1 o_p1 o_p0 g_p0 rq0 rq1) (own_w hw 11 rfl) (own_w hw 12 rfl) (own_w hw 6 rfl) (own_w hw 14 rfl) (by decide) own_d2_6 rfl (argsL := [(.ref p1), (.int (0 : Int32)), (.int (2 : Int32)), .null]) (rest := []) rfl (lenOf own_pd0 rfl) (W := 0) (Nat.le_of_eq rfl) (by decide) (by decide) (by decide) (by decide) (pc' := 9) rfl ?_
  rintro h1 ⟨b1_0, K1, l1_0, l1_1, o_p0_1, o_b1_0_1⟩
  have s1 : h.size ≤ h1.size := K1.1
  have k1 : Keep h h1 [p0] := (Keep.refl h [p0]).trans K1 (allS (Or.inl (by simp)) all0)
  exact own_return C own_d2_9 (by decide) (by decide) ⟨rfl, b1_0, k1, by omega, by omega, o_p0_1, o_b1_0_1⟩
set_option maxHeartbeats 2000000 in
theorem own_c1_6 (l : Launch) {Z : State} {a0 : Array Value} (hw : ∀ d ∈ tables_1, d.before a0 Z = true) {n0 : Nat} {h : Heap} {cs : Int32} (S : own_St Z cs) (z0 : n0 ≤ h.size) (old : Old Z n0 h) (y0 : Int32) (y1 : Int32) (y2 : Int32) (rq0 : (y0 &&& (1 : Int32)) = (0 : Int32)) (rq1 : (y0 &&& (2 : Int32)) = (0 : Int32)) (rq2 : ¬ (255 : Int32) < (nar .char ((y1 &&& (255 : Int32)).toUInt32.toUInt16.toUInt32.toInt32))) (rq3 : ¬ (255 : Int32) < (nar .char ((y2 &&& (255 : Int32)).toUInt32.toUInt16.toUInt32.toInt32))) :
    own_Met l Z (⟨"com/example/valet3/valet3/core/AuthorizeAnswerRedirectPinLaw", "draw", "(III)Ljava/lang/String;"⟩ : MethodName) method_2_code 3 (some (.object "java/lang/String")) [] ({ frames := 5, cells := 6, slots := 12, locals := 90 } : Room) n0 #[(.int y0), (.int y1), (.int y2)] h (own_val fun w h' => ∃ b1 : Nat, w = (.ref b1) ∧ Keep h h' [] ∧ h.size ≤ b1 ∧ b1 < h'.size) := by
  refine own_met (Ls := #[.val (.int y0), .val (.int y1), .val (.int y2)]) (by first | exact plainFor_of_name (by first | (simp [plainName, overriddenIn]; done) | decide +kernel) | decide +kernel) rfl ?_
  intro p e s m below meth c C
  refine own_iloadN C own_d1_0 rfl (pc' := 1) rfl ?_
  refine own_iconst C (v := (1 : Int32)) own_d1_1 (by decide) (pc' := 2) rfl ?_
  refine own_iand C own_d1_2 rfl (pc' := 3) rfl ?_
  refine own_ifY C own_d1_3 ((if0 _ _).trans (teq rq0).1) (by decide) (pc' := 8) (by decide) ?_
  refine own_iloadN C own_d1_8 rfl (pc' := 9) rfl ?_
  refine own_iconst C (v := (2 : Int32)) own_d1_9 (by decide) (pc' := 10) rfl ?_
  refine own_iand C own_d1_10 rfl (pc' := 11) rfl ?_
  refine own_ifY C own_d1_11 ((if0 _ _).trans (teq rq1).1) (by decide) (pc' := 25) (by decide) ?_
  refine own_newO C (own_w hw 4 rfl) (own_w hw 5 rfl) (own_w hw 6 rfl) (own_lay0_ok hw) own_lay0_df own_d1_25 (by decide) (by decide) (pc' := 28) rfl ?_
  intro h1 b1 g1 E1 o_b1
  have s1 : h.size ≤ h1.size := E1.1
  have k1 : Keep h h1 [] := (Keep.refl h []).ext E1
  have t1 := o_b1.lt
  refine own_dup C own_d1_28 rfl (pc' := 29) rfl ?_
  refine own_iconst C (v := (2 : Int32)) own_d1_29 (by decide) (pc' := 30) rfl ?_
  refine own_newarray C (aty := .char) (own_w hw 7 rfl) (by decide) (cap := 2) (by decide) (by decide) (ad := "[C") (by decide +kernel) (vs := [(.int (0 : Int32)), (.int (0 : Int32))]) (by rfl) own_d1_30 (by decide) (by decide) (pc' := 32) rfl ?_
  intro h2 b2 g2 E2 o_b2
  have s2 : h1.size ≤ h2.size := E2.1
  have k2 : Keep h h2 [] := k1.ext E2
  have o_b2 : own_Ar Z h2 b2 .char "[C" "" [(.int (0 : Int32)), (.int (0 : Int32))] := o_b2
  have t2 := o_b2.lt
  refine own_dup C own_d1_32 rfl (pc' := 33) rfl ?_
  refine own_iconst C (v := (0 : Int32)) own_d1_33 (by decide) (pc' := 34) rfl ?_
  refine own_iloadN C own_d1_34 rfl (pc' := 35) rfl ?_
  refine own_sipush C (v := (255 : Int32)) own_d1_35 (by decide) (pc' := 38) rfl ?_
  refine own_iand C own_d1_38 rfl (pc' := 39) rfl ?_
  refine own_i2c C (z := ((y1 &&& (255 : Int32)).toUInt32.toUInt16.toUInt32.toInt32)) own_d1_39 rfl (pc' := 40) rfl ?_
  have e_b2 : n0 ≤ (b2 : Nat) := by omega
  refine own_castore C (z := (nar .char ((y1 &&& (255 : Int32)).toUInt32.toUInt16.toUInt32.toInt32))) o_b2 (by decide) (of_decide_eq_true rfl) rfl (vs' := [(.int (nar .char ((y1 &&& (255 : Int32)).toUInt32.toUInt16.toUInt32.toInt32))), (.int (0 : Int32))]) (by rfl) e_b2 own_d1_40 (pc' := 41) rfl ?_
  intro h3 W3 o_b2_3
  have s3 : h3.size = h2.size := W3.size
  have q_b2 : h.size ≤ (b2 : Nat) := by omega
  have k3 : Keep h h3 [] := k2.wr W3 (Or.inr q_b2)
  refine own_dup C own_d1_41 rfl (pc' := 42) rfl ?_
  refine own_iconst C (v := (1 : Int32)) own_d1_42 (by decide) (pc' := 43) rfl ?_
  refine own_iloadN C own_d1_43 rfl (pc' := 44) rfl ?_
  refine own_sipush C (v := (255 : Int32)) own_d1_44 (by decide) (pc' := 47) rfl ?_
  refine own_iand C own_d1_47 rfl (pc' := 48) rfl ?_
  refine own_i2c C (z := ((y2 &&& (255 : Int32)).toUInt32.toUInt16.toUInt32.toInt32)) own_d1_48 rfl (pc' := 49) rfl ?_
  refine own_castore C (z := (nar .char ((y2 &&& (255 : Int32)).toUInt32.toUInt16.toUInt32.toInt32))) o_b2_3 (by decide) (of_decide_eq_true rfl) rfl (vs' := [(.int (nar .char ((y1 &&& (255 : Int32)).toUInt32.toUInt16.toUInt32.toInt32))), (.int (nar .char ((y2 &&& (255 : Int32)).toUInt32.toUInt16.toUInt32.toInt32)))]) (by rfl) e_b2 own_d1_49 (pc' := 50) rfl ?_
  intro h4 W4 o_b2_4
  have s4 : h4.size = h3.size := W4.size
  have k4 : Keep h h4 [] := k3.wr W4 (Or.inr q_b2)
  have zz4 : n0 ≤ h4.size := by omega
  have n_b1_b2 : (b1 : Nat) ≠ b2 := by omega
  have o_b1_4 := (((o_b1.ext E2).other W3 n_b1_b2).other W4 n_b1_b2)
  have old4 := ((((old.ext E1).ext E2).wr W3 e_b2).wr W4 e_b2)
  have e_b1 : n0 ≤ (b1 : Nat) := by omega
  refine own_callI C rfl (own_c2_5 l hw S zz4 old4 (nar .char ((y1 &&& (255 : Int32)).toUInt32.toUInt16.toUInt32.toInt32)) (nar .char ((y2 &&& (255 : Int32)).toUInt32.toUInt16.toUInt32.toInt32)) b1 b2 o_b2_4 o_b1_4 e_b1 rq2 rq3) (own_w hw 8 rfl) (own_w hw 9 rfl) (own_w hw 6 rfl) (own_w hw 10 rfl) (by decide) own_d1_50 rfl (argsL := [(.ref b2)]) (rest := [(.ref b1)]) rfl (lenOf own_pd1 rfl) (W := 1) (Nat.le_of_eq rfl) (by decide) (by decide) (by decide) (by decide) (pc' := 53) rfl ?_
  rintro h5 ⟨b5_0, K5, l5_0, l5_1, o_b1_5, o_b5_0_5⟩
  have s5 : h4.size ≤ h5.size := K5.1
  have q_b1 : h.size ≤ (b1 : Nat) := by omega
  have k5 : Keep h h5 [] := k4.trans K5 (allS (Or.inr q_b1) all0)
  exact own_areturn C rfl rfl own_d1_53 (by decide) (by decide) ⟨_, rfl, b1, rfl, k5, by omega, by omega⟩
set_option maxHeartbeats 2000000 in
theorem own_c10_7 (l : Launch) {Z : State} {a0 : Array Value} (hw : ∀ d ∈ tables_1, d.before a0 Z = true) {n0 : Nat} {h : Heap} {cs : Int32} (S : own_St Z cs) (z0 : n0 ≤ h.size) (old : Old Z n0 h) (p0 : Nat) :
    own_Met l Z (⟨"java/lang/Record", "<init>", "()V"⟩ : MethodName) jdk_30_method_1_code 1 none [] ({ frames := 1, cells := 0, slots := 0, locals := 12 } : Room) n0 #[(.ref p0)] h (own_nov fun h' => Keep h h' []) := by
  refine own_met (Ls := #[.val (.ref p0)]) (by first | exact plainFor_of_name (by first | (simp [plainName, overriddenIn]; done) | decide +kernel) | decide +kernel) rfl ?_
  intro p e s m below meth c C
  refine own_aloadN C own_d10_0 rfl rfl (pc' := 1) rfl ?_
  refine own_init0 C (own_w hw 48 rfl) (own_w hw 16 rfl) (own_w hw 17 rfl) own_d10_1 rfl (W := 0) (Nat.le_of_eq rfl) (by decide) (by decide) (pc' := 4) rfl ?_
  exact own_return C own_d10_4 (by decide) (by decide) ⟨rfl, (Keep.refl h [])⟩
set_option maxHeartbeats 2000000 in
theorem own_c9_8 (l : Launch) {Z : State} {a0 : Array Value} (hw : ∀ d ∈ tables_1, d.before a0 Z = true) {n0 : Nat} {h : Heap} {cs : Int32} (S : own_St Z cs) (z0 : n0 ≤ h.size) (old : Old Z n0 h) (p0 : Nat) (o_p0 : own_Ob Z h p0 "com/example/valet3/valet3/core/AuthorizeAnswer" own_lay1 [.null, .null, .null, .null]) (g_p0 : n0 ≤ p0) :
    own_Met l Z (⟨"com/example/valet3/valet3/core/AuthorizeAnswer", "<init>", "(Lcom/example/valet3/valet3/core/AuthorizeRefusal;Ljava/lang/String;Lcom/example/valet3/valet3/core/Prompt;Ljava/lang/String;)V"⟩ : MethodName) prog_11_method_1_code 5 none [] ({ frames := 2, cells := 0, slots := 0, locals := 24 } : Room) n0 #[(.ref p0), .null, .null, .null, .null] h (own_nov fun h' => Keep h h' [p0] ∧ own_Ob Z h' p0 "com/example/valet3/valet3/core/AuthorizeAnswer" own_lay1 [.null, .null, .null, .null]) := by
  refine own_met (Ls := #[.val (.ref p0), .val .null, .val .null, .val .null, .val .null]) (by first | exact plainFor_of_name (by first | (simp [plainName, overriddenIn]; done) | decide +kernel) | decide +kernel) rfl ?_
  intro p e s m below meth c C
  refine own_aloadN C own_d9_0 rfl rfl (pc' := 1) rfl ?_
  refine own_callI C rfl (own_c10_7 l hw S z0 old p0) (own_w hw 43 rfl) (own_w hw 44 rfl) (own_w hw 46 rfl) (own_w hw 47 rfl) (by decide) own_d9_1 rfl (argsL := []) (rest := []) rfl (lenOf own_pd5 rfl) (W := 0) (Nat.le_of_eq rfl) (by decide) (by decide) (by decide) (by decide) (pc' := 4) rfl ?_
  rintro h1 K1
  have s1 : h.size ≤ h1.size := K1.1
  have k1 : Keep h h1 [p0] := (Keep.refl h [p0]).trans K1 all0
  refine own_aloadN C own_d9_4 rfl rfl (pc' := 5) rfl ?_
  refine own_aloadN C own_d9_5 rfl rfl (pc' := 6) rfl ?_
  have o_p0_1 := (o_p0.keep K1 nin0)
  refine own_putO C (own_w hw 49 rfl) Via.refl o_p0_1 (own_lay1_ok hw) 0 rfl (vs' := [.null, .null, .null, .null]) rfl (Or.inr ⟨(own_w hw 50 rfl), rfl, rfl⟩) (own_w hw 39 rfl) (ty := (.object "com/example/valet3/valet3/core/AuthorizeRefusal")) (by decide) (by first | rfl | decide) (by first | rfl | decide) g_p0 own_d9_6 (pc' := 9) rfl ?_
  intro h2 W2 o_p0_2
  have s2 : h2.size = h1.size := W2.size
  have k2 : Keep h h2 [p0] := k1.wr W2 (Or.inl (by simp))
  refine own_aloadN C own_d9_9 rfl rfl (pc' := 10) rfl ?_
  refine own_aloadN C own_d9_10 rfl rfl (pc' := 11) rfl ?_
  refine own_putO C (own_w hw 51 rfl) Via.refl o_p0_2 (own_lay1_ok hw) 1 rfl (vs' := [.null, .null, .null, .null]) rfl (Or.inr ⟨(own_w hw 52 rfl), rfl, rfl⟩) (own_w hw 39 rfl) (ty := (.object "java/lang/String")) (by decide) (by first | rfl | decide) (by first | rfl | decide) g_p0 own_d9_11 (pc' := 14) rfl ?_
  intro h3 W3 o_p0_3
  have s3 : h3.size = h2.size := W3.size
  have k3 : Keep h h3 [p0] := k2.wr W3 (Or.inl (by simp))
  refine own_aloadN C own_d9_14 rfl rfl (pc' := 15) rfl ?_
  refine own_aloadN C own_d9_15 rfl rfl (pc' := 16) rfl ?_
  refine own_putO C (own_w hw 53 rfl) Via.refl o_p0_3 (own_lay1_ok hw) 2 rfl (vs' := [.null, .null, .null, .null]) rfl (Or.inr ⟨(own_w hw 54 rfl), rfl, rfl⟩) (own_w hw 39 rfl) (ty := (.object "com/example/valet3/valet3/core/Prompt")) (by decide) (by first | rfl | decide) (by first | rfl | decide) g_p0 own_d9_16 (pc' := 19) rfl ?_
  intro h4 W4 o_p0_4
  have s4 : h4.size = h3.size := W4.size
  have k4 : Keep h h4 [p0] := k3.wr W4 (Or.inl (by simp))
  refine own_aloadN C own_d9_19 rfl rfl (pc' := 20) rfl ?_
  refine own_aload C own_d9_20 rfl rfl (pc' := 22) rfl ?_
  refine own_putO C (own_w hw 55 rfl) Via.refl o_p0_4 (own_lay1_ok hw) 3 rfl (vs' := [.null, .null, .null, .null]) rfl (Or.inr ⟨(own_w hw 56 rfl), rfl, rfl⟩) (own_w hw 39 rfl) (ty := (.object "java/lang/String")) (by decide) (by first | rfl | decide) (by first | rfl | decide) g_p0 own_d9_22 (pc' := 25) rfl ?_
  intro h5 W5 o_p0_5
  have s5 : h5.size = h4.size := W5.size
  have k5 : Keep h h5 [p0] := k4.wr W5 (Or.inl (by simp))
  exact own_return C own_d9_25 (by decide) (by decide) ⟨rfl, k5, o_p0_5⟩
set_option maxHeartbeats 2000000 in
theorem own_c8_9 (l : Launch) {Z : State} {a0 : Array Value} (hw : ∀ d ∈ tables_1, d.before a0 Z = true) {n0 : Nat} {h : Heap} {cs : Int32} (S : own_St Z cs) (z0 : n0 ≤ h.size) (old : Old Z n0 h) :
    own_Met l Z (⟨"com/example/valet3/valet3/core/AuthorizeAnswer", "redirect", "(Ljava/lang/String;Ljava/lang/String;)Lcom/example/valet3/valet3/core/AuthorizeAnswer;"⟩ : MethodName) prog_11_method_4_code 2 (some (.object "com/example/valet3/valet3/core/AuthorizeAnswer")) [] ({ frames := 3, cells := 1, slots := 4, locals := 41 } : Room) n0 #[.null, .null] h (own_val fun w h' => ∃ b1 : Nat, w = (.ref b1) ∧ Keep h h' [] ∧ h.size ≤ b1 ∧ b1 < h'.size ∧ own_Ob Z h' b1 "com/example/valet3/valet3/core/AuthorizeAnswer" own_lay1 [.null, .null, .null, .null]) := by
  refine own_met (Ls := #[.val .null, .val .null]) (by first | exact plainFor_of_name (by first | (simp [plainName, overriddenIn]; done) | decide +kernel) | decide +kernel) rfl ?_
  intro p e s m below meth c C
  refine own_newO C (own_w hw 38 rfl) (own_w hw 39 rfl) (own_w hw 36 rfl) (own_lay1_ok hw) own_lay1_df own_d8_0 (by decide) (by decide) (pc' := 3) rfl ?_
  intro h1 b1 g1 E1 o_b1
  have s1 : h.size ≤ h1.size := E1.1
  have k1 : Keep h h1 [] := (Keep.refl h []).ext E1
  have t1 := o_b1.lt
  refine own_dup C own_d8_3 rfl (pc' := 4) rfl ?_
  refine own_aconst_null C own_d8_4 (pc' := 5) rfl ?_
  refine own_aloadN C own_d8_5 rfl rfl (pc' := 6) rfl ?_
  refine own_aconst_null C own_d8_6 (pc' := 7) rfl ?_
  refine own_aloadN C own_d8_7 rfl rfl (pc' := 8) rfl ?_
  have zz1 : n0 ≤ h1.size := by omega
  have old1 := (old.ext E1)
  have e_b1 : n0 ≤ (b1 : Nat) := by omega
  refine own_callI C rfl (own_c9_8 l hw S zz1 old1 b1 o_b1 e_b1) (own_w hw 40 rfl) (own_w hw 41 rfl) (own_w hw 36 rfl) (own_w hw 42 rfl) (by decide) own_d8_8 rfl (argsL := [.null, .null, .null, .null]) (rest := [(.ref b1)]) rfl (lenOf own_pd6 rfl) (W := 1) (Nat.le_of_eq rfl) (by decide) (by decide) (by decide) (by decide) (pc' := 11) rfl ?_
  rintro h2 ⟨K2, o_b1_2⟩
  have s2 : h1.size ≤ h2.size := K2.1
  have q_b1 : h.size ≤ (b1 : Nat) := by omega
  have k2 : Keep h h2 [] := k1.trans K2 (allS (Or.inr q_b1) all0)
  exact own_areturn C rfl rfl own_d8_11 (by decide) (by decide) ⟨_, rfl, b1, rfl, k2, by omega, by omega, o_b1_2⟩
set_option maxHeartbeats 2000000 in
theorem own_c11_10 (l : Launch) {Z : State} {a0 : Array Value} (hw : ∀ d ∈ tables_1, d.before a0 Z = true) {n0 : Nat} {h : Heap} {cs : Int32} (S : own_St Z cs) (z0 : n0 ≤ h.size) (old : Old Z n0 h) (p0 : Nat) (o_p0 : own_Ob Z h p0 "com/example/valet3/valet3/core/AuthorizeAnswer" own_lay1 [.null, .null, .null, .null]) :
    own_Met l Z (⟨"com/example/valet3/valet3/core/AuthorizeAnswer", "refusal", "()Lcom/example/valet3/valet3/core/AuthorizeRefusal;"⟩ : MethodName) prog_11_method_9_code 1 (some (.object "com/example/valet3/valet3/core/AuthorizeRefusal")) [] ({ frames := 0, cells := 0, slots := 0, locals := 0 } : Room) n0 #[(.ref p0)] h (own_pure .null h) := by
  refine own_met (Ls := #[.val (.ref p0)]) (by first | exact plainFor_of_name (by first | (simp [plainName, overriddenIn]; done) | decide +kernel) | decide +kernel) rfl ?_
  intro p e s m below meth c C
  refine own_aloadN C own_d11_0 rfl rfl (pc' := 1) rfl ?_
  refine own_getO C (own_w hw 49 rfl) Via.refl o_p0 0 rfl rfl own_d11_1 (pc' := 4) rfl ?_
  exact own_areturn C rfl rfl own_d11_4 (by decide) (by decide) ⟨rfl, rfl⟩
set_option maxHeartbeats 2000000 in
theorem own_c12_11 (l : Launch) {Z : State} {a0 : Array Value} (hw : ∀ d ∈ tables_1, d.before a0 Z = true) {n0 : Nat} {h : Heap} {cs : Int32} (S : own_St Z cs) (z0 : n0 ≤ h.size) (old : Old Z n0 h) (p0 : Nat) (o_p0 : own_Ob Z h p0 "com/example/valet3/valet3/core/AuthorizeAnswer" own_lay1 [.null, .null, .null, .null]) :
    own_Met l Z (⟨"com/example/valet3/valet3/core/AuthorizeAnswer", "prompt", "()Lcom/example/valet3/valet3/core/Prompt;"⟩ : MethodName) prog_11_method_11_code 1 (some (.object "com/example/valet3/valet3/core/Prompt")) [] ({ frames := 0, cells := 0, slots := 0, locals := 0 } : Room) n0 #[(.ref p0)] h (own_pure .null h) := by
  refine own_met (Ls := #[.val (.ref p0)]) (by first | exact plainFor_of_name (by first | (simp [plainName, overriddenIn]; done) | decide +kernel) | decide +kernel) rfl ?_
  intro p e s m below meth c C
  refine own_aloadN C own_d12_0 rfl rfl (pc' := 1) rfl ?_
  refine own_getO C (own_w hw 53 rfl) Via.refl o_p0 2 rfl rfl own_d12_1 (pc' := 4) rfl ?_
  exact own_areturn C rfl rfl own_d12_4 (by decide) (by decide) ⟨rfl, rfl⟩
set_option maxHeartbeats 2000000 in
theorem own_c13_12 (l : Launch) {Z : State} {a0 : Array Value} (hw : ∀ d ∈ tables_1, d.before a0 Z = true) {n0 : Nat} {h : Heap} {cs : Int32} (S : own_St Z cs) (z0 : n0 ≤ h.size) (old : Old Z n0 h) (p0 : Nat) (o_p0 : own_Ob Z h p0 "com/example/valet3/valet3/core/AuthorizeAnswer" own_lay1 [.null, .null, .null, .null]) :
    own_Met l Z (⟨"com/example/valet3/valet3/core/AuthorizeAnswer", "location", "()Ljava/lang/String;"⟩ : MethodName) prog_11_method_10_code 1 (some (.object "java/lang/String")) [] ({ frames := 0, cells := 0, slots := 0, locals := 0 } : Room) n0 #[(.ref p0)] h (own_pure .null h) := by
  refine own_met (Ls := #[.val (.ref p0)]) (by first | exact plainFor_of_name (by first | (simp [plainName, overriddenIn]; done) | decide +kernel) | decide +kernel) rfl ?_
  intro p e s m below meth c C
  refine own_aloadN C own_d13_0 rfl rfl (pc' := 1) rfl ?_
  refine own_getO C (own_w hw 51 rfl) Via.refl o_p0 1 rfl rfl own_d13_1 (pc' := 4) rfl ?_
  exact own_areturn C rfl rfl own_d13_4 (by decide) (by decide) ⟨rfl, rfl⟩
set_option maxHeartbeats 2000000 in
theorem own_c14_13 (l : Launch) {Z : State} {a0 : Array Value} (hw : ∀ d ∈ tables_1, d.before a0 Z = true) {n0 : Nat} {h : Heap} {cs : Int32} (S : own_St Z cs) (z0 : n0 ≤ h.size) (old : Old Z n0 h) (p0 : Nat) (o_p0 : own_Ob Z h p0 "com/example/valet3/valet3/core/AuthorizeAnswer" own_lay1 [.null, .null, .null, .null]) :
    own_Met l Z (⟨"com/example/valet3/valet3/core/AuthorizeAnswer", "newSession", "()Ljava/lang/String;"⟩ : MethodName) prog_11_method_12_code 1 (some (.object "java/lang/String")) [] ({ frames := 0, cells := 0, slots := 0, locals := 0 } : Room) n0 #[(.ref p0)] h (own_pure .null h) := by
  refine own_met (Ls := #[.val (.ref p0)]) (by first | exact plainFor_of_name (by first | (simp [plainName, overriddenIn]; done) | decide +kernel) | decide +kernel) rfl ?_
  intro p e s m below meth c C
  refine own_aloadN C own_d14_0 rfl rfl (pc' := 1) rfl ?_
  refine own_getO C (own_w hw 55 rfl) Via.refl o_p0 3 rfl rfl own_d14_1 (pc' := 4) rfl ?_
  exact own_areturn C rfl rfl own_d14_4 (by decide) (by decide) ⟨rfl, rfl⟩
set_option maxHeartbeats 2000000 in
theorem own_c9_14 (l : Launch) {Z : State} {a0 : Array Value} (hw : ∀ d ∈ tables_1, d.before a0 Z = true) {n0 : Nat} {h : Heap} {cs : Int32} (S : own_St Z cs) (z0 : n0 ≤ h.size) (old : Old Z n0 h) (p0 : Nat) (p1 : Nat) (o_p0 : own_Ob Z h p0 "com/example/valet3/valet3/core/AuthorizeAnswer" own_lay1 [.null, .null, .null, .null]) (g_p0 : n0 ≤ p0) :
    own_Met l Z (⟨"com/example/valet3/valet3/core/AuthorizeAnswer", "<init>", "(Lcom/example/valet3/valet3/core/AuthorizeRefusal;Ljava/lang/String;Lcom/example/valet3/valet3/core/Prompt;Ljava/lang/String;)V"⟩ : MethodName) prog_11_method_1_code 5 none [] ({ frames := 2, cells := 0, slots := 0, locals := 24 } : Room) n0 #[(.ref p0), .null, .null, .null, (.ref p1)] h (own_nov fun h' => Keep h h' [p0] ∧ own_Ob Z h' p0 "com/example/valet3/valet3/core/AuthorizeAnswer" own_lay1 [.null, .null, .null, (.ref p1)]) := by
  refine own_met (Ls := #[.val (.ref p0), .val .null, .val .null, .val .null, .val (.ref p1)]) (by first | exact plainFor_of_name (by first | (simp [plainName, overriddenIn]; done) | decide +kernel) | decide +kernel) rfl ?_
  intro p e s m below meth c C
  refine own_aloadN C own_d9_0 rfl rfl (pc' := 1) rfl ?_
  refine own_callI C rfl (own_c10_7 l hw S z0 old p0) (own_w hw 43 rfl) (own_w hw 44 rfl) (own_w hw 46 rfl) (own_w hw 47 rfl) (by decide) own_d9_1 rfl (argsL := []) (rest := []) rfl (lenOf own_pd5 rfl) (W := 0) (Nat.le_of_eq rfl) (by decide) (by decide) (by decide) (by decide) (pc' := 4) rfl ?_
  rintro h1 K1
  have s1 : h.size ≤ h1.size := K1.1
  have k1 : Keep h h1 [p0] := (Keep.refl h [p0]).trans K1 all0
  refine own_aloadN C own_d9_4 rfl rfl (pc' := 5) rfl ?_
  refine own_aloadN C own_d9_5 rfl rfl (pc' := 6) rfl ?_
  have o_p0_1 := (o_p0.keep K1 nin0)
  refine own_putO C (own_w hw 49 rfl) Via.refl o_p0_1 (own_lay1_ok hw) 0 rfl (vs' := [.null, .null, .null, .null]) rfl (Or.inr ⟨(own_w hw 50 rfl), rfl, rfl⟩) (own_w hw 39 rfl) (ty := (.object "com/example/valet3/valet3/core/AuthorizeRefusal")) (by decide) (by first | rfl | decide) (by first | rfl | decide) g_p0 own_d9_6 (pc' := 9) rfl ?_
  intro h2 W2 o_p0_2
  have s2 : h2.size = h1.size := W2.size
  have k2 : Keep h h2 [p0] := k1.wr W2 (Or.inl (by simp))
  refine own_aloadN C own_d9_9 rfl rfl (pc' := 10) rfl ?_
  refine own_aloadN C own_d9_10 rfl rfl (pc' := 11) rfl ?_
  refine own_putO C (own_w hw 51 rfl) Via.refl o_p0_2 (own_lay1_ok hw) 1 rfl (vs' := [.null, .null, .null, .null]) rfl (Or.inr ⟨(own_w hw 52 rfl), rfl, rfl⟩) (own_w hw 39 rfl) (ty := (.object "java/lang/String")) (by decide) (by first | rfl | decide) (by first | rfl | decide) g_p0 own_d9_11 (pc' := 14) rfl ?_
  intro h3 W3 o_p0_3
  have s3 : h3.size = h2.size := W3.size
  have k3 : Keep h h3 [p0] := k2.wr W3 (Or.inl (by simp))
  refine own_aloadN C own_d9_14 rfl rfl (pc' := 15) rfl ?_
  refine own_aloadN C own_d9_15 rfl rfl (pc' := 16) rfl ?_
  refine own_putO C (own_w hw 53 rfl) Via.refl o_p0_3 (own_lay1_ok hw) 2 rfl (vs' := [.null, .null, .null, .null]) rfl (Or.inr ⟨(own_w hw 54 rfl), rfl, rfl⟩) (own_w hw 39 rfl) (ty := (.object "com/example/valet3/valet3/core/Prompt")) (by decide) (by first | rfl | decide) (by first | rfl | decide) g_p0 own_d9_16 (pc' := 19) rfl ?_
  intro h4 W4 o_p0_4
  have s4 : h4.size = h3.size := W4.size
  have k4 : Keep h h4 [p0] := k3.wr W4 (Or.inl (by simp))
  refine own_aloadN C own_d9_19 rfl rfl (pc' := 20) rfl ?_
  refine own_aload C own_d9_20 rfl rfl (pc' := 22) rfl ?_
  refine own_putO C (own_w hw 55 rfl) Via.refl o_p0_4 (own_lay1_ok hw) 3 rfl (vs' := [.null, .null, .null, (.ref p1)]) rfl (Or.inr ⟨(own_w hw 56 rfl), rfl, rfl⟩) (own_w hw 39 rfl) (ty := (.object "java/lang/String")) (by decide) (by first | rfl | decide) (by first | rfl | decide) g_p0 own_d9_22 (pc' := 25) rfl ?_
  intro h5 W5 o_p0_5
  have s5 : h5.size = h4.size := W5.size
  have k5 : Keep h h5 [p0] := k4.wr W5 (Or.inl (by simp))
  exact own_return C own_d9_25 (by decide) (by decide) ⟨rfl, k5, o_p0_5⟩
set_option maxHeartbeats 2000000 in
theorem own_c8_15 (l : Launch) {Z : State} {a0 : Array Value} (hw : ∀ d ∈ tables_1, d.before a0 Z = true) {n0 : Nat} {h : Heap} {cs : Int32} (S : own_St Z cs) (z0 : n0 ≤ h.size) (old : Old Z n0 h) (p0 : Nat) :
    own_Met l Z (⟨"com/example/valet3/valet3/core/AuthorizeAnswer", "redirect", "(Ljava/lang/String;Ljava/lang/String;)Lcom/example/valet3/valet3/core/AuthorizeAnswer;"⟩ : MethodName) prog_11_method_4_code 2 (some (.object "com/example/valet3/valet3/core/AuthorizeAnswer")) [] ({ frames := 3, cells := 1, slots := 4, locals := 41 } : Room) n0 #[.null, (.ref p0)] h (own_val fun w h' => ∃ b1 : Nat, w = (.ref b1) ∧ Keep h h' [] ∧ h.size ≤ b1 ∧ b1 < h'.size ∧ own_Ob Z h' b1 "com/example/valet3/valet3/core/AuthorizeAnswer" own_lay1 [.null, .null, .null, (.ref p0)]) := by
  refine own_met (Ls := #[.val .null, .val (.ref p0)]) (by first | exact plainFor_of_name (by first | (simp [plainName, overriddenIn]; done) | decide +kernel) | decide +kernel) rfl ?_
  intro p e s m below meth c C
  refine own_newO C (own_w hw 38 rfl) (own_w hw 39 rfl) (own_w hw 36 rfl) (own_lay1_ok hw) own_lay1_df own_d8_0 (by decide) (by decide) (pc' := 3) rfl ?_
  intro h1 b1 g1 E1 o_b1
  have s1 : h.size ≤ h1.size := E1.1
  have k1 : Keep h h1 [] := (Keep.refl h []).ext E1
  have t1 := o_b1.lt
  refine own_dup C own_d8_3 rfl (pc' := 4) rfl ?_
  refine own_aconst_null C own_d8_4 (pc' := 5) rfl ?_
  refine own_aloadN C own_d8_5 rfl rfl (pc' := 6) rfl ?_
  refine own_aconst_null C own_d8_6 (pc' := 7) rfl ?_
  refine own_aloadN C own_d8_7 rfl rfl (pc' := 8) rfl ?_
  have zz1 : n0 ≤ h1.size := by omega
  have old1 := (old.ext E1)
  have e_b1 : n0 ≤ (b1 : Nat) := by omega
  refine own_callI C rfl (own_c9_14 l hw S zz1 old1 b1 p0 o_b1 e_b1) (own_w hw 40 rfl) (own_w hw 41 rfl) (own_w hw 36 rfl) (own_w hw 42 rfl) (by decide) own_d8_8 rfl (argsL := [.null, .null, .null, (.ref p0)]) (rest := [(.ref b1)]) rfl (lenOf own_pd6 rfl) (W := 1) (Nat.le_of_eq rfl) (by decide) (by decide) (by decide) (by decide) (pc' := 11) rfl ?_
  rintro h2 ⟨K2, o_b1_2⟩
  have s2 : h1.size ≤ h2.size := K2.1
  have q_b1 : h.size ≤ (b1 : Nat) := by omega
  have k2 : Keep h h2 [] := k1.trans K2 (allS (Or.inr q_b1) all0)
  exact own_areturn C rfl rfl own_d8_11 (by decide) (by decide) ⟨_, rfl, b1, rfl, k2, by omega, by omega, o_b1_2⟩
set_option maxHeartbeats 2000000 in
theorem own_c11_16 (l : Launch) {Z : State} {a0 : Array Value} (hw : ∀ d ∈ tables_1, d.before a0 Z = true) {n0 : Nat} {h : Heap} {cs : Int32} (S : own_St Z cs) (z0 : n0 ≤ h.size) (old : Old Z n0 h) (p0 : Nat) (p1 : Nat) (o_p0 : own_Ob Z h p0 "com/example/valet3/valet3/core/AuthorizeAnswer" own_lay1 [.null, .null, .null, (.ref p1)]) :
    own_Met l Z (⟨"com/example/valet3/valet3/core/AuthorizeAnswer", "refusal", "()Lcom/example/valet3/valet3/core/AuthorizeRefusal;"⟩ : MethodName) prog_11_method_9_code 1 (some (.object "com/example/valet3/valet3/core/AuthorizeRefusal")) [] ({ frames := 0, cells := 0, slots := 0, locals := 0 } : Room) n0 #[(.ref p0)] h (own_pure .null h) := by
  refine own_met (Ls := #[.val (.ref p0)]) (by first | exact plainFor_of_name (by first | (simp [plainName, overriddenIn]; done) | decide +kernel) | decide +kernel) rfl ?_
  intro p e s m below meth c C
  refine own_aloadN C own_d11_0 rfl rfl (pc' := 1) rfl ?_
  refine own_getO C (own_w hw 49 rfl) Via.refl o_p0 0 rfl rfl own_d11_1 (pc' := 4) rfl ?_
  exact own_areturn C rfl rfl own_d11_4 (by decide) (by decide) ⟨rfl, rfl⟩
set_option maxHeartbeats 2000000 in
theorem own_c12_17 (l : Launch) {Z : State} {a0 : Array Value} (hw : ∀ d ∈ tables_1, d.before a0 Z = true) {n0 : Nat} {h : Heap} {cs : Int32} (S : own_St Z cs) (z0 : n0 ≤ h.size) (old : Old Z n0 h) (p0 : Nat) (p1 : Nat) (o_p0 : own_Ob Z h p0 "com/example/valet3/valet3/core/AuthorizeAnswer" own_lay1 [.null, .null, .null, (.ref p1)]) :
    own_Met l Z (⟨"com/example/valet3/valet3/core/AuthorizeAnswer", "prompt", "()Lcom/example/valet3/valet3/core/Prompt;"⟩ : MethodName) prog_11_method_11_code 1 (some (.object "com/example/valet3/valet3/core/Prompt")) [] ({ frames := 0, cells := 0, slots := 0, locals := 0 } : Room) n0 #[(.ref p0)] h (own_pure .null h) := by
  refine own_met (Ls := #[.val (.ref p0)]) (by first | exact plainFor_of_name (by first | (simp [plainName, overriddenIn]; done) | decide +kernel) | decide +kernel) rfl ?_
  intro p e s m below meth c C
  refine own_aloadN C own_d12_0 rfl rfl (pc' := 1) rfl ?_
  refine own_getO C (own_w hw 53 rfl) Via.refl o_p0 2 rfl rfl own_d12_1 (pc' := 4) rfl ?_
  exact own_areturn C rfl rfl own_d12_4 (by decide) (by decide) ⟨rfl, rfl⟩
set_option maxHeartbeats 2000000 in
theorem own_c13_18 (l : Launch) {Z : State} {a0 : Array Value} (hw : ∀ d ∈ tables_1, d.before a0 Z = true) {n0 : Nat} {h : Heap} {cs : Int32} (S : own_St Z cs) (z0 : n0 ≤ h.size) (old : Old Z n0 h) (p0 : Nat) (p1 : Nat) (o_p0 : own_Ob Z h p0 "com/example/valet3/valet3/core/AuthorizeAnswer" own_lay1 [.null, .null, .null, (.ref p1)]) :
    own_Met l Z (⟨"com/example/valet3/valet3/core/AuthorizeAnswer", "location", "()Ljava/lang/String;"⟩ : MethodName) prog_11_method_10_code 1 (some (.object "java/lang/String")) [] ({ frames := 0, cells := 0, slots := 0, locals := 0 } : Room) n0 #[(.ref p0)] h (own_pure .null h) := by
  refine own_met (Ls := #[.val (.ref p0)]) (by first | exact plainFor_of_name (by first | (simp [plainName, overriddenIn]; done) | decide +kernel) | decide +kernel) rfl ?_
  intro p e s m below meth c C
  refine own_aloadN C own_d13_0 rfl rfl (pc' := 1) rfl ?_
  refine own_getO C (own_w hw 51 rfl) Via.refl o_p0 1 rfl rfl own_d13_1 (pc' := 4) rfl ?_
  exact own_areturn C rfl rfl own_d13_4 (by decide) (by decide) ⟨rfl, rfl⟩
set_option maxHeartbeats 2000000 in
theorem own_c14_19 (l : Launch) {Z : State} {a0 : Array Value} (hw : ∀ d ∈ tables_1, d.before a0 Z = true) {n0 : Nat} {h : Heap} {cs : Int32} (S : own_St Z cs) (z0 : n0 ≤ h.size) (old : Old Z n0 h) (p0 : Nat) (p1 : Nat) (o_p0 : own_Ob Z h p0 "com/example/valet3/valet3/core/AuthorizeAnswer" own_lay1 [.null, .null, .null, (.ref p1)]) :
    own_Met l Z (⟨"com/example/valet3/valet3/core/AuthorizeAnswer", "newSession", "()Ljava/lang/String;"⟩ : MethodName) prog_11_method_12_code 1 (some (.object "java/lang/String")) [] ({ frames := 0, cells := 0, slots := 0, locals := 0 } : Room) n0 #[(.ref p0)] h (own_pure (.ref p1) h) := by
  refine own_met (Ls := #[.val (.ref p0)]) (by first | exact plainFor_of_name (by first | (simp [plainName, overriddenIn]; done) | decide +kernel) | decide +kernel) rfl ?_
  intro p e s m below meth c C
  refine own_aloadN C own_d14_0 rfl rfl (pc' := 1) rfl ?_
  refine own_getO C (own_w hw 55 rfl) Via.refl o_p0 3 rfl rfl own_d14_1 (pc' := 4) rfl ?_
  exact own_areturn C rfl rfl own_d14_4 (by decide) (by decide) ⟨rfl, rfl⟩
set_option maxHeartbeats 2000000 in
theorem own_c9_20 (l : Launch) {Z : State} {a0 : Array Value} (hw : ∀ d ∈ tables_1, d.before a0 Z = true) {n0 : Nat} {h : Heap} {cs : Int32} (S : own_St Z cs) (z0 : n0 ≤ h.size) (old : Old Z n0 h) (p0 : Nat) (p1 : Nat) (o_p0 : own_Ob Z h p0 "com/example/valet3/valet3/core/AuthorizeAnswer" own_lay1 [.null, .null, .null, .null]) (g_p0 : n0 ≤ p0) :
    own_Met l Z (⟨"com/example/valet3/valet3/core/AuthorizeAnswer", "<init>", "(Lcom/example/valet3/valet3/core/AuthorizeRefusal;Ljava/lang/String;Lcom/example/valet3/valet3/core/Prompt;Ljava/lang/String;)V"⟩ : MethodName) prog_11_method_1_code 5 none [] ({ frames := 2, cells := 0, slots := 0, locals := 24 } : Room) n0 #[(.ref p0), .null, (.ref p1), .null, .null] h (own_nov fun h' => Keep h h' [p0] ∧ own_Ob Z h' p0 "com/example/valet3/valet3/core/AuthorizeAnswer" own_lay1 [.null, (.ref p1), .null, .null]) := by
  refine own_met (Ls := #[.val (.ref p0), .val .null, .val (.ref p1), .val .null, .val .null]) (by first | exact plainFor_of_name (by first | (simp [plainName, overriddenIn]; done) | decide +kernel) | decide +kernel) rfl ?_
  intro p e s m below meth c C
  refine own_aloadN C own_d9_0 rfl rfl (pc' := 1) rfl ?_
  refine own_callI C rfl (own_c10_7 l hw S z0 old p0) (own_w hw 43 rfl) (own_w hw 44 rfl) (own_w hw 46 rfl) (own_w hw 47 rfl) (by decide) own_d9_1 rfl (argsL := []) (rest := []) rfl (lenOf own_pd5 rfl) (W := 0) (Nat.le_of_eq rfl) (by decide) (by decide) (by decide) (by decide) (pc' := 4) rfl ?_
  rintro h1 K1
  have s1 : h.size ≤ h1.size := K1.1
  have k1 : Keep h h1 [p0] := (Keep.refl h [p0]).trans K1 all0
  refine own_aloadN C own_d9_4 rfl rfl (pc' := 5) rfl ?_
  refine own_aloadN C own_d9_5 rfl rfl (pc' := 6) rfl ?_
  have o_p0_1 := (o_p0.keep K1 nin0)
  refine own_putO C (own_w hw 49 rfl) Via.refl o_p0_1 (own_lay1_ok hw) 0 rfl (vs' := [.null, .null, .null, .null]) rfl (Or.inr ⟨(own_w hw 50 rfl), rfl, rfl⟩) (own_w hw 39 rfl) (ty := (.object "com/example/valet3/valet3/core/AuthorizeRefusal")) (by decide) (by first | rfl | decide) (by first | rfl | decide) g_p0 own_d9_6 (pc' := 9) rfl ?_
  intro h2 W2 o_p0_2
  have s2 : h2.size = h1.size := W2.size
  have k2 : Keep h h2 [p0] := k1.wr W2 (Or.inl (by simp))
  refine own_aloadN C own_d9_9 rfl rfl (pc' := 10) rfl ?_
  refine own_aloadN C own_d9_10 rfl rfl (pc' := 11) rfl ?_
  refine own_putO C (own_w hw 51 rfl) Via.refl o_p0_2 (own_lay1_ok hw) 1 rfl (vs' := [.null, (.ref p1), .null, .null]) rfl (Or.inr ⟨(own_w hw 52 rfl), rfl, rfl⟩) (own_w hw 39 rfl) (ty := (.object "java/lang/String")) (by decide) (by first | rfl | decide) (by first | rfl | decide) g_p0 own_d9_11 (pc' := 14) rfl ?_
  intro h3 W3 o_p0_3
  have s3 : h3.size = h2.size := W3.size
  have k3 : Keep h h3 [p0] := k2.wr W3 (Or.inl (by simp))
  refine own_aloadN C own_d9_14 rfl rfl (pc' := 15) rfl ?_
  refine own_aloadN C own_d9_15 rfl rfl (pc' := 16) rfl ?_
  refine own_putO C (own_w hw 53 rfl) Via.refl o_p0_3 (own_lay1_ok hw) 2 rfl (vs' := [.null, (.ref p1), .null, .null]) rfl (Or.inr ⟨(own_w hw 54 rfl), rfl, rfl⟩) (own_w hw 39 rfl) (ty := (.object "com/example/valet3/valet3/core/Prompt")) (by decide) (by first | rfl | decide) (by first | rfl | decide) g_p0 own_d9_16 (pc' := 19) rfl ?_
  intro h4 W4 o_p0_4
  have s4 : h4.size = h3.size := W4.size
  have k4 : Keep h h4 [p0] := k3.wr W4 (Or.inl (by simp))
  refine own_aloadN C own_d9_19 rfl rfl (pc' := 20) rfl ?_
  refine own_aload C own_d9_20 rfl rfl (pc' := 22) rfl ?_
  refine own_putO C (own_w hw 55 rfl) Via.refl o_p0_4 (own_lay1_ok hw) 3 rfl (vs' := [.null, (.ref p1), .null, .null]) rfl (Or.inr ⟨(own_w hw 56 rfl), rfl, rfl⟩) (own_w hw 39 rfl) (ty := (.object "java/lang/String")) (by decide) (by first | rfl | decide) (by first | rfl | decide) g_p0 own_d9_22 (pc' := 25) rfl ?_
  intro h5 W5 o_p0_5
  have s5 : h5.size = h4.size := W5.size
  have k5 : Keep h h5 [p0] := k4.wr W5 (Or.inl (by simp))
  exact own_return C own_d9_25 (by decide) (by decide) ⟨rfl, k5, o_p0_5⟩
set_option maxHeartbeats 2000000 in
theorem own_c8_21 (l : Launch) {Z : State} {a0 : Array Value} (hw : ∀ d ∈ tables_1, d.before a0 Z = true) {n0 : Nat} {h : Heap} {cs : Int32} (S : own_St Z cs) (z0 : n0 ≤ h.size) (old : Old Z n0 h) (p0 : Nat) :
    own_Met l Z (⟨"com/example/valet3/valet3/core/AuthorizeAnswer", "redirect", "(Ljava/lang/String;Ljava/lang/String;)Lcom/example/valet3/valet3/core/AuthorizeAnswer;"⟩ : MethodName) prog_11_method_4_code 2 (some (.object "com/example/valet3/valet3/core/AuthorizeAnswer")) [] ({ frames := 3, cells := 1, slots := 4, locals := 41 } : Room) n0 #[(.ref p0), .null] h (own_val fun w h' => ∃ b1 : Nat, w = (.ref b1) ∧ Keep h h' [] ∧ h.size ≤ b1 ∧ b1 < h'.size ∧ own_Ob Z h' b1 "com/example/valet3/valet3/core/AuthorizeAnswer" own_lay1 [.null, (.ref p0), .null, .null]) := by
  refine own_met (Ls := #[.val (.ref p0), .val .null]) (by first | exact plainFor_of_name (by first | (simp [plainName, overriddenIn]; done) | decide +kernel) | decide +kernel) rfl ?_
  intro p e s m below meth c C
  refine own_newO C (own_w hw 38 rfl) (own_w hw 39 rfl) (own_w hw 36 rfl) (own_lay1_ok hw) own_lay1_df own_d8_0 (by decide) (by decide) (pc' := 3) rfl ?_
  intro h1 b1 g1 E1 o_b1
  have s1 : h.size ≤ h1.size := E1.1
  have k1 : Keep h h1 [] := (Keep.refl h []).ext E1
  have t1 := o_b1.lt
  refine own_dup C own_d8_3 rfl (pc' := 4) rfl ?_
  refine own_aconst_null C own_d8_4 (pc' := 5) rfl ?_
  refine own_aloadN C own_d8_5 rfl rfl (pc' := 6) rfl ?_
  refine own_aconst_null C own_d8_6 (pc' := 7) rfl ?_
  refine own_aloadN C own_d8_7 rfl rfl (pc' := 8) rfl ?_
  have zz1 : n0 ≤ h1.size := by omega
  have old1 := (old.ext E1)
  have e_b1 : n0 ≤ (b1 : Nat) := by omega
  refine own_callI C rfl (own_c9_20 l hw S zz1 old1 b1 p0 o_b1 e_b1) (own_w hw 40 rfl) (own_w hw 41 rfl) (own_w hw 36 rfl) (own_w hw 42 rfl) (by decide) own_d8_8 rfl (argsL := [.null, (.ref p0), .null, .null]) (rest := [(.ref b1)]) rfl (lenOf own_pd6 rfl) (W := 1) (Nat.le_of_eq rfl) (by decide) (by decide) (by decide) (by decide) (pc' := 11) rfl ?_
  rintro h2 ⟨K2, o_b1_2⟩
  have s2 : h1.size ≤ h2.size := K2.1
  have q_b1 : h.size ≤ (b1 : Nat) := by omega
  have k2 : Keep h h2 [] := k1.trans K2 (allS (Or.inr q_b1) all0)
  exact own_areturn C rfl rfl own_d8_11 (by decide) (by decide) ⟨_, rfl, b1, rfl, k2, by omega, by omega, o_b1_2⟩
set_option maxHeartbeats 2000000 in
theorem own_c11_22 (l : Launch) {Z : State} {a0 : Array Value} (hw : ∀ d ∈ tables_1, d.before a0 Z = true) {n0 : Nat} {h : Heap} {cs : Int32} (S : own_St Z cs) (z0 : n0 ≤ h.size) (old : Old Z n0 h) (p0 : Nat) (p1 : Nat) (o_p0 : own_Ob Z h p0 "com/example/valet3/valet3/core/AuthorizeAnswer" own_lay1 [.null, (.ref p1), .null, .null]) :
    own_Met l Z (⟨"com/example/valet3/valet3/core/AuthorizeAnswer", "refusal", "()Lcom/example/valet3/valet3/core/AuthorizeRefusal;"⟩ : MethodName) prog_11_method_9_code 1 (some (.object "com/example/valet3/valet3/core/AuthorizeRefusal")) [] ({ frames := 0, cells := 0, slots := 0, locals := 0 } : Room) n0 #[(.ref p0)] h (own_pure .null h) := by
  refine own_met (Ls := #[.val (.ref p0)]) (by first | exact plainFor_of_name (by first | (simp [plainName, overriddenIn]; done) | decide +kernel) | decide +kernel) rfl ?_
  intro p e s m below meth c C
  refine own_aloadN C own_d11_0 rfl rfl (pc' := 1) rfl ?_
  refine own_getO C (own_w hw 49 rfl) Via.refl o_p0 0 rfl rfl own_d11_1 (pc' := 4) rfl ?_
  exact own_areturn C rfl rfl own_d11_4 (by decide) (by decide) ⟨rfl, rfl⟩
set_option maxHeartbeats 2000000 in
theorem own_c12_23 (l : Launch) {Z : State} {a0 : Array Value} (hw : ∀ d ∈ tables_1, d.before a0 Z = true) {n0 : Nat} {h : Heap} {cs : Int32} (S : own_St Z cs) (z0 : n0 ≤ h.size) (old : Old Z n0 h) (p0 : Nat) (p1 : Nat) (o_p0 : own_Ob Z h p0 "com/example/valet3/valet3/core/AuthorizeAnswer" own_lay1 [.null, (.ref p1), .null, .null]) :
    own_Met l Z (⟨"com/example/valet3/valet3/core/AuthorizeAnswer", "prompt", "()Lcom/example/valet3/valet3/core/Prompt;"⟩ : MethodName) prog_11_method_11_code 1 (some (.object "com/example/valet3/valet3/core/Prompt")) [] ({ frames := 0, cells := 0, slots := 0, locals := 0 } : Room) n0 #[(.ref p0)] h (own_pure .null h) := by
  refine own_met (Ls := #[.val (.ref p0)]) (by first | exact plainFor_of_name (by first | (simp [plainName, overriddenIn]; done) | decide +kernel) | decide +kernel) rfl ?_
  intro p e s m below meth c C
  refine own_aloadN C own_d12_0 rfl rfl (pc' := 1) rfl ?_
  refine own_getO C (own_w hw 53 rfl) Via.refl o_p0 2 rfl rfl own_d12_1 (pc' := 4) rfl ?_
  exact own_areturn C rfl rfl own_d12_4 (by decide) (by decide) ⟨rfl, rfl⟩
set_option maxHeartbeats 2000000 in
theorem own_c13_24 (l : Launch) {Z : State} {a0 : Array Value} (hw : ∀ d ∈ tables_1, d.before a0 Z = true) {n0 : Nat} {h : Heap} {cs : Int32} (S : own_St Z cs) (z0 : n0 ≤ h.size) (old : Old Z n0 h) (p0 : Nat) (p1 : Nat) (o_p0 : own_Ob Z h p0 "com/example/valet3/valet3/core/AuthorizeAnswer" own_lay1 [.null, (.ref p1), .null, .null]) :
    own_Met l Z (⟨"com/example/valet3/valet3/core/AuthorizeAnswer", "location", "()Ljava/lang/String;"⟩ : MethodName) prog_11_method_10_code 1 (some (.object "java/lang/String")) [] ({ frames := 0, cells := 0, slots := 0, locals := 0 } : Room) n0 #[(.ref p0)] h (own_pure (.ref p1) h) := by
  refine own_met (Ls := #[.val (.ref p0)]) (by first | exact plainFor_of_name (by first | (simp [plainName, overriddenIn]; done) | decide +kernel) | decide +kernel) rfl ?_
  intro p e s m below meth c C
  refine own_aloadN C own_d13_0 rfl rfl (pc' := 1) rfl ?_
  refine own_getO C (own_w hw 51 rfl) Via.refl o_p0 1 rfl rfl own_d13_1 (pc' := 4) rfl ?_
  exact own_areturn C rfl rfl own_d13_4 (by decide) (by decide) ⟨rfl, rfl⟩
set_option maxHeartbeats 2000000 in
theorem own_c14_25 (l : Launch) {Z : State} {a0 : Array Value} (hw : ∀ d ∈ tables_1, d.before a0 Z = true) {n0 : Nat} {h : Heap} {cs : Int32} (S : own_St Z cs) (z0 : n0 ≤ h.size) (old : Old Z n0 h) (p0 : Nat) (p1 : Nat) (o_p0 : own_Ob Z h p0 "com/example/valet3/valet3/core/AuthorizeAnswer" own_lay1 [.null, (.ref p1), .null, .null]) :
    own_Met l Z (⟨"com/example/valet3/valet3/core/AuthorizeAnswer", "newSession", "()Ljava/lang/String;"⟩ : MethodName) prog_11_method_12_code 1 (some (.object "java/lang/String")) [] ({ frames := 0, cells := 0, slots := 0, locals := 0 } : Room) n0 #[(.ref p0)] h (own_pure .null h) := by
  refine own_met (Ls := #[.val (.ref p0)]) (by first | exact plainFor_of_name (by first | (simp [plainName, overriddenIn]; done) | decide +kernel) | decide +kernel) rfl ?_
  intro p e s m below meth c C
  refine own_aloadN C own_d14_0 rfl rfl (pc' := 1) rfl ?_
  refine own_getO C (own_w hw 55 rfl) Via.refl o_p0 3 rfl rfl own_d14_1 (pc' := 4) rfl ?_
  exact own_areturn C rfl rfl own_d14_4 (by decide) (by decide) ⟨rfl, rfl⟩
set_option maxHeartbeats 2000000 in
theorem own_c9_26 (l : Launch) {Z : State} {a0 : Array Value} (hw : ∀ d ∈ tables_1, d.before a0 Z = true) {n0 : Nat} {h : Heap} {cs : Int32} (S : own_St Z cs) (z0 : n0 ≤ h.size) (old : Old Z n0 h) (p0 : Nat) (p1 : Nat) (p2 : Nat) (o_p0 : own_Ob Z h p0 "com/example/valet3/valet3/core/AuthorizeAnswer" own_lay1 [.null, .null, .null, .null]) (g_p0 : n0 ≤ p0) :
    own_Met l Z (⟨"com/example/valet3/valet3/core/AuthorizeAnswer", "<init>", "(Lcom/example/valet3/valet3/core/AuthorizeRefusal;Ljava/lang/String;Lcom/example/valet3/valet3/core/Prompt;Ljava/lang/String;)V"⟩ : MethodName) prog_11_method_1_code 5 none [] ({ frames := 2, cells := 0, slots := 0, locals := 24 } : Room) n0 #[(.ref p0), .null, (.ref p1), .null, (.ref p2)] h (own_nov fun h' => Keep h h' [p0] ∧ own_Ob Z h' p0 "com/example/valet3/valet3/core/AuthorizeAnswer" own_lay1 [.null, (.ref p1), .null, (.ref p2)]) := by
  refine own_met (Ls := #[.val (.ref p0), .val .null, .val (.ref p1), .val .null, .val (.ref p2)]) (by first | exact plainFor_of_name (by first | (simp [plainName, overriddenIn]; done) | decide +kernel) | decide +kernel) rfl ?_
  intro p e s m below meth c C
  refine own_aloadN C own_d9_0 rfl rfl (pc' := 1) rfl ?_
  refine own_callI C rfl (own_c10_7 l hw S z0 old p0) (own_w hw 43 rfl) (own_w hw 44 rfl) (own_w hw 46 rfl) (own_w hw 47 rfl) (by decide) own_d9_1 rfl (argsL := []) (rest := []) rfl (lenOf own_pd5 rfl) (W := 0) (Nat.le_of_eq rfl) (by decide) (by decide) (by decide) (by decide) (pc' := 4) rfl ?_
  rintro h1 K1
  have s1 : h.size ≤ h1.size := K1.1
  have k1 : Keep h h1 [p0] := (Keep.refl h [p0]).trans K1 all0
  refine own_aloadN C own_d9_4 rfl rfl (pc' := 5) rfl ?_
  refine own_aloadN C own_d9_5 rfl rfl (pc' := 6) rfl ?_
  have o_p0_1 := (o_p0.keep K1 nin0)
  refine own_putO C (own_w hw 49 rfl) Via.refl o_p0_1 (own_lay1_ok hw) 0 rfl (vs' := [.null, .null, .null, .null]) rfl (Or.inr ⟨(own_w hw 50 rfl), rfl, rfl⟩) (own_w hw 39 rfl) (ty := (.object "com/example/valet3/valet3/core/AuthorizeRefusal")) (by decide) (by first | rfl | decide) (by first | rfl | decide) g_p0 own_d9_6 (pc' := 9) rfl ?_
  intro h2 W2 o_p0_2
  have s2 : h2.size = h1.size := W2.size
  have k2 : Keep h h2 [p0] := k1.wr W2 (Or.inl (by simp))
  refine own_aloadN C own_d9_9 rfl rfl (pc' := 10) rfl ?_
  refine own_aloadN C own_d9_10 rfl rfl (pc' := 11) rfl ?_
  refine own_putO C (own_w hw 51 rfl) Via.refl o_p0_2 (own_lay1_ok hw) 1 rfl (vs' := [.null, (.ref p1), .null, .null]) rfl (Or.inr ⟨(own_w hw 52 rfl), rfl, rfl⟩) (own_w hw 39 rfl) (ty := (.object "java/lang/String")) (by decide) (by first | rfl | decide) (by first | rfl | decide) g_p0 own_d9_11 (pc' := 14) rfl ?_
  intro h3 W3 o_p0_3
  have s3 : h3.size = h2.size := W3.size
  have k3 : Keep h h3 [p0] := k2.wr W3 (Or.inl (by simp))
  refine own_aloadN C own_d9_14 rfl rfl (pc' := 15) rfl ?_
  refine own_aloadN C own_d9_15 rfl rfl (pc' := 16) rfl ?_
  refine own_putO C (own_w hw 53 rfl) Via.refl o_p0_3 (own_lay1_ok hw) 2 rfl (vs' := [.null, (.ref p1), .null, .null]) rfl (Or.inr ⟨(own_w hw 54 rfl), rfl, rfl⟩) (own_w hw 39 rfl) (ty := (.object "com/example/valet3/valet3/core/Prompt")) (by decide) (by first | rfl | decide) (by first | rfl | decide) g_p0 own_d9_16 (pc' := 19) rfl ?_
  intro h4 W4 o_p0_4
  have s4 : h4.size = h3.size := W4.size
  have k4 : Keep h h4 [p0] := k3.wr W4 (Or.inl (by simp))
  refine own_aloadN C own_d9_19 rfl rfl (pc' := 20) rfl ?_
  refine own_aload C own_d9_20 rfl rfl (pc' := 22) rfl ?_
  refine own_putO C (own_w hw 55 rfl) Via.refl o_p0_4 (own_lay1_ok hw) 3 rfl (vs' := [.null, (.ref p1), .null, (.ref p2)]) rfl (Or.inr ⟨(own_w hw 56 rfl), rfl, rfl⟩) (own_w hw 39 rfl) (ty := (.object "java/lang/String")) (by decide) (by first | rfl | decide) (by first | rfl | decide) g_p0 own_d9_22 (pc' := 25) rfl ?_
  intro h5 W5 o_p0_5
  have s5 : h5.size = h4.size := W5.size
  have k5 : Keep h h5 [p0] := k4.wr W5 (Or.inl (by simp))
  exact own_return C own_d9_25 (by decide) (by decide) ⟨rfl, k5, o_p0_5⟩
set_option maxHeartbeats 2000000 in
theorem own_c8_27 (l : Launch) {Z : State} {a0 : Array Value} (hw : ∀ d ∈ tables_1, d.before a0 Z = true) {n0 : Nat} {h : Heap} {cs : Int32} (S : own_St Z cs) (z0 : n0 ≤ h.size) (old : Old Z n0 h) (p0 : Nat) (p1 : Nat) :
    own_Met l Z (⟨"com/example/valet3/valet3/core/AuthorizeAnswer", "redirect", "(Ljava/lang/String;Ljava/lang/String;)Lcom/example/valet3/valet3/core/AuthorizeAnswer;"⟩ : MethodName) prog_11_method_4_code 2 (some (.object "com/example/valet3/valet3/core/AuthorizeAnswer")) [] ({ frames := 3, cells := 1, slots := 4, locals := 41 } : Room) n0 #[(.ref p0), (.ref p1)] h (own_val fun w h' => ∃ b1 : Nat, w = (.ref b1) ∧ Keep h h' [] ∧ h.size ≤ b1 ∧ b1 < h'.size ∧ own_Ob Z h' b1 "com/example/valet3/valet3/core/AuthorizeAnswer" own_lay1 [.null, (.ref p0), .null, (.ref p1)]) := by
  refine own_met (Ls := #[.val (.ref p0), .val (.ref p1)]) (by first | exact plainFor_of_name (by first | (simp [plainName, overriddenIn]; done) | decide +kernel) | decide +kernel) rfl ?_
  intro p e s m below meth c C
  refine own_newO C (own_w hw 38 rfl) (own_w hw 39 rfl) (own_w hw 36 rfl) (own_lay1_ok hw) own_lay1_df own_d8_0 (by decide) (by decide) (pc' := 3) rfl ?_
  intro h1 b1 g1 E1 o_b1
  have s1 : h.size ≤ h1.size := E1.1
  have k1 : Keep h h1 [] := (Keep.refl h []).ext E1
  have t1 := o_b1.lt
  refine own_dup C own_d8_3 rfl (pc' := 4) rfl ?_
  refine own_aconst_null C own_d8_4 (pc' := 5) rfl ?_
  refine own_aloadN C own_d8_5 rfl rfl (pc' := 6) rfl ?_
  refine own_aconst_null C own_d8_6 (pc' := 7) rfl ?_
  refine own_aloadN C own_d8_7 rfl rfl (pc' := 8) rfl ?_
  have zz1 : n0 ≤ h1.size := by omega
  have old1 := (old.ext E1)
  have e_b1 : n0 ≤ (b1 : Nat) := by omega
  refine own_callI C rfl (own_c9_26 l hw S zz1 old1 b1 p0 p1 o_b1 e_b1) (own_w hw 40 rfl) (own_w hw 41 rfl) (own_w hw 36 rfl) (own_w hw 42 rfl) (by decide) own_d8_8 rfl (argsL := [.null, (.ref p0), .null, (.ref p1)]) (rest := [(.ref b1)]) rfl (lenOf own_pd6 rfl) (W := 1) (Nat.le_of_eq rfl) (by decide) (by decide) (by decide) (by decide) (pc' := 11) rfl ?_
  rintro h2 ⟨K2, o_b1_2⟩
  have s2 : h1.size ≤ h2.size := K2.1
  have q_b1 : h.size ≤ (b1 : Nat) := by omega
  have k2 : Keep h h2 [] := k1.trans K2 (allS (Or.inr q_b1) all0)
  exact own_areturn C rfl rfl own_d8_11 (by decide) (by decide) ⟨_, rfl, b1, rfl, k2, by omega, by omega, o_b1_2⟩
set_option maxHeartbeats 2000000 in
theorem own_c11_28 (l : Launch) {Z : State} {a0 : Array Value} (hw : ∀ d ∈ tables_1, d.before a0 Z = true) {n0 : Nat} {h : Heap} {cs : Int32} (S : own_St Z cs) (z0 : n0 ≤ h.size) (old : Old Z n0 h) (p0 : Nat) (p1 : Nat) (p2 : Nat) (o_p0 : own_Ob Z h p0 "com/example/valet3/valet3/core/AuthorizeAnswer" own_lay1 [.null, (.ref p1), .null, (.ref p2)]) :
    own_Met l Z (⟨"com/example/valet3/valet3/core/AuthorizeAnswer", "refusal", "()Lcom/example/valet3/valet3/core/AuthorizeRefusal;"⟩ : MethodName) prog_11_method_9_code 1 (some (.object "com/example/valet3/valet3/core/AuthorizeRefusal")) [] ({ frames := 0, cells := 0, slots := 0, locals := 0 } : Room) n0 #[(.ref p0)] h (own_pure .null h) := by
  refine own_met (Ls := #[.val (.ref p0)]) (by first | exact plainFor_of_name (by first | (simp [plainName, overriddenIn]; done) | decide +kernel) | decide +kernel) rfl ?_
  intro p e s m below meth c C
  refine own_aloadN C own_d11_0 rfl rfl (pc' := 1) rfl ?_
  refine own_getO C (own_w hw 49 rfl) Via.refl o_p0 0 rfl rfl own_d11_1 (pc' := 4) rfl ?_
  exact own_areturn C rfl rfl own_d11_4 (by decide) (by decide) ⟨rfl, rfl⟩
set_option maxHeartbeats 2000000 in
theorem own_c12_29 (l : Launch) {Z : State} {a0 : Array Value} (hw : ∀ d ∈ tables_1, d.before a0 Z = true) {n0 : Nat} {h : Heap} {cs : Int32} (S : own_St Z cs) (z0 : n0 ≤ h.size) (old : Old Z n0 h) (p0 : Nat) (p1 : Nat) (p2 : Nat) (o_p0 : own_Ob Z h p0 "com/example/valet3/valet3/core/AuthorizeAnswer" own_lay1 [.null, (.ref p1), .null, (.ref p2)]) :
    own_Met l Z (⟨"com/example/valet3/valet3/core/AuthorizeAnswer", "prompt", "()Lcom/example/valet3/valet3/core/Prompt;"⟩ : MethodName) prog_11_method_11_code 1 (some (.object "com/example/valet3/valet3/core/Prompt")) [] ({ frames := 0, cells := 0, slots := 0, locals := 0 } : Room) n0 #[(.ref p0)] h (own_pure .null h) := by
  refine own_met (Ls := #[.val (.ref p0)]) (by first | exact plainFor_of_name (by first | (simp [plainName, overriddenIn]; done) | decide +kernel) | decide +kernel) rfl ?_
  intro p e s m below meth c C
  refine own_aloadN C own_d12_0 rfl rfl (pc' := 1) rfl ?_
  refine own_getO C (own_w hw 53 rfl) Via.refl o_p0 2 rfl rfl own_d12_1 (pc' := 4) rfl ?_
  exact own_areturn C rfl rfl own_d12_4 (by decide) (by decide) ⟨rfl, rfl⟩
set_option maxHeartbeats 2000000 in
theorem own_c13_30 (l : Launch) {Z : State} {a0 : Array Value} (hw : ∀ d ∈ tables_1, d.before a0 Z = true) {n0 : Nat} {h : Heap} {cs : Int32} (S : own_St Z cs) (z0 : n0 ≤ h.size) (old : Old Z n0 h) (p0 : Nat) (p1 : Nat) (p2 : Nat) (o_p0 : own_Ob Z h p0 "com/example/valet3/valet3/core/AuthorizeAnswer" own_lay1 [.null, (.ref p1), .null, (.ref p2)]) :
    own_Met l Z (⟨"com/example/valet3/valet3/core/AuthorizeAnswer", "location", "()Ljava/lang/String;"⟩ : MethodName) prog_11_method_10_code 1 (some (.object "java/lang/String")) [] ({ frames := 0, cells := 0, slots := 0, locals := 0 } : Room) n0 #[(.ref p0)] h (own_pure (.ref p1) h) := by
  refine own_met (Ls := #[.val (.ref p0)]) (by first | exact plainFor_of_name (by first | (simp [plainName, overriddenIn]; done) | decide +kernel) | decide +kernel) rfl ?_
  intro p e s m below meth c C
  refine own_aloadN C own_d13_0 rfl rfl (pc' := 1) rfl ?_
  refine own_getO C (own_w hw 51 rfl) Via.refl o_p0 1 rfl rfl own_d13_1 (pc' := 4) rfl ?_
  exact own_areturn C rfl rfl own_d13_4 (by decide) (by decide) ⟨rfl, rfl⟩
set_option maxHeartbeats 2000000 in
theorem own_c14_31 (l : Launch) {Z : State} {a0 : Array Value} (hw : ∀ d ∈ tables_1, d.before a0 Z = true) {n0 : Nat} {h : Heap} {cs : Int32} (S : own_St Z cs) (z0 : n0 ≤ h.size) (old : Old Z n0 h) (p0 : Nat) (p1 : Nat) (p2 : Nat) (o_p0 : own_Ob Z h p0 "com/example/valet3/valet3/core/AuthorizeAnswer" own_lay1 [.null, (.ref p1), .null, (.ref p2)]) :
    own_Met l Z (⟨"com/example/valet3/valet3/core/AuthorizeAnswer", "newSession", "()Ljava/lang/String;"⟩ : MethodName) prog_11_method_12_code 1 (some (.object "java/lang/String")) [] ({ frames := 0, cells := 0, slots := 0, locals := 0 } : Room) n0 #[(.ref p0)] h (own_pure (.ref p2) h) := by
  refine own_met (Ls := #[.val (.ref p0)]) (by first | exact plainFor_of_name (by first | (simp [plainName, overriddenIn]; done) | decide +kernel) | decide +kernel) rfl ?_
  intro p e s m below meth c C
  refine own_aloadN C own_d14_0 rfl rfl (pc' := 1) rfl ?_
  refine own_getO C (own_w hw 55 rfl) Via.refl o_p0 3 rfl rfl own_d14_1 (pc' := 4) rfl ?_
  exact own_areturn C rfl rfl own_d14_4 (by decide) (by decide) ⟨rfl, rfl⟩
set_option maxHeartbeats 4000000 in
theorem own_iE4 (l : Launch) {Z : State} {a0 : Array Value} (hw : ∀ d ∈ tables_1, d.before a0 Z = true) {n0 : Nat} {h : Heap} {cs : Int32} (S : own_St Z cs) (z0 : n0 ≤ h.size) (old : Old Z n0 h) (p0 p1 : Nat) (o_p0 : own_Ob Z h p0 "java/lang/String" own_lay0 [(.int (0 : Int32)), .null]) (g_p0 : n0 ≤ p0) :
    ownw_Met l Z (⟨"java/lang/String", "<init>", "([CIILjava/lang/Void;)V"⟩ : MethodName) jdk_42_method_149_code 6 none [] ({ frames := 1, cells := 4, slots := 8, locals := 12 } : Room) n0 consts_1 #[(.ref p0), (.ref p1), (.int (0 : Int32)), (.int (0 : Int32)), .null] h (own_nov fun h' => Keep h h' [p0]) := by
  refine ownw_met (Ls := #[.val (.ref p0), .val (.ref p1), .val (.int (0 : Int32)), .val (.int (0 : Int32)), .val .null, .unset]) (by first | exact plainFor_of_name (by first | (simp [plainName, overriddenIn]; done) | decide +kernel) | decide +kernel) rfl ?_
  intro p e s m below meth c C H
  refine ownw_aloadN C own_d3_0 rfl rfl (pc' := 1) rfl ?_
  refine ownw_init0 C (own_w hw 15 rfl) (own_w hw 16 rfl) (own_w hw 17 rfl) own_d3_1 rfl (W := 0) (Nat.le_of_eq rfl) (by decide) (by decide) (pc' := 4) rfl ?_
  refine ownw_iloadN C own_d3_4 rfl (pc' := 5) rfl ?_
  refine ownw_ifN C own_d3_5 (by decide) (pc' := 8) rfl ?_
  refine ownw_aloadN C own_d3_8 rfl rfl (pc' := 9) rfl ?_
  refine ownw_ldc (text := "") (EL := consts_1) (vs := []) (z := 0) (nn := 0) C (own_w hw 77 rfl) (own_wS hw) (own_EL hw) (List.Mem.head _) H ⟨by simp, by simp⟩ (by decide) rfl own_d3_9 (by simp) (by decide) (by decide) (by decide) (pc' := 11) rfl ?_
  intro vm1 h1 a b C E1 R1 A1 Fc1 Fv1
  refine ownw_getfield C (own_w hw 32 rfl) Via.refl Fv1 own_d3_11 (pc' := 14) rfl ?_
  have o_p0_1 := o_p0.ext E1
  refine ownw_putO C (own_w hw 32 rfl) Via.refl o_p0_1 (own_lay0_ok hw) 1 rfl (vs' := [(.int (0 : Int32)), (.ref b)]) rfl (Or.inr ⟨(own_w hw 33 rfl), rfl, rfl⟩) (own_w hw 5 rfl) (ty := (.array .byte)) (by decide) (by first | rfl | decide) (by first | rfl | decide) g_p0 own_d3_14 (pc' := 17) rfl ?_
  intro h2 W2 o_p0_2
  have S1 : Safe Z consts_1 vm1 h1 p0 := own_safe C.2.1.alike o_p0_1.1 (o_p0_1.get 1 rfl rfl)
  have R2 : CHr Z consts_1 s.vm h vm1 h2 := R1.trans (CHr.wr W2 S1 R1.1)
  have S2 : Safe Z consts_1 vm1 h2 p0 := Safe.wr W2 S1 R1.1 S1
  have lt2 := o_p0_2.lt
  refine ownw_aloadN C own_d3_17 rfl rfl (pc' := 18) rfl ?_
  refine ownw_ldc (text := "") (EL := consts_1) (vs := []) (z := 0) (nn := 0) C (own_w hw 77 rfl) (own_wS hw) (own_EL hw) (List.Mem.head _) R2.1 ⟨by simp, by simp⟩ (by decide) rfl own_d3_18 (by simp) (by decide) (by decide) (by decide) (pc' := 20) rfl ?_
  intro vm3 h3 a' b' C E3 R3 A3 Fc3 Fv3
  refine ownw_getfield C (own_w hw 30 rfl) Via.refl Fc3 own_d3_20 (pc' := 23) rfl ?_
  have o_p0_3 := o_p0_2.ext E3
  refine ownw_putO C (own_w hw 30 rfl) Via.refl o_p0_3 (own_lay0_ok hw) 0 rfl (vs' := [(.int (0 : Int32)), (.ref b)]) rfl (Or.inr ⟨(own_w hw 31 rfl), rfl, rfl⟩) (own_w hw 5 rfl) (ty := .byte) (by decide) (by first | rfl | decide) (by first | rfl | decide) g_p0 own_d3_23 (pc' := 26) rfl ?_
  intro h4 W4 o_p0_4
  refine ownw_narrow (Q' := fun v hh => v = none ∧ hh = h4) (own_return C own_d3_26 (by decide) (by decide) ⟨rfl, rfl⟩) ?_
  rintro _ vm _ hW ⟨rfl, rfl⟩
  have R4 := CHr.wr W4 (R3.safe lt2 S2) R3.1
  have Rz := ((R2.trans R3).trans R4).trans (own_chw C.2.1 (own_EL hw) hW R4.1)
  have q2 := W2.size
  have q4 := W4.size
  have q3 := E3.1
  exact ⟨⟨⟨⟨rfl, ((((Keep.refl h [p0]).ext E1).wr W2 (Or.inl (by simp))).ext E3).wr W4 (Or.inl (by simp))⟩, Rz⟩, by omega⟩, by omega⟩
set_option maxHeartbeats 4000000 in
theorem own_iE1 (l : Launch) {Z : State} {a0 : Array Value} (hw : ∀ d ∈ tables_1, d.before a0 Z = true) {n0 : Nat} {h : Heap} {cs : Int32} (S : own_St Z cs) (z0 : n0 ≤ h.size) (old : Old Z n0 h) (p0 p1 : Nat) (o_p0 : own_Ob Z h p0 "java/lang/String" own_lay0 [(.int (0 : Int32)), .null]) (o_p1 : own_Ar Z h p1 .char "[C" "" []) (g_p0 : n0 ≤ p0) :
    ownw_Met l Z (⟨"java/lang/String", "<init>", "([C)V"⟩ : MethodName) jdk_42_method_3_code 2 none [] ({ frames := 2, cells := 4, slots := 8, locals := 29 } : Room) n0 consts_1 #[(.ref p0), (.ref p1)] h (own_nov fun h' => Keep h h' [p0]) := by
  refine ownw_met (Ls := #[.val (.ref p0), .val (.ref p1)]) (by first | exact plainFor_of_name (by first | (simp [plainName, overriddenIn]; done) | decide +kernel) | decide +kernel) rfl ?_
  intro p e s m below meth c C H
  refine ownw_aloadN C own_d2_0 rfl rfl (pc' := 1) rfl ?_
  refine ownw_aloadN C own_d2_1 rfl rfl (pc' := 2) rfl ?_
  refine ownw_iconst C (v := (0 : Int32)) own_d2_2 (by decide) (pc' := 3) rfl ?_
  refine ownw_aloadN C own_d2_3 rfl rfl (pc' := 4) rfl ?_
  refine ownw_arraylength C (z := (0 : Int32)) o_p1 (by rfl) own_d2_4 (pc' := 5) rfl ?_
  refine ownw_aconst_null C own_d2_5 (pc' := 6) rfl ?_
  refine ownw_callI C rfl (own_iE4 l hw S z0 old p0 p1 o_p0 g_p0) (own_EL hw) H (own_w hw 11 rfl) (own_w hw 12 rfl) (own_w hw 6 rfl) (own_w hw 14 rfl) (by decide) own_d2_6 rfl (argsL := [(.ref p1), (.int (0 : Int32)), (.int (0 : Int32)), .null]) (rest := []) rfl (lenOf own_pd0 rfl) (W := 0) (Nat.le_of_eq rfl) (by decide) (by decide) (by decide) (by decide) (pc' := 9) rfl ?_
  intro vm1 h1 C K1 g1 R1
  refine ownw_narrow (Q' := fun v hh => v = none ∧ hh = h1) (own_return C own_d2_9 (by decide) (by decide) ⟨rfl, rfl⟩) ?_
  rintro _ vm _ hW ⟨rfl, rfl⟩
  exact ⟨⟨⟨rfl, K1⟩, R1.trans (own_chw C.2.1 (own_EL hw) hW R1.1)⟩, Nat.le_refl _⟩
set_option maxHeartbeats 4000000 in
theorem own_drE (l : Launch) {Z : State} {a0 : Array Value} (hw : ∀ d ∈ tables_1, d.before a0 Z = true) {n0 : Nat} {h : Heap} {cs : Int32} (S : own_St Z cs) (z0 : n0 ≤ h.size) (old : Old Z n0 h) (sel vx vy : Int32) (rq0 : (sel &&& (1 : Int32)) = (0 : Int32)) (rq1 : ¬ (sel &&& (2 : Int32)) = (0 : Int32)) :
    ownw_Met l Z (⟨"com/example/valet3/valet3/core/AuthorizeAnswerRedirectPinLaw", "draw", "(III)Ljava/lang/String;"⟩ : MethodName) method_2_code 3 (some (.object "java/lang/String")) [] ({ frames := 5, cells := 6, slots := 12, locals := 90 } : Room) n0 consts_1 #[(.int sel), (.int vx), (.int vy)] h (own_val fun w h' => (w = .null ∨ ∃ b : Nat, w = .ref b) ∧ Keep h h' []) := by
  refine ownw_met (Ls := #[.val (.int sel), .val (.int vx), .val (.int vy)]) (by first | exact plainFor_of_name (by first | (simp [plainName, overriddenIn]; done) | decide +kernel) | decide +kernel) rfl ?_
  intro p e s m below meth c C H
  refine ownw_iloadN C own_d1_0 rfl (pc' := 1) rfl ?_
  refine ownw_iconst C (v := (1 : Int32)) own_d1_1 (by decide) (pc' := 2) rfl ?_
  refine ownw_iand C own_d1_2 rfl (pc' := 3) rfl ?_
  refine ownw_ifY C own_d1_3 ((if0 _ _).trans (teq rq0).1) (by decide) (pc' := 8) (by decide) ?_
  refine ownw_iloadN C own_d1_8 rfl (pc' := 9) rfl ?_
  refine ownw_iconst C (v := (2 : Int32)) own_d1_9 (by decide) (pc' := 10) rfl ?_
  refine ownw_iand C own_d1_10 rfl (pc' := 11) rfl ?_
  refine ownw_ifN C own_d1_11 ((if0 _ _).trans (feq rq1).1) (pc' := 14) rfl ?_
  refine ownw_newO C (own_w hw 4 rfl) (own_w hw 5 rfl) (own_w hw 6 rfl) (own_lay0_ok hw) own_lay0_df own_d1_14 (by decide) (by decide) (pc' := 17) rfl ?_
  intro h1 b1 g1 E1 o_b1
  have s1 : h.size ≤ h1.size := E1.1
  have k1 : Keep h h1 [] := (Keep.refl h []).ext E1
  have t1 := o_b1.lt
  refine ownw_dup C own_d1_17 rfl (pc' := 18) rfl ?_
  refine ownw_iconst C (v := (0 : Int32)) own_d1_18 (by decide) (pc' := 19) rfl ?_
  refine ownw_newarray C (aty := .char) (own_w hw 7 rfl) (by decide) (cap := 0) (by decide) (by decide) (ad := "[C") (by decide +kernel) (vs := []) (by rfl) own_d1_19 (by decide) (by decide) (pc' := 21) rfl ?_
  intro h2 b2 g2 E2 o_b2
  have s2 : h1.size ≤ h2.size := E2.1
  have k2 : Keep h h2 [] := k1.ext E2
  have o_b2 : own_Ar Z h2 b2 .char "[C" "" [] := o_b2
  have t2 := o_b2.lt
  have o_b1_2 := (o_b1.ext E2)
  have old2 := ((old.ext E1).ext E2)
  have zz2 : n0 ≤ h2.size := by omega
  have e_b1 : n0 ≤ (b1 : Nat) := by omega
  have q_b1 : h.size ≤ (b1 : Nat) := by omega
  have R2 : CHr Z consts_1 s.vm h s.vm h2 := (CHr.ext E1 H).trans (CHr.ext E2 (CHr.ext E1 H).1)
  refine ownw_callI C rfl (own_iE1 l hw S zz2 old2 b1 b2 o_b1_2 o_b2 e_b1) (own_EL hw) R2.1 (own_w hw 8 rfl) (own_w hw 9 rfl) (own_w hw 6 rfl) (own_w hw 10 rfl) (by decide) own_d1_21 rfl (argsL := [(.ref b2)]) (rest := [(.ref b1)]) rfl (lenOf own_pd1 rfl) (W := 1) (Nat.le_of_eq rfl) (by decide) (by decide) (by decide) (by decide) (pc' := 24) rfl ?_
  intro vm3 h3 C K3 g3 R3
  refine ownw_narrow (Q' := fun v hh => v = some (.ref b1) ∧ hh = h3) (own_areturn C rfl rfl own_d1_24 (by decide) (by decide) ⟨rfl, rfl⟩) ?_
  rintro _ vm _ hW ⟨rfl, rfl⟩
  exact ⟨⟨⟨_, rfl, Or.inr ⟨_, rfl⟩, k2.trans K3 (allS (Or.inr q_b1) all0)⟩, (R2.trans R3).trans (own_chw C.2.1 (own_EL hw) hW R3.1)⟩, Nat.le_refl _⟩
set_option maxHeartbeats 4000000 in
theorem own_draw (l : Launch) {Z : State} {a0 : Array Value} (hw : ∀ d ∈ tables_1, d.before a0 Z = true) {n0 : Nat} {h : Heap} {cs : Int32} (S : own_St Z cs) (z0 : n0 ≤ h.size) (old : Old Z n0 h) (sel vx vy : Int32) :
    ownw_Met l Z (⟨"com/example/valet3/valet3/core/AuthorizeAnswerRedirectPinLaw", "draw", "(III)Ljava/lang/String;"⟩ : MethodName) method_2_code 3 (some (.object "java/lang/String")) [] ({ frames := 5, cells := 6, slots := 12, locals := 90 } : Room) n0 consts_1 #[(.int sel), (.int vx), (.int vy)] h (own_val fun w h' => (w = .null ∨ ∃ b : Nat, w = .ref b) ∧ Keep h h' []) := by
  by_cases q1 : (sel &&& (1 : Int32)) = (0 : Int32)
  · by_cases q2 : (sel &&& (2 : Int32)) = (0 : Int32)
    · have rq0 : (sel &&& (1 : Int32)) = (0 : Int32) := by first | exact q1 | exact q2 | exact own_low _
      have rq1 : (sel &&& (2 : Int32)) = (0 : Int32) := by first | exact q1 | exact q2 | exact own_low _
      have rq2 : ¬ (255 : Int32) < (nar .char ((vx &&& (255 : Int32)).toUInt32.toUInt16.toUInt32.toInt32)) := by first | exact q1 | exact q2 | exact own_low _
      have rq3 : ¬ (255 : Int32) < (nar .char ((vy &&& (255 : Int32)).toUInt32.toUInt16.toUInt32.toInt32)) := by first | exact q1 | exact q2 | exact own_low _
      refine ownw_wide (own_EL hw) (own_c1_6 l hw S z0 old sel vx vy rq0 rq1 rq2 rq3) ?_
      rintro _ h' ⟨_, rfl, b, rfl, K, _⟩
      exact ⟨⟨_, rfl, Or.inr ⟨b, rfl⟩, K⟩, K⟩
    · have rq0 : (sel &&& (1 : Int32)) = (0 : Int32) := by first | exact q1 | exact q2 | exact own_low _
      have rq1 : ¬ (sel &&& (2 : Int32)) = (0 : Int32) := by first | exact q1 | exact q2 | exact own_low _
      exact own_drE l hw S z0 old sel vx vy rq0 rq1
  · have rq0 : ¬ (sel &&& (1 : Int32)) = (0 : Int32) := by first | exact q1 | exact q2 | exact own_low _
    refine ownw_wide (own_EL hw) (own_c1_0 l hw S z0 old sel vx vy rq0) ?_
    rintro _ _ ⟨rfl, rfl⟩
    exact ⟨⟨_, rfl, Or.inl rfl, Keep.refl _ _⟩, Keep.refl _ _⟩
set_option maxHeartbeats 4000000 in
theorem own_tailNN (l : Launch) {Z : State} {a0 : Array Value} (hw : ∀ d ∈ tables_1, d.before a0 Z = true) {n0 : Nat} {h : Heap} {cs : Int32} (S : own_St Z cs) (z0 : n0 ≤ h.size) (old : Old Z n0 h) (x0 x1 x2 x3 x4 : Int32) (q1 q2 : Nat) {p : Program} {e : Env} {s : State} {m : MethodId} {args : Array Value} {below : List Frame} {meth : Method} {c : Code} (C : own_Cx Z p s m meth c x.cls code maxLocals ret x.name) :
    own_At p l e room_1 s m args below meth c n0 (fun v hh => v = some (.int 1) ∧ Keep h hh []) h 12 24 (mkF m 20 #[.val (.int x0), .val (.int x1), .val (.int x2), .val (.int x3), .val (.int x4), .val .null, .val .null, .unset] []) := by
  refine own_aload C at_20 rfl rfl (pc' := 22) rfl ?_
  refine own_aload C at_22 rfl rfl (pc' := 24) rfl ?_
  refine own_callS C (own_c8_9 l hw S z0 old) (own_w hw 34 rfl) (own_w hw 35 rfl) (own_w hw 36 rfl) (own_w hw 37 rfl) (by decide) at_24 rfl (argsL := [.null, .null]) (rest := []) rfl (lenOf own_pd7 rfl) (W := 0) (Nat.le_of_eq rfl) (by decide) (by decide) (by decide) (by decide) (pc' := 27) rfl ?_
  rintro _ h1 ⟨b1_0, rfl, K1, l1_0, l1_1, o_b1_0_1⟩
  have s1 : h.size ≤ h1.size := K1.1
  have k1 : Keep h h1 [] := (Keep.refl h []).trans K1 all0
  refine own_astore C (Ls' := #[.val (.int x0), .val (.int x1), .val (.int x2), .val (.int x3), .val (.int x4), .val .null, .val .null, .val (.ref b1_0)]) at_27 rfl rfl (pc' := 29) rfl ?_
  refine own_aload C at_29 rfl rfl (pc' := 31) rfl ?_
  refine own_nonnullY C at_31 (by decide) (pc' := 36) (by decide) ?_
  refine own_aload C at_36 rfl rfl (pc' := 38) rfl ?_
  have zz1 : n0 ≤ h1.size := by omega
  have old1 := (old.keep K1 all0)
  refine own_callVp C o_b1_0_1.1 (own_c11_10 l hw S zz1 old1 b1_0 o_b1_0_1) (own_w hw 57 rfl) (own_w hw 58 rfl) (own_w hw 60 rfl) (own_w hw 59 rfl) (own_w hw 36 rfl) (own_w hw 61 rfl) (by decide) at_38 rfl (argsL := []) (rest := []) rfl (lenOf own_pd8 rfl) (W := 0) (Nat.le_of_eq rfl) (by decide) (by decide) (by decide) (by decide) (by decide) (by decide) (pc' := 41) rfl ?_
  refine own_nonnullN C at_41 (pc' := 44) rfl ?_
  refine own_aload C at_44 rfl rfl (pc' := 46) rfl ?_
  refine own_callVp C o_b1_0_1.1 (own_c12_11 l hw S zz1 old1 b1_0 o_b1_0_1) (own_w hw 62 rfl) (own_w hw 63 rfl) (own_w hw 65 rfl) (own_w hw 64 rfl) (own_w hw 36 rfl) (own_w hw 66 rfl) (by decide) at_46 rfl (argsL := []) (rest := []) rfl (lenOf own_pd9 rfl) (W := 0) (Nat.le_of_eq rfl) (by decide) (by decide) (by decide) (by decide) (by decide) (by decide) (pc' := 49) rfl ?_
  refine own_nonnullN C at_49 (pc' := 52) rfl ?_
  refine own_aload C at_52 rfl rfl (pc' := 54) rfl ?_
  refine own_callVp C o_b1_0_1.1 (own_c13_12 l hw S zz1 old1 b1_0 o_b1_0_1) (own_w hw 67 rfl) (own_w hw 68 rfl) (own_w hw 70 rfl) (own_w hw 69 rfl) (own_w hw 36 rfl) (own_w hw 71 rfl) (by decide) at_54 rfl (argsL := []) (rest := []) rfl (lenOf own_pd10 rfl) (W := 0) (Nat.le_of_eq rfl) (by decide) (by decide) (by decide) (by decide) (by decide) (by decide) (pc' := 57) rfl ?_
  refine own_aload C at_57 rfl rfl (pc' := 59) rfl ?_
  refine own_acmp C (same := true) at_59 rfl rfl (decide_eq_true rfl) (by decide) (pc' := 62) (by decide) ?_
  refine own_aload C at_62 rfl rfl (pc' := 64) rfl ?_
  refine own_callVp C o_b1_0_1.1 (own_c14_13 l hw S zz1 old1 b1_0 o_b1_0_1) (own_w hw 72 rfl) (own_w hw 73 rfl) (own_w hw 75 rfl) (own_w hw 74 rfl) (own_w hw 36 rfl) (own_w hw 76 rfl) (by decide) at_64 rfl (argsL := []) (rest := []) rfl (lenOf own_pd10 rfl) (W := 0) (Nat.le_of_eq rfl) (by decide) (by decide) (by decide) (by decide) (by decide) (by decide) (pc' := 67) rfl ?_
  refine own_aload C at_67 rfl rfl (pc' := 69) rfl ?_
  refine own_acmp C (same := true) at_69 rfl rfl (decide_eq_true rfl) (by decide) (pc' := 72) (by decide) ?_
  refine own_iconst C (v := (1 : Int32)) at_72 (by decide) (pc' := 73) rfl ?_
  refine own_goto C at_73 (by decide) (pc' := 77) (by decide) ?_
  exact own_ireturn C (by simp) rfl at_77 (by decide) (by decide) ⟨rfl, k1⟩
set_option maxHeartbeats 4000000 in
theorem own_tailNR (l : Launch) {Z : State} {a0 : Array Value} (hw : ∀ d ∈ tables_1, d.before a0 Z = true) {n0 : Nat} {h : Heap} {cs : Int32} (S : own_St Z cs) (z0 : n0 ≤ h.size) (old : Old Z n0 h) (x0 x1 x2 x3 x4 : Int32) (q1 q2 : Nat) {p : Program} {e : Env} {s : State} {m : MethodId} {args : Array Value} {below : List Frame} {meth : Method} {c : Code} (C : own_Cx Z p s m meth c x.cls code maxLocals ret x.name) :
    own_At p l e room_1 s m args below meth c n0 (fun v hh => v = some (.int 1) ∧ Keep h hh []) h 12 24 (mkF m 20 #[.val (.int x0), .val (.int x1), .val (.int x2), .val (.int x3), .val (.int x4), .val .null, .val (.ref q2), .unset] []) := by
  refine own_aload C at_20 rfl rfl (pc' := 22) rfl ?_
  refine own_aload C at_22 rfl rfl (pc' := 24) rfl ?_
  refine own_callS C (own_c8_15 l hw S z0 old q2) (own_w hw 34 rfl) (own_w hw 35 rfl) (own_w hw 36 rfl) (own_w hw 37 rfl) (by decide) at_24 rfl (argsL := [.null, (.ref q2)]) (rest := []) rfl (lenOf own_pd7 rfl) (W := 0) (Nat.le_of_eq rfl) (by decide) (by decide) (by decide) (by decide) (pc' := 27) rfl ?_
  rintro _ h1 ⟨b1_0, rfl, K1, l1_0, l1_1, o_b1_0_1⟩
  have s1 : h.size ≤ h1.size := K1.1
  have k1 : Keep h h1 [] := (Keep.refl h []).trans K1 all0
  refine own_astore C (Ls' := #[.val (.int x0), .val (.int x1), .val (.int x2), .val (.int x3), .val (.int x4), .val .null, .val (.ref q2), .val (.ref b1_0)]) at_27 rfl rfl (pc' := 29) rfl ?_
  refine own_aload C at_29 rfl rfl (pc' := 31) rfl ?_
  refine own_nonnullY C at_31 (by decide) (pc' := 36) (by decide) ?_
  refine own_aload C at_36 rfl rfl (pc' := 38) rfl ?_
  have zz1 : n0 ≤ h1.size := by omega
  have old1 := (old.keep K1 all0)
  refine own_callVp C o_b1_0_1.1 (own_c11_16 l hw S zz1 old1 b1_0 q2 o_b1_0_1) (own_w hw 57 rfl) (own_w hw 58 rfl) (own_w hw 60 rfl) (own_w hw 59 rfl) (own_w hw 36 rfl) (own_w hw 61 rfl) (by decide) at_38 rfl (argsL := []) (rest := []) rfl (lenOf own_pd8 rfl) (W := 0) (Nat.le_of_eq rfl) (by decide) (by decide) (by decide) (by decide) (by decide) (by decide) (pc' := 41) rfl ?_
  refine own_nonnullN C at_41 (pc' := 44) rfl ?_
  refine own_aload C at_44 rfl rfl (pc' := 46) rfl ?_
  refine own_callVp C o_b1_0_1.1 (own_c12_17 l hw S zz1 old1 b1_0 q2 o_b1_0_1) (own_w hw 62 rfl) (own_w hw 63 rfl) (own_w hw 65 rfl) (own_w hw 64 rfl) (own_w hw 36 rfl) (own_w hw 66 rfl) (by decide) at_46 rfl (argsL := []) (rest := []) rfl (lenOf own_pd9 rfl) (W := 0) (Nat.le_of_eq rfl) (by decide) (by decide) (by decide) (by decide) (by decide) (by decide) (pc' := 49) rfl ?_
  refine own_nonnullN C at_49 (pc' := 52) rfl ?_
  refine own_aload C at_52 rfl rfl (pc' := 54) rfl ?_
  refine own_callVp C o_b1_0_1.1 (own_c13_18 l hw S zz1 old1 b1_0 q2 o_b1_0_1) (own_w hw 67 rfl) (own_w hw 68 rfl) (own_w hw 70 rfl) (own_w hw 69 rfl) (own_w hw 36 rfl) (own_w hw 71 rfl) (by decide) at_54 rfl (argsL := []) (rest := []) rfl (lenOf own_pd10 rfl) (W := 0) (Nat.le_of_eq rfl) (by decide) (by decide) (by decide) (by decide) (by decide) (by decide) (pc' := 57) rfl ?_
  refine own_aload C at_57 rfl rfl (pc' := 59) rfl ?_
  refine own_acmp C (same := true) at_59 rfl rfl (decide_eq_true rfl) (by decide) (pc' := 62) (by decide) ?_
  refine own_aload C at_62 rfl rfl (pc' := 64) rfl ?_
  refine own_callVp C o_b1_0_1.1 (own_c14_19 l hw S zz1 old1 b1_0 q2 o_b1_0_1) (own_w hw 72 rfl) (own_w hw 73 rfl) (own_w hw 75 rfl) (own_w hw 74 rfl) (own_w hw 36 rfl) (own_w hw 76 rfl) (by decide) at_64 rfl (argsL := []) (rest := []) rfl (lenOf own_pd10 rfl) (W := 0) (Nat.le_of_eq rfl) (by decide) (by decide) (by decide) (by decide) (by decide) (by decide) (pc' := 67) rfl ?_
  refine own_aload C at_67 rfl rfl (pc' := 69) rfl ?_
  refine own_acmp C (same := true) at_69 rfl rfl (own_same _) (by decide) (pc' := 72) (by decide) ?_
  refine own_iconst C (v := (1 : Int32)) at_72 (by decide) (pc' := 73) rfl ?_
  refine own_goto C at_73 (by decide) (pc' := 77) (by decide) ?_
  exact own_ireturn C (by simp) rfl at_77 (by decide) (by decide) ⟨rfl, k1⟩
set_option maxHeartbeats 4000000 in
theorem own_tailRN (l : Launch) {Z : State} {a0 : Array Value} (hw : ∀ d ∈ tables_1, d.before a0 Z = true) {n0 : Nat} {h : Heap} {cs : Int32} (S : own_St Z cs) (z0 : n0 ≤ h.size) (old : Old Z n0 h) (x0 x1 x2 x3 x4 : Int32) (q1 q2 : Nat) {p : Program} {e : Env} {s : State} {m : MethodId} {args : Array Value} {below : List Frame} {meth : Method} {c : Code} (C : own_Cx Z p s m meth c x.cls code maxLocals ret x.name) :
    own_At p l e room_1 s m args below meth c n0 (fun v hh => v = some (.int 1) ∧ Keep h hh []) h 12 24 (mkF m 20 #[.val (.int x0), .val (.int x1), .val (.int x2), .val (.int x3), .val (.int x4), .val (.ref q1), .val .null, .unset] []) := by
  refine own_aload C at_20 rfl rfl (pc' := 22) rfl ?_
  refine own_aload C at_22 rfl rfl (pc' := 24) rfl ?_
  refine own_callS C (own_c8_21 l hw S z0 old q1) (own_w hw 34 rfl) (own_w hw 35 rfl) (own_w hw 36 rfl) (own_w hw 37 rfl) (by decide) at_24 rfl (argsL := [(.ref q1), .null]) (rest := []) rfl (lenOf own_pd7 rfl) (W := 0) (Nat.le_of_eq rfl) (by decide) (by decide) (by decide) (by decide) (pc' := 27) rfl ?_
  rintro _ h1 ⟨b1_0, rfl, K1, l1_0, l1_1, o_b1_0_1⟩
  have s1 : h.size ≤ h1.size := K1.1
  have k1 : Keep h h1 [] := (Keep.refl h []).trans K1 all0
  refine own_astore C (Ls' := #[.val (.int x0), .val (.int x1), .val (.int x2), .val (.int x3), .val (.int x4), .val (.ref q1), .val .null, .val (.ref b1_0)]) at_27 rfl rfl (pc' := 29) rfl ?_
  refine own_aload C at_29 rfl rfl (pc' := 31) rfl ?_
  refine own_nonnullY C at_31 (by decide) (pc' := 36) (by decide) ?_
  refine own_aload C at_36 rfl rfl (pc' := 38) rfl ?_
  have zz1 : n0 ≤ h1.size := by omega
  have old1 := (old.keep K1 all0)
  refine own_callVp C o_b1_0_1.1 (own_c11_22 l hw S zz1 old1 b1_0 q1 o_b1_0_1) (own_w hw 57 rfl) (own_w hw 58 rfl) (own_w hw 60 rfl) (own_w hw 59 rfl) (own_w hw 36 rfl) (own_w hw 61 rfl) (by decide) at_38 rfl (argsL := []) (rest := []) rfl (lenOf own_pd8 rfl) (W := 0) (Nat.le_of_eq rfl) (by decide) (by decide) (by decide) (by decide) (by decide) (by decide) (pc' := 41) rfl ?_
  refine own_nonnullN C at_41 (pc' := 44) rfl ?_
  refine own_aload C at_44 rfl rfl (pc' := 46) rfl ?_
  refine own_callVp C o_b1_0_1.1 (own_c12_23 l hw S zz1 old1 b1_0 q1 o_b1_0_1) (own_w hw 62 rfl) (own_w hw 63 rfl) (own_w hw 65 rfl) (own_w hw 64 rfl) (own_w hw 36 rfl) (own_w hw 66 rfl) (by decide) at_46 rfl (argsL := []) (rest := []) rfl (lenOf own_pd9 rfl) (W := 0) (Nat.le_of_eq rfl) (by decide) (by decide) (by decide) (by decide) (by decide) (by decide) (pc' := 49) rfl ?_
  refine own_nonnullN C at_49 (pc' := 52) rfl ?_
  refine own_aload C at_52 rfl rfl (pc' := 54) rfl ?_
  refine own_callVp C o_b1_0_1.1 (own_c13_24 l hw S zz1 old1 b1_0 q1 o_b1_0_1) (own_w hw 67 rfl) (own_w hw 68 rfl) (own_w hw 70 rfl) (own_w hw 69 rfl) (own_w hw 36 rfl) (own_w hw 71 rfl) (by decide) at_54 rfl (argsL := []) (rest := []) rfl (lenOf own_pd10 rfl) (W := 0) (Nat.le_of_eq rfl) (by decide) (by decide) (by decide) (by decide) (by decide) (by decide) (pc' := 57) rfl ?_
  refine own_aload C at_57 rfl rfl (pc' := 59) rfl ?_
  refine own_acmp C (same := true) at_59 rfl rfl (own_same _) (by decide) (pc' := 62) (by decide) ?_
  refine own_aload C at_62 rfl rfl (pc' := 64) rfl ?_
  refine own_callVp C o_b1_0_1.1 (own_c14_25 l hw S zz1 old1 b1_0 q1 o_b1_0_1) (own_w hw 72 rfl) (own_w hw 73 rfl) (own_w hw 75 rfl) (own_w hw 74 rfl) (own_w hw 36 rfl) (own_w hw 76 rfl) (by decide) at_64 rfl (argsL := []) (rest := []) rfl (lenOf own_pd10 rfl) (W := 0) (Nat.le_of_eq rfl) (by decide) (by decide) (by decide) (by decide) (by decide) (by decide) (pc' := 67) rfl ?_
  refine own_aload C at_67 rfl rfl (pc' := 69) rfl ?_
  refine own_acmp C (same := true) at_69 rfl rfl (decide_eq_true rfl) (by decide) (pc' := 72) (by decide) ?_
  refine own_iconst C (v := (1 : Int32)) at_72 (by decide) (pc' := 73) rfl ?_
  refine own_goto C at_73 (by decide) (pc' := 77) (by decide) ?_
  exact own_ireturn C (by simp) rfl at_77 (by decide) (by decide) ⟨rfl, k1⟩
set_option maxHeartbeats 4000000 in
theorem own_tailRR (l : Launch) {Z : State} {a0 : Array Value} (hw : ∀ d ∈ tables_1, d.before a0 Z = true) {n0 : Nat} {h : Heap} {cs : Int32} (S : own_St Z cs) (z0 : n0 ≤ h.size) (old : Old Z n0 h) (x0 x1 x2 x3 x4 : Int32) (q1 q2 : Nat) {p : Program} {e : Env} {s : State} {m : MethodId} {args : Array Value} {below : List Frame} {meth : Method} {c : Code} (C : own_Cx Z p s m meth c x.cls code maxLocals ret x.name) :
    own_At p l e room_1 s m args below meth c n0 (fun v hh => v = some (.int 1) ∧ Keep h hh []) h 12 24 (mkF m 20 #[.val (.int x0), .val (.int x1), .val (.int x2), .val (.int x3), .val (.int x4), .val (.ref q1), .val (.ref q2), .unset] []) := by
  refine own_aload C at_20 rfl rfl (pc' := 22) rfl ?_
  refine own_aload C at_22 rfl rfl (pc' := 24) rfl ?_
  refine own_callS C (own_c8_27 l hw S z0 old q1 q2) (own_w hw 34 rfl) (own_w hw 35 rfl) (own_w hw 36 rfl) (own_w hw 37 rfl) (by decide) at_24 rfl (argsL := [(.ref q1), (.ref q2)]) (rest := []) rfl (lenOf own_pd7 rfl) (W := 0) (Nat.le_of_eq rfl) (by decide) (by decide) (by decide) (by decide) (pc' := 27) rfl ?_
  rintro _ h1 ⟨b1_0, rfl, K1, l1_0, l1_1, o_b1_0_1⟩
  have s1 : h.size ≤ h1.size := K1.1
  have k1 : Keep h h1 [] := (Keep.refl h []).trans K1 all0
  refine own_astore C (Ls' := #[.val (.int x0), .val (.int x1), .val (.int x2), .val (.int x3), .val (.int x4), .val (.ref q1), .val (.ref q2), .val (.ref b1_0)]) at_27 rfl rfl (pc' := 29) rfl ?_
  refine own_aload C at_29 rfl rfl (pc' := 31) rfl ?_
  refine own_nonnullY C at_31 (by decide) (pc' := 36) (by decide) ?_
  refine own_aload C at_36 rfl rfl (pc' := 38) rfl ?_
  have zz1 : n0 ≤ h1.size := by omega
  have old1 := (old.keep K1 all0)
  refine own_callVp C o_b1_0_1.1 (own_c11_28 l hw S zz1 old1 b1_0 q1 q2 o_b1_0_1) (own_w hw 57 rfl) (own_w hw 58 rfl) (own_w hw 60 rfl) (own_w hw 59 rfl) (own_w hw 36 rfl) (own_w hw 61 rfl) (by decide) at_38 rfl (argsL := []) (rest := []) rfl (lenOf own_pd8 rfl) (W := 0) (Nat.le_of_eq rfl) (by decide) (by decide) (by decide) (by decide) (by decide) (by decide) (pc' := 41) rfl ?_
  refine own_nonnullN C at_41 (pc' := 44) rfl ?_
  refine own_aload C at_44 rfl rfl (pc' := 46) rfl ?_
  refine own_callVp C o_b1_0_1.1 (own_c12_29 l hw S zz1 old1 b1_0 q1 q2 o_b1_0_1) (own_w hw 62 rfl) (own_w hw 63 rfl) (own_w hw 65 rfl) (own_w hw 64 rfl) (own_w hw 36 rfl) (own_w hw 66 rfl) (by decide) at_46 rfl (argsL := []) (rest := []) rfl (lenOf own_pd9 rfl) (W := 0) (Nat.le_of_eq rfl) (by decide) (by decide) (by decide) (by decide) (by decide) (by decide) (pc' := 49) rfl ?_
  refine own_nonnullN C at_49 (pc' := 52) rfl ?_
  refine own_aload C at_52 rfl rfl (pc' := 54) rfl ?_
  refine own_callVp C o_b1_0_1.1 (own_c13_30 l hw S zz1 old1 b1_0 q1 q2 o_b1_0_1) (own_w hw 67 rfl) (own_w hw 68 rfl) (own_w hw 70 rfl) (own_w hw 69 rfl) (own_w hw 36 rfl) (own_w hw 71 rfl) (by decide) at_54 rfl (argsL := []) (rest := []) rfl (lenOf own_pd10 rfl) (W := 0) (Nat.le_of_eq rfl) (by decide) (by decide) (by decide) (by decide) (by decide) (by decide) (pc' := 57) rfl ?_
  refine own_aload C at_57 rfl rfl (pc' := 59) rfl ?_
  refine own_acmp C (same := true) at_59 rfl rfl (own_same _) (by decide) (pc' := 62) (by decide) ?_
  refine own_aload C at_62 rfl rfl (pc' := 64) rfl ?_
  refine own_callVp C o_b1_0_1.1 (own_c14_31 l hw S zz1 old1 b1_0 q1 q2 o_b1_0_1) (own_w hw 72 rfl) (own_w hw 73 rfl) (own_w hw 75 rfl) (own_w hw 74 rfl) (own_w hw 36 rfl) (own_w hw 76 rfl) (by decide) at_64 rfl (argsL := []) (rest := []) rfl (lenOf own_pd10 rfl) (W := 0) (Nat.le_of_eq rfl) (by decide) (by decide) (by decide) (by decide) (by decide) (by decide) (pc' := 67) rfl ?_
  refine own_aload C at_67 rfl rfl (pc' := 69) rfl ?_
  refine own_acmp C (same := true) at_69 rfl rfl (own_same _) (by decide) (pc' := 72) (by decide) ?_
  refine own_iconst C (v := (1 : Int32)) at_72 (by decide) (pc' := 73) rfl ?_
  refine own_goto C at_73 (by decide) (pc' := 77) (by decide) ?_
  exact own_ireturn C (by simp) rfl at_77 (by decide) (by decide) ⟨rfl, k1⟩
set_option maxHeartbeats 4000000 in
theorem own_law (l : Launch) {Z : State} {a0 : Array Value} (hw : ∀ d ∈ tables_1, d.before a0 Z = true) {n0 : Nat} {h : Heap} {cs : Int32} (S : own_St Z cs) (z0 : n0 ≤ h.size) (old : Old Z n0 h) (x0 x1 x2 x3 x4 : Int32) :
    ownw_Met l Z x code maxLocals ret tables_1 room_1 n0 consts_1 #[(.int x0), (.int x1), (.int x2), (.int x3), (.int x4)] h (fun v _ => v = some (.int 1)) := by
  refine ownw_met (Ls := #[.val (.int x0), .val (.int x1), .val (.int x2), .val (.int x3), .val (.int x4), .unset, .unset, .unset]) (by first | exact plainFor_of_name (by first | (simp [x, plainName, overriddenIn]; done) | decide +kernel) | decide +kernel) rfl ?_
  intro p e s m below meth c C H
  refine ownw_iload C at_0 rfl (pc' := 2) rfl ?_
  refine ownw_iloadN C at_2 rfl (pc' := 3) rfl ?_
  refine ownw_iloadN C at_3 rfl (pc' := 4) rfl ?_
  refine ownw_callS C (own_draw l hw S z0 old (x4) (x0) (x1)) (own_EL hw) H (own_w hw 0 rfl) (own_w hw 1 rfl) (own_w hw 2 rfl) (own_w hw 3 rfl) (by decide) at_4 rfl (argsL := [(.int x4), (.int x0), (.int x1)]) (rest := []) rfl (lenOf own_pd11 rfl) (W := 0) (Nat.le_of_eq rfl) (by decide) (by decide) (by decide) (by decide) (pc' := 7) rfl ?_
  intro vm1 w1 h1 C P1 g1 R1
  obtain ⟨D1, K1⟩ := P1
  have r1 : w1.isRef = true := by rcases D1 with rfl | ⟨_, rfl⟩ <;> rfl
  have z1 : n0 ≤ h1.size := Nat.le_trans z0 g1
  have old1 := old.keep K1 all0
  refine ownw_astore C (Ls' := #[.val (.int x0), .val (.int x1), .val (.int x2), .val (.int x3), .val (.int x4), .val w1, .unset, .unset]) at_7 r1 (by rcases D1 with rfl | ⟨_, rfl⟩ <;> rfl) (pc' := 9) rfl ?_
  refine ownw_iload C at_9 rfl (pc' := 11) rfl ?_
  refine ownw_iconst C (v := (2 : Int32)) at_11 (by decide) (pc' := 12) rfl ?_
  refine ownw_ishr C at_12 rfl (pc' := 13) rfl ?_
  refine ownw_iloadN C at_13 rfl (pc' := 14) rfl ?_
  refine ownw_iloadN C at_14 rfl (pc' := 15) rfl ?_
  refine ownw_callS C (own_draw l hw S z1 old1 ((x4 >>> ((2 : Int32) &&& 31))) (x2) (x3)) (own_EL hw) R1.1 (own_w hw 0 rfl) (own_w hw 1 rfl) (own_w hw 2 rfl) (own_w hw 3 rfl) (by decide) at_15 rfl (argsL := [(.int (x4 >>> ((2 : Int32) &&& 31))), (.int x2), (.int x3)]) (rest := []) rfl (lenOf own_pd11 rfl) (W := 0) (Nat.le_of_eq rfl) (by decide) (by decide) (by decide) (by decide) (pc' := 18) rfl ?_
  intro vm2 w2 h2 C P2 g2 R2
  obtain ⟨D2, K2⟩ := P2
  have r2 : w2.isRef = true := by rcases D2 with rfl | ⟨_, rfl⟩ <;> rfl
  have z2 : n0 ≤ h2.size := Nat.le_trans z1 g2
  have old2 := old1.keep K2 all0
  refine ownw_astore C (Ls' := #[.val (.int x0), .val (.int x1), .val (.int x2), .val (.int x3), .val (.int x4), .val w1, .val w2, .unset]) at_18 r2 (by rcases D2 with rfl | ⟨_, rfl⟩ <;> rfl) (pc' := 20) rfl ?_
  refine ownw_narrow (Q' := fun v hh => v = some (.int 1) ∧ Keep h2 hh []) ?_ ?_
  · rcases D1 with rfl | ⟨q1, rfl⟩ <;> rcases D2 with rfl | ⟨q2, rfl⟩
    · exact own_tailNN l hw S z2 old2 x0 x1 x2 x3 x4 0 0 C
    · exact own_tailNR l hw S z2 old2 x0 x1 x2 x3 x4 0 q2 C
    · exact own_tailRN l hw S z2 old2 x0 x1 x2 x3 x4 q1 0 C
    · exact own_tailRR l hw S z2 old2 x0 x1 x2 x3 x4 q1 q2 C
  · rintro _ vm hh hW ⟨rfl, Kt⟩
    have A := R1.trans R2
    have B := A.trans (CHr.keep Kt (by simp) A.1)
    exact ⟨⟨⟨rfl, B.trans (own_chw C.2.1 (own_EL hw) hW B.1)⟩, Nat.le_trans g2 Kt.1⟩, Kt.1⟩
set_option maxRecDepth 65536 in
theorem own_comes {Post : Tables → Env → Array Value → State → Outcome → State → Prop} (hpost : ∀ tb e args s v u, (limb_1_1.after args s (.returned v) u = true ∧ limb_1_2.after args s (.returned v) u = true ∧ True) → ReturnedEndW s (.returned v) u (Jvm.fieldLocs frame_1_writes args s ++ Jvm.arrayLocs frame_1_arrays args s ++ Jvm.staticLocs frame_1_statics s) 24 1152 → Post tb e args s (.returned v) u) :
    ArmFor flags0 classFile x code maxLocals ret World_1 tables_1 room_1 Calls_1 rest_1 Pre_1 Post := by
  intro l hfl _ _ p e ha hc hk s m args below hf hA hF happ hP
  obtain ⟨hcalls, hrest, hpre⟩ := hP
  obtain ⟨-, -, -, hnamed, -, -, -, hat⟩ := (Spec.applies_iff hf).mp happ
  obtain ⟨hg, hn⟩ := and_e (Cond.before_iff.mp (show (Jvm.Cond.and given_1 narrow_1).before args s = true from hpre))
  obtain ⟨g0, hg⟩ := and_e hg
  obtain ⟨w0, w1, w2, w3, w4, rfl⟩ : ∃ w0 w1 w2 w3 w4 : Value, args = #[w0, w1, w2, w3, w4] := by
    have hs : args.size = 5 := by simpa [Cond.value, given_1] using g0
    obtain ⟨L⟩ := args
    match L, hs with
    | [w0, w1, w2, w3, w4], _ => exact ⟨w0, w1, w2, w3, w4, rfl⟩
  obtain ⟨g1, hg⟩ := and_e hg
  obtain ⟨x0, e0⟩ := is_v g1
  obtain rfl : w0 = (.int x0) := Option.some.inj e0
  obtain ⟨g2, hg⟩ := and_e hg
  obtain ⟨x1, e1⟩ := is_v g2
  obtain rfl : w1 = (.int x1) := Option.some.inj e1
  obtain ⟨g3, hg⟩ := and_e hg
  obtain ⟨x2, e2⟩ := is_v g3
  obtain rfl : w2 = (.int x2) := Option.some.inj e2
  obtain ⟨g4, hg⟩ := and_e hg
  obtain ⟨x3, e3⟩ := is_v g4
  obtain rfl : w3 = (.int x3) := Option.some.inj e3
  obtain ⟨x4, e4⟩ := is_v hg
  obtain rfl : w4 = (.int x4) := Option.some.inj e4
  have hw := fun d (hd : d ∈ tables_1) => atoms_spec (ws := Jvm.Cond.code x code maxLocals ret :: tables_1) hat d (List.mem_cons_of_mem _ hd)
  have hsets := own_sets (L := jdkStatics_1) (R := restOwn_1) (show (jdkStatics_1.foldr Jvm.Cond.and restOwn_1).before _ s = true from hrest)
  obtain ⟨cs, Sc⟩ := own_cs (hsets _ (List.mem_of_getElem? (i := 0) rfl)) (Cond.before_iff.mp (hsets _ (List.mem_of_getElem? (i := 1) rfl))) (Cond.before_iff.mp (hsets _ (List.mem_of_getElem? (i := 2) rfl)))
  have H0 : CHv s consts_1 s.vm s.heap := CHv.start (own_EL hw) (fun q hq => hcalls.1 q hq) (hsets _ (List.mem_of_getElem? (i := 2) rfl)) (own_w hw 23 rfl) (own_w hw 5 rfl)
  obtain ⟨n, o, h1, h2, h3, _, L, rfl, ⟨rfl, N⟩, -, hq⟩ := own_law l hw (n0 := s.heap.size) Sc (Nat.le_refl _) (Old.start s) x0 x1 x2 x3 x4 p e ha hc hk s m _ below hf ((Spec.applies_iff_loose hf).mp happ).1 ⟨rfl, State.Warmed39.refl s, rfl, H0⟩ trivial
  exact ⟨n, _, h1, h2, h3, hpost _ _ _ _ _ _ ⟨Cond.after_iff.mpr rfl, Cond.after_iff.mpr (eq_i res_at (Term.int_eval (1)) rfl), trivial⟩ ⟨hq.1, hq.2.1, hq.2.2.1, (hq.2.2.2.sift fun y hy => Or.inr (N y hy)).mono (by decide) (by decide)⟩⟩
theorem main_1_1 : Claimed_1_1 := own_comes fun _ _ _ _ _ _ h hF => ⟨h.1, hF⟩
theorem main_1_2 : Claimed_1_2 := own_comes fun _ _ _ _ _ _ h hF => ⟨h.2.1, hF⟩
end Jvm.Pilot.@@N@@
namespace Jvm.Pilot.@@N@@
open Jvm Jvm.ClassFile Sem Op Lib Jvm.Free Jvm.Stand Jvm.Pilot.@@N@@.Jvm.D
/-! MADE BY PROGRAM (witnessworld.py) out of the Statement's table words and the real class files: 21 classes; the members and pool entries that the words name. The judged class is class 1, her method 2. -/
namespace start1
open Jvm.ClassFile
def u (s : String) : CpInfo := .utf8 (stringToUtf16 s)
/-- a pool by its gaps: so many unusable entries, then the entry; so many at the end -/
def gap : Nat → List CpInfo → List CpInfo
  | 0, r => r
  | n + 1, r => .unusable :: gap n r
def poolList (es : List (Nat × CpInfo)) (last : Nat) : List CpInfo := es.foldr (fun e r => gap e.1 (e.2 :: r)) (gap last [])
def pool (es : List (Nat × CpInfo)) (last : Nat) : Array CpInfo := ⟨poolList es last⟩
def fileOf (pool : Array CpInfo) (this : Nat) (attrs : Array Attribute := #[]) (ms : Array MethodInfo := #[]) (fl : Nat := 33) (sup : Nat := 0) (ifs : Array Nat := #[]) (fds : Array FieldInfo := #[]) : ClassFile where
  minorVersion := 0
  majorVersion := 65
  constantPool := pool
  accessFlags := fl
  thisClass := this
  superClass := sup
  interfaces := ifs
  fields := fds
  methods := ms
  attributes := attrs
def plain (name : String) (sup : Option ClassId) : Class where
  name := name
  kind := .ordinary
  loader := none
  accessFlags := 33
  super := sup
  interfaces := #[]
  cf := none
  fields := #[]
  methods := #[]
  instanceTypes := #[]
  staticTypes := #[]
  resolved := #[]
  callSites := []
  init := .initialized
  statics := none
  mirror := none

def pool0 : Array CpInfo := pool [(5, u "<init>"), (0, u "()V"), (1, .class_ 10), (1, u "java/lang/Object")] 113

def k0c0 : Code := { maxStack := 0, maxLocals := 1, code := object_method_1_code, exceptionTable := #[], attributes := #[] }
def k0m0 : Method := { name := "<init>", desc := "()V", sig := { parameters := [], returnType := none }, accessFlags := 1, code := some k0c0 }
/-- java/lang/Object -/
def k0 : Class := { plain "java/lang/Object" none with
  accessFlags := 33
  interfaces := #[]
  cf := some (fileOf pool0 8 #[] #[{ accessFlags := 1, nameIndex := 5, descriptorIndex := 6, attributes := #[] }] 33 0 #[] #[])
  fields := #[]
  methods := #[k0m0]
  instanceTypes := #[]
  staticTypes := #[]
  resolved := Array.replicate 124 none
  statics := none }

def pool1 : Array CpInfo := pool [(2, .class_ 4), (1, u "java/lang/Object"), (0, u "<init>"), (0, u "()V"), (0, .class_ 8), (0, u "java/lang/String"), (0, .methodref 7 10), (0, .nameAndType 5 11), (0, u "([C)V"), (0, .methodref 13 14), (0, .class_ 15), (0, .nameAndType 16 17), (0, u "com/example/valet3/valet3/core/AuthorizeAnswerRedirectPinLaw"), (0, u "draw"), (0, u "(III)Ljava/lang/String;"), (0, .methodref 19 20), (0, .class_ 21), (0, .nameAndType 22 23), (0, u "com/example/valet3/valet3/core/AuthorizeAnswer"), (0, u "redirect"), (0, u "(Ljava/lang/String;Ljava/lang/String;)Lcom/example/valet3/valet3/core/AuthorizeAnswer;"), (0, .methodref 19 25), (0, .nameAndType 26 27), (0, u "refusal"), (0, u "()Lcom/example/valet3/valet3/core/AuthorizeRefusal;"), (0, .methodref 19 29), (0, .nameAndType 30 31), (0, u "prompt"), (0, u "()Lcom/example/valet3/valet3/core/Prompt;"), (0, .methodref 19 33), (0, .nameAndType 34 35), (0, u "location"), (0, u "()Ljava/lang/String;"), (0, .methodref 19 37), (0, .nameAndType 38 35), (0, u "newSession"), (3, u "law"), (0, u "(IIIII)Z")] 2

def k1m0 : Method := { name := "<init>", desc := "()V", sig := { parameters := [], returnType := none }, accessFlags := 1, code := none }
def k1c1 : Code := { maxStack := 7, maxLocals := 3, code := method_2_code, exceptionTable := #[], attributes := #[] }
def k1m1 : Method := { name := "draw", desc := "(III)Ljava/lang/String;", sig := { parameters := [.int, .int, .int], returnType := some (.object "java/lang/String") }, accessFlags := 10, code := some k1c1 }
def k1c2 : Code := { maxStack := 3, maxLocals := 8, code := code, exceptionTable := #[], attributes := #[] }
def k1m2 : Method := { name := "law", desc := "(IIIII)Z", sig := { parameters := [.int, .int, .int, .int, .int], returnType := some .boolean }, accessFlags := 9, code := some k1c2 }
/-- com/example/valet3/valet3/core/AuthorizeAnswerRedirectPinLaw -/
def k1 : Class := { plain "com/example/valet3/valet3/core/AuthorizeAnswerRedirectPinLaw" (some 0) with
  accessFlags := 49
  interfaces := #[]
  cf := some (fileOf pool1 13 #[] #[{ accessFlags := 1, nameIndex := 5, descriptorIndex := 6, attributes := #[] }, { accessFlags := 10, nameIndex := 16, descriptorIndex := 17, attributes := #[] }, { accessFlags := 9, nameIndex := 42, descriptorIndex := 43, attributes := #[] }] 49 2 #[] #[])
  fields := #[]
  methods := #[k1m0, k1m1, k1m2]
  instanceTypes := #[]
  staticTypes := #[]
  resolved := Array.replicate 46 none
  statics := none }

def pool2 : Array CpInfo := pool [(1, .class_ 2), (0, u "java/io/Serializable"), (0, .class_ 4), (0, u "java/lang/Object")] 2

/-- java/io/Serializable -/
def k2 : Class := { plain "java/io/Serializable" (some 0) with
  accessFlags := 1537
  interfaces := #[]
  cf := some (fileOf pool2 1 #[] #[] 1537 3 #[] #[])
  fields := #[]
  methods := #[]
  instanceTypes := #[]
  staticTypes := #[]
  resolved := Array.replicate 7 none
  statics := none }

def pool3 : Array CpInfo := pool [(1, .class_ 2), (0, u "java/lang/Comparable"), (0, .class_ 4), (0, u "java/lang/Object")] 7

/-- java/lang/Comparable -/
def k3 : Class := { plain "java/lang/Comparable" (some 0) with
  accessFlags := 1537
  interfaces := #[]
  cf := some (fileOf pool3 1 #[] #[] 1537 3 #[] #[])
  fields := #[]
  methods := #[]
  instanceTypes := #[]
  staticTypes := #[]
  resolved := Array.replicate 12 none
  statics := none }

def pool4 : Array CpInfo := pool [(2, .class_ 4), (1, u "java/lang/CharSequence"), (42, .class_ 48), (0, u "java/lang/CharSequence$1CodePointIterator"), (10, .class_ 60), (0, u "java/lang/CharSequence$1CharIterator"), (5, .class_ 67), (0, u "java/lang/Object")] 63

/-- java/lang/CharSequence -/
def k4 : Class := { plain "java/lang/CharSequence" (some 0) with
  accessFlags := 1537
  interfaces := #[]
  cf := some (fileOf pool4 2 #[.nestMembers #[47, 59]] #[] 1537 66 #[] #[])
  fields := #[]
  methods := #[]
  instanceTypes := #[]
  staticTypes := #[]
  resolved := Array.replicate 131 none
  statics := none }

def pool5 : Array CpInfo := pool [(1, .class_ 2), (0, u "java/lang/constant/Constable"), (0, .class_ 4), (0, u "java/lang/Object")] 6

/-- java/lang/constant/Constable -/
def k5 : Class := { plain "java/lang/constant/Constable" (some 0) with
  accessFlags := 1537
  interfaces := #[]
  cf := some (fileOf pool5 1 #[] #[] 1537 3 #[] #[])
  fields := #[]
  methods := #[]
  instanceTypes := #[]
  staticTypes := #[]
  resolved := Array.replicate 11 none
  statics := none }

def pool6 : Array CpInfo := pool [(1, .class_ 2), (0, u "java/lang/constant/ConstantDesc"), (0, .class_ 4), (0, u "java/lang/Object")] 32

/-- java/lang/constant/ConstantDesc -/
def k6 : Class := { plain "java/lang/constant/ConstantDesc" (some 0) with
  accessFlags := 1537
  interfaces := #[]
  cf := some (fileOf pool6 1 #[] #[] 1537 3 #[] #[])
  fields := #[]
  methods := #[]
  instanceTypes := #[]
  staticTypes := #[]
  resolved := Array.replicate 37 none
  statics := none }

def pool7 : Array CpInfo := pool [(1, .methodref 2 3), (0, .class_ 4), (0, .nameAndType 5 6), (0, u "java/lang/Object"), (0, u "<init>"), (0, u "()V"), (0, .string 8), (0, u ""), (0, .fieldref 10 11), (0, .class_ 12), (0, .nameAndType 13 14), (0, u "java/lang/String"), (0, u "value"), (0, u "[B"), (0, .fieldref 10 16), (0, .nameAndType 17 18), (0, u "coder"), (0, u "B"), (2, u "hash"), (0, u "I"), (2, u "hashIsZero"), (0, u "Z"), (0, .methodref 10 28), (0, .nameAndType 5 29), (0, u "([CIILjava/lang/Void;)V"), (8, .fieldref 10 39), (0, .nameAndType 40 26), (0, u "COMPACT_STRINGS"), (1, .class_ 44), (1, u "java/lang/StringUTF16"), (0, u "compress"), (1, .methodref 42 48), (0, .nameAndType 49 50), (0, u "coderFromArrayLen"), (0, u "([BI)B"), (126, .methodref 42 178), (0, .nameAndType 45 179), (0, u "([CII)[B"), (395, .class_ 576), (0, u "java/lang/CharSequence"), (22, u "CASE_INSENSITIVE_ORDER"), (0, u "Ljava/util/Comparator;"), (409, u "([C)V"), (90, u "serialPersistentFields"), (0, u "[Ljava/io/ObjectStreamField;"), (0, .class_ 1104), (0, u "java/lang/String$CaseInsensitiveComparator"), (1, .class_ 1107), (0, u "java/io/Serializable"), (0, .class_ 1109), (0, u "java/lang/Comparable"), (0, .class_ 1111), (0, u "java/lang/constant/Constable"), (0, .class_ 1113), (0, u "java/lang/constant/ConstantDesc"), (2, u "serialVersionUID"), (0, u "J"), (3, u "REPL"), (0, u "C"), (2, u "LATIN1"), (1, u "UTF16")] 323

def k7m0 : Method := { name := "<init>", desc := "()V", sig := { parameters := [], returnType := none }, accessFlags := 1, code := none }
def k7c1 : Code := { maxStack := 5, maxLocals := 2, code := jdk_42_method_3_code, exceptionTable := #[], attributes := #[] }
def k7m1 : Method := { name := "<init>", desc := "([C)V", sig := { parameters := [(.array .char)], returnType := none }, accessFlags := 1, code := some k7c1 }
def k7c2 : Code := { maxStack := 4, maxLocals := 6, code := jdk_42_method_149_code, exceptionTable := #[], attributes := #[] }
def k7m2 : Method := { name := "<init>", desc := "([CIILjava/lang/Void;)V", sig := { parameters := [(.array .char), .int, .int, (.object "java/lang/Void")], returnType := none }, accessFlags := 2, code := some k7c2 }
/-- java/lang/String -/
def k7 : Class := { plain "java/lang/String" (some 0) with
  accessFlags := 49
  interfaces := #[2, 3, 4, 5, 6]
  cf := some (fileOf pool7 10 #[.nestMembers #[1103]] #[{ accessFlags := 1, nameIndex := 5, descriptorIndex := 6, attributes := #[] }, { accessFlags := 1, nameIndex := 5, descriptorIndex := 1010, attributes := #[] }, { accessFlags := 2, nameIndex := 5, descriptorIndex := 29, attributes := #[] }] 49 2 #[1106, 1108, 575, 1110, 1112] #[{ accessFlags := 18, nameIndex := 13, descriptorIndex := 14, attributes := #[] }, { accessFlags := 18, nameIndex := 17, descriptorIndex := 18, attributes := #[] }, { accessFlags := 2, nameIndex := 21, descriptorIndex := 22, attributes := #[] }, { accessFlags := 2, nameIndex := 25, descriptorIndex := 26, attributes := #[] }, { accessFlags := 26, nameIndex := 1116, descriptorIndex := 1117, attributes := #[] }, { accessFlags := 24, nameIndex := 40, descriptorIndex := 26, attributes := #[] }, { accessFlags := 26, nameIndex := 1101, descriptorIndex := 1102, attributes := #[] }, { accessFlags := 26, nameIndex := 1121, descriptorIndex := 1122, attributes := #[] }, { accessFlags := 25, nameIndex := 599, descriptorIndex := 600, attributes := #[] }, { accessFlags := 24, nameIndex := 1125, descriptorIndex := 18, attributes := #[] }, { accessFlags := 24, nameIndex := 1127, descriptorIndex := 18, attributes := #[] }])
  fields := #[{ name := "value", type := (.array .byte), accessFlags := 18, slot := 0, constantValue := 0 }, { name := "coder", type := .byte, accessFlags := 18, slot := 1, constantValue := 0 }, { name := "hash", type := .int, accessFlags := 2, slot := 2, constantValue := 0 }, { name := "hashIsZero", type := .boolean, accessFlags := 2, slot := 3, constantValue := 0 }, { name := "serialVersionUID", type := .long, accessFlags := 26, slot := 0, constantValue := 0 }, { name := "COMPACT_STRINGS", type := .boolean, accessFlags := 24, slot := 1, constantValue := 0 }, { name := "serialPersistentFields", type := (.array (.object "java/io/ObjectStreamField")), accessFlags := 26, slot := 2, constantValue := 0 }, { name := "REPL", type := .char, accessFlags := 26, slot := 3, constantValue := 0 }, { name := "CASE_INSENSITIVE_ORDER", type := (.object "java/util/Comparator"), accessFlags := 25, slot := 4, constantValue := 0 }, { name := "LATIN1", type := .byte, accessFlags := 24, slot := 5, constantValue := 0 }, { name := "UTF16", type := .byte, accessFlags := 24, slot := 6, constantValue := 0 }]
  methods := #[k7m0, k7m1, k7m2]
  instanceTypes := #[(.array .byte), .byte, .int, .boolean]
  staticTypes := #[.long, .boolean, (.array (.object "java/io/ObjectStreamField")), .char, (.object "java/util/Comparator"), .byte, .byte]
  resolved := Array.replicate 1451 none
  statics := some 0 }

def pool8 : Array CpInfo := pool [(6, .class_ 8), (1, u "java/lang/Object"), (0, u "<init>"), (0, u "()V"), (1, .class_ 14), (1, u "java/lang/StringUTF16"), (31, u "$assertionsDisabled"), (0, u "Z"), (13, u "HI_BYTE_SHIFT"), (0, u "I"), (2, u "LO_BYTE_SHIFT"), (49, .methodref 12 116), (0, .nameAndType 117 118), (0, u "compress"), (0, u "([CI[BII)I"), (3, u "([CII)[B"), (138, u "coderFromArrayLen"), (0, u "([BI)B"), (106, .class_ 371), (1, u "java/lang/StringUTF16$LinesSpliterator"), (58, u "MAX_LENGTH"), (196, .class_ 628), (0, u "java/lang/StringUTF16$CodePointsSpliterator"), (0, .class_ 630), (0, u "java/lang/StringUTF16$CharsSpliterator")] 4

def k8m0 : Method := { name := "<init>", desc := "()V", sig := { parameters := [], returnType := none }, accessFlags := 0, code := none }
def k8c1 : Code := { maxStack := 2, maxLocals := 2, code := jdk_52_method_15_code, exceptionTable := #[], attributes := #[] }
def k8m1 : Method := { name := "coderFromArrayLen", desc := "([BI)B", sig := { parameters := [(.array .byte), .int], returnType := some .byte }, accessFlags := 8, code := some k8c1 }
def k8c2 : Code := { maxStack := 5, maxLocals := 6, code := jdk_52_method_16_code, exceptionTable := #[], attributes := #[] }
def k8m2 : Method := { name := "compress", desc := "([CII)[B", sig := { parameters := [(.array .char), .int, .int], returnType := some (.array .byte) }, accessFlags := 9, code := some k8c2 }
def k8c3 : Code := { maxStack := 3, maxLocals := 7, code := jdk_52_method_21_code, exceptionTable := #[], attributes := #[] }
def k8m3 : Method := { name := "compress", desc := "([CI[BII)I", sig := { parameters := [(.array .char), .int, (.array .byte), .int, .int], returnType := some .int }, accessFlags := 9, code := some k8c3 }
/-- java/lang/StringUTF16 -/
def k8 : Class := { plain "java/lang/StringUTF16" (some 0) with
  accessFlags := 48
  interfaces := #[]
  cf := some (fileOf pool8 12 #[.nestMembers #[627, 629, 369]] #[{ accessFlags := 0, nameIndex := 9, descriptorIndex := 10, attributes := #[] }, { accessFlags := 8, nameIndex := 261, descriptorIndex := 262, attributes := #[] }, { accessFlags := 9, nameIndex := 117, descriptorIndex := 122, attributes := #[] }, { accessFlags := 9, nameIndex := 117, descriptorIndex := 118, attributes := #[] }] 48 6 #[] #[{ accessFlags := 26, nameIndex := 61, descriptorIndex := 62, attributes := #[] }, { accessFlags := 26, nameIndex := 65, descriptorIndex := 62, attributes := #[] }, { accessFlags := 24, nameIndex := 430, descriptorIndex := 62, attributes := #[] }, { accessFlags := 4120, nameIndex := 46, descriptorIndex := 47, attributes := #[] }])
  fields := #[{ name := "HI_BYTE_SHIFT", type := .int, accessFlags := 26, slot := 0, constantValue := 0 }, { name := "LO_BYTE_SHIFT", type := .int, accessFlags := 26, slot := 1, constantValue := 0 }, { name := "MAX_LENGTH", type := .int, accessFlags := 24, slot := 2, constantValue := 0 }, { name := "$assertionsDisabled", type := .boolean, accessFlags := 4120, slot := 3, constantValue := 0 }]
  methods := #[k8m0, k8m1, k8m2, k8m3]
  instanceTypes := #[]
  staticTypes := #[.int, .int, .int, .boolean]
  resolved := Array.replicate 635 none
  statics := none }

def pool9 : Array CpInfo := pool [(1, .methodref 2 3), (0, .class_ 4), (0, .nameAndType 5 6), (0, u "java/lang/Object"), (0, u "<init>"), (0, u "()V"), (0, .class_ 8), (0, u "java/lang/Record")] 13

def k9c0 : Code := { maxStack := 1, maxLocals := 1, code := jdk_30_method_1_code, exceptionTable := #[], attributes := #[] }
def k9m0 : Method := { name := "<init>", desc := "()V", sig := { parameters := [], returnType := none }, accessFlags := 4, code := some k9c0 }
/-- java/lang/Record -/
def k9 : Class := { plain "java/lang/Record" (some 0) with
  accessFlags := 1057
  interfaces := #[]
  cf := some (fileOf pool9 7 #[] #[{ accessFlags := 4, nameIndex := 5, descriptorIndex := 6, attributes := #[] }] 1057 2 #[] #[])
  fields := #[]
  methods := #[k9m0]
  instanceTypes := #[]
  staticTypes := #[]
  resolved := Array.replicate 22 none
  statics := none }

def pool10 : Array CpInfo := pool [(1, .methodref 2 3), (0, .class_ 4), (0, .nameAndType 5 6), (0, u "java/lang/Record"), (0, u "<init>"), (0, u "()V"), (0, .fieldref 8 9), (0, .class_ 10), (0, .nameAndType 11 12), (0, u "com/example/valet3/valet3/core/AuthorizeAnswer"), (0, u "refusal"), (0, u "Lcom/example/valet3/valet3/core/AuthorizeRefusal;"), (0, .fieldref 8 14), (0, .nameAndType 15 16), (0, u "location"), (0, u "Ljava/lang/String;"), (0, .fieldref 8 18), (0, .nameAndType 19 20), (0, u "prompt"), (0, u "Lcom/example/valet3/valet3/core/Prompt;"), (0, .fieldref 8 22), (0, .nameAndType 23 16), (0, u "newSession"), (0, .methodref 8 25), (0, .nameAndType 5 26), (0, u "(Lcom/example/valet3/valet3/core/AuthorizeRefusal;Ljava/lang/String;Lcom/example/valet3/valet3/core/Prompt;Ljava/lang/String;)V"), (2, u "redirect"), (0, u "(Ljava/lang/String;Ljava/lang/String;)Lcom/example/valet3/valet3/core/AuthorizeAnswer;"), (26, u "()Ljava/lang/String;"), (2, u "()Lcom/example/valet3/valet3/core/AuthorizeRefusal;"), (0, u "()Lcom/example/valet3/valet3/core/Prompt;")] 31

def k10c0 : Code := { maxStack := 2, maxLocals := 5, code := prog_11_method_1_code, exceptionTable := #[], attributes := #[] }
def k10m0 : Method := { name := "<init>", desc := "(Lcom/example/valet3/valet3/core/AuthorizeRefusal;Ljava/lang/String;Lcom/example/valet3/valet3/core/Prompt;Ljava/lang/String;)V", sig := { parameters := [(.object "com/example/valet3/valet3/core/AuthorizeRefusal"), (.object "java/lang/String"), (.object "com/example/valet3/valet3/core/Prompt"), (.object "java/lang/String")], returnType := none }, accessFlags := 1, code := some k10c0 }
def k10c1 : Code := { maxStack := 6, maxLocals := 2, code := prog_11_method_4_code, exceptionTable := #[], attributes := #[] }
def k10m1 : Method := { name := "redirect", desc := "(Ljava/lang/String;Ljava/lang/String;)Lcom/example/valet3/valet3/core/AuthorizeAnswer;", sig := { parameters := [(.object "java/lang/String"), (.object "java/lang/String")], returnType := some (.object "com/example/valet3/valet3/core/AuthorizeAnswer") }, accessFlags := 8, code := some k10c1 }
def k10c2 : Code := { maxStack := 1, maxLocals := 1, code := prog_11_method_9_code, exceptionTable := #[], attributes := #[] }
def k10m2 : Method := { name := "refusal", desc := "()Lcom/example/valet3/valet3/core/AuthorizeRefusal;", sig := { parameters := [], returnType := some (.object "com/example/valet3/valet3/core/AuthorizeRefusal") }, accessFlags := 1, code := some k10c2 }
def k10c3 : Code := { maxStack := 1, maxLocals := 1, code := prog_11_method_10_code, exceptionTable := #[], attributes := #[] }
def k10m3 : Method := { name := "location", desc := "()Ljava/lang/String;", sig := { parameters := [], returnType := some (.object "java/lang/String") }, accessFlags := 1, code := some k10c3 }
def k10c4 : Code := { maxStack := 1, maxLocals := 1, code := prog_11_method_11_code, exceptionTable := #[], attributes := #[] }
def k10m4 : Method := { name := "prompt", desc := "()Lcom/example/valet3/valet3/core/Prompt;", sig := { parameters := [], returnType := some (.object "com/example/valet3/valet3/core/Prompt") }, accessFlags := 1, code := some k10c4 }
def k10c5 : Code := { maxStack := 1, maxLocals := 1, code := prog_11_method_12_code, exceptionTable := #[], attributes := #[] }
def k10m5 : Method := { name := "newSession", desc := "()Ljava/lang/String;", sig := { parameters := [], returnType := some (.object "java/lang/String") }, accessFlags := 1, code := some k10c5 }
/-- com/example/valet3/valet3/core/AuthorizeAnswer -/
def k10 : Class := { plain "com/example/valet3/valet3/core/AuthorizeAnswer" (some 9) with
  accessFlags := 49
  interfaces := #[]
  cf := some (fileOf pool10 8 #[] #[{ accessFlags := 1, nameIndex := 5, descriptorIndex := 26, attributes := #[] }, { accessFlags := 8, nameIndex := 29, descriptorIndex := 30, attributes := #[] }, { accessFlags := 1, nameIndex := 11, descriptorIndex := 60, attributes := #[] }, { accessFlags := 1, nameIndex := 15, descriptorIndex := 57, attributes := #[] }, { accessFlags := 1, nameIndex := 19, descriptorIndex := 61, attributes := #[] }, { accessFlags := 1, nameIndex := 23, descriptorIndex := 57, attributes := #[] }] 49 2 #[] #[{ accessFlags := 18, nameIndex := 11, descriptorIndex := 12, attributes := #[] }, { accessFlags := 18, nameIndex := 15, descriptorIndex := 16, attributes := #[] }, { accessFlags := 18, nameIndex := 19, descriptorIndex := 20, attributes := #[] }, { accessFlags := 18, nameIndex := 23, descriptorIndex := 16, attributes := #[] }])
  fields := #[{ name := "refusal", type := (.object "com/example/valet3/valet3/core/AuthorizeRefusal"), accessFlags := 18, slot := 0, constantValue := 0 }, { name := "location", type := (.object "java/lang/String"), accessFlags := 18, slot := 1, constantValue := 0 }, { name := "prompt", type := (.object "com/example/valet3/valet3/core/Prompt"), accessFlags := 18, slot := 2, constantValue := 0 }, { name := "newSession", type := (.object "java/lang/String"), accessFlags := 18, slot := 3, constantValue := 0 }]
  methods := #[k10m0, k10m1, k10m2, k10m3, k10m4, k10m5]
  instanceTypes := #[(.object "com/example/valet3/valet3/core/AuthorizeRefusal"), (.object "java/lang/String"), (.object "com/example/valet3/valet3/core/Prompt"), (.object "java/lang/String")]
  staticTypes := #[]
  resolved := Array.replicate 93 none
  statics := none }

def pool11 : Array CpInfo := pool [(4, .class_ 6), (1, u "java/lang/Object"), (0, u "<init>"), (0, u "()V"), (5, .class_ 16), (1, u "java/lang/StringLatin1"), (104, u "$assertionsDisabled"), (0, u "Z"), (98, .class_ 223), (1, u "java/lang/StringLatin1$LinesSpliterator"), (166, .class_ 391), (0, u "java/lang/StringLatin1$CharsSpliterator")] 3

def k11m0 : Method := { name := "<init>", desc := "()V", sig := { parameters := [], returnType := none }, accessFlags := 0, code := none }
/-- java/lang/StringLatin1 -/
def k11 : Class := { plain "java/lang/StringLatin1" (some 0) with
  accessFlags := 48
  interfaces := #[]
  cf := some (fileOf pool11 14 #[.nestMembers #[390, 221]] #[{ accessFlags := 0, nameIndex := 7, descriptorIndex := 8, attributes := #[] }] 48 4 #[] #[{ accessFlags := 4120, nameIndex := 121, descriptorIndex := 122, attributes := #[] }])
  fields := #[{ name := "$assertionsDisabled", type := .boolean, accessFlags := 4120, slot := 0, constantValue := 0 }]
  methods := #[k11m0]
  instanceTypes := #[]
  staticTypes := #[.boolean]
  resolved := Array.replicate 395 none
  statics := none }

def pool12 : Array CpInfo := pool [(2, .class_ 4), (1, u "java/lang/Object"), (0, u "<init>"), (0, u "()V"), (17, .class_ 26), (1, u "jdk/internal/util/Preconditions"), (28, .class_ 56), (0, u "jdk/internal/util/Preconditions$4"), (57, .class_ 115), (0, u "jdk/internal/util/Preconditions$1"), (7, u "SIOOBE_FORMATTER"), (0, u "Ljava/util/function/BiFunction;"), (0, .class_ 126), (0, u "jdk/internal/util/Preconditions$2"), (3, u "AIOOBE_FORMATTER"), (0, .class_ 132), (0, u "jdk/internal/util/Preconditions$3"), (3, u "IOOBE_FORMATTER")] 57

def k12m0 : Method := { name := "<init>", desc := "()V", sig := { parameters := [], returnType := none }, accessFlags := 1, code := none }
/-- jdk/internal/util/Preconditions -/
def k12 : Class := { plain "jdk/internal/util/Preconditions" (some 0) with
  accessFlags := 33
  interfaces := #[]
  cf := some (fileOf pool12 24 #[.nestMembers #[55, 131, 125, 114]] #[{ accessFlags := 1, nameIndex := 5, descriptorIndex := 6, attributes := #[] }] 33 2 #[] #[{ accessFlags := 25, nameIndex := 123, descriptorIndex := 124, attributes := #[] }, { accessFlags := 25, nameIndex := 130, descriptorIndex := 124, attributes := #[] }, { accessFlags := 25, nameIndex := 136, descriptorIndex := 124, attributes := #[] }])
  fields := #[{ name := "SIOOBE_FORMATTER", type := (.object "java/util/function/BiFunction"), accessFlags := 25, slot := 0, constantValue := 0 }, { name := "AIOOBE_FORMATTER", type := (.object "java/util/function/BiFunction"), accessFlags := 25, slot := 1, constantValue := 0 }, { name := "IOOBE_FORMATTER", type := (.object "java/util/function/BiFunction"), accessFlags := 25, slot := 2, constantValue := 0 }]
  methods := #[k12m0]
  instanceTypes := #[]
  staticTypes := #[(.object "java/util/function/BiFunction"), (.object "java/util/function/BiFunction"), (.object "java/util/function/BiFunction")]
  resolved := Array.replicate 194 none
  statics := some 1 }

def pool13 : Array CpInfo := pool [(9, u "<init>"), (6, .class_ 18), (1, u "java/lang/Object"), (0, u "()V"), (1, .class_ 23), (1, u "jdk/internal/util/ArraysSupport"), (0, u "LOG2_ARRAY_LONG_INDEX_SCALE"), (0, u "I"), (2, u "U"), (0, u "Ljdk/internal/misc/Unsafe;"), (8, u "BIG_ENDIAN"), (0, u "Z"), (8, u "LOG2_BYTE_BIT_SIZE"), (4, u "LOG2_ARRAY_INT_INDEX_SCALE"), (54, u "JLA"), (0, u "Ljdk/internal/access/JavaLangAccess;"), (11, u "LOG2_ARRAY_BOOLEAN_INDEX_SCALE"), (9, u "LOG2_ARRAY_BYTE_INDEX_SCALE"), (5, u "LOG2_ARRAY_CHAR_INDEX_SCALE"), (5, u "LOG2_ARRAY_SHORT_INDEX_SCALE"), (18, u "LOG2_ARRAY_FLOAT_INDEX_SCALE"), (24, u "LOG2_ARRAY_DOUBLE_INDEX_SCALE"), (89, u "T_BOOLEAN"), (2, u "T_CHAR"), (1, u "T_FLOAT"), (1, u "T_DOUBLE"), (1, u "T_BYTE"), (1, u "T_SHORT"), (1, u "T_INT"), (1, u "T_LONG"), (1, u "SOFT_MAX_ARRAY_LENGTH")] 83

def k13m0 : Method := { name := "<init>", desc := "()V", sig := { parameters := [], returnType := none }, accessFlags := 2, code := none }
/-- jdk/internal/util/ArraysSupport -/
def k13 : Class := { plain "jdk/internal/util/ArraysSupport" (some 0) with
  accessFlags := 33
  interfaces := #[]
  cf := some (fileOf pool13 21 #[] #[{ accessFlags := 2, nameIndex := 9, descriptorIndex := 19, attributes := #[] }] 33 16 #[] #[{ accessFlags := 24, nameIndex := 28, descriptorIndex := 29, attributes := #[] }, { accessFlags := 26, nameIndex := 38, descriptorIndex := 39, attributes := #[] }, { accessFlags := 25, nameIndex := 121, descriptorIndex := 25, attributes := #[] }, { accessFlags := 25, nameIndex := 131, descriptorIndex := 25, attributes := #[] }, { accessFlags := 25, nameIndex := 137, descriptorIndex := 25, attributes := #[] }, { accessFlags := 25, nameIndex := 143, descriptorIndex := 25, attributes := #[] }, { accessFlags := 25, nameIndex := 53, descriptorIndex := 25, attributes := #[] }, { accessFlags := 25, nameIndex := 24, descriptorIndex := 25, attributes := #[] }, { accessFlags := 25, nameIndex := 162, descriptorIndex := 25, attributes := #[] }, { accessFlags := 25, nameIndex := 187, descriptorIndex := 25, attributes := #[] }, { accessFlags := 26, nameIndex := 48, descriptorIndex := 25, attributes := #[] }, { accessFlags := 25, nameIndex := 277, descriptorIndex := 25, attributes := #[] }, { accessFlags := 25, nameIndex := 280, descriptorIndex := 25, attributes := #[] }, { accessFlags := 25, nameIndex := 282, descriptorIndex := 25, attributes := #[] }, { accessFlags := 25, nameIndex := 284, descriptorIndex := 25, attributes := #[] }, { accessFlags := 25, nameIndex := 286, descriptorIndex := 25, attributes := #[] }, { accessFlags := 25, nameIndex := 288, descriptorIndex := 25, attributes := #[] }, { accessFlags := 25, nameIndex := 290, descriptorIndex := 25, attributes := #[] }, { accessFlags := 25, nameIndex := 292, descriptorIndex := 25, attributes := #[] }, { accessFlags := 26, nameIndex := 108, descriptorIndex := 109, attributes := #[] }, { accessFlags := 25, nameIndex := 294, descriptorIndex := 25, attributes := #[] }])
  fields := #[{ name := "U", type := (.object "jdk/internal/misc/Unsafe"), accessFlags := 24, slot := 0, constantValue := 0 }, { name := "BIG_ENDIAN", type := .boolean, accessFlags := 26, slot := 1, constantValue := 0 }, { name := "LOG2_ARRAY_BOOLEAN_INDEX_SCALE", type := .int, accessFlags := 25, slot := 2, constantValue := 0 }, { name := "LOG2_ARRAY_BYTE_INDEX_SCALE", type := .int, accessFlags := 25, slot := 3, constantValue := 0 }, { name := "LOG2_ARRAY_CHAR_INDEX_SCALE", type := .int, accessFlags := 25, slot := 4, constantValue := 0 }, { name := "LOG2_ARRAY_SHORT_INDEX_SCALE", type := .int, accessFlags := 25, slot := 5, constantValue := 0 }, { name := "LOG2_ARRAY_INT_INDEX_SCALE", type := .int, accessFlags := 25, slot := 6, constantValue := 0 }, { name := "LOG2_ARRAY_LONG_INDEX_SCALE", type := .int, accessFlags := 25, slot := 7, constantValue := 0 }, { name := "LOG2_ARRAY_FLOAT_INDEX_SCALE", type := .int, accessFlags := 25, slot := 8, constantValue := 0 }, { name := "LOG2_ARRAY_DOUBLE_INDEX_SCALE", type := .int, accessFlags := 25, slot := 9, constantValue := 0 }, { name := "LOG2_BYTE_BIT_SIZE", type := .int, accessFlags := 26, slot := 10, constantValue := 0 }, { name := "T_BOOLEAN", type := .int, accessFlags := 25, slot := 11, constantValue := 0 }, { name := "T_CHAR", type := .int, accessFlags := 25, slot := 12, constantValue := 0 }, { name := "T_FLOAT", type := .int, accessFlags := 25, slot := 13, constantValue := 0 }, { name := "T_DOUBLE", type := .int, accessFlags := 25, slot := 14, constantValue := 0 }, { name := "T_BYTE", type := .int, accessFlags := 25, slot := 15, constantValue := 0 }, { name := "T_SHORT", type := .int, accessFlags := 25, slot := 16, constantValue := 0 }, { name := "T_INT", type := .int, accessFlags := 25, slot := 17, constantValue := 0 }, { name := "T_LONG", type := .int, accessFlags := 25, slot := 18, constantValue := 0 }, { name := "JLA", type := (.object "jdk/internal/access/JavaLangAccess"), accessFlags := 26, slot := 19, constantValue := 0 }, { name := "SOFT_MAX_ARRAY_LENGTH", type := .int, accessFlags := 25, slot := 20, constantValue := 0 }]
  methods := #[k13m0]
  instanceTypes := #[]
  staticTypes := #[(.object "jdk/internal/misc/Unsafe"), .boolean, .int, .int, .int, .int, .int, .int, .int, .int, .int, .int, .int, .int, .int, .int, .int, .int, .int, (.object "jdk/internal/access/JavaLangAccess"), .int]
  resolved := Array.replicate 378 none
  statics := none }

def pool14 : Array CpInfo := pool [(1, u "java/lang/Cloneable"), (0, .class_ 1), (0, u "java/lang/Object"), (0, .class_ 3)] 3

/-- java/lang/Cloneable -/
def k14 : Class := { plain "java/lang/Cloneable" (some 0) with
  accessFlags := 1537
  interfaces := #[]
  cf := some (fileOf pool14 2 #[] #[] 1537 4 #[] #[])
  fields := #[]
  methods := #[]
  instanceTypes := #[]
  staticTypes := #[]
  resolved := Array.replicate 8 none
  statics := none }

/-- the primitive byte -/
def k15 : Class := { plain "byte" none with kind := .primitive 'B', accessFlags := 0x411 }
/-- [B -/
def k16 : Class := { plain "[B" (some 0) with kind := .array 15 .byte, interfaces := #[14, 2], accessFlags := 1041 }

/-- the primitive char -/
def k17 : Class := { plain "char" none with kind := .primitive 'C', accessFlags := 0x411 }
/-- [C -/
def k18 : Class := { plain "[C" (some 0) with kind := .array 17 .char, interfaces := #[14, 2], accessFlags := 1041 }

/-- the primitive int -/
def k19 : Class := { plain "int" none with kind := .primitive 'I', accessFlags := 0x411 }
/-- [I -/
def k20 : Class := { plain "[I" (some 0) with kind := .array 19 .int, interfaces := #[14, 2], accessFlags := 1041 }

def heap : Heap := #[{ cls := 7, slots := #[.long 0, .int 1, .null, .int 0, .null, .int 0, .int 0], vm := .statics 7 },
  { cls := 12, slots := #[.null, .null, .null], vm := .statics 12 }]
def classes : Array Class := #[k0, k1, k2, k3, k4, k5, k6, k7, k8, k9, k10, k11, k12, k13, k14, k15, k16, k17, k18, k19, k20]
def interned : List (Array UInt16 × Addr) := []
def slotsUsed : Nat := 10
def theMethod : MethodId := ⟨1, 2⟩
def args0 : Array Value := #[.int 5, .int 5, .int 5, .int 5, .int 5]
def aboutOver (below : List Frame) : State where
  vm := { classes := classes, interned := interned.toArray }
  heap := heap
  slotsUsed := slotsUsed
  threads := #[{ frames := .invoking theMethod args0 :: below }]
def below0 : List Frame := [.native { method := ⟨0, 0⟩, args := #[] }]
def about1 : State := aboutOver below0
def p0 : Program := .bare "" "" ""
def e0 : Env := launch0.env 0 0 0
theorem w_frames : about1.frames = Frame.invoking theMethod args0 :: below0 := rfl
set_option maxRecDepth 65536 in
theorem w_args : argsFit about1.vm theMethod args0 = true := by decide +kernel
set_option maxRecDepth 65536 in
theorem w_heap : heapFits about1 = true := by decide +kernel
set_option maxRecDepth 65536 in
theorem w_runnable : about1.curStatus? = some .runnable := by decide +kernel
set_option maxRecDepth 65536 in
theorem w_alone : about1.alone = true := by decide +kernel
set_option maxRecDepth 65536 in
theorem w_named : about1.methodNamed? x = some theMethod := by decide +kernel
set_option maxRecDepth 65536 in
theorem w_hears : about1.hears theMethod below0 = true := by decide +kernel
set_option maxRecDepth 65536 in
theorem w_ripe : about1.ripe theMethod args0 below0 = true := by decide +kernel
theorem w_running : about1.status = .running := rfl
set_option maxRecDepth 65536 in
theorem w_room : about1.hasRoom e0.platform room_1 = true :=
  launch0.hasRoom_least _ room_1 (by decide +kernel) (by decide +kernel) (by decide +kernel) (by decide +kernel) (by decide +kernel) (by decide +kernel)
theorem allAtoms_all (ts : List Jvm.Cond) (a : Array Jvm.Value) (st : Jvm.State) : (allAtoms ts).before a st = ts.all (fun c => c.before a st) := by
  induction ts with
  | nil => rfl
  | cons c t ih =>
    show (Jvm.Cond.and c (allAtoms t)).before a st = _
    rw [Jvm.Cond.before_and, ih, List.all_cons]
def words1 : List Jvm.Cond := Jvm.Cond.code x code maxLocals ret :: tables_1
/-- a 'code' word, met by the world's own term for the bytes: nothing is compared byte by byte -/
theorem code_word {y : MethodName} {bytes : ByteArray} {mx : Nat} {rt : Option FieldType} {a : Array Value} {s : State} {m : MethodId} {meth : Method} {c : Code} (h1 : s.methodNamed? y = some m) (h2 : s.vm.method? m = some meth) (h3 : meth.code = some c) (h4 : c.code = bytes)
    (h5 : (c.maxLocals == mx && c.exceptionTable.isEmpty && decide (c.maxStack ≤ mostOperands) && decide (meth.sig.returnType = rt) && !meth.locks && decide (parseMethodDescriptor y.desc = some meth.sig)) = true) : (Jvm.Cond.code y bytes mx rt).before a s = true := by
  simp only [Bool.and_eq_true, beq_iff_eq, Bool.not_eq_true', decide_eq_true_eq] at h5
  obtain ⟨⟨⟨⟨⟨g1, g2⟩, g3⟩, g4⟩, g5⟩, g6⟩ := h5
  simp [Cond.before, Cond.holds, Cond.value, h1, h2, h3, h4, g1, g2, g3, g4, g5, g6]
def isCode : Jvm.Cond → Bool
  | .code _ _ _ _ => true
  | _ => false
theorem all_split {L : List Jvm.Cond} {P : Jvm.Cond → Bool} (h1 : L.all (fun c => isCode c || P c) = true) (h2 : ∀ c ∈ L.filter isCode, P c = true) : L.all P = true := by
  refine List.all_eq_true.mpr fun c hc => ?_
  have h := List.all_eq_true.mp h1 c hc
  rcases Bool.eq_false_or_eq_true (isCode c) with hi | hi
  · exact h2 c (List.mem_filter.mpr ⟨hc, hi⟩)
  · simpa [hi] using h
set_option maxRecDepth 65536 in
theorem w_c0 : (Jvm.Cond.code x code maxLocals ret).before args0 about1 = true := code_word (m := ⟨1, 2⟩) (meth := k1m2) (c := k1c2) (by decide +kernel) rfl rfl rfl (by decide +kernel)
set_option maxRecDepth 65536 in
theorem w_c1 : (Jvm.Cond.code ({ cls := "com/example/valet3/valet3/core/AuthorizeAnswerRedirectPinLaw", name := "draw", desc := "(III)Ljava/lang/String;" } : Jvm.MethodName) method_2_code (3 : Nat) (Option.some (Jvm.ClassFile.FieldType.object "java/lang/String"))).before args0 about1 = true := code_word (m := ⟨1, 1⟩) (meth := k1m1) (c := k1c1) (by decide +kernel) rfl rfl rfl (by decide +kernel)
set_option maxRecDepth 65536 in
theorem w_c2 : (Jvm.Cond.code ({ cls := "java/lang/String", name := "<init>", desc := "([C)V" } : Jvm.MethodName) jdk_42_method_3_code (2 : Nat) (Option.none : Option Jvm.ClassFile.FieldType)).before args0 about1 = true := code_word (m := ⟨7, 1⟩) (meth := k7m1) (c := k7c1) (by decide +kernel) rfl rfl rfl (by decide +kernel)
set_option maxRecDepth 65536 in
theorem w_c3 : (Jvm.Cond.code ({ cls := "java/lang/String", name := "<init>", desc := "([CIILjava/lang/Void;)V" } : Jvm.MethodName) jdk_42_method_149_code (6 : Nat) (Option.none : Option Jvm.ClassFile.FieldType)).before args0 about1 = true := code_word (m := ⟨7, 2⟩) (meth := k7m2) (c := k7c2) (by decide +kernel) rfl rfl rfl (by decide +kernel)
set_option maxRecDepth 65536 in
theorem w_c4 : (Jvm.Cond.code ({ cls := "java/lang/Object", name := "<init>", desc := "()V" } : Jvm.MethodName) object_method_1_code (1 : Nat) (Option.none : Option Jvm.ClassFile.FieldType)).before args0 about1 = true := code_word (m := ⟨0, 0⟩) (meth := k0m0) (c := k0c0) (by decide +kernel) rfl rfl rfl (by decide +kernel)
set_option maxRecDepth 65536 in
theorem w_c5 : (Jvm.Cond.code ({ cls := "java/lang/StringUTF16", name := "compress", desc := "([CII)[B" } : Jvm.MethodName) jdk_52_method_16_code (6 : Nat) (Option.some (Jvm.ClassFile.FieldType.array Jvm.ClassFile.FieldType.byte))).before args0 about1 = true := code_word (m := ⟨8, 2⟩) (meth := k8m2) (c := k8c2) (by decide +kernel) rfl rfl rfl (by decide +kernel)
set_option maxRecDepth 65536 in
theorem w_c6 : (Jvm.Cond.code ({ cls := "java/lang/StringUTF16", name := "compress", desc := "([CI[BII)I" } : Jvm.MethodName) jdk_52_method_21_code (7 : Nat) (Option.some Jvm.ClassFile.FieldType.int)).before args0 about1 = true := code_word (m := ⟨8, 3⟩) (meth := k8m3) (c := k8c3) (by decide +kernel) rfl rfl rfl (by decide +kernel)
set_option maxRecDepth 65536 in
theorem w_c7 : (Jvm.Cond.code ({ cls := "java/lang/StringUTF16", name := "coderFromArrayLen", desc := "([BI)B" } : Jvm.MethodName) jdk_52_method_15_code (2 : Nat) (Option.some Jvm.ClassFile.FieldType.byte)).before args0 about1 = true := code_word (m := ⟨8, 1⟩) (meth := k8m1) (c := k8c1) (by decide +kernel) rfl rfl rfl (by decide +kernel)
set_option maxRecDepth 65536 in
theorem w_c8 : (Jvm.Cond.code ({ cls := "com/example/valet3/valet3/core/AuthorizeAnswer", name := "redirect", desc := "(Ljava/lang/String;Ljava/lang/String;)Lcom/example/valet3/valet3/core/AuthorizeAnswer;" } : Jvm.MethodName) prog_11_method_4_code (2 : Nat) (Option.some (Jvm.ClassFile.FieldType.object "com/example/valet3/valet3/core/AuthorizeAnswer"))).before args0 about1 = true := code_word (m := ⟨10, 1⟩) (meth := k10m1) (c := k10c1) (by decide +kernel) rfl rfl rfl (by decide +kernel)
set_option maxRecDepth 65536 in
theorem w_c9 : (Jvm.Cond.code ({ cls := "com/example/valet3/valet3/core/AuthorizeAnswer", name := "<init>", desc := "(Lcom/example/valet3/valet3/core/AuthorizeRefusal;Ljava/lang/String;Lcom/example/valet3/valet3/core/Prompt;Ljava/lang/String;)V" } : Jvm.MethodName) prog_11_method_1_code (5 : Nat) (Option.none : Option Jvm.ClassFile.FieldType)).before args0 about1 = true := code_word (m := ⟨10, 0⟩) (meth := k10m0) (c := k10c0) (by decide +kernel) rfl rfl rfl (by decide +kernel)
set_option maxRecDepth 65536 in
theorem w_c10 : (Jvm.Cond.code ({ cls := "java/lang/Record", name := "<init>", desc := "()V" } : Jvm.MethodName) jdk_30_method_1_code (1 : Nat) (Option.none : Option Jvm.ClassFile.FieldType)).before args0 about1 = true := code_word (m := ⟨9, 0⟩) (meth := k9m0) (c := k9c0) (by decide +kernel) rfl rfl rfl (by decide +kernel)
set_option maxRecDepth 65536 in
theorem w_c11 : (Jvm.Cond.code ({ cls := "com/example/valet3/valet3/core/AuthorizeAnswer", name := "refusal", desc := "()Lcom/example/valet3/valet3/core/AuthorizeRefusal;" } : Jvm.MethodName) prog_11_method_9_code (1 : Nat) (Option.some (Jvm.ClassFile.FieldType.object "com/example/valet3/valet3/core/AuthorizeRefusal"))).before args0 about1 = true := code_word (m := ⟨10, 2⟩) (meth := k10m2) (c := k10c2) (by decide +kernel) rfl rfl rfl (by decide +kernel)
set_option maxRecDepth 65536 in
theorem w_c12 : (Jvm.Cond.code ({ cls := "com/example/valet3/valet3/core/AuthorizeAnswer", name := "prompt", desc := "()Lcom/example/valet3/valet3/core/Prompt;" } : Jvm.MethodName) prog_11_method_11_code (1 : Nat) (Option.some (Jvm.ClassFile.FieldType.object "com/example/valet3/valet3/core/Prompt"))).before args0 about1 = true := code_word (m := ⟨10, 4⟩) (meth := k10m4) (c := k10c4) (by decide +kernel) rfl rfl rfl (by decide +kernel)
set_option maxRecDepth 65536 in
theorem w_c13 : (Jvm.Cond.code ({ cls := "com/example/valet3/valet3/core/AuthorizeAnswer", name := "location", desc := "()Ljava/lang/String;" } : Jvm.MethodName) prog_11_method_10_code (1 : Nat) (Option.some (Jvm.ClassFile.FieldType.object "java/lang/String"))).before args0 about1 = true := code_word (m := ⟨10, 3⟩) (meth := k10m3) (c := k10c3) (by decide +kernel) rfl rfl rfl (by decide +kernel)
set_option maxRecDepth 65536 in
theorem w_c14 : (Jvm.Cond.code ({ cls := "com/example/valet3/valet3/core/AuthorizeAnswer", name := "newSession", desc := "()Ljava/lang/String;" } : Jvm.MethodName) prog_11_method_12_code (1 : Nat) (Option.some (Jvm.ClassFile.FieldType.object "java/lang/String"))).before args0 about1 = true := code_word (m := ⟨10, 5⟩) (meth := k10m5) (c := k10c5) (by decide +kernel) rfl rfl rfl (by decide +kernel)
def codes1 : List Jvm.Cond := [Jvm.Cond.code x code maxLocals ret, Jvm.Cond.code ({ cls := "com/example/valet3/valet3/core/AuthorizeAnswerRedirectPinLaw", name := "draw", desc := "(III)Ljava/lang/String;" } : Jvm.MethodName) method_2_code (3 : Nat) (Option.some (Jvm.ClassFile.FieldType.object "java/lang/String")), Jvm.Cond.code ({ cls := "java/lang/String", name := "<init>", desc := "([C)V" } : Jvm.MethodName) jdk_42_method_3_code (2 : Nat) (Option.none : Option Jvm.ClassFile.FieldType), Jvm.Cond.code ({ cls := "java/lang/String", name := "<init>", desc := "([CIILjava/lang/Void;)V" } : Jvm.MethodName) jdk_42_method_149_code (6 : Nat) (Option.none : Option Jvm.ClassFile.FieldType), Jvm.Cond.code ({ cls := "java/lang/Object", name := "<init>", desc := "()V" } : Jvm.MethodName) object_method_1_code (1 : Nat) (Option.none : Option Jvm.ClassFile.FieldType), Jvm.Cond.code ({ cls := "java/lang/StringUTF16", name := "compress", desc := "([CII)[B" } : Jvm.MethodName) jdk_52_method_16_code (6 : Nat) (Option.some (Jvm.ClassFile.FieldType.array Jvm.ClassFile.FieldType.byte)), Jvm.Cond.code ({ cls := "java/lang/StringUTF16", name := "compress", desc := "([CI[BII)I" } : Jvm.MethodName) jdk_52_method_21_code (7 : Nat) (Option.some Jvm.ClassFile.FieldType.int), Jvm.Cond.code ({ cls := "java/lang/StringUTF16", name := "coderFromArrayLen", desc := "([BI)B" } : Jvm.MethodName) jdk_52_method_15_code (2 : Nat) (Option.some Jvm.ClassFile.FieldType.byte), Jvm.Cond.code ({ cls := "com/example/valet3/valet3/core/AuthorizeAnswer", name := "redirect", desc := "(Ljava/lang/String;Ljava/lang/String;)Lcom/example/valet3/valet3/core/AuthorizeAnswer;" } : Jvm.MethodName) prog_11_method_4_code (2 : Nat) (Option.some (Jvm.ClassFile.FieldType.object "com/example/valet3/valet3/core/AuthorizeAnswer")), Jvm.Cond.code ({ cls := "com/example/valet3/valet3/core/AuthorizeAnswer", name := "<init>", desc := "(Lcom/example/valet3/valet3/core/AuthorizeRefusal;Ljava/lang/String;Lcom/example/valet3/valet3/core/Prompt;Ljava/lang/String;)V" } : Jvm.MethodName) prog_11_method_1_code (5 : Nat) (Option.none : Option Jvm.ClassFile.FieldType), Jvm.Cond.code ({ cls := "java/lang/Record", name := "<init>", desc := "()V" } : Jvm.MethodName) jdk_30_method_1_code (1 : Nat) (Option.none : Option Jvm.ClassFile.FieldType), Jvm.Cond.code ({ cls := "com/example/valet3/valet3/core/AuthorizeAnswer", name := "refusal", desc := "()Lcom/example/valet3/valet3/core/AuthorizeRefusal;" } : Jvm.MethodName) prog_11_method_9_code (1 : Nat) (Option.some (Jvm.ClassFile.FieldType.object "com/example/valet3/valet3/core/AuthorizeRefusal")), Jvm.Cond.code ({ cls := "com/example/valet3/valet3/core/AuthorizeAnswer", name := "prompt", desc := "()Lcom/example/valet3/valet3/core/Prompt;" } : Jvm.MethodName) prog_11_method_11_code (1 : Nat) (Option.some (Jvm.ClassFile.FieldType.object "com/example/valet3/valet3/core/Prompt")), Jvm.Cond.code ({ cls := "com/example/valet3/valet3/core/AuthorizeAnswer", name := "location", desc := "()Ljava/lang/String;" } : Jvm.MethodName) prog_11_method_10_code (1 : Nat) (Option.some (Jvm.ClassFile.FieldType.object "java/lang/String")), Jvm.Cond.code ({ cls := "com/example/valet3/valet3/core/AuthorizeAnswer", name := "newSession", desc := "()Ljava/lang/String;" } : Jvm.MethodName) prog_11_method_12_code (1 : Nat) (Option.some (Jvm.ClassFile.FieldType.object "java/lang/String"))]
set_option maxRecDepth 65536 in
theorem codes_eq : words1.filter isCode = codes1 := rfl
theorem w_codes : ∀ c ∈ words1.filter isCode, c.before args0 about1 = true := by
  rw [codes_eq]
  intro c hc
  simp only [codes1, List.mem_cons, List.not_mem_nil, or_false] at hc
  rcases hc with rfl | rfl | rfl | rfl | rfl | rfl | rfl | rfl | rfl | rfl | rfl | rfl | rfl | rfl | rfl
  · exact w_c0
  · exact w_c1
  · exact w_c2
  · exact w_c3
  · exact w_c4
  · exact w_c5
  · exact w_c6
  · exact w_c7
  · exact w_c8
  · exact w_c9
  · exact w_c10
  · exact w_c11
  · exact w_c12
  · exact w_c13
  · exact w_c14
set_option maxRecDepth 65536 in
theorem w_t1 : (words1.take 24).all (fun c => isCode c || c.before args0 about1) = true := by decide +kernel
set_option maxRecDepth 65536 in
theorem w_t2 : ((words1.drop 24).take 24).all (fun c => isCode c || c.before args0 about1) = true := by decide +kernel
set_option maxRecDepth 65536 in
theorem w_t3 : (((words1.drop 24).drop 24).take 24).all (fun c => isCode c || c.before args0 about1) = true := by decide +kernel
set_option maxRecDepth 65536 in
theorem w_t4 : (((words1.drop 24).drop 24).drop 24).all (fun c => isCode c || c.before args0 about1) = true := by decide +kernel
theorem w_tables : (allAtoms (Jvm.Cond.code x code maxLocals ret :: tables_1)).before args0 about1 = true := by
  rw [allAtoms_all]
  show words1.all (fun c => c.before args0 about1) = true
  refine all_split ?_ w_codes
  rw [← List.take_append_drop 24 words1, List.all_append, w_t1, ← List.take_append_drop 24 (words1.drop 24), List.all_append, w_t2, ← List.take_append_drop 24 ((words1.drop 24).drop 24), List.all_append, w_t3, w_t4]
  rfl
set_option maxRecDepth 65536 in
theorem w_rest : rest_1_c.before args0 about1 = true := by decide +kernel
set_option maxRecDepth 65536 in
theorem w_case : (Jvm.Cond.and given_1 narrow_1).before args0 about1 = true := by decide +kernel
set_option maxRecDepth 65536 in
theorem w_consts : constsHeld consts_1 about1 := Jvm.Lit.constsHeldB_iff.mp (by decide +kernel)
theorem w_applies : (headSpec (Jvm.Cond.code x code maxLocals ret :: tables_1) room_1).applies x e0.platform about1 = true :=
  (Spec.applies_iff w_frames).mpr ⟨w_running, w_runnable, w_alone, w_named, w_hears, w_ripe, w_room, w_tables⟩
theorem atStart : AtStart classFile x code maxLocals ret World_1 tables_1 room_1 Calls_1 rest_1 Pre_1 launch0 p0 e0 about1 theMethod args0 below0 :=
  ⟨lists_1, trivial, launch0.admits_env _ _ _, launch0.least_env, fairChoices_fair.cas, fairChoices_fair.clock, w_frames, w_args, w_heap, w_applies, ⟨w_consts, trivial⟩, w_rest, w_case⟩
end start1
theorem witness_1 : WitnessClaimed_1 := ⟨start1.p0, start1.e0, start1.about1, start1.theMethod, start1.args0, start1.below0, start1.atStart⟩
end Jvm.Pilot.@@N@@
