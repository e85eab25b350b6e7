import JvmDerived
import JvmDerived.Pilot.@@N@@Statement
import JvmDerived.Pilot.@@N@@Code
set_option linter.unusedVariables false
set_option linter.unusedSimpArgs false
namespace Jvm.Pilot.@@N@@
open Jvm Jvm.ClassFile Sem Op Lib Jvm.Free Jvm.Stand Jvm.LawKit Jvm.RoadKit Bundle Jvm.Pilot.@@N@@.Jvm.D
/-! A walk in continuation form, over the library's family of laws (Stand, XS, RoadKit). -/
theorem own_w {Z : State} {a0 : Array Value} (hw : ∀ d ∈ tables_1, d.before a0 Z = true) {d : Jvm.Cond} (i : Nat) (q : tables_1[i]? = some d) : d.before a0 Z = true := hw d (List.mem_of_getElem? q)
section OwnKit
variable {p : Program} {l : Launch} {e : Env} {R : Room} {s : State} {m : MethodId} {args : Array Value} {below : List Frame} {meth : Method} {c : Code} {Z : State} {n0 : Nat} {own : String} {bytes : ByteArray} {ml : Nat} {rt : Option FieldType} {nm : String} {Q : Option Value → Heap → Prop} {h : Heap} {k n : Nat} {pc pc' : Nat} {Ls Ls' : Array Slot} {st rest : List Value} {a0 : Array Value} {f f' : JFrame}
/-- what is left of a body's run from S: it returns, Q holds of the value and the heap, only places at or above n0 were written -/
def own_Fin (p : Program) (e : Env) (R : Room) (s : State) (below : List Frame) (n0 : Nat) (Q : Option Value → Heap → Prop) (S : State) : Prop :=
  ∃ s₂ o, Steps p.tables e below S s₂ ∧ s₂.status = .running ∧ Ended s₂ below o ∧ ∃ v L, o = .returned v ∧ (Q v s₂.heap ∧ Fr n0 L) ∧ FrameEnd s o s₂ L R.cells R.slots
/-- what is known of the body that is walked -/
def own_Cx (Z : State) (p : Program) (s : State) (m : MethodId) (meth : Method) (c : Code) (own : String) (bytes : ByteArray) (ml : Nat) (rt : Option FieldType) (nm : String) : Prop :=
  p.tables.exec = Jvm.exec ∧ Z.Warmed39 s.vm ∧ s.vm.findClass own = some m.cls ∧ c.code = bytes ∧ c.maxLocals = ml ∧ meth.sig.returnType = rt ∧ meth.locks = false ∧ meth.name = nm
/-- from the frame f over the heap h (k cells and n slots made so far) the body ends well -/
def own_At (p : Program) (l : Launch) (e : Env) (R : Room) (s : State) (m : MethodId) (args : Array Value) (below : List Frame) (meth : Method) (c : Code) (n0 : Nat) (Q : Option Value → Heap → Prop) (h : Heap) (k n : Nat) (f : JFrame) : Prop :=
  ∀ T L, Stand p l e R s m args below meth c T L k n → Fr n0 L → T.heap = h → own_Fin p e R s below n0 Q (T.setTop f)
theorem own_via {S S' : State} (H : ∀ t, Steps p.tables e below S' t → Steps p.tables e below S t) (K : own_Fin p e R s below n0 Q S') : own_Fin p e R s below n0 Q S := by
  obtain ⟨s₂, o, h1, r⟩ := K
  exact ⟨s₂, o, H _ h1, r⟩
theorem own_of (H : ∀ T L, Stand p l e R s m args below meth c T L k n → ∀ t, Steps p.tables e below (T.setTop f') t → Steps p.tables e below (T.setTop f) t) (K : own_At p l e R s m args below meth c n0 Q h k n f') : own_At p l e R s m args below meth c n0 Q h k n f :=
  fun T L X N eT => own_via (H T L X) (K T L X N eT)
theorem own_eq (q : f = f') (K : own_At p l e R s m args below meth c n0 Q h k n f') : own_At p l e R s m args below meth c n0 Q h k n f := q ▸ K
/-! ### plain steps -/
theorem own_iloadN (C : own_Cx Z p s m meth c own bytes ml rt nm) {i : Fin 4} {v : Int32} (hd : decode bytes pc = .ok (.iload_n i, 1)) (hl : Ls[i.val]? = some (.val (.int v))) (hp : pc + 1 = pc')
    (K : own_At p l e R s m args below meth c n0 Q h k n (mkF m pc' Ls (.int v :: st))) : own_At p l e R s m args below meth c n0 Q h k n (mkF m pc Ls st) := by
  subst hp; exact own_of (fun T L X t hr => XS.iloadN X.here C.1 rfl (hb C.2.2.2.1 hd) hl hr) K
theorem own_iload (C : own_Cx Z p s m meth c own bytes ml rt nm) {i : Nat} {v : Int32} (hd : decode bytes pc = .ok (.iload i, 2)) (hl : Ls[i]? = some (.val (.int v))) (hp : pc + 2 = pc')
    (K : own_At p l e R s m args below meth c n0 Q h k n (mkF m pc' Ls (.int v :: st))) : own_At p l e R s m args below meth c n0 Q h k n (mkF m pc Ls st) := by
  subst hp; exact own_of (fun T L X t hr => XS.iload X.here C.1 rfl (hb C.2.2.2.1 hd) hl hr) K
theorem own_aloadN (C : own_Cx Z p s m meth c own bytes ml rt nm) {i : Fin 4} {v : Value} (hd : decode bytes pc = .ok (.aload_n i, 1)) (hl : Ls[i.val]? = some (.val v)) (hv : v.isRef = true) (hp : pc + 1 = pc')
    (K : own_At p l e R s m args below meth c n0 Q h k n (mkF m pc' Ls (v :: st))) : own_At p l e R s m args below meth c n0 Q h k n (mkF m pc Ls st) := by
  subst hp; exact own_of (fun T L X t hr => XS.aloadN X.here C.1 rfl (hb C.2.2.2.1 hd) hl hv hr) K
theorem own_aload (C : own_Cx Z p s m meth c own bytes ml rt nm) {i : Nat} {v : Value} (hd : decode bytes pc = .ok (.aload i, 2)) (hl : Ls[i]? = some (.val v)) (hv : v.isRef = true) (hp : pc + 2 = pc')
    (K : own_At p l e R s m args below meth c n0 Q h k n (mkF m pc' Ls (v :: st))) : own_At p l e R s m args below meth c n0 Q h k n (mkF m pc Ls st) := by
  subst hp; exact own_of (fun T L X t hr => XS.aload X.here C.1 rfl (hb C.2.2.2.1 hd) hl hv hr) K
theorem own_istoreN (C : own_Cx Z p s m meth c own bytes ml rt nm) {i : Fin 4} {v : Int32} (hd : decode bytes pc = .ok (.istore_n i, 1)) (hl : storeLocals Ls i.val (.int v) = some Ls') (hp : pc + 1 = pc')
    (K : own_At p l e R s m args below meth c n0 Q h k n (mkF m pc' Ls' st)) : own_At p l e R s m args below meth c n0 Q h k n (mkF m pc Ls (.int v :: st)) := by
  subst hp; exact own_of (fun T L X t hr => XS.istoreN X.here C.1 rfl (hb C.2.2.2.1 hd) rfl hl hr) K
theorem own_istore (C : own_Cx Z p s m meth c own bytes ml rt nm) {i : Nat} {v : Int32} (hd : decode bytes pc = .ok (.istore i, 2)) (hl : storeLocals Ls i (.int v) = some Ls') (hp : pc + 2 = pc')
    (K : own_At p l e R s m args below meth c n0 Q h k n (mkF m pc' Ls' st)) : own_At p l e R s m args below meth c n0 Q h k n (mkF m pc Ls (.int v :: st)) := by
  subst hp; exact own_of (fun T L X t hr => XS.istore X.here C.1 rfl (hb C.2.2.2.1 hd) rfl hl hr) K
theorem own_astoreN (C : own_Cx Z p s m meth c own bytes ml rt nm) {i : Fin 4} {v : Value} (hd : decode bytes pc = .ok (.astore_n i, 1)) (hv : v.isRef = true) (hl : storeLocals Ls i.val v = some Ls') (hp : pc + 1 = pc')
    (K : own_At p l e R s m args below meth c n0 Q h k n (mkF m pc' Ls' st)) : own_At p l e R s m args below meth c n0 Q h k n (mkF m pc Ls (v :: st)) := by
  subst hp; exact own_of (fun T L X t hr => XS.astoreN X.here C.1 rfl (hb C.2.2.2.1 hd) rfl hv hl hr) K
theorem own_astore (C : own_Cx Z p s m meth c own bytes ml rt nm) {i : Nat} {v : Value} (hd : decode bytes pc = .ok (.astore i, 2)) (hv : v.isRef = true) (hl : storeLocals Ls i v = some Ls') (hp : pc + 2 = pc')
    (K : own_At p l e R s m args below meth c n0 Q h k n (mkF m pc' Ls' st)) : own_At p l e R s m args below meth c n0 Q h k n (mkF m pc Ls (v :: st)) := by
  subst hp; exact own_of (fun T L X t hr => XS.astore X.here C.1 rfl (hb C.2.2.2.1 hd) rfl hv hl hr) K
theorem own_iconst (C : own_Cx Z p s m meth c own bytes ml rt nm) {i : Int} {v : Int32} (hd : decode bytes pc = .ok (.iconst i, 1)) (hv : Int32.ofInt i = v) (hp : pc + 1 = pc')
    (K : own_At p l e R s m args below meth c n0 Q h k n (mkF m pc' Ls (.int v :: st))) : own_At p l e R s m args below meth c n0 Q h k n (mkF m pc Ls st) := by
  subst hp hv; exact own_of (fun T L X t hr => XS.iconst X.here C.1 rfl (hb C.2.2.2.1 hd) hr) K
theorem own_bipush (C : own_Cx Z p s m meth c own bytes ml rt nm) {i : Int} {v : Int32} (hd : decode bytes pc = .ok (.bipush i, 2)) (hv : (Int8.ofInt i).toInt32 = v) (hp : pc + 2 = pc')
    (K : own_At p l e R s m args below meth c n0 Q h k n (mkF m pc' Ls (.int v :: st))) : own_At p l e R s m args below meth c n0 Q h k n (mkF m pc Ls st) := by
  subst hp hv; exact own_of (fun T L X t hr => XS.bipush X.here C.1 rfl (hb C.2.2.2.1 hd) hr) K
theorem own_sipush (C : own_Cx Z p s m meth c own bytes ml rt nm) {i : Int} {v : Int32} (hd : decode bytes pc = .ok (.sipush i, 3)) (hv : (Int16.ofInt i).toInt32 = v) (hp : pc + 3 = pc')
    (K : own_At p l e R s m args below meth c n0 Q h k n (mkF m pc' Ls (.int v :: st))) : own_At p l e R s m args below meth c n0 Q h k n (mkF m pc Ls st) := by
  subst hp hv; exact own_of (fun T L X t hr => XS.sipush X.here C.1 rfl (hb C.2.2.2.1 hd) hr) K
theorem own_aconst_null (C : own_Cx Z p s m meth c own bytes ml rt nm) (hd : decode bytes pc = .ok (.aconst_null, 1)) (hp : pc + 1 = pc')
    (K : own_At p l e R s m args below meth c n0 Q h k n (mkF m pc' Ls (.null :: st))) : own_At p l e R s m args below meth c n0 Q h k n (mkF m pc Ls st) := by
  subst hp; exact own_of (fun T L X t hr => XS.aconstNull X.here C.1 rfl (hb C.2.2.2.1 hd) hr) K
theorem own_ldc (C : own_Cx Z p s m meth c own bytes ml rt nm) {i : Nat} {v : Int32} (w : (Cond.constant own i v).before a0 Z = true) (hd : decode bytes pc = .ok (.ldc i, 2)) (hp : pc + 2 = pc')
    (K : own_At p l e R s m args below meth c n0 Q h k n (mkF m pc' Ls (.int v :: st))) : own_At p l e R s m args below meth c n0 Q h k n (mkF m pc Ls st) := by
  subst hp; exact own_of (fun T L X t hr => X.ldcI C.1 C.2.2.1 (mvT C.2.1 w) rfl (hb C.2.2.2.1 hd) hr) K
theorem own_iadd (C : own_Cx Z p s m meth c own bytes ml rt nm) {x y z : Int32} (hd : decode bytes pc = .ok (.iadd, 1)) (hz : x + y = z) (hp : pc + 1 = pc')
    (K : own_At p l e R s m args below meth c n0 Q h k n (mkF m pc' Ls (.int z :: st))) : own_At p l e R s m args below meth c n0 Q h k n (mkF m pc Ls (.int y :: .int x :: st)) := by
  subst hp hz; exact own_of (fun T L X t hr => XS.iadd X.here C.1 rfl (hb C.2.2.2.1 hd) rfl hr) K
theorem own_isub (C : own_Cx Z p s m meth c own bytes ml rt nm) {x y z : Int32} (hd : decode bytes pc = .ok (.isub, 1)) (hz : x - y = z) (hp : pc + 1 = pc')
    (K : own_At p l e R s m args below meth c n0 Q h k n (mkF m pc' Ls (.int z :: st))) : own_At p l e R s m args below meth c n0 Q h k n (mkF m pc Ls (.int y :: .int x :: st)) := by
  subst hp hz; exact own_of (fun T L X t hr => XS.isub X.here C.1 rfl (hb C.2.2.2.1 hd) rfl hr) K
theorem own_imul (C : own_Cx Z p s m meth c own bytes ml rt nm) {x y z : Int32} (hd : decode bytes pc = .ok (.imul, 1)) (hz : x * y = z) (hp : pc + 1 = pc')
    (K : own_At p l e R s m args below meth c n0 Q h k n (mkF m pc' Ls (.int z :: st))) : own_At p l e R s m args below meth c n0 Q h k n (mkF m pc Ls (.int y :: .int x :: st)) := by
  subst hp hz; exact own_of (fun T L X t hr => XS.imul X.here C.1 rfl (hb C.2.2.2.1 hd) rfl hr) K
theorem own_iand (C : own_Cx Z p s m meth c own bytes ml rt nm) {x y z : Int32} (hd : decode bytes pc = .ok (.iand, 1)) (hz : x &&& y = z) (hp : pc + 1 = pc')
    (K : own_At p l e R s m args below meth c n0 Q h k n (mkF m pc' Ls (.int z :: st))) : own_At p l e R s m args below meth c n0 Q h k n (mkF m pc Ls (.int y :: .int x :: st)) := by
  subst hp hz; exact own_of (fun T L X t hr => XS.iand X.here C.1 rfl (hb C.2.2.2.1 hd) rfl hr) K
theorem own_ixor (C : own_Cx Z p s m meth c own bytes ml rt nm) {x y z : Int32} (hd : decode bytes pc = .ok (.ixor, 1)) (hz : x ^^^ y = z) (hp : pc + 1 = pc')
    (K : own_At p l e R s m args below meth c n0 Q h k n (mkF m pc' Ls (.int z :: st))) : own_At p l e R s m args below meth c n0 Q h k n (mkF m pc Ls (.int y :: .int x :: st)) := by
  subst hp hz; exact own_of (fun T L X t hr => XS.ixor X.here C.1 rfl (hb C.2.2.2.1 hd) rfl hr) K
theorem own_ishr (C : own_Cx Z p s m meth c own bytes ml rt nm) {x y z : Int32} (hd : decode bytes pc = .ok (.ishr, 1)) (hz : x >>> (y &&& 31) = z) (hp : pc + 1 = pc')
    (K : own_At p l e R s m args below meth c n0 Q h k n (mkF m pc' Ls (.int z :: st))) : own_At p l e R s m args below meth c n0 Q h k n (mkF m pc Ls (.int y :: .int x :: st)) := by
  subst hp hz; exact own_of (fun T L X t hr => XS.ishr X.here C.1 rfl (hb C.2.2.2.1 hd) rfl hr) K
theorem own_ishl (C : own_Cx Z p s m meth c own bytes ml rt nm) {x y z : Int32} (hd : decode bytes pc = .ok (.ishl, 1)) (hz : x <<< (y &&& 31) = z) (hp : pc + 1 = pc')
    (K : own_At p l e R s m args below meth c n0 Q h k n (mkF m pc' Ls (.int z :: st))) : own_At p l e R s m args below meth c n0 Q h k n (mkF m pc Ls (.int y :: .int x :: st)) := by
  subst hp hz; exact own_of (fun T L X t hr => XS.ishl X.here C.1 rfl (hb C.2.2.2.1 hd) rfl hr) K
theorem own_ineg (C : own_Cx Z p s m meth c own bytes ml rt nm) {x z : Int32} (hd : decode bytes pc = .ok (.ineg, 1)) (hz : -x = z) (hp : pc + 1 = pc')
    (K : own_At p l e R s m args below meth c n0 Q h k n (mkF m pc' Ls (.int z :: st))) : own_At p l e R s m args below meth c n0 Q h k n (mkF m pc Ls (.int x :: st)) := by
  subst hp hz; exact own_of (fun T L X t hr => XS.ineg X.here C.1 rfl (hb C.2.2.2.1 hd) rfl hr) K
theorem own_i2b (C : own_Cx Z p s m meth c own bytes ml rt nm) {x z : Int32} (hd : decode bytes pc = .ok (.i2b, 1)) (hz : x.toInt8.toInt32 = z) (hp : pc + 1 = pc')
    (K : own_At p l e R s m args below meth c n0 Q h k n (mkF m pc' Ls (.int z :: st))) : own_At p l e R s m args below meth c n0 Q h k n (mkF m pc Ls (.int x :: st)) := by
  subst hp hz; exact own_of (fun T L X t hr => XS.i2b X.here C.1 rfl (hb C.2.2.2.1 hd) rfl hr) K
theorem own_pop (C : own_Cx Z p s m meth c own bytes ml rt nm) {x : Value} (hd : decode bytes pc = .ok (.pop, 1)) (hx : x.category = 1) (hp : pc + 1 = pc')
    (K : own_At p l e R s m args below meth c n0 Q h k n (mkF m pc' Ls st)) : own_At p l e R s m args below meth c n0 Q h k n (mkF m pc Ls (x :: st)) := by
  subst hp; exact own_of (fun T L X t hr => XS.pop X.here C.1 rfl (hb C.2.2.2.1 hd) rfl hx hr) K
theorem own_irem (C : own_Cx Z p s m meth c own bytes ml rt nm) {x y z : Int32} (hd : decode bytes pc = .ok (.irem, 1)) (hy : y ≠ 0) (hz : x % y = z) (hp : pc + 1 = pc')
    (K : own_At p l e R s m args below meth c n0 Q h k n (mkF m pc' Ls (.int z :: st))) : own_At p l e R s m args below meth c n0 Q h k n (mkF m pc Ls (.int y :: .int x :: st)) := by
  subst hp hz; exact own_of (fun T L X t hr => iremM X C.1 rfl (hb C.2.2.2.1 hd) rfl hy hr) K
theorem own_idiv (C : own_Cx Z p s m meth c own bytes ml rt nm) {x y z : Int32} (hd : decode bytes pc = .ok (.idiv, 1)) (hy : y ≠ 0) (hz : x / y = z) (hp : pc + 1 = pc')
    (K : own_At p l e R s m args below meth c n0 Q h k n (mkF m pc' Ls (.int z :: st))) : own_At p l e R s m args below meth c n0 Q h k n (mkF m pc Ls (.int y :: .int x :: st)) := by
  subst hp hz; exact own_of (fun T L X t hr => XS.idiv X.here C.1 rfl (hb C.2.2.2.1 hd) rfl hy hr) K
theorem own_dup (C : own_Cx Z p s m meth c own bytes ml rt nm) {x : Value} (hd : decode bytes pc = .ok (.dup, 1)) (hx : x.category = 1) (hp : pc + 1 = pc')
    (K : own_At p l e R s m args below meth c n0 Q h k n (mkF m pc' Ls (x :: x :: st))) : own_At p l e R s m args below meth c n0 Q h k n (mkF m pc Ls (x :: st)) := by
  subst hp; exact own_of (fun T L X t hr => XS.dup X.here C.1 rfl (hb C.2.2.2.1 hd) rfl hx hr) K
theorem own_iinc (C : own_Cx Z p s m meth c own bytes ml rt nm) {i : Nat} {d : Int} {v w : Int32} (hd : decode bytes pc = .ok (.iinc i d, 3)) (hl : Ls[i]? = some (.val (.int v))) (hw : v + Int32.ofInt d = w) (hs : storeLocals Ls i (.int w) = some Ls') (hp : pc + 3 = pc')
    (K : own_At p l e R s m args below meth c n0 Q h k n (mkF m pc' Ls' st)) : own_At p l e R s m args below meth c n0 Q h k n (mkF m pc Ls st) := by
  subst hp hw; exact own_of (fun T L X t hr => XS.iinc X.here C.1 rfl (hb C.2.2.2.1 hd) hl hs hr) K
theorem own_goto (C : own_Cx Z p s m meth c own bytes ml rt nm) {o : Int} (hd : decode bytes pc = .ok (.goto o, 3)) (ho : 0 ≤ (pc : Int) + o) (hp : ((pc : Int) + o).toNat = pc')
    (K : own_At p l e R s m args below meth c n0 Q h k n (mkF m pc' Ls st)) : own_At p l e R s m args below meth c n0 Q h k n (mkF m pc Ls st) :=
  own_of (fun T L X t hr => XS.goto X.here C.1 rfl (pc0 := pc) rfl (hb C.2.2.2.1 hd) ho hp hr) K
theorem own_ifY (C : own_Cx Z p s m meth c own bytes ml rt nm) {cd : ClassFile.Cond} {x : Int32} {o : Int} (hd : decode bytes pc = .ok (.ifCond cd o, 3)) (hc : ifCond.holds cd x = true) (ho : 0 ≤ (pc : Int) + o) (hp : ((pc : Int) + o).toNat = pc')
    (K : own_At p l e R s m args below meth c n0 Q h k n (mkF m pc' Ls st)) : own_At p l e R s m args below meth c n0 Q h k n (mkF m pc Ls (.int x :: st)) :=
  own_of (fun T L X t hr => XS.ifYes X.here C.1 rfl (pc0 := pc) rfl (hb C.2.2.2.1 hd) rfl hc ho hp hr) K
theorem own_ifN (C : own_Cx Z p s m meth c own bytes ml rt nm) {cd : ClassFile.Cond} {x : Int32} {o : Int} (hd : decode bytes pc = .ok (.ifCond cd o, 3)) (hc : ifCond.holds cd x = false) (hp : pc + 3 = pc')
    (K : own_At p l e R s m args below meth c n0 Q h k n (mkF m pc' Ls st)) : own_At p l e R s m args below meth c n0 Q h k n (mkF m pc Ls (.int x :: st)) := by
  subst hp; exact own_of (fun T L X t hr => XS.ifNo X.here C.1 rfl (hb C.2.2.2.1 hd) rfl hc hr) K
theorem own_icmpY (C : own_Cx Z p s m meth c own bytes ml rt nm) {cd : ClassFile.Cond} {x y : Int32} {o : Int} (hd : decode bytes pc = .ok (.if_icmp cd o, 3)) (hc : if_icmp.holds cd x y = true) (ho : 0 ≤ (pc : Int) + o) (hp : ((pc : Int) + o).toNat = pc')
    (K : own_At p l e R s m args below meth c n0 Q h k n (mkF m pc' Ls st)) : own_At p l e R s m args below meth c n0 Q h k n (mkF m pc Ls (.int y :: .int x :: st)) :=
  own_of (fun T L X t hr => XS.icmpYes X.here C.1 rfl (pc0 := pc) rfl (hb C.2.2.2.1 hd) rfl hc ho hp hr) K
theorem own_icmpN (C : own_Cx Z p s m meth c own bytes ml rt nm) {cd : ClassFile.Cond} {x y : Int32} {o : Int} (hd : decode bytes pc = .ok (.if_icmp cd o, 3)) (hc : if_icmp.holds cd x y = false) (hp : pc + 3 = pc')
    (K : own_At p l e R s m args below meth c n0 Q h k n (mkF m pc' Ls st)) : own_At p l e R s m args below meth c n0 Q h k n (mkF m pc Ls (.int y :: .int x :: st)) := by
  subst hp; exact own_of (fun T L X t hr => XS.icmpNo X.here C.1 rfl (hb C.2.2.2.1 hd) rfl hc hr) K
theorem own_acmp (C : own_Cx Z p s m meth c own bytes ml rt nm) {cd : ACond} {x y : Value} {o : Int} {same : Bool} (hd : decode bytes pc = .ok (.if_acmp cd o, 3)) (h1 : x.isRef = true) (h2 : y.isRef = true) (hq : decide (x = y) = same) (ho : 0 ≤ (pc : Int) + o) (hp : pc' = if acV cd same = true then ((pc : Int) + o).toNat else pc + 3)
    (K : own_At p l e R s m args below meth c n0 Q h k n (mkF m pc' Ls st)) : own_At p l e R s m args below meth c n0 Q h k n (mkF m pc Ls (y :: x :: st)) :=
  own_of (fun T L X t hr => RoadKit.acmp (g := mkF m pc Ls (y :: x :: st)) X C.1 rfl h1 h2 (pc0 := pc) rfl (hb C.2.2.2.1 hd) rfl hq ho hp hr) K
theorem own_same (a : Addr) : decide ((Value.ref a) = .ref a) = true := decide_eq_true rfl
theorem own_unlike {a b : Addr} (q : a ≠ b) : decide ((Value.ref a) = .ref b) = false := decide_eq_false fun z => q (Value.ref.inj z)
theorem own_nullY (C : own_Cx Z p s m meth c own bytes ml rt nm) {o : Int} (hd : decode bytes pc = .ok (.ifnull o, 3)) (ho : 0 ≤ (pc : Int) + o) (hp : ((pc : Int) + o).toNat = pc')
    (K : own_At p l e R s m args below meth c n0 Q h k n (mkF m pc' Ls st)) : own_At p l e R s m args below meth c n0 Q h k n (mkF m pc Ls (.null :: st)) :=
  own_of (fun T L X t hr => XS.ifnullYes X.here C.1 rfl (pc0 := pc) rfl (hb C.2.2.2.1 hd) rfl ho hp hr) K
theorem own_nullN (C : own_Cx Z p s m meth c own bytes ml rt nm) {o : Int} {a : Addr} (hd : decode bytes pc = .ok (.ifnull o, 3)) (hp : pc + 3 = pc')
    (K : own_At p l e R s m args below meth c n0 Q h k n (mkF m pc' Ls st)) : own_At p l e R s m args below meth c n0 Q h k n (mkF m pc Ls (.ref a :: st)) := by
  subst hp; exact own_of (fun T L X t hr => XS.ifnullNo X.here C.1 rfl (hb C.2.2.2.1 hd) rfl hr) K
theorem own_nonnullY (C : own_Cx Z p s m meth c own bytes ml rt nm) {o : Int} {a : Addr} (hd : decode bytes pc = .ok (.ifnonnull o, 3)) (ho : 0 ≤ (pc : Int) + o) (hp : ((pc : Int) + o).toNat = pc')
    (K : own_At p l e R s m args below meth c n0 Q h k n (mkF m pc' Ls st)) : own_At p l e R s m args below meth c n0 Q h k n (mkF m pc Ls (.ref a :: st)) :=
  own_of (fun T L X t hr => XS.ifnonnullYes X.here C.1 rfl (pc0 := pc) rfl (hb C.2.2.2.1 hd) rfl ho hp hr) K
theorem own_nonnullN (C : own_Cx Z p s m meth c own bytes ml rt nm) {o : Int} (hd : decode bytes pc = .ok (.ifnonnull o, 3)) (hp : pc + 3 = pc')
    (K : own_At p l e R s m args below meth c n0 Q h k n (mkF m pc' Ls st)) : own_At p l e R s m args below meth c n0 Q h k n (mkF m pc Ls (.null :: st)) := by
  subst hp; exact own_of (fun T L X t hr => XS.ifnonnullNo X.here C.1 rfl (hb C.2.2.2.1 hd) rfl hr) K
/-! ### reads and writes -/
theorem own_getstatic (C : own_Cx Z p s m meth c own bytes ml rt nm) {O f d : String} {i : Nat} {v : Value} (w : (Cond.fieldLink own i O f d).before a0 Z = true) (F : Sta Z h O f d v) (hd : decode bytes pc = .ok (.getstatic i, 3)) (hp : pc + 3 = pc')
    (K : own_At p l e R s m args below meth c n0 Q h k n (mkF m pc' Ls (v :: st))) : own_At p l e R s m args below meth c n0 Q h k n (mkF m pc Ls st) := by
  subst hp
  intro T L X N eT
  obtain ⟨T', X', e', stp⟩ := getS2 X C.1 C.2.1 C.2.2.1 (host := "") (Or.inl w) Via.refl eT F (g := mkF m pc Ls st) rfl (hb C.2.2.2.1 hd)
  exact own_via stp (K T' L X' N e')
theorem own_getfield (C : own_Cx Z p s m meth c own bytes ml rt nm) {R0 O f d : String} {i : Nat} {a : Addr} {v : Value} (w : (Cond.fieldLink own i R0 f d).before a0 Z = true) (via : Via Z R0 O f d) (F : Fld Z h a O f d v) (hd : decode bytes pc = .ok (.getfield i, 3)) (hp : pc + 3 = pc')
    (K : own_At p l e R s m args below meth c n0 Q h k n (mkF m pc' Ls (v :: st))) : own_At p l e R s m args below meth c n0 Q h k n (mkF m pc Ls (.ref a :: st)) := by
  subst hp
  intro T L X N eT
  obtain ⟨T', X', e', stp⟩ := getF X C.1 C.2.1 C.2.2.1 (host := "") (Or.inl w) via eT F (g := mkF m pc Ls (.ref a :: st)) rfl rfl (hb C.2.2.2.1 hd)
  exact own_via stp (K T' L X' N e')
/-! ### returns -/
theorem own_back (C : own_Cx Z p s m meth c own bytes ml rt nm) {v : Option Value} (hv : rt = none → v = none) (hk : k ≤ R.cells) (hn : n ≤ R.slots) (hQ : Q v h)
    (H : ∀ T L, Stand p l e R s m args below meth c T L k n → ∀ fs, (∀ (f : JFrame) (acts : List Action), f.method = m → f.locked = none → f.entered = [] → (doReturn e (T.setTop f) acts v).1 = T.setFrames fs) → Steps p.tables e below (T.setTop f) (T.setFrames fs)) :
    own_At p l e R s m args below meth c n0 Q h k n f := by
  intro T L X N eT
  obtain ⟨fs, hr, hrun, hended, hW, hsame⟩ := X.leave (v := v) (fun q => hv (C.2.2.2.2.2.1.symm.trans q)) C.2.2.2.2.2.2.1
  exact ⟨_, _, H T L X fs hr, hrun, hended, _, _, rfl, ⟨by show Q v T.heap; rw [eT]; exact hQ, N⟩, ⟨_, rfl⟩, hW, hsame.mono hk hn⟩
theorem own_ireturn {t : FieldType} (C : own_Cx Z p s m meth c own bytes ml (some t) nm) {z : Int32} (ht : t = .int ∨ t = .boolean ∨ t = .byte ∨ t = .char ∨ t = .short) (hn : narrow t (.int z) = .int z) (hd : decode bytes pc = .ok (.ireturn, 1)) (hk : k ≤ R.cells) (hs : n ≤ R.slots) (hQ : Q (some (.int z)) h) :
    own_At p l e R s m args below meth c n0 Q h k n (mkF m pc Ls (.int z :: st)) :=
  own_back C (fun q => nomatch q) hk hs hQ fun T L X fs hr => retOut X C.1 C.2.2.2.2.2.1 hn (Or.inl ⟨rfl, ht, _, rfl⟩) (hb C.2.2.2.1 hd) hr
theorem own_dreturn (C : own_Cx Z p s m meth c own bytes ml (some .double) nm) {z : UInt64} (hd : decode bytes pc = .ok (.dreturn, 1)) (hk : k ≤ R.cells) (hs : n ≤ R.slots) (hQ : Q (some (.double z)) h) :
    own_At p l e R s m args below meth c n0 Q h k n (mkF m pc Ls (.double z :: st)) :=
  own_back C (fun q => nomatch q) hk hs hQ fun T L X fs hr => retOut X C.1 C.2.2.2.2.2.1 rfl (Or.inr (Or.inr (Or.inl ⟨rfl, rfl, _, rfl⟩))) (hb C.2.2.2.1 hd) hr
theorem own_areturn {t : FieldType} (C : own_Cx Z p s m meth c own bytes ml (some t) nm) {v : Value} (ht : t.isReference = true) (hv : v.isRef = true) (hd : decode bytes pc = .ok (.areturn, 1)) (hk : k ≤ R.cells) (hs : n ≤ R.slots) (hQ : Q (some v) h) :
    own_At p l e R s m args below meth c n0 Q h k n (mkF m pc Ls (v :: st)) :=
  own_back C (fun q => nomatch q) hk hs hQ fun T L X fs hr => retOut X C.1 C.2.2.2.2.2.1 (by cases t <;> simp [FieldType.isReference] at ht <;> cases v <;> simp [Value.isRef] at hv <;> rfl) (Or.inr (Or.inr (Or.inr (Or.inr ⟨rfl, ht, hv⟩)))) (hb C.2.2.2.1 hd) hr
theorem own_return (C : own_Cx Z p s m meth c own bytes ml none nm) (hd : decode bytes pc = .ok (.return_, 1)) (hk : k ≤ R.cells) (hs : n ≤ R.slots) (hQ : Q none h) :
    own_At p l e R s m args below meth c n0 Q h k n (mkF m pc Ls []) :=
  own_back C (fun _ => rfl) hk hs hQ fun T L X fs hr => X.returnOut C.1 C.2.2.2.2.2.1 (hb C.2.2.2.1 hd) hr
/-! ### contracts and calls -/
def own_Met (l : Launch) (Z : State) (y : MethodName) (bytes : ByteArray) (maxL : Nat) (rt : Option FieldType) (ws : List Jvm.Cond) (rm : Room) (n0 : Nat) (as' : Array Value) (h : Heap) (Q : Option Value → Heap → Prop) : Prop :=
  MetFree l y (head1 (Jvm.Cond.code y bytes maxL rt :: ws) rm) (fun a U => a = as' ∧ Z.Warmed39 U.vm ∧ U.heap = h) (fun _ _ _ _ _ => True) (fun _ U o U' => ∃ v L, o = .returned v ∧ (Q v U'.heap ∧ Fr n0 L) ∧ FrameEnd U o U' L rm.cells rm.slots)
def own_val (P : Value → Heap → Prop) (v : Option Value) (h : Heap) : Prop := ∃ w, v = some w ∧ P w h
def own_nov (P : Heap → Prop) (v : Option Value) (h : Heap) : Prop := v = none ∧ P h
theorem own_met {y : MethodName} {ws : List Jvm.Cond} {rm : Room} {as' : Array Value} (hy : plainFor y = true) (hf : ∀ m, entryFrame m as' ml = mkF m 0 Ls [])
    (H : ∀ p e s m below meth c, own_Cx Z p s m meth c y.cls bytes ml rt y.name → own_At p l e rm s m as' below meth c n0 Q h 0 0 (mkF m 0 Ls [])) : own_Met l Z y bytes ml rt ws rm n0 as' h Q := by
  refine MetFree.of_bodySF hy hisR ?_
  intro p e s m args below meth c s₁ Bd hml0 hP hK
  obtain ⟨rfl, hZ, hh⟩ := hP
  have X0 : Stand p l e rm s m _ below meth c s₁ [] 0 0 := Stand.of_body Bd
  have e0 : s₁.heap = h := by rw [← hh, Bd.state]; rfl
  have K := H p e s m below meth c ⟨Bd.exec, hZ, findClass_of_methodNamed Bd.named, Bd.bytes, hml0, Bd.returns, Bd.notSynchronized, (name_of_methodNamed Bd.named Bd.method).1⟩ s₁ [] X0 (Fr.nil n0) e0
  rw [hf]
  exact K
/-- it returns v and leaves the heap as it was -/
def own_pure (v : Value) (h : Heap) (u : Option Value) (h' : Heap) : Prop := u = some v ∧ h' = h
section Calls
variable {y : MethodName} {bytes' : ByteArray} {maxL' : Nat} {rt' : Option FieldType} {rm : Room} {argsL : List Value} {W i : Nat} {P : Value → Heap → Prop} {P0 : Heap → Prop}
theorem own_callS0 {Q' : Option Value → Heap → Prop} (C : own_Cx Z p s m meth c own bytes ml rt nm) (M : own_Met l Z y bytes' maxL' rt' [] rm n0 argsL.toArray h Q') (w1 : (Cond.methodLink own i y).before a0 Z = true) (w2 : (Cond.static y).before a0 Z = true) (w3 : (Cond.initialized y.cls).before a0 Z = true) (w4 : (Cond.code y bytes' maxL' rt').before a0 Z = true)
    (hy : y.cls ≠ "java/lang/invoke/MethodHandle" ∧ y.cls ≠ "java/lang/invoke/VarHandle") (hd : decode bytes pc = .ok (.invokestatic i, 3)) (hs : Ls.size = ml) (hst : st = argsL.reverse ++ rest) (hlen : ∀ sig, parseMethodDescriptor y.desc = some sig → argsL.length = sig.parameters.length) (hW : (rest.map fun v => v.category).sum ≤ W) (hf : rm.frames + 1 ≤ R.frames) (hl : W + (maxL' + 11) + rm.locals ≤ R.locals) (hc : k + rm.cells ≤ R.cells) (hn : n + rm.slots ≤ R.slots) (hp : pc + 3 = pc')
    (K : ∀ v h', Q' v h' → own_At p l e R s m args below meth c n0 Q h' (k + rm.cells) (n + rm.slots) (mkF m pc' Ls (v.toList ++ rest))) : own_At p l e R s m args below meth c n0 Q h k n (mkF m pc Ls st) := by
  subst hp
  intro T L X N eT
  obtain ⟨v, _, ⟨T', L', k', n'⟩, -, X', ⟨Lc, ⟨hQ, N'⟩, l', y', z'⟩, stp⟩ := Jvm.LawKit.callS X C.1 (y := y) C.2.2.1 (mvT C.2.1 w1) (mvT C.2.1 w2) (mvT C.2.1 w3) (mvT C.2.1 w4) hy
    (backOf (Q := fun v h' L => Q' v h' ∧ Fr n0 L) (len := 3) (W := W) (p := p) (e := e) (below := below) (args := args) M C.2.1 w4 w3 hf hl) (g := mkF m pc Ls st) rfl (hs.trans C.2.2.2.2.1.symm) (argsL := argsL) (rest := rest) hlen hst (by show 2 * 0 + _ ≤ _; omega) (hb C.2.2.2.1 hd) (fun _ _ => ⟨rfl, eT, hc, hn⟩)
  dsimp only [Pt.U, Pt.locs, Pt.cells, Pt.slots] at X' l' y' z' stp hQ
  subst l' y' z'
  exact own_via stp (K v _ hQ T' _ X' (Fr.app N N') rfl)
theorem own_callS (C : own_Cx Z p s m meth c own bytes ml rt nm) (M : own_Met l Z y bytes' maxL' rt' [] rm n0 argsL.toArray h  (own_val P)) (w1 : (Cond.methodLink own i y).before a0 Z = true) (w2 : (Cond.static y).before a0 Z = true) (w3 : (Cond.initialized y.cls).before a0 Z = true) (w4 : (Cond.code y bytes' maxL' rt').before a0 Z = true)
    (hy : y.cls ≠ "java/lang/invoke/MethodHandle" ∧ y.cls ≠ "java/lang/invoke/VarHandle") (hd : decode bytes pc = .ok (.invokestatic i, 3)) (hs : Ls.size = ml) (hst : st = argsL.reverse ++ rest) (hlen : ∀ sig, parseMethodDescriptor y.desc = some sig → argsL.length = sig.parameters.length) (hW : (rest.map fun v => v.category).sum ≤ W) (hf : rm.frames + 1 ≤ R.frames) (hl : W + (maxL' + 11) + rm.locals ≤ R.locals) (hc : k + rm.cells ≤ R.cells) (hn : n + rm.slots ≤ R.slots) (hp : pc + 3 = pc')
    (K : ∀ w h', P w h' → own_At p l e R s m args below meth c n0 Q h' (k + rm.cells) (n + rm.slots) (mkF m pc' Ls (w :: rest))) : own_At p l e R s m args below meth c n0 Q h k n (mkF m pc Ls st) :=
  own_callS0 C M w1 w2 w3 w4 hy hd hs hst hlen hW hf hl hc hn hp (by rintro _ h' ⟨w, rfl, q⟩; exact K w h' q)
theorem own_callSp {v : Value} (C : own_Cx Z p s m meth c own bytes ml rt nm) (M : own_Met l Z y bytes' maxL' rt' [] rm n0 argsL.toArray h  (own_pure v h)) (w1 : (Cond.methodLink own i y).before a0 Z = true) (w2 : (Cond.static y).before a0 Z = true) (w3 : (Cond.initialized y.cls).before a0 Z = true) (w4 : (Cond.code y bytes' maxL' rt').before a0 Z = true)
    (hy : y.cls ≠ "java/lang/invoke/MethodHandle" ∧ y.cls ≠ "java/lang/invoke/VarHandle") (hd : decode bytes pc = .ok (.invokestatic i, 3)) (hs : Ls.size = ml) (hst : st = argsL.reverse ++ rest) (hlen : ∀ sig, parseMethodDescriptor y.desc = some sig → argsL.length = sig.parameters.length) (hW : (rest.map fun v => v.category).sum ≤ W) (hf : rm.frames + 1 ≤ R.frames) (hl : W + (maxL' + 11) + rm.locals ≤ R.locals) (hc : rm.cells = 0) (hn : rm.slots = 0) (hk : k ≤ R.cells) (hk' : n ≤ R.slots) (hp : pc + 3 = pc')
    (K : own_At p l e R s m args below meth c n0 Q h k n (mkF m pc' Ls (v :: rest))) : own_At p l e R s m args below meth c n0 Q h k n (mkF m pc Ls st) :=
  own_callS0 C M w1 w2 w3 w4 hy hd hs hst hlen hW hf hl (by rw [hc]; exact hk) (by rw [hn]; exact hk') hp (by rintro _ h' ⟨rfl, rfl⟩; rw [hc, hn]; exact K)
theorem own_callSV (C : own_Cx Z p s m meth c own bytes ml rt nm) (M : own_Met l Z y bytes' maxL' rt' [] rm n0 argsL.toArray h  (own_nov P0)) (w1 : (Cond.methodLink own i y).before a0 Z = true) (w2 : (Cond.static y).before a0 Z = true) (w3 : (Cond.initialized y.cls).before a0 Z = true) (w4 : (Cond.code y bytes' maxL' rt').before a0 Z = true)
    (hy : y.cls ≠ "java/lang/invoke/MethodHandle" ∧ y.cls ≠ "java/lang/invoke/VarHandle") (hd : decode bytes pc = .ok (.invokestatic i, 3)) (hs : Ls.size = ml) (hst : st = argsL.reverse ++ rest) (hlen : ∀ sig, parseMethodDescriptor y.desc = some sig → argsL.length = sig.parameters.length) (hW : (rest.map fun v => v.category).sum ≤ W) (hf : rm.frames + 1 ≤ R.frames) (hl : W + (maxL' + 11) + rm.locals ≤ R.locals) (hc : k + rm.cells ≤ R.cells) (hn : n + rm.slots ≤ R.slots) (hp : pc + 3 = pc')
    (K : ∀ h', P0 h' → own_At p l e R s m args below meth c n0 Q h' (k + rm.cells) (n + rm.slots) (mkF m pc' Ls rest)) : own_At p l e R s m args below meth c n0 Q h k n (mkF m pc Ls st) :=
  own_callS0 C M w1 w2 w3 w4 hy hd hs hst hlen hW hf hl hc hn hp (by rintro _ h' ⟨rfl, q⟩; exact K h' q)
theorem own_callV0 {Q' : Option Value → Heap → Prop} {a : Addr} {Cn : String} (C : own_Cx Z p s m meth c own bytes ml rt nm) (E : Exa Z h a Cn) (M : own_Met l Z y bytes' maxL' rt' [] rm n0 (Value.ref a :: argsL).toArray h Q') (w1 : (Cond.methodLink own i y).before a0 Z = true) (w2 : (Cond.declares y).before a0 Z = true) (w5 : (Cond.selects Cn y y).before a0 Z = true) (w6 : (Cond.instanceMethod y).before a0 Z = true) (w3 : (Cond.initialized y.cls).before a0 Z = true) (w4 : (Cond.code y bytes' maxL' rt').before a0 Z = true)
    (hy : y.cls ≠ "java/lang/invoke/MethodHandle" ∧ y.cls ≠ "java/lang/invoke/VarHandle") (hd : decode bytes pc = .ok (.invokevirtual i, 3)) (hs : Ls.size = ml) (hst : st = argsL.reverse ++ .ref a :: rest) (hlen : ∀ sig, parseMethodDescriptor y.desc = some sig → argsL.length = sig.parameters.length) (hW : (rest.map fun v => v.category).sum ≤ W) (hf : rm.frames + 1 ≤ R.frames) (hl : W + (maxL' + 11) + rm.locals ≤ R.locals) (hc : k + rm.cells ≤ R.cells) (hn : n + rm.slots ≤ R.slots) (hp : pc + 3 = pc')
    (K : ∀ v h', Q' v h' → own_At p l e R s m args below meth c n0 Q h' (k + rm.cells) (n + rm.slots) (mkF m pc' Ls (v.toList ++ rest))) : own_At p l e R s m args below meth c n0 Q h k n (mkF m pc Ls st) := by
  subst hp
  intro T L X N eT
  obtain ⟨cq, kq, qa, qb, qc⟩ := isOf C.2.1 eT E
  obtain ⟨v, _, ⟨T', L', k', n'⟩, -, X', ⟨Lc, ⟨hQ, N'⟩, l', y', z'⟩, stp⟩ := X.virtualBack C.1 (y := y) (z := y) C.2.2.1 (mvT C.2.1 w1) (mvT C.2.1 w2) (notFace_of_selects (args := #[]) (mvT C.2.1 w5)) (mvT C.2.1 w5) (mvT C.2.1 w6) hy
    (backOf (Q := fun v h' L => Q' v h' ∧ Fr n0 L) (len := 3) (W := W) (p := p) (e := e) (below := below) (args := args) M C.2.1 w4 w3 hf hl) qa qc (g := mkF m pc Ls st) rfl (hs.trans C.2.2.2.2.1.symm) (Steps.refl _) (argsL := argsL) (rest := rest) hlen hst (by show 2 * 0 + _ ≤ _; omega) (hb C.2.2.2.1 hd) (fun _ _ => ⟨rfl, eT, hc, hn⟩)
  dsimp only [Pt.U, Pt.locs, Pt.cells, Pt.slots] at X' l' y' z' stp hQ
  subst l' y' z'
  exact own_via (fun t q => stp.trans q) (K v _ hQ T' _ X' (Fr.app N N') rfl)
theorem own_callV {a : Addr} {Cn : String} (C : own_Cx Z p s m meth c own bytes ml rt nm) (E : Exa Z h a Cn) (M : own_Met l Z y bytes' maxL' rt' [] rm n0 (Value.ref a :: argsL).toArray h  (own_val P)) (w1 : (Cond.methodLink own i y).before a0 Z = true) (w2 : (Cond.declares y).before a0 Z = true) (w5 : (Cond.selects Cn y y).before a0 Z = true) (w6 : (Cond.instanceMethod y).before a0 Z = true) (w3 : (Cond.initialized y.cls).before a0 Z = true) (w4 : (Cond.code y bytes' maxL' rt').before a0 Z = true)
    (hy : y.cls ≠ "java/lang/invoke/MethodHandle" ∧ y.cls ≠ "java/lang/invoke/VarHandle") (hd : decode bytes pc = .ok (.invokevirtual i, 3)) (hs : Ls.size = ml) (hst : st = argsL.reverse ++ .ref a :: rest) (hlen : ∀ sig, parseMethodDescriptor y.desc = some sig → argsL.length = sig.parameters.length) (hW : (rest.map fun v => v.category).sum ≤ W) (hf : rm.frames + 1 ≤ R.frames) (hl : W + (maxL' + 11) + rm.locals ≤ R.locals) (hc : k + rm.cells ≤ R.cells) (hn : n + rm.slots ≤ R.slots) (hp : pc + 3 = pc')
    (K : ∀ w h', P w h' → own_At p l e R s m args below meth c n0 Q h' (k + rm.cells) (n + rm.slots) (mkF m pc' Ls (w :: rest))) : own_At p l e R s m args below meth c n0 Q h k n (mkF m pc Ls st) :=
  own_callV0 C E M w1 w2 w5 w6 w3 w4 hy hd hs hst hlen hW hf hl hc hn hp (by rintro _ h' ⟨w, rfl, q⟩; exact K w h' q)
theorem own_callVp {v : Value} {a : Addr} {Cn : String} (C : own_Cx Z p s m meth c own bytes ml rt nm) (E : Exa Z h a Cn) (M : own_Met l Z y bytes' maxL' rt' [] rm n0 (Value.ref a :: argsL).toArray h  (own_pure v h)) (w1 : (Cond.methodLink own i y).before a0 Z = true) (w2 : (Cond.declares y).before a0 Z = true) (w5 : (Cond.selects Cn y y).before a0 Z = true) (w6 : (Cond.instanceMethod y).before a0 Z = true) (w3 : (Cond.initialized y.cls).before a0 Z = true) (w4 : (Cond.code y bytes' maxL' rt').before a0 Z = true)
    (hy : y.cls ≠ "java/lang/invoke/MethodHandle" ∧ y.cls ≠ "java/lang/invoke/VarHandle") (hd : decode bytes pc = .ok (.invokevirtual i, 3)) (hs : Ls.size = ml) (hst : st = argsL.reverse ++ .ref a :: rest) (hlen : ∀ sig, parseMethodDescriptor y.desc = some sig → argsL.length = sig.parameters.length) (hW : (rest.map fun v => v.category).sum ≤ W) (hf : rm.frames + 1 ≤ R.frames) (hl : W + (maxL' + 11) + rm.locals ≤ R.locals) (hc : rm.cells = 0) (hn : rm.slots = 0) (hk : k ≤ R.cells) (hk' : n ≤ R.slots) (hp : pc + 3 = pc')
    (K : own_At p l e R s m args below meth c n0 Q h k n (mkF m pc' Ls (v :: rest))) : own_At p l e R s m args below meth c n0 Q h k n (mkF m pc Ls st) :=
  own_callV0 C E M w1 w2 w5 w6 w3 w4 hy hd hs hst hlen hW hf hl (by rw [hc]; exact hk) (by rw [hn]; exact hk') hp (by rintro _ h' ⟨rfl, rfl⟩; rw [hc, hn]; exact K)
theorem own_callVV {a : Addr} {Cn : String} (C : own_Cx Z p s m meth c own bytes ml rt nm) (E : Exa Z h a Cn) (M : own_Met l Z y bytes' maxL' rt' [] rm n0 (Value.ref a :: argsL).toArray h  (own_nov P0)) (w1 : (Cond.methodLink own i y).before a0 Z = true) (w2 : (Cond.declares y).before a0 Z = true) (w5 : (Cond.selects Cn y y).before a0 Z = true) (w6 : (Cond.instanceMethod y).before a0 Z = true) (w3 : (Cond.initialized y.cls).before a0 Z = true) (w4 : (Cond.code y bytes' maxL' rt').before a0 Z = true)
    (hy : y.cls ≠ "java/lang/invoke/MethodHandle" ∧ y.cls ≠ "java/lang/invoke/VarHandle") (hd : decode bytes pc = .ok (.invokevirtual i, 3)) (hs : Ls.size = ml) (hst : st = argsL.reverse ++ .ref a :: rest) (hlen : ∀ sig, parseMethodDescriptor y.desc = some sig → argsL.length = sig.parameters.length) (hW : (rest.map fun v => v.category).sum ≤ W) (hf : rm.frames + 1 ≤ R.frames) (hl : W + (maxL' + 11) + rm.locals ≤ R.locals) (hc : k + rm.cells ≤ R.cells) (hn : n + rm.slots ≤ R.slots) (hp : pc + 3 = pc')
    (K : ∀ h', P0 h' → own_At p l e R s m args below meth c n0 Q h' (k + rm.cells) (n + rm.slots) (mkF m pc' Ls rest)) : own_At p l e R s m args below meth c n0 Q h k n (mkF m pc Ls st) :=
  own_callV0 C E M w1 w2 w5 w6 w3 w4 hy hd hs hst hlen hW hf hl hc hn hp (by rintro _ h' ⟨rfl, q⟩; exact K h' q)
theorem own_callF0 {Q' : Option Value → Heap → Prop} {a : Addr} {Cn : String} {z : MethodName} {cnt : Nat} (C : own_Cx Z p s m meth c own bytes ml rt nm) (E : Exa Z h a Cn) (M : own_Met l Z z bytes' maxL' rt' [] rm n0 (Value.ref a :: argsL).toArray h Q') (w1 : (Cond.methodLink own i y).before a0 Z = true) (w2 : (Cond.declares y).before a0 Z = true) (w7 : (Cond.interfaceMethod y.cls y.cls y.name y.desc).before a0 Z = true) (w5 : (Cond.selects Cn y z).before a0 Z = true) (w6 : (Cond.instanceMethod z).before a0 Z = true) (w8 : (Cond.publicMethod z).before a0 Z = true) (w9 : (Cond.unhidden Cn y.name y.desc).before a0 Z = true) (w10 : (Cond.castable Cn y.cls).before a0 Z = true) (w3 : (Cond.initialized z.cls).before a0 Z = true) (w4 : (Cond.code z bytes' maxL' rt').before a0 Z = true)
    (hy : y.cls ≠ "java/lang/invoke/MethodHandle" ∧ y.cls ≠ "java/lang/invoke/VarHandle") (hd : decode bytes pc = .ok (.invokeinterface i cnt, 5)) (hs : Ls.size = ml) (hst : st = argsL.reverse ++ .ref a :: rest) (hlen : ∀ sig, parseMethodDescriptor y.desc = some sig → argsL.length = sig.parameters.length) (hW : (rest.map fun v => v.category).sum ≤ W) (hf : rm.frames + 1 ≤ R.frames) (hl : W + (maxL' + 11) + rm.locals ≤ R.locals) (hc : k + rm.cells ≤ R.cells) (hn : n + rm.slots ≤ R.slots) (hp : pc + 5 = pc')
    (K : ∀ v h', Q' v h' → own_At p l e R s m args below meth c n0 Q h' (k + rm.cells) (n + rm.slots) (mkF m pc' Ls (v.toList ++ rest))) : own_At p l e R s m args below meth c n0 Q h k n (mkF m pc Ls st) := by
  subst hp
  intro T L X N eT
  obtain ⟨cq, kq, qa, qb, qc⟩ := isOf C.2.1 eT E
  obtain ⟨v, _, ⟨T', L', k', n'⟩, -, X', ⟨Lc, ⟨hQ, N'⟩, l', y', z'⟩, stp⟩ := X.interfaceBack C.1 (xi := y) (y := z) C.2.2.1 (mvT C.2.1 w1) (mvT C.2.1 w2) (mvT C.2.1 w7 (by simp [Cond.onTables, Cond.keepsFace, Cond.keeps, Cond.steady, Cond.faceAtom, hy.1, hy.2])) (mvT C.2.1 w5) (mvT C.2.1 w6) (mvT C.2.1 w8) (mvT C.2.1 w9) (mvT C.2.1 w10) hy
    (backOf (Q := fun v h' L => Q' v h' ∧ Fr n0 L) (len := 5) (W := W) (p := p) (e := e) (below := below) (args := args) M C.2.1 w4 w3 hf hl) qa qb qc (g := mkF m pc Ls st) rfl (hs.trans C.2.2.2.2.1.symm) (Steps.refl _) (argsL := argsL) (rest := rest) hlen hst (by show 2 * 0 + _ ≤ _; omega) (hb C.2.2.2.1 hd) (fun _ _ => ⟨rfl, eT, hc, hn⟩)
  dsimp only [Pt.U, Pt.locs, Pt.cells, Pt.slots] at X' l' y' z' stp hQ
  subst l' y' z'
  exact own_via (fun t q => stp.trans q) (K v _ hQ T' _ X' (Fr.app N N') rfl)
theorem own_callF {a : Addr} {Cn : String} {z : MethodName} {cnt : Nat} (C : own_Cx Z p s m meth c own bytes ml rt nm) (E : Exa Z h a Cn) (M : own_Met l Z z bytes' maxL' rt' [] rm n0 (Value.ref a :: argsL).toArray h  (own_val P)) (w1 : (Cond.methodLink own i y).before a0 Z = true) (w2 : (Cond.declares y).before a0 Z = true) (w7 : (Cond.interfaceMethod y.cls y.cls y.name y.desc).before a0 Z = true) (w5 : (Cond.selects Cn y z).before a0 Z = true) (w6 : (Cond.instanceMethod z).before a0 Z = true) (w8 : (Cond.publicMethod z).before a0 Z = true) (w9 : (Cond.unhidden Cn y.name y.desc).before a0 Z = true) (w10 : (Cond.castable Cn y.cls).before a0 Z = true) (w3 : (Cond.initialized z.cls).before a0 Z = true) (w4 : (Cond.code z bytes' maxL' rt').before a0 Z = true)
    (hy : y.cls ≠ "java/lang/invoke/MethodHandle" ∧ y.cls ≠ "java/lang/invoke/VarHandle") (hd : decode bytes pc = .ok (.invokeinterface i cnt, 5)) (hs : Ls.size = ml) (hst : st = argsL.reverse ++ .ref a :: rest) (hlen : ∀ sig, parseMethodDescriptor y.desc = some sig → argsL.length = sig.parameters.length) (hW : (rest.map fun v => v.category).sum ≤ W) (hf : rm.frames + 1 ≤ R.frames) (hl : W + (maxL' + 11) + rm.locals ≤ R.locals) (hc : k + rm.cells ≤ R.cells) (hn : n + rm.slots ≤ R.slots) (hp : pc + 5 = pc')
    (K : ∀ w h', P w h' → own_At p l e R s m args below meth c n0 Q h' (k + rm.cells) (n + rm.slots) (mkF m pc' Ls (w :: rest))) : own_At p l e R s m args below meth c n0 Q h k n (mkF m pc Ls st) :=
  own_callF0 C E M w1 w2 w7 w5 w6 w8 w9 w10 w3 w4 hy hd hs hst hlen hW hf hl hc hn hp (by rintro _ h' ⟨w, rfl, q⟩; exact K w h' q)
theorem own_callFp {v : Value} {a : Addr} {Cn : String} {z : MethodName} {cnt : Nat} (C : own_Cx Z p s m meth c own bytes ml rt nm) (E : Exa Z h a Cn) (M : own_Met l Z z bytes' maxL' rt' [] rm n0 (Value.ref a :: argsL).toArray h  (own_pure v h)) (w1 : (Cond.methodLink own i y).before a0 Z = true) (w2 : (Cond.declares y).before a0 Z = true) (w7 : (Cond.interfaceMethod y.cls y.cls y.name y.desc).before a0 Z = true) (w5 : (Cond.selects Cn y z).before a0 Z = true) (w6 : (Cond.instanceMethod z).before a0 Z = true) (w8 : (Cond.publicMethod z).before a0 Z = true) (w9 : (Cond.unhidden Cn y.name y.desc).before a0 Z = true) (w10 : (Cond.castable Cn y.cls).before a0 Z = true) (w3 : (Cond.initialized z.cls).before a0 Z = true) (w4 : (Cond.code z bytes' maxL' rt').before a0 Z = true)
    (hy : y.cls ≠ "java/lang/invoke/MethodHandle" ∧ y.cls ≠ "java/lang/invoke/VarHandle") (hd : decode bytes pc = .ok (.invokeinterface i cnt, 5)) (hs : Ls.size = ml) (hst : st = argsL.reverse ++ .ref a :: rest) (hlen : ∀ sig, parseMethodDescriptor y.desc = some sig → argsL.length = sig.parameters.length) (hW : (rest.map fun v => v.category).sum ≤ W) (hf : rm.frames + 1 ≤ R.frames) (hl : W + (maxL' + 11) + rm.locals ≤ R.locals) (hc : rm.cells = 0) (hn : rm.slots = 0) (hk : k ≤ R.cells) (hk' : n ≤ R.slots) (hp : pc + 5 = pc')
    (K : own_At p l e R s m args below meth c n0 Q h k n (mkF m pc' Ls (v :: rest))) : own_At p l e R s m args below meth c n0 Q h k n (mkF m pc Ls st) :=
  own_callF0 C E M w1 w2 w7 w5 w6 w8 w9 w10 w3 w4 hy hd hs hst hlen hW hf hl (by rw [hc]; exact hk) (by rw [hn]; exact hk') hp (by rintro _ h' ⟨rfl, rfl⟩; rw [hc, hn]; exact K)
theorem own_callFV {a : Addr} {Cn : String} {z : MethodName} {cnt : Nat} (C : own_Cx Z p s m meth c own bytes ml rt nm) (E : Exa Z h a Cn) (M : own_Met l Z z bytes' maxL' rt' [] rm n0 (Value.ref a :: argsL).toArray h  (own_nov P0)) (w1 : (Cond.methodLink own i y).before a0 Z = true) (w2 : (Cond.declares y).before a0 Z = true) (w7 : (Cond.interfaceMethod y.cls y.cls y.name y.desc).before a0 Z = true) (w5 : (Cond.selects Cn y z).before a0 Z = true) (w6 : (Cond.instanceMethod z).before a0 Z = true) (w8 : (Cond.publicMethod z).before a0 Z = true) (w9 : (Cond.unhidden Cn y.name y.desc).before a0 Z = true) (w10 : (Cond.castable Cn y.cls).before a0 Z = true) (w3 : (Cond.initialized z.cls).before a0 Z = true) (w4 : (Cond.code z bytes' maxL' rt').before a0 Z = true)
    (hy : y.cls ≠ "java/lang/invoke/MethodHandle" ∧ y.cls ≠ "java/lang/invoke/VarHandle") (hd : decode bytes pc = .ok (.invokeinterface i cnt, 5)) (hs : Ls.size = ml) (hst : st = argsL.reverse ++ .ref a :: rest) (hlen : ∀ sig, parseMethodDescriptor y.desc = some sig → argsL.length = sig.parameters.length) (hW : (rest.map fun v => v.category).sum ≤ W) (hf : rm.frames + 1 ≤ R.frames) (hl : W + (maxL' + 11) + rm.locals ≤ R.locals) (hc : k + rm.cells ≤ R.cells) (hn : n + rm.slots ≤ R.slots) (hp : pc + 5 = pc')
    (K : ∀ h', P0 h' → own_At p l e R s m args below meth c n0 Q h' (k + rm.cells) (n + rm.slots) (mkF m pc' Ls rest)) : own_At p l e R s m args below meth c n0 Q h k n (mkF m pc Ls st) :=
  own_callF0 C E M w1 w2 w7 w5 w6 w8 w9 w10 w3 w4 hy hd hs hst hlen hW hf hl hc hn hp (by rintro _ h' ⟨rfl, q⟩; exact K h' q)
theorem own_callP0 {Q' : Option Value → Heap → Prop} {a : Addr} {Cn : String} (C : own_Cx Z p s m meth c own bytes ml rt nm) (E : Exa Z h a Cn) (M : own_Met l Z y bytes' maxL' rt' [] rm n0 (Value.ref a :: argsL).toArray h Q') (w1 : (Cond.methodLink own i y).before a0 Z = true) (w6 : (Cond.instanceMethod y).before a0 Z = true) (w5 : (Cond.selects y.cls y y).before a0 Z = true) (w8 : (Cond.privateMethod y).before a0 Z = true) (w3 : (Cond.initialized y.cls).before a0 Z = true) (w4 : (Cond.code y bytes' maxL' rt').before a0 Z = true)
    (hy : y.cls ≠ "java/lang/invoke/MethodHandle" ∧ y.cls ≠ "java/lang/invoke/VarHandle") (hd : decode bytes pc = .ok (.invokevirtual i, 3)) (hs : Ls.size = ml) (hst : st = argsL.reverse ++ .ref a :: rest) (hlen : ∀ sig, parseMethodDescriptor y.desc = some sig → argsL.length = sig.parameters.length) (hW : (rest.map fun v => v.category).sum ≤ W) (hf : rm.frames + 1 ≤ R.frames) (hl : W + (maxL' + 11) + rm.locals ≤ R.locals) (hc : k + rm.cells ≤ R.cells) (hn : n + rm.slots ≤ R.slots) (hp : pc + 3 = pc')
    (K : ∀ v h', Q' v h' → own_At p l e R s m args below meth c n0 Q h' (k + rm.cells) (n + rm.slots) (mkF m pc' Ls (v.toList ++ rest))) : own_At p l e R s m args below meth c n0 Q h k n (mkF m pc Ls st) := by
  subst hp
  intro T L X N eT
  obtain ⟨cq, q1, q2⟩ := E.cell
  obtain ⟨v, _, ⟨T', L', k', n'⟩, -, X', ⟨Lc, ⟨hQ, N'⟩, l', y', z'⟩, stp⟩ := X.privateBack C.1 (y := y) C.2.2.1 (mvT C.2.1 w1) (mvT C.2.1 w6) (mvT C.2.1 w5) (Cond.privateMethod_at (mvP C.2.1 w8 (args := #[]))) (mvT C.2.1 w4) hy
    (backOf (Q := fun v h' L => Q' v h' ∧ Fr n0 L) (len := 3) (W := W) (p := p) (e := e) (below := below) (args := args) M C.2.1 w4 w3 hf hl) (g := mkF m pc Ls st) rfl (hs.trans C.2.2.2.2.1.symm) (Steps.refl _) (a := a) (by rw [eT]; exact q1) q2 (argsL := argsL) (rest := rest) hlen hst (by show 2 * 0 + _ ≤ _; omega) (hb C.2.2.2.1 hd) (fun _ _ => ⟨rfl, eT, hc, hn⟩)
  dsimp only [Pt.U, Pt.locs, Pt.cells, Pt.slots] at X' l' y' z' stp hQ
  subst l' y' z'
  exact own_via (fun t q => stp.trans q) (K v _ hQ T' _ X' (Fr.app N N') rfl)
theorem own_callP {a : Addr} {Cn : String} (C : own_Cx Z p s m meth c own bytes ml rt nm) (E : Exa Z h a Cn) (M : own_Met l Z y bytes' maxL' rt' [] rm n0 (Value.ref a :: argsL).toArray h  (own_val P)) (w1 : (Cond.methodLink own i y).before a0 Z = true) (w6 : (Cond.instanceMethod y).before a0 Z = true) (w5 : (Cond.selects y.cls y y).before a0 Z = true) (w8 : (Cond.privateMethod y).before a0 Z = true) (w3 : (Cond.initialized y.cls).before a0 Z = true) (w4 : (Cond.code y bytes' maxL' rt').before a0 Z = true)
    (hy : y.cls ≠ "java/lang/invoke/MethodHandle" ∧ y.cls ≠ "java/lang/invoke/VarHandle") (hd : decode bytes pc = .ok (.invokevirtual i, 3)) (hs : Ls.size = ml) (hst : st = argsL.reverse ++ .ref a :: rest) (hlen : ∀ sig, parseMethodDescriptor y.desc = some sig → argsL.length = sig.parameters.length) (hW : (rest.map fun v => v.category).sum ≤ W) (hf : rm.frames + 1 ≤ R.frames) (hl : W + (maxL' + 11) + rm.locals ≤ R.locals) (hc : k + rm.cells ≤ R.cells) (hn : n + rm.slots ≤ R.slots) (hp : pc + 3 = pc')
    (K : ∀ w h', P w h' → own_At p l e R s m args below meth c n0 Q h' (k + rm.cells) (n + rm.slots) (mkF m pc' Ls (w :: rest))) : own_At p l e R s m args below meth c n0 Q h k n (mkF m pc Ls st) :=
  own_callP0 C E M w1 w6 w5 w8 w3 w4 hy hd hs hst hlen hW hf hl hc hn hp (by rintro _ h' ⟨w, rfl, q⟩; exact K w h' q)
theorem own_callPp {v : Value} {a : Addr} {Cn : String} (C : own_Cx Z p s m meth c own bytes ml rt nm) (E : Exa Z h a Cn) (M : own_Met l Z y bytes' maxL' rt' [] rm n0 (Value.ref a :: argsL).toArray h  (own_pure v h)) (w1 : (Cond.methodLink own i y).before a0 Z = true) (w6 : (Cond.instanceMethod y).before a0 Z = true) (w5 : (Cond.selects y.cls y y).before a0 Z = true) (w8 : (Cond.privateMethod y).before a0 Z = true) (w3 : (Cond.initialized y.cls).before a0 Z = true) (w4 : (Cond.code y bytes' maxL' rt').before a0 Z = true)
    (hy : y.cls ≠ "java/lang/invoke/MethodHandle" ∧ y.cls ≠ "java/lang/invoke/VarHandle") (hd : decode bytes pc = .ok (.invokevirtual i, 3)) (hs : Ls.size = ml) (hst : st = argsL.reverse ++ .ref a :: rest) (hlen : ∀ sig, parseMethodDescriptor y.desc = some sig → argsL.length = sig.parameters.length) (hW : (rest.map fun v => v.category).sum ≤ W) (hf : rm.frames + 1 ≤ R.frames) (hl : W + (maxL' + 11) + rm.locals ≤ R.locals) (hc : rm.cells = 0) (hn : rm.slots = 0) (hk : k ≤ R.cells) (hk' : n ≤ R.slots) (hp : pc + 3 = pc')
    (K : own_At p l e R s m args below meth c n0 Q h k n (mkF m pc' Ls (v :: rest))) : own_At p l e R s m args below meth c n0 Q h k n (mkF m pc Ls st) :=
  own_callP0 C E M w1 w6 w5 w8 w3 w4 hy hd hs hst hlen hW hf hl (by rw [hc]; exact hk) (by rw [hn]; exact hk') hp (by rintro _ h' ⟨rfl, rfl⟩; rw [hc, hn]; exact K)
theorem own_callPV {a : Addr} {Cn : String} (C : own_Cx Z p s m meth c own bytes ml rt nm) (E : Exa Z h a Cn) (M : own_Met l Z y bytes' maxL' rt' [] rm n0 (Value.ref a :: argsL).toArray h  (own_nov P0)) (w1 : (Cond.methodLink own i y).before a0 Z = true) (w6 : (Cond.instanceMethod y).before a0 Z = true) (w5 : (Cond.selects y.cls y y).before a0 Z = true) (w8 : (Cond.privateMethod y).before a0 Z = true) (w3 : (Cond.initialized y.cls).before a0 Z = true) (w4 : (Cond.code y bytes' maxL' rt').before a0 Z = true)
    (hy : y.cls ≠ "java/lang/invoke/MethodHandle" ∧ y.cls ≠ "java/lang/invoke/VarHandle") (hd : decode bytes pc = .ok (.invokevirtual i, 3)) (hs : Ls.size = ml) (hst : st = argsL.reverse ++ .ref a :: rest) (hlen : ∀ sig, parseMethodDescriptor y.desc = some sig → argsL.length = sig.parameters.length) (hW : (rest.map fun v => v.category).sum ≤ W) (hf : rm.frames + 1 ≤ R.frames) (hl : W + (maxL' + 11) + rm.locals ≤ R.locals) (hc : k + rm.cells ≤ R.cells) (hn : n + rm.slots ≤ R.slots) (hp : pc + 3 = pc')
    (K : ∀ h', P0 h' → own_At p l e R s m args below meth c n0 Q h' (k + rm.cells) (n + rm.slots) (mkF m pc' Ls rest)) : own_At p l e R s m args below meth c n0 Q h k n (mkF m pc Ls st) :=
  own_callP0 C E M w1 w6 w5 w8 w3 w4 hy hd hs hst hlen hW hf hl hc hn hp (by rintro _ h' ⟨rfl, q⟩; exact K h' q)
theorem own_callI0 {Q' : Option Value → Heap → Prop} {a : Addr} (C : own_Cx Z p s m meth c own bytes ml rt nm) (hi : y.name = "<init>") (M : own_Met l Z y bytes' maxL' none [] rm n0 (Value.ref a :: argsL).toArray h Q') (w1 : (Cond.methodLink own i y).before a0 Z = true) (w6 : (Cond.instanceMethod y).before a0 Z = true) (w3 : (Cond.initialized y.cls).before a0 Z = true) (w4 : (Cond.code y bytes' maxL' none).before a0 Z = true)
    (hy : y.cls ≠ "java/lang/invoke/MethodHandle" ∧ y.cls ≠ "java/lang/invoke/VarHandle") (hd : decode bytes pc = .ok (.invokespecial i, 3)) (hs : Ls.size = ml) (hst : st = argsL.reverse ++ .ref a :: rest) (hlen : ∀ sig, parseMethodDescriptor y.desc = some sig → argsL.length = sig.parameters.length) (hW : (rest.map fun v => v.category).sum ≤ W) (hf : rm.frames + 1 ≤ R.frames) (hl : W + (maxL' + 11) + rm.locals ≤ R.locals) (hc : k + rm.cells ≤ R.cells) (hn : n + rm.slots ≤ R.slots) (hp : pc + 3 = pc')
    (K : ∀ v h', Q' v h' → own_At p l e R s m args below meth c n0 Q h' (k + rm.cells) (n + rm.slots) (mkF m pc' Ls (v.toList ++ rest))) : own_At p l e R s m args below meth c n0 Q h k n (mkF m pc Ls st) := by
  subst hp
  intro T L X N eT
  obtain ⟨v, _, ⟨T', L', k', n'⟩, -, X', ⟨Lc, ⟨hQ, N'⟩, l', y', z'⟩, stp⟩ := X.specialBack C.1 (y := y) hi C.2.2.1 (mvT C.2.1 w1) (mvT C.2.1 w6) (mvT C.2.1 w4) hy
    (backOf (Q := fun v h' L => Q' v h' ∧ Fr n0 L) (len := 3) (W := W) (p := p) (e := e) (below := below) (args := args) M C.2.1 w4 w3 hf hl) (g := mkF m pc Ls st) rfl (hs.trans C.2.2.2.2.1.symm) (Steps.refl _) (a := a) (argsL := argsL) (rest := rest) hlen hst (by show 2 * 0 + _ ≤ _; omega) (hb C.2.2.2.1 hd) (fun _ _ => ⟨rfl, eT, hc, hn⟩)
  dsimp only [Pt.U, Pt.locs, Pt.cells, Pt.slots] at X' l' y' z' stp hQ
  subst l' y' z'
  exact own_via (fun t q => stp.trans q) (K v _ hQ T' _ X' (Fr.app N N') rfl)
theorem own_callI {a : Addr} (C : own_Cx Z p s m meth c own bytes ml rt nm) (hi : y.name = "<init>") (M : own_Met l Z y bytes' maxL' none [] rm n0 (Value.ref a :: argsL).toArray h  (own_nov P0)) (w1 : (Cond.methodLink own i y).before a0 Z = true) (w6 : (Cond.instanceMethod y).before a0 Z = true) (w3 : (Cond.initialized y.cls).before a0 Z = true) (w4 : (Cond.code y bytes' maxL' none).before a0 Z = true)
    (hy : y.cls ≠ "java/lang/invoke/MethodHandle" ∧ y.cls ≠ "java/lang/invoke/VarHandle") (hd : decode bytes pc = .ok (.invokespecial i, 3)) (hs : Ls.size = ml) (hst : st = argsL.reverse ++ .ref a :: rest) (hlen : ∀ sig, parseMethodDescriptor y.desc = some sig → argsL.length = sig.parameters.length) (hW : (rest.map fun v => v.category).sum ≤ W) (hf : rm.frames + 1 ≤ R.frames) (hl : W + (maxL' + 11) + rm.locals ≤ R.locals) (hc : k + rm.cells ≤ R.cells) (hn : n + rm.slots ≤ R.slots) (hp : pc + 3 = pc')
    (K : ∀ h', P0 h' → own_At p l e R s m args below meth c n0 Q h' (k + rm.cells) (n + rm.slots) (mkF m pc' Ls rest)) : own_At p l e R s m args below meth c n0 Q h k n (mkF m pc Ls st) :=
  own_callI0 C hi M w1 w6 w3 w4 hy hd hs hst hlen hW hf hl hc hn hp (by rintro _ h' ⟨rfl, q⟩; exact K h' q)
theorem own_init0 {a : Addr} (C : own_Cx Z p s m meth c own bytes ml rt nm) (w1 : (Cond.methodLink own i Lib.objectInit).before a0 Z = true) (w2 : (Cond.instanceMethod Lib.objectInit).before a0 Z = true) (w4 : (Cond.code Lib.objectInit ⟨#[0xb1]⟩ 1 none).before a0 Z = true)
    (hd : decode bytes pc = .ok (.invokespecial i, 3)) (hs : Ls.size = ml) (hW : (rest.map fun v => v.category).sum ≤ W) (hf : 1 ≤ R.frames) (hl : W + 12 ≤ R.locals) (hp : pc + 3 = pc')
    (K : own_At p l e R s m args below meth c n0 Q h k n (mkF m pc' Ls rest)) : own_At p l e R s m args below meth c n0 Q h k n (mkF m pc Ls (.ref a :: rest)) := by
  subst hp
  intro T L X N eT
  obtain ⟨T', X', e', stp⟩ := initO X C.1 C.2.1 C.2.2.1 w1 w2 w4 eT (g := mkF m pc Ls (.ref a :: rest)) rfl (hs.trans C.2.2.2.2.1.symm) rfl (hb C.2.2.2.1 hd) hf (W := W) (by show 2 * 0 + _ ≤ _; omega) hl
  exact own_via stp (K T' L X' N e')
end Calls

/-! ### the enum constants of a case -/
def own_En (Z : State) (h : Heap) (C n : String) (d : String) (i : Int32) (a : Addr) : Prop := Sta Z h C n d (.ref a) ∧ Exa Z h a C ∧ Fld Z h a "java/lang/Enum" "ordinal" "I" (.int i)
theorem own_En.ext {h' : Heap} {C f d : String} {i : Int32} {a : Addr} (E : Ext h h') (F : own_En Z h C f d i a) : own_En Z h' C f d i a := ⟨F.1.ext E, F.2.1.ext E, F.2.2.ext E⟩
theorem own_En.ne {C f d g d' : String} {i j : Int32} {a b : Addr} (F : own_En Z h C f d i a) (G : own_En Z h C g d' j b) (q : i ≠ j) : a ≠ b := F.2.2.ne G.2.2 fun z => q (Value.int.inj z)
theorem own_fldv {t : Term} {FC ff : String} {i : Int32} {a : Addr} (ea : t.eval args Z none [] Z = some (.ref a)) (hO : (Cond.eq (.field t FC ff "I") (.int i)).value args Z none Z [] = some true) : Fld Z Z.heap a FC ff "I" (.int i) := by
  refine Fld.start ?_
  obtain ⟨x, y, e1, e2, k1, k2⟩ := cmp_v (Or.inl hO)
  have e3 : y = .int i := by simpa [Term.eval] using e2.symm
  subst e3
  obtain ⟨z, rfl⟩ : ∃ z, x = .int z := k2
  have e4 : z = i := by simpa [Cond.value, e1, e2] using hO
  subst e4
  rw [← fld_at ea]; exact e1
theorem own_sfld {C f d FC ff : String} {i : Int32} {a : Addr} (S : Sta Z Z.heap C f d (.ref a)) (hO : (Cond.eq (.field (.static C f d) FC ff "I") (.int i)).value args Z none Z [] = some true) : Fld Z Z.heap a FC ff "I" (.int i) :=
  own_fldv (S.fin (Vm.Alike.refl _)) hO
theorem own_enum {C f d : String} {i : Int32} (hX : (Cond.exactly (.static C f d) C).value args Z none Z [] = some true) (hO : (Cond.eq (.field (.static C f d) "java/lang/Enum" "ordinal" "I") (.int i)).value args Z none Z [] = some true) (w1 : (Cond.initialized C).before args Z = true) (w2 : (Cond.laysStatic C f d).before args Z = true) : ∃ a, own_En Z Z.heap C f d i a := by
  obtain ⟨a, ea⟩ := exa_v hX
  exact ⟨a, Sta.start ea (Or.inr ⟨w1, w2⟩), Exa.start ea hX, own_fldv ea hO⟩
end OwnKit
theorem own_pd0 : parseMethodDescriptor "(I)Lcom/example/pathwright/pathwright/symbolic/Sort;" = some ⟨[.int], some (.object "com/example/pathwright/pathwright/symbolic/Sort")⟩ := by decide +kernel
theorem own_pd1 : parseMethodDescriptor "()Z" = some ⟨[], some .boolean⟩ := by decide +kernel
theorem own_pd2 : parseMethodDescriptor "()I" = some ⟨[], some .int⟩ := by decide +kernel
theorem own_d1_0 : decode method_2_code 0 = .ok (.iload_n 0, 1) := by decide +kernel
theorem own_d1_1 : decode method_2_code 1 = .ok (.ifCond .ne 7, 3) := by decide +kernel
theorem own_d1_4 : decode method_2_code 4 = .ok (.getstatic 7, 3) := by decide +kernel
theorem own_d1_7 : decode method_2_code 7 = .ok (.areturn, 1) := by decide +kernel
theorem own_d2_0 : decode prog_40_method_7_code 0 = .ok (.aload_n 0, 1) := by decide +kernel
theorem own_d2_1 : decode prog_40_method_7_code 1 = .ok (.getstatic 16, 3) := by decide +kernel
theorem own_d2_4 : decode prog_40_method_7_code 4 = .ok (.if_acmp .eq 10, 3) := by decide +kernel
theorem own_d2_7 : decode prog_40_method_7_code 7 = .ok (.aload_n 0, 1) := by decide +kernel
theorem own_d2_8 : decode prog_40_method_7_code 8 = .ok (.getstatic 19, 3) := by decide +kernel
theorem own_d2_11 : decode prog_40_method_7_code 11 = .ok (.if_acmp .ne 7, 3) := by decide +kernel
theorem own_d2_18 : decode prog_40_method_7_code 18 = .ok (.iconst 0, 1) := by decide +kernel
theorem own_d2_19 : decode prog_40_method_7_code 19 = .ok (.ireturn, 1) := by decide +kernel
theorem own_d3_0 : decode prog_40_method_5_code 0 = .ok (.aload_n 0, 1) := by decide +kernel
theorem own_d3_1 : decode prog_40_method_5_code 1 = .ok (.getfield 45, 3) := by decide +kernel
theorem own_d3_4 : decode prog_40_method_5_code 4 = .ok (.ireturn, 1) := by decide +kernel
theorem own_d4_0 : decode prog_40_method_6_code 0 = .ok (.aload_n 0, 1) := by decide +kernel
theorem own_d4_1 : decode prog_40_method_6_code 1 = .ok (.getstatic 3, 3) := by decide +kernel
theorem own_d4_4 : decode prog_40_method_6_code 4 = .ok (.if_acmp .eq 10, 3) := by decide +kernel
theorem own_d4_14 : decode prog_40_method_6_code 14 = .ok (.iconst 1, 1) := by decide +kernel
theorem own_d4_15 : decode prog_40_method_6_code 15 = .ok (.goto 4, 3) := by decide +kernel
theorem own_d4_19 : decode prog_40_method_6_code 19 = .ok (.ireturn, 1) := by decide +kernel
theorem own_d5_0 : decode prog_40_method_8_code 0 = .ok (.aload_n 0, 1) := by decide +kernel
theorem own_d5_1 : decode prog_40_method_8_code 1 = .ok (.getstatic 10, 3) := by decide +kernel
theorem own_d5_4 : decode prog_40_method_8_code 4 = .ok (.if_acmp .eq 10, 3) := by decide +kernel
theorem own_d5_7 : decode prog_40_method_8_code 7 = .ok (.aload_n 0, 1) := by decide +kernel
theorem own_d5_8 : decode prog_40_method_8_code 8 = .ok (.getstatic 13, 3) := by decide +kernel
theorem own_d5_11 : decode prog_40_method_8_code 11 = .ok (.if_acmp .ne 7, 3) := by decide +kernel
theorem own_d5_18 : decode prog_40_method_8_code 18 = .ok (.iconst 0, 1) := by decide +kernel
theorem own_d5_19 : decode prog_40_method_8_code 19 = .ok (.ireturn, 1) := by decide +kernel
theorem own_d1_8 : decode method_2_code 8 = .ok (.iload_n 0, 1) := by decide +kernel
theorem own_d1_9 : decode method_2_code 9 = .ok (.iconst 1, 1) := by decide +kernel
theorem own_d1_10 : decode method_2_code 10 = .ok (.if_icmp .ne 7, 3) := by decide +kernel
theorem own_d1_13 : decode method_2_code 13 = .ok (.getstatic 13, 3) := by decide +kernel
theorem own_d1_16 : decode method_2_code 16 = .ok (.areturn, 1) := by decide +kernel
theorem own_d4_7 : decode prog_40_method_6_code 7 = .ok (.aload_n 0, 1) := by decide +kernel
theorem own_d4_8 : decode prog_40_method_6_code 8 = .ok (.getstatic 7, 3) := by decide +kernel
theorem own_d4_11 : decode prog_40_method_6_code 11 = .ok (.if_acmp .ne 7, 3) := by decide +kernel
theorem own_d1_17 : decode method_2_code 17 = .ok (.iload_n 0, 1) := by decide +kernel
theorem own_d1_18 : decode method_2_code 18 = .ok (.iconst 2, 1) := by decide +kernel
theorem own_d1_19 : decode method_2_code 19 = .ok (.if_icmp .ne 7, 3) := by decide +kernel
theorem own_d1_22 : decode method_2_code 22 = .ok (.getstatic 16, 3) := by decide +kernel
theorem own_d1_25 : decode method_2_code 25 = .ok (.areturn, 1) := by decide +kernel
theorem own_d4_18 : decode prog_40_method_6_code 18 = .ok (.iconst 0, 1) := by decide +kernel
theorem own_d5_14 : decode prog_40_method_8_code 14 = .ok (.iconst 1, 1) := by decide +kernel
theorem own_d5_15 : decode prog_40_method_8_code 15 = .ok (.goto 4, 3) := by decide +kernel
theorem own_d1_26 : decode method_2_code 26 = .ok (.iload_n 0, 1) := by decide +kernel
theorem own_d1_27 : decode method_2_code 27 = .ok (.iconst 3, 1) := by decide +kernel
theorem own_d1_28 : decode method_2_code 28 = .ok (.if_icmp .ne 7, 3) := by decide +kernel
theorem own_d1_31 : decode method_2_code 31 = .ok (.getstatic 19, 3) := by decide +kernel
theorem own_d1_34 : decode method_2_code 34 = .ok (.areturn, 1) := by decide +kernel
theorem own_d1_35 : decode method_2_code 35 = .ok (.iload_n 0, 1) := by decide +kernel
theorem own_d1_36 : decode method_2_code 36 = .ok (.iconst 4, 1) := by decide +kernel
theorem own_d1_37 : decode method_2_code 37 = .ok (.if_icmp .ne 7, 3) := by decide +kernel
theorem own_d1_40 : decode method_2_code 40 = .ok (.getstatic 22, 3) := by decide +kernel
theorem own_d1_43 : decode method_2_code 43 = .ok (.areturn, 1) := by decide +kernel
theorem own_d2_14 : decode prog_40_method_7_code 14 = .ok (.iconst 1, 1) := by decide +kernel
theorem own_d2_15 : decode prog_40_method_7_code 15 = .ok (.goto 4, 3) := by decide +kernel
theorem own_d1_44 : decode method_2_code 44 = .ok (.getstatic 25, 3) := by decide +kernel
theorem own_d1_47 : decode method_2_code 47 = .ok (.areturn, 1) := by decide +kernel
theorem own_mod6 (x : Int32) : (x &&& (2147483647 : Int32)) % (6 : Int32) = (0 : Int32) ∨ (x &&& (2147483647 : Int32)) % (6 : Int32) = (1 : Int32) ∨ (x &&& (2147483647 : Int32)) % (6 : Int32) = (2 : Int32) ∨ (x &&& (2147483647 : Int32)) % (6 : Int32) = (3 : Int32) ∨ (x &&& (2147483647 : Int32)) % (6 : Int32) = (4 : Int32) ∨ (x &&& (2147483647 : Int32)) % (6 : Int32) = (5 : Int32) := by
  have h1 : 0 ≤ (x &&& (2147483647 : Int32)).toInt := (c_andS x 2147483647).2.2 (by decide)
  have h2 := (c_irem (x &&& (2147483647 : Int32)) (6 : Int32) 6 (by decide)).1 h1
  have h3 : ((x &&& (2147483647 : Int32)) % (6 : Int32)).toInt = 0 ∨ ((x &&& (2147483647 : Int32)) % (6 : Int32)).toInt = 1 ∨ ((x &&& (2147483647 : Int32)) % (6 : Int32)).toInt = 2 ∨ ((x &&& (2147483647 : Int32)) % (6 : Int32)).toInt = 3 ∨ ((x &&& (2147483647 : Int32)) % (6 : Int32)).toInt = 4 ∨ ((x &&& (2147483647 : Int32)) % (6 : Int32)).toInt = 5 := by omega
  rcases h3 with q | q | q | q | q | q
  · exact (Or.inl (Int32.toInt_inj.mp (q.trans (by decide))))
  · exact (Or.inr (Or.inl (Int32.toInt_inj.mp (q.trans (by decide)))))
  · exact (Or.inr (Or.inr (Or.inl (Int32.toInt_inj.mp (q.trans (by decide))))))
  · exact (Or.inr (Or.inr (Or.inr (Or.inl (Int32.toInt_inj.mp (q.trans (by decide)))))))
  · exact (Or.inr (Or.inr (Or.inr (Or.inr (Or.inl (Int32.toInt_inj.mp (q.trans (by decide))))))))
  · exact (Or.inr (Or.inr (Or.inr (Or.inr (Or.inr (Int32.toInt_inj.mp (q.trans (by decide))))))))
def own_St (Z : State) (h : Heap) (a_INT a_STRING a_BOX a_FLOAT a_DOUBLE a_LONG : Addr) : Prop := own_En Z h "com/example/pathwright/pathwright/symbolic/Sort" "INT" "Lcom/example/pathwright/pathwright/symbolic/Sort;" 0 a_INT ∧ own_En Z h "com/example/pathwright/pathwright/symbolic/Sort" "STRING" "Lcom/example/pathwright/pathwright/symbolic/Sort;" 4 a_STRING ∧ own_En Z h "com/example/pathwright/pathwright/symbolic/Sort" "BOX" "Lcom/example/pathwright/pathwright/symbolic/Sort;" 5 a_BOX ∧ own_En Z h "com/example/pathwright/pathwright/symbolic/Sort" "FLOAT" "Lcom/example/pathwright/pathwright/symbolic/Sort;" 2 a_FLOAT ∧ own_En Z h "com/example/pathwright/pathwright/symbolic/Sort" "DOUBLE" "Lcom/example/pathwright/pathwright/symbolic/Sort;" 3 a_DOUBLE ∧ own_En Z h "com/example/pathwright/pathwright/symbolic/Sort" "LONG" "Lcom/example/pathwright/pathwright/symbolic/Sort;" 1 a_LONG ∧ Fld Z h a_INT "com/example/pathwright/pathwright/symbolic/Sort" "bits" "I" (.int 32) ∧ Fld Z h a_DOUBLE "com/example/pathwright/pathwright/symbolic/Sort" "bits" "I" (.int 64) ∧ Fld Z h a_FLOAT "com/example/pathwright/pathwright/symbolic/Sort" "bits" "I" (.int 32) ∧ Fld Z h a_LONG "com/example/pathwright/pathwright/symbolic/Sort" "bits" "I" (.int 64) ∧ Fld Z h a_BOX "com/example/pathwright/pathwright/symbolic/Sort" "bits" "I" (.int 0) ∧ Fld Z h a_STRING "com/example/pathwright/pathwright/symbolic/Sort" "bits" "I" (.int 0)
theorem own_c1_0 (l : Launch) {Z : State} {a0 : Array Value} (hw : ∀ d ∈ tables_1, d.before a0 Z = true) {n0 : Nat} {h : Heap} {a_INT a_STRING a_BOX a_FLOAT a_DOUBLE a_LONG : Addr} (S : own_St Z h a_INT a_STRING a_BOX a_FLOAT a_DOUBLE a_LONG) :
    own_Met l Z (⟨"com/example/pathwright/pathwright/symbolic/SortReferencePinLaw", "pick", "(I)Lcom/example/pathwright/pathwright/symbolic/Sort;"⟩ : MethodName) method_2_code 1 (some (.object "com/example/pathwright/pathwright/symbolic/Sort")) [] ({ frames := 0, cells := 0, slots := 0, locals := 0 } : Room) n0 #[(.int (0 : Int32))] h (own_pure (.ref a_INT) h) := by
  refine own_met (Ls := #[.val (.int (0 : Int32))]) (by first | exact plainFor_of_name (by first | (simp [plainName, overriddenIn]; done) | decide +kernel) | decide +kernel) (fun m => rfl) ?_
  intro p e s m below meth c C
  refine own_iloadN C own_d1_0 rfl (pc' := 1) rfl ?_
  refine own_ifN C own_d1_1 (by decide) (pc' := 4) rfl ?_
  refine own_getstatic C (own_w hw 5 rfl) S.1.1 own_d1_4 (pc' := 7) rfl ?_
  exact own_areturn C rfl rfl own_d1_7 (by decide) (by decide) ⟨rfl, rfl⟩
theorem own_c2_0 (l : Launch) {Z : State} {a0 : Array Value} (hw : ∀ d ∈ tables_1, d.before a0 Z = true) {n0 : Nat} {h : Heap} {a_INT a_STRING a_BOX a_FLOAT a_DOUBLE a_LONG : Addr} (S : own_St Z h a_INT a_STRING a_BOX a_FLOAT a_DOUBLE a_LONG) :
    own_Met l Z (⟨"com/example/pathwright/pathwright/symbolic/Sort", "reference", "()Z"⟩ : MethodName) prog_40_method_7_code 1 (some .boolean) [] ({ frames := 0, cells := 0, slots := 0, locals := 0 } : Room) n0 #[(.ref a_INT)] h (own_pure (.int (0 : Int32)) h) := by
  refine own_met (Ls := #[.val (.ref a_INT)]) (by first | exact plainFor_of_name (by first | (simp [plainName, overriddenIn]; done) | decide +kernel) | decide +kernel) (fun m => rfl) ?_
  intro p e s m below meth c C
  refine own_aloadN C own_d2_0 rfl rfl (pc' := 1) rfl ?_
  refine own_getstatic C (own_w hw 13 rfl) S.2.1.1 own_d2_1 (pc' := 4) rfl ?_
  refine own_acmp C (same := false) own_d2_4 rfl rfl (own_unlike (own_En.ne S.1 S.2.1 (by decide))) (by decide) (pc' := 7) (by decide) ?_
  refine own_aloadN C own_d2_7 rfl rfl (pc' := 8) rfl ?_
  refine own_getstatic C (own_w hw 15 rfl) S.2.2.1.1 own_d2_8 (pc' := 11) rfl ?_
  refine own_acmp C (same := false) own_d2_11 rfl rfl (own_unlike (own_En.ne S.1 S.2.2.1 (by decide))) (by decide) (pc' := 18) (by decide) ?_
  refine own_iconst C (v := (0 : Int32)) own_d2_18 (by decide) (pc' := 19) rfl ?_
  exact own_ireturn C (by simp) rfl own_d2_19 (by decide) (by decide) ⟨rfl, rfl⟩
theorem own_c3_0 (l : Launch) {Z : State} {a0 : Array Value} (hw : ∀ d ∈ tables_1, d.before a0 Z = true) {n0 : Nat} {h : Heap} {a_INT a_STRING a_BOX a_FLOAT a_DOUBLE a_LONG : Addr} (S : own_St Z h a_INT a_STRING a_BOX a_FLOAT a_DOUBLE a_LONG) :
    own_Met l Z (⟨"com/example/pathwright/pathwright/symbolic/Sort", "bits", "()I"⟩ : MethodName) prog_40_method_5_code 1 (some .int) [] ({ frames := 0, cells := 0, slots := 0, locals := 0 } : Room) n0 #[(.ref a_INT)] h (own_pure (.int (32 : Int32)) h) := by
  refine own_met (Ls := #[.val (.ref a_INT)]) (by first | exact plainFor_of_name (by first | (simp [plainName, overriddenIn]; done) | decide +kernel) | decide +kernel) (fun m => rfl) ?_
  intro p e s m below meth c C
  refine own_aloadN C own_d3_0 rfl rfl (pc' := 1) rfl ?_
  refine own_getfield C (own_w hw 22 rfl) Via.refl S.2.2.2.2.2.2.1 own_d3_1 (pc' := 4) rfl ?_
  exact own_ireturn C (Or.inl rfl) rfl own_d3_4 (by decide) (by decide) ⟨rfl, rfl⟩
theorem own_c4_0 (l : Launch) {Z : State} {a0 : Array Value} (hw : ∀ d ∈ tables_1, d.before a0 Z = true) {n0 : Nat} {h : Heap} {a_INT a_STRING a_BOX a_FLOAT a_DOUBLE a_LONG : Addr} (S : own_St Z h a_INT a_STRING a_BOX a_FLOAT a_DOUBLE a_LONG) :
    own_Met l Z (⟨"com/example/pathwright/pathwright/symbolic/Sort", "integral", "()Z"⟩ : MethodName) prog_40_method_6_code 1 (some .boolean) [] ({ frames := 0, cells := 0, slots := 0, locals := 0 } : Room) n0 #[(.ref a_INT)] h (own_pure (.int (1 : Int32)) h) := by
  refine own_met (Ls := #[.val (.ref a_INT)]) (by first | exact plainFor_of_name (by first | (simp [plainName, overriddenIn]; done) | decide +kernel) | decide +kernel) (fun m => rfl) ?_
  intro p e s m below meth c C
  refine own_aloadN C own_d4_0 rfl rfl (pc' := 1) rfl ?_
  refine own_getstatic C (own_w hw 29 rfl) S.1.1 own_d4_1 (pc' := 4) rfl ?_
  refine own_acmp C (same := true) own_d4_4 rfl rfl (own_same _) (by decide) (pc' := 14) (by decide) ?_
  refine own_iconst C (v := (1 : Int32)) own_d4_14 (by decide) (pc' := 15) rfl ?_
  refine own_goto C own_d4_15 (by decide) (pc' := 19) (by decide) ?_
  exact own_ireturn C (by simp) rfl own_d4_19 (by decide) (by decide) ⟨rfl, rfl⟩
theorem own_c5_0 (l : Launch) {Z : State} {a0 : Array Value} (hw : ∀ d ∈ tables_1, d.before a0 Z = true) {n0 : Nat} {h : Heap} {a_INT a_STRING a_BOX a_FLOAT a_DOUBLE a_LONG : Addr} (S : own_St Z h a_INT a_STRING a_BOX a_FLOAT a_DOUBLE a_LONG) :
    own_Met l Z (⟨"com/example/pathwright/pathwright/symbolic/Sort", "floating", "()Z"⟩ : MethodName) prog_40_method_8_code 1 (some .boolean) [] ({ frames := 0, cells := 0, slots := 0, locals := 0 } : Room) n0 #[(.ref a_INT)] h (own_pure (.int (0 : Int32)) h) := by
  refine own_met (Ls := #[.val (.ref a_INT)]) (by first | exact plainFor_of_name (by first | (simp [plainName, overriddenIn]; done) | decide +kernel) | decide +kernel) (fun m => rfl) ?_
  intro p e s m below meth c C
  refine own_aloadN C own_d5_0 rfl rfl (pc' := 1) rfl ?_
  refine own_getstatic C (own_w hw 35 rfl) S.2.2.2.1.1 own_d5_1 (pc' := 4) rfl ?_
  refine own_acmp C (same := false) own_d5_4 rfl rfl (own_unlike (own_En.ne S.1 S.2.2.2.1 (by decide))) (by decide) (pc' := 7) (by decide) ?_
  refine own_aloadN C own_d5_7 rfl rfl (pc' := 8) rfl ?_
  refine own_getstatic C (own_w hw 37 rfl) S.2.2.2.2.1.1 own_d5_8 (pc' := 11) rfl ?_
  refine own_acmp C (same := false) own_d5_11 rfl rfl (own_unlike (own_En.ne S.1 S.2.2.2.2.1 (by decide))) (by decide) (pc' := 18) (by decide) ?_
  refine own_iconst C (v := (0 : Int32)) own_d5_18 (by decide) (pc' := 19) rfl ?_
  exact own_ireturn C (by simp) rfl own_d5_19 (by decide) (by decide) ⟨rfl, rfl⟩
theorem own_c1_1 (l : Launch) {Z : State} {a0 : Array Value} (hw : ∀ d ∈ tables_1, d.before a0 Z = true) {n0 : Nat} {h : Heap} {a_INT a_STRING a_BOX a_FLOAT a_DOUBLE a_LONG : Addr} (S : own_St Z h a_INT a_STRING a_BOX a_FLOAT a_DOUBLE a_LONG) :
    own_Met l Z (⟨"com/example/pathwright/pathwright/symbolic/SortReferencePinLaw", "pick", "(I)Lcom/example/pathwright/pathwright/symbolic/Sort;"⟩ : MethodName) method_2_code 1 (some (.object "com/example/pathwright/pathwright/symbolic/Sort")) [] ({ frames := 0, cells := 0, slots := 0, locals := 0 } : Room) n0 #[(.int (1 : Int32))] h (own_pure (.ref a_LONG) h) := by
  refine own_met (Ls := #[.val (.int (1 : Int32))]) (by first | exact plainFor_of_name (by first | (simp [plainName, overriddenIn]; done) | decide +kernel) | decide +kernel) (fun m => rfl) ?_
  intro p e s m below meth c C
  refine own_iloadN C own_d1_0 rfl (pc' := 1) rfl ?_
  refine own_ifY C own_d1_1 (by decide) (by decide) (pc' := 8) (by decide) ?_
  refine own_iloadN C own_d1_8 rfl (pc' := 9) rfl ?_
  refine own_iconst C (v := (1 : Int32)) own_d1_9 (by decide) (pc' := 10) rfl ?_
  refine own_icmpN C own_d1_10 (by decide) (pc' := 13) rfl ?_
  refine own_getstatic C (own_w hw 43 rfl) S.2.2.2.2.2.1.1 own_d1_13 (pc' := 16) rfl ?_
  exact own_areturn C rfl rfl own_d1_16 (by decide) (by decide) ⟨rfl, rfl⟩
theorem own_c2_1 (l : Launch) {Z : State} {a0 : Array Value} (hw : ∀ d ∈ tables_1, d.before a0 Z = true) {n0 : Nat} {h : Heap} {a_INT a_STRING a_BOX a_FLOAT a_DOUBLE a_LONG : Addr} (S : own_St Z h a_INT a_STRING a_BOX a_FLOAT a_DOUBLE a_LONG) :
    own_Met l Z (⟨"com/example/pathwright/pathwright/symbolic/Sort", "reference", "()Z"⟩ : MethodName) prog_40_method_7_code 1 (some .boolean) [] ({ frames := 0, cells := 0, slots := 0, locals := 0 } : Room) n0 #[(.ref a_LONG)] h (own_pure (.int (0 : Int32)) h) := by
  refine own_met (Ls := #[.val (.ref a_LONG)]) (by first | exact plainFor_of_name (by first | (simp [plainName, overriddenIn]; done) | decide +kernel) | decide +kernel) (fun m => rfl) ?_
  intro p e s m below meth c C
  refine own_aloadN C own_d2_0 rfl rfl (pc' := 1) rfl ?_
  refine own_getstatic C (own_w hw 13 rfl) S.2.1.1 own_d2_1 (pc' := 4) rfl ?_
  refine own_acmp C (same := false) own_d2_4 rfl rfl (own_unlike (own_En.ne S.2.2.2.2.2.1 S.2.1 (by decide))) (by decide) (pc' := 7) (by decide) ?_
  refine own_aloadN C own_d2_7 rfl rfl (pc' := 8) rfl ?_
  refine own_getstatic C (own_w hw 15 rfl) S.2.2.1.1 own_d2_8 (pc' := 11) rfl ?_
  refine own_acmp C (same := false) own_d2_11 rfl rfl (own_unlike (own_En.ne S.2.2.2.2.2.1 S.2.2.1 (by decide))) (by decide) (pc' := 18) (by decide) ?_
  refine own_iconst C (v := (0 : Int32)) own_d2_18 (by decide) (pc' := 19) rfl ?_
  exact own_ireturn C (by simp) rfl own_d2_19 (by decide) (by decide) ⟨rfl, rfl⟩
theorem own_c3_1 (l : Launch) {Z : State} {a0 : Array Value} (hw : ∀ d ∈ tables_1, d.before a0 Z = true) {n0 : Nat} {h : Heap} {a_INT a_STRING a_BOX a_FLOAT a_DOUBLE a_LONG : Addr} (S : own_St Z h a_INT a_STRING a_BOX a_FLOAT a_DOUBLE a_LONG) :
    own_Met l Z (⟨"com/example/pathwright/pathwright/symbolic/Sort", "bits", "()I"⟩ : MethodName) prog_40_method_5_code 1 (some .int) [] ({ frames := 0, cells := 0, slots := 0, locals := 0 } : Room) n0 #[(.ref a_LONG)] h (own_pure (.int (64 : Int32)) h) := by
  refine own_met (Ls := #[.val (.ref a_LONG)]) (by first | exact plainFor_of_name (by first | (simp [plainName, overriddenIn]; done) | decide +kernel) | decide +kernel) (fun m => rfl) ?_
  intro p e s m below meth c C
  refine own_aloadN C own_d3_0 rfl rfl (pc' := 1) rfl ?_
  refine own_getfield C (own_w hw 22 rfl) Via.refl S.2.2.2.2.2.2.2.2.2.1 own_d3_1 (pc' := 4) rfl ?_
  exact own_ireturn C (Or.inl rfl) rfl own_d3_4 (by decide) (by decide) ⟨rfl, rfl⟩
theorem own_c4_1 (l : Launch) {Z : State} {a0 : Array Value} (hw : ∀ d ∈ tables_1, d.before a0 Z = true) {n0 : Nat} {h : Heap} {a_INT a_STRING a_BOX a_FLOAT a_DOUBLE a_LONG : Addr} (S : own_St Z h a_INT a_STRING a_BOX a_FLOAT a_DOUBLE a_LONG) :
    own_Met l Z (⟨"com/example/pathwright/pathwright/symbolic/Sort", "integral", "()Z"⟩ : MethodName) prog_40_method_6_code 1 (some .boolean) [] ({ frames := 0, cells := 0, slots := 0, locals := 0 } : Room) n0 #[(.ref a_LONG)] h (own_pure (.int (1 : Int32)) h) := by
  refine own_met (Ls := #[.val (.ref a_LONG)]) (by first | exact plainFor_of_name (by first | (simp [plainName, overriddenIn]; done) | decide +kernel) | decide +kernel) (fun m => rfl) ?_
  intro p e s m below meth c C
  refine own_aloadN C own_d4_0 rfl rfl (pc' := 1) rfl ?_
  refine own_getstatic C (own_w hw 29 rfl) S.1.1 own_d4_1 (pc' := 4) rfl ?_
  refine own_acmp C (same := false) own_d4_4 rfl rfl (own_unlike (own_En.ne S.2.2.2.2.2.1 S.1 (by decide))) (by decide) (pc' := 7) (by decide) ?_
  refine own_aloadN C own_d4_7 rfl rfl (pc' := 8) rfl ?_
  refine own_getstatic C (own_w hw 40 rfl) S.2.2.2.2.2.1.1 own_d4_8 (pc' := 11) rfl ?_
  refine own_acmp C (same := true) own_d4_11 rfl rfl (own_same _) (by decide) (pc' := 14) (by decide) ?_
  refine own_iconst C (v := (1 : Int32)) own_d4_14 (by decide) (pc' := 15) rfl ?_
  refine own_goto C own_d4_15 (by decide) (pc' := 19) (by decide) ?_
  exact own_ireturn C (by simp) rfl own_d4_19 (by decide) (by decide) ⟨rfl, rfl⟩
theorem own_c5_1 (l : Launch) {Z : State} {a0 : Array Value} (hw : ∀ d ∈ tables_1, d.before a0 Z = true) {n0 : Nat} {h : Heap} {a_INT a_STRING a_BOX a_FLOAT a_DOUBLE a_LONG : Addr} (S : own_St Z h a_INT a_STRING a_BOX a_FLOAT a_DOUBLE a_LONG) :
    own_Met l Z (⟨"com/example/pathwright/pathwright/symbolic/Sort", "floating", "()Z"⟩ : MethodName) prog_40_method_8_code 1 (some .boolean) [] ({ frames := 0, cells := 0, slots := 0, locals := 0 } : Room) n0 #[(.ref a_LONG)] h (own_pure (.int (0 : Int32)) h) := by
  refine own_met (Ls := #[.val (.ref a_LONG)]) (by first | exact plainFor_of_name (by first | (simp [plainName, overriddenIn]; done) | decide +kernel) | decide +kernel) (fun m => rfl) ?_
  intro p e s m below meth c C
  refine own_aloadN C own_d5_0 rfl rfl (pc' := 1) rfl ?_
  refine own_getstatic C (own_w hw 35 rfl) S.2.2.2.1.1 own_d5_1 (pc' := 4) rfl ?_
  refine own_acmp C (same := false) own_d5_4 rfl rfl (own_unlike (own_En.ne S.2.2.2.2.2.1 S.2.2.2.1 (by decide))) (by decide) (pc' := 7) (by decide) ?_
  refine own_aloadN C own_d5_7 rfl rfl (pc' := 8) rfl ?_
  refine own_getstatic C (own_w hw 37 rfl) S.2.2.2.2.1.1 own_d5_8 (pc' := 11) rfl ?_
  refine own_acmp C (same := false) own_d5_11 rfl rfl (own_unlike (own_En.ne S.2.2.2.2.2.1 S.2.2.2.2.1 (by decide))) (by decide) (pc' := 18) (by decide) ?_
  refine own_iconst C (v := (0 : Int32)) own_d5_18 (by decide) (pc' := 19) rfl ?_
  exact own_ireturn C (by simp) rfl own_d5_19 (by decide) (by decide) ⟨rfl, rfl⟩
theorem own_c1_2 (l : Launch) {Z : State} {a0 : Array Value} (hw : ∀ d ∈ tables_1, d.before a0 Z = true) {n0 : Nat} {h : Heap} {a_INT a_STRING a_BOX a_FLOAT a_DOUBLE a_LONG : Addr} (S : own_St Z h a_INT a_STRING a_BOX a_FLOAT a_DOUBLE a_LONG) :
    own_Met l Z (⟨"com/example/pathwright/pathwright/symbolic/SortReferencePinLaw", "pick", "(I)Lcom/example/pathwright/pathwright/symbolic/Sort;"⟩ : MethodName) method_2_code 1 (some (.object "com/example/pathwright/pathwright/symbolic/Sort")) [] ({ frames := 0, cells := 0, slots := 0, locals := 0 } : Room) n0 #[(.int (2 : Int32))] h (own_pure (.ref a_FLOAT) h) := by
  refine own_met (Ls := #[.val (.int (2 : Int32))]) (by first | exact plainFor_of_name (by first | (simp [plainName, overriddenIn]; done) | decide +kernel) | decide +kernel) (fun m => rfl) ?_
  intro p e s m below meth c C
  refine own_iloadN C own_d1_0 rfl (pc' := 1) rfl ?_
  refine own_ifY C own_d1_1 (by decide) (by decide) (pc' := 8) (by decide) ?_
  refine own_iloadN C own_d1_8 rfl (pc' := 9) rfl ?_
  refine own_iconst C (v := (1 : Int32)) own_d1_9 (by decide) (pc' := 10) rfl ?_
  refine own_icmpY C own_d1_10 (by decide) (by decide) (pc' := 17) (by decide) ?_
  refine own_iloadN C own_d1_17 rfl (pc' := 18) rfl ?_
  refine own_iconst C (v := (2 : Int32)) own_d1_18 (by decide) (pc' := 19) rfl ?_
  refine own_icmpN C own_d1_19 (by decide) (pc' := 22) rfl ?_
  refine own_getstatic C (own_w hw 42 rfl) S.2.2.2.1.1 own_d1_22 (pc' := 25) rfl ?_
  exact own_areturn C rfl rfl own_d1_25 (by decide) (by decide) ⟨rfl, rfl⟩
theorem own_c2_2 (l : Launch) {Z : State} {a0 : Array Value} (hw : ∀ d ∈ tables_1, d.before a0 Z = true) {n0 : Nat} {h : Heap} {a_INT a_STRING a_BOX a_FLOAT a_DOUBLE a_LONG : Addr} (S : own_St Z h a_INT a_STRING a_BOX a_FLOAT a_DOUBLE a_LONG) :
    own_Met l Z (⟨"com/example/pathwright/pathwright/symbolic/Sort", "reference", "()Z"⟩ : MethodName) prog_40_method_7_code 1 (some .boolean) [] ({ frames := 0, cells := 0, slots := 0, locals := 0 } : Room) n0 #[(.ref a_FLOAT)] h (own_pure (.int (0 : Int32)) h) := by
  refine own_met (Ls := #[.val (.ref a_FLOAT)]) (by first | exact plainFor_of_name (by first | (simp [plainName, overriddenIn]; done) | decide +kernel) | decide +kernel) (fun m => rfl) ?_
  intro p e s m below meth c C
  refine own_aloadN C own_d2_0 rfl rfl (pc' := 1) rfl ?_
  refine own_getstatic C (own_w hw 13 rfl) S.2.1.1 own_d2_1 (pc' := 4) rfl ?_
  refine own_acmp C (same := false) own_d2_4 rfl rfl (own_unlike (own_En.ne S.2.2.2.1 S.2.1 (by decide))) (by decide) (pc' := 7) (by decide) ?_
  refine own_aloadN C own_d2_7 rfl rfl (pc' := 8) rfl ?_
  refine own_getstatic C (own_w hw 15 rfl) S.2.2.1.1 own_d2_8 (pc' := 11) rfl ?_
  refine own_acmp C (same := false) own_d2_11 rfl rfl (own_unlike (own_En.ne S.2.2.2.1 S.2.2.1 (by decide))) (by decide) (pc' := 18) (by decide) ?_
  refine own_iconst C (v := (0 : Int32)) own_d2_18 (by decide) (pc' := 19) rfl ?_
  exact own_ireturn C (by simp) rfl own_d2_19 (by decide) (by decide) ⟨rfl, rfl⟩
theorem own_c3_2 (l : Launch) {Z : State} {a0 : Array Value} (hw : ∀ d ∈ tables_1, d.before a0 Z = true) {n0 : Nat} {h : Heap} {a_INT a_STRING a_BOX a_FLOAT a_DOUBLE a_LONG : Addr} (S : own_St Z h a_INT a_STRING a_BOX a_FLOAT a_DOUBLE a_LONG) :
    own_Met l Z (⟨"com/example/pathwright/pathwright/symbolic/Sort", "bits", "()I"⟩ : MethodName) prog_40_method_5_code 1 (some .int) [] ({ frames := 0, cells := 0, slots := 0, locals := 0 } : Room) n0 #[(.ref a_FLOAT)] h (own_pure (.int (32 : Int32)) h) := by
  refine own_met (Ls := #[.val (.ref a_FLOAT)]) (by first | exact plainFor_of_name (by first | (simp [plainName, overriddenIn]; done) | decide +kernel) | decide +kernel) (fun m => rfl) ?_
  intro p e s m below meth c C
  refine own_aloadN C own_d3_0 rfl rfl (pc' := 1) rfl ?_
  refine own_getfield C (own_w hw 22 rfl) Via.refl S.2.2.2.2.2.2.2.2.1 own_d3_1 (pc' := 4) rfl ?_
  exact own_ireturn C (Or.inl rfl) rfl own_d3_4 (by decide) (by decide) ⟨rfl, rfl⟩
theorem own_c4_2 (l : Launch) {Z : State} {a0 : Array Value} (hw : ∀ d ∈ tables_1, d.before a0 Z = true) {n0 : Nat} {h : Heap} {a_INT a_STRING a_BOX a_FLOAT a_DOUBLE a_LONG : Addr} (S : own_St Z h a_INT a_STRING a_BOX a_FLOAT a_DOUBLE a_LONG) :
    own_Met l Z (⟨"com/example/pathwright/pathwright/symbolic/Sort", "integral", "()Z"⟩ : MethodName) prog_40_method_6_code 1 (some .boolean) [] ({ frames := 0, cells := 0, slots := 0, locals := 0 } : Room) n0 #[(.ref a_FLOAT)] h (own_pure (.int (0 : Int32)) h) := by
  refine own_met (Ls := #[.val (.ref a_FLOAT)]) (by first | exact plainFor_of_name (by first | (simp [plainName, overriddenIn]; done) | decide +kernel) | decide +kernel) (fun m => rfl) ?_
  intro p e s m below meth c C
  refine own_aloadN C own_d4_0 rfl rfl (pc' := 1) rfl ?_
  refine own_getstatic C (own_w hw 29 rfl) S.1.1 own_d4_1 (pc' := 4) rfl ?_
  refine own_acmp C (same := false) own_d4_4 rfl rfl (own_unlike (own_En.ne S.2.2.2.1 S.1 (by decide))) (by decide) (pc' := 7) (by decide) ?_
  refine own_aloadN C own_d4_7 rfl rfl (pc' := 8) rfl ?_
  refine own_getstatic C (own_w hw 40 rfl) S.2.2.2.2.2.1.1 own_d4_8 (pc' := 11) rfl ?_
  refine own_acmp C (same := false) own_d4_11 rfl rfl (own_unlike (own_En.ne S.2.2.2.1 S.2.2.2.2.2.1 (by decide))) (by decide) (pc' := 18) (by decide) ?_
  refine own_iconst C (v := (0 : Int32)) own_d4_18 (by decide) (pc' := 19) rfl ?_
  exact own_ireturn C (by simp) rfl own_d4_19 (by decide) (by decide) ⟨rfl, rfl⟩
theorem own_c5_2 (l : Launch) {Z : State} {a0 : Array Value} (hw : ∀ d ∈ tables_1, d.before a0 Z = true) {n0 : Nat} {h : Heap} {a_INT a_STRING a_BOX a_FLOAT a_DOUBLE a_LONG : Addr} (S : own_St Z h a_INT a_STRING a_BOX a_FLOAT a_DOUBLE a_LONG) :
    own_Met l Z (⟨"com/example/pathwright/pathwright/symbolic/Sort", "floating", "()Z"⟩ : MethodName) prog_40_method_8_code 1 (some .boolean) [] ({ frames := 0, cells := 0, slots := 0, locals := 0 } : Room) n0 #[(.ref a_FLOAT)] h (own_pure (.int (1 : Int32)) h) := by
  refine own_met (Ls := #[.val (.ref a_FLOAT)]) (by first | exact plainFor_of_name (by first | (simp [plainName, overriddenIn]; done) | decide +kernel) | decide +kernel) (fun m => rfl) ?_
  intro p e s m below meth c C
  refine own_aloadN C own_d5_0 rfl rfl (pc' := 1) rfl ?_
  refine own_getstatic C (own_w hw 35 rfl) S.2.2.2.1.1 own_d5_1 (pc' := 4) rfl ?_
  refine own_acmp C (same := true) own_d5_4 rfl rfl (own_same _) (by decide) (pc' := 14) (by decide) ?_
  refine own_iconst C (v := (1 : Int32)) own_d5_14 (by decide) (pc' := 15) rfl ?_
  refine own_goto C own_d5_15 (by decide) (pc' := 19) (by decide) ?_
  exact own_ireturn C (by simp) rfl own_d5_19 (by decide) (by decide) ⟨rfl, rfl⟩
theorem own_c1_3 (l : Launch) {Z : State} {a0 : Array Value} (hw : ∀ d ∈ tables_1, d.before a0 Z = true) {n0 : Nat} {h : Heap} {a_INT a_STRING a_BOX a_FLOAT a_DOUBLE a_LONG : Addr} (S : own_St Z h a_INT a_STRING a_BOX a_FLOAT a_DOUBLE a_LONG) :
    own_Met l Z (⟨"com/example/pathwright/pathwright/symbolic/SortReferencePinLaw", "pick", "(I)Lcom/example/pathwright/pathwright/symbolic/Sort;"⟩ : MethodName) method_2_code 1 (some (.object "com/example/pathwright/pathwright/symbolic/Sort")) [] ({ frames := 0, cells := 0, slots := 0, locals := 0 } : Room) n0 #[(.int (3 : Int32))] h (own_pure (.ref a_DOUBLE) h) := by
  refine own_met (Ls := #[.val (.int (3 : Int32))]) (by first | exact plainFor_of_name (by first | (simp [plainName, overriddenIn]; done) | decide +kernel) | decide +kernel) (fun m => rfl) ?_
  intro p e s m below meth c C
  refine own_iloadN C own_d1_0 rfl (pc' := 1) rfl ?_
  refine own_ifY C own_d1_1 (by decide) (by decide) (pc' := 8) (by decide) ?_
  refine own_iloadN C own_d1_8 rfl (pc' := 9) rfl ?_
  refine own_iconst C (v := (1 : Int32)) own_d1_9 (by decide) (pc' := 10) rfl ?_
  refine own_icmpY C own_d1_10 (by decide) (by decide) (pc' := 17) (by decide) ?_
  refine own_iloadN C own_d1_17 rfl (pc' := 18) rfl ?_
  refine own_iconst C (v := (2 : Int32)) own_d1_18 (by decide) (pc' := 19) rfl ?_
  refine own_icmpY C own_d1_19 (by decide) (by decide) (pc' := 26) (by decide) ?_
  refine own_iloadN C own_d1_26 rfl (pc' := 27) rfl ?_
  refine own_iconst C (v := (3 : Int32)) own_d1_27 (by decide) (pc' := 28) rfl ?_
  refine own_icmpN C own_d1_28 (by decide) (pc' := 31) rfl ?_
  refine own_getstatic C (own_w hw 39 rfl) S.2.2.2.2.1.1 own_d1_31 (pc' := 34) rfl ?_
  exact own_areturn C rfl rfl own_d1_34 (by decide) (by decide) ⟨rfl, rfl⟩
theorem own_c2_3 (l : Launch) {Z : State} {a0 : Array Value} (hw : ∀ d ∈ tables_1, d.before a0 Z = true) {n0 : Nat} {h : Heap} {a_INT a_STRING a_BOX a_FLOAT a_DOUBLE a_LONG : Addr} (S : own_St Z h a_INT a_STRING a_BOX a_FLOAT a_DOUBLE a_LONG) :
    own_Met l Z (⟨"com/example/pathwright/pathwright/symbolic/Sort", "reference", "()Z"⟩ : MethodName) prog_40_method_7_code 1 (some .boolean) [] ({ frames := 0, cells := 0, slots := 0, locals := 0 } : Room) n0 #[(.ref a_DOUBLE)] h (own_pure (.int (0 : Int32)) h) := by
  refine own_met (Ls := #[.val (.ref a_DOUBLE)]) (by first | exact plainFor_of_name (by first | (simp [plainName, overriddenIn]; done) | decide +kernel) | decide +kernel) (fun m => rfl) ?_
  intro p e s m below meth c C
  refine own_aloadN C own_d2_0 rfl rfl (pc' := 1) rfl ?_
  refine own_getstatic C (own_w hw 13 rfl) S.2.1.1 own_d2_1 (pc' := 4) rfl ?_
  refine own_acmp C (same := false) own_d2_4 rfl rfl (own_unlike (own_En.ne S.2.2.2.2.1 S.2.1 (by decide))) (by decide) (pc' := 7) (by decide) ?_
  refine own_aloadN C own_d2_7 rfl rfl (pc' := 8) rfl ?_
  refine own_getstatic C (own_w hw 15 rfl) S.2.2.1.1 own_d2_8 (pc' := 11) rfl ?_
  refine own_acmp C (same := false) own_d2_11 rfl rfl (own_unlike (own_En.ne S.2.2.2.2.1 S.2.2.1 (by decide))) (by decide) (pc' := 18) (by decide) ?_
  refine own_iconst C (v := (0 : Int32)) own_d2_18 (by decide) (pc' := 19) rfl ?_
  exact own_ireturn C (by simp) rfl own_d2_19 (by decide) (by decide) ⟨rfl, rfl⟩
theorem own_c3_3 (l : Launch) {Z : State} {a0 : Array Value} (hw : ∀ d ∈ tables_1, d.before a0 Z = true) {n0 : Nat} {h : Heap} {a_INT a_STRING a_BOX a_FLOAT a_DOUBLE a_LONG : Addr} (S : own_St Z h a_INT a_STRING a_BOX a_FLOAT a_DOUBLE a_LONG) :
    own_Met l Z (⟨"com/example/pathwright/pathwright/symbolic/Sort", "bits", "()I"⟩ : MethodName) prog_40_method_5_code 1 (some .int) [] ({ frames := 0, cells := 0, slots := 0, locals := 0 } : Room) n0 #[(.ref a_DOUBLE)] h (own_pure (.int (64 : Int32)) h) := by
  refine own_met (Ls := #[.val (.ref a_DOUBLE)]) (by first | exact plainFor_of_name (by first | (simp [plainName, overriddenIn]; done) | decide +kernel) | decide +kernel) (fun m => rfl) ?_
  intro p e s m below meth c C
  refine own_aloadN C own_d3_0 rfl rfl (pc' := 1) rfl ?_
  refine own_getfield C (own_w hw 22 rfl) Via.refl S.2.2.2.2.2.2.2.1 own_d3_1 (pc' := 4) rfl ?_
  exact own_ireturn C (Or.inl rfl) rfl own_d3_4 (by decide) (by decide) ⟨rfl, rfl⟩
theorem own_c4_3 (l : Launch) {Z : State} {a0 : Array Value} (hw : ∀ d ∈ tables_1, d.before a0 Z = true) {n0 : Nat} {h : Heap} {a_INT a_STRING a_BOX a_FLOAT a_DOUBLE a_LONG : Addr} (S : own_St Z h a_INT a_STRING a_BOX a_FLOAT a_DOUBLE a_LONG) :
    own_Met l Z (⟨"com/example/pathwright/pathwright/symbolic/Sort", "integral", "()Z"⟩ : MethodName) prog_40_method_6_code 1 (some .boolean) [] ({ frames := 0, cells := 0, slots := 0, locals := 0 } : Room) n0 #[(.ref a_DOUBLE)] h (own_pure (.int (0 : Int32)) h) := by
  refine own_met (Ls := #[.val (.ref a_DOUBLE)]) (by first | exact plainFor_of_name (by first | (simp [plainName, overriddenIn]; done) | decide +kernel) | decide +kernel) (fun m => rfl) ?_
  intro p e s m below meth c C
  refine own_aloadN C own_d4_0 rfl rfl (pc' := 1) rfl ?_
  refine own_getstatic C (own_w hw 29 rfl) S.1.1 own_d4_1 (pc' := 4) rfl ?_
  refine own_acmp C (same := false) own_d4_4 rfl rfl (own_unlike (own_En.ne S.2.2.2.2.1 S.1 (by decide))) (by decide) (pc' := 7) (by decide) ?_
  refine own_aloadN C own_d4_7 rfl rfl (pc' := 8) rfl ?_
  refine own_getstatic C (own_w hw 40 rfl) S.2.2.2.2.2.1.1 own_d4_8 (pc' := 11) rfl ?_
  refine own_acmp C (same := false) own_d4_11 rfl rfl (own_unlike (own_En.ne S.2.2.2.2.1 S.2.2.2.2.2.1 (by decide))) (by decide) (pc' := 18) (by decide) ?_
  refine own_iconst C (v := (0 : Int32)) own_d4_18 (by decide) (pc' := 19) rfl ?_
  exact own_ireturn C (by simp) rfl own_d4_19 (by decide) (by decide) ⟨rfl, rfl⟩
theorem own_c5_3 (l : Launch) {Z : State} {a0 : Array Value} (hw : ∀ d ∈ tables_1, d.before a0 Z = true) {n0 : Nat} {h : Heap} {a_INT a_STRING a_BOX a_FLOAT a_DOUBLE a_LONG : Addr} (S : own_St Z h a_INT a_STRING a_BOX a_FLOAT a_DOUBLE a_LONG) :
    own_Met l Z (⟨"com/example/pathwright/pathwright/symbolic/Sort", "floating", "()Z"⟩ : MethodName) prog_40_method_8_code 1 (some .boolean) [] ({ frames := 0, cells := 0, slots := 0, locals := 0 } : Room) n0 #[(.ref a_DOUBLE)] h (own_pure (.int (1 : Int32)) h) := by
  refine own_met (Ls := #[.val (.ref a_DOUBLE)]) (by first | exact plainFor_of_name (by first | (simp [plainName, overriddenIn]; done) | decide +kernel) | decide +kernel) (fun m => rfl) ?_
  intro p e s m below meth c C
  refine own_aloadN C own_d5_0 rfl rfl (pc' := 1) rfl ?_
  refine own_getstatic C (own_w hw 35 rfl) S.2.2.2.1.1 own_d5_1 (pc' := 4) rfl ?_
  refine own_acmp C (same := false) own_d5_4 rfl rfl (own_unlike (own_En.ne S.2.2.2.2.1 S.2.2.2.1 (by decide))) (by decide) (pc' := 7) (by decide) ?_
  refine own_aloadN C own_d5_7 rfl rfl (pc' := 8) rfl ?_
  refine own_getstatic C (own_w hw 37 rfl) S.2.2.2.2.1.1 own_d5_8 (pc' := 11) rfl ?_
  refine own_acmp C (same := true) own_d5_11 rfl rfl (own_same _) (by decide) (pc' := 14) (by decide) ?_
  refine own_iconst C (v := (1 : Int32)) own_d5_14 (by decide) (pc' := 15) rfl ?_
  refine own_goto C own_d5_15 (by decide) (pc' := 19) (by decide) ?_
  exact own_ireturn C (by simp) rfl own_d5_19 (by decide) (by decide) ⟨rfl, rfl⟩
theorem own_c1_4 (l : Launch) {Z : State} {a0 : Array Value} (hw : ∀ d ∈ tables_1, d.before a0 Z = true) {n0 : Nat} {h : Heap} {a_INT a_STRING a_BOX a_FLOAT a_DOUBLE a_LONG : Addr} (S : own_St Z h a_INT a_STRING a_BOX a_FLOAT a_DOUBLE a_LONG) :
    own_Met l Z (⟨"com/example/pathwright/pathwright/symbolic/SortReferencePinLaw", "pick", "(I)Lcom/example/pathwright/pathwright/symbolic/Sort;"⟩ : MethodName) method_2_code 1 (some (.object "com/example/pathwright/pathwright/symbolic/Sort")) [] ({ frames := 0, cells := 0, slots := 0, locals := 0 } : Room) n0 #[(.int (4 : Int32))] h (own_pure (.ref a_STRING) h) := by
  refine own_met (Ls := #[.val (.int (4 : Int32))]) (by first | exact plainFor_of_name (by first | (simp [plainName, overriddenIn]; done) | decide +kernel) | decide +kernel) (fun m => rfl) ?_
  intro p e s m below meth c C
  refine own_iloadN C own_d1_0 rfl (pc' := 1) rfl ?_
  refine own_ifY C own_d1_1 (by decide) (by decide) (pc' := 8) (by decide) ?_
  refine own_iloadN C own_d1_8 rfl (pc' := 9) rfl ?_
  refine own_iconst C (v := (1 : Int32)) own_d1_9 (by decide) (pc' := 10) rfl ?_
  refine own_icmpY C own_d1_10 (by decide) (by decide) (pc' := 17) (by decide) ?_
  refine own_iloadN C own_d1_17 rfl (pc' := 18) rfl ?_
  refine own_iconst C (v := (2 : Int32)) own_d1_18 (by decide) (pc' := 19) rfl ?_
  refine own_icmpY C own_d1_19 (by decide) (by decide) (pc' := 26) (by decide) ?_
  refine own_iloadN C own_d1_26 rfl (pc' := 27) rfl ?_
  refine own_iconst C (v := (3 : Int32)) own_d1_27 (by decide) (pc' := 28) rfl ?_
  refine own_icmpY C own_d1_28 (by decide) (by decide) (pc' := 35) (by decide) ?_
  refine own_iloadN C own_d1_35 rfl (pc' := 36) rfl ?_
  refine own_iconst C (v := (4 : Int32)) own_d1_36 (by decide) (pc' := 37) rfl ?_
  refine own_icmpN C own_d1_37 (by decide) (pc' := 40) rfl ?_
  refine own_getstatic C (own_w hw 45 rfl) S.2.1.1 own_d1_40 (pc' := 43) rfl ?_
  exact own_areturn C rfl rfl own_d1_43 (by decide) (by decide) ⟨rfl, rfl⟩
theorem own_c2_4 (l : Launch) {Z : State} {a0 : Array Value} (hw : ∀ d ∈ tables_1, d.before a0 Z = true) {n0 : Nat} {h : Heap} {a_INT a_STRING a_BOX a_FLOAT a_DOUBLE a_LONG : Addr} (S : own_St Z h a_INT a_STRING a_BOX a_FLOAT a_DOUBLE a_LONG) :
    own_Met l Z (⟨"com/example/pathwright/pathwright/symbolic/Sort", "reference", "()Z"⟩ : MethodName) prog_40_method_7_code 1 (some .boolean) [] ({ frames := 0, cells := 0, slots := 0, locals := 0 } : Room) n0 #[(.ref a_STRING)] h (own_pure (.int (1 : Int32)) h) := by
  refine own_met (Ls := #[.val (.ref a_STRING)]) (by first | exact plainFor_of_name (by first | (simp [plainName, overriddenIn]; done) | decide +kernel) | decide +kernel) (fun m => rfl) ?_
  intro p e s m below meth c C
  refine own_aloadN C own_d2_0 rfl rfl (pc' := 1) rfl ?_
  refine own_getstatic C (own_w hw 13 rfl) S.2.1.1 own_d2_1 (pc' := 4) rfl ?_
  refine own_acmp C (same := true) own_d2_4 rfl rfl (own_same _) (by decide) (pc' := 14) (by decide) ?_
  refine own_iconst C (v := (1 : Int32)) own_d2_14 (by decide) (pc' := 15) rfl ?_
  refine own_goto C own_d2_15 (by decide) (pc' := 19) (by decide) ?_
  exact own_ireturn C (by simp) rfl own_d2_19 (by decide) (by decide) ⟨rfl, rfl⟩
theorem own_c3_4 (l : Launch) {Z : State} {a0 : Array Value} (hw : ∀ d ∈ tables_1, d.before a0 Z = true) {n0 : Nat} {h : Heap} {a_INT a_STRING a_BOX a_FLOAT a_DOUBLE a_LONG : Addr} (S : own_St Z h a_INT a_STRING a_BOX a_FLOAT a_DOUBLE a_LONG) :
    own_Met l Z (⟨"com/example/pathwright/pathwright/symbolic/Sort", "bits", "()I"⟩ : MethodName) prog_40_method_5_code 1 (some .int) [] ({ frames := 0, cells := 0, slots := 0, locals := 0 } : Room) n0 #[(.ref a_STRING)] h (own_pure (.int (0 : Int32)) h) := by
  refine own_met (Ls := #[.val (.ref a_STRING)]) (by first | exact plainFor_of_name (by first | (simp [plainName, overriddenIn]; done) | decide +kernel) | decide +kernel) (fun m => rfl) ?_
  intro p e s m below meth c C
  refine own_aloadN C own_d3_0 rfl rfl (pc' := 1) rfl ?_
  refine own_getfield C (own_w hw 22 rfl) Via.refl S.2.2.2.2.2.2.2.2.2.2.2 own_d3_1 (pc' := 4) rfl ?_
  exact own_ireturn C (Or.inl rfl) rfl own_d3_4 (by decide) (by decide) ⟨rfl, rfl⟩
theorem own_c4_4 (l : Launch) {Z : State} {a0 : Array Value} (hw : ∀ d ∈ tables_1, d.before a0 Z = true) {n0 : Nat} {h : Heap} {a_INT a_STRING a_BOX a_FLOAT a_DOUBLE a_LONG : Addr} (S : own_St Z h a_INT a_STRING a_BOX a_FLOAT a_DOUBLE a_LONG) :
    own_Met l Z (⟨"com/example/pathwright/pathwright/symbolic/Sort", "integral", "()Z"⟩ : MethodName) prog_40_method_6_code 1 (some .boolean) [] ({ frames := 0, cells := 0, slots := 0, locals := 0 } : Room) n0 #[(.ref a_STRING)] h (own_pure (.int (0 : Int32)) h) := by
  refine own_met (Ls := #[.val (.ref a_STRING)]) (by first | exact plainFor_of_name (by first | (simp [plainName, overriddenIn]; done) | decide +kernel) | decide +kernel) (fun m => rfl) ?_
  intro p e s m below meth c C
  refine own_aloadN C own_d4_0 rfl rfl (pc' := 1) rfl ?_
  refine own_getstatic C (own_w hw 29 rfl) S.1.1 own_d4_1 (pc' := 4) rfl ?_
  refine own_acmp C (same := false) own_d4_4 rfl rfl (own_unlike (own_En.ne S.2.1 S.1 (by decide))) (by decide) (pc' := 7) (by decide) ?_
  refine own_aloadN C own_d4_7 rfl rfl (pc' := 8) rfl ?_
  refine own_getstatic C (own_w hw 40 rfl) S.2.2.2.2.2.1.1 own_d4_8 (pc' := 11) rfl ?_
  refine own_acmp C (same := false) own_d4_11 rfl rfl (own_unlike (own_En.ne S.2.1 S.2.2.2.2.2.1 (by decide))) (by decide) (pc' := 18) (by decide) ?_
  refine own_iconst C (v := (0 : Int32)) own_d4_18 (by decide) (pc' := 19) rfl ?_
  exact own_ireturn C (by simp) rfl own_d4_19 (by decide) (by decide) ⟨rfl, rfl⟩
theorem own_c5_4 (l : Launch) {Z : State} {a0 : Array Value} (hw : ∀ d ∈ tables_1, d.before a0 Z = true) {n0 : Nat} {h : Heap} {a_INT a_STRING a_BOX a_FLOAT a_DOUBLE a_LONG : Addr} (S : own_St Z h a_INT a_STRING a_BOX a_FLOAT a_DOUBLE a_LONG) :
    own_Met l Z (⟨"com/example/pathwright/pathwright/symbolic/Sort", "floating", "()Z"⟩ : MethodName) prog_40_method_8_code 1 (some .boolean) [] ({ frames := 0, cells := 0, slots := 0, locals := 0 } : Room) n0 #[(.ref a_STRING)] h (own_pure (.int (0 : Int32)) h) := by
  refine own_met (Ls := #[.val (.ref a_STRING)]) (by first | exact plainFor_of_name (by first | (simp [plainName, overriddenIn]; done) | decide +kernel) | decide +kernel) (fun m => rfl) ?_
  intro p e s m below meth c C
  refine own_aloadN C own_d5_0 rfl rfl (pc' := 1) rfl ?_
  refine own_getstatic C (own_w hw 35 rfl) S.2.2.2.1.1 own_d5_1 (pc' := 4) rfl ?_
  refine own_acmp C (same := false) own_d5_4 rfl rfl (own_unlike (own_En.ne S.2.1 S.2.2.2.1 (by decide))) (by decide) (pc' := 7) (by decide) ?_
  refine own_aloadN C own_d5_7 rfl rfl (pc' := 8) rfl ?_
  refine own_getstatic C (own_w hw 37 rfl) S.2.2.2.2.1.1 own_d5_8 (pc' := 11) rfl ?_
  refine own_acmp C (same := false) own_d5_11 rfl rfl (own_unlike (own_En.ne S.2.1 S.2.2.2.2.1 (by decide))) (by decide) (pc' := 18) (by decide) ?_
  refine own_iconst C (v := (0 : Int32)) own_d5_18 (by decide) (pc' := 19) rfl ?_
  exact own_ireturn C (by simp) rfl own_d5_19 (by decide) (by decide) ⟨rfl, rfl⟩
theorem own_c1_5 (l : Launch) {Z : State} {a0 : Array Value} (hw : ∀ d ∈ tables_1, d.before a0 Z = true) {n0 : Nat} {h : Heap} {a_INT a_STRING a_BOX a_FLOAT a_DOUBLE a_LONG : Addr} (S : own_St Z h a_INT a_STRING a_BOX a_FLOAT a_DOUBLE a_LONG) :
    own_Met l Z (⟨"com/example/pathwright/pathwright/symbolic/SortReferencePinLaw", "pick", "(I)Lcom/example/pathwright/pathwright/symbolic/Sort;"⟩ : MethodName) method_2_code 1 (some (.object "com/example/pathwright/pathwright/symbolic/Sort")) [] ({ frames := 0, cells := 0, slots := 0, locals := 0 } : Room) n0 #[(.int (5 : Int32))] h (own_pure (.ref a_BOX) h) := by
  refine own_met (Ls := #[.val (.int (5 : Int32))]) (by first | exact plainFor_of_name (by first | (simp [plainName, overriddenIn]; done) | decide +kernel) | decide +kernel) (fun m => rfl) ?_
  intro p e s m below meth c C
  refine own_iloadN C own_d1_0 rfl (pc' := 1) rfl ?_
  refine own_ifY C own_d1_1 (by decide) (by decide) (pc' := 8) (by decide) ?_
  refine own_iloadN C own_d1_8 rfl (pc' := 9) rfl ?_
  refine own_iconst C (v := (1 : Int32)) own_d1_9 (by decide) (pc' := 10) rfl ?_
  refine own_icmpY C own_d1_10 (by decide) (by decide) (pc' := 17) (by decide) ?_
  refine own_iloadN C own_d1_17 rfl (pc' := 18) rfl ?_
  refine own_iconst C (v := (2 : Int32)) own_d1_18 (by decide) (pc' := 19) rfl ?_
  refine own_icmpY C own_d1_19 (by decide) (by decide) (pc' := 26) (by decide) ?_
  refine own_iloadN C own_d1_26 rfl (pc' := 27) rfl ?_
  refine own_iconst C (v := (3 : Int32)) own_d1_27 (by decide) (pc' := 28) rfl ?_
  refine own_icmpY C own_d1_28 (by decide) (by decide) (pc' := 35) (by decide) ?_
  refine own_iloadN C own_d1_35 rfl (pc' := 36) rfl ?_
  refine own_iconst C (v := (4 : Int32)) own_d1_36 (by decide) (pc' := 37) rfl ?_
  refine own_icmpY C own_d1_37 (by decide) (by decide) (pc' := 44) (by decide) ?_
  refine own_getstatic C (own_w hw 44 rfl) S.2.2.1.1 own_d1_44 (pc' := 47) rfl ?_
  exact own_areturn C rfl rfl own_d1_47 (by decide) (by decide) ⟨rfl, rfl⟩
theorem own_c2_5 (l : Launch) {Z : State} {a0 : Array Value} (hw : ∀ d ∈ tables_1, d.before a0 Z = true) {n0 : Nat} {h : Heap} {a_INT a_STRING a_BOX a_FLOAT a_DOUBLE a_LONG : Addr} (S : own_St Z h a_INT a_STRING a_BOX a_FLOAT a_DOUBLE a_LONG) :
    own_Met l Z (⟨"com/example/pathwright/pathwright/symbolic/Sort", "reference", "()Z"⟩ : MethodName) prog_40_method_7_code 1 (some .boolean) [] ({ frames := 0, cells := 0, slots := 0, locals := 0 } : Room) n0 #[(.ref a_BOX)] h (own_pure (.int (1 : Int32)) h) := by
  refine own_met (Ls := #[.val (.ref a_BOX)]) (by first | exact plainFor_of_name (by first | (simp [plainName, overriddenIn]; done) | decide +kernel) | decide +kernel) (fun m => rfl) ?_
  intro p e s m below meth c C
  refine own_aloadN C own_d2_0 rfl rfl (pc' := 1) rfl ?_
  refine own_getstatic C (own_w hw 13 rfl) S.2.1.1 own_d2_1 (pc' := 4) rfl ?_
  refine own_acmp C (same := false) own_d2_4 rfl rfl (own_unlike (own_En.ne S.2.2.1 S.2.1 (by decide))) (by decide) (pc' := 7) (by decide) ?_
  refine own_aloadN C own_d2_7 rfl rfl (pc' := 8) rfl ?_
  refine own_getstatic C (own_w hw 15 rfl) S.2.2.1.1 own_d2_8 (pc' := 11) rfl ?_
  refine own_acmp C (same := true) own_d2_11 rfl rfl (own_same _) (by decide) (pc' := 14) (by decide) ?_
  refine own_iconst C (v := (1 : Int32)) own_d2_14 (by decide) (pc' := 15) rfl ?_
  refine own_goto C own_d2_15 (by decide) (pc' := 19) (by decide) ?_
  exact own_ireturn C (by simp) rfl own_d2_19 (by decide) (by decide) ⟨rfl, rfl⟩
theorem own_c3_5 (l : Launch) {Z : State} {a0 : Array Value} (hw : ∀ d ∈ tables_1, d.before a0 Z = true) {n0 : Nat} {h : Heap} {a_INT a_STRING a_BOX a_FLOAT a_DOUBLE a_LONG : Addr} (S : own_St Z h a_INT a_STRING a_BOX a_FLOAT a_DOUBLE a_LONG) :
    own_Met l Z (⟨"com/example/pathwright/pathwright/symbolic/Sort", "bits", "()I"⟩ : MethodName) prog_40_method_5_code 1 (some .int) [] ({ frames := 0, cells := 0, slots := 0, locals := 0 } : Room) n0 #[(.ref a_BOX)] h (own_pure (.int (0 : Int32)) h) := by
  refine own_met (Ls := #[.val (.ref a_BOX)]) (by first | exact plainFor_of_name (by first | (simp [plainName, overriddenIn]; done) | decide +kernel) | decide +kernel) (fun m => rfl) ?_
  intro p e s m below meth c C
  refine own_aloadN C own_d3_0 rfl rfl (pc' := 1) rfl ?_
  refine own_getfield C (own_w hw 22 rfl) Via.refl S.2.2.2.2.2.2.2.2.2.2.1 own_d3_1 (pc' := 4) rfl ?_
  exact own_ireturn C (Or.inl rfl) rfl own_d3_4 (by decide) (by decide) ⟨rfl, rfl⟩
theorem own_c4_5 (l : Launch) {Z : State} {a0 : Array Value} (hw : ∀ d ∈ tables_1, d.before a0 Z = true) {n0 : Nat} {h : Heap} {a_INT a_STRING a_BOX a_FLOAT a_DOUBLE a_LONG : Addr} (S : own_St Z h a_INT a_STRING a_BOX a_FLOAT a_DOUBLE a_LONG) :
    own_Met l Z (⟨"com/example/pathwright/pathwright/symbolic/Sort", "integral", "()Z"⟩ : MethodName) prog_40_method_6_code 1 (some .boolean) [] ({ frames := 0, cells := 0, slots := 0, locals := 0 } : Room) n0 #[(.ref a_BOX)] h (own_pure (.int (0 : Int32)) h) := by
  refine own_met (Ls := #[.val (.ref a_BOX)]) (by first | exact plainFor_of_name (by first | (simp [plainName, overriddenIn]; done) | decide +kernel) | decide +kernel) (fun m => rfl) ?_
  intro p e s m below meth c C
  refine own_aloadN C own_d4_0 rfl rfl (pc' := 1) rfl ?_
  refine own_getstatic C (own_w hw 29 rfl) S.1.1 own_d4_1 (pc' := 4) rfl ?_
  refine own_acmp C (same := false) own_d4_4 rfl rfl (own_unlike (own_En.ne S.2.2.1 S.1 (by decide))) (by decide) (pc' := 7) (by decide) ?_
  refine own_aloadN C own_d4_7 rfl rfl (pc' := 8) rfl ?_
  refine own_getstatic C (own_w hw 40 rfl) S.2.2.2.2.2.1.1 own_d4_8 (pc' := 11) rfl ?_
  refine own_acmp C (same := false) own_d4_11 rfl rfl (own_unlike (own_En.ne S.2.2.1 S.2.2.2.2.2.1 (by decide))) (by decide) (pc' := 18) (by decide) ?_
  refine own_iconst C (v := (0 : Int32)) own_d4_18 (by decide) (pc' := 19) rfl ?_
  exact own_ireturn C (by simp) rfl own_d4_19 (by decide) (by decide) ⟨rfl, rfl⟩
theorem own_c5_5 (l : Launch) {Z : State} {a0 : Array Value} (hw : ∀ d ∈ tables_1, d.before a0 Z = true) {n0 : Nat} {h : Heap} {a_INT a_STRING a_BOX a_FLOAT a_DOUBLE a_LONG : Addr} (S : own_St Z h a_INT a_STRING a_BOX a_FLOAT a_DOUBLE a_LONG) :
    own_Met l Z (⟨"com/example/pathwright/pathwright/symbolic/Sort", "floating", "()Z"⟩ : MethodName) prog_40_method_8_code 1 (some .boolean) [] ({ frames := 0, cells := 0, slots := 0, locals := 0 } : Room) n0 #[(.ref a_BOX)] h (own_pure (.int (0 : Int32)) h) := by
  refine own_met (Ls := #[.val (.ref a_BOX)]) (by first | exact plainFor_of_name (by first | (simp [plainName, overriddenIn]; done) | decide +kernel) | decide +kernel) (fun m => rfl) ?_
  intro p e s m below meth c C
  refine own_aloadN C own_d5_0 rfl rfl (pc' := 1) rfl ?_
  refine own_getstatic C (own_w hw 35 rfl) S.2.2.2.1.1 own_d5_1 (pc' := 4) rfl ?_
  refine own_acmp C (same := false) own_d5_4 rfl rfl (own_unlike (own_En.ne S.2.2.1 S.2.2.2.1 (by decide))) (by decide) (pc' := 7) (by decide) ?_
  refine own_aloadN C own_d5_7 rfl rfl (pc' := 8) rfl ?_
  refine own_getstatic C (own_w hw 37 rfl) S.2.2.2.2.1.1 own_d5_8 (pc' := 11) rfl ?_
  refine own_acmp C (same := false) own_d5_11 rfl rfl (own_unlike (own_En.ne S.2.2.1 S.2.2.2.2.1 (by decide))) (by decide) (pc' := 18) (by decide) ?_
  refine own_iconst C (v := (0 : Int32)) own_d5_18 (by decide) (pc' := 19) rfl ?_
  exact own_ireturn C (by simp) rfl own_d5_19 (by decide) (by decide) ⟨rfl, rfl⟩
set_option maxHeartbeats 1000000 in
theorem own_law_0 (l : Launch) {Z : State} {a0 : Array Value} (hw : ∀ d ∈ tables_1, d.before a0 Z = true) {n0 : Nat} {h : Heap} {a_INT a_STRING a_BOX a_FLOAT a_DOUBLE a_LONG : Addr} (S : own_St Z h a_INT a_STRING a_BOX a_FLOAT a_DOUBLE a_LONG) (x0 : Int32) (hx0 : ((x0 &&& (2147483647 : Int32)) % (6 : Int32)) = (0 : Int32)) :
    own_Met l Z x code maxLocals ret tables_1 room_1 n0 #[(.int x0)] h (own_pure (.int 1) h) := by
  refine own_met (Ls := #[.val (.int x0), .unset, .unset, .unset, .unset, .unset, .unset]) (by first | exact plainFor_of_name (by first | (simp [x, plainName, overriddenIn]; done) | decide +kernel) | decide +kernel) (fun m => rfl) ?_
  intro p e s m below meth c C
  refine own_iloadN C at_0 rfl (pc' := 1) rfl ?_
  refine own_ldc C (own_w hw 0 rfl) at_1 (pc' := 3) rfl ?_
  refine own_iand C at_3 rfl (pc' := 4) rfl ?_
  refine own_bipush C (v := (6 : Int32)) at_4 (by decide) (pc' := 6) rfl ?_
  refine own_irem C (z := (0 : Int32)) at_6 (by decide) hx0 (pc' := 7) rfl ?_
  refine own_istoreN C (Ls' := #[.val (.int x0), .val (.int (0 : Int32)), .unset, .unset, .unset, .unset, .unset]) at_7 rfl (pc' := 8) rfl ?_
  refine own_iloadN C at_8 rfl (pc' := 9) rfl ?_
  refine own_callSp C (own_c1_0 l hw S) (own_w hw 1 rfl) (own_w hw 2 rfl) (own_w hw 3 rfl) (own_w hw 4 rfl) (by decide) at_9 rfl (argsL := [(.int (0 : Int32))]) (rest := []) rfl (lenOf own_pd0 rfl) (W := 0) (Nat.le_of_eq rfl) (by decide) (by decide) (by decide) (by decide) (by decide) (by decide) (pc' := 12) rfl ?_
  refine own_astoreN C (Ls' := #[.val (.int x0), .val (.int (0 : Int32)), .val (.ref a_INT), .unset, .unset, .unset, .unset]) at_12 rfl rfl (pc' := 13) rfl ?_
  refine own_aloadN C at_13 rfl rfl (pc' := 14) rfl ?_
  refine own_callVp C S.1.2.1 (own_c2_0 l hw S) (own_w hw 8 rfl) (own_w hw 9 rfl) (own_w hw 11 rfl) (own_w hw 10 rfl) (own_w hw 6 rfl) (own_w hw 12 rfl) (by decide) at_14 rfl (argsL := []) (rest := []) rfl (lenOf own_pd1 rfl) (W := 0) (Nat.le_of_eq rfl) (by decide) (by decide) (by decide) (by decide) (by decide) (by decide) (pc' := 17) rfl ?_
  refine own_istoreN C (Ls' := #[.val (.int x0), .val (.int (0 : Int32)), .val (.ref a_INT), .val (.int (0 : Int32)), .unset, .unset, .unset]) at_17 rfl (pc' := 18) rfl ?_
  refine own_iloadN C at_18 rfl (pc' := 19) rfl ?_
  refine own_iconst C (v := (4 : Int32)) at_19 (by decide) (pc' := 20) rfl ?_
  refine own_icmpY C at_20 (by decide) (by decide) (pc' := 27) (by decide) ?_
  refine own_iconst C (v := (0 : Int32)) at_27 (by decide) (pc' := 28) rfl ?_
  refine own_istore C (Ls' := #[.val (.int x0), .val (.int (0 : Int32)), .val (.ref a_INT), .val (.int (0 : Int32)), .val (.int (0 : Int32)), .unset, .unset]) at_28 rfl (pc' := 30) rfl ?_
  refine own_aloadN C at_30 rfl rfl (pc' := 31) rfl ?_
  refine own_callVp C S.1.2.1 (own_c3_0 l hw S) (own_w hw 17 rfl) (own_w hw 18 rfl) (own_w hw 20 rfl) (own_w hw 19 rfl) (own_w hw 6 rfl) (own_w hw 21 rfl) (by decide) at_31 rfl (argsL := []) (rest := []) rfl (lenOf own_pd2 rfl) (W := 0) (Nat.le_of_eq rfl) (by decide) (by decide) (by decide) (by decide) (by decide) (by decide) (pc' := 34) rfl ?_
  refine own_ifY C at_34 (by decide) (by decide) (pc' := 41) (by decide) ?_
  refine own_iconst C (v := (0 : Int32)) at_41 (by decide) (pc' := 42) rfl ?_
  refine own_istore C (Ls' := #[.val (.int x0), .val (.int (0 : Int32)), .val (.ref a_INT), .val (.int (0 : Int32)), .val (.int (0 : Int32)), .val (.int (0 : Int32)), .unset]) at_42 rfl (pc' := 44) rfl ?_
  refine own_iloadN C at_44 rfl (pc' := 45) rfl ?_
  refine own_ifY C at_45 (by decide) (by decide) (pc' := 52) (by decide) ?_
  refine own_iconst C (v := (0 : Int32)) at_52 (by decide) (pc' := 53) rfl ?_
  refine own_aloadN C at_53 rfl rfl (pc' := 54) rfl ?_
  refine own_callVp C S.1.2.1 (own_c4_0 l hw S) (own_w hw 24 rfl) (own_w hw 25 rfl) (own_w hw 27 rfl) (own_w hw 26 rfl) (own_w hw 6 rfl) (own_w hw 28 rfl) (by decide) at_54 rfl (argsL := []) (rest := [(.int (0 : Int32))]) rfl (lenOf own_pd1 rfl) (W := 1) (Nat.le_of_eq rfl) (by decide) (by decide) (by decide) (by decide) (by decide) (by decide) (pc' := 57) rfl ?_
  refine own_ifN C at_57 (by decide) (pc' := 60) rfl ?_
  refine own_iconst C (v := (1 : Int32)) at_60 (by decide) (pc' := 61) rfl ?_
  refine own_goto C at_61 (by decide) (pc' := 65) (by decide) ?_
  refine own_iadd C (z := (1 : Int32)) at_65 (by decide) (pc' := 66) rfl ?_
  refine own_aloadN C at_66 rfl rfl (pc' := 67) rfl ?_
  refine own_callVp C S.1.2.1 (own_c5_0 l hw S) (own_w hw 30 rfl) (own_w hw 31 rfl) (own_w hw 33 rfl) (own_w hw 32 rfl) (own_w hw 6 rfl) (own_w hw 34 rfl) (by decide) at_67 rfl (argsL := []) (rest := [(.int (1 : Int32))]) rfl (lenOf own_pd1 rfl) (W := 1) (Nat.le_of_eq rfl) (by decide) (by decide) (by decide) (by decide) (by decide) (by decide) (pc' := 70) rfl ?_
  refine own_ifY C at_70 (by decide) (by decide) (pc' := 77) (by decide) ?_
  refine own_iconst C (v := (0 : Int32)) at_77 (by decide) (pc' := 78) rfl ?_
  refine own_iadd C (z := (1 : Int32)) at_78 (by decide) (pc' := 79) rfl ?_
  refine own_istore C (Ls' := #[.val (.int x0), .val (.int (0 : Int32)), .val (.ref a_INT), .val (.int (0 : Int32)), .val (.int (0 : Int32)), .val (.int (0 : Int32)), .val (.int (1 : Int32))]) at_79 rfl (pc' := 81) rfl ?_
  refine own_iloadN C at_81 rfl (pc' := 82) rfl ?_
  refine own_iload C at_82 rfl (pc' := 84) rfl ?_
  refine own_icmpN C at_84 (by decide) (pc' := 87) rfl ?_
  refine own_iloadN C at_87 rfl (pc' := 88) rfl ?_
  refine own_iload C at_88 rfl (pc' := 90) rfl ?_
  refine own_icmpN C at_90 (by decide) (pc' := 93) rfl ?_
  refine own_iload C at_93 rfl (pc' := 95) rfl ?_
  refine own_iconst C (v := (1 : Int32)) at_95 (by decide) (pc' := 96) rfl ?_
  refine own_icmpN C at_96 (by decide) (pc' := 99) rfl ?_
  refine own_iconst C (v := (1 : Int32)) at_99 (by decide) (pc' := 100) rfl ?_
  refine own_goto C at_100 (by decide) (pc' := 104) (by decide) ?_
  exact own_ireturn C (by simp) rfl at_104 (by decide) (by decide) ⟨rfl, rfl⟩
set_option maxHeartbeats 1000000 in
theorem own_law_1 (l : Launch) {Z : State} {a0 : Array Value} (hw : ∀ d ∈ tables_1, d.before a0 Z = true) {n0 : Nat} {h : Heap} {a_INT a_STRING a_BOX a_FLOAT a_DOUBLE a_LONG : Addr} (S : own_St Z h a_INT a_STRING a_BOX a_FLOAT a_DOUBLE a_LONG) (x0 : Int32) (hx0 : ((x0 &&& (2147483647 : Int32)) % (6 : Int32)) = (1 : Int32)) :
    own_Met l Z x code maxLocals ret tables_1 room_1 n0 #[(.int x0)] h (own_pure (.int 1) h) := by
  refine own_met (Ls := #[.val (.int x0), .unset, .unset, .unset, .unset, .unset, .unset]) (by first | exact plainFor_of_name (by first | (simp [x, plainName, overriddenIn]; done) | decide +kernel) | decide +kernel) (fun m => rfl) ?_
  intro p e s m below meth c C
  refine own_iloadN C at_0 rfl (pc' := 1) rfl ?_
  refine own_ldc C (own_w hw 0 rfl) at_1 (pc' := 3) rfl ?_
  refine own_iand C at_3 rfl (pc' := 4) rfl ?_
  refine own_bipush C (v := (6 : Int32)) at_4 (by decide) (pc' := 6) rfl ?_
  refine own_irem C (z := (1 : Int32)) at_6 (by decide) hx0 (pc' := 7) rfl ?_
  refine own_istoreN C (Ls' := #[.val (.int x0), .val (.int (1 : Int32)), .unset, .unset, .unset, .unset, .unset]) at_7 rfl (pc' := 8) rfl ?_
  refine own_iloadN C at_8 rfl (pc' := 9) rfl ?_
  refine own_callSp C (own_c1_1 l hw S) (own_w hw 1 rfl) (own_w hw 2 rfl) (own_w hw 3 rfl) (own_w hw 4 rfl) (by decide) at_9 rfl (argsL := [(.int (1 : Int32))]) (rest := []) rfl (lenOf own_pd0 rfl) (W := 0) (Nat.le_of_eq rfl) (by decide) (by decide) (by decide) (by decide) (by decide) (by decide) (pc' := 12) rfl ?_
  refine own_astoreN C (Ls' := #[.val (.int x0), .val (.int (1 : Int32)), .val (.ref a_LONG), .unset, .unset, .unset, .unset]) at_12 rfl rfl (pc' := 13) rfl ?_
  refine own_aloadN C at_13 rfl rfl (pc' := 14) rfl ?_
  refine own_callVp C S.2.2.2.2.2.1.2.1 (own_c2_1 l hw S) (own_w hw 8 rfl) (own_w hw 9 rfl) (own_w hw 11 rfl) (own_w hw 10 rfl) (own_w hw 6 rfl) (own_w hw 12 rfl) (by decide) at_14 rfl (argsL := []) (rest := []) rfl (lenOf own_pd1 rfl) (W := 0) (Nat.le_of_eq rfl) (by decide) (by decide) (by decide) (by decide) (by decide) (by decide) (pc' := 17) rfl ?_
  refine own_istoreN C (Ls' := #[.val (.int x0), .val (.int (1 : Int32)), .val (.ref a_LONG), .val (.int (0 : Int32)), .unset, .unset, .unset]) at_17 rfl (pc' := 18) rfl ?_
  refine own_iloadN C at_18 rfl (pc' := 19) rfl ?_
  refine own_iconst C (v := (4 : Int32)) at_19 (by decide) (pc' := 20) rfl ?_
  refine own_icmpY C at_20 (by decide) (by decide) (pc' := 27) (by decide) ?_
  refine own_iconst C (v := (0 : Int32)) at_27 (by decide) (pc' := 28) rfl ?_
  refine own_istore C (Ls' := #[.val (.int x0), .val (.int (1 : Int32)), .val (.ref a_LONG), .val (.int (0 : Int32)), .val (.int (0 : Int32)), .unset, .unset]) at_28 rfl (pc' := 30) rfl ?_
  refine own_aloadN C at_30 rfl rfl (pc' := 31) rfl ?_
  refine own_callVp C S.2.2.2.2.2.1.2.1 (own_c3_1 l hw S) (own_w hw 17 rfl) (own_w hw 18 rfl) (own_w hw 20 rfl) (own_w hw 19 rfl) (own_w hw 6 rfl) (own_w hw 21 rfl) (by decide) at_31 rfl (argsL := []) (rest := []) rfl (lenOf own_pd2 rfl) (W := 0) (Nat.le_of_eq rfl) (by decide) (by decide) (by decide) (by decide) (by decide) (by decide) (pc' := 34) rfl ?_
  refine own_ifY C at_34 (by decide) (by decide) (pc' := 41) (by decide) ?_
  refine own_iconst C (v := (0 : Int32)) at_41 (by decide) (pc' := 42) rfl ?_
  refine own_istore C (Ls' := #[.val (.int x0), .val (.int (1 : Int32)), .val (.ref a_LONG), .val (.int (0 : Int32)), .val (.int (0 : Int32)), .val (.int (0 : Int32)), .unset]) at_42 rfl (pc' := 44) rfl ?_
  refine own_iloadN C at_44 rfl (pc' := 45) rfl ?_
  refine own_ifY C at_45 (by decide) (by decide) (pc' := 52) (by decide) ?_
  refine own_iconst C (v := (0 : Int32)) at_52 (by decide) (pc' := 53) rfl ?_
  refine own_aloadN C at_53 rfl rfl (pc' := 54) rfl ?_
  refine own_callVp C S.2.2.2.2.2.1.2.1 (own_c4_1 l hw S) (own_w hw 24 rfl) (own_w hw 25 rfl) (own_w hw 27 rfl) (own_w hw 26 rfl) (own_w hw 6 rfl) (own_w hw 28 rfl) (by decide) at_54 rfl (argsL := []) (rest := [(.int (0 : Int32))]) rfl (lenOf own_pd1 rfl) (W := 1) (Nat.le_of_eq rfl) (by decide) (by decide) (by decide) (by decide) (by decide) (by decide) (pc' := 57) rfl ?_
  refine own_ifN C at_57 (by decide) (pc' := 60) rfl ?_
  refine own_iconst C (v := (1 : Int32)) at_60 (by decide) (pc' := 61) rfl ?_
  refine own_goto C at_61 (by decide) (pc' := 65) (by decide) ?_
  refine own_iadd C (z := (1 : Int32)) at_65 (by decide) (pc' := 66) rfl ?_
  refine own_aloadN C at_66 rfl rfl (pc' := 67) rfl ?_
  refine own_callVp C S.2.2.2.2.2.1.2.1 (own_c5_1 l hw S) (own_w hw 30 rfl) (own_w hw 31 rfl) (own_w hw 33 rfl) (own_w hw 32 rfl) (own_w hw 6 rfl) (own_w hw 34 rfl) (by decide) at_67 rfl (argsL := []) (rest := [(.int (1 : Int32))]) rfl (lenOf own_pd1 rfl) (W := 1) (Nat.le_of_eq rfl) (by decide) (by decide) (by decide) (by decide) (by decide) (by decide) (pc' := 70) rfl ?_
  refine own_ifY C at_70 (by decide) (by decide) (pc' := 77) (by decide) ?_
  refine own_iconst C (v := (0 : Int32)) at_77 (by decide) (pc' := 78) rfl ?_
  refine own_iadd C (z := (1 : Int32)) at_78 (by decide) (pc' := 79) rfl ?_
  refine own_istore C (Ls' := #[.val (.int x0), .val (.int (1 : Int32)), .val (.ref a_LONG), .val (.int (0 : Int32)), .val (.int (0 : Int32)), .val (.int (0 : Int32)), .val (.int (1 : Int32))]) at_79 rfl (pc' := 81) rfl ?_
  refine own_iloadN C at_81 rfl (pc' := 82) rfl ?_
  refine own_iload C at_82 rfl (pc' := 84) rfl ?_
  refine own_icmpN C at_84 (by decide) (pc' := 87) rfl ?_
  refine own_iloadN C at_87 rfl (pc' := 88) rfl ?_
  refine own_iload C at_88 rfl (pc' := 90) rfl ?_
  refine own_icmpN C at_90 (by decide) (pc' := 93) rfl ?_
  refine own_iload C at_93 rfl (pc' := 95) rfl ?_
  refine own_iconst C (v := (1 : Int32)) at_95 (by decide) (pc' := 96) rfl ?_
  refine own_icmpN C at_96 (by decide) (pc' := 99) rfl ?_
  refine own_iconst C (v := (1 : Int32)) at_99 (by decide) (pc' := 100) rfl ?_
  refine own_goto C at_100 (by decide) (pc' := 104) (by decide) ?_
  exact own_ireturn C (by simp) rfl at_104 (by decide) (by decide) ⟨rfl, rfl⟩
set_option maxHeartbeats 1000000 in
theorem own_law_2 (l : Launch) {Z : State} {a0 : Array Value} (hw : ∀ d ∈ tables_1, d.before a0 Z = true) {n0 : Nat} {h : Heap} {a_INT a_STRING a_BOX a_FLOAT a_DOUBLE a_LONG : Addr} (S : own_St Z h a_INT a_STRING a_BOX a_FLOAT a_DOUBLE a_LONG) (x0 : Int32) (hx0 : ((x0 &&& (2147483647 : Int32)) % (6 : Int32)) = (2 : Int32)) :
    own_Met l Z x code maxLocals ret tables_1 room_1 n0 #[(.int x0)] h (own_pure (.int 1) h) := by
  refine own_met (Ls := #[.val (.int x0), .unset, .unset, .unset, .unset, .unset, .unset]) (by first | exact plainFor_of_name (by first | (simp [x, plainName, overriddenIn]; done) | decide +kernel) | decide +kernel) (fun m => rfl) ?_
  intro p e s m below meth c C
  refine own_iloadN C at_0 rfl (pc' := 1) rfl ?_
  refine own_ldc C (own_w hw 0 rfl) at_1 (pc' := 3) rfl ?_
  refine own_iand C at_3 rfl (pc' := 4) rfl ?_
  refine own_bipush C (v := (6 : Int32)) at_4 (by decide) (pc' := 6) rfl ?_
  refine own_irem C (z := (2 : Int32)) at_6 (by decide) hx0 (pc' := 7) rfl ?_
  refine own_istoreN C (Ls' := #[.val (.int x0), .val (.int (2 : Int32)), .unset, .unset, .unset, .unset, .unset]) at_7 rfl (pc' := 8) rfl ?_
  refine own_iloadN C at_8 rfl (pc' := 9) rfl ?_
  refine own_callSp C (own_c1_2 l hw S) (own_w hw 1 rfl) (own_w hw 2 rfl) (own_w hw 3 rfl) (own_w hw 4 rfl) (by decide) at_9 rfl (argsL := [(.int (2 : Int32))]) (rest := []) rfl (lenOf own_pd0 rfl) (W := 0) (Nat.le_of_eq rfl) (by decide) (by decide) (by decide) (by decide) (by decide) (by decide) (pc' := 12) rfl ?_
  refine own_astoreN C (Ls' := #[.val (.int x0), .val (.int (2 : Int32)), .val (.ref a_FLOAT), .unset, .unset, .unset, .unset]) at_12 rfl rfl (pc' := 13) rfl ?_
  refine own_aloadN C at_13 rfl rfl (pc' := 14) rfl ?_
  refine own_callVp C S.2.2.2.1.2.1 (own_c2_2 l hw S) (own_w hw 8 rfl) (own_w hw 9 rfl) (own_w hw 11 rfl) (own_w hw 10 rfl) (own_w hw 6 rfl) (own_w hw 12 rfl) (by decide) at_14 rfl (argsL := []) (rest := []) rfl (lenOf own_pd1 rfl) (W := 0) (Nat.le_of_eq rfl) (by decide) (by decide) (by decide) (by decide) (by decide) (by decide) (pc' := 17) rfl ?_
  refine own_istoreN C (Ls' := #[.val (.int x0), .val (.int (2 : Int32)), .val (.ref a_FLOAT), .val (.int (0 : Int32)), .unset, .unset, .unset]) at_17 rfl (pc' := 18) rfl ?_
  refine own_iloadN C at_18 rfl (pc' := 19) rfl ?_
  refine own_iconst C (v := (4 : Int32)) at_19 (by decide) (pc' := 20) rfl ?_
  refine own_icmpY C at_20 (by decide) (by decide) (pc' := 27) (by decide) ?_
  refine own_iconst C (v := (0 : Int32)) at_27 (by decide) (pc' := 28) rfl ?_
  refine own_istore C (Ls' := #[.val (.int x0), .val (.int (2 : Int32)), .val (.ref a_FLOAT), .val (.int (0 : Int32)), .val (.int (0 : Int32)), .unset, .unset]) at_28 rfl (pc' := 30) rfl ?_
  refine own_aloadN C at_30 rfl rfl (pc' := 31) rfl ?_
  refine own_callVp C S.2.2.2.1.2.1 (own_c3_2 l hw S) (own_w hw 17 rfl) (own_w hw 18 rfl) (own_w hw 20 rfl) (own_w hw 19 rfl) (own_w hw 6 rfl) (own_w hw 21 rfl) (by decide) at_31 rfl (argsL := []) (rest := []) rfl (lenOf own_pd2 rfl) (W := 0) (Nat.le_of_eq rfl) (by decide) (by decide) (by decide) (by decide) (by decide) (by decide) (pc' := 34) rfl ?_
  refine own_ifY C at_34 (by decide) (by decide) (pc' := 41) (by decide) ?_
  refine own_iconst C (v := (0 : Int32)) at_41 (by decide) (pc' := 42) rfl ?_
  refine own_istore C (Ls' := #[.val (.int x0), .val (.int (2 : Int32)), .val (.ref a_FLOAT), .val (.int (0 : Int32)), .val (.int (0 : Int32)), .val (.int (0 : Int32)), .unset]) at_42 rfl (pc' := 44) rfl ?_
  refine own_iloadN C at_44 rfl (pc' := 45) rfl ?_
  refine own_ifY C at_45 (by decide) (by decide) (pc' := 52) (by decide) ?_
  refine own_iconst C (v := (0 : Int32)) at_52 (by decide) (pc' := 53) rfl ?_
  refine own_aloadN C at_53 rfl rfl (pc' := 54) rfl ?_
  refine own_callVp C S.2.2.2.1.2.1 (own_c4_2 l hw S) (own_w hw 24 rfl) (own_w hw 25 rfl) (own_w hw 27 rfl) (own_w hw 26 rfl) (own_w hw 6 rfl) (own_w hw 28 rfl) (by decide) at_54 rfl (argsL := []) (rest := [(.int (0 : Int32))]) rfl (lenOf own_pd1 rfl) (W := 1) (Nat.le_of_eq rfl) (by decide) (by decide) (by decide) (by decide) (by decide) (by decide) (pc' := 57) rfl ?_
  refine own_ifY C at_57 (by decide) (by decide) (pc' := 64) (by decide) ?_
  refine own_iconst C (v := (0 : Int32)) at_64 (by decide) (pc' := 65) rfl ?_
  refine own_iadd C (z := (0 : Int32)) at_65 (by decide) (pc' := 66) rfl ?_
  refine own_aloadN C at_66 rfl rfl (pc' := 67) rfl ?_
  refine own_callVp C S.2.2.2.1.2.1 (own_c5_2 l hw S) (own_w hw 30 rfl) (own_w hw 31 rfl) (own_w hw 33 rfl) (own_w hw 32 rfl) (own_w hw 6 rfl) (own_w hw 34 rfl) (by decide) at_67 rfl (argsL := []) (rest := [(.int (0 : Int32))]) rfl (lenOf own_pd1 rfl) (W := 1) (Nat.le_of_eq rfl) (by decide) (by decide) (by decide) (by decide) (by decide) (by decide) (pc' := 70) rfl ?_
  refine own_ifN C at_70 (by decide) (pc' := 73) rfl ?_
  refine own_iconst C (v := (1 : Int32)) at_73 (by decide) (pc' := 74) rfl ?_
  refine own_goto C at_74 (by decide) (pc' := 78) (by decide) ?_
  refine own_iadd C (z := (1 : Int32)) at_78 (by decide) (pc' := 79) rfl ?_
  refine own_istore C (Ls' := #[.val (.int x0), .val (.int (2 : Int32)), .val (.ref a_FLOAT), .val (.int (0 : Int32)), .val (.int (0 : Int32)), .val (.int (0 : Int32)), .val (.int (1 : Int32))]) at_79 rfl (pc' := 81) rfl ?_
  refine own_iloadN C at_81 rfl (pc' := 82) rfl ?_
  refine own_iload C at_82 rfl (pc' := 84) rfl ?_
  refine own_icmpN C at_84 (by decide) (pc' := 87) rfl ?_
  refine own_iloadN C at_87 rfl (pc' := 88) rfl ?_
  refine own_iload C at_88 rfl (pc' := 90) rfl ?_
  refine own_icmpN C at_90 (by decide) (pc' := 93) rfl ?_
  refine own_iload C at_93 rfl (pc' := 95) rfl ?_
  refine own_iconst C (v := (1 : Int32)) at_95 (by decide) (pc' := 96) rfl ?_
  refine own_icmpN C at_96 (by decide) (pc' := 99) rfl ?_
  refine own_iconst C (v := (1 : Int32)) at_99 (by decide) (pc' := 100) rfl ?_
  refine own_goto C at_100 (by decide) (pc' := 104) (by decide) ?_
  exact own_ireturn C (by simp) rfl at_104 (by decide) (by decide) ⟨rfl, rfl⟩
set_option maxHeartbeats 1000000 in
theorem own_law_3 (l : Launch) {Z : State} {a0 : Array Value} (hw : ∀ d ∈ tables_1, d.before a0 Z = true) {n0 : Nat} {h : Heap} {a_INT a_STRING a_BOX a_FLOAT a_DOUBLE a_LONG : Addr} (S : own_St Z h a_INT a_STRING a_BOX a_FLOAT a_DOUBLE a_LONG) (x0 : Int32) (hx0 : ((x0 &&& (2147483647 : Int32)) % (6 : Int32)) = (3 : Int32)) :
    own_Met l Z x code maxLocals ret tables_1 room_1 n0 #[(.int x0)] h (own_pure (.int 1) h) := by
  refine own_met (Ls := #[.val (.int x0), .unset, .unset, .unset, .unset, .unset, .unset]) (by first | exact plainFor_of_name (by first | (simp [x, plainName, overriddenIn]; done) | decide +kernel) | decide +kernel) (fun m => rfl) ?_
  intro p e s m below meth c C
  refine own_iloadN C at_0 rfl (pc' := 1) rfl ?_
  refine own_ldc C (own_w hw 0 rfl) at_1 (pc' := 3) rfl ?_
  refine own_iand C at_3 rfl (pc' := 4) rfl ?_
  refine own_bipush C (v := (6 : Int32)) at_4 (by decide) (pc' := 6) rfl ?_
  refine own_irem C (z := (3 : Int32)) at_6 (by decide) hx0 (pc' := 7) rfl ?_
  refine own_istoreN C (Ls' := #[.val (.int x0), .val (.int (3 : Int32)), .unset, .unset, .unset, .unset, .unset]) at_7 rfl (pc' := 8) rfl ?_
  refine own_iloadN C at_8 rfl (pc' := 9) rfl ?_
  refine own_callSp C (own_c1_3 l hw S) (own_w hw 1 rfl) (own_w hw 2 rfl) (own_w hw 3 rfl) (own_w hw 4 rfl) (by decide) at_9 rfl (argsL := [(.int (3 : Int32))]) (rest := []) rfl (lenOf own_pd0 rfl) (W := 0) (Nat.le_of_eq rfl) (by decide) (by decide) (by decide) (by decide) (by decide) (by decide) (pc' := 12) rfl ?_
  refine own_astoreN C (Ls' := #[.val (.int x0), .val (.int (3 : Int32)), .val (.ref a_DOUBLE), .unset, .unset, .unset, .unset]) at_12 rfl rfl (pc' := 13) rfl ?_
  refine own_aloadN C at_13 rfl rfl (pc' := 14) rfl ?_
  refine own_callVp C S.2.2.2.2.1.2.1 (own_c2_3 l hw S) (own_w hw 8 rfl) (own_w hw 9 rfl) (own_w hw 11 rfl) (own_w hw 10 rfl) (own_w hw 6 rfl) (own_w hw 12 rfl) (by decide) at_14 rfl (argsL := []) (rest := []) rfl (lenOf own_pd1 rfl) (W := 0) (Nat.le_of_eq rfl) (by decide) (by decide) (by decide) (by decide) (by decide) (by decide) (pc' := 17) rfl ?_
  refine own_istoreN C (Ls' := #[.val (.int x0), .val (.int (3 : Int32)), .val (.ref a_DOUBLE), .val (.int (0 : Int32)), .unset, .unset, .unset]) at_17 rfl (pc' := 18) rfl ?_
  refine own_iloadN C at_18 rfl (pc' := 19) rfl ?_
  refine own_iconst C (v := (4 : Int32)) at_19 (by decide) (pc' := 20) rfl ?_
  refine own_icmpY C at_20 (by decide) (by decide) (pc' := 27) (by decide) ?_
  refine own_iconst C (v := (0 : Int32)) at_27 (by decide) (pc' := 28) rfl ?_
  refine own_istore C (Ls' := #[.val (.int x0), .val (.int (3 : Int32)), .val (.ref a_DOUBLE), .val (.int (0 : Int32)), .val (.int (0 : Int32)), .unset, .unset]) at_28 rfl (pc' := 30) rfl ?_
  refine own_aloadN C at_30 rfl rfl (pc' := 31) rfl ?_
  refine own_callVp C S.2.2.2.2.1.2.1 (own_c3_3 l hw S) (own_w hw 17 rfl) (own_w hw 18 rfl) (own_w hw 20 rfl) (own_w hw 19 rfl) (own_w hw 6 rfl) (own_w hw 21 rfl) (by decide) at_31 rfl (argsL := []) (rest := []) rfl (lenOf own_pd2 rfl) (W := 0) (Nat.le_of_eq rfl) (by decide) (by decide) (by decide) (by decide) (by decide) (by decide) (pc' := 34) rfl ?_
  refine own_ifY C at_34 (by decide) (by decide) (pc' := 41) (by decide) ?_
  refine own_iconst C (v := (0 : Int32)) at_41 (by decide) (pc' := 42) rfl ?_
  refine own_istore C (Ls' := #[.val (.int x0), .val (.int (3 : Int32)), .val (.ref a_DOUBLE), .val (.int (0 : Int32)), .val (.int (0 : Int32)), .val (.int (0 : Int32)), .unset]) at_42 rfl (pc' := 44) rfl ?_
  refine own_iloadN C at_44 rfl (pc' := 45) rfl ?_
  refine own_ifY C at_45 (by decide) (by decide) (pc' := 52) (by decide) ?_
  refine own_iconst C (v := (0 : Int32)) at_52 (by decide) (pc' := 53) rfl ?_
  refine own_aloadN C at_53 rfl rfl (pc' := 54) rfl ?_
  refine own_callVp C S.2.2.2.2.1.2.1 (own_c4_3 l hw S) (own_w hw 24 rfl) (own_w hw 25 rfl) (own_w hw 27 rfl) (own_w hw 26 rfl) (own_w hw 6 rfl) (own_w hw 28 rfl) (by decide) at_54 rfl (argsL := []) (rest := [(.int (0 : Int32))]) rfl (lenOf own_pd1 rfl) (W := 1) (Nat.le_of_eq rfl) (by decide) (by decide) (by decide) (by decide) (by decide) (by decide) (pc' := 57) rfl ?_
  refine own_ifY C at_57 (by decide) (by decide) (pc' := 64) (by decide) ?_
  refine own_iconst C (v := (0 : Int32)) at_64 (by decide) (pc' := 65) rfl ?_
  refine own_iadd C (z := (0 : Int32)) at_65 (by decide) (pc' := 66) rfl ?_
  refine own_aloadN C at_66 rfl rfl (pc' := 67) rfl ?_
  refine own_callVp C S.2.2.2.2.1.2.1 (own_c5_3 l hw S) (own_w hw 30 rfl) (own_w hw 31 rfl) (own_w hw 33 rfl) (own_w hw 32 rfl) (own_w hw 6 rfl) (own_w hw 34 rfl) (by decide) at_67 rfl (argsL := []) (rest := [(.int (0 : Int32))]) rfl (lenOf own_pd1 rfl) (W := 1) (Nat.le_of_eq rfl) (by decide) (by decide) (by decide) (by decide) (by decide) (by decide) (pc' := 70) rfl ?_
  refine own_ifN C at_70 (by decide) (pc' := 73) rfl ?_
  refine own_iconst C (v := (1 : Int32)) at_73 (by decide) (pc' := 74) rfl ?_
  refine own_goto C at_74 (by decide) (pc' := 78) (by decide) ?_
  refine own_iadd C (z := (1 : Int32)) at_78 (by decide) (pc' := 79) rfl ?_
  refine own_istore C (Ls' := #[.val (.int x0), .val (.int (3 : Int32)), .val (.ref a_DOUBLE), .val (.int (0 : Int32)), .val (.int (0 : Int32)), .val (.int (0 : Int32)), .val (.int (1 : Int32))]) at_79 rfl (pc' := 81) rfl ?_
  refine own_iloadN C at_81 rfl (pc' := 82) rfl ?_
  refine own_iload C at_82 rfl (pc' := 84) rfl ?_
  refine own_icmpN C at_84 (by decide) (pc' := 87) rfl ?_
  refine own_iloadN C at_87 rfl (pc' := 88) rfl ?_
  refine own_iload C at_88 rfl (pc' := 90) rfl ?_
  refine own_icmpN C at_90 (by decide) (pc' := 93) rfl ?_
  refine own_iload C at_93 rfl (pc' := 95) rfl ?_
  refine own_iconst C (v := (1 : Int32)) at_95 (by decide) (pc' := 96) rfl ?_
  refine own_icmpN C at_96 (by decide) (pc' := 99) rfl ?_
  refine own_iconst C (v := (1 : Int32)) at_99 (by decide) (pc' := 100) rfl ?_
  refine own_goto C at_100 (by decide) (pc' := 104) (by decide) ?_
  exact own_ireturn C (by simp) rfl at_104 (by decide) (by decide) ⟨rfl, rfl⟩
set_option maxHeartbeats 1000000 in
theorem own_law_4 (l : Launch) {Z : State} {a0 : Array Value} (hw : ∀ d ∈ tables_1, d.before a0 Z = true) {n0 : Nat} {h : Heap} {a_INT a_STRING a_BOX a_FLOAT a_DOUBLE a_LONG : Addr} (S : own_St Z h a_INT a_STRING a_BOX a_FLOAT a_DOUBLE a_LONG) (x0 : Int32) (hx0 : ((x0 &&& (2147483647 : Int32)) % (6 : Int32)) = (4 : Int32)) :
    own_Met l Z x code maxLocals ret tables_1 room_1 n0 #[(.int x0)] h (own_pure (.int 1) h) := by
  refine own_met (Ls := #[.val (.int x0), .unset, .unset, .unset, .unset, .unset, .unset]) (by first | exact plainFor_of_name (by first | (simp [x, plainName, overriddenIn]; done) | decide +kernel) | decide +kernel) (fun m => rfl) ?_
  intro p e s m below meth c C
  refine own_iloadN C at_0 rfl (pc' := 1) rfl ?_
  refine own_ldc C (own_w hw 0 rfl) at_1 (pc' := 3) rfl ?_
  refine own_iand C at_3 rfl (pc' := 4) rfl ?_
  refine own_bipush C (v := (6 : Int32)) at_4 (by decide) (pc' := 6) rfl ?_
  refine own_irem C (z := (4 : Int32)) at_6 (by decide) hx0 (pc' := 7) rfl ?_
  refine own_istoreN C (Ls' := #[.val (.int x0), .val (.int (4 : Int32)), .unset, .unset, .unset, .unset, .unset]) at_7 rfl (pc' := 8) rfl ?_
  refine own_iloadN C at_8 rfl (pc' := 9) rfl ?_
  refine own_callSp C (own_c1_4 l hw S) (own_w hw 1 rfl) (own_w hw 2 rfl) (own_w hw 3 rfl) (own_w hw 4 rfl) (by decide) at_9 rfl (argsL := [(.int (4 : Int32))]) (rest := []) rfl (lenOf own_pd0 rfl) (W := 0) (Nat.le_of_eq rfl) (by decide) (by decide) (by decide) (by decide) (by decide) (by decide) (pc' := 12) rfl ?_
  refine own_astoreN C (Ls' := #[.val (.int x0), .val (.int (4 : Int32)), .val (.ref a_STRING), .unset, .unset, .unset, .unset]) at_12 rfl rfl (pc' := 13) rfl ?_
  refine own_aloadN C at_13 rfl rfl (pc' := 14) rfl ?_
  refine own_callVp C S.2.1.2.1 (own_c2_4 l hw S) (own_w hw 8 rfl) (own_w hw 9 rfl) (own_w hw 11 rfl) (own_w hw 10 rfl) (own_w hw 6 rfl) (own_w hw 12 rfl) (by decide) at_14 rfl (argsL := []) (rest := []) rfl (lenOf own_pd1 rfl) (W := 0) (Nat.le_of_eq rfl) (by decide) (by decide) (by decide) (by decide) (by decide) (by decide) (pc' := 17) rfl ?_
  refine own_istoreN C (Ls' := #[.val (.int x0), .val (.int (4 : Int32)), .val (.ref a_STRING), .val (.int (1 : Int32)), .unset, .unset, .unset]) at_17 rfl (pc' := 18) rfl ?_
  refine own_iloadN C at_18 rfl (pc' := 19) rfl ?_
  refine own_iconst C (v := (4 : Int32)) at_19 (by decide) (pc' := 20) rfl ?_
  refine own_icmpN C at_20 (by decide) (pc' := 23) rfl ?_
  refine own_iconst C (v := (1 : Int32)) at_23 (by decide) (pc' := 24) rfl ?_
  refine own_goto C at_24 (by decide) (pc' := 28) (by decide) ?_
  refine own_istore C (Ls' := #[.val (.int x0), .val (.int (4 : Int32)), .val (.ref a_STRING), .val (.int (1 : Int32)), .val (.int (1 : Int32)), .unset, .unset]) at_28 rfl (pc' := 30) rfl ?_
  refine own_aloadN C at_30 rfl rfl (pc' := 31) rfl ?_
  refine own_callVp C S.2.1.2.1 (own_c3_4 l hw S) (own_w hw 17 rfl) (own_w hw 18 rfl) (own_w hw 20 rfl) (own_w hw 19 rfl) (own_w hw 6 rfl) (own_w hw 21 rfl) (by decide) at_31 rfl (argsL := []) (rest := []) rfl (lenOf own_pd2 rfl) (W := 0) (Nat.le_of_eq rfl) (by decide) (by decide) (by decide) (by decide) (by decide) (by decide) (pc' := 34) rfl ?_
  refine own_ifN C at_34 (by decide) (pc' := 37) rfl ?_
  refine own_iconst C (v := (1 : Int32)) at_37 (by decide) (pc' := 38) rfl ?_
  refine own_goto C at_38 (by decide) (pc' := 42) (by decide) ?_
  refine own_istore C (Ls' := #[.val (.int x0), .val (.int (4 : Int32)), .val (.ref a_STRING), .val (.int (1 : Int32)), .val (.int (1 : Int32)), .val (.int (1 : Int32)), .unset]) at_42 rfl (pc' := 44) rfl ?_
  refine own_iloadN C at_44 rfl (pc' := 45) rfl ?_
  refine own_ifN C at_45 (by decide) (pc' := 48) rfl ?_
  refine own_iconst C (v := (1 : Int32)) at_48 (by decide) (pc' := 49) rfl ?_
  refine own_goto C at_49 (by decide) (pc' := 53) (by decide) ?_
  refine own_aloadN C at_53 rfl rfl (pc' := 54) rfl ?_
  refine own_callVp C S.2.1.2.1 (own_c4_4 l hw S) (own_w hw 24 rfl) (own_w hw 25 rfl) (own_w hw 27 rfl) (own_w hw 26 rfl) (own_w hw 6 rfl) (own_w hw 28 rfl) (by decide) at_54 rfl (argsL := []) (rest := [(.int (1 : Int32))]) rfl (lenOf own_pd1 rfl) (W := 1) (Nat.le_of_eq rfl) (by decide) (by decide) (by decide) (by decide) (by decide) (by decide) (pc' := 57) rfl ?_
  refine own_ifY C at_57 (by decide) (by decide) (pc' := 64) (by decide) ?_
  refine own_iconst C (v := (0 : Int32)) at_64 (by decide) (pc' := 65) rfl ?_
  refine own_iadd C (z := (1 : Int32)) at_65 (by decide) (pc' := 66) rfl ?_
  refine own_aloadN C at_66 rfl rfl (pc' := 67) rfl ?_
  refine own_callVp C S.2.1.2.1 (own_c5_4 l hw S) (own_w hw 30 rfl) (own_w hw 31 rfl) (own_w hw 33 rfl) (own_w hw 32 rfl) (own_w hw 6 rfl) (own_w hw 34 rfl) (by decide) at_67 rfl (argsL := []) (rest := [(.int (1 : Int32))]) rfl (lenOf own_pd1 rfl) (W := 1) (Nat.le_of_eq rfl) (by decide) (by decide) (by decide) (by decide) (by decide) (by decide) (pc' := 70) rfl ?_
  refine own_ifY C at_70 (by decide) (by decide) (pc' := 77) (by decide) ?_
  refine own_iconst C (v := (0 : Int32)) at_77 (by decide) (pc' := 78) rfl ?_
  refine own_iadd C (z := (1 : Int32)) at_78 (by decide) (pc' := 79) rfl ?_
  refine own_istore C (Ls' := #[.val (.int x0), .val (.int (4 : Int32)), .val (.ref a_STRING), .val (.int (1 : Int32)), .val (.int (1 : Int32)), .val (.int (1 : Int32)), .val (.int (1 : Int32))]) at_79 rfl (pc' := 81) rfl ?_
  refine own_iloadN C at_81 rfl (pc' := 82) rfl ?_
  refine own_iload C at_82 rfl (pc' := 84) rfl ?_
  refine own_icmpN C at_84 (by decide) (pc' := 87) rfl ?_
  refine own_iloadN C at_87 rfl (pc' := 88) rfl ?_
  refine own_iload C at_88 rfl (pc' := 90) rfl ?_
  refine own_icmpN C at_90 (by decide) (pc' := 93) rfl ?_
  refine own_iload C at_93 rfl (pc' := 95) rfl ?_
  refine own_iconst C (v := (1 : Int32)) at_95 (by decide) (pc' := 96) rfl ?_
  refine own_icmpN C at_96 (by decide) (pc' := 99) rfl ?_
  refine own_iconst C (v := (1 : Int32)) at_99 (by decide) (pc' := 100) rfl ?_
  refine own_goto C at_100 (by decide) (pc' := 104) (by decide) ?_
  exact own_ireturn C (by simp) rfl at_104 (by decide) (by decide) ⟨rfl, rfl⟩
set_option maxHeartbeats 1000000 in
theorem own_law_5 (l : Launch) {Z : State} {a0 : Array Value} (hw : ∀ d ∈ tables_1, d.before a0 Z = true) {n0 : Nat} {h : Heap} {a_INT a_STRING a_BOX a_FLOAT a_DOUBLE a_LONG : Addr} (S : own_St Z h a_INT a_STRING a_BOX a_FLOAT a_DOUBLE a_LONG) (x0 : Int32) (hx0 : ((x0 &&& (2147483647 : Int32)) % (6 : Int32)) = (5 : Int32)) :
    own_Met l Z x code maxLocals ret tables_1 room_1 n0 #[(.int x0)] h (own_pure (.int 1) h) := by
  refine own_met (Ls := #[.val (.int x0), .unset, .unset, .unset, .unset, .unset, .unset]) (by first | exact plainFor_of_name (by first | (simp [x, plainName, overriddenIn]; done) | decide +kernel) | decide +kernel) (fun m => rfl) ?_
  intro p e s m below meth c C
  refine own_iloadN C at_0 rfl (pc' := 1) rfl ?_
  refine own_ldc C (own_w hw 0 rfl) at_1 (pc' := 3) rfl ?_
  refine own_iand C at_3 rfl (pc' := 4) rfl ?_
  refine own_bipush C (v := (6 : Int32)) at_4 (by decide) (pc' := 6) rfl ?_
  refine own_irem C (z := (5 : Int32)) at_6 (by decide) hx0 (pc' := 7) rfl ?_
  refine own_istoreN C (Ls' := #[.val (.int x0), .val (.int (5 : Int32)), .unset, .unset, .unset, .unset, .unset]) at_7 rfl (pc' := 8) rfl ?_
  refine own_iloadN C at_8 rfl (pc' := 9) rfl ?_
  refine own_callSp C (own_c1_5 l hw S) (own_w hw 1 rfl) (own_w hw 2 rfl) (own_w hw 3 rfl) (own_w hw 4 rfl) (by decide) at_9 rfl (argsL := [(.int (5 : Int32))]) (rest := []) rfl (lenOf own_pd0 rfl) (W := 0) (Nat.le_of_eq rfl) (by decide) (by decide) (by decide) (by decide) (by decide) (by decide) (pc' := 12) rfl ?_
  refine own_astoreN C (Ls' := #[.val (.int x0), .val (.int (5 : Int32)), .val (.ref a_BOX), .unset, .unset, .unset, .unset]) at_12 rfl rfl (pc' := 13) rfl ?_
  refine own_aloadN C at_13 rfl rfl (pc' := 14) rfl ?_
  refine own_callVp C S.2.2.1.2.1 (own_c2_5 l hw S) (own_w hw 8 rfl) (own_w hw 9 rfl) (own_w hw 11 rfl) (own_w hw 10 rfl) (own_w hw 6 rfl) (own_w hw 12 rfl) (by decide) at_14 rfl (argsL := []) (rest := []) rfl (lenOf own_pd1 rfl) (W := 0) (Nat.le_of_eq rfl) (by decide) (by decide) (by decide) (by decide) (by decide) (by decide) (pc' := 17) rfl ?_
  refine own_istoreN C (Ls' := #[.val (.int x0), .val (.int (5 : Int32)), .val (.ref a_BOX), .val (.int (1 : Int32)), .unset, .unset, .unset]) at_17 rfl (pc' := 18) rfl ?_
  refine own_iloadN C at_18 rfl (pc' := 19) rfl ?_
  refine own_iconst C (v := (4 : Int32)) at_19 (by decide) (pc' := 20) rfl ?_
  refine own_icmpN C at_20 (by decide) (pc' := 23) rfl ?_
  refine own_iconst C (v := (1 : Int32)) at_23 (by decide) (pc' := 24) rfl ?_
  refine own_goto C at_24 (by decide) (pc' := 28) (by decide) ?_
  refine own_istore C (Ls' := #[.val (.int x0), .val (.int (5 : Int32)), .val (.ref a_BOX), .val (.int (1 : Int32)), .val (.int (1 : Int32)), .unset, .unset]) at_28 rfl (pc' := 30) rfl ?_
  refine own_aloadN C at_30 rfl rfl (pc' := 31) rfl ?_
  refine own_callVp C S.2.2.1.2.1 (own_c3_5 l hw S) (own_w hw 17 rfl) (own_w hw 18 rfl) (own_w hw 20 rfl) (own_w hw 19 rfl) (own_w hw 6 rfl) (own_w hw 21 rfl) (by decide) at_31 rfl (argsL := []) (rest := []) rfl (lenOf own_pd2 rfl) (W := 0) (Nat.le_of_eq rfl) (by decide) (by decide) (by decide) (by decide) (by decide) (by decide) (pc' := 34) rfl ?_
  refine own_ifN C at_34 (by decide) (pc' := 37) rfl ?_
  refine own_iconst C (v := (1 : Int32)) at_37 (by decide) (pc' := 38) rfl ?_
  refine own_goto C at_38 (by decide) (pc' := 42) (by decide) ?_
  refine own_istore C (Ls' := #[.val (.int x0), .val (.int (5 : Int32)), .val (.ref a_BOX), .val (.int (1 : Int32)), .val (.int (1 : Int32)), .val (.int (1 : Int32)), .unset]) at_42 rfl (pc' := 44) rfl ?_
  refine own_iloadN C at_44 rfl (pc' := 45) rfl ?_
  refine own_ifN C at_45 (by decide) (pc' := 48) rfl ?_
  refine own_iconst C (v := (1 : Int32)) at_48 (by decide) (pc' := 49) rfl ?_
  refine own_goto C at_49 (by decide) (pc' := 53) (by decide) ?_
  refine own_aloadN C at_53 rfl rfl (pc' := 54) rfl ?_
  refine own_callVp C S.2.2.1.2.1 (own_c4_5 l hw S) (own_w hw 24 rfl) (own_w hw 25 rfl) (own_w hw 27 rfl) (own_w hw 26 rfl) (own_w hw 6 rfl) (own_w hw 28 rfl) (by decide) at_54 rfl (argsL := []) (rest := [(.int (1 : Int32))]) rfl (lenOf own_pd1 rfl) (W := 1) (Nat.le_of_eq rfl) (by decide) (by decide) (by decide) (by decide) (by decide) (by decide) (pc' := 57) rfl ?_
  refine own_ifY C at_57 (by decide) (by decide) (pc' := 64) (by decide) ?_
  refine own_iconst C (v := (0 : Int32)) at_64 (by decide) (pc' := 65) rfl ?_
  refine own_iadd C (z := (1 : Int32)) at_65 (by decide) (pc' := 66) rfl ?_
  refine own_aloadN C at_66 rfl rfl (pc' := 67) rfl ?_
  refine own_callVp C S.2.2.1.2.1 (own_c5_5 l hw S) (own_w hw 30 rfl) (own_w hw 31 rfl) (own_w hw 33 rfl) (own_w hw 32 rfl) (own_w hw 6 rfl) (own_w hw 34 rfl) (by decide) at_67 rfl (argsL := []) (rest := [(.int (1 : Int32))]) rfl (lenOf own_pd1 rfl) (W := 1) (Nat.le_of_eq rfl) (by decide) (by decide) (by decide) (by decide) (by decide) (by decide) (pc' := 70) rfl ?_
  refine own_ifY C at_70 (by decide) (by decide) (pc' := 77) (by decide) ?_
  refine own_iconst C (v := (0 : Int32)) at_77 (by decide) (pc' := 78) rfl ?_
  refine own_iadd C (z := (1 : Int32)) at_78 (by decide) (pc' := 79) rfl ?_
  refine own_istore C (Ls' := #[.val (.int x0), .val (.int (5 : Int32)), .val (.ref a_BOX), .val (.int (1 : Int32)), .val (.int (1 : Int32)), .val (.int (1 : Int32)), .val (.int (1 : Int32))]) at_79 rfl (pc' := 81) rfl ?_
  refine own_iloadN C at_81 rfl (pc' := 82) rfl ?_
  refine own_iload C at_82 rfl (pc' := 84) rfl ?_
  refine own_icmpN C at_84 (by decide) (pc' := 87) rfl ?_
  refine own_iloadN C at_87 rfl (pc' := 88) rfl ?_
  refine own_iload C at_88 rfl (pc' := 90) rfl ?_
  refine own_icmpN C at_90 (by decide) (pc' := 93) rfl ?_
  refine own_iload C at_93 rfl (pc' := 95) rfl ?_
  refine own_iconst C (v := (1 : Int32)) at_95 (by decide) (pc' := 96) rfl ?_
  refine own_icmpN C at_96 (by decide) (pc' := 99) rfl ?_
  refine own_iconst C (v := (1 : Int32)) at_99 (by decide) (pc' := 100) rfl ?_
  refine own_goto C at_100 (by decide) (pc' := 104) (by decide) ?_
  exact own_ireturn C (by simp) rfl at_104 (by decide) (by decide) ⟨rfl, rfl⟩
theorem own_law (l : Launch) {Z : State} {a0 : Array Value} (hw : ∀ d ∈ tables_1, d.before a0 Z = true) {n0 : Nat} {h : Heap} {a_INT a_STRING a_BOX a_FLOAT a_DOUBLE a_LONG : Addr} (S : own_St Z h a_INT a_STRING a_BOX a_FLOAT a_DOUBLE a_LONG) (x0 : Int32) :
    own_Met l Z x code maxLocals ret tables_1 room_1 n0 #[(.int x0)] h (own_pure (.int 1) h) := by
  rcases own_mod6 x0 with hx0 | hx0 | hx0 | hx0 | hx0 | hx0
  · exact own_law_0 l hw S x0 hx0
  · exact own_law_1 l hw S x0 hx0
  · exact own_law_2 l hw S x0 hx0
  · exact own_law_3 l hw S x0 hx0
  · exact own_law_4 l hw S x0 hx0
  · exact own_law_5 l hw S x0 hx0
theorem own_comes {Post : Tables → Env → Array Value → State → Outcome → State → Prop} (hpost : ∀ tb e args s v u, (limb_1_1.after args s (.returned v) u = true ∧ limb_1_2.after args s (.returned v) u = true ∧ True) → FrameEnd s (.returned v) u (Jvm.fieldLocs frame_1_writes args s ++ Jvm.arrayLocs frame_1_arrays args s ++ Jvm.staticLocs frame_1_statics s) 0 0 → Post tb e args s (.returned v) u) :
    ArmFor flags0 classFile x code maxLocals ret World_1 tables_1 room_1 Calls_1 rest_1 Pre_1 Post := by
  intro l hfl _ _ p e ha hc hk s m args below hf hA hF happ hP
  obtain ⟨hcalls, hrest, hpre⟩ := hP
  obtain ⟨-, -, -, hnamed, -, -, -, hat⟩ := (Spec.applies_iff hf).mp happ
  obtain ⟨hg, hn⟩ := and_e (Cond.before_iff.mp (show (Jvm.Cond.and given_1 narrow_1).before args s = true from hpre))
  obtain ⟨g0, hg⟩ := and_e hg
  obtain ⟨w0, rfl⟩ : ∃ w0 : Value, args = #[w0] := by
    have hs : args.size = 1 := by simpa [Cond.value, given_1] using g0
    obtain ⟨L⟩ := args
    match L, hs with
    | [w0], _ => exact ⟨w0, rfl⟩
  obtain ⟨x0, e0⟩ := is_v hg
  obtain rfl : w0 = (.int x0) := Option.some.inj e0
  have hw := fun d (hd : d ∈ tables_1) => atoms_spec (ws := Jvm.Cond.code x code maxLocals ret :: tables_1) hat d (List.mem_cons_of_mem _ hd)
  obtain ⟨q0, hn⟩ := and_e hn
  obtain ⟨q1, hn⟩ := and_e hn
  obtain ⟨q2, hn⟩ := and_e hn
  obtain ⟨q3, hn⟩ := and_e hn
  obtain ⟨q4, hn⟩ := and_e hn
  obtain ⟨q5, hn⟩ := and_e hn
  obtain ⟨q6, hn⟩ := and_e hn
  obtain ⟨q7, hn⟩ := and_e hn
  obtain ⟨q8, hn⟩ := and_e hn
  obtain ⟨q9, hn⟩ := and_e hn
  obtain ⟨q10, hn⟩ := and_e hn
  obtain ⟨q11, hn⟩ := and_e hn
  obtain ⟨q12, hn⟩ := and_e hn
  obtain ⟨q13, hn⟩ := and_e hn
  obtain ⟨q14, hn⟩ := and_e hn
  obtain ⟨q15, hn⟩ := and_e hn
  obtain ⟨q16, hn⟩ := and_e hn
  obtain ⟨a_INT, E_INT⟩ := own_enum q0 q2 (own_w hw 6 rfl) (own_w hw 7 rfl)
  obtain ⟨a_STRING, E_STRING⟩ := own_enum q1 q3 (own_w hw 6 rfl) (own_w hw 14 rfl)
  obtain ⟨a_BOX, E_BOX⟩ := own_enum q4 q5 (own_w hw 6 rfl) (own_w hw 16 rfl)
  obtain ⟨a_FLOAT, E_FLOAT⟩ := own_enum q7 q8 (own_w hw 6 rfl) (own_w hw 36 rfl)
  obtain ⟨a_DOUBLE, E_DOUBLE⟩ := own_enum q9 q10 (own_w hw 6 rfl) (own_w hw 38 rfl)
  obtain ⟨a_LONG, E_LONG⟩ := own_enum q12 q13 (own_w hw 6 rfl) (own_w hw 41 rfl)
  have F_INT_bits := own_sfld E_INT.1 q6
  have F_DOUBLE_bits := own_sfld E_DOUBLE.1 q11
  have F_FLOAT_bits := own_sfld E_FLOAT.1 q14
  have F_LONG_bits := own_sfld E_LONG.1 q15
  have F_BOX_bits := own_sfld E_BOX.1 q16
  have F_STRING_bits := own_sfld E_STRING.1 hn
  obtain ⟨n, o, h1, h2, h3, _, L, rfl, ⟨⟨rfl, _⟩, N⟩, hq⟩ := own_law l hw (n0 := s.heap.size) ⟨E_INT, E_STRING, E_BOX, E_FLOAT, E_DOUBLE, E_LONG, F_INT_bits, F_DOUBLE_bits, F_FLOAT_bits, F_LONG_bits, F_BOX_bits, F_STRING_bits⟩ x0 p e ha hc hk s m _ below hf ((Spec.applies_iff_loose hf).mp happ).1 ⟨rfl, State.Warmed39.refl s, rfl⟩ trivial
  exact ⟨n, _, h1, h2, h3, hpost _ _ _ _ _ _ ⟨Cond.after_iff.mpr rfl, Cond.after_iff.mpr (eq_i res_at (Term.int_eval (1)) rfl), trivial⟩ ⟨hq.1, hq.2.1, (hq.2.2.sift fun y hy => Or.inr (N y hy)).mono (by decide) (by decide)⟩⟩
theorem main_1_1 : Claimed_1_1 := own_comes fun _ _ _ _ _ _ h hF => ⟨h.1, hF⟩
theorem main_1_2 : Claimed_1_2 := own_comes fun _ _ _ _ _ _ h hF => ⟨h.2.1, hF⟩
end Jvm.Pilot.@@N@@
namespace Jvm.Pilot.@@N@@
open Jvm Jvm.ClassFile Sem Op Lib Jvm.Free Jvm.Stand Jvm.Pilot.@@N@@.Jvm.D
/-! MADE BY PROGRAM (witnessworld.py) out of the Statement's table words and the real class files: 12 classes; the members and pool entries that the words name. The judged class is class 1, her method 2. -/
namespace start1
open Jvm.ClassFile
def u (s : String) : CpInfo := .utf8 (stringToUtf16 s)
/-- a pool by its gaps: so many unusable entries, then the entry; so many at the end -/
def gap : Nat → List CpInfo → List CpInfo
  | 0, r => r
  | n + 1, r => .unusable :: gap n r
def poolList (es : List (Nat × CpInfo)) (last : Nat) : List CpInfo := es.foldr (fun e r => gap e.1 (e.2 :: r)) (gap last [])
def pool (es : List (Nat × CpInfo)) (last : Nat) : Array CpInfo := ⟨poolList es last⟩
def fileOf (pool : Array CpInfo) (this : Nat) (attrs : Array Attribute := #[]) (ms : Array MethodInfo := #[]) (fl : Nat := 33) (sup : Nat := 0) (ifs : Array Nat := #[]) (fds : Array FieldInfo := #[]) : ClassFile where
  minorVersion := 0
  majorVersion := 65
  constantPool := pool
  accessFlags := fl
  thisClass := this
  superClass := sup
  interfaces := ifs
  fields := fds
  methods := ms
  attributes := attrs
def plain (name : String) (sup : Option ClassId) : Class where
  name := name
  kind := .ordinary
  loader := none
  accessFlags := 33
  super := sup
  interfaces := #[]
  cf := none
  fields := #[]
  methods := #[]
  instanceTypes := #[]
  staticTypes := #[]
  resolved := #[]
  callSites := []
  init := .initialized
  statics := none
  mirror := none

def pool0 : Array CpInfo := pool [(5, u "<init>"), (0, u "()V"), (1, .class_ 10), (1, u "java/lang/Object")] 113

def k0m0 : Method := { name := "<init>", desc := "()V", sig := { parameters := [], returnType := none }, accessFlags := 1, code := none }
/-- java/lang/Object -/
def k0 : Class := { plain "java/lang/Object" none with
  accessFlags := 33
  interfaces := #[]
  cf := some (fileOf pool0 8 #[] #[{ accessFlags := 1, nameIndex := 5, descriptorIndex := 6, attributes := #[] }] 33 0 #[] #[])
  fields := #[]
  methods := #[k0m0]
  instanceTypes := #[]
  staticTypes := #[]
  resolved := Array.replicate 124 none
  statics := none }

def pool1 : Array CpInfo := pool [(2, .class_ 4), (1, u "java/lang/Object"), (0, u "<init>"), (0, u "()V"), (0, .fieldref 8 9), (0, .class_ 10), (0, .nameAndType 11 12), (0, u "com/example/pathwright/pathwright/symbolic/Sort"), (0, u "INT"), (0, u "Lcom/example/pathwright/pathwright/symbolic/Sort;"), (0, .fieldref 8 14), (0, .nameAndType 15 12), (0, u "LONG"), (0, .fieldref 8 17), (0, .nameAndType 18 12), (0, u "FLOAT"), (0, .fieldref 8 20), (0, .nameAndType 21 12), (0, u "DOUBLE"), (0, .fieldref 8 23), (0, .nameAndType 24 12), (0, u "STRING"), (0, .fieldref 8 26), (0, .nameAndType 27 12), (0, u "BOX"), (0, .integer 2147483647), (0, .methodref 30 31), (0, .class_ 32), (0, .nameAndType 33 34), (0, u "com/example/pathwright/pathwright/symbolic/SortReferencePinLaw"), (0, u "pick"), (0, u "(I)Lcom/example/pathwright/pathwright/symbolic/Sort;"), (0, .methodref 8 36), (0, .nameAndType 37 38), (0, u "reference"), (0, u "()Z"), (0, .methodref 8 40), (0, .nameAndType 41 42), (0, u "bits"), (0, u "()I"), (0, .methodref 8 44), (0, .nameAndType 45 38), (0, u "integral"), (0, .methodref 8 47), (0, .nameAndType 48 38), (0, u "floating"), (3, u "law"), (0, u "(I)Z")] 2

def k1m0 : Method := { name := "<init>", desc := "()V", sig := { parameters := [], returnType := none }, accessFlags := 1, code := none }
def k1c1 : Code := { maxStack := 2, maxLocals := 1, code := method_2_code, exceptionTable := #[], attributes := #[] }
def k1m1 : Method := { name := "pick", desc := "(I)Lcom/example/pathwright/pathwright/symbolic/Sort;", sig := { parameters := [.int], returnType := some (.object "com/example/pathwright/pathwright/symbolic/Sort") }, accessFlags := 10, code := some k1c1 }
def k1c2 : Code := { maxStack := 2, maxLocals := 7, code := code, exceptionTable := #[], attributes := #[] }
def k1m2 : Method := { name := "law", desc := "(I)Z", sig := { parameters := [.int], returnType := some .boolean }, accessFlags := 9, code := some k1c2 }
/-- com/example/pathwright/pathwright/symbolic/SortReferencePinLaw -/
def k1 : Class := { plain "com/example/pathwright/pathwright/symbolic/SortReferencePinLaw" (some 0) with
  accessFlags := 49
  interfaces := #[]
  cf := some (fileOf pool1 30 #[] #[{ accessFlags := 1, nameIndex := 5, descriptorIndex := 6, attributes := #[] }, { accessFlags := 10, nameIndex := 33, descriptorIndex := 34, attributes := #[] }, { accessFlags := 9, nameIndex := 52, descriptorIndex := 53, attributes := #[] }] 49 2 #[] #[])
  fields := #[]
  methods := #[k1m0, k1m1, k1m2]
  instanceTypes := #[]
  staticTypes := #[]
  resolved := Array.replicate 56 none
  statics := none }

def pool2 : Array CpInfo := pool [(1, .class_ 2), (0, u "java/lang/constant/Constable"), (0, .class_ 4), (0, u "java/lang/Object")] 6

/-- java/lang/constant/Constable -/
def k2 : Class := { plain "java/lang/constant/Constable" (some 0) with
  accessFlags := 1537
  interfaces := #[]
  cf := some (fileOf pool2 1 #[] #[] 1537 3 #[] #[])
  fields := #[]
  methods := #[]
  instanceTypes := #[]
  staticTypes := #[]
  resolved := Array.replicate 11 none
  statics := none }

def pool3 : Array CpInfo := pool [(1, .class_ 2), (0, u "java/lang/Comparable"), (0, .class_ 4), (0, u "java/lang/Object")] 7

/-- java/lang/Comparable -/
def k3 : Class := { plain "java/lang/Comparable" (some 0) with
  accessFlags := 1537
  interfaces := #[]
  cf := some (fileOf pool3 1 #[] #[] 1537 3 #[] #[])
  fields := #[]
  methods := #[]
  instanceTypes := #[]
  staticTypes := #[]
  resolved := Array.replicate 12 none
  statics := none }

def pool4 : Array CpInfo := pool [(1, .class_ 2), (0, u "java/io/Serializable"), (0, .class_ 4), (0, u "java/lang/Object")] 2

/-- java/io/Serializable -/
def k4 : Class := { plain "java/io/Serializable" (some 0) with
  accessFlags := 1537
  interfaces := #[]
  cf := some (fileOf pool4 1 #[] #[] 1537 3 #[] #[])
  fields := #[]
  methods := #[]
  instanceTypes := #[]
  staticTypes := #[]
  resolved := Array.replicate 7 none
  statics := none }

def pool5 : Array CpInfo := pool [(2, .class_ 4), (1, u "java/lang/Enum"), (0, u "name"), (0, u "Ljava/lang/String;"), (2, u "ordinal"), (0, u "I"), (1, .class_ 14), (1, u "java/lang/Object"), (4, u "hash"), (86, .class_ 108), (1, u "java/lang/Enum$EnumDesc"), (2, .class_ 112), (0, u "java/lang/constant/Constable"), (0, .class_ 114), (0, u "java/lang/Comparable"), (0, .class_ 116), (0, u "java/io/Serializable")] 87

/-- java/lang/Enum -/
def k5 : Class := { plain "java/lang/Enum" (some 0) with
  accessFlags := 1057
  interfaces := #[2, 3, 4]
  cf := some (fileOf pool5 2 #[.nestMembers #[106]] #[] 1057 12 #[111, 113, 115] #[{ accessFlags := 18, nameIndex := 5, descriptorIndex := 6, attributes := #[] }, { accessFlags := 18, nameIndex := 9, descriptorIndex := 10, attributes := #[] }, { accessFlags := 2, nameIndex := 19, descriptorIndex := 10, attributes := #[] }])
  fields := #[{ name := "name", type := (.object "java/lang/String"), accessFlags := 18, slot := 0, constantValue := 0 }, { name := "ordinal", type := .int, accessFlags := 18, slot := 1, constantValue := 0 }, { name := "hash", type := .int, accessFlags := 2, slot := 2, constantValue := 0 }]
  methods := #[]
  instanceTypes := #[(.object "java/lang/String"), .int, .int]
  staticTypes := #[]
  resolved := Array.replicate 204 none
  statics := none }

def pool6 : Array CpInfo := pool [(1, .class_ 2), (0, u "com/example/pathwright/pathwright/symbolic/Sort"), (0, .fieldref 1 4), (0, .nameAndType 5 6), (0, u "INT"), (0, u "Lcom/example/pathwright/pathwright/symbolic/Sort;"), (0, .fieldref 1 8), (0, .nameAndType 9 6), (0, u "LONG"), (0, .fieldref 1 11), (0, .nameAndType 12 6), (0, u "FLOAT"), (0, .fieldref 1 14), (0, .nameAndType 15 6), (0, u "DOUBLE"), (0, .fieldref 1 17), (0, .nameAndType 18 6), (0, u "STRING"), (0, .fieldref 1 20), (0, .nameAndType 21 6), (0, u "BOX"), (2, u "$VALUES"), (0, u "[Lcom/example/pathwright/pathwright/symbolic/Sort;"), (6, .class_ 34), (1, u "java/lang/Enum"), (8, u "type"), (0, u "Ljava/lang/Class;"), (0, .fieldref 1 46), (0, .nameAndType 47 48), (0, u "bits"), (0, u "I"), (3, u "()I"), (69, u "integral"), (0, u "()Z"), (1, u "reference"), (0, u "floating")] 24

def k6c0 : Code := { maxStack := 1, maxLocals := 1, code := prog_40_method_5_code, exceptionTable := #[], attributes := #[] }
def k6m0 : Method := { name := "bits", desc := "()I", sig := { parameters := [], returnType := some .int }, accessFlags := 1, code := some k6c0 }
def k6c1 : Code := { maxStack := 2, maxLocals := 1, code := prog_40_method_6_code, exceptionTable := #[], attributes := #[] }
def k6m1 : Method := { name := "integral", desc := "()Z", sig := { parameters := [], returnType := some .boolean }, accessFlags := 1, code := some k6c1 }
def k6c2 : Code := { maxStack := 2, maxLocals := 1, code := prog_40_method_7_code, exceptionTable := #[], attributes := #[] }
def k6m2 : Method := { name := "reference", desc := "()Z", sig := { parameters := [], returnType := some .boolean }, accessFlags := 1, code := some k6c2 }
def k6c3 : Code := { maxStack := 2, maxLocals := 1, code := prog_40_method_8_code, exceptionTable := #[], attributes := #[] }
def k6m3 : Method := { name := "floating", desc := "()Z", sig := { parameters := [], returnType := some .boolean }, accessFlags := 1, code := some k6c3 }
/-- com/example/pathwright/pathwright/symbolic/Sort -/
def k6 : Class := { plain "com/example/pathwright/pathwright/symbolic/Sort" (some 5) with
  accessFlags := 16433
  interfaces := #[]
  cf := some (fileOf pool6 1 #[] #[{ accessFlags := 1, nameIndex := 47, descriptorIndex := 52, attributes := #[] }, { accessFlags := 1, nameIndex := 122, descriptorIndex := 123, attributes := #[] }, { accessFlags := 1, nameIndex := 125, descriptorIndex := 123, attributes := #[] }, { accessFlags := 1, nameIndex := 126, descriptorIndex := 123, attributes := #[] }] 16433 32 #[] #[{ accessFlags := 16409, nameIndex := 5, descriptorIndex := 6, attributes := #[] }, { accessFlags := 16409, nameIndex := 9, descriptorIndex := 6, attributes := #[] }, { accessFlags := 16409, nameIndex := 12, descriptorIndex := 6, attributes := #[] }, { accessFlags := 16409, nameIndex := 15, descriptorIndex := 6, attributes := #[] }, { accessFlags := 16409, nameIndex := 18, descriptorIndex := 6, attributes := #[] }, { accessFlags := 16409, nameIndex := 21, descriptorIndex := 6, attributes := #[] }, { accessFlags := 18, nameIndex := 43, descriptorIndex := 44, attributes := #[] }, { accessFlags := 18, nameIndex := 47, descriptorIndex := 48, attributes := #[] }, { accessFlags := 4122, nameIndex := 24, descriptorIndex := 25, attributes := #[] }])
  fields := #[{ name := "INT", type := (.object "com/example/pathwright/pathwright/symbolic/Sort"), accessFlags := 16409, slot := 0, constantValue := 0 }, { name := "LONG", type := (.object "com/example/pathwright/pathwright/symbolic/Sort"), accessFlags := 16409, slot := 1, constantValue := 0 }, { name := "FLOAT", type := (.object "com/example/pathwright/pathwright/symbolic/Sort"), accessFlags := 16409, slot := 2, constantValue := 0 }, { name := "DOUBLE", type := (.object "com/example/pathwright/pathwright/symbolic/Sort"), accessFlags := 16409, slot := 3, constantValue := 0 }, { name := "STRING", type := (.object "com/example/pathwright/pathwright/symbolic/Sort"), accessFlags := 16409, slot := 4, constantValue := 0 }, { name := "BOX", type := (.object "com/example/pathwright/pathwright/symbolic/Sort"), accessFlags := 16409, slot := 5, constantValue := 0 }, { name := "type", type := (.object "java/lang/Class"), accessFlags := 18, slot := 3, constantValue := 0 }, { name := "bits", type := .int, accessFlags := 18, slot := 4, constantValue := 0 }, { name := "$VALUES", type := (.array (.object "com/example/pathwright/pathwright/symbolic/Sort")), accessFlags := 4122, slot := 6, constantValue := 0 }]
  methods := #[k6m0, k6m1, k6m2, k6m3]
  instanceTypes := #[(.object "java/lang/String"), .int, .int, (.object "java/lang/Class"), .int]
  staticTypes := #[(.object "com/example/pathwright/pathwright/symbolic/Sort"), (.object "com/example/pathwright/pathwright/symbolic/Sort"), (.object "com/example/pathwright/pathwright/symbolic/Sort"), (.object "com/example/pathwright/pathwright/symbolic/Sort"), (.object "com/example/pathwright/pathwright/symbolic/Sort"), (.object "com/example/pathwright/pathwright/symbolic/Sort"), (.array (.object "com/example/pathwright/pathwright/symbolic/Sort"))]
  resolved := Array.replicate 151 none
  statics := some 0 }

def pool7 : Array CpInfo := pool [(1, u "java/lang/Cloneable"), (0, .class_ 1), (0, u "java/lang/Object"), (0, .class_ 3)] 3

/-- java/lang/Cloneable -/
def k7 : Class := { plain "java/lang/Cloneable" (some 0) with
  accessFlags := 1537
  interfaces := #[]
  cf := some (fileOf pool7 2 #[] #[] 1537 4 #[] #[])
  fields := #[]
  methods := #[]
  instanceTypes := #[]
  staticTypes := #[]
  resolved := Array.replicate 8 none
  statics := none }

/-- the primitive byte -/
def k8 : Class := { plain "byte" none with kind := .primitive 'B', accessFlags := 0x411 }
/-- [B -/
def k9 : Class := { plain "[B" (some 0) with kind := .array 8 .byte, interfaces := #[7, 4], accessFlags := 1041 }

/-- the primitive int -/
def k10 : Class := { plain "int" none with kind := .primitive 'I', accessFlags := 0x411 }
/-- [I -/
def k11 : Class := { plain "[I" (some 0) with kind := .array 10 .int, interfaces := #[7, 4], accessFlags := 1041 }

def heap : Heap := #[{ cls := 6, slots := #[.ref 1, .ref 2, .ref 3, .ref 4, .ref 5, .ref 6, .null], vm := .statics 6 },
  { cls := 6, slots := #[.null, .int 0, .int 0, .null, .int 32], vm := .none },
  { cls := 6, slots := #[.null, .int 1, .int 0, .null, .int 64], vm := .none },
  { cls := 6, slots := #[.null, .int 2, .int 0, .null, .int 32], vm := .none },
  { cls := 6, slots := #[.null, .int 3, .int 0, .null, .int 64], vm := .none },
  { cls := 6, slots := #[.null, .int 4, .int 0, .null, .int 0], vm := .none },
  { cls := 6, slots := #[.null, .int 5, .int 0, .null, .int 0], vm := .none }]
def classes : Array Class := #[k0, k1, k2, k3, k4, k5, k6, k7, k8, k9, k10, k11]
def interned : List (Array UInt16 × Addr) := []
def slotsUsed : Nat := 37
def theMethod : MethodId := ⟨1, 2⟩
def args0 : Array Value := #[.int 5]
def aboutOver (below : List Frame) : State where
  vm := { classes := classes, interned := interned.toArray }
  heap := heap
  slotsUsed := slotsUsed
  threads := #[{ frames := .invoking theMethod args0 :: below }]
def below0 : List Frame := [.native { method := ⟨0, 0⟩, args := #[] }]
def about1 : State := aboutOver below0
def p0 : Program := .bare "" "" ""
def e0 : Env := launch0.env 0 0 0
theorem w_frames : about1.frames = Frame.invoking theMethod args0 :: below0 := rfl
set_option maxRecDepth 65536 in
theorem w_args : argsFit about1.vm theMethod args0 = true := by decide +kernel
set_option maxRecDepth 65536 in
theorem w_heap : heapFits about1 = true := by decide +kernel
set_option maxRecDepth 65536 in
theorem w_runnable : about1.curStatus? = some .runnable := by decide +kernel
set_option maxRecDepth 65536 in
theorem w_alone : about1.alone = true := by decide +kernel
set_option maxRecDepth 65536 in
theorem w_named : about1.methodNamed? x = some theMethod := by decide +kernel
set_option maxRecDepth 65536 in
theorem w_hears : about1.hears theMethod below0 = true := by decide +kernel
set_option maxRecDepth 65536 in
theorem w_ripe : about1.ripe theMethod args0 below0 = true := by decide +kernel
theorem w_running : about1.status = .running := rfl
set_option maxRecDepth 65536 in
theorem w_room : about1.hasRoom e0.platform room_1 = true :=
  launch0.hasRoom_least _ room_1 (by decide +kernel) (by decide +kernel) (by decide +kernel) (by decide +kernel) (by decide +kernel) (by decide +kernel)
theorem allAtoms_all (ts : List Jvm.Cond) (a : Array Jvm.Value) (st : Jvm.State) : (allAtoms ts).before a st = ts.all (fun c => c.before a st) := by
  induction ts with
  | nil => rfl
  | cons c t ih =>
    show (Jvm.Cond.and c (allAtoms t)).before a st = _
    rw [Jvm.Cond.before_and, ih, List.all_cons]
def words1 : List Jvm.Cond := Jvm.Cond.code x code maxLocals ret :: tables_1
/-- a 'code' word, met by the world's own term for the bytes: nothing is compared byte by byte -/
theorem code_word {y : MethodName} {bytes : ByteArray} {mx : Nat} {rt : Option FieldType} {a : Array Value} {s : State} {m : MethodId} {meth : Method} {c : Code} (h1 : s.methodNamed? y = some m) (h2 : s.vm.method? m = some meth) (h3 : meth.code = some c) (h4 : c.code = bytes)
    (h5 : (c.maxLocals == mx && c.exceptionTable.isEmpty && decide (c.maxStack ≤ mostOperands) && decide (meth.sig.returnType = rt) && !meth.locks && decide (parseMethodDescriptor y.desc = some meth.sig)) = true) : (Jvm.Cond.code y bytes mx rt).before a s = true := by
  simp only [Bool.and_eq_true, beq_iff_eq, Bool.not_eq_true', decide_eq_true_eq] at h5
  obtain ⟨⟨⟨⟨⟨g1, g2⟩, g3⟩, g4⟩, g5⟩, g6⟩ := h5
  simp [Cond.before, Cond.holds, Cond.value, h1, h2, h3, h4, g1, g2, g3, g4, g5, g6]
def isCode : Jvm.Cond → Bool
  | .code _ _ _ _ => true
  | _ => false
theorem all_split {L : List Jvm.Cond} {P : Jvm.Cond → Bool} (h1 : L.all (fun c => isCode c || P c) = true) (h2 : ∀ c ∈ L.filter isCode, P c = true) : L.all P = true := by
  refine List.all_eq_true.mpr fun c hc => ?_
  have h := List.all_eq_true.mp h1 c hc
  rcases Bool.eq_false_or_eq_true (isCode c) with hi | hi
  · exact h2 c (List.mem_filter.mpr ⟨hc, hi⟩)
  · simpa [hi] using h
set_option maxRecDepth 65536 in
theorem w_c0 : (Jvm.Cond.code x code maxLocals ret).before args0 about1 = true := code_word (m := ⟨1, 2⟩) (meth := k1m2) (c := k1c2) (by decide +kernel) rfl rfl rfl (by decide +kernel)
set_option maxRecDepth 65536 in
theorem w_c1 : (Jvm.Cond.code ({ cls := "com/example/pathwright/pathwright/symbolic/SortReferencePinLaw", name := "pick", desc := "(I)Lcom/example/pathwright/pathwright/symbolic/Sort;" } : Jvm.MethodName) method_2_code (1 : Nat) (Option.some (Jvm.ClassFile.FieldType.object "com/example/pathwright/pathwright/symbolic/Sort"))).before args0 about1 = true := code_word (m := ⟨1, 1⟩) (meth := k1m1) (c := k1c1) (by decide +kernel) rfl rfl rfl (by decide +kernel)
set_option maxRecDepth 65536 in
theorem w_c2 : (Jvm.Cond.code ({ cls := "com/example/pathwright/pathwright/symbolic/Sort", name := "reference", desc := "()Z" } : Jvm.MethodName) prog_40_method_7_code (1 : Nat) (Option.some Jvm.ClassFile.FieldType.boolean)).before args0 about1 = true := code_word (m := ⟨6, 2⟩) (meth := k6m2) (c := k6c2) (by decide +kernel) rfl rfl rfl (by decide +kernel)
set_option maxRecDepth 65536 in
theorem w_c3 : (Jvm.Cond.code ({ cls := "com/example/pathwright/pathwright/symbolic/Sort", name := "bits", desc := "()I" } : Jvm.MethodName) prog_40_method_5_code (1 : Nat) (Option.some Jvm.ClassFile.FieldType.int)).before args0 about1 = true := code_word (m := ⟨6, 0⟩) (meth := k6m0) (c := k6c0) (by decide +kernel) rfl rfl rfl (by decide +kernel)
set_option maxRecDepth 65536 in
theorem w_c4 : (Jvm.Cond.code ({ cls := "com/example/pathwright/pathwright/symbolic/Sort", name := "integral", desc := "()Z" } : Jvm.MethodName) prog_40_method_6_code (1 : Nat) (Option.some Jvm.ClassFile.FieldType.boolean)).before args0 about1 = true := code_word (m := ⟨6, 1⟩) (meth := k6m1) (c := k6c1) (by decide +kernel) rfl rfl rfl (by decide +kernel)
set_option maxRecDepth 65536 in
theorem w_c5 : (Jvm.Cond.code ({ cls := "com/example/pathwright/pathwright/symbolic/Sort", name := "floating", desc := "()Z" } : Jvm.MethodName) prog_40_method_8_code (1 : Nat) (Option.some Jvm.ClassFile.FieldType.boolean)).before args0 about1 = true := code_word (m := ⟨6, 3⟩) (meth := k6m3) (c := k6c3) (by decide +kernel) rfl rfl rfl (by decide +kernel)
def codes1 : List Jvm.Cond := [Jvm.Cond.code x code maxLocals ret, Jvm.Cond.code ({ cls := "com/example/pathwright/pathwright/symbolic/SortReferencePinLaw", name := "pick", desc := "(I)Lcom/example/pathwright/pathwright/symbolic/Sort;" } : Jvm.MethodName) method_2_code (1 : Nat) (Option.some (Jvm.ClassFile.FieldType.object "com/example/pathwright/pathwright/symbolic/Sort")), Jvm.Cond.code ({ cls := "com/example/pathwright/pathwright/symbolic/Sort", name := "reference", desc := "()Z" } : Jvm.MethodName) prog_40_method_7_code (1 : Nat) (Option.some Jvm.ClassFile.FieldType.boolean), Jvm.Cond.code ({ cls := "com/example/pathwright/pathwright/symbolic/Sort", name := "bits", desc := "()I" } : Jvm.MethodName) prog_40_method_5_code (1 : Nat) (Option.some Jvm.ClassFile.FieldType.int), Jvm.Cond.code ({ cls := "com/example/pathwright/pathwright/symbolic/Sort", name := "integral", desc := "()Z" } : Jvm.MethodName) prog_40_method_6_code (1 : Nat) (Option.some Jvm.ClassFile.FieldType.boolean), Jvm.Cond.code ({ cls := "com/example/pathwright/pathwright/symbolic/Sort", name := "floating", desc := "()Z" } : Jvm.MethodName) prog_40_method_8_code (1 : Nat) (Option.some Jvm.ClassFile.FieldType.boolean)]
set_option maxRecDepth 65536 in
theorem codes_eq : words1.filter isCode = codes1 := rfl
theorem w_codes : ∀ c ∈ words1.filter isCode, c.before args0 about1 = true := by
  rw [codes_eq]
  intro c hc
  simp only [codes1, List.mem_cons, List.not_mem_nil, or_false] at hc
  rcases hc with rfl | rfl | rfl | rfl | rfl | rfl
  · exact w_c0
  · exact w_c1
  · exact w_c2
  · exact w_c3
  · exact w_c4
  · exact w_c5
set_option maxRecDepth 65536 in
theorem w_t1 : (words1.take 24).all (fun c => isCode c || c.before args0 about1) = true := by decide +kernel
set_option maxRecDepth 65536 in
theorem w_t2 : (words1.drop 24).all (fun c => isCode c || c.before args0 about1) = true := by decide +kernel
theorem w_tables : (allAtoms (Jvm.Cond.code x code maxLocals ret :: tables_1)).before args0 about1 = true := by
  rw [allAtoms_all]
  show words1.all (fun c => c.before args0 about1) = true
  refine all_split ?_ w_codes
  rw [← List.take_append_drop 24 words1, List.all_append, w_t1, w_t2]
  rfl
set_option maxRecDepth 65536 in
theorem w_case : (Jvm.Cond.and given_1 narrow_1).before args0 about1 = true := by decide +kernel
theorem w_applies : (headSpec (Jvm.Cond.code x code maxLocals ret :: tables_1) room_1).applies x e0.platform about1 = true :=
  (Spec.applies_iff w_frames).mpr ⟨w_running, w_runnable, w_alone, w_named, w_hears, w_ripe, w_room, w_tables⟩
theorem atStart : AtStart classFile x code maxLocals ret World_1 tables_1 room_1 Calls_1 rest_1 Pre_1 launch0 p0 e0 about1 theMethod args0 below0 :=
  ⟨lists_1, trivial, launch0.admits_env _ _ _, launch0.least_env, fairChoices_fair.cas, fairChoices_fair.clock, w_frames, w_args, w_heap, w_applies, trivial, trivial, w_case⟩
end start1
theorem witness_1 : WitnessClaimed_1 := ⟨start1.p0, start1.e0, start1.about1, start1.theMethod, start1.args0, start1.below0, start1.atStart⟩
end Jvm.Pilot.@@N@@
