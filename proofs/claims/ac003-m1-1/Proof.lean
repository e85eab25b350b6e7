import JvmDerived
import JvmDerived.Pilot.@@N@@Statement
import JvmDerived.Pilot.@@N@@Code
set_option linter.unusedVariables false
set_option linter.unusedSimpArgs false
@@BLOCK:NumsL.lean.txt@@
namespace Jvm.Pilot.@@N@@
open Jvm Jvm.FP Jvm.Free.Fl Jvm.ClassFile Sem Op Lib Jvm.Free Jvm.Stand Jvm.LawKit Jvm.RoadKit Bundle Jvm.Pilot.@@N@@.Jvm.D
/-! A walk in continuation form, over the library's family of laws (Stand, XS, RoadKit). -/
theorem own_w {Z : State} {a0 : Array Value} (hw : ∀ d ∈ tables_1, d.before a0 Z = true) {d : Jvm.Cond} (i : Nat) (q : tables_1[i]? = some d) : d.before a0 Z = true := hw d (List.mem_of_getElem? q)
section OwnKit
variable {p : Program} {l : Launch} {e : Env} {R : Room} {s : State} {m : MethodId} {args : Array Value} {below : List Frame} {meth : Method} {c : Code} {Z : State} {n0 : Nat} {own : String} {bytes : ByteArray} {ml : Nat} {rt : Option FieldType} {nm : String} {Q : Option Value → Heap → Prop} {h : Heap} {k n : Nat} {pc pc' : Nat} {Ls Ls' : Array Slot} {st rest : List Value} {a0 : Array Value} {f f' : JFrame}
/-- what is left of a body's run from S: it returns, Q holds of the value and the heap, only places at or above n0 were written -/
def own_Fin (p : Program) (e : Env) (R : Room) (s : State) (below : List Frame) (n0 : Nat) (Q : Option Value → Heap → Prop) (S : State) : Prop :=
  ∃ s₂ o, Steps p.tables e below S s₂ ∧ s₂.status = .running ∧ Ended s₂ below o ∧ ∃ v L, o = .returned v ∧ (Q v s₂.heap ∧ Fr n0 L) ∧ FrameEnd s o s₂ L R.cells R.slots
/-- what is known of the body that is walked -/
def own_Cx (Z : State) (p : Program) (s : State) (m : MethodId) (meth : Method) (c : Code) (own : String) (bytes : ByteArray) (ml : Nat) (rt : Option FieldType) (nm : String) : Prop :=
  p.tables.exec = Jvm.exec ∧ Z.Warmed39 s.vm ∧ s.vm.findClass own = some m.cls ∧ c.code = bytes ∧ c.maxLocals = ml ∧ meth.sig.returnType = rt ∧ meth.locks = false ∧ meth.name = nm
/-- from the frame f over the heap h (k cells and n slots made so far) the body ends well -/
def own_At (p : Program) (l : Launch) (e : Env) (R : Room) (s : State) (m : MethodId) (args : Array Value) (below : List Frame) (meth : Method) (c : Code) (n0 : Nat) (Q : Option Value → Heap → Prop) (h : Heap) (k n : Nat) (f : JFrame) : Prop :=
  ∀ T L, Stand p l e R s m args below meth c T L k n → Fr n0 L → T.heap = h → own_Fin p e R s below n0 Q (T.setTop f)
theorem own_via {S S' : State} (H : ∀ t, Steps p.tables e below S' t → Steps p.tables e below S t) (K : own_Fin p e R s below n0 Q S') : own_Fin p e R s below n0 Q S := by
  obtain ⟨s₂, o, h1, r⟩ := K
  exact ⟨s₂, o, H _ h1, r⟩
theorem own_of (H : ∀ T L, Stand p l e R s m args below meth c T L k n → ∀ t, Steps p.tables e below (T.setTop f') t → Steps p.tables e below (T.setTop f) t) (K : own_At p l e R s m args below meth c n0 Q h k n f') : own_At p l e R s m args below meth c n0 Q h k n f :=
  fun T L X N eT => own_via (H T L X) (K T L X N eT)
theorem own_eq (q : f = f') (K : own_At p l e R s m args below meth c n0 Q h k n f') : own_At p l e R s m args below meth c n0 Q h k n f := q ▸ K
/-! ### plain steps -/
theorem own_iloadN (C : own_Cx Z p s m meth c own bytes ml rt nm) {i : Fin 4} {v : Int32} (hd : decode bytes pc = .ok (.iload_n i, 1)) (hl : Ls[i.val]? = some (.val (.int v))) (hp : pc + 1 = pc')
    (K : own_At p l e R s m args below meth c n0 Q h k n (mkF m pc' Ls (.int v :: st))) : own_At p l e R s m args below meth c n0 Q h k n (mkF m pc Ls st) := by
  subst hp; exact own_of (fun T L X t hr => XS.iloadN X.here C.1 rfl (hb C.2.2.2.1 hd) hl hr) K
theorem own_iload (C : own_Cx Z p s m meth c own bytes ml rt nm) {i : Nat} {v : Int32} (hd : decode bytes pc = .ok (.iload i, 2)) (hl : Ls[i]? = some (.val (.int v))) (hp : pc + 2 = pc')
    (K : own_At p l e R s m args below meth c n0 Q h k n (mkF m pc' Ls (.int v :: st))) : own_At p l e R s m args below meth c n0 Q h k n (mkF m pc Ls st) := by
  subst hp; exact own_of (fun T L X t hr => XS.iload X.here C.1 rfl (hb C.2.2.2.1 hd) hl hr) K
theorem own_aloadN (C : own_Cx Z p s m meth c own bytes ml rt nm) {i : Fin 4} {v : Value} (hd : decode bytes pc = .ok (.aload_n i, 1)) (hl : Ls[i.val]? = some (.val v)) (hv : v.isRef = true) (hp : pc + 1 = pc')
    (K : own_At p l e R s m args below meth c n0 Q h k n (mkF m pc' Ls (v :: st))) : own_At p l e R s m args below meth c n0 Q h k n (mkF m pc Ls st) := by
  subst hp; exact own_of (fun T L X t hr => XS.aloadN X.here C.1 rfl (hb C.2.2.2.1 hd) hl hv hr) K
theorem own_aload (C : own_Cx Z p s m meth c own bytes ml rt nm) {i : Nat} {v : Value} (hd : decode bytes pc = .ok (.aload i, 2)) (hl : Ls[i]? = some (.val v)) (hv : v.isRef = true) (hp : pc + 2 = pc')
    (K : own_At p l e R s m args below meth c n0 Q h k n (mkF m pc' Ls (v :: st))) : own_At p l e R s m args below meth c n0 Q h k n (mkF m pc Ls st) := by
  subst hp; exact own_of (fun T L X t hr => XS.aload X.here C.1 rfl (hb C.2.2.2.1 hd) hl hv hr) K
theorem own_istoreN (C : own_Cx Z p s m meth c own bytes ml rt nm) {i : Fin 4} {v : Int32} (hd : decode bytes pc = .ok (.istore_n i, 1)) (hl : storeLocals Ls i.val (.int v) = some Ls') (hp : pc + 1 = pc')
    (K : own_At p l e R s m args below meth c n0 Q h k n (mkF m pc' Ls' st)) : own_At p l e R s m args below meth c n0 Q h k n (mkF m pc Ls (.int v :: st)) := by
  subst hp; exact own_of (fun T L X t hr => XS.istoreN X.here C.1 rfl (hb C.2.2.2.1 hd) rfl hl hr) K
theorem own_istore (C : own_Cx Z p s m meth c own bytes ml rt nm) {i : Nat} {v : Int32} (hd : decode bytes pc = .ok (.istore i, 2)) (hl : storeLocals Ls i (.int v) = some Ls') (hp : pc + 2 = pc')
    (K : own_At p l e R s m args below meth c n0 Q h k n (mkF m pc' Ls' st)) : own_At p l e R s m args below meth c n0 Q h k n (mkF m pc Ls (.int v :: st)) := by
  subst hp; exact own_of (fun T L X t hr => XS.istore X.here C.1 rfl (hb C.2.2.2.1 hd) rfl hl hr) K
theorem own_astoreN (C : own_Cx Z p s m meth c own bytes ml rt nm) {i : Fin 4} {v : Value} (hd : decode bytes pc = .ok (.astore_n i, 1)) (hv : v.isRef = true) (hl : storeLocals Ls i.val v = some Ls') (hp : pc + 1 = pc')
    (K : own_At p l e R s m args below meth c n0 Q h k n (mkF m pc' Ls' st)) : own_At p l e R s m args below meth c n0 Q h k n (mkF m pc Ls (v :: st)) := by
  subst hp; exact own_of (fun T L X t hr => XS.astoreN X.here C.1 rfl (hb C.2.2.2.1 hd) rfl hv hl hr) K
theorem own_astore (C : own_Cx Z p s m meth c own bytes ml rt nm) {i : Nat} {v : Value} (hd : decode bytes pc = .ok (.astore i, 2)) (hv : v.isRef = true) (hl : storeLocals Ls i v = some Ls') (hp : pc + 2 = pc')
    (K : own_At p l e R s m args below meth c n0 Q h k n (mkF m pc' Ls' st)) : own_At p l e R s m args below meth c n0 Q h k n (mkF m pc Ls (v :: st)) := by
  subst hp; exact own_of (fun T L X t hr => XS.astore X.here C.1 rfl (hb C.2.2.2.1 hd) rfl hv hl hr) K
theorem own_iconst (C : own_Cx Z p s m meth c own bytes ml rt nm) {i : Int} {v : Int32} (hd : decode bytes pc = .ok (.iconst i, 1)) (hv : Int32.ofInt i = v) (hp : pc + 1 = pc')
    (K : own_At p l e R s m args below meth c n0 Q h k n (mkF m pc' Ls (.int v :: st))) : own_At p l e R s m args below meth c n0 Q h k n (mkF m pc Ls st) := by
  subst hp hv; exact own_of (fun T L X t hr => XS.iconst X.here C.1 rfl (hb C.2.2.2.1 hd) hr) K
theorem own_bipush (C : own_Cx Z p s m meth c own bytes ml rt nm) {i : Int} {v : Int32} (hd : decode bytes pc = .ok (.bipush i, 2)) (hv : (Int8.ofInt i).toInt32 = v) (hp : pc + 2 = pc')
    (K : own_At p l e R s m args below meth c n0 Q h k n (mkF m pc' Ls (.int v :: st))) : own_At p l e R s m args below meth c n0 Q h k n (mkF m pc Ls st) := by
  subst hp hv; exact own_of (fun T L X t hr => XS.bipush X.here C.1 rfl (hb C.2.2.2.1 hd) hr) K
theorem own_sipush (C : own_Cx Z p s m meth c own bytes ml rt nm) {i : Int} {v : Int32} (hd : decode bytes pc = .ok (.sipush i, 3)) (hv : (Int16.ofInt i).toInt32 = v) (hp : pc + 3 = pc')
    (K : own_At p l e R s m args below meth c n0 Q h k n (mkF m pc' Ls (.int v :: st))) : own_At p l e R s m args below meth c n0 Q h k n (mkF m pc Ls st) := by
  subst hp hv; exact own_of (fun T L X t hr => XS.sipush X.here C.1 rfl (hb C.2.2.2.1 hd) hr) K
theorem own_aconst_null (C : own_Cx Z p s m meth c own bytes ml rt nm) (hd : decode bytes pc = .ok (.aconst_null, 1)) (hp : pc + 1 = pc')
    (K : own_At p l e R s m args below meth c n0 Q h k n (mkF m pc' Ls (.null :: st))) : own_At p l e R s m args below meth c n0 Q h k n (mkF m pc Ls st) := by
  subst hp; exact own_of (fun T L X t hr => XS.aconstNull X.here C.1 rfl (hb C.2.2.2.1 hd) hr) K
theorem own_ldc (C : own_Cx Z p s m meth c own bytes ml rt nm) {i : Nat} {v : Int32} (w : (Cond.constant own i v).before a0 Z = true) (hd : decode bytes pc = .ok (.ldc i, 2)) (hp : pc + 2 = pc')
    (K : own_At p l e R s m args below meth c n0 Q h k n (mkF m pc' Ls (.int v :: st))) : own_At p l e R s m args below meth c n0 Q h k n (mkF m pc Ls st) := by
  subst hp; exact own_of (fun T L X t hr => X.ldcI C.1 C.2.2.1 (mvT C.2.1 w) rfl (hb C.2.2.2.1 hd) hr) K
theorem own_iadd (C : own_Cx Z p s m meth c own bytes ml rt nm) {x y z : Int32} (hd : decode bytes pc = .ok (.iadd, 1)) (hz : x + y = z) (hp : pc + 1 = pc')
    (K : own_At p l e R s m args below meth c n0 Q h k n (mkF m pc' Ls (.int z :: st))) : own_At p l e R s m args below meth c n0 Q h k n (mkF m pc Ls (.int y :: .int x :: st)) := by
  subst hp hz; exact own_of (fun T L X t hr => XS.iadd X.here C.1 rfl (hb C.2.2.2.1 hd) rfl hr) K
theorem own_isub (C : own_Cx Z p s m meth c own bytes ml rt nm) {x y z : Int32} (hd : decode bytes pc = .ok (.isub, 1)) (hz : x - y = z) (hp : pc + 1 = pc')
    (K : own_At p l e R s m args below meth c n0 Q h k n (mkF m pc' Ls (.int z :: st))) : own_At p l e R s m args below meth c n0 Q h k n (mkF m pc Ls (.int y :: .int x :: st)) := by
  subst hp hz; exact own_of (fun T L X t hr => XS.isub X.here C.1 rfl (hb C.2.2.2.1 hd) rfl hr) K
theorem own_imul (C : own_Cx Z p s m meth c own bytes ml rt nm) {x y z : Int32} (hd : decode bytes pc = .ok (.imul, 1)) (hz : x * y = z) (hp : pc + 1 = pc')
    (K : own_At p l e R s m args below meth c n0 Q h k n (mkF m pc' Ls (.int z :: st))) : own_At p l e R s m args below meth c n0 Q h k n (mkF m pc Ls (.int y :: .int x :: st)) := by
  subst hp hz; exact own_of (fun T L X t hr => XS.imul X.here C.1 rfl (hb C.2.2.2.1 hd) rfl hr) K
theorem own_iand (C : own_Cx Z p s m meth c own bytes ml rt nm) {x y z : Int32} (hd : decode bytes pc = .ok (.iand, 1)) (hz : x &&& y = z) (hp : pc + 1 = pc')
    (K : own_At p l e R s m args below meth c n0 Q h k n (mkF m pc' Ls (.int z :: st))) : own_At p l e R s m args below meth c n0 Q h k n (mkF m pc Ls (.int y :: .int x :: st)) := by
  subst hp hz; exact own_of (fun T L X t hr => XS.iand X.here C.1 rfl (hb C.2.2.2.1 hd) rfl hr) K
theorem own_ixor (C : own_Cx Z p s m meth c own bytes ml rt nm) {x y z : Int32} (hd : decode bytes pc = .ok (.ixor, 1)) (hz : x ^^^ y = z) (hp : pc + 1 = pc')
    (K : own_At p l e R s m args below meth c n0 Q h k n (mkF m pc' Ls (.int z :: st))) : own_At p l e R s m args below meth c n0 Q h k n (mkF m pc Ls (.int y :: .int x :: st)) := by
  subst hp hz; exact own_of (fun T L X t hr => XS.ixor X.here C.1 rfl (hb C.2.2.2.1 hd) rfl hr) K
theorem own_ishr (C : own_Cx Z p s m meth c own bytes ml rt nm) {x y z : Int32} (hd : decode bytes pc = .ok (.ishr, 1)) (hz : x >>> (y &&& 31) = z) (hp : pc + 1 = pc')
    (K : own_At p l e R s m args below meth c n0 Q h k n (mkF m pc' Ls (.int z :: st))) : own_At p l e R s m args below meth c n0 Q h k n (mkF m pc Ls (.int y :: .int x :: st)) := by
  subst hp hz; exact own_of (fun T L X t hr => XS.ishr X.here C.1 rfl (hb C.2.2.2.1 hd) rfl hr) K
theorem own_ishl (C : own_Cx Z p s m meth c own bytes ml rt nm) {x y z : Int32} (hd : decode bytes pc = .ok (.ishl, 1)) (hz : x <<< (y &&& 31) = z) (hp : pc + 1 = pc')
    (K : own_At p l e R s m args below meth c n0 Q h k n (mkF m pc' Ls (.int z :: st))) : own_At p l e R s m args below meth c n0 Q h k n (mkF m pc Ls (.int y :: .int x :: st)) := by
  subst hp hz; exact own_of (fun T L X t hr => XS.ishl X.here C.1 rfl (hb C.2.2.2.1 hd) rfl hr) K
theorem own_ineg (C : own_Cx Z p s m meth c own bytes ml rt nm) {x z : Int32} (hd : decode bytes pc = .ok (.ineg, 1)) (hz : -x = z) (hp : pc + 1 = pc')
    (K : own_At p l e R s m args below meth c n0 Q h k n (mkF m pc' Ls (.int z :: st))) : own_At p l e R s m args below meth c n0 Q h k n (mkF m pc Ls (.int x :: st)) := by
  subst hp hz; exact own_of (fun T L X t hr => XS.ineg X.here C.1 rfl (hb C.2.2.2.1 hd) rfl hr) K
theorem own_i2b (C : own_Cx Z p s m meth c own bytes ml rt nm) {x z : Int32} (hd : decode bytes pc = .ok (.i2b, 1)) (hz : x.toInt8.toInt32 = z) (hp : pc + 1 = pc')
    (K : own_At p l e R s m args below meth c n0 Q h k n (mkF m pc' Ls (.int z :: st))) : own_At p l e R s m args below meth c n0 Q h k n (mkF m pc Ls (.int x :: st)) := by
  subst hp hz; exact own_of (fun T L X t hr => XS.i2b X.here C.1 rfl (hb C.2.2.2.1 hd) rfl hr) K
theorem own_pop (C : own_Cx Z p s m meth c own bytes ml rt nm) {x : Value} (hd : decode bytes pc = .ok (.pop, 1)) (hx : x.category = 1) (hp : pc + 1 = pc')
    (K : own_At p l e R s m args below meth c n0 Q h k n (mkF m pc' Ls st)) : own_At p l e R s m args below meth c n0 Q h k n (mkF m pc Ls (x :: st)) := by
  subst hp; exact own_of (fun T L X t hr => XS.pop X.here C.1 rfl (hb C.2.2.2.1 hd) rfl hx hr) K
theorem own_irem (C : own_Cx Z p s m meth c own bytes ml rt nm) {x y z : Int32} (hd : decode bytes pc = .ok (.irem, 1)) (hy : y ≠ 0) (hz : x % y = z) (hp : pc + 1 = pc')
    (K : own_At p l e R s m args below meth c n0 Q h k n (mkF m pc' Ls (.int z :: st))) : own_At p l e R s m args below meth c n0 Q h k n (mkF m pc Ls (.int y :: .int x :: st)) := by
  subst hp hz; exact own_of (fun T L X t hr => iremM X C.1 rfl (hb C.2.2.2.1 hd) rfl hy hr) K
theorem own_idiv (C : own_Cx Z p s m meth c own bytes ml rt nm) {x y z : Int32} (hd : decode bytes pc = .ok (.idiv, 1)) (hy : y ≠ 0) (hz : x / y = z) (hp : pc + 1 = pc')
    (K : own_At p l e R s m args below meth c n0 Q h k n (mkF m pc' Ls (.int z :: st))) : own_At p l e R s m args below meth c n0 Q h k n (mkF m pc Ls (.int y :: .int x :: st)) := by
  subst hp hz; exact own_of (fun T L X t hr => XS.idiv X.here C.1 rfl (hb C.2.2.2.1 hd) rfl hy hr) K
theorem own_dup (C : own_Cx Z p s m meth c own bytes ml rt nm) {x : Value} (hd : decode bytes pc = .ok (.dup, 1)) (hx : x.category = 1) (hp : pc + 1 = pc')
    (K : own_At p l e R s m args below meth c n0 Q h k n (mkF m pc' Ls (x :: x :: st))) : own_At p l e R s m args below meth c n0 Q h k n (mkF m pc Ls (x :: st)) := by
  subst hp; exact own_of (fun T L X t hr => XS.dup X.here C.1 rfl (hb C.2.2.2.1 hd) rfl hx hr) K
theorem own_iinc (C : own_Cx Z p s m meth c own bytes ml rt nm) {i : Nat} {d : Int} {v w : Int32} (hd : decode bytes pc = .ok (.iinc i d, 3)) (hl : Ls[i]? = some (.val (.int v))) (hw : v + Int32.ofInt d = w) (hs : storeLocals Ls i (.int w) = some Ls') (hp : pc + 3 = pc')
    (K : own_At p l e R s m args below meth c n0 Q h k n (mkF m pc' Ls' st)) : own_At p l e R s m args below meth c n0 Q h k n (mkF m pc Ls st) := by
  subst hp hw; exact own_of (fun T L X t hr => XS.iinc X.here C.1 rfl (hb C.2.2.2.1 hd) hl hs hr) K
theorem own_goto (C : own_Cx Z p s m meth c own bytes ml rt nm) {o : Int} (hd : decode bytes pc = .ok (.goto o, 3)) (ho : 0 ≤ (pc : Int) + o) (hp : ((pc : Int) + o).toNat = pc')
    (K : own_At p l e R s m args below meth c n0 Q h k n (mkF m pc' Ls st)) : own_At p l e R s m args below meth c n0 Q h k n (mkF m pc Ls st) :=
  own_of (fun T L X t hr => XS.goto X.here C.1 rfl (pc0 := pc) rfl (hb C.2.2.2.1 hd) ho hp hr) K
theorem own_ifY (C : own_Cx Z p s m meth c own bytes ml rt nm) {cd : ClassFile.Cond} {x : Int32} {o : Int} (hd : decode bytes pc = .ok (.ifCond cd o, 3)) (hc : ifCond.holds cd x = true) (ho : 0 ≤ (pc : Int) + o) (hp : ((pc : Int) + o).toNat = pc')
    (K : own_At p l e R s m args below meth c n0 Q h k n (mkF m pc' Ls st)) : own_At p l e R s m args below meth c n0 Q h k n (mkF m pc Ls (.int x :: st)) :=
  own_of (fun T L X t hr => XS.ifYes X.here C.1 rfl (pc0 := pc) rfl (hb C.2.2.2.1 hd) rfl hc ho hp hr) K
theorem own_ifN (C : own_Cx Z p s m meth c own bytes ml rt nm) {cd : ClassFile.Cond} {x : Int32} {o : Int} (hd : decode bytes pc = .ok (.ifCond cd o, 3)) (hc : ifCond.holds cd x = false) (hp : pc + 3 = pc')
    (K : own_At p l e R s m args below meth c n0 Q h k n (mkF m pc' Ls st)) : own_At p l e R s m args below meth c n0 Q h k n (mkF m pc Ls (.int x :: st)) := by
  subst hp; exact own_of (fun T L X t hr => XS.ifNo X.here C.1 rfl (hb C.2.2.2.1 hd) rfl hc hr) K
theorem own_icmpY (C : own_Cx Z p s m meth c own bytes ml rt nm) {cd : ClassFile.Cond} {x y : Int32} {o : Int} (hd : decode bytes pc = .ok (.if_icmp cd o, 3)) (hc : if_icmp.holds cd x y = true) (ho : 0 ≤ (pc : Int) + o) (hp : ((pc : Int) + o).toNat = pc')
    (K : own_At p l e R s m args below meth c n0 Q h k n (mkF m pc' Ls st)) : own_At p l e R s m args below meth c n0 Q h k n (mkF m pc Ls (.int y :: .int x :: st)) :=
  own_of (fun T L X t hr => XS.icmpYes X.here C.1 rfl (pc0 := pc) rfl (hb C.2.2.2.1 hd) rfl hc ho hp hr) K
theorem own_icmpN (C : own_Cx Z p s m meth c own bytes ml rt nm) {cd : ClassFile.Cond} {x y : Int32} {o : Int} (hd : decode bytes pc = .ok (.if_icmp cd o, 3)) (hc : if_icmp.holds cd x y = false) (hp : pc + 3 = pc')
    (K : own_At p l e R s m args below meth c n0 Q h k n (mkF m pc' Ls st)) : own_At p l e R s m args below meth c n0 Q h k n (mkF m pc Ls (.int y :: .int x :: st)) := by
  subst hp; exact own_of (fun T L X t hr => XS.icmpNo X.here C.1 rfl (hb C.2.2.2.1 hd) rfl hc hr) K
theorem own_acmp (C : own_Cx Z p s m meth c own bytes ml rt nm) {cd : ACond} {x y : Value} {o : Int} {same : Bool} (hd : decode bytes pc = .ok (.if_acmp cd o, 3)) (h1 : x.isRef = true) (h2 : y.isRef = true) (hq : decide (x = y) = same) (ho : 0 ≤ (pc : Int) + o) (hp : pc' = if acV cd same = true then ((pc : Int) + o).toNat else pc + 3)
    (K : own_At p l e R s m args below meth c n0 Q h k n (mkF m pc' Ls st)) : own_At p l e R s m args below meth c n0 Q h k n (mkF m pc Ls (y :: x :: st)) :=
  own_of (fun T L X t hr => RoadKit.acmp (g := mkF m pc Ls (y :: x :: st)) X C.1 rfl h1 h2 (pc0 := pc) rfl (hb C.2.2.2.1 hd) rfl hq ho hp hr) K
theorem own_same (a : Addr) : decide ((Value.ref a) = .ref a) = true := decide_eq_true rfl
theorem own_unlike {a b : Addr} (q : a ≠ b) : decide ((Value.ref a) = .ref b) = false := decide_eq_false fun z => q (Value.ref.inj z)
theorem own_nullY (C : own_Cx Z p s m meth c own bytes ml rt nm) {o : Int} (hd : decode bytes pc = .ok (.ifnull o, 3)) (ho : 0 ≤ (pc : Int) + o) (hp : ((pc : Int) + o).toNat = pc')
    (K : own_At p l e R s m args below meth c n0 Q h k n (mkF m pc' Ls st)) : own_At p l e R s m args below meth c n0 Q h k n (mkF m pc Ls (.null :: st)) :=
  own_of (fun T L X t hr => XS.ifnullYes X.here C.1 rfl (pc0 := pc) rfl (hb C.2.2.2.1 hd) rfl ho hp hr) K
theorem own_nullN (C : own_Cx Z p s m meth c own bytes ml rt nm) {o : Int} {a : Addr} (hd : decode bytes pc = .ok (.ifnull o, 3)) (hp : pc + 3 = pc')
    (K : own_At p l e R s m args below meth c n0 Q h k n (mkF m pc' Ls st)) : own_At p l e R s m args below meth c n0 Q h k n (mkF m pc Ls (.ref a :: st)) := by
  subst hp; exact own_of (fun T L X t hr => XS.ifnullNo X.here C.1 rfl (hb C.2.2.2.1 hd) rfl hr) K
theorem own_nonnullY (C : own_Cx Z p s m meth c own bytes ml rt nm) {o : Int} {a : Addr} (hd : decode bytes pc = .ok (.ifnonnull o, 3)) (ho : 0 ≤ (pc : Int) + o) (hp : ((pc : Int) + o).toNat = pc')
    (K : own_At p l e R s m args below meth c n0 Q h k n (mkF m pc' Ls st)) : own_At p l e R s m args below meth c n0 Q h k n (mkF m pc Ls (.ref a :: st)) :=
  own_of (fun T L X t hr => XS.ifnonnullYes X.here C.1 rfl (pc0 := pc) rfl (hb C.2.2.2.1 hd) rfl ho hp hr) K
theorem own_nonnullN (C : own_Cx Z p s m meth c own bytes ml rt nm) {o : Int} (hd : decode bytes pc = .ok (.ifnonnull o, 3)) (hp : pc + 3 = pc')
    (K : own_At p l e R s m args below meth c n0 Q h k n (mkF m pc' Ls st)) : own_At p l e R s m args below meth c n0 Q h k n (mkF m pc Ls (.null :: st)) := by
  subst hp; exact own_of (fun T L X t hr => XS.ifnonnullNo X.here C.1 rfl (hb C.2.2.2.1 hd) rfl hr) K
/-! ### reads and writes -/
theorem own_getstatic (C : own_Cx Z p s m meth c own bytes ml rt nm) {O f d : String} {i : Nat} {v : Value} (w : (Cond.fieldLink own i O f d).before a0 Z = true) (F : Sta Z h O f d v) (hd : decode bytes pc = .ok (.getstatic i, 3)) (hp : pc + 3 = pc')
    (K : own_At p l e R s m args below meth c n0 Q h k n (mkF m pc' Ls (v :: st))) : own_At p l e R s m args below meth c n0 Q h k n (mkF m pc Ls st) := by
  subst hp
  intro T L X N eT
  obtain ⟨T', X', e', stp⟩ := getS2 X C.1 C.2.1 C.2.2.1 (host := "") (Or.inl w) Via.refl eT F (g := mkF m pc Ls st) rfl (hb C.2.2.2.1 hd)
  exact own_via stp (K T' L X' N e')
theorem own_getfield (C : own_Cx Z p s m meth c own bytes ml rt nm) {R0 O f d : String} {i : Nat} {a : Addr} {v : Value} (w : (Cond.fieldLink own i R0 f d).before a0 Z = true) (via : Via Z R0 O f d) (F : Fld Z h a O f d v) (hd : decode bytes pc = .ok (.getfield i, 3)) (hp : pc + 3 = pc')
    (K : own_At p l e R s m args below meth c n0 Q h k n (mkF m pc' Ls (v :: st))) : own_At p l e R s m args below meth c n0 Q h k n (mkF m pc Ls (.ref a :: st)) := by
  subst hp
  intro T L X N eT
  obtain ⟨T', X', e', stp⟩ := getF X C.1 C.2.1 C.2.2.1 (host := "") (Or.inl w) via eT F (g := mkF m pc Ls (.ref a :: st)) rfl rfl (hb C.2.2.2.1 hd)
  exact own_via stp (K T' L X' N e')
/-! ### returns -/
theorem own_back (C : own_Cx Z p s m meth c own bytes ml rt nm) {v : Option Value} (hv : rt = none → v = none) (hk : k ≤ R.cells) (hn : n ≤ R.slots) (hQ : Q v h)
    (H : ∀ T L, Stand p l e R s m args below meth c T L k n → ∀ fs, (∀ (f : JFrame) (acts : List Action), f.method = m → f.locked = none → f.entered = [] → (doReturn e (T.setTop f) acts v).1 = T.setFrames fs) → Steps p.tables e below (T.setTop f) (T.setFrames fs)) :
    own_At p l e R s m args below meth c n0 Q h k n f := by
  intro T L X N eT
  obtain ⟨fs, hr, hrun, hended, hW, hsame⟩ := X.leave (v := v) (fun q => hv (C.2.2.2.2.2.1.symm.trans q)) C.2.2.2.2.2.2.1
  exact ⟨_, _, H T L X fs hr, hrun, hended, _, _, rfl, ⟨by show Q v T.heap; rw [eT]; exact hQ, N⟩, ⟨_, rfl⟩, hW, hsame.mono hk hn⟩
theorem own_ireturn {t : FieldType} (C : own_Cx Z p s m meth c own bytes ml (some t) nm) {z : Int32} (ht : t = .int ∨ t = .boolean ∨ t = .byte ∨ t = .char ∨ t = .short) (hn : narrow t (.int z) = .int z) (hd : decode bytes pc = .ok (.ireturn, 1)) (hk : k ≤ R.cells) (hs : n ≤ R.slots) (hQ : Q (some (.int z)) h) :
    own_At p l e R s m args below meth c n0 Q h k n (mkF m pc Ls (.int z :: st)) :=
  own_back C (fun q => nomatch q) hk hs hQ fun T L X fs hr => retOut X C.1 C.2.2.2.2.2.1 hn (Or.inl ⟨rfl, ht, _, rfl⟩) (hb C.2.2.2.1 hd) hr
theorem own_dreturn (C : own_Cx Z p s m meth c own bytes ml (some .double) nm) {z : UInt64} (hd : decode bytes pc = .ok (.dreturn, 1)) (hk : k ≤ R.cells) (hs : n ≤ R.slots) (hQ : Q (some (.double z)) h) :
    own_At p l e R s m args below meth c n0 Q h k n (mkF m pc Ls (.double z :: st)) :=
  own_back C (fun q => nomatch q) hk hs hQ fun T L X fs hr => retOut X C.1 C.2.2.2.2.2.1 rfl (Or.inr (Or.inr (Or.inl ⟨rfl, rfl, _, rfl⟩))) (hb C.2.2.2.1 hd) hr
theorem own_areturn {t : FieldType} (C : own_Cx Z p s m meth c own bytes ml (some t) nm) {v : Value} (ht : t.isReference = true) (hv : v.isRef = true) (hd : decode bytes pc = .ok (.areturn, 1)) (hk : k ≤ R.cells) (hs : n ≤ R.slots) (hQ : Q (some v) h) :
    own_At p l e R s m args below meth c n0 Q h k n (mkF m pc Ls (v :: st)) :=
  own_back C (fun q => nomatch q) hk hs hQ fun T L X fs hr => retOut X C.1 C.2.2.2.2.2.1 (by cases t <;> simp [FieldType.isReference] at ht <;> cases v <;> simp [Value.isRef] at hv <;> rfl) (Or.inr (Or.inr (Or.inr (Or.inr ⟨rfl, ht, hv⟩)))) (hb C.2.2.2.1 hd) hr
theorem own_return (C : own_Cx Z p s m meth c own bytes ml none nm) (hd : decode bytes pc = .ok (.return_, 1)) (hk : k ≤ R.cells) (hs : n ≤ R.slots) (hQ : Q none h) :
    own_At p l e R s m args below meth c n0 Q h k n (mkF m pc Ls []) :=
  own_back C (fun _ => rfl) hk hs hQ fun T L X fs hr => X.returnOut C.1 C.2.2.2.2.2.1 (hb C.2.2.2.1 hd) hr
/-! ### contracts and calls -/
def own_Met (l : Launch) (Z : State) (y : MethodName) (bytes : ByteArray) (maxL : Nat) (rt : Option FieldType) (ws : List Jvm.Cond) (rm : Room) (n0 : Nat) (as' : Array Value) (h : Heap) (Q : Option Value → Heap → Prop) : Prop :=
  MetFree l y (head1 (Jvm.Cond.code y bytes maxL rt :: ws) rm) (fun a U => a = as' ∧ Z.Warmed39 U.vm ∧ U.heap = h) (fun _ _ _ _ _ => True) (fun _ U o U' => ∃ v L, o = .returned v ∧ (Q v U'.heap ∧ Fr n0 L) ∧ FrameEnd U o U' L rm.cells rm.slots)
def own_val (P : Value → Heap → Prop) (v : Option Value) (h : Heap) : Prop := ∃ w, v = some w ∧ P w h
def own_nov (P : Heap → Prop) (v : Option Value) (h : Heap) : Prop := v = none ∧ P h
theorem own_met {y : MethodName} {ws : List Jvm.Cond} {rm : Room} {as' : Array Value} (hy : plainFor y = true) (hf : Jvm.Sym.laidSlots as'.toList ++ List.replicate (ml - (Jvm.Sym.laidSlots as'.toList).length) .unset = Ls.toList)
    (H : ∀ p e s m below meth c, own_Cx Z p s m meth c y.cls bytes ml rt y.name → own_At p l e rm s m as' below meth c n0 Q h 0 0 (mkF m 0 Ls [])) : own_Met l Z y bytes ml rt ws rm n0 as' h Q := by
  refine MetFree.of_bodySF hy hisR ?_
  intro p e s m args below meth c s₁ Bd hml0 hP hK
  obtain ⟨rfl, hZ, hh⟩ := hP
  have X0 : Stand p l e rm s m _ below meth c s₁ [] 0 0 := Stand.of_body Bd
  have e0 : s₁.heap = h := by rw [← hh, Bd.state]; rfl
  have K := H p e s m below meth c ⟨Bd.exec, hZ, findClass_of_methodNamed Bd.named, Bd.bytes, hml0, Bd.returns, Bd.notSynchronized, (name_of_methodNamed Bd.named Bd.method).1⟩ s₁ [] X0 (Fr.nil n0) e0
  have hq : argsToLocals args ml = Ls := Array.toList_inj.mp (by rw [Jvm.Sym.argsToLocals_toList]; exact hf)
  have hq2 : entryFrame m args ml = mkF m 0 (argsToLocals args ml) [] := rfl
  rw [hq2, hq]
  exact K
/-- it returns v and leaves the heap as it was -/
def own_pure (v : Value) (h : Heap) (u : Option Value) (h' : Heap) : Prop := u = some v ∧ h' = h
section Calls
variable {y : MethodName} {bytes' : ByteArray} {maxL' : Nat} {rt' : Option FieldType} {rm : Room} {argsL : List Value} {W i : Nat} {P : Value → Heap → Prop} {P0 : Heap → Prop}
theorem own_callS0 {Q' : Option Value → Heap → Prop} (C : own_Cx Z p s m meth c own bytes ml rt nm) (M : own_Met l Z y bytes' maxL' rt' [] rm n0 argsL.toArray h Q') (w1 : (Cond.methodLink own i y).before a0 Z = true) (w2 : (Cond.static y).before a0 Z = true) (w3 : (Cond.initialized y.cls).before a0 Z = true) (w4 : (Cond.code y bytes' maxL' rt').before a0 Z = true)
    (hy : y.cls ≠ "java/lang/invoke/MethodHandle" ∧ y.cls ≠ "java/lang/invoke/VarHandle") (hd : decode bytes pc = .ok (.invokestatic i, 3)) (hs : Ls.size = ml) (hst : st = argsL.reverse ++ rest) (hlen : ∀ sig, parseMethodDescriptor y.desc = some sig → argsL.length = sig.parameters.length) (hW : (rest.map fun v => v.category).sum ≤ W) (hf : rm.frames + 1 ≤ R.frames) (hl : W + (maxL' + 11) + rm.locals ≤ R.locals) (hc : k + rm.cells ≤ R.cells) (hn : n + rm.slots ≤ R.slots) (hp : pc + 3 = pc')
    (K : ∀ v h', Q' v h' → own_At p l e R s m args below meth c n0 Q h' (k + rm.cells) (n + rm.slots) (mkF m pc' Ls (v.toList ++ rest))) : own_At p l e R s m args below meth c n0 Q h k n (mkF m pc Ls st) := by
  subst hp
  intro T L X N eT
  obtain ⟨v, _, ⟨T', L', k', n'⟩, -, X', ⟨Lc, ⟨hQ, N'⟩, l', y', z'⟩, stp⟩ := Jvm.LawKit.callS X C.1 (y := y) C.2.2.1 (mvT C.2.1 w1) (mvT C.2.1 w2) (mvT C.2.1 w3) (mvT C.2.1 w4) hy
    (backOf (Q := fun v h' L => Q' v h' ∧ Fr n0 L) (len := 3) (W := W) (p := p) (e := e) (below := below) (args := args) M C.2.1 w4 w3 hf hl) (g := mkF m pc Ls st) rfl (hs.trans C.2.2.2.2.1.symm) (argsL := argsL) (rest := rest) hlen hst (by show 2 * 0 + _ ≤ _; omega) (hb C.2.2.2.1 hd) (fun _ _ => ⟨rfl, eT, hc, hn⟩)
  dsimp only [Pt.U, Pt.locs, Pt.cells, Pt.slots] at X' l' y' z' stp hQ
  subst l' y' z'
  exact own_via stp (K v _ hQ T' _ X' (Fr.app N N') rfl)
theorem own_callS (C : own_Cx Z p s m meth c own bytes ml rt nm) (M : own_Met l Z y bytes' maxL' rt' [] rm n0 argsL.toArray h  (own_val P)) (w1 : (Cond.methodLink own i y).before a0 Z = true) (w2 : (Cond.static y).before a0 Z = true) (w3 : (Cond.initialized y.cls).before a0 Z = true) (w4 : (Cond.code y bytes' maxL' rt').before a0 Z = true)
    (hy : y.cls ≠ "java/lang/invoke/MethodHandle" ∧ y.cls ≠ "java/lang/invoke/VarHandle") (hd : decode bytes pc = .ok (.invokestatic i, 3)) (hs : Ls.size = ml) (hst : st = argsL.reverse ++ rest) (hlen : ∀ sig, parseMethodDescriptor y.desc = some sig → argsL.length = sig.parameters.length) (hW : (rest.map fun v => v.category).sum ≤ W) (hf : rm.frames + 1 ≤ R.frames) (hl : W + (maxL' + 11) + rm.locals ≤ R.locals) (hc : k + rm.cells ≤ R.cells) (hn : n + rm.slots ≤ R.slots) (hp : pc + 3 = pc')
    (K : ∀ w h', P w h' → own_At p l e R s m args below meth c n0 Q h' (k + rm.cells) (n + rm.slots) (mkF m pc' Ls (w :: rest))) : own_At p l e R s m args below meth c n0 Q h k n (mkF m pc Ls st) :=
  own_callS0 C M w1 w2 w3 w4 hy hd hs hst hlen hW hf hl hc hn hp (by rintro _ h' ⟨w, rfl, q⟩; exact K w h' q)
theorem own_callSp {v : Value} (C : own_Cx Z p s m meth c own bytes ml rt nm) (M : own_Met l Z y bytes' maxL' rt' [] rm n0 argsL.toArray h  (own_pure v h)) (w1 : (Cond.methodLink own i y).before a0 Z = true) (w2 : (Cond.static y).before a0 Z = true) (w3 : (Cond.initialized y.cls).before a0 Z = true) (w4 : (Cond.code y bytes' maxL' rt').before a0 Z = true)
    (hy : y.cls ≠ "java/lang/invoke/MethodHandle" ∧ y.cls ≠ "java/lang/invoke/VarHandle") (hd : decode bytes pc = .ok (.invokestatic i, 3)) (hs : Ls.size = ml) (hst : st = argsL.reverse ++ rest) (hlen : ∀ sig, parseMethodDescriptor y.desc = some sig → argsL.length = sig.parameters.length) (hW : (rest.map fun v => v.category).sum ≤ W) (hf : rm.frames + 1 ≤ R.frames) (hl : W + (maxL' + 11) + rm.locals ≤ R.locals) (hc : rm.cells = 0) (hn : rm.slots = 0) (hk : k ≤ R.cells) (hk' : n ≤ R.slots) (hp : pc + 3 = pc')
    (K : own_At p l e R s m args below meth c n0 Q h k n (mkF m pc' Ls (v :: rest))) : own_At p l e R s m args below meth c n0 Q h k n (mkF m pc Ls st) :=
  own_callS0 C M w1 w2 w3 w4 hy hd hs hst hlen hW hf hl (by rw [hc]; exact hk) (by rw [hn]; exact hk') hp (by rintro _ h' ⟨rfl, rfl⟩; rw [hc, hn]; exact K)
theorem own_callSV (C : own_Cx Z p s m meth c own bytes ml rt nm) (M : own_Met l Z y bytes' maxL' rt' [] rm n0 argsL.toArray h  (own_nov P0)) (w1 : (Cond.methodLink own i y).before a0 Z = true) (w2 : (Cond.static y).before a0 Z = true) (w3 : (Cond.initialized y.cls).before a0 Z = true) (w4 : (Cond.code y bytes' maxL' rt').before a0 Z = true)
    (hy : y.cls ≠ "java/lang/invoke/MethodHandle" ∧ y.cls ≠ "java/lang/invoke/VarHandle") (hd : decode bytes pc = .ok (.invokestatic i, 3)) (hs : Ls.size = ml) (hst : st = argsL.reverse ++ rest) (hlen : ∀ sig, parseMethodDescriptor y.desc = some sig → argsL.length = sig.parameters.length) (hW : (rest.map fun v => v.category).sum ≤ W) (hf : rm.frames + 1 ≤ R.frames) (hl : W + (maxL' + 11) + rm.locals ≤ R.locals) (hc : k + rm.cells ≤ R.cells) (hn : n + rm.slots ≤ R.slots) (hp : pc + 3 = pc')
    (K : ∀ h', P0 h' → own_At p l e R s m args below meth c n0 Q h' (k + rm.cells) (n + rm.slots) (mkF m pc' Ls rest)) : own_At p l e R s m args below meth c n0 Q h k n (mkF m pc Ls st) :=
  own_callS0 C M w1 w2 w3 w4 hy hd hs hst hlen hW hf hl hc hn hp (by rintro _ h' ⟨rfl, q⟩; exact K h' q)
theorem own_callV0 {Q' : Option Value → Heap → Prop} {a : Addr} {Cn : String} (C : own_Cx Z p s m meth c own bytes ml rt nm) (E : Exa Z h a Cn) (M : own_Met l Z y bytes' maxL' rt' [] rm n0 (Value.ref a :: argsL).toArray h Q') (w1 : (Cond.methodLink own i y).before a0 Z = true) (w2 : (Cond.declares y).before a0 Z = true) (w5 : (Cond.selects Cn y y).before a0 Z = true) (w6 : (Cond.instanceMethod y).before a0 Z = true) (w3 : (Cond.initialized y.cls).before a0 Z = true) (w4 : (Cond.code y bytes' maxL' rt').before a0 Z = true)
    (hy : y.cls ≠ "java/lang/invoke/MethodHandle" ∧ y.cls ≠ "java/lang/invoke/VarHandle") (hd : decode bytes pc = .ok (.invokevirtual i, 3)) (hs : Ls.size = ml) (hst : st = argsL.reverse ++ .ref a :: rest) (hlen : ∀ sig, parseMethodDescriptor y.desc = some sig → argsL.length = sig.parameters.length) (hW : (rest.map fun v => v.category).sum ≤ W) (hf : rm.frames + 1 ≤ R.frames) (hl : W + (maxL' + 11) + rm.locals ≤ R.locals) (hc : k + rm.cells ≤ R.cells) (hn : n + rm.slots ≤ R.slots) (hp : pc + 3 = pc')
    (K : ∀ v h', Q' v h' → own_At p l e R s m args below meth c n0 Q h' (k + rm.cells) (n + rm.slots) (mkF m pc' Ls (v.toList ++ rest))) : own_At p l e R s m args below meth c n0 Q h k n (mkF m pc Ls st) := by
  subst hp
  intro T L X N eT
  obtain ⟨cq, kq, qa, qb, qc⟩ := isOf C.2.1 eT E
  obtain ⟨v, _, ⟨T', L', k', n'⟩, -, X', ⟨Lc, ⟨hQ, N'⟩, l', y', z'⟩, stp⟩ := X.virtualBack C.1 (y := y) (z := y) C.2.2.1 (mvT C.2.1 w1) (mvT C.2.1 w2) (notFace_of_selects (args := #[]) (mvT C.2.1 w5)) (mvT C.2.1 w5) (mvT C.2.1 w6) hy
    (backOf (Q := fun v h' L => Q' v h' ∧ Fr n0 L) (len := 3) (W := W) (p := p) (e := e) (below := below) (args := args) M C.2.1 w4 w3 hf hl) qa qc (g := mkF m pc Ls st) rfl (hs.trans C.2.2.2.2.1.symm) (Steps.refl _) (argsL := argsL) (rest := rest) hlen hst (by show 2 * 0 + _ ≤ _; omega) (hb C.2.2.2.1 hd) (fun _ _ => ⟨rfl, eT, hc, hn⟩)
  dsimp only [Pt.U, Pt.locs, Pt.cells, Pt.slots] at X' l' y' z' stp hQ
  subst l' y' z'
  exact own_via (fun t q => stp.trans q) (K v _ hQ T' _ X' (Fr.app N N') rfl)
theorem own_callV {a : Addr} {Cn : String} (C : own_Cx Z p s m meth c own bytes ml rt nm) (E : Exa Z h a Cn) (M : own_Met l Z y bytes' maxL' rt' [] rm n0 (Value.ref a :: argsL).toArray h  (own_val P)) (w1 : (Cond.methodLink own i y).before a0 Z = true) (w2 : (Cond.declares y).before a0 Z = true) (w5 : (Cond.selects Cn y y).before a0 Z = true) (w6 : (Cond.instanceMethod y).before a0 Z = true) (w3 : (Cond.initialized y.cls).before a0 Z = true) (w4 : (Cond.code y bytes' maxL' rt').before a0 Z = true)
    (hy : y.cls ≠ "java/lang/invoke/MethodHandle" ∧ y.cls ≠ "java/lang/invoke/VarHandle") (hd : decode bytes pc = .ok (.invokevirtual i, 3)) (hs : Ls.size = ml) (hst : st = argsL.reverse ++ .ref a :: rest) (hlen : ∀ sig, parseMethodDescriptor y.desc = some sig → argsL.length = sig.parameters.length) (hW : (rest.map fun v => v.category).sum ≤ W) (hf : rm.frames + 1 ≤ R.frames) (hl : W + (maxL' + 11) + rm.locals ≤ R.locals) (hc : k + rm.cells ≤ R.cells) (hn : n + rm.slots ≤ R.slots) (hp : pc + 3 = pc')
    (K : ∀ w h', P w h' → own_At p l e R s m args below meth c n0 Q h' (k + rm.cells) (n + rm.slots) (mkF m pc' Ls (w :: rest))) : own_At p l e R s m args below meth c n0 Q h k n (mkF m pc Ls st) :=
  own_callV0 C E M w1 w2 w5 w6 w3 w4 hy hd hs hst hlen hW hf hl hc hn hp (by rintro _ h' ⟨w, rfl, q⟩; exact K w h' q)
theorem own_callVp {v : Value} {a : Addr} {Cn : String} (C : own_Cx Z p s m meth c own bytes ml rt nm) (E : Exa Z h a Cn) (M : own_Met l Z y bytes' maxL' rt' [] rm n0 (Value.ref a :: argsL).toArray h  (own_pure v h)) (w1 : (Cond.methodLink own i y).before a0 Z = true) (w2 : (Cond.declares y).before a0 Z = true) (w5 : (Cond.selects Cn y y).before a0 Z = true) (w6 : (Cond.instanceMethod y).before a0 Z = true) (w3 : (Cond.initialized y.cls).before a0 Z = true) (w4 : (Cond.code y bytes' maxL' rt').before a0 Z = true)
    (hy : y.cls ≠ "java/lang/invoke/MethodHandle" ∧ y.cls ≠ "java/lang/invoke/VarHandle") (hd : decode bytes pc = .ok (.invokevirtual i, 3)) (hs : Ls.size = ml) (hst : st = argsL.reverse ++ .ref a :: rest) (hlen : ∀ sig, parseMethodDescriptor y.desc = some sig → argsL.length = sig.parameters.length) (hW : (rest.map fun v => v.category).sum ≤ W) (hf : rm.frames + 1 ≤ R.frames) (hl : W + (maxL' + 11) + rm.locals ≤ R.locals) (hc : rm.cells = 0) (hn : rm.slots = 0) (hk : k ≤ R.cells) (hk' : n ≤ R.slots) (hp : pc + 3 = pc')
    (K : own_At p l e R s m args below meth c n0 Q h k n (mkF m pc' Ls (v :: rest))) : own_At p l e R s m args below meth c n0 Q h k n (mkF m pc Ls st) :=
  own_callV0 C E M w1 w2 w5 w6 w3 w4 hy hd hs hst hlen hW hf hl (by rw [hc]; exact hk) (by rw [hn]; exact hk') hp (by rintro _ h' ⟨rfl, rfl⟩; rw [hc, hn]; exact K)
theorem own_callVV {a : Addr} {Cn : String} (C : own_Cx Z p s m meth c own bytes ml rt nm) (E : Exa Z h a Cn) (M : own_Met l Z y bytes' maxL' rt' [] rm n0 (Value.ref a :: argsL).toArray h  (own_nov P0)) (w1 : (Cond.methodLink own i y).before a0 Z = true) (w2 : (Cond.declares y).before a0 Z = true) (w5 : (Cond.selects Cn y y).before a0 Z = true) (w6 : (Cond.instanceMethod y).before a0 Z = true) (w3 : (Cond.initialized y.cls).before a0 Z = true) (w4 : (Cond.code y bytes' maxL' rt').before a0 Z = true)
    (hy : y.cls ≠ "java/lang/invoke/MethodHandle" ∧ y.cls ≠ "java/lang/invoke/VarHandle") (hd : decode bytes pc = .ok (.invokevirtual i, 3)) (hs : Ls.size = ml) (hst : st = argsL.reverse ++ .ref a :: rest) (hlen : ∀ sig, parseMethodDescriptor y.desc = some sig → argsL.length = sig.parameters.length) (hW : (rest.map fun v => v.category).sum ≤ W) (hf : rm.frames + 1 ≤ R.frames) (hl : W + (maxL' + 11) + rm.locals ≤ R.locals) (hc : k + rm.cells ≤ R.cells) (hn : n + rm.slots ≤ R.slots) (hp : pc + 3 = pc')
    (K : ∀ h', P0 h' → own_At p l e R s m args below meth c n0 Q h' (k + rm.cells) (n + rm.slots) (mkF m pc' Ls rest)) : own_At p l e R s m args below meth c n0 Q h k n (mkF m pc Ls st) :=
  own_callV0 C E M w1 w2 w5 w6 w3 w4 hy hd hs hst hlen hW hf hl hc hn hp (by rintro _ h' ⟨rfl, q⟩; exact K h' q)
theorem own_callF0 {Q' : Option Value → Heap → Prop} {a : Addr} {Cn : String} {z : MethodName} {cnt : Nat} (C : own_Cx Z p s m meth c own bytes ml rt nm) (E : Exa Z h a Cn) (M : own_Met l Z z bytes' maxL' rt' [] rm n0 (Value.ref a :: argsL).toArray h Q') (w1 : (Cond.methodLink own i y).before a0 Z = true) (w2 : (Cond.declares y).before a0 Z = true) (w7 : (Cond.interfaceMethod y.cls y.cls y.name y.desc).before a0 Z = true) (w5 : (Cond.selects Cn y z).before a0 Z = true) (w6 : (Cond.instanceMethod z).before a0 Z = true) (w8 : (Cond.publicMethod z).before a0 Z = true) (w9 : (Cond.unhidden Cn y.name y.desc).before a0 Z = true) (w10 : (Cond.castable Cn y.cls).before a0 Z = true) (w3 : (Cond.initialized z.cls).before a0 Z = true) (w4 : (Cond.code z bytes' maxL' rt').before a0 Z = true)
    (hy : y.cls ≠ "java/lang/invoke/MethodHandle" ∧ y.cls ≠ "java/lang/invoke/VarHandle") (hd : decode bytes pc = .ok (.invokeinterface i cnt, 5)) (hs : Ls.size = ml) (hst : st = argsL.reverse ++ .ref a :: rest) (hlen : ∀ sig, parseMethodDescriptor y.desc = some sig → argsL.length = sig.parameters.length) (hW : (rest.map fun v => v.category).sum ≤ W) (hf : rm.frames + 1 ≤ R.frames) (hl : W + (maxL' + 11) + rm.locals ≤ R.locals) (hc : k + rm.cells ≤ R.cells) (hn : n + rm.slots ≤ R.slots) (hp : pc + 5 = pc')
    (K : ∀ v h', Q' v h' → own_At p l e R s m args below meth c n0 Q h' (k + rm.cells) (n + rm.slots) (mkF m pc' Ls (v.toList ++ rest))) : own_At p l e R s m args below meth c n0 Q h k n (mkF m pc Ls st) := by
  subst hp
  intro T L X N eT
  obtain ⟨cq, kq, qa, qb, qc⟩ := isOf C.2.1 eT E
  obtain ⟨v, _, ⟨T', L', k', n'⟩, -, X', ⟨Lc, ⟨hQ, N'⟩, l', y', z'⟩, stp⟩ := X.interfaceBack C.1 (xi := y) (y := z) C.2.2.1 (mvT C.2.1 w1) (mvT C.2.1 w2) (mvT C.2.1 w7 (by simp [Cond.onTables, Cond.keepsFace, Cond.keeps, Cond.steady, Cond.faceAtom, hy.1, hy.2])) (mvT C.2.1 w5) (mvT C.2.1 w6) (mvT C.2.1 w8) (mvT C.2.1 w9) (mvT C.2.1 w10) hy
    (backOf (Q := fun v h' L => Q' v h' ∧ Fr n0 L) (len := 5) (W := W) (p := p) (e := e) (below := below) (args := args) M C.2.1 w4 w3 hf hl) qa qb qc (g := mkF m pc Ls st) rfl (hs.trans C.2.2.2.2.1.symm) (Steps.refl _) (argsL := argsL) (rest := rest) hlen hst (by show 2 * 0 + _ ≤ _; omega) (hb C.2.2.2.1 hd) (fun _ _ => ⟨rfl, eT, hc, hn⟩)
  dsimp only [Pt.U, Pt.locs, Pt.cells, Pt.slots] at X' l' y' z' stp hQ
  subst l' y' z'
  exact own_via (fun t q => stp.trans q) (K v _ hQ T' _ X' (Fr.app N N') rfl)
theorem own_callF {a : Addr} {Cn : String} {z : MethodName} {cnt : Nat} (C : own_Cx Z p s m meth c own bytes ml rt nm) (E : Exa Z h a Cn) (M : own_Met l Z z bytes' maxL' rt' [] rm n0 (Value.ref a :: argsL).toArray h  (own_val P)) (w1 : (Cond.methodLink own i y).before a0 Z = true) (w2 : (Cond.declares y).before a0 Z = true) (w7 : (Cond.interfaceMethod y.cls y.cls y.name y.desc).before a0 Z = true) (w5 : (Cond.selects Cn y z).before a0 Z = true) (w6 : (Cond.instanceMethod z).before a0 Z = true) (w8 : (Cond.publicMethod z).before a0 Z = true) (w9 : (Cond.unhidden Cn y.name y.desc).before a0 Z = true) (w10 : (Cond.castable Cn y.cls).before a0 Z = true) (w3 : (Cond.initialized z.cls).before a0 Z = true) (w4 : (Cond.code z bytes' maxL' rt').before a0 Z = true)
    (hy : y.cls ≠ "java/lang/invoke/MethodHandle" ∧ y.cls ≠ "java/lang/invoke/VarHandle") (hd : decode bytes pc = .ok (.invokeinterface i cnt, 5)) (hs : Ls.size = ml) (hst : st = argsL.reverse ++ .ref a :: rest) (hlen : ∀ sig, parseMethodDescriptor y.desc = some sig → argsL.length = sig.parameters.length) (hW : (rest.map fun v => v.category).sum ≤ W) (hf : rm.frames + 1 ≤ R.frames) (hl : W + (maxL' + 11) + rm.locals ≤ R.locals) (hc : k + rm.cells ≤ R.cells) (hn : n + rm.slots ≤ R.slots) (hp : pc + 5 = pc')
    (K : ∀ w h', P w h' → own_At p l e R s m args below meth c n0 Q h' (k + rm.cells) (n + rm.slots) (mkF m pc' Ls (w :: rest))) : own_At p l e R s m args below meth c n0 Q h k n (mkF m pc Ls st) :=
  own_callF0 C E M w1 w2 w7 w5 w6 w8 w9 w10 w3 w4 hy hd hs hst hlen hW hf hl hc hn hp (by rintro _ h' ⟨w, rfl, q⟩; exact K w h' q)
theorem own_callFp {v : Value} {a : Addr} {Cn : String} {z : MethodName} {cnt : Nat} (C : own_Cx Z p s m meth c own bytes ml rt nm) (E : Exa Z h a Cn) (M : own_Met l Z z bytes' maxL' rt' [] rm n0 (Value.ref a :: argsL).toArray h  (own_pure v h)) (w1 : (Cond.methodLink own i y).before a0 Z = true) (w2 : (Cond.declares y).before a0 Z = true) (w7 : (Cond.interfaceMethod y.cls y.cls y.name y.desc).before a0 Z = true) (w5 : (Cond.selects Cn y z).before a0 Z = true) (w6 : (Cond.instanceMethod z).before a0 Z = true) (w8 : (Cond.publicMethod z).before a0 Z = true) (w9 : (Cond.unhidden Cn y.name y.desc).before a0 Z = true) (w10 : (Cond.castable Cn y.cls).before a0 Z = true) (w3 : (Cond.initialized z.cls).before a0 Z = true) (w4 : (Cond.code z bytes' maxL' rt').before a0 Z = true)
    (hy : y.cls ≠ "java/lang/invoke/MethodHandle" ∧ y.cls ≠ "java/lang/invoke/VarHandle") (hd : decode bytes pc = .ok (.invokeinterface i cnt, 5)) (hs : Ls.size = ml) (hst : st = argsL.reverse ++ .ref a :: rest) (hlen : ∀ sig, parseMethodDescriptor y.desc = some sig → argsL.length = sig.parameters.length) (hW : (rest.map fun v => v.category).sum ≤ W) (hf : rm.frames + 1 ≤ R.frames) (hl : W + (maxL' + 11) + rm.locals ≤ R.locals) (hc : rm.cells = 0) (hn : rm.slots = 0) (hk : k ≤ R.cells) (hk' : n ≤ R.slots) (hp : pc + 5 = pc')
    (K : own_At p l e R s m args below meth c n0 Q h k n (mkF m pc' Ls (v :: rest))) : own_At p l e R s m args below meth c n0 Q h k n (mkF m pc Ls st) :=
  own_callF0 C E M w1 w2 w7 w5 w6 w8 w9 w10 w3 w4 hy hd hs hst hlen hW hf hl (by rw [hc]; exact hk) (by rw [hn]; exact hk') hp (by rintro _ h' ⟨rfl, rfl⟩; rw [hc, hn]; exact K)
theorem own_callFV {a : Addr} {Cn : String} {z : MethodName} {cnt : Nat} (C : own_Cx Z p s m meth c own bytes ml rt nm) (E : Exa Z h a Cn) (M : own_Met l Z z bytes' maxL' rt' [] rm n0 (Value.ref a :: argsL).toArray h  (own_nov P0)) (w1 : (Cond.methodLink own i y).before a0 Z = true) (w2 : (Cond.declares y).before a0 Z = true) (w7 : (Cond.interfaceMethod y.cls y.cls y.name y.desc).before a0 Z = true) (w5 : (Cond.selects Cn y z).before a0 Z = true) (w6 : (Cond.instanceMethod z).before a0 Z = true) (w8 : (Cond.publicMethod z).before a0 Z = true) (w9 : (Cond.unhidden Cn y.name y.desc).before a0 Z = true) (w10 : (Cond.castable Cn y.cls).before a0 Z = true) (w3 : (Cond.initialized z.cls).before a0 Z = true) (w4 : (Cond.code z bytes' maxL' rt').before a0 Z = true)
    (hy : y.cls ≠ "java/lang/invoke/MethodHandle" ∧ y.cls ≠ "java/lang/invoke/VarHandle") (hd : decode bytes pc = .ok (.invokeinterface i cnt, 5)) (hs : Ls.size = ml) (hst : st = argsL.reverse ++ .ref a :: rest) (hlen : ∀ sig, parseMethodDescriptor y.desc = some sig → argsL.length = sig.parameters.length) (hW : (rest.map fun v => v.category).sum ≤ W) (hf : rm.frames + 1 ≤ R.frames) (hl : W + (maxL' + 11) + rm.locals ≤ R.locals) (hc : k + rm.cells ≤ R.cells) (hn : n + rm.slots ≤ R.slots) (hp : pc + 5 = pc')
    (K : ∀ h', P0 h' → own_At p l e R s m args below meth c n0 Q h' (k + rm.cells) (n + rm.slots) (mkF m pc' Ls rest)) : own_At p l e R s m args below meth c n0 Q h k n (mkF m pc Ls st) :=
  own_callF0 C E M w1 w2 w7 w5 w6 w8 w9 w10 w3 w4 hy hd hs hst hlen hW hf hl hc hn hp (by rintro _ h' ⟨rfl, q⟩; exact K h' q)
theorem own_callP0 {Q' : Option Value → Heap → Prop} {a : Addr} {Cn : String} (C : own_Cx Z p s m meth c own bytes ml rt nm) (E : Exa Z h a Cn) (M : own_Met l Z y bytes' maxL' rt' [] rm n0 (Value.ref a :: argsL).toArray h Q') (w1 : (Cond.methodLink own i y).before a0 Z = true) (w6 : (Cond.instanceMethod y).before a0 Z = true) (w5 : (Cond.selects y.cls y y).before a0 Z = true) (w8 : (Cond.privateMethod y).before a0 Z = true) (w3 : (Cond.initialized y.cls).before a0 Z = true) (w4 : (Cond.code y bytes' maxL' rt').before a0 Z = true)
    (hy : y.cls ≠ "java/lang/invoke/MethodHandle" ∧ y.cls ≠ "java/lang/invoke/VarHandle") (hd : decode bytes pc = .ok (.invokevirtual i, 3)) (hs : Ls.size = ml) (hst : st = argsL.reverse ++ .ref a :: rest) (hlen : ∀ sig, parseMethodDescriptor y.desc = some sig → argsL.length = sig.parameters.length) (hW : (rest.map fun v => v.category).sum ≤ W) (hf : rm.frames + 1 ≤ R.frames) (hl : W + (maxL' + 11) + rm.locals ≤ R.locals) (hc : k + rm.cells ≤ R.cells) (hn : n + rm.slots ≤ R.slots) (hp : pc + 3 = pc')
    (K : ∀ v h', Q' v h' → own_At p l e R s m args below meth c n0 Q h' (k + rm.cells) (n + rm.slots) (mkF m pc' Ls (v.toList ++ rest))) : own_At p l e R s m args below meth c n0 Q h k n (mkF m pc Ls st) := by
  subst hp
  intro T L X N eT
  obtain ⟨cq, q1, q2⟩ := E.cell
  obtain ⟨v, _, ⟨T', L', k', n'⟩, -, X', ⟨Lc, ⟨hQ, N'⟩, l', y', z'⟩, stp⟩ := X.privateBack C.1 (y := y) C.2.2.1 (mvT C.2.1 w1) (mvT C.2.1 w6) (mvT C.2.1 w5) (Cond.privateMethod_at (mvP C.2.1 w8 (args := #[]))) (mvT C.2.1 w4) hy
    (backOf (Q := fun v h' L => Q' v h' ∧ Fr n0 L) (len := 3) (W := W) (p := p) (e := e) (below := below) (args := args) M C.2.1 w4 w3 hf hl) (g := mkF m pc Ls st) rfl (hs.trans C.2.2.2.2.1.symm) (Steps.refl _) (a := a) (by rw [eT]; exact q1) q2 (argsL := argsL) (rest := rest) hlen hst (by show 2 * 0 + _ ≤ _; omega) (hb C.2.2.2.1 hd) (fun _ _ => ⟨rfl, eT, hc, hn⟩)
  dsimp only [Pt.U, Pt.locs, Pt.cells, Pt.slots] at X' l' y' z' stp hQ
  subst l' y' z'
  exact own_via (fun t q => stp.trans q) (K v _ hQ T' _ X' (Fr.app N N') rfl)
theorem own_callP {a : Addr} {Cn : String} (C : own_Cx Z p s m meth c own bytes ml rt nm) (E : Exa Z h a Cn) (M : own_Met l Z y bytes' maxL' rt' [] rm n0 (Value.ref a :: argsL).toArray h  (own_val P)) (w1 : (Cond.methodLink own i y).before a0 Z = true) (w6 : (Cond.instanceMethod y).before a0 Z = true) (w5 : (Cond.selects y.cls y y).before a0 Z = true) (w8 : (Cond.privateMethod y).before a0 Z = true) (w3 : (Cond.initialized y.cls).before a0 Z = true) (w4 : (Cond.code y bytes' maxL' rt').before a0 Z = true)
    (hy : y.cls ≠ "java/lang/invoke/MethodHandle" ∧ y.cls ≠ "java/lang/invoke/VarHandle") (hd : decode bytes pc = .ok (.invokevirtual i, 3)) (hs : Ls.size = ml) (hst : st = argsL.reverse ++ .ref a :: rest) (hlen : ∀ sig, parseMethodDescriptor y.desc = some sig → argsL.length = sig.parameters.length) (hW : (rest.map fun v => v.category).sum ≤ W) (hf : rm.frames + 1 ≤ R.frames) (hl : W + (maxL' + 11) + rm.locals ≤ R.locals) (hc : k + rm.cells ≤ R.cells) (hn : n + rm.slots ≤ R.slots) (hp : pc + 3 = pc')
    (K : ∀ w h', P w h' → own_At p l e R s m args below meth c n0 Q h' (k + rm.cells) (n + rm.slots) (mkF m pc' Ls (w :: rest))) : own_At p l e R s m args below meth c n0 Q h k n (mkF m pc Ls st) :=
  own_callP0 C E M w1 w6 w5 w8 w3 w4 hy hd hs hst hlen hW hf hl hc hn hp (by rintro _ h' ⟨w, rfl, q⟩; exact K w h' q)
theorem own_callPp {v : Value} {a : Addr} {Cn : String} (C : own_Cx Z p s m meth c own bytes ml rt nm) (E : Exa Z h a Cn) (M : own_Met l Z y bytes' maxL' rt' [] rm n0 (Value.ref a :: argsL).toArray h  (own_pure v h)) (w1 : (Cond.methodLink own i y).before a0 Z = true) (w6 : (Cond.instanceMethod y).before a0 Z = true) (w5 : (Cond.selects y.cls y y).before a0 Z = true) (w8 : (Cond.privateMethod y).before a0 Z = true) (w3 : (Cond.initialized y.cls).before a0 Z = true) (w4 : (Cond.code y bytes' maxL' rt').before a0 Z = true)
    (hy : y.cls ≠ "java/lang/invoke/MethodHandle" ∧ y.cls ≠ "java/lang/invoke/VarHandle") (hd : decode bytes pc = .ok (.invokevirtual i, 3)) (hs : Ls.size = ml) (hst : st = argsL.reverse ++ .ref a :: rest) (hlen : ∀ sig, parseMethodDescriptor y.desc = some sig → argsL.length = sig.parameters.length) (hW : (rest.map fun v => v.category).sum ≤ W) (hf : rm.frames + 1 ≤ R.frames) (hl : W + (maxL' + 11) + rm.locals ≤ R.locals) (hc : rm.cells = 0) (hn : rm.slots = 0) (hk : k ≤ R.cells) (hk' : n ≤ R.slots) (hp : pc + 3 = pc')
    (K : own_At p l e R s m args below meth c n0 Q h k n (mkF m pc' Ls (v :: rest))) : own_At p l e R s m args below meth c n0 Q h k n (mkF m pc Ls st) :=
  own_callP0 C E M w1 w6 w5 w8 w3 w4 hy hd hs hst hlen hW hf hl (by rw [hc]; exact hk) (by rw [hn]; exact hk') hp (by rintro _ h' ⟨rfl, rfl⟩; rw [hc, hn]; exact K)
theorem own_callPV {a : Addr} {Cn : String} (C : own_Cx Z p s m meth c own bytes ml rt nm) (E : Exa Z h a Cn) (M : own_Met l Z y bytes' maxL' rt' [] rm n0 (Value.ref a :: argsL).toArray h  (own_nov P0)) (w1 : (Cond.methodLink own i y).before a0 Z = true) (w6 : (Cond.instanceMethod y).before a0 Z = true) (w5 : (Cond.selects y.cls y y).before a0 Z = true) (w8 : (Cond.privateMethod y).before a0 Z = true) (w3 : (Cond.initialized y.cls).before a0 Z = true) (w4 : (Cond.code y bytes' maxL' rt').before a0 Z = true)
    (hy : y.cls ≠ "java/lang/invoke/MethodHandle" ∧ y.cls ≠ "java/lang/invoke/VarHandle") (hd : decode bytes pc = .ok (.invokevirtual i, 3)) (hs : Ls.size = ml) (hst : st = argsL.reverse ++ .ref a :: rest) (hlen : ∀ sig, parseMethodDescriptor y.desc = some sig → argsL.length = sig.parameters.length) (hW : (rest.map fun v => v.category).sum ≤ W) (hf : rm.frames + 1 ≤ R.frames) (hl : W + (maxL' + 11) + rm.locals ≤ R.locals) (hc : k + rm.cells ≤ R.cells) (hn : n + rm.slots ≤ R.slots) (hp : pc + 3 = pc')
    (K : ∀ h', P0 h' → own_At p l e R s m args below meth c n0 Q h' (k + rm.cells) (n + rm.slots) (mkF m pc' Ls rest)) : own_At p l e R s m args below meth c n0 Q h k n (mkF m pc Ls st) :=
  own_callP0 C E M w1 w6 w5 w8 w3 w4 hy hd hs hst hlen hW hf hl hc hn hp (by rintro _ h' ⟨rfl, q⟩; exact K h' q)
theorem own_callI0 {Q' : Option Value → Heap → Prop} {a : Addr} (C : own_Cx Z p s m meth c own bytes ml rt nm) (hi : y.name = "<init>") (M : own_Met l Z y bytes' maxL' none [] rm n0 (Value.ref a :: argsL).toArray h Q') (w1 : (Cond.methodLink own i y).before a0 Z = true) (w6 : (Cond.instanceMethod y).before a0 Z = true) (w3 : (Cond.initialized y.cls).before a0 Z = true) (w4 : (Cond.code y bytes' maxL' none).before a0 Z = true)
    (hy : y.cls ≠ "java/lang/invoke/MethodHandle" ∧ y.cls ≠ "java/lang/invoke/VarHandle") (hd : decode bytes pc = .ok (.invokespecial i, 3)) (hs : Ls.size = ml) (hst : st = argsL.reverse ++ .ref a :: rest) (hlen : ∀ sig, parseMethodDescriptor y.desc = some sig → argsL.length = sig.parameters.length) (hW : (rest.map fun v => v.category).sum ≤ W) (hf : rm.frames + 1 ≤ R.frames) (hl : W + (maxL' + 11) + rm.locals ≤ R.locals) (hc : k + rm.cells ≤ R.cells) (hn : n + rm.slots ≤ R.slots) (hp : pc + 3 = pc')
    (K : ∀ v h', Q' v h' → own_At p l e R s m args below meth c n0 Q h' (k + rm.cells) (n + rm.slots) (mkF m pc' Ls (v.toList ++ rest))) : own_At p l e R s m args below meth c n0 Q h k n (mkF m pc Ls st) := by
  subst hp
  intro T L X N eT
  obtain ⟨v, _, ⟨T', L', k', n'⟩, -, X', ⟨Lc, ⟨hQ, N'⟩, l', y', z'⟩, stp⟩ := X.specialBack C.1 (y := y) hi C.2.2.1 (mvT C.2.1 w1) (mvT C.2.1 w6) (mvT C.2.1 w4) hy
    (backOf (Q := fun v h' L => Q' v h' ∧ Fr n0 L) (len := 3) (W := W) (p := p) (e := e) (below := below) (args := args) M C.2.1 w4 w3 hf hl) (g := mkF m pc Ls st) rfl (hs.trans C.2.2.2.2.1.symm) (Steps.refl _) (a := a) (argsL := argsL) (rest := rest) hlen hst (by show 2 * 0 + _ ≤ _; omega) (hb C.2.2.2.1 hd) (fun _ _ => ⟨rfl, eT, hc, hn⟩)
  dsimp only [Pt.U, Pt.locs, Pt.cells, Pt.slots] at X' l' y' z' stp hQ
  subst l' y' z'
  exact own_via (fun t q => stp.trans q) (K v _ hQ T' _ X' (Fr.app N N') rfl)
theorem own_callI {a : Addr} (C : own_Cx Z p s m meth c own bytes ml rt nm) (hi : y.name = "<init>") (M : own_Met l Z y bytes' maxL' none [] rm n0 (Value.ref a :: argsL).toArray h  (own_nov P0)) (w1 : (Cond.methodLink own i y).before a0 Z = true) (w6 : (Cond.instanceMethod y).before a0 Z = true) (w3 : (Cond.initialized y.cls).before a0 Z = true) (w4 : (Cond.code y bytes' maxL' none).before a0 Z = true)
    (hy : y.cls ≠ "java/lang/invoke/MethodHandle" ∧ y.cls ≠ "java/lang/invoke/VarHandle") (hd : decode bytes pc = .ok (.invokespecial i, 3)) (hs : Ls.size = ml) (hst : st = argsL.reverse ++ .ref a :: rest) (hlen : ∀ sig, parseMethodDescriptor y.desc = some sig → argsL.length = sig.parameters.length) (hW : (rest.map fun v => v.category).sum ≤ W) (hf : rm.frames + 1 ≤ R.frames) (hl : W + (maxL' + 11) + rm.locals ≤ R.locals) (hc : k + rm.cells ≤ R.cells) (hn : n + rm.slots ≤ R.slots) (hp : pc + 3 = pc')
    (K : ∀ h', P0 h' → own_At p l e R s m args below meth c n0 Q h' (k + rm.cells) (n + rm.slots) (mkF m pc' Ls rest)) : own_At p l e R s m args below meth c n0 Q h k n (mkF m pc Ls st) :=
  own_callI0 C hi M w1 w6 w3 w4 hy hd hs hst hlen hW hf hl hc hn hp (by rintro _ h' ⟨rfl, q⟩; exact K h' q)
theorem own_init0 {a : Addr} (C : own_Cx Z p s m meth c own bytes ml rt nm) (w1 : (Cond.methodLink own i Lib.objectInit).before a0 Z = true) (w2 : (Cond.instanceMethod Lib.objectInit).before a0 Z = true) (w4 : (Cond.code Lib.objectInit ⟨#[0xb1]⟩ 1 none).before a0 Z = true)
    (hd : decode bytes pc = .ok (.invokespecial i, 3)) (hs : Ls.size = ml) (hW : (rest.map fun v => v.category).sum ≤ W) (hf : 1 ≤ R.frames) (hl : W + 12 ≤ R.locals) (hp : pc + 3 = pc')
    (K : own_At p l e R s m args below meth c n0 Q h k n (mkF m pc' Ls rest)) : own_At p l e R s m args below meth c n0 Q h k n (mkF m pc Ls (.ref a :: rest)) := by
  subst hp
  intro T L X N eT
  obtain ⟨T', X', e', stp⟩ := initO X C.1 C.2.1 C.2.2.1 w1 w2 w4 eT (g := mkF m pc Ls (.ref a :: rest)) rfl (hs.trans C.2.2.2.2.1.symm) rfl (hb C.2.2.2.1 hd) hf (W := W) (by show 2 * 0 + _ ≤ _; omega) hl
  exact own_via stp (K T' L X' N e')
end Calls

/-! ### the enum constants of a case -/
def own_En (Z : State) (h : Heap) (C n : String) (d : String) (i : Int32) (a : Addr) : Prop := Sta Z h C n d (.ref a) ∧ Exa Z h a C ∧ Fld Z h a "java/lang/Enum" "ordinal" "I" (.int i)
theorem own_En.ext {h' : Heap} {C f d : String} {i : Int32} {a : Addr} (E : Ext h h') (F : own_En Z h C f d i a) : own_En Z h' C f d i a := ⟨F.1.ext E, F.2.1.ext E, F.2.2.ext E⟩
theorem own_En.ne {C f d g d' : String} {i j : Int32} {a b : Addr} (F : own_En Z h C f d i a) (G : own_En Z h C g d' j b) (q : i ≠ j) : a ≠ b := F.2.2.ne G.2.2 fun z => q (Value.int.inj z)
theorem own_fldv {t : Term} {FC ff : String} {i : Int32} {a : Addr} (ea : t.eval args Z none [] Z = some (.ref a)) (hO : (Cond.eq (.field t FC ff "I") (.int i)).value args Z none Z [] = some true) : Fld Z Z.heap a FC ff "I" (.int i) := by
  refine Fld.start ?_
  obtain ⟨x, y, e1, e2, k1, k2⟩ := cmp_v (Or.inl hO)
  have e3 : y = .int i := by simpa [Term.eval] using e2.symm
  subst e3
  obtain ⟨z, rfl⟩ : ∃ z, x = .int z := k2
  have e4 : z = i := by simpa [Cond.value, e1, e2] using hO
  subst e4
  rw [← fld_at ea]; exact e1
theorem own_sfld {C f d FC ff : String} {i : Int32} {a : Addr} (S : Sta Z Z.heap C f d (.ref a)) (hO : (Cond.eq (.field (.static C f d) FC ff "I") (.int i)).value args Z none Z [] = some true) : Fld Z Z.heap a FC ff "I" (.int i) :=
  own_fldv (S.fin (Vm.Alike.refl _)) hO
theorem own_enum {C f d : String} {i : Int32} (hX : (Cond.exactly (.static C f d) C).value args Z none Z [] = some true) (hO : (Cond.eq (.field (.static C f d) "java/lang/Enum" "ordinal" "I") (.int i)).value args Z none Z [] = some true) (w1 : (Cond.initialized C).before args Z = true) (w2 : (Cond.laysStatic C f d).before args Z = true) : ∃ a, own_En Z Z.heap C f d i a := by
  obtain ⟨a, ea⟩ := exa_v hX
  exact ⟨a, Sta.start ea (Or.inr ⟨w1, w2⟩), Exa.start ea hX, own_fldv ea hO⟩
end OwnKit
/-! The heap part: objects and arrays with known contents. -/
section OwnHeap
variable {p : Program} {l : Launch} {e : Env} {R : Room} {s : State} {m : MethodId} {args : Array Value} {below : List Frame} {meth : Method} {c : Code} {Z : State} {n0 : Nat} {own : String} {bytes : ByteArray} {ml : Nat} {rt : Option FieldType} {nm : String} {Q : Option Value → Heap → Prop} {h h' : Heap} {k n : Nat} {pc pc' : Nat} {Ls Ls' : Array Slot} {st rest : List Value} {a0 : Array Value} {f f' : JFrame}
/-- an object at a, exactly of class C; the fields that lay names hold vs -/
def own_Ob (Z : State) (h : Heap) (a : Addr) (C : String) (lay : List (String × String × String)) (vs : List Value) : Prop :=
  Exa Z h a C ∧ lay.length = vs.length ∧ ∀ (i : Nat) (x : String × String × String) (v : Value), lay[i]? = some x → vs[i]? = some v → Fld Z h a x.1 x.2.1 x.2.2 v
def own_LayOk (Z : State) (a0 : Array Value) (C : String) (lay : List (String × String × String)) : Prop :=
  (lay.map fun x => x.2.1).Nodup ∧ ∀ x ∈ lay, Laid Z a0 C x.1 x.2.1 x.2.2 ∧ ∃ t, parseFieldDescriptor x.2.2 = some t
theorem own_Ob.ext {a : Addr} {C : String} {lay : List (String × String × String)} {vs : List Value} (F : own_Ob Z h a C lay vs) (E : Ext h h') : own_Ob Z h' a C lay vs := ⟨F.1.ext E, F.2.1, fun i x v h1 h2 => (F.2.2 i x v h1 h2).ext E⟩
theorem own_Ob.other {a b : Addr} {C : String} {lay : List (String × String × String)} {vs : List Value} {sl : Nat} {v : Value} (F : own_Ob Z h b C lay vs) (W : Wr h h' a sl v) (q : b ≠ a) : own_Ob Z h' b C lay vs := ⟨F.1.wr W, F.2.1, fun i x v h1 h2 => (F.2.2 i x v h1 h2).other W (Or.inl q)⟩
theorem own_Ob.keep {a : Addr} {C : String} {lay : List (String × String × String)} {vs : List Value} {ws : List Addr} (F : own_Ob Z h a C lay vs) (K : Keep h h' ws) (q : a ∉ ws) : own_Ob Z h' a C lay vs := ⟨F.1.keep K, F.2.1, fun i x v h1 h2 => (F.2.2 i x v h1 h2).keep K q⟩
theorem own_Ob.lt {a : Nat} {C : String} {lay : List (String × String × String)} {vs : List Value} (F : own_Ob Z h a C lay vs) : a < h.size := F.1.lt
theorem own_Ob.get {a : Addr} {C O f d : String} {lay : List (String × String × String)} {vs : List Value} {v : Value} (F : own_Ob Z h a C lay vs) (i : Nat) (h1 : lay[i]? = some (O, f, d)) (h2 : vs[i]? = some v) : Fld Z h a O f d v := F.2.2 i _ v h1 h2
theorem own_Ob.put {a : Addr} {C O f d : String} {lay : List (String × String × String)} {vs vs' : List Value} {v : Value} (F : own_Ob Z h a C lay vs) (ok : own_LayOk Z a0 C lay) (i : Nat) (h1 : lay[i]? = some (O, f, d)) (W : Wr h h' a (RoadKit.slotOf Z O f d) v) (e : vs.set i v = vs') : own_Ob Z h' a C lay vs' := by
  subst e
  refine ⟨F.1.wr W, by simpa using F.2.1, fun j x w h3 h4 => ?_⟩
  by_cases q : j = i
  · subst q
    cases h1.symm.trans h3
    have hi : j < vs.length := by rw [← F.2.1]; exact (List.getElem?_eq_some_iff.mp h1).1
    obtain rfl : v = w := by simpa [hi] using h4
    exact (F.2.2 j (O, f, d) vs[j] h1 (List.getElem?_eq_getElem hi)).same W
  · rw [List.getElem?_set_ne (Ne.symm q)] at h4
    obtain ⟨lx, tx, px⟩ := ok.2 x (List.mem_of_getElem? h3)
    obtain ⟨lf, tf, pf⟩ := ok.2 _ (List.mem_of_getElem? h1)
    refine (F.2.2 j x w h3 h4).other W (Or.inr (slot_ne lx lf (fun z => q ?_) px pf))
    have h5 : (lay.map fun x => x.2.1)[j]? = some x.2.1 := by simp [h3]
    have h6 : (lay.map fun x => x.2.1)[i]? = some x.2.1 := by simp [h1, z]
    exact (List.getElem?_inj (List.getElem?_eq_some_iff.mp h5).1 ok.1).mp (h5.trans h6.symm)
def own_dflt (x : String × String × String) : Value := match parseFieldDescriptor x.2.2 with | some t => defaultValue t | none => .null
theorem own_newO (C : own_Cx Z p s m meth c own bytes ml rt nm) {Cn : String} {lay : List (String × String × String)} {vs : List Value} {i sl : Nat} (w : (Cond.classLink own i Cn).before a0 Z = true) (wi : (Cond.instantiable Cn sl).before a0 Z = true) (wz : (Cond.initialized Cn).before a0 Z = true) (ok : own_LayOk Z a0 Cn lay) (hv : lay.map own_dflt = vs) (hd : decode bytes pc = .ok (.new i, 3)) (hc : k + 1 ≤ R.cells) (hl : n + sl ≤ R.slots) (hp : pc + 3 = pc')
    (K : ∀ h' b, b = h.size → Ext h h' → own_Ob Z h' b Cn lay vs → own_At p l e R s m args below meth c n0 Q h' (k + 1) (n + sl) (mkF m pc' Ls (.ref b :: st))) :
    own_At p l e R s m args below meth c n0 Q h k n (mkF m pc Ls st) := by
  subst hp hv
  intro T L X N eT
  obtain ⟨T', h', X', e', E, A, D, -, stp⟩ := newO X C.1 C.2.1 C.2.2.1 w wi wz eT (g := mkF m pc Ls st) rfl (hb C.2.2.2.1 hd) hc hl
  refine own_via stp (K h' _ rfl E ⟨A, by simp, fun j x v h1 h2 => ?_⟩ T' L X' N e')
  obtain ⟨lx, tx, px⟩ := ok.2 x (List.mem_of_getElem? h1)
  have : v = defaultValue tx := by
    have : own_dflt x = v := by simpa [h1] using h2
    rw [← this, own_dflt, px]
  subst this
  exact D lx px
theorem own_getO (C : own_Cx Z p s m meth c own bytes ml rt nm) {R0 O f d Cn : String} {lay : List (String × String × String)} {vs : List Value} {i : Nat} {a : Addr} {v : Value} (w : (Cond.fieldLink own i R0 f d).before a0 Z = true) (via : Via Z R0 O f d) (F : own_Ob Z h a Cn lay vs) (j : Nat) (h1 : lay[j]? = some (O, f, d)) (h2 : vs[j]? = some v) (hd : decode bytes pc = .ok (.getfield i, 3)) (hp : pc + 3 = pc')
    (K : own_At p l e R s m args below meth c n0 Q h k n (mkF m pc' Ls (v :: st))) : own_At p l e R s m args below meth c n0 Q h k n (mkF m pc Ls (.ref a :: st)) :=
  own_getfield C w via (F.get j h1 h2) hd hp K
theorem own_getN (C : own_Cx Z p s m meth c own bytes ml rt nm) {R0 O f d Cn host : String} {lay : List (String × String × String)} {vs : List Value} {i : Nat} {a : Addr} {v : Value} (w : (Cond.fieldLinkNest own i R0 f d host).before a0 Z = true) (via : Via Z R0 O f d) (F : own_Ob Z h a Cn lay vs) (j : Nat) (h1 : lay[j]? = some (O, f, d)) (h2 : vs[j]? = some v) (hd : decode bytes pc = .ok (.getfield i, 3)) (hp : pc + 3 = pc')
    (K : own_At p l e R s m args below meth c n0 Q h k n (mkF m pc' Ls (v :: st))) : own_At p l e R s m args below meth c n0 Q h k n (mkF m pc Ls (.ref a :: st)) := by
  subst hp
  intro T L X N eT
  obtain ⟨T', X', e', stp⟩ := getF X C.1 C.2.1 C.2.2.1 (host := host) (Or.inr w) via eT (F.get j h1 h2) (g := mkF m pc Ls (.ref a :: st)) rfl rfl (hb C.2.2.2.1 hd)
  exact own_via stp (K T' L X' N e')
theorem own_putO (C : own_Cx Z p s m meth c own bytes ml rt nm) {R0 O f d Cn : String} {lay : List (String × String × String)} {vs vs' : List Value} {i kk : Nat} {ty : FieldType} {a : Addr} {v : Value} (w : (Cond.fieldLink own i R0 f d).before a0 Z = true) (via : Via Z R0 O f d) (F : own_Ob Z h a Cn lay vs) (ok : own_LayOk Z a0 Cn lay) (j : Nat) (h1 : lay[j]? = some (O, f, d)) (h2 : vs.set j v = vs')
    (Ly : (Cond.lays Cn O f d).before a0 Z = true ∨ ((Cond.laysFinal Cn O f d).before a0 Z = true ∧ own = O ∧ nm = "<init>")) (wi : (Cond.instantiable Cn kk).before a0 Z = true) (hty : parseFieldDescriptor d = some ty) (hn : narrow ty v = v) (hf : fits ty v = true) (ha : n0 ≤ a) (hd : decode bytes pc = .ok (.putfield i, 3)) (hp : pc + 3 = pc')
    (K : ∀ h', Wr h h' a (RoadKit.slotOf Z O f d) v → own_Ob Z h' a Cn lay vs' → own_At p l e R s m args below meth c n0 Q h' k n (mkF m pc' Ls st)) : own_At p l e R s m args below meth c n0 Q h k n (mkF m pc Ls (v :: .ref a :: st)) := by
  subst hp
  intro T L X N eT
  have hj : j < vs.length := by rw [← F.2.1]; exact (List.getElem?_eq_some_iff.mp h1).1
  obtain ⟨T', h', X', e', W, stp⟩ := putF X C.1 C.2.1 C.2.2.1 (host := "") (Or.inl w) via eT (F.get j h1 (List.getElem?_eq_getElem hj)) F.1 (Ly.imp id fun q => ⟨q.1, q.2.1, C.2.2.2.2.2.2.2.trans q.2.2⟩) wi hty hn hf (g := mkF m pc Ls (v :: .ref a :: st)) rfl rfl (hb C.2.2.2.1 hd)
  exact own_via stp (K h' W (F.put ok j h1 W h2) T' _ X' (Fr.snoc X' N ha) e')
/-- what may lie in an array of the class cA: the objects of K -/
def own_Ov (Z : State) (cA : ClassId) (K : String) : Prop := ∃ (k : Class) (comp : ClassId) (t : FieldType), Z.vm.classes[cA]? = some k ∧ k.kind = .array comp t ∧ Z.vm.findClass K = some comp
/-- an array at a, its elements the list vs; its class ad; K: the class of its elements ("": none is stored) -/
def own_Ar (Z : State) (h : Heap) (a : Addr) (ty : FieldType) (ad K : String) (vs : List Value) : Prop := ∃ cl : Cell, Arr Z h a cl ty ∧ cl.slots.toList = vs ∧ vs.length < 2 ^ 31 ∧ Exa Z h a ad ∧ (K = "" ∨ own_Ov Z cl.cls K)
section Arrays
variable {a b : Addr} {ty : FieldType} {ad Kc : String} {vs vs' : List Value} {j : Int32} {v : Value}
theorem own_Ar.ext (A : own_Ar Z h a ty ad Kc vs) (E : Ext h h') : own_Ar Z h' a ty ad Kc vs := by obtain ⟨cl, q, r1, r2, r3, r4⟩ := A; exact ⟨cl, q.ext E, r1, r2, r3.ext E, r4⟩
theorem own_Ar.other {sl : Nat} (A : own_Ar Z h b ty ad Kc vs) (W : Wr h h' a sl v) (q : b ≠ a) : own_Ar Z h' b ty ad Kc vs := by obtain ⟨cl, g, r1, r2, r3, r4⟩ := A; exact ⟨cl, g.other W q, r1, r2, r3.wr W, r4⟩
theorem own_Ar.keep {ws : List Addr} (A : own_Ar Z h a ty ad Kc vs) (K : Keep h h' ws) (q : a ∉ ws) : own_Ar Z h' a ty ad Kc vs := by obtain ⟨cl, g, r1, r2, r3, r4⟩ := A; exact ⟨cl, ⟨K.2.1 a cl g.1 q, g.2⟩, r1, r2, r3.keep K, r4⟩
theorem own_Ar.lt {a : Nat} (A : own_Ar Z h a ty ad Kc vs) : a < h.size := by obtain ⟨cl, g, -⟩ := A; exact g.lt
theorem own_Ar.exa (A : own_Ar Z h a ty ad Kc vs) : Exa Z h a ad := by obtain ⟨cl, g, r1, r2, r3, r4⟩ := A; exact r3
theorem own_Ar.same {i : Nat} (A : own_Ar Z h a ty ad Kc vs) (W : Wr h h' a i v) (e : vs.set i v = vs') : own_Ar Z h' a ty ad Kc vs' := by
  subst e
  obtain ⟨cl, g, r1, r2, r3, r4⟩ := A
  refine ⟨_, g.same W, ?_, by simpa using r2, r3.wr W, r4⟩
  subst r1
  simp [Cell.setSlot]
theorem own_idx {cl : Cell} (hs : cl.slots.toList = vs) (hj : ¬ j < 0) (hv : vs[j.toNatClampNeg]? = some v) : ¬ (j < 0 ∨ cl.slots.size ≤ j.toNatClampNeg) ∧ cl.slots[j.toNatClampNeg]? = some v := by
  subst hs
  have q : cl.slots[j.toNatClampNeg]? = some v := by simpa using hv
  have := (Array.getElem?_eq_some_iff.mp q).1
  exact ⟨fun z => z.elim hj (fun z => by omega), q⟩
theorem own_lt {cl : Cell} (hs : cl.slots.toList = vs) (hj : ¬ j < 0) (hv : j.toNatClampNeg < vs.length) : ¬ (j < 0 ∨ cl.slots.size ≤ j.toNatClampNeg) := by
  subst hs
  have : j.toNatClampNeg < cl.slots.size := by simpa using hv
  exact fun z => z.elim hj (fun z => by omega)
theorem own_Ar.sto {y : Addr} (A : own_Ar Z h a ty ad Kc vs) (hK : Kc ≠ "") (I : Ins Z h y Kc true) : Sto Z h a (.ref y) := by
  obtain ⟨cl, g, r1, r2, r3, r4⟩ := A
  obtain ⟨k, comp, t, o1, o2, o3⟩ := r4.resolve_left hK
  obtain ⟨cv, cT, i1, i2, i3⟩ := I
  cases o3.symm.trans i2
  simp only [Bool.and_eq_true, Bool.not_eq_true'] at i3
  obtain ⟨kc, q⟩ := Vm.classAt_of_findClass o3
  obtain ⟨kv, q2⟩ := Vm.classAt_of_assignable i3.2 ⟨kc, q⟩
  exact Or.inr ⟨cl, cv, k, kv, kc, _, _, y, g.1, o1, o2, q, rfl, i1, i3.1, q2, i3.2⟩
theorem own_arraylength (C : own_Cx Z p s m meth c own bytes ml rt nm) {z : Int32} (A : own_Ar Z h a ty ad Kc vs) (hz : vs.length.toInt32 = z) (hd : decode bytes pc = .ok (.arraylength, 1)) (hp : pc + 1 = pc')
    (K : own_At p l e R s m args below meth c n0 Q h k n (mkF m pc' Ls (.int z :: st))) : own_At p l e R s m args below meth c n0 Q h k n (mkF m pc Ls (.ref a :: st)) := by
  subst hp hz
  obtain ⟨cl, A, rfl, -⟩ := A
  intro T L X N eT
  exact own_via (fun t hr => X.arraylength C.1 (by rw [eT]; exact A.1) (State.isArrayOf_alike C.2.1.alike A.2.1) (g := mkF m pc Ls (.ref a :: st)) rfl rfl (hb C.2.2.2.1 hd) t (by simpa using hr)) (K T L X N eT)
theorem own_iaload (C : own_Cx Z p s m meth c own bytes ml rt nm) (A : own_Ar Z h a .int ad Kc vs) (hj : ¬ j < 0) (hv : vs[j.toNatClampNeg]? = some v) (hd : decode bytes pc = .ok (.iaload, 1)) (hp : pc + 1 = pc')
    (K : own_At p l e R s m args below meth c n0 Q h k n (mkF m pc' Ls (v :: st))) : own_At p l e R s m args below meth c n0 Q h k n (mkF m pc Ls (.int j :: .ref a :: st)) := by
  subst hp
  obtain ⟨cl, A, r, -⟩ := A
  obtain ⟨q1, q2⟩ := own_idx r hj hv
  intro T L X N eT
  exact own_via (fun t hr => X.iaload C.1 (j := j) (v := v) (by rw [eT]; exact A.1) (State.isArrayOf_alike C.2.1.alike A.2.1) A.2.2 q1 q2 (g := mkF m pc Ls (.int j :: .ref a :: st)) rfl rfl (hb C.2.2.2.1 hd) t hr) (K T L X N eT)
theorem own_baload (C : own_Cx Z p s m meth c own bytes ml rt nm) (A : own_Ar Z h a .byte ad Kc vs) (hj : ¬ j < 0) (hv : vs[j.toNatClampNeg]? = some v) (hd : decode bytes pc = .ok (.baload, 1)) (hp : pc + 1 = pc')
    (K : own_At p l e R s m args below meth c n0 Q h k n (mkF m pc' Ls (v :: st))) : own_At p l e R s m args below meth c n0 Q h k n (mkF m pc Ls (.int j :: .ref a :: st)) := by
  subst hp
  obtain ⟨cl, A, r, -⟩ := A
  obtain ⟨q1, q2⟩ := own_idx r hj hv
  intro T L X N eT
  exact own_via (fun t hr => X.baloadBytes C.1 (j := j) (v := v) (by rw [eT]; exact A.1) (State.isArrayOf_alike C.2.1.alike A.2.1) A.2.2 q1 q2 (g := mkF m pc Ls (.int j :: .ref a :: st)) rfl rfl (hb C.2.2.2.1 hd) t hr) (K T L X N eT)
theorem own_caload (C : own_Cx Z p s m meth c own bytes ml rt nm) (A : own_Ar Z h a .char ad Kc vs) (hj : ¬ j < 0) (hv : vs[j.toNatClampNeg]? = some v) (hd : decode bytes pc = .ok (.caload, 1)) (hp : pc + 1 = pc')
    (K : own_At p l e R s m args below meth c n0 Q h k n (mkF m pc' Ls (v :: st))) : own_At p l e R s m args below meth c n0 Q h k n (mkF m pc Ls (.int j :: .ref a :: st)) := by
  subst hp
  obtain ⟨cl, A, r, -⟩ := A
  obtain ⟨q1, q2⟩ := own_idx r hj hv
  intro T L X N eT
  exact own_via (fun t hr => X.caload C.1 (j := j) (v := v) (by rw [eT]; exact A.1) (State.isArrayOf_alike C.2.1.alike A.2.1) A.2.2 q1 q2 (g := mkF m pc Ls (.int j :: .ref a :: st)) rfl rfl (hb C.2.2.2.1 hd) t hr) (K T L X N eT)
theorem own_aaload (C : own_Cx Z p s m meth c own bytes ml rt nm) (A : own_Ar Z h a ty ad Kc vs) (hty : ty.isReference = true) (hj : ¬ j < 0) (hv : vs[j.toNatClampNeg]? = some v) (hd : decode bytes pc = .ok (.aaload, 1)) (hp : pc + 1 = pc')
    (K : own_At p l e R s m args below meth c n0 Q h k n (mkF m pc' Ls (v :: st))) : own_At p l e R s m args below meth c n0 Q h k n (mkF m pc Ls (.int j :: .ref a :: st)) := by
  subst hp
  obtain ⟨cl, A, r, -⟩ := A
  obtain ⟨q1, q2⟩ := own_idx r hj hv
  intro T L X N eT
  exact own_via (fun t hr => X.aaload C.1 (j := j) (v := v) (by rw [eT]; exact A.1) (State.isArrayOf_alike C.2.1.alike A.2.1) hty A.2.2 q1 q2 (g := mkF m pc Ls (.int j :: .ref a :: st)) rfl rfl (hb C.2.2.2.1 hd) t hr) (K T L X N eT)
theorem own_iastore (C : own_Cx Z p s m meth c own bytes ml rt nm) {x z : Int32} (A : own_Ar Z h a .int ad Kc vs) (hj : ¬ j < 0) (hv : j.toNatClampNeg < vs.length) (hz : x = z) (hs : vs.set j.toNatClampNeg (.int z) = vs') (ha : n0 ≤ a) (hd : decode bytes pc = .ok (.iastore, 1)) (hp : pc + 1 = pc')
    (K : ∀ h', Wr h h' a j.toNatClampNeg (.int z) → own_Ar Z h' a .int ad Kc vs' → own_At p l e R s m args below meth c n0 Q h' k n (mkF m pc' Ls st)) : own_At p l e R s m args below meth c n0 Q h k n (mkF m pc Ls (.int x :: .int j :: .ref a :: st)) := by
  subst hp hz
  have A0 := A
  obtain ⟨cl, A, r, -⟩ := A
  intro T L X N eT
  obtain ⟨T', h', X', e', W, stp⟩ := stI X C.1 C.2.1 eT A (own_lt r hj hv) (g := mkF m pc Ls (.int x :: .int j :: .ref a :: st)) rfl rfl (hb C.2.2.2.1 hd)
  exact own_via stp (K h' W (A0.same W hs) T' _ X' (Fr.snoc X' N ha) e')
theorem own_bastore (C : own_Cx Z p s m meth c own bytes ml rt nm) {x z : Int32} (A : own_Ar Z h a .byte ad Kc vs) (hj : ¬ j < 0) (hv : j.toNatClampNeg < vs.length) (hz : (nar .byte x) = z) (hs : vs.set j.toNatClampNeg (.int z) = vs') (ha : n0 ≤ a) (hd : decode bytes pc = .ok (.bastore, 1)) (hp : pc + 1 = pc')
    (K : ∀ h', Wr h h' a j.toNatClampNeg (.int z) → own_Ar Z h' a .byte ad Kc vs' → own_At p l e R s m args below meth c n0 Q h' k n (mkF m pc' Ls st)) : own_At p l e R s m args below meth c n0 Q h k n (mkF m pc Ls (.int x :: .int j :: .ref a :: st)) := by
  subst hp hz
  have A0 := A
  obtain ⟨cl, A, r, -⟩ := A
  intro T L X N eT
  obtain ⟨T', h', X', e', W, stp⟩ := stB X C.1 C.2.1 eT A (own_lt r hj hv) (g := mkF m pc Ls (.int x :: .int j :: .ref a :: st)) rfl rfl (hb C.2.2.2.1 hd)
  exact own_via stp (K h' W (A0.same W hs) T' _ X' (Fr.snoc X' N ha) e')
theorem own_castore (C : own_Cx Z p s m meth c own bytes ml rt nm) {x z : Int32} (A : own_Ar Z h a .char ad Kc vs) (hj : ¬ j < 0) (hv : j.toNatClampNeg < vs.length) (hz : (nar .char x) = z) (hs : vs.set j.toNatClampNeg (.int z) = vs') (ha : n0 ≤ a) (hd : decode bytes pc = .ok (.castore, 1)) (hp : pc + 1 = pc')
    (K : ∀ h', Wr h h' a j.toNatClampNeg (.int z) → own_Ar Z h' a .char ad Kc vs' → own_At p l e R s m args below meth c n0 Q h' k n (mkF m pc' Ls st)) : own_At p l e R s m args below meth c n0 Q h k n (mkF m pc Ls (.int x :: .int j :: .ref a :: st)) := by
  subst hp hz
  have A0 := A
  obtain ⟨cl, A, r, -⟩ := A
  intro T L X N eT
  obtain ⟨T', h', X', e', W, stp⟩ := stC X C.1 C.2.1 eT A (own_lt r hj hv) (g := mkF m pc Ls (.int x :: .int j :: .ref a :: st)) rfl rfl (hb C.2.2.2.1 hd)
  exact own_via stp (K h' W (A0.same W hs) T' _ X' (Fr.snoc X' N ha) e')
theorem own_bastoreZ (C : own_Cx Z p s m meth c own bytes ml rt nm) {x z : Int32} (A : own_Ar Z h a .boolean ad Kc vs) (hj : ¬ j < 0) (hv : j.toNatClampNeg < vs.length) (hz : (nar .boolean x) = z) (hs : vs.set j.toNatClampNeg (.int z) = vs') (ha : n0 ≤ a) (hd : decode bytes pc = .ok (.bastore, 1)) (hp : pc + 1 = pc')
    (K : ∀ h', Wr h h' a j.toNatClampNeg (.int z) → own_Ar Z h' a .boolean ad Kc vs' → own_At p l e R s m args below meth c n0 Q h' k n (mkF m pc' Ls st)) : own_At p l e R s m args below meth c n0 Q h k n (mkF m pc Ls (.int x :: .int j :: .ref a :: st)) := by
  subst hp hz
  have A0 := A
  obtain ⟨cl, A, r, -⟩ := A
  intro T L X N eT
  obtain ⟨T', h', X', e', W, stp⟩ := stZ X C.1 C.2.1 eT A (own_lt r hj hv) (g := mkF m pc Ls (.int x :: .int j :: .ref a :: st)) rfl rfl (hb C.2.2.2.1 hd)
  exact own_via stp (K h' W (A0.same W hs) T' _ X' (Fr.snoc X' N ha) e')
theorem own_aastore (C : own_Cx Z p s m meth c own bytes ml rt nm) (A : own_Ar Z h a ty ad Kc vs) (hty : ty.isReference = true) (S : Sto Z h a v) (hj : ¬ j < 0) (hv : j.toNatClampNeg < vs.length) (hs : vs.set j.toNatClampNeg v = vs') (ha : n0 ≤ a) (hd : decode bytes pc = .ok (.aastore, 1)) (hp : pc + 1 = pc')
    (K : ∀ h', Wr h h' a j.toNatClampNeg v → own_Ar Z h' a ty ad Kc vs' → own_At p l e R s m args below meth c n0 Q h' k n (mkF m pc' Ls st)) : own_At p l e R s m args below meth c n0 Q h k n (mkF m pc Ls (v :: .int j :: .ref a :: st)) := by
  subst hp
  have A0 := A
  obtain ⟨cl, A, r, -⟩ := A
  intro T L X N eT
  obtain ⟨T', h', X', e', W, stp⟩ := stR X C.1 C.2.1 eT A (own_lt r hj hv) hty S (g := mkF m pc Ls (v :: .int j :: .ref a :: st)) rfl rfl (hb C.2.2.2.1 hd)
  exact own_via stp (K h' W (A0.same W hs) T' _ X' (Fr.snoc X' N ha) e')
theorem own_newarray (C : own_Cx Z p s m meth c own bytes ml rt nm) {aty : ArrayType} {z : Int32} (w : (Cond.arrayClass (newarray.typeOf aty)).before a0 Z = true) (hz : ¬ z < 0) {cap : Nat} (hcap : z.toNatClampNeg ≤ cap) (hb' : cap * 8 ≤ 536870912) (had : "[" ++ (newarray.typeOf aty).toString = ad) (hvs : List.replicate z.toNatClampNeg (defaultValue (newarray.typeOf aty)) = vs) (hd : decode bytes pc = .ok (.newarray aty, 2)) (hc : k + 1 ≤ R.cells) (hl : n + cap ≤ R.slots) (hp : pc + 2 = pc')
    (K : ∀ h' b, b = h.size → Ext h h' → own_Ar Z h' b (newarray.typeOf aty) ad "" vs → own_At p l e R s m args below meth c n0 Q h' (k + 1) (n + cap) (mkF m pc' Ls (.ref b :: st))) : own_At p l e R s m args below meth c n0 Q h k n (mkF m pc Ls (.int z :: st)) := by
  subst hp hvs
  intro T L X N eT
  obtain ⟨T', h', cA, X', e', E, A, Ex, stp⟩ := newPE X C.1 C.2.1 w eT (g := mkF m pc Ls (.int z :: st)) rfl (hb C.2.2.2.1 hd) rfl hz hcap hb' hc hl had
  exact own_via stp (K h' _ rfl E ⟨_, A, by simp [newA], by simp; exact (back32 hz).2, Ex, Or.inl rfl⟩ T' L X' N e')
theorem own_anewarray (C : own_Cx Z p s m meth c own bytes ml rt nm) {Cn : String} {i : Nat} {z : Int32} (w : (Cond.classLink own i Cn).before a0 Z = true) (w2 : (Cond.arrayOver (.object Cn)).before a0 Z = true) (hz : ¬ z < 0) {cap : Nat} (hcap : z.toNatClampNeg ≤ cap) (hb' : cap * 8 ≤ 536870912) (had : "[" ++ (FieldType.object Cn).toString = ad) (hvs : List.replicate z.toNatClampNeg .null = vs) (hd : decode bytes pc = .ok (.anewarray i, 3)) (hc : k + 1 ≤ R.cells) (hl : n + cap ≤ R.slots) (hp : pc + 3 = pc')
    (K : ∀ h' b, b = h.size → Ext h h' → own_Ar Z h' b (.object Cn) ad Cn vs → own_At p l e R s m args below meth c n0 Q h' (k + 1) (n + cap) (mkF m pc' Ls (.ref b :: st))) : own_At p l e R s m args below meth c n0 Q h k n (mkF m pc Ls (.int z :: st)) := by
  subst hp hvs
  intro T L X N eT
  obtain ⟨T', h', cA, X', e', E, A, Ex, O, stp⟩ := newRE X C.1 C.2.1 C.2.2.1 w w2 eT (g := mkF m pc Ls (.int z :: st)) rfl (hb C.2.2.2.1 hd) rfl hz hcap hb' hc hl had
  obtain ⟨kk, comp, o1, o2, o3⟩ := O
  exact own_via stp (K h' _ rfl E ⟨_, A, by simp [newA, defaultValue], by simp; exact (back32 hz).2, Ex, Or.inr ⟨kk, comp, _, o1, o2, o3⟩⟩ T' L X' N e')
theorem own_anewarrayA (C : own_Cx Z p s m meth c own bytes ml rt nm) {Cn : String} {i : Nat} {z : Int32} (hC : (FieldType.array ty).toString = Cn) (w : (Cond.classLink own i Cn).before a0 Z = true) (w2 : (Cond.arrayOver (.array ty)).before a0 Z = true) (hz : ¬ z < 0) {cap : Nat} (hcap : z.toNatClampNeg ≤ cap) (hb' : cap * 8 ≤ 536870912) (had : "[" ++ Cn = ad) (hvs : List.replicate z.toNatClampNeg .null = vs) (hd : decode bytes pc = .ok (.anewarray i, 3)) (hc : k + 1 ≤ R.cells) (hl : n + cap ≤ R.slots) (hp : pc + 3 = pc')
    (K : ∀ h' b, b = h.size → Ext h h' → own_Ar Z h' b (.array ty) ad Cn vs → own_At p l e R s m args below meth c n0 Q h' (k + 1) (n + cap) (mkF m pc' Ls (.ref b :: st))) : own_At p l e R s m args below meth c n0 Q h k n (mkF m pc Ls (.int z :: st)) := by
  subst hp hvs
  intro T L X N eT
  obtain ⟨T', h', cA, X', e', E, A, Ex, O, stp⟩ := newRA X C.1 C.2.1 C.2.2.1 hC w w2 eT (g := mkF m pc Ls (.int z :: st)) rfl (hb C.2.2.2.1 hd) rfl hz hcap hb' hc hl had
  obtain ⟨kk, comp, o1, o2, o3⟩ := O
  exact own_via stp (K h' _ rfl E ⟨_, A, by simp [newA, defaultValue], by simp; exact (back32 hz).2, Ex, Or.inr ⟨kk, comp, _, o1, o2, o3⟩⟩ T' L X' N e')
end Arrays
theorem own_castY (C : own_Cx Z p s m meth c own bytes ml rt nm) {Kc : String} {i : Nat} {a : Addr} (w : (Cond.classLink own i Kc).before a0 Z = true) (I : Ins Z h a Kc true) (hd : decode bytes pc = .ok (.checkcast i, 3)) (hp : pc + 3 = pc')
    (K : own_At p l e R s m args below meth c n0 Q h k n (mkF m pc' Ls (.ref a :: st))) : own_At p l e R s m args below meth c n0 Q h k n (mkF m pc Ls (.ref a :: st)) := by
  subst hp
  intro T L X N eT
  obtain ⟨T', X', e', stp⟩ := castY X C.1 C.2.1 C.2.2.1 w eT I (g := mkF m pc Ls (.ref a :: st)) rfl rfl (hb C.2.2.2.1 hd)
  exact own_via stp (K T' L X' N e')
theorem own_dup_x1 (C : own_Cx Z p s m meth c own bytes ml rt nm) {x y : Value} (hd : decode bytes pc = .ok (.dup_x1, 1)) (hx : x.category = 1) (hy : y.category = 1) (hp : pc + 1 = pc')
    (K : own_At p l e R s m args below meth c n0 Q h k n (mkF m pc' Ls (x :: y :: x :: st))) : own_At p l e R s m args below meth c n0 Q h k n (mkF m pc Ls (x :: y :: st)) := by
  subst hp; exact own_of (fun T L X t hr => XS.dupX1 X.here C.1 rfl (hb C.2.2.2.1 hd) rfl hx hy hr) K
theorem own_dup2 (C : own_Cx Z p s m meth c own bytes ml rt nm) {x y : Value} (hd : decode bytes pc = .ok (.dup2, 1)) (hx : x.category = 1) (hy : y.category = 1) (hp : pc + 1 = pc')
    (K : own_At p l e R s m args below meth c n0 Q h k n (mkF m pc' Ls (x :: y :: x :: y :: st))) : own_At p l e R s m args below meth c n0 Q h k n (mkF m pc Ls (x :: y :: st)) := by
  subst hp
  refine own_of (fun T L X t hr => ?_) K
  have hd' := hb C.2.2.2.1 hd
  have hx' := C.1
  jvm_step X.here [X.here.top, hx', hd', hx, hy]
  exact hr
/-! the old part of the heap, and places -/
theorem own_old {ws : List Addr} (X : Old Z n0 h) (K : Keep h h' ws) (q : ∀ x ∈ ws, n0 ≤ x) : Old Z n0 h' := X.keep K q
theorem own_Keep.trans {h'' : Heap} {ws ws' : List Addr} (K : Keep h h' ws) (K' : Keep h' h'' ws') (q : ∀ x ∈ ws', x ∈ ws ∨ h.size ≤ x) : Keep h h'' ws := K.trans K' q
theorem own_ke (E : Ext h h') : Keep h h' [] := (Keep.refl h []).ext E
theorem own_nil {α : Type} {P : α → Prop} : ∀ x ∈ ([] : List α), P x := fun _ q => nomatch q
theorem own_allS {α : Type} {P : α → Prop} {y : α} {L : List α} (q : P y) (r : ∀ x ∈ L, P x) : ∀ x ∈ y :: L, P x := fun x z => (List.mem_cons.mp z).elim (fun u => u ▸ q) (r x)
/-- a static that holds a, and what is known of a -/
def own_Sx (Z : State) (C f d : String) (a : Addr) (P : Prop) : Prop := Sta Z Z.heap C f d (.ref a) ∧ P
def own_layE : List (String × String × String) := [("java/lang/Enum", "ordinal", "I")]
def own_layN : List (String × String × String) := []
theorem own_En.ob {C f d : String} {i : Int32} {a : Addr} (E : own_En Z Z.heap C f d i a) : own_Sx Z C f d a (own_Ob Z Z.heap a C own_layE [.int i]) := ⟨E.1, E.2.1, rfl, fun j x v h1 h2 => by
  match j, h1, h2 with
  | 0, h1, h2 => cases h1; cases h2; exact E.2.2⟩
theorem own_exob {C f d : String} (hX : (Cond.exactly (.static C f d) C).value args Z none Z [] = some true) (w1 : (Cond.initialized C).before args Z = true) (w2 : (Cond.laysStatic C f d).before args Z = true) : ∃ a, own_Sx Z C f d a (own_Ob Z Z.heap a C own_layN []) := by
  obtain ⟨a, ea⟩ := exa_v hX
  exact ⟨a, Sta.start ea (Or.inr ⟨w1, w2⟩), Exa.start ea hX, rfl, fun j x v h1 h2 => by cases h1⟩
theorem own_sets {L : List Jvm.Cond} {R : Jvm.Cond} (q : (L.foldr Jvm.Cond.and R).before args s = true) : ∀ c ∈ L, c.before args s = true := by
  induction L with
  | nil => intro c hc; cases hc
  | cons a L ih =>
    intro c hc
    have q' : (Jvm.Cond.and a (L.foldr Jvm.Cond.and R)).before args s = true := q
    rw [Cond.before_and, Bool.and_eq_true] at q'
    rcases List.mem_cons.mp hc with rfl | hc
    · exact q'.1
    · exact ih q'.2 c hc
theorem own_starr {C f d ad K : String} {ty : FieldType} (hA : (Cond.arrayOf (.static C f d) ty).value args Z none Z [] = some true) (hX : (Cond.exactly (.static C f d) ad).value args Z none Z [] = some true) (hL : (Cond.eq (.length (.static C f d)) (.int 0)).value args Z none Z [] = some true) (hi : (Cond.initializedFor C f d).before args Z = true ∨ ((Cond.initialized C).before args Z = true ∧ (Cond.laysStatic C f d).before args Z = true)) (hK : K = "" := by rfl) : ∃ a, own_Sx Z C f d a (own_Ar Z Z.heap a ty ad K []) := by
  obtain ⟨a, ea⟩ := arr_v hA
  obtain ⟨cl, A⟩ := Arr.start ea hA
  refine ⟨a, Sta.start ea hi, cl, A, ?_, by decide, Exa.start ea hX, Or.inl hK⟩
  obtain ⟨x, y, e1, e2, -, -⟩ := cmp_v (Or.inl hL)
  obtain ⟨a', cl', e3, e4, e5⟩ := Term.length_spec e1
  cases ea.symm.trans e3
  have e6 : cl' = cl := by
    have := (State.arrayAt?_spec e4).1
    exact Option.some.inj (this.symm.trans A.1)
  subst e6
  have e7 : y = .int 0 := by simpa [Term.eval] using e2.symm
  subst e7
  subst e5
  have e8 : cl'.slots.size < 2 ^ 31 := by
    by_cases q : cl'.slots.size < 2 ^ 31
    · exact q
    · clear hL hA hX
      revert e1 ea
      generalize Term.static C f d = t
      intro ea e1
      simp [Term.eval, ea, e4, q] at e1
  have e9 : cl'.slots.size.toInt32 = 0 := by simpa [Cond.value, e1, e2] using hL
  have e10 : (cl'.slots.size : Int) = 0 := by rw [← len_toInt e8, e9]; rfl
  have : cl'.slots.size = 0 := by omega
  simpa using this
theorem own_stob {C f d ff : String} {i : Int32} (hX : (Cond.exactly (.static C f d) C).value args Z none Z [] = some true) (hO : (Cond.eq (.field (.static C f d) C ff "I") (.int i)).value args Z none Z [] = some true) (hi : (Cond.initializedFor C f d).before args Z = true ∨ ((Cond.initialized C).before args Z = true ∧ (Cond.laysStatic C f d).before args Z = true)) : ∃ a, own_Sx Z C f d a (own_Ob Z Z.heap a C [(C, ff, "I")] [.int i]) := by
  obtain ⟨a, ea⟩ := exa_v hX
  refine ⟨a, Sta.start ea hi, Exa.start ea hX, rfl, fun j x v h1 h2 => ?_⟩
  match j, h1, h2 with
  | 0, h1, h2 => cases h1; cases h2; exact own_fldv ea hO
theorem own_Ob.ne {a b : Addr} {C C' : String} {lay lay' : List (String × String × String)} {vs vs' : List Value} {x : String × String × String} {v v' : Value} (F : own_Ob Z h a C lay vs) (G : own_Ob Z h b C' lay' vs') (i j : Nat) (h1 : lay[i]? = some x) (h2 : vs[i]? = some v) (h3 : lay'[j]? = some x) (h4 : vs'[j]? = some v') (q : v ≠ v') : a ≠ b := (F.2.2 i x v h1 h2).ne (G.2.2 j x v' h3 h4) q
end OwnHeap
/-! doubles that hold whole numbers -/
section OwnDbl
open Jvm.FP Jvm.Free.Fl
variable {p : Program} {l : Launch} {e : Env} {R : Room} {s : State} {m : MethodId} {args : Array Value} {below : List Frame} {meth : Method} {c : Code} {Z : State} {n0 : Nat} {own : String} {bytes : ByteArray} {ml : Nat} {rt : Option FieldType} {nm : String} {Q : Option Value → Heap → Prop} {h h' : Heap} {k n : Nat} {pc pc' : Nat} {Ls Ls' : Array Slot} {st rest : List Value} {a0 : Array Value}
theorem own_dload (C : own_Cx Z p s m meth c own bytes ml rt nm) {i : Nat} {v : UInt64} (hd : decode bytes pc = .ok (.dload i, 2)) (hl : Ls[i]? = some (.val (.double v))) (hp : pc + 2 = pc')
    (K : own_At p l e R s m args below meth c n0 Q h k n (mkF m pc' Ls (.double v :: st))) : own_At p l e R s m args below meth c n0 Q h k n (mkF m pc Ls st) := by
  subst hp; exact own_of (fun T L X t hr => XS.dload X.here C.1 rfl (hb C.2.2.2.1 hd) hl hr) K
theorem own_dloadN (C : own_Cx Z p s m meth c own bytes ml rt nm) {i : Fin 4} {v : UInt64} (hd : decode bytes pc = .ok (.dload_n i, 1)) (hl : Ls[i.val]? = some (.val (.double v))) (hp : pc + 1 = pc')
    (K : own_At p l e R s m args below meth c n0 Q h k n (mkF m pc' Ls (.double v :: st))) : own_At p l e R s m args below meth c n0 Q h k n (mkF m pc Ls st) := by
  subst hp; exact own_of (fun T L X t hr => XS.dloadN X.here C.1 rfl (hb C.2.2.2.1 hd) hl hr) K
theorem own_dstore (C : own_Cx Z p s m meth c own bytes ml rt nm) {i : Nat} {v : UInt64} (hd : decode bytes pc = .ok (.dstore i, 2)) (hl : storeLocals Ls i (.double v) = some Ls') (hp : pc + 2 = pc')
    (K : own_At p l e R s m args below meth c n0 Q h k n (mkF m pc' Ls' st)) : own_At p l e R s m args below meth c n0 Q h k n (mkF m pc Ls (.double v :: st)) := by
  subst hp; exact own_of (fun T L X t hr => XS.dstore X.here C.1 rfl (hb C.2.2.2.1 hd) rfl hl hr) K
theorem own_ldc2d (C : own_Cx Z p s m meth c own bytes ml rt nm) {i : Nat} {v : UInt64} (w : (Cond.constantDouble own i v).before a0 Z = true) (hd : decode bytes pc = .ok (.ldc2_w i, 3)) (hp : pc + 3 = pc')
    (K : own_At p l e R s m args below meth c n0 Q h k n (mkF m pc' Ls (.double v :: st))) : own_At p l e R s m args below meth c n0 Q h k n (mkF m pc Ls st) := by
  subst hp; exact own_of (fun T L X t hr => X.ldc2DoubleC C.1 C.2.2.1 (mvT C.2.1 w) (g := mkF m pc Ls st) rfl (hb C.2.2.2.1 hd) t hr) K
theorem own_i2d (C : own_Cx Z p s m meth c own bytes ml rt nm) {x : Int32} {v : UInt64} (hd : decode bytes pc = .ok (.i2d, 1)) (hv : FP.i2d x = v) (hp : pc + 1 = pc')
    (K : own_At p l e R s m args below meth c n0 Q h k n (mkF m pc' Ls (.double v :: st))) : own_At p l e R s m args below meth c n0 Q h k n (mkF m pc Ls (.int x :: st)) := by
  subst hp; exact own_of (fun T L X t hr => XS.i2dS X.here C.1 rfl (hb C.2.2.2.1 hd) rfl hv hr) K
theorem own_dcmp (C : own_Cx Z p s m meth c own bytes ml rt nm) {o : CmpOp} {x y : UInt64} {v : Int32} (hd : decode bytes pc = .ok (.dcmp o, 1)) (hv : cmpValue (FP.dcmp x y) o = v) (hp : pc + 1 = pc')
    (K : own_At p l e R s m args below meth c n0 Q h k n (mkF m pc' Ls (.int v :: st))) : own_At p l e R s m args below meth c n0 Q h k n (mkF m pc Ls (.double y :: .double x :: st)) := by
  subst hp; exact own_of (fun T L X t hr => XS.dcmpS X.here C.1 rfl (hb C.2.2.2.1 hd) rfl hv hr) K
theorem own_dadd (C : own_Cx Z p s m meth c own bytes ml rt nm) {x y v : UInt64} (hd : decode bytes pc = .ok (.dadd, 1)) (hn : NoNaN64 v) (hv : FP.dadd x y = v) (hp : pc + 1 = pc')
    (K : own_At p l e R s m args below meth c n0 Q h k n (mkF m pc' Ls (.double v :: st))) : own_At p l e R s m args below meth c n0 Q h k n (mkF m pc Ls (.double y :: .double x :: st)) := by
  subst hp hv; exact own_of (fun T L X t hr => XS.daddS X.here C.1 rfl (hb C.2.2.2.1 hd) rfl hn rfl hr) K
theorem own_dsub (C : own_Cx Z p s m meth c own bytes ml rt nm) {x y v : UInt64} (hd : decode bytes pc = .ok (.dsub, 1)) (hn : NoNaN64 v) (hv : FP.dsub x y = v) (hp : pc + 1 = pc')
    (K : own_At p l e R s m args below meth c n0 Q h k n (mkF m pc' Ls (.double v :: st))) : own_At p l e R s m args below meth c n0 Q h k n (mkF m pc Ls (.double y :: .double x :: st)) := by
  subst hp hv; exact own_of (fun T L X t hr => XS.dsubS X.here C.1 rfl (hb C.2.2.2.1 hd) rfl hn rfl hr) K
theorem own_dmul (C : own_Cx Z p s m meth c own bytes ml rt nm) {x y v : UInt64} (hd : decode bytes pc = .ok (.dmul, 1)) (hn : NoNaN64 v) (hv : FP.dmul x y = v) (hp : pc + 1 = pc')
    (K : own_At p l e R s m args below meth c n0 Q h k n (mkF m pc' Ls (.double v :: st))) : own_At p l e R s m args below meth c n0 Q h k n (mkF m pc Ls (.double y :: .double x :: st)) := by
  subst hp hv; exact own_of (fun T L X t hr => XS.dmulS X.here C.1 rfl (hb C.2.2.2.1 hd) rfl hn rfl hr) K
theorem own_ddiv (C : own_Cx Z p s m meth c own bytes ml rt nm) {x y v : UInt64} (hd : decode bytes pc = .ok (.ddiv, 1)) (hn : NoNaN64 v) (hv : FP.ddiv x y = v) (hp : pc + 1 = pc')
    (K : own_At p l e R s m args below meth c n0 Q h k n (mkF m pc' Ls (.double v :: st))) : own_At p l e R s m args below meth c n0 Q h k n (mkF m pc Ls (.double y :: .double x :: st)) := by
  subst hp hv; exact own_of (fun T L X t hr => XS.ddivS X.here C.1 rfl (hb C.2.2.2.1 hd) rfl hn rfl hr) K
theorem own_iushr (C : own_Cx Z p s m meth c own bytes ml rt nm) {x y z : Int32} (hd : decode bytes pc = .ok (.iushr, 1)) (hz : (x.toUInt32 >>> (y &&& 31).toUInt32).toInt32 = z) (hp : pc + 1 = pc')
    (K : own_At p l e R s m args below meth c n0 Q h k n (mkF m pc' Ls (.int z :: st))) : own_At p l e R s m args below meth c n0 Q h k n (mkF m pc Ls (.int y :: .int x :: st)) := by
  subst hp hz; exact own_of (fun T L X t hr => XS.iushr X.here C.1 rfl (hb C.2.2.2.1 hd) rfl hr) K
/-- a whole number from 0 to a million -/
def own_Sm (x : Int32) : Prop := 0 ≤ x.toInt ∧ x.toInt ≤ 1000000
theorem own_b53 {x : Int32} (q : -4000000 ≤ x.toInt ∧ x.toInt ≤ 4000000) : B53 x.toInt64 := by
  have e : x.toInt64.toInt = x.toInt := Int32.toInt_toInt64 x
  exact ⟨by omega, by omega⟩
theorem own_sm53 {x : Int32} (q : own_Sm x) : B53 x.toInt64 := own_b53 ⟨by have := q.1; omega, by have := q.2; omega⟩
theorem own_nn (x : Int32) : NoNaN64 (FP.i2d x) := nn_w (i2d_w x)
theorem own_add64 {a b : Int32} (ha : own_Sm a) (hb : own_Sm b) : a.toInt64 + b.toInt64 = (a + b).toInt64 := by
  apply Int64.toInt_inj.mp
  have h1 : (a + b).toInt = a.toInt + b.toInt := XT.add32 (by unfold XT.fits32; have := ha.1; have := ha.2; have := hb.1; have := hb.2; omega)
  rw [RoadKit.add64 (own_sm53 ha) (own_sm53 hb), Int32.toInt_toInt64, Int32.toInt_toInt64, Int32.toInt_toInt64, h1]
theorem own_sub64 {a b : Int32} (ha : own_Sm a) (hb : own_Sm b) : a.toInt64 - b.toInt64 = (a - b).toInt64 := by
  apply Int64.toInt_inj.mp
  have h1 : (a - b).toInt = a.toInt - b.toInt := XT.sub32 (by unfold XT.fits32; have := ha.1; have := ha.2; have := hb.1; have := hb.2; omega)
  rw [RoadKit.sub64 (own_sm53 ha) (own_sm53 hb), Int32.toInt_toInt64, Int32.toInt_toInt64, Int32.toInt_toInt64, h1]
theorem own_da {a b : Int32} (ha : own_Sm a) (hb : own_Sm b) : FP.dadd (FP.i2d a) (FP.i2d b) = FP.i2d (a + b) := by
  rw [i2d_w, i2d_w, i2d_w, dadd_w (own_sm53 ha) (own_sm53 hb), own_add64 ha hb]
theorem own_ds {a b : Int32} (ha : own_Sm a) (hb : own_Sm b) : FP.dsub (FP.i2d a) (FP.i2d b) = FP.i2d (a - b) := by
  rw [i2d_w, i2d_w, i2d_w, dsub_w (own_sm53 ha) (own_sm53 hb), own_sub64 ha hb]
theorem own_dm {b : Int32} (hb : own_Sm b) : FP.dmul 4611686018427387904 (FP.i2d b) = FP.i2d (2 * b) := by
  have e2 : (4611686018427387904 : UInt64) = FP.l2d 2 := by decide +kernel
  have e3 : (2 * b).toInt = 2 * b.toInt := XT.mul32 (by unfold XT.fits32; have := hb.1; have := hb.2; rw [show (2 : Int32).toInt = 2 from rfl]; omega)
  have e4 : (b.toInt64).toInt = b.toInt := Int32.toInt_toInt64 b
  have e5 : (2 : Int64).toInt = 2 := by decide
  have hb1 := hb.1
  have hb2 := hb.2
  rw [e2, i2d_w, i2d_w, dmul_k (a := 2) (b := b.toInt64) (A := 2) (B := 1000000) (by rw [e5]; omega) (by rw [e5]; omega) (by rw [e4]; omega) (by rw [e4]; omega) (by decide) (by decide) (by decide) (by simp) (by rw [Int64.lt_iff_toInt_lt, e5]; simp)]
  congr 1
  apply Int64.toInt_inj.mp
  rw [Int32.toInt_toInt64, e3, Int64.toInt_mul, e4, e5]
  exact Int.bmod_eq_of_le (by omega) (by omega)
theorem own_dc {a b : Int32} (ha : own_Sm a) (hb : own_Sm b) (o : CmpOp) : cmpValue (FP.dcmp (FP.i2d a) (FP.i2d b)) o = if b < a then 1 else if a = b then 0 else -1 := by
  rw [i2d_w, i2d_w, dcmpV_w (own_sm53 ha) (own_sm53 hb)]
  have e1 : a.toInt64.toInt = a.toInt := Int32.toInt_toInt64 a
  have e2 : b.toInt64.toInt = b.toInt := Int32.toInt_toInt64 b
  simp only [lcmpW, GT.gt, Int64.lt_iff_toInt_lt, Int32.lt_iff_toInt_lt, ← Int64.toInt_inj, ← Int32.toInt_inj, e1, e2]
theorem own_dv {a b : Int32} (hb : 0 < b.toInt) : NoNaN64 (FP.ddiv (FP.i2d a) (FP.i2d b)) := by
  rw [i2d_w, i2d_w]
  have hz : b.toInt64 ≠ 0 := fun q => by
    have e := congrArg Int64.toInt q
    rw [Int32.toInt_toInt64] at e
    have : (0 : Int64).toInt = 0 := by decide
    omega
  exact ((ddiv_mag (l2d_mag _) (l2d_big hz) (by decide) (by decide)).fin (by decide)).noNaN
end OwnDbl
theorem own_pd0 : parseMethodDescriptor "(I)I" = some ⟨[.int], some .int⟩ := by decide +kernel
theorem own_pd1 : parseMethodDescriptor "()V" = some ⟨[], none⟩ := by decide +kernel
theorem own_pd2 : parseMethodDescriptor "(DD)V" = some ⟨[.double, .double], none⟩ := by decide +kernel
theorem own_pd3 : parseMethodDescriptor "()D" = some ⟨[], some .double⟩ := by decide +kernel
theorem own_d1_0 : decode method_2_code 0 = .ok (.iload_n 0, 1) := by decide +kernel
theorem own_d1_1 : decode method_2_code 1 = .ok (.iconst 1, 1) := by decide +kernel
theorem own_d1_2 : decode method_2_code 2 = .ok (.iand, 1) := by decide +kernel
theorem own_d1_3 : decode method_2_code 3 = .ok (.ifCond .ne 7, 3) := by decide +kernel
theorem own_d1_6 : decode method_2_code 6 = .ok (.iconst 0, 1) := by decide +kernel
theorem own_d1_7 : decode method_2_code 7 = .ok (.goto 10, 3) := by decide +kernel
theorem own_d1_17 : decode method_2_code 17 = .ok (.ireturn, 1) := by decide +kernel
theorem own_d1_10 : decode method_2_code 10 = .ok (.iload_n 0, 1) := by decide +kernel
theorem own_d1_11 : decode method_2_code 11 = .ok (.iconst 1, 1) := by decide +kernel
theorem own_d1_12 : decode method_2_code 12 = .ok (.iushr, 1) := by decide +kernel
theorem own_d1_13 : decode method_2_code 13 = .ok (.sipush 32767, 3) := by decide +kernel
theorem own_d1_16 : decode method_2_code 16 = .ok (.iand, 1) := by decide +kernel
theorem own_d2_0 : decode method_3_code 0 = .ok (.iload_n 0, 1) := by decide +kernel
theorem own_d2_1 : decode method_3_code 1 = .ok (.bipush 16, 2) := by decide +kernel
theorem own_d2_3 : decode method_3_code 3 = .ok (.iushr, 1) := by decide +kernel
theorem own_d2_4 : decode method_3_code 4 = .ok (.iconst 1, 1) := by decide +kernel
theorem own_d2_5 : decode method_3_code 5 = .ok (.iand, 1) := by decide +kernel
theorem own_d2_6 : decode method_3_code 6 = .ok (.ifCond .ne 7, 3) := by decide +kernel
theorem own_d2_9 : decode method_3_code 9 = .ok (.iconst 0, 1) := by decide +kernel
theorem own_d2_10 : decode method_3_code 10 = .ok (.goto 11, 3) := by decide +kernel
theorem own_d2_21 : decode method_3_code 21 = .ok (.ireturn, 1) := by decide +kernel
theorem own_d2_13 : decode method_3_code 13 = .ok (.iload_n 0, 1) := by decide +kernel
theorem own_d2_14 : decode method_3_code 14 = .ok (.bipush 17, 2) := by decide +kernel
theorem own_d2_16 : decode method_3_code 16 = .ok (.iushr, 1) := by decide +kernel
theorem own_d2_17 : decode method_3_code 17 = .ok (.sipush 32767, 3) := by decide +kernel
theorem own_d2_20 : decode method_3_code 20 = .ok (.iand, 1) := by decide +kernel
theorem own_d5_0 : decode prog_6_method_2_code 0 = .ok (.aload_n 0, 1) := by decide +kernel
theorem own_d5_1 : decode prog_6_method_2_code 1 = .ok (.dup, 1) := by decide +kernel
theorem own_d5_2 : decode prog_6_method_2_code 2 = .ok (.getfield 17, 3) := by decide +kernel
theorem own_d5_5 : decode prog_6_method_2_code 5 = .ok (.dload_n 1, 1) := by decide +kernel
theorem own_d5_6 : decode prog_6_method_2_code 6 = .ok (.dadd, 1) := by decide +kernel
theorem own_d5_7 : decode prog_6_method_2_code 7 = .ok (.putfield 17, 3) := by decide +kernel
theorem own_d5_10 : decode prog_6_method_2_code 10 = .ok (.aload_n 0, 1) := by decide +kernel
theorem own_d5_11 : decode prog_6_method_2_code 11 = .ok (.dup, 1) := by decide +kernel
theorem own_d5_12 : decode prog_6_method_2_code 12 = .ok (.getfield 20, 3) := by decide +kernel
theorem own_d5_15 : decode prog_6_method_2_code 15 = .ok (.dload_n 3, 1) := by decide +kernel
theorem own_d5_16 : decode prog_6_method_2_code 16 = .ok (.dadd, 1) := by decide +kernel
theorem own_d5_17 : decode prog_6_method_2_code 17 = .ok (.putfield 20, 3) := by decide +kernel
theorem own_d5_20 : decode prog_6_method_2_code 20 = .ok (.aload_n 0, 1) := by decide +kernel
theorem own_d5_21 : decode prog_6_method_2_code 21 = .ok (.getfield 20, 3) := by decide +kernel
theorem own_d5_24 : decode prog_6_method_2_code 24 = .ok (.aload_n 0, 1) := by decide +kernel
theorem own_d5_25 : decode prog_6_method_2_code 25 = .ok (.getfield 23, 3) := by decide +kernel
theorem own_d5_28 : decode prog_6_method_2_code 28 = .ok (.dcmp .l, 1) := by decide +kernel
theorem own_d5_29 : decode prog_6_method_2_code 29 = .ok (.ifCond .le 26, 3) := by decide +kernel
theorem own_d5_32 : decode prog_6_method_2_code 32 = .ok (.aload_n 0, 1) := by decide +kernel
theorem own_d5_33 : decode prog_6_method_2_code 33 = .ok (.aload_n 0, 1) := by decide +kernel
theorem own_d5_34 : decode prog_6_method_2_code 34 = .ok (.getfield 17, 3) := by decide +kernel
theorem own_d5_37 : decode prog_6_method_2_code 37 = .ok (.aload_n 0, 1) := by decide +kernel
theorem own_d5_38 : decode prog_6_method_2_code 38 = .ok (.getfield 26, 3) := by decide +kernel
theorem own_d5_41 : decode prog_6_method_2_code 41 = .ok (.dsub, 1) := by decide +kernel
theorem own_d5_42 : decode prog_6_method_2_code 42 = .ok (.aload_n 0, 1) := by decide +kernel
theorem own_d5_43 : decode prog_6_method_2_code 43 = .ok (.getfield 20, 3) := by decide +kernel
theorem own_d5_46 : decode prog_6_method_2_code 46 = .ok (.aload_n 0, 1) := by decide +kernel
theorem own_d5_47 : decode prog_6_method_2_code 47 = .ok (.getfield 23, 3) := by decide +kernel
theorem own_d5_50 : decode prog_6_method_2_code 50 = .ok (.dsub, 1) := by decide +kernel
theorem own_d5_51 : decode prog_6_method_2_code 51 = .ok (.ddiv, 1) := by decide +kernel
theorem own_d5_52 : decode prog_6_method_2_code 52 = .ok (.putfield 11, 3) := by decide +kernel
theorem own_d5_55 : decode prog_6_method_2_code 55 = .ok (.aload_n 0, 1) := by decide +kernel
theorem own_d5_56 : decode prog_6_method_2_code 56 = .ok (.getfield 17, 3) := by decide +kernel
theorem own_d5_59 : decode prog_6_method_2_code 59 = .ok (.ldc2_w 29, 3) := by decide +kernel
theorem own_d5_62 : decode prog_6_method_2_code 62 = .ok (.aload_n 0, 1) := by decide +kernel
theorem own_d5_63 : decode prog_6_method_2_code 63 = .ok (.getfield 31, 3) := by decide +kernel
theorem own_d5_66 : decode prog_6_method_2_code 66 = .ok (.dmul, 1) := by decide +kernel
theorem own_d5_67 : decode prog_6_method_2_code 67 = .ok (.dcmp .l, 1) := by decide +kernel
theorem own_d5_68 : decode prog_6_method_2_code 68 = .ok (.ifCond .lt 35, 3) := by decide +kernel
theorem own_d5_103 : decode prog_6_method_2_code 103 = .ok (.return_, 1) := by decide +kernel
theorem own_d5_71 : decode prog_6_method_2_code 71 = .ok (.aload_n 0, 1) := by decide +kernel
theorem own_d5_72 : decode prog_6_method_2_code 72 = .ok (.aload_n 0, 1) := by decide +kernel
theorem own_d5_73 : decode prog_6_method_2_code 73 = .ok (.getfield 31, 3) := by decide +kernel
theorem own_d5_76 : decode prog_6_method_2_code 76 = .ok (.putfield 26, 3) := by decide +kernel
theorem own_d5_79 : decode prog_6_method_2_code 79 = .ok (.aload_n 0, 1) := by decide +kernel
theorem own_d5_80 : decode prog_6_method_2_code 80 = .ok (.aload_n 0, 1) := by decide +kernel
theorem own_d5_81 : decode prog_6_method_2_code 81 = .ok (.getfield 34, 3) := by decide +kernel
theorem own_d5_84 : decode prog_6_method_2_code 84 = .ok (.putfield 23, 3) := by decide +kernel
theorem own_d5_87 : decode prog_6_method_2_code 87 = .ok (.aload_n 0, 1) := by decide +kernel
theorem own_d5_88 : decode prog_6_method_2_code 88 = .ok (.aload_n 0, 1) := by decide +kernel
theorem own_d5_89 : decode prog_6_method_2_code 89 = .ok (.getfield 17, 3) := by decide +kernel
theorem own_d5_92 : decode prog_6_method_2_code 92 = .ok (.putfield 31, 3) := by decide +kernel
theorem own_d5_95 : decode prog_6_method_2_code 95 = .ok (.aload_n 0, 1) := by decide +kernel
theorem own_d5_96 : decode prog_6_method_2_code 96 = .ok (.aload_n 0, 1) := by decide +kernel
theorem own_d5_97 : decode prog_6_method_2_code 97 = .ok (.getfield 20, 3) := by decide +kernel
theorem own_d5_100 : decode prog_6_method_2_code 100 = .ok (.putfield 34, 3) := by decide +kernel
theorem own_d3_0 : decode prog_6_method_1_code 0 = .ok (.aload_n 0, 1) := by decide +kernel
theorem own_d3_1 : decode prog_6_method_1_code 1 = .ok (.invokespecial 1, 3) := by decide +kernel
theorem own_d3_4 : decode prog_6_method_1_code 4 = .ok (.aload_n 0, 1) := by decide +kernel
theorem own_d3_5 : decode prog_6_method_1_code 5 = .ok (.ldc2_w 9, 3) := by decide +kernel
theorem own_d3_8 : decode prog_6_method_1_code 8 = .ok (.putfield 11, 3) := by decide +kernel
theorem own_d3_11 : decode prog_6_method_1_code 11 = .ok (.return_, 1) := by decide +kernel
theorem own_d6_0 : decode prog_6_method_4_code 0 = .ok (.aload_n 0, 1) := by decide +kernel
theorem own_d6_1 : decode prog_6_method_4_code 1 = .ok (.getfield 11, 3) := by decide +kernel
theorem own_d6_4 : decode prog_6_method_4_code 4 = .ok (.dreturn, 1) := by decide +kernel
theorem own_d7_0 : decode prog_6_method_7_code 0 = .ok (.aload_n 0, 1) := by decide +kernel
theorem own_d7_1 : decode prog_6_method_7_code 1 = .ok (.getfield 17, 3) := by decide +kernel
theorem own_d7_4 : decode prog_6_method_7_code 4 = .ok (.dreturn, 1) := by decide +kernel
theorem own_d8_0 : decode prog_6_method_6_code 0 = .ok (.aload_n 0, 1) := by decide +kernel
theorem own_d8_1 : decode prog_6_method_6_code 1 = .ok (.getfield 20, 3) := by decide +kernel
theorem own_d8_4 : decode prog_6_method_6_code 4 = .ok (.dreturn, 1) := by decide +kernel
def own_lay0 : List (String × String × String) := [("com/example/interweave/interweave/engine/Pace", "pace", "D"), ("com/example/interweave/interweave/engine/Pace", "spent", "D"), ("com/example/interweave/interweave/engine/Pace", "done", "D"), ("com/example/interweave/interweave/engine/Pace", "doneFrom", "D"), ("com/example/interweave/interweave/engine/Pace", "mark", "D"), ("com/example/interweave/interweave/engine/Pace", "spentFrom", "D"), ("com/example/interweave/interweave/engine/Pace", "doneAtMark", "D")]
theorem own_lay0_ok {Z : State} {a0 : Array Value} (hw : ∀ d ∈ tables_1, d.before a0 Z = true) : own_LayOk Z a0 "com/example/interweave/interweave/engine/Pace" own_lay0 := ⟨by decide +kernel, (own_allS ⟨Or.inl (own_w hw 19 rfl), ⟨.double, by decide +kernel⟩⟩ (own_allS ⟨Or.inl (own_w hw 26 rfl), ⟨.double, by decide +kernel⟩⟩ (own_allS ⟨Or.inl (own_w hw 28 rfl), ⟨.double, by decide +kernel⟩⟩ (own_allS ⟨Or.inl (own_w hw 30 rfl), ⟨.double, by decide +kernel⟩⟩ (own_allS ⟨Or.inl (own_w hw 33 rfl), ⟨.double, by decide +kernel⟩⟩ (own_allS ⟨Or.inl (own_w hw 35 rfl), ⟨.double, by decide +kernel⟩⟩ (own_allS ⟨Or.inl (own_w hw 37 rfl), ⟨.double, by decide +kernel⟩⟩ own_nil)))))))⟩
theorem own_lay0_df : own_lay0.map own_dflt = [(.double 0), (.double 0), (.double 0), (.double 0), (.double 0), (.double 0), (.double 0)] := by first | rfl | decide +kernel
def own_St (Z : State) : Prop := True
def own_S0 (k : Int) (x : Int32) : Prop := 0 ≤ x.toInt ∧ x.toInt ≤ k
theorem own_bd {k : Int} {x : Int32} (hk : k ≤ 1000000) (q : own_S0 k x) : own_Sm x := ⟨q.1, by have := q.2; omega⟩
theorem own_sum {k : Int} {a b z : Int32} (hk : k ≤ 900000) (ha : own_S0 k a) (hb : own_S0 32767 b) (e : a + b = z) : own_S0 (k + 32767) z ∧ True := by
  subst e
  have h1 : (a + b).toInt = a.toInt + b.toInt := XT.add32 (by unfold XT.fits32; have := ha.1; have := ha.2; have := hb.1; have := hb.2; omega)
  exact ⟨⟨by rw [h1]; have := ha.1; have := hb.1; omega, by rw [h1]; have := ha.2; have := hb.2; omega⟩, trivial⟩
theorem own_sm0 : own_Sm 0 := ⟨by decide, by decide⟩
theorem own_sm00 : own_Sm (2 * 0) := ⟨by decide, by decide⟩
theorem own_z0 {a : Int32} : 0 + a = a := Int32.zero_add a
theorem own_s0 {a : Int32} : a - 0 = a := Int32.sub_zero a
theorem own_i0 : FP.i2d 0 = 0 := by decide +kernel
theorem own_inf : NoNaN64 9218868437227405312 := by unfold NoNaN64; decide
theorem own_pos {b : Int32} (q : (0 : Int32) < b) : 0 < b.toInt := by rw [Int32.lt_iff_toInt_lt] at q; exact q
theorem own_subpos {a b : Int32} (ha : own_Sm a) (hb : own_Sm b) (q : b < a) : 0 < (a - b).toInt := by
  have h1 : (a - b).toInt = a.toInt - b.toInt := XT.sub32 (by unfold XT.fits32; have := ha.1; have := ha.2; have := hb.1; have := hb.2; omega)
  rw [Int32.lt_iff_toInt_lt] at q; omega
theorem own_nlt {a : Int32} (ha : own_Sm a) : ¬ a < 2 * 0 := by
  rw [Int32.lt_iff_toInt_lt, show (2 * 0 : Int32).toInt = 0 from by decide]; have := ha.1; omega
theorem own_dbl {k : Int} {a : Int32} (q : 0 ≤ a.toInt ∧ a.toInt ≤ k) (hk : k ≤ 500000 := by decide) : own_Sm (2 * a) := by
  have e3 : (2 * a).toInt = 2 * a.toInt := XT.mul32 (by unfold XT.fits32; have := q.1; have := q.2; rw [show (2 : Int32).toInt = 2 from rfl]; omega)
  exact ⟨by rw [e3]; have := q.1; omega, by rw [e3]; have := q.2; omega⟩
theorem own_dcY {a b : Int32} {o : CmpOp} (ha : own_Sm a) (hb : own_Sm b) (q : b < a) : cmpValue (FP.dcmp (FP.i2d a) (FP.i2d b)) o = 1 := by rw [own_dc ha hb, if_pos q]
theorem own_dcN {a b : Int32} {o : CmpOp} (ha : own_Sm a) (hb : own_Sm b) (q : ¬ b < a) : ∃ v, cmpValue (FP.dcmp (FP.i2d a) (FP.i2d b)) o = v ∧ ifCond.holds .le v = true := by
  rw [own_dc ha hb, if_neg q]
  by_cases h : a = b
  · rw [if_pos h]; exact ⟨0, rfl, by decide⟩
  · rw [if_neg h]; exact ⟨-1, rfl, by decide⟩
theorem own_dcL {a b : Int32} {o : CmpOp} (ha : own_Sm a) (hb : own_Sm b) (q : a < b) : cmpValue (FP.dcmp (FP.i2d a) (FP.i2d b)) o = (-1 : Int32) := by
  rw [Int32.lt_iff_toInt_lt] at q
  rw [own_dc ha hb, if_neg (by rw [Int32.lt_iff_toInt_lt]; omega), if_neg (by intro e; subst e; omega)]
theorem own_dcG {a b : Int32} {o : CmpOp} (ha : own_Sm a) (hb : own_Sm b) (q : ¬ a < b) : ∃ v, cmpValue (FP.dcmp (FP.i2d a) (FP.i2d b)) o = v ∧ ifCond.holds .lt v = false := by
  rw [Int32.lt_iff_toInt_lt] at q
  rw [own_dc ha hb]
  by_cases h : b < a
  · rw [if_pos h]; exact ⟨1, rfl, by decide⟩
  · rw [Int32.lt_iff_toInt_lt] at h
    rw [if_neg (by rw [Int32.lt_iff_toInt_lt]; omega), if_pos (Int32.toInt_inj.mp (by omega))]; exact ⟨0, rfl, by decide⟩
theorem own_pz {Z : State} {h : Heap} {a : Nat} (o : own_Ob Z h a "com/example/interweave/interweave/engine/Pace" own_lay0 [.double 9218868437227405312, .double 0, .double 0, .double 0, .double 0, .double 0, .double 0]) : own_Ob Z h a "com/example/interweave/interweave/engine/Pace" own_lay0 [.double 9218868437227405312, .double (FP.i2d 0), .double (FP.i2d 0), .double (FP.i2d 0), .double (FP.i2d 0), .double (FP.i2d 0), .double (FP.i2d 0)] := by rw [own_i0]; exact o
def own_sp (x : Int32) : Int32 := if (x &&& (1 : Int32)) = (0 : Int32) then (0 : Int32) else (((x.toUInt32 >>> ((1 : Int32) &&& 31).toUInt32).toInt32) &&& (32767 : Int32))
theorem own_sp_met (l : Launch) {Z : State} {a0 : Array Value} (hw : ∀ d ∈ tables_1, d.before a0 Z = true) {n0 : Nat} {h : Heap} (x : Int32) :
    own_Met l Z (⟨"com/example/interweave/interweave/engine/PaceTookPinLaw", "spentOf", "(I)I"⟩ : MethodName) method_2_code 1 (some .int) [] ({ frames := 0, cells := 0, slots := 0, locals := 0 } : Room) n0 #[(.int x)] h (own_pure (.int (own_sp x)) h) := by
  refine own_met (Ls := #[.val (.int x)]) (by first | exact plainFor_of_name (by first | (simp [plainName, overriddenIn]; done) | decide +kernel) | decide +kernel) rfl ?_
  intro p e s m below meth c C
  by_cases hc : (x &&& (1 : Int32)) = (0 : Int32)
  · refine own_iloadN C own_d1_0 rfl (pc' := 1) rfl ?_
    refine own_iconst C (v := (1 : Int32)) own_d1_1 (by decide) (pc' := 2) rfl ?_
    refine own_iand C own_d1_2 rfl (pc' := 3) rfl ?_
    refine own_ifN C own_d1_3 ((if0 _ _).trans (teq hc).2) (pc' := 6) rfl ?_
    refine own_iconst C (v := (0 : Int32)) own_d1_6 (by decide) (pc' := 7) rfl ?_
    refine own_goto C own_d1_7 (by decide) (pc' := 17) (by decide) ?_
    exact own_ireturn C (Or.inl rfl) rfl own_d1_17 (by decide) (by decide) ⟨congrArg (fun z => some (Value.int z)) (if_pos hc).symm, rfl⟩
  · refine own_iloadN C own_d1_0 rfl (pc' := 1) rfl ?_
    refine own_iconst C (v := (1 : Int32)) own_d1_1 (by decide) (pc' := 2) rfl ?_
    refine own_iand C own_d1_2 rfl (pc' := 3) rfl ?_
    refine own_ifY C own_d1_3 ((if0 _ _).trans (feq hc).2) (by decide) (pc' := 10) (by decide) ?_
    refine own_iloadN C own_d1_10 rfl (pc' := 11) rfl ?_
    refine own_iconst C (v := (1 : Int32)) own_d1_11 (by decide) (pc' := 12) rfl ?_
    refine own_iushr C own_d1_12 rfl (pc' := 13) rfl ?_
    refine own_sipush C (v := (32767 : Int32)) own_d1_13 (by decide) (pc' := 16) rfl ?_
    refine own_iand C own_d1_16 rfl (pc' := 17) rfl ?_
    exact own_ireturn C (Or.inl rfl) rfl own_d1_17 (by decide) (by decide) ⟨congrArg (fun z => some (Value.int z)) (if_neg hc).symm, rfl⟩
def own_wk (x : Int32) : Int32 := if ((x.toUInt32 >>> ((16 : Int32) &&& 31).toUInt32).toInt32 &&& (1 : Int32)) = (0 : Int32) then (0 : Int32) else (((x.toUInt32 >>> ((17 : Int32) &&& 31).toUInt32).toInt32) &&& (32767 : Int32))
theorem own_wk_met (l : Launch) {Z : State} {a0 : Array Value} (hw : ∀ d ∈ tables_1, d.before a0 Z = true) {n0 : Nat} {h : Heap} (x : Int32) :
    own_Met l Z (⟨"com/example/interweave/interweave/engine/PaceTookPinLaw", "workOf", "(I)I"⟩ : MethodName) method_3_code 1 (some .int) [] ({ frames := 0, cells := 0, slots := 0, locals := 0 } : Room) n0 #[(.int x)] h (own_pure (.int (own_wk x)) h) := by
  refine own_met (Ls := #[.val (.int x)]) (by first | exact plainFor_of_name (by first | (simp [plainName, overriddenIn]; done) | decide +kernel) | decide +kernel) rfl ?_
  intro p e s m below meth c C
  by_cases hc : ((x.toUInt32 >>> ((16 : Int32) &&& 31).toUInt32).toInt32 &&& (1 : Int32)) = (0 : Int32)
  · refine own_iloadN C own_d2_0 rfl (pc' := 1) rfl ?_
    refine own_bipush C (v := (16 : Int32)) own_d2_1 (by decide) (pc' := 3) rfl ?_
    refine own_iushr C own_d2_3 rfl (pc' := 4) rfl ?_
    refine own_iconst C (v := (1 : Int32)) own_d2_4 (by decide) (pc' := 5) rfl ?_
    refine own_iand C own_d2_5 rfl (pc' := 6) rfl ?_
    refine own_ifN C own_d2_6 ((if0 _ _).trans (teq hc).2) (pc' := 9) rfl ?_
    refine own_iconst C (v := (0 : Int32)) own_d2_9 (by decide) (pc' := 10) rfl ?_
    refine own_goto C own_d2_10 (by decide) (pc' := 21) (by decide) ?_
    exact own_ireturn C (Or.inl rfl) rfl own_d2_21 (by decide) (by decide) ⟨congrArg (fun z => some (Value.int z)) (if_pos hc).symm, rfl⟩
  · refine own_iloadN C own_d2_0 rfl (pc' := 1) rfl ?_
    refine own_bipush C (v := (16 : Int32)) own_d2_1 (by decide) (pc' := 3) rfl ?_
    refine own_iushr C own_d2_3 rfl (pc' := 4) rfl ?_
    refine own_iconst C (v := (1 : Int32)) own_d2_4 (by decide) (pc' := 5) rfl ?_
    refine own_iand C own_d2_5 rfl (pc' := 6) rfl ?_
    refine own_ifY C own_d2_6 ((if0 _ _).trans (feq hc).2) (by decide) (pc' := 13) (by decide) ?_
    refine own_iloadN C own_d2_13 rfl (pc' := 14) rfl ?_
    refine own_bipush C (v := (17 : Int32)) own_d2_14 (by decide) (pc' := 16) rfl ?_
    refine own_iushr C own_d2_16 rfl (pc' := 17) rfl ?_
    refine own_sipush C (v := (32767 : Int32)) own_d2_17 (by decide) (pc' := 20) rfl ?_
    refine own_iand C own_d2_20 rfl (pc' := 21) rfl ?_
    exact own_ireturn C (Or.inl rfl) rfl own_d2_21 (by decide) (by decide) ⟨congrArg (fun z => some (Value.int z)) (if_neg hc).symm, rfl⟩
theorem own_m15 (x : Int32) : own_S0 32767 (x &&& (32767 : Int32)) := by
  have e := Jvm.Kit.i32_mask x 32767 (k := 15) (by decide) (by decide)
  exact ⟨by omega, by omega⟩
theorem own_spb (x : Int32) : own_S0 32767 (own_sp x) := by
  unfold own_sp; split
  · exact ⟨by decide, by decide⟩
  · exact own_m15 _
theorem own_wkb (x : Int32) : own_S0 32767 (own_wk x) := by
  unfold own_wk; split
  · exact ⟨by decide, by decide⟩
  · exact own_m15 _
set_option maxHeartbeats 4000000 in
theorem own_took (l : Launch) {Z : State} {a0 : Array Value} (hw : ∀ d ∈ tables_1, d.before a0 Z = true) {n0 : Nat} {h : Heap} (p0 : Nat) {P : UInt64} {S0 D0 G M F N sp wk S1 D1 : Int32} (bS : own_Sm S0) (bD : own_Sm D0) (bG : own_Sm G) (bM : own_Sm M) (bM2 : own_Sm (2 * M)) (bF : own_Sm F) (bs : own_Sm sp) (bw : own_Sm wk) (eS : S0 + sp = S1) (eD : D0 + wk = D1) (bS1 : own_Sm S1) (bD1 : own_Sm D1) (o_p0 : own_Ob Z h p0 "com/example/interweave/interweave/engine/Pace" own_lay0 [.double P, .double (FP.i2d S0), .double (FP.i2d D0), .double (FP.i2d G), .double (FP.i2d M), .double (FP.i2d F), .double (FP.i2d N)]) (g_p0 : n0 ≤ p0) :
    own_Met l Z (⟨"com/example/interweave/interweave/engine/Pace", "took", "(DD)V"⟩ : MethodName) prog_6_method_2_code 5 none [] ({ frames := 0, cells := 0, slots := 0, locals := 0 } : Room) n0 #[(.ref p0), (.double (FP.i2d sp)), (.double (FP.i2d wk))] h (own_nov fun h' => ∃ (P1 : UInt64) (G1 M1 F1 N1 : Int32), P1 = (if G < D1 then FP.ddiv (FP.i2d (S1 - F)) (FP.i2d (D1 - G)) else P) ∧ G1 = (if S1 < 2 * M then G else N) ∧ M1 = (if S1 < 2 * M then M else S1) ∧ F1 = (if S1 < 2 * M then F else M) ∧ N1 = (if S1 < 2 * M then N else D1) ∧ Keep h h' [p0] ∧ own_Ob Z h' p0 "com/example/interweave/interweave/engine/Pace" own_lay0 [.double P1, .double (FP.i2d S1), .double (FP.i2d D1), .double (FP.i2d G1), .double (FP.i2d M1), .double (FP.i2d F1), .double (FP.i2d N1)]) := by
  refine own_met (Ls := #[.val (.ref p0), .val (.double (FP.i2d sp)), .second, .val (.double (FP.i2d wk)), .second]) (by first | exact plainFor_of_name (by first | (simp [plainName, overriddenIn]; done) | decide +kernel) | decide +kernel) rfl ?_
  intro p e s m below meth c C
  by_cases hA : G < D1
  · by_cases hB : S1 < 2 * M
    · refine own_aloadN C own_d5_0 rfl rfl (pc' := 1) rfl ?_
      refine own_dup C own_d5_1 rfl (pc' := 2) rfl ?_
      refine own_getO C (own_w hw 25 rfl) Via.refl o_p0 1 rfl rfl own_d5_2 (pc' := 5) rfl ?_
      refine own_dloadN C own_d5_5 rfl (pc' := 6) rfl ?_
      refine own_dadd C (v := (FP.i2d S1)) own_d5_6 (own_nn _) ((own_da bS bs).trans (congrArg FP.i2d eS)) (pc' := 7) rfl ?_
      refine own_putO C (own_w hw 25 rfl) Via.refl o_p0 (own_lay0_ok hw) 1 rfl (vs' := [(.double P), (.double (FP.i2d S1)), (.double (FP.i2d D0)), (.double (FP.i2d G)), (.double (FP.i2d M)), (.double (FP.i2d F)), (.double (FP.i2d N))]) rfl (Or.inl (own_w hw 26 rfl)) (own_w hw 9 rfl) (ty := .double) (by decide) (by first | rfl | decide) (by first | rfl | decide) g_p0 own_d5_7 (pc' := 10) rfl ?_
      intro h1 W1 o_p0_1
      have s1 : h1.size = h.size := W1.size
      have k1 : Keep h h1 [p0] := (Keep.refl h [p0]).wr W1 (Or.inl (by simp))
      refine own_aloadN C own_d5_10 rfl rfl (pc' := 11) rfl ?_
      refine own_dup C own_d5_11 rfl (pc' := 12) rfl ?_
      refine own_getO C (own_w hw 27 rfl) Via.refl o_p0_1 2 rfl rfl own_d5_12 (pc' := 15) rfl ?_
      refine own_dloadN C own_d5_15 rfl (pc' := 16) rfl ?_
      refine own_dadd C (v := (FP.i2d D1)) own_d5_16 (own_nn _) ((own_da bD bw).trans (congrArg FP.i2d eD)) (pc' := 17) rfl ?_
      refine own_putO C (own_w hw 27 rfl) Via.refl o_p0_1 (own_lay0_ok hw) 2 rfl (vs' := [(.double P), (.double (FP.i2d S1)), (.double (FP.i2d D1)), (.double (FP.i2d G)), (.double (FP.i2d M)), (.double (FP.i2d F)), (.double (FP.i2d N))]) rfl (Or.inl (own_w hw 28 rfl)) (own_w hw 9 rfl) (ty := .double) (by decide) (by first | rfl | decide) (by first | rfl | decide) g_p0 own_d5_17 (pc' := 20) rfl ?_
      intro h2 W2 o_p0_2
      have s2 : h2.size = h1.size := W2.size
      have k2 : Keep h h2 [p0] := k1.wr W2 (Or.inl (by simp))
      refine own_aloadN C own_d5_20 rfl rfl (pc' := 21) rfl ?_
      refine own_getO C (own_w hw 27 rfl) Via.refl o_p0_2 2 rfl rfl own_d5_21 (pc' := 24) rfl ?_
      refine own_aloadN C own_d5_24 rfl rfl (pc' := 25) rfl ?_
      refine own_getO C (own_w hw 29 rfl) Via.refl o_p0_2 3 rfl rfl own_d5_25 (pc' := 28) rfl ?_
      refine own_dcmp C (v := (1 : Int32)) own_d5_28 (own_dcY bD1 bG hA) (pc' := 29) rfl ?_
      refine own_ifN C own_d5_29 (by decide) (pc' := 32) rfl ?_
      refine own_aloadN C own_d5_32 rfl rfl (pc' := 33) rfl ?_
      refine own_aloadN C own_d5_33 rfl rfl (pc' := 34) rfl ?_
      refine own_getO C (own_w hw 25 rfl) Via.refl o_p0_2 1 rfl rfl own_d5_34 (pc' := 37) rfl ?_
      refine own_aloadN C own_d5_37 rfl rfl (pc' := 38) rfl ?_
      refine own_getO C (own_w hw 34 rfl) Via.refl o_p0_2 5 rfl rfl own_d5_38 (pc' := 41) rfl ?_
      refine own_dsub C (v := (FP.i2d (S1 - F))) own_d5_41 (own_nn _) (own_ds bS1 bF) (pc' := 42) rfl ?_
      refine own_aloadN C own_d5_42 rfl rfl (pc' := 43) rfl ?_
      refine own_getO C (own_w hw 27 rfl) Via.refl o_p0_2 2 rfl rfl own_d5_43 (pc' := 46) rfl ?_
      refine own_aloadN C own_d5_46 rfl rfl (pc' := 47) rfl ?_
      refine own_getO C (own_w hw 29 rfl) Via.refl o_p0_2 3 rfl rfl own_d5_47 (pc' := 50) rfl ?_
      refine own_dsub C (v := (FP.i2d (D1 - G))) own_d5_50 (own_nn _) (own_ds bD1 bG) (pc' := 51) rfl ?_
      refine own_ddiv C (v := (FP.ddiv (FP.i2d (S1 - F)) (FP.i2d (D1 - G)))) own_d5_51 (own_dv (own_subpos bD1 bG hA)) rfl (pc' := 52) rfl ?_
      refine own_putO C (own_w hw 18 rfl) Via.refl o_p0_2 (own_lay0_ok hw) 0 rfl (vs' := [(.double (FP.ddiv (FP.i2d (S1 - F)) (FP.i2d (D1 - G)))), (.double (FP.i2d S1)), (.double (FP.i2d D1)), (.double (FP.i2d G)), (.double (FP.i2d M)), (.double (FP.i2d F)), (.double (FP.i2d N))]) rfl (Or.inl (own_w hw 19 rfl)) (own_w hw 9 rfl) (ty := .double) (by decide) (by first | rfl | decide) (by first | rfl | decide) g_p0 own_d5_52 (pc' := 55) rfl ?_
      intro h3 W3 o_p0_3
      have s3 : h3.size = h2.size := W3.size
      have k3 : Keep h h3 [p0] := k2.wr W3 (Or.inl (by simp))
      refine own_aloadN C own_d5_55 rfl rfl (pc' := 56) rfl ?_
      refine own_getO C (own_w hw 25 rfl) Via.refl o_p0_3 1 rfl rfl own_d5_56 (pc' := 59) rfl ?_
      refine own_ldc2d C (v := 4611686018427387904) (own_w hw 31 rfl) own_d5_59 (pc' := 62) rfl ?_
      refine own_aloadN C own_d5_62 rfl rfl (pc' := 63) rfl ?_
      refine own_getO C (own_w hw 32 rfl) Via.refl o_p0_3 4 rfl rfl own_d5_63 (pc' := 66) rfl ?_
      refine own_dmul C (v := (FP.i2d (2 * M))) own_d5_66 (own_nn _) (own_dm bM) (pc' := 67) rfl ?_
      refine own_dcmp C (v := (-1 : Int32)) own_d5_67 (own_dcL bS1 bM2 hB) (pc' := 68) rfl ?_
      refine own_ifY C own_d5_68 (by decide) (by decide) (pc' := 103) (by decide) ?_
      exact own_return C own_d5_103 (by decide) (by decide) ⟨rfl, _, _, _, _, _, (if_pos hA).symm, (if_pos hB).symm, (if_pos hB).symm, (if_pos hB).symm, (if_pos hB).symm, k3, o_p0_3⟩
    · refine own_aloadN C own_d5_0 rfl rfl (pc' := 1) rfl ?_
      refine own_dup C own_d5_1 rfl (pc' := 2) rfl ?_
      refine own_getO C (own_w hw 25 rfl) Via.refl o_p0 1 rfl rfl own_d5_2 (pc' := 5) rfl ?_
      refine own_dloadN C own_d5_5 rfl (pc' := 6) rfl ?_
      refine own_dadd C (v := (FP.i2d S1)) own_d5_6 (own_nn _) ((own_da bS bs).trans (congrArg FP.i2d eS)) (pc' := 7) rfl ?_
      refine own_putO C (own_w hw 25 rfl) Via.refl o_p0 (own_lay0_ok hw) 1 rfl (vs' := [(.double P), (.double (FP.i2d S1)), (.double (FP.i2d D0)), (.double (FP.i2d G)), (.double (FP.i2d M)), (.double (FP.i2d F)), (.double (FP.i2d N))]) rfl (Or.inl (own_w hw 26 rfl)) (own_w hw 9 rfl) (ty := .double) (by decide) (by first | rfl | decide) (by first | rfl | decide) g_p0 own_d5_7 (pc' := 10) rfl ?_
      intro h1 W1 o_p0_1
      have s1 : h1.size = h.size := W1.size
      have k1 : Keep h h1 [p0] := (Keep.refl h [p0]).wr W1 (Or.inl (by simp))
      refine own_aloadN C own_d5_10 rfl rfl (pc' := 11) rfl ?_
      refine own_dup C own_d5_11 rfl (pc' := 12) rfl ?_
      refine own_getO C (own_w hw 27 rfl) Via.refl o_p0_1 2 rfl rfl own_d5_12 (pc' := 15) rfl ?_
      refine own_dloadN C own_d5_15 rfl (pc' := 16) rfl ?_
      refine own_dadd C (v := (FP.i2d D1)) own_d5_16 (own_nn _) ((own_da bD bw).trans (congrArg FP.i2d eD)) (pc' := 17) rfl ?_
      refine own_putO C (own_w hw 27 rfl) Via.refl o_p0_1 (own_lay0_ok hw) 2 rfl (vs' := [(.double P), (.double (FP.i2d S1)), (.double (FP.i2d D1)), (.double (FP.i2d G)), (.double (FP.i2d M)), (.double (FP.i2d F)), (.double (FP.i2d N))]) rfl (Or.inl (own_w hw 28 rfl)) (own_w hw 9 rfl) (ty := .double) (by decide) (by first | rfl | decide) (by first | rfl | decide) g_p0 own_d5_17 (pc' := 20) rfl ?_
      intro h2 W2 o_p0_2
      have s2 : h2.size = h1.size := W2.size
      have k2 : Keep h h2 [p0] := k1.wr W2 (Or.inl (by simp))
      refine own_aloadN C own_d5_20 rfl rfl (pc' := 21) rfl ?_
      refine own_getO C (own_w hw 27 rfl) Via.refl o_p0_2 2 rfl rfl own_d5_21 (pc' := 24) rfl ?_
      refine own_aloadN C own_d5_24 rfl rfl (pc' := 25) rfl ?_
      refine own_getO C (own_w hw 29 rfl) Via.refl o_p0_2 3 rfl rfl own_d5_25 (pc' := 28) rfl ?_
      refine own_dcmp C (v := (1 : Int32)) own_d5_28 (own_dcY bD1 bG hA) (pc' := 29) rfl ?_
      refine own_ifN C own_d5_29 (by decide) (pc' := 32) rfl ?_
      refine own_aloadN C own_d5_32 rfl rfl (pc' := 33) rfl ?_
      refine own_aloadN C own_d5_33 rfl rfl (pc' := 34) rfl ?_
      refine own_getO C (own_w hw 25 rfl) Via.refl o_p0_2 1 rfl rfl own_d5_34 (pc' := 37) rfl ?_
      refine own_aloadN C own_d5_37 rfl rfl (pc' := 38) rfl ?_
      refine own_getO C (own_w hw 34 rfl) Via.refl o_p0_2 5 rfl rfl own_d5_38 (pc' := 41) rfl ?_
      refine own_dsub C (v := (FP.i2d (S1 - F))) own_d5_41 (own_nn _) (own_ds bS1 bF) (pc' := 42) rfl ?_
      refine own_aloadN C own_d5_42 rfl rfl (pc' := 43) rfl ?_
      refine own_getO C (own_w hw 27 rfl) Via.refl o_p0_2 2 rfl rfl own_d5_43 (pc' := 46) rfl ?_
      refine own_aloadN C own_d5_46 rfl rfl (pc' := 47) rfl ?_
      refine own_getO C (own_w hw 29 rfl) Via.refl o_p0_2 3 rfl rfl own_d5_47 (pc' := 50) rfl ?_
      refine own_dsub C (v := (FP.i2d (D1 - G))) own_d5_50 (own_nn _) (own_ds bD1 bG) (pc' := 51) rfl ?_
      refine own_ddiv C (v := (FP.ddiv (FP.i2d (S1 - F)) (FP.i2d (D1 - G)))) own_d5_51 (own_dv (own_subpos bD1 bG hA)) rfl (pc' := 52) rfl ?_
      refine own_putO C (own_w hw 18 rfl) Via.refl o_p0_2 (own_lay0_ok hw) 0 rfl (vs' := [(.double (FP.ddiv (FP.i2d (S1 - F)) (FP.i2d (D1 - G)))), (.double (FP.i2d S1)), (.double (FP.i2d D1)), (.double (FP.i2d G)), (.double (FP.i2d M)), (.double (FP.i2d F)), (.double (FP.i2d N))]) rfl (Or.inl (own_w hw 19 rfl)) (own_w hw 9 rfl) (ty := .double) (by decide) (by first | rfl | decide) (by first | rfl | decide) g_p0 own_d5_52 (pc' := 55) rfl ?_
      intro h3 W3 o_p0_3
      have s3 : h3.size = h2.size := W3.size
      have k3 : Keep h h3 [p0] := k2.wr W3 (Or.inl (by simp))
      refine own_aloadN C own_d5_55 rfl rfl (pc' := 56) rfl ?_
      refine own_getO C (own_w hw 25 rfl) Via.refl o_p0_3 1 rfl rfl own_d5_56 (pc' := 59) rfl ?_
      refine own_ldc2d C (v := 4611686018427387904) (own_w hw 31 rfl) own_d5_59 (pc' := 62) rfl ?_
      refine own_aloadN C own_d5_62 rfl rfl (pc' := 63) rfl ?_
      refine own_getO C (own_w hw 32 rfl) Via.refl o_p0_3 4 rfl rfl own_d5_63 (pc' := 66) rfl ?_
      refine own_dmul C (v := (FP.i2d (2 * M))) own_d5_66 (own_nn _) (own_dm bM) (pc' := 67) rfl ?_
      obtain ⟨v67, q67, r67⟩ := own_dcG bS1 bM2 hB
      refine own_dcmp C (v := v67) own_d5_67 q67 (pc' := 68) rfl ?_
      refine own_ifN C own_d5_68 r67 (pc' := 71) rfl ?_
      refine own_aloadN C own_d5_71 rfl rfl (pc' := 72) rfl ?_
      refine own_aloadN C own_d5_72 rfl rfl (pc' := 73) rfl ?_
      refine own_getO C (own_w hw 32 rfl) Via.refl o_p0_3 4 rfl rfl own_d5_73 (pc' := 76) rfl ?_
      refine own_putO C (own_w hw 34 rfl) Via.refl o_p0_3 (own_lay0_ok hw) 5 rfl (vs' := [(.double (FP.ddiv (FP.i2d (S1 - F)) (FP.i2d (D1 - G)))), (.double (FP.i2d S1)), (.double (FP.i2d D1)), (.double (FP.i2d G)), (.double (FP.i2d M)), (.double (FP.i2d M)), (.double (FP.i2d N))]) rfl (Or.inl (own_w hw 35 rfl)) (own_w hw 9 rfl) (ty := .double) (by decide) (by first | rfl | decide) (by first | rfl | decide) g_p0 own_d5_76 (pc' := 79) rfl ?_
      intro h4 W4 o_p0_4
      have s4 : h4.size = h3.size := W4.size
      have k4 : Keep h h4 [p0] := k3.wr W4 (Or.inl (by simp))
      refine own_aloadN C own_d5_79 rfl rfl (pc' := 80) rfl ?_
      refine own_aloadN C own_d5_80 rfl rfl (pc' := 81) rfl ?_
      refine own_getO C (own_w hw 36 rfl) Via.refl o_p0_4 6 rfl rfl own_d5_81 (pc' := 84) rfl ?_
      refine own_putO C (own_w hw 29 rfl) Via.refl o_p0_4 (own_lay0_ok hw) 3 rfl (vs' := [(.double (FP.ddiv (FP.i2d (S1 - F)) (FP.i2d (D1 - G)))), (.double (FP.i2d S1)), (.double (FP.i2d D1)), (.double (FP.i2d N)), (.double (FP.i2d M)), (.double (FP.i2d M)), (.double (FP.i2d N))]) rfl (Or.inl (own_w hw 30 rfl)) (own_w hw 9 rfl) (ty := .double) (by decide) (by first | rfl | decide) (by first | rfl | decide) g_p0 own_d5_84 (pc' := 87) rfl ?_
      intro h5 W5 o_p0_5
      have s5 : h5.size = h4.size := W5.size
      have k5 : Keep h h5 [p0] := k4.wr W5 (Or.inl (by simp))
      refine own_aloadN C own_d5_87 rfl rfl (pc' := 88) rfl ?_
      refine own_aloadN C own_d5_88 rfl rfl (pc' := 89) rfl ?_
      refine own_getO C (own_w hw 25 rfl) Via.refl o_p0_5 1 rfl rfl own_d5_89 (pc' := 92) rfl ?_
      refine own_putO C (own_w hw 32 rfl) Via.refl o_p0_5 (own_lay0_ok hw) 4 rfl (vs' := [(.double (FP.ddiv (FP.i2d (S1 - F)) (FP.i2d (D1 - G)))), (.double (FP.i2d S1)), (.double (FP.i2d D1)), (.double (FP.i2d N)), (.double (FP.i2d S1)), (.double (FP.i2d M)), (.double (FP.i2d N))]) rfl (Or.inl (own_w hw 33 rfl)) (own_w hw 9 rfl) (ty := .double) (by decide) (by first | rfl | decide) (by first | rfl | decide) g_p0 own_d5_92 (pc' := 95) rfl ?_
      intro h6 W6 o_p0_6
      have s6 : h6.size = h5.size := W6.size
      have k6 : Keep h h6 [p0] := k5.wr W6 (Or.inl (by simp))
      refine own_aloadN C own_d5_95 rfl rfl (pc' := 96) rfl ?_
      refine own_aloadN C own_d5_96 rfl rfl (pc' := 97) rfl ?_
      refine own_getO C (own_w hw 27 rfl) Via.refl o_p0_6 2 rfl rfl own_d5_97 (pc' := 100) rfl ?_
      refine own_putO C (own_w hw 36 rfl) Via.refl o_p0_6 (own_lay0_ok hw) 6 rfl (vs' := [(.double (FP.ddiv (FP.i2d (S1 - F)) (FP.i2d (D1 - G)))), (.double (FP.i2d S1)), (.double (FP.i2d D1)), (.double (FP.i2d N)), (.double (FP.i2d S1)), (.double (FP.i2d M)), (.double (FP.i2d D1))]) rfl (Or.inl (own_w hw 37 rfl)) (own_w hw 9 rfl) (ty := .double) (by decide) (by first | rfl | decide) (by first | rfl | decide) g_p0 own_d5_100 (pc' := 103) rfl ?_
      intro h7 W7 o_p0_7
      have s7 : h7.size = h6.size := W7.size
      have k7 : Keep h h7 [p0] := k6.wr W7 (Or.inl (by simp))
      exact own_return C own_d5_103 (by decide) (by decide) ⟨rfl, _, _, _, _, _, (if_pos hA).symm, (if_neg hB).symm, (if_neg hB).symm, (if_neg hB).symm, (if_neg hB).symm, k7, o_p0_7⟩
  · by_cases hB : S1 < 2 * M
    · refine own_aloadN C own_d5_0 rfl rfl (pc' := 1) rfl ?_
      refine own_dup C own_d5_1 rfl (pc' := 2) rfl ?_
      refine own_getO C (own_w hw 25 rfl) Via.refl o_p0 1 rfl rfl own_d5_2 (pc' := 5) rfl ?_
      refine own_dloadN C own_d5_5 rfl (pc' := 6) rfl ?_
      refine own_dadd C (v := (FP.i2d S1)) own_d5_6 (own_nn _) ((own_da bS bs).trans (congrArg FP.i2d eS)) (pc' := 7) rfl ?_
      refine own_putO C (own_w hw 25 rfl) Via.refl o_p0 (own_lay0_ok hw) 1 rfl (vs' := [(.double P), (.double (FP.i2d S1)), (.double (FP.i2d D0)), (.double (FP.i2d G)), (.double (FP.i2d M)), (.double (FP.i2d F)), (.double (FP.i2d N))]) rfl (Or.inl (own_w hw 26 rfl)) (own_w hw 9 rfl) (ty := .double) (by decide) (by first | rfl | decide) (by first | rfl | decide) g_p0 own_d5_7 (pc' := 10) rfl ?_
      intro h1 W1 o_p0_1
      have s1 : h1.size = h.size := W1.size
      have k1 : Keep h h1 [p0] := (Keep.refl h [p0]).wr W1 (Or.inl (by simp))
      refine own_aloadN C own_d5_10 rfl rfl (pc' := 11) rfl ?_
      refine own_dup C own_d5_11 rfl (pc' := 12) rfl ?_
      refine own_getO C (own_w hw 27 rfl) Via.refl o_p0_1 2 rfl rfl own_d5_12 (pc' := 15) rfl ?_
      refine own_dloadN C own_d5_15 rfl (pc' := 16) rfl ?_
      refine own_dadd C (v := (FP.i2d D1)) own_d5_16 (own_nn _) ((own_da bD bw).trans (congrArg FP.i2d eD)) (pc' := 17) rfl ?_
      refine own_putO C (own_w hw 27 rfl) Via.refl o_p0_1 (own_lay0_ok hw) 2 rfl (vs' := [(.double P), (.double (FP.i2d S1)), (.double (FP.i2d D1)), (.double (FP.i2d G)), (.double (FP.i2d M)), (.double (FP.i2d F)), (.double (FP.i2d N))]) rfl (Or.inl (own_w hw 28 rfl)) (own_w hw 9 rfl) (ty := .double) (by decide) (by first | rfl | decide) (by first | rfl | decide) g_p0 own_d5_17 (pc' := 20) rfl ?_
      intro h2 W2 o_p0_2
      have s2 : h2.size = h1.size := W2.size
      have k2 : Keep h h2 [p0] := k1.wr W2 (Or.inl (by simp))
      refine own_aloadN C own_d5_20 rfl rfl (pc' := 21) rfl ?_
      refine own_getO C (own_w hw 27 rfl) Via.refl o_p0_2 2 rfl rfl own_d5_21 (pc' := 24) rfl ?_
      refine own_aloadN C own_d5_24 rfl rfl (pc' := 25) rfl ?_
      refine own_getO C (own_w hw 29 rfl) Via.refl o_p0_2 3 rfl rfl own_d5_25 (pc' := 28) rfl ?_
      obtain ⟨v28, q28, r28⟩ := own_dcN bD1 bG hA
      refine own_dcmp C (v := v28) own_d5_28 q28 (pc' := 29) rfl ?_
      refine own_ifY C own_d5_29 r28 (by decide) (pc' := 55) (by decide) ?_
      refine own_aloadN C own_d5_55 rfl rfl (pc' := 56) rfl ?_
      refine own_getO C (own_w hw 25 rfl) Via.refl o_p0_2 1 rfl rfl own_d5_56 (pc' := 59) rfl ?_
      refine own_ldc2d C (v := 4611686018427387904) (own_w hw 31 rfl) own_d5_59 (pc' := 62) rfl ?_
      refine own_aloadN C own_d5_62 rfl rfl (pc' := 63) rfl ?_
      refine own_getO C (own_w hw 32 rfl) Via.refl o_p0_2 4 rfl rfl own_d5_63 (pc' := 66) rfl ?_
      refine own_dmul C (v := (FP.i2d (2 * M))) own_d5_66 (own_nn _) (own_dm bM) (pc' := 67) rfl ?_
      refine own_dcmp C (v := (-1 : Int32)) own_d5_67 (own_dcL bS1 bM2 hB) (pc' := 68) rfl ?_
      refine own_ifY C own_d5_68 (by decide) (by decide) (pc' := 103) (by decide) ?_
      exact own_return C own_d5_103 (by decide) (by decide) ⟨rfl, _, _, _, _, _, (if_neg hA).symm, (if_pos hB).symm, (if_pos hB).symm, (if_pos hB).symm, (if_pos hB).symm, k2, o_p0_2⟩
    · refine own_aloadN C own_d5_0 rfl rfl (pc' := 1) rfl ?_
      refine own_dup C own_d5_1 rfl (pc' := 2) rfl ?_
      refine own_getO C (own_w hw 25 rfl) Via.refl o_p0 1 rfl rfl own_d5_2 (pc' := 5) rfl ?_
      refine own_dloadN C own_d5_5 rfl (pc' := 6) rfl ?_
      refine own_dadd C (v := (FP.i2d S1)) own_d5_6 (own_nn _) ((own_da bS bs).trans (congrArg FP.i2d eS)) (pc' := 7) rfl ?_
      refine own_putO C (own_w hw 25 rfl) Via.refl o_p0 (own_lay0_ok hw) 1 rfl (vs' := [(.double P), (.double (FP.i2d S1)), (.double (FP.i2d D0)), (.double (FP.i2d G)), (.double (FP.i2d M)), (.double (FP.i2d F)), (.double (FP.i2d N))]) rfl (Or.inl (own_w hw 26 rfl)) (own_w hw 9 rfl) (ty := .double) (by decide) (by first | rfl | decide) (by first | rfl | decide) g_p0 own_d5_7 (pc' := 10) rfl ?_
      intro h1 W1 o_p0_1
      have s1 : h1.size = h.size := W1.size
      have k1 : Keep h h1 [p0] := (Keep.refl h [p0]).wr W1 (Or.inl (by simp))
      refine own_aloadN C own_d5_10 rfl rfl (pc' := 11) rfl ?_
      refine own_dup C own_d5_11 rfl (pc' := 12) rfl ?_
      refine own_getO C (own_w hw 27 rfl) Via.refl o_p0_1 2 rfl rfl own_d5_12 (pc' := 15) rfl ?_
      refine own_dloadN C own_d5_15 rfl (pc' := 16) rfl ?_
      refine own_dadd C (v := (FP.i2d D1)) own_d5_16 (own_nn _) ((own_da bD bw).trans (congrArg FP.i2d eD)) (pc' := 17) rfl ?_
      refine own_putO C (own_w hw 27 rfl) Via.refl o_p0_1 (own_lay0_ok hw) 2 rfl (vs' := [(.double P), (.double (FP.i2d S1)), (.double (FP.i2d D1)), (.double (FP.i2d G)), (.double (FP.i2d M)), (.double (FP.i2d F)), (.double (FP.i2d N))]) rfl (Or.inl (own_w hw 28 rfl)) (own_w hw 9 rfl) (ty := .double) (by decide) (by first | rfl | decide) (by first | rfl | decide) g_p0 own_d5_17 (pc' := 20) rfl ?_
      intro h2 W2 o_p0_2
      have s2 : h2.size = h1.size := W2.size
      have k2 : Keep h h2 [p0] := k1.wr W2 (Or.inl (by simp))
      refine own_aloadN C own_d5_20 rfl rfl (pc' := 21) rfl ?_
      refine own_getO C (own_w hw 27 rfl) Via.refl o_p0_2 2 rfl rfl own_d5_21 (pc' := 24) rfl ?_
      refine own_aloadN C own_d5_24 rfl rfl (pc' := 25) rfl ?_
      refine own_getO C (own_w hw 29 rfl) Via.refl o_p0_2 3 rfl rfl own_d5_25 (pc' := 28) rfl ?_
      obtain ⟨v28, q28, r28⟩ := own_dcN bD1 bG hA
      refine own_dcmp C (v := v28) own_d5_28 q28 (pc' := 29) rfl ?_
      refine own_ifY C own_d5_29 r28 (by decide) (pc' := 55) (by decide) ?_
      refine own_aloadN C own_d5_55 rfl rfl (pc' := 56) rfl ?_
      refine own_getO C (own_w hw 25 rfl) Via.refl o_p0_2 1 rfl rfl own_d5_56 (pc' := 59) rfl ?_
      refine own_ldc2d C (v := 4611686018427387904) (own_w hw 31 rfl) own_d5_59 (pc' := 62) rfl ?_
      refine own_aloadN C own_d5_62 rfl rfl (pc' := 63) rfl ?_
      refine own_getO C (own_w hw 32 rfl) Via.refl o_p0_2 4 rfl rfl own_d5_63 (pc' := 66) rfl ?_
      refine own_dmul C (v := (FP.i2d (2 * M))) own_d5_66 (own_nn _) (own_dm bM) (pc' := 67) rfl ?_
      obtain ⟨v67, q67, r67⟩ := own_dcG bS1 bM2 hB
      refine own_dcmp C (v := v67) own_d5_67 q67 (pc' := 68) rfl ?_
      refine own_ifN C own_d5_68 r67 (pc' := 71) rfl ?_
      refine own_aloadN C own_d5_71 rfl rfl (pc' := 72) rfl ?_
      refine own_aloadN C own_d5_72 rfl rfl (pc' := 73) rfl ?_
      refine own_getO C (own_w hw 32 rfl) Via.refl o_p0_2 4 rfl rfl own_d5_73 (pc' := 76) rfl ?_
      refine own_putO C (own_w hw 34 rfl) Via.refl o_p0_2 (own_lay0_ok hw) 5 rfl (vs' := [(.double P), (.double (FP.i2d S1)), (.double (FP.i2d D1)), (.double (FP.i2d G)), (.double (FP.i2d M)), (.double (FP.i2d M)), (.double (FP.i2d N))]) rfl (Or.inl (own_w hw 35 rfl)) (own_w hw 9 rfl) (ty := .double) (by decide) (by first | rfl | decide) (by first | rfl | decide) g_p0 own_d5_76 (pc' := 79) rfl ?_
      intro h3 W3 o_p0_3
      have s3 : h3.size = h2.size := W3.size
      have k3 : Keep h h3 [p0] := k2.wr W3 (Or.inl (by simp))
      refine own_aloadN C own_d5_79 rfl rfl (pc' := 80) rfl ?_
      refine own_aloadN C own_d5_80 rfl rfl (pc' := 81) rfl ?_
      refine own_getO C (own_w hw 36 rfl) Via.refl o_p0_3 6 rfl rfl own_d5_81 (pc' := 84) rfl ?_
      refine own_putO C (own_w hw 29 rfl) Via.refl o_p0_3 (own_lay0_ok hw) 3 rfl (vs' := [(.double P), (.double (FP.i2d S1)), (.double (FP.i2d D1)), (.double (FP.i2d N)), (.double (FP.i2d M)), (.double (FP.i2d M)), (.double (FP.i2d N))]) rfl (Or.inl (own_w hw 30 rfl)) (own_w hw 9 rfl) (ty := .double) (by decide) (by first | rfl | decide) (by first | rfl | decide) g_p0 own_d5_84 (pc' := 87) rfl ?_
      intro h4 W4 o_p0_4
      have s4 : h4.size = h3.size := W4.size
      have k4 : Keep h h4 [p0] := k3.wr W4 (Or.inl (by simp))
      refine own_aloadN C own_d5_87 rfl rfl (pc' := 88) rfl ?_
      refine own_aloadN C own_d5_88 rfl rfl (pc' := 89) rfl ?_
      refine own_getO C (own_w hw 25 rfl) Via.refl o_p0_4 1 rfl rfl own_d5_89 (pc' := 92) rfl ?_
      refine own_putO C (own_w hw 32 rfl) Via.refl o_p0_4 (own_lay0_ok hw) 4 rfl (vs' := [(.double P), (.double (FP.i2d S1)), (.double (FP.i2d D1)), (.double (FP.i2d N)), (.double (FP.i2d S1)), (.double (FP.i2d M)), (.double (FP.i2d N))]) rfl (Or.inl (own_w hw 33 rfl)) (own_w hw 9 rfl) (ty := .double) (by decide) (by first | rfl | decide) (by first | rfl | decide) g_p0 own_d5_92 (pc' := 95) rfl ?_
      intro h5 W5 o_p0_5
      have s5 : h5.size = h4.size := W5.size
      have k5 : Keep h h5 [p0] := k4.wr W5 (Or.inl (by simp))
      refine own_aloadN C own_d5_95 rfl rfl (pc' := 96) rfl ?_
      refine own_aloadN C own_d5_96 rfl rfl (pc' := 97) rfl ?_
      refine own_getO C (own_w hw 27 rfl) Via.refl o_p0_5 2 rfl rfl own_d5_97 (pc' := 100) rfl ?_
      refine own_putO C (own_w hw 36 rfl) Via.refl o_p0_5 (own_lay0_ok hw) 6 rfl (vs' := [(.double P), (.double (FP.i2d S1)), (.double (FP.i2d D1)), (.double (FP.i2d N)), (.double (FP.i2d S1)), (.double (FP.i2d M)), (.double (FP.i2d D1))]) rfl (Or.inl (own_w hw 37 rfl)) (own_w hw 9 rfl) (ty := .double) (by decide) (by first | rfl | decide) (by first | rfl | decide) g_p0 own_d5_100 (pc' := 103) rfl ?_
      intro h6 W6 o_p0_6
      have s6 : h6.size = h5.size := W6.size
      have k6 : Keep h h6 [p0] := k5.wr W6 (Or.inl (by simp))
      exact own_return C own_d5_103 (by decide) (by decide) ⟨rfl, _, _, _, _, _, (if_neg hA).symm, (if_neg hB).symm, (if_neg hB).symm, (if_neg hB).symm, (if_neg hB).symm, k6, o_p0_6⟩
set_option maxHeartbeats 2000000 in
theorem own_c3_0 (l : Launch) {Z : State} {a0 : Array Value} (hw : ∀ d ∈ tables_1, d.before a0 Z = true) {n0 : Nat} {h : Heap} (S : own_St Z ) (z0 : n0 ≤ h.size) (old : Old Z n0 h) (p0 : Nat) (o_p0 : own_Ob Z h p0 "com/example/interweave/interweave/engine/Pace" own_lay0 [(.double 0), (.double 0), (.double 0), (.double 0), (.double 0), (.double 0), (.double 0)]) (g_p0 : n0 ≤ p0) :
    own_Met l Z (⟨"com/example/interweave/interweave/engine/Pace", "<init>", "()V"⟩ : MethodName) prog_6_method_1_code 1 none [] ({ frames := 1, cells := 0, slots := 0, locals := 12 } : Room) n0 #[(.ref p0)] h (own_nov fun h' => Keep h h' [p0] ∧ own_Ob Z h' p0 "com/example/interweave/interweave/engine/Pace" own_lay0 [(.double 9218868437227405312), (.double 0), (.double 0), (.double 0), (.double 0), (.double 0), (.double 0)]) := by
  refine own_met (Ls := #[.val (.ref p0)]) (by first | exact plainFor_of_name (by first | (simp [plainName, overriddenIn]; done) | decide +kernel) | decide +kernel) rfl ?_
  intro p e s m below meth c C
  refine own_aloadN C own_d3_0 rfl rfl (pc' := 1) rfl ?_
  refine own_init0 C (own_w hw 14 rfl) (own_w hw 15 rfl) (own_w hw 16 rfl) own_d3_1 rfl (W := 0) (Nat.le_of_eq rfl) (by decide) (by decide) (pc' := 4) rfl ?_
  refine own_aloadN C own_d3_4 rfl rfl (pc' := 5) rfl ?_
  refine own_ldc2d C (v := 9218868437227405312) (own_w hw 17 rfl) own_d3_5 (pc' := 8) rfl ?_
  refine own_putO C (own_w hw 18 rfl) Via.refl o_p0 (own_lay0_ok hw) 0 rfl (vs' := [(.double 9218868437227405312), (.double 0), (.double 0), (.double 0), (.double 0), (.double 0), (.double 0)]) rfl (Or.inl (own_w hw 19 rfl)) (own_w hw 9 rfl) (ty := .double) (by decide) (by first | rfl | decide) (by first | rfl | decide) g_p0 own_d3_8 (pc' := 11) rfl ?_
  intro h1 W1 o_p0_1
  have s1 : h1.size = h.size := W1.size
  have k1 : Keep h h1 [p0] := (Keep.refl h [p0]).wr W1 (Or.inl (by simp))
  exact own_return C own_d3_11 (by decide) (by decide) ⟨rfl, k1, o_p0_1⟩
set_option maxHeartbeats 2000000 in
theorem own_c6_1 (l : Launch) {Z : State} {a0 : Array Value} (hw : ∀ d ∈ tables_1, d.before a0 Z = true) {n0 : Nat} {h : Heap} (S : own_St Z ) (z0 : n0 ≤ h.size) (old : Old Z n0 h) (d0 : UInt64) (d1 : UInt64) (d2 : UInt64) (d3 : UInt64) (p0 : Nat) (o_p0 : own_Ob Z h p0 "com/example/interweave/interweave/engine/Pace" own_lay0 [(.double d0), (.double d1), (.double d2), (.double d3), (.double d1), (.double d3), (.double d2)]) :
    own_Met l Z (⟨"com/example/interweave/interweave/engine/Pace", "perUnit", "()D"⟩ : MethodName) prog_6_method_4_code 1 (some .double) [] ({ frames := 0, cells := 0, slots := 0, locals := 0 } : Room) n0 #[(.ref p0)] h (own_pure (.double d0) h) := by
  refine own_met (Ls := #[.val (.ref p0)]) (by first | exact plainFor_of_name (by first | (simp [plainName, overriddenIn]; done) | decide +kernel) | decide +kernel) rfl ?_
  intro p e s m below meth c C
  refine own_aloadN C own_d6_0 rfl rfl (pc' := 1) rfl ?_
  refine own_getO C (own_w hw 18 rfl) Via.refl o_p0 0 rfl rfl own_d6_1 (pc' := 4) rfl ?_
  exact own_dreturn C own_d6_4 (by decide) (by decide) ⟨rfl, rfl⟩
set_option maxHeartbeats 2000000 in
theorem own_c6_2 (l : Launch) {Z : State} {a0 : Array Value} (hw : ∀ d ∈ tables_1, d.before a0 Z = true) {n0 : Nat} {h : Heap} (S : own_St Z ) (z0 : n0 ≤ h.size) (old : Old Z n0 h) (d0 : UInt64) (d1 : UInt64) (d2 : UInt64) (d3 : UInt64) (d4 : UInt64) (d5 : UInt64) (d6 : UInt64) (p0 : Nat) (o_p0 : own_Ob Z h p0 "com/example/interweave/interweave/engine/Pace" own_lay0 [(.double d0), (.double d1), (.double d2), (.double d3), (.double d4), (.double d5), (.double d6)]) :
    own_Met l Z (⟨"com/example/interweave/interweave/engine/Pace", "perUnit", "()D"⟩ : MethodName) prog_6_method_4_code 1 (some .double) [] ({ frames := 0, cells := 0, slots := 0, locals := 0 } : Room) n0 #[(.ref p0)] h (own_pure (.double d0) h) := by
  refine own_met (Ls := #[.val (.ref p0)]) (by first | exact plainFor_of_name (by first | (simp [plainName, overriddenIn]; done) | decide +kernel) | decide +kernel) rfl ?_
  intro p e s m below meth c C
  refine own_aloadN C own_d6_0 rfl rfl (pc' := 1) rfl ?_
  refine own_getO C (own_w hw 18 rfl) Via.refl o_p0 0 rfl rfl own_d6_1 (pc' := 4) rfl ?_
  exact own_dreturn C own_d6_4 (by decide) (by decide) ⟨rfl, rfl⟩
set_option maxHeartbeats 2000000 in
theorem own_c7_3 (l : Launch) {Z : State} {a0 : Array Value} (hw : ∀ d ∈ tables_1, d.before a0 Z = true) {n0 : Nat} {h : Heap} (S : own_St Z ) (z0 : n0 ≤ h.size) (old : Old Z n0 h) (d0 : UInt64) (d1 : UInt64) (d2 : UInt64) (d3 : UInt64) (d4 : UInt64) (d5 : UInt64) (d6 : UInt64) (p0 : Nat) (o_p0 : own_Ob Z h p0 "com/example/interweave/interweave/engine/Pace" own_lay0 [(.double d0), (.double d1), (.double d2), (.double d3), (.double d4), (.double d5), (.double d6)]) :
    own_Met l Z (⟨"com/example/interweave/interweave/engine/Pace", "spent", "()D"⟩ : MethodName) prog_6_method_7_code 1 (some .double) [] ({ frames := 0, cells := 0, slots := 0, locals := 0 } : Room) n0 #[(.ref p0)] h (own_pure (.double d1) h) := by
  refine own_met (Ls := #[.val (.ref p0)]) (by first | exact plainFor_of_name (by first | (simp [plainName, overriddenIn]; done) | decide +kernel) | decide +kernel) rfl ?_
  intro p e s m below meth c C
  refine own_aloadN C own_d7_0 rfl rfl (pc' := 1) rfl ?_
  refine own_getO C (own_w hw 25 rfl) Via.refl o_p0 1 rfl rfl own_d7_1 (pc' := 4) rfl ?_
  exact own_dreturn C own_d7_4 (by decide) (by decide) ⟨rfl, rfl⟩
set_option maxHeartbeats 2000000 in
theorem own_c8_4 (l : Launch) {Z : State} {a0 : Array Value} (hw : ∀ d ∈ tables_1, d.before a0 Z = true) {n0 : Nat} {h : Heap} (S : own_St Z ) (z0 : n0 ≤ h.size) (old : Old Z n0 h) (d0 : UInt64) (d1 : UInt64) (d2 : UInt64) (d3 : UInt64) (d4 : UInt64) (d5 : UInt64) (d6 : UInt64) (p0 : Nat) (o_p0 : own_Ob Z h p0 "com/example/interweave/interweave/engine/Pace" own_lay0 [(.double d0), (.double d1), (.double d2), (.double d3), (.double d4), (.double d5), (.double d6)]) :
    own_Met l Z (⟨"com/example/interweave/interweave/engine/Pace", "done", "()D"⟩ : MethodName) prog_6_method_6_code 1 (some .double) [] ({ frames := 0, cells := 0, slots := 0, locals := 0 } : Room) n0 #[(.ref p0)] h (own_pure (.double d2) h) := by
  refine own_met (Ls := #[.val (.ref p0)]) (by first | exact plainFor_of_name (by first | (simp [plainName, overriddenIn]; done) | decide +kernel) | decide +kernel) rfl ?_
  intro p e s m below meth c C
  refine own_aloadN C own_d8_0 rfl rfl (pc' := 1) rfl ?_
  refine own_getO C (own_w hw 27 rfl) Via.refl o_p0 2 rfl rfl own_d8_1 (pc' := 4) rfl ?_
  exact own_dreturn C own_d8_4 (by decide) (by decide) ⟨rfl, rfl⟩
set_option maxHeartbeats 8000000 in
theorem own_seg5 (l : Launch) {Z : State} {a0 : Array Value} (hw : ∀ d ∈ tables_1, d.before a0 Z = true) {n0 : Nat} {h : Heap} (S : own_St Z ) (z0 : n0 ≤ h.size) (old : Old Z n0 h) (y0 : Int32) (y1 : Int32) (y2 : Int32) (y3 : Int32) (y4 : Int32) (y5 : Int32) (y6 : Int32) (y7 : Int32) (y8 : Int32) (y9 : Int32) (y10 : Int32) (y11 : Int32) (b4 : own_S0 32767 y4) (b5 : own_S0 32767 y5) (b6 : own_S0 32767 y6) (b7 : own_S0 32767 y7) (b8 : own_S0 32767 y8) (b9 : own_S0 32767 y9) (b10 : own_S0 32767 y10) (b11 : own_S0 32767 y11) {p : Program} {e : Env} {s : State} {m : MethodId} {args : Array Value} {below : List Frame} {meth : Method} {c : Code} (C : own_Cx Z p s m meth c x.cls code maxLocals ret x.name) :
    own_At p l e room_1 s m args below meth c n0 (fun v _ => v = some (.int 1)) h 0 0 (mkF m 48 #[.val (.int y0), .val (.int y1), .val (.int y2), .val (.int y3), .val (.int y4), .val (.int y5), .val (.int y6), .val (.int y7), .val (.int y8), .val (.int y9), .val (.int y10), .val (.int y11), .unset, .unset, .unset, .unset, .unset, .unset, .unset, .unset, .unset, .unset, .unset, .unset, .unset, .unset, .unset, .unset, .unset, .unset, .unset, .unset, .unset, .unset, .unset, .unset, .unset, .unset, .unset, .unset] []) := by
  obtain ⟨S2, eS2⟩ : ∃ z, y4 + y6 = z := ⟨_, rfl⟩
  obtain ⟨S3, eS3⟩ : ∃ z, S2 + y8 = z := ⟨_, rfl⟩
  obtain ⟨S4, eS4⟩ : ∃ z, S3 + y10 = z := ⟨_, rfl⟩
  obtain ⟨D2, eD2⟩ : ∃ z, y5 + y7 = z := ⟨_, rfl⟩
  obtain ⟨D3, eD3⟩ : ∃ z, D2 + y9 = z := ⟨_, rfl⟩
  obtain ⟨D4, eD4⟩ : ∃ z, D3 + y11 = z := ⟨_, rfl⟩
  have tS2 := own_sum (by decide) b4 b6 eS2
  have tS3 := own_sum (by decide) tS2.1 b8 eS3
  have tS4 := own_sum (by decide) tS3.1 b10 eS4
  have tD2 := own_sum (by decide) b5 b7 eD2
  have tD3 := own_sum (by decide) tD2.1 b9 eD3
  have tD4 := own_sum (by decide) tD3.1 b11 eD4
  have cS1 := own_bd (by decide) b4
  have cS2 := own_bd (by decide) tS2.1
  have cS3 := own_bd (by decide) tS3.1
  have cS4 := own_bd (by decide) tS4.1
  have cD1 := own_bd (by decide) b5
  have cD2 := own_bd (by decide) tD2.1
  have cD3 := own_bd (by decide) tD3.1
  have cD4 := own_bd (by decide) tD4.1
  have c6 := own_bd (by decide) b6
  have c8 := own_bd (by decide) b8
  have c10 := own_bd (by decide) b10
  have c7 := own_bd (by decide) b7
  have c9 := own_bd (by decide) b9
  have c11 := own_bd (by decide) b11
  have c0 := own_sm0
  refine own_iload C at_48 rfl (pc' := 50) rfl ?_
  refine own_istore C (Ls' := #[.val (.int y0), .val (.int y1), .val (.int y2), .val (.int y3), .val (.int y4), .val (.int y5), .val (.int y6), .val (.int y7), .val (.int y8), .val (.int y9), .val (.int y10), .val (.int y11), .val (.int y4), .unset, .unset, .unset, .unset, .unset, .unset, .unset, .unset, .unset, .unset, .unset, .unset, .unset, .unset, .unset, .unset, .unset, .unset, .unset, .unset, .unset, .unset, .unset, .unset, .unset, .unset, .unset]) at_50 rfl (pc' := 52) rfl ?_
  refine own_iload C at_52 rfl (pc' := 54) rfl ?_
  refine own_iload C at_54 rfl (pc' := 56) rfl ?_
  refine own_iadd C (z := S2) at_56 eS2 (pc' := 57) rfl ?_
  refine own_istore C (Ls' := #[.val (.int y0), .val (.int y1), .val (.int y2), .val (.int y3), .val (.int y4), .val (.int y5), .val (.int y6), .val (.int y7), .val (.int y8), .val (.int y9), .val (.int y10), .val (.int y11), .val (.int y4), .val (.int S2), .unset, .unset, .unset, .unset, .unset, .unset, .unset, .unset, .unset, .unset, .unset, .unset, .unset, .unset, .unset, .unset, .unset, .unset, .unset, .unset, .unset, .unset, .unset, .unset, .unset, .unset]) at_57 rfl (pc' := 59) rfl ?_
  refine own_iload C at_59 rfl (pc' := 61) rfl ?_
  refine own_iload C at_61 rfl (pc' := 63) rfl ?_
  refine own_iadd C (z := S3) at_63 eS3 (pc' := 64) rfl ?_
  refine own_istore C (Ls' := #[.val (.int y0), .val (.int y1), .val (.int y2), .val (.int y3), .val (.int y4), .val (.int y5), .val (.int y6), .val (.int y7), .val (.int y8), .val (.int y9), .val (.int y10), .val (.int y11), .val (.int y4), .val (.int S2), .val (.int S3), .unset, .unset, .unset, .unset, .unset, .unset, .unset, .unset, .unset, .unset, .unset, .unset, .unset, .unset, .unset, .unset, .unset, .unset, .unset, .unset, .unset, .unset, .unset, .unset, .unset]) at_64 rfl (pc' := 66) rfl ?_
  refine own_iload C at_66 rfl (pc' := 68) rfl ?_
  refine own_iload C at_68 rfl (pc' := 70) rfl ?_
  refine own_iadd C (z := S4) at_70 eS4 (pc' := 71) rfl ?_
  refine own_istore C (Ls' := #[.val (.int y0), .val (.int y1), .val (.int y2), .val (.int y3), .val (.int y4), .val (.int y5), .val (.int y6), .val (.int y7), .val (.int y8), .val (.int y9), .val (.int y10), .val (.int y11), .val (.int y4), .val (.int S2), .val (.int S3), .val (.int S4), .unset, .unset, .unset, .unset, .unset, .unset, .unset, .unset, .unset, .unset, .unset, .unset, .unset, .unset, .unset, .unset, .unset, .unset, .unset, .unset, .unset, .unset, .unset, .unset]) at_71 rfl (pc' := 73) rfl ?_
  refine own_iload C at_73 rfl (pc' := 75) rfl ?_
  refine own_istore C (Ls' := #[.val (.int y0), .val (.int y1), .val (.int y2), .val (.int y3), .val (.int y4), .val (.int y5), .val (.int y6), .val (.int y7), .val (.int y8), .val (.int y9), .val (.int y10), .val (.int y11), .val (.int y4), .val (.int S2), .val (.int S3), .val (.int S4), .val (.int y5), .unset, .unset, .unset, .unset, .unset, .unset, .unset, .unset, .unset, .unset, .unset, .unset, .unset, .unset, .unset, .unset, .unset, .unset, .unset, .unset, .unset, .unset, .unset]) at_75 rfl (pc' := 77) rfl ?_
  refine own_iload C at_77 rfl (pc' := 79) rfl ?_
  refine own_iload C at_79 rfl (pc' := 81) rfl ?_
  refine own_iadd C (z := D2) at_81 eD2 (pc' := 82) rfl ?_
  refine own_istore C (Ls' := #[.val (.int y0), .val (.int y1), .val (.int y2), .val (.int y3), .val (.int y4), .val (.int y5), .val (.int y6), .val (.int y7), .val (.int y8), .val (.int y9), .val (.int y10), .val (.int y11), .val (.int y4), .val (.int S2), .val (.int S3), .val (.int S4), .val (.int y5), .val (.int D2), .unset, .unset, .unset, .unset, .unset, .unset, .unset, .unset, .unset, .unset, .unset, .unset, .unset, .unset, .unset, .unset, .unset, .unset, .unset, .unset, .unset, .unset]) at_82 rfl (pc' := 84) rfl ?_
  refine own_iload C at_84 rfl (pc' := 86) rfl ?_
  refine own_iload C at_86 rfl (pc' := 88) rfl ?_
  refine own_iadd C (z := D3) at_88 eD3 (pc' := 89) rfl ?_
  refine own_istore C (Ls' := #[.val (.int y0), .val (.int y1), .val (.int y2), .val (.int y3), .val (.int y4), .val (.int y5), .val (.int y6), .val (.int y7), .val (.int y8), .val (.int y9), .val (.int y10), .val (.int y11), .val (.int y4), .val (.int S2), .val (.int S3), .val (.int S4), .val (.int y5), .val (.int D2), .val (.int D3), .unset, .unset, .unset, .unset, .unset, .unset, .unset, .unset, .unset, .unset, .unset, .unset, .unset, .unset, .unset, .unset, .unset, .unset, .unset, .unset, .unset]) at_89 rfl (pc' := 91) rfl ?_
  refine own_iload C at_91 rfl (pc' := 93) rfl ?_
  refine own_iload C at_93 rfl (pc' := 95) rfl ?_
  refine own_iadd C (z := D4) at_95 eD4 (pc' := 96) rfl ?_
  refine own_istore C (Ls' := #[.val (.int y0), .val (.int y1), .val (.int y2), .val (.int y3), .val (.int y4), .val (.int y5), .val (.int y6), .val (.int y7), .val (.int y8), .val (.int y9), .val (.int y10), .val (.int y11), .val (.int y4), .val (.int S2), .val (.int S3), .val (.int S4), .val (.int y5), .val (.int D2), .val (.int D3), .val (.int D4), .unset, .unset, .unset, .unset, .unset, .unset, .unset, .unset, .unset, .unset, .unset, .unset, .unset, .unset, .unset, .unset, .unset, .unset, .unset, .unset]) at_96 rfl (pc' := 98) rfl ?_
  refine own_ldc2d C (v := 9218868437227405312) (own_w hw 7 rfl) at_98 (pc' := 101) rfl ?_
  refine own_dstore C (Ls' := #[.val (.int y0), .val (.int y1), .val (.int y2), .val (.int y3), .val (.int y4), .val (.int y5), .val (.int y6), .val (.int y7), .val (.int y8), .val (.int y9), .val (.int y10), .val (.int y11), .val (.int y4), .val (.int S2), .val (.int S3), .val (.int S4), .val (.int y5), .val (.int D2), .val (.int D3), .val (.int D4), .val (.double 9218868437227405312), .second, .unset, .unset, .unset, .unset, .unset, .unset, .unset, .unset, .unset, .unset, .unset, .unset, .unset, .unset, .unset, .unset, .unset, .unset]) at_101 rfl (pc' := 103) rfl ?_
  refine own_iload C at_103 rfl (pc' := 105) rfl ?_
  suffices K : ∀ p1 : UInt64, p1 = (if (0 : Int32) < y5 then (FP.ddiv (FP.i2d y4) (FP.i2d y5)) else 9218868437227405312) → own_At p l e room_1 s m args below meth c n0 (fun v _ => v = some (.int 1)) h 0 0 (mkF m 120 #[.val (.int y0), .val (.int y1), .val (.int y2), .val (.int y3), .val (.int y4), .val (.int y5), .val (.int y6), .val (.int y7), .val (.int y8), .val (.int y9), .val (.int y10), .val (.int y11), .val (.int y4), .val (.int S2), .val (.int S3), .val (.int S4), .val (.int y5), .val (.int D2), .val (.int D3), .val (.int D4), .val (.double 9218868437227405312), .second, .unset, .unset, .unset, .unset, .unset, .unset, .unset, .unset, .unset, .unset, .unset, .unset, .unset, .unset, .unset, .unset, .unset, .unset] [(.double p1)]) by
    by_cases hc105 : (0 : Int32) < y5
    · refine own_ifN C at_105 ((if0 _ _).trans (tlt hc105).2.2.2) (pc' := 108) rfl ?_
      refine own_iload C at_108 rfl (pc' := 110) rfl ?_
      refine own_i2d C at_110 rfl (pc' := 111) rfl ?_
      refine own_iload C at_111 rfl (pc' := 113) rfl ?_
      refine own_i2d C at_113 rfl (pc' := 114) rfl ?_
      refine own_ddiv C (v := (FP.ddiv (FP.i2d y4) (FP.i2d y5))) at_114 (own_dv (own_pos hc105)) rfl (pc' := 115) rfl ?_
      refine own_goto C at_115 (by decide) (pc' := 120) (by decide) ?_
      exact K _ (if_pos hc105).symm
    · refine own_ifY C at_105 ((if0 _ _).trans (flt hc105).2.2.2) (by decide) (pc' := 118) (by decide) ?_
      refine own_dload C at_118 rfl (pc' := 120) rfl ?_
      exact K _ (if_neg hc105).symm
  intro p1 h_p1
  have np1 : NoNaN64 p1 := by rw [h_p1]; split <;> first | exact own_inf | exact own_dv (own_pos (by assumption))
  refine own_dstore C (Ls' := #[.val (.int y0), .val (.int y1), .val (.int y2), .val (.int y3), .val (.int y4), .val (.int y5), .val (.int y6), .val (.int y7), .val (.int y8), .val (.int y9), .val (.int y10), .val (.int y11), .val (.int y4), .val (.int S2), .val (.int S3), .val (.int S4), .val (.int y5), .val (.int D2), .val (.int D3), .val (.int D4), .val (.double 9218868437227405312), .second, .val (.double p1), .second, .unset, .unset, .unset, .unset, .unset, .unset, .unset, .unset, .unset, .unset, .unset, .unset, .unset, .unset, .unset, .unset]) at_120 rfl (pc' := 122) rfl ?_
  refine own_iload C at_122 rfl (pc' := 124) rfl ?_
  suffices K : ∀ p2 : UInt64, p2 = (if (0 : Int32) < D2 then (FP.ddiv (FP.i2d S2) (FP.i2d D2)) else p1) → own_At p l e room_1 s m args below meth c n0 (fun v _ => v = some (.int 1)) h 0 0 (mkF m 139 #[.val (.int y0), .val (.int y1), .val (.int y2), .val (.int y3), .val (.int y4), .val (.int y5), .val (.int y6), .val (.int y7), .val (.int y8), .val (.int y9), .val (.int y10), .val (.int y11), .val (.int y4), .val (.int S2), .val (.int S3), .val (.int S4), .val (.int y5), .val (.int D2), .val (.int D3), .val (.int D4), .val (.double 9218868437227405312), .second, .val (.double p1), .second, .unset, .unset, .unset, .unset, .unset, .unset, .unset, .unset, .unset, .unset, .unset, .unset, .unset, .unset, .unset, .unset] [(.double p2)]) by
    by_cases hc124 : (0 : Int32) < D2
    · refine own_ifN C at_124 ((if0 _ _).trans (tlt hc124).2.2.2) (pc' := 127) rfl ?_
      refine own_iload C at_127 rfl (pc' := 129) rfl ?_
      refine own_i2d C at_129 rfl (pc' := 130) rfl ?_
      refine own_iload C at_130 rfl (pc' := 132) rfl ?_
      refine own_i2d C at_132 rfl (pc' := 133) rfl ?_
      refine own_ddiv C (v := (FP.ddiv (FP.i2d S2) (FP.i2d D2))) at_133 (own_dv (own_pos hc124)) rfl (pc' := 134) rfl ?_
      refine own_goto C at_134 (by decide) (pc' := 139) (by decide) ?_
      exact K _ (if_pos hc124).symm
    · refine own_ifY C at_124 ((if0 _ _).trans (flt hc124).2.2.2) (by decide) (pc' := 137) (by decide) ?_
      refine own_dload C at_137 rfl (pc' := 139) rfl ?_
      exact K _ (if_neg hc124).symm
  intro p2 h_p2
  have np2 : NoNaN64 p2 := by rw [h_p2]; split <;> first | exact np1 | exact own_dv (own_pos (by assumption))
  refine own_dstore C (Ls' := #[.val (.int y0), .val (.int y1), .val (.int y2), .val (.int y3), .val (.int y4), .val (.int y5), .val (.int y6), .val (.int y7), .val (.int y8), .val (.int y9), .val (.int y10), .val (.int y11), .val (.int y4), .val (.int S2), .val (.int S3), .val (.int S4), .val (.int y5), .val (.int D2), .val (.int D3), .val (.int D4), .val (.double 9218868437227405312), .second, .val (.double p1), .second, .val (.double p2), .second, .unset, .unset, .unset, .unset, .unset, .unset, .unset, .unset, .unset, .unset, .unset, .unset, .unset, .unset]) at_139 rfl (pc' := 141) rfl ?_
  refine own_iload C at_141 rfl (pc' := 143) rfl ?_
  refine own_iconst C (v := (2 : Int32)) at_143 (by decide) (pc' := 144) rfl ?_
  refine own_iload C at_144 rfl (pc' := 146) rfl ?_
  refine own_imul C at_146 rfl (pc' := 147) rfl ?_
  suffices K : ∀ m2 : Int32, m2 = (if S2 < ((2 : Int32) * y4) then (0 : Int32) else (1 : Int32)) → own_At p l e room_1 s m args below meth c n0 (fun v _ => v = some (.int 1)) h 0 0 (mkF m 155 #[.val (.int y0), .val (.int y1), .val (.int y2), .val (.int y3), .val (.int y4), .val (.int y5), .val (.int y6), .val (.int y7), .val (.int y8), .val (.int y9), .val (.int y10), .val (.int y11), .val (.int y4), .val (.int S2), .val (.int S3), .val (.int S4), .val (.int y5), .val (.int D2), .val (.int D3), .val (.int D4), .val (.double 9218868437227405312), .second, .val (.double p1), .second, .val (.double p2), .second, .unset, .unset, .unset, .unset, .unset, .unset, .unset, .unset, .unset, .unset, .unset, .unset, .unset, .unset] [(.int m2)]) by
    by_cases hc147 : S2 < ((2 : Int32) * y4)
    · refine own_icmpY C at_147 ((tlt hc147).1) (by decide) (pc' := 154) (by decide) ?_
      refine own_iconst C (v := (0 : Int32)) at_154 (by decide) (pc' := 155) rfl ?_
      exact K _ (if_pos hc147).symm
    · refine own_icmpN C at_147 ((flt hc147).1) (pc' := 150) rfl ?_
      refine own_iconst C (v := (1 : Int32)) at_150 (by decide) (pc' := 151) rfl ?_
      refine own_goto C at_151 (by decide) (pc' := 155) (by decide) ?_
      exact K _ (if_neg hc147).symm
  intro m2 h_m2
  refine own_istore C (Ls' := #[.val (.int y0), .val (.int y1), .val (.int y2), .val (.int y3), .val (.int y4), .val (.int y5), .val (.int y6), .val (.int y7), .val (.int y8), .val (.int y9), .val (.int y10), .val (.int y11), .val (.int y4), .val (.int S2), .val (.int S3), .val (.int S4), .val (.int y5), .val (.int D2), .val (.int D3), .val (.int D4), .val (.double 9218868437227405312), .second, .val (.double p1), .second, .val (.double p2), .second, .val (.int m2), .unset, .unset, .unset, .unset, .unset, .unset, .unset, .unset, .unset, .unset, .unset, .unset, .unset]) at_155 rfl (pc' := 157) rfl ?_
  refine own_iload C at_157 rfl (pc' := 159) rfl ?_
  suffices K : ∀ wS2 : Int32, wS2 = (if m2 = (0 : Int32) then (0 : Int32) else y4) → own_At p l e room_1 s m args below meth c n0 (fun v _ => v = some (.int 1)) h 0 0 (mkF m 168 #[.val (.int y0), .val (.int y1), .val (.int y2), .val (.int y3), .val (.int y4), .val (.int y5), .val (.int y6), .val (.int y7), .val (.int y8), .val (.int y9), .val (.int y10), .val (.int y11), .val (.int y4), .val (.int S2), .val (.int S3), .val (.int S4), .val (.int y5), .val (.int D2), .val (.int D3), .val (.int D4), .val (.double 9218868437227405312), .second, .val (.double p1), .second, .val (.double p2), .second, .val (.int m2), .unset, .unset, .unset, .unset, .unset, .unset, .unset, .unset, .unset, .unset, .unset, .unset, .unset] [(.int wS2)]) by
    by_cases hc159 : m2 = (0 : Int32)
    · refine own_ifY C at_159 ((if0 _ _).trans (teq hc159).1) (by decide) (pc' := 167) (by decide) ?_
      refine own_iconst C (v := (0 : Int32)) at_167 (by decide) (pc' := 168) rfl ?_
      exact K _ (if_pos hc159).symm
    · refine own_ifN C at_159 ((if0 _ _).trans (feq hc159).1) (pc' := 162) rfl ?_
      refine own_iload C at_162 rfl (pc' := 164) rfl ?_
      refine own_goto C at_164 (by decide) (pc' := 168) (by decide) ?_
      exact K _ (if_neg hc159).symm
  intro wS2 h_wS2
  have cwS2 : own_Sm wS2 := by rw [h_wS2]; split <;> assumption
  refine own_istore C (Ls' := #[.val (.int y0), .val (.int y1), .val (.int y2), .val (.int y3), .val (.int y4), .val (.int y5), .val (.int y6), .val (.int y7), .val (.int y8), .val (.int y9), .val (.int y10), .val (.int y11), .val (.int y4), .val (.int S2), .val (.int S3), .val (.int S4), .val (.int y5), .val (.int D2), .val (.int D3), .val (.int D4), .val (.double 9218868437227405312), .second, .val (.double p1), .second, .val (.double p2), .second, .val (.int m2), .val (.int wS2), .unset, .unset, .unset, .unset, .unset, .unset, .unset, .unset, .unset, .unset, .unset, .unset]) at_168 rfl (pc' := 170) rfl ?_
  refine own_iload C at_170 rfl (pc' := 172) rfl ?_
  suffices K : ∀ wD2 : Int32, wD2 = (if m2 = (0 : Int32) then (0 : Int32) else y5) → own_At p l e room_1 s m args below meth c n0 (fun v _ => v = some (.int 1)) h 0 0 (mkF m 181 #[.val (.int y0), .val (.int y1), .val (.int y2), .val (.int y3), .val (.int y4), .val (.int y5), .val (.int y6), .val (.int y7), .val (.int y8), .val (.int y9), .val (.int y10), .val (.int y11), .val (.int y4), .val (.int S2), .val (.int S3), .val (.int S4), .val (.int y5), .val (.int D2), .val (.int D3), .val (.int D4), .val (.double 9218868437227405312), .second, .val (.double p1), .second, .val (.double p2), .second, .val (.int m2), .val (.int wS2), .unset, .unset, .unset, .unset, .unset, .unset, .unset, .unset, .unset, .unset, .unset, .unset] [(.int wD2)]) by
    by_cases hc172 : m2 = (0 : Int32)
    · refine own_ifY C at_172 ((if0 _ _).trans (teq hc172).1) (by decide) (pc' := 180) (by decide) ?_
      refine own_iconst C (v := (0 : Int32)) at_180 (by decide) (pc' := 181) rfl ?_
      exact K _ (if_pos hc172).symm
    · refine own_ifN C at_172 ((if0 _ _).trans (feq hc172).1) (pc' := 175) rfl ?_
      refine own_iload C at_175 rfl (pc' := 177) rfl ?_
      refine own_goto C at_177 (by decide) (pc' := 181) (by decide) ?_
      exact K _ (if_neg hc172).symm
  intro wD2 h_wD2
  have cwD2 : own_Sm wD2 := by rw [h_wD2]; split <;> assumption
  refine own_istore C (Ls' := #[.val (.int y0), .val (.int y1), .val (.int y2), .val (.int y3), .val (.int y4), .val (.int y5), .val (.int y6), .val (.int y7), .val (.int y8), .val (.int y9), .val (.int y10), .val (.int y11), .val (.int y4), .val (.int S2), .val (.int S3), .val (.int S4), .val (.int y5), .val (.int D2), .val (.int D3), .val (.int D4), .val (.double 9218868437227405312), .second, .val (.double p1), .second, .val (.double p2), .second, .val (.int m2), .val (.int wS2), .val (.int wD2), .unset, .unset, .unset, .unset, .unset, .unset, .unset, .unset, .unset, .unset, .unset]) at_181 rfl (pc' := 183) rfl ?_
  refine own_iload C at_183 rfl (pc' := 185) rfl ?_
  suffices K : ∀ mS2 : Int32, mS2 = (if m2 = (0 : Int32) then y4 else S2) → own_At p l e room_1 s m args below meth c n0 (fun v _ => v = some (.int 1)) h 0 0 (mkF m 195 #[.val (.int y0), .val (.int y1), .val (.int y2), .val (.int y3), .val (.int y4), .val (.int y5), .val (.int y6), .val (.int y7), .val (.int y8), .val (.int y9), .val (.int y10), .val (.int y11), .val (.int y4), .val (.int S2), .val (.int S3), .val (.int S4), .val (.int y5), .val (.int D2), .val (.int D3), .val (.int D4), .val (.double 9218868437227405312), .second, .val (.double p1), .second, .val (.double p2), .second, .val (.int m2), .val (.int wS2), .val (.int wD2), .unset, .unset, .unset, .unset, .unset, .unset, .unset, .unset, .unset, .unset, .unset] [(.int mS2)]) by
    by_cases hc185 : m2 = (0 : Int32)
    · refine own_ifY C at_185 ((if0 _ _).trans (teq hc185).1) (by decide) (pc' := 193) (by decide) ?_
      refine own_iload C at_193 rfl (pc' := 195) rfl ?_
      exact K _ (if_pos hc185).symm
    · refine own_ifN C at_185 ((if0 _ _).trans (feq hc185).1) (pc' := 188) rfl ?_
      refine own_iload C at_188 rfl (pc' := 190) rfl ?_
      refine own_goto C at_190 (by decide) (pc' := 195) (by decide) ?_
      exact K _ (if_neg hc185).symm
  intro mS2 h_mS2
  have cmS2 : own_Sm mS2 := by rw [h_mS2]; split <;> assumption
  have dmS2 : 0 ≤ mS2.toInt ∧ mS2.toInt ≤ 140000 := by rw [h_mS2]; split; exact ⟨cS1.1, by have := b4.2; omega⟩; exact ⟨cS2.1, by have := tS2.1.2; omega⟩
  refine own_istore C (Ls' := #[.val (.int y0), .val (.int y1), .val (.int y2), .val (.int y3), .val (.int y4), .val (.int y5), .val (.int y6), .val (.int y7), .val (.int y8), .val (.int y9), .val (.int y10), .val (.int y11), .val (.int y4), .val (.int S2), .val (.int S3), .val (.int S4), .val (.int y5), .val (.int D2), .val (.int D3), .val (.int D4), .val (.double 9218868437227405312), .second, .val (.double p1), .second, .val (.double p2), .second, .val (.int m2), .val (.int wS2), .val (.int wD2), .val (.int mS2), .unset, .unset, .unset, .unset, .unset, .unset, .unset, .unset, .unset, .unset]) at_195 rfl (pc' := 197) rfl ?_
  refine own_iload C at_197 rfl (pc' := 199) rfl ?_
  suffices K : ∀ mD2 : Int32, mD2 = (if m2 = (0 : Int32) then y5 else D2) → own_At p l e room_1 s m args below meth c n0 (fun v _ => v = some (.int 1)) h 0 0 (mkF m 209 #[.val (.int y0), .val (.int y1), .val (.int y2), .val (.int y3), .val (.int y4), .val (.int y5), .val (.int y6), .val (.int y7), .val (.int y8), .val (.int y9), .val (.int y10), .val (.int y11), .val (.int y4), .val (.int S2), .val (.int S3), .val (.int S4), .val (.int y5), .val (.int D2), .val (.int D3), .val (.int D4), .val (.double 9218868437227405312), .second, .val (.double p1), .second, .val (.double p2), .second, .val (.int m2), .val (.int wS2), .val (.int wD2), .val (.int mS2), .unset, .unset, .unset, .unset, .unset, .unset, .unset, .unset, .unset, .unset] [(.int mD2)]) by
    by_cases hc199 : m2 = (0 : Int32)
    · refine own_ifY C at_199 ((if0 _ _).trans (teq hc199).1) (by decide) (pc' := 207) (by decide) ?_
      refine own_iload C at_207 rfl (pc' := 209) rfl ?_
      exact K _ (if_pos hc199).symm
    · refine own_ifN C at_199 ((if0 _ _).trans (feq hc199).1) (pc' := 202) rfl ?_
      refine own_iload C at_202 rfl (pc' := 204) rfl ?_
      refine own_goto C at_204 (by decide) (pc' := 209) (by decide) ?_
      exact K _ (if_neg hc199).symm
  intro mD2 h_mD2
  have cmD2 : own_Sm mD2 := by rw [h_mD2]; split <;> assumption
  refine own_istore C (Ls' := #[.val (.int y0), .val (.int y1), .val (.int y2), .val (.int y3), .val (.int y4), .val (.int y5), .val (.int y6), .val (.int y7), .val (.int y8), .val (.int y9), .val (.int y10), .val (.int y11), .val (.int y4), .val (.int S2), .val (.int S3), .val (.int S4), .val (.int y5), .val (.int D2), .val (.int D3), .val (.int D4), .val (.double 9218868437227405312), .second, .val (.double p1), .second, .val (.double p2), .second, .val (.int m2), .val (.int wS2), .val (.int wD2), .val (.int mS2), .val (.int mD2), .unset, .unset, .unset, .unset, .unset, .unset, .unset, .unset, .unset]) at_209 rfl (pc' := 211) rfl ?_
  refine own_iload C at_211 rfl (pc' := 213) rfl ?_
  refine own_iload C at_213 rfl (pc' := 215) rfl ?_
  suffices K : ∀ p3 : UInt64, p3 = (if wD2 < D3 then (FP.ddiv (FP.i2d (S3 - wS2)) (FP.i2d (D3 - wD2))) else p2) → own_At p l e room_1 s m args below meth c n0 (fun v _ => v = some (.int 1)) h 0 0 (mkF m 236 #[.val (.int y0), .val (.int y1), .val (.int y2), .val (.int y3), .val (.int y4), .val (.int y5), .val (.int y6), .val (.int y7), .val (.int y8), .val (.int y9), .val (.int y10), .val (.int y11), .val (.int y4), .val (.int S2), .val (.int S3), .val (.int S4), .val (.int y5), .val (.int D2), .val (.int D3), .val (.int D4), .val (.double 9218868437227405312), .second, .val (.double p1), .second, .val (.double p2), .second, .val (.int m2), .val (.int wS2), .val (.int wD2), .val (.int mS2), .val (.int mD2), .unset, .unset, .unset, .unset, .unset, .unset, .unset, .unset, .unset] [(.double p3)]) by
    by_cases hc215 : wD2 < D3
    · refine own_icmpN C at_215 ((tlt hc215).2.2.2) (pc' := 218) rfl ?_
      refine own_iload C at_218 rfl (pc' := 220) rfl ?_
      refine own_iload C at_220 rfl (pc' := 222) rfl ?_
      refine own_isub C at_222 rfl (pc' := 223) rfl ?_
      refine own_i2d C at_223 rfl (pc' := 224) rfl ?_
      refine own_iload C at_224 rfl (pc' := 226) rfl ?_
      refine own_iload C at_226 rfl (pc' := 228) rfl ?_
      refine own_isub C at_228 rfl (pc' := 229) rfl ?_
      refine own_i2d C at_229 rfl (pc' := 230) rfl ?_
      refine own_ddiv C (v := (FP.ddiv (FP.i2d (S3 - wS2)) (FP.i2d (D3 - wD2)))) at_230 (own_dv (own_subpos cD3 cwD2 hc215)) rfl (pc' := 231) rfl ?_
      refine own_goto C at_231 (by decide) (pc' := 236) (by decide) ?_
      exact K _ (if_pos hc215).symm
    · refine own_icmpY C at_215 ((flt hc215).2.2.2) (by decide) (pc' := 234) (by decide) ?_
      refine own_dload C at_234 rfl (pc' := 236) rfl ?_
      exact K _ (if_neg hc215).symm
  intro p3 h_p3
  have np3 : NoNaN64 p3 := by rw [h_p3]; split <;> first | exact np2 | exact own_dv (own_subpos cD3 cwD2 (by assumption))
  refine own_dstore C (Ls' := #[.val (.int y0), .val (.int y1), .val (.int y2), .val (.int y3), .val (.int y4), .val (.int y5), .val (.int y6), .val (.int y7), .val (.int y8), .val (.int y9), .val (.int y10), .val (.int y11), .val (.int y4), .val (.int S2), .val (.int S3), .val (.int S4), .val (.int y5), .val (.int D2), .val (.int D3), .val (.int D4), .val (.double 9218868437227405312), .second, .val (.double p1), .second, .val (.double p2), .second, .val (.int m2), .val (.int wS2), .val (.int wD2), .val (.int mS2), .val (.int mD2), .val (.double p3), .second, .unset, .unset, .unset, .unset, .unset, .unset, .unset]) at_236 rfl (pc' := 238) rfl ?_
  refine own_iload C at_238 rfl (pc' := 240) rfl ?_
  refine own_iconst C (v := (2 : Int32)) at_240 (by decide) (pc' := 241) rfl ?_
  refine own_iload C at_241 rfl (pc' := 243) rfl ?_
  refine own_imul C at_243 rfl (pc' := 244) rfl ?_
  suffices K : ∀ m3 : Int32, m3 = (if S3 < ((2 : Int32) * mS2) then (0 : Int32) else (1 : Int32)) → own_At p l e room_1 s m args below meth c n0 (fun v _ => v = some (.int 1)) h 0 0 (mkF m 252 #[.val (.int y0), .val (.int y1), .val (.int y2), .val (.int y3), .val (.int y4), .val (.int y5), .val (.int y6), .val (.int y7), .val (.int y8), .val (.int y9), .val (.int y10), .val (.int y11), .val (.int y4), .val (.int S2), .val (.int S3), .val (.int S4), .val (.int y5), .val (.int D2), .val (.int D3), .val (.int D4), .val (.double 9218868437227405312), .second, .val (.double p1), .second, .val (.double p2), .second, .val (.int m2), .val (.int wS2), .val (.int wD2), .val (.int mS2), .val (.int mD2), .val (.double p3), .second, .unset, .unset, .unset, .unset, .unset, .unset, .unset] [(.int m3)]) by
    by_cases hc244 : S3 < ((2 : Int32) * mS2)
    · refine own_icmpY C at_244 ((tlt hc244).1) (by decide) (pc' := 251) (by decide) ?_
      refine own_iconst C (v := (0 : Int32)) at_251 (by decide) (pc' := 252) rfl ?_
      exact K _ (if_pos hc244).symm
    · refine own_icmpN C at_244 ((flt hc244).1) (pc' := 247) rfl ?_
      refine own_iconst C (v := (1 : Int32)) at_247 (by decide) (pc' := 248) rfl ?_
      refine own_goto C at_248 (by decide) (pc' := 252) (by decide) ?_
      exact K _ (if_neg hc244).symm
  intro m3 h_m3
  refine own_istore C (Ls' := #[.val (.int y0), .val (.int y1), .val (.int y2), .val (.int y3), .val (.int y4), .val (.int y5), .val (.int y6), .val (.int y7), .val (.int y8), .val (.int y9), .val (.int y10), .val (.int y11), .val (.int y4), .val (.int S2), .val (.int S3), .val (.int S4), .val (.int y5), .val (.int D2), .val (.int D3), .val (.int D4), .val (.double 9218868437227405312), .second, .val (.double p1), .second, .val (.double p2), .second, .val (.int m2), .val (.int wS2), .val (.int wD2), .val (.int mS2), .val (.int mD2), .val (.double p3), .second, .val (.int m3), .unset, .unset, .unset, .unset, .unset, .unset]) at_252 rfl (pc' := 254) rfl ?_
  refine own_iload C at_254 rfl (pc' := 256) rfl ?_
  suffices K : ∀ wS3 : Int32, wS3 = (if m3 = (0 : Int32) then wS2 else mS2) → own_At p l e room_1 s m args below meth c n0 (fun v _ => v = some (.int 1)) h 0 0 (mkF m 266 #[.val (.int y0), .val (.int y1), .val (.int y2), .val (.int y3), .val (.int y4), .val (.int y5), .val (.int y6), .val (.int y7), .val (.int y8), .val (.int y9), .val (.int y10), .val (.int y11), .val (.int y4), .val (.int S2), .val (.int S3), .val (.int S4), .val (.int y5), .val (.int D2), .val (.int D3), .val (.int D4), .val (.double 9218868437227405312), .second, .val (.double p1), .second, .val (.double p2), .second, .val (.int m2), .val (.int wS2), .val (.int wD2), .val (.int mS2), .val (.int mD2), .val (.double p3), .second, .val (.int m3), .unset, .unset, .unset, .unset, .unset, .unset] [(.int wS3)]) by
    by_cases hc256 : m3 = (0 : Int32)
    · refine own_ifY C at_256 ((if0 _ _).trans (teq hc256).1) (by decide) (pc' := 264) (by decide) ?_
      refine own_iload C at_264 rfl (pc' := 266) rfl ?_
      exact K _ (if_pos hc256).symm
    · refine own_ifN C at_256 ((if0 _ _).trans (feq hc256).1) (pc' := 259) rfl ?_
      refine own_iload C at_259 rfl (pc' := 261) rfl ?_
      refine own_goto C at_261 (by decide) (pc' := 266) (by decide) ?_
      exact K _ (if_neg hc256).symm
  intro wS3 h_wS3
  have cwS3 : own_Sm wS3 := by rw [h_wS3]; split <;> assumption
  refine own_istore C (Ls' := #[.val (.int y0), .val (.int y1), .val (.int y2), .val (.int y3), .val (.int y4), .val (.int y5), .val (.int y6), .val (.int y7), .val (.int y8), .val (.int y9), .val (.int y10), .val (.int y11), .val (.int y4), .val (.int S2), .val (.int S3), .val (.int S4), .val (.int y5), .val (.int D2), .val (.int D3), .val (.int D4), .val (.double 9218868437227405312), .second, .val (.double p1), .second, .val (.double p2), .second, .val (.int m2), .val (.int wS2), .val (.int wD2), .val (.int mS2), .val (.int mD2), .val (.double p3), .second, .val (.int m3), .val (.int wS3), .unset, .unset, .unset, .unset, .unset]) at_266 rfl (pc' := 268) rfl ?_
  refine own_iload C at_268 rfl (pc' := 270) rfl ?_
  suffices K : ∀ wD3 : Int32, wD3 = (if m3 = (0 : Int32) then wD2 else mD2) → own_At p l e room_1 s m args below meth c n0 (fun v _ => v = some (.int 1)) h 0 0 (mkF m 280 #[.val (.int y0), .val (.int y1), .val (.int y2), .val (.int y3), .val (.int y4), .val (.int y5), .val (.int y6), .val (.int y7), .val (.int y8), .val (.int y9), .val (.int y10), .val (.int y11), .val (.int y4), .val (.int S2), .val (.int S3), .val (.int S4), .val (.int y5), .val (.int D2), .val (.int D3), .val (.int D4), .val (.double 9218868437227405312), .second, .val (.double p1), .second, .val (.double p2), .second, .val (.int m2), .val (.int wS2), .val (.int wD2), .val (.int mS2), .val (.int mD2), .val (.double p3), .second, .val (.int m3), .val (.int wS3), .unset, .unset, .unset, .unset, .unset] [(.int wD3)]) by
    by_cases hc270 : m3 = (0 : Int32)
    · refine own_ifY C at_270 ((if0 _ _).trans (teq hc270).1) (by decide) (pc' := 278) (by decide) ?_
      refine own_iload C at_278 rfl (pc' := 280) rfl ?_
      exact K _ (if_pos hc270).symm
    · refine own_ifN C at_270 ((if0 _ _).trans (feq hc270).1) (pc' := 273) rfl ?_
      refine own_iload C at_273 rfl (pc' := 275) rfl ?_
      refine own_goto C at_275 (by decide) (pc' := 280) (by decide) ?_
      exact K _ (if_neg hc270).symm
  intro wD3 h_wD3
  have cwD3 : own_Sm wD3 := by rw [h_wD3]; split <;> assumption
  refine own_istore C (Ls' := #[.val (.int y0), .val (.int y1), .val (.int y2), .val (.int y3), .val (.int y4), .val (.int y5), .val (.int y6), .val (.int y7), .val (.int y8), .val (.int y9), .val (.int y10), .val (.int y11), .val (.int y4), .val (.int S2), .val (.int S3), .val (.int S4), .val (.int y5), .val (.int D2), .val (.int D3), .val (.int D4), .val (.double 9218868437227405312), .second, .val (.double p1), .second, .val (.double p2), .second, .val (.int m2), .val (.int wS2), .val (.int wD2), .val (.int mS2), .val (.int mD2), .val (.double p3), .second, .val (.int m3), .val (.int wS3), .val (.int wD3), .unset, .unset, .unset, .unset]) at_280 rfl (pc' := 282) rfl ?_
  refine own_iload C at_282 rfl (pc' := 284) rfl ?_
  refine own_iload C at_284 rfl (pc' := 286) rfl ?_
  suffices K : ∀ p4 : UInt64, p4 = (if wD3 < D4 then (FP.ddiv (FP.i2d (S4 - wS3)) (FP.i2d (D4 - wD3))) else p3) → own_At p l e room_1 s m args below meth c n0 (fun v _ => v = some (.int 1)) h 0 0 (mkF m 307 #[.val (.int y0), .val (.int y1), .val (.int y2), .val (.int y3), .val (.int y4), .val (.int y5), .val (.int y6), .val (.int y7), .val (.int y8), .val (.int y9), .val (.int y10), .val (.int y11), .val (.int y4), .val (.int S2), .val (.int S3), .val (.int S4), .val (.int y5), .val (.int D2), .val (.int D3), .val (.int D4), .val (.double 9218868437227405312), .second, .val (.double p1), .second, .val (.double p2), .second, .val (.int m2), .val (.int wS2), .val (.int wD2), .val (.int mS2), .val (.int mD2), .val (.double p3), .second, .val (.int m3), .val (.int wS3), .val (.int wD3), .unset, .unset, .unset, .unset] [(.double p4)]) by
    by_cases hc286 : wD3 < D4
    · refine own_icmpN C at_286 ((tlt hc286).2.2.2) (pc' := 289) rfl ?_
      refine own_iload C at_289 rfl (pc' := 291) rfl ?_
      refine own_iload C at_291 rfl (pc' := 293) rfl ?_
      refine own_isub C at_293 rfl (pc' := 294) rfl ?_
      refine own_i2d C at_294 rfl (pc' := 295) rfl ?_
      refine own_iload C at_295 rfl (pc' := 297) rfl ?_
      refine own_iload C at_297 rfl (pc' := 299) rfl ?_
      refine own_isub C at_299 rfl (pc' := 300) rfl ?_
      refine own_i2d C at_300 rfl (pc' := 301) rfl ?_
      refine own_ddiv C (v := (FP.ddiv (FP.i2d (S4 - wS3)) (FP.i2d (D4 - wD3)))) at_301 (own_dv (own_subpos cD4 cwD3 hc286)) rfl (pc' := 302) rfl ?_
      refine own_goto C at_302 (by decide) (pc' := 307) (by decide) ?_
      exact K _ (if_pos hc286).symm
    · refine own_icmpY C at_286 ((flt hc286).2.2.2) (by decide) (pc' := 305) (by decide) ?_
      refine own_dload C at_305 rfl (pc' := 307) rfl ?_
      exact K _ (if_neg hc286).symm
  intro p4 h_p4
  have np4 : NoNaN64 p4 := by rw [h_p4]; split <;> first | exact np3 | exact own_dv (own_subpos cD4 cwD3 (by assumption))
  refine own_dstore C (Ls' := #[.val (.int y0), .val (.int y1), .val (.int y2), .val (.int y3), .val (.int y4), .val (.int y5), .val (.int y6), .val (.int y7), .val (.int y8), .val (.int y9), .val (.int y10), .val (.int y11), .val (.int y4), .val (.int S2), .val (.int S3), .val (.int S4), .val (.int y5), .val (.int D2), .val (.int D3), .val (.int D4), .val (.double 9218868437227405312), .second, .val (.double p1), .second, .val (.double p2), .second, .val (.int m2), .val (.int wS2), .val (.int wD2), .val (.int mS2), .val (.int mD2), .val (.double p3), .second, .val (.int m3), .val (.int wS3), .val (.int wD3), .val (.double p4), .second, .unset, .unset]) at_307 rfl (pc' := 309) rfl ?_
  refine own_newO C (own_w hw 8 rfl) (own_w hw 9 rfl) (own_w hw 10 rfl) (own_lay0_ok hw) own_lay0_df at_309 (by decide) (by decide) (pc' := 312) rfl ?_
  intro h1 b1 g1 E1 o_b1
  have s1 : h.size ≤ h1.size := E1.1
  have t1 := o_b1.lt
  refine own_dup C at_312 rfl (pc' := 313) rfl ?_
  have old1 := (old.ext E1)
  refine own_callI C rfl (own_c3_0 l hw S (by omega) old1 b1 o_b1 (by omega)) (own_w hw 11 rfl) (own_w hw 12 rfl) (own_w hw 10 rfl) (own_w hw 13 rfl) (by decide) at_313 rfl (argsL := []) (rest := [(.ref b1)]) rfl (lenOf own_pd1 rfl) (W := 1) (Nat.le_of_eq rfl) (by decide) (by decide) (by decide) (by decide) (pc' := 316) rfl ?_
  rintro h2 ⟨K2, o_b1_2⟩
  have s2 : h1.size ≤ h2.size := K2.1
  refine own_astore C (Ls' := #[.val (.int y0), .val (.int y1), .val (.int y2), .val (.int y3), .val (.int y4), .val (.int y5), .val (.int y6), .val (.int y7), .val (.int y8), .val (.int y9), .val (.int y10), .val (.int y11), .val (.int y4), .val (.int S2), .val (.int S3), .val (.int S4), .val (.int y5), .val (.int D2), .val (.int D3), .val (.int D4), .val (.double 9218868437227405312), .second, .val (.double p1), .second, .val (.double p2), .second, .val (.int m2), .val (.int wS2), .val (.int wD2), .val (.int mS2), .val (.int mD2), .val (.double p3), .second, .val (.int m3), .val (.int wS3), .val (.int wD3), .val (.double p4), .second, .val (.ref b1), .unset]) at_316 rfl rfl (pc' := 318) rfl ?_
  refine own_aload C at_318 rfl rfl (pc' := 320) rfl ?_
  refine own_iload C at_320 rfl (pc' := 322) rfl ?_
  refine own_i2d C at_322 rfl (pc' := 323) rfl ?_
  refine own_iload C at_323 rfl (pc' := 325) rfl ?_
  refine own_i2d C at_325 rfl (pc' := 326) rfl ?_
  have o_t1 := own_pz o_b1_2
  refine own_callVV C o_b1_2.1 (own_took l hw b1 (S1 := y4) (D1 := y5) c0 c0 c0 c0 own_sm00 c0 cS1 cD1 own_z0 own_z0 cS1 cD1 o_t1 (by omega)) (own_w hw 20 rfl) (own_w hw 21 rfl) (own_w hw 23 rfl) (own_w hw 22 rfl) (own_w hw 10 rfl) (own_w hw 24 rfl) (by decide) at_326 rfl (argsL := [(.double (FP.i2d y4)), (.double (FP.i2d y5))]) (rest := []) rfl (lenOf own_pd2 rfl) (W := 0) (Nat.le_of_eq rfl) (by decide) (by decide) (by decide) (by decide) (pc' := 329) rfl ?_
  rintro h3 ⟨P1, G1, M1, F1, N1, eP1, eG1, eM1, eF1, eN1, K3, o_b1_3⟩
  have s3 : h2.size ≤ h3.size := K3.1
  have fF1 : F1 = 0 := by rw [eF1]; split <;> rfl
  have fG1 : G1 = 0 := by rw [eG1]; split <;> rfl
  have fM1 : M1 = y4 := by rw [eM1, if_neg (own_nlt cS1)]
  have fN1 : N1 = y5 := by rw [eN1, if_neg (own_nlt cS1)]
  have fP1 : P1 = p1 := by rw [eP1, h_p1, own_s0, own_s0]
  rw [fP1, fG1, fM1, fF1, fN1] at o_b1_3
  have cG1 := own_sm0
  have cM1 := cS1
  have cF1 := own_sm0
  have cMM1 := own_dbl b4
  refine own_aload C at_329 rfl rfl (pc' := 331) rfl ?_
  have old3 := ((old1.keep K2 (allS (by omega) all0)).keep K3 (allS (by omega) all0))
  refine own_callVp C o_b1_3.1 (own_c6_1 l hw S (by omega) old3 p1 (FP.i2d y4) (FP.i2d y5) (FP.i2d (0 : Int32)) b1 o_b1_3) (own_w hw 38 rfl) (own_w hw 39 rfl) (own_w hw 41 rfl) (own_w hw 40 rfl) (own_w hw 10 rfl) (own_w hw 42 rfl) (by decide) at_331 rfl (argsL := []) (rest := []) rfl (lenOf own_pd3 rfl) (W := 0) (Nat.le_of_eq rfl) (by decide) (by decide) (by decide) (by decide) (by decide) (by decide) (pc' := 334) rfl ?_
  refine own_dload C at_334 rfl (pc' := 336) rfl ?_
  refine own_dcmp C (v := (0 : Int32)) at_336 (dcmpV_self np1 _) (pc' := 337) rfl ?_
  refine own_ifN C at_337 (by decide) (pc' := 340) rfl ?_
  refine own_iconst C (v := (1 : Int32)) at_340 (by decide) (pc' := 341) rfl ?_
  refine own_goto C at_341 (by decide) (pc' := 345) (by decide) ?_
  refine own_istore C (Ls' := #[.val (.int y0), .val (.int y1), .val (.int y2), .val (.int y3), .val (.int y4), .val (.int y5), .val (.int y6), .val (.int y7), .val (.int y8), .val (.int y9), .val (.int y10), .val (.int y11), .val (.int y4), .val (.int S2), .val (.int S3), .val (.int S4), .val (.int y5), .val (.int D2), .val (.int D3), .val (.int D4), .val (.double 9218868437227405312), .second, .val (.double p1), .second, .val (.double p2), .second, .val (.int m2), .val (.int wS2), .val (.int wD2), .val (.int mS2), .val (.int mD2), .val (.double p3), .second, .val (.int m3), .val (.int wS3), .val (.int wD3), .val (.double p4), .second, .val (.ref b1), .val (.int (1 : Int32))]) at_345 rfl (pc' := 347) rfl ?_
  refine own_aload C at_347 rfl rfl (pc' := 349) rfl ?_
  refine own_iload C at_349 rfl (pc' := 351) rfl ?_
  refine own_i2d C at_351 rfl (pc' := 352) rfl ?_
  refine own_iload C at_352 rfl (pc' := 354) rfl ?_
  refine own_i2d C at_354 rfl (pc' := 355) rfl ?_
  refine own_callVV C o_b1_3.1 (own_took l hw b1 (S1 := S2) (D1 := D2) cS1 cD1 cG1 cM1 cMM1 cF1 c6 c7 eS2 eD2 cS2 cD2 o_b1_3 (by omega)) (own_w hw 20 rfl) (own_w hw 21 rfl) (own_w hw 23 rfl) (own_w hw 22 rfl) (own_w hw 10 rfl) (own_w hw 24 rfl) (by decide) at_355 rfl (argsL := [(.double (FP.i2d y6)), (.double (FP.i2d y7))]) (rest := []) rfl (lenOf own_pd2 rfl) (W := 0) (Nat.le_of_eq rfl) (by decide) (by decide) (by decide) (by decide) (pc' := 358) rfl ?_
  rintro h4 ⟨P2, G2, M2, F2, N2, eP2, eG2, eM2, eF2, eN2, K4, o_b1_4⟩
  have s4 : h3.size ≤ h4.size := K4.1
  have fF2 : F2 = wS2 := by rw [eF2, h_wS2, h_m2]; split <;> simp
  have fG2 : G2 = wD2 := by rw [eG2, h_wD2, h_m2]; split <;> simp
  have fM2 : M2 = mS2 := by rw [eM2, h_mS2, h_m2]; split <;> simp
  have fN2 : N2 = mD2 := by rw [eN2, h_mD2, h_m2]; split <;> simp
  have fP2 : P2 = p2 := by rw [eP2, h_p2, own_s0, own_s0]
  rw [fP2, fG2, fM2, fF2, fN2] at o_b1_4
  have cG2 := cwD2
  have cM2 := cmS2
  have cF2 := cwS2
  have cMM2 := own_dbl dmS2
  refine own_iload C at_358 rfl (pc' := 360) rfl ?_
  refine own_ifN C at_360 (by decide) (pc' := 363) rfl ?_
  refine own_aload C at_363 rfl rfl (pc' := 365) rfl ?_
  have old4 := (old3.keep K4 (allS (by omega) all0))
  refine own_callVp C o_b1_4.1 (own_c6_2 l hw S (by omega) old4 p2 (FP.i2d S2) (FP.i2d D2) (FP.i2d wD2) (FP.i2d mS2) (FP.i2d wS2) (FP.i2d mD2) b1 o_b1_4) (own_w hw 38 rfl) (own_w hw 39 rfl) (own_w hw 41 rfl) (own_w hw 40 rfl) (own_w hw 10 rfl) (own_w hw 42 rfl) (by decide) at_365 rfl (argsL := []) (rest := []) rfl (lenOf own_pd3 rfl) (W := 0) (Nat.le_of_eq rfl) (by decide) (by decide) (by decide) (by decide) (by decide) (by decide) (pc' := 368) rfl ?_
  refine own_dload C at_368 rfl (pc' := 370) rfl ?_
  refine own_dcmp C (v := (0 : Int32)) at_370 (dcmpV_self np2 _) (pc' := 371) rfl ?_
  refine own_ifN C at_371 (by decide) (pc' := 374) rfl ?_
  refine own_iconst C (v := (1 : Int32)) at_374 (by decide) (pc' := 375) rfl ?_
  refine own_goto C at_375 (by decide) (pc' := 379) (by decide) ?_
  refine own_istore C (Ls' := #[.val (.int y0), .val (.int y1), .val (.int y2), .val (.int y3), .val (.int y4), .val (.int y5), .val (.int y6), .val (.int y7), .val (.int y8), .val (.int y9), .val (.int y10), .val (.int y11), .val (.int y4), .val (.int S2), .val (.int S3), .val (.int S4), .val (.int y5), .val (.int D2), .val (.int D3), .val (.int D4), .val (.double 9218868437227405312), .second, .val (.double p1), .second, .val (.double p2), .second, .val (.int m2), .val (.int wS2), .val (.int wD2), .val (.int mS2), .val (.int mD2), .val (.double p3), .second, .val (.int m3), .val (.int wS3), .val (.int wD3), .val (.double p4), .second, .val (.ref b1), .val (.int (1 : Int32))]) at_379 rfl (pc' := 381) rfl ?_
  refine own_aload C at_381 rfl rfl (pc' := 383) rfl ?_
  refine own_iload C at_383 rfl (pc' := 385) rfl ?_
  refine own_i2d C at_385 rfl (pc' := 386) rfl ?_
  refine own_iload C at_386 rfl (pc' := 388) rfl ?_
  refine own_i2d C at_388 rfl (pc' := 389) rfl ?_
  refine own_callVV C o_b1_4.1 (own_took l hw b1 (S1 := S3) (D1 := D3) cS2 cD2 cG2 cM2 cMM2 cF2 c8 c9 eS3 eD3 cS3 cD3 o_b1_4 (by omega)) (own_w hw 20 rfl) (own_w hw 21 rfl) (own_w hw 23 rfl) (own_w hw 22 rfl) (own_w hw 10 rfl) (own_w hw 24 rfl) (by decide) at_389 rfl (argsL := [(.double (FP.i2d y8)), (.double (FP.i2d y9))]) (rest := []) rfl (lenOf own_pd2 rfl) (W := 0) (Nat.le_of_eq rfl) (by decide) (by decide) (by decide) (by decide) (pc' := 392) rfl ?_
  rintro h5 ⟨P3, G3, M3, F3, N3, eP3, eG3, eM3, eF3, eN3, K5, o_b1_5⟩
  have s5 : h4.size ≤ h5.size := K5.1
  have fF3 : F3 = wS3 := by rw [eF3, h_wS3, h_m3]; split <;> simp
  have fG3 : G3 = wD3 := by rw [eG3, h_wD3, h_m3]; split <;> simp
  have fP3 : P3 = p3 := by rw [eP3, h_p3]
  have cM3 : own_Sm M3 := by rw [eM3]; split <;> assumption
  have cMM3 : own_Sm (2 * M3) := by rw [eM3]; split; exact own_dbl dmS2; exact own_dbl tS3.1
  rw [fP3, fG3, fF3] at o_b1_5
  have cG3 := cwD3
  have cF3 := cwS3
  refine own_iload C at_392 rfl (pc' := 394) rfl ?_
  refine own_ifN C at_394 (by decide) (pc' := 397) rfl ?_
  refine own_aload C at_397 rfl rfl (pc' := 399) rfl ?_
  have old5 := (old4.keep K5 (allS (by omega) all0))
  refine own_callVp C o_b1_5.1 (own_c6_2 l hw S (by omega) old5 p3 (FP.i2d S3) (FP.i2d D3) (FP.i2d wD3) (FP.i2d M3) (FP.i2d wS3) (FP.i2d N3) b1 o_b1_5) (own_w hw 38 rfl) (own_w hw 39 rfl) (own_w hw 41 rfl) (own_w hw 40 rfl) (own_w hw 10 rfl) (own_w hw 42 rfl) (by decide) at_399 rfl (argsL := []) (rest := []) rfl (lenOf own_pd3 rfl) (W := 0) (Nat.le_of_eq rfl) (by decide) (by decide) (by decide) (by decide) (by decide) (by decide) (pc' := 402) rfl ?_
  refine own_dload C at_402 rfl (pc' := 404) rfl ?_
  refine own_dcmp C (v := (0 : Int32)) at_404 (dcmpV_self np3 _) (pc' := 405) rfl ?_
  refine own_ifN C at_405 (by decide) (pc' := 408) rfl ?_
  refine own_iconst C (v := (1 : Int32)) at_408 (by decide) (pc' := 409) rfl ?_
  refine own_goto C at_409 (by decide) (pc' := 413) (by decide) ?_
  refine own_istore C (Ls' := #[.val (.int y0), .val (.int y1), .val (.int y2), .val (.int y3), .val (.int y4), .val (.int y5), .val (.int y6), .val (.int y7), .val (.int y8), .val (.int y9), .val (.int y10), .val (.int y11), .val (.int y4), .val (.int S2), .val (.int S3), .val (.int S4), .val (.int y5), .val (.int D2), .val (.int D3), .val (.int D4), .val (.double 9218868437227405312), .second, .val (.double p1), .second, .val (.double p2), .second, .val (.int m2), .val (.int wS2), .val (.int wD2), .val (.int mS2), .val (.int mD2), .val (.double p3), .second, .val (.int m3), .val (.int wS3), .val (.int wD3), .val (.double p4), .second, .val (.ref b1), .val (.int (1 : Int32))]) at_413 rfl (pc' := 415) rfl ?_
  refine own_aload C at_415 rfl rfl (pc' := 417) rfl ?_
  refine own_iload C at_417 rfl (pc' := 419) rfl ?_
  refine own_i2d C at_419 rfl (pc' := 420) rfl ?_
  refine own_iload C at_420 rfl (pc' := 422) rfl ?_
  refine own_i2d C at_422 rfl (pc' := 423) rfl ?_
  refine own_callVV C o_b1_5.1 (own_took l hw b1 (S1 := S4) (D1 := D4) cS3 cD3 cG3 cM3 cMM3 cF3 c10 c11 eS4 eD4 cS4 cD4 o_b1_5 (by omega)) (own_w hw 20 rfl) (own_w hw 21 rfl) (own_w hw 23 rfl) (own_w hw 22 rfl) (own_w hw 10 rfl) (own_w hw 24 rfl) (by decide) at_423 rfl (argsL := [(.double (FP.i2d y10)), (.double (FP.i2d y11))]) (rest := []) rfl (lenOf own_pd2 rfl) (W := 0) (Nat.le_of_eq rfl) (by decide) (by decide) (by decide) (by decide) (pc' := 426) rfl ?_
  rintro h6 ⟨P4, G4, M4, F4, N4, eP4, eG4, eM4, eF4, eN4, K6, o_b1_6⟩
  have s6 : h5.size ≤ h6.size := K6.1
  have fP4 : P4 = p4 := by rw [eP4, h_p4]
  rw [fP4] at o_b1_6
  refine own_iload C at_426 rfl (pc' := 428) rfl ?_
  refine own_ifN C at_428 (by decide) (pc' := 431) rfl ?_
  refine own_aload C at_431 rfl rfl (pc' := 433) rfl ?_
  have old6 := (old5.keep K6 (allS (by omega) all0))
  refine own_callVp C o_b1_6.1 (own_c6_2 l hw S (by omega) old6 p4 (FP.i2d S4) (FP.i2d D4) (FP.i2d G4) (FP.i2d M4) (FP.i2d F4) (FP.i2d N4) b1 o_b1_6) (own_w hw 38 rfl) (own_w hw 39 rfl) (own_w hw 41 rfl) (own_w hw 40 rfl) (own_w hw 10 rfl) (own_w hw 42 rfl) (by decide) at_433 rfl (argsL := []) (rest := []) rfl (lenOf own_pd3 rfl) (W := 0) (Nat.le_of_eq rfl) (by decide) (by decide) (by decide) (by decide) (by decide) (by decide) (pc' := 436) rfl ?_
  refine own_dload C at_436 rfl (pc' := 438) rfl ?_
  refine own_dcmp C (v := (0 : Int32)) at_438 (dcmpV_self np4 _) (pc' := 439) rfl ?_
  refine own_ifN C at_439 (by decide) (pc' := 442) rfl ?_
  refine own_iconst C (v := (1 : Int32)) at_442 (by decide) (pc' := 443) rfl ?_
  refine own_goto C at_443 (by decide) (pc' := 447) (by decide) ?_
  refine own_istore C (Ls' := #[.val (.int y0), .val (.int y1), .val (.int y2), .val (.int y3), .val (.int y4), .val (.int y5), .val (.int y6), .val (.int y7), .val (.int y8), .val (.int y9), .val (.int y10), .val (.int y11), .val (.int y4), .val (.int S2), .val (.int S3), .val (.int S4), .val (.int y5), .val (.int D2), .val (.int D3), .val (.int D4), .val (.double 9218868437227405312), .second, .val (.double p1), .second, .val (.double p2), .second, .val (.int m2), .val (.int wS2), .val (.int wD2), .val (.int mS2), .val (.int mD2), .val (.double p3), .second, .val (.int m3), .val (.int wS3), .val (.int wD3), .val (.double p4), .second, .val (.ref b1), .val (.int (1 : Int32))]) at_447 rfl (pc' := 449) rfl ?_
  refine own_iload C at_449 rfl (pc' := 451) rfl ?_
  refine own_ifN C at_451 (by decide) (pc' := 454) rfl ?_
  refine own_aload C at_454 rfl rfl (pc' := 456) rfl ?_
  refine own_callVp C o_b1_6.1 (own_c7_3 l hw S (by omega) old6 p4 (FP.i2d S4) (FP.i2d D4) (FP.i2d G4) (FP.i2d M4) (FP.i2d F4) (FP.i2d N4) b1 o_b1_6) (own_w hw 43 rfl) (own_w hw 44 rfl) (own_w hw 46 rfl) (own_w hw 45 rfl) (own_w hw 10 rfl) (own_w hw 47 rfl) (by decide) at_456 rfl (argsL := []) (rest := []) rfl (lenOf own_pd3 rfl) (W := 0) (Nat.le_of_eq rfl) (by decide) (by decide) (by decide) (by decide) (by decide) (by decide) (pc' := 459) rfl ?_
  refine own_iload C at_459 rfl (pc' := 461) rfl ?_
  refine own_i2d C at_461 rfl (pc' := 462) rfl ?_
  refine own_dcmp C (v := (0 : Int32)) at_462 (dcmpV_self (own_nn _) _) (pc' := 463) rfl ?_
  refine own_ifN C at_463 (by decide) (pc' := 466) rfl ?_
  refine own_aload C at_466 rfl rfl (pc' := 468) rfl ?_
  refine own_callVp C o_b1_6.1 (own_c8_4 l hw S (by omega) old6 p4 (FP.i2d S4) (FP.i2d D4) (FP.i2d G4) (FP.i2d M4) (FP.i2d F4) (FP.i2d N4) b1 o_b1_6) (own_w hw 48 rfl) (own_w hw 49 rfl) (own_w hw 51 rfl) (own_w hw 50 rfl) (own_w hw 10 rfl) (own_w hw 52 rfl) (by decide) at_468 rfl (argsL := []) (rest := []) rfl (lenOf own_pd3 rfl) (W := 0) (Nat.le_of_eq rfl) (by decide) (by decide) (by decide) (by decide) (by decide) (by decide) (pc' := 471) rfl ?_
  refine own_iload C at_471 rfl (pc' := 473) rfl ?_
  refine own_i2d C at_473 rfl (pc' := 474) rfl ?_
  refine own_dcmp C (v := (0 : Int32)) at_474 (dcmpV_self (own_nn _) _) (pc' := 475) rfl ?_
  refine own_ifN C at_475 (by decide) (pc' := 478) rfl ?_
  refine own_iconst C (v := (1 : Int32)) at_478 (by decide) (pc' := 479) rfl ?_
  refine own_goto C at_479 (by decide) (pc' := 483) (by decide) ?_
  refine own_istore C (Ls' := #[.val (.int y0), .val (.int y1), .val (.int y2), .val (.int y3), .val (.int y4), .val (.int y5), .val (.int y6), .val (.int y7), .val (.int y8), .val (.int y9), .val (.int y10), .val (.int y11), .val (.int y4), .val (.int S2), .val (.int S3), .val (.int S4), .val (.int y5), .val (.int D2), .val (.int D3), .val (.int D4), .val (.double 9218868437227405312), .second, .val (.double p1), .second, .val (.double p2), .second, .val (.int m2), .val (.int wS2), .val (.int wD2), .val (.int mS2), .val (.int mD2), .val (.double p3), .second, .val (.int m3), .val (.int wS3), .val (.int wD3), .val (.double p4), .second, .val (.ref b1), .val (.int (1 : Int32))]) at_483 rfl (pc' := 485) rfl ?_
  refine own_iload C at_485 rfl (pc' := 487) rfl ?_
  exact own_ireturn C (by simp) rfl at_487 (by decide) (by decide) rfl
set_option maxHeartbeats 4000000 in
theorem own_law (l : Launch) {Z : State} {a0 : Array Value} (hw : ∀ d ∈ tables_1, d.before a0 Z = true) {n0 : Nat} {h : Heap} (S : own_St Z) (z0 : n0 ≤ h.size) (old : Old Z n0 h) (x0 x1 x2 x3 : Int32) :
    own_Met l Z x code maxLocals ret tables_1 room_1 n0 #[(.int x0), (.int x1), (.int x2), (.int x3)] h (fun v _ => v = some (.int 1)) := by
  refine own_met (Ls := #[.val (.int x0), .val (.int x1), .val (.int x2), .val (.int x3), .unset, .unset, .unset, .unset, .unset, .unset, .unset, .unset, .unset, .unset, .unset, .unset, .unset, .unset, .unset, .unset, .unset, .unset, .unset, .unset, .unset, .unset, .unset, .unset, .unset, .unset, .unset, .unset, .unset, .unset, .unset, .unset, .unset, .unset, .unset, .unset]) (by first | exact plainFor_of_name (by first | (simp [x, plainName, overriddenIn]; done) | decide +kernel) | decide +kernel) rfl ?_
  intro p e s m below meth c C
  refine own_iloadN C at_0 rfl (pc' := 1) rfl ?_
  refine own_callSp C (own_sp_met l hw x0) (own_w hw 0 rfl) (own_w hw 1 rfl) (own_w hw 2 rfl) (own_w hw 3 rfl) (by decide) at_1 rfl (argsL := [(.int x0)]) (rest := []) rfl (lenOf own_pd0 rfl) (W := 0) (Nat.le_of_eq rfl) (by decide) (by decide) (by decide) (by decide) (by decide) (by decide) (pc' := 4) rfl ?_
  refine own_istore C (Ls' := #[.val (.int x0), .val (.int x1), .val (.int x2), .val (.int x3), .val (.int (own_sp x0)), .unset, .unset, .unset, .unset, .unset, .unset, .unset, .unset, .unset, .unset, .unset, .unset, .unset, .unset, .unset, .unset, .unset, .unset, .unset, .unset, .unset, .unset, .unset, .unset, .unset, .unset, .unset, .unset, .unset, .unset, .unset, .unset, .unset, .unset, .unset]) at_4 rfl (pc' := 6) rfl ?_
  refine own_iloadN C at_6 rfl (pc' := 7) rfl ?_
  refine own_callSp C (own_wk_met l hw x0) (own_w hw 4 rfl) (own_w hw 5 rfl) (own_w hw 2 rfl) (own_w hw 6 rfl) (by decide) at_7 rfl (argsL := [(.int x0)]) (rest := []) rfl (lenOf own_pd0 rfl) (W := 0) (Nat.le_of_eq rfl) (by decide) (by decide) (by decide) (by decide) (by decide) (by decide) (pc' := 10) rfl ?_
  refine own_istore C (Ls' := #[.val (.int x0), .val (.int x1), .val (.int x2), .val (.int x3), .val (.int (own_sp x0)), .val (.int (own_wk x0)), .unset, .unset, .unset, .unset, .unset, .unset, .unset, .unset, .unset, .unset, .unset, .unset, .unset, .unset, .unset, .unset, .unset, .unset, .unset, .unset, .unset, .unset, .unset, .unset, .unset, .unset, .unset, .unset, .unset, .unset, .unset, .unset, .unset, .unset]) at_10 rfl (pc' := 12) rfl ?_
  refine own_iloadN C at_12 rfl (pc' := 13) rfl ?_
  refine own_callSp C (own_sp_met l hw x1) (own_w hw 0 rfl) (own_w hw 1 rfl) (own_w hw 2 rfl) (own_w hw 3 rfl) (by decide) at_13 rfl (argsL := [(.int x1)]) (rest := []) rfl (lenOf own_pd0 rfl) (W := 0) (Nat.le_of_eq rfl) (by decide) (by decide) (by decide) (by decide) (by decide) (by decide) (pc' := 16) rfl ?_
  refine own_istore C (Ls' := #[.val (.int x0), .val (.int x1), .val (.int x2), .val (.int x3), .val (.int (own_sp x0)), .val (.int (own_wk x0)), .val (.int (own_sp x1)), .unset, .unset, .unset, .unset, .unset, .unset, .unset, .unset, .unset, .unset, .unset, .unset, .unset, .unset, .unset, .unset, .unset, .unset, .unset, .unset, .unset, .unset, .unset, .unset, .unset, .unset, .unset, .unset, .unset, .unset, .unset, .unset, .unset]) at_16 rfl (pc' := 18) rfl ?_
  refine own_iloadN C at_18 rfl (pc' := 19) rfl ?_
  refine own_callSp C (own_wk_met l hw x1) (own_w hw 4 rfl) (own_w hw 5 rfl) (own_w hw 2 rfl) (own_w hw 6 rfl) (by decide) at_19 rfl (argsL := [(.int x1)]) (rest := []) rfl (lenOf own_pd0 rfl) (W := 0) (Nat.le_of_eq rfl) (by decide) (by decide) (by decide) (by decide) (by decide) (by decide) (pc' := 22) rfl ?_
  refine own_istore C (Ls' := #[.val (.int x0), .val (.int x1), .val (.int x2), .val (.int x3), .val (.int (own_sp x0)), .val (.int (own_wk x0)), .val (.int (own_sp x1)), .val (.int (own_wk x1)), .unset, .unset, .unset, .unset, .unset, .unset, .unset, .unset, .unset, .unset, .unset, .unset, .unset, .unset, .unset, .unset, .unset, .unset, .unset, .unset, .unset, .unset, .unset, .unset, .unset, .unset, .unset, .unset, .unset, .unset, .unset, .unset]) at_22 rfl (pc' := 24) rfl ?_
  refine own_iloadN C at_24 rfl (pc' := 25) rfl ?_
  refine own_callSp C (own_sp_met l hw x2) (own_w hw 0 rfl) (own_w hw 1 rfl) (own_w hw 2 rfl) (own_w hw 3 rfl) (by decide) at_25 rfl (argsL := [(.int x2)]) (rest := []) rfl (lenOf own_pd0 rfl) (W := 0) (Nat.le_of_eq rfl) (by decide) (by decide) (by decide) (by decide) (by decide) (by decide) (pc' := 28) rfl ?_
  refine own_istore C (Ls' := #[.val (.int x0), .val (.int x1), .val (.int x2), .val (.int x3), .val (.int (own_sp x0)), .val (.int (own_wk x0)), .val (.int (own_sp x1)), .val (.int (own_wk x1)), .val (.int (own_sp x2)), .unset, .unset, .unset, .unset, .unset, .unset, .unset, .unset, .unset, .unset, .unset, .unset, .unset, .unset, .unset, .unset, .unset, .unset, .unset, .unset, .unset, .unset, .unset, .unset, .unset, .unset, .unset, .unset, .unset, .unset, .unset]) at_28 rfl (pc' := 30) rfl ?_
  refine own_iloadN C at_30 rfl (pc' := 31) rfl ?_
  refine own_callSp C (own_wk_met l hw x2) (own_w hw 4 rfl) (own_w hw 5 rfl) (own_w hw 2 rfl) (own_w hw 6 rfl) (by decide) at_31 rfl (argsL := [(.int x2)]) (rest := []) rfl (lenOf own_pd0 rfl) (W := 0) (Nat.le_of_eq rfl) (by decide) (by decide) (by decide) (by decide) (by decide) (by decide) (pc' := 34) rfl ?_
  refine own_istore C (Ls' := #[.val (.int x0), .val (.int x1), .val (.int x2), .val (.int x3), .val (.int (own_sp x0)), .val (.int (own_wk x0)), .val (.int (own_sp x1)), .val (.int (own_wk x1)), .val (.int (own_sp x2)), .val (.int (own_wk x2)), .unset, .unset, .unset, .unset, .unset, .unset, .unset, .unset, .unset, .unset, .unset, .unset, .unset, .unset, .unset, .unset, .unset, .unset, .unset, .unset, .unset, .unset, .unset, .unset, .unset, .unset, .unset, .unset, .unset, .unset]) at_34 rfl (pc' := 36) rfl ?_
  refine own_iloadN C at_36 rfl (pc' := 37) rfl ?_
  refine own_callSp C (own_sp_met l hw x3) (own_w hw 0 rfl) (own_w hw 1 rfl) (own_w hw 2 rfl) (own_w hw 3 rfl) (by decide) at_37 rfl (argsL := [(.int x3)]) (rest := []) rfl (lenOf own_pd0 rfl) (W := 0) (Nat.le_of_eq rfl) (by decide) (by decide) (by decide) (by decide) (by decide) (by decide) (pc' := 40) rfl ?_
  refine own_istore C (Ls' := #[.val (.int x0), .val (.int x1), .val (.int x2), .val (.int x3), .val (.int (own_sp x0)), .val (.int (own_wk x0)), .val (.int (own_sp x1)), .val (.int (own_wk x1)), .val (.int (own_sp x2)), .val (.int (own_wk x2)), .val (.int (own_sp x3)), .unset, .unset, .unset, .unset, .unset, .unset, .unset, .unset, .unset, .unset, .unset, .unset, .unset, .unset, .unset, .unset, .unset, .unset, .unset, .unset, .unset, .unset, .unset, .unset, .unset, .unset, .unset, .unset, .unset]) at_40 rfl (pc' := 42) rfl ?_
  refine own_iloadN C at_42 rfl (pc' := 43) rfl ?_
  refine own_callSp C (own_wk_met l hw x3) (own_w hw 4 rfl) (own_w hw 5 rfl) (own_w hw 2 rfl) (own_w hw 6 rfl) (by decide) at_43 rfl (argsL := [(.int x3)]) (rest := []) rfl (lenOf own_pd0 rfl) (W := 0) (Nat.le_of_eq rfl) (by decide) (by decide) (by decide) (by decide) (by decide) (by decide) (pc' := 46) rfl ?_
  refine own_istore C (Ls' := #[.val (.int x0), .val (.int x1), .val (.int x2), .val (.int x3), .val (.int (own_sp x0)), .val (.int (own_wk x0)), .val (.int (own_sp x1)), .val (.int (own_wk x1)), .val (.int (own_sp x2)), .val (.int (own_wk x2)), .val (.int (own_sp x3)), .val (.int (own_wk x3)), .unset, .unset, .unset, .unset, .unset, .unset, .unset, .unset, .unset, .unset, .unset, .unset, .unset, .unset, .unset, .unset, .unset, .unset, .unset, .unset, .unset, .unset, .unset, .unset, .unset, .unset, .unset, .unset]) at_46 rfl (pc' := 48) rfl ?_
  exact own_seg5 l hw S (by omega) old (x0) (x1) (x2) (x3) ((own_sp x0)) ((own_wk x0)) ((own_sp x1)) ((own_wk x1)) ((own_sp x2)) ((own_wk x2)) ((own_sp x3)) ((own_wk x3)) (own_spb x0) (own_wkb x0) (own_spb x1) (own_wkb x1) (own_spb x2) (own_wkb x2) (own_spb x3) (own_wkb x3) C
set_option maxRecDepth 65536 in
theorem own_comes {Post : Tables → Env → Array Value → State → Outcome → State → Prop} (hpost : ∀ tb e args s v u, (limb_1_1.after args s (.returned v) u = true ∧ limb_1_2.after args s (.returned v) u = true ∧ True) → FrameEnd s (.returned v) u (Jvm.fieldLocs frame_1_writes args s ++ Jvm.arrayLocs frame_1_arrays args s ++ Jvm.staticLocs frame_1_statics s) 16 128 → Post tb e args s (.returned v) u) :
    ArmFor flags0 classFile x code maxLocals ret World_1 tables_1 room_1 Calls_1 rest_1 Pre_1 Post := by
  intro l hfl _ _ p e ha hc hk s m args below hf hA hF happ hP
  obtain ⟨hcalls, hrest, hpre⟩ := hP
  obtain ⟨-, -, -, hnamed, -, -, -, hat⟩ := (Spec.applies_iff hf).mp happ
  obtain ⟨hg, hn⟩ := and_e (Cond.before_iff.mp (show (Jvm.Cond.and given_1 narrow_1).before args s = true from hpre))
  obtain ⟨g0, hg⟩ := and_e hg
  obtain ⟨w0, w1, w2, w3, rfl⟩ : ∃ w0 w1 w2 w3 : Value, args = #[w0, w1, w2, w3] := by
    have hs : args.size = 4 := by simpa [Cond.value, given_1] using g0
    obtain ⟨L⟩ := args
    match L, hs with
    | [w0, w1, w2, w3], _ => exact ⟨w0, w1, w2, w3, rfl⟩
  obtain ⟨g1, hg⟩ := and_e hg
  obtain ⟨x0, e0⟩ := is_v g1
  obtain rfl : w0 = (.int x0) := Option.some.inj e0
  obtain ⟨g2, hg⟩ := and_e hg
  obtain ⟨x1, e1⟩ := is_v g2
  obtain rfl : w1 = (.int x1) := Option.some.inj e1
  obtain ⟨g3, hg⟩ := and_e hg
  obtain ⟨x2, e2⟩ := is_v g3
  obtain rfl : w2 = (.int x2) := Option.some.inj e2
  obtain ⟨x3, e3⟩ := is_v hg
  obtain rfl : w3 = (.int x3) := Option.some.inj e3
  have hw := fun d (hd : d ∈ tables_1) => atoms_spec (ws := Jvm.Cond.code x code maxLocals ret :: tables_1) hat d (List.mem_cons_of_mem _ hd)
  obtain ⟨n, o, h1, h2, h3, _, L, rfl, ⟨rfl, N⟩, hq⟩ := own_law l hw (n0 := s.heap.size) trivial (Nat.le_refl _) (Old.start s) x0 x1 x2 x3 p e ha hc hk s m _ below hf ((Spec.applies_iff_loose hf).mp happ).1 ⟨rfl, State.Warmed39.refl s, rfl⟩ trivial
  exact ⟨n, _, h1, h2, h3, hpost _ _ _ _ _ _ ⟨Cond.after_iff.mpr rfl, Cond.after_iff.mpr (eq_i res_at (Term.int_eval (1)) rfl), trivial⟩ ⟨hq.1, hq.2.1, (hq.2.2.sift fun y hy => Or.inr (N y hy)).mono (by decide) (by decide)⟩⟩
theorem main_1_1 : Claimed_1_1 := own_comes fun _ _ _ _ _ _ h hF => ⟨h.1, hF⟩
theorem main_1_2 : Claimed_1_2 := own_comes fun _ _ _ _ _ _ h hF => ⟨h.2.1, hF⟩
end Jvm.Pilot.@@N@@
namespace Jvm.Pilot.@@N@@
open Jvm Jvm.ClassFile Sem Op Lib Jvm.Free Jvm.Stand Jvm.Pilot.@@N@@.Jvm.D
/-! MADE BY PROGRAM (witnessworld.py) out of the Statement's table words and the real class files: 9 classes; the members and pool entries that the words name. The judged class is class 1, her method 3. -/
namespace start1
open Jvm.ClassFile
def u (s : String) : CpInfo := .utf8 (stringToUtf16 s)
/-- a pool by its gaps: so many unusable entries, then the entry; so many at the end -/
def gap : Nat → List CpInfo → List CpInfo
  | 0, r => r
  | n + 1, r => .unusable :: gap n r
def poolList (es : List (Nat × CpInfo)) (last : Nat) : List CpInfo := es.foldr (fun e r => gap e.1 (e.2 :: r)) (gap last [])
def pool (es : List (Nat × CpInfo)) (last : Nat) : Array CpInfo := ⟨poolList es last⟩
def fileOf (pool : Array CpInfo) (this : Nat) (attrs : Array Attribute := #[]) (ms : Array MethodInfo := #[]) (fl : Nat := 33) (sup : Nat := 0) (ifs : Array Nat := #[]) (fds : Array FieldInfo := #[]) : ClassFile where
  minorVersion := 0
  majorVersion := 65
  constantPool := pool
  accessFlags := fl
  thisClass := this
  superClass := sup
  interfaces := ifs
  fields := fds
  methods := ms
  attributes := attrs
def plain (name : String) (sup : Option ClassId) : Class where
  name := name
  kind := .ordinary
  loader := none
  accessFlags := 33
  super := sup
  interfaces := #[]
  cf := none
  fields := #[]
  methods := #[]
  instanceTypes := #[]
  staticTypes := #[]
  resolved := #[]
  callSites := []
  init := .initialized
  statics := none
  mirror := none

def pool0 : Array CpInfo := pool [(5, u "<init>"), (0, u "()V"), (1, .class_ 10), (1, u "java/lang/Object")] 113

def k0c0 : Code := { maxStack := 0, maxLocals := 1, code := object_method_1_code, exceptionTable := #[], attributes := #[] }
def k0m0 : Method := { name := "<init>", desc := "()V", sig := { parameters := [], returnType := none }, accessFlags := 1, code := some k0c0 }
/-- java/lang/Object -/
def k0 : Class := { plain "java/lang/Object" none with
  accessFlags := 33
  interfaces := #[]
  cf := some (fileOf pool0 8 #[] #[{ accessFlags := 1, nameIndex := 5, descriptorIndex := 6, attributes := #[] }] 33 0 #[] #[])
  fields := #[]
  methods := #[k0m0]
  instanceTypes := #[]
  staticTypes := #[]
  resolved := Array.replicate 124 none
  statics := none }

def pool1 : Array CpInfo := pool [(2, .class_ 4), (0, .nameAndType 5 6), (0, u "java/lang/Object"), (0, u "<init>"), (0, u "()V"), (0, .methodref 8 9), (0, .class_ 10), (0, .nameAndType 11 12), (0, u "com/example/interweave/interweave/engine/PaceTookPinLaw"), (0, u "spentOf"), (0, u "(I)I"), (0, .methodref 8 14), (0, .nameAndType 15 12), (0, u "workOf"), (2, .double 9218868437227405312), (1, .class_ 21), (0, u "com/example/interweave/interweave/engine/Pace"), (0, .methodref 20 3), (0, .methodref 20 24), (0, .nameAndType 25 26), (0, u "took"), (0, u "(DD)V"), (0, .methodref 20 28), (0, .nameAndType 29 30), (0, u "perUnit"), (0, u "()D"), (0, .methodref 20 32), (0, .nameAndType 33 30), (0, u "spent"), (0, .methodref 20 35), (0, .nameAndType 36 30), (0, u "done"), (3, u "law"), (0, u "(IIII)Z")] 2

def k1m0 : Method := { name := "<init>", desc := "()V", sig := { parameters := [], returnType := none }, accessFlags := 1, code := none }
def k1c1 : Code := { maxStack := 2, maxLocals := 1, code := method_2_code, exceptionTable := #[], attributes := #[] }
def k1m1 : Method := { name := "spentOf", desc := "(I)I", sig := { parameters := [.int], returnType := some .int }, accessFlags := 10, code := some k1c1 }
def k1c2 : Code := { maxStack := 2, maxLocals := 1, code := method_3_code, exceptionTable := #[], attributes := #[] }
def k1m2 : Method := { name := "workOf", desc := "(I)I", sig := { parameters := [.int], returnType := some .int }, accessFlags := 10, code := some k1c2 }
def k1c3 : Code := { maxStack := 5, maxLocals := 40, code := code, exceptionTable := #[], attributes := #[] }
def k1m3 : Method := { name := "law", desc := "(IIII)Z", sig := { parameters := [.int, .int, .int, .int], returnType := some .boolean }, accessFlags := 9, code := some k1c3 }
/-- com/example/interweave/interweave/engine/PaceTookPinLaw -/
def k1 : Class := { plain "com/example/interweave/interweave/engine/PaceTookPinLaw" (some 0) with
  accessFlags := 49
  interfaces := #[]
  cf := some (fileOf pool1 8 #[] #[{ accessFlags := 1, nameIndex := 5, descriptorIndex := 6, attributes := #[] }, { accessFlags := 10, nameIndex := 11, descriptorIndex := 12, attributes := #[] }, { accessFlags := 10, nameIndex := 15, descriptorIndex := 12, attributes := #[] }, { accessFlags := 9, nameIndex := 40, descriptorIndex := 41, attributes := #[] }] 49 2 #[] #[])
  fields := #[]
  methods := #[k1m0, k1m1, k1m2, k1m3]
  instanceTypes := #[]
  staticTypes := #[]
  resolved := Array.replicate 44 none
  statics := none }

def pool2 : Array CpInfo := pool [(1, .methodref 2 3), (0, .class_ 4), (0, .nameAndType 5 6), (0, u "java/lang/Object"), (0, u "<init>"), (0, u "()V"), (2, .double 9218868437227405312), (1, .fieldref 12 13), (0, .class_ 14), (0, .nameAndType 15 16), (0, u "com/example/interweave/interweave/engine/Pace"), (0, u "pace"), (0, u "D"), (0, .fieldref 12 18), (0, .nameAndType 19 16), (0, u "spent"), (0, .fieldref 12 21), (0, .nameAndType 22 16), (0, u "done"), (0, .fieldref 12 24), (0, .nameAndType 25 16), (0, u "doneFrom"), (0, .fieldref 12 27), (0, .nameAndType 28 16), (0, u "spentFrom"), (0, .double 4611686018427387904), (1, .fieldref 12 32), (0, .nameAndType 33 16), (0, u "mark"), (0, .fieldref 12 35), (0, .nameAndType 36 16), (0, u "doneAtMark"), (2, u "took"), (0, u "(DD)V"), (2, u "perUnit"), (0, u "()D")] 3

def k2c0 : Code := { maxStack := 3, maxLocals := 1, code := prog_6_method_1_code, exceptionTable := #[], attributes := #[] }
def k2m0 : Method := { name := "<init>", desc := "()V", sig := { parameters := [], returnType := none }, accessFlags := 0, code := some k2c0 }
def k2c1 : Code := { maxStack := 7, maxLocals := 5, code := prog_6_method_2_code, exceptionTable := #[], attributes := #[] }
def k2m1 : Method := { name := "took", desc := "(DD)V", sig := { parameters := [.double, .double], returnType := none }, accessFlags := 0, code := some k2c1 }
def k2c2 : Code := { maxStack := 2, maxLocals := 1, code := prog_6_method_4_code, exceptionTable := #[], attributes := #[] }
def k2m2 : Method := { name := "perUnit", desc := "()D", sig := { parameters := [], returnType := some .double }, accessFlags := 0, code := some k2c2 }
def k2c3 : Code := { maxStack := 2, maxLocals := 1, code := prog_6_method_6_code, exceptionTable := #[], attributes := #[] }
def k2m3 : Method := { name := "done", desc := "()D", sig := { parameters := [], returnType := some .double }, accessFlags := 0, code := some k2c3 }
def k2c4 : Code := { maxStack := 2, maxLocals := 1, code := prog_6_method_7_code, exceptionTable := #[], attributes := #[] }
def k2m4 : Method := { name := "spent", desc := "()D", sig := { parameters := [], returnType := some .double }, accessFlags := 0, code := some k2c4 }
/-- com/example/interweave/interweave/engine/Pace -/
def k2 : Class := { plain "com/example/interweave/interweave/engine/Pace" (some 0) with
  accessFlags := 48
  interfaces := #[]
  cf := some (fileOf pool2 12 #[] #[{ accessFlags := 0, nameIndex := 5, descriptorIndex := 6, attributes := #[] }, { accessFlags := 0, nameIndex := 39, descriptorIndex := 40, attributes := #[] }, { accessFlags := 0, nameIndex := 43, descriptorIndex := 44, attributes := #[] }, { accessFlags := 0, nameIndex := 22, descriptorIndex := 44, attributes := #[] }, { accessFlags := 0, nameIndex := 19, descriptorIndex := 44, attributes := #[] }] 48 2 #[] #[{ accessFlags := 2, nameIndex := 19, descriptorIndex := 16, attributes := #[] }, { accessFlags := 2, nameIndex := 22, descriptorIndex := 16, attributes := #[] }, { accessFlags := 2, nameIndex := 28, descriptorIndex := 16, attributes := #[] }, { accessFlags := 2, nameIndex := 25, descriptorIndex := 16, attributes := #[] }, { accessFlags := 2, nameIndex := 33, descriptorIndex := 16, attributes := #[] }, { accessFlags := 2, nameIndex := 36, descriptorIndex := 16, attributes := #[] }, { accessFlags := 2, nameIndex := 15, descriptorIndex := 16, attributes := #[] }])
  fields := #[{ name := "spent", type := .double, accessFlags := 2, slot := 0, constantValue := 0 }, { name := "done", type := .double, accessFlags := 2, slot := 1, constantValue := 0 }, { name := "spentFrom", type := .double, accessFlags := 2, slot := 2, constantValue := 0 }, { name := "doneFrom", type := .double, accessFlags := 2, slot := 3, constantValue := 0 }, { name := "mark", type := .double, accessFlags := 2, slot := 4, constantValue := 0 }, { name := "doneAtMark", type := .double, accessFlags := 2, slot := 5, constantValue := 0 }, { name := "pace", type := .double, accessFlags := 2, slot := 6, constantValue := 0 }]
  methods := #[k2m0, k2m1, k2m2, k2m3, k2m4]
  instanceTypes := #[.double, .double, .double, .double, .double, .double, .double]
  staticTypes := #[]
  resolved := Array.replicate 48 none
  statics := none }

def pool3 : Array CpInfo := pool [(1, u "java/lang/Cloneable"), (0, .class_ 1), (0, u "java/lang/Object"), (0, .class_ 3)] 3

/-- java/lang/Cloneable -/
def k3 : Class := { plain "java/lang/Cloneable" (some 0) with
  accessFlags := 1537
  interfaces := #[]
  cf := some (fileOf pool3 2 #[] #[] 1537 4 #[] #[])
  fields := #[]
  methods := #[]
  instanceTypes := #[]
  staticTypes := #[]
  resolved := Array.replicate 8 none
  statics := none }

def pool4 : Array CpInfo := pool [(1, u "java/io/Serializable"), (0, .class_ 1), (0, u "java/lang/Object"), (0, .class_ 3)] 3

/-- java/io/Serializable -/
def k4 : Class := { plain "java/io/Serializable" (some 0) with
  accessFlags := 1537
  interfaces := #[]
  cf := some (fileOf pool4 2 #[] #[] 1537 4 #[] #[])
  fields := #[]
  methods := #[]
  instanceTypes := #[]
  staticTypes := #[]
  resolved := Array.replicate 8 none
  statics := none }

/-- the primitive byte -/
def k5 : Class := { plain "byte" none with kind := .primitive 'B', accessFlags := 0x411 }
/-- [B -/
def k6 : Class := { plain "[B" (some 0) with kind := .array 5 .byte, interfaces := #[3, 4], accessFlags := 1041 }

/-- the primitive int -/
def k7 : Class := { plain "int" none with kind := .primitive 'I', accessFlags := 0x411 }
/-- [I -/
def k8 : Class := { plain "[I" (some 0) with kind := .array 7 .int, interfaces := #[3, 4], accessFlags := 1041 }

def heap : Heap := #[]
def classes : Array Class := #[k0, k1, k2, k3, k4, k5, k6, k7, k8]
def interned : List (Array UInt16 × Addr) := []
def slotsUsed : Nat := 0
def theMethod : MethodId := ⟨1, 3⟩
def args0 : Array Value := #[.int 5, .int 7, .int 9, .int 11]
def aboutOver (below : List Frame) : State where
  vm := { classes := classes, interned := interned.toArray }
  heap := heap
  slotsUsed := slotsUsed
  threads := #[{ frames := .invoking theMethod args0 :: below }]
def below0 : List Frame := [.native { method := ⟨0, 0⟩, args := #[] }]
def about1 : State := aboutOver below0
def p0 : Program := .bare "" "" ""
def e0 : Env := launch0.env 0 0 0
theorem w_frames : about1.frames = Frame.invoking theMethod args0 :: below0 := rfl
set_option maxRecDepth 65536 in
theorem w_args : argsFit about1.vm theMethod args0 = true := by decide +kernel
set_option maxRecDepth 65536 in
theorem w_heap : heapFits about1 = true := by decide +kernel
set_option maxRecDepth 65536 in
theorem w_runnable : about1.curStatus? = some .runnable := by decide +kernel
set_option maxRecDepth 65536 in
theorem w_alone : about1.alone = true := by decide +kernel
set_option maxRecDepth 65536 in
theorem w_named : about1.methodNamed? x = some theMethod := by decide +kernel
set_option maxRecDepth 65536 in
theorem w_hears : about1.hears theMethod below0 = true := by decide +kernel
set_option maxRecDepth 65536 in
theorem w_ripe : about1.ripe theMethod args0 below0 = true := by decide +kernel
theorem w_running : about1.status = .running := rfl
set_option maxRecDepth 65536 in
theorem w_room : about1.hasRoom e0.platform room_1 = true :=
  launch0.hasRoom_least _ room_1 (by decide +kernel) (by decide +kernel) (by decide +kernel) (by decide +kernel) (by decide +kernel) (by decide +kernel)
theorem allAtoms_all (ts : List Jvm.Cond) (a : Array Jvm.Value) (st : Jvm.State) : (allAtoms ts).before a st = ts.all (fun c => c.before a st) := by
  induction ts with
  | nil => rfl
  | cons c t ih =>
    show (Jvm.Cond.and c (allAtoms t)).before a st = _
    rw [Jvm.Cond.before_and, ih, List.all_cons]
def words1 : List Jvm.Cond := Jvm.Cond.code x code maxLocals ret :: tables_1
/-- a 'code' word, met by the world's own term for the bytes: nothing is compared byte by byte -/
theorem code_word {y : MethodName} {bytes : ByteArray} {mx : Nat} {rt : Option FieldType} {a : Array Value} {s : State} {m : MethodId} {meth : Method} {c : Code} (h1 : s.methodNamed? y = some m) (h2 : s.vm.method? m = some meth) (h3 : meth.code = some c) (h4 : c.code = bytes)
    (h5 : (c.maxLocals == mx && c.exceptionTable.isEmpty && decide (c.maxStack ≤ mostOperands) && decide (meth.sig.returnType = rt) && !meth.locks && decide (parseMethodDescriptor y.desc = some meth.sig)) = true) : (Jvm.Cond.code y bytes mx rt).before a s = true := by
  simp only [Bool.and_eq_true, beq_iff_eq, Bool.not_eq_true', decide_eq_true_eq] at h5
  obtain ⟨⟨⟨⟨⟨g1, g2⟩, g3⟩, g4⟩, g5⟩, g6⟩ := h5
  simp [Cond.before, Cond.holds, Cond.value, h1, h2, h3, h4, g1, g2, g3, g4, g5, g6]
def isCode : Jvm.Cond → Bool
  | .code _ _ _ _ => true
  | _ => false
theorem all_split {L : List Jvm.Cond} {P : Jvm.Cond → Bool} (h1 : L.all (fun c => isCode c || P c) = true) (h2 : ∀ c ∈ L.filter isCode, P c = true) : L.all P = true := by
  refine List.all_eq_true.mpr fun c hc => ?_
  have h := List.all_eq_true.mp h1 c hc
  rcases Bool.eq_false_or_eq_true (isCode c) with hi | hi
  · exact h2 c (List.mem_filter.mpr ⟨hc, hi⟩)
  · simpa [hi] using h
set_option maxRecDepth 65536 in
theorem w_c0 : (Jvm.Cond.code x code maxLocals ret).before args0 about1 = true := code_word (m := ⟨1, 3⟩) (meth := k1m3) (c := k1c3) (by decide +kernel) rfl rfl rfl (by decide +kernel)
set_option maxRecDepth 65536 in
theorem w_c1 : (Jvm.Cond.code ({ cls := "com/example/interweave/interweave/engine/PaceTookPinLaw", name := "spentOf", desc := "(I)I" } : Jvm.MethodName) method_2_code (1 : Nat) (Option.some Jvm.ClassFile.FieldType.int)).before args0 about1 = true := code_word (m := ⟨1, 1⟩) (meth := k1m1) (c := k1c1) (by decide +kernel) rfl rfl rfl (by decide +kernel)
set_option maxRecDepth 65536 in
theorem w_c2 : (Jvm.Cond.code ({ cls := "com/example/interweave/interweave/engine/PaceTookPinLaw", name := "workOf", desc := "(I)I" } : Jvm.MethodName) method_3_code (1 : Nat) (Option.some Jvm.ClassFile.FieldType.int)).before args0 about1 = true := code_word (m := ⟨1, 2⟩) (meth := k1m2) (c := k1c2) (by decide +kernel) rfl rfl rfl (by decide +kernel)
set_option maxRecDepth 65536 in
theorem w_c3 : (Jvm.Cond.code ({ cls := "com/example/interweave/interweave/engine/Pace", name := "<init>", desc := "()V" } : Jvm.MethodName) prog_6_method_1_code (1 : Nat) (Option.none : Option Jvm.ClassFile.FieldType)).before args0 about1 = true := code_word (m := ⟨2, 0⟩) (meth := k2m0) (c := k2c0) (by decide +kernel) rfl rfl rfl (by decide +kernel)
set_option maxRecDepth 65536 in
theorem w_c4 : (Jvm.Cond.code ({ cls := "java/lang/Object", name := "<init>", desc := "()V" } : Jvm.MethodName) object_method_1_code (1 : Nat) (Option.none : Option Jvm.ClassFile.FieldType)).before args0 about1 = true := code_word (m := ⟨0, 0⟩) (meth := k0m0) (c := k0c0) (by decide +kernel) rfl rfl rfl (by decide +kernel)
set_option maxRecDepth 65536 in
theorem w_c5 : (Jvm.Cond.code ({ cls := "com/example/interweave/interweave/engine/Pace", name := "took", desc := "(DD)V" } : Jvm.MethodName) prog_6_method_2_code (5 : Nat) (Option.none : Option Jvm.ClassFile.FieldType)).before args0 about1 = true := code_word (m := ⟨2, 1⟩) (meth := k2m1) (c := k2c1) (by decide +kernel) rfl rfl rfl (by decide +kernel)
set_option maxRecDepth 65536 in
theorem w_c6 : (Jvm.Cond.code ({ cls := "com/example/interweave/interweave/engine/Pace", name := "perUnit", desc := "()D" } : Jvm.MethodName) prog_6_method_4_code (1 : Nat) (Option.some Jvm.ClassFile.FieldType.double)).before args0 about1 = true := code_word (m := ⟨2, 2⟩) (meth := k2m2) (c := k2c2) (by decide +kernel) rfl rfl rfl (by decide +kernel)
set_option maxRecDepth 65536 in
theorem w_c7 : (Jvm.Cond.code ({ cls := "com/example/interweave/interweave/engine/Pace", name := "spent", desc := "()D" } : Jvm.MethodName) prog_6_method_7_code (1 : Nat) (Option.some Jvm.ClassFile.FieldType.double)).before args0 about1 = true := code_word (m := ⟨2, 4⟩) (meth := k2m4) (c := k2c4) (by decide +kernel) rfl rfl rfl (by decide +kernel)
set_option maxRecDepth 65536 in
theorem w_c8 : (Jvm.Cond.code ({ cls := "com/example/interweave/interweave/engine/Pace", name := "done", desc := "()D" } : Jvm.MethodName) prog_6_method_6_code (1 : Nat) (Option.some Jvm.ClassFile.FieldType.double)).before args0 about1 = true := code_word (m := ⟨2, 3⟩) (meth := k2m3) (c := k2c3) (by decide +kernel) rfl rfl rfl (by decide +kernel)
def codes1 : List Jvm.Cond := [Jvm.Cond.code x code maxLocals ret, Jvm.Cond.code ({ cls := "com/example/interweave/interweave/engine/PaceTookPinLaw", name := "spentOf", desc := "(I)I" } : Jvm.MethodName) method_2_code (1 : Nat) (Option.some Jvm.ClassFile.FieldType.int), Jvm.Cond.code ({ cls := "com/example/interweave/interweave/engine/PaceTookPinLaw", name := "workOf", desc := "(I)I" } : Jvm.MethodName) method_3_code (1 : Nat) (Option.some Jvm.ClassFile.FieldType.int), Jvm.Cond.code ({ cls := "com/example/interweave/interweave/engine/Pace", name := "<init>", desc := "()V" } : Jvm.MethodName) prog_6_method_1_code (1 : Nat) (Option.none : Option Jvm.ClassFile.FieldType), Jvm.Cond.code ({ cls := "java/lang/Object", name := "<init>", desc := "()V" } : Jvm.MethodName) object_method_1_code (1 : Nat) (Option.none : Option Jvm.ClassFile.FieldType), Jvm.Cond.code ({ cls := "com/example/interweave/interweave/engine/Pace", name := "took", desc := "(DD)V" } : Jvm.MethodName) prog_6_method_2_code (5 : Nat) (Option.none : Option Jvm.ClassFile.FieldType), Jvm.Cond.code ({ cls := "com/example/interweave/interweave/engine/Pace", name := "perUnit", desc := "()D" } : Jvm.MethodName) prog_6_method_4_code (1 : Nat) (Option.some Jvm.ClassFile.FieldType.double), Jvm.Cond.code ({ cls := "com/example/interweave/interweave/engine/Pace", name := "spent", desc := "()D" } : Jvm.MethodName) prog_6_method_7_code (1 : Nat) (Option.some Jvm.ClassFile.FieldType.double), Jvm.Cond.code ({ cls := "com/example/interweave/interweave/engine/Pace", name := "done", desc := "()D" } : Jvm.MethodName) prog_6_method_6_code (1 : Nat) (Option.some Jvm.ClassFile.FieldType.double)]
set_option maxRecDepth 65536 in
theorem codes_eq : words1.filter isCode = codes1 := rfl
theorem w_codes : ∀ c ∈ words1.filter isCode, c.before args0 about1 = true := by
  rw [codes_eq]
  intro c hc
  simp only [codes1, List.mem_cons, List.not_mem_nil, or_false] at hc
  rcases hc with rfl | rfl | rfl | rfl | rfl | rfl | rfl | rfl | rfl
  · exact w_c0
  · exact w_c1
  · exact w_c2
  · exact w_c3
  · exact w_c4
  · exact w_c5
  · exact w_c6
  · exact w_c7
  · exact w_c8
set_option maxRecDepth 65536 in
theorem w_t1 : (words1.take 24).all (fun c => isCode c || c.before args0 about1) = true := by decide +kernel
set_option maxRecDepth 65536 in
theorem w_t2 : ((words1.drop 24).take 24).all (fun c => isCode c || c.before args0 about1) = true := by decide +kernel
set_option maxRecDepth 65536 in
theorem w_t3 : ((words1.drop 24).drop 24).all (fun c => isCode c || c.before args0 about1) = true := by decide +kernel
theorem w_tables : (allAtoms (Jvm.Cond.code x code maxLocals ret :: tables_1)).before args0 about1 = true := by
  rw [allAtoms_all]
  show words1.all (fun c => c.before args0 about1) = true
  refine all_split ?_ w_codes
  rw [← List.take_append_drop 24 words1, List.all_append, w_t1, ← List.take_append_drop 24 (words1.drop 24), List.all_append, w_t2, w_t3]
  rfl
set_option maxRecDepth 65536 in
theorem w_case : (Jvm.Cond.and given_1 narrow_1).before args0 about1 = true := by decide +kernel
theorem w_applies : (headSpec (Jvm.Cond.code x code maxLocals ret :: tables_1) room_1).applies x e0.platform about1 = true :=
  (Spec.applies_iff w_frames).mpr ⟨w_running, w_runnable, w_alone, w_named, w_hears, w_ripe, w_room, w_tables⟩
theorem atStart : AtStart classFile x code maxLocals ret World_1 tables_1 room_1 Calls_1 rest_1 Pre_1 launch0 p0 e0 about1 theMethod args0 below0 :=
  ⟨lists_1, trivial, launch0.admits_env _ _ _, launch0.least_env, fairChoices_fair.cas, fairChoices_fair.clock, w_frames, w_args, w_heap, w_applies, trivial, trivial, w_case⟩
end start1
theorem witness_1 : WitnessClaimed_1 := ⟨start1.p0, start1.e0, start1.about1, start1.theMethod, start1.args0, start1.below0, start1.atStart⟩
end Jvm.Pilot.@@N@@
