import JvmDerived
import JvmDerived.Pilot.@@N@@Statement
import JvmDerived.Pilot.@@N@@Code
set_option linter.unusedVariables false
set_option linter.unusedSimpArgs false
@@BLOCK:NumsL.lean.txt@@
namespace Jvm.Pilot.@@N@@
open Jvm Jvm.ClassFile Sem Op Lib Jvm.Free Jvm.Stand Jvm.LawKit Jvm.RoadKit Bundle Jvm.Pilot.@@N@@.Jvm.D
/-! A walk in continuation form, over the library's family of laws (Stand, XS, RoadKit). -/
theorem z_w {Z : State} {a0 : Array Value} (hw : ∀ d ∈ tables_1, d.before a0 Z = true) {d : Jvm.Cond} (i : Nat) (q : tables_1[i]? = some d) : d.before a0 Z = true := hw d (List.mem_of_getElem? q)
section OwnKit
variable {p : Program} {l : Launch} {e : Env} {R : Room} {s : State} {m : MethodId} {args : Array Value} {below : List Frame} {meth : Method} {c : Code} {Z : State} {n0 : Nat} {own : String} {bytes : ByteArray} {ml : Nat} {rt : Option FieldType} {nm : String} {Q : Option Value → Heap → Prop} {h : Heap} {k n : Nat} {pc : Nat} {Ls Ls' : Array Slot} {st rest : List Value} {a0 : Array Value} {f f' : JFrame}
/-- what is left of a body's run from S: it returns, Q holds of the value and the heap, only places at or above n0 were written -/
def z_Fin (p : Program) (e : Env) (R : Room) (s : State) (below : List Frame) (n0 : Nat) (Q : Option Value → Heap → Prop) (S : State) : Prop :=
  ∃ s₂ o, Steps p.tables e below S s₂ ∧ s₂.status = .running ∧ Ended s₂ below o ∧ ∃ v L, o = .returned v ∧ (Q v s₂.heap ∧ Fr n0 L) ∧ FrameEnd s o s₂ L R.cells R.slots
/-- what is known of the body that is walked -/
def z_Cx (Z : State) (p : Program) (s : State) (m : MethodId) (meth : Method) (c : Code) (own : String) (bytes : ByteArray) (ml : Nat) (rt : Option FieldType) (nm : String) : Prop :=
  p.tables.exec = Jvm.exec ∧ Z.Warmed39 s.vm ∧ s.vm.findClass own = some m.cls ∧ c.code = bytes ∧ c.maxLocals = ml ∧ meth.sig.returnType = rt ∧ meth.locks = false ∧ meth.name = nm
/-- from the frame f over the heap h (k cells and n slots made so far) the body ends well -/
def z_At (p : Program) (l : Launch) (e : Env) (R : Room) (s : State) (m : MethodId) (args : Array Value) (below : List Frame) (meth : Method) (c : Code) (n0 : Nat) (Q : Option Value → Heap → Prop) (h : Heap) (k n : Nat) (f : JFrame) : Prop :=
  ∀ T L, Stand p l e R s m args below meth c T L k n → Fr n0 L → T.heap = h → z_Fin p e R s below n0 Q (T.setTop f)
theorem z_via {S S' : State} (H : ∀ t, Steps p.tables e below S' t → Steps p.tables e below S t) (K : z_Fin p e R s below n0 Q S') : z_Fin p e R s below n0 Q S := by
  obtain ⟨s₂, o, h1, r⟩ := K
  exact ⟨s₂, o, H _ h1, r⟩
theorem z_of (H : ∀ T L, Stand p l e R s m args below meth c T L k n → ∀ t, Steps p.tables e below (T.setTop f') t → Steps p.tables e below (T.setTop f) t) (K : z_At p l e R s m args below meth c n0 Q h k n f') : z_At p l e R s m args below meth c n0 Q h k n f :=
  fun T L X N eT => z_via (H T L X) (K T L X N eT)
theorem z_eq (q : f = f') (K : z_At p l e R s m args below meth c n0 Q h k n f') : z_At p l e R s m args below meth c n0 Q h k n f := q ▸ K
/-! ### plain steps -/
theorem z_iloadN (C : z_Cx Z p s m meth c own bytes ml rt nm) {i : Fin 4} {v : Int32} (hd : decode bytes pc = .ok (.iload_n i, 1)) (hl : Ls[i.val]? = some (.val (.int v))) (pc' : Nat) (hp : pc + 1 = pc')
    (K : z_At p l e R s m args below meth c n0 Q h k n (mkF m pc' Ls (.int v :: st))) : z_At p l e R s m args below meth c n0 Q h k n (mkF m pc Ls st) := by
  subst hp; exact z_of (fun T L X t hr => XS.iloadN X.here C.1 rfl (hb C.2.2.2.1 hd) hl hr) K
theorem z_iload (C : z_Cx Z p s m meth c own bytes ml rt nm) {i : Nat} {v : Int32} (hd : decode bytes pc = .ok (.iload i, 2)) (hl : Ls[i]? = some (.val (.int v))) (pc' : Nat) (hp : pc + 2 = pc')
    (K : z_At p l e R s m args below meth c n0 Q h k n (mkF m pc' Ls (.int v :: st))) : z_At p l e R s m args below meth c n0 Q h k n (mkF m pc Ls st) := by
  subst hp; exact z_of (fun T L X t hr => XS.iload X.here C.1 rfl (hb C.2.2.2.1 hd) hl hr) K
theorem z_aloadN (C : z_Cx Z p s m meth c own bytes ml rt nm) {i : Fin 4} {v : Value} (hd : decode bytes pc = .ok (.aload_n i, 1)) (hl : Ls[i.val]? = some (.val v)) (hv : v.isRef = true) (pc' : Nat) (hp : pc + 1 = pc')
    (K : z_At p l e R s m args below meth c n0 Q h k n (mkF m pc' Ls (v :: st))) : z_At p l e R s m args below meth c n0 Q h k n (mkF m pc Ls st) := by
  subst hp; exact z_of (fun T L X t hr => XS.aloadN X.here C.1 rfl (hb C.2.2.2.1 hd) hl hv hr) K
theorem z_aload (C : z_Cx Z p s m meth c own bytes ml rt nm) {i : Nat} {v : Value} (hd : decode bytes pc = .ok (.aload i, 2)) (hl : Ls[i]? = some (.val v)) (hv : v.isRef = true) (pc' : Nat) (hp : pc + 2 = pc')
    (K : z_At p l e R s m args below meth c n0 Q h k n (mkF m pc' Ls (v :: st))) : z_At p l e R s m args below meth c n0 Q h k n (mkF m pc Ls st) := by
  subst hp; exact z_of (fun T L X t hr => XS.aload X.here C.1 rfl (hb C.2.2.2.1 hd) hl hv hr) K
theorem z_istoreN (C : z_Cx Z p s m meth c own bytes ml rt nm) {i : Fin 4} {v : Int32} (hd : decode bytes pc = .ok (.istore_n i, 1)) (hl : storeLocals Ls i.val (.int v) = some Ls') (pc' : Nat) (hp : pc + 1 = pc')
    (K : z_At p l e R s m args below meth c n0 Q h k n (mkF m pc' Ls' st)) : z_At p l e R s m args below meth c n0 Q h k n (mkF m pc Ls (.int v :: st)) := by
  subst hp; exact z_of (fun T L X t hr => XS.istoreN X.here C.1 rfl (hb C.2.2.2.1 hd) rfl hl hr) K
theorem z_istore (C : z_Cx Z p s m meth c own bytes ml rt nm) {i : Nat} {v : Int32} (hd : decode bytes pc = .ok (.istore i, 2)) (hl : storeLocals Ls i (.int v) = some Ls') (pc' : Nat) (hp : pc + 2 = pc')
    (K : z_At p l e R s m args below meth c n0 Q h k n (mkF m pc' Ls' st)) : z_At p l e R s m args below meth c n0 Q h k n (mkF m pc Ls (.int v :: st)) := by
  subst hp; exact z_of (fun T L X t hr => XS.istore X.here C.1 rfl (hb C.2.2.2.1 hd) rfl hl hr) K
theorem z_astoreN (C : z_Cx Z p s m meth c own bytes ml rt nm) {i : Fin 4} {v : Value} (hd : decode bytes pc = .ok (.astore_n i, 1)) (hv : v.isRef = true) (hl : storeLocals Ls i.val v = some Ls') (pc' : Nat) (hp : pc + 1 = pc')
    (K : z_At p l e R s m args below meth c n0 Q h k n (mkF m pc' Ls' st)) : z_At p l e R s m args below meth c n0 Q h k n (mkF m pc Ls (v :: st)) := by
  subst hp; exact z_of (fun T L X t hr => XS.astoreN X.here C.1 rfl (hb C.2.2.2.1 hd) rfl hv hl hr) K
theorem z_astore (C : z_Cx Z p s m meth c own bytes ml rt nm) {i : Nat} {v : Value} (hd : decode bytes pc = .ok (.astore i, 2)) (hv : v.isRef = true) (hl : storeLocals Ls i v = some Ls') (pc' : Nat) (hp : pc + 2 = pc')
    (K : z_At p l e R s m args below meth c n0 Q h k n (mkF m pc' Ls' st)) : z_At p l e R s m args below meth c n0 Q h k n (mkF m pc Ls (v :: st)) := by
  subst hp; exact z_of (fun T L X t hr => XS.astore X.here C.1 rfl (hb C.2.2.2.1 hd) rfl hv hl hr) K
theorem z_iconst (C : z_Cx Z p s m meth c own bytes ml rt nm) {i : Int} {v : Int32} (hd : decode bytes pc = .ok (.iconst i, 1)) (hv : Int32.ofInt i = v) (pc' : Nat) (hp : pc + 1 = pc')
    (K : z_At p l e R s m args below meth c n0 Q h k n (mkF m pc' Ls (.int v :: st))) : z_At p l e R s m args below meth c n0 Q h k n (mkF m pc Ls st) := by
  subst hp hv; exact z_of (fun T L X t hr => XS.iconst X.here C.1 rfl (hb C.2.2.2.1 hd) hr) K
theorem z_bipush (C : z_Cx Z p s m meth c own bytes ml rt nm) {i : Int} {v : Int32} (hd : decode bytes pc = .ok (.bipush i, 2)) (hv : (Int8.ofInt i).toInt32 = v) (pc' : Nat) (hp : pc + 2 = pc')
    (K : z_At p l e R s m args below meth c n0 Q h k n (mkF m pc' Ls (.int v :: st))) : z_At p l e R s m args below meth c n0 Q h k n (mkF m pc Ls st) := by
  subst hp hv; exact z_of (fun T L X t hr => XS.bipush X.here C.1 rfl (hb C.2.2.2.1 hd) hr) K
theorem z_sipush (C : z_Cx Z p s m meth c own bytes ml rt nm) {i : Int} {v : Int32} (hd : decode bytes pc = .ok (.sipush i, 3)) (hv : (Int16.ofInt i).toInt32 = v) (pc' : Nat) (hp : pc + 3 = pc')
    (K : z_At p l e R s m args below meth c n0 Q h k n (mkF m pc' Ls (.int v :: st))) : z_At p l e R s m args below meth c n0 Q h k n (mkF m pc Ls st) := by
  subst hp hv; exact z_of (fun T L X t hr => XS.sipush X.here C.1 rfl (hb C.2.2.2.1 hd) hr) K
theorem z_aconst_null (C : z_Cx Z p s m meth c own bytes ml rt nm) (hd : decode bytes pc = .ok (.aconst_null, 1)) (pc' : Nat) (hp : pc + 1 = pc')
    (K : z_At p l e R s m args below meth c n0 Q h k n (mkF m pc' Ls (.null :: st))) : z_At p l e R s m args below meth c n0 Q h k n (mkF m pc Ls st) := by
  subst hp; exact z_of (fun T L X t hr => XS.aconstNull X.here C.1 rfl (hb C.2.2.2.1 hd) hr) K
theorem z_ldc (C : z_Cx Z p s m meth c own bytes ml rt nm) {i : Nat} {v : Int32} (w : (Cond.constant own i v).before a0 Z = true) (hd : decode bytes pc = .ok (.ldc i, 2)) (pc' : Nat) (hp : pc + 2 = pc')
    (K : z_At p l e R s m args below meth c n0 Q h k n (mkF m pc' Ls (.int v :: st))) : z_At p l e R s m args below meth c n0 Q h k n (mkF m pc Ls st) := by
  subst hp; exact z_of (fun T L X t hr => X.ldcI C.1 C.2.2.1 (mvT C.2.1 w) rfl (hb C.2.2.2.1 hd) hr) K
theorem z_iadd (C : z_Cx Z p s m meth c own bytes ml rt nm) {x y z : Int32} (hd : decode bytes pc = .ok (.iadd, 1)) (hz : x + y = z) (pc' : Nat) (hp : pc + 1 = pc')
    (K : z_At p l e R s m args below meth c n0 Q h k n (mkF m pc' Ls (.int z :: st))) : z_At p l e R s m args below meth c n0 Q h k n (mkF m pc Ls (.int y :: .int x :: st)) := by
  subst hp hz; exact z_of (fun T L X t hr => XS.iadd X.here C.1 rfl (hb C.2.2.2.1 hd) rfl hr) K
theorem z_isub (C : z_Cx Z p s m meth c own bytes ml rt nm) {x y z : Int32} (hd : decode bytes pc = .ok (.isub, 1)) (hz : x - y = z) (pc' : Nat) (hp : pc + 1 = pc')
    (K : z_At p l e R s m args below meth c n0 Q h k n (mkF m pc' Ls (.int z :: st))) : z_At p l e R s m args below meth c n0 Q h k n (mkF m pc Ls (.int y :: .int x :: st)) := by
  subst hp hz; exact z_of (fun T L X t hr => XS.isub X.here C.1 rfl (hb C.2.2.2.1 hd) rfl hr) K
theorem z_imul (C : z_Cx Z p s m meth c own bytes ml rt nm) {x y z : Int32} (hd : decode bytes pc = .ok (.imul, 1)) (hz : x * y = z) (pc' : Nat) (hp : pc + 1 = pc')
    (K : z_At p l e R s m args below meth c n0 Q h k n (mkF m pc' Ls (.int z :: st))) : z_At p l e R s m args below meth c n0 Q h k n (mkF m pc Ls (.int y :: .int x :: st)) := by
  subst hp hz; exact z_of (fun T L X t hr => XS.imul X.here C.1 rfl (hb C.2.2.2.1 hd) rfl hr) K
theorem z_iand (C : z_Cx Z p s m meth c own bytes ml rt nm) {x y z : Int32} (hd : decode bytes pc = .ok (.iand, 1)) (hz : x &&& y = z) (pc' : Nat) (hp : pc + 1 = pc')
    (K : z_At p l e R s m args below meth c n0 Q h k n (mkF m pc' Ls (.int z :: st))) : z_At p l e R s m args below meth c n0 Q h k n (mkF m pc Ls (.int y :: .int x :: st)) := by
  subst hp hz; exact z_of (fun T L X t hr => XS.iand X.here C.1 rfl (hb C.2.2.2.1 hd) rfl hr) K
theorem z_ixor (C : z_Cx Z p s m meth c own bytes ml rt nm) {x y z : Int32} (hd : decode bytes pc = .ok (.ixor, 1)) (hz : x ^^^ y = z) (pc' : Nat) (hp : pc + 1 = pc')
    (K : z_At p l e R s m args below meth c n0 Q h k n (mkF m pc' Ls (.int z :: st))) : z_At p l e R s m args below meth c n0 Q h k n (mkF m pc Ls (.int y :: .int x :: st)) := by
  subst hp hz; exact z_of (fun T L X t hr => XS.ixor X.here C.1 rfl (hb C.2.2.2.1 hd) rfl hr) K
theorem z_ishr (C : z_Cx Z p s m meth c own bytes ml rt nm) {x y z : Int32} (hd : decode bytes pc = .ok (.ishr, 1)) (hz : x >>> (y &&& 31) = z) (pc' : Nat) (hp : pc + 1 = pc')
    (K : z_At p l e R s m args below meth c n0 Q h k n (mkF m pc' Ls (.int z :: st))) : z_At p l e R s m args below meth c n0 Q h k n (mkF m pc Ls (.int y :: .int x :: st)) := by
  subst hp hz; exact z_of (fun T L X t hr => XS.ishr X.here C.1 rfl (hb C.2.2.2.1 hd) rfl hr) K
theorem z_ishl (C : z_Cx Z p s m meth c own bytes ml rt nm) {x y z : Int32} (hd : decode bytes pc = .ok (.ishl, 1)) (hz : x <<< (y &&& 31) = z) (pc' : Nat) (hp : pc + 1 = pc')
    (K : z_At p l e R s m args below meth c n0 Q h k n (mkF m pc' Ls (.int z :: st))) : z_At p l e R s m args below meth c n0 Q h k n (mkF m pc Ls (.int y :: .int x :: st)) := by
  subst hp hz; exact z_of (fun T L X t hr => XS.ishl X.here C.1 rfl (hb C.2.2.2.1 hd) rfl hr) K
theorem z_ineg (C : z_Cx Z p s m meth c own bytes ml rt nm) {x z : Int32} (hd : decode bytes pc = .ok (.ineg, 1)) (hz : -x = z) (pc' : Nat) (hp : pc + 1 = pc')
    (K : z_At p l e R s m args below meth c n0 Q h k n (mkF m pc' Ls (.int z :: st))) : z_At p l e R s m args below meth c n0 Q h k n (mkF m pc Ls (.int x :: st)) := by
  subst hp hz; exact z_of (fun T L X t hr => XS.ineg X.here C.1 rfl (hb C.2.2.2.1 hd) rfl hr) K
theorem z_i2b (C : z_Cx Z p s m meth c own bytes ml rt nm) {x z : Int32} (hd : decode bytes pc = .ok (.i2b, 1)) (hz : x.toInt8.toInt32 = z) (pc' : Nat) (hp : pc + 1 = pc')
    (K : z_At p l e R s m args below meth c n0 Q h k n (mkF m pc' Ls (.int z :: st))) : z_At p l e R s m args below meth c n0 Q h k n (mkF m pc Ls (.int x :: st)) := by
  subst hp hz; exact z_of (fun T L X t hr => XS.i2b X.here C.1 rfl (hb C.2.2.2.1 hd) rfl hr) K
theorem z_pop (C : z_Cx Z p s m meth c own bytes ml rt nm) {x : Value} (hd : decode bytes pc = .ok (.pop, 1)) (hx : x.category = 1) (pc' : Nat) (hp : pc + 1 = pc')
    (K : z_At p l e R s m args below meth c n0 Q h k n (mkF m pc' Ls st)) : z_At p l e R s m args below meth c n0 Q h k n (mkF m pc Ls (x :: st)) := by
  subst hp; exact z_of (fun T L X t hr => XS.pop X.here C.1 rfl (hb C.2.2.2.1 hd) rfl hx hr) K
theorem z_irem (C : z_Cx Z p s m meth c own bytes ml rt nm) {x y z : Int32} (hd : decode bytes pc = .ok (.irem, 1)) (hy : y ≠ 0) (hz : x % y = z) (pc' : Nat) (hp : pc + 1 = pc')
    (K : z_At p l e R s m args below meth c n0 Q h k n (mkF m pc' Ls (.int z :: st))) : z_At p l e R s m args below meth c n0 Q h k n (mkF m pc Ls (.int y :: .int x :: st)) := by
  subst hp hz; exact z_of (fun T L X t hr => iremM X C.1 rfl (hb C.2.2.2.1 hd) rfl hy hr) K
theorem z_idiv (C : z_Cx Z p s m meth c own bytes ml rt nm) {x y z : Int32} (hd : decode bytes pc = .ok (.idiv, 1)) (hy : y ≠ 0) (hz : x / y = z) (pc' : Nat) (hp : pc + 1 = pc')
    (K : z_At p l e R s m args below meth c n0 Q h k n (mkF m pc' Ls (.int z :: st))) : z_At p l e R s m args below meth c n0 Q h k n (mkF m pc Ls (.int y :: .int x :: st)) := by
  subst hp hz; exact z_of (fun T L X t hr => XS.idiv X.here C.1 rfl (hb C.2.2.2.1 hd) rfl hy hr) K
theorem z_dup (C : z_Cx Z p s m meth c own bytes ml rt nm) {x : Value} (hd : decode bytes pc = .ok (.dup, 1)) (hx : x.category = 1) (pc' : Nat) (hp : pc + 1 = pc')
    (K : z_At p l e R s m args below meth c n0 Q h k n (mkF m pc' Ls (x :: x :: st))) : z_At p l e R s m args below meth c n0 Q h k n (mkF m pc Ls (x :: st)) := by
  subst hp; exact z_of (fun T L X t hr => XS.dup X.here C.1 rfl (hb C.2.2.2.1 hd) rfl hx hr) K
theorem z_iinc (C : z_Cx Z p s m meth c own bytes ml rt nm) {i : Nat} {d : Int} {v w : Int32} (hd : decode bytes pc = .ok (.iinc i d, 3)) (hl : Ls[i]? = some (.val (.int v))) (hw : v + Int32.ofInt d = w) (hs : storeLocals Ls i (.int w) = some Ls') (pc' : Nat) (hp : pc + 3 = pc')
    (K : z_At p l e R s m args below meth c n0 Q h k n (mkF m pc' Ls' st)) : z_At p l e R s m args below meth c n0 Q h k n (mkF m pc Ls st) := by
  subst hp hw; exact z_of (fun T L X t hr => XS.iinc X.here C.1 rfl (hb C.2.2.2.1 hd) hl hs hr) K
theorem z_goto (C : z_Cx Z p s m meth c own bytes ml rt nm) {o : Int} (hd : decode bytes pc = .ok (.goto o, 3)) (ho : 0 ≤ (pc : Int) + o) (pc' : Nat) (hp : ((pc : Int) + o).toNat = pc')
    (K : z_At p l e R s m args below meth c n0 Q h k n (mkF m pc' Ls st)) : z_At p l e R s m args below meth c n0 Q h k n (mkF m pc Ls st) :=
  z_of (fun T L X t hr => XS.goto X.here C.1 rfl (pc0 := pc) rfl (hb C.2.2.2.1 hd) ho hp hr) K
theorem z_ifY (C : z_Cx Z p s m meth c own bytes ml rt nm) {cd : ClassFile.Cond} {x : Int32} {o : Int} (hd : decode bytes pc = .ok (.ifCond cd o, 3)) (hc : ifCond.holds cd x = true) (ho : 0 ≤ (pc : Int) + o) (pc' : Nat) (hp : ((pc : Int) + o).toNat = pc')
    (K : z_At p l e R s m args below meth c n0 Q h k n (mkF m pc' Ls st)) : z_At p l e R s m args below meth c n0 Q h k n (mkF m pc Ls (.int x :: st)) :=
  z_of (fun T L X t hr => XS.ifYes X.here C.1 rfl (pc0 := pc) rfl (hb C.2.2.2.1 hd) rfl hc ho hp hr) K
theorem z_ifN (C : z_Cx Z p s m meth c own bytes ml rt nm) {cd : ClassFile.Cond} {x : Int32} {o : Int} (hd : decode bytes pc = .ok (.ifCond cd o, 3)) (hc : ifCond.holds cd x = false) (pc' : Nat) (hp : pc + 3 = pc')
    (K : z_At p l e R s m args below meth c n0 Q h k n (mkF m pc' Ls st)) : z_At p l e R s m args below meth c n0 Q h k n (mkF m pc Ls (.int x :: st)) := by
  subst hp; exact z_of (fun T L X t hr => XS.ifNo X.here C.1 rfl (hb C.2.2.2.1 hd) rfl hc hr) K
theorem z_icmpY (C : z_Cx Z p s m meth c own bytes ml rt nm) {cd : ClassFile.Cond} {x y : Int32} {o : Int} (hd : decode bytes pc = .ok (.if_icmp cd o, 3)) (hc : if_icmp.holds cd x y = true) (ho : 0 ≤ (pc : Int) + o) (pc' : Nat) (hp : ((pc : Int) + o).toNat = pc')
    (K : z_At p l e R s m args below meth c n0 Q h k n (mkF m pc' Ls st)) : z_At p l e R s m args below meth c n0 Q h k n (mkF m pc Ls (.int y :: .int x :: st)) :=
  z_of (fun T L X t hr => XS.icmpYes X.here C.1 rfl (pc0 := pc) rfl (hb C.2.2.2.1 hd) rfl hc ho hp hr) K
theorem z_icmpN (C : z_Cx Z p s m meth c own bytes ml rt nm) {cd : ClassFile.Cond} {x y : Int32} {o : Int} (hd : decode bytes pc = .ok (.if_icmp cd o, 3)) (hc : if_icmp.holds cd x y = false) (pc' : Nat) (hp : pc + 3 = pc')
    (K : z_At p l e R s m args below meth c n0 Q h k n (mkF m pc' Ls st)) : z_At p l e R s m args below meth c n0 Q h k n (mkF m pc Ls (.int y :: .int x :: st)) := by
  subst hp; exact z_of (fun T L X t hr => XS.icmpNo X.here C.1 rfl (hb C.2.2.2.1 hd) rfl hc hr) K
theorem z_acmp (C : z_Cx Z p s m meth c own bytes ml rt nm) {cd : ACond} {x y : Value} {o : Int} {same : Bool} (hd : decode bytes pc = .ok (.if_acmp cd o, 3)) (h1 : x.isRef = true) (h2 : y.isRef = true) (hq : decide (x = y) = same) (ho : 0 ≤ (pc : Int) + o) (pc' : Nat) (hp : pc' = if acV cd same = true then ((pc : Int) + o).toNat else pc + 3)
    (K : z_At p l e R s m args below meth c n0 Q h k n (mkF m pc' Ls st)) : z_At p l e R s m args below meth c n0 Q h k n (mkF m pc Ls (y :: x :: st)) :=
  z_of (fun T L X t hr => RoadKit.acmp (g := mkF m pc Ls (y :: x :: st)) X C.1 rfl h1 h2 (pc0 := pc) rfl (hb C.2.2.2.1 hd) rfl hq ho hp hr) K
theorem z_same (a : Addr) : decide ((Value.ref a) = .ref a) = true := decide_eq_true rfl
theorem z_unlike {a b : Addr} (q : a ≠ b) : decide ((Value.ref a) = .ref b) = false := decide_eq_false fun z => q (Value.ref.inj z)
theorem z_nullY (C : z_Cx Z p s m meth c own bytes ml rt nm) {o : Int} (hd : decode bytes pc = .ok (.ifnull o, 3)) (ho : 0 ≤ (pc : Int) + o) (pc' : Nat) (hp : ((pc : Int) + o).toNat = pc')
    (K : z_At p l e R s m args below meth c n0 Q h k n (mkF m pc' Ls st)) : z_At p l e R s m args below meth c n0 Q h k n (mkF m pc Ls (.null :: st)) :=
  z_of (fun T L X t hr => XS.ifnullYes X.here C.1 rfl (pc0 := pc) rfl (hb C.2.2.2.1 hd) rfl ho hp hr) K
theorem z_nullN (C : z_Cx Z p s m meth c own bytes ml rt nm) {o : Int} {a : Addr} (hd : decode bytes pc = .ok (.ifnull o, 3)) (pc' : Nat) (hp : pc + 3 = pc')
    (K : z_At p l e R s m args below meth c n0 Q h k n (mkF m pc' Ls st)) : z_At p l e R s m args below meth c n0 Q h k n (mkF m pc Ls (.ref a :: st)) := by
  subst hp; exact z_of (fun T L X t hr => XS.ifnullNo X.here C.1 rfl (hb C.2.2.2.1 hd) rfl hr) K
theorem z_nonnullY (C : z_Cx Z p s m meth c own bytes ml rt nm) {o : Int} {a : Addr} (hd : decode bytes pc = .ok (.ifnonnull o, 3)) (ho : 0 ≤ (pc : Int) + o) (pc' : Nat) (hp : ((pc : Int) + o).toNat = pc')
    (K : z_At p l e R s m args below meth c n0 Q h k n (mkF m pc' Ls st)) : z_At p l e R s m args below meth c n0 Q h k n (mkF m pc Ls (.ref a :: st)) :=
  z_of (fun T L X t hr => XS.ifnonnullYes X.here C.1 rfl (pc0 := pc) rfl (hb C.2.2.2.1 hd) rfl ho hp hr) K
theorem z_nonnullN (C : z_Cx Z p s m meth c own bytes ml rt nm) {o : Int} (hd : decode bytes pc = .ok (.ifnonnull o, 3)) (pc' : Nat) (hp : pc + 3 = pc')
    (K : z_At p l e R s m args below meth c n0 Q h k n (mkF m pc' Ls st)) : z_At p l e R s m args below meth c n0 Q h k n (mkF m pc Ls (.null :: st)) := by
  subst hp; exact z_of (fun T L X t hr => XS.ifnonnullNo X.here C.1 rfl (hb C.2.2.2.1 hd) rfl hr) K
/-! ### reads and writes -/
theorem z_getstatic (C : z_Cx Z p s m meth c own bytes ml rt nm) {O f d : String} {i : Nat} {v : Value} (w : (Cond.fieldLink own i O f d).before a0 Z = true) (F : Sta Z h O f d v) (hd : decode bytes pc = .ok (.getstatic i, 3)) (pc' : Nat) (hp : pc + 3 = pc')
    (K : z_At p l e R s m args below meth c n0 Q h k n (mkF m pc' Ls (v :: st))) : z_At p l e R s m args below meth c n0 Q h k n (mkF m pc Ls st) := by
  subst hp
  intro T L X N eT
  obtain ⟨T', X', e', stp⟩ := getS2 X C.1 C.2.1 C.2.2.1 (host := "") (Or.inl w) Via.refl eT F (g := mkF m pc Ls st) rfl (hb C.2.2.2.1 hd)
  exact z_via stp (K T' L X' N e')
theorem z_getfield (C : z_Cx Z p s m meth c own bytes ml rt nm) {R0 O f d : String} {i : Nat} {a : Addr} {v : Value} (w : (Cond.fieldLink own i R0 f d).before a0 Z = true) (via : Via Z R0 O f d) (F : Fld Z h a O f d v) (hd : decode bytes pc = .ok (.getfield i, 3)) (pc' : Nat) (hp : pc + 3 = pc')
    (K : z_At p l e R s m args below meth c n0 Q h k n (mkF m pc' Ls (v :: st))) : z_At p l e R s m args below meth c n0 Q h k n (mkF m pc Ls (.ref a :: st)) := by
  subst hp
  intro T L X N eT
  obtain ⟨T', X', e', stp⟩ := getF X C.1 C.2.1 C.2.2.1 (host := "") (Or.inl w) via eT F (g := mkF m pc Ls (.ref a :: st)) rfl rfl (hb C.2.2.2.1 hd)
  exact z_via stp (K T' L X' N e')
/-! ### returns -/
theorem z_back (C : z_Cx Z p s m meth c own bytes ml rt nm) {v : Option Value} (hv : rt = none → v = none) (hk : k ≤ R.cells) (hn : n ≤ R.slots) (hQ : Q v h)
    (H : ∀ T L, Stand p l e R s m args below meth c T L k n → ∀ fs, (∀ (f : JFrame) (acts : List Action), f.method = m → f.locked = none → f.entered = [] → (doReturn e (T.setTop f) acts v).1 = T.setFrames fs) → Steps p.tables e below (T.setTop f) (T.setFrames fs)) :
    z_At p l e R s m args below meth c n0 Q h k n f := by
  intro T L X N eT
  obtain ⟨fs, hr, hrun, hended, hW, hsame⟩ := X.leave (v := v) (fun q => hv (C.2.2.2.2.2.1.symm.trans q)) C.2.2.2.2.2.2.1
  exact ⟨_, _, H T L X fs hr, hrun, hended, _, _, rfl, ⟨by show Q v T.heap; rw [eT]; exact hQ, N⟩, ⟨_, rfl⟩, hW, hsame.mono hk hn⟩
theorem z_ireturn {t : FieldType} (C : z_Cx Z p s m meth c own bytes ml (some t) nm) {z : Int32} (ht : t = .int ∨ t = .boolean ∨ t = .byte ∨ t = .char ∨ t = .short) (hn : narrow t (.int z) = .int z) (hd : decode bytes pc = .ok (.ireturn, 1)) (hk : k ≤ R.cells) (hs : n ≤ R.slots) (hQ : Q (some (.int z)) h) :
    z_At p l e R s m args below meth c n0 Q h k n (mkF m pc Ls (.int z :: st)) :=
  z_back C (fun q => nomatch q) hk hs hQ fun T L X fs hr => retOut X C.1 C.2.2.2.2.2.1 hn (Or.inl ⟨rfl, ht, _, rfl⟩) (hb C.2.2.2.1 hd) hr
theorem z_dreturn (C : z_Cx Z p s m meth c own bytes ml (some .double) nm) {z : UInt64} (hd : decode bytes pc = .ok (.dreturn, 1)) (hk : k ≤ R.cells) (hs : n ≤ R.slots) (hQ : Q (some (.double z)) h) :
    z_At p l e R s m args below meth c n0 Q h k n (mkF m pc Ls (.double z :: st)) :=
  z_back C (fun q => nomatch q) hk hs hQ fun T L X fs hr => retOut X C.1 C.2.2.2.2.2.1 rfl (Or.inr (Or.inr (Or.inl ⟨rfl, rfl, _, rfl⟩))) (hb C.2.2.2.1 hd) hr
theorem z_areturn {t : FieldType} (C : z_Cx Z p s m meth c own bytes ml (some t) nm) {v : Value} (ht : t.isReference = true) (hv : v.isRef = true) (hd : decode bytes pc = .ok (.areturn, 1)) (hk : k ≤ R.cells) (hs : n ≤ R.slots) (hQ : Q (some v) h) :
    z_At p l e R s m args below meth c n0 Q h k n (mkF m pc Ls (v :: st)) :=
  z_back C (fun q => nomatch q) hk hs hQ fun T L X fs hr => retOut X C.1 C.2.2.2.2.2.1 (by cases t <;> simp [FieldType.isReference] at ht <;> cases v <;> simp [Value.isRef] at hv <;> rfl) (Or.inr (Or.inr (Or.inr (Or.inr ⟨rfl, ht, hv⟩)))) (hb C.2.2.2.1 hd) hr
theorem z_return (C : z_Cx Z p s m meth c own bytes ml none nm) (hd : decode bytes pc = .ok (.return_, 1)) (hk : k ≤ R.cells) (hs : n ≤ R.slots) (hQ : Q none h) :
    z_At p l e R s m args below meth c n0 Q h k n (mkF m pc Ls []) :=
  z_back C (fun _ => rfl) hk hs hQ fun T L X fs hr => X.returnOut C.1 C.2.2.2.2.2.1 (hb C.2.2.2.1 hd) hr
/-! ### contracts and calls -/
def z_Met (l : Launch) (Z : State) (y : MethodName) (bytes : ByteArray) (maxL : Nat) (rt : Option FieldType) (ws : List Jvm.Cond) (rm : Room) (n0 : Nat) (as' : Array Value) (h : Heap) (Q : Option Value → Heap → Prop) : Prop :=
  MetFree l y (head1 (Jvm.Cond.code y bytes maxL rt :: ws) rm) (fun a U => a = as' ∧ Z.Warmed39 U.vm ∧ U.heap = h) (fun _ _ _ _ _ => True) (fun _ U o U' => ∃ v L, o = .returned v ∧ (Q v U'.heap ∧ Fr n0 L) ∧ FrameEnd U o U' L rm.cells rm.slots)
def z_val (P : Value → Heap → Prop) (v : Option Value) (h : Heap) : Prop := ∃ w, v = some w ∧ P w h
def z_nov (P : Heap → Prop) (v : Option Value) (h : Heap) : Prop := v = none ∧ P h
theorem z_met {y : MethodName} {ws : List Jvm.Cond} {rm : Room} {as' : Array Value} (hy : plainFor y = true) (hf : Jvm.Sym.laidSlots as'.toList ++ List.replicate (ml - (Jvm.Sym.laidSlots as'.toList).length) .unset = Ls.toList)
    (H : ∀ p e s m below meth c, z_Cx Z p s m meth c y.cls bytes ml rt y.name → z_At p l e rm s m as' below meth c n0 Q h 0 0 (mkF m 0 Ls [])) : z_Met l Z y bytes ml rt ws rm n0 as' h Q := by
  refine MetFree.of_bodySF hy hisR ?_
  intro p e s m args below meth c s₁ Bd hml0 hP hK
  obtain ⟨rfl, hZ, hh⟩ := hP
  have X0 : Stand p l e rm s m _ below meth c s₁ [] 0 0 := Stand.of_body Bd
  have e0 : s₁.heap = h := by rw [← hh, Bd.state]; rfl
  have K := H p e s m below meth c ⟨Bd.exec, hZ, findClass_of_methodNamed Bd.named, Bd.bytes, hml0, Bd.returns, Bd.notSynchronized, (name_of_methodNamed Bd.named Bd.method).1⟩ s₁ [] X0 (Fr.nil n0) e0
  have hq : argsToLocals args ml = Ls := Array.toList_inj.mp (by rw [Jvm.Sym.argsToLocals_toList]; exact hf)
  have hq2 : entryFrame m args ml = mkF m 0 (argsToLocals args ml) [] := rfl
  rw [hq2, hq]
  exact K
/-- it returns v and leaves the heap as it was -/
def z_pure (v : Value) (h : Heap) (u : Option Value) (h' : Heap) : Prop := u = some v ∧ h' = h
section Calls
variable {y : MethodName} {bytes' : ByteArray} {maxL' : Nat} {rt' : Option FieldType} {rm : Room} {argsL : List Value} {W i : Nat} {P : Value → Heap → Prop} {P0 : Heap → Prop}
theorem z_callS0 {Q' : Option Value → Heap → Prop} (C : z_Cx Z p s m meth c own bytes ml rt nm) (M : z_Met l Z y bytes' maxL' rt' [] rm n0 argsL.toArray h Q') (w1 : (Cond.methodLink own i y).before a0 Z = true) (w2 : (Cond.static y).before a0 Z = true) (w3 : (Cond.initialized y.cls).before a0 Z = true) (w4 : (Cond.code y bytes' maxL' rt').before a0 Z = true)
    (hy : y.cls ≠ "java/lang/invoke/MethodHandle" ∧ y.cls ≠ "java/lang/invoke/VarHandle") (hd : decode bytes pc = .ok (.invokestatic i, 3)) (hs : Ls.size = ml) (hst : st = argsL.reverse ++ rest) (hlen : ∀ sig, parseMethodDescriptor y.desc = some sig → argsL.length = sig.parameters.length) (hW : (rest.map fun v => v.category).sum ≤ W) (hf : rm.frames + 1 ≤ R.frames) (hl : W + (maxL' + 11) + rm.locals ≤ R.locals) (hc : k + rm.cells ≤ R.cells) (hn : n + rm.slots ≤ R.slots) (pc' : Nat) (hp : pc + 3 = pc')
    (K : ∀ v h', Q' v h' → z_At p l e R s m args below meth c n0 Q h' (k + rm.cells) (n + rm.slots) (mkF m pc' Ls (v.toList ++ rest))) : z_At p l e R s m args below meth c n0 Q h k n (mkF m pc Ls st) := by
  subst hp
  intro T L X N eT
  obtain ⟨v, _, ⟨T', L', k', n'⟩, -, X', ⟨Lc, ⟨hQ, N'⟩, l', y', z'⟩, stp⟩ := Jvm.LawKit.callS X C.1 (y := y) C.2.2.1 (mvT C.2.1 w1) (mvT C.2.1 w2) (mvT C.2.1 w3) (mvT C.2.1 w4) hy
    (backOf (Q := fun v h' L => Q' v h' ∧ Fr n0 L) (len := 3) (W := W) (p := p) (e := e) (below := below) (args := args) M C.2.1 w4 w3 hf hl) (g := mkF m pc Ls st) rfl (hs.trans C.2.2.2.2.1.symm) (argsL := argsL) (rest := rest) hlen hst (by show 2 * 0 + _ ≤ _; omega) (hb C.2.2.2.1 hd) (fun _ _ => ⟨rfl, eT, hc, hn⟩)
  dsimp only [Pt.U, Pt.locs, Pt.cells, Pt.slots] at X' l' y' z' stp hQ
  subst l' y' z'
  exact z_via stp (K v _ hQ T' _ X' (Fr.app N N') rfl)
theorem z_callS (C : z_Cx Z p s m meth c own bytes ml rt nm) (M : z_Met l Z y bytes' maxL' rt' [] rm n0 argsL.toArray h  (z_val P)) (w1 : (Cond.methodLink own i y).before a0 Z = true) (w2 : (Cond.static y).before a0 Z = true) (w3 : (Cond.initialized y.cls).before a0 Z = true) (w4 : (Cond.code y bytes' maxL' rt').before a0 Z = true)
    (hy : y.cls ≠ "java/lang/invoke/MethodHandle" ∧ y.cls ≠ "java/lang/invoke/VarHandle") (hd : decode bytes pc = .ok (.invokestatic i, 3)) (hs : Ls.size = ml) (hst : st = argsL.reverse ++ rest) (hlen : ∀ sig, parseMethodDescriptor y.desc = some sig → argsL.length = sig.parameters.length) (hW : (rest.map fun v => v.category).sum ≤ W) (hf : rm.frames + 1 ≤ R.frames) (hl : W + (maxL' + 11) + rm.locals ≤ R.locals) (hc : k + rm.cells ≤ R.cells) (hn : n + rm.slots ≤ R.slots) (pc' : Nat) (hp : pc + 3 = pc')
    (K : ∀ w h', P w h' → z_At p l e R s m args below meth c n0 Q h' (k + rm.cells) (n + rm.slots) (mkF m pc' Ls (w :: rest))) : z_At p l e R s m args below meth c n0 Q h k n (mkF m pc Ls st) :=
  z_callS0 C M w1 w2 w3 w4 hy hd hs hst hlen hW hf hl hc hn _ hp (by rintro _ h' ⟨w, rfl, q⟩; exact K w h' q)
theorem z_callSp {v : Value} (C : z_Cx Z p s m meth c own bytes ml rt nm) (M : z_Met l Z y bytes' maxL' rt' [] rm n0 argsL.toArray h  (z_pure v h)) (w1 : (Cond.methodLink own i y).before a0 Z = true) (w2 : (Cond.static y).before a0 Z = true) (w3 : (Cond.initialized y.cls).before a0 Z = true) (w4 : (Cond.code y bytes' maxL' rt').before a0 Z = true)
    (hy : y.cls ≠ "java/lang/invoke/MethodHandle" ∧ y.cls ≠ "java/lang/invoke/VarHandle") (hd : decode bytes pc = .ok (.invokestatic i, 3)) (hs : Ls.size = ml) (hst : st = argsL.reverse ++ rest) (hlen : ∀ sig, parseMethodDescriptor y.desc = some sig → argsL.length = sig.parameters.length) (hW : (rest.map fun v => v.category).sum ≤ W) (hf : rm.frames + 1 ≤ R.frames) (hl : W + (maxL' + 11) + rm.locals ≤ R.locals) (hc : rm.cells = 0) (hn : rm.slots = 0) (hk : k ≤ R.cells) (hk' : n ≤ R.slots) (pc' : Nat) (hp : pc + 3 = pc')
    (K : z_At p l e R s m args below meth c n0 Q h k n (mkF m pc' Ls (v :: rest))) : z_At p l e R s m args below meth c n0 Q h k n (mkF m pc Ls st) :=
  z_callS0 C M w1 w2 w3 w4 hy hd hs hst hlen hW hf hl (by rw [hc]; exact hk) (by rw [hn]; exact hk') _ hp (by rintro _ h' ⟨rfl, rfl⟩; rw [hc, hn]; exact K)
theorem z_callSV (C : z_Cx Z p s m meth c own bytes ml rt nm) (M : z_Met l Z y bytes' maxL' rt' [] rm n0 argsL.toArray h  (z_nov P0)) (w1 : (Cond.methodLink own i y).before a0 Z = true) (w2 : (Cond.static y).before a0 Z = true) (w3 : (Cond.initialized y.cls).before a0 Z = true) (w4 : (Cond.code y bytes' maxL' rt').before a0 Z = true)
    (hy : y.cls ≠ "java/lang/invoke/MethodHandle" ∧ y.cls ≠ "java/lang/invoke/VarHandle") (hd : decode bytes pc = .ok (.invokestatic i, 3)) (hs : Ls.size = ml) (hst : st = argsL.reverse ++ rest) (hlen : ∀ sig, parseMethodDescriptor y.desc = some sig → argsL.length = sig.parameters.length) (hW : (rest.map fun v => v.category).sum ≤ W) (hf : rm.frames + 1 ≤ R.frames) (hl : W + (maxL' + 11) + rm.locals ≤ R.locals) (hc : k + rm.cells ≤ R.cells) (hn : n + rm.slots ≤ R.slots) (pc' : Nat) (hp : pc + 3 = pc')
    (K : ∀ h', P0 h' → z_At p l e R s m args below meth c n0 Q h' (k + rm.cells) (n + rm.slots) (mkF m pc' Ls rest)) : z_At p l e R s m args below meth c n0 Q h k n (mkF m pc Ls st) :=
  z_callS0 C M w1 w2 w3 w4 hy hd hs hst hlen hW hf hl hc hn _ hp (by rintro _ h' ⟨rfl, q⟩; exact K h' q)
theorem z_callV0 {Q' : Option Value → Heap → Prop} {a : Addr} {Cn : String} (C : z_Cx Z p s m meth c own bytes ml rt nm) (E : Exa Z h a Cn) (M : z_Met l Z y bytes' maxL' rt' [] rm n0 (Value.ref a :: argsL).toArray h Q') (w1 : (Cond.methodLink own i y).before a0 Z = true) (w2 : (Cond.declares y).before a0 Z = true) (w5 : (Cond.selects Cn y y).before a0 Z = true) (w6 : (Cond.instanceMethod y).before a0 Z = true) (w3 : (Cond.initialized y.cls).before a0 Z = true) (w4 : (Cond.code y bytes' maxL' rt').before a0 Z = true)
    (hy : y.cls ≠ "java/lang/invoke/MethodHandle" ∧ y.cls ≠ "java/lang/invoke/VarHandle") (hd : decode bytes pc = .ok (.invokevirtual i, 3)) (hs : Ls.size = ml) (hst : st = argsL.reverse ++ .ref a :: rest) (hlen : ∀ sig, parseMethodDescriptor y.desc = some sig → argsL.length = sig.parameters.length) (hW : (rest.map fun v => v.category).sum ≤ W) (hf : rm.frames + 1 ≤ R.frames) (hl : W + (maxL' + 11) + rm.locals ≤ R.locals) (hc : k + rm.cells ≤ R.cells) (hn : n + rm.slots ≤ R.slots) (pc' : Nat) (hp : pc + 3 = pc')
    (K : ∀ v h', Q' v h' → z_At p l e R s m args below meth c n0 Q h' (k + rm.cells) (n + rm.slots) (mkF m pc' Ls (v.toList ++ rest))) : z_At p l e R s m args below meth c n0 Q h k n (mkF m pc Ls st) := by
  subst hp
  intro T L X N eT
  obtain ⟨cq, kq, qa, qb, qc⟩ := isOf C.2.1 eT E
  obtain ⟨v, _, ⟨T', L', k', n'⟩, -, X', ⟨Lc, ⟨hQ, N'⟩, l', y', z'⟩, stp⟩ := X.virtualBack C.1 (y := y) (z := y) C.2.2.1 (mvT C.2.1 w1) (mvT C.2.1 w2) (notFace_of_selects (args := #[]) (mvT C.2.1 w5)) (mvT C.2.1 w5) (mvT C.2.1 w6) hy
    (backOf (Q := fun v h' L => Q' v h' ∧ Fr n0 L) (len := 3) (W := W) (p := p) (e := e) (below := below) (args := args) M C.2.1 w4 w3 hf hl) qa qc (g := mkF m pc Ls st) rfl (hs.trans C.2.2.2.2.1.symm) (Steps.refl _) (argsL := argsL) (rest := rest) hlen hst (by show 2 * 0 + _ ≤ _; omega) (hb C.2.2.2.1 hd) (fun _ _ => ⟨rfl, eT, hc, hn⟩)
  dsimp only [Pt.U, Pt.locs, Pt.cells, Pt.slots] at X' l' y' z' stp hQ
  subst l' y' z'
  exact z_via (fun t q => stp.trans q) (K v _ hQ T' _ X' (Fr.app N N') rfl)
theorem z_callV {a : Addr} {Cn : String} (C : z_Cx Z p s m meth c own bytes ml rt nm) (E : Exa Z h a Cn) (M : z_Met l Z y bytes' maxL' rt' [] rm n0 (Value.ref a :: argsL).toArray h  (z_val P)) (w1 : (Cond.methodLink own i y).before a0 Z = true) (w2 : (Cond.declares y).before a0 Z = true) (w5 : (Cond.selects Cn y y).before a0 Z = true) (w6 : (Cond.instanceMethod y).before a0 Z = true) (w3 : (Cond.initialized y.cls).before a0 Z = true) (w4 : (Cond.code y bytes' maxL' rt').before a0 Z = true)
    (hy : y.cls ≠ "java/lang/invoke/MethodHandle" ∧ y.cls ≠ "java/lang/invoke/VarHandle") (hd : decode bytes pc = .ok (.invokevirtual i, 3)) (hs : Ls.size = ml) (hst : st = argsL.reverse ++ .ref a :: rest) (hlen : ∀ sig, parseMethodDescriptor y.desc = some sig → argsL.length = sig.parameters.length) (hW : (rest.map fun v => v.category).sum ≤ W) (hf : rm.frames + 1 ≤ R.frames) (hl : W + (maxL' + 11) + rm.locals ≤ R.locals) (hc : k + rm.cells ≤ R.cells) (hn : n + rm.slots ≤ R.slots) (pc' : Nat) (hp : pc + 3 = pc')
    (K : ∀ w h', P w h' → z_At p l e R s m args below meth c n0 Q h' (k + rm.cells) (n + rm.slots) (mkF m pc' Ls (w :: rest))) : z_At p l e R s m args below meth c n0 Q h k n (mkF m pc Ls st) :=
  z_callV0 C E M w1 w2 w5 w6 w3 w4 hy hd hs hst hlen hW hf hl hc hn _ hp (by rintro _ h' ⟨w, rfl, q⟩; exact K w h' q)
theorem z_callVp {v : Value} {a : Addr} {Cn : String} (C : z_Cx Z p s m meth c own bytes ml rt nm) (E : Exa Z h a Cn) (M : z_Met l Z y bytes' maxL' rt' [] rm n0 (Value.ref a :: argsL).toArray h  (z_pure v h)) (w1 : (Cond.methodLink own i y).before a0 Z = true) (w2 : (Cond.declares y).before a0 Z = true) (w5 : (Cond.selects Cn y y).before a0 Z = true) (w6 : (Cond.instanceMethod y).before a0 Z = true) (w3 : (Cond.initialized y.cls).before a0 Z = true) (w4 : (Cond.code y bytes' maxL' rt').before a0 Z = true)
    (hy : y.cls ≠ "java/lang/invoke/MethodHandle" ∧ y.cls ≠ "java/lang/invoke/VarHandle") (hd : decode bytes pc = .ok (.invokevirtual i, 3)) (hs : Ls.size = ml) (hst : st = argsL.reverse ++ .ref a :: rest) (hlen : ∀ sig, parseMethodDescriptor y.desc = some sig → argsL.length = sig.parameters.length) (hW : (rest.map fun v => v.category).sum ≤ W) (hf : rm.frames + 1 ≤ R.frames) (hl : W + (maxL' + 11) + rm.locals ≤ R.locals) (hc : rm.cells = 0) (hn : rm.slots = 0) (hk : k ≤ R.cells) (hk' : n ≤ R.slots) (pc' : Nat) (hp : pc + 3 = pc')
    (K : z_At p l e R s m args below meth c n0 Q h k n (mkF m pc' Ls (v :: rest))) : z_At p l e R s m args below meth c n0 Q h k n (mkF m pc Ls st) :=
  z_callV0 C E M w1 w2 w5 w6 w3 w4 hy hd hs hst hlen hW hf hl (by rw [hc]; exact hk) (by rw [hn]; exact hk') _ hp (by rintro _ h' ⟨rfl, rfl⟩; rw [hc, hn]; exact K)
theorem z_callVV {a : Addr} {Cn : String} (C : z_Cx Z p s m meth c own bytes ml rt nm) (E : Exa Z h a Cn) (M : z_Met l Z y bytes' maxL' rt' [] rm n0 (Value.ref a :: argsL).toArray h  (z_nov P0)) (w1 : (Cond.methodLink own i y).before a0 Z = true) (w2 : (Cond.declares y).before a0 Z = true) (w5 : (Cond.selects Cn y y).before a0 Z = true) (w6 : (Cond.instanceMethod y).before a0 Z = true) (w3 : (Cond.initialized y.cls).before a0 Z = true) (w4 : (Cond.code y bytes' maxL' rt').before a0 Z = true)
    (hy : y.cls ≠ "java/lang/invoke/MethodHandle" ∧ y.cls ≠ "java/lang/invoke/VarHandle") (hd : decode bytes pc = .ok (.invokevirtual i, 3)) (hs : Ls.size = ml) (hst : st = argsL.reverse ++ .ref a :: rest) (hlen : ∀ sig, parseMethodDescriptor y.desc = some sig → argsL.length = sig.parameters.length) (hW : (rest.map fun v => v.category).sum ≤ W) (hf : rm.frames + 1 ≤ R.frames) (hl : W + (maxL' + 11) + rm.locals ≤ R.locals) (hc : k + rm.cells ≤ R.cells) (hn : n + rm.slots ≤ R.slots) (pc' : Nat) (hp : pc + 3 = pc')
    (K : ∀ h', P0 h' → z_At p l e R s m args below meth c n0 Q h' (k + rm.cells) (n + rm.slots) (mkF m pc' Ls rest)) : z_At p l e R s m args below meth c n0 Q h k n (mkF m pc Ls st) :=
  z_callV0 C E M w1 w2 w5 w6 w3 w4 hy hd hs hst hlen hW hf hl hc hn _ hp (by rintro _ h' ⟨rfl, q⟩; exact K h' q)
theorem z_callF0 {Q' : Option Value → Heap → Prop} {a : Addr} {Cn : String} {z : MethodName} {cnt : Nat} (C : z_Cx Z p s m meth c own bytes ml rt nm) (E : Exa Z h a Cn) (M : z_Met l Z z bytes' maxL' rt' [] rm n0 (Value.ref a :: argsL).toArray h Q') (w1 : (Cond.methodLink own i y).before a0 Z = true) (w2 : (Cond.declares y).before a0 Z = true) (w7 : (Cond.interfaceMethod y.cls y.cls y.name y.desc).before a0 Z = true) (w5 : (Cond.selects Cn y z).before a0 Z = true) (w6 : (Cond.instanceMethod z).before a0 Z = true) (w8 : (Cond.publicMethod z).before a0 Z = true) (w9 : (Cond.unhidden Cn y.name y.desc).before a0 Z = true) (w10 : (Cond.castable Cn y.cls).before a0 Z = true) (w3 : (Cond.initialized z.cls).before a0 Z = true) (w4 : (Cond.code z bytes' maxL' rt').before a0 Z = true)
    (hy : y.cls ≠ "java/lang/invoke/MethodHandle" ∧ y.cls ≠ "java/lang/invoke/VarHandle") (hd : decode bytes pc = .ok (.invokeinterface i cnt, 5)) (hs : Ls.size = ml) (hst : st = argsL.reverse ++ .ref a :: rest) (hlen : ∀ sig, parseMethodDescriptor y.desc = some sig → argsL.length = sig.parameters.length) (hW : (rest.map fun v => v.category).sum ≤ W) (hf : rm.frames + 1 ≤ R.frames) (hl : W + (maxL' + 11) + rm.locals ≤ R.locals) (hc : k + rm.cells ≤ R.cells) (hn : n + rm.slots ≤ R.slots) (pc' : Nat) (hp : pc + 5 = pc')
    (K : ∀ v h', Q' v h' → z_At p l e R s m args below meth c n0 Q h' (k + rm.cells) (n + rm.slots) (mkF m pc' Ls (v.toList ++ rest))) : z_At p l e R s m args below meth c n0 Q h k n (mkF m pc Ls st) := by
  subst hp
  intro T L X N eT
  obtain ⟨cq, kq, qa, qb, qc⟩ := isOf C.2.1 eT E
  obtain ⟨v, _, ⟨T', L', k', n'⟩, -, X', ⟨Lc, ⟨hQ, N'⟩, l', y', z'⟩, stp⟩ := X.interfaceBack C.1 (xi := y) (y := z) C.2.2.1 (mvT C.2.1 w1) (mvT C.2.1 w2) (mvT C.2.1 w7 (by simp [Cond.onTables, Cond.keepsFace, Cond.keeps, Cond.steady, Cond.faceAtom, hy.1, hy.2])) (mvT C.2.1 w5) (mvT C.2.1 w6) (mvT C.2.1 w8) (mvT C.2.1 w9) (mvT C.2.1 w10) hy
    (backOf (Q := fun v h' L => Q' v h' ∧ Fr n0 L) (len := 5) (W := W) (p := p) (e := e) (below := below) (args := args) M C.2.1 w4 w3 hf hl) qa qb qc (g := mkF m pc Ls st) rfl (hs.trans C.2.2.2.2.1.symm) (Steps.refl _) (argsL := argsL) (rest := rest) hlen hst (by show 2 * 0 + _ ≤ _; omega) (hb C.2.2.2.1 hd) (fun _ _ => ⟨rfl, eT, hc, hn⟩)
  dsimp only [Pt.U, Pt.locs, Pt.cells, Pt.slots] at X' l' y' z' stp hQ
  subst l' y' z'
  exact z_via (fun t q => stp.trans q) (K v _ hQ T' _ X' (Fr.app N N') rfl)
theorem z_callF {a : Addr} {Cn : String} {z : MethodName} {cnt : Nat} (C : z_Cx Z p s m meth c own bytes ml rt nm) (E : Exa Z h a Cn) (M : z_Met l Z z bytes' maxL' rt' [] rm n0 (Value.ref a :: argsL).toArray h  (z_val P)) (w1 : (Cond.methodLink own i y).before a0 Z = true) (w2 : (Cond.declares y).before a0 Z = true) (w7 : (Cond.interfaceMethod y.cls y.cls y.name y.desc).before a0 Z = true) (w5 : (Cond.selects Cn y z).before a0 Z = true) (w6 : (Cond.instanceMethod z).before a0 Z = true) (w8 : (Cond.publicMethod z).before a0 Z = true) (w9 : (Cond.unhidden Cn y.name y.desc).before a0 Z = true) (w10 : (Cond.castable Cn y.cls).before a0 Z = true) (w3 : (Cond.initialized z.cls).before a0 Z = true) (w4 : (Cond.code z bytes' maxL' rt').before a0 Z = true)
    (hy : y.cls ≠ "java/lang/invoke/MethodHandle" ∧ y.cls ≠ "java/lang/invoke/VarHandle") (hd : decode bytes pc = .ok (.invokeinterface i cnt, 5)) (hs : Ls.size = ml) (hst : st = argsL.reverse ++ .ref a :: rest) (hlen : ∀ sig, parseMethodDescriptor y.desc = some sig → argsL.length = sig.parameters.length) (hW : (rest.map fun v => v.category).sum ≤ W) (hf : rm.frames + 1 ≤ R.frames) (hl : W + (maxL' + 11) + rm.locals ≤ R.locals) (hc : k + rm.cells ≤ R.cells) (hn : n + rm.slots ≤ R.slots) (pc' : Nat) (hp : pc + 5 = pc')
    (K : ∀ w h', P w h' → z_At p l e R s m args below meth c n0 Q h' (k + rm.cells) (n + rm.slots) (mkF m pc' Ls (w :: rest))) : z_At p l e R s m args below meth c n0 Q h k n (mkF m pc Ls st) :=
  z_callF0 C E M w1 w2 w7 w5 w6 w8 w9 w10 w3 w4 hy hd hs hst hlen hW hf hl hc hn _ hp (by rintro _ h' ⟨w, rfl, q⟩; exact K w h' q)
theorem z_callFp {v : Value} {a : Addr} {Cn : String} {z : MethodName} {cnt : Nat} (C : z_Cx Z p s m meth c own bytes ml rt nm) (E : Exa Z h a Cn) (M : z_Met l Z z bytes' maxL' rt' [] rm n0 (Value.ref a :: argsL).toArray h  (z_pure v h)) (w1 : (Cond.methodLink own i y).before a0 Z = true) (w2 : (Cond.declares y).before a0 Z = true) (w7 : (Cond.interfaceMethod y.cls y.cls y.name y.desc).before a0 Z = true) (w5 : (Cond.selects Cn y z).before a0 Z = true) (w6 : (Cond.instanceMethod z).before a0 Z = true) (w8 : (Cond.publicMethod z).before a0 Z = true) (w9 : (Cond.unhidden Cn y.name y.desc).before a0 Z = true) (w10 : (Cond.castable Cn y.cls).before a0 Z = true) (w3 : (Cond.initialized z.cls).before a0 Z = true) (w4 : (Cond.code z bytes' maxL' rt').before a0 Z = true)
    (hy : y.cls ≠ "java/lang/invoke/MethodHandle" ∧ y.cls ≠ "java/lang/invoke/VarHandle") (hd : decode bytes pc = .ok (.invokeinterface i cnt, 5)) (hs : Ls.size = ml) (hst : st = argsL.reverse ++ .ref a :: rest) (hlen : ∀ sig, parseMethodDescriptor y.desc = some sig → argsL.length = sig.parameters.length) (hW : (rest.map fun v => v.category).sum ≤ W) (hf : rm.frames + 1 ≤ R.frames) (hl : W + (maxL' + 11) + rm.locals ≤ R.locals) (hc : rm.cells = 0) (hn : rm.slots = 0) (hk : k ≤ R.cells) (hk' : n ≤ R.slots) (pc' : Nat) (hp : pc + 5 = pc')
    (K : z_At p l e R s m args below meth c n0 Q h k n (mkF m pc' Ls (v :: rest))) : z_At p l e R s m args below meth c n0 Q h k n (mkF m pc Ls st) :=
  z_callF0 C E M w1 w2 w7 w5 w6 w8 w9 w10 w3 w4 hy hd hs hst hlen hW hf hl (by rw [hc]; exact hk) (by rw [hn]; exact hk') _ hp (by rintro _ h' ⟨rfl, rfl⟩; rw [hc, hn]; exact K)
theorem z_callFV {a : Addr} {Cn : String} {z : MethodName} {cnt : Nat} (C : z_Cx Z p s m meth c own bytes ml rt nm) (E : Exa Z h a Cn) (M : z_Met l Z z bytes' maxL' rt' [] rm n0 (Value.ref a :: argsL).toArray h  (z_nov P0)) (w1 : (Cond.methodLink own i y).before a0 Z = true) (w2 : (Cond.declares y).before a0 Z = true) (w7 : (Cond.interfaceMethod y.cls y.cls y.name y.desc).before a0 Z = true) (w5 : (Cond.selects Cn y z).before a0 Z = true) (w6 : (Cond.instanceMethod z).before a0 Z = true) (w8 : (Cond.publicMethod z).before a0 Z = true) (w9 : (Cond.unhidden Cn y.name y.desc).before a0 Z = true) (w10 : (Cond.castable Cn y.cls).before a0 Z = true) (w3 : (Cond.initialized z.cls).before a0 Z = true) (w4 : (Cond.code z bytes' maxL' rt').before a0 Z = true)
    (hy : y.cls ≠ "java/lang/invoke/MethodHandle" ∧ y.cls ≠ "java/lang/invoke/VarHandle") (hd : decode bytes pc = .ok (.invokeinterface i cnt, 5)) (hs : Ls.size = ml) (hst : st = argsL.reverse ++ .ref a :: rest) (hlen : ∀ sig, parseMethodDescriptor y.desc = some sig → argsL.length = sig.parameters.length) (hW : (rest.map fun v => v.category).sum ≤ W) (hf : rm.frames + 1 ≤ R.frames) (hl : W + (maxL' + 11) + rm.locals ≤ R.locals) (hc : k + rm.cells ≤ R.cells) (hn : n + rm.slots ≤ R.slots) (pc' : Nat) (hp : pc + 5 = pc')
    (K : ∀ h', P0 h' → z_At p l e R s m args below meth c n0 Q h' (k + rm.cells) (n + rm.slots) (mkF m pc' Ls rest)) : z_At p l e R s m args below meth c n0 Q h k n (mkF m pc Ls st) :=
  z_callF0 C E M w1 w2 w7 w5 w6 w8 w9 w10 w3 w4 hy hd hs hst hlen hW hf hl hc hn _ hp (by rintro _ h' ⟨rfl, q⟩; exact K h' q)
theorem z_callP0 {Q' : Option Value → Heap → Prop} {a : Addr} {Cn : String} (C : z_Cx Z p s m meth c own bytes ml rt nm) (E : Exa Z h a Cn) (M : z_Met l Z y bytes' maxL' rt' [] rm n0 (Value.ref a :: argsL).toArray h Q') (w1 : (Cond.methodLink own i y).before a0 Z = true) (w6 : (Cond.instanceMethod y).before a0 Z = true) (w5 : (Cond.selects y.cls y y).before a0 Z = true) (w8 : (Cond.privateMethod y).before a0 Z = true) (w3 : (Cond.initialized y.cls).before a0 Z = true) (w4 : (Cond.code y bytes' maxL' rt').before a0 Z = true)
    (hy : y.cls ≠ "java/lang/invoke/MethodHandle" ∧ y.cls ≠ "java/lang/invoke/VarHandle") (hd : decode bytes pc = .ok (.invokevirtual i, 3)) (hs : Ls.size = ml) (hst : st = argsL.reverse ++ .ref a :: rest) (hlen : ∀ sig, parseMethodDescriptor y.desc = some sig → argsL.length = sig.parameters.length) (hW : (rest.map fun v => v.category).sum ≤ W) (hf : rm.frames + 1 ≤ R.frames) (hl : W + (maxL' + 11) + rm.locals ≤ R.locals) (hc : k + rm.cells ≤ R.cells) (hn : n + rm.slots ≤ R.slots) (pc' : Nat) (hp : pc + 3 = pc')
    (K : ∀ v h', Q' v h' → z_At p l e R s m args below meth c n0 Q h' (k + rm.cells) (n + rm.slots) (mkF m pc' Ls (v.toList ++ rest))) : z_At p l e R s m args below meth c n0 Q h k n (mkF m pc Ls st) := by
  subst hp
  intro T L X N eT
  obtain ⟨cq, q1, q2⟩ := E.cell
  obtain ⟨v, _, ⟨T', L', k', n'⟩, -, X', ⟨Lc, ⟨hQ, N'⟩, l', y', z'⟩, stp⟩ := X.privateBack C.1 (y := y) C.2.2.1 (mvT C.2.1 w1) (mvT C.2.1 w6) (mvT C.2.1 w5) (Cond.privateMethod_at (mvP C.2.1 w8 (args := #[]))) (mvT C.2.1 w4) hy
    (backOf (Q := fun v h' L => Q' v h' ∧ Fr n0 L) (len := 3) (W := W) (p := p) (e := e) (below := below) (args := args) M C.2.1 w4 w3 hf hl) (g := mkF m pc Ls st) rfl (hs.trans C.2.2.2.2.1.symm) (Steps.refl _) (a := a) (by rw [eT]; exact q1) q2 (argsL := argsL) (rest := rest) hlen hst (by show 2 * 0 + _ ≤ _; omega) (hb C.2.2.2.1 hd) (fun _ _ => ⟨rfl, eT, hc, hn⟩)
  dsimp only [Pt.U, Pt.locs, Pt.cells, Pt.slots] at X' l' y' z' stp hQ
  subst l' y' z'
  exact z_via (fun t q => stp.trans q) (K v _ hQ T' _ X' (Fr.app N N') rfl)
theorem z_callP {a : Addr} {Cn : String} (C : z_Cx Z p s m meth c own bytes ml rt nm) (E : Exa Z h a Cn) (M : z_Met l Z y bytes' maxL' rt' [] rm n0 (Value.ref a :: argsL).toArray h  (z_val P)) (w1 : (Cond.methodLink own i y).before a0 Z = true) (w6 : (Cond.instanceMethod y).before a0 Z = true) (w5 : (Cond.selects y.cls y y).before a0 Z = true) (w8 : (Cond.privateMethod y).before a0 Z = true) (w3 : (Cond.initialized y.cls).before a0 Z = true) (w4 : (Cond.code y bytes' maxL' rt').before a0 Z = true)
    (hy : y.cls ≠ "java/lang/invoke/MethodHandle" ∧ y.cls ≠ "java/lang/invoke/VarHandle") (hd : decode bytes pc = .ok (.invokevirtual i, 3)) (hs : Ls.size = ml) (hst : st = argsL.reverse ++ .ref a :: rest) (hlen : ∀ sig, parseMethodDescriptor y.desc = some sig → argsL.length = sig.parameters.length) (hW : (rest.map fun v => v.category).sum ≤ W) (hf : rm.frames + 1 ≤ R.frames) (hl : W + (maxL' + 11) + rm.locals ≤ R.locals) (hc : k + rm.cells ≤ R.cells) (hn : n + rm.slots ≤ R.slots) (pc' : Nat) (hp : pc + 3 = pc')
    (K : ∀ w h', P w h' → z_At p l e R s m args below meth c n0 Q h' (k + rm.cells) (n + rm.slots) (mkF m pc' Ls (w :: rest))) : z_At p l e R s m args below meth c n0 Q h k n (mkF m pc Ls st) :=
  z_callP0 C E M w1 w6 w5 w8 w3 w4 hy hd hs hst hlen hW hf hl hc hn _ hp (by rintro _ h' ⟨w, rfl, q⟩; exact K w h' q)
theorem z_callPp {v : Value} {a : Addr} {Cn : String} (C : z_Cx Z p s m meth c own bytes ml rt nm) (E : Exa Z h a Cn) (M : z_Met l Z y bytes' maxL' rt' [] rm n0 (Value.ref a :: argsL).toArray h  (z_pure v h)) (w1 : (Cond.methodLink own i y).before a0 Z = true) (w6 : (Cond.instanceMethod y).before a0 Z = true) (w5 : (Cond.selects y.cls y y).before a0 Z = true) (w8 : (Cond.privateMethod y).before a0 Z = true) (w3 : (Cond.initialized y.cls).before a0 Z = true) (w4 : (Cond.code y bytes' maxL' rt').before a0 Z = true)
    (hy : y.cls ≠ "java/lang/invoke/MethodHandle" ∧ y.cls ≠ "java/lang/invoke/VarHandle") (hd : decode bytes pc = .ok (.invokevirtual i, 3)) (hs : Ls.size = ml) (hst : st = argsL.reverse ++ .ref a :: rest) (hlen : ∀ sig, parseMethodDescriptor y.desc = some sig → argsL.length = sig.parameters.length) (hW : (rest.map fun v => v.category).sum ≤ W) (hf : rm.frames + 1 ≤ R.frames) (hl : W + (maxL' + 11) + rm.locals ≤ R.locals) (hc : rm.cells = 0) (hn : rm.slots = 0) (hk : k ≤ R.cells) (hk' : n ≤ R.slots) (pc' : Nat) (hp : pc + 3 = pc')
    (K : z_At p l e R s m args below meth c n0 Q h k n (mkF m pc' Ls (v :: rest))) : z_At p l e R s m args below meth c n0 Q h k n (mkF m pc Ls st) :=
  z_callP0 C E M w1 w6 w5 w8 w3 w4 hy hd hs hst hlen hW hf hl (by rw [hc]; exact hk) (by rw [hn]; exact hk') _ hp (by rintro _ h' ⟨rfl, rfl⟩; rw [hc, hn]; exact K)
theorem z_callPV {a : Addr} {Cn : String} (C : z_Cx Z p s m meth c own bytes ml rt nm) (E : Exa Z h a Cn) (M : z_Met l Z y bytes' maxL' rt' [] rm n0 (Value.ref a :: argsL).toArray h  (z_nov P0)) (w1 : (Cond.methodLink own i y).before a0 Z = true) (w6 : (Cond.instanceMethod y).before a0 Z = true) (w5 : (Cond.selects y.cls y y).before a0 Z = true) (w8 : (Cond.privateMethod y).before a0 Z = true) (w3 : (Cond.initialized y.cls).before a0 Z = true) (w4 : (Cond.code y bytes' maxL' rt').before a0 Z = true)
    (hy : y.cls ≠ "java/lang/invoke/MethodHandle" ∧ y.cls ≠ "java/lang/invoke/VarHandle") (hd : decode bytes pc = .ok (.invokevirtual i, 3)) (hs : Ls.size = ml) (hst : st = argsL.reverse ++ .ref a :: rest) (hlen : ∀ sig, parseMethodDescriptor y.desc = some sig → argsL.length = sig.parameters.length) (hW : (rest.map fun v => v.category).sum ≤ W) (hf : rm.frames + 1 ≤ R.frames) (hl : W + (maxL' + 11) + rm.locals ≤ R.locals) (hc : k + rm.cells ≤ R.cells) (hn : n + rm.slots ≤ R.slots) (pc' : Nat) (hp : pc + 3 = pc')
    (K : ∀ h', P0 h' → z_At p l e R s m args below meth c n0 Q h' (k + rm.cells) (n + rm.slots) (mkF m pc' Ls rest)) : z_At p l e R s m args below meth c n0 Q h k n (mkF m pc Ls st) :=
  z_callP0 C E M w1 w6 w5 w8 w3 w4 hy hd hs hst hlen hW hf hl hc hn _ hp (by rintro _ h' ⟨rfl, q⟩; exact K h' q)
theorem z_callI0 {Q' : Option Value → Heap → Prop} {a : Addr} (C : z_Cx Z p s m meth c own bytes ml rt nm) (hi : y.name = "<init>") (M : z_Met l Z y bytes' maxL' none [] rm n0 (Value.ref a :: argsL).toArray h Q') (w1 : (Cond.methodLink own i y).before a0 Z = true) (w6 : (Cond.instanceMethod y).before a0 Z = true) (w3 : (Cond.initialized y.cls).before a0 Z = true) (w4 : (Cond.code y bytes' maxL' none).before a0 Z = true)
    (hy : y.cls ≠ "java/lang/invoke/MethodHandle" ∧ y.cls ≠ "java/lang/invoke/VarHandle") (hd : decode bytes pc = .ok (.invokespecial i, 3)) (hs : Ls.size = ml) (hst : st = argsL.reverse ++ .ref a :: rest) (hlen : ∀ sig, parseMethodDescriptor y.desc = some sig → argsL.length = sig.parameters.length) (hW : (rest.map fun v => v.category).sum ≤ W) (hf : rm.frames + 1 ≤ R.frames) (hl : W + (maxL' + 11) + rm.locals ≤ R.locals) (hc : k + rm.cells ≤ R.cells) (hn : n + rm.slots ≤ R.slots) (pc' : Nat) (hp : pc + 3 = pc')
    (K : ∀ v h', Q' v h' → z_At p l e R s m args below meth c n0 Q h' (k + rm.cells) (n + rm.slots) (mkF m pc' Ls (v.toList ++ rest))) : z_At p l e R s m args below meth c n0 Q h k n (mkF m pc Ls st) := by
  subst hp
  intro T L X N eT
  obtain ⟨v, _, ⟨T', L', k', n'⟩, -, X', ⟨Lc, ⟨hQ, N'⟩, l', y', z'⟩, stp⟩ := X.specialBack C.1 (y := y) hi C.2.2.1 (mvT C.2.1 w1) (mvT C.2.1 w6) (mvT C.2.1 w4) hy
    (backOf (Q := fun v h' L => Q' v h' ∧ Fr n0 L) (len := 3) (W := W) (p := p) (e := e) (below := below) (args := args) M C.2.1 w4 w3 hf hl) (g := mkF m pc Ls st) rfl (hs.trans C.2.2.2.2.1.symm) (Steps.refl _) (a := a) (argsL := argsL) (rest := rest) hlen hst (by show 2 * 0 + _ ≤ _; omega) (hb C.2.2.2.1 hd) (fun _ _ => ⟨rfl, eT, hc, hn⟩)
  dsimp only [Pt.U, Pt.locs, Pt.cells, Pt.slots] at X' l' y' z' stp hQ
  subst l' y' z'
  exact z_via (fun t q => stp.trans q) (K v _ hQ T' _ X' (Fr.app N N') rfl)
theorem z_callI {a : Addr} (C : z_Cx Z p s m meth c own bytes ml rt nm) (hi : y.name = "<init>") (M : z_Met l Z y bytes' maxL' none [] rm n0 (Value.ref a :: argsL).toArray h  (z_nov P0)) (w1 : (Cond.methodLink own i y).before a0 Z = true) (w6 : (Cond.instanceMethod y).before a0 Z = true) (w3 : (Cond.initialized y.cls).before a0 Z = true) (w4 : (Cond.code y bytes' maxL' none).before a0 Z = true)
    (hy : y.cls ≠ "java/lang/invoke/MethodHandle" ∧ y.cls ≠ "java/lang/invoke/VarHandle") (hd : decode bytes pc = .ok (.invokespecial i, 3)) (hs : Ls.size = ml) (hst : st = argsL.reverse ++ .ref a :: rest) (hlen : ∀ sig, parseMethodDescriptor y.desc = some sig → argsL.length = sig.parameters.length) (hW : (rest.map fun v => v.category).sum ≤ W) (hf : rm.frames + 1 ≤ R.frames) (hl : W + (maxL' + 11) + rm.locals ≤ R.locals) (hc : k + rm.cells ≤ R.cells) (hn : n + rm.slots ≤ R.slots) (pc' : Nat) (hp : pc + 3 = pc')
    (K : ∀ h', P0 h' → z_At p l e R s m args below meth c n0 Q h' (k + rm.cells) (n + rm.slots) (mkF m pc' Ls rest)) : z_At p l e R s m args below meth c n0 Q h k n (mkF m pc Ls st) :=
  z_callI0 C hi M w1 w6 w3 w4 hy hd hs hst hlen hW hf hl hc hn _ hp (by rintro _ h' ⟨rfl, q⟩; exact K h' q)
theorem z_init0 {a : Addr} (C : z_Cx Z p s m meth c own bytes ml rt nm) (w1 : (Cond.methodLink own i Lib.objectInit).before a0 Z = true) (w2 : (Cond.instanceMethod Lib.objectInit).before a0 Z = true) (w4 : (Cond.code Lib.objectInit ⟨#[0xb1]⟩ 1 none).before a0 Z = true)
    (hd : decode bytes pc = .ok (.invokespecial i, 3)) (hs : Ls.size = ml) (hW : (rest.map fun v => v.category).sum ≤ W) (hf : 1 ≤ R.frames) (hl : W + 12 ≤ R.locals) (pc' : Nat) (hp : pc + 3 = pc')
    (K : z_At p l e R s m args below meth c n0 Q h k n (mkF m pc' Ls rest)) : z_At p l e R s m args below meth c n0 Q h k n (mkF m pc Ls (.ref a :: rest)) := by
  subst hp
  intro T L X N eT
  obtain ⟨T', X', e', stp⟩ := initO X C.1 C.2.1 C.2.2.1 w1 w2 w4 eT (g := mkF m pc Ls (.ref a :: rest)) rfl (hs.trans C.2.2.2.2.1.symm) rfl (hb C.2.2.2.1 hd) hf (W := W) (by show 2 * 0 + _ ≤ _; omega) hl
  exact z_via stp (K T' L X' N e')
end Calls

/-! ### the enum constants of a case -/
def z_En (Z : State) (h : Heap) (C n : String) (d : String) (i : Int32) (a : Addr) : Prop := Sta Z h C n d (.ref a) ∧ Exa Z h a C ∧ Fld Z h a "java/lang/Enum" "ordinal" "I" (.int i)
theorem z_En.ext {h' : Heap} {C f d : String} {i : Int32} {a : Addr} (E : Ext h h') (F : z_En Z h C f d i a) : z_En Z h' C f d i a := ⟨F.1.ext E, F.2.1.ext E, F.2.2.ext E⟩
theorem z_En.ne {C f d g d' : String} {i j : Int32} {a b : Addr} (F : z_En Z h C f d i a) (G : z_En Z h C g d' j b) (q : i ≠ j) : a ≠ b := F.2.2.ne G.2.2 fun z => q (Value.int.inj z)
theorem z_fldv {t : Term} {FC ff : String} {i : Int32} {a : Addr} (ea : t.eval args Z none [] Z = some (.ref a)) (hO : (Cond.eq (.field t FC ff "I") (.int i)).value args Z none Z [] = some true) : Fld Z Z.heap a FC ff "I" (.int i) := by
  refine Fld.start ?_
  obtain ⟨x, y, e1, e2, k1, k2⟩ := cmp_v (Or.inl hO)
  have e3 : y = .int i := by simpa [Term.eval] using e2.symm
  subst e3
  obtain ⟨z, rfl⟩ : ∃ z, x = .int z := k2
  have e4 : z = i := by simpa [Cond.value, e1, e2] using hO
  subst e4
  rw [← fld_at ea]; exact e1
theorem z_sfld {C f d FC ff : String} {i : Int32} {a : Addr} (S : Sta Z Z.heap C f d (.ref a)) (hO : (Cond.eq (.field (.static C f d) FC ff "I") (.int i)).value args Z none Z [] = some true) : Fld Z Z.heap a FC ff "I" (.int i) :=
  z_fldv (S.fin (Vm.Alike.refl _)) hO
theorem z_enum {C f d : String} {i : Int32} (hX : (Cond.exactly (.static C f d) C).value args Z none Z [] = some true) (hO : (Cond.eq (.field (.static C f d) "java/lang/Enum" "ordinal" "I") (.int i)).value args Z none Z [] = some true) (w1 : (Cond.initialized C).before args Z = true) (w2 : (Cond.laysStatic C f d).before args Z = true) : ∃ a, z_En Z Z.heap C f d i a := by
  obtain ⟨a, ea⟩ := exa_v hX
  exact ⟨a, Sta.start ea (Or.inr ⟨w1, w2⟩), Exa.start ea hX, z_fldv ea hO⟩
end OwnKit
/-! The heap part: objects and arrays with known contents. -/
section OwnHeap
variable {p : Program} {l : Launch} {e : Env} {R : Room} {s : State} {m : MethodId} {args : Array Value} {below : List Frame} {meth : Method} {c : Code} {Z : State} {n0 : Nat} {own : String} {bytes : ByteArray} {ml : Nat} {rt : Option FieldType} {nm : String} {Q : Option Value → Heap → Prop} {h h' : Heap} {k n : Nat} {pc : Nat} {Ls Ls' : Array Slot} {st rest : List Value} {a0 : Array Value} {f f' : JFrame}
/-- an object at a, exactly of class C; the fields that lay names hold vs -/
def z_Ob (Z : State) (h : Heap) (a : Addr) (C : String) (lay : List (String × String × String)) (vs : List Value) : Prop :=
  Exa Z h a C ∧ lay.length = vs.length ∧ ∀ (i : Nat) (x : String × String × String) (v : Value), lay[i]? = some x → vs[i]? = some v → Fld Z h a x.1 x.2.1 x.2.2 v
def z_LayOk (Z : State) (a0 : Array Value) (C : String) (lay : List (String × String × String)) : Prop :=
  (lay.map fun x => x.2.1).Nodup ∧ ∀ x ∈ lay, Laid Z a0 C x.1 x.2.1 x.2.2 ∧ ∃ t, parseFieldDescriptor x.2.2 = some t
theorem z_Ob.ext {a : Addr} {C : String} {lay : List (String × String × String)} {vs : List Value} (F : z_Ob Z h a C lay vs) (E : Ext h h') : z_Ob Z h' a C lay vs := ⟨F.1.ext E, F.2.1, fun i x v h1 h2 => (F.2.2 i x v h1 h2).ext E⟩
theorem z_Ob.other {a b : Addr} {C : String} {lay : List (String × String × String)} {vs : List Value} {sl : Nat} {v : Value} (F : z_Ob Z h b C lay vs) (W : Wr h h' a sl v) (q : b ≠ a) : z_Ob Z h' b C lay vs := ⟨F.1.wr W, F.2.1, fun i x v h1 h2 => (F.2.2 i x v h1 h2).other W (Or.inl q)⟩
theorem z_Ob.keep {a : Addr} {C : String} {lay : List (String × String × String)} {vs : List Value} {ws : List Addr} (F : z_Ob Z h a C lay vs) (K : Keep h h' ws) (q : a ∉ ws) : z_Ob Z h' a C lay vs := ⟨F.1.keep K, F.2.1, fun i x v h1 h2 => (F.2.2 i x v h1 h2).keep K q⟩
theorem z_Ob.lt {a : Nat} {C : String} {lay : List (String × String × String)} {vs : List Value} (F : z_Ob Z h a C lay vs) : a < h.size := F.1.lt
theorem z_Ob.get {a : Addr} {C O f d : String} {lay : List (String × String × String)} {vs : List Value} {v : Value} (F : z_Ob Z h a C lay vs) (i : Nat) (h1 : lay[i]? = some (O, f, d)) (h2 : vs[i]? = some v) : Fld Z h a O f d v := F.2.2 i _ v h1 h2
theorem z_Ob.put {a : Addr} {C O f d : String} {lay : List (String × String × String)} {vs vs' : List Value} {v : Value} (F : z_Ob Z h a C lay vs) (ok : z_LayOk Z a0 C lay) (i : Nat) (h1 : lay[i]? = some (O, f, d)) (W : Wr h h' a (RoadKit.slotOf Z O f d) v) (e : vs.set i v = vs') : z_Ob Z h' a C lay vs' := by
  subst e
  refine ⟨F.1.wr W, by simpa using F.2.1, fun j x w h3 h4 => ?_⟩
  by_cases q : j = i
  · subst q
    cases h1.symm.trans h3
    have hi : j < vs.length := by rw [← F.2.1]; exact (List.getElem?_eq_some_iff.mp h1).1
    obtain rfl : v = w := by simpa [hi] using h4
    exact (F.2.2 j (O, f, d) vs[j] h1 (List.getElem?_eq_getElem hi)).same W
  · rw [List.getElem?_set_ne (Ne.symm q)] at h4
    obtain ⟨lx, tx, px⟩ := ok.2 x (List.mem_of_getElem? h3)
    obtain ⟨lf, tf, pf⟩ := ok.2 _ (List.mem_of_getElem? h1)
    refine (F.2.2 j x w h3 h4).other W (Or.inr (slot_ne lx lf (fun z => q ?_) px pf))
    have h5 : (lay.map fun x => x.2.1)[j]? = some x.2.1 := by simp [h3]
    have h6 : (lay.map fun x => x.2.1)[i]? = some x.2.1 := by simp [h1, z]
    exact (List.getElem?_inj (List.getElem?_eq_some_iff.mp h5).1 ok.1).mp (h5.trans h6.symm)
def z_dflt (x : String × String × String) : Value := match parseFieldDescriptor x.2.2 with | some t => defaultValue t | none => .null
theorem z_newO (C : z_Cx Z p s m meth c own bytes ml rt nm) {Cn : String} {lay : List (String × String × String)} {vs : List Value} {i sl : Nat} (w : (Cond.classLink own i Cn).before a0 Z = true) (wi : (Cond.instantiable Cn sl).before a0 Z = true) (wz : (Cond.initialized Cn).before a0 Z = true) (ok : z_LayOk Z a0 Cn lay) (hv : lay.map z_dflt = vs) (hd : decode bytes pc = .ok (.new i, 3)) (hc : k + 1 ≤ R.cells) (hl : n + sl ≤ R.slots) (pc' : Nat) (hp : pc + 3 = pc')
    (K : ∀ h' b, b = h.size → Ext h h' → z_Ob Z h' b Cn lay vs → z_At p l e R s m args below meth c n0 Q h' (k + 1) (n + sl) (mkF m pc' Ls (.ref b :: st))) :
    z_At p l e R s m args below meth c n0 Q h k n (mkF m pc Ls st) := by
  subst hp hv
  intro T L X N eT
  obtain ⟨T', h', X', e', E, A, D, -, stp⟩ := newO X C.1 C.2.1 C.2.2.1 w wi wz eT (g := mkF m pc Ls st) rfl (hb C.2.2.2.1 hd) hc hl
  refine z_via stp (K h' _ rfl E ⟨A, by simp, fun j x v h1 h2 => ?_⟩ T' L X' N e')
  obtain ⟨lx, tx, px⟩ := ok.2 x (List.mem_of_getElem? h1)
  have : v = defaultValue tx := by
    have : z_dflt x = v := by simpa [h1] using h2
    rw [← this, z_dflt, px]
  subst this
  exact D lx px
theorem z_getO (C : z_Cx Z p s m meth c own bytes ml rt nm) {R0 O f d Cn : String} {lay : List (String × String × String)} {vs : List Value} {i : Nat} {a : Addr} {v : Value} (w : (Cond.fieldLink own i R0 f d).before a0 Z = true) (via : Via Z R0 O f d) (F : z_Ob Z h a Cn lay vs) (j : Nat) (h1 : lay[j]? = some (O, f, d)) (h2 : vs[j]? = some v) (hd : decode bytes pc = .ok (.getfield i, 3)) (pc' : Nat) (hp : pc + 3 = pc')
    (K : z_At p l e R s m args below meth c n0 Q h k n (mkF m pc' Ls (v :: st))) : z_At p l e R s m args below meth c n0 Q h k n (mkF m pc Ls (.ref a :: st)) :=
  z_getfield C w via (F.get j h1 h2) hd _ hp K
theorem z_getN (C : z_Cx Z p s m meth c own bytes ml rt nm) {R0 O f d Cn host : String} {lay : List (String × String × String)} {vs : List Value} {i : Nat} {a : Addr} {v : Value} (w : (Cond.fieldLinkNest own i R0 f d host).before a0 Z = true) (via : Via Z R0 O f d) (F : z_Ob Z h a Cn lay vs) (j : Nat) (h1 : lay[j]? = some (O, f, d)) (h2 : vs[j]? = some v) (hd : decode bytes pc = .ok (.getfield i, 3)) (pc' : Nat) (hp : pc + 3 = pc')
    (K : z_At p l e R s m args below meth c n0 Q h k n (mkF m pc' Ls (v :: st))) : z_At p l e R s m args below meth c n0 Q h k n (mkF m pc Ls (.ref a :: st)) := by
  subst hp
  intro T L X N eT
  obtain ⟨T', X', e', stp⟩ := getF X C.1 C.2.1 C.2.2.1 (host := host) (Or.inr w) via eT (F.get j h1 h2) (g := mkF m pc Ls (.ref a :: st)) rfl rfl (hb C.2.2.2.1 hd)
  exact z_via stp (K T' L X' N e')
theorem z_putO (C : z_Cx Z p s m meth c own bytes ml rt nm) {R0 O f d Cn : String} {lay : List (String × String × String)} {vs vs' : List Value} {i kk : Nat} {ty : FieldType} {a : Addr} {v : Value} (w : (Cond.fieldLink own i R0 f d).before a0 Z = true) (via : Via Z R0 O f d) (F : z_Ob Z h a Cn lay vs) (ok : z_LayOk Z a0 Cn lay) (j : Nat) (h1 : lay[j]? = some (O, f, d)) (h2 : vs.set j v = vs')
    (Ly : (Cond.lays Cn O f d).before a0 Z = true ∨ ((Cond.laysFinal Cn O f d).before a0 Z = true ∧ own = O ∧ nm = "<init>")) (wi : (Cond.instantiable Cn kk).before a0 Z = true) (hty : parseFieldDescriptor d = some ty) (hn : narrow ty v = v) (hf : fits ty v = true) (ha : n0 ≤ a) (hd : decode bytes pc = .ok (.putfield i, 3)) (pc' : Nat) (hp : pc + 3 = pc')
    (K : ∀ h', Wr h h' a (RoadKit.slotOf Z O f d) v → z_Ob Z h' a Cn lay vs' → z_At p l e R s m args below meth c n0 Q h' k n (mkF m pc' Ls st)) : z_At p l e R s m args below meth c n0 Q h k n (mkF m pc Ls (v :: .ref a :: st)) := by
  subst hp
  intro T L X N eT
  have hj : j < vs.length := by rw [← F.2.1]; exact (List.getElem?_eq_some_iff.mp h1).1
  obtain ⟨T', h', X', e', W, stp⟩ := putF X C.1 C.2.1 C.2.2.1 (host := "") (Or.inl w) via eT (F.get j h1 (List.getElem?_eq_getElem hj)) F.1 (Ly.imp id fun q => ⟨q.1, q.2.1, C.2.2.2.2.2.2.2.trans q.2.2⟩) wi hty hn hf (g := mkF m pc Ls (v :: .ref a :: st)) rfl rfl (hb C.2.2.2.1 hd)
  exact z_via stp (K h' W (F.put ok j h1 W h2) T' _ X' (Fr.snoc X' N ha) e')
/-- what may lie in an array of the class cA: the objects of K -/
def z_Ov (Z : State) (cA : ClassId) (K : String) : Prop := ∃ (k : Class) (comp : ClassId) (t : FieldType), Z.vm.classes[cA]? = some k ∧ k.kind = .array comp t ∧ Z.vm.findClass K = some comp
/-- an array at a, its elements the list vs; its class ad; K: the class of its elements ("": none is stored) -/
def z_Ar (Z : State) (h : Heap) (a : Addr) (ty : FieldType) (ad K : String) (vs : List Value) : Prop := ∃ cl : Cell, Arr Z h a cl ty ∧ cl.slots.toList = vs ∧ vs.length < 2 ^ 31 ∧ Exa Z h a ad ∧ (K = "" ∨ z_Ov Z cl.cls K)
section Arrays
variable {a b : Addr} {ty : FieldType} {ad Kc : String} {vs vs' : List Value} {j : Int32} {v : Value}
theorem z_Ar.ext (A : z_Ar Z h a ty ad Kc vs) (E : Ext h h') : z_Ar Z h' a ty ad Kc vs := by obtain ⟨cl, q, r1, r2, r3, r4⟩ := A; exact ⟨cl, q.ext E, r1, r2, r3.ext E, r4⟩
theorem z_Ar.other {sl : Nat} (A : z_Ar Z h b ty ad Kc vs) (W : Wr h h' a sl v) (q : b ≠ a) : z_Ar Z h' b ty ad Kc vs := by obtain ⟨cl, g, r1, r2, r3, r4⟩ := A; exact ⟨cl, g.other W q, r1, r2, r3.wr W, r4⟩
theorem z_Ar.keep {ws : List Addr} (A : z_Ar Z h a ty ad Kc vs) (K : Keep h h' ws) (q : a ∉ ws) : z_Ar Z h' a ty ad Kc vs := by obtain ⟨cl, g, r1, r2, r3, r4⟩ := A; exact ⟨cl, ⟨K.2.1 a cl g.1 q, g.2⟩, r1, r2, r3.keep K, r4⟩
theorem z_Ar.lt {a : Nat} (A : z_Ar Z h a ty ad Kc vs) : a < h.size := by obtain ⟨cl, g, -⟩ := A; exact g.lt
theorem z_Ar.exa (A : z_Ar Z h a ty ad Kc vs) : Exa Z h a ad := by obtain ⟨cl, g, r1, r2, r3, r4⟩ := A; exact r3
theorem z_Ar.same {i : Nat} (A : z_Ar Z h a ty ad Kc vs) (W : Wr h h' a i v) (e : vs.set i v = vs') : z_Ar Z h' a ty ad Kc vs' := by
  subst e
  obtain ⟨cl, g, r1, r2, r3, r4⟩ := A
  refine ⟨_, g.same W, ?_, by simpa using r2, r3.wr W, r4⟩
  subst r1
  simp [Cell.setSlot]
theorem z_idx {cl : Cell} (hs : cl.slots.toList = vs) (hj : ¬ j < 0) (hv : vs[j.toNatClampNeg]? = some v) : ¬ (j < 0 ∨ cl.slots.size ≤ j.toNatClampNeg) ∧ cl.slots[j.toNatClampNeg]? = some v := by
  subst hs
  have q : cl.slots[j.toNatClampNeg]? = some v := by simpa using hv
  have := (Array.getElem?_eq_some_iff.mp q).1
  exact ⟨fun z => z.elim hj (fun z => by omega), q⟩
theorem z_lt {cl : Cell} (hs : cl.slots.toList = vs) (hj : ¬ j < 0) (hv : j.toNatClampNeg < vs.length) : ¬ (j < 0 ∨ cl.slots.size ≤ j.toNatClampNeg) := by
  subst hs
  have : j.toNatClampNeg < cl.slots.size := by simpa using hv
  exact fun z => z.elim hj (fun z => by omega)
theorem z_Ar.sto {y : Addr} (A : z_Ar Z h a ty ad Kc vs) (hK : Kc ≠ "") (I : Ins Z h y Kc true) : Sto Z h a (.ref y) := by
  obtain ⟨cl, g, r1, r2, r3, r4⟩ := A
  obtain ⟨k, comp, t, o1, o2, o3⟩ := r4.resolve_left hK
  obtain ⟨cv, cT, i1, i2, i3⟩ := I
  cases o3.symm.trans i2
  simp only [Bool.and_eq_true, Bool.not_eq_true'] at i3
  obtain ⟨kc, q⟩ := Vm.classAt_of_findClass o3
  obtain ⟨kv, q2⟩ := Vm.classAt_of_assignable i3.2 ⟨kc, q⟩
  exact Or.inr ⟨cl, cv, k, kv, kc, _, _, y, g.1, o1, o2, q, rfl, i1, i3.1, q2, i3.2⟩
theorem z_arraylength (C : z_Cx Z p s m meth c own bytes ml rt nm) {z : Int32} (A : z_Ar Z h a ty ad Kc vs) (hz : vs.length.toInt32 = z) (hd : decode bytes pc = .ok (.arraylength, 1)) (pc' : Nat) (hp : pc + 1 = pc')
    (K : z_At p l e R s m args below meth c n0 Q h k n (mkF m pc' Ls (.int z :: st))) : z_At p l e R s m args below meth c n0 Q h k n (mkF m pc Ls (.ref a :: st)) := by
  subst hp hz
  obtain ⟨cl, A, rfl, -⟩ := A
  intro T L X N eT
  exact z_via (fun t hr => X.arraylength C.1 (by rw [eT]; exact A.1) (State.isArrayOf_alike C.2.1.alike A.2.1) (g := mkF m pc Ls (.ref a :: st)) rfl rfl (hb C.2.2.2.1 hd) t (by simpa using hr)) (K T L X N eT)
theorem z_iaload (C : z_Cx Z p s m meth c own bytes ml rt nm) (A : z_Ar Z h a .int ad Kc vs) (hj : ¬ j < 0) (hv : vs[j.toNatClampNeg]? = some v) (hd : decode bytes pc = .ok (.iaload, 1)) (pc' : Nat) (hp : pc + 1 = pc')
    (K : z_At p l e R s m args below meth c n0 Q h k n (mkF m pc' Ls (v :: st))) : z_At p l e R s m args below meth c n0 Q h k n (mkF m pc Ls (.int j :: .ref a :: st)) := by
  subst hp
  obtain ⟨cl, A, r, -⟩ := A
  obtain ⟨q1, q2⟩ := z_idx r hj hv
  intro T L X N eT
  exact z_via (fun t hr => X.iaload C.1 (j := j) (v := v) (by rw [eT]; exact A.1) (State.isArrayOf_alike C.2.1.alike A.2.1) A.2.2 q1 q2 (g := mkF m pc Ls (.int j :: .ref a :: st)) rfl rfl (hb C.2.2.2.1 hd) t hr) (K T L X N eT)
theorem z_baload (C : z_Cx Z p s m meth c own bytes ml rt nm) (A : z_Ar Z h a .byte ad Kc vs) (hj : ¬ j < 0) (hv : vs[j.toNatClampNeg]? = some v) (hd : decode bytes pc = .ok (.baload, 1)) (pc' : Nat) (hp : pc + 1 = pc')
    (K : z_At p l e R s m args below meth c n0 Q h k n (mkF m pc' Ls (v :: st))) : z_At p l e R s m args below meth c n0 Q h k n (mkF m pc Ls (.int j :: .ref a :: st)) := by
  subst hp
  obtain ⟨cl, A, r, -⟩ := A
  obtain ⟨q1, q2⟩ := z_idx r hj hv
  intro T L X N eT
  exact z_via (fun t hr => X.baloadBytes C.1 (j := j) (v := v) (by rw [eT]; exact A.1) (State.isArrayOf_alike C.2.1.alike A.2.1) A.2.2 q1 q2 (g := mkF m pc Ls (.int j :: .ref a :: st)) rfl rfl (hb C.2.2.2.1 hd) t hr) (K T L X N eT)
theorem z_caload (C : z_Cx Z p s m meth c own bytes ml rt nm) (A : z_Ar Z h a .char ad Kc vs) (hj : ¬ j < 0) (hv : vs[j.toNatClampNeg]? = some v) (hd : decode bytes pc = .ok (.caload, 1)) (pc' : Nat) (hp : pc + 1 = pc')
    (K : z_At p l e R s m args below meth c n0 Q h k n (mkF m pc' Ls (v :: st))) : z_At p l e R s m args below meth c n0 Q h k n (mkF m pc Ls (.int j :: .ref a :: st)) := by
  subst hp
  obtain ⟨cl, A, r, -⟩ := A
  obtain ⟨q1, q2⟩ := z_idx r hj hv
  intro T L X N eT
  exact z_via (fun t hr => X.caload C.1 (j := j) (v := v) (by rw [eT]; exact A.1) (State.isArrayOf_alike C.2.1.alike A.2.1) A.2.2 q1 q2 (g := mkF m pc Ls (.int j :: .ref a :: st)) rfl rfl (hb C.2.2.2.1 hd) t hr) (K T L X N eT)
theorem z_aaload (C : z_Cx Z p s m meth c own bytes ml rt nm) (A : z_Ar Z h a ty ad Kc vs) (hty : ty.isReference = true) (hj : ¬ j < 0) (hv : vs[j.toNatClampNeg]? = some v) (hd : decode bytes pc = .ok (.aaload, 1)) (pc' : Nat) (hp : pc + 1 = pc')
    (K : z_At p l e R s m args below meth c n0 Q h k n (mkF m pc' Ls (v :: st))) : z_At p l e R s m args below meth c n0 Q h k n (mkF m pc Ls (.int j :: .ref a :: st)) := by
  subst hp
  obtain ⟨cl, A, r, -⟩ := A
  obtain ⟨q1, q2⟩ := z_idx r hj hv
  intro T L X N eT
  exact z_via (fun t hr => X.aaload C.1 (j := j) (v := v) (by rw [eT]; exact A.1) (State.isArrayOf_alike C.2.1.alike A.2.1) hty A.2.2 q1 q2 (g := mkF m pc Ls (.int j :: .ref a :: st)) rfl rfl (hb C.2.2.2.1 hd) t hr) (K T L X N eT)
theorem z_iastore (C : z_Cx Z p s m meth c own bytes ml rt nm) {x z : Int32} (A : z_Ar Z h a .int ad Kc vs) (hj : ¬ j < 0) (hv : j.toNatClampNeg < vs.length) (hz : x = z) (hs : vs.set j.toNatClampNeg (.int z) = vs') (ha : n0 ≤ a) (hd : decode bytes pc = .ok (.iastore, 1)) (pc' : Nat) (hp : pc + 1 = pc')
    (K : ∀ h', Wr h h' a j.toNatClampNeg (.int z) → z_Ar Z h' a .int ad Kc vs' → z_At p l e R s m args below meth c n0 Q h' k n (mkF m pc' Ls st)) : z_At p l e R s m args below meth c n0 Q h k n (mkF m pc Ls (.int x :: .int j :: .ref a :: st)) := by
  subst hp hz
  have A0 := A
  obtain ⟨cl, A, r, -⟩ := A
  intro T L X N eT
  obtain ⟨T', h', X', e', W, stp⟩ := stI X C.1 C.2.1 eT A (z_lt r hj hv) (g := mkF m pc Ls (.int x :: .int j :: .ref a :: st)) rfl rfl (hb C.2.2.2.1 hd)
  exact z_via stp (K h' W (A0.same W hs) T' _ X' (Fr.snoc X' N ha) e')
theorem z_bastore (C : z_Cx Z p s m meth c own bytes ml rt nm) {x z : Int32} (A : z_Ar Z h a .byte ad Kc vs) (hj : ¬ j < 0) (hv : j.toNatClampNeg < vs.length) (hz : (nar .byte x) = z) (hs : vs.set j.toNatClampNeg (.int z) = vs') (ha : n0 ≤ a) (hd : decode bytes pc = .ok (.bastore, 1)) (pc' : Nat) (hp : pc + 1 = pc')
    (K : ∀ h', Wr h h' a j.toNatClampNeg (.int z) → z_Ar Z h' a .byte ad Kc vs' → z_At p l e R s m args below meth c n0 Q h' k n (mkF m pc' Ls st)) : z_At p l e R s m args below meth c n0 Q h k n (mkF m pc Ls (.int x :: .int j :: .ref a :: st)) := by
  subst hp hz
  have A0 := A
  obtain ⟨cl, A, r, -⟩ := A
  intro T L X N eT
  obtain ⟨T', h', X', e', W, stp⟩ := stB X C.1 C.2.1 eT A (z_lt r hj hv) (g := mkF m pc Ls (.int x :: .int j :: .ref a :: st)) rfl rfl (hb C.2.2.2.1 hd)
  exact z_via stp (K h' W (A0.same W hs) T' _ X' (Fr.snoc X' N ha) e')
theorem z_castore (C : z_Cx Z p s m meth c own bytes ml rt nm) {x z : Int32} (A : z_Ar Z h a .char ad Kc vs) (hj : ¬ j < 0) (hv : j.toNatClampNeg < vs.length) (hz : (nar .char x) = z) (hs : vs.set j.toNatClampNeg (.int z) = vs') (ha : n0 ≤ a) (hd : decode bytes pc = .ok (.castore, 1)) (pc' : Nat) (hp : pc + 1 = pc')
    (K : ∀ h', Wr h h' a j.toNatClampNeg (.int z) → z_Ar Z h' a .char ad Kc vs' → z_At p l e R s m args below meth c n0 Q h' k n (mkF m pc' Ls st)) : z_At p l e R s m args below meth c n0 Q h k n (mkF m pc Ls (.int x :: .int j :: .ref a :: st)) := by
  subst hp hz
  have A0 := A
  obtain ⟨cl, A, r, -⟩ := A
  intro T L X N eT
  obtain ⟨T', h', X', e', W, stp⟩ := stC X C.1 C.2.1 eT A (z_lt r hj hv) (g := mkF m pc Ls (.int x :: .int j :: .ref a :: st)) rfl rfl (hb C.2.2.2.1 hd)
  exact z_via stp (K h' W (A0.same W hs) T' _ X' (Fr.snoc X' N ha) e')
theorem z_bastoreZ (C : z_Cx Z p s m meth c own bytes ml rt nm) {x z : Int32} (A : z_Ar Z h a .boolean ad Kc vs) (hj : ¬ j < 0) (hv : j.toNatClampNeg < vs.length) (hz : (nar .boolean x) = z) (hs : vs.set j.toNatClampNeg (.int z) = vs') (ha : n0 ≤ a) (hd : decode bytes pc = .ok (.bastore, 1)) (pc' : Nat) (hp : pc + 1 = pc')
    (K : ∀ h', Wr h h' a j.toNatClampNeg (.int z) → z_Ar Z h' a .boolean ad Kc vs' → z_At p l e R s m args below meth c n0 Q h' k n (mkF m pc' Ls st)) : z_At p l e R s m args below meth c n0 Q h k n (mkF m pc Ls (.int x :: .int j :: .ref a :: st)) := by
  subst hp hz
  have A0 := A
  obtain ⟨cl, A, r, -⟩ := A
  intro T L X N eT
  obtain ⟨T', h', X', e', W, stp⟩ := stZ X C.1 C.2.1 eT A (z_lt r hj hv) (g := mkF m pc Ls (.int x :: .int j :: .ref a :: st)) rfl rfl (hb C.2.2.2.1 hd)
  exact z_via stp (K h' W (A0.same W hs) T' _ X' (Fr.snoc X' N ha) e')
theorem z_aastore (C : z_Cx Z p s m meth c own bytes ml rt nm) (A : z_Ar Z h a ty ad Kc vs) (hty : ty.isReference = true) (S : Sto Z h a v) (hj : ¬ j < 0) (hv : j.toNatClampNeg < vs.length) (hs : vs.set j.toNatClampNeg v = vs') (ha : n0 ≤ a) (hd : decode bytes pc = .ok (.aastore, 1)) (pc' : Nat) (hp : pc + 1 = pc')
    (K : ∀ h', Wr h h' a j.toNatClampNeg v → z_Ar Z h' a ty ad Kc vs' → z_At p l e R s m args below meth c n0 Q h' k n (mkF m pc' Ls st)) : z_At p l e R s m args below meth c n0 Q h k n (mkF m pc Ls (v :: .int j :: .ref a :: st)) := by
  subst hp
  have A0 := A
  obtain ⟨cl, A, r, -⟩ := A
  intro T L X N eT
  obtain ⟨T', h', X', e', W, stp⟩ := stR X C.1 C.2.1 eT A (z_lt r hj hv) hty S (g := mkF m pc Ls (v :: .int j :: .ref a :: st)) rfl rfl (hb C.2.2.2.1 hd)
  exact z_via stp (K h' W (A0.same W hs) T' _ X' (Fr.snoc X' N ha) e')
theorem z_newarray (C : z_Cx Z p s m meth c own bytes ml rt nm) {aty : ArrayType} {z : Int32} (w : (Cond.arrayClass (newarray.typeOf aty)).before a0 Z = true) (hz : ¬ z < 0) {cap : Nat} (hcap : z.toNatClampNeg ≤ cap) (hb' : cap * 8 ≤ 536870912) (had : "[" ++ (newarray.typeOf aty).toString = ad) (hvs : List.replicate z.toNatClampNeg (defaultValue (newarray.typeOf aty)) = vs) (hd : decode bytes pc = .ok (.newarray aty, 2)) (hc : k + 1 ≤ R.cells) (hl : n + cap ≤ R.slots) (pc' : Nat) (hp : pc + 2 = pc')
    (K : ∀ h' b, b = h.size → Ext h h' → z_Ar Z h' b (newarray.typeOf aty) ad "" vs → z_At p l e R s m args below meth c n0 Q h' (k + 1) (n + cap) (mkF m pc' Ls (.ref b :: st))) : z_At p l e R s m args below meth c n0 Q h k n (mkF m pc Ls (.int z :: st)) := by
  subst hp hvs
  intro T L X N eT
  obtain ⟨T', h', cA, X', e', E, A, Ex, stp⟩ := newPE X C.1 C.2.1 w eT (g := mkF m pc Ls (.int z :: st)) rfl (hb C.2.2.2.1 hd) rfl hz hcap hb' hc hl had
  exact z_via stp (K h' _ rfl E ⟨_, A, by simp [newA], by simp; exact (back32 hz).2, Ex, Or.inl rfl⟩ T' L X' N e')
theorem z_anewarray (C : z_Cx Z p s m meth c own bytes ml rt nm) {Cn : String} {i : Nat} {z : Int32} (w : (Cond.classLink own i Cn).before a0 Z = true) (w2 : (Cond.arrayOver (.object Cn)).before a0 Z = true) (hz : ¬ z < 0) {cap : Nat} (hcap : z.toNatClampNeg ≤ cap) (hb' : cap * 8 ≤ 536870912) (had : "[" ++ (FieldType.object Cn).toString = ad) (hvs : List.replicate z.toNatClampNeg .null = vs) (hd : decode bytes pc = .ok (.anewarray i, 3)) (hc : k + 1 ≤ R.cells) (hl : n + cap ≤ R.slots) (pc' : Nat) (hp : pc + 3 = pc')
    (K : ∀ h' b, b = h.size → Ext h h' → z_Ar Z h' b (.object Cn) ad Cn vs → z_At p l e R s m args below meth c n0 Q h' (k + 1) (n + cap) (mkF m pc' Ls (.ref b :: st))) : z_At p l e R s m args below meth c n0 Q h k n (mkF m pc Ls (.int z :: st)) := by
  subst hp hvs
  intro T L X N eT
  obtain ⟨T', h', cA, X', e', E, A, Ex, O, stp⟩ := newRE X C.1 C.2.1 C.2.2.1 w w2 eT (g := mkF m pc Ls (.int z :: st)) rfl (hb C.2.2.2.1 hd) rfl hz hcap hb' hc hl had
  obtain ⟨kk, comp, o1, o2, o3⟩ := O
  exact z_via stp (K h' _ rfl E ⟨_, A, by simp [newA, defaultValue], by simp; exact (back32 hz).2, Ex, Or.inr ⟨kk, comp, _, o1, o2, o3⟩⟩ T' L X' N e')
theorem z_anewarrayA (C : z_Cx Z p s m meth c own bytes ml rt nm) {Cn : String} {i : Nat} {z : Int32} (hC : (FieldType.array ty).toString = Cn) (w : (Cond.classLink own i Cn).before a0 Z = true) (w2 : (Cond.arrayOver (.array ty)).before a0 Z = true) (hz : ¬ z < 0) {cap : Nat} (hcap : z.toNatClampNeg ≤ cap) (hb' : cap * 8 ≤ 536870912) (had : "[" ++ Cn = ad) (hvs : List.replicate z.toNatClampNeg .null = vs) (hd : decode bytes pc = .ok (.anewarray i, 3)) (hc : k + 1 ≤ R.cells) (hl : n + cap ≤ R.slots) (pc' : Nat) (hp : pc + 3 = pc')
    (K : ∀ h' b, b = h.size → Ext h h' → z_Ar Z h' b (.array ty) ad Cn vs → z_At p l e R s m args below meth c n0 Q h' (k + 1) (n + cap) (mkF m pc' Ls (.ref b :: st))) : z_At p l e R s m args below meth c n0 Q h k n (mkF m pc Ls (.int z :: st)) := by
  subst hp hvs
  intro T L X N eT
  obtain ⟨T', h', cA, X', e', E, A, Ex, O, stp⟩ := newRA X C.1 C.2.1 C.2.2.1 hC w w2 eT (g := mkF m pc Ls (.int z :: st)) rfl (hb C.2.2.2.1 hd) rfl hz hcap hb' hc hl had
  obtain ⟨kk, comp, o1, o2, o3⟩ := O
  exact z_via stp (K h' _ rfl E ⟨_, A, by simp [newA, defaultValue], by simp; exact (back32 hz).2, Ex, Or.inr ⟨kk, comp, _, o1, o2, o3⟩⟩ T' L X' N e')
end Arrays
theorem z_castY (C : z_Cx Z p s m meth c own bytes ml rt nm) {Kc : String} {i : Nat} {a : Addr} (w : (Cond.classLink own i Kc).before a0 Z = true) (I : Ins Z h a Kc true) (hd : decode bytes pc = .ok (.checkcast i, 3)) (pc' : Nat) (hp : pc + 3 = pc')
    (K : z_At p l e R s m args below meth c n0 Q h k n (mkF m pc' Ls (.ref a :: st))) : z_At p l e R s m args below meth c n0 Q h k n (mkF m pc Ls (.ref a :: st)) := by
  subst hp
  intro T L X N eT
  obtain ⟨T', X', e', stp⟩ := castY X C.1 C.2.1 C.2.2.1 w eT I (g := mkF m pc Ls (.ref a :: st)) rfl rfl (hb C.2.2.2.1 hd)
  exact z_via stp (K T' L X' N e')
theorem z_dup_x1 (C : z_Cx Z p s m meth c own bytes ml rt nm) {x y : Value} (hd : decode bytes pc = .ok (.dup_x1, 1)) (hx : x.category = 1) (hy : y.category = 1) (pc' : Nat) (hp : pc + 1 = pc')
    (K : z_At p l e R s m args below meth c n0 Q h k n (mkF m pc' Ls (x :: y :: x :: st))) : z_At p l e R s m args below meth c n0 Q h k n (mkF m pc Ls (x :: y :: st)) := by
  subst hp; exact z_of (fun T L X t hr => XS.dupX1 X.here C.1 rfl (hb C.2.2.2.1 hd) rfl hx hy hr) K
theorem z_dup2 (C : z_Cx Z p s m meth c own bytes ml rt nm) {x y : Value} (hd : decode bytes pc = .ok (.dup2, 1)) (hx : x.category = 1) (hy : y.category = 1) (pc' : Nat) (hp : pc + 1 = pc')
    (K : z_At p l e R s m args below meth c n0 Q h k n (mkF m pc' Ls (x :: y :: x :: y :: st))) : z_At p l e R s m args below meth c n0 Q h k n (mkF m pc Ls (x :: y :: st)) := by
  subst hp
  refine z_of (fun T L X t hr => ?_) K
  have hd' := hb C.2.2.2.1 hd
  have hx' := C.1
  jvm_step X.here [X.here.top, hx', hd', hx, hy]
  exact hr
/-! the old part of the heap, and places -/
theorem z_old {ws : List Addr} (X : Old Z n0 h) (K : Keep h h' ws) (q : ∀ x ∈ ws, n0 ≤ x) : Old Z n0 h' := X.keep K q
theorem z_Keep.trans {h'' : Heap} {ws ws' : List Addr} (K : Keep h h' ws) (K' : Keep h' h'' ws') (q : ∀ x ∈ ws', x ∈ ws ∨ h.size ≤ x) : Keep h h'' ws := K.trans K' q
theorem z_ke (E : Ext h h') : Keep h h' [] := (Keep.refl h []).ext E
theorem z_nil {α : Type} {P : α → Prop} : ∀ x ∈ ([] : List α), P x := fun _ q => nomatch q
theorem z_allS {α : Type} {P : α → Prop} {y : α} {L : List α} (q : P y) (r : ∀ x ∈ L, P x) : ∀ x ∈ y :: L, P x := fun x z => (List.mem_cons.mp z).elim (fun u => u ▸ q) (r x)
/-- a static that holds a, and what is known of a -/
def z_Sx (Z : State) (C f d : String) (a : Addr) (P : Prop) : Prop := Sta Z Z.heap C f d (.ref a) ∧ P
def z_layE : List (String × String × String) := [("java/lang/Enum", "ordinal", "I")]
def z_layN : List (String × String × String) := []
theorem z_En.ob {C f d : String} {i : Int32} {a : Addr} (E : z_En Z Z.heap C f d i a) : z_Sx Z C f d a (z_Ob Z Z.heap a C z_layE [.int i]) := ⟨E.1, E.2.1, rfl, fun j x v h1 h2 => by
  match j, h1, h2 with
  | 0, h1, h2 => cases h1; cases h2; exact E.2.2⟩
theorem z_exob {C f d : String} (hX : (Cond.exactly (.static C f d) C).value args Z none Z [] = some true) (w1 : (Cond.initialized C).before args Z = true) (w2 : (Cond.laysStatic C f d).before args Z = true) : ∃ a, z_Sx Z C f d a (z_Ob Z Z.heap a C z_layN []) := by
  obtain ⟨a, ea⟩ := exa_v hX
  exact ⟨a, Sta.start ea (Or.inr ⟨w1, w2⟩), Exa.start ea hX, rfl, fun j x v h1 h2 => by cases h1⟩
theorem z_sets {L : List Jvm.Cond} {R : Jvm.Cond} (q : (L.foldr Jvm.Cond.and R).before args s = true) : ∀ c ∈ L, c.before args s = true := by
  induction L with
  | nil => intro c hc; cases hc
  | cons a L ih =>
    intro c hc
    have q' : (Jvm.Cond.and a (L.foldr Jvm.Cond.and R)).before args s = true := q
    rw [Cond.before_and, Bool.and_eq_true] at q'
    rcases List.mem_cons.mp hc with rfl | hc
    · exact q'.1
    · exact ih q'.2 c hc
theorem z_starr {C f d ad K : String} {ty : FieldType} (hA : (Cond.arrayOf (.static C f d) ty).value args Z none Z [] = some true) (hX : (Cond.exactly (.static C f d) ad).value args Z none Z [] = some true) (hL : (Cond.eq (.length (.static C f d)) (.int 0)).value args Z none Z [] = some true) (hi : (Cond.initializedFor C f d).before args Z = true ∨ ((Cond.initialized C).before args Z = true ∧ (Cond.laysStatic C f d).before args Z = true)) (hK : K = "" := by rfl) : ∃ a, z_Sx Z C f d a (z_Ar Z Z.heap a ty ad K []) := by
  obtain ⟨a, ea⟩ := arr_v hA
  obtain ⟨cl, A⟩ := Arr.start ea hA
  refine ⟨a, Sta.start ea hi, cl, A, ?_, by decide, Exa.start ea hX, Or.inl hK⟩
  obtain ⟨x, y, e1, e2, -, -⟩ := cmp_v (Or.inl hL)
  obtain ⟨a', cl', e3, e4, e5⟩ := Term.length_spec e1
  cases ea.symm.trans e3
  have e6 : cl' = cl := by
    have := (State.arrayAt?_spec e4).1
    exact Option.some.inj (this.symm.trans A.1)
  subst e6
  have e7 : y = .int 0 := by simpa [Term.eval] using e2.symm
  subst e7
  subst e5
  have e8 : cl'.slots.size < 2 ^ 31 := by
    by_cases q : cl'.slots.size < 2 ^ 31
    · exact q
    · clear hL hA hX
      revert e1 ea
      generalize Term.static C f d = t
      intro ea e1
      simp [Term.eval, ea, e4, q] at e1
  have e9 : cl'.slots.size.toInt32 = 0 := by simpa [Cond.value, e1, e2] using hL
  have e10 : (cl'.slots.size : Int) = 0 := by rw [← len_toInt e8, e9]; rfl
  have : cl'.slots.size = 0 := by omega
  simpa using this
theorem z_stob {C f d ff : String} {i : Int32} (hX : (Cond.exactly (.static C f d) C).value args Z none Z [] = some true) (hO : (Cond.eq (.field (.static C f d) C ff "I") (.int i)).value args Z none Z [] = some true) (hi : (Cond.initializedFor C f d).before args Z = true ∨ ((Cond.initialized C).before args Z = true ∧ (Cond.laysStatic C f d).before args Z = true)) : ∃ a, z_Sx Z C f d a (z_Ob Z Z.heap a C [(C, ff, "I")] [.int i]) := by
  obtain ⟨a, ea⟩ := exa_v hX
  refine ⟨a, Sta.start ea hi, Exa.start ea hX, rfl, fun j x v h1 h2 => ?_⟩
  match j, h1, h2 with
  | 0, h1, h2 => cases h1; cases h2; exact z_fldv ea hO
theorem z_Ob.ne {a b : Addr} {C C' : String} {lay lay' : List (String × String × String)} {vs vs' : List Value} {x : String × String × String} {v v' : Value} (F : z_Ob Z h a C lay vs) (G : z_Ob Z h b C' lay' vs') (i j : Nat) (h1 : lay[i]? = some x) (h2 : vs[i]? = some v) (h3 : lay'[j]? = some x) (h4 : vs'[j]? = some v') (q : v ≠ v') : a ≠ b := (F.2.2 i x v h1 h2).ne (G.2.2 j x v' h3 h4) q
end OwnHeap
def z_layB : List (String × String × String) := [("java/math/BigInteger", "signum", "I")]
theorem z_pd0 : parseMethodDescriptor "()V" = some ⟨[], none⟩ := by decide +kernel
theorem z_pd1 : parseMethodDescriptor "(I)I" = some ⟨[.int], some .int⟩ := by decide +kernel
theorem z_pd2 : parseMethodDescriptor "(I)V" = some ⟨[.int], none⟩ := by decide +kernel
theorem z_pd3 : parseMethodDescriptor "(II)I" = some ⟨[.int, .int], some .int⟩ := by decide +kernel
theorem z_pd4 : parseMethodDescriptor "(I)[Ljava/lang/Object;" = some ⟨[.int], some (.array (.object "java/lang/Object"))⟩ := by decide +kernel
theorem z_pd5 : parseMethodDescriptor "()[Ljava/lang/Object;" = some ⟨[], some (.array (.object "java/lang/Object"))⟩ := by decide +kernel
theorem z_pd6 : parseMethodDescriptor "(Ljava/lang/Object;[Ljava/lang/Object;I)V" = some ⟨[(.object "java/lang/Object"), (.array (.object "java/lang/Object")), .int], none⟩ := by decide +kernel
theorem z_pd7 : parseMethodDescriptor "(Ljava/lang/Object;)Z" = some ⟨[(.object "java/lang/Object")], some .boolean⟩ := by decide +kernel
theorem z_pd8 : parseMethodDescriptor "()I" = some ⟨[], some .int⟩ := by decide +kernel
theorem z_pd9 : parseMethodDescriptor "(IILjava/util/function/BiFunction;)I" = some ⟨[.int, .int, (.object "java/util/function/BiFunction")], some .int⟩ := by decide +kernel
theorem z_pd10 : parseMethodDescriptor "(I)Ljava/lang/Object;" = some ⟨[.int], some (.object "java/lang/Object")⟩ := by decide +kernel
theorem z_pd11 : parseMethodDescriptor "(I)Ljava/math/BigInteger;" = some ⟨[.int], some (.object "java/math/BigInteger")⟩ := by decide +kernel
theorem z_pd12 : parseMethodDescriptor "()Ljava/util/List;" = some ⟨[], some (.object "java/util/List")⟩ := by decide +kernel
theorem z_pd13 : parseMethodDescriptor "([II)V" = some ⟨[(.array .int), .int], none⟩ := by decide +kernel
theorem z_pd14 : parseMethodDescriptor "(Ljava/util/ArrayList;)V" = some ⟨[(.object "java/util/ArrayList")], none⟩ := by decide +kernel
theorem z_pd15 : parseMethodDescriptor "()Ljava/util/Iterator;" = some ⟨[], some (.object "java/util/Iterator")⟩ := by decide +kernel
theorem z_pd16 : parseMethodDescriptor "()Z" = some ⟨[], some .boolean⟩ := by decide +kernel
theorem z_pd17 : parseMethodDescriptor "([Ljava/lang/Object;Ljava/lang/Object;)V" = some ⟨[(.array (.object "java/lang/Object")), (.object "java/lang/Object")], none⟩ := by decide +kernel
theorem z_pd18 : parseMethodDescriptor "(Lcom/example/variegate/variegate/service/Cnf;)V" = some ⟨[(.object "com/example/variegate/variegate/service/Cnf")], none⟩ := by decide +kernel
theorem z_pd19 : parseMethodDescriptor "(Lcom/example/variegate/variegate/service/Propagation;IZ)Z" = some ⟨[(.object "com/example/variegate/variegate/service/Propagation"), .int, .boolean], some .boolean⟩ := by decide +kernel
theorem z_d1_0 : decode prog_73_method_1_code 0 = .ok (.aload_n 0, 1) := by decide +kernel
theorem z_d1_1 : decode prog_73_method_1_code 1 = .ok (.invokespecial 1, 3) := by decide +kernel
theorem z_d1_4 : decode prog_73_method_1_code 4 = .ok (.aload_n 0, 1) := by decide +kernel
theorem z_d1_5 : decode prog_73_method_1_code 5 = .ok (.new 7, 3) := by decide +kernel
theorem z_d1_8 : decode prog_73_method_1_code 8 = .ok (.dup, 1) := by decide +kernel
theorem z_d1_9 : decode prog_73_method_1_code 9 = .ok (.invokespecial 9, 3) := by decide +kernel
theorem z_d3_0 : decode jdk_38_method_2_code 0 = .ok (.aload_n 0, 1) := by decide +kernel
theorem z_d3_1 : decode jdk_38_method_2_code 1 = .ok (.invokespecial 1, 3) := by decide +kernel
theorem z_d4_0 : decode jdk_39_method_1_code 0 = .ok (.aload_n 0, 1) := by decide +kernel
theorem z_d4_1 : decode jdk_39_method_1_code 1 = .ok (.invokespecial 1, 3) := by decide +kernel
theorem z_d5_0 : decode jdk_22_method_1_code 0 = .ok (.aload_n 0, 1) := by decide +kernel
theorem z_d5_1 : decode jdk_22_method_1_code 1 = .ok (.invokespecial 1, 3) := by decide +kernel
theorem z_d5_4 : decode jdk_22_method_1_code 4 = .ok (.return_, 1) := by decide +kernel
theorem z_d4_4 : decode jdk_39_method_1_code 4 = .ok (.aload_n 0, 1) := by decide +kernel
theorem z_d4_5 : decode jdk_39_method_1_code 5 = .ok (.iconst 0, 1) := by decide +kernel
theorem z_d4_6 : decode jdk_39_method_1_code 6 = .ok (.putfield 7, 3) := by decide +kernel
theorem z_d4_9 : decode jdk_39_method_1_code 9 = .ok (.return_, 1) := by decide +kernel
theorem z_d3_4 : decode jdk_38_method_2_code 4 = .ok (.aload_n 0, 1) := by decide +kernel
theorem z_d3_5 : decode jdk_38_method_2_code 5 = .ok (.getstatic 39, 3) := by decide +kernel
theorem z_d3_8 : decode jdk_38_method_2_code 8 = .ok (.putfield 9, 3) := by decide +kernel
theorem z_d3_11 : decode jdk_38_method_2_code 11 = .ok (.return_, 1) := by decide +kernel
theorem z_d1_12 : decode prog_73_method_1_code 12 = .ok (.putfield 10, 3) := by decide +kernel
theorem z_d1_15 : decode prog_73_method_1_code 15 = .ok (.aload_n 0, 1) := by decide +kernel
theorem z_d1_16 : decode prog_73_method_1_code 16 = .ok (.new 16, 3) := by decide +kernel
theorem z_d1_19 : decode prog_73_method_1_code 19 = .ok (.dup, 1) := by decide +kernel
theorem z_d1_20 : decode prog_73_method_1_code 20 = .ok (.invokespecial 18, 3) := by decide +kernel
theorem z_d6_0 : decode jdk_92_method_4_code 0 = .ok (.aload_n 0, 1) := by decide +kernel
theorem z_d6_1 : decode jdk_92_method_4_code 1 = .ok (.invokespecial 21, 3) := by decide +kernel
theorem z_d6_4 : decode jdk_92_method_4_code 4 = .ok (.aload_n 0, 1) := by decide +kernel
theorem z_d6_5 : decode jdk_92_method_4_code 5 = .ok (.iconst 0, 1) := by decide +kernel
theorem z_d6_6 : decode jdk_92_method_4_code 6 = .ok (.putfield 7, 3) := by decide +kernel
theorem z_d6_9 : decode jdk_92_method_4_code 9 = .ok (.aload_n 0, 1) := by decide +kernel
theorem z_d6_10 : decode jdk_92_method_4_code 10 = .ok (.iconst 0, 1) := by decide +kernel
theorem z_d6_11 : decode jdk_92_method_4_code 11 = .ok (.putfield 24, 3) := by decide +kernel
theorem z_d6_14 : decode jdk_92_method_4_code 14 = .ok (.aload_n 0, 1) := by decide +kernel
theorem z_d6_15 : decode jdk_92_method_4_code 15 = .ok (.bipush 64, 2) := by decide +kernel
theorem z_d6_17 : decode jdk_92_method_4_code 17 = .ok (.invokevirtual 27, 3) := by decide +kernel
theorem z_d7_0 : decode jdk_92_method_6_code 0 = .ok (.aload_n 0, 1) := by decide +kernel
theorem z_d7_1 : decode jdk_92_method_6_code 1 = .ok (.iload_n 1, 1) := by decide +kernel
theorem z_d7_2 : decode jdk_92_method_6_code 2 = .ok (.iconst 1, 1) := by decide +kernel
theorem z_d7_3 : decode jdk_92_method_6_code 3 = .ok (.isub, 1) := by decide +kernel
theorem z_d7_4 : decode jdk_92_method_6_code 4 = .ok (.invokestatic 52, 3) := by decide +kernel
theorem z_d8_0 : decode jdk_92_method_1_code 0 = .ok (.iload_n 0, 1) := by decide +kernel
theorem z_d8_1 : decode jdk_92_method_1_code 1 = .ok (.bipush 6, 2) := by decide +kernel
theorem z_d8_3 : decode jdk_92_method_1_code 3 = .ok (.ishr, 1) := by decide +kernel
theorem z_d8_4 : decode jdk_92_method_1_code 4 = .ok (.ireturn, 1) := by decide +kernel
theorem z_d7_7 : decode jdk_92_method_6_code 7 = .ok (.iconst 1, 1) := by decide +kernel
theorem z_d7_8 : decode jdk_92_method_6_code 8 = .ok (.iadd, 1) := by decide +kernel
theorem z_d7_9 : decode jdk_92_method_6_code 9 = .ok (.newarray .long, 2) := by decide +kernel
theorem z_d7_11 : decode jdk_92_method_6_code 11 = .ok (.putfield 11, 3) := by decide +kernel
theorem z_d7_14 : decode jdk_92_method_6_code 14 = .ok (.return_, 1) := by decide +kernel
theorem z_d6_20 : decode jdk_92_method_4_code 20 = .ok (.aload_n 0, 1) := by decide +kernel
theorem z_d6_21 : decode jdk_92_method_4_code 21 = .ok (.iconst 0, 1) := by decide +kernel
theorem z_d6_22 : decode jdk_92_method_4_code 22 = .ok (.putfield 24, 3) := by decide +kernel
theorem z_d6_25 : decode jdk_92_method_4_code 25 = .ok (.return_, 1) := by decide +kernel
theorem z_d1_23 : decode prog_73_method_1_code 23 = .ok (.putfield 19, 3) := by decide +kernel
theorem z_d1_26 : decode prog_73_method_1_code 26 = .ok (.aload_n 0, 1) := by decide +kernel
theorem z_d1_27 : decode prog_73_method_1_code 27 = .ok (.new 7, 3) := by decide +kernel
theorem z_d1_30 : decode prog_73_method_1_code 30 = .ok (.dup, 1) := by decide +kernel
theorem z_d1_31 : decode prog_73_method_1_code 31 = .ok (.invokespecial 9, 3) := by decide +kernel
theorem z_d1_34 : decode prog_73_method_1_code 34 = .ok (.putfield 23, 3) := by decide +kernel
theorem z_d1_37 : decode prog_73_method_1_code 37 = .ok (.aload_n 0, 1) := by decide +kernel
theorem z_d1_38 : decode prog_73_method_1_code 38 = .ok (.new 7, 3) := by decide +kernel
theorem z_d1_41 : decode prog_73_method_1_code 41 = .ok (.dup, 1) := by decide +kernel
theorem z_d1_42 : decode prog_73_method_1_code 42 = .ok (.invokespecial 9, 3) := by decide +kernel
theorem z_d1_45 : decode prog_73_method_1_code 45 = .ok (.putfield 26, 3) := by decide +kernel
theorem z_d1_48 : decode prog_73_method_1_code 48 = .ok (.aload_n 0, 1) := by decide +kernel
theorem z_d1_49 : decode prog_73_method_1_code 49 = .ok (.iconst 0, 1) := by decide +kernel
theorem z_d1_50 : decode prog_73_method_1_code 50 = .ok (.newarray .long, 2) := by decide +kernel
theorem z_d1_52 : decode prog_73_method_1_code 52 = .ok (.putfield 29, 3) := by decide +kernel
theorem z_d1_55 : decode prog_73_method_1_code 55 = .ok (.return_, 1) := by decide +kernel
theorem z_d9_0 : decode prog_73_method_2_code 0 = .ok (.aload_n 0, 1) := by decide +kernel
theorem z_d9_1 : decode prog_73_method_2_code 1 = .ok (.getfield 23, 3) := by decide +kernel
theorem z_d9_4 : decode prog_73_method_2_code 4 = .ok (.getstatic 33, 3) := by decide +kernel
theorem z_d9_7 : decode prog_73_method_2_code 7 = .ok (.invokeinterface 39 2, 5) := by decide +kernel
theorem z_d10_0 : decode jdk_38_method_25_code 0 = .ok (.aload_n 0, 1) := by decide +kernel
theorem z_d10_1 : decode jdk_38_method_25_code 1 = .ok (.dup, 1) := by decide +kernel
theorem z_d10_2 : decode jdk_38_method_25_code 2 = .ok (.getfield 63, 3) := by decide +kernel
theorem z_d10_5 : decode jdk_38_method_25_code 5 = .ok (.iconst 1, 1) := by decide +kernel
theorem z_d10_6 : decode jdk_38_method_25_code 6 = .ok (.iadd, 1) := by decide +kernel
theorem z_d10_7 : decode jdk_38_method_25_code 7 = .ok (.putfield 63, 3) := by decide +kernel
theorem z_d10_10 : decode jdk_38_method_25_code 10 = .ok (.aload_n 0, 1) := by decide +kernel
theorem z_d10_11 : decode jdk_38_method_25_code 11 = .ok (.aload_n 1, 1) := by decide +kernel
theorem z_d10_12 : decode jdk_38_method_25_code 12 = .ok (.aload_n 0, 1) := by decide +kernel
theorem z_d10_13 : decode jdk_38_method_25_code 13 = .ok (.getfield 9, 3) := by decide +kernel
theorem z_d10_16 : decode jdk_38_method_25_code 16 = .ok (.aload_n 0, 1) := by decide +kernel
theorem z_d10_17 : decode jdk_38_method_25_code 17 = .ok (.getfield 48, 3) := by decide +kernel
theorem z_d10_20 : decode jdk_38_method_25_code 20 = .ok (.invokevirtual 131, 3) := by decide +kernel
theorem z_d11_0 : decode jdk_38_method_24_code 0 = .ok (.iload_n 3, 1) := by decide +kernel
theorem z_d11_1 : decode jdk_38_method_24_code 1 = .ok (.aload_n 2, 1) := by decide +kernel
theorem z_d11_2 : decode jdk_38_method_24_code 2 = .ok (.arraylength, 1) := by decide +kernel
theorem z_d11_3 : decode jdk_38_method_24_code 3 = .ok (.if_icmp .ne 8, 3) := by decide +kernel
theorem z_d11_6 : decode jdk_38_method_24_code 6 = .ok (.aload_n 0, 1) := by decide +kernel
theorem z_d11_7 : decode jdk_38_method_24_code 7 = .ok (.invokevirtual 129, 3) := by decide +kernel
theorem z_d12_0 : decode jdk_38_method_7_code 0 = .ok (.aload_n 0, 1) := by decide +kernel
theorem z_d12_1 : decode jdk_38_method_7_code 1 = .ok (.aload_n 0, 1) := by decide +kernel
theorem z_d12_2 : decode jdk_38_method_7_code 2 = .ok (.getfield 48, 3) := by decide +kernel
theorem z_d12_5 : decode jdk_38_method_7_code 5 = .ok (.iconst 1, 1) := by decide +kernel
theorem z_d12_6 : decode jdk_38_method_7_code 6 = .ok (.iadd, 1) := by decide +kernel
theorem z_d12_7 : decode jdk_38_method_7_code 7 = .ok (.invokevirtual 69, 3) := by decide +kernel
theorem z_d13_0 : decode jdk_38_method_6_code 0 = .ok (.aload_n 0, 1) := by decide +kernel
theorem z_d13_1 : decode jdk_38_method_6_code 1 = .ok (.getfield 9, 3) := by decide +kernel
theorem z_d13_4 : decode jdk_38_method_6_code 4 = .ok (.arraylength, 1) := by decide +kernel
theorem z_d13_5 : decode jdk_38_method_6_code 5 = .ok (.istore_n 2, 1) := by decide +kernel
theorem z_d13_6 : decode jdk_38_method_6_code 6 = .ok (.iload_n 2, 1) := by decide +kernel
theorem z_d13_7 : decode jdk_38_method_6_code 7 = .ok (.ifCond .gt 13, 3) := by decide +kernel
theorem z_d13_10 : decode jdk_38_method_6_code 10 = .ok (.aload_n 0, 1) := by decide +kernel
theorem z_d13_11 : decode jdk_38_method_6_code 11 = .ok (.getfield 9, 3) := by decide +kernel
theorem z_d13_14 : decode jdk_38_method_6_code 14 = .ok (.getstatic 39, 3) := by decide +kernel
theorem z_d13_17 : decode jdk_38_method_6_code 17 = .ok (.if_acmp .eq 28, 3) := by decide +kernel
theorem z_d13_45 : decode jdk_38_method_6_code 45 = .ok (.aload_n 0, 1) := by decide +kernel
theorem z_d13_46 : decode jdk_38_method_6_code 46 = .ok (.bipush 10, 2) := by decide +kernel
theorem z_d13_48 : decode jdk_38_method_6_code 48 = .ok (.iload_n 1, 1) := by decide +kernel
theorem z_d13_49 : decode jdk_38_method_6_code 49 = .ok (.invokestatic 79, 3) := by decide +kernel
theorem z_d14_0 : decode jdk_29_method_65_code 0 = .ok (.iload_n 0, 1) := by decide +kernel
theorem z_d14_1 : decode jdk_29_method_65_code 1 = .ok (.iload_n 1, 1) := by decide +kernel
theorem z_d14_2 : decode jdk_29_method_65_code 2 = .ok (.if_icmp .lt 7, 3) := by decide +kernel
theorem z_d14_5 : decode jdk_29_method_65_code 5 = .ok (.iload_n 0, 1) := by decide +kernel
theorem z_d14_6 : decode jdk_29_method_65_code 6 = .ok (.goto 4, 3) := by decide +kernel
theorem z_d14_10 : decode jdk_29_method_65_code 10 = .ok (.ireturn, 1) := by decide +kernel
theorem z_d13_52 : decode jdk_38_method_6_code 52 = .ok (.anewarray 7, 3) := by decide +kernel
theorem z_d13_55 : decode jdk_38_method_6_code 55 = .ok (.dup_x1, 1) := by decide +kernel
theorem z_d13_56 : decode jdk_38_method_6_code 56 = .ok (.putfield 9, 3) := by decide +kernel
theorem z_d13_59 : decode jdk_38_method_6_code 59 = .ok (.areturn, 1) := by decide +kernel
theorem z_d12_10 : decode jdk_38_method_7_code 10 = .ok (.areturn, 1) := by decide +kernel
theorem z_d11_10 : decode jdk_38_method_24_code 10 = .ok (.astore_n 2, 1) := by decide +kernel
theorem z_d11_11 : decode jdk_38_method_24_code 11 = .ok (.aload_n 2, 1) := by decide +kernel
theorem z_d11_12 : decode jdk_38_method_24_code 12 = .ok (.iload_n 3, 1) := by decide +kernel
theorem z_d11_13 : decode jdk_38_method_24_code 13 = .ok (.aload_n 1, 1) := by decide +kernel
theorem z_d11_14 : decode jdk_38_method_24_code 14 = .ok (.aastore, 1) := by decide +kernel
theorem z_d11_15 : decode jdk_38_method_24_code 15 = .ok (.aload_n 0, 1) := by decide +kernel
theorem z_d11_16 : decode jdk_38_method_24_code 16 = .ok (.iload_n 3, 1) := by decide +kernel
theorem z_d11_17 : decode jdk_38_method_24_code 17 = .ok (.iconst 1, 1) := by decide +kernel
theorem z_d11_18 : decode jdk_38_method_24_code 18 = .ok (.iadd, 1) := by decide +kernel
theorem z_d11_19 : decode jdk_38_method_24_code 19 = .ok (.putfield 48, 3) := by decide +kernel
theorem z_d11_22 : decode jdk_38_method_24_code 22 = .ok (.return_, 1) := by decide +kernel
theorem z_d10_23 : decode jdk_38_method_25_code 23 = .ok (.iconst 1, 1) := by decide +kernel
theorem z_d10_24 : decode jdk_38_method_25_code 24 = .ok (.ireturn, 1) := by decide +kernel
theorem z_d9_12 : decode prog_73_method_2_code 12 = .ok (.pop, 1) := by decide +kernel
theorem z_d9_13 : decode prog_73_method_2_code 13 = .ok (.aload_n 0, 1) := by decide +kernel
theorem z_d9_14 : decode prog_73_method_2_code 14 = .ok (.getfield 26, 3) := by decide +kernel
theorem z_d9_17 : decode prog_73_method_2_code 17 = .ok (.getstatic 33, 3) := by decide +kernel
theorem z_d9_20 : decode prog_73_method_2_code 20 = .ok (.invokeinterface 39 2, 5) := by decide +kernel
theorem z_d9_25 : decode prog_73_method_2_code 25 = .ok (.pop, 1) := by decide +kernel
theorem z_d9_26 : decode prog_73_method_2_code 26 = .ok (.aload_n 0, 1) := by decide +kernel
theorem z_d9_27 : decode prog_73_method_2_code 27 = .ok (.getfield 23, 3) := by decide +kernel
theorem z_d9_30 : decode prog_73_method_2_code 30 = .ok (.invokeinterface 45 1, 5) := by decide +kernel
theorem z_d15_0 : decode jdk_38_method_8_code 0 = .ok (.aload_n 0, 1) := by decide +kernel
theorem z_d15_1 : decode jdk_38_method_8_code 1 = .ok (.getfield 48, 3) := by decide +kernel
theorem z_d15_4 : decode jdk_38_method_8_code 4 = .ok (.ireturn, 1) := by decide +kernel
theorem z_d9_35 : decode prog_73_method_2_code 35 = .ok (.ireturn, 1) := by decide +kernel
theorem z_d16_0 : decode prog_97_method_1_code 0 = .ok (.aload_n 0, 1) := by decide +kernel
theorem z_d16_1 : decode prog_97_method_1_code 1 = .ok (.invokespecial 1, 3) := by decide +kernel
theorem z_d16_4 : decode prog_97_method_1_code 4 = .ok (.aload_n 0, 1) := by decide +kernel
theorem z_d16_5 : decode prog_97_method_1_code 5 = .ok (.aload_n 1, 1) := by decide +kernel
theorem z_d16_6 : decode prog_97_method_1_code 6 = .ok (.invokevirtual 7, 3) := by decide +kernel
theorem z_d17_0 : decode prog_73_method_8_code 0 = .ok (.aload_n 0, 1) := by decide +kernel
theorem z_d17_1 : decode prog_73_method_8_code 1 = .ok (.getfield 23, 3) := by decide +kernel
theorem z_d17_4 : decode prog_73_method_8_code 4 = .ok (.invokeinterface 45 1, 5) := by decide +kernel
theorem z_d17_9 : decode prog_73_method_8_code 9 = .ok (.ireturn, 1) := by decide +kernel
theorem z_d16_9 : decode prog_97_method_1_code 9 = .ok (.putfield 13, 3) := by decide +kernel
theorem z_d16_12 : decode prog_97_method_1_code 12 = .ok (.aload_n 0, 1) := by decide +kernel
theorem z_d16_13 : decode prog_97_method_1_code 13 = .ok (.iconst 2, 1) := by decide +kernel
theorem z_d16_14 : decode prog_97_method_1_code 14 = .ok (.aload_n 0, 1) := by decide +kernel
theorem z_d16_15 : decode prog_97_method_1_code 15 = .ok (.getfield 13, 3) := by decide +kernel
theorem z_d16_18 : decode prog_97_method_1_code 18 = .ok (.imul, 1) := by decide +kernel
theorem z_d16_19 : decode prog_97_method_1_code 19 = .ok (.iconst 2, 1) := by decide +kernel
theorem z_d16_20 : decode prog_97_method_1_code 20 = .ok (.iadd, 1) := by decide +kernel
theorem z_d16_21 : decode prog_97_method_1_code 21 = .ok (.anewarray 18, 3) := by decide +kernel
theorem z_d16_24 : decode prog_97_method_1_code 24 = .ok (.putfield 20, 3) := by decide +kernel
theorem z_d16_27 : decode prog_97_method_1_code 27 = .ok (.iconst 1, 1) := by decide +kernel
theorem z_d16_28 : decode prog_97_method_1_code 28 = .ok (.istore_n 2, 1) := by decide +kernel
theorem z_d16_29 : decode prog_97_method_1_code 29 = .ok (.iload_n 2, 1) := by decide +kernel
theorem z_d16_30 : decode prog_97_method_1_code 30 = .ok (.aload_n 0, 1) := by decide +kernel
theorem z_d16_31 : decode prog_97_method_1_code 31 = .ok (.getfield 13, 3) := by decide +kernel
theorem z_d16_34 : decode prog_97_method_1_code 34 = .ok (.if_icmp .gt 38, 3) := by decide +kernel
theorem z_d16_37 : decode prog_97_method_1_code 37 = .ok (.aload_n 0, 1) := by decide +kernel
theorem z_d16_38 : decode prog_97_method_1_code 38 = .ok (.getfield 20, 3) := by decide +kernel
theorem z_d16_41 : decode prog_97_method_1_code 41 = .ok (.iconst 2, 1) := by decide +kernel
theorem z_d16_42 : decode prog_97_method_1_code 42 = .ok (.iload_n 2, 1) := by decide +kernel
theorem z_d16_43 : decode prog_97_method_1_code 43 = .ok (.imul, 1) := by decide +kernel
theorem z_d16_44 : decode prog_97_method_1_code 44 = .ok (.aload_n 1, 1) := by decide +kernel
theorem z_d16_45 : decode prog_97_method_1_code 45 = .ok (.iload_n 2, 1) := by decide +kernel
theorem z_d16_46 : decode prog_97_method_1_code 46 = .ok (.invokevirtual 24, 3) := by decide +kernel
theorem z_d18_0 : decode prog_73_method_10_code 0 = .ok (.iload_n 1, 1) := by decide +kernel
theorem z_d18_1 : decode prog_73_method_10_code 1 = .ok (.ifCond .le 21, 3) := by decide +kernel
theorem z_d18_4 : decode prog_73_method_10_code 4 = .ok (.aload_n 0, 1) := by decide +kernel
theorem z_d18_5 : decode prog_73_method_10_code 5 = .ok (.getfield 23, 3) := by decide +kernel
theorem z_d18_8 : decode prog_73_method_10_code 8 = .ok (.iload_n 1, 1) := by decide +kernel
theorem z_d18_9 : decode prog_73_method_10_code 9 = .ok (.iconst 1, 1) := by decide +kernel
theorem z_d18_10 : decode prog_73_method_10_code 10 = .ok (.isub, 1) := by decide +kernel
theorem z_d18_11 : decode prog_73_method_10_code 11 = .ok (.invokeinterface 106 2, 5) := by decide +kernel
theorem z_d19_0 : decode jdk_38_method_20_code 0 = .ok (.iload_n 1, 1) := by decide +kernel
theorem z_d19_1 : decode jdk_38_method_20_code 1 = .ok (.aload_n 0, 1) := by decide +kernel
theorem z_d19_2 : decode jdk_38_method_20_code 2 = .ok (.getfield 48, 3) := by decide +kernel
theorem z_d19_5 : decode jdk_38_method_20_code 5 = .ok (.invokestatic 118, 3) := by decide +kernel
theorem z_d20_0 : decode jdk_31_method_17_code 0 = .ok (.iload_n 0, 1) := by decide +kernel
theorem z_d20_1 : decode jdk_31_method_17_code 1 = .ok (.iload_n 1, 1) := by decide +kernel
theorem z_d20_2 : decode jdk_31_method_17_code 2 = .ok (.aconst_null, 1) := by decide +kernel
theorem z_d20_3 : decode jdk_31_method_17_code 3 = .ok (.invokestatic 105, 3) := by decide +kernel
theorem z_d21_0 : decode jdk_41_method_11_code 0 = .ok (.iload_n 0, 1) := by decide +kernel
theorem z_d21_1 : decode jdk_41_method_11_code 1 = .ok (.ifCond .lt 8, 3) := by decide +kernel
theorem z_d21_4 : decode jdk_41_method_11_code 4 = .ok (.iload_n 0, 1) := by decide +kernel
theorem z_d21_5 : decode jdk_41_method_11_code 5 = .ok (.iload_n 1, 1) := by decide +kernel
theorem z_d21_6 : decode jdk_41_method_11_code 6 = .ok (.if_icmp .lt 10, 3) := by decide +kernel
theorem z_d21_16 : decode jdk_41_method_11_code 16 = .ok (.iload_n 0, 1) := by decide +kernel
theorem z_d21_17 : decode jdk_41_method_11_code 17 = .ok (.ireturn, 1) := by decide +kernel
theorem z_d20_6 : decode jdk_31_method_17_code 6 = .ok (.ireturn, 1) := by decide +kernel
theorem z_d19_8 : decode jdk_38_method_20_code 8 = .ok (.pop, 1) := by decide +kernel
theorem z_d19_9 : decode jdk_38_method_20_code 9 = .ok (.aload_n 0, 1) := by decide +kernel
theorem z_d19_10 : decode jdk_38_method_20_code 10 = .ok (.iload_n 1, 1) := by decide +kernel
theorem z_d19_11 : decode jdk_38_method_20_code 11 = .ok (.invokevirtual 123, 3) := by decide +kernel
theorem z_d22_0 : decode jdk_38_method_18_code 0 = .ok (.aload_n 0, 1) := by decide +kernel
theorem z_d22_1 : decode jdk_38_method_18_code 1 = .ok (.getfield 9, 3) := by decide +kernel
theorem z_d22_4 : decode jdk_38_method_18_code 4 = .ok (.iload_n 1, 1) := by decide +kernel
theorem z_d22_5 : decode jdk_38_method_18_code 5 = .ok (.aaload, 1) := by decide +kernel
theorem z_d22_6 : decode jdk_38_method_18_code 6 = .ok (.areturn, 1) := by decide +kernel
theorem z_d19_14 : decode jdk_38_method_20_code 14 = .ok (.areturn, 1) := by decide +kernel
theorem z_d18_16 : decode prog_73_method_10_code 16 = .ok (.checkcast 34, 3) := by decide +kernel
theorem z_d18_19 : decode prog_73_method_10_code 19 = .ok (.goto 19, 3) := by decide +kernel
theorem z_d18_38 : decode prog_73_method_10_code 38 = .ok (.areturn, 1) := by decide +kernel
theorem z_d16_49 : decode prog_97_method_1_code 49 = .ok (.aastore, 1) := by decide +kernel
theorem z_d16_50 : decode prog_97_method_1_code 50 = .ok (.aload_n 0, 1) := by decide +kernel
theorem z_d16_51 : decode prog_97_method_1_code 51 = .ok (.getfield 20, 3) := by decide +kernel
theorem z_d16_54 : decode prog_97_method_1_code 54 = .ok (.iconst 2, 1) := by decide +kernel
theorem z_d16_55 : decode prog_97_method_1_code 55 = .ok (.iload_n 2, 1) := by decide +kernel
theorem z_d16_56 : decode prog_97_method_1_code 56 = .ok (.imul, 1) := by decide +kernel
theorem z_d16_57 : decode prog_97_method_1_code 57 = .ok (.iconst 1, 1) := by decide +kernel
theorem z_d16_58 : decode prog_97_method_1_code 58 = .ok (.iadd, 1) := by decide +kernel
theorem z_d16_59 : decode prog_97_method_1_code 59 = .ok (.aload_n 1, 1) := by decide +kernel
theorem z_d16_60 : decode prog_97_method_1_code 60 = .ok (.iload_n 2, 1) := by decide +kernel
theorem z_d16_61 : decode prog_97_method_1_code 61 = .ok (.ineg, 1) := by decide +kernel
theorem z_d16_62 : decode prog_97_method_1_code 62 = .ok (.invokevirtual 24, 3) := by decide +kernel
theorem z_d18_22 : decode prog_73_method_10_code 22 = .ok (.aload_n 0, 1) := by decide +kernel
theorem z_d18_23 : decode prog_73_method_10_code 23 = .ok (.getfield 26, 3) := by decide +kernel
theorem z_d18_26 : decode prog_73_method_10_code 26 = .ok (.iload_n 1, 1) := by decide +kernel
theorem z_d18_27 : decode prog_73_method_10_code 27 = .ok (.ineg, 1) := by decide +kernel
theorem z_d18_28 : decode prog_73_method_10_code 28 = .ok (.iconst 1, 1) := by decide +kernel
theorem z_d18_29 : decode prog_73_method_10_code 29 = .ok (.isub, 1) := by decide +kernel
theorem z_d18_30 : decode prog_73_method_10_code 30 = .ok (.invokeinterface 106 2, 5) := by decide +kernel
theorem z_d18_35 : decode prog_73_method_10_code 35 = .ok (.checkcast 34, 3) := by decide +kernel
theorem z_d16_65 : decode prog_97_method_1_code 65 = .ok (.aastore, 1) := by decide +kernel
theorem z_d16_66 : decode prog_97_method_1_code 66 = .ok (.iinc 2 1, 3) := by decide +kernel
theorem z_d16_69 : decode prog_97_method_1_code 69 = .ok (.goto (-40), 3) := by decide +kernel
theorem z_d16_72 : decode prog_97_method_1_code 72 = .ok (.aload_n 0, 1) := by decide +kernel
theorem z_d16_73 : decode prog_97_method_1_code 73 = .ok (.iconst 2, 1) := by decide +kernel
theorem z_d16_74 : decode prog_97_method_1_code 74 = .ok (.aload_n 0, 1) := by decide +kernel
theorem z_d16_75 : decode prog_97_method_1_code 75 = .ok (.getfield 13, 3) := by decide +kernel
theorem z_d16_78 : decode prog_97_method_1_code 78 = .ok (.imul, 1) := by decide +kernel
theorem z_d16_79 : decode prog_97_method_1_code 79 = .ok (.iconst 2, 1) := by decide +kernel
theorem z_d16_80 : decode prog_97_method_1_code 80 = .ok (.iadd, 1) := by decide +kernel
theorem z_d16_81 : decode prog_97_method_1_code 81 = .ok (.newarray .byte, 2) := by decide +kernel
theorem z_d16_83 : decode prog_97_method_1_code 83 = .ok (.putfield 27, 3) := by decide +kernel
theorem z_d16_86 : decode prog_97_method_1_code 86 = .ok (.aload_n 0, 1) := by decide +kernel
theorem z_d16_87 : decode prog_97_method_1_code 87 = .ok (.aload_n 0, 1) := by decide +kernel
theorem z_d16_88 : decode prog_97_method_1_code 88 = .ok (.getfield 13, 3) := by decide +kernel
theorem z_d16_91 : decode prog_97_method_1_code 91 = .ok (.iconst 1, 1) := by decide +kernel
theorem z_d16_92 : decode prog_97_method_1_code 92 = .ok (.iadd, 1) := by decide +kernel
theorem z_d16_93 : decode prog_97_method_1_code 93 = .ok (.newarray .int, 2) := by decide +kernel
theorem z_d16_95 : decode prog_97_method_1_code 95 = .ok (.putfield 31, 3) := by decide +kernel
theorem z_d16_98 : decode prog_97_method_1_code 98 = .ok (.new 35, 3) := by decide +kernel
theorem z_d16_101 : decode prog_97_method_1_code 101 = .ok (.dup, 1) := by decide +kernel
theorem z_d16_102 : decode prog_97_method_1_code 102 = .ok (.invokespecial 37, 3) := by decide +kernel
theorem z_d16_105 : decode prog_97_method_1_code 105 = .ok (.astore_n 2, 1) := by decide +kernel
theorem z_d16_106 : decode prog_97_method_1_code 106 = .ok (.new 35, 3) := by decide +kernel
theorem z_d16_109 : decode prog_97_method_1_code 109 = .ok (.dup, 1) := by decide +kernel
theorem z_d16_110 : decode prog_97_method_1_code 110 = .ok (.invokespecial 37, 3) := by decide +kernel
theorem z_d16_113 : decode prog_97_method_1_code 113 = .ok (.astore_n 3, 1) := by decide +kernel
theorem z_d16_114 : decode prog_97_method_1_code 114 = .ok (.new 35, 3) := by decide +kernel
theorem z_d16_117 : decode prog_97_method_1_code 117 = .ok (.dup, 1) := by decide +kernel
theorem z_d16_118 : decode prog_97_method_1_code 118 = .ok (.invokespecial 37, 3) := by decide +kernel
theorem z_d16_121 : decode prog_97_method_1_code 121 = .ok (.astore 4, 2) := by decide +kernel
theorem z_d16_123 : decode prog_97_method_1_code 123 = .ok (.aload_n 0, 1) := by decide +kernel
theorem z_d16_124 : decode prog_97_method_1_code 124 = .ok (.aload_n 1, 1) := by decide +kernel
theorem z_d16_125 : decode prog_97_method_1_code 125 = .ok (.invokevirtual 38, 3) := by decide +kernel
theorem z_d23_0 : decode prog_73_method_9_code 0 = .ok (.aload_n 0, 1) := by decide +kernel
theorem z_d23_1 : decode prog_73_method_9_code 1 = .ok (.getfield 10, 3) := by decide +kernel
theorem z_d23_4 : decode prog_73_method_9_code 4 = .ok (.areturn, 1) := by decide +kernel
theorem z_d16_128 : decode prog_97_method_1_code 128 = .ok (.invokeinterface 42 1, 5) := by decide +kernel
theorem z_d16_133 : decode prog_97_method_1_code 133 = .ok (.newarray .boolean, 2) := by decide +kernel
theorem z_d16_135 : decode prog_97_method_1_code 135 = .ok (.putfield 47, 3) := by decide +kernel
theorem z_d16_138 : decode prog_97_method_1_code 138 = .ok (.iconst 2, 1) := by decide +kernel
theorem z_d16_139 : decode prog_97_method_1_code 139 = .ok (.aload_n 0, 1) := by decide +kernel
theorem z_d16_140 : decode prog_97_method_1_code 140 = .ok (.getfield 13, 3) := by decide +kernel
theorem z_d16_143 : decode prog_97_method_1_code 143 = .ok (.imul, 1) := by decide +kernel
theorem z_d16_144 : decode prog_97_method_1_code 144 = .ok (.iconst 2, 1) := by decide +kernel
theorem z_d16_145 : decode prog_97_method_1_code 145 = .ok (.iadd, 1) := by decide +kernel
theorem z_d16_146 : decode prog_97_method_1_code 146 = .ok (.newarray .int, 2) := by decide +kernel
theorem z_d16_148 : decode prog_97_method_1_code 148 = .ok (.astore 5, 2) := by decide +kernel
theorem z_d16_150 : decode prog_97_method_1_code 150 = .ok (.aload_n 0, 1) := by decide +kernel
theorem z_d16_151 : decode prog_97_method_1_code 151 = .ok (.getfield 13, 3) := by decide +kernel
theorem z_d16_154 : decode prog_97_method_1_code 154 = .ok (.iconst 1, 1) := by decide +kernel
theorem z_d16_155 : decode prog_97_method_1_code 155 = .ok (.iadd, 1) := by decide +kernel
theorem z_d16_156 : decode prog_97_method_1_code 156 = .ok (.newarray .int, 2) := by decide +kernel
theorem z_d16_158 : decode prog_97_method_1_code 158 = .ok (.astore 6, 2) := by decide +kernel
theorem z_d16_160 : decode prog_97_method_1_code 160 = .ok (.iconst 0, 1) := by decide +kernel
theorem z_d16_161 : decode prog_97_method_1_code 161 = .ok (.istore 7, 2) := by decide +kernel
theorem z_d16_163 : decode prog_97_method_1_code 163 = .ok (.iconst 0, 1) := by decide +kernel
theorem z_d16_164 : decode prog_97_method_1_code 164 = .ok (.istore 8, 2) := by decide +kernel
theorem z_d16_166 : decode prog_97_method_1_code 166 = .ok (.iload 8, 2) := by decide +kernel
theorem z_d16_168 : decode prog_97_method_1_code 168 = .ok (.aload_n 1, 1) := by decide +kernel
theorem z_d16_169 : decode prog_97_method_1_code 169 = .ok (.invokevirtual 38, 3) := by decide +kernel
theorem z_d16_172 : decode prog_97_method_1_code 172 = .ok (.invokeinterface 42 1, 5) := by decide +kernel
theorem z_d16_177 : decode prog_97_method_1_code 177 = .ok (.if_icmp .ge 194, 3) := by decide +kernel
theorem z_d16_371 : decode prog_97_method_1_code 371 = .ok (.aload_n 0, 1) := by decide +kernel
theorem z_d16_372 : decode prog_97_method_1_code 372 = .ok (.iconst 2, 1) := by decide +kernel
theorem z_d16_373 : decode prog_97_method_1_code 373 = .ok (.aload_n 0, 1) := by decide +kernel
theorem z_d16_374 : decode prog_97_method_1_code 374 = .ok (.getfield 13, 3) := by decide +kernel
theorem z_d16_377 : decode prog_97_method_1_code 377 = .ok (.imul, 1) := by decide +kernel
theorem z_d16_378 : decode prog_97_method_1_code 378 = .ok (.iconst 2, 1) := by decide +kernel
theorem z_d16_379 : decode prog_97_method_1_code 379 = .ok (.iadd, 1) := by decide +kernel
theorem z_d16_380 : decode prog_97_method_1_code 380 = .ok (.anewarray 55, 3) := by decide +kernel
theorem z_d16_383 : decode prog_97_method_1_code 383 = .ok (.putfield 72, 3) := by decide +kernel
theorem z_d16_386 : decode prog_97_method_1_code 386 = .ok (.iconst 0, 1) := by decide +kernel
theorem z_d16_387 : decode prog_97_method_1_code 387 = .ok (.istore 8, 2) := by decide +kernel
theorem z_d16_389 : decode prog_97_method_1_code 389 = .ok (.iload 8, 2) := by decide +kernel
theorem z_d16_391 : decode prog_97_method_1_code 391 = .ok (.aload_n 0, 1) := by decide +kernel
theorem z_d16_392 : decode prog_97_method_1_code 392 = .ok (.getfield 72, 3) := by decide +kernel
theorem z_d16_395 : decode prog_97_method_1_code 395 = .ok (.arraylength, 1) := by decide +kernel
theorem z_d16_396 : decode prog_97_method_1_code 396 = .ok (.if_icmp .ge 37, 3) := by decide +kernel
theorem z_d16_399 : decode prog_97_method_1_code 399 = .ok (.aload_n 0, 1) := by decide +kernel
theorem z_d16_400 : decode prog_97_method_1_code 400 = .ok (.getfield 72, 3) := by decide +kernel
theorem z_d16_403 : decode prog_97_method_1_code 403 = .ok (.iload 8, 2) := by decide +kernel
theorem z_d16_405 : decode prog_97_method_1_code 405 = .ok (.aload 5, 2) := by decide +kernel
theorem z_d16_407 : decode prog_97_method_1_code 407 = .ok (.iload 8, 2) := by decide +kernel
theorem z_d16_409 : decode prog_97_method_1_code 409 = .ok (.iaload, 1) := by decide +kernel
theorem z_d16_410 : decode prog_97_method_1_code 410 = .ok (.ifCond .ne 9, 3) := by decide +kernel
theorem z_d16_413 : decode prog_97_method_1_code 413 = .ok (.getstatic 76, 3) := by decide +kernel
theorem z_d16_416 : decode prog_97_method_1_code 416 = .ok (.goto 10, 3) := by decide +kernel
theorem z_d16_426 : decode prog_97_method_1_code 426 = .ok (.aastore, 1) := by decide +kernel
theorem z_d16_427 : decode prog_97_method_1_code 427 = .ok (.iinc 8 1, 3) := by decide +kernel
theorem z_d16_430 : decode prog_97_method_1_code 430 = .ok (.goto (-41), 3) := by decide +kernel
theorem z_d16_433 : decode prog_97_method_1_code 433 = .ok (.aload 5, 2) := by decide +kernel
theorem z_d16_435 : decode prog_97_method_1_code 435 = .ok (.iconst 0, 1) := by decide +kernel
theorem z_d16_436 : decode prog_97_method_1_code 436 = .ok (.invokestatic 79, 3) := by decide +kernel
theorem z_d24_0 : decode jdk_65_method_103_code 0 = .ok (.iconst 0, 1) := by decide +kernel
theorem z_d24_1 : decode jdk_65_method_103_code 1 = .ok (.istore_n 2, 1) := by decide +kernel
theorem z_d24_2 : decode jdk_65_method_103_code 2 = .ok (.aload_n 0, 1) := by decide +kernel
theorem z_d24_3 : decode jdk_65_method_103_code 3 = .ok (.arraylength, 1) := by decide +kernel
theorem z_d24_4 : decode jdk_65_method_103_code 4 = .ok (.istore_n 3, 1) := by decide +kernel
theorem z_d24_5 : decode jdk_65_method_103_code 5 = .ok (.iload_n 2, 1) := by decide +kernel
theorem z_d24_6 : decode jdk_65_method_103_code 6 = .ok (.iload_n 3, 1) := by decide +kernel
theorem z_d24_7 : decode jdk_65_method_103_code 7 = .ok (.if_icmp .ge 13, 3) := by decide +kernel
theorem z_d24_10 : decode jdk_65_method_103_code 10 = .ok (.aload_n 0, 1) := by decide +kernel
theorem z_d24_11 : decode jdk_65_method_103_code 11 = .ok (.iload_n 2, 1) := by decide +kernel
theorem z_d24_12 : decode jdk_65_method_103_code 12 = .ok (.iload_n 1, 1) := by decide +kernel
theorem z_d24_13 : decode jdk_65_method_103_code 13 = .ok (.iastore, 1) := by decide +kernel
theorem z_d24_14 : decode jdk_65_method_103_code 14 = .ok (.iinc 2 1, 3) := by decide +kernel
theorem z_d24_17 : decode jdk_65_method_103_code 17 = .ok (.goto (-12), 3) := by decide +kernel
theorem z_d24_20 : decode jdk_65_method_103_code 20 = .ok (.return_, 1) := by decide +kernel
theorem z_d16_439 : decode prog_97_method_1_code 439 = .ok (.aload_n 3, 1) := by decide +kernel
theorem z_d16_440 : decode prog_97_method_1_code 440 = .ok (.invokeinterface 85 1, 5) := by decide +kernel
theorem z_d25_0 : decode jdk_38_method_55_code 0 = .ok (.new 267, 3) := by decide +kernel
theorem z_d25_3 : decode jdk_38_method_55_code 3 = .ok (.dup, 1) := by decide +kernel
theorem z_d25_4 : decode jdk_38_method_55_code 4 = .ok (.aload_n 0, 1) := by decide +kernel
theorem z_d25_5 : decode jdk_38_method_55_code 5 = .ok (.invokespecial 269, 3) := by decide +kernel
theorem z_d26_0 : decode jdk_49_method_1_code 0 = .ok (.aload_n 0, 1) := by decide +kernel
theorem z_d26_1 : decode jdk_49_method_1_code 1 = .ok (.aload_n 1, 1) := by decide +kernel
theorem z_d26_2 : decode jdk_49_method_1_code 2 = .ok (.putfield 1, 3) := by decide +kernel
theorem z_d26_5 : decode jdk_49_method_1_code 5 = .ok (.aload_n 0, 1) := by decide +kernel
theorem z_d26_6 : decode jdk_49_method_1_code 6 = .ok (.invokespecial 7, 3) := by decide +kernel
theorem z_d26_9 : decode jdk_49_method_1_code 9 = .ok (.aload_n 0, 1) := by decide +kernel
theorem z_d26_10 : decode jdk_49_method_1_code 10 = .ok (.iconst (-1), 1) := by decide +kernel
theorem z_d26_11 : decode jdk_49_method_1_code 11 = .ok (.putfield 13, 3) := by decide +kernel
theorem z_d26_14 : decode jdk_49_method_1_code 14 = .ok (.aload_n 0, 1) := by decide +kernel
theorem z_d26_15 : decode jdk_49_method_1_code 15 = .ok (.aload_n 0, 1) := by decide +kernel
theorem z_d26_16 : decode jdk_49_method_1_code 16 = .ok (.getfield 1, 3) := by decide +kernel
theorem z_d26_19 : decode jdk_49_method_1_code 19 = .ok (.getfield 17, 3) := by decide +kernel
theorem z_d26_22 : decode jdk_49_method_1_code 22 = .ok (.putfield 22, 3) := by decide +kernel
theorem z_d26_25 : decode jdk_49_method_1_code 25 = .ok (.return_, 1) := by decide +kernel
theorem z_d25_8 : decode jdk_38_method_55_code 8 = .ok (.areturn, 1) := by decide +kernel
theorem z_d16_445 : decode prog_97_method_1_code 445 = .ok (.astore 8, 2) := by decide +kernel
theorem z_d16_447 : decode prog_97_method_1_code 447 = .ok (.aload 8, 2) := by decide +kernel
theorem z_d16_449 : decode prog_97_method_1_code 449 = .ok (.invokeinterface 89 1, 5) := by decide +kernel
theorem z_d27_0 : decode jdk_49_method_2_code 0 = .ok (.aload_n 0, 1) := by decide +kernel
theorem z_d27_1 : decode jdk_49_method_2_code 1 = .ok (.getfield 25, 3) := by decide +kernel
theorem z_d27_4 : decode jdk_49_method_2_code 4 = .ok (.aload_n 0, 1) := by decide +kernel
theorem z_d27_5 : decode jdk_49_method_2_code 5 = .ok (.getfield 1, 3) := by decide +kernel
theorem z_d27_8 : decode jdk_49_method_2_code 8 = .ok (.getfield 28, 3) := by decide +kernel
theorem z_d27_11 : decode jdk_49_method_2_code 11 = .ok (.if_icmp .eq 7, 3) := by decide +kernel
theorem z_d27_18 : decode jdk_49_method_2_code 18 = .ok (.iconst 0, 1) := by decide +kernel
theorem z_d27_19 : decode jdk_49_method_2_code 19 = .ok (.ireturn, 1) := by decide +kernel
theorem z_d16_454 : decode prog_97_method_1_code 454 = .ok (.ifCond .eq 78, 3) := by decide +kernel
theorem z_d16_532 : decode prog_97_method_1_code 532 = .ok (.aload_n 0, 1) := by decide +kernel
theorem z_d16_533 : decode prog_97_method_1_code 533 = .ok (.iload 7, 2) := by decide +kernel
theorem z_d16_535 : decode prog_97_method_1_code 535 = .ok (.newarray .int, 2) := by decide +kernel
theorem z_d16_537 : decode prog_97_method_1_code 537 = .ok (.putfield 99, 3) := by decide +kernel
theorem z_d16_540 : decode prog_97_method_1_code 540 = .ok (.aload_n 0, 1) := by decide +kernel
theorem z_d16_541 : decode prog_97_method_1_code 541 = .ok (.aload 4, 2) := by decide +kernel
theorem z_d16_543 : decode prog_97_method_1_code 543 = .ok (.invokeinterface 42 1, 5) := by decide +kernel
theorem z_d16_548 : decode prog_97_method_1_code 548 = .ok (.iconst 1, 1) := by decide +kernel
theorem z_d16_549 : decode prog_97_method_1_code 549 = .ok (.iadd, 1) := by decide +kernel
theorem z_d16_550 : decode prog_97_method_1_code 550 = .ok (.newarray .int, 2) := by decide +kernel
theorem z_d16_552 : decode prog_97_method_1_code 552 = .ok (.putfield 102, 3) := by decide +kernel
theorem z_d16_555 : decode prog_97_method_1_code 555 = .ok (.aload_n 0, 1) := by decide +kernel
theorem z_d16_556 : decode prog_97_method_1_code 556 = .ok (.aload_n 0, 1) := by decide +kernel
theorem z_d16_557 : decode prog_97_method_1_code 557 = .ok (.getfield 13, 3) := by decide +kernel
theorem z_d16_560 : decode prog_97_method_1_code 560 = .ok (.iconst 1, 1) := by decide +kernel
theorem z_d16_561 : decode prog_97_method_1_code 561 = .ok (.iadd, 1) := by decide +kernel
theorem z_d16_562 : decode prog_97_method_1_code 562 = .ok (.anewarray 55, 3) := by decide +kernel
theorem z_d16_565 : decode prog_97_method_1_code 565 = .ok (.putfield 105, 3) := by decide +kernel
theorem z_d16_568 : decode prog_97_method_1_code 568 = .ok (.iconst 0, 1) := by decide +kernel
theorem z_d16_569 : decode prog_97_method_1_code 569 = .ok (.istore 8, 2) := by decide +kernel
theorem z_d16_571 : decode prog_97_method_1_code 571 = .ok (.iload 8, 2) := by decide +kernel
theorem z_d16_573 : decode prog_97_method_1_code 573 = .ok (.aload_n 0, 1) := by decide +kernel
theorem z_d16_574 : decode prog_97_method_1_code 574 = .ok (.getfield 13, 3) := by decide +kernel
theorem z_d16_577 : decode prog_97_method_1_code 577 = .ok (.if_icmp .gt 37, 3) := by decide +kernel
theorem z_d16_580 : decode prog_97_method_1_code 580 = .ok (.aload_n 0, 1) := by decide +kernel
theorem z_d16_581 : decode prog_97_method_1_code 581 = .ok (.getfield 105, 3) := by decide +kernel
theorem z_d16_584 : decode prog_97_method_1_code 584 = .ok (.iload 8, 2) := by decide +kernel
theorem z_d16_586 : decode prog_97_method_1_code 586 = .ok (.aload 6, 2) := by decide +kernel
theorem z_d16_588 : decode prog_97_method_1_code 588 = .ok (.iload 8, 2) := by decide +kernel
theorem z_d16_590 : decode prog_97_method_1_code 590 = .ok (.iaload, 1) := by decide +kernel
theorem z_d16_591 : decode prog_97_method_1_code 591 = .ok (.ifCond .ne 9, 3) := by decide +kernel
theorem z_d16_594 : decode prog_97_method_1_code 594 = .ok (.getstatic 76, 3) := by decide +kernel
theorem z_d16_597 : decode prog_97_method_1_code 597 = .ok (.goto 10, 3) := by decide +kernel
theorem z_d16_607 : decode prog_97_method_1_code 607 = .ok (.aastore, 1) := by decide +kernel
theorem z_d16_608 : decode prog_97_method_1_code 608 = .ok (.iinc 8 1, 3) := by decide +kernel
theorem z_d16_611 : decode prog_97_method_1_code 611 = .ok (.goto (-40), 3) := by decide +kernel
theorem z_d16_614 : decode prog_97_method_1_code 614 = .ok (.aload 6, 2) := by decide +kernel
theorem z_d16_616 : decode prog_97_method_1_code 616 = .ok (.iconst 0, 1) := by decide +kernel
theorem z_d16_617 : decode prog_97_method_1_code 617 = .ok (.invokestatic 79, 3) := by decide +kernel
theorem z_d16_620 : decode prog_97_method_1_code 620 = .ok (.aload_n 0, 1) := by decide +kernel
theorem z_d16_621 : decode prog_97_method_1_code 621 = .ok (.iconst 2, 1) := by decide +kernel
theorem z_d16_622 : decode prog_97_method_1_code 622 = .ok (.aload_n 0, 1) := by decide +kernel
theorem z_d16_623 : decode prog_97_method_1_code 623 = .ok (.getfield 13, 3) := by decide +kernel
theorem z_d16_626 : decode prog_97_method_1_code 626 = .ok (.imul, 1) := by decide +kernel
theorem z_d16_627 : decode prog_97_method_1_code 627 = .ok (.iconst 2, 1) := by decide +kernel
theorem z_d16_628 : decode prog_97_method_1_code 628 = .ok (.iadd, 1) := by decide +kernel
theorem z_d16_629 : decode prog_97_method_1_code 629 = .ok (.anewarray 55, 3) := by decide +kernel
theorem z_d16_632 : decode prog_97_method_1_code 632 = .ok (.putfield 108, 3) := by decide +kernel
theorem z_d16_635 : decode prog_97_method_1_code 635 = .ok (.aload_n 0, 1) := by decide +kernel
theorem z_d16_636 : decode prog_97_method_1_code 636 = .ok (.getfield 108, 3) := by decide +kernel
theorem z_d16_639 : decode prog_97_method_1_code 639 = .ok (.getstatic 76, 3) := by decide +kernel
theorem z_d16_642 : decode prog_97_method_1_code 642 = .ok (.invokestatic 111, 3) := by decide +kernel
theorem z_d28_0 : decode jdk_65_method_117_code 0 = .ok (.iconst 0, 1) := by decide +kernel
theorem z_d28_1 : decode jdk_65_method_117_code 1 = .ok (.istore_n 2, 1) := by decide +kernel
theorem z_d28_2 : decode jdk_65_method_117_code 2 = .ok (.aload_n 0, 1) := by decide +kernel
theorem z_d28_3 : decode jdk_65_method_117_code 3 = .ok (.arraylength, 1) := by decide +kernel
theorem z_d28_4 : decode jdk_65_method_117_code 4 = .ok (.istore_n 3, 1) := by decide +kernel
theorem z_d28_5 : decode jdk_65_method_117_code 5 = .ok (.iload_n 2, 1) := by decide +kernel
theorem z_d28_6 : decode jdk_65_method_117_code 6 = .ok (.iload_n 3, 1) := by decide +kernel
theorem z_d28_7 : decode jdk_65_method_117_code 7 = .ok (.if_icmp .ge 13, 3) := by decide +kernel
theorem z_d28_10 : decode jdk_65_method_117_code 10 = .ok (.aload_n 0, 1) := by decide +kernel
theorem z_d28_11 : decode jdk_65_method_117_code 11 = .ok (.iload_n 2, 1) := by decide +kernel
theorem z_d28_12 : decode jdk_65_method_117_code 12 = .ok (.aload_n 1, 1) := by decide +kernel
theorem z_d28_13 : decode jdk_65_method_117_code 13 = .ok (.aastore, 1) := by decide +kernel
theorem z_d28_14 : decode jdk_65_method_117_code 14 = .ok (.iinc 2 1, 3) := by decide +kernel
theorem z_d28_17 : decode jdk_65_method_117_code 17 = .ok (.goto (-12), 3) := by decide +kernel
theorem z_d28_20 : decode jdk_65_method_117_code 20 = .ok (.return_, 1) := by decide +kernel
theorem z_d16_645 : decode prog_97_method_1_code 645 = .ok (.aload_n 0, 1) := by decide +kernel
theorem z_d16_646 : decode prog_97_method_1_code 646 = .ok (.iconst 2, 1) := by decide +kernel
theorem z_d16_647 : decode prog_97_method_1_code 647 = .ok (.aload_n 0, 1) := by decide +kernel
theorem z_d16_648 : decode prog_97_method_1_code 648 = .ok (.getfield 13, 3) := by decide +kernel
theorem z_d16_651 : decode prog_97_method_1_code 651 = .ok (.imul, 1) := by decide +kernel
theorem z_d16_652 : decode prog_97_method_1_code 652 = .ok (.iconst 2, 1) := by decide +kernel
theorem z_d16_653 : decode prog_97_method_1_code 653 = .ok (.iadd, 1) := by decide +kernel
theorem z_d16_654 : decode prog_97_method_1_code 654 = .ok (.newarray .int, 2) := by decide +kernel
theorem z_d16_656 : decode prog_97_method_1_code 656 = .ok (.putfield 114, 3) := by decide +kernel
theorem z_d16_659 : decode prog_97_method_1_code 659 = .ok (.iconst 0, 1) := by decide +kernel
theorem z_d16_660 : decode prog_97_method_1_code 660 = .ok (.istore 8, 2) := by decide +kernel
theorem z_d16_662 : decode prog_97_method_1_code 662 = .ok (.iconst 0, 1) := by decide +kernel
theorem z_d16_663 : decode prog_97_method_1_code 663 = .ok (.istore 9, 2) := by decide +kernel
theorem z_d16_665 : decode prog_97_method_1_code 665 = .ok (.iload 9, 2) := by decide +kernel
theorem z_d16_667 : decode prog_97_method_1_code 667 = .ok (.aload 4, 2) := by decide +kernel
theorem z_d16_669 : decode prog_97_method_1_code 669 = .ok (.invokeinterface 42 1, 5) := by decide +kernel
theorem z_d16_674 : decode prog_97_method_1_code 674 = .ok (.if_icmp .ge 131, 3) := by decide +kernel
theorem z_d16_805 : decode prog_97_method_1_code 805 = .ok (.aload_n 0, 1) := by decide +kernel
theorem z_d16_806 : decode prog_97_method_1_code 806 = .ok (.getfield 102, 3) := by decide +kernel
theorem z_d16_809 : decode prog_97_method_1_code 809 = .ok (.aload 4, 2) := by decide +kernel
theorem z_d16_811 : decode prog_97_method_1_code 811 = .ok (.invokeinterface 42 1, 5) := by decide +kernel
theorem z_d16_816 : decode prog_97_method_1_code 816 = .ok (.iload 8, 2) := by decide +kernel
theorem z_d16_818 : decode prog_97_method_1_code 818 = .ok (.iastore, 1) := by decide +kernel
theorem z_d16_819 : decode prog_97_method_1_code 819 = .ok (.aload_n 2, 1) := by decide +kernel
theorem z_d16_820 : decode prog_97_method_1_code 820 = .ok (.invokeinterface 85 1, 5) := by decide +kernel
theorem z_d16_825 : decode prog_97_method_1_code 825 = .ok (.astore 9, 2) := by decide +kernel
theorem z_d16_827 : decode prog_97_method_1_code 827 = .ok (.aload 9, 2) := by decide +kernel
theorem z_d16_829 : decode prog_97_method_1_code 829 = .ok (.invokeinterface 89 1, 5) := by decide +kernel
theorem z_d16_834 : decode prog_97_method_1_code 834 = .ok (.ifCond .eq 58, 3) := by decide +kernel
theorem z_d16_892 : decode prog_97_method_1_code 892 = .ok (.iconst 2, 1) := by decide +kernel
theorem z_d16_893 : decode prog_97_method_1_code 893 = .ok (.istore 9, 2) := by decide +kernel
theorem z_d16_895 : decode prog_97_method_1_code 895 = .ok (.iload 9, 2) := by decide +kernel
theorem z_d16_897 : decode prog_97_method_1_code 897 = .ok (.aload_n 0, 1) := by decide +kernel
theorem z_d16_898 : decode prog_97_method_1_code 898 = .ok (.getfield 20, 3) := by decide +kernel
theorem z_d16_901 : decode prog_97_method_1_code 901 = .ok (.arraylength, 1) := by decide +kernel
theorem z_d16_902 : decode prog_97_method_1_code 902 = .ok (.if_icmp .ge 71, 3) := by decide +kernel
theorem z_d16_905 : decode prog_97_method_1_code 905 = .ok (.aload_n 0, 1) := by decide +kernel
theorem z_d16_906 : decode prog_97_method_1_code 906 = .ok (.getfield 20, 3) := by decide +kernel
theorem z_d16_909 : decode prog_97_method_1_code 909 = .ok (.iload 9, 2) := by decide +kernel
theorem z_d16_911 : decode prog_97_method_1_code 911 = .ok (.aaload, 1) := by decide +kernel
theorem z_d16_912 : decode prog_97_method_1_code 912 = .ok (.invokevirtual 131, 3) := by decide +kernel
theorem z_d29_0 : decode jdk_2097_method_81_code 0 = .ok (.aload_n 0, 1) := by decide +kernel
theorem z_d29_1 : decode jdk_2097_method_81_code 1 = .ok (.getfield 32, 3) := by decide +kernel
theorem z_d29_4 : decode jdk_2097_method_81_code 4 = .ok (.ireturn, 1) := by decide +kernel
theorem z_d16_915 : decode prog_97_method_1_code 915 = .ok (.ifCond .ne 24, 3) := by decide +kernel
theorem z_d16_939 : decode prog_97_method_1_code 939 = .ok (.aload_n 0, 1) := by decide +kernel
theorem z_d16_940 : decode prog_97_method_1_code 940 = .ok (.getfield 20, 3) := by decide +kernel
theorem z_d16_943 : decode prog_97_method_1_code 943 = .ok (.iload 9, 2) := by decide +kernel
theorem z_d16_945 : decode prog_97_method_1_code 945 = .ok (.aaload, 1) := by decide +kernel
theorem z_d16_946 : decode prog_97_method_1_code 946 = .ok (.invokevirtual 131, 3) := by decide +kernel
theorem z_d16_949 : decode prog_97_method_1_code 949 = .ok (.ifCond .ne 18, 3) := by decide +kernel
theorem z_d16_967 : decode prog_97_method_1_code 967 = .ok (.iinc 9 1, 3) := by decide +kernel
theorem z_d16_970 : decode prog_97_method_1_code 970 = .ok (.goto (-75), 3) := by decide +kernel
theorem z_d16_973 : decode prog_97_method_1_code 973 = .ok (.return_, 1) := by decide +kernel
theorem z_d30_0 : decode prog_97_method_11_code 0 = .ok (.aload_n 0, 1) := by decide +kernel
theorem z_d30_1 : decode prog_97_method_11_code 1 = .ok (.getfield 150, 3) := by decide +kernel
theorem z_d30_4 : decode prog_97_method_11_code 4 = .ok (.iload_n 1, 1) := by decide +kernel
theorem z_d30_5 : decode prog_97_method_11_code 5 = .ok (.if_icmp .le 39, 3) := by decide +kernel
theorem z_d30_44 : decode prog_97_method_11_code 44 = .ok (.aload_n 0, 1) := by decide +kernel
theorem z_d30_45 : decode prog_97_method_11_code 45 = .ok (.iload_n 1, 1) := by decide +kernel
theorem z_d30_46 : decode prog_97_method_11_code 46 = .ok (.putfield 195, 3) := by decide +kernel
theorem z_d30_49 : decode prog_97_method_11_code 49 = .ok (.return_, 1) := by decide +kernel
theorem z_d31_0 : decode jdk_29_method_69_code 0 = .ok (.iload_n 0, 1) := by decide +kernel
theorem z_d31_1 : decode jdk_29_method_69_code 1 = .ok (.iload_n 1, 1) := by decide +kernel
theorem z_d31_2 : decode jdk_29_method_69_code 2 = .ok (.if_icmp .gt 7, 3) := by decide +kernel
theorem z_d31_5 : decode jdk_29_method_69_code 5 = .ok (.iload_n 0, 1) := by decide +kernel
theorem z_d31_6 : decode jdk_29_method_69_code 6 = .ok (.goto 4, 3) := by decide +kernel
theorem z_d31_10 : decode jdk_29_method_69_code 10 = .ok (.ireturn, 1) := by decide +kernel
theorem z_d32_0 : decode prog_97_method_6_code 0 = .ok (.aload_n 0, 1) := by decide +kernel
theorem z_d32_1 : decode prog_97_method_6_code 1 = .ok (.getfield 150, 3) := by decide +kernel
theorem z_d32_4 : decode prog_97_method_6_code 4 = .ok (.ireturn, 1) := by decide +kernel
theorem z_d33_0 : decode method_2_code 0 = .ok (.iload_n 2, 1) := by decide +kernel
theorem z_d33_1 : decode method_2_code 1 = .ok (.ifCond .eq 7, 3) := by decide +kernel
theorem z_d33_8 : decode method_2_code 8 = .ok (.iconst 0, 1) := by decide +kernel
theorem z_d33_9 : decode method_2_code 9 = .ok (.istore_n 3, 1) := by decide +kernel
theorem z_d33_10 : decode method_2_code 10 = .ok (.iload_n 2, 1) := by decide +kernel
theorem z_d33_11 : decode method_2_code 11 = .ok (.ifCond .eq 7, 3) := by decide +kernel
theorem z_d33_18 : decode method_2_code 18 = .ok (.iconst 0, 1) := by decide +kernel
theorem z_d33_19 : decode method_2_code 19 = .ok (.istore 4, 2) := by decide +kernel
theorem z_d33_21 : decode method_2_code 21 = .ok (.aload_n 0, 1) := by decide +kernel
theorem z_d33_22 : decode method_2_code 22 = .ok (.getfield 7, 3) := by decide +kernel
theorem z_d33_25 : decode method_2_code 25 = .ok (.iload_n 1, 1) := by decide +kernel
theorem z_d33_26 : decode method_2_code 26 = .ok (.baload, 1) := by decide +kernel
theorem z_d33_27 : decode method_2_code 27 = .ok (.iload_n 3, 1) := by decide +kernel
theorem z_d33_28 : decode method_2_code 28 = .ok (.if_icmp .ne 20, 3) := by decide +kernel
theorem z_d33_31 : decode method_2_code 31 = .ok (.aload_n 0, 1) := by decide +kernel
theorem z_d33_32 : decode method_2_code 32 = .ok (.getfield 7, 3) := by decide +kernel
theorem z_d33_35 : decode method_2_code 35 = .ok (.iload_n 1, 1) := by decide +kernel
theorem z_d33_36 : decode method_2_code 36 = .ok (.iconst 1, 1) := by decide +kernel
theorem z_d33_37 : decode method_2_code 37 = .ok (.ixor, 1) := by decide +kernel
theorem z_d33_38 : decode method_2_code 38 = .ok (.baload, 1) := by decide +kernel
theorem z_d33_39 : decode method_2_code 39 = .ok (.iload 4, 2) := by decide +kernel
theorem z_d33_41 : decode method_2_code 41 = .ok (.if_icmp .ne 7, 3) := by decide +kernel
theorem z_d33_44 : decode method_2_code 44 = .ok (.iconst 1, 1) := by decide +kernel
theorem z_d33_45 : decode method_2_code 45 = .ok (.goto 4, 3) := by decide +kernel
theorem z_d33_49 : decode method_2_code 49 = .ok (.ireturn, 1) := by decide +kernel
theorem z_d34_0 : decode prog_97_method_10_code 0 = .ok (.aload_n 0, 1) := by decide +kernel
theorem z_d34_1 : decode prog_97_method_10_code 1 = .ok (.getfield 27, 3) := by decide +kernel
theorem z_d34_4 : decode prog_97_method_10_code 4 = .ok (.iload_n 1, 1) := by decide +kernel
theorem z_d34_5 : decode prog_97_method_10_code 5 = .ok (.iconst 1, 1) := by decide +kernel
theorem z_d34_6 : decode prog_97_method_10_code 6 = .ok (.bastore, 1) := by decide +kernel
theorem z_d34_7 : decode prog_97_method_10_code 7 = .ok (.aload_n 0, 1) := by decide +kernel
theorem z_d34_8 : decode prog_97_method_10_code 8 = .ok (.getfield 27, 3) := by decide +kernel
theorem z_d34_11 : decode prog_97_method_10_code 11 = .ok (.iload_n 1, 1) := by decide +kernel
theorem z_d34_12 : decode prog_97_method_10_code 12 = .ok (.iconst 1, 1) := by decide +kernel
theorem z_d34_13 : decode prog_97_method_10_code 13 = .ok (.ixor, 1) := by decide +kernel
theorem z_d34_14 : decode prog_97_method_10_code 14 = .ok (.iconst (-1), 1) := by decide +kernel
theorem z_d34_15 : decode prog_97_method_10_code 15 = .ok (.bastore, 1) := by decide +kernel
theorem z_d34_16 : decode prog_97_method_10_code 16 = .ok (.aload_n 0, 1) := by decide +kernel
theorem z_d34_17 : decode prog_97_method_10_code 17 = .ok (.getfield 31, 3) := by decide +kernel
theorem z_d34_20 : decode prog_97_method_10_code 20 = .ok (.aload_n 0, 1) := by decide +kernel
theorem z_d34_21 : decode prog_97_method_10_code 21 = .ok (.dup, 1) := by decide +kernel
theorem z_d34_22 : decode prog_97_method_10_code 22 = .ok (.getfield 150, 3) := by decide +kernel
theorem z_d34_25 : decode prog_97_method_10_code 25 = .ok (.dup_x1, 1) := by decide +kernel
theorem z_d34_26 : decode prog_97_method_10_code 26 = .ok (.iconst 1, 1) := by decide +kernel
theorem z_d34_27 : decode prog_97_method_10_code 27 = .ok (.iadd, 1) := by decide +kernel
theorem z_d34_28 : decode prog_97_method_10_code 28 = .ok (.putfield 150, 3) := by decide +kernel
theorem z_d34_31 : decode prog_97_method_10_code 31 = .ok (.iload_n 1, 1) := by decide +kernel
theorem z_d34_32 : decode prog_97_method_10_code 32 = .ok (.iastore, 1) := by decide +kernel
theorem z_d34_33 : decode prog_97_method_10_code 33 = .ok (.return_, 1) := by decide +kernel
theorem z_d30_8 : decode prog_97_method_11_code 8 = .ok (.aload_n 0, 1) := by decide +kernel
theorem z_d30_9 : decode prog_97_method_11_code 9 = .ok (.getfield 31, 3) := by decide +kernel
theorem z_d30_12 : decode prog_97_method_11_code 12 = .ok (.aload_n 0, 1) := by decide +kernel
theorem z_d30_13 : decode prog_97_method_11_code 13 = .ok (.dup, 1) := by decide +kernel
theorem z_d30_14 : decode prog_97_method_11_code 14 = .ok (.getfield 150, 3) := by decide +kernel
theorem z_d30_17 : decode prog_97_method_11_code 17 = .ok (.iconst 1, 1) := by decide +kernel
theorem z_d30_18 : decode prog_97_method_11_code 18 = .ok (.isub, 1) := by decide +kernel
theorem z_d30_19 : decode prog_97_method_11_code 19 = .ok (.dup_x1, 1) := by decide +kernel
theorem z_d30_20 : decode prog_97_method_11_code 20 = .ok (.putfield 150, 3) := by decide +kernel
theorem z_d30_23 : decode prog_97_method_11_code 23 = .ok (.iaload, 1) := by decide +kernel
theorem z_d30_24 : decode prog_97_method_11_code 24 = .ok (.istore_n 2, 1) := by decide +kernel
theorem z_d30_25 : decode prog_97_method_11_code 25 = .ok (.aload_n 0, 1) := by decide +kernel
theorem z_d30_26 : decode prog_97_method_11_code 26 = .ok (.getfield 27, 3) := by decide +kernel
theorem z_d30_29 : decode prog_97_method_11_code 29 = .ok (.iload_n 2, 1) := by decide +kernel
theorem z_d30_30 : decode prog_97_method_11_code 30 = .ok (.iconst 0, 1) := by decide +kernel
theorem z_d30_31 : decode prog_97_method_11_code 31 = .ok (.bastore, 1) := by decide +kernel
theorem z_d30_32 : decode prog_97_method_11_code 32 = .ok (.aload_n 0, 1) := by decide +kernel
theorem z_d30_33 : decode prog_97_method_11_code 33 = .ok (.getfield 27, 3) := by decide +kernel
theorem z_d30_36 : decode prog_97_method_11_code 36 = .ok (.iload_n 2, 1) := by decide +kernel
theorem z_d30_37 : decode prog_97_method_11_code 37 = .ok (.iconst 1, 1) := by decide +kernel
theorem z_d30_38 : decode prog_97_method_11_code 38 = .ok (.ixor, 1) := by decide +kernel
theorem z_d30_39 : decode prog_97_method_11_code 39 = .ok (.iconst 0, 1) := by decide +kernel
theorem z_d30_40 : decode prog_97_method_11_code 40 = .ok (.bastore, 1) := by decide +kernel
theorem z_d30_41 : decode prog_97_method_11_code 41 = .ok (.goto (-41), 3) := by decide +kernel
theorem z_d31_9 : decode jdk_29_method_69_code 9 = .ok (.iload_n 1, 1) := by decide +kernel
theorem z_d33_4 : decode method_2_code 4 = .ok (.iconst 1, 1) := by decide +kernel
theorem z_d33_5 : decode method_2_code 5 = .ok (.goto 4, 3) := by decide +kernel
theorem z_d33_14 : decode method_2_code 14 = .ok (.iconst (-1), 1) := by decide +kernel
theorem z_d33_15 : decode method_2_code 15 = .ok (.goto 4, 3) := by decide +kernel
theorem z_mod6 (x : Int32) : (x &&& (2147483647 : Int32)) % (6 : Int32) = (0 : Int32) ∨ (x &&& (2147483647 : Int32)) % (6 : Int32) = (1 : Int32) ∨ (x &&& (2147483647 : Int32)) % (6 : Int32) = (2 : Int32) ∨ (x &&& (2147483647 : Int32)) % (6 : Int32) = (3 : Int32) ∨ (x &&& (2147483647 : Int32)) % (6 : Int32) = (4 : Int32) ∨ (x &&& (2147483647 : Int32)) % (6 : Int32) = (5 : Int32) := by
  have h1 : 0 ≤ (x &&& (2147483647 : Int32)).toInt := (c_andS x 2147483647).2.2 (by decide)
  have h2 := (c_irem (x &&& (2147483647 : Int32)) (6 : Int32) 6 (by decide)).1 h1
  have h3 : ((x &&& (2147483647 : Int32)) % (6 : Int32)).toInt = 0 ∨ ((x &&& (2147483647 : Int32)) % (6 : Int32)).toInt = 1 ∨ ((x &&& (2147483647 : Int32)) % (6 : Int32)).toInt = 2 ∨ ((x &&& (2147483647 : Int32)) % (6 : Int32)).toInt = 3 ∨ ((x &&& (2147483647 : Int32)) % (6 : Int32)).toInt = 4 ∨ ((x &&& (2147483647 : Int32)) % (6 : Int32)).toInt = 5 := by omega
  rcases h3 with q | q | q | q | q | q
  · exact (Or.inl (Int32.toInt_inj.mp (q.trans (by decide))))
  · exact (Or.inr (Or.inl (Int32.toInt_inj.mp (q.trans (by decide)))))
  · exact (Or.inr (Or.inr (Or.inl (Int32.toInt_inj.mp (q.trans (by decide))))))
  · exact (Or.inr (Or.inr (Or.inr (Or.inl (Int32.toInt_inj.mp (q.trans (by decide)))))))
  · exact (Or.inr (Or.inr (Or.inr (Or.inr (Or.inl (Int32.toInt_inj.mp (q.trans (by decide))))))))
  · exact (Or.inr (Or.inr (Or.inr (Or.inr (Or.inr (Int32.toInt_inj.mp (q.trans (by decide))))))))
abbrev z_z8 : List Value := [.int 0, .int 0, .int 0, .int 0, .int 0, .int 0, .int 0, .int 0]
def z_L0 (i : Fin 6) (u : Fin 2) : Int32 := Int32.ofNat ([2, 2, 4, 4, 6, 6].getD i.val 0 + u.val)
def z_L1 (i : Fin 6) (u : Fin 2) : Int32 := Int32.ofNat ([4, 6, 2, 6, 2, 4].getD i.val 0 + u.val)
def z_L2 (i : Fin 6) (u : Fin 2) : Int32 := Int32.ofNat ([6, 4, 6, 2, 4, 2].getD i.val 0 + u.val)
theorem z_bit (x : Int32) : ∃ u : Fin 2, x &&& (1 : Int32) = Int32.ofNat u.val := by
  rcases and_one x with q | q
  · exact ⟨0, q⟩
  · exact ⟨1, q⟩
theorem z_and3 (x : Int32) : x &&& (3 : Int32) = (0 : Int32) ∨ x &&& (3 : Int32) = (1 : Int32) ∨ x &&& (3 : Int32) = (2 : Int32) ∨ x &&& (3 : Int32) = (3 : Int32) := by
  have e := Jvm.Kit.i32_mask x 3 (k := 2) (by decide) (by decide)
  have h3 : (x &&& (3 : Int32)).toInt = 0 ∨ (x &&& (3 : Int32)).toInt = 1 ∨ (x &&& (3 : Int32)).toInt = 2 ∨ (x &&& (3 : Int32)).toInt = 3 := by omega
  rcases h3 with q | q | q | q
  · exact Or.inl (Int32.toInt_inj.mp (q.trans (by decide)))
  · exact Or.inr (Or.inl (Int32.toInt_inj.mp (q.trans (by decide))))
  · exact Or.inr (Or.inr (Or.inl (Int32.toInt_inj.mp (q.trans (by decide)))))
  · exact Or.inr (Or.inr (Or.inr (Int32.toInt_inj.mp (q.trans (by decide)))))
theorem z_mk0 (x : Int32) : ¬ (x &&& (7 : Int32)) < (0 : Int32) := by
  have e := Jvm.Kit.i32_mask x 7 (k := 3) (by decide) (by decide)
  rw [Int32.lt_iff_toInt_lt, show (0 : Int32).toInt = 0 from rfl]; omega
theorem z_mk1 (x : Int32) : x &&& (7 : Int32) = (0 : Int32) ∨ ¬ (x &&& (7 : Int32)) < (1 : Int32) := by
  have e := Jvm.Kit.i32_mask x 7 (k := 3) (by decide) (by decide)
  rw [Int32.lt_iff_toInt_lt, ← Int32.toInt_inj, show (0 : Int32).toInt = 0 from rfl, show (1 : Int32).toInt = 1 from rfl]; omega
theorem z_mk2 (x : Int32) : x &&& (7 : Int32) = (0 : Int32) ∨ x &&& (7 : Int32) = (1 : Int32) ∨ ¬ (x &&& (7 : Int32)) < (2 : Int32) := by
  have e := Jvm.Kit.i32_mask x 7 (k := 3) (by decide) (by decide)
  rw [Int32.lt_iff_toInt_lt, ← Int32.toInt_inj, ← Int32.toInt_inj, show (0 : Int32).toInt = 0 from rfl, show (1 : Int32).toInt = 1 from rfl, show (2 : Int32).toInt = 2 from rfl]; omega
theorem z_mk3 (x : Int32) : x &&& (7 : Int32) = (0 : Int32) ∨ x &&& (7 : Int32) = (1 : Int32) ∨ x &&& (7 : Int32) = (2 : Int32) ∨ ¬ (x &&& (7 : Int32)) < (3 : Int32) := by
  have e := Jvm.Kit.i32_mask x 7 (k := 3) (by decide) (by decide)
  rw [Int32.lt_iff_toInt_lt, ← Int32.toInt_inj, ← Int32.toInt_inj, ← Int32.toInt_inj, show (0 : Int32).toInt = 0 from rfl, show (1 : Int32).toInt = 1 from rfl, show (2 : Int32).toInt = 2 from rfl, show (3 : Int32).toInt = 3 from rfl]; omega
def z_lay0 : List (String × String × String) := [("com/example/variegate/variegate/service/Cnf", "clauses", "Ljava/util/List;"), ("com/example/variegate/variegate/service/Cnf", "redundant", "Ljava/util/BitSet;"), ("com/example/variegate/variegate/service/Cnf", "weights", "Ljava/util/List;"), ("com/example/variegate/variegate/service/Cnf", "falseWeights", "Ljava/util/List;"), ("com/example/variegate/variegate/service/Cnf", "lastHeld", "[J")]
theorem z_lay0_ok {Z : State} {a0 : Array Value} (hw : ∀ d ∈ tables_1, d.before a0 Z = true) : z_LayOk Z a0 "com/example/variegate/variegate/service/Cnf" z_lay0 := ⟨by decide +kernel, (z_allS ⟨Or.inr (z_w hw 34 rfl), ⟨(.object "java/util/List"), by decide +kernel⟩⟩ (z_allS ⟨Or.inr (z_w hw 58 rfl), ⟨(.object "java/util/BitSet"), by decide +kernel⟩⟩ (z_allS ⟨Or.inr (z_w hw 60 rfl), ⟨(.object "java/util/List"), by decide +kernel⟩⟩ (z_allS ⟨Or.inr (z_w hw 62 rfl), ⟨(.object "java/util/List"), by decide +kernel⟩⟩ (z_allS ⟨Or.inl (z_w hw 64 rfl), ⟨(.array .long), by decide +kernel⟩⟩ z_nil)))))⟩
theorem z_lay0_df : z_lay0.map z_dflt = [.null, .null, .null, .null, .null] := by first | rfl | decide +kernel
def z_lay1 : List (String × String × String) := [("java/util/AbstractList", "modCount", "I"), ("java/util/ArrayList", "elementData", "[Ljava/lang/Object;"), ("java/util/ArrayList", "size", "I")]
theorem z_lay1_ok {Z : State} {a0 : Array Value} (hw : ∀ d ∈ tables_1, d.before a0 Z = true) : z_LayOk Z a0 "java/util/ArrayList" z_lay1 := ⟨by decide +kernel, (z_allS ⟨Or.inl (z_w hw 29 rfl), ⟨.int, by decide +kernel⟩⟩ (z_allS ⟨Or.inl (z_w hw 32 rfl), ⟨(.array (.object "java/lang/Object")), by decide +kernel⟩⟩ (z_allS ⟨Or.inl (z_w hw 84 rfl), ⟨.int, by decide +kernel⟩⟩ z_nil)))⟩
theorem z_lay1_df : z_lay1.map z_dflt = [(.int (0 : Int32)), .null, (.int (0 : Int32))] := by first | rfl | decide +kernel
def z_lay2 : List (String × String × String) := [("java/util/BitSet", "wordsInUse", "I"), ("java/util/BitSet", "sizeIsSticky", "Z"), ("java/util/BitSet", "words", "[J")]
theorem z_lay2_ok {Z : State} {a0 : Array Value} (hw : ∀ d ∈ tables_1, d.before a0 Z = true) : z_LayOk Z a0 "java/util/BitSet" z_lay2 := ⟨by decide +kernel, (z_allS ⟨Or.inl (z_w hw 43 rfl), ⟨.int, by decide +kernel⟩⟩ (z_allS ⟨Or.inl (z_w hw 45 rfl), ⟨.boolean, by decide +kernel⟩⟩ (z_allS ⟨Or.inl (z_w hw 56 rfl), ⟨(.array .long), by decide +kernel⟩⟩ z_nil)))⟩
theorem z_lay2_df : z_lay2.map z_dflt = [(.int (0 : Int32)), (.int (0 : Int32)), .null] := by first | rfl | decide +kernel
def z_lay3 : List (String × String × String) := [("com/example/variegate/variegate/service/Propagation", "variables", "I"), ("com/example/variegate/variegate/service/Propagation", "weight", "[Ljava/math/BigInteger;"), ("com/example/variegate/variegate/service/Propagation", "value", "[B"), ("com/example/variegate/variegate/service/Propagation", "trail", "[I"), ("com/example/variegate/variegate/service/Propagation", "redundant", "[Z"), ("com/example/variegate/variegate/service/Propagation", "implied", "[[I"), ("com/example/variegate/variegate/service/Propagation", "literals", "[I"), ("com/example/variegate/variegate/service/Propagation", "clauseStart", "[I"), ("com/example/variegate/variegate/service/Propagation", "occurrences", "[[I"), ("com/example/variegate/variegate/service/Propagation", "watches", "[[I"), ("com/example/variegate/variegate/service/Propagation", "watchCount", "[I"), ("com/example/variegate/variegate/service/Propagation", "trailSize", "I"), ("com/example/variegate/variegate/service/Propagation", "propagated", "I"), ("com/example/variegate/variegate/service/Propagation", "contradiction", "Z")]
theorem z_lay3_ok {Z : State} {a0 : Array Value} (hw : ∀ d ∈ tables_1, d.before a0 Z = true) : z_LayOk Z a0 "com/example/variegate/variegate/service/Propagation" z_lay3 := ⟨by decide +kernel, (z_allS ⟨Or.inr (z_w hw 128 rfl), ⟨.int, by decide +kernel⟩⟩ (z_allS ⟨Or.inr (z_w hw 132 rfl), ⟨(.array (.object "java/math/BigInteger")), by decide +kernel⟩⟩ (z_allS ⟨Or.inr (z_w hw 163 rfl), ⟨(.array .byte), by decide +kernel⟩⟩ (z_allS ⟨Or.inr (z_w hw 166 rfl), ⟨(.array .int), by decide +kernel⟩⟩ (z_allS ⟨Or.inr (z_w hw 177 rfl), ⟨(.array .boolean), by decide +kernel⟩⟩ (z_allS ⟨Or.inr (z_w hw 181 rfl), ⟨(.array (.array .int)), by decide +kernel⟩⟩ (z_allS ⟨Or.inr (z_w hw 225 rfl), ⟨(.array .int), by decide +kernel⟩⟩ (z_allS ⟨Or.inr (z_w hw 227 rfl), ⟨(.array .int), by decide +kernel⟩⟩ (z_allS ⟨Or.inr (z_w hw 229 rfl), ⟨(.array (.array .int)), by decide +kernel⟩⟩ (z_allS ⟨Or.inr (z_w hw 231 rfl), ⟨(.array (.array .int)), by decide +kernel⟩⟩ (z_allS ⟨Or.inr (z_w hw 236 rfl), ⟨(.array .int), by decide +kernel⟩⟩ (z_allS ⟨Or.inl (z_w hw 251 rfl), ⟨.int, by decide +kernel⟩⟩ (z_allS ⟨Or.inl (z_w hw 253 rfl), ⟨.int, by decide +kernel⟩⟩ (z_allS ⟨Or.inl (z_w hw 275 rfl), ⟨.boolean, by decide +kernel⟩⟩ z_nil))))))))))))))⟩
theorem z_lay3_df : z_lay3.map z_dflt = [(.int (0 : Int32)), .null, .null, .null, .null, .null, .null, .null, .null, .null, .null, (.int (0 : Int32)), (.int (0 : Int32)), (.int (0 : Int32))] := by first | rfl | decide +kernel
def z_lay4 : List (String × String × String) := [("java/util/ArrayList$Itr", "this$0", "Ljava/util/ArrayList;"), ("java/util/ArrayList$Itr", "lastRet", "I"), ("java/util/ArrayList$Itr", "expectedModCount", "I"), ("java/util/ArrayList$Itr", "cursor", "I")]
theorem z_lay4_ok {Z : State} {a0 : Array Value} (hw : ∀ d ∈ tables_1, d.before a0 Z = true) : z_LayOk Z a0 "java/util/ArrayList$Itr" z_lay4 := ⟨by decide +kernel, (z_allS ⟨Or.inr (z_w hw 205 rfl), ⟨(.object "java/util/ArrayList"), by decide +kernel⟩⟩ (z_allS ⟨Or.inl (z_w hw 208 rfl), ⟨.int, by decide +kernel⟩⟩ (z_allS ⟨Or.inl (z_w hw 211 rfl), ⟨.int, by decide +kernel⟩⟩ (z_allS ⟨Or.inl (z_w hw 222 rfl), ⟨.int, by decide +kernel⟩⟩ z_nil))))⟩
theorem z_lay4_df : z_lay4.map z_dflt = [.null, (.int (0 : Int32)), (.int (0 : Int32)), (.int (0 : Int32))] := by first | rfl | decide +kernel
def z_R0_0 (y10 : Int32) (y11 : Int32) (y12 : Int32) : Prop := (¬ y10 < 0) ∧ (((z_z8))[(y10).toNatClampNeg]? = some (.int (0 : Int32))) ∧ (¬ (y10 ^^^ (1 : Int32)) < 0) ∧ (((z_z8))[((y10 ^^^ (1 : Int32))).toNatClampNeg]? = some (.int (0 : Int32))) ∧ (¬ y11 < 0) ∧ (((z_z8))[(y11).toNatClampNeg]? = some (.int (0 : Int32))) ∧ (¬ (y11 ^^^ (1 : Int32)) < 0) ∧ (((z_z8))[((y11 ^^^ (1 : Int32))).toNatClampNeg]? = some (.int (0 : Int32))) ∧ (¬ y12 < 0) ∧ (((z_z8))[(y12).toNatClampNeg]? = some (.int (0 : Int32))) ∧ (¬ (y12 ^^^ (1 : Int32)) < 0) ∧ (((z_z8))[((y12 ^^^ (1 : Int32))).toNatClampNeg]? = some (.int (0 : Int32))) ∧ ((z_z8)[((0 : Int32)).toNatClampNeg]? = some (.int (0 : Int32))) ∧ ((z_z8)[((1 : Int32)).toNatClampNeg]? = some (.int (0 : Int32)))
def z_R1_0 (y10 : Int32) (y11 : Int32) (y12 : Int32) : Prop := (¬ y10 < 0) ∧ ((y10).toNatClampNeg < ((z_z8)).length) ∧ (¬ (y10 ^^^ (1 : Int32)) < 0) ∧ (((y10 ^^^ (1 : Int32))).toNatClampNeg < ((List.set ((z_z8)) (y10).toNatClampNeg (.int (1 : Int32)))).length) ∧ ((y10).toNatClampNeg < (((List.set ((List.set ((z_z8)) (y10).toNatClampNeg (.int (1 : Int32)))) ((y10 ^^^ (1 : Int32))).toNatClampNeg (.int (-1 : Int32))))).length) ∧ (((y10 ^^^ (1 : Int32))).toNatClampNeg < ((List.set (((List.set ((List.set ((z_z8)) (y10).toNatClampNeg (.int (1 : Int32)))) ((y10 ^^^ (1 : Int32))).toNatClampNeg (.int (-1 : Int32))))) (y10).toNatClampNeg (.int (0 : Int32)))).length) ∧ ((((List.set ((List.set (((List.set ((List.set ((z_z8)) (y10).toNatClampNeg (.int (1 : Int32)))) ((y10 ^^^ (1 : Int32))).toNatClampNeg (.int (-1 : Int32))))) (y10).toNatClampNeg (.int (0 : Int32)))) ((y10 ^^^ (1 : Int32))).toNatClampNeg (.int (0 : Int32)))))[(y10).toNatClampNeg]? = some (.int (0 : Int32))) ∧ ((((List.set ((List.set (((List.set ((List.set ((z_z8)) (y10).toNatClampNeg (.int (1 : Int32)))) ((y10 ^^^ (1 : Int32))).toNatClampNeg (.int (-1 : Int32))))) (y10).toNatClampNeg (.int (0 : Int32)))) ((y10 ^^^ (1 : Int32))).toNatClampNeg (.int (0 : Int32)))))[((y10 ^^^ (1 : Int32))).toNatClampNeg]? = some (.int (0 : Int32))) ∧ (¬ y11 < 0) ∧ ((((List.set ((List.set (((List.set ((List.set ((z_z8)) (y10).toNatClampNeg (.int (1 : Int32)))) ((y10 ^^^ (1 : Int32))).toNatClampNeg (.int (-1 : Int32))))) (y10).toNatClampNeg (.int (0 : Int32)))) ((y10 ^^^ (1 : Int32))).toNatClampNeg (.int (0 : Int32)))))[(y11).toNatClampNeg]? = some (.int (0 : Int32))) ∧ (¬ (y11 ^^^ (1 : Int32)) < 0) ∧ ((((List.set ((List.set (((List.set ((List.set ((z_z8)) (y10).toNatClampNeg (.int (1 : Int32)))) ((y10 ^^^ (1 : Int32))).toNatClampNeg (.int (-1 : Int32))))) (y10).toNatClampNeg (.int (0 : Int32)))) ((y10 ^^^ (1 : Int32))).toNatClampNeg (.int (0 : Int32)))))[((y11 ^^^ (1 : Int32))).toNatClampNeg]? = some (.int (0 : Int32))) ∧ (¬ y12 < 0) ∧ ((((List.set ((List.set (((List.set ((List.set ((z_z8)) (y10).toNatClampNeg (.int (1 : Int32)))) ((y10 ^^^ (1 : Int32))).toNatClampNeg (.int (-1 : Int32))))) (y10).toNatClampNeg (.int (0 : Int32)))) ((y10 ^^^ (1 : Int32))).toNatClampNeg (.int (0 : Int32)))))[(y12).toNatClampNeg]? = some (.int (0 : Int32))) ∧ (¬ (y12 ^^^ (1 : Int32)) < 0) ∧ ((((List.set ((List.set (((List.set ((List.set ((z_z8)) (y10).toNatClampNeg (.int (1 : Int32)))) ((y10 ^^^ (1 : Int32))).toNatClampNeg (.int (-1 : Int32))))) (y10).toNatClampNeg (.int (0 : Int32)))) ((y10 ^^^ (1 : Int32))).toNatClampNeg (.int (0 : Int32)))))[((y12 ^^^ (1 : Int32))).toNatClampNeg]? = some (.int (0 : Int32))) ∧ (((List.set ((List.set (((List.set ((List.set ((z_z8)) (y10).toNatClampNeg (.int (1 : Int32)))) ((y10 ^^^ (1 : Int32))).toNatClampNeg (.int (-1 : Int32))))) (y10).toNatClampNeg (.int (0 : Int32)))) ((y10 ^^^ (1 : Int32))).toNatClampNeg (.int (0 : Int32))))[((0 : Int32)).toNatClampNeg]? = some (.int (0 : Int32))) ∧ (((List.set ((List.set (((List.set ((List.set ((z_z8)) (y10).toNatClampNeg (.int (1 : Int32)))) ((y10 ^^^ (1 : Int32))).toNatClampNeg (.int (-1 : Int32))))) (y10).toNatClampNeg (.int (0 : Int32)))) ((y10 ^^^ (1 : Int32))).toNatClampNeg (.int (0 : Int32))))[((1 : Int32)).toNatClampNeg]? = some (.int (0 : Int32)))
def z_R1_1 (y10 : Int32) (y11 : Int32) (y12 : Int32) : Prop := (¬ y10 < 0) ∧ ((y10).toNatClampNeg < ((z_z8)).length) ∧ (¬ (y10 ^^^ (1 : Int32)) < 0) ∧ (((y10 ^^^ (1 : Int32))).toNatClampNeg < ((List.set ((z_z8)) (y10).toNatClampNeg (.int (1 : Int32)))).length) ∧ ((((List.set ((List.set ((z_z8)) (y10).toNatClampNeg (.int (1 : Int32)))) ((y10 ^^^ (1 : Int32))).toNatClampNeg (.int (-1 : Int32)))))[(y10).toNatClampNeg]? = some (.int (1 : Int32))) ∧ ((((List.set ((List.set ((z_z8)) (y10).toNatClampNeg (.int (1 : Int32)))) ((y10 ^^^ (1 : Int32))).toNatClampNeg (.int (-1 : Int32)))))[((y10 ^^^ (1 : Int32))).toNatClampNeg]? = some (.int (-1 : Int32))) ∧ (¬ y11 < 0) ∧ ((((List.set ((List.set ((z_z8)) (y10).toNatClampNeg (.int (1 : Int32)))) ((y10 ^^^ (1 : Int32))).toNatClampNeg (.int (-1 : Int32)))))[(y11).toNatClampNeg]? = some (.int (0 : Int32))) ∧ (¬ (y11 ^^^ (1 : Int32)) < 0) ∧ ((((List.set ((List.set ((z_z8)) (y10).toNatClampNeg (.int (1 : Int32)))) ((y10 ^^^ (1 : Int32))).toNatClampNeg (.int (-1 : Int32)))))[((y11 ^^^ (1 : Int32))).toNatClampNeg]? = some (.int (0 : Int32))) ∧ (¬ y12 < 0) ∧ ((((List.set ((List.set ((z_z8)) (y10).toNatClampNeg (.int (1 : Int32)))) ((y10 ^^^ (1 : Int32))).toNatClampNeg (.int (-1 : Int32)))))[(y12).toNatClampNeg]? = some (.int (0 : Int32))) ∧ (¬ (y12 ^^^ (1 : Int32)) < 0) ∧ ((((List.set ((List.set ((z_z8)) (y10).toNatClampNeg (.int (1 : Int32)))) ((y10 ^^^ (1 : Int32))).toNatClampNeg (.int (-1 : Int32)))))[((y12 ^^^ (1 : Int32))).toNatClampNeg]? = some (.int (0 : Int32))) ∧ (((List.set ((List.set ((z_z8)) (y10).toNatClampNeg (.int (1 : Int32)))) ((y10 ^^^ (1 : Int32))).toNatClampNeg (.int (-1 : Int32))))[((0 : Int32)).toNatClampNeg]? = some (.int (0 : Int32))) ∧ (((List.set ((List.set ((z_z8)) (y10).toNatClampNeg (.int (1 : Int32)))) ((y10 ^^^ (1 : Int32))).toNatClampNeg (.int (-1 : Int32))))[((1 : Int32)).toNatClampNeg]? = some (.int (0 : Int32)))
def z_R2_0 (y10 : Int32) (y11 : Int32) (y12 : Int32) : Prop := (¬ y10 < 0) ∧ ((y10).toNatClampNeg < ((z_z8)).length) ∧ (¬ (y10 ^^^ (1 : Int32)) < 0) ∧ (((y10 ^^^ (1 : Int32))).toNatClampNeg < ((List.set ((z_z8)) (y10).toNatClampNeg (.int (1 : Int32)))).length) ∧ (¬ y11 < 0) ∧ ((y11).toNatClampNeg < (((List.set ((List.set ((z_z8)) (y10).toNatClampNeg (.int (1 : Int32)))) ((y10 ^^^ (1 : Int32))).toNatClampNeg (.int (-1 : Int32))))).length) ∧ (¬ (y11 ^^^ (1 : Int32)) < 0) ∧ (((y11 ^^^ (1 : Int32))).toNatClampNeg < ((List.set (((List.set ((List.set ((z_z8)) (y10).toNatClampNeg (.int (1 : Int32)))) ((y10 ^^^ (1 : Int32))).toNatClampNeg (.int (-1 : Int32))))) (y11).toNatClampNeg (.int (1 : Int32)))).length) ∧ ((y11).toNatClampNeg < (((List.set ((List.set (((List.set ((List.set ((z_z8)) (y10).toNatClampNeg (.int (1 : Int32)))) ((y10 ^^^ (1 : Int32))).toNatClampNeg (.int (-1 : Int32))))) (y11).toNatClampNeg (.int (1 : Int32)))) ((y11 ^^^ (1 : Int32))).toNatClampNeg (.int (-1 : Int32))))).length) ∧ (((y11 ^^^ (1 : Int32))).toNatClampNeg < ((List.set (((List.set ((List.set (((List.set ((List.set ((z_z8)) (y10).toNatClampNeg (.int (1 : Int32)))) ((y10 ^^^ (1 : Int32))).toNatClampNeg (.int (-1 : Int32))))) (y11).toNatClampNeg (.int (1 : Int32)))) ((y11 ^^^ (1 : Int32))).toNatClampNeg (.int (-1 : Int32))))) (y11).toNatClampNeg (.int (0 : Int32)))).length) ∧ ((y10).toNatClampNeg < ((List.set ((List.set (((List.set ((List.set (((List.set ((List.set ((z_z8)) (y10).toNatClampNeg (.int (1 : Int32)))) ((y10 ^^^ (1 : Int32))).toNatClampNeg (.int (-1 : Int32))))) (y11).toNatClampNeg (.int (1 : Int32)))) ((y11 ^^^ (1 : Int32))).toNatClampNeg (.int (-1 : Int32))))) (y11).toNatClampNeg (.int (0 : Int32)))) ((y11 ^^^ (1 : Int32))).toNatClampNeg (.int (0 : Int32)))).length) ∧ (((y10 ^^^ (1 : Int32))).toNatClampNeg < ((List.set ((List.set ((List.set (((List.set ((List.set (((List.set ((List.set ((z_z8)) (y10).toNatClampNeg (.int (1 : Int32)))) ((y10 ^^^ (1 : Int32))).toNatClampNeg (.int (-1 : Int32))))) (y11).toNatClampNeg (.int (1 : Int32)))) ((y11 ^^^ (1 : Int32))).toNatClampNeg (.int (-1 : Int32))))) (y11).toNatClampNeg (.int (0 : Int32)))) ((y11 ^^^ (1 : Int32))).toNatClampNeg (.int (0 : Int32)))) (y10).toNatClampNeg (.int (0 : Int32)))).length) ∧ ((((List.set ((List.set ((List.set ((List.set (((List.set ((List.set (((List.set ((List.set ((z_z8)) (y10).toNatClampNeg (.int (1 : Int32)))) ((y10 ^^^ (1 : Int32))).toNatClampNeg (.int (-1 : Int32))))) (y11).toNatClampNeg (.int (1 : Int32)))) ((y11 ^^^ (1 : Int32))).toNatClampNeg (.int (-1 : Int32))))) (y11).toNatClampNeg (.int (0 : Int32)))) ((y11 ^^^ (1 : Int32))).toNatClampNeg (.int (0 : Int32)))) (y10).toNatClampNeg (.int (0 : Int32)))) ((y10 ^^^ (1 : Int32))).toNatClampNeg (.int (0 : Int32)))))[(y10).toNatClampNeg]? = some (.int (0 : Int32))) ∧ ((((List.set ((List.set ((List.set ((List.set (((List.set ((List.set (((List.set ((List.set ((z_z8)) (y10).toNatClampNeg (.int (1 : Int32)))) ((y10 ^^^ (1 : Int32))).toNatClampNeg (.int (-1 : Int32))))) (y11).toNatClampNeg (.int (1 : Int32)))) ((y11 ^^^ (1 : Int32))).toNatClampNeg (.int (-1 : Int32))))) (y11).toNatClampNeg (.int (0 : Int32)))) ((y11 ^^^ (1 : Int32))).toNatClampNeg (.int (0 : Int32)))) (y10).toNatClampNeg (.int (0 : Int32)))) ((y10 ^^^ (1 : Int32))).toNatClampNeg (.int (0 : Int32)))))[((y10 ^^^ (1 : Int32))).toNatClampNeg]? = some (.int (0 : Int32))) ∧ ((((List.set ((List.set ((List.set ((List.set (((List.set ((List.set (((List.set ((List.set ((z_z8)) (y10).toNatClampNeg (.int (1 : Int32)))) ((y10 ^^^ (1 : Int32))).toNatClampNeg (.int (-1 : Int32))))) (y11).toNatClampNeg (.int (1 : Int32)))) ((y11 ^^^ (1 : Int32))).toNatClampNeg (.int (-1 : Int32))))) (y11).toNatClampNeg (.int (0 : Int32)))) ((y11 ^^^ (1 : Int32))).toNatClampNeg (.int (0 : Int32)))) (y10).toNatClampNeg (.int (0 : Int32)))) ((y10 ^^^ (1 : Int32))).toNatClampNeg (.int (0 : Int32)))))[(y11).toNatClampNeg]? = some (.int (0 : Int32))) ∧ ((((List.set ((List.set ((List.set ((List.set (((List.set ((List.set (((List.set ((List.set ((z_z8)) (y10).toNatClampNeg (.int (1 : Int32)))) ((y10 ^^^ (1 : Int32))).toNatClampNeg (.int (-1 : Int32))))) (y11).toNatClampNeg (.int (1 : Int32)))) ((y11 ^^^ (1 : Int32))).toNatClampNeg (.int (-1 : Int32))))) (y11).toNatClampNeg (.int (0 : Int32)))) ((y11 ^^^ (1 : Int32))).toNatClampNeg (.int (0 : Int32)))) (y10).toNatClampNeg (.int (0 : Int32)))) ((y10 ^^^ (1 : Int32))).toNatClampNeg (.int (0 : Int32)))))[((y11 ^^^ (1 : Int32))).toNatClampNeg]? = some (.int (0 : Int32))) ∧ (¬ y12 < 0) ∧ ((((List.set ((List.set ((List.set ((List.set (((List.set ((List.set (((List.set ((List.set ((z_z8)) (y10).toNatClampNeg (.int (1 : Int32)))) ((y10 ^^^ (1 : Int32))).toNatClampNeg (.int (-1 : Int32))))) (y11).toNatClampNeg (.int (1 : Int32)))) ((y11 ^^^ (1 : Int32))).toNatClampNeg (.int (-1 : Int32))))) (y11).toNatClampNeg (.int (0 : Int32)))) ((y11 ^^^ (1 : Int32))).toNatClampNeg (.int (0 : Int32)))) (y10).toNatClampNeg (.int (0 : Int32)))) ((y10 ^^^ (1 : Int32))).toNatClampNeg (.int (0 : Int32)))))[(y12).toNatClampNeg]? = some (.int (0 : Int32))) ∧ (¬ (y12 ^^^ (1 : Int32)) < 0) ∧ ((((List.set ((List.set ((List.set ((List.set (((List.set ((List.set (((List.set ((List.set ((z_z8)) (y10).toNatClampNeg (.int (1 : Int32)))) ((y10 ^^^ (1 : Int32))).toNatClampNeg (.int (-1 : Int32))))) (y11).toNatClampNeg (.int (1 : Int32)))) ((y11 ^^^ (1 : Int32))).toNatClampNeg (.int (-1 : Int32))))) (y11).toNatClampNeg (.int (0 : Int32)))) ((y11 ^^^ (1 : Int32))).toNatClampNeg (.int (0 : Int32)))) (y10).toNatClampNeg (.int (0 : Int32)))) ((y10 ^^^ (1 : Int32))).toNatClampNeg (.int (0 : Int32)))))[((y12 ^^^ (1 : Int32))).toNatClampNeg]? = some (.int (0 : Int32))) ∧ (((List.set ((List.set ((List.set ((List.set (((List.set ((List.set (((List.set ((List.set ((z_z8)) (y10).toNatClampNeg (.int (1 : Int32)))) ((y10 ^^^ (1 : Int32))).toNatClampNeg (.int (-1 : Int32))))) (y11).toNatClampNeg (.int (1 : Int32)))) ((y11 ^^^ (1 : Int32))).toNatClampNeg (.int (-1 : Int32))))) (y11).toNatClampNeg (.int (0 : Int32)))) ((y11 ^^^ (1 : Int32))).toNatClampNeg (.int (0 : Int32)))) (y10).toNatClampNeg (.int (0 : Int32)))) ((y10 ^^^ (1 : Int32))).toNatClampNeg (.int (0 : Int32))))[((0 : Int32)).toNatClampNeg]? = some (.int (0 : Int32))) ∧ (((List.set ((List.set ((List.set ((List.set (((List.set ((List.set (((List.set ((List.set ((z_z8)) (y10).toNatClampNeg (.int (1 : Int32)))) ((y10 ^^^ (1 : Int32))).toNatClampNeg (.int (-1 : Int32))))) (y11).toNatClampNeg (.int (1 : Int32)))) ((y11 ^^^ (1 : Int32))).toNatClampNeg (.int (-1 : Int32))))) (y11).toNatClampNeg (.int (0 : Int32)))) ((y11 ^^^ (1 : Int32))).toNatClampNeg (.int (0 : Int32)))) (y10).toNatClampNeg (.int (0 : Int32)))) ((y10 ^^^ (1 : Int32))).toNatClampNeg (.int (0 : Int32))))[((1 : Int32)).toNatClampNeg]? = some (.int (0 : Int32)))
def z_R2_1 (y10 : Int32) (y11 : Int32) (y12 : Int32) : Prop := (¬ y10 < 0) ∧ ((y10).toNatClampNeg < ((z_z8)).length) ∧ (¬ (y10 ^^^ (1 : Int32)) < 0) ∧ (((y10 ^^^ (1 : Int32))).toNatClampNeg < ((List.set ((z_z8)) (y10).toNatClampNeg (.int (1 : Int32)))).length) ∧ (¬ y11 < 0) ∧ ((y11).toNatClampNeg < (((List.set ((List.set ((z_z8)) (y10).toNatClampNeg (.int (1 : Int32)))) ((y10 ^^^ (1 : Int32))).toNatClampNeg (.int (-1 : Int32))))).length) ∧ (¬ (y11 ^^^ (1 : Int32)) < 0) ∧ (((y11 ^^^ (1 : Int32))).toNatClampNeg < ((List.set (((List.set ((List.set ((z_z8)) (y10).toNatClampNeg (.int (1 : Int32)))) ((y10 ^^^ (1 : Int32))).toNatClampNeg (.int (-1 : Int32))))) (y11).toNatClampNeg (.int (1 : Int32)))).length) ∧ ((y11).toNatClampNeg < (((List.set ((List.set (((List.set ((List.set ((z_z8)) (y10).toNatClampNeg (.int (1 : Int32)))) ((y10 ^^^ (1 : Int32))).toNatClampNeg (.int (-1 : Int32))))) (y11).toNatClampNeg (.int (1 : Int32)))) ((y11 ^^^ (1 : Int32))).toNatClampNeg (.int (-1 : Int32))))).length) ∧ (((y11 ^^^ (1 : Int32))).toNatClampNeg < ((List.set (((List.set ((List.set (((List.set ((List.set ((z_z8)) (y10).toNatClampNeg (.int (1 : Int32)))) ((y10 ^^^ (1 : Int32))).toNatClampNeg (.int (-1 : Int32))))) (y11).toNatClampNeg (.int (1 : Int32)))) ((y11 ^^^ (1 : Int32))).toNatClampNeg (.int (-1 : Int32))))) (y11).toNatClampNeg (.int (0 : Int32)))).length) ∧ ((((List.set ((List.set (((List.set ((List.set (((List.set ((List.set ((z_z8)) (y10).toNatClampNeg (.int (1 : Int32)))) ((y10 ^^^ (1 : Int32))).toNatClampNeg (.int (-1 : Int32))))) (y11).toNatClampNeg (.int (1 : Int32)))) ((y11 ^^^ (1 : Int32))).toNatClampNeg (.int (-1 : Int32))))) (y11).toNatClampNeg (.int (0 : Int32)))) ((y11 ^^^ (1 : Int32))).toNatClampNeg (.int (0 : Int32)))))[(y10).toNatClampNeg]? = some (.int (1 : Int32))) ∧ ((((List.set ((List.set (((List.set ((List.set (((List.set ((List.set ((z_z8)) (y10).toNatClampNeg (.int (1 : Int32)))) ((y10 ^^^ (1 : Int32))).toNatClampNeg (.int (-1 : Int32))))) (y11).toNatClampNeg (.int (1 : Int32)))) ((y11 ^^^ (1 : Int32))).toNatClampNeg (.int (-1 : Int32))))) (y11).toNatClampNeg (.int (0 : Int32)))) ((y11 ^^^ (1 : Int32))).toNatClampNeg (.int (0 : Int32)))))[((y10 ^^^ (1 : Int32))).toNatClampNeg]? = some (.int (-1 : Int32))) ∧ ((((List.set ((List.set (((List.set ((List.set (((List.set ((List.set ((z_z8)) (y10).toNatClampNeg (.int (1 : Int32)))) ((y10 ^^^ (1 : Int32))).toNatClampNeg (.int (-1 : Int32))))) (y11).toNatClampNeg (.int (1 : Int32)))) ((y11 ^^^ (1 : Int32))).toNatClampNeg (.int (-1 : Int32))))) (y11).toNatClampNeg (.int (0 : Int32)))) ((y11 ^^^ (1 : Int32))).toNatClampNeg (.int (0 : Int32)))))[(y11).toNatClampNeg]? = some (.int (0 : Int32))) ∧ ((((List.set ((List.set (((List.set ((List.set (((List.set ((List.set ((z_z8)) (y10).toNatClampNeg (.int (1 : Int32)))) ((y10 ^^^ (1 : Int32))).toNatClampNeg (.int (-1 : Int32))))) (y11).toNatClampNeg (.int (1 : Int32)))) ((y11 ^^^ (1 : Int32))).toNatClampNeg (.int (-1 : Int32))))) (y11).toNatClampNeg (.int (0 : Int32)))) ((y11 ^^^ (1 : Int32))).toNatClampNeg (.int (0 : Int32)))))[((y11 ^^^ (1 : Int32))).toNatClampNeg]? = some (.int (0 : Int32))) ∧ (¬ y12 < 0) ∧ ((((List.set ((List.set (((List.set ((List.set (((List.set ((List.set ((z_z8)) (y10).toNatClampNeg (.int (1 : Int32)))) ((y10 ^^^ (1 : Int32))).toNatClampNeg (.int (-1 : Int32))))) (y11).toNatClampNeg (.int (1 : Int32)))) ((y11 ^^^ (1 : Int32))).toNatClampNeg (.int (-1 : Int32))))) (y11).toNatClampNeg (.int (0 : Int32)))) ((y11 ^^^ (1 : Int32))).toNatClampNeg (.int (0 : Int32)))))[(y12).toNatClampNeg]? = some (.int (0 : Int32))) ∧ (¬ (y12 ^^^ (1 : Int32)) < 0) ∧ ((((List.set ((List.set (((List.set ((List.set (((List.set ((List.set ((z_z8)) (y10).toNatClampNeg (.int (1 : Int32)))) ((y10 ^^^ (1 : Int32))).toNatClampNeg (.int (-1 : Int32))))) (y11).toNatClampNeg (.int (1 : Int32)))) ((y11 ^^^ (1 : Int32))).toNatClampNeg (.int (-1 : Int32))))) (y11).toNatClampNeg (.int (0 : Int32)))) ((y11 ^^^ (1 : Int32))).toNatClampNeg (.int (0 : Int32)))))[((y12 ^^^ (1 : Int32))).toNatClampNeg]? = some (.int (0 : Int32))) ∧ (((List.set ((List.set (((List.set ((List.set (((List.set ((List.set ((z_z8)) (y10).toNatClampNeg (.int (1 : Int32)))) ((y10 ^^^ (1 : Int32))).toNatClampNeg (.int (-1 : Int32))))) (y11).toNatClampNeg (.int (1 : Int32)))) ((y11 ^^^ (1 : Int32))).toNatClampNeg (.int (-1 : Int32))))) (y11).toNatClampNeg (.int (0 : Int32)))) ((y11 ^^^ (1 : Int32))).toNatClampNeg (.int (0 : Int32))))[((0 : Int32)).toNatClampNeg]? = some (.int (0 : Int32))) ∧ (((List.set ((List.set (((List.set ((List.set (((List.set ((List.set ((z_z8)) (y10).toNatClampNeg (.int (1 : Int32)))) ((y10 ^^^ (1 : Int32))).toNatClampNeg (.int (-1 : Int32))))) (y11).toNatClampNeg (.int (1 : Int32)))) ((y11 ^^^ (1 : Int32))).toNatClampNeg (.int (-1 : Int32))))) (y11).toNatClampNeg (.int (0 : Int32)))) ((y11 ^^^ (1 : Int32))).toNatClampNeg (.int (0 : Int32))))[((1 : Int32)).toNatClampNeg]? = some (.int (0 : Int32)))
def z_R2_2 (y10 : Int32) (y11 : Int32) (y12 : Int32) : Prop := (¬ y10 < 0) ∧ ((y10).toNatClampNeg < ((z_z8)).length) ∧ (¬ (y10 ^^^ (1 : Int32)) < 0) ∧ (((y10 ^^^ (1 : Int32))).toNatClampNeg < ((List.set ((z_z8)) (y10).toNatClampNeg (.int (1 : Int32)))).length) ∧ (¬ y11 < 0) ∧ ((y11).toNatClampNeg < (((List.set ((List.set ((z_z8)) (y10).toNatClampNeg (.int (1 : Int32)))) ((y10 ^^^ (1 : Int32))).toNatClampNeg (.int (-1 : Int32))))).length) ∧ (¬ (y11 ^^^ (1 : Int32)) < 0) ∧ (((y11 ^^^ (1 : Int32))).toNatClampNeg < ((List.set (((List.set ((List.set ((z_z8)) (y10).toNatClampNeg (.int (1 : Int32)))) ((y10 ^^^ (1 : Int32))).toNatClampNeg (.int (-1 : Int32))))) (y11).toNatClampNeg (.int (1 : Int32)))).length) ∧ ((((List.set ((List.set (((List.set ((List.set ((z_z8)) (y10).toNatClampNeg (.int (1 : Int32)))) ((y10 ^^^ (1 : Int32))).toNatClampNeg (.int (-1 : Int32))))) (y11).toNatClampNeg (.int (1 : Int32)))) ((y11 ^^^ (1 : Int32))).toNatClampNeg (.int (-1 : Int32)))))[(y10).toNatClampNeg]? = some (.int (1 : Int32))) ∧ ((((List.set ((List.set (((List.set ((List.set ((z_z8)) (y10).toNatClampNeg (.int (1 : Int32)))) ((y10 ^^^ (1 : Int32))).toNatClampNeg (.int (-1 : Int32))))) (y11).toNatClampNeg (.int (1 : Int32)))) ((y11 ^^^ (1 : Int32))).toNatClampNeg (.int (-1 : Int32)))))[((y10 ^^^ (1 : Int32))).toNatClampNeg]? = some (.int (-1 : Int32))) ∧ ((((List.set ((List.set (((List.set ((List.set ((z_z8)) (y10).toNatClampNeg (.int (1 : Int32)))) ((y10 ^^^ (1 : Int32))).toNatClampNeg (.int (-1 : Int32))))) (y11).toNatClampNeg (.int (1 : Int32)))) ((y11 ^^^ (1 : Int32))).toNatClampNeg (.int (-1 : Int32)))))[(y11).toNatClampNeg]? = some (.int (1 : Int32))) ∧ ((((List.set ((List.set (((List.set ((List.set ((z_z8)) (y10).toNatClampNeg (.int (1 : Int32)))) ((y10 ^^^ (1 : Int32))).toNatClampNeg (.int (-1 : Int32))))) (y11).toNatClampNeg (.int (1 : Int32)))) ((y11 ^^^ (1 : Int32))).toNatClampNeg (.int (-1 : Int32)))))[((y11 ^^^ (1 : Int32))).toNatClampNeg]? = some (.int (-1 : Int32))) ∧ (¬ y12 < 0) ∧ ((((List.set ((List.set (((List.set ((List.set ((z_z8)) (y10).toNatClampNeg (.int (1 : Int32)))) ((y10 ^^^ (1 : Int32))).toNatClampNeg (.int (-1 : Int32))))) (y11).toNatClampNeg (.int (1 : Int32)))) ((y11 ^^^ (1 : Int32))).toNatClampNeg (.int (-1 : Int32)))))[(y12).toNatClampNeg]? = some (.int (0 : Int32))) ∧ (¬ (y12 ^^^ (1 : Int32)) < 0) ∧ ((((List.set ((List.set (((List.set ((List.set ((z_z8)) (y10).toNatClampNeg (.int (1 : Int32)))) ((y10 ^^^ (1 : Int32))).toNatClampNeg (.int (-1 : Int32))))) (y11).toNatClampNeg (.int (1 : Int32)))) ((y11 ^^^ (1 : Int32))).toNatClampNeg (.int (-1 : Int32)))))[((y12 ^^^ (1 : Int32))).toNatClampNeg]? = some (.int (0 : Int32))) ∧ (((List.set ((List.set (((List.set ((List.set ((z_z8)) (y10).toNatClampNeg (.int (1 : Int32)))) ((y10 ^^^ (1 : Int32))).toNatClampNeg (.int (-1 : Int32))))) (y11).toNatClampNeg (.int (1 : Int32)))) ((y11 ^^^ (1 : Int32))).toNatClampNeg (.int (-1 : Int32))))[((0 : Int32)).toNatClampNeg]? = some (.int (0 : Int32))) ∧ (((List.set ((List.set (((List.set ((List.set ((z_z8)) (y10).toNatClampNeg (.int (1 : Int32)))) ((y10 ^^^ (1 : Int32))).toNatClampNeg (.int (-1 : Int32))))) (y11).toNatClampNeg (.int (1 : Int32)))) ((y11 ^^^ (1 : Int32))).toNatClampNeg (.int (-1 : Int32))))[((1 : Int32)).toNatClampNeg]? = some (.int (0 : Int32)))
def z_R3_0 (y10 : Int32) (y11 : Int32) (y12 : Int32) : Prop := (¬ y10 < 0) ∧ ((y10).toNatClampNeg < ((z_z8)).length) ∧ (¬ (y10 ^^^ (1 : Int32)) < 0) ∧ (((y10 ^^^ (1 : Int32))).toNatClampNeg < ((List.set ((z_z8)) (y10).toNatClampNeg (.int (1 : Int32)))).length) ∧ (¬ y11 < 0) ∧ ((y11).toNatClampNeg < (((List.set ((List.set ((z_z8)) (y10).toNatClampNeg (.int (1 : Int32)))) ((y10 ^^^ (1 : Int32))).toNatClampNeg (.int (-1 : Int32))))).length) ∧ (¬ (y11 ^^^ (1 : Int32)) < 0) ∧ (((y11 ^^^ (1 : Int32))).toNatClampNeg < ((List.set (((List.set ((List.set ((z_z8)) (y10).toNatClampNeg (.int (1 : Int32)))) ((y10 ^^^ (1 : Int32))).toNatClampNeg (.int (-1 : Int32))))) (y11).toNatClampNeg (.int (1 : Int32)))).length) ∧ (¬ y12 < 0) ∧ ((y12).toNatClampNeg < (((List.set ((List.set (((List.set ((List.set ((z_z8)) (y10).toNatClampNeg (.int (1 : Int32)))) ((y10 ^^^ (1 : Int32))).toNatClampNeg (.int (-1 : Int32))))) (y11).toNatClampNeg (.int (1 : Int32)))) ((y11 ^^^ (1 : Int32))).toNatClampNeg (.int (-1 : Int32))))).length) ∧ (¬ (y12 ^^^ (1 : Int32)) < 0) ∧ (((y12 ^^^ (1 : Int32))).toNatClampNeg < ((List.set (((List.set ((List.set (((List.set ((List.set ((z_z8)) (y10).toNatClampNeg (.int (1 : Int32)))) ((y10 ^^^ (1 : Int32))).toNatClampNeg (.int (-1 : Int32))))) (y11).toNatClampNeg (.int (1 : Int32)))) ((y11 ^^^ (1 : Int32))).toNatClampNeg (.int (-1 : Int32))))) (y12).toNatClampNeg (.int (1 : Int32)))).length) ∧ ((y12).toNatClampNeg < (((List.set ((List.set (((List.set ((List.set (((List.set ((List.set ((z_z8)) (y10).toNatClampNeg (.int (1 : Int32)))) ((y10 ^^^ (1 : Int32))).toNatClampNeg (.int (-1 : Int32))))) (y11).toNatClampNeg (.int (1 : Int32)))) ((y11 ^^^ (1 : Int32))).toNatClampNeg (.int (-1 : Int32))))) (y12).toNatClampNeg (.int (1 : Int32)))) ((y12 ^^^ (1 : Int32))).toNatClampNeg (.int (-1 : Int32))))).length) ∧ (((y12 ^^^ (1 : Int32))).toNatClampNeg < ((List.set (((List.set ((List.set (((List.set ((List.set (((List.set ((List.set ((z_z8)) (y10).toNatClampNeg (.int (1 : Int32)))) ((y10 ^^^ (1 : Int32))).toNatClampNeg (.int (-1 : Int32))))) (y11).toNatClampNeg (.int (1 : Int32)))) ((y11 ^^^ (1 : Int32))).toNatClampNeg (.int (-1 : Int32))))) (y12).toNatClampNeg (.int (1 : Int32)))) ((y12 ^^^ (1 : Int32))).toNatClampNeg (.int (-1 : Int32))))) (y12).toNatClampNeg (.int (0 : Int32)))).length) ∧ ((y11).toNatClampNeg < ((List.set ((List.set (((List.set ((List.set (((List.set ((List.set (((List.set ((List.set ((z_z8)) (y10).toNatClampNeg (.int (1 : Int32)))) ((y10 ^^^ (1 : Int32))).toNatClampNeg (.int (-1 : Int32))))) (y11).toNatClampNeg (.int (1 : Int32)))) ((y11 ^^^ (1 : Int32))).toNatClampNeg (.int (-1 : Int32))))) (y12).toNatClampNeg (.int (1 : Int32)))) ((y12 ^^^ (1 : Int32))).toNatClampNeg (.int (-1 : Int32))))) (y12).toNatClampNeg (.int (0 : Int32)))) ((y12 ^^^ (1 : Int32))).toNatClampNeg (.int (0 : Int32)))).length) ∧ (((y11 ^^^ (1 : Int32))).toNatClampNeg < ((List.set ((List.set ((List.set (((List.set ((List.set (((List.set ((List.set (((List.set ((List.set ((z_z8)) (y10).toNatClampNeg (.int (1 : Int32)))) ((y10 ^^^ (1 : Int32))).toNatClampNeg (.int (-1 : Int32))))) (y11).toNatClampNeg (.int (1 : Int32)))) ((y11 ^^^ (1 : Int32))).toNatClampNeg (.int (-1 : Int32))))) (y12).toNatClampNeg (.int (1 : Int32)))) ((y12 ^^^ (1 : Int32))).toNatClampNeg (.int (-1 : Int32))))) (y12).toNatClampNeg (.int (0 : Int32)))) ((y12 ^^^ (1 : Int32))).toNatClampNeg (.int (0 : Int32)))) (y11).toNatClampNeg (.int (0 : Int32)))).length) ∧ ((y10).toNatClampNeg < ((List.set ((List.set ((List.set ((List.set (((List.set ((List.set (((List.set ((List.set (((List.set ((List.set ((z_z8)) (y10).toNatClampNeg (.int (1 : Int32)))) ((y10 ^^^ (1 : Int32))).toNatClampNeg (.int (-1 : Int32))))) (y11).toNatClampNeg (.int (1 : Int32)))) ((y11 ^^^ (1 : Int32))).toNatClampNeg (.int (-1 : Int32))))) (y12).toNatClampNeg (.int (1 : Int32)))) ((y12 ^^^ (1 : Int32))).toNatClampNeg (.int (-1 : Int32))))) (y12).toNatClampNeg (.int (0 : Int32)))) ((y12 ^^^ (1 : Int32))).toNatClampNeg (.int (0 : Int32)))) (y11).toNatClampNeg (.int (0 : Int32)))) ((y11 ^^^ (1 : Int32))).toNatClampNeg (.int (0 : Int32)))).length) ∧ (((y10 ^^^ (1 : Int32))).toNatClampNeg < ((List.set ((List.set ((List.set ((List.set ((List.set (((List.set ((List.set (((List.set ((List.set (((List.set ((List.set ((z_z8)) (y10).toNatClampNeg (.int (1 : Int32)))) ((y10 ^^^ (1 : Int32))).toNatClampNeg (.int (-1 : Int32))))) (y11).toNatClampNeg (.int (1 : Int32)))) ((y11 ^^^ (1 : Int32))).toNatClampNeg (.int (-1 : Int32))))) (y12).toNatClampNeg (.int (1 : Int32)))) ((y12 ^^^ (1 : Int32))).toNatClampNeg (.int (-1 : Int32))))) (y12).toNatClampNeg (.int (0 : Int32)))) ((y12 ^^^ (1 : Int32))).toNatClampNeg (.int (0 : Int32)))) (y11).toNatClampNeg (.int (0 : Int32)))) ((y11 ^^^ (1 : Int32))).toNatClampNeg (.int (0 : Int32)))) (y10).toNatClampNeg (.int (0 : Int32)))).length) ∧ ((((List.set ((List.set ((List.set ((List.set ((List.set ((List.set (((List.set ((List.set (((List.set ((List.set (((List.set ((List.set ((z_z8)) (y10).toNatClampNeg (.int (1 : Int32)))) ((y10 ^^^ (1 : Int32))).toNatClampNeg (.int (-1 : Int32))))) (y11).toNatClampNeg (.int (1 : Int32)))) ((y11 ^^^ (1 : Int32))).toNatClampNeg (.int (-1 : Int32))))) (y12).toNatClampNeg (.int (1 : Int32)))) ((y12 ^^^ (1 : Int32))).toNatClampNeg (.int (-1 : Int32))))) (y12).toNatClampNeg (.int (0 : Int32)))) ((y12 ^^^ (1 : Int32))).toNatClampNeg (.int (0 : Int32)))) (y11).toNatClampNeg (.int (0 : Int32)))) ((y11 ^^^ (1 : Int32))).toNatClampNeg (.int (0 : Int32)))) (y10).toNatClampNeg (.int (0 : Int32)))) ((y10 ^^^ (1 : Int32))).toNatClampNeg (.int (0 : Int32)))))[(y10).toNatClampNeg]? = some (.int (0 : Int32))) ∧ ((((List.set ((List.set ((List.set ((List.set ((List.set ((List.set (((List.set ((List.set (((List.set ((List.set (((List.set ((List.set ((z_z8)) (y10).toNatClampNeg (.int (1 : Int32)))) ((y10 ^^^ (1 : Int32))).toNatClampNeg (.int (-1 : Int32))))) (y11).toNatClampNeg (.int (1 : Int32)))) ((y11 ^^^ (1 : Int32))).toNatClampNeg (.int (-1 : Int32))))) (y12).toNatClampNeg (.int (1 : Int32)))) ((y12 ^^^ (1 : Int32))).toNatClampNeg (.int (-1 : Int32))))) (y12).toNatClampNeg (.int (0 : Int32)))) ((y12 ^^^ (1 : Int32))).toNatClampNeg (.int (0 : Int32)))) (y11).toNatClampNeg (.int (0 : Int32)))) ((y11 ^^^ (1 : Int32))).toNatClampNeg (.int (0 : Int32)))) (y10).toNatClampNeg (.int (0 : Int32)))) ((y10 ^^^ (1 : Int32))).toNatClampNeg (.int (0 : Int32)))))[((y10 ^^^ (1 : Int32))).toNatClampNeg]? = some (.int (0 : Int32))) ∧ ((((List.set ((List.set ((List.set ((List.set ((List.set ((List.set (((List.set ((List.set (((List.set ((List.set (((List.set ((List.set ((z_z8)) (y10).toNatClampNeg (.int (1 : Int32)))) ((y10 ^^^ (1 : Int32))).toNatClampNeg (.int (-1 : Int32))))) (y11).toNatClampNeg (.int (1 : Int32)))) ((y11 ^^^ (1 : Int32))).toNatClampNeg (.int (-1 : Int32))))) (y12).toNatClampNeg (.int (1 : Int32)))) ((y12 ^^^ (1 : Int32))).toNatClampNeg (.int (-1 : Int32))))) (y12).toNatClampNeg (.int (0 : Int32)))) ((y12 ^^^ (1 : Int32))).toNatClampNeg (.int (0 : Int32)))) (y11).toNatClampNeg (.int (0 : Int32)))) ((y11 ^^^ (1 : Int32))).toNatClampNeg (.int (0 : Int32)))) (y10).toNatClampNeg (.int (0 : Int32)))) ((y10 ^^^ (1 : Int32))).toNatClampNeg (.int (0 : Int32)))))[(y11).toNatClampNeg]? = some (.int (0 : Int32))) ∧ ((((List.set ((List.set ((List.set ((List.set ((List.set ((List.set (((List.set ((List.set (((List.set ((List.set (((List.set ((List.set ((z_z8)) (y10).toNatClampNeg (.int (1 : Int32)))) ((y10 ^^^ (1 : Int32))).toNatClampNeg (.int (-1 : Int32))))) (y11).toNatClampNeg (.int (1 : Int32)))) ((y11 ^^^ (1 : Int32))).toNatClampNeg (.int (-1 : Int32))))) (y12).toNatClampNeg (.int (1 : Int32)))) ((y12 ^^^ (1 : Int32))).toNatClampNeg (.int (-1 : Int32))))) (y12).toNatClampNeg (.int (0 : Int32)))) ((y12 ^^^ (1 : Int32))).toNatClampNeg (.int (0 : Int32)))) (y11).toNatClampNeg (.int (0 : Int32)))) ((y11 ^^^ (1 : Int32))).toNatClampNeg (.int (0 : Int32)))) (y10).toNatClampNeg (.int (0 : Int32)))) ((y10 ^^^ (1 : Int32))).toNatClampNeg (.int (0 : Int32)))))[((y11 ^^^ (1 : Int32))).toNatClampNeg]? = some (.int (0 : Int32))) ∧ ((((List.set ((List.set ((List.set ((List.set ((List.set ((List.set (((List.set ((List.set (((List.set ((List.set (((List.set ((List.set ((z_z8)) (y10).toNatClampNeg (.int (1 : Int32)))) ((y10 ^^^ (1 : Int32))).toNatClampNeg (.int (-1 : Int32))))) (y11).toNatClampNeg (.int (1 : Int32)))) ((y11 ^^^ (1 : Int32))).toNatClampNeg (.int (-1 : Int32))))) (y12).toNatClampNeg (.int (1 : Int32)))) ((y12 ^^^ (1 : Int32))).toNatClampNeg (.int (-1 : Int32))))) (y12).toNatClampNeg (.int (0 : Int32)))) ((y12 ^^^ (1 : Int32))).toNatClampNeg (.int (0 : Int32)))) (y11).toNatClampNeg (.int (0 : Int32)))) ((y11 ^^^ (1 : Int32))).toNatClampNeg (.int (0 : Int32)))) (y10).toNatClampNeg (.int (0 : Int32)))) ((y10 ^^^ (1 : Int32))).toNatClampNeg (.int (0 : Int32)))))[(y12).toNatClampNeg]? = some (.int (0 : Int32))) ∧ ((((List.set ((List.set ((List.set ((List.set ((List.set ((List.set (((List.set ((List.set (((List.set ((List.set (((List.set ((List.set ((z_z8)) (y10).toNatClampNeg (.int (1 : Int32)))) ((y10 ^^^ (1 : Int32))).toNatClampNeg (.int (-1 : Int32))))) (y11).toNatClampNeg (.int (1 : Int32)))) ((y11 ^^^ (1 : Int32))).toNatClampNeg (.int (-1 : Int32))))) (y12).toNatClampNeg (.int (1 : Int32)))) ((y12 ^^^ (1 : Int32))).toNatClampNeg (.int (-1 : Int32))))) (y12).toNatClampNeg (.int (0 : Int32)))) ((y12 ^^^ (1 : Int32))).toNatClampNeg (.int (0 : Int32)))) (y11).toNatClampNeg (.int (0 : Int32)))) ((y11 ^^^ (1 : Int32))).toNatClampNeg (.int (0 : Int32)))) (y10).toNatClampNeg (.int (0 : Int32)))) ((y10 ^^^ (1 : Int32))).toNatClampNeg (.int (0 : Int32)))))[((y12 ^^^ (1 : Int32))).toNatClampNeg]? = some (.int (0 : Int32))) ∧ (((List.set ((List.set ((List.set ((List.set ((List.set ((List.set (((List.set ((List.set (((List.set ((List.set (((List.set ((List.set ((z_z8)) (y10).toNatClampNeg (.int (1 : Int32)))) ((y10 ^^^ (1 : Int32))).toNatClampNeg (.int (-1 : Int32))))) (y11).toNatClampNeg (.int (1 : Int32)))) ((y11 ^^^ (1 : Int32))).toNatClampNeg (.int (-1 : Int32))))) (y12).toNatClampNeg (.int (1 : Int32)))) ((y12 ^^^ (1 : Int32))).toNatClampNeg (.int (-1 : Int32))))) (y12).toNatClampNeg (.int (0 : Int32)))) ((y12 ^^^ (1 : Int32))).toNatClampNeg (.int (0 : Int32)))) (y11).toNatClampNeg (.int (0 : Int32)))) ((y11 ^^^ (1 : Int32))).toNatClampNeg (.int (0 : Int32)))) (y10).toNatClampNeg (.int (0 : Int32)))) ((y10 ^^^ (1 : Int32))).toNatClampNeg (.int (0 : Int32))))[((0 : Int32)).toNatClampNeg]? = some (.int (0 : Int32))) ∧ (((List.set ((List.set ((List.set ((List.set ((List.set ((List.set (((List.set ((List.set (((List.set ((List.set (((List.set ((List.set ((z_z8)) (y10).toNatClampNeg (.int (1 : Int32)))) ((y10 ^^^ (1 : Int32))).toNatClampNeg (.int (-1 : Int32))))) (y11).toNatClampNeg (.int (1 : Int32)))) ((y11 ^^^ (1 : Int32))).toNatClampNeg (.int (-1 : Int32))))) (y12).toNatClampNeg (.int (1 : Int32)))) ((y12 ^^^ (1 : Int32))).toNatClampNeg (.int (-1 : Int32))))) (y12).toNatClampNeg (.int (0 : Int32)))) ((y12 ^^^ (1 : Int32))).toNatClampNeg (.int (0 : Int32)))) (y11).toNatClampNeg (.int (0 : Int32)))) ((y11 ^^^ (1 : Int32))).toNatClampNeg (.int (0 : Int32)))) (y10).toNatClampNeg (.int (0 : Int32)))) ((y10 ^^^ (1 : Int32))).toNatClampNeg (.int (0 : Int32))))[((1 : Int32)).toNatClampNeg]? = some (.int (0 : Int32)))
def z_R3_1 (y10 : Int32) (y11 : Int32) (y12 : Int32) : Prop := (¬ y10 < 0) ∧ ((y10).toNatClampNeg < ((z_z8)).length) ∧ (¬ (y10 ^^^ (1 : Int32)) < 0) ∧ (((y10 ^^^ (1 : Int32))).toNatClampNeg < ((List.set ((z_z8)) (y10).toNatClampNeg (.int (1 : Int32)))).length) ∧ (¬ y11 < 0) ∧ ((y11).toNatClampNeg < (((List.set ((List.set ((z_z8)) (y10).toNatClampNeg (.int (1 : Int32)))) ((y10 ^^^ (1 : Int32))).toNatClampNeg (.int (-1 : Int32))))).length) ∧ (¬ (y11 ^^^ (1 : Int32)) < 0) ∧ (((y11 ^^^ (1 : Int32))).toNatClampNeg < ((List.set (((List.set ((List.set ((z_z8)) (y10).toNatClampNeg (.int (1 : Int32)))) ((y10 ^^^ (1 : Int32))).toNatClampNeg (.int (-1 : Int32))))) (y11).toNatClampNeg (.int (1 : Int32)))).length) ∧ (¬ y12 < 0) ∧ ((y12).toNatClampNeg < (((List.set ((List.set (((List.set ((List.set ((z_z8)) (y10).toNatClampNeg (.int (1 : Int32)))) ((y10 ^^^ (1 : Int32))).toNatClampNeg (.int (-1 : Int32))))) (y11).toNatClampNeg (.int (1 : Int32)))) ((y11 ^^^ (1 : Int32))).toNatClampNeg (.int (-1 : Int32))))).length) ∧ (¬ (y12 ^^^ (1 : Int32)) < 0) ∧ (((y12 ^^^ (1 : Int32))).toNatClampNeg < ((List.set (((List.set ((List.set (((List.set ((List.set ((z_z8)) (y10).toNatClampNeg (.int (1 : Int32)))) ((y10 ^^^ (1 : Int32))).toNatClampNeg (.int (-1 : Int32))))) (y11).toNatClampNeg (.int (1 : Int32)))) ((y11 ^^^ (1 : Int32))).toNatClampNeg (.int (-1 : Int32))))) (y12).toNatClampNeg (.int (1 : Int32)))).length) ∧ ((y12).toNatClampNeg < (((List.set ((List.set (((List.set ((List.set (((List.set ((List.set ((z_z8)) (y10).toNatClampNeg (.int (1 : Int32)))) ((y10 ^^^ (1 : Int32))).toNatClampNeg (.int (-1 : Int32))))) (y11).toNatClampNeg (.int (1 : Int32)))) ((y11 ^^^ (1 : Int32))).toNatClampNeg (.int (-1 : Int32))))) (y12).toNatClampNeg (.int (1 : Int32)))) ((y12 ^^^ (1 : Int32))).toNatClampNeg (.int (-1 : Int32))))).length) ∧ (((y12 ^^^ (1 : Int32))).toNatClampNeg < ((List.set (((List.set ((List.set (((List.set ((List.set (((List.set ((List.set ((z_z8)) (y10).toNatClampNeg (.int (1 : Int32)))) ((y10 ^^^ (1 : Int32))).toNatClampNeg (.int (-1 : Int32))))) (y11).toNatClampNeg (.int (1 : Int32)))) ((y11 ^^^ (1 : Int32))).toNatClampNeg (.int (-1 : Int32))))) (y12).toNatClampNeg (.int (1 : Int32)))) ((y12 ^^^ (1 : Int32))).toNatClampNeg (.int (-1 : Int32))))) (y12).toNatClampNeg (.int (0 : Int32)))).length) ∧ ((y11).toNatClampNeg < ((List.set ((List.set (((List.set ((List.set (((List.set ((List.set (((List.set ((List.set ((z_z8)) (y10).toNatClampNeg (.int (1 : Int32)))) ((y10 ^^^ (1 : Int32))).toNatClampNeg (.int (-1 : Int32))))) (y11).toNatClampNeg (.int (1 : Int32)))) ((y11 ^^^ (1 : Int32))).toNatClampNeg (.int (-1 : Int32))))) (y12).toNatClampNeg (.int (1 : Int32)))) ((y12 ^^^ (1 : Int32))).toNatClampNeg (.int (-1 : Int32))))) (y12).toNatClampNeg (.int (0 : Int32)))) ((y12 ^^^ (1 : Int32))).toNatClampNeg (.int (0 : Int32)))).length) ∧ (((y11 ^^^ (1 : Int32))).toNatClampNeg < ((List.set ((List.set ((List.set (((List.set ((List.set (((List.set ((List.set (((List.set ((List.set ((z_z8)) (y10).toNatClampNeg (.int (1 : Int32)))) ((y10 ^^^ (1 : Int32))).toNatClampNeg (.int (-1 : Int32))))) (y11).toNatClampNeg (.int (1 : Int32)))) ((y11 ^^^ (1 : Int32))).toNatClampNeg (.int (-1 : Int32))))) (y12).toNatClampNeg (.int (1 : Int32)))) ((y12 ^^^ (1 : Int32))).toNatClampNeg (.int (-1 : Int32))))) (y12).toNatClampNeg (.int (0 : Int32)))) ((y12 ^^^ (1 : Int32))).toNatClampNeg (.int (0 : Int32)))) (y11).toNatClampNeg (.int (0 : Int32)))).length) ∧ ((((List.set ((List.set ((List.set ((List.set (((List.set ((List.set (((List.set ((List.set (((List.set ((List.set ((z_z8)) (y10).toNatClampNeg (.int (1 : Int32)))) ((y10 ^^^ (1 : Int32))).toNatClampNeg (.int (-1 : Int32))))) (y11).toNatClampNeg (.int (1 : Int32)))) ((y11 ^^^ (1 : Int32))).toNatClampNeg (.int (-1 : Int32))))) (y12).toNatClampNeg (.int (1 : Int32)))) ((y12 ^^^ (1 : Int32))).toNatClampNeg (.int (-1 : Int32))))) (y12).toNatClampNeg (.int (0 : Int32)))) ((y12 ^^^ (1 : Int32))).toNatClampNeg (.int (0 : Int32)))) (y11).toNatClampNeg (.int (0 : Int32)))) ((y11 ^^^ (1 : Int32))).toNatClampNeg (.int (0 : Int32)))))[(y10).toNatClampNeg]? = some (.int (1 : Int32))) ∧ ((((List.set ((List.set ((List.set ((List.set (((List.set ((List.set (((List.set ((List.set (((List.set ((List.set ((z_z8)) (y10).toNatClampNeg (.int (1 : Int32)))) ((y10 ^^^ (1 : Int32))).toNatClampNeg (.int (-1 : Int32))))) (y11).toNatClampNeg (.int (1 : Int32)))) ((y11 ^^^ (1 : Int32))).toNatClampNeg (.int (-1 : Int32))))) (y12).toNatClampNeg (.int (1 : Int32)))) ((y12 ^^^ (1 : Int32))).toNatClampNeg (.int (-1 : Int32))))) (y12).toNatClampNeg (.int (0 : Int32)))) ((y12 ^^^ (1 : Int32))).toNatClampNeg (.int (0 : Int32)))) (y11).toNatClampNeg (.int (0 : Int32)))) ((y11 ^^^ (1 : Int32))).toNatClampNeg (.int (0 : Int32)))))[((y10 ^^^ (1 : Int32))).toNatClampNeg]? = some (.int (-1 : Int32))) ∧ ((((List.set ((List.set ((List.set ((List.set (((List.set ((List.set (((List.set ((List.set (((List.set ((List.set ((z_z8)) (y10).toNatClampNeg (.int (1 : Int32)))) ((y10 ^^^ (1 : Int32))).toNatClampNeg (.int (-1 : Int32))))) (y11).toNatClampNeg (.int (1 : Int32)))) ((y11 ^^^ (1 : Int32))).toNatClampNeg (.int (-1 : Int32))))) (y12).toNatClampNeg (.int (1 : Int32)))) ((y12 ^^^ (1 : Int32))).toNatClampNeg (.int (-1 : Int32))))) (y12).toNatClampNeg (.int (0 : Int32)))) ((y12 ^^^ (1 : Int32))).toNatClampNeg (.int (0 : Int32)))) (y11).toNatClampNeg (.int (0 : Int32)))) ((y11 ^^^ (1 : Int32))).toNatClampNeg (.int (0 : Int32)))))[(y11).toNatClampNeg]? = some (.int (0 : Int32))) ∧ ((((List.set ((List.set ((List.set ((List.set (((List.set ((List.set (((List.set ((List.set (((List.set ((List.set ((z_z8)) (y10).toNatClampNeg (.int (1 : Int32)))) ((y10 ^^^ (1 : Int32))).toNatClampNeg (.int (-1 : Int32))))) (y11).toNatClampNeg (.int (1 : Int32)))) ((y11 ^^^ (1 : Int32))).toNatClampNeg (.int (-1 : Int32))))) (y12).toNatClampNeg (.int (1 : Int32)))) ((y12 ^^^ (1 : Int32))).toNatClampNeg (.int (-1 : Int32))))) (y12).toNatClampNeg (.int (0 : Int32)))) ((y12 ^^^ (1 : Int32))).toNatClampNeg (.int (0 : Int32)))) (y11).toNatClampNeg (.int (0 : Int32)))) ((y11 ^^^ (1 : Int32))).toNatClampNeg (.int (0 : Int32)))))[((y11 ^^^ (1 : Int32))).toNatClampNeg]? = some (.int (0 : Int32))) ∧ ((((List.set ((List.set ((List.set ((List.set (((List.set ((List.set (((List.set ((List.set (((List.set ((List.set ((z_z8)) (y10).toNatClampNeg (.int (1 : Int32)))) ((y10 ^^^ (1 : Int32))).toNatClampNeg (.int (-1 : Int32))))) (y11).toNatClampNeg (.int (1 : Int32)))) ((y11 ^^^ (1 : Int32))).toNatClampNeg (.int (-1 : Int32))))) (y12).toNatClampNeg (.int (1 : Int32)))) ((y12 ^^^ (1 : Int32))).toNatClampNeg (.int (-1 : Int32))))) (y12).toNatClampNeg (.int (0 : Int32)))) ((y12 ^^^ (1 : Int32))).toNatClampNeg (.int (0 : Int32)))) (y11).toNatClampNeg (.int (0 : Int32)))) ((y11 ^^^ (1 : Int32))).toNatClampNeg (.int (0 : Int32)))))[(y12).toNatClampNeg]? = some (.int (0 : Int32))) ∧ ((((List.set ((List.set ((List.set ((List.set (((List.set ((List.set (((List.set ((List.set (((List.set ((List.set ((z_z8)) (y10).toNatClampNeg (.int (1 : Int32)))) ((y10 ^^^ (1 : Int32))).toNatClampNeg (.int (-1 : Int32))))) (y11).toNatClampNeg (.int (1 : Int32)))) ((y11 ^^^ (1 : Int32))).toNatClampNeg (.int (-1 : Int32))))) (y12).toNatClampNeg (.int (1 : Int32)))) ((y12 ^^^ (1 : Int32))).toNatClampNeg (.int (-1 : Int32))))) (y12).toNatClampNeg (.int (0 : Int32)))) ((y12 ^^^ (1 : Int32))).toNatClampNeg (.int (0 : Int32)))) (y11).toNatClampNeg (.int (0 : Int32)))) ((y11 ^^^ (1 : Int32))).toNatClampNeg (.int (0 : Int32)))))[((y12 ^^^ (1 : Int32))).toNatClampNeg]? = some (.int (0 : Int32))) ∧ (((List.set ((List.set ((List.set ((List.set (((List.set ((List.set (((List.set ((List.set (((List.set ((List.set ((z_z8)) (y10).toNatClampNeg (.int (1 : Int32)))) ((y10 ^^^ (1 : Int32))).toNatClampNeg (.int (-1 : Int32))))) (y11).toNatClampNeg (.int (1 : Int32)))) ((y11 ^^^ (1 : Int32))).toNatClampNeg (.int (-1 : Int32))))) (y12).toNatClampNeg (.int (1 : Int32)))) ((y12 ^^^ (1 : Int32))).toNatClampNeg (.int (-1 : Int32))))) (y12).toNatClampNeg (.int (0 : Int32)))) ((y12 ^^^ (1 : Int32))).toNatClampNeg (.int (0 : Int32)))) (y11).toNatClampNeg (.int (0 : Int32)))) ((y11 ^^^ (1 : Int32))).toNatClampNeg (.int (0 : Int32))))[((0 : Int32)).toNatClampNeg]? = some (.int (0 : Int32))) ∧ (((List.set ((List.set ((List.set ((List.set (((List.set ((List.set (((List.set ((List.set (((List.set ((List.set ((z_z8)) (y10).toNatClampNeg (.int (1 : Int32)))) ((y10 ^^^ (1 : Int32))).toNatClampNeg (.int (-1 : Int32))))) (y11).toNatClampNeg (.int (1 : Int32)))) ((y11 ^^^ (1 : Int32))).toNatClampNeg (.int (-1 : Int32))))) (y12).toNatClampNeg (.int (1 : Int32)))) ((y12 ^^^ (1 : Int32))).toNatClampNeg (.int (-1 : Int32))))) (y12).toNatClampNeg (.int (0 : Int32)))) ((y12 ^^^ (1 : Int32))).toNatClampNeg (.int (0 : Int32)))) (y11).toNatClampNeg (.int (0 : Int32)))) ((y11 ^^^ (1 : Int32))).toNatClampNeg (.int (0 : Int32))))[((1 : Int32)).toNatClampNeg]? = some (.int (0 : Int32)))
def z_R3_2 (y10 : Int32) (y11 : Int32) (y12 : Int32) : Prop := (¬ y10 < 0) ∧ ((y10).toNatClampNeg < ((z_z8)).length) ∧ (¬ (y10 ^^^ (1 : Int32)) < 0) ∧ (((y10 ^^^ (1 : Int32))).toNatClampNeg < ((List.set ((z_z8)) (y10).toNatClampNeg (.int (1 : Int32)))).length) ∧ (¬ y11 < 0) ∧ ((y11).toNatClampNeg < (((List.set ((List.set ((z_z8)) (y10).toNatClampNeg (.int (1 : Int32)))) ((y10 ^^^ (1 : Int32))).toNatClampNeg (.int (-1 : Int32))))).length) ∧ (¬ (y11 ^^^ (1 : Int32)) < 0) ∧ (((y11 ^^^ (1 : Int32))).toNatClampNeg < ((List.set (((List.set ((List.set ((z_z8)) (y10).toNatClampNeg (.int (1 : Int32)))) ((y10 ^^^ (1 : Int32))).toNatClampNeg (.int (-1 : Int32))))) (y11).toNatClampNeg (.int (1 : Int32)))).length) ∧ (¬ y12 < 0) ∧ ((y12).toNatClampNeg < (((List.set ((List.set (((List.set ((List.set ((z_z8)) (y10).toNatClampNeg (.int (1 : Int32)))) ((y10 ^^^ (1 : Int32))).toNatClampNeg (.int (-1 : Int32))))) (y11).toNatClampNeg (.int (1 : Int32)))) ((y11 ^^^ (1 : Int32))).toNatClampNeg (.int (-1 : Int32))))).length) ∧ (¬ (y12 ^^^ (1 : Int32)) < 0) ∧ (((y12 ^^^ (1 : Int32))).toNatClampNeg < ((List.set (((List.set ((List.set (((List.set ((List.set ((z_z8)) (y10).toNatClampNeg (.int (1 : Int32)))) ((y10 ^^^ (1 : Int32))).toNatClampNeg (.int (-1 : Int32))))) (y11).toNatClampNeg (.int (1 : Int32)))) ((y11 ^^^ (1 : Int32))).toNatClampNeg (.int (-1 : Int32))))) (y12).toNatClampNeg (.int (1 : Int32)))).length) ∧ ((y12).toNatClampNeg < (((List.set ((List.set (((List.set ((List.set (((List.set ((List.set ((z_z8)) (y10).toNatClampNeg (.int (1 : Int32)))) ((y10 ^^^ (1 : Int32))).toNatClampNeg (.int (-1 : Int32))))) (y11).toNatClampNeg (.int (1 : Int32)))) ((y11 ^^^ (1 : Int32))).toNatClampNeg (.int (-1 : Int32))))) (y12).toNatClampNeg (.int (1 : Int32)))) ((y12 ^^^ (1 : Int32))).toNatClampNeg (.int (-1 : Int32))))).length) ∧ (((y12 ^^^ (1 : Int32))).toNatClampNeg < ((List.set (((List.set ((List.set (((List.set ((List.set (((List.set ((List.set ((z_z8)) (y10).toNatClampNeg (.int (1 : Int32)))) ((y10 ^^^ (1 : Int32))).toNatClampNeg (.int (-1 : Int32))))) (y11).toNatClampNeg (.int (1 : Int32)))) ((y11 ^^^ (1 : Int32))).toNatClampNeg (.int (-1 : Int32))))) (y12).toNatClampNeg (.int (1 : Int32)))) ((y12 ^^^ (1 : Int32))).toNatClampNeg (.int (-1 : Int32))))) (y12).toNatClampNeg (.int (0 : Int32)))).length) ∧ ((((List.set ((List.set (((List.set ((List.set (((List.set ((List.set (((List.set ((List.set ((z_z8)) (y10).toNatClampNeg (.int (1 : Int32)))) ((y10 ^^^ (1 : Int32))).toNatClampNeg (.int (-1 : Int32))))) (y11).toNatClampNeg (.int (1 : Int32)))) ((y11 ^^^ (1 : Int32))).toNatClampNeg (.int (-1 : Int32))))) (y12).toNatClampNeg (.int (1 : Int32)))) ((y12 ^^^ (1 : Int32))).toNatClampNeg (.int (-1 : Int32))))) (y12).toNatClampNeg (.int (0 : Int32)))) ((y12 ^^^ (1 : Int32))).toNatClampNeg (.int (0 : Int32)))))[(y10).toNatClampNeg]? = some (.int (1 : Int32))) ∧ ((((List.set ((List.set (((List.set ((List.set (((List.set ((List.set (((List.set ((List.set ((z_z8)) (y10).toNatClampNeg (.int (1 : Int32)))) ((y10 ^^^ (1 : Int32))).toNatClampNeg (.int (-1 : Int32))))) (y11).toNatClampNeg (.int (1 : Int32)))) ((y11 ^^^ (1 : Int32))).toNatClampNeg (.int (-1 : Int32))))) (y12).toNatClampNeg (.int (1 : Int32)))) ((y12 ^^^ (1 : Int32))).toNatClampNeg (.int (-1 : Int32))))) (y12).toNatClampNeg (.int (0 : Int32)))) ((y12 ^^^ (1 : Int32))).toNatClampNeg (.int (0 : Int32)))))[((y10 ^^^ (1 : Int32))).toNatClampNeg]? = some (.int (-1 : Int32))) ∧ ((((List.set ((List.set (((List.set ((List.set (((List.set ((List.set (((List.set ((List.set ((z_z8)) (y10).toNatClampNeg (.int (1 : Int32)))) ((y10 ^^^ (1 : Int32))).toNatClampNeg (.int (-1 : Int32))))) (y11).toNatClampNeg (.int (1 : Int32)))) ((y11 ^^^ (1 : Int32))).toNatClampNeg (.int (-1 : Int32))))) (y12).toNatClampNeg (.int (1 : Int32)))) ((y12 ^^^ (1 : Int32))).toNatClampNeg (.int (-1 : Int32))))) (y12).toNatClampNeg (.int (0 : Int32)))) ((y12 ^^^ (1 : Int32))).toNatClampNeg (.int (0 : Int32)))))[(y11).toNatClampNeg]? = some (.int (1 : Int32))) ∧ ((((List.set ((List.set (((List.set ((List.set (((List.set ((List.set (((List.set ((List.set ((z_z8)) (y10).toNatClampNeg (.int (1 : Int32)))) ((y10 ^^^ (1 : Int32))).toNatClampNeg (.int (-1 : Int32))))) (y11).toNatClampNeg (.int (1 : Int32)))) ((y11 ^^^ (1 : Int32))).toNatClampNeg (.int (-1 : Int32))))) (y12).toNatClampNeg (.int (1 : Int32)))) ((y12 ^^^ (1 : Int32))).toNatClampNeg (.int (-1 : Int32))))) (y12).toNatClampNeg (.int (0 : Int32)))) ((y12 ^^^ (1 : Int32))).toNatClampNeg (.int (0 : Int32)))))[((y11 ^^^ (1 : Int32))).toNatClampNeg]? = some (.int (-1 : Int32))) ∧ ((((List.set ((List.set (((List.set ((List.set (((List.set ((List.set (((List.set ((List.set ((z_z8)) (y10).toNatClampNeg (.int (1 : Int32)))) ((y10 ^^^ (1 : Int32))).toNatClampNeg (.int (-1 : Int32))))) (y11).toNatClampNeg (.int (1 : Int32)))) ((y11 ^^^ (1 : Int32))).toNatClampNeg (.int (-1 : Int32))))) (y12).toNatClampNeg (.int (1 : Int32)))) ((y12 ^^^ (1 : Int32))).toNatClampNeg (.int (-1 : Int32))))) (y12).toNatClampNeg (.int (0 : Int32)))) ((y12 ^^^ (1 : Int32))).toNatClampNeg (.int (0 : Int32)))))[(y12).toNatClampNeg]? = some (.int (0 : Int32))) ∧ ((((List.set ((List.set (((List.set ((List.set (((List.set ((List.set (((List.set ((List.set ((z_z8)) (y10).toNatClampNeg (.int (1 : Int32)))) ((y10 ^^^ (1 : Int32))).toNatClampNeg (.int (-1 : Int32))))) (y11).toNatClampNeg (.int (1 : Int32)))) ((y11 ^^^ (1 : Int32))).toNatClampNeg (.int (-1 : Int32))))) (y12).toNatClampNeg (.int (1 : Int32)))) ((y12 ^^^ (1 : Int32))).toNatClampNeg (.int (-1 : Int32))))) (y12).toNatClampNeg (.int (0 : Int32)))) ((y12 ^^^ (1 : Int32))).toNatClampNeg (.int (0 : Int32)))))[((y12 ^^^ (1 : Int32))).toNatClampNeg]? = some (.int (0 : Int32))) ∧ (((List.set ((List.set (((List.set ((List.set (((List.set ((List.set (((List.set ((List.set ((z_z8)) (y10).toNatClampNeg (.int (1 : Int32)))) ((y10 ^^^ (1 : Int32))).toNatClampNeg (.int (-1 : Int32))))) (y11).toNatClampNeg (.int (1 : Int32)))) ((y11 ^^^ (1 : Int32))).toNatClampNeg (.int (-1 : Int32))))) (y12).toNatClampNeg (.int (1 : Int32)))) ((y12 ^^^ (1 : Int32))).toNatClampNeg (.int (-1 : Int32))))) (y12).toNatClampNeg (.int (0 : Int32)))) ((y12 ^^^ (1 : Int32))).toNatClampNeg (.int (0 : Int32))))[((0 : Int32)).toNatClampNeg]? = some (.int (0 : Int32))) ∧ (((List.set ((List.set (((List.set ((List.set (((List.set ((List.set (((List.set ((List.set ((z_z8)) (y10).toNatClampNeg (.int (1 : Int32)))) ((y10 ^^^ (1 : Int32))).toNatClampNeg (.int (-1 : Int32))))) (y11).toNatClampNeg (.int (1 : Int32)))) ((y11 ^^^ (1 : Int32))).toNatClampNeg (.int (-1 : Int32))))) (y12).toNatClampNeg (.int (1 : Int32)))) ((y12 ^^^ (1 : Int32))).toNatClampNeg (.int (-1 : Int32))))) (y12).toNatClampNeg (.int (0 : Int32)))) ((y12 ^^^ (1 : Int32))).toNatClampNeg (.int (0 : Int32))))[((1 : Int32)).toNatClampNeg]? = some (.int (0 : Int32)))
def z_R3_3 (y10 : Int32) (y11 : Int32) (y12 : Int32) : Prop := (¬ y10 < 0) ∧ ((y10).toNatClampNeg < ((z_z8)).length) ∧ (¬ (y10 ^^^ (1 : Int32)) < 0) ∧ (((y10 ^^^ (1 : Int32))).toNatClampNeg < ((List.set ((z_z8)) (y10).toNatClampNeg (.int (1 : Int32)))).length) ∧ (¬ y11 < 0) ∧ ((y11).toNatClampNeg < (((List.set ((List.set ((z_z8)) (y10).toNatClampNeg (.int (1 : Int32)))) ((y10 ^^^ (1 : Int32))).toNatClampNeg (.int (-1 : Int32))))).length) ∧ (¬ (y11 ^^^ (1 : Int32)) < 0) ∧ (((y11 ^^^ (1 : Int32))).toNatClampNeg < ((List.set (((List.set ((List.set ((z_z8)) (y10).toNatClampNeg (.int (1 : Int32)))) ((y10 ^^^ (1 : Int32))).toNatClampNeg (.int (-1 : Int32))))) (y11).toNatClampNeg (.int (1 : Int32)))).length) ∧ (¬ y12 < 0) ∧ ((y12).toNatClampNeg < (((List.set ((List.set (((List.set ((List.set ((z_z8)) (y10).toNatClampNeg (.int (1 : Int32)))) ((y10 ^^^ (1 : Int32))).toNatClampNeg (.int (-1 : Int32))))) (y11).toNatClampNeg (.int (1 : Int32)))) ((y11 ^^^ (1 : Int32))).toNatClampNeg (.int (-1 : Int32))))).length) ∧ (¬ (y12 ^^^ (1 : Int32)) < 0) ∧ (((y12 ^^^ (1 : Int32))).toNatClampNeg < ((List.set (((List.set ((List.set (((List.set ((List.set ((z_z8)) (y10).toNatClampNeg (.int (1 : Int32)))) ((y10 ^^^ (1 : Int32))).toNatClampNeg (.int (-1 : Int32))))) (y11).toNatClampNeg (.int (1 : Int32)))) ((y11 ^^^ (1 : Int32))).toNatClampNeg (.int (-1 : Int32))))) (y12).toNatClampNeg (.int (1 : Int32)))).length) ∧ ((((List.set ((List.set (((List.set ((List.set (((List.set ((List.set ((z_z8)) (y10).toNatClampNeg (.int (1 : Int32)))) ((y10 ^^^ (1 : Int32))).toNatClampNeg (.int (-1 : Int32))))) (y11).toNatClampNeg (.int (1 : Int32)))) ((y11 ^^^ (1 : Int32))).toNatClampNeg (.int (-1 : Int32))))) (y12).toNatClampNeg (.int (1 : Int32)))) ((y12 ^^^ (1 : Int32))).toNatClampNeg (.int (-1 : Int32)))))[(y10).toNatClampNeg]? = some (.int (1 : Int32))) ∧ ((((List.set ((List.set (((List.set ((List.set (((List.set ((List.set ((z_z8)) (y10).toNatClampNeg (.int (1 : Int32)))) ((y10 ^^^ (1 : Int32))).toNatClampNeg (.int (-1 : Int32))))) (y11).toNatClampNeg (.int (1 : Int32)))) ((y11 ^^^ (1 : Int32))).toNatClampNeg (.int (-1 : Int32))))) (y12).toNatClampNeg (.int (1 : Int32)))) ((y12 ^^^ (1 : Int32))).toNatClampNeg (.int (-1 : Int32)))))[((y10 ^^^ (1 : Int32))).toNatClampNeg]? = some (.int (-1 : Int32))) ∧ ((((List.set ((List.set (((List.set ((List.set (((List.set ((List.set ((z_z8)) (y10).toNatClampNeg (.int (1 : Int32)))) ((y10 ^^^ (1 : Int32))).toNatClampNeg (.int (-1 : Int32))))) (y11).toNatClampNeg (.int (1 : Int32)))) ((y11 ^^^ (1 : Int32))).toNatClampNeg (.int (-1 : Int32))))) (y12).toNatClampNeg (.int (1 : Int32)))) ((y12 ^^^ (1 : Int32))).toNatClampNeg (.int (-1 : Int32)))))[(y11).toNatClampNeg]? = some (.int (1 : Int32))) ∧ ((((List.set ((List.set (((List.set ((List.set (((List.set ((List.set ((z_z8)) (y10).toNatClampNeg (.int (1 : Int32)))) ((y10 ^^^ (1 : Int32))).toNatClampNeg (.int (-1 : Int32))))) (y11).toNatClampNeg (.int (1 : Int32)))) ((y11 ^^^ (1 : Int32))).toNatClampNeg (.int (-1 : Int32))))) (y12).toNatClampNeg (.int (1 : Int32)))) ((y12 ^^^ (1 : Int32))).toNatClampNeg (.int (-1 : Int32)))))[((y11 ^^^ (1 : Int32))).toNatClampNeg]? = some (.int (-1 : Int32))) ∧ ((((List.set ((List.set (((List.set ((List.set (((List.set ((List.set ((z_z8)) (y10).toNatClampNeg (.int (1 : Int32)))) ((y10 ^^^ (1 : Int32))).toNatClampNeg (.int (-1 : Int32))))) (y11).toNatClampNeg (.int (1 : Int32)))) ((y11 ^^^ (1 : Int32))).toNatClampNeg (.int (-1 : Int32))))) (y12).toNatClampNeg (.int (1 : Int32)))) ((y12 ^^^ (1 : Int32))).toNatClampNeg (.int (-1 : Int32)))))[(y12).toNatClampNeg]? = some (.int (1 : Int32))) ∧ ((((List.set ((List.set (((List.set ((List.set (((List.set ((List.set ((z_z8)) (y10).toNatClampNeg (.int (1 : Int32)))) ((y10 ^^^ (1 : Int32))).toNatClampNeg (.int (-1 : Int32))))) (y11).toNatClampNeg (.int (1 : Int32)))) ((y11 ^^^ (1 : Int32))).toNatClampNeg (.int (-1 : Int32))))) (y12).toNatClampNeg (.int (1 : Int32)))) ((y12 ^^^ (1 : Int32))).toNatClampNeg (.int (-1 : Int32)))))[((y12 ^^^ (1 : Int32))).toNatClampNeg]? = some (.int (-1 : Int32))) ∧ (((List.set ((List.set (((List.set ((List.set (((List.set ((List.set ((z_z8)) (y10).toNatClampNeg (.int (1 : Int32)))) ((y10 ^^^ (1 : Int32))).toNatClampNeg (.int (-1 : Int32))))) (y11).toNatClampNeg (.int (1 : Int32)))) ((y11 ^^^ (1 : Int32))).toNatClampNeg (.int (-1 : Int32))))) (y12).toNatClampNeg (.int (1 : Int32)))) ((y12 ^^^ (1 : Int32))).toNatClampNeg (.int (-1 : Int32))))[((0 : Int32)).toNatClampNeg]? = some (.int (0 : Int32))) ∧ (((List.set ((List.set (((List.set ((List.set (((List.set ((List.set ((z_z8)) (y10).toNatClampNeg (.int (1 : Int32)))) ((y10 ^^^ (1 : Int32))).toNatClampNeg (.int (-1 : Int32))))) (y11).toNatClampNeg (.int (1 : Int32)))) ((y11 ^^^ (1 : Int32))).toNatClampNeg (.int (-1 : Int32))))) (y12).toNatClampNeg (.int (1 : Int32)))) ((y12 ^^^ (1 : Int32))).toNatClampNeg (.int (-1 : Int32))))[((1 : Int32)).toNatClampNeg]? = some (.int (0 : Int32)))
theorem z_x0 : ∀ (i0 : Fin 6) (u0 v0 w0 : Fin 2), (¬ (z_L0 i0 u0) < 0) := by decide +kernel
theorem z_x1 : ∀ (i0 : Fin 6) (u0 v0 w0 : Fin 2), (((z_z8))[((z_L0 i0 u0)).toNatClampNeg]? = some (.int (0 : Int32))) := by decide +kernel
theorem z_x2 : ∀ (i0 : Fin 6) (u0 v0 w0 : Fin 2), (¬ ((z_L0 i0 u0) ^^^ (1 : Int32)) < 0) := by decide +kernel
theorem z_x3 : ∀ (i0 : Fin 6) (u0 v0 w0 : Fin 2), (((z_z8))[(((z_L0 i0 u0) ^^^ (1 : Int32))).toNatClampNeg]? = some (.int (0 : Int32))) := by decide +kernel
theorem z_x4 : ∀ (i0 : Fin 6) (u0 v0 w0 : Fin 2), (¬ (z_L1 i0 v0) < 0) := by decide +kernel
theorem z_x5 : ∀ (i0 : Fin 6) (u0 v0 w0 : Fin 2), (((z_z8))[((z_L1 i0 v0)).toNatClampNeg]? = some (.int (0 : Int32))) := by decide +kernel
theorem z_x6 : ∀ (i0 : Fin 6) (u0 v0 w0 : Fin 2), (¬ ((z_L1 i0 v0) ^^^ (1 : Int32)) < 0) := by decide +kernel
theorem z_x7 : ∀ (i0 : Fin 6) (u0 v0 w0 : Fin 2), (((z_z8))[(((z_L1 i0 v0) ^^^ (1 : Int32))).toNatClampNeg]? = some (.int (0 : Int32))) := by decide +kernel
theorem z_x8 : ∀ (i0 : Fin 6) (u0 v0 w0 : Fin 2), (¬ (z_L2 i0 w0) < 0) := by decide +kernel
theorem z_x9 : ∀ (i0 : Fin 6) (u0 v0 w0 : Fin 2), (((z_z8))[((z_L2 i0 w0)).toNatClampNeg]? = some (.int (0 : Int32))) := by decide +kernel
theorem z_x10 : ∀ (i0 : Fin 6) (u0 v0 w0 : Fin 2), (¬ ((z_L2 i0 w0) ^^^ (1 : Int32)) < 0) := by decide +kernel
theorem z_x11 : ∀ (i0 : Fin 6) (u0 v0 w0 : Fin 2), (((z_z8))[(((z_L2 i0 w0) ^^^ (1 : Int32))).toNatClampNeg]? = some (.int (0 : Int32))) := by decide +kernel
theorem z_x12 : ∀ (i0 : Fin 6) (u0 v0 w0 : Fin 2), ((z_z8)[((0 : Int32)).toNatClampNeg]? = some (.int (0 : Int32))) := by decide +kernel
theorem z_x13 : ∀ (i0 : Fin 6) (u0 v0 w0 : Fin 2), ((z_z8)[((1 : Int32)).toNatClampNeg]? = some (.int (0 : Int32))) := by decide +kernel
theorem z_T0_0 (i0 : Fin 6) (u0 v0 w0 : Fin 2) : z_R0_0 (z_L0 i0 u0) (z_L1 i0 v0) (z_L2 i0 w0) := ⟨z_x0 i0 u0 v0 w0, z_x1 i0 u0 v0 w0, z_x2 i0 u0 v0 w0, z_x3 i0 u0 v0 w0, z_x4 i0 u0 v0 w0, z_x5 i0 u0 v0 w0, z_x6 i0 u0 v0 w0, z_x7 i0 u0 v0 w0, z_x8 i0 u0 v0 w0, z_x9 i0 u0 v0 w0, z_x10 i0 u0 v0 w0, z_x11 i0 u0 v0 w0, z_x12 i0 u0 v0 w0, z_x13 i0 u0 v0 w0⟩
theorem z_x14 : ∀ (i0 : Fin 6) (u0 v0 w0 : Fin 2), (((z_L0 i0 u0)).toNatClampNeg < ((z_z8)).length) := by decide +kernel
theorem z_x15 : ∀ (i0 : Fin 6) (u0 v0 w0 : Fin 2), ((((z_L0 i0 u0) ^^^ (1 : Int32))).toNatClampNeg < ((List.set ((z_z8)) ((z_L0 i0 u0)).toNatClampNeg (.int (1 : Int32)))).length) := by decide +kernel
theorem z_x16 : ∀ (i0 : Fin 6) (u0 v0 w0 : Fin 2), (((z_L0 i0 u0)).toNatClampNeg < (((List.set ((List.set ((z_z8)) ((z_L0 i0 u0)).toNatClampNeg (.int (1 : Int32)))) (((z_L0 i0 u0) ^^^ (1 : Int32))).toNatClampNeg (.int (-1 : Int32))))).length) := by decide +kernel
theorem z_x17 : ∀ (i0 : Fin 6) (u0 v0 w0 : Fin 2), ((((z_L0 i0 u0) ^^^ (1 : Int32))).toNatClampNeg < ((List.set (((List.set ((List.set ((z_z8)) ((z_L0 i0 u0)).toNatClampNeg (.int (1 : Int32)))) (((z_L0 i0 u0) ^^^ (1 : Int32))).toNatClampNeg (.int (-1 : Int32))))) ((z_L0 i0 u0)).toNatClampNeg (.int (0 : Int32)))).length) := by decide +kernel
theorem z_x18 : ∀ (i0 : Fin 6) (u0 v0 w0 : Fin 2), ((((List.set ((List.set (((List.set ((List.set ((z_z8)) ((z_L0 i0 u0)).toNatClampNeg (.int (1 : Int32)))) (((z_L0 i0 u0) ^^^ (1 : Int32))).toNatClampNeg (.int (-1 : Int32))))) ((z_L0 i0 u0)).toNatClampNeg (.int (0 : Int32)))) (((z_L0 i0 u0) ^^^ (1 : Int32))).toNatClampNeg (.int (0 : Int32)))))[((z_L0 i0 u0)).toNatClampNeg]? = some (.int (0 : Int32))) := by decide +kernel
theorem z_x19 : ∀ (i0 : Fin 6) (u0 v0 w0 : Fin 2), ((((List.set ((List.set (((List.set ((List.set ((z_z8)) ((z_L0 i0 u0)).toNatClampNeg (.int (1 : Int32)))) (((z_L0 i0 u0) ^^^ (1 : Int32))).toNatClampNeg (.int (-1 : Int32))))) ((z_L0 i0 u0)).toNatClampNeg (.int (0 : Int32)))) (((z_L0 i0 u0) ^^^ (1 : Int32))).toNatClampNeg (.int (0 : Int32)))))[(((z_L0 i0 u0) ^^^ (1 : Int32))).toNatClampNeg]? = some (.int (0 : Int32))) := by decide +kernel
theorem z_x20 : ∀ (i0 : Fin 6) (u0 v0 w0 : Fin 2), ((((List.set ((List.set (((List.set ((List.set ((z_z8)) ((z_L0 i0 u0)).toNatClampNeg (.int (1 : Int32)))) (((z_L0 i0 u0) ^^^ (1 : Int32))).toNatClampNeg (.int (-1 : Int32))))) ((z_L0 i0 u0)).toNatClampNeg (.int (0 : Int32)))) (((z_L0 i0 u0) ^^^ (1 : Int32))).toNatClampNeg (.int (0 : Int32)))))[((z_L1 i0 v0)).toNatClampNeg]? = some (.int (0 : Int32))) := by decide +kernel
theorem z_x21 : ∀ (i0 : Fin 6) (u0 v0 w0 : Fin 2), ((((List.set ((List.set (((List.set ((List.set ((z_z8)) ((z_L0 i0 u0)).toNatClampNeg (.int (1 : Int32)))) (((z_L0 i0 u0) ^^^ (1 : Int32))).toNatClampNeg (.int (-1 : Int32))))) ((z_L0 i0 u0)).toNatClampNeg (.int (0 : Int32)))) (((z_L0 i0 u0) ^^^ (1 : Int32))).toNatClampNeg (.int (0 : Int32)))))[(((z_L1 i0 v0) ^^^ (1 : Int32))).toNatClampNeg]? = some (.int (0 : Int32))) := by decide +kernel
theorem z_x22 : ∀ (i0 : Fin 6) (u0 v0 w0 : Fin 2), ((((List.set ((List.set (((List.set ((List.set ((z_z8)) ((z_L0 i0 u0)).toNatClampNeg (.int (1 : Int32)))) (((z_L0 i0 u0) ^^^ (1 : Int32))).toNatClampNeg (.int (-1 : Int32))))) ((z_L0 i0 u0)).toNatClampNeg (.int (0 : Int32)))) (((z_L0 i0 u0) ^^^ (1 : Int32))).toNatClampNeg (.int (0 : Int32)))))[((z_L2 i0 w0)).toNatClampNeg]? = some (.int (0 : Int32))) := by decide +kernel
theorem z_x23 : ∀ (i0 : Fin 6) (u0 v0 w0 : Fin 2), ((((List.set ((List.set (((List.set ((List.set ((z_z8)) ((z_L0 i0 u0)).toNatClampNeg (.int (1 : Int32)))) (((z_L0 i0 u0) ^^^ (1 : Int32))).toNatClampNeg (.int (-1 : Int32))))) ((z_L0 i0 u0)).toNatClampNeg (.int (0 : Int32)))) (((z_L0 i0 u0) ^^^ (1 : Int32))).toNatClampNeg (.int (0 : Int32)))))[(((z_L2 i0 w0) ^^^ (1 : Int32))).toNatClampNeg]? = some (.int (0 : Int32))) := by decide +kernel
theorem z_x24 : ∀ (i0 : Fin 6) (u0 v0 w0 : Fin 2), (((List.set ((List.set (((List.set ((List.set ((z_z8)) ((z_L0 i0 u0)).toNatClampNeg (.int (1 : Int32)))) (((z_L0 i0 u0) ^^^ (1 : Int32))).toNatClampNeg (.int (-1 : Int32))))) ((z_L0 i0 u0)).toNatClampNeg (.int (0 : Int32)))) (((z_L0 i0 u0) ^^^ (1 : Int32))).toNatClampNeg (.int (0 : Int32))))[((0 : Int32)).toNatClampNeg]? = some (.int (0 : Int32))) := by decide +kernel
theorem z_x25 : ∀ (i0 : Fin 6) (u0 v0 w0 : Fin 2), (((List.set ((List.set (((List.set ((List.set ((z_z8)) ((z_L0 i0 u0)).toNatClampNeg (.int (1 : Int32)))) (((z_L0 i0 u0) ^^^ (1 : Int32))).toNatClampNeg (.int (-1 : Int32))))) ((z_L0 i0 u0)).toNatClampNeg (.int (0 : Int32)))) (((z_L0 i0 u0) ^^^ (1 : Int32))).toNatClampNeg (.int (0 : Int32))))[((1 : Int32)).toNatClampNeg]? = some (.int (0 : Int32))) := by decide +kernel
theorem z_T1_0 (i0 : Fin 6) (u0 v0 w0 : Fin 2) : z_R1_0 (z_L0 i0 u0) (z_L1 i0 v0) (z_L2 i0 w0) := ⟨z_x0 i0 u0 v0 w0, z_x14 i0 u0 v0 w0, z_x2 i0 u0 v0 w0, z_x15 i0 u0 v0 w0, z_x16 i0 u0 v0 w0, z_x17 i0 u0 v0 w0, z_x18 i0 u0 v0 w0, z_x19 i0 u0 v0 w0, z_x4 i0 u0 v0 w0, z_x20 i0 u0 v0 w0, z_x6 i0 u0 v0 w0, z_x21 i0 u0 v0 w0, z_x8 i0 u0 v0 w0, z_x22 i0 u0 v0 w0, z_x10 i0 u0 v0 w0, z_x23 i0 u0 v0 w0, z_x24 i0 u0 v0 w0, z_x25 i0 u0 v0 w0⟩
theorem z_x26 : ∀ (i0 : Fin 6) (u0 v0 w0 : Fin 2), ((((List.set ((List.set ((z_z8)) ((z_L0 i0 u0)).toNatClampNeg (.int (1 : Int32)))) (((z_L0 i0 u0) ^^^ (1 : Int32))).toNatClampNeg (.int (-1 : Int32)))))[((z_L0 i0 u0)).toNatClampNeg]? = some (.int (1 : Int32))) := by decide +kernel
theorem z_x27 : ∀ (i0 : Fin 6) (u0 v0 w0 : Fin 2), ((((List.set ((List.set ((z_z8)) ((z_L0 i0 u0)).toNatClampNeg (.int (1 : Int32)))) (((z_L0 i0 u0) ^^^ (1 : Int32))).toNatClampNeg (.int (-1 : Int32)))))[(((z_L0 i0 u0) ^^^ (1 : Int32))).toNatClampNeg]? = some (.int (-1 : Int32))) := by decide +kernel
theorem z_x28 : ∀ (i0 : Fin 6) (u0 v0 w0 : Fin 2), ((((List.set ((List.set ((z_z8)) ((z_L0 i0 u0)).toNatClampNeg (.int (1 : Int32)))) (((z_L0 i0 u0) ^^^ (1 : Int32))).toNatClampNeg (.int (-1 : Int32)))))[((z_L1 i0 v0)).toNatClampNeg]? = some (.int (0 : Int32))) := by decide +kernel
theorem z_x29 : ∀ (i0 : Fin 6) (u0 v0 w0 : Fin 2), ((((List.set ((List.set ((z_z8)) ((z_L0 i0 u0)).toNatClampNeg (.int (1 : Int32)))) (((z_L0 i0 u0) ^^^ (1 : Int32))).toNatClampNeg (.int (-1 : Int32)))))[(((z_L1 i0 v0) ^^^ (1 : Int32))).toNatClampNeg]? = some (.int (0 : Int32))) := by decide +kernel
theorem z_x30 : ∀ (i0 : Fin 6) (u0 v0 w0 : Fin 2), ((((List.set ((List.set ((z_z8)) ((z_L0 i0 u0)).toNatClampNeg (.int (1 : Int32)))) (((z_L0 i0 u0) ^^^ (1 : Int32))).toNatClampNeg (.int (-1 : Int32)))))[((z_L2 i0 w0)).toNatClampNeg]? = some (.int (0 : Int32))) := by decide +kernel
theorem z_x31 : ∀ (i0 : Fin 6) (u0 v0 w0 : Fin 2), ((((List.set ((List.set ((z_z8)) ((z_L0 i0 u0)).toNatClampNeg (.int (1 : Int32)))) (((z_L0 i0 u0) ^^^ (1 : Int32))).toNatClampNeg (.int (-1 : Int32)))))[(((z_L2 i0 w0) ^^^ (1 : Int32))).toNatClampNeg]? = some (.int (0 : Int32))) := by decide +kernel
theorem z_x32 : ∀ (i0 : Fin 6) (u0 v0 w0 : Fin 2), (((List.set ((List.set ((z_z8)) ((z_L0 i0 u0)).toNatClampNeg (.int (1 : Int32)))) (((z_L0 i0 u0) ^^^ (1 : Int32))).toNatClampNeg (.int (-1 : Int32))))[((0 : Int32)).toNatClampNeg]? = some (.int (0 : Int32))) := by decide +kernel
theorem z_x33 : ∀ (i0 : Fin 6) (u0 v0 w0 : Fin 2), (((List.set ((List.set ((z_z8)) ((z_L0 i0 u0)).toNatClampNeg (.int (1 : Int32)))) (((z_L0 i0 u0) ^^^ (1 : Int32))).toNatClampNeg (.int (-1 : Int32))))[((1 : Int32)).toNatClampNeg]? = some (.int (0 : Int32))) := by decide +kernel
theorem z_T1_1 (i0 : Fin 6) (u0 v0 w0 : Fin 2) : z_R1_1 (z_L0 i0 u0) (z_L1 i0 v0) (z_L2 i0 w0) := ⟨z_x0 i0 u0 v0 w0, z_x14 i0 u0 v0 w0, z_x2 i0 u0 v0 w0, z_x15 i0 u0 v0 w0, z_x26 i0 u0 v0 w0, z_x27 i0 u0 v0 w0, z_x4 i0 u0 v0 w0, z_x28 i0 u0 v0 w0, z_x6 i0 u0 v0 w0, z_x29 i0 u0 v0 w0, z_x8 i0 u0 v0 w0, z_x30 i0 u0 v0 w0, z_x10 i0 u0 v0 w0, z_x31 i0 u0 v0 w0, z_x32 i0 u0 v0 w0, z_x33 i0 u0 v0 w0⟩
theorem z_x34 : ∀ (i0 : Fin 6) (u0 v0 w0 : Fin 2), (((z_L1 i0 v0)).toNatClampNeg < (((List.set ((List.set ((z_z8)) ((z_L0 i0 u0)).toNatClampNeg (.int (1 : Int32)))) (((z_L0 i0 u0) ^^^ (1 : Int32))).toNatClampNeg (.int (-1 : Int32))))).length) := by decide +kernel
theorem z_x35 : ∀ (i0 : Fin 6) (u0 v0 w0 : Fin 2), ((((z_L1 i0 v0) ^^^ (1 : Int32))).toNatClampNeg < ((List.set (((List.set ((List.set ((z_z8)) ((z_L0 i0 u0)).toNatClampNeg (.int (1 : Int32)))) (((z_L0 i0 u0) ^^^ (1 : Int32))).toNatClampNeg (.int (-1 : Int32))))) ((z_L1 i0 v0)).toNatClampNeg (.int (1 : Int32)))).length) := by decide +kernel
theorem z_x36 : ∀ (i0 : Fin 6) (u0 v0 w0 : Fin 2), (((z_L1 i0 v0)).toNatClampNeg < (((List.set ((List.set (((List.set ((List.set ((z_z8)) ((z_L0 i0 u0)).toNatClampNeg (.int (1 : Int32)))) (((z_L0 i0 u0) ^^^ (1 : Int32))).toNatClampNeg (.int (-1 : Int32))))) ((z_L1 i0 v0)).toNatClampNeg (.int (1 : Int32)))) (((z_L1 i0 v0) ^^^ (1 : Int32))).toNatClampNeg (.int (-1 : Int32))))).length) := by decide +kernel
theorem z_x37 : ∀ (i0 : Fin 6) (u0 v0 w0 : Fin 2), ((((z_L1 i0 v0) ^^^ (1 : Int32))).toNatClampNeg < ((List.set (((List.set ((List.set (((List.set ((List.set ((z_z8)) ((z_L0 i0 u0)).toNatClampNeg (.int (1 : Int32)))) (((z_L0 i0 u0) ^^^ (1 : Int32))).toNatClampNeg (.int (-1 : Int32))))) ((z_L1 i0 v0)).toNatClampNeg (.int (1 : Int32)))) (((z_L1 i0 v0) ^^^ (1 : Int32))).toNatClampNeg (.int (-1 : Int32))))) ((z_L1 i0 v0)).toNatClampNeg (.int (0 : Int32)))).length) := by decide +kernel
theorem z_x38 : ∀ (i0 : Fin 6) (u0 v0 w0 : Fin 2), (((z_L0 i0 u0)).toNatClampNeg < ((List.set ((List.set (((List.set ((List.set (((List.set ((List.set ((z_z8)) ((z_L0 i0 u0)).toNatClampNeg (.int (1 : Int32)))) (((z_L0 i0 u0) ^^^ (1 : Int32))).toNatClampNeg (.int (-1 : Int32))))) ((z_L1 i0 v0)).toNatClampNeg (.int (1 : Int32)))) (((z_L1 i0 v0) ^^^ (1 : Int32))).toNatClampNeg (.int (-1 : Int32))))) ((z_L1 i0 v0)).toNatClampNeg (.int (0 : Int32)))) (((z_L1 i0 v0) ^^^ (1 : Int32))).toNatClampNeg (.int (0 : Int32)))).length) := by decide +kernel
theorem z_x39 : ∀ (i0 : Fin 6) (u0 v0 w0 : Fin 2), ((((z_L0 i0 u0) ^^^ (1 : Int32))).toNatClampNeg < ((List.set ((List.set ((List.set (((List.set ((List.set (((List.set ((List.set ((z_z8)) ((z_L0 i0 u0)).toNatClampNeg (.int (1 : Int32)))) (((z_L0 i0 u0) ^^^ (1 : Int32))).toNatClampNeg (.int (-1 : Int32))))) ((z_L1 i0 v0)).toNatClampNeg (.int (1 : Int32)))) (((z_L1 i0 v0) ^^^ (1 : Int32))).toNatClampNeg (.int (-1 : Int32))))) ((z_L1 i0 v0)).toNatClampNeg (.int (0 : Int32)))) (((z_L1 i0 v0) ^^^ (1 : Int32))).toNatClampNeg (.int (0 : Int32)))) ((z_L0 i0 u0)).toNatClampNeg (.int (0 : Int32)))).length) := by decide +kernel
theorem z_x40 : ∀ (i0 : Fin 6) (u0 v0 w0 : Fin 2), ((((List.set ((List.set ((List.set ((List.set (((List.set ((List.set (((List.set ((List.set ((z_z8)) ((z_L0 i0 u0)).toNatClampNeg (.int (1 : Int32)))) (((z_L0 i0 u0) ^^^ (1 : Int32))).toNatClampNeg (.int (-1 : Int32))))) ((z_L1 i0 v0)).toNatClampNeg (.int (1 : Int32)))) (((z_L1 i0 v0) ^^^ (1 : Int32))).toNatClampNeg (.int (-1 : Int32))))) ((z_L1 i0 v0)).toNatClampNeg (.int (0 : Int32)))) (((z_L1 i0 v0) ^^^ (1 : Int32))).toNatClampNeg (.int (0 : Int32)))) ((z_L0 i0 u0)).toNatClampNeg (.int (0 : Int32)))) (((z_L0 i0 u0) ^^^ (1 : Int32))).toNatClampNeg (.int (0 : Int32)))))[((z_L0 i0 u0)).toNatClampNeg]? = some (.int (0 : Int32))) := by decide +kernel
theorem z_x41 : ∀ (i0 : Fin 6) (u0 v0 w0 : Fin 2), ((((List.set ((List.set ((List.set ((List.set (((List.set ((List.set (((List.set ((List.set ((z_z8)) ((z_L0 i0 u0)).toNatClampNeg (.int (1 : Int32)))) (((z_L0 i0 u0) ^^^ (1 : Int32))).toNatClampNeg (.int (-1 : Int32))))) ((z_L1 i0 v0)).toNatClampNeg (.int (1 : Int32)))) (((z_L1 i0 v0) ^^^ (1 : Int32))).toNatClampNeg (.int (-1 : Int32))))) ((z_L1 i0 v0)).toNatClampNeg (.int (0 : Int32)))) (((z_L1 i0 v0) ^^^ (1 : Int32))).toNatClampNeg (.int (0 : Int32)))) ((z_L0 i0 u0)).toNatClampNeg (.int (0 : Int32)))) (((z_L0 i0 u0) ^^^ (1 : Int32))).toNatClampNeg (.int (0 : Int32)))))[(((z_L0 i0 u0) ^^^ (1 : Int32))).toNatClampNeg]? = some (.int (0 : Int32))) := by decide +kernel
theorem z_x42 : ∀ (i0 : Fin 6) (u0 v0 w0 : Fin 2), ((((List.set ((List.set ((List.set ((List.set (((List.set ((List.set (((List.set ((List.set ((z_z8)) ((z_L0 i0 u0)).toNatClampNeg (.int (1 : Int32)))) (((z_L0 i0 u0) ^^^ (1 : Int32))).toNatClampNeg (.int (-1 : Int32))))) ((z_L1 i0 v0)).toNatClampNeg (.int (1 : Int32)))) (((z_L1 i0 v0) ^^^ (1 : Int32))).toNatClampNeg (.int (-1 : Int32))))) ((z_L1 i0 v0)).toNatClampNeg (.int (0 : Int32)))) (((z_L1 i0 v0) ^^^ (1 : Int32))).toNatClampNeg (.int (0 : Int32)))) ((z_L0 i0 u0)).toNatClampNeg (.int (0 : Int32)))) (((z_L0 i0 u0) ^^^ (1 : Int32))).toNatClampNeg (.int (0 : Int32)))))[((z_L1 i0 v0)).toNatClampNeg]? = some (.int (0 : Int32))) := by decide +kernel
theorem z_x43 : ∀ (i0 : Fin 6) (u0 v0 w0 : Fin 2), ((((List.set ((List.set ((List.set ((List.set (((List.set ((List.set (((List.set ((List.set ((z_z8)) ((z_L0 i0 u0)).toNatClampNeg (.int (1 : Int32)))) (((z_L0 i0 u0) ^^^ (1 : Int32))).toNatClampNeg (.int (-1 : Int32))))) ((z_L1 i0 v0)).toNatClampNeg (.int (1 : Int32)))) (((z_L1 i0 v0) ^^^ (1 : Int32))).toNatClampNeg (.int (-1 : Int32))))) ((z_L1 i0 v0)).toNatClampNeg (.int (0 : Int32)))) (((z_L1 i0 v0) ^^^ (1 : Int32))).toNatClampNeg (.int (0 : Int32)))) ((z_L0 i0 u0)).toNatClampNeg (.int (0 : Int32)))) (((z_L0 i0 u0) ^^^ (1 : Int32))).toNatClampNeg (.int (0 : Int32)))))[(((z_L1 i0 v0) ^^^ (1 : Int32))).toNatClampNeg]? = some (.int (0 : Int32))) := by decide +kernel
theorem z_x44 : ∀ (i0 : Fin 6) (u0 v0 w0 : Fin 2), ((((List.set ((List.set ((List.set ((List.set (((List.set ((List.set (((List.set ((List.set ((z_z8)) ((z_L0 i0 u0)).toNatClampNeg (.int (1 : Int32)))) (((z_L0 i0 u0) ^^^ (1 : Int32))).toNatClampNeg (.int (-1 : Int32))))) ((z_L1 i0 v0)).toNatClampNeg (.int (1 : Int32)))) (((z_L1 i0 v0) ^^^ (1 : Int32))).toNatClampNeg (.int (-1 : Int32))))) ((z_L1 i0 v0)).toNatClampNeg (.int (0 : Int32)))) (((z_L1 i0 v0) ^^^ (1 : Int32))).toNatClampNeg (.int (0 : Int32)))) ((z_L0 i0 u0)).toNatClampNeg (.int (0 : Int32)))) (((z_L0 i0 u0) ^^^ (1 : Int32))).toNatClampNeg (.int (0 : Int32)))))[((z_L2 i0 w0)).toNatClampNeg]? = some (.int (0 : Int32))) := by decide +kernel
theorem z_x45 : ∀ (i0 : Fin 6) (u0 v0 w0 : Fin 2), ((((List.set ((List.set ((List.set ((List.set (((List.set ((List.set (((List.set ((List.set ((z_z8)) ((z_L0 i0 u0)).toNatClampNeg (.int (1 : Int32)))) (((z_L0 i0 u0) ^^^ (1 : Int32))).toNatClampNeg (.int (-1 : Int32))))) ((z_L1 i0 v0)).toNatClampNeg (.int (1 : Int32)))) (((z_L1 i0 v0) ^^^ (1 : Int32))).toNatClampNeg (.int (-1 : Int32))))) ((z_L1 i0 v0)).toNatClampNeg (.int (0 : Int32)))) (((z_L1 i0 v0) ^^^ (1 : Int32))).toNatClampNeg (.int (0 : Int32)))) ((z_L0 i0 u0)).toNatClampNeg (.int (0 : Int32)))) (((z_L0 i0 u0) ^^^ (1 : Int32))).toNatClampNeg (.int (0 : Int32)))))[(((z_L2 i0 w0) ^^^ (1 : Int32))).toNatClampNeg]? = some (.int (0 : Int32))) := by decide +kernel
theorem z_x46 : ∀ (i0 : Fin 6) (u0 v0 w0 : Fin 2), (((List.set ((List.set ((List.set ((List.set (((List.set ((List.set (((List.set ((List.set ((z_z8)) ((z_L0 i0 u0)).toNatClampNeg (.int (1 : Int32)))) (((z_L0 i0 u0) ^^^ (1 : Int32))).toNatClampNeg (.int (-1 : Int32))))) ((z_L1 i0 v0)).toNatClampNeg (.int (1 : Int32)))) (((z_L1 i0 v0) ^^^ (1 : Int32))).toNatClampNeg (.int (-1 : Int32))))) ((z_L1 i0 v0)).toNatClampNeg (.int (0 : Int32)))) (((z_L1 i0 v0) ^^^ (1 : Int32))).toNatClampNeg (.int (0 : Int32)))) ((z_L0 i0 u0)).toNatClampNeg (.int (0 : Int32)))) (((z_L0 i0 u0) ^^^ (1 : Int32))).toNatClampNeg (.int (0 : Int32))))[((0 : Int32)).toNatClampNeg]? = some (.int (0 : Int32))) := by decide +kernel
theorem z_x47 : ∀ (i0 : Fin 6) (u0 v0 w0 : Fin 2), (((List.set ((List.set ((List.set ((List.set (((List.set ((List.set (((List.set ((List.set ((z_z8)) ((z_L0 i0 u0)).toNatClampNeg (.int (1 : Int32)))) (((z_L0 i0 u0) ^^^ (1 : Int32))).toNatClampNeg (.int (-1 : Int32))))) ((z_L1 i0 v0)).toNatClampNeg (.int (1 : Int32)))) (((z_L1 i0 v0) ^^^ (1 : Int32))).toNatClampNeg (.int (-1 : Int32))))) ((z_L1 i0 v0)).toNatClampNeg (.int (0 : Int32)))) (((z_L1 i0 v0) ^^^ (1 : Int32))).toNatClampNeg (.int (0 : Int32)))) ((z_L0 i0 u0)).toNatClampNeg (.int (0 : Int32)))) (((z_L0 i0 u0) ^^^ (1 : Int32))).toNatClampNeg (.int (0 : Int32))))[((1 : Int32)).toNatClampNeg]? = some (.int (0 : Int32))) := by decide +kernel
theorem z_T2_0 (i0 : Fin 6) (u0 v0 w0 : Fin 2) : z_R2_0 (z_L0 i0 u0) (z_L1 i0 v0) (z_L2 i0 w0) := ⟨z_x0 i0 u0 v0 w0, z_x14 i0 u0 v0 w0, z_x2 i0 u0 v0 w0, z_x15 i0 u0 v0 w0, z_x4 i0 u0 v0 w0, z_x34 i0 u0 v0 w0, z_x6 i0 u0 v0 w0, z_x35 i0 u0 v0 w0, z_x36 i0 u0 v0 w0, z_x37 i0 u0 v0 w0, z_x38 i0 u0 v0 w0, z_x39 i0 u0 v0 w0, z_x40 i0 u0 v0 w0, z_x41 i0 u0 v0 w0, z_x42 i0 u0 v0 w0, z_x43 i0 u0 v0 w0, z_x8 i0 u0 v0 w0, z_x44 i0 u0 v0 w0, z_x10 i0 u0 v0 w0, z_x45 i0 u0 v0 w0, z_x46 i0 u0 v0 w0, z_x47 i0 u0 v0 w0⟩
theorem z_x48 : ∀ (i0 : Fin 6) (u0 v0 w0 : Fin 2), ((((List.set ((List.set (((List.set ((List.set (((List.set ((List.set ((z_z8)) ((z_L0 i0 u0)).toNatClampNeg (.int (1 : Int32)))) (((z_L0 i0 u0) ^^^ (1 : Int32))).toNatClampNeg (.int (-1 : Int32))))) ((z_L1 i0 v0)).toNatClampNeg (.int (1 : Int32)))) (((z_L1 i0 v0) ^^^ (1 : Int32))).toNatClampNeg (.int (-1 : Int32))))) ((z_L1 i0 v0)).toNatClampNeg (.int (0 : Int32)))) (((z_L1 i0 v0) ^^^ (1 : Int32))).toNatClampNeg (.int (0 : Int32)))))[((z_L0 i0 u0)).toNatClampNeg]? = some (.int (1 : Int32))) := by decide +kernel
theorem z_x49 : ∀ (i0 : Fin 6) (u0 v0 w0 : Fin 2), ((((List.set ((List.set (((List.set ((List.set (((List.set ((List.set ((z_z8)) ((z_L0 i0 u0)).toNatClampNeg (.int (1 : Int32)))) (((z_L0 i0 u0) ^^^ (1 : Int32))).toNatClampNeg (.int (-1 : Int32))))) ((z_L1 i0 v0)).toNatClampNeg (.int (1 : Int32)))) (((z_L1 i0 v0) ^^^ (1 : Int32))).toNatClampNeg (.int (-1 : Int32))))) ((z_L1 i0 v0)).toNatClampNeg (.int (0 : Int32)))) (((z_L1 i0 v0) ^^^ (1 : Int32))).toNatClampNeg (.int (0 : Int32)))))[(((z_L0 i0 u0) ^^^ (1 : Int32))).toNatClampNeg]? = some (.int (-1 : Int32))) := by decide +kernel
theorem z_x50 : ∀ (i0 : Fin 6) (u0 v0 w0 : Fin 2), ((((List.set ((List.set (((List.set ((List.set (((List.set ((List.set ((z_z8)) ((z_L0 i0 u0)).toNatClampNeg (.int (1 : Int32)))) (((z_L0 i0 u0) ^^^ (1 : Int32))).toNatClampNeg (.int (-1 : Int32))))) ((z_L1 i0 v0)).toNatClampNeg (.int (1 : Int32)))) (((z_L1 i0 v0) ^^^ (1 : Int32))).toNatClampNeg (.int (-1 : Int32))))) ((z_L1 i0 v0)).toNatClampNeg (.int (0 : Int32)))) (((z_L1 i0 v0) ^^^ (1 : Int32))).toNatClampNeg (.int (0 : Int32)))))[((z_L1 i0 v0)).toNatClampNeg]? = some (.int (0 : Int32))) := by decide +kernel
theorem z_x51 : ∀ (i0 : Fin 6) (u0 v0 w0 : Fin 2), ((((List.set ((List.set (((List.set ((List.set (((List.set ((List.set ((z_z8)) ((z_L0 i0 u0)).toNatClampNeg (.int (1 : Int32)))) (((z_L0 i0 u0) ^^^ (1 : Int32))).toNatClampNeg (.int (-1 : Int32))))) ((z_L1 i0 v0)).toNatClampNeg (.int (1 : Int32)))) (((z_L1 i0 v0) ^^^ (1 : Int32))).toNatClampNeg (.int (-1 : Int32))))) ((z_L1 i0 v0)).toNatClampNeg (.int (0 : Int32)))) (((z_L1 i0 v0) ^^^ (1 : Int32))).toNatClampNeg (.int (0 : Int32)))))[(((z_L1 i0 v0) ^^^ (1 : Int32))).toNatClampNeg]? = some (.int (0 : Int32))) := by decide +kernel
theorem z_x52 : ∀ (i0 : Fin 6) (u0 v0 w0 : Fin 2), ((((List.set ((List.set (((List.set ((List.set (((List.set ((List.set ((z_z8)) ((z_L0 i0 u0)).toNatClampNeg (.int (1 : Int32)))) (((z_L0 i0 u0) ^^^ (1 : Int32))).toNatClampNeg (.int (-1 : Int32))))) ((z_L1 i0 v0)).toNatClampNeg (.int (1 : Int32)))) (((z_L1 i0 v0) ^^^ (1 : Int32))).toNatClampNeg (.int (-1 : Int32))))) ((z_L1 i0 v0)).toNatClampNeg (.int (0 : Int32)))) (((z_L1 i0 v0) ^^^ (1 : Int32))).toNatClampNeg (.int (0 : Int32)))))[((z_L2 i0 w0)).toNatClampNeg]? = some (.int (0 : Int32))) := by decide +kernel
theorem z_x53 : ∀ (i0 : Fin 6) (u0 v0 w0 : Fin 2), ((((List.set ((List.set (((List.set ((List.set (((List.set ((List.set ((z_z8)) ((z_L0 i0 u0)).toNatClampNeg (.int (1 : Int32)))) (((z_L0 i0 u0) ^^^ (1 : Int32))).toNatClampNeg (.int (-1 : Int32))))) ((z_L1 i0 v0)).toNatClampNeg (.int (1 : Int32)))) (((z_L1 i0 v0) ^^^ (1 : Int32))).toNatClampNeg (.int (-1 : Int32))))) ((z_L1 i0 v0)).toNatClampNeg (.int (0 : Int32)))) (((z_L1 i0 v0) ^^^ (1 : Int32))).toNatClampNeg (.int (0 : Int32)))))[(((z_L2 i0 w0) ^^^ (1 : Int32))).toNatClampNeg]? = some (.int (0 : Int32))) := by decide +kernel
theorem z_x54 : ∀ (i0 : Fin 6) (u0 v0 w0 : Fin 2), (((List.set ((List.set (((List.set ((List.set (((List.set ((List.set ((z_z8)) ((z_L0 i0 u0)).toNatClampNeg (.int (1 : Int32)))) (((z_L0 i0 u0) ^^^ (1 : Int32))).toNatClampNeg (.int (-1 : Int32))))) ((z_L1 i0 v0)).toNatClampNeg (.int (1 : Int32)))) (((z_L1 i0 v0) ^^^ (1 : Int32))).toNatClampNeg (.int (-1 : Int32))))) ((z_L1 i0 v0)).toNatClampNeg (.int (0 : Int32)))) (((z_L1 i0 v0) ^^^ (1 : Int32))).toNatClampNeg (.int (0 : Int32))))[((0 : Int32)).toNatClampNeg]? = some (.int (0 : Int32))) := by decide +kernel
theorem z_x55 : ∀ (i0 : Fin 6) (u0 v0 w0 : Fin 2), (((List.set ((List.set (((List.set ((List.set (((List.set ((List.set ((z_z8)) ((z_L0 i0 u0)).toNatClampNeg (.int (1 : Int32)))) (((z_L0 i0 u0) ^^^ (1 : Int32))).toNatClampNeg (.int (-1 : Int32))))) ((z_L1 i0 v0)).toNatClampNeg (.int (1 : Int32)))) (((z_L1 i0 v0) ^^^ (1 : Int32))).toNatClampNeg (.int (-1 : Int32))))) ((z_L1 i0 v0)).toNatClampNeg (.int (0 : Int32)))) (((z_L1 i0 v0) ^^^ (1 : Int32))).toNatClampNeg (.int (0 : Int32))))[((1 : Int32)).toNatClampNeg]? = some (.int (0 : Int32))) := by decide +kernel
theorem z_T2_1 (i0 : Fin 6) (u0 v0 w0 : Fin 2) : z_R2_1 (z_L0 i0 u0) (z_L1 i0 v0) (z_L2 i0 w0) := ⟨z_x0 i0 u0 v0 w0, z_x14 i0 u0 v0 w0, z_x2 i0 u0 v0 w0, z_x15 i0 u0 v0 w0, z_x4 i0 u0 v0 w0, z_x34 i0 u0 v0 w0, z_x6 i0 u0 v0 w0, z_x35 i0 u0 v0 w0, z_x36 i0 u0 v0 w0, z_x37 i0 u0 v0 w0, z_x48 i0 u0 v0 w0, z_x49 i0 u0 v0 w0, z_x50 i0 u0 v0 w0, z_x51 i0 u0 v0 w0, z_x8 i0 u0 v0 w0, z_x52 i0 u0 v0 w0, z_x10 i0 u0 v0 w0, z_x53 i0 u0 v0 w0, z_x54 i0 u0 v0 w0, z_x55 i0 u0 v0 w0⟩
theorem z_x56 : ∀ (i0 : Fin 6) (u0 v0 w0 : Fin 2), ((((List.set ((List.set (((List.set ((List.set ((z_z8)) ((z_L0 i0 u0)).toNatClampNeg (.int (1 : Int32)))) (((z_L0 i0 u0) ^^^ (1 : Int32))).toNatClampNeg (.int (-1 : Int32))))) ((z_L1 i0 v0)).toNatClampNeg (.int (1 : Int32)))) (((z_L1 i0 v0) ^^^ (1 : Int32))).toNatClampNeg (.int (-1 : Int32)))))[((z_L0 i0 u0)).toNatClampNeg]? = some (.int (1 : Int32))) := by decide +kernel
theorem z_x57 : ∀ (i0 : Fin 6) (u0 v0 w0 : Fin 2), ((((List.set ((List.set (((List.set ((List.set ((z_z8)) ((z_L0 i0 u0)).toNatClampNeg (.int (1 : Int32)))) (((z_L0 i0 u0) ^^^ (1 : Int32))).toNatClampNeg (.int (-1 : Int32))))) ((z_L1 i0 v0)).toNatClampNeg (.int (1 : Int32)))) (((z_L1 i0 v0) ^^^ (1 : Int32))).toNatClampNeg (.int (-1 : Int32)))))[(((z_L0 i0 u0) ^^^ (1 : Int32))).toNatClampNeg]? = some (.int (-1 : Int32))) := by decide +kernel
theorem z_x58 : ∀ (i0 : Fin 6) (u0 v0 w0 : Fin 2), ((((List.set ((List.set (((List.set ((List.set ((z_z8)) ((z_L0 i0 u0)).toNatClampNeg (.int (1 : Int32)))) (((z_L0 i0 u0) ^^^ (1 : Int32))).toNatClampNeg (.int (-1 : Int32))))) ((z_L1 i0 v0)).toNatClampNeg (.int (1 : Int32)))) (((z_L1 i0 v0) ^^^ (1 : Int32))).toNatClampNeg (.int (-1 : Int32)))))[((z_L1 i0 v0)).toNatClampNeg]? = some (.int (1 : Int32))) := by decide +kernel
theorem z_x59 : ∀ (i0 : Fin 6) (u0 v0 w0 : Fin 2), ((((List.set ((List.set (((List.set ((List.set ((z_z8)) ((z_L0 i0 u0)).toNatClampNeg (.int (1 : Int32)))) (((z_L0 i0 u0) ^^^ (1 : Int32))).toNatClampNeg (.int (-1 : Int32))))) ((z_L1 i0 v0)).toNatClampNeg (.int (1 : Int32)))) (((z_L1 i0 v0) ^^^ (1 : Int32))).toNatClampNeg (.int (-1 : Int32)))))[(((z_L1 i0 v0) ^^^ (1 : Int32))).toNatClampNeg]? = some (.int (-1 : Int32))) := by decide +kernel
theorem z_x60 : ∀ (i0 : Fin 6) (u0 v0 w0 : Fin 2), ((((List.set ((List.set (((List.set ((List.set ((z_z8)) ((z_L0 i0 u0)).toNatClampNeg (.int (1 : Int32)))) (((z_L0 i0 u0) ^^^ (1 : Int32))).toNatClampNeg (.int (-1 : Int32))))) ((z_L1 i0 v0)).toNatClampNeg (.int (1 : Int32)))) (((z_L1 i0 v0) ^^^ (1 : Int32))).toNatClampNeg (.int (-1 : Int32)))))[((z_L2 i0 w0)).toNatClampNeg]? = some (.int (0 : Int32))) := by decide +kernel
theorem z_x61 : ∀ (i0 : Fin 6) (u0 v0 w0 : Fin 2), ((((List.set ((List.set (((List.set ((List.set ((z_z8)) ((z_L0 i0 u0)).toNatClampNeg (.int (1 : Int32)))) (((z_L0 i0 u0) ^^^ (1 : Int32))).toNatClampNeg (.int (-1 : Int32))))) ((z_L1 i0 v0)).toNatClampNeg (.int (1 : Int32)))) (((z_L1 i0 v0) ^^^ (1 : Int32))).toNatClampNeg (.int (-1 : Int32)))))[(((z_L2 i0 w0) ^^^ (1 : Int32))).toNatClampNeg]? = some (.int (0 : Int32))) := by decide +kernel
theorem z_x62 : ∀ (i0 : Fin 6) (u0 v0 w0 : Fin 2), (((List.set ((List.set (((List.set ((List.set ((z_z8)) ((z_L0 i0 u0)).toNatClampNeg (.int (1 : Int32)))) (((z_L0 i0 u0) ^^^ (1 : Int32))).toNatClampNeg (.int (-1 : Int32))))) ((z_L1 i0 v0)).toNatClampNeg (.int (1 : Int32)))) (((z_L1 i0 v0) ^^^ (1 : Int32))).toNatClampNeg (.int (-1 : Int32))))[((0 : Int32)).toNatClampNeg]? = some (.int (0 : Int32))) := by decide +kernel
theorem z_x63 : ∀ (i0 : Fin 6) (u0 v0 w0 : Fin 2), (((List.set ((List.set (((List.set ((List.set ((z_z8)) ((z_L0 i0 u0)).toNatClampNeg (.int (1 : Int32)))) (((z_L0 i0 u0) ^^^ (1 : Int32))).toNatClampNeg (.int (-1 : Int32))))) ((z_L1 i0 v0)).toNatClampNeg (.int (1 : Int32)))) (((z_L1 i0 v0) ^^^ (1 : Int32))).toNatClampNeg (.int (-1 : Int32))))[((1 : Int32)).toNatClampNeg]? = some (.int (0 : Int32))) := by decide +kernel
theorem z_T2_2 (i0 : Fin 6) (u0 v0 w0 : Fin 2) : z_R2_2 (z_L0 i0 u0) (z_L1 i0 v0) (z_L2 i0 w0) := ⟨z_x0 i0 u0 v0 w0, z_x14 i0 u0 v0 w0, z_x2 i0 u0 v0 w0, z_x15 i0 u0 v0 w0, z_x4 i0 u0 v0 w0, z_x34 i0 u0 v0 w0, z_x6 i0 u0 v0 w0, z_x35 i0 u0 v0 w0, z_x56 i0 u0 v0 w0, z_x57 i0 u0 v0 w0, z_x58 i0 u0 v0 w0, z_x59 i0 u0 v0 w0, z_x8 i0 u0 v0 w0, z_x60 i0 u0 v0 w0, z_x10 i0 u0 v0 w0, z_x61 i0 u0 v0 w0, z_x62 i0 u0 v0 w0, z_x63 i0 u0 v0 w0⟩
theorem z_x64 : ∀ (i0 : Fin 6) (u0 v0 w0 : Fin 2), (((z_L2 i0 w0)).toNatClampNeg < (((List.set ((List.set (((List.set ((List.set ((z_z8)) ((z_L0 i0 u0)).toNatClampNeg (.int (1 : Int32)))) (((z_L0 i0 u0) ^^^ (1 : Int32))).toNatClampNeg (.int (-1 : Int32))))) ((z_L1 i0 v0)).toNatClampNeg (.int (1 : Int32)))) (((z_L1 i0 v0) ^^^ (1 : Int32))).toNatClampNeg (.int (-1 : Int32))))).length) := by decide +kernel
theorem z_x65 : ∀ (i0 : Fin 6) (u0 v0 w0 : Fin 2), ((((z_L2 i0 w0) ^^^ (1 : Int32))).toNatClampNeg < ((List.set (((List.set ((List.set (((List.set ((List.set ((z_z8)) ((z_L0 i0 u0)).toNatClampNeg (.int (1 : Int32)))) (((z_L0 i0 u0) ^^^ (1 : Int32))).toNatClampNeg (.int (-1 : Int32))))) ((z_L1 i0 v0)).toNatClampNeg (.int (1 : Int32)))) (((z_L1 i0 v0) ^^^ (1 : Int32))).toNatClampNeg (.int (-1 : Int32))))) ((z_L2 i0 w0)).toNatClampNeg (.int (1 : Int32)))).length) := by decide +kernel
theorem z_x66 : ∀ (i0 : Fin 6) (u0 v0 w0 : Fin 2), (((z_L2 i0 w0)).toNatClampNeg < (((List.set ((List.set (((List.set ((List.set (((List.set ((List.set ((z_z8)) ((z_L0 i0 u0)).toNatClampNeg (.int (1 : Int32)))) (((z_L0 i0 u0) ^^^ (1 : Int32))).toNatClampNeg (.int (-1 : Int32))))) ((z_L1 i0 v0)).toNatClampNeg (.int (1 : Int32)))) (((z_L1 i0 v0) ^^^ (1 : Int32))).toNatClampNeg (.int (-1 : Int32))))) ((z_L2 i0 w0)).toNatClampNeg (.int (1 : Int32)))) (((z_L2 i0 w0) ^^^ (1 : Int32))).toNatClampNeg (.int (-1 : Int32))))).length) := by decide +kernel
theorem z_x67 : ∀ (i0 : Fin 6) (u0 v0 w0 : Fin 2), ((((z_L2 i0 w0) ^^^ (1 : Int32))).toNatClampNeg < ((List.set (((List.set ((List.set (((List.set ((List.set (((List.set ((List.set ((z_z8)) ((z_L0 i0 u0)).toNatClampNeg (.int (1 : Int32)))) (((z_L0 i0 u0) ^^^ (1 : Int32))).toNatClampNeg (.int (-1 : Int32))))) ((z_L1 i0 v0)).toNatClampNeg (.int (1 : Int32)))) (((z_L1 i0 v0) ^^^ (1 : Int32))).toNatClampNeg (.int (-1 : Int32))))) ((z_L2 i0 w0)).toNatClampNeg (.int (1 : Int32)))) (((z_L2 i0 w0) ^^^ (1 : Int32))).toNatClampNeg (.int (-1 : Int32))))) ((z_L2 i0 w0)).toNatClampNeg (.int (0 : Int32)))).length) := by decide +kernel
theorem z_x68 : ∀ (i0 : Fin 6) (u0 v0 w0 : Fin 2), (((z_L1 i0 v0)).toNatClampNeg < ((List.set ((List.set (((List.set ((List.set (((List.set ((List.set (((List.set ((List.set ((z_z8)) ((z_L0 i0 u0)).toNatClampNeg (.int (1 : Int32)))) (((z_L0 i0 u0) ^^^ (1 : Int32))).toNatClampNeg (.int (-1 : Int32))))) ((z_L1 i0 v0)).toNatClampNeg (.int (1 : Int32)))) (((z_L1 i0 v0) ^^^ (1 : Int32))).toNatClampNeg (.int (-1 : Int32))))) ((z_L2 i0 w0)).toNatClampNeg (.int (1 : Int32)))) (((z_L2 i0 w0) ^^^ (1 : Int32))).toNatClampNeg (.int (-1 : Int32))))) ((z_L2 i0 w0)).toNatClampNeg (.int (0 : Int32)))) (((z_L2 i0 w0) ^^^ (1 : Int32))).toNatClampNeg (.int (0 : Int32)))).length) := by decide +kernel
theorem z_x69 : ∀ (i0 : Fin 6) (u0 v0 w0 : Fin 2), ((((z_L1 i0 v0) ^^^ (1 : Int32))).toNatClampNeg < ((List.set ((List.set ((List.set (((List.set ((List.set (((List.set ((List.set (((List.set ((List.set ((z_z8)) ((z_L0 i0 u0)).toNatClampNeg (.int (1 : Int32)))) (((z_L0 i0 u0) ^^^ (1 : Int32))).toNatClampNeg (.int (-1 : Int32))))) ((z_L1 i0 v0)).toNatClampNeg (.int (1 : Int32)))) (((z_L1 i0 v0) ^^^ (1 : Int32))).toNatClampNeg (.int (-1 : Int32))))) ((z_L2 i0 w0)).toNatClampNeg (.int (1 : Int32)))) (((z_L2 i0 w0) ^^^ (1 : Int32))).toNatClampNeg (.int (-1 : Int32))))) ((z_L2 i0 w0)).toNatClampNeg (.int (0 : Int32)))) (((z_L2 i0 w0) ^^^ (1 : Int32))).toNatClampNeg (.int (0 : Int32)))) ((z_L1 i0 v0)).toNatClampNeg (.int (0 : Int32)))).length) := by decide +kernel
theorem z_x70 : ∀ (i0 : Fin 6) (u0 v0 w0 : Fin 2), (((z_L0 i0 u0)).toNatClampNeg < ((List.set ((List.set ((List.set ((List.set (((List.set ((List.set (((List.set ((List.set (((List.set ((List.set ((z_z8)) ((z_L0 i0 u0)).toNatClampNeg (.int (1 : Int32)))) (((z_L0 i0 u0) ^^^ (1 : Int32))).toNatClampNeg (.int (-1 : Int32))))) ((z_L1 i0 v0)).toNatClampNeg (.int (1 : Int32)))) (((z_L1 i0 v0) ^^^ (1 : Int32))).toNatClampNeg (.int (-1 : Int32))))) ((z_L2 i0 w0)).toNatClampNeg (.int (1 : Int32)))) (((z_L2 i0 w0) ^^^ (1 : Int32))).toNatClampNeg (.int (-1 : Int32))))) ((z_L2 i0 w0)).toNatClampNeg (.int (0 : Int32)))) (((z_L2 i0 w0) ^^^ (1 : Int32))).toNatClampNeg (.int (0 : Int32)))) ((z_L1 i0 v0)).toNatClampNeg (.int (0 : Int32)))) (((z_L1 i0 v0) ^^^ (1 : Int32))).toNatClampNeg (.int (0 : Int32)))).length) := by decide +kernel
theorem z_x71 : ∀ (i0 : Fin 6) (u0 v0 w0 : Fin 2), ((((z_L0 i0 u0) ^^^ (1 : Int32))).toNatClampNeg < ((List.set ((List.set ((List.set ((List.set ((List.set (((List.set ((List.set (((List.set ((List.set (((List.set ((List.set ((z_z8)) ((z_L0 i0 u0)).toNatClampNeg (.int (1 : Int32)))) (((z_L0 i0 u0) ^^^ (1 : Int32))).toNatClampNeg (.int (-1 : Int32))))) ((z_L1 i0 v0)).toNatClampNeg (.int (1 : Int32)))) (((z_L1 i0 v0) ^^^ (1 : Int32))).toNatClampNeg (.int (-1 : Int32))))) ((z_L2 i0 w0)).toNatClampNeg (.int (1 : Int32)))) (((z_L2 i0 w0) ^^^ (1 : Int32))).toNatClampNeg (.int (-1 : Int32))))) ((z_L2 i0 w0)).toNatClampNeg (.int (0 : Int32)))) (((z_L2 i0 w0) ^^^ (1 : Int32))).toNatClampNeg (.int (0 : Int32)))) ((z_L1 i0 v0)).toNatClampNeg (.int (0 : Int32)))) (((z_L1 i0 v0) ^^^ (1 : Int32))).toNatClampNeg (.int (0 : Int32)))) ((z_L0 i0 u0)).toNatClampNeg (.int (0 : Int32)))).length) := by decide +kernel
theorem z_x72 : ∀ (i0 : Fin 6) (u0 v0 w0 : Fin 2), ((((List.set ((List.set ((List.set ((List.set ((List.set ((List.set (((List.set ((List.set (((List.set ((List.set (((List.set ((List.set ((z_z8)) ((z_L0 i0 u0)).toNatClampNeg (.int (1 : Int32)))) (((z_L0 i0 u0) ^^^ (1 : Int32))).toNatClampNeg (.int (-1 : Int32))))) ((z_L1 i0 v0)).toNatClampNeg (.int (1 : Int32)))) (((z_L1 i0 v0) ^^^ (1 : Int32))).toNatClampNeg (.int (-1 : Int32))))) ((z_L2 i0 w0)).toNatClampNeg (.int (1 : Int32)))) (((z_L2 i0 w0) ^^^ (1 : Int32))).toNatClampNeg (.int (-1 : Int32))))) ((z_L2 i0 w0)).toNatClampNeg (.int (0 : Int32)))) (((z_L2 i0 w0) ^^^ (1 : Int32))).toNatClampNeg (.int (0 : Int32)))) ((z_L1 i0 v0)).toNatClampNeg (.int (0 : Int32)))) (((z_L1 i0 v0) ^^^ (1 : Int32))).toNatClampNeg (.int (0 : Int32)))) ((z_L0 i0 u0)).toNatClampNeg (.int (0 : Int32)))) (((z_L0 i0 u0) ^^^ (1 : Int32))).toNatClampNeg (.int (0 : Int32)))))[((z_L0 i0 u0)).toNatClampNeg]? = some (.int (0 : Int32))) := by decide +kernel
theorem z_x73 : ∀ (i0 : Fin 6) (u0 v0 w0 : Fin 2), ((((List.set ((List.set ((List.set ((List.set ((List.set ((List.set (((List.set ((List.set (((List.set ((List.set (((List.set ((List.set ((z_z8)) ((z_L0 i0 u0)).toNatClampNeg (.int (1 : Int32)))) (((z_L0 i0 u0) ^^^ (1 : Int32))).toNatClampNeg (.int (-1 : Int32))))) ((z_L1 i0 v0)).toNatClampNeg (.int (1 : Int32)))) (((z_L1 i0 v0) ^^^ (1 : Int32))).toNatClampNeg (.int (-1 : Int32))))) ((z_L2 i0 w0)).toNatClampNeg (.int (1 : Int32)))) (((z_L2 i0 w0) ^^^ (1 : Int32))).toNatClampNeg (.int (-1 : Int32))))) ((z_L2 i0 w0)).toNatClampNeg (.int (0 : Int32)))) (((z_L2 i0 w0) ^^^ (1 : Int32))).toNatClampNeg (.int (0 : Int32)))) ((z_L1 i0 v0)).toNatClampNeg (.int (0 : Int32)))) (((z_L1 i0 v0) ^^^ (1 : Int32))).toNatClampNeg (.int (0 : Int32)))) ((z_L0 i0 u0)).toNatClampNeg (.int (0 : Int32)))) (((z_L0 i0 u0) ^^^ (1 : Int32))).toNatClampNeg (.int (0 : Int32)))))[(((z_L0 i0 u0) ^^^ (1 : Int32))).toNatClampNeg]? = some (.int (0 : Int32))) := by decide +kernel
theorem z_x74 : ∀ (i0 : Fin 6) (u0 v0 w0 : Fin 2), ((((List.set ((List.set ((List.set ((List.set ((List.set ((List.set (((List.set ((List.set (((List.set ((List.set (((List.set ((List.set ((z_z8)) ((z_L0 i0 u0)).toNatClampNeg (.int (1 : Int32)))) (((z_L0 i0 u0) ^^^ (1 : Int32))).toNatClampNeg (.int (-1 : Int32))))) ((z_L1 i0 v0)).toNatClampNeg (.int (1 : Int32)))) (((z_L1 i0 v0) ^^^ (1 : Int32))).toNatClampNeg (.int (-1 : Int32))))) ((z_L2 i0 w0)).toNatClampNeg (.int (1 : Int32)))) (((z_L2 i0 w0) ^^^ (1 : Int32))).toNatClampNeg (.int (-1 : Int32))))) ((z_L2 i0 w0)).toNatClampNeg (.int (0 : Int32)))) (((z_L2 i0 w0) ^^^ (1 : Int32))).toNatClampNeg (.int (0 : Int32)))) ((z_L1 i0 v0)).toNatClampNeg (.int (0 : Int32)))) (((z_L1 i0 v0) ^^^ (1 : Int32))).toNatClampNeg (.int (0 : Int32)))) ((z_L0 i0 u0)).toNatClampNeg (.int (0 : Int32)))) (((z_L0 i0 u0) ^^^ (1 : Int32))).toNatClampNeg (.int (0 : Int32)))))[((z_L1 i0 v0)).toNatClampNeg]? = some (.int (0 : Int32))) := by decide +kernel
theorem z_x75 : ∀ (i0 : Fin 6) (u0 v0 w0 : Fin 2), ((((List.set ((List.set ((List.set ((List.set ((List.set ((List.set (((List.set ((List.set (((List.set ((List.set (((List.set ((List.set ((z_z8)) ((z_L0 i0 u0)).toNatClampNeg (.int (1 : Int32)))) (((z_L0 i0 u0) ^^^ (1 : Int32))).toNatClampNeg (.int (-1 : Int32))))) ((z_L1 i0 v0)).toNatClampNeg (.int (1 : Int32)))) (((z_L1 i0 v0) ^^^ (1 : Int32))).toNatClampNeg (.int (-1 : Int32))))) ((z_L2 i0 w0)).toNatClampNeg (.int (1 : Int32)))) (((z_L2 i0 w0) ^^^ (1 : Int32))).toNatClampNeg (.int (-1 : Int32))))) ((z_L2 i0 w0)).toNatClampNeg (.int (0 : Int32)))) (((z_L2 i0 w0) ^^^ (1 : Int32))).toNatClampNeg (.int (0 : Int32)))) ((z_L1 i0 v0)).toNatClampNeg (.int (0 : Int32)))) (((z_L1 i0 v0) ^^^ (1 : Int32))).toNatClampNeg (.int (0 : Int32)))) ((z_L0 i0 u0)).toNatClampNeg (.int (0 : Int32)))) (((z_L0 i0 u0) ^^^ (1 : Int32))).toNatClampNeg (.int (0 : Int32)))))[(((z_L1 i0 v0) ^^^ (1 : Int32))).toNatClampNeg]? = some (.int (0 : Int32))) := by decide +kernel
theorem z_x76 : ∀ (i0 : Fin 6) (u0 v0 w0 : Fin 2), ((((List.set ((List.set ((List.set ((List.set ((List.set ((List.set (((List.set ((List.set (((List.set ((List.set (((List.set ((List.set ((z_z8)) ((z_L0 i0 u0)).toNatClampNeg (.int (1 : Int32)))) (((z_L0 i0 u0) ^^^ (1 : Int32))).toNatClampNeg (.int (-1 : Int32))))) ((z_L1 i0 v0)).toNatClampNeg (.int (1 : Int32)))) (((z_L1 i0 v0) ^^^ (1 : Int32))).toNatClampNeg (.int (-1 : Int32))))) ((z_L2 i0 w0)).toNatClampNeg (.int (1 : Int32)))) (((z_L2 i0 w0) ^^^ (1 : Int32))).toNatClampNeg (.int (-1 : Int32))))) ((z_L2 i0 w0)).toNatClampNeg (.int (0 : Int32)))) (((z_L2 i0 w0) ^^^ (1 : Int32))).toNatClampNeg (.int (0 : Int32)))) ((z_L1 i0 v0)).toNatClampNeg (.int (0 : Int32)))) (((z_L1 i0 v0) ^^^ (1 : Int32))).toNatClampNeg (.int (0 : Int32)))) ((z_L0 i0 u0)).toNatClampNeg (.int (0 : Int32)))) (((z_L0 i0 u0) ^^^ (1 : Int32))).toNatClampNeg (.int (0 : Int32)))))[((z_L2 i0 w0)).toNatClampNeg]? = some (.int (0 : Int32))) := by decide +kernel
theorem z_x77 : ∀ (i0 : Fin 6) (u0 v0 w0 : Fin 2), ((((List.set ((List.set ((List.set ((List.set ((List.set ((List.set (((List.set ((List.set (((List.set ((List.set (((List.set ((List.set ((z_z8)) ((z_L0 i0 u0)).toNatClampNeg (.int (1 : Int32)))) (((z_L0 i0 u0) ^^^ (1 : Int32))).toNatClampNeg (.int (-1 : Int32))))) ((z_L1 i0 v0)).toNatClampNeg (.int (1 : Int32)))) (((z_L1 i0 v0) ^^^ (1 : Int32))).toNatClampNeg (.int (-1 : Int32))))) ((z_L2 i0 w0)).toNatClampNeg (.int (1 : Int32)))) (((z_L2 i0 w0) ^^^ (1 : Int32))).toNatClampNeg (.int (-1 : Int32))))) ((z_L2 i0 w0)).toNatClampNeg (.int (0 : Int32)))) (((z_L2 i0 w0) ^^^ (1 : Int32))).toNatClampNeg (.int (0 : Int32)))) ((z_L1 i0 v0)).toNatClampNeg (.int (0 : Int32)))) (((z_L1 i0 v0) ^^^ (1 : Int32))).toNatClampNeg (.int (0 : Int32)))) ((z_L0 i0 u0)).toNatClampNeg (.int (0 : Int32)))) (((z_L0 i0 u0) ^^^ (1 : Int32))).toNatClampNeg (.int (0 : Int32)))))[(((z_L2 i0 w0) ^^^ (1 : Int32))).toNatClampNeg]? = some (.int (0 : Int32))) := by decide +kernel
theorem z_x78 : ∀ (i0 : Fin 6) (u0 v0 w0 : Fin 2), (((List.set ((List.set ((List.set ((List.set ((List.set ((List.set (((List.set ((List.set (((List.set ((List.set (((List.set ((List.set ((z_z8)) ((z_L0 i0 u0)).toNatClampNeg (.int (1 : Int32)))) (((z_L0 i0 u0) ^^^ (1 : Int32))).toNatClampNeg (.int (-1 : Int32))))) ((z_L1 i0 v0)).toNatClampNeg (.int (1 : Int32)))) (((z_L1 i0 v0) ^^^ (1 : Int32))).toNatClampNeg (.int (-1 : Int32))))) ((z_L2 i0 w0)).toNatClampNeg (.int (1 : Int32)))) (((z_L2 i0 w0) ^^^ (1 : Int32))).toNatClampNeg (.int (-1 : Int32))))) ((z_L2 i0 w0)).toNatClampNeg (.int (0 : Int32)))) (((z_L2 i0 w0) ^^^ (1 : Int32))).toNatClampNeg (.int (0 : Int32)))) ((z_L1 i0 v0)).toNatClampNeg (.int (0 : Int32)))) (((z_L1 i0 v0) ^^^ (1 : Int32))).toNatClampNeg (.int (0 : Int32)))) ((z_L0 i0 u0)).toNatClampNeg (.int (0 : Int32)))) (((z_L0 i0 u0) ^^^ (1 : Int32))).toNatClampNeg (.int (0 : Int32))))[((0 : Int32)).toNatClampNeg]? = some (.int (0 : Int32))) := by decide +kernel
theorem z_x79 : ∀ (i0 : Fin 6) (u0 v0 w0 : Fin 2), (((List.set ((List.set ((List.set ((List.set ((List.set ((List.set (((List.set ((List.set (((List.set ((List.set (((List.set ((List.set ((z_z8)) ((z_L0 i0 u0)).toNatClampNeg (.int (1 : Int32)))) (((z_L0 i0 u0) ^^^ (1 : Int32))).toNatClampNeg (.int (-1 : Int32))))) ((z_L1 i0 v0)).toNatClampNeg (.int (1 : Int32)))) (((z_L1 i0 v0) ^^^ (1 : Int32))).toNatClampNeg (.int (-1 : Int32))))) ((z_L2 i0 w0)).toNatClampNeg (.int (1 : Int32)))) (((z_L2 i0 w0) ^^^ (1 : Int32))).toNatClampNeg (.int (-1 : Int32))))) ((z_L2 i0 w0)).toNatClampNeg (.int (0 : Int32)))) (((z_L2 i0 w0) ^^^ (1 : Int32))).toNatClampNeg (.int (0 : Int32)))) ((z_L1 i0 v0)).toNatClampNeg (.int (0 : Int32)))) (((z_L1 i0 v0) ^^^ (1 : Int32))).toNatClampNeg (.int (0 : Int32)))) ((z_L0 i0 u0)).toNatClampNeg (.int (0 : Int32)))) (((z_L0 i0 u0) ^^^ (1 : Int32))).toNatClampNeg (.int (0 : Int32))))[((1 : Int32)).toNatClampNeg]? = some (.int (0 : Int32))) := by decide +kernel
theorem z_T3_0 (i0 : Fin 6) (u0 v0 w0 : Fin 2) : z_R3_0 (z_L0 i0 u0) (z_L1 i0 v0) (z_L2 i0 w0) := ⟨z_x0 i0 u0 v0 w0, z_x14 i0 u0 v0 w0, z_x2 i0 u0 v0 w0, z_x15 i0 u0 v0 w0, z_x4 i0 u0 v0 w0, z_x34 i0 u0 v0 w0, z_x6 i0 u0 v0 w0, z_x35 i0 u0 v0 w0, z_x8 i0 u0 v0 w0, z_x64 i0 u0 v0 w0, z_x10 i0 u0 v0 w0, z_x65 i0 u0 v0 w0, z_x66 i0 u0 v0 w0, z_x67 i0 u0 v0 w0, z_x68 i0 u0 v0 w0, z_x69 i0 u0 v0 w0, z_x70 i0 u0 v0 w0, z_x71 i0 u0 v0 w0, z_x72 i0 u0 v0 w0, z_x73 i0 u0 v0 w0, z_x74 i0 u0 v0 w0, z_x75 i0 u0 v0 w0, z_x76 i0 u0 v0 w0, z_x77 i0 u0 v0 w0, z_x78 i0 u0 v0 w0, z_x79 i0 u0 v0 w0⟩
theorem z_x80 : ∀ (i0 : Fin 6) (u0 v0 w0 : Fin 2), ((((List.set ((List.set ((List.set ((List.set (((List.set ((List.set (((List.set ((List.set (((List.set ((List.set ((z_z8)) ((z_L0 i0 u0)).toNatClampNeg (.int (1 : Int32)))) (((z_L0 i0 u0) ^^^ (1 : Int32))).toNatClampNeg (.int (-1 : Int32))))) ((z_L1 i0 v0)).toNatClampNeg (.int (1 : Int32)))) (((z_L1 i0 v0) ^^^ (1 : Int32))).toNatClampNeg (.int (-1 : Int32))))) ((z_L2 i0 w0)).toNatClampNeg (.int (1 : Int32)))) (((z_L2 i0 w0) ^^^ (1 : Int32))).toNatClampNeg (.int (-1 : Int32))))) ((z_L2 i0 w0)).toNatClampNeg (.int (0 : Int32)))) (((z_L2 i0 w0) ^^^ (1 : Int32))).toNatClampNeg (.int (0 : Int32)))) ((z_L1 i0 v0)).toNatClampNeg (.int (0 : Int32)))) (((z_L1 i0 v0) ^^^ (1 : Int32))).toNatClampNeg (.int (0 : Int32)))))[((z_L0 i0 u0)).toNatClampNeg]? = some (.int (1 : Int32))) := by decide +kernel
theorem z_x81 : ∀ (i0 : Fin 6) (u0 v0 w0 : Fin 2), ((((List.set ((List.set ((List.set ((List.set (((List.set ((List.set (((List.set ((List.set (((List.set ((List.set ((z_z8)) ((z_L0 i0 u0)).toNatClampNeg (.int (1 : Int32)))) (((z_L0 i0 u0) ^^^ (1 : Int32))).toNatClampNeg (.int (-1 : Int32))))) ((z_L1 i0 v0)).toNatClampNeg (.int (1 : Int32)))) (((z_L1 i0 v0) ^^^ (1 : Int32))).toNatClampNeg (.int (-1 : Int32))))) ((z_L2 i0 w0)).toNatClampNeg (.int (1 : Int32)))) (((z_L2 i0 w0) ^^^ (1 : Int32))).toNatClampNeg (.int (-1 : Int32))))) ((z_L2 i0 w0)).toNatClampNeg (.int (0 : Int32)))) (((z_L2 i0 w0) ^^^ (1 : Int32))).toNatClampNeg (.int (0 : Int32)))) ((z_L1 i0 v0)).toNatClampNeg (.int (0 : Int32)))) (((z_L1 i0 v0) ^^^ (1 : Int32))).toNatClampNeg (.int (0 : Int32)))))[(((z_L0 i0 u0) ^^^ (1 : Int32))).toNatClampNeg]? = some (.int (-1 : Int32))) := by decide +kernel
theorem z_x82 : ∀ (i0 : Fin 6) (u0 v0 w0 : Fin 2), ((((List.set ((List.set ((List.set ((List.set (((List.set ((List.set (((List.set ((List.set (((List.set ((List.set ((z_z8)) ((z_L0 i0 u0)).toNatClampNeg (.int (1 : Int32)))) (((z_L0 i0 u0) ^^^ (1 : Int32))).toNatClampNeg (.int (-1 : Int32))))) ((z_L1 i0 v0)).toNatClampNeg (.int (1 : Int32)))) (((z_L1 i0 v0) ^^^ (1 : Int32))).toNatClampNeg (.int (-1 : Int32))))) ((z_L2 i0 w0)).toNatClampNeg (.int (1 : Int32)))) (((z_L2 i0 w0) ^^^ (1 : Int32))).toNatClampNeg (.int (-1 : Int32))))) ((z_L2 i0 w0)).toNatClampNeg (.int (0 : Int32)))) (((z_L2 i0 w0) ^^^ (1 : Int32))).toNatClampNeg (.int (0 : Int32)))) ((z_L1 i0 v0)).toNatClampNeg (.int (0 : Int32)))) (((z_L1 i0 v0) ^^^ (1 : Int32))).toNatClampNeg (.int (0 : Int32)))))[((z_L1 i0 v0)).toNatClampNeg]? = some (.int (0 : Int32))) := by decide +kernel
theorem z_x83 : ∀ (i0 : Fin 6) (u0 v0 w0 : Fin 2), ((((List.set ((List.set ((List.set ((List.set (((List.set ((List.set (((List.set ((List.set (((List.set ((List.set ((z_z8)) ((z_L0 i0 u0)).toNatClampNeg (.int (1 : Int32)))) (((z_L0 i0 u0) ^^^ (1 : Int32))).toNatClampNeg (.int (-1 : Int32))))) ((z_L1 i0 v0)).toNatClampNeg (.int (1 : Int32)))) (((z_L1 i0 v0) ^^^ (1 : Int32))).toNatClampNeg (.int (-1 : Int32))))) ((z_L2 i0 w0)).toNatClampNeg (.int (1 : Int32)))) (((z_L2 i0 w0) ^^^ (1 : Int32))).toNatClampNeg (.int (-1 : Int32))))) ((z_L2 i0 w0)).toNatClampNeg (.int (0 : Int32)))) (((z_L2 i0 w0) ^^^ (1 : Int32))).toNatClampNeg (.int (0 : Int32)))) ((z_L1 i0 v0)).toNatClampNeg (.int (0 : Int32)))) (((z_L1 i0 v0) ^^^ (1 : Int32))).toNatClampNeg (.int (0 : Int32)))))[(((z_L1 i0 v0) ^^^ (1 : Int32))).toNatClampNeg]? = some (.int (0 : Int32))) := by decide +kernel
theorem z_x84 : ∀ (i0 : Fin 6) (u0 v0 w0 : Fin 2), ((((List.set ((List.set ((List.set ((List.set (((List.set ((List.set (((List.set ((List.set (((List.set ((List.set ((z_z8)) ((z_L0 i0 u0)).toNatClampNeg (.int (1 : Int32)))) (((z_L0 i0 u0) ^^^ (1 : Int32))).toNatClampNeg (.int (-1 : Int32))))) ((z_L1 i0 v0)).toNatClampNeg (.int (1 : Int32)))) (((z_L1 i0 v0) ^^^ (1 : Int32))).toNatClampNeg (.int (-1 : Int32))))) ((z_L2 i0 w0)).toNatClampNeg (.int (1 : Int32)))) (((z_L2 i0 w0) ^^^ (1 : Int32))).toNatClampNeg (.int (-1 : Int32))))) ((z_L2 i0 w0)).toNatClampNeg (.int (0 : Int32)))) (((z_L2 i0 w0) ^^^ (1 : Int32))).toNatClampNeg (.int (0 : Int32)))) ((z_L1 i0 v0)).toNatClampNeg (.int (0 : Int32)))) (((z_L1 i0 v0) ^^^ (1 : Int32))).toNatClampNeg (.int (0 : Int32)))))[((z_L2 i0 w0)).toNatClampNeg]? = some (.int (0 : Int32))) := by decide +kernel
theorem z_x85 : ∀ (i0 : Fin 6) (u0 v0 w0 : Fin 2), ((((List.set ((List.set ((List.set ((List.set (((List.set ((List.set (((List.set ((List.set (((List.set ((List.set ((z_z8)) ((z_L0 i0 u0)).toNatClampNeg (.int (1 : Int32)))) (((z_L0 i0 u0) ^^^ (1 : Int32))).toNatClampNeg (.int (-1 : Int32))))) ((z_L1 i0 v0)).toNatClampNeg (.int (1 : Int32)))) (((z_L1 i0 v0) ^^^ (1 : Int32))).toNatClampNeg (.int (-1 : Int32))))) ((z_L2 i0 w0)).toNatClampNeg (.int (1 : Int32)))) (((z_L2 i0 w0) ^^^ (1 : Int32))).toNatClampNeg (.int (-1 : Int32))))) ((z_L2 i0 w0)).toNatClampNeg (.int (0 : Int32)))) (((z_L2 i0 w0) ^^^ (1 : Int32))).toNatClampNeg (.int (0 : Int32)))) ((z_L1 i0 v0)).toNatClampNeg (.int (0 : Int32)))) (((z_L1 i0 v0) ^^^ (1 : Int32))).toNatClampNeg (.int (0 : Int32)))))[(((z_L2 i0 w0) ^^^ (1 : Int32))).toNatClampNeg]? = some (.int (0 : Int32))) := by decide +kernel
theorem z_x86 : ∀ (i0 : Fin 6) (u0 v0 w0 : Fin 2), (((List.set ((List.set ((List.set ((List.set (((List.set ((List.set (((List.set ((List.set (((List.set ((List.set ((z_z8)) ((z_L0 i0 u0)).toNatClampNeg (.int (1 : Int32)))) (((z_L0 i0 u0) ^^^ (1 : Int32))).toNatClampNeg (.int (-1 : Int32))))) ((z_L1 i0 v0)).toNatClampNeg (.int (1 : Int32)))) (((z_L1 i0 v0) ^^^ (1 : Int32))).toNatClampNeg (.int (-1 : Int32))))) ((z_L2 i0 w0)).toNatClampNeg (.int (1 : Int32)))) (((z_L2 i0 w0) ^^^ (1 : Int32))).toNatClampNeg (.int (-1 : Int32))))) ((z_L2 i0 w0)).toNatClampNeg (.int (0 : Int32)))) (((z_L2 i0 w0) ^^^ (1 : Int32))).toNatClampNeg (.int (0 : Int32)))) ((z_L1 i0 v0)).toNatClampNeg (.int (0 : Int32)))) (((z_L1 i0 v0) ^^^ (1 : Int32))).toNatClampNeg (.int (0 : Int32))))[((0 : Int32)).toNatClampNeg]? = some (.int (0 : Int32))) := by decide +kernel
theorem z_x87 : ∀ (i0 : Fin 6) (u0 v0 w0 : Fin 2), (((List.set ((List.set ((List.set ((List.set (((List.set ((List.set (((List.set ((List.set (((List.set ((List.set ((z_z8)) ((z_L0 i0 u0)).toNatClampNeg (.int (1 : Int32)))) (((z_L0 i0 u0) ^^^ (1 : Int32))).toNatClampNeg (.int (-1 : Int32))))) ((z_L1 i0 v0)).toNatClampNeg (.int (1 : Int32)))) (((z_L1 i0 v0) ^^^ (1 : Int32))).toNatClampNeg (.int (-1 : Int32))))) ((z_L2 i0 w0)).toNatClampNeg (.int (1 : Int32)))) (((z_L2 i0 w0) ^^^ (1 : Int32))).toNatClampNeg (.int (-1 : Int32))))) ((z_L2 i0 w0)).toNatClampNeg (.int (0 : Int32)))) (((z_L2 i0 w0) ^^^ (1 : Int32))).toNatClampNeg (.int (0 : Int32)))) ((z_L1 i0 v0)).toNatClampNeg (.int (0 : Int32)))) (((z_L1 i0 v0) ^^^ (1 : Int32))).toNatClampNeg (.int (0 : Int32))))[((1 : Int32)).toNatClampNeg]? = some (.int (0 : Int32))) := by decide +kernel
theorem z_T3_1 (i0 : Fin 6) (u0 v0 w0 : Fin 2) : z_R3_1 (z_L0 i0 u0) (z_L1 i0 v0) (z_L2 i0 w0) := ⟨z_x0 i0 u0 v0 w0, z_x14 i0 u0 v0 w0, z_x2 i0 u0 v0 w0, z_x15 i0 u0 v0 w0, z_x4 i0 u0 v0 w0, z_x34 i0 u0 v0 w0, z_x6 i0 u0 v0 w0, z_x35 i0 u0 v0 w0, z_x8 i0 u0 v0 w0, z_x64 i0 u0 v0 w0, z_x10 i0 u0 v0 w0, z_x65 i0 u0 v0 w0, z_x66 i0 u0 v0 w0, z_x67 i0 u0 v0 w0, z_x68 i0 u0 v0 w0, z_x69 i0 u0 v0 w0, z_x80 i0 u0 v0 w0, z_x81 i0 u0 v0 w0, z_x82 i0 u0 v0 w0, z_x83 i0 u0 v0 w0, z_x84 i0 u0 v0 w0, z_x85 i0 u0 v0 w0, z_x86 i0 u0 v0 w0, z_x87 i0 u0 v0 w0⟩
theorem z_x88 : ∀ (i0 : Fin 6) (u0 v0 w0 : Fin 2), ((((List.set ((List.set (((List.set ((List.set (((List.set ((List.set (((List.set ((List.set ((z_z8)) ((z_L0 i0 u0)).toNatClampNeg (.int (1 : Int32)))) (((z_L0 i0 u0) ^^^ (1 : Int32))).toNatClampNeg (.int (-1 : Int32))))) ((z_L1 i0 v0)).toNatClampNeg (.int (1 : Int32)))) (((z_L1 i0 v0) ^^^ (1 : Int32))).toNatClampNeg (.int (-1 : Int32))))) ((z_L2 i0 w0)).toNatClampNeg (.int (1 : Int32)))) (((z_L2 i0 w0) ^^^ (1 : Int32))).toNatClampNeg (.int (-1 : Int32))))) ((z_L2 i0 w0)).toNatClampNeg (.int (0 : Int32)))) (((z_L2 i0 w0) ^^^ (1 : Int32))).toNatClampNeg (.int (0 : Int32)))))[((z_L0 i0 u0)).toNatClampNeg]? = some (.int (1 : Int32))) := by decide +kernel
theorem z_x89 : ∀ (i0 : Fin 6) (u0 v0 w0 : Fin 2), ((((List.set ((List.set (((List.set ((List.set (((List.set ((List.set (((List.set ((List.set ((z_z8)) ((z_L0 i0 u0)).toNatClampNeg (.int (1 : Int32)))) (((z_L0 i0 u0) ^^^ (1 : Int32))).toNatClampNeg (.int (-1 : Int32))))) ((z_L1 i0 v0)).toNatClampNeg (.int (1 : Int32)))) (((z_L1 i0 v0) ^^^ (1 : Int32))).toNatClampNeg (.int (-1 : Int32))))) ((z_L2 i0 w0)).toNatClampNeg (.int (1 : Int32)))) (((z_L2 i0 w0) ^^^ (1 : Int32))).toNatClampNeg (.int (-1 : Int32))))) ((z_L2 i0 w0)).toNatClampNeg (.int (0 : Int32)))) (((z_L2 i0 w0) ^^^ (1 : Int32))).toNatClampNeg (.int (0 : Int32)))))[(((z_L0 i0 u0) ^^^ (1 : Int32))).toNatClampNeg]? = some (.int (-1 : Int32))) := by decide +kernel
theorem z_x90 : ∀ (i0 : Fin 6) (u0 v0 w0 : Fin 2), ((((List.set ((List.set (((List.set ((List.set (((List.set ((List.set (((List.set ((List.set ((z_z8)) ((z_L0 i0 u0)).toNatClampNeg (.int (1 : Int32)))) (((z_L0 i0 u0) ^^^ (1 : Int32))).toNatClampNeg (.int (-1 : Int32))))) ((z_L1 i0 v0)).toNatClampNeg (.int (1 : Int32)))) (((z_L1 i0 v0) ^^^ (1 : Int32))).toNatClampNeg (.int (-1 : Int32))))) ((z_L2 i0 w0)).toNatClampNeg (.int (1 : Int32)))) (((z_L2 i0 w0) ^^^ (1 : Int32))).toNatClampNeg (.int (-1 : Int32))))) ((z_L2 i0 w0)).toNatClampNeg (.int (0 : Int32)))) (((z_L2 i0 w0) ^^^ (1 : Int32))).toNatClampNeg (.int (0 : Int32)))))[((z_L1 i0 v0)).toNatClampNeg]? = some (.int (1 : Int32))) := by decide +kernel
theorem z_x91 : ∀ (i0 : Fin 6) (u0 v0 w0 : Fin 2), ((((List.set ((List.set (((List.set ((List.set (((List.set ((List.set (((List.set ((List.set ((z_z8)) ((z_L0 i0 u0)).toNatClampNeg (.int (1 : Int32)))) (((z_L0 i0 u0) ^^^ (1 : Int32))).toNatClampNeg (.int (-1 : Int32))))) ((z_L1 i0 v0)).toNatClampNeg (.int (1 : Int32)))) (((z_L1 i0 v0) ^^^ (1 : Int32))).toNatClampNeg (.int (-1 : Int32))))) ((z_L2 i0 w0)).toNatClampNeg (.int (1 : Int32)))) (((z_L2 i0 w0) ^^^ (1 : Int32))).toNatClampNeg (.int (-1 : Int32))))) ((z_L2 i0 w0)).toNatClampNeg (.int (0 : Int32)))) (((z_L2 i0 w0) ^^^ (1 : Int32))).toNatClampNeg (.int (0 : Int32)))))[(((z_L1 i0 v0) ^^^ (1 : Int32))).toNatClampNeg]? = some (.int (-1 : Int32))) := by decide +kernel
theorem z_x92 : ∀ (i0 : Fin 6) (u0 v0 w0 : Fin 2), ((((List.set ((List.set (((List.set ((List.set (((List.set ((List.set (((List.set ((List.set ((z_z8)) ((z_L0 i0 u0)).toNatClampNeg (.int (1 : Int32)))) (((z_L0 i0 u0) ^^^ (1 : Int32))).toNatClampNeg (.int (-1 : Int32))))) ((z_L1 i0 v0)).toNatClampNeg (.int (1 : Int32)))) (((z_L1 i0 v0) ^^^ (1 : Int32))).toNatClampNeg (.int (-1 : Int32))))) ((z_L2 i0 w0)).toNatClampNeg (.int (1 : Int32)))) (((z_L2 i0 w0) ^^^ (1 : Int32))).toNatClampNeg (.int (-1 : Int32))))) ((z_L2 i0 w0)).toNatClampNeg (.int (0 : Int32)))) (((z_L2 i0 w0) ^^^ (1 : Int32))).toNatClampNeg (.int (0 : Int32)))))[((z_L2 i0 w0)).toNatClampNeg]? = some (.int (0 : Int32))) := by decide +kernel
theorem z_x93 : ∀ (i0 : Fin 6) (u0 v0 w0 : Fin 2), ((((List.set ((List.set (((List.set ((List.set (((List.set ((List.set (((List.set ((List.set ((z_z8)) ((z_L0 i0 u0)).toNatClampNeg (.int (1 : Int32)))) (((z_L0 i0 u0) ^^^ (1 : Int32))).toNatClampNeg (.int (-1 : Int32))))) ((z_L1 i0 v0)).toNatClampNeg (.int (1 : Int32)))) (((z_L1 i0 v0) ^^^ (1 : Int32))).toNatClampNeg (.int (-1 : Int32))))) ((z_L2 i0 w0)).toNatClampNeg (.int (1 : Int32)))) (((z_L2 i0 w0) ^^^ (1 : Int32))).toNatClampNeg (.int (-1 : Int32))))) ((z_L2 i0 w0)).toNatClampNeg (.int (0 : Int32)))) (((z_L2 i0 w0) ^^^ (1 : Int32))).toNatClampNeg (.int (0 : Int32)))))[(((z_L2 i0 w0) ^^^ (1 : Int32))).toNatClampNeg]? = some (.int (0 : Int32))) := by decide +kernel
theorem z_x94 : ∀ (i0 : Fin 6) (u0 v0 w0 : Fin 2), (((List.set ((List.set (((List.set ((List.set (((List.set ((List.set (((List.set ((List.set ((z_z8)) ((z_L0 i0 u0)).toNatClampNeg (.int (1 : Int32)))) (((z_L0 i0 u0) ^^^ (1 : Int32))).toNatClampNeg (.int (-1 : Int32))))) ((z_L1 i0 v0)).toNatClampNeg (.int (1 : Int32)))) (((z_L1 i0 v0) ^^^ (1 : Int32))).toNatClampNeg (.int (-1 : Int32))))) ((z_L2 i0 w0)).toNatClampNeg (.int (1 : Int32)))) (((z_L2 i0 w0) ^^^ (1 : Int32))).toNatClampNeg (.int (-1 : Int32))))) ((z_L2 i0 w0)).toNatClampNeg (.int (0 : Int32)))) (((z_L2 i0 w0) ^^^ (1 : Int32))).toNatClampNeg (.int (0 : Int32))))[((0 : Int32)).toNatClampNeg]? = some (.int (0 : Int32))) := by decide +kernel
theorem z_x95 : ∀ (i0 : Fin 6) (u0 v0 w0 : Fin 2), (((List.set ((List.set (((List.set ((List.set (((List.set ((List.set (((List.set ((List.set ((z_z8)) ((z_L0 i0 u0)).toNatClampNeg (.int (1 : Int32)))) (((z_L0 i0 u0) ^^^ (1 : Int32))).toNatClampNeg (.int (-1 : Int32))))) ((z_L1 i0 v0)).toNatClampNeg (.int (1 : Int32)))) (((z_L1 i0 v0) ^^^ (1 : Int32))).toNatClampNeg (.int (-1 : Int32))))) ((z_L2 i0 w0)).toNatClampNeg (.int (1 : Int32)))) (((z_L2 i0 w0) ^^^ (1 : Int32))).toNatClampNeg (.int (-1 : Int32))))) ((z_L2 i0 w0)).toNatClampNeg (.int (0 : Int32)))) (((z_L2 i0 w0) ^^^ (1 : Int32))).toNatClampNeg (.int (0 : Int32))))[((1 : Int32)).toNatClampNeg]? = some (.int (0 : Int32))) := by decide +kernel
theorem z_T3_2 (i0 : Fin 6) (u0 v0 w0 : Fin 2) : z_R3_2 (z_L0 i0 u0) (z_L1 i0 v0) (z_L2 i0 w0) := ⟨z_x0 i0 u0 v0 w0, z_x14 i0 u0 v0 w0, z_x2 i0 u0 v0 w0, z_x15 i0 u0 v0 w0, z_x4 i0 u0 v0 w0, z_x34 i0 u0 v0 w0, z_x6 i0 u0 v0 w0, z_x35 i0 u0 v0 w0, z_x8 i0 u0 v0 w0, z_x64 i0 u0 v0 w0, z_x10 i0 u0 v0 w0, z_x65 i0 u0 v0 w0, z_x66 i0 u0 v0 w0, z_x67 i0 u0 v0 w0, z_x88 i0 u0 v0 w0, z_x89 i0 u0 v0 w0, z_x90 i0 u0 v0 w0, z_x91 i0 u0 v0 w0, z_x92 i0 u0 v0 w0, z_x93 i0 u0 v0 w0, z_x94 i0 u0 v0 w0, z_x95 i0 u0 v0 w0⟩
theorem z_x96 : ∀ (i0 : Fin 6) (u0 v0 w0 : Fin 2), ((((List.set ((List.set (((List.set ((List.set (((List.set ((List.set ((z_z8)) ((z_L0 i0 u0)).toNatClampNeg (.int (1 : Int32)))) (((z_L0 i0 u0) ^^^ (1 : Int32))).toNatClampNeg (.int (-1 : Int32))))) ((z_L1 i0 v0)).toNatClampNeg (.int (1 : Int32)))) (((z_L1 i0 v0) ^^^ (1 : Int32))).toNatClampNeg (.int (-1 : Int32))))) ((z_L2 i0 w0)).toNatClampNeg (.int (1 : Int32)))) (((z_L2 i0 w0) ^^^ (1 : Int32))).toNatClampNeg (.int (-1 : Int32)))))[((z_L0 i0 u0)).toNatClampNeg]? = some (.int (1 : Int32))) := by decide +kernel
theorem z_x97 : ∀ (i0 : Fin 6) (u0 v0 w0 : Fin 2), ((((List.set ((List.set (((List.set ((List.set (((List.set ((List.set ((z_z8)) ((z_L0 i0 u0)).toNatClampNeg (.int (1 : Int32)))) (((z_L0 i0 u0) ^^^ (1 : Int32))).toNatClampNeg (.int (-1 : Int32))))) ((z_L1 i0 v0)).toNatClampNeg (.int (1 : Int32)))) (((z_L1 i0 v0) ^^^ (1 : Int32))).toNatClampNeg (.int (-1 : Int32))))) ((z_L2 i0 w0)).toNatClampNeg (.int (1 : Int32)))) (((z_L2 i0 w0) ^^^ (1 : Int32))).toNatClampNeg (.int (-1 : Int32)))))[(((z_L0 i0 u0) ^^^ (1 : Int32))).toNatClampNeg]? = some (.int (-1 : Int32))) := by decide +kernel
theorem z_x98 : ∀ (i0 : Fin 6) (u0 v0 w0 : Fin 2), ((((List.set ((List.set (((List.set ((List.set (((List.set ((List.set ((z_z8)) ((z_L0 i0 u0)).toNatClampNeg (.int (1 : Int32)))) (((z_L0 i0 u0) ^^^ (1 : Int32))).toNatClampNeg (.int (-1 : Int32))))) ((z_L1 i0 v0)).toNatClampNeg (.int (1 : Int32)))) (((z_L1 i0 v0) ^^^ (1 : Int32))).toNatClampNeg (.int (-1 : Int32))))) ((z_L2 i0 w0)).toNatClampNeg (.int (1 : Int32)))) (((z_L2 i0 w0) ^^^ (1 : Int32))).toNatClampNeg (.int (-1 : Int32)))))[((z_L1 i0 v0)).toNatClampNeg]? = some (.int (1 : Int32))) := by decide +kernel
theorem z_x99 : ∀ (i0 : Fin 6) (u0 v0 w0 : Fin 2), ((((List.set ((List.set (((List.set ((List.set (((List.set ((List.set ((z_z8)) ((z_L0 i0 u0)).toNatClampNeg (.int (1 : Int32)))) (((z_L0 i0 u0) ^^^ (1 : Int32))).toNatClampNeg (.int (-1 : Int32))))) ((z_L1 i0 v0)).toNatClampNeg (.int (1 : Int32)))) (((z_L1 i0 v0) ^^^ (1 : Int32))).toNatClampNeg (.int (-1 : Int32))))) ((z_L2 i0 w0)).toNatClampNeg (.int (1 : Int32)))) (((z_L2 i0 w0) ^^^ (1 : Int32))).toNatClampNeg (.int (-1 : Int32)))))[(((z_L1 i0 v0) ^^^ (1 : Int32))).toNatClampNeg]? = some (.int (-1 : Int32))) := by decide +kernel
theorem z_x100 : ∀ (i0 : Fin 6) (u0 v0 w0 : Fin 2), ((((List.set ((List.set (((List.set ((List.set (((List.set ((List.set ((z_z8)) ((z_L0 i0 u0)).toNatClampNeg (.int (1 : Int32)))) (((z_L0 i0 u0) ^^^ (1 : Int32))).toNatClampNeg (.int (-1 : Int32))))) ((z_L1 i0 v0)).toNatClampNeg (.int (1 : Int32)))) (((z_L1 i0 v0) ^^^ (1 : Int32))).toNatClampNeg (.int (-1 : Int32))))) ((z_L2 i0 w0)).toNatClampNeg (.int (1 : Int32)))) (((z_L2 i0 w0) ^^^ (1 : Int32))).toNatClampNeg (.int (-1 : Int32)))))[((z_L2 i0 w0)).toNatClampNeg]? = some (.int (1 : Int32))) := by decide +kernel
theorem z_x101 : ∀ (i0 : Fin 6) (u0 v0 w0 : Fin 2), ((((List.set ((List.set (((List.set ((List.set (((List.set ((List.set ((z_z8)) ((z_L0 i0 u0)).toNatClampNeg (.int (1 : Int32)))) (((z_L0 i0 u0) ^^^ (1 : Int32))).toNatClampNeg (.int (-1 : Int32))))) ((z_L1 i0 v0)).toNatClampNeg (.int (1 : Int32)))) (((z_L1 i0 v0) ^^^ (1 : Int32))).toNatClampNeg (.int (-1 : Int32))))) ((z_L2 i0 w0)).toNatClampNeg (.int (1 : Int32)))) (((z_L2 i0 w0) ^^^ (1 : Int32))).toNatClampNeg (.int (-1 : Int32)))))[(((z_L2 i0 w0) ^^^ (1 : Int32))).toNatClampNeg]? = some (.int (-1 : Int32))) := by decide +kernel
theorem z_x102 : ∀ (i0 : Fin 6) (u0 v0 w0 : Fin 2), (((List.set ((List.set (((List.set ((List.set (((List.set ((List.set ((z_z8)) ((z_L0 i0 u0)).toNatClampNeg (.int (1 : Int32)))) (((z_L0 i0 u0) ^^^ (1 : Int32))).toNatClampNeg (.int (-1 : Int32))))) ((z_L1 i0 v0)).toNatClampNeg (.int (1 : Int32)))) (((z_L1 i0 v0) ^^^ (1 : Int32))).toNatClampNeg (.int (-1 : Int32))))) ((z_L2 i0 w0)).toNatClampNeg (.int (1 : Int32)))) (((z_L2 i0 w0) ^^^ (1 : Int32))).toNatClampNeg (.int (-1 : Int32))))[((0 : Int32)).toNatClampNeg]? = some (.int (0 : Int32))) := by decide +kernel
theorem z_x103 : ∀ (i0 : Fin 6) (u0 v0 w0 : Fin 2), (((List.set ((List.set (((List.set ((List.set (((List.set ((List.set ((z_z8)) ((z_L0 i0 u0)).toNatClampNeg (.int (1 : Int32)))) (((z_L0 i0 u0) ^^^ (1 : Int32))).toNatClampNeg (.int (-1 : Int32))))) ((z_L1 i0 v0)).toNatClampNeg (.int (1 : Int32)))) (((z_L1 i0 v0) ^^^ (1 : Int32))).toNatClampNeg (.int (-1 : Int32))))) ((z_L2 i0 w0)).toNatClampNeg (.int (1 : Int32)))) (((z_L2 i0 w0) ^^^ (1 : Int32))).toNatClampNeg (.int (-1 : Int32))))[((1 : Int32)).toNatClampNeg]? = some (.int (0 : Int32))) := by decide +kernel
theorem z_T3_3 (i0 : Fin 6) (u0 v0 w0 : Fin 2) : z_R3_3 (z_L0 i0 u0) (z_L1 i0 v0) (z_L2 i0 w0) := ⟨z_x0 i0 u0 v0 w0, z_x14 i0 u0 v0 w0, z_x2 i0 u0 v0 w0, z_x15 i0 u0 v0 w0, z_x4 i0 u0 v0 w0, z_x34 i0 u0 v0 w0, z_x6 i0 u0 v0 w0, z_x35 i0 u0 v0 w0, z_x8 i0 u0 v0 w0, z_x64 i0 u0 v0 w0, z_x10 i0 u0 v0 w0, z_x65 i0 u0 v0 w0, z_x96 i0 u0 v0 w0, z_x97 i0 u0 v0 w0, z_x98 i0 u0 v0 w0, z_x99 i0 u0 v0 w0, z_x100 i0 u0 v0 w0, z_x101 i0 u0 v0 w0, z_x102 i0 u0 v0 w0, z_x103 i0 u0 v0 w0⟩
def z_St (Z : State) (a_DEF a_ONE a_NONE : Nat) : Prop := z_Sx Z "java/util/ArrayList" "DEFAULTCAPACITY_EMPTY_ELEMENTDATA" "[Ljava/lang/Object;" a_DEF (z_Ar Z Z.heap a_DEF (.object "java/lang/Object") "[Ljava/lang/Object;" "" []) ∧ z_Sx Z "java/math/BigInteger" "ONE" "Ljava/math/BigInteger;" a_ONE (z_Ob Z Z.heap a_ONE "java/math/BigInteger" z_layB [(.int (1 : Int32))]) ∧ z_Sx Z "com/example/variegate/variegate/service/Propagation" "NONE" "[I" a_NONE (z_Ar Z Z.heap a_NONE .int "[I" "" [])
set_option maxHeartbeats 2000000 in
theorem z_c5_0 (l : Launch) {Z : State} {a0 : Array Value} (hw : ∀ d ∈ tables_1, d.before a0 Z = true) {n0 : Nat} {h : Heap} {a_DEF a_ONE a_NONE : Nat} (S : z_St Z a_DEF a_ONE a_NONE) (z0 : n0 ≤ h.size) (old : Old Z n0 h) (p0 : Nat) :
    z_Met l Z (⟨"java/util/AbstractCollection", "<init>", "()V"⟩ : MethodName) jdk_22_method_1_code 1 none [] ({ frames := 1, cells := 0, slots := 0, locals := 12 } : Room) n0 #[(.ref p0)] h (z_nov fun h' => Keep h h' []) := by
  refine z_met (Ls := #[.val (.ref p0)]) (by first | exact plainFor_of_name (by first | (simp [plainName, overriddenIn]; done) | decide +kernel) | decide +kernel) rfl ?_
  intro p e s m below meth c C
  refine z_aloadN C z_d5_0 rfl rfl 1 rfl ?_
  refine z_init0 C (z_w hw 27 rfl) (z_w hw 7 rfl) (z_w hw 8 rfl) z_d5_1 rfl (W := 0) (Nat.le_of_eq rfl) (by decide) (by decide) 4 rfl ?_
  exact z_return C z_d5_4 (by decide) (by decide) ⟨rfl, (Keep.refl h [])⟩
set_option maxHeartbeats 2000000 in
theorem z_c4_1 (l : Launch) {Z : State} {a0 : Array Value} (hw : ∀ d ∈ tables_1, d.before a0 Z = true) {n0 : Nat} {h : Heap} {a_DEF a_ONE a_NONE : Nat} (S : z_St Z a_DEF a_ONE a_NONE) (z0 : n0 ≤ h.size) (old : Old Z n0 h) (p0 : Nat) (o_p0 : z_Ob Z h p0 "java/util/ArrayList" z_lay1 [(.int (0 : Int32)), .null, (.int (0 : Int32))]) (g_p0 : n0 ≤ p0) :
    z_Met l Z (⟨"java/util/AbstractList", "<init>", "()V"⟩ : MethodName) jdk_39_method_1_code 1 none [] ({ frames := 2, cells := 0, slots := 0, locals := 24 } : Room) n0 #[(.ref p0)] h (z_nov fun h' => Keep h h' [p0] ∧ z_Ob Z h' p0 "java/util/ArrayList" z_lay1 [(.int (0 : Int32)), .null, (.int (0 : Int32))]) := by
  refine z_met (Ls := #[.val (.ref p0)]) (by first | exact plainFor_of_name (by first | (simp [plainName, overriddenIn]; done) | decide +kernel) | decide +kernel) rfl ?_
  intro p e s m below meth c C
  refine z_aloadN C z_d4_0 rfl rfl 1 rfl ?_
  refine z_callI C rfl (z_c5_0 l hw S (by omega) old p0) (z_w hw 21 rfl) (z_w hw 22 rfl) (z_w hw 25 rfl) (z_w hw 26 rfl) (by decide) z_d4_1 rfl (argsL := []) (rest := []) rfl (lenOf z_pd0 rfl) (W := 0) (Nat.le_of_eq rfl) (by decide) (by decide) (by decide) (by decide) 4 rfl ?_
  rintro h1 K1
  have s1 : h.size ≤ h1.size := K1.1
  have k1 : Keep h h1 [p0] := (Keep.refl h [p0]).trans K1 all0
  refine z_aloadN C z_d4_4 rfl rfl 5 rfl ?_
  refine z_iconst C (v := (0 : Int32)) z_d4_5 (by decide) 6 rfl ?_
  have o_p0_1 := (o_p0.keep K1 nin0)
  refine z_putO C (z_w hw 28 rfl) Via.refl o_p0_1 (z_lay1_ok hw) 0 rfl (vs' := [(.int (0 : Int32)), .null, (.int (0 : Int32))]) rfl (Or.inl (z_w hw 29 rfl)) (z_w hw 10 rfl) (ty := .int) (by decide) (by first | rfl | decide) (by first | rfl | decide) g_p0 z_d4_6 9 rfl ?_
  intro h2 W2 o_p0_2
  have s2 : h2.size = h1.size := W2.size
  have k2 : Keep h h2 [p0] := k1.wr W2 (Or.inl (by simp))
  exact z_return C z_d4_9 (by decide) (by decide) ⟨rfl, k2, o_p0_2⟩
set_option maxHeartbeats 2000000 in
theorem z_c3_2 (l : Launch) {Z : State} {a0 : Array Value} (hw : ∀ d ∈ tables_1, d.before a0 Z = true) {n0 : Nat} {h : Heap} {a_DEF a_ONE a_NONE : Nat} (S : z_St Z a_DEF a_ONE a_NONE) (z0 : n0 ≤ h.size) (old : Old Z n0 h) (p0 : Nat) (o_p0 : z_Ob Z h p0 "java/util/ArrayList" z_lay1 [(.int (0 : Int32)), .null, (.int (0 : Int32))]) (g_p0 : n0 ≤ p0) :
    z_Met l Z (⟨"java/util/ArrayList", "<init>", "()V"⟩ : MethodName) jdk_38_method_2_code 1 none [] ({ frames := 3, cells := 0, slots := 0, locals := 36 } : Room) n0 #[(.ref p0)] h (z_nov fun h' => Keep h h' [p0] ∧ z_Ob Z h' p0 "java/util/ArrayList" z_lay1 [(.int (0 : Int32)), (.ref a_DEF), (.int (0 : Int32))]) := by
  refine z_met (Ls := #[.val (.ref p0)]) (by first | exact plainFor_of_name (by first | (simp [plainName, overriddenIn]; done) | decide +kernel) | decide +kernel) rfl ?_
  intro p e s m below meth c C
  refine z_aloadN C z_d3_0 rfl rfl 1 rfl ?_
  refine z_callI C rfl (z_c4_1 l hw S (by omega) old p0 o_p0 g_p0) (z_w hw 15 rfl) (z_w hw 16 rfl) (z_w hw 19 rfl) (z_w hw 20 rfl) (by decide) z_d3_1 rfl (argsL := []) (rest := []) rfl (lenOf z_pd0 rfl) (W := 0) (Nat.le_of_eq rfl) (by decide) (by decide) (by decide) (by decide) 4 rfl ?_
  rintro h1 ⟨K1, o_p0_1⟩
  have s1 : h.size ≤ h1.size := K1.1
  have k1 : Keep h h1 [p0] := (Keep.refl h [p0]).trans K1 (allS (Or.inl (by simp)) all0)
  refine z_aloadN C z_d3_4 rfl rfl 5 rfl ?_
  have old1 := (old.keep K1 (allS g_p0 all0))
  refine z_getstatic C (z_w hw 30 rfl) (S.1.1.ext old1.2) z_d3_5 8 rfl ?_
  refine z_putO C (z_w hw 31 rfl) Via.refl o_p0_1 (z_lay1_ok hw) 1 rfl (vs' := [(.int (0 : Int32)), (.ref a_DEF), (.int (0 : Int32))]) rfl (Or.inl (z_w hw 32 rfl)) (z_w hw 10 rfl) (ty := (.array (.object "java/lang/Object"))) (by decide) (by first | rfl | decide) (by first | rfl | decide) g_p0 z_d3_8 11 rfl ?_
  intro h2 W2 o_p0_2
  have s2 : h2.size = h1.size := W2.size
  have k2 : Keep h h2 [p0] := k1.wr W2 (Or.inl (by simp))
  exact z_return C z_d3_11 (by decide) (by decide) ⟨rfl, k2, o_p0_2⟩
set_option maxHeartbeats 2000000 in
theorem z_c8_3 (l : Launch) {Z : State} {a0 : Array Value} (hw : ∀ d ∈ tables_1, d.before a0 Z = true) {n0 : Nat} {h : Heap} {a_DEF a_ONE a_NONE : Nat} (S : z_St Z a_DEF a_ONE a_NONE) (z0 : n0 ≤ h.size) (old : Old Z n0 h) :
    z_Met l Z (⟨"java/util/BitSet", "wordIndex", "(I)I"⟩ : MethodName) jdk_92_method_1_code 1 (some .int) [] ({ frames := 0, cells := 0, slots := 0, locals := 0 } : Room) n0 #[(.int (63 : Int32))] h (z_pure (.int (0 : Int32)) h) := by
  refine z_met (Ls := #[.val (.int (63 : Int32))]) (by first | exact plainFor_of_name (by first | (simp [plainName, overriddenIn]; done) | decide +kernel) | decide +kernel) rfl ?_
  intro p e s m below meth c C
  refine z_iloadN C z_d8_0 rfl 1 rfl ?_
  refine z_bipush C (v := (6 : Int32)) z_d8_1 (by decide) 3 rfl ?_
  refine z_ishr C (z := (0 : Int32)) z_d8_3 (by decide) 4 rfl ?_
  exact z_ireturn C (Or.inl rfl) rfl z_d8_4 (by decide) (by decide) ⟨rfl, rfl⟩
set_option maxHeartbeats 2000000 in
theorem z_c7_4 (l : Launch) {Z : State} {a0 : Array Value} (hw : ∀ d ∈ tables_1, d.before a0 Z = true) {n0 : Nat} {h : Heap} {a_DEF a_ONE a_NONE : Nat} (S : z_St Z a_DEF a_ONE a_NONE) (z0 : n0 ≤ h.size) (old : Old Z n0 h) (p0 : Nat) (o_p0 : z_Ob Z h p0 "java/util/BitSet" z_lay2 [(.int (0 : Int32)), (.int (0 : Int32)), .null]) (g_p0 : n0 ≤ p0) :
    z_Met l Z (⟨"java/util/BitSet", "initWords", "(I)V"⟩ : MethodName) jdk_92_method_6_code 2 none [] ({ frames := 1, cells := 1, slots := 1, locals := 13 } : Room) n0 #[(.ref p0), (.int (64 : Int32))] h (z_nov fun h' => ∃ b1 : Nat, Keep h h' [p0] ∧ h.size ≤ b1 ∧ b1 < h'.size ∧ z_Ob Z h' p0 "java/util/BitSet" z_lay2 [(.int (0 : Int32)), (.int (0 : Int32)), (.ref b1)] ∧ z_Ar Z h' b1 .long "[J" "" [(.long 0)]) := by
  have lt_p0 := o_p0.lt
  refine z_met (Ls := #[.val (.ref p0), .val (.int (64 : Int32))]) (by first | exact plainFor_of_name (by first | (simp [plainName, overriddenIn]; done) | decide +kernel) | decide +kernel) rfl ?_
  intro p e s m below meth c C
  refine z_aloadN C z_d7_0 rfl rfl 1 rfl ?_
  refine z_iloadN C z_d7_1 rfl 2 rfl ?_
  refine z_iconst C (v := (1 : Int32)) z_d7_2 (by decide) 3 rfl ?_
  refine z_isub C (z := (63 : Int32)) z_d7_3 (by decide) 4 rfl ?_
  refine z_callSp C (z_c8_3 l hw S (by omega) old) (z_w hw 51 rfl) (z_w hw 52 rfl) (z_w hw 37 rfl) (z_w hw 53 rfl) (by decide) z_d7_4 rfl (argsL := [(.int (63 : Int32))]) (rest := [(.ref p0)]) rfl (lenOf z_pd1 rfl) (W := 1) (Nat.le_of_eq rfl) (by decide) (by decide) (by decide) (by decide) (by decide) (by decide) 7 rfl ?_
  refine z_iconst C (v := (1 : Int32)) z_d7_7 (by decide) 8 rfl ?_
  refine z_iadd C (z := (1 : Int32)) z_d7_8 (by decide) 9 rfl ?_
  refine z_newarray C (aty := .long) (z_w hw 54 rfl) (by decide) (cap := 1) (by decide) (by decide) (ad := "[J") (by decide +kernel) (vs := [(.long 0)]) (by rfl) z_d7_9 (by decide) (by decide) 11 rfl ?_
  intro h1 b1 g1 E1 o_b1
  have s1 : h.size ≤ h1.size := E1.1
  have k1 : Keep h h1 [p0] := (Keep.refl h [p0]).ext E1
  have o_b1 : z_Ar Z h1 b1 .long "[J" "" [(.long 0)] := o_b1
  have t1 := o_b1.lt
  have o_p0_1 := (o_p0.ext E1)
  refine z_putO C (z_w hw 55 rfl) Via.refl o_p0_1 (z_lay2_ok hw) 2 rfl (vs' := [(.int (0 : Int32)), (.int (0 : Int32)), (.ref b1)]) rfl (Or.inl (z_w hw 56 rfl)) (z_w hw 36 rfl) (ty := (.array .long)) (by decide) (by first | rfl | decide) (by first | rfl | decide) g_p0 z_d7_11 14 rfl ?_
  intro h2 W2 o_p0_2
  have s2 : h2.size = h1.size := W2.size
  have k2 : Keep h h2 [p0] := k1.wr W2 (Or.inl (by simp))
  have o_b1_2 := (o_b1.other W2 (by omega : (b1 : Nat) ≠ p0))
  exact z_return C z_d7_14 (by decide) (by decide) ⟨rfl, b1, k2, by omega, by omega, o_p0_2, o_b1_2⟩
set_option maxHeartbeats 2000000 in
theorem z_c6_5 (l : Launch) {Z : State} {a0 : Array Value} (hw : ∀ d ∈ tables_1, d.before a0 Z = true) {n0 : Nat} {h : Heap} {a_DEF a_ONE a_NONE : Nat} (S : z_St Z a_DEF a_ONE a_NONE) (z0 : n0 ≤ h.size) (old : Old Z n0 h) (p0 : Nat) (o_p0 : z_Ob Z h p0 "java/util/BitSet" z_lay2 [(.int (0 : Int32)), (.int (0 : Int32)), .null]) (g_p0 : n0 ≤ p0) :
    z_Met l Z (⟨"java/util/BitSet", "<init>", "()V"⟩ : MethodName) jdk_92_method_4_code 1 none [] ({ frames := 2, cells := 1, slots := 1, locals := 26 } : Room) n0 #[(.ref p0)] h (z_nov fun h' => ∃ b3_0 : Nat, Keep h h' [p0] ∧ h.size ≤ b3_0 ∧ b3_0 < h'.size ∧ z_Ob Z h' p0 "java/util/BitSet" z_lay2 [(.int (0 : Int32)), (.int (0 : Int32)), (.ref b3_0)] ∧ z_Ar Z h' b3_0 .long "[J" "" [(.long 0)]) := by
  have lt_p0 := o_p0.lt
  refine z_met (Ls := #[.val (.ref p0)]) (by first | exact plainFor_of_name (by first | (simp [plainName, overriddenIn]; done) | decide +kernel) | decide +kernel) rfl ?_
  intro p e s m below meth c C
  refine z_aloadN C z_d6_0 rfl rfl 1 rfl ?_
  refine z_init0 C (z_w hw 41 rfl) (z_w hw 7 rfl) (z_w hw 8 rfl) z_d6_1 rfl (W := 0) (Nat.le_of_eq rfl) (by decide) (by decide) 4 rfl ?_
  refine z_aloadN C z_d6_4 rfl rfl 5 rfl ?_
  refine z_iconst C (v := (0 : Int32)) z_d6_5 (by decide) 6 rfl ?_
  refine z_putO C (z_w hw 42 rfl) Via.refl o_p0 (z_lay2_ok hw) 0 rfl (vs' := [(.int (0 : Int32)), (.int (0 : Int32)), .null]) rfl (Or.inl (z_w hw 43 rfl)) (z_w hw 36 rfl) (ty := .int) (by decide) (by first | rfl | decide) (by first | rfl | decide) g_p0 z_d6_6 9 rfl ?_
  intro h1 W1 o_p0_1
  have s1 : h1.size = h.size := W1.size
  have k1 : Keep h h1 [p0] := (Keep.refl h [p0]).wr W1 (Or.inl (by simp))
  refine z_aloadN C z_d6_9 rfl rfl 10 rfl ?_
  refine z_iconst C (v := (0 : Int32)) z_d6_10 (by decide) 11 rfl ?_
  refine z_putO C (z_w hw 44 rfl) Via.refl o_p0_1 (z_lay2_ok hw) 1 rfl (vs' := [(.int (0 : Int32)), (.int (0 : Int32)), .null]) rfl (Or.inl (z_w hw 45 rfl)) (z_w hw 36 rfl) (ty := .boolean) (by decide) (by first | rfl | decide) (by first | rfl | decide) g_p0 z_d6_11 14 rfl ?_
  intro h2 W2 o_p0_2
  have s2 : h2.size = h1.size := W2.size
  have k2 : Keep h h2 [p0] := k1.wr W2 (Or.inl (by simp))
  refine z_aloadN C z_d6_14 rfl rfl 15 rfl ?_
  refine z_bipush C (v := (64 : Int32)) z_d6_15 (by decide) 17 rfl ?_
  have old2 := ((old.wr W1 g_p0).wr W2 g_p0)
  refine z_callPV C o_p0_2.1 (z_c7_4 l hw S (by omega) old2 p0 o_p0_2 g_p0) (z_w hw 46 rfl) (z_w hw 47 rfl) (z_w hw 49 rfl) (z_w hw 48 rfl) (z_w hw 37 rfl) (z_w hw 50 rfl) (by decide) z_d6_17 rfl (argsL := [(.int (64 : Int32))]) (rest := []) rfl (lenOf z_pd2 rfl) (W := 0) (Nat.le_of_eq rfl) (by decide) (by decide) (by decide) (by decide) 20 rfl ?_
  rintro h3 ⟨b3_0, K3, l3_0, l3_1, o_p0_3, o_b3_0_3⟩
  have s3 : h2.size ≤ h3.size := K3.1
  have k3 : Keep h h3 [p0] := k2.trans K3 (allS (Or.inl (by simp)) all0)
  refine z_aloadN C z_d6_20 rfl rfl 21 rfl ?_
  refine z_iconst C (v := (0 : Int32)) z_d6_21 (by decide) 22 rfl ?_
  refine z_putO C (z_w hw 44 rfl) Via.refl o_p0_3 (z_lay2_ok hw) 1 rfl (vs' := [(.int (0 : Int32)), (.int (0 : Int32)), (.ref b3_0)]) rfl (Or.inl (z_w hw 45 rfl)) (z_w hw 36 rfl) (ty := .boolean) (by decide) (by first | rfl | decide) (by first | rfl | decide) g_p0 z_d6_22 25 rfl ?_
  intro h4 W4 o_p0_4
  have s4 : h4.size = h3.size := W4.size
  have k4 : Keep h h4 [p0] := k3.wr W4 (Or.inl (by simp))
  have o_b3_0_4 := (o_b3_0_3.other W4 (by omega : (b3_0 : Nat) ≠ p0))
  exact z_return C z_d6_25 (by decide) (by decide) ⟨rfl, b3_0, k4, by omega, by omega, o_p0_4, o_b3_0_4⟩
set_option maxHeartbeats 2000000 in
theorem z_c1_6 (l : Launch) {Z : State} {a0 : Array Value} (hw : ∀ d ∈ tables_1, d.before a0 Z = true) {n0 : Nat} {h : Heap} {a_DEF a_ONE a_NONE : Nat} (S : z_St Z a_DEF a_ONE a_NONE) (z0 : n0 ≤ h.size) (old : Old Z n0 h) (p0 : Nat) (o_p0 : z_Ob Z h p0 "com/example/variegate/variegate/service/Cnf" z_lay0 [.null, .null, .null, .null, .null]) (g_p0 : n0 ≤ p0) :
    z_Met l Z (⟨"com/example/variegate/variegate/service/Cnf", "<init>", "()V"⟩ : MethodName) prog_73_method_1_code 1 none [] ({ frames := 4, cells := 6, slots := 13, locals := 50 } : Room) n0 #[(.ref p0)] h (z_nov fun h' => ∃ b1 : Nat, ∃ b4 : Nat, ∃ b5_0 : Nat, ∃ b7 : Nat, ∃ b10 : Nat, ∃ b13 : Nat, Keep h h' [p0] ∧ h.size ≤ b1 ∧ b1 < b4 ∧ b4 < b5_0 ∧ b5_0 < b7 ∧ b7 < b10 ∧ b10 < b13 ∧ b13 < h'.size ∧ z_Ob Z h' p0 "com/example/variegate/variegate/service/Cnf" z_lay0 [(.ref b1), (.ref b4), (.ref b7), (.ref b10), (.ref b13)] ∧ z_Ob Z h' b1 "java/util/ArrayList" z_lay1 [(.int (0 : Int32)), (.ref a_DEF), (.int (0 : Int32))] ∧ z_Ob Z h' b4 "java/util/BitSet" z_lay2 [(.int (0 : Int32)), (.int (0 : Int32)), (.ref b5_0)] ∧ z_Ar Z h' b5_0 .long "[J" "" [(.long 0)] ∧ z_Ob Z h' b7 "java/util/ArrayList" z_lay1 [(.int (0 : Int32)), (.ref a_DEF), (.int (0 : Int32))] ∧ z_Ob Z h' b10 "java/util/ArrayList" z_lay1 [(.int (0 : Int32)), (.ref a_DEF), (.int (0 : Int32))] ∧ z_Ar Z h' b13 .long "[J" "" []) := by
  have lt_p0 := o_p0.lt
  refine z_met (Ls := #[.val (.ref p0)]) (by first | exact plainFor_of_name (by first | (simp [plainName, overriddenIn]; done) | decide +kernel) | decide +kernel) rfl ?_
  intro p e s m below meth c C
  refine z_aloadN C z_d1_0 rfl rfl 1 rfl ?_
  refine z_init0 C (z_w hw 6 rfl) (z_w hw 7 rfl) (z_w hw 8 rfl) z_d1_1 rfl (W := 0) (Nat.le_of_eq rfl) (by decide) (by decide) 4 rfl ?_
  refine z_aloadN C z_d1_4 rfl rfl 5 rfl ?_
  refine z_newO C (z_w hw 9 rfl) (z_w hw 10 rfl) (z_w hw 11 rfl) (z_lay1_ok hw) z_lay1_df z_d1_5 (by decide) (by decide) 8 rfl ?_
  intro h1 b1 g1 E1 o_b1
  have s1 : h.size ≤ h1.size := E1.1
  have k1 : Keep h h1 [p0] := (Keep.refl h [p0]).ext E1
  have t1 := o_b1.lt
  refine z_dup C z_d1_8 rfl 9 rfl ?_
  have old1 := (old.ext E1)
  refine z_callI C rfl (z_c3_2 l hw S (by omega) old1 b1 o_b1 (by omega)) (z_w hw 12 rfl) (z_w hw 13 rfl) (z_w hw 11 rfl) (z_w hw 14 rfl) (by decide) z_d1_9 rfl (argsL := []) (rest := [(.ref b1), (.ref p0)]) rfl (lenOf z_pd0 rfl) (W := 2) (Nat.le_of_eq rfl) (by decide) (by decide) (by decide) (by decide) 12 rfl ?_
  rintro h2 ⟨K2, o_b1_2⟩
  have s2 : h1.size ≤ h2.size := K2.1
  have k2 : Keep h h2 [p0] := k1.trans K2 (allS (Or.inr (by omega)) all0)
  have o_p0_2 := ((o_p0.ext E1).keep K2 (ninS (by omega : (p0 : Nat) ≠ b1) nin0))
  refine z_putO C (z_w hw 33 rfl) Via.refl o_p0_2 (z_lay0_ok hw) 0 rfl (vs' := [(.ref b1), .null, .null, .null, .null]) rfl (Or.inr ⟨(z_w hw 34 rfl), rfl, rfl⟩) (z_w hw 1 rfl) (ty := (.object "java/util/List")) (by decide) (by first | rfl | decide) (by first | rfl | decide) g_p0 z_d1_12 15 rfl ?_
  intro h3 W3 o_p0_3
  have s3 : h3.size = h2.size := W3.size
  have k3 : Keep h h3 [p0] := k2.wr W3 (Or.inl (by simp))
  refine z_aloadN C z_d1_15 rfl rfl 16 rfl ?_
  refine z_newO C (z_w hw 35 rfl) (z_w hw 36 rfl) (z_w hw 37 rfl) (z_lay2_ok hw) z_lay2_df z_d1_16 (by decide) (by decide) 19 rfl ?_
  intro h4 b4 g4 E4 o_b4
  have s4 : h3.size ≤ h4.size := E4.1
  have k4 : Keep h h4 [p0] := k3.ext E4
  have t4 := o_b4.lt
  refine z_dup C z_d1_19 rfl 20 rfl ?_
  have old4 := (((old1.keep K2 (allS (by omega) all0)).wr W3 g_p0).ext E4)
  refine z_callI C rfl (z_c6_5 l hw S (by omega) old4 b4 o_b4 (by omega)) (z_w hw 38 rfl) (z_w hw 39 rfl) (z_w hw 37 rfl) (z_w hw 40 rfl) (by decide) z_d1_20 rfl (argsL := []) (rest := [(.ref b4), (.ref p0)]) rfl (lenOf z_pd0 rfl) (W := 2) (Nat.le_of_eq rfl) (by decide) (by decide) (by decide) (by decide) 23 rfl ?_
  rintro h5 ⟨b5_0, K5, l5_0, l5_1, o_b4_5, o_b5_0_5⟩
  have s5 : h4.size ≤ h5.size := K5.1
  have k5 : Keep h h5 [p0] := k4.trans K5 (allS (Or.inr (by omega)) all0)
  have o_p0_5 := ((o_p0_3.ext E4).keep K5 (ninS (by omega : (p0 : Nat) ≠ b4) nin0))
  refine z_putO C (z_w hw 57 rfl) Via.refl o_p0_5 (z_lay0_ok hw) 1 rfl (vs' := [(.ref b1), (.ref b4), .null, .null, .null]) rfl (Or.inr ⟨(z_w hw 58 rfl), rfl, rfl⟩) (z_w hw 1 rfl) (ty := (.object "java/util/BitSet")) (by decide) (by first | rfl | decide) (by first | rfl | decide) g_p0 z_d1_23 26 rfl ?_
  intro h6 W6 o_p0_6
  have s6 : h6.size = h5.size := W6.size
  have k6 : Keep h h6 [p0] := k5.wr W6 (Or.inl (by simp))
  refine z_aloadN C z_d1_26 rfl rfl 27 rfl ?_
  refine z_newO C (z_w hw 9 rfl) (z_w hw 10 rfl) (z_w hw 11 rfl) (z_lay1_ok hw) z_lay1_df z_d1_27 (by decide) (by decide) 30 rfl ?_
  intro h7 b7 g7 E7 o_b7
  have s7 : h6.size ≤ h7.size := E7.1
  have k7 : Keep h h7 [p0] := k6.ext E7
  have t7 := o_b7.lt
  refine z_dup C z_d1_30 rfl 31 rfl ?_
  have old7 := (((old4.keep K5 (allS (by omega) all0)).wr W6 g_p0).ext E7)
  refine z_callI C rfl (z_c3_2 l hw S (by omega) old7 b7 o_b7 (by omega)) (z_w hw 12 rfl) (z_w hw 13 rfl) (z_w hw 11 rfl) (z_w hw 14 rfl) (by decide) z_d1_31 rfl (argsL := []) (rest := [(.ref b7), (.ref p0)]) rfl (lenOf z_pd0 rfl) (W := 2) (Nat.le_of_eq rfl) (by decide) (by decide) (by decide) (by decide) 34 rfl ?_
  rintro h8 ⟨K8, o_b7_8⟩
  have s8 : h7.size ≤ h8.size := K8.1
  have k8 : Keep h h8 [p0] := k7.trans K8 (allS (Or.inr (by omega)) all0)
  have o_p0_8 := ((o_p0_6.ext E7).keep K8 (ninS (by omega : (p0 : Nat) ≠ b7) nin0))
  refine z_putO C (z_w hw 59 rfl) Via.refl o_p0_8 (z_lay0_ok hw) 2 rfl (vs' := [(.ref b1), (.ref b4), (.ref b7), .null, .null]) rfl (Or.inr ⟨(z_w hw 60 rfl), rfl, rfl⟩) (z_w hw 1 rfl) (ty := (.object "java/util/List")) (by decide) (by first | rfl | decide) (by first | rfl | decide) g_p0 z_d1_34 37 rfl ?_
  intro h9 W9 o_p0_9
  have s9 : h9.size = h8.size := W9.size
  have k9 : Keep h h9 [p0] := k8.wr W9 (Or.inl (by simp))
  refine z_aloadN C z_d1_37 rfl rfl 38 rfl ?_
  refine z_newO C (z_w hw 9 rfl) (z_w hw 10 rfl) (z_w hw 11 rfl) (z_lay1_ok hw) z_lay1_df z_d1_38 (by decide) (by decide) 41 rfl ?_
  intro h10 b10 g10 E10 o_b10
  have s10 : h9.size ≤ h10.size := E10.1
  have k10 : Keep h h10 [p0] := k9.ext E10
  have t10 := o_b10.lt
  refine z_dup C z_d1_41 rfl 42 rfl ?_
  have old10 := (((old7.keep K8 (allS (by omega) all0)).wr W9 g_p0).ext E10)
  refine z_callI C rfl (z_c3_2 l hw S (by omega) old10 b10 o_b10 (by omega)) (z_w hw 12 rfl) (z_w hw 13 rfl) (z_w hw 11 rfl) (z_w hw 14 rfl) (by decide) z_d1_42 rfl (argsL := []) (rest := [(.ref b10), (.ref p0)]) rfl (lenOf z_pd0 rfl) (W := 2) (Nat.le_of_eq rfl) (by decide) (by decide) (by decide) (by decide) 45 rfl ?_
  rintro h11 ⟨K11, o_b10_11⟩
  have s11 : h10.size ≤ h11.size := K11.1
  have k11 : Keep h h11 [p0] := k10.trans K11 (allS (Or.inr (by omega)) all0)
  have o_p0_11 := ((o_p0_9.ext E10).keep K11 (ninS (by omega : (p0 : Nat) ≠ b10) nin0))
  refine z_putO C (z_w hw 61 rfl) Via.refl o_p0_11 (z_lay0_ok hw) 3 rfl (vs' := [(.ref b1), (.ref b4), (.ref b7), (.ref b10), .null]) rfl (Or.inr ⟨(z_w hw 62 rfl), rfl, rfl⟩) (z_w hw 1 rfl) (ty := (.object "java/util/List")) (by decide) (by first | rfl | decide) (by first | rfl | decide) g_p0 z_d1_45 48 rfl ?_
  intro h12 W12 o_p0_12
  have s12 : h12.size = h11.size := W12.size
  have k12 : Keep h h12 [p0] := k11.wr W12 (Or.inl (by simp))
  refine z_aloadN C z_d1_48 rfl rfl 49 rfl ?_
  refine z_iconst C (v := (0 : Int32)) z_d1_49 (by decide) 50 rfl ?_
  refine z_newarray C (aty := .long) (z_w hw 54 rfl) (by decide) (cap := 0) (by decide) (by decide) (ad := "[J") (by decide +kernel) (vs := []) (by rfl) z_d1_50 (by decide) (by decide) 52 rfl ?_
  intro h13 b13 g13 E13 o_b13
  have s13 : h12.size ≤ h13.size := E13.1
  have k13 : Keep h h13 [p0] := k12.ext E13
  have o_b13 : z_Ar Z h13 b13 .long "[J" "" [] := o_b13
  have t13 := o_b13.lt
  have o_p0_13 := (o_p0_12.ext E13)
  refine z_putO C (z_w hw 63 rfl) Via.refl o_p0_13 (z_lay0_ok hw) 4 rfl (vs' := [(.ref b1), (.ref b4), (.ref b7), (.ref b10), (.ref b13)]) rfl (Or.inl (z_w hw 64 rfl)) (z_w hw 1 rfl) (ty := (.array .long)) (by decide) (by first | rfl | decide) (by first | rfl | decide) g_p0 z_d1_52 55 rfl ?_
  intro h14 W14 o_p0_14
  have s14 : h14.size = h13.size := W14.size
  have k14 : Keep h h14 [p0] := k13.wr W14 (Or.inl (by simp))
  have o_b1_14 := ((((((((((((o_b1_2.other W3 (by omega : (b1 : Nat) ≠ p0)).ext E4).keep K5 (ninS (by omega : (b1 : Nat) ≠ b4) nin0)).other W6 (by omega : (b1 : Nat) ≠ p0)).ext E7).keep K8 (ninS (by omega : (b1 : Nat) ≠ b7) nin0)).other W9 (by omega : (b1 : Nat) ≠ p0)).ext E10).keep K11 (ninS (by omega : (b1 : Nat) ≠ b10) nin0)).other W12 (by omega : (b1 : Nat) ≠ p0)).ext E13).other W14 (by omega : (b1 : Nat) ≠ p0))
  have o_b4_14 := (((((((((o_b4_5.other W6 (by omega : (b4 : Nat) ≠ p0)).ext E7).keep K8 (ninS (by omega : (b4 : Nat) ≠ b7) nin0)).other W9 (by omega : (b4 : Nat) ≠ p0)).ext E10).keep K11 (ninS (by omega : (b4 : Nat) ≠ b10) nin0)).other W12 (by omega : (b4 : Nat) ≠ p0)).ext E13).other W14 (by omega : (b4 : Nat) ≠ p0))
  have o_b5_0_14 := (((((((((o_b5_0_5.other W6 (by omega : (b5_0 : Nat) ≠ p0)).ext E7).keep K8 (ninS (by omega : (b5_0 : Nat) ≠ b7) nin0)).other W9 (by omega : (b5_0 : Nat) ≠ p0)).ext E10).keep K11 (ninS (by omega : (b5_0 : Nat) ≠ b10) nin0)).other W12 (by omega : (b5_0 : Nat) ≠ p0)).ext E13).other W14 (by omega : (b5_0 : Nat) ≠ p0))
  have o_b7_14 := ((((((o_b7_8.other W9 (by omega : (b7 : Nat) ≠ p0)).ext E10).keep K11 (ninS (by omega : (b7 : Nat) ≠ b10) nin0)).other W12 (by omega : (b7 : Nat) ≠ p0)).ext E13).other W14 (by omega : (b7 : Nat) ≠ p0))
  have o_b10_14 := (((o_b10_11.other W12 (by omega : (b10 : Nat) ≠ p0)).ext E13).other W14 (by omega : (b10 : Nat) ≠ p0))
  have o_b13_14 := (o_b13.other W14 (by omega : (b13 : Nat) ≠ p0))
  exact z_return C z_d1_55 (by decide) (by decide) ⟨rfl, b1, b4, b5_0, b7, b10, b13, k14, by omega, by omega, by omega, by omega, by omega, by omega, by omega, o_p0_14, o_b1_14, o_b4_14, o_b5_0_14, o_b7_14, o_b10_14, o_b13_14⟩
set_option maxHeartbeats 2000000 in
theorem z_c14_7 (l : Launch) {Z : State} {a0 : Array Value} (hw : ∀ d ∈ tables_1, d.before a0 Z = true) {n0 : Nat} {h : Heap} {a_DEF a_ONE a_NONE : Nat} (S : z_St Z a_DEF a_ONE a_NONE) (z0 : n0 ≤ h.size) (old : Old Z n0 h) :
    z_Met l Z (⟨"java/lang/Math", "max", "(II)I"⟩ : MethodName) jdk_29_method_65_code 2 (some .int) [] ({ frames := 0, cells := 0, slots := 0, locals := 0 } : Room) n0 #[(.int (10 : Int32)), (.int (1 : Int32))] h (z_pure (.int (10 : Int32)) h) := by
  refine z_met (Ls := #[.val (.int (10 : Int32)), .val (.int (1 : Int32))]) (by first | exact plainFor_of_name (by first | (simp [plainName, overriddenIn]; done) | decide +kernel) | decide +kernel) rfl ?_
  intro p e s m below meth c C
  refine z_iloadN C z_d14_0 rfl 1 rfl ?_
  refine z_iloadN C z_d14_1 rfl 2 rfl ?_
  refine z_icmpN C z_d14_2 (by decide) 5 rfl ?_
  refine z_iloadN C z_d14_5 rfl 6 rfl ?_
  refine z_goto C z_d14_6 (by decide) 10 (by decide) ?_
  exact z_ireturn C (Or.inl rfl) rfl z_d14_10 (by decide) (by decide) ⟨rfl, rfl⟩
set_option maxHeartbeats 2000000 in
theorem z_c13_8 (l : Launch) {Z : State} {a0 : Array Value} (hw : ∀ d ∈ tables_1, d.before a0 Z = true) {n0 : Nat} {h : Heap} {a_DEF a_ONE a_NONE : Nat} (S : z_St Z a_DEF a_ONE a_NONE) (z0 : n0 ≤ h.size) (old : Old Z n0 h) (p0 : Nat) (o_p0 : z_Ob Z h p0 "java/util/ArrayList" z_lay1 [(.int (1 : Int32)), (.ref a_DEF), (.int (0 : Int32))]) (g_p0 : n0 ≤ p0) :
    z_Met l Z (⟨"java/util/ArrayList", "grow", "(I)[Ljava/lang/Object;"⟩ : MethodName) jdk_38_method_6_code 4 (some (.array (.object "java/lang/Object"))) [] ({ frames := 1, cells := 1, slots := 10, locals := 14 } : Room) n0 #[(.ref p0), (.int (1 : Int32))] h (z_val fun w h' => ∃ b1 : Nat, w = (.ref b1) ∧ Keep h h' [p0] ∧ h.size ≤ b1 ∧ b1 < h'.size ∧ z_Ob Z h' p0 "java/util/ArrayList" z_lay1 [(.int (1 : Int32)), (.ref b1), (.int (0 : Int32))] ∧ z_Ar Z h' b1 (.object "java/lang/Object") "[Ljava/lang/Object;" "java/lang/Object" [.null, .null, .null, .null, .null, .null, .null, .null, .null, .null]) := by
  have lt_p0 := o_p0.lt
  refine z_met (Ls := #[.val (.ref p0), .val (.int (1 : Int32)), .unset, .unset]) (by first | exact plainFor_of_name (by first | (simp [plainName, overriddenIn]; done) | decide +kernel) | decide +kernel) rfl ?_
  intro p e s m below meth c C
  refine z_aloadN C z_d13_0 rfl rfl 1 rfl ?_
  refine z_getO C (z_w hw 31 rfl) Via.refl o_p0 1 rfl rfl z_d13_1 4 rfl ?_
  refine z_arraylength C (z := (0 : Int32)) (S.1.2.ext old.2) (by rfl) z_d13_4 5 rfl ?_
  refine z_istoreN C (Ls' := #[.val (.ref p0), .val (.int (1 : Int32)), .val (.int (0 : Int32)), .unset]) z_d13_5 rfl 6 rfl ?_
  refine z_iloadN C z_d13_6 rfl 7 rfl ?_
  refine z_ifN C z_d13_7 (by decide) 10 rfl ?_
  refine z_aloadN C z_d13_10 rfl rfl 11 rfl ?_
  refine z_getO C (z_w hw 31 rfl) Via.refl o_p0 1 rfl rfl z_d13_11 14 rfl ?_
  refine z_getstatic C (z_w hw 30 rfl) (S.1.1.ext old.2) z_d13_14 17 rfl ?_
  refine z_acmp C (same := true) z_d13_17 rfl rfl (z_same _) (by decide) 45 (by decide) ?_
  refine z_aloadN C z_d13_45 rfl rfl 46 rfl ?_
  refine z_bipush C (v := (10 : Int32)) z_d13_46 (by decide) 48 rfl ?_
  refine z_iloadN C z_d13_48 rfl 49 rfl ?_
  refine z_callSp C (z_c14_7 l hw S (by omega) old) (z_w hw 100 rfl) (z_w hw 101 rfl) (z_w hw 102 rfl) (z_w hw 103 rfl) (by decide) z_d13_49 rfl (argsL := [(.int (10 : Int32)), (.int (1 : Int32))]) (rest := [(.ref p0)]) rfl (lenOf z_pd3 rfl) (W := 1) (Nat.le_of_eq rfl) (by decide) (by decide) (by decide) (by decide) (by decide) (by decide) 52 rfl ?_
  refine z_anewarray C (z_w hw 104 rfl) (z_w hw 105 rfl) (by decide) (cap := 10) (by decide) (by decide) (ad := "[Ljava/lang/Object;") (by decide +kernel) (vs := [.null, .null, .null, .null, .null, .null, .null, .null, .null, .null]) (by rfl) z_d13_52 (by decide) (by decide) 55 rfl ?_
  intro h1 b1 g1 E1 o_b1
  have s1 : h.size ≤ h1.size := E1.1
  have k1 : Keep h h1 [p0] := (Keep.refl h [p0]).ext E1
  have t1 := o_b1.lt
  refine z_dup_x1 C z_d13_55 rfl rfl 56 rfl ?_
  have o_p0_1 := (o_p0.ext E1)
  refine z_putO C (z_w hw 31 rfl) Via.refl o_p0_1 (z_lay1_ok hw) 1 rfl (vs' := [(.int (1 : Int32)), (.ref b1), (.int (0 : Int32))]) rfl (Or.inl (z_w hw 32 rfl)) (z_w hw 10 rfl) (ty := (.array (.object "java/lang/Object"))) (by decide) (by first | rfl | decide) (by first | rfl | decide) g_p0 z_d13_56 59 rfl ?_
  intro h2 W2 o_p0_2
  have s2 : h2.size = h1.size := W2.size
  have k2 : Keep h h2 [p0] := k1.wr W2 (Or.inl (by simp))
  have o_b1_2 := (o_b1.other W2 (by omega : (b1 : Nat) ≠ p0))
  exact z_areturn C rfl rfl z_d13_59 (by decide) (by decide) ⟨_, rfl, b1, rfl, k2, by omega, by omega, o_p0_2, o_b1_2⟩
set_option maxHeartbeats 2000000 in
theorem z_c12_9 (l : Launch) {Z : State} {a0 : Array Value} (hw : ∀ d ∈ tables_1, d.before a0 Z = true) {n0 : Nat} {h : Heap} {a_DEF a_ONE a_NONE : Nat} (S : z_St Z a_DEF a_ONE a_NONE) (z0 : n0 ≤ h.size) (old : Old Z n0 h) (p0 : Nat) (o_p0 : z_Ob Z h p0 "java/util/ArrayList" z_lay1 [(.int (1 : Int32)), (.ref a_DEF), (.int (0 : Int32))]) (g_p0 : n0 ≤ p0) :
    z_Met l Z (⟨"java/util/ArrayList", "grow", "()[Ljava/lang/Object;"⟩ : MethodName) jdk_38_method_7_code 1 (some (.array (.object "java/lang/Object"))) [] ({ frames := 2, cells := 1, slots := 10, locals := 29 } : Room) n0 #[(.ref p0)] h (z_val fun w h' => ∃ b1_0 : Nat, w = (.ref b1_0) ∧ Keep h h' [p0] ∧ h.size ≤ b1_0 ∧ b1_0 < h'.size ∧ z_Ob Z h' p0 "java/util/ArrayList" z_lay1 [(.int (1 : Int32)), (.ref b1_0), (.int (0 : Int32))] ∧ z_Ar Z h' b1_0 (.object "java/lang/Object") "[Ljava/lang/Object;" "java/lang/Object" [.null, .null, .null, .null, .null, .null, .null, .null, .null, .null]) := by
  have lt_p0 := o_p0.lt
  refine z_met (Ls := #[.val (.ref p0)]) (by first | exact plainFor_of_name (by first | (simp [plainName, overriddenIn]; done) | decide +kernel) | decide +kernel) rfl ?_
  intro p e s m below meth c C
  refine z_aloadN C z_d12_0 rfl rfl 1 rfl ?_
  refine z_aloadN C z_d12_1 rfl rfl 2 rfl ?_
  refine z_getO C (z_w hw 83 rfl) Via.refl o_p0 2 rfl rfl z_d12_2 5 rfl ?_
  refine z_iconst C (v := (1 : Int32)) z_d12_5 (by decide) 6 rfl ?_
  refine z_iadd C (z := (1 : Int32)) z_d12_6 (by decide) 7 rfl ?_
  refine z_callP C o_p0.1 (z_c13_8 l hw S (by omega) old p0 o_p0 g_p0) (z_w hw 95 rfl) (z_w hw 96 rfl) (z_w hw 98 rfl) (z_w hw 97 rfl) (z_w hw 11 rfl) (z_w hw 99 rfl) (by decide) z_d12_7 rfl (argsL := [(.int (1 : Int32))]) (rest := []) rfl (lenOf z_pd4 rfl) (W := 0) (Nat.le_of_eq rfl) (by decide) (by decide) (by decide) (by decide) 10 rfl ?_
  rintro _ h1 ⟨b1_0, rfl, K1, l1_0, l1_1, o_p0_1, o_b1_0_1⟩
  have s1 : h.size ≤ h1.size := K1.1
  have k1 : Keep h h1 [p0] := (Keep.refl h [p0]).trans K1 (allS (Or.inl (by simp)) all0)
  exact z_areturn C rfl rfl z_d12_10 (by decide) (by decide) ⟨_, rfl, b1_0, rfl, k1, by omega, by omega, o_p0_1, o_b1_0_1⟩
set_option maxHeartbeats 2000000 in
theorem z_c11_10 (l : Launch) {Z : State} {a0 : Array Value} (hw : ∀ d ∈ tables_1, d.before a0 Z = true) {n0 : Nat} {h : Heap} {a_DEF a_ONE a_NONE : Nat} (S : z_St Z a_DEF a_ONE a_NONE) (z0 : n0 ≤ h.size) (old : Old Z n0 h) (p0 : Nat) (o_p0 : z_Ob Z h p0 "java/util/ArrayList" z_lay1 [(.int (1 : Int32)), (.ref a_DEF), (.int (0 : Int32))]) (g_p0 : n0 ≤ p0) :
    z_Met l Z (⟨"java/util/ArrayList", "add", "(Ljava/lang/Object;[Ljava/lang/Object;I)V"⟩ : MethodName) jdk_38_method_24_code 4 none [] ({ frames := 3, cells := 1, slots := 10, locals := 41 } : Room) n0 #[(.ref p0), (.ref a_ONE), (.ref a_DEF), (.int (0 : Int32))] h (z_nov fun h' => ∃ b1_0 : Nat, Keep h h' [p0] ∧ h.size ≤ b1_0 ∧ b1_0 < h'.size ∧ z_Ob Z h' p0 "java/util/ArrayList" z_lay1 [(.int (1 : Int32)), (.ref b1_0), (.int (1 : Int32))] ∧ z_Ar Z h' b1_0 (.object "java/lang/Object") "[Ljava/lang/Object;" "java/lang/Object" [(.ref a_ONE), .null, .null, .null, .null, .null, .null, .null, .null, .null]) := by
  have lt_p0 := o_p0.lt
  refine z_met (Ls := #[.val (.ref p0), .val (.ref a_ONE), .val (.ref a_DEF), .val (.int (0 : Int32))]) (by first | exact plainFor_of_name (by first | (simp [plainName, overriddenIn]; done) | decide +kernel) | decide +kernel) rfl ?_
  intro p e s m below meth c C
  refine z_iloadN C z_d11_0 rfl 1 rfl ?_
  refine z_aloadN C z_d11_1 rfl rfl 2 rfl ?_
  refine z_arraylength C (z := (0 : Int32)) (S.1.2.ext old.2) (by rfl) z_d11_2 3 rfl ?_
  refine z_icmpN C z_d11_3 (by decide) 6 rfl ?_
  refine z_aloadN C z_d11_6 rfl rfl 7 rfl ?_
  refine z_callP C o_p0.1 (z_c12_9 l hw S (by omega) old p0 o_p0 g_p0) (z_w hw 90 rfl) (z_w hw 91 rfl) (z_w hw 93 rfl) (z_w hw 92 rfl) (z_w hw 11 rfl) (z_w hw 94 rfl) (by decide) z_d11_7 rfl (argsL := []) (rest := []) rfl (lenOf z_pd5 rfl) (W := 0) (Nat.le_of_eq rfl) (by decide) (by decide) (by decide) (by decide) 10 rfl ?_
  rintro _ h1 ⟨b1_0, rfl, K1, l1_0, l1_1, o_p0_1, o_b1_0_1⟩
  have s1 : h.size ≤ h1.size := K1.1
  have k1 : Keep h h1 [p0] := (Keep.refl h [p0]).trans K1 (allS (Or.inl (by simp)) all0)
  refine z_astoreN C (Ls' := #[.val (.ref p0), .val (.ref a_ONE), .val (.ref b1_0), .val (.int (0 : Int32))]) z_d11_10 rfl rfl 11 rfl ?_
  refine z_aloadN C z_d11_11 rfl rfl 12 rfl ?_
  refine z_iloadN C z_d11_12 rfl 13 rfl ?_
  refine z_aloadN C z_d11_13 rfl rfl 14 rfl ?_
  have old1 := (old.keep K1 (allS g_p0 all0))
  refine z_aastore C o_b1_0_1 rfl (o_b1_0_1.sto (by decide) (Ins.of_exa (S.2.1.2.ext old1.2).1 (z_w hw 106 rfl))) (by decide) (of_decide_eq_true rfl) (vs' := [(.ref a_ONE), .null, .null, .null, .null, .null, .null, .null, .null, .null]) (by rfl) (by omega) z_d11_14 15 rfl ?_
  intro h2 W2 o_b1_0_2
  have s2 : h2.size = h1.size := W2.size
  have k2 : Keep h h2 [p0] := k1.wr W2 (Or.inr (by omega))
  refine z_aloadN C z_d11_15 rfl rfl 16 rfl ?_
  refine z_iloadN C z_d11_16 rfl 17 rfl ?_
  refine z_iconst C (v := (1 : Int32)) z_d11_17 (by decide) 18 rfl ?_
  refine z_iadd C (z := (1 : Int32)) z_d11_18 (by decide) 19 rfl ?_
  have o_p0_2 := (o_p0_1.other W2 (by omega : (p0 : Nat) ≠ b1_0))
  refine z_putO C (z_w hw 83 rfl) Via.refl o_p0_2 (z_lay1_ok hw) 2 rfl (vs' := [(.int (1 : Int32)), (.ref b1_0), (.int (1 : Int32))]) rfl (Or.inl (z_w hw 84 rfl)) (z_w hw 10 rfl) (ty := .int) (by decide) (by first | rfl | decide) (by first | rfl | decide) g_p0 z_d11_19 22 rfl ?_
  intro h3 W3 o_p0_3
  have s3 : h3.size = h2.size := W3.size
  have k3 : Keep h h3 [p0] := k2.wr W3 (Or.inl (by simp))
  have o_b1_0_3 := (o_b1_0_2.other W3 (by omega : (b1_0 : Nat) ≠ p0))
  exact z_return C z_d11_22 (by decide) (by decide) ⟨rfl, b1_0, k3, by omega, by omega, o_p0_3, o_b1_0_3⟩
set_option maxHeartbeats 2000000 in
theorem z_c10_11 (l : Launch) {Z : State} {a0 : Array Value} (hw : ∀ d ∈ tables_1, d.before a0 Z = true) {n0 : Nat} {h : Heap} {a_DEF a_ONE a_NONE : Nat} (S : z_St Z a_DEF a_ONE a_NONE) (z0 : n0 ≤ h.size) (old : Old Z n0 h) (p0 : Nat) (o_p0 : z_Ob Z h p0 "java/util/ArrayList" z_lay1 [(.int (0 : Int32)), (.ref a_DEF), (.int (0 : Int32))]) (g_p0 : n0 ≤ p0) :
    z_Met l Z (⟨"java/util/ArrayList", "add", "(Ljava/lang/Object;)Z"⟩ : MethodName) jdk_38_method_25_code 2 (some .boolean) [] ({ frames := 4, cells := 1, slots := 10, locals := 56 } : Room) n0 #[(.ref p0), (.ref a_ONE)] h (z_val fun w h' => ∃ b2_0 : Nat, w = (.int (1 : Int32)) ∧ Keep h h' [p0] ∧ h.size ≤ b2_0 ∧ b2_0 < h'.size ∧ z_Ob Z h' p0 "java/util/ArrayList" z_lay1 [(.int (1 : Int32)), (.ref b2_0), (.int (1 : Int32))] ∧ z_Ar Z h' b2_0 (.object "java/lang/Object") "[Ljava/lang/Object;" "java/lang/Object" [(.ref a_ONE), .null, .null, .null, .null, .null, .null, .null, .null, .null]) := by
  have lt_p0 := o_p0.lt
  refine z_met (Ls := #[.val (.ref p0), .val (.ref a_ONE)]) (by first | exact plainFor_of_name (by first | (simp [plainName, overriddenIn]; done) | decide +kernel) | decide +kernel) rfl ?_
  intro p e s m below meth c C
  refine z_aloadN C z_d10_0 rfl rfl 1 rfl ?_
  refine z_dup C z_d10_1 rfl 2 rfl ?_
  refine z_getO C (z_w hw 81 rfl) (Via.of (z_w hw 82 rfl)) o_p0 0 rfl rfl z_d10_2 5 rfl ?_
  refine z_iconst C (v := (1 : Int32)) z_d10_5 (by decide) 6 rfl ?_
  refine z_iadd C (z := (1 : Int32)) z_d10_6 (by decide) 7 rfl ?_
  refine z_putO C (z_w hw 81 rfl) (Via.of (z_w hw 82 rfl)) o_p0 (z_lay1_ok hw) 0 rfl (vs' := [(.int (1 : Int32)), (.ref a_DEF), (.int (0 : Int32))]) rfl (Or.inl (z_w hw 29 rfl)) (z_w hw 10 rfl) (ty := .int) (by decide) (by first | rfl | decide) (by first | rfl | decide) g_p0 z_d10_7 10 rfl ?_
  intro h1 W1 o_p0_1
  have s1 : h1.size = h.size := W1.size
  have k1 : Keep h h1 [p0] := (Keep.refl h [p0]).wr W1 (Or.inl (by simp))
  refine z_aloadN C z_d10_10 rfl rfl 11 rfl ?_
  refine z_aloadN C z_d10_11 rfl rfl 12 rfl ?_
  refine z_aloadN C z_d10_12 rfl rfl 13 rfl ?_
  refine z_getO C (z_w hw 31 rfl) Via.refl o_p0_1 1 rfl rfl z_d10_13 16 rfl ?_
  refine z_aloadN C z_d10_16 rfl rfl 17 rfl ?_
  refine z_getO C (z_w hw 83 rfl) Via.refl o_p0_1 2 rfl rfl z_d10_17 20 rfl ?_
  have old1 := (old.wr W1 g_p0)
  refine z_callPV C o_p0_1.1 (z_c11_10 l hw S (by omega) old1 p0 o_p0_1 g_p0) (z_w hw 85 rfl) (z_w hw 86 rfl) (z_w hw 88 rfl) (z_w hw 87 rfl) (z_w hw 11 rfl) (z_w hw 89 rfl) (by decide) z_d10_20 rfl (argsL := [(.ref a_ONE), (.ref a_DEF), (.int (0 : Int32))]) (rest := []) rfl (lenOf z_pd6 rfl) (W := 0) (Nat.le_of_eq rfl) (by decide) (by decide) (by decide) (by decide) 23 rfl ?_
  rintro h2 ⟨b2_0, K2, l2_0, l2_1, o_p0_2, o_b2_0_2⟩
  have s2 : h1.size ≤ h2.size := K2.1
  have k2 : Keep h h2 [p0] := k1.trans K2 (allS (Or.inl (by simp)) all0)
  refine z_iconst C (v := (1 : Int32)) z_d10_23 (by decide) 24 rfl ?_
  exact z_ireturn C (by simp) rfl z_d10_24 (by decide) (by decide) ⟨_, rfl, b2_0, rfl, k2, by omega, by omega, o_p0_2, o_b2_0_2⟩
set_option maxHeartbeats 2000000 in
theorem z_c15_12 (l : Launch) {Z : State} {a0 : Array Value} (hw : ∀ d ∈ tables_1, d.before a0 Z = true) {n0 : Nat} {h : Heap} {a_DEF a_ONE a_NONE : Nat} (S : z_St Z a_DEF a_ONE a_NONE) (z0 : n0 ≤ h.size) (old : Old Z n0 h) (p0 : Nat) (p1 : Nat) (o_p0 : z_Ob Z h p0 "java/util/ArrayList" z_lay1 [(.int (1 : Int32)), (.ref p1), (.int (1 : Int32))]) :
    z_Met l Z (⟨"java/util/ArrayList", "size", "()I"⟩ : MethodName) jdk_38_method_8_code 1 (some .int) [] ({ frames := 0, cells := 0, slots := 0, locals := 0 } : Room) n0 #[(.ref p0)] h (z_pure (.int (1 : Int32)) h) := by
  refine z_met (Ls := #[.val (.ref p0)]) (by first | exact plainFor_of_name (by first | (simp [plainName, overriddenIn]; done) | decide +kernel) | decide +kernel) rfl ?_
  intro p e s m below meth c C
  refine z_aloadN C z_d15_0 rfl rfl 1 rfl ?_
  refine z_getO C (z_w hw 83 rfl) Via.refl o_p0 2 rfl rfl z_d15_1 4 rfl ?_
  exact z_ireturn C (Or.inl rfl) rfl z_d15_4 (by decide) (by decide) ⟨rfl, rfl⟩
set_option maxHeartbeats 2000000 in
theorem z_c9_13 (l : Launch) {Z : State} {a0 : Array Value} (hw : ∀ d ∈ tables_1, d.before a0 Z = true) {n0 : Nat} {h : Heap} {a_DEF a_ONE a_NONE : Nat} (S : z_St Z a_DEF a_ONE a_NONE) (z0 : n0 ≤ h.size) (old : Old Z n0 h) (p0 : Nat) (p1 : Nat) (p2 : Nat) (p3 : Nat) (p4 : Nat) (p5 : Nat) (o_p0 : z_Ob Z h p0 "com/example/variegate/variegate/service/Cnf" z_lay0 [(.ref p1), (.ref p2), (.ref p3), (.ref p4), (.ref p5)]) (o_p3 : z_Ob Z h p3 "java/util/ArrayList" z_lay1 [(.int (0 : Int32)), (.ref a_DEF), (.int (0 : Int32))]) (o_p4 : z_Ob Z h p4 "java/util/ArrayList" z_lay1 [(.int (0 : Int32)), (.ref a_DEF), (.int (0 : Int32))]) (ne_p0_p3 : p0 ≠ p3) (ne_p3_p4 : p3 ≠ p4) (ne_p0_p4 : p0 ≠ p4) (g_p3 : n0 ≤ p3) (g_p4 : n0 ≤ p4) :
    z_Met l Z (⟨"com/example/variegate/variegate/service/Cnf", "newVariable", "()I"⟩ : MethodName) prog_73_method_2_code 1 (some .int) [] ({ frames := 5, cells := 2, slots := 20, locals := 69 } : Room) n0 #[(.ref p0)] h (z_val fun w h' => ∃ b1_0 : Nat, ∃ b2_0 : Nat, w = (.int (1 : Int32)) ∧ Keep h h' [p3, p4] ∧ h.size ≤ b1_0 ∧ b1_0 < b2_0 ∧ b2_0 < h'.size ∧ z_Ob Z h' p3 "java/util/ArrayList" z_lay1 [(.int (1 : Int32)), (.ref b1_0), (.int (1 : Int32))] ∧ z_Ob Z h' p4 "java/util/ArrayList" z_lay1 [(.int (1 : Int32)), (.ref b2_0), (.int (1 : Int32))] ∧ z_Ar Z h' b1_0 (.object "java/lang/Object") "[Ljava/lang/Object;" "java/lang/Object" [(.ref a_ONE), .null, .null, .null, .null, .null, .null, .null, .null, .null] ∧ z_Ar Z h' b2_0 (.object "java/lang/Object") "[Ljava/lang/Object;" "java/lang/Object" [(.ref a_ONE), .null, .null, .null, .null, .null, .null, .null, .null, .null]) := by
  have lt_p0 := o_p0.lt
  have lt_p3 := o_p3.lt
  have lt_p4 := o_p4.lt
  refine z_met (Ls := #[.val (.ref p0)]) (by first | exact plainFor_of_name (by first | (simp [plainName, overriddenIn]; done) | decide +kernel) | decide +kernel) rfl ?_
  intro p e s m below meth c C
  refine z_aloadN C z_d9_0 rfl rfl 1 rfl ?_
  refine z_getO C (z_w hw 59 rfl) Via.refl o_p0 2 rfl rfl z_d9_1 4 rfl ?_
  refine z_getstatic C (z_w hw 70 rfl) (S.2.1.1.ext old.2) z_d9_4 7 rfl ?_
  refine z_callF C o_p3.1 (z_c10_11 l hw S (by omega) old p3 o_p3 g_p3) (z_w hw 72 rfl) (z_w hw 73 rfl) (z_w hw 74 rfl) (z_w hw 75 rfl) (z_w hw 76 rfl) (z_w hw 77 rfl) (z_w hw 78 rfl) (z_w hw 79 rfl) (z_w hw 11 rfl) (z_w hw 80 rfl) (by decide) z_d9_7 rfl (argsL := [(.ref a_ONE)]) (rest := []) rfl (lenOf z_pd7 rfl) (W := 0) (Nat.le_of_eq rfl) (by decide) (by decide) (by decide) (by decide) 12 rfl ?_
  rintro _ h1 ⟨b1_0, rfl, K1, l1_0, l1_1, o_p3_1, o_b1_0_1⟩
  have s1 : h.size ≤ h1.size := K1.1
  have k1 : Keep h h1 [p3, p4] := (Keep.refl h [p3, p4]).trans K1 (allS (Or.inl (by simp)) all0)
  refine z_pop C z_d9_12 rfl 13 rfl ?_
  refine z_aloadN C z_d9_13 rfl rfl 14 rfl ?_
  have o_p0_1 := (o_p0.keep K1 (ninS ne_p0_p3 nin0))
  refine z_getO C (z_w hw 61 rfl) Via.refl o_p0_1 3 rfl rfl z_d9_14 17 rfl ?_
  have old1 := (old.keep K1 (allS g_p3 all0))
  refine z_getstatic C (z_w hw 70 rfl) (S.2.1.1.ext old1.2) z_d9_17 20 rfl ?_
  have o_p4_1 := (o_p4.keep K1 (ninS (Ne.symm ne_p3_p4) nin0))
  refine z_callF C o_p4_1.1 (z_c10_11 l hw S (by omega) old1 p4 o_p4_1 g_p4) (z_w hw 72 rfl) (z_w hw 73 rfl) (z_w hw 74 rfl) (z_w hw 75 rfl) (z_w hw 76 rfl) (z_w hw 77 rfl) (z_w hw 78 rfl) (z_w hw 79 rfl) (z_w hw 11 rfl) (z_w hw 80 rfl) (by decide) z_d9_20 rfl (argsL := [(.ref a_ONE)]) (rest := []) rfl (lenOf z_pd7 rfl) (W := 0) (Nat.le_of_eq rfl) (by decide) (by decide) (by decide) (by decide) 25 rfl ?_
  rintro _ h2 ⟨b2_0, rfl, K2, l2_0, l2_1, o_p4_2, o_b2_0_2⟩
  have s2 : h1.size ≤ h2.size := K2.1
  have k2 : Keep h h2 [p3, p4] := k1.trans K2 (allS (Or.inl (by simp)) all0)
  refine z_pop C z_d9_25 rfl 26 rfl ?_
  refine z_aloadN C z_d9_26 rfl rfl 27 rfl ?_
  have o_p0_2 := (o_p0_1.keep K2 (ninS ne_p0_p4 nin0))
  refine z_getO C (z_w hw 59 rfl) Via.refl o_p0_2 2 rfl rfl z_d9_27 30 rfl ?_
  have o_p3_2 := (o_p3_1.keep K2 (ninS ne_p3_p4 nin0))
  have old2 := (old1.keep K2 (allS g_p4 all0))
  refine z_callFp C o_p3_2.1 (z_c15_12 l hw S (by omega) old2 p3 b1_0 o_p3_2) (z_w hw 107 rfl) (z_w hw 108 rfl) (z_w hw 109 rfl) (z_w hw 110 rfl) (z_w hw 111 rfl) (z_w hw 112 rfl) (z_w hw 113 rfl) (z_w hw 79 rfl) (z_w hw 11 rfl) (z_w hw 114 rfl) (by decide) z_d9_30 rfl (argsL := []) (rest := []) rfl (lenOf z_pd8 rfl) (W := 0) (Nat.le_of_eq rfl) (by decide) (by decide) (by decide) (by decide) (by decide) (by decide) 35 rfl ?_
  have o_b1_0_2 := (o_b1_0_1.keep K2 (ninS (by omega : (b1_0 : Nat) ≠ p4) nin0))
  exact z_ireturn C (Or.inl rfl) rfl z_d9_35 (by decide) (by decide) ⟨_, rfl, b1_0, b2_0, rfl, k2, by omega, by omega, by omega, o_p3_2, o_p4_2, o_b1_0_2, o_b2_0_2⟩
set_option maxHeartbeats 2000000 in
theorem z_c11_14 (l : Launch) {Z : State} {a0 : Array Value} (hw : ∀ d ∈ tables_1, d.before a0 Z = true) {n0 : Nat} {h : Heap} {a_DEF a_ONE a_NONE : Nat} (S : z_St Z a_DEF a_ONE a_NONE) (z0 : n0 ≤ h.size) (old : Old Z n0 h) (p0 : Nat) (p1 : Nat) (o_p1 : z_Ar Z h p1 (.object "java/lang/Object") "[Ljava/lang/Object;" "java/lang/Object" [(.ref a_ONE), .null, .null, .null, .null, .null, .null, .null, .null, .null]) (o_p0 : z_Ob Z h p0 "java/util/ArrayList" z_lay1 [(.int (2 : Int32)), (.ref p1), (.int (1 : Int32))]) (ne_p0_p1 : p0 ≠ p1) (g_p1 : n0 ≤ p1) (g_p0 : n0 ≤ p0) :
    z_Met l Z (⟨"java/util/ArrayList", "add", "(Ljava/lang/Object;[Ljava/lang/Object;I)V"⟩ : MethodName) jdk_38_method_24_code 4 none [] ({ frames := 0, cells := 0, slots := 0, locals := 0 } : Room) n0 #[(.ref p0), (.ref a_ONE), (.ref p1), (.int (1 : Int32))] h (z_nov fun h' => Keep h h' [p1, p0] ∧ z_Ar Z h' p1 (.object "java/lang/Object") "[Ljava/lang/Object;" "java/lang/Object" [(.ref a_ONE), (.ref a_ONE), .null, .null, .null, .null, .null, .null, .null, .null] ∧ z_Ob Z h' p0 "java/util/ArrayList" z_lay1 [(.int (2 : Int32)), (.ref p1), (.int (2 : Int32))]) := by
  refine z_met (Ls := #[.val (.ref p0), .val (.ref a_ONE), .val (.ref p1), .val (.int (1 : Int32))]) (by first | exact plainFor_of_name (by first | (simp [plainName, overriddenIn]; done) | decide +kernel) | decide +kernel) rfl ?_
  intro p e s m below meth c C
  refine z_iloadN C z_d11_0 rfl 1 rfl ?_
  refine z_aloadN C z_d11_1 rfl rfl 2 rfl ?_
  refine z_arraylength C (z := (10 : Int32)) o_p1 (by rfl) z_d11_2 3 rfl ?_
  refine z_icmpY C z_d11_3 (by decide) (by decide) 11 (by decide) ?_
  refine z_aloadN C z_d11_11 rfl rfl 12 rfl ?_
  refine z_iloadN C z_d11_12 rfl 13 rfl ?_
  refine z_aloadN C z_d11_13 rfl rfl 14 rfl ?_
  refine z_aastore C o_p1 rfl (o_p1.sto (by decide) (Ins.of_exa (S.2.1.2.ext old.2).1 (z_w hw 106 rfl))) (by decide) (of_decide_eq_true rfl) (vs' := [(.ref a_ONE), (.ref a_ONE), .null, .null, .null, .null, .null, .null, .null, .null]) (by rfl) g_p1 z_d11_14 15 rfl ?_
  intro h1 W1 o_p1_1
  have s1 : h1.size = h.size := W1.size
  have k1 : Keep h h1 [p1, p0] := (Keep.refl h [p1, p0]).wr W1 (Or.inl (by simp))
  refine z_aloadN C z_d11_15 rfl rfl 16 rfl ?_
  refine z_iloadN C z_d11_16 rfl 17 rfl ?_
  refine z_iconst C (v := (1 : Int32)) z_d11_17 (by decide) 18 rfl ?_
  refine z_iadd C (z := (2 : Int32)) z_d11_18 (by decide) 19 rfl ?_
  have o_p0_1 := (o_p0.other W1 ne_p0_p1)
  refine z_putO C (z_w hw 83 rfl) Via.refl o_p0_1 (z_lay1_ok hw) 2 rfl (vs' := [(.int (2 : Int32)), (.ref p1), (.int (2 : Int32))]) rfl (Or.inl (z_w hw 84 rfl)) (z_w hw 10 rfl) (ty := .int) (by decide) (by first | rfl | decide) (by first | rfl | decide) g_p0 z_d11_19 22 rfl ?_
  intro h2 W2 o_p0_2
  have s2 : h2.size = h1.size := W2.size
  have k2 : Keep h h2 [p1, p0] := k1.wr W2 (Or.inl (by simp))
  have o_p1_2 := (o_p1_1.other W2 (Ne.symm ne_p0_p1))
  exact z_return C z_d11_22 (by decide) (by decide) ⟨rfl, k2, o_p1_2, o_p0_2⟩
set_option maxHeartbeats 2000000 in
theorem z_c10_15 (l : Launch) {Z : State} {a0 : Array Value} (hw : ∀ d ∈ tables_1, d.before a0 Z = true) {n0 : Nat} {h : Heap} {a_DEF a_ONE a_NONE : Nat} (S : z_St Z a_DEF a_ONE a_NONE) (z0 : n0 ≤ h.size) (old : Old Z n0 h) (p0 : Nat) (p1 : Nat) (o_p0 : z_Ob Z h p0 "java/util/ArrayList" z_lay1 [(.int (1 : Int32)), (.ref p1), (.int (1 : Int32))]) (o_p1 : z_Ar Z h p1 (.object "java/lang/Object") "[Ljava/lang/Object;" "java/lang/Object" [(.ref a_ONE), .null, .null, .null, .null, .null, .null, .null, .null, .null]) (ne_p0_p1 : p0 ≠ p1) (g_p0 : n0 ≤ p0) (g_p1 : n0 ≤ p1) :
    z_Met l Z (⟨"java/util/ArrayList", "add", "(Ljava/lang/Object;)Z"⟩ : MethodName) jdk_38_method_25_code 2 (some .boolean) [] ({ frames := 1, cells := 0, slots := 0, locals := 15 } : Room) n0 #[(.ref p0), (.ref a_ONE)] h (z_val fun w h' => w = (.int (1 : Int32)) ∧ Keep h h' [p0, p1] ∧ z_Ob Z h' p0 "java/util/ArrayList" z_lay1 [(.int (2 : Int32)), (.ref p1), (.int (2 : Int32))] ∧ z_Ar Z h' p1 (.object "java/lang/Object") "[Ljava/lang/Object;" "java/lang/Object" [(.ref a_ONE), (.ref a_ONE), .null, .null, .null, .null, .null, .null, .null, .null]) := by
  refine z_met (Ls := #[.val (.ref p0), .val (.ref a_ONE)]) (by first | exact plainFor_of_name (by first | (simp [plainName, overriddenIn]; done) | decide +kernel) | decide +kernel) rfl ?_
  intro p e s m below meth c C
  refine z_aloadN C z_d10_0 rfl rfl 1 rfl ?_
  refine z_dup C z_d10_1 rfl 2 rfl ?_
  refine z_getO C (z_w hw 81 rfl) (Via.of (z_w hw 82 rfl)) o_p0 0 rfl rfl z_d10_2 5 rfl ?_
  refine z_iconst C (v := (1 : Int32)) z_d10_5 (by decide) 6 rfl ?_
  refine z_iadd C (z := (2 : Int32)) z_d10_6 (by decide) 7 rfl ?_
  refine z_putO C (z_w hw 81 rfl) (Via.of (z_w hw 82 rfl)) o_p0 (z_lay1_ok hw) 0 rfl (vs' := [(.int (2 : Int32)), (.ref p1), (.int (1 : Int32))]) rfl (Or.inl (z_w hw 29 rfl)) (z_w hw 10 rfl) (ty := .int) (by decide) (by first | rfl | decide) (by first | rfl | decide) g_p0 z_d10_7 10 rfl ?_
  intro h1 W1 o_p0_1
  have s1 : h1.size = h.size := W1.size
  have k1 : Keep h h1 [p0, p1] := (Keep.refl h [p0, p1]).wr W1 (Or.inl (by simp))
  refine z_aloadN C z_d10_10 rfl rfl 11 rfl ?_
  refine z_aloadN C z_d10_11 rfl rfl 12 rfl ?_
  refine z_aloadN C z_d10_12 rfl rfl 13 rfl ?_
  refine z_getO C (z_w hw 31 rfl) Via.refl o_p0_1 1 rfl rfl z_d10_13 16 rfl ?_
  refine z_aloadN C z_d10_16 rfl rfl 17 rfl ?_
  refine z_getO C (z_w hw 83 rfl) Via.refl o_p0_1 2 rfl rfl z_d10_17 20 rfl ?_
  have o_p1_1 := (o_p1.other W1 (Ne.symm ne_p0_p1))
  have old1 := (old.wr W1 g_p0)
  refine z_callPV C o_p0_1.1 (z_c11_14 l hw S (by omega) old1 p0 p1 o_p1_1 o_p0_1 ne_p0_p1 g_p1 g_p0) (z_w hw 85 rfl) (z_w hw 86 rfl) (z_w hw 88 rfl) (z_w hw 87 rfl) (z_w hw 11 rfl) (z_w hw 89 rfl) (by decide) z_d10_20 rfl (argsL := [(.ref a_ONE), (.ref p1), (.int (1 : Int32))]) (rest := []) rfl (lenOf z_pd6 rfl) (W := 0) (Nat.le_of_eq rfl) (by decide) (by decide) (by decide) (by decide) 23 rfl ?_
  rintro h2 ⟨K2, o_p1_2, o_p0_2⟩
  have s2 : h1.size ≤ h2.size := K2.1
  have k2 : Keep h h2 [p0, p1] := k1.trans K2 (allS (Or.inl (by simp)) (allS (Or.inl (by simp)) all0))
  refine z_iconst C (v := (1 : Int32)) z_d10_23 (by decide) 24 rfl ?_
  exact z_ireturn C (by simp) rfl z_d10_24 (by decide) (by decide) ⟨_, rfl, rfl, k2, o_p0_2, o_p1_2⟩
set_option maxHeartbeats 2000000 in
theorem z_c15_16 (l : Launch) {Z : State} {a0 : Array Value} (hw : ∀ d ∈ tables_1, d.before a0 Z = true) {n0 : Nat} {h : Heap} {a_DEF a_ONE a_NONE : Nat} (S : z_St Z a_DEF a_ONE a_NONE) (z0 : n0 ≤ h.size) (old : Old Z n0 h) (p0 : Nat) (p1 : Nat) (o_p0 : z_Ob Z h p0 "java/util/ArrayList" z_lay1 [(.int (2 : Int32)), (.ref p1), (.int (2 : Int32))]) :
    z_Met l Z (⟨"java/util/ArrayList", "size", "()I"⟩ : MethodName) jdk_38_method_8_code 1 (some .int) [] ({ frames := 0, cells := 0, slots := 0, locals := 0 } : Room) n0 #[(.ref p0)] h (z_pure (.int (2 : Int32)) h) := by
  refine z_met (Ls := #[.val (.ref p0)]) (by first | exact plainFor_of_name (by first | (simp [plainName, overriddenIn]; done) | decide +kernel) | decide +kernel) rfl ?_
  intro p e s m below meth c C
  refine z_aloadN C z_d15_0 rfl rfl 1 rfl ?_
  refine z_getO C (z_w hw 83 rfl) Via.refl o_p0 2 rfl rfl z_d15_1 4 rfl ?_
  exact z_ireturn C (Or.inl rfl) rfl z_d15_4 (by decide) (by decide) ⟨rfl, rfl⟩
set_option maxHeartbeats 2000000 in
theorem z_c9_17 (l : Launch) {Z : State} {a0 : Array Value} (hw : ∀ d ∈ tables_1, d.before a0 Z = true) {n0 : Nat} {h : Heap} {a_DEF a_ONE a_NONE : Nat} (S : z_St Z a_DEF a_ONE a_NONE) (z0 : n0 ≤ h.size) (old : Old Z n0 h) (p0 : Nat) (p1 : Nat) (p2 : Nat) (p3 : Nat) (p4 : Nat) (p5 : Nat) (p6 : Nat) (p7 : Nat) (o_p0 : z_Ob Z h p0 "com/example/variegate/variegate/service/Cnf" z_lay0 [(.ref p1), (.ref p2), (.ref p3), (.ref p4), (.ref p5)]) (o_p3 : z_Ob Z h p3 "java/util/ArrayList" z_lay1 [(.int (1 : Int32)), (.ref p6), (.int (1 : Int32))]) (o_p6 : z_Ar Z h p6 (.object "java/lang/Object") "[Ljava/lang/Object;" "java/lang/Object" [(.ref a_ONE), .null, .null, .null, .null, .null, .null, .null, .null, .null]) (o_p4 : z_Ob Z h p4 "java/util/ArrayList" z_lay1 [(.int (1 : Int32)), (.ref p7), (.int (1 : Int32))]) (o_p7 : z_Ar Z h p7 (.object "java/lang/Object") "[Ljava/lang/Object;" "java/lang/Object" [(.ref a_ONE), .null, .null, .null, .null, .null, .null, .null, .null, .null]) (ne_p3_p6 : p3 ≠ p6) (ne_p0_p6 : p0 ≠ p6) (ne_p0_p3 : p0 ≠ p3) (ne_p4_p6 : p4 ≠ p6) (ne_p3_p4 : p3 ≠ p4) (ne_p6_p7 : p6 ≠ p7) (ne_p3_p7 : p3 ≠ p7) (ne_p4_p7 : p4 ≠ p7) (ne_p0_p7 : p0 ≠ p7) (ne_p0_p4 : p0 ≠ p4) (g_p3 : n0 ≤ p3) (g_p6 : n0 ≤ p6) (g_p4 : n0 ≤ p4) (g_p7 : n0 ≤ p7) :
    z_Met l Z (⟨"com/example/variegate/variegate/service/Cnf", "newVariable", "()I"⟩ : MethodName) prog_73_method_2_code 1 (some .int) [] ({ frames := 2, cells := 0, slots := 0, locals := 28 } : Room) n0 #[(.ref p0)] h (z_val fun w h' => w = (.int (2 : Int32)) ∧ Keep h h' [p6, p3, p7, p4] ∧ z_Ob Z h' p3 "java/util/ArrayList" z_lay1 [(.int (2 : Int32)), (.ref p6), (.int (2 : Int32))] ∧ z_Ar Z h' p6 (.object "java/lang/Object") "[Ljava/lang/Object;" "java/lang/Object" [(.ref a_ONE), (.ref a_ONE), .null, .null, .null, .null, .null, .null, .null, .null] ∧ z_Ob Z h' p4 "java/util/ArrayList" z_lay1 [(.int (2 : Int32)), (.ref p7), (.int (2 : Int32))] ∧ z_Ar Z h' p7 (.object "java/lang/Object") "[Ljava/lang/Object;" "java/lang/Object" [(.ref a_ONE), (.ref a_ONE), .null, .null, .null, .null, .null, .null, .null, .null]) := by
  refine z_met (Ls := #[.val (.ref p0)]) (by first | exact plainFor_of_name (by first | (simp [plainName, overriddenIn]; done) | decide +kernel) | decide +kernel) rfl ?_
  intro p e s m below meth c C
  refine z_aloadN C z_d9_0 rfl rfl 1 rfl ?_
  refine z_getO C (z_w hw 59 rfl) Via.refl o_p0 2 rfl rfl z_d9_1 4 rfl ?_
  refine z_getstatic C (z_w hw 70 rfl) (S.2.1.1.ext old.2) z_d9_4 7 rfl ?_
  refine z_callF C o_p3.1 (z_c10_15 l hw S (by omega) old p3 p6 o_p3 o_p6 ne_p3_p6 g_p3 g_p6) (z_w hw 72 rfl) (z_w hw 73 rfl) (z_w hw 74 rfl) (z_w hw 75 rfl) (z_w hw 76 rfl) (z_w hw 77 rfl) (z_w hw 78 rfl) (z_w hw 79 rfl) (z_w hw 11 rfl) (z_w hw 80 rfl) (by decide) z_d9_7 rfl (argsL := [(.ref a_ONE)]) (rest := []) rfl (lenOf z_pd7 rfl) (W := 0) (Nat.le_of_eq rfl) (by decide) (by decide) (by decide) (by decide) 12 rfl ?_
  rintro _ h1 ⟨rfl, K1, o_p3_1, o_p6_1⟩
  have s1 : h.size ≤ h1.size := K1.1
  have k1 : Keep h h1 [p6, p3, p7, p4] := (Keep.refl h [p6, p3, p7, p4]).trans K1 (allS (Or.inl (by simp)) (allS (Or.inl (by simp)) all0))
  refine z_pop C z_d9_12 rfl 13 rfl ?_
  refine z_aloadN C z_d9_13 rfl rfl 14 rfl ?_
  have o_p0_1 := (o_p0.keep K1 (ninS ne_p0_p3 (ninS ne_p0_p6 nin0)))
  refine z_getO C (z_w hw 61 rfl) Via.refl o_p0_1 3 rfl rfl z_d9_14 17 rfl ?_
  have old1 := (old.keep K1 (allS g_p3 (allS g_p6 all0)))
  refine z_getstatic C (z_w hw 70 rfl) (S.2.1.1.ext old1.2) z_d9_17 20 rfl ?_
  have o_p4_1 := (o_p4.keep K1 (ninS (Ne.symm ne_p3_p4) (ninS ne_p4_p6 nin0)))
  have o_p7_1 := (o_p7.keep K1 (ninS (Ne.symm ne_p3_p7) (ninS (Ne.symm ne_p6_p7) nin0)))
  refine z_callF C o_p4_1.1 (z_c10_15 l hw S (by omega) old1 p4 p7 o_p4_1 o_p7_1 ne_p4_p7 g_p4 g_p7) (z_w hw 72 rfl) (z_w hw 73 rfl) (z_w hw 74 rfl) (z_w hw 75 rfl) (z_w hw 76 rfl) (z_w hw 77 rfl) (z_w hw 78 rfl) (z_w hw 79 rfl) (z_w hw 11 rfl) (z_w hw 80 rfl) (by decide) z_d9_20 rfl (argsL := [(.ref a_ONE)]) (rest := []) rfl (lenOf z_pd7 rfl) (W := 0) (Nat.le_of_eq rfl) (by decide) (by decide) (by decide) (by decide) 25 rfl ?_
  rintro _ h2 ⟨rfl, K2, o_p4_2, o_p7_2⟩
  have s2 : h1.size ≤ h2.size := K2.1
  have k2 : Keep h h2 [p6, p3, p7, p4] := k1.trans K2 (allS (Or.inl (by simp)) (allS (Or.inl (by simp)) all0))
  refine z_pop C z_d9_25 rfl 26 rfl ?_
  refine z_aloadN C z_d9_26 rfl rfl 27 rfl ?_
  have o_p0_2 := (o_p0_1.keep K2 (ninS ne_p0_p4 (ninS ne_p0_p7 nin0)))
  refine z_getO C (z_w hw 59 rfl) Via.refl o_p0_2 2 rfl rfl z_d9_27 30 rfl ?_
  have o_p3_2 := (o_p3_1.keep K2 (ninS ne_p3_p4 (ninS ne_p3_p7 nin0)))
  have old2 := (old1.keep K2 (allS g_p4 (allS g_p7 all0)))
  refine z_callFp C o_p3_2.1 (z_c15_16 l hw S (by omega) old2 p3 p6 o_p3_2) (z_w hw 107 rfl) (z_w hw 108 rfl) (z_w hw 109 rfl) (z_w hw 110 rfl) (z_w hw 111 rfl) (z_w hw 112 rfl) (z_w hw 113 rfl) (z_w hw 79 rfl) (z_w hw 11 rfl) (z_w hw 114 rfl) (by decide) z_d9_30 rfl (argsL := []) (rest := []) rfl (lenOf z_pd8 rfl) (W := 0) (Nat.le_of_eq rfl) (by decide) (by decide) (by decide) (by decide) (by decide) (by decide) 35 rfl ?_
  have o_p6_2 := (o_p6_1.keep K2 (ninS (Ne.symm ne_p4_p6) (ninS ne_p6_p7 nin0)))
  exact z_ireturn C (Or.inl rfl) rfl z_d9_35 (by decide) (by decide) ⟨_, rfl, rfl, k2, o_p3_2, o_p6_2, o_p4_2, o_p7_2⟩
set_option maxHeartbeats 2000000 in
theorem z_c11_18 (l : Launch) {Z : State} {a0 : Array Value} (hw : ∀ d ∈ tables_1, d.before a0 Z = true) {n0 : Nat} {h : Heap} {a_DEF a_ONE a_NONE : Nat} (S : z_St Z a_DEF a_ONE a_NONE) (z0 : n0 ≤ h.size) (old : Old Z n0 h) (p0 : Nat) (p1 : Nat) (o_p1 : z_Ar Z h p1 (.object "java/lang/Object") "[Ljava/lang/Object;" "java/lang/Object" [(.ref a_ONE), (.ref a_ONE), .null, .null, .null, .null, .null, .null, .null, .null]) (o_p0 : z_Ob Z h p0 "java/util/ArrayList" z_lay1 [(.int (3 : Int32)), (.ref p1), (.int (2 : Int32))]) (ne_p0_p1 : p0 ≠ p1) (g_p1 : n0 ≤ p1) (g_p0 : n0 ≤ p0) :
    z_Met l Z (⟨"java/util/ArrayList", "add", "(Ljava/lang/Object;[Ljava/lang/Object;I)V"⟩ : MethodName) jdk_38_method_24_code 4 none [] ({ frames := 0, cells := 0, slots := 0, locals := 0 } : Room) n0 #[(.ref p0), (.ref a_ONE), (.ref p1), (.int (2 : Int32))] h (z_nov fun h' => Keep h h' [p1, p0] ∧ z_Ar Z h' p1 (.object "java/lang/Object") "[Ljava/lang/Object;" "java/lang/Object" [(.ref a_ONE), (.ref a_ONE), (.ref a_ONE), .null, .null, .null, .null, .null, .null, .null] ∧ z_Ob Z h' p0 "java/util/ArrayList" z_lay1 [(.int (3 : Int32)), (.ref p1), (.int (3 : Int32))]) := by
  refine z_met (Ls := #[.val (.ref p0), .val (.ref a_ONE), .val (.ref p1), .val (.int (2 : Int32))]) (by first | exact plainFor_of_name (by first | (simp [plainName, overriddenIn]; done) | decide +kernel) | decide +kernel) rfl ?_
  intro p e s m below meth c C
  refine z_iloadN C z_d11_0 rfl 1 rfl ?_
  refine z_aloadN C z_d11_1 rfl rfl 2 rfl ?_
  refine z_arraylength C (z := (10 : Int32)) o_p1 (by rfl) z_d11_2 3 rfl ?_
  refine z_icmpY C z_d11_3 (by decide) (by decide) 11 (by decide) ?_
  refine z_aloadN C z_d11_11 rfl rfl 12 rfl ?_
  refine z_iloadN C z_d11_12 rfl 13 rfl ?_
  refine z_aloadN C z_d11_13 rfl rfl 14 rfl ?_
  refine z_aastore C o_p1 rfl (o_p1.sto (by decide) (Ins.of_exa (S.2.1.2.ext old.2).1 (z_w hw 106 rfl))) (by decide) (of_decide_eq_true rfl) (vs' := [(.ref a_ONE), (.ref a_ONE), (.ref a_ONE), .null, .null, .null, .null, .null, .null, .null]) (by rfl) g_p1 z_d11_14 15 rfl ?_
  intro h1 W1 o_p1_1
  have s1 : h1.size = h.size := W1.size
  have k1 : Keep h h1 [p1, p0] := (Keep.refl h [p1, p0]).wr W1 (Or.inl (by simp))
  refine z_aloadN C z_d11_15 rfl rfl 16 rfl ?_
  refine z_iloadN C z_d11_16 rfl 17 rfl ?_
  refine z_iconst C (v := (1 : Int32)) z_d11_17 (by decide) 18 rfl ?_
  refine z_iadd C (z := (3 : Int32)) z_d11_18 (by decide) 19 rfl ?_
  have o_p0_1 := (o_p0.other W1 ne_p0_p1)
  refine z_putO C (z_w hw 83 rfl) Via.refl o_p0_1 (z_lay1_ok hw) 2 rfl (vs' := [(.int (3 : Int32)), (.ref p1), (.int (3 : Int32))]) rfl (Or.inl (z_w hw 84 rfl)) (z_w hw 10 rfl) (ty := .int) (by decide) (by first | rfl | decide) (by first | rfl | decide) g_p0 z_d11_19 22 rfl ?_
  intro h2 W2 o_p0_2
  have s2 : h2.size = h1.size := W2.size
  have k2 : Keep h h2 [p1, p0] := k1.wr W2 (Or.inl (by simp))
  have o_p1_2 := (o_p1_1.other W2 (Ne.symm ne_p0_p1))
  exact z_return C z_d11_22 (by decide) (by decide) ⟨rfl, k2, o_p1_2, o_p0_2⟩
set_option maxHeartbeats 2000000 in
theorem z_c10_19 (l : Launch) {Z : State} {a0 : Array Value} (hw : ∀ d ∈ tables_1, d.before a0 Z = true) {n0 : Nat} {h : Heap} {a_DEF a_ONE a_NONE : Nat} (S : z_St Z a_DEF a_ONE a_NONE) (z0 : n0 ≤ h.size) (old : Old Z n0 h) (p0 : Nat) (p1 : Nat) (o_p0 : z_Ob Z h p0 "java/util/ArrayList" z_lay1 [(.int (2 : Int32)), (.ref p1), (.int (2 : Int32))]) (o_p1 : z_Ar Z h p1 (.object "java/lang/Object") "[Ljava/lang/Object;" "java/lang/Object" [(.ref a_ONE), (.ref a_ONE), .null, .null, .null, .null, .null, .null, .null, .null]) (ne_p0_p1 : p0 ≠ p1) (g_p0 : n0 ≤ p0) (g_p1 : n0 ≤ p1) :
    z_Met l Z (⟨"java/util/ArrayList", "add", "(Ljava/lang/Object;)Z"⟩ : MethodName) jdk_38_method_25_code 2 (some .boolean) [] ({ frames := 1, cells := 0, slots := 0, locals := 15 } : Room) n0 #[(.ref p0), (.ref a_ONE)] h (z_val fun w h' => w = (.int (1 : Int32)) ∧ Keep h h' [p0, p1] ∧ z_Ob Z h' p0 "java/util/ArrayList" z_lay1 [(.int (3 : Int32)), (.ref p1), (.int (3 : Int32))] ∧ z_Ar Z h' p1 (.object "java/lang/Object") "[Ljava/lang/Object;" "java/lang/Object" [(.ref a_ONE), (.ref a_ONE), (.ref a_ONE), .null, .null, .null, .null, .null, .null, .null]) := by
  refine z_met (Ls := #[.val (.ref p0), .val (.ref a_ONE)]) (by first | exact plainFor_of_name (by first | (simp [plainName, overriddenIn]; done) | decide +kernel) | decide +kernel) rfl ?_
  intro p e s m below meth c C
  refine z_aloadN C z_d10_0 rfl rfl 1 rfl ?_
  refine z_dup C z_d10_1 rfl 2 rfl ?_
  refine z_getO C (z_w hw 81 rfl) (Via.of (z_w hw 82 rfl)) o_p0 0 rfl rfl z_d10_2 5 rfl ?_
  refine z_iconst C (v := (1 : Int32)) z_d10_5 (by decide) 6 rfl ?_
  refine z_iadd C (z := (3 : Int32)) z_d10_6 (by decide) 7 rfl ?_
  refine z_putO C (z_w hw 81 rfl) (Via.of (z_w hw 82 rfl)) o_p0 (z_lay1_ok hw) 0 rfl (vs' := [(.int (3 : Int32)), (.ref p1), (.int (2 : Int32))]) rfl (Or.inl (z_w hw 29 rfl)) (z_w hw 10 rfl) (ty := .int) (by decide) (by first | rfl | decide) (by first | rfl | decide) g_p0 z_d10_7 10 rfl ?_
  intro h1 W1 o_p0_1
  have s1 : h1.size = h.size := W1.size
  have k1 : Keep h h1 [p0, p1] := (Keep.refl h [p0, p1]).wr W1 (Or.inl (by simp))
  refine z_aloadN C z_d10_10 rfl rfl 11 rfl ?_
  refine z_aloadN C z_d10_11 rfl rfl 12 rfl ?_
  refine z_aloadN C z_d10_12 rfl rfl 13 rfl ?_
  refine z_getO C (z_w hw 31 rfl) Via.refl o_p0_1 1 rfl rfl z_d10_13 16 rfl ?_
  refine z_aloadN C z_d10_16 rfl rfl 17 rfl ?_
  refine z_getO C (z_w hw 83 rfl) Via.refl o_p0_1 2 rfl rfl z_d10_17 20 rfl ?_
  have o_p1_1 := (o_p1.other W1 (Ne.symm ne_p0_p1))
  have old1 := (old.wr W1 g_p0)
  refine z_callPV C o_p0_1.1 (z_c11_18 l hw S (by omega) old1 p0 p1 o_p1_1 o_p0_1 ne_p0_p1 g_p1 g_p0) (z_w hw 85 rfl) (z_w hw 86 rfl) (z_w hw 88 rfl) (z_w hw 87 rfl) (z_w hw 11 rfl) (z_w hw 89 rfl) (by decide) z_d10_20 rfl (argsL := [(.ref a_ONE), (.ref p1), (.int (2 : Int32))]) (rest := []) rfl (lenOf z_pd6 rfl) (W := 0) (Nat.le_of_eq rfl) (by decide) (by decide) (by decide) (by decide) 23 rfl ?_
  rintro h2 ⟨K2, o_p1_2, o_p0_2⟩
  have s2 : h1.size ≤ h2.size := K2.1
  have k2 : Keep h h2 [p0, p1] := k1.trans K2 (allS (Or.inl (by simp)) (allS (Or.inl (by simp)) all0))
  refine z_iconst C (v := (1 : Int32)) z_d10_23 (by decide) 24 rfl ?_
  exact z_ireturn C (by simp) rfl z_d10_24 (by decide) (by decide) ⟨_, rfl, rfl, k2, o_p0_2, o_p1_2⟩
set_option maxHeartbeats 2000000 in
theorem z_c15_20 (l : Launch) {Z : State} {a0 : Array Value} (hw : ∀ d ∈ tables_1, d.before a0 Z = true) {n0 : Nat} {h : Heap} {a_DEF a_ONE a_NONE : Nat} (S : z_St Z a_DEF a_ONE a_NONE) (z0 : n0 ≤ h.size) (old : Old Z n0 h) (p0 : Nat) (p1 : Nat) (o_p0 : z_Ob Z h p0 "java/util/ArrayList" z_lay1 [(.int (3 : Int32)), (.ref p1), (.int (3 : Int32))]) :
    z_Met l Z (⟨"java/util/ArrayList", "size", "()I"⟩ : MethodName) jdk_38_method_8_code 1 (some .int) [] ({ frames := 0, cells := 0, slots := 0, locals := 0 } : Room) n0 #[(.ref p0)] h (z_pure (.int (3 : Int32)) h) := by
  refine z_met (Ls := #[.val (.ref p0)]) (by first | exact plainFor_of_name (by first | (simp [plainName, overriddenIn]; done) | decide +kernel) | decide +kernel) rfl ?_
  intro p e s m below meth c C
  refine z_aloadN C z_d15_0 rfl rfl 1 rfl ?_
  refine z_getO C (z_w hw 83 rfl) Via.refl o_p0 2 rfl rfl z_d15_1 4 rfl ?_
  exact z_ireturn C (Or.inl rfl) rfl z_d15_4 (by decide) (by decide) ⟨rfl, rfl⟩
set_option maxHeartbeats 2000000 in
theorem z_c9_21 (l : Launch) {Z : State} {a0 : Array Value} (hw : ∀ d ∈ tables_1, d.before a0 Z = true) {n0 : Nat} {h : Heap} {a_DEF a_ONE a_NONE : Nat} (S : z_St Z a_DEF a_ONE a_NONE) (z0 : n0 ≤ h.size) (old : Old Z n0 h) (p0 : Nat) (p1 : Nat) (p2 : Nat) (p3 : Nat) (p4 : Nat) (p5 : Nat) (p6 : Nat) (p7 : Nat) (o_p0 : z_Ob Z h p0 "com/example/variegate/variegate/service/Cnf" z_lay0 [(.ref p1), (.ref p2), (.ref p3), (.ref p4), (.ref p5)]) (o_p3 : z_Ob Z h p3 "java/util/ArrayList" z_lay1 [(.int (2 : Int32)), (.ref p6), (.int (2 : Int32))]) (o_p6 : z_Ar Z h p6 (.object "java/lang/Object") "[Ljava/lang/Object;" "java/lang/Object" [(.ref a_ONE), (.ref a_ONE), .null, .null, .null, .null, .null, .null, .null, .null]) (o_p4 : z_Ob Z h p4 "java/util/ArrayList" z_lay1 [(.int (2 : Int32)), (.ref p7), (.int (2 : Int32))]) (o_p7 : z_Ar Z h p7 (.object "java/lang/Object") "[Ljava/lang/Object;" "java/lang/Object" [(.ref a_ONE), (.ref a_ONE), .null, .null, .null, .null, .null, .null, .null, .null]) (ne_p3_p6 : p3 ≠ p6) (ne_p0_p6 : p0 ≠ p6) (ne_p0_p3 : p0 ≠ p3) (ne_p4_p6 : p4 ≠ p6) (ne_p3_p4 : p3 ≠ p4) (ne_p6_p7 : p6 ≠ p7) (ne_p3_p7 : p3 ≠ p7) (ne_p4_p7 : p4 ≠ p7) (ne_p0_p7 : p0 ≠ p7) (ne_p0_p4 : p0 ≠ p4) (g_p3 : n0 ≤ p3) (g_p6 : n0 ≤ p6) (g_p4 : n0 ≤ p4) (g_p7 : n0 ≤ p7) :
    z_Met l Z (⟨"com/example/variegate/variegate/service/Cnf", "newVariable", "()I"⟩ : MethodName) prog_73_method_2_code 1 (some .int) [] ({ frames := 2, cells := 0, slots := 0, locals := 28 } : Room) n0 #[(.ref p0)] h (z_val fun w h' => w = (.int (3 : Int32)) ∧ Keep h h' [p6, p3, p7, p4] ∧ z_Ob Z h' p3 "java/util/ArrayList" z_lay1 [(.int (3 : Int32)), (.ref p6), (.int (3 : Int32))] ∧ z_Ar Z h' p6 (.object "java/lang/Object") "[Ljava/lang/Object;" "java/lang/Object" [(.ref a_ONE), (.ref a_ONE), (.ref a_ONE), .null, .null, .null, .null, .null, .null, .null] ∧ z_Ob Z h' p4 "java/util/ArrayList" z_lay1 [(.int (3 : Int32)), (.ref p7), (.int (3 : Int32))] ∧ z_Ar Z h' p7 (.object "java/lang/Object") "[Ljava/lang/Object;" "java/lang/Object" [(.ref a_ONE), (.ref a_ONE), (.ref a_ONE), .null, .null, .null, .null, .null, .null, .null]) := by
  refine z_met (Ls := #[.val (.ref p0)]) (by first | exact plainFor_of_name (by first | (simp [plainName, overriddenIn]; done) | decide +kernel) | decide +kernel) rfl ?_
  intro p e s m below meth c C
  refine z_aloadN C z_d9_0 rfl rfl 1 rfl ?_
  refine z_getO C (z_w hw 59 rfl) Via.refl o_p0 2 rfl rfl z_d9_1 4 rfl ?_
  refine z_getstatic C (z_w hw 70 rfl) (S.2.1.1.ext old.2) z_d9_4 7 rfl ?_
  refine z_callF C o_p3.1 (z_c10_19 l hw S (by omega) old p3 p6 o_p3 o_p6 ne_p3_p6 g_p3 g_p6) (z_w hw 72 rfl) (z_w hw 73 rfl) (z_w hw 74 rfl) (z_w hw 75 rfl) (z_w hw 76 rfl) (z_w hw 77 rfl) (z_w hw 78 rfl) (z_w hw 79 rfl) (z_w hw 11 rfl) (z_w hw 80 rfl) (by decide) z_d9_7 rfl (argsL := [(.ref a_ONE)]) (rest := []) rfl (lenOf z_pd7 rfl) (W := 0) (Nat.le_of_eq rfl) (by decide) (by decide) (by decide) (by decide) 12 rfl ?_
  rintro _ h1 ⟨rfl, K1, o_p3_1, o_p6_1⟩
  have s1 : h.size ≤ h1.size := K1.1
  have k1 : Keep h h1 [p6, p3, p7, p4] := (Keep.refl h [p6, p3, p7, p4]).trans K1 (allS (Or.inl (by simp)) (allS (Or.inl (by simp)) all0))
  refine z_pop C z_d9_12 rfl 13 rfl ?_
  refine z_aloadN C z_d9_13 rfl rfl 14 rfl ?_
  have o_p0_1 := (o_p0.keep K1 (ninS ne_p0_p3 (ninS ne_p0_p6 nin0)))
  refine z_getO C (z_w hw 61 rfl) Via.refl o_p0_1 3 rfl rfl z_d9_14 17 rfl ?_
  have old1 := (old.keep K1 (allS g_p3 (allS g_p6 all0)))
  refine z_getstatic C (z_w hw 70 rfl) (S.2.1.1.ext old1.2) z_d9_17 20 rfl ?_
  have o_p4_1 := (o_p4.keep K1 (ninS (Ne.symm ne_p3_p4) (ninS ne_p4_p6 nin0)))
  have o_p7_1 := (o_p7.keep K1 (ninS (Ne.symm ne_p3_p7) (ninS (Ne.symm ne_p6_p7) nin0)))
  refine z_callF C o_p4_1.1 (z_c10_19 l hw S (by omega) old1 p4 p7 o_p4_1 o_p7_1 ne_p4_p7 g_p4 g_p7) (z_w hw 72 rfl) (z_w hw 73 rfl) (z_w hw 74 rfl) (z_w hw 75 rfl) (z_w hw 76 rfl) (z_w hw 77 rfl) (z_w hw 78 rfl) (z_w hw 79 rfl) (z_w hw 11 rfl) (z_w hw 80 rfl) (by decide) z_d9_20 rfl (argsL := [(.ref a_ONE)]) (rest := []) rfl (lenOf z_pd7 rfl) (W := 0) (Nat.le_of_eq rfl) (by decide) (by decide) (by decide) (by decide) 25 rfl ?_
  rintro _ h2 ⟨rfl, K2, o_p4_2, o_p7_2⟩
  have s2 : h1.size ≤ h2.size := K2.1
  have k2 : Keep h h2 [p6, p3, p7, p4] := k1.trans K2 (allS (Or.inl (by simp)) (allS (Or.inl (by simp)) all0))
  refine z_pop C z_d9_25 rfl 26 rfl ?_
  refine z_aloadN C z_d9_26 rfl rfl 27 rfl ?_
  have o_p0_2 := (o_p0_1.keep K2 (ninS ne_p0_p4 (ninS ne_p0_p7 nin0)))
  refine z_getO C (z_w hw 59 rfl) Via.refl o_p0_2 2 rfl rfl z_d9_27 30 rfl ?_
  have o_p3_2 := (o_p3_1.keep K2 (ninS ne_p3_p4 (ninS ne_p3_p7 nin0)))
  have old2 := (old1.keep K2 (allS g_p4 (allS g_p7 all0)))
  refine z_callFp C o_p3_2.1 (z_c15_20 l hw S (by omega) old2 p3 p6 o_p3_2) (z_w hw 107 rfl) (z_w hw 108 rfl) (z_w hw 109 rfl) (z_w hw 110 rfl) (z_w hw 111 rfl) (z_w hw 112 rfl) (z_w hw 113 rfl) (z_w hw 79 rfl) (z_w hw 11 rfl) (z_w hw 114 rfl) (by decide) z_d9_30 rfl (argsL := []) (rest := []) rfl (lenOf z_pd8 rfl) (W := 0) (Nat.le_of_eq rfl) (by decide) (by decide) (by decide) (by decide) (by decide) (by decide) 35 rfl ?_
  have o_p6_2 := (o_p6_1.keep K2 (ninS (Ne.symm ne_p4_p6) (ninS ne_p6_p7 nin0)))
  exact z_ireturn C (Or.inl rfl) rfl z_d9_35 (by decide) (by decide) ⟨_, rfl, rfl, k2, o_p3_2, o_p6_2, o_p4_2, o_p7_2⟩
set_option maxHeartbeats 2000000 in
theorem z_c17_22 (l : Launch) {Z : State} {a0 : Array Value} (hw : ∀ d ∈ tables_1, d.before a0 Z = true) {n0 : Nat} {h : Heap} {a_DEF a_ONE a_NONE : Nat} (S : z_St Z a_DEF a_ONE a_NONE) (z0 : n0 ≤ h.size) (old : Old Z n0 h) (p0 : Nat) (p1 : Nat) (p2 : Nat) (p3 : Nat) (p4 : Nat) (p5 : Nat) (p6 : Nat) (o_p0 : z_Ob Z h p0 "com/example/variegate/variegate/service/Cnf" z_lay0 [(.ref p1), (.ref p2), (.ref p3), (.ref p4), (.ref p5)]) (o_p3 : z_Ob Z h p3 "java/util/ArrayList" z_lay1 [(.int (3 : Int32)), (.ref p6), (.int (3 : Int32))]) :
    z_Met l Z (⟨"com/example/variegate/variegate/service/Cnf", "variables", "()I"⟩ : MethodName) prog_73_method_8_code 1 (some .int) [] ({ frames := 1, cells := 0, slots := 0, locals := 12 } : Room) n0 #[(.ref p0)] h (z_pure (.int (3 : Int32)) h) := by
  refine z_met (Ls := #[.val (.ref p0)]) (by first | exact plainFor_of_name (by first | (simp [plainName, overriddenIn]; done) | decide +kernel) | decide +kernel) rfl ?_
  intro p e s m below meth c C
  refine z_aloadN C z_d17_0 rfl rfl 1 rfl ?_
  refine z_getO C (z_w hw 59 rfl) Via.refl o_p0 2 rfl rfl z_d17_1 4 rfl ?_
  refine z_callFp C o_p3.1 (z_c15_20 l hw S (by omega) old p3 p6 o_p3) (z_w hw 107 rfl) (z_w hw 108 rfl) (z_w hw 109 rfl) (z_w hw 110 rfl) (z_w hw 111 rfl) (z_w hw 112 rfl) (z_w hw 113 rfl) (z_w hw 79 rfl) (z_w hw 11 rfl) (z_w hw 114 rfl) (by decide) z_d17_4 rfl (argsL := []) (rest := []) rfl (lenOf z_pd8 rfl) (W := 0) (Nat.le_of_eq rfl) (by decide) (by decide) (by decide) (by decide) (by decide) (by decide) 9 rfl ?_
  exact z_ireturn C (Or.inl rfl) rfl z_d17_9 (by decide) (by decide) ⟨rfl, rfl⟩
set_option maxHeartbeats 2000000 in
theorem z_c21_23 (l : Launch) {Z : State} {a0 : Array Value} (hw : ∀ d ∈ tables_1, d.before a0 Z = true) {n0 : Nat} {h : Heap} {a_DEF a_ONE a_NONE : Nat} (S : z_St Z a_DEF a_ONE a_NONE) (z0 : n0 ≤ h.size) (old : Old Z n0 h) :
    z_Met l Z (⟨"jdk/internal/util/Preconditions", "checkIndex", "(IILjava/util/function/BiFunction;)I"⟩ : MethodName) jdk_41_method_11_code 3 (some .int) [] ({ frames := 0, cells := 0, slots := 0, locals := 0 } : Room) n0 #[(.int (0 : Int32)), (.int (3 : Int32)), .null] h (z_pure (.int (0 : Int32)) h) := by
  refine z_met (Ls := #[.val (.int (0 : Int32)), .val (.int (3 : Int32)), .val .null]) (by first | exact plainFor_of_name (by first | (simp [plainName, overriddenIn]; done) | decide +kernel) | decide +kernel) rfl ?_
  intro p e s m below meth c C
  refine z_iloadN C z_d21_0 rfl 1 rfl ?_
  refine z_ifN C z_d21_1 (by decide) 4 rfl ?_
  refine z_iloadN C z_d21_4 rfl 5 rfl ?_
  refine z_iloadN C z_d21_5 rfl 6 rfl ?_
  refine z_icmpY C z_d21_6 (by decide) (by decide) 16 (by decide) ?_
  refine z_iloadN C z_d21_16 rfl 17 rfl ?_
  exact z_ireturn C (Or.inl rfl) rfl z_d21_17 (by decide) (by decide) ⟨rfl, rfl⟩
set_option maxHeartbeats 2000000 in
theorem z_c20_24 (l : Launch) {Z : State} {a0 : Array Value} (hw : ∀ d ∈ tables_1, d.before a0 Z = true) {n0 : Nat} {h : Heap} {a_DEF a_ONE a_NONE : Nat} (S : z_St Z a_DEF a_ONE a_NONE) (z0 : n0 ≤ h.size) (old : Old Z n0 h) :
    z_Met l Z (⟨"java/util/Objects", "checkIndex", "(II)I"⟩ : MethodName) jdk_31_method_17_code 2 (some .int) [] ({ frames := 1, cells := 0, slots := 0, locals := 14 } : Room) n0 #[(.int (0 : Int32)), (.int (3 : Int32))] h (z_pure (.int (0 : Int32)) h) := by
  refine z_met (Ls := #[.val (.int (0 : Int32)), .val (.int (3 : Int32))]) (by first | exact plainFor_of_name (by first | (simp [plainName, overriddenIn]; done) | decide +kernel) | decide +kernel) rfl ?_
  intro p e s m below meth c C
  refine z_iloadN C z_d20_0 rfl 1 rfl ?_
  refine z_iloadN C z_d20_1 rfl 2 rfl ?_
  refine z_aconst_null C z_d20_2 3 rfl ?_
  refine z_callSp C (z_c21_23 l hw S (by omega) old) (z_w hw 150 rfl) (z_w hw 151 rfl) (z_w hw 152 rfl) (z_w hw 153 rfl) (by decide) z_d20_3 rfl (argsL := [(.int (0 : Int32)), (.int (3 : Int32)), .null]) (rest := []) rfl (lenOf z_pd9 rfl) (W := 0) (Nat.le_of_eq rfl) (by decide) (by decide) (by decide) (by decide) (by decide) (by decide) 6 rfl ?_
  exact z_ireturn C (Or.inl rfl) rfl z_d20_6 (by decide) (by decide) ⟨rfl, rfl⟩
set_option maxHeartbeats 2000000 in
theorem z_c22_25 (l : Launch) {Z : State} {a0 : Array Value} (hw : ∀ d ∈ tables_1, d.before a0 Z = true) {n0 : Nat} {h : Heap} {a_DEF a_ONE a_NONE : Nat} (S : z_St Z a_DEF a_ONE a_NONE) (z0 : n0 ≤ h.size) (old : Old Z n0 h) (p0 : Nat) (p1 : Nat) (o_p0 : z_Ob Z h p0 "java/util/ArrayList" z_lay1 [(.int (3 : Int32)), (.ref p1), (.int (3 : Int32))]) (o_p1 : z_Ar Z h p1 (.object "java/lang/Object") "[Ljava/lang/Object;" "java/lang/Object" [(.ref a_ONE), (.ref a_ONE), (.ref a_ONE), .null, .null, .null, .null, .null, .null, .null]) :
    z_Met l Z (⟨"java/util/ArrayList", "elementData", "(I)Ljava/lang/Object;"⟩ : MethodName) jdk_38_method_18_code 2 (some (.object "java/lang/Object")) [] ({ frames := 0, cells := 0, slots := 0, locals := 0 } : Room) n0 #[(.ref p0), (.int (0 : Int32))] h (z_pure (.ref a_ONE) h) := by
  refine z_met (Ls := #[.val (.ref p0), .val (.int (0 : Int32))]) (by first | exact plainFor_of_name (by first | (simp [plainName, overriddenIn]; done) | decide +kernel) | decide +kernel) rfl ?_
  intro p e s m below meth c C
  refine z_aloadN C z_d22_0 rfl rfl 1 rfl ?_
  refine z_getO C (z_w hw 31 rfl) Via.refl o_p0 1 rfl rfl z_d22_1 4 rfl ?_
  refine z_iloadN C z_d22_4 rfl 5 rfl ?_
  refine z_aaload C o_p1 rfl (by decide) (v := (.ref a_ONE)) (by rfl) z_d22_5 6 rfl ?_
  exact z_areturn C rfl rfl z_d22_6 (by decide) (by decide) ⟨rfl, rfl⟩
set_option maxHeartbeats 2000000 in
theorem z_c19_26 (l : Launch) {Z : State} {a0 : Array Value} (hw : ∀ d ∈ tables_1, d.before a0 Z = true) {n0 : Nat} {h : Heap} {a_DEF a_ONE a_NONE : Nat} (S : z_St Z a_DEF a_ONE a_NONE) (z0 : n0 ≤ h.size) (old : Old Z n0 h) (p0 : Nat) (p1 : Nat) (o_p0 : z_Ob Z h p0 "java/util/ArrayList" z_lay1 [(.int (3 : Int32)), (.ref p1), (.int (3 : Int32))]) (o_p1 : z_Ar Z h p1 (.object "java/lang/Object") "[Ljava/lang/Object;" "java/lang/Object" [(.ref a_ONE), (.ref a_ONE), (.ref a_ONE), .null, .null, .null, .null, .null, .null, .null]) :
    z_Met l Z (⟨"java/util/ArrayList", "get", "(I)Ljava/lang/Object;"⟩ : MethodName) jdk_38_method_20_code 2 (some (.object "java/lang/Object")) [] ({ frames := 2, cells := 0, slots := 0, locals := 27 } : Room) n0 #[(.ref p0), (.int (0 : Int32))] h (z_pure (.ref a_ONE) h) := by
  refine z_met (Ls := #[.val (.ref p0), .val (.int (0 : Int32))]) (by first | exact plainFor_of_name (by first | (simp [plainName, overriddenIn]; done) | decide +kernel) | decide +kernel) rfl ?_
  intro p e s m below meth c C
  refine z_iloadN C z_d19_0 rfl 1 rfl ?_
  refine z_aloadN C z_d19_1 rfl rfl 2 rfl ?_
  refine z_getO C (z_w hw 83 rfl) Via.refl o_p0 2 rfl rfl z_d19_2 5 rfl ?_
  refine z_callSp C (z_c20_24 l hw S (by omega) old) (z_w hw 146 rfl) (z_w hw 147 rfl) (z_w hw 148 rfl) (z_w hw 149 rfl) (by decide) z_d19_5 rfl (argsL := [(.int (0 : Int32)), (.int (3 : Int32))]) (rest := []) rfl (lenOf z_pd3 rfl) (W := 0) (Nat.le_of_eq rfl) (by decide) (by decide) (by decide) (by decide) (by decide) (by decide) 8 rfl ?_
  refine z_pop C z_d19_8 rfl 9 rfl ?_
  refine z_aloadN C z_d19_9 rfl rfl 10 rfl ?_
  refine z_iloadN C z_d19_10 rfl 11 rfl ?_
  refine z_callVp C o_p0.1 (z_c22_25 l hw S (by omega) old p0 p1 o_p0 o_p1) (z_w hw 154 rfl) (z_w hw 155 rfl) (z_w hw 157 rfl) (z_w hw 156 rfl) (z_w hw 11 rfl) (z_w hw 158 rfl) (by decide) z_d19_11 rfl (argsL := [(.int (0 : Int32))]) (rest := []) rfl (lenOf z_pd10 rfl) (W := 0) (Nat.le_of_eq rfl) (by decide) (by decide) (by decide) (by decide) (by decide) (by decide) 14 rfl ?_
  exact z_areturn C rfl rfl z_d19_14 (by decide) (by decide) ⟨rfl, rfl⟩
set_option maxHeartbeats 2000000 in
theorem z_c18_27 (l : Launch) {Z : State} {a0 : Array Value} (hw : ∀ d ∈ tables_1, d.before a0 Z = true) {n0 : Nat} {h : Heap} {a_DEF a_ONE a_NONE : Nat} (S : z_St Z a_DEF a_ONE a_NONE) (z0 : n0 ≤ h.size) (old : Old Z n0 h) (p0 : Nat) (p1 : Nat) (p2 : Nat) (p3 : Nat) (p4 : Nat) (p5 : Nat) (p6 : Nat) (o_p0 : z_Ob Z h p0 "com/example/variegate/variegate/service/Cnf" z_lay0 [(.ref p1), (.ref p2), (.ref p3), (.ref p4), (.ref p5)]) (o_p3 : z_Ob Z h p3 "java/util/ArrayList" z_lay1 [(.int (3 : Int32)), (.ref p6), (.int (3 : Int32))]) (o_p6 : z_Ar Z h p6 (.object "java/lang/Object") "[Ljava/lang/Object;" "java/lang/Object" [(.ref a_ONE), (.ref a_ONE), (.ref a_ONE), .null, .null, .null, .null, .null, .null, .null]) :
    z_Met l Z (⟨"com/example/variegate/variegate/service/Cnf", "weight", "(I)Ljava/math/BigInteger;"⟩ : MethodName) prog_73_method_10_code 2 (some (.object "java/math/BigInteger")) [] ({ frames := 3, cells := 0, slots := 0, locals := 40 } : Room) n0 #[(.ref p0), (.int (1 : Int32))] h (z_pure (.ref a_ONE) h) := by
  refine z_met (Ls := #[.val (.ref p0), .val (.int (1 : Int32))]) (by first | exact plainFor_of_name (by first | (simp [plainName, overriddenIn]; done) | decide +kernel) | decide +kernel) rfl ?_
  intro p e s m below meth c C
  refine z_iloadN C z_d18_0 rfl 1 rfl ?_
  refine z_ifN C z_d18_1 (by decide) 4 rfl ?_
  refine z_aloadN C z_d18_4 rfl rfl 5 rfl ?_
  refine z_getO C (z_w hw 59 rfl) Via.refl o_p0 2 rfl rfl z_d18_5 8 rfl ?_
  refine z_iloadN C z_d18_8 rfl 9 rfl ?_
  refine z_iconst C (v := (1 : Int32)) z_d18_9 (by decide) 10 rfl ?_
  refine z_isub C (z := (0 : Int32)) z_d18_10 (by decide) 11 rfl ?_
  refine z_callFp C o_p3.1 (z_c19_26 l hw S (by omega) old p3 p6 o_p3 o_p6) (z_w hw 138 rfl) (z_w hw 139 rfl) (z_w hw 140 rfl) (z_w hw 141 rfl) (z_w hw 142 rfl) (z_w hw 143 rfl) (z_w hw 144 rfl) (z_w hw 79 rfl) (z_w hw 11 rfl) (z_w hw 145 rfl) (by decide) z_d18_11 rfl (argsL := [(.int (0 : Int32))]) (rest := []) rfl (lenOf z_pd10 rfl) (W := 0) (Nat.le_of_eq rfl) (by decide) (by decide) (by decide) (by decide) (by decide) (by decide) 16 rfl ?_
  refine z_castY C (z_w hw 159 rfl) (Ins.self (S.2.1.2.ext old.2).1) z_d18_16 19 rfl ?_
  refine z_goto C z_d18_19 (by decide) 38 (by decide) ?_
  exact z_areturn C rfl rfl z_d18_38 (by decide) (by decide) ⟨rfl, rfl⟩
set_option maxHeartbeats 2000000 in
theorem z_c18_28 (l : Launch) {Z : State} {a0 : Array Value} (hw : ∀ d ∈ tables_1, d.before a0 Z = true) {n0 : Nat} {h : Heap} {a_DEF a_ONE a_NONE : Nat} (S : z_St Z a_DEF a_ONE a_NONE) (z0 : n0 ≤ h.size) (old : Old Z n0 h) (p0 : Nat) (p1 : Nat) (p2 : Nat) (p3 : Nat) (p4 : Nat) (p5 : Nat) (p6 : Nat) (o_p0 : z_Ob Z h p0 "com/example/variegate/variegate/service/Cnf" z_lay0 [(.ref p1), (.ref p2), (.ref p3), (.ref p4), (.ref p5)]) (o_p4 : z_Ob Z h p4 "java/util/ArrayList" z_lay1 [(.int (3 : Int32)), (.ref p6), (.int (3 : Int32))]) (o_p6 : z_Ar Z h p6 (.object "java/lang/Object") "[Ljava/lang/Object;" "java/lang/Object" [(.ref a_ONE), (.ref a_ONE), (.ref a_ONE), .null, .null, .null, .null, .null, .null, .null]) :
    z_Met l Z (⟨"com/example/variegate/variegate/service/Cnf", "weight", "(I)Ljava/math/BigInteger;"⟩ : MethodName) prog_73_method_10_code 2 (some (.object "java/math/BigInteger")) [] ({ frames := 3, cells := 0, slots := 0, locals := 40 } : Room) n0 #[(.ref p0), (.int (-1 : Int32))] h (z_pure (.ref a_ONE) h) := by
  refine z_met (Ls := #[.val (.ref p0), .val (.int (-1 : Int32))]) (by first | exact plainFor_of_name (by first | (simp [plainName, overriddenIn]; done) | decide +kernel) | decide +kernel) rfl ?_
  intro p e s m below meth c C
  refine z_iloadN C z_d18_0 rfl 1 rfl ?_
  refine z_ifY C z_d18_1 (by decide) (by decide) 22 (by decide) ?_
  refine z_aloadN C z_d18_22 rfl rfl 23 rfl ?_
  refine z_getO C (z_w hw 61 rfl) Via.refl o_p0 3 rfl rfl z_d18_23 26 rfl ?_
  refine z_iloadN C z_d18_26 rfl 27 rfl ?_
  refine z_ineg C (z := (1 : Int32)) z_d18_27 (by decide) 28 rfl ?_
  refine z_iconst C (v := (1 : Int32)) z_d18_28 (by decide) 29 rfl ?_
  refine z_isub C (z := (0 : Int32)) z_d18_29 (by decide) 30 rfl ?_
  refine z_callFp C o_p4.1 (z_c19_26 l hw S (by omega) old p4 p6 o_p4 o_p6) (z_w hw 138 rfl) (z_w hw 139 rfl) (z_w hw 140 rfl) (z_w hw 141 rfl) (z_w hw 142 rfl) (z_w hw 143 rfl) (z_w hw 144 rfl) (z_w hw 79 rfl) (z_w hw 11 rfl) (z_w hw 145 rfl) (by decide) z_d18_30 rfl (argsL := [(.int (0 : Int32))]) (rest := []) rfl (lenOf z_pd10 rfl) (W := 0) (Nat.le_of_eq rfl) (by decide) (by decide) (by decide) (by decide) (by decide) (by decide) 35 rfl ?_
  refine z_castY C (z_w hw 159 rfl) (Ins.self (S.2.1.2.ext old.2).1) z_d18_35 38 rfl ?_
  exact z_areturn C rfl rfl z_d18_38 (by decide) (by decide) ⟨rfl, rfl⟩
set_option maxHeartbeats 2000000 in
theorem z_c21_29 (l : Launch) {Z : State} {a0 : Array Value} (hw : ∀ d ∈ tables_1, d.before a0 Z = true) {n0 : Nat} {h : Heap} {a_DEF a_ONE a_NONE : Nat} (S : z_St Z a_DEF a_ONE a_NONE) (z0 : n0 ≤ h.size) (old : Old Z n0 h) :
    z_Met l Z (⟨"jdk/internal/util/Preconditions", "checkIndex", "(IILjava/util/function/BiFunction;)I"⟩ : MethodName) jdk_41_method_11_code 3 (some .int) [] ({ frames := 0, cells := 0, slots := 0, locals := 0 } : Room) n0 #[(.int (1 : Int32)), (.int (3 : Int32)), .null] h (z_pure (.int (1 : Int32)) h) := by
  refine z_met (Ls := #[.val (.int (1 : Int32)), .val (.int (3 : Int32)), .val .null]) (by first | exact plainFor_of_name (by first | (simp [plainName, overriddenIn]; done) | decide +kernel) | decide +kernel) rfl ?_
  intro p e s m below meth c C
  refine z_iloadN C z_d21_0 rfl 1 rfl ?_
  refine z_ifN C z_d21_1 (by decide) 4 rfl ?_
  refine z_iloadN C z_d21_4 rfl 5 rfl ?_
  refine z_iloadN C z_d21_5 rfl 6 rfl ?_
  refine z_icmpY C z_d21_6 (by decide) (by decide) 16 (by decide) ?_
  refine z_iloadN C z_d21_16 rfl 17 rfl ?_
  exact z_ireturn C (Or.inl rfl) rfl z_d21_17 (by decide) (by decide) ⟨rfl, rfl⟩
set_option maxHeartbeats 2000000 in
theorem z_c20_30 (l : Launch) {Z : State} {a0 : Array Value} (hw : ∀ d ∈ tables_1, d.before a0 Z = true) {n0 : Nat} {h : Heap} {a_DEF a_ONE a_NONE : Nat} (S : z_St Z a_DEF a_ONE a_NONE) (z0 : n0 ≤ h.size) (old : Old Z n0 h) :
    z_Met l Z (⟨"java/util/Objects", "checkIndex", "(II)I"⟩ : MethodName) jdk_31_method_17_code 2 (some .int) [] ({ frames := 1, cells := 0, slots := 0, locals := 14 } : Room) n0 #[(.int (1 : Int32)), (.int (3 : Int32))] h (z_pure (.int (1 : Int32)) h) := by
  refine z_met (Ls := #[.val (.int (1 : Int32)), .val (.int (3 : Int32))]) (by first | exact plainFor_of_name (by first | (simp [plainName, overriddenIn]; done) | decide +kernel) | decide +kernel) rfl ?_
  intro p e s m below meth c C
  refine z_iloadN C z_d20_0 rfl 1 rfl ?_
  refine z_iloadN C z_d20_1 rfl 2 rfl ?_
  refine z_aconst_null C z_d20_2 3 rfl ?_
  refine z_callSp C (z_c21_29 l hw S (by omega) old) (z_w hw 150 rfl) (z_w hw 151 rfl) (z_w hw 152 rfl) (z_w hw 153 rfl) (by decide) z_d20_3 rfl (argsL := [(.int (1 : Int32)), (.int (3 : Int32)), .null]) (rest := []) rfl (lenOf z_pd9 rfl) (W := 0) (Nat.le_of_eq rfl) (by decide) (by decide) (by decide) (by decide) (by decide) (by decide) 6 rfl ?_
  exact z_ireturn C (Or.inl rfl) rfl z_d20_6 (by decide) (by decide) ⟨rfl, rfl⟩
set_option maxHeartbeats 2000000 in
theorem z_c22_31 (l : Launch) {Z : State} {a0 : Array Value} (hw : ∀ d ∈ tables_1, d.before a0 Z = true) {n0 : Nat} {h : Heap} {a_DEF a_ONE a_NONE : Nat} (S : z_St Z a_DEF a_ONE a_NONE) (z0 : n0 ≤ h.size) (old : Old Z n0 h) (p0 : Nat) (p1 : Nat) (o_p0 : z_Ob Z h p0 "java/util/ArrayList" z_lay1 [(.int (3 : Int32)), (.ref p1), (.int (3 : Int32))]) (o_p1 : z_Ar Z h p1 (.object "java/lang/Object") "[Ljava/lang/Object;" "java/lang/Object" [(.ref a_ONE), (.ref a_ONE), (.ref a_ONE), .null, .null, .null, .null, .null, .null, .null]) :
    z_Met l Z (⟨"java/util/ArrayList", "elementData", "(I)Ljava/lang/Object;"⟩ : MethodName) jdk_38_method_18_code 2 (some (.object "java/lang/Object")) [] ({ frames := 0, cells := 0, slots := 0, locals := 0 } : Room) n0 #[(.ref p0), (.int (1 : Int32))] h (z_pure (.ref a_ONE) h) := by
  refine z_met (Ls := #[.val (.ref p0), .val (.int (1 : Int32))]) (by first | exact plainFor_of_name (by first | (simp [plainName, overriddenIn]; done) | decide +kernel) | decide +kernel) rfl ?_
  intro p e s m below meth c C
  refine z_aloadN C z_d22_0 rfl rfl 1 rfl ?_
  refine z_getO C (z_w hw 31 rfl) Via.refl o_p0 1 rfl rfl z_d22_1 4 rfl ?_
  refine z_iloadN C z_d22_4 rfl 5 rfl ?_
  refine z_aaload C o_p1 rfl (by decide) (v := (.ref a_ONE)) (by rfl) z_d22_5 6 rfl ?_
  exact z_areturn C rfl rfl z_d22_6 (by decide) (by decide) ⟨rfl, rfl⟩
set_option maxHeartbeats 2000000 in
theorem z_c19_32 (l : Launch) {Z : State} {a0 : Array Value} (hw : ∀ d ∈ tables_1, d.before a0 Z = true) {n0 : Nat} {h : Heap} {a_DEF a_ONE a_NONE : Nat} (S : z_St Z a_DEF a_ONE a_NONE) (z0 : n0 ≤ h.size) (old : Old Z n0 h) (p0 : Nat) (p1 : Nat) (o_p0 : z_Ob Z h p0 "java/util/ArrayList" z_lay1 [(.int (3 : Int32)), (.ref p1), (.int (3 : Int32))]) (o_p1 : z_Ar Z h p1 (.object "java/lang/Object") "[Ljava/lang/Object;" "java/lang/Object" [(.ref a_ONE), (.ref a_ONE), (.ref a_ONE), .null, .null, .null, .null, .null, .null, .null]) :
    z_Met l Z (⟨"java/util/ArrayList", "get", "(I)Ljava/lang/Object;"⟩ : MethodName) jdk_38_method_20_code 2 (some (.object "java/lang/Object")) [] ({ frames := 2, cells := 0, slots := 0, locals := 27 } : Room) n0 #[(.ref p0), (.int (1 : Int32))] h (z_pure (.ref a_ONE) h) := by
  refine z_met (Ls := #[.val (.ref p0), .val (.int (1 : Int32))]) (by first | exact plainFor_of_name (by first | (simp [plainName, overriddenIn]; done) | decide +kernel) | decide +kernel) rfl ?_
  intro p e s m below meth c C
  refine z_iloadN C z_d19_0 rfl 1 rfl ?_
  refine z_aloadN C z_d19_1 rfl rfl 2 rfl ?_
  refine z_getO C (z_w hw 83 rfl) Via.refl o_p0 2 rfl rfl z_d19_2 5 rfl ?_
  refine z_callSp C (z_c20_30 l hw S (by omega) old) (z_w hw 146 rfl) (z_w hw 147 rfl) (z_w hw 148 rfl) (z_w hw 149 rfl) (by decide) z_d19_5 rfl (argsL := [(.int (1 : Int32)), (.int (3 : Int32))]) (rest := []) rfl (lenOf z_pd3 rfl) (W := 0) (Nat.le_of_eq rfl) (by decide) (by decide) (by decide) (by decide) (by decide) (by decide) 8 rfl ?_
  refine z_pop C z_d19_8 rfl 9 rfl ?_
  refine z_aloadN C z_d19_9 rfl rfl 10 rfl ?_
  refine z_iloadN C z_d19_10 rfl 11 rfl ?_
  refine z_callVp C o_p0.1 (z_c22_31 l hw S (by omega) old p0 p1 o_p0 o_p1) (z_w hw 154 rfl) (z_w hw 155 rfl) (z_w hw 157 rfl) (z_w hw 156 rfl) (z_w hw 11 rfl) (z_w hw 158 rfl) (by decide) z_d19_11 rfl (argsL := [(.int (1 : Int32))]) (rest := []) rfl (lenOf z_pd10 rfl) (W := 0) (Nat.le_of_eq rfl) (by decide) (by decide) (by decide) (by decide) (by decide) (by decide) 14 rfl ?_
  exact z_areturn C rfl rfl z_d19_14 (by decide) (by decide) ⟨rfl, rfl⟩
set_option maxHeartbeats 2000000 in
theorem z_c18_33 (l : Launch) {Z : State} {a0 : Array Value} (hw : ∀ d ∈ tables_1, d.before a0 Z = true) {n0 : Nat} {h : Heap} {a_DEF a_ONE a_NONE : Nat} (S : z_St Z a_DEF a_ONE a_NONE) (z0 : n0 ≤ h.size) (old : Old Z n0 h) (p0 : Nat) (p1 : Nat) (p2 : Nat) (p3 : Nat) (p4 : Nat) (p5 : Nat) (p6 : Nat) (o_p0 : z_Ob Z h p0 "com/example/variegate/variegate/service/Cnf" z_lay0 [(.ref p1), (.ref p2), (.ref p3), (.ref p4), (.ref p5)]) (o_p3 : z_Ob Z h p3 "java/util/ArrayList" z_lay1 [(.int (3 : Int32)), (.ref p6), (.int (3 : Int32))]) (o_p6 : z_Ar Z h p6 (.object "java/lang/Object") "[Ljava/lang/Object;" "java/lang/Object" [(.ref a_ONE), (.ref a_ONE), (.ref a_ONE), .null, .null, .null, .null, .null, .null, .null]) :
    z_Met l Z (⟨"com/example/variegate/variegate/service/Cnf", "weight", "(I)Ljava/math/BigInteger;"⟩ : MethodName) prog_73_method_10_code 2 (some (.object "java/math/BigInteger")) [] ({ frames := 3, cells := 0, slots := 0, locals := 40 } : Room) n0 #[(.ref p0), (.int (2 : Int32))] h (z_pure (.ref a_ONE) h) := by
  refine z_met (Ls := #[.val (.ref p0), .val (.int (2 : Int32))]) (by first | exact plainFor_of_name (by first | (simp [plainName, overriddenIn]; done) | decide +kernel) | decide +kernel) rfl ?_
  intro p e s m below meth c C
  refine z_iloadN C z_d18_0 rfl 1 rfl ?_
  refine z_ifN C z_d18_1 (by decide) 4 rfl ?_
  refine z_aloadN C z_d18_4 rfl rfl 5 rfl ?_
  refine z_getO C (z_w hw 59 rfl) Via.refl o_p0 2 rfl rfl z_d18_5 8 rfl ?_
  refine z_iloadN C z_d18_8 rfl 9 rfl ?_
  refine z_iconst C (v := (1 : Int32)) z_d18_9 (by decide) 10 rfl ?_
  refine z_isub C (z := (1 : Int32)) z_d18_10 (by decide) 11 rfl ?_
  refine z_callFp C o_p3.1 (z_c19_32 l hw S (by omega) old p3 p6 o_p3 o_p6) (z_w hw 138 rfl) (z_w hw 139 rfl) (z_w hw 140 rfl) (z_w hw 141 rfl) (z_w hw 142 rfl) (z_w hw 143 rfl) (z_w hw 144 rfl) (z_w hw 79 rfl) (z_w hw 11 rfl) (z_w hw 145 rfl) (by decide) z_d18_11 rfl (argsL := [(.int (1 : Int32))]) (rest := []) rfl (lenOf z_pd10 rfl) (W := 0) (Nat.le_of_eq rfl) (by decide) (by decide) (by decide) (by decide) (by decide) (by decide) 16 rfl ?_
  refine z_castY C (z_w hw 159 rfl) (Ins.self (S.2.1.2.ext old.2).1) z_d18_16 19 rfl ?_
  refine z_goto C z_d18_19 (by decide) 38 (by decide) ?_
  exact z_areturn C rfl rfl z_d18_38 (by decide) (by decide) ⟨rfl, rfl⟩
set_option maxHeartbeats 2000000 in
theorem z_c18_34 (l : Launch) {Z : State} {a0 : Array Value} (hw : ∀ d ∈ tables_1, d.before a0 Z = true) {n0 : Nat} {h : Heap} {a_DEF a_ONE a_NONE : Nat} (S : z_St Z a_DEF a_ONE a_NONE) (z0 : n0 ≤ h.size) (old : Old Z n0 h) (p0 : Nat) (p1 : Nat) (p2 : Nat) (p3 : Nat) (p4 : Nat) (p5 : Nat) (p6 : Nat) (o_p0 : z_Ob Z h p0 "com/example/variegate/variegate/service/Cnf" z_lay0 [(.ref p1), (.ref p2), (.ref p3), (.ref p4), (.ref p5)]) (o_p4 : z_Ob Z h p4 "java/util/ArrayList" z_lay1 [(.int (3 : Int32)), (.ref p6), (.int (3 : Int32))]) (o_p6 : z_Ar Z h p6 (.object "java/lang/Object") "[Ljava/lang/Object;" "java/lang/Object" [(.ref a_ONE), (.ref a_ONE), (.ref a_ONE), .null, .null, .null, .null, .null, .null, .null]) :
    z_Met l Z (⟨"com/example/variegate/variegate/service/Cnf", "weight", "(I)Ljava/math/BigInteger;"⟩ : MethodName) prog_73_method_10_code 2 (some (.object "java/math/BigInteger")) [] ({ frames := 3, cells := 0, slots := 0, locals := 40 } : Room) n0 #[(.ref p0), (.int (-2 : Int32))] h (z_pure (.ref a_ONE) h) := by
  refine z_met (Ls := #[.val (.ref p0), .val (.int (-2 : Int32))]) (by first | exact plainFor_of_name (by first | (simp [plainName, overriddenIn]; done) | decide +kernel) | decide +kernel) rfl ?_
  intro p e s m below meth c C
  refine z_iloadN C z_d18_0 rfl 1 rfl ?_
  refine z_ifY C z_d18_1 (by decide) (by decide) 22 (by decide) ?_
  refine z_aloadN C z_d18_22 rfl rfl 23 rfl ?_
  refine z_getO C (z_w hw 61 rfl) Via.refl o_p0 3 rfl rfl z_d18_23 26 rfl ?_
  refine z_iloadN C z_d18_26 rfl 27 rfl ?_
  refine z_ineg C (z := (2 : Int32)) z_d18_27 (by decide) 28 rfl ?_
  refine z_iconst C (v := (1 : Int32)) z_d18_28 (by decide) 29 rfl ?_
  refine z_isub C (z := (1 : Int32)) z_d18_29 (by decide) 30 rfl ?_
  refine z_callFp C o_p4.1 (z_c19_32 l hw S (by omega) old p4 p6 o_p4 o_p6) (z_w hw 138 rfl) (z_w hw 139 rfl) (z_w hw 140 rfl) (z_w hw 141 rfl) (z_w hw 142 rfl) (z_w hw 143 rfl) (z_w hw 144 rfl) (z_w hw 79 rfl) (z_w hw 11 rfl) (z_w hw 145 rfl) (by decide) z_d18_30 rfl (argsL := [(.int (1 : Int32))]) (rest := []) rfl (lenOf z_pd10 rfl) (W := 0) (Nat.le_of_eq rfl) (by decide) (by decide) (by decide) (by decide) (by decide) (by decide) 35 rfl ?_
  refine z_castY C (z_w hw 159 rfl) (Ins.self (S.2.1.2.ext old.2).1) z_d18_35 38 rfl ?_
  exact z_areturn C rfl rfl z_d18_38 (by decide) (by decide) ⟨rfl, rfl⟩
set_option maxHeartbeats 2000000 in
theorem z_c21_35 (l : Launch) {Z : State} {a0 : Array Value} (hw : ∀ d ∈ tables_1, d.before a0 Z = true) {n0 : Nat} {h : Heap} {a_DEF a_ONE a_NONE : Nat} (S : z_St Z a_DEF a_ONE a_NONE) (z0 : n0 ≤ h.size) (old : Old Z n0 h) :
    z_Met l Z (⟨"jdk/internal/util/Preconditions", "checkIndex", "(IILjava/util/function/BiFunction;)I"⟩ : MethodName) jdk_41_method_11_code 3 (some .int) [] ({ frames := 0, cells := 0, slots := 0, locals := 0 } : Room) n0 #[(.int (2 : Int32)), (.int (3 : Int32)), .null] h (z_pure (.int (2 : Int32)) h) := by
  refine z_met (Ls := #[.val (.int (2 : Int32)), .val (.int (3 : Int32)), .val .null]) (by first | exact plainFor_of_name (by first | (simp [plainName, overriddenIn]; done) | decide +kernel) | decide +kernel) rfl ?_
  intro p e s m below meth c C
  refine z_iloadN C z_d21_0 rfl 1 rfl ?_
  refine z_ifN C z_d21_1 (by decide) 4 rfl ?_
  refine z_iloadN C z_d21_4 rfl 5 rfl ?_
  refine z_iloadN C z_d21_5 rfl 6 rfl ?_
  refine z_icmpY C z_d21_6 (by decide) (by decide) 16 (by decide) ?_
  refine z_iloadN C z_d21_16 rfl 17 rfl ?_
  exact z_ireturn C (Or.inl rfl) rfl z_d21_17 (by decide) (by decide) ⟨rfl, rfl⟩
set_option maxHeartbeats 2000000 in
theorem z_c20_36 (l : Launch) {Z : State} {a0 : Array Value} (hw : ∀ d ∈ tables_1, d.before a0 Z = true) {n0 : Nat} {h : Heap} {a_DEF a_ONE a_NONE : Nat} (S : z_St Z a_DEF a_ONE a_NONE) (z0 : n0 ≤ h.size) (old : Old Z n0 h) :
    z_Met l Z (⟨"java/util/Objects", "checkIndex", "(II)I"⟩ : MethodName) jdk_31_method_17_code 2 (some .int) [] ({ frames := 1, cells := 0, slots := 0, locals := 14 } : Room) n0 #[(.int (2 : Int32)), (.int (3 : Int32))] h (z_pure (.int (2 : Int32)) h) := by
  refine z_met (Ls := #[.val (.int (2 : Int32)), .val (.int (3 : Int32))]) (by first | exact plainFor_of_name (by first | (simp [plainName, overriddenIn]; done) | decide +kernel) | decide +kernel) rfl ?_
  intro p e s m below meth c C
  refine z_iloadN C z_d20_0 rfl 1 rfl ?_
  refine z_iloadN C z_d20_1 rfl 2 rfl ?_
  refine z_aconst_null C z_d20_2 3 rfl ?_
  refine z_callSp C (z_c21_35 l hw S (by omega) old) (z_w hw 150 rfl) (z_w hw 151 rfl) (z_w hw 152 rfl) (z_w hw 153 rfl) (by decide) z_d20_3 rfl (argsL := [(.int (2 : Int32)), (.int (3 : Int32)), .null]) (rest := []) rfl (lenOf z_pd9 rfl) (W := 0) (Nat.le_of_eq rfl) (by decide) (by decide) (by decide) (by decide) (by decide) (by decide) 6 rfl ?_
  exact z_ireturn C (Or.inl rfl) rfl z_d20_6 (by decide) (by decide) ⟨rfl, rfl⟩
set_option maxHeartbeats 2000000 in
theorem z_c22_37 (l : Launch) {Z : State} {a0 : Array Value} (hw : ∀ d ∈ tables_1, d.before a0 Z = true) {n0 : Nat} {h : Heap} {a_DEF a_ONE a_NONE : Nat} (S : z_St Z a_DEF a_ONE a_NONE) (z0 : n0 ≤ h.size) (old : Old Z n0 h) (p0 : Nat) (p1 : Nat) (o_p0 : z_Ob Z h p0 "java/util/ArrayList" z_lay1 [(.int (3 : Int32)), (.ref p1), (.int (3 : Int32))]) (o_p1 : z_Ar Z h p1 (.object "java/lang/Object") "[Ljava/lang/Object;" "java/lang/Object" [(.ref a_ONE), (.ref a_ONE), (.ref a_ONE), .null, .null, .null, .null, .null, .null, .null]) :
    z_Met l Z (⟨"java/util/ArrayList", "elementData", "(I)Ljava/lang/Object;"⟩ : MethodName) jdk_38_method_18_code 2 (some (.object "java/lang/Object")) [] ({ frames := 0, cells := 0, slots := 0, locals := 0 } : Room) n0 #[(.ref p0), (.int (2 : Int32))] h (z_pure (.ref a_ONE) h) := by
  refine z_met (Ls := #[.val (.ref p0), .val (.int (2 : Int32))]) (by first | exact plainFor_of_name (by first | (simp [plainName, overriddenIn]; done) | decide +kernel) | decide +kernel) rfl ?_
  intro p e s m below meth c C
  refine z_aloadN C z_d22_0 rfl rfl 1 rfl ?_
  refine z_getO C (z_w hw 31 rfl) Via.refl o_p0 1 rfl rfl z_d22_1 4 rfl ?_
  refine z_iloadN C z_d22_4 rfl 5 rfl ?_
  refine z_aaload C o_p1 rfl (by decide) (v := (.ref a_ONE)) (by rfl) z_d22_5 6 rfl ?_
  exact z_areturn C rfl rfl z_d22_6 (by decide) (by decide) ⟨rfl, rfl⟩
set_option maxHeartbeats 2000000 in
theorem z_c19_38 (l : Launch) {Z : State} {a0 : Array Value} (hw : ∀ d ∈ tables_1, d.before a0 Z = true) {n0 : Nat} {h : Heap} {a_DEF a_ONE a_NONE : Nat} (S : z_St Z a_DEF a_ONE a_NONE) (z0 : n0 ≤ h.size) (old : Old Z n0 h) (p0 : Nat) (p1 : Nat) (o_p0 : z_Ob Z h p0 "java/util/ArrayList" z_lay1 [(.int (3 : Int32)), (.ref p1), (.int (3 : Int32))]) (o_p1 : z_Ar Z h p1 (.object "java/lang/Object") "[Ljava/lang/Object;" "java/lang/Object" [(.ref a_ONE), (.ref a_ONE), (.ref a_ONE), .null, .null, .null, .null, .null, .null, .null]) :
    z_Met l Z (⟨"java/util/ArrayList", "get", "(I)Ljava/lang/Object;"⟩ : MethodName) jdk_38_method_20_code 2 (some (.object "java/lang/Object")) [] ({ frames := 2, cells := 0, slots := 0, locals := 27 } : Room) n0 #[(.ref p0), (.int (2 : Int32))] h (z_pure (.ref a_ONE) h) := by
  refine z_met (Ls := #[.val (.ref p0), .val (.int (2 : Int32))]) (by first | exact plainFor_of_name (by first | (simp [plainName, overriddenIn]; done) | decide +kernel) | decide +kernel) rfl ?_
  intro p e s m below meth c C
  refine z_iloadN C z_d19_0 rfl 1 rfl ?_
  refine z_aloadN C z_d19_1 rfl rfl 2 rfl ?_
  refine z_getO C (z_w hw 83 rfl) Via.refl o_p0 2 rfl rfl z_d19_2 5 rfl ?_
  refine z_callSp C (z_c20_36 l hw S (by omega) old) (z_w hw 146 rfl) (z_w hw 147 rfl) (z_w hw 148 rfl) (z_w hw 149 rfl) (by decide) z_d19_5 rfl (argsL := [(.int (2 : Int32)), (.int (3 : Int32))]) (rest := []) rfl (lenOf z_pd3 rfl) (W := 0) (Nat.le_of_eq rfl) (by decide) (by decide) (by decide) (by decide) (by decide) (by decide) 8 rfl ?_
  refine z_pop C z_d19_8 rfl 9 rfl ?_
  refine z_aloadN C z_d19_9 rfl rfl 10 rfl ?_
  refine z_iloadN C z_d19_10 rfl 11 rfl ?_
  refine z_callVp C o_p0.1 (z_c22_37 l hw S (by omega) old p0 p1 o_p0 o_p1) (z_w hw 154 rfl) (z_w hw 155 rfl) (z_w hw 157 rfl) (z_w hw 156 rfl) (z_w hw 11 rfl) (z_w hw 158 rfl) (by decide) z_d19_11 rfl (argsL := [(.int (2 : Int32))]) (rest := []) rfl (lenOf z_pd10 rfl) (W := 0) (Nat.le_of_eq rfl) (by decide) (by decide) (by decide) (by decide) (by decide) (by decide) 14 rfl ?_
  exact z_areturn C rfl rfl z_d19_14 (by decide) (by decide) ⟨rfl, rfl⟩
set_option maxHeartbeats 2000000 in
theorem z_c18_39 (l : Launch) {Z : State} {a0 : Array Value} (hw : ∀ d ∈ tables_1, d.before a0 Z = true) {n0 : Nat} {h : Heap} {a_DEF a_ONE a_NONE : Nat} (S : z_St Z a_DEF a_ONE a_NONE) (z0 : n0 ≤ h.size) (old : Old Z n0 h) (p0 : Nat) (p1 : Nat) (p2 : Nat) (p3 : Nat) (p4 : Nat) (p5 : Nat) (p6 : Nat) (o_p0 : z_Ob Z h p0 "com/example/variegate/variegate/service/Cnf" z_lay0 [(.ref p1), (.ref p2), (.ref p3), (.ref p4), (.ref p5)]) (o_p3 : z_Ob Z h p3 "java/util/ArrayList" z_lay1 [(.int (3 : Int32)), (.ref p6), (.int (3 : Int32))]) (o_p6 : z_Ar Z h p6 (.object "java/lang/Object") "[Ljava/lang/Object;" "java/lang/Object" [(.ref a_ONE), (.ref a_ONE), (.ref a_ONE), .null, .null, .null, .null, .null, .null, .null]) :
    z_Met l Z (⟨"com/example/variegate/variegate/service/Cnf", "weight", "(I)Ljava/math/BigInteger;"⟩ : MethodName) prog_73_method_10_code 2 (some (.object "java/math/BigInteger")) [] ({ frames := 3, cells := 0, slots := 0, locals := 40 } : Room) n0 #[(.ref p0), (.int (3 : Int32))] h (z_pure (.ref a_ONE) h) := by
  refine z_met (Ls := #[.val (.ref p0), .val (.int (3 : Int32))]) (by first | exact plainFor_of_name (by first | (simp [plainName, overriddenIn]; done) | decide +kernel) | decide +kernel) rfl ?_
  intro p e s m below meth c C
  refine z_iloadN C z_d18_0 rfl 1 rfl ?_
  refine z_ifN C z_d18_1 (by decide) 4 rfl ?_
  refine z_aloadN C z_d18_4 rfl rfl 5 rfl ?_
  refine z_getO C (z_w hw 59 rfl) Via.refl o_p0 2 rfl rfl z_d18_5 8 rfl ?_
  refine z_iloadN C z_d18_8 rfl 9 rfl ?_
  refine z_iconst C (v := (1 : Int32)) z_d18_9 (by decide) 10 rfl ?_
  refine z_isub C (z := (2 : Int32)) z_d18_10 (by decide) 11 rfl ?_
  refine z_callFp C o_p3.1 (z_c19_38 l hw S (by omega) old p3 p6 o_p3 o_p6) (z_w hw 138 rfl) (z_w hw 139 rfl) (z_w hw 140 rfl) (z_w hw 141 rfl) (z_w hw 142 rfl) (z_w hw 143 rfl) (z_w hw 144 rfl) (z_w hw 79 rfl) (z_w hw 11 rfl) (z_w hw 145 rfl) (by decide) z_d18_11 rfl (argsL := [(.int (2 : Int32))]) (rest := []) rfl (lenOf z_pd10 rfl) (W := 0) (Nat.le_of_eq rfl) (by decide) (by decide) (by decide) (by decide) (by decide) (by decide) 16 rfl ?_
  refine z_castY C (z_w hw 159 rfl) (Ins.self (S.2.1.2.ext old.2).1) z_d18_16 19 rfl ?_
  refine z_goto C z_d18_19 (by decide) 38 (by decide) ?_
  exact z_areturn C rfl rfl z_d18_38 (by decide) (by decide) ⟨rfl, rfl⟩
set_option maxHeartbeats 2000000 in
theorem z_c18_40 (l : Launch) {Z : State} {a0 : Array Value} (hw : ∀ d ∈ tables_1, d.before a0 Z = true) {n0 : Nat} {h : Heap} {a_DEF a_ONE a_NONE : Nat} (S : z_St Z a_DEF a_ONE a_NONE) (z0 : n0 ≤ h.size) (old : Old Z n0 h) (p0 : Nat) (p1 : Nat) (p2 : Nat) (p3 : Nat) (p4 : Nat) (p5 : Nat) (p6 : Nat) (o_p0 : z_Ob Z h p0 "com/example/variegate/variegate/service/Cnf" z_lay0 [(.ref p1), (.ref p2), (.ref p3), (.ref p4), (.ref p5)]) (o_p4 : z_Ob Z h p4 "java/util/ArrayList" z_lay1 [(.int (3 : Int32)), (.ref p6), (.int (3 : Int32))]) (o_p6 : z_Ar Z h p6 (.object "java/lang/Object") "[Ljava/lang/Object;" "java/lang/Object" [(.ref a_ONE), (.ref a_ONE), (.ref a_ONE), .null, .null, .null, .null, .null, .null, .null]) :
    z_Met l Z (⟨"com/example/variegate/variegate/service/Cnf", "weight", "(I)Ljava/math/BigInteger;"⟩ : MethodName) prog_73_method_10_code 2 (some (.object "java/math/BigInteger")) [] ({ frames := 3, cells := 0, slots := 0, locals := 40 } : Room) n0 #[(.ref p0), (.int (-3 : Int32))] h (z_pure (.ref a_ONE) h) := by
  refine z_met (Ls := #[.val (.ref p0), .val (.int (-3 : Int32))]) (by first | exact plainFor_of_name (by first | (simp [plainName, overriddenIn]; done) | decide +kernel) | decide +kernel) rfl ?_
  intro p e s m below meth c C
  refine z_iloadN C z_d18_0 rfl 1 rfl ?_
  refine z_ifY C z_d18_1 (by decide) (by decide) 22 (by decide) ?_
  refine z_aloadN C z_d18_22 rfl rfl 23 rfl ?_
  refine z_getO C (z_w hw 61 rfl) Via.refl o_p0 3 rfl rfl z_d18_23 26 rfl ?_
  refine z_iloadN C z_d18_26 rfl 27 rfl ?_
  refine z_ineg C (z := (3 : Int32)) z_d18_27 (by decide) 28 rfl ?_
  refine z_iconst C (v := (1 : Int32)) z_d18_28 (by decide) 29 rfl ?_
  refine z_isub C (z := (2 : Int32)) z_d18_29 (by decide) 30 rfl ?_
  refine z_callFp C o_p4.1 (z_c19_38 l hw S (by omega) old p4 p6 o_p4 o_p6) (z_w hw 138 rfl) (z_w hw 139 rfl) (z_w hw 140 rfl) (z_w hw 141 rfl) (z_w hw 142 rfl) (z_w hw 143 rfl) (z_w hw 144 rfl) (z_w hw 79 rfl) (z_w hw 11 rfl) (z_w hw 145 rfl) (by decide) z_d18_30 rfl (argsL := [(.int (2 : Int32))]) (rest := []) rfl (lenOf z_pd10 rfl) (W := 0) (Nat.le_of_eq rfl) (by decide) (by decide) (by decide) (by decide) (by decide) (by decide) 35 rfl ?_
  refine z_castY C (z_w hw 159 rfl) (Ins.self (S.2.1.2.ext old.2).1) z_d18_35 38 rfl ?_
  exact z_areturn C rfl rfl z_d18_38 (by decide) (by decide) ⟨rfl, rfl⟩
set_option maxHeartbeats 2000000 in
theorem z_c23_41 (l : Launch) {Z : State} {a0 : Array Value} (hw : ∀ d ∈ tables_1, d.before a0 Z = true) {n0 : Nat} {h : Heap} {a_DEF a_ONE a_NONE : Nat} (S : z_St Z a_DEF a_ONE a_NONE) (z0 : n0 ≤ h.size) (old : Old Z n0 h) (p0 : Nat) (p1 : Nat) (p2 : Nat) (p3 : Nat) (p4 : Nat) (p5 : Nat) (o_p0 : z_Ob Z h p0 "com/example/variegate/variegate/service/Cnf" z_lay0 [(.ref p1), (.ref p2), (.ref p3), (.ref p4), (.ref p5)]) :
    z_Met l Z (⟨"com/example/variegate/variegate/service/Cnf", "clauses", "()Ljava/util/List;"⟩ : MethodName) prog_73_method_9_code 1 (some (.object "java/util/List")) [] ({ frames := 0, cells := 0, slots := 0, locals := 0 } : Room) n0 #[(.ref p0)] h (z_pure (.ref p1) h) := by
  refine z_met (Ls := #[.val (.ref p0)]) (by first | exact plainFor_of_name (by first | (simp [plainName, overriddenIn]; done) | decide +kernel) | decide +kernel) rfl ?_
  intro p e s m below meth c C
  refine z_aloadN C z_d23_0 rfl rfl 1 rfl ?_
  refine z_getO C (z_w hw 33 rfl) Via.refl o_p0 0 rfl rfl z_d23_1 4 rfl ?_
  exact z_areturn C rfl rfl z_d23_4 (by decide) (by decide) ⟨rfl, rfl⟩
set_option maxHeartbeats 2000000 in
theorem z_c15_42 (l : Launch) {Z : State} {a0 : Array Value} (hw : ∀ d ∈ tables_1, d.before a0 Z = true) {n0 : Nat} {h : Heap} {a_DEF a_ONE a_NONE : Nat} (S : z_St Z a_DEF a_ONE a_NONE) (z0 : n0 ≤ h.size) (old : Old Z n0 h) (p0 : Nat) (o_p0 : z_Ob Z h p0 "java/util/ArrayList" z_lay1 [(.int (0 : Int32)), (.ref a_DEF), (.int (0 : Int32))]) :
    z_Met l Z (⟨"java/util/ArrayList", "size", "()I"⟩ : MethodName) jdk_38_method_8_code 1 (some .int) [] ({ frames := 0, cells := 0, slots := 0, locals := 0 } : Room) n0 #[(.ref p0)] h (z_pure (.int (0 : Int32)) h) := by
  refine z_met (Ls := #[.val (.ref p0)]) (by first | exact plainFor_of_name (by first | (simp [plainName, overriddenIn]; done) | decide +kernel) | decide +kernel) rfl ?_
  intro p e s m below meth c C
  refine z_aloadN C z_d15_0 rfl rfl 1 rfl ?_
  refine z_getO C (z_w hw 83 rfl) Via.refl o_p0 2 rfl rfl z_d15_1 4 rfl ?_
  exact z_ireturn C (Or.inl rfl) rfl z_d15_4 (by decide) (by decide) ⟨rfl, rfl⟩
set_option maxHeartbeats 2000000 in
theorem z_c24_43 (l : Launch) {Z : State} {a0 : Array Value} (hw : ∀ d ∈ tables_1, d.before a0 Z = true) {n0 : Nat} {h : Heap} {a_DEF a_ONE a_NONE : Nat} (S : z_St Z a_DEF a_ONE a_NONE) (z0 : n0 ≤ h.size) (old : Old Z n0 h) (p0 : Nat) (o_p0 : z_Ar Z h p0 .int "[I" "" [(.int (0 : Int32)), (.int (0 : Int32)), (.int (0 : Int32)), (.int (0 : Int32)), (.int (0 : Int32)), (.int (0 : Int32)), (.int (0 : Int32)), (.int (0 : Int32))]) (g_p0 : n0 ≤ p0) :
    z_Met l Z (⟨"java/util/Arrays", "fill", "([II)V"⟩ : MethodName) jdk_65_method_103_code 4 none [] ({ frames := 0, cells := 0, slots := 0, locals := 0 } : Room) n0 #[(.ref p0), (.int (0 : Int32))] h (z_nov fun h' => Keep h h' [p0] ∧ z_Ar Z h' p0 .int "[I" "" [(.int (0 : Int32)), (.int (0 : Int32)), (.int (0 : Int32)), (.int (0 : Int32)), (.int (0 : Int32)), (.int (0 : Int32)), (.int (0 : Int32)), (.int (0 : Int32))]) := by
  refine z_met (Ls := #[.val (.ref p0), .val (.int (0 : Int32)), .unset, .unset]) (by first | exact plainFor_of_name (by first | (simp [plainName, overriddenIn]; done) | decide +kernel) | decide +kernel) rfl ?_
  intro p e s m below meth c C
  refine z_iconst C (v := (0 : Int32)) z_d24_0 (by decide) 1 rfl ?_
  refine z_istoreN C (Ls' := #[.val (.ref p0), .val (.int (0 : Int32)), .val (.int (0 : Int32)), .unset]) z_d24_1 rfl 2 rfl ?_
  refine z_aloadN C z_d24_2 rfl rfl 3 rfl ?_
  refine z_arraylength C (z := (8 : Int32)) o_p0 (by rfl) z_d24_3 4 rfl ?_
  refine z_istoreN C (Ls' := #[.val (.ref p0), .val (.int (0 : Int32)), .val (.int (0 : Int32)), .val (.int (8 : Int32))]) z_d24_4 rfl 5 rfl ?_
  refine z_iloadN C z_d24_5 rfl 6 rfl ?_
  refine z_iloadN C z_d24_6 rfl 7 rfl ?_
  refine z_icmpN C z_d24_7 (by decide) 10 rfl ?_
  refine z_aloadN C z_d24_10 rfl rfl 11 rfl ?_
  refine z_iloadN C z_d24_11 rfl 12 rfl ?_
  refine z_iloadN C z_d24_12 rfl 13 rfl ?_
  refine z_iastore C (z := (0 : Int32)) o_p0 (by decide) (of_decide_eq_true rfl) rfl (vs' := [(.int (0 : Int32)), (.int (0 : Int32)), (.int (0 : Int32)), (.int (0 : Int32)), (.int (0 : Int32)), (.int (0 : Int32)), (.int (0 : Int32)), (.int (0 : Int32))]) (by rfl) g_p0 z_d24_13 14 rfl ?_
  intro h1 W1 o_p0_1
  have s1 : h1.size = h.size := W1.size
  have k1 : Keep h h1 [p0] := (Keep.refl h [p0]).wr W1 (Or.inl (by simp))
  refine z_iinc C (w := (1 : Int32)) (Ls' := #[.val (.ref p0), .val (.int (0 : Int32)), .val (.int (1 : Int32)), .val (.int (8 : Int32))]) z_d24_14 rfl (by decide) rfl 17 rfl ?_
  refine z_goto C z_d24_17 (by decide) 5 (by decide) ?_
  refine z_iloadN C z_d24_5 rfl 6 rfl ?_
  refine z_iloadN C z_d24_6 rfl 7 rfl ?_
  refine z_icmpN C z_d24_7 (by decide) 10 rfl ?_
  refine z_aloadN C z_d24_10 rfl rfl 11 rfl ?_
  refine z_iloadN C z_d24_11 rfl 12 rfl ?_
  refine z_iloadN C z_d24_12 rfl 13 rfl ?_
  refine z_iastore C (z := (0 : Int32)) o_p0_1 (by decide) (of_decide_eq_true rfl) rfl (vs' := [(.int (0 : Int32)), (.int (0 : Int32)), (.int (0 : Int32)), (.int (0 : Int32)), (.int (0 : Int32)), (.int (0 : Int32)), (.int (0 : Int32)), (.int (0 : Int32))]) (by rfl) g_p0 z_d24_13 14 rfl ?_
  intro h2 W2 o_p0_2
  have s2 : h2.size = h1.size := W2.size
  have k2 : Keep h h2 [p0] := k1.wr W2 (Or.inl (by simp))
  refine z_iinc C (w := (2 : Int32)) (Ls' := #[.val (.ref p0), .val (.int (0 : Int32)), .val (.int (2 : Int32)), .val (.int (8 : Int32))]) z_d24_14 rfl (by decide) rfl 17 rfl ?_
  refine z_goto C z_d24_17 (by decide) 5 (by decide) ?_
  refine z_iloadN C z_d24_5 rfl 6 rfl ?_
  refine z_iloadN C z_d24_6 rfl 7 rfl ?_
  refine z_icmpN C z_d24_7 (by decide) 10 rfl ?_
  refine z_aloadN C z_d24_10 rfl rfl 11 rfl ?_
  refine z_iloadN C z_d24_11 rfl 12 rfl ?_
  refine z_iloadN C z_d24_12 rfl 13 rfl ?_
  refine z_iastore C (z := (0 : Int32)) o_p0_2 (by decide) (of_decide_eq_true rfl) rfl (vs' := [(.int (0 : Int32)), (.int (0 : Int32)), (.int (0 : Int32)), (.int (0 : Int32)), (.int (0 : Int32)), (.int (0 : Int32)), (.int (0 : Int32)), (.int (0 : Int32))]) (by rfl) g_p0 z_d24_13 14 rfl ?_
  intro h3 W3 o_p0_3
  have s3 : h3.size = h2.size := W3.size
  have k3 : Keep h h3 [p0] := k2.wr W3 (Or.inl (by simp))
  refine z_iinc C (w := (3 : Int32)) (Ls' := #[.val (.ref p0), .val (.int (0 : Int32)), .val (.int (3 : Int32)), .val (.int (8 : Int32))]) z_d24_14 rfl (by decide) rfl 17 rfl ?_
  refine z_goto C z_d24_17 (by decide) 5 (by decide) ?_
  refine z_iloadN C z_d24_5 rfl 6 rfl ?_
  refine z_iloadN C z_d24_6 rfl 7 rfl ?_
  refine z_icmpN C z_d24_7 (by decide) 10 rfl ?_
  refine z_aloadN C z_d24_10 rfl rfl 11 rfl ?_
  refine z_iloadN C z_d24_11 rfl 12 rfl ?_
  refine z_iloadN C z_d24_12 rfl 13 rfl ?_
  refine z_iastore C (z := (0 : Int32)) o_p0_3 (by decide) (of_decide_eq_true rfl) rfl (vs' := [(.int (0 : Int32)), (.int (0 : Int32)), (.int (0 : Int32)), (.int (0 : Int32)), (.int (0 : Int32)), (.int (0 : Int32)), (.int (0 : Int32)), (.int (0 : Int32))]) (by rfl) g_p0 z_d24_13 14 rfl ?_
  intro h4 W4 o_p0_4
  have s4 : h4.size = h3.size := W4.size
  have k4 : Keep h h4 [p0] := k3.wr W4 (Or.inl (by simp))
  refine z_iinc C (w := (4 : Int32)) (Ls' := #[.val (.ref p0), .val (.int (0 : Int32)), .val (.int (4 : Int32)), .val (.int (8 : Int32))]) z_d24_14 rfl (by decide) rfl 17 rfl ?_
  refine z_goto C z_d24_17 (by decide) 5 (by decide) ?_
  refine z_iloadN C z_d24_5 rfl 6 rfl ?_
  refine z_iloadN C z_d24_6 rfl 7 rfl ?_
  refine z_icmpN C z_d24_7 (by decide) 10 rfl ?_
  refine z_aloadN C z_d24_10 rfl rfl 11 rfl ?_
  refine z_iloadN C z_d24_11 rfl 12 rfl ?_
  refine z_iloadN C z_d24_12 rfl 13 rfl ?_
  refine z_iastore C (z := (0 : Int32)) o_p0_4 (by decide) (of_decide_eq_true rfl) rfl (vs' := [(.int (0 : Int32)), (.int (0 : Int32)), (.int (0 : Int32)), (.int (0 : Int32)), (.int (0 : Int32)), (.int (0 : Int32)), (.int (0 : Int32)), (.int (0 : Int32))]) (by rfl) g_p0 z_d24_13 14 rfl ?_
  intro h5 W5 o_p0_5
  have s5 : h5.size = h4.size := W5.size
  have k5 : Keep h h5 [p0] := k4.wr W5 (Or.inl (by simp))
  refine z_iinc C (w := (5 : Int32)) (Ls' := #[.val (.ref p0), .val (.int (0 : Int32)), .val (.int (5 : Int32)), .val (.int (8 : Int32))]) z_d24_14 rfl (by decide) rfl 17 rfl ?_
  refine z_goto C z_d24_17 (by decide) 5 (by decide) ?_
  refine z_iloadN C z_d24_5 rfl 6 rfl ?_
  refine z_iloadN C z_d24_6 rfl 7 rfl ?_
  refine z_icmpN C z_d24_7 (by decide) 10 rfl ?_
  refine z_aloadN C z_d24_10 rfl rfl 11 rfl ?_
  refine z_iloadN C z_d24_11 rfl 12 rfl ?_
  refine z_iloadN C z_d24_12 rfl 13 rfl ?_
  refine z_iastore C (z := (0 : Int32)) o_p0_5 (by decide) (of_decide_eq_true rfl) rfl (vs' := [(.int (0 : Int32)), (.int (0 : Int32)), (.int (0 : Int32)), (.int (0 : Int32)), (.int (0 : Int32)), (.int (0 : Int32)), (.int (0 : Int32)), (.int (0 : Int32))]) (by rfl) g_p0 z_d24_13 14 rfl ?_
  intro h6 W6 o_p0_6
  have s6 : h6.size = h5.size := W6.size
  have k6 : Keep h h6 [p0] := k5.wr W6 (Or.inl (by simp))
  refine z_iinc C (w := (6 : Int32)) (Ls' := #[.val (.ref p0), .val (.int (0 : Int32)), .val (.int (6 : Int32)), .val (.int (8 : Int32))]) z_d24_14 rfl (by decide) rfl 17 rfl ?_
  refine z_goto C z_d24_17 (by decide) 5 (by decide) ?_
  refine z_iloadN C z_d24_5 rfl 6 rfl ?_
  refine z_iloadN C z_d24_6 rfl 7 rfl ?_
  refine z_icmpN C z_d24_7 (by decide) 10 rfl ?_
  refine z_aloadN C z_d24_10 rfl rfl 11 rfl ?_
  refine z_iloadN C z_d24_11 rfl 12 rfl ?_
  refine z_iloadN C z_d24_12 rfl 13 rfl ?_
  refine z_iastore C (z := (0 : Int32)) o_p0_6 (by decide) (of_decide_eq_true rfl) rfl (vs' := [(.int (0 : Int32)), (.int (0 : Int32)), (.int (0 : Int32)), (.int (0 : Int32)), (.int (0 : Int32)), (.int (0 : Int32)), (.int (0 : Int32)), (.int (0 : Int32))]) (by rfl) g_p0 z_d24_13 14 rfl ?_
  intro h7 W7 o_p0_7
  have s7 : h7.size = h6.size := W7.size
  have k7 : Keep h h7 [p0] := k6.wr W7 (Or.inl (by simp))
  refine z_iinc C (w := (7 : Int32)) (Ls' := #[.val (.ref p0), .val (.int (0 : Int32)), .val (.int (7 : Int32)), .val (.int (8 : Int32))]) z_d24_14 rfl (by decide) rfl 17 rfl ?_
  refine z_goto C z_d24_17 (by decide) 5 (by decide) ?_
  refine z_iloadN C z_d24_5 rfl 6 rfl ?_
  refine z_iloadN C z_d24_6 rfl 7 rfl ?_
  refine z_icmpN C z_d24_7 (by decide) 10 rfl ?_
  refine z_aloadN C z_d24_10 rfl rfl 11 rfl ?_
  refine z_iloadN C z_d24_11 rfl 12 rfl ?_
  refine z_iloadN C z_d24_12 rfl 13 rfl ?_
  refine z_iastore C (z := (0 : Int32)) o_p0_7 (by decide) (of_decide_eq_true rfl) rfl (vs' := [(.int (0 : Int32)), (.int (0 : Int32)), (.int (0 : Int32)), (.int (0 : Int32)), (.int (0 : Int32)), (.int (0 : Int32)), (.int (0 : Int32)), (.int (0 : Int32))]) (by rfl) g_p0 z_d24_13 14 rfl ?_
  intro h8 W8 o_p0_8
  have s8 : h8.size = h7.size := W8.size
  have k8 : Keep h h8 [p0] := k7.wr W8 (Or.inl (by simp))
  refine z_iinc C (w := (8 : Int32)) (Ls' := #[.val (.ref p0), .val (.int (0 : Int32)), .val (.int (8 : Int32)), .val (.int (8 : Int32))]) z_d24_14 rfl (by decide) rfl 17 rfl ?_
  refine z_goto C z_d24_17 (by decide) 5 (by decide) ?_
  refine z_iloadN C z_d24_5 rfl 6 rfl ?_
  refine z_iloadN C z_d24_6 rfl 7 rfl ?_
  refine z_icmpY C z_d24_7 (by decide) (by decide) 20 (by decide) ?_
  exact z_return C z_d24_20 (by decide) (by decide) ⟨rfl, k8, o_p0_8⟩
set_option maxHeartbeats 2000000 in
theorem z_c26_44 (l : Launch) {Z : State} {a0 : Array Value} (hw : ∀ d ∈ tables_1, d.before a0 Z = true) {n0 : Nat} {h : Heap} {a_DEF a_ONE a_NONE : Nat} (S : z_St Z a_DEF a_ONE a_NONE) (z0 : n0 ≤ h.size) (old : Old Z n0 h) (p0 : Nat) (p1 : Nat) (o_p0 : z_Ob Z h p0 "java/util/ArrayList$Itr" z_lay4 [.null, (.int (0 : Int32)), (.int (0 : Int32)), (.int (0 : Int32))]) (o_p1 : z_Ob Z h p1 "java/util/ArrayList" z_lay1 [(.int (0 : Int32)), (.ref a_DEF), (.int (0 : Int32))]) (ne_p0_p1 : p0 ≠ p1) (g_p0 : n0 ≤ p0) :
    z_Met l Z (⟨"java/util/ArrayList$Itr", "<init>", "(Ljava/util/ArrayList;)V"⟩ : MethodName) jdk_49_method_1_code 2 none [] ({ frames := 1, cells := 0, slots := 0, locals := 12 } : Room) n0 #[(.ref p0), (.ref p1)] h (z_nov fun h' => Keep h h' [p0] ∧ z_Ob Z h' p0 "java/util/ArrayList$Itr" z_lay4 [(.ref p1), (.int (-1 : Int32)), (.int (0 : Int32)), (.int (0 : Int32))]) := by
  refine z_met (Ls := #[.val (.ref p0), .val (.ref p1)]) (by first | exact plainFor_of_name (by first | (simp [plainName, overriddenIn]; done) | decide +kernel) | decide +kernel) rfl ?_
  intro p e s m below meth c C
  refine z_aloadN C z_d26_0 rfl rfl 1 rfl ?_
  refine z_aloadN C z_d26_1 rfl rfl 2 rfl ?_
  refine z_putO C (z_w hw 204 rfl) Via.refl o_p0 (z_lay4_ok hw) 0 rfl (vs' := [(.ref p1), (.int (0 : Int32)), (.int (0 : Int32)), (.int (0 : Int32))]) rfl (Or.inr ⟨(z_w hw 205 rfl), rfl, rfl⟩) (z_w hw 198 rfl) (ty := (.object "java/util/ArrayList")) (by decide) (by first | rfl | decide) (by first | rfl | decide) g_p0 z_d26_2 5 rfl ?_
  intro h1 W1 o_p0_1
  have s1 : h1.size = h.size := W1.size
  have k1 : Keep h h1 [p0] := (Keep.refl h [p0]).wr W1 (Or.inl (by simp))
  refine z_aloadN C z_d26_5 rfl rfl 6 rfl ?_
  refine z_init0 C (z_w hw 206 rfl) (z_w hw 7 rfl) (z_w hw 8 rfl) z_d26_6 rfl (W := 0) (Nat.le_of_eq rfl) (by decide) (by decide) 9 rfl ?_
  refine z_aloadN C z_d26_9 rfl rfl 10 rfl ?_
  refine z_iconst C (v := (-1 : Int32)) z_d26_10 (by decide) 11 rfl ?_
  refine z_putO C (z_w hw 207 rfl) Via.refl o_p0_1 (z_lay4_ok hw) 1 rfl (vs' := [(.ref p1), (.int (-1 : Int32)), (.int (0 : Int32)), (.int (0 : Int32))]) rfl (Or.inl (z_w hw 208 rfl)) (z_w hw 198 rfl) (ty := .int) (by decide) (by first | rfl | decide) (by first | rfl | decide) g_p0 z_d26_11 14 rfl ?_
  intro h2 W2 o_p0_2
  have s2 : h2.size = h1.size := W2.size
  have k2 : Keep h h2 [p0] := k1.wr W2 (Or.inl (by simp))
  refine z_aloadN C z_d26_14 rfl rfl 15 rfl ?_
  refine z_aloadN C z_d26_15 rfl rfl 16 rfl ?_
  refine z_getO C (z_w hw 204 rfl) Via.refl o_p0_2 0 rfl rfl z_d26_16 19 rfl ?_
  have o_p1_2 := ((o_p1.other W1 (Ne.symm ne_p0_p1)).other W2 (Ne.symm ne_p0_p1))
  refine z_getO C (z_w hw 209 rfl) (Via.of (z_w hw 82 rfl)) o_p1_2 0 rfl rfl z_d26_19 22 rfl ?_
  refine z_putO C (z_w hw 210 rfl) Via.refl o_p0_2 (z_lay4_ok hw) 2 rfl (vs' := [(.ref p1), (.int (-1 : Int32)), (.int (0 : Int32)), (.int (0 : Int32))]) rfl (Or.inl (z_w hw 211 rfl)) (z_w hw 198 rfl) (ty := .int) (by decide) (by first | rfl | decide) (by first | rfl | decide) g_p0 z_d26_22 25 rfl ?_
  intro h3 W3 o_p0_3
  have s3 : h3.size = h2.size := W3.size
  have k3 : Keep h h3 [p0] := k2.wr W3 (Or.inl (by simp))
  exact z_return C z_d26_25 (by decide) (by decide) ⟨rfl, k3, o_p0_3⟩
set_option maxHeartbeats 2000000 in
theorem z_c25_45 (l : Launch) {Z : State} {a0 : Array Value} (hw : ∀ d ∈ tables_1, d.before a0 Z = true) {n0 : Nat} {h : Heap} {a_DEF a_ONE a_NONE : Nat} (S : z_St Z a_DEF a_ONE a_NONE) (z0 : n0 ≤ h.size) (old : Old Z n0 h) (p0 : Nat) (o_p0 : z_Ob Z h p0 "java/util/ArrayList" z_lay1 [(.int (0 : Int32)), (.ref a_DEF), (.int (0 : Int32))]) :
    z_Met l Z (⟨"java/util/ArrayList", "iterator", "()Ljava/util/Iterator;"⟩ : MethodName) jdk_38_method_55_code 1 (some (.object "java/util/Iterator")) [] ({ frames := 2, cells := 1, slots := 4, locals := 26 } : Room) n0 #[(.ref p0)] h (z_val fun w h' => ∃ b1 : Nat, w = (.ref b1) ∧ Keep h h' [] ∧ h.size ≤ b1 ∧ b1 < h'.size ∧ z_Ob Z h' b1 "java/util/ArrayList$Itr" z_lay4 [(.ref p0), (.int (-1 : Int32)), (.int (0 : Int32)), (.int (0 : Int32))]) := by
  have lt_p0 := o_p0.lt
  refine z_met (Ls := #[.val (.ref p0)]) (by first | exact plainFor_of_name (by first | (simp [plainName, overriddenIn]; done) | decide +kernel) | decide +kernel) rfl ?_
  intro p e s m below meth c C
  refine z_newO C (z_w hw 197 rfl) (z_w hw 198 rfl) (z_w hw 199 rfl) (z_lay4_ok hw) z_lay4_df z_d25_0 (by decide) (by decide) 3 rfl ?_
  intro h1 b1 g1 E1 o_b1
  have s1 : h.size ≤ h1.size := E1.1
  have k1 : Keep h h1 [] := (Keep.refl h []).ext E1
  have t1 := o_b1.lt
  refine z_dup C z_d25_3 rfl 4 rfl ?_
  refine z_aloadN C z_d25_4 rfl rfl 5 rfl ?_
  have o_p0_1 := (o_p0.ext E1)
  have old1 := (old.ext E1)
  refine z_callI C rfl (z_c26_44 l hw S (by omega) old1 b1 p0 o_b1 o_p0_1 (by omega : (b1 : Nat) ≠ p0) (by omega)) (z_w hw 200 rfl) (z_w hw 201 rfl) (z_w hw 199 rfl) (z_w hw 203 rfl) (by decide) z_d25_5 rfl (argsL := [(.ref p0)]) (rest := [(.ref b1)]) rfl (lenOf z_pd14 rfl) (W := 1) (Nat.le_of_eq rfl) (by decide) (by decide) (by decide) (by decide) 8 rfl ?_
  rintro h2 ⟨K2, o_b1_2⟩
  have s2 : h1.size ≤ h2.size := K2.1
  have k2 : Keep h h2 [] := k1.trans K2 (allS (Or.inr (by omega)) all0)
  exact z_areturn C rfl rfl z_d25_8 (by decide) (by decide) ⟨_, rfl, b1, rfl, k2, by omega, by omega, o_b1_2⟩
set_option maxHeartbeats 2000000 in
theorem z_c27_46 (l : Launch) {Z : State} {a0 : Array Value} (hw : ∀ d ∈ tables_1, d.before a0 Z = true) {n0 : Nat} {h : Heap} {a_DEF a_ONE a_NONE : Nat} (S : z_St Z a_DEF a_ONE a_NONE) (z0 : n0 ≤ h.size) (old : Old Z n0 h) (p0 : Nat) (p1 : Nat) (o_p0 : z_Ob Z h p0 "java/util/ArrayList$Itr" z_lay4 [(.ref p1), (.int (-1 : Int32)), (.int (0 : Int32)), (.int (0 : Int32))]) (o_p1 : z_Ob Z h p1 "java/util/ArrayList" z_lay1 [(.int (0 : Int32)), (.ref a_DEF), (.int (0 : Int32))]) :
    z_Met l Z (⟨"java/util/ArrayList$Itr", "hasNext", "()Z"⟩ : MethodName) jdk_49_method_2_code 1 (some .boolean) [] ({ frames := 0, cells := 0, slots := 0, locals := 0 } : Room) n0 #[(.ref p0)] h (z_pure (.int (0 : Int32)) h) := by
  refine z_met (Ls := #[.val (.ref p0)]) (by first | exact plainFor_of_name (by first | (simp [plainName, overriddenIn]; done) | decide +kernel) | decide +kernel) rfl ?_
  intro p e s m below meth c C
  refine z_aloadN C z_d27_0 rfl rfl 1 rfl ?_
  refine z_getO C (z_w hw 221 rfl) Via.refl o_p0 3 rfl rfl z_d27_1 4 rfl ?_
  refine z_aloadN C z_d27_4 rfl rfl 5 rfl ?_
  refine z_getO C (z_w hw 204 rfl) Via.refl o_p0 0 rfl rfl z_d27_5 8 rfl ?_
  refine z_getN C (z_w hw 223 rfl) Via.refl o_p1 2 rfl rfl z_d27_8 11 rfl ?_
  refine z_icmpY C z_d27_11 (by decide) (by decide) 18 (by decide) ?_
  refine z_iconst C (v := (0 : Int32)) z_d27_18 (by decide) 19 rfl ?_
  exact z_ireturn C (by simp) rfl z_d27_19 (by decide) (by decide) ⟨rfl, rfl⟩
set_option maxHeartbeats 2000000 in
theorem z_c24_47 (l : Launch) {Z : State} {a0 : Array Value} (hw : ∀ d ∈ tables_1, d.before a0 Z = true) {n0 : Nat} {h : Heap} {a_DEF a_ONE a_NONE : Nat} (S : z_St Z a_DEF a_ONE a_NONE) (z0 : n0 ≤ h.size) (old : Old Z n0 h) (p0 : Nat) (o_p0 : z_Ar Z h p0 .int "[I" "" [(.int (0 : Int32)), (.int (0 : Int32)), (.int (0 : Int32)), (.int (0 : Int32))]) (g_p0 : n0 ≤ p0) :
    z_Met l Z (⟨"java/util/Arrays", "fill", "([II)V"⟩ : MethodName) jdk_65_method_103_code 4 none [] ({ frames := 0, cells := 0, slots := 0, locals := 0 } : Room) n0 #[(.ref p0), (.int (0 : Int32))] h (z_nov fun h' => Keep h h' [p0] ∧ z_Ar Z h' p0 .int "[I" "" [(.int (0 : Int32)), (.int (0 : Int32)), (.int (0 : Int32)), (.int (0 : Int32))]) := by
  refine z_met (Ls := #[.val (.ref p0), .val (.int (0 : Int32)), .unset, .unset]) (by first | exact plainFor_of_name (by first | (simp [plainName, overriddenIn]; done) | decide +kernel) | decide +kernel) rfl ?_
  intro p e s m below meth c C
  refine z_iconst C (v := (0 : Int32)) z_d24_0 (by decide) 1 rfl ?_
  refine z_istoreN C (Ls' := #[.val (.ref p0), .val (.int (0 : Int32)), .val (.int (0 : Int32)), .unset]) z_d24_1 rfl 2 rfl ?_
  refine z_aloadN C z_d24_2 rfl rfl 3 rfl ?_
  refine z_arraylength C (z := (4 : Int32)) o_p0 (by rfl) z_d24_3 4 rfl ?_
  refine z_istoreN C (Ls' := #[.val (.ref p0), .val (.int (0 : Int32)), .val (.int (0 : Int32)), .val (.int (4 : Int32))]) z_d24_4 rfl 5 rfl ?_
  refine z_iloadN C z_d24_5 rfl 6 rfl ?_
  refine z_iloadN C z_d24_6 rfl 7 rfl ?_
  refine z_icmpN C z_d24_7 (by decide) 10 rfl ?_
  refine z_aloadN C z_d24_10 rfl rfl 11 rfl ?_
  refine z_iloadN C z_d24_11 rfl 12 rfl ?_
  refine z_iloadN C z_d24_12 rfl 13 rfl ?_
  refine z_iastore C (z := (0 : Int32)) o_p0 (by decide) (of_decide_eq_true rfl) rfl (vs' := [(.int (0 : Int32)), (.int (0 : Int32)), (.int (0 : Int32)), (.int (0 : Int32))]) (by rfl) g_p0 z_d24_13 14 rfl ?_
  intro h1 W1 o_p0_1
  have s1 : h1.size = h.size := W1.size
  have k1 : Keep h h1 [p0] := (Keep.refl h [p0]).wr W1 (Or.inl (by simp))
  refine z_iinc C (w := (1 : Int32)) (Ls' := #[.val (.ref p0), .val (.int (0 : Int32)), .val (.int (1 : Int32)), .val (.int (4 : Int32))]) z_d24_14 rfl (by decide) rfl 17 rfl ?_
  refine z_goto C z_d24_17 (by decide) 5 (by decide) ?_
  refine z_iloadN C z_d24_5 rfl 6 rfl ?_
  refine z_iloadN C z_d24_6 rfl 7 rfl ?_
  refine z_icmpN C z_d24_7 (by decide) 10 rfl ?_
  refine z_aloadN C z_d24_10 rfl rfl 11 rfl ?_
  refine z_iloadN C z_d24_11 rfl 12 rfl ?_
  refine z_iloadN C z_d24_12 rfl 13 rfl ?_
  refine z_iastore C (z := (0 : Int32)) o_p0_1 (by decide) (of_decide_eq_true rfl) rfl (vs' := [(.int (0 : Int32)), (.int (0 : Int32)), (.int (0 : Int32)), (.int (0 : Int32))]) (by rfl) g_p0 z_d24_13 14 rfl ?_
  intro h2 W2 o_p0_2
  have s2 : h2.size = h1.size := W2.size
  have k2 : Keep h h2 [p0] := k1.wr W2 (Or.inl (by simp))
  refine z_iinc C (w := (2 : Int32)) (Ls' := #[.val (.ref p0), .val (.int (0 : Int32)), .val (.int (2 : Int32)), .val (.int (4 : Int32))]) z_d24_14 rfl (by decide) rfl 17 rfl ?_
  refine z_goto C z_d24_17 (by decide) 5 (by decide) ?_
  refine z_iloadN C z_d24_5 rfl 6 rfl ?_
  refine z_iloadN C z_d24_6 rfl 7 rfl ?_
  refine z_icmpN C z_d24_7 (by decide) 10 rfl ?_
  refine z_aloadN C z_d24_10 rfl rfl 11 rfl ?_
  refine z_iloadN C z_d24_11 rfl 12 rfl ?_
  refine z_iloadN C z_d24_12 rfl 13 rfl ?_
  refine z_iastore C (z := (0 : Int32)) o_p0_2 (by decide) (of_decide_eq_true rfl) rfl (vs' := [(.int (0 : Int32)), (.int (0 : Int32)), (.int (0 : Int32)), (.int (0 : Int32))]) (by rfl) g_p0 z_d24_13 14 rfl ?_
  intro h3 W3 o_p0_3
  have s3 : h3.size = h2.size := W3.size
  have k3 : Keep h h3 [p0] := k2.wr W3 (Or.inl (by simp))
  refine z_iinc C (w := (3 : Int32)) (Ls' := #[.val (.ref p0), .val (.int (0 : Int32)), .val (.int (3 : Int32)), .val (.int (4 : Int32))]) z_d24_14 rfl (by decide) rfl 17 rfl ?_
  refine z_goto C z_d24_17 (by decide) 5 (by decide) ?_
  refine z_iloadN C z_d24_5 rfl 6 rfl ?_
  refine z_iloadN C z_d24_6 rfl 7 rfl ?_
  refine z_icmpN C z_d24_7 (by decide) 10 rfl ?_
  refine z_aloadN C z_d24_10 rfl rfl 11 rfl ?_
  refine z_iloadN C z_d24_11 rfl 12 rfl ?_
  refine z_iloadN C z_d24_12 rfl 13 rfl ?_
  refine z_iastore C (z := (0 : Int32)) o_p0_3 (by decide) (of_decide_eq_true rfl) rfl (vs' := [(.int (0 : Int32)), (.int (0 : Int32)), (.int (0 : Int32)), (.int (0 : Int32))]) (by rfl) g_p0 z_d24_13 14 rfl ?_
  intro h4 W4 o_p0_4
  have s4 : h4.size = h3.size := W4.size
  have k4 : Keep h h4 [p0] := k3.wr W4 (Or.inl (by simp))
  refine z_iinc C (w := (4 : Int32)) (Ls' := #[.val (.ref p0), .val (.int (0 : Int32)), .val (.int (4 : Int32)), .val (.int (4 : Int32))]) z_d24_14 rfl (by decide) rfl 17 rfl ?_
  refine z_goto C z_d24_17 (by decide) 5 (by decide) ?_
  refine z_iloadN C z_d24_5 rfl 6 rfl ?_
  refine z_iloadN C z_d24_6 rfl 7 rfl ?_
  refine z_icmpY C z_d24_7 (by decide) (by decide) 20 (by decide) ?_
  exact z_return C z_d24_20 (by decide) (by decide) ⟨rfl, k4, o_p0_4⟩
set_option maxHeartbeats 2000000 in
theorem z_c28_48 (l : Launch) {Z : State} {a0 : Array Value} (hw : ∀ d ∈ tables_1, d.before a0 Z = true) {n0 : Nat} {h : Heap} {a_DEF a_ONE a_NONE : Nat} (S : z_St Z a_DEF a_ONE a_NONE) (z0 : n0 ≤ h.size) (old : Old Z n0 h) (p0 : Nat) (o_p0 : z_Ar Z h p0 (.array .int) "[[I" "[I" [.null, .null, .null, .null, .null, .null, .null, .null]) (g_p0 : n0 ≤ p0) :
    z_Met l Z (⟨"java/util/Arrays", "fill", "([Ljava/lang/Object;Ljava/lang/Object;)V"⟩ : MethodName) jdk_65_method_117_code 4 none [] ({ frames := 0, cells := 0, slots := 0, locals := 0 } : Room) n0 #[(.ref p0), (.ref a_NONE)] h (z_nov fun h' => Keep h h' [p0] ∧ z_Ar Z h' p0 (.array .int) "[[I" "[I" [(.ref a_NONE), (.ref a_NONE), (.ref a_NONE), (.ref a_NONE), (.ref a_NONE), (.ref a_NONE), (.ref a_NONE), (.ref a_NONE)]) := by
  refine z_met (Ls := #[.val (.ref p0), .val (.ref a_NONE), .unset, .unset]) (by first | exact plainFor_of_name (by first | (simp [plainName, overriddenIn]; done) | decide +kernel) | decide +kernel) rfl ?_
  intro p e s m below meth c C
  refine z_iconst C (v := (0 : Int32)) z_d28_0 (by decide) 1 rfl ?_
  refine z_istoreN C (Ls' := #[.val (.ref p0), .val (.ref a_NONE), .val (.int (0 : Int32)), .unset]) z_d28_1 rfl 2 rfl ?_
  refine z_aloadN C z_d28_2 rfl rfl 3 rfl ?_
  refine z_arraylength C (z := (8 : Int32)) o_p0 (by rfl) z_d28_3 4 rfl ?_
  refine z_istoreN C (Ls' := #[.val (.ref p0), .val (.ref a_NONE), .val (.int (0 : Int32)), .val (.int (8 : Int32))]) z_d28_4 rfl 5 rfl ?_
  refine z_iloadN C z_d28_5 rfl 6 rfl ?_
  refine z_iloadN C z_d28_6 rfl 7 rfl ?_
  refine z_icmpN C z_d28_7 (by decide) 10 rfl ?_
  refine z_aloadN C z_d28_10 rfl rfl 11 rfl ?_
  refine z_iloadN C z_d28_11 rfl 12 rfl ?_
  refine z_aloadN C z_d28_12 rfl rfl 13 rfl ?_
  refine z_aastore C o_p0 rfl (o_p0.sto (by decide) (Ins.self (S.2.2.2.ext old.2).exa)) (by decide) (of_decide_eq_true rfl) (vs' := [(.ref a_NONE), .null, .null, .null, .null, .null, .null, .null]) (by rfl) g_p0 z_d28_13 14 rfl ?_
  intro h1 W1 o_p0_1
  have s1 : h1.size = h.size := W1.size
  have k1 : Keep h h1 [p0] := (Keep.refl h [p0]).wr W1 (Or.inl (by simp))
  refine z_iinc C (w := (1 : Int32)) (Ls' := #[.val (.ref p0), .val (.ref a_NONE), .val (.int (1 : Int32)), .val (.int (8 : Int32))]) z_d28_14 rfl (by decide) rfl 17 rfl ?_
  refine z_goto C z_d28_17 (by decide) 5 (by decide) ?_
  refine z_iloadN C z_d28_5 rfl 6 rfl ?_
  refine z_iloadN C z_d28_6 rfl 7 rfl ?_
  refine z_icmpN C z_d28_7 (by decide) 10 rfl ?_
  refine z_aloadN C z_d28_10 rfl rfl 11 rfl ?_
  refine z_iloadN C z_d28_11 rfl 12 rfl ?_
  refine z_aloadN C z_d28_12 rfl rfl 13 rfl ?_
  have old1 := (old.wr W1 g_p0)
  refine z_aastore C o_p0_1 rfl (o_p0_1.sto (by decide) (Ins.self (S.2.2.2.ext old1.2).exa)) (by decide) (of_decide_eq_true rfl) (vs' := [(.ref a_NONE), (.ref a_NONE), .null, .null, .null, .null, .null, .null]) (by rfl) g_p0 z_d28_13 14 rfl ?_
  intro h2 W2 o_p0_2
  have s2 : h2.size = h1.size := W2.size
  have k2 : Keep h h2 [p0] := k1.wr W2 (Or.inl (by simp))
  refine z_iinc C (w := (2 : Int32)) (Ls' := #[.val (.ref p0), .val (.ref a_NONE), .val (.int (2 : Int32)), .val (.int (8 : Int32))]) z_d28_14 rfl (by decide) rfl 17 rfl ?_
  refine z_goto C z_d28_17 (by decide) 5 (by decide) ?_
  refine z_iloadN C z_d28_5 rfl 6 rfl ?_
  refine z_iloadN C z_d28_6 rfl 7 rfl ?_
  refine z_icmpN C z_d28_7 (by decide) 10 rfl ?_
  refine z_aloadN C z_d28_10 rfl rfl 11 rfl ?_
  refine z_iloadN C z_d28_11 rfl 12 rfl ?_
  refine z_aloadN C z_d28_12 rfl rfl 13 rfl ?_
  have old2 := (old1.wr W2 g_p0)
  refine z_aastore C o_p0_2 rfl (o_p0_2.sto (by decide) (Ins.self (S.2.2.2.ext old2.2).exa)) (by decide) (of_decide_eq_true rfl) (vs' := [(.ref a_NONE), (.ref a_NONE), (.ref a_NONE), .null, .null, .null, .null, .null]) (by rfl) g_p0 z_d28_13 14 rfl ?_
  intro h3 W3 o_p0_3
  have s3 : h3.size = h2.size := W3.size
  have k3 : Keep h h3 [p0] := k2.wr W3 (Or.inl (by simp))
  refine z_iinc C (w := (3 : Int32)) (Ls' := #[.val (.ref p0), .val (.ref a_NONE), .val (.int (3 : Int32)), .val (.int (8 : Int32))]) z_d28_14 rfl (by decide) rfl 17 rfl ?_
  refine z_goto C z_d28_17 (by decide) 5 (by decide) ?_
  refine z_iloadN C z_d28_5 rfl 6 rfl ?_
  refine z_iloadN C z_d28_6 rfl 7 rfl ?_
  refine z_icmpN C z_d28_7 (by decide) 10 rfl ?_
  refine z_aloadN C z_d28_10 rfl rfl 11 rfl ?_
  refine z_iloadN C z_d28_11 rfl 12 rfl ?_
  refine z_aloadN C z_d28_12 rfl rfl 13 rfl ?_
  have old3 := (old2.wr W3 g_p0)
  refine z_aastore C o_p0_3 rfl (o_p0_3.sto (by decide) (Ins.self (S.2.2.2.ext old3.2).exa)) (by decide) (of_decide_eq_true rfl) (vs' := [(.ref a_NONE), (.ref a_NONE), (.ref a_NONE), (.ref a_NONE), .null, .null, .null, .null]) (by rfl) g_p0 z_d28_13 14 rfl ?_
  intro h4 W4 o_p0_4
  have s4 : h4.size = h3.size := W4.size
  have k4 : Keep h h4 [p0] := k3.wr W4 (Or.inl (by simp))
  refine z_iinc C (w := (4 : Int32)) (Ls' := #[.val (.ref p0), .val (.ref a_NONE), .val (.int (4 : Int32)), .val (.int (8 : Int32))]) z_d28_14 rfl (by decide) rfl 17 rfl ?_
  refine z_goto C z_d28_17 (by decide) 5 (by decide) ?_
  refine z_iloadN C z_d28_5 rfl 6 rfl ?_
  refine z_iloadN C z_d28_6 rfl 7 rfl ?_
  refine z_icmpN C z_d28_7 (by decide) 10 rfl ?_
  refine z_aloadN C z_d28_10 rfl rfl 11 rfl ?_
  refine z_iloadN C z_d28_11 rfl 12 rfl ?_
  refine z_aloadN C z_d28_12 rfl rfl 13 rfl ?_
  have old4 := (old3.wr W4 g_p0)
  refine z_aastore C o_p0_4 rfl (o_p0_4.sto (by decide) (Ins.self (S.2.2.2.ext old4.2).exa)) (by decide) (of_decide_eq_true rfl) (vs' := [(.ref a_NONE), (.ref a_NONE), (.ref a_NONE), (.ref a_NONE), (.ref a_NONE), .null, .null, .null]) (by rfl) g_p0 z_d28_13 14 rfl ?_
  intro h5 W5 o_p0_5
  have s5 : h5.size = h4.size := W5.size
  have k5 : Keep h h5 [p0] := k4.wr W5 (Or.inl (by simp))
  refine z_iinc C (w := (5 : Int32)) (Ls' := #[.val (.ref p0), .val (.ref a_NONE), .val (.int (5 : Int32)), .val (.int (8 : Int32))]) z_d28_14 rfl (by decide) rfl 17 rfl ?_
  refine z_goto C z_d28_17 (by decide) 5 (by decide) ?_
  refine z_iloadN C z_d28_5 rfl 6 rfl ?_
  refine z_iloadN C z_d28_6 rfl 7 rfl ?_
  refine z_icmpN C z_d28_7 (by decide) 10 rfl ?_
  refine z_aloadN C z_d28_10 rfl rfl 11 rfl ?_
  refine z_iloadN C z_d28_11 rfl 12 rfl ?_
  refine z_aloadN C z_d28_12 rfl rfl 13 rfl ?_
  have old5 := (old4.wr W5 g_p0)
  refine z_aastore C o_p0_5 rfl (o_p0_5.sto (by decide) (Ins.self (S.2.2.2.ext old5.2).exa)) (by decide) (of_decide_eq_true rfl) (vs' := [(.ref a_NONE), (.ref a_NONE), (.ref a_NONE), (.ref a_NONE), (.ref a_NONE), (.ref a_NONE), .null, .null]) (by rfl) g_p0 z_d28_13 14 rfl ?_
  intro h6 W6 o_p0_6
  have s6 : h6.size = h5.size := W6.size
  have k6 : Keep h h6 [p0] := k5.wr W6 (Or.inl (by simp))
  refine z_iinc C (w := (6 : Int32)) (Ls' := #[.val (.ref p0), .val (.ref a_NONE), .val (.int (6 : Int32)), .val (.int (8 : Int32))]) z_d28_14 rfl (by decide) rfl 17 rfl ?_
  refine z_goto C z_d28_17 (by decide) 5 (by decide) ?_
  refine z_iloadN C z_d28_5 rfl 6 rfl ?_
  refine z_iloadN C z_d28_6 rfl 7 rfl ?_
  refine z_icmpN C z_d28_7 (by decide) 10 rfl ?_
  refine z_aloadN C z_d28_10 rfl rfl 11 rfl ?_
  refine z_iloadN C z_d28_11 rfl 12 rfl ?_
  refine z_aloadN C z_d28_12 rfl rfl 13 rfl ?_
  have old6 := (old5.wr W6 g_p0)
  refine z_aastore C o_p0_6 rfl (o_p0_6.sto (by decide) (Ins.self (S.2.2.2.ext old6.2).exa)) (by decide) (of_decide_eq_true rfl) (vs' := [(.ref a_NONE), (.ref a_NONE), (.ref a_NONE), (.ref a_NONE), (.ref a_NONE), (.ref a_NONE), (.ref a_NONE), .null]) (by rfl) g_p0 z_d28_13 14 rfl ?_
  intro h7 W7 o_p0_7
  have s7 : h7.size = h6.size := W7.size
  have k7 : Keep h h7 [p0] := k6.wr W7 (Or.inl (by simp))
  refine z_iinc C (w := (7 : Int32)) (Ls' := #[.val (.ref p0), .val (.ref a_NONE), .val (.int (7 : Int32)), .val (.int (8 : Int32))]) z_d28_14 rfl (by decide) rfl 17 rfl ?_
  refine z_goto C z_d28_17 (by decide) 5 (by decide) ?_
  refine z_iloadN C z_d28_5 rfl 6 rfl ?_
  refine z_iloadN C z_d28_6 rfl 7 rfl ?_
  refine z_icmpN C z_d28_7 (by decide) 10 rfl ?_
  refine z_aloadN C z_d28_10 rfl rfl 11 rfl ?_
  refine z_iloadN C z_d28_11 rfl 12 rfl ?_
  refine z_aloadN C z_d28_12 rfl rfl 13 rfl ?_
  have old7 := (old6.wr W7 g_p0)
  refine z_aastore C o_p0_7 rfl (o_p0_7.sto (by decide) (Ins.self (S.2.2.2.ext old7.2).exa)) (by decide) (of_decide_eq_true rfl) (vs' := [(.ref a_NONE), (.ref a_NONE), (.ref a_NONE), (.ref a_NONE), (.ref a_NONE), (.ref a_NONE), (.ref a_NONE), (.ref a_NONE)]) (by rfl) g_p0 z_d28_13 14 rfl ?_
  intro h8 W8 o_p0_8
  have s8 : h8.size = h7.size := W8.size
  have k8 : Keep h h8 [p0] := k7.wr W8 (Or.inl (by simp))
  refine z_iinc C (w := (8 : Int32)) (Ls' := #[.val (.ref p0), .val (.ref a_NONE), .val (.int (8 : Int32)), .val (.int (8 : Int32))]) z_d28_14 rfl (by decide) rfl 17 rfl ?_
  refine z_goto C z_d28_17 (by decide) 5 (by decide) ?_
  refine z_iloadN C z_d28_5 rfl 6 rfl ?_
  refine z_iloadN C z_d28_6 rfl 7 rfl ?_
  refine z_icmpY C z_d28_7 (by decide) (by decide) 20 (by decide) ?_
  exact z_return C z_d28_20 (by decide) (by decide) ⟨rfl, k8, o_p0_8⟩
set_option maxHeartbeats 2000000 in
theorem z_c29_49 (l : Launch) {Z : State} {a0 : Array Value} (hw : ∀ d ∈ tables_1, d.before a0 Z = true) {n0 : Nat} {h : Heap} {a_DEF a_ONE a_NONE : Nat} (S : z_St Z a_DEF a_ONE a_NONE) (z0 : n0 ≤ h.size) (old : Old Z n0 h) :
    z_Met l Z (⟨"java/math/BigInteger", "signum", "()I"⟩ : MethodName) jdk_2097_method_81_code 1 (some .int) [] ({ frames := 0, cells := 0, slots := 0, locals := 0 } : Room) n0 #[(.ref a_ONE)] h (z_pure (.int (1 : Int32)) h) := by
  refine z_met (Ls := #[.val (.ref a_ONE)]) (by first | exact plainFor_of_name (by first | (simp [plainName, overriddenIn]; done) | decide +kernel) | decide +kernel) rfl ?_
  intro p e s m below meth c C
  refine z_aloadN C z_d29_0 rfl rfl 1 rfl ?_
  refine z_getO C (z_w hw 242 rfl) Via.refl (S.2.1.2.ext old.2) 0 rfl rfl z_d29_1 4 rfl ?_
  exact z_ireturn C (Or.inl rfl) rfl z_d29_4 (by decide) (by decide) ⟨rfl, rfl⟩
set_option maxHeartbeats 2000000 in
theorem z_c16_50 (l : Launch) {Z : State} {a0 : Array Value} (hw : ∀ d ∈ tables_1, d.before a0 Z = true) {n0 : Nat} {h : Heap} {a_DEF a_ONE a_NONE : Nat} (S : z_St Z a_DEF a_ONE a_NONE) (z0 : n0 ≤ h.size) (old : Old Z n0 h) (p0 : Nat) (p1 : Nat) (p2 : Nat) (p3 : Nat) (p4 : Nat) (p5 : Nat) (p6 : Nat) (p7 : Nat) (p8 : Nat) (o_p1 : z_Ob Z h p1 "com/example/variegate/variegate/service/Cnf" z_lay0 [(.ref p2), (.ref p3), (.ref p4), (.ref p5), (.ref p6)]) (o_p4 : z_Ob Z h p4 "java/util/ArrayList" z_lay1 [(.int (3 : Int32)), (.ref p7), (.int (3 : Int32))]) (o_p0 : z_Ob Z h p0 "com/example/variegate/variegate/service/Propagation" z_lay3 [(.int (0 : Int32)), .null, .null, .null, .null, .null, .null, .null, .null, .null, .null, (.int (0 : Int32)), (.int (0 : Int32)), (.int (0 : Int32))]) (o_p7 : z_Ar Z h p7 (.object "java/lang/Object") "[Ljava/lang/Object;" "java/lang/Object" [(.ref a_ONE), (.ref a_ONE), (.ref a_ONE), .null, .null, .null, .null, .null, .null, .null]) (o_p5 : z_Ob Z h p5 "java/util/ArrayList" z_lay1 [(.int (3 : Int32)), (.ref p8), (.int (3 : Int32))]) (o_p8 : z_Ar Z h p8 (.object "java/lang/Object") "[Ljava/lang/Object;" "java/lang/Object" [(.ref a_ONE), (.ref a_ONE), (.ref a_ONE), .null, .null, .null, .null, .null, .null, .null]) (o_p2 : z_Ob Z h p2 "java/util/ArrayList" z_lay1 [(.int (0 : Int32)), (.ref a_DEF), (.int (0 : Int32))]) (ne_p0_p1 : p0 ≠ p1) (ne_p0_p4 : p0 ≠ p4) (ne_p0_p7 : p0 ≠ p7) (ne_p0_p5 : p0 ≠ p5) (ne_p0_p8 : p0 ≠ p8) (ne_p0_p2 : p0 ≠ p2) (g_p0 : n0 ≤ p0) :
    z_Met l Z (⟨"com/example/variegate/variegate/service/Propagation", "<init>", "(Lcom/example/variegate/variegate/service/Cnf;)V"⟩ : MethodName) prog_97_method_1_code 15 none [] ({ frames := 4, cells := 17, slots := 78, locals := 55 } : Room) n0 #[(.ref p0), (.ref p1)] h (z_nov fun h' => ∃ b2 : Nat, ∃ b10 : Nat, ∃ b12 : Nat, ∃ b20 : Nat, ∃ b24 : Nat, ∃ b36 : Nat, ∃ b38 : Nat, ∃ b40 : Nat, ∃ b47 : Nat, ∃ b50 : Nat, Keep h h' [p0] ∧ h.size ≤ b2 ∧ b2 < b10 ∧ b10 < b12 ∧ b12 < b20 ∧ b20 < b24 ∧ b24 < b36 ∧ b36 < b38 ∧ b38 < b40 ∧ b40 < b47 ∧ b47 < b50 ∧ b50 < h'.size ∧ z_Ob Z h' p0 "com/example/variegate/variegate/service/Propagation" z_lay3 [(.int (3 : Int32)), (.ref b2), (.ref b10), (.ref b12), (.ref b20), (.ref b24), (.ref b36), (.ref b38), (.ref b40), (.ref b47), (.ref b50), (.int (0 : Int32)), (.int (0 : Int32)), (.int (0 : Int32))] ∧ z_Ar Z h' b2 (.object "java/math/BigInteger") "[Ljava/math/BigInteger;" "java/math/BigInteger" [.null, .null, (.ref a_ONE), (.ref a_ONE), (.ref a_ONE), (.ref a_ONE), (.ref a_ONE), (.ref a_ONE)] ∧ z_Ar Z h' b10 .byte "[B" "" [(.int (0 : Int32)), (.int (0 : Int32)), (.int (0 : Int32)), (.int (0 : Int32)), (.int (0 : Int32)), (.int (0 : Int32)), (.int (0 : Int32)), (.int (0 : Int32))] ∧ z_Ar Z h' b12 .int "[I" "" [(.int (0 : Int32)), (.int (0 : Int32)), (.int (0 : Int32)), (.int (0 : Int32))] ∧ z_Ar Z h' b20 .boolean "[Z" "" [] ∧ z_Ar Z h' b24 (.array .int) "[[I" "[I" [(.ref a_NONE), (.ref a_NONE), (.ref a_NONE), (.ref a_NONE), (.ref a_NONE), (.ref a_NONE), (.ref a_NONE), (.ref a_NONE)] ∧ z_Ar Z h' b36 .int "[I" "" [] ∧ z_Ar Z h' b38 .int "[I" "" [(.int (0 : Int32))] ∧ z_Ar Z h' b40 (.array .int) "[[I" "[I" [(.ref a_NONE), (.ref a_NONE), (.ref a_NONE), (.ref a_NONE)] ∧ z_Ar Z h' b47 (.array .int) "[[I" "[I" [(.ref a_NONE), (.ref a_NONE), (.ref a_NONE), (.ref a_NONE), (.ref a_NONE), (.ref a_NONE), (.ref a_NONE), (.ref a_NONE)] ∧ z_Ar Z h' b50 .int "[I" "" [(.int (0 : Int32)), (.int (0 : Int32)), (.int (0 : Int32)), (.int (0 : Int32)), (.int (0 : Int32)), (.int (0 : Int32)), (.int (0 : Int32)), (.int (0 : Int32))]) := by
  have lt_p1 := o_p1.lt
  have lt_p4 := o_p4.lt
  have lt_p0 := o_p0.lt
  have lt_p7 := o_p7.lt
  have lt_p5 := o_p5.lt
  have lt_p8 := o_p8.lt
  have lt_p2 := o_p2.lt
  refine z_met (Ls := #[.val (.ref p0), .val (.ref p1), .unset, .unset, .unset, .unset, .unset, .unset, .unset, .unset, .unset, .unset, .unset, .unset, .unset]) (by first | exact plainFor_of_name (by first | (simp [plainName, overriddenIn]; done) | decide +kernel) | decide +kernel) rfl ?_
  intro p e s m below meth c C
  refine z_aloadN C z_d16_0 rfl rfl 1 rfl ?_
  refine z_init0 C (z_w hw 121 rfl) (z_w hw 7 rfl) (z_w hw 8 rfl) z_d16_1 rfl (W := 0) (Nat.le_of_eq rfl) (by decide) (by decide) 4 rfl ?_
  refine z_aloadN C z_d16_4 rfl rfl 5 rfl ?_
  refine z_aloadN C z_d16_5 rfl rfl 6 rfl ?_
  refine z_callVp C o_p1.1 (z_c17_22 l hw S (by omega) old p1 p2 p3 p4 p5 p6 p7 o_p1 o_p4) (z_w hw 122 rfl) (z_w hw 123 rfl) (z_w hw 125 rfl) (z_w hw 124 rfl) (z_w hw 2 rfl) (z_w hw 126 rfl) (by decide) z_d16_6 rfl (argsL := []) (rest := [(.ref p0)]) rfl (lenOf z_pd8 rfl) (W := 1) (Nat.le_of_eq rfl) (by decide) (by decide) (by decide) (by decide) (by decide) (by decide) 9 rfl ?_
  refine z_putO C (z_w hw 127 rfl) Via.refl o_p0 (z_lay3_ok hw) 0 rfl (vs' := [(.int (3 : Int32)), .null, .null, .null, .null, .null, .null, .null, .null, .null, .null, (.int (0 : Int32)), (.int (0 : Int32)), (.int (0 : Int32))]) rfl (Or.inr ⟨(z_w hw 128 rfl), rfl, rfl⟩) (z_w hw 116 rfl) (ty := .int) (by decide) (by first | rfl | decide) (by first | rfl | decide) g_p0 z_d16_9 12 rfl ?_
  intro h1 W1 o_p0_1
  have s1 : h1.size = h.size := W1.size
  have k1 : Keep h h1 [p0] := (Keep.refl h [p0]).wr W1 (Or.inl (by simp))
  refine z_aloadN C z_d16_12 rfl rfl 13 rfl ?_
  refine z_iconst C (v := (2 : Int32)) z_d16_13 (by decide) 14 rfl ?_
  refine z_aloadN C z_d16_14 rfl rfl 15 rfl ?_
  refine z_getO C (z_w hw 127 rfl) Via.refl o_p0_1 0 rfl rfl z_d16_15 18 rfl ?_
  refine z_imul C (z := (6 : Int32)) z_d16_18 (by decide) 19 rfl ?_
  refine z_iconst C (v := (2 : Int32)) z_d16_19 (by decide) 20 rfl ?_
  refine z_iadd C (z := (8 : Int32)) z_d16_20 (by decide) 21 rfl ?_
  refine z_anewarray C (z_w hw 129 rfl) (z_w hw 130 rfl) (by decide) (cap := 8) (by decide) (by decide) (ad := "[Ljava/math/BigInteger;") (by decide +kernel) (vs := [.null, .null, .null, .null, .null, .null, .null, .null]) (by rfl) z_d16_21 (by decide) (by decide) 24 rfl ?_
  intro h2 b2 g2 E2 o_b2
  have s2 : h1.size ≤ h2.size := E2.1
  have k2 : Keep h h2 [p0] := k1.ext E2
  have t2 := o_b2.lt
  have o_p0_2 := (o_p0_1.ext E2)
  refine z_putO C (z_w hw 131 rfl) Via.refl o_p0_2 (z_lay3_ok hw) 1 rfl (vs' := [(.int (3 : Int32)), (.ref b2), .null, .null, .null, .null, .null, .null, .null, .null, .null, (.int (0 : Int32)), (.int (0 : Int32)), (.int (0 : Int32))]) rfl (Or.inr ⟨(z_w hw 132 rfl), rfl, rfl⟩) (z_w hw 116 rfl) (ty := (.array (.object "java/math/BigInteger"))) (by decide) (by first | rfl | decide) (by first | rfl | decide) g_p0 z_d16_24 27 rfl ?_
  intro h3 W3 o_p0_3
  have s3 : h3.size = h2.size := W3.size
  have k3 : Keep h h3 [p0] := k2.wr W3 (Or.inl (by simp))
  refine z_iconst C (v := (1 : Int32)) z_d16_27 (by decide) 28 rfl ?_
  refine z_istoreN C (Ls' := #[.val (.ref p0), .val (.ref p1), .val (.int (1 : Int32)), .unset, .unset, .unset, .unset, .unset, .unset, .unset, .unset, .unset, .unset, .unset, .unset]) z_d16_28 rfl 29 rfl ?_
  refine z_iloadN C z_d16_29 rfl 30 rfl ?_
  refine z_aloadN C z_d16_30 rfl rfl 31 rfl ?_
  refine z_getO C (z_w hw 127 rfl) Via.refl o_p0_3 0 rfl rfl z_d16_31 34 rfl ?_
  refine z_icmpN C z_d16_34 (by decide) 37 rfl ?_
  refine z_aloadN C z_d16_37 rfl rfl 38 rfl ?_
  refine z_getO C (z_w hw 131 rfl) Via.refl o_p0_3 1 rfl rfl z_d16_38 41 rfl ?_
  refine z_iconst C (v := (2 : Int32)) z_d16_41 (by decide) 42 rfl ?_
  refine z_iloadN C z_d16_42 rfl 43 rfl ?_
  refine z_imul C (z := (2 : Int32)) z_d16_43 (by decide) 44 rfl ?_
  refine z_aloadN C z_d16_44 rfl rfl 45 rfl ?_
  refine z_iloadN C z_d16_45 rfl 46 rfl ?_
  have o_p1_3 := (((o_p1.other W1 (Ne.symm ne_p0_p1)).ext E2).other W3 (Ne.symm ne_p0_p1))
  have o_p4_3 := (((o_p4.other W1 (Ne.symm ne_p0_p4)).ext E2).other W3 (Ne.symm ne_p0_p4))
  have o_p7_3 := (((o_p7.other W1 (Ne.symm ne_p0_p7)).ext E2).other W3 (Ne.symm ne_p0_p7))
  have old3 := (((old.wr W1 g_p0).ext E2).wr W3 g_p0)
  refine z_callVp C o_p1_3.1 (z_c18_27 l hw S (by omega) old3 p1 p2 p3 p4 p5 p6 p7 o_p1_3 o_p4_3 o_p7_3) (z_w hw 133 rfl) (z_w hw 134 rfl) (z_w hw 136 rfl) (z_w hw 135 rfl) (z_w hw 2 rfl) (z_w hw 137 rfl) (by decide) z_d16_46 rfl (argsL := [(.int (1 : Int32))]) (rest := [(.int (2 : Int32)), (.ref b2)]) rfl (lenOf z_pd11 rfl) (W := 2) (Nat.le_of_eq rfl) (by decide) (by decide) (by decide) (by decide) (by decide) (by decide) 49 rfl ?_
  have o_b2_3 := (o_b2.other W3 (by omega : (b2 : Nat) ≠ p0))
  refine z_aastore C o_b2_3 rfl (o_b2_3.sto (by decide) (Ins.self (S.2.1.2.ext old3.2).1)) (by decide) (of_decide_eq_true rfl) (vs' := [.null, .null, (.ref a_ONE), .null, .null, .null, .null, .null]) (by rfl) (by omega) z_d16_49 50 rfl ?_
  intro h4 W4 o_b2_4
  have s4 : h4.size = h3.size := W4.size
  have k4 : Keep h h4 [p0] := k3.wr W4 (Or.inr (by omega))
  refine z_aloadN C z_d16_50 rfl rfl 51 rfl ?_
  have o_p0_4 := (o_p0_3.other W4 (by omega : (p0 : Nat) ≠ b2))
  refine z_getO C (z_w hw 131 rfl) Via.refl o_p0_4 1 rfl rfl z_d16_51 54 rfl ?_
  refine z_iconst C (v := (2 : Int32)) z_d16_54 (by decide) 55 rfl ?_
  refine z_iloadN C z_d16_55 rfl 56 rfl ?_
  refine z_imul C (z := (2 : Int32)) z_d16_56 (by decide) 57 rfl ?_
  refine z_iconst C (v := (1 : Int32)) z_d16_57 (by decide) 58 rfl ?_
  refine z_iadd C (z := (3 : Int32)) z_d16_58 (by decide) 59 rfl ?_
  refine z_aloadN C z_d16_59 rfl rfl 60 rfl ?_
  refine z_iloadN C z_d16_60 rfl 61 rfl ?_
  refine z_ineg C (z := (-1 : Int32)) z_d16_61 (by decide) 62 rfl ?_
  have o_p1_4 := (o_p1_3.other W4 (by omega : (p1 : Nat) ≠ b2))
  have o_p5_4 := ((((o_p5.other W1 (Ne.symm ne_p0_p5)).ext E2).other W3 (Ne.symm ne_p0_p5)).other W4 (by omega : (p5 : Nat) ≠ b2))
  have o_p8_4 := ((((o_p8.other W1 (Ne.symm ne_p0_p8)).ext E2).other W3 (Ne.symm ne_p0_p8)).other W4 (by omega : (p8 : Nat) ≠ b2))
  have old4 := (old3.wr W4 (by omega))
  refine z_callVp C o_p1_4.1 (z_c18_28 l hw S (by omega) old4 p1 p2 p3 p4 p5 p6 p8 o_p1_4 o_p5_4 o_p8_4) (z_w hw 133 rfl) (z_w hw 134 rfl) (z_w hw 136 rfl) (z_w hw 135 rfl) (z_w hw 2 rfl) (z_w hw 137 rfl) (by decide) z_d16_62 rfl (argsL := [(.int (-1 : Int32))]) (rest := [(.int (3 : Int32)), (.ref b2)]) rfl (lenOf z_pd11 rfl) (W := 2) (Nat.le_of_eq rfl) (by decide) (by decide) (by decide) (by decide) (by decide) (by decide) 65 rfl ?_
  refine z_aastore C o_b2_4 rfl (o_b2_4.sto (by decide) (Ins.self (S.2.1.2.ext old4.2).1)) (by decide) (of_decide_eq_true rfl) (vs' := [.null, .null, (.ref a_ONE), (.ref a_ONE), .null, .null, .null, .null]) (by rfl) (by omega) z_d16_65 66 rfl ?_
  intro h5 W5 o_b2_5
  have s5 : h5.size = h4.size := W5.size
  have k5 : Keep h h5 [p0] := k4.wr W5 (Or.inr (by omega))
  refine z_iinc C (w := (2 : Int32)) (Ls' := #[.val (.ref p0), .val (.ref p1), .val (.int (2 : Int32)), .unset, .unset, .unset, .unset, .unset, .unset, .unset, .unset, .unset, .unset, .unset, .unset]) z_d16_66 rfl (by decide) rfl 69 rfl ?_
  refine z_goto C z_d16_69 (by decide) 29 (by decide) ?_
  refine z_iloadN C z_d16_29 rfl 30 rfl ?_
  refine z_aloadN C z_d16_30 rfl rfl 31 rfl ?_
  have o_p0_5 := (o_p0_4.other W5 (by omega : (p0 : Nat) ≠ b2))
  refine z_getO C (z_w hw 127 rfl) Via.refl o_p0_5 0 rfl rfl z_d16_31 34 rfl ?_
  refine z_icmpN C z_d16_34 (by decide) 37 rfl ?_
  refine z_aloadN C z_d16_37 rfl rfl 38 rfl ?_
  refine z_getO C (z_w hw 131 rfl) Via.refl o_p0_5 1 rfl rfl z_d16_38 41 rfl ?_
  refine z_iconst C (v := (2 : Int32)) z_d16_41 (by decide) 42 rfl ?_
  refine z_iloadN C z_d16_42 rfl 43 rfl ?_
  refine z_imul C (z := (4 : Int32)) z_d16_43 (by decide) 44 rfl ?_
  refine z_aloadN C z_d16_44 rfl rfl 45 rfl ?_
  refine z_iloadN C z_d16_45 rfl 46 rfl ?_
  have o_p1_5 := (o_p1_4.other W5 (by omega : (p1 : Nat) ≠ b2))
  have o_p4_5 := ((o_p4_3.other W4 (by omega : (p4 : Nat) ≠ b2)).other W5 (by omega : (p4 : Nat) ≠ b2))
  have o_p7_5 := ((o_p7_3.other W4 (by omega : (p7 : Nat) ≠ b2)).other W5 (by omega : (p7 : Nat) ≠ b2))
  have old5 := (old4.wr W5 (by omega))
  refine z_callVp C o_p1_5.1 (z_c18_33 l hw S (by omega) old5 p1 p2 p3 p4 p5 p6 p7 o_p1_5 o_p4_5 o_p7_5) (z_w hw 133 rfl) (z_w hw 134 rfl) (z_w hw 136 rfl) (z_w hw 135 rfl) (z_w hw 2 rfl) (z_w hw 137 rfl) (by decide) z_d16_46 rfl (argsL := [(.int (2 : Int32))]) (rest := [(.int (4 : Int32)), (.ref b2)]) rfl (lenOf z_pd11 rfl) (W := 2) (Nat.le_of_eq rfl) (by decide) (by decide) (by decide) (by decide) (by decide) (by decide) 49 rfl ?_
  refine z_aastore C o_b2_5 rfl (o_b2_5.sto (by decide) (Ins.self (S.2.1.2.ext old5.2).1)) (by decide) (of_decide_eq_true rfl) (vs' := [.null, .null, (.ref a_ONE), (.ref a_ONE), (.ref a_ONE), .null, .null, .null]) (by rfl) (by omega) z_d16_49 50 rfl ?_
  intro h6 W6 o_b2_6
  have s6 : h6.size = h5.size := W6.size
  have k6 : Keep h h6 [p0] := k5.wr W6 (Or.inr (by omega))
  refine z_aloadN C z_d16_50 rfl rfl 51 rfl ?_
  have o_p0_6 := (o_p0_5.other W6 (by omega : (p0 : Nat) ≠ b2))
  refine z_getO C (z_w hw 131 rfl) Via.refl o_p0_6 1 rfl rfl z_d16_51 54 rfl ?_
  refine z_iconst C (v := (2 : Int32)) z_d16_54 (by decide) 55 rfl ?_
  refine z_iloadN C z_d16_55 rfl 56 rfl ?_
  refine z_imul C (z := (4 : Int32)) z_d16_56 (by decide) 57 rfl ?_
  refine z_iconst C (v := (1 : Int32)) z_d16_57 (by decide) 58 rfl ?_
  refine z_iadd C (z := (5 : Int32)) z_d16_58 (by decide) 59 rfl ?_
  refine z_aloadN C z_d16_59 rfl rfl 60 rfl ?_
  refine z_iloadN C z_d16_60 rfl 61 rfl ?_
  refine z_ineg C (z := (-2 : Int32)) z_d16_61 (by decide) 62 rfl ?_
  have o_p1_6 := (o_p1_5.other W6 (by omega : (p1 : Nat) ≠ b2))
  have o_p5_6 := ((o_p5_4.other W5 (by omega : (p5 : Nat) ≠ b2)).other W6 (by omega : (p5 : Nat) ≠ b2))
  have o_p8_6 := ((o_p8_4.other W5 (by omega : (p8 : Nat) ≠ b2)).other W6 (by omega : (p8 : Nat) ≠ b2))
  have old6 := (old5.wr W6 (by omega))
  refine z_callVp C o_p1_6.1 (z_c18_34 l hw S (by omega) old6 p1 p2 p3 p4 p5 p6 p8 o_p1_6 o_p5_6 o_p8_6) (z_w hw 133 rfl) (z_w hw 134 rfl) (z_w hw 136 rfl) (z_w hw 135 rfl) (z_w hw 2 rfl) (z_w hw 137 rfl) (by decide) z_d16_62 rfl (argsL := [(.int (-2 : Int32))]) (rest := [(.int (5 : Int32)), (.ref b2)]) rfl (lenOf z_pd11 rfl) (W := 2) (Nat.le_of_eq rfl) (by decide) (by decide) (by decide) (by decide) (by decide) (by decide) 65 rfl ?_
  refine z_aastore C o_b2_6 rfl (o_b2_6.sto (by decide) (Ins.self (S.2.1.2.ext old6.2).1)) (by decide) (of_decide_eq_true rfl) (vs' := [.null, .null, (.ref a_ONE), (.ref a_ONE), (.ref a_ONE), (.ref a_ONE), .null, .null]) (by rfl) (by omega) z_d16_65 66 rfl ?_
  intro h7 W7 o_b2_7
  have s7 : h7.size = h6.size := W7.size
  have k7 : Keep h h7 [p0] := k6.wr W7 (Or.inr (by omega))
  refine z_iinc C (w := (3 : Int32)) (Ls' := #[.val (.ref p0), .val (.ref p1), .val (.int (3 : Int32)), .unset, .unset, .unset, .unset, .unset, .unset, .unset, .unset, .unset, .unset, .unset, .unset]) z_d16_66 rfl (by decide) rfl 69 rfl ?_
  refine z_goto C z_d16_69 (by decide) 29 (by decide) ?_
  refine z_iloadN C z_d16_29 rfl 30 rfl ?_
  refine z_aloadN C z_d16_30 rfl rfl 31 rfl ?_
  have o_p0_7 := (o_p0_6.other W7 (by omega : (p0 : Nat) ≠ b2))
  refine z_getO C (z_w hw 127 rfl) Via.refl o_p0_7 0 rfl rfl z_d16_31 34 rfl ?_
  refine z_icmpN C z_d16_34 (by decide) 37 rfl ?_
  refine z_aloadN C z_d16_37 rfl rfl 38 rfl ?_
  refine z_getO C (z_w hw 131 rfl) Via.refl o_p0_7 1 rfl rfl z_d16_38 41 rfl ?_
  refine z_iconst C (v := (2 : Int32)) z_d16_41 (by decide) 42 rfl ?_
  refine z_iloadN C z_d16_42 rfl 43 rfl ?_
  refine z_imul C (z := (6 : Int32)) z_d16_43 (by decide) 44 rfl ?_
  refine z_aloadN C z_d16_44 rfl rfl 45 rfl ?_
  refine z_iloadN C z_d16_45 rfl 46 rfl ?_
  have o_p1_7 := (o_p1_6.other W7 (by omega : (p1 : Nat) ≠ b2))
  have o_p4_7 := ((o_p4_5.other W6 (by omega : (p4 : Nat) ≠ b2)).other W7 (by omega : (p4 : Nat) ≠ b2))
  have o_p7_7 := ((o_p7_5.other W6 (by omega : (p7 : Nat) ≠ b2)).other W7 (by omega : (p7 : Nat) ≠ b2))
  have old7 := (old6.wr W7 (by omega))
  refine z_callVp C o_p1_7.1 (z_c18_39 l hw S (by omega) old7 p1 p2 p3 p4 p5 p6 p7 o_p1_7 o_p4_7 o_p7_7) (z_w hw 133 rfl) (z_w hw 134 rfl) (z_w hw 136 rfl) (z_w hw 135 rfl) (z_w hw 2 rfl) (z_w hw 137 rfl) (by decide) z_d16_46 rfl (argsL := [(.int (3 : Int32))]) (rest := [(.int (6 : Int32)), (.ref b2)]) rfl (lenOf z_pd11 rfl) (W := 2) (Nat.le_of_eq rfl) (by decide) (by decide) (by decide) (by decide) (by decide) (by decide) 49 rfl ?_
  refine z_aastore C o_b2_7 rfl (o_b2_7.sto (by decide) (Ins.self (S.2.1.2.ext old7.2).1)) (by decide) (of_decide_eq_true rfl) (vs' := [.null, .null, (.ref a_ONE), (.ref a_ONE), (.ref a_ONE), (.ref a_ONE), (.ref a_ONE), .null]) (by rfl) (by omega) z_d16_49 50 rfl ?_
  intro h8 W8 o_b2_8
  have s8 : h8.size = h7.size := W8.size
  have k8 : Keep h h8 [p0] := k7.wr W8 (Or.inr (by omega))
  refine z_aloadN C z_d16_50 rfl rfl 51 rfl ?_
  have o_p0_8 := (o_p0_7.other W8 (by omega : (p0 : Nat) ≠ b2))
  refine z_getO C (z_w hw 131 rfl) Via.refl o_p0_8 1 rfl rfl z_d16_51 54 rfl ?_
  refine z_iconst C (v := (2 : Int32)) z_d16_54 (by decide) 55 rfl ?_
  refine z_iloadN C z_d16_55 rfl 56 rfl ?_
  refine z_imul C (z := (6 : Int32)) z_d16_56 (by decide) 57 rfl ?_
  refine z_iconst C (v := (1 : Int32)) z_d16_57 (by decide) 58 rfl ?_
  refine z_iadd C (z := (7 : Int32)) z_d16_58 (by decide) 59 rfl ?_
  refine z_aloadN C z_d16_59 rfl rfl 60 rfl ?_
  refine z_iloadN C z_d16_60 rfl 61 rfl ?_
  refine z_ineg C (z := (-3 : Int32)) z_d16_61 (by decide) 62 rfl ?_
  have o_p1_8 := (o_p1_7.other W8 (by omega : (p1 : Nat) ≠ b2))
  have o_p5_8 := ((o_p5_6.other W7 (by omega : (p5 : Nat) ≠ b2)).other W8 (by omega : (p5 : Nat) ≠ b2))
  have o_p8_8 := ((o_p8_6.other W7 (by omega : (p8 : Nat) ≠ b2)).other W8 (by omega : (p8 : Nat) ≠ b2))
  have old8 := (old7.wr W8 (by omega))
  refine z_callVp C o_p1_8.1 (z_c18_40 l hw S (by omega) old8 p1 p2 p3 p4 p5 p6 p8 o_p1_8 o_p5_8 o_p8_8) (z_w hw 133 rfl) (z_w hw 134 rfl) (z_w hw 136 rfl) (z_w hw 135 rfl) (z_w hw 2 rfl) (z_w hw 137 rfl) (by decide) z_d16_62 rfl (argsL := [(.int (-3 : Int32))]) (rest := [(.int (7 : Int32)), (.ref b2)]) rfl (lenOf z_pd11 rfl) (W := 2) (Nat.le_of_eq rfl) (by decide) (by decide) (by decide) (by decide) (by decide) (by decide) 65 rfl ?_
  refine z_aastore C o_b2_8 rfl (o_b2_8.sto (by decide) (Ins.self (S.2.1.2.ext old8.2).1)) (by decide) (of_decide_eq_true rfl) (vs' := [.null, .null, (.ref a_ONE), (.ref a_ONE), (.ref a_ONE), (.ref a_ONE), (.ref a_ONE), (.ref a_ONE)]) (by rfl) (by omega) z_d16_65 66 rfl ?_
  intro h9 W9 o_b2_9
  have s9 : h9.size = h8.size := W9.size
  have k9 : Keep h h9 [p0] := k8.wr W9 (Or.inr (by omega))
  refine z_iinc C (w := (4 : Int32)) (Ls' := #[.val (.ref p0), .val (.ref p1), .val (.int (4 : Int32)), .unset, .unset, .unset, .unset, .unset, .unset, .unset, .unset, .unset, .unset, .unset, .unset]) z_d16_66 rfl (by decide) rfl 69 rfl ?_
  refine z_goto C z_d16_69 (by decide) 29 (by decide) ?_
  refine z_iloadN C z_d16_29 rfl 30 rfl ?_
  refine z_aloadN C z_d16_30 rfl rfl 31 rfl ?_
  have o_p0_9 := (o_p0_8.other W9 (by omega : (p0 : Nat) ≠ b2))
  refine z_getO C (z_w hw 127 rfl) Via.refl o_p0_9 0 rfl rfl z_d16_31 34 rfl ?_
  refine z_icmpY C z_d16_34 (by decide) (by decide) 72 (by decide) ?_
  refine z_aloadN C z_d16_72 rfl rfl 73 rfl ?_
  refine z_iconst C (v := (2 : Int32)) z_d16_73 (by decide) 74 rfl ?_
  refine z_aloadN C z_d16_74 rfl rfl 75 rfl ?_
  refine z_getO C (z_w hw 127 rfl) Via.refl o_p0_9 0 rfl rfl z_d16_75 78 rfl ?_
  refine z_imul C (z := (6 : Int32)) z_d16_78 (by decide) 79 rfl ?_
  refine z_iconst C (v := (2 : Int32)) z_d16_79 (by decide) 80 rfl ?_
  refine z_iadd C (z := (8 : Int32)) z_d16_80 (by decide) 81 rfl ?_
  refine z_newarray C (aty := .byte) (z_w hw 161 rfl) (by decide) (cap := 8) (by decide) (by decide) (ad := "[B") (by decide +kernel) (vs := [(.int (0 : Int32)), (.int (0 : Int32)), (.int (0 : Int32)), (.int (0 : Int32)), (.int (0 : Int32)), (.int (0 : Int32)), (.int (0 : Int32)), (.int (0 : Int32))]) (by rfl) z_d16_81 (by decide) (by decide) 83 rfl ?_
  intro h10 b10 g10 E10 o_b10
  have s10 : h9.size ≤ h10.size := E10.1
  have k10 : Keep h h10 [p0] := k9.ext E10
  have o_b10 : z_Ar Z h10 b10 .byte "[B" "" [(.int (0 : Int32)), (.int (0 : Int32)), (.int (0 : Int32)), (.int (0 : Int32)), (.int (0 : Int32)), (.int (0 : Int32)), (.int (0 : Int32)), (.int (0 : Int32))] := o_b10
  have t10 := o_b10.lt
  have o_p0_10 := (o_p0_9.ext E10)
  refine z_putO C (z_w hw 162 rfl) Via.refl o_p0_10 (z_lay3_ok hw) 2 rfl (vs' := [(.int (3 : Int32)), (.ref b2), (.ref b10), .null, .null, .null, .null, .null, .null, .null, .null, (.int (0 : Int32)), (.int (0 : Int32)), (.int (0 : Int32))]) rfl (Or.inr ⟨(z_w hw 163 rfl), rfl, rfl⟩) (z_w hw 116 rfl) (ty := (.array .byte)) (by decide) (by first | rfl | decide) (by first | rfl | decide) g_p0 z_d16_83 86 rfl ?_
  intro h11 W11 o_p0_11
  have s11 : h11.size = h10.size := W11.size
  have k11 : Keep h h11 [p0] := k10.wr W11 (Or.inl (by simp))
  refine z_aloadN C z_d16_86 rfl rfl 87 rfl ?_
  refine z_aloadN C z_d16_87 rfl rfl 88 rfl ?_
  refine z_getO C (z_w hw 127 rfl) Via.refl o_p0_11 0 rfl rfl z_d16_88 91 rfl ?_
  refine z_iconst C (v := (1 : Int32)) z_d16_91 (by decide) 92 rfl ?_
  refine z_iadd C (z := (4 : Int32)) z_d16_92 (by decide) 93 rfl ?_
  refine z_newarray C (aty := .int) (z_w hw 164 rfl) (by decide) (cap := 4) (by decide) (by decide) (ad := "[I") (by decide +kernel) (vs := [(.int (0 : Int32)), (.int (0 : Int32)), (.int (0 : Int32)), (.int (0 : Int32))]) (by rfl) z_d16_93 (by decide) (by decide) 95 rfl ?_
  intro h12 b12 g12 E12 o_b12
  have s12 : h11.size ≤ h12.size := E12.1
  have k12 : Keep h h12 [p0] := k11.ext E12
  have o_b12 : z_Ar Z h12 b12 .int "[I" "" [(.int (0 : Int32)), (.int (0 : Int32)), (.int (0 : Int32)), (.int (0 : Int32))] := o_b12
  have t12 := o_b12.lt
  have o_p0_12 := (o_p0_11.ext E12)
  refine z_putO C (z_w hw 165 rfl) Via.refl o_p0_12 (z_lay3_ok hw) 3 rfl (vs' := [(.int (3 : Int32)), (.ref b2), (.ref b10), (.ref b12), .null, .null, .null, .null, .null, .null, .null, (.int (0 : Int32)), (.int (0 : Int32)), (.int (0 : Int32))]) rfl (Or.inr ⟨(z_w hw 166 rfl), rfl, rfl⟩) (z_w hw 116 rfl) (ty := (.array .int)) (by decide) (by first | rfl | decide) (by first | rfl | decide) g_p0 z_d16_95 98 rfl ?_
  intro h13 W13 o_p0_13
  have s13 : h13.size = h12.size := W13.size
  have k13 : Keep h h13 [p0] := k12.wr W13 (Or.inl (by simp))
  refine z_newO C (z_w hw 167 rfl) (z_w hw 10 rfl) (z_w hw 11 rfl) (z_lay1_ok hw) z_lay1_df z_d16_98 (by decide) (by decide) 101 rfl ?_
  intro h14 b14 g14 E14 o_b14
  have s14 : h13.size ≤ h14.size := E14.1
  have k14 : Keep h h14 [p0] := k13.ext E14
  have t14 := o_b14.lt
  refine z_dup C z_d16_101 rfl 102 rfl ?_
  have old14 := ((((((old8.wr W9 (by omega)).ext E10).wr W11 g_p0).ext E12).wr W13 g_p0).ext E14)
  refine z_callI C rfl (z_c3_2 l hw S (by omega) old14 b14 o_b14 (by omega)) (z_w hw 168 rfl) (z_w hw 13 rfl) (z_w hw 11 rfl) (z_w hw 14 rfl) (by decide) z_d16_102 rfl (argsL := []) (rest := [(.ref b14)]) rfl (lenOf z_pd0 rfl) (W := 1) (Nat.le_of_eq rfl) (by decide) (by decide) (by decide) (by decide) 105 rfl ?_
  rintro h15 ⟨K15, o_b14_15⟩
  have s15 : h14.size ≤ h15.size := K15.1
  have k15 : Keep h h15 [p0] := k14.trans K15 (allS (Or.inr (by omega)) all0)
  refine z_astoreN C (Ls' := #[.val (.ref p0), .val (.ref p1), .val (.ref b14), .unset, .unset, .unset, .unset, .unset, .unset, .unset, .unset, .unset, .unset, .unset, .unset]) z_d16_105 rfl rfl 106 rfl ?_
  refine z_newO C (z_w hw 167 rfl) (z_w hw 10 rfl) (z_w hw 11 rfl) (z_lay1_ok hw) z_lay1_df z_d16_106 (by decide) (by decide) 109 rfl ?_
  intro h16 b16 g16 E16 o_b16
  have s16 : h15.size ≤ h16.size := E16.1
  have k16 : Keep h h16 [p0] := k15.ext E16
  have t16 := o_b16.lt
  refine z_dup C z_d16_109 rfl 110 rfl ?_
  have old16 := ((old14.keep K15 (allS (by omega) all0)).ext E16)
  refine z_callI C rfl (z_c3_2 l hw S (by omega) old16 b16 o_b16 (by omega)) (z_w hw 168 rfl) (z_w hw 13 rfl) (z_w hw 11 rfl) (z_w hw 14 rfl) (by decide) z_d16_110 rfl (argsL := []) (rest := [(.ref b16)]) rfl (lenOf z_pd0 rfl) (W := 1) (Nat.le_of_eq rfl) (by decide) (by decide) (by decide) (by decide) 113 rfl ?_
  rintro h17 ⟨K17, o_b16_17⟩
  have s17 : h16.size ≤ h17.size := K17.1
  have k17 : Keep h h17 [p0] := k16.trans K17 (allS (Or.inr (by omega)) all0)
  refine z_astoreN C (Ls' := #[.val (.ref p0), .val (.ref p1), .val (.ref b14), .val (.ref b16), .unset, .unset, .unset, .unset, .unset, .unset, .unset, .unset, .unset, .unset, .unset]) z_d16_113 rfl rfl 114 rfl ?_
  refine z_newO C (z_w hw 167 rfl) (z_w hw 10 rfl) (z_w hw 11 rfl) (z_lay1_ok hw) z_lay1_df z_d16_114 (by decide) (by decide) 117 rfl ?_
  intro h18 b18 g18 E18 o_b18
  have s18 : h17.size ≤ h18.size := E18.1
  have k18 : Keep h h18 [p0] := k17.ext E18
  have t18 := o_b18.lt
  refine z_dup C z_d16_117 rfl 118 rfl ?_
  have old18 := ((old16.keep K17 (allS (by omega) all0)).ext E18)
  refine z_callI C rfl (z_c3_2 l hw S (by omega) old18 b18 o_b18 (by omega)) (z_w hw 168 rfl) (z_w hw 13 rfl) (z_w hw 11 rfl) (z_w hw 14 rfl) (by decide) z_d16_118 rfl (argsL := []) (rest := [(.ref b18)]) rfl (lenOf z_pd0 rfl) (W := 1) (Nat.le_of_eq rfl) (by decide) (by decide) (by decide) (by decide) 121 rfl ?_
  rintro h19 ⟨K19, o_b18_19⟩
  have s19 : h18.size ≤ h19.size := K19.1
  have k19 : Keep h h19 [p0] := k18.trans K19 (allS (Or.inr (by omega)) all0)
  refine z_astore C (Ls' := #[.val (.ref p0), .val (.ref p1), .val (.ref b14), .val (.ref b16), .val (.ref b18), .unset, .unset, .unset, .unset, .unset, .unset, .unset, .unset, .unset, .unset]) z_d16_121 rfl rfl 123 rfl ?_
  refine z_aloadN C z_d16_123 rfl rfl 124 rfl ?_
  refine z_aloadN C z_d16_124 rfl rfl 125 rfl ?_
  have o_p1_19 := (((((((((((o_p1_8.other W9 (by omega : (p1 : Nat) ≠ b2)).ext E10).other W11 (Ne.symm ne_p0_p1)).ext E12).other W13 (Ne.symm ne_p0_p1)).ext E14).keep K15 (ninS (by omega : (p1 : Nat) ≠ b14) nin0)).ext E16).keep K17 (ninS (by omega : (p1 : Nat) ≠ b16) nin0)).ext E18).keep K19 (ninS (by omega : (p1 : Nat) ≠ b18) nin0))
  have old19 := (old18.keep K19 (allS (by omega) all0))
  refine z_callVp C o_p1_19.1 (z_c23_41 l hw S (by omega) old19 p1 p2 p3 p4 p5 p6 o_p1_19) (z_w hw 169 rfl) (z_w hw 170 rfl) (z_w hw 172 rfl) (z_w hw 171 rfl) (z_w hw 2 rfl) (z_w hw 173 rfl) (by decide) z_d16_125 rfl (argsL := []) (rest := [(.ref p0)]) rfl (lenOf z_pd12 rfl) (W := 1) (Nat.le_of_eq rfl) (by decide) (by decide) (by decide) (by decide) (by decide) (by decide) 128 rfl ?_
  have o_p2_19 := (((((((((((((((((((o_p2.other W1 (Ne.symm ne_p0_p2)).ext E2).other W3 (Ne.symm ne_p0_p2)).other W4 (by omega : (p2 : Nat) ≠ b2)).other W5 (by omega : (p2 : Nat) ≠ b2)).other W6 (by omega : (p2 : Nat) ≠ b2)).other W7 (by omega : (p2 : Nat) ≠ b2)).other W8 (by omega : (p2 : Nat) ≠ b2)).other W9 (by omega : (p2 : Nat) ≠ b2)).ext E10).other W11 (Ne.symm ne_p0_p2)).ext E12).other W13 (Ne.symm ne_p0_p2)).ext E14).keep K15 (ninS (by omega : (p2 : Nat) ≠ b14) nin0)).ext E16).keep K17 (ninS (by omega : (p2 : Nat) ≠ b16) nin0)).ext E18).keep K19 (ninS (by omega : (p2 : Nat) ≠ b18) nin0))
  refine z_callFp C o_p2_19.1 (z_c15_42 l hw S (by omega) old19 p2 o_p2_19) (z_w hw 174 rfl) (z_w hw 108 rfl) (z_w hw 109 rfl) (z_w hw 110 rfl) (z_w hw 111 rfl) (z_w hw 112 rfl) (z_w hw 113 rfl) (z_w hw 79 rfl) (z_w hw 11 rfl) (z_w hw 114 rfl) (by decide) z_d16_128 rfl (argsL := []) (rest := [(.ref p0)]) rfl (lenOf z_pd8 rfl) (W := 1) (Nat.le_of_eq rfl) (by decide) (by decide) (by decide) (by decide) (by decide) (by decide) 133 rfl ?_
  refine z_newarray C (aty := .boolean) (z_w hw 175 rfl) (by decide) (cap := 0) (by decide) (by decide) (ad := "[Z") (by decide +kernel) (vs := []) (by rfl) z_d16_133 (by decide) (by decide) 135 rfl ?_
  intro h20 b20 g20 E20 o_b20
  have s20 : h19.size ≤ h20.size := E20.1
  have k20 : Keep h h20 [p0] := k19.ext E20
  have o_b20 : z_Ar Z h20 b20 .boolean "[Z" "" [] := o_b20
  have t20 := o_b20.lt
  have o_p0_20 := (((((((o_p0_13.ext E14).keep K15 (ninS (by omega : (p0 : Nat) ≠ b14) nin0)).ext E16).keep K17 (ninS (by omega : (p0 : Nat) ≠ b16) nin0)).ext E18).keep K19 (ninS (by omega : (p0 : Nat) ≠ b18) nin0)).ext E20)
  refine z_putO C (z_w hw 176 rfl) Via.refl o_p0_20 (z_lay3_ok hw) 4 rfl (vs' := [(.int (3 : Int32)), (.ref b2), (.ref b10), (.ref b12), (.ref b20), .null, .null, .null, .null, .null, .null, (.int (0 : Int32)), (.int (0 : Int32)), (.int (0 : Int32))]) rfl (Or.inr ⟨(z_w hw 177 rfl), rfl, rfl⟩) (z_w hw 116 rfl) (ty := (.array .boolean)) (by decide) (by first | rfl | decide) (by first | rfl | decide) g_p0 z_d16_135 138 rfl ?_
  intro h21 W21 o_p0_21
  have s21 : h21.size = h20.size := W21.size
  have k21 : Keep h h21 [p0] := k20.wr W21 (Or.inl (by simp))
  refine z_iconst C (v := (2 : Int32)) z_d16_138 (by decide) 139 rfl ?_
  refine z_aloadN C z_d16_139 rfl rfl 140 rfl ?_
  refine z_getO C (z_w hw 127 rfl) Via.refl o_p0_21 0 rfl rfl z_d16_140 143 rfl ?_
  refine z_imul C (z := (6 : Int32)) z_d16_143 (by decide) 144 rfl ?_
  refine z_iconst C (v := (2 : Int32)) z_d16_144 (by decide) 145 rfl ?_
  refine z_iadd C (z := (8 : Int32)) z_d16_145 (by decide) 146 rfl ?_
  refine z_newarray C (aty := .int) (z_w hw 164 rfl) (by decide) (cap := 8) (by decide) (by decide) (ad := "[I") (by decide +kernel) (vs := [(.int (0 : Int32)), (.int (0 : Int32)), (.int (0 : Int32)), (.int (0 : Int32)), (.int (0 : Int32)), (.int (0 : Int32)), (.int (0 : Int32)), (.int (0 : Int32))]) (by rfl) z_d16_146 (by decide) (by decide) 148 rfl ?_
  intro h22 b22 g22 E22 o_b22
  have s22 : h21.size ≤ h22.size := E22.1
  have k22 : Keep h h22 [p0] := k21.ext E22
  have o_b22 : z_Ar Z h22 b22 .int "[I" "" [(.int (0 : Int32)), (.int (0 : Int32)), (.int (0 : Int32)), (.int (0 : Int32)), (.int (0 : Int32)), (.int (0 : Int32)), (.int (0 : Int32)), (.int (0 : Int32))] := o_b22
  have t22 := o_b22.lt
  refine z_astore C (Ls' := #[.val (.ref p0), .val (.ref p1), .val (.ref b14), .val (.ref b16), .val (.ref b18), .val (.ref b22), .unset, .unset, .unset, .unset, .unset, .unset, .unset, .unset, .unset]) z_d16_148 rfl rfl 150 rfl ?_
  refine z_aloadN C z_d16_150 rfl rfl 151 rfl ?_
  have o_p0_22 := (o_p0_21.ext E22)
  refine z_getO C (z_w hw 127 rfl) Via.refl o_p0_22 0 rfl rfl z_d16_151 154 rfl ?_
  refine z_iconst C (v := (1 : Int32)) z_d16_154 (by decide) 155 rfl ?_
  refine z_iadd C (z := (4 : Int32)) z_d16_155 (by decide) 156 rfl ?_
  refine z_newarray C (aty := .int) (z_w hw 164 rfl) (by decide) (cap := 4) (by decide) (by decide) (ad := "[I") (by decide +kernel) (vs := [(.int (0 : Int32)), (.int (0 : Int32)), (.int (0 : Int32)), (.int (0 : Int32))]) (by rfl) z_d16_156 (by decide) (by decide) 158 rfl ?_
  intro h23 b23 g23 E23 o_b23
  have s23 : h22.size ≤ h23.size := E23.1
  have k23 : Keep h h23 [p0] := k22.ext E23
  have o_b23 : z_Ar Z h23 b23 .int "[I" "" [(.int (0 : Int32)), (.int (0 : Int32)), (.int (0 : Int32)), (.int (0 : Int32))] := o_b23
  have t23 := o_b23.lt
  refine z_astore C (Ls' := #[.val (.ref p0), .val (.ref p1), .val (.ref b14), .val (.ref b16), .val (.ref b18), .val (.ref b22), .val (.ref b23), .unset, .unset, .unset, .unset, .unset, .unset, .unset, .unset]) z_d16_158 rfl rfl 160 rfl ?_
  refine z_iconst C (v := (0 : Int32)) z_d16_160 (by decide) 161 rfl ?_
  refine z_istore C (Ls' := #[.val (.ref p0), .val (.ref p1), .val (.ref b14), .val (.ref b16), .val (.ref b18), .val (.ref b22), .val (.ref b23), .val (.int (0 : Int32)), .unset, .unset, .unset, .unset, .unset, .unset, .unset]) z_d16_161 rfl 163 rfl ?_
  refine z_iconst C (v := (0 : Int32)) z_d16_163 (by decide) 164 rfl ?_
  refine z_istore C (Ls' := #[.val (.ref p0), .val (.ref p1), .val (.ref b14), .val (.ref b16), .val (.ref b18), .val (.ref b22), .val (.ref b23), .val (.int (0 : Int32)), .val (.int (0 : Int32)), .unset, .unset, .unset, .unset, .unset, .unset]) z_d16_164 rfl 166 rfl ?_
  refine z_iload C z_d16_166 rfl 168 rfl ?_
  refine z_aloadN C z_d16_168 rfl rfl 169 rfl ?_
  have o_p1_23 := ((((o_p1_19.ext E20).other W21 (Ne.symm ne_p0_p1)).ext E22).ext E23)
  have old23 := ((((old19.ext E20).wr W21 g_p0).ext E22).ext E23)
  refine z_callVp C o_p1_23.1 (z_c23_41 l hw S (by omega) old23 p1 p2 p3 p4 p5 p6 o_p1_23) (z_w hw 169 rfl) (z_w hw 170 rfl) (z_w hw 172 rfl) (z_w hw 171 rfl) (z_w hw 2 rfl) (z_w hw 173 rfl) (by decide) z_d16_169 rfl (argsL := []) (rest := [(.int (0 : Int32))]) rfl (lenOf z_pd12 rfl) (W := 1) (Nat.le_of_eq rfl) (by decide) (by decide) (by decide) (by decide) (by decide) (by decide) 172 rfl ?_
  have o_p2_23 := ((((o_p2_19.ext E20).other W21 (Ne.symm ne_p0_p2)).ext E22).ext E23)
  refine z_callFp C o_p2_23.1 (z_c15_42 l hw S (by omega) old23 p2 o_p2_23) (z_w hw 174 rfl) (z_w hw 108 rfl) (z_w hw 109 rfl) (z_w hw 110 rfl) (z_w hw 111 rfl) (z_w hw 112 rfl) (z_w hw 113 rfl) (z_w hw 79 rfl) (z_w hw 11 rfl) (z_w hw 114 rfl) (by decide) z_d16_172 rfl (argsL := []) (rest := [(.int (0 : Int32))]) rfl (lenOf z_pd8 rfl) (W := 1) (Nat.le_of_eq rfl) (by decide) (by decide) (by decide) (by decide) (by decide) (by decide) 177 rfl ?_
  refine z_icmpY C z_d16_177 (by decide) (by decide) 371 (by decide) ?_
  refine z_aloadN C z_d16_371 rfl rfl 372 rfl ?_
  refine z_iconst C (v := (2 : Int32)) z_d16_372 (by decide) 373 rfl ?_
  refine z_aloadN C z_d16_373 rfl rfl 374 rfl ?_
  have o_p0_23 := (o_p0_22.ext E23)
  refine z_getO C (z_w hw 127 rfl) Via.refl o_p0_23 0 rfl rfl z_d16_374 377 rfl ?_
  refine z_imul C (z := (6 : Int32)) z_d16_377 (by decide) 378 rfl ?_
  refine z_iconst C (v := (2 : Int32)) z_d16_378 (by decide) 379 rfl ?_
  refine z_iadd C (z := (8 : Int32)) z_d16_379 (by decide) 380 rfl ?_
  refine z_anewarrayA C (Cn := "[I") (ty := .int) (by decide +kernel) (z_w hw 178 rfl) (z_w hw 179 rfl) (by decide) (cap := 8) (by decide) (by decide) (ad := "[[I") (by decide +kernel) (vs := [.null, .null, .null, .null, .null, .null, .null, .null]) (by rfl) z_d16_380 (by decide) (by decide) 383 rfl ?_
  intro h24 b24 g24 E24 o_b24
  have s24 : h23.size ≤ h24.size := E24.1
  have k24 : Keep h h24 [p0] := k23.ext E24
  have t24 := o_b24.lt
  have o_p0_24 := (o_p0_23.ext E24)
  refine z_putO C (z_w hw 180 rfl) Via.refl o_p0_24 (z_lay3_ok hw) 5 rfl (vs' := [(.int (3 : Int32)), (.ref b2), (.ref b10), (.ref b12), (.ref b20), (.ref b24), .null, .null, .null, .null, .null, (.int (0 : Int32)), (.int (0 : Int32)), (.int (0 : Int32))]) rfl (Or.inr ⟨(z_w hw 181 rfl), rfl, rfl⟩) (z_w hw 116 rfl) (ty := (.array (.array .int))) (by decide) (by first | rfl | decide) (by first | rfl | decide) g_p0 z_d16_383 386 rfl ?_
  intro h25 W25 o_p0_25
  have s25 : h25.size = h24.size := W25.size
  have k25 : Keep h h25 [p0] := k24.wr W25 (Or.inl (by simp))
  refine z_iconst C (v := (0 : Int32)) z_d16_386 (by decide) 387 rfl ?_
  refine z_istore C (Ls' := #[.val (.ref p0), .val (.ref p1), .val (.ref b14), .val (.ref b16), .val (.ref b18), .val (.ref b22), .val (.ref b23), .val (.int (0 : Int32)), .val (.int (0 : Int32)), .unset, .unset, .unset, .unset, .unset, .unset]) z_d16_387 rfl 389 rfl ?_
  refine z_iload C z_d16_389 rfl 391 rfl ?_
  refine z_aloadN C z_d16_391 rfl rfl 392 rfl ?_
  refine z_getO C (z_w hw 180 rfl) Via.refl o_p0_25 5 rfl rfl z_d16_392 395 rfl ?_
  have o_b24_25 := (o_b24.other W25 (by omega : (b24 : Nat) ≠ p0))
  refine z_arraylength C (z := (8 : Int32)) o_b24_25 (by rfl) z_d16_395 396 rfl ?_
  refine z_icmpN C z_d16_396 (by decide) 399 rfl ?_
  refine z_aloadN C z_d16_399 rfl rfl 400 rfl ?_
  refine z_getO C (z_w hw 180 rfl) Via.refl o_p0_25 5 rfl rfl z_d16_400 403 rfl ?_
  refine z_iload C z_d16_403 rfl 405 rfl ?_
  refine z_aload C z_d16_405 rfl rfl 407 rfl ?_
  refine z_iload C z_d16_407 rfl 409 rfl ?_
  have o_b22_25 := (((o_b22.ext E23).ext E24).other W25 (by omega : (b22 : Nat) ≠ p0))
  refine z_iaload C o_b22_25 (by decide) (v := (.int (0 : Int32))) (by rfl) z_d16_409 410 rfl ?_
  refine z_ifN C z_d16_410 (by decide) 413 rfl ?_
  have old25 := ((old23.ext E24).wr W25 g_p0)
  refine z_getstatic C (z_w hw 182 rfl) (S.2.2.1.ext old25.2) z_d16_413 416 rfl ?_
  refine z_goto C z_d16_416 (by decide) 426 (by decide) ?_
  refine z_aastore C o_b24_25 rfl (o_b24_25.sto (by decide) (Ins.self (S.2.2.2.ext old25.2).exa)) (by decide) (of_decide_eq_true rfl) (vs' := [(.ref a_NONE), .null, .null, .null, .null, .null, .null, .null]) (by rfl) (by omega) z_d16_426 427 rfl ?_
  intro h26 W26 o_b24_26
  have s26 : h26.size = h25.size := W26.size
  have k26 : Keep h h26 [p0] := k25.wr W26 (Or.inr (by omega))
  refine z_iinc C (w := (1 : Int32)) (Ls' := #[.val (.ref p0), .val (.ref p1), .val (.ref b14), .val (.ref b16), .val (.ref b18), .val (.ref b22), .val (.ref b23), .val (.int (0 : Int32)), .val (.int (1 : Int32)), .unset, .unset, .unset, .unset, .unset, .unset]) z_d16_427 rfl (by decide) rfl 430 rfl ?_
  refine z_goto C z_d16_430 (by decide) 389 (by decide) ?_
  refine z_iload C z_d16_389 rfl 391 rfl ?_
  refine z_aloadN C z_d16_391 rfl rfl 392 rfl ?_
  have o_p0_26 := (o_p0_25.other W26 (by omega : (p0 : Nat) ≠ b24))
  refine z_getO C (z_w hw 180 rfl) Via.refl o_p0_26 5 rfl rfl z_d16_392 395 rfl ?_
  refine z_arraylength C (z := (8 : Int32)) o_b24_26 (by rfl) z_d16_395 396 rfl ?_
  refine z_icmpN C z_d16_396 (by decide) 399 rfl ?_
  refine z_aloadN C z_d16_399 rfl rfl 400 rfl ?_
  refine z_getO C (z_w hw 180 rfl) Via.refl o_p0_26 5 rfl rfl z_d16_400 403 rfl ?_
  refine z_iload C z_d16_403 rfl 405 rfl ?_
  refine z_aload C z_d16_405 rfl rfl 407 rfl ?_
  refine z_iload C z_d16_407 rfl 409 rfl ?_
  have o_b22_26 := (o_b22_25.other W26 (by omega : (b22 : Nat) ≠ b24))
  refine z_iaload C o_b22_26 (by decide) (v := (.int (0 : Int32))) (by rfl) z_d16_409 410 rfl ?_
  refine z_ifN C z_d16_410 (by decide) 413 rfl ?_
  have old26 := (old25.wr W26 (by omega))
  refine z_getstatic C (z_w hw 182 rfl) (S.2.2.1.ext old26.2) z_d16_413 416 rfl ?_
  refine z_goto C z_d16_416 (by decide) 426 (by decide) ?_
  refine z_aastore C o_b24_26 rfl (o_b24_26.sto (by decide) (Ins.self (S.2.2.2.ext old26.2).exa)) (by decide) (of_decide_eq_true rfl) (vs' := [(.ref a_NONE), (.ref a_NONE), .null, .null, .null, .null, .null, .null]) (by rfl) (by omega) z_d16_426 427 rfl ?_
  intro h27 W27 o_b24_27
  have s27 : h27.size = h26.size := W27.size
  have k27 : Keep h h27 [p0] := k26.wr W27 (Or.inr (by omega))
  refine z_iinc C (w := (2 : Int32)) (Ls' := #[.val (.ref p0), .val (.ref p1), .val (.ref b14), .val (.ref b16), .val (.ref b18), .val (.ref b22), .val (.ref b23), .val (.int (0 : Int32)), .val (.int (2 : Int32)), .unset, .unset, .unset, .unset, .unset, .unset]) z_d16_427 rfl (by decide) rfl 430 rfl ?_
  refine z_goto C z_d16_430 (by decide) 389 (by decide) ?_
  refine z_iload C z_d16_389 rfl 391 rfl ?_
  refine z_aloadN C z_d16_391 rfl rfl 392 rfl ?_
  have o_p0_27 := (o_p0_26.other W27 (by omega : (p0 : Nat) ≠ b24))
  refine z_getO C (z_w hw 180 rfl) Via.refl o_p0_27 5 rfl rfl z_d16_392 395 rfl ?_
  refine z_arraylength C (z := (8 : Int32)) o_b24_27 (by rfl) z_d16_395 396 rfl ?_
  refine z_icmpN C z_d16_396 (by decide) 399 rfl ?_
  refine z_aloadN C z_d16_399 rfl rfl 400 rfl ?_
  refine z_getO C (z_w hw 180 rfl) Via.refl o_p0_27 5 rfl rfl z_d16_400 403 rfl ?_
  refine z_iload C z_d16_403 rfl 405 rfl ?_
  refine z_aload C z_d16_405 rfl rfl 407 rfl ?_
  refine z_iload C z_d16_407 rfl 409 rfl ?_
  have o_b22_27 := (o_b22_26.other W27 (by omega : (b22 : Nat) ≠ b24))
  refine z_iaload C o_b22_27 (by decide) (v := (.int (0 : Int32))) (by rfl) z_d16_409 410 rfl ?_
  refine z_ifN C z_d16_410 (by decide) 413 rfl ?_
  have old27 := (old26.wr W27 (by omega))
  refine z_getstatic C (z_w hw 182 rfl) (S.2.2.1.ext old27.2) z_d16_413 416 rfl ?_
  refine z_goto C z_d16_416 (by decide) 426 (by decide) ?_
  refine z_aastore C o_b24_27 rfl (o_b24_27.sto (by decide) (Ins.self (S.2.2.2.ext old27.2).exa)) (by decide) (of_decide_eq_true rfl) (vs' := [(.ref a_NONE), (.ref a_NONE), (.ref a_NONE), .null, .null, .null, .null, .null]) (by rfl) (by omega) z_d16_426 427 rfl ?_
  intro h28 W28 o_b24_28
  have s28 : h28.size = h27.size := W28.size
  have k28 : Keep h h28 [p0] := k27.wr W28 (Or.inr (by omega))
  refine z_iinc C (w := (3 : Int32)) (Ls' := #[.val (.ref p0), .val (.ref p1), .val (.ref b14), .val (.ref b16), .val (.ref b18), .val (.ref b22), .val (.ref b23), .val (.int (0 : Int32)), .val (.int (3 : Int32)), .unset, .unset, .unset, .unset, .unset, .unset]) z_d16_427 rfl (by decide) rfl 430 rfl ?_
  refine z_goto C z_d16_430 (by decide) 389 (by decide) ?_
  refine z_iload C z_d16_389 rfl 391 rfl ?_
  refine z_aloadN C z_d16_391 rfl rfl 392 rfl ?_
  have o_p0_28 := (o_p0_27.other W28 (by omega : (p0 : Nat) ≠ b24))
  refine z_getO C (z_w hw 180 rfl) Via.refl o_p0_28 5 rfl rfl z_d16_392 395 rfl ?_
  refine z_arraylength C (z := (8 : Int32)) o_b24_28 (by rfl) z_d16_395 396 rfl ?_
  refine z_icmpN C z_d16_396 (by decide) 399 rfl ?_
  refine z_aloadN C z_d16_399 rfl rfl 400 rfl ?_
  refine z_getO C (z_w hw 180 rfl) Via.refl o_p0_28 5 rfl rfl z_d16_400 403 rfl ?_
  refine z_iload C z_d16_403 rfl 405 rfl ?_
  refine z_aload C z_d16_405 rfl rfl 407 rfl ?_
  refine z_iload C z_d16_407 rfl 409 rfl ?_
  have o_b22_28 := (o_b22_27.other W28 (by omega : (b22 : Nat) ≠ b24))
  refine z_iaload C o_b22_28 (by decide) (v := (.int (0 : Int32))) (by rfl) z_d16_409 410 rfl ?_
  refine z_ifN C z_d16_410 (by decide) 413 rfl ?_
  have old28 := (old27.wr W28 (by omega))
  refine z_getstatic C (z_w hw 182 rfl) (S.2.2.1.ext old28.2) z_d16_413 416 rfl ?_
  refine z_goto C z_d16_416 (by decide) 426 (by decide) ?_
  refine z_aastore C o_b24_28 rfl (o_b24_28.sto (by decide) (Ins.self (S.2.2.2.ext old28.2).exa)) (by decide) (of_decide_eq_true rfl) (vs' := [(.ref a_NONE), (.ref a_NONE), (.ref a_NONE), (.ref a_NONE), .null, .null, .null, .null]) (by rfl) (by omega) z_d16_426 427 rfl ?_
  intro h29 W29 o_b24_29
  have s29 : h29.size = h28.size := W29.size
  have k29 : Keep h h29 [p0] := k28.wr W29 (Or.inr (by omega))
  refine z_iinc C (w := (4 : Int32)) (Ls' := #[.val (.ref p0), .val (.ref p1), .val (.ref b14), .val (.ref b16), .val (.ref b18), .val (.ref b22), .val (.ref b23), .val (.int (0 : Int32)), .val (.int (4 : Int32)), .unset, .unset, .unset, .unset, .unset, .unset]) z_d16_427 rfl (by decide) rfl 430 rfl ?_
  refine z_goto C z_d16_430 (by decide) 389 (by decide) ?_
  refine z_iload C z_d16_389 rfl 391 rfl ?_
  refine z_aloadN C z_d16_391 rfl rfl 392 rfl ?_
  have o_p0_29 := (o_p0_28.other W29 (by omega : (p0 : Nat) ≠ b24))
  refine z_getO C (z_w hw 180 rfl) Via.refl o_p0_29 5 rfl rfl z_d16_392 395 rfl ?_
  refine z_arraylength C (z := (8 : Int32)) o_b24_29 (by rfl) z_d16_395 396 rfl ?_
  refine z_icmpN C z_d16_396 (by decide) 399 rfl ?_
  refine z_aloadN C z_d16_399 rfl rfl 400 rfl ?_
  refine z_getO C (z_w hw 180 rfl) Via.refl o_p0_29 5 rfl rfl z_d16_400 403 rfl ?_
  refine z_iload C z_d16_403 rfl 405 rfl ?_
  refine z_aload C z_d16_405 rfl rfl 407 rfl ?_
  refine z_iload C z_d16_407 rfl 409 rfl ?_
  have o_b22_29 := (o_b22_28.other W29 (by omega : (b22 : Nat) ≠ b24))
  refine z_iaload C o_b22_29 (by decide) (v := (.int (0 : Int32))) (by rfl) z_d16_409 410 rfl ?_
  refine z_ifN C z_d16_410 (by decide) 413 rfl ?_
  have old29 := (old28.wr W29 (by omega))
  refine z_getstatic C (z_w hw 182 rfl) (S.2.2.1.ext old29.2) z_d16_413 416 rfl ?_
  refine z_goto C z_d16_416 (by decide) 426 (by decide) ?_
  refine z_aastore C o_b24_29 rfl (o_b24_29.sto (by decide) (Ins.self (S.2.2.2.ext old29.2).exa)) (by decide) (of_decide_eq_true rfl) (vs' := [(.ref a_NONE), (.ref a_NONE), (.ref a_NONE), (.ref a_NONE), (.ref a_NONE), .null, .null, .null]) (by rfl) (by omega) z_d16_426 427 rfl ?_
  intro h30 W30 o_b24_30
  have s30 : h30.size = h29.size := W30.size
  have k30 : Keep h h30 [p0] := k29.wr W30 (Or.inr (by omega))
  refine z_iinc C (w := (5 : Int32)) (Ls' := #[.val (.ref p0), .val (.ref p1), .val (.ref b14), .val (.ref b16), .val (.ref b18), .val (.ref b22), .val (.ref b23), .val (.int (0 : Int32)), .val (.int (5 : Int32)), .unset, .unset, .unset, .unset, .unset, .unset]) z_d16_427 rfl (by decide) rfl 430 rfl ?_
  refine z_goto C z_d16_430 (by decide) 389 (by decide) ?_
  refine z_iload C z_d16_389 rfl 391 rfl ?_
  refine z_aloadN C z_d16_391 rfl rfl 392 rfl ?_
  have o_p0_30 := (o_p0_29.other W30 (by omega : (p0 : Nat) ≠ b24))
  refine z_getO C (z_w hw 180 rfl) Via.refl o_p0_30 5 rfl rfl z_d16_392 395 rfl ?_
  refine z_arraylength C (z := (8 : Int32)) o_b24_30 (by rfl) z_d16_395 396 rfl ?_
  refine z_icmpN C z_d16_396 (by decide) 399 rfl ?_
  refine z_aloadN C z_d16_399 rfl rfl 400 rfl ?_
  refine z_getO C (z_w hw 180 rfl) Via.refl o_p0_30 5 rfl rfl z_d16_400 403 rfl ?_
  refine z_iload C z_d16_403 rfl 405 rfl ?_
  refine z_aload C z_d16_405 rfl rfl 407 rfl ?_
  refine z_iload C z_d16_407 rfl 409 rfl ?_
  have o_b22_30 := (o_b22_29.other W30 (by omega : (b22 : Nat) ≠ b24))
  refine z_iaload C o_b22_30 (by decide) (v := (.int (0 : Int32))) (by rfl) z_d16_409 410 rfl ?_
  refine z_ifN C z_d16_410 (by decide) 413 rfl ?_
  have old30 := (old29.wr W30 (by omega))
  refine z_getstatic C (z_w hw 182 rfl) (S.2.2.1.ext old30.2) z_d16_413 416 rfl ?_
  refine z_goto C z_d16_416 (by decide) 426 (by decide) ?_
  refine z_aastore C o_b24_30 rfl (o_b24_30.sto (by decide) (Ins.self (S.2.2.2.ext old30.2).exa)) (by decide) (of_decide_eq_true rfl) (vs' := [(.ref a_NONE), (.ref a_NONE), (.ref a_NONE), (.ref a_NONE), (.ref a_NONE), (.ref a_NONE), .null, .null]) (by rfl) (by omega) z_d16_426 427 rfl ?_
  intro h31 W31 o_b24_31
  have s31 : h31.size = h30.size := W31.size
  have k31 : Keep h h31 [p0] := k30.wr W31 (Or.inr (by omega))
  refine z_iinc C (w := (6 : Int32)) (Ls' := #[.val (.ref p0), .val (.ref p1), .val (.ref b14), .val (.ref b16), .val (.ref b18), .val (.ref b22), .val (.ref b23), .val (.int (0 : Int32)), .val (.int (6 : Int32)), .unset, .unset, .unset, .unset, .unset, .unset]) z_d16_427 rfl (by decide) rfl 430 rfl ?_
  refine z_goto C z_d16_430 (by decide) 389 (by decide) ?_
  refine z_iload C z_d16_389 rfl 391 rfl ?_
  refine z_aloadN C z_d16_391 rfl rfl 392 rfl ?_
  have o_p0_31 := (o_p0_30.other W31 (by omega : (p0 : Nat) ≠ b24))
  refine z_getO C (z_w hw 180 rfl) Via.refl o_p0_31 5 rfl rfl z_d16_392 395 rfl ?_
  refine z_arraylength C (z := (8 : Int32)) o_b24_31 (by rfl) z_d16_395 396 rfl ?_
  refine z_icmpN C z_d16_396 (by decide) 399 rfl ?_
  refine z_aloadN C z_d16_399 rfl rfl 400 rfl ?_
  refine z_getO C (z_w hw 180 rfl) Via.refl o_p0_31 5 rfl rfl z_d16_400 403 rfl ?_
  refine z_iload C z_d16_403 rfl 405 rfl ?_
  refine z_aload C z_d16_405 rfl rfl 407 rfl ?_
  refine z_iload C z_d16_407 rfl 409 rfl ?_
  have o_b22_31 := (o_b22_30.other W31 (by omega : (b22 : Nat) ≠ b24))
  refine z_iaload C o_b22_31 (by decide) (v := (.int (0 : Int32))) (by rfl) z_d16_409 410 rfl ?_
  refine z_ifN C z_d16_410 (by decide) 413 rfl ?_
  have old31 := (old30.wr W31 (by omega))
  refine z_getstatic C (z_w hw 182 rfl) (S.2.2.1.ext old31.2) z_d16_413 416 rfl ?_
  refine z_goto C z_d16_416 (by decide) 426 (by decide) ?_
  refine z_aastore C o_b24_31 rfl (o_b24_31.sto (by decide) (Ins.self (S.2.2.2.ext old31.2).exa)) (by decide) (of_decide_eq_true rfl) (vs' := [(.ref a_NONE), (.ref a_NONE), (.ref a_NONE), (.ref a_NONE), (.ref a_NONE), (.ref a_NONE), (.ref a_NONE), .null]) (by rfl) (by omega) z_d16_426 427 rfl ?_
  intro h32 W32 o_b24_32
  have s32 : h32.size = h31.size := W32.size
  have k32 : Keep h h32 [p0] := k31.wr W32 (Or.inr (by omega))
  refine z_iinc C (w := (7 : Int32)) (Ls' := #[.val (.ref p0), .val (.ref p1), .val (.ref b14), .val (.ref b16), .val (.ref b18), .val (.ref b22), .val (.ref b23), .val (.int (0 : Int32)), .val (.int (7 : Int32)), .unset, .unset, .unset, .unset, .unset, .unset]) z_d16_427 rfl (by decide) rfl 430 rfl ?_
  refine z_goto C z_d16_430 (by decide) 389 (by decide) ?_
  refine z_iload C z_d16_389 rfl 391 rfl ?_
  refine z_aloadN C z_d16_391 rfl rfl 392 rfl ?_
  have o_p0_32 := (o_p0_31.other W32 (by omega : (p0 : Nat) ≠ b24))
  refine z_getO C (z_w hw 180 rfl) Via.refl o_p0_32 5 rfl rfl z_d16_392 395 rfl ?_
  refine z_arraylength C (z := (8 : Int32)) o_b24_32 (by rfl) z_d16_395 396 rfl ?_
  refine z_icmpN C z_d16_396 (by decide) 399 rfl ?_
  refine z_aloadN C z_d16_399 rfl rfl 400 rfl ?_
  refine z_getO C (z_w hw 180 rfl) Via.refl o_p0_32 5 rfl rfl z_d16_400 403 rfl ?_
  refine z_iload C z_d16_403 rfl 405 rfl ?_
  refine z_aload C z_d16_405 rfl rfl 407 rfl ?_
  refine z_iload C z_d16_407 rfl 409 rfl ?_
  have o_b22_32 := (o_b22_31.other W32 (by omega : (b22 : Nat) ≠ b24))
  refine z_iaload C o_b22_32 (by decide) (v := (.int (0 : Int32))) (by rfl) z_d16_409 410 rfl ?_
  refine z_ifN C z_d16_410 (by decide) 413 rfl ?_
  have old32 := (old31.wr W32 (by omega))
  refine z_getstatic C (z_w hw 182 rfl) (S.2.2.1.ext old32.2) z_d16_413 416 rfl ?_
  refine z_goto C z_d16_416 (by decide) 426 (by decide) ?_
  refine z_aastore C o_b24_32 rfl (o_b24_32.sto (by decide) (Ins.self (S.2.2.2.ext old32.2).exa)) (by decide) (of_decide_eq_true rfl) (vs' := [(.ref a_NONE), (.ref a_NONE), (.ref a_NONE), (.ref a_NONE), (.ref a_NONE), (.ref a_NONE), (.ref a_NONE), (.ref a_NONE)]) (by rfl) (by omega) z_d16_426 427 rfl ?_
  intro h33 W33 o_b24_33
  have s33 : h33.size = h32.size := W33.size
  have k33 : Keep h h33 [p0] := k32.wr W33 (Or.inr (by omega))
  refine z_iinc C (w := (8 : Int32)) (Ls' := #[.val (.ref p0), .val (.ref p1), .val (.ref b14), .val (.ref b16), .val (.ref b18), .val (.ref b22), .val (.ref b23), .val (.int (0 : Int32)), .val (.int (8 : Int32)), .unset, .unset, .unset, .unset, .unset, .unset]) z_d16_427 rfl (by decide) rfl 430 rfl ?_
  refine z_goto C z_d16_430 (by decide) 389 (by decide) ?_
  refine z_iload C z_d16_389 rfl 391 rfl ?_
  refine z_aloadN C z_d16_391 rfl rfl 392 rfl ?_
  have o_p0_33 := (o_p0_32.other W33 (by omega : (p0 : Nat) ≠ b24))
  refine z_getO C (z_w hw 180 rfl) Via.refl o_p0_33 5 rfl rfl z_d16_392 395 rfl ?_
  refine z_arraylength C (z := (8 : Int32)) o_b24_33 (by rfl) z_d16_395 396 rfl ?_
  refine z_icmpY C z_d16_396 (by decide) (by decide) 433 (by decide) ?_
  refine z_aload C z_d16_433 rfl rfl 435 rfl ?_
  refine z_iconst C (v := (0 : Int32)) z_d16_435 (by decide) 436 rfl ?_
  have o_b22_33 := (o_b22_32.other W33 (by omega : (b22 : Nat) ≠ b24))
  have old33 := (old32.wr W33 (by omega))
  refine z_callSV C (z_c24_43 l hw S (by omega) old33 b22 o_b22_33 (by omega)) (z_w hw 185 rfl) (z_w hw 186 rfl) (z_w hw 187 rfl) (z_w hw 188 rfl) (by decide) z_d16_436 rfl (argsL := [(.ref b22), (.int (0 : Int32))]) (rest := []) rfl (lenOf z_pd13 rfl) (W := 0) (Nat.le_of_eq rfl) (by decide) (by decide) (by decide) (by decide) 439 rfl ?_
  rintro h34 ⟨K34, o_b22_34⟩
  have s34 : h33.size ≤ h34.size := K34.1
  have k34 : Keep h h34 [p0] := k33.trans K34 (allS (Or.inr (by omega)) all0)
  refine z_aloadN C z_d16_439 rfl rfl 440 rfl ?_
  have o_b16_34 := (((((((((((((((((o_b16_17.ext E18).keep K19 (ninS (by omega : (b16 : Nat) ≠ b18) nin0)).ext E20).other W21 (by omega : (b16 : Nat) ≠ p0)).ext E22).ext E23).ext E24).other W25 (by omega : (b16 : Nat) ≠ p0)).other W26 (by omega : (b16 : Nat) ≠ b24)).other W27 (by omega : (b16 : Nat) ≠ b24)).other W28 (by omega : (b16 : Nat) ≠ b24)).other W29 (by omega : (b16 : Nat) ≠ b24)).other W30 (by omega : (b16 : Nat) ≠ b24)).other W31 (by omega : (b16 : Nat) ≠ b24)).other W32 (by omega : (b16 : Nat) ≠ b24)).other W33 (by omega : (b16 : Nat) ≠ b24)).keep K34 (ninS (by omega : (b16 : Nat) ≠ b22) nin0))
  have old34 := (old33.keep K34 (allS (by omega) all0))
  refine z_callF C o_b16_34.1 (z_c25_45 l hw S (by omega) old34 b16 o_b16_34) (z_w hw 189 rfl) (z_w hw 190 rfl) (z_w hw 191 rfl) (z_w hw 192 rfl) (z_w hw 193 rfl) (z_w hw 194 rfl) (z_w hw 195 rfl) (z_w hw 79 rfl) (z_w hw 11 rfl) (z_w hw 196 rfl) (by decide) z_d16_440 rfl (argsL := []) (rest := []) rfl (lenOf z_pd15 rfl) (W := 0) (Nat.le_of_eq rfl) (by decide) (by decide) (by decide) (by decide) 445 rfl ?_
  rintro _ h35 ⟨b35_0, rfl, K35, l35_0, l35_1, o_b35_0_35⟩
  have s35 : h34.size ≤ h35.size := K35.1
  have k35 : Keep h h35 [p0] := k34.trans K35 all0
  refine z_astore C (Ls' := #[.val (.ref p0), .val (.ref p1), .val (.ref b14), .val (.ref b16), .val (.ref b18), .val (.ref b22), .val (.ref b23), .val (.int (0 : Int32)), .val (.ref b35_0), .unset, .unset, .unset, .unset, .unset, .unset]) z_d16_445 rfl rfl 447 rfl ?_
  refine z_aload C z_d16_447 rfl rfl 449 rfl ?_
  have o_b16_35 := (o_b16_34.keep K35 nin0)
  have old35 := (old34.keep K35 all0)
  refine z_callFp C o_b35_0_35.1 (z_c27_46 l hw S (by omega) old35 b35_0 b16 o_b35_0_35 o_b16_35) (z_w hw 212 rfl) (z_w hw 213 rfl) (z_w hw 214 rfl) (z_w hw 215 rfl) (z_w hw 216 rfl) (z_w hw 217 rfl) (z_w hw 218 rfl) (z_w hw 219 rfl) (z_w hw 199 rfl) (z_w hw 220 rfl) (by decide) z_d16_449 rfl (argsL := []) (rest := []) rfl (lenOf z_pd16 rfl) (W := 0) (Nat.le_of_eq rfl) (by decide) (by decide) (by decide) (by decide) (by decide) (by decide) 454 rfl ?_
  refine z_ifY C z_d16_454 (by decide) (by decide) 532 (by decide) ?_
  refine z_aloadN C z_d16_532 rfl rfl 533 rfl ?_
  refine z_iload C z_d16_533 rfl 535 rfl ?_
  refine z_newarray C (aty := .int) (z_w hw 164 rfl) (by decide) (cap := 0) (by decide) (by decide) (ad := "[I") (by decide +kernel) (vs := []) (by rfl) z_d16_535 (by decide) (by decide) 537 rfl ?_
  intro h36 b36 g36 E36 o_b36
  have s36 : h35.size ≤ h36.size := E36.1
  have k36 : Keep h h36 [p0] := k35.ext E36
  have o_b36 : z_Ar Z h36 b36 .int "[I" "" [] := o_b36
  have t36 := o_b36.lt
  have o_p0_36 := (((o_p0_33.keep K34 (ninS (by omega : (p0 : Nat) ≠ b22) nin0)).keep K35 nin0).ext E36)
  refine z_putO C (z_w hw 224 rfl) Via.refl o_p0_36 (z_lay3_ok hw) 6 rfl (vs' := [(.int (3 : Int32)), (.ref b2), (.ref b10), (.ref b12), (.ref b20), (.ref b24), (.ref b36), .null, .null, .null, .null, (.int (0 : Int32)), (.int (0 : Int32)), (.int (0 : Int32))]) rfl (Or.inr ⟨(z_w hw 225 rfl), rfl, rfl⟩) (z_w hw 116 rfl) (ty := (.array .int)) (by decide) (by first | rfl | decide) (by first | rfl | decide) g_p0 z_d16_537 540 rfl ?_
  intro h37 W37 o_p0_37
  have s37 : h37.size = h36.size := W37.size
  have k37 : Keep h h37 [p0] := k36.wr W37 (Or.inl (by simp))
  refine z_aloadN C z_d16_540 rfl rfl 541 rfl ?_
  refine z_aload C z_d16_541 rfl rfl 543 rfl ?_
  have o_b18_37 := ((((((((((((((((((o_b18_19.ext E20).other W21 (by omega : (b18 : Nat) ≠ p0)).ext E22).ext E23).ext E24).other W25 (by omega : (b18 : Nat) ≠ p0)).other W26 (by omega : (b18 : Nat) ≠ b24)).other W27 (by omega : (b18 : Nat) ≠ b24)).other W28 (by omega : (b18 : Nat) ≠ b24)).other W29 (by omega : (b18 : Nat) ≠ b24)).other W30 (by omega : (b18 : Nat) ≠ b24)).other W31 (by omega : (b18 : Nat) ≠ b24)).other W32 (by omega : (b18 : Nat) ≠ b24)).other W33 (by omega : (b18 : Nat) ≠ b24)).keep K34 (ninS (by omega : (b18 : Nat) ≠ b22) nin0)).keep K35 nin0).ext E36).other W37 (by omega : (b18 : Nat) ≠ p0))
  have old37 := ((old35.ext E36).wr W37 g_p0)
  refine z_callFp C o_b18_37.1 (z_c15_42 l hw S (by omega) old37 b18 o_b18_37) (z_w hw 174 rfl) (z_w hw 108 rfl) (z_w hw 109 rfl) (z_w hw 110 rfl) (z_w hw 111 rfl) (z_w hw 112 rfl) (z_w hw 113 rfl) (z_w hw 79 rfl) (z_w hw 11 rfl) (z_w hw 114 rfl) (by decide) z_d16_543 rfl (argsL := []) (rest := [(.ref p0)]) rfl (lenOf z_pd8 rfl) (W := 1) (Nat.le_of_eq rfl) (by decide) (by decide) (by decide) (by decide) (by decide) (by decide) 548 rfl ?_
  refine z_iconst C (v := (1 : Int32)) z_d16_548 (by decide) 549 rfl ?_
  refine z_iadd C (z := (1 : Int32)) z_d16_549 (by decide) 550 rfl ?_
  refine z_newarray C (aty := .int) (z_w hw 164 rfl) (by decide) (cap := 1) (by decide) (by decide) (ad := "[I") (by decide +kernel) (vs := [(.int (0 : Int32))]) (by rfl) z_d16_550 (by decide) (by decide) 552 rfl ?_
  intro h38 b38 g38 E38 o_b38
  have s38 : h37.size ≤ h38.size := E38.1
  have k38 : Keep h h38 [p0] := k37.ext E38
  have o_b38 : z_Ar Z h38 b38 .int "[I" "" [(.int (0 : Int32))] := o_b38
  have t38 := o_b38.lt
  have o_p0_38 := (o_p0_37.ext E38)
  refine z_putO C (z_w hw 226 rfl) Via.refl o_p0_38 (z_lay3_ok hw) 7 rfl (vs' := [(.int (3 : Int32)), (.ref b2), (.ref b10), (.ref b12), (.ref b20), (.ref b24), (.ref b36), (.ref b38), .null, .null, .null, (.int (0 : Int32)), (.int (0 : Int32)), (.int (0 : Int32))]) rfl (Or.inr ⟨(z_w hw 227 rfl), rfl, rfl⟩) (z_w hw 116 rfl) (ty := (.array .int)) (by decide) (by first | rfl | decide) (by first | rfl | decide) g_p0 z_d16_552 555 rfl ?_
  intro h39 W39 o_p0_39
  have s39 : h39.size = h38.size := W39.size
  have k39 : Keep h h39 [p0] := k38.wr W39 (Or.inl (by simp))
  refine z_aloadN C z_d16_555 rfl rfl 556 rfl ?_
  refine z_aloadN C z_d16_556 rfl rfl 557 rfl ?_
  refine z_getO C (z_w hw 127 rfl) Via.refl o_p0_39 0 rfl rfl z_d16_557 560 rfl ?_
  refine z_iconst C (v := (1 : Int32)) z_d16_560 (by decide) 561 rfl ?_
  refine z_iadd C (z := (4 : Int32)) z_d16_561 (by decide) 562 rfl ?_
  refine z_anewarrayA C (Cn := "[I") (ty := .int) (by decide +kernel) (z_w hw 178 rfl) (z_w hw 179 rfl) (by decide) (cap := 4) (by decide) (by decide) (ad := "[[I") (by decide +kernel) (vs := [.null, .null, .null, .null]) (by rfl) z_d16_562 (by decide) (by decide) 565 rfl ?_
  intro h40 b40 g40 E40 o_b40
  have s40 : h39.size ≤ h40.size := E40.1
  have k40 : Keep h h40 [p0] := k39.ext E40
  have t40 := o_b40.lt
  have o_p0_40 := (o_p0_39.ext E40)
  refine z_putO C (z_w hw 228 rfl) Via.refl o_p0_40 (z_lay3_ok hw) 8 rfl (vs' := [(.int (3 : Int32)), (.ref b2), (.ref b10), (.ref b12), (.ref b20), (.ref b24), (.ref b36), (.ref b38), (.ref b40), .null, .null, (.int (0 : Int32)), (.int (0 : Int32)), (.int (0 : Int32))]) rfl (Or.inr ⟨(z_w hw 229 rfl), rfl, rfl⟩) (z_w hw 116 rfl) (ty := (.array (.array .int))) (by decide) (by first | rfl | decide) (by first | rfl | decide) g_p0 z_d16_565 568 rfl ?_
  intro h41 W41 o_p0_41
  have s41 : h41.size = h40.size := W41.size
  have k41 : Keep h h41 [p0] := k40.wr W41 (Or.inl (by simp))
  refine z_iconst C (v := (0 : Int32)) z_d16_568 (by decide) 569 rfl ?_
  refine z_istore C (Ls' := #[.val (.ref p0), .val (.ref p1), .val (.ref b14), .val (.ref b16), .val (.ref b18), .val (.ref b22), .val (.ref b23), .val (.int (0 : Int32)), .val (.int (0 : Int32)), .unset, .unset, .unset, .unset, .unset, .unset]) z_d16_569 rfl 571 rfl ?_
  refine z_iload C z_d16_571 rfl 573 rfl ?_
  refine z_aloadN C z_d16_573 rfl rfl 574 rfl ?_
  refine z_getO C (z_w hw 127 rfl) Via.refl o_p0_41 0 rfl rfl z_d16_574 577 rfl ?_
  refine z_icmpN C z_d16_577 (by decide) 580 rfl ?_
  refine z_aloadN C z_d16_580 rfl rfl 581 rfl ?_
  refine z_getO C (z_w hw 228 rfl) Via.refl o_p0_41 8 rfl rfl z_d16_581 584 rfl ?_
  refine z_iload C z_d16_584 rfl 586 rfl ?_
  refine z_aload C z_d16_586 rfl rfl 588 rfl ?_
  refine z_iload C z_d16_588 rfl 590 rfl ?_
  have o_b23_41 := ((((((((((((((((((o_b23.ext E24).other W25 (by omega : (b23 : Nat) ≠ p0)).other W26 (by omega : (b23 : Nat) ≠ b24)).other W27 (by omega : (b23 : Nat) ≠ b24)).other W28 (by omega : (b23 : Nat) ≠ b24)).other W29 (by omega : (b23 : Nat) ≠ b24)).other W30 (by omega : (b23 : Nat) ≠ b24)).other W31 (by omega : (b23 : Nat) ≠ b24)).other W32 (by omega : (b23 : Nat) ≠ b24)).other W33 (by omega : (b23 : Nat) ≠ b24)).keep K34 (ninS (by omega : (b23 : Nat) ≠ b22) nin0)).keep K35 nin0).ext E36).other W37 (by omega : (b23 : Nat) ≠ p0)).ext E38).other W39 (by omega : (b23 : Nat) ≠ p0)).ext E40).other W41 (by omega : (b23 : Nat) ≠ p0))
  refine z_iaload C o_b23_41 (by decide) (v := (.int (0 : Int32))) (by rfl) z_d16_590 591 rfl ?_
  refine z_ifN C z_d16_591 (by decide) 594 rfl ?_
  have old41 := ((((old37.ext E38).wr W39 g_p0).ext E40).wr W41 g_p0)
  refine z_getstatic C (z_w hw 182 rfl) (S.2.2.1.ext old41.2) z_d16_594 597 rfl ?_
  refine z_goto C z_d16_597 (by decide) 607 (by decide) ?_
  have o_b40_41 := (o_b40.other W41 (by omega : (b40 : Nat) ≠ p0))
  refine z_aastore C o_b40_41 rfl (o_b40_41.sto (by decide) (Ins.self (S.2.2.2.ext old41.2).exa)) (by decide) (of_decide_eq_true rfl) (vs' := [(.ref a_NONE), .null, .null, .null]) (by rfl) (by omega) z_d16_607 608 rfl ?_
  intro h42 W42 o_b40_42
  have s42 : h42.size = h41.size := W42.size
  have k42 : Keep h h42 [p0] := k41.wr W42 (Or.inr (by omega))
  refine z_iinc C (w := (1 : Int32)) (Ls' := #[.val (.ref p0), .val (.ref p1), .val (.ref b14), .val (.ref b16), .val (.ref b18), .val (.ref b22), .val (.ref b23), .val (.int (0 : Int32)), .val (.int (1 : Int32)), .unset, .unset, .unset, .unset, .unset, .unset]) z_d16_608 rfl (by decide) rfl 611 rfl ?_
  refine z_goto C z_d16_611 (by decide) 571 (by decide) ?_
  refine z_iload C z_d16_571 rfl 573 rfl ?_
  refine z_aloadN C z_d16_573 rfl rfl 574 rfl ?_
  have o_p0_42 := (o_p0_41.other W42 (by omega : (p0 : Nat) ≠ b40))
  refine z_getO C (z_w hw 127 rfl) Via.refl o_p0_42 0 rfl rfl z_d16_574 577 rfl ?_
  refine z_icmpN C z_d16_577 (by decide) 580 rfl ?_
  refine z_aloadN C z_d16_580 rfl rfl 581 rfl ?_
  refine z_getO C (z_w hw 228 rfl) Via.refl o_p0_42 8 rfl rfl z_d16_581 584 rfl ?_
  refine z_iload C z_d16_584 rfl 586 rfl ?_
  refine z_aload C z_d16_586 rfl rfl 588 rfl ?_
  refine z_iload C z_d16_588 rfl 590 rfl ?_
  have o_b23_42 := (o_b23_41.other W42 (by omega : (b23 : Nat) ≠ b40))
  refine z_iaload C o_b23_42 (by decide) (v := (.int (0 : Int32))) (by rfl) z_d16_590 591 rfl ?_
  refine z_ifN C z_d16_591 (by decide) 594 rfl ?_
  have old42 := (old41.wr W42 (by omega))
  refine z_getstatic C (z_w hw 182 rfl) (S.2.2.1.ext old42.2) z_d16_594 597 rfl ?_
  refine z_goto C z_d16_597 (by decide) 607 (by decide) ?_
  refine z_aastore C o_b40_42 rfl (o_b40_42.sto (by decide) (Ins.self (S.2.2.2.ext old42.2).exa)) (by decide) (of_decide_eq_true rfl) (vs' := [(.ref a_NONE), (.ref a_NONE), .null, .null]) (by rfl) (by omega) z_d16_607 608 rfl ?_
  intro h43 W43 o_b40_43
  have s43 : h43.size = h42.size := W43.size
  have k43 : Keep h h43 [p0] := k42.wr W43 (Or.inr (by omega))
  refine z_iinc C (w := (2 : Int32)) (Ls' := #[.val (.ref p0), .val (.ref p1), .val (.ref b14), .val (.ref b16), .val (.ref b18), .val (.ref b22), .val (.ref b23), .val (.int (0 : Int32)), .val (.int (2 : Int32)), .unset, .unset, .unset, .unset, .unset, .unset]) z_d16_608 rfl (by decide) rfl 611 rfl ?_
  refine z_goto C z_d16_611 (by decide) 571 (by decide) ?_
  refine z_iload C z_d16_571 rfl 573 rfl ?_
  refine z_aloadN C z_d16_573 rfl rfl 574 rfl ?_
  have o_p0_43 := (o_p0_42.other W43 (by omega : (p0 : Nat) ≠ b40))
  refine z_getO C (z_w hw 127 rfl) Via.refl o_p0_43 0 rfl rfl z_d16_574 577 rfl ?_
  refine z_icmpN C z_d16_577 (by decide) 580 rfl ?_
  refine z_aloadN C z_d16_580 rfl rfl 581 rfl ?_
  refine z_getO C (z_w hw 228 rfl) Via.refl o_p0_43 8 rfl rfl z_d16_581 584 rfl ?_
  refine z_iload C z_d16_584 rfl 586 rfl ?_
  refine z_aload C z_d16_586 rfl rfl 588 rfl ?_
  refine z_iload C z_d16_588 rfl 590 rfl ?_
  have o_b23_43 := (o_b23_42.other W43 (by omega : (b23 : Nat) ≠ b40))
  refine z_iaload C o_b23_43 (by decide) (v := (.int (0 : Int32))) (by rfl) z_d16_590 591 rfl ?_
  refine z_ifN C z_d16_591 (by decide) 594 rfl ?_
  have old43 := (old42.wr W43 (by omega))
  refine z_getstatic C (z_w hw 182 rfl) (S.2.2.1.ext old43.2) z_d16_594 597 rfl ?_
  refine z_goto C z_d16_597 (by decide) 607 (by decide) ?_
  refine z_aastore C o_b40_43 rfl (o_b40_43.sto (by decide) (Ins.self (S.2.2.2.ext old43.2).exa)) (by decide) (of_decide_eq_true rfl) (vs' := [(.ref a_NONE), (.ref a_NONE), (.ref a_NONE), .null]) (by rfl) (by omega) z_d16_607 608 rfl ?_
  intro h44 W44 o_b40_44
  have s44 : h44.size = h43.size := W44.size
  have k44 : Keep h h44 [p0] := k43.wr W44 (Or.inr (by omega))
  refine z_iinc C (w := (3 : Int32)) (Ls' := #[.val (.ref p0), .val (.ref p1), .val (.ref b14), .val (.ref b16), .val (.ref b18), .val (.ref b22), .val (.ref b23), .val (.int (0 : Int32)), .val (.int (3 : Int32)), .unset, .unset, .unset, .unset, .unset, .unset]) z_d16_608 rfl (by decide) rfl 611 rfl ?_
  refine z_goto C z_d16_611 (by decide) 571 (by decide) ?_
  refine z_iload C z_d16_571 rfl 573 rfl ?_
  refine z_aloadN C z_d16_573 rfl rfl 574 rfl ?_
  have o_p0_44 := (o_p0_43.other W44 (by omega : (p0 : Nat) ≠ b40))
  refine z_getO C (z_w hw 127 rfl) Via.refl o_p0_44 0 rfl rfl z_d16_574 577 rfl ?_
  refine z_icmpN C z_d16_577 (by decide) 580 rfl ?_
  refine z_aloadN C z_d16_580 rfl rfl 581 rfl ?_
  refine z_getO C (z_w hw 228 rfl) Via.refl o_p0_44 8 rfl rfl z_d16_581 584 rfl ?_
  refine z_iload C z_d16_584 rfl 586 rfl ?_
  refine z_aload C z_d16_586 rfl rfl 588 rfl ?_
  refine z_iload C z_d16_588 rfl 590 rfl ?_
  have o_b23_44 := (o_b23_43.other W44 (by omega : (b23 : Nat) ≠ b40))
  refine z_iaload C o_b23_44 (by decide) (v := (.int (0 : Int32))) (by rfl) z_d16_590 591 rfl ?_
  refine z_ifN C z_d16_591 (by decide) 594 rfl ?_
  have old44 := (old43.wr W44 (by omega))
  refine z_getstatic C (z_w hw 182 rfl) (S.2.2.1.ext old44.2) z_d16_594 597 rfl ?_
  refine z_goto C z_d16_597 (by decide) 607 (by decide) ?_
  refine z_aastore C o_b40_44 rfl (o_b40_44.sto (by decide) (Ins.self (S.2.2.2.ext old44.2).exa)) (by decide) (of_decide_eq_true rfl) (vs' := [(.ref a_NONE), (.ref a_NONE), (.ref a_NONE), (.ref a_NONE)]) (by rfl) (by omega) z_d16_607 608 rfl ?_
  intro h45 W45 o_b40_45
  have s45 : h45.size = h44.size := W45.size
  have k45 : Keep h h45 [p0] := k44.wr W45 (Or.inr (by omega))
  refine z_iinc C (w := (4 : Int32)) (Ls' := #[.val (.ref p0), .val (.ref p1), .val (.ref b14), .val (.ref b16), .val (.ref b18), .val (.ref b22), .val (.ref b23), .val (.int (0 : Int32)), .val (.int (4 : Int32)), .unset, .unset, .unset, .unset, .unset, .unset]) z_d16_608 rfl (by decide) rfl 611 rfl ?_
  refine z_goto C z_d16_611 (by decide) 571 (by decide) ?_
  refine z_iload C z_d16_571 rfl 573 rfl ?_
  refine z_aloadN C z_d16_573 rfl rfl 574 rfl ?_
  have o_p0_45 := (o_p0_44.other W45 (by omega : (p0 : Nat) ≠ b40))
  refine z_getO C (z_w hw 127 rfl) Via.refl o_p0_45 0 rfl rfl z_d16_574 577 rfl ?_
  refine z_icmpY C z_d16_577 (by decide) (by decide) 614 (by decide) ?_
  refine z_aload C z_d16_614 rfl rfl 616 rfl ?_
  refine z_iconst C (v := (0 : Int32)) z_d16_616 (by decide) 617 rfl ?_
  have o_b23_45 := (o_b23_44.other W45 (by omega : (b23 : Nat) ≠ b40))
  have old45 := (old44.wr W45 (by omega))
  refine z_callSV C (z_c24_47 l hw S (by omega) old45 b23 o_b23_45 (by omega)) (z_w hw 185 rfl) (z_w hw 186 rfl) (z_w hw 187 rfl) (z_w hw 188 rfl) (by decide) z_d16_617 rfl (argsL := [(.ref b23), (.int (0 : Int32))]) (rest := []) rfl (lenOf z_pd13 rfl) (W := 0) (Nat.le_of_eq rfl) (by decide) (by decide) (by decide) (by decide) 620 rfl ?_
  rintro h46 ⟨K46, o_b23_46⟩
  have s46 : h45.size ≤ h46.size := K46.1
  have k46 : Keep h h46 [p0] := k45.trans K46 (allS (Or.inr (by omega)) all0)
  refine z_aloadN C z_d16_620 rfl rfl 621 rfl ?_
  refine z_iconst C (v := (2 : Int32)) z_d16_621 (by decide) 622 rfl ?_
  refine z_aloadN C z_d16_622 rfl rfl 623 rfl ?_
  have o_p0_46 := (o_p0_45.keep K46 (ninS (by omega : (p0 : Nat) ≠ b23) nin0))
  refine z_getO C (z_w hw 127 rfl) Via.refl o_p0_46 0 rfl rfl z_d16_623 626 rfl ?_
  refine z_imul C (z := (6 : Int32)) z_d16_626 (by decide) 627 rfl ?_
  refine z_iconst C (v := (2 : Int32)) z_d16_627 (by decide) 628 rfl ?_
  refine z_iadd C (z := (8 : Int32)) z_d16_628 (by decide) 629 rfl ?_
  refine z_anewarrayA C (Cn := "[I") (ty := .int) (by decide +kernel) (z_w hw 178 rfl) (z_w hw 179 rfl) (by decide) (cap := 8) (by decide) (by decide) (ad := "[[I") (by decide +kernel) (vs := [.null, .null, .null, .null, .null, .null, .null, .null]) (by rfl) z_d16_629 (by decide) (by decide) 632 rfl ?_
  intro h47 b47 g47 E47 o_b47
  have s47 : h46.size ≤ h47.size := E47.1
  have k47 : Keep h h47 [p0] := k46.ext E47
  have t47 := o_b47.lt
  have o_p0_47 := (o_p0_46.ext E47)
  refine z_putO C (z_w hw 230 rfl) Via.refl o_p0_47 (z_lay3_ok hw) 9 rfl (vs' := [(.int (3 : Int32)), (.ref b2), (.ref b10), (.ref b12), (.ref b20), (.ref b24), (.ref b36), (.ref b38), (.ref b40), (.ref b47), .null, (.int (0 : Int32)), (.int (0 : Int32)), (.int (0 : Int32))]) rfl (Or.inr ⟨(z_w hw 231 rfl), rfl, rfl⟩) (z_w hw 116 rfl) (ty := (.array (.array .int))) (by decide) (by first | rfl | decide) (by first | rfl | decide) g_p0 z_d16_632 635 rfl ?_
  intro h48 W48 o_p0_48
  have s48 : h48.size = h47.size := W48.size
  have k48 : Keep h h48 [p0] := k47.wr W48 (Or.inl (by simp))
  refine z_aloadN C z_d16_635 rfl rfl 636 rfl ?_
  refine z_getO C (z_w hw 230 rfl) Via.refl o_p0_48 9 rfl rfl z_d16_636 639 rfl ?_
  have old48 := (((old45.keep K46 (allS (by omega) all0)).ext E47).wr W48 g_p0)
  refine z_getstatic C (z_w hw 182 rfl) (S.2.2.1.ext old48.2) z_d16_639 642 rfl ?_
  have o_b47_48 := (o_b47.other W48 (by omega : (b47 : Nat) ≠ p0))
  refine z_callSV C (z_c28_48 l hw S (by omega) old48 b47 o_b47_48 (by omega)) (z_w hw 232 rfl) (z_w hw 233 rfl) (z_w hw 187 rfl) (z_w hw 234 rfl) (by decide) z_d16_642 rfl (argsL := [(.ref b47), (.ref a_NONE)]) (rest := []) rfl (lenOf z_pd17 rfl) (W := 0) (Nat.le_of_eq rfl) (by decide) (by decide) (by decide) (by decide) 645 rfl ?_
  rintro h49 ⟨K49, o_b47_49⟩
  have s49 : h48.size ≤ h49.size := K49.1
  have k49 : Keep h h49 [p0] := k48.trans K49 (allS (Or.inr (by omega)) all0)
  refine z_aloadN C z_d16_645 rfl rfl 646 rfl ?_
  refine z_iconst C (v := (2 : Int32)) z_d16_646 (by decide) 647 rfl ?_
  refine z_aloadN C z_d16_647 rfl rfl 648 rfl ?_
  have o_p0_49 := (o_p0_48.keep K49 (ninS (by omega : (p0 : Nat) ≠ b47) nin0))
  refine z_getO C (z_w hw 127 rfl) Via.refl o_p0_49 0 rfl rfl z_d16_648 651 rfl ?_
  refine z_imul C (z := (6 : Int32)) z_d16_651 (by decide) 652 rfl ?_
  refine z_iconst C (v := (2 : Int32)) z_d16_652 (by decide) 653 rfl ?_
  refine z_iadd C (z := (8 : Int32)) z_d16_653 (by decide) 654 rfl ?_
  refine z_newarray C (aty := .int) (z_w hw 164 rfl) (by decide) (cap := 8) (by decide) (by decide) (ad := "[I") (by decide +kernel) (vs := [(.int (0 : Int32)), (.int (0 : Int32)), (.int (0 : Int32)), (.int (0 : Int32)), (.int (0 : Int32)), (.int (0 : Int32)), (.int (0 : Int32)), (.int (0 : Int32))]) (by rfl) z_d16_654 (by decide) (by decide) 656 rfl ?_
  intro h50 b50 g50 E50 o_b50
  have s50 : h49.size ≤ h50.size := E50.1
  have k50 : Keep h h50 [p0] := k49.ext E50
  have o_b50 : z_Ar Z h50 b50 .int "[I" "" [(.int (0 : Int32)), (.int (0 : Int32)), (.int (0 : Int32)), (.int (0 : Int32)), (.int (0 : Int32)), (.int (0 : Int32)), (.int (0 : Int32)), (.int (0 : Int32))] := o_b50
  have t50 := o_b50.lt
  have o_p0_50 := (o_p0_49.ext E50)
  refine z_putO C (z_w hw 235 rfl) Via.refl o_p0_50 (z_lay3_ok hw) 10 rfl (vs' := [(.int (3 : Int32)), (.ref b2), (.ref b10), (.ref b12), (.ref b20), (.ref b24), (.ref b36), (.ref b38), (.ref b40), (.ref b47), (.ref b50), (.int (0 : Int32)), (.int (0 : Int32)), (.int (0 : Int32))]) rfl (Or.inr ⟨(z_w hw 236 rfl), rfl, rfl⟩) (z_w hw 116 rfl) (ty := (.array .int)) (by decide) (by first | rfl | decide) (by first | rfl | decide) g_p0 z_d16_656 659 rfl ?_
  intro h51 W51 o_p0_51
  have s51 : h51.size = h50.size := W51.size
  have k51 : Keep h h51 [p0] := k50.wr W51 (Or.inl (by simp))
  refine z_iconst C (v := (0 : Int32)) z_d16_659 (by decide) 660 rfl ?_
  refine z_istore C (Ls' := #[.val (.ref p0), .val (.ref p1), .val (.ref b14), .val (.ref b16), .val (.ref b18), .val (.ref b22), .val (.ref b23), .val (.int (0 : Int32)), .val (.int (0 : Int32)), .unset, .unset, .unset, .unset, .unset, .unset]) z_d16_660 rfl 662 rfl ?_
  refine z_iconst C (v := (0 : Int32)) z_d16_662 (by decide) 663 rfl ?_
  refine z_istore C (Ls' := #[.val (.ref p0), .val (.ref p1), .val (.ref b14), .val (.ref b16), .val (.ref b18), .val (.ref b22), .val (.ref b23), .val (.int (0 : Int32)), .val (.int (0 : Int32)), .val (.int (0 : Int32)), .unset, .unset, .unset, .unset, .unset]) z_d16_663 rfl 665 rfl ?_
  refine z_iload C z_d16_665 rfl 667 rfl ?_
  refine z_aload C z_d16_667 rfl rfl 669 rfl ?_
  have o_b18_51 := ((((((((((((((o_b18_37.ext E38).other W39 (by omega : (b18 : Nat) ≠ p0)).ext E40).other W41 (by omega : (b18 : Nat) ≠ p0)).other W42 (by omega : (b18 : Nat) ≠ b40)).other W43 (by omega : (b18 : Nat) ≠ b40)).other W44 (by omega : (b18 : Nat) ≠ b40)).other W45 (by omega : (b18 : Nat) ≠ b40)).keep K46 (ninS (by omega : (b18 : Nat) ≠ b23) nin0)).ext E47).other W48 (by omega : (b18 : Nat) ≠ p0)).keep K49 (ninS (by omega : (b18 : Nat) ≠ b47) nin0)).ext E50).other W51 (by omega : (b18 : Nat) ≠ p0))
  have old51 := (((old48.keep K49 (allS (by omega) all0)).ext E50).wr W51 g_p0)
  refine z_callFp C o_b18_51.1 (z_c15_42 l hw S (by omega) old51 b18 o_b18_51) (z_w hw 174 rfl) (z_w hw 108 rfl) (z_w hw 109 rfl) (z_w hw 110 rfl) (z_w hw 111 rfl) (z_w hw 112 rfl) (z_w hw 113 rfl) (z_w hw 79 rfl) (z_w hw 11 rfl) (z_w hw 114 rfl) (by decide) z_d16_669 rfl (argsL := []) (rest := [(.int (0 : Int32))]) rfl (lenOf z_pd8 rfl) (W := 1) (Nat.le_of_eq rfl) (by decide) (by decide) (by decide) (by decide) (by decide) (by decide) 674 rfl ?_
  refine z_icmpY C z_d16_674 (by decide) (by decide) 805 (by decide) ?_
  refine z_aloadN C z_d16_805 rfl rfl 806 rfl ?_
  refine z_getO C (z_w hw 226 rfl) Via.refl o_p0_51 7 rfl rfl z_d16_806 809 rfl ?_
  refine z_aload C z_d16_809 rfl rfl 811 rfl ?_
  refine z_callFp C o_b18_51.1 (z_c15_42 l hw S (by omega) old51 b18 o_b18_51) (z_w hw 174 rfl) (z_w hw 108 rfl) (z_w hw 109 rfl) (z_w hw 110 rfl) (z_w hw 111 rfl) (z_w hw 112 rfl) (z_w hw 113 rfl) (z_w hw 79 rfl) (z_w hw 11 rfl) (z_w hw 114 rfl) (by decide) z_d16_811 rfl (argsL := []) (rest := [(.ref b38)]) rfl (lenOf z_pd8 rfl) (W := 1) (Nat.le_of_eq rfl) (by decide) (by decide) (by decide) (by decide) (by decide) (by decide) 816 rfl ?_
  refine z_iload C z_d16_816 rfl 818 rfl ?_
  have o_b38_51 := (((((((((((((o_b38.other W39 (by omega : (b38 : Nat) ≠ p0)).ext E40).other W41 (by omega : (b38 : Nat) ≠ p0)).other W42 (by omega : (b38 : Nat) ≠ b40)).other W43 (by omega : (b38 : Nat) ≠ b40)).other W44 (by omega : (b38 : Nat) ≠ b40)).other W45 (by omega : (b38 : Nat) ≠ b40)).keep K46 (ninS (by omega : (b38 : Nat) ≠ b23) nin0)).ext E47).other W48 (by omega : (b38 : Nat) ≠ p0)).keep K49 (ninS (by omega : (b38 : Nat) ≠ b47) nin0)).ext E50).other W51 (by omega : (b38 : Nat) ≠ p0))
  refine z_iastore C (z := (0 : Int32)) o_b38_51 (by decide) (of_decide_eq_true rfl) rfl (vs' := [(.int (0 : Int32))]) (by rfl) (by omega) z_d16_818 819 rfl ?_
  intro h52 W52 o_b38_52
  have s52 : h52.size = h51.size := W52.size
  have k52 : Keep h h52 [p0] := k51.wr W52 (Or.inr (by omega))
  refine z_aloadN C z_d16_819 rfl rfl 820 rfl ?_
  have o_b14_52 := (((((((((((((((((((((((((((((((((((((o_b14_15.ext E16).keep K17 (ninS (by omega : (b14 : Nat) ≠ b16) nin0)).ext E18).keep K19 (ninS (by omega : (b14 : Nat) ≠ b18) nin0)).ext E20).other W21 (by omega : (b14 : Nat) ≠ p0)).ext E22).ext E23).ext E24).other W25 (by omega : (b14 : Nat) ≠ p0)).other W26 (by omega : (b14 : Nat) ≠ b24)).other W27 (by omega : (b14 : Nat) ≠ b24)).other W28 (by omega : (b14 : Nat) ≠ b24)).other W29 (by omega : (b14 : Nat) ≠ b24)).other W30 (by omega : (b14 : Nat) ≠ b24)).other W31 (by omega : (b14 : Nat) ≠ b24)).other W32 (by omega : (b14 : Nat) ≠ b24)).other W33 (by omega : (b14 : Nat) ≠ b24)).keep K34 (ninS (by omega : (b14 : Nat) ≠ b22) nin0)).keep K35 nin0).ext E36).other W37 (by omega : (b14 : Nat) ≠ p0)).ext E38).other W39 (by omega : (b14 : Nat) ≠ p0)).ext E40).other W41 (by omega : (b14 : Nat) ≠ p0)).other W42 (by omega : (b14 : Nat) ≠ b40)).other W43 (by omega : (b14 : Nat) ≠ b40)).other W44 (by omega : (b14 : Nat) ≠ b40)).other W45 (by omega : (b14 : Nat) ≠ b40)).keep K46 (ninS (by omega : (b14 : Nat) ≠ b23) nin0)).ext E47).other W48 (by omega : (b14 : Nat) ≠ p0)).keep K49 (ninS (by omega : (b14 : Nat) ≠ b47) nin0)).ext E50).other W51 (by omega : (b14 : Nat) ≠ p0)).other W52 (by omega : (b14 : Nat) ≠ b38))
  have old52 := (old51.wr W52 (by omega))
  refine z_callF C o_b14_52.1 (z_c25_45 l hw S (by omega) old52 b14 o_b14_52) (z_w hw 189 rfl) (z_w hw 190 rfl) (z_w hw 191 rfl) (z_w hw 192 rfl) (z_w hw 193 rfl) (z_w hw 194 rfl) (z_w hw 195 rfl) (z_w hw 79 rfl) (z_w hw 11 rfl) (z_w hw 196 rfl) (by decide) z_d16_820 rfl (argsL := []) (rest := []) rfl (lenOf z_pd15 rfl) (W := 0) (Nat.le_of_eq rfl) (by decide) (by decide) (by decide) (by decide) 825 rfl ?_
  rintro _ h53 ⟨b53_0, rfl, K53, l53_0, l53_1, o_b53_0_53⟩
  have s53 : h52.size ≤ h53.size := K53.1
  have k53 : Keep h h53 [p0] := k52.trans K53 all0
  refine z_astore C (Ls' := #[.val (.ref p0), .val (.ref p1), .val (.ref b14), .val (.ref b16), .val (.ref b18), .val (.ref b22), .val (.ref b23), .val (.int (0 : Int32)), .val (.int (0 : Int32)), .val (.ref b53_0), .unset, .unset, .unset, .unset, .unset]) z_d16_825 rfl rfl 827 rfl ?_
  refine z_aload C z_d16_827 rfl rfl 829 rfl ?_
  have o_b14_53 := (o_b14_52.keep K53 nin0)
  have old53 := (old52.keep K53 all0)
  refine z_callFp C o_b53_0_53.1 (z_c27_46 l hw S (by omega) old53 b53_0 b14 o_b53_0_53 o_b14_53) (z_w hw 212 rfl) (z_w hw 213 rfl) (z_w hw 214 rfl) (z_w hw 215 rfl) (z_w hw 216 rfl) (z_w hw 217 rfl) (z_w hw 218 rfl) (z_w hw 219 rfl) (z_w hw 199 rfl) (z_w hw 220 rfl) (by decide) z_d16_829 rfl (argsL := []) (rest := []) rfl (lenOf z_pd16 rfl) (W := 0) (Nat.le_of_eq rfl) (by decide) (by decide) (by decide) (by decide) (by decide) (by decide) 834 rfl ?_
  refine z_ifY C z_d16_834 (by decide) (by decide) 892 (by decide) ?_
  refine z_iconst C (v := (2 : Int32)) z_d16_892 (by decide) 893 rfl ?_
  refine z_istore C (Ls' := #[.val (.ref p0), .val (.ref p1), .val (.ref b14), .val (.ref b16), .val (.ref b18), .val (.ref b22), .val (.ref b23), .val (.int (0 : Int32)), .val (.int (0 : Int32)), .val (.int (2 : Int32)), .unset, .unset, .unset, .unset, .unset]) z_d16_893 rfl 895 rfl ?_
  refine z_iload C z_d16_895 rfl 897 rfl ?_
  refine z_aloadN C z_d16_897 rfl rfl 898 rfl ?_
  have o_p0_53 := ((o_p0_51.other W52 (by omega : (p0 : Nat) ≠ b38)).keep K53 nin0)
  refine z_getO C (z_w hw 131 rfl) Via.refl o_p0_53 1 rfl rfl z_d16_898 901 rfl ?_
  have o_b2_53 := ((((((((((((((((((((((((((((((((((((((((((((o_b2_9.ext E10).other W11 (by omega : (b2 : Nat) ≠ p0)).ext E12).other W13 (by omega : (b2 : Nat) ≠ p0)).ext E14).keep K15 (ninS (by omega : (b2 : Nat) ≠ b14) nin0)).ext E16).keep K17 (ninS (by omega : (b2 : Nat) ≠ b16) nin0)).ext E18).keep K19 (ninS (by omega : (b2 : Nat) ≠ b18) nin0)).ext E20).other W21 (by omega : (b2 : Nat) ≠ p0)).ext E22).ext E23).ext E24).other W25 (by omega : (b2 : Nat) ≠ p0)).other W26 (by omega : (b2 : Nat) ≠ b24)).other W27 (by omega : (b2 : Nat) ≠ b24)).other W28 (by omega : (b2 : Nat) ≠ b24)).other W29 (by omega : (b2 : Nat) ≠ b24)).other W30 (by omega : (b2 : Nat) ≠ b24)).other W31 (by omega : (b2 : Nat) ≠ b24)).other W32 (by omega : (b2 : Nat) ≠ b24)).other W33 (by omega : (b2 : Nat) ≠ b24)).keep K34 (ninS (by omega : (b2 : Nat) ≠ b22) nin0)).keep K35 nin0).ext E36).other W37 (by omega : (b2 : Nat) ≠ p0)).ext E38).other W39 (by omega : (b2 : Nat) ≠ p0)).ext E40).other W41 (by omega : (b2 : Nat) ≠ p0)).other W42 (by omega : (b2 : Nat) ≠ b40)).other W43 (by omega : (b2 : Nat) ≠ b40)).other W44 (by omega : (b2 : Nat) ≠ b40)).other W45 (by omega : (b2 : Nat) ≠ b40)).keep K46 (ninS (by omega : (b2 : Nat) ≠ b23) nin0)).ext E47).other W48 (by omega : (b2 : Nat) ≠ p0)).keep K49 (ninS (by omega : (b2 : Nat) ≠ b47) nin0)).ext E50).other W51 (by omega : (b2 : Nat) ≠ p0)).other W52 (by omega : (b2 : Nat) ≠ b38)).keep K53 nin0)
  refine z_arraylength C (z := (8 : Int32)) o_b2_53 (by rfl) z_d16_901 902 rfl ?_
  refine z_icmpN C z_d16_902 (by decide) 905 rfl ?_
  refine z_aloadN C z_d16_905 rfl rfl 906 rfl ?_
  refine z_getO C (z_w hw 131 rfl) Via.refl o_p0_53 1 rfl rfl z_d16_906 909 rfl ?_
  refine z_iload C z_d16_909 rfl 911 rfl ?_
  refine z_aaload C o_b2_53 rfl (by decide) (v := (.ref a_ONE)) (by rfl) z_d16_911 912 rfl ?_
  refine z_callVp C (S.2.1.2.ext old53.2).1 (z_c29_49 l hw S (by omega) old53) (z_w hw 237 rfl) (z_w hw 238 rfl) (z_w hw 240 rfl) (z_w hw 239 rfl) (z_w hw 71 rfl) (z_w hw 241 rfl) (by decide) z_d16_912 rfl (argsL := []) (rest := []) rfl (lenOf z_pd8 rfl) (W := 0) (Nat.le_of_eq rfl) (by decide) (by decide) (by decide) (by decide) (by decide) (by decide) 915 rfl ?_
  refine z_ifY C z_d16_915 (by decide) (by decide) 939 (by decide) ?_
  refine z_aloadN C z_d16_939 rfl rfl 940 rfl ?_
  refine z_getO C (z_w hw 131 rfl) Via.refl o_p0_53 1 rfl rfl z_d16_940 943 rfl ?_
  refine z_iload C z_d16_943 rfl 945 rfl ?_
  refine z_aaload C o_b2_53 rfl (by decide) (v := (.ref a_ONE)) (by rfl) z_d16_945 946 rfl ?_
  refine z_callVp C (S.2.1.2.ext old53.2).1 (z_c29_49 l hw S (by omega) old53) (z_w hw 237 rfl) (z_w hw 238 rfl) (z_w hw 240 rfl) (z_w hw 239 rfl) (z_w hw 71 rfl) (z_w hw 241 rfl) (by decide) z_d16_946 rfl (argsL := []) (rest := []) rfl (lenOf z_pd8 rfl) (W := 0) (Nat.le_of_eq rfl) (by decide) (by decide) (by decide) (by decide) (by decide) (by decide) 949 rfl ?_
  refine z_ifY C z_d16_949 (by decide) (by decide) 967 (by decide) ?_
  refine z_iinc C (w := (3 : Int32)) (Ls' := #[.val (.ref p0), .val (.ref p1), .val (.ref b14), .val (.ref b16), .val (.ref b18), .val (.ref b22), .val (.ref b23), .val (.int (0 : Int32)), .val (.int (0 : Int32)), .val (.int (3 : Int32)), .unset, .unset, .unset, .unset, .unset]) z_d16_967 rfl (by decide) rfl 970 rfl ?_
  refine z_goto C z_d16_970 (by decide) 895 (by decide) ?_
  refine z_iload C z_d16_895 rfl 897 rfl ?_
  refine z_aloadN C z_d16_897 rfl rfl 898 rfl ?_
  refine z_getO C (z_w hw 131 rfl) Via.refl o_p0_53 1 rfl rfl z_d16_898 901 rfl ?_
  refine z_arraylength C (z := (8 : Int32)) o_b2_53 (by rfl) z_d16_901 902 rfl ?_
  refine z_icmpN C z_d16_902 (by decide) 905 rfl ?_
  refine z_aloadN C z_d16_905 rfl rfl 906 rfl ?_
  refine z_getO C (z_w hw 131 rfl) Via.refl o_p0_53 1 rfl rfl z_d16_906 909 rfl ?_
  refine z_iload C z_d16_909 rfl 911 rfl ?_
  refine z_aaload C o_b2_53 rfl (by decide) (v := (.ref a_ONE)) (by rfl) z_d16_911 912 rfl ?_
  refine z_callVp C (S.2.1.2.ext old53.2).1 (z_c29_49 l hw S (by omega) old53) (z_w hw 237 rfl) (z_w hw 238 rfl) (z_w hw 240 rfl) (z_w hw 239 rfl) (z_w hw 71 rfl) (z_w hw 241 rfl) (by decide) z_d16_912 rfl (argsL := []) (rest := []) rfl (lenOf z_pd8 rfl) (W := 0) (Nat.le_of_eq rfl) (by decide) (by decide) (by decide) (by decide) (by decide) (by decide) 915 rfl ?_
  refine z_ifY C z_d16_915 (by decide) (by decide) 939 (by decide) ?_
  refine z_aloadN C z_d16_939 rfl rfl 940 rfl ?_
  refine z_getO C (z_w hw 131 rfl) Via.refl o_p0_53 1 rfl rfl z_d16_940 943 rfl ?_
  refine z_iload C z_d16_943 rfl 945 rfl ?_
  refine z_aaload C o_b2_53 rfl (by decide) (v := (.ref a_ONE)) (by rfl) z_d16_945 946 rfl ?_
  refine z_callVp C (S.2.1.2.ext old53.2).1 (z_c29_49 l hw S (by omega) old53) (z_w hw 237 rfl) (z_w hw 238 rfl) (z_w hw 240 rfl) (z_w hw 239 rfl) (z_w hw 71 rfl) (z_w hw 241 rfl) (by decide) z_d16_946 rfl (argsL := []) (rest := []) rfl (lenOf z_pd8 rfl) (W := 0) (Nat.le_of_eq rfl) (by decide) (by decide) (by decide) (by decide) (by decide) (by decide) 949 rfl ?_
  refine z_ifY C z_d16_949 (by decide) (by decide) 967 (by decide) ?_
  refine z_iinc C (w := (4 : Int32)) (Ls' := #[.val (.ref p0), .val (.ref p1), .val (.ref b14), .val (.ref b16), .val (.ref b18), .val (.ref b22), .val (.ref b23), .val (.int (0 : Int32)), .val (.int (0 : Int32)), .val (.int (4 : Int32)), .unset, .unset, .unset, .unset, .unset]) z_d16_967 rfl (by decide) rfl 970 rfl ?_
  refine z_goto C z_d16_970 (by decide) 895 (by decide) ?_
  refine z_iload C z_d16_895 rfl 897 rfl ?_
  refine z_aloadN C z_d16_897 rfl rfl 898 rfl ?_
  refine z_getO C (z_w hw 131 rfl) Via.refl o_p0_53 1 rfl rfl z_d16_898 901 rfl ?_
  refine z_arraylength C (z := (8 : Int32)) o_b2_53 (by rfl) z_d16_901 902 rfl ?_
  refine z_icmpN C z_d16_902 (by decide) 905 rfl ?_
  refine z_aloadN C z_d16_905 rfl rfl 906 rfl ?_
  refine z_getO C (z_w hw 131 rfl) Via.refl o_p0_53 1 rfl rfl z_d16_906 909 rfl ?_
  refine z_iload C z_d16_909 rfl 911 rfl ?_
  refine z_aaload C o_b2_53 rfl (by decide) (v := (.ref a_ONE)) (by rfl) z_d16_911 912 rfl ?_
  refine z_callVp C (S.2.1.2.ext old53.2).1 (z_c29_49 l hw S (by omega) old53) (z_w hw 237 rfl) (z_w hw 238 rfl) (z_w hw 240 rfl) (z_w hw 239 rfl) (z_w hw 71 rfl) (z_w hw 241 rfl) (by decide) z_d16_912 rfl (argsL := []) (rest := []) rfl (lenOf z_pd8 rfl) (W := 0) (Nat.le_of_eq rfl) (by decide) (by decide) (by decide) (by decide) (by decide) (by decide) 915 rfl ?_
  refine z_ifY C z_d16_915 (by decide) (by decide) 939 (by decide) ?_
  refine z_aloadN C z_d16_939 rfl rfl 940 rfl ?_
  refine z_getO C (z_w hw 131 rfl) Via.refl o_p0_53 1 rfl rfl z_d16_940 943 rfl ?_
  refine z_iload C z_d16_943 rfl 945 rfl ?_
  refine z_aaload C o_b2_53 rfl (by decide) (v := (.ref a_ONE)) (by rfl) z_d16_945 946 rfl ?_
  refine z_callVp C (S.2.1.2.ext old53.2).1 (z_c29_49 l hw S (by omega) old53) (z_w hw 237 rfl) (z_w hw 238 rfl) (z_w hw 240 rfl) (z_w hw 239 rfl) (z_w hw 71 rfl) (z_w hw 241 rfl) (by decide) z_d16_946 rfl (argsL := []) (rest := []) rfl (lenOf z_pd8 rfl) (W := 0) (Nat.le_of_eq rfl) (by decide) (by decide) (by decide) (by decide) (by decide) (by decide) 949 rfl ?_
  refine z_ifY C z_d16_949 (by decide) (by decide) 967 (by decide) ?_
  refine z_iinc C (w := (5 : Int32)) (Ls' := #[.val (.ref p0), .val (.ref p1), .val (.ref b14), .val (.ref b16), .val (.ref b18), .val (.ref b22), .val (.ref b23), .val (.int (0 : Int32)), .val (.int (0 : Int32)), .val (.int (5 : Int32)), .unset, .unset, .unset, .unset, .unset]) z_d16_967 rfl (by decide) rfl 970 rfl ?_
  refine z_goto C z_d16_970 (by decide) 895 (by decide) ?_
  refine z_iload C z_d16_895 rfl 897 rfl ?_
  refine z_aloadN C z_d16_897 rfl rfl 898 rfl ?_
  refine z_getO C (z_w hw 131 rfl) Via.refl o_p0_53 1 rfl rfl z_d16_898 901 rfl ?_
  refine z_arraylength C (z := (8 : Int32)) o_b2_53 (by rfl) z_d16_901 902 rfl ?_
  refine z_icmpN C z_d16_902 (by decide) 905 rfl ?_
  refine z_aloadN C z_d16_905 rfl rfl 906 rfl ?_
  refine z_getO C (z_w hw 131 rfl) Via.refl o_p0_53 1 rfl rfl z_d16_906 909 rfl ?_
  refine z_iload C z_d16_909 rfl 911 rfl ?_
  refine z_aaload C o_b2_53 rfl (by decide) (v := (.ref a_ONE)) (by rfl) z_d16_911 912 rfl ?_
  refine z_callVp C (S.2.1.2.ext old53.2).1 (z_c29_49 l hw S (by omega) old53) (z_w hw 237 rfl) (z_w hw 238 rfl) (z_w hw 240 rfl) (z_w hw 239 rfl) (z_w hw 71 rfl) (z_w hw 241 rfl) (by decide) z_d16_912 rfl (argsL := []) (rest := []) rfl (lenOf z_pd8 rfl) (W := 0) (Nat.le_of_eq rfl) (by decide) (by decide) (by decide) (by decide) (by decide) (by decide) 915 rfl ?_
  refine z_ifY C z_d16_915 (by decide) (by decide) 939 (by decide) ?_
  refine z_aloadN C z_d16_939 rfl rfl 940 rfl ?_
  refine z_getO C (z_w hw 131 rfl) Via.refl o_p0_53 1 rfl rfl z_d16_940 943 rfl ?_
  refine z_iload C z_d16_943 rfl 945 rfl ?_
  refine z_aaload C o_b2_53 rfl (by decide) (v := (.ref a_ONE)) (by rfl) z_d16_945 946 rfl ?_
  refine z_callVp C (S.2.1.2.ext old53.2).1 (z_c29_49 l hw S (by omega) old53) (z_w hw 237 rfl) (z_w hw 238 rfl) (z_w hw 240 rfl) (z_w hw 239 rfl) (z_w hw 71 rfl) (z_w hw 241 rfl) (by decide) z_d16_946 rfl (argsL := []) (rest := []) rfl (lenOf z_pd8 rfl) (W := 0) (Nat.le_of_eq rfl) (by decide) (by decide) (by decide) (by decide) (by decide) (by decide) 949 rfl ?_
  refine z_ifY C z_d16_949 (by decide) (by decide) 967 (by decide) ?_
  refine z_iinc C (w := (6 : Int32)) (Ls' := #[.val (.ref p0), .val (.ref p1), .val (.ref b14), .val (.ref b16), .val (.ref b18), .val (.ref b22), .val (.ref b23), .val (.int (0 : Int32)), .val (.int (0 : Int32)), .val (.int (6 : Int32)), .unset, .unset, .unset, .unset, .unset]) z_d16_967 rfl (by decide) rfl 970 rfl ?_
  refine z_goto C z_d16_970 (by decide) 895 (by decide) ?_
  refine z_iload C z_d16_895 rfl 897 rfl ?_
  refine z_aloadN C z_d16_897 rfl rfl 898 rfl ?_
  refine z_getO C (z_w hw 131 rfl) Via.refl o_p0_53 1 rfl rfl z_d16_898 901 rfl ?_
  refine z_arraylength C (z := (8 : Int32)) o_b2_53 (by rfl) z_d16_901 902 rfl ?_
  refine z_icmpN C z_d16_902 (by decide) 905 rfl ?_
  refine z_aloadN C z_d16_905 rfl rfl 906 rfl ?_
  refine z_getO C (z_w hw 131 rfl) Via.refl o_p0_53 1 rfl rfl z_d16_906 909 rfl ?_
  refine z_iload C z_d16_909 rfl 911 rfl ?_
  refine z_aaload C o_b2_53 rfl (by decide) (v := (.ref a_ONE)) (by rfl) z_d16_911 912 rfl ?_
  refine z_callVp C (S.2.1.2.ext old53.2).1 (z_c29_49 l hw S (by omega) old53) (z_w hw 237 rfl) (z_w hw 238 rfl) (z_w hw 240 rfl) (z_w hw 239 rfl) (z_w hw 71 rfl) (z_w hw 241 rfl) (by decide) z_d16_912 rfl (argsL := []) (rest := []) rfl (lenOf z_pd8 rfl) (W := 0) (Nat.le_of_eq rfl) (by decide) (by decide) (by decide) (by decide) (by decide) (by decide) 915 rfl ?_
  refine z_ifY C z_d16_915 (by decide) (by decide) 939 (by decide) ?_
  refine z_aloadN C z_d16_939 rfl rfl 940 rfl ?_
  refine z_getO C (z_w hw 131 rfl) Via.refl o_p0_53 1 rfl rfl z_d16_940 943 rfl ?_
  refine z_iload C z_d16_943 rfl 945 rfl ?_
  refine z_aaload C o_b2_53 rfl (by decide) (v := (.ref a_ONE)) (by rfl) z_d16_945 946 rfl ?_
  refine z_callVp C (S.2.1.2.ext old53.2).1 (z_c29_49 l hw S (by omega) old53) (z_w hw 237 rfl) (z_w hw 238 rfl) (z_w hw 240 rfl) (z_w hw 239 rfl) (z_w hw 71 rfl) (z_w hw 241 rfl) (by decide) z_d16_946 rfl (argsL := []) (rest := []) rfl (lenOf z_pd8 rfl) (W := 0) (Nat.le_of_eq rfl) (by decide) (by decide) (by decide) (by decide) (by decide) (by decide) 949 rfl ?_
  refine z_ifY C z_d16_949 (by decide) (by decide) 967 (by decide) ?_
  refine z_iinc C (w := (7 : Int32)) (Ls' := #[.val (.ref p0), .val (.ref p1), .val (.ref b14), .val (.ref b16), .val (.ref b18), .val (.ref b22), .val (.ref b23), .val (.int (0 : Int32)), .val (.int (0 : Int32)), .val (.int (7 : Int32)), .unset, .unset, .unset, .unset, .unset]) z_d16_967 rfl (by decide) rfl 970 rfl ?_
  refine z_goto C z_d16_970 (by decide) 895 (by decide) ?_
  refine z_iload C z_d16_895 rfl 897 rfl ?_
  refine z_aloadN C z_d16_897 rfl rfl 898 rfl ?_
  refine z_getO C (z_w hw 131 rfl) Via.refl o_p0_53 1 rfl rfl z_d16_898 901 rfl ?_
  refine z_arraylength C (z := (8 : Int32)) o_b2_53 (by rfl) z_d16_901 902 rfl ?_
  refine z_icmpN C z_d16_902 (by decide) 905 rfl ?_
  refine z_aloadN C z_d16_905 rfl rfl 906 rfl ?_
  refine z_getO C (z_w hw 131 rfl) Via.refl o_p0_53 1 rfl rfl z_d16_906 909 rfl ?_
  refine z_iload C z_d16_909 rfl 911 rfl ?_
  refine z_aaload C o_b2_53 rfl (by decide) (v := (.ref a_ONE)) (by rfl) z_d16_911 912 rfl ?_
  refine z_callVp C (S.2.1.2.ext old53.2).1 (z_c29_49 l hw S (by omega) old53) (z_w hw 237 rfl) (z_w hw 238 rfl) (z_w hw 240 rfl) (z_w hw 239 rfl) (z_w hw 71 rfl) (z_w hw 241 rfl) (by decide) z_d16_912 rfl (argsL := []) (rest := []) rfl (lenOf z_pd8 rfl) (W := 0) (Nat.le_of_eq rfl) (by decide) (by decide) (by decide) (by decide) (by decide) (by decide) 915 rfl ?_
  refine z_ifY C z_d16_915 (by decide) (by decide) 939 (by decide) ?_
  refine z_aloadN C z_d16_939 rfl rfl 940 rfl ?_
  refine z_getO C (z_w hw 131 rfl) Via.refl o_p0_53 1 rfl rfl z_d16_940 943 rfl ?_
  refine z_iload C z_d16_943 rfl 945 rfl ?_
  refine z_aaload C o_b2_53 rfl (by decide) (v := (.ref a_ONE)) (by rfl) z_d16_945 946 rfl ?_
  refine z_callVp C (S.2.1.2.ext old53.2).1 (z_c29_49 l hw S (by omega) old53) (z_w hw 237 rfl) (z_w hw 238 rfl) (z_w hw 240 rfl) (z_w hw 239 rfl) (z_w hw 71 rfl) (z_w hw 241 rfl) (by decide) z_d16_946 rfl (argsL := []) (rest := []) rfl (lenOf z_pd8 rfl) (W := 0) (Nat.le_of_eq rfl) (by decide) (by decide) (by decide) (by decide) (by decide) (by decide) 949 rfl ?_
  refine z_ifY C z_d16_949 (by decide) (by decide) 967 (by decide) ?_
  refine z_iinc C (w := (8 : Int32)) (Ls' := #[.val (.ref p0), .val (.ref p1), .val (.ref b14), .val (.ref b16), .val (.ref b18), .val (.ref b22), .val (.ref b23), .val (.int (0 : Int32)), .val (.int (0 : Int32)), .val (.int (8 : Int32)), .unset, .unset, .unset, .unset, .unset]) z_d16_967 rfl (by decide) rfl 970 rfl ?_
  refine z_goto C z_d16_970 (by decide) 895 (by decide) ?_
  refine z_iload C z_d16_895 rfl 897 rfl ?_
  refine z_aloadN C z_d16_897 rfl rfl 898 rfl ?_
  refine z_getO C (z_w hw 131 rfl) Via.refl o_p0_53 1 rfl rfl z_d16_898 901 rfl ?_
  refine z_arraylength C (z := (8 : Int32)) o_b2_53 (by rfl) z_d16_901 902 rfl ?_
  refine z_icmpY C z_d16_902 (by decide) (by decide) 973 (by decide) ?_
  have o_b10_53 := (((((((((((((((((((((((((((((((((((((((((((o_b10.other W11 (by omega : (b10 : Nat) ≠ p0)).ext E12).other W13 (by omega : (b10 : Nat) ≠ p0)).ext E14).keep K15 (ninS (by omega : (b10 : Nat) ≠ b14) nin0)).ext E16).keep K17 (ninS (by omega : (b10 : Nat) ≠ b16) nin0)).ext E18).keep K19 (ninS (by omega : (b10 : Nat) ≠ b18) nin0)).ext E20).other W21 (by omega : (b10 : Nat) ≠ p0)).ext E22).ext E23).ext E24).other W25 (by omega : (b10 : Nat) ≠ p0)).other W26 (by omega : (b10 : Nat) ≠ b24)).other W27 (by omega : (b10 : Nat) ≠ b24)).other W28 (by omega : (b10 : Nat) ≠ b24)).other W29 (by omega : (b10 : Nat) ≠ b24)).other W30 (by omega : (b10 : Nat) ≠ b24)).other W31 (by omega : (b10 : Nat) ≠ b24)).other W32 (by omega : (b10 : Nat) ≠ b24)).other W33 (by omega : (b10 : Nat) ≠ b24)).keep K34 (ninS (by omega : (b10 : Nat) ≠ b22) nin0)).keep K35 nin0).ext E36).other W37 (by omega : (b10 : Nat) ≠ p0)).ext E38).other W39 (by omega : (b10 : Nat) ≠ p0)).ext E40).other W41 (by omega : (b10 : Nat) ≠ p0)).other W42 (by omega : (b10 : Nat) ≠ b40)).other W43 (by omega : (b10 : Nat) ≠ b40)).other W44 (by omega : (b10 : Nat) ≠ b40)).other W45 (by omega : (b10 : Nat) ≠ b40)).keep K46 (ninS (by omega : (b10 : Nat) ≠ b23) nin0)).ext E47).other W48 (by omega : (b10 : Nat) ≠ p0)).keep K49 (ninS (by omega : (b10 : Nat) ≠ b47) nin0)).ext E50).other W51 (by omega : (b10 : Nat) ≠ p0)).other W52 (by omega : (b10 : Nat) ≠ b38)).keep K53 nin0)
  have o_b12_53 := (((((((((((((((((((((((((((((((((((((((((o_b12.other W13 (by omega : (b12 : Nat) ≠ p0)).ext E14).keep K15 (ninS (by omega : (b12 : Nat) ≠ b14) nin0)).ext E16).keep K17 (ninS (by omega : (b12 : Nat) ≠ b16) nin0)).ext E18).keep K19 (ninS (by omega : (b12 : Nat) ≠ b18) nin0)).ext E20).other W21 (by omega : (b12 : Nat) ≠ p0)).ext E22).ext E23).ext E24).other W25 (by omega : (b12 : Nat) ≠ p0)).other W26 (by omega : (b12 : Nat) ≠ b24)).other W27 (by omega : (b12 : Nat) ≠ b24)).other W28 (by omega : (b12 : Nat) ≠ b24)).other W29 (by omega : (b12 : Nat) ≠ b24)).other W30 (by omega : (b12 : Nat) ≠ b24)).other W31 (by omega : (b12 : Nat) ≠ b24)).other W32 (by omega : (b12 : Nat) ≠ b24)).other W33 (by omega : (b12 : Nat) ≠ b24)).keep K34 (ninS (by omega : (b12 : Nat) ≠ b22) nin0)).keep K35 nin0).ext E36).other W37 (by omega : (b12 : Nat) ≠ p0)).ext E38).other W39 (by omega : (b12 : Nat) ≠ p0)).ext E40).other W41 (by omega : (b12 : Nat) ≠ p0)).other W42 (by omega : (b12 : Nat) ≠ b40)).other W43 (by omega : (b12 : Nat) ≠ b40)).other W44 (by omega : (b12 : Nat) ≠ b40)).other W45 (by omega : (b12 : Nat) ≠ b40)).keep K46 (ninS (by omega : (b12 : Nat) ≠ b23) nin0)).ext E47).other W48 (by omega : (b12 : Nat) ≠ p0)).keep K49 (ninS (by omega : (b12 : Nat) ≠ b47) nin0)).ext E50).other W51 (by omega : (b12 : Nat) ≠ p0)).other W52 (by omega : (b12 : Nat) ≠ b38)).keep K53 nin0)
  have o_b20_53 := (((((((((((((((((((((((((((((((((o_b20.other W21 (by omega : (b20 : Nat) ≠ p0)).ext E22).ext E23).ext E24).other W25 (by omega : (b20 : Nat) ≠ p0)).other W26 (by omega : (b20 : Nat) ≠ b24)).other W27 (by omega : (b20 : Nat) ≠ b24)).other W28 (by omega : (b20 : Nat) ≠ b24)).other W29 (by omega : (b20 : Nat) ≠ b24)).other W30 (by omega : (b20 : Nat) ≠ b24)).other W31 (by omega : (b20 : Nat) ≠ b24)).other W32 (by omega : (b20 : Nat) ≠ b24)).other W33 (by omega : (b20 : Nat) ≠ b24)).keep K34 (ninS (by omega : (b20 : Nat) ≠ b22) nin0)).keep K35 nin0).ext E36).other W37 (by omega : (b20 : Nat) ≠ p0)).ext E38).other W39 (by omega : (b20 : Nat) ≠ p0)).ext E40).other W41 (by omega : (b20 : Nat) ≠ p0)).other W42 (by omega : (b20 : Nat) ≠ b40)).other W43 (by omega : (b20 : Nat) ≠ b40)).other W44 (by omega : (b20 : Nat) ≠ b40)).other W45 (by omega : (b20 : Nat) ≠ b40)).keep K46 (ninS (by omega : (b20 : Nat) ≠ b23) nin0)).ext E47).other W48 (by omega : (b20 : Nat) ≠ p0)).keep K49 (ninS (by omega : (b20 : Nat) ≠ b47) nin0)).ext E50).other W51 (by omega : (b20 : Nat) ≠ p0)).other W52 (by omega : (b20 : Nat) ≠ b38)).keep K53 nin0)
  have o_b24_53 := ((((((((((((((((((((o_b24_33.keep K34 (ninS (by omega : (b24 : Nat) ≠ b22) nin0)).keep K35 nin0).ext E36).other W37 (by omega : (b24 : Nat) ≠ p0)).ext E38).other W39 (by omega : (b24 : Nat) ≠ p0)).ext E40).other W41 (by omega : (b24 : Nat) ≠ p0)).other W42 (by omega : (b24 : Nat) ≠ b40)).other W43 (by omega : (b24 : Nat) ≠ b40)).other W44 (by omega : (b24 : Nat) ≠ b40)).other W45 (by omega : (b24 : Nat) ≠ b40)).keep K46 (ninS (by omega : (b24 : Nat) ≠ b23) nin0)).ext E47).other W48 (by omega : (b24 : Nat) ≠ p0)).keep K49 (ninS (by omega : (b24 : Nat) ≠ b47) nin0)).ext E50).other W51 (by omega : (b24 : Nat) ≠ p0)).other W52 (by omega : (b24 : Nat) ≠ b38)).keep K53 nin0)
  have o_b36_53 := (((((((((((((((((o_b36.other W37 (by omega : (b36 : Nat) ≠ p0)).ext E38).other W39 (by omega : (b36 : Nat) ≠ p0)).ext E40).other W41 (by omega : (b36 : Nat) ≠ p0)).other W42 (by omega : (b36 : Nat) ≠ b40)).other W43 (by omega : (b36 : Nat) ≠ b40)).other W44 (by omega : (b36 : Nat) ≠ b40)).other W45 (by omega : (b36 : Nat) ≠ b40)).keep K46 (ninS (by omega : (b36 : Nat) ≠ b23) nin0)).ext E47).other W48 (by omega : (b36 : Nat) ≠ p0)).keep K49 (ninS (by omega : (b36 : Nat) ≠ b47) nin0)).ext E50).other W51 (by omega : (b36 : Nat) ≠ p0)).other W52 (by omega : (b36 : Nat) ≠ b38)).keep K53 nin0)
  have o_b38_53 := (o_b38_52.keep K53 nin0)
  have o_b40_53 := ((((((((o_b40_45.keep K46 (ninS (by omega : (b40 : Nat) ≠ b23) nin0)).ext E47).other W48 (by omega : (b40 : Nat) ≠ p0)).keep K49 (ninS (by omega : (b40 : Nat) ≠ b47) nin0)).ext E50).other W51 (by omega : (b40 : Nat) ≠ p0)).other W52 (by omega : (b40 : Nat) ≠ b38)).keep K53 nin0)
  have o_b47_53 := ((((o_b47_49.ext E50).other W51 (by omega : (b47 : Nat) ≠ p0)).other W52 (by omega : (b47 : Nat) ≠ b38)).keep K53 nin0)
  have o_b50_53 := (((o_b50.other W51 (by omega : (b50 : Nat) ≠ p0)).other W52 (by omega : (b50 : Nat) ≠ b38)).keep K53 nin0)
  exact z_return C z_d16_973 (by decide) (by decide) ⟨rfl, b2, b10, b12, b20, b24, b36, b38, b40, b47, b50, k53, by omega, by omega, by omega, by omega, by omega, by omega, by omega, by omega, by omega, by omega, by omega, o_p0_53, o_b2_53, o_b10_53, o_b12_53, o_b20_53, o_b24_53, o_b36_53, o_b38_53, o_b40_53, o_b47_53, o_b50_53⟩
set_option maxHeartbeats 2000000 in
theorem z_c30_51 (l : Launch) {Z : State} {a0 : Array Value} (hw : ∀ d ∈ tables_1, d.before a0 Z = true) {n0 : Nat} {h : Heap} {a_DEF a_ONE a_NONE : Nat} (S : z_St Z a_DEF a_ONE a_NONE) (z0 : n0 ≤ h.size) (old : Old Z n0 h) (y0 : Int32) (p0 : Nat) (p1 : Nat) (p2 : Nat) (p3 : Nat) (p4 : Nat) (p5 : Nat) (p6 : Nat) (p7 : Nat) (p8 : Nat) (p9 : Nat) (p10 : Nat) (o_p0 : z_Ob Z h p0 "com/example/variegate/variegate/service/Propagation" z_lay3 [(.int (3 : Int32)), (.ref p1), (.ref p2), (.ref p3), (.ref p4), (.ref p5), (.ref p6), (.ref p7), (.ref p8), (.ref p9), (.ref p10), (.int (0 : Int32)), (.int (0 : Int32)), (.int (0 : Int32))]) (g_p0 : n0 ≤ p0) (rq0 : ¬ y0 < (0 : Int32)) :
    z_Met l Z (⟨"com/example/variegate/variegate/service/Propagation", "backtrack", "(I)V"⟩ : MethodName) prog_97_method_11_code 3 none [] ({ frames := 0, cells := 0, slots := 0, locals := 0 } : Room) n0 #[(.ref p0), (.int y0)] h (z_nov fun h' => Keep h h' [p0] ∧ z_Ob Z h' p0 "com/example/variegate/variegate/service/Propagation" z_lay3 [(.int (3 : Int32)), (.ref p1), (.ref p2), (.ref p3), (.ref p4), (.ref p5), (.ref p6), (.ref p7), (.ref p8), (.ref p9), (.ref p10), (.int (0 : Int32)), (.int y0), (.int (0 : Int32))]) := by
  refine z_met (Ls := #[.val (.ref p0), .val (.int y0), .unset]) (by first | exact plainFor_of_name (by first | (simp [plainName, overriddenIn]; done) | decide +kernel) | decide +kernel) rfl ?_
  intro p e s m below meth c C
  refine z_aloadN C z_d30_0 rfl rfl 1 rfl ?_
  refine z_getO C (z_w hw 250 rfl) Via.refl o_p0 11 rfl rfl z_d30_1 4 rfl ?_
  refine z_iloadN C z_d30_4 rfl 5 rfl ?_
  refine z_icmpY C z_d30_5 (flt rq0).2.2.2 (by decide) 44 (by decide) ?_
  refine z_aloadN C z_d30_44 rfl rfl 45 rfl ?_
  refine z_iloadN C z_d30_45 rfl 46 rfl ?_
  refine z_putO C (z_w hw 252 rfl) Via.refl o_p0 (z_lay3_ok hw) 12 rfl (vs' := [(.int (3 : Int32)), (.ref p1), (.ref p2), (.ref p3), (.ref p4), (.ref p5), (.ref p6), (.ref p7), (.ref p8), (.ref p9), (.ref p10), (.int (0 : Int32)), (.int y0), (.int (0 : Int32))]) rfl (Or.inl (z_w hw 253 rfl)) (z_w hw 116 rfl) (ty := .int) (by decide) (by first | rfl | decide) (by first | rfl | decide) g_p0 z_d30_46 49 rfl ?_
  intro h1 W1 o_p0_1
  have s1 : h1.size = h.size := W1.size
  have k1 : Keep h h1 [p0] := (Keep.refl h [p0]).wr W1 (Or.inl (by simp))
  exact z_return C z_d30_49 (by decide) (by decide) ⟨rfl, k1, o_p0_1⟩
set_option maxHeartbeats 2000000 in
theorem z_c31_52 (l : Launch) {Z : State} {a0 : Array Value} (hw : ∀ d ∈ tables_1, d.before a0 Z = true) {n0 : Nat} {h : Heap} {a_DEF a_ONE a_NONE : Nat} (S : z_St Z a_DEF a_ONE a_NONE) (z0 : n0 ≤ h.size) (old : Old Z n0 h) (y0 : Int32) (rq0 : ¬ y0 < (0 : Int32)) :
    z_Met l Z (⟨"java/lang/Math", "min", "(II)I"⟩ : MethodName) jdk_29_method_69_code 2 (some .int) [] ({ frames := 0, cells := 0, slots := 0, locals := 0 } : Room) n0 #[(.int (0 : Int32)), (.int y0)] h (z_pure (.int (0 : Int32)) h) := by
  refine z_met (Ls := #[.val (.int (0 : Int32)), .val (.int y0)]) (by first | exact plainFor_of_name (by first | (simp [plainName, overriddenIn]; done) | decide +kernel) | decide +kernel) rfl ?_
  intro p e s m below meth c C
  refine z_iloadN C z_d31_0 rfl 1 rfl ?_
  refine z_iloadN C z_d31_1 rfl 2 rfl ?_
  refine z_icmpN C z_d31_2 (flt rq0).2.2.1 5 rfl ?_
  refine z_iloadN C z_d31_5 rfl 6 rfl ?_
  refine z_goto C z_d31_6 (by decide) 10 (by decide) ?_
  exact z_ireturn C (Or.inl rfl) rfl z_d31_10 (by decide) (by decide) ⟨rfl, rfl⟩
set_option maxHeartbeats 2000000 in
theorem z_c32_53 (l : Launch) {Z : State} {a0 : Array Value} (hw : ∀ d ∈ tables_1, d.before a0 Z = true) {n0 : Nat} {h : Heap} {a_DEF a_ONE a_NONE : Nat} (S : z_St Z a_DEF a_ONE a_NONE) (z0 : n0 ≤ h.size) (old : Old Z n0 h) (y0 : Int32) (p0 : Nat) (p1 : Nat) (p2 : Nat) (p3 : Nat) (p4 : Nat) (p5 : Nat) (p6 : Nat) (p7 : Nat) (p8 : Nat) (p9 : Nat) (p10 : Nat) (o_p0 : z_Ob Z h p0 "com/example/variegate/variegate/service/Propagation" z_lay3 [(.int (3 : Int32)), (.ref p1), (.ref p2), (.ref p3), (.ref p4), (.ref p5), (.ref p6), (.ref p7), (.ref p8), (.ref p9), (.ref p10), (.int (0 : Int32)), (.int y0), (.int (0 : Int32))]) :
    z_Met l Z (⟨"com/example/variegate/variegate/service/Propagation", "trailSize", "()I"⟩ : MethodName) prog_97_method_6_code 1 (some .int) [] ({ frames := 0, cells := 0, slots := 0, locals := 0 } : Room) n0 #[(.ref p0)] h (z_pure (.int (0 : Int32)) h) := by
  refine z_met (Ls := #[.val (.ref p0)]) (by first | exact plainFor_of_name (by first | (simp [plainName, overriddenIn]; done) | decide +kernel) | decide +kernel) rfl ?_
  intro p e s m below meth c C
  refine z_aloadN C z_d32_0 rfl rfl 1 rfl ?_
  refine z_getO C (z_w hw 250 rfl) Via.refl o_p0 11 rfl rfl z_d32_1 4 rfl ?_
  exact z_ireturn C (Or.inl rfl) rfl z_d32_4 (by decide) (by decide) ⟨rfl, rfl⟩
set_option maxHeartbeats 2000000 in
theorem z_c33_54 (l : Launch) {Z : State} {a0 : Array Value} (hw : ∀ d ∈ tables_1, d.before a0 Z = true) {n0 : Nat} {h : Heap} {a_DEF a_ONE a_NONE : Nat} (S : z_St Z a_DEF a_ONE a_NONE) (z0 : n0 ≤ h.size) (old : Old Z n0 h) (y0 : Int32) (y1 : Int32) (va0 : List Value) (p0 : Nat) (p1 : Nat) (p2 : Nat) (p3 : Nat) (p4 : Nat) (p5 : Nat) (p6 : Nat) (p7 : Nat) (p8 : Nat) (p9 : Nat) (p10 : Nat) (o_p0 : z_Ob Z h p0 "com/example/variegate/variegate/service/Propagation" z_lay3 [(.int (3 : Int32)), (.ref p1), (.ref p2), (.ref p3), (.ref p4), (.ref p5), (.ref p6), (.ref p7), (.ref p8), (.ref p9), (.ref p10), (.int (0 : Int32)), (.int y1), (.int (0 : Int32))]) (o_p2 : z_Ar Z h p2 .byte "[B" "" va0) (rq0 : ¬ y0 < 0) (rq1 : (va0)[(y0).toNatClampNeg]? = some (.int (0 : Int32))) (rq2 : ¬ (y0 ^^^ (1 : Int32)) < 0) (rq3 : (va0)[((y0 ^^^ (1 : Int32))).toNatClampNeg]? = some (.int (0 : Int32))) :
    z_Met l Z (⟨"com/example/variegate/variegate/service/PropagationBacktrackPinLaw", "check", "(Lcom/example/variegate/variegate/service/Propagation;IZ)Z"⟩ : MethodName) method_2_code 5 (some .boolean) [] ({ frames := 0, cells := 0, slots := 0, locals := 0 } : Room) n0 #[(.ref p0), (.int y0), (.int (0 : Int32))] h (z_pure (.int (1 : Int32)) h) := by
  refine z_met (Ls := #[.val (.ref p0), .val (.int y0), .val (.int (0 : Int32)), .unset, .unset]) (by first | exact plainFor_of_name (by first | (simp [plainName, overriddenIn]; done) | decide +kernel) | decide +kernel) rfl ?_
  intro p e s m below meth c C
  refine z_iloadN C z_d33_0 rfl 1 rfl ?_
  refine z_ifY C z_d33_1 (by decide) (by decide) 8 (by decide) ?_
  refine z_iconst C (v := (0 : Int32)) z_d33_8 (by decide) 9 rfl ?_
  refine z_istoreN C (Ls' := #[.val (.ref p0), .val (.int y0), .val (.int (0 : Int32)), .val (.int (0 : Int32)), .unset]) z_d33_9 rfl 10 rfl ?_
  refine z_iloadN C z_d33_10 rfl 11 rfl ?_
  refine z_ifY C z_d33_11 (by decide) (by decide) 18 (by decide) ?_
  refine z_iconst C (v := (0 : Int32)) z_d33_18 (by decide) 19 rfl ?_
  refine z_istore C (Ls' := #[.val (.ref p0), .val (.int y0), .val (.int (0 : Int32)), .val (.int (0 : Int32)), .val (.int (0 : Int32))]) z_d33_19 rfl 21 rfl ?_
  refine z_aloadN C z_d33_21 rfl rfl 22 rfl ?_
  refine z_getO C (z_w hw 266 rfl) Via.refl o_p0 2 rfl rfl z_d33_22 25 rfl ?_
  refine z_iloadN C z_d33_25 rfl 26 rfl ?_
  refine z_baload C o_p2 rq0 rq1 z_d33_26 27 rfl ?_
  refine z_iloadN C z_d33_27 rfl 28 rfl ?_
  refine z_icmpN C z_d33_28 (by decide) 31 rfl ?_
  refine z_aloadN C z_d33_31 rfl rfl 32 rfl ?_
  refine z_getO C (z_w hw 266 rfl) Via.refl o_p0 2 rfl rfl z_d33_32 35 rfl ?_
  refine z_iloadN C z_d33_35 rfl 36 rfl ?_
  refine z_iconst C (v := (1 : Int32)) z_d33_36 (by decide) 37 rfl ?_
  refine z_ixor C z_d33_37 rfl 38 rfl ?_
  refine z_baload C o_p2 rq2 rq3 z_d33_38 39 rfl ?_
  refine z_iload C z_d33_39 rfl 41 rfl ?_
  refine z_icmpN C z_d33_41 (by decide) 44 rfl ?_
  refine z_iconst C (v := (1 : Int32)) z_d33_44 (by decide) 45 rfl ?_
  refine z_goto C z_d33_45 (by decide) 49 (by decide) ?_
  exact z_ireturn C (by simp) rfl z_d33_49 (by decide) (by decide) ⟨rfl, rfl⟩
set_option maxHeartbeats 8000000 in
theorem z_seg55 (l : Launch) {Z : State} {a0 : Array Value} (hw : ∀ d ∈ tables_1, d.before a0 Z = true) {n0 : Nat} {h : Heap} {a_DEF a_ONE a_NONE : Nat} (S : z_St Z a_DEF a_ONE a_NONE) (z0 : n0 ≤ h.size) (old : Old Z n0 h) (y0 : Int32) (y1 : Int32) (y2 : Int32) (y3 : Int32) (y4 : Int32) (y5 : Int32) (y6 : Int32) (y7 : Int32) (y8 : Int32) (y9 : Int32) (y10 : Int32) (y11 : Int32) (y12 : Int32) (p0 : Nat) (p1 : Nat) (p2 : Nat) (p3 : Nat) (p4 : Nat) (p5 : Nat) (p6 : Nat) (p7 : Nat) (p8 : Nat) (p9 : Nat) (p10 : Nat) (p11 : Nat) (o_p1 : z_Ob Z h p1 "com/example/variegate/variegate/service/Propagation" z_lay3 [(.int (3 : Int32)), (.ref p2), (.ref p3), (.ref p4), (.ref p5), (.ref p6), (.ref p7), (.ref p8), (.ref p9), (.ref p10), (.ref p11), (.int (0 : Int32)), (.int (0 : Int32)), (.int (0 : Int32))]) (o_p3 : z_Ar Z h p3 .byte "[B" "" z_z8) (ne_p1_p3 : p1 ≠ p3) (g_p1 : n0 ≤ p1) (TT : z_R0_0 y10 y11 y12) (hn : (y0 &&& (3 : Int32)) = (0 : Int32)) (hm : ¬ (y2 &&& (7 : Int32)) < (0 : Int32)) {p : Program} {e : Env} {s : State} {m : MethodId} {args : Array Value} {below : List Frame} {meth : Method} {c : Code} (C : z_Cx Z p s m meth c x.cls code maxLocals ret x.name) :
    z_At p l e room_1 s m args below meth c n0 (fun v _ => v = some (.int 1)) h 27 131 (mkF m 139 #[.val (.int y0), .val (.int y1), .val (.int y2), .val (.int y3), .val (.ref p0), .val (.ref p1), .val (.int y4), .val (.int y5), .val (.int y6), .val (.int y7), .val (.int y8), .val (.int y9), .val (.int y10), .val (.int y11), .val (.int y12), .unset, .unset, .unset, .unset, .unset, .unset, .unset] []) := by
  refine z_iloadN C at_139 rfl 140 rfl ?_
  refine z_iconst C (v := (3 : Int32)) at_140 (by decide) 141 rfl ?_
  refine z_iand C (z := (0 : Int32)) at_141 hn 142 rfl ?_
  refine z_istore C (Ls' := #[.val (.int y0), .val (.int y1), .val (.int y2), .val (.int y3), .val (.ref p0), .val (.ref p1), .val (.int y4), .val (.int y5), .val (.int y6), .val (.int y7), .val (.int y8), .val (.int y9), .val (.int y10), .val (.int y11), .val (.int y12), .val (.int (0 : Int32)), .unset, .unset, .unset, .unset, .unset, .unset]) at_142 rfl 144 rfl ?_
  refine z_iload C at_144 rfl 146 rfl ?_
  refine z_ifY C at_146 (by decide) (by decide) 156 (by decide) ?_
  refine z_iload C at_156 rfl 158 rfl ?_
  refine z_iconst C (v := (1 : Int32)) at_158 (by decide) 159 rfl ?_
  refine z_icmpY C at_159 (by decide) (by decide) 169 (by decide) ?_
  refine z_iload C at_169 rfl 171 rfl ?_
  refine z_iconst C (v := (2 : Int32)) at_171 (by decide) 172 rfl ?_
  refine z_icmpY C at_172 (by decide) (by decide) 182 (by decide) ?_
  refine z_iloadN C at_182 rfl 183 rfl ?_
  refine z_bipush C (v := (7 : Int32)) at_183 (by decide) 185 rfl ?_
  refine z_iand C at_185 rfl 186 rfl ?_
  refine z_istore C (Ls' := #[.val (.int y0), .val (.int y1), .val (.int y2), .val (.int y3), .val (.ref p0), .val (.ref p1), .val (.int y4), .val (.int y5), .val (.int y6), .val (.int y7), .val (.int y8), .val (.int y9), .val (.int y10), .val (.int y11), .val (.int y12), .val (.int (0 : Int32)), .val (.int (y2 &&& (7 : Int32))), .unset, .unset, .unset, .unset, .unset]) at_186 rfl 188 rfl ?_
  refine z_aload C at_188 rfl rfl 190 rfl ?_
  refine z_iload C at_190 rfl 192 rfl ?_
  refine z_callVV C o_p1.1 (z_c30_51 l hw S (by omega) old (y2 &&& (7 : Int32)) p1 p2 p3 p4 p5 p6 p7 p8 p9 p10 p11 o_p1 g_p1 hm) (z_w hw 245 rfl) (z_w hw 246 rfl) (z_w hw 248 rfl) (z_w hw 247 rfl) (z_w hw 117 rfl) (z_w hw 249 rfl) (by decide) at_192 rfl (argsL := [(.int (y2 &&& (7 : Int32)))]) (rest := []) rfl (lenOf z_pd2 rfl) (W := 0) (Nat.le_of_eq rfl) (by decide) (by decide) (by decide) (by decide) 195 rfl ?_
  rintro h1 ⟨K1, o_p1_1⟩
  have s1 : h.size ≤ h1.size := K1.1
  refine z_iload C at_195 rfl 197 rfl ?_
  refine z_iload C at_197 rfl 199 rfl ?_
  have old1 := (old.keep K1 (allS g_p1 all0))
  refine z_callSp C (z_c31_52 l hw S (by omega) old1 (y2 &&& (7 : Int32)) hm) (z_w hw 254 rfl) (z_w hw 255 rfl) (z_w hw 102 rfl) (z_w hw 256 rfl) (by decide) at_199 rfl (argsL := [(.int (0 : Int32)), (.int (y2 &&& (7 : Int32)))]) (rest := []) rfl (lenOf z_pd3 rfl) (W := 0) (Nat.le_of_eq rfl) (by decide) (by decide) (by decide) (by decide) (by decide) (by decide) 202 rfl ?_
  refine z_istore C (Ls' := #[.val (.int y0), .val (.int y1), .val (.int y2), .val (.int y3), .val (.ref p0), .val (.ref p1), .val (.int y4), .val (.int y5), .val (.int y6), .val (.int y7), .val (.int y8), .val (.int y9), .val (.int y10), .val (.int y11), .val (.int y12), .val (.int (0 : Int32)), .val (.int (y2 &&& (7 : Int32))), .val (.int (0 : Int32)), .unset, .unset, .unset, .unset]) at_202 rfl 204 rfl ?_
  refine z_iconst C (v := (0 : Int32)) at_204 (by decide) 205 rfl ?_
  refine z_iload C at_205 rfl 207 rfl ?_
  refine z_icmpY C at_207 (by decide) (by decide) 214 (by decide) ?_
  refine z_iconst C (v := (0 : Int32)) at_214 (by decide) 215 rfl ?_
  refine z_istore C (Ls' := #[.val (.int y0), .val (.int y1), .val (.int y2), .val (.int y3), .val (.ref p0), .val (.ref p1), .val (.int y4), .val (.int y5), .val (.int y6), .val (.int y7), .val (.int y8), .val (.int y9), .val (.int y10), .val (.int y11), .val (.int y12), .val (.int (0 : Int32)), .val (.int (y2 &&& (7 : Int32))), .val (.int (0 : Int32)), .val (.int (0 : Int32)), .unset, .unset, .unset]) at_215 rfl 217 rfl ?_
  refine z_iconst C (v := (1 : Int32)) at_217 (by decide) 218 rfl ?_
  refine z_iload C at_218 rfl 220 rfl ?_
  refine z_icmpY C at_220 (by decide) (by decide) 227 (by decide) ?_
  refine z_iconst C (v := (0 : Int32)) at_227 (by decide) 228 rfl ?_
  refine z_istore C (Ls' := #[.val (.int y0), .val (.int y1), .val (.int y2), .val (.int y3), .val (.ref p0), .val (.ref p1), .val (.int y4), .val (.int y5), .val (.int y6), .val (.int y7), .val (.int y8), .val (.int y9), .val (.int y10), .val (.int y11), .val (.int y12), .val (.int (0 : Int32)), .val (.int (y2 &&& (7 : Int32))), .val (.int (0 : Int32)), .val (.int (0 : Int32)), .val (.int (0 : Int32)), .unset, .unset]) at_228 rfl 230 rfl ?_
  refine z_iconst C (v := (2 : Int32)) at_230 (by decide) 231 rfl ?_
  refine z_iload C at_231 rfl 233 rfl ?_
  refine z_icmpY C at_233 (by decide) (by decide) 240 (by decide) ?_
  refine z_iconst C (v := (0 : Int32)) at_240 (by decide) 241 rfl ?_
  refine z_istore C (Ls' := #[.val (.int y0), .val (.int y1), .val (.int y2), .val (.int y3), .val (.ref p0), .val (.ref p1), .val (.int y4), .val (.int y5), .val (.int y6), .val (.int y7), .val (.int y8), .val (.int y9), .val (.int y10), .val (.int y11), .val (.int y12), .val (.int (0 : Int32)), .val (.int (y2 &&& (7 : Int32))), .val (.int (0 : Int32)), .val (.int (0 : Int32)), .val (.int (0 : Int32)), .val (.int (0 : Int32)), .unset]) at_241 rfl 243 rfl ?_
  refine z_aload C at_243 rfl rfl 245 rfl ?_
  refine z_callVp C o_p1_1.1 (z_c32_53 l hw S (by omega) old1 (y2 &&& (7 : Int32)) p1 p2 p3 p4 p5 p6 p7 p8 p9 p10 p11 o_p1_1) (z_w hw 257 rfl) (z_w hw 258 rfl) (z_w hw 260 rfl) (z_w hw 259 rfl) (z_w hw 117 rfl) (z_w hw 261 rfl) (by decide) at_245 rfl (argsL := []) (rest := []) rfl (lenOf z_pd8 rfl) (W := 0) (Nat.le_of_eq rfl) (by decide) (by decide) (by decide) (by decide) (by decide) (by decide) 248 rfl ?_
  refine z_iload C at_248 rfl 250 rfl ?_
  refine z_icmpN C at_250 (by decide) 253 rfl ?_
  refine z_iconst C (v := (1 : Int32)) at_253 (by decide) 254 rfl ?_
  refine z_goto C at_254 (by decide) 258 (by decide) ?_
  refine z_istore C (Ls' := #[.val (.int y0), .val (.int y1), .val (.int y2), .val (.int y3), .val (.ref p0), .val (.ref p1), .val (.int y4), .val (.int y5), .val (.int y6), .val (.int y7), .val (.int y8), .val (.int y9), .val (.int y10), .val (.int y11), .val (.int y12), .val (.int (0 : Int32)), .val (.int (y2 &&& (7 : Int32))), .val (.int (0 : Int32)), .val (.int (0 : Int32)), .val (.int (0 : Int32)), .val (.int (0 : Int32)), .val (.int (1 : Int32))]) at_258 rfl 260 rfl ?_
  refine z_iload C at_260 rfl 262 rfl ?_
  refine z_ifN C at_262 (by decide) 265 rfl ?_
  refine z_aload C at_265 rfl rfl 267 rfl ?_
  refine z_iload C at_267 rfl 269 rfl ?_
  refine z_iload C at_269 rfl 271 rfl ?_
  have o_p3_1 := (o_p3.keep K1 (ninS (Ne.symm ne_p1_p3) nin0))
  refine z_callSp C (z_c33_54 l hw S (by omega) old1 y10 (y2 &&& (7 : Int32)) (z_z8) p1 p2 p3 p4 p5 p6 p7 p8 p9 p10 p11 o_p1_1 o_p3_1 TT.1 TT.2.1 TT.2.2.1 TT.2.2.2.1) (z_w hw 262 rfl) (z_w hw 263 rfl) (z_w hw 264 rfl) (z_w hw 265 rfl) (by decide) at_271 rfl (argsL := [(.ref p1), (.int y10), (.int (0 : Int32))]) (rest := []) rfl (lenOf z_pd19 rfl) (W := 0) (Nat.le_of_eq rfl) (by decide) (by decide) (by decide) (by decide) (by decide) (by decide) 274 rfl ?_
  refine z_ifN C at_274 (by decide) 277 rfl ?_
  refine z_aload C at_277 rfl rfl 279 rfl ?_
  refine z_iload C at_279 rfl 281 rfl ?_
  refine z_iload C at_281 rfl 283 rfl ?_
  refine z_callSp C (z_c33_54 l hw S (by omega) old1 y11 (y2 &&& (7 : Int32)) (z_z8) p1 p2 p3 p4 p5 p6 p7 p8 p9 p10 p11 o_p1_1 o_p3_1 TT.2.2.2.2.1 TT.2.2.2.2.2.1 TT.2.2.2.2.2.2.1 TT.2.2.2.2.2.2.2.1) (z_w hw 262 rfl) (z_w hw 263 rfl) (z_w hw 264 rfl) (z_w hw 265 rfl) (by decide) at_283 rfl (argsL := [(.ref p1), (.int y11), (.int (0 : Int32))]) (rest := []) rfl (lenOf z_pd19 rfl) (W := 0) (Nat.le_of_eq rfl) (by decide) (by decide) (by decide) (by decide) (by decide) (by decide) 286 rfl ?_
  refine z_ifN C at_286 (by decide) 289 rfl ?_
  refine z_aload C at_289 rfl rfl 291 rfl ?_
  refine z_iload C at_291 rfl 293 rfl ?_
  refine z_iload C at_293 rfl 295 rfl ?_
  refine z_callSp C (z_c33_54 l hw S (by omega) old1 y12 (y2 &&& (7 : Int32)) (z_z8) p1 p2 p3 p4 p5 p6 p7 p8 p9 p10 p11 o_p1_1 o_p3_1 TT.2.2.2.2.2.2.2.2.1 TT.2.2.2.2.2.2.2.2.2.1 TT.2.2.2.2.2.2.2.2.2.2.1 TT.2.2.2.2.2.2.2.2.2.2.2.1) (z_w hw 262 rfl) (z_w hw 263 rfl) (z_w hw 264 rfl) (z_w hw 265 rfl) (by decide) at_295 rfl (argsL := [(.ref p1), (.int y12), (.int (0 : Int32))]) (rest := []) rfl (lenOf z_pd19 rfl) (W := 0) (Nat.le_of_eq rfl) (by decide) (by decide) (by decide) (by decide) (by decide) (by decide) 298 rfl ?_
  refine z_ifN C at_298 (by decide) 301 rfl ?_
  refine z_iconst C (v := (1 : Int32)) at_301 (by decide) 302 rfl ?_
  refine z_goto C at_302 (by decide) 306 (by decide) ?_
  refine z_istore C (Ls' := #[.val (.int y0), .val (.int y1), .val (.int y2), .val (.int y3), .val (.ref p0), .val (.ref p1), .val (.int y4), .val (.int y5), .val (.int y6), .val (.int y7), .val (.int y8), .val (.int y9), .val (.int y10), .val (.int y11), .val (.int y12), .val (.int (0 : Int32)), .val (.int (y2 &&& (7 : Int32))), .val (.int (0 : Int32)), .val (.int (0 : Int32)), .val (.int (0 : Int32)), .val (.int (0 : Int32)), .val (.int (1 : Int32))]) at_306 rfl 308 rfl ?_
  refine z_iload C at_308 rfl 310 rfl ?_
  refine z_ifN C at_310 (by decide) 313 rfl ?_
  refine z_aload C at_313 rfl rfl 315 rfl ?_
  refine z_getO C (z_w hw 266 rfl) Via.refl o_p1_1 2 rfl rfl at_315 318 rfl ?_
  refine z_iconst C (v := (0 : Int32)) at_318 (by decide) 319 rfl ?_
  refine z_baload C o_p3_1 (by decide) TT.2.2.2.2.2.2.2.2.2.2.2.2.1 at_319 320 rfl ?_
  refine z_ifN C at_320 (by decide) 323 rfl ?_
  refine z_aload C at_323 rfl rfl 325 rfl ?_
  refine z_getO C (z_w hw 266 rfl) Via.refl o_p1_1 2 rfl rfl at_325 328 rfl ?_
  refine z_iconst C (v := (1 : Int32)) at_328 (by decide) 329 rfl ?_
  refine z_baload C o_p3_1 (by decide) TT.2.2.2.2.2.2.2.2.2.2.2.2.2 at_329 330 rfl ?_
  refine z_ifN C at_330 (by decide) 333 rfl ?_
  refine z_iconst C (v := (1 : Int32)) at_333 (by decide) 334 rfl ?_
  refine z_goto C at_334 (by decide) 338 (by decide) ?_
  refine z_istore C (Ls' := #[.val (.int y0), .val (.int y1), .val (.int y2), .val (.int y3), .val (.ref p0), .val (.ref p1), .val (.int y4), .val (.int y5), .val (.int y6), .val (.int y7), .val (.int y8), .val (.int y9), .val (.int y10), .val (.int y11), .val (.int y12), .val (.int (0 : Int32)), .val (.int (y2 &&& (7 : Int32))), .val (.int (0 : Int32)), .val (.int (0 : Int32)), .val (.int (0 : Int32)), .val (.int (0 : Int32)), .val (.int (1 : Int32))]) at_338 rfl 340 rfl ?_
  refine z_iload C at_340 rfl 342 rfl ?_
  refine z_ifY C at_342 (by decide) (by decide) 369 (by decide) ?_
  refine z_iload C at_369 rfl 371 rfl ?_
  refine z_ifY C at_371 (by decide) (by decide) 398 (by decide) ?_
  refine z_iload C at_398 rfl 400 rfl ?_
  refine z_ifY C at_400 (by decide) (by decide) 427 (by decide) ?_
  refine z_iload C at_427 rfl 429 rfl ?_
  exact z_ireturn C (by simp) rfl at_429 (by decide) (by decide) rfl
set_option maxHeartbeats 2000000 in
theorem z_c34_56 (l : Launch) {Z : State} {a0 : Array Value} (hw : ∀ d ∈ tables_1, d.before a0 Z = true) {n0 : Nat} {h : Heap} {a_DEF a_ONE a_NONE : Nat} (S : z_St Z a_DEF a_ONE a_NONE) (z0 : n0 ≤ h.size) (old : Old Z n0 h) (y0 : Int32) (va0 : List Value) (p0 : Nat) (p1 : Nat) (p2 : Nat) (p3 : Nat) (p4 : Nat) (p5 : Nat) (p6 : Nat) (p7 : Nat) (p8 : Nat) (p9 : Nat) (p10 : Nat) (o_p0 : z_Ob Z h p0 "com/example/variegate/variegate/service/Propagation" z_lay3 [(.int (3 : Int32)), (.ref p1), (.ref p2), (.ref p3), (.ref p4), (.ref p5), (.ref p6), (.ref p7), (.ref p8), (.ref p9), (.ref p10), (.int (0 : Int32)), (.int (0 : Int32)), (.int (0 : Int32))]) (o_p2 : z_Ar Z h p2 .byte "[B" "" va0) (o_p3 : z_Ar Z h p3 .int "[I" "" [(.int (0 : Int32)), (.int (0 : Int32)), (.int (0 : Int32)), (.int (0 : Int32))]) (ne_p0_p2 : p0 ≠ p2) (ne_p2_p3 : p2 ≠ p3) (ne_p0_p3 : p0 ≠ p3) (g_p2 : n0 ≤ p2) (g_p0 : n0 ≤ p0) (g_p3 : n0 ≤ p3) (rq0 : ¬ y0 < 0) (rq1 : (y0).toNatClampNeg < (va0).length) (rq2 : ¬ (y0 ^^^ (1 : Int32)) < 0) (rq3 : ((y0 ^^^ (1 : Int32))).toNatClampNeg < ((List.set (va0) (y0).toNatClampNeg (.int (1 : Int32)))).length) :
    z_Met l Z (⟨"com/example/variegate/variegate/service/Propagation", "assign", "(I)V"⟩ : MethodName) prog_97_method_10_code 2 none [] ({ frames := 0, cells := 0, slots := 0, locals := 0 } : Room) n0 #[(.ref p0), (.int y0)] h (z_nov fun h' => Keep h h' [p2, p0, p3] ∧ z_Ob Z h' p0 "com/example/variegate/variegate/service/Propagation" z_lay3 [(.int (3 : Int32)), (.ref p1), (.ref p2), (.ref p3), (.ref p4), (.ref p5), (.ref p6), (.ref p7), (.ref p8), (.ref p9), (.ref p10), (.int (1 : Int32)), (.int (0 : Int32)), (.int (0 : Int32))] ∧ z_Ar Z h' p2 .byte "[B" "" (List.set ((List.set (va0) (y0).toNatClampNeg (.int (1 : Int32)))) ((y0 ^^^ (1 : Int32))).toNatClampNeg (.int (-1 : Int32))) ∧ z_Ar Z h' p3 .int "[I" "" [(.int y0), (.int (0 : Int32)), (.int (0 : Int32)), (.int (0 : Int32))]) := by
  refine z_met (Ls := #[.val (.ref p0), .val (.int y0)]) (by first | exact plainFor_of_name (by first | (simp [plainName, overriddenIn]; done) | decide +kernel) | decide +kernel) rfl ?_
  intro p e s m below meth c C
  refine z_aloadN C z_d34_0 rfl rfl 1 rfl ?_
  refine z_getO C (z_w hw 162 rfl) Via.refl o_p0 2 rfl rfl z_d34_1 4 rfl ?_
  refine z_iloadN C z_d34_4 rfl 5 rfl ?_
  refine z_iconst C (v := (1 : Int32)) z_d34_5 (by decide) 6 rfl ?_
  refine z_bastore C (z := (1 : Int32)) o_p2 rq0 rq1 (by decide) (vs' := (List.set (va0) (y0).toNatClampNeg (.int (1 : Int32)))) rfl g_p2 z_d34_6 7 rfl ?_
  intro h1 W1 o_p2_1
  have s1 : h1.size = h.size := W1.size
  have k1 : Keep h h1 [p2, p0, p3] := (Keep.refl h [p2, p0, p3]).wr W1 (Or.inl (by simp))
  refine z_aloadN C z_d34_7 rfl rfl 8 rfl ?_
  have o_p0_1 := (o_p0.other W1 ne_p0_p2)
  refine z_getO C (z_w hw 162 rfl) Via.refl o_p0_1 2 rfl rfl z_d34_8 11 rfl ?_
  refine z_iloadN C z_d34_11 rfl 12 rfl ?_
  refine z_iconst C (v := (1 : Int32)) z_d34_12 (by decide) 13 rfl ?_
  refine z_ixor C z_d34_13 rfl 14 rfl ?_
  refine z_iconst C (v := (-1 : Int32)) z_d34_14 (by decide) 15 rfl ?_
  refine z_bastore C (z := (-1 : Int32)) o_p2_1 rq2 rq3 (by decide) (vs' := (List.set ((List.set (va0) (y0).toNatClampNeg (.int (1 : Int32)))) ((y0 ^^^ (1 : Int32))).toNatClampNeg (.int (-1 : Int32)))) rfl g_p2 z_d34_15 16 rfl ?_
  intro h2 W2 o_p2_2
  have s2 : h2.size = h1.size := W2.size
  have k2 : Keep h h2 [p2, p0, p3] := k1.wr W2 (Or.inl (by simp))
  refine z_aloadN C z_d34_16 rfl rfl 17 rfl ?_
  have o_p0_2 := (o_p0_1.other W2 ne_p0_p2)
  refine z_getO C (z_w hw 165 rfl) Via.refl o_p0_2 3 rfl rfl z_d34_17 20 rfl ?_
  refine z_aloadN C z_d34_20 rfl rfl 21 rfl ?_
  refine z_dup C z_d34_21 rfl 22 rfl ?_
  refine z_getO C (z_w hw 250 rfl) Via.refl o_p0_2 11 rfl rfl z_d34_22 25 rfl ?_
  refine z_dup_x1 C z_d34_25 rfl rfl 26 rfl ?_
  refine z_iconst C (v := (1 : Int32)) z_d34_26 (by decide) 27 rfl ?_
  refine z_iadd C (z := (1 : Int32)) z_d34_27 (by decide) 28 rfl ?_
  refine z_putO C (z_w hw 250 rfl) Via.refl o_p0_2 (z_lay3_ok hw) 11 rfl (vs' := [(.int (3 : Int32)), (.ref p1), (.ref p2), (.ref p3), (.ref p4), (.ref p5), (.ref p6), (.ref p7), (.ref p8), (.ref p9), (.ref p10), (.int (1 : Int32)), (.int (0 : Int32)), (.int (0 : Int32))]) rfl (Or.inl (z_w hw 251 rfl)) (z_w hw 116 rfl) (ty := .int) (by decide) (by first | rfl | decide) (by first | rfl | decide) g_p0 z_d34_28 31 rfl ?_
  intro h3 W3 o_p0_3
  have s3 : h3.size = h2.size := W3.size
  have k3 : Keep h h3 [p2, p0, p3] := k2.wr W3 (Or.inl (by simp))
  refine z_iloadN C z_d34_31 rfl 32 rfl ?_
  have o_p3_3 := (((o_p3.other W1 (Ne.symm ne_p2_p3)).other W2 (Ne.symm ne_p2_p3)).other W3 (Ne.symm ne_p0_p3))
  refine z_iastore C (z := y0) o_p3_3 (by decide) (of_decide_eq_true rfl) rfl (vs' := [(.int y0), (.int (0 : Int32)), (.int (0 : Int32)), (.int (0 : Int32))]) (by rfl) g_p3 z_d34_32 33 rfl ?_
  intro h4 W4 o_p3_4
  have s4 : h4.size = h3.size := W4.size
  have k4 : Keep h h4 [p2, p0, p3] := k3.wr W4 (Or.inl (by simp))
  have o_p0_4 := (o_p0_3.other W4 ne_p0_p3)
  have o_p2_4 := ((o_p2_2.other W3 (Ne.symm ne_p0_p2)).other W4 ne_p2_p3)
  exact z_return C z_d34_33 (by decide) (by decide) ⟨rfl, k4, o_p0_4, o_p2_4, o_p3_4⟩
set_option maxHeartbeats 2000000 in
theorem z_c30_57 (l : Launch) {Z : State} {a0 : Array Value} (hw : ∀ d ∈ tables_1, d.before a0 Z = true) {n0 : Nat} {h : Heap} {a_DEF a_ONE a_NONE : Nat} (S : z_St Z a_DEF a_ONE a_NONE) (z0 : n0 ≤ h.size) (old : Old Z n0 h) (y0 : Int32) (va0 : List Value) (p0 : Nat) (p1 : Nat) (p2 : Nat) (p3 : Nat) (p4 : Nat) (p5 : Nat) (p6 : Nat) (p7 : Nat) (p8 : Nat) (p9 : Nat) (p10 : Nat) (o_p0 : z_Ob Z h p0 "com/example/variegate/variegate/service/Propagation" z_lay3 [(.int (3 : Int32)), (.ref p1), (.ref p2), (.ref p3), (.ref p4), (.ref p5), (.ref p6), (.ref p7), (.ref p8), (.ref p9), (.ref p10), (.int (1 : Int32)), (.int (0 : Int32)), (.int (0 : Int32))]) (o_p3 : z_Ar Z h p3 .int "[I" "" [(.int y0), (.int (0 : Int32)), (.int (0 : Int32)), (.int (0 : Int32))]) (o_p2 : z_Ar Z h p2 .byte "[B" "" va0) (ne_p0_p3 : p0 ≠ p3) (ne_p0_p2 : p0 ≠ p2) (g_p0 : n0 ≤ p0) (g_p2 : n0 ≤ p2) (rq0 : ¬ y0 < 0) (rq1 : (y0).toNatClampNeg < (va0).length) (rq2 : ¬ (y0 ^^^ (1 : Int32)) < 0) (rq3 : ((y0 ^^^ (1 : Int32))).toNatClampNeg < ((List.set (va0) (y0).toNatClampNeg (.int (0 : Int32)))).length) :
    z_Met l Z (⟨"com/example/variegate/variegate/service/Propagation", "backtrack", "(I)V"⟩ : MethodName) prog_97_method_11_code 3 none [] ({ frames := 0, cells := 0, slots := 0, locals := 0 } : Room) n0 #[(.ref p0), (.int (0 : Int32))] h (z_nov fun h' => Keep h h' [p0, p2] ∧ z_Ob Z h' p0 "com/example/variegate/variegate/service/Propagation" z_lay3 [(.int (3 : Int32)), (.ref p1), (.ref p2), (.ref p3), (.ref p4), (.ref p5), (.ref p6), (.ref p7), (.ref p8), (.ref p9), (.ref p10), (.int (0 : Int32)), (.int (0 : Int32)), (.int (0 : Int32))] ∧ z_Ar Z h' p2 .byte "[B" "" (List.set ((List.set (va0) (y0).toNatClampNeg (.int (0 : Int32)))) ((y0 ^^^ (1 : Int32))).toNatClampNeg (.int (0 : Int32)))) := by
  refine z_met (Ls := #[.val (.ref p0), .val (.int (0 : Int32)), .unset]) (by first | exact plainFor_of_name (by first | (simp [plainName, overriddenIn]; done) | decide +kernel) | decide +kernel) rfl ?_
  intro p e s m below meth c C
  refine z_aloadN C z_d30_0 rfl rfl 1 rfl ?_
  refine z_getO C (z_w hw 250 rfl) Via.refl o_p0 11 rfl rfl z_d30_1 4 rfl ?_
  refine z_iloadN C z_d30_4 rfl 5 rfl ?_
  refine z_icmpN C z_d30_5 (by decide) 8 rfl ?_
  refine z_aloadN C z_d30_8 rfl rfl 9 rfl ?_
  refine z_getO C (z_w hw 165 rfl) Via.refl o_p0 3 rfl rfl z_d30_9 12 rfl ?_
  refine z_aloadN C z_d30_12 rfl rfl 13 rfl ?_
  refine z_dup C z_d30_13 rfl 14 rfl ?_
  refine z_getO C (z_w hw 250 rfl) Via.refl o_p0 11 rfl rfl z_d30_14 17 rfl ?_
  refine z_iconst C (v := (1 : Int32)) z_d30_17 (by decide) 18 rfl ?_
  refine z_isub C (z := (0 : Int32)) z_d30_18 (by decide) 19 rfl ?_
  refine z_dup_x1 C z_d30_19 rfl rfl 20 rfl ?_
  refine z_putO C (z_w hw 250 rfl) Via.refl o_p0 (z_lay3_ok hw) 11 rfl (vs' := [(.int (3 : Int32)), (.ref p1), (.ref p2), (.ref p3), (.ref p4), (.ref p5), (.ref p6), (.ref p7), (.ref p8), (.ref p9), (.ref p10), (.int (0 : Int32)), (.int (0 : Int32)), (.int (0 : Int32))]) rfl (Or.inl (z_w hw 251 rfl)) (z_w hw 116 rfl) (ty := .int) (by decide) (by first | rfl | decide) (by first | rfl | decide) g_p0 z_d30_20 23 rfl ?_
  intro h1 W1 o_p0_1
  have s1 : h1.size = h.size := W1.size
  have k1 : Keep h h1 [p0, p2] := (Keep.refl h [p0, p2]).wr W1 (Or.inl (by simp))
  have o_p3_1 := (o_p3.other W1 (Ne.symm ne_p0_p3))
  refine z_iaload C o_p3_1 (by decide) (v := (.int y0)) (by rfl) z_d30_23 24 rfl ?_
  refine z_istoreN C (Ls' := #[.val (.ref p0), .val (.int (0 : Int32)), .val (.int y0)]) z_d30_24 rfl 25 rfl ?_
  refine z_aloadN C z_d30_25 rfl rfl 26 rfl ?_
  refine z_getO C (z_w hw 162 rfl) Via.refl o_p0_1 2 rfl rfl z_d30_26 29 rfl ?_
  refine z_iloadN C z_d30_29 rfl 30 rfl ?_
  refine z_iconst C (v := (0 : Int32)) z_d30_30 (by decide) 31 rfl ?_
  have o_p2_1 := (o_p2.other W1 (Ne.symm ne_p0_p2))
  refine z_bastore C (z := (0 : Int32)) o_p2_1 rq0 rq1 (by decide) (vs' := (List.set (va0) (y0).toNatClampNeg (.int (0 : Int32)))) rfl g_p2 z_d30_31 32 rfl ?_
  intro h2 W2 o_p2_2
  have s2 : h2.size = h1.size := W2.size
  have k2 : Keep h h2 [p0, p2] := k1.wr W2 (Or.inl (by simp))
  refine z_aloadN C z_d30_32 rfl rfl 33 rfl ?_
  have o_p0_2 := (o_p0_1.other W2 ne_p0_p2)
  refine z_getO C (z_w hw 162 rfl) Via.refl o_p0_2 2 rfl rfl z_d30_33 36 rfl ?_
  refine z_iloadN C z_d30_36 rfl 37 rfl ?_
  refine z_iconst C (v := (1 : Int32)) z_d30_37 (by decide) 38 rfl ?_
  refine z_ixor C z_d30_38 rfl 39 rfl ?_
  refine z_iconst C (v := (0 : Int32)) z_d30_39 (by decide) 40 rfl ?_
  refine z_bastore C (z := (0 : Int32)) o_p2_2 rq2 rq3 (by decide) (vs' := (List.set ((List.set (va0) (y0).toNatClampNeg (.int (0 : Int32)))) ((y0 ^^^ (1 : Int32))).toNatClampNeg (.int (0 : Int32)))) rfl g_p2 z_d30_40 41 rfl ?_
  intro h3 W3 o_p2_3
  have s3 : h3.size = h2.size := W3.size
  have k3 : Keep h h3 [p0, p2] := k2.wr W3 (Or.inl (by simp))
  refine z_goto C z_d30_41 (by decide) 0 (by decide) ?_
  refine z_aloadN C z_d30_0 rfl rfl 1 rfl ?_
  have o_p0_3 := (o_p0_2.other W3 ne_p0_p2)
  refine z_getO C (z_w hw 250 rfl) Via.refl o_p0_3 11 rfl rfl z_d30_1 4 rfl ?_
  refine z_iloadN C z_d30_4 rfl 5 rfl ?_
  refine z_icmpY C z_d30_5 (by decide) (by decide) 44 (by decide) ?_
  refine z_aloadN C z_d30_44 rfl rfl 45 rfl ?_
  refine z_iloadN C z_d30_45 rfl 46 rfl ?_
  refine z_putO C (z_w hw 252 rfl) Via.refl o_p0_3 (z_lay3_ok hw) 12 rfl (vs' := [(.int (3 : Int32)), (.ref p1), (.ref p2), (.ref p3), (.ref p4), (.ref p5), (.ref p6), (.ref p7), (.ref p8), (.ref p9), (.ref p10), (.int (0 : Int32)), (.int (0 : Int32)), (.int (0 : Int32))]) rfl (Or.inl (z_w hw 253 rfl)) (z_w hw 116 rfl) (ty := .int) (by decide) (by first | rfl | decide) (by first | rfl | decide) g_p0 z_d30_46 49 rfl ?_
  intro h4 W4 o_p0_4
  have s4 : h4.size = h3.size := W4.size
  have k4 : Keep h h4 [p0, p2] := k3.wr W4 (Or.inl (by simp))
  have o_p2_4 := (o_p2_3.other W4 (Ne.symm ne_p0_p2))
  exact z_return C z_d30_49 (by decide) (by decide) ⟨rfl, k4, o_p0_4, o_p2_4⟩
set_option maxHeartbeats 2000000 in
theorem z_c31_58 (l : Launch) {Z : State} {a0 : Array Value} (hw : ∀ d ∈ tables_1, d.before a0 Z = true) {n0 : Nat} {h : Heap} {a_DEF a_ONE a_NONE : Nat} (S : z_St Z a_DEF a_ONE a_NONE) (z0 : n0 ≤ h.size) (old : Old Z n0 h) :
    z_Met l Z (⟨"java/lang/Math", "min", "(II)I"⟩ : MethodName) jdk_29_method_69_code 2 (some .int) [] ({ frames := 0, cells := 0, slots := 0, locals := 0 } : Room) n0 #[(.int (1 : Int32)), (.int (0 : Int32))] h (z_pure (.int (0 : Int32)) h) := by
  refine z_met (Ls := #[.val (.int (1 : Int32)), .val (.int (0 : Int32))]) (by first | exact plainFor_of_name (by first | (simp [plainName, overriddenIn]; done) | decide +kernel) | decide +kernel) rfl ?_
  intro p e s m below meth c C
  refine z_iloadN C z_d31_0 rfl 1 rfl ?_
  refine z_iloadN C z_d31_1 rfl 2 rfl ?_
  refine z_icmpY C z_d31_2 (by decide) (by decide) 9 (by decide) ?_
  refine z_iloadN C z_d31_9 rfl 10 rfl ?_
  exact z_ireturn C (Or.inl rfl) rfl z_d31_10 (by decide) (by decide) ⟨rfl, rfl⟩
set_option maxHeartbeats 2000000 in
theorem z_c32_59 (l : Launch) {Z : State} {a0 : Array Value} (hw : ∀ d ∈ tables_1, d.before a0 Z = true) {n0 : Nat} {h : Heap} {a_DEF a_ONE a_NONE : Nat} (S : z_St Z a_DEF a_ONE a_NONE) (z0 : n0 ≤ h.size) (old : Old Z n0 h) (p0 : Nat) (p1 : Nat) (p2 : Nat) (p3 : Nat) (p4 : Nat) (p5 : Nat) (p6 : Nat) (p7 : Nat) (p8 : Nat) (p9 : Nat) (p10 : Nat) (o_p0 : z_Ob Z h p0 "com/example/variegate/variegate/service/Propagation" z_lay3 [(.int (3 : Int32)), (.ref p1), (.ref p2), (.ref p3), (.ref p4), (.ref p5), (.ref p6), (.ref p7), (.ref p8), (.ref p9), (.ref p10), (.int (0 : Int32)), (.int (0 : Int32)), (.int (0 : Int32))]) :
    z_Met l Z (⟨"com/example/variegate/variegate/service/Propagation", "trailSize", "()I"⟩ : MethodName) prog_97_method_6_code 1 (some .int) [] ({ frames := 0, cells := 0, slots := 0, locals := 0 } : Room) n0 #[(.ref p0)] h (z_pure (.int (0 : Int32)) h) := by
  refine z_met (Ls := #[.val (.ref p0)]) (by first | exact plainFor_of_name (by first | (simp [plainName, overriddenIn]; done) | decide +kernel) | decide +kernel) rfl ?_
  intro p e s m below meth c C
  refine z_aloadN C z_d32_0 rfl rfl 1 rfl ?_
  refine z_getO C (z_w hw 250 rfl) Via.refl o_p0 11 rfl rfl z_d32_1 4 rfl ?_
  exact z_ireturn C (Or.inl rfl) rfl z_d32_4 (by decide) (by decide) ⟨rfl, rfl⟩
set_option maxHeartbeats 2000000 in
theorem z_c33_60 (l : Launch) {Z : State} {a0 : Array Value} (hw : ∀ d ∈ tables_1, d.before a0 Z = true) {n0 : Nat} {h : Heap} {a_DEF a_ONE a_NONE : Nat} (S : z_St Z a_DEF a_ONE a_NONE) (z0 : n0 ≤ h.size) (old : Old Z n0 h) (y0 : Int32) (va0 : List Value) (p0 : Nat) (p1 : Nat) (p2 : Nat) (p3 : Nat) (p4 : Nat) (p5 : Nat) (p6 : Nat) (p7 : Nat) (p8 : Nat) (p9 : Nat) (p10 : Nat) (o_p0 : z_Ob Z h p0 "com/example/variegate/variegate/service/Propagation" z_lay3 [(.int (3 : Int32)), (.ref p1), (.ref p2), (.ref p3), (.ref p4), (.ref p5), (.ref p6), (.ref p7), (.ref p8), (.ref p9), (.ref p10), (.int (0 : Int32)), (.int (0 : Int32)), (.int (0 : Int32))]) (o_p2 : z_Ar Z h p2 .byte "[B" "" va0) (rq0 : ¬ y0 < 0) (rq1 : (va0)[(y0).toNatClampNeg]? = some (.int (0 : Int32))) (rq2 : ¬ (y0 ^^^ (1 : Int32)) < 0) (rq3 : (va0)[((y0 ^^^ (1 : Int32))).toNatClampNeg]? = some (.int (0 : Int32))) :
    z_Met l Z (⟨"com/example/variegate/variegate/service/PropagationBacktrackPinLaw", "check", "(Lcom/example/variegate/variegate/service/Propagation;IZ)Z"⟩ : MethodName) method_2_code 5 (some .boolean) [] ({ frames := 0, cells := 0, slots := 0, locals := 0 } : Room) n0 #[(.ref p0), (.int y0), (.int (0 : Int32))] h (z_pure (.int (1 : Int32)) h) := by
  refine z_met (Ls := #[.val (.ref p0), .val (.int y0), .val (.int (0 : Int32)), .unset, .unset]) (by first | exact plainFor_of_name (by first | (simp [plainName, overriddenIn]; done) | decide +kernel) | decide +kernel) rfl ?_
  intro p e s m below meth c C
  refine z_iloadN C z_d33_0 rfl 1 rfl ?_
  refine z_ifY C z_d33_1 (by decide) (by decide) 8 (by decide) ?_
  refine z_iconst C (v := (0 : Int32)) z_d33_8 (by decide) 9 rfl ?_
  refine z_istoreN C (Ls' := #[.val (.ref p0), .val (.int y0), .val (.int (0 : Int32)), .val (.int (0 : Int32)), .unset]) z_d33_9 rfl 10 rfl ?_
  refine z_iloadN C z_d33_10 rfl 11 rfl ?_
  refine z_ifY C z_d33_11 (by decide) (by decide) 18 (by decide) ?_
  refine z_iconst C (v := (0 : Int32)) z_d33_18 (by decide) 19 rfl ?_
  refine z_istore C (Ls' := #[.val (.ref p0), .val (.int y0), .val (.int (0 : Int32)), .val (.int (0 : Int32)), .val (.int (0 : Int32))]) z_d33_19 rfl 21 rfl ?_
  refine z_aloadN C z_d33_21 rfl rfl 22 rfl ?_
  refine z_getO C (z_w hw 266 rfl) Via.refl o_p0 2 rfl rfl z_d33_22 25 rfl ?_
  refine z_iloadN C z_d33_25 rfl 26 rfl ?_
  refine z_baload C o_p2 rq0 rq1 z_d33_26 27 rfl ?_
  refine z_iloadN C z_d33_27 rfl 28 rfl ?_
  refine z_icmpN C z_d33_28 (by decide) 31 rfl ?_
  refine z_aloadN C z_d33_31 rfl rfl 32 rfl ?_
  refine z_getO C (z_w hw 266 rfl) Via.refl o_p0 2 rfl rfl z_d33_32 35 rfl ?_
  refine z_iloadN C z_d33_35 rfl 36 rfl ?_
  refine z_iconst C (v := (1 : Int32)) z_d33_36 (by decide) 37 rfl ?_
  refine z_ixor C z_d33_37 rfl 38 rfl ?_
  refine z_baload C o_p2 rq2 rq3 z_d33_38 39 rfl ?_
  refine z_iload C z_d33_39 rfl 41 rfl ?_
  refine z_icmpN C z_d33_41 (by decide) 44 rfl ?_
  refine z_iconst C (v := (1 : Int32)) z_d33_44 (by decide) 45 rfl ?_
  refine z_goto C z_d33_45 (by decide) 49 (by decide) ?_
  exact z_ireturn C (by simp) rfl z_d33_49 (by decide) (by decide) ⟨rfl, rfl⟩
set_option maxHeartbeats 8000000 in
theorem z_seg61 (l : Launch) {Z : State} {a0 : Array Value} (hw : ∀ d ∈ tables_1, d.before a0 Z = true) {n0 : Nat} {h : Heap} {a_DEF a_ONE a_NONE : Nat} (S : z_St Z a_DEF a_ONE a_NONE) (z0 : n0 ≤ h.size) (old : Old Z n0 h) (y0 : Int32) (y1 : Int32) (y2 : Int32) (y3 : Int32) (y4 : Int32) (y5 : Int32) (y6 : Int32) (y7 : Int32) (y8 : Int32) (y9 : Int32) (y10 : Int32) (y11 : Int32) (y12 : Int32) (p0 : Nat) (p1 : Nat) (p2 : Nat) (p3 : Nat) (p4 : Nat) (p5 : Nat) (p6 : Nat) (p7 : Nat) (p8 : Nat) (p9 : Nat) (p10 : Nat) (p11 : Nat) (o_p1 : z_Ob Z h p1 "com/example/variegate/variegate/service/Propagation" z_lay3 [(.int (3 : Int32)), (.ref p2), (.ref p3), (.ref p4), (.ref p5), (.ref p6), (.ref p7), (.ref p8), (.ref p9), (.ref p10), (.ref p11), (.int (0 : Int32)), (.int (0 : Int32)), (.int (0 : Int32))]) (o_p3 : z_Ar Z h p3 .byte "[B" "" z_z8) (o_p4 : z_Ar Z h p4 .int "[I" "" [(.int (0 : Int32)), (.int (0 : Int32)), (.int (0 : Int32)), (.int (0 : Int32))]) (ne_p1_p3 : p1 ≠ p3) (ne_p3_p4 : p3 ≠ p4) (ne_p1_p4 : p1 ≠ p4) (g_p3 : n0 ≤ p3) (g_p1 : n0 ≤ p1) (g_p4 : n0 ≤ p4) (TT : z_R1_0 y10 y11 y12) (hn : (y0 &&& (3 : Int32)) = (1 : Int32)) (hm : (y2 &&& (7 : Int32)) = (0 : Int32)) {p : Program} {e : Env} {s : State} {m : MethodId} {args : Array Value} {below : List Frame} {meth : Method} {c : Code} (C : z_Cx Z p s m meth c x.cls code maxLocals ret x.name) :
    z_At p l e room_1 s m args below meth c n0 (fun v _ => v = some (.int 1)) h 27 131 (mkF m 139 #[.val (.int y0), .val (.int y1), .val (.int y2), .val (.int y3), .val (.ref p0), .val (.ref p1), .val (.int y4), .val (.int y5), .val (.int y6), .val (.int y7), .val (.int y8), .val (.int y9), .val (.int y10), .val (.int y11), .val (.int y12), .unset, .unset, .unset, .unset, .unset, .unset, .unset] []) := by
  refine z_iloadN C at_139 rfl 140 rfl ?_
  refine z_iconst C (v := (3 : Int32)) at_140 (by decide) 141 rfl ?_
  refine z_iand C (z := (1 : Int32)) at_141 hn 142 rfl ?_
  refine z_istore C (Ls' := #[.val (.int y0), .val (.int y1), .val (.int y2), .val (.int y3), .val (.ref p0), .val (.ref p1), .val (.int y4), .val (.int y5), .val (.int y6), .val (.int y7), .val (.int y8), .val (.int y9), .val (.int y10), .val (.int y11), .val (.int y12), .val (.int (1 : Int32)), .unset, .unset, .unset, .unset, .unset, .unset]) at_142 rfl 144 rfl ?_
  refine z_iload C at_144 rfl 146 rfl ?_
  refine z_ifN C at_146 (by decide) 149 rfl ?_
  refine z_aload C at_149 rfl rfl 151 rfl ?_
  refine z_iload C at_151 rfl 153 rfl ?_
  refine z_callVV C o_p1.1 (z_c34_56 l hw S (by omega) old y10 (z_z8) p1 p2 p3 p4 p5 p6 p7 p8 p9 p10 p11 o_p1 o_p3 o_p4 ne_p1_p3 ne_p3_p4 ne_p1_p4 g_p3 g_p1 g_p4 TT.1 TT.2.1 TT.2.2.1 TT.2.2.2.1) (z_w hw 267 rfl) (z_w hw 268 rfl) (z_w hw 270 rfl) (z_w hw 269 rfl) (z_w hw 117 rfl) (z_w hw 271 rfl) (by decide) at_153 rfl (argsL := [(.int y10)]) (rest := []) rfl (lenOf z_pd2 rfl) (W := 0) (Nat.le_of_eq rfl) (by decide) (by decide) (by decide) (by decide) 156 rfl ?_
  rintro h1 ⟨K1, o_p1_1, o_p3_1, o_p4_1⟩
  have s1 : h.size ≤ h1.size := K1.1
  refine z_iload C at_156 rfl 158 rfl ?_
  refine z_iconst C (v := (1 : Int32)) at_158 (by decide) 159 rfl ?_
  refine z_icmpY C at_159 (by decide) (by decide) 169 (by decide) ?_
  refine z_iload C at_169 rfl 171 rfl ?_
  refine z_iconst C (v := (2 : Int32)) at_171 (by decide) 172 rfl ?_
  refine z_icmpY C at_172 (by decide) (by decide) 182 (by decide) ?_
  refine z_iloadN C at_182 rfl 183 rfl ?_
  refine z_bipush C (v := (7 : Int32)) at_183 (by decide) 185 rfl ?_
  refine z_iand C (z := (0 : Int32)) at_185 hm 186 rfl ?_
  refine z_istore C (Ls' := #[.val (.int y0), .val (.int y1), .val (.int y2), .val (.int y3), .val (.ref p0), .val (.ref p1), .val (.int y4), .val (.int y5), .val (.int y6), .val (.int y7), .val (.int y8), .val (.int y9), .val (.int y10), .val (.int y11), .val (.int y12), .val (.int (1 : Int32)), .val (.int (0 : Int32)), .unset, .unset, .unset, .unset, .unset]) at_186 rfl 188 rfl ?_
  refine z_aload C at_188 rfl rfl 190 rfl ?_
  refine z_iload C at_190 rfl 192 rfl ?_
  have old1 := (old.keep K1 (allS g_p3 (allS g_p1 (allS g_p4 all0))))
  refine z_callVV C o_p1_1.1 (z_c30_57 l hw S (by omega) old1 y10 ((List.set ((List.set ((z_z8)) (y10).toNatClampNeg (.int (1 : Int32)))) ((y10 ^^^ (1 : Int32))).toNatClampNeg (.int (-1 : Int32)))) p1 p2 p3 p4 p5 p6 p7 p8 p9 p10 p11 o_p1_1 o_p4_1 o_p3_1 ne_p1_p4 ne_p1_p3 g_p1 g_p3 TT.1 TT.2.2.2.2.1 TT.2.2.1 TT.2.2.2.2.2.1) (z_w hw 245 rfl) (z_w hw 246 rfl) (z_w hw 248 rfl) (z_w hw 247 rfl) (z_w hw 117 rfl) (z_w hw 249 rfl) (by decide) at_192 rfl (argsL := [(.int (0 : Int32))]) (rest := []) rfl (lenOf z_pd2 rfl) (W := 0) (Nat.le_of_eq rfl) (by decide) (by decide) (by decide) (by decide) 195 rfl ?_
  rintro h2 ⟨K2, o_p1_2, o_p3_2⟩
  have s2 : h1.size ≤ h2.size := K2.1
  refine z_iload C at_195 rfl 197 rfl ?_
  refine z_iload C at_197 rfl 199 rfl ?_
  have old2 := (old1.keep K2 (allS g_p1 (allS g_p3 all0)))
  refine z_callSp C (z_c31_58 l hw S (by omega) old2) (z_w hw 254 rfl) (z_w hw 255 rfl) (z_w hw 102 rfl) (z_w hw 256 rfl) (by decide) at_199 rfl (argsL := [(.int (1 : Int32)), (.int (0 : Int32))]) (rest := []) rfl (lenOf z_pd3 rfl) (W := 0) (Nat.le_of_eq rfl) (by decide) (by decide) (by decide) (by decide) (by decide) (by decide) 202 rfl ?_
  refine z_istore C (Ls' := #[.val (.int y0), .val (.int y1), .val (.int y2), .val (.int y3), .val (.ref p0), .val (.ref p1), .val (.int y4), .val (.int y5), .val (.int y6), .val (.int y7), .val (.int y8), .val (.int y9), .val (.int y10), .val (.int y11), .val (.int y12), .val (.int (1 : Int32)), .val (.int (0 : Int32)), .val (.int (0 : Int32)), .unset, .unset, .unset, .unset]) at_202 rfl 204 rfl ?_
  refine z_iconst C (v := (0 : Int32)) at_204 (by decide) 205 rfl ?_
  refine z_iload C at_205 rfl 207 rfl ?_
  refine z_icmpY C at_207 (by decide) (by decide) 214 (by decide) ?_
  refine z_iconst C (v := (0 : Int32)) at_214 (by decide) 215 rfl ?_
  refine z_istore C (Ls' := #[.val (.int y0), .val (.int y1), .val (.int y2), .val (.int y3), .val (.ref p0), .val (.ref p1), .val (.int y4), .val (.int y5), .val (.int y6), .val (.int y7), .val (.int y8), .val (.int y9), .val (.int y10), .val (.int y11), .val (.int y12), .val (.int (1 : Int32)), .val (.int (0 : Int32)), .val (.int (0 : Int32)), .val (.int (0 : Int32)), .unset, .unset, .unset]) at_215 rfl 217 rfl ?_
  refine z_iconst C (v := (1 : Int32)) at_217 (by decide) 218 rfl ?_
  refine z_iload C at_218 rfl 220 rfl ?_
  refine z_icmpY C at_220 (by decide) (by decide) 227 (by decide) ?_
  refine z_iconst C (v := (0 : Int32)) at_227 (by decide) 228 rfl ?_
  refine z_istore C (Ls' := #[.val (.int y0), .val (.int y1), .val (.int y2), .val (.int y3), .val (.ref p0), .val (.ref p1), .val (.int y4), .val (.int y5), .val (.int y6), .val (.int y7), .val (.int y8), .val (.int y9), .val (.int y10), .val (.int y11), .val (.int y12), .val (.int (1 : Int32)), .val (.int (0 : Int32)), .val (.int (0 : Int32)), .val (.int (0 : Int32)), .val (.int (0 : Int32)), .unset, .unset]) at_228 rfl 230 rfl ?_
  refine z_iconst C (v := (2 : Int32)) at_230 (by decide) 231 rfl ?_
  refine z_iload C at_231 rfl 233 rfl ?_
  refine z_icmpY C at_233 (by decide) (by decide) 240 (by decide) ?_
  refine z_iconst C (v := (0 : Int32)) at_240 (by decide) 241 rfl ?_
  refine z_istore C (Ls' := #[.val (.int y0), .val (.int y1), .val (.int y2), .val (.int y3), .val (.ref p0), .val (.ref p1), .val (.int y4), .val (.int y5), .val (.int y6), .val (.int y7), .val (.int y8), .val (.int y9), .val (.int y10), .val (.int y11), .val (.int y12), .val (.int (1 : Int32)), .val (.int (0 : Int32)), .val (.int (0 : Int32)), .val (.int (0 : Int32)), .val (.int (0 : Int32)), .val (.int (0 : Int32)), .unset]) at_241 rfl 243 rfl ?_
  refine z_aload C at_243 rfl rfl 245 rfl ?_
  refine z_callVp C o_p1_2.1 (z_c32_59 l hw S (by omega) old2 p1 p2 p3 p4 p5 p6 p7 p8 p9 p10 p11 o_p1_2) (z_w hw 257 rfl) (z_w hw 258 rfl) (z_w hw 260 rfl) (z_w hw 259 rfl) (z_w hw 117 rfl) (z_w hw 261 rfl) (by decide) at_245 rfl (argsL := []) (rest := []) rfl (lenOf z_pd8 rfl) (W := 0) (Nat.le_of_eq rfl) (by decide) (by decide) (by decide) (by decide) (by decide) (by decide) 248 rfl ?_
  refine z_iload C at_248 rfl 250 rfl ?_
  refine z_icmpN C at_250 (by decide) 253 rfl ?_
  refine z_iconst C (v := (1 : Int32)) at_253 (by decide) 254 rfl ?_
  refine z_goto C at_254 (by decide) 258 (by decide) ?_
  refine z_istore C (Ls' := #[.val (.int y0), .val (.int y1), .val (.int y2), .val (.int y3), .val (.ref p0), .val (.ref p1), .val (.int y4), .val (.int y5), .val (.int y6), .val (.int y7), .val (.int y8), .val (.int y9), .val (.int y10), .val (.int y11), .val (.int y12), .val (.int (1 : Int32)), .val (.int (0 : Int32)), .val (.int (0 : Int32)), .val (.int (0 : Int32)), .val (.int (0 : Int32)), .val (.int (0 : Int32)), .val (.int (1 : Int32))]) at_258 rfl 260 rfl ?_
  refine z_iload C at_260 rfl 262 rfl ?_
  refine z_ifN C at_262 (by decide) 265 rfl ?_
  refine z_aload C at_265 rfl rfl 267 rfl ?_
  refine z_iload C at_267 rfl 269 rfl ?_
  refine z_iload C at_269 rfl 271 rfl ?_
  refine z_callSp C (z_c33_60 l hw S (by omega) old2 y10 ((List.set ((List.set (((List.set ((List.set ((z_z8)) (y10).toNatClampNeg (.int (1 : Int32)))) ((y10 ^^^ (1 : Int32))).toNatClampNeg (.int (-1 : Int32))))) (y10).toNatClampNeg (.int (0 : Int32)))) ((y10 ^^^ (1 : Int32))).toNatClampNeg (.int (0 : Int32)))) p1 p2 p3 p4 p5 p6 p7 p8 p9 p10 p11 o_p1_2 o_p3_2 TT.1 TT.2.2.2.2.2.2.1 TT.2.2.1 TT.2.2.2.2.2.2.2.1) (z_w hw 262 rfl) (z_w hw 263 rfl) (z_w hw 264 rfl) (z_w hw 265 rfl) (by decide) at_271 rfl (argsL := [(.ref p1), (.int y10), (.int (0 : Int32))]) (rest := []) rfl (lenOf z_pd19 rfl) (W := 0) (Nat.le_of_eq rfl) (by decide) (by decide) (by decide) (by decide) (by decide) (by decide) 274 rfl ?_
  refine z_ifN C at_274 (by decide) 277 rfl ?_
  refine z_aload C at_277 rfl rfl 279 rfl ?_
  refine z_iload C at_279 rfl 281 rfl ?_
  refine z_iload C at_281 rfl 283 rfl ?_
  refine z_callSp C (z_c33_60 l hw S (by omega) old2 y11 ((List.set ((List.set (((List.set ((List.set ((z_z8)) (y10).toNatClampNeg (.int (1 : Int32)))) ((y10 ^^^ (1 : Int32))).toNatClampNeg (.int (-1 : Int32))))) (y10).toNatClampNeg (.int (0 : Int32)))) ((y10 ^^^ (1 : Int32))).toNatClampNeg (.int (0 : Int32)))) p1 p2 p3 p4 p5 p6 p7 p8 p9 p10 p11 o_p1_2 o_p3_2 TT.2.2.2.2.2.2.2.2.1 TT.2.2.2.2.2.2.2.2.2.1 TT.2.2.2.2.2.2.2.2.2.2.1 TT.2.2.2.2.2.2.2.2.2.2.2.1) (z_w hw 262 rfl) (z_w hw 263 rfl) (z_w hw 264 rfl) (z_w hw 265 rfl) (by decide) at_283 rfl (argsL := [(.ref p1), (.int y11), (.int (0 : Int32))]) (rest := []) rfl (lenOf z_pd19 rfl) (W := 0) (Nat.le_of_eq rfl) (by decide) (by decide) (by decide) (by decide) (by decide) (by decide) 286 rfl ?_
  refine z_ifN C at_286 (by decide) 289 rfl ?_
  refine z_aload C at_289 rfl rfl 291 rfl ?_
  refine z_iload C at_291 rfl 293 rfl ?_
  refine z_iload C at_293 rfl 295 rfl ?_
  refine z_callSp C (z_c33_60 l hw S (by omega) old2 y12 ((List.set ((List.set (((List.set ((List.set ((z_z8)) (y10).toNatClampNeg (.int (1 : Int32)))) ((y10 ^^^ (1 : Int32))).toNatClampNeg (.int (-1 : Int32))))) (y10).toNatClampNeg (.int (0 : Int32)))) ((y10 ^^^ (1 : Int32))).toNatClampNeg (.int (0 : Int32)))) p1 p2 p3 p4 p5 p6 p7 p8 p9 p10 p11 o_p1_2 o_p3_2 TT.2.2.2.2.2.2.2.2.2.2.2.2.1 TT.2.2.2.2.2.2.2.2.2.2.2.2.2.1 TT.2.2.2.2.2.2.2.2.2.2.2.2.2.2.1 TT.2.2.2.2.2.2.2.2.2.2.2.2.2.2.2.1) (z_w hw 262 rfl) (z_w hw 263 rfl) (z_w hw 264 rfl) (z_w hw 265 rfl) (by decide) at_295 rfl (argsL := [(.ref p1), (.int y12), (.int (0 : Int32))]) (rest := []) rfl (lenOf z_pd19 rfl) (W := 0) (Nat.le_of_eq rfl) (by decide) (by decide) (by decide) (by decide) (by decide) (by decide) 298 rfl ?_
  refine z_ifN C at_298 (by decide) 301 rfl ?_
  refine z_iconst C (v := (1 : Int32)) at_301 (by decide) 302 rfl ?_
  refine z_goto C at_302 (by decide) 306 (by decide) ?_
  refine z_istore C (Ls' := #[.val (.int y0), .val (.int y1), .val (.int y2), .val (.int y3), .val (.ref p0), .val (.ref p1), .val (.int y4), .val (.int y5), .val (.int y6), .val (.int y7), .val (.int y8), .val (.int y9), .val (.int y10), .val (.int y11), .val (.int y12), .val (.int (1 : Int32)), .val (.int (0 : Int32)), .val (.int (0 : Int32)), .val (.int (0 : Int32)), .val (.int (0 : Int32)), .val (.int (0 : Int32)), .val (.int (1 : Int32))]) at_306 rfl 308 rfl ?_
  refine z_iload C at_308 rfl 310 rfl ?_
  refine z_ifN C at_310 (by decide) 313 rfl ?_
  refine z_aload C at_313 rfl rfl 315 rfl ?_
  refine z_getO C (z_w hw 266 rfl) Via.refl o_p1_2 2 rfl rfl at_315 318 rfl ?_
  refine z_iconst C (v := (0 : Int32)) at_318 (by decide) 319 rfl ?_
  refine z_baload C o_p3_2 (by decide) TT.2.2.2.2.2.2.2.2.2.2.2.2.2.2.2.2.1 at_319 320 rfl ?_
  refine z_ifN C at_320 (by decide) 323 rfl ?_
  refine z_aload C at_323 rfl rfl 325 rfl ?_
  refine z_getO C (z_w hw 266 rfl) Via.refl o_p1_2 2 rfl rfl at_325 328 rfl ?_
  refine z_iconst C (v := (1 : Int32)) at_328 (by decide) 329 rfl ?_
  refine z_baload C o_p3_2 (by decide) TT.2.2.2.2.2.2.2.2.2.2.2.2.2.2.2.2.2 at_329 330 rfl ?_
  refine z_ifN C at_330 (by decide) 333 rfl ?_
  refine z_iconst C (v := (1 : Int32)) at_333 (by decide) 334 rfl ?_
  refine z_goto C at_334 (by decide) 338 (by decide) ?_
  refine z_istore C (Ls' := #[.val (.int y0), .val (.int y1), .val (.int y2), .val (.int y3), .val (.ref p0), .val (.ref p1), .val (.int y4), .val (.int y5), .val (.int y6), .val (.int y7), .val (.int y8), .val (.int y9), .val (.int y10), .val (.int y11), .val (.int y12), .val (.int (1 : Int32)), .val (.int (0 : Int32)), .val (.int (0 : Int32)), .val (.int (0 : Int32)), .val (.int (0 : Int32)), .val (.int (0 : Int32)), .val (.int (1 : Int32))]) at_338 rfl 340 rfl ?_
  refine z_iload C at_340 rfl 342 rfl ?_
  refine z_ifY C at_342 (by decide) (by decide) 369 (by decide) ?_
  refine z_iload C at_369 rfl 371 rfl ?_
  refine z_ifY C at_371 (by decide) (by decide) 398 (by decide) ?_
  refine z_iload C at_398 rfl 400 rfl ?_
  refine z_ifY C at_400 (by decide) (by decide) 427 (by decide) ?_
  refine z_iload C at_427 rfl 429 rfl ?_
  exact z_ireturn C (by simp) rfl at_429 (by decide) (by decide) rfl
set_option maxHeartbeats 2000000 in
theorem z_c30_62 (l : Launch) {Z : State} {a0 : Array Value} (hw : ∀ d ∈ tables_1, d.before a0 Z = true) {n0 : Nat} {h : Heap} {a_DEF a_ONE a_NONE : Nat} (S : z_St Z a_DEF a_ONE a_NONE) (z0 : n0 ≤ h.size) (old : Old Z n0 h) (y0 : Int32) (p0 : Nat) (p1 : Nat) (p2 : Nat) (p3 : Nat) (p4 : Nat) (p5 : Nat) (p6 : Nat) (p7 : Nat) (p8 : Nat) (p9 : Nat) (p10 : Nat) (o_p0 : z_Ob Z h p0 "com/example/variegate/variegate/service/Propagation" z_lay3 [(.int (3 : Int32)), (.ref p1), (.ref p2), (.ref p3), (.ref p4), (.ref p5), (.ref p6), (.ref p7), (.ref p8), (.ref p9), (.ref p10), (.int (1 : Int32)), (.int (0 : Int32)), (.int (0 : Int32))]) (g_p0 : n0 ≤ p0) (rq0 : ¬ y0 < (1 : Int32)) :
    z_Met l Z (⟨"com/example/variegate/variegate/service/Propagation", "backtrack", "(I)V"⟩ : MethodName) prog_97_method_11_code 3 none [] ({ frames := 0, cells := 0, slots := 0, locals := 0 } : Room) n0 #[(.ref p0), (.int y0)] h (z_nov fun h' => Keep h h' [p0] ∧ z_Ob Z h' p0 "com/example/variegate/variegate/service/Propagation" z_lay3 [(.int (3 : Int32)), (.ref p1), (.ref p2), (.ref p3), (.ref p4), (.ref p5), (.ref p6), (.ref p7), (.ref p8), (.ref p9), (.ref p10), (.int (1 : Int32)), (.int y0), (.int (0 : Int32))]) := by
  refine z_met (Ls := #[.val (.ref p0), .val (.int y0), .unset]) (by first | exact plainFor_of_name (by first | (simp [plainName, overriddenIn]; done) | decide +kernel) | decide +kernel) rfl ?_
  intro p e s m below meth c C
  refine z_aloadN C z_d30_0 rfl rfl 1 rfl ?_
  refine z_getO C (z_w hw 250 rfl) Via.refl o_p0 11 rfl rfl z_d30_1 4 rfl ?_
  refine z_iloadN C z_d30_4 rfl 5 rfl ?_
  refine z_icmpY C z_d30_5 (flt rq0).2.2.2 (by decide) 44 (by decide) ?_
  refine z_aloadN C z_d30_44 rfl rfl 45 rfl ?_
  refine z_iloadN C z_d30_45 rfl 46 rfl ?_
  refine z_putO C (z_w hw 252 rfl) Via.refl o_p0 (z_lay3_ok hw) 12 rfl (vs' := [(.int (3 : Int32)), (.ref p1), (.ref p2), (.ref p3), (.ref p4), (.ref p5), (.ref p6), (.ref p7), (.ref p8), (.ref p9), (.ref p10), (.int (1 : Int32)), (.int y0), (.int (0 : Int32))]) rfl (Or.inl (z_w hw 253 rfl)) (z_w hw 116 rfl) (ty := .int) (by decide) (by first | rfl | decide) (by first | rfl | decide) g_p0 z_d30_46 49 rfl ?_
  intro h1 W1 o_p0_1
  have s1 : h1.size = h.size := W1.size
  have k1 : Keep h h1 [p0] := (Keep.refl h [p0]).wr W1 (Or.inl (by simp))
  exact z_return C z_d30_49 (by decide) (by decide) ⟨rfl, k1, o_p0_1⟩
set_option maxHeartbeats 2000000 in
theorem z_c31_63 (l : Launch) {Z : State} {a0 : Array Value} (hw : ∀ d ∈ tables_1, d.before a0 Z = true) {n0 : Nat} {h : Heap} {a_DEF a_ONE a_NONE : Nat} (S : z_St Z a_DEF a_ONE a_NONE) (z0 : n0 ≤ h.size) (old : Old Z n0 h) (y0 : Int32) (rq0 : ¬ y0 < (1 : Int32)) :
    z_Met l Z (⟨"java/lang/Math", "min", "(II)I"⟩ : MethodName) jdk_29_method_69_code 2 (some .int) [] ({ frames := 0, cells := 0, slots := 0, locals := 0 } : Room) n0 #[(.int (1 : Int32)), (.int y0)] h (z_pure (.int (1 : Int32)) h) := by
  refine z_met (Ls := #[.val (.int (1 : Int32)), .val (.int y0)]) (by first | exact plainFor_of_name (by first | (simp [plainName, overriddenIn]; done) | decide +kernel) | decide +kernel) rfl ?_
  intro p e s m below meth c C
  refine z_iloadN C z_d31_0 rfl 1 rfl ?_
  refine z_iloadN C z_d31_1 rfl 2 rfl ?_
  refine z_icmpN C z_d31_2 (flt rq0).2.2.1 5 rfl ?_
  refine z_iloadN C z_d31_5 rfl 6 rfl ?_
  refine z_goto C z_d31_6 (by decide) 10 (by decide) ?_
  exact z_ireturn C (Or.inl rfl) rfl z_d31_10 (by decide) (by decide) ⟨rfl, rfl⟩
set_option maxHeartbeats 2000000 in
theorem z_c32_64 (l : Launch) {Z : State} {a0 : Array Value} (hw : ∀ d ∈ tables_1, d.before a0 Z = true) {n0 : Nat} {h : Heap} {a_DEF a_ONE a_NONE : Nat} (S : z_St Z a_DEF a_ONE a_NONE) (z0 : n0 ≤ h.size) (old : Old Z n0 h) (y0 : Int32) (p0 : Nat) (p1 : Nat) (p2 : Nat) (p3 : Nat) (p4 : Nat) (p5 : Nat) (p6 : Nat) (p7 : Nat) (p8 : Nat) (p9 : Nat) (p10 : Nat) (o_p0 : z_Ob Z h p0 "com/example/variegate/variegate/service/Propagation" z_lay3 [(.int (3 : Int32)), (.ref p1), (.ref p2), (.ref p3), (.ref p4), (.ref p5), (.ref p6), (.ref p7), (.ref p8), (.ref p9), (.ref p10), (.int (1 : Int32)), (.int y0), (.int (0 : Int32))]) :
    z_Met l Z (⟨"com/example/variegate/variegate/service/Propagation", "trailSize", "()I"⟩ : MethodName) prog_97_method_6_code 1 (some .int) [] ({ frames := 0, cells := 0, slots := 0, locals := 0 } : Room) n0 #[(.ref p0)] h (z_pure (.int (1 : Int32)) h) := by
  refine z_met (Ls := #[.val (.ref p0)]) (by first | exact plainFor_of_name (by first | (simp [plainName, overriddenIn]; done) | decide +kernel) | decide +kernel) rfl ?_
  intro p e s m below meth c C
  refine z_aloadN C z_d32_0 rfl rfl 1 rfl ?_
  refine z_getO C (z_w hw 250 rfl) Via.refl o_p0 11 rfl rfl z_d32_1 4 rfl ?_
  exact z_ireturn C (Or.inl rfl) rfl z_d32_4 (by decide) (by decide) ⟨rfl, rfl⟩
set_option maxHeartbeats 2000000 in
theorem z_c33_65 (l : Launch) {Z : State} {a0 : Array Value} (hw : ∀ d ∈ tables_1, d.before a0 Z = true) {n0 : Nat} {h : Heap} {a_DEF a_ONE a_NONE : Nat} (S : z_St Z a_DEF a_ONE a_NONE) (z0 : n0 ≤ h.size) (old : Old Z n0 h) (y0 : Int32) (y1 : Int32) (va0 : List Value) (p0 : Nat) (p1 : Nat) (p2 : Nat) (p3 : Nat) (p4 : Nat) (p5 : Nat) (p6 : Nat) (p7 : Nat) (p8 : Nat) (p9 : Nat) (p10 : Nat) (o_p0 : z_Ob Z h p0 "com/example/variegate/variegate/service/Propagation" z_lay3 [(.int (3 : Int32)), (.ref p1), (.ref p2), (.ref p3), (.ref p4), (.ref p5), (.ref p6), (.ref p7), (.ref p8), (.ref p9), (.ref p10), (.int (1 : Int32)), (.int y1), (.int (0 : Int32))]) (o_p2 : z_Ar Z h p2 .byte "[B" "" va0) (rq0 : ¬ y0 < 0) (rq1 : (va0)[(y0).toNatClampNeg]? = some (.int (1 : Int32))) (rq2 : ¬ (y0 ^^^ (1 : Int32)) < 0) (rq3 : (va0)[((y0 ^^^ (1 : Int32))).toNatClampNeg]? = some (.int (-1 : Int32))) :
    z_Met l Z (⟨"com/example/variegate/variegate/service/PropagationBacktrackPinLaw", "check", "(Lcom/example/variegate/variegate/service/Propagation;IZ)Z"⟩ : MethodName) method_2_code 5 (some .boolean) [] ({ frames := 0, cells := 0, slots := 0, locals := 0 } : Room) n0 #[(.ref p0), (.int y0), (.int (1 : Int32))] h (z_pure (.int (1 : Int32)) h) := by
  refine z_met (Ls := #[.val (.ref p0), .val (.int y0), .val (.int (1 : Int32)), .unset, .unset]) (by first | exact plainFor_of_name (by first | (simp [plainName, overriddenIn]; done) | decide +kernel) | decide +kernel) rfl ?_
  intro p e s m below meth c C
  refine z_iloadN C z_d33_0 rfl 1 rfl ?_
  refine z_ifN C z_d33_1 (by decide) 4 rfl ?_
  refine z_iconst C (v := (1 : Int32)) z_d33_4 (by decide) 5 rfl ?_
  refine z_goto C z_d33_5 (by decide) 9 (by decide) ?_
  refine z_istoreN C (Ls' := #[.val (.ref p0), .val (.int y0), .val (.int (1 : Int32)), .val (.int (1 : Int32)), .unset]) z_d33_9 rfl 10 rfl ?_
  refine z_iloadN C z_d33_10 rfl 11 rfl ?_
  refine z_ifN C z_d33_11 (by decide) 14 rfl ?_
  refine z_iconst C (v := (-1 : Int32)) z_d33_14 (by decide) 15 rfl ?_
  refine z_goto C z_d33_15 (by decide) 19 (by decide) ?_
  refine z_istore C (Ls' := #[.val (.ref p0), .val (.int y0), .val (.int (1 : Int32)), .val (.int (1 : Int32)), .val (.int (-1 : Int32))]) z_d33_19 rfl 21 rfl ?_
  refine z_aloadN C z_d33_21 rfl rfl 22 rfl ?_
  refine z_getO C (z_w hw 266 rfl) Via.refl o_p0 2 rfl rfl z_d33_22 25 rfl ?_
  refine z_iloadN C z_d33_25 rfl 26 rfl ?_
  refine z_baload C o_p2 rq0 rq1 z_d33_26 27 rfl ?_
  refine z_iloadN C z_d33_27 rfl 28 rfl ?_
  refine z_icmpN C z_d33_28 (by decide) 31 rfl ?_
  refine z_aloadN C z_d33_31 rfl rfl 32 rfl ?_
  refine z_getO C (z_w hw 266 rfl) Via.refl o_p0 2 rfl rfl z_d33_32 35 rfl ?_
  refine z_iloadN C z_d33_35 rfl 36 rfl ?_
  refine z_iconst C (v := (1 : Int32)) z_d33_36 (by decide) 37 rfl ?_
  refine z_ixor C z_d33_37 rfl 38 rfl ?_
  refine z_baload C o_p2 rq2 rq3 z_d33_38 39 rfl ?_
  refine z_iload C z_d33_39 rfl 41 rfl ?_
  refine z_icmpN C z_d33_41 (by decide) 44 rfl ?_
  refine z_iconst C (v := (1 : Int32)) z_d33_44 (by decide) 45 rfl ?_
  refine z_goto C z_d33_45 (by decide) 49 (by decide) ?_
  exact z_ireturn C (by simp) rfl z_d33_49 (by decide) (by decide) ⟨rfl, rfl⟩
set_option maxHeartbeats 2000000 in
theorem z_c33_66 (l : Launch) {Z : State} {a0 : Array Value} (hw : ∀ d ∈ tables_1, d.before a0 Z = true) {n0 : Nat} {h : Heap} {a_DEF a_ONE a_NONE : Nat} (S : z_St Z a_DEF a_ONE a_NONE) (z0 : n0 ≤ h.size) (old : Old Z n0 h) (y0 : Int32) (y1 : Int32) (va0 : List Value) (p0 : Nat) (p1 : Nat) (p2 : Nat) (p3 : Nat) (p4 : Nat) (p5 : Nat) (p6 : Nat) (p7 : Nat) (p8 : Nat) (p9 : Nat) (p10 : Nat) (o_p0 : z_Ob Z h p0 "com/example/variegate/variegate/service/Propagation" z_lay3 [(.int (3 : Int32)), (.ref p1), (.ref p2), (.ref p3), (.ref p4), (.ref p5), (.ref p6), (.ref p7), (.ref p8), (.ref p9), (.ref p10), (.int (1 : Int32)), (.int y1), (.int (0 : Int32))]) (o_p2 : z_Ar Z h p2 .byte "[B" "" va0) (rq0 : ¬ y0 < 0) (rq1 : (va0)[(y0).toNatClampNeg]? = some (.int (0 : Int32))) (rq2 : ¬ (y0 ^^^ (1 : Int32)) < 0) (rq3 : (va0)[((y0 ^^^ (1 : Int32))).toNatClampNeg]? = some (.int (0 : Int32))) :
    z_Met l Z (⟨"com/example/variegate/variegate/service/PropagationBacktrackPinLaw", "check", "(Lcom/example/variegate/variegate/service/Propagation;IZ)Z"⟩ : MethodName) method_2_code 5 (some .boolean) [] ({ frames := 0, cells := 0, slots := 0, locals := 0 } : Room) n0 #[(.ref p0), (.int y0), (.int (0 : Int32))] h (z_pure (.int (1 : Int32)) h) := by
  refine z_met (Ls := #[.val (.ref p0), .val (.int y0), .val (.int (0 : Int32)), .unset, .unset]) (by first | exact plainFor_of_name (by first | (simp [plainName, overriddenIn]; done) | decide +kernel) | decide +kernel) rfl ?_
  intro p e s m below meth c C
  refine z_iloadN C z_d33_0 rfl 1 rfl ?_
  refine z_ifY C z_d33_1 (by decide) (by decide) 8 (by decide) ?_
  refine z_iconst C (v := (0 : Int32)) z_d33_8 (by decide) 9 rfl ?_
  refine z_istoreN C (Ls' := #[.val (.ref p0), .val (.int y0), .val (.int (0 : Int32)), .val (.int (0 : Int32)), .unset]) z_d33_9 rfl 10 rfl ?_
  refine z_iloadN C z_d33_10 rfl 11 rfl ?_
  refine z_ifY C z_d33_11 (by decide) (by decide) 18 (by decide) ?_
  refine z_iconst C (v := (0 : Int32)) z_d33_18 (by decide) 19 rfl ?_
  refine z_istore C (Ls' := #[.val (.ref p0), .val (.int y0), .val (.int (0 : Int32)), .val (.int (0 : Int32)), .val (.int (0 : Int32))]) z_d33_19 rfl 21 rfl ?_
  refine z_aloadN C z_d33_21 rfl rfl 22 rfl ?_
  refine z_getO C (z_w hw 266 rfl) Via.refl o_p0 2 rfl rfl z_d33_22 25 rfl ?_
  refine z_iloadN C z_d33_25 rfl 26 rfl ?_
  refine z_baload C o_p2 rq0 rq1 z_d33_26 27 rfl ?_
  refine z_iloadN C z_d33_27 rfl 28 rfl ?_
  refine z_icmpN C z_d33_28 (by decide) 31 rfl ?_
  refine z_aloadN C z_d33_31 rfl rfl 32 rfl ?_
  refine z_getO C (z_w hw 266 rfl) Via.refl o_p0 2 rfl rfl z_d33_32 35 rfl ?_
  refine z_iloadN C z_d33_35 rfl 36 rfl ?_
  refine z_iconst C (v := (1 : Int32)) z_d33_36 (by decide) 37 rfl ?_
  refine z_ixor C z_d33_37 rfl 38 rfl ?_
  refine z_baload C o_p2 rq2 rq3 z_d33_38 39 rfl ?_
  refine z_iload C z_d33_39 rfl 41 rfl ?_
  refine z_icmpN C z_d33_41 (by decide) 44 rfl ?_
  refine z_iconst C (v := (1 : Int32)) z_d33_44 (by decide) 45 rfl ?_
  refine z_goto C z_d33_45 (by decide) 49 (by decide) ?_
  exact z_ireturn C (by simp) rfl z_d33_49 (by decide) (by decide) ⟨rfl, rfl⟩
set_option maxHeartbeats 8000000 in
theorem z_seg67 (l : Launch) {Z : State} {a0 : Array Value} (hw : ∀ d ∈ tables_1, d.before a0 Z = true) {n0 : Nat} {h : Heap} {a_DEF a_ONE a_NONE : Nat} (S : z_St Z a_DEF a_ONE a_NONE) (z0 : n0 ≤ h.size) (old : Old Z n0 h) (y0 : Int32) (y1 : Int32) (y2 : Int32) (y3 : Int32) (y4 : Int32) (y5 : Int32) (y6 : Int32) (y7 : Int32) (y8 : Int32) (y9 : Int32) (y10 : Int32) (y11 : Int32) (y12 : Int32) (p0 : Nat) (p1 : Nat) (p2 : Nat) (p3 : Nat) (p4 : Nat) (p5 : Nat) (p6 : Nat) (p7 : Nat) (p8 : Nat) (p9 : Nat) (p10 : Nat) (p11 : Nat) (o_p1 : z_Ob Z h p1 "com/example/variegate/variegate/service/Propagation" z_lay3 [(.int (3 : Int32)), (.ref p2), (.ref p3), (.ref p4), (.ref p5), (.ref p6), (.ref p7), (.ref p8), (.ref p9), (.ref p10), (.ref p11), (.int (0 : Int32)), (.int (0 : Int32)), (.int (0 : Int32))]) (o_p3 : z_Ar Z h p3 .byte "[B" "" z_z8) (o_p4 : z_Ar Z h p4 .int "[I" "" [(.int (0 : Int32)), (.int (0 : Int32)), (.int (0 : Int32)), (.int (0 : Int32))]) (ne_p1_p3 : p1 ≠ p3) (ne_p3_p4 : p3 ≠ p4) (ne_p1_p4 : p1 ≠ p4) (g_p3 : n0 ≤ p3) (g_p1 : n0 ≤ p1) (g_p4 : n0 ≤ p4) (TT : z_R1_1 y10 y11 y12) (hn : (y0 &&& (3 : Int32)) = (1 : Int32)) (hm : ¬ (y2 &&& (7 : Int32)) < (1 : Int32)) {p : Program} {e : Env} {s : State} {m : MethodId} {args : Array Value} {below : List Frame} {meth : Method} {c : Code} (C : z_Cx Z p s m meth c x.cls code maxLocals ret x.name) :
    z_At p l e room_1 s m args below meth c n0 (fun v _ => v = some (.int 1)) h 27 131 (mkF m 139 #[.val (.int y0), .val (.int y1), .val (.int y2), .val (.int y3), .val (.ref p0), .val (.ref p1), .val (.int y4), .val (.int y5), .val (.int y6), .val (.int y7), .val (.int y8), .val (.int y9), .val (.int y10), .val (.int y11), .val (.int y12), .unset, .unset, .unset, .unset, .unset, .unset, .unset] []) := by
  refine z_iloadN C at_139 rfl 140 rfl ?_
  refine z_iconst C (v := (3 : Int32)) at_140 (by decide) 141 rfl ?_
  refine z_iand C (z := (1 : Int32)) at_141 hn 142 rfl ?_
  refine z_istore C (Ls' := #[.val (.int y0), .val (.int y1), .val (.int y2), .val (.int y3), .val (.ref p0), .val (.ref p1), .val (.int y4), .val (.int y5), .val (.int y6), .val (.int y7), .val (.int y8), .val (.int y9), .val (.int y10), .val (.int y11), .val (.int y12), .val (.int (1 : Int32)), .unset, .unset, .unset, .unset, .unset, .unset]) at_142 rfl 144 rfl ?_
  refine z_iload C at_144 rfl 146 rfl ?_
  refine z_ifN C at_146 (by decide) 149 rfl ?_
  refine z_aload C at_149 rfl rfl 151 rfl ?_
  refine z_iload C at_151 rfl 153 rfl ?_
  refine z_callVV C o_p1.1 (z_c34_56 l hw S (by omega) old y10 (z_z8) p1 p2 p3 p4 p5 p6 p7 p8 p9 p10 p11 o_p1 o_p3 o_p4 ne_p1_p3 ne_p3_p4 ne_p1_p4 g_p3 g_p1 g_p4 TT.1 TT.2.1 TT.2.2.1 TT.2.2.2.1) (z_w hw 267 rfl) (z_w hw 268 rfl) (z_w hw 270 rfl) (z_w hw 269 rfl) (z_w hw 117 rfl) (z_w hw 271 rfl) (by decide) at_153 rfl (argsL := [(.int y10)]) (rest := []) rfl (lenOf z_pd2 rfl) (W := 0) (Nat.le_of_eq rfl) (by decide) (by decide) (by decide) (by decide) 156 rfl ?_
  rintro h1 ⟨K1, o_p1_1, o_p3_1, o_p4_1⟩
  have s1 : h.size ≤ h1.size := K1.1
  refine z_iload C at_156 rfl 158 rfl ?_
  refine z_iconst C (v := (1 : Int32)) at_158 (by decide) 159 rfl ?_
  refine z_icmpY C at_159 (by decide) (by decide) 169 (by decide) ?_
  refine z_iload C at_169 rfl 171 rfl ?_
  refine z_iconst C (v := (2 : Int32)) at_171 (by decide) 172 rfl ?_
  refine z_icmpY C at_172 (by decide) (by decide) 182 (by decide) ?_
  refine z_iloadN C at_182 rfl 183 rfl ?_
  refine z_bipush C (v := (7 : Int32)) at_183 (by decide) 185 rfl ?_
  refine z_iand C at_185 rfl 186 rfl ?_
  refine z_istore C (Ls' := #[.val (.int y0), .val (.int y1), .val (.int y2), .val (.int y3), .val (.ref p0), .val (.ref p1), .val (.int y4), .val (.int y5), .val (.int y6), .val (.int y7), .val (.int y8), .val (.int y9), .val (.int y10), .val (.int y11), .val (.int y12), .val (.int (1 : Int32)), .val (.int (y2 &&& (7 : Int32))), .unset, .unset, .unset, .unset, .unset]) at_186 rfl 188 rfl ?_
  refine z_aload C at_188 rfl rfl 190 rfl ?_
  refine z_iload C at_190 rfl 192 rfl ?_
  have old1 := (old.keep K1 (allS g_p3 (allS g_p1 (allS g_p4 all0))))
  refine z_callVV C o_p1_1.1 (z_c30_62 l hw S (by omega) old1 (y2 &&& (7 : Int32)) p1 p2 p3 p4 p5 p6 p7 p8 p9 p10 p11 o_p1_1 g_p1 hm) (z_w hw 245 rfl) (z_w hw 246 rfl) (z_w hw 248 rfl) (z_w hw 247 rfl) (z_w hw 117 rfl) (z_w hw 249 rfl) (by decide) at_192 rfl (argsL := [(.int (y2 &&& (7 : Int32)))]) (rest := []) rfl (lenOf z_pd2 rfl) (W := 0) (Nat.le_of_eq rfl) (by decide) (by decide) (by decide) (by decide) 195 rfl ?_
  rintro h2 ⟨K2, o_p1_2⟩
  have s2 : h1.size ≤ h2.size := K2.1
  refine z_iload C at_195 rfl 197 rfl ?_
  refine z_iload C at_197 rfl 199 rfl ?_
  have old2 := (old1.keep K2 (allS g_p1 all0))
  refine z_callSp C (z_c31_63 l hw S (by omega) old2 (y2 &&& (7 : Int32)) hm) (z_w hw 254 rfl) (z_w hw 255 rfl) (z_w hw 102 rfl) (z_w hw 256 rfl) (by decide) at_199 rfl (argsL := [(.int (1 : Int32)), (.int (y2 &&& (7 : Int32)))]) (rest := []) rfl (lenOf z_pd3 rfl) (W := 0) (Nat.le_of_eq rfl) (by decide) (by decide) (by decide) (by decide) (by decide) (by decide) 202 rfl ?_
  refine z_istore C (Ls' := #[.val (.int y0), .val (.int y1), .val (.int y2), .val (.int y3), .val (.ref p0), .val (.ref p1), .val (.int y4), .val (.int y5), .val (.int y6), .val (.int y7), .val (.int y8), .val (.int y9), .val (.int y10), .val (.int y11), .val (.int y12), .val (.int (1 : Int32)), .val (.int (y2 &&& (7 : Int32))), .val (.int (1 : Int32)), .unset, .unset, .unset, .unset]) at_202 rfl 204 rfl ?_
  refine z_iconst C (v := (0 : Int32)) at_204 (by decide) 205 rfl ?_
  refine z_iload C at_205 rfl 207 rfl ?_
  refine z_icmpN C at_207 (by decide) 210 rfl ?_
  refine z_iconst C (v := (1 : Int32)) at_210 (by decide) 211 rfl ?_
  refine z_goto C at_211 (by decide) 215 (by decide) ?_
  refine z_istore C (Ls' := #[.val (.int y0), .val (.int y1), .val (.int y2), .val (.int y3), .val (.ref p0), .val (.ref p1), .val (.int y4), .val (.int y5), .val (.int y6), .val (.int y7), .val (.int y8), .val (.int y9), .val (.int y10), .val (.int y11), .val (.int y12), .val (.int (1 : Int32)), .val (.int (y2 &&& (7 : Int32))), .val (.int (1 : Int32)), .val (.int (1 : Int32)), .unset, .unset, .unset]) at_215 rfl 217 rfl ?_
  refine z_iconst C (v := (1 : Int32)) at_217 (by decide) 218 rfl ?_
  refine z_iload C at_218 rfl 220 rfl ?_
  refine z_icmpY C at_220 (by decide) (by decide) 227 (by decide) ?_
  refine z_iconst C (v := (0 : Int32)) at_227 (by decide) 228 rfl ?_
  refine z_istore C (Ls' := #[.val (.int y0), .val (.int y1), .val (.int y2), .val (.int y3), .val (.ref p0), .val (.ref p1), .val (.int y4), .val (.int y5), .val (.int y6), .val (.int y7), .val (.int y8), .val (.int y9), .val (.int y10), .val (.int y11), .val (.int y12), .val (.int (1 : Int32)), .val (.int (y2 &&& (7 : Int32))), .val (.int (1 : Int32)), .val (.int (1 : Int32)), .val (.int (0 : Int32)), .unset, .unset]) at_228 rfl 230 rfl ?_
  refine z_iconst C (v := (2 : Int32)) at_230 (by decide) 231 rfl ?_
  refine z_iload C at_231 rfl 233 rfl ?_
  refine z_icmpY C at_233 (by decide) (by decide) 240 (by decide) ?_
  refine z_iconst C (v := (0 : Int32)) at_240 (by decide) 241 rfl ?_
  refine z_istore C (Ls' := #[.val (.int y0), .val (.int y1), .val (.int y2), .val (.int y3), .val (.ref p0), .val (.ref p1), .val (.int y4), .val (.int y5), .val (.int y6), .val (.int y7), .val (.int y8), .val (.int y9), .val (.int y10), .val (.int y11), .val (.int y12), .val (.int (1 : Int32)), .val (.int (y2 &&& (7 : Int32))), .val (.int (1 : Int32)), .val (.int (1 : Int32)), .val (.int (0 : Int32)), .val (.int (0 : Int32)), .unset]) at_241 rfl 243 rfl ?_
  refine z_aload C at_243 rfl rfl 245 rfl ?_
  refine z_callVp C o_p1_2.1 (z_c32_64 l hw S (by omega) old2 (y2 &&& (7 : Int32)) p1 p2 p3 p4 p5 p6 p7 p8 p9 p10 p11 o_p1_2) (z_w hw 257 rfl) (z_w hw 258 rfl) (z_w hw 260 rfl) (z_w hw 259 rfl) (z_w hw 117 rfl) (z_w hw 261 rfl) (by decide) at_245 rfl (argsL := []) (rest := []) rfl (lenOf z_pd8 rfl) (W := 0) (Nat.le_of_eq rfl) (by decide) (by decide) (by decide) (by decide) (by decide) (by decide) 248 rfl ?_
  refine z_iload C at_248 rfl 250 rfl ?_
  refine z_icmpN C at_250 (by decide) 253 rfl ?_
  refine z_iconst C (v := (1 : Int32)) at_253 (by decide) 254 rfl ?_
  refine z_goto C at_254 (by decide) 258 (by decide) ?_
  refine z_istore C (Ls' := #[.val (.int y0), .val (.int y1), .val (.int y2), .val (.int y3), .val (.ref p0), .val (.ref p1), .val (.int y4), .val (.int y5), .val (.int y6), .val (.int y7), .val (.int y8), .val (.int y9), .val (.int y10), .val (.int y11), .val (.int y12), .val (.int (1 : Int32)), .val (.int (y2 &&& (7 : Int32))), .val (.int (1 : Int32)), .val (.int (1 : Int32)), .val (.int (0 : Int32)), .val (.int (0 : Int32)), .val (.int (1 : Int32))]) at_258 rfl 260 rfl ?_
  refine z_iload C at_260 rfl 262 rfl ?_
  refine z_ifN C at_262 (by decide) 265 rfl ?_
  refine z_aload C at_265 rfl rfl 267 rfl ?_
  refine z_iload C at_267 rfl 269 rfl ?_
  refine z_iload C at_269 rfl 271 rfl ?_
  have o_p3_2 := (o_p3_1.keep K2 (ninS (Ne.symm ne_p1_p3) nin0))
  refine z_callSp C (z_c33_65 l hw S (by omega) old2 y10 (y2 &&& (7 : Int32)) ((List.set ((List.set ((z_z8)) (y10).toNatClampNeg (.int (1 : Int32)))) ((y10 ^^^ (1 : Int32))).toNatClampNeg (.int (-1 : Int32)))) p1 p2 p3 p4 p5 p6 p7 p8 p9 p10 p11 o_p1_2 o_p3_2 TT.1 TT.2.2.2.2.1 TT.2.2.1 TT.2.2.2.2.2.1) (z_w hw 262 rfl) (z_w hw 263 rfl) (z_w hw 264 rfl) (z_w hw 265 rfl) (by decide) at_271 rfl (argsL := [(.ref p1), (.int y10), (.int (1 : Int32))]) (rest := []) rfl (lenOf z_pd19 rfl) (W := 0) (Nat.le_of_eq rfl) (by decide) (by decide) (by decide) (by decide) (by decide) (by decide) 274 rfl ?_
  refine z_ifN C at_274 (by decide) 277 rfl ?_
  refine z_aload C at_277 rfl rfl 279 rfl ?_
  refine z_iload C at_279 rfl 281 rfl ?_
  refine z_iload C at_281 rfl 283 rfl ?_
  refine z_callSp C (z_c33_66 l hw S (by omega) old2 y11 (y2 &&& (7 : Int32)) ((List.set ((List.set ((z_z8)) (y10).toNatClampNeg (.int (1 : Int32)))) ((y10 ^^^ (1 : Int32))).toNatClampNeg (.int (-1 : Int32)))) p1 p2 p3 p4 p5 p6 p7 p8 p9 p10 p11 o_p1_2 o_p3_2 TT.2.2.2.2.2.2.1 TT.2.2.2.2.2.2.2.1 TT.2.2.2.2.2.2.2.2.1 TT.2.2.2.2.2.2.2.2.2.1) (z_w hw 262 rfl) (z_w hw 263 rfl) (z_w hw 264 rfl) (z_w hw 265 rfl) (by decide) at_283 rfl (argsL := [(.ref p1), (.int y11), (.int (0 : Int32))]) (rest := []) rfl (lenOf z_pd19 rfl) (W := 0) (Nat.le_of_eq rfl) (by decide) (by decide) (by decide) (by decide) (by decide) (by decide) 286 rfl ?_
  refine z_ifN C at_286 (by decide) 289 rfl ?_
  refine z_aload C at_289 rfl rfl 291 rfl ?_
  refine z_iload C at_291 rfl 293 rfl ?_
  refine z_iload C at_293 rfl 295 rfl ?_
  refine z_callSp C (z_c33_66 l hw S (by omega) old2 y12 (y2 &&& (7 : Int32)) ((List.set ((List.set ((z_z8)) (y10).toNatClampNeg (.int (1 : Int32)))) ((y10 ^^^ (1 : Int32))).toNatClampNeg (.int (-1 : Int32)))) p1 p2 p3 p4 p5 p6 p7 p8 p9 p10 p11 o_p1_2 o_p3_2 TT.2.2.2.2.2.2.2.2.2.2.1 TT.2.2.2.2.2.2.2.2.2.2.2.1 TT.2.2.2.2.2.2.2.2.2.2.2.2.1 TT.2.2.2.2.2.2.2.2.2.2.2.2.2.1) (z_w hw 262 rfl) (z_w hw 263 rfl) (z_w hw 264 rfl) (z_w hw 265 rfl) (by decide) at_295 rfl (argsL := [(.ref p1), (.int y12), (.int (0 : Int32))]) (rest := []) rfl (lenOf z_pd19 rfl) (W := 0) (Nat.le_of_eq rfl) (by decide) (by decide) (by decide) (by decide) (by decide) (by decide) 298 rfl ?_
  refine z_ifN C at_298 (by decide) 301 rfl ?_
  refine z_iconst C (v := (1 : Int32)) at_301 (by decide) 302 rfl ?_
  refine z_goto C at_302 (by decide) 306 (by decide) ?_
  refine z_istore C (Ls' := #[.val (.int y0), .val (.int y1), .val (.int y2), .val (.int y3), .val (.ref p0), .val (.ref p1), .val (.int y4), .val (.int y5), .val (.int y6), .val (.int y7), .val (.int y8), .val (.int y9), .val (.int y10), .val (.int y11), .val (.int y12), .val (.int (1 : Int32)), .val (.int (y2 &&& (7 : Int32))), .val (.int (1 : Int32)), .val (.int (1 : Int32)), .val (.int (0 : Int32)), .val (.int (0 : Int32)), .val (.int (1 : Int32))]) at_306 rfl 308 rfl ?_
  refine z_iload C at_308 rfl 310 rfl ?_
  refine z_ifN C at_310 (by decide) 313 rfl ?_
  refine z_aload C at_313 rfl rfl 315 rfl ?_
  refine z_getO C (z_w hw 266 rfl) Via.refl o_p1_2 2 rfl rfl at_315 318 rfl ?_
  refine z_iconst C (v := (0 : Int32)) at_318 (by decide) 319 rfl ?_
  refine z_baload C o_p3_2 (by decide) TT.2.2.2.2.2.2.2.2.2.2.2.2.2.2.1 at_319 320 rfl ?_
  refine z_ifN C at_320 (by decide) 323 rfl ?_
  refine z_aload C at_323 rfl rfl 325 rfl ?_
  refine z_getO C (z_w hw 266 rfl) Via.refl o_p1_2 2 rfl rfl at_325 328 rfl ?_
  refine z_iconst C (v := (1 : Int32)) at_328 (by decide) 329 rfl ?_
  refine z_baload C o_p3_2 (by decide) TT.2.2.2.2.2.2.2.2.2.2.2.2.2.2.2 at_329 330 rfl ?_
  refine z_ifN C at_330 (by decide) 333 rfl ?_
  refine z_iconst C (v := (1 : Int32)) at_333 (by decide) 334 rfl ?_
  refine z_goto C at_334 (by decide) 338 (by decide) ?_
  refine z_istore C (Ls' := #[.val (.int y0), .val (.int y1), .val (.int y2), .val (.int y3), .val (.ref p0), .val (.ref p1), .val (.int y4), .val (.int y5), .val (.int y6), .val (.int y7), .val (.int y8), .val (.int y9), .val (.int y10), .val (.int y11), .val (.int y12), .val (.int (1 : Int32)), .val (.int (y2 &&& (7 : Int32))), .val (.int (1 : Int32)), .val (.int (1 : Int32)), .val (.int (0 : Int32)), .val (.int (0 : Int32)), .val (.int (1 : Int32))]) at_338 rfl 340 rfl ?_
  refine z_iload C at_340 rfl 342 rfl ?_
  refine z_ifN C at_342 (by decide) 345 rfl ?_
  refine z_iload C at_345 rfl 347 rfl ?_
  refine z_ifN C at_347 (by decide) 350 rfl ?_
  refine z_aload C at_350 rfl rfl 352 rfl ?_
  refine z_getO C (z_w hw 272 rfl) Via.refl o_p1_2 3 rfl rfl at_352 355 rfl ?_
  refine z_iconst C (v := (0 : Int32)) at_355 (by decide) 356 rfl ?_
  have o_p4_2 := (o_p4_1.keep K2 (ninS (Ne.symm ne_p1_p4) nin0))
  refine z_iaload C o_p4_2 (by decide) (v := (.int y10)) (by rfl) at_356 357 rfl ?_
  refine z_iload C at_357 rfl 359 rfl ?_
  refine z_icmpN C at_359 (teq rfl).2 362 rfl ?_
  refine z_iconst C (v := (1 : Int32)) at_362 (by decide) 363 rfl ?_
  refine z_goto C at_363 (by decide) 367 (by decide) ?_
  refine z_istore C (Ls' := #[.val (.int y0), .val (.int y1), .val (.int y2), .val (.int y3), .val (.ref p0), .val (.ref p1), .val (.int y4), .val (.int y5), .val (.int y6), .val (.int y7), .val (.int y8), .val (.int y9), .val (.int y10), .val (.int y11), .val (.int y12), .val (.int (1 : Int32)), .val (.int (y2 &&& (7 : Int32))), .val (.int (1 : Int32)), .val (.int (1 : Int32)), .val (.int (0 : Int32)), .val (.int (0 : Int32)), .val (.int (1 : Int32))]) at_367 rfl 369 rfl ?_
  refine z_iload C at_369 rfl 371 rfl ?_
  refine z_ifY C at_371 (by decide) (by decide) 398 (by decide) ?_
  refine z_iload C at_398 rfl 400 rfl ?_
  refine z_ifY C at_400 (by decide) (by decide) 427 (by decide) ?_
  refine z_iload C at_427 rfl 429 rfl ?_
  exact z_ireturn C (by simp) rfl at_429 (by decide) (by decide) rfl
set_option maxHeartbeats 2000000 in
theorem z_c34_68 (l : Launch) {Z : State} {a0 : Array Value} (hw : ∀ d ∈ tables_1, d.before a0 Z = true) {n0 : Nat} {h : Heap} {a_DEF a_ONE a_NONE : Nat} (S : z_St Z a_DEF a_ONE a_NONE) (z0 : n0 ≤ h.size) (old : Old Z n0 h) (y0 : Int32) (y1 : Int32) (va0 : List Value) (p0 : Nat) (p1 : Nat) (p2 : Nat) (p3 : Nat) (p4 : Nat) (p5 : Nat) (p6 : Nat) (p7 : Nat) (p8 : Nat) (p9 : Nat) (p10 : Nat) (o_p0 : z_Ob Z h p0 "com/example/variegate/variegate/service/Propagation" z_lay3 [(.int (3 : Int32)), (.ref p1), (.ref p2), (.ref p3), (.ref p4), (.ref p5), (.ref p6), (.ref p7), (.ref p8), (.ref p9), (.ref p10), (.int (1 : Int32)), (.int (0 : Int32)), (.int (0 : Int32))]) (o_p2 : z_Ar Z h p2 .byte "[B" "" va0) (o_p3 : z_Ar Z h p3 .int "[I" "" [(.int y1), (.int (0 : Int32)), (.int (0 : Int32)), (.int (0 : Int32))]) (ne_p0_p2 : p0 ≠ p2) (ne_p2_p3 : p2 ≠ p3) (ne_p0_p3 : p0 ≠ p3) (g_p2 : n0 ≤ p2) (g_p0 : n0 ≤ p0) (g_p3 : n0 ≤ p3) (rq0 : ¬ y0 < 0) (rq1 : (y0).toNatClampNeg < (va0).length) (rq2 : ¬ (y0 ^^^ (1 : Int32)) < 0) (rq3 : ((y0 ^^^ (1 : Int32))).toNatClampNeg < ((List.set (va0) (y0).toNatClampNeg (.int (1 : Int32)))).length) :
    z_Met l Z (⟨"com/example/variegate/variegate/service/Propagation", "assign", "(I)V"⟩ : MethodName) prog_97_method_10_code 2 none [] ({ frames := 0, cells := 0, slots := 0, locals := 0 } : Room) n0 #[(.ref p0), (.int y0)] h (z_nov fun h' => Keep h h' [p2, p0, p3] ∧ z_Ob Z h' p0 "com/example/variegate/variegate/service/Propagation" z_lay3 [(.int (3 : Int32)), (.ref p1), (.ref p2), (.ref p3), (.ref p4), (.ref p5), (.ref p6), (.ref p7), (.ref p8), (.ref p9), (.ref p10), (.int (2 : Int32)), (.int (0 : Int32)), (.int (0 : Int32))] ∧ z_Ar Z h' p2 .byte "[B" "" (List.set ((List.set (va0) (y0).toNatClampNeg (.int (1 : Int32)))) ((y0 ^^^ (1 : Int32))).toNatClampNeg (.int (-1 : Int32))) ∧ z_Ar Z h' p3 .int "[I" "" [(.int y1), (.int y0), (.int (0 : Int32)), (.int (0 : Int32))]) := by
  refine z_met (Ls := #[.val (.ref p0), .val (.int y0)]) (by first | exact plainFor_of_name (by first | (simp [plainName, overriddenIn]; done) | decide +kernel) | decide +kernel) rfl ?_
  intro p e s m below meth c C
  refine z_aloadN C z_d34_0 rfl rfl 1 rfl ?_
  refine z_getO C (z_w hw 162 rfl) Via.refl o_p0 2 rfl rfl z_d34_1 4 rfl ?_
  refine z_iloadN C z_d34_4 rfl 5 rfl ?_
  refine z_iconst C (v := (1 : Int32)) z_d34_5 (by decide) 6 rfl ?_
  refine z_bastore C (z := (1 : Int32)) o_p2 rq0 rq1 (by decide) (vs' := (List.set (va0) (y0).toNatClampNeg (.int (1 : Int32)))) rfl g_p2 z_d34_6 7 rfl ?_
  intro h1 W1 o_p2_1
  have s1 : h1.size = h.size := W1.size
  have k1 : Keep h h1 [p2, p0, p3] := (Keep.refl h [p2, p0, p3]).wr W1 (Or.inl (by simp))
  refine z_aloadN C z_d34_7 rfl rfl 8 rfl ?_
  have o_p0_1 := (o_p0.other W1 ne_p0_p2)
  refine z_getO C (z_w hw 162 rfl) Via.refl o_p0_1 2 rfl rfl z_d34_8 11 rfl ?_
  refine z_iloadN C z_d34_11 rfl 12 rfl ?_
  refine z_iconst C (v := (1 : Int32)) z_d34_12 (by decide) 13 rfl ?_
  refine z_ixor C z_d34_13 rfl 14 rfl ?_
  refine z_iconst C (v := (-1 : Int32)) z_d34_14 (by decide) 15 rfl ?_
  refine z_bastore C (z := (-1 : Int32)) o_p2_1 rq2 rq3 (by decide) (vs' := (List.set ((List.set (va0) (y0).toNatClampNeg (.int (1 : Int32)))) ((y0 ^^^ (1 : Int32))).toNatClampNeg (.int (-1 : Int32)))) rfl g_p2 z_d34_15 16 rfl ?_
  intro h2 W2 o_p2_2
  have s2 : h2.size = h1.size := W2.size
  have k2 : Keep h h2 [p2, p0, p3] := k1.wr W2 (Or.inl (by simp))
  refine z_aloadN C z_d34_16 rfl rfl 17 rfl ?_
  have o_p0_2 := (o_p0_1.other W2 ne_p0_p2)
  refine z_getO C (z_w hw 165 rfl) Via.refl o_p0_2 3 rfl rfl z_d34_17 20 rfl ?_
  refine z_aloadN C z_d34_20 rfl rfl 21 rfl ?_
  refine z_dup C z_d34_21 rfl 22 rfl ?_
  refine z_getO C (z_w hw 250 rfl) Via.refl o_p0_2 11 rfl rfl z_d34_22 25 rfl ?_
  refine z_dup_x1 C z_d34_25 rfl rfl 26 rfl ?_
  refine z_iconst C (v := (1 : Int32)) z_d34_26 (by decide) 27 rfl ?_
  refine z_iadd C (z := (2 : Int32)) z_d34_27 (by decide) 28 rfl ?_
  refine z_putO C (z_w hw 250 rfl) Via.refl o_p0_2 (z_lay3_ok hw) 11 rfl (vs' := [(.int (3 : Int32)), (.ref p1), (.ref p2), (.ref p3), (.ref p4), (.ref p5), (.ref p6), (.ref p7), (.ref p8), (.ref p9), (.ref p10), (.int (2 : Int32)), (.int (0 : Int32)), (.int (0 : Int32))]) rfl (Or.inl (z_w hw 251 rfl)) (z_w hw 116 rfl) (ty := .int) (by decide) (by first | rfl | decide) (by first | rfl | decide) g_p0 z_d34_28 31 rfl ?_
  intro h3 W3 o_p0_3
  have s3 : h3.size = h2.size := W3.size
  have k3 : Keep h h3 [p2, p0, p3] := k2.wr W3 (Or.inl (by simp))
  refine z_iloadN C z_d34_31 rfl 32 rfl ?_
  have o_p3_3 := (((o_p3.other W1 (Ne.symm ne_p2_p3)).other W2 (Ne.symm ne_p2_p3)).other W3 (Ne.symm ne_p0_p3))
  refine z_iastore C (z := y0) o_p3_3 (by decide) (of_decide_eq_true rfl) rfl (vs' := [(.int y1), (.int y0), (.int (0 : Int32)), (.int (0 : Int32))]) (by rfl) g_p3 z_d34_32 33 rfl ?_
  intro h4 W4 o_p3_4
  have s4 : h4.size = h3.size := W4.size
  have k4 : Keep h h4 [p2, p0, p3] := k3.wr W4 (Or.inl (by simp))
  have o_p0_4 := (o_p0_3.other W4 ne_p0_p3)
  have o_p2_4 := ((o_p2_2.other W3 (Ne.symm ne_p0_p2)).other W4 ne_p2_p3)
  exact z_return C z_d34_33 (by decide) (by decide) ⟨rfl, k4, o_p0_4, o_p2_4, o_p3_4⟩
set_option maxHeartbeats 2000000 in
theorem z_c30_69 (l : Launch) {Z : State} {a0 : Array Value} (hw : ∀ d ∈ tables_1, d.before a0 Z = true) {n0 : Nat} {h : Heap} {a_DEF a_ONE a_NONE : Nat} (S : z_St Z a_DEF a_ONE a_NONE) (z0 : n0 ≤ h.size) (old : Old Z n0 h) (y0 : Int32) (y1 : Int32) (va0 : List Value) (p0 : Nat) (p1 : Nat) (p2 : Nat) (p3 : Nat) (p4 : Nat) (p5 : Nat) (p6 : Nat) (p7 : Nat) (p8 : Nat) (p9 : Nat) (p10 : Nat) (o_p0 : z_Ob Z h p0 "com/example/variegate/variegate/service/Propagation" z_lay3 [(.int (3 : Int32)), (.ref p1), (.ref p2), (.ref p3), (.ref p4), (.ref p5), (.ref p6), (.ref p7), (.ref p8), (.ref p9), (.ref p10), (.int (2 : Int32)), (.int (0 : Int32)), (.int (0 : Int32))]) (o_p3 : z_Ar Z h p3 .int "[I" "" [(.int y0), (.int y1), (.int (0 : Int32)), (.int (0 : Int32))]) (o_p2 : z_Ar Z h p2 .byte "[B" "" va0) (ne_p0_p3 : p0 ≠ p3) (ne_p0_p2 : p0 ≠ p2) (ne_p2_p3 : p2 ≠ p3) (g_p0 : n0 ≤ p0) (g_p2 : n0 ≤ p2) (rq0 : ¬ y1 < 0) (rq1 : (y1).toNatClampNeg < (va0).length) (rq2 : ¬ (y1 ^^^ (1 : Int32)) < 0) (rq3 : ((y1 ^^^ (1 : Int32))).toNatClampNeg < ((List.set (va0) (y1).toNatClampNeg (.int (0 : Int32)))).length) (rq4 : ¬ y0 < 0) (rq5 : (y0).toNatClampNeg < ((List.set ((List.set (va0) (y1).toNatClampNeg (.int (0 : Int32)))) ((y1 ^^^ (1 : Int32))).toNatClampNeg (.int (0 : Int32)))).length) (rq6 : ¬ (y0 ^^^ (1 : Int32)) < 0) (rq7 : ((y0 ^^^ (1 : Int32))).toNatClampNeg < ((List.set ((List.set ((List.set (va0) (y1).toNatClampNeg (.int (0 : Int32)))) ((y1 ^^^ (1 : Int32))).toNatClampNeg (.int (0 : Int32)))) (y0).toNatClampNeg (.int (0 : Int32)))).length) :
    z_Met l Z (⟨"com/example/variegate/variegate/service/Propagation", "backtrack", "(I)V"⟩ : MethodName) prog_97_method_11_code 3 none [] ({ frames := 0, cells := 0, slots := 0, locals := 0 } : Room) n0 #[(.ref p0), (.int (0 : Int32))] h (z_nov fun h' => Keep h h' [p0, p2] ∧ z_Ob Z h' p0 "com/example/variegate/variegate/service/Propagation" z_lay3 [(.int (3 : Int32)), (.ref p1), (.ref p2), (.ref p3), (.ref p4), (.ref p5), (.ref p6), (.ref p7), (.ref p8), (.ref p9), (.ref p10), (.int (0 : Int32)), (.int (0 : Int32)), (.int (0 : Int32))] ∧ z_Ar Z h' p2 .byte "[B" "" (List.set ((List.set ((List.set ((List.set (va0) (y1).toNatClampNeg (.int (0 : Int32)))) ((y1 ^^^ (1 : Int32))).toNatClampNeg (.int (0 : Int32)))) (y0).toNatClampNeg (.int (0 : Int32)))) ((y0 ^^^ (1 : Int32))).toNatClampNeg (.int (0 : Int32)))) := by
  refine z_met (Ls := #[.val (.ref p0), .val (.int (0 : Int32)), .unset]) (by first | exact plainFor_of_name (by first | (simp [plainName, overriddenIn]; done) | decide +kernel) | decide +kernel) rfl ?_
  intro p e s m below meth c C
  refine z_aloadN C z_d30_0 rfl rfl 1 rfl ?_
  refine z_getO C (z_w hw 250 rfl) Via.refl o_p0 11 rfl rfl z_d30_1 4 rfl ?_
  refine z_iloadN C z_d30_4 rfl 5 rfl ?_
  refine z_icmpN C z_d30_5 (by decide) 8 rfl ?_
  refine z_aloadN C z_d30_8 rfl rfl 9 rfl ?_
  refine z_getO C (z_w hw 165 rfl) Via.refl o_p0 3 rfl rfl z_d30_9 12 rfl ?_
  refine z_aloadN C z_d30_12 rfl rfl 13 rfl ?_
  refine z_dup C z_d30_13 rfl 14 rfl ?_
  refine z_getO C (z_w hw 250 rfl) Via.refl o_p0 11 rfl rfl z_d30_14 17 rfl ?_
  refine z_iconst C (v := (1 : Int32)) z_d30_17 (by decide) 18 rfl ?_
  refine z_isub C (z := (1 : Int32)) z_d30_18 (by decide) 19 rfl ?_
  refine z_dup_x1 C z_d30_19 rfl rfl 20 rfl ?_
  refine z_putO C (z_w hw 250 rfl) Via.refl o_p0 (z_lay3_ok hw) 11 rfl (vs' := [(.int (3 : Int32)), (.ref p1), (.ref p2), (.ref p3), (.ref p4), (.ref p5), (.ref p6), (.ref p7), (.ref p8), (.ref p9), (.ref p10), (.int (1 : Int32)), (.int (0 : Int32)), (.int (0 : Int32))]) rfl (Or.inl (z_w hw 251 rfl)) (z_w hw 116 rfl) (ty := .int) (by decide) (by first | rfl | decide) (by first | rfl | decide) g_p0 z_d30_20 23 rfl ?_
  intro h1 W1 o_p0_1
  have s1 : h1.size = h.size := W1.size
  have k1 : Keep h h1 [p0, p2] := (Keep.refl h [p0, p2]).wr W1 (Or.inl (by simp))
  have o_p3_1 := (o_p3.other W1 (Ne.symm ne_p0_p3))
  refine z_iaload C o_p3_1 (by decide) (v := (.int y1)) (by rfl) z_d30_23 24 rfl ?_
  refine z_istoreN C (Ls' := #[.val (.ref p0), .val (.int (0 : Int32)), .val (.int y1)]) z_d30_24 rfl 25 rfl ?_
  refine z_aloadN C z_d30_25 rfl rfl 26 rfl ?_
  refine z_getO C (z_w hw 162 rfl) Via.refl o_p0_1 2 rfl rfl z_d30_26 29 rfl ?_
  refine z_iloadN C z_d30_29 rfl 30 rfl ?_
  refine z_iconst C (v := (0 : Int32)) z_d30_30 (by decide) 31 rfl ?_
  have o_p2_1 := (o_p2.other W1 (Ne.symm ne_p0_p2))
  refine z_bastore C (z := (0 : Int32)) o_p2_1 rq0 rq1 (by decide) (vs' := (List.set (va0) (y1).toNatClampNeg (.int (0 : Int32)))) rfl g_p2 z_d30_31 32 rfl ?_
  intro h2 W2 o_p2_2
  have s2 : h2.size = h1.size := W2.size
  have k2 : Keep h h2 [p0, p2] := k1.wr W2 (Or.inl (by simp))
  refine z_aloadN C z_d30_32 rfl rfl 33 rfl ?_
  have o_p0_2 := (o_p0_1.other W2 ne_p0_p2)
  refine z_getO C (z_w hw 162 rfl) Via.refl o_p0_2 2 rfl rfl z_d30_33 36 rfl ?_
  refine z_iloadN C z_d30_36 rfl 37 rfl ?_
  refine z_iconst C (v := (1 : Int32)) z_d30_37 (by decide) 38 rfl ?_
  refine z_ixor C z_d30_38 rfl 39 rfl ?_
  refine z_iconst C (v := (0 : Int32)) z_d30_39 (by decide) 40 rfl ?_
  refine z_bastore C (z := (0 : Int32)) o_p2_2 rq2 rq3 (by decide) (vs' := (List.set ((List.set (va0) (y1).toNatClampNeg (.int (0 : Int32)))) ((y1 ^^^ (1 : Int32))).toNatClampNeg (.int (0 : Int32)))) rfl g_p2 z_d30_40 41 rfl ?_
  intro h3 W3 o_p2_3
  have s3 : h3.size = h2.size := W3.size
  have k3 : Keep h h3 [p0, p2] := k2.wr W3 (Or.inl (by simp))
  refine z_goto C z_d30_41 (by decide) 0 (by decide) ?_
  refine z_aloadN C z_d30_0 rfl rfl 1 rfl ?_
  have o_p0_3 := (o_p0_2.other W3 ne_p0_p2)
  refine z_getO C (z_w hw 250 rfl) Via.refl o_p0_3 11 rfl rfl z_d30_1 4 rfl ?_
  refine z_iloadN C z_d30_4 rfl 5 rfl ?_
  refine z_icmpN C z_d30_5 (by decide) 8 rfl ?_
  refine z_aloadN C z_d30_8 rfl rfl 9 rfl ?_
  refine z_getO C (z_w hw 165 rfl) Via.refl o_p0_3 3 rfl rfl z_d30_9 12 rfl ?_
  refine z_aloadN C z_d30_12 rfl rfl 13 rfl ?_
  refine z_dup C z_d30_13 rfl 14 rfl ?_
  refine z_getO C (z_w hw 250 rfl) Via.refl o_p0_3 11 rfl rfl z_d30_14 17 rfl ?_
  refine z_iconst C (v := (1 : Int32)) z_d30_17 (by decide) 18 rfl ?_
  refine z_isub C (z := (0 : Int32)) z_d30_18 (by decide) 19 rfl ?_
  refine z_dup_x1 C z_d30_19 rfl rfl 20 rfl ?_
  refine z_putO C (z_w hw 250 rfl) Via.refl o_p0_3 (z_lay3_ok hw) 11 rfl (vs' := [(.int (3 : Int32)), (.ref p1), (.ref p2), (.ref p3), (.ref p4), (.ref p5), (.ref p6), (.ref p7), (.ref p8), (.ref p9), (.ref p10), (.int (0 : Int32)), (.int (0 : Int32)), (.int (0 : Int32))]) rfl (Or.inl (z_w hw 251 rfl)) (z_w hw 116 rfl) (ty := .int) (by decide) (by first | rfl | decide) (by first | rfl | decide) g_p0 z_d30_20 23 rfl ?_
  intro h4 W4 o_p0_4
  have s4 : h4.size = h3.size := W4.size
  have k4 : Keep h h4 [p0, p2] := k3.wr W4 (Or.inl (by simp))
  have o_p3_4 := (((o_p3_1.other W2 (Ne.symm ne_p2_p3)).other W3 (Ne.symm ne_p2_p3)).other W4 (Ne.symm ne_p0_p3))
  refine z_iaload C o_p3_4 (by decide) (v := (.int y0)) (by rfl) z_d30_23 24 rfl ?_
  refine z_istoreN C (Ls' := #[.val (.ref p0), .val (.int (0 : Int32)), .val (.int y0)]) z_d30_24 rfl 25 rfl ?_
  refine z_aloadN C z_d30_25 rfl rfl 26 rfl ?_
  refine z_getO C (z_w hw 162 rfl) Via.refl o_p0_4 2 rfl rfl z_d30_26 29 rfl ?_
  refine z_iloadN C z_d30_29 rfl 30 rfl ?_
  refine z_iconst C (v := (0 : Int32)) z_d30_30 (by decide) 31 rfl ?_
  have o_p2_4 := (o_p2_3.other W4 (Ne.symm ne_p0_p2))
  refine z_bastore C (z := (0 : Int32)) o_p2_4 rq4 rq5 (by decide) (vs' := (List.set ((List.set ((List.set (va0) (y1).toNatClampNeg (.int (0 : Int32)))) ((y1 ^^^ (1 : Int32))).toNatClampNeg (.int (0 : Int32)))) (y0).toNatClampNeg (.int (0 : Int32)))) rfl g_p2 z_d30_31 32 rfl ?_
  intro h5 W5 o_p2_5
  have s5 : h5.size = h4.size := W5.size
  have k5 : Keep h h5 [p0, p2] := k4.wr W5 (Or.inl (by simp))
  refine z_aloadN C z_d30_32 rfl rfl 33 rfl ?_
  have o_p0_5 := (o_p0_4.other W5 ne_p0_p2)
  refine z_getO C (z_w hw 162 rfl) Via.refl o_p0_5 2 rfl rfl z_d30_33 36 rfl ?_
  refine z_iloadN C z_d30_36 rfl 37 rfl ?_
  refine z_iconst C (v := (1 : Int32)) z_d30_37 (by decide) 38 rfl ?_
  refine z_ixor C z_d30_38 rfl 39 rfl ?_
  refine z_iconst C (v := (0 : Int32)) z_d30_39 (by decide) 40 rfl ?_
  refine z_bastore C (z := (0 : Int32)) o_p2_5 rq6 rq7 (by decide) (vs' := (List.set ((List.set ((List.set ((List.set (va0) (y1).toNatClampNeg (.int (0 : Int32)))) ((y1 ^^^ (1 : Int32))).toNatClampNeg (.int (0 : Int32)))) (y0).toNatClampNeg (.int (0 : Int32)))) ((y0 ^^^ (1 : Int32))).toNatClampNeg (.int (0 : Int32)))) rfl g_p2 z_d30_40 41 rfl ?_
  intro h6 W6 o_p2_6
  have s6 : h6.size = h5.size := W6.size
  have k6 : Keep h h6 [p0, p2] := k5.wr W6 (Or.inl (by simp))
  refine z_goto C z_d30_41 (by decide) 0 (by decide) ?_
  refine z_aloadN C z_d30_0 rfl rfl 1 rfl ?_
  have o_p0_6 := (o_p0_5.other W6 ne_p0_p2)
  refine z_getO C (z_w hw 250 rfl) Via.refl o_p0_6 11 rfl rfl z_d30_1 4 rfl ?_
  refine z_iloadN C z_d30_4 rfl 5 rfl ?_
  refine z_icmpY C z_d30_5 (by decide) (by decide) 44 (by decide) ?_
  refine z_aloadN C z_d30_44 rfl rfl 45 rfl ?_
  refine z_iloadN C z_d30_45 rfl 46 rfl ?_
  refine z_putO C (z_w hw 252 rfl) Via.refl o_p0_6 (z_lay3_ok hw) 12 rfl (vs' := [(.int (3 : Int32)), (.ref p1), (.ref p2), (.ref p3), (.ref p4), (.ref p5), (.ref p6), (.ref p7), (.ref p8), (.ref p9), (.ref p10), (.int (0 : Int32)), (.int (0 : Int32)), (.int (0 : Int32))]) rfl (Or.inl (z_w hw 253 rfl)) (z_w hw 116 rfl) (ty := .int) (by decide) (by first | rfl | decide) (by first | rfl | decide) g_p0 z_d30_46 49 rfl ?_
  intro h7 W7 o_p0_7
  have s7 : h7.size = h6.size := W7.size
  have k7 : Keep h h7 [p0, p2] := k6.wr W7 (Or.inl (by simp))
  have o_p2_7 := (o_p2_6.other W7 (Ne.symm ne_p0_p2))
  exact z_return C z_d30_49 (by decide) (by decide) ⟨rfl, k7, o_p0_7, o_p2_7⟩
set_option maxHeartbeats 2000000 in
theorem z_c31_70 (l : Launch) {Z : State} {a0 : Array Value} (hw : ∀ d ∈ tables_1, d.before a0 Z = true) {n0 : Nat} {h : Heap} {a_DEF a_ONE a_NONE : Nat} (S : z_St Z a_DEF a_ONE a_NONE) (z0 : n0 ≤ h.size) (old : Old Z n0 h) :
    z_Met l Z (⟨"java/lang/Math", "min", "(II)I"⟩ : MethodName) jdk_29_method_69_code 2 (some .int) [] ({ frames := 0, cells := 0, slots := 0, locals := 0 } : Room) n0 #[(.int (2 : Int32)), (.int (0 : Int32))] h (z_pure (.int (0 : Int32)) h) := by
  refine z_met (Ls := #[.val (.int (2 : Int32)), .val (.int (0 : Int32))]) (by first | exact plainFor_of_name (by first | (simp [plainName, overriddenIn]; done) | decide +kernel) | decide +kernel) rfl ?_
  intro p e s m below meth c C
  refine z_iloadN C z_d31_0 rfl 1 rfl ?_
  refine z_iloadN C z_d31_1 rfl 2 rfl ?_
  refine z_icmpY C z_d31_2 (by decide) (by decide) 9 (by decide) ?_
  refine z_iloadN C z_d31_9 rfl 10 rfl ?_
  exact z_ireturn C (Or.inl rfl) rfl z_d31_10 (by decide) (by decide) ⟨rfl, rfl⟩
set_option maxHeartbeats 8000000 in
theorem z_seg71 (l : Launch) {Z : State} {a0 : Array Value} (hw : ∀ d ∈ tables_1, d.before a0 Z = true) {n0 : Nat} {h : Heap} {a_DEF a_ONE a_NONE : Nat} (S : z_St Z a_DEF a_ONE a_NONE) (z0 : n0 ≤ h.size) (old : Old Z n0 h) (y0 : Int32) (y1 : Int32) (y2 : Int32) (y3 : Int32) (y4 : Int32) (y5 : Int32) (y6 : Int32) (y7 : Int32) (y8 : Int32) (y9 : Int32) (y10 : Int32) (y11 : Int32) (y12 : Int32) (p0 : Nat) (p1 : Nat) (p2 : Nat) (p3 : Nat) (p4 : Nat) (p5 : Nat) (p6 : Nat) (p7 : Nat) (p8 : Nat) (p9 : Nat) (p10 : Nat) (p11 : Nat) (o_p1 : z_Ob Z h p1 "com/example/variegate/variegate/service/Propagation" z_lay3 [(.int (3 : Int32)), (.ref p2), (.ref p3), (.ref p4), (.ref p5), (.ref p6), (.ref p7), (.ref p8), (.ref p9), (.ref p10), (.ref p11), (.int (0 : Int32)), (.int (0 : Int32)), (.int (0 : Int32))]) (o_p3 : z_Ar Z h p3 .byte "[B" "" z_z8) (o_p4 : z_Ar Z h p4 .int "[I" "" [(.int (0 : Int32)), (.int (0 : Int32)), (.int (0 : Int32)), (.int (0 : Int32))]) (ne_p1_p3 : p1 ≠ p3) (ne_p3_p4 : p3 ≠ p4) (ne_p1_p4 : p1 ≠ p4) (g_p3 : n0 ≤ p3) (g_p1 : n0 ≤ p1) (g_p4 : n0 ≤ p4) (TT : z_R2_0 y10 y11 y12) (hn : (y0 &&& (3 : Int32)) = (2 : Int32)) (hm : (y2 &&& (7 : Int32)) = (0 : Int32)) {p : Program} {e : Env} {s : State} {m : MethodId} {args : Array Value} {below : List Frame} {meth : Method} {c : Code} (C : z_Cx Z p s m meth c x.cls code maxLocals ret x.name) :
    z_At p l e room_1 s m args below meth c n0 (fun v _ => v = some (.int 1)) h 27 131 (mkF m 139 #[.val (.int y0), .val (.int y1), .val (.int y2), .val (.int y3), .val (.ref p0), .val (.ref p1), .val (.int y4), .val (.int y5), .val (.int y6), .val (.int y7), .val (.int y8), .val (.int y9), .val (.int y10), .val (.int y11), .val (.int y12), .unset, .unset, .unset, .unset, .unset, .unset, .unset] []) := by
  refine z_iloadN C at_139 rfl 140 rfl ?_
  refine z_iconst C (v := (3 : Int32)) at_140 (by decide) 141 rfl ?_
  refine z_iand C (z := (2 : Int32)) at_141 hn 142 rfl ?_
  refine z_istore C (Ls' := #[.val (.int y0), .val (.int y1), .val (.int y2), .val (.int y3), .val (.ref p0), .val (.ref p1), .val (.int y4), .val (.int y5), .val (.int y6), .val (.int y7), .val (.int y8), .val (.int y9), .val (.int y10), .val (.int y11), .val (.int y12), .val (.int (2 : Int32)), .unset, .unset, .unset, .unset, .unset, .unset]) at_142 rfl 144 rfl ?_
  refine z_iload C at_144 rfl 146 rfl ?_
  refine z_ifN C at_146 (by decide) 149 rfl ?_
  refine z_aload C at_149 rfl rfl 151 rfl ?_
  refine z_iload C at_151 rfl 153 rfl ?_
  refine z_callVV C o_p1.1 (z_c34_56 l hw S (by omega) old y10 (z_z8) p1 p2 p3 p4 p5 p6 p7 p8 p9 p10 p11 o_p1 o_p3 o_p4 ne_p1_p3 ne_p3_p4 ne_p1_p4 g_p3 g_p1 g_p4 TT.1 TT.2.1 TT.2.2.1 TT.2.2.2.1) (z_w hw 267 rfl) (z_w hw 268 rfl) (z_w hw 270 rfl) (z_w hw 269 rfl) (z_w hw 117 rfl) (z_w hw 271 rfl) (by decide) at_153 rfl (argsL := [(.int y10)]) (rest := []) rfl (lenOf z_pd2 rfl) (W := 0) (Nat.le_of_eq rfl) (by decide) (by decide) (by decide) (by decide) 156 rfl ?_
  rintro h1 ⟨K1, o_p1_1, o_p3_1, o_p4_1⟩
  have s1 : h.size ≤ h1.size := K1.1
  refine z_iload C at_156 rfl 158 rfl ?_
  refine z_iconst C (v := (1 : Int32)) at_158 (by decide) 159 rfl ?_
  refine z_icmpN C at_159 (by decide) 162 rfl ?_
  refine z_aload C at_162 rfl rfl 164 rfl ?_
  refine z_iload C at_164 rfl 166 rfl ?_
  have old1 := (old.keep K1 (allS g_p3 (allS g_p1 (allS g_p4 all0))))
  refine z_callVV C o_p1_1.1 (z_c34_68 l hw S (by omega) old1 y11 y10 ((List.set ((List.set ((z_z8)) (y10).toNatClampNeg (.int (1 : Int32)))) ((y10 ^^^ (1 : Int32))).toNatClampNeg (.int (-1 : Int32)))) p1 p2 p3 p4 p5 p6 p7 p8 p9 p10 p11 o_p1_1 o_p3_1 o_p4_1 ne_p1_p3 ne_p3_p4 ne_p1_p4 g_p3 g_p1 g_p4 TT.2.2.2.2.1 TT.2.2.2.2.2.1 TT.2.2.2.2.2.2.1 TT.2.2.2.2.2.2.2.1) (z_w hw 267 rfl) (z_w hw 268 rfl) (z_w hw 270 rfl) (z_w hw 269 rfl) (z_w hw 117 rfl) (z_w hw 271 rfl) (by decide) at_166 rfl (argsL := [(.int y11)]) (rest := []) rfl (lenOf z_pd2 rfl) (W := 0) (Nat.le_of_eq rfl) (by decide) (by decide) (by decide) (by decide) 169 rfl ?_
  rintro h2 ⟨K2, o_p1_2, o_p3_2, o_p4_2⟩
  have s2 : h1.size ≤ h2.size := K2.1
  refine z_iload C at_169 rfl 171 rfl ?_
  refine z_iconst C (v := (2 : Int32)) at_171 (by decide) 172 rfl ?_
  refine z_icmpY C at_172 (by decide) (by decide) 182 (by decide) ?_
  refine z_iloadN C at_182 rfl 183 rfl ?_
  refine z_bipush C (v := (7 : Int32)) at_183 (by decide) 185 rfl ?_
  refine z_iand C (z := (0 : Int32)) at_185 hm 186 rfl ?_
  refine z_istore C (Ls' := #[.val (.int y0), .val (.int y1), .val (.int y2), .val (.int y3), .val (.ref p0), .val (.ref p1), .val (.int y4), .val (.int y5), .val (.int y6), .val (.int y7), .val (.int y8), .val (.int y9), .val (.int y10), .val (.int y11), .val (.int y12), .val (.int (2 : Int32)), .val (.int (0 : Int32)), .unset, .unset, .unset, .unset, .unset]) at_186 rfl 188 rfl ?_
  refine z_aload C at_188 rfl rfl 190 rfl ?_
  refine z_iload C at_190 rfl 192 rfl ?_
  have old2 := (old1.keep K2 (allS g_p3 (allS g_p1 (allS g_p4 all0))))
  refine z_callVV C o_p1_2.1 (z_c30_69 l hw S (by omega) old2 y10 y11 ((List.set ((List.set (((List.set ((List.set ((z_z8)) (y10).toNatClampNeg (.int (1 : Int32)))) ((y10 ^^^ (1 : Int32))).toNatClampNeg (.int (-1 : Int32))))) (y11).toNatClampNeg (.int (1 : Int32)))) ((y11 ^^^ (1 : Int32))).toNatClampNeg (.int (-1 : Int32)))) p1 p2 p3 p4 p5 p6 p7 p8 p9 p10 p11 o_p1_2 o_p4_2 o_p3_2 ne_p1_p4 ne_p1_p3 ne_p3_p4 g_p1 g_p3 TT.2.2.2.2.1 TT.2.2.2.2.2.2.2.2.1 TT.2.2.2.2.2.2.1 TT.2.2.2.2.2.2.2.2.2.1 TT.1 TT.2.2.2.2.2.2.2.2.2.2.1 TT.2.2.1 TT.2.2.2.2.2.2.2.2.2.2.2.1) (z_w hw 245 rfl) (z_w hw 246 rfl) (z_w hw 248 rfl) (z_w hw 247 rfl) (z_w hw 117 rfl) (z_w hw 249 rfl) (by decide) at_192 rfl (argsL := [(.int (0 : Int32))]) (rest := []) rfl (lenOf z_pd2 rfl) (W := 0) (Nat.le_of_eq rfl) (by decide) (by decide) (by decide) (by decide) 195 rfl ?_
  rintro h3 ⟨K3, o_p1_3, o_p3_3⟩
  have s3 : h2.size ≤ h3.size := K3.1
  refine z_iload C at_195 rfl 197 rfl ?_
  refine z_iload C at_197 rfl 199 rfl ?_
  have old3 := (old2.keep K3 (allS g_p1 (allS g_p3 all0)))
  refine z_callSp C (z_c31_70 l hw S (by omega) old3) (z_w hw 254 rfl) (z_w hw 255 rfl) (z_w hw 102 rfl) (z_w hw 256 rfl) (by decide) at_199 rfl (argsL := [(.int (2 : Int32)), (.int (0 : Int32))]) (rest := []) rfl (lenOf z_pd3 rfl) (W := 0) (Nat.le_of_eq rfl) (by decide) (by decide) (by decide) (by decide) (by decide) (by decide) 202 rfl ?_
  refine z_istore C (Ls' := #[.val (.int y0), .val (.int y1), .val (.int y2), .val (.int y3), .val (.ref p0), .val (.ref p1), .val (.int y4), .val (.int y5), .val (.int y6), .val (.int y7), .val (.int y8), .val (.int y9), .val (.int y10), .val (.int y11), .val (.int y12), .val (.int (2 : Int32)), .val (.int (0 : Int32)), .val (.int (0 : Int32)), .unset, .unset, .unset, .unset]) at_202 rfl 204 rfl ?_
  refine z_iconst C (v := (0 : Int32)) at_204 (by decide) 205 rfl ?_
  refine z_iload C at_205 rfl 207 rfl ?_
  refine z_icmpY C at_207 (by decide) (by decide) 214 (by decide) ?_
  refine z_iconst C (v := (0 : Int32)) at_214 (by decide) 215 rfl ?_
  refine z_istore C (Ls' := #[.val (.int y0), .val (.int y1), .val (.int y2), .val (.int y3), .val (.ref p0), .val (.ref p1), .val (.int y4), .val (.int y5), .val (.int y6), .val (.int y7), .val (.int y8), .val (.int y9), .val (.int y10), .val (.int y11), .val (.int y12), .val (.int (2 : Int32)), .val (.int (0 : Int32)), .val (.int (0 : Int32)), .val (.int (0 : Int32)), .unset, .unset, .unset]) at_215 rfl 217 rfl ?_
  refine z_iconst C (v := (1 : Int32)) at_217 (by decide) 218 rfl ?_
  refine z_iload C at_218 rfl 220 rfl ?_
  refine z_icmpY C at_220 (by decide) (by decide) 227 (by decide) ?_
  refine z_iconst C (v := (0 : Int32)) at_227 (by decide) 228 rfl ?_
  refine z_istore C (Ls' := #[.val (.int y0), .val (.int y1), .val (.int y2), .val (.int y3), .val (.ref p0), .val (.ref p1), .val (.int y4), .val (.int y5), .val (.int y6), .val (.int y7), .val (.int y8), .val (.int y9), .val (.int y10), .val (.int y11), .val (.int y12), .val (.int (2 : Int32)), .val (.int (0 : Int32)), .val (.int (0 : Int32)), .val (.int (0 : Int32)), .val (.int (0 : Int32)), .unset, .unset]) at_228 rfl 230 rfl ?_
  refine z_iconst C (v := (2 : Int32)) at_230 (by decide) 231 rfl ?_
  refine z_iload C at_231 rfl 233 rfl ?_
  refine z_icmpY C at_233 (by decide) (by decide) 240 (by decide) ?_
  refine z_iconst C (v := (0 : Int32)) at_240 (by decide) 241 rfl ?_
  refine z_istore C (Ls' := #[.val (.int y0), .val (.int y1), .val (.int y2), .val (.int y3), .val (.ref p0), .val (.ref p1), .val (.int y4), .val (.int y5), .val (.int y6), .val (.int y7), .val (.int y8), .val (.int y9), .val (.int y10), .val (.int y11), .val (.int y12), .val (.int (2 : Int32)), .val (.int (0 : Int32)), .val (.int (0 : Int32)), .val (.int (0 : Int32)), .val (.int (0 : Int32)), .val (.int (0 : Int32)), .unset]) at_241 rfl 243 rfl ?_
  refine z_aload C at_243 rfl rfl 245 rfl ?_
  refine z_callVp C o_p1_3.1 (z_c32_59 l hw S (by omega) old3 p1 p2 p3 p4 p5 p6 p7 p8 p9 p10 p11 o_p1_3) (z_w hw 257 rfl) (z_w hw 258 rfl) (z_w hw 260 rfl) (z_w hw 259 rfl) (z_w hw 117 rfl) (z_w hw 261 rfl) (by decide) at_245 rfl (argsL := []) (rest := []) rfl (lenOf z_pd8 rfl) (W := 0) (Nat.le_of_eq rfl) (by decide) (by decide) (by decide) (by decide) (by decide) (by decide) 248 rfl ?_
  refine z_iload C at_248 rfl 250 rfl ?_
  refine z_icmpN C at_250 (by decide) 253 rfl ?_
  refine z_iconst C (v := (1 : Int32)) at_253 (by decide) 254 rfl ?_
  refine z_goto C at_254 (by decide) 258 (by decide) ?_
  refine z_istore C (Ls' := #[.val (.int y0), .val (.int y1), .val (.int y2), .val (.int y3), .val (.ref p0), .val (.ref p1), .val (.int y4), .val (.int y5), .val (.int y6), .val (.int y7), .val (.int y8), .val (.int y9), .val (.int y10), .val (.int y11), .val (.int y12), .val (.int (2 : Int32)), .val (.int (0 : Int32)), .val (.int (0 : Int32)), .val (.int (0 : Int32)), .val (.int (0 : Int32)), .val (.int (0 : Int32)), .val (.int (1 : Int32))]) at_258 rfl 260 rfl ?_
  refine z_iload C at_260 rfl 262 rfl ?_
  refine z_ifN C at_262 (by decide) 265 rfl ?_
  refine z_aload C at_265 rfl rfl 267 rfl ?_
  refine z_iload C at_267 rfl 269 rfl ?_
  refine z_iload C at_269 rfl 271 rfl ?_
  refine z_callSp C (z_c33_60 l hw S (by omega) old3 y10 ((List.set ((List.set ((List.set ((List.set (((List.set ((List.set (((List.set ((List.set ((z_z8)) (y10).toNatClampNeg (.int (1 : Int32)))) ((y10 ^^^ (1 : Int32))).toNatClampNeg (.int (-1 : Int32))))) (y11).toNatClampNeg (.int (1 : Int32)))) ((y11 ^^^ (1 : Int32))).toNatClampNeg (.int (-1 : Int32))))) (y11).toNatClampNeg (.int (0 : Int32)))) ((y11 ^^^ (1 : Int32))).toNatClampNeg (.int (0 : Int32)))) (y10).toNatClampNeg (.int (0 : Int32)))) ((y10 ^^^ (1 : Int32))).toNatClampNeg (.int (0 : Int32)))) p1 p2 p3 p4 p5 p6 p7 p8 p9 p10 p11 o_p1_3 o_p3_3 TT.1 TT.2.2.2.2.2.2.2.2.2.2.2.2.1 TT.2.2.1 TT.2.2.2.2.2.2.2.2.2.2.2.2.2.1) (z_w hw 262 rfl) (z_w hw 263 rfl) (z_w hw 264 rfl) (z_w hw 265 rfl) (by decide) at_271 rfl (argsL := [(.ref p1), (.int y10), (.int (0 : Int32))]) (rest := []) rfl (lenOf z_pd19 rfl) (W := 0) (Nat.le_of_eq rfl) (by decide) (by decide) (by decide) (by decide) (by decide) (by decide) 274 rfl ?_
  refine z_ifN C at_274 (by decide) 277 rfl ?_
  refine z_aload C at_277 rfl rfl 279 rfl ?_
  refine z_iload C at_279 rfl 281 rfl ?_
  refine z_iload C at_281 rfl 283 rfl ?_
  refine z_callSp C (z_c33_60 l hw S (by omega) old3 y11 ((List.set ((List.set ((List.set ((List.set (((List.set ((List.set (((List.set ((List.set ((z_z8)) (y10).toNatClampNeg (.int (1 : Int32)))) ((y10 ^^^ (1 : Int32))).toNatClampNeg (.int (-1 : Int32))))) (y11).toNatClampNeg (.int (1 : Int32)))) ((y11 ^^^ (1 : Int32))).toNatClampNeg (.int (-1 : Int32))))) (y11).toNatClampNeg (.int (0 : Int32)))) ((y11 ^^^ (1 : Int32))).toNatClampNeg (.int (0 : Int32)))) (y10).toNatClampNeg (.int (0 : Int32)))) ((y10 ^^^ (1 : Int32))).toNatClampNeg (.int (0 : Int32)))) p1 p2 p3 p4 p5 p6 p7 p8 p9 p10 p11 o_p1_3 o_p3_3 TT.2.2.2.2.1 TT.2.2.2.2.2.2.2.2.2.2.2.2.2.2.1 TT.2.2.2.2.2.2.1 TT.2.2.2.2.2.2.2.2.2.2.2.2.2.2.2.1) (z_w hw 262 rfl) (z_w hw 263 rfl) (z_w hw 264 rfl) (z_w hw 265 rfl) (by decide) at_283 rfl (argsL := [(.ref p1), (.int y11), (.int (0 : Int32))]) (rest := []) rfl (lenOf z_pd19 rfl) (W := 0) (Nat.le_of_eq rfl) (by decide) (by decide) (by decide) (by decide) (by decide) (by decide) 286 rfl ?_
  refine z_ifN C at_286 (by decide) 289 rfl ?_
  refine z_aload C at_289 rfl rfl 291 rfl ?_
  refine z_iload C at_291 rfl 293 rfl ?_
  refine z_iload C at_293 rfl 295 rfl ?_
  refine z_callSp C (z_c33_60 l hw S (by omega) old3 y12 ((List.set ((List.set ((List.set ((List.set (((List.set ((List.set (((List.set ((List.set ((z_z8)) (y10).toNatClampNeg (.int (1 : Int32)))) ((y10 ^^^ (1 : Int32))).toNatClampNeg (.int (-1 : Int32))))) (y11).toNatClampNeg (.int (1 : Int32)))) ((y11 ^^^ (1 : Int32))).toNatClampNeg (.int (-1 : Int32))))) (y11).toNatClampNeg (.int (0 : Int32)))) ((y11 ^^^ (1 : Int32))).toNatClampNeg (.int (0 : Int32)))) (y10).toNatClampNeg (.int (0 : Int32)))) ((y10 ^^^ (1 : Int32))).toNatClampNeg (.int (0 : Int32)))) p1 p2 p3 p4 p5 p6 p7 p8 p9 p10 p11 o_p1_3 o_p3_3 TT.2.2.2.2.2.2.2.2.2.2.2.2.2.2.2.2.1 TT.2.2.2.2.2.2.2.2.2.2.2.2.2.2.2.2.2.1 TT.2.2.2.2.2.2.2.2.2.2.2.2.2.2.2.2.2.2.1 TT.2.2.2.2.2.2.2.2.2.2.2.2.2.2.2.2.2.2.2.1) (z_w hw 262 rfl) (z_w hw 263 rfl) (z_w hw 264 rfl) (z_w hw 265 rfl) (by decide) at_295 rfl (argsL := [(.ref p1), (.int y12), (.int (0 : Int32))]) (rest := []) rfl (lenOf z_pd19 rfl) (W := 0) (Nat.le_of_eq rfl) (by decide) (by decide) (by decide) (by decide) (by decide) (by decide) 298 rfl ?_
  refine z_ifN C at_298 (by decide) 301 rfl ?_
  refine z_iconst C (v := (1 : Int32)) at_301 (by decide) 302 rfl ?_
  refine z_goto C at_302 (by decide) 306 (by decide) ?_
  refine z_istore C (Ls' := #[.val (.int y0), .val (.int y1), .val (.int y2), .val (.int y3), .val (.ref p0), .val (.ref p1), .val (.int y4), .val (.int y5), .val (.int y6), .val (.int y7), .val (.int y8), .val (.int y9), .val (.int y10), .val (.int y11), .val (.int y12), .val (.int (2 : Int32)), .val (.int (0 : Int32)), .val (.int (0 : Int32)), .val (.int (0 : Int32)), .val (.int (0 : Int32)), .val (.int (0 : Int32)), .val (.int (1 : Int32))]) at_306 rfl 308 rfl ?_
  refine z_iload C at_308 rfl 310 rfl ?_
  refine z_ifN C at_310 (by decide) 313 rfl ?_
  refine z_aload C at_313 rfl rfl 315 rfl ?_
  refine z_getO C (z_w hw 266 rfl) Via.refl o_p1_3 2 rfl rfl at_315 318 rfl ?_
  refine z_iconst C (v := (0 : Int32)) at_318 (by decide) 319 rfl ?_
  refine z_baload C o_p3_3 (by decide) TT.2.2.2.2.2.2.2.2.2.2.2.2.2.2.2.2.2.2.2.2.1 at_319 320 rfl ?_
  refine z_ifN C at_320 (by decide) 323 rfl ?_
  refine z_aload C at_323 rfl rfl 325 rfl ?_
  refine z_getO C (z_w hw 266 rfl) Via.refl o_p1_3 2 rfl rfl at_325 328 rfl ?_
  refine z_iconst C (v := (1 : Int32)) at_328 (by decide) 329 rfl ?_
  refine z_baload C o_p3_3 (by decide) TT.2.2.2.2.2.2.2.2.2.2.2.2.2.2.2.2.2.2.2.2.2 at_329 330 rfl ?_
  refine z_ifN C at_330 (by decide) 333 rfl ?_
  refine z_iconst C (v := (1 : Int32)) at_333 (by decide) 334 rfl ?_
  refine z_goto C at_334 (by decide) 338 (by decide) ?_
  refine z_istore C (Ls' := #[.val (.int y0), .val (.int y1), .val (.int y2), .val (.int y3), .val (.ref p0), .val (.ref p1), .val (.int y4), .val (.int y5), .val (.int y6), .val (.int y7), .val (.int y8), .val (.int y9), .val (.int y10), .val (.int y11), .val (.int y12), .val (.int (2 : Int32)), .val (.int (0 : Int32)), .val (.int (0 : Int32)), .val (.int (0 : Int32)), .val (.int (0 : Int32)), .val (.int (0 : Int32)), .val (.int (1 : Int32))]) at_338 rfl 340 rfl ?_
  refine z_iload C at_340 rfl 342 rfl ?_
  refine z_ifY C at_342 (by decide) (by decide) 369 (by decide) ?_
  refine z_iload C at_369 rfl 371 rfl ?_
  refine z_ifY C at_371 (by decide) (by decide) 398 (by decide) ?_
  refine z_iload C at_398 rfl 400 rfl ?_
  refine z_ifY C at_400 (by decide) (by decide) 427 (by decide) ?_
  refine z_iload C at_427 rfl 429 rfl ?_
  exact z_ireturn C (by simp) rfl at_429 (by decide) (by decide) rfl
set_option maxHeartbeats 2000000 in
theorem z_c30_72 (l : Launch) {Z : State} {a0 : Array Value} (hw : ∀ d ∈ tables_1, d.before a0 Z = true) {n0 : Nat} {h : Heap} {a_DEF a_ONE a_NONE : Nat} (S : z_St Z a_DEF a_ONE a_NONE) (z0 : n0 ≤ h.size) (old : Old Z n0 h) (y0 : Int32) (y1 : Int32) (va0 : List Value) (p0 : Nat) (p1 : Nat) (p2 : Nat) (p3 : Nat) (p4 : Nat) (p5 : Nat) (p6 : Nat) (p7 : Nat) (p8 : Nat) (p9 : Nat) (p10 : Nat) (o_p0 : z_Ob Z h p0 "com/example/variegate/variegate/service/Propagation" z_lay3 [(.int (3 : Int32)), (.ref p1), (.ref p2), (.ref p3), (.ref p4), (.ref p5), (.ref p6), (.ref p7), (.ref p8), (.ref p9), (.ref p10), (.int (2 : Int32)), (.int (0 : Int32)), (.int (0 : Int32))]) (o_p3 : z_Ar Z h p3 .int "[I" "" [(.int y0), (.int y1), (.int (0 : Int32)), (.int (0 : Int32))]) (o_p2 : z_Ar Z h p2 .byte "[B" "" va0) (ne_p0_p3 : p0 ≠ p3) (ne_p0_p2 : p0 ≠ p2) (g_p0 : n0 ≤ p0) (g_p2 : n0 ≤ p2) (rq0 : ¬ y1 < 0) (rq1 : (y1).toNatClampNeg < (va0).length) (rq2 : ¬ (y1 ^^^ (1 : Int32)) < 0) (rq3 : ((y1 ^^^ (1 : Int32))).toNatClampNeg < ((List.set (va0) (y1).toNatClampNeg (.int (0 : Int32)))).length) :
    z_Met l Z (⟨"com/example/variegate/variegate/service/Propagation", "backtrack", "(I)V"⟩ : MethodName) prog_97_method_11_code 3 none [] ({ frames := 0, cells := 0, slots := 0, locals := 0 } : Room) n0 #[(.ref p0), (.int (1 : Int32))] h (z_nov fun h' => Keep h h' [p0, p2] ∧ z_Ob Z h' p0 "com/example/variegate/variegate/service/Propagation" z_lay3 [(.int (3 : Int32)), (.ref p1), (.ref p2), (.ref p3), (.ref p4), (.ref p5), (.ref p6), (.ref p7), (.ref p8), (.ref p9), (.ref p10), (.int (1 : Int32)), (.int (1 : Int32)), (.int (0 : Int32))] ∧ z_Ar Z h' p2 .byte "[B" "" (List.set ((List.set (va0) (y1).toNatClampNeg (.int (0 : Int32)))) ((y1 ^^^ (1 : Int32))).toNatClampNeg (.int (0 : Int32)))) := by
  refine z_met (Ls := #[.val (.ref p0), .val (.int (1 : Int32)), .unset]) (by first | exact plainFor_of_name (by first | (simp [plainName, overriddenIn]; done) | decide +kernel) | decide +kernel) rfl ?_
  intro p e s m below meth c C
  refine z_aloadN C z_d30_0 rfl rfl 1 rfl ?_
  refine z_getO C (z_w hw 250 rfl) Via.refl o_p0 11 rfl rfl z_d30_1 4 rfl ?_
  refine z_iloadN C z_d30_4 rfl 5 rfl ?_
  refine z_icmpN C z_d30_5 (by decide) 8 rfl ?_
  refine z_aloadN C z_d30_8 rfl rfl 9 rfl ?_
  refine z_getO C (z_w hw 165 rfl) Via.refl o_p0 3 rfl rfl z_d30_9 12 rfl ?_
  refine z_aloadN C z_d30_12 rfl rfl 13 rfl ?_
  refine z_dup C z_d30_13 rfl 14 rfl ?_
  refine z_getO C (z_w hw 250 rfl) Via.refl o_p0 11 rfl rfl z_d30_14 17 rfl ?_
  refine z_iconst C (v := (1 : Int32)) z_d30_17 (by decide) 18 rfl ?_
  refine z_isub C (z := (1 : Int32)) z_d30_18 (by decide) 19 rfl ?_
  refine z_dup_x1 C z_d30_19 rfl rfl 20 rfl ?_
  refine z_putO C (z_w hw 250 rfl) Via.refl o_p0 (z_lay3_ok hw) 11 rfl (vs' := [(.int (3 : Int32)), (.ref p1), (.ref p2), (.ref p3), (.ref p4), (.ref p5), (.ref p6), (.ref p7), (.ref p8), (.ref p9), (.ref p10), (.int (1 : Int32)), (.int (0 : Int32)), (.int (0 : Int32))]) rfl (Or.inl (z_w hw 251 rfl)) (z_w hw 116 rfl) (ty := .int) (by decide) (by first | rfl | decide) (by first | rfl | decide) g_p0 z_d30_20 23 rfl ?_
  intro h1 W1 o_p0_1
  have s1 : h1.size = h.size := W1.size
  have k1 : Keep h h1 [p0, p2] := (Keep.refl h [p0, p2]).wr W1 (Or.inl (by simp))
  have o_p3_1 := (o_p3.other W1 (Ne.symm ne_p0_p3))
  refine z_iaload C o_p3_1 (by decide) (v := (.int y1)) (by rfl) z_d30_23 24 rfl ?_
  refine z_istoreN C (Ls' := #[.val (.ref p0), .val (.int (1 : Int32)), .val (.int y1)]) z_d30_24 rfl 25 rfl ?_
  refine z_aloadN C z_d30_25 rfl rfl 26 rfl ?_
  refine z_getO C (z_w hw 162 rfl) Via.refl o_p0_1 2 rfl rfl z_d30_26 29 rfl ?_
  refine z_iloadN C z_d30_29 rfl 30 rfl ?_
  refine z_iconst C (v := (0 : Int32)) z_d30_30 (by decide) 31 rfl ?_
  have o_p2_1 := (o_p2.other W1 (Ne.symm ne_p0_p2))
  refine z_bastore C (z := (0 : Int32)) o_p2_1 rq0 rq1 (by decide) (vs' := (List.set (va0) (y1).toNatClampNeg (.int (0 : Int32)))) rfl g_p2 z_d30_31 32 rfl ?_
  intro h2 W2 o_p2_2
  have s2 : h2.size = h1.size := W2.size
  have k2 : Keep h h2 [p0, p2] := k1.wr W2 (Or.inl (by simp))
  refine z_aloadN C z_d30_32 rfl rfl 33 rfl ?_
  have o_p0_2 := (o_p0_1.other W2 ne_p0_p2)
  refine z_getO C (z_w hw 162 rfl) Via.refl o_p0_2 2 rfl rfl z_d30_33 36 rfl ?_
  refine z_iloadN C z_d30_36 rfl 37 rfl ?_
  refine z_iconst C (v := (1 : Int32)) z_d30_37 (by decide) 38 rfl ?_
  refine z_ixor C z_d30_38 rfl 39 rfl ?_
  refine z_iconst C (v := (0 : Int32)) z_d30_39 (by decide) 40 rfl ?_
  refine z_bastore C (z := (0 : Int32)) o_p2_2 rq2 rq3 (by decide) (vs' := (List.set ((List.set (va0) (y1).toNatClampNeg (.int (0 : Int32)))) ((y1 ^^^ (1 : Int32))).toNatClampNeg (.int (0 : Int32)))) rfl g_p2 z_d30_40 41 rfl ?_
  intro h3 W3 o_p2_3
  have s3 : h3.size = h2.size := W3.size
  have k3 : Keep h h3 [p0, p2] := k2.wr W3 (Or.inl (by simp))
  refine z_goto C z_d30_41 (by decide) 0 (by decide) ?_
  refine z_aloadN C z_d30_0 rfl rfl 1 rfl ?_
  have o_p0_3 := (o_p0_2.other W3 ne_p0_p2)
  refine z_getO C (z_w hw 250 rfl) Via.refl o_p0_3 11 rfl rfl z_d30_1 4 rfl ?_
  refine z_iloadN C z_d30_4 rfl 5 rfl ?_
  refine z_icmpY C z_d30_5 (by decide) (by decide) 44 (by decide) ?_
  refine z_aloadN C z_d30_44 rfl rfl 45 rfl ?_
  refine z_iloadN C z_d30_45 rfl 46 rfl ?_
  refine z_putO C (z_w hw 252 rfl) Via.refl o_p0_3 (z_lay3_ok hw) 12 rfl (vs' := [(.int (3 : Int32)), (.ref p1), (.ref p2), (.ref p3), (.ref p4), (.ref p5), (.ref p6), (.ref p7), (.ref p8), (.ref p9), (.ref p10), (.int (1 : Int32)), (.int (1 : Int32)), (.int (0 : Int32))]) rfl (Or.inl (z_w hw 253 rfl)) (z_w hw 116 rfl) (ty := .int) (by decide) (by first | rfl | decide) (by first | rfl | decide) g_p0 z_d30_46 49 rfl ?_
  intro h4 W4 o_p0_4
  have s4 : h4.size = h3.size := W4.size
  have k4 : Keep h h4 [p0, p2] := k3.wr W4 (Or.inl (by simp))
  have o_p2_4 := (o_p2_3.other W4 (Ne.symm ne_p0_p2))
  exact z_return C z_d30_49 (by decide) (by decide) ⟨rfl, k4, o_p0_4, o_p2_4⟩
set_option maxHeartbeats 2000000 in
theorem z_c31_73 (l : Launch) {Z : State} {a0 : Array Value} (hw : ∀ d ∈ tables_1, d.before a0 Z = true) {n0 : Nat} {h : Heap} {a_DEF a_ONE a_NONE : Nat} (S : z_St Z a_DEF a_ONE a_NONE) (z0 : n0 ≤ h.size) (old : Old Z n0 h) :
    z_Met l Z (⟨"java/lang/Math", "min", "(II)I"⟩ : MethodName) jdk_29_method_69_code 2 (some .int) [] ({ frames := 0, cells := 0, slots := 0, locals := 0 } : Room) n0 #[(.int (2 : Int32)), (.int (1 : Int32))] h (z_pure (.int (1 : Int32)) h) := by
  refine z_met (Ls := #[.val (.int (2 : Int32)), .val (.int (1 : Int32))]) (by first | exact plainFor_of_name (by first | (simp [plainName, overriddenIn]; done) | decide +kernel) | decide +kernel) rfl ?_
  intro p e s m below meth c C
  refine z_iloadN C z_d31_0 rfl 1 rfl ?_
  refine z_iloadN C z_d31_1 rfl 2 rfl ?_
  refine z_icmpY C z_d31_2 (by decide) (by decide) 9 (by decide) ?_
  refine z_iloadN C z_d31_9 rfl 10 rfl ?_
  exact z_ireturn C (Or.inl rfl) rfl z_d31_10 (by decide) (by decide) ⟨rfl, rfl⟩
set_option maxHeartbeats 2000000 in
theorem z_c32_74 (l : Launch) {Z : State} {a0 : Array Value} (hw : ∀ d ∈ tables_1, d.before a0 Z = true) {n0 : Nat} {h : Heap} {a_DEF a_ONE a_NONE : Nat} (S : z_St Z a_DEF a_ONE a_NONE) (z0 : n0 ≤ h.size) (old : Old Z n0 h) (p0 : Nat) (p1 : Nat) (p2 : Nat) (p3 : Nat) (p4 : Nat) (p5 : Nat) (p6 : Nat) (p7 : Nat) (p8 : Nat) (p9 : Nat) (p10 : Nat) (o_p0 : z_Ob Z h p0 "com/example/variegate/variegate/service/Propagation" z_lay3 [(.int (3 : Int32)), (.ref p1), (.ref p2), (.ref p3), (.ref p4), (.ref p5), (.ref p6), (.ref p7), (.ref p8), (.ref p9), (.ref p10), (.int (1 : Int32)), (.int (1 : Int32)), (.int (0 : Int32))]) :
    z_Met l Z (⟨"com/example/variegate/variegate/service/Propagation", "trailSize", "()I"⟩ : MethodName) prog_97_method_6_code 1 (some .int) [] ({ frames := 0, cells := 0, slots := 0, locals := 0 } : Room) n0 #[(.ref p0)] h (z_pure (.int (1 : Int32)) h) := by
  refine z_met (Ls := #[.val (.ref p0)]) (by first | exact plainFor_of_name (by first | (simp [plainName, overriddenIn]; done) | decide +kernel) | decide +kernel) rfl ?_
  intro p e s m below meth c C
  refine z_aloadN C z_d32_0 rfl rfl 1 rfl ?_
  refine z_getO C (z_w hw 250 rfl) Via.refl o_p0 11 rfl rfl z_d32_1 4 rfl ?_
  exact z_ireturn C (Or.inl rfl) rfl z_d32_4 (by decide) (by decide) ⟨rfl, rfl⟩
set_option maxHeartbeats 2000000 in
theorem z_c33_75 (l : Launch) {Z : State} {a0 : Array Value} (hw : ∀ d ∈ tables_1, d.before a0 Z = true) {n0 : Nat} {h : Heap} {a_DEF a_ONE a_NONE : Nat} (S : z_St Z a_DEF a_ONE a_NONE) (z0 : n0 ≤ h.size) (old : Old Z n0 h) (y0 : Int32) (va0 : List Value) (p0 : Nat) (p1 : Nat) (p2 : Nat) (p3 : Nat) (p4 : Nat) (p5 : Nat) (p6 : Nat) (p7 : Nat) (p8 : Nat) (p9 : Nat) (p10 : Nat) (o_p0 : z_Ob Z h p0 "com/example/variegate/variegate/service/Propagation" z_lay3 [(.int (3 : Int32)), (.ref p1), (.ref p2), (.ref p3), (.ref p4), (.ref p5), (.ref p6), (.ref p7), (.ref p8), (.ref p9), (.ref p10), (.int (1 : Int32)), (.int (1 : Int32)), (.int (0 : Int32))]) (o_p2 : z_Ar Z h p2 .byte "[B" "" va0) (rq0 : ¬ y0 < 0) (rq1 : (va0)[(y0).toNatClampNeg]? = some (.int (1 : Int32))) (rq2 : ¬ (y0 ^^^ (1 : Int32)) < 0) (rq3 : (va0)[((y0 ^^^ (1 : Int32))).toNatClampNeg]? = some (.int (-1 : Int32))) :
    z_Met l Z (⟨"com/example/variegate/variegate/service/PropagationBacktrackPinLaw", "check", "(Lcom/example/variegate/variegate/service/Propagation;IZ)Z"⟩ : MethodName) method_2_code 5 (some .boolean) [] ({ frames := 0, cells := 0, slots := 0, locals := 0 } : Room) n0 #[(.ref p0), (.int y0), (.int (1 : Int32))] h (z_pure (.int (1 : Int32)) h) := by
  refine z_met (Ls := #[.val (.ref p0), .val (.int y0), .val (.int (1 : Int32)), .unset, .unset]) (by first | exact plainFor_of_name (by first | (simp [plainName, overriddenIn]; done) | decide +kernel) | decide +kernel) rfl ?_
  intro p e s m below meth c C
  refine z_iloadN C z_d33_0 rfl 1 rfl ?_
  refine z_ifN C z_d33_1 (by decide) 4 rfl ?_
  refine z_iconst C (v := (1 : Int32)) z_d33_4 (by decide) 5 rfl ?_
  refine z_goto C z_d33_5 (by decide) 9 (by decide) ?_
  refine z_istoreN C (Ls' := #[.val (.ref p0), .val (.int y0), .val (.int (1 : Int32)), .val (.int (1 : Int32)), .unset]) z_d33_9 rfl 10 rfl ?_
  refine z_iloadN C z_d33_10 rfl 11 rfl ?_
  refine z_ifN C z_d33_11 (by decide) 14 rfl ?_
  refine z_iconst C (v := (-1 : Int32)) z_d33_14 (by decide) 15 rfl ?_
  refine z_goto C z_d33_15 (by decide) 19 (by decide) ?_
  refine z_istore C (Ls' := #[.val (.ref p0), .val (.int y0), .val (.int (1 : Int32)), .val (.int (1 : Int32)), .val (.int (-1 : Int32))]) z_d33_19 rfl 21 rfl ?_
  refine z_aloadN C z_d33_21 rfl rfl 22 rfl ?_
  refine z_getO C (z_w hw 266 rfl) Via.refl o_p0 2 rfl rfl z_d33_22 25 rfl ?_
  refine z_iloadN C z_d33_25 rfl 26 rfl ?_
  refine z_baload C o_p2 rq0 rq1 z_d33_26 27 rfl ?_
  refine z_iloadN C z_d33_27 rfl 28 rfl ?_
  refine z_icmpN C z_d33_28 (by decide) 31 rfl ?_
  refine z_aloadN C z_d33_31 rfl rfl 32 rfl ?_
  refine z_getO C (z_w hw 266 rfl) Via.refl o_p0 2 rfl rfl z_d33_32 35 rfl ?_
  refine z_iloadN C z_d33_35 rfl 36 rfl ?_
  refine z_iconst C (v := (1 : Int32)) z_d33_36 (by decide) 37 rfl ?_
  refine z_ixor C z_d33_37 rfl 38 rfl ?_
  refine z_baload C o_p2 rq2 rq3 z_d33_38 39 rfl ?_
  refine z_iload C z_d33_39 rfl 41 rfl ?_
  refine z_icmpN C z_d33_41 (by decide) 44 rfl ?_
  refine z_iconst C (v := (1 : Int32)) z_d33_44 (by decide) 45 rfl ?_
  refine z_goto C z_d33_45 (by decide) 49 (by decide) ?_
  exact z_ireturn C (by simp) rfl z_d33_49 (by decide) (by decide) ⟨rfl, rfl⟩
set_option maxHeartbeats 2000000 in
theorem z_c33_76 (l : Launch) {Z : State} {a0 : Array Value} (hw : ∀ d ∈ tables_1, d.before a0 Z = true) {n0 : Nat} {h : Heap} {a_DEF a_ONE a_NONE : Nat} (S : z_St Z a_DEF a_ONE a_NONE) (z0 : n0 ≤ h.size) (old : Old Z n0 h) (y0 : Int32) (va0 : List Value) (p0 : Nat) (p1 : Nat) (p2 : Nat) (p3 : Nat) (p4 : Nat) (p5 : Nat) (p6 : Nat) (p7 : Nat) (p8 : Nat) (p9 : Nat) (p10 : Nat) (o_p0 : z_Ob Z h p0 "com/example/variegate/variegate/service/Propagation" z_lay3 [(.int (3 : Int32)), (.ref p1), (.ref p2), (.ref p3), (.ref p4), (.ref p5), (.ref p6), (.ref p7), (.ref p8), (.ref p9), (.ref p10), (.int (1 : Int32)), (.int (1 : Int32)), (.int (0 : Int32))]) (o_p2 : z_Ar Z h p2 .byte "[B" "" va0) (rq0 : ¬ y0 < 0) (rq1 : (va0)[(y0).toNatClampNeg]? = some (.int (0 : Int32))) (rq2 : ¬ (y0 ^^^ (1 : Int32)) < 0) (rq3 : (va0)[((y0 ^^^ (1 : Int32))).toNatClampNeg]? = some (.int (0 : Int32))) :
    z_Met l Z (⟨"com/example/variegate/variegate/service/PropagationBacktrackPinLaw", "check", "(Lcom/example/variegate/variegate/service/Propagation;IZ)Z"⟩ : MethodName) method_2_code 5 (some .boolean) [] ({ frames := 0, cells := 0, slots := 0, locals := 0 } : Room) n0 #[(.ref p0), (.int y0), (.int (0 : Int32))] h (z_pure (.int (1 : Int32)) h) := by
  refine z_met (Ls := #[.val (.ref p0), .val (.int y0), .val (.int (0 : Int32)), .unset, .unset]) (by first | exact plainFor_of_name (by first | (simp [plainName, overriddenIn]; done) | decide +kernel) | decide +kernel) rfl ?_
  intro p e s m below meth c C
  refine z_iloadN C z_d33_0 rfl 1 rfl ?_
  refine z_ifY C z_d33_1 (by decide) (by decide) 8 (by decide) ?_
  refine z_iconst C (v := (0 : Int32)) z_d33_8 (by decide) 9 rfl ?_
  refine z_istoreN C (Ls' := #[.val (.ref p0), .val (.int y0), .val (.int (0 : Int32)), .val (.int (0 : Int32)), .unset]) z_d33_9 rfl 10 rfl ?_
  refine z_iloadN C z_d33_10 rfl 11 rfl ?_
  refine z_ifY C z_d33_11 (by decide) (by decide) 18 (by decide) ?_
  refine z_iconst C (v := (0 : Int32)) z_d33_18 (by decide) 19 rfl ?_
  refine z_istore C (Ls' := #[.val (.ref p0), .val (.int y0), .val (.int (0 : Int32)), .val (.int (0 : Int32)), .val (.int (0 : Int32))]) z_d33_19 rfl 21 rfl ?_
  refine z_aloadN C z_d33_21 rfl rfl 22 rfl ?_
  refine z_getO C (z_w hw 266 rfl) Via.refl o_p0 2 rfl rfl z_d33_22 25 rfl ?_
  refine z_iloadN C z_d33_25 rfl 26 rfl ?_
  refine z_baload C o_p2 rq0 rq1 z_d33_26 27 rfl ?_
  refine z_iloadN C z_d33_27 rfl 28 rfl ?_
  refine z_icmpN C z_d33_28 (by decide) 31 rfl ?_
  refine z_aloadN C z_d33_31 rfl rfl 32 rfl ?_
  refine z_getO C (z_w hw 266 rfl) Via.refl o_p0 2 rfl rfl z_d33_32 35 rfl ?_
  refine z_iloadN C z_d33_35 rfl 36 rfl ?_
  refine z_iconst C (v := (1 : Int32)) z_d33_36 (by decide) 37 rfl ?_
  refine z_ixor C z_d33_37 rfl 38 rfl ?_
  refine z_baload C o_p2 rq2 rq3 z_d33_38 39 rfl ?_
  refine z_iload C z_d33_39 rfl 41 rfl ?_
  refine z_icmpN C z_d33_41 (by decide) 44 rfl ?_
  refine z_iconst C (v := (1 : Int32)) z_d33_44 (by decide) 45 rfl ?_
  refine z_goto C z_d33_45 (by decide) 49 (by decide) ?_
  exact z_ireturn C (by simp) rfl z_d33_49 (by decide) (by decide) ⟨rfl, rfl⟩
set_option maxHeartbeats 8000000 in
theorem z_seg77 (l : Launch) {Z : State} {a0 : Array Value} (hw : ∀ d ∈ tables_1, d.before a0 Z = true) {n0 : Nat} {h : Heap} {a_DEF a_ONE a_NONE : Nat} (S : z_St Z a_DEF a_ONE a_NONE) (z0 : n0 ≤ h.size) (old : Old Z n0 h) (y0 : Int32) (y1 : Int32) (y2 : Int32) (y3 : Int32) (y4 : Int32) (y5 : Int32) (y6 : Int32) (y7 : Int32) (y8 : Int32) (y9 : Int32) (y10 : Int32) (y11 : Int32) (y12 : Int32) (p0 : Nat) (p1 : Nat) (p2 : Nat) (p3 : Nat) (p4 : Nat) (p5 : Nat) (p6 : Nat) (p7 : Nat) (p8 : Nat) (p9 : Nat) (p10 : Nat) (p11 : Nat) (o_p1 : z_Ob Z h p1 "com/example/variegate/variegate/service/Propagation" z_lay3 [(.int (3 : Int32)), (.ref p2), (.ref p3), (.ref p4), (.ref p5), (.ref p6), (.ref p7), (.ref p8), (.ref p9), (.ref p10), (.ref p11), (.int (0 : Int32)), (.int (0 : Int32)), (.int (0 : Int32))]) (o_p3 : z_Ar Z h p3 .byte "[B" "" z_z8) (o_p4 : z_Ar Z h p4 .int "[I" "" [(.int (0 : Int32)), (.int (0 : Int32)), (.int (0 : Int32)), (.int (0 : Int32))]) (ne_p1_p3 : p1 ≠ p3) (ne_p3_p4 : p3 ≠ p4) (ne_p1_p4 : p1 ≠ p4) (g_p3 : n0 ≤ p3) (g_p1 : n0 ≤ p1) (g_p4 : n0 ≤ p4) (TT : z_R2_1 y10 y11 y12) (hn : (y0 &&& (3 : Int32)) = (2 : Int32)) (hm : (y2 &&& (7 : Int32)) = (1 : Int32)) {p : Program} {e : Env} {s : State} {m : MethodId} {args : Array Value} {below : List Frame} {meth : Method} {c : Code} (C : z_Cx Z p s m meth c x.cls code maxLocals ret x.name) :
    z_At p l e room_1 s m args below meth c n0 (fun v _ => v = some (.int 1)) h 27 131 (mkF m 139 #[.val (.int y0), .val (.int y1), .val (.int y2), .val (.int y3), .val (.ref p0), .val (.ref p1), .val (.int y4), .val (.int y5), .val (.int y6), .val (.int y7), .val (.int y8), .val (.int y9), .val (.int y10), .val (.int y11), .val (.int y12), .unset, .unset, .unset, .unset, .unset, .unset, .unset] []) := by
  refine z_iloadN C at_139 rfl 140 rfl ?_
  refine z_iconst C (v := (3 : Int32)) at_140 (by decide) 141 rfl ?_
  refine z_iand C (z := (2 : Int32)) at_141 hn 142 rfl ?_
  refine z_istore C (Ls' := #[.val (.int y0), .val (.int y1), .val (.int y2), .val (.int y3), .val (.ref p0), .val (.ref p1), .val (.int y4), .val (.int y5), .val (.int y6), .val (.int y7), .val (.int y8), .val (.int y9), .val (.int y10), .val (.int y11), .val (.int y12), .val (.int (2 : Int32)), .unset, .unset, .unset, .unset, .unset, .unset]) at_142 rfl 144 rfl ?_
  refine z_iload C at_144 rfl 146 rfl ?_
  refine z_ifN C at_146 (by decide) 149 rfl ?_
  refine z_aload C at_149 rfl rfl 151 rfl ?_
  refine z_iload C at_151 rfl 153 rfl ?_
  refine z_callVV C o_p1.1 (z_c34_56 l hw S (by omega) old y10 (z_z8) p1 p2 p3 p4 p5 p6 p7 p8 p9 p10 p11 o_p1 o_p3 o_p4 ne_p1_p3 ne_p3_p4 ne_p1_p4 g_p3 g_p1 g_p4 TT.1 TT.2.1 TT.2.2.1 TT.2.2.2.1) (z_w hw 267 rfl) (z_w hw 268 rfl) (z_w hw 270 rfl) (z_w hw 269 rfl) (z_w hw 117 rfl) (z_w hw 271 rfl) (by decide) at_153 rfl (argsL := [(.int y10)]) (rest := []) rfl (lenOf z_pd2 rfl) (W := 0) (Nat.le_of_eq rfl) (by decide) (by decide) (by decide) (by decide) 156 rfl ?_
  rintro h1 ⟨K1, o_p1_1, o_p3_1, o_p4_1⟩
  have s1 : h.size ≤ h1.size := K1.1
  refine z_iload C at_156 rfl 158 rfl ?_
  refine z_iconst C (v := (1 : Int32)) at_158 (by decide) 159 rfl ?_
  refine z_icmpN C at_159 (by decide) 162 rfl ?_
  refine z_aload C at_162 rfl rfl 164 rfl ?_
  refine z_iload C at_164 rfl 166 rfl ?_
  have old1 := (old.keep K1 (allS g_p3 (allS g_p1 (allS g_p4 all0))))
  refine z_callVV C o_p1_1.1 (z_c34_68 l hw S (by omega) old1 y11 y10 ((List.set ((List.set ((z_z8)) (y10).toNatClampNeg (.int (1 : Int32)))) ((y10 ^^^ (1 : Int32))).toNatClampNeg (.int (-1 : Int32)))) p1 p2 p3 p4 p5 p6 p7 p8 p9 p10 p11 o_p1_1 o_p3_1 o_p4_1 ne_p1_p3 ne_p3_p4 ne_p1_p4 g_p3 g_p1 g_p4 TT.2.2.2.2.1 TT.2.2.2.2.2.1 TT.2.2.2.2.2.2.1 TT.2.2.2.2.2.2.2.1) (z_w hw 267 rfl) (z_w hw 268 rfl) (z_w hw 270 rfl) (z_w hw 269 rfl) (z_w hw 117 rfl) (z_w hw 271 rfl) (by decide) at_166 rfl (argsL := [(.int y11)]) (rest := []) rfl (lenOf z_pd2 rfl) (W := 0) (Nat.le_of_eq rfl) (by decide) (by decide) (by decide) (by decide) 169 rfl ?_
  rintro h2 ⟨K2, o_p1_2, o_p3_2, o_p4_2⟩
  have s2 : h1.size ≤ h2.size := K2.1
  refine z_iload C at_169 rfl 171 rfl ?_
  refine z_iconst C (v := (2 : Int32)) at_171 (by decide) 172 rfl ?_
  refine z_icmpY C at_172 (by decide) (by decide) 182 (by decide) ?_
  refine z_iloadN C at_182 rfl 183 rfl ?_
  refine z_bipush C (v := (7 : Int32)) at_183 (by decide) 185 rfl ?_
  refine z_iand C (z := (1 : Int32)) at_185 hm 186 rfl ?_
  refine z_istore C (Ls' := #[.val (.int y0), .val (.int y1), .val (.int y2), .val (.int y3), .val (.ref p0), .val (.ref p1), .val (.int y4), .val (.int y5), .val (.int y6), .val (.int y7), .val (.int y8), .val (.int y9), .val (.int y10), .val (.int y11), .val (.int y12), .val (.int (2 : Int32)), .val (.int (1 : Int32)), .unset, .unset, .unset, .unset, .unset]) at_186 rfl 188 rfl ?_
  refine z_aload C at_188 rfl rfl 190 rfl ?_
  refine z_iload C at_190 rfl 192 rfl ?_
  have old2 := (old1.keep K2 (allS g_p3 (allS g_p1 (allS g_p4 all0))))
  refine z_callVV C o_p1_2.1 (z_c30_72 l hw S (by omega) old2 y10 y11 ((List.set ((List.set (((List.set ((List.set ((z_z8)) (y10).toNatClampNeg (.int (1 : Int32)))) ((y10 ^^^ (1 : Int32))).toNatClampNeg (.int (-1 : Int32))))) (y11).toNatClampNeg (.int (1 : Int32)))) ((y11 ^^^ (1 : Int32))).toNatClampNeg (.int (-1 : Int32)))) p1 p2 p3 p4 p5 p6 p7 p8 p9 p10 p11 o_p1_2 o_p4_2 o_p3_2 ne_p1_p4 ne_p1_p3 g_p1 g_p3 TT.2.2.2.2.1 TT.2.2.2.2.2.2.2.2.1 TT.2.2.2.2.2.2.1 TT.2.2.2.2.2.2.2.2.2.1) (z_w hw 245 rfl) (z_w hw 246 rfl) (z_w hw 248 rfl) (z_w hw 247 rfl) (z_w hw 117 rfl) (z_w hw 249 rfl) (by decide) at_192 rfl (argsL := [(.int (1 : Int32))]) (rest := []) rfl (lenOf z_pd2 rfl) (W := 0) (Nat.le_of_eq rfl) (by decide) (by decide) (by decide) (by decide) 195 rfl ?_
  rintro h3 ⟨K3, o_p1_3, o_p3_3⟩
  have s3 : h2.size ≤ h3.size := K3.1
  refine z_iload C at_195 rfl 197 rfl ?_
  refine z_iload C at_197 rfl 199 rfl ?_
  have old3 := (old2.keep K3 (allS g_p1 (allS g_p3 all0)))
  refine z_callSp C (z_c31_73 l hw S (by omega) old3) (z_w hw 254 rfl) (z_w hw 255 rfl) (z_w hw 102 rfl) (z_w hw 256 rfl) (by decide) at_199 rfl (argsL := [(.int (2 : Int32)), (.int (1 : Int32))]) (rest := []) rfl (lenOf z_pd3 rfl) (W := 0) (Nat.le_of_eq rfl) (by decide) (by decide) (by decide) (by decide) (by decide) (by decide) 202 rfl ?_
  refine z_istore C (Ls' := #[.val (.int y0), .val (.int y1), .val (.int y2), .val (.int y3), .val (.ref p0), .val (.ref p1), .val (.int y4), .val (.int y5), .val (.int y6), .val (.int y7), .val (.int y8), .val (.int y9), .val (.int y10), .val (.int y11), .val (.int y12), .val (.int (2 : Int32)), .val (.int (1 : Int32)), .val (.int (1 : Int32)), .unset, .unset, .unset, .unset]) at_202 rfl 204 rfl ?_
  refine z_iconst C (v := (0 : Int32)) at_204 (by decide) 205 rfl ?_
  refine z_iload C at_205 rfl 207 rfl ?_
  refine z_icmpN C at_207 (by decide) 210 rfl ?_
  refine z_iconst C (v := (1 : Int32)) at_210 (by decide) 211 rfl ?_
  refine z_goto C at_211 (by decide) 215 (by decide) ?_
  refine z_istore C (Ls' := #[.val (.int y0), .val (.int y1), .val (.int y2), .val (.int y3), .val (.ref p0), .val (.ref p1), .val (.int y4), .val (.int y5), .val (.int y6), .val (.int y7), .val (.int y8), .val (.int y9), .val (.int y10), .val (.int y11), .val (.int y12), .val (.int (2 : Int32)), .val (.int (1 : Int32)), .val (.int (1 : Int32)), .val (.int (1 : Int32)), .unset, .unset, .unset]) at_215 rfl 217 rfl ?_
  refine z_iconst C (v := (1 : Int32)) at_217 (by decide) 218 rfl ?_
  refine z_iload C at_218 rfl 220 rfl ?_
  refine z_icmpY C at_220 (by decide) (by decide) 227 (by decide) ?_
  refine z_iconst C (v := (0 : Int32)) at_227 (by decide) 228 rfl ?_
  refine z_istore C (Ls' := #[.val (.int y0), .val (.int y1), .val (.int y2), .val (.int y3), .val (.ref p0), .val (.ref p1), .val (.int y4), .val (.int y5), .val (.int y6), .val (.int y7), .val (.int y8), .val (.int y9), .val (.int y10), .val (.int y11), .val (.int y12), .val (.int (2 : Int32)), .val (.int (1 : Int32)), .val (.int (1 : Int32)), .val (.int (1 : Int32)), .val (.int (0 : Int32)), .unset, .unset]) at_228 rfl 230 rfl ?_
  refine z_iconst C (v := (2 : Int32)) at_230 (by decide) 231 rfl ?_
  refine z_iload C at_231 rfl 233 rfl ?_
  refine z_icmpY C at_233 (by decide) (by decide) 240 (by decide) ?_
  refine z_iconst C (v := (0 : Int32)) at_240 (by decide) 241 rfl ?_
  refine z_istore C (Ls' := #[.val (.int y0), .val (.int y1), .val (.int y2), .val (.int y3), .val (.ref p0), .val (.ref p1), .val (.int y4), .val (.int y5), .val (.int y6), .val (.int y7), .val (.int y8), .val (.int y9), .val (.int y10), .val (.int y11), .val (.int y12), .val (.int (2 : Int32)), .val (.int (1 : Int32)), .val (.int (1 : Int32)), .val (.int (1 : Int32)), .val (.int (0 : Int32)), .val (.int (0 : Int32)), .unset]) at_241 rfl 243 rfl ?_
  refine z_aload C at_243 rfl rfl 245 rfl ?_
  refine z_callVp C o_p1_3.1 (z_c32_74 l hw S (by omega) old3 p1 p2 p3 p4 p5 p6 p7 p8 p9 p10 p11 o_p1_3) (z_w hw 257 rfl) (z_w hw 258 rfl) (z_w hw 260 rfl) (z_w hw 259 rfl) (z_w hw 117 rfl) (z_w hw 261 rfl) (by decide) at_245 rfl (argsL := []) (rest := []) rfl (lenOf z_pd8 rfl) (W := 0) (Nat.le_of_eq rfl) (by decide) (by decide) (by decide) (by decide) (by decide) (by decide) 248 rfl ?_
  refine z_iload C at_248 rfl 250 rfl ?_
  refine z_icmpN C at_250 (by decide) 253 rfl ?_
  refine z_iconst C (v := (1 : Int32)) at_253 (by decide) 254 rfl ?_
  refine z_goto C at_254 (by decide) 258 (by decide) ?_
  refine z_istore C (Ls' := #[.val (.int y0), .val (.int y1), .val (.int y2), .val (.int y3), .val (.ref p0), .val (.ref p1), .val (.int y4), .val (.int y5), .val (.int y6), .val (.int y7), .val (.int y8), .val (.int y9), .val (.int y10), .val (.int y11), .val (.int y12), .val (.int (2 : Int32)), .val (.int (1 : Int32)), .val (.int (1 : Int32)), .val (.int (1 : Int32)), .val (.int (0 : Int32)), .val (.int (0 : Int32)), .val (.int (1 : Int32))]) at_258 rfl 260 rfl ?_
  refine z_iload C at_260 rfl 262 rfl ?_
  refine z_ifN C at_262 (by decide) 265 rfl ?_
  refine z_aload C at_265 rfl rfl 267 rfl ?_
  refine z_iload C at_267 rfl 269 rfl ?_
  refine z_iload C at_269 rfl 271 rfl ?_
  refine z_callSp C (z_c33_75 l hw S (by omega) old3 y10 ((List.set ((List.set (((List.set ((List.set (((List.set ((List.set ((z_z8)) (y10).toNatClampNeg (.int (1 : Int32)))) ((y10 ^^^ (1 : Int32))).toNatClampNeg (.int (-1 : Int32))))) (y11).toNatClampNeg (.int (1 : Int32)))) ((y11 ^^^ (1 : Int32))).toNatClampNeg (.int (-1 : Int32))))) (y11).toNatClampNeg (.int (0 : Int32)))) ((y11 ^^^ (1 : Int32))).toNatClampNeg (.int (0 : Int32)))) p1 p2 p3 p4 p5 p6 p7 p8 p9 p10 p11 o_p1_3 o_p3_3 TT.1 TT.2.2.2.2.2.2.2.2.2.2.1 TT.2.2.1 TT.2.2.2.2.2.2.2.2.2.2.2.1) (z_w hw 262 rfl) (z_w hw 263 rfl) (z_w hw 264 rfl) (z_w hw 265 rfl) (by decide) at_271 rfl (argsL := [(.ref p1), (.int y10), (.int (1 : Int32))]) (rest := []) rfl (lenOf z_pd19 rfl) (W := 0) (Nat.le_of_eq rfl) (by decide) (by decide) (by decide) (by decide) (by decide) (by decide) 274 rfl ?_
  refine z_ifN C at_274 (by decide) 277 rfl ?_
  refine z_aload C at_277 rfl rfl 279 rfl ?_
  refine z_iload C at_279 rfl 281 rfl ?_
  refine z_iload C at_281 rfl 283 rfl ?_
  refine z_callSp C (z_c33_76 l hw S (by omega) old3 y11 ((List.set ((List.set (((List.set ((List.set (((List.set ((List.set ((z_z8)) (y10).toNatClampNeg (.int (1 : Int32)))) ((y10 ^^^ (1 : Int32))).toNatClampNeg (.int (-1 : Int32))))) (y11).toNatClampNeg (.int (1 : Int32)))) ((y11 ^^^ (1 : Int32))).toNatClampNeg (.int (-1 : Int32))))) (y11).toNatClampNeg (.int (0 : Int32)))) ((y11 ^^^ (1 : Int32))).toNatClampNeg (.int (0 : Int32)))) p1 p2 p3 p4 p5 p6 p7 p8 p9 p10 p11 o_p1_3 o_p3_3 TT.2.2.2.2.1 TT.2.2.2.2.2.2.2.2.2.2.2.2.1 TT.2.2.2.2.2.2.1 TT.2.2.2.2.2.2.2.2.2.2.2.2.2.1) (z_w hw 262 rfl) (z_w hw 263 rfl) (z_w hw 264 rfl) (z_w hw 265 rfl) (by decide) at_283 rfl (argsL := [(.ref p1), (.int y11), (.int (0 : Int32))]) (rest := []) rfl (lenOf z_pd19 rfl) (W := 0) (Nat.le_of_eq rfl) (by decide) (by decide) (by decide) (by decide) (by decide) (by decide) 286 rfl ?_
  refine z_ifN C at_286 (by decide) 289 rfl ?_
  refine z_aload C at_289 rfl rfl 291 rfl ?_
  refine z_iload C at_291 rfl 293 rfl ?_
  refine z_iload C at_293 rfl 295 rfl ?_
  refine z_callSp C (z_c33_76 l hw S (by omega) old3 y12 ((List.set ((List.set (((List.set ((List.set (((List.set ((List.set ((z_z8)) (y10).toNatClampNeg (.int (1 : Int32)))) ((y10 ^^^ (1 : Int32))).toNatClampNeg (.int (-1 : Int32))))) (y11).toNatClampNeg (.int (1 : Int32)))) ((y11 ^^^ (1 : Int32))).toNatClampNeg (.int (-1 : Int32))))) (y11).toNatClampNeg (.int (0 : Int32)))) ((y11 ^^^ (1 : Int32))).toNatClampNeg (.int (0 : Int32)))) p1 p2 p3 p4 p5 p6 p7 p8 p9 p10 p11 o_p1_3 o_p3_3 TT.2.2.2.2.2.2.2.2.2.2.2.2.2.2.1 TT.2.2.2.2.2.2.2.2.2.2.2.2.2.2.2.1 TT.2.2.2.2.2.2.2.2.2.2.2.2.2.2.2.2.1 TT.2.2.2.2.2.2.2.2.2.2.2.2.2.2.2.2.2.1) (z_w hw 262 rfl) (z_w hw 263 rfl) (z_w hw 264 rfl) (z_w hw 265 rfl) (by decide) at_295 rfl (argsL := [(.ref p1), (.int y12), (.int (0 : Int32))]) (rest := []) rfl (lenOf z_pd19 rfl) (W := 0) (Nat.le_of_eq rfl) (by decide) (by decide) (by decide) (by decide) (by decide) (by decide) 298 rfl ?_
  refine z_ifN C at_298 (by decide) 301 rfl ?_
  refine z_iconst C (v := (1 : Int32)) at_301 (by decide) 302 rfl ?_
  refine z_goto C at_302 (by decide) 306 (by decide) ?_
  refine z_istore C (Ls' := #[.val (.int y0), .val (.int y1), .val (.int y2), .val (.int y3), .val (.ref p0), .val (.ref p1), .val (.int y4), .val (.int y5), .val (.int y6), .val (.int y7), .val (.int y8), .val (.int y9), .val (.int y10), .val (.int y11), .val (.int y12), .val (.int (2 : Int32)), .val (.int (1 : Int32)), .val (.int (1 : Int32)), .val (.int (1 : Int32)), .val (.int (0 : Int32)), .val (.int (0 : Int32)), .val (.int (1 : Int32))]) at_306 rfl 308 rfl ?_
  refine z_iload C at_308 rfl 310 rfl ?_
  refine z_ifN C at_310 (by decide) 313 rfl ?_
  refine z_aload C at_313 rfl rfl 315 rfl ?_
  refine z_getO C (z_w hw 266 rfl) Via.refl o_p1_3 2 rfl rfl at_315 318 rfl ?_
  refine z_iconst C (v := (0 : Int32)) at_318 (by decide) 319 rfl ?_
  refine z_baload C o_p3_3 (by decide) TT.2.2.2.2.2.2.2.2.2.2.2.2.2.2.2.2.2.2.1 at_319 320 rfl ?_
  refine z_ifN C at_320 (by decide) 323 rfl ?_
  refine z_aload C at_323 rfl rfl 325 rfl ?_
  refine z_getO C (z_w hw 266 rfl) Via.refl o_p1_3 2 rfl rfl at_325 328 rfl ?_
  refine z_iconst C (v := (1 : Int32)) at_328 (by decide) 329 rfl ?_
  refine z_baload C o_p3_3 (by decide) TT.2.2.2.2.2.2.2.2.2.2.2.2.2.2.2.2.2.2.2 at_329 330 rfl ?_
  refine z_ifN C at_330 (by decide) 333 rfl ?_
  refine z_iconst C (v := (1 : Int32)) at_333 (by decide) 334 rfl ?_
  refine z_goto C at_334 (by decide) 338 (by decide) ?_
  refine z_istore C (Ls' := #[.val (.int y0), .val (.int y1), .val (.int y2), .val (.int y3), .val (.ref p0), .val (.ref p1), .val (.int y4), .val (.int y5), .val (.int y6), .val (.int y7), .val (.int y8), .val (.int y9), .val (.int y10), .val (.int y11), .val (.int y12), .val (.int (2 : Int32)), .val (.int (1 : Int32)), .val (.int (1 : Int32)), .val (.int (1 : Int32)), .val (.int (0 : Int32)), .val (.int (0 : Int32)), .val (.int (1 : Int32))]) at_338 rfl 340 rfl ?_
  refine z_iload C at_340 rfl 342 rfl ?_
  refine z_ifN C at_342 (by decide) 345 rfl ?_
  refine z_iload C at_345 rfl 347 rfl ?_
  refine z_ifN C at_347 (by decide) 350 rfl ?_
  refine z_aload C at_350 rfl rfl 352 rfl ?_
  refine z_getO C (z_w hw 272 rfl) Via.refl o_p1_3 3 rfl rfl at_352 355 rfl ?_
  refine z_iconst C (v := (0 : Int32)) at_355 (by decide) 356 rfl ?_
  have o_p4_3 := (o_p4_2.keep K3 (ninS (Ne.symm ne_p1_p4) (ninS (Ne.symm ne_p3_p4) nin0)))
  refine z_iaload C o_p4_3 (by decide) (v := (.int y10)) (by rfl) at_356 357 rfl ?_
  refine z_iload C at_357 rfl 359 rfl ?_
  refine z_icmpN C at_359 (teq rfl).2 362 rfl ?_
  refine z_iconst C (v := (1 : Int32)) at_362 (by decide) 363 rfl ?_
  refine z_goto C at_363 (by decide) 367 (by decide) ?_
  refine z_istore C (Ls' := #[.val (.int y0), .val (.int y1), .val (.int y2), .val (.int y3), .val (.ref p0), .val (.ref p1), .val (.int y4), .val (.int y5), .val (.int y6), .val (.int y7), .val (.int y8), .val (.int y9), .val (.int y10), .val (.int y11), .val (.int y12), .val (.int (2 : Int32)), .val (.int (1 : Int32)), .val (.int (1 : Int32)), .val (.int (1 : Int32)), .val (.int (0 : Int32)), .val (.int (0 : Int32)), .val (.int (1 : Int32))]) at_367 rfl 369 rfl ?_
  refine z_iload C at_369 rfl 371 rfl ?_
  refine z_ifY C at_371 (by decide) (by decide) 398 (by decide) ?_
  refine z_iload C at_398 rfl 400 rfl ?_
  refine z_ifY C at_400 (by decide) (by decide) 427 (by decide) ?_
  refine z_iload C at_427 rfl 429 rfl ?_
  exact z_ireturn C (by simp) rfl at_429 (by decide) (by decide) rfl
set_option maxHeartbeats 2000000 in
theorem z_c30_78 (l : Launch) {Z : State} {a0 : Array Value} (hw : ∀ d ∈ tables_1, d.before a0 Z = true) {n0 : Nat} {h : Heap} {a_DEF a_ONE a_NONE : Nat} (S : z_St Z a_DEF a_ONE a_NONE) (z0 : n0 ≤ h.size) (old : Old Z n0 h) (y0 : Int32) (p0 : Nat) (p1 : Nat) (p2 : Nat) (p3 : Nat) (p4 : Nat) (p5 : Nat) (p6 : Nat) (p7 : Nat) (p8 : Nat) (p9 : Nat) (p10 : Nat) (o_p0 : z_Ob Z h p0 "com/example/variegate/variegate/service/Propagation" z_lay3 [(.int (3 : Int32)), (.ref p1), (.ref p2), (.ref p3), (.ref p4), (.ref p5), (.ref p6), (.ref p7), (.ref p8), (.ref p9), (.ref p10), (.int (2 : Int32)), (.int (0 : Int32)), (.int (0 : Int32))]) (g_p0 : n0 ≤ p0) (rq0 : ¬ y0 < (2 : Int32)) :
    z_Met l Z (⟨"com/example/variegate/variegate/service/Propagation", "backtrack", "(I)V"⟩ : MethodName) prog_97_method_11_code 3 none [] ({ frames := 0, cells := 0, slots := 0, locals := 0 } : Room) n0 #[(.ref p0), (.int y0)] h (z_nov fun h' => Keep h h' [p0] ∧ z_Ob Z h' p0 "com/example/variegate/variegate/service/Propagation" z_lay3 [(.int (3 : Int32)), (.ref p1), (.ref p2), (.ref p3), (.ref p4), (.ref p5), (.ref p6), (.ref p7), (.ref p8), (.ref p9), (.ref p10), (.int (2 : Int32)), (.int y0), (.int (0 : Int32))]) := by
  refine z_met (Ls := #[.val (.ref p0), .val (.int y0), .unset]) (by first | exact plainFor_of_name (by first | (simp [plainName, overriddenIn]; done) | decide +kernel) | decide +kernel) rfl ?_
  intro p e s m below meth c C
  refine z_aloadN C z_d30_0 rfl rfl 1 rfl ?_
  refine z_getO C (z_w hw 250 rfl) Via.refl o_p0 11 rfl rfl z_d30_1 4 rfl ?_
  refine z_iloadN C z_d30_4 rfl 5 rfl ?_
  refine z_icmpY C z_d30_5 (flt rq0).2.2.2 (by decide) 44 (by decide) ?_
  refine z_aloadN C z_d30_44 rfl rfl 45 rfl ?_
  refine z_iloadN C z_d30_45 rfl 46 rfl ?_
  refine z_putO C (z_w hw 252 rfl) Via.refl o_p0 (z_lay3_ok hw) 12 rfl (vs' := [(.int (3 : Int32)), (.ref p1), (.ref p2), (.ref p3), (.ref p4), (.ref p5), (.ref p6), (.ref p7), (.ref p8), (.ref p9), (.ref p10), (.int (2 : Int32)), (.int y0), (.int (0 : Int32))]) rfl (Or.inl (z_w hw 253 rfl)) (z_w hw 116 rfl) (ty := .int) (by decide) (by first | rfl | decide) (by first | rfl | decide) g_p0 z_d30_46 49 rfl ?_
  intro h1 W1 o_p0_1
  have s1 : h1.size = h.size := W1.size
  have k1 : Keep h h1 [p0] := (Keep.refl h [p0]).wr W1 (Or.inl (by simp))
  exact z_return C z_d30_49 (by decide) (by decide) ⟨rfl, k1, o_p0_1⟩
set_option maxHeartbeats 2000000 in
theorem z_c31_79 (l : Launch) {Z : State} {a0 : Array Value} (hw : ∀ d ∈ tables_1, d.before a0 Z = true) {n0 : Nat} {h : Heap} {a_DEF a_ONE a_NONE : Nat} (S : z_St Z a_DEF a_ONE a_NONE) (z0 : n0 ≤ h.size) (old : Old Z n0 h) (y0 : Int32) (rq0 : ¬ y0 < (2 : Int32)) :
    z_Met l Z (⟨"java/lang/Math", "min", "(II)I"⟩ : MethodName) jdk_29_method_69_code 2 (some .int) [] ({ frames := 0, cells := 0, slots := 0, locals := 0 } : Room) n0 #[(.int (2 : Int32)), (.int y0)] h (z_pure (.int (2 : Int32)) h) := by
  refine z_met (Ls := #[.val (.int (2 : Int32)), .val (.int y0)]) (by first | exact plainFor_of_name (by first | (simp [plainName, overriddenIn]; done) | decide +kernel) | decide +kernel) rfl ?_
  intro p e s m below meth c C
  refine z_iloadN C z_d31_0 rfl 1 rfl ?_
  refine z_iloadN C z_d31_1 rfl 2 rfl ?_
  refine z_icmpN C z_d31_2 (flt rq0).2.2.1 5 rfl ?_
  refine z_iloadN C z_d31_5 rfl 6 rfl ?_
  refine z_goto C z_d31_6 (by decide) 10 (by decide) ?_
  exact z_ireturn C (Or.inl rfl) rfl z_d31_10 (by decide) (by decide) ⟨rfl, rfl⟩
set_option maxHeartbeats 2000000 in
theorem z_c32_80 (l : Launch) {Z : State} {a0 : Array Value} (hw : ∀ d ∈ tables_1, d.before a0 Z = true) {n0 : Nat} {h : Heap} {a_DEF a_ONE a_NONE : Nat} (S : z_St Z a_DEF a_ONE a_NONE) (z0 : n0 ≤ h.size) (old : Old Z n0 h) (y0 : Int32) (p0 : Nat) (p1 : Nat) (p2 : Nat) (p3 : Nat) (p4 : Nat) (p5 : Nat) (p6 : Nat) (p7 : Nat) (p8 : Nat) (p9 : Nat) (p10 : Nat) (o_p0 : z_Ob Z h p0 "com/example/variegate/variegate/service/Propagation" z_lay3 [(.int (3 : Int32)), (.ref p1), (.ref p2), (.ref p3), (.ref p4), (.ref p5), (.ref p6), (.ref p7), (.ref p8), (.ref p9), (.ref p10), (.int (2 : Int32)), (.int y0), (.int (0 : Int32))]) :
    z_Met l Z (⟨"com/example/variegate/variegate/service/Propagation", "trailSize", "()I"⟩ : MethodName) prog_97_method_6_code 1 (some .int) [] ({ frames := 0, cells := 0, slots := 0, locals := 0 } : Room) n0 #[(.ref p0)] h (z_pure (.int (2 : Int32)) h) := by
  refine z_met (Ls := #[.val (.ref p0)]) (by first | exact plainFor_of_name (by first | (simp [plainName, overriddenIn]; done) | decide +kernel) | decide +kernel) rfl ?_
  intro p e s m below meth c C
  refine z_aloadN C z_d32_0 rfl rfl 1 rfl ?_
  refine z_getO C (z_w hw 250 rfl) Via.refl o_p0 11 rfl rfl z_d32_1 4 rfl ?_
  exact z_ireturn C (Or.inl rfl) rfl z_d32_4 (by decide) (by decide) ⟨rfl, rfl⟩
set_option maxHeartbeats 2000000 in
theorem z_c33_81 (l : Launch) {Z : State} {a0 : Array Value} (hw : ∀ d ∈ tables_1, d.before a0 Z = true) {n0 : Nat} {h : Heap} {a_DEF a_ONE a_NONE : Nat} (S : z_St Z a_DEF a_ONE a_NONE) (z0 : n0 ≤ h.size) (old : Old Z n0 h) (y0 : Int32) (y1 : Int32) (va0 : List Value) (p0 : Nat) (p1 : Nat) (p2 : Nat) (p3 : Nat) (p4 : Nat) (p5 : Nat) (p6 : Nat) (p7 : Nat) (p8 : Nat) (p9 : Nat) (p10 : Nat) (o_p0 : z_Ob Z h p0 "com/example/variegate/variegate/service/Propagation" z_lay3 [(.int (3 : Int32)), (.ref p1), (.ref p2), (.ref p3), (.ref p4), (.ref p5), (.ref p6), (.ref p7), (.ref p8), (.ref p9), (.ref p10), (.int (2 : Int32)), (.int y1), (.int (0 : Int32))]) (o_p2 : z_Ar Z h p2 .byte "[B" "" va0) (rq0 : ¬ y0 < 0) (rq1 : (va0)[(y0).toNatClampNeg]? = some (.int (1 : Int32))) (rq2 : ¬ (y0 ^^^ (1 : Int32)) < 0) (rq3 : (va0)[((y0 ^^^ (1 : Int32))).toNatClampNeg]? = some (.int (-1 : Int32))) :
    z_Met l Z (⟨"com/example/variegate/variegate/service/PropagationBacktrackPinLaw", "check", "(Lcom/example/variegate/variegate/service/Propagation;IZ)Z"⟩ : MethodName) method_2_code 5 (some .boolean) [] ({ frames := 0, cells := 0, slots := 0, locals := 0 } : Room) n0 #[(.ref p0), (.int y0), (.int (1 : Int32))] h (z_pure (.int (1 : Int32)) h) := by
  refine z_met (Ls := #[.val (.ref p0), .val (.int y0), .val (.int (1 : Int32)), .unset, .unset]) (by first | exact plainFor_of_name (by first | (simp [plainName, overriddenIn]; done) | decide +kernel) | decide +kernel) rfl ?_
  intro p e s m below meth c C
  refine z_iloadN C z_d33_0 rfl 1 rfl ?_
  refine z_ifN C z_d33_1 (by decide) 4 rfl ?_
  refine z_iconst C (v := (1 : Int32)) z_d33_4 (by decide) 5 rfl ?_
  refine z_goto C z_d33_5 (by decide) 9 (by decide) ?_
  refine z_istoreN C (Ls' := #[.val (.ref p0), .val (.int y0), .val (.int (1 : Int32)), .val (.int (1 : Int32)), .unset]) z_d33_9 rfl 10 rfl ?_
  refine z_iloadN C z_d33_10 rfl 11 rfl ?_
  refine z_ifN C z_d33_11 (by decide) 14 rfl ?_
  refine z_iconst C (v := (-1 : Int32)) z_d33_14 (by decide) 15 rfl ?_
  refine z_goto C z_d33_15 (by decide) 19 (by decide) ?_
  refine z_istore C (Ls' := #[.val (.ref p0), .val (.int y0), .val (.int (1 : Int32)), .val (.int (1 : Int32)), .val (.int (-1 : Int32))]) z_d33_19 rfl 21 rfl ?_
  refine z_aloadN C z_d33_21 rfl rfl 22 rfl ?_
  refine z_getO C (z_w hw 266 rfl) Via.refl o_p0 2 rfl rfl z_d33_22 25 rfl ?_
  refine z_iloadN C z_d33_25 rfl 26 rfl ?_
  refine z_baload C o_p2 rq0 rq1 z_d33_26 27 rfl ?_
  refine z_iloadN C z_d33_27 rfl 28 rfl ?_
  refine z_icmpN C z_d33_28 (by decide) 31 rfl ?_
  refine z_aloadN C z_d33_31 rfl rfl 32 rfl ?_
  refine z_getO C (z_w hw 266 rfl) Via.refl o_p0 2 rfl rfl z_d33_32 35 rfl ?_
  refine z_iloadN C z_d33_35 rfl 36 rfl ?_
  refine z_iconst C (v := (1 : Int32)) z_d33_36 (by decide) 37 rfl ?_
  refine z_ixor C z_d33_37 rfl 38 rfl ?_
  refine z_baload C o_p2 rq2 rq3 z_d33_38 39 rfl ?_
  refine z_iload C z_d33_39 rfl 41 rfl ?_
  refine z_icmpN C z_d33_41 (by decide) 44 rfl ?_
  refine z_iconst C (v := (1 : Int32)) z_d33_44 (by decide) 45 rfl ?_
  refine z_goto C z_d33_45 (by decide) 49 (by decide) ?_
  exact z_ireturn C (by simp) rfl z_d33_49 (by decide) (by decide) ⟨rfl, rfl⟩
set_option maxHeartbeats 2000000 in
theorem z_c33_82 (l : Launch) {Z : State} {a0 : Array Value} (hw : ∀ d ∈ tables_1, d.before a0 Z = true) {n0 : Nat} {h : Heap} {a_DEF a_ONE a_NONE : Nat} (S : z_St Z a_DEF a_ONE a_NONE) (z0 : n0 ≤ h.size) (old : Old Z n0 h) (y0 : Int32) (y1 : Int32) (va0 : List Value) (p0 : Nat) (p1 : Nat) (p2 : Nat) (p3 : Nat) (p4 : Nat) (p5 : Nat) (p6 : Nat) (p7 : Nat) (p8 : Nat) (p9 : Nat) (p10 : Nat) (o_p0 : z_Ob Z h p0 "com/example/variegate/variegate/service/Propagation" z_lay3 [(.int (3 : Int32)), (.ref p1), (.ref p2), (.ref p3), (.ref p4), (.ref p5), (.ref p6), (.ref p7), (.ref p8), (.ref p9), (.ref p10), (.int (2 : Int32)), (.int y1), (.int (0 : Int32))]) (o_p2 : z_Ar Z h p2 .byte "[B" "" va0) (rq0 : ¬ y0 < 0) (rq1 : (va0)[(y0).toNatClampNeg]? = some (.int (0 : Int32))) (rq2 : ¬ (y0 ^^^ (1 : Int32)) < 0) (rq3 : (va0)[((y0 ^^^ (1 : Int32))).toNatClampNeg]? = some (.int (0 : Int32))) :
    z_Met l Z (⟨"com/example/variegate/variegate/service/PropagationBacktrackPinLaw", "check", "(Lcom/example/variegate/variegate/service/Propagation;IZ)Z"⟩ : MethodName) method_2_code 5 (some .boolean) [] ({ frames := 0, cells := 0, slots := 0, locals := 0 } : Room) n0 #[(.ref p0), (.int y0), (.int (0 : Int32))] h (z_pure (.int (1 : Int32)) h) := by
  refine z_met (Ls := #[.val (.ref p0), .val (.int y0), .val (.int (0 : Int32)), .unset, .unset]) (by first | exact plainFor_of_name (by first | (simp [plainName, overriddenIn]; done) | decide +kernel) | decide +kernel) rfl ?_
  intro p e s m below meth c C
  refine z_iloadN C z_d33_0 rfl 1 rfl ?_
  refine z_ifY C z_d33_1 (by decide) (by decide) 8 (by decide) ?_
  refine z_iconst C (v := (0 : Int32)) z_d33_8 (by decide) 9 rfl ?_
  refine z_istoreN C (Ls' := #[.val (.ref p0), .val (.int y0), .val (.int (0 : Int32)), .val (.int (0 : Int32)), .unset]) z_d33_9 rfl 10 rfl ?_
  refine z_iloadN C z_d33_10 rfl 11 rfl ?_
  refine z_ifY C z_d33_11 (by decide) (by decide) 18 (by decide) ?_
  refine z_iconst C (v := (0 : Int32)) z_d33_18 (by decide) 19 rfl ?_
  refine z_istore C (Ls' := #[.val (.ref p0), .val (.int y0), .val (.int (0 : Int32)), .val (.int (0 : Int32)), .val (.int (0 : Int32))]) z_d33_19 rfl 21 rfl ?_
  refine z_aloadN C z_d33_21 rfl rfl 22 rfl ?_
  refine z_getO C (z_w hw 266 rfl) Via.refl o_p0 2 rfl rfl z_d33_22 25 rfl ?_
  refine z_iloadN C z_d33_25 rfl 26 rfl ?_
  refine z_baload C o_p2 rq0 rq1 z_d33_26 27 rfl ?_
  refine z_iloadN C z_d33_27 rfl 28 rfl ?_
  refine z_icmpN C z_d33_28 (by decide) 31 rfl ?_
  refine z_aloadN C z_d33_31 rfl rfl 32 rfl ?_
  refine z_getO C (z_w hw 266 rfl) Via.refl o_p0 2 rfl rfl z_d33_32 35 rfl ?_
  refine z_iloadN C z_d33_35 rfl 36 rfl ?_
  refine z_iconst C (v := (1 : Int32)) z_d33_36 (by decide) 37 rfl ?_
  refine z_ixor C z_d33_37 rfl 38 rfl ?_
  refine z_baload C o_p2 rq2 rq3 z_d33_38 39 rfl ?_
  refine z_iload C z_d33_39 rfl 41 rfl ?_
  refine z_icmpN C z_d33_41 (by decide) 44 rfl ?_
  refine z_iconst C (v := (1 : Int32)) z_d33_44 (by decide) 45 rfl ?_
  refine z_goto C z_d33_45 (by decide) 49 (by decide) ?_
  exact z_ireturn C (by simp) rfl z_d33_49 (by decide) (by decide) ⟨rfl, rfl⟩
set_option maxHeartbeats 8000000 in
theorem z_seg83 (l : Launch) {Z : State} {a0 : Array Value} (hw : ∀ d ∈ tables_1, d.before a0 Z = true) {n0 : Nat} {h : Heap} {a_DEF a_ONE a_NONE : Nat} (S : z_St Z a_DEF a_ONE a_NONE) (z0 : n0 ≤ h.size) (old : Old Z n0 h) (y0 : Int32) (y1 : Int32) (y2 : Int32) (y3 : Int32) (y4 : Int32) (y5 : Int32) (y6 : Int32) (y7 : Int32) (y8 : Int32) (y9 : Int32) (y10 : Int32) (y11 : Int32) (y12 : Int32) (p0 : Nat) (p1 : Nat) (p2 : Nat) (p3 : Nat) (p4 : Nat) (p5 : Nat) (p6 : Nat) (p7 : Nat) (p8 : Nat) (p9 : Nat) (p10 : Nat) (p11 : Nat) (o_p1 : z_Ob Z h p1 "com/example/variegate/variegate/service/Propagation" z_lay3 [(.int (3 : Int32)), (.ref p2), (.ref p3), (.ref p4), (.ref p5), (.ref p6), (.ref p7), (.ref p8), (.ref p9), (.ref p10), (.ref p11), (.int (0 : Int32)), (.int (0 : Int32)), (.int (0 : Int32))]) (o_p3 : z_Ar Z h p3 .byte "[B" "" z_z8) (o_p4 : z_Ar Z h p4 .int "[I" "" [(.int (0 : Int32)), (.int (0 : Int32)), (.int (0 : Int32)), (.int (0 : Int32))]) (ne_p1_p3 : p1 ≠ p3) (ne_p3_p4 : p3 ≠ p4) (ne_p1_p4 : p1 ≠ p4) (g_p3 : n0 ≤ p3) (g_p1 : n0 ≤ p1) (g_p4 : n0 ≤ p4) (TT : z_R2_2 y10 y11 y12) (hn : (y0 &&& (3 : Int32)) = (2 : Int32)) (hm : ¬ (y2 &&& (7 : Int32)) < (2 : Int32)) {p : Program} {e : Env} {s : State} {m : MethodId} {args : Array Value} {below : List Frame} {meth : Method} {c : Code} (C : z_Cx Z p s m meth c x.cls code maxLocals ret x.name) :
    z_At p l e room_1 s m args below meth c n0 (fun v _ => v = some (.int 1)) h 27 131 (mkF m 139 #[.val (.int y0), .val (.int y1), .val (.int y2), .val (.int y3), .val (.ref p0), .val (.ref p1), .val (.int y4), .val (.int y5), .val (.int y6), .val (.int y7), .val (.int y8), .val (.int y9), .val (.int y10), .val (.int y11), .val (.int y12), .unset, .unset, .unset, .unset, .unset, .unset, .unset] []) := by
  refine z_iloadN C at_139 rfl 140 rfl ?_
  refine z_iconst C (v := (3 : Int32)) at_140 (by decide) 141 rfl ?_
  refine z_iand C (z := (2 : Int32)) at_141 hn 142 rfl ?_
  refine z_istore C (Ls' := #[.val (.int y0), .val (.int y1), .val (.int y2), .val (.int y3), .val (.ref p0), .val (.ref p1), .val (.int y4), .val (.int y5), .val (.int y6), .val (.int y7), .val (.int y8), .val (.int y9), .val (.int y10), .val (.int y11), .val (.int y12), .val (.int (2 : Int32)), .unset, .unset, .unset, .unset, .unset, .unset]) at_142 rfl 144 rfl ?_
  refine z_iload C at_144 rfl 146 rfl ?_
  refine z_ifN C at_146 (by decide) 149 rfl ?_
  refine z_aload C at_149 rfl rfl 151 rfl ?_
  refine z_iload C at_151 rfl 153 rfl ?_
  refine z_callVV C o_p1.1 (z_c34_56 l hw S (by omega) old y10 (z_z8) p1 p2 p3 p4 p5 p6 p7 p8 p9 p10 p11 o_p1 o_p3 o_p4 ne_p1_p3 ne_p3_p4 ne_p1_p4 g_p3 g_p1 g_p4 TT.1 TT.2.1 TT.2.2.1 TT.2.2.2.1) (z_w hw 267 rfl) (z_w hw 268 rfl) (z_w hw 270 rfl) (z_w hw 269 rfl) (z_w hw 117 rfl) (z_w hw 271 rfl) (by decide) at_153 rfl (argsL := [(.int y10)]) (rest := []) rfl (lenOf z_pd2 rfl) (W := 0) (Nat.le_of_eq rfl) (by decide) (by decide) (by decide) (by decide) 156 rfl ?_
  rintro h1 ⟨K1, o_p1_1, o_p3_1, o_p4_1⟩
  have s1 : h.size ≤ h1.size := K1.1
  refine z_iload C at_156 rfl 158 rfl ?_
  refine z_iconst C (v := (1 : Int32)) at_158 (by decide) 159 rfl ?_
  refine z_icmpN C at_159 (by decide) 162 rfl ?_
  refine z_aload C at_162 rfl rfl 164 rfl ?_
  refine z_iload C at_164 rfl 166 rfl ?_
  have old1 := (old.keep K1 (allS g_p3 (allS g_p1 (allS g_p4 all0))))
  refine z_callVV C o_p1_1.1 (z_c34_68 l hw S (by omega) old1 y11 y10 ((List.set ((List.set ((z_z8)) (y10).toNatClampNeg (.int (1 : Int32)))) ((y10 ^^^ (1 : Int32))).toNatClampNeg (.int (-1 : Int32)))) p1 p2 p3 p4 p5 p6 p7 p8 p9 p10 p11 o_p1_1 o_p3_1 o_p4_1 ne_p1_p3 ne_p3_p4 ne_p1_p4 g_p3 g_p1 g_p4 TT.2.2.2.2.1 TT.2.2.2.2.2.1 TT.2.2.2.2.2.2.1 TT.2.2.2.2.2.2.2.1) (z_w hw 267 rfl) (z_w hw 268 rfl) (z_w hw 270 rfl) (z_w hw 269 rfl) (z_w hw 117 rfl) (z_w hw 271 rfl) (by decide) at_166 rfl (argsL := [(.int y11)]) (rest := []) rfl (lenOf z_pd2 rfl) (W := 0) (Nat.le_of_eq rfl) (by decide) (by decide) (by decide) (by decide) 169 rfl ?_
  rintro h2 ⟨K2, o_p1_2, o_p3_2, o_p4_2⟩
  have s2 : h1.size ≤ h2.size := K2.1
  refine z_iload C at_169 rfl 171 rfl ?_
  refine z_iconst C (v := (2 : Int32)) at_171 (by decide) 172 rfl ?_
  refine z_icmpY C at_172 (by decide) (by decide) 182 (by decide) ?_
  refine z_iloadN C at_182 rfl 183 rfl ?_
  refine z_bipush C (v := (7 : Int32)) at_183 (by decide) 185 rfl ?_
  refine z_iand C at_185 rfl 186 rfl ?_
  refine z_istore C (Ls' := #[.val (.int y0), .val (.int y1), .val (.int y2), .val (.int y3), .val (.ref p0), .val (.ref p1), .val (.int y4), .val (.int y5), .val (.int y6), .val (.int y7), .val (.int y8), .val (.int y9), .val (.int y10), .val (.int y11), .val (.int y12), .val (.int (2 : Int32)), .val (.int (y2 &&& (7 : Int32))), .unset, .unset, .unset, .unset, .unset]) at_186 rfl 188 rfl ?_
  refine z_aload C at_188 rfl rfl 190 rfl ?_
  refine z_iload C at_190 rfl 192 rfl ?_
  have old2 := (old1.keep K2 (allS g_p3 (allS g_p1 (allS g_p4 all0))))
  refine z_callVV C o_p1_2.1 (z_c30_78 l hw S (by omega) old2 (y2 &&& (7 : Int32)) p1 p2 p3 p4 p5 p6 p7 p8 p9 p10 p11 o_p1_2 g_p1 hm) (z_w hw 245 rfl) (z_w hw 246 rfl) (z_w hw 248 rfl) (z_w hw 247 rfl) (z_w hw 117 rfl) (z_w hw 249 rfl) (by decide) at_192 rfl (argsL := [(.int (y2 &&& (7 : Int32)))]) (rest := []) rfl (lenOf z_pd2 rfl) (W := 0) (Nat.le_of_eq rfl) (by decide) (by decide) (by decide) (by decide) 195 rfl ?_
  rintro h3 ⟨K3, o_p1_3⟩
  have s3 : h2.size ≤ h3.size := K3.1
  refine z_iload C at_195 rfl 197 rfl ?_
  refine z_iload C at_197 rfl 199 rfl ?_
  have old3 := (old2.keep K3 (allS g_p1 all0))
  refine z_callSp C (z_c31_79 l hw S (by omega) old3 (y2 &&& (7 : Int32)) hm) (z_w hw 254 rfl) (z_w hw 255 rfl) (z_w hw 102 rfl) (z_w hw 256 rfl) (by decide) at_199 rfl (argsL := [(.int (2 : Int32)), (.int (y2 &&& (7 : Int32)))]) (rest := []) rfl (lenOf z_pd3 rfl) (W := 0) (Nat.le_of_eq rfl) (by decide) (by decide) (by decide) (by decide) (by decide) (by decide) 202 rfl ?_
  refine z_istore C (Ls' := #[.val (.int y0), .val (.int y1), .val (.int y2), .val (.int y3), .val (.ref p0), .val (.ref p1), .val (.int y4), .val (.int y5), .val (.int y6), .val (.int y7), .val (.int y8), .val (.int y9), .val (.int y10), .val (.int y11), .val (.int y12), .val (.int (2 : Int32)), .val (.int (y2 &&& (7 : Int32))), .val (.int (2 : Int32)), .unset, .unset, .unset, .unset]) at_202 rfl 204 rfl ?_
  refine z_iconst C (v := (0 : Int32)) at_204 (by decide) 205 rfl ?_
  refine z_iload C at_205 rfl 207 rfl ?_
  refine z_icmpN C at_207 (by decide) 210 rfl ?_
  refine z_iconst C (v := (1 : Int32)) at_210 (by decide) 211 rfl ?_
  refine z_goto C at_211 (by decide) 215 (by decide) ?_
  refine z_istore C (Ls' := #[.val (.int y0), .val (.int y1), .val (.int y2), .val (.int y3), .val (.ref p0), .val (.ref p1), .val (.int y4), .val (.int y5), .val (.int y6), .val (.int y7), .val (.int y8), .val (.int y9), .val (.int y10), .val (.int y11), .val (.int y12), .val (.int (2 : Int32)), .val (.int (y2 &&& (7 : Int32))), .val (.int (2 : Int32)), .val (.int (1 : Int32)), .unset, .unset, .unset]) at_215 rfl 217 rfl ?_
  refine z_iconst C (v := (1 : Int32)) at_217 (by decide) 218 rfl ?_
  refine z_iload C at_218 rfl 220 rfl ?_
  refine z_icmpN C at_220 (by decide) 223 rfl ?_
  refine z_iconst C (v := (1 : Int32)) at_223 (by decide) 224 rfl ?_
  refine z_goto C at_224 (by decide) 228 (by decide) ?_
  refine z_istore C (Ls' := #[.val (.int y0), .val (.int y1), .val (.int y2), .val (.int y3), .val (.ref p0), .val (.ref p1), .val (.int y4), .val (.int y5), .val (.int y6), .val (.int y7), .val (.int y8), .val (.int y9), .val (.int y10), .val (.int y11), .val (.int y12), .val (.int (2 : Int32)), .val (.int (y2 &&& (7 : Int32))), .val (.int (2 : Int32)), .val (.int (1 : Int32)), .val (.int (1 : Int32)), .unset, .unset]) at_228 rfl 230 rfl ?_
  refine z_iconst C (v := (2 : Int32)) at_230 (by decide) 231 rfl ?_
  refine z_iload C at_231 rfl 233 rfl ?_
  refine z_icmpY C at_233 (by decide) (by decide) 240 (by decide) ?_
  refine z_iconst C (v := (0 : Int32)) at_240 (by decide) 241 rfl ?_
  refine z_istore C (Ls' := #[.val (.int y0), .val (.int y1), .val (.int y2), .val (.int y3), .val (.ref p0), .val (.ref p1), .val (.int y4), .val (.int y5), .val (.int y6), .val (.int y7), .val (.int y8), .val (.int y9), .val (.int y10), .val (.int y11), .val (.int y12), .val (.int (2 : Int32)), .val (.int (y2 &&& (7 : Int32))), .val (.int (2 : Int32)), .val (.int (1 : Int32)), .val (.int (1 : Int32)), .val (.int (0 : Int32)), .unset]) at_241 rfl 243 rfl ?_
  refine z_aload C at_243 rfl rfl 245 rfl ?_
  refine z_callVp C o_p1_3.1 (z_c32_80 l hw S (by omega) old3 (y2 &&& (7 : Int32)) p1 p2 p3 p4 p5 p6 p7 p8 p9 p10 p11 o_p1_3) (z_w hw 257 rfl) (z_w hw 258 rfl) (z_w hw 260 rfl) (z_w hw 259 rfl) (z_w hw 117 rfl) (z_w hw 261 rfl) (by decide) at_245 rfl (argsL := []) (rest := []) rfl (lenOf z_pd8 rfl) (W := 0) (Nat.le_of_eq rfl) (by decide) (by decide) (by decide) (by decide) (by decide) (by decide) 248 rfl ?_
  refine z_iload C at_248 rfl 250 rfl ?_
  refine z_icmpN C at_250 (by decide) 253 rfl ?_
  refine z_iconst C (v := (1 : Int32)) at_253 (by decide) 254 rfl ?_
  refine z_goto C at_254 (by decide) 258 (by decide) ?_
  refine z_istore C (Ls' := #[.val (.int y0), .val (.int y1), .val (.int y2), .val (.int y3), .val (.ref p0), .val (.ref p1), .val (.int y4), .val (.int y5), .val (.int y6), .val (.int y7), .val (.int y8), .val (.int y9), .val (.int y10), .val (.int y11), .val (.int y12), .val (.int (2 : Int32)), .val (.int (y2 &&& (7 : Int32))), .val (.int (2 : Int32)), .val (.int (1 : Int32)), .val (.int (1 : Int32)), .val (.int (0 : Int32)), .val (.int (1 : Int32))]) at_258 rfl 260 rfl ?_
  refine z_iload C at_260 rfl 262 rfl ?_
  refine z_ifN C at_262 (by decide) 265 rfl ?_
  refine z_aload C at_265 rfl rfl 267 rfl ?_
  refine z_iload C at_267 rfl 269 rfl ?_
  refine z_iload C at_269 rfl 271 rfl ?_
  have o_p3_3 := (o_p3_2.keep K3 (ninS (Ne.symm ne_p1_p3) nin0))
  refine z_callSp C (z_c33_81 l hw S (by omega) old3 y10 (y2 &&& (7 : Int32)) ((List.set ((List.set (((List.set ((List.set ((z_z8)) (y10).toNatClampNeg (.int (1 : Int32)))) ((y10 ^^^ (1 : Int32))).toNatClampNeg (.int (-1 : Int32))))) (y11).toNatClampNeg (.int (1 : Int32)))) ((y11 ^^^ (1 : Int32))).toNatClampNeg (.int (-1 : Int32)))) p1 p2 p3 p4 p5 p6 p7 p8 p9 p10 p11 o_p1_3 o_p3_3 TT.1 TT.2.2.2.2.2.2.2.2.1 TT.2.2.1 TT.2.2.2.2.2.2.2.2.2.1) (z_w hw 262 rfl) (z_w hw 263 rfl) (z_w hw 264 rfl) (z_w hw 265 rfl) (by decide) at_271 rfl (argsL := [(.ref p1), (.int y10), (.int (1 : Int32))]) (rest := []) rfl (lenOf z_pd19 rfl) (W := 0) (Nat.le_of_eq rfl) (by decide) (by decide) (by decide) (by decide) (by decide) (by decide) 274 rfl ?_
  refine z_ifN C at_274 (by decide) 277 rfl ?_
  refine z_aload C at_277 rfl rfl 279 rfl ?_
  refine z_iload C at_279 rfl 281 rfl ?_
  refine z_iload C at_281 rfl 283 rfl ?_
  refine z_callSp C (z_c33_81 l hw S (by omega) old3 y11 (y2 &&& (7 : Int32)) ((List.set ((List.set (((List.set ((List.set ((z_z8)) (y10).toNatClampNeg (.int (1 : Int32)))) ((y10 ^^^ (1 : Int32))).toNatClampNeg (.int (-1 : Int32))))) (y11).toNatClampNeg (.int (1 : Int32)))) ((y11 ^^^ (1 : Int32))).toNatClampNeg (.int (-1 : Int32)))) p1 p2 p3 p4 p5 p6 p7 p8 p9 p10 p11 o_p1_3 o_p3_3 TT.2.2.2.2.1 TT.2.2.2.2.2.2.2.2.2.2.1 TT.2.2.2.2.2.2.1 TT.2.2.2.2.2.2.2.2.2.2.2.1) (z_w hw 262 rfl) (z_w hw 263 rfl) (z_w hw 264 rfl) (z_w hw 265 rfl) (by decide) at_283 rfl (argsL := [(.ref p1), (.int y11), (.int (1 : Int32))]) (rest := []) rfl (lenOf z_pd19 rfl) (W := 0) (Nat.le_of_eq rfl) (by decide) (by decide) (by decide) (by decide) (by decide) (by decide) 286 rfl ?_
  refine z_ifN C at_286 (by decide) 289 rfl ?_
  refine z_aload C at_289 rfl rfl 291 rfl ?_
  refine z_iload C at_291 rfl 293 rfl ?_
  refine z_iload C at_293 rfl 295 rfl ?_
  refine z_callSp C (z_c33_82 l hw S (by omega) old3 y12 (y2 &&& (7 : Int32)) ((List.set ((List.set (((List.set ((List.set ((z_z8)) (y10).toNatClampNeg (.int (1 : Int32)))) ((y10 ^^^ (1 : Int32))).toNatClampNeg (.int (-1 : Int32))))) (y11).toNatClampNeg (.int (1 : Int32)))) ((y11 ^^^ (1 : Int32))).toNatClampNeg (.int (-1 : Int32)))) p1 p2 p3 p4 p5 p6 p7 p8 p9 p10 p11 o_p1_3 o_p3_3 TT.2.2.2.2.2.2.2.2.2.2.2.2.1 TT.2.2.2.2.2.2.2.2.2.2.2.2.2.1 TT.2.2.2.2.2.2.2.2.2.2.2.2.2.2.1 TT.2.2.2.2.2.2.2.2.2.2.2.2.2.2.2.1) (z_w hw 262 rfl) (z_w hw 263 rfl) (z_w hw 264 rfl) (z_w hw 265 rfl) (by decide) at_295 rfl (argsL := [(.ref p1), (.int y12), (.int (0 : Int32))]) (rest := []) rfl (lenOf z_pd19 rfl) (W := 0) (Nat.le_of_eq rfl) (by decide) (by decide) (by decide) (by decide) (by decide) (by decide) 298 rfl ?_
  refine z_ifN C at_298 (by decide) 301 rfl ?_
  refine z_iconst C (v := (1 : Int32)) at_301 (by decide) 302 rfl ?_
  refine z_goto C at_302 (by decide) 306 (by decide) ?_
  refine z_istore C (Ls' := #[.val (.int y0), .val (.int y1), .val (.int y2), .val (.int y3), .val (.ref p0), .val (.ref p1), .val (.int y4), .val (.int y5), .val (.int y6), .val (.int y7), .val (.int y8), .val (.int y9), .val (.int y10), .val (.int y11), .val (.int y12), .val (.int (2 : Int32)), .val (.int (y2 &&& (7 : Int32))), .val (.int (2 : Int32)), .val (.int (1 : Int32)), .val (.int (1 : Int32)), .val (.int (0 : Int32)), .val (.int (1 : Int32))]) at_306 rfl 308 rfl ?_
  refine z_iload C at_308 rfl 310 rfl ?_
  refine z_ifN C at_310 (by decide) 313 rfl ?_
  refine z_aload C at_313 rfl rfl 315 rfl ?_
  refine z_getO C (z_w hw 266 rfl) Via.refl o_p1_3 2 rfl rfl at_315 318 rfl ?_
  refine z_iconst C (v := (0 : Int32)) at_318 (by decide) 319 rfl ?_
  refine z_baload C o_p3_3 (by decide) TT.2.2.2.2.2.2.2.2.2.2.2.2.2.2.2.2.1 at_319 320 rfl ?_
  refine z_ifN C at_320 (by decide) 323 rfl ?_
  refine z_aload C at_323 rfl rfl 325 rfl ?_
  refine z_getO C (z_w hw 266 rfl) Via.refl o_p1_3 2 rfl rfl at_325 328 rfl ?_
  refine z_iconst C (v := (1 : Int32)) at_328 (by decide) 329 rfl ?_
  refine z_baload C o_p3_3 (by decide) TT.2.2.2.2.2.2.2.2.2.2.2.2.2.2.2.2.2 at_329 330 rfl ?_
  refine z_ifN C at_330 (by decide) 333 rfl ?_
  refine z_iconst C (v := (1 : Int32)) at_333 (by decide) 334 rfl ?_
  refine z_goto C at_334 (by decide) 338 (by decide) ?_
  refine z_istore C (Ls' := #[.val (.int y0), .val (.int y1), .val (.int y2), .val (.int y3), .val (.ref p0), .val (.ref p1), .val (.int y4), .val (.int y5), .val (.int y6), .val (.int y7), .val (.int y8), .val (.int y9), .val (.int y10), .val (.int y11), .val (.int y12), .val (.int (2 : Int32)), .val (.int (y2 &&& (7 : Int32))), .val (.int (2 : Int32)), .val (.int (1 : Int32)), .val (.int (1 : Int32)), .val (.int (0 : Int32)), .val (.int (1 : Int32))]) at_338 rfl 340 rfl ?_
  refine z_iload C at_340 rfl 342 rfl ?_
  refine z_ifN C at_342 (by decide) 345 rfl ?_
  refine z_iload C at_345 rfl 347 rfl ?_
  refine z_ifN C at_347 (by decide) 350 rfl ?_
  refine z_aload C at_350 rfl rfl 352 rfl ?_
  refine z_getO C (z_w hw 272 rfl) Via.refl o_p1_3 3 rfl rfl at_352 355 rfl ?_
  refine z_iconst C (v := (0 : Int32)) at_355 (by decide) 356 rfl ?_
  have o_p4_3 := (o_p4_2.keep K3 (ninS (Ne.symm ne_p1_p4) nin0))
  refine z_iaload C o_p4_3 (by decide) (v := (.int y10)) (by rfl) at_356 357 rfl ?_
  refine z_iload C at_357 rfl 359 rfl ?_
  refine z_icmpN C at_359 (teq rfl).2 362 rfl ?_
  refine z_iconst C (v := (1 : Int32)) at_362 (by decide) 363 rfl ?_
  refine z_goto C at_363 (by decide) 367 (by decide) ?_
  refine z_istore C (Ls' := #[.val (.int y0), .val (.int y1), .val (.int y2), .val (.int y3), .val (.ref p0), .val (.ref p1), .val (.int y4), .val (.int y5), .val (.int y6), .val (.int y7), .val (.int y8), .val (.int y9), .val (.int y10), .val (.int y11), .val (.int y12), .val (.int (2 : Int32)), .val (.int (y2 &&& (7 : Int32))), .val (.int (2 : Int32)), .val (.int (1 : Int32)), .val (.int (1 : Int32)), .val (.int (0 : Int32)), .val (.int (1 : Int32))]) at_367 rfl 369 rfl ?_
  refine z_iload C at_369 rfl 371 rfl ?_
  refine z_ifN C at_371 (by decide) 374 rfl ?_
  refine z_iload C at_374 rfl 376 rfl ?_
  refine z_ifN C at_376 (by decide) 379 rfl ?_
  refine z_aload C at_379 rfl rfl 381 rfl ?_
  refine z_getO C (z_w hw 272 rfl) Via.refl o_p1_3 3 rfl rfl at_381 384 rfl ?_
  refine z_iconst C (v := (1 : Int32)) at_384 (by decide) 385 rfl ?_
  refine z_iaload C o_p4_3 (by decide) (v := (.int y11)) (by rfl) at_385 386 rfl ?_
  refine z_iload C at_386 rfl 388 rfl ?_
  refine z_icmpN C at_388 (teq rfl).2 391 rfl ?_
  refine z_iconst C (v := (1 : Int32)) at_391 (by decide) 392 rfl ?_
  refine z_goto C at_392 (by decide) 396 (by decide) ?_
  refine z_istore C (Ls' := #[.val (.int y0), .val (.int y1), .val (.int y2), .val (.int y3), .val (.ref p0), .val (.ref p1), .val (.int y4), .val (.int y5), .val (.int y6), .val (.int y7), .val (.int y8), .val (.int y9), .val (.int y10), .val (.int y11), .val (.int y12), .val (.int (2 : Int32)), .val (.int (y2 &&& (7 : Int32))), .val (.int (2 : Int32)), .val (.int (1 : Int32)), .val (.int (1 : Int32)), .val (.int (0 : Int32)), .val (.int (1 : Int32))]) at_396 rfl 398 rfl ?_
  refine z_iload C at_398 rfl 400 rfl ?_
  refine z_ifY C at_400 (by decide) (by decide) 427 (by decide) ?_
  refine z_iload C at_427 rfl 429 rfl ?_
  exact z_ireturn C (by simp) rfl at_429 (by decide) (by decide) rfl
set_option maxHeartbeats 2000000 in
theorem z_c34_84 (l : Launch) {Z : State} {a0 : Array Value} (hw : ∀ d ∈ tables_1, d.before a0 Z = true) {n0 : Nat} {h : Heap} {a_DEF a_ONE a_NONE : Nat} (S : z_St Z a_DEF a_ONE a_NONE) (z0 : n0 ≤ h.size) (old : Old Z n0 h) (y0 : Int32) (y1 : Int32) (y2 : Int32) (va0 : List Value) (p0 : Nat) (p1 : Nat) (p2 : Nat) (p3 : Nat) (p4 : Nat) (p5 : Nat) (p6 : Nat) (p7 : Nat) (p8 : Nat) (p9 : Nat) (p10 : Nat) (o_p0 : z_Ob Z h p0 "com/example/variegate/variegate/service/Propagation" z_lay3 [(.int (3 : Int32)), (.ref p1), (.ref p2), (.ref p3), (.ref p4), (.ref p5), (.ref p6), (.ref p7), (.ref p8), (.ref p9), (.ref p10), (.int (2 : Int32)), (.int (0 : Int32)), (.int (0 : Int32))]) (o_p2 : z_Ar Z h p2 .byte "[B" "" va0) (o_p3 : z_Ar Z h p3 .int "[I" "" [(.int y1), (.int y2), (.int (0 : Int32)), (.int (0 : Int32))]) (ne_p0_p2 : p0 ≠ p2) (ne_p2_p3 : p2 ≠ p3) (ne_p0_p3 : p0 ≠ p3) (g_p2 : n0 ≤ p2) (g_p0 : n0 ≤ p0) (g_p3 : n0 ≤ p3) (rq0 : ¬ y0 < 0) (rq1 : (y0).toNatClampNeg < (va0).length) (rq2 : ¬ (y0 ^^^ (1 : Int32)) < 0) (rq3 : ((y0 ^^^ (1 : Int32))).toNatClampNeg < ((List.set (va0) (y0).toNatClampNeg (.int (1 : Int32)))).length) :
    z_Met l Z (⟨"com/example/variegate/variegate/service/Propagation", "assign", "(I)V"⟩ : MethodName) prog_97_method_10_code 2 none [] ({ frames := 0, cells := 0, slots := 0, locals := 0 } : Room) n0 #[(.ref p0), (.int y0)] h (z_nov fun h' => Keep h h' [p2, p0, p3] ∧ z_Ob Z h' p0 "com/example/variegate/variegate/service/Propagation" z_lay3 [(.int (3 : Int32)), (.ref p1), (.ref p2), (.ref p3), (.ref p4), (.ref p5), (.ref p6), (.ref p7), (.ref p8), (.ref p9), (.ref p10), (.int (3 : Int32)), (.int (0 : Int32)), (.int (0 : Int32))] ∧ z_Ar Z h' p2 .byte "[B" "" (List.set ((List.set (va0) (y0).toNatClampNeg (.int (1 : Int32)))) ((y0 ^^^ (1 : Int32))).toNatClampNeg (.int (-1 : Int32))) ∧ z_Ar Z h' p3 .int "[I" "" [(.int y1), (.int y2), (.int y0), (.int (0 : Int32))]) := by
  refine z_met (Ls := #[.val (.ref p0), .val (.int y0)]) (by first | exact plainFor_of_name (by first | (simp [plainName, overriddenIn]; done) | decide +kernel) | decide +kernel) rfl ?_
  intro p e s m below meth c C
  refine z_aloadN C z_d34_0 rfl rfl 1 rfl ?_
  refine z_getO C (z_w hw 162 rfl) Via.refl o_p0 2 rfl rfl z_d34_1 4 rfl ?_
  refine z_iloadN C z_d34_4 rfl 5 rfl ?_
  refine z_iconst C (v := (1 : Int32)) z_d34_5 (by decide) 6 rfl ?_
  refine z_bastore C (z := (1 : Int32)) o_p2 rq0 rq1 (by decide) (vs' := (List.set (va0) (y0).toNatClampNeg (.int (1 : Int32)))) rfl g_p2 z_d34_6 7 rfl ?_
  intro h1 W1 o_p2_1
  have s1 : h1.size = h.size := W1.size
  have k1 : Keep h h1 [p2, p0, p3] := (Keep.refl h [p2, p0, p3]).wr W1 (Or.inl (by simp))
  refine z_aloadN C z_d34_7 rfl rfl 8 rfl ?_
  have o_p0_1 := (o_p0.other W1 ne_p0_p2)
  refine z_getO C (z_w hw 162 rfl) Via.refl o_p0_1 2 rfl rfl z_d34_8 11 rfl ?_
  refine z_iloadN C z_d34_11 rfl 12 rfl ?_
  refine z_iconst C (v := (1 : Int32)) z_d34_12 (by decide) 13 rfl ?_
  refine z_ixor C z_d34_13 rfl 14 rfl ?_
  refine z_iconst C (v := (-1 : Int32)) z_d34_14 (by decide) 15 rfl ?_
  refine z_bastore C (z := (-1 : Int32)) o_p2_1 rq2 rq3 (by decide) (vs' := (List.set ((List.set (va0) (y0).toNatClampNeg (.int (1 : Int32)))) ((y0 ^^^ (1 : Int32))).toNatClampNeg (.int (-1 : Int32)))) rfl g_p2 z_d34_15 16 rfl ?_
  intro h2 W2 o_p2_2
  have s2 : h2.size = h1.size := W2.size
  have k2 : Keep h h2 [p2, p0, p3] := k1.wr W2 (Or.inl (by simp))
  refine z_aloadN C z_d34_16 rfl rfl 17 rfl ?_
  have o_p0_2 := (o_p0_1.other W2 ne_p0_p2)
  refine z_getO C (z_w hw 165 rfl) Via.refl o_p0_2 3 rfl rfl z_d34_17 20 rfl ?_
  refine z_aloadN C z_d34_20 rfl rfl 21 rfl ?_
  refine z_dup C z_d34_21 rfl 22 rfl ?_
  refine z_getO C (z_w hw 250 rfl) Via.refl o_p0_2 11 rfl rfl z_d34_22 25 rfl ?_
  refine z_dup_x1 C z_d34_25 rfl rfl 26 rfl ?_
  refine z_iconst C (v := (1 : Int32)) z_d34_26 (by decide) 27 rfl ?_
  refine z_iadd C (z := (3 : Int32)) z_d34_27 (by decide) 28 rfl ?_
  refine z_putO C (z_w hw 250 rfl) Via.refl o_p0_2 (z_lay3_ok hw) 11 rfl (vs' := [(.int (3 : Int32)), (.ref p1), (.ref p2), (.ref p3), (.ref p4), (.ref p5), (.ref p6), (.ref p7), (.ref p8), (.ref p9), (.ref p10), (.int (3 : Int32)), (.int (0 : Int32)), (.int (0 : Int32))]) rfl (Or.inl (z_w hw 251 rfl)) (z_w hw 116 rfl) (ty := .int) (by decide) (by first | rfl | decide) (by first | rfl | decide) g_p0 z_d34_28 31 rfl ?_
  intro h3 W3 o_p0_3
  have s3 : h3.size = h2.size := W3.size
  have k3 : Keep h h3 [p2, p0, p3] := k2.wr W3 (Or.inl (by simp))
  refine z_iloadN C z_d34_31 rfl 32 rfl ?_
  have o_p3_3 := (((o_p3.other W1 (Ne.symm ne_p2_p3)).other W2 (Ne.symm ne_p2_p3)).other W3 (Ne.symm ne_p0_p3))
  refine z_iastore C (z := y0) o_p3_3 (by decide) (of_decide_eq_true rfl) rfl (vs' := [(.int y1), (.int y2), (.int y0), (.int (0 : Int32))]) (by rfl) g_p3 z_d34_32 33 rfl ?_
  intro h4 W4 o_p3_4
  have s4 : h4.size = h3.size := W4.size
  have k4 : Keep h h4 [p2, p0, p3] := k3.wr W4 (Or.inl (by simp))
  have o_p0_4 := (o_p0_3.other W4 ne_p0_p3)
  have o_p2_4 := ((o_p2_2.other W3 (Ne.symm ne_p0_p2)).other W4 ne_p2_p3)
  exact z_return C z_d34_33 (by decide) (by decide) ⟨rfl, k4, o_p0_4, o_p2_4, o_p3_4⟩
set_option maxHeartbeats 2000000 in
theorem z_c30_85 (l : Launch) {Z : State} {a0 : Array Value} (hw : ∀ d ∈ tables_1, d.before a0 Z = true) {n0 : Nat} {h : Heap} {a_DEF a_ONE a_NONE : Nat} (S : z_St Z a_DEF a_ONE a_NONE) (z0 : n0 ≤ h.size) (old : Old Z n0 h) (y0 : Int32) (y1 : Int32) (y2 : Int32) (va0 : List Value) (p0 : Nat) (p1 : Nat) (p2 : Nat) (p3 : Nat) (p4 : Nat) (p5 : Nat) (p6 : Nat) (p7 : Nat) (p8 : Nat) (p9 : Nat) (p10 : Nat) (o_p0 : z_Ob Z h p0 "com/example/variegate/variegate/service/Propagation" z_lay3 [(.int (3 : Int32)), (.ref p1), (.ref p2), (.ref p3), (.ref p4), (.ref p5), (.ref p6), (.ref p7), (.ref p8), (.ref p9), (.ref p10), (.int (3 : Int32)), (.int (0 : Int32)), (.int (0 : Int32))]) (o_p3 : z_Ar Z h p3 .int "[I" "" [(.int y0), (.int y1), (.int y2), (.int (0 : Int32))]) (o_p2 : z_Ar Z h p2 .byte "[B" "" va0) (ne_p0_p3 : p0 ≠ p3) (ne_p0_p2 : p0 ≠ p2) (ne_p2_p3 : p2 ≠ p3) (g_p0 : n0 ≤ p0) (g_p2 : n0 ≤ p2) (rq0 : ¬ y2 < 0) (rq1 : (y2).toNatClampNeg < (va0).length) (rq2 : ¬ (y2 ^^^ (1 : Int32)) < 0) (rq3 : ((y2 ^^^ (1 : Int32))).toNatClampNeg < ((List.set (va0) (y2).toNatClampNeg (.int (0 : Int32)))).length) (rq4 : ¬ y1 < 0) (rq5 : (y1).toNatClampNeg < ((List.set ((List.set (va0) (y2).toNatClampNeg (.int (0 : Int32)))) ((y2 ^^^ (1 : Int32))).toNatClampNeg (.int (0 : Int32)))).length) (rq6 : ¬ (y1 ^^^ (1 : Int32)) < 0) (rq7 : ((y1 ^^^ (1 : Int32))).toNatClampNeg < ((List.set ((List.set ((List.set (va0) (y2).toNatClampNeg (.int (0 : Int32)))) ((y2 ^^^ (1 : Int32))).toNatClampNeg (.int (0 : Int32)))) (y1).toNatClampNeg (.int (0 : Int32)))).length) (rq8 : ¬ y0 < 0) (rq9 : (y0).toNatClampNeg < ((List.set ((List.set ((List.set ((List.set (va0) (y2).toNatClampNeg (.int (0 : Int32)))) ((y2 ^^^ (1 : Int32))).toNatClampNeg (.int (0 : Int32)))) (y1).toNatClampNeg (.int (0 : Int32)))) ((y1 ^^^ (1 : Int32))).toNatClampNeg (.int (0 : Int32)))).length) (rq10 : ¬ (y0 ^^^ (1 : Int32)) < 0) (rq11 : ((y0 ^^^ (1 : Int32))).toNatClampNeg < ((List.set ((List.set ((List.set ((List.set ((List.set (va0) (y2).toNatClampNeg (.int (0 : Int32)))) ((y2 ^^^ (1 : Int32))).toNatClampNeg (.int (0 : Int32)))) (y1).toNatClampNeg (.int (0 : Int32)))) ((y1 ^^^ (1 : Int32))).toNatClampNeg (.int (0 : Int32)))) (y0).toNatClampNeg (.int (0 : Int32)))).length) :
    z_Met l Z (⟨"com/example/variegate/variegate/service/Propagation", "backtrack", "(I)V"⟩ : MethodName) prog_97_method_11_code 3 none [] ({ frames := 0, cells := 0, slots := 0, locals := 0 } : Room) n0 #[(.ref p0), (.int (0 : Int32))] h (z_nov fun h' => Keep h h' [p0, p2] ∧ z_Ob Z h' p0 "com/example/variegate/variegate/service/Propagation" z_lay3 [(.int (3 : Int32)), (.ref p1), (.ref p2), (.ref p3), (.ref p4), (.ref p5), (.ref p6), (.ref p7), (.ref p8), (.ref p9), (.ref p10), (.int (0 : Int32)), (.int (0 : Int32)), (.int (0 : Int32))] ∧ z_Ar Z h' p2 .byte "[B" "" (List.set ((List.set ((List.set ((List.set ((List.set ((List.set (va0) (y2).toNatClampNeg (.int (0 : Int32)))) ((y2 ^^^ (1 : Int32))).toNatClampNeg (.int (0 : Int32)))) (y1).toNatClampNeg (.int (0 : Int32)))) ((y1 ^^^ (1 : Int32))).toNatClampNeg (.int (0 : Int32)))) (y0).toNatClampNeg (.int (0 : Int32)))) ((y0 ^^^ (1 : Int32))).toNatClampNeg (.int (0 : Int32)))) := by
  refine z_met (Ls := #[.val (.ref p0), .val (.int (0 : Int32)), .unset]) (by first | exact plainFor_of_name (by first | (simp [plainName, overriddenIn]; done) | decide +kernel) | decide +kernel) rfl ?_
  intro p e s m below meth c C
  refine z_aloadN C z_d30_0 rfl rfl 1 rfl ?_
  refine z_getO C (z_w hw 250 rfl) Via.refl o_p0 11 rfl rfl z_d30_1 4 rfl ?_
  refine z_iloadN C z_d30_4 rfl 5 rfl ?_
  refine z_icmpN C z_d30_5 (by decide) 8 rfl ?_
  refine z_aloadN C z_d30_8 rfl rfl 9 rfl ?_
  refine z_getO C (z_w hw 165 rfl) Via.refl o_p0 3 rfl rfl z_d30_9 12 rfl ?_
  refine z_aloadN C z_d30_12 rfl rfl 13 rfl ?_
  refine z_dup C z_d30_13 rfl 14 rfl ?_
  refine z_getO C (z_w hw 250 rfl) Via.refl o_p0 11 rfl rfl z_d30_14 17 rfl ?_
  refine z_iconst C (v := (1 : Int32)) z_d30_17 (by decide) 18 rfl ?_
  refine z_isub C (z := (2 : Int32)) z_d30_18 (by decide) 19 rfl ?_
  refine z_dup_x1 C z_d30_19 rfl rfl 20 rfl ?_
  refine z_putO C (z_w hw 250 rfl) Via.refl o_p0 (z_lay3_ok hw) 11 rfl (vs' := [(.int (3 : Int32)), (.ref p1), (.ref p2), (.ref p3), (.ref p4), (.ref p5), (.ref p6), (.ref p7), (.ref p8), (.ref p9), (.ref p10), (.int (2 : Int32)), (.int (0 : Int32)), (.int (0 : Int32))]) rfl (Or.inl (z_w hw 251 rfl)) (z_w hw 116 rfl) (ty := .int) (by decide) (by first | rfl | decide) (by first | rfl | decide) g_p0 z_d30_20 23 rfl ?_
  intro h1 W1 o_p0_1
  have s1 : h1.size = h.size := W1.size
  have k1 : Keep h h1 [p0, p2] := (Keep.refl h [p0, p2]).wr W1 (Or.inl (by simp))
  have o_p3_1 := (o_p3.other W1 (Ne.symm ne_p0_p3))
  refine z_iaload C o_p3_1 (by decide) (v := (.int y2)) (by rfl) z_d30_23 24 rfl ?_
  refine z_istoreN C (Ls' := #[.val (.ref p0), .val (.int (0 : Int32)), .val (.int y2)]) z_d30_24 rfl 25 rfl ?_
  refine z_aloadN C z_d30_25 rfl rfl 26 rfl ?_
  refine z_getO C (z_w hw 162 rfl) Via.refl o_p0_1 2 rfl rfl z_d30_26 29 rfl ?_
  refine z_iloadN C z_d30_29 rfl 30 rfl ?_
  refine z_iconst C (v := (0 : Int32)) z_d30_30 (by decide) 31 rfl ?_
  have o_p2_1 := (o_p2.other W1 (Ne.symm ne_p0_p2))
  refine z_bastore C (z := (0 : Int32)) o_p2_1 rq0 rq1 (by decide) (vs' := (List.set (va0) (y2).toNatClampNeg (.int (0 : Int32)))) rfl g_p2 z_d30_31 32 rfl ?_
  intro h2 W2 o_p2_2
  have s2 : h2.size = h1.size := W2.size
  have k2 : Keep h h2 [p0, p2] := k1.wr W2 (Or.inl (by simp))
  refine z_aloadN C z_d30_32 rfl rfl 33 rfl ?_
  have o_p0_2 := (o_p0_1.other W2 ne_p0_p2)
  refine z_getO C (z_w hw 162 rfl) Via.refl o_p0_2 2 rfl rfl z_d30_33 36 rfl ?_
  refine z_iloadN C z_d30_36 rfl 37 rfl ?_
  refine z_iconst C (v := (1 : Int32)) z_d30_37 (by decide) 38 rfl ?_
  refine z_ixor C z_d30_38 rfl 39 rfl ?_
  refine z_iconst C (v := (0 : Int32)) z_d30_39 (by decide) 40 rfl ?_
  refine z_bastore C (z := (0 : Int32)) o_p2_2 rq2 rq3 (by decide) (vs' := (List.set ((List.set (va0) (y2).toNatClampNeg (.int (0 : Int32)))) ((y2 ^^^ (1 : Int32))).toNatClampNeg (.int (0 : Int32)))) rfl g_p2 z_d30_40 41 rfl ?_
  intro h3 W3 o_p2_3
  have s3 : h3.size = h2.size := W3.size
  have k3 : Keep h h3 [p0, p2] := k2.wr W3 (Or.inl (by simp))
  refine z_goto C z_d30_41 (by decide) 0 (by decide) ?_
  refine z_aloadN C z_d30_0 rfl rfl 1 rfl ?_
  have o_p0_3 := (o_p0_2.other W3 ne_p0_p2)
  refine z_getO C (z_w hw 250 rfl) Via.refl o_p0_3 11 rfl rfl z_d30_1 4 rfl ?_
  refine z_iloadN C z_d30_4 rfl 5 rfl ?_
  refine z_icmpN C z_d30_5 (by decide) 8 rfl ?_
  refine z_aloadN C z_d30_8 rfl rfl 9 rfl ?_
  refine z_getO C (z_w hw 165 rfl) Via.refl o_p0_3 3 rfl rfl z_d30_9 12 rfl ?_
  refine z_aloadN C z_d30_12 rfl rfl 13 rfl ?_
  refine z_dup C z_d30_13 rfl 14 rfl ?_
  refine z_getO C (z_w hw 250 rfl) Via.refl o_p0_3 11 rfl rfl z_d30_14 17 rfl ?_
  refine z_iconst C (v := (1 : Int32)) z_d30_17 (by decide) 18 rfl ?_
  refine z_isub C (z := (1 : Int32)) z_d30_18 (by decide) 19 rfl ?_
  refine z_dup_x1 C z_d30_19 rfl rfl 20 rfl ?_
  refine z_putO C (z_w hw 250 rfl) Via.refl o_p0_3 (z_lay3_ok hw) 11 rfl (vs' := [(.int (3 : Int32)), (.ref p1), (.ref p2), (.ref p3), (.ref p4), (.ref p5), (.ref p6), (.ref p7), (.ref p8), (.ref p9), (.ref p10), (.int (1 : Int32)), (.int (0 : Int32)), (.int (0 : Int32))]) rfl (Or.inl (z_w hw 251 rfl)) (z_w hw 116 rfl) (ty := .int) (by decide) (by first | rfl | decide) (by first | rfl | decide) g_p0 z_d30_20 23 rfl ?_
  intro h4 W4 o_p0_4
  have s4 : h4.size = h3.size := W4.size
  have k4 : Keep h h4 [p0, p2] := k3.wr W4 (Or.inl (by simp))
  have o_p3_4 := (((o_p3_1.other W2 (Ne.symm ne_p2_p3)).other W3 (Ne.symm ne_p2_p3)).other W4 (Ne.symm ne_p0_p3))
  refine z_iaload C o_p3_4 (by decide) (v := (.int y1)) (by rfl) z_d30_23 24 rfl ?_
  refine z_istoreN C (Ls' := #[.val (.ref p0), .val (.int (0 : Int32)), .val (.int y1)]) z_d30_24 rfl 25 rfl ?_
  refine z_aloadN C z_d30_25 rfl rfl 26 rfl ?_
  refine z_getO C (z_w hw 162 rfl) Via.refl o_p0_4 2 rfl rfl z_d30_26 29 rfl ?_
  refine z_iloadN C z_d30_29 rfl 30 rfl ?_
  refine z_iconst C (v := (0 : Int32)) z_d30_30 (by decide) 31 rfl ?_
  have o_p2_4 := (o_p2_3.other W4 (Ne.symm ne_p0_p2))
  refine z_bastore C (z := (0 : Int32)) o_p2_4 rq4 rq5 (by decide) (vs' := (List.set ((List.set ((List.set (va0) (y2).toNatClampNeg (.int (0 : Int32)))) ((y2 ^^^ (1 : Int32))).toNatClampNeg (.int (0 : Int32)))) (y1).toNatClampNeg (.int (0 : Int32)))) rfl g_p2 z_d30_31 32 rfl ?_
  intro h5 W5 o_p2_5
  have s5 : h5.size = h4.size := W5.size
  have k5 : Keep h h5 [p0, p2] := k4.wr W5 (Or.inl (by simp))
  refine z_aloadN C z_d30_32 rfl rfl 33 rfl ?_
  have o_p0_5 := (o_p0_4.other W5 ne_p0_p2)
  refine z_getO C (z_w hw 162 rfl) Via.refl o_p0_5 2 rfl rfl z_d30_33 36 rfl ?_
  refine z_iloadN C z_d30_36 rfl 37 rfl ?_
  refine z_iconst C (v := (1 : Int32)) z_d30_37 (by decide) 38 rfl ?_
  refine z_ixor C z_d30_38 rfl 39 rfl ?_
  refine z_iconst C (v := (0 : Int32)) z_d30_39 (by decide) 40 rfl ?_
  refine z_bastore C (z := (0 : Int32)) o_p2_5 rq6 rq7 (by decide) (vs' := (List.set ((List.set ((List.set ((List.set (va0) (y2).toNatClampNeg (.int (0 : Int32)))) ((y2 ^^^ (1 : Int32))).toNatClampNeg (.int (0 : Int32)))) (y1).toNatClampNeg (.int (0 : Int32)))) ((y1 ^^^ (1 : Int32))).toNatClampNeg (.int (0 : Int32)))) rfl g_p2 z_d30_40 41 rfl ?_
  intro h6 W6 o_p2_6
  have s6 : h6.size = h5.size := W6.size
  have k6 : Keep h h6 [p0, p2] := k5.wr W6 (Or.inl (by simp))
  refine z_goto C z_d30_41 (by decide) 0 (by decide) ?_
  refine z_aloadN C z_d30_0 rfl rfl 1 rfl ?_
  have o_p0_6 := (o_p0_5.other W6 ne_p0_p2)
  refine z_getO C (z_w hw 250 rfl) Via.refl o_p0_6 11 rfl rfl z_d30_1 4 rfl ?_
  refine z_iloadN C z_d30_4 rfl 5 rfl ?_
  refine z_icmpN C z_d30_5 (by decide) 8 rfl ?_
  refine z_aloadN C z_d30_8 rfl rfl 9 rfl ?_
  refine z_getO C (z_w hw 165 rfl) Via.refl o_p0_6 3 rfl rfl z_d30_9 12 rfl ?_
  refine z_aloadN C z_d30_12 rfl rfl 13 rfl ?_
  refine z_dup C z_d30_13 rfl 14 rfl ?_
  refine z_getO C (z_w hw 250 rfl) Via.refl o_p0_6 11 rfl rfl z_d30_14 17 rfl ?_
  refine z_iconst C (v := (1 : Int32)) z_d30_17 (by decide) 18 rfl ?_
  refine z_isub C (z := (0 : Int32)) z_d30_18 (by decide) 19 rfl ?_
  refine z_dup_x1 C z_d30_19 rfl rfl 20 rfl ?_
  refine z_putO C (z_w hw 250 rfl) Via.refl o_p0_6 (z_lay3_ok hw) 11 rfl (vs' := [(.int (3 : Int32)), (.ref p1), (.ref p2), (.ref p3), (.ref p4), (.ref p5), (.ref p6), (.ref p7), (.ref p8), (.ref p9), (.ref p10), (.int (0 : Int32)), (.int (0 : Int32)), (.int (0 : Int32))]) rfl (Or.inl (z_w hw 251 rfl)) (z_w hw 116 rfl) (ty := .int) (by decide) (by first | rfl | decide) (by first | rfl | decide) g_p0 z_d30_20 23 rfl ?_
  intro h7 W7 o_p0_7
  have s7 : h7.size = h6.size := W7.size
  have k7 : Keep h h7 [p0, p2] := k6.wr W7 (Or.inl (by simp))
  have o_p3_7 := (((o_p3_4.other W5 (Ne.symm ne_p2_p3)).other W6 (Ne.symm ne_p2_p3)).other W7 (Ne.symm ne_p0_p3))
  refine z_iaload C o_p3_7 (by decide) (v := (.int y0)) (by rfl) z_d30_23 24 rfl ?_
  refine z_istoreN C (Ls' := #[.val (.ref p0), .val (.int (0 : Int32)), .val (.int y0)]) z_d30_24 rfl 25 rfl ?_
  refine z_aloadN C z_d30_25 rfl rfl 26 rfl ?_
  refine z_getO C (z_w hw 162 rfl) Via.refl o_p0_7 2 rfl rfl z_d30_26 29 rfl ?_
  refine z_iloadN C z_d30_29 rfl 30 rfl ?_
  refine z_iconst C (v := (0 : Int32)) z_d30_30 (by decide) 31 rfl ?_
  have o_p2_7 := (o_p2_6.other W7 (Ne.symm ne_p0_p2))
  refine z_bastore C (z := (0 : Int32)) o_p2_7 rq8 rq9 (by decide) (vs' := (List.set ((List.set ((List.set ((List.set ((List.set (va0) (y2).toNatClampNeg (.int (0 : Int32)))) ((y2 ^^^ (1 : Int32))).toNatClampNeg (.int (0 : Int32)))) (y1).toNatClampNeg (.int (0 : Int32)))) ((y1 ^^^ (1 : Int32))).toNatClampNeg (.int (0 : Int32)))) (y0).toNatClampNeg (.int (0 : Int32)))) rfl g_p2 z_d30_31 32 rfl ?_
  intro h8 W8 o_p2_8
  have s8 : h8.size = h7.size := W8.size
  have k8 : Keep h h8 [p0, p2] := k7.wr W8 (Or.inl (by simp))
  refine z_aloadN C z_d30_32 rfl rfl 33 rfl ?_
  have o_p0_8 := (o_p0_7.other W8 ne_p0_p2)
  refine z_getO C (z_w hw 162 rfl) Via.refl o_p0_8 2 rfl rfl z_d30_33 36 rfl ?_
  refine z_iloadN C z_d30_36 rfl 37 rfl ?_
  refine z_iconst C (v := (1 : Int32)) z_d30_37 (by decide) 38 rfl ?_
  refine z_ixor C z_d30_38 rfl 39 rfl ?_
  refine z_iconst C (v := (0 : Int32)) z_d30_39 (by decide) 40 rfl ?_
  refine z_bastore C (z := (0 : Int32)) o_p2_8 rq10 rq11 (by decide) (vs' := (List.set ((List.set ((List.set ((List.set ((List.set ((List.set (va0) (y2).toNatClampNeg (.int (0 : Int32)))) ((y2 ^^^ (1 : Int32))).toNatClampNeg (.int (0 : Int32)))) (y1).toNatClampNeg (.int (0 : Int32)))) ((y1 ^^^ (1 : Int32))).toNatClampNeg (.int (0 : Int32)))) (y0).toNatClampNeg (.int (0 : Int32)))) ((y0 ^^^ (1 : Int32))).toNatClampNeg (.int (0 : Int32)))) rfl g_p2 z_d30_40 41 rfl ?_
  intro h9 W9 o_p2_9
  have s9 : h9.size = h8.size := W9.size
  have k9 : Keep h h9 [p0, p2] := k8.wr W9 (Or.inl (by simp))
  refine z_goto C z_d30_41 (by decide) 0 (by decide) ?_
  refine z_aloadN C z_d30_0 rfl rfl 1 rfl ?_
  have o_p0_9 := (o_p0_8.other W9 ne_p0_p2)
  refine z_getO C (z_w hw 250 rfl) Via.refl o_p0_9 11 rfl rfl z_d30_1 4 rfl ?_
  refine z_iloadN C z_d30_4 rfl 5 rfl ?_
  refine z_icmpY C z_d30_5 (by decide) (by decide) 44 (by decide) ?_
  refine z_aloadN C z_d30_44 rfl rfl 45 rfl ?_
  refine z_iloadN C z_d30_45 rfl 46 rfl ?_
  refine z_putO C (z_w hw 252 rfl) Via.refl o_p0_9 (z_lay3_ok hw) 12 rfl (vs' := [(.int (3 : Int32)), (.ref p1), (.ref p2), (.ref p3), (.ref p4), (.ref p5), (.ref p6), (.ref p7), (.ref p8), (.ref p9), (.ref p10), (.int (0 : Int32)), (.int (0 : Int32)), (.int (0 : Int32))]) rfl (Or.inl (z_w hw 253 rfl)) (z_w hw 116 rfl) (ty := .int) (by decide) (by first | rfl | decide) (by first | rfl | decide) g_p0 z_d30_46 49 rfl ?_
  intro h10 W10 o_p0_10
  have s10 : h10.size = h9.size := W10.size
  have k10 : Keep h h10 [p0, p2] := k9.wr W10 (Or.inl (by simp))
  have o_p2_10 := (o_p2_9.other W10 (Ne.symm ne_p0_p2))
  exact z_return C z_d30_49 (by decide) (by decide) ⟨rfl, k10, o_p0_10, o_p2_10⟩
set_option maxHeartbeats 2000000 in
theorem z_c31_86 (l : Launch) {Z : State} {a0 : Array Value} (hw : ∀ d ∈ tables_1, d.before a0 Z = true) {n0 : Nat} {h : Heap} {a_DEF a_ONE a_NONE : Nat} (S : z_St Z a_DEF a_ONE a_NONE) (z0 : n0 ≤ h.size) (old : Old Z n0 h) :
    z_Met l Z (⟨"java/lang/Math", "min", "(II)I"⟩ : MethodName) jdk_29_method_69_code 2 (some .int) [] ({ frames := 0, cells := 0, slots := 0, locals := 0 } : Room) n0 #[(.int (3 : Int32)), (.int (0 : Int32))] h (z_pure (.int (0 : Int32)) h) := by
  refine z_met (Ls := #[.val (.int (3 : Int32)), .val (.int (0 : Int32))]) (by first | exact plainFor_of_name (by first | (simp [plainName, overriddenIn]; done) | decide +kernel) | decide +kernel) rfl ?_
  intro p e s m below meth c C
  refine z_iloadN C z_d31_0 rfl 1 rfl ?_
  refine z_iloadN C z_d31_1 rfl 2 rfl ?_
  refine z_icmpY C z_d31_2 (by decide) (by decide) 9 (by decide) ?_
  refine z_iloadN C z_d31_9 rfl 10 rfl ?_
  exact z_ireturn C (Or.inl rfl) rfl z_d31_10 (by decide) (by decide) ⟨rfl, rfl⟩
set_option maxHeartbeats 8000000 in
theorem z_seg87 (l : Launch) {Z : State} {a0 : Array Value} (hw : ∀ d ∈ tables_1, d.before a0 Z = true) {n0 : Nat} {h : Heap} {a_DEF a_ONE a_NONE : Nat} (S : z_St Z a_DEF a_ONE a_NONE) (z0 : n0 ≤ h.size) (old : Old Z n0 h) (y0 : Int32) (y1 : Int32) (y2 : Int32) (y3 : Int32) (y4 : Int32) (y5 : Int32) (y6 : Int32) (y7 : Int32) (y8 : Int32) (y9 : Int32) (y10 : Int32) (y11 : Int32) (y12 : Int32) (p0 : Nat) (p1 : Nat) (p2 : Nat) (p3 : Nat) (p4 : Nat) (p5 : Nat) (p6 : Nat) (p7 : Nat) (p8 : Nat) (p9 : Nat) (p10 : Nat) (p11 : Nat) (o_p1 : z_Ob Z h p1 "com/example/variegate/variegate/service/Propagation" z_lay3 [(.int (3 : Int32)), (.ref p2), (.ref p3), (.ref p4), (.ref p5), (.ref p6), (.ref p7), (.ref p8), (.ref p9), (.ref p10), (.ref p11), (.int (0 : Int32)), (.int (0 : Int32)), (.int (0 : Int32))]) (o_p3 : z_Ar Z h p3 .byte "[B" "" z_z8) (o_p4 : z_Ar Z h p4 .int "[I" "" [(.int (0 : Int32)), (.int (0 : Int32)), (.int (0 : Int32)), (.int (0 : Int32))]) (ne_p1_p3 : p1 ≠ p3) (ne_p3_p4 : p3 ≠ p4) (ne_p1_p4 : p1 ≠ p4) (g_p3 : n0 ≤ p3) (g_p1 : n0 ≤ p1) (g_p4 : n0 ≤ p4) (TT : z_R3_0 y10 y11 y12) (hn : (y0 &&& (3 : Int32)) = (3 : Int32)) (hm : (y2 &&& (7 : Int32)) = (0 : Int32)) {p : Program} {e : Env} {s : State} {m : MethodId} {args : Array Value} {below : List Frame} {meth : Method} {c : Code} (C : z_Cx Z p s m meth c x.cls code maxLocals ret x.name) :
    z_At p l e room_1 s m args below meth c n0 (fun v _ => v = some (.int 1)) h 27 131 (mkF m 139 #[.val (.int y0), .val (.int y1), .val (.int y2), .val (.int y3), .val (.ref p0), .val (.ref p1), .val (.int y4), .val (.int y5), .val (.int y6), .val (.int y7), .val (.int y8), .val (.int y9), .val (.int y10), .val (.int y11), .val (.int y12), .unset, .unset, .unset, .unset, .unset, .unset, .unset] []) := by
  refine z_iloadN C at_139 rfl 140 rfl ?_
  refine z_iconst C (v := (3 : Int32)) at_140 (by decide) 141 rfl ?_
  refine z_iand C (z := (3 : Int32)) at_141 hn 142 rfl ?_
  refine z_istore C (Ls' := #[.val (.int y0), .val (.int y1), .val (.int y2), .val (.int y3), .val (.ref p0), .val (.ref p1), .val (.int y4), .val (.int y5), .val (.int y6), .val (.int y7), .val (.int y8), .val (.int y9), .val (.int y10), .val (.int y11), .val (.int y12), .val (.int (3 : Int32)), .unset, .unset, .unset, .unset, .unset, .unset]) at_142 rfl 144 rfl ?_
  refine z_iload C at_144 rfl 146 rfl ?_
  refine z_ifN C at_146 (by decide) 149 rfl ?_
  refine z_aload C at_149 rfl rfl 151 rfl ?_
  refine z_iload C at_151 rfl 153 rfl ?_
  refine z_callVV C o_p1.1 (z_c34_56 l hw S (by omega) old y10 (z_z8) p1 p2 p3 p4 p5 p6 p7 p8 p9 p10 p11 o_p1 o_p3 o_p4 ne_p1_p3 ne_p3_p4 ne_p1_p4 g_p3 g_p1 g_p4 TT.1 TT.2.1 TT.2.2.1 TT.2.2.2.1) (z_w hw 267 rfl) (z_w hw 268 rfl) (z_w hw 270 rfl) (z_w hw 269 rfl) (z_w hw 117 rfl) (z_w hw 271 rfl) (by decide) at_153 rfl (argsL := [(.int y10)]) (rest := []) rfl (lenOf z_pd2 rfl) (W := 0) (Nat.le_of_eq rfl) (by decide) (by decide) (by decide) (by decide) 156 rfl ?_
  rintro h1 ⟨K1, o_p1_1, o_p3_1, o_p4_1⟩
  have s1 : h.size ≤ h1.size := K1.1
  refine z_iload C at_156 rfl 158 rfl ?_
  refine z_iconst C (v := (1 : Int32)) at_158 (by decide) 159 rfl ?_
  refine z_icmpN C at_159 (by decide) 162 rfl ?_
  refine z_aload C at_162 rfl rfl 164 rfl ?_
  refine z_iload C at_164 rfl 166 rfl ?_
  have old1 := (old.keep K1 (allS g_p3 (allS g_p1 (allS g_p4 all0))))
  refine z_callVV C o_p1_1.1 (z_c34_68 l hw S (by omega) old1 y11 y10 ((List.set ((List.set ((z_z8)) (y10).toNatClampNeg (.int (1 : Int32)))) ((y10 ^^^ (1 : Int32))).toNatClampNeg (.int (-1 : Int32)))) p1 p2 p3 p4 p5 p6 p7 p8 p9 p10 p11 o_p1_1 o_p3_1 o_p4_1 ne_p1_p3 ne_p3_p4 ne_p1_p4 g_p3 g_p1 g_p4 TT.2.2.2.2.1 TT.2.2.2.2.2.1 TT.2.2.2.2.2.2.1 TT.2.2.2.2.2.2.2.1) (z_w hw 267 rfl) (z_w hw 268 rfl) (z_w hw 270 rfl) (z_w hw 269 rfl) (z_w hw 117 rfl) (z_w hw 271 rfl) (by decide) at_166 rfl (argsL := [(.int y11)]) (rest := []) rfl (lenOf z_pd2 rfl) (W := 0) (Nat.le_of_eq rfl) (by decide) (by decide) (by decide) (by decide) 169 rfl ?_
  rintro h2 ⟨K2, o_p1_2, o_p3_2, o_p4_2⟩
  have s2 : h1.size ≤ h2.size := K2.1
  refine z_iload C at_169 rfl 171 rfl ?_
  refine z_iconst C (v := (2 : Int32)) at_171 (by decide) 172 rfl ?_
  refine z_icmpN C at_172 (by decide) 175 rfl ?_
  refine z_aload C at_175 rfl rfl 177 rfl ?_
  refine z_iload C at_177 rfl 179 rfl ?_
  have old2 := (old1.keep K2 (allS g_p3 (allS g_p1 (allS g_p4 all0))))
  refine z_callVV C o_p1_2.1 (z_c34_84 l hw S (by omega) old2 y12 y10 y11 ((List.set ((List.set (((List.set ((List.set ((z_z8)) (y10).toNatClampNeg (.int (1 : Int32)))) ((y10 ^^^ (1 : Int32))).toNatClampNeg (.int (-1 : Int32))))) (y11).toNatClampNeg (.int (1 : Int32)))) ((y11 ^^^ (1 : Int32))).toNatClampNeg (.int (-1 : Int32)))) p1 p2 p3 p4 p5 p6 p7 p8 p9 p10 p11 o_p1_2 o_p3_2 o_p4_2 ne_p1_p3 ne_p3_p4 ne_p1_p4 g_p3 g_p1 g_p4 TT.2.2.2.2.2.2.2.2.1 TT.2.2.2.2.2.2.2.2.2.1 TT.2.2.2.2.2.2.2.2.2.2.1 TT.2.2.2.2.2.2.2.2.2.2.2.1) (z_w hw 267 rfl) (z_w hw 268 rfl) (z_w hw 270 rfl) (z_w hw 269 rfl) (z_w hw 117 rfl) (z_w hw 271 rfl) (by decide) at_179 rfl (argsL := [(.int y12)]) (rest := []) rfl (lenOf z_pd2 rfl) (W := 0) (Nat.le_of_eq rfl) (by decide) (by decide) (by decide) (by decide) 182 rfl ?_
  rintro h3 ⟨K3, o_p1_3, o_p3_3, o_p4_3⟩
  have s3 : h2.size ≤ h3.size := K3.1
  refine z_iloadN C at_182 rfl 183 rfl ?_
  refine z_bipush C (v := (7 : Int32)) at_183 (by decide) 185 rfl ?_
  refine z_iand C (z := (0 : Int32)) at_185 hm 186 rfl ?_
  refine z_istore C (Ls' := #[.val (.int y0), .val (.int y1), .val (.int y2), .val (.int y3), .val (.ref p0), .val (.ref p1), .val (.int y4), .val (.int y5), .val (.int y6), .val (.int y7), .val (.int y8), .val (.int y9), .val (.int y10), .val (.int y11), .val (.int y12), .val (.int (3 : Int32)), .val (.int (0 : Int32)), .unset, .unset, .unset, .unset, .unset]) at_186 rfl 188 rfl ?_
  refine z_aload C at_188 rfl rfl 190 rfl ?_
  refine z_iload C at_190 rfl 192 rfl ?_
  have old3 := (old2.keep K3 (allS g_p3 (allS g_p1 (allS g_p4 all0))))
  refine z_callVV C o_p1_3.1 (z_c30_85 l hw S (by omega) old3 y10 y11 y12 ((List.set ((List.set (((List.set ((List.set (((List.set ((List.set ((z_z8)) (y10).toNatClampNeg (.int (1 : Int32)))) ((y10 ^^^ (1 : Int32))).toNatClampNeg (.int (-1 : Int32))))) (y11).toNatClampNeg (.int (1 : Int32)))) ((y11 ^^^ (1 : Int32))).toNatClampNeg (.int (-1 : Int32))))) (y12).toNatClampNeg (.int (1 : Int32)))) ((y12 ^^^ (1 : Int32))).toNatClampNeg (.int (-1 : Int32)))) p1 p2 p3 p4 p5 p6 p7 p8 p9 p10 p11 o_p1_3 o_p4_3 o_p3_3 ne_p1_p4 ne_p1_p3 ne_p3_p4 g_p1 g_p3 TT.2.2.2.2.2.2.2.2.1 TT.2.2.2.2.2.2.2.2.2.2.2.2.1 TT.2.2.2.2.2.2.2.2.2.2.1 TT.2.2.2.2.2.2.2.2.2.2.2.2.2.1 TT.2.2.2.2.1 TT.2.2.2.2.2.2.2.2.2.2.2.2.2.2.1 TT.2.2.2.2.2.2.1 TT.2.2.2.2.2.2.2.2.2.2.2.2.2.2.2.1 TT.1 TT.2.2.2.2.2.2.2.2.2.2.2.2.2.2.2.2.1 TT.2.2.1 TT.2.2.2.2.2.2.2.2.2.2.2.2.2.2.2.2.2.1) (z_w hw 245 rfl) (z_w hw 246 rfl) (z_w hw 248 rfl) (z_w hw 247 rfl) (z_w hw 117 rfl) (z_w hw 249 rfl) (by decide) at_192 rfl (argsL := [(.int (0 : Int32))]) (rest := []) rfl (lenOf z_pd2 rfl) (W := 0) (Nat.le_of_eq rfl) (by decide) (by decide) (by decide) (by decide) 195 rfl ?_
  rintro h4 ⟨K4, o_p1_4, o_p3_4⟩
  have s4 : h3.size ≤ h4.size := K4.1
  refine z_iload C at_195 rfl 197 rfl ?_
  refine z_iload C at_197 rfl 199 rfl ?_
  have old4 := (old3.keep K4 (allS g_p1 (allS g_p3 all0)))
  refine z_callSp C (z_c31_86 l hw S (by omega) old4) (z_w hw 254 rfl) (z_w hw 255 rfl) (z_w hw 102 rfl) (z_w hw 256 rfl) (by decide) at_199 rfl (argsL := [(.int (3 : Int32)), (.int (0 : Int32))]) (rest := []) rfl (lenOf z_pd3 rfl) (W := 0) (Nat.le_of_eq rfl) (by decide) (by decide) (by decide) (by decide) (by decide) (by decide) 202 rfl ?_
  refine z_istore C (Ls' := #[.val (.int y0), .val (.int y1), .val (.int y2), .val (.int y3), .val (.ref p0), .val (.ref p1), .val (.int y4), .val (.int y5), .val (.int y6), .val (.int y7), .val (.int y8), .val (.int y9), .val (.int y10), .val (.int y11), .val (.int y12), .val (.int (3 : Int32)), .val (.int (0 : Int32)), .val (.int (0 : Int32)), .unset, .unset, .unset, .unset]) at_202 rfl 204 rfl ?_
  refine z_iconst C (v := (0 : Int32)) at_204 (by decide) 205 rfl ?_
  refine z_iload C at_205 rfl 207 rfl ?_
  refine z_icmpY C at_207 (by decide) (by decide) 214 (by decide) ?_
  refine z_iconst C (v := (0 : Int32)) at_214 (by decide) 215 rfl ?_
  refine z_istore C (Ls' := #[.val (.int y0), .val (.int y1), .val (.int y2), .val (.int y3), .val (.ref p0), .val (.ref p1), .val (.int y4), .val (.int y5), .val (.int y6), .val (.int y7), .val (.int y8), .val (.int y9), .val (.int y10), .val (.int y11), .val (.int y12), .val (.int (3 : Int32)), .val (.int (0 : Int32)), .val (.int (0 : Int32)), .val (.int (0 : Int32)), .unset, .unset, .unset]) at_215 rfl 217 rfl ?_
  refine z_iconst C (v := (1 : Int32)) at_217 (by decide) 218 rfl ?_
  refine z_iload C at_218 rfl 220 rfl ?_
  refine z_icmpY C at_220 (by decide) (by decide) 227 (by decide) ?_
  refine z_iconst C (v := (0 : Int32)) at_227 (by decide) 228 rfl ?_
  refine z_istore C (Ls' := #[.val (.int y0), .val (.int y1), .val (.int y2), .val (.int y3), .val (.ref p0), .val (.ref p1), .val (.int y4), .val (.int y5), .val (.int y6), .val (.int y7), .val (.int y8), .val (.int y9), .val (.int y10), .val (.int y11), .val (.int y12), .val (.int (3 : Int32)), .val (.int (0 : Int32)), .val (.int (0 : Int32)), .val (.int (0 : Int32)), .val (.int (0 : Int32)), .unset, .unset]) at_228 rfl 230 rfl ?_
  refine z_iconst C (v := (2 : Int32)) at_230 (by decide) 231 rfl ?_
  refine z_iload C at_231 rfl 233 rfl ?_
  refine z_icmpY C at_233 (by decide) (by decide) 240 (by decide) ?_
  refine z_iconst C (v := (0 : Int32)) at_240 (by decide) 241 rfl ?_
  refine z_istore C (Ls' := #[.val (.int y0), .val (.int y1), .val (.int y2), .val (.int y3), .val (.ref p0), .val (.ref p1), .val (.int y4), .val (.int y5), .val (.int y6), .val (.int y7), .val (.int y8), .val (.int y9), .val (.int y10), .val (.int y11), .val (.int y12), .val (.int (3 : Int32)), .val (.int (0 : Int32)), .val (.int (0 : Int32)), .val (.int (0 : Int32)), .val (.int (0 : Int32)), .val (.int (0 : Int32)), .unset]) at_241 rfl 243 rfl ?_
  refine z_aload C at_243 rfl rfl 245 rfl ?_
  refine z_callVp C o_p1_4.1 (z_c32_59 l hw S (by omega) old4 p1 p2 p3 p4 p5 p6 p7 p8 p9 p10 p11 o_p1_4) (z_w hw 257 rfl) (z_w hw 258 rfl) (z_w hw 260 rfl) (z_w hw 259 rfl) (z_w hw 117 rfl) (z_w hw 261 rfl) (by decide) at_245 rfl (argsL := []) (rest := []) rfl (lenOf z_pd8 rfl) (W := 0) (Nat.le_of_eq rfl) (by decide) (by decide) (by decide) (by decide) (by decide) (by decide) 248 rfl ?_
  refine z_iload C at_248 rfl 250 rfl ?_
  refine z_icmpN C at_250 (by decide) 253 rfl ?_
  refine z_iconst C (v := (1 : Int32)) at_253 (by decide) 254 rfl ?_
  refine z_goto C at_254 (by decide) 258 (by decide) ?_
  refine z_istore C (Ls' := #[.val (.int y0), .val (.int y1), .val (.int y2), .val (.int y3), .val (.ref p0), .val (.ref p1), .val (.int y4), .val (.int y5), .val (.int y6), .val (.int y7), .val (.int y8), .val (.int y9), .val (.int y10), .val (.int y11), .val (.int y12), .val (.int (3 : Int32)), .val (.int (0 : Int32)), .val (.int (0 : Int32)), .val (.int (0 : Int32)), .val (.int (0 : Int32)), .val (.int (0 : Int32)), .val (.int (1 : Int32))]) at_258 rfl 260 rfl ?_
  refine z_iload C at_260 rfl 262 rfl ?_
  refine z_ifN C at_262 (by decide) 265 rfl ?_
  refine z_aload C at_265 rfl rfl 267 rfl ?_
  refine z_iload C at_267 rfl 269 rfl ?_
  refine z_iload C at_269 rfl 271 rfl ?_
  refine z_callSp C (z_c33_60 l hw S (by omega) old4 y10 ((List.set ((List.set ((List.set ((List.set ((List.set ((List.set (((List.set ((List.set (((List.set ((List.set (((List.set ((List.set ((z_z8)) (y10).toNatClampNeg (.int (1 : Int32)))) ((y10 ^^^ (1 : Int32))).toNatClampNeg (.int (-1 : Int32))))) (y11).toNatClampNeg (.int (1 : Int32)))) ((y11 ^^^ (1 : Int32))).toNatClampNeg (.int (-1 : Int32))))) (y12).toNatClampNeg (.int (1 : Int32)))) ((y12 ^^^ (1 : Int32))).toNatClampNeg (.int (-1 : Int32))))) (y12).toNatClampNeg (.int (0 : Int32)))) ((y12 ^^^ (1 : Int32))).toNatClampNeg (.int (0 : Int32)))) (y11).toNatClampNeg (.int (0 : Int32)))) ((y11 ^^^ (1 : Int32))).toNatClampNeg (.int (0 : Int32)))) (y10).toNatClampNeg (.int (0 : Int32)))) ((y10 ^^^ (1 : Int32))).toNatClampNeg (.int (0 : Int32)))) p1 p2 p3 p4 p5 p6 p7 p8 p9 p10 p11 o_p1_4 o_p3_4 TT.1 TT.2.2.2.2.2.2.2.2.2.2.2.2.2.2.2.2.2.2.1 TT.2.2.1 TT.2.2.2.2.2.2.2.2.2.2.2.2.2.2.2.2.2.2.2.1) (z_w hw 262 rfl) (z_w hw 263 rfl) (z_w hw 264 rfl) (z_w hw 265 rfl) (by decide) at_271 rfl (argsL := [(.ref p1), (.int y10), (.int (0 : Int32))]) (rest := []) rfl (lenOf z_pd19 rfl) (W := 0) (Nat.le_of_eq rfl) (by decide) (by decide) (by decide) (by decide) (by decide) (by decide) 274 rfl ?_
  refine z_ifN C at_274 (by decide) 277 rfl ?_
  refine z_aload C at_277 rfl rfl 279 rfl ?_
  refine z_iload C at_279 rfl 281 rfl ?_
  refine z_iload C at_281 rfl 283 rfl ?_
  refine z_callSp C (z_c33_60 l hw S (by omega) old4 y11 ((List.set ((List.set ((List.set ((List.set ((List.set ((List.set (((List.set ((List.set (((List.set ((List.set (((List.set ((List.set ((z_z8)) (y10).toNatClampNeg (.int (1 : Int32)))) ((y10 ^^^ (1 : Int32))).toNatClampNeg (.int (-1 : Int32))))) (y11).toNatClampNeg (.int (1 : Int32)))) ((y11 ^^^ (1 : Int32))).toNatClampNeg (.int (-1 : Int32))))) (y12).toNatClampNeg (.int (1 : Int32)))) ((y12 ^^^ (1 : Int32))).toNatClampNeg (.int (-1 : Int32))))) (y12).toNatClampNeg (.int (0 : Int32)))) ((y12 ^^^ (1 : Int32))).toNatClampNeg (.int (0 : Int32)))) (y11).toNatClampNeg (.int (0 : Int32)))) ((y11 ^^^ (1 : Int32))).toNatClampNeg (.int (0 : Int32)))) (y10).toNatClampNeg (.int (0 : Int32)))) ((y10 ^^^ (1 : Int32))).toNatClampNeg (.int (0 : Int32)))) p1 p2 p3 p4 p5 p6 p7 p8 p9 p10 p11 o_p1_4 o_p3_4 TT.2.2.2.2.1 TT.2.2.2.2.2.2.2.2.2.2.2.2.2.2.2.2.2.2.2.2.1 TT.2.2.2.2.2.2.1 TT.2.2.2.2.2.2.2.2.2.2.2.2.2.2.2.2.2.2.2.2.2.1) (z_w hw 262 rfl) (z_w hw 263 rfl) (z_w hw 264 rfl) (z_w hw 265 rfl) (by decide) at_283 rfl (argsL := [(.ref p1), (.int y11), (.int (0 : Int32))]) (rest := []) rfl (lenOf z_pd19 rfl) (W := 0) (Nat.le_of_eq rfl) (by decide) (by decide) (by decide) (by decide) (by decide) (by decide) 286 rfl ?_
  refine z_ifN C at_286 (by decide) 289 rfl ?_
  refine z_aload C at_289 rfl rfl 291 rfl ?_
  refine z_iload C at_291 rfl 293 rfl ?_
  refine z_iload C at_293 rfl 295 rfl ?_
  refine z_callSp C (z_c33_60 l hw S (by omega) old4 y12 ((List.set ((List.set ((List.set ((List.set ((List.set ((List.set (((List.set ((List.set (((List.set ((List.set (((List.set ((List.set ((z_z8)) (y10).toNatClampNeg (.int (1 : Int32)))) ((y10 ^^^ (1 : Int32))).toNatClampNeg (.int (-1 : Int32))))) (y11).toNatClampNeg (.int (1 : Int32)))) ((y11 ^^^ (1 : Int32))).toNatClampNeg (.int (-1 : Int32))))) (y12).toNatClampNeg (.int (1 : Int32)))) ((y12 ^^^ (1 : Int32))).toNatClampNeg (.int (-1 : Int32))))) (y12).toNatClampNeg (.int (0 : Int32)))) ((y12 ^^^ (1 : Int32))).toNatClampNeg (.int (0 : Int32)))) (y11).toNatClampNeg (.int (0 : Int32)))) ((y11 ^^^ (1 : Int32))).toNatClampNeg (.int (0 : Int32)))) (y10).toNatClampNeg (.int (0 : Int32)))) ((y10 ^^^ (1 : Int32))).toNatClampNeg (.int (0 : Int32)))) p1 p2 p3 p4 p5 p6 p7 p8 p9 p10 p11 o_p1_4 o_p3_4 TT.2.2.2.2.2.2.2.2.1 TT.2.2.2.2.2.2.2.2.2.2.2.2.2.2.2.2.2.2.2.2.2.2.1 TT.2.2.2.2.2.2.2.2.2.2.1 TT.2.2.2.2.2.2.2.2.2.2.2.2.2.2.2.2.2.2.2.2.2.2.2.1) (z_w hw 262 rfl) (z_w hw 263 rfl) (z_w hw 264 rfl) (z_w hw 265 rfl) (by decide) at_295 rfl (argsL := [(.ref p1), (.int y12), (.int (0 : Int32))]) (rest := []) rfl (lenOf z_pd19 rfl) (W := 0) (Nat.le_of_eq rfl) (by decide) (by decide) (by decide) (by decide) (by decide) (by decide) 298 rfl ?_
  refine z_ifN C at_298 (by decide) 301 rfl ?_
  refine z_iconst C (v := (1 : Int32)) at_301 (by decide) 302 rfl ?_
  refine z_goto C at_302 (by decide) 306 (by decide) ?_
  refine z_istore C (Ls' := #[.val (.int y0), .val (.int y1), .val (.int y2), .val (.int y3), .val (.ref p0), .val (.ref p1), .val (.int y4), .val (.int y5), .val (.int y6), .val (.int y7), .val (.int y8), .val (.int y9), .val (.int y10), .val (.int y11), .val (.int y12), .val (.int (3 : Int32)), .val (.int (0 : Int32)), .val (.int (0 : Int32)), .val (.int (0 : Int32)), .val (.int (0 : Int32)), .val (.int (0 : Int32)), .val (.int (1 : Int32))]) at_306 rfl 308 rfl ?_
  refine z_iload C at_308 rfl 310 rfl ?_
  refine z_ifN C at_310 (by decide) 313 rfl ?_
  refine z_aload C at_313 rfl rfl 315 rfl ?_
  refine z_getO C (z_w hw 266 rfl) Via.refl o_p1_4 2 rfl rfl at_315 318 rfl ?_
  refine z_iconst C (v := (0 : Int32)) at_318 (by decide) 319 rfl ?_
  refine z_baload C o_p3_4 (by decide) TT.2.2.2.2.2.2.2.2.2.2.2.2.2.2.2.2.2.2.2.2.2.2.2.2.1 at_319 320 rfl ?_
  refine z_ifN C at_320 (by decide) 323 rfl ?_
  refine z_aload C at_323 rfl rfl 325 rfl ?_
  refine z_getO C (z_w hw 266 rfl) Via.refl o_p1_4 2 rfl rfl at_325 328 rfl ?_
  refine z_iconst C (v := (1 : Int32)) at_328 (by decide) 329 rfl ?_
  refine z_baload C o_p3_4 (by decide) TT.2.2.2.2.2.2.2.2.2.2.2.2.2.2.2.2.2.2.2.2.2.2.2.2.2 at_329 330 rfl ?_
  refine z_ifN C at_330 (by decide) 333 rfl ?_
  refine z_iconst C (v := (1 : Int32)) at_333 (by decide) 334 rfl ?_
  refine z_goto C at_334 (by decide) 338 (by decide) ?_
  refine z_istore C (Ls' := #[.val (.int y0), .val (.int y1), .val (.int y2), .val (.int y3), .val (.ref p0), .val (.ref p1), .val (.int y4), .val (.int y5), .val (.int y6), .val (.int y7), .val (.int y8), .val (.int y9), .val (.int y10), .val (.int y11), .val (.int y12), .val (.int (3 : Int32)), .val (.int (0 : Int32)), .val (.int (0 : Int32)), .val (.int (0 : Int32)), .val (.int (0 : Int32)), .val (.int (0 : Int32)), .val (.int (1 : Int32))]) at_338 rfl 340 rfl ?_
  refine z_iload C at_340 rfl 342 rfl ?_
  refine z_ifY C at_342 (by decide) (by decide) 369 (by decide) ?_
  refine z_iload C at_369 rfl 371 rfl ?_
  refine z_ifY C at_371 (by decide) (by decide) 398 (by decide) ?_
  refine z_iload C at_398 rfl 400 rfl ?_
  refine z_ifY C at_400 (by decide) (by decide) 427 (by decide) ?_
  refine z_iload C at_427 rfl 429 rfl ?_
  exact z_ireturn C (by simp) rfl at_429 (by decide) (by decide) rfl
set_option maxHeartbeats 2000000 in
theorem z_c30_88 (l : Launch) {Z : State} {a0 : Array Value} (hw : ∀ d ∈ tables_1, d.before a0 Z = true) {n0 : Nat} {h : Heap} {a_DEF a_ONE a_NONE : Nat} (S : z_St Z a_DEF a_ONE a_NONE) (z0 : n0 ≤ h.size) (old : Old Z n0 h) (y0 : Int32) (y1 : Int32) (y2 : Int32) (va0 : List Value) (p0 : Nat) (p1 : Nat) (p2 : Nat) (p3 : Nat) (p4 : Nat) (p5 : Nat) (p6 : Nat) (p7 : Nat) (p8 : Nat) (p9 : Nat) (p10 : Nat) (o_p0 : z_Ob Z h p0 "com/example/variegate/variegate/service/Propagation" z_lay3 [(.int (3 : Int32)), (.ref p1), (.ref p2), (.ref p3), (.ref p4), (.ref p5), (.ref p6), (.ref p7), (.ref p8), (.ref p9), (.ref p10), (.int (3 : Int32)), (.int (0 : Int32)), (.int (0 : Int32))]) (o_p3 : z_Ar Z h p3 .int "[I" "" [(.int y0), (.int y1), (.int y2), (.int (0 : Int32))]) (o_p2 : z_Ar Z h p2 .byte "[B" "" va0) (ne_p0_p3 : p0 ≠ p3) (ne_p0_p2 : p0 ≠ p2) (ne_p2_p3 : p2 ≠ p3) (g_p0 : n0 ≤ p0) (g_p2 : n0 ≤ p2) (rq0 : ¬ y2 < 0) (rq1 : (y2).toNatClampNeg < (va0).length) (rq2 : ¬ (y2 ^^^ (1 : Int32)) < 0) (rq3 : ((y2 ^^^ (1 : Int32))).toNatClampNeg < ((List.set (va0) (y2).toNatClampNeg (.int (0 : Int32)))).length) (rq4 : ¬ y1 < 0) (rq5 : (y1).toNatClampNeg < ((List.set ((List.set (va0) (y2).toNatClampNeg (.int (0 : Int32)))) ((y2 ^^^ (1 : Int32))).toNatClampNeg (.int (0 : Int32)))).length) (rq6 : ¬ (y1 ^^^ (1 : Int32)) < 0) (rq7 : ((y1 ^^^ (1 : Int32))).toNatClampNeg < ((List.set ((List.set ((List.set (va0) (y2).toNatClampNeg (.int (0 : Int32)))) ((y2 ^^^ (1 : Int32))).toNatClampNeg (.int (0 : Int32)))) (y1).toNatClampNeg (.int (0 : Int32)))).length) :
    z_Met l Z (⟨"com/example/variegate/variegate/service/Propagation", "backtrack", "(I)V"⟩ : MethodName) prog_97_method_11_code 3 none [] ({ frames := 0, cells := 0, slots := 0, locals := 0 } : Room) n0 #[(.ref p0), (.int (1 : Int32))] h (z_nov fun h' => Keep h h' [p0, p2] ∧ z_Ob Z h' p0 "com/example/variegate/variegate/service/Propagation" z_lay3 [(.int (3 : Int32)), (.ref p1), (.ref p2), (.ref p3), (.ref p4), (.ref p5), (.ref p6), (.ref p7), (.ref p8), (.ref p9), (.ref p10), (.int (1 : Int32)), (.int (1 : Int32)), (.int (0 : Int32))] ∧ z_Ar Z h' p2 .byte "[B" "" (List.set ((List.set ((List.set ((List.set (va0) (y2).toNatClampNeg (.int (0 : Int32)))) ((y2 ^^^ (1 : Int32))).toNatClampNeg (.int (0 : Int32)))) (y1).toNatClampNeg (.int (0 : Int32)))) ((y1 ^^^ (1 : Int32))).toNatClampNeg (.int (0 : Int32)))) := by
  refine z_met (Ls := #[.val (.ref p0), .val (.int (1 : Int32)), .unset]) (by first | exact plainFor_of_name (by first | (simp [plainName, overriddenIn]; done) | decide +kernel) | decide +kernel) rfl ?_
  intro p e s m below meth c C
  refine z_aloadN C z_d30_0 rfl rfl 1 rfl ?_
  refine z_getO C (z_w hw 250 rfl) Via.refl o_p0 11 rfl rfl z_d30_1 4 rfl ?_
  refine z_iloadN C z_d30_4 rfl 5 rfl ?_
  refine z_icmpN C z_d30_5 (by decide) 8 rfl ?_
  refine z_aloadN C z_d30_8 rfl rfl 9 rfl ?_
  refine z_getO C (z_w hw 165 rfl) Via.refl o_p0 3 rfl rfl z_d30_9 12 rfl ?_
  refine z_aloadN C z_d30_12 rfl rfl 13 rfl ?_
  refine z_dup C z_d30_13 rfl 14 rfl ?_
  refine z_getO C (z_w hw 250 rfl) Via.refl o_p0 11 rfl rfl z_d30_14 17 rfl ?_
  refine z_iconst C (v := (1 : Int32)) z_d30_17 (by decide) 18 rfl ?_
  refine z_isub C (z := (2 : Int32)) z_d30_18 (by decide) 19 rfl ?_
  refine z_dup_x1 C z_d30_19 rfl rfl 20 rfl ?_
  refine z_putO C (z_w hw 250 rfl) Via.refl o_p0 (z_lay3_ok hw) 11 rfl (vs' := [(.int (3 : Int32)), (.ref p1), (.ref p2), (.ref p3), (.ref p4), (.ref p5), (.ref p6), (.ref p7), (.ref p8), (.ref p9), (.ref p10), (.int (2 : Int32)), (.int (0 : Int32)), (.int (0 : Int32))]) rfl (Or.inl (z_w hw 251 rfl)) (z_w hw 116 rfl) (ty := .int) (by decide) (by first | rfl | decide) (by first | rfl | decide) g_p0 z_d30_20 23 rfl ?_
  intro h1 W1 o_p0_1
  have s1 : h1.size = h.size := W1.size
  have k1 : Keep h h1 [p0, p2] := (Keep.refl h [p0, p2]).wr W1 (Or.inl (by simp))
  have o_p3_1 := (o_p3.other W1 (Ne.symm ne_p0_p3))
  refine z_iaload C o_p3_1 (by decide) (v := (.int y2)) (by rfl) z_d30_23 24 rfl ?_
  refine z_istoreN C (Ls' := #[.val (.ref p0), .val (.int (1 : Int32)), .val (.int y2)]) z_d30_24 rfl 25 rfl ?_
  refine z_aloadN C z_d30_25 rfl rfl 26 rfl ?_
  refine z_getO C (z_w hw 162 rfl) Via.refl o_p0_1 2 rfl rfl z_d30_26 29 rfl ?_
  refine z_iloadN C z_d30_29 rfl 30 rfl ?_
  refine z_iconst C (v := (0 : Int32)) z_d30_30 (by decide) 31 rfl ?_
  have o_p2_1 := (o_p2.other W1 (Ne.symm ne_p0_p2))
  refine z_bastore C (z := (0 : Int32)) o_p2_1 rq0 rq1 (by decide) (vs' := (List.set (va0) (y2).toNatClampNeg (.int (0 : Int32)))) rfl g_p2 z_d30_31 32 rfl ?_
  intro h2 W2 o_p2_2
  have s2 : h2.size = h1.size := W2.size
  have k2 : Keep h h2 [p0, p2] := k1.wr W2 (Or.inl (by simp))
  refine z_aloadN C z_d30_32 rfl rfl 33 rfl ?_
  have o_p0_2 := (o_p0_1.other W2 ne_p0_p2)
  refine z_getO C (z_w hw 162 rfl) Via.refl o_p0_2 2 rfl rfl z_d30_33 36 rfl ?_
  refine z_iloadN C z_d30_36 rfl 37 rfl ?_
  refine z_iconst C (v := (1 : Int32)) z_d30_37 (by decide) 38 rfl ?_
  refine z_ixor C z_d30_38 rfl 39 rfl ?_
  refine z_iconst C (v := (0 : Int32)) z_d30_39 (by decide) 40 rfl ?_
  refine z_bastore C (z := (0 : Int32)) o_p2_2 rq2 rq3 (by decide) (vs' := (List.set ((List.set (va0) (y2).toNatClampNeg (.int (0 : Int32)))) ((y2 ^^^ (1 : Int32))).toNatClampNeg (.int (0 : Int32)))) rfl g_p2 z_d30_40 41 rfl ?_
  intro h3 W3 o_p2_3
  have s3 : h3.size = h2.size := W3.size
  have k3 : Keep h h3 [p0, p2] := k2.wr W3 (Or.inl (by simp))
  refine z_goto C z_d30_41 (by decide) 0 (by decide) ?_
  refine z_aloadN C z_d30_0 rfl rfl 1 rfl ?_
  have o_p0_3 := (o_p0_2.other W3 ne_p0_p2)
  refine z_getO C (z_w hw 250 rfl) Via.refl o_p0_3 11 rfl rfl z_d30_1 4 rfl ?_
  refine z_iloadN C z_d30_4 rfl 5 rfl ?_
  refine z_icmpN C z_d30_5 (by decide) 8 rfl ?_
  refine z_aloadN C z_d30_8 rfl rfl 9 rfl ?_
  refine z_getO C (z_w hw 165 rfl) Via.refl o_p0_3 3 rfl rfl z_d30_9 12 rfl ?_
  refine z_aloadN C z_d30_12 rfl rfl 13 rfl ?_
  refine z_dup C z_d30_13 rfl 14 rfl ?_
  refine z_getO C (z_w hw 250 rfl) Via.refl o_p0_3 11 rfl rfl z_d30_14 17 rfl ?_
  refine z_iconst C (v := (1 : Int32)) z_d30_17 (by decide) 18 rfl ?_
  refine z_isub C (z := (1 : Int32)) z_d30_18 (by decide) 19 rfl ?_
  refine z_dup_x1 C z_d30_19 rfl rfl 20 rfl ?_
  refine z_putO C (z_w hw 250 rfl) Via.refl o_p0_3 (z_lay3_ok hw) 11 rfl (vs' := [(.int (3 : Int32)), (.ref p1), (.ref p2), (.ref p3), (.ref p4), (.ref p5), (.ref p6), (.ref p7), (.ref p8), (.ref p9), (.ref p10), (.int (1 : Int32)), (.int (0 : Int32)), (.int (0 : Int32))]) rfl (Or.inl (z_w hw 251 rfl)) (z_w hw 116 rfl) (ty := .int) (by decide) (by first | rfl | decide) (by first | rfl | decide) g_p0 z_d30_20 23 rfl ?_
  intro h4 W4 o_p0_4
  have s4 : h4.size = h3.size := W4.size
  have k4 : Keep h h4 [p0, p2] := k3.wr W4 (Or.inl (by simp))
  have o_p3_4 := (((o_p3_1.other W2 (Ne.symm ne_p2_p3)).other W3 (Ne.symm ne_p2_p3)).other W4 (Ne.symm ne_p0_p3))
  refine z_iaload C o_p3_4 (by decide) (v := (.int y1)) (by rfl) z_d30_23 24 rfl ?_
  refine z_istoreN C (Ls' := #[.val (.ref p0), .val (.int (1 : Int32)), .val (.int y1)]) z_d30_24 rfl 25 rfl ?_
  refine z_aloadN C z_d30_25 rfl rfl 26 rfl ?_
  refine z_getO C (z_w hw 162 rfl) Via.refl o_p0_4 2 rfl rfl z_d30_26 29 rfl ?_
  refine z_iloadN C z_d30_29 rfl 30 rfl ?_
  refine z_iconst C (v := (0 : Int32)) z_d30_30 (by decide) 31 rfl ?_
  have o_p2_4 := (o_p2_3.other W4 (Ne.symm ne_p0_p2))
  refine z_bastore C (z := (0 : Int32)) o_p2_4 rq4 rq5 (by decide) (vs' := (List.set ((List.set ((List.set (va0) (y2).toNatClampNeg (.int (0 : Int32)))) ((y2 ^^^ (1 : Int32))).toNatClampNeg (.int (0 : Int32)))) (y1).toNatClampNeg (.int (0 : Int32)))) rfl g_p2 z_d30_31 32 rfl ?_
  intro h5 W5 o_p2_5
  have s5 : h5.size = h4.size := W5.size
  have k5 : Keep h h5 [p0, p2] := k4.wr W5 (Or.inl (by simp))
  refine z_aloadN C z_d30_32 rfl rfl 33 rfl ?_
  have o_p0_5 := (o_p0_4.other W5 ne_p0_p2)
  refine z_getO C (z_w hw 162 rfl) Via.refl o_p0_5 2 rfl rfl z_d30_33 36 rfl ?_
  refine z_iloadN C z_d30_36 rfl 37 rfl ?_
  refine z_iconst C (v := (1 : Int32)) z_d30_37 (by decide) 38 rfl ?_
  refine z_ixor C z_d30_38 rfl 39 rfl ?_
  refine z_iconst C (v := (0 : Int32)) z_d30_39 (by decide) 40 rfl ?_
  refine z_bastore C (z := (0 : Int32)) o_p2_5 rq6 rq7 (by decide) (vs' := (List.set ((List.set ((List.set ((List.set (va0) (y2).toNatClampNeg (.int (0 : Int32)))) ((y2 ^^^ (1 : Int32))).toNatClampNeg (.int (0 : Int32)))) (y1).toNatClampNeg (.int (0 : Int32)))) ((y1 ^^^ (1 : Int32))).toNatClampNeg (.int (0 : Int32)))) rfl g_p2 z_d30_40 41 rfl ?_
  intro h6 W6 o_p2_6
  have s6 : h6.size = h5.size := W6.size
  have k6 : Keep h h6 [p0, p2] := k5.wr W6 (Or.inl (by simp))
  refine z_goto C z_d30_41 (by decide) 0 (by decide) ?_
  refine z_aloadN C z_d30_0 rfl rfl 1 rfl ?_
  have o_p0_6 := (o_p0_5.other W6 ne_p0_p2)
  refine z_getO C (z_w hw 250 rfl) Via.refl o_p0_6 11 rfl rfl z_d30_1 4 rfl ?_
  refine z_iloadN C z_d30_4 rfl 5 rfl ?_
  refine z_icmpY C z_d30_5 (by decide) (by decide) 44 (by decide) ?_
  refine z_aloadN C z_d30_44 rfl rfl 45 rfl ?_
  refine z_iloadN C z_d30_45 rfl 46 rfl ?_
  refine z_putO C (z_w hw 252 rfl) Via.refl o_p0_6 (z_lay3_ok hw) 12 rfl (vs' := [(.int (3 : Int32)), (.ref p1), (.ref p2), (.ref p3), (.ref p4), (.ref p5), (.ref p6), (.ref p7), (.ref p8), (.ref p9), (.ref p10), (.int (1 : Int32)), (.int (1 : Int32)), (.int (0 : Int32))]) rfl (Or.inl (z_w hw 253 rfl)) (z_w hw 116 rfl) (ty := .int) (by decide) (by first | rfl | decide) (by first | rfl | decide) g_p0 z_d30_46 49 rfl ?_
  intro h7 W7 o_p0_7
  have s7 : h7.size = h6.size := W7.size
  have k7 : Keep h h7 [p0, p2] := k6.wr W7 (Or.inl (by simp))
  have o_p2_7 := (o_p2_6.other W7 (Ne.symm ne_p0_p2))
  exact z_return C z_d30_49 (by decide) (by decide) ⟨rfl, k7, o_p0_7, o_p2_7⟩
set_option maxHeartbeats 2000000 in
theorem z_c31_89 (l : Launch) {Z : State} {a0 : Array Value} (hw : ∀ d ∈ tables_1, d.before a0 Z = true) {n0 : Nat} {h : Heap} {a_DEF a_ONE a_NONE : Nat} (S : z_St Z a_DEF a_ONE a_NONE) (z0 : n0 ≤ h.size) (old : Old Z n0 h) :
    z_Met l Z (⟨"java/lang/Math", "min", "(II)I"⟩ : MethodName) jdk_29_method_69_code 2 (some .int) [] ({ frames := 0, cells := 0, slots := 0, locals := 0 } : Room) n0 #[(.int (3 : Int32)), (.int (1 : Int32))] h (z_pure (.int (1 : Int32)) h) := by
  refine z_met (Ls := #[.val (.int (3 : Int32)), .val (.int (1 : Int32))]) (by first | exact plainFor_of_name (by first | (simp [plainName, overriddenIn]; done) | decide +kernel) | decide +kernel) rfl ?_
  intro p e s m below meth c C
  refine z_iloadN C z_d31_0 rfl 1 rfl ?_
  refine z_iloadN C z_d31_1 rfl 2 rfl ?_
  refine z_icmpY C z_d31_2 (by decide) (by decide) 9 (by decide) ?_
  refine z_iloadN C z_d31_9 rfl 10 rfl ?_
  exact z_ireturn C (Or.inl rfl) rfl z_d31_10 (by decide) (by decide) ⟨rfl, rfl⟩
set_option maxHeartbeats 8000000 in
theorem z_seg90 (l : Launch) {Z : State} {a0 : Array Value} (hw : ∀ d ∈ tables_1, d.before a0 Z = true) {n0 : Nat} {h : Heap} {a_DEF a_ONE a_NONE : Nat} (S : z_St Z a_DEF a_ONE a_NONE) (z0 : n0 ≤ h.size) (old : Old Z n0 h) (y0 : Int32) (y1 : Int32) (y2 : Int32) (y3 : Int32) (y4 : Int32) (y5 : Int32) (y6 : Int32) (y7 : Int32) (y8 : Int32) (y9 : Int32) (y10 : Int32) (y11 : Int32) (y12 : Int32) (p0 : Nat) (p1 : Nat) (p2 : Nat) (p3 : Nat) (p4 : Nat) (p5 : Nat) (p6 : Nat) (p7 : Nat) (p8 : Nat) (p9 : Nat) (p10 : Nat) (p11 : Nat) (o_p1 : z_Ob Z h p1 "com/example/variegate/variegate/service/Propagation" z_lay3 [(.int (3 : Int32)), (.ref p2), (.ref p3), (.ref p4), (.ref p5), (.ref p6), (.ref p7), (.ref p8), (.ref p9), (.ref p10), (.ref p11), (.int (0 : Int32)), (.int (0 : Int32)), (.int (0 : Int32))]) (o_p3 : z_Ar Z h p3 .byte "[B" "" z_z8) (o_p4 : z_Ar Z h p4 .int "[I" "" [(.int (0 : Int32)), (.int (0 : Int32)), (.int (0 : Int32)), (.int (0 : Int32))]) (ne_p1_p3 : p1 ≠ p3) (ne_p3_p4 : p3 ≠ p4) (ne_p1_p4 : p1 ≠ p4) (g_p3 : n0 ≤ p3) (g_p1 : n0 ≤ p1) (g_p4 : n0 ≤ p4) (TT : z_R3_1 y10 y11 y12) (hn : (y0 &&& (3 : Int32)) = (3 : Int32)) (hm : (y2 &&& (7 : Int32)) = (1 : Int32)) {p : Program} {e : Env} {s : State} {m : MethodId} {args : Array Value} {below : List Frame} {meth : Method} {c : Code} (C : z_Cx Z p s m meth c x.cls code maxLocals ret x.name) :
    z_At p l e room_1 s m args below meth c n0 (fun v _ => v = some (.int 1)) h 27 131 (mkF m 139 #[.val (.int y0), .val (.int y1), .val (.int y2), .val (.int y3), .val (.ref p0), .val (.ref p1), .val (.int y4), .val (.int y5), .val (.int y6), .val (.int y7), .val (.int y8), .val (.int y9), .val (.int y10), .val (.int y11), .val (.int y12), .unset, .unset, .unset, .unset, .unset, .unset, .unset] []) := by
  refine z_iloadN C at_139 rfl 140 rfl ?_
  refine z_iconst C (v := (3 : Int32)) at_140 (by decide) 141 rfl ?_
  refine z_iand C (z := (3 : Int32)) at_141 hn 142 rfl ?_
  refine z_istore C (Ls' := #[.val (.int y0), .val (.int y1), .val (.int y2), .val (.int y3), .val (.ref p0), .val (.ref p1), .val (.int y4), .val (.int y5), .val (.int y6), .val (.int y7), .val (.int y8), .val (.int y9), .val (.int y10), .val (.int y11), .val (.int y12), .val (.int (3 : Int32)), .unset, .unset, .unset, .unset, .unset, .unset]) at_142 rfl 144 rfl ?_
  refine z_iload C at_144 rfl 146 rfl ?_
  refine z_ifN C at_146 (by decide) 149 rfl ?_
  refine z_aload C at_149 rfl rfl 151 rfl ?_
  refine z_iload C at_151 rfl 153 rfl ?_
  refine z_callVV C o_p1.1 (z_c34_56 l hw S (by omega) old y10 (z_z8) p1 p2 p3 p4 p5 p6 p7 p8 p9 p10 p11 o_p1 o_p3 o_p4 ne_p1_p3 ne_p3_p4 ne_p1_p4 g_p3 g_p1 g_p4 TT.1 TT.2.1 TT.2.2.1 TT.2.2.2.1) (z_w hw 267 rfl) (z_w hw 268 rfl) (z_w hw 270 rfl) (z_w hw 269 rfl) (z_w hw 117 rfl) (z_w hw 271 rfl) (by decide) at_153 rfl (argsL := [(.int y10)]) (rest := []) rfl (lenOf z_pd2 rfl) (W := 0) (Nat.le_of_eq rfl) (by decide) (by decide) (by decide) (by decide) 156 rfl ?_
  rintro h1 ⟨K1, o_p1_1, o_p3_1, o_p4_1⟩
  have s1 : h.size ≤ h1.size := K1.1
  refine z_iload C at_156 rfl 158 rfl ?_
  refine z_iconst C (v := (1 : Int32)) at_158 (by decide) 159 rfl ?_
  refine z_icmpN C at_159 (by decide) 162 rfl ?_
  refine z_aload C at_162 rfl rfl 164 rfl ?_
  refine z_iload C at_164 rfl 166 rfl ?_
  have old1 := (old.keep K1 (allS g_p3 (allS g_p1 (allS g_p4 all0))))
  refine z_callVV C o_p1_1.1 (z_c34_68 l hw S (by omega) old1 y11 y10 ((List.set ((List.set ((z_z8)) (y10).toNatClampNeg (.int (1 : Int32)))) ((y10 ^^^ (1 : Int32))).toNatClampNeg (.int (-1 : Int32)))) p1 p2 p3 p4 p5 p6 p7 p8 p9 p10 p11 o_p1_1 o_p3_1 o_p4_1 ne_p1_p3 ne_p3_p4 ne_p1_p4 g_p3 g_p1 g_p4 TT.2.2.2.2.1 TT.2.2.2.2.2.1 TT.2.2.2.2.2.2.1 TT.2.2.2.2.2.2.2.1) (z_w hw 267 rfl) (z_w hw 268 rfl) (z_w hw 270 rfl) (z_w hw 269 rfl) (z_w hw 117 rfl) (z_w hw 271 rfl) (by decide) at_166 rfl (argsL := [(.int y11)]) (rest := []) rfl (lenOf z_pd2 rfl) (W := 0) (Nat.le_of_eq rfl) (by decide) (by decide) (by decide) (by decide) 169 rfl ?_
  rintro h2 ⟨K2, o_p1_2, o_p3_2, o_p4_2⟩
  have s2 : h1.size ≤ h2.size := K2.1
  refine z_iload C at_169 rfl 171 rfl ?_
  refine z_iconst C (v := (2 : Int32)) at_171 (by decide) 172 rfl ?_
  refine z_icmpN C at_172 (by decide) 175 rfl ?_
  refine z_aload C at_175 rfl rfl 177 rfl ?_
  refine z_iload C at_177 rfl 179 rfl ?_
  have old2 := (old1.keep K2 (allS g_p3 (allS g_p1 (allS g_p4 all0))))
  refine z_callVV C o_p1_2.1 (z_c34_84 l hw S (by omega) old2 y12 y10 y11 ((List.set ((List.set (((List.set ((List.set ((z_z8)) (y10).toNatClampNeg (.int (1 : Int32)))) ((y10 ^^^ (1 : Int32))).toNatClampNeg (.int (-1 : Int32))))) (y11).toNatClampNeg (.int (1 : Int32)))) ((y11 ^^^ (1 : Int32))).toNatClampNeg (.int (-1 : Int32)))) p1 p2 p3 p4 p5 p6 p7 p8 p9 p10 p11 o_p1_2 o_p3_2 o_p4_2 ne_p1_p3 ne_p3_p4 ne_p1_p4 g_p3 g_p1 g_p4 TT.2.2.2.2.2.2.2.2.1 TT.2.2.2.2.2.2.2.2.2.1 TT.2.2.2.2.2.2.2.2.2.2.1 TT.2.2.2.2.2.2.2.2.2.2.2.1) (z_w hw 267 rfl) (z_w hw 268 rfl) (z_w hw 270 rfl) (z_w hw 269 rfl) (z_w hw 117 rfl) (z_w hw 271 rfl) (by decide) at_179 rfl (argsL := [(.int y12)]) (rest := []) rfl (lenOf z_pd2 rfl) (W := 0) (Nat.le_of_eq rfl) (by decide) (by decide) (by decide) (by decide) 182 rfl ?_
  rintro h3 ⟨K3, o_p1_3, o_p3_3, o_p4_3⟩
  have s3 : h2.size ≤ h3.size := K3.1
  refine z_iloadN C at_182 rfl 183 rfl ?_
  refine z_bipush C (v := (7 : Int32)) at_183 (by decide) 185 rfl ?_
  refine z_iand C (z := (1 : Int32)) at_185 hm 186 rfl ?_
  refine z_istore C (Ls' := #[.val (.int y0), .val (.int y1), .val (.int y2), .val (.int y3), .val (.ref p0), .val (.ref p1), .val (.int y4), .val (.int y5), .val (.int y6), .val (.int y7), .val (.int y8), .val (.int y9), .val (.int y10), .val (.int y11), .val (.int y12), .val (.int (3 : Int32)), .val (.int (1 : Int32)), .unset, .unset, .unset, .unset, .unset]) at_186 rfl 188 rfl ?_
  refine z_aload C at_188 rfl rfl 190 rfl ?_
  refine z_iload C at_190 rfl 192 rfl ?_
  have old3 := (old2.keep K3 (allS g_p3 (allS g_p1 (allS g_p4 all0))))
  refine z_callVV C o_p1_3.1 (z_c30_88 l hw S (by omega) old3 y10 y11 y12 ((List.set ((List.set (((List.set ((List.set (((List.set ((List.set ((z_z8)) (y10).toNatClampNeg (.int (1 : Int32)))) ((y10 ^^^ (1 : Int32))).toNatClampNeg (.int (-1 : Int32))))) (y11).toNatClampNeg (.int (1 : Int32)))) ((y11 ^^^ (1 : Int32))).toNatClampNeg (.int (-1 : Int32))))) (y12).toNatClampNeg (.int (1 : Int32)))) ((y12 ^^^ (1 : Int32))).toNatClampNeg (.int (-1 : Int32)))) p1 p2 p3 p4 p5 p6 p7 p8 p9 p10 p11 o_p1_3 o_p4_3 o_p3_3 ne_p1_p4 ne_p1_p3 ne_p3_p4 g_p1 g_p3 TT.2.2.2.2.2.2.2.2.1 TT.2.2.2.2.2.2.2.2.2.2.2.2.1 TT.2.2.2.2.2.2.2.2.2.2.1 TT.2.2.2.2.2.2.2.2.2.2.2.2.2.1 TT.2.2.2.2.1 TT.2.2.2.2.2.2.2.2.2.2.2.2.2.2.1 TT.2.2.2.2.2.2.1 TT.2.2.2.2.2.2.2.2.2.2.2.2.2.2.2.1) (z_w hw 245 rfl) (z_w hw 246 rfl) (z_w hw 248 rfl) (z_w hw 247 rfl) (z_w hw 117 rfl) (z_w hw 249 rfl) (by decide) at_192 rfl (argsL := [(.int (1 : Int32))]) (rest := []) rfl (lenOf z_pd2 rfl) (W := 0) (Nat.le_of_eq rfl) (by decide) (by decide) (by decide) (by decide) 195 rfl ?_
  rintro h4 ⟨K4, o_p1_4, o_p3_4⟩
  have s4 : h3.size ≤ h4.size := K4.1
  refine z_iload C at_195 rfl 197 rfl ?_
  refine z_iload C at_197 rfl 199 rfl ?_
  have old4 := (old3.keep K4 (allS g_p1 (allS g_p3 all0)))
  refine z_callSp C (z_c31_89 l hw S (by omega) old4) (z_w hw 254 rfl) (z_w hw 255 rfl) (z_w hw 102 rfl) (z_w hw 256 rfl) (by decide) at_199 rfl (argsL := [(.int (3 : Int32)), (.int (1 : Int32))]) (rest := []) rfl (lenOf z_pd3 rfl) (W := 0) (Nat.le_of_eq rfl) (by decide) (by decide) (by decide) (by decide) (by decide) (by decide) 202 rfl ?_
  refine z_istore C (Ls' := #[.val (.int y0), .val (.int y1), .val (.int y2), .val (.int y3), .val (.ref p0), .val (.ref p1), .val (.int y4), .val (.int y5), .val (.int y6), .val (.int y7), .val (.int y8), .val (.int y9), .val (.int y10), .val (.int y11), .val (.int y12), .val (.int (3 : Int32)), .val (.int (1 : Int32)), .val (.int (1 : Int32)), .unset, .unset, .unset, .unset]) at_202 rfl 204 rfl ?_
  refine z_iconst C (v := (0 : Int32)) at_204 (by decide) 205 rfl ?_
  refine z_iload C at_205 rfl 207 rfl ?_
  refine z_icmpN C at_207 (by decide) 210 rfl ?_
  refine z_iconst C (v := (1 : Int32)) at_210 (by decide) 211 rfl ?_
  refine z_goto C at_211 (by decide) 215 (by decide) ?_
  refine z_istore C (Ls' := #[.val (.int y0), .val (.int y1), .val (.int y2), .val (.int y3), .val (.ref p0), .val (.ref p1), .val (.int y4), .val (.int y5), .val (.int y6), .val (.int y7), .val (.int y8), .val (.int y9), .val (.int y10), .val (.int y11), .val (.int y12), .val (.int (3 : Int32)), .val (.int (1 : Int32)), .val (.int (1 : Int32)), .val (.int (1 : Int32)), .unset, .unset, .unset]) at_215 rfl 217 rfl ?_
  refine z_iconst C (v := (1 : Int32)) at_217 (by decide) 218 rfl ?_
  refine z_iload C at_218 rfl 220 rfl ?_
  refine z_icmpY C at_220 (by decide) (by decide) 227 (by decide) ?_
  refine z_iconst C (v := (0 : Int32)) at_227 (by decide) 228 rfl ?_
  refine z_istore C (Ls' := #[.val (.int y0), .val (.int y1), .val (.int y2), .val (.int y3), .val (.ref p0), .val (.ref p1), .val (.int y4), .val (.int y5), .val (.int y6), .val (.int y7), .val (.int y8), .val (.int y9), .val (.int y10), .val (.int y11), .val (.int y12), .val (.int (3 : Int32)), .val (.int (1 : Int32)), .val (.int (1 : Int32)), .val (.int (1 : Int32)), .val (.int (0 : Int32)), .unset, .unset]) at_228 rfl 230 rfl ?_
  refine z_iconst C (v := (2 : Int32)) at_230 (by decide) 231 rfl ?_
  refine z_iload C at_231 rfl 233 rfl ?_
  refine z_icmpY C at_233 (by decide) (by decide) 240 (by decide) ?_
  refine z_iconst C (v := (0 : Int32)) at_240 (by decide) 241 rfl ?_
  refine z_istore C (Ls' := #[.val (.int y0), .val (.int y1), .val (.int y2), .val (.int y3), .val (.ref p0), .val (.ref p1), .val (.int y4), .val (.int y5), .val (.int y6), .val (.int y7), .val (.int y8), .val (.int y9), .val (.int y10), .val (.int y11), .val (.int y12), .val (.int (3 : Int32)), .val (.int (1 : Int32)), .val (.int (1 : Int32)), .val (.int (1 : Int32)), .val (.int (0 : Int32)), .val (.int (0 : Int32)), .unset]) at_241 rfl 243 rfl ?_
  refine z_aload C at_243 rfl rfl 245 rfl ?_
  refine z_callVp C o_p1_4.1 (z_c32_74 l hw S (by omega) old4 p1 p2 p3 p4 p5 p6 p7 p8 p9 p10 p11 o_p1_4) (z_w hw 257 rfl) (z_w hw 258 rfl) (z_w hw 260 rfl) (z_w hw 259 rfl) (z_w hw 117 rfl) (z_w hw 261 rfl) (by decide) at_245 rfl (argsL := []) (rest := []) rfl (lenOf z_pd8 rfl) (W := 0) (Nat.le_of_eq rfl) (by decide) (by decide) (by decide) (by decide) (by decide) (by decide) 248 rfl ?_
  refine z_iload C at_248 rfl 250 rfl ?_
  refine z_icmpN C at_250 (by decide) 253 rfl ?_
  refine z_iconst C (v := (1 : Int32)) at_253 (by decide) 254 rfl ?_
  refine z_goto C at_254 (by decide) 258 (by decide) ?_
  refine z_istore C (Ls' := #[.val (.int y0), .val (.int y1), .val (.int y2), .val (.int y3), .val (.ref p0), .val (.ref p1), .val (.int y4), .val (.int y5), .val (.int y6), .val (.int y7), .val (.int y8), .val (.int y9), .val (.int y10), .val (.int y11), .val (.int y12), .val (.int (3 : Int32)), .val (.int (1 : Int32)), .val (.int (1 : Int32)), .val (.int (1 : Int32)), .val (.int (0 : Int32)), .val (.int (0 : Int32)), .val (.int (1 : Int32))]) at_258 rfl 260 rfl ?_
  refine z_iload C at_260 rfl 262 rfl ?_
  refine z_ifN C at_262 (by decide) 265 rfl ?_
  refine z_aload C at_265 rfl rfl 267 rfl ?_
  refine z_iload C at_267 rfl 269 rfl ?_
  refine z_iload C at_269 rfl 271 rfl ?_
  refine z_callSp C (z_c33_75 l hw S (by omega) old4 y10 ((List.set ((List.set ((List.set ((List.set (((List.set ((List.set (((List.set ((List.set (((List.set ((List.set ((z_z8)) (y10).toNatClampNeg (.int (1 : Int32)))) ((y10 ^^^ (1 : Int32))).toNatClampNeg (.int (-1 : Int32))))) (y11).toNatClampNeg (.int (1 : Int32)))) ((y11 ^^^ (1 : Int32))).toNatClampNeg (.int (-1 : Int32))))) (y12).toNatClampNeg (.int (1 : Int32)))) ((y12 ^^^ (1 : Int32))).toNatClampNeg (.int (-1 : Int32))))) (y12).toNatClampNeg (.int (0 : Int32)))) ((y12 ^^^ (1 : Int32))).toNatClampNeg (.int (0 : Int32)))) (y11).toNatClampNeg (.int (0 : Int32)))) ((y11 ^^^ (1 : Int32))).toNatClampNeg (.int (0 : Int32)))) p1 p2 p3 p4 p5 p6 p7 p8 p9 p10 p11 o_p1_4 o_p3_4 TT.1 TT.2.2.2.2.2.2.2.2.2.2.2.2.2.2.2.2.1 TT.2.2.1 TT.2.2.2.2.2.2.2.2.2.2.2.2.2.2.2.2.2.1) (z_w hw 262 rfl) (z_w hw 263 rfl) (z_w hw 264 rfl) (z_w hw 265 rfl) (by decide) at_271 rfl (argsL := [(.ref p1), (.int y10), (.int (1 : Int32))]) (rest := []) rfl (lenOf z_pd19 rfl) (W := 0) (Nat.le_of_eq rfl) (by decide) (by decide) (by decide) (by decide) (by decide) (by decide) 274 rfl ?_
  refine z_ifN C at_274 (by decide) 277 rfl ?_
  refine z_aload C at_277 rfl rfl 279 rfl ?_
  refine z_iload C at_279 rfl 281 rfl ?_
  refine z_iload C at_281 rfl 283 rfl ?_
  refine z_callSp C (z_c33_76 l hw S (by omega) old4 y11 ((List.set ((List.set ((List.set ((List.set (((List.set ((List.set (((List.set ((List.set (((List.set ((List.set ((z_z8)) (y10).toNatClampNeg (.int (1 : Int32)))) ((y10 ^^^ (1 : Int32))).toNatClampNeg (.int (-1 : Int32))))) (y11).toNatClampNeg (.int (1 : Int32)))) ((y11 ^^^ (1 : Int32))).toNatClampNeg (.int (-1 : Int32))))) (y12).toNatClampNeg (.int (1 : Int32)))) ((y12 ^^^ (1 : Int32))).toNatClampNeg (.int (-1 : Int32))))) (y12).toNatClampNeg (.int (0 : Int32)))) ((y12 ^^^ (1 : Int32))).toNatClampNeg (.int (0 : Int32)))) (y11).toNatClampNeg (.int (0 : Int32)))) ((y11 ^^^ (1 : Int32))).toNatClampNeg (.int (0 : Int32)))) p1 p2 p3 p4 p5 p6 p7 p8 p9 p10 p11 o_p1_4 o_p3_4 TT.2.2.2.2.1 TT.2.2.2.2.2.2.2.2.2.2.2.2.2.2.2.2.2.2.1 TT.2.2.2.2.2.2.1 TT.2.2.2.2.2.2.2.2.2.2.2.2.2.2.2.2.2.2.2.1) (z_w hw 262 rfl) (z_w hw 263 rfl) (z_w hw 264 rfl) (z_w hw 265 rfl) (by decide) at_283 rfl (argsL := [(.ref p1), (.int y11), (.int (0 : Int32))]) (rest := []) rfl (lenOf z_pd19 rfl) (W := 0) (Nat.le_of_eq rfl) (by decide) (by decide) (by decide) (by decide) (by decide) (by decide) 286 rfl ?_
  refine z_ifN C at_286 (by decide) 289 rfl ?_
  refine z_aload C at_289 rfl rfl 291 rfl ?_
  refine z_iload C at_291 rfl 293 rfl ?_
  refine z_iload C at_293 rfl 295 rfl ?_
  refine z_callSp C (z_c33_76 l hw S (by omega) old4 y12 ((List.set ((List.set ((List.set ((List.set (((List.set ((List.set (((List.set ((List.set (((List.set ((List.set ((z_z8)) (y10).toNatClampNeg (.int (1 : Int32)))) ((y10 ^^^ (1 : Int32))).toNatClampNeg (.int (-1 : Int32))))) (y11).toNatClampNeg (.int (1 : Int32)))) ((y11 ^^^ (1 : Int32))).toNatClampNeg (.int (-1 : Int32))))) (y12).toNatClampNeg (.int (1 : Int32)))) ((y12 ^^^ (1 : Int32))).toNatClampNeg (.int (-1 : Int32))))) (y12).toNatClampNeg (.int (0 : Int32)))) ((y12 ^^^ (1 : Int32))).toNatClampNeg (.int (0 : Int32)))) (y11).toNatClampNeg (.int (0 : Int32)))) ((y11 ^^^ (1 : Int32))).toNatClampNeg (.int (0 : Int32)))) p1 p2 p3 p4 p5 p6 p7 p8 p9 p10 p11 o_p1_4 o_p3_4 TT.2.2.2.2.2.2.2.2.1 TT.2.2.2.2.2.2.2.2.2.2.2.2.2.2.2.2.2.2.2.2.1 TT.2.2.2.2.2.2.2.2.2.2.1 TT.2.2.2.2.2.2.2.2.2.2.2.2.2.2.2.2.2.2.2.2.2.1) (z_w hw 262 rfl) (z_w hw 263 rfl) (z_w hw 264 rfl) (z_w hw 265 rfl) (by decide) at_295 rfl (argsL := [(.ref p1), (.int y12), (.int (0 : Int32))]) (rest := []) rfl (lenOf z_pd19 rfl) (W := 0) (Nat.le_of_eq rfl) (by decide) (by decide) (by decide) (by decide) (by decide) (by decide) 298 rfl ?_
  refine z_ifN C at_298 (by decide) 301 rfl ?_
  refine z_iconst C (v := (1 : Int32)) at_301 (by decide) 302 rfl ?_
  refine z_goto C at_302 (by decide) 306 (by decide) ?_
  refine z_istore C (Ls' := #[.val (.int y0), .val (.int y1), .val (.int y2), .val (.int y3), .val (.ref p0), .val (.ref p1), .val (.int y4), .val (.int y5), .val (.int y6), .val (.int y7), .val (.int y8), .val (.int y9), .val (.int y10), .val (.int y11), .val (.int y12), .val (.int (3 : Int32)), .val (.int (1 : Int32)), .val (.int (1 : Int32)), .val (.int (1 : Int32)), .val (.int (0 : Int32)), .val (.int (0 : Int32)), .val (.int (1 : Int32))]) at_306 rfl 308 rfl ?_
  refine z_iload C at_308 rfl 310 rfl ?_
  refine z_ifN C at_310 (by decide) 313 rfl ?_
  refine z_aload C at_313 rfl rfl 315 rfl ?_
  refine z_getO C (z_w hw 266 rfl) Via.refl o_p1_4 2 rfl rfl at_315 318 rfl ?_
  refine z_iconst C (v := (0 : Int32)) at_318 (by decide) 319 rfl ?_
  refine z_baload C o_p3_4 (by decide) TT.2.2.2.2.2.2.2.2.2.2.2.2.2.2.2.2.2.2.2.2.2.2.1 at_319 320 rfl ?_
  refine z_ifN C at_320 (by decide) 323 rfl ?_
  refine z_aload C at_323 rfl rfl 325 rfl ?_
  refine z_getO C (z_w hw 266 rfl) Via.refl o_p1_4 2 rfl rfl at_325 328 rfl ?_
  refine z_iconst C (v := (1 : Int32)) at_328 (by decide) 329 rfl ?_
  refine z_baload C o_p3_4 (by decide) TT.2.2.2.2.2.2.2.2.2.2.2.2.2.2.2.2.2.2.2.2.2.2.2 at_329 330 rfl ?_
  refine z_ifN C at_330 (by decide) 333 rfl ?_
  refine z_iconst C (v := (1 : Int32)) at_333 (by decide) 334 rfl ?_
  refine z_goto C at_334 (by decide) 338 (by decide) ?_
  refine z_istore C (Ls' := #[.val (.int y0), .val (.int y1), .val (.int y2), .val (.int y3), .val (.ref p0), .val (.ref p1), .val (.int y4), .val (.int y5), .val (.int y6), .val (.int y7), .val (.int y8), .val (.int y9), .val (.int y10), .val (.int y11), .val (.int y12), .val (.int (3 : Int32)), .val (.int (1 : Int32)), .val (.int (1 : Int32)), .val (.int (1 : Int32)), .val (.int (0 : Int32)), .val (.int (0 : Int32)), .val (.int (1 : Int32))]) at_338 rfl 340 rfl ?_
  refine z_iload C at_340 rfl 342 rfl ?_
  refine z_ifN C at_342 (by decide) 345 rfl ?_
  refine z_iload C at_345 rfl 347 rfl ?_
  refine z_ifN C at_347 (by decide) 350 rfl ?_
  refine z_aload C at_350 rfl rfl 352 rfl ?_
  refine z_getO C (z_w hw 272 rfl) Via.refl o_p1_4 3 rfl rfl at_352 355 rfl ?_
  refine z_iconst C (v := (0 : Int32)) at_355 (by decide) 356 rfl ?_
  have o_p4_4 := (o_p4_3.keep K4 (ninS (Ne.symm ne_p1_p4) (ninS (Ne.symm ne_p3_p4) nin0)))
  refine z_iaload C o_p4_4 (by decide) (v := (.int y10)) (by rfl) at_356 357 rfl ?_
  refine z_iload C at_357 rfl 359 rfl ?_
  refine z_icmpN C at_359 (teq rfl).2 362 rfl ?_
  refine z_iconst C (v := (1 : Int32)) at_362 (by decide) 363 rfl ?_
  refine z_goto C at_363 (by decide) 367 (by decide) ?_
  refine z_istore C (Ls' := #[.val (.int y0), .val (.int y1), .val (.int y2), .val (.int y3), .val (.ref p0), .val (.ref p1), .val (.int y4), .val (.int y5), .val (.int y6), .val (.int y7), .val (.int y8), .val (.int y9), .val (.int y10), .val (.int y11), .val (.int y12), .val (.int (3 : Int32)), .val (.int (1 : Int32)), .val (.int (1 : Int32)), .val (.int (1 : Int32)), .val (.int (0 : Int32)), .val (.int (0 : Int32)), .val (.int (1 : Int32))]) at_367 rfl 369 rfl ?_
  refine z_iload C at_369 rfl 371 rfl ?_
  refine z_ifY C at_371 (by decide) (by decide) 398 (by decide) ?_
  refine z_iload C at_398 rfl 400 rfl ?_
  refine z_ifY C at_400 (by decide) (by decide) 427 (by decide) ?_
  refine z_iload C at_427 rfl 429 rfl ?_
  exact z_ireturn C (by simp) rfl at_429 (by decide) (by decide) rfl
set_option maxHeartbeats 2000000 in
theorem z_c30_91 (l : Launch) {Z : State} {a0 : Array Value} (hw : ∀ d ∈ tables_1, d.before a0 Z = true) {n0 : Nat} {h : Heap} {a_DEF a_ONE a_NONE : Nat} (S : z_St Z a_DEF a_ONE a_NONE) (z0 : n0 ≤ h.size) (old : Old Z n0 h) (y0 : Int32) (y1 : Int32) (y2 : Int32) (va0 : List Value) (p0 : Nat) (p1 : Nat) (p2 : Nat) (p3 : Nat) (p4 : Nat) (p5 : Nat) (p6 : Nat) (p7 : Nat) (p8 : Nat) (p9 : Nat) (p10 : Nat) (o_p0 : z_Ob Z h p0 "com/example/variegate/variegate/service/Propagation" z_lay3 [(.int (3 : Int32)), (.ref p1), (.ref p2), (.ref p3), (.ref p4), (.ref p5), (.ref p6), (.ref p7), (.ref p8), (.ref p9), (.ref p10), (.int (3 : Int32)), (.int (0 : Int32)), (.int (0 : Int32))]) (o_p3 : z_Ar Z h p3 .int "[I" "" [(.int y0), (.int y1), (.int y2), (.int (0 : Int32))]) (o_p2 : z_Ar Z h p2 .byte "[B" "" va0) (ne_p0_p3 : p0 ≠ p3) (ne_p0_p2 : p0 ≠ p2) (g_p0 : n0 ≤ p0) (g_p2 : n0 ≤ p2) (rq0 : ¬ y2 < 0) (rq1 : (y2).toNatClampNeg < (va0).length) (rq2 : ¬ (y2 ^^^ (1 : Int32)) < 0) (rq3 : ((y2 ^^^ (1 : Int32))).toNatClampNeg < ((List.set (va0) (y2).toNatClampNeg (.int (0 : Int32)))).length) :
    z_Met l Z (⟨"com/example/variegate/variegate/service/Propagation", "backtrack", "(I)V"⟩ : MethodName) prog_97_method_11_code 3 none [] ({ frames := 0, cells := 0, slots := 0, locals := 0 } : Room) n0 #[(.ref p0), (.int (2 : Int32))] h (z_nov fun h' => Keep h h' [p0, p2] ∧ z_Ob Z h' p0 "com/example/variegate/variegate/service/Propagation" z_lay3 [(.int (3 : Int32)), (.ref p1), (.ref p2), (.ref p3), (.ref p4), (.ref p5), (.ref p6), (.ref p7), (.ref p8), (.ref p9), (.ref p10), (.int (2 : Int32)), (.int (2 : Int32)), (.int (0 : Int32))] ∧ z_Ar Z h' p2 .byte "[B" "" (List.set ((List.set (va0) (y2).toNatClampNeg (.int (0 : Int32)))) ((y2 ^^^ (1 : Int32))).toNatClampNeg (.int (0 : Int32)))) := by
  refine z_met (Ls := #[.val (.ref p0), .val (.int (2 : Int32)), .unset]) (by first | exact plainFor_of_name (by first | (simp [plainName, overriddenIn]; done) | decide +kernel) | decide +kernel) rfl ?_
  intro p e s m below meth c C
  refine z_aloadN C z_d30_0 rfl rfl 1 rfl ?_
  refine z_getO C (z_w hw 250 rfl) Via.refl o_p0 11 rfl rfl z_d30_1 4 rfl ?_
  refine z_iloadN C z_d30_4 rfl 5 rfl ?_
  refine z_icmpN C z_d30_5 (by decide) 8 rfl ?_
  refine z_aloadN C z_d30_8 rfl rfl 9 rfl ?_
  refine z_getO C (z_w hw 165 rfl) Via.refl o_p0 3 rfl rfl z_d30_9 12 rfl ?_
  refine z_aloadN C z_d30_12 rfl rfl 13 rfl ?_
  refine z_dup C z_d30_13 rfl 14 rfl ?_
  refine z_getO C (z_w hw 250 rfl) Via.refl o_p0 11 rfl rfl z_d30_14 17 rfl ?_
  refine z_iconst C (v := (1 : Int32)) z_d30_17 (by decide) 18 rfl ?_
  refine z_isub C (z := (2 : Int32)) z_d30_18 (by decide) 19 rfl ?_
  refine z_dup_x1 C z_d30_19 rfl rfl 20 rfl ?_
  refine z_putO C (z_w hw 250 rfl) Via.refl o_p0 (z_lay3_ok hw) 11 rfl (vs' := [(.int (3 : Int32)), (.ref p1), (.ref p2), (.ref p3), (.ref p4), (.ref p5), (.ref p6), (.ref p7), (.ref p8), (.ref p9), (.ref p10), (.int (2 : Int32)), (.int (0 : Int32)), (.int (0 : Int32))]) rfl (Or.inl (z_w hw 251 rfl)) (z_w hw 116 rfl) (ty := .int) (by decide) (by first | rfl | decide) (by first | rfl | decide) g_p0 z_d30_20 23 rfl ?_
  intro h1 W1 o_p0_1
  have s1 : h1.size = h.size := W1.size
  have k1 : Keep h h1 [p0, p2] := (Keep.refl h [p0, p2]).wr W1 (Or.inl (by simp))
  have o_p3_1 := (o_p3.other W1 (Ne.symm ne_p0_p3))
  refine z_iaload C o_p3_1 (by decide) (v := (.int y2)) (by rfl) z_d30_23 24 rfl ?_
  refine z_istoreN C (Ls' := #[.val (.ref p0), .val (.int (2 : Int32)), .val (.int y2)]) z_d30_24 rfl 25 rfl ?_
  refine z_aloadN C z_d30_25 rfl rfl 26 rfl ?_
  refine z_getO C (z_w hw 162 rfl) Via.refl o_p0_1 2 rfl rfl z_d30_26 29 rfl ?_
  refine z_iloadN C z_d30_29 rfl 30 rfl ?_
  refine z_iconst C (v := (0 : Int32)) z_d30_30 (by decide) 31 rfl ?_
  have o_p2_1 := (o_p2.other W1 (Ne.symm ne_p0_p2))
  refine z_bastore C (z := (0 : Int32)) o_p2_1 rq0 rq1 (by decide) (vs' := (List.set (va0) (y2).toNatClampNeg (.int (0 : Int32)))) rfl g_p2 z_d30_31 32 rfl ?_
  intro h2 W2 o_p2_2
  have s2 : h2.size = h1.size := W2.size
  have k2 : Keep h h2 [p0, p2] := k1.wr W2 (Or.inl (by simp))
  refine z_aloadN C z_d30_32 rfl rfl 33 rfl ?_
  have o_p0_2 := (o_p0_1.other W2 ne_p0_p2)
  refine z_getO C (z_w hw 162 rfl) Via.refl o_p0_2 2 rfl rfl z_d30_33 36 rfl ?_
  refine z_iloadN C z_d30_36 rfl 37 rfl ?_
  refine z_iconst C (v := (1 : Int32)) z_d30_37 (by decide) 38 rfl ?_
  refine z_ixor C z_d30_38 rfl 39 rfl ?_
  refine z_iconst C (v := (0 : Int32)) z_d30_39 (by decide) 40 rfl ?_
  refine z_bastore C (z := (0 : Int32)) o_p2_2 rq2 rq3 (by decide) (vs' := (List.set ((List.set (va0) (y2).toNatClampNeg (.int (0 : Int32)))) ((y2 ^^^ (1 : Int32))).toNatClampNeg (.int (0 : Int32)))) rfl g_p2 z_d30_40 41 rfl ?_
  intro h3 W3 o_p2_3
  have s3 : h3.size = h2.size := W3.size
  have k3 : Keep h h3 [p0, p2] := k2.wr W3 (Or.inl (by simp))
  refine z_goto C z_d30_41 (by decide) 0 (by decide) ?_
  refine z_aloadN C z_d30_0 rfl rfl 1 rfl ?_
  have o_p0_3 := (o_p0_2.other W3 ne_p0_p2)
  refine z_getO C (z_w hw 250 rfl) Via.refl o_p0_3 11 rfl rfl z_d30_1 4 rfl ?_
  refine z_iloadN C z_d30_4 rfl 5 rfl ?_
  refine z_icmpY C z_d30_5 (by decide) (by decide) 44 (by decide) ?_
  refine z_aloadN C z_d30_44 rfl rfl 45 rfl ?_
  refine z_iloadN C z_d30_45 rfl 46 rfl ?_
  refine z_putO C (z_w hw 252 rfl) Via.refl o_p0_3 (z_lay3_ok hw) 12 rfl (vs' := [(.int (3 : Int32)), (.ref p1), (.ref p2), (.ref p3), (.ref p4), (.ref p5), (.ref p6), (.ref p7), (.ref p8), (.ref p9), (.ref p10), (.int (2 : Int32)), (.int (2 : Int32)), (.int (0 : Int32))]) rfl (Or.inl (z_w hw 253 rfl)) (z_w hw 116 rfl) (ty := .int) (by decide) (by first | rfl | decide) (by first | rfl | decide) g_p0 z_d30_46 49 rfl ?_
  intro h4 W4 o_p0_4
  have s4 : h4.size = h3.size := W4.size
  have k4 : Keep h h4 [p0, p2] := k3.wr W4 (Or.inl (by simp))
  have o_p2_4 := (o_p2_3.other W4 (Ne.symm ne_p0_p2))
  exact z_return C z_d30_49 (by decide) (by decide) ⟨rfl, k4, o_p0_4, o_p2_4⟩
set_option maxHeartbeats 2000000 in
theorem z_c31_92 (l : Launch) {Z : State} {a0 : Array Value} (hw : ∀ d ∈ tables_1, d.before a0 Z = true) {n0 : Nat} {h : Heap} {a_DEF a_ONE a_NONE : Nat} (S : z_St Z a_DEF a_ONE a_NONE) (z0 : n0 ≤ h.size) (old : Old Z n0 h) :
    z_Met l Z (⟨"java/lang/Math", "min", "(II)I"⟩ : MethodName) jdk_29_method_69_code 2 (some .int) [] ({ frames := 0, cells := 0, slots := 0, locals := 0 } : Room) n0 #[(.int (3 : Int32)), (.int (2 : Int32))] h (z_pure (.int (2 : Int32)) h) := by
  refine z_met (Ls := #[.val (.int (3 : Int32)), .val (.int (2 : Int32))]) (by first | exact plainFor_of_name (by first | (simp [plainName, overriddenIn]; done) | decide +kernel) | decide +kernel) rfl ?_
  intro p e s m below meth c C
  refine z_iloadN C z_d31_0 rfl 1 rfl ?_
  refine z_iloadN C z_d31_1 rfl 2 rfl ?_
  refine z_icmpY C z_d31_2 (by decide) (by decide) 9 (by decide) ?_
  refine z_iloadN C z_d31_9 rfl 10 rfl ?_
  exact z_ireturn C (Or.inl rfl) rfl z_d31_10 (by decide) (by decide) ⟨rfl, rfl⟩
set_option maxHeartbeats 2000000 in
theorem z_c32_93 (l : Launch) {Z : State} {a0 : Array Value} (hw : ∀ d ∈ tables_1, d.before a0 Z = true) {n0 : Nat} {h : Heap} {a_DEF a_ONE a_NONE : Nat} (S : z_St Z a_DEF a_ONE a_NONE) (z0 : n0 ≤ h.size) (old : Old Z n0 h) (p0 : Nat) (p1 : Nat) (p2 : Nat) (p3 : Nat) (p4 : Nat) (p5 : Nat) (p6 : Nat) (p7 : Nat) (p8 : Nat) (p9 : Nat) (p10 : Nat) (o_p0 : z_Ob Z h p0 "com/example/variegate/variegate/service/Propagation" z_lay3 [(.int (3 : Int32)), (.ref p1), (.ref p2), (.ref p3), (.ref p4), (.ref p5), (.ref p6), (.ref p7), (.ref p8), (.ref p9), (.ref p10), (.int (2 : Int32)), (.int (2 : Int32)), (.int (0 : Int32))]) :
    z_Met l Z (⟨"com/example/variegate/variegate/service/Propagation", "trailSize", "()I"⟩ : MethodName) prog_97_method_6_code 1 (some .int) [] ({ frames := 0, cells := 0, slots := 0, locals := 0 } : Room) n0 #[(.ref p0)] h (z_pure (.int (2 : Int32)) h) := by
  refine z_met (Ls := #[.val (.ref p0)]) (by first | exact plainFor_of_name (by first | (simp [plainName, overriddenIn]; done) | decide +kernel) | decide +kernel) rfl ?_
  intro p e s m below meth c C
  refine z_aloadN C z_d32_0 rfl rfl 1 rfl ?_
  refine z_getO C (z_w hw 250 rfl) Via.refl o_p0 11 rfl rfl z_d32_1 4 rfl ?_
  exact z_ireturn C (Or.inl rfl) rfl z_d32_4 (by decide) (by decide) ⟨rfl, rfl⟩
set_option maxHeartbeats 2000000 in
theorem z_c33_94 (l : Launch) {Z : State} {a0 : Array Value} (hw : ∀ d ∈ tables_1, d.before a0 Z = true) {n0 : Nat} {h : Heap} {a_DEF a_ONE a_NONE : Nat} (S : z_St Z a_DEF a_ONE a_NONE) (z0 : n0 ≤ h.size) (old : Old Z n0 h) (y0 : Int32) (va0 : List Value) (p0 : Nat) (p1 : Nat) (p2 : Nat) (p3 : Nat) (p4 : Nat) (p5 : Nat) (p6 : Nat) (p7 : Nat) (p8 : Nat) (p9 : Nat) (p10 : Nat) (o_p0 : z_Ob Z h p0 "com/example/variegate/variegate/service/Propagation" z_lay3 [(.int (3 : Int32)), (.ref p1), (.ref p2), (.ref p3), (.ref p4), (.ref p5), (.ref p6), (.ref p7), (.ref p8), (.ref p9), (.ref p10), (.int (2 : Int32)), (.int (2 : Int32)), (.int (0 : Int32))]) (o_p2 : z_Ar Z h p2 .byte "[B" "" va0) (rq0 : ¬ y0 < 0) (rq1 : (va0)[(y0).toNatClampNeg]? = some (.int (1 : Int32))) (rq2 : ¬ (y0 ^^^ (1 : Int32)) < 0) (rq3 : (va0)[((y0 ^^^ (1 : Int32))).toNatClampNeg]? = some (.int (-1 : Int32))) :
    z_Met l Z (⟨"com/example/variegate/variegate/service/PropagationBacktrackPinLaw", "check", "(Lcom/example/variegate/variegate/service/Propagation;IZ)Z"⟩ : MethodName) method_2_code 5 (some .boolean) [] ({ frames := 0, cells := 0, slots := 0, locals := 0 } : Room) n0 #[(.ref p0), (.int y0), (.int (1 : Int32))] h (z_pure (.int (1 : Int32)) h) := by
  refine z_met (Ls := #[.val (.ref p0), .val (.int y0), .val (.int (1 : Int32)), .unset, .unset]) (by first | exact plainFor_of_name (by first | (simp [plainName, overriddenIn]; done) | decide +kernel) | decide +kernel) rfl ?_
  intro p e s m below meth c C
  refine z_iloadN C z_d33_0 rfl 1 rfl ?_
  refine z_ifN C z_d33_1 (by decide) 4 rfl ?_
  refine z_iconst C (v := (1 : Int32)) z_d33_4 (by decide) 5 rfl ?_
  refine z_goto C z_d33_5 (by decide) 9 (by decide) ?_
  refine z_istoreN C (Ls' := #[.val (.ref p0), .val (.int y0), .val (.int (1 : Int32)), .val (.int (1 : Int32)), .unset]) z_d33_9 rfl 10 rfl ?_
  refine z_iloadN C z_d33_10 rfl 11 rfl ?_
  refine z_ifN C z_d33_11 (by decide) 14 rfl ?_
  refine z_iconst C (v := (-1 : Int32)) z_d33_14 (by decide) 15 rfl ?_
  refine z_goto C z_d33_15 (by decide) 19 (by decide) ?_
  refine z_istore C (Ls' := #[.val (.ref p0), .val (.int y0), .val (.int (1 : Int32)), .val (.int (1 : Int32)), .val (.int (-1 : Int32))]) z_d33_19 rfl 21 rfl ?_
  refine z_aloadN C z_d33_21 rfl rfl 22 rfl ?_
  refine z_getO C (z_w hw 266 rfl) Via.refl o_p0 2 rfl rfl z_d33_22 25 rfl ?_
  refine z_iloadN C z_d33_25 rfl 26 rfl ?_
  refine z_baload C o_p2 rq0 rq1 z_d33_26 27 rfl ?_
  refine z_iloadN C z_d33_27 rfl 28 rfl ?_
  refine z_icmpN C z_d33_28 (by decide) 31 rfl ?_
  refine z_aloadN C z_d33_31 rfl rfl 32 rfl ?_
  refine z_getO C (z_w hw 266 rfl) Via.refl o_p0 2 rfl rfl z_d33_32 35 rfl ?_
  refine z_iloadN C z_d33_35 rfl 36 rfl ?_
  refine z_iconst C (v := (1 : Int32)) z_d33_36 (by decide) 37 rfl ?_
  refine z_ixor C z_d33_37 rfl 38 rfl ?_
  refine z_baload C o_p2 rq2 rq3 z_d33_38 39 rfl ?_
  refine z_iload C z_d33_39 rfl 41 rfl ?_
  refine z_icmpN C z_d33_41 (by decide) 44 rfl ?_
  refine z_iconst C (v := (1 : Int32)) z_d33_44 (by decide) 45 rfl ?_
  refine z_goto C z_d33_45 (by decide) 49 (by decide) ?_
  exact z_ireturn C (by simp) rfl z_d33_49 (by decide) (by decide) ⟨rfl, rfl⟩
set_option maxHeartbeats 2000000 in
theorem z_c33_95 (l : Launch) {Z : State} {a0 : Array Value} (hw : ∀ d ∈ tables_1, d.before a0 Z = true) {n0 : Nat} {h : Heap} {a_DEF a_ONE a_NONE : Nat} (S : z_St Z a_DEF a_ONE a_NONE) (z0 : n0 ≤ h.size) (old : Old Z n0 h) (y0 : Int32) (va0 : List Value) (p0 : Nat) (p1 : Nat) (p2 : Nat) (p3 : Nat) (p4 : Nat) (p5 : Nat) (p6 : Nat) (p7 : Nat) (p8 : Nat) (p9 : Nat) (p10 : Nat) (o_p0 : z_Ob Z h p0 "com/example/variegate/variegate/service/Propagation" z_lay3 [(.int (3 : Int32)), (.ref p1), (.ref p2), (.ref p3), (.ref p4), (.ref p5), (.ref p6), (.ref p7), (.ref p8), (.ref p9), (.ref p10), (.int (2 : Int32)), (.int (2 : Int32)), (.int (0 : Int32))]) (o_p2 : z_Ar Z h p2 .byte "[B" "" va0) (rq0 : ¬ y0 < 0) (rq1 : (va0)[(y0).toNatClampNeg]? = some (.int (0 : Int32))) (rq2 : ¬ (y0 ^^^ (1 : Int32)) < 0) (rq3 : (va0)[((y0 ^^^ (1 : Int32))).toNatClampNeg]? = some (.int (0 : Int32))) :
    z_Met l Z (⟨"com/example/variegate/variegate/service/PropagationBacktrackPinLaw", "check", "(Lcom/example/variegate/variegate/service/Propagation;IZ)Z"⟩ : MethodName) method_2_code 5 (some .boolean) [] ({ frames := 0, cells := 0, slots := 0, locals := 0 } : Room) n0 #[(.ref p0), (.int y0), (.int (0 : Int32))] h (z_pure (.int (1 : Int32)) h) := by
  refine z_met (Ls := #[.val (.ref p0), .val (.int y0), .val (.int (0 : Int32)), .unset, .unset]) (by first | exact plainFor_of_name (by first | (simp [plainName, overriddenIn]; done) | decide +kernel) | decide +kernel) rfl ?_
  intro p e s m below meth c C
  refine z_iloadN C z_d33_0 rfl 1 rfl ?_
  refine z_ifY C z_d33_1 (by decide) (by decide) 8 (by decide) ?_
  refine z_iconst C (v := (0 : Int32)) z_d33_8 (by decide) 9 rfl ?_
  refine z_istoreN C (Ls' := #[.val (.ref p0), .val (.int y0), .val (.int (0 : Int32)), .val (.int (0 : Int32)), .unset]) z_d33_9 rfl 10 rfl ?_
  refine z_iloadN C z_d33_10 rfl 11 rfl ?_
  refine z_ifY C z_d33_11 (by decide) (by decide) 18 (by decide) ?_
  refine z_iconst C (v := (0 : Int32)) z_d33_18 (by decide) 19 rfl ?_
  refine z_istore C (Ls' := #[.val (.ref p0), .val (.int y0), .val (.int (0 : Int32)), .val (.int (0 : Int32)), .val (.int (0 : Int32))]) z_d33_19 rfl 21 rfl ?_
  refine z_aloadN C z_d33_21 rfl rfl 22 rfl ?_
  refine z_getO C (z_w hw 266 rfl) Via.refl o_p0 2 rfl rfl z_d33_22 25 rfl ?_
  refine z_iloadN C z_d33_25 rfl 26 rfl ?_
  refine z_baload C o_p2 rq0 rq1 z_d33_26 27 rfl ?_
  refine z_iloadN C z_d33_27 rfl 28 rfl ?_
  refine z_icmpN C z_d33_28 (by decide) 31 rfl ?_
  refine z_aloadN C z_d33_31 rfl rfl 32 rfl ?_
  refine z_getO C (z_w hw 266 rfl) Via.refl o_p0 2 rfl rfl z_d33_32 35 rfl ?_
  refine z_iloadN C z_d33_35 rfl 36 rfl ?_
  refine z_iconst C (v := (1 : Int32)) z_d33_36 (by decide) 37 rfl ?_
  refine z_ixor C z_d33_37 rfl 38 rfl ?_
  refine z_baload C o_p2 rq2 rq3 z_d33_38 39 rfl ?_
  refine z_iload C z_d33_39 rfl 41 rfl ?_
  refine z_icmpN C z_d33_41 (by decide) 44 rfl ?_
  refine z_iconst C (v := (1 : Int32)) z_d33_44 (by decide) 45 rfl ?_
  refine z_goto C z_d33_45 (by decide) 49 (by decide) ?_
  exact z_ireturn C (by simp) rfl z_d33_49 (by decide) (by decide) ⟨rfl, rfl⟩
set_option maxHeartbeats 8000000 in
theorem z_seg96 (l : Launch) {Z : State} {a0 : Array Value} (hw : ∀ d ∈ tables_1, d.before a0 Z = true) {n0 : Nat} {h : Heap} {a_DEF a_ONE a_NONE : Nat} (S : z_St Z a_DEF a_ONE a_NONE) (z0 : n0 ≤ h.size) (old : Old Z n0 h) (y0 : Int32) (y1 : Int32) (y2 : Int32) (y3 : Int32) (y4 : Int32) (y5 : Int32) (y6 : Int32) (y7 : Int32) (y8 : Int32) (y9 : Int32) (y10 : Int32) (y11 : Int32) (y12 : Int32) (p0 : Nat) (p1 : Nat) (p2 : Nat) (p3 : Nat) (p4 : Nat) (p5 : Nat) (p6 : Nat) (p7 : Nat) (p8 : Nat) (p9 : Nat) (p10 : Nat) (p11 : Nat) (o_p1 : z_Ob Z h p1 "com/example/variegate/variegate/service/Propagation" z_lay3 [(.int (3 : Int32)), (.ref p2), (.ref p3), (.ref p4), (.ref p5), (.ref p6), (.ref p7), (.ref p8), (.ref p9), (.ref p10), (.ref p11), (.int (0 : Int32)), (.int (0 : Int32)), (.int (0 : Int32))]) (o_p3 : z_Ar Z h p3 .byte "[B" "" z_z8) (o_p4 : z_Ar Z h p4 .int "[I" "" [(.int (0 : Int32)), (.int (0 : Int32)), (.int (0 : Int32)), (.int (0 : Int32))]) (ne_p1_p3 : p1 ≠ p3) (ne_p3_p4 : p3 ≠ p4) (ne_p1_p4 : p1 ≠ p4) (g_p3 : n0 ≤ p3) (g_p1 : n0 ≤ p1) (g_p4 : n0 ≤ p4) (TT : z_R3_2 y10 y11 y12) (hn : (y0 &&& (3 : Int32)) = (3 : Int32)) (hm : (y2 &&& (7 : Int32)) = (2 : Int32)) {p : Program} {e : Env} {s : State} {m : MethodId} {args : Array Value} {below : List Frame} {meth : Method} {c : Code} (C : z_Cx Z p s m meth c x.cls code maxLocals ret x.name) :
    z_At p l e room_1 s m args below meth c n0 (fun v _ => v = some (.int 1)) h 27 131 (mkF m 139 #[.val (.int y0), .val (.int y1), .val (.int y2), .val (.int y3), .val (.ref p0), .val (.ref p1), .val (.int y4), .val (.int y5), .val (.int y6), .val (.int y7), .val (.int y8), .val (.int y9), .val (.int y10), .val (.int y11), .val (.int y12), .unset, .unset, .unset, .unset, .unset, .unset, .unset] []) := by
  refine z_iloadN C at_139 rfl 140 rfl ?_
  refine z_iconst C (v := (3 : Int32)) at_140 (by decide) 141 rfl ?_
  refine z_iand C (z := (3 : Int32)) at_141 hn 142 rfl ?_
  refine z_istore C (Ls' := #[.val (.int y0), .val (.int y1), .val (.int y2), .val (.int y3), .val (.ref p0), .val (.ref p1), .val (.int y4), .val (.int y5), .val (.int y6), .val (.int y7), .val (.int y8), .val (.int y9), .val (.int y10), .val (.int y11), .val (.int y12), .val (.int (3 : Int32)), .unset, .unset, .unset, .unset, .unset, .unset]) at_142 rfl 144 rfl ?_
  refine z_iload C at_144 rfl 146 rfl ?_
  refine z_ifN C at_146 (by decide) 149 rfl ?_
  refine z_aload C at_149 rfl rfl 151 rfl ?_
  refine z_iload C at_151 rfl 153 rfl ?_
  refine z_callVV C o_p1.1 (z_c34_56 l hw S (by omega) old y10 (z_z8) p1 p2 p3 p4 p5 p6 p7 p8 p9 p10 p11 o_p1 o_p3 o_p4 ne_p1_p3 ne_p3_p4 ne_p1_p4 g_p3 g_p1 g_p4 TT.1 TT.2.1 TT.2.2.1 TT.2.2.2.1) (z_w hw 267 rfl) (z_w hw 268 rfl) (z_w hw 270 rfl) (z_w hw 269 rfl) (z_w hw 117 rfl) (z_w hw 271 rfl) (by decide) at_153 rfl (argsL := [(.int y10)]) (rest := []) rfl (lenOf z_pd2 rfl) (W := 0) (Nat.le_of_eq rfl) (by decide) (by decide) (by decide) (by decide) 156 rfl ?_
  rintro h1 ⟨K1, o_p1_1, o_p3_1, o_p4_1⟩
  have s1 : h.size ≤ h1.size := K1.1
  refine z_iload C at_156 rfl 158 rfl ?_
  refine z_iconst C (v := (1 : Int32)) at_158 (by decide) 159 rfl ?_
  refine z_icmpN C at_159 (by decide) 162 rfl ?_
  refine z_aload C at_162 rfl rfl 164 rfl ?_
  refine z_iload C at_164 rfl 166 rfl ?_
  have old1 := (old.keep K1 (allS g_p3 (allS g_p1 (allS g_p4 all0))))
  refine z_callVV C o_p1_1.1 (z_c34_68 l hw S (by omega) old1 y11 y10 ((List.set ((List.set ((z_z8)) (y10).toNatClampNeg (.int (1 : Int32)))) ((y10 ^^^ (1 : Int32))).toNatClampNeg (.int (-1 : Int32)))) p1 p2 p3 p4 p5 p6 p7 p8 p9 p10 p11 o_p1_1 o_p3_1 o_p4_1 ne_p1_p3 ne_p3_p4 ne_p1_p4 g_p3 g_p1 g_p4 TT.2.2.2.2.1 TT.2.2.2.2.2.1 TT.2.2.2.2.2.2.1 TT.2.2.2.2.2.2.2.1) (z_w hw 267 rfl) (z_w hw 268 rfl) (z_w hw 270 rfl) (z_w hw 269 rfl) (z_w hw 117 rfl) (z_w hw 271 rfl) (by decide) at_166 rfl (argsL := [(.int y11)]) (rest := []) rfl (lenOf z_pd2 rfl) (W := 0) (Nat.le_of_eq rfl) (by decide) (by decide) (by decide) (by decide) 169 rfl ?_
  rintro h2 ⟨K2, o_p1_2, o_p3_2, o_p4_2⟩
  have s2 : h1.size ≤ h2.size := K2.1
  refine z_iload C at_169 rfl 171 rfl ?_
  refine z_iconst C (v := (2 : Int32)) at_171 (by decide) 172 rfl ?_
  refine z_icmpN C at_172 (by decide) 175 rfl ?_
  refine z_aload C at_175 rfl rfl 177 rfl ?_
  refine z_iload C at_177 rfl 179 rfl ?_
  have old2 := (old1.keep K2 (allS g_p3 (allS g_p1 (allS g_p4 all0))))
  refine z_callVV C o_p1_2.1 (z_c34_84 l hw S (by omega) old2 y12 y10 y11 ((List.set ((List.set (((List.set ((List.set ((z_z8)) (y10).toNatClampNeg (.int (1 : Int32)))) ((y10 ^^^ (1 : Int32))).toNatClampNeg (.int (-1 : Int32))))) (y11).toNatClampNeg (.int (1 : Int32)))) ((y11 ^^^ (1 : Int32))).toNatClampNeg (.int (-1 : Int32)))) p1 p2 p3 p4 p5 p6 p7 p8 p9 p10 p11 o_p1_2 o_p3_2 o_p4_2 ne_p1_p3 ne_p3_p4 ne_p1_p4 g_p3 g_p1 g_p4 TT.2.2.2.2.2.2.2.2.1 TT.2.2.2.2.2.2.2.2.2.1 TT.2.2.2.2.2.2.2.2.2.2.1 TT.2.2.2.2.2.2.2.2.2.2.2.1) (z_w hw 267 rfl) (z_w hw 268 rfl) (z_w hw 270 rfl) (z_w hw 269 rfl) (z_w hw 117 rfl) (z_w hw 271 rfl) (by decide) at_179 rfl (argsL := [(.int y12)]) (rest := []) rfl (lenOf z_pd2 rfl) (W := 0) (Nat.le_of_eq rfl) (by decide) (by decide) (by decide) (by decide) 182 rfl ?_
  rintro h3 ⟨K3, o_p1_3, o_p3_3, o_p4_3⟩
  have s3 : h2.size ≤ h3.size := K3.1
  refine z_iloadN C at_182 rfl 183 rfl ?_
  refine z_bipush C (v := (7 : Int32)) at_183 (by decide) 185 rfl ?_
  refine z_iand C (z := (2 : Int32)) at_185 hm 186 rfl ?_
  refine z_istore C (Ls' := #[.val (.int y0), .val (.int y1), .val (.int y2), .val (.int y3), .val (.ref p0), .val (.ref p1), .val (.int y4), .val (.int y5), .val (.int y6), .val (.int y7), .val (.int y8), .val (.int y9), .val (.int y10), .val (.int y11), .val (.int y12), .val (.int (3 : Int32)), .val (.int (2 : Int32)), .unset, .unset, .unset, .unset, .unset]) at_186 rfl 188 rfl ?_
  refine z_aload C at_188 rfl rfl 190 rfl ?_
  refine z_iload C at_190 rfl 192 rfl ?_
  have old3 := (old2.keep K3 (allS g_p3 (allS g_p1 (allS g_p4 all0))))
  refine z_callVV C o_p1_3.1 (z_c30_91 l hw S (by omega) old3 y10 y11 y12 ((List.set ((List.set (((List.set ((List.set (((List.set ((List.set ((z_z8)) (y10).toNatClampNeg (.int (1 : Int32)))) ((y10 ^^^ (1 : Int32))).toNatClampNeg (.int (-1 : Int32))))) (y11).toNatClampNeg (.int (1 : Int32)))) ((y11 ^^^ (1 : Int32))).toNatClampNeg (.int (-1 : Int32))))) (y12).toNatClampNeg (.int (1 : Int32)))) ((y12 ^^^ (1 : Int32))).toNatClampNeg (.int (-1 : Int32)))) p1 p2 p3 p4 p5 p6 p7 p8 p9 p10 p11 o_p1_3 o_p4_3 o_p3_3 ne_p1_p4 ne_p1_p3 g_p1 g_p3 TT.2.2.2.2.2.2.2.2.1 TT.2.2.2.2.2.2.2.2.2.2.2.2.1 TT.2.2.2.2.2.2.2.2.2.2.1 TT.2.2.2.2.2.2.2.2.2.2.2.2.2.1) (z_w hw 245 rfl) (z_w hw 246 rfl) (z_w hw 248 rfl) (z_w hw 247 rfl) (z_w hw 117 rfl) (z_w hw 249 rfl) (by decide) at_192 rfl (argsL := [(.int (2 : Int32))]) (rest := []) rfl (lenOf z_pd2 rfl) (W := 0) (Nat.le_of_eq rfl) (by decide) (by decide) (by decide) (by decide) 195 rfl ?_
  rintro h4 ⟨K4, o_p1_4, o_p3_4⟩
  have s4 : h3.size ≤ h4.size := K4.1
  refine z_iload C at_195 rfl 197 rfl ?_
  refine z_iload C at_197 rfl 199 rfl ?_
  have old4 := (old3.keep K4 (allS g_p1 (allS g_p3 all0)))
  refine z_callSp C (z_c31_92 l hw S (by omega) old4) (z_w hw 254 rfl) (z_w hw 255 rfl) (z_w hw 102 rfl) (z_w hw 256 rfl) (by decide) at_199 rfl (argsL := [(.int (3 : Int32)), (.int (2 : Int32))]) (rest := []) rfl (lenOf z_pd3 rfl) (W := 0) (Nat.le_of_eq rfl) (by decide) (by decide) (by decide) (by decide) (by decide) (by decide) 202 rfl ?_
  refine z_istore C (Ls' := #[.val (.int y0), .val (.int y1), .val (.int y2), .val (.int y3), .val (.ref p0), .val (.ref p1), .val (.int y4), .val (.int y5), .val (.int y6), .val (.int y7), .val (.int y8), .val (.int y9), .val (.int y10), .val (.int y11), .val (.int y12), .val (.int (3 : Int32)), .val (.int (2 : Int32)), .val (.int (2 : Int32)), .unset, .unset, .unset, .unset]) at_202 rfl 204 rfl ?_
  refine z_iconst C (v := (0 : Int32)) at_204 (by decide) 205 rfl ?_
  refine z_iload C at_205 rfl 207 rfl ?_
  refine z_icmpN C at_207 (by decide) 210 rfl ?_
  refine z_iconst C (v := (1 : Int32)) at_210 (by decide) 211 rfl ?_
  refine z_goto C at_211 (by decide) 215 (by decide) ?_
  refine z_istore C (Ls' := #[.val (.int y0), .val (.int y1), .val (.int y2), .val (.int y3), .val (.ref p0), .val (.ref p1), .val (.int y4), .val (.int y5), .val (.int y6), .val (.int y7), .val (.int y8), .val (.int y9), .val (.int y10), .val (.int y11), .val (.int y12), .val (.int (3 : Int32)), .val (.int (2 : Int32)), .val (.int (2 : Int32)), .val (.int (1 : Int32)), .unset, .unset, .unset]) at_215 rfl 217 rfl ?_
  refine z_iconst C (v := (1 : Int32)) at_217 (by decide) 218 rfl ?_
  refine z_iload C at_218 rfl 220 rfl ?_
  refine z_icmpN C at_220 (by decide) 223 rfl ?_
  refine z_iconst C (v := (1 : Int32)) at_223 (by decide) 224 rfl ?_
  refine z_goto C at_224 (by decide) 228 (by decide) ?_
  refine z_istore C (Ls' := #[.val (.int y0), .val (.int y1), .val (.int y2), .val (.int y3), .val (.ref p0), .val (.ref p1), .val (.int y4), .val (.int y5), .val (.int y6), .val (.int y7), .val (.int y8), .val (.int y9), .val (.int y10), .val (.int y11), .val (.int y12), .val (.int (3 : Int32)), .val (.int (2 : Int32)), .val (.int (2 : Int32)), .val (.int (1 : Int32)), .val (.int (1 : Int32)), .unset, .unset]) at_228 rfl 230 rfl ?_
  refine z_iconst C (v := (2 : Int32)) at_230 (by decide) 231 rfl ?_
  refine z_iload C at_231 rfl 233 rfl ?_
  refine z_icmpY C at_233 (by decide) (by decide) 240 (by decide) ?_
  refine z_iconst C (v := (0 : Int32)) at_240 (by decide) 241 rfl ?_
  refine z_istore C (Ls' := #[.val (.int y0), .val (.int y1), .val (.int y2), .val (.int y3), .val (.ref p0), .val (.ref p1), .val (.int y4), .val (.int y5), .val (.int y6), .val (.int y7), .val (.int y8), .val (.int y9), .val (.int y10), .val (.int y11), .val (.int y12), .val (.int (3 : Int32)), .val (.int (2 : Int32)), .val (.int (2 : Int32)), .val (.int (1 : Int32)), .val (.int (1 : Int32)), .val (.int (0 : Int32)), .unset]) at_241 rfl 243 rfl ?_
  refine z_aload C at_243 rfl rfl 245 rfl ?_
  refine z_callVp C o_p1_4.1 (z_c32_93 l hw S (by omega) old4 p1 p2 p3 p4 p5 p6 p7 p8 p9 p10 p11 o_p1_4) (z_w hw 257 rfl) (z_w hw 258 rfl) (z_w hw 260 rfl) (z_w hw 259 rfl) (z_w hw 117 rfl) (z_w hw 261 rfl) (by decide) at_245 rfl (argsL := []) (rest := []) rfl (lenOf z_pd8 rfl) (W := 0) (Nat.le_of_eq rfl) (by decide) (by decide) (by decide) (by decide) (by decide) (by decide) 248 rfl ?_
  refine z_iload C at_248 rfl 250 rfl ?_
  refine z_icmpN C at_250 (by decide) 253 rfl ?_
  refine z_iconst C (v := (1 : Int32)) at_253 (by decide) 254 rfl ?_
  refine z_goto C at_254 (by decide) 258 (by decide) ?_
  refine z_istore C (Ls' := #[.val (.int y0), .val (.int y1), .val (.int y2), .val (.int y3), .val (.ref p0), .val (.ref p1), .val (.int y4), .val (.int y5), .val (.int y6), .val (.int y7), .val (.int y8), .val (.int y9), .val (.int y10), .val (.int y11), .val (.int y12), .val (.int (3 : Int32)), .val (.int (2 : Int32)), .val (.int (2 : Int32)), .val (.int (1 : Int32)), .val (.int (1 : Int32)), .val (.int (0 : Int32)), .val (.int (1 : Int32))]) at_258 rfl 260 rfl ?_
  refine z_iload C at_260 rfl 262 rfl ?_
  refine z_ifN C at_262 (by decide) 265 rfl ?_
  refine z_aload C at_265 rfl rfl 267 rfl ?_
  refine z_iload C at_267 rfl 269 rfl ?_
  refine z_iload C at_269 rfl 271 rfl ?_
  refine z_callSp C (z_c33_94 l hw S (by omega) old4 y10 ((List.set ((List.set (((List.set ((List.set (((List.set ((List.set (((List.set ((List.set ((z_z8)) (y10).toNatClampNeg (.int (1 : Int32)))) ((y10 ^^^ (1 : Int32))).toNatClampNeg (.int (-1 : Int32))))) (y11).toNatClampNeg (.int (1 : Int32)))) ((y11 ^^^ (1 : Int32))).toNatClampNeg (.int (-1 : Int32))))) (y12).toNatClampNeg (.int (1 : Int32)))) ((y12 ^^^ (1 : Int32))).toNatClampNeg (.int (-1 : Int32))))) (y12).toNatClampNeg (.int (0 : Int32)))) ((y12 ^^^ (1 : Int32))).toNatClampNeg (.int (0 : Int32)))) p1 p2 p3 p4 p5 p6 p7 p8 p9 p10 p11 o_p1_4 o_p3_4 TT.1 TT.2.2.2.2.2.2.2.2.2.2.2.2.2.2.1 TT.2.2.1 TT.2.2.2.2.2.2.2.2.2.2.2.2.2.2.2.1) (z_w hw 262 rfl) (z_w hw 263 rfl) (z_w hw 264 rfl) (z_w hw 265 rfl) (by decide) at_271 rfl (argsL := [(.ref p1), (.int y10), (.int (1 : Int32))]) (rest := []) rfl (lenOf z_pd19 rfl) (W := 0) (Nat.le_of_eq rfl) (by decide) (by decide) (by decide) (by decide) (by decide) (by decide) 274 rfl ?_
  refine z_ifN C at_274 (by decide) 277 rfl ?_
  refine z_aload C at_277 rfl rfl 279 rfl ?_
  refine z_iload C at_279 rfl 281 rfl ?_
  refine z_iload C at_281 rfl 283 rfl ?_
  refine z_callSp C (z_c33_94 l hw S (by omega) old4 y11 ((List.set ((List.set (((List.set ((List.set (((List.set ((List.set (((List.set ((List.set ((z_z8)) (y10).toNatClampNeg (.int (1 : Int32)))) ((y10 ^^^ (1 : Int32))).toNatClampNeg (.int (-1 : Int32))))) (y11).toNatClampNeg (.int (1 : Int32)))) ((y11 ^^^ (1 : Int32))).toNatClampNeg (.int (-1 : Int32))))) (y12).toNatClampNeg (.int (1 : Int32)))) ((y12 ^^^ (1 : Int32))).toNatClampNeg (.int (-1 : Int32))))) (y12).toNatClampNeg (.int (0 : Int32)))) ((y12 ^^^ (1 : Int32))).toNatClampNeg (.int (0 : Int32)))) p1 p2 p3 p4 p5 p6 p7 p8 p9 p10 p11 o_p1_4 o_p3_4 TT.2.2.2.2.1 TT.2.2.2.2.2.2.2.2.2.2.2.2.2.2.2.2.1 TT.2.2.2.2.2.2.1 TT.2.2.2.2.2.2.2.2.2.2.2.2.2.2.2.2.2.1) (z_w hw 262 rfl) (z_w hw 263 rfl) (z_w hw 264 rfl) (z_w hw 265 rfl) (by decide) at_283 rfl (argsL := [(.ref p1), (.int y11), (.int (1 : Int32))]) (rest := []) rfl (lenOf z_pd19 rfl) (W := 0) (Nat.le_of_eq rfl) (by decide) (by decide) (by decide) (by decide) (by decide) (by decide) 286 rfl ?_
  refine z_ifN C at_286 (by decide) 289 rfl ?_
  refine z_aload C at_289 rfl rfl 291 rfl ?_
  refine z_iload C at_291 rfl 293 rfl ?_
  refine z_iload C at_293 rfl 295 rfl ?_
  refine z_callSp C (z_c33_95 l hw S (by omega) old4 y12 ((List.set ((List.set (((List.set ((List.set (((List.set ((List.set (((List.set ((List.set ((z_z8)) (y10).toNatClampNeg (.int (1 : Int32)))) ((y10 ^^^ (1 : Int32))).toNatClampNeg (.int (-1 : Int32))))) (y11).toNatClampNeg (.int (1 : Int32)))) ((y11 ^^^ (1 : Int32))).toNatClampNeg (.int (-1 : Int32))))) (y12).toNatClampNeg (.int (1 : Int32)))) ((y12 ^^^ (1 : Int32))).toNatClampNeg (.int (-1 : Int32))))) (y12).toNatClampNeg (.int (0 : Int32)))) ((y12 ^^^ (1 : Int32))).toNatClampNeg (.int (0 : Int32)))) p1 p2 p3 p4 p5 p6 p7 p8 p9 p10 p11 o_p1_4 o_p3_4 TT.2.2.2.2.2.2.2.2.1 TT.2.2.2.2.2.2.2.2.2.2.2.2.2.2.2.2.2.2.1 TT.2.2.2.2.2.2.2.2.2.2.1 TT.2.2.2.2.2.2.2.2.2.2.2.2.2.2.2.2.2.2.2.1) (z_w hw 262 rfl) (z_w hw 263 rfl) (z_w hw 264 rfl) (z_w hw 265 rfl) (by decide) at_295 rfl (argsL := [(.ref p1), (.int y12), (.int (0 : Int32))]) (rest := []) rfl (lenOf z_pd19 rfl) (W := 0) (Nat.le_of_eq rfl) (by decide) (by decide) (by decide) (by decide) (by decide) (by decide) 298 rfl ?_
  refine z_ifN C at_298 (by decide) 301 rfl ?_
  refine z_iconst C (v := (1 : Int32)) at_301 (by decide) 302 rfl ?_
  refine z_goto C at_302 (by decide) 306 (by decide) ?_
  refine z_istore C (Ls' := #[.val (.int y0), .val (.int y1), .val (.int y2), .val (.int y3), .val (.ref p0), .val (.ref p1), .val (.int y4), .val (.int y5), .val (.int y6), .val (.int y7), .val (.int y8), .val (.int y9), .val (.int y10), .val (.int y11), .val (.int y12), .val (.int (3 : Int32)), .val (.int (2 : Int32)), .val (.int (2 : Int32)), .val (.int (1 : Int32)), .val (.int (1 : Int32)), .val (.int (0 : Int32)), .val (.int (1 : Int32))]) at_306 rfl 308 rfl ?_
  refine z_iload C at_308 rfl 310 rfl ?_
  refine z_ifN C at_310 (by decide) 313 rfl ?_
  refine z_aload C at_313 rfl rfl 315 rfl ?_
  refine z_getO C (z_w hw 266 rfl) Via.refl o_p1_4 2 rfl rfl at_315 318 rfl ?_
  refine z_iconst C (v := (0 : Int32)) at_318 (by decide) 319 rfl ?_
  refine z_baload C o_p3_4 (by decide) TT.2.2.2.2.2.2.2.2.2.2.2.2.2.2.2.2.2.2.2.2.1 at_319 320 rfl ?_
  refine z_ifN C at_320 (by decide) 323 rfl ?_
  refine z_aload C at_323 rfl rfl 325 rfl ?_
  refine z_getO C (z_w hw 266 rfl) Via.refl o_p1_4 2 rfl rfl at_325 328 rfl ?_
  refine z_iconst C (v := (1 : Int32)) at_328 (by decide) 329 rfl ?_
  refine z_baload C o_p3_4 (by decide) TT.2.2.2.2.2.2.2.2.2.2.2.2.2.2.2.2.2.2.2.2.2 at_329 330 rfl ?_
  refine z_ifN C at_330 (by decide) 333 rfl ?_
  refine z_iconst C (v := (1 : Int32)) at_333 (by decide) 334 rfl ?_
  refine z_goto C at_334 (by decide) 338 (by decide) ?_
  refine z_istore C (Ls' := #[.val (.int y0), .val (.int y1), .val (.int y2), .val (.int y3), .val (.ref p0), .val (.ref p1), .val (.int y4), .val (.int y5), .val (.int y6), .val (.int y7), .val (.int y8), .val (.int y9), .val (.int y10), .val (.int y11), .val (.int y12), .val (.int (3 : Int32)), .val (.int (2 : Int32)), .val (.int (2 : Int32)), .val (.int (1 : Int32)), .val (.int (1 : Int32)), .val (.int (0 : Int32)), .val (.int (1 : Int32))]) at_338 rfl 340 rfl ?_
  refine z_iload C at_340 rfl 342 rfl ?_
  refine z_ifN C at_342 (by decide) 345 rfl ?_
  refine z_iload C at_345 rfl 347 rfl ?_
  refine z_ifN C at_347 (by decide) 350 rfl ?_
  refine z_aload C at_350 rfl rfl 352 rfl ?_
  refine z_getO C (z_w hw 272 rfl) Via.refl o_p1_4 3 rfl rfl at_352 355 rfl ?_
  refine z_iconst C (v := (0 : Int32)) at_355 (by decide) 356 rfl ?_
  have o_p4_4 := (o_p4_3.keep K4 (ninS (Ne.symm ne_p1_p4) (ninS (Ne.symm ne_p3_p4) nin0)))
  refine z_iaload C o_p4_4 (by decide) (v := (.int y10)) (by rfl) at_356 357 rfl ?_
  refine z_iload C at_357 rfl 359 rfl ?_
  refine z_icmpN C at_359 (teq rfl).2 362 rfl ?_
  refine z_iconst C (v := (1 : Int32)) at_362 (by decide) 363 rfl ?_
  refine z_goto C at_363 (by decide) 367 (by decide) ?_
  refine z_istore C (Ls' := #[.val (.int y0), .val (.int y1), .val (.int y2), .val (.int y3), .val (.ref p0), .val (.ref p1), .val (.int y4), .val (.int y5), .val (.int y6), .val (.int y7), .val (.int y8), .val (.int y9), .val (.int y10), .val (.int y11), .val (.int y12), .val (.int (3 : Int32)), .val (.int (2 : Int32)), .val (.int (2 : Int32)), .val (.int (1 : Int32)), .val (.int (1 : Int32)), .val (.int (0 : Int32)), .val (.int (1 : Int32))]) at_367 rfl 369 rfl ?_
  refine z_iload C at_369 rfl 371 rfl ?_
  refine z_ifN C at_371 (by decide) 374 rfl ?_
  refine z_iload C at_374 rfl 376 rfl ?_
  refine z_ifN C at_376 (by decide) 379 rfl ?_
  refine z_aload C at_379 rfl rfl 381 rfl ?_
  refine z_getO C (z_w hw 272 rfl) Via.refl o_p1_4 3 rfl rfl at_381 384 rfl ?_
  refine z_iconst C (v := (1 : Int32)) at_384 (by decide) 385 rfl ?_
  refine z_iaload C o_p4_4 (by decide) (v := (.int y11)) (by rfl) at_385 386 rfl ?_
  refine z_iload C at_386 rfl 388 rfl ?_
  refine z_icmpN C at_388 (teq rfl).2 391 rfl ?_
  refine z_iconst C (v := (1 : Int32)) at_391 (by decide) 392 rfl ?_
  refine z_goto C at_392 (by decide) 396 (by decide) ?_
  refine z_istore C (Ls' := #[.val (.int y0), .val (.int y1), .val (.int y2), .val (.int y3), .val (.ref p0), .val (.ref p1), .val (.int y4), .val (.int y5), .val (.int y6), .val (.int y7), .val (.int y8), .val (.int y9), .val (.int y10), .val (.int y11), .val (.int y12), .val (.int (3 : Int32)), .val (.int (2 : Int32)), .val (.int (2 : Int32)), .val (.int (1 : Int32)), .val (.int (1 : Int32)), .val (.int (0 : Int32)), .val (.int (1 : Int32))]) at_396 rfl 398 rfl ?_
  refine z_iload C at_398 rfl 400 rfl ?_
  refine z_ifY C at_400 (by decide) (by decide) 427 (by decide) ?_
  refine z_iload C at_427 rfl 429 rfl ?_
  exact z_ireturn C (by simp) rfl at_429 (by decide) (by decide) rfl
set_option maxHeartbeats 2000000 in
theorem z_c30_97 (l : Launch) {Z : State} {a0 : Array Value} (hw : ∀ d ∈ tables_1, d.before a0 Z = true) {n0 : Nat} {h : Heap} {a_DEF a_ONE a_NONE : Nat} (S : z_St Z a_DEF a_ONE a_NONE) (z0 : n0 ≤ h.size) (old : Old Z n0 h) (y0 : Int32) (p0 : Nat) (p1 : Nat) (p2 : Nat) (p3 : Nat) (p4 : Nat) (p5 : Nat) (p6 : Nat) (p7 : Nat) (p8 : Nat) (p9 : Nat) (p10 : Nat) (o_p0 : z_Ob Z h p0 "com/example/variegate/variegate/service/Propagation" z_lay3 [(.int (3 : Int32)), (.ref p1), (.ref p2), (.ref p3), (.ref p4), (.ref p5), (.ref p6), (.ref p7), (.ref p8), (.ref p9), (.ref p10), (.int (3 : Int32)), (.int (0 : Int32)), (.int (0 : Int32))]) (g_p0 : n0 ≤ p0) (rq0 : ¬ y0 < (3 : Int32)) :
    z_Met l Z (⟨"com/example/variegate/variegate/service/Propagation", "backtrack", "(I)V"⟩ : MethodName) prog_97_method_11_code 3 none [] ({ frames := 0, cells := 0, slots := 0, locals := 0 } : Room) n0 #[(.ref p0), (.int y0)] h (z_nov fun h' => Keep h h' [p0] ∧ z_Ob Z h' p0 "com/example/variegate/variegate/service/Propagation" z_lay3 [(.int (3 : Int32)), (.ref p1), (.ref p2), (.ref p3), (.ref p4), (.ref p5), (.ref p6), (.ref p7), (.ref p8), (.ref p9), (.ref p10), (.int (3 : Int32)), (.int y0), (.int (0 : Int32))]) := by
  refine z_met (Ls := #[.val (.ref p0), .val (.int y0), .unset]) (by first | exact plainFor_of_name (by first | (simp [plainName, overriddenIn]; done) | decide +kernel) | decide +kernel) rfl ?_
  intro p e s m below meth c C
  refine z_aloadN C z_d30_0 rfl rfl 1 rfl ?_
  refine z_getO C (z_w hw 250 rfl) Via.refl o_p0 11 rfl rfl z_d30_1 4 rfl ?_
  refine z_iloadN C z_d30_4 rfl 5 rfl ?_
  refine z_icmpY C z_d30_5 (flt rq0).2.2.2 (by decide) 44 (by decide) ?_
  refine z_aloadN C z_d30_44 rfl rfl 45 rfl ?_
  refine z_iloadN C z_d30_45 rfl 46 rfl ?_
  refine z_putO C (z_w hw 252 rfl) Via.refl o_p0 (z_lay3_ok hw) 12 rfl (vs' := [(.int (3 : Int32)), (.ref p1), (.ref p2), (.ref p3), (.ref p4), (.ref p5), (.ref p6), (.ref p7), (.ref p8), (.ref p9), (.ref p10), (.int (3 : Int32)), (.int y0), (.int (0 : Int32))]) rfl (Or.inl (z_w hw 253 rfl)) (z_w hw 116 rfl) (ty := .int) (by decide) (by first | rfl | decide) (by first | rfl | decide) g_p0 z_d30_46 49 rfl ?_
  intro h1 W1 o_p0_1
  have s1 : h1.size = h.size := W1.size
  have k1 : Keep h h1 [p0] := (Keep.refl h [p0]).wr W1 (Or.inl (by simp))
  exact z_return C z_d30_49 (by decide) (by decide) ⟨rfl, k1, o_p0_1⟩
set_option maxHeartbeats 2000000 in
theorem z_c31_98 (l : Launch) {Z : State} {a0 : Array Value} (hw : ∀ d ∈ tables_1, d.before a0 Z = true) {n0 : Nat} {h : Heap} {a_DEF a_ONE a_NONE : Nat} (S : z_St Z a_DEF a_ONE a_NONE) (z0 : n0 ≤ h.size) (old : Old Z n0 h) (y0 : Int32) (rq0 : ¬ y0 < (3 : Int32)) :
    z_Met l Z (⟨"java/lang/Math", "min", "(II)I"⟩ : MethodName) jdk_29_method_69_code 2 (some .int) [] ({ frames := 0, cells := 0, slots := 0, locals := 0 } : Room) n0 #[(.int (3 : Int32)), (.int y0)] h (z_pure (.int (3 : Int32)) h) := by
  refine z_met (Ls := #[.val (.int (3 : Int32)), .val (.int y0)]) (by first | exact plainFor_of_name (by first | (simp [plainName, overriddenIn]; done) | decide +kernel) | decide +kernel) rfl ?_
  intro p e s m below meth c C
  refine z_iloadN C z_d31_0 rfl 1 rfl ?_
  refine z_iloadN C z_d31_1 rfl 2 rfl ?_
  refine z_icmpN C z_d31_2 (flt rq0).2.2.1 5 rfl ?_
  refine z_iloadN C z_d31_5 rfl 6 rfl ?_
  refine z_goto C z_d31_6 (by decide) 10 (by decide) ?_
  exact z_ireturn C (Or.inl rfl) rfl z_d31_10 (by decide) (by decide) ⟨rfl, rfl⟩
set_option maxHeartbeats 2000000 in
theorem z_c32_99 (l : Launch) {Z : State} {a0 : Array Value} (hw : ∀ d ∈ tables_1, d.before a0 Z = true) {n0 : Nat} {h : Heap} {a_DEF a_ONE a_NONE : Nat} (S : z_St Z a_DEF a_ONE a_NONE) (z0 : n0 ≤ h.size) (old : Old Z n0 h) (y0 : Int32) (p0 : Nat) (p1 : Nat) (p2 : Nat) (p3 : Nat) (p4 : Nat) (p5 : Nat) (p6 : Nat) (p7 : Nat) (p8 : Nat) (p9 : Nat) (p10 : Nat) (o_p0 : z_Ob Z h p0 "com/example/variegate/variegate/service/Propagation" z_lay3 [(.int (3 : Int32)), (.ref p1), (.ref p2), (.ref p3), (.ref p4), (.ref p5), (.ref p6), (.ref p7), (.ref p8), (.ref p9), (.ref p10), (.int (3 : Int32)), (.int y0), (.int (0 : Int32))]) :
    z_Met l Z (⟨"com/example/variegate/variegate/service/Propagation", "trailSize", "()I"⟩ : MethodName) prog_97_method_6_code 1 (some .int) [] ({ frames := 0, cells := 0, slots := 0, locals := 0 } : Room) n0 #[(.ref p0)] h (z_pure (.int (3 : Int32)) h) := by
  refine z_met (Ls := #[.val (.ref p0)]) (by first | exact plainFor_of_name (by first | (simp [plainName, overriddenIn]; done) | decide +kernel) | decide +kernel) rfl ?_
  intro p e s m below meth c C
  refine z_aloadN C z_d32_0 rfl rfl 1 rfl ?_
  refine z_getO C (z_w hw 250 rfl) Via.refl o_p0 11 rfl rfl z_d32_1 4 rfl ?_
  exact z_ireturn C (Or.inl rfl) rfl z_d32_4 (by decide) (by decide) ⟨rfl, rfl⟩
set_option maxHeartbeats 2000000 in
theorem z_c33_100 (l : Launch) {Z : State} {a0 : Array Value} (hw : ∀ d ∈ tables_1, d.before a0 Z = true) {n0 : Nat} {h : Heap} {a_DEF a_ONE a_NONE : Nat} (S : z_St Z a_DEF a_ONE a_NONE) (z0 : n0 ≤ h.size) (old : Old Z n0 h) (y0 : Int32) (y1 : Int32) (va0 : List Value) (p0 : Nat) (p1 : Nat) (p2 : Nat) (p3 : Nat) (p4 : Nat) (p5 : Nat) (p6 : Nat) (p7 : Nat) (p8 : Nat) (p9 : Nat) (p10 : Nat) (o_p0 : z_Ob Z h p0 "com/example/variegate/variegate/service/Propagation" z_lay3 [(.int (3 : Int32)), (.ref p1), (.ref p2), (.ref p3), (.ref p4), (.ref p5), (.ref p6), (.ref p7), (.ref p8), (.ref p9), (.ref p10), (.int (3 : Int32)), (.int y1), (.int (0 : Int32))]) (o_p2 : z_Ar Z h p2 .byte "[B" "" va0) (rq0 : ¬ y0 < 0) (rq1 : (va0)[(y0).toNatClampNeg]? = some (.int (1 : Int32))) (rq2 : ¬ (y0 ^^^ (1 : Int32)) < 0) (rq3 : (va0)[((y0 ^^^ (1 : Int32))).toNatClampNeg]? = some (.int (-1 : Int32))) :
    z_Met l Z (⟨"com/example/variegate/variegate/service/PropagationBacktrackPinLaw", "check", "(Lcom/example/variegate/variegate/service/Propagation;IZ)Z"⟩ : MethodName) method_2_code 5 (some .boolean) [] ({ frames := 0, cells := 0, slots := 0, locals := 0 } : Room) n0 #[(.ref p0), (.int y0), (.int (1 : Int32))] h (z_pure (.int (1 : Int32)) h) := by
  refine z_met (Ls := #[.val (.ref p0), .val (.int y0), .val (.int (1 : Int32)), .unset, .unset]) (by first | exact plainFor_of_name (by first | (simp [plainName, overriddenIn]; done) | decide +kernel) | decide +kernel) rfl ?_
  intro p e s m below meth c C
  refine z_iloadN C z_d33_0 rfl 1 rfl ?_
  refine z_ifN C z_d33_1 (by decide) 4 rfl ?_
  refine z_iconst C (v := (1 : Int32)) z_d33_4 (by decide) 5 rfl ?_
  refine z_goto C z_d33_5 (by decide) 9 (by decide) ?_
  refine z_istoreN C (Ls' := #[.val (.ref p0), .val (.int y0), .val (.int (1 : Int32)), .val (.int (1 : Int32)), .unset]) z_d33_9 rfl 10 rfl ?_
  refine z_iloadN C z_d33_10 rfl 11 rfl ?_
  refine z_ifN C z_d33_11 (by decide) 14 rfl ?_
  refine z_iconst C (v := (-1 : Int32)) z_d33_14 (by decide) 15 rfl ?_
  refine z_goto C z_d33_15 (by decide) 19 (by decide) ?_
  refine z_istore C (Ls' := #[.val (.ref p0), .val (.int y0), .val (.int (1 : Int32)), .val (.int (1 : Int32)), .val (.int (-1 : Int32))]) z_d33_19 rfl 21 rfl ?_
  refine z_aloadN C z_d33_21 rfl rfl 22 rfl ?_
  refine z_getO C (z_w hw 266 rfl) Via.refl o_p0 2 rfl rfl z_d33_22 25 rfl ?_
  refine z_iloadN C z_d33_25 rfl 26 rfl ?_
  refine z_baload C o_p2 rq0 rq1 z_d33_26 27 rfl ?_
  refine z_iloadN C z_d33_27 rfl 28 rfl ?_
  refine z_icmpN C z_d33_28 (by decide) 31 rfl ?_
  refine z_aloadN C z_d33_31 rfl rfl 32 rfl ?_
  refine z_getO C (z_w hw 266 rfl) Via.refl o_p0 2 rfl rfl z_d33_32 35 rfl ?_
  refine z_iloadN C z_d33_35 rfl 36 rfl ?_
  refine z_iconst C (v := (1 : Int32)) z_d33_36 (by decide) 37 rfl ?_
  refine z_ixor C z_d33_37 rfl 38 rfl ?_
  refine z_baload C o_p2 rq2 rq3 z_d33_38 39 rfl ?_
  refine z_iload C z_d33_39 rfl 41 rfl ?_
  refine z_icmpN C z_d33_41 (by decide) 44 rfl ?_
  refine z_iconst C (v := (1 : Int32)) z_d33_44 (by decide) 45 rfl ?_
  refine z_goto C z_d33_45 (by decide) 49 (by decide) ?_
  exact z_ireturn C (by simp) rfl z_d33_49 (by decide) (by decide) ⟨rfl, rfl⟩
set_option maxHeartbeats 8000000 in
theorem z_seg101 (l : Launch) {Z : State} {a0 : Array Value} (hw : ∀ d ∈ tables_1, d.before a0 Z = true) {n0 : Nat} {h : Heap} {a_DEF a_ONE a_NONE : Nat} (S : z_St Z a_DEF a_ONE a_NONE) (z0 : n0 ≤ h.size) (old : Old Z n0 h) (y0 : Int32) (y1 : Int32) (y2 : Int32) (y3 : Int32) (y4 : Int32) (y5 : Int32) (y6 : Int32) (y7 : Int32) (y8 : Int32) (y9 : Int32) (y10 : Int32) (y11 : Int32) (y12 : Int32) (p0 : Nat) (p1 : Nat) (p2 : Nat) (p3 : Nat) (p4 : Nat) (p5 : Nat) (p6 : Nat) (p7 : Nat) (p8 : Nat) (p9 : Nat) (p10 : Nat) (p11 : Nat) (o_p1 : z_Ob Z h p1 "com/example/variegate/variegate/service/Propagation" z_lay3 [(.int (3 : Int32)), (.ref p2), (.ref p3), (.ref p4), (.ref p5), (.ref p6), (.ref p7), (.ref p8), (.ref p9), (.ref p10), (.ref p11), (.int (0 : Int32)), (.int (0 : Int32)), (.int (0 : Int32))]) (o_p3 : z_Ar Z h p3 .byte "[B" "" z_z8) (o_p4 : z_Ar Z h p4 .int "[I" "" [(.int (0 : Int32)), (.int (0 : Int32)), (.int (0 : Int32)), (.int (0 : Int32))]) (ne_p1_p3 : p1 ≠ p3) (ne_p3_p4 : p3 ≠ p4) (ne_p1_p4 : p1 ≠ p4) (g_p3 : n0 ≤ p3) (g_p1 : n0 ≤ p1) (g_p4 : n0 ≤ p4) (TT : z_R3_3 y10 y11 y12) (hn : (y0 &&& (3 : Int32)) = (3 : Int32)) (hm : ¬ (y2 &&& (7 : Int32)) < (3 : Int32)) {p : Program} {e : Env} {s : State} {m : MethodId} {args : Array Value} {below : List Frame} {meth : Method} {c : Code} (C : z_Cx Z p s m meth c x.cls code maxLocals ret x.name) :
    z_At p l e room_1 s m args below meth c n0 (fun v _ => v = some (.int 1)) h 27 131 (mkF m 139 #[.val (.int y0), .val (.int y1), .val (.int y2), .val (.int y3), .val (.ref p0), .val (.ref p1), .val (.int y4), .val (.int y5), .val (.int y6), .val (.int y7), .val (.int y8), .val (.int y9), .val (.int y10), .val (.int y11), .val (.int y12), .unset, .unset, .unset, .unset, .unset, .unset, .unset] []) := by
  refine z_iloadN C at_139 rfl 140 rfl ?_
  refine z_iconst C (v := (3 : Int32)) at_140 (by decide) 141 rfl ?_
  refine z_iand C (z := (3 : Int32)) at_141 hn 142 rfl ?_
  refine z_istore C (Ls' := #[.val (.int y0), .val (.int y1), .val (.int y2), .val (.int y3), .val (.ref p0), .val (.ref p1), .val (.int y4), .val (.int y5), .val (.int y6), .val (.int y7), .val (.int y8), .val (.int y9), .val (.int y10), .val (.int y11), .val (.int y12), .val (.int (3 : Int32)), .unset, .unset, .unset, .unset, .unset, .unset]) at_142 rfl 144 rfl ?_
  refine z_iload C at_144 rfl 146 rfl ?_
  refine z_ifN C at_146 (by decide) 149 rfl ?_
  refine z_aload C at_149 rfl rfl 151 rfl ?_
  refine z_iload C at_151 rfl 153 rfl ?_
  refine z_callVV C o_p1.1 (z_c34_56 l hw S (by omega) old y10 (z_z8) p1 p2 p3 p4 p5 p6 p7 p8 p9 p10 p11 o_p1 o_p3 o_p4 ne_p1_p3 ne_p3_p4 ne_p1_p4 g_p3 g_p1 g_p4 TT.1 TT.2.1 TT.2.2.1 TT.2.2.2.1) (z_w hw 267 rfl) (z_w hw 268 rfl) (z_w hw 270 rfl) (z_w hw 269 rfl) (z_w hw 117 rfl) (z_w hw 271 rfl) (by decide) at_153 rfl (argsL := [(.int y10)]) (rest := []) rfl (lenOf z_pd2 rfl) (W := 0) (Nat.le_of_eq rfl) (by decide) (by decide) (by decide) (by decide) 156 rfl ?_
  rintro h1 ⟨K1, o_p1_1, o_p3_1, o_p4_1⟩
  have s1 : h.size ≤ h1.size := K1.1
  refine z_iload C at_156 rfl 158 rfl ?_
  refine z_iconst C (v := (1 : Int32)) at_158 (by decide) 159 rfl ?_
  refine z_icmpN C at_159 (by decide) 162 rfl ?_
  refine z_aload C at_162 rfl rfl 164 rfl ?_
  refine z_iload C at_164 rfl 166 rfl ?_
  have old1 := (old.keep K1 (allS g_p3 (allS g_p1 (allS g_p4 all0))))
  refine z_callVV C o_p1_1.1 (z_c34_68 l hw S (by omega) old1 y11 y10 ((List.set ((List.set ((z_z8)) (y10).toNatClampNeg (.int (1 : Int32)))) ((y10 ^^^ (1 : Int32))).toNatClampNeg (.int (-1 : Int32)))) p1 p2 p3 p4 p5 p6 p7 p8 p9 p10 p11 o_p1_1 o_p3_1 o_p4_1 ne_p1_p3 ne_p3_p4 ne_p1_p4 g_p3 g_p1 g_p4 TT.2.2.2.2.1 TT.2.2.2.2.2.1 TT.2.2.2.2.2.2.1 TT.2.2.2.2.2.2.2.1) (z_w hw 267 rfl) (z_w hw 268 rfl) (z_w hw 270 rfl) (z_w hw 269 rfl) (z_w hw 117 rfl) (z_w hw 271 rfl) (by decide) at_166 rfl (argsL := [(.int y11)]) (rest := []) rfl (lenOf z_pd2 rfl) (W := 0) (Nat.le_of_eq rfl) (by decide) (by decide) (by decide) (by decide) 169 rfl ?_
  rintro h2 ⟨K2, o_p1_2, o_p3_2, o_p4_2⟩
  have s2 : h1.size ≤ h2.size := K2.1
  refine z_iload C at_169 rfl 171 rfl ?_
  refine z_iconst C (v := (2 : Int32)) at_171 (by decide) 172 rfl ?_
  refine z_icmpN C at_172 (by decide) 175 rfl ?_
  refine z_aload C at_175 rfl rfl 177 rfl ?_
  refine z_iload C at_177 rfl 179 rfl ?_
  have old2 := (old1.keep K2 (allS g_p3 (allS g_p1 (allS g_p4 all0))))
  refine z_callVV C o_p1_2.1 (z_c34_84 l hw S (by omega) old2 y12 y10 y11 ((List.set ((List.set (((List.set ((List.set ((z_z8)) (y10).toNatClampNeg (.int (1 : Int32)))) ((y10 ^^^ (1 : Int32))).toNatClampNeg (.int (-1 : Int32))))) (y11).toNatClampNeg (.int (1 : Int32)))) ((y11 ^^^ (1 : Int32))).toNatClampNeg (.int (-1 : Int32)))) p1 p2 p3 p4 p5 p6 p7 p8 p9 p10 p11 o_p1_2 o_p3_2 o_p4_2 ne_p1_p3 ne_p3_p4 ne_p1_p4 g_p3 g_p1 g_p4 TT.2.2.2.2.2.2.2.2.1 TT.2.2.2.2.2.2.2.2.2.1 TT.2.2.2.2.2.2.2.2.2.2.1 TT.2.2.2.2.2.2.2.2.2.2.2.1) (z_w hw 267 rfl) (z_w hw 268 rfl) (z_w hw 270 rfl) (z_w hw 269 rfl) (z_w hw 117 rfl) (z_w hw 271 rfl) (by decide) at_179 rfl (argsL := [(.int y12)]) (rest := []) rfl (lenOf z_pd2 rfl) (W := 0) (Nat.le_of_eq rfl) (by decide) (by decide) (by decide) (by decide) 182 rfl ?_
  rintro h3 ⟨K3, o_p1_3, o_p3_3, o_p4_3⟩
  have s3 : h2.size ≤ h3.size := K3.1
  refine z_iloadN C at_182 rfl 183 rfl ?_
  refine z_bipush C (v := (7 : Int32)) at_183 (by decide) 185 rfl ?_
  refine z_iand C at_185 rfl 186 rfl ?_
  refine z_istore C (Ls' := #[.val (.int y0), .val (.int y1), .val (.int y2), .val (.int y3), .val (.ref p0), .val (.ref p1), .val (.int y4), .val (.int y5), .val (.int y6), .val (.int y7), .val (.int y8), .val (.int y9), .val (.int y10), .val (.int y11), .val (.int y12), .val (.int (3 : Int32)), .val (.int (y2 &&& (7 : Int32))), .unset, .unset, .unset, .unset, .unset]) at_186 rfl 188 rfl ?_
  refine z_aload C at_188 rfl rfl 190 rfl ?_
  refine z_iload C at_190 rfl 192 rfl ?_
  have old3 := (old2.keep K3 (allS g_p3 (allS g_p1 (allS g_p4 all0))))
  refine z_callVV C o_p1_3.1 (z_c30_97 l hw S (by omega) old3 (y2 &&& (7 : Int32)) p1 p2 p3 p4 p5 p6 p7 p8 p9 p10 p11 o_p1_3 g_p1 hm) (z_w hw 245 rfl) (z_w hw 246 rfl) (z_w hw 248 rfl) (z_w hw 247 rfl) (z_w hw 117 rfl) (z_w hw 249 rfl) (by decide) at_192 rfl (argsL := [(.int (y2 &&& (7 : Int32)))]) (rest := []) rfl (lenOf z_pd2 rfl) (W := 0) (Nat.le_of_eq rfl) (by decide) (by decide) (by decide) (by decide) 195 rfl ?_
  rintro h4 ⟨K4, o_p1_4⟩
  have s4 : h3.size ≤ h4.size := K4.1
  refine z_iload C at_195 rfl 197 rfl ?_
  refine z_iload C at_197 rfl 199 rfl ?_
  have old4 := (old3.keep K4 (allS g_p1 all0))
  refine z_callSp C (z_c31_98 l hw S (by omega) old4 (y2 &&& (7 : Int32)) hm) (z_w hw 254 rfl) (z_w hw 255 rfl) (z_w hw 102 rfl) (z_w hw 256 rfl) (by decide) at_199 rfl (argsL := [(.int (3 : Int32)), (.int (y2 &&& (7 : Int32)))]) (rest := []) rfl (lenOf z_pd3 rfl) (W := 0) (Nat.le_of_eq rfl) (by decide) (by decide) (by decide) (by decide) (by decide) (by decide) 202 rfl ?_
  refine z_istore C (Ls' := #[.val (.int y0), .val (.int y1), .val (.int y2), .val (.int y3), .val (.ref p0), .val (.ref p1), .val (.int y4), .val (.int y5), .val (.int y6), .val (.int y7), .val (.int y8), .val (.int y9), .val (.int y10), .val (.int y11), .val (.int y12), .val (.int (3 : Int32)), .val (.int (y2 &&& (7 : Int32))), .val (.int (3 : Int32)), .unset, .unset, .unset, .unset]) at_202 rfl 204 rfl ?_
  refine z_iconst C (v := (0 : Int32)) at_204 (by decide) 205 rfl ?_
  refine z_iload C at_205 rfl 207 rfl ?_
  refine z_icmpN C at_207 (by decide) 210 rfl ?_
  refine z_iconst C (v := (1 : Int32)) at_210 (by decide) 211 rfl ?_
  refine z_goto C at_211 (by decide) 215 (by decide) ?_
  refine z_istore C (Ls' := #[.val (.int y0), .val (.int y1), .val (.int y2), .val (.int y3), .val (.ref p0), .val (.ref p1), .val (.int y4), .val (.int y5), .val (.int y6), .val (.int y7), .val (.int y8), .val (.int y9), .val (.int y10), .val (.int y11), .val (.int y12), .val (.int (3 : Int32)), .val (.int (y2 &&& (7 : Int32))), .val (.int (3 : Int32)), .val (.int (1 : Int32)), .unset, .unset, .unset]) at_215 rfl 217 rfl ?_
  refine z_iconst C (v := (1 : Int32)) at_217 (by decide) 218 rfl ?_
  refine z_iload C at_218 rfl 220 rfl ?_
  refine z_icmpN C at_220 (by decide) 223 rfl ?_
  refine z_iconst C (v := (1 : Int32)) at_223 (by decide) 224 rfl ?_
  refine z_goto C at_224 (by decide) 228 (by decide) ?_
  refine z_istore C (Ls' := #[.val (.int y0), .val (.int y1), .val (.int y2), .val (.int y3), .val (.ref p0), .val (.ref p1), .val (.int y4), .val (.int y5), .val (.int y6), .val (.int y7), .val (.int y8), .val (.int y9), .val (.int y10), .val (.int y11), .val (.int y12), .val (.int (3 : Int32)), .val (.int (y2 &&& (7 : Int32))), .val (.int (3 : Int32)), .val (.int (1 : Int32)), .val (.int (1 : Int32)), .unset, .unset]) at_228 rfl 230 rfl ?_
  refine z_iconst C (v := (2 : Int32)) at_230 (by decide) 231 rfl ?_
  refine z_iload C at_231 rfl 233 rfl ?_
  refine z_icmpN C at_233 (by decide) 236 rfl ?_
  refine z_iconst C (v := (1 : Int32)) at_236 (by decide) 237 rfl ?_
  refine z_goto C at_237 (by decide) 241 (by decide) ?_
  refine z_istore C (Ls' := #[.val (.int y0), .val (.int y1), .val (.int y2), .val (.int y3), .val (.ref p0), .val (.ref p1), .val (.int y4), .val (.int y5), .val (.int y6), .val (.int y7), .val (.int y8), .val (.int y9), .val (.int y10), .val (.int y11), .val (.int y12), .val (.int (3 : Int32)), .val (.int (y2 &&& (7 : Int32))), .val (.int (3 : Int32)), .val (.int (1 : Int32)), .val (.int (1 : Int32)), .val (.int (1 : Int32)), .unset]) at_241 rfl 243 rfl ?_
  refine z_aload C at_243 rfl rfl 245 rfl ?_
  refine z_callVp C o_p1_4.1 (z_c32_99 l hw S (by omega) old4 (y2 &&& (7 : Int32)) p1 p2 p3 p4 p5 p6 p7 p8 p9 p10 p11 o_p1_4) (z_w hw 257 rfl) (z_w hw 258 rfl) (z_w hw 260 rfl) (z_w hw 259 rfl) (z_w hw 117 rfl) (z_w hw 261 rfl) (by decide) at_245 rfl (argsL := []) (rest := []) rfl (lenOf z_pd8 rfl) (W := 0) (Nat.le_of_eq rfl) (by decide) (by decide) (by decide) (by decide) (by decide) (by decide) 248 rfl ?_
  refine z_iload C at_248 rfl 250 rfl ?_
  refine z_icmpN C at_250 (by decide) 253 rfl ?_
  refine z_iconst C (v := (1 : Int32)) at_253 (by decide) 254 rfl ?_
  refine z_goto C at_254 (by decide) 258 (by decide) ?_
  refine z_istore C (Ls' := #[.val (.int y0), .val (.int y1), .val (.int y2), .val (.int y3), .val (.ref p0), .val (.ref p1), .val (.int y4), .val (.int y5), .val (.int y6), .val (.int y7), .val (.int y8), .val (.int y9), .val (.int y10), .val (.int y11), .val (.int y12), .val (.int (3 : Int32)), .val (.int (y2 &&& (7 : Int32))), .val (.int (3 : Int32)), .val (.int (1 : Int32)), .val (.int (1 : Int32)), .val (.int (1 : Int32)), .val (.int (1 : Int32))]) at_258 rfl 260 rfl ?_
  refine z_iload C at_260 rfl 262 rfl ?_
  refine z_ifN C at_262 (by decide) 265 rfl ?_
  refine z_aload C at_265 rfl rfl 267 rfl ?_
  refine z_iload C at_267 rfl 269 rfl ?_
  refine z_iload C at_269 rfl 271 rfl ?_
  have o_p3_4 := (o_p3_3.keep K4 (ninS (Ne.symm ne_p1_p3) nin0))
  refine z_callSp C (z_c33_100 l hw S (by omega) old4 y10 (y2 &&& (7 : Int32)) ((List.set ((List.set (((List.set ((List.set (((List.set ((List.set ((z_z8)) (y10).toNatClampNeg (.int (1 : Int32)))) ((y10 ^^^ (1 : Int32))).toNatClampNeg (.int (-1 : Int32))))) (y11).toNatClampNeg (.int (1 : Int32)))) ((y11 ^^^ (1 : Int32))).toNatClampNeg (.int (-1 : Int32))))) (y12).toNatClampNeg (.int (1 : Int32)))) ((y12 ^^^ (1 : Int32))).toNatClampNeg (.int (-1 : Int32)))) p1 p2 p3 p4 p5 p6 p7 p8 p9 p10 p11 o_p1_4 o_p3_4 TT.1 TT.2.2.2.2.2.2.2.2.2.2.2.2.1 TT.2.2.1 TT.2.2.2.2.2.2.2.2.2.2.2.2.2.1) (z_w hw 262 rfl) (z_w hw 263 rfl) (z_w hw 264 rfl) (z_w hw 265 rfl) (by decide) at_271 rfl (argsL := [(.ref p1), (.int y10), (.int (1 : Int32))]) (rest := []) rfl (lenOf z_pd19 rfl) (W := 0) (Nat.le_of_eq rfl) (by decide) (by decide) (by decide) (by decide) (by decide) (by decide) 274 rfl ?_
  refine z_ifN C at_274 (by decide) 277 rfl ?_
  refine z_aload C at_277 rfl rfl 279 rfl ?_
  refine z_iload C at_279 rfl 281 rfl ?_
  refine z_iload C at_281 rfl 283 rfl ?_
  refine z_callSp C (z_c33_100 l hw S (by omega) old4 y11 (y2 &&& (7 : Int32)) ((List.set ((List.set (((List.set ((List.set (((List.set ((List.set ((z_z8)) (y10).toNatClampNeg (.int (1 : Int32)))) ((y10 ^^^ (1 : Int32))).toNatClampNeg (.int (-1 : Int32))))) (y11).toNatClampNeg (.int (1 : Int32)))) ((y11 ^^^ (1 : Int32))).toNatClampNeg (.int (-1 : Int32))))) (y12).toNatClampNeg (.int (1 : Int32)))) ((y12 ^^^ (1 : Int32))).toNatClampNeg (.int (-1 : Int32)))) p1 p2 p3 p4 p5 p6 p7 p8 p9 p10 p11 o_p1_4 o_p3_4 TT.2.2.2.2.1 TT.2.2.2.2.2.2.2.2.2.2.2.2.2.2.1 TT.2.2.2.2.2.2.1 TT.2.2.2.2.2.2.2.2.2.2.2.2.2.2.2.1) (z_w hw 262 rfl) (z_w hw 263 rfl) (z_w hw 264 rfl) (z_w hw 265 rfl) (by decide) at_283 rfl (argsL := [(.ref p1), (.int y11), (.int (1 : Int32))]) (rest := []) rfl (lenOf z_pd19 rfl) (W := 0) (Nat.le_of_eq rfl) (by decide) (by decide) (by decide) (by decide) (by decide) (by decide) 286 rfl ?_
  refine z_ifN C at_286 (by decide) 289 rfl ?_
  refine z_aload C at_289 rfl rfl 291 rfl ?_
  refine z_iload C at_291 rfl 293 rfl ?_
  refine z_iload C at_293 rfl 295 rfl ?_
  refine z_callSp C (z_c33_100 l hw S (by omega) old4 y12 (y2 &&& (7 : Int32)) ((List.set ((List.set (((List.set ((List.set (((List.set ((List.set ((z_z8)) (y10).toNatClampNeg (.int (1 : Int32)))) ((y10 ^^^ (1 : Int32))).toNatClampNeg (.int (-1 : Int32))))) (y11).toNatClampNeg (.int (1 : Int32)))) ((y11 ^^^ (1 : Int32))).toNatClampNeg (.int (-1 : Int32))))) (y12).toNatClampNeg (.int (1 : Int32)))) ((y12 ^^^ (1 : Int32))).toNatClampNeg (.int (-1 : Int32)))) p1 p2 p3 p4 p5 p6 p7 p8 p9 p10 p11 o_p1_4 o_p3_4 TT.2.2.2.2.2.2.2.2.1 TT.2.2.2.2.2.2.2.2.2.2.2.2.2.2.2.2.1 TT.2.2.2.2.2.2.2.2.2.2.1 TT.2.2.2.2.2.2.2.2.2.2.2.2.2.2.2.2.2.1) (z_w hw 262 rfl) (z_w hw 263 rfl) (z_w hw 264 rfl) (z_w hw 265 rfl) (by decide) at_295 rfl (argsL := [(.ref p1), (.int y12), (.int (1 : Int32))]) (rest := []) rfl (lenOf z_pd19 rfl) (W := 0) (Nat.le_of_eq rfl) (by decide) (by decide) (by decide) (by decide) (by decide) (by decide) 298 rfl ?_
  refine z_ifN C at_298 (by decide) 301 rfl ?_
  refine z_iconst C (v := (1 : Int32)) at_301 (by decide) 302 rfl ?_
  refine z_goto C at_302 (by decide) 306 (by decide) ?_
  refine z_istore C (Ls' := #[.val (.int y0), .val (.int y1), .val (.int y2), .val (.int y3), .val (.ref p0), .val (.ref p1), .val (.int y4), .val (.int y5), .val (.int y6), .val (.int y7), .val (.int y8), .val (.int y9), .val (.int y10), .val (.int y11), .val (.int y12), .val (.int (3 : Int32)), .val (.int (y2 &&& (7 : Int32))), .val (.int (3 : Int32)), .val (.int (1 : Int32)), .val (.int (1 : Int32)), .val (.int (1 : Int32)), .val (.int (1 : Int32))]) at_306 rfl 308 rfl ?_
  refine z_iload C at_308 rfl 310 rfl ?_
  refine z_ifN C at_310 (by decide) 313 rfl ?_
  refine z_aload C at_313 rfl rfl 315 rfl ?_
  refine z_getO C (z_w hw 266 rfl) Via.refl o_p1_4 2 rfl rfl at_315 318 rfl ?_
  refine z_iconst C (v := (0 : Int32)) at_318 (by decide) 319 rfl ?_
  refine z_baload C o_p3_4 (by decide) TT.2.2.2.2.2.2.2.2.2.2.2.2.2.2.2.2.2.2.1 at_319 320 rfl ?_
  refine z_ifN C at_320 (by decide) 323 rfl ?_
  refine z_aload C at_323 rfl rfl 325 rfl ?_
  refine z_getO C (z_w hw 266 rfl) Via.refl o_p1_4 2 rfl rfl at_325 328 rfl ?_
  refine z_iconst C (v := (1 : Int32)) at_328 (by decide) 329 rfl ?_
  refine z_baload C o_p3_4 (by decide) TT.2.2.2.2.2.2.2.2.2.2.2.2.2.2.2.2.2.2.2 at_329 330 rfl ?_
  refine z_ifN C at_330 (by decide) 333 rfl ?_
  refine z_iconst C (v := (1 : Int32)) at_333 (by decide) 334 rfl ?_
  refine z_goto C at_334 (by decide) 338 (by decide) ?_
  refine z_istore C (Ls' := #[.val (.int y0), .val (.int y1), .val (.int y2), .val (.int y3), .val (.ref p0), .val (.ref p1), .val (.int y4), .val (.int y5), .val (.int y6), .val (.int y7), .val (.int y8), .val (.int y9), .val (.int y10), .val (.int y11), .val (.int y12), .val (.int (3 : Int32)), .val (.int (y2 &&& (7 : Int32))), .val (.int (3 : Int32)), .val (.int (1 : Int32)), .val (.int (1 : Int32)), .val (.int (1 : Int32)), .val (.int (1 : Int32))]) at_338 rfl 340 rfl ?_
  refine z_iload C at_340 rfl 342 rfl ?_
  refine z_ifN C at_342 (by decide) 345 rfl ?_
  refine z_iload C at_345 rfl 347 rfl ?_
  refine z_ifN C at_347 (by decide) 350 rfl ?_
  refine z_aload C at_350 rfl rfl 352 rfl ?_
  refine z_getO C (z_w hw 272 rfl) Via.refl o_p1_4 3 rfl rfl at_352 355 rfl ?_
  refine z_iconst C (v := (0 : Int32)) at_355 (by decide) 356 rfl ?_
  have o_p4_4 := (o_p4_3.keep K4 (ninS (Ne.symm ne_p1_p4) nin0))
  refine z_iaload C o_p4_4 (by decide) (v := (.int y10)) (by rfl) at_356 357 rfl ?_
  refine z_iload C at_357 rfl 359 rfl ?_
  refine z_icmpN C at_359 (teq rfl).2 362 rfl ?_
  refine z_iconst C (v := (1 : Int32)) at_362 (by decide) 363 rfl ?_
  refine z_goto C at_363 (by decide) 367 (by decide) ?_
  refine z_istore C (Ls' := #[.val (.int y0), .val (.int y1), .val (.int y2), .val (.int y3), .val (.ref p0), .val (.ref p1), .val (.int y4), .val (.int y5), .val (.int y6), .val (.int y7), .val (.int y8), .val (.int y9), .val (.int y10), .val (.int y11), .val (.int y12), .val (.int (3 : Int32)), .val (.int (y2 &&& (7 : Int32))), .val (.int (3 : Int32)), .val (.int (1 : Int32)), .val (.int (1 : Int32)), .val (.int (1 : Int32)), .val (.int (1 : Int32))]) at_367 rfl 369 rfl ?_
  refine z_iload C at_369 rfl 371 rfl ?_
  refine z_ifN C at_371 (by decide) 374 rfl ?_
  refine z_iload C at_374 rfl 376 rfl ?_
  refine z_ifN C at_376 (by decide) 379 rfl ?_
  refine z_aload C at_379 rfl rfl 381 rfl ?_
  refine z_getO C (z_w hw 272 rfl) Via.refl o_p1_4 3 rfl rfl at_381 384 rfl ?_
  refine z_iconst C (v := (1 : Int32)) at_384 (by decide) 385 rfl ?_
  refine z_iaload C o_p4_4 (by decide) (v := (.int y11)) (by rfl) at_385 386 rfl ?_
  refine z_iload C at_386 rfl 388 rfl ?_
  refine z_icmpN C at_388 (teq rfl).2 391 rfl ?_
  refine z_iconst C (v := (1 : Int32)) at_391 (by decide) 392 rfl ?_
  refine z_goto C at_392 (by decide) 396 (by decide) ?_
  refine z_istore C (Ls' := #[.val (.int y0), .val (.int y1), .val (.int y2), .val (.int y3), .val (.ref p0), .val (.ref p1), .val (.int y4), .val (.int y5), .val (.int y6), .val (.int y7), .val (.int y8), .val (.int y9), .val (.int y10), .val (.int y11), .val (.int y12), .val (.int (3 : Int32)), .val (.int (y2 &&& (7 : Int32))), .val (.int (3 : Int32)), .val (.int (1 : Int32)), .val (.int (1 : Int32)), .val (.int (1 : Int32)), .val (.int (1 : Int32))]) at_396 rfl 398 rfl ?_
  refine z_iload C at_398 rfl 400 rfl ?_
  refine z_ifN C at_400 (by decide) 403 rfl ?_
  refine z_iload C at_403 rfl 405 rfl ?_
  refine z_ifN C at_405 (by decide) 408 rfl ?_
  refine z_aload C at_408 rfl rfl 410 rfl ?_
  refine z_getO C (z_w hw 272 rfl) Via.refl o_p1_4 3 rfl rfl at_410 413 rfl ?_
  refine z_iconst C (v := (2 : Int32)) at_413 (by decide) 414 rfl ?_
  refine z_iaload C o_p4_4 (by decide) (v := (.int y12)) (by rfl) at_414 415 rfl ?_
  refine z_iload C at_415 rfl 417 rfl ?_
  refine z_icmpN C at_417 (teq rfl).2 420 rfl ?_
  refine z_iconst C (v := (1 : Int32)) at_420 (by decide) 421 rfl ?_
  refine z_goto C at_421 (by decide) 425 (by decide) ?_
  refine z_istore C (Ls' := #[.val (.int y0), .val (.int y1), .val (.int y2), .val (.int y3), .val (.ref p0), .val (.ref p1), .val (.int y4), .val (.int y5), .val (.int y6), .val (.int y7), .val (.int y8), .val (.int y9), .val (.int y10), .val (.int y11), .val (.int y12), .val (.int (3 : Int32)), .val (.int (y2 &&& (7 : Int32))), .val (.int (3 : Int32)), .val (.int (1 : Int32)), .val (.int (1 : Int32)), .val (.int (1 : Int32)), .val (.int (1 : Int32))]) at_425 rfl 427 rfl ?_
  refine z_iload C at_427 rfl 429 rfl ?_
  exact z_ireturn C (by simp) rfl at_429 (by decide) (by decide) rfl
set_option maxHeartbeats 16000000 in
theorem z_law (l : Launch) {Z : State} {a0 : Array Value} (hw : ∀ d ∈ tables_1, d.before a0 Z = true) {n0 : Nat} {h : Heap} {a_DEF a_ONE a_NONE : Nat} (S : z_St Z a_DEF a_ONE a_NONE) (z0 : n0 ≤ h.size) (old : Old Z n0 h) (x0 x1 x2 x3 : Int32) :
    z_Met l Z x code maxLocals ret tables_1 room_1 n0 #[(.int x0), (.int x1), (.int x2), (.int x3)] h (fun v _ => v = some (.int 1)) := by
  obtain ⟨u0, hu⟩ := z_bit x3
  obtain ⟨v0, hv⟩ := z_bit (x3 >>> ((1 : Int32) &&& 31))
  obtain ⟨w0, hz⟩ := z_bit (x3 >>> ((2 : Int32) &&& 31))
  refine z_met (Ls := #[.val (.int x0), .val (.int x1), .val (.int x2), .val (.int x3), .unset, .unset, .unset, .unset, .unset, .unset, .unset, .unset, .unset, .unset, .unset, .unset, .unset, .unset, .unset, .unset, .unset, .unset]) (by first | exact plainFor_of_name (by first | (simp [x, plainName, overriddenIn]; done) | decide +kernel) | decide +kernel) rfl ?_
  intro p e s m below meth c C
  refine z_newO C (z_w hw 0 rfl) (z_w hw 1 rfl) (z_w hw 2 rfl) (z_lay0_ok hw) z_lay0_df at_0 (by decide) (by decide) 3 rfl ?_
  intro h1 b1 g1 E1 o_b1
  have s1 : h.size ≤ h1.size := E1.1
  have t1 := o_b1.lt
  refine z_dup C at_3 rfl 4 rfl ?_
  have old1 := (old.ext E1)
  refine z_callI C rfl (z_c1_6 l hw S (by omega) old1 b1 o_b1 (by omega)) (z_w hw 3 rfl) (z_w hw 4 rfl) (z_w hw 2 rfl) (z_w hw 5 rfl) (by decide) at_4 rfl (argsL := []) (rest := [(.ref b1)]) rfl (lenOf z_pd0 rfl) (W := 1) (Nat.le_of_eq rfl) (by decide) (by decide) (by decide) (by decide) 7 rfl ?_
  rintro h2 ⟨b2_0, b2_1, b2_2, b2_3, b2_4, b2_5, K2, l2_0, l2_1, l2_2, l2_3, l2_4, l2_5, l2_6, o_b1_2, o_b2_0_2, o_b2_1_2, o_b2_2_2, o_b2_3_2, o_b2_4_2, o_b2_5_2⟩
  have s2 : h1.size ≤ h2.size := K2.1
  refine z_astore C (Ls' := #[.val (.int x0), .val (.int x1), .val (.int x2), .val (.int x3), .val (.ref b1), .unset, .unset, .unset, .unset, .unset, .unset, .unset, .unset, .unset, .unset, .unset, .unset, .unset, .unset, .unset, .unset, .unset]) at_7 rfl rfl 9 rfl ?_
  refine z_aload C at_9 rfl rfl 11 rfl ?_
  have old2 := (old1.keep K2 (allS (by omega) all0))
  refine z_callV C o_b1_2.1 (z_c9_13 l hw S (by omega) old2 b1 b2_0 b2_1 b2_3 b2_4 b2_5 o_b1_2 o_b2_3_2 o_b2_4_2 (by omega : (b1 : Nat) ≠ b2_3) (by omega : (b2_3 : Nat) ≠ b2_4) (by omega : (b1 : Nat) ≠ b2_4) (by omega) (by omega)) (z_w hw 65 rfl) (z_w hw 66 rfl) (z_w hw 68 rfl) (z_w hw 67 rfl) (z_w hw 2 rfl) (z_w hw 69 rfl) (by decide) at_11 rfl (argsL := []) (rest := []) rfl (lenOf z_pd8 rfl) (W := 0) (Nat.le_of_eq rfl) (by decide) (by decide) (by decide) (by decide) 14 rfl ?_
  rintro _ h3 ⟨b3_0, b3_1, rfl, K3, l3_0, l3_1, l3_2, o_b2_3_3, o_b2_4_3, o_b3_0_3, o_b3_1_3⟩
  have s3 : h2.size ≤ h3.size := K3.1
  refine z_pop C at_14 rfl 15 rfl ?_
  refine z_aload C at_15 rfl rfl 17 rfl ?_
  have o_b1_3 := (o_b1_2.keep K3 (ninS (by omega : (b1 : Nat) ≠ b2_3) (ninS (by omega : (b1 : Nat) ≠ b2_4) nin0)))
  have old3 := (old2.keep K3 (allS (by omega) (allS (by omega) all0)))
  refine z_callV C o_b1_3.1 (z_c9_17 l hw S (by omega) old3 b1 b2_0 b2_1 b2_3 b2_4 b2_5 b3_0 b3_1 o_b1_3 o_b2_3_3 o_b3_0_3 o_b2_4_3 o_b3_1_3 (by omega : (b2_3 : Nat) ≠ b3_0) (by omega : (b1 : Nat) ≠ b3_0) (by omega : (b1 : Nat) ≠ b2_3) (by omega : (b2_4 : Nat) ≠ b3_0) (by omega : (b2_3 : Nat) ≠ b2_4) (by omega : (b3_0 : Nat) ≠ b3_1) (by omega : (b2_3 : Nat) ≠ b3_1) (by omega : (b2_4 : Nat) ≠ b3_1) (by omega : (b1 : Nat) ≠ b3_1) (by omega : (b1 : Nat) ≠ b2_4) (by omega) (by omega) (by omega) (by omega)) (z_w hw 65 rfl) (z_w hw 66 rfl) (z_w hw 68 rfl) (z_w hw 67 rfl) (z_w hw 2 rfl) (z_w hw 69 rfl) (by decide) at_17 rfl (argsL := []) (rest := []) rfl (lenOf z_pd8 rfl) (W := 0) (Nat.le_of_eq rfl) (by decide) (by decide) (by decide) (by decide) 20 rfl ?_
  rintro _ h4 ⟨rfl, K4, o_b2_3_4, o_b3_0_4, o_b2_4_4, o_b3_1_4⟩
  have s4 : h3.size ≤ h4.size := K4.1
  refine z_pop C at_20 rfl 21 rfl ?_
  refine z_aload C at_21 rfl rfl 23 rfl ?_
  have o_b1_4 := (o_b1_3.keep K4 (ninS (by omega : (b1 : Nat) ≠ b3_0) (ninS (by omega : (b1 : Nat) ≠ b2_3) (ninS (by omega : (b1 : Nat) ≠ b3_1) (ninS (by omega : (b1 : Nat) ≠ b2_4) nin0)))))
  have old4 := (old3.keep K4 (allS (by omega) (allS (by omega) (allS (by omega) (allS (by omega) all0)))))
  refine z_callV C o_b1_4.1 (z_c9_21 l hw S (by omega) old4 b1 b2_0 b2_1 b2_3 b2_4 b2_5 b3_0 b3_1 o_b1_4 o_b2_3_4 o_b3_0_4 o_b2_4_4 o_b3_1_4 (by omega : (b2_3 : Nat) ≠ b3_0) (by omega : (b1 : Nat) ≠ b3_0) (by omega : (b1 : Nat) ≠ b2_3) (by omega : (b2_4 : Nat) ≠ b3_0) (by omega : (b2_3 : Nat) ≠ b2_4) (by omega : (b3_0 : Nat) ≠ b3_1) (by omega : (b2_3 : Nat) ≠ b3_1) (by omega : (b2_4 : Nat) ≠ b3_1) (by omega : (b1 : Nat) ≠ b3_1) (by omega : (b1 : Nat) ≠ b2_4) (by omega) (by omega) (by omega) (by omega)) (z_w hw 65 rfl) (z_w hw 66 rfl) (z_w hw 68 rfl) (z_w hw 67 rfl) (z_w hw 2 rfl) (z_w hw 69 rfl) (by decide) at_23 rfl (argsL := []) (rest := []) rfl (lenOf z_pd8 rfl) (W := 0) (Nat.le_of_eq rfl) (by decide) (by decide) (by decide) (by decide) 26 rfl ?_
  rintro _ h5 ⟨rfl, K5, o_b2_3_5, o_b3_0_5, o_b2_4_5, o_b3_1_5⟩
  have s5 : h4.size ≤ h5.size := K5.1
  refine z_pop C at_26 rfl 27 rfl ?_
  refine z_newO C (z_w hw 115 rfl) (z_w hw 116 rfl) (z_w hw 117 rfl) (z_lay3_ok hw) z_lay3_df at_27 (by decide) (by decide) 30 rfl ?_
  intro h6 b6 g6 E6 o_b6
  have s6 : h5.size ≤ h6.size := E6.1
  have t6 := o_b6.lt
  refine z_dup C at_30 rfl 31 rfl ?_
  refine z_aload C at_31 rfl rfl 33 rfl ?_
  have o_b1_6 := ((o_b1_4.keep K5 (ninS (by omega : (b1 : Nat) ≠ b3_0) (ninS (by omega : (b1 : Nat) ≠ b2_3) (ninS (by omega : (b1 : Nat) ≠ b3_1) (ninS (by omega : (b1 : Nat) ≠ b2_4) nin0))))).ext E6)
  have o_b2_3_6 := (o_b2_3_5.ext E6)
  have o_b3_0_6 := (o_b3_0_5.ext E6)
  have o_b2_4_6 := (o_b2_4_5.ext E6)
  have o_b3_1_6 := (o_b3_1_5.ext E6)
  have o_b2_0_6 := ((((o_b2_0_2.keep K3 (ninS (by omega : (b2_0 : Nat) ≠ b2_3) (ninS (by omega : (b2_0 : Nat) ≠ b2_4) nin0))).keep K4 (ninS (by omega : (b2_0 : Nat) ≠ b3_0) (ninS (by omega : (b2_0 : Nat) ≠ b2_3) (ninS (by omega : (b2_0 : Nat) ≠ b3_1) (ninS (by omega : (b2_0 : Nat) ≠ b2_4) nin0))))).keep K5 (ninS (by omega : (b2_0 : Nat) ≠ b3_0) (ninS (by omega : (b2_0 : Nat) ≠ b2_3) (ninS (by omega : (b2_0 : Nat) ≠ b3_1) (ninS (by omega : (b2_0 : Nat) ≠ b2_4) nin0))))).ext E6)
  have old6 := ((old4.keep K5 (allS (by omega) (allS (by omega) (allS (by omega) (allS (by omega) all0))))).ext E6)
  refine z_callI C rfl (z_c16_50 l hw S (by omega) old6 b6 b1 b2_0 b2_1 b2_3 b2_4 b2_5 b3_0 b3_1 o_b1_6 o_b2_3_6 o_b6 o_b3_0_6 o_b2_4_6 o_b3_1_6 o_b2_0_6 (by omega : (b6 : Nat) ≠ b1) (by omega : (b6 : Nat) ≠ b2_3) (by omega : (b6 : Nat) ≠ b3_0) (by omega : (b6 : Nat) ≠ b2_4) (by omega : (b6 : Nat) ≠ b3_1) (by omega : (b6 : Nat) ≠ b2_0) (by omega)) (z_w hw 118 rfl) (z_w hw 119 rfl) (z_w hw 117 rfl) (z_w hw 120 rfl) (by decide) at_33 rfl (argsL := [(.ref b1)]) (rest := [(.ref b6)]) rfl (lenOf z_pd18 rfl) (W := 1) (Nat.le_of_eq rfl) (by decide) (by decide) (by decide) (by decide) 36 rfl ?_
  rintro h7 ⟨b7_0, b7_1, b7_2, b7_3, b7_4, b7_5, b7_6, b7_7, b7_8, b7_9, K7, l7_0, l7_1, l7_2, l7_3, l7_4, l7_5, l7_6, l7_7, l7_8, l7_9, l7_10, o_b6_7, o_b7_0_7, o_b7_1_7, o_b7_2_7, o_b7_3_7, o_b7_4_7, o_b7_5_7, o_b7_6_7, o_b7_7_7, o_b7_8_7, o_b7_9_7⟩
  have s7 : h6.size ≤ h7.size := K7.1
  refine z_astore C (Ls' := #[.val (.int x0), .val (.int x1), .val (.int x2), .val (.int x3), .val (.ref b1), .val (.ref b6), .unset, .unset, .unset, .unset, .unset, .unset, .unset, .unset, .unset, .unset, .unset, .unset, .unset, .unset, .unset, .unset]) at_36 rfl rfl 38 rfl ?_
  rcases z_mod6 x1 with hb | hb | hb | hb | hb | hb
  · refine z_iloadN C at_38 rfl 39 rfl ?_
    refine z_ldc C (z_w hw 244 rfl) at_39 41 rfl ?_
    refine z_iand C at_41 rfl 42 rfl ?_
    refine z_bipush C (v := (6 : Int32)) at_42 (by decide) 44 rfl ?_
    refine z_irem C (z := (0 : Int32)) at_44 (by decide) hb 45 rfl ?_
    refine z_istore C (Ls' := #[.val (.int x0), .val (.int x1), .val (.int x2), .val (.int x3), .val (.ref b1), .val (.ref b6), .val (.int (0 : Int32)), .unset, .unset, .unset, .unset, .unset, .unset, .unset, .unset, .unset, .unset, .unset, .unset, .unset, .unset, .unset]) at_45 rfl 47 rfl ?_
    refine z_iconst C (v := (1 : Int32)) at_47 (by decide) 48 rfl ?_
    refine z_iload C at_48 rfl 50 rfl ?_
    refine z_iconst C (v := (2 : Int32)) at_50 (by decide) 51 rfl ?_
    refine z_idiv C (z := (0 : Int32)) at_51 (by decide) (by decide) 52 rfl ?_
    refine z_iadd C (z := (1 : Int32)) at_52 (by decide) 53 rfl ?_
    refine z_istore C (Ls' := #[.val (.int x0), .val (.int x1), .val (.int x2), .val (.int x3), .val (.ref b1), .val (.ref b6), .val (.int (0 : Int32)), .val (.int (1 : Int32)), .unset, .unset, .unset, .unset, .unset, .unset, .unset, .unset, .unset, .unset, .unset, .unset, .unset, .unset]) at_53 rfl 55 rfl ?_
    refine z_iload C at_55 rfl 57 rfl ?_
    refine z_iconst C (v := (1 : Int32)) at_57 (by decide) 58 rfl ?_
    refine z_icmpN C at_58 (by decide) 61 rfl ?_
    refine z_iconst C (v := (2 : Int32)) at_61 (by decide) 62 rfl ?_
    refine z_goto C at_62 (by decide) 66 (by decide) ?_
    refine z_istore C (Ls' := #[.val (.int x0), .val (.int x1), .val (.int x2), .val (.int x3), .val (.ref b1), .val (.ref b6), .val (.int (0 : Int32)), .val (.int (1 : Int32)), .val (.int (2 : Int32)), .unset, .unset, .unset, .unset, .unset, .unset, .unset, .unset, .unset, .unset, .unset, .unset, .unset]) at_66 rfl 68 rfl ?_
    refine z_iload C at_68 rfl 70 rfl ?_
    refine z_iconst C (v := (3 : Int32)) at_70 (by decide) 71 rfl ?_
    refine z_icmpY C at_71 (by decide) (by decide) 78 (by decide) ?_
    refine z_iconst C (v := (3 : Int32)) at_78 (by decide) 79 rfl ?_
    refine z_istore C (Ls' := #[.val (.int x0), .val (.int x1), .val (.int x2), .val (.int x3), .val (.ref b1), .val (.ref b6), .val (.int (0 : Int32)), .val (.int (1 : Int32)), .val (.int (2 : Int32)), .val (.int (3 : Int32)), .unset, .unset, .unset, .unset, .unset, .unset, .unset, .unset, .unset, .unset, .unset, .unset]) at_79 rfl 81 rfl ?_
    refine z_iload C at_81 rfl 83 rfl ?_
    refine z_istore C (Ls' := #[.val (.int x0), .val (.int x1), .val (.int x2), .val (.int x3), .val (.ref b1), .val (.ref b6), .val (.int (0 : Int32)), .val (.int (1 : Int32)), .val (.int (2 : Int32)), .val (.int (3 : Int32)), .val (.int (2 : Int32)), .unset, .unset, .unset, .unset, .unset, .unset, .unset, .unset, .unset, .unset, .unset]) at_83 rfl 85 rfl ?_
    refine z_iload C at_85 rfl 87 rfl ?_
    refine z_istore C (Ls' := #[.val (.int x0), .val (.int x1), .val (.int x2), .val (.int x3), .val (.ref b1), .val (.ref b6), .val (.int (0 : Int32)), .val (.int (1 : Int32)), .val (.int (2 : Int32)), .val (.int (3 : Int32)), .val (.int (2 : Int32)), .val (.int (3 : Int32)), .unset, .unset, .unset, .unset, .unset, .unset, .unset, .unset, .unset, .unset]) at_87 rfl 89 rfl ?_
    refine z_iload C at_89 rfl 91 rfl ?_
    refine z_iconst C (v := (2 : Int32)) at_91 (by decide) 92 rfl ?_
    refine z_irem C (z := (0 : Int32)) at_92 (by decide) (by decide) 93 rfl ?_
    refine z_iconst C (v := (1 : Int32)) at_93 (by decide) 94 rfl ?_
    refine z_icmpY C at_94 (by decide) (by decide) 105 (by decide) ?_
    refine z_iconst C (v := (2 : Int32)) at_105 (by decide) 106 rfl ?_
    refine z_iload C at_106 rfl 108 rfl ?_
    refine z_imul C (z := (2 : Int32)) at_108 (by decide) 109 rfl ?_
    refine z_iloadN C at_109 rfl 110 rfl ?_
    refine z_iconst C (v := (1 : Int32)) at_110 (by decide) 111 rfl ?_
    refine z_iand C at_111 rfl 112 rfl ?_
    refine z_iadd C (z := (z_L0 0 u0)) at_112 (by rw [hu]; clear hu; revert u0; decide +kernel) 113 rfl ?_
    refine z_istore C (Ls' := #[.val (.int x0), .val (.int x1), .val (.int x2), .val (.int x3), .val (.ref b1), .val (.ref b6), .val (.int (0 : Int32)), .val (.int (1 : Int32)), .val (.int (2 : Int32)), .val (.int (3 : Int32)), .val (.int (2 : Int32)), .val (.int (3 : Int32)), .val (.int (z_L0 0 u0)), .unset, .unset, .unset, .unset, .unset, .unset, .unset, .unset, .unset]) at_113 rfl 115 rfl ?_
    refine z_iconst C (v := (2 : Int32)) at_115 (by decide) 116 rfl ?_
    refine z_iload C at_116 rfl 118 rfl ?_
    refine z_imul C (z := (4 : Int32)) at_118 (by decide) 119 rfl ?_
    refine z_iloadN C at_119 rfl 120 rfl ?_
    refine z_iconst C (v := (1 : Int32)) at_120 (by decide) 121 rfl ?_
    refine z_ishr C at_121 rfl 122 rfl ?_
    refine z_iconst C (v := (1 : Int32)) at_122 (by decide) 123 rfl ?_
    refine z_iand C at_123 rfl 124 rfl ?_
    refine z_iadd C (z := (z_L1 0 v0)) at_124 (by rw [hv]; clear hv; revert v0; decide +kernel) 125 rfl ?_
    refine z_istore C (Ls' := #[.val (.int x0), .val (.int x1), .val (.int x2), .val (.int x3), .val (.ref b1), .val (.ref b6), .val (.int (0 : Int32)), .val (.int (1 : Int32)), .val (.int (2 : Int32)), .val (.int (3 : Int32)), .val (.int (2 : Int32)), .val (.int (3 : Int32)), .val (.int (z_L0 0 u0)), .val (.int (z_L1 0 v0)), .unset, .unset, .unset, .unset, .unset, .unset, .unset, .unset]) at_125 rfl 127 rfl ?_
    refine z_iconst C (v := (2 : Int32)) at_127 (by decide) 128 rfl ?_
    refine z_iload C at_128 rfl 130 rfl ?_
    refine z_imul C (z := (6 : Int32)) at_130 (by decide) 131 rfl ?_
    refine z_iloadN C at_131 rfl 132 rfl ?_
    refine z_iconst C (v := (2 : Int32)) at_132 (by decide) 133 rfl ?_
    refine z_ishr C at_133 rfl 134 rfl ?_
    refine z_iconst C (v := (1 : Int32)) at_134 (by decide) 135 rfl ?_
    refine z_iand C at_135 rfl 136 rfl ?_
    refine z_iadd C (z := (z_L2 0 w0)) at_136 (by rw [hz]; clear hz; revert w0; decide +kernel) 137 rfl ?_
    refine z_istore C (Ls' := #[.val (.int x0), .val (.int x1), .val (.int x2), .val (.int x3), .val (.ref b1), .val (.ref b6), .val (.int (0 : Int32)), .val (.int (1 : Int32)), .val (.int (2 : Int32)), .val (.int (3 : Int32)), .val (.int (2 : Int32)), .val (.int (3 : Int32)), .val (.int (z_L0 0 u0)), .val (.int (z_L1 0 v0)), .val (.int (z_L2 0 w0)), .unset, .unset, .unset, .unset, .unset, .unset, .unset]) at_137 rfl 139 rfl ?_
    have old7 := (old6.keep K7 (allS (by omega) all0))
    rcases z_and3 x0 with hn | hn | hn | hn
    · have hm : ¬ (x2 &&& (7 : Int32)) < (0 : Int32) := z_mk0 x2
      exact z_seg55 l hw S (by omega) old7 (x0) (x1) (x2) (x3) ((0 : Int32) ) ((1 : Int32)  ) ((2 : Int32)   ) ((3 : Int32)    ) ((2 : Int32)     ) ((3 : Int32)      ) ((z_L0 0 u0)) ((z_L1 0 v0)) ((z_L2 0 w0)) b1 b6 b7_0 b7_1 b7_2 b7_3 b7_4 b7_5 b7_6 b7_7 b7_8 b7_9 o_b6_7 o_b7_1_7 (by omega : (b6 : Nat) ≠ b7_1) (by omega) (z_T0_0 0 u0 v0 w0) hn hm C
    · rcases z_mk1 x2 with hm | hm
      · exact z_seg61 l hw S (by omega) old7 (x0) (x1) (x2) (x3) ((0 : Int32) ) ((1 : Int32)  ) ((2 : Int32)   ) ((3 : Int32)    ) ((2 : Int32)     ) ((3 : Int32)      ) ((z_L0 0 u0)) ((z_L1 0 v0)) ((z_L2 0 w0)) b1 b6 b7_0 b7_1 b7_2 b7_3 b7_4 b7_5 b7_6 b7_7 b7_8 b7_9 o_b6_7 o_b7_1_7 o_b7_2_7 (by omega : (b6 : Nat) ≠ b7_1) (by omega : (b7_1 : Nat) ≠ b7_2) (by omega : (b6 : Nat) ≠ b7_2) (by omega) (by omega) (by omega) (z_T1_0 0 u0 v0 w0) hn hm C
      · exact z_seg67 l hw S (by omega) old7 (x0) (x1) (x2) (x3) ((0 : Int32) ) ((1 : Int32)  ) ((2 : Int32)   ) ((3 : Int32)    ) ((2 : Int32)     ) ((3 : Int32)      ) ((z_L0 0 u0)) ((z_L1 0 v0)) ((z_L2 0 w0)) b1 b6 b7_0 b7_1 b7_2 b7_3 b7_4 b7_5 b7_6 b7_7 b7_8 b7_9 o_b6_7 o_b7_1_7 o_b7_2_7 (by omega : (b6 : Nat) ≠ b7_1) (by omega : (b7_1 : Nat) ≠ b7_2) (by omega : (b6 : Nat) ≠ b7_2) (by omega) (by omega) (by omega) (z_T1_1 0 u0 v0 w0) hn hm C
    · rcases z_mk2 x2 with hm | hm | hm
      · exact z_seg71 l hw S (by omega) old7 (x0) (x1) (x2) (x3) ((0 : Int32) ) ((1 : Int32)  ) ((2 : Int32)   ) ((3 : Int32)    ) ((2 : Int32)     ) ((3 : Int32)      ) ((z_L0 0 u0)) ((z_L1 0 v0)) ((z_L2 0 w0)) b1 b6 b7_0 b7_1 b7_2 b7_3 b7_4 b7_5 b7_6 b7_7 b7_8 b7_9 o_b6_7 o_b7_1_7 o_b7_2_7 (by omega : (b6 : Nat) ≠ b7_1) (by omega : (b7_1 : Nat) ≠ b7_2) (by omega : (b6 : Nat) ≠ b7_2) (by omega) (by omega) (by omega) (z_T2_0 0 u0 v0 w0) hn hm C
      · exact z_seg77 l hw S (by omega) old7 (x0) (x1) (x2) (x3) ((0 : Int32) ) ((1 : Int32)  ) ((2 : Int32)   ) ((3 : Int32)    ) ((2 : Int32)     ) ((3 : Int32)      ) ((z_L0 0 u0)) ((z_L1 0 v0)) ((z_L2 0 w0)) b1 b6 b7_0 b7_1 b7_2 b7_3 b7_4 b7_5 b7_6 b7_7 b7_8 b7_9 o_b6_7 o_b7_1_7 o_b7_2_7 (by omega : (b6 : Nat) ≠ b7_1) (by omega : (b7_1 : Nat) ≠ b7_2) (by omega : (b6 : Nat) ≠ b7_2) (by omega) (by omega) (by omega) (z_T2_1 0 u0 v0 w0) hn hm C
      · exact z_seg83 l hw S (by omega) old7 (x0) (x1) (x2) (x3) ((0 : Int32) ) ((1 : Int32)  ) ((2 : Int32)   ) ((3 : Int32)    ) ((2 : Int32)     ) ((3 : Int32)      ) ((z_L0 0 u0)) ((z_L1 0 v0)) ((z_L2 0 w0)) b1 b6 b7_0 b7_1 b7_2 b7_3 b7_4 b7_5 b7_6 b7_7 b7_8 b7_9 o_b6_7 o_b7_1_7 o_b7_2_7 (by omega : (b6 : Nat) ≠ b7_1) (by omega : (b7_1 : Nat) ≠ b7_2) (by omega : (b6 : Nat) ≠ b7_2) (by omega) (by omega) (by omega) (z_T2_2 0 u0 v0 w0) hn hm C
    · rcases z_mk3 x2 with hm | hm | hm | hm
      · exact z_seg87 l hw S (by omega) old7 (x0) (x1) (x2) (x3) ((0 : Int32) ) ((1 : Int32)  ) ((2 : Int32)   ) ((3 : Int32)    ) ((2 : Int32)     ) ((3 : Int32)      ) ((z_L0 0 u0)) ((z_L1 0 v0)) ((z_L2 0 w0)) b1 b6 b7_0 b7_1 b7_2 b7_3 b7_4 b7_5 b7_6 b7_7 b7_8 b7_9 o_b6_7 o_b7_1_7 o_b7_2_7 (by omega : (b6 : Nat) ≠ b7_1) (by omega : (b7_1 : Nat) ≠ b7_2) (by omega : (b6 : Nat) ≠ b7_2) (by omega) (by omega) (by omega) (z_T3_0 0 u0 v0 w0) hn hm C
      · exact z_seg90 l hw S (by omega) old7 (x0) (x1) (x2) (x3) ((0 : Int32) ) ((1 : Int32)  ) ((2 : Int32)   ) ((3 : Int32)    ) ((2 : Int32)     ) ((3 : Int32)      ) ((z_L0 0 u0)) ((z_L1 0 v0)) ((z_L2 0 w0)) b1 b6 b7_0 b7_1 b7_2 b7_3 b7_4 b7_5 b7_6 b7_7 b7_8 b7_9 o_b6_7 o_b7_1_7 o_b7_2_7 (by omega : (b6 : Nat) ≠ b7_1) (by omega : (b7_1 : Nat) ≠ b7_2) (by omega : (b6 : Nat) ≠ b7_2) (by omega) (by omega) (by omega) (z_T3_1 0 u0 v0 w0) hn hm C
      · exact z_seg96 l hw S (by omega) old7 (x0) (x1) (x2) (x3) ((0 : Int32) ) ((1 : Int32)  ) ((2 : Int32)   ) ((3 : Int32)    ) ((2 : Int32)     ) ((3 : Int32)      ) ((z_L0 0 u0)) ((z_L1 0 v0)) ((z_L2 0 w0)) b1 b6 b7_0 b7_1 b7_2 b7_3 b7_4 b7_5 b7_6 b7_7 b7_8 b7_9 o_b6_7 o_b7_1_7 o_b7_2_7 (by omega : (b6 : Nat) ≠ b7_1) (by omega : (b7_1 : Nat) ≠ b7_2) (by omega : (b6 : Nat) ≠ b7_2) (by omega) (by omega) (by omega) (z_T3_2 0 u0 v0 w0) hn hm C
      · exact z_seg101 l hw S (by omega) old7 (x0) (x1) (x2) (x3) ((0 : Int32) ) ((1 : Int32)  ) ((2 : Int32)   ) ((3 : Int32)    ) ((2 : Int32)     ) ((3 : Int32)      ) ((z_L0 0 u0)) ((z_L1 0 v0)) ((z_L2 0 w0)) b1 b6 b7_0 b7_1 b7_2 b7_3 b7_4 b7_5 b7_6 b7_7 b7_8 b7_9 o_b6_7 o_b7_1_7 o_b7_2_7 (by omega : (b6 : Nat) ≠ b7_1) (by omega : (b7_1 : Nat) ≠ b7_2) (by omega : (b6 : Nat) ≠ b7_2) (by omega) (by omega) (by omega) (z_T3_3 0 u0 v0 w0) hn hm C
  · refine z_iloadN C at_38 rfl 39 rfl ?_
    refine z_ldc C (z_w hw 244 rfl) at_39 41 rfl ?_
    refine z_iand C at_41 rfl 42 rfl ?_
    refine z_bipush C (v := (6 : Int32)) at_42 (by decide) 44 rfl ?_
    refine z_irem C (z := (1 : Int32)) at_44 (by decide) hb 45 rfl ?_
    refine z_istore C (Ls' := #[.val (.int x0), .val (.int x1), .val (.int x2), .val (.int x3), .val (.ref b1), .val (.ref b6), .val (.int (1 : Int32)), .unset, .unset, .unset, .unset, .unset, .unset, .unset, .unset, .unset, .unset, .unset, .unset, .unset, .unset, .unset]) at_45 rfl 47 rfl ?_
    refine z_iconst C (v := (1 : Int32)) at_47 (by decide) 48 rfl ?_
    refine z_iload C at_48 rfl 50 rfl ?_
    refine z_iconst C (v := (2 : Int32)) at_50 (by decide) 51 rfl ?_
    refine z_idiv C (z := (0 : Int32)) at_51 (by decide) (by decide) 52 rfl ?_
    refine z_iadd C (z := (1 : Int32)) at_52 (by decide) 53 rfl ?_
    refine z_istore C (Ls' := #[.val (.int x0), .val (.int x1), .val (.int x2), .val (.int x3), .val (.ref b1), .val (.ref b6), .val (.int (1 : Int32)), .val (.int (1 : Int32)), .unset, .unset, .unset, .unset, .unset, .unset, .unset, .unset, .unset, .unset, .unset, .unset, .unset, .unset]) at_53 rfl 55 rfl ?_
    refine z_iload C at_55 rfl 57 rfl ?_
    refine z_iconst C (v := (1 : Int32)) at_57 (by decide) 58 rfl ?_
    refine z_icmpN C at_58 (by decide) 61 rfl ?_
    refine z_iconst C (v := (2 : Int32)) at_61 (by decide) 62 rfl ?_
    refine z_goto C at_62 (by decide) 66 (by decide) ?_
    refine z_istore C (Ls' := #[.val (.int x0), .val (.int x1), .val (.int x2), .val (.int x3), .val (.ref b1), .val (.ref b6), .val (.int (1 : Int32)), .val (.int (1 : Int32)), .val (.int (2 : Int32)), .unset, .unset, .unset, .unset, .unset, .unset, .unset, .unset, .unset, .unset, .unset, .unset, .unset]) at_66 rfl 68 rfl ?_
    refine z_iload C at_68 rfl 70 rfl ?_
    refine z_iconst C (v := (3 : Int32)) at_70 (by decide) 71 rfl ?_
    refine z_icmpY C at_71 (by decide) (by decide) 78 (by decide) ?_
    refine z_iconst C (v := (3 : Int32)) at_78 (by decide) 79 rfl ?_
    refine z_istore C (Ls' := #[.val (.int x0), .val (.int x1), .val (.int x2), .val (.int x3), .val (.ref b1), .val (.ref b6), .val (.int (1 : Int32)), .val (.int (1 : Int32)), .val (.int (2 : Int32)), .val (.int (3 : Int32)), .unset, .unset, .unset, .unset, .unset, .unset, .unset, .unset, .unset, .unset, .unset, .unset]) at_79 rfl 81 rfl ?_
    refine z_iload C at_81 rfl 83 rfl ?_
    refine z_istore C (Ls' := #[.val (.int x0), .val (.int x1), .val (.int x2), .val (.int x3), .val (.ref b1), .val (.ref b6), .val (.int (1 : Int32)), .val (.int (1 : Int32)), .val (.int (2 : Int32)), .val (.int (3 : Int32)), .val (.int (2 : Int32)), .unset, .unset, .unset, .unset, .unset, .unset, .unset, .unset, .unset, .unset, .unset]) at_83 rfl 85 rfl ?_
    refine z_iload C at_85 rfl 87 rfl ?_
    refine z_istore C (Ls' := #[.val (.int x0), .val (.int x1), .val (.int x2), .val (.int x3), .val (.ref b1), .val (.ref b6), .val (.int (1 : Int32)), .val (.int (1 : Int32)), .val (.int (2 : Int32)), .val (.int (3 : Int32)), .val (.int (2 : Int32)), .val (.int (3 : Int32)), .unset, .unset, .unset, .unset, .unset, .unset, .unset, .unset, .unset, .unset]) at_87 rfl 89 rfl ?_
    refine z_iload C at_89 rfl 91 rfl ?_
    refine z_iconst C (v := (2 : Int32)) at_91 (by decide) 92 rfl ?_
    refine z_irem C (z := (1 : Int32)) at_92 (by decide) (by decide) 93 rfl ?_
    refine z_iconst C (v := (1 : Int32)) at_93 (by decide) 94 rfl ?_
    refine z_icmpN C at_94 (by decide) 97 rfl ?_
    refine z_iload C at_97 rfl 99 rfl ?_
    refine z_istore C (Ls' := #[.val (.int x0), .val (.int x1), .val (.int x2), .val (.int x3), .val (.ref b1), .val (.ref b6), .val (.int (1 : Int32)), .val (.int (1 : Int32)), .val (.int (2 : Int32)), .val (.int (3 : Int32)), .val (.int (3 : Int32)), .val (.int (3 : Int32)), .unset, .unset, .unset, .unset, .unset, .unset, .unset, .unset, .unset, .unset]) at_99 rfl 101 rfl ?_
    refine z_iload C at_101 rfl 103 rfl ?_
    refine z_istore C (Ls' := #[.val (.int x0), .val (.int x1), .val (.int x2), .val (.int x3), .val (.ref b1), .val (.ref b6), .val (.int (1 : Int32)), .val (.int (1 : Int32)), .val (.int (2 : Int32)), .val (.int (3 : Int32)), .val (.int (3 : Int32)), .val (.int (2 : Int32)), .unset, .unset, .unset, .unset, .unset, .unset, .unset, .unset, .unset, .unset]) at_103 rfl 105 rfl ?_
    refine z_iconst C (v := (2 : Int32)) at_105 (by decide) 106 rfl ?_
    refine z_iload C at_106 rfl 108 rfl ?_
    refine z_imul C (z := (2 : Int32)) at_108 (by decide) 109 rfl ?_
    refine z_iloadN C at_109 rfl 110 rfl ?_
    refine z_iconst C (v := (1 : Int32)) at_110 (by decide) 111 rfl ?_
    refine z_iand C at_111 rfl 112 rfl ?_
    refine z_iadd C (z := (z_L0 1 u0)) at_112 (by rw [hu]; clear hu; revert u0; decide +kernel) 113 rfl ?_
    refine z_istore C (Ls' := #[.val (.int x0), .val (.int x1), .val (.int x2), .val (.int x3), .val (.ref b1), .val (.ref b6), .val (.int (1 : Int32)), .val (.int (1 : Int32)), .val (.int (2 : Int32)), .val (.int (3 : Int32)), .val (.int (3 : Int32)), .val (.int (2 : Int32)), .val (.int (z_L0 1 u0)), .unset, .unset, .unset, .unset, .unset, .unset, .unset, .unset, .unset]) at_113 rfl 115 rfl ?_
    refine z_iconst C (v := (2 : Int32)) at_115 (by decide) 116 rfl ?_
    refine z_iload C at_116 rfl 118 rfl ?_
    refine z_imul C (z := (6 : Int32)) at_118 (by decide) 119 rfl ?_
    refine z_iloadN C at_119 rfl 120 rfl ?_
    refine z_iconst C (v := (1 : Int32)) at_120 (by decide) 121 rfl ?_
    refine z_ishr C at_121 rfl 122 rfl ?_
    refine z_iconst C (v := (1 : Int32)) at_122 (by decide) 123 rfl ?_
    refine z_iand C at_123 rfl 124 rfl ?_
    refine z_iadd C (z := (z_L1 1 v0)) at_124 (by rw [hv]; clear hv; revert v0; decide +kernel) 125 rfl ?_
    refine z_istore C (Ls' := #[.val (.int x0), .val (.int x1), .val (.int x2), .val (.int x3), .val (.ref b1), .val (.ref b6), .val (.int (1 : Int32)), .val (.int (1 : Int32)), .val (.int (2 : Int32)), .val (.int (3 : Int32)), .val (.int (3 : Int32)), .val (.int (2 : Int32)), .val (.int (z_L0 1 u0)), .val (.int (z_L1 1 v0)), .unset, .unset, .unset, .unset, .unset, .unset, .unset, .unset]) at_125 rfl 127 rfl ?_
    refine z_iconst C (v := (2 : Int32)) at_127 (by decide) 128 rfl ?_
    refine z_iload C at_128 rfl 130 rfl ?_
    refine z_imul C (z := (4 : Int32)) at_130 (by decide) 131 rfl ?_
    refine z_iloadN C at_131 rfl 132 rfl ?_
    refine z_iconst C (v := (2 : Int32)) at_132 (by decide) 133 rfl ?_
    refine z_ishr C at_133 rfl 134 rfl ?_
    refine z_iconst C (v := (1 : Int32)) at_134 (by decide) 135 rfl ?_
    refine z_iand C at_135 rfl 136 rfl ?_
    refine z_iadd C (z := (z_L2 1 w0)) at_136 (by rw [hz]; clear hz; revert w0; decide +kernel) 137 rfl ?_
    refine z_istore C (Ls' := #[.val (.int x0), .val (.int x1), .val (.int x2), .val (.int x3), .val (.ref b1), .val (.ref b6), .val (.int (1 : Int32)), .val (.int (1 : Int32)), .val (.int (2 : Int32)), .val (.int (3 : Int32)), .val (.int (3 : Int32)), .val (.int (2 : Int32)), .val (.int (z_L0 1 u0)), .val (.int (z_L1 1 v0)), .val (.int (z_L2 1 w0)), .unset, .unset, .unset, .unset, .unset, .unset, .unset]) at_137 rfl 139 rfl ?_
    have old7 := (old6.keep K7 (allS (by omega) all0))
    rcases z_and3 x0 with hn | hn | hn | hn
    · have hm : ¬ (x2 &&& (7 : Int32)) < (0 : Int32) := z_mk0 x2
      exact z_seg55 l hw S (by omega) old7 (x0) (x1) (x2) (x3) ((1 : Int32) ) ((1 : Int32)  ) ((2 : Int32)   ) ((3 : Int32)    ) ((3 : Int32)     ) ((2 : Int32)      ) ((z_L0 1 u0)) ((z_L1 1 v0)) ((z_L2 1 w0)) b1 b6 b7_0 b7_1 b7_2 b7_3 b7_4 b7_5 b7_6 b7_7 b7_8 b7_9 o_b6_7 o_b7_1_7 (by omega : (b6 : Nat) ≠ b7_1) (by omega) (z_T0_0 1 u0 v0 w0) hn hm C
    · rcases z_mk1 x2 with hm | hm
      · exact z_seg61 l hw S (by omega) old7 (x0) (x1) (x2) (x3) ((1 : Int32) ) ((1 : Int32)  ) ((2 : Int32)   ) ((3 : Int32)    ) ((3 : Int32)     ) ((2 : Int32)      ) ((z_L0 1 u0)) ((z_L1 1 v0)) ((z_L2 1 w0)) b1 b6 b7_0 b7_1 b7_2 b7_3 b7_4 b7_5 b7_6 b7_7 b7_8 b7_9 o_b6_7 o_b7_1_7 o_b7_2_7 (by omega : (b6 : Nat) ≠ b7_1) (by omega : (b7_1 : Nat) ≠ b7_2) (by omega : (b6 : Nat) ≠ b7_2) (by omega) (by omega) (by omega) (z_T1_0 1 u0 v0 w0) hn hm C
      · exact z_seg67 l hw S (by omega) old7 (x0) (x1) (x2) (x3) ((1 : Int32) ) ((1 : Int32)  ) ((2 : Int32)   ) ((3 : Int32)    ) ((3 : Int32)     ) ((2 : Int32)      ) ((z_L0 1 u0)) ((z_L1 1 v0)) ((z_L2 1 w0)) b1 b6 b7_0 b7_1 b7_2 b7_3 b7_4 b7_5 b7_6 b7_7 b7_8 b7_9 o_b6_7 o_b7_1_7 o_b7_2_7 (by omega : (b6 : Nat) ≠ b7_1) (by omega : (b7_1 : Nat) ≠ b7_2) (by omega : (b6 : Nat) ≠ b7_2) (by omega) (by omega) (by omega) (z_T1_1 1 u0 v0 w0) hn hm C
    · rcases z_mk2 x2 with hm | hm | hm
      · exact z_seg71 l hw S (by omega) old7 (x0) (x1) (x2) (x3) ((1 : Int32) ) ((1 : Int32)  ) ((2 : Int32)   ) ((3 : Int32)    ) ((3 : Int32)     ) ((2 : Int32)      ) ((z_L0 1 u0)) ((z_L1 1 v0)) ((z_L2 1 w0)) b1 b6 b7_0 b7_1 b7_2 b7_3 b7_4 b7_5 b7_6 b7_7 b7_8 b7_9 o_b6_7 o_b7_1_7 o_b7_2_7 (by omega : (b6 : Nat) ≠ b7_1) (by omega : (b7_1 : Nat) ≠ b7_2) (by omega : (b6 : Nat) ≠ b7_2) (by omega) (by omega) (by omega) (z_T2_0 1 u0 v0 w0) hn hm C
      · exact z_seg77 l hw S (by omega) old7 (x0) (x1) (x2) (x3) ((1 : Int32) ) ((1 : Int32)  ) ((2 : Int32)   ) ((3 : Int32)    ) ((3 : Int32)     ) ((2 : Int32)      ) ((z_L0 1 u0)) ((z_L1 1 v0)) ((z_L2 1 w0)) b1 b6 b7_0 b7_1 b7_2 b7_3 b7_4 b7_5 b7_6 b7_7 b7_8 b7_9 o_b6_7 o_b7_1_7 o_b7_2_7 (by omega : (b6 : Nat) ≠ b7_1) (by omega : (b7_1 : Nat) ≠ b7_2) (by omega : (b6 : Nat) ≠ b7_2) (by omega) (by omega) (by omega) (z_T2_1 1 u0 v0 w0) hn hm C
      · exact z_seg83 l hw S (by omega) old7 (x0) (x1) (x2) (x3) ((1 : Int32) ) ((1 : Int32)  ) ((2 : Int32)   ) ((3 : Int32)    ) ((3 : Int32)     ) ((2 : Int32)      ) ((z_L0 1 u0)) ((z_L1 1 v0)) ((z_L2 1 w0)) b1 b6 b7_0 b7_1 b7_2 b7_3 b7_4 b7_5 b7_6 b7_7 b7_8 b7_9 o_b6_7 o_b7_1_7 o_b7_2_7 (by omega : (b6 : Nat) ≠ b7_1) (by omega : (b7_1 : Nat) ≠ b7_2) (by omega : (b6 : Nat) ≠ b7_2) (by omega) (by omega) (by omega) (z_T2_2 1 u0 v0 w0) hn hm C
    · rcases z_mk3 x2 with hm | hm | hm | hm
      · exact z_seg87 l hw S (by omega) old7 (x0) (x1) (x2) (x3) ((1 : Int32) ) ((1 : Int32)  ) ((2 : Int32)   ) ((3 : Int32)    ) ((3 : Int32)     ) ((2 : Int32)      ) ((z_L0 1 u0)) ((z_L1 1 v0)) ((z_L2 1 w0)) b1 b6 b7_0 b7_1 b7_2 b7_3 b7_4 b7_5 b7_6 b7_7 b7_8 b7_9 o_b6_7 o_b7_1_7 o_b7_2_7 (by omega : (b6 : Nat) ≠ b7_1) (by omega : (b7_1 : Nat) ≠ b7_2) (by omega : (b6 : Nat) ≠ b7_2) (by omega) (by omega) (by omega) (z_T3_0 1 u0 v0 w0) hn hm C
      · exact z_seg90 l hw S (by omega) old7 (x0) (x1) (x2) (x3) ((1 : Int32) ) ((1 : Int32)  ) ((2 : Int32)   ) ((3 : Int32)    ) ((3 : Int32)     ) ((2 : Int32)      ) ((z_L0 1 u0)) ((z_L1 1 v0)) ((z_L2 1 w0)) b1 b6 b7_0 b7_1 b7_2 b7_3 b7_4 b7_5 b7_6 b7_7 b7_8 b7_9 o_b6_7 o_b7_1_7 o_b7_2_7 (by omega : (b6 : Nat) ≠ b7_1) (by omega : (b7_1 : Nat) ≠ b7_2) (by omega : (b6 : Nat) ≠ b7_2) (by omega) (by omega) (by omega) (z_T3_1 1 u0 v0 w0) hn hm C
      · exact z_seg96 l hw S (by omega) old7 (x0) (x1) (x2) (x3) ((1 : Int32) ) ((1 : Int32)  ) ((2 : Int32)   ) ((3 : Int32)    ) ((3 : Int32)     ) ((2 : Int32)      ) ((z_L0 1 u0)) ((z_L1 1 v0)) ((z_L2 1 w0)) b1 b6 b7_0 b7_1 b7_2 b7_3 b7_4 b7_5 b7_6 b7_7 b7_8 b7_9 o_b6_7 o_b7_1_7 o_b7_2_7 (by omega : (b6 : Nat) ≠ b7_1) (by omega : (b7_1 : Nat) ≠ b7_2) (by omega : (b6 : Nat) ≠ b7_2) (by omega) (by omega) (by omega) (z_T3_2 1 u0 v0 w0) hn hm C
      · exact z_seg101 l hw S (by omega) old7 (x0) (x1) (x2) (x3) ((1 : Int32) ) ((1 : Int32)  ) ((2 : Int32)   ) ((3 : Int32)    ) ((3 : Int32)     ) ((2 : Int32)      ) ((z_L0 1 u0)) ((z_L1 1 v0)) ((z_L2 1 w0)) b1 b6 b7_0 b7_1 b7_2 b7_3 b7_4 b7_5 b7_6 b7_7 b7_8 b7_9 o_b6_7 o_b7_1_7 o_b7_2_7 (by omega : (b6 : Nat) ≠ b7_1) (by omega : (b7_1 : Nat) ≠ b7_2) (by omega : (b6 : Nat) ≠ b7_2) (by omega) (by omega) (by omega) (z_T3_3 1 u0 v0 w0) hn hm C
  · refine z_iloadN C at_38 rfl 39 rfl ?_
    refine z_ldc C (z_w hw 244 rfl) at_39 41 rfl ?_
    refine z_iand C at_41 rfl 42 rfl ?_
    refine z_bipush C (v := (6 : Int32)) at_42 (by decide) 44 rfl ?_
    refine z_irem C (z := (2 : Int32)) at_44 (by decide) hb 45 rfl ?_
    refine z_istore C (Ls' := #[.val (.int x0), .val (.int x1), .val (.int x2), .val (.int x3), .val (.ref b1), .val (.ref b6), .val (.int (2 : Int32)), .unset, .unset, .unset, .unset, .unset, .unset, .unset, .unset, .unset, .unset, .unset, .unset, .unset, .unset, .unset]) at_45 rfl 47 rfl ?_
    refine z_iconst C (v := (1 : Int32)) at_47 (by decide) 48 rfl ?_
    refine z_iload C at_48 rfl 50 rfl ?_
    refine z_iconst C (v := (2 : Int32)) at_50 (by decide) 51 rfl ?_
    refine z_idiv C (z := (1 : Int32)) at_51 (by decide) (by decide) 52 rfl ?_
    refine z_iadd C (z := (2 : Int32)) at_52 (by decide) 53 rfl ?_
    refine z_istore C (Ls' := #[.val (.int x0), .val (.int x1), .val (.int x2), .val (.int x3), .val (.ref b1), .val (.ref b6), .val (.int (2 : Int32)), .val (.int (2 : Int32)), .unset, .unset, .unset, .unset, .unset, .unset, .unset, .unset, .unset, .unset, .unset, .unset, .unset, .unset]) at_53 rfl 55 rfl ?_
    refine z_iload C at_55 rfl 57 rfl ?_
    refine z_iconst C (v := (1 : Int32)) at_57 (by decide) 58 rfl ?_
    refine z_icmpY C at_58 (by decide) (by decide) 65 (by decide) ?_
    refine z_iconst C (v := (1 : Int32)) at_65 (by decide) 66 rfl ?_
    refine z_istore C (Ls' := #[.val (.int x0), .val (.int x1), .val (.int x2), .val (.int x3), .val (.ref b1), .val (.ref b6), .val (.int (2 : Int32)), .val (.int (2 : Int32)), .val (.int (1 : Int32)), .unset, .unset, .unset, .unset, .unset, .unset, .unset, .unset, .unset, .unset, .unset, .unset, .unset]) at_66 rfl 68 rfl ?_
    refine z_iload C at_68 rfl 70 rfl ?_
    refine z_iconst C (v := (3 : Int32)) at_70 (by decide) 71 rfl ?_
    refine z_icmpY C at_71 (by decide) (by decide) 78 (by decide) ?_
    refine z_iconst C (v := (3 : Int32)) at_78 (by decide) 79 rfl ?_
    refine z_istore C (Ls' := #[.val (.int x0), .val (.int x1), .val (.int x2), .val (.int x3), .val (.ref b1), .val (.ref b6), .val (.int (2 : Int32)), .val (.int (2 : Int32)), .val (.int (1 : Int32)), .val (.int (3 : Int32)), .unset, .unset, .unset, .unset, .unset, .unset, .unset, .unset, .unset, .unset, .unset, .unset]) at_79 rfl 81 rfl ?_
    refine z_iload C at_81 rfl 83 rfl ?_
    refine z_istore C (Ls' := #[.val (.int x0), .val (.int x1), .val (.int x2), .val (.int x3), .val (.ref b1), .val (.ref b6), .val (.int (2 : Int32)), .val (.int (2 : Int32)), .val (.int (1 : Int32)), .val (.int (3 : Int32)), .val (.int (1 : Int32)), .unset, .unset, .unset, .unset, .unset, .unset, .unset, .unset, .unset, .unset, .unset]) at_83 rfl 85 rfl ?_
    refine z_iload C at_85 rfl 87 rfl ?_
    refine z_istore C (Ls' := #[.val (.int x0), .val (.int x1), .val (.int x2), .val (.int x3), .val (.ref b1), .val (.ref b6), .val (.int (2 : Int32)), .val (.int (2 : Int32)), .val (.int (1 : Int32)), .val (.int (3 : Int32)), .val (.int (1 : Int32)), .val (.int (3 : Int32)), .unset, .unset, .unset, .unset, .unset, .unset, .unset, .unset, .unset, .unset]) at_87 rfl 89 rfl ?_
    refine z_iload C at_89 rfl 91 rfl ?_
    refine z_iconst C (v := (2 : Int32)) at_91 (by decide) 92 rfl ?_
    refine z_irem C (z := (0 : Int32)) at_92 (by decide) (by decide) 93 rfl ?_
    refine z_iconst C (v := (1 : Int32)) at_93 (by decide) 94 rfl ?_
    refine z_icmpY C at_94 (by decide) (by decide) 105 (by decide) ?_
    refine z_iconst C (v := (2 : Int32)) at_105 (by decide) 106 rfl ?_
    refine z_iload C at_106 rfl 108 rfl ?_
    refine z_imul C (z := (4 : Int32)) at_108 (by decide) 109 rfl ?_
    refine z_iloadN C at_109 rfl 110 rfl ?_
    refine z_iconst C (v := (1 : Int32)) at_110 (by decide) 111 rfl ?_
    refine z_iand C at_111 rfl 112 rfl ?_
    refine z_iadd C (z := (z_L0 2 u0)) at_112 (by rw [hu]; clear hu; revert u0; decide +kernel) 113 rfl ?_
    refine z_istore C (Ls' := #[.val (.int x0), .val (.int x1), .val (.int x2), .val (.int x3), .val (.ref b1), .val (.ref b6), .val (.int (2 : Int32)), .val (.int (2 : Int32)), .val (.int (1 : Int32)), .val (.int (3 : Int32)), .val (.int (1 : Int32)), .val (.int (3 : Int32)), .val (.int (z_L0 2 u0)), .unset, .unset, .unset, .unset, .unset, .unset, .unset, .unset, .unset]) at_113 rfl 115 rfl ?_
    refine z_iconst C (v := (2 : Int32)) at_115 (by decide) 116 rfl ?_
    refine z_iload C at_116 rfl 118 rfl ?_
    refine z_imul C (z := (2 : Int32)) at_118 (by decide) 119 rfl ?_
    refine z_iloadN C at_119 rfl 120 rfl ?_
    refine z_iconst C (v := (1 : Int32)) at_120 (by decide) 121 rfl ?_
    refine z_ishr C at_121 rfl 122 rfl ?_
    refine z_iconst C (v := (1 : Int32)) at_122 (by decide) 123 rfl ?_
    refine z_iand C at_123 rfl 124 rfl ?_
    refine z_iadd C (z := (z_L1 2 v0)) at_124 (by rw [hv]; clear hv; revert v0; decide +kernel) 125 rfl ?_
    refine z_istore C (Ls' := #[.val (.int x0), .val (.int x1), .val (.int x2), .val (.int x3), .val (.ref b1), .val (.ref b6), .val (.int (2 : Int32)), .val (.int (2 : Int32)), .val (.int (1 : Int32)), .val (.int (3 : Int32)), .val (.int (1 : Int32)), .val (.int (3 : Int32)), .val (.int (z_L0 2 u0)), .val (.int (z_L1 2 v0)), .unset, .unset, .unset, .unset, .unset, .unset, .unset, .unset]) at_125 rfl 127 rfl ?_
    refine z_iconst C (v := (2 : Int32)) at_127 (by decide) 128 rfl ?_
    refine z_iload C at_128 rfl 130 rfl ?_
    refine z_imul C (z := (6 : Int32)) at_130 (by decide) 131 rfl ?_
    refine z_iloadN C at_131 rfl 132 rfl ?_
    refine z_iconst C (v := (2 : Int32)) at_132 (by decide) 133 rfl ?_
    refine z_ishr C at_133 rfl 134 rfl ?_
    refine z_iconst C (v := (1 : Int32)) at_134 (by decide) 135 rfl ?_
    refine z_iand C at_135 rfl 136 rfl ?_
    refine z_iadd C (z := (z_L2 2 w0)) at_136 (by rw [hz]; clear hz; revert w0; decide +kernel) 137 rfl ?_
    refine z_istore C (Ls' := #[.val (.int x0), .val (.int x1), .val (.int x2), .val (.int x3), .val (.ref b1), .val (.ref b6), .val (.int (2 : Int32)), .val (.int (2 : Int32)), .val (.int (1 : Int32)), .val (.int (3 : Int32)), .val (.int (1 : Int32)), .val (.int (3 : Int32)), .val (.int (z_L0 2 u0)), .val (.int (z_L1 2 v0)), .val (.int (z_L2 2 w0)), .unset, .unset, .unset, .unset, .unset, .unset, .unset]) at_137 rfl 139 rfl ?_
    have old7 := (old6.keep K7 (allS (by omega) all0))
    rcases z_and3 x0 with hn | hn | hn | hn
    · have hm : ¬ (x2 &&& (7 : Int32)) < (0 : Int32) := z_mk0 x2
      exact z_seg55 l hw S (by omega) old7 (x0) (x1) (x2) (x3) ((2 : Int32) ) ((2 : Int32)  ) ((1 : Int32)   ) ((3 : Int32)    ) ((1 : Int32)     ) ((3 : Int32)      ) ((z_L0 2 u0)) ((z_L1 2 v0)) ((z_L2 2 w0)) b1 b6 b7_0 b7_1 b7_2 b7_3 b7_4 b7_5 b7_6 b7_7 b7_8 b7_9 o_b6_7 o_b7_1_7 (by omega : (b6 : Nat) ≠ b7_1) (by omega) (z_T0_0 2 u0 v0 w0) hn hm C
    · rcases z_mk1 x2 with hm | hm
      · exact z_seg61 l hw S (by omega) old7 (x0) (x1) (x2) (x3) ((2 : Int32) ) ((2 : Int32)  ) ((1 : Int32)   ) ((3 : Int32)    ) ((1 : Int32)     ) ((3 : Int32)      ) ((z_L0 2 u0)) ((z_L1 2 v0)) ((z_L2 2 w0)) b1 b6 b7_0 b7_1 b7_2 b7_3 b7_4 b7_5 b7_6 b7_7 b7_8 b7_9 o_b6_7 o_b7_1_7 o_b7_2_7 (by omega : (b6 : Nat) ≠ b7_1) (by omega : (b7_1 : Nat) ≠ b7_2) (by omega : (b6 : Nat) ≠ b7_2) (by omega) (by omega) (by omega) (z_T1_0 2 u0 v0 w0) hn hm C
      · exact z_seg67 l hw S (by omega) old7 (x0) (x1) (x2) (x3) ((2 : Int32) ) ((2 : Int32)  ) ((1 : Int32)   ) ((3 : Int32)    ) ((1 : Int32)     ) ((3 : Int32)      ) ((z_L0 2 u0)) ((z_L1 2 v0)) ((z_L2 2 w0)) b1 b6 b7_0 b7_1 b7_2 b7_3 b7_4 b7_5 b7_6 b7_7 b7_8 b7_9 o_b6_7 o_b7_1_7 o_b7_2_7 (by omega : (b6 : Nat) ≠ b7_1) (by omega : (b7_1 : Nat) ≠ b7_2) (by omega : (b6 : Nat) ≠ b7_2) (by omega) (by omega) (by omega) (z_T1_1 2 u0 v0 w0) hn hm C
    · rcases z_mk2 x2 with hm | hm | hm
      · exact z_seg71 l hw S (by omega) old7 (x0) (x1) (x2) (x3) ((2 : Int32) ) ((2 : Int32)  ) ((1 : Int32)   ) ((3 : Int32)    ) ((1 : Int32)     ) ((3 : Int32)      ) ((z_L0 2 u0)) ((z_L1 2 v0)) ((z_L2 2 w0)) b1 b6 b7_0 b7_1 b7_2 b7_3 b7_4 b7_5 b7_6 b7_7 b7_8 b7_9 o_b6_7 o_b7_1_7 o_b7_2_7 (by omega : (b6 : Nat) ≠ b7_1) (by omega : (b7_1 : Nat) ≠ b7_2) (by omega : (b6 : Nat) ≠ b7_2) (by omega) (by omega) (by omega) (z_T2_0 2 u0 v0 w0) hn hm C
      · exact z_seg77 l hw S (by omega) old7 (x0) (x1) (x2) (x3) ((2 : Int32) ) ((2 : Int32)  ) ((1 : Int32)   ) ((3 : Int32)    ) ((1 : Int32)     ) ((3 : Int32)      ) ((z_L0 2 u0)) ((z_L1 2 v0)) ((z_L2 2 w0)) b1 b6 b7_0 b7_1 b7_2 b7_3 b7_4 b7_5 b7_6 b7_7 b7_8 b7_9 o_b6_7 o_b7_1_7 o_b7_2_7 (by omega : (b6 : Nat) ≠ b7_1) (by omega : (b7_1 : Nat) ≠ b7_2) (by omega : (b6 : Nat) ≠ b7_2) (by omega) (by omega) (by omega) (z_T2_1 2 u0 v0 w0) hn hm C
      · exact z_seg83 l hw S (by omega) old7 (x0) (x1) (x2) (x3) ((2 : Int32) ) ((2 : Int32)  ) ((1 : Int32)   ) ((3 : Int32)    ) ((1 : Int32)     ) ((3 : Int32)      ) ((z_L0 2 u0)) ((z_L1 2 v0)) ((z_L2 2 w0)) b1 b6 b7_0 b7_1 b7_2 b7_3 b7_4 b7_5 b7_6 b7_7 b7_8 b7_9 o_b6_7 o_b7_1_7 o_b7_2_7 (by omega : (b6 : Nat) ≠ b7_1) (by omega : (b7_1 : Nat) ≠ b7_2) (by omega : (b6 : Nat) ≠ b7_2) (by omega) (by omega) (by omega) (z_T2_2 2 u0 v0 w0) hn hm C
    · rcases z_mk3 x2 with hm | hm | hm | hm
      · exact z_seg87 l hw S (by omega) old7 (x0) (x1) (x2) (x3) ((2 : Int32) ) ((2 : Int32)  ) ((1 : Int32)   ) ((3 : Int32)    ) ((1 : Int32)     ) ((3 : Int32)      ) ((z_L0 2 u0)) ((z_L1 2 v0)) ((z_L2 2 w0)) b1 b6 b7_0 b7_1 b7_2 b7_3 b7_4 b7_5 b7_6 b7_7 b7_8 b7_9 o_b6_7 o_b7_1_7 o_b7_2_7 (by omega : (b6 : Nat) ≠ b7_1) (by omega : (b7_1 : Nat) ≠ b7_2) (by omega : (b6 : Nat) ≠ b7_2) (by omega) (by omega) (by omega) (z_T3_0 2 u0 v0 w0) hn hm C
      · exact z_seg90 l hw S (by omega) old7 (x0) (x1) (x2) (x3) ((2 : Int32) ) ((2 : Int32)  ) ((1 : Int32)   ) ((3 : Int32)    ) ((1 : Int32)     ) ((3 : Int32)      ) ((z_L0 2 u0)) ((z_L1 2 v0)) ((z_L2 2 w0)) b1 b6 b7_0 b7_1 b7_2 b7_3 b7_4 b7_5 b7_6 b7_7 b7_8 b7_9 o_b6_7 o_b7_1_7 o_b7_2_7 (by omega : (b6 : Nat) ≠ b7_1) (by omega : (b7_1 : Nat) ≠ b7_2) (by omega : (b6 : Nat) ≠ b7_2) (by omega) (by omega) (by omega) (z_T3_1 2 u0 v0 w0) hn hm C
      · exact z_seg96 l hw S (by omega) old7 (x0) (x1) (x2) (x3) ((2 : Int32) ) ((2 : Int32)  ) ((1 : Int32)   ) ((3 : Int32)    ) ((1 : Int32)     ) ((3 : Int32)      ) ((z_L0 2 u0)) ((z_L1 2 v0)) ((z_L2 2 w0)) b1 b6 b7_0 b7_1 b7_2 b7_3 b7_4 b7_5 b7_6 b7_7 b7_8 b7_9 o_b6_7 o_b7_1_7 o_b7_2_7 (by omega : (b6 : Nat) ≠ b7_1) (by omega : (b7_1 : Nat) ≠ b7_2) (by omega : (b6 : Nat) ≠ b7_2) (by omega) (by omega) (by omega) (z_T3_2 2 u0 v0 w0) hn hm C
      · exact z_seg101 l hw S (by omega) old7 (x0) (x1) (x2) (x3) ((2 : Int32) ) ((2 : Int32)  ) ((1 : Int32)   ) ((3 : Int32)    ) ((1 : Int32)     ) ((3 : Int32)      ) ((z_L0 2 u0)) ((z_L1 2 v0)) ((z_L2 2 w0)) b1 b6 b7_0 b7_1 b7_2 b7_3 b7_4 b7_5 b7_6 b7_7 b7_8 b7_9 o_b6_7 o_b7_1_7 o_b7_2_7 (by omega : (b6 : Nat) ≠ b7_1) (by omega : (b7_1 : Nat) ≠ b7_2) (by omega : (b6 : Nat) ≠ b7_2) (by omega) (by omega) (by omega) (z_T3_3 2 u0 v0 w0) hn hm C
  · refine z_iloadN C at_38 rfl 39 rfl ?_
    refine z_ldc C (z_w hw 244 rfl) at_39 41 rfl ?_
    refine z_iand C at_41 rfl 42 rfl ?_
    refine z_bipush C (v := (6 : Int32)) at_42 (by decide) 44 rfl ?_
    refine z_irem C (z := (3 : Int32)) at_44 (by decide) hb 45 rfl ?_
    refine z_istore C (Ls' := #[.val (.int x0), .val (.int x1), .val (.int x2), .val (.int x3), .val (.ref b1), .val (.ref b6), .val (.int (3 : Int32)), .unset, .unset, .unset, .unset, .unset, .unset, .unset, .unset, .unset, .unset, .unset, .unset, .unset, .unset, .unset]) at_45 rfl 47 rfl ?_
    refine z_iconst C (v := (1 : Int32)) at_47 (by decide) 48 rfl ?_
    refine z_iload C at_48 rfl 50 rfl ?_
    refine z_iconst C (v := (2 : Int32)) at_50 (by decide) 51 rfl ?_
    refine z_idiv C (z := (1 : Int32)) at_51 (by decide) (by decide) 52 rfl ?_
    refine z_iadd C (z := (2 : Int32)) at_52 (by decide) 53 rfl ?_
    refine z_istore C (Ls' := #[.val (.int x0), .val (.int x1), .val (.int x2), .val (.int x3), .val (.ref b1), .val (.ref b6), .val (.int (3 : Int32)), .val (.int (2 : Int32)), .unset, .unset, .unset, .unset, .unset, .unset, .unset, .unset, .unset, .unset, .unset, .unset, .unset, .unset]) at_53 rfl 55 rfl ?_
    refine z_iload C at_55 rfl 57 rfl ?_
    refine z_iconst C (v := (1 : Int32)) at_57 (by decide) 58 rfl ?_
    refine z_icmpY C at_58 (by decide) (by decide) 65 (by decide) ?_
    refine z_iconst C (v := (1 : Int32)) at_65 (by decide) 66 rfl ?_
    refine z_istore C (Ls' := #[.val (.int x0), .val (.int x1), .val (.int x2), .val (.int x3), .val (.ref b1), .val (.ref b6), .val (.int (3 : Int32)), .val (.int (2 : Int32)), .val (.int (1 : Int32)), .unset, .unset, .unset, .unset, .unset, .unset, .unset, .unset, .unset, .unset, .unset, .unset, .unset]) at_66 rfl 68 rfl ?_
    refine z_iload C at_68 rfl 70 rfl ?_
    refine z_iconst C (v := (3 : Int32)) at_70 (by decide) 71 rfl ?_
    refine z_icmpY C at_71 (by decide) (by decide) 78 (by decide) ?_
    refine z_iconst C (v := (3 : Int32)) at_78 (by decide) 79 rfl ?_
    refine z_istore C (Ls' := #[.val (.int x0), .val (.int x1), .val (.int x2), .val (.int x3), .val (.ref b1), .val (.ref b6), .val (.int (3 : Int32)), .val (.int (2 : Int32)), .val (.int (1 : Int32)), .val (.int (3 : Int32)), .unset, .unset, .unset, .unset, .unset, .unset, .unset, .unset, .unset, .unset, .unset, .unset]) at_79 rfl 81 rfl ?_
    refine z_iload C at_81 rfl 83 rfl ?_
    refine z_istore C (Ls' := #[.val (.int x0), .val (.int x1), .val (.int x2), .val (.int x3), .val (.ref b1), .val (.ref b6), .val (.int (3 : Int32)), .val (.int (2 : Int32)), .val (.int (1 : Int32)), .val (.int (3 : Int32)), .val (.int (1 : Int32)), .unset, .unset, .unset, .unset, .unset, .unset, .unset, .unset, .unset, .unset, .unset]) at_83 rfl 85 rfl ?_
    refine z_iload C at_85 rfl 87 rfl ?_
    refine z_istore C (Ls' := #[.val (.int x0), .val (.int x1), .val (.int x2), .val (.int x3), .val (.ref b1), .val (.ref b6), .val (.int (3 : Int32)), .val (.int (2 : Int32)), .val (.int (1 : Int32)), .val (.int (3 : Int32)), .val (.int (1 : Int32)), .val (.int (3 : Int32)), .unset, .unset, .unset, .unset, .unset, .unset, .unset, .unset, .unset, .unset]) at_87 rfl 89 rfl ?_
    refine z_iload C at_89 rfl 91 rfl ?_
    refine z_iconst C (v := (2 : Int32)) at_91 (by decide) 92 rfl ?_
    refine z_irem C (z := (1 : Int32)) at_92 (by decide) (by decide) 93 rfl ?_
    refine z_iconst C (v := (1 : Int32)) at_93 (by decide) 94 rfl ?_
    refine z_icmpN C at_94 (by decide) 97 rfl ?_
    refine z_iload C at_97 rfl 99 rfl ?_
    refine z_istore C (Ls' := #[.val (.int x0), .val (.int x1), .val (.int x2), .val (.int x3), .val (.ref b1), .val (.ref b6), .val (.int (3 : Int32)), .val (.int (2 : Int32)), .val (.int (1 : Int32)), .val (.int (3 : Int32)), .val (.int (3 : Int32)), .val (.int (3 : Int32)), .unset, .unset, .unset, .unset, .unset, .unset, .unset, .unset, .unset, .unset]) at_99 rfl 101 rfl ?_
    refine z_iload C at_101 rfl 103 rfl ?_
    refine z_istore C (Ls' := #[.val (.int x0), .val (.int x1), .val (.int x2), .val (.int x3), .val (.ref b1), .val (.ref b6), .val (.int (3 : Int32)), .val (.int (2 : Int32)), .val (.int (1 : Int32)), .val (.int (3 : Int32)), .val (.int (3 : Int32)), .val (.int (1 : Int32)), .unset, .unset, .unset, .unset, .unset, .unset, .unset, .unset, .unset, .unset]) at_103 rfl 105 rfl ?_
    refine z_iconst C (v := (2 : Int32)) at_105 (by decide) 106 rfl ?_
    refine z_iload C at_106 rfl 108 rfl ?_
    refine z_imul C (z := (4 : Int32)) at_108 (by decide) 109 rfl ?_
    refine z_iloadN C at_109 rfl 110 rfl ?_
    refine z_iconst C (v := (1 : Int32)) at_110 (by decide) 111 rfl ?_
    refine z_iand C at_111 rfl 112 rfl ?_
    refine z_iadd C (z := (z_L0 3 u0)) at_112 (by rw [hu]; clear hu; revert u0; decide +kernel) 113 rfl ?_
    refine z_istore C (Ls' := #[.val (.int x0), .val (.int x1), .val (.int x2), .val (.int x3), .val (.ref b1), .val (.ref b6), .val (.int (3 : Int32)), .val (.int (2 : Int32)), .val (.int (1 : Int32)), .val (.int (3 : Int32)), .val (.int (3 : Int32)), .val (.int (1 : Int32)), .val (.int (z_L0 3 u0)), .unset, .unset, .unset, .unset, .unset, .unset, .unset, .unset, .unset]) at_113 rfl 115 rfl ?_
    refine z_iconst C (v := (2 : Int32)) at_115 (by decide) 116 rfl ?_
    refine z_iload C at_116 rfl 118 rfl ?_
    refine z_imul C (z := (6 : Int32)) at_118 (by decide) 119 rfl ?_
    refine z_iloadN C at_119 rfl 120 rfl ?_
    refine z_iconst C (v := (1 : Int32)) at_120 (by decide) 121 rfl ?_
    refine z_ishr C at_121 rfl 122 rfl ?_
    refine z_iconst C (v := (1 : Int32)) at_122 (by decide) 123 rfl ?_
    refine z_iand C at_123 rfl 124 rfl ?_
    refine z_iadd C (z := (z_L1 3 v0)) at_124 (by rw [hv]; clear hv; revert v0; decide +kernel) 125 rfl ?_
    refine z_istore C (Ls' := #[.val (.int x0), .val (.int x1), .val (.int x2), .val (.int x3), .val (.ref b1), .val (.ref b6), .val (.int (3 : Int32)), .val (.int (2 : Int32)), .val (.int (1 : Int32)), .val (.int (3 : Int32)), .val (.int (3 : Int32)), .val (.int (1 : Int32)), .val (.int (z_L0 3 u0)), .val (.int (z_L1 3 v0)), .unset, .unset, .unset, .unset, .unset, .unset, .unset, .unset]) at_125 rfl 127 rfl ?_
    refine z_iconst C (v := (2 : Int32)) at_127 (by decide) 128 rfl ?_
    refine z_iload C at_128 rfl 130 rfl ?_
    refine z_imul C (z := (2 : Int32)) at_130 (by decide) 131 rfl ?_
    refine z_iloadN C at_131 rfl 132 rfl ?_
    refine z_iconst C (v := (2 : Int32)) at_132 (by decide) 133 rfl ?_
    refine z_ishr C at_133 rfl 134 rfl ?_
    refine z_iconst C (v := (1 : Int32)) at_134 (by decide) 135 rfl ?_
    refine z_iand C at_135 rfl 136 rfl ?_
    refine z_iadd C (z := (z_L2 3 w0)) at_136 (by rw [hz]; clear hz; revert w0; decide +kernel) 137 rfl ?_
    refine z_istore C (Ls' := #[.val (.int x0), .val (.int x1), .val (.int x2), .val (.int x3), .val (.ref b1), .val (.ref b6), .val (.int (3 : Int32)), .val (.int (2 : Int32)), .val (.int (1 : Int32)), .val (.int (3 : Int32)), .val (.int (3 : Int32)), .val (.int (1 : Int32)), .val (.int (z_L0 3 u0)), .val (.int (z_L1 3 v0)), .val (.int (z_L2 3 w0)), .unset, .unset, .unset, .unset, .unset, .unset, .unset]) at_137 rfl 139 rfl ?_
    have old7 := (old6.keep K7 (allS (by omega) all0))
    rcases z_and3 x0 with hn | hn | hn | hn
    · have hm : ¬ (x2 &&& (7 : Int32)) < (0 : Int32) := z_mk0 x2
      exact z_seg55 l hw S (by omega) old7 (x0) (x1) (x2) (x3) ((3 : Int32) ) ((2 : Int32)  ) ((1 : Int32)   ) ((3 : Int32)    ) ((3 : Int32)     ) ((1 : Int32)      ) ((z_L0 3 u0)) ((z_L1 3 v0)) ((z_L2 3 w0)) b1 b6 b7_0 b7_1 b7_2 b7_3 b7_4 b7_5 b7_6 b7_7 b7_8 b7_9 o_b6_7 o_b7_1_7 (by omega : (b6 : Nat) ≠ b7_1) (by omega) (z_T0_0 3 u0 v0 w0) hn hm C
    · rcases z_mk1 x2 with hm | hm
      · exact z_seg61 l hw S (by omega) old7 (x0) (x1) (x2) (x3) ((3 : Int32) ) ((2 : Int32)  ) ((1 : Int32)   ) ((3 : Int32)    ) ((3 : Int32)     ) ((1 : Int32)      ) ((z_L0 3 u0)) ((z_L1 3 v0)) ((z_L2 3 w0)) b1 b6 b7_0 b7_1 b7_2 b7_3 b7_4 b7_5 b7_6 b7_7 b7_8 b7_9 o_b6_7 o_b7_1_7 o_b7_2_7 (by omega : (b6 : Nat) ≠ b7_1) (by omega : (b7_1 : Nat) ≠ b7_2) (by omega : (b6 : Nat) ≠ b7_2) (by omega) (by omega) (by omega) (z_T1_0 3 u0 v0 w0) hn hm C
      · exact z_seg67 l hw S (by omega) old7 (x0) (x1) (x2) (x3) ((3 : Int32) ) ((2 : Int32)  ) ((1 : Int32)   ) ((3 : Int32)    ) ((3 : Int32)     ) ((1 : Int32)      ) ((z_L0 3 u0)) ((z_L1 3 v0)) ((z_L2 3 w0)) b1 b6 b7_0 b7_1 b7_2 b7_3 b7_4 b7_5 b7_6 b7_7 b7_8 b7_9 o_b6_7 o_b7_1_7 o_b7_2_7 (by omega : (b6 : Nat) ≠ b7_1) (by omega : (b7_1 : Nat) ≠ b7_2) (by omega : (b6 : Nat) ≠ b7_2) (by omega) (by omega) (by omega) (z_T1_1 3 u0 v0 w0) hn hm C
    · rcases z_mk2 x2 with hm | hm | hm
      · exact z_seg71 l hw S (by omega) old7 (x0) (x1) (x2) (x3) ((3 : Int32) ) ((2 : Int32)  ) ((1 : Int32)   ) ((3 : Int32)    ) ((3 : Int32)     ) ((1 : Int32)      ) ((z_L0 3 u0)) ((z_L1 3 v0)) ((z_L2 3 w0)) b1 b6 b7_0 b7_1 b7_2 b7_3 b7_4 b7_5 b7_6 b7_7 b7_8 b7_9 o_b6_7 o_b7_1_7 o_b7_2_7 (by omega : (b6 : Nat) ≠ b7_1) (by omega : (b7_1 : Nat) ≠ b7_2) (by omega : (b6 : Nat) ≠ b7_2) (by omega) (by omega) (by omega) (z_T2_0 3 u0 v0 w0) hn hm C
      · exact z_seg77 l hw S (by omega) old7 (x0) (x1) (x2) (x3) ((3 : Int32) ) ((2 : Int32)  ) ((1 : Int32)   ) ((3 : Int32)    ) ((3 : Int32)     ) ((1 : Int32)      ) ((z_L0 3 u0)) ((z_L1 3 v0)) ((z_L2 3 w0)) b1 b6 b7_0 b7_1 b7_2 b7_3 b7_4 b7_5 b7_6 b7_7 b7_8 b7_9 o_b6_7 o_b7_1_7 o_b7_2_7 (by omega : (b6 : Nat) ≠ b7_1) (by omega : (b7_1 : Nat) ≠ b7_2) (by omega : (b6 : Nat) ≠ b7_2) (by omega) (by omega) (by omega) (z_T2_1 3 u0 v0 w0) hn hm C
      · exact z_seg83 l hw S (by omega) old7 (x0) (x1) (x2) (x3) ((3 : Int32) ) ((2 : Int32)  ) ((1 : Int32)   ) ((3 : Int32)    ) ((3 : Int32)     ) ((1 : Int32)      ) ((z_L0 3 u0)) ((z_L1 3 v0)) ((z_L2 3 w0)) b1 b6 b7_0 b7_1 b7_2 b7_3 b7_4 b7_5 b7_6 b7_7 b7_8 b7_9 o_b6_7 o_b7_1_7 o_b7_2_7 (by omega : (b6 : Nat) ≠ b7_1) (by omega : (b7_1 : Nat) ≠ b7_2) (by omega : (b6 : Nat) ≠ b7_2) (by omega) (by omega) (by omega) (z_T2_2 3 u0 v0 w0) hn hm C
    · rcases z_mk3 x2 with hm | hm | hm | hm
      · exact z_seg87 l hw S (by omega) old7 (x0) (x1) (x2) (x3) ((3 : Int32) ) ((2 : Int32)  ) ((1 : Int32)   ) ((3 : Int32)    ) ((3 : Int32)     ) ((1 : Int32)      ) ((z_L0 3 u0)) ((z_L1 3 v0)) ((z_L2 3 w0)) b1 b6 b7_0 b7_1 b7_2 b7_3 b7_4 b7_5 b7_6 b7_7 b7_8 b7_9 o_b6_7 o_b7_1_7 o_b7_2_7 (by omega : (b6 : Nat) ≠ b7_1) (by omega : (b7_1 : Nat) ≠ b7_2) (by omega : (b6 : Nat) ≠ b7_2) (by omega) (by omega) (by omega) (z_T3_0 3 u0 v0 w0) hn hm C
      · exact z_seg90 l hw S (by omega) old7 (x0) (x1) (x2) (x3) ((3 : Int32) ) ((2 : Int32)  ) ((1 : Int32)   ) ((3 : Int32)    ) ((3 : Int32)     ) ((1 : Int32)      ) ((z_L0 3 u0)) ((z_L1 3 v0)) ((z_L2 3 w0)) b1 b6 b7_0 b7_1 b7_2 b7_3 b7_4 b7_5 b7_6 b7_7 b7_8 b7_9 o_b6_7 o_b7_1_7 o_b7_2_7 (by omega : (b6 : Nat) ≠ b7_1) (by omega : (b7_1 : Nat) ≠ b7_2) (by omega : (b6 : Nat) ≠ b7_2) (by omega) (by omega) (by omega) (z_T3_1 3 u0 v0 w0) hn hm C
      · exact z_seg96 l hw S (by omega) old7 (x0) (x1) (x2) (x3) ((3 : Int32) ) ((2 : Int32)  ) ((1 : Int32)   ) ((3 : Int32)    ) ((3 : Int32)     ) ((1 : Int32)      ) ((z_L0 3 u0)) ((z_L1 3 v0)) ((z_L2 3 w0)) b1 b6 b7_0 b7_1 b7_2 b7_3 b7_4 b7_5 b7_6 b7_7 b7_8 b7_9 o_b6_7 o_b7_1_7 o_b7_2_7 (by omega : (b6 : Nat) ≠ b7_1) (by omega : (b7_1 : Nat) ≠ b7_2) (by omega : (b6 : Nat) ≠ b7_2) (by omega) (by omega) (by omega) (z_T3_2 3 u0 v0 w0) hn hm C
      · exact z_seg101 l hw S (by omega) old7 (x0) (x1) (x2) (x3) ((3 : Int32) ) ((2 : Int32)  ) ((1 : Int32)   ) ((3 : Int32)    ) ((3 : Int32)     ) ((1 : Int32)      ) ((z_L0 3 u0)) ((z_L1 3 v0)) ((z_L2 3 w0)) b1 b6 b7_0 b7_1 b7_2 b7_3 b7_4 b7_5 b7_6 b7_7 b7_8 b7_9 o_b6_7 o_b7_1_7 o_b7_2_7 (by omega : (b6 : Nat) ≠ b7_1) (by omega : (b7_1 : Nat) ≠ b7_2) (by omega : (b6 : Nat) ≠ b7_2) (by omega) (by omega) (by omega) (z_T3_3 3 u0 v0 w0) hn hm C
  · refine z_iloadN C at_38 rfl 39 rfl ?_
    refine z_ldc C (z_w hw 244 rfl) at_39 41 rfl ?_
    refine z_iand C at_41 rfl 42 rfl ?_
    refine z_bipush C (v := (6 : Int32)) at_42 (by decide) 44 rfl ?_
    refine z_irem C (z := (4 : Int32)) at_44 (by decide) hb 45 rfl ?_
    refine z_istore C (Ls' := #[.val (.int x0), .val (.int x1), .val (.int x2), .val (.int x3), .val (.ref b1), .val (.ref b6), .val (.int (4 : Int32)), .unset, .unset, .unset, .unset, .unset, .unset, .unset, .unset, .unset, .unset, .unset, .unset, .unset, .unset, .unset]) at_45 rfl 47 rfl ?_
    refine z_iconst C (v := (1 : Int32)) at_47 (by decide) 48 rfl ?_
    refine z_iload C at_48 rfl 50 rfl ?_
    refine z_iconst C (v := (2 : Int32)) at_50 (by decide) 51 rfl ?_
    refine z_idiv C (z := (2 : Int32)) at_51 (by decide) (by decide) 52 rfl ?_
    refine z_iadd C (z := (3 : Int32)) at_52 (by decide) 53 rfl ?_
    refine z_istore C (Ls' := #[.val (.int x0), .val (.int x1), .val (.int x2), .val (.int x3), .val (.ref b1), .val (.ref b6), .val (.int (4 : Int32)), .val (.int (3 : Int32)), .unset, .unset, .unset, .unset, .unset, .unset, .unset, .unset, .unset, .unset, .unset, .unset, .unset, .unset]) at_53 rfl 55 rfl ?_
    refine z_iload C at_55 rfl 57 rfl ?_
    refine z_iconst C (v := (1 : Int32)) at_57 (by decide) 58 rfl ?_
    refine z_icmpY C at_58 (by decide) (by decide) 65 (by decide) ?_
    refine z_iconst C (v := (1 : Int32)) at_65 (by decide) 66 rfl ?_
    refine z_istore C (Ls' := #[.val (.int x0), .val (.int x1), .val (.int x2), .val (.int x3), .val (.ref b1), .val (.ref b6), .val (.int (4 : Int32)), .val (.int (3 : Int32)), .val (.int (1 : Int32)), .unset, .unset, .unset, .unset, .unset, .unset, .unset, .unset, .unset, .unset, .unset, .unset, .unset]) at_66 rfl 68 rfl ?_
    refine z_iload C at_68 rfl 70 rfl ?_
    refine z_iconst C (v := (3 : Int32)) at_70 (by decide) 71 rfl ?_
    refine z_icmpN C at_71 (by decide) 74 rfl ?_
    refine z_iconst C (v := (2 : Int32)) at_74 (by decide) 75 rfl ?_
    refine z_goto C at_75 (by decide) 79 (by decide) ?_
    refine z_istore C (Ls' := #[.val (.int x0), .val (.int x1), .val (.int x2), .val (.int x3), .val (.ref b1), .val (.ref b6), .val (.int (4 : Int32)), .val (.int (3 : Int32)), .val (.int (1 : Int32)), .val (.int (2 : Int32)), .unset, .unset, .unset, .unset, .unset, .unset, .unset, .unset, .unset, .unset, .unset, .unset]) at_79 rfl 81 rfl ?_
    refine z_iload C at_81 rfl 83 rfl ?_
    refine z_istore C (Ls' := #[.val (.int x0), .val (.int x1), .val (.int x2), .val (.int x3), .val (.ref b1), .val (.ref b6), .val (.int (4 : Int32)), .val (.int (3 : Int32)), .val (.int (1 : Int32)), .val (.int (2 : Int32)), .val (.int (1 : Int32)), .unset, .unset, .unset, .unset, .unset, .unset, .unset, .unset, .unset, .unset, .unset]) at_83 rfl 85 rfl ?_
    refine z_iload C at_85 rfl 87 rfl ?_
    refine z_istore C (Ls' := #[.val (.int x0), .val (.int x1), .val (.int x2), .val (.int x3), .val (.ref b1), .val (.ref b6), .val (.int (4 : Int32)), .val (.int (3 : Int32)), .val (.int (1 : Int32)), .val (.int (2 : Int32)), .val (.int (1 : Int32)), .val (.int (2 : Int32)), .unset, .unset, .unset, .unset, .unset, .unset, .unset, .unset, .unset, .unset]) at_87 rfl 89 rfl ?_
    refine z_iload C at_89 rfl 91 rfl ?_
    refine z_iconst C (v := (2 : Int32)) at_91 (by decide) 92 rfl ?_
    refine z_irem C (z := (0 : Int32)) at_92 (by decide) (by decide) 93 rfl ?_
    refine z_iconst C (v := (1 : Int32)) at_93 (by decide) 94 rfl ?_
    refine z_icmpY C at_94 (by decide) (by decide) 105 (by decide) ?_
    refine z_iconst C (v := (2 : Int32)) at_105 (by decide) 106 rfl ?_
    refine z_iload C at_106 rfl 108 rfl ?_
    refine z_imul C (z := (6 : Int32)) at_108 (by decide) 109 rfl ?_
    refine z_iloadN C at_109 rfl 110 rfl ?_
    refine z_iconst C (v := (1 : Int32)) at_110 (by decide) 111 rfl ?_
    refine z_iand C at_111 rfl 112 rfl ?_
    refine z_iadd C (z := (z_L0 4 u0)) at_112 (by rw [hu]; clear hu; revert u0; decide +kernel) 113 rfl ?_
    refine z_istore C (Ls' := #[.val (.int x0), .val (.int x1), .val (.int x2), .val (.int x3), .val (.ref b1), .val (.ref b6), .val (.int (4 : Int32)), .val (.int (3 : Int32)), .val (.int (1 : Int32)), .val (.int (2 : Int32)), .val (.int (1 : Int32)), .val (.int (2 : Int32)), .val (.int (z_L0 4 u0)), .unset, .unset, .unset, .unset, .unset, .unset, .unset, .unset, .unset]) at_113 rfl 115 rfl ?_
    refine z_iconst C (v := (2 : Int32)) at_115 (by decide) 116 rfl ?_
    refine z_iload C at_116 rfl 118 rfl ?_
    refine z_imul C (z := (2 : Int32)) at_118 (by decide) 119 rfl ?_
    refine z_iloadN C at_119 rfl 120 rfl ?_
    refine z_iconst C (v := (1 : Int32)) at_120 (by decide) 121 rfl ?_
    refine z_ishr C at_121 rfl 122 rfl ?_
    refine z_iconst C (v := (1 : Int32)) at_122 (by decide) 123 rfl ?_
    refine z_iand C at_123 rfl 124 rfl ?_
    refine z_iadd C (z := (z_L1 4 v0)) at_124 (by rw [hv]; clear hv; revert v0; decide +kernel) 125 rfl ?_
    refine z_istore C (Ls' := #[.val (.int x0), .val (.int x1), .val (.int x2), .val (.int x3), .val (.ref b1), .val (.ref b6), .val (.int (4 : Int32)), .val (.int (3 : Int32)), .val (.int (1 : Int32)), .val (.int (2 : Int32)), .val (.int (1 : Int32)), .val (.int (2 : Int32)), .val (.int (z_L0 4 u0)), .val (.int (z_L1 4 v0)), .unset, .unset, .unset, .unset, .unset, .unset, .unset, .unset]) at_125 rfl 127 rfl ?_
    refine z_iconst C (v := (2 : Int32)) at_127 (by decide) 128 rfl ?_
    refine z_iload C at_128 rfl 130 rfl ?_
    refine z_imul C (z := (4 : Int32)) at_130 (by decide) 131 rfl ?_
    refine z_iloadN C at_131 rfl 132 rfl ?_
    refine z_iconst C (v := (2 : Int32)) at_132 (by decide) 133 rfl ?_
    refine z_ishr C at_133 rfl 134 rfl ?_
    refine z_iconst C (v := (1 : Int32)) at_134 (by decide) 135 rfl ?_
    refine z_iand C at_135 rfl 136 rfl ?_
    refine z_iadd C (z := (z_L2 4 w0)) at_136 (by rw [hz]; clear hz; revert w0; decide +kernel) 137 rfl ?_
    refine z_istore C (Ls' := #[.val (.int x0), .val (.int x1), .val (.int x2), .val (.int x3), .val (.ref b1), .val (.ref b6), .val (.int (4 : Int32)), .val (.int (3 : Int32)), .val (.int (1 : Int32)), .val (.int (2 : Int32)), .val (.int (1 : Int32)), .val (.int (2 : Int32)), .val (.int (z_L0 4 u0)), .val (.int (z_L1 4 v0)), .val (.int (z_L2 4 w0)), .unset, .unset, .unset, .unset, .unset, .unset, .unset]) at_137 rfl 139 rfl ?_
    have old7 := (old6.keep K7 (allS (by omega) all0))
    rcases z_and3 x0 with hn | hn | hn | hn
    · have hm : ¬ (x2 &&& (7 : Int32)) < (0 : Int32) := z_mk0 x2
      exact z_seg55 l hw S (by omega) old7 (x0) (x1) (x2) (x3) ((4 : Int32) ) ((3 : Int32)  ) ((1 : Int32)   ) ((2 : Int32)    ) ((1 : Int32)     ) ((2 : Int32)      ) ((z_L0 4 u0)) ((z_L1 4 v0)) ((z_L2 4 w0)) b1 b6 b7_0 b7_1 b7_2 b7_3 b7_4 b7_5 b7_6 b7_7 b7_8 b7_9 o_b6_7 o_b7_1_7 (by omega : (b6 : Nat) ≠ b7_1) (by omega) (z_T0_0 4 u0 v0 w0) hn hm C
    · rcases z_mk1 x2 with hm | hm
      · exact z_seg61 l hw S (by omega) old7 (x0) (x1) (x2) (x3) ((4 : Int32) ) ((3 : Int32)  ) ((1 : Int32)   ) ((2 : Int32)    ) ((1 : Int32)     ) ((2 : Int32)      ) ((z_L0 4 u0)) ((z_L1 4 v0)) ((z_L2 4 w0)) b1 b6 b7_0 b7_1 b7_2 b7_3 b7_4 b7_5 b7_6 b7_7 b7_8 b7_9 o_b6_7 o_b7_1_7 o_b7_2_7 (by omega : (b6 : Nat) ≠ b7_1) (by omega : (b7_1 : Nat) ≠ b7_2) (by omega : (b6 : Nat) ≠ b7_2) (by omega) (by omega) (by omega) (z_T1_0 4 u0 v0 w0) hn hm C
      · exact z_seg67 l hw S (by omega) old7 (x0) (x1) (x2) (x3) ((4 : Int32) ) ((3 : Int32)  ) ((1 : Int32)   ) ((2 : Int32)    ) ((1 : Int32)     ) ((2 : Int32)      ) ((z_L0 4 u0)) ((z_L1 4 v0)) ((z_L2 4 w0)) b1 b6 b7_0 b7_1 b7_2 b7_3 b7_4 b7_5 b7_6 b7_7 b7_8 b7_9 o_b6_7 o_b7_1_7 o_b7_2_7 (by omega : (b6 : Nat) ≠ b7_1) (by omega : (b7_1 : Nat) ≠ b7_2) (by omega : (b6 : Nat) ≠ b7_2) (by omega) (by omega) (by omega) (z_T1_1 4 u0 v0 w0) hn hm C
    · rcases z_mk2 x2 with hm | hm | hm
      · exact z_seg71 l hw S (by omega) old7 (x0) (x1) (x2) (x3) ((4 : Int32) ) ((3 : Int32)  ) ((1 : Int32)   ) ((2 : Int32)    ) ((1 : Int32)     ) ((2 : Int32)      ) ((z_L0 4 u0)) ((z_L1 4 v0)) ((z_L2 4 w0)) b1 b6 b7_0 b7_1 b7_2 b7_3 b7_4 b7_5 b7_6 b7_7 b7_8 b7_9 o_b6_7 o_b7_1_7 o_b7_2_7 (by omega : (b6 : Nat) ≠ b7_1) (by omega : (b7_1 : Nat) ≠ b7_2) (by omega : (b6 : Nat) ≠ b7_2) (by omega) (by omega) (by omega) (z_T2_0 4 u0 v0 w0) hn hm C
      · exact z_seg77 l hw S (by omega) old7 (x0) (x1) (x2) (x3) ((4 : Int32) ) ((3 : Int32)  ) ((1 : Int32)   ) ((2 : Int32)    ) ((1 : Int32)     ) ((2 : Int32)      ) ((z_L0 4 u0)) ((z_L1 4 v0)) ((z_L2 4 w0)) b1 b6 b7_0 b7_1 b7_2 b7_3 b7_4 b7_5 b7_6 b7_7 b7_8 b7_9 o_b6_7 o_b7_1_7 o_b7_2_7 (by omega : (b6 : Nat) ≠ b7_1) (by omega : (b7_1 : Nat) ≠ b7_2) (by omega : (b6 : Nat) ≠ b7_2) (by omega) (by omega) (by omega) (z_T2_1 4 u0 v0 w0) hn hm C
      · exact z_seg83 l hw S (by omega) old7 (x0) (x1) (x2) (x3) ((4 : Int32) ) ((3 : Int32)  ) ((1 : Int32)   ) ((2 : Int32)    ) ((1 : Int32)     ) ((2 : Int32)      ) ((z_L0 4 u0)) ((z_L1 4 v0)) ((z_L2 4 w0)) b1 b6 b7_0 b7_1 b7_2 b7_3 b7_4 b7_5 b7_6 b7_7 b7_8 b7_9 o_b6_7 o_b7_1_7 o_b7_2_7 (by omega : (b6 : Nat) ≠ b7_1) (by omega : (b7_1 : Nat) ≠ b7_2) (by omega : (b6 : Nat) ≠ b7_2) (by omega) (by omega) (by omega) (z_T2_2 4 u0 v0 w0) hn hm C
    · rcases z_mk3 x2 with hm | hm | hm | hm
      · exact z_seg87 l hw S (by omega) old7 (x0) (x1) (x2) (x3) ((4 : Int32) ) ((3 : Int32)  ) ((1 : Int32)   ) ((2 : Int32)    ) ((1 : Int32)     ) ((2 : Int32)      ) ((z_L0 4 u0)) ((z_L1 4 v0)) ((z_L2 4 w0)) b1 b6 b7_0 b7_1 b7_2 b7_3 b7_4 b7_5 b7_6 b7_7 b7_8 b7_9 o_b6_7 o_b7_1_7 o_b7_2_7 (by omega : (b6 : Nat) ≠ b7_1) (by omega : (b7_1 : Nat) ≠ b7_2) (by omega : (b6 : Nat) ≠ b7_2) (by omega) (by omega) (by omega) (z_T3_0 4 u0 v0 w0) hn hm C
      · exact z_seg90 l hw S (by omega) old7 (x0) (x1) (x2) (x3) ((4 : Int32) ) ((3 : Int32)  ) ((1 : Int32)   ) ((2 : Int32)    ) ((1 : Int32)     ) ((2 : Int32)      ) ((z_L0 4 u0)) ((z_L1 4 v0)) ((z_L2 4 w0)) b1 b6 b7_0 b7_1 b7_2 b7_3 b7_4 b7_5 b7_6 b7_7 b7_8 b7_9 o_b6_7 o_b7_1_7 o_b7_2_7 (by omega : (b6 : Nat) ≠ b7_1) (by omega : (b7_1 : Nat) ≠ b7_2) (by omega : (b6 : Nat) ≠ b7_2) (by omega) (by omega) (by omega) (z_T3_1 4 u0 v0 w0) hn hm C
      · exact z_seg96 l hw S (by omega) old7 (x0) (x1) (x2) (x3) ((4 : Int32) ) ((3 : Int32)  ) ((1 : Int32)   ) ((2 : Int32)    ) ((1 : Int32)     ) ((2 : Int32)      ) ((z_L0 4 u0)) ((z_L1 4 v0)) ((z_L2 4 w0)) b1 b6 b7_0 b7_1 b7_2 b7_3 b7_4 b7_5 b7_6 b7_7 b7_8 b7_9 o_b6_7 o_b7_1_7 o_b7_2_7 (by omega : (b6 : Nat) ≠ b7_1) (by omega : (b7_1 : Nat) ≠ b7_2) (by omega : (b6 : Nat) ≠ b7_2) (by omega) (by omega) (by omega) (z_T3_2 4 u0 v0 w0) hn hm C
      · exact z_seg101 l hw S (by omega) old7 (x0) (x1) (x2) (x3) ((4 : Int32) ) ((3 : Int32)  ) ((1 : Int32)   ) ((2 : Int32)    ) ((1 : Int32)     ) ((2 : Int32)      ) ((z_L0 4 u0)) ((z_L1 4 v0)) ((z_L2 4 w0)) b1 b6 b7_0 b7_1 b7_2 b7_3 b7_4 b7_5 b7_6 b7_7 b7_8 b7_9 o_b6_7 o_b7_1_7 o_b7_2_7 (by omega : (b6 : Nat) ≠ b7_1) (by omega : (b7_1 : Nat) ≠ b7_2) (by omega : (b6 : Nat) ≠ b7_2) (by omega) (by omega) (by omega) (z_T3_3 4 u0 v0 w0) hn hm C
  · refine z_iloadN C at_38 rfl 39 rfl ?_
    refine z_ldc C (z_w hw 244 rfl) at_39 41 rfl ?_
    refine z_iand C at_41 rfl 42 rfl ?_
    refine z_bipush C (v := (6 : Int32)) at_42 (by decide) 44 rfl ?_
    refine z_irem C (z := (5 : Int32)) at_44 (by decide) hb 45 rfl ?_
    refine z_istore C (Ls' := #[.val (.int x0), .val (.int x1), .val (.int x2), .val (.int x3), .val (.ref b1), .val (.ref b6), .val (.int (5 : Int32)), .unset, .unset, .unset, .unset, .unset, .unset, .unset, .unset, .unset, .unset, .unset, .unset, .unset, .unset, .unset]) at_45 rfl 47 rfl ?_
    refine z_iconst C (v := (1 : Int32)) at_47 (by decide) 48 rfl ?_
    refine z_iload C at_48 rfl 50 rfl ?_
    refine z_iconst C (v := (2 : Int32)) at_50 (by decide) 51 rfl ?_
    refine z_idiv C (z := (2 : Int32)) at_51 (by decide) (by decide) 52 rfl ?_
    refine z_iadd C (z := (3 : Int32)) at_52 (by decide) 53 rfl ?_
    refine z_istore C (Ls' := #[.val (.int x0), .val (.int x1), .val (.int x2), .val (.int x3), .val (.ref b1), .val (.ref b6), .val (.int (5 : Int32)), .val (.int (3 : Int32)), .unset, .unset, .unset, .unset, .unset, .unset, .unset, .unset, .unset, .unset, .unset, .unset, .unset, .unset]) at_53 rfl 55 rfl ?_
    refine z_iload C at_55 rfl 57 rfl ?_
    refine z_iconst C (v := (1 : Int32)) at_57 (by decide) 58 rfl ?_
    refine z_icmpY C at_58 (by decide) (by decide) 65 (by decide) ?_
    refine z_iconst C (v := (1 : Int32)) at_65 (by decide) 66 rfl ?_
    refine z_istore C (Ls' := #[.val (.int x0), .val (.int x1), .val (.int x2), .val (.int x3), .val (.ref b1), .val (.ref b6), .val (.int (5 : Int32)), .val (.int (3 : Int32)), .val (.int (1 : Int32)), .unset, .unset, .unset, .unset, .unset, .unset, .unset, .unset, .unset, .unset, .unset, .unset, .unset]) at_66 rfl 68 rfl ?_
    refine z_iload C at_68 rfl 70 rfl ?_
    refine z_iconst C (v := (3 : Int32)) at_70 (by decide) 71 rfl ?_
    refine z_icmpN C at_71 (by decide) 74 rfl ?_
    refine z_iconst C (v := (2 : Int32)) at_74 (by decide) 75 rfl ?_
    refine z_goto C at_75 (by decide) 79 (by decide) ?_
    refine z_istore C (Ls' := #[.val (.int x0), .val (.int x1), .val (.int x2), .val (.int x3), .val (.ref b1), .val (.ref b6), .val (.int (5 : Int32)), .val (.int (3 : Int32)), .val (.int (1 : Int32)), .val (.int (2 : Int32)), .unset, .unset, .unset, .unset, .unset, .unset, .unset, .unset, .unset, .unset, .unset, .unset]) at_79 rfl 81 rfl ?_
    refine z_iload C at_81 rfl 83 rfl ?_
    refine z_istore C (Ls' := #[.val (.int x0), .val (.int x1), .val (.int x2), .val (.int x3), .val (.ref b1), .val (.ref b6), .val (.int (5 : Int32)), .val (.int (3 : Int32)), .val (.int (1 : Int32)), .val (.int (2 : Int32)), .val (.int (1 : Int32)), .unset, .unset, .unset, .unset, .unset, .unset, .unset, .unset, .unset, .unset, .unset]) at_83 rfl 85 rfl ?_
    refine z_iload C at_85 rfl 87 rfl ?_
    refine z_istore C (Ls' := #[.val (.int x0), .val (.int x1), .val (.int x2), .val (.int x3), .val (.ref b1), .val (.ref b6), .val (.int (5 : Int32)), .val (.int (3 : Int32)), .val (.int (1 : Int32)), .val (.int (2 : Int32)), .val (.int (1 : Int32)), .val (.int (2 : Int32)), .unset, .unset, .unset, .unset, .unset, .unset, .unset, .unset, .unset, .unset]) at_87 rfl 89 rfl ?_
    refine z_iload C at_89 rfl 91 rfl ?_
    refine z_iconst C (v := (2 : Int32)) at_91 (by decide) 92 rfl ?_
    refine z_irem C (z := (1 : Int32)) at_92 (by decide) (by decide) 93 rfl ?_
    refine z_iconst C (v := (1 : Int32)) at_93 (by decide) 94 rfl ?_
    refine z_icmpN C at_94 (by decide) 97 rfl ?_
    refine z_iload C at_97 rfl 99 rfl ?_
    refine z_istore C (Ls' := #[.val (.int x0), .val (.int x1), .val (.int x2), .val (.int x3), .val (.ref b1), .val (.ref b6), .val (.int (5 : Int32)), .val (.int (3 : Int32)), .val (.int (1 : Int32)), .val (.int (2 : Int32)), .val (.int (2 : Int32)), .val (.int (2 : Int32)), .unset, .unset, .unset, .unset, .unset, .unset, .unset, .unset, .unset, .unset]) at_99 rfl 101 rfl ?_
    refine z_iload C at_101 rfl 103 rfl ?_
    refine z_istore C (Ls' := #[.val (.int x0), .val (.int x1), .val (.int x2), .val (.int x3), .val (.ref b1), .val (.ref b6), .val (.int (5 : Int32)), .val (.int (3 : Int32)), .val (.int (1 : Int32)), .val (.int (2 : Int32)), .val (.int (2 : Int32)), .val (.int (1 : Int32)), .unset, .unset, .unset, .unset, .unset, .unset, .unset, .unset, .unset, .unset]) at_103 rfl 105 rfl ?_
    refine z_iconst C (v := (2 : Int32)) at_105 (by decide) 106 rfl ?_
    refine z_iload C at_106 rfl 108 rfl ?_
    refine z_imul C (z := (6 : Int32)) at_108 (by decide) 109 rfl ?_
    refine z_iloadN C at_109 rfl 110 rfl ?_
    refine z_iconst C (v := (1 : Int32)) at_110 (by decide) 111 rfl ?_
    refine z_iand C at_111 rfl 112 rfl ?_
    refine z_iadd C (z := (z_L0 5 u0)) at_112 (by rw [hu]; clear hu; revert u0; decide +kernel) 113 rfl ?_
    refine z_istore C (Ls' := #[.val (.int x0), .val (.int x1), .val (.int x2), .val (.int x3), .val (.ref b1), .val (.ref b6), .val (.int (5 : Int32)), .val (.int (3 : Int32)), .val (.int (1 : Int32)), .val (.int (2 : Int32)), .val (.int (2 : Int32)), .val (.int (1 : Int32)), .val (.int (z_L0 5 u0)), .unset, .unset, .unset, .unset, .unset, .unset, .unset, .unset, .unset]) at_113 rfl 115 rfl ?_
    refine z_iconst C (v := (2 : Int32)) at_115 (by decide) 116 rfl ?_
    refine z_iload C at_116 rfl 118 rfl ?_
    refine z_imul C (z := (4 : Int32)) at_118 (by decide) 119 rfl ?_
    refine z_iloadN C at_119 rfl 120 rfl ?_
    refine z_iconst C (v := (1 : Int32)) at_120 (by decide) 121 rfl ?_
    refine z_ishr C at_121 rfl 122 rfl ?_
    refine z_iconst C (v := (1 : Int32)) at_122 (by decide) 123 rfl ?_
    refine z_iand C at_123 rfl 124 rfl ?_
    refine z_iadd C (z := (z_L1 5 v0)) at_124 (by rw [hv]; clear hv; revert v0; decide +kernel) 125 rfl ?_
    refine z_istore C (Ls' := #[.val (.int x0), .val (.int x1), .val (.int x2), .val (.int x3), .val (.ref b1), .val (.ref b6), .val (.int (5 : Int32)), .val (.int (3 : Int32)), .val (.int (1 : Int32)), .val (.int (2 : Int32)), .val (.int (2 : Int32)), .val (.int (1 : Int32)), .val (.int (z_L0 5 u0)), .val (.int (z_L1 5 v0)), .unset, .unset, .unset, .unset, .unset, .unset, .unset, .unset]) at_125 rfl 127 rfl ?_
    refine z_iconst C (v := (2 : Int32)) at_127 (by decide) 128 rfl ?_
    refine z_iload C at_128 rfl 130 rfl ?_
    refine z_imul C (z := (2 : Int32)) at_130 (by decide) 131 rfl ?_
    refine z_iloadN C at_131 rfl 132 rfl ?_
    refine z_iconst C (v := (2 : Int32)) at_132 (by decide) 133 rfl ?_
    refine z_ishr C at_133 rfl 134 rfl ?_
    refine z_iconst C (v := (1 : Int32)) at_134 (by decide) 135 rfl ?_
    refine z_iand C at_135 rfl 136 rfl ?_
    refine z_iadd C (z := (z_L2 5 w0)) at_136 (by rw [hz]; clear hz; revert w0; decide +kernel) 137 rfl ?_
    refine z_istore C (Ls' := #[.val (.int x0), .val (.int x1), .val (.int x2), .val (.int x3), .val (.ref b1), .val (.ref b6), .val (.int (5 : Int32)), .val (.int (3 : Int32)), .val (.int (1 : Int32)), .val (.int (2 : Int32)), .val (.int (2 : Int32)), .val (.int (1 : Int32)), .val (.int (z_L0 5 u0)), .val (.int (z_L1 5 v0)), .val (.int (z_L2 5 w0)), .unset, .unset, .unset, .unset, .unset, .unset, .unset]) at_137 rfl 139 rfl ?_
    have old7 := (old6.keep K7 (allS (by omega) all0))
    rcases z_and3 x0 with hn | hn | hn | hn
    · have hm : ¬ (x2 &&& (7 : Int32)) < (0 : Int32) := z_mk0 x2
      exact z_seg55 l hw S (by omega) old7 (x0) (x1) (x2) (x3) ((5 : Int32) ) ((3 : Int32)  ) ((1 : Int32)   ) ((2 : Int32)    ) ((2 : Int32)     ) ((1 : Int32)      ) ((z_L0 5 u0)) ((z_L1 5 v0)) ((z_L2 5 w0)) b1 b6 b7_0 b7_1 b7_2 b7_3 b7_4 b7_5 b7_6 b7_7 b7_8 b7_9 o_b6_7 o_b7_1_7 (by omega : (b6 : Nat) ≠ b7_1) (by omega) (z_T0_0 5 u0 v0 w0) hn hm C
    · rcases z_mk1 x2 with hm | hm
      · exact z_seg61 l hw S (by omega) old7 (x0) (x1) (x2) (x3) ((5 : Int32) ) ((3 : Int32)  ) ((1 : Int32)   ) ((2 : Int32)    ) ((2 : Int32)     ) ((1 : Int32)      ) ((z_L0 5 u0)) ((z_L1 5 v0)) ((z_L2 5 w0)) b1 b6 b7_0 b7_1 b7_2 b7_3 b7_4 b7_5 b7_6 b7_7 b7_8 b7_9 o_b6_7 o_b7_1_7 o_b7_2_7 (by omega : (b6 : Nat) ≠ b7_1) (by omega : (b7_1 : Nat) ≠ b7_2) (by omega : (b6 : Nat) ≠ b7_2) (by omega) (by omega) (by omega) (z_T1_0 5 u0 v0 w0) hn hm C
      · exact z_seg67 l hw S (by omega) old7 (x0) (x1) (x2) (x3) ((5 : Int32) ) ((3 : Int32)  ) ((1 : Int32)   ) ((2 : Int32)    ) ((2 : Int32)     ) ((1 : Int32)      ) ((z_L0 5 u0)) ((z_L1 5 v0)) ((z_L2 5 w0)) b1 b6 b7_0 b7_1 b7_2 b7_3 b7_4 b7_5 b7_6 b7_7 b7_8 b7_9 o_b6_7 o_b7_1_7 o_b7_2_7 (by omega : (b6 : Nat) ≠ b7_1) (by omega : (b7_1 : Nat) ≠ b7_2) (by omega : (b6 : Nat) ≠ b7_2) (by omega) (by omega) (by omega) (z_T1_1 5 u0 v0 w0) hn hm C
    · rcases z_mk2 x2 with hm | hm | hm
      · exact z_seg71 l hw S (by omega) old7 (x0) (x1) (x2) (x3) ((5 : Int32) ) ((3 : Int32)  ) ((1 : Int32)   ) ((2 : Int32)    ) ((2 : Int32)     ) ((1 : Int32)      ) ((z_L0 5 u0)) ((z_L1 5 v0)) ((z_L2 5 w0)) b1 b6 b7_0 b7_1 b7_2 b7_3 b7_4 b7_5 b7_6 b7_7 b7_8 b7_9 o_b6_7 o_b7_1_7 o_b7_2_7 (by omega : (b6 : Nat) ≠ b7_1) (by omega : (b7_1 : Nat) ≠ b7_2) (by omega : (b6 : Nat) ≠ b7_2) (by omega) (by omega) (by omega) (z_T2_0 5 u0 v0 w0) hn hm C
      · exact z_seg77 l hw S (by omega) old7 (x0) (x1) (x2) (x3) ((5 : Int32) ) ((3 : Int32)  ) ((1 : Int32)   ) ((2 : Int32)    ) ((2 : Int32)     ) ((1 : Int32)      ) ((z_L0 5 u0)) ((z_L1 5 v0)) ((z_L2 5 w0)) b1 b6 b7_0 b7_1 b7_2 b7_3 b7_4 b7_5 b7_6 b7_7 b7_8 b7_9 o_b6_7 o_b7_1_7 o_b7_2_7 (by omega : (b6 : Nat) ≠ b7_1) (by omega : (b7_1 : Nat) ≠ b7_2) (by omega : (b6 : Nat) ≠ b7_2) (by omega) (by omega) (by omega) (z_T2_1 5 u0 v0 w0) hn hm C
      · exact z_seg83 l hw S (by omega) old7 (x0) (x1) (x2) (x3) ((5 : Int32) ) ((3 : Int32)  ) ((1 : Int32)   ) ((2 : Int32)    ) ((2 : Int32)     ) ((1 : Int32)      ) ((z_L0 5 u0)) ((z_L1 5 v0)) ((z_L2 5 w0)) b1 b6 b7_0 b7_1 b7_2 b7_3 b7_4 b7_5 b7_6 b7_7 b7_8 b7_9 o_b6_7 o_b7_1_7 o_b7_2_7 (by omega : (b6 : Nat) ≠ b7_1) (by omega : (b7_1 : Nat) ≠ b7_2) (by omega : (b6 : Nat) ≠ b7_2) (by omega) (by omega) (by omega) (z_T2_2 5 u0 v0 w0) hn hm C
    · rcases z_mk3 x2 with hm | hm | hm | hm
      · exact z_seg87 l hw S (by omega) old7 (x0) (x1) (x2) (x3) ((5 : Int32) ) ((3 : Int32)  ) ((1 : Int32)   ) ((2 : Int32)    ) ((2 : Int32)     ) ((1 : Int32)      ) ((z_L0 5 u0)) ((z_L1 5 v0)) ((z_L2 5 w0)) b1 b6 b7_0 b7_1 b7_2 b7_3 b7_4 b7_5 b7_6 b7_7 b7_8 b7_9 o_b6_7 o_b7_1_7 o_b7_2_7 (by omega : (b6 : Nat) ≠ b7_1) (by omega : (b7_1 : Nat) ≠ b7_2) (by omega : (b6 : Nat) ≠ b7_2) (by omega) (by omega) (by omega) (z_T3_0 5 u0 v0 w0) hn hm C
      · exact z_seg90 l hw S (by omega) old7 (x0) (x1) (x2) (x3) ((5 : Int32) ) ((3 : Int32)  ) ((1 : Int32)   ) ((2 : Int32)    ) ((2 : Int32)     ) ((1 : Int32)      ) ((z_L0 5 u0)) ((z_L1 5 v0)) ((z_L2 5 w0)) b1 b6 b7_0 b7_1 b7_2 b7_3 b7_4 b7_5 b7_6 b7_7 b7_8 b7_9 o_b6_7 o_b7_1_7 o_b7_2_7 (by omega : (b6 : Nat) ≠ b7_1) (by omega : (b7_1 : Nat) ≠ b7_2) (by omega : (b6 : Nat) ≠ b7_2) (by omega) (by omega) (by omega) (z_T3_1 5 u0 v0 w0) hn hm C
      · exact z_seg96 l hw S (by omega) old7 (x0) (x1) (x2) (x3) ((5 : Int32) ) ((3 : Int32)  ) ((1 : Int32)   ) ((2 : Int32)    ) ((2 : Int32)     ) ((1 : Int32)      ) ((z_L0 5 u0)) ((z_L1 5 v0)) ((z_L2 5 w0)) b1 b6 b7_0 b7_1 b7_2 b7_3 b7_4 b7_5 b7_6 b7_7 b7_8 b7_9 o_b6_7 o_b7_1_7 o_b7_2_7 (by omega : (b6 : Nat) ≠ b7_1) (by omega : (b7_1 : Nat) ≠ b7_2) (by omega : (b6 : Nat) ≠ b7_2) (by omega) (by omega) (by omega) (z_T3_2 5 u0 v0 w0) hn hm C
      · exact z_seg101 l hw S (by omega) old7 (x0) (x1) (x2) (x3) ((5 : Int32) ) ((3 : Int32)  ) ((1 : Int32)   ) ((2 : Int32)    ) ((2 : Int32)     ) ((1 : Int32)      ) ((z_L0 5 u0)) ((z_L1 5 v0)) ((z_L2 5 w0)) b1 b6 b7_0 b7_1 b7_2 b7_3 b7_4 b7_5 b7_6 b7_7 b7_8 b7_9 o_b6_7 o_b7_1_7 o_b7_2_7 (by omega : (b6 : Nat) ≠ b7_1) (by omega : (b7_1 : Nat) ≠ b7_2) (by omega : (b6 : Nat) ≠ b7_2) (by omega) (by omega) (by omega) (z_T3_3 5 u0 v0 w0) hn hm C
set_option maxRecDepth 65536 in
theorem z_comes {Post : Tables → Env → Array Value → State → Outcome → State → Prop} (hpost : ∀ tb e args s v u, (limb_1_1.after args s (.returned v) u = true ∧ limb_1_2.after args s (.returned v) u = true ∧ True) → FrameEnd s (.returned v) u (Jvm.fieldLocs frame_1_writes args s ++ Jvm.arrayLocs frame_1_arrays args s ++ Jvm.staticLocs frame_1_statics s) 64 384 → Post tb e args s (.returned v) u) :
    ArmFor flags0 classFile x code maxLocals ret World_1 tables_1 room_1 Calls_1 rest_1 Pre_1 Post := by
  intro l hfl _ _ p e ha hc hk s m args below hf hA hF happ hP
  obtain ⟨hcalls, hrest, hpre⟩ := hP
  obtain ⟨-, -, -, hnamed, -, -, -, hat⟩ := (Spec.applies_iff hf).mp happ
  obtain ⟨hg, hn⟩ := and_e (Cond.before_iff.mp (show (Jvm.Cond.and given_1 narrow_1).before args s = true from hpre))
  obtain ⟨g0, hg⟩ := and_e hg
  obtain ⟨w0, w1, w2, w3, rfl⟩ : ∃ w0 w1 w2 w3 : Value, args = #[w0, w1, w2, w3] := by
    have hs : args.size = 4 := by simpa [Cond.value, given_1] using g0
    obtain ⟨L⟩ := args
    match L, hs with
    | [w0, w1, w2, w3], _ => exact ⟨w0, w1, w2, w3, rfl⟩
  obtain ⟨g1, hg⟩ := and_e hg
  obtain ⟨x0, e0⟩ := is_v g1
  obtain rfl : w0 = (.int x0) := Option.some.inj e0
  obtain ⟨g2, hg⟩ := and_e hg
  obtain ⟨x1, e1⟩ := is_v g2
  obtain rfl : w1 = (.int x1) := Option.some.inj e1
  obtain ⟨g3, hg⟩ := and_e hg
  obtain ⟨x2, e2⟩ := is_v g3
  obtain rfl : w2 = (.int x2) := Option.some.inj e2
  obtain ⟨x3, e3⟩ := is_v hg
  obtain rfl : w3 = (.int x3) := Option.some.inj e3
  have hw := fun d (hd : d ∈ tables_1) => atoms_spec (ws := Jvm.Cond.code x code maxLocals ret :: tables_1) hat d (List.mem_cons_of_mem _ hd)
  obtain ⟨q0, hn⟩ := and_e hn
  obtain ⟨q1, q2⟩ := and_e hn
  have hsets := z_sets (L := jdkStatics_1) (R := restOwn_1) (show (jdkStatics_1.foldr Jvm.Cond.and restOwn_1).before _ s = true from hrest)
  obtain ⟨a_NONE, Ea_NONE⟩ := z_starr (K := "") q0 q1 q2 (Or.inr ⟨(z_w hw 117 rfl), (z_w hw 183 rfl)⟩)
  obtain ⟨a_DEF, Ea_DEF⟩ := z_starr (K := "") (Cond.before_iff.mp (hsets _ (List.mem_of_getElem? (i := 6) rfl))) (Cond.before_iff.mp (hsets _ (List.mem_of_getElem? (i := 7) rfl))) (Cond.before_iff.mp (hsets _ (List.mem_of_getElem? (i := 8) rfl))) (Or.inr ⟨(z_w hw 11 rfl), (hsets _ (List.mem_of_getElem? (i := 2) rfl))⟩)
  obtain ⟨a_ONE, Ea_ONE⟩ := z_stob (Cond.before_iff.mp (hsets _ (List.mem_of_getElem? (i := 11) rfl))) (Cond.before_iff.mp (hsets _ (List.mem_of_getElem? (i := 12) rfl))) (Or.inr ⟨(z_w hw 71 rfl), (hsets _ (List.mem_of_getElem? (i := 9) rfl))⟩)
  obtain ⟨n, o, h1, h2, h3, _, L, rfl, ⟨rfl, N⟩, hq⟩ := z_law l hw (n0 := s.heap.size) ⟨Ea_DEF, Ea_ONE, Ea_NONE⟩ (Nat.le_refl _) (Old.start s) x0 x1 x2 x3 p e ha hc hk s m _ below hf ((Spec.applies_iff_loose hf).mp happ).1 ⟨rfl, State.Warmed39.refl s, rfl⟩ trivial
  exact ⟨n, _, h1, h2, h3, hpost _ _ _ _ _ _ ⟨Cond.after_iff.mpr rfl, Cond.after_iff.mpr (eq_i res_at (Term.int_eval (1)) rfl), trivial⟩ ⟨hq.1, hq.2.1, (hq.2.2.sift fun y hy => Or.inr (N y hy)).mono (by decide) (by decide)⟩⟩
theorem main_1_1 : Claimed_1_1 := z_comes fun _ _ _ _ _ _ h hF => ⟨h.1, hF⟩
theorem main_1_2 : Claimed_1_2 := z_comes fun _ _ _ _ _ _ h hF => ⟨h.2.1, hF⟩
end Jvm.Pilot.@@N@@
namespace Jvm.Pilot.@@N@@
open Jvm Jvm.ClassFile Sem Op Lib Jvm.Free Jvm.Stand Jvm.Pilot.@@N@@.Jvm.D
/-! MADE BY PROGRAM (witnessworld.py) out of the Statement's table words and the real class files: 34 classes; the members and pool entries that the words name. The judged class is class 1, her method 2. -/
namespace start1
open Jvm.ClassFile
def u (s : String) : CpInfo := .utf8 (stringToUtf16 s)
/-- a pool by its gaps: so many unusable entries, then the entry; so many at the end -/
def gap : Nat → List CpInfo → List CpInfo
  | 0, r => r
  | n + 1, r => .unusable :: gap n r
def poolList (es : List (Nat × CpInfo)) (last : Nat) : List CpInfo := es.foldr (fun e r => gap e.1 (e.2 :: r)) (gap last [])
def pool (es : List (Nat × CpInfo)) (last : Nat) : Array CpInfo := ⟨poolList es last⟩
def fileOf (pool : Array CpInfo) (this : Nat) (attrs : Array Attribute := #[]) (ms : Array MethodInfo := #[]) (fl : Nat := 33) (sup : Nat := 0) (ifs : Array Nat := #[]) (fds : Array FieldInfo := #[]) : ClassFile where
  minorVersion := 0
  majorVersion := 65
  constantPool := pool
  accessFlags := fl
  thisClass := this
  superClass := sup
  interfaces := ifs
  fields := fds
  methods := ms
  attributes := attrs
def plain (name : String) (sup : Option ClassId) : Class where
  name := name
  kind := .ordinary
  loader := none
  accessFlags := 33
  super := sup
  interfaces := #[]
  cf := none
  fields := #[]
  methods := #[]
  instanceTypes := #[]
  staticTypes := #[]
  resolved := #[]
  callSites := []
  init := .initialized
  statics := none
  mirror := none

def pool0 : Array CpInfo := pool [(5, u "<init>"), (0, u "()V"), (1, .class_ 10), (1, u "java/lang/Object")] 113

def k0c0 : Code := { maxStack := 0, maxLocals := 1, code := object_method_1_code, exceptionTable := #[], attributes := #[] }
def k0m0 : Method := { name := "<init>", desc := "()V", sig := { parameters := [], returnType := none }, accessFlags := 1, code := some k0c0 }
/-- java/lang/Object -/
def k0 : Class := { plain "java/lang/Object" none with
  accessFlags := 33
  interfaces := #[]
  cf := some (fileOf pool0 8 #[] #[{ accessFlags := 1, nameIndex := 5, descriptorIndex := 6, attributes := #[] }] 33 0 #[] #[])
  fields := #[]
  methods := #[k0m0]
  instanceTypes := #[]
  staticTypes := #[]
  resolved := Array.replicate 124 none
  statics := none }

def pool1 : Array CpInfo := pool [(2, .class_ 4), (0, .nameAndType 5 6), (0, u "java/lang/Object"), (0, u "<init>"), (0, u "()V"), (0, .fieldref 8 9), (0, .class_ 10), (0, .nameAndType 11 12), (0, u "com/example/variegate/variegate/service/Propagation"), (0, u "value"), (0, u "[B"), (0, .class_ 14), (0, u "com/example/variegate/variegate/service/Cnf"), (0, .methodref 13 3), (0, .methodref 13 17), (0, .nameAndType 18 19), (0, u "newVariable"), (0, u "()I"), (0, .methodref 8 21), (0, .nameAndType 5 22), (0, u "(Lcom/example/variegate/variegate/service/Cnf;)V"), (0, .integer 2147483647), (0, .methodref 8 25), (0, .nameAndType 26 27), (0, u "assign"), (0, u "(I)V"), (0, .methodref 8 29), (0, .nameAndType 30 27), (0, u "backtrack"), (0, .methodref 32 33), (0, .class_ 34), (0, .nameAndType 35 36), (0, u "java/lang/Math"), (0, u "min"), (0, u "(II)I"), (0, .methodref 8 38), (0, .nameAndType 39 19), (0, u "trailSize"), (0, .methodref 41 42), (0, .class_ 43), (0, .nameAndType 44 45), (0, u "com/example/variegate/variegate/service/PropagationBacktrackPinLaw"), (0, u "check"), (0, u "(Lcom/example/variegate/variegate/service/Propagation;IZ)Z"), (0, .fieldref 8 47), (0, .nameAndType 48 49), (0, u "trail"), (0, u "[I"), (3, u "law"), (0, u "(IIII)Z")] 2

def k1m0 : Method := { name := "<init>", desc := "()V", sig := { parameters := [], returnType := none }, accessFlags := 1, code := none }
def k1c1 : Code := { maxStack := 3, maxLocals := 5, code := method_2_code, exceptionTable := #[], attributes := #[] }
def k1m1 : Method := { name := "check", desc := "(Lcom/example/variegate/variegate/service/Propagation;IZ)Z", sig := { parameters := [(.object "com/example/variegate/variegate/service/Propagation"), .int, .boolean], returnType := some .boolean }, accessFlags := 10, code := some k1c1 }
def k1c2 : Code := { maxStack := 3, maxLocals := 22, code := code, exceptionTable := #[], attributes := #[] }
def k1m2 : Method := { name := "law", desc := "(IIII)Z", sig := { parameters := [.int, .int, .int, .int], returnType := some .boolean }, accessFlags := 9, code := some k1c2 }
/-- com/example/variegate/variegate/service/PropagationBacktrackPinLaw -/
def k1 : Class := { plain "com/example/variegate/variegate/service/PropagationBacktrackPinLaw" (some 0) with
  accessFlags := 49
  interfaces := #[]
  cf := some (fileOf pool1 41 #[] #[{ accessFlags := 1, nameIndex := 5, descriptorIndex := 6, attributes := #[] }, { accessFlags := 10, nameIndex := 44, descriptorIndex := 45, attributes := #[] }, { accessFlags := 9, nameIndex := 53, descriptorIndex := 54, attributes := #[] }] 49 2 #[] #[])
  fields := #[]
  methods := #[k1m0, k1m1, k1m2]
  instanceTypes := #[]
  staticTypes := #[]
  resolved := Array.replicate 57 none
  statics := none }

def pool2 : Array CpInfo := pool [(1, .methodref 2 3), (0, .class_ 4), (0, .nameAndType 5 6), (0, u "java/lang/Object"), (0, u "<init>"), (0, u "()V"), (0, .class_ 8), (0, u "java/util/ArrayList"), (0, .methodref 7 3), (0, .fieldref 11 12), (0, .class_ 13), (0, .nameAndType 14 15), (0, u "com/example/variegate/variegate/service/Cnf"), (0, u "clauses"), (0, u "Ljava/util/List;"), (0, .class_ 17), (0, u "java/util/BitSet"), (0, .methodref 16 3), (0, .fieldref 11 20), (0, .nameAndType 21 22), (0, u "redundant"), (0, u "Ljava/util/BitSet;"), (0, .fieldref 11 24), (0, .nameAndType 25 15), (0, u "weights"), (0, .fieldref 11 27), (0, .nameAndType 28 15), (0, u "falseWeights"), (0, .fieldref 11 30), (0, .nameAndType 31 32), (0, u "lastHeld"), (0, u "[J"), (0, .fieldref 34 35), (0, .class_ 36), (0, .nameAndType 37 38), (0, u "java/math/BigInteger"), (0, u "ONE"), (0, u "Ljava/math/BigInteger;"), (0, .interfaceMethodref 40 41), (0, .class_ 42), (0, .nameAndType 43 44), (0, u "java/util/List"), (0, u "add"), (0, u "(Ljava/lang/Object;)Z"), (0, .interfaceMethodref 40 46), (0, .nameAndType 47 48), (0, u "size"), (0, u "()I"), (14, u "added"), (0, u "J"), (22, u "get"), (18, .interfaceMethodref 40 107), (0, .nameAndType 87 108), (0, u "(I)Ljava/lang/Object;"), (12, u "newVariable"), (8, u "variables"), (0, u "()Ljava/util/List;"), (1, u "weight"), (0, u "(I)Ljava/math/BigInteger;")] 19

def k2c0 : Code := { maxStack := 3, maxLocals := 1, code := prog_73_method_1_code, exceptionTable := #[], attributes := #[] }
def k2m0 : Method := { name := "<init>", desc := "()V", sig := { parameters := [], returnType := none }, accessFlags := 0, code := some k2c0 }
def k2c1 : Code := { maxStack := 2, maxLocals := 1, code := prog_73_method_2_code, exceptionTable := #[], attributes := #[] }
def k2m1 : Method := { name := "newVariable", desc := "()I", sig := { parameters := [], returnType := some .int }, accessFlags := 0, code := some k2c1 }
def k2c2 : Code := { maxStack := 1, maxLocals := 1, code := prog_73_method_8_code, exceptionTable := #[], attributes := #[] }
def k2m2 : Method := { name := "variables", desc := "()I", sig := { parameters := [], returnType := some .int }, accessFlags := 0, code := some k2c2 }
def k2c3 : Code := { maxStack := 1, maxLocals := 1, code := prog_73_method_9_code, exceptionTable := #[], attributes := #[] }
def k2m3 : Method := { name := "clauses", desc := "()Ljava/util/List;", sig := { parameters := [], returnType := some (.object "java/util/List") }, accessFlags := 0, code := some k2c3 }
def k2c4 : Code := { maxStack := 3, maxLocals := 2, code := prog_73_method_10_code, exceptionTable := #[], attributes := #[] }
def k2m4 : Method := { name := "weight", desc := "(I)Ljava/math/BigInteger;", sig := { parameters := [.int], returnType := some (.object "java/math/BigInteger") }, accessFlags := 0, code := some k2c4 }
/-- com/example/variegate/variegate/service/Cnf -/
def k2 : Class := { plain "com/example/variegate/variegate/service/Cnf" (some 0) with
  accessFlags := 48
  interfaces := #[]
  cf := some (fileOf pool2 11 #[] #[{ accessFlags := 0, nameIndex := 5, descriptorIndex := 6, attributes := #[] }, { accessFlags := 0, nameIndex := 121, descriptorIndex := 48, attributes := #[] }, { accessFlags := 0, nameIndex := 130, descriptorIndex := 48, attributes := #[] }, { accessFlags := 0, nameIndex := 14, descriptorIndex := 131, attributes := #[] }, { accessFlags := 0, nameIndex := 133, descriptorIndex := 134, attributes := #[] }] 48 2 #[] #[{ accessFlags := 18, nameIndex := 14, descriptorIndex := 15, attributes := #[] }, { accessFlags := 18, nameIndex := 21, descriptorIndex := 22, attributes := #[] }, { accessFlags := 18, nameIndex := 25, descriptorIndex := 15, attributes := #[] }, { accessFlags := 18, nameIndex := 28, descriptorIndex := 15, attributes := #[] }, { accessFlags := 2, nameIndex := 31, descriptorIndex := 32, attributes := #[] }, { accessFlags := 2, nameIndex := 63, descriptorIndex := 64, attributes := #[] }])
  fields := #[{ name := "clauses", type := (.object "java/util/List"), accessFlags := 18, slot := 0, constantValue := 0 }, { name := "redundant", type := (.object "java/util/BitSet"), accessFlags := 18, slot := 1, constantValue := 0 }, { name := "weights", type := (.object "java/util/List"), accessFlags := 18, slot := 2, constantValue := 0 }, { name := "falseWeights", type := (.object "java/util/List"), accessFlags := 18, slot := 3, constantValue := 0 }, { name := "lastHeld", type := (.array .long), accessFlags := 2, slot := 4, constantValue := 0 }, { name := "added", type := .long, accessFlags := 2, slot := 5, constantValue := 0 }]
  methods := #[k2m0, k2m1, k2m2, k2m3, k2m4]
  instanceTypes := #[(.object "java/util/List"), (.object "java/util/BitSet"), (.object "java/util/List"), (.object "java/util/List"), (.array .long), .long]
  staticTypes := #[]
  resolved := Array.replicate 154 none
  statics := none }

def pool3 : Array CpInfo := pool [(8, .class_ 10), (1, u "java/lang/Iterable"), (24, .class_ 36), (0, u "java/lang/Object")] 25

/-- java/lang/Iterable -/
def k3 : Class := { plain "java/lang/Iterable" (some 0) with
  accessFlags := 1537
  interfaces := #[]
  cf := some (fileOf pool3 8 #[] #[] 1537 35 #[] #[])
  fields := #[]
  methods := #[]
  instanceTypes := #[]
  staticTypes := #[]
  resolved := Array.replicate 62 none
  statics := none }

def pool4 : Array CpInfo := pool [(10, .class_ 12), (1, u "java/util/Collection"), (47, .class_ 61), (0, u "java/lang/Object"), (0, .class_ 63), (0, u "java/lang/Iterable")] 51

/-- java/util/Collection -/
def k4 : Class := { plain "java/util/Collection" (some 0) with
  accessFlags := 1537
  interfaces := #[3]
  cf := some (fileOf pool4 10 #[] #[] 1537 60 #[62] #[])
  fields := #[]
  methods := #[]
  instanceTypes := #[]
  staticTypes := #[]
  resolved := Array.replicate 115 none
  statics := none }

def pool5 : Array CpInfo := pool [(1, .methodref 2 3), (0, .class_ 4), (0, .nameAndType 5 6), (0, u "java/lang/Object"), (0, u "<init>"), (0, u "()V"), (1, .class_ 10), (1, u "java/util/AbstractCollection"), (66, .class_ 78), (0, u "java/util/Collection")] 81

def k5c0 : Code := { maxStack := 1, maxLocals := 1, code := jdk_22_method_1_code, exceptionTable := #[], attributes := #[] }
def k5m0 : Method := { name := "<init>", desc := "()V", sig := { parameters := [], returnType := none }, accessFlags := 4, code := some k5c0 }
/-- java/util/AbstractCollection -/
def k5 : Class := { plain "java/util/AbstractCollection" (some 0) with
  accessFlags := 1057
  interfaces := #[4]
  cf := some (fileOf pool5 8 #[] #[{ accessFlags := 4, nameIndex := 5, descriptorIndex := 6, attributes := #[] }] 1057 2 #[77] #[])
  fields := #[]
  methods := #[k5m0]
  instanceTypes := #[]
  staticTypes := #[]
  resolved := Array.replicate 160 none
  statics := none }

def pool6 : Array CpInfo := pool [(8, .class_ 10), (1, u "java/util/SequencedCollection"), (15, .class_ 27), (0, u "java/lang/Object"), (0, .class_ 29), (0, u "java/util/Collection")] 27

/-- java/util/SequencedCollection -/
def k6 : Class := { plain "java/util/SequencedCollection" (some 0) with
  accessFlags := 1537
  interfaces := #[4]
  cf := some (fileOf pool6 8 #[] #[] 1537 26 #[28] #[])
  fields := #[]
  methods := #[]
  instanceTypes := #[]
  staticTypes := #[]
  resolved := Array.replicate 57 none
  statics := none }

def pool7 : Array CpInfo := pool [(8, .class_ 10), (1, u "java/util/List"), (49, u "add"), (3, u "(Ljava/lang/Object;)Z"), (10, u "get"), (0, u "(I)Ljava/lang/Object;"), (2, u "size"), (0, u "()I"), (22, .class_ 104), (0, u "java/lang/Object"), (15, .class_ 121), (0, u "java/util/SequencedCollection"), (1, u "iterator"), (0, u "()Ljava/util/Iterator;")] 126

def k7m0 : Method := { name := "size", desc := "()I", sig := { parameters := [], returnType := some .int }, accessFlags := 1025, code := none }
def k7m1 : Method := { name := "iterator", desc := "()Ljava/util/Iterator;", sig := { parameters := [], returnType := some (.object "java/util/Iterator") }, accessFlags := 1025, code := none }
def k7m2 : Method := { name := "add", desc := "(Ljava/lang/Object;)Z", sig := { parameters := [(.object "java/lang/Object")], returnType := some .boolean }, accessFlags := 1025, code := none }
def k7m3 : Method := { name := "get", desc := "(I)Ljava/lang/Object;", sig := { parameters := [.int], returnType := some (.object "java/lang/Object") }, accessFlags := 1025, code := none }
/-- java/util/List -/
def k7 : Class := { plain "java/util/List" (some 0) with
  accessFlags := 1537
  interfaces := #[6]
  cf := some (fileOf pool7 8 #[] #[{ accessFlags := 1025, nameIndex := 79, descriptorIndex := 80, attributes := #[] }, { accessFlags := 1025, nameIndex := 123, descriptorIndex := 124, attributes := #[] }, { accessFlags := 1025, nameIndex := 60, descriptorIndex := 64, attributes := #[] }, { accessFlags := 1025, nameIndex := 75, descriptorIndex := 76, attributes := #[] }] 1537 103 #[120] #[])
  fields := #[]
  methods := #[k7m0, k7m1, k7m2, k7m3]
  instanceTypes := #[]
  staticTypes := #[]
  resolved := Array.replicate 251 none
  statics := none }

def pool8 : Array CpInfo := pool [(1, .methodref 2 3), (0, .class_ 4), (0, .nameAndType 5 6), (0, u "java/util/AbstractCollection"), (0, u "<init>"), (0, u "()V"), (0, .fieldref 8 9), (0, .class_ 10), (0, .nameAndType 11 12), (0, u "java/util/AbstractList"), (0, u "modCount"), (0, u "I"), (64, .class_ 78), (0, u "java/util/AbstractList$Itr"), (3, .class_ 83), (0, u "java/util/AbstractList$ListItr"), (9, .class_ 94), (0, u "java/util/AbstractList$RandomAccessSubList"), (3, .class_ 99), (0, u "java/util/AbstractList$SubList"), (33, .class_ 134), (0, u "java/util/List"), (73, .class_ 209), (0, u "java/util/AbstractList$SubList$1"), (0, .class_ 211), (0, u "java/util/AbstractList$RandomAccessSpliterator")] 6

def k8c0 : Code := { maxStack := 2, maxLocals := 1, code := jdk_39_method_1_code, exceptionTable := #[], attributes := #[] }
def k8m0 : Method := { name := "<init>", desc := "()V", sig := { parameters := [], returnType := none }, accessFlags := 4, code := some k8c0 }
/-- java/util/AbstractList -/
def k8 : Class := { plain "java/util/AbstractList" (some 5) with
  accessFlags := 1057
  interfaces := #[7]
  cf := some (fileOf pool8 8 #[.nestMembers #[93, 98, 208, 210, 82, 77]] #[{ accessFlags := 4, nameIndex := 5, descriptorIndex := 6, attributes := #[] }] 1057 2 #[133] #[{ accessFlags := 132, nameIndex := 11, descriptorIndex := 12, attributes := #[] }])
  fields := #[{ name := "modCount", type := .int, accessFlags := 132, slot := 0, constantValue := 0 }]
  methods := #[k8m0]
  instanceTypes := #[.int]
  staticTypes := #[]
  resolved := Array.replicate 218 none
  statics := none }

def pool9 : Array CpInfo := pool [(1, .class_ 2), (0, u "java/util/RandomAccess"), (0, .class_ 4), (0, u "java/lang/Object")] 2

/-- java/util/RandomAccess -/
def k9 : Class := { plain "java/util/RandomAccess" (some 0) with
  accessFlags := 1537
  interfaces := #[]
  cf := some (fileOf pool9 1 #[] #[] 1537 3 #[] #[])
  fields := #[]
  methods := #[]
  instanceTypes := #[]
  staticTypes := #[]
  resolved := Array.replicate 7 none
  statics := none }

def pool10 : Array CpInfo := pool [(1, .class_ 2), (0, u "java/lang/Cloneable"), (0, .class_ 4), (0, u "java/lang/Object")] 2

/-- java/lang/Cloneable -/
def k10 : Class := { plain "java/lang/Cloneable" (some 0) with
  accessFlags := 1537
  interfaces := #[]
  cf := some (fileOf pool10 1 #[] #[] 1537 3 #[] #[])
  fields := #[]
  methods := #[]
  instanceTypes := #[]
  staticTypes := #[]
  resolved := Array.replicate 7 none
  statics := none }

def pool11 : Array CpInfo := pool [(1, .class_ 2), (0, u "java/io/Serializable"), (0, .class_ 4), (0, u "java/lang/Object")] 2

/-- java/io/Serializable -/
def k11 : Class := { plain "java/io/Serializable" (some 0) with
  accessFlags := 1537
  interfaces := #[]
  cf := some (fileOf pool11 1 #[] #[] 1537 3 #[] #[])
  fields := #[]
  methods := #[]
  instanceTypes := #[]
  staticTypes := #[]
  resolved := Array.replicate 7 none
  statics := none }

def pool12 : Array CpInfo := pool [(1, .methodref 2 3), (0, .class_ 4), (0, .nameAndType 5 6), (0, u "java/util/AbstractList"), (0, u "<init>"), (0, u "()V"), (0, .class_ 8), (0, u "java/lang/Object"), (0, .fieldref 10 11), (0, .class_ 12), (0, .nameAndType 13 14), (0, u "java/util/ArrayList"), (0, u "elementData"), (0, u "[Ljava/lang/Object;"), (2, u "EMPTY_ELEMENTDATA"), (21, .fieldref 10 40), (0, .nameAndType 41 14), (0, u "DEFAULTCAPACITY_EMPTY_ELEMENTDATA"), (5, u "()[Ljava/lang/Object;"), (0, .fieldref 10 49), (0, .nameAndType 50 51), (0, u "size"), (0, u "I"), (11, .fieldref 10 64), (0, .nameAndType 65 51), (0, u "modCount"), (3, .methodref 10 70), (0, .nameAndType 71 72), (0, u "grow"), (0, u "(I)[Ljava/lang/Object;"), (6, .methodref 80 81), (0, .class_ 82), (0, .nameAndType 83 84), (0, u "java/lang/Math"), (0, u "max"), (0, u "(II)I"), (11, u "(Ljava/lang/Object;)Z"), (21, .methodref 119 120), (0, .class_ 121), (0, .nameAndType 122 84), (0, u "java/util/Objects"), (0, u "checkIndex"), (0, .methodref 10 124), (0, .nameAndType 13 125), (0, u "(I)Ljava/lang/Object;"), (3, .methodref 10 130), (0, .nameAndType 71 47), (0, .methodref 10 132), (0, .nameAndType 133 134), (0, u "add"), (0, u "(Ljava/lang/Object;[Ljava/lang/Object;I)V"), (13, .class_ 149), (0, u "java/util/List"), (16, u "iterator"), (0, u "()Ljava/util/Iterator;"), (18, u "()I"), (75, .class_ 263), (0, u "java/util/ArrayList$ListItr"), (3, .class_ 268), (0, u "java/util/ArrayList$Itr"), (0, .methodref 267 270), (0, .nameAndType 5 271), (0, u "(Ljava/util/ArrayList;)V"), (4, .class_ 277), (0, u "java/util/ArrayList$SubList"), (12, .class_ 291), (0, u "java/util/ArrayList$ArrayListSpliterator"), (37, .class_ 330), (0, u "java/util/RandomAccess"), (0, .class_ 332), (0, u "java/lang/Cloneable"), (0, .class_ 334), (0, u "java/io/Serializable"), (0, u "serialVersionUID"), (0, u "J"), (3, u "DEFAULT_CAPACITY"), (40, u "get"), (118, .class_ 501), (0, u "java/util/ArrayList$SubList$2"), (0, .class_ 503), (0, u "java/util/ArrayList$SubList$1")] 5

def k12c0 : Code := { maxStack := 2, maxLocals := 1, code := jdk_38_method_2_code, exceptionTable := #[], attributes := #[] }
def k12m0 : Method := { name := "<init>", desc := "()V", sig := { parameters := [], returnType := none }, accessFlags := 1, code := some k12c0 }
def k12c1 : Code := { maxStack := 4, maxLocals := 4, code := jdk_38_method_6_code, exceptionTable := #[], attributes := #[] }
def k12m1 : Method := { name := "grow", desc := "(I)[Ljava/lang/Object;", sig := { parameters := [.int], returnType := some (.array (.object "java/lang/Object")) }, accessFlags := 2, code := some k12c1 }
def k12c2 : Code := { maxStack := 3, maxLocals := 1, code := jdk_38_method_7_code, exceptionTable := #[], attributes := #[] }
def k12m2 : Method := { name := "grow", desc := "()[Ljava/lang/Object;", sig := { parameters := [], returnType := some (.array (.object "java/lang/Object")) }, accessFlags := 2, code := some k12c2 }
def k12c3 : Code := { maxStack := 1, maxLocals := 1, code := jdk_38_method_8_code, exceptionTable := #[], attributes := #[] }
def k12m3 : Method := { name := "size", desc := "()I", sig := { parameters := [], returnType := some .int }, accessFlags := 1, code := some k12c3 }
def k12c4 : Code := { maxStack := 2, maxLocals := 2, code := jdk_38_method_18_code, exceptionTable := #[], attributes := #[] }
def k12m4 : Method := { name := "elementData", desc := "(I)Ljava/lang/Object;", sig := { parameters := [.int], returnType := some (.object "java/lang/Object") }, accessFlags := 0, code := some k12c4 }
def k12c5 : Code := { maxStack := 2, maxLocals := 2, code := jdk_38_method_20_code, exceptionTable := #[], attributes := #[] }
def k12m5 : Method := { name := "get", desc := "(I)Ljava/lang/Object;", sig := { parameters := [.int], returnType := some (.object "java/lang/Object") }, accessFlags := 1, code := some k12c5 }
def k12c6 : Code := { maxStack := 3, maxLocals := 4, code := jdk_38_method_24_code, exceptionTable := #[], attributes := #[] }
def k12m6 : Method := { name := "add", desc := "(Ljava/lang/Object;[Ljava/lang/Object;I)V", sig := { parameters := [(.object "java/lang/Object"), (.array (.object "java/lang/Object")), .int], returnType := none }, accessFlags := 2, code := some k12c6 }
def k12c7 : Code := { maxStack := 4, maxLocals := 2, code := jdk_38_method_25_code, exceptionTable := #[], attributes := #[] }
def k12m7 : Method := { name := "add", desc := "(Ljava/lang/Object;)Z", sig := { parameters := [(.object "java/lang/Object")], returnType := some .boolean }, accessFlags := 1, code := some k12c7 }
def k12c8 : Code := { maxStack := 3, maxLocals := 1, code := jdk_38_method_55_code, exceptionTable := #[], attributes := #[] }
def k12m8 : Method := { name := "iterator", desc := "()Ljava/util/Iterator;", sig := { parameters := [], returnType := some (.object "java/util/Iterator") }, accessFlags := 1, code := some k12c8 }
/-- java/util/ArrayList -/
def k12 : Class := { plain "java/util/ArrayList" (some 8) with
  accessFlags := 33
  interfaces := #[7, 9, 10, 11]
  cf := some (fileOf pool12 10 #[.nestMembers #[290, 276, 500, 502, 262, 267]] #[{ accessFlags := 1, nameIndex := 5, descriptorIndex := 6, attributes := #[] }, { accessFlags := 2, nameIndex := 71, descriptorIndex := 72, attributes := #[] }, { accessFlags := 2, nameIndex := 71, descriptorIndex := 47, attributes := #[] }, { accessFlags := 1, nameIndex := 50, descriptorIndex := 186, attributes := #[] }, { accessFlags := 0, nameIndex := 13, descriptorIndex := 125, attributes := #[] }, { accessFlags := 1, nameIndex := 381, descriptorIndex := 125, attributes := #[] }, { accessFlags := 2, nameIndex := 133, descriptorIndex := 134, attributes := #[] }, { accessFlags := 1, nameIndex := 133, descriptorIndex := 96, attributes := #[] }, { accessFlags := 1, nameIndex := 166, descriptorIndex := 167, attributes := #[] }] 33 2 #[148, 329, 331, 333] #[{ accessFlags := 26, nameIndex := 335, descriptorIndex := 336, attributes := #[] }, { accessFlags := 26, nameIndex := 340, descriptorIndex := 51, attributes := #[] }, { accessFlags := 26, nameIndex := 17, descriptorIndex := 14, attributes := #[] }, { accessFlags := 26, nameIndex := 41, descriptorIndex := 14, attributes := #[] }, { accessFlags := 128, nameIndex := 13, descriptorIndex := 14, attributes := #[] }, { accessFlags := 2, nameIndex := 50, descriptorIndex := 51, attributes := #[] }])
  fields := #[{ name := "serialVersionUID", type := .long, accessFlags := 26, slot := 0, constantValue := 0 }, { name := "DEFAULT_CAPACITY", type := .int, accessFlags := 26, slot := 1, constantValue := 0 }, { name := "EMPTY_ELEMENTDATA", type := (.array (.object "java/lang/Object")), accessFlags := 26, slot := 2, constantValue := 0 }, { name := "DEFAULTCAPACITY_EMPTY_ELEMENTDATA", type := (.array (.object "java/lang/Object")), accessFlags := 26, slot := 3, constantValue := 0 }, { name := "elementData", type := (.array (.object "java/lang/Object")), accessFlags := 128, slot := 1, constantValue := 0 }, { name := "size", type := .int, accessFlags := 2, slot := 2, constantValue := 0 }]
  methods := #[k12m0, k12m1, k12m2, k12m3, k12m4, k12m5, k12m6, k12m7, k12m8]
  instanceTypes := #[.int, (.array (.object "java/lang/Object")), .int]
  staticTypes := #[.long, .int, (.array (.object "java/lang/Object")), (.array (.object "java/lang/Object"))]
  resolved := Array.replicate 509 none
  statics := some 0 }

def pool13 : Array CpInfo := pool [(1, .class_ 2), (0, u "java/util/BitSet"), (2, u "$assertionsDisabled"), (0, u "Z"), (0, .fieldref 1 8), (0, .nameAndType 9 10), (0, u "wordsInUse"), (0, u "I"), (0, .fieldref 1 12), (0, .nameAndType 13 14), (0, u "words"), (0, u "[J"), (3, .nameAndType 19 20), (0, u "<init>"), (0, u "()V"), (0, .methodref 22 18), (0, .class_ 23), (0, u "java/lang/Object"), (0, .fieldref 1 25), (0, .nameAndType 26 6), (0, u "sizeIsSticky"), (0, .methodref 1 28), (0, .nameAndType 29 30), (0, u "initWords"), (0, u "(I)V"), (21, .methodref 1 53), (0, .nameAndType 54 55), (0, u "wordIndex"), (0, u "(I)I"), (213, .class_ 270), (0, u "java/util/BitSet$1BitSetSpliterator"), (22, u "serialPersistentFields"), (0, u "[Ljava/io/ObjectStreamField;"), (0, .class_ 296), (0, u "java/lang/Cloneable"), (0, .class_ 298), (0, u "java/io/Serializable"), (0, u "ADDRESS_BITS_PER_WORD"), (2, u "BITS_PER_WORD"), (1, u "BIT_INDEX_MASK"), (1, u "WORD_MASK"), (0, u "J"), (0, u "serialVersionUID")] 108

def k13c0 : Code := { maxStack := 2, maxLocals := 1, code := jdk_92_method_1_code, exceptionTable := #[], attributes := #[] }
def k13m0 : Method := { name := "wordIndex", desc := "(I)I", sig := { parameters := [.int], returnType := some .int }, accessFlags := 10, code := some k13c0 }
def k13c1 : Code := { maxStack := 2, maxLocals := 1, code := jdk_92_method_4_code, exceptionTable := #[], attributes := #[] }
def k13m1 : Method := { name := "<init>", desc := "()V", sig := { parameters := [], returnType := none }, accessFlags := 1, code := some k13c1 }
def k13c2 : Code := { maxStack := 3, maxLocals := 2, code := jdk_92_method_6_code, exceptionTable := #[], attributes := #[] }
def k13m2 : Method := { name := "initWords", desc := "(I)V", sig := { parameters := [.int], returnType := none }, accessFlags := 2, code := some k13c2 }
/-- java/util/BitSet -/
def k13 : Class := { plain "java/util/BitSet" (some 0) with
  accessFlags := 33
  interfaces := #[10, 11]
  cf := some (fileOf pool13 1 #[.nestMembers #[269]] #[{ accessFlags := 10, nameIndex := 54, descriptorIndex := 55, attributes := #[] }, { accessFlags := 1, nameIndex := 19, descriptorIndex := 20, attributes := #[] }, { accessFlags := 2, nameIndex := 29, descriptorIndex := 30, attributes := #[] }] 33 22 #[295, 297] #[{ accessFlags := 26, nameIndex := 299, descriptorIndex := 10, attributes := #[] }, { accessFlags := 26, nameIndex := 302, descriptorIndex := 10, attributes := #[] }, { accessFlags := 26, nameIndex := 304, descriptorIndex := 10, attributes := #[] }, { accessFlags := 26, nameIndex := 306, descriptorIndex := 307, attributes := #[] }, { accessFlags := 26, nameIndex := 293, descriptorIndex := 294, attributes := #[] }, { accessFlags := 2, nameIndex := 13, descriptorIndex := 14, attributes := #[] }, { accessFlags := 130, nameIndex := 9, descriptorIndex := 10, attributes := #[] }, { accessFlags := 130, nameIndex := 26, descriptorIndex := 6, attributes := #[] }, { accessFlags := 26, nameIndex := 308, descriptorIndex := 307, attributes := #[] }, { accessFlags := 4120, nameIndex := 5, descriptorIndex := 6, attributes := #[] }])
  fields := #[{ name := "ADDRESS_BITS_PER_WORD", type := .int, accessFlags := 26, slot := 0, constantValue := 0 }, { name := "BITS_PER_WORD", type := .int, accessFlags := 26, slot := 1, constantValue := 0 }, { name := "BIT_INDEX_MASK", type := .int, accessFlags := 26, slot := 2, constantValue := 0 }, { name := "WORD_MASK", type := .long, accessFlags := 26, slot := 3, constantValue := 0 }, { name := "serialPersistentFields", type := (.array (.object "java/io/ObjectStreamField")), accessFlags := 26, slot := 4, constantValue := 0 }, { name := "words", type := (.array .long), accessFlags := 2, slot := 0, constantValue := 0 }, { name := "wordsInUse", type := .int, accessFlags := 130, slot := 1, constantValue := 0 }, { name := "sizeIsSticky", type := .boolean, accessFlags := 130, slot := 2, constantValue := 0 }, { name := "serialVersionUID", type := .long, accessFlags := 26, slot := 5, constantValue := 0 }, { name := "$assertionsDisabled", type := .boolean, accessFlags := 4120, slot := 6, constantValue := 0 }]
  methods := #[k13m0, k13m1, k13m2]
  instanceTypes := #[(.array .long), .int, .boolean]
  staticTypes := #[.int, .int, .int, .long, (.array (.object "java/io/ObjectStreamField")), .long, .boolean]
  resolved := Array.replicate 417 none
  statics := none }

def pool14 : Array CpInfo := pool [(2, .class_ 4), (1, u "java/lang/Object"), (0, u "<init>"), (0, u "()V"), (1, .class_ 10), (1, u "java/lang/Number"), (2, .class_ 14), (0, u "java/io/Serializable"), (0, u "serialVersionUID"), (0, u "J")] 20

def k14m0 : Method := { name := "<init>", desc := "()V", sig := { parameters := [], returnType := none }, accessFlags := 1, code := none }
/-- java/lang/Number -/
def k14 : Class := { plain "java/lang/Number" (some 0) with
  accessFlags := 1057
  interfaces := #[11]
  cf := some (fileOf pool14 8 #[] #[{ accessFlags := 1, nameIndex := 5, descriptorIndex := 6, attributes := #[] }] 1057 2 #[13] #[{ accessFlags := 26, nameIndex := 15, descriptorIndex := 16, attributes := #[] }])
  fields := #[{ name := "serialVersionUID", type := .long, accessFlags := 26, slot := 0, constantValue := 0 }]
  methods := #[k14m0]
  instanceTypes := #[]
  staticTypes := #[.long]
  resolved := Array.replicate 37 none
  statics := none }

def pool15 : Array CpInfo := pool [(1, .class_ 2), (0, u "java/lang/Comparable"), (0, .class_ 4), (0, u "java/lang/Object")] 7

/-- java/lang/Comparable -/
def k15 : Class := { plain "java/lang/Comparable" (some 0) with
  accessFlags := 1537
  interfaces := #[]
  cf := some (fileOf pool15 1 #[] #[] 1537 3 #[] #[])
  fields := #[]
  methods := #[]
  instanceTypes := #[]
  staticTypes := #[]
  resolved := Array.replicate 12 none
  statics := none }

def pool16 : Array CpInfo := pool [(4, .class_ 6), (1, u "java/lang/Number"), (16, .class_ 25), (1, u "java/math/BigInteger"), (0, u "ZERO"), (0, u "Ljava/math/BigInteger;"), (2, u "mag"), (0, u "[I"), (0, .fieldref 23 33), (0, .nameAndType 34 35), (0, u "signum"), (0, u "I"), (38, u "()I"), (20, u "bitsPerDigit"), (0, u "[J"), (9, u "digitsPerInt"), (12, u "intRadix"), (60, u "SMALL_PRIME_PRODUCT"), (79, u "ONE"), (6, u "TWO"), (43, u "$assertionsDisabled"), (0, u "Z"), (36, u "posConst"), (0, u "[Ljava/math/BigInteger;"), (4, u "negConst"), (116, .class_ 474), (1, u "java/math/BigInteger$RecursiveOp"), (106, u "NEGATIVE_ONE"), (91, u "bnExpModThreshTable"), (72, u "lowestSetBitPlusTwo"), (2, u "bitLengthPlusOne"), (2, u "bitCountPlusOne"), (6, u "LOG_TWO"), (0, u "D"), (2, u "logCache"), (0, u "[D"), (13, u "NUM_ZEROS"), (2, u "ZEROS"), (0, u "Ljava/lang/String;"), (9, u "longRadix"), (5, u "digitsPerLong"), (22, u "powerCache"), (0, u "[[Ljava/math/BigInteger;"), (45, u "firstNonzeroIntNumPlusTwo"), (38, .class_ 909), (1, u "java/math/BigInteger$UnsafeHolder"), (141, u "TEN"), (106, u "serialPersistentFields"), (0, u "[Ljava/io/ObjectStreamField;"), (0, .class_ 1161), (0, u "java/lang/Comparable"), (0, u "LONG_MASK"), (0, u "J"), (1, u "MAX_MAG_LENGTH"), (0, u "PRIME_SEARCH_BIT_LENGTH_LIMIT"), (1, u "KARATSUBA_THRESHOLD"), (1, u "TOOM_COOK_THRESHOLD"), (1, u "KARATSUBA_SQUARE_THRESHOLD"), (1, u "TOOM_COOK_SQUARE_THRESHOLD"), (1, u "BURNIKEL_ZIEGLER_THRESHOLD"), (0, u "BURNIKEL_ZIEGLER_OFFSET"), (1, u "SCHOENHAGE_BASE_CONVERSION_THRESHOLD"), (1, u "MULTIPLY_SQUARE_THRESHOLD"), (0, u "MONTGOMERY_INTRINSIC_THRESHOLD"), (1, u "SMALL_PRIME_THRESHOLD"), (1, u "DEFAULT_PRIME_CERTAINTY"), (1, u "MAX_CONSTANT"), (3, u "serialVersionUID"), (338, .class_ 1532), (0, u "java/math/BigInteger$RecursiveOp$RecursiveSquare"), (0, .class_ 1534), (0, u "java/math/BigInteger$RecursiveOp$RecursiveMultiply")] 7

def k16c0 : Code := { maxStack := 1, maxLocals := 1, code := jdk_2097_method_81_code, exceptionTable := #[], attributes := #[] }
def k16m0 : Method := { name := "signum", desc := "()I", sig := { parameters := [], returnType := some .int }, accessFlags := 1, code := some k16c0 }
/-- java/math/BigInteger -/
def k16 : Class := { plain "java/math/BigInteger" (some 14) with
  accessFlags := 33
  interfaces := #[15]
  cf := some (fileOf pool16 23 #[.nestMembers #[907, 472, 1531, 1533]] #[{ accessFlags := 1, nameIndex := 34, descriptorIndex := 74, attributes := #[] }] 33 4 #[1160] #[{ accessFlags := 16, nameIndex := 34, descriptorIndex := 35, attributes := #[] }, { accessFlags := 16, nameIndex := 30, descriptorIndex := 31, attributes := #[] }, { accessFlags := 2, nameIndex := 752, descriptorIndex := 35, attributes := #[] }, { accessFlags := 2, nameIndex := 749, descriptorIndex := 35, attributes := #[] }, { accessFlags := 2, nameIndex := 746, descriptorIndex := 35, attributes := #[] }, { accessFlags := 2, nameIndex := 868, descriptorIndex := 35, attributes := #[] }, { accessFlags := 24, nameIndex := 1162, descriptorIndex := 1163, attributes := #[] }, { accessFlags := 26, nameIndex := 1165, descriptorIndex := 35, attributes := #[] }, { accessFlags := 26, nameIndex := 1166, descriptorIndex := 35, attributes := #[] }, { accessFlags := 26, nameIndex := 1168, descriptorIndex := 35, attributes := #[] }, { accessFlags := 26, nameIndex := 1170, descriptorIndex := 35, attributes := #[] }, { accessFlags := 26, nameIndex := 1172, descriptorIndex := 35, attributes := #[] }, { accessFlags := 26, nameIndex := 1174, descriptorIndex := 35, attributes := #[] }, { accessFlags := 24, nameIndex := 1176, descriptorIndex := 35, attributes := #[] }, { accessFlags := 24, nameIndex := 1177, descriptorIndex := 35, attributes := #[] }, { accessFlags := 26, nameIndex := 1179, descriptorIndex := 35, attributes := #[] }, { accessFlags := 26, nameIndex := 1181, descriptorIndex := 35, attributes := #[] }, { accessFlags := 26, nameIndex := 1182, descriptorIndex := 35, attributes := #[] }, { accessFlags := 10, nameIndex := 95, descriptorIndex := 96, attributes := #[] }, { accessFlags := 26, nameIndex := 1184, descriptorIndex := 35, attributes := #[] }, { accessFlags := 26, nameIndex := 1186, descriptorIndex := 35, attributes := #[] }, { accessFlags := 26, nameIndex := 180, descriptorIndex := 27, attributes := #[] }, { accessFlags := 26, nameIndex := 1188, descriptorIndex := 35, attributes := #[] }, { accessFlags := 26, nameIndex := 349, descriptorIndex := 350, attributes := #[] }, { accessFlags := 26, nameIndex := 355, descriptorIndex := 350, attributes := #[] }, { accessFlags := 74, nameIndex := 821, descriptorIndex := 822, attributes := #[] }, { accessFlags := 26, nameIndex := 763, descriptorIndex := 764, attributes := #[] }, { accessFlags := 26, nameIndex := 759, descriptorIndex := 760, attributes := #[] }, { accessFlags := 25, nameIndex := 26, descriptorIndex := 27, attributes := #[] }, { accessFlags := 25, nameIndex := 260, descriptorIndex := 27, attributes := #[] }, { accessFlags := 25, nameIndex := 267, descriptorIndex := 27, attributes := #[] }, { accessFlags := 26, nameIndex := 581, descriptorIndex := 27, attributes := #[] }, { accessFlags := 25, nameIndex := 1051, descriptorIndex := 27, attributes := #[] }, { accessFlags := 8, nameIndex := 673, descriptorIndex := 31, attributes := #[] }, { accessFlags := 10, nameIndex := 778, descriptorIndex := 35, attributes := #[] }, { accessFlags := 26, nameIndex := 781, descriptorIndex := 782, attributes := #[] }, { accessFlags := 10, nameIndex := 798, descriptorIndex := 31, attributes := #[] }, { accessFlags := 10, nameIndex := 792, descriptorIndex := 350, attributes := #[] }, { accessFlags := 10, nameIndex := 106, descriptorIndex := 31, attributes := #[] }, { accessFlags := 10, nameIndex := 119, descriptorIndex := 31, attributes := #[] }, { accessFlags := 26, nameIndex := 1192, descriptorIndex := 1163, attributes := #[] }, { accessFlags := 26, nameIndex := 1158, descriptorIndex := 1159, attributes := #[] }, { accessFlags := 4120, nameIndex := 311, descriptorIndex := 312, attributes := #[] }])
  fields := #[{ name := "signum", type := .int, accessFlags := 16, slot := 0, constantValue := 0 }, { name := "mag", type := (.array .int), accessFlags := 16, slot := 1, constantValue := 0 }, { name := "bitCountPlusOne", type := .int, accessFlags := 2, slot := 2, constantValue := 0 }, { name := "bitLengthPlusOne", type := .int, accessFlags := 2, slot := 3, constantValue := 0 }, { name := "lowestSetBitPlusTwo", type := .int, accessFlags := 2, slot := 4, constantValue := 0 }, { name := "firstNonzeroIntNumPlusTwo", type := .int, accessFlags := 2, slot := 5, constantValue := 0 }, { name := "LONG_MASK", type := .long, accessFlags := 24, slot := 0, constantValue := 0 }, { name := "MAX_MAG_LENGTH", type := .int, accessFlags := 26, slot := 1, constantValue := 0 }, { name := "PRIME_SEARCH_BIT_LENGTH_LIMIT", type := .int, accessFlags := 26, slot := 2, constantValue := 0 }, { name := "KARATSUBA_THRESHOLD", type := .int, accessFlags := 26, slot := 3, constantValue := 0 }, { name := "TOOM_COOK_THRESHOLD", type := .int, accessFlags := 26, slot := 4, constantValue := 0 }, { name := "KARATSUBA_SQUARE_THRESHOLD", type := .int, accessFlags := 26, slot := 5, constantValue := 0 }, { name := "TOOM_COOK_SQUARE_THRESHOLD", type := .int, accessFlags := 26, slot := 6, constantValue := 0 }, { name := "BURNIKEL_ZIEGLER_THRESHOLD", type := .int, accessFlags := 24, slot := 7, constantValue := 0 }, { name := "BURNIKEL_ZIEGLER_OFFSET", type := .int, accessFlags := 24, slot := 8, constantValue := 0 }, { name := "SCHOENHAGE_BASE_CONVERSION_THRESHOLD", type := .int, accessFlags := 26, slot := 9, constantValue := 0 }, { name := "MULTIPLY_SQUARE_THRESHOLD", type := .int, accessFlags := 26, slot := 10, constantValue := 0 }, { name := "MONTGOMERY_INTRINSIC_THRESHOLD", type := .int, accessFlags := 26, slot := 11, constantValue := 0 }, { name := "bitsPerDigit", type := (.array .long), accessFlags := 10, slot := 12, constantValue := 0 }, { name := "SMALL_PRIME_THRESHOLD", type := .int, accessFlags := 26, slot := 13, constantValue := 0 }, { name := "DEFAULT_PRIME_CERTAINTY", type := .int, accessFlags := 26, slot := 14, constantValue := 0 }, { name := "SMALL_PRIME_PRODUCT", type := (.object "java/math/BigInteger"), accessFlags := 26, slot := 15, constantValue := 0 }, { name := "MAX_CONSTANT", type := .int, accessFlags := 26, slot := 16, constantValue := 0 }, { name := "posConst", type := (.array (.object "java/math/BigInteger")), accessFlags := 26, slot := 17, constantValue := 0 }, { name := "negConst", type := (.array (.object "java/math/BigInteger")), accessFlags := 26, slot := 18, constantValue := 0 }, { name := "powerCache", type := (.array (.array (.object "java/math/BigInteger"))), accessFlags := 74, slot := 19, constantValue := 0 }, { name := "logCache", type := (.array .double), accessFlags := 26, slot := 20, constantValue := 0 }, { name := "LOG_TWO", type := .double, accessFlags := 26, slot := 21, constantValue := 0 }, { name := "ZERO", type := (.object "java/math/BigInteger"), accessFlags := 25, slot := 22, constantValue := 0 }, { name := "ONE", type := (.object "java/math/BigInteger"), accessFlags := 25, slot := 23, constantValue := 0 }, { name := "TWO", type := (.object "java/math/BigInteger"), accessFlags := 25, slot := 24, constantValue := 0 }, { name := "NEGATIVE_ONE", type := (.object "java/math/BigInteger"), accessFlags := 26, slot := 25, constantValue := 0 }, { name := "TEN", type := (.object "java/math/BigInteger"), accessFlags := 25, slot := 26, constantValue := 0 }, { name := "bnExpModThreshTable", type := (.array .int), accessFlags := 8, slot := 27, constantValue := 0 }, { name := "NUM_ZEROS", type := .int, accessFlags := 10, slot := 28, constantValue := 0 }, { name := "ZEROS", type := (.object "java/lang/String"), accessFlags := 26, slot := 29, constantValue := 0 }, { name := "digitsPerLong", type := (.array .int), accessFlags := 10, slot := 30, constantValue := 0 }, { name := "longRadix", type := (.array (.object "java/math/BigInteger")), accessFlags := 10, slot := 31, constantValue := 0 }, { name := "digitsPerInt", type := (.array .int), accessFlags := 10, slot := 32, constantValue := 0 }, { name := "intRadix", type := (.array .int), accessFlags := 10, slot := 33, constantValue := 0 }, { name := "serialVersionUID", type := .long, accessFlags := 26, slot := 34, constantValue := 0 }, { name := "serialPersistentFields", type := (.array (.object "java/io/ObjectStreamField")), accessFlags := 26, slot := 35, constantValue := 0 }, { name := "$assertionsDisabled", type := .boolean, accessFlags := 4120, slot := 36, constantValue := 0 }]
  methods := #[k16m0]
  instanceTypes := #[.int, (.array .int), .int, .int, .int, .int]
  staticTypes := #[.long, .int, .int, .int, .int, .int, .int, .int, .int, .int, .int, .int, (.array .long), .int, .int, (.object "java/math/BigInteger"), .int, (.array (.object "java/math/BigInteger")), (.array (.object "java/math/BigInteger")), (.array (.array (.object "java/math/BigInteger"))), (.array .double), .double, (.object "java/math/BigInteger"), (.object "java/math/BigInteger"), (.object "java/math/BigInteger"), (.object "java/math/BigInteger"), (.object "java/math/BigInteger"), (.array .int), .int, (.object "java/lang/String"), (.array .int), (.array (.object "java/math/BigInteger")), (.array .int), (.array .int), .long, (.array (.object "java/io/ObjectStreamField")), .boolean]
  resolved := Array.replicate 1542 none
  statics := some 1 }

def pool17 : Array CpInfo := pool [(1, .class_ 2), (0, u "java/lang/Math"), (1, .class_ 6), (1, u "java/lang/Object"), (0, u "<init>"), (0, u "()V"), (89, .class_ 100), (1, u "java/lang/Math$RandomNumberGeneratorHolder"), (71, u "negativeZeroFloatBits"), (0, u "J"), (2, u "negativeZeroDoubleBits"), (21, u "max"), (2, u "min"), (43, u "$assertionsDisabled"), (0, u "Z"), (88, u "(II)I"), (2, u "twoToTheDoubleScaleDown"), (0, u "D"), (4, u "twoToTheDoubleScaleUp"), (9, u "E"), (3, u "PI"), (2, u "TAU"), (2, u "DEGREES_TO_RADIANS"), (0, u "RADIANS_TO_DEGREES")] 94

def k17m0 : Method := { name := "<init>", desc := "()V", sig := { parameters := [], returnType := none }, accessFlags := 2, code := none }
def k17c1 : Code := { maxStack := 2, maxLocals := 2, code := jdk_29_method_65_code, exceptionTable := #[], attributes := #[] }
def k17m1 : Method := { name := "max", desc := "(II)I", sig := { parameters := [.int, .int], returnType := some .int }, accessFlags := 9, code := some k17c1 }
def k17c2 : Code := { maxStack := 2, maxLocals := 2, code := jdk_29_method_69_code, exceptionTable := #[], attributes := #[] }
def k17m2 : Method := { name := "min", desc := "(II)I", sig := { parameters := [.int, .int], returnType := some .int }, accessFlags := 9, code := some k17c2 }
/-- java/lang/Math -/
def k17 : Class := { plain "java/lang/Math" (some 0) with
  accessFlags := 49
  interfaces := #[]
  cf := some (fileOf pool17 1 #[.nestMembers #[98]] #[{ accessFlags := 2, nameIndex := 7, descriptorIndex := 8, attributes := #[] }, { accessFlags := 9, nameIndex := 198, descriptorIndex := 335, attributes := #[] }, { accessFlags := 9, nameIndex := 201, descriptorIndex := 335, attributes := #[] }] 49 4 #[] #[{ accessFlags := 25, nameIndex := 354, descriptorIndex := 339, attributes := #[] }, { accessFlags := 25, nameIndex := 358, descriptorIndex := 339, attributes := #[] }, { accessFlags := 25, nameIndex := 361, descriptorIndex := 339, attributes := #[] }, { accessFlags := 26, nameIndex := 364, descriptorIndex := 339, attributes := #[] }, { accessFlags := 26, nameIndex := 365, descriptorIndex := 339, attributes := #[] }, { accessFlags := 26, nameIndex := 172, descriptorIndex := 173, attributes := #[] }, { accessFlags := 26, nameIndex := 176, descriptorIndex := 173, attributes := #[] }, { accessFlags := 8, nameIndex := 344, descriptorIndex := 339, attributes := #[] }, { accessFlags := 8, nameIndex := 338, descriptorIndex := 339, attributes := #[] }, { accessFlags := 4120, nameIndex := 245, descriptorIndex := 246, attributes := #[] }])
  fields := #[{ name := "E", type := .double, accessFlags := 25, slot := 0, constantValue := 0 }, { name := "PI", type := .double, accessFlags := 25, slot := 1, constantValue := 0 }, { name := "TAU", type := .double, accessFlags := 25, slot := 2, constantValue := 0 }, { name := "DEGREES_TO_RADIANS", type := .double, accessFlags := 26, slot := 3, constantValue := 0 }, { name := "RADIANS_TO_DEGREES", type := .double, accessFlags := 26, slot := 4, constantValue := 0 }, { name := "negativeZeroFloatBits", type := .long, accessFlags := 26, slot := 5, constantValue := 0 }, { name := "negativeZeroDoubleBits", type := .long, accessFlags := 26, slot := 6, constantValue := 0 }, { name := "twoToTheDoubleScaleUp", type := .double, accessFlags := 8, slot := 7, constantValue := 0 }, { name := "twoToTheDoubleScaleDown", type := .double, accessFlags := 8, slot := 8, constantValue := 0 }, { name := "$assertionsDisabled", type := .boolean, accessFlags := 4120, slot := 9, constantValue := 0 }]
  methods := #[k17m0, k17m1, k17m2]
  instanceTypes := #[]
  staticTypes := #[.double, .double, .double, .double, .double, .long, .long, .double, .double, .boolean]
  resolved := Array.replicate 460 none
  statics := none }

def pool18 : Array CpInfo := pool [(1, .methodref 2 3), (0, .class_ 4), (0, .nameAndType 5 6), (0, u "java/lang/Object"), (0, u "<init>"), (0, u "()V"), (0, .methodref 8 9), (0, .class_ 10), (0, .nameAndType 11 12), (0, u "com/example/variegate/variegate/service/Cnf"), (0, u "variables"), (0, u "()I"), (0, .fieldref 14 15), (0, .class_ 16), (0, .nameAndType 11 17), (0, u "com/example/variegate/variegate/service/Propagation"), (0, u "I"), (0, .class_ 19), (0, u "java/math/BigInteger"), (0, .fieldref 14 21), (0, .nameAndType 22 23), (0, u "weight"), (0, u "[Ljava/math/BigInteger;"), (0, .methodref 8 25), (0, .nameAndType 22 26), (0, u "(I)Ljava/math/BigInteger;"), (0, .fieldref 14 28), (0, .nameAndType 29 30), (0, u "value"), (0, u "[B"), (0, .fieldref 14 32), (0, .nameAndType 33 34), (0, u "trail"), (0, u "[I"), (0, .class_ 36), (0, u "java/util/ArrayList"), (0, .methodref 35 3), (0, .methodref 8 39), (0, .nameAndType 40 41), (0, u "clauses"), (0, u "()Ljava/util/List;"), (0, .interfaceMethodref 43 44), (0, .class_ 45), (0, .nameAndType 46 12), (0, u "java/util/List"), (0, u "size"), (0, .fieldref 14 48), (0, .nameAndType 49 50), (0, u "redundant"), (0, u "[Z"), (0, .interfaceMethodref 43 52), (0, .nameAndType 53 54), (0, u "get"), (0, u "(I)Ljava/lang/Object;"), (0, .class_ 34), (4, .fieldref 14 61), (0, .nameAndType 62 63), (0, u "contradiction"), (0, u "Z"), (0, .interfaceMethodref 43 65), (0, .nameAndType 66 67), (0, u "add"), (0, u "(Ljava/lang/Object;)Z"), (4, .fieldref 14 73), (0, .nameAndType 74 75), (0, u "implied"), (0, u "[[I"), (0, .fieldref 14 77), (0, .nameAndType 78 34), (0, u "NONE"), (0, .methodref 80 81), (0, .class_ 82), (0, .nameAndType 83 84), (0, u "java/util/Arrays"), (0, u "fill"), (0, u "([II)V"), (0, .interfaceMethodref 43 86), (0, .nameAndType 87 88), (0, u "iterator"), (0, u "()Ljava/util/Iterator;"), (0, .interfaceMethodref 90 91), (0, .class_ 92), (0, .nameAndType 93 94), (0, u "java/util/Iterator"), (0, u "hasNext"), (0, u "()Z"), (4, .fieldref 14 100), (0, .nameAndType 101 34), (0, u "literals"), (0, .fieldref 14 103), (0, .nameAndType 104 34), (0, u "clauseStart"), (0, .fieldref 14 106), (0, .nameAndType 107 75), (0, u "occurrences"), (0, .fieldref 14 109), (0, .nameAndType 110 75), (0, u "watches"), (0, .methodref 80 112), (0, .nameAndType 83 113), (0, u "([Ljava/lang/Object;Ljava/lang/Object;)V"), (0, .fieldref 14 115), (0, .nameAndType 116 34), (0, u "watchCount"), (10, .methodref 14 128), (0, .nameAndType 129 130), (0, u "assign"), (0, u "(I)V"), (0, .methodref 18 132), (0, .nameAndType 133 12), (0, u "signum"), (16, .fieldref 14 151), (0, .nameAndType 152 17), (0, u "trailSize"), (42, .fieldref 14 196), (0, .nameAndType 197 17), (0, u "propagated"), (13, u "INTERRUPTED"), (0, u "Ljava/lang/String;"), (1, u "(Lcom/example/variegate/variegate/service/Cnf;)V"), (12, u "backtrack")] 23

def k18c0 : Code := { maxStack := 6, maxLocals := 15, code := prog_97_method_1_code, exceptionTable := #[], attributes := #[] }
def k18m0 : Method := { name := "<init>", desc := "(Lcom/example/variegate/variegate/service/Cnf;)V", sig := { parameters := [(.object "com/example/variegate/variegate/service/Cnf")], returnType := none }, accessFlags := 0, code := some k18c0 }
def k18c1 : Code := { maxStack := 1, maxLocals := 1, code := prog_97_method_6_code, exceptionTable := #[], attributes := #[] }
def k18m1 : Method := { name := "trailSize", desc := "()I", sig := { parameters := [], returnType := some .int }, accessFlags := 0, code := some k18c1 }
def k18c2 : Code := { maxStack := 5, maxLocals := 2, code := prog_97_method_10_code, exceptionTable := #[], attributes := #[] }
def k18m2 : Method := { name := "assign", desc := "(I)V", sig := { parameters := [.int], returnType := none }, accessFlags := 0, code := some k18c2 }
def k18c3 : Code := { maxStack := 4, maxLocals := 3, code := prog_97_method_11_code, exceptionTable := #[], attributes := #[] }
def k18m3 : Method := { name := "backtrack", desc := "(I)V", sig := { parameters := [.int], returnType := none }, accessFlags := 0, code := some k18c3 }
/-- com/example/variegate/variegate/service/Propagation -/
def k18 : Class := { plain "com/example/variegate/variegate/service/Propagation" (some 0) with
  accessFlags := 48
  interfaces := #[]
  cf := some (fileOf pool18 14 #[] #[{ accessFlags := 0, nameIndex := 5, descriptorIndex := 214, attributes := #[] }, { accessFlags := 0, nameIndex := 152, descriptorIndex := 12, attributes := #[] }, { accessFlags := 0, nameIndex := 129, descriptorIndex := 130, attributes := #[] }, { accessFlags := 0, nameIndex := 227, descriptorIndex := 130, attributes := #[] }] 48 2 #[] #[{ accessFlags := 24, nameIndex := 211, descriptorIndex := 212, attributes := #[] }, { accessFlags := 26, nameIndex := 78, descriptorIndex := 34, attributes := #[] }, { accessFlags := 16, nameIndex := 11, descriptorIndex := 17, attributes := #[] }, { accessFlags := 16, nameIndex := 22, descriptorIndex := 23, attributes := #[] }, { accessFlags := 16, nameIndex := 101, descriptorIndex := 34, attributes := #[] }, { accessFlags := 16, nameIndex := 104, descriptorIndex := 34, attributes := #[] }, { accessFlags := 18, nameIndex := 49, descriptorIndex := 50, attributes := #[] }, { accessFlags := 16, nameIndex := 74, descriptorIndex := 75, attributes := #[] }, { accessFlags := 16, nameIndex := 107, descriptorIndex := 75, attributes := #[] }, { accessFlags := 18, nameIndex := 110, descriptorIndex := 75, attributes := #[] }, { accessFlags := 18, nameIndex := 116, descriptorIndex := 34, attributes := #[] }, { accessFlags := 16, nameIndex := 29, descriptorIndex := 30, attributes := #[] }, { accessFlags := 16, nameIndex := 33, descriptorIndex := 34, attributes := #[] }, { accessFlags := 2, nameIndex := 152, descriptorIndex := 17, attributes := #[] }, { accessFlags := 2, nameIndex := 197, descriptorIndex := 17, attributes := #[] }, { accessFlags := 2, nameIndex := 62, descriptorIndex := 63, attributes := #[] }])
  fields := #[{ name := "INTERRUPTED", type := (.object "java/lang/String"), accessFlags := 24, slot := 0, constantValue := 0 }, { name := "NONE", type := (.array .int), accessFlags := 26, slot := 1, constantValue := 0 }, { name := "variables", type := .int, accessFlags := 16, slot := 0, constantValue := 0 }, { name := "weight", type := (.array (.object "java/math/BigInteger")), accessFlags := 16, slot := 1, constantValue := 0 }, { name := "literals", type := (.array .int), accessFlags := 16, slot := 2, constantValue := 0 }, { name := "clauseStart", type := (.array .int), accessFlags := 16, slot := 3, constantValue := 0 }, { name := "redundant", type := (.array .boolean), accessFlags := 18, slot := 4, constantValue := 0 }, { name := "implied", type := (.array (.array .int)), accessFlags := 16, slot := 5, constantValue := 0 }, { name := "occurrences", type := (.array (.array .int)), accessFlags := 16, slot := 6, constantValue := 0 }, { name := "watches", type := (.array (.array .int)), accessFlags := 18, slot := 7, constantValue := 0 }, { name := "watchCount", type := (.array .int), accessFlags := 18, slot := 8, constantValue := 0 }, { name := "value", type := (.array .byte), accessFlags := 16, slot := 9, constantValue := 0 }, { name := "trail", type := (.array .int), accessFlags := 16, slot := 10, constantValue := 0 }, { name := "trailSize", type := .int, accessFlags := 2, slot := 11, constantValue := 0 }, { name := "propagated", type := .int, accessFlags := 2, slot := 12, constantValue := 0 }, { name := "contradiction", type := .boolean, accessFlags := 2, slot := 13, constantValue := 0 }]
  methods := #[k18m0, k18m1, k18m2, k18m3]
  instanceTypes := #[.int, (.array (.object "java/math/BigInteger")), (.array .int), (.array .int), (.array .boolean), (.array (.array .int)), (.array (.array .int)), (.array (.array .int)), (.array .int), (.array .byte), (.array .int), .int, .int, .boolean]
  staticTypes := #[(.object "java/lang/String"), (.array .int)]
  resolved := Array.replicate 251 none
  statics := some 2 }

def pool19 : Array CpInfo := pool [(2, .class_ 4), (1, u "java/lang/Object"), (0, u "<init>"), (0, u "()V"), (35, .class_ 44), (1, u "java/util/Objects"), (60, .methodref 106 107), (0, .class_ 108), (0, .nameAndType 109 110), (0, u "jdk/internal/util/Preconditions"), (0, u "checkIndex"), (0, u "(IILjava/util/function/BiFunction;)I"), (60, u "(II)I")] 12

def k19m0 : Method := { name := "<init>", desc := "()V", sig := { parameters := [], returnType := none }, accessFlags := 2, code := none }
def k19c1 : Code := { maxStack := 3, maxLocals := 2, code := jdk_31_method_17_code, exceptionTable := #[], attributes := #[] }
def k19m1 : Method := { name := "checkIndex", desc := "(II)I", sig := { parameters := [.int, .int], returnType := some .int }, accessFlags := 9, code := some k19c1 }
/-- java/util/Objects -/
def k19 : Class := { plain "java/util/Objects" (some 0) with
  accessFlags := 49
  interfaces := #[]
  cf := some (fileOf pool19 42 #[] #[{ accessFlags := 2, nameIndex := 5, descriptorIndex := 6, attributes := #[] }, { accessFlags := 9, nameIndex := 109, descriptorIndex := 171, attributes := #[] }] 49 2 #[] #[])
  fields := #[]
  methods := #[k19m0, k19m1]
  instanceTypes := #[]
  staticTypes := #[]
  resolved := Array.replicate 184 none
  statics := none }

def pool20 : Array CpInfo := pool [(2, .class_ 4), (1, u "java/lang/Object"), (0, u "<init>"), (0, u "()V"), (17, .class_ 26), (1, u "jdk/internal/util/Preconditions"), (6, u "checkIndex"), (21, .class_ 56), (0, u "jdk/internal/util/Preconditions$4"), (57, .class_ 115), (0, u "jdk/internal/util/Preconditions$1"), (7, u "SIOOBE_FORMATTER"), (0, u "Ljava/util/function/BiFunction;"), (0, .class_ 126), (0, u "jdk/internal/util/Preconditions$2"), (3, u "AIOOBE_FORMATTER"), (0, .class_ 132), (0, u "jdk/internal/util/Preconditions$3"), (3, u "IOOBE_FORMATTER"), (41, u "(IILjava/util/function/BiFunction;)I")] 15

def k20m0 : Method := { name := "<init>", desc := "()V", sig := { parameters := [], returnType := none }, accessFlags := 1, code := none }
def k20c1 : Code := { maxStack := 3, maxLocals := 3, code := jdk_41_method_11_code, exceptionTable := #[], attributes := #[] }
def k20m1 : Method := { name := "checkIndex", desc := "(IILjava/util/function/BiFunction;)I", sig := { parameters := [.int, .int, (.object "java/util/function/BiFunction")], returnType := some .int }, accessFlags := 9, code := some k20c1 }
/-- jdk/internal/util/Preconditions -/
def k20 : Class := { plain "jdk/internal/util/Preconditions" (some 0) with
  accessFlags := 33
  interfaces := #[]
  cf := some (fileOf pool20 24 #[.nestMembers #[55, 131, 125, 114]] #[{ accessFlags := 1, nameIndex := 5, descriptorIndex := 6, attributes := #[] }, { accessFlags := 9, nameIndex := 33, descriptorIndex := 178, attributes := #[] }] 33 2 #[] #[{ accessFlags := 25, nameIndex := 123, descriptorIndex := 124, attributes := #[] }, { accessFlags := 25, nameIndex := 130, descriptorIndex := 124, attributes := #[] }, { accessFlags := 25, nameIndex := 136, descriptorIndex := 124, attributes := #[] }])
  fields := #[{ name := "SIOOBE_FORMATTER", type := (.object "java/util/function/BiFunction"), accessFlags := 25, slot := 0, constantValue := 0 }, { name := "AIOOBE_FORMATTER", type := (.object "java/util/function/BiFunction"), accessFlags := 25, slot := 1, constantValue := 0 }, { name := "IOOBE_FORMATTER", type := (.object "java/util/function/BiFunction"), accessFlags := 25, slot := 2, constantValue := 0 }]
  methods := #[k20m0, k20m1]
  instanceTypes := #[]
  staticTypes := #[(.object "java/util/function/BiFunction"), (.object "java/util/function/BiFunction"), (.object "java/util/function/BiFunction")]
  resolved := Array.replicate 194 none
  statics := none }

def pool21 : Array CpInfo := pool [(2, .class_ 4), (1, u "java/lang/Object"), (0, u "<init>"), (0, u "()V"), (7, .class_ 16), (1, u "java/util/Arrays"), (57, .class_ 76), (1, u "java/util/Arrays$NaturalOrder"), (36, .class_ 115), (1, u "java/util/Arrays$LegacyMergeSort"), (1, u "Z"), (257, .class_ 376), (0, u "java/util/Arrays$ArrayList"), (68, u "$assertionsDisabled"), (269, u "MIN_ARRAY_SORT_GRAN"), (0, u "I"), (2, u "INSERTIONSORT_THRESHOLD"), (120, u "fill"), (4, u "([II)V"), (12, u "([Ljava/lang/Object;Ljava/lang/Object;)V"), (116, .class_ 976), (0, u "java/util/Arrays$ArrayItr")] 52

def k21m0 : Method := { name := "<init>", desc := "()V", sig := { parameters := [], returnType := none }, accessFlags := 2, code := none }
def k21c1 : Code := { maxStack := 3, maxLocals := 4, code := jdk_65_method_103_code, exceptionTable := #[], attributes := #[] }
def k21m1 : Method := { name := "fill", desc := "([II)V", sig := { parameters := [(.array .int), .int], returnType := none }, accessFlags := 9, code := some k21c1 }
def k21c2 : Code := { maxStack := 3, maxLocals := 4, code := jdk_65_method_117_code, exceptionTable := #[], attributes := #[] }
def k21m2 : Method := { name := "fill", desc := "([Ljava/lang/Object;Ljava/lang/Object;)V", sig := { parameters := [(.array (.object "java/lang/Object")), (.object "java/lang/Object")], returnType := none }, accessFlags := 9, code := some k21c2 }
/-- java/util/Arrays -/
def k21 : Class := { plain "java/util/Arrays" (some 0) with
  accessFlags := 49
  interfaces := #[]
  cf := some (fileOf pool21 14 #[.nestMembers #[975, 375, 113, 74]] #[{ accessFlags := 2, nameIndex := 5, descriptorIndex := 6, attributes := #[] }, { accessFlags := 9, nameIndex := 840, descriptorIndex := 845, attributes := #[] }, { accessFlags := 9, nameIndex := 840, descriptorIndex := 858, attributes := #[] }] 49 2 #[] #[{ accessFlags := 26, nameIndex := 715, descriptorIndex := 716, attributes := #[] }, { accessFlags := 26, nameIndex := 719, descriptorIndex := 716, attributes := #[] }, { accessFlags := 4120, nameIndex := 445, descriptorIndex := 117, attributes := #[] }])
  fields := #[{ name := "MIN_ARRAY_SORT_GRAN", type := .int, accessFlags := 26, slot := 0, constantValue := 0 }, { name := "INSERTIONSORT_THRESHOLD", type := .int, accessFlags := 26, slot := 1, constantValue := 0 }, { name := "$assertionsDisabled", type := .boolean, accessFlags := 4120, slot := 2, constantValue := 0 }]
  methods := #[k21m0, k21m1, k21m2]
  instanceTypes := #[]
  staticTypes := #[.int, .int, .boolean]
  resolved := Array.replicate 1029 none
  statics := none }

def pool22 : Array CpInfo := pool [(16, .class_ 18), (1, u "java/util/Iterator"), (0, u "hasNext"), (0, u "()Z"), (10, .class_ 32), (0, u "java/lang/Object")] 20

def k22m0 : Method := { name := "hasNext", desc := "()Z", sig := { parameters := [], returnType := some .boolean }, accessFlags := 1025, code := none }
/-- java/util/Iterator -/
def k22 : Class := { plain "java/util/Iterator" (some 0) with
  accessFlags := 1537
  interfaces := #[]
  cf := some (fileOf pool22 16 #[] #[{ accessFlags := 1025, nameIndex := 19, descriptorIndex := 20, attributes := #[] }] 1537 31 #[] #[])
  fields := #[]
  methods := #[k22m0]
  instanceTypes := #[]
  staticTypes := #[]
  resolved := Array.replicate 53 none
  statics := none }

def pool23 : Array CpInfo := pool [(1, .fieldref 2 3), (0, .class_ 4), (0, .nameAndType 5 6), (0, u "java/util/ArrayList$Itr"), (0, u "this$0"), (0, u "Ljava/util/ArrayList;"), (0, .methodref 8 9), (0, .class_ 10), (0, .nameAndType 11 12), (0, u "java/lang/Object"), (0, u "<init>"), (0, u "()V"), (0, .fieldref 2 14), (0, .nameAndType 15 16), (0, u "lastRet"), (0, u "I"), (0, .fieldref 18 19), (0, .class_ 20), (0, .nameAndType 21 16), (0, u "java/util/ArrayList"), (0, u "modCount"), (0, .fieldref 2 23), (0, .nameAndType 24 16), (0, u "expectedModCount"), (0, .fieldref 2 26), (0, .nameAndType 27 16), (0, u "cursor"), (0, .fieldref 18 29), (0, .nameAndType 30 16), (0, u "size"), (38, .class_ 70), (0, u "java/util/Iterator"), (0, u "(Ljava/util/ArrayList;)V"), (8, u "hasNext"), (0, u "()Z")] 22

def k23c0 : Code := { maxStack := 2, maxLocals := 2, code := jdk_49_method_1_code, exceptionTable := #[], attributes := #[] }
def k23m0 : Method := { name := "<init>", desc := "(Ljava/util/ArrayList;)V", sig := { parameters := [(.object "java/util/ArrayList")], returnType := none }, accessFlags := 0, code := some k23c0 }
def k23c1 : Code := { maxStack := 2, maxLocals := 1, code := jdk_49_method_2_code, exceptionTable := #[], attributes := #[] }
def k23m1 : Method := { name := "hasNext", desc := "()Z", sig := { parameters := [], returnType := some .boolean }, accessFlags := 1, code := some k23c1 }
/-- java/util/ArrayList$Itr -/
def k23 : Class := { plain "java/util/ArrayList$Itr" (some 0) with
  accessFlags := 32
  interfaces := #[22]
  cf := some (fileOf pool23 2 #[.nestHost 18] #[{ accessFlags := 0, nameIndex := 11, descriptorIndex := 71, attributes := #[] }, { accessFlags := 1, nameIndex := 80, descriptorIndex := 81, attributes := #[] }] 32 8 #[69] #[{ accessFlags := 0, nameIndex := 27, descriptorIndex := 16, attributes := #[] }, { accessFlags := 0, nameIndex := 15, descriptorIndex := 16, attributes := #[] }, { accessFlags := 0, nameIndex := 24, descriptorIndex := 16, attributes := #[] }, { accessFlags := 4112, nameIndex := 5, descriptorIndex := 6, attributes := #[] }])
  fields := #[{ name := "cursor", type := .int, accessFlags := 0, slot := 0, constantValue := 0 }, { name := "lastRet", type := .int, accessFlags := 0, slot := 1, constantValue := 0 }, { name := "expectedModCount", type := .int, accessFlags := 0, slot := 2, constantValue := 0 }, { name := "this$0", type := (.object "java/util/ArrayList"), accessFlags := 4112, slot := 3, constantValue := 0 }]
  methods := #[k23m0, k23m1]
  instanceTypes := #[.int, .int, .int, (.object "java/util/ArrayList")]
  staticTypes := #[]
  resolved := Array.replicate 104 none
  statics := none }

/-- the primitive boolean -/
def k24 : Class := { plain "boolean" none with kind := .primitive 'Z', accessFlags := 0x411 }
/-- [Z -/
def k25 : Class := { plain "[Z" (some 0) with kind := .array 24 .boolean, interfaces := #[10, 11], accessFlags := 1041 }

/-- the primitive byte -/
def k26 : Class := { plain "byte" none with kind := .primitive 'B', accessFlags := 0x411 }
/-- [B -/
def k27 : Class := { plain "[B" (some 0) with kind := .array 26 .byte, interfaces := #[10, 11], accessFlags := 1041 }

/-- the primitive int -/
def k28 : Class := { plain "int" none with kind := .primitive 'I', accessFlags := 0x411 }
/-- [I -/
def k29 : Class := { plain "[I" (some 0) with kind := .array 28 .int, interfaces := #[10, 11], accessFlags := 1041 }

/-- the primitive long -/
def k30 : Class := { plain "long" none with kind := .primitive 'J', accessFlags := 0x411 }
/-- [J -/
def k31 : Class := { plain "[J" (some 0) with kind := .array 30 .long, interfaces := #[10, 11], accessFlags := 1041 }

/-- [Ljava/lang/Object; -/
def k32 : Class := { plain "[Ljava/lang/Object;" (some 0) with kind := .array 0 (.object "java/lang/Object"), interfaces := #[10, 11], accessFlags := 1041 }

/-- [Ljava/math/BigInteger; -/
def k33 : Class := { plain "[Ljava/math/BigInteger;" (some 0) with kind := .array 16 (.object "java/math/BigInteger"), interfaces := #[10, 11], accessFlags := 1041 }

def heap : Heap := #[{ cls := 12, slots := #[.long 0, .int 0, .ref 6, .ref 7], vm := .statics 12 },
  { cls := 16, slots := #[.long 0, .int 0, .int 0, .int 0, .int 0, .int 0, .int 0, .int 0, .int 0, .int 0, .int 0, .int 0, .null, .int 0, .int 0, .null, .int 0, .null, .null, .null, .null, .double 0, .null, .ref 5, .null, .null, .null, .null, .int 0, .null, .null, .null, .null, .null, .long 0, .null, .int 0], vm := .statics 16 },
  { cls := 18, slots := #[.null, .ref 3], vm := .statics 18 },
  { cls := 29, slots := #[], vm := .none },
  { cls := 29, slots := #[.int 1], vm := .none },
  { cls := 16, slots := #[.int 1, .ref 4, .int 0, .int 0, .int 0, .int 0], vm := .none },
  { cls := 32, slots := #[], vm := .none },
  { cls := 32, slots := #[], vm := .none }]
/-- [[I -/
def k34 : Class := { plain "[[I" (some 0) with kind := .array 29 (.array .int), interfaces := #[10, 11], accessFlags := 1041 }
def classes : Array Class := #[k0, k1, k2, k3, k4, k5, k6, k7, k8, k9, k10, k11, k12, k13, k14, k15, k16, k17, k18, k19, k20, k21, k22, k23, k24, k25, k26, k27, k28, k29, k30, k31, k32, k33, k34]
def interned : List (Array UInt16 × Addr) := []
def slotsUsed : Nat := 50
def theMethod : MethodId := ⟨1, 2⟩
def args0 : Array Value := #[.int 5, .int 7, .int 9, .int 11]
def aboutOver (below : List Frame) : State where
  vm := { classes := classes, interned := interned.toArray }
  heap := heap
  slotsUsed := slotsUsed
  threads := #[{ frames := .invoking theMethod args0 :: below }]
def below0 : List Frame := [.native { method := ⟨0, 0⟩, args := #[] }]
def about1 : State := aboutOver below0
def p0 : Program := .bare "" "" ""
def e0 : Env := launch0.env 0 0 0
theorem w_frames : about1.frames = Frame.invoking theMethod args0 :: below0 := rfl
set_option maxRecDepth 65536 in
theorem w_args : argsFit about1.vm theMethod args0 = true := by decide +kernel
set_option maxRecDepth 65536 in
theorem w_heap : heapFits about1 = true := by decide +kernel
set_option maxRecDepth 65536 in
theorem w_runnable : about1.curStatus? = some .runnable := by decide +kernel
set_option maxRecDepth 65536 in
theorem w_alone : about1.alone = true := by decide +kernel
set_option maxRecDepth 65536 in
theorem w_named : about1.methodNamed? x = some theMethod := by decide +kernel
set_option maxRecDepth 65536 in
theorem w_hears : about1.hears theMethod below0 = true := by decide +kernel
set_option maxRecDepth 65536 in
theorem w_ripe : about1.ripe theMethod args0 below0 = true := by decide +kernel
theorem w_running : about1.status = .running := rfl
set_option maxRecDepth 65536 in
theorem w_room : about1.hasRoom e0.platform room_1 = true :=
  launch0.hasRoom_least _ room_1 (by decide +kernel) (by decide +kernel) (by decide +kernel) (by decide +kernel) (by decide +kernel) (by decide +kernel)
theorem allAtoms_all (ts : List Jvm.Cond) (a : Array Jvm.Value) (st : Jvm.State) : (allAtoms ts).before a st = ts.all (fun c => c.before a st) := by
  induction ts with
  | nil => rfl
  | cons c t ih =>
    show (Jvm.Cond.and c (allAtoms t)).before a st = _
    rw [Jvm.Cond.before_and, ih, List.all_cons]
def words1 : List Jvm.Cond := Jvm.Cond.code x code maxLocals ret :: tables_1
/-- a 'code' word, met by the world's own term for the bytes: nothing is compared byte by byte -/
theorem code_word {y : MethodName} {bytes : ByteArray} {mx : Nat} {rt : Option FieldType} {a : Array Value} {s : State} {m : MethodId} {meth : Method} {c : Code} (h1 : s.methodNamed? y = some m) (h2 : s.vm.method? m = some meth) (h3 : meth.code = some c) (h4 : c.code = bytes)
    (h5 : (c.maxLocals == mx && c.exceptionTable.isEmpty && decide (c.maxStack ≤ mostOperands) && decide (meth.sig.returnType = rt) && !meth.locks && decide (parseMethodDescriptor y.desc = some meth.sig)) = true) : (Jvm.Cond.code y bytes mx rt).before a s = true := by
  simp only [Bool.and_eq_true, beq_iff_eq, Bool.not_eq_true', decide_eq_true_eq] at h5
  obtain ⟨⟨⟨⟨⟨g1, g2⟩, g3⟩, g4⟩, g5⟩, g6⟩ := h5
  simp [Cond.before, Cond.holds, Cond.value, h1, h2, h3, h4, g1, g2, g3, g4, g5, g6]
def isCode : Jvm.Cond → Bool
  | .code _ _ _ _ => true
  | _ => false
theorem all_split {L : List Jvm.Cond} {P : Jvm.Cond → Bool} (h1 : L.all (fun c => isCode c || P c) = true) (h2 : ∀ c ∈ L.filter isCode, P c = true) : L.all P = true := by
  refine List.all_eq_true.mpr fun c hc => ?_
  have h := List.all_eq_true.mp h1 c hc
  rcases Bool.eq_false_or_eq_true (isCode c) with hi | hi
  · exact h2 c (List.mem_filter.mpr ⟨hc, hi⟩)
  · simpa [hi] using h
set_option maxRecDepth 65536 in
theorem w_c0 : (Jvm.Cond.code x code maxLocals ret).before args0 about1 = true := code_word (m := ⟨1, 2⟩) (meth := k1m2) (c := k1c2) (by decide +kernel) rfl rfl rfl (by decide +kernel)
set_option maxRecDepth 65536 in
theorem w_c1 : (Jvm.Cond.code ({ cls := "com/example/variegate/variegate/service/Cnf", name := "<init>", desc := "()V" } : Jvm.MethodName) prog_73_method_1_code (1 : Nat) (Option.none : Option Jvm.ClassFile.FieldType)).before args0 about1 = true := code_word (m := ⟨2, 0⟩) (meth := k2m0) (c := k2c0) (by decide +kernel) rfl rfl rfl (by decide +kernel)
set_option maxRecDepth 65536 in
theorem w_c2 : (Jvm.Cond.code ({ cls := "java/lang/Object", name := "<init>", desc := "()V" } : Jvm.MethodName) object_method_1_code (1 : Nat) (Option.none : Option Jvm.ClassFile.FieldType)).before args0 about1 = true := code_word (m := ⟨0, 0⟩) (meth := k0m0) (c := k0c0) (by decide +kernel) rfl rfl rfl (by decide +kernel)
set_option maxRecDepth 65536 in
theorem w_c3 : (Jvm.Cond.code ({ cls := "java/util/ArrayList", name := "<init>", desc := "()V" } : Jvm.MethodName) jdk_38_method_2_code (1 : Nat) (Option.none : Option Jvm.ClassFile.FieldType)).before args0 about1 = true := code_word (m := ⟨12, 0⟩) (meth := k12m0) (c := k12c0) (by decide +kernel) rfl rfl rfl (by decide +kernel)
set_option maxRecDepth 65536 in
theorem w_c4 : (Jvm.Cond.code ({ cls := "java/util/AbstractList", name := "<init>", desc := "()V" } : Jvm.MethodName) jdk_39_method_1_code (1 : Nat) (Option.none : Option Jvm.ClassFile.FieldType)).before args0 about1 = true := code_word (m := ⟨8, 0⟩) (meth := k8m0) (c := k8c0) (by decide +kernel) rfl rfl rfl (by decide +kernel)
set_option maxRecDepth 65536 in
theorem w_c5 : (Jvm.Cond.code ({ cls := "java/util/AbstractCollection", name := "<init>", desc := "()V" } : Jvm.MethodName) jdk_22_method_1_code (1 : Nat) (Option.none : Option Jvm.ClassFile.FieldType)).before args0 about1 = true := code_word (m := ⟨5, 0⟩) (meth := k5m0) (c := k5c0) (by decide +kernel) rfl rfl rfl (by decide +kernel)
set_option maxRecDepth 65536 in
theorem w_c6 : (Jvm.Cond.code ({ cls := "java/util/BitSet", name := "<init>", desc := "()V" } : Jvm.MethodName) jdk_92_method_4_code (1 : Nat) (Option.none : Option Jvm.ClassFile.FieldType)).before args0 about1 = true := code_word (m := ⟨13, 1⟩) (meth := k13m1) (c := k13c1) (by decide +kernel) rfl rfl rfl (by decide +kernel)
set_option maxRecDepth 65536 in
theorem w_c7 : (Jvm.Cond.code ({ cls := "java/util/BitSet", name := "initWords", desc := "(I)V" } : Jvm.MethodName) jdk_92_method_6_code (2 : Nat) (Option.none : Option Jvm.ClassFile.FieldType)).before args0 about1 = true := code_word (m := ⟨13, 2⟩) (meth := k13m2) (c := k13c2) (by decide +kernel) rfl rfl rfl (by decide +kernel)
set_option maxRecDepth 65536 in
theorem w_c8 : (Jvm.Cond.code ({ cls := "java/util/BitSet", name := "wordIndex", desc := "(I)I" } : Jvm.MethodName) jdk_92_method_1_code (1 : Nat) (Option.some Jvm.ClassFile.FieldType.int)).before args0 about1 = true := code_word (m := ⟨13, 0⟩) (meth := k13m0) (c := k13c0) (by decide +kernel) rfl rfl rfl (by decide +kernel)
set_option maxRecDepth 65536 in
theorem w_c9 : (Jvm.Cond.code ({ cls := "com/example/variegate/variegate/service/Cnf", name := "newVariable", desc := "()I" } : Jvm.MethodName) prog_73_method_2_code (1 : Nat) (Option.some Jvm.ClassFile.FieldType.int)).before args0 about1 = true := code_word (m := ⟨2, 1⟩) (meth := k2m1) (c := k2c1) (by decide +kernel) rfl rfl rfl (by decide +kernel)
set_option maxRecDepth 65536 in
theorem w_c10 : (Jvm.Cond.code ({ cls := "java/util/ArrayList", name := "add", desc := "(Ljava/lang/Object;)Z" } : Jvm.MethodName) jdk_38_method_25_code (2 : Nat) (Option.some Jvm.ClassFile.FieldType.boolean)).before args0 about1 = true := code_word (m := ⟨12, 7⟩) (meth := k12m7) (c := k12c7) (by decide +kernel) rfl rfl rfl (by decide +kernel)
set_option maxRecDepth 65536 in
theorem w_c11 : (Jvm.Cond.code ({ cls := "java/util/ArrayList", name := "add", desc := "(Ljava/lang/Object;[Ljava/lang/Object;I)V" } : Jvm.MethodName) jdk_38_method_24_code (4 : Nat) (Option.none : Option Jvm.ClassFile.FieldType)).before args0 about1 = true := code_word (m := ⟨12, 6⟩) (meth := k12m6) (c := k12c6) (by decide +kernel) rfl rfl rfl (by decide +kernel)
set_option maxRecDepth 65536 in
theorem w_c12 : (Jvm.Cond.code ({ cls := "java/util/ArrayList", name := "grow", desc := "()[Ljava/lang/Object;" } : Jvm.MethodName) jdk_38_method_7_code (1 : Nat) (Option.some (Jvm.ClassFile.FieldType.array (Jvm.ClassFile.FieldType.object "java/lang/Object")))).before args0 about1 = true := code_word (m := ⟨12, 2⟩) (meth := k12m2) (c := k12c2) (by decide +kernel) rfl rfl rfl (by decide +kernel)
set_option maxRecDepth 65536 in
theorem w_c13 : (Jvm.Cond.code ({ cls := "java/util/ArrayList", name := "grow", desc := "(I)[Ljava/lang/Object;" } : Jvm.MethodName) jdk_38_method_6_code (4 : Nat) (Option.some (Jvm.ClassFile.FieldType.array (Jvm.ClassFile.FieldType.object "java/lang/Object")))).before args0 about1 = true := code_word (m := ⟨12, 1⟩) (meth := k12m1) (c := k12c1) (by decide +kernel) rfl rfl rfl (by decide +kernel)
set_option maxRecDepth 65536 in
theorem w_c14 : (Jvm.Cond.code ({ cls := "java/lang/Math", name := "max", desc := "(II)I" } : Jvm.MethodName) jdk_29_method_65_code (2 : Nat) (Option.some Jvm.ClassFile.FieldType.int)).before args0 about1 = true := code_word (m := ⟨17, 1⟩) (meth := k17m1) (c := k17c1) (by decide +kernel) rfl rfl rfl (by decide +kernel)
set_option maxRecDepth 65536 in
theorem w_c15 : (Jvm.Cond.code ({ cls := "java/util/ArrayList", name := "size", desc := "()I" } : Jvm.MethodName) jdk_38_method_8_code (1 : Nat) (Option.some Jvm.ClassFile.FieldType.int)).before args0 about1 = true := code_word (m := ⟨12, 3⟩) (meth := k12m3) (c := k12c3) (by decide +kernel) rfl rfl rfl (by decide +kernel)
set_option maxRecDepth 65536 in
theorem w_c16 : (Jvm.Cond.code ({ cls := "com/example/variegate/variegate/service/Propagation", name := "<init>", desc := "(Lcom/example/variegate/variegate/service/Cnf;)V" } : Jvm.MethodName) prog_97_method_1_code (15 : Nat) (Option.none : Option Jvm.ClassFile.FieldType)).before args0 about1 = true := code_word (m := ⟨18, 0⟩) (meth := k18m0) (c := k18c0) (by decide +kernel) rfl rfl rfl (by decide +kernel)
set_option maxRecDepth 65536 in
theorem w_c17 : (Jvm.Cond.code ({ cls := "com/example/variegate/variegate/service/Cnf", name := "variables", desc := "()I" } : Jvm.MethodName) prog_73_method_8_code (1 : Nat) (Option.some Jvm.ClassFile.FieldType.int)).before args0 about1 = true := code_word (m := ⟨2, 2⟩) (meth := k2m2) (c := k2c2) (by decide +kernel) rfl rfl rfl (by decide +kernel)
set_option maxRecDepth 65536 in
theorem w_c18 : (Jvm.Cond.code ({ cls := "com/example/variegate/variegate/service/Cnf", name := "weight", desc := "(I)Ljava/math/BigInteger;" } : Jvm.MethodName) prog_73_method_10_code (2 : Nat) (Option.some (Jvm.ClassFile.FieldType.object "java/math/BigInteger"))).before args0 about1 = true := code_word (m := ⟨2, 4⟩) (meth := k2m4) (c := k2c4) (by decide +kernel) rfl rfl rfl (by decide +kernel)
set_option maxRecDepth 65536 in
theorem w_c19 : (Jvm.Cond.code ({ cls := "java/util/ArrayList", name := "get", desc := "(I)Ljava/lang/Object;" } : Jvm.MethodName) jdk_38_method_20_code (2 : Nat) (Option.some (Jvm.ClassFile.FieldType.object "java/lang/Object"))).before args0 about1 = true := code_word (m := ⟨12, 5⟩) (meth := k12m5) (c := k12c5) (by decide +kernel) rfl rfl rfl (by decide +kernel)
set_option maxRecDepth 65536 in
theorem w_c20 : (Jvm.Cond.code ({ cls := "java/util/Objects", name := "checkIndex", desc := "(II)I" } : Jvm.MethodName) jdk_31_method_17_code (2 : Nat) (Option.some Jvm.ClassFile.FieldType.int)).before args0 about1 = true := code_word (m := ⟨19, 1⟩) (meth := k19m1) (c := k19c1) (by decide +kernel) rfl rfl rfl (by decide +kernel)
set_option maxRecDepth 65536 in
theorem w_c21 : (Jvm.Cond.code ({ cls := "jdk/internal/util/Preconditions", name := "checkIndex", desc := "(IILjava/util/function/BiFunction;)I" } : Jvm.MethodName) jdk_41_method_11_code (3 : Nat) (Option.some Jvm.ClassFile.FieldType.int)).before args0 about1 = true := code_word (m := ⟨20, 1⟩) (meth := k20m1) (c := k20c1) (by decide +kernel) rfl rfl rfl (by decide +kernel)
set_option maxRecDepth 65536 in
theorem w_c22 : (Jvm.Cond.code ({ cls := "java/util/ArrayList", name := "elementData", desc := "(I)Ljava/lang/Object;" } : Jvm.MethodName) jdk_38_method_18_code (2 : Nat) (Option.some (Jvm.ClassFile.FieldType.object "java/lang/Object"))).before args0 about1 = true := code_word (m := ⟨12, 4⟩) (meth := k12m4) (c := k12c4) (by decide +kernel) rfl rfl rfl (by decide +kernel)
set_option maxRecDepth 65536 in
theorem w_c23 : (Jvm.Cond.code ({ cls := "com/example/variegate/variegate/service/Cnf", name := "clauses", desc := "()Ljava/util/List;" } : Jvm.MethodName) prog_73_method_9_code (1 : Nat) (Option.some (Jvm.ClassFile.FieldType.object "java/util/List"))).before args0 about1 = true := code_word (m := ⟨2, 3⟩) (meth := k2m3) (c := k2c3) (by decide +kernel) rfl rfl rfl (by decide +kernel)
set_option maxRecDepth 65536 in
theorem w_c24 : (Jvm.Cond.code ({ cls := "java/util/Arrays", name := "fill", desc := "([II)V" } : Jvm.MethodName) jdk_65_method_103_code (4 : Nat) (Option.none : Option Jvm.ClassFile.FieldType)).before args0 about1 = true := code_word (m := ⟨21, 1⟩) (meth := k21m1) (c := k21c1) (by decide +kernel) rfl rfl rfl (by decide +kernel)
set_option maxRecDepth 65536 in
theorem w_c25 : (Jvm.Cond.code ({ cls := "java/util/ArrayList", name := "iterator", desc := "()Ljava/util/Iterator;" } : Jvm.MethodName) jdk_38_method_55_code (1 : Nat) (Option.some (Jvm.ClassFile.FieldType.object "java/util/Iterator"))).before args0 about1 = true := code_word (m := ⟨12, 8⟩) (meth := k12m8) (c := k12c8) (by decide +kernel) rfl rfl rfl (by decide +kernel)
set_option maxRecDepth 65536 in
theorem w_c26 : (Jvm.Cond.code ({ cls := "java/util/ArrayList$Itr", name := "<init>", desc := "(Ljava/util/ArrayList;)V" } : Jvm.MethodName) jdk_49_method_1_code (2 : Nat) (Option.none : Option Jvm.ClassFile.FieldType)).before args0 about1 = true := code_word (m := ⟨23, 0⟩) (meth := k23m0) (c := k23c0) (by decide +kernel) rfl rfl rfl (by decide +kernel)
set_option maxRecDepth 65536 in
theorem w_c27 : (Jvm.Cond.code ({ cls := "java/util/ArrayList$Itr", name := "hasNext", desc := "()Z" } : Jvm.MethodName) jdk_49_method_2_code (1 : Nat) (Option.some Jvm.ClassFile.FieldType.boolean)).before args0 about1 = true := code_word (m := ⟨23, 1⟩) (meth := k23m1) (c := k23c1) (by decide +kernel) rfl rfl rfl (by decide +kernel)
set_option maxRecDepth 65536 in
theorem w_c28 : (Jvm.Cond.code ({ cls := "java/util/Arrays", name := "fill", desc := "([Ljava/lang/Object;Ljava/lang/Object;)V" } : Jvm.MethodName) jdk_65_method_117_code (4 : Nat) (Option.none : Option Jvm.ClassFile.FieldType)).before args0 about1 = true := code_word (m := ⟨21, 2⟩) (meth := k21m2) (c := k21c2) (by decide +kernel) rfl rfl rfl (by decide +kernel)
set_option maxRecDepth 65536 in
theorem w_c29 : (Jvm.Cond.code ({ cls := "java/math/BigInteger", name := "signum", desc := "()I" } : Jvm.MethodName) jdk_2097_method_81_code (1 : Nat) (Option.some Jvm.ClassFile.FieldType.int)).before args0 about1 = true := code_word (m := ⟨16, 0⟩) (meth := k16m0) (c := k16c0) (by decide +kernel) rfl rfl rfl (by decide +kernel)
set_option maxRecDepth 65536 in
theorem w_c30 : (Jvm.Cond.code ({ cls := "com/example/variegate/variegate/service/Propagation", name := "backtrack", desc := "(I)V" } : Jvm.MethodName) prog_97_method_11_code (3 : Nat) (Option.none : Option Jvm.ClassFile.FieldType)).before args0 about1 = true := code_word (m := ⟨18, 3⟩) (meth := k18m3) (c := k18c3) (by decide +kernel) rfl rfl rfl (by decide +kernel)
set_option maxRecDepth 65536 in
theorem w_c31 : (Jvm.Cond.code ({ cls := "java/lang/Math", name := "min", desc := "(II)I" } : Jvm.MethodName) jdk_29_method_69_code (2 : Nat) (Option.some Jvm.ClassFile.FieldType.int)).before args0 about1 = true := code_word (m := ⟨17, 2⟩) (meth := k17m2) (c := k17c2) (by decide +kernel) rfl rfl rfl (by decide +kernel)
set_option maxRecDepth 65536 in
theorem w_c32 : (Jvm.Cond.code ({ cls := "com/example/variegate/variegate/service/Propagation", name := "trailSize", desc := "()I" } : Jvm.MethodName) prog_97_method_6_code (1 : Nat) (Option.some Jvm.ClassFile.FieldType.int)).before args0 about1 = true := code_word (m := ⟨18, 1⟩) (meth := k18m1) (c := k18c1) (by decide +kernel) rfl rfl rfl (by decide +kernel)
set_option maxRecDepth 65536 in
theorem w_c33 : (Jvm.Cond.code ({ cls := "com/example/variegate/variegate/service/PropagationBacktrackPinLaw", name := "check", desc := "(Lcom/example/variegate/variegate/service/Propagation;IZ)Z" } : Jvm.MethodName) method_2_code (5 : Nat) (Option.some Jvm.ClassFile.FieldType.boolean)).before args0 about1 = true := code_word (m := ⟨1, 1⟩) (meth := k1m1) (c := k1c1) (by decide +kernel) rfl rfl rfl (by decide +kernel)
set_option maxRecDepth 65536 in
theorem w_c34 : (Jvm.Cond.code ({ cls := "com/example/variegate/variegate/service/Propagation", name := "assign", desc := "(I)V" } : Jvm.MethodName) prog_97_method_10_code (2 : Nat) (Option.none : Option Jvm.ClassFile.FieldType)).before args0 about1 = true := code_word (m := ⟨18, 2⟩) (meth := k18m2) (c := k18c2) (by decide +kernel) rfl rfl rfl (by decide +kernel)
def codes1 : List Jvm.Cond := [Jvm.Cond.code x code maxLocals ret, Jvm.Cond.code ({ cls := "com/example/variegate/variegate/service/Cnf", name := "<init>", desc := "()V" } : Jvm.MethodName) prog_73_method_1_code (1 : Nat) (Option.none : Option Jvm.ClassFile.FieldType), Jvm.Cond.code ({ cls := "java/lang/Object", name := "<init>", desc := "()V" } : Jvm.MethodName) object_method_1_code (1 : Nat) (Option.none : Option Jvm.ClassFile.FieldType), Jvm.Cond.code ({ cls := "java/util/ArrayList", name := "<init>", desc := "()V" } : Jvm.MethodName) jdk_38_method_2_code (1 : Nat) (Option.none : Option Jvm.ClassFile.FieldType), Jvm.Cond.code ({ cls := "java/util/AbstractList", name := "<init>", desc := "()V" } : Jvm.MethodName) jdk_39_method_1_code (1 : Nat) (Option.none : Option Jvm.ClassFile.FieldType), Jvm.Cond.code ({ cls := "java/util/AbstractCollection", name := "<init>", desc := "()V" } : Jvm.MethodName) jdk_22_method_1_code (1 : Nat) (Option.none : Option Jvm.ClassFile.FieldType), Jvm.Cond.code ({ cls := "java/util/BitSet", name := "<init>", desc := "()V" } : Jvm.MethodName) jdk_92_method_4_code (1 : Nat) (Option.none : Option Jvm.ClassFile.FieldType), Jvm.Cond.code ({ cls := "java/util/BitSet", name := "initWords", desc := "(I)V" } : Jvm.MethodName) jdk_92_method_6_code (2 : Nat) (Option.none : Option Jvm.ClassFile.FieldType), Jvm.Cond.code ({ cls := "java/util/BitSet", name := "wordIndex", desc := "(I)I" } : Jvm.MethodName) jdk_92_method_1_code (1 : Nat) (Option.some Jvm.ClassFile.FieldType.int), Jvm.Cond.code ({ cls := "com/example/variegate/variegate/service/Cnf", name := "newVariable", desc := "()I" } : Jvm.MethodName) prog_73_method_2_code (1 : Nat) (Option.some Jvm.ClassFile.FieldType.int), Jvm.Cond.code ({ cls := "java/util/ArrayList", name := "add", desc := "(Ljava/lang/Object;)Z" } : Jvm.MethodName) jdk_38_method_25_code (2 : Nat) (Option.some Jvm.ClassFile.FieldType.boolean), Jvm.Cond.code ({ cls := "java/util/ArrayList", name := "add", desc := "(Ljava/lang/Object;[Ljava/lang/Object;I)V" } : Jvm.MethodName) jdk_38_method_24_code (4 : Nat) (Option.none : Option Jvm.ClassFile.FieldType), Jvm.Cond.code ({ cls := "java/util/ArrayList", name := "grow", desc := "()[Ljava/lang/Object;" } : Jvm.MethodName) jdk_38_method_7_code (1 : Nat) (Option.some (Jvm.ClassFile.FieldType.array (Jvm.ClassFile.FieldType.object "java/lang/Object"))), Jvm.Cond.code ({ cls := "java/util/ArrayList", name := "grow", desc := "(I)[Ljava/lang/Object;" } : Jvm.MethodName) jdk_38_method_6_code (4 : Nat) (Option.some (Jvm.ClassFile.FieldType.array (Jvm.ClassFile.FieldType.object "java/lang/Object"))), Jvm.Cond.code ({ cls := "java/lang/Math", name := "max", desc := "(II)I" } : Jvm.MethodName) jdk_29_method_65_code (2 : Nat) (Option.some Jvm.ClassFile.FieldType.int), Jvm.Cond.code ({ cls := "java/util/ArrayList", name := "size", desc := "()I" } : Jvm.MethodName) jdk_38_method_8_code (1 : Nat) (Option.some Jvm.ClassFile.FieldType.int), Jvm.Cond.code ({ cls := "com/example/variegate/variegate/service/Propagation", name := "<init>", desc := "(Lcom/example/variegate/variegate/service/Cnf;)V" } : Jvm.MethodName) prog_97_method_1_code (15 : Nat) (Option.none : Option Jvm.ClassFile.FieldType), Jvm.Cond.code ({ cls := "com/example/variegate/variegate/service/Cnf", name := "variables", desc := "()I" } : Jvm.MethodName) prog_73_method_8_code (1 : Nat) (Option.some Jvm.ClassFile.FieldType.int), Jvm.Cond.code ({ cls := "com/example/variegate/variegate/service/Cnf", name := "weight", desc := "(I)Ljava/math/BigInteger;" } : Jvm.MethodName) prog_73_method_10_code (2 : Nat) (Option.some (Jvm.ClassFile.FieldType.object "java/math/BigInteger")), Jvm.Cond.code ({ cls := "java/util/ArrayList", name := "get", desc := "(I)Ljava/lang/Object;" } : Jvm.MethodName) jdk_38_method_20_code (2 : Nat) (Option.some (Jvm.ClassFile.FieldType.object "java/lang/Object")), Jvm.Cond.code ({ cls := "java/util/Objects", name := "checkIndex", desc := "(II)I" } : Jvm.MethodName) jdk_31_method_17_code (2 : Nat) (Option.some Jvm.ClassFile.FieldType.int), Jvm.Cond.code ({ cls := "jdk/internal/util/Preconditions", name := "checkIndex", desc := "(IILjava/util/function/BiFunction;)I" } : Jvm.MethodName) jdk_41_method_11_code (3 : Nat) (Option.some Jvm.ClassFile.FieldType.int), Jvm.Cond.code ({ cls := "java/util/ArrayList", name := "elementData", desc := "(I)Ljava/lang/Object;" } : Jvm.MethodName) jdk_38_method_18_code (2 : Nat) (Option.some (Jvm.ClassFile.FieldType.object "java/lang/Object")), Jvm.Cond.code ({ cls := "com/example/variegate/variegate/service/Cnf", name := "clauses", desc := "()Ljava/util/List;" } : Jvm.MethodName) prog_73_method_9_code (1 : Nat) (Option.some (Jvm.ClassFile.FieldType.object "java/util/List")), Jvm.Cond.code ({ cls := "java/util/Arrays", name := "fill", desc := "([II)V" } : Jvm.MethodName) jdk_65_method_103_code (4 : Nat) (Option.none : Option Jvm.ClassFile.FieldType), Jvm.Cond.code ({ cls := "java/util/ArrayList", name := "iterator", desc := "()Ljava/util/Iterator;" } : Jvm.MethodName) jdk_38_method_55_code (1 : Nat) (Option.some (Jvm.ClassFile.FieldType.object "java/util/Iterator")), Jvm.Cond.code ({ cls := "java/util/ArrayList$Itr", name := "<init>", desc := "(Ljava/util/ArrayList;)V" } : Jvm.MethodName) jdk_49_method_1_code (2 : Nat) (Option.none : Option Jvm.ClassFile.FieldType), Jvm.Cond.code ({ cls := "java/util/ArrayList$Itr", name := "hasNext", desc := "()Z" } : Jvm.MethodName) jdk_49_method_2_code (1 : Nat) (Option.some Jvm.ClassFile.FieldType.boolean), Jvm.Cond.code ({ cls := "java/util/Arrays", name := "fill", desc := "([Ljava/lang/Object;Ljava/lang/Object;)V" } : Jvm.MethodName) jdk_65_method_117_code (4 : Nat) (Option.none : Option Jvm.ClassFile.FieldType), Jvm.Cond.code ({ cls := "java/math/BigInteger", name := "signum", desc := "()I" } : Jvm.MethodName) jdk_2097_method_81_code (1 : Nat) (Option.some Jvm.ClassFile.FieldType.int), Jvm.Cond.code ({ cls := "com/example/variegate/variegate/service/Propagation", name := "backtrack", desc := "(I)V" } : Jvm.MethodName) prog_97_method_11_code (3 : Nat) (Option.none : Option Jvm.ClassFile.FieldType), Jvm.Cond.code ({ cls := "java/lang/Math", name := "min", desc := "(II)I" } : Jvm.MethodName) jdk_29_method_69_code (2 : Nat) (Option.some Jvm.ClassFile.FieldType.int), Jvm.Cond.code ({ cls := "com/example/variegate/variegate/service/Propagation", name := "trailSize", desc := "()I" } : Jvm.MethodName) prog_97_method_6_code (1 : Nat) (Option.some Jvm.ClassFile.FieldType.int), Jvm.Cond.code ({ cls := "com/example/variegate/variegate/service/PropagationBacktrackPinLaw", name := "check", desc := "(Lcom/example/variegate/variegate/service/Propagation;IZ)Z" } : Jvm.MethodName) method_2_code (5 : Nat) (Option.some Jvm.ClassFile.FieldType.boolean), Jvm.Cond.code ({ cls := "com/example/variegate/variegate/service/Propagation", name := "assign", desc := "(I)V" } : Jvm.MethodName) prog_97_method_10_code (2 : Nat) (Option.none : Option Jvm.ClassFile.FieldType)]
set_option maxRecDepth 65536 in
theorem codes_eq : words1.filter isCode = codes1 := rfl
theorem w_codes : ∀ c ∈ words1.filter isCode, c.before args0 about1 = true := by
  rw [codes_eq]
  intro c hc
  simp only [codes1, List.mem_cons, List.not_mem_nil, or_false] at hc
  rcases hc with rfl | rfl | rfl | rfl | rfl | rfl | rfl | rfl | rfl | rfl | rfl | rfl | rfl | rfl | rfl | rfl | rfl | rfl | rfl | rfl | rfl | rfl | rfl | rfl | rfl | rfl | rfl | rfl | rfl | rfl | rfl | rfl | rfl | rfl | rfl
  · exact w_c0
  · exact w_c1
  · exact w_c2
  · exact w_c3
  · exact w_c4
  · exact w_c5
  · exact w_c6
  · exact w_c7
  · exact w_c8
  · exact w_c9
  · exact w_c10
  · exact w_c11
  · exact w_c12
  · exact w_c13
  · exact w_c14
  · exact w_c15
  · exact w_c16
  · exact w_c17
  · exact w_c18
  · exact w_c19
  · exact w_c20
  · exact w_c21
  · exact w_c22
  · exact w_c23
  · exact w_c24
  · exact w_c25
  · exact w_c26
  · exact w_c27
  · exact w_c28
  · exact w_c29
  · exact w_c30
  · exact w_c31
  · exact w_c32
  · exact w_c33
  · exact w_c34
set_option maxRecDepth 65536 in
theorem w_t1 : (words1.take 24).all (fun c => isCode c || c.before args0 about1) = true := by decide +kernel
set_option maxRecDepth 65536 in
theorem w_t2 : ((words1.drop 24).take 24).all (fun c => isCode c || c.before args0 about1) = true := by decide +kernel
set_option maxRecDepth 65536 in
theorem w_t3 : (((words1.drop 24).drop 24).take 24).all (fun c => isCode c || c.before args0 about1) = true := by decide +kernel
set_option maxRecDepth 65536 in
theorem w_t4 : ((((words1.drop 24).drop 24).drop 24).take 24).all (fun c => isCode c || c.before args0 about1) = true := by decide +kernel
set_option maxRecDepth 65536 in
theorem w_t5 : (((((words1.drop 24).drop 24).drop 24).drop 24).take 24).all (fun c => isCode c || c.before args0 about1) = true := by decide +kernel
set_option maxRecDepth 65536 in
theorem w_t6 : ((((((words1.drop 24).drop 24).drop 24).drop 24).drop 24).take 24).all (fun c => isCode c || c.before args0 about1) = true := by decide +kernel
set_option maxRecDepth 65536 in
theorem w_t7 : (((((((words1.drop 24).drop 24).drop 24).drop 24).drop 24).drop 24).take 24).all (fun c => isCode c || c.before args0 about1) = true := by decide +kernel
set_option maxRecDepth 65536 in
theorem w_t8 : ((((((((words1.drop 24).drop 24).drop 24).drop 24).drop 24).drop 24).drop 24).take 24).all (fun c => isCode c || c.before args0 about1) = true := by decide +kernel
set_option maxRecDepth 65536 in
theorem w_t9 : (((((((((words1.drop 24).drop 24).drop 24).drop 24).drop 24).drop 24).drop 24).drop 24).take 24).all (fun c => isCode c || c.before args0 about1) = true := by decide +kernel
set_option maxRecDepth 65536 in
theorem w_t10 : ((((((((((words1.drop 24).drop 24).drop 24).drop 24).drop 24).drop 24).drop 24).drop 24).drop 24).take 24).all (fun c => isCode c || c.before args0 about1) = true := by decide +kernel
set_option maxRecDepth 65536 in
theorem w_t11 : (((((((((((words1.drop 24).drop 24).drop 24).drop 24).drop 24).drop 24).drop 24).drop 24).drop 24).drop 24).take 24).all (fun c => isCode c || c.before args0 about1) = true := by decide +kernel
set_option maxRecDepth 65536 in
theorem w_t12 : (((((((((((words1.drop 24).drop 24).drop 24).drop 24).drop 24).drop 24).drop 24).drop 24).drop 24).drop 24).drop 24).all (fun c => isCode c || c.before args0 about1) = true := by decide +kernel
theorem w_tables : (allAtoms (Jvm.Cond.code x code maxLocals ret :: tables_1)).before args0 about1 = true := by
  rw [allAtoms_all]
  show words1.all (fun c => c.before args0 about1) = true
  refine all_split ?_ w_codes
  rw [← List.take_append_drop 24 words1, List.all_append, w_t1, ← List.take_append_drop 24 (words1.drop 24), List.all_append, w_t2, ← List.take_append_drop 24 ((words1.drop 24).drop 24), List.all_append, w_t3, ← List.take_append_drop 24 (((words1.drop 24).drop 24).drop 24), List.all_append, w_t4, ← List.take_append_drop 24 ((((words1.drop 24).drop 24).drop 24).drop 24), List.all_append, w_t5, ← List.take_append_drop 24 (((((words1.drop 24).drop 24).drop 24).drop 24).drop 24), List.all_append, w_t6, ← List.take_append_drop 24 ((((((words1.drop 24).drop 24).drop 24).drop 24).drop 24).drop 24), List.all_append, w_t7, ← List.take_append_drop 24 (((((((words1.drop 24).drop 24).drop 24).drop 24).drop 24).drop 24).drop 24), List.all_append, w_t8, ← List.take_append_drop 24 ((((((((words1.drop 24).drop 24).drop 24).drop 24).drop 24).drop 24).drop 24).drop 24), List.all_append, w_t9, ← List.take_append_drop 24 (((((((((words1.drop 24).drop 24).drop 24).drop 24).drop 24).drop 24).drop 24).drop 24).drop 24), List.all_append, w_t10, ← List.take_append_drop 24 ((((((((((words1.drop 24).drop 24).drop 24).drop 24).drop 24).drop 24).drop 24).drop 24).drop 24).drop 24), List.all_append, w_t11, w_t12]
  rfl
set_option maxRecDepth 65536 in
theorem w_rest : rest_1_c.before args0 about1 = true := by decide +kernel
set_option maxRecDepth 65536 in
theorem w_case : (Jvm.Cond.and given_1 narrow_1).before args0 about1 = true := by decide +kernel
theorem w_applies : (headSpec (Jvm.Cond.code x code maxLocals ret :: tables_1) room_1).applies x e0.platform about1 = true :=
  (Spec.applies_iff w_frames).mpr ⟨w_running, w_runnable, w_alone, w_named, w_hears, w_ripe, w_room, w_tables⟩
theorem atStart : AtStart classFile x code maxLocals ret World_1 tables_1 room_1 Calls_1 rest_1 Pre_1 launch0 p0 e0 about1 theMethod args0 below0 :=
  ⟨lists_1, trivial, launch0.admits_env _ _ _, launch0.least_env, fairChoices_fair.cas, fairChoices_fair.clock, w_frames, w_args, w_heap, w_applies, trivial, w_rest, w_case⟩
end start1
theorem witness_1 : WitnessClaimed_1 := ⟨start1.p0, start1.e0, start1.about1, start1.theMethod, start1.args0, start1.below0, start1.atStart⟩
end Jvm.Pilot.@@N@@
